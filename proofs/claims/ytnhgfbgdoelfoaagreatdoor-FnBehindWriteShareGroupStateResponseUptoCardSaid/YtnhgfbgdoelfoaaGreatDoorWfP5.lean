/- FnBehindWriteShareGroupStateResponse: the statement: of every version, every slice of octets and every tree of the bulk that the statement speaks of the law returns true, and leaves its arguments as they are; and the card. Own work. -/
import Derived.Test.YtnhgfbgdoelfoaaGreatDoorWfP4
import Derived.Test.YtnhgfbgdoelfoaaGreatDoorTie
import Derived.Test.YtnhgfbgdoelfoaaGreatDoorCards
import Derived.LaidMore
import Derived.SevenTiedAt
/- Printed by tools/mk.py. Own work. -/
namespace Go.Proofs.YtnhgfbgdoelfoaaGreatDoor.ME
open Go
open Go.RowKit
set_option linter.unusedVariables false
set_option linter.unusedSimpArgs false
set_option maxRecDepth 20000

def tEWriteShareGroupStateResponseTopicPartition (v : Int) (T : Tree) : Bs := (be 4 ((IntKind.i32.wrap (T.at_ 0).N))) ++ ((be 2 ((IntKind.i16.wrap (T.at_ 1).N))) ++ ((if (decide (v ≥ 0)) = true then (if (T.at_ 2).null = true then uv 0 else uv ((octOf (T.at_ 2)).length + 1) ++ (octOf (T.at_ 2))) else (if (T.at_ 2).null = true then be 2 (-1) else be 2 (octOf (T.at_ 2)).length ++ (octOf (T.at_ 2)))) ++ (if (decide (v ≥ 0)) = true then (uv T.U.length) ++ (tagsR T.U) else [])))
theorem posWriteShareGroupStateResponseTopicPartition (v : Int) (T : Tree) : 0 < (tEWriteShareGroupStateResponseTopicPartition v T).length := pos_l (pos_be (by decide))
def tEWriteShareGroupStateResponseTopic (v : Int) (T : Tree) : Bs := (sixteenB (T.at_ 0).S) ++ (((if (decide (v ≥ 0)) = true then (uv ((lst (T.at_ 1)).length + 1)) else (be 4 (lst (T.at_ 1)).length)) ++ ((lst (T.at_ 1)).flatMap (tEWriteShareGroupStateResponseTopicPartition v))) ++ (if (decide (v ≥ 0)) = true then (uv T.U.length) ++ (tagsR T.U) else []))
theorem posWriteShareGroupStateResponseTopic (v : Int) (T : Tree) : 0 < (tEWriteShareGroupStateResponseTopic v T).length := pos_l (by rw [sixteenB_len]; decide)
def tEWriteShareGroupStateResponse_ (v : Int) (T : Tree) : Bs := ((if (decide (v ≥ 0)) = true then (uv ((lst (T.at_ 0)).length + 1)) else (be 4 (lst (T.at_ 0)).length)) ++ ((lst (T.at_ 0)).flatMap (tEWriteShareGroupStateResponseTopic v))) ++ ((if (decide (v ≥ 0)) = true then (uv T.U.length) ++ (tagsR T.U) else []) ++ (([] : Bs)))
theorem teWriteShareGroupStateResponse (v : Int) (T : Tree) : tWriteShareGroupStateResponse v T = tEWriteShareGroupStateResponse_ v T := rfl
def clWriteShareGroupStateResponseTopicPartition (d : DV) : List Value := [.int .i32 ((d.f 0).n), .int .i16 ((d.f 1).n), .pointer ((d.f 2).A), .map d.m]
theorem mvWriteShareGroupStateResponseTopicPartition : Moves okWriteShareGroupStateResponseTopicPartition := by
  intro w w' F F' M d hs hM hF h
  unfold okWriteShareGroupStateResponseTopicPartition at h ⊢
  obtain ⟨g0, g1, ⟨g2, g2l⟩, t1, t2, t3, _⟩ := h
  exact ⟨g0, g1, ⟨fun ad hA => by
    obtain ⟨b, o, h1, h2⟩ := g2 ad hA
    exact ⟨b, o, h1, h2.move hs hM hF⟩, g2l⟩, t1.move hs hM hF, t2, t3, trivial⟩

def clWriteShareGroupStateResponseTopic (d : DV) : List Value := [byteCell ((d.f 0).o.getD 0 0), byteCell ((d.f 0).o.getD 1 0), byteCell ((d.f 0).o.getD 2 0), byteCell ((d.f 0).o.getD 3 0), byteCell ((d.f 0).o.getD 4 0), byteCell ((d.f 0).o.getD 5 0), byteCell ((d.f 0).o.getD 6 0), byteCell ((d.f 0).o.getD 7 0), byteCell ((d.f 0).o.getD 8 0), byteCell ((d.f 0).o.getD 9 0), byteCell ((d.f 0).o.getD 10 0), byteCell ((d.f 0).o.getD 11 0), byteCell ((d.f 0).o.getD 12 0), byteCell ((d.f 0).o.getD 13 0), byteCell ((d.f 0).o.getD 14 0), byteCell ((d.f 0).o.getD 15 0), .slice ((d.f 1).A) ((d.f 1).l) ((d.f 1).c), .map d.m]
theorem mvWriteShareGroupStateResponseTopic : Moves okWriteShareGroupStateResponseTopic := by
  intro w w' F F' M d hs hM hF h
  unfold okWriteShareGroupStateResponseTopic at h ⊢
  obtain ⟨g0, ⟨g1, g1l, g1e⟩, t1, t2, t3, _⟩ := h
  exact ⟨g0, ⟨g1.move hs hM hF, g1l, fun i hi => mvWriteShareGroupStateResponseTopicPartition _ hs hM hF (g1e i hi)⟩, t1.move hs hM hF, t2, t3, trivial⟩

def rvWriteShareGroupStateResponseTopicPartition (v : Int) (D : DV) (T : Tree) : Prop := ((D.f 0).n = IntKind.i32.wrap (T.at_ 0).N) ∧ ((D.f 1).n = IntKind.i16.wrap (T.at_ 1).N) ∧ (((D.f 2).s = bs (octOf (T.at_ 2)) ∧ (D.f 2).A.isNone = (T.at_ 2).null)) ∧ (((decide (v ≥ 0)) = true → D.u = T.U) ∧ ((decide (v ≥ 0)) = false → D.u = [])) ∧ True
def rvWriteShareGroupStateResponseTopic (v : Int) (D : DV) (T : Tree) : Prop := ((D.f 0).o = sixteenB (T.at_ 0).S) ∧ (((D.f 1).l = (lst (T.at_ 1)).length ∧ ∀ i, i < (D.f 1).l → rvWriteShareGroupStateResponseTopicPartition v ((D.f 1).f i) ((lst (T.at_ 1)).getD i .zero))) ∧ (((decide (v ≥ 0)) = true → D.u = T.U) ∧ ((decide (v ≥ 0)) = false → D.u = [])) ∧ True
def rvWriteShareGroupStateResponse (v : Int) (D : DV) (T : Tree) : Prop := (((D.f 0).l = (lst (T.at_ 0)).length ∧ ∀ i, i < (D.f 0).l → rvWriteShareGroupStateResponseTopic v ((D.f 0).f i) ((lst (T.at_ 0)).getD i .zero))) ∧ (((decide (v ≥ 0)) = true → D.u = T.U) ∧ ((decide (v ≥ 0)) = false → D.u = [])) ∧ True
theorem nop158 (b o : Nat) (w : World) : Calls Tryz.prog 158 #[.pointer (some ⟨b, o, none⟩)] w (fun e w' => e = .returned (.tuple #[]) ∧ w' = w) := by
  refine enter (n := 2) (vs := [.pointer (some ⟨b, o, none⟩)]) Tryz.func158 rfl Tryz.ntmps158 (by kernel_rfl) fun a hE => ?_
  refine wp_skip ?_
  exact leave_end hE (WOk.start w Nil).cells (v := .tuple #[]) (by kernel_rfl) ⟨rfl, rfl⟩

theorem nop160 (b o : Nat) (w : World) : Calls Tryz.prog 160 #[.pointer (some ⟨b, o, none⟩)] w (fun e w' => e = .returned (.tuple #[]) ∧ w' = w) := by
  refine enter (n := 2) (vs := [.pointer (some ⟨b, o, none⟩)]) Tryz.func160 rfl Tryz.ntmps160 (by kernel_rfl) fun a hE => ?_
  refine wp_skip ?_
  exact leave_end hE (WOk.start w Nil).cells (v := .tuple #[]) (by kernel_rfl) ⟨rfl, rfl⟩

set_option maxHeartbeats 4000000 in
theorem rdWriteShareGroupStateResponse (v : Int) (T : Tree) {bv : Nat} {A : Option Addr} {c : Nat} {w : World} {F : Nat → Nat → Prop} (hst : Str w bv [.int .i16 v, .slice none 0 0, .map none]) (ho : Octs w F A c (tWriteShareGroupStateResponse v T)) (hFd : ∀ b o, F b o → ¬ (b = bv ∧ o < 3)) (hc : canWriteShareGroupStateResponse T) (hR : T.ranged) :
    Calls Tryz.prog 106 #[.pointer (some ⟨bv, 0, none⟩), .slice A (tWriteShareGroupStateResponse v T).length c, .bool false] w (fun e w' => ∃ D : DV, e = .returned .nilIface ∧ Str w' bv [.int .i16 v, .slice ((D.f 0).A) ((D.f 0).l) ((D.f 0).c), .map D.m] ∧ okWriteShareGroupStateResponse w' (Fp F w) D ∧ rvWriteShareGroupStateResponse v D T ∧ Step w w' (fun b o => b = bv ∧ o < 3)) := by
  refine enter (n := 150) Tryz.func106 rfl Tryz.ntmps106 (by kernel_rfl) fun a hE => ?_
  have hW := WOk.startStr hst
  have hE1 := (hE.grow ⟨bv, 0, [.int .i16 v, .slice none 0 0, .map none], true⟩).recast 0 (.v (.pointer (some ⟨bv, 0, none⟩))) (.p 0 0) rfl rfl (Nat.le_of_ble_eq_true (n := 1) rfl)
  refine go_sp [(0, .p 0 0), (1, .v (.slice A ((tWriteShareGroupStateResponse v T).length) c)), (2, .v (.bool false))] hW hE1 fun a1 hE2 => ?_
  clear hE1
  refine go_seq_region [0, 1] (by kernel_rfl) ?_
  refine go_rn [0] [1] [(0, .p 0 0), (1, .v (.slice A ((tWriteShareGroupStateResponse v T).length) c)), (2, .v (.bool false)), (27, .p 0 0)] hW hE2 fun a3 hE4 => ?_
  clear hE2
  refine of_op (wpOp_inline hE4 (f := 104) (vs := [.pointer (some ⟨bv, 0, none⟩)]) (d := 28) (n' := 2) (by kernel_rfl) Tryz.call104 Tryz.func104 rfl Tryz.ntmps104 (by kernel_rfl) fun a5 hE6 => ?_)
  have hE7 := hE6.recast 0 (.v (.pointer (some ⟨bv, 0, none⟩))) (.p 0 0) rfl rfl (Nat.le_of_ble_eq_true (n := 1) rfl)
  refine wp_skip ?_
  refine leave_end hE7 hW.cells (v := .tuple #[]) (by kernel_rfl) ?_
  refine ⟨_, rfl, fun a8 hE9 => ?_⟩
  have hE10 : EnvOk 150 [⟨bv, 0, [.int .i16 v, .slice none 0 0, .map none], true⟩] [(28, .v (.tuple #[])), (0, .p 0 0), (1, .v (.slice A ((tWriteShareGroupStateResponse v T).length) c)), (2, .v (.bool false)), (27, .p 0 0)] _ := hE9.places (⟨rfl, rfl, trivial⟩)
  refine wpOps_nil ?_
  refine then_normal ?_
  refine go_seq_region [0, 1, 2, 3] (by kernel_rfl) ?_
  refine go_rn [0, 1] [2, 3] [(0, .p 0 0), (2, .v (.bool false)), (30, .v (.agg #[.slice A ((tWriteShareGroupStateResponse v T).length) c, .bool false]))] hW hE10 fun a11 hE12 => ?_
  clear hE10
  refine of_op (wpOp_alloc hW hE12 (d := 7) (cs := [.slice none 0 0, .bool false]) (by kernel_rfl) fun b13 a14 w15 hb16 hz17 hF18 hW19 hE20 => ?_)
  clear hE12 hW
  refine of_op (wpOp_store hW19 hE20 (oi := 1) (cs := [.slice A ((tWriteShareGroupStateResponse v T).length) c, .bool false]) (by kernel_rfl) fun w21 hF22 hW23 hE24 => ?_)
  clear hE20 hW19
  refine wpOps_nil ?_
  refine then_normal ?_
  have hS25 := RS.start (F := F) (s := tWriteShareGroupStateResponse v T) hW23 hE24 (ho.move hW23.step (fun b_ o_ h_ _ => hFd b_ o_ h_) (hW23.immM hFd)) [(0, .p 1 0), (2, .v (.bool false)), (7, .p 0 0)]
  have e26 := hc
  have e26r := hR
  unfold canWriteShareGroupStateResponse at e26
  obtain ⟨⟨e26_0, e26_0e⟩, e26_U, _⟩ := e26
  obtain ⟨R27, hR28⟩ : ∃ R, R = (if (decide (v ≥ 0)) = true then (uv T.U.length) ++ (tagsR T.U) else []) ++ ([] : Bs) := ⟨_, rfl⟩
  obtain ⟨R29, hR30⟩ : ∃ R, R = ((if (decide (v ≥ 0)) = true then (uv ((lst (T.at_ 0)).length + 1)) else (be 4 (lst (T.at_ 0)).length)) ++ ((lst (T.at_ 0)).flatMap (tEWriteShareGroupStateResponseTopic v))) ++ R27 := ⟨_, rfl⟩
  have hS31 := hS25.cast (t := R29) (by rw [teWriteShareGroupStateResponse, hR30, hR28]; unfold tEWriteShareGroupStateResponse_; simp only [List.append_assoc])
  clear hS25
  refine wp_seq ?_
  refine rs_sr [(0, .p 1 0), (2, .v (.bool false)), (7, .p 0 0), (8, .v (.int .i16 v))] hS31 fun _ hS32 => ?_
  clear hS31
  refine then_normal ?_
  refine wp_seq ?_
  refine rs_sr [(0, .p 1 0), (2, .v (.bool false)), (7, .p 0 0), (8, .v (.int .i16 v))] hS32 fun _ hS33 => ?_
  clear hS32
  refine then_normal ?_
  refine wp_seq ?_
  refine rs_sr [(0, .p 1 0), (2, .v (.bool false)), (7, .p 0 0), (9, .v (.bool (decide (v ≥ 0))))] hS33 fun _ hS34 => ?_
  clear hS33
  refine then_normal ?_
  refine wp_seq ?_
  refine rs_sr [(0, .p 1 0), (2, .v (.bool false)), (7, .p 0 0), (9, .v (.bool (decide (v ≥ 0))))] hS34 fun _ hS35 => ?_
  clear hS34
  refine then_normal ?_
  refine wp_seq ?_
  refine rs_sr [(2, .v (.bool false)), (7, .p 0 0), (9, .v (.bool (decide (v ≥ 0)))), (10, .p 1 0)] hS35 fun _ hS36 => ?_
  clear hS35
  refine then_normal ?_
  refine wp_seq ?_
  refine wp_seq ?_
  refine rs_sr [(2, .v (.bool false)), (7, .p 0 0), (9, .v (.bool (decide (v ≥ 0)))), (10, .p 1 0), (11, .v (.slice none 0 0))] hS36 fun _ hS37 => ?_
  clear hS36
  refine then_normal ?_
  refine wp_seq ?_
  refine rs_sr [(2, .v (.bool false)), (7, .p 0 0), (9, .v (.bool (decide (v ≥ 0)))), (10, .p 1 0), (12, .v (.slice none 0 0))] hS37 fun _ hS38 => ?_
  clear hS37
  refine then_normal ?_
  refine wp_seq ?_
  refine rs_sr [(2, .v (.bool false)), (7, .p 0 0), (9, .v (.bool (decide (v ≥ 0)))), (10, .p 1 0), (12, .v (.slice none 0 0))] hS38 fun _ hS39 => ?_
  clear hS38
  refine then_normal ?_
  refine wp_seq ?_
  have hS40 := hS39.cast hR30
  clear hS39
  have hS41 := hS40.cast (t := (if (decide (v ≥ 0)) = true then (uv ((lst (T.at_ 0)).length + 1)) else (be 4 (lst (T.at_ 0)).length)) ++ (((lst (T.at_ 0)).flatMap (tEWriteShareGroupStateResponseTopic v)) ++ R27)) (by rw [List.append_assoc])
  clear hS40
  refine rs_alt0 (d1 := 46) (d2 := 47) [(2, .v (.bool false)), (7, .p 0 0), (9, .v (.bool (decide (v ≥ 0)))), (10, .p 1 0), (12, .v (.slice none 0 0)), (45, .v (.bool (decide (v ≥ 0))))] [(2, .v (.bool false)), (7, .p 0 0), (9, .v (.bool (decide (v ≥ 0)))), (10, .p 1 0), (12, .v (.slice none 0 0)), (13, .v (.int .i32 (((lst (T.at_ 0)).length : Nat) : Int)))] hS41 (pCompactArrayLen ((lst (T.at_ 0)).length) e26_0 _ (flat_ge' (posWriteShareGroupStateResponseTopic v) _)) Tryz.call143 (pArrayLen ((lst (T.at_ 0)).length) e26_0 _ (flat_ge' (posWriteShareGroupStateResponseTopic v) _)) Tryz.call144 fun _ _ hS43 => ?_
  clear hS41
  refine then_normal ?_
  refine wp_seq ?_
  refine wp_seq ?_
  refine rs_ok (d := 48) [(2, .v (.bool false)), (7, .p 0 0), (9, .v (.bool (decide (v ≥ 0)))), (10, .p 1 0), (12, .v (.slice none 0 0)), (13, .v (.int .i32 (((lst (T.at_ 0)).length : Nat) : Int))), (49, .v (.bool false))] hS43 (pOk _) Tryz.call145 fun _ _ hS45 => ?_
  clear hS43
  refine then_normal ?_
  refine cond_false hS45.env_ (b := false) (by kernel_rfl) (rfl) ?_
  refine wp_skip ?_
  refine then_normal ?_
  refine wp_seq ?_
  refine rs_cut0 (t := 109) (e := 116) (size := 18) (bytes := 48) (d := 52) (A0 := none) (m := 0) (cp := 0) [(2, .v (.bool false)), (7, .p 0 0), (9, .v (.bool (decide (v ≥ 0)))), (10, .p 1 0), (13, .v (.int .i32 (((lst (T.at_ 0)).length : Nat) : Int))), (51, .v (.slice none 0 0))] [(2, .v (.bool false)), (7, .p 0 0), (9, .v (.bool (decide (v ≥ 0)))), (10, .p 1 0), (12, .v (.slice none 0 0)), (13, .v (.int .i32 (((lst (T.at_ 0)).length : Nat) : Int)))] 1 hS45 fun _ hS46 => ?_
  clear hS45
  refine then_normal ?_
  refine wp_join2 (Mid := fun a_ w_ => ∃ (D47 : DV) (P' : FactW), (∀ w F, P' w F → noF w F ∧ (Slots w F 18 D47.A D47.c D47.l (fun i => [byteCell (((D47.f i).f 0).o.getD 0 0), byteCell (((D47.f i).f 0).o.getD 1 0), byteCell (((D47.f i).f 0).o.getD 2 0), byteCell (((D47.f i).f 0).o.getD 3 0), byteCell (((D47.f i).f 0).o.getD 4 0), byteCell (((D47.f i).f 0).o.getD 5 0), byteCell (((D47.f i).f 0).o.getD 6 0), byteCell (((D47.f i).f 0).o.getD 7 0), byteCell (((D47.f i).f 0).o.getD 8 0), byteCell (((D47.f i).f 0).o.getD 9 0), byteCell (((D47.f i).f 0).o.getD 10 0), byteCell (((D47.f i).f 0).o.getD 11 0), byteCell (((D47.f i).f 0).o.getD 12 0), byteCell (((D47.f i).f 0).o.getD 13 0), byteCell (((D47.f i).f 0).o.getD 14 0), byteCell (((D47.f i).f 0).o.getD 15 0), .slice (((D47.f i).f 1).A) (((D47.f i).f 1).l) (((D47.f i).f 1).c), .map ((D47.f i).m)]) ∧ D47.l ≤ 1000000 ∧ ∀ i, i < D47.l → okWriteShareGroupStateResponseTopic w F (D47.f i)) ∧ (D47.l = (lst (T.at_ 0)).length ∧ ∀ i, i < D47.l → rvWriteShareGroupStateResponseTopic v (D47.f i) ((lst (T.at_ 0)).getD i .zero))) ∧ RS w (fun b o => b = bv ∧ o < 3) F 150 b13 [⟨bv, 0, [.int .i16 v, .slice none 0 0, .map none], true⟩] [(7, .p 0 0), (9, .v (.bool (decide (v ≥ 0)))), (10, .p 1 0), (12, .v (.slice D47.A D47.l D47.c))] P' R27 a_ w_) ?_ ?_
  ·
    refine wp_seq ?_
    refine rs_sr [(2, .v (.bool false)), (7, .p 0 0), (9, .v (.bool (decide (v ≥ 0)))), (10, .p 1 0), (12, .v (.slice none 0 0)), (13, .v (.int .i32 (((lst (T.at_ 0)).length : Nat) : Int))), (54, .v (.bool (decide ((((lst (T.at_ 0)).length : Nat) : Int) > 0))))] hS46 fun _ hS51 => then_normal ?_
    clear hS46
    refine cond_of hS51.env_ (b := decide ((((lst (T.at_ 0)).length : Nat) : Int) > 0)) (by kernel_rfl) (fun hc52 => ?_) (fun hc52 => ?_)
    ·
      have hn_g53 : 0 < (lst (T.at_ 0)).length := by have h_ := of_decide_eq_true hc52; omega
      refine go_region [0, 1, 2, 3] (by kernel_rfl) ?_
      refine rs_rn [0, 1] [2, 3] [(2, .v (.bool false)), (7, .p 0 0), (9, .v (.bool (decide (v ≥ 0)))), (10, .p 1 0), (13, .v (.int .i32 (((lst (T.at_ 0)).length : Nat) : Int))), (55, .v (.slice none 0 0)), (56, .v (.int .i32 (((lst (T.at_ 0)).length : Nat) : Int)))] hS51 fun _ hS55 => ?_
      clear hS51
      refine of_op (rs_appendZ (d := 57) (t := 109) (tn := 21) (e := 116) (size := 18) (bytes := 48) (k := .i32) (kn := .i32) (q := (((lst (T.at_ 0)).length : Nat) : Int)) (j := (lst (T.at_ 0)).length) (.agg #[.int .u8 0, .int .u8 0, .int .u8 0, .int .u8 0, .int .u8 0, .int .u8 0, .int .u8 0, .int .u8 0, .int .u8 0, .int .u8 0, .int .u8 0, .int .u8 0, .int .u8 0, .int .u8 0, .int .u8 0, .int .u8 0, .slice none 0 0, .map none]) hS55 (fun g53 c54 _ _ hg_g53 hcap_g53 hS56 => ?_) rfl hn_g53 (by have := e26_0; omega))
      clear hS55
      refine rs_rn [3] [] [(2, .v (.bool false)), (7, .p 0 0), (9, .v (.bool (decide (v ≥ 0)))), (10, .p 1 0), (12, .v (.slice (some ⟨g53, 0, none⟩) ((lst (T.at_ 0)).length) c54)), (13, .v (.int .i32 (((lst (T.at_ 0)).length : Nat) : Int)))] hS56 fun _ hS57 => wpOps_nil ?_
      clear hS56
      refine then_normal ?_
      refine wp_seq ?_
      refine rs_sr [(2, .v (.bool false)), (7, .p 0 0), (9, .v (.bool (decide (v ≥ 0)))), (10, .p 1 0), (12, .v (.slice (some ⟨g53, 0, none⟩) ((lst (T.at_ 0)).length) c54)), (13, .v (.int .i32 (((lst (T.at_ 0)).length : Nat) : Int))), (14, .v (.int .i32 0))] hS57 fun _ hS58 => ?_
      clear hS57
      refine then_normal ?_
      refine wp_block ?_
      have hmP64 := hS58.mv
      have hS65 := (hS58.cast (t := (lst (T.at_ 0)).flatMap (tEWriteShareGroupStateResponseTopic v) ++ R27) rfl).pk (env' := [(2, .v (.bool false)), (7, .p 0 0), (9, .v (.bool (decide (v ≥ 0)))), (10, .p 1 0), (12, .v (.slice (some ⟨g53, 0, none⟩) ((lst (T.at_ 0)).length) c54)), (13, .v (.int .i32 (((lst (T.at_ 0)).length : Nat) : Int))), (14, .v (.int .i32 ((0 : Nat) : Int)))])
      clear hS58
      refine rs_loop (tb := [⟨bv, 0, [.int .i16 v, .slice none 0 0, .map none], true⟩]) (z := .agg #[.int .u8 0, .int .u8 0, .int .u8 0, .int .u8 0, .int .u8 0, .int .u8 0, .int .u8 0, .int .u8 0, .int .u8 0, .int .u8 0, .int .u8 0, .int .u8 0, .int .u8 0, .int .u8 0, .int .u8 0, .int .u8 0, .slice none 0 0, .map none]) (cl := clWriteShareGroupStateResponseTopic) (ok := okWriteShareGroupStateResponseTopic) (rel := (rvWriteShareGroupStateResponseTopic v)) (L := lst (T.at_ 0)) (size := 18) (tEWriteShareGroupStateResponseTopic v) R27 (fun k => [(2, .v (.bool false)), (7, .p 0 0), (9, .v (.bool (decide (v ≥ 0)))), (10, .p 1 0), (12, .v (.slice (some ⟨g53, 0, none⟩) ((lst (T.at_ 0)).length) c54)), (13, .v (.int .i32 (((lst (T.at_ 0)).length : Nat) : Int))), (14, .v (.int .i32 ((k : Nat) : Int)))]) hS65 mvWriteShareGroupStateResponseTopic (fun k59 t60 _ _ ht61 hk62 hS63 => ?_) (fun _ _ hS66 => ?_)
      ·
        obtain ⟨P67, hP68, hS69⟩ : ∃ P', (∀ w F, P' w F → (noF w F ∧ doneF g53 18 clWriteShareGroupStateResponseTopic okWriteShareGroupStateResponseTopic (rvWriteShareGroupStateResponseTopic v) (lst (T.at_ 0)) k59 w F)) ∧ RS w (fun b o => b = bv ∧ o < 3) F 150 b13 [⟨bv, 0, [.int .i16 v, .slice none 0 0, .map none], true⟩, restO g53 18 (.agg #[.int .u8 0, .int .u8 0, .int .u8 0, .int .u8 0, .int .u8 0, .int .u8 0, .int .u8 0, .int .u8 0, .int .u8 0, .int .u8 0, .int .u8 0, .int .u8 0, .int .u8 0, .int .u8 0, .int .u8 0, .int .u8 0, .slice none 0 0, .map none]) ((lst (T.at_ 0)).length) k59] [(2, .v (.bool false)), (7, .p 0 0), (9, .v (.bool (decide (v ≥ 0)))), (10, .p 1 0), (12, .v (.slice (some ⟨g53, 0, none⟩) ((lst (T.at_ 0)).length) c54)), (13, .v (.int .i32 (((lst (T.at_ 0)).length : Nat) : Int))), (14, .v (.int .i32 ((k59 : Nat) : Int)))] P' ((tEWriteShareGroupStateResponseTopic v) t60 ++ (((lst (T.at_ 0)).drop (k59 + 1)).flatMap (tEWriteShareGroupStateResponseTopic v) ++ R27)) _ _ := ⟨_, fun _ _ h => h, hS63⟩
        clear hS63
        obtain ⟨R70, hR71⟩ : ∃ R, R = ((lst (T.at_ 0)).drop (k59 + 1)).flatMap (tEWriteShareGroupStateResponseTopic v) ++ R27 := ⟨_, rfl⟩
        have e72 := (e26_0e t60 (List.mem_of_getElem? ht61))
        have e72r := (ranged_lst (ranged_at e26r 0) t60 (List.mem_of_getElem? ht61))
        unfold canWriteShareGroupStateResponseTopic at e72
        obtain ⟨e72_0, ⟨e72_1, e72_1e⟩, e72_U, _⟩ := e72
        obtain ⟨R73, hR74⟩ : ∃ R, R = (if (decide (v ≥ 0)) = true then (uv t60.U.length) ++ (tagsR t60.U) else []) ++ R70 := ⟨_, rfl⟩
        obtain ⟨R75, hR76⟩ : ∃ R, R = ((if (decide (v ≥ 0)) = true then (uv ((lst (t60.at_ 1)).length + 1)) else (be 4 (lst (t60.at_ 1)).length)) ++ ((lst (t60.at_ 1)).flatMap (tEWriteShareGroupStateResponseTopicPartition v))) ++ R73 := ⟨_, rfl⟩
        obtain ⟨R77, hR78⟩ : ∃ R, R = (sixteenB (t60.at_ 0).S) ++ R75 := ⟨_, rfl⟩
        have hS79 := hS69.cast (t := R77) (by rw [hR78, hR76, hR74, ← hR71]; unfold tEWriteShareGroupStateResponseTopic; simp only [List.append_assoc])
        clear hS69
        refine wp_seq ?_
        refine wp_seq ?_
        refine rs_sr [(2, .v (.bool false)), (7, .p 0 0), (9, .v (.bool (decide (v ≥ 0)))), (10, .p 1 0), (12, .v (.slice (some ⟨g53, 0, none⟩) ((lst (T.at_ 0)).length) c54)), (13, .v (.int .i32 (((lst (T.at_ 0)).length : Nat) : Int))), (14, .v (.int .i32 ((k59 : Nat) : Int))), (60, .v (.bool (decide (((k59 : Nat) : Int) < (((lst (T.at_ 0)).length : Nat) : Int)))))] hS79 fun _ hS80 => then_normal ?_
        clear hS79
        refine cond_true hS80.env_ (b := decide (((k59 : Nat) : Int) < (((lst (T.at_ 0)).length : Nat) : Int))) (by kernel_rfl) (decide_eq_true (by omega)) ?_
        refine wp_skip ?_
        refine then_normal ?_
        refine wp_seq ?_
        refine wp_block ?_
        refine wp_seq ?_
        refine rs_elem (t := 109) (e := 116) (size := 18) (bytes := 48) (d := 65) (tb := [⟨bv, 0, [.int .i16 v, .slice none 0 0, .map none], true⟩]) (z := .agg #[.int .u8 0, .int .u8 0, .int .u8 0, .int .u8 0, .int .u8 0, .int .u8 0, .int .u8 0, .int .u8 0, .int .u8 0, .int .u8 0, .int .u8 0, .int .u8 0, .int .u8 0, .int .u8 0, .int .u8 0, .int .u8 0, .slice none 0 0, .map none]) [(2, .v (.bool false)), (7, .p 0 0), (9, .v (.bool (decide (v ≥ 0)))), (10, .p 1 0), (12, .v (.slice (some ⟨g53, 0, none⟩) ((lst (T.at_ 0)).length) c54)), (13, .v (.int .i32 (((lst (T.at_ 0)).length : Nat) : Int))), (14, .v (.int .i32 ((k59 : Nat) : Int))), (63, .v (.slice (some ⟨g53, 0, none⟩) ((lst (T.at_ 0)).length) c54)), (64, .v (.int .i32 ((k59 : Nat) : Int)))] [(2, .v (.bool false)), (7, .p 0 0), (9, .v (.bool (decide (v ≥ 0)))), (10, .p 1 0), (12, .v (.slice (some ⟨g53, 0, none⟩) ((lst (T.at_ 0)).length) c54)), (13, .v (.int .i32 (((lst (T.at_ 0)).length : Nat) : Int))), (14, .v (.int .i32 ((k59 : Nat) : Int))), (15, .p 3 0)] 2 hS80 hk62 rfl (by kernel_rfl) fun _ hS81 => ?_
        clear hS80
        have hS82 := hS81.tbEq (tb' := [⟨bv, 0, [.int .i16 v, .slice none 0 0, .map none], true⟩, restO g53 18 (.agg #[.int .u8 0, .int .u8 0, .int .u8 0, .int .u8 0, .int .u8 0, .int .u8 0, .int .u8 0, .int .u8 0, .int .u8 0, .int .u8 0, .int .u8 0, .int .u8 0, .int .u8 0, .int .u8 0, .int .u8 0, .int .u8 0, .slice none 0 0, .map none]) ((lst (T.at_ 0)).length) (k59 + 1), ⟨g53, k59 * 18, [.int .u8 0, .int .u8 0, .int .u8 0, .int .u8 0, .int .u8 0, .int .u8 0, .int .u8 0, .int .u8 0, .int .u8 0, .int .u8 0, .int .u8 0, .int .u8 0, .int .u8 0, .int .u8 0, .int .u8 0, .int .u8 0, .slice none 0 0, .map none], true⟩]) rfl
        clear hS81
        refine then_normal ?_
        refine wp_seq ?_
        refine go_region [0, 1] (by kernel_rfl) ?_
        refine rs_rn [0] [1] [(2, .v (.bool false)), (7, .p 0 0), (9, .v (.bool (decide (v ≥ 0)))), (10, .p 1 0), (12, .v (.slice (some ⟨g53, 0, none⟩) ((lst (T.at_ 0)).length) c54)), (13, .v (.int .i32 (((lst (T.at_ 0)).length : Nat) : Int))), (14, .v (.int .i32 ((k59 : Nat) : Int))), (15, .p 3 0), (66, .p 3 0)] hS82 fun _ hS83 => ?_
        clear hS82
        refine of_op (rs_nop (d := 67) (vs := [.pointer (some ⟨g53, k59 * 18, none⟩)]) hS83 (fun _ => nop158 _ _ _) Tryz.call158 fun _ hS84 => ?_)
        clear hS83
        refine wpOps_nil ?_
        have hS85 := hS84.pk (env' := [(2, .v (.bool false)), (7, .p 0 0), (9, .v (.bool (decide (v ≥ 0)))), (10, .p 1 0), (12, .v (.slice (some ⟨g53, 0, none⟩) ((lst (T.at_ 0)).length) c54)), (13, .v (.int .i32 (((lst (T.at_ 0)).length : Nat) : Int))), (14, .v (.int .i32 ((k59 : Nat) : Int))), (15, .p 3 0)])
        clear hS84
        refine then_normal ?_
        refine wp_seq ?_
        refine rs_sr [(2, .v (.bool false)), (7, .p 0 0), (9, .v (.bool (decide (v ≥ 0)))), (10, .p 1 0), (12, .v (.slice (some ⟨g53, 0, none⟩) ((lst (T.at_ 0)).length) c54)), (13, .v (.int .i32 (((lst (T.at_ 0)).length : Nat) : Int))), (14, .v (.int .i32 ((k59 : Nat) : Int))), (16, .p 3 0)] hS85 fun _ hS86 => ?_
        clear hS85
        refine then_normal ?_
        refine wp_seq ?_
        refine wp_seq ?_
        refine go_region [0, 1, 2] (by kernel_rfl) ?_
        have hS87 := hS86.cast hR78
        clear hS86
        refine of_op (rs_call0 (d := 69) hS87 (pUuid (t60.at_ 0).S _) Tryz.call159 fun _ _ hS89 => ?_)
        clear hS87
        refine of_op (rs_alloc (d := 17) [.int .u8 0, .int .u8 0, .int .u8 0, .int .u8 0, .int .u8 0, .int .u8 0, .int .u8 0, .int .u8 0, .int .u8 0, .int .u8 0, .int .u8 0, .int .u8 0, .int .u8 0, .int .u8 0, .int .u8 0, .int .u8 0] hS89 fun b90 _ _ hb_b90 hS91 => ?_)
        clear hS89
        have hS92 := (hS91.tbEq (tb' := [⟨bv, 0, [.int .i16 v, .slice none 0 0, .map none], true⟩, restO g53 18 (.agg #[.int .u8 0, .int .u8 0, .int .u8 0, .int .u8 0, .int .u8 0, .int .u8 0, .int .u8 0, .int .u8 0, .int .u8 0, .int .u8 0, .int .u8 0, .int .u8 0, .int .u8 0, .int .u8 0, .int .u8 0, .int .u8 0, .slice none 0 0, .map none]) ((lst (T.at_ 0)).length) (k59 + 1), ⟨g53, k59 * 18, [.int .u8 0, .int .u8 0, .int .u8 0, .int .u8 0, .int .u8 0, .int .u8 0, .int .u8 0, .int .u8 0, .int .u8 0, .int .u8 0, .int .u8 0, .int .u8 0, .int .u8 0, .int .u8 0, .int .u8 0, .int .u8 0, .slice none 0 0, .map none], true⟩, ⟨b90, 0, [.int .u8 0, .int .u8 0, .int .u8 0, .int .u8 0, .int .u8 0, .int .u8 0, .int .u8 0, .int .u8 0, .int .u8 0, .int .u8 0, .int .u8 0, .int .u8 0, .int .u8 0, .int .u8 0, .int .u8 0, .int .u8 0], true⟩]) rfl).pk (env' := [(2, .v (.bool false)), (7, .p 0 0), (9, .v (.bool (decide (v ≥ 0)))), (10, .p 1 0), (12, .v (.slice (some ⟨g53, 0, none⟩) ((lst (T.at_ 0)).length) c54)), (13, .v (.int .i32 (((lst (T.at_ 0)).length : Nat) : Int))), (14, .v (.int .i32 ((k59 : Nat) : Int))), (16, .p 3 0), (69, .v (.agg #[byteCell ((sixteenB (t60.at_ 0).S).getD 0 0), byteCell ((sixteenB (t60.at_ 0).S).getD 1 0), byteCell ((sixteenB (t60.at_ 0).S).getD 2 0), byteCell ((sixteenB (t60.at_ 0).S).getD 3 0), byteCell ((sixteenB (t60.at_ 0).S).getD 4 0), byteCell ((sixteenB (t60.at_ 0).S).getD 5 0), byteCell ((sixteenB (t60.at_ 0).S).getD 6 0), byteCell ((sixteenB (t60.at_ 0).S).getD 7 0), byteCell ((sixteenB (t60.at_ 0).S).getD 8 0), byteCell ((sixteenB (t60.at_ 0).S).getD 9 0), byteCell ((sixteenB (t60.at_ 0).S).getD 10 0), byteCell ((sixteenB (t60.at_ 0).S).getD 11 0), byteCell ((sixteenB (t60.at_ 0).S).getD 12 0), byteCell ((sixteenB (t60.at_ 0).S).getD 13 0), byteCell ((sixteenB (t60.at_ 0).S).getD 14 0), byteCell ((sixteenB (t60.at_ 0).S).getD 15 0)])), (17, .p 4 0)])
        clear hS91
        refine of_op (rs_store [⟨bv, 0, [.int .i16 v, .slice none 0 0, .map none], true⟩, restO g53 18 (.agg #[.int .u8 0, .int .u8 0, .int .u8 0, .int .u8 0, .int .u8 0, .int .u8 0, .int .u8 0, .int .u8 0, .int .u8 0, .int .u8 0, .int .u8 0, .int .u8 0, .int .u8 0, .int .u8 0, .int .u8 0, .int .u8 0, .slice none 0 0, .map none]) ((lst (T.at_ 0)).length) (k59 + 1), ⟨g53, k59 * 18, [.int .u8 0, .int .u8 0, .int .u8 0, .int .u8 0, .int .u8 0, .int .u8 0, .int .u8 0, .int .u8 0, .int .u8 0, .int .u8 0, .int .u8 0, .int .u8 0, .int .u8 0, .int .u8 0, .int .u8 0, .int .u8 0, .slice none 0 0, .map none], true⟩, ⟨b90, 0, [byteCell ((sixteenB (t60.at_ 0).S).getD 0 0), byteCell ((sixteenB (t60.at_ 0).S).getD 1 0), byteCell ((sixteenB (t60.at_ 0).S).getD 2 0), byteCell ((sixteenB (t60.at_ 0).S).getD 3 0), byteCell ((sixteenB (t60.at_ 0).S).getD 4 0), byteCell ((sixteenB (t60.at_ 0).S).getD 5 0), byteCell ((sixteenB (t60.at_ 0).S).getD 6 0), byteCell ((sixteenB (t60.at_ 0).S).getD 7 0), byteCell ((sixteenB (t60.at_ 0).S).getD 8 0), byteCell ((sixteenB (t60.at_ 0).S).getD 9 0), byteCell ((sixteenB (t60.at_ 0).S).getD 10 0), byteCell ((sixteenB (t60.at_ 0).S).getD 11 0), byteCell ((sixteenB (t60.at_ 0).S).getD 12 0), byteCell ((sixteenB (t60.at_ 0).S).getD 13 0), byteCell ((sixteenB (t60.at_ 0).S).getD 14 0), byteCell ((sixteenB (t60.at_ 0).S).getD 15 0)], true⟩] 3 hS92 fun _ hS93 => ?_)
        clear hS92
        refine wpOps_nil ?_
        have hS94 := hS93.pk (env' := [(2, .v (.bool false)), (7, .p 0 0), (9, .v (.bool (decide (v ≥ 0)))), (10, .p 1 0), (12, .v (.slice (some ⟨g53, 0, none⟩) ((lst (T.at_ 0)).length) c54)), (13, .v (.int .i32 (((lst (T.at_ 0)).length : Nat) : Int))), (14, .v (.int .i32 ((k59 : Nat) : Int))), (16, .p 3 0), (17, .p 4 0)])
        clear hS93
        refine then_normal ?_
        refine rs_sto [⟨bv, 0, [.int .i16 v, .slice none 0 0, .map none], true⟩, restO g53 18 (.agg #[.int .u8 0, .int .u8 0, .int .u8 0, .int .u8 0, .int .u8 0, .int .u8 0, .int .u8 0, .int .u8 0, .int .u8 0, .int .u8 0, .int .u8 0, .int .u8 0, .int .u8 0, .int .u8 0, .int .u8 0, .int .u8 0, .slice none 0 0, .map none]) ((lst (T.at_ 0)).length) (k59 + 1), ⟨g53, k59 * 18, [byteCell ((sixteenB (t60.at_ 0).S).getD 0 0), byteCell ((sixteenB (t60.at_ 0).S).getD 1 0), byteCell ((sixteenB (t60.at_ 0).S).getD 2 0), byteCell ((sixteenB (t60.at_ 0).S).getD 3 0), byteCell ((sixteenB (t60.at_ 0).S).getD 4 0), byteCell ((sixteenB (t60.at_ 0).S).getD 5 0), byteCell ((sixteenB (t60.at_ 0).S).getD 6 0), byteCell ((sixteenB (t60.at_ 0).S).getD 7 0), byteCell ((sixteenB (t60.at_ 0).S).getD 8 0), byteCell ((sixteenB (t60.at_ 0).S).getD 9 0), byteCell ((sixteenB (t60.at_ 0).S).getD 10 0), byteCell ((sixteenB (t60.at_ 0).S).getD 11 0), byteCell ((sixteenB (t60.at_ 0).S).getD 12 0), byteCell ((sixteenB (t60.at_ 0).S).getD 13 0), byteCell ((sixteenB (t60.at_ 0).S).getD 14 0), byteCell ((sixteenB (t60.at_ 0).S).getD 15 0), .slice none 0 0, .map none], true⟩, ⟨b90, 0, [byteCell ((sixteenB (t60.at_ 0).S).getD 0 0), byteCell ((sixteenB (t60.at_ 0).S).getD 1 0), byteCell ((sixteenB (t60.at_ 0).S).getD 2 0), byteCell ((sixteenB (t60.at_ 0).S).getD 3 0), byteCell ((sixteenB (t60.at_ 0).S).getD 4 0), byteCell ((sixteenB (t60.at_ 0).S).getD 5 0), byteCell ((sixteenB (t60.at_ 0).S).getD 6 0), byteCell ((sixteenB (t60.at_ 0).S).getD 7 0), byteCell ((sixteenB (t60.at_ 0).S).getD 8 0), byteCell ((sixteenB (t60.at_ 0).S).getD 9 0), byteCell ((sixteenB (t60.at_ 0).S).getD 10 0), byteCell ((sixteenB (t60.at_ 0).S).getD 11 0), byteCell ((sixteenB (t60.at_ 0).S).getD 12 0), byteCell ((sixteenB (t60.at_ 0).S).getD 13 0), byteCell ((sixteenB (t60.at_ 0).S).getD 14 0), byteCell ((sixteenB (t60.at_ 0).S).getD 15 0)], true⟩] 2 [(2, .v (.bool false)), (7, .p 0 0), (9, .v (.bool (decide (v ≥ 0)))), (10, .p 1 0), (12, .v (.slice (some ⟨g53, 0, none⟩) ((lst (T.at_ 0)).length) c54)), (13, .v (.int .i32 (((lst (T.at_ 0)).length : Nat) : Int))), (14, .v (.int .i32 ((k59 : Nat) : Int))), (16, .p 3 0)] hS94 fun _ _ hS95 => ?_
        clear hS94
        have hS96 := RS.dropT (tb := [⟨bv, 0, [.int .i16 v, .slice none 0 0, .map none], true⟩, restO g53 18 (.agg #[.int .u8 0, .int .u8 0, .int .u8 0, .int .u8 0, .int .u8 0, .int .u8 0, .int .u8 0, .int .u8 0, .int .u8 0, .int .u8 0, .int .u8 0, .int .u8 0, .int .u8 0, .int .u8 0, .int .u8 0, .int .u8 0, .slice none 0 0, .map none]) ((lst (T.at_ 0)).length) (k59 + 1), ⟨g53, k59 * 18, [byteCell ((sixteenB (t60.at_ 0).S).getD 0 0), byteCell ((sixteenB (t60.at_ 0).S).getD 1 0), byteCell ((sixteenB (t60.at_ 0).S).getD 2 0), byteCell ((sixteenB (t60.at_ 0).S).getD 3 0), byteCell ((sixteenB (t60.at_ 0).S).getD 4 0), byteCell ((sixteenB (t60.at_ 0).S).getD 5 0), byteCell ((sixteenB (t60.at_ 0).S).getD 6 0), byteCell ((sixteenB (t60.at_ 0).S).getD 7 0), byteCell ((sixteenB (t60.at_ 0).S).getD 8 0), byteCell ((sixteenB (t60.at_ 0).S).getD 9 0), byteCell ((sixteenB (t60.at_ 0).S).getD 10 0), byteCell ((sixteenB (t60.at_ 0).S).getD 11 0), byteCell ((sixteenB (t60.at_ 0).S).getD 12 0), byteCell ((sixteenB (t60.at_ 0).S).getD 13 0), byteCell ((sixteenB (t60.at_ 0).S).getD 14 0), byteCell ((sixteenB (t60.at_ 0).S).getD 15 0), .slice none 0 0, .map none], true⟩]) hS95 hb_b90 (by kernel_rfl)
        clear hS95
        refine then_normal ?_
        refine wp_seq ?_
        refine wp_seq ?_
        refine rs_sr [(2, .v (.bool false)), (7, .p 0 0), (9, .v (.bool (decide (v ≥ 0)))), (10, .p 1 0), (12, .v (.slice (some ⟨g53, 0, none⟩) ((lst (T.at_ 0)).length) c54)), (13, .v (.int .i32 (((lst (T.at_ 0)).length : Nat) : Int))), (14, .v (.int .i32 ((k59 : Nat) : Int))), (16, .p 3 0), (18, .v (.slice none 0 0))] hS96 fun _ hS97 => ?_
        clear hS96
        refine then_normal ?_
        refine wp_seq ?_
        refine rs_sr [(2, .v (.bool false)), (7, .p 0 0), (9, .v (.bool (decide (v ≥ 0)))), (10, .p 1 0), (12, .v (.slice (some ⟨g53, 0, none⟩) ((lst (T.at_ 0)).length) c54)), (13, .v (.int .i32 (((lst (T.at_ 0)).length : Nat) : Int))), (14, .v (.int .i32 ((k59 : Nat) : Int))), (16, .p 3 0), (19, .v (.slice none 0 0))] hS97 fun _ hS98 => ?_
        clear hS97
        refine then_normal ?_
        refine wp_seq ?_
        refine rs_sr [(2, .v (.bool false)), (7, .p 0 0), (9, .v (.bool (decide (v ≥ 0)))), (10, .p 1 0), (12, .v (.slice (some ⟨g53, 0, none⟩) ((lst (T.at_ 0)).length) c54)), (13, .v (.int .i32 (((lst (T.at_ 0)).length : Nat) : Int))), (14, .v (.int .i32 ((k59 : Nat) : Int))), (16, .p 3 0), (19, .v (.slice none 0 0))] hS98 fun _ hS99 => ?_
        clear hS98
        refine then_normal ?_
        refine wp_seq ?_
        have hS100 := hS99.cast hR76
        clear hS99
        have hS101 := hS100.cast (t := (if (decide (v ≥ 0)) = true then (uv ((lst (t60.at_ 1)).length + 1)) else (be 4 (lst (t60.at_ 1)).length)) ++ (((lst (t60.at_ 1)).flatMap (tEWriteShareGroupStateResponseTopicPartition v)) ++ R73)) (by rw [List.append_assoc])
        clear hS100
        refine rs_alt0 (d1 := 80) (d2 := 81) [(2, .v (.bool false)), (7, .p 0 0), (9, .v (.bool (decide (v ≥ 0)))), (10, .p 1 0), (12, .v (.slice (some ⟨g53, 0, none⟩) ((lst (T.at_ 0)).length) c54)), (13, .v (.int .i32 (((lst (T.at_ 0)).length : Nat) : Int))), (14, .v (.int .i32 ((k59 : Nat) : Int))), (16, .p 3 0), (19, .v (.slice none 0 0)), (79, .v (.bool (decide (v ≥ 0))))] [(2, .v (.bool false)), (7, .p 0 0), (9, .v (.bool (decide (v ≥ 0)))), (10, .p 1 0), (12, .v (.slice (some ⟨g53, 0, none⟩) ((lst (T.at_ 0)).length) c54)), (13, .v (.int .i32 (((lst (T.at_ 0)).length : Nat) : Int))), (14, .v (.int .i32 ((k59 : Nat) : Int))), (16, .p 3 0), (19, .v (.slice none 0 0)), (20, .v (.int .i32 (((lst (t60.at_ 1)).length : Nat) : Int)))] hS101 (pCompactArrayLen ((lst (t60.at_ 1)).length) e72_1 _ (flat_ge' (posWriteShareGroupStateResponseTopicPartition v) _)) Tryz.call143 (pArrayLen ((lst (t60.at_ 1)).length) e72_1 _ (flat_ge' (posWriteShareGroupStateResponseTopicPartition v) _)) Tryz.call144 fun _ _ hS103 => ?_
        clear hS101
        refine then_normal ?_
        refine wp_seq ?_
        refine wp_seq ?_
        refine rs_ok (d := 82) [(2, .v (.bool false)), (7, .p 0 0), (9, .v (.bool (decide (v ≥ 0)))), (10, .p 1 0), (12, .v (.slice (some ⟨g53, 0, none⟩) ((lst (T.at_ 0)).length) c54)), (13, .v (.int .i32 (((lst (T.at_ 0)).length : Nat) : Int))), (14, .v (.int .i32 ((k59 : Nat) : Int))), (16, .p 3 0), (19, .v (.slice none 0 0)), (20, .v (.int .i32 (((lst (t60.at_ 1)).length : Nat) : Int))), (83, .v (.bool false))] hS103 (pOk _) Tryz.call145 fun _ _ hS105 => ?_
        clear hS103
        refine then_normal ?_
        refine cond_false hS105.env_ (b := false) (by kernel_rfl) (rfl) ?_
        refine wp_skip ?_
        refine then_normal ?_
        refine wp_seq ?_
        refine rs_cut0 (t := 114) (e := 121) (size := 4) (bytes := 24) (d := 86) (A0 := none) (m := 0) (cp := 0) [(2, .v (.bool false)), (7, .p 0 0), (9, .v (.bool (decide (v ≥ 0)))), (10, .p 1 0), (12, .v (.slice (some ⟨g53, 0, none⟩) ((lst (T.at_ 0)).length) c54)), (13, .v (.int .i32 (((lst (T.at_ 0)).length : Nat) : Int))), (14, .v (.int .i32 ((k59 : Nat) : Int))), (16, .p 3 0), (20, .v (.int .i32 (((lst (t60.at_ 1)).length : Nat) : Int))), (85, .v (.slice none 0 0))] [(2, .v (.bool false)), (7, .p 0 0), (9, .v (.bool (decide (v ≥ 0)))), (10, .p 1 0), (12, .v (.slice (some ⟨g53, 0, none⟩) ((lst (T.at_ 0)).length) c54)), (13, .v (.int .i32 (((lst (T.at_ 0)).length : Nat) : Int))), (14, .v (.int .i32 ((k59 : Nat) : Int))), (16, .p 3 0), (19, .v (.slice none 0 0)), (20, .v (.int .i32 (((lst (t60.at_ 1)).length : Nat) : Int)))] 1 hS105 fun _ hS106 => ?_
        clear hS105
        refine then_normal ?_
        refine wp_join2 (Mid := fun a_ w_ => ∃ (D107 : DV) (P' : FactW), (∀ w F, P' w F → P67 w F ∧ (Slots w F 4 D107.A D107.c D107.l (fun i => [.int .i32 (((D107.f i).f 0).n), .int .i16 (((D107.f i).f 1).n), .pointer (((D107.f i).f 2).A), .map ((D107.f i).m)]) ∧ D107.l ≤ 1000000 ∧ ∀ i, i < D107.l → okWriteShareGroupStateResponseTopicPartition w F (D107.f i)) ∧ (D107.l = (lst (t60.at_ 1)).length ∧ ∀ i, i < D107.l → rvWriteShareGroupStateResponseTopicPartition v (D107.f i) ((lst (t60.at_ 1)).getD i .zero))) ∧ RS w (fun b o => b = bv ∧ o < 3) F 150 b13 [⟨bv, 0, [.int .i16 v, .slice none 0 0, .map none], true⟩, restO g53 18 (.agg #[.int .u8 0, .int .u8 0, .int .u8 0, .int .u8 0, .int .u8 0, .int .u8 0, .int .u8 0, .int .u8 0, .int .u8 0, .int .u8 0, .int .u8 0, .int .u8 0, .int .u8 0, .int .u8 0, .int .u8 0, .int .u8 0, .slice none 0 0, .map none]) ((lst (T.at_ 0)).length) (k59 + 1), ⟨g53, k59 * 18, [byteCell ((sixteenB (t60.at_ 0).S).getD 0 0), byteCell ((sixteenB (t60.at_ 0).S).getD 1 0), byteCell ((sixteenB (t60.at_ 0).S).getD 2 0), byteCell ((sixteenB (t60.at_ 0).S).getD 3 0), byteCell ((sixteenB (t60.at_ 0).S).getD 4 0), byteCell ((sixteenB (t60.at_ 0).S).getD 5 0), byteCell ((sixteenB (t60.at_ 0).S).getD 6 0), byteCell ((sixteenB (t60.at_ 0).S).getD 7 0), byteCell ((sixteenB (t60.at_ 0).S).getD 8 0), byteCell ((sixteenB (t60.at_ 0).S).getD 9 0), byteCell ((sixteenB (t60.at_ 0).S).getD 10 0), byteCell ((sixteenB (t60.at_ 0).S).getD 11 0), byteCell ((sixteenB (t60.at_ 0).S).getD 12 0), byteCell ((sixteenB (t60.at_ 0).S).getD 13 0), byteCell ((sixteenB (t60.at_ 0).S).getD 14 0), byteCell ((sixteenB (t60.at_ 0).S).getD 15 0), .slice none 0 0, .map none], true⟩] [(2, .v (.bool false)), (7, .p 0 0), (9, .v (.bool (decide (v ≥ 0)))), (10, .p 1 0), (12, .v (.slice (some ⟨g53, 0, none⟩) ((lst (T.at_ 0)).length) c54)), (13, .v (.int .i32 (((lst (T.at_ 0)).length : Nat) : Int))), (14, .v (.int .i32 ((k59 : Nat) : Int))), (16, .p 3 0), (19, .v (.slice D107.A D107.l D107.c))] P' R73 a_ w_) ?_ ?_
        ·
          refine wp_seq ?_
          refine rs_sr [(2, .v (.bool false)), (7, .p 0 0), (9, .v (.bool (decide (v ≥ 0)))), (10, .p 1 0), (12, .v (.slice (some ⟨g53, 0, none⟩) ((lst (T.at_ 0)).length) c54)), (13, .v (.int .i32 (((lst (T.at_ 0)).length : Nat) : Int))), (14, .v (.int .i32 ((k59 : Nat) : Int))), (16, .p 3 0), (19, .v (.slice none 0 0)), (20, .v (.int .i32 (((lst (t60.at_ 1)).length : Nat) : Int))), (88, .v (.bool (decide ((((lst (t60.at_ 1)).length : Nat) : Int) > 0))))] hS106 fun _ hS111 => then_normal ?_
          clear hS106
          refine cond_of hS111.env_ (b := decide ((((lst (t60.at_ 1)).length : Nat) : Int) > 0)) (by kernel_rfl) (fun hc112 => ?_) (fun hc112 => ?_)
          ·
            have hn_g113 : 0 < (lst (t60.at_ 1)).length := by have h_ := of_decide_eq_true hc112; omega
            refine go_region [0, 1, 2, 3] (by kernel_rfl) ?_
            refine rs_rn [0, 1] [2, 3] [(2, .v (.bool false)), (7, .p 0 0), (9, .v (.bool (decide (v ≥ 0)))), (10, .p 1 0), (12, .v (.slice (some ⟨g53, 0, none⟩) ((lst (T.at_ 0)).length) c54)), (13, .v (.int .i32 (((lst (T.at_ 0)).length : Nat) : Int))), (14, .v (.int .i32 ((k59 : Nat) : Int))), (16, .p 3 0), (20, .v (.int .i32 (((lst (t60.at_ 1)).length : Nat) : Int))), (89, .v (.slice none 0 0)), (90, .v (.int .i32 (((lst (t60.at_ 1)).length : Nat) : Int)))] hS111 fun _ hS115 => ?_
            clear hS111
            refine of_op (rs_appendZ (d := 91) (t := 114) (tn := 21) (e := 121) (size := 4) (bytes := 24) (k := .i32) (kn := .i32) (q := (((lst (t60.at_ 1)).length : Nat) : Int)) (j := (lst (t60.at_ 1)).length) (.agg #[.int .i32 0, .int .i16 0, .pointer none, .map none]) hS115 (fun g113 c114 _ _ hg_g113 hcap_g113 hS116 => ?_) rfl hn_g113 (by have := e72_1; omega))
            clear hS115
            refine rs_rn [3] [] [(2, .v (.bool false)), (7, .p 0 0), (9, .v (.bool (decide (v ≥ 0)))), (10, .p 1 0), (12, .v (.slice (some ⟨g53, 0, none⟩) ((lst (T.at_ 0)).length) c54)), (13, .v (.int .i32 (((lst (T.at_ 0)).length : Nat) : Int))), (14, .v (.int .i32 ((k59 : Nat) : Int))), (16, .p 3 0), (19, .v (.slice (some ⟨g113, 0, none⟩) ((lst (t60.at_ 1)).length) c114)), (20, .v (.int .i32 (((lst (t60.at_ 1)).length : Nat) : Int)))] hS116 fun _ hS117 => wpOps_nil ?_
            clear hS116
            refine then_normal ?_
            refine wp_seq ?_
            refine rs_sr [(2, .v (.bool false)), (7, .p 0 0), (9, .v (.bool (decide (v ≥ 0)))), (10, .p 1 0), (12, .v (.slice (some ⟨g53, 0, none⟩) ((lst (T.at_ 0)).length) c54)), (13, .v (.int .i32 (((lst (T.at_ 0)).length : Nat) : Int))), (14, .v (.int .i32 ((k59 : Nat) : Int))), (16, .p 3 0), (19, .v (.slice (some ⟨g113, 0, none⟩) ((lst (t60.at_ 1)).length) c114)), (20, .v (.int .i32 (((lst (t60.at_ 1)).length : Nat) : Int))), (21, .v (.int .i32 0))] hS117 fun _ hS118 => ?_
            clear hS117
            refine then_normal ?_
            refine wp_block ?_
            have hmP124 := hS118.mv
            have hS125 := (hS118.cast (t := (lst (t60.at_ 1)).flatMap (tEWriteShareGroupStateResponseTopicPartition v) ++ R73) rfl).pk (env' := [(2, .v (.bool false)), (7, .p 0 0), (9, .v (.bool (decide (v ≥ 0)))), (10, .p 1 0), (12, .v (.slice (some ⟨g53, 0, none⟩) ((lst (T.at_ 0)).length) c54)), (13, .v (.int .i32 (((lst (T.at_ 0)).length : Nat) : Int))), (14, .v (.int .i32 ((k59 : Nat) : Int))), (16, .p 3 0), (19, .v (.slice (some ⟨g113, 0, none⟩) ((lst (t60.at_ 1)).length) c114)), (20, .v (.int .i32 (((lst (t60.at_ 1)).length : Nat) : Int))), (21, .v (.int .i32 ((0 : Nat) : Int)))])
            clear hS118
            refine rs_loop (tb := [⟨bv, 0, [.int .i16 v, .slice none 0 0, .map none], true⟩, restO g53 18 (.agg #[.int .u8 0, .int .u8 0, .int .u8 0, .int .u8 0, .int .u8 0, .int .u8 0, .int .u8 0, .int .u8 0, .int .u8 0, .int .u8 0, .int .u8 0, .int .u8 0, .int .u8 0, .int .u8 0, .int .u8 0, .int .u8 0, .slice none 0 0, .map none]) ((lst (T.at_ 0)).length) (k59 + 1), ⟨g53, k59 * 18, [byteCell ((sixteenB (t60.at_ 0).S).getD 0 0), byteCell ((sixteenB (t60.at_ 0).S).getD 1 0), byteCell ((sixteenB (t60.at_ 0).S).getD 2 0), byteCell ((sixteenB (t60.at_ 0).S).getD 3 0), byteCell ((sixteenB (t60.at_ 0).S).getD 4 0), byteCell ((sixteenB (t60.at_ 0).S).getD 5 0), byteCell ((sixteenB (t60.at_ 0).S).getD 6 0), byteCell ((sixteenB (t60.at_ 0).S).getD 7 0), byteCell ((sixteenB (t60.at_ 0).S).getD 8 0), byteCell ((sixteenB (t60.at_ 0).S).getD 9 0), byteCell ((sixteenB (t60.at_ 0).S).getD 10 0), byteCell ((sixteenB (t60.at_ 0).S).getD 11 0), byteCell ((sixteenB (t60.at_ 0).S).getD 12 0), byteCell ((sixteenB (t60.at_ 0).S).getD 13 0), byteCell ((sixteenB (t60.at_ 0).S).getD 14 0), byteCell ((sixteenB (t60.at_ 0).S).getD 15 0), .slice none 0 0, .map none], true⟩]) (z := .agg #[.int .i32 0, .int .i16 0, .pointer none, .map none]) (cl := clWriteShareGroupStateResponseTopicPartition) (ok := okWriteShareGroupStateResponseTopicPartition) (rel := (rvWriteShareGroupStateResponseTopicPartition v)) (L := lst (t60.at_ 1)) (size := 4) (tEWriteShareGroupStateResponseTopicPartition v) R73 (fun k => [(2, .v (.bool false)), (7, .p 0 0), (9, .v (.bool (decide (v ≥ 0)))), (10, .p 1 0), (12, .v (.slice (some ⟨g53, 0, none⟩) ((lst (T.at_ 0)).length) c54)), (13, .v (.int .i32 (((lst (T.at_ 0)).length : Nat) : Int))), (14, .v (.int .i32 ((k59 : Nat) : Int))), (16, .p 3 0), (19, .v (.slice (some ⟨g113, 0, none⟩) ((lst (t60.at_ 1)).length) c114)), (20, .v (.int .i32 (((lst (t60.at_ 1)).length : Nat) : Int))), (21, .v (.int .i32 ((k : Nat) : Int)))]) hS125 mvWriteShareGroupStateResponseTopicPartition (fun k119 t120 _ _ ht121 hk122 hS123 => ?_) (fun _ _ hS126 => ?_)
            ·
              obtain ⟨P127, hP128, hS129⟩ : ∃ P', (∀ w F, P' w F → (P67 w F ∧ doneF g113 4 clWriteShareGroupStateResponseTopicPartition okWriteShareGroupStateResponseTopicPartition (rvWriteShareGroupStateResponseTopicPartition v) (lst (t60.at_ 1)) k119 w F)) ∧ RS w (fun b o => b = bv ∧ o < 3) F 150 b13 [⟨bv, 0, [.int .i16 v, .slice none 0 0, .map none], true⟩, restO g53 18 (.agg #[.int .u8 0, .int .u8 0, .int .u8 0, .int .u8 0, .int .u8 0, .int .u8 0, .int .u8 0, .int .u8 0, .int .u8 0, .int .u8 0, .int .u8 0, .int .u8 0, .int .u8 0, .int .u8 0, .int .u8 0, .int .u8 0, .slice none 0 0, .map none]) ((lst (T.at_ 0)).length) (k59 + 1), ⟨g53, k59 * 18, [byteCell ((sixteenB (t60.at_ 0).S).getD 0 0), byteCell ((sixteenB (t60.at_ 0).S).getD 1 0), byteCell ((sixteenB (t60.at_ 0).S).getD 2 0), byteCell ((sixteenB (t60.at_ 0).S).getD 3 0), byteCell ((sixteenB (t60.at_ 0).S).getD 4 0), byteCell ((sixteenB (t60.at_ 0).S).getD 5 0), byteCell ((sixteenB (t60.at_ 0).S).getD 6 0), byteCell ((sixteenB (t60.at_ 0).S).getD 7 0), byteCell ((sixteenB (t60.at_ 0).S).getD 8 0), byteCell ((sixteenB (t60.at_ 0).S).getD 9 0), byteCell ((sixteenB (t60.at_ 0).S).getD 10 0), byteCell ((sixteenB (t60.at_ 0).S).getD 11 0), byteCell ((sixteenB (t60.at_ 0).S).getD 12 0), byteCell ((sixteenB (t60.at_ 0).S).getD 13 0), byteCell ((sixteenB (t60.at_ 0).S).getD 14 0), byteCell ((sixteenB (t60.at_ 0).S).getD 15 0), .slice none 0 0, .map none], true⟩, restO g113 4 (.agg #[.int .i32 0, .int .i16 0, .pointer none, .map none]) ((lst (t60.at_ 1)).length) k119] [(2, .v (.bool false)), (7, .p 0 0), (9, .v (.bool (decide (v ≥ 0)))), (10, .p 1 0), (12, .v (.slice (some ⟨g53, 0, none⟩) ((lst (T.at_ 0)).length) c54)), (13, .v (.int .i32 (((lst (T.at_ 0)).length : Nat) : Int))), (14, .v (.int .i32 ((k59 : Nat) : Int))), (16, .p 3 0), (19, .v (.slice (some ⟨g113, 0, none⟩) ((lst (t60.at_ 1)).length) c114)), (20, .v (.int .i32 (((lst (t60.at_ 1)).length : Nat) : Int))), (21, .v (.int .i32 ((k119 : Nat) : Int)))] P' ((tEWriteShareGroupStateResponseTopicPartition v) t120 ++ (((lst (t60.at_ 1)).drop (k119 + 1)).flatMap (tEWriteShareGroupStateResponseTopicPartition v) ++ R73)) _ _ := ⟨_, fun _ _ h => h, hS123⟩
              clear hS123
              obtain ⟨R130, hR131⟩ : ∃ R, R = ((lst (t60.at_ 1)).drop (k119 + 1)).flatMap (tEWriteShareGroupStateResponseTopicPartition v) ++ R73 := ⟨_, rfl⟩
              have e132 := (e72_1e t120 (List.mem_of_getElem? ht121))
              have e132r := (ranged_lst (ranged_at e72r 1) t120 (List.mem_of_getElem? ht121))
              unfold canWriteShareGroupStateResponseTopicPartition at e132
              obtain ⟨e132_0, e132_1, e132_2, e132_U, _⟩ := e132
              obtain ⟨R133, hR134⟩ : ∃ R, R = (if (decide (v ≥ 0)) = true then (uv t120.U.length) ++ (tagsR t120.U) else []) ++ R130 := ⟨_, rfl⟩
              obtain ⟨R135, hR136⟩ : ∃ R, R = (if (decide (v ≥ 0)) = true then (if (t120.at_ 2).null = true then uv 0 else uv ((octOf (t120.at_ 2)).length + 1) ++ (octOf (t120.at_ 2))) else (if (t120.at_ 2).null = true then be 2 (-1) else be 2 (octOf (t120.at_ 2)).length ++ (octOf (t120.at_ 2)))) ++ R133 := ⟨_, rfl⟩
              obtain ⟨R137, hR138⟩ : ∃ R, R = (be 2 ((IntKind.i16.wrap (t120.at_ 1).N))) ++ R135 := ⟨_, rfl⟩
              obtain ⟨R139, hR140⟩ : ∃ R, R = (be 4 ((IntKind.i32.wrap (t120.at_ 0).N))) ++ R137 := ⟨_, rfl⟩
              have hS141 := hS129.cast (t := R139) (by rw [hR140, hR138, hR136, hR134, ← hR131]; unfold tEWriteShareGroupStateResponseTopicPartition; simp only [List.append_assoc])
              clear hS129
              refine wp_seq ?_
              refine wp_seq ?_
              refine rs_sr [(2, .v (.bool false)), (7, .p 0 0), (9, .v (.bool (decide (v ≥ 0)))), (10, .p 1 0), (12, .v (.slice (some ⟨g53, 0, none⟩) ((lst (T.at_ 0)).length) c54)), (13, .v (.int .i32 (((lst (T.at_ 0)).length : Nat) : Int))), (14, .v (.int .i32 ((k59 : Nat) : Int))), (16, .p 3 0), (19, .v (.slice (some ⟨g113, 0, none⟩) ((lst (t60.at_ 1)).length) c114)), (20, .v (.int .i32 (((lst (t60.at_ 1)).length : Nat) : Int))), (21, .v (.int .i32 ((k119 : Nat) : Int))), (94, .v (.bool (decide (((k119 : Nat) : Int) < (((lst (t60.at_ 1)).length : Nat) : Int)))))] hS141 fun _ hS142 => then_normal ?_
              clear hS141
              refine cond_true hS142.env_ (b := decide (((k119 : Nat) : Int) < (((lst (t60.at_ 1)).length : Nat) : Int))) (by kernel_rfl) (decide_eq_true (by omega)) ?_
              refine wp_skip ?_
              refine then_normal ?_
              refine wp_seq ?_
              refine wp_block ?_
              refine wp_seq ?_
              refine rs_elem (t := 114) (e := 121) (size := 4) (bytes := 24) (d := 99) (tb := [⟨bv, 0, [.int .i16 v, .slice none 0 0, .map none], true⟩, restO g53 18 (.agg #[.int .u8 0, .int .u8 0, .int .u8 0, .int .u8 0, .int .u8 0, .int .u8 0, .int .u8 0, .int .u8 0, .int .u8 0, .int .u8 0, .int .u8 0, .int .u8 0, .int .u8 0, .int .u8 0, .int .u8 0, .int .u8 0, .slice none 0 0, .map none]) ((lst (T.at_ 0)).length) (k59 + 1), ⟨g53, k59 * 18, [byteCell ((sixteenB (t60.at_ 0).S).getD 0 0), byteCell ((sixteenB (t60.at_ 0).S).getD 1 0), byteCell ((sixteenB (t60.at_ 0).S).getD 2 0), byteCell ((sixteenB (t60.at_ 0).S).getD 3 0), byteCell ((sixteenB (t60.at_ 0).S).getD 4 0), byteCell ((sixteenB (t60.at_ 0).S).getD 5 0), byteCell ((sixteenB (t60.at_ 0).S).getD 6 0), byteCell ((sixteenB (t60.at_ 0).S).getD 7 0), byteCell ((sixteenB (t60.at_ 0).S).getD 8 0), byteCell ((sixteenB (t60.at_ 0).S).getD 9 0), byteCell ((sixteenB (t60.at_ 0).S).getD 10 0), byteCell ((sixteenB (t60.at_ 0).S).getD 11 0), byteCell ((sixteenB (t60.at_ 0).S).getD 12 0), byteCell ((sixteenB (t60.at_ 0).S).getD 13 0), byteCell ((sixteenB (t60.at_ 0).S).getD 14 0), byteCell ((sixteenB (t60.at_ 0).S).getD 15 0), .slice none 0 0, .map none], true⟩]) (z := .agg #[.int .i32 0, .int .i16 0, .pointer none, .map none]) [(2, .v (.bool false)), (7, .p 0 0), (9, .v (.bool (decide (v ≥ 0)))), (10, .p 1 0), (12, .v (.slice (some ⟨g53, 0, none⟩) ((lst (T.at_ 0)).length) c54)), (13, .v (.int .i32 (((lst (T.at_ 0)).length : Nat) : Int))), (14, .v (.int .i32 ((k59 : Nat) : Int))), (16, .p 3 0), (19, .v (.slice (some ⟨g113, 0, none⟩) ((lst (t60.at_ 1)).length) c114)), (20, .v (.int .i32 (((lst (t60.at_ 1)).length : Nat) : Int))), (21, .v (.int .i32 ((k119 : Nat) : Int))), (97, .v (.slice (some ⟨g113, 0, none⟩) ((lst (t60.at_ 1)).length) c114)), (98, .v (.int .i32 ((k119 : Nat) : Int)))] [(2, .v (.bool false)), (7, .p 0 0), (9, .v (.bool (decide (v ≥ 0)))), (10, .p 1 0), (12, .v (.slice (some ⟨g53, 0, none⟩) ((lst (T.at_ 0)).length) c54)), (13, .v (.int .i32 (((lst (T.at_ 0)).length : Nat) : Int))), (14, .v (.int .i32 ((k59 : Nat) : Int))), (16, .p 3 0), (19, .v (.slice (some ⟨g113, 0, none⟩) ((lst (t60.at_ 1)).length) c114)), (20, .v (.int .i32 (((lst (t60.at_ 1)).length : Nat) : Int))), (21, .v (.int .i32 ((k119 : Nat) : Int))), (22, .p 5 0)] 2 hS142 hk122 rfl (by kernel_rfl) fun _ hS143 => ?_
              clear hS142
              have hS144 := hS143.tbEq (tb' := [⟨bv, 0, [.int .i16 v, .slice none 0 0, .map none], true⟩, restO g53 18 (.agg #[.int .u8 0, .int .u8 0, .int .u8 0, .int .u8 0, .int .u8 0, .int .u8 0, .int .u8 0, .int .u8 0, .int .u8 0, .int .u8 0, .int .u8 0, .int .u8 0, .int .u8 0, .int .u8 0, .int .u8 0, .int .u8 0, .slice none 0 0, .map none]) ((lst (T.at_ 0)).length) (k59 + 1), ⟨g53, k59 * 18, [byteCell ((sixteenB (t60.at_ 0).S).getD 0 0), byteCell ((sixteenB (t60.at_ 0).S).getD 1 0), byteCell ((sixteenB (t60.at_ 0).S).getD 2 0), byteCell ((sixteenB (t60.at_ 0).S).getD 3 0), byteCell ((sixteenB (t60.at_ 0).S).getD 4 0), byteCell ((sixteenB (t60.at_ 0).S).getD 5 0), byteCell ((sixteenB (t60.at_ 0).S).getD 6 0), byteCell ((sixteenB (t60.at_ 0).S).getD 7 0), byteCell ((sixteenB (t60.at_ 0).S).getD 8 0), byteCell ((sixteenB (t60.at_ 0).S).getD 9 0), byteCell ((sixteenB (t60.at_ 0).S).getD 10 0), byteCell ((sixteenB (t60.at_ 0).S).getD 11 0), byteCell ((sixteenB (t60.at_ 0).S).getD 12 0), byteCell ((sixteenB (t60.at_ 0).S).getD 13 0), byteCell ((sixteenB (t60.at_ 0).S).getD 14 0), byteCell ((sixteenB (t60.at_ 0).S).getD 15 0), .slice none 0 0, .map none], true⟩, restO g113 4 (.agg #[.int .i32 0, .int .i16 0, .pointer none, .map none]) ((lst (t60.at_ 1)).length) (k119 + 1), ⟨g113, k119 * 4, [.int .i32 0, .int .i16 0, .pointer none, .map none], true⟩]) rfl
              clear hS143
              refine then_normal ?_
              refine wp_seq ?_
              refine go_region [0, 1] (by kernel_rfl) ?_
              refine rs_rn [0] [1] [(2, .v (.bool false)), (7, .p 0 0), (9, .v (.bool (decide (v ≥ 0)))), (10, .p 1 0), (12, .v (.slice (some ⟨g53, 0, none⟩) ((lst (T.at_ 0)).length) c54)), (13, .v (.int .i32 (((lst (T.at_ 0)).length : Nat) : Int))), (14, .v (.int .i32 ((k59 : Nat) : Int))), (16, .p 3 0), (19, .v (.slice (some ⟨g113, 0, none⟩) ((lst (t60.at_ 1)).length) c114)), (20, .v (.int .i32 (((lst (t60.at_ 1)).length : Nat) : Int))), (21, .v (.int .i32 ((k119 : Nat) : Int))), (22, .p 5 0), (100, .p 5 0)] hS144 fun _ hS145 => ?_
              clear hS144
              refine of_op (rs_nop (d := 101) (vs := [.pointer (some ⟨g113, k119 * 4, none⟩)]) hS145 (fun _ => nop160 _ _ _) Tryz.call160 fun _ hS146 => ?_)
              clear hS145
              refine wpOps_nil ?_
              have hS147 := hS146.pk (env' := [(2, .v (.bool false)), (7, .p 0 0), (9, .v (.bool (decide (v ≥ 0)))), (10, .p 1 0), (12, .v (.slice (some ⟨g53, 0, none⟩) ((lst (T.at_ 0)).length) c54)), (13, .v (.int .i32 (((lst (T.at_ 0)).length : Nat) : Int))), (14, .v (.int .i32 ((k59 : Nat) : Int))), (16, .p 3 0), (19, .v (.slice (some ⟨g113, 0, none⟩) ((lst (t60.at_ 1)).length) c114)), (20, .v (.int .i32 (((lst (t60.at_ 1)).length : Nat) : Int))), (21, .v (.int .i32 ((k119 : Nat) : Int))), (22, .p 5 0)])
              clear hS146
              refine then_normal ?_
              refine wp_seq ?_
              refine rs_sr [(2, .v (.bool false)), (7, .p 0 0), (9, .v (.bool (decide (v ≥ 0)))), (10, .p 1 0), (12, .v (.slice (some ⟨g53, 0, none⟩) ((lst (T.at_ 0)).length) c54)), (13, .v (.int .i32 (((lst (T.at_ 0)).length : Nat) : Int))), (14, .v (.int .i32 ((k59 : Nat) : Int))), (16, .p 3 0), (19, .v (.slice (some ⟨g113, 0, none⟩) ((lst (t60.at_ 1)).length) c114)), (20, .v (.int .i32 (((lst (t60.at_ 1)).length : Nat) : Int))), (21, .v (.int .i32 ((k119 : Nat) : Int))), (23, .p 5 0)] hS147 fun _ hS148 => ?_
              clear hS147
              refine then_normal ?_
              refine wp_seq ?_
              refine wp_seq ?_
              have hS149 := hS148.cast hR140
              clear hS148
              refine rs_ca0 (d := 103) [(2, .v (.bool false)), (7, .p 0 0), (9, .v (.bool (decide (v ≥ 0)))), (10, .p 1 0), (12, .v (.slice (some ⟨g53, 0, none⟩) ((lst (T.at_ 0)).length) c54)), (13, .v (.int .i32 (((lst (T.at_ 0)).length : Nat) : Int))), (14, .v (.int .i32 ((k59 : Nat) : Int))), (16, .p 3 0), (19, .v (.slice (some ⟨g113, 0, none⟩) ((lst (t60.at_ 1)).length) c114)), (20, .v (.int .i32 (((lst (t60.at_ 1)).length : Nat) : Int))), (21, .v (.int .i32 ((k119 : Nat) : Int))), (23, .p 5 0), (24, .v (.int .i32 (IntKind.i32.wrap (t120.at_ 0).N)))] hS149 (pInt32 _ _) Tryz.call153 fun _ _ hS151 => ?_
              clear hS149
              refine then_normal ?_
              refine rs_sto [⟨bv, 0, [.int .i16 v, .slice none 0 0, .map none], true⟩, restO g53 18 (.agg #[.int .u8 0, .int .u8 0, .int .u8 0, .int .u8 0, .int .u8 0, .int .u8 0, .int .u8 0, .int .u8 0, .int .u8 0, .int .u8 0, .int .u8 0, .int .u8 0, .int .u8 0, .int .u8 0, .int .u8 0, .int .u8 0, .slice none 0 0, .map none]) ((lst (T.at_ 0)).length) (k59 + 1), ⟨g53, k59 * 18, [byteCell ((sixteenB (t60.at_ 0).S).getD 0 0), byteCell ((sixteenB (t60.at_ 0).S).getD 1 0), byteCell ((sixteenB (t60.at_ 0).S).getD 2 0), byteCell ((sixteenB (t60.at_ 0).S).getD 3 0), byteCell ((sixteenB (t60.at_ 0).S).getD 4 0), byteCell ((sixteenB (t60.at_ 0).S).getD 5 0), byteCell ((sixteenB (t60.at_ 0).S).getD 6 0), byteCell ((sixteenB (t60.at_ 0).S).getD 7 0), byteCell ((sixteenB (t60.at_ 0).S).getD 8 0), byteCell ((sixteenB (t60.at_ 0).S).getD 9 0), byteCell ((sixteenB (t60.at_ 0).S).getD 10 0), byteCell ((sixteenB (t60.at_ 0).S).getD 11 0), byteCell ((sixteenB (t60.at_ 0).S).getD 12 0), byteCell ((sixteenB (t60.at_ 0).S).getD 13 0), byteCell ((sixteenB (t60.at_ 0).S).getD 14 0), byteCell ((sixteenB (t60.at_ 0).S).getD 15 0), .slice none 0 0, .map none], true⟩, restO g113 4 (.agg #[.int .i32 0, .int .i16 0, .pointer none, .map none]) ((lst (t60.at_ 1)).length) (k119 + 1), ⟨g113, k119 * 4, [.int .i32 (IntKind.i32.wrap (t120.at_ 0).N), .int .i16 0, .pointer none, .map none], true⟩] 4 [(2, .v (.bool false)), (7, .p 0 0), (9, .v (.bool (decide (v ≥ 0)))), (10, .p 1 0), (12, .v (.slice (some ⟨g53, 0, none⟩) ((lst (T.at_ 0)).length) c54)), (13, .v (.int .i32 (((lst (T.at_ 0)).length : Nat) : Int))), (14, .v (.int .i32 ((k59 : Nat) : Int))), (16, .p 3 0), (19, .v (.slice (some ⟨g113, 0, none⟩) ((lst (t60.at_ 1)).length) c114)), (20, .v (.int .i32 (((lst (t60.at_ 1)).length : Nat) : Int))), (21, .v (.int .i32 ((k119 : Nat) : Int))), (23, .p 5 0)] hS151 fun _ _ hS152 => ?_
              clear hS151
              refine then_normal ?_
              refine wp_seq ?_
              refine wp_seq ?_
              have hS153 := hS152.cast hR138
              clear hS152
              refine rs_ca0 (d := 108) [(2, .v (.bool false)), (7, .p 0 0), (9, .v (.bool (decide (v ≥ 0)))), (10, .p 1 0), (12, .v (.slice (some ⟨g53, 0, none⟩) ((lst (T.at_ 0)).length) c54)), (13, .v (.int .i32 (((lst (T.at_ 0)).length : Nat) : Int))), (14, .v (.int .i32 ((k59 : Nat) : Int))), (16, .p 3 0), (19, .v (.slice (some ⟨g113, 0, none⟩) ((lst (t60.at_ 1)).length) c114)), (20, .v (.int .i32 (((lst (t60.at_ 1)).length : Nat) : Int))), (21, .v (.int .i32 ((k119 : Nat) : Int))), (23, .p 5 0), (25, .v (.int .i16 (IntKind.i16.wrap (t120.at_ 1).N)))] hS153 (pInt16 _ _) Tryz.call161 fun _ _ hS155 => ?_
              clear hS153
              refine then_normal ?_
              refine rs_sto [⟨bv, 0, [.int .i16 v, .slice none 0 0, .map none], true⟩, restO g53 18 (.agg #[.int .u8 0, .int .u8 0, .int .u8 0, .int .u8 0, .int .u8 0, .int .u8 0, .int .u8 0, .int .u8 0, .int .u8 0, .int .u8 0, .int .u8 0, .int .u8 0, .int .u8 0, .int .u8 0, .int .u8 0, .int .u8 0, .slice none 0 0, .map none]) ((lst (T.at_ 0)).length) (k59 + 1), ⟨g53, k59 * 18, [byteCell ((sixteenB (t60.at_ 0).S).getD 0 0), byteCell ((sixteenB (t60.at_ 0).S).getD 1 0), byteCell ((sixteenB (t60.at_ 0).S).getD 2 0), byteCell ((sixteenB (t60.at_ 0).S).getD 3 0), byteCell ((sixteenB (t60.at_ 0).S).getD 4 0), byteCell ((sixteenB (t60.at_ 0).S).getD 5 0), byteCell ((sixteenB (t60.at_ 0).S).getD 6 0), byteCell ((sixteenB (t60.at_ 0).S).getD 7 0), byteCell ((sixteenB (t60.at_ 0).S).getD 8 0), byteCell ((sixteenB (t60.at_ 0).S).getD 9 0), byteCell ((sixteenB (t60.at_ 0).S).getD 10 0), byteCell ((sixteenB (t60.at_ 0).S).getD 11 0), byteCell ((sixteenB (t60.at_ 0).S).getD 12 0), byteCell ((sixteenB (t60.at_ 0).S).getD 13 0), byteCell ((sixteenB (t60.at_ 0).S).getD 14 0), byteCell ((sixteenB (t60.at_ 0).S).getD 15 0), .slice none 0 0, .map none], true⟩, restO g113 4 (.agg #[.int .i32 0, .int .i16 0, .pointer none, .map none]) ((lst (t60.at_ 1)).length) (k119 + 1), ⟨g113, k119 * 4, [.int .i32 (IntKind.i32.wrap (t120.at_ 0).N), .int .i16 (IntKind.i16.wrap (t120.at_ 1).N), .pointer none, .map none], true⟩] 4 [(2, .v (.bool false)), (7, .p 0 0), (9, .v (.bool (decide (v ≥ 0)))), (10, .p 1 0), (12, .v (.slice (some ⟨g53, 0, none⟩) ((lst (T.at_ 0)).length) c54)), (13, .v (.int .i32 (((lst (T.at_ 0)).length : Nat) : Int))), (14, .v (.int .i32 ((k59 : Nat) : Int))), (16, .p 3 0), (19, .v (.slice (some ⟨g113, 0, none⟩) ((lst (t60.at_ 1)).length) c114)), (20, .v (.int .i32 (((lst (t60.at_ 1)).length : Nat) : Int))), (21, .v (.int .i32 ((k119 : Nat) : Int))), (23, .p 5 0)] hS155 fun _ _ hS156 => ?_
              clear hS155
              refine then_normal ?_
              refine wp_seq ?_
              refine wp_seq ?_
              refine rs_sr [(2, .v (.bool false)), (7, .p 0 0), (9, .v (.bool (decide (v ≥ 0)))), (10, .p 1 0), (12, .v (.slice (some ⟨g53, 0, none⟩) ((lst (T.at_ 0)).length) c54)), (13, .v (.int .i32 (((lst (T.at_ 0)).length : Nat) : Int))), (14, .v (.int .i32 ((k59 : Nat) : Int))), (16, .p 3 0), (19, .v (.slice (some ⟨g113, 0, none⟩) ((lst (t60.at_ 1)).length) c114)), (20, .v (.int .i32 (((lst (t60.at_ 1)).length : Nat) : Int))), (21, .v (.int .i32 ((k119 : Nat) : Int))), (23, .p 5 0)] hS156 fun _ hS157 => ?_
              clear hS156
              refine then_normal ?_
              refine wp_seq ?_
              have hS158 := hS157.cast hR136
              clear hS157
              refine wp_joinN (Mid := fun a_ w_ => ∃ (x159 : Option Addr) (P' : FactW), (∀ w F, P' w F → P127 w F ∧ textF x159 (octOf (t120.at_ 2)) w F ∧ x159.isNone = (t120.at_ 2).null) ∧ RS w (fun b o => b = bv ∧ o < 3) F 150 b13 [⟨bv, 0, [.int .i16 v, .slice none 0 0, .map none], true⟩, restO g53 18 (.agg #[.int .u8 0, .int .u8 0, .int .u8 0, .int .u8 0, .int .u8 0, .int .u8 0, .int .u8 0, .int .u8 0, .int .u8 0, .int .u8 0, .int .u8 0, .int .u8 0, .int .u8 0, .int .u8 0, .int .u8 0, .int .u8 0, .slice none 0 0, .map none]) ((lst (T.at_ 0)).length) (k59 + 1), ⟨g53, k59 * 18, [byteCell ((sixteenB (t60.at_ 0).S).getD 0 0), byteCell ((sixteenB (t60.at_ 0).S).getD 1 0), byteCell ((sixteenB (t60.at_ 0).S).getD 2 0), byteCell ((sixteenB (t60.at_ 0).S).getD 3 0), byteCell ((sixteenB (t60.at_ 0).S).getD 4 0), byteCell ((sixteenB (t60.at_ 0).S).getD 5 0), byteCell ((sixteenB (t60.at_ 0).S).getD 6 0), byteCell ((sixteenB (t60.at_ 0).S).getD 7 0), byteCell ((sixteenB (t60.at_ 0).S).getD 8 0), byteCell ((sixteenB (t60.at_ 0).S).getD 9 0), byteCell ((sixteenB (t60.at_ 0).S).getD 10 0), byteCell ((sixteenB (t60.at_ 0).S).getD 11 0), byteCell ((sixteenB (t60.at_ 0).S).getD 12 0), byteCell ((sixteenB (t60.at_ 0).S).getD 13 0), byteCell ((sixteenB (t60.at_ 0).S).getD 14 0), byteCell ((sixteenB (t60.at_ 0).S).getD 15 0), .slice none 0 0, .map none], true⟩, restO g113 4 (.agg #[.int .i32 0, .int .i16 0, .pointer none, .map none]) ((lst (t60.at_ 1)).length) (k119 + 1), ⟨g113, k119 * 4, [.int .i32 (IntKind.i32.wrap (t120.at_ 0).N), .int .i16 (IntKind.i16.wrap (t120.at_ 1).N), .pointer none, .map none], true⟩] [(2, .v (.bool false)), (7, .p 0 0), (9, .v (.bool (decide (v ≥ 0)))), (10, .p 1 0), (12, .v (.slice (some ⟨g53, 0, none⟩) ((lst (T.at_ 0)).length) c54)), (13, .v (.int .i32 (((lst (T.at_ 0)).length : Nat) : Int))), (14, .v (.int .i32 ((k59 : Nat) : Int))), (16, .p 3 0), (19, .v (.slice (some ⟨g113, 0, none⟩) ((lst (t60.at_ 1)).length) c114)), (20, .v (.int .i32 (((lst (t60.at_ 1)).length : Nat) : Int))), (21, .v (.int .i32 ((k119 : Nat) : Int))), (23, .p 5 0), (26, .v (.pointer x159))] P' R133 a_ w_) ?_ ?_
              ·
                refine wp_seq ?_
                refine rs_sr [(2, .v (.bool false)), (7, .p 0 0), (9, .v (.bool (decide (v ≥ 0)))), (10, .p 1 0), (12, .v (.slice (some ⟨g53, 0, none⟩) ((lst (T.at_ 0)).length) c54)), (13, .v (.int .i32 (((lst (T.at_ 0)).length : Nat) : Int))), (14, .v (.int .i32 ((k59 : Nat) : Int))), (16, .p 3 0), (19, .v (.slice (some ⟨g113, 0, none⟩) ((lst (t60.at_ 1)).length) c114)), (20, .v (.int .i32 (((lst (t60.at_ 1)).length : Nat) : Int))), (21, .v (.int .i32 ((k119 : Nat) : Int))), (23, .p 5 0), (113, .v (.bool (decide (v ≥ 0))))] hS158 fun _ hS163 => then_normal ?_
                clear hS158
                refine cond_of hS163.env_ (b := decide (v ≥ 0)) (by kernel_rfl) (fun hc164 => ?_) (fun hc164 => ?_)
                ·
                  have hS165 := hS163.cast (t := (if (t120.at_ 2).null = true then uv 0 else uv ((octOf (t120.at_ 2)).length + 1) ++ (octOf (t120.at_ 2))) ++ R133) (by rw [if_pos hc164])
                  clear hS163
                  refine wp_seq ?_
                  refine rs_sr [(2, .v (.bool false)), (7, .p 0 0), (9, .v (.bool (decide (v ≥ 0)))), (10, .p 1 0), (12, .v (.slice (some ⟨g53, 0, none⟩) ((lst (T.at_ 0)).length) c54)), (13, .v (.int .i32 (((lst (T.at_ 0)).length : Nat) : Int))), (14, .v (.int .i32 ((k59 : Nat) : Int))), (16, .p 3 0), (19, .v (.slice (some ⟨g113, 0, none⟩) ((lst (t60.at_ 1)).length) c114)), (20, .v (.int .i32 (((lst (t60.at_ 1)).length : Nat) : Int))), (21, .v (.int .i32 ((k119 : Nat) : Int))), (23, .p 5 0), (114, .v (.bool false))] hS165 fun _ hS166 => then_normal ?_
                  clear hS165
                  refine cond_false hS166.env_ (b := false) (by kernel_rfl) (rfl) ?_
                  refine rs_ca (d := 116) (fun x167 => [(2, .v (.bool false)), (7, .p 0 0), (9, .v (.bool (decide (v ≥ 0)))), (10, .p 1 0), (12, .v (.slice (some ⟨g53, 0, none⟩) ((lst (T.at_ 0)).length) c54)), (13, .v (.int .i32 (((lst (T.at_ 0)).length : Nat) : Int))), (14, .v (.int .i32 ((k59 : Nat) : Int))), (16, .p 3 0), (19, .v (.slice (some ⟨g113, 0, none⟩) ((lst (t60.at_ 1)).length) c114)), (20, .v (.int .i32 (((lst (t60.at_ 1)).length : Nat) : Int))), (21, .v (.int .i32 ((k119 : Nat) : Int))), (23, .p 5 0), (26, .v (.pointer x167))]) hS166 (pCompactNullableString (t120.at_ 2).null (octOf (t120.at_ 2)) e132_2 _) (fun _ => (MvF.text _ _).and (MvF.is _)) Tryz.call163 fun x167 P169 _ _ hP170 hS168 => ?_
                  clear hS166
                  refine then_normal ?_
                  exact ⟨x167, _, fun w F h_ => ⟨(hP170 _ _ h_).1, (hP170 _ _ h_).2⟩, hS168.pk (env' := [(2, .v (.bool false)), (7, .p 0 0), (9, .v (.bool (decide (v ≥ 0)))), (10, .p 1 0), (12, .v (.slice (some ⟨g53, 0, none⟩) ((lst (T.at_ 0)).length) c54)), (13, .v (.int .i32 (((lst (T.at_ 0)).length : Nat) : Int))), (14, .v (.int .i32 ((k59 : Nat) : Int))), (16, .p 3 0), (19, .v (.slice (some ⟨g113, 0, none⟩) ((lst (t60.at_ 1)).length) c114)), (20, .v (.int .i32 (((lst (t60.at_ 1)).length : Nat) : Int))), (21, .v (.int .i32 ((k119 : Nat) : Int))), (23, .p 5 0), (26, .v (.pointer x167))])⟩
                ·
                  have hS171 := hS163.cast (t := (if (t120.at_ 2).null = true then be 2 (-1) else be 2 (octOf (t120.at_ 2)).length ++ (octOf (t120.at_ 2))) ++ R133) (by rw [if_neg (by rw [hc164]; decide)])
                  clear hS163
                  refine wp_seq ?_
                  refine rs_sr [(2, .v (.bool false)), (7, .p 0 0), (9, .v (.bool (decide (v ≥ 0)))), (10, .p 1 0), (12, .v (.slice (some ⟨g53, 0, none⟩) ((lst (T.at_ 0)).length) c54)), (13, .v (.int .i32 (((lst (T.at_ 0)).length : Nat) : Int))), (14, .v (.int .i32 ((k59 : Nat) : Int))), (16, .p 3 0), (19, .v (.slice (some ⟨g113, 0, none⟩) ((lst (t60.at_ 1)).length) c114)), (20, .v (.int .i32 (((lst (t60.at_ 1)).length : Nat) : Int))), (21, .v (.int .i32 ((k119 : Nat) : Int))), (23, .p 5 0), (117, .v (.bool false))] hS171 fun _ hS172 => then_normal ?_
                  clear hS171
                  refine cond_false hS172.env_ (b := false) (by kernel_rfl) (rfl) ?_
                  refine rs_ca (d := 119) (fun x173 => [(2, .v (.bool false)), (7, .p 0 0), (9, .v (.bool (decide (v ≥ 0)))), (10, .p 1 0), (12, .v (.slice (some ⟨g53, 0, none⟩) ((lst (T.at_ 0)).length) c54)), (13, .v (.int .i32 (((lst (T.at_ 0)).length : Nat) : Int))), (14, .v (.int .i32 ((k59 : Nat) : Int))), (16, .p 3 0), (19, .v (.slice (some ⟨g113, 0, none⟩) ((lst (t60.at_ 1)).length) c114)), (20, .v (.int .i32 (((lst (t60.at_ 1)).length : Nat) : Int))), (21, .v (.int .i32 ((k119 : Nat) : Int))), (23, .p 5 0), (26, .v (.pointer x173))]) hS172 (pNullableString (t120.at_ 2).null (octOf (t120.at_ 2)) e132_2 _) (fun _ => (MvF.text _ _).and (MvF.is _)) Tryz.call165 fun x173 P175 _ _ hP176 hS174 => ?_
                  clear hS172
                  refine then_normal ?_
                  exact ⟨x173, _, fun w F h_ => ⟨(hP176 _ _ h_).1, (hP176 _ _ h_).2⟩, hS174.pk (env' := [(2, .v (.bool false)), (7, .p 0 0), (9, .v (.bool (decide (v ≥ 0)))), (10, .p 1 0), (12, .v (.slice (some ⟨g53, 0, none⟩) ((lst (T.at_ 0)).length) c54)), (13, .v (.int .i32 (((lst (T.at_ 0)).length : Nat) : Int))), (14, .v (.int .i32 ((k59 : Nat) : Int))), (16, .p 3 0), (19, .v (.slice (some ⟨g113, 0, none⟩) ((lst (t60.at_ 1)).length) c114)), (20, .v (.int .i32 (((lst (t60.at_ 1)).length : Nat) : Int))), (21, .v (.int .i32 ((k119 : Nat) : Int))), (23, .p 5 0), (26, .v (.pointer x173))])⟩
              rintro _ _ ⟨x159, P160, hP161, hS162⟩
              refine then_normal ?_
              refine rs_sto [⟨bv, 0, [.int .i16 v, .slice none 0 0, .map none], true⟩, restO g53 18 (.agg #[.int .u8 0, .int .u8 0, .int .u8 0, .int .u8 0, .int .u8 0, .int .u8 0, .int .u8 0, .int .u8 0, .int .u8 0, .int .u8 0, .int .u8 0, .int .u8 0, .int .u8 0, .int .u8 0, .int .u8 0, .int .u8 0, .slice none 0 0, .map none]) ((lst (T.at_ 0)).length) (k59 + 1), ⟨g53, k59 * 18, [byteCell ((sixteenB (t60.at_ 0).S).getD 0 0), byteCell ((sixteenB (t60.at_ 0).S).getD 1 0), byteCell ((sixteenB (t60.at_ 0).S).getD 2 0), byteCell ((sixteenB (t60.at_ 0).S).getD 3 0), byteCell ((sixteenB (t60.at_ 0).S).getD 4 0), byteCell ((sixteenB (t60.at_ 0).S).getD 5 0), byteCell ((sixteenB (t60.at_ 0).S).getD 6 0), byteCell ((sixteenB (t60.at_ 0).S).getD 7 0), byteCell ((sixteenB (t60.at_ 0).S).getD 8 0), byteCell ((sixteenB (t60.at_ 0).S).getD 9 0), byteCell ((sixteenB (t60.at_ 0).S).getD 10 0), byteCell ((sixteenB (t60.at_ 0).S).getD 11 0), byteCell ((sixteenB (t60.at_ 0).S).getD 12 0), byteCell ((sixteenB (t60.at_ 0).S).getD 13 0), byteCell ((sixteenB (t60.at_ 0).S).getD 14 0), byteCell ((sixteenB (t60.at_ 0).S).getD 15 0), .slice none 0 0, .map none], true⟩, restO g113 4 (.agg #[.int .i32 0, .int .i16 0, .pointer none, .map none]) ((lst (t60.at_ 1)).length) (k119 + 1), ⟨g113, k119 * 4, [.int .i32 (IntKind.i32.wrap (t120.at_ 0).N), .int .i16 (IntKind.i16.wrap (t120.at_ 1).N), .pointer x159, .map none], true⟩] 4 [(2, .v (.bool false)), (7, .p 0 0), (9, .v (.bool (decide (v ≥ 0)))), (10, .p 1 0), (12, .v (.slice (some ⟨g53, 0, none⟩) ((lst (T.at_ 0)).length) c54)), (13, .v (.int .i32 (((lst (T.at_ 0)).length : Nat) : Int))), (14, .v (.int .i32 ((k59 : Nat) : Int))), (16, .p 3 0), (19, .v (.slice (some ⟨g113, 0, none⟩) ((lst (t60.at_ 1)).length) c114)), (20, .v (.int .i32 (((lst (t60.at_ 1)).length : Nat) : Int))), (21, .v (.int .i32 ((k119 : Nat) : Int))), (23, .p 5 0)] hS162 fun _ _ hS177 => ?_
              clear hS162
              refine then_normal ?_
              have hS178 := hS177.cast hR134
              clear hS177
              refine wp_joinN (Mid := fun a_ w_ => ∃ (m180 : Option Nat) (u181 : List (Int × Bs)) (P' : FactW), (∀ w F, P' w F → P160 w F ∧ (MapR w F m180 u181 ∧ u181.length ≤ 1000000 ∧ ∀ x ∈ u181, x.2.length < 4294967296) ∧ ((decide (v ≥ 0)) = true → u181 = t120.U) ∧ ((decide (v ≥ 0)) = false → u181 = [])) ∧ RS w (fun b o => b = bv ∧ o < 3) F 150 b13 [⟨bv, 0, [.int .i16 v, .slice none 0 0, .map none], true⟩, restO g53 18 (.agg #[.int .u8 0, .int .u8 0, .int .u8 0, .int .u8 0, .int .u8 0, .int .u8 0, .int .u8 0, .int .u8 0, .int .u8 0, .int .u8 0, .int .u8 0, .int .u8 0, .int .u8 0, .int .u8 0, .int .u8 0, .int .u8 0, .slice none 0 0, .map none]) ((lst (T.at_ 0)).length) (k59 + 1), ⟨g53, k59 * 18, [byteCell ((sixteenB (t60.at_ 0).S).getD 0 0), byteCell ((sixteenB (t60.at_ 0).S).getD 1 0), byteCell ((sixteenB (t60.at_ 0).S).getD 2 0), byteCell ((sixteenB (t60.at_ 0).S).getD 3 0), byteCell ((sixteenB (t60.at_ 0).S).getD 4 0), byteCell ((sixteenB (t60.at_ 0).S).getD 5 0), byteCell ((sixteenB (t60.at_ 0).S).getD 6 0), byteCell ((sixteenB (t60.at_ 0).S).getD 7 0), byteCell ((sixteenB (t60.at_ 0).S).getD 8 0), byteCell ((sixteenB (t60.at_ 0).S).getD 9 0), byteCell ((sixteenB (t60.at_ 0).S).getD 10 0), byteCell ((sixteenB (t60.at_ 0).S).getD 11 0), byteCell ((sixteenB (t60.at_ 0).S).getD 12 0), byteCell ((sixteenB (t60.at_ 0).S).getD 13 0), byteCell ((sixteenB (t60.at_ 0).S).getD 14 0), byteCell ((sixteenB (t60.at_ 0).S).getD 15 0), .slice none 0 0, .map none], true⟩, restO g113 4 (.agg #[.int .i32 0, .int .i16 0, .pointer none, .map none]) ((lst (t60.at_ 1)).length) (k119 + 1), ⟨g113, k119 * 4, [.int .i32 (IntKind.i32.wrap (t120.at_ 0).N), .int .i16 (IntKind.i16.wrap (t120.at_ 1).N), .pointer x159, .map m180], true⟩] [(2, .v (.bool false)), (7, .p 0 0), (9, .v (.bool (decide (v ≥ 0)))), (10, .p 1 0), (12, .v (.slice (some ⟨g53, 0, none⟩) ((lst (T.at_ 0)).length) c54)), (13, .v (.int .i32 (((lst (T.at_ 0)).length : Nat) : Int))), (14, .v (.int .i32 ((k59 : Nat) : Int))), (16, .p 3 0), (19, .v (.slice (some ⟨g113, 0, none⟩) ((lst (t60.at_ 1)).length) c114)), (20, .v (.int .i32 (((lst (t60.at_ 1)).length : Nat) : Int))), (21, .v (.int .i32 ((k119 : Nat) : Int)))] P' R130 a_ w_) ?_ ?_
              ·
                refine wp_seq ?_
                refine rs_sr [(2, .v (.bool false)), (7, .p 0 0), (9, .v (.bool (decide (v ≥ 0)))), (10, .p 1 0), (12, .v (.slice (some ⟨g53, 0, none⟩) ((lst (T.at_ 0)).length) c54)), (13, .v (.int .i32 (((lst (T.at_ 0)).length : Nat) : Int))), (14, .v (.int .i32 ((k59 : Nat) : Int))), (16, .p 3 0), (19, .v (.slice (some ⟨g113, 0, none⟩) ((lst (t60.at_ 1)).length) c114)), (20, .v (.int .i32 (((lst (t60.at_ 1)).length : Nat) : Int))), (21, .v (.int .i32 ((k119 : Nat) : Int))), (23, .p 5 0), (124, .v (.bool (decide (v ≥ 0))))] hS178 fun _ hS185 => then_normal ?_
                clear hS178
                refine cond_of hS185.env_ (b := decide (v ≥ 0)) (by kernel_rfl) (fun hc186 => ?_) (fun hc186 => ?_)
                ·
                  have hS187 := hS185.cast (t := ((uv t120.U.length) ++ (tagsR t120.U)) ++ R130) (by rw [if_pos hc186])
                  clear hS185
                  refine go_region [0, 1, 2, 3, 4] (by kernel_rfl) ?_
                  refine rs_rn [0] [1, 2, 3, 4] [(2, .v (.bool false)), (7, .p 0 0), (9, .v (.bool (decide (v ≥ 0)))), (10, .p 1 0), (12, .v (.slice (some ⟨g53, 0, none⟩) ((lst (T.at_ 0)).length) c54)), (13, .v (.int .i32 (((lst (T.at_ 0)).length : Nat) : Int))), (14, .v (.int .i32 ((k59 : Nat) : Int))), (16, .p 3 0), (19, .v (.slice (some ⟨g113, 0, none⟩) ((lst (t60.at_ 1)).length) c114)), (20, .v (.int .i32 (((lst (t60.at_ 1)).length : Nat) : Int))), (21, .v (.int .i32 ((k119 : Nat) : Int))), (125, .p 5 0)] hS187 fun _ hS188 => ?_
                  clear hS187
                  refine of_op (rs_call (d := 126) hS188 (pTags t120.U e132_U (ranged_U e132r) _) (fun _ => MvF.tags _ _) Tryz.call154 fun m189 P190 _ _ hP191 hS192 => ?_)
                  clear hS188
                  refine rs_rn [2, 3] [4] [(2, .v (.bool false)), (7, .p 0 0), (9, .v (.bool (decide (v ≥ 0)))), (10, .p 1 0), (12, .v (.slice (some ⟨g53, 0, none⟩) ((lst (T.at_ 0)).length) c54)), (13, .v (.int .i32 (((lst (T.at_ 0)).length : Nat) : Int))), (14, .v (.int .i32 ((k59 : Nat) : Int))), (16, .p 3 0), (19, .v (.slice (some ⟨g113, 0, none⟩) ((lst (t60.at_ 1)).length) c114)), (20, .v (.int .i32 (((lst (t60.at_ 1)).length : Nat) : Int))), (21, .v (.int .i32 ((k119 : Nat) : Int))), (126, .v (.agg #[.map m189])), (128, .p 5 3)] hS192 fun _ hS193 => ?_
                  clear hS192
                  refine of_op (rs_store [⟨bv, 0, [.int .i16 v, .slice none 0 0, .map none], true⟩, restO g53 18 (.agg #[.int .u8 0, .int .u8 0, .int .u8 0, .int .u8 0, .int .u8 0, .int .u8 0, .int .u8 0, .int .u8 0, .int .u8 0, .int .u8 0, .int .u8 0, .int .u8 0, .int .u8 0, .int .u8 0, .int .u8 0, .int .u8 0, .slice none 0 0, .map none]) ((lst (T.at_ 0)).length) (k59 + 1), ⟨g53, k59 * 18, [byteCell ((sixteenB (t60.at_ 0).S).getD 0 0), byteCell ((sixteenB (t60.at_ 0).S).getD 1 0), byteCell ((sixteenB (t60.at_ 0).S).getD 2 0), byteCell ((sixteenB (t60.at_ 0).S).getD 3 0), byteCell ((sixteenB (t60.at_ 0).S).getD 4 0), byteCell ((sixteenB (t60.at_ 0).S).getD 5 0), byteCell ((sixteenB (t60.at_ 0).S).getD 6 0), byteCell ((sixteenB (t60.at_ 0).S).getD 7 0), byteCell ((sixteenB (t60.at_ 0).S).getD 8 0), byteCell ((sixteenB (t60.at_ 0).S).getD 9 0), byteCell ((sixteenB (t60.at_ 0).S).getD 10 0), byteCell ((sixteenB (t60.at_ 0).S).getD 11 0), byteCell ((sixteenB (t60.at_ 0).S).getD 12 0), byteCell ((sixteenB (t60.at_ 0).S).getD 13 0), byteCell ((sixteenB (t60.at_ 0).S).getD 14 0), byteCell ((sixteenB (t60.at_ 0).S).getD 15 0), .slice none 0 0, .map none], true⟩, restO g113 4 (.agg #[.int .i32 0, .int .i16 0, .pointer none, .map none]) ((lst (t60.at_ 1)).length) (k119 + 1), ⟨g113, k119 * 4, [.int .i32 (IntKind.i32.wrap (t120.at_ 0).N), .int .i16 (IntKind.i16.wrap (t120.at_ 1).N), .pointer x159, .map m189], true⟩] 4 hS193 fun _ hS194 => ?_)
                  clear hS193
                  refine wpOps_nil ?_
                  have hS195 := hS194.pk (env' := [(2, .v (.bool false)), (7, .p 0 0), (9, .v (.bool (decide (v ≥ 0)))), (10, .p 1 0), (12, .v (.slice (some ⟨g53, 0, none⟩) ((lst (T.at_ 0)).length) c54)), (13, .v (.int .i32 (((lst (T.at_ 0)).length : Nat) : Int))), (14, .v (.int .i32 ((k59 : Nat) : Int))), (16, .p 3 0), (19, .v (.slice (some ⟨g113, 0, none⟩) ((lst (t60.at_ 1)).length) c114)), (20, .v (.int .i32 (((lst (t60.at_ 1)).length : Nat) : Int))), (21, .v (.int .i32 ((k119 : Nat) : Int)))])
                  clear hS194
                  refine then_normal ?_
                  exact ⟨m189, t120.U, _, fun w F h_ => ⟨(hP191 _ _ h_).1, ⟨(hP191 _ _ h_).2, e132_U.2.1, e132_U.2.2⟩, ⟨fun _ => rfl, (fun e_ => by rw [hc186] at e_; cases e_)⟩⟩, hS195.pk (env' := [(2, .v (.bool false)), (7, .p 0 0), (9, .v (.bool (decide (v ≥ 0)))), (10, .p 1 0), (12, .v (.slice (some ⟨g53, 0, none⟩) ((lst (T.at_ 0)).length) c54)), (13, .v (.int .i32 (((lst (T.at_ 0)).length : Nat) : Int))), (14, .v (.int .i32 ((k59 : Nat) : Int))), (16, .p 3 0), (19, .v (.slice (some ⟨g113, 0, none⟩) ((lst (t60.at_ 1)).length) c114)), (20, .v (.int .i32 (((lst (t60.at_ 1)).length : Nat) : Int))), (21, .v (.int .i32 ((k119 : Nat) : Int)))])⟩
                ·
                  have hS196 := hS185.cast (t := [] ++ R130) (by rw [if_neg (by rw [hc186]; decide)])
                  clear hS185
                  have hS197 := hS196.cast (t := R130) rfl
                  clear hS196
                  refine wp_skip (then_normal ?_)
                  exact ⟨none, [], _, fun w F h_ => ⟨h_, ⟨MapR.nil _ _, Nat.zero_le _, fun _ h => by cases h⟩, ⟨(fun e_ => by rw [hc186] at e_; cases e_), fun _ => rfl⟩⟩, hS197.pk (env' := [(2, .v (.bool false)), (7, .p 0 0), (9, .v (.bool (decide (v ≥ 0)))), (10, .p 1 0), (12, .v (.slice (some ⟨g53, 0, none⟩) ((lst (T.at_ 0)).length) c54)), (13, .v (.int .i32 (((lst (T.at_ 0)).length : Nat) : Int))), (14, .v (.int .i32 ((k59 : Nat) : Int))), (16, .p 3 0), (19, .v (.slice (some ⟨g113, 0, none⟩) ((lst (t60.at_ 1)).length) c114)), (20, .v (.int .i32 (((lst (t60.at_ 1)).length : Nat) : Int))), (21, .v (.int .i32 ((k119 : Nat) : Int)))])⟩
              rintro _ _ ⟨m180, u181, P182, hP183, hS184⟩
              refine block_normal ?_
              refine then_normal ?_
              refine rs_sr [(2, .v (.bool false)), (7, .p 0 0), (9, .v (.bool (decide (v ≥ 0)))), (10, .p 1 0), (12, .v (.slice (some ⟨g53, 0, none⟩) ((lst (T.at_ 0)).length) c54)), (13, .v (.int .i32 (((lst (T.at_ 0)).length : Nat) : Int))), (14, .v (.int .i32 ((k59 : Nat) : Int))), (16, .p 3 0), (19, .v (.slice (some ⟨g113, 0, none⟩) ((lst (t60.at_ 1)).length) c114)), (20, .v (.int .i32 (((lst (t60.at_ 1)).length : Nat) : Int))), (21, .v (.int .i32 (IntKind.i32.wrap (((k119 : Nat) : Int) + 1))))] hS184 fun _ hS198 => ?_
              clear hS184
              refine then_normal ?_
              have hS199 := (hS198.envEq (env' := [(2, .v (.bool false)), (7, .p 0 0), (9, .v (.bool (decide (v ≥ 0)))), (10, .p 1 0), (12, .v (.slice (some ⟨g53, 0, none⟩) ((lst (T.at_ 0)).length) c54)), (13, .v (.int .i32 (((lst (T.at_ 0)).length : Nat) : Int))), (14, .v (.int .i32 ((k59 : Nat) : Int))), (16, .p 3 0), (19, .v (.slice (some ⟨g113, 0, none⟩) ((lst (t60.at_ 1)).length) c114)), (20, .v (.int .i32 (((lst (t60.at_ 1)).length : Nat) : Int))), (21, .v (.int .i32 ((k119 + 1 : Nat) : Int)))]) (by rw [i32_succ (by have := e72_1; omega)])).pk (env' := [(2, .v (.bool false)), (7, .p 0 0), (9, .v (.bool (decide (v ≥ 0)))), (10, .p 1 0), (12, .v (.slice (some ⟨g53, 0, none⟩) ((lst (T.at_ 0)).length) c54)), (13, .v (.int .i32 (((lst (T.at_ 0)).length : Nat) : Int))), (14, .v (.int .i32 ((k59 : Nat) : Int))), (16, .p 3 0), (19, .v (.slice (some ⟨g113, 0, none⟩) ((lst (t60.at_ 1)).length) c114)), (20, .v (.int .i32 (((lst (t60.at_ 1)).length : Nat) : Int))), (21, .v (.int .i32 ((k119 + 1 : Nat) : Int)))])
              clear hS198
              exact (RS.thing (tb := [⟨bv, 0, [.int .i16 v, .slice none 0 0, .map none], true⟩, restO g53 18 (.agg #[.int .u8 0, .int .u8 0, .int .u8 0, .int .u8 0, .int .u8 0, .int .u8 0, .int .u8 0, .int .u8 0, .int .u8 0, .int .u8 0, .int .u8 0, .int .u8 0, .int .u8 0, .int .u8 0, .int .u8 0, .int .u8 0, .slice none 0 0, .map none]) ((lst (T.at_ 0)).length) (k59 + 1), ⟨g53, k59 * 18, [byteCell ((sixteenB (t60.at_ 0).S).getD 0 0), byteCell ((sixteenB (t60.at_ 0).S).getD 1 0), byteCell ((sixteenB (t60.at_ 0).S).getD 2 0), byteCell ((sixteenB (t60.at_ 0).S).getD 3 0), byteCell ((sixteenB (t60.at_ 0).S).getD 4 0), byteCell ((sixteenB (t60.at_ 0).S).getD 5 0), byteCell ((sixteenB (t60.at_ 0).S).getD 6 0), byteCell ((sixteenB (t60.at_ 0).S).getD 7 0), byteCell ((sixteenB (t60.at_ 0).S).getD 8 0), byteCell ((sixteenB (t60.at_ 0).S).getD 9 0), byteCell ((sixteenB (t60.at_ 0).S).getD 10 0), byteCell ((sixteenB (t60.at_ 0).S).getD 11 0), byteCell ((sixteenB (t60.at_ 0).S).getD 12 0), byteCell ((sixteenB (t60.at_ 0).S).getD 13 0), byteCell ((sixteenB (t60.at_ 0).S).getD 14 0), byteCell ((sixteenB (t60.at_ 0).S).getD 15 0), .slice none 0 0, .map none], true⟩]) (z := .agg #[.int .i32 0, .int .i16 0, .pointer none, .map none]) (D := (dvP m180 u181 [dvN (IntKind.i32.wrap (t120.at_ 0).N), dvN (IntKind.i16.wrap (t120.at_ 1).N), dvT x159 (bs (octOf (t120.at_ 2)))])) (hS199.cast hR131) hg_g113 ht121 mvWriteShareGroupStateResponseTopicPartition hmP124 rfl (fun w F h_ => ⟨(hP128 _ _ (hP161 _ _ (hP183 _ _ h_).1).1).1, (hP128 _ _ (hP161 _ _ (hP183 _ _ h_).1).1).2, ⟨(trivial), (trivial), (⟨(hP161 _ _ (hP183 _ _ h_).1).2.1, by show ByteArray.size (bs _) ≤ 1000000; rw [bs_size]; exact Nat.le_trans e132_2 (by decide)⟩), (hP183 _ _ h_).2.1.1, (hP183 _ _ h_).2.1.2.1, (hP183 _ _ h_).2.1.2.2, trivial⟩, ⟨(rfl), (rfl), (⟨rfl, (hP161 _ _ (hP183 _ _ h_).1).2.2⟩), (hP183 _ _ h_).2.2, trivial⟩⟩) (by kernel_rfl))
            ·
              refine wp_seq ?_
              refine wp_seq ?_
              refine rs_sr [(2, .v (.bool false)), (7, .p 0 0), (9, .v (.bool (decide (v ≥ 0)))), (10, .p 1 0), (12, .v (.slice (some ⟨g53, 0, none⟩) ((lst (T.at_ 0)).length) c54)), (13, .v (.int .i32 (((lst (T.at_ 0)).length : Nat) : Int))), (14, .v (.int .i32 ((k59 : Nat) : Int))), (16, .p 3 0), (19, .v (.slice (some ⟨g113, 0, none⟩) ((lst (t60.at_ 1)).length) c114)), (20, .v (.int .i32 (((lst (t60.at_ 1)).length : Nat) : Int))), (21, .v (.int .i32 (((lst (t60.at_ 1)).length : Nat) : Int))), (94, .v (.bool (decide ((((lst (t60.at_ 1)).length : Nat) : Int) < (((lst (t60.at_ 1)).length : Nat) : Int)))))] hS126 fun _ hS200 => then_normal ?_
              clear hS126
              refine cond_false hS200.env_ (b := decide ((((lst (t60.at_ 1)).length : Nat) : Int) < (((lst (t60.at_ 1)).length : Nat) : Int))) (by kernel_rfl) (decide_eq_false (by omega)) ?_
              refine wp_exit ?_
              refine then_exit ?_
              refine then_exit ?_
              refine block_exit ?_
              refine then_normal ?_
              obtain ⟨f201, hS202⟩ := RS.listEnd (tb := [⟨bv, 0, [.int .i16 v, .slice none 0 0, .map none], true⟩, restO g53 18 (.agg #[.int .u8 0, .int .u8 0, .int .u8 0, .int .u8 0, .int .u8 0, .int .u8 0, .int .u8 0, .int .u8 0, .int .u8 0, .int .u8 0, .int .u8 0, .int .u8 0, .int .u8 0, .int .u8 0, .int .u8 0, .int .u8 0, .slice none 0 0, .map none]) ((lst (T.at_ 0)).length) (k59 + 1), ⟨g53, k59 * 18, [byteCell ((sixteenB (t60.at_ 0).S).getD 0 0), byteCell ((sixteenB (t60.at_ 0).S).getD 1 0), byteCell ((sixteenB (t60.at_ 0).S).getD 2 0), byteCell ((sixteenB (t60.at_ 0).S).getD 3 0), byteCell ((sixteenB (t60.at_ 0).S).getD 4 0), byteCell ((sixteenB (t60.at_ 0).S).getD 5 0), byteCell ((sixteenB (t60.at_ 0).S).getD 6 0), byteCell ((sixteenB (t60.at_ 0).S).getD 7 0), byteCell ((sixteenB (t60.at_ 0).S).getD 8 0), byteCell ((sixteenB (t60.at_ 0).S).getD 9 0), byteCell ((sixteenB (t60.at_ 0).S).getD 10 0), byteCell ((sixteenB (t60.at_ 0).S).getD 11 0), byteCell ((sixteenB (t60.at_ 0).S).getD 12 0), byteCell ((sixteenB (t60.at_ 0).S).getD 13 0), byteCell ((sixteenB (t60.at_ 0).S).getD 14 0), byteCell ((sixteenB (t60.at_ 0).S).getD 15 0), .slice none 0 0, .map none], true⟩]) (c := c114) (hS200.pk (env' := [(2, .v (.bool false)), (7, .p 0 0), (9, .v (.bool (decide (v ≥ 0)))), (10, .p 1 0), (12, .v (.slice (some ⟨g53, 0, none⟩) ((lst (T.at_ 0)).length) c54)), (13, .v (.int .i32 (((lst (T.at_ 0)).length : Nat) : Int))), (14, .v (.int .i32 ((k59 : Nat) : Int))), (16, .p 3 0), (19, .v (.slice (some ⟨g113, 0, none⟩) ((lst (t60.at_ 1)).length) c114))])) hg_g113 mvWriteShareGroupStateResponseTopicPartition hmP124 hcap_g113 (by have := e72_1; omega) hn_g113 (by kernel_rfl)
              exact ⟨dvL (some ⟨g113, 0, none⟩) (lst (t60.at_ 1)).length c114 f201, _, fun w F h_ => ⟨h_.1, ⟨h_.2.1, Nat.le_trans e72_1 (by decide), h_.2.2.1⟩, ⟨rfl, h_.2.2.2⟩⟩, hS202⟩
          ·
            refine wp_skip ?_
            refine then_normal ?_
            refine wp_seq ?_
            refine rs_sr [(2, .v (.bool false)), (7, .p 0 0), (9, .v (.bool (decide (v ≥ 0)))), (10, .p 1 0), (12, .v (.slice (some ⟨g53, 0, none⟩) ((lst (T.at_ 0)).length) c54)), (13, .v (.int .i32 (((lst (T.at_ 0)).length : Nat) : Int))), (14, .v (.int .i32 ((k59 : Nat) : Int))), (16, .p 3 0), (19, .v (.slice none 0 0)), (20, .v (.int .i32 (((lst (t60.at_ 1)).length : Nat) : Int))), (21, .v (.int .i32 0))] hS111 fun _ hS203 => ?_
            clear hS111
            refine then_normal ?_
            refine wp_block ?_
            refine loop_out ?_
            refine wp_seq ?_
            refine wp_seq ?_
            refine rs_sr [(2, .v (.bool false)), (7, .p 0 0), (9, .v (.bool (decide (v ≥ 0)))), (10, .p 1 0), (12, .v (.slice (some ⟨g53, 0, none⟩) ((lst (T.at_ 0)).length) c54)), (13, .v (.int .i32 (((lst (T.at_ 0)).length : Nat) : Int))), (14, .v (.int .i32 ((k59 : Nat) : Int))), (16, .p 3 0), (19, .v (.slice none 0 0)), (20, .v (.int .i32 (((lst (t60.at_ 1)).length : Nat) : Int))), (21, .v (.int .i32 0)), (94, .v (.bool (decide (0 < (((lst (t60.at_ 1)).length : Nat) : Int)))))] hS203 fun _ hS204 => then_normal ?_
            clear hS203
            refine cond_false hS204.env_ (b := decide (0 < (((lst (t60.at_ 1)).length : Nat) : Int))) (by kernel_rfl) (decide_eq_false (by have h_ := of_decide_eq_false hc112; omega)) ?_
            refine wp_exit ?_
            refine then_exit ?_
            refine then_exit ?_
            refine block_exit ?_
            refine then_normal ?_
            have hz_ : (lst (t60.at_ 1)).length = 0 := by have h_ := of_decide_eq_false hc112; omega
            exact ⟨dvL none 0 0 (fun _ => dv0), _, fun w F h_ => ⟨h_, ⟨Slots.nil _ _ _ _, Nat.zero_le _, fun _ h => absurd h (Nat.not_lt_zero _)⟩, ⟨hz_.symm, fun _ h => absurd h (Nat.not_lt_zero _)⟩⟩, (hS204.cast (t := R73) (by rw [List.eq_nil_of_length_eq_zero hz_]; rfl)).pk (env' := [(2, .v (.bool false)), (7, .p 0 0), (9, .v (.bool (decide (v ≥ 0)))), (10, .p 1 0), (12, .v (.slice (some ⟨g53, 0, none⟩) ((lst (T.at_ 0)).length) c54)), (13, .v (.int .i32 (((lst (T.at_ 0)).length : Nat) : Int))), (14, .v (.int .i32 ((k59 : Nat) : Int))), (16, .p 3 0), (19, .v (.slice none 0 0))])⟩
        rintro _ _ ⟨D107, P108, hP109, hS110⟩
        refine wp_seq ?_
        refine rs_sr [(2, .v (.bool false)), (7, .p 0 0), (9, .v (.bool (decide (v ≥ 0)))), (10, .p 1 0), (12, .v (.slice (some ⟨g53, 0, none⟩) ((lst (T.at_ 0)).length) c54)), (13, .v (.int .i32 (((lst (T.at_ 0)).length : Nat) : Int))), (14, .v (.int .i32 ((k59 : Nat) : Int))), (16, .p 3 0), (18, .v (.slice D107.A D107.l D107.c))] hS110 fun _ hS205 => ?_
        clear hS110
        refine then_normal ?_
        refine rs_sto [⟨bv, 0, [.int .i16 v, .slice none 0 0, .map none], true⟩, restO g53 18 (.agg #[.int .u8 0, .int .u8 0, .int .u8 0, .int .u8 0, .int .u8 0, .int .u8 0, .int .u8 0, .int .u8 0, .int .u8 0, .int .u8 0, .int .u8 0, .int .u8 0, .int .u8 0, .int .u8 0, .int .u8 0, .int .u8 0, .slice none 0 0, .map none]) ((lst (T.at_ 0)).length) (k59 + 1), ⟨g53, k59 * 18, [byteCell ((sixteenB (t60.at_ 0).S).getD 0 0), byteCell ((sixteenB (t60.at_ 0).S).getD 1 0), byteCell ((sixteenB (t60.at_ 0).S).getD 2 0), byteCell ((sixteenB (t60.at_ 0).S).getD 3 0), byteCell ((sixteenB (t60.at_ 0).S).getD 4 0), byteCell ((sixteenB (t60.at_ 0).S).getD 5 0), byteCell ((sixteenB (t60.at_ 0).S).getD 6 0), byteCell ((sixteenB (t60.at_ 0).S).getD 7 0), byteCell ((sixteenB (t60.at_ 0).S).getD 8 0), byteCell ((sixteenB (t60.at_ 0).S).getD 9 0), byteCell ((sixteenB (t60.at_ 0).S).getD 10 0), byteCell ((sixteenB (t60.at_ 0).S).getD 11 0), byteCell ((sixteenB (t60.at_ 0).S).getD 12 0), byteCell ((sixteenB (t60.at_ 0).S).getD 13 0), byteCell ((sixteenB (t60.at_ 0).S).getD 14 0), byteCell ((sixteenB (t60.at_ 0).S).getD 15 0), .slice D107.A D107.l D107.c, .map none], true⟩] 2 [(2, .v (.bool false)), (7, .p 0 0), (9, .v (.bool (decide (v ≥ 0)))), (10, .p 1 0), (12, .v (.slice (some ⟨g53, 0, none⟩) ((lst (T.at_ 0)).length) c54)), (13, .v (.int .i32 (((lst (T.at_ 0)).length : Nat) : Int))), (14, .v (.int .i32 ((k59 : Nat) : Int))), (16, .p 3 0)] hS205 fun _ _ hS206 => ?_
        clear hS205
        refine then_normal ?_
        have hS207 := hS206.cast hR74
        clear hS206
        refine wp_joinN (Mid := fun a_ w_ => ∃ (m209 : Option Nat) (u210 : List (Int × Bs)) (P' : FactW), (∀ w F, P' w F → P108 w F ∧ (MapR w F m209 u210 ∧ u210.length ≤ 1000000 ∧ ∀ x ∈ u210, x.2.length < 4294967296) ∧ ((decide (v ≥ 0)) = true → u210 = t60.U) ∧ ((decide (v ≥ 0)) = false → u210 = [])) ∧ RS w (fun b o => b = bv ∧ o < 3) F 150 b13 [⟨bv, 0, [.int .i16 v, .slice none 0 0, .map none], true⟩, restO g53 18 (.agg #[.int .u8 0, .int .u8 0, .int .u8 0, .int .u8 0, .int .u8 0, .int .u8 0, .int .u8 0, .int .u8 0, .int .u8 0, .int .u8 0, .int .u8 0, .int .u8 0, .int .u8 0, .int .u8 0, .int .u8 0, .int .u8 0, .slice none 0 0, .map none]) ((lst (T.at_ 0)).length) (k59 + 1), ⟨g53, k59 * 18, [byteCell ((sixteenB (t60.at_ 0).S).getD 0 0), byteCell ((sixteenB (t60.at_ 0).S).getD 1 0), byteCell ((sixteenB (t60.at_ 0).S).getD 2 0), byteCell ((sixteenB (t60.at_ 0).S).getD 3 0), byteCell ((sixteenB (t60.at_ 0).S).getD 4 0), byteCell ((sixteenB (t60.at_ 0).S).getD 5 0), byteCell ((sixteenB (t60.at_ 0).S).getD 6 0), byteCell ((sixteenB (t60.at_ 0).S).getD 7 0), byteCell ((sixteenB (t60.at_ 0).S).getD 8 0), byteCell ((sixteenB (t60.at_ 0).S).getD 9 0), byteCell ((sixteenB (t60.at_ 0).S).getD 10 0), byteCell ((sixteenB (t60.at_ 0).S).getD 11 0), byteCell ((sixteenB (t60.at_ 0).S).getD 12 0), byteCell ((sixteenB (t60.at_ 0).S).getD 13 0), byteCell ((sixteenB (t60.at_ 0).S).getD 14 0), byteCell ((sixteenB (t60.at_ 0).S).getD 15 0), .slice D107.A D107.l D107.c, .map m209], true⟩] [(2, .v (.bool false)), (7, .p 0 0), (9, .v (.bool (decide (v ≥ 0)))), (10, .p 1 0), (12, .v (.slice (some ⟨g53, 0, none⟩) ((lst (T.at_ 0)).length) c54)), (13, .v (.int .i32 (((lst (T.at_ 0)).length : Nat) : Int))), (14, .v (.int .i32 ((k59 : Nat) : Int)))] P' R70 a_ w_) ?_ ?_
        ·
          refine wp_seq ?_
          refine rs_sr [(2, .v (.bool false)), (7, .p 0 0), (9, .v (.bool (decide (v ≥ 0)))), (10, .p 1 0), (12, .v (.slice (some ⟨g53, 0, none⟩) ((lst (T.at_ 0)).length) c54)), (13, .v (.int .i32 (((lst (T.at_ 0)).length : Nat) : Int))), (14, .v (.int .i32 ((k59 : Nat) : Int))), (16, .p 3 0), (134, .v (.bool (decide (v ≥ 0))))] hS207 fun _ hS214 => then_normal ?_
          clear hS207
          refine cond_of hS214.env_ (b := decide (v ≥ 0)) (by kernel_rfl) (fun hc215 => ?_) (fun hc215 => ?_)
          ·
            have hS216 := hS214.cast (t := ((uv t60.U.length) ++ (tagsR t60.U)) ++ R70) (by rw [if_pos hc215])
            clear hS214
            refine go_region [0, 1, 2, 3, 4] (by kernel_rfl) ?_
            refine rs_rn [0] [1, 2, 3, 4] [(2, .v (.bool false)), (7, .p 0 0), (9, .v (.bool (decide (v ≥ 0)))), (10, .p 1 0), (12, .v (.slice (some ⟨g53, 0, none⟩) ((lst (T.at_ 0)).length) c54)), (13, .v (.int .i32 (((lst (T.at_ 0)).length : Nat) : Int))), (14, .v (.int .i32 ((k59 : Nat) : Int))), (135, .p 3 0)] hS216 fun _ hS217 => ?_
            clear hS216
            refine of_op (rs_call (d := 136) hS217 (pTags t60.U e72_U (ranged_U e72r) _) (fun _ => MvF.tags _ _) Tryz.call154 fun m218 P219 _ _ hP220 hS221 => ?_)
            clear hS217
            refine rs_rn [2, 3] [4] [(2, .v (.bool false)), (7, .p 0 0), (9, .v (.bool (decide (v ≥ 0)))), (10, .p 1 0), (12, .v (.slice (some ⟨g53, 0, none⟩) ((lst (T.at_ 0)).length) c54)), (13, .v (.int .i32 (((lst (T.at_ 0)).length : Nat) : Int))), (14, .v (.int .i32 ((k59 : Nat) : Int))), (136, .v (.agg #[.map m218])), (138, .p 3 17)] hS221 fun _ hS222 => ?_
            clear hS221
            refine of_op (rs_store [⟨bv, 0, [.int .i16 v, .slice none 0 0, .map none], true⟩, restO g53 18 (.agg #[.int .u8 0, .int .u8 0, .int .u8 0, .int .u8 0, .int .u8 0, .int .u8 0, .int .u8 0, .int .u8 0, .int .u8 0, .int .u8 0, .int .u8 0, .int .u8 0, .int .u8 0, .int .u8 0, .int .u8 0, .int .u8 0, .slice none 0 0, .map none]) ((lst (T.at_ 0)).length) (k59 + 1), ⟨g53, k59 * 18, [byteCell ((sixteenB (t60.at_ 0).S).getD 0 0), byteCell ((sixteenB (t60.at_ 0).S).getD 1 0), byteCell ((sixteenB (t60.at_ 0).S).getD 2 0), byteCell ((sixteenB (t60.at_ 0).S).getD 3 0), byteCell ((sixteenB (t60.at_ 0).S).getD 4 0), byteCell ((sixteenB (t60.at_ 0).S).getD 5 0), byteCell ((sixteenB (t60.at_ 0).S).getD 6 0), byteCell ((sixteenB (t60.at_ 0).S).getD 7 0), byteCell ((sixteenB (t60.at_ 0).S).getD 8 0), byteCell ((sixteenB (t60.at_ 0).S).getD 9 0), byteCell ((sixteenB (t60.at_ 0).S).getD 10 0), byteCell ((sixteenB (t60.at_ 0).S).getD 11 0), byteCell ((sixteenB (t60.at_ 0).S).getD 12 0), byteCell ((sixteenB (t60.at_ 0).S).getD 13 0), byteCell ((sixteenB (t60.at_ 0).S).getD 14 0), byteCell ((sixteenB (t60.at_ 0).S).getD 15 0), .slice D107.A D107.l D107.c, .map m218], true⟩] 2 hS222 fun _ hS223 => ?_)
            clear hS222
            refine wpOps_nil ?_
            have hS224 := hS223.pk (env' := [(2, .v (.bool false)), (7, .p 0 0), (9, .v (.bool (decide (v ≥ 0)))), (10, .p 1 0), (12, .v (.slice (some ⟨g53, 0, none⟩) ((lst (T.at_ 0)).length) c54)), (13, .v (.int .i32 (((lst (T.at_ 0)).length : Nat) : Int))), (14, .v (.int .i32 ((k59 : Nat) : Int)))])
            clear hS223
            refine then_normal ?_
            exact ⟨m218, t60.U, _, fun w F h_ => ⟨(hP220 _ _ h_).1, ⟨(hP220 _ _ h_).2, e72_U.2.1, e72_U.2.2⟩, ⟨fun _ => rfl, (fun e_ => by rw [hc215] at e_; cases e_)⟩⟩, hS224.pk (env' := [(2, .v (.bool false)), (7, .p 0 0), (9, .v (.bool (decide (v ≥ 0)))), (10, .p 1 0), (12, .v (.slice (some ⟨g53, 0, none⟩) ((lst (T.at_ 0)).length) c54)), (13, .v (.int .i32 (((lst (T.at_ 0)).length : Nat) : Int))), (14, .v (.int .i32 ((k59 : Nat) : Int)))])⟩
          ·
            have hS225 := hS214.cast (t := [] ++ R70) (by rw [if_neg (by rw [hc215]; decide)])
            clear hS214
            have hS226 := hS225.cast (t := R70) rfl
            clear hS225
            refine wp_skip (then_normal ?_)
            exact ⟨none, [], _, fun w F h_ => ⟨h_, ⟨MapR.nil _ _, Nat.zero_le _, fun _ h => by cases h⟩, ⟨(fun e_ => by rw [hc215] at e_; cases e_), fun _ => rfl⟩⟩, hS226.pk (env' := [(2, .v (.bool false)), (7, .p 0 0), (9, .v (.bool (decide (v ≥ 0)))), (10, .p 1 0), (12, .v (.slice (some ⟨g53, 0, none⟩) ((lst (T.at_ 0)).length) c54)), (13, .v (.int .i32 (((lst (T.at_ 0)).length : Nat) : Int))), (14, .v (.int .i32 ((k59 : Nat) : Int)))])⟩
        rintro _ _ ⟨m209, u210, P211, hP212, hS213⟩
        refine block_normal ?_
        refine then_normal ?_
        refine rs_sr [(2, .v (.bool false)), (7, .p 0 0), (9, .v (.bool (decide (v ≥ 0)))), (10, .p 1 0), (12, .v (.slice (some ⟨g53, 0, none⟩) ((lst (T.at_ 0)).length) c54)), (13, .v (.int .i32 (((lst (T.at_ 0)).length : Nat) : Int))), (14, .v (.int .i32 (IntKind.i32.wrap (((k59 : Nat) : Int) + 1))))] hS213 fun _ hS227 => ?_
        clear hS213
        refine then_normal ?_
        have hS228 := (hS227.envEq (env' := [(2, .v (.bool false)), (7, .p 0 0), (9, .v (.bool (decide (v ≥ 0)))), (10, .p 1 0), (12, .v (.slice (some ⟨g53, 0, none⟩) ((lst (T.at_ 0)).length) c54)), (13, .v (.int .i32 (((lst (T.at_ 0)).length : Nat) : Int))), (14, .v (.int .i32 ((k59 + 1 : Nat) : Int)))]) (by rw [i32_succ (by have := e26_0; omega)])).pk (env' := [(2, .v (.bool false)), (7, .p 0 0), (9, .v (.bool (decide (v ≥ 0)))), (10, .p 1 0), (12, .v (.slice (some ⟨g53, 0, none⟩) ((lst (T.at_ 0)).length) c54)), (13, .v (.int .i32 (((lst (T.at_ 0)).length : Nat) : Int))), (14, .v (.int .i32 ((k59 + 1 : Nat) : Int)))])
        clear hS227
        exact (RS.thing (tb := [⟨bv, 0, [.int .i16 v, .slice none 0 0, .map none], true⟩]) (z := .agg #[.int .u8 0, .int .u8 0, .int .u8 0, .int .u8 0, .int .u8 0, .int .u8 0, .int .u8 0, .int .u8 0, .int .u8 0, .int .u8 0, .int .u8 0, .int .u8 0, .int .u8 0, .int .u8 0, .int .u8 0, .int .u8 0, .slice none 0 0, .map none]) (D := (dvP m209 u210 [dvO none (sixteenB (t60.at_ 0).S) 0, D107])) (hS228.cast hR71) hg_g53 ht61 mvWriteShareGroupStateResponseTopic hmP64 rfl (fun w F h_ => ⟨(hP68 _ _ (hP109 _ _ (hP212 _ _ h_).1).1).1, (hP68 _ _ (hP109 _ _ (hP212 _ _ h_).1).1).2, ⟨(sixteenB_len _), ((hP109 _ _ (hP212 _ _ h_).1).2.1), (hP212 _ _ h_).2.1.1, (hP212 _ _ h_).2.1.2.1, (hP212 _ _ h_).2.1.2.2, trivial⟩, ⟨(rfl), ((hP109 _ _ (hP212 _ _ h_).1).2.2), (hP212 _ _ h_).2.2, trivial⟩⟩) (by kernel_rfl))
      ·
        refine wp_seq ?_
        refine wp_seq ?_
        refine rs_sr [(2, .v (.bool false)), (7, .p 0 0), (9, .v (.bool (decide (v ≥ 0)))), (10, .p 1 0), (12, .v (.slice (some ⟨g53, 0, none⟩) ((lst (T.at_ 0)).length) c54)), (13, .v (.int .i32 (((lst (T.at_ 0)).length : Nat) : Int))), (14, .v (.int .i32 (((lst (T.at_ 0)).length : Nat) : Int))), (60, .v (.bool (decide ((((lst (T.at_ 0)).length : Nat) : Int) < (((lst (T.at_ 0)).length : Nat) : Int)))))] hS66 fun _ hS229 => then_normal ?_
        clear hS66
        refine cond_false hS229.env_ (b := decide ((((lst (T.at_ 0)).length : Nat) : Int) < (((lst (T.at_ 0)).length : Nat) : Int))) (by kernel_rfl) (decide_eq_false (by omega)) ?_
        refine wp_exit ?_
        refine then_exit ?_
        refine then_exit ?_
        refine block_exit ?_
        refine then_normal ?_
        obtain ⟨f230, hS231⟩ := RS.listEnd (tb := [⟨bv, 0, [.int .i16 v, .slice none 0 0, .map none], true⟩]) (c := c54) (hS229.pk (env' := [(7, .p 0 0), (9, .v (.bool (decide (v ≥ 0)))), (10, .p 1 0), (12, .v (.slice (some ⟨g53, 0, none⟩) ((lst (T.at_ 0)).length) c54))])) hg_g53 mvWriteShareGroupStateResponseTopic hmP64 hcap_g53 (by have := e26_0; omega) hn_g53 (by kernel_rfl)
        exact ⟨dvL (some ⟨g53, 0, none⟩) (lst (T.at_ 0)).length c54 f230, _, fun w F h_ => ⟨h_.1, ⟨h_.2.1, Nat.le_trans e26_0 (by decide), h_.2.2.1⟩, ⟨rfl, h_.2.2.2⟩⟩, hS231⟩
    ·
      refine wp_skip ?_
      refine then_normal ?_
      refine wp_seq ?_
      refine rs_sr [(2, .v (.bool false)), (7, .p 0 0), (9, .v (.bool (decide (v ≥ 0)))), (10, .p 1 0), (12, .v (.slice none 0 0)), (13, .v (.int .i32 (((lst (T.at_ 0)).length : Nat) : Int))), (14, .v (.int .i32 0))] hS51 fun _ hS232 => ?_
      clear hS51
      refine then_normal ?_
      refine wp_block ?_
      refine loop_out ?_
      refine wp_seq ?_
      refine wp_seq ?_
      refine rs_sr [(2, .v (.bool false)), (7, .p 0 0), (9, .v (.bool (decide (v ≥ 0)))), (10, .p 1 0), (12, .v (.slice none 0 0)), (13, .v (.int .i32 (((lst (T.at_ 0)).length : Nat) : Int))), (14, .v (.int .i32 0)), (60, .v (.bool (decide (0 < (((lst (T.at_ 0)).length : Nat) : Int)))))] hS232 fun _ hS233 => then_normal ?_
      clear hS232
      refine cond_false hS233.env_ (b := decide (0 < (((lst (T.at_ 0)).length : Nat) : Int))) (by kernel_rfl) (decide_eq_false (by have h_ := of_decide_eq_false hc52; omega)) ?_
      refine wp_exit ?_
      refine then_exit ?_
      refine then_exit ?_
      refine block_exit ?_
      refine then_normal ?_
      have hz_ : (lst (T.at_ 0)).length = 0 := by have h_ := of_decide_eq_false hc52; omega
      exact ⟨dvL none 0 0 (fun _ => dv0), _, fun w F h_ => ⟨h_, ⟨Slots.nil _ _ _ _, Nat.zero_le _, fun _ h => absurd h (Nat.not_lt_zero _)⟩, ⟨hz_.symm, fun _ h => absurd h (Nat.not_lt_zero _)⟩⟩, (hS233.cast (t := R27) (by rw [List.eq_nil_of_length_eq_zero hz_]; rfl)).pk (env' := [(7, .p 0 0), (9, .v (.bool (decide (v ≥ 0)))), (10, .p 1 0), (12, .v (.slice none 0 0))])⟩
  rintro _ _ ⟨D47, P48, hP49, hS50⟩
  refine wp_seq ?_
  refine rs_sr [(7, .p 0 0), (9, .v (.bool (decide (v ≥ 0)))), (10, .p 1 0), (11, .v (.slice D47.A D47.l D47.c))] hS50 fun _ hS234 => ?_
  clear hS50
  refine then_normal ?_
  refine rs_sto [⟨bv, 0, [.int .i16 v, .slice D47.A D47.l D47.c, .map none], true⟩] 0 [(7, .p 0 0), (9, .v (.bool (decide (v ≥ 0)))), (10, .p 1 0)] hS234 fun _ _ hS235 => ?_
  clear hS234
  refine then_normal ?_
  refine wp_seq ?_
  have hS236 := hS235.cast hR28
  clear hS235
  refine wp_joinN (Mid := fun a_ w_ => ∃ (m238 : Option Nat) (u239 : List (Int × Bs)) (P' : FactW), (∀ w F, P' w F → P48 w F ∧ (MapR w F m238 u239 ∧ u239.length ≤ 1000000 ∧ ∀ x ∈ u239, x.2.length < 4294967296) ∧ ((decide (v ≥ 0)) = true → u239 = T.U) ∧ ((decide (v ≥ 0)) = false → u239 = [])) ∧ RS w (fun b o => b = bv ∧ o < 3) F 150 b13 [⟨bv, 0, [.int .i16 v, .slice D47.A D47.l D47.c, .map m238], true⟩] [(7, .p 0 0)] P' ([] : Bs) a_ w_) ?_ ?_
  ·
    refine wp_seq ?_
    refine rs_sr [(7, .p 0 0), (10, .p 1 0), (144, .v (.bool (decide (v ≥ 0))))] hS236 fun _ hS243 => then_normal ?_
    clear hS236
    refine cond_of hS243.env_ (b := decide (v ≥ 0)) (by kernel_rfl) (fun hc244 => ?_) (fun hc244 => ?_)
    ·
      have hS245 := hS243.cast (t := ((uv T.U.length) ++ (tagsR T.U)) ++ ([] : Bs)) (by rw [if_pos hc244])
      clear hS243
      refine go_region [0, 1, 2, 3, 4] (by kernel_rfl) ?_
      refine rs_rn [0] [1, 2, 3, 4] [(7, .p 0 0), (145, .p 1 0)] hS245 fun _ hS246 => ?_
      clear hS245
      refine of_op (rs_call (d := 146) hS246 (pTags T.U e26_U (ranged_U e26r) _) (fun _ => MvF.tags _ _) Tryz.call154 fun m247 P248 _ _ hP249 hS250 => ?_)
      clear hS246
      refine rs_rn [2, 3] [4] [(7, .p 0 0), (146, .v (.agg #[.map m247])), (148, .p 1 2)] hS250 fun _ hS251 => ?_
      clear hS250
      refine of_op (rs_store [⟨bv, 0, [.int .i16 v, .slice D47.A D47.l D47.c, .map m247], true⟩] 0 hS251 fun _ hS252 => ?_)
      clear hS251
      refine wpOps_nil ?_
      have hS253 := hS252.pk (env' := [(7, .p 0 0)])
      clear hS252
      refine then_normal ?_
      exact ⟨m247, T.U, _, fun w F h_ => ⟨(hP249 _ _ h_).1, ⟨(hP249 _ _ h_).2, e26_U.2.1, e26_U.2.2⟩, ⟨fun _ => rfl, (fun e_ => by rw [hc244] at e_; cases e_)⟩⟩, hS253.pk (env' := [(7, .p 0 0)])⟩
    ·
      have hS254 := hS243.cast (t := [] ++ ([] : Bs)) (by rw [if_neg (by rw [hc244]; decide)])
      clear hS243
      have hS255 := hS254.cast (t := ([] : Bs)) rfl
      clear hS254
      refine wp_skip (then_normal ?_)
      exact ⟨none, [], _, fun w F h_ => ⟨h_, ⟨MapR.nil _ _, Nat.zero_le _, fun _ h => by cases h⟩, ⟨(fun e_ => by rw [hc244] at e_; cases e_), fun _ => rfl⟩⟩, hS255.pk (env' := [(7, .p 0 0)])⟩
  rintro _ _ ⟨m238, u239, P240, hP241, hS242⟩
  refine then_normal ?_
  refine wp_seq ?_
  refine go_region [0, 1] (by kernel_rfl) (of_op (rs_complete (d := 149) hS242 rComplete Tryz.call146 fun _ hS256 => ?_))
  clear hS242
  refine rs_rn [1] [] [(6, .v (.nilIface))] hS256 fun _ hS257 => wpOps_nil ?_
  clear hS256
  refine then_normal ?_
  refine wp_ret ?_
  obtain ⟨A_, m_, c_, hW_, hr_, hE_, hP_⟩ := hS257.open_
  refine leave hE_ hW_.cells (v := .nilIface) (by kernel_rfl) ?_
  have h_ := hS257.mv.mono immOut hP_
  refine ⟨(dvP m238 u239 [D47]), rfl, Str.of hW_ 1 rfl, ?_, ?_, hW_.step⟩
  · unfold okWriteShareGroupStateResponse
    exact ⟨((hP49 _ _ (hP241 _ _ h_).1).2.1), (hP241 _ _ h_).2.1.1, (hP241 _ _ h_).2.1.2.1, (hP241 _ _ h_).2.1.2.2, trivial⟩
  · unfold rvWriteShareGroupStateResponse
    exact ⟨((hP49 _ _ (hP241 _ _ h_).1).2.2), (hP241 _ _ h_).2.2, trivial⟩

theorem mvWriteShareGroupStateResponse : Moves okWriteShareGroupStateResponse := by
  intro w w' F F' M d hs hM hF h
  unfold okWriteShareGroupStateResponse at h ⊢
  obtain ⟨⟨g0, g0l, g0e⟩, t1, t2, t3, _⟩ := h
  exact ⟨⟨g0.move hs hM hF, g0l, fun i hi => mvWriteShareGroupStateResponseTopic _ hs hM hF (g0e i hi)⟩, t1.move hs hM hF, t2, t3, trivial⟩

theorem aeWriteShareGroupStateResponseTopicPartition (v : Int) (D : DV) (T : Tree) (h : rvWriteShareGroupStateResponseTopicPartition v D T) : (be 4 ((D.f 0).n)) ++ ((be 2 ((D.f 1).n)) ++ ((if (decide (v ≥ 0)) = true then (if (D.f 2).A.isNone = true then uv 0 else uv ((D.f 2).s.size + 1) ++ sb (D.f 2).s) else (if (D.f 2).A.isNone = true then be 2 (-1) else be 2 (D.f 2).s.size ++ sb (D.f 2).s)) ++ (if (decide (v ≥ 0)) = true then (uv D.u.length) ++ (tagsR D.u) else []))) = tEWriteShareGroupStateResponseTopicPartition v T := by
  unfold rvWriteShareGroupStateResponseTopicPartition at h
  obtain ⟨r0_, r1_, r2_, rU_, _⟩ := h
  unfold tEWriteShareGroupStateResponseTopicPartition
  exact app_c (by rw [r0_]) (app_c (by rw [r1_]) (app_c (by simp only [r2_.1, r2_.2, sb_bs, bs_size]) ((if_c (fun hc_ => by rw [(rU_.1 hc_)])))))

theorem aeWriteShareGroupStateResponseTopic (v : Int) (D : DV) (T : Tree) (h : rvWriteShareGroupStateResponseTopic v D T) : ((D.f 0).o) ++ (((if (decide (v ≥ 0)) = true then (uv ((D.f 1).l + 1)) else (be 4 (D.f 1).l)) ++ ((List.range (D.f 1).l).flatMap fun k143 => (be 4 ((((D.f 1).f k143).f 0).n)) ++ ((be 2 ((((D.f 1).f k143).f 1).n)) ++ ((if (decide (v ≥ 0)) = true then (if (((D.f 1).f k143).f 2).A.isNone = true then uv 0 else uv ((((D.f 1).f k143).f 2).s.size + 1) ++ sb (((D.f 1).f k143).f 2).s) else (if (((D.f 1).f k143).f 2).A.isNone = true then be 2 (-1) else be 2 (((D.f 1).f k143).f 2).s.size ++ sb (((D.f 1).f k143).f 2).s)) ++ (if (decide (v ≥ 0)) = true then (uv ((D.f 1).f k143).u.length) ++ (tagsR ((D.f 1).f k143).u) else []))))) ++ (if (decide (v ≥ 0)) = true then (uv D.u.length) ++ (tagsR D.u) else [])) = tEWriteShareGroupStateResponseTopic v T := by
  unfold rvWriteShareGroupStateResponseTopic at h
  obtain ⟨r0_, r1_, rU_, _⟩ := h
  unfold tEWriteShareGroupStateResponseTopic
  exact app_c (by rw [r0_]) (app_c (app_c (by simp only [r1_.1]) (flat_rel r1_.1 (fun i hi => aeWriteShareGroupStateResponseTopicPartition v _ _ (r1_.2 i hi)))) ((if_c (fun hc_ => by rw [(rU_.1 hc_)]))))

theorem avWriteShareGroupStateResponse (v : Int) (D : DV) (T : Tree) (h : rvWriteShareGroupStateResponse v D T) : aWriteShareGroupStateResponse v D = tWriteShareGroupStateResponse v T := by
  unfold rvWriteShareGroupStateResponse at h
  obtain ⟨r0_, rU_, _⟩ := h
  rw [teWriteShareGroupStateResponse]
  unfold aWriteShareGroupStateResponse tEWriteShareGroupStateResponse_
  exact app_c (app_c (by simp only [r0_.1]) (flat_rel r0_.1 (fun i hi => aeWriteShareGroupStateResponseTopic v _ _ (r0_.2 i hi)))) (app_c (if_c (fun hc_ => by rw [(rU_.1 hc_)])) (rfl))

theorem bhWriteShareGroupStateResponse (v : Int) (T : Tree) (dst : Bs) {A1 A2 : Option Addr} {c1 c2 : Nat} {w : World} {F : Nat → Nat → Prop} (hd : Octs w F A1 c1 dst) (hs_ : Octs w F A2 c2 (tWriteShareGroupStateResponse (IntKind.i16.wrap v) T)) (hc : canWriteShareGroupStateResponse T) (hkey : T.ranged) (hroom : dst.length + (tWriteShareGroupStateResponse (IntKind.i16.wrap v) T).length + 16 ≤ 1099511627776) :
    Calls Tryz.prog 19 #[.int .i64 v, .slice A1 dst.length c1, .slice A2 (tWriteShareGroupStateResponse (IntKind.i16.wrap v) T).length c2] w (fun e w' => ∃ A c, e = .returned (.tuple #[.slice A (dst ++ (tWriteShareGroupStateResponse (IntKind.i16.wrap v) T)).length c, .bool true]) ∧ w'.ownsRow w.heap.size 5 1 (.slice A (dst ++ (tWriteShareGroupStateResponse (IntKind.i16.wrap v) T)).length c) (dst ++ (tWriteShareGroupStateResponse (IntKind.i16.wrap v) T)).length (bc (dst ++ (tWriteShareGroupStateResponse (IntKind.i16.wrap v) T))) ∧ Step w w' Nil) := by
  refine enter (n := 23) Tryz.func19 rfl Tryz.ntmps19 (by kernel_rfl) fun a hE => ?_
  have hW := WOk.start w Nil
  have hsm1 := Slots.small hd
  have hsm2 := Slots.small hs_
  refine go_sp [(0, .v (.int .i64 v)), (1, .v (.slice A1 dst.length c1)), (2, .v (.slice A2 ((tWriteShareGroupStateResponse (IntKind.i16.wrap v) T).length) c2))] hW hE fun a1 hE2 => ?_
  clear hE
  refine go_seq_region [0, 1] (by kernel_rfl) ?_
  refine of_op (wpOp_inline hE2 (f := 46) (vs := []) (d := 9) (n' := 3) (by kernel_rfl) Tryz.call46 Tryz.func46 rfl Tryz.ntmps46 (by kernel_rfl) fun a3 hE4 => ?_)
  refine go_sp [] hW hE4 fun a5 hE6 => ?_
  clear hE4
  refine go_seq_region [0] (by kernel_rfl) ?_
  refine of_op (wpOp_alloc hW hE6 (d := 1) (cs := [.int .i16 0, .slice none 0 0, .map none]) (by kernel_rfl) fun b7 a8 w9 hb10 hz11 hF12 hW13 hE14 => ?_)
  clear hE6 hW
  refine wpOps_nil ?_
  refine then_normal ?_
  refine go_seq_region [0] (by kernel_rfl) ?_
  refine of_op (wpOp_inline hE14 (f := 104) (vs := [.pointer (some ⟨b7, 0, none⟩)]) (d := 2) (n' := 2) (by kernel_rfl) Tryz.call104 Tryz.func104 rfl Tryz.ntmps104 (by kernel_rfl) fun a15 hE16 => ?_)
  have hE17 := hE16.recast 0 (.v (.pointer (some ⟨b7, 0, none⟩))) (.p 0 0) rfl rfl (Nat.le_of_ble_eq_true (n := 1) rfl)
  refine wp_skip ?_
  refine leave_end hE17 hW13.cells (v := .tuple #[]) (by kernel_rfl) ?_
  refine ⟨_, rfl, fun a18 hE19 => ?_⟩
  have hE20 : EnvOk 3 [⟨b7, 0, [.int .i16 0, .slice none 0 0, .map none], true⟩] [(2, .v (.tuple #[])), (1, .p 0 0)] _ := hE19.places (⟨rfl, rfl, trivial⟩)
  refine wpOps_nil ?_
  refine then_normal ?_
  refine go_sp [(0, .p 0 0)] hW13 hE20 fun a21 hE22 => ?_
  clear hE20
  refine wp_ret ?_
  refine leave hE22 hW13.cells (v := .pointer (some ⟨b7, 0, none⟩)) (by kernel_rfl) ?_
  refine ⟨_, rfl, fun a23 hE24 => ?_⟩
  have hE25 : EnvOk 23 [⟨b7, 0, [.int .i16 0, .slice none 0 0, .map none], true⟩] [(9, .v (.pointer (some ⟨b7, 0, none⟩))), (0, .v (.int .i64 v)), (1, .v (.slice A1 dst.length c1)), (2, .v (.slice A2 ((tWriteShareGroupStateResponse (IntKind.i16.wrap v) T).length) c2))] _ := hE24.places (trivial)
  have hE26 := hE25.recast 9 (.v (.pointer (some ⟨b7, 0, none⟩))) (.p 0 0) rfl rfl (Nat.le_of_ble_eq_true (n := 1) rfl)
  have hE27 := hE26.pick (ks := [0, 1, 2, 9]) (env' := [(0, .v (.int .i64 v)), (1, .v (.slice A1 dst.length c1)), (2, .v (.slice A2 ((tWriteShareGroupStateResponse (IntKind.i16.wrap v) T).length) c2)), (9, .p 0 0)]) (by kernel_rfl)
  clear hE25
  clear hE26
  refine go_rn [1] [] [(0, .v (.int .i64 v)), (1, .v (.slice A1 dst.length c1)), (2, .v (.slice A2 ((tWriteShareGroupStateResponse (IntKind.i16.wrap v) T).length) c2)), (8, .p 0 0)] hW13 hE27 fun a28 hE29 => ?_
  clear hE27
  refine wpOps_nil ?_
  refine then_normal ?_
  refine go_seq_region [0, 1, 2, 3] (by kernel_rfl) ?_
  refine go_rn [0, 1, 2] [3] [(1, .v (.slice A1 dst.length c1)), (2, .v (.slice A2 ((tWriteShareGroupStateResponse (IntKind.i16.wrap v) T).length) c2)), (8, .p 0 0), (10, .p 0 0), (12, .v (.int .i16 (IntKind.i16.wrap v)))] hW13 hE29 fun a30 hE31 => ?_
  clear hE29
  refine of_op (wpOp_inline hE31 (f := 49) (vs := [.pointer (some ⟨b7, 0, none⟩), .int .i16 (IntKind.i16.wrap v)]) (d := 13) (n' := 8) (by kernel_rfl) Tryz.call49 Tryz.func49 rfl Tryz.ntmps49 (by kernel_rfl) fun a32 hE33 => ?_)
  have hE34 := hE33.recast 0 (.v (.pointer (some ⟨b7, 0, none⟩))) (.p 0 0) rfl rfl (Nat.le_of_ble_eq_true (n := 1) rfl)
  refine go_region [0, 1, 2, 3, 4] (by kernel_rfl) ?_
  refine go_rn [0, 1, 2, 3] [4] [(5, .v (.int .i16 (IntKind.i16.wrap v))), (7, .p 0 0)] hW13 hE34 fun a35 hE36 => ?_
  clear hE34
  refine of_op (wpOp_store hW13 hE36 (oi := 0) (cs := [.int .i16 (IntKind.i16.wrap v), .slice none 0 0, .map none]) (by kernel_rfl) fun w37 hF38 hW39 hE40 => ?_)
  clear hE36 hW13
  refine wpOps_nil ?_
  refine leave_end hE40 hW39.cells (v := .tuple #[]) (by kernel_rfl) ?_
  refine ⟨_, rfl, fun a41 hE42 => ?_⟩
  have hE43 : EnvOk 23 [⟨b7, 0, [.int .i16 (IntKind.i16.wrap v), .slice none 0 0, .map none], true⟩] [(13, .v (.tuple #[])), (1, .v (.slice A1 dst.length c1)), (2, .v (.slice A2 ((tWriteShareGroupStateResponse (IntKind.i16.wrap v) T).length) c2)), (8, .p 0 0), (10, .p 0 0), (12, .v (.int .i16 (IntKind.i16.wrap v)))] _ := hE42.places (⟨rfl, rfl, trivial⟩)
  refine wpOps_nil ?_
  refine then_normal ?_
  refine wp_seq ?_
  refine go_seq_region [0, 1, 2, 3, 4] (by kernel_rfl) ?_
  refine go_rn [0, 1] [2, 3, 4] [(1, .v (.slice A1 dst.length c1)), (8, .p 0 0), (14, .p 0 0), (15, .v (.slice A2 ((tWriteShareGroupStateResponse (IntKind.i16.wrap v) T).length) c2))] hW39 hE43 fun a44 hE45 => ?_
  clear hE43
  have hW46 := hW39.addNil 5 1
  have hF47 := hW39.frNil 5 1
  clear hW39
  refine of_op (wpOp_append hW46 hE45 (k := 0) (d := 16) (t := 22) (e := 5) (size := 1) (bytes := 1) (A := none) (As := A2) (m0 := 0) (c := 0) (m := ((tWriteShareGroupStateResponse (IntKind.i16.wrap v) T).length)) (cs := c2) (xs := []) (news := bc (tWriteShareGroupStateResponse (IntKind.i16.wrap v) T)) (by kernel_rfl) (by kernel_rfl) rfl (hs_.move hW46.step nilM hW46.imm).src (hs_.move hW46.step nilM hW46.imm).cap (by first | omega | (simp only [List.length_nil]; omega) | (simp; omega)) fun A48 c49 a50 w51 hF52 hW53 hE54 => ?_)
  clear hE45 hW46
  have er55 : (⟨A48, c49, 5, 1, 0 + (tWriteShareGroupStateResponse (IntKind.i16.wrap v) T).length, [] ++ bc (tWriteShareGroupStateResponse (IntKind.i16.wrap v) T)⟩ : Rw) = brow A48 c49 5 (tWriteShareGroupStateResponse (IntKind.i16.wrap v) T) := by rw [List.nil_append, Nat.zero_add]
  obtain ⟨hW56, hF58⟩ := hW53.rowEq 0 [brow A48 c49 5 (tWriteShareGroupStateResponse (IntKind.i16.wrap v) T)] er55
  clear hW53
  have hE59 := EnvOk.pick hE54 (ks := [1, 8, 14, 15, 16]) (env' := [(1, .v (.slice A1 dst.length c1)), (8, .p 0 0), (14, .p 0 0), (15, .v (.slice A2 ((tWriteShareGroupStateResponse (IntKind.i16.wrap v) T).length) c2)), (16, .v (.slice A48 (0 + (tWriteShareGroupStateResponse (IntKind.i16.wrap v) T).length) c49))]) (by kernel_rfl)
  have hE57 := hE59.cast (env' := [(1, .v (.slice A1 dst.length c1)), (8, .p 0 0), (14, .p 0 0), (15, .v (.slice A2 ((tWriteShareGroupStateResponse (IntKind.i16.wrap v) T).length) c2)), (16, .v (.slice A48 ((tWriteShareGroupStateResponse (IntKind.i16.wrap v) T).length) c49))]) (by simp only [List.length_append, List.length_cons, List.length_nil, Nat.zero_add])
  clear hE54
  clear hE59
  refine of_op (wpOp_inline hE57 (f := 50) (vs := [.pointer (some ⟨b7, 0, none⟩), .slice A48 ((tWriteShareGroupStateResponse (IntKind.i16.wrap v) T).length) c49]) (d := 17) (n' := 8) (by kernel_rfl) Tryz.call50 Tryz.func50 rfl Tryz.ntmps50 (by kernel_rfl) fun a60 hE61 => ?_)
  have hE62 := hE61.recast 0 (.v (.pointer (some ⟨b7, 0, none⟩))) (.p 0 0) rfl rfl (Nat.le_of_ble_eq_true (n := 1) rfl)
  refine go_sp [(0, .p 0 0), (1, .v (.slice A48 ((tWriteShareGroupStateResponse (IntKind.i16.wrap v) T).length) c49))] hW56 hE62 fun a63 hE64 => ?_
  clear hE62
  refine go_seq_region [0, 1, 2, 3] (by kernel_rfl) ?_
  refine go_rn [0, 1] [2, 3] [(5, .p 0 0), (6, .v (.slice A48 ((tWriteShareGroupStateResponse (IntKind.i16.wrap v) T).length) c49))] hW56 hE64 fun a65 hE66 => ?_
  clear hE64
  have ho67 := hW56.giveUp (G := F) 0 [] (show _ = some (brow A48 c49 5 (tWriteShareGroupStateResponse (IntKind.i16.wrap v) T)) from rfl) (by omega)
  obtain ⟨hW68, hF69⟩ := hW56.cutR 0 []
  refine of_op (wpOp_call hE66 (f := 106) (vs := [.pointer (some ⟨b7, 0, none⟩), .slice A48 ((tWriteShareGroupStateResponse (IntKind.i16.wrap v) T).length) c49, .bool false]) (d := 7) (by kernel_rfl) Tryz.call106 (rdWriteShareGroupStateResponse (IntKind.i16.wrap v) T (Str.of hW68 0 rfl) ho67 (imm_n 0 rfl) hc hkey) ?_)
  rintro e_ w70 ⟨D71, rfl, hs72, hk73, hv74, hst75⟩
  replace hv74 := avWriteShareGroupStateResponse _ _ _ hv74
  obtain ⟨hW76, hF77, hl78⟩ := hW68.wrote 0 [⟨b7, 0, [.int .i16 (IntKind.i16.wrap v), .slice ((D71.f 0).A) ((D71.f 0).l) ((D71.f 0).c), .map D71.m], true⟩] rfl hst75 hs72
  have hk82 := mvWriteShareGroupStateResponse _ (Step.refl _ Nil) nilM hl78 hk73
  refine ⟨_, rfl, fun a79 hE80 => ?_⟩
  have hE81 : EnvOk 8 [⟨b7, 0, [.int .i16 (IntKind.i16.wrap v), .slice ((D71.f 0).A) ((D71.f 0).l) ((D71.f 0).c), .map D71.m], true⟩] [(7, .v (.nilIface)), (5, .p 0 0), (6, .v (.slice A48 ((tWriteShareGroupStateResponse (IntKind.i16.wrap v) T).length) c49))] _ := hE80.places (⟨rfl, rfl, trivial⟩)
  clear hE66
  refine go_rn [3] [] [(4, .v (.nilIface))] hW76 hE81 fun a83 hE84 => ?_
  clear hE81
  refine wpOps_nil ?_
  refine then_normal ?_
  refine wp_ret ?_
  refine leave hE84 hW76.cells (v := .nilIface) (by kernel_rfl) ?_
  refine ⟨_, rfl, fun a85 hE86 => ?_⟩
  have hE87 : EnvOk 23 [⟨b7, 0, [.int .i16 (IntKind.i16.wrap v), .slice ((D71.f 0).A) ((D71.f 0).l) ((D71.f 0).c), .map D71.m], true⟩] [(17, .v (.nilIface)), (1, .v (.slice A1 dst.length c1)), (8, .p 0 0), (14, .p 0 0), (15, .v (.slice A2 ((tWriteShareGroupStateResponse (IntKind.i16.wrap v) T).length) c2)), (16, .v (.slice A48 ((tWriteShareGroupStateResponse (IntKind.i16.wrap v) T).length) c49))] _ := hE86.places (⟨rfl, rfl, trivial⟩)
  refine go_rn [4] [] [(1, .v (.slice A1 dst.length c1)), (8, .p 0 0), (18, .v (.bool false))] hW76 hE87 fun a88 hE89 => ?_
  clear hE87
  refine wpOps_nil ?_
  refine then_normal ?_
  refine cond_false hE89 (b := false) (by kernel_rfl) rfl ?_
  refine wp_skip ?_
  refine then_normal ?_
  refine go_seq_region [0, 1, 2, 3, 4, 5] (by kernel_rfl) ?_
  refine go_rn [0, 1] [2, 3, 4, 5] [(19, .p 0 0), (20, .v (.slice A1 dst.length c1))] hW76 hE89 fun a90 hE91 => ?_
  clear hE89
  have hW92 := hW76.addNil 5 1
  have hF93 := hW76.frNil 5 1
  clear hW76
  refine of_op (wpOp_append hW92 hE91 (k := 0) (d := 21) (t := 22) (e := 5) (size := 1) (bytes := 1) (A := none) (As := A1) (m0 := 0) (c := 0) (m := dst.length) (cs := c1) (xs := []) (news := bc dst) (by kernel_rfl) (by kernel_rfl) rfl (hd.move hW92.step nilM hW92.imm).src (hd.move hW92.step nilM hW92.imm).cap (by first | omega | (simp only [List.length_nil]; omega) | (simp; omega)) fun A94 c95 a96 w97 hF98 hW99 hE100 => ?_)
  clear hE91 hW92
  have er101 : (⟨A94, c95, 5, 1, 0 + dst.length, [] ++ bc dst⟩ : Rw) = brow A94 c95 5 dst := by rw [List.nil_append, Nat.zero_add]
  obtain ⟨hW102, hF104⟩ := hW99.rowEq 0 [brow A94 c95 5 dst] er101
  clear hW99
  have hE105 := EnvOk.pick hE100 (ks := [19, 20, 21]) (env' := [(19, .p 0 0), (20, .v (.slice A1 dst.length c1)), (21, .v (.slice A94 (0 + dst.length) c95))]) (by kernel_rfl)
  have hE103 := hE105.cast (env' := [(19, .p 0 0), (20, .v (.slice A1 dst.length c1)), (21, .v (.slice A94 dst.length c95))]) (by simp only [List.length_append, List.length_cons, List.length_nil, Nat.zero_add])
  clear hE100
  clear hE105
  have hk106 := (mvWriteShareGroupStateResponse _ (Fr.trans (Fr.trans hF93 hF98) hF104).step immM (Fr.trans (Fr.trans hF93 hF98) hF104).to' hk82)
  have hat107 := hW102.strImm (G := F) 0 rfl
  have hk_ := mvWriteShareGroupStateResponse _ (Step.refl _ Nil) nilM (fun b o h_ _ => imm_cut h_) hk106
  rw [← hv74] at hroom ⊢
  refine of_op (wpOp_call hE103 (f := 51) (vs := [.pointer (some ⟨b7, 0, none⟩), .slice A94 dst.length c95]) (d := 22) (by kernel_rfl) Tryz.call51 (kWriteShareGroupStateResponse (IntKind.i16.wrap v) D71 b7 0 A94 c95 dst _ _ hat107 hk_ (imm_blk 0 rfl) (hW102.own 0 _ rfl) (by omega)) ?_)
  rintro e_ w110 ⟨A111, c112, rfl, ho113, hs114, hn115⟩
  refine ⟨_, rfl, fun a116 hE117 => ?_⟩
  have hW108 : WOk _ _ _ _ [brow A111 c112 5 (dst ++ aWriteShareGroupStateResponse (IntKind.i16.wrap v) D71)] := hW102.grow (k := 0) rfl hs114 ho113 hn115
  have hF109 := Fr.grow [⟨b7, 0, [.int .i16 (IntKind.i16.wrap v), .slice ((D71.f 0).A) ((D71.f 0).l) ((D71.f 0).c), .map D71.m], true⟩] (k := 0) (rs := [brow A94 c95 5 dst]) (r' := (brow A111 c112 5 (dst ++ aWriteShareGroupStateResponse (IntKind.i16.wrap v) D71))) rfl hs114 hn115
  clear hE103 hW102
  refine go_rn [4, 5] [] [(6, .v (.slice A111 ((dst ++ aWriteShareGroupStateResponse (IntKind.i16.wrap v) D71).length) c112)), (7, .v (.bool true))] hW108 hE117 fun a119 hE120 => ?_
  clear hE117
  refine wpOps_nil ?_
  refine then_normal ?_
  refine wp_ret ?_
  refine leave hE120 hW108.cells (v := .tuple #[.slice A111 ((dst ++ aWriteShareGroupStateResponse (IntKind.i16.wrap v) D71).length) c112, .bool true]) (by kernel_rfl) ?_
  exact ⟨A111, c112, rfl, own_fresh hW108 (k := 0) rfl rfl (hW108.own 0 _ rfl), hW108.step⟩

end Go.Proofs.YtnhgfbgdoelfoaaGreatDoor.ME

/- Printed by tools/mk.py. Own work. -/
namespace Go.Proofs.YtnhgfbgdoelfoaaGreatDoor.ME
open Go
open Go.RowKit
set_option linter.unusedVariables false
set_option linter.unusedSimpArgs false
set_option maxRecDepth 20000

theorem bhgWriteShareGroupStateResponse (v : Int) (T : Tree) (dst B : Bs) {A1 A2 : Option Addr} {c1 c2 : Nat} {w : World} {F : Nat → Nat → Prop} (hB : tWriteShareGroupStateResponse (IntKind.i16.wrap v) T = B) (hd : Octs w F A1 c1 dst) (hs_ : Octs w F A2 c2 B) (hc : canWriteShareGroupStateResponse T) (hkey : T.ranged) (hroom : dst.length + B.length + 16 ≤ 1099511627776) :
    Calls Tryz.prog 19 #[.int .i64 v, .slice A1 dst.length c1, .slice A2 B.length c2] w (fun e w' => ∃ A c, e = .returned (.tuple #[.slice A (dst ++ B).length c, .bool true]) ∧ w'.ownsRow w.heap.size 5 1 (.slice A (dst ++ B).length c) (dst ++ B).length (bc (dst ++ B)) ∧ Step w w' Nil) := by
  subst hB
  exact bhWriteShareGroupStateResponse v T dst hd hs_ hc hkey hroom

theorem xWriteShareGroupStateResponse (w : World) : Calls Tryz.prog 17 #[] w (Gives w (.int .i64 1)) := by
  refine enter (n := 4) Tryz.func17 rfl Tryz.ntmps17 (by kernel_rfl) fun a hE => ?_
  have hW := WOk.start w Nil
  refine go_sp [] hW hE fun a1 hE2 => ?_
  clear hE
  refine go_seq_region [0, 1, 2, 3] (by kernel_rfl) ?_
  refine of_op (wpOp_inline hE2 (f := 46) (vs := []) (d := 1) (n' := 3) (by kernel_rfl) Tryz.call46 Tryz.func46 rfl Tryz.ntmps46 (by kernel_rfl) fun a3 hE4 => ?_)
  refine go_sp [] hW hE4 fun a5 hE6 => ?_
  clear hE4
  refine go_seq_region [0] (by kernel_rfl) ?_
  refine of_op (wpOp_alloc hW hE6 (d := 1) (cs := [.int .i16 0, .slice none 0 0, .map none]) (by kernel_rfl) fun b7 a8 w9 hb10 hz11 hF12 hW13 hE14 => ?_)
  clear hE6 hW
  refine wpOps_nil ?_
  refine then_normal ?_
  refine go_seq_region [0] (by kernel_rfl) ?_
  refine of_op (wpOp_inline hE14 (f := 104) (vs := [.pointer (some ⟨b7, 0, none⟩)]) (d := 2) (n' := 2) (by kernel_rfl) Tryz.call104 Tryz.func104 rfl Tryz.ntmps104 (by kernel_rfl) fun a15 hE16 => ?_)
  have hE17 := hE16.recast 0 (.v (.pointer (some ⟨b7, 0, none⟩))) (.p 0 0) rfl rfl (Nat.le_of_ble_eq_true (n := 1) rfl)
  refine wp_skip ?_
  refine leave_end hE17 hW13.cells (v := .tuple #[]) (by kernel_rfl) ?_
  refine ⟨_, rfl, fun a18 hE19 => ?_⟩
  have hE20 : EnvOk 3 [⟨b7, 0, [.int .i16 0, .slice none 0 0, .map none], true⟩] [(2, .v (.tuple #[])), (1, .p 0 0)] _ := hE19.places (⟨rfl, rfl, trivial⟩)
  refine wpOps_nil ?_
  refine then_normal ?_
  refine go_sp [(0, .p 0 0)] hW13 hE20 fun a21 hE22 => ?_
  clear hE20
  refine wp_ret ?_
  refine leave hE22 hW13.cells (v := .pointer (some ⟨b7, 0, none⟩)) (by kernel_rfl) ?_
  refine ⟨_, rfl, fun a23 hE24 => ?_⟩
  have hE25 : EnvOk 4 [⟨b7, 0, [.int .i16 0, .slice none 0 0, .map none], true⟩] [(1, .v (.pointer (some ⟨b7, 0, none⟩)))] _ := hE24.places (trivial)
  have hE26 := hE25.recast 1 (.v (.pointer (some ⟨b7, 0, none⟩))) (.p 0 0) rfl rfl (Nat.le_of_ble_eq_true (n := 1) rfl)
  have hE27 := hE26.pick (ks := [1]) (env' := [(1, .p 0 0)]) (by kernel_rfl)
  clear hE25
  clear hE26
  refine of_op (wpOp_inline hE27 (f := 47) (vs := [.pointer (some ⟨b7, 0, none⟩)]) (d := 2) (n' := 3) (by kernel_rfl) Tryz.call47 Tryz.func47 rfl Tryz.ntmps47 (by kernel_rfl) fun a28 hE29 => ?_)
  have hE30 := hE29.recast 0 (.v (.pointer (some ⟨b7, 0, none⟩))) (.p 0 0) rfl rfl (Nat.le_of_ble_eq_true (n := 1) rfl)
  refine go_sp [] hW13 hE30 fun a31 hE32 => ?_
  clear hE30
  refine go_sp [(2, .v (.int .i16 1))] hW13 hE32 fun a33 hE34 => ?_
  clear hE32
  refine wp_ret ?_
  refine leave hE34 hW13.cells (v := .int .i16 1) (by kernel_rfl) ?_
  refine ⟨_, rfl, fun a35 hE36 => ?_⟩
  have hE37 : EnvOk 4 [⟨b7, 0, [.int .i16 0, .slice none 0 0, .map none], true⟩] [(2, .v (.int .i16 1)), (1, .p 0 0)] _ := hE36.places (⟨rfl, rfl, trivial⟩)
  refine go_rn [2, 3] [] [(0, .v (.int .i64 1))] hW13 hE37 fun a38 hE39 => ?_
  clear hE37
  refine wpOps_nil ?_
  refine then_normal ?_
  refine wp_ret ?_
  refine leave hE39 hW13.cells (v := .int .i64 1) (by kernel_rfl) ?_
  exact ⟨rfl, hW13.step⟩

theorem sWriteShareGroupStateResponse_depth : depths sWriteShareGroupStateResponseF ≤ 8 := by simp [sWriteShareGroupStateResponseF, Fld.depth.depths, Fld.depth]
theorem lawWriteShareGroupStateResponse (x : Int) (hx : 0 ≤ x) (hx' : x < 256) (dst : Bs) {A1 : Option Addr} {c1 : Nat} (ct : List Value) (t : Tree) (w : World) (F : Nat → Nat → Prop) (hd : Octs w F A1 c1 dst) (hdl : dst.length ≤ 1048576) (ht : TreeR w F ct t) (hroom1 : (writeB 8 sWriteShareGroupStateResponseF sWriteShareGroupStateResponseX (Int.tmod x (1 + 1)) t).length ≤ 1099511627776) (hroom : dst.length + (writeB 8 sWriteShareGroupStateResponseF sWriteShareGroupStateResponseX (Int.tmod x (1 + 1)) t).length + 16 ≤ 1099511627776) (hcan : canWriteShareGroupStateResponse (fitT (Int.tmod x (1 + 1)) 8 sWriteShareGroupStateResponseF t)) (hkey : Tree.ranged (fitT (Int.tmod x (1 + 1)) 8 sWriteShareGroupStateResponseF t)) (hpure : tWriteShareGroupStateResponse (IntKind.i16.wrap (Int.tmod x (1 + 1))) (fitT (Int.tmod x (1 + 1)) 8 sWriteShareGroupStateResponseF t) = writeB 8 sWriteShareGroupStateResponseF sWriteShareGroupStateResponseX (Int.tmod x (1 + 1)) t) :
    Calls Tryz.prog 4 #[.int .u8 x, .slice A1 dst.length c1, .agg ct.toArray] w (Gives w (.bool true)) := by
  obtain ⟨n1, s2, b3, l4, u5, A6, c7, A8, c9, A10, c11, xs12, rfl, rfl, h14, h15, h16, h17⟩ := ht.open_
  have hsm19 := h14.small
  have hsm20 := h15.small
  refine enter (n := 52) Tryz.func4 rfl Tryz.ntmps4 (by kernel_rfl) fun a hE => ?_
  have hW := WOk.start w Nil
  have hsm1 := Slots.small hd
  refine go_seq_region [0, 1] (by kernel_rfl) ?_
  refine of_op (wpOp_box hW hE (d := 5) (cs := [.int .i64 n1, .slice A6 s2.length c7, .bool b3, .slice A8 l4.length c9, .slice A10 u5.length c11]) (by kernel_rfl) fun b21 a22 w23 hb24 hz25 hF26 hW27 hE28 => ?_)
  clear hE hW
  refine go_rn [1] [] [(0, .v (.int .u8 x)), (1, .v (.slice A1 dst.length c1)), (5, .p 0 0)] hW27 hE28 fun a29 hE30 => ?_
  clear hE28
  refine wpOps_nil ?_
  refine then_normal ?_
  refine wp_seq ?_
  refine go_seq_region [0, 1, 2, 3, 4, 5, 6, 7] (by kernel_rfl) ?_
  refine go_rn [0, 1, 2, 3] [4, 5, 6, 7] [(0, .v (.int .u8 x)), (1, .v (.slice A1 dst.length c1)), (5, .p 0 0), (16, .v (.bool (decide (((dst.length : Nat) : Int) > 2147483647))))] hW27 hE30 fun a31 hE32 => ?_
  clear hE30
  have hc33 : (decide (((dst.length : Nat) : Int) > 2147483647)) = false := decide_eq_false (by omega)
  have hE34 := hE32.cast (env' := [(0, .v (.int .u8 x)), (1, .v (.slice A1 dst.length c1)), (5, .p 0 0), (16, .v (.bool false))]) (by rw [hc33])
  clear hE32
  refine go_rn [4] [5, 6, 7] [(0, .v (.int .u8 x)), (1, .v (.slice A1 dst.length c1)), (5, .p 0 0), (16, .v (.bool false)), (17, .v (.agg #[.int .i64 n1, .slice A6 s2.length c7, .bool b3, .slice A8 l4.length c9, .slice A10 u5.length c11]))] hW27 hE34 fun a35 hE36 => ?_
  clear hE34
  refine of_op (wpOp_call hE36 (f := 10) (vs := [.agg #[.int .i64 n1, .slice A6 s2.length c7, .bool b3, .slice A8 l4.length c9, .slice A10 u5.length c11]]) (d := 18) (by kernel_rfl) Tryz.call10 (lFits1 _ _ _ _ (ht.move hW27.step nilM hW27.imm)) ?_)
  rintro e_ w39 ⟨b38, rfl, hs37⟩
  refine ⟨_, rfl, fun a40 hE41 => ?_⟩
  have hW42 := hW27.next_nil hs37
  have hF43 := hW27.frN hs37
  clear hE36 hW27
  refine go_rn [6, 7] [] [(0, .v (.int .u8 x)), (1, .v (.slice A1 dst.length c1)), (5, .p 0 0), (20, .v (.bool (!b38)))] hW42 hE41 fun a44 hE45 => ?_
  clear hE41
  refine wpOps_nil ?_
  refine then_normal ?_
  refine cond_of hE45 (b := !b38) (by kernel_rfl) (fun hc46 => ?_) (fun hc46 => ?_)
  ·
    refine go_sp [(6, .v (.bool true))] hW42 hE45 fun a48 hE49 => ?_
    clear hE45
    refine wp_ret ?_
    refine then_ret ?_
    refine leave hE49 hW42.cells (v := .bool true) (by kernel_rfl) ?_
    exact ⟨rfl, hW42.step⟩
  ·
    refine wp_skip ?_
    refine then_normal ?_
    refine go_seq_region [0, 1] (by kernel_rfl) ?_
    refine of_op (wpOp_call hE45 (f := 17) (vs := []) (d := 21) (by kernel_rfl) Tryz.call17 (xWriteShareGroupStateResponse _) ?_)
    rintro e_ w52 ⟨rfl, hs51⟩
    refine ⟨_, rfl, fun a53 hE54 => ?_⟩
    have hW55 := hW42.next_nil hs51
    have hF56 := hW42.frN hs51
    clear hE45 hW42
    refine go_rn [1] [] [(0, .v (.int .u8 x)), (1, .v (.slice A1 dst.length c1)), (5, .p 0 0), (7, .v (.int .i64 1))] hW55 hE54 fun a57 hE58 => ?_
    clear hE54
    refine wpOps_nil ?_
    refine then_normal ?_
    refine wp_seq ?_
    refine go_sp [(0, .v (.int .u8 x)), (1, .v (.slice A1 dst.length c1)), (5, .p 0 0), (7, .v (.int .i64 1)), (23, .v (.bool false))] hW55 hE58 fun a59 hE60 => ?_
    clear hE58
    refine cond_false hE60 (b := false) (by kernel_rfl) rfl ?_
    refine wp_skip ?_
    refine then_normal ?_
    refine go_seq_region [0, 1, 2, 3, 4, 5, 6] (by kernel_rfl) ?_
    refine of_op (wpOp_call hE60 (f := 18) (vs := []) (d := 24) (by kernel_rfl) Tryz.call18 (sWriteShareGroupStateResponse _ (Imm F w w52 [⟨b21, 0, [.int .i64 n1, .slice A6 s2.length c7, .bool b3, .slice A8 l4.length c9, .slice A10 u5.length c11], true⟩] [])) ?_)
    rintro e_ w65 ⟨A63, c64, rfl, hr62, hs61⟩
    obtain ⟨xs66, h67, h68⟩ := hr62.move (Step.refl _ Nil) nilM (hW55.laid (G := F) hs61)
    refine ⟨_, rfl, fun a69 hE70 => ?_⟩
    have hW71 := hW55.next_nil hs61
    have hF72 := hW55.frN hs61
    clear hE60
    refine go_rn [1, 2] [3, 4, 5, 6] [(1, .v (.slice A1 dst.length c1)), (5, .p 0 0), (24, .v (.agg #[.slice A63 sWriteShareGroupStateResponseF.length c64, .int .i64 sWriteShareGroupStateResponseX])), (25, .v (.int .u8 x)), (26, .v (.int .i64 1))] hW71 hE70 fun a73 hE74 => ?_
    clear hE70
    refine of_op (wpOp_call hE74 (f := 13) (vs := [.int .u8 x, .int .i64 1]) (d := 27) (by kernel_rfl) Tryz.call13 (lVersion x 1 hx hx' (by decide) (by decide) _) ?_)
    rintro e_ w76 ⟨rfl, hs75⟩
    refine ⟨_, rfl, fun a77 hE78 => ?_⟩
    have hW79 := hW71.next_nil hs75
    have hF80 := hW71.frN hs75
    clear hE74 hW71
    refine of_op (wpOp_alloc hW79 hE78 (d := 8) (cs := [.slice none 0 0, .int .i64 0]) (by kernel_rfl) fun b81 a82 w83 hb84 hz85 hF86 hW87 hE88 => ?_)
    clear hE78 hW79
    refine of_op (wpOp_store hW87 hE88 (oi := 1) (cs := [.slice A63 sWriteShareGroupStateResponseF.length c64, .int .i64 sWriteShareGroupStateResponseX]) (by kernel_rfl) fun w89 hF90 hW91 hE92 => ?_)
    clear hE88 hW87
    refine go_rn [6] [] [(1, .v (.slice A1 dst.length c1)), (5, .p 0 0), (8, .p 1 0), (9, .v (.int .i64 (Int.tmod x (1 + 1))))] hW91 hE92 fun a93 hE94 => ?_
    clear hE92
    refine wpOps_nil ?_
    refine then_normal ?_
    refine wp_seq ?_
    refine go_sp [(1, .v (.slice A1 dst.length c1)), (5, .p 0 0), (8, .p 1 0), (9, .v (.int .i64 (Int.tmod x (1 + 1)))), (30, .v (.bool (decide (((dst.length : Nat) : Int) > 1000))))] hW91 hE94 fun a95 hE96 => ?_
    clear hE94
    refine cond_of hE96 (b := decide (((dst.length : Nat) : Int) > 1000)) (by kernel_rfl) (fun hc97 => ?_) (fun hc97 => ?_)
    ·
      have hf98 := of_decide_eq_true hc97
      refine go_sp [(6, .v (.bool true))] hW91 hE96 fun a99 hE100 => ?_
      clear hE96
      refine wp_ret ?_
      refine then_ret ?_
      refine leave hE100 hW91.cells (v := .bool true) (by kernel_rfl) ?_
      exact ⟨rfl, hW91.step⟩
    ·
      have hf101 := of_decide_eq_false hc97
      refine wp_skip ?_
      refine then_normal ?_
      refine go_seq_region [0, 1, 2, 3, 4] (by kernel_rfl) ?_
      refine go_rn [0, 1, 2] [3, 4] [(1, .v (.slice A1 dst.length c1)), (9, .v (.int .i64 (Int.tmod x (1 + 1)))), (31, .v (.agg #[.slice A63 sWriteShareGroupStateResponseF.length c64, .int .i64 sWriteShareGroupStateResponseX])), (32, .v (.int .i64 (Int.tmod x (1 + 1)))), (33, .v (.agg #[.int .i64 n1, .slice A6 s2.length c7, .bool b3, .slice A8 l4.length c9, .slice A10 u5.length c11]))] hW91 hE96 fun a102 hE103 => ?_
      clear hE96
      refine of_op (wpOp_call hE103 (f := 14) (vs := [.agg #[.slice A63 sWriteShareGroupStateResponseF.length c64, .int .i64 sWriteShareGroupStateResponseX], .int .i64 (Int.tmod x (1 + 1)), .agg #[.int .i64 n1, .slice A6 s2.length c7, .bool b3, .slice A8 l4.length c9, .slice A10 u5.length c11]]) (d := 34) (by kernel_rfl) Tryz.call14 (sWrite _ _ sWriteShareGroupStateResponseF sWriteShareGroupStateResponseX (Int.tmod x (1 + 1)) _ (Tree.mk n1 s2 b3 l4 u5) _ _ ⟨xs66, (h67.move (Fr.trans (Fr.trans hF80 hF86) hF90).step immM (Fr.trans (Fr.trans hF80 hF86) hF90).to'), (fun i_ x_ h_ => ((h68 i_ x_ h_).move (Fr.trans (Fr.trans hF80 hF86) hF90).step immM (Fr.trans (Fr.trans hF80 hF86) hF90).to'))⟩ sWriteShareGroupStateResponse_depth (ht.move hW91.step nilM hW91.imm) hroom1) ?_)
      rintro e_ w108 ⟨A106, c107, rfl, ho105, hs104⟩
      refine ⟨_, rfl, fun a109 hE110 => ?_⟩
      obtain ⟨hW111, hF112⟩ := hW91.frFresh hs104 (brow A106 c107 5 (writeB 8 sWriteShareGroupStateResponseF sWriteShareGroupStateResponseX (Int.tmod x (1 + 1)) (Tree.mk n1 s2 b3 l4 u5))) (Nat.le_refl _) ho105
      clear hE103 hW91
      refine go_rn [4] [] [(1, .v (.slice A1 dst.length c1)), (9, .v (.int .i64 (Int.tmod x (1 + 1)))), (10, .v (.slice A106 ((writeB 8 sWriteShareGroupStateResponseF sWriteShareGroupStateResponseX (Int.tmod x (1 + 1)) (Tree.mk n1 s2 b3 l4 u5)).length) c107))] hW111 hE110 fun a113 hE114 => ?_
      clear hE110
      refine wpOps_nil ?_
      refine then_normal ?_
      refine go_seq_region [0, 1, 2, 3, 4, 5, 6, 7, 8] (by kernel_rfl) ?_
      refine go_rn [0, 1, 2] [3, 4, 5, 6, 7, 8] [(1, .v (.slice A1 dst.length c1)), (10, .v (.slice A106 ((writeB 8 sWriteShareGroupStateResponseF sWriteShareGroupStateResponseX (Int.tmod x (1 + 1)) (Tree.mk n1 s2 b3 l4 u5)).length) c107)), (36, .v (.int .i64 (Int.tmod x (1 + 1)))), (37, .v (.slice A1 dst.length c1)), (38, .v (.slice A106 ((writeB 8 sWriteShareGroupStateResponseF sWriteShareGroupStateResponseX (Int.tmod x (1 + 1)) (Tree.mk n1 s2 b3 l4 u5)).length) c107))] hW111 hE114 fun a115 hE116 => ?_
      clear hE114
      refine of_op (wpOp_call hE116 (f := 19) (vs := [.int .i64 (Int.tmod x (1 + 1)), .slice A1 dst.length c1, .slice A106 ((writeB 8 sWriteShareGroupStateResponseF sWriteShareGroupStateResponseX (Int.tmod x (1 + 1)) (Tree.mk n1 s2 b3 l4 u5)).length) c107]) (d := 39) (by kernel_rfl) Tryz.call19 (bhgWriteShareGroupStateResponse (Int.tmod x (1 + 1)) _ dst (writeB 8 sWriteShareGroupStateResponseF sWriteShareGroupStateResponseX (Int.tmod x (1 + 1)) (Tree.mk n1 s2 b3 l4 u5)) hpure ((hd.move hW111.step nilM hW111.imm).move (Step.refl _ Nil) nilM allF) (octs_own (hW111.own 0 _ rfl) (by first | omega | (simp only [be_length]; exact Nat.le_trans (widthI_le _) (by decide)) | (have := hroom; omega) | (have := hmade; omega) | (simp only [List.length_append, List.length_nil]; omega)) (F := fun _ _ => True) (fun _ _ _ => trivial)) hcan hkey (by first | omega | (have := hroom1; omega))) ?_)
      rintro e_ w117 ⟨A118, c119, rfl, ho120, hs121⟩
      refine ⟨_, rfl, fun a122 hE123 => ?_⟩
      obtain ⟨hW124, hF125⟩ := hW111.frFresh hs121 (brow A118 c119 5 (dst ++ (writeB 8 sWriteShareGroupStateResponseF sWriteShareGroupStateResponseX (Int.tmod x (1 + 1)) (Tree.mk n1 s2 b3 l4 u5)))) (Nat.le_refl _) ho120
      clear hE116 hW111
      refine go_rn [4, 5, 6, 7, 8] [] [(1, .v (.slice A1 dst.length c1)), (10, .v (.slice A106 ((writeB 8 sWriteShareGroupStateResponseF sWriteShareGroupStateResponseX (Int.tmod x (1 + 1)) (Tree.mk n1 s2 b3 l4 u5)).length) c107)), (11, .v (.slice A118 ((dst ++ (writeB 8 sWriteShareGroupStateResponseF sWriteShareGroupStateResponseX (Int.tmod x (1 + 1)) (Tree.mk n1 s2 b3 l4 u5))).length) c119)), (12, .v (.bool true))] hW124 hE123 fun a126 hE127 => ?_
      clear hE123
      refine wpOps_nil ?_
      refine then_normal ?_
      refine go_seq_region [0, 1, 2, 3, 4, 5, 6, 7, 8, 9, 10] (by kernel_rfl) ?_
      refine go_rn [0, 1, 2] [3, 4, 5, 6, 7, 8, 9, 10] [(1, .v (.slice A1 dst.length c1)), (10, .v (.slice A106 ((writeB 8 sWriteShareGroupStateResponseF sWriteShareGroupStateResponseX (Int.tmod x (1 + 1)) (Tree.mk n1 s2 b3 l4 u5)).length) c107)), (43, .v (.bool true)), (44, .v (.slice A118 ((dst ++ (writeB 8 sWriteShareGroupStateResponseF sWriteShareGroupStateResponseX (Int.tmod x (1 + 1)) (Tree.mk n1 s2 b3 l4 u5))).length) c119))] hW124 hE127 fun a128 hE129 => ?_
      clear hE127
      refine of_op (wpOp_lit hW124 hE129 (e := 5) (size := 1) (len := 0) (cs := []) (d := 45) (by kernel_rfl) (by kernel_rfl) fun b130 a131 w132 hb133 hz134 hF135 hW136 hE137 => ?_)
      clear hE129 hW124
      have er138 : (⟨some ⟨b130, 0, none⟩, 0, 5, 1, 0, []⟩ : Rw) = brow (some ⟨b130, 0, none⟩) 0 5 ([] : Bs) := by first | rfl | (simp only [brow, bc, List.map, by8_wrap]; try rfl)
      obtain ⟨hW139, hF141⟩ := hW136.rowEq 2 [brow A106 c107 5 (writeB 8 sWriteShareGroupStateResponseF sWriteShareGroupStateResponseX (Int.tmod x (1 + 1)) (Tree.mk n1 s2 b3 l4 u5)), brow A118 c119 5 (dst ++ (writeB 8 sWriteShareGroupStateResponseF sWriteShareGroupStateResponseX (Int.tmod x (1 + 1)) (Tree.mk n1 s2 b3 l4 u5))), brow (some ⟨b130, 0, none⟩) 0 5 ([] : Bs)] er138
      clear hW136
      have hE143 := EnvOk.pick hE137 (ks := [1, 10, 43, 44, 45]) (env' := [(1, .v (.slice A1 dst.length c1)), (10, .v (.slice A106 ((writeB 8 sWriteShareGroupStateResponseF sWriteShareGroupStateResponseX (Int.tmod x (1 + 1)) (Tree.mk n1 s2 b3 l4 u5)).length) c107)), (43, .v (.bool true)), (44, .v (.slice A118 ((dst ++ (writeB 8 sWriteShareGroupStateResponseF sWriteShareGroupStateResponseX (Int.tmod x (1 + 1)) (Tree.mk n1 s2 b3 l4 u5))).length) c119)), (45, .v (.slice (some ⟨b130, 0, none⟩) 0 0))]) (by kernel_rfl)
      have hE142 := hE143.cast (env' := [(1, .v (.slice A1 dst.length c1)), (10, .v (.slice A106 ((writeB 8 sWriteShareGroupStateResponseF sWriteShareGroupStateResponseX (Int.tmod x (1 + 1)) (Tree.mk n1 s2 b3 l4 u5)).length) c107)), (43, .v (.bool true)), (44, .v (.slice A118 ((dst ++ (writeB 8 sWriteShareGroupStateResponseF sWriteShareGroupStateResponseX (Int.tmod x (1 + 1)) (Tree.mk n1 s2 b3 l4 u5))).length) c119)), (45, .v (.slice (some ⟨b130, 0, none⟩) (([] : Bs).length) 0))]) rfl
      clear hE137 hE143
      refine go_rn [4] [5, 6, 7, 8, 9, 10] [(10, .v (.slice A106 ((writeB 8 sWriteShareGroupStateResponseF sWriteShareGroupStateResponseX (Int.tmod x (1 + 1)) (Tree.mk n1 s2 b3 l4 u5)).length) c107)), (43, .v (.bool true)), (44, .v (.slice A118 ((dst ++ (writeB 8 sWriteShareGroupStateResponseF sWriteShareGroupStateResponseX (Int.tmod x (1 + 1)) (Tree.mk n1 s2 b3 l4 u5))).length) c119)), (45, .v (.slice (some ⟨b130, 0, none⟩) (([] : Bs).length) 0)), (46, .v (.slice A1 dst.length c1))] hW139 hE142 fun a144 hE145 => ?_
      clear hE142
      refine of_op (wpOp_append hW139 hE145 (k := 2) (d := 47) (t := 22) (e := 5) (size := 1) (bytes := 1) (A := some ⟨b130, 0, none⟩) (As := A1) (m0 := (([] : Bs).length)) (c := 0) (m := dst.length) (cs := c1) (xs := (bc ([] : Bs))) (news := bc dst) (by kernel_rfl) (by kernel_rfl) rfl (hd.move hW139.step nilM hW139.imm).src (hd.move hW139.step nilM hW139.imm).cap (by first | omega | (simp only [List.length_nil, List.length_append]; omega) | (simp; omega)) fun A146 c147 a148 w149 hF150 hW151 hE152 => ?_)
      clear hE145 hW139
      have er153 : (⟨A146, c147, 5, 1, ([] : Bs).length + dst.length, bc ([] : Bs) ++ bc dst⟩ : Rw) = brow A146 c147 5 (([] : Bs) ++ dst) := brow_eq (rfl) rfl
      obtain ⟨hW154, hF156⟩ := hW151.rowEq 2 [brow A106 c107 5 (writeB 8 sWriteShareGroupStateResponseF sWriteShareGroupStateResponseX (Int.tmod x (1 + 1)) (Tree.mk n1 s2 b3 l4 u5)), brow A118 c119 5 (dst ++ (writeB 8 sWriteShareGroupStateResponseF sWriteShareGroupStateResponseX (Int.tmod x (1 + 1)) (Tree.mk n1 s2 b3 l4 u5))), brow A146 c147 5 (([] : Bs) ++ dst)] er153
      clear hW151
      have hE157 := EnvOk.pick hE152 (ks := [10, 43, 44, 45, 46, 47]) (env' := [(10, .v (.slice A106 ((writeB 8 sWriteShareGroupStateResponseF sWriteShareGroupStateResponseX (Int.tmod x (1 + 1)) (Tree.mk n1 s2 b3 l4 u5)).length) c107)), (43, .v (.bool true)), (44, .v (.slice A118 ((dst ++ (writeB 8 sWriteShareGroupStateResponseF sWriteShareGroupStateResponseX (Int.tmod x (1 + 1)) (Tree.mk n1 s2 b3 l4 u5))).length) c119)), (45, .v (.slice (some ⟨b130, 0, none⟩) (([] : Bs).length) 0)), (46, .v (.slice A1 dst.length c1)), (47, .v (.slice A146 (([] : Bs).length + dst.length) c147))]) (by kernel_rfl)
      have hE155 := hE157.cast (env' := [(10, .v (.slice A106 ((writeB 8 sWriteShareGroupStateResponseF sWriteShareGroupStateResponseX (Int.tmod x (1 + 1)) (Tree.mk n1 s2 b3 l4 u5)).length) c107)), (43, .v (.bool true)), (44, .v (.slice A118 ((dst ++ (writeB 8 sWriteShareGroupStateResponseF sWriteShareGroupStateResponseX (Int.tmod x (1 + 1)) (Tree.mk n1 s2 b3 l4 u5))).length) c119)), (45, .v (.slice (some ⟨b130, 0, none⟩) (([] : Bs).length) 0)), (46, .v (.slice A1 dst.length c1)), (47, .v (.slice A146 ((([] : Bs) ++ dst).length) c147))]) (by simp only [List.length_append, List.length_cons, List.length_nil, Nat.zero_add])
      clear hE152
      clear hE157
      refine go_rn [6] [7, 8, 9, 10] [(43, .v (.bool true)), (44, .v (.slice A118 ((dst ++ (writeB 8 sWriteShareGroupStateResponseF sWriteShareGroupStateResponseX (Int.tmod x (1 + 1)) (Tree.mk n1 s2 b3 l4 u5))).length) c119)), (47, .v (.slice A146 ((([] : Bs) ++ dst).length) c147)), (48, .v (.slice A106 ((writeB 8 sWriteShareGroupStateResponseF sWriteShareGroupStateResponseX (Int.tmod x (1 + 1)) (Tree.mk n1 s2 b3 l4 u5)).length) c107))] hW154 hE155 fun a158 hE159 => ?_
      clear hE155
      refine of_op (wpOp_append hW154 hE159 (k := 2) (d := 49) (t := 22) (e := 5) (size := 1) (bytes := 1) (A := A146) (As := A106) (m0 := ((([] : Bs) ++ dst).length)) (c := c147) (m := ((writeB 8 sWriteShareGroupStateResponseF sWriteShareGroupStateResponseX (Int.tmod x (1 + 1)) (Tree.mk n1 s2 b3 l4 u5)).length)) (cs := c107) (xs := (bc (([] : Bs) ++ dst))) (news := bc (writeB 8 sWriteShareGroupStateResponseF sWriteShareGroupStateResponseX (Int.tmod x (1 + 1)) (Tree.mk n1 s2 b3 l4 u5))) (by kernel_rfl) (by kernel_rfl) rfl (own_src (hW154.own 0 _ rfl) (bc_one _)) (own_cap (hW154.own 0 _ rfl)) (by first | omega | (simp only [List.length_nil, List.length_append]; omega) | (simp; omega)) fun A160 c161 a162 w163 hF164 hW165 hE166 => ?_)
      clear hE159 hW154
      have er167 : (⟨A160, c161, 5, 1, (([] : Bs) ++ dst).length + (writeB 8 sWriteShareGroupStateResponseF sWriteShareGroupStateResponseX (Int.tmod x (1 + 1)) (Tree.mk n1 s2 b3 l4 u5)).length, bc (([] : Bs) ++ dst) ++ bc (writeB 8 sWriteShareGroupStateResponseF sWriteShareGroupStateResponseX (Int.tmod x (1 + 1)) (Tree.mk n1 s2 b3 l4 u5))⟩ : Rw) = brow A160 c161 5 (([] : Bs) ++ dst ++ (writeB 8 sWriteShareGroupStateResponseF sWriteShareGroupStateResponseX (Int.tmod x (1 + 1)) (Tree.mk n1 s2 b3 l4 u5))) := brow_eq (rfl) rfl
      obtain ⟨hW168, hF170⟩ := hW165.rowEq 2 [brow A106 c107 5 (writeB 8 sWriteShareGroupStateResponseF sWriteShareGroupStateResponseX (Int.tmod x (1 + 1)) (Tree.mk n1 s2 b3 l4 u5)), brow A118 c119 5 (dst ++ (writeB 8 sWriteShareGroupStateResponseF sWriteShareGroupStateResponseX (Int.tmod x (1 + 1)) (Tree.mk n1 s2 b3 l4 u5))), brow A160 c161 5 (([] : Bs) ++ dst ++ (writeB 8 sWriteShareGroupStateResponseF sWriteShareGroupStateResponseX (Int.tmod x (1 + 1)) (Tree.mk n1 s2 b3 l4 u5)))] er167
      clear hW165
      have hE171 := EnvOk.pick hE166 (ks := [43, 44, 47, 48, 49]) (env' := [(43, .v (.bool true)), (44, .v (.slice A118 ((dst ++ (writeB 8 sWriteShareGroupStateResponseF sWriteShareGroupStateResponseX (Int.tmod x (1 + 1)) (Tree.mk n1 s2 b3 l4 u5))).length) c119)), (47, .v (.slice A146 ((([] : Bs) ++ dst).length) c147)), (48, .v (.slice A106 ((writeB 8 sWriteShareGroupStateResponseF sWriteShareGroupStateResponseX (Int.tmod x (1 + 1)) (Tree.mk n1 s2 b3 l4 u5)).length) c107)), (49, .v (.slice A160 ((([] : Bs) ++ dst).length + (writeB 8 sWriteShareGroupStateResponseF sWriteShareGroupStateResponseX (Int.tmod x (1 + 1)) (Tree.mk n1 s2 b3 l4 u5)).length) c161))]) (by kernel_rfl)
      have hE169 := hE171.cast (env' := [(43, .v (.bool true)), (44, .v (.slice A118 ((dst ++ (writeB 8 sWriteShareGroupStateResponseF sWriteShareGroupStateResponseX (Int.tmod x (1 + 1)) (Tree.mk n1 s2 b3 l4 u5))).length) c119)), (47, .v (.slice A146 ((([] : Bs) ++ dst).length) c147)), (48, .v (.slice A106 ((writeB 8 sWriteShareGroupStateResponseF sWriteShareGroupStateResponseX (Int.tmod x (1 + 1)) (Tree.mk n1 s2 b3 l4 u5)).length) c107)), (49, .v (.slice A160 ((([] : Bs) ++ dst ++ (writeB 8 sWriteShareGroupStateResponseF sWriteShareGroupStateResponseX (Int.tmod x (1 + 1)) (Tree.mk n1 s2 b3 l4 u5))).length) c161))]) (by simp only [List.length_append, List.length_cons, List.length_nil, Nat.zero_add])
      clear hE166
      clear hE171
      refine of_op (wpOp_call hE169 (f := 16) (vs := [.slice A118 ((dst ++ (writeB 8 sWriteShareGroupStateResponseF sWriteShareGroupStateResponseX (Int.tmod x (1 + 1)) (Tree.mk n1 s2 b3 l4 u5))).length) c119, .slice A160 ((([] : Bs) ++ dst ++ (writeB 8 sWriteShareGroupStateResponseF sWriteShareGroupStateResponseX (Int.tmod x (1 + 1)) (Tree.mk n1 s2 b3 l4 u5))).length) c161]) (d := 50) (by kernel_rfl) Tryz.call16 (sSame _ _ _ _ (dst ++ (writeB 8 sWriteShareGroupStateResponseF sWriteShareGroupStateResponseX (Int.tmod x (1 + 1)) (Tree.mk n1 s2 b3 l4 u5))) (([] : Bs) ++ dst ++ (writeB 8 sWriteShareGroupStateResponseF sWriteShareGroupStateResponseX (Int.tmod x (1 + 1)) (Tree.mk n1 s2 b3 l4 u5))) _ _ (octs_own (hW168.own 1 _ rfl) (by first | omega | (simp only [be_length]; exact Nat.le_trans (widthI_le _) (by decide)) | (have := hroom; omega) | (have := hmade; omega) | (simp only [List.length_append, List.length_nil]; omega)) (F := fun _ _ => True) (fun _ _ _ => trivial)) (octs_own (hW168.own 2 _ rfl) (by first | omega | (simp only [be_length]; exact Nat.le_trans (widthI_le _) (by decide)) | (have := hroom; omega) | (have := hmade; omega) | (simp only [List.length_append, List.length_nil]; omega)) (F := fun _ _ => True) (fun _ _ _ => trivial))) ?_)
      rintro e_ w173 ⟨rfl, hs172⟩
      refine ⟨_, rfl, fun a174 hE175 => ?_⟩
      have hW176 := hW168.next_nil hs172
      have hF177 := hW168.frN hs172
      clear hE169 hW168
      refine go_rn [9, 10] [] [(6, .v (.bool (decide (dst ++ (writeB 8 sWriteShareGroupStateResponseF sWriteShareGroupStateResponseX (Int.tmod x (1 + 1)) (Tree.mk n1 s2 b3 l4 u5)) = ([] : Bs) ++ dst ++ (writeB 8 sWriteShareGroupStateResponseF sWriteShareGroupStateResponseX (Int.tmod x (1 + 1)) (Tree.mk n1 s2 b3 l4 u5))))))] hW176 hE175 fun a178 hE179 => ?_
      clear hE175
      refine wpOps_nil ?_
      refine then_normal ?_
      refine wp_ret ?_
      refine leave hE179 hW176.cells (v := .bool (decide (dst ++ (writeB 8 sWriteShareGroupStateResponseF sWriteShareGroupStateResponseX (Int.tmod x (1 + 1)) (Tree.mk n1 s2 b3 l4 u5)) = ([] : Bs) ++ dst ++ (writeB 8 sWriteShareGroupStateResponseF sWriteShareGroupStateResponseX (Int.tmod x (1 + 1)) (Tree.mk n1 s2 b3 l4 u5))))) (by kernel_rfl) ?_
      exact ⟨by simp, hW176.step⟩

theorem closeWriteShareGroupStateResponse (x : Int) (hx : 0 ≤ x ∧ x ≤ 255) (dst : Bs) {A1 : Option Addr} {c1 : Nat} (ct : List Value) (t : Tree) (w : World) (F : Nat → Nat → Prop) (hd : Octs w F A1 c1 dst) (hdl : dst.length ≤ 1048576) (ht : TreeR w F ct t) (hsz : t.size ≤ 8388608) : Calls Tryz.prog 4 #[.int .u8 x, .slice A1 dst.length c1, .agg ct.toArray] w (Gives w (.bool true)) := by
  obtain ⟨g0, g1⟩ := ver_ok (m := 1 + 1) hx.1 hx.2 (by decide) (by decide)
  have hp : tWriteShareGroupStateResponse (IntKind.i16.wrap (Int.tmod x (1 + 1))) (fitT (Int.tmod x (1 + 1)) 8 sWriteShareGroupStateResponseF t) = writeB 8 sWriteShareGroupStateResponseF sWriteShareGroupStateResponseX (Int.tmod x (1 + 1)) t := by rw [i16_small g0 g1]; exact pureWriteShareGroupStateResponse (Int.tmod x (1 + 1)) g0 g1 t
  have h1 := writeB_le 8 sWriteShareGroupStateResponseF sWriteShareGroupStateResponseX (Int.tmod x (1 + 1)) t
  have h2 : costL sWriteShareGroupStateResponseF ≤ 131000 := by decide +kernel
  have h3 := Nat.mul_le_mul h2 hsz
  exact lawWriteShareGroupStateResponse x hx.1 (by omega) dst ct t w F hd hdl ht (by omega) (by omega) (canfitWriteShareGroupStateResponse (Int.tmod x (1 + 1)) t) (ranged_fit _ _ _ _ ht.ranged) hp

end Go.Proofs.YtnhgfbgdoelfoaaGreatDoor.ME

/- FnBehindWriteShareGroupStateResponse: the statement: of every version, every slice of octets and every tree of the bulk that the statement speaks of the law returns true, and leaves its arguments as they are; and the card. Own work. -/
namespace Go.Proofs.YtnhgfbgdoelfoaaGreatDoor.ME
open Go
open Go.ChangeShapes Go.WideShapes Go.ChangeAt Go.RowKit
set_option linter.unusedVariables false
set_option linter.unusedSimpArgs false

theorem ownKnob_ : ownKnob Tryz.prog.godebug = none := by kernel_rfl
theorem laidOut_ : laidOutB Tryz.prog = true := by kernel_rfl
theorem treeTys : TreeTys Tryz.prog 26 23 24 83 22 2 4 81 5 := ⟨by kernel_rfl, by kernel_rfl, by kernel_rfl, by kernel_rfl, by kernel_rfl, by kernel_rfl, by kernel_rfl, by kernel_rfl, by kernel_rfl, by kernel_rfl⟩
theorem open_first {H : Type} {enc : TypeId × Value → H} {P : Program} {W : World} {base b' : Nat} {sp : Nat → Bool} {hd : Bool} {t0 t1 t2 : TypeId} {v0 v1 v2 : Value} {d0 : DataW H} {p0 : List MemPlace} (hu : P.underlying t0 = some (.int .u8))
    (hval : ∀ (j : Nat) (t : TypeId) (v : Value), #[t0, t1, t2][j]? = some t → #[v0, v1, v2][j]? = some v → Value.okWide P W .any base t v) (h : DataW.Trod enc P W b' sp hd t0 v0 d0 p0) : ∃ x, v0 = .int .u8 x ∧ d0 = .lit (.int .u8 x) ∧ p0 = [] ∧ (Lit.int .u8 x).wf = true :=
  open_int hu (hval 0 t0 v0 rfl rfl) h
theorem agg_of {v : Value} {cs : List Value} (h : v.cells.toList = cs) (h5 : cs.length = 5) : v = .agg cs.toArray := by
  subst h
  cases v <;> first | (simp [Value.cells] at h5; done) | simp [Value.cells]
theorem slice_of {A : Option Addr} {n c : Nat} {a : Option Addr} {l k : Nat} (h : (Value.slice a l k).cells.toList = [.slice A n c]) : Value.slice a l k = .slice A n c := by
  simpa [Value.cells] using h

set_option maxRecDepth 100000 in
theorem contract_ (H : Type) (enc : TypeId × Value → H) (W : World) (base : Nat) (args : Array Value) (ds gs : List (DataW H)) (before : List MemPlace)
    (hval : ∀ (j : Nat) t v, Tryz.f4.params[j]? = some t → args[j]? = some v → Value.okWide Tryz.prog W .any base t v)
    (hW : DataW.Whole enc Tryz.prog Tryz.f4.params.toList Rows.fnBehindWriteShareGroupStateResponseSpec.vars false W args.toList ds gs before) (hk : Rows.uptoSmall H (ds ++ gs) = true) :
    Calls Tryz.prog 4 args W fun e W' => ∃ v, e = .returned v ∧ Rows.fnBehindWriteShareGroupStateResponseSpec.post enc Tryz.prog Tryz.f4 false true false false W args v W' := by
  have hW' := hW
  obtain ⟨p, q, hA0, hV, rfl, hfz, hnd⟩ := hW
  have hA : DataW.TrodAll enc Tryz.prog W 0 (fun _ => true) true Tryz.f4.params.toList args.toList ds p := hA0
  rw [Tryz.params4] at hA hval
  obtain ⟨v0, v1, v2, d0, d1, d2, p0, p1, p2, rfl, rfl, rfl, h0, h1, h2⟩ := trodAll_three hA
  obtain ⟨rfl, rfl⟩ := trodVars_none hV
  obtain ⟨x, rfl, rfl, rfl, w0⟩ := open_first Tryz.underlying5 @hval h0
  have hx : 0 ≤ x ∧ x ≤ 255 := by simpa [Lit.wf, IntKind.min, IntKind.max, IntKind.signed, IntKind.bits] using w0
  have hb : Rows.uptoBulk d1 ≤ 1048576 ∧ Rows.uptoBulk d2 ≤ 1048576 := by
    have h : Rows.uptoBulkAll ([DataW.lit (H := H) (.int .u8 x), d1, d2] ++ []) ≤ 1048576 := of_decide_eq_true hk
    simp only [List.append_nil, Rows.uptoBulkAll] at h
    omega
  obtain ⟨fuel1, hf1⟩ := h1
  obtain ⟨A1, c1, dst, hcs1, hd, hdl⟩ := trod_octs treeTys hf1 hb.1
  obtain ⟨a1_, l1_, k1_, rfl⟩ := okWide_slice Tryz.underlying22 (hval 1 22 v1 rfl rfl)
  have hv1 := slice_of hcs1
  rw [hv1] at hW' hval ⊢
  obtain ⟨fuel, hf⟩ := h2
  obtain ⟨t, ht, hsz⟩ := trod_tree treeTys fuel _ _ hf hb.2
  have hdl' : dst.length ≤ 1048576 := Nat.le_trans hdl hb.1
  replace hsz : t.size ≤ 8388608 := Nat.le_trans hsz (by show 8 * Rows.uptoBulk d2 ≤ 8388608; omega)
  have hagg := agg_of rfl ht.five
  generalize v2.cells.toList = ct at ht hagg
  subst hagg
  clear hf hf1
  refine (closeWriteShareGroupStateResponse x hx dst _ t W (fun _ _ => True) hd hdl' ht hsz).mono fun e W' h => ?_
  obtain ⟨rfl, hs⟩ := h
  exact ⟨_, rfl, post_step hW' hs laidOut_ (by rw [Tryz.params4]; decide +kernel) rfl rfl rfl (fun _ _ _ => trodAll_cons_mk (shut_bool Tryz.underlying4 _) trodAll_mk0)⟩

/-- the door's own heap meets the condition -/
theorem door_met (os : Os) (args : Array Value) : laidMetH Tryz.prog Rows.fnBehindWriteShareGroupStateResponseUptoRow.laid ((World.doorLaid Tryz.prog 400 os).forCall (fun _ _ => 0) ⟨#[], args, []⟩).memory :=
  laidMetH_of_parts3 (fuel := 8) (laidMet_of_run' 8 (by kernel_rfl) (by kernel_rfl)) (by kernel_rfl) (by kernel_rfl)

set_option maxRecDepth 100000 in
theorem witness_ (os : Os) (H : Type) (enc : TypeId × Value → H) : ∃ (w : World) (tape : Tape) (i : Input), w.os = os ∧ (w.forCall tape i).Shaped Tryz.prog ∧ i.vars = [] ∧ Input.okWide Tryz.prog (w.forCall tape i) .any w.heap.size 4 i ∧
      (((Rows.OpenSpec.upto Rows.fnBehindWriteShareGroupStateResponseSpec).pre enc Tryz.prog Tryz.f4 Rows.fnBehindWriteShareGroupStateResponseUptoRow.domain false (w.forCall tape i).memory i.args ∧ laidMetH Tryz.prog Rows.fnBehindWriteShareGroupStateResponseUptoRow.laid (w.forCall tape i).memory) ∧ sizedMet enc Tryz.prog Tryz.f4 (Rows.OpenSpec.upto Rows.fnBehindWriteShareGroupStateResponseSpec) false (w.forCall tape i).memory i.args) ∧
      ({} : Assume).holds Tryz.prog (lone (Frame.enter Tryz.prog 4 i.args .normal) [] (w.forCall tape i)) := by
  have hok : Input.okWideB Tryz.prog ((World.doorLaid Tryz.prog 400 os).forCall (fun _ _ => 0) ⟨#[], #[.int .u8 0, .slice none 0 0, .agg #[.int .i64 0, .slice none 0 0, .bool false, .slice none 0 0, .slice none 0 0]], []⟩) 4 ⟨#[], #[.int .u8 0, .slice none 0 0, .agg #[.int .i64 0, .slice none 0 0, .bool false, .slice none 0 0, .slice none 0 0]], []⟩ = true := by kernel_rfl
  refine ⟨World.doorLaid Tryz.prog 400 os, fun _ _ => 0, ⟨#[], #[.int .u8 0, .slice none 0 0, .agg #[.int .i64 0, .slice none 0 0, .bool false, .slice none 0 0, .slice none 0 0]], []⟩, rfl, World.shaped_of_RefB (by kernel_rfl) (by kernel_rfl), (Input.okWide_of_okWideB (base := 0) hok).1, (Input.okWide_of_okWideB hok).2,
    ⟨⟨(OpenSpec.pre_some (k := Rows.uptoSmall) rfl _ _ _ _).2 ⟨[.lit (.int .u8 0), .nil, .agg [.lit (.int .i64 0), .nil, .lit (.bool false), .nil, .nil]], [], [], DataW.Whole_of_whole (fuel := 8) (x := ([.lit (.int .u8 0), .nil, .agg [.lit (.int .i64 0), .nil, .lit (.bool false), .nil, .nil]], [], [])) (by kernel_rfl), rfl, by kernel_rfl⟩, door_met os _⟩, sizedMet_of_sizedB (s := (Rows.OpenSpec.upto Rows.fnBehindWriteShareGroupStateResponseSpec).bare) (fuel := 8) (by kernel_rfl)⟩, ?_⟩
  simp only [Assume.holds]
  exact ⟨by simp, by simp, by simp, by simp, by simp⟩

set_option maxRecDepth 100000 in
theorem lifted_ (os : Os) (started : os.Started) (H : Type) (enc : TypeId × Value → H) (F : Stop.Interp) :
    ReturnsInHanded {} Tryz.checked os 4 .any (fun w args => ((Rows.OpenSpec.upto Rows.fnBehindWriteShareGroupStateResponseSpec).pre enc Tryz.prog Tryz.f4 Rows.fnBehindWriteShareGroupStateResponseUptoRow.domain false w args ∧ laidMetH Tryz.prog Rows.fnBehindWriteShareGroupStateResponseUptoRow.laid w) ∧ sizedMet enc Tryz.prog Tryz.f4 (Rows.OpenSpec.upto Rows.fnBehindWriteShareGroupStateResponseSpec) false w args) (((Rows.OpenSpec.upto Rows.fnBehindWriteShareGroupStateResponseSpec).at F).post enc Tryz.prog Tryz.f4 false true false false) := by
  refine returnsInHanded_of_calls ownKnob_ started (by kernel_rfl) (witness_ os H enc) ?_
  intro w tape i _ _ _ hok hpre hholds
  obtain ⟨_, _, _, fn', hfn', _, _, _, _, hval⟩ := hok
  have e : fn' = Tryz.f4 := Option.some.inj (hfn'.symm.trans Tryz.func4)
  subst e
  obtain ⟨ds, gs, before, hw, hc, hkk⟩ := (OpenSpec.pre_some (k := Rows.uptoSmall) rfl _ _ _ _).1 hpre.1.1
  have hw' := DataW.Whole.of_heap (w' := w.forCall tape i) (by rfl) hw
  refine (contract_ H enc (w.forCall tape i) w.heap.size i.args ds gs before hval hw' hkk).mono fun e W' ⟨v, he, hp⟩ => ?_
  subst he
  exact ChangeSpec.post_blind hp

theorem holds_ : Rows.FnBehindWriteShareGroupStateResponseUptoSaid :=
  OpenClaim.holds_of_cond 4 Tryz.f4 rfl rfl rfl rfl rfl rfl rfl ⟨rfl, rfl, rfl, rfl, rfl⟩ rfl rfl rfl rfl rfl (by kernel_rfl) Tryz.func4 (by kernel_rfl)
    (of_decide_eq_true (by kernel_rfl)) (by unfold Func.isWrapper; first | (rw [if_pos (by decide +kernel)]; kernel_rfl) | (rw [if_neg (by decide +kernel)]; exact ⟨rfl, rfl⟩))
    (fun os started H enc _ F => lifted_ os started H enc F)
end Go.Proofs.YtnhgfbgdoelfoaaGreatDoor.ME
namespace Go.Proofs.YtnhgfbgdoelfoaaGreatDoor
open Go
/-- the card -/
theorem fnBehindWriteShareGroupStateResponse_holds : Rows.FnBehindWriteShareGroupStateResponseUptoCardSaid :=
  Claim7.holds_tied_plain_at .later [] [.sentinel] true (true, "544f600f44352b395bebee5b6e6fddcfa705bf5f980908fbd89542c657c23d94") false ME.holds_ (fun _ h => by cases h) (by kernel_rfl) (fun _ h => by cases h) fnBehindWriteShareGroupStateResponseUpto_row_tie rfl ⟨rfl, rfl⟩ (by kernel_rfl) rfl
    (fun f fn hf hfn => by
      obtain rfl : f = 4 := Option.some.inj ((show Tryz.prog.funcNamed "pub-mailsack/laws.FnBehindWriteShareGroupStateResponse" = some 4 by kernel_rfl).symm.trans hf) |>.symm
      obtain rfl : fn = Tryz.f4 := (Option.some.inj (Tryz.func4.symm.trans hfn)).symm
      exact ⟨by kernel_rfl, fun j t ht => by
        rw [Tryz.params4] at ht
        have hm : t ∈ [5, 22, 26] := by simpa using Array.mem_of_getElem? ht
        have hall : ([5, 22, 26].all fun u => !Tryz.prog.wantsStandIn u) = true := by kernel_rfl
        exact (show Tryz.prog.wantsStandIn t = false by simpa using List.all_eq_true.1 hall t hm)⟩)
    (by kernel_rfl)
end Go.Proofs.YtnhgfbgdoelfoaaGreatDoor
