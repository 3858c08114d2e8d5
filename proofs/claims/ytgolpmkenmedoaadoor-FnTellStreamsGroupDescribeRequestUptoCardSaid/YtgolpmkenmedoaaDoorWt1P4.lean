/- The texts of a claim, put together: the engine, the contracts, the law. Own work. -/
import Derived.Test.YtgolpmkenmedoaaDoorWt1P3
namespace Go.Proofs.YtgolpmkenmedoaaDoor.ME
open Go
open Go.RowKit
set_option linter.unusedVariables false
set_option linter.unusedSimpArgs false
set_option maxRecDepth 20000
def qaS (D : DV) : Tree := .mk 0 [] false [.mk 0 [] (D.f 0).A.isNone ((List.range (D.f 0).l).map fun i => .mk 0 (sb ((D.f 0).f i).s) false [] []) [], qgk (D.f 1).b, qgk (D.f 2).b] D.u
set_option maxHeartbeats 4000000 in
theorem qca (v : Int) (D : DV) (b o : Nat) (w : World) (F : Nat → Nat → Prop) (hat : AtF w F b o [.int .i16 v, .slice ((D.f 0).A) ((D.f 0).l) ((D.f 0).c), .bool ((D.f 1).b), .bool ((D.f 2).b), .map D.m]) (hok : qaW w F D) : Calls Tryd.prog 36 #[.pointer (some ⟨b, o, none⟩)] w (qd2 w F (qaS D)) := by
 refine enter (n := 92) Tryd.func36 rfl Tryd.ntmps36 kz fun a hE => ?_
 have hW : WOk w Nil w [⟨b, o, [.int .i16 v, .slice ((D.f 0).A) ((D.f 0).l) ((D.f 0).c), .bool ((D.f 1).b), .bool ((D.f 2).b), .map D.m], false⟩] [] := (WOk.start w Nil).start1 hat rfl rfl
 unfold qaW at hok
 obtain ⟨⟨g1, g1l, g1e⟩, g2, g3, g4, g4l, g4x, _⟩ := hok
 have hE0 := (EnvOk.ptr0 (cs := [.int .i16 v, .slice ((D.f 0).A) ((D.f 0).l) ((D.f 0).c), .bool ((D.f 1).b), .bool ((D.f 2).b), .map D.m]) (r := false) hE).pk (env' := [(0, .p 0 0)])
 refine qad [0] kz ?_
 refine qal (qaM hW hE0 (d := 2) (cs := [.int .i64 0, .slice none 0 0, .bool false, .slice none 0 0, .slice none 0 0]) kz fun b5 a6 w7 hb8 hz9 g6 fU fV => ?_)
 refine qae (qab ?_)
 refine qad [0, 1, 2, 3] kz ?_
 refine qal (wpOp_makeZ (t := 34) (e := 37) (size := 5) (bytes := 88) (d := 5) (j := 3) (.agg #[.int .i64 0, .slice none 0 0, .bool false, .slice none 0 0, .slice none 0 0]) [.int .i64 0, .slice none 0 0, .bool false, .slice none 0 0, .slice none 0 0, .int .i64 0, .slice none 0 0, .bool false, .slice none 0 0, .slice none 0 0, .int .i64 0, .slice none 0 0, .bool false, .slice none 0 0, .slice none 0 0] fU fV fun aa jG jH g7 g8 g9 dw fW => ?_)
 refine qai [1] [2, 3] [(0, .p 0 0), (2, .p 1 0), (6, .v (.agg #[.int .i64 0, .slice none 0 0, .bool false, .slice (some ⟨aa, 0, none⟩) 3 3, .slice none 0 0]))] dw fW fun jI fX => ?_
 refine qal (qaM dw fX (d := 3) (cs := [.int .i64 0, .slice none 0 0, .bool false, .slice none 0 0, .slice none 0 0]) kz fun bi jJ jK hC hJ hK fY fZ => ?_)
 refine qal (qax fY fZ (oi := 3) (cs := [.int .i64 0, .slice none 0 0, .bool false, .slice (some ⟨aa, 0, none⟩) 3 3, .slice none 0 0]) kz fun jL hZ f5 f7 => ?_)
 refine qae (qab ?_)
 refine qaH 9 kz f5 fun jM ia f8 df => ?_
 refine qaF [0, 1, 2, 3, 4, 5, 6] [(0, .p 0 0), (2, .p 1 0), (3, .p 3 0), (8, .v (.slice (some ⟨aa, 0, none⟩) 3 3)), (13, .v (.bool (((D.f 0).A).isNone)))] 3 (qaa qaf) (fun _ h => h.cells) df f7 fun jN f9 => ?_
 refine qaz (i := 7) kz (qaA f9 (t := 34) (A := (some ⟨aa, 0, none⟩)) (m := 3) (q := 0) (d := 14) kz (e := 37) (size := 5) (bytes := 88) (j := 0) kz (b := aa) (o := 0) rfl rfl (by decide) fun jO ga => ?_)
 have gb := ga.recast 14 (.v (.pointer (some ⟨aa, 0 + 0 * 5, none⟩))) (.p 2 0) rfl rfl (Nat.le_of_ble_eq_true (n := 3) rfl)
 have gc := gb.pk (env' := [(0, .p 0 0), (2, .p 1 0), (3, .p 3 0), (8, .v (.slice (some ⟨aa, 0, none⟩) 3 3)), (13, .v (.bool (((D.f 0).A).isNone))), (14, .p 2 0)])
 refine ⟨fun _ => df, ?_⟩
 refine qaF [8] [(0, .p 0 0), (2, .p 1 0), (3, .p 3 0), (13, .v (.bool (((D.f 0).A).isNone))), (15, .p 2 2)] 1 (qaa qaf) (fun _ h => h.cells) df gc fun jP gd => ?_
 refine qaz (i := 9) kz (qax f8 gd (oi := 2) (cs := [.int .i64 0, .slice none 0 0, .bool (((D.f 0).A).isNone), .slice none 0 0, .slice none 0 0, .int .i64 0, .slice none 0 0, .bool false, .slice none 0 0, .slice none 0 0, .int .i64 0, .slice none 0 0, .bool false, .slice none 0 0, .slice none 0 0]) kz fun jQ ib dg ge => ?_)
 refine ⟨fun h => absurd rfl h, ?_⟩
 refine qaE kz ?_ _
 refine qab ?_
 refine wp_seq ?_
 refine qao [(0, .p 0 0), (2, .p 1 0), (3, .p 3 0), (20, .v (.int .i64 (((D.f 0).l : Nat) : Int))), (21, .v (.int .i64 0))] dg ge fun jR gg => ?_
 refine wp_block ?_
 have dx := dg.addNil 37 5
 have ic := dg.frNil 37 5
 refine wp_loop_ghost (fun n_ a_ w_ => ∃ (k0_ : Nat) (A0_ : Option Addr) (c0_ : Nat) (xs0_ : List Value) (css0_ : List (List Value)), n_ = (D.f 0).l - k0_ ∧ k0_ ≤ (D.f 0).l ∧ (Trees w_ (Imm F w w_ [⟨b, o, [.int .i16 v, .slice ((D.f 0).A) ((D.f 0).l) ((D.f 0).c), .bool ((D.f 1).b), .bool ((D.f 2).b), .map D.m], false⟩, ⟨b5, 0, [.int .i64 0, .slice none 0 0, .bool false, .slice none 0 0, .slice none 0 0], true⟩, ⟨aa, 0, [.int .i64 0, .slice none 0 0, .bool (((D.f 0).A).isNone), .slice A0_ k0_ c0_, .slice none 0 0, .int .i64 0, .slice none 0 0, .bool false, .slice none 0 0, .slice none 0 0, .int .i64 0, .slice none 0 0, .bool false, .slice none 0 0, .slice none 0 0], true⟩, ⟨bi, 0, [.int .i64 0, .slice none 0 0, .bool false, .slice (some ⟨aa, 0, none⟩) 3 3, .slice none 0 0], true⟩] [⟨A0_, c0_, 37, 5, k0_, xs0_⟩]) xs0_ (((List.range (D.f 0).l).map (fun i => Tree.mk 0 (sb ((D.f 0).f i).s) false [] [])).take k0_) css0_) ∧ LInv dx 92 [⟨b, o, [.int .i16 v, .slice ((D.f 0).A) ((D.f 0).l) ((D.f 0).c), .bool ((D.f 1).b), .bool ((D.f 2).b), .map D.m], false⟩, ⟨b5, 0, [.int .i64 0, .slice none 0 0, .bool false, .slice none 0 0, .slice none 0 0], true⟩, ⟨aa, 0, [.int .i64 0, .slice none 0 0, .bool (((D.f 0).A).isNone), .slice A0_ k0_ c0_, .slice none 0 0, .int .i64 0, .slice none 0 0, .bool false, .slice none 0 0, .slice none 0 0, .int .i64 0, .slice none 0 0, .bool false, .slice none 0 0, .slice none 0 0], true⟩, ⟨bi, 0, [.int .i64 0, .slice none 0 0, .bool false, .slice (some ⟨aa, 0, none⟩) 3 3, .slice none 0 0], true⟩] [⟨A0_, c0_, 37, 5, k0_, xs0_⟩] [(0, .p 0 0), (2, .p 1 0), (3, .p 3 0), (20, .v (.int .i64 (((D.f 0).l : Nat) : Int))), (21, .v (.int .i64 ((k0_ : Nat) : Int)))] a_ w_) ((D.f 0).l) ⟨0, none, 0, [], [], by omega, by omega, Trees.nil _ _, gg.pk, dx, Fr.refl _ _ _⟩ ?_
 rintro jS jT jU ⟨k0_, A0_, c0_, xs0_, css0_, ig, ii, hT0_, gh, cu, dh⟩
 refine qao [(0, .p 0 0), (2, .p 1 0), (3, .p 3 0), (20, .v (.int .i64 (((D.f 0).l : Nat) : Int))), (21, .v (.int .i64 ((k0_ : Nat) : Int))), (22, .v (.bool (decide (((k0_ : Nat) : Int) < (((D.f 0).l : Nat) : Int)))))] cu gh fun jV di => ?_
 refine wp_seq ?_
 refine qau di (b := decide (((k0_ : Nat) : Int) < (((D.f 0).l : Nat) : Int))) kz (fun dj => ?_) (fun dj => ?_)
 ·
  have ij := of_decide_eq_true dj
  refine wp_skip ?_
  refine qab ?_
  refine wp_seq ?_
  refine wp_block ?_
  refine qao [(0, .p 0 0), (2, .p 1 0), (3, .p 3 0), (4, .v (.int .i64 ((k0_ : Nat) : Int))), (20, .v (.int .i64 (((D.f 0).l : Nat) : Int))), (21, .v (.int .i64 ((k0_ : Nat) : Int)))] cu di fun jW gi => ?_
  refine qaH 4 kz cu fun jX bh gj ik => ?_
  refine qaz (i := 0) kz (qaM gj gi (d := 24) (cs := [.bool false]) kz fun jY jZ j0 il im ab dl dy => ?_)
  have gk := TT.ofW ab dl
  refine ⟨fun _ => gk, ?_⟩
  refine qfn (i := 1) (j := 2) kz ?_ ?_
  ·
   refine (qax dl dy (oi := 4) (cs := [.bool true]) kz fun j1 bM dz gl => ?_)
   have gm := TT.ofW (ab.trans bM) dz
   refine ⟨fun _ => gm, ?_⟩
   refine qaz (i := 2) kz (qax dz gl (oi := 4) (cs := [.bool false]) kz fun j2 bP cw gn => ?_)
   have gp := TT.ofW ((ab.trans bM).trans bP) cw
   refine ⟨fun _ => gp, ?_⟩
   refine qaz (i := 3) kz (qa6 [0, 2, 3, 4, 20, 21, 25] cw.cells gn (env' := [(0, .p 0 0), (2, .p 1 0), (3, .p 3 0), (4, .v (.int .i64 ((k0_ : Nat) : Int))), (20, .v (.int .i64 (((D.f 0).l : Nat) : Int))), (21, .v (.int .i64 ((k0_ : Nat) : Int))), (25, .v (.bool false))]) kz fun j3 dA => ?_)
   have gq := TT.ofW ((ab.trans bM).trans bP) cw
   refine ⟨fun _ => gq, ?_⟩
   refine qaE kz ?_ _
   refine qab ?_
   refine qap dA (b := false) kz rfl ?_
   refine qc2 20 kz cw fun j4 dp dB bQ => ?_
   refine qaF [0, 1, 2, 3, 7, 8, 9, 10, 11] [(0, .p 0 0), (2, .p 1 0), (3, .p 3 0), (20, .v (.int .i64 (((D.f 0).l : Nat) : Int))), (21, .v (.int .i64 ((k0_ : Nat) : Int))), (47, .v (.slice (some ⟨aa, 0, none⟩) 3 3)), (49, .v (.slice (some ⟨aa, 0, none⟩) 3 3)), (56, .v (.slice ((D.f 0).A) ((D.f 0).l) ((D.f 0).c))), (57, .v (.int .i64 ((k0_ : Nat) : Int)))] 12 (qac (qaa (qaa (qac (qaa qaf))))) (fun _ h => h.cells) bQ dA fun io dC => ?_
   refine qaN dC (i := 4) (t := 34) (A := (some ⟨aa, 0, none⟩)) (m := 3) (q := 0) (d := 50) kz (e := 37) (size := 5) (bytes := 88) (j := 0) kz (b := aa) (o := 0) rfl rfl (by decide) kz kz (qac (qaa (qaa (qac (qaa qaf))))) bQ fun ip dD => ?_
   have dE := dD.recast 50 (.v (.pointer (some ⟨aa, 0 + 0 * 5, none⟩))) (.p 2 0) rfl rfl (Nat.le_of_ble_eq_true (n := 3) rfl)
   have dF := dE.pk (env' := [(0, .p 0 0), (2, .p 1 0), (3, .p 3 0), (20, .v (.int .i64 (((D.f 0).l : Nat) : Int))), (21, .v (.int .i64 ((k0_ : Nat) : Int))), (47, .v (.slice (some ⟨aa, 0, none⟩) 3 3)), (49, .v (.slice (some ⟨aa, 0, none⟩) 3 3)), (56, .v (.slice ((D.f 0).A) ((D.f 0).l) ((D.f 0).c))), (57, .v (.int .i64 ((k0_ : Nat) : Int))), (50, .p 2 0)])
   refine qaF [5, 6] [(0, .p 0 0), (2, .p 1 0), (3, .p 3 0), (20, .v (.int .i64 (((D.f 0).l : Nat) : Int))), (21, .v (.int .i64 ((k0_ : Nat) : Int))), (47, .v (.slice (some ⟨aa, 0, none⟩) 3 3)), (52, .v (.slice A0_ k0_ c0_)), (56, .v (.slice ((D.f 0).A) ((D.f 0).l) ((D.f 0).c))), (57, .v (.int .i64 ((k0_ : Nat) : Int)))] 9 (qac (qaa (qaa (qac (qaa qaf))))) (fun _ h => h.cells) bQ dF fun iq dG => ?_
   obtain ⟨gt, gv, dH, gL, dq⟩ := Slots.get g1 (i := k0_) (by omega)
   refine qaN dG (i := 12) (t := 73) (A := (D.f 0).A) (m := ((D.f 0).l)) (q := ((k0_ : Nat) : Int)) (d := 58) kz (e := 9) (size := 1) (bytes := 16) kz dH rfl (by omega) kz kz (qac (qaa (qaa (qac (qaa qaf))))) bQ fun ir dI => ?_
   refine qaV dI (i := 13) (t := 9) (b := gt) (o := gv + k0_ * 1) (d := 59) kz (cs := [.string (((D.f 0).f k0_).s)]) (v := .string (((D.f 0).f k0_).s)) kz (fun w' h' => (AtF.move dq (TT.step0 dB h') nilM qaX).at_) kz kz (qac (qaa (qaa (qac (qaa qaf))))) bQ fun iu dJ => ?_
   refine qaz (i := 14) kz (qdZ (d := 60) (src := 9) (dst := 22) (e := 5) (s := (((D.f 0).f k0_).s)) dB dJ (by have h_ := g1e k0_ (by omega); exact Nat.le_trans h_ (by decide)) fun bE bF iv iw aC cA dK dL => ?_)
   have dM := dK F
   have cB := TT.ofW aC cA
   refine ⟨fun _ => cB, ?_⟩
   refine qaF [15] [(0, .p 0 0), (2, .p 1 0), (3, .p 3 0), (20, .v (.int .i64 (((D.f 0).l : Nat) : Int))), (21, .v (.int .i64 ((k0_ : Nat) : Int))), (47, .v (.slice (some ⟨aa, 0, none⟩) 3 3)), (52, .v (.slice A0_ k0_ c0_)), (61, .v (.agg #[.int .i64 0, .slice (some ⟨bE, 0, none⟩) ((sb (((D.f 0).f k0_).s)).length) bF, .bool false, .slice none 0 0, .slice none 0 0]))] 5 (qac (qaa (qaa (qac (qaa qaf))))) (fun _ h => h.cells) cB dL fun ix dN => ?_
   refine qaz (i := 16) kz (qbC cA dN (e := 37) (size := 5) (len := 1) (cs := [.int .i64 0, .slice (some ⟨bE, 0, none⟩) ((sb (((D.f 0).f k0_).s)).length) bF, .bool false, .slice none 0 0, .slice none 0 0]) (d := 62) kz kz fun dO iy iz gM gN av bG dP => ?_)
   have dQ := TT.ofW (aC.trans av) bG
   refine ⟨fun _ => dQ, ?_⟩
   refine qaz (i := 17) kz (qaQ bG dP (k := 0) (d := 63) (t := 34) (e := 37) (size := 5) (bytes := 88) (A := A0_) (As := (some ⟨dO, 0, none⟩)) (m0 := k0_) (c := c0_) (m := 1) (cs := 1) (xs := xs0_) (news := [.int .i64 0, .slice (some ⟨bE, 0, none⟩) ((sb (((D.f 0).f k0_).s)).length) bF, .bool false, .slice none 0 0, .slice none 0 0]) kz kz rfl (qbu (bG.own 1 _ rfl) (qbG kz)) (qbF (bG.own 1 _ rfl)) (by omega) fun bN bO iA iB aD bR dR => ?_)
   have dS := TT.ofW ((aC.trans av).trans aD) bR
   refine ⟨fun _ => dS, ?_⟩
   refine qaz (i := 18) kz (qaA dR (t := 34) (A := (some ⟨aa, 0, none⟩)) (m := 3) (q := 0) (d := 64) kz (e := 37) (size := 5) (bytes := 88) (j := 0) kz (b := aa) (o := 0) rfl rfl (by decide) fun iC dT => ?_)
   have dU := dT.recast 64 (.v (.pointer (some ⟨aa, 0 + 0 * 5, none⟩))) (.p 2 0) rfl rfl (Nat.le_of_ble_eq_true (n := 3) rfl)
   have dV := dU.pk (env' := [(0, .p 0 0), (2, .p 1 0), (3, .p 3 0), (20, .v (.int .i64 (((D.f 0).l : Nat) : Int))), (21, .v (.int .i64 ((k0_ : Nat) : Int))), (47, .v (.slice (some ⟨aa, 0, none⟩) 3 3)), (52, .v (.slice A0_ k0_ c0_)), (61, .v (.agg #[.int .i64 0, .slice (some ⟨bE, 0, none⟩) ((sb (((D.f 0).f k0_).s)).length) bF, .bool false, .slice none 0 0, .slice none 0 0])), (62, .v (.slice (some ⟨dO, 0, none⟩) 1 1)), (63, .v (.slice bN (k0_ + 1) bO)), (64, .p 2 0)])
   have cC := TT.ofW ((aC.trans av).trans aD) bR
   refine ⟨fun _ => cC, ?_⟩
   refine qaF [19] [(0, .p 0 0), (2, .p 1 0), (3, .p 3 0), (20, .v (.int .i64 (((D.f 0).l : Nat) : Int))), (21, .v (.int .i64 ((k0_ : Nat) : Int))), (63, .v (.slice bN (k0_ + 1) bO)), (65, .p 2 3)] 1 (qac (qaa (qaa (qac (qaa qaf))))) (fun _ h => h.cells) cC dV fun iD dW => ?_
   refine qaz (i := 20) kz (qax bR dW (oi := 2) (cs := [.int .i64 0, .slice none 0 0, .bool (((D.f 0).A).isNone), .slice bN (k0_ + 1) bO, .slice none 0 0, .int .i64 0, .slice none 0 0, .bool false, .slice none 0 0, .slice none 0 0, .int .i64 0, .slice none 0 0, .bool false, .slice none 0 0, .slice none 0 0]) kz fun iE bj cD dX => ?_)
   refine ⟨fun h => absurd rfl h, ?_⟩
   refine qaE kz ?_ _
   refine qaq ?_
   refine qab ?_
   refine qas [0, 1] kz ?_
   refine qai [0, 1] [] [(0, .p 0 0), (2, .p 1 0), (3, .p 3 0), (20, .v (.int .i64 (((D.f 0).l : Nat) : Int))), (21, .v (.int .i64 (IntKind.i64.wrap (((k0_ : Nat) : Int) + 1))))] cD dX fun iF dY => ?_
   refine qae (qab ?_)
   obtain ⟨cE, dZ, bk⟩ := cD.cutB dY 4 [⟨b, o, [.int .i16 v, .slice ((D.f 0).A) ((D.f 0).l) ((D.f 0).c), .bool ((D.f 1).b), .bool ((D.f 2).b), .map D.m], false⟩, ⟨b5, 0, [.int .i64 0, .slice none 0 0, .bool false, .slice none 0 0, .slice none 0 0], true⟩, ⟨aa, 0, [.int .i64 0, .slice none 0 0, .bool (((D.f 0).A).isNone), .slice bN (k0_ + 1) bO, .slice none 0 0, .int .i64 0, .slice none 0 0, .bool false, .slice none 0 0, .slice none 0 0, .int .i64 0, .slice none 0 0, .bool false, .slice none 0 0, .slice none 0 0], true⟩, ⟨bi, 0, [.int .i64 0, .slice none 0 0, .bool false, .slice (some ⟨aa, 0, none⟩) 3 3, .slice none 0 0], true⟩] [(0, .p 0 0), (2, .p 1 0), (3, .p 3 0), (20, .v (.int .i64 (((D.f 0).l : Nat) : Int))), (21, .v (.int .i64 (IntKind.i64.wrap (((k0_ : Nat) : Int) + 1))))]
   obtain ⟨d5, bn⟩ := dZ.cutR 1 [⟨bN, bO, 37, 5, k0_ + 1, xs0_ ++ [.int .i64 0, .slice (some ⟨bE, 0, none⟩) ((sb (((D.f 0).f k0_).s)).length) bF, .bool false, .slice none 0 0, .slice none 0 0]⟩]
   have d6 : IntKind.i64.wrap (((k0_ : Nat) : Int) + 1) = ((k0_ + 1 : Nat) : Int) := qaJ (by omega)
   rw [d6] at cE
   exact ⟨(D.f 0).l - (k0_ + 1), by omega, k0_ + 1, bN, bO, xs0_ ++ [Value.int .i64 0, .slice (some ⟨bE, 0, none⟩) ((sb (((D.f 0).f k0_).s)).length) bF, .bool false, .slice none 0 0, .slice none 0 0], (css0_ ++ [[Value.int .i64 0, .slice (some ⟨bE, 0, none⟩) ((sb (((D.f 0).f k0_).s)).length) bF, .bool false, .slice none 0 0, .slice none 0 0]]), rfl, by omega, by rw [qd0 (by omega)]; exact (hT0_.move ((((((((((bh.trans ab).trans bM).trans bP).trans dp).trans aC).trans av).trans aD).trans bj).trans bk).trans bn).step immM ((((((((((bh.trans ab).trans bM).trans bP).trans dp).trans aC).trans av).trans aD).trans bj).trans bk).trans bn).to').snoc (x := (fun i => Tree.mk 0 (sb ((D.f 0).f i).s) false [] []) k0_) (TreeR.mk (n := 0) (b := false) (s := (sb (((D.f 0).f k0_).s))) (l := []) (u := []) (fun _ => []) (dM.move ((((av.trans aD).trans bj).trans bk).trans bn).step immM ((((av.trans aD).trans bj).trans bk).trans bn).to') (Slots.nil _ _ _ _) (fun i_ x_ h_ => by simp at h_) (TagsR.nil _ _)), cE.pk, d5, (((((((((((dh.trans bh).trans ab).trans bM).trans bP).trans dp).trans aC).trans av).trans aD).trans bj).trans bk).trans bn)⟩
  ·
   refine (qax dl dy (oi := 4) (cs := [.bool false]) kz fun iG ac cG d7 => ?_)
   have d8 := TT.ofW (ab.trans ac) cG
   refine ⟨fun _ => d8, ?_⟩
   refine qaz (i := 1) kz (qax cG d7 (oi := 4) (cs := [.bool true]) kz fun iH aw bH d9 => ?_)
   have ea := TT.ofW ((ab.trans ac).trans aw) bH
   refine ⟨fun _ => ea, ?_⟩
   refine qaz (i := 3) kz (qa6 [0, 2, 3, 4, 20, 21, 25] bH.cells d9 (env' := [(0, .p 0 0), (2, .p 1 0), (3, .p 3 0), (4, .v (.int .i64 ((k0_ : Nat) : Int))), (20, .v (.int .i64 (((D.f 0).l : Nat) : Int))), (21, .v (.int .i64 ((k0_ : Nat) : Int))), (25, .v (.bool true))]) kz fun iI cH => ?_)
   have eb := TT.ofW ((ab.trans ac).trans aw) bH
   refine ⟨fun _ => eb, ?_⟩
   refine qaE kz ?_ _
   refine qab ?_
   refine qaZ cH (b := true) kz rfl ?_
   refine qaH 19 kz bH fun iJ ba bS bo => ?_
   refine qaF [0, 1, 5, 6, 7, 8, 9] [(0, .p 0 0), (2, .p 1 0), (3, .p 3 0), (20, .v (.int .i64 (((D.f 0).l : Nat) : Int))), (21, .v (.int .i64 ((k0_ : Nat) : Int))), (27, .v (.slice (some ⟨aa, 0, none⟩) 3 3)), (34, .v (.slice ((D.f 0).A) ((D.f 0).l) ((D.f 0).c))), (35, .v (.int .i64 ((k0_ : Nat) : Int)))] 13 (qaa (qac (qaa (qaa (qac (qaa qaf)))))) (fun _ h => h.cells) bo cH fun iK ec => ?_
   refine qaN ec (i := 2) (t := 34) (A := (some ⟨aa, 0, none⟩)) (m := 3) (q := 0) (d := 28) kz (e := 37) (size := 5) (bytes := 88) (j := 0) kz (b := aa) (o := 0) rfl rfl (by decide) kz kz (qaa (qac (qaa (qaa (qac (qaa qaf)))))) bo fun iL ee => ?_
   have ef := ee.recast 28 (.v (.pointer (some ⟨aa, 0 + 0 * 5, none⟩))) (.p 2 0) rfl rfl (Nat.le_of_ble_eq_true (n := 3) rfl)
   have eg := ef.pk (env' := [(0, .p 0 0), (2, .p 1 0), (3, .p 3 0), (20, .v (.int .i64 (((D.f 0).l : Nat) : Int))), (21, .v (.int .i64 ((k0_ : Nat) : Int))), (27, .v (.slice (some ⟨aa, 0, none⟩) 3 3)), (34, .v (.slice ((D.f 0).A) ((D.f 0).l) ((D.f 0).c))), (35, .v (.int .i64 ((k0_ : Nat) : Int))), (28, .p 2 0)])
   refine qaF [3, 4, 14] [(0, .p 0 0), (2, .p 1 0), (3, .p 3 0), (20, .v (.int .i64 (((D.f 0).l : Nat) : Int))), (21, .v (.int .i64 ((k0_ : Nat) : Int))), (27, .v (.slice (some ⟨aa, 0, none⟩) 3 3)), (30, .v (.slice A0_ k0_ c0_)), (34, .v (.slice ((D.f 0).A) ((D.f 0).l) ((D.f 0).c))), (35, .v (.int .i64 ((k0_ : Nat) : Int))), (40, .v (.int .i64 ((k0_ : Nat) : Int)))] 9 (qaa (qac (qaa (qaa (qac (qaa qaf)))))) (fun _ h => h.cells) bo eg fun iM eh => ?_
   obtain ⟨gw, gx, ei, gO, dr⟩ := Slots.get g1 (i := k0_) (by omega)
   refine qaN eh (i := 10) (t := 73) (A := (D.f 0).A) (m := ((D.f 0).l)) (q := ((k0_ : Nat) : Int)) (d := 36) kz (e := 9) (size := 1) (bytes := 16) kz ei rfl (by omega) kz kz (qaa (qac (qaa (qaa (qac (qaa qaf)))))) bo fun iN ej => ?_
   refine qaV ej (i := 11) (t := 9) (b := gw) (o := gx + k0_ * 1) (d := 37) kz (cs := [.string (((D.f 0).f k0_).s)]) (v := .string (((D.f 0).f k0_).s)) kz (fun w' h' => (AtF.move dr (TT.step0 bS h') nilM qaX).at_) kz kz (qaa (qac (qaa (qaa (qac (qaa qaf)))))) bo fun iO cI => ?_
   refine qfn (i := 12) (j := 15) kz ?_ ?_
   ·
    refine (qdZ (d := 38) (src := 9) (dst := 22) (e := 5) (s := (((D.f 0).f k0_).s)) bS cI (by have h_ := g1e k0_ (by omega); exact Nat.le_trans h_ (by decide)) fun aW aX iP iQ aE cJ ek em => ?_)
    have eo := ek F
    have cK := TT.ofW aE cJ
    refine ⟨fun _ => cK, ?_⟩
    refine qaF [13] [(0, .p 0 0), (2, .p 1 0), (3, .p 3 0), (20, .v (.int .i64 (((D.f 0).l : Nat) : Int))), (21, .v (.int .i64 ((k0_ : Nat) : Int))), (27, .v (.slice (some ⟨aa, 0, none⟩) 3 3)), (30, .v (.slice A0_ k0_ c0_)), (39, .v (.agg #[.int .i64 0, .slice (some ⟨aW, 0, none⟩) ((sb (((D.f 0).f k0_).s)).length) aX, .bool false, .slice none 0 0, .slice none 0 0])), (40, .v (.int .i64 ((k0_ : Nat) : Int)))] 5 (qaa (qac (qaa (qaa (qac (qaa qaf)))))) (fun _ h => h.cells) cK em fun iR ep => ?_
    refine qaz (i := 15) kz (qbC cJ ep (e := 37) (size := 5) (len := 1) (cs := [.int .i64 0, .slice none 0 0, .bool false, .slice none 0 0, .slice none 0 0]) (d := 41) kz kz fun dt iS iT gP gQ ax bI eu => ?_)
    have ev := TT.ofW (aE.trans ax) bI
    refine ⟨fun _ => ev, ?_⟩
    refine qaz (i := 16) kz (qaQ bI eu (k := 0) (d := 42) (t := 34) (e := 37) (size := 5) (bytes := 88) (A := A0_) (As := (some ⟨dt, 0, none⟩)) (m0 := k0_) (c := c0_) (m := 1) (cs := 1) (xs := xs0_) (news := [.int .i64 0, .slice none 0 0, .bool false, .slice none 0 0, .slice none 0 0]) kz kz rfl (qbu (bI.own 1 _ rfl) (qbG kz)) (qbF (bI.own 1 _ rfl)) (by omega) fun aA aF iU iV aG bT ew => ?_)
    have ey := TT.ofW ((aE.trans ax).trans aG) bT
    refine ⟨fun _ => ey, ?_⟩
    refine qaz (i := 17) kz (qaA ew (t := 34) (A := (some ⟨aa, 0, none⟩)) (m := 3) (q := 0) (d := 43) kz (e := 37) (size := 5) (bytes := 88) (j := 0) kz (b := aa) (o := 0) rfl rfl (by decide) fun iW ez => ?_)
    have eB := ez.recast 43 (.v (.pointer (some ⟨aa, 0 + 0 * 5, none⟩))) (.p 2 0) rfl rfl (Nat.le_of_ble_eq_true (n := 3) rfl)
    have eC := eB.pk (env' := [(0, .p 0 0), (2, .p 1 0), (3, .p 3 0), (20, .v (.int .i64 (((D.f 0).l : Nat) : Int))), (21, .v (.int .i64 ((k0_ : Nat) : Int))), (27, .v (.slice (some ⟨aa, 0, none⟩) 3 3)), (30, .v (.slice A0_ k0_ c0_)), (39, .v (.agg #[.int .i64 0, .slice (some ⟨aW, 0, none⟩) ((sb (((D.f 0).f k0_).s)).length) aX, .bool false, .slice none 0 0, .slice none 0 0])), (40, .v (.int .i64 ((k0_ : Nat) : Int))), (41, .v (.slice (some ⟨dt, 0, none⟩) 1 1)), (42, .v (.slice aA (k0_ + 1) aF)), (43, .p 2 0)])
    have cL := TT.ofW ((aE.trans ax).trans aG) bT
    refine ⟨fun _ => cL, ?_⟩
    refine qaF [18] [(0, .p 0 0), (2, .p 1 0), (3, .p 3 0), (20, .v (.int .i64 (((D.f 0).l : Nat) : Int))), (21, .v (.int .i64 ((k0_ : Nat) : Int))), (39, .v (.agg #[.int .i64 0, .slice (some ⟨aW, 0, none⟩) ((sb (((D.f 0).f k0_).s)).length) aX, .bool false, .slice none 0 0, .slice none 0 0])), (40, .v (.int .i64 ((k0_ : Nat) : Int))), (42, .v (.slice aA (k0_ + 1) aF)), (44, .p 2 3)] 1 (qaa (qac (qaa (qaa (qac (qaa qaf)))))) (fun _ h => h.cells) cL eC fun iX eD => ?_
    refine qaz (i := 19) kz (qax bT eD (oi := 2) (cs := [.int .i64 0, .slice none 0 0, .bool (((D.f 0).A).isNone), .slice aA (k0_ + 1) aF, .slice none 0 0, .int .i64 0, .slice none 0 0, .bool false, .slice none 0 0, .slice none 0 0, .int .i64 0, .slice none 0 0, .bool false, .slice none 0 0, .slice none 0 0]) kz fun gy bp cM eE => ?_)
    refine ⟨fun h => absurd rfl h, ?_⟩
    refine qaE kz ?_ _
    refine qab ?_
    refine qas [0, 1] kz ?_
    have eF : World.ownsRow gy 0 37 5 (.slice aA (k0_ + 1) aF) (k0_ + 1) (xs0_ ++ [.int .i64 0, .slice none 0 0, .bool false, .slice none 0 0, .slice none 0 0]) := cM.own 0 _ rfl
    obtain ⟨eG, cN⟩ := qbP eF (by omega)
    refine qal (qaA eE (t := 34) (A := aA) (m := (k0_ + 1)) (q := ((k0_ : Nat) : Int)) (d := 45) kz (e := 37) (size := 5) (bytes := 88) kz (b := eG) (o := 0) (j := k0_) cN (rfl) (by omega) fun iY eH => ?_)
    refine qal (qbY cM eH (k := 0) (g := eG) (o := k0_ * 5) (c := aF) (m := (k0_ + 1)) (size := 5) (e := 37) (A := aA) (xs := (xs0_ ++ [.int .i64 0, .slice none 0 0, .bool false, .slice none 0 0, .slice none 0 0])) (vs := [.int .i64 0, .slice (some ⟨aW, 0, none⟩) ((sb (((D.f 0).f k0_).s)).length) aX, .bool false, .slice none 0 0, .slice none 0 0]) kz rfl cN (by simp only [List.length_cons, List.length_nil]; omega) fun iZ bq eI eJ => ?_)
    have eK : (⟨aA, aF, 37, 5, k0_ + 1, qa7 (xs0_ ++ [.int .i64 0, .slice none 0 0, .bool false, .slice none 0 0, .slice none 0 0]) (k0_ * 5) [.int .i64 0, .slice (some ⟨aW, 0, none⟩) ((sb (((D.f 0).f k0_).s)).length) aX, .bool false, .slice none 0 0, .slice none 0 0]⟩ : Rw) = ⟨aA, aF, 37, 5, k0_ + 1, xs0_ ++ [.int .i64 0, .slice (some ⟨aW, 0, none⟩) ((sb (((D.f 0).f k0_).s)).length) aX, .bool false, .slice none 0 0, .slice none 0 0]⟩ := by rw [qeB (by rw [hT0_.xslen, List.length_take, qdL]; omega)]
    obtain ⟨cO, bt⟩ := eI.rowEq 0 [⟨aA, aF, 37, 5, k0_ + 1, xs0_ ++ [.int .i64 0, .slice (some ⟨aW, 0, none⟩) ((sb (((D.f 0).f k0_).s)).length) aX, .bool false, .slice none 0 0, .slice none 0 0]⟩, ⟨some ⟨dt, 0, none⟩, 1, 37, 5, 1, [.int .i64 0, .slice none 0 0, .bool false, .slice none 0 0, .slice none 0 0]⟩] eK
    refine qae ?_
    refine qaq ?_
    refine qab ?_
    refine qas [0, 1] kz ?_
    refine qai [0, 1] [] [(0, .p 0 0), (2, .p 1 0), (3, .p 3 0), (20, .v (.int .i64 (((D.f 0).l : Nat) : Int))), (21, .v (.int .i64 (IntKind.i64.wrap (((k0_ : Nat) : Int) + 1))))] cO eJ fun i6 eL => ?_
    refine qae (qab ?_)
    obtain ⟨cP, eM, bu⟩ := cO.cutB eL 4 [⟨b, o, [.int .i16 v, .slice ((D.f 0).A) ((D.f 0).l) ((D.f 0).c), .bool ((D.f 1).b), .bool ((D.f 2).b), .map D.m], false⟩, ⟨b5, 0, [.int .i64 0, .slice none 0 0, .bool false, .slice none 0 0, .slice none 0 0], true⟩, ⟨aa, 0, [.int .i64 0, .slice none 0 0, .bool (((D.f 0).A).isNone), .slice aA (k0_ + 1) aF, .slice none 0 0, .int .i64 0, .slice none 0 0, .bool false, .slice none 0 0, .slice none 0 0, .int .i64 0, .slice none 0 0, .bool false, .slice none 0 0, .slice none 0 0], true⟩, ⟨bi, 0, [.int .i64 0, .slice none 0 0, .bool false, .slice (some ⟨aa, 0, none⟩) 3 3, .slice none 0 0], true⟩] [(0, .p 0 0), (2, .p 1 0), (3, .p 3 0), (20, .v (.int .i64 (((D.f 0).l : Nat) : Int))), (21, .v (.int .i64 (IntKind.i64.wrap (((k0_ : Nat) : Int) + 1))))]
    obtain ⟨eN, bw⟩ := eM.cutR 1 [⟨aA, aF, 37, 5, k0_ + 1, xs0_ ++ [.int .i64 0, .slice (some ⟨aW, 0, none⟩) ((sb (((D.f 0).f k0_).s)).length) aX, .bool false, .slice none 0 0, .slice none 0 0]⟩]
    have eO : IntKind.i64.wrap (((k0_ : Nat) : Int) + 1) = ((k0_ + 1 : Nat) : Int) := qaJ (by omega)
    rw [eO] at cP
    exact ⟨(D.f 0).l - (k0_ + 1), by omega, k0_ + 1, aA, aF, xs0_ ++ [Value.int .i64 0, .slice (some ⟨aW, 0, none⟩) ((sb (((D.f 0).f k0_).s)).length) aX, .bool false, .slice none 0 0, .slice none 0 0], (css0_ ++ [[Value.int .i64 0, .slice (some ⟨aW, 0, none⟩) ((sb (((D.f 0).f k0_).s)).length) aX, .bool false, .slice none 0 0, .slice none 0 0]]), rfl, by omega, by rw [qd0 (by omega)]; exact (hT0_.move ((((((((((((bh.trans ab).trans ac).trans aw).trans ba).trans aE).trans ax).trans aG).trans bp).trans bq).trans bt).trans bu).trans bw).step immM ((((((((((((bh.trans ab).trans ac).trans aw).trans ba).trans aE).trans ax).trans aG).trans bp).trans bq).trans bt).trans bu).trans bw).to').snoc (x := (fun i => Tree.mk 0 (sb ((D.f 0).f i).s) false [] []) k0_) (TreeR.mk (n := 0) (b := false) (s := (sb (((D.f 0).f k0_).s))) (l := []) (u := []) (fun _ => []) (eo.move ((((((ax.trans aG).trans bp).trans bq).trans bt).trans bu).trans bw).step immM ((((((ax.trans aG).trans bp).trans bq).trans bt).trans bu).trans bw).to') (Slots.nil _ _ _ _) (fun i_ x_ h_ => by simp at h_) (TagsR.nil _ _)), cP.pk, eN, (((((((((((((dh.trans bh).trans ab).trans ac).trans aw).trans ba).trans aE).trans ax).trans aG).trans bp).trans bq).trans bt).trans bu).trans bw)⟩
   ·
    refine (qbC bS cI (e := 37) (size := 5) (len := 1) (cs := [.int .i64 0, .slice none 0 0, .bool false, .slice none 0 0, .slice none 0 0]) (d := 41) kz kz fun cz i7 ja gR gS aH cQ eP => ?_)
    have eQ := TT.ofW aH cQ
    refine ⟨fun _ => eQ, ?_⟩
    refine qaz (i := 12) kz (qdZ (d := 38) (src := 9) (dst := 22) (e := 5) (s := (((D.f 0).f k0_).s)) cQ eP (by have h_ := g1e k0_ (by omega); exact Nat.le_trans h_ (by decide)) fun aY aZ jb jc bd bJ eR eS => ?_)
    have eU := eR F
    have cR := TT.ofW (aH.trans bd) bJ
    refine ⟨fun _ => cR, ?_⟩
    refine qaF [13] [(0, .p 0 0), (2, .p 1 0), (3, .p 3 0), (20, .v (.int .i64 (((D.f 0).l : Nat) : Int))), (21, .v (.int .i64 ((k0_ : Nat) : Int))), (27, .v (.slice (some ⟨aa, 0, none⟩) 3 3)), (30, .v (.slice A0_ k0_ c0_)), (39, .v (.agg #[.int .i64 0, .slice (some ⟨aY, 0, none⟩) ((sb (((D.f 0).f k0_).s)).length) aZ, .bool false, .slice none 0 0, .slice none 0 0])), (40, .v (.int .i64 ((k0_ : Nat) : Int))), (41, .v (.slice (some ⟨cz, 0, none⟩) 1 1))] 4 (qaa (qac (qaa (qaa (qac (qaa qaf)))))) (fun _ h => h.cells) cR eS fun jd eV => ?_
    refine qaz (i := 16) kz (qaQ bJ eV (k := 0) (d := 42) (t := 34) (e := 37) (size := 5) (bytes := 88) (A := A0_) (As := (some ⟨cz, 0, none⟩)) (m0 := k0_) (c := c0_) (m := 1) (cs := 1) (xs := xs0_) (news := [.int .i64 0, .slice none 0 0, .bool false, .slice none 0 0, .slice none 0 0]) kz kz rfl (qbu (bJ.own 1 _ rfl) (qbG kz)) (qbF (bJ.own 1 _ rfl)) (by omega) fun aB aI je jf aJ bU eW => ?_)
    have eX := TT.ofW ((aH.trans bd).trans aJ) bU
    refine ⟨fun _ => eX, ?_⟩
    refine qaz (i := 17) kz (qaA eW (t := 34) (A := (some ⟨aa, 0, none⟩)) (m := 3) (q := 0) (d := 43) kz (e := 37) (size := 5) (bytes := 88) (j := 0) kz (b := aa) (o := 0) rfl rfl (by decide) fun jg eY => ?_)
    have eZ := eY.recast 43 (.v (.pointer (some ⟨aa, 0 + 0 * 5, none⟩))) (.p 2 0) rfl rfl (Nat.le_of_ble_eq_true (n := 3) rfl)
    have e9 := eZ.pk (env' := [(0, .p 0 0), (2, .p 1 0), (3, .p 3 0), (20, .v (.int .i64 (((D.f 0).l : Nat) : Int))), (21, .v (.int .i64 ((k0_ : Nat) : Int))), (27, .v (.slice (some ⟨aa, 0, none⟩) 3 3)), (30, .v (.slice A0_ k0_ c0_)), (39, .v (.agg #[.int .i64 0, .slice (some ⟨aY, 0, none⟩) ((sb (((D.f 0).f k0_).s)).length) aZ, .bool false, .slice none 0 0, .slice none 0 0])), (40, .v (.int .i64 ((k0_ : Nat) : Int))), (41, .v (.slice (some ⟨cz, 0, none⟩) 1 1)), (42, .v (.slice aB (k0_ + 1) aI)), (43, .p 2 0)])
    have cS := TT.ofW ((aH.trans bd).trans aJ) bU
    refine ⟨fun _ => cS, ?_⟩
    refine qaF [18] [(0, .p 0 0), (2, .p 1 0), (3, .p 3 0), (20, .v (.int .i64 (((D.f 0).l : Nat) : Int))), (21, .v (.int .i64 ((k0_ : Nat) : Int))), (39, .v (.agg #[.int .i64 0, .slice (some ⟨aY, 0, none⟩) ((sb (((D.f 0).f k0_).s)).length) aZ, .bool false, .slice none 0 0, .slice none 0 0])), (40, .v (.int .i64 ((k0_ : Nat) : Int))), (42, .v (.slice aB (k0_ + 1) aI)), (44, .p 2 3)] 1 (qaa (qac (qaa (qaa (qac (qaa qaf)))))) (fun _ h => h.cells) cS e9 fun jh fa => ?_
    refine qaz (i := 19) kz (qax bU fa (oi := 2) (cs := [.int .i64 0, .slice none 0 0, .bool (((D.f 0).A).isNone), .slice aB (k0_ + 1) aI, .slice none 0 0, .int .i64 0, .slice none 0 0, .bool false, .slice none 0 0, .slice none 0 0, .int .i64 0, .slice none 0 0, .bool false, .slice none 0 0, .slice none 0 0]) kz fun gz bx cT fb => ?_)
    refine ⟨fun h => absurd rfl h, ?_⟩
    refine qaE kz ?_ _
    refine qab ?_
    refine qas [0, 1] kz ?_
    have fe : World.ownsRow gz 0 37 5 (.slice aB (k0_ + 1) aI) (k0_ + 1) (xs0_ ++ [.int .i64 0, .slice none 0 0, .bool false, .slice none 0 0, .slice none 0 0]) := cT.own 0 _ rfl
    obtain ⟨ff, cU⟩ := qbP fe (by omega)
    refine qal (qaA fb (t := 34) (A := aB) (m := (k0_ + 1)) (q := ((k0_ : Nat) : Int)) (d := 45) kz (e := 37) (size := 5) (bytes := 88) kz (b := ff) (o := 0) (j := k0_) cU (rfl) (by omega) fun ji fg => ?_)
    refine qal (qbY cT fg (k := 0) (g := ff) (o := k0_ * 5) (c := aI) (m := (k0_ + 1)) (size := 5) (e := 37) (A := aB) (xs := (xs0_ ++ [.int .i64 0, .slice none 0 0, .bool false, .slice none 0 0, .slice none 0 0])) (vs := [.int .i64 0, .slice (some ⟨aY, 0, none⟩) ((sb (((D.f 0).f k0_).s)).length) aZ, .bool false, .slice none 0 0, .slice none 0 0]) kz rfl cU (by simp only [List.length_cons, List.length_nil]; omega) fun jj bz fh fi => ?_)
    have fj : (⟨aB, aI, 37, 5, k0_ + 1, qa7 (xs0_ ++ [.int .i64 0, .slice none 0 0, .bool false, .slice none 0 0, .slice none 0 0]) (k0_ * 5) [.int .i64 0, .slice (some ⟨aY, 0, none⟩) ((sb (((D.f 0).f k0_).s)).length) aZ, .bool false, .slice none 0 0, .slice none 0 0]⟩ : Rw) = ⟨aB, aI, 37, 5, k0_ + 1, xs0_ ++ [.int .i64 0, .slice (some ⟨aY, 0, none⟩) ((sb (((D.f 0).f k0_).s)).length) aZ, .bool false, .slice none 0 0, .slice none 0 0]⟩ := by rw [qeB (by rw [hT0_.xslen, List.length_take, qdL]; omega)]
    obtain ⟨cV, bA⟩ := fh.rowEq 0 [⟨aB, aI, 37, 5, k0_ + 1, xs0_ ++ [.int .i64 0, .slice (some ⟨aY, 0, none⟩) ((sb (((D.f 0).f k0_).s)).length) aZ, .bool false, .slice none 0 0, .slice none 0 0]⟩, ⟨some ⟨cz, 0, none⟩, 1, 37, 5, 1, [.int .i64 0, .slice none 0 0, .bool false, .slice none 0 0, .slice none 0 0]⟩] fj
    refine qae ?_
    refine qaq ?_
    refine qab ?_
    refine qas [0, 1] kz ?_
    refine qai [0, 1] [] [(0, .p 0 0), (2, .p 1 0), (3, .p 3 0), (20, .v (.int .i64 (((D.f 0).l : Nat) : Int))), (21, .v (.int .i64 (IntKind.i64.wrap (((k0_ : Nat) : Int) + 1))))] cV fi fun jk fk => ?_
    refine qae (qab ?_)
    obtain ⟨cW, fm, bB⟩ := cV.cutB fk 4 [⟨b, o, [.int .i16 v, .slice ((D.f 0).A) ((D.f 0).l) ((D.f 0).c), .bool ((D.f 1).b), .bool ((D.f 2).b), .map D.m], false⟩, ⟨b5, 0, [.int .i64 0, .slice none 0 0, .bool false, .slice none 0 0, .slice none 0 0], true⟩, ⟨aa, 0, [.int .i64 0, .slice none 0 0, .bool (((D.f 0).A).isNone), .slice aB (k0_ + 1) aI, .slice none 0 0, .int .i64 0, .slice none 0 0, .bool false, .slice none 0 0, .slice none 0 0, .int .i64 0, .slice none 0 0, .bool false, .slice none 0 0, .slice none 0 0], true⟩, ⟨bi, 0, [.int .i64 0, .slice none 0 0, .bool false, .slice (some ⟨aa, 0, none⟩) 3 3, .slice none 0 0], true⟩] [(0, .p 0 0), (2, .p 1 0), (3, .p 3 0), (20, .v (.int .i64 (((D.f 0).l : Nat) : Int))), (21, .v (.int .i64 (IntKind.i64.wrap (((k0_ : Nat) : Int) + 1))))]
    obtain ⟨fo, bC⟩ := fm.cutR 1 [⟨aB, aI, 37, 5, k0_ + 1, xs0_ ++ [.int .i64 0, .slice (some ⟨aY, 0, none⟩) ((sb (((D.f 0).f k0_).s)).length) aZ, .bool false, .slice none 0 0, .slice none 0 0]⟩]
    have fq : IntKind.i64.wrap (((k0_ : Nat) : Int) + 1) = ((k0_ + 1 : Nat) : Int) := qaJ (by omega)
    rw [fq] at cW
    exact ⟨(D.f 0).l - (k0_ + 1), by omega, k0_ + 1, aB, aI, xs0_ ++ [Value.int .i64 0, .slice (some ⟨aY, 0, none⟩) ((sb (((D.f 0).f k0_).s)).length) aZ, .bool false, .slice none 0 0, .slice none 0 0], (css0_ ++ [[Value.int .i64 0, .slice (some ⟨aY, 0, none⟩) ((sb (((D.f 0).f k0_).s)).length) aZ, .bool false, .slice none 0 0, .slice none 0 0]]), rfl, by omega, by rw [qd0 (by omega)]; exact (hT0_.move ((((((((((((bh.trans ab).trans ac).trans aw).trans ba).trans aH).trans bd).trans aJ).trans bx).trans bz).trans bA).trans bB).trans bC).step immM ((((((((((((bh.trans ab).trans ac).trans aw).trans ba).trans aH).trans bd).trans aJ).trans bx).trans bz).trans bA).trans bB).trans bC).to').snoc (x := (fun i => Tree.mk 0 (sb ((D.f 0).f i).s) false [] []) k0_) (TreeR.mk (n := 0) (b := false) (s := (sb (((D.f 0).f k0_).s))) (l := []) (u := []) (fun _ => []) (eU.move (((((aJ.trans bx).trans bz).trans bA).trans bB).trans bC).step immM (((((aJ.trans bx).trans bz).trans bA).trans bB).trans bC).to') (Slots.nil _ _ _ _) (fun i_ x_ h_ => by simp at h_) (TagsR.nil _ _)), cW.pk, fo, (((((((((((((dh.trans bh).trans ab).trans ac).trans aw).trans ba).trans aH).trans bd).trans aJ).trans bx).trans bz).trans bA).trans bB).trans bC)⟩
 ·
  have gT := of_decide_eq_false dj
  refine wp_exit ?_
  refine qay ?_
  refine qay ?_
  refine qaI ?_
  refine qab ?_
  refine qaH 8 kz cu fun gA cX bV fr => ?_
  refine qaF [0, 1, 2, 3, 4, 5] [(0, .p 0 0), (2, .p 1 0), (3, .p 3 0), (68, .v (.slice (some ⟨aa, 0, none⟩) 3 3)), (72, .v (.bool ((D.f 1).b)))] 3 (qaa qaf) (fun _ h => h.cells) fr di fun jl ft => ?_
  refine qaz (i := 6) kz (qak ft (f := 40) (vs := [.bool ((D.f 1).b)]) (d := 73) kz Tryd.call40 (tBool _ _ (Imm F w gA [⟨b, o, [.int .i16 v, .slice ((D.f 0).A) ((D.f 0).l) ((D.f 0).c), .bool ((D.f 1).b), .bool ((D.f 2).b), .map D.m], false⟩, ⟨b5, 0, [.int .i64 0, .slice none 0 0, .bool false, .slice none 0 0, .slice none 0 0], true⟩, ⟨aa, 0, [.int .i64 0, .slice none 0 0, .bool (((D.f 0).A).isNone), .slice A0_ k0_ c0_, .slice none 0 0, .int .i64 0, .slice none 0 0, .bool false, .slice none 0 0, .slice none 0 0, .int .i64 0, .slice none 0 0, .bool false, .slice none 0 0, .slice none 0 0], true⟩, ⟨bi, 0, [.int .i64 0, .slice none 0 0, .bool false, .slice (some ⟨aa, 0, none⟩) 3 3, .slice none 0 0], true⟩] [⟨A0_, c0_, 37, 5, k0_, xs0_⟩])) ?_)
  rintro e_ jm ⟨gU, rfl, fu, bW⟩
  have bX := fu.move (Step.refl _ Nil) nilM (bV.laid (G := F) bW)
  obtain ⟨ag, ah, ai, aj, ak, al, am, ao, ap, ar, au, gV, gW, bY, gB, gC, jn, jo⟩ := bX.open_
  rw [bY] at bX
  have gD := gB.small
  have gE := gC.small
  rw [bY]
  refine ⟨_, rfl, fun jp fv => ?_⟩
  have cY := bV.next_nil bW
  have bZ := bV.frN bW
  have cZ := TT.ofW bZ cY
  refine ⟨fun _ => cZ, ?_⟩
  refine qaN fv (i := 7) (t := 34) (A := (some ⟨aa, 0, none⟩)) (m := 3) (q := 1) (d := 74) kz (e := 37) (size := 5) (bytes := 88) (j := 1) kz (b := aa) (o := 0) rfl rfl (by decide) kz kz (qaa qaf) cZ fun jq fw => ?_
  have fx := fw.recast 74 (.v (.pointer (some ⟨aa, 0 + 1 * 5, none⟩))) (.p 2 5) rfl rfl (Nat.le_of_ble_eq_true (n := 3) rfl)
  have fy := fx.pk (env' := [(0, .p 0 0), (2, .p 1 0), (3, .p 3 0), (68, .v (.slice (some ⟨aa, 0, none⟩) 3 3)), (72, .v (.bool ((D.f 1).b))), (73, .v (.agg #[.int .i64 ag, .slice al ah.length am, .bool ai, .slice ao aj.length ap, .slice ar ak.length au])), (74, .p 2 5)])
  refine qaz (i := 8) kz (qax cY fy (oi := 2) (cs := [.int .i64 0, .slice none 0 0, .bool (((D.f 0).A).isNone), .slice A0_ k0_ c0_, .slice none 0 0, .int .i64 ag, .slice al ah.length am, .bool ai, .slice ao aj.length ap, .slice ar ak.length au, .int .i64 0, .slice none 0 0, .bool false, .slice none 0 0, .slice none 0 0]) kz fun jr bK fz fA => ?_)
  refine ⟨fun h => absurd rfl h, ?_⟩
  refine qaE kz ?_ _
  refine qab ?_
  refine qaH 8 kz fz fun gF bL b8 fB => ?_
  refine qaF [0, 1, 2, 3, 4, 5] [(0, .p 0 0), (2, .p 1 0), (3, .p 3 0), (76, .v (.slice (some ⟨aa, 0, none⟩) 3 3)), (80, .v (.bool ((D.f 2).b)))] 3 (qaa qaf) (fun _ h => h.cells) fB fA fun js fC => ?_
  refine qaz (i := 6) kz (qak fC (f := 40) (vs := [.bool ((D.f 2).b)]) (d := 81) kz Tryd.call40 (tBool _ _ (Imm F w gF [⟨b, o, [.int .i16 v, .slice ((D.f 0).A) ((D.f 0).l) ((D.f 0).c), .bool ((D.f 1).b), .bool ((D.f 2).b), .map D.m], false⟩, ⟨b5, 0, [.int .i64 0, .slice none 0 0, .bool false, .slice none 0 0, .slice none 0 0], true⟩, ⟨aa, 0, [.int .i64 0, .slice none 0 0, .bool (((D.f 0).A).isNone), .slice A0_ k0_ c0_, .slice none 0 0, .int .i64 ag, .slice al ah.length am, .bool ai, .slice ao aj.length ap, .slice ar ak.length au, .int .i64 0, .slice none 0 0, .bool false, .slice none 0 0, .slice none 0 0], true⟩, ⟨bi, 0, [.int .i64 0, .slice none 0 0, .bool false, .slice (some ⟨aa, 0, none⟩) 3 3, .slice none 0 0], true⟩] [⟨A0_, c0_, 37, 5, k0_, xs0_⟩])) ?_)
  rintro e_ jt ⟨gX, rfl, fD, cd⟩
  have ce := fD.move (Step.refl _ Nil) nilM (b8.laid (G := F) cd)
  obtain ⟨aK, aL, aM, aN, aO, aP, aQ, aR, aS, aT, aU, gY, gZ, cm, gG, gH, ju, jv⟩ := ce.open_
  rw [cm] at ce
  have gI := gG.small
  have gJ := gH.small
  rw [cm]
  refine ⟨_, rfl, fun jw fE => ?_⟩
  have c5 := b8.next_nil cd
  have bD := b8.frN cd
  have c6 := TT.ofW bD c5
  refine ⟨fun _ => c6, ?_⟩
  refine qaN fE (i := 7) (t := 34) (A := (some ⟨aa, 0, none⟩)) (m := 3) (q := 2) (d := 82) kz (e := 37) (size := 5) (bytes := 88) (j := 2) kz (b := aa) (o := 0) rfl rfl (by decide) kz kz (qaa qaf) c6 fun jx fF => ?_
  have fG := fF.recast 82 (.v (.pointer (some ⟨aa, 0 + 2 * 5, none⟩))) (.p 2 10) rfl rfl (Nat.le_of_ble_eq_true (n := 3) rfl)
  have fH := fG.pk (env' := [(0, .p 0 0), (2, .p 1 0), (3, .p 3 0), (76, .v (.slice (some ⟨aa, 0, none⟩) 3 3)), (80, .v (.bool ((D.f 2).b))), (81, .v (.agg #[.int .i64 aK, .slice aP aL.length aQ, .bool aM, .slice aR aN.length aS, .slice aT aO.length aU])), (82, .p 2 10)])
  refine qaz (i := 8) kz (qax c5 fH (oi := 2) (cs := [.int .i64 0, .slice none 0 0, .bool (((D.f 0).A).isNone), .slice A0_ k0_ c0_, .slice none 0 0, .int .i64 ag, .slice al ah.length am, .bool ai, .slice ao aj.length ap, .slice ar ak.length au, .int .i64 aK, .slice aP aL.length aQ, .bool aM, .slice aR aN.length aS, .slice aT aO.length aU]) kz fun gK bf aV fI => ?_)
  refine ⟨fun h => absurd rfl h, ?_⟩
  refine qaE kz ?_ _
  refine qab ?_
  refine qad [0, 1, 2, 3, 4] kz ?_
  refine qai [0, 1, 2] [3, 4] [(2, .p 1 0), (3, .p 3 0), (85, .p 0 4)] aV fI fun jy fJ => ?_
  refine qal (qgq fJ (v := .func (.func 54) #[] #[.pointer (some ⟨bi, 0, none⟩)]) (d := 86) kz fun jz fK => ?_)
  refine qal (qak fK (f := 41) (vs := [.pointer (some ⟨b, o + 4, none⟩), .func (.func 54) #[] #[.pointer (some ⟨bi, 0, none⟩)]]) (d := 87) kz Tryd.call41 (kEachTell (F := (Imm F w gK [⟨b, o, [.int .i16 v, .slice ((D.f 0).A) ((D.f 0).l) ((D.f 0).c), .bool ((D.f 1).b), .bool ((D.f 2).b), .map D.m], false⟩, ⟨b5, 0, [.int .i64 0, .slice none 0 0, .bool false, .slice none 0 0, .slice none 0 0], true⟩, ⟨aa, 0, [.int .i64 0, .slice none 0 0, .bool (((D.f 0).A).isNone), .slice A0_ k0_ c0_, .slice none 0 0, .int .i64 ag, .slice al ah.length am, .bool ai, .slice ao aj.length ap, .slice ar ak.length au, .int .i64 aK, .slice aP aL.length aQ, .bool aM, .slice aR aN.length aS, .slice aT aO.length aU], true⟩, ⟨bi, 0, [.int .i64 0, .slice none 0 0, .bool false, .slice (some ⟨aa, 0, none⟩) 3 3, .slice none 0 0], true⟩] [⟨A0_, c0_, 37, 5, k0_, xs0_⟩])) Tryd.call54 qb4 ((hat.one 4 rfl).move aV.step nilM aV.imm) (g4.move aV.step nilM aV.imm) (Str.of aV 3 rfl) (imm_n 3 rfl) g4l) ?_)
  rintro e_ jA ⟨rfl, ae, af, du, fL, fM⟩
  obtain ⟨cq, bg, fN⟩ := aV.wrote 3 [⟨b, o, [.int .i16 v, .slice ((D.f 0).A) ((D.f 0).l) ((D.f 0).c), .bool ((D.f 1).b), .bool ((D.f 2).b), .map D.m], false⟩, ⟨b5, 0, [.int .i64 0, .slice none 0 0, .bool false, .slice none 0 0, .slice none 0 0], true⟩, ⟨aa, 0, [.int .i64 0, .slice none 0 0, .bool (((D.f 0).A).isNone), .slice A0_ k0_ c0_, .slice none 0 0, .int .i64 ag, .slice al ah.length am, .bool ai, .slice ao aj.length ap, .slice ar ak.length au, .int .i64 aK, .slice aP aL.length aQ, .bool aM, .slice aR aN.length aS, .slice aT aO.length aU], true⟩, ⟨bi, 0, [.int .i64 0, .slice none 0 0, .bool false, .slice (some ⟨aa, 0, none⟩) 3 3, .slice ae D.u.length af], true⟩] rfl fM du
  have da := fL.move (Step.refl _ Nil) nilM (fun b_ o_ h_ hb_ => fN (G := F) b_ o_ (.inr h_) hb_)
  refine ⟨_, rfl, fun jB fO => ?_⟩
  have fP := (EnvOk.places (tb' := [⟨b, o, [.int .i16 v, .slice ((D.f 0).A) ((D.f 0).l) ((D.f 0).c), .bool ((D.f 1).b), .bool ((D.f 2).b), .map D.m], false⟩, ⟨b5, 0, [.int .i64 0, .slice none 0 0, .bool false, .slice none 0 0, .slice none 0 0], true⟩, ⟨aa, 0, [.int .i64 0, .slice none 0 0, .bool (((D.f 0).A).isNone), .slice A0_ k0_ c0_, .slice none 0 0, .int .i64 ag, .slice al ah.length am, .bool ai, .slice ao aj.length ap, .slice ar ak.length au, .int .i64 aK, .slice aP aL.length aQ, .bool aM, .slice aR aN.length aS, .slice aT aO.length aU], true⟩, ⟨bi, 0, [.int .i64 0, .slice none 0 0, .bool false, .slice (some ⟨aa, 0, none⟩) 3 3, .slice ae D.u.length af], true⟩]) fO (show Pl [⟨b, o, [.int .i16 v, .slice ((D.f 0).A) ((D.f 0).l) ((D.f 0).c), .bool ((D.f 1).b), .bool ((D.f 2).b), .map D.m], false⟩, ⟨b5, 0, [.int .i64 0, .slice none 0 0, .bool false, .slice none 0 0, .slice none 0 0], true⟩, ⟨aa, 0, [.int .i64 0, .slice none 0 0, .bool (((D.f 0).A).isNone), .slice A0_ k0_ c0_, .slice none 0 0, .int .i64 ag, .slice al ah.length am, .bool ai, .slice ao aj.length ap, .slice ar ak.length au, .int .i64 aK, .slice aP aL.length aQ, .bool aM, .slice aR aN.length aS, .slice aT aO.length aU], true⟩, ⟨bi, 0, [.int .i64 0, .slice none 0 0, .bool false, .slice (some ⟨aa, 0, none⟩) 3 3, .slice none 0 0], true⟩] [⟨b, o, [.int .i16 v, .slice ((D.f 0).A) ((D.f 0).l) ((D.f 0).c), .bool ((D.f 1).b), .bool ((D.f 2).b), .map D.m], false⟩, ⟨b5, 0, [.int .i64 0, .slice none 0 0, .bool false, .slice none 0 0, .slice none 0 0], true⟩, ⟨aa, 0, [.int .i64 0, .slice none 0 0, .bool (((D.f 0).A).isNone), .slice A0_ k0_ c0_, .slice none 0 0, .int .i64 ag, .slice al ah.length am, .bool ai, .slice ao aj.length ap, .slice ar ak.length au, .int .i64 aK, .slice aP aL.length aQ, .bool aM, .slice aR aN.length aS, .slice aT aO.length aU], true⟩, ⟨bi, 0, [.int .i64 0, .slice none 0 0, .bool false, .slice (some ⟨aa, 0, none⟩) 3 3, .slice ae D.u.length af], true⟩] from ⟨rfl, rfl, ⟨rfl, rfl, ⟨rfl, rfl, ⟨rfl, rfl, trivial⟩⟩⟩⟩)).pk (env' := [(87, .v (.tuple #[])), (2, .p 1 0), (3, .p 3 0), (85, .p 0 4), (86, .v (.func (.func 54) #[] #[.pointer (some ⟨bi, 0, none⟩)]))])
  refine qae (qab ?_)
  refine qad [0, 1, 2] kz ?_
  refine qai [0, 1] [2] [(2, .p 1 0), (3, .p 3 0), (89, .v (.slice ae D.u.length af))] cq fP fun jC fQ => ?_
  refine qal (qak fQ (f := 43) (vs := [.slice ae D.u.length af]) (d := 90) kz Tryd.call43 (tSorted da g4.sorted) ?_)
  rintro e_ jD ⟨rfl, db⟩
  refine ⟨_, rfl, fun jE fR => ?_⟩
  have dc := cq.next_nil db
  have ay := cq.frN db
  refine qae (qab ?_)
  refine qad [0, 1] kz ?_
  refine qai [0] [1] [(2, .p 1 0), (91, .v (.agg #[.int .i64 0, .slice none 0 0, .bool false, .slice (some ⟨aa, 0, none⟩) 3 3, .slice ae D.u.length af]))] dc fR fun jF fS => ?_
  refine qal (qax dc fS (oi := 1) (cs := [.int .i64 0, .slice none 0 0, .bool false, .slice (some ⟨aa, 0, none⟩) 3 3, .slice ae D.u.length af]) kz fun dv az cr fT => ?_)
  refine qae (qab ?_)
  refine wp_ret ?_
  refine qaD fT cr.cells (v := .agg #[.int .i64 0, .slice none 0 0, .bool false, .slice (some ⟨aa, 0, none⟩) 3 3, .slice ae D.u.length af]) kz ?_
  have de := (hT0_.move ((((((((cX.trans bZ).trans bK).trans bL).trans bD).trans bf).trans bg).trans ay).trans az).step immM ((((((((cX.trans bZ).trans bK).trans bL).trans bD).trans bf).trans bg).trans ay).trans az).to')
  rw [take_all (by omega)] at de
  exact tell_end (u := D.u) (l := [.mk 0 [] (D.f 0).A.isNone ((List.range (D.f 0).l).map fun i => .mk 0 (sb ((D.f 0).f i).s) false [] []) [], qgk (D.f 1).b, qgk (D.f 2).b]) (css := [[.int .i64 0, .slice none 0 0, .bool (((D.f 0).A).isNone), .slice A0_ k0_ c0_, .slice none 0 0], [.int .i64 ag, .slice al ah.length am, .bool ai, .slice ao aj.length ap, .slice ar ak.length au], [.int .i64 aK, .slice aP aL.length aQ, .bool aM, .slice aR aN.length aS, .slice aT aO.length aU]]) cr 2 rfl ⟨tell_list cr (k := 0) rfl de (by rw [qdL]; omega) (by rw [qdL]; omega), (show TreeR _ (Imm F w dv [⟨b, o, [.int .i16 v, .slice ((D.f 0).A) ((D.f 0).l) ((D.f 0).c), .bool ((D.f 1).b), .bool ((D.f 2).b), .map D.m], false⟩, ⟨b5, 0, [.int .i64 0, .slice none 0 0, .bool false, .slice (some ⟨aa, 0, none⟩) 3 3, .slice ae D.u.length af], true⟩, ⟨aa, 0, [.int .i64 0, .slice none 0 0, .bool (((D.f 0).A).isNone), .slice A0_ k0_ c0_, .slice none 0 0, .int .i64 ag, .slice al ah.length am, .bool ai, .slice ao aj.length ap, .slice ar ak.length au, .int .i64 aK, .slice aP aL.length aQ, .bool aM, .slice aR aN.length aS, .slice aT aO.length aU], true⟩, ⟨bi, 0, [.int .i64 0, .slice none 0 0, .bool false, .slice (some ⟨aa, 0, none⟩) 3 3, .slice ae D.u.length af], true⟩] [⟨A0_, c0_, 37, 5, k0_, xs0_⟩]) _ _ from (bX.move ((((((bK.trans bL).trans bD).trans bf).trans bg).trans ay).trans az).step immM ((((((bK.trans bL).trans bD).trans bf).trans bg).trans ay).trans az).to')).move (Step.refl _ Nil) nilM qcn, (show TreeR _ (Imm F w dv [⟨b, o, [.int .i16 v, .slice ((D.f 0).A) ((D.f 0).l) ((D.f 0).c), .bool ((D.f 1).b), .bool ((D.f 2).b), .map D.m], false⟩, ⟨b5, 0, [.int .i64 0, .slice none 0 0, .bool false, .slice (some ⟨aa, 0, none⟩) 3 3, .slice ae D.u.length af], true⟩, ⟨aa, 0, [.int .i64 0, .slice none 0 0, .bool (((D.f 0).A).isNone), .slice A0_ k0_ c0_, .slice none 0 0, .int .i64 ag, .slice al ah.length am, .bool ai, .slice ao aj.length ap, .slice ar ak.length au, .int .i64 aK, .slice aP aL.length aQ, .bool aM, .slice aR aN.length aS, .slice aT aO.length aU], true⟩, ⟨bi, 0, [.int .i64 0, .slice none 0 0, .bool false, .slice (some ⟨aa, 0, none⟩) 3 3, .slice ae D.u.length af], true⟩] [⟨A0_, c0_, 37, 5, k0_, xs0_⟩]) _ _ from (ce.move (((bf.trans bg).trans ay).trans az).step immM (((bf.trans bg).trans ay).trans az).to')).move (Step.refl _ Nil) nilM qcn, trivial⟩ ((show TagsR _ (Imm F w dv [⟨b, o, [.int .i16 v, .slice ((D.f 0).A) ((D.f 0).l) ((D.f 0).c), .bool ((D.f 1).b), .bool ((D.f 2).b), .map D.m], false⟩, ⟨b5, 0, [.int .i64 0, .slice none 0 0, .bool false, .slice (some ⟨aa, 0, none⟩) 3 3, .slice ae D.u.length af], true⟩, ⟨aa, 0, [.int .i64 0, .slice none 0 0, .bool (((D.f 0).A).isNone), .slice A0_ k0_ c0_, .slice none 0 0, .int .i64 ag, .slice al ah.length am, .bool ai, .slice ao aj.length ap, .slice ar ak.length au, .int .i64 aK, .slice aP aL.length aQ, .bool aM, .slice aR aN.length aS, .slice aT aO.length aU], true⟩, ⟨bi, 0, [.int .i64 0, .slice none 0 0, .bool false, .slice (some ⟨aa, 0, none⟩) 3 3, .slice ae D.u.length af], true⟩] [⟨A0_, c0_, 37, 5, k0_, xs0_⟩]) _ _ _ from (da.move (ay.trans az).step immM (ay.trans az).to')).move (Step.refl _ Nil) nilM qcn)
end Go.Proofs.YtgolpmkenmedoaaDoor.ME
namespace Go.Proofs.YtgolpmkenmedoaaDoor.ME
open Go
set_option linter.unusedVariables false
set_option linter.unusedSimpArgs false
theorem qei {k x1 x2 x3 x5 x6 v : Int} {s : List Fld} {flex : Bool} {x : Tree} : Fld.pres (.mk k x1 x2 x3 (-1) x5 x6 s) v flex x = (decide (x1 ≤ v) && (decide (x2 < 0) || decide (v ≤ x2))) := by simp [Fld.pres, Fld.tag, Fld.has]
section
variable {T : List Fld → Tree → Tree → Prop} {U : List Fld → Tree → Prop} {v k x1 x2 x3 x4 x5 x6 n : Int} {sub : List Fld} {x T' : Tree} {A : Option Addr} {s : ByteArray} {o : Bs} {b : Bool}
theorem to0_num (hn : n = qa8 k x.N) (hk : k < 7 := by decide) : ToF0 T v (.mk k x1 x2 (-1) x4 x5 x6 sub) x (.mk n [] false [] []) := by
 cases x
 exact ⟨fun h => by omega, fun _ h => by omega, fun _ h => by omega, fun _ h => by omega, fun _ _ _ _ _ _ => hn⟩
theorem to_num (hn : n = qa8 k x.N) (hk : k < 7 := by decide) : ToF T v (.mk k x1 x2 (-1) x4 x5 x6 sub) x (.mk n [] false [] []) := ⟨to0_num hn hk, fun h => absurd (show k = 11 from h) (by omega)⟩
theorem to_bool (hb : b = decide (T'.N % 2 = 1)) (h1 : T'.N = x.N) : ToF T v (.mk 0 x1 x2 (-1) x4 x5 x6 sub) x (qgk b) := by
 refine to_num ?_
 subst hb
 rw [h1]
 show (if decide (x.N % 2 = 1) = true then (1 : Int) else 0) = qa8 0 x.N
 simp only [qa8, if_true, decide_eq_true_eq]
 split <;> omega
theorem to0_text (hs : o = qaB x.S) : ToF0 T v (.mk 8 x1 x2 (-1) x4 x5 x6 sub) x (.mk 0 o false [] []) := by
 cases x with
 | mk a1 a2 a3 a4 a5 =>
  exact ⟨fun _ => nul_no.symm, fun _ _ => hs, fun _ h => by omega, fun _ h => by omega, fun _ _ h => absurd rfl h⟩
theorem to_list {l : Nat} {g : Nat → Tree} {W : Tree → Tree} (hb : x3 ≥ 0 ∧ v ≥ x3 → b = Fld.nul (.mk 11 x1 x2 x3 x4 x5 x6 sub) v x) (hl : l = (lst T').length) (hlst : lst T' = (if Fld.nul (.mk 11 x1 x2 x3 (-1) x5 x6 sub) v x = true then [] else qam x.L).map W)
  (he : ∀ i y, i < l → (lst T').getD i .zero = W y → (qam x.L)[i]? = some y → ToF0 T v (.mk x6 x1 x2 (-1) (-1) x5 x6 sub) y (g i)) : ToF T v (.mk 11 x1 x2 x3 x4 x5 x6 sub) x (.mk 0 [] b ((List.range l).map g) []) := by
 have hn : Fld.nul (.mk 11 x1 x2 x3 (-1) x5 x6 sub) v x = Fld.nul (.mk 11 x1 x2 x3 x4 x5 x6 sub) v x := by cases x; rfl
 refine ⟨?_, fun _ hnn => ?_⟩
 ·cases x with
  | mk a1 a2 a3 a4 a5 =>
   refine ⟨fun h => hb ?_, fun _ h => by omega, fun _ h => by omega, fun _ h => by omega, fun _ _ _ _ _ h => absurd rfl h⟩
   rcases h with h | h | h
   ·omega
   ·omega
   ·exact h
 ·rw [hn, hnn, if_neg (by decide)] at hlst
  have hll : l = (qam x.L).length := by rw [hl, hlst, List.length_map]
  refine ⟨by show ((List.range l).map g).length = _; rw [List.length_map, List.length_range, hll], fun i y z hy hz => ?_⟩
  have hi : i < l := by rw [hll]; exact (List.getElem?_eq_some_iff.1 hy).1
  have hz' : ((List.range l).map g)[i]? = some z := hz
  rw [List.getElem?_map, List.getElem?_range hi] at hz'
  obtain rfl := Option.some.inj hz'
  refine he i y hi ?_ hy
  rw [hlst, List.getD_eq_getElem?_getD, List.getElem?_map, hy]
  rfl
theorem us_num' (hn : n = qa8 k x5) (hk : k < 7 := by decide) : UsF U (.mk k x1 x2 x3 x4 x5 x6 sub) (.mk n [] false [] []) := ⟨fun h => by omega, fun h => by omega, fun h => by omega, fun h => by omega, fun _ _ _ _ _ => hn⟩
theorem us_bool' (hn : b = decide (x5 % 2 = 1)) : UsF U (.mk 0 x1 x2 x3 x4 x5 x6 sub) (qgk b) := by
 refine us_num' ?_
 subst hn
 show (if decide (x5 % 2 = 1) = true then (1 : Int) else 0) = qa8 0 x5
 simp only [qa8, if_true, decide_eq_true_eq]
 split <;> omega
end
end Go.Proofs.YtgolpmkenmedoaaDoor.ME
namespace Go.Proofs.YtgolpmkenmedoaaDoor.ME
open Go
open Go.RowKit
set_option linter.unusedVariables false
set_option linter.unusedSimpArgs false
set_option maxRecDepth 20000
theorem qb1 (v : Int) (h0 : 0 ≤ v) (t Y : Tree) (hY : ∀ i, Y.at_ i = (fitT v 8 sStreamsGroupDescribeRequestF t).at_ i) (hU : Y.U = (fitT v 8 sStreamsGroupDescribeRequestF t).U) (hi : t.i64s) (D : DV) (h : qaR v D Y) : ToldP v (decide (v ≥ qaj)) 8 sStreamsGroupDescribeRequestF t (qaS D) := by
 unfold qaR at h
 obtain ⟨r0, r1, r2, rU, _⟩ := h
 refine ⟨rfl, fun i f y hf hy => ?_, ?_⟩
 ·match i, hf, hy with
  | 0, hf, hy =>
   obtain rfl := Option.some.inj hf
   obtain rfl := Option.some.inj hy
   have e := hY 0
   refine ⟨fun hp => ?_, fun hp => ?_⟩
   ·have hc : True := trivial
    have r := r0
    rw [e] at r
    obtain ⟨_, fl⟩ := fit_11 (v := v) (d := 7) (t := t) (show sStreamsGroupDescribeRequestF[0]? = _ from rfl)
    refine to_list (fun h_ => absurd h_.1 (by decide)) r.1 fl fun i_ y_ hi_ hg_ hy_ => ?_
    have q := r.2 i_ hi_
    rw [hg_] at q
    exact to0_text (by rw [q, sb_bs]; cases y_; simp [qb7, Fld.kind, Tree.S])
   ·rw [qei] at hp; simp at hp; omega
  | 1, hf, hy =>
   obtain rfl := Option.some.inj hf
   obtain rfl := Option.some.inj hy
   have e := hY 1
   refine ⟨fun hp => ?_, fun hp => ?_⟩
   ·have hc : True := trivial
    have r := r1
    rw [e] at r
    exact to_bool r (fit_N (v := v) (d := 7) (t := t) (show sStreamsGroupDescribeRequestF[1]? = _ from rfl) (by decide))
   ·rw [qei] at hp; simp at hp; omega
  | 2, hf, hy =>
   obtain rfl := Option.some.inj hf
   obtain rfl := Option.some.inj hy
   have e := hY 2
   refine ⟨fun hp => ?_, fun hp => ?_⟩
   ·have hc : (decide (v ≥ 1)) = true := by rw [qei] at hp; simp at hp ⊢; try omega
    have r := (r2.1 hc)
    rw [e] at r
    exact to_bool r (fit_N (v := v) (d := 7) (t := t) (show sStreamsGroupDescribeRequestF[2]? = _ from rfl) (by decide))
   ·have hc : (decide (v ≥ 1)) = false := by rw [qei] at hp; simp at hp ⊢; try omega
    have r := (r2.2 hc)
    exact us_bool' (by rw [r]; first | rfl | decide)
  | n_ + 3, hf, hy => exact absurd (List.getElem?_eq_some_iff.1 hf).1 (by show ¬ n_ + 3 < 3; omega)
 ·show D.u = if (decide (v ≥ qaj)) = true then qb3 (qag sStreamsGroupDescribeRequestF t.U) else []
  by_cases hc : (decide (v ≥ 0)) = true
  ·rw [if_pos (show (decide (v ≥ qaj)) = true from hc), rU.1 hc, hU, fit_U]
  ·rw [if_neg (show ¬ (decide (v ≥ qaj)) = true from hc), rU.2 (by simpa using hc)]
set_option maxHeartbeats 4000000 in
theorem qcb (v : Int) (T : Tree) {A2 : Option Addr} {c2 : Nat} {w : World} {F : Nat → Nat → Prop} (hs_ : Octs w F A2 c2 (qah (IntKind.i16.wrap v) T)) (hc : qaP T) (hkey : T.ranged) (hroom : (qah (IntKind.i16.wrap v) T).length + 16 ≤ 1099511627776) :
  Calls Tryd.prog 16 #[.int .i64 v, .slice A2 (qah (IntKind.i16.wrap v) T).length c2] w (fun e w' => ∃ D cs, e = .returned (.tuple #[.agg cs.toArray, .bool true]) ∧ TreeR w' (Fp NoF w) cs (qaS D) ∧ qaR (IntKind.i16.wrap v) D T ∧ Step w w' Nil) := by
 refine enter (n := 20) Tryd.func16 rfl Tryd.ntmps16 kz fun a hE => ?_
 have hW := WOk.start w Nil
 have hsm2 := Slots.small hs_
 refine qad [0, 1] kz ?_
 refine qal (qaM hW hE (d := 4) (cs := [.int .i64 0, .slice none 0 0, .bool false, .slice none 0 0, .slice none 0 0]) kz fun b1 a2 w3 hb4 hz5 hF6 hW7 hE8 => ?_)
 refine qai [1] [] [(0, .v (.int .i64 v)), (1, .v (.slice A2 ((qah (IntKind.i16.wrap v) T).length) c2)), (4, .p 0 0)] hW7 hE8 fun a9 aT => ?_
 refine qae (qab ?_)
 refine qad [0, 1] kz ?_
 refine qal (qbz aT (f := 32) (vs := []) (d := 7) (n' := 3) kz Tryd.call32 Tryd.func32 rfl Tryd.ntmps32 kz fun cI aU => ?_)
 refine qao [] hW7 aU fun cJ aV => ?_
 refine qad [0] kz ?_
 refine qal (qaM hW7 aV (d := 1) (cs := [.int .i16 0, .slice none 0 0, .bool false, .bool false, .map none]) kz fun ab cK cL ce cm cq ac aW => ?_)
 refine qae (qab ?_)
 refine qad [0] kz ?_
 refine qal (qbz aW (f := 52) (vs := [.pointer (some ⟨ab, 0, none⟩)]) (d := 2) (n' := 2) kz Tryd.call52 Tryd.func52 rfl Tryd.ntmps52 kz fun cM aX => ?_)
 have aY := aX.recast 0 (.v (.pointer (some ⟨ab, 0, none⟩))) (.p 1 0) rfl rfl (Nat.le_of_ble_eq_true (n := 2) rfl)
 refine wp_skip ?_
 refine qbM aY ac.cells (v := .tuple #[]) kz ?_
 refine ⟨_, rfl, fun cN aZ => ?_⟩
 have ba : EnvOk 3 [⟨b1, 0, [.int .i64 0, .slice none 0 0, .bool false, .slice none 0 0, .slice none 0 0], true⟩, ⟨ab, 0, [.int .i16 0, .slice none 0 0, .bool false, .bool false, .map none], true⟩] [(2, .v (.tuple #[])), (1, .p 1 0)] _ := aZ.places (⟨rfl, rfl, ⟨rfl, rfl, trivial⟩⟩)
 refine qae (qab ?_)
 refine qao [(0, .p 1 0)] ac ba fun cO bd => ?_
 refine wp_ret ?_
 refine qaD bd ac.cells (v := .pointer (some ⟨ab, 0, none⟩)) kz ?_
 refine ⟨_, rfl, fun cP bf => ?_⟩
 have bg : EnvOk 20 [⟨b1, 0, [.int .i64 0, .slice none 0 0, .bool false, .slice none 0 0, .slice none 0 0], true⟩, ⟨ab, 0, [.int .i16 0, .slice none 0 0, .bool false, .bool false, .map none], true⟩] [(7, .v (.pointer (some ⟨ab, 0, none⟩))), (0, .v (.int .i64 v)), (1, .v (.slice A2 ((qah (IntKind.i16.wrap v) T).length) c2)), (4, .p 0 0)] _ := bf.places (⟨rfl, rfl, trivial⟩)
 have bh := bg.recast 7 (.v (.pointer (some ⟨ab, 0, none⟩))) (.p 1 0) rfl rfl (Nat.le_of_ble_eq_true (n := 2) rfl)
 have bi := bh.pick (ks := [0, 1, 4, 7]) (env' := [(0, .v (.int .i64 v)), (1, .v (.slice A2 ((qah (IntKind.i16.wrap v) T).length) c2)), (4, .p 0 0), (7, .p 1 0)]) kz
 refine qai [1] [] [(0, .v (.int .i64 v)), (1, .v (.slice A2 ((qah (IntKind.i16.wrap v) T).length) c2)), (4, .p 0 0), (6, .p 1 0)] ac bi fun cQ bj => ?_
 refine qae (qab ?_)
 refine qad [0, 1, 2, 3] kz ?_
 refine qai [0, 1, 2] [3] [(1, .v (.slice A2 ((qah (IntKind.i16.wrap v) T).length) c2)), (4, .p 0 0), (6, .p 1 0), (8, .p 1 0), (10, .v (.int .i16 (IntKind.i16.wrap v)))] ac bj fun cR bk => ?_
 refine qal (qbz bk (f := 34) (vs := [.pointer (some ⟨ab, 0, none⟩), .int .i16 (IntKind.i16.wrap v)]) (d := 11) (n' := 8) kz Tryd.call34 Tryd.func34 rfl Tryd.ntmps34 kz fun cS bn => ?_)
 have bo := bn.recast 0 (.v (.pointer (some ⟨ab, 0, none⟩))) (.p 1 0) rfl rfl (Nat.le_of_ble_eq_true (n := 2) rfl)
 refine qas [0, 1, 2, 3, 4] kz ?_
 refine qai [0, 1, 2, 3] [4] [(5, .v (.int .i16 (IntKind.i16.wrap v))), (7, .p 1 0)] ac bo fun cT bp => ?_
 refine qal (qax ac bp (oi := 1) (cs := [.int .i16 (IntKind.i16.wrap v), .slice none 0 0, .bool false, .bool false, .map none]) kz fun cU cr ao bq => ?_)
 refine qae ?_
 refine qbM bq ao.cells (v := .tuple #[]) kz ?_
 refine ⟨_, rfl, fun cV bt => ?_⟩
 have bu : EnvOk 20 [⟨b1, 0, [.int .i64 0, .slice none 0 0, .bool false, .slice none 0 0, .slice none 0 0], true⟩, ⟨ab, 0, [.int .i16 (IntKind.i16.wrap v), .slice none 0 0, .bool false, .bool false, .map none], true⟩] [(11, .v (.tuple #[])), (1, .v (.slice A2 ((qah (IntKind.i16.wrap v) T).length) c2)), (4, .p 0 0), (6, .p 1 0), (8, .p 1 0), (10, .v (.int .i16 (IntKind.i16.wrap v)))] _ := bt.places (⟨rfl, rfl, ⟨rfl, rfl, trivial⟩⟩)
 refine qae (qab ?_)
 refine wp_seq ?_
 refine qad [0, 1, 2, 3, 4] kz ?_
 refine qai [0, 1] [2, 3, 4] [(4, .p 0 0), (6, .p 1 0), (12, .p 1 0), (13, .v (.slice A2 ((qah (IntKind.i16.wrap v) T).length) c2))] ao bu fun cW bw => ?_
 have ah := ao.addNil 5 1
 have cu := ao.frNil 5 1
 refine qal (qaQ ah bw (k := 0) (d := 14) (t := 22) (e := 5) (size := 1) (bytes := 1) (A := none) (As := A2) (m0 := 0) (c := 0) (m := ((qah (IntKind.i16.wrap v) T).length)) (cs := c2) (xs := []) (news := bc (qah (IntKind.i16.wrap v) T)) kz kz rfl (hs_.move ah.step nilM ah.imm).src (hs_.move ah.step nilM ah.imm).cap (by first | omega | (simp only [List.length_nil]; omega) | (simp; omega)) fun af ag cX cY cw bx bz => ?_)
 have bA : (⟨af, ag, 5, 1, 0 + (qah (IntKind.i16.wrap v) T).length, [] ++ bc (qah (IntKind.i16.wrap v) T)⟩ : Rw) = brow af ag 5 (qah (IntKind.i16.wrap v) T) := by rw [List.nil_append, Nat.zero_add]
 obtain ⟨ap, cz⟩ := bx.rowEq 0 [brow af ag 5 (qah (IntKind.i16.wrap v) T)] bA
 have bB := EnvOk.pick bz (ks := [4, 6, 12, 13, 14]) (env' := [(4, .p 0 0), (6, .p 1 0), (12, .p 1 0), (13, .v (.slice A2 ((qah (IntKind.i16.wrap v) T).length) c2)), (14, .v (.slice af (0 + (qah (IntKind.i16.wrap v) T).length) ag))]) kz
 have bC := bB.cast (env' := [(4, .p 0 0), (6, .p 1 0), (12, .p 1 0), (13, .v (.slice A2 ((qah (IntKind.i16.wrap v) T).length) c2)), (14, .v (.slice af ((qah (IntKind.i16.wrap v) T).length) ag))]) (by simp only [List.length_append, List.length_cons, List.length_nil, Nat.zero_add])
 refine qal (qbz bC (f := 35) (vs := [.pointer (some ⟨ab, 0, none⟩), .slice af ((qah (IntKind.i16.wrap v) T).length) ag]) (d := 15) (n' := 8) kz Tryd.call35 Tryd.func35 rfl Tryd.ntmps35 kz fun cZ bD => ?_)
 have bE := bD.recast 0 (.v (.pointer (some ⟨ab, 0, none⟩))) (.p 1 0) rfl rfl (Nat.le_of_ble_eq_true (n := 2) rfl)
 refine qao [(0, .p 1 0), (1, .v (.slice af ((qah (IntKind.i16.wrap v) T).length) ag))] ap bE fun c5 bF => ?_
 refine qad [0, 1, 2, 3] kz ?_
 refine qai [0, 1] [2, 3] [(5, .p 1 0), (6, .v (.slice af ((qah (IntKind.i16.wrap v) T).length) ag))] ap bF fun c6 bG => ?_
 have bH := ap.giveUp (G := NoF) 0 [] (show _ = some (brow af ag 5 (qah (IntKind.i16.wrap v) T)) from rfl) (by omega)
 obtain ⟨aH, cA⟩ := ap.cutR 0 []
 refine qal (qak bG (f := 53) (vs := [.pointer (some ⟨ab, 0, none⟩), .slice af ((qah (IntKind.i16.wrap v) T).length) ag, .bool false]) (d := 7) kz Tryd.call53 (qb9 (IntKind.i16.wrap v) T (Str.of aH 1 rfl) bH (imm_n 1 rfl) hc hkey) ?_)
 rintro e_ da ⟨aa, rfl, bI, bJ, bK, aI⟩
 obtain ⟨ae, cB, bL⟩ := aH.wrote 1 [⟨b1, 0, [.int .i64 0, .slice none 0 0, .bool false, .slice none 0 0, .slice none 0 0], true⟩, ⟨ab, 0, [.int .i16 (IntKind.i16.wrap v), .slice ((aa.f 0).A) ((aa.f 0).l) ((aa.f 0).c), .bool ((aa.f 1).b), .bool ((aa.f 2).b), .map aa.m], true⟩] rfl aI bI
 have bM := qbt _ (Step.refl _ Nil) nilM bL bJ
 refine ⟨_, rfl, fun db bN => ?_⟩
 have bO := (EnvOk.places (tb' := [⟨b1, 0, [.int .i64 0, .slice none 0 0, .bool false, .slice none 0 0, .slice none 0 0], true⟩, ⟨ab, 0, [.int .i16 (IntKind.i16.wrap v), .slice ((aa.f 0).A) ((aa.f 0).l) ((aa.f 0).c), .bool ((aa.f 1).b), .bool ((aa.f 2).b), .map aa.m], true⟩]) bN (show Pl [⟨b1, 0, [.int .i64 0, .slice none 0 0, .bool false, .slice none 0 0, .slice none 0 0], true⟩, ⟨ab, 0, [.int .i16 (IntKind.i16.wrap v), .slice none 0 0, .bool false, .bool false, .map none], true⟩] [⟨b1, 0, [.int .i64 0, .slice none 0 0, .bool false, .slice none 0 0, .slice none 0 0], true⟩, ⟨ab, 0, [.int .i16 (IntKind.i16.wrap v), .slice ((aa.f 0).A) ((aa.f 0).l) ((aa.f 0).c), .bool ((aa.f 1).b), .bool ((aa.f 2).b), .map aa.m], true⟩] from ⟨rfl, rfl, ⟨rfl, rfl, trivial⟩⟩)).pk (env' := [(7, .v (.nilIface)), (5, .p 1 0), (6, .v (.slice af ((qah (IntKind.i16.wrap v) T).length) ag))])
 refine qai [3] [] [(4, .v (.nilIface))] ae bO fun dc bP => ?_
 refine qae (qab ?_)
 refine wp_ret ?_
 refine qaD bP ae.cells (v := .nilIface) kz ?_
 refine ⟨_, rfl, fun de bQ => ?_⟩
 have bR : EnvOk 20 [⟨b1, 0, [.int .i64 0, .slice none 0 0, .bool false, .slice none 0 0, .slice none 0 0], true⟩, ⟨ab, 0, [.int .i16 (IntKind.i16.wrap v), .slice ((aa.f 0).A) ((aa.f 0).l) ((aa.f 0).c), .bool ((aa.f 1).b), .bool ((aa.f 2).b), .map aa.m], true⟩] [(15, .v (.nilIface)), (4, .p 0 0), (6, .p 1 0), (12, .p 1 0), (13, .v (.slice A2 ((qah (IntKind.i16.wrap v) T).length) c2)), (14, .v (.slice af ((qah (IntKind.i16.wrap v) T).length) ag))] _ := bQ.places (⟨rfl, rfl, ⟨rfl, rfl, trivial⟩⟩)
 refine qai [4] [] [(4, .p 0 0), (6, .p 1 0), (16, .v (.bool false))] ae bR fun df aJ => ?_
 refine qae (qab ?_)
 refine qap aJ (b := false) kz rfl ?_
 refine wp_skip ?_
 refine qab ?_
 refine qad [0, 1, 2, 3] kz ?_
 refine qai [0] [1, 2, 3] [(4, .p 0 0), (18, .p 1 0)] ae aJ fun dg bS => ?_
 have aK := bS.recast 18 (.p 1 0) (.v (.pointer (some ⟨ab, 0, none⟩))) rfl rfl trivial
 have aL := aK.pk (env' := [(4, .p 0 0), (18, .v (.pointer (some ⟨ab, 0, none⟩)))])
 have av := WOk.strOut (G := NoF) [⟨b1, 0, [.int .i64 0, .slice none 0 0, .bool false, .slice none 0 0, .slice none 0 0], true⟩] ae
 obtain ⟨aM, ai, ar⟩ := ae.cutB aL 1 [⟨b1, 0, [.int .i64 0, .slice none 0 0, .bool false, .slice none 0 0, .slice none 0 0], true⟩] [(4, .p 0 0), (18, .v (.pointer (some ⟨ab, 0, none⟩)))]
 have aN := qbt _ ar.step immM ar.to' bM
 refine qal (qak aM (f := 36) (vs := [.pointer (some ⟨ab, 0, none⟩)]) (d := 19) kz Tryd.call36 (qca (IntKind.i16.wrap v) aa ab 0 _ _ av aN) ?_)
 rintro e_ cC ⟨bY, rfl, aO, aj⟩
 have ak := aO.move (Step.refl _ Nil) nilM (ai.laid (G := NoF) aj)
 obtain ⟨aw, ax, ay, az, aA, aB, aC, aD, aE, aF, aG, bZ, b8, al, bT, bU, cD, cE⟩ := ak.open_
 rw [al] at ak
 have bV := bT.small
 have bW := bU.small
 rw [al]
 refine ⟨_, rfl, fun cG aP => ?_⟩
 have aQ := ai.next_nil aj
 have cd := ai.frN aj
 refine qal (qax aQ aP (oi := 0) (cs := [.int .i64 aw, .slice aB ax.length aC, .bool ay, .slice aD az.length aE, .slice aF aA.length aG]) kz fun bX au am aR => ?_)
 refine qai [3] [] [(4, .p 0 0), (5, .v (.bool true))] am aR fun cH aS => ?_
 refine qae (qab ?_)
 refine wp_ret ?_
 refine qaD aS am.cells (v := .tuple #[.agg #[.int .i64 aw, .slice aB ax.length aC, .bool ay, .slice aD az.length aE, .slice aF aA.length aG], .bool true]) kz ?_
 exact ⟨aa, _, rfl, (show TreeR _ (Imm NoF w bX [⟨b1, 0, [.int .i64 aw, .slice aB ax.length aC, .bool ay, .slice aD az.length aE, .slice aF aA.length aG], true⟩] []) _ (qaS aa) from (ak.move au.step immM au.to')).move (Step.refl _ Nil) nilM qcn, bK, am.step⟩
theorem qb5 (v : Int) (T : Tree) (B : Bs) {A2 : Option Addr} {c2 : Nat} {w : World} {F : Nat → Nat → Prop} (hB : qah (IntKind.i16.wrap v) T = B) (hs_ : Octs w F A2 c2 B) (hc : qaP T) (hkey : T.ranged) (hroom : B.length + 16 ≤ 1099511627776) :
  Calls Tryd.prog 16 #[.int .i64 v, .slice A2 B.length c2] w (fun e w' => ∃ D cs, e = .returned (.tuple #[.agg cs.toArray, .bool true]) ∧ TreeR w' (Fp NoF w) cs (qaS D) ∧ qaR (IntKind.i16.wrap v) D T ∧ Step w w' Nil) := by
 subst hB
 exact qcb v T hs_ hc hkey hroom
end Go.Proofs.YtgolpmkenmedoaaDoor.ME