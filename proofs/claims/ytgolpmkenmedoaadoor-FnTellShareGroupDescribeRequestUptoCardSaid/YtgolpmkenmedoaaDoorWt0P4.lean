/- The texts of a claim, put together: the engine, the contracts, the law. Own work. -/
import Derived.Test.YtgolpmkenmedoaaDoorWt0P3
namespace Go.Proofs.YtgolpmkenmedoaaDoor.ME
open Go
open Go.RowKit
set_option linter.unusedVariables false
set_option linter.unusedSimpArgs false
set_option maxRecDepth 20000
def qaV (D : DV) : Tree := .mk 0 [] false [.mk 0 [] (D.f 0).A.isNone ((List.range (D.f 0).l).map fun i => .mk 0 (sb ((D.f 0).f i).s) false [] []) [], boolT (D.f 1).b] D.u
set_option maxHeartbeats 4000000 in
theorem qcn (v : Int) (D : DV) (b o : Nat) (w : World) (F : Nat → Nat → Prop) (hat : AtF w F b o [.int .i16 v, .slice ((D.f 0).A) ((D.f 0).l) ((D.f 0).c), .bool ((D.f 1).b), .map D.m]) (hok : qa0 w F D) : Calls Tryd.prog 22 #[.pointer (some ⟨b, o, none⟩)] w (qd2 w F (qaV D)) := by
 refine enter (n := 84) Tryd.func22 rfl Tryd.ntmps22 kz fun a hE => ?_
 have hW : WOk w Nil w [⟨b, o, [.int .i16 v, .slice ((D.f 0).A) ((D.f 0).l) ((D.f 0).c), .bool ((D.f 1).b), .map D.m], false⟩] [] := (WOk.start w Nil).start1 hat rfl rfl
 unfold qa0 at hok
 obtain ⟨⟨g1, g1l, g1e⟩, g2, g3, g3l, g3x, _⟩ := hok
 have hE0 := (EnvOk.ptr0 (cs := [.int .i16 v, .slice ((D.f 0).A) ((D.f 0).l) ((D.f 0).c), .bool ((D.f 1).b), .map D.m]) (r := false) hE).pk (env' := [(0, .p 0 0)])
 refine qad [0] kz ?_
 refine qal (qaM hW hE0 (d := 2) (cs := [.int .i64 0, .slice none 0 0, .bool false, .slice none 0 0, .slice none 0 0]) kz fun b4 a5 w6 hb7 hz8 hF9 fq fr => ?_)
 refine qae (qab ?_)
 refine qad [0, 1, 2, 3] kz ?_
 refine qal (wpOp_makeZ (t := 34) (e := 37) (size := 5) (bytes := 88) (d := 5) (j := 2) (.agg #[.int .i64 0, .slice none 0 0, .bool false, .slice none 0 0, .slice none 0 0]) [.int .i64 0, .slice none 0 0, .bool false, .slice none 0 0, .slice none 0 0, .int .i64 0, .slice none 0 0, .bool false, .slice none 0 0, .slice none 0 0] fq fr fun aa iO iP gl gm gn cX ft => ?_)
 refine qai [1] [2, 3] [(0, .p 0 0), (2, .p 1 0), (6, .v (.agg #[.int .i64 0, .slice none 0 0, .bool false, .slice (some ⟨aa, 0, none⟩) 2 2, .slice none 0 0]))] cX ft fun iQ fu => ?_
 refine qal (qaM cX fu (d := 3) (cs := [.int .i64 0, .slice none 0 0, .bool false, .slice none 0 0, .slice none 0 0]) kz fun bj iR iS gp gq gt fv fw => ?_)
 refine qal (qay fv fw (oi := 3) (cs := [.int .i64 0, .slice none 0 0, .bool false, .slice (some ⟨aa, 0, none⟩) 2 2, .slice none 0 0]) kz fun iT gv fx fy => ?_)
 refine qae (qab ?_)
 refine qaH 9 kz fx fun iU gw fz cM => ?_
 refine qaF [0, 1, 2, 3, 4, 5, 6] [(0, .p 0 0), (2, .p 1 0), (3, .p 3 0), (8, .v (.slice (some ⟨aa, 0, none⟩) 2 2)), (13, .v (.bool (((D.f 0).A).isNone)))] 3 (qaa qaf) (fun _ h => h.cells) cM fy fun iV fA => ?_
 refine qaA (i := 7) kz (qaz fA (t := 34) (A := (some ⟨aa, 0, none⟩)) (m := 2) (q := 0) (d := 14) kz (e := 37) (size := 5) (bytes := 88) (j := 0) kz (b := aa) (o := 0) rfl rfl (by decide) fun iW fB => ?_)
 have fC := fB.recast 14 (.v (.pointer (some ⟨aa, 0 + 0 * 5, none⟩))) (.p 2 0) rfl rfl (Nat.le_of_ble_eq_true (n := 3) rfl)
 have fD := fC.pk (env' := [(0, .p 0 0), (2, .p 1 0), (3, .p 3 0), (8, .v (.slice (some ⟨aa, 0, none⟩) 2 2)), (13, .v (.bool (((D.f 0).A).isNone))), (14, .p 2 0)])
 refine ⟨fun _ => cM, ?_⟩
 refine qaF [8] [(0, .p 0 0), (2, .p 1 0), (3, .p 3 0), (13, .v (.bool (((D.f 0).A).isNone))), (15, .p 2 2)] 1 (qaa qaf) (fun _ h => h.cells) cM fD fun iX fE => ?_
 refine qaA (i := 9) kz (qay fz fE (oi := 2) (cs := [.int .i64 0, .slice none 0 0, .bool (((D.f 0).A).isNone), .slice none 0 0, .slice none 0 0, .int .i64 0, .slice none 0 0, .bool false, .slice none 0 0, .slice none 0 0]) kz fun iY gx cN fF => ?_)
 refine ⟨fun h => absurd rfl h, ?_⟩
 refine qaE kz ?_ _
 refine qab ?_
 refine wp_seq ?_
 refine qao [(0, .p 0 0), (2, .p 1 0), (3, .p 3 0), (20, .v (.int .i64 (((D.f 0).l : Nat) : Int))), (21, .v (.int .i64 0))] cN fF fun iZ fG => ?_
 refine wp_block ?_
 have cY := cN.addNil 37 5
 have gy := cN.frNil 37 5
 refine wp_loop_ghost (fun n_ a_ w_ => ∃ (k0_ : Nat) (A0_ : Option Addr) (c0_ : Nat) (xs0_ : List Value) (css0_ : List (List Value)), n_ = (D.f 0).l - k0_ ∧ k0_ ≤ (D.f 0).l ∧ (Trees w_ (Imm F w w_ [⟨b, o, [.int .i16 v, .slice ((D.f 0).A) ((D.f 0).l) ((D.f 0).c), .bool ((D.f 1).b), .map D.m], false⟩, ⟨b4, 0, [.int .i64 0, .slice none 0 0, .bool false, .slice none 0 0, .slice none 0 0], true⟩, ⟨aa, 0, [.int .i64 0, .slice none 0 0, .bool (((D.f 0).A).isNone), .slice A0_ k0_ c0_, .slice none 0 0, .int .i64 0, .slice none 0 0, .bool false, .slice none 0 0, .slice none 0 0], true⟩, ⟨bj, 0, [.int .i64 0, .slice none 0 0, .bool false, .slice (some ⟨aa, 0, none⟩) 2 2, .slice none 0 0], true⟩] [⟨A0_, c0_, 37, 5, k0_, xs0_⟩]) xs0_ (((List.range (D.f 0).l).map (fun i => Tree.mk 0 (sb ((D.f 0).f i).s) false [] [])).take k0_) css0_) ∧ LInv cY 84 [⟨b, o, [.int .i16 v, .slice ((D.f 0).A) ((D.f 0).l) ((D.f 0).c), .bool ((D.f 1).b), .map D.m], false⟩, ⟨b4, 0, [.int .i64 0, .slice none 0 0, .bool false, .slice none 0 0, .slice none 0 0], true⟩, ⟨aa, 0, [.int .i64 0, .slice none 0 0, .bool (((D.f 0).A).isNone), .slice A0_ k0_ c0_, .slice none 0 0, .int .i64 0, .slice none 0 0, .bool false, .slice none 0 0, .slice none 0 0], true⟩, ⟨bj, 0, [.int .i64 0, .slice none 0 0, .bool false, .slice (some ⟨aa, 0, none⟩) 2 2, .slice none 0 0], true⟩] [⟨A0_, c0_, 37, 5, k0_, xs0_⟩] [(0, .p 0 0), (2, .p 1 0), (3, .p 3 0), (20, .v (.int .i64 (((D.f 0).l : Nat) : Int))), (21, .v (.int .i64 ((k0_ : Nat) : Int)))] a_ w_) ((D.f 0).l) ⟨0, none, 0, [], [], by omega, by omega, Trees.nil _ _, fG.pk, cY, Fr.refl _ _ _⟩ ?_
 rintro i6 i7 ja ⟨k0_, A0_, c0_, xs0_, css0_, gz, gA, hT0_, fH, bO, cO⟩
 refine qao [(0, .p 0 0), (2, .p 1 0), (3, .p 3 0), (20, .v (.int .i64 (((D.f 0).l : Nat) : Int))), (21, .v (.int .i64 ((k0_ : Nat) : Int))), (22, .v (.bool (decide (((k0_ : Nat) : Int) < (((D.f 0).l : Nat) : Int)))))] bO fH fun jb cP => ?_
 refine wp_seq ?_
 refine qav cP (b := decide (((k0_ : Nat) : Int) < (((D.f 0).l : Nat) : Int))) kz (fun cQ => ?_) (fun cQ => ?_)
 ·
  have gB := of_decide_eq_true cQ
  refine wp_skip ?_
  refine qab ?_
  refine wp_seq ?_
  refine wp_block ?_
  refine qao [(0, .p 0 0), (2, .p 1 0), (3, .p 3 0), (4, .v (.int .i64 ((k0_ : Nat) : Int))), (20, .v (.int .i64 (((D.f 0).l : Nat) : Int))), (21, .v (.int .i64 ((k0_ : Nat) : Int)))] bO cP fun jc fI => ?_
  refine qaH 4 kz bO fun jd aR fJ gC => ?_
  refine qaA (i := 0) kz (qaM fJ fI (d := 24) (cs := [.bool false]) kz fun je jf jg gD gE ab cR cZ => ?_)
  have fK := TT.ofW ab cR
  refine ⟨fun _ => fK, ?_⟩
  refine qfk (i := 1) (j := 2) kz ?_ ?_
  ·
   refine (qay cR cZ (oi := 4) (cs := [.bool true]) kz fun jh bx c5 fL => ?_)
   have fM := TT.ofW (ab.trans bx) c5
   refine ⟨fun _ => fM, ?_⟩
   refine qaA (i := 2) kz (qay c5 fL (oi := 4) (cs := [.bool false]) kz fun ji bB bP fN => ?_)
   have fO := TT.ofW ((ab.trans bx).trans bB) bP
   refine ⟨fun _ => fO, ?_⟩
   refine qaA (i := 3) kz (qa6 [0, 2, 3, 4, 20, 21, 25] bP.cells fN (env' := [(0, .p 0 0), (2, .p 1 0), (3, .p 3 0), (4, .v (.int .i64 ((k0_ : Nat) : Int))), (20, .v (.int .i64 (((D.f 0).l : Nat) : Int))), (21, .v (.int .i64 ((k0_ : Nat) : Int))), (25, .v (.bool false))]) kz fun jj c6 => ?_)
   have fP := TT.ofW ((ab.trans bx).trans bB) bP
   refine ⟨fun _ => fP, ?_⟩
   refine qaE kz ?_ _
   refine qab ?_
   refine qap c6 (b := false) kz rfl ?_
   refine qdB 20 kz bP fun jk cS da bC => ?_
   refine qaF [0, 1, 2, 3, 7, 8, 9, 10, 11] [(0, .p 0 0), (2, .p 1 0), (3, .p 3 0), (20, .v (.int .i64 (((D.f 0).l : Nat) : Int))), (21, .v (.int .i64 ((k0_ : Nat) : Int))), (47, .v (.slice (some ⟨aa, 0, none⟩) 2 2)), (49, .v (.slice (some ⟨aa, 0, none⟩) 2 2)), (56, .v (.slice ((D.f 0).A) ((D.f 0).l) ((D.f 0).c))), (57, .v (.int .i64 ((k0_ : Nat) : Int)))] 12 (qac (qaa (qaa (qac (qaa qaf))))) (fun _ h => h.cells) bC c6 fun jl db => ?_
   refine qaN db (i := 4) (t := 34) (A := (some ⟨aa, 0, none⟩)) (m := 2) (q := 0) (d := 50) kz (e := 37) (size := 5) (bytes := 88) (j := 0) kz (b := aa) (o := 0) rfl rfl (by decide) kz kz (qac (qaa (qaa (qac (qaa qaf))))) bC fun gF dc => ?_
   have de := dc.recast 50 (.v (.pointer (some ⟨aa, 0 + 0 * 5, none⟩))) (.p 2 0) rfl rfl (Nat.le_of_ble_eq_true (n := 3) rfl)
   have df := de.pk (env' := [(0, .p 0 0), (2, .p 1 0), (3, .p 3 0), (20, .v (.int .i64 (((D.f 0).l : Nat) : Int))), (21, .v (.int .i64 ((k0_ : Nat) : Int))), (47, .v (.slice (some ⟨aa, 0, none⟩) 2 2)), (49, .v (.slice (some ⟨aa, 0, none⟩) 2 2)), (56, .v (.slice ((D.f 0).A) ((D.f 0).l) ((D.f 0).c))), (57, .v (.int .i64 ((k0_ : Nat) : Int))), (50, .p 2 0)])
   refine qaF [5, 6] [(0, .p 0 0), (2, .p 1 0), (3, .p 3 0), (20, .v (.int .i64 (((D.f 0).l : Nat) : Int))), (21, .v (.int .i64 ((k0_ : Nat) : Int))), (47, .v (.slice (some ⟨aa, 0, none⟩) 2 2)), (52, .v (.slice A0_ k0_ c0_)), (56, .v (.slice ((D.f 0).A) ((D.f 0).l) ((D.f 0).c))), (57, .v (.int .i64 ((k0_ : Nat) : Int)))] 9 (qac (qaa (qaa (qac (qaa qaf))))) (fun _ h => h.cells) bC df fun gG dg => ?_
   obtain ⟨fQ, fR, dh, f8, cT⟩ := Slots.get g1 (i := k0_) (by omega)
   refine qaN dg (i := 12) (t := 73) (A := (D.f 0).A) (m := ((D.f 0).l)) (q := ((k0_ : Nat) : Int)) (d := 58) kz (e := 9) (size := 1) (bytes := 16) kz dh rfl (by omega) kz kz (qac (qaa (qaa (qac (qaa qaf))))) bC fun gH di => ?_
   refine qaS di (i := 13) (t := 9) (b := fQ) (o := fR + k0_ * 1) (d := 59) kz (cs := [.string (((D.f 0).f k0_).s)]) (v := .string (((D.f 0).f k0_).s)) kz (fun w' h' => (AtF.move cT (TT.step0 da h') nilM qaY).at_) kz kz (qac (qaa (qaa (qac (qaa qaf))))) bC fun gI dj => ?_
   refine qaA (i := 14) kz (qdZ (d := 60) (src := 9) (dst := 22) (e := 5) (s := (((D.f 0).f k0_).s)) da dj (by have h_ := g1e k0_ (by omega); exact Nat.le_trans h_ (by decide)) fun bk bn gJ gK al bR dl dp => ?_)
   have dq := dl F
   have bS := TT.ofW al bR
   refine ⟨fun _ => bS, ?_⟩
   refine qaF [15] [(0, .p 0 0), (2, .p 1 0), (3, .p 3 0), (20, .v (.int .i64 (((D.f 0).l : Nat) : Int))), (21, .v (.int .i64 ((k0_ : Nat) : Int))), (47, .v (.slice (some ⟨aa, 0, none⟩) 2 2)), (52, .v (.slice A0_ k0_ c0_)), (61, .v (.agg #[.int .i64 0, .slice (some ⟨bk, 0, none⟩) ((sb (((D.f 0).f k0_).s)).length) bn, .bool false, .slice none 0 0, .slice none 0 0]))] 5 (qac (qaa (qaa (qac (qaa qaf))))) (fun _ h => h.cells) bS dp fun gL dr => ?_
   refine qaA (i := 16) kz (qbE bR dr (e := 37) (size := 5) (len := 1) (cs := [.int .i64 0, .slice (some ⟨bk, 0, none⟩) ((sb (((D.f 0).f k0_).s)).length) bn, .bool false, .slice none 0 0, .slice none 0 0]) (d := 62) kz kz fun dt gM gN f9 ga ae bo du => ?_)
   have dv := TT.ofW (al.trans ae) bo
   refine ⟨fun _ => dv, ?_⟩
   refine qaA (i := 17) kz (qaT bo du (k := 0) (d := 63) (t := 34) (e := 37) (size := 5) (bytes := 88) (A := A0_) (As := (some ⟨dt, 0, none⟩)) (m0 := k0_) (c := c0_) (m := 1) (cs := 1) (xs := xs0_) (news := [.int .i64 0, .slice (some ⟨bk, 0, none⟩) ((sb (((D.f 0).f k0_).s)).length) bn, .bool false, .slice none 0 0, .slice none 0 0]) kz kz rfl (qbu (bo.own 1 _ rfl) (qbJ kz)) (qbI (bo.own 1 _ rfl)) (by omega) fun bz bA gO gP am bD dw => ?_)
   have dx := TT.ofW ((al.trans ae).trans am) bD
   refine ⟨fun _ => dx, ?_⟩
   refine qaA (i := 18) kz (qaz dw (t := 34) (A := (some ⟨aa, 0, none⟩)) (m := 2) (q := 0) (d := 64) kz (e := 37) (size := 5) (bytes := 88) (j := 0) kz (b := aa) (o := 0) rfl rfl (by decide) fun gQ dy => ?_)
   have dz := dy.recast 64 (.v (.pointer (some ⟨aa, 0 + 0 * 5, none⟩))) (.p 2 0) rfl rfl (Nat.le_of_ble_eq_true (n := 3) rfl)
   have dA := dz.pk (env' := [(0, .p 0 0), (2, .p 1 0), (3, .p 3 0), (20, .v (.int .i64 (((D.f 0).l : Nat) : Int))), (21, .v (.int .i64 ((k0_ : Nat) : Int))), (47, .v (.slice (some ⟨aa, 0, none⟩) 2 2)), (52, .v (.slice A0_ k0_ c0_)), (61, .v (.agg #[.int .i64 0, .slice (some ⟨bk, 0, none⟩) ((sb (((D.f 0).f k0_).s)).length) bn, .bool false, .slice none 0 0, .slice none 0 0])), (62, .v (.slice (some ⟨dt, 0, none⟩) 1 1)), (63, .v (.slice bz (k0_ + 1) bA)), (64, .p 2 0)])
   have bT := TT.ofW ((al.trans ae).trans am) bD
   refine ⟨fun _ => bT, ?_⟩
   refine qaF [19] [(0, .p 0 0), (2, .p 1 0), (3, .p 3 0), (20, .v (.int .i64 (((D.f 0).l : Nat) : Int))), (21, .v (.int .i64 ((k0_ : Nat) : Int))), (63, .v (.slice bz (k0_ + 1) bA)), (65, .p 2 3)] 1 (qac (qaa (qaa (qac (qaa qaf))))) (fun _ h => h.cells) bT dA fun gR dB => ?_
   refine qaA (i := 20) kz (qay bD dB (oi := 2) (cs := [.int .i64 0, .slice none 0 0, .bool (((D.f 0).A).isNone), .slice bz (k0_ + 1) bA, .slice none 0 0, .int .i64 0, .slice none 0 0, .bool false, .slice none 0 0, .slice none 0 0]) kz fun gS aS bU dC => ?_)
   refine ⟨fun h => absurd rfl h, ?_⟩
   refine qaE kz ?_ _
   refine qaq ?_
   refine qab ?_
   refine qas [0, 1] kz ?_
   refine qai [0, 1] [] [(0, .p 0 0), (2, .p 1 0), (3, .p 3 0), (20, .v (.int .i64 (((D.f 0).l : Nat) : Int))), (21, .v (.int .i64 (IntKind.i64.wrap (((k0_ : Nat) : Int) + 1))))] bU dC fun gT dD => ?_
   refine qae (qab ?_)
   obtain ⟨bV, dE, aT⟩ := bU.cutB dD 4 [⟨b, o, [.int .i16 v, .slice ((D.f 0).A) ((D.f 0).l) ((D.f 0).c), .bool ((D.f 1).b), .map D.m], false⟩, ⟨b4, 0, [.int .i64 0, .slice none 0 0, .bool false, .slice none 0 0, .slice none 0 0], true⟩, ⟨aa, 0, [.int .i64 0, .slice none 0 0, .bool (((D.f 0).A).isNone), .slice bz (k0_ + 1) bA, .slice none 0 0, .int .i64 0, .slice none 0 0, .bool false, .slice none 0 0, .slice none 0 0], true⟩, ⟨bj, 0, [.int .i64 0, .slice none 0 0, .bool false, .slice (some ⟨aa, 0, none⟩) 2 2, .slice none 0 0], true⟩] [(0, .p 0 0), (2, .p 1 0), (3, .p 3 0), (20, .v (.int .i64 (((D.f 0).l : Nat) : Int))), (21, .v (.int .i64 (IntKind.i64.wrap (((k0_ : Nat) : Int) + 1))))]
   obtain ⟨dF, aU⟩ := dE.cutR 1 [⟨bz, bA, 37, 5, k0_ + 1, xs0_ ++ [.int .i64 0, .slice (some ⟨bk, 0, none⟩) ((sb (((D.f 0).f k0_).s)).length) bn, .bool false, .slice none 0 0, .slice none 0 0]⟩]
   have dG : IntKind.i64.wrap (((k0_ : Nat) : Int) + 1) = ((k0_ + 1 : Nat) : Int) := qaJ (by omega)
   rw [dG] at bV
   exact ⟨(D.f 0).l - (k0_ + 1), by omega, k0_ + 1, bz, bA, xs0_ ++ [Value.int .i64 0, .slice (some ⟨bk, 0, none⟩) ((sb (((D.f 0).f k0_).s)).length) bn, .bool false, .slice none 0 0, .slice none 0 0], (css0_ ++ [[Value.int .i64 0, .slice (some ⟨bk, 0, none⟩) ((sb (((D.f 0).f k0_).s)).length) bn, .bool false, .slice none 0 0, .slice none 0 0]]), rfl, by omega, by rw [qd0 (by omega)]; exact (hT0_.move ((((((((((aR.trans ab).trans bx).trans bB).trans cS).trans al).trans ae).trans am).trans aS).trans aT).trans aU).step immM ((((((((((aR.trans ab).trans bx).trans bB).trans cS).trans al).trans ae).trans am).trans aS).trans aT).trans aU).to').snoc (x := (fun i => Tree.mk 0 (sb ((D.f 0).f i).s) false [] []) k0_) (TreeR.mk (n := 0) (b := false) (s := (sb (((D.f 0).f k0_).s))) (l := []) (u := []) (fun _ => []) (dq.move ((((ae.trans am).trans aS).trans aT).trans aU).step immM ((((ae.trans am).trans aS).trans aT).trans aU).to') (Slots.nil _ _ _ _) (fun i_ x_ h_ => by simp at h_) (TagsR.nil _ _)), bV.pk, dF, (((((((((((cO.trans aR).trans ab).trans bx).trans bB).trans cS).trans al).trans ae).trans am).trans aS).trans aT).trans aU)⟩
  ·
   refine (qay cR cZ (oi := 4) (cs := [.bool false]) kz fun gU ac bW dH => ?_)
   have dI := TT.ofW (ab.trans ac) bW
   refine ⟨fun _ => dI, ?_⟩
   refine qaA (i := 1) kz (qay bW dH (oi := 4) (cs := [.bool true]) kz fun gV af bp dJ => ?_)
   have dK := TT.ofW ((ab.trans ac).trans af) bp
   refine ⟨fun _ => dK, ?_⟩
   refine qaA (i := 3) kz (qa6 [0, 2, 3, 4, 20, 21, 25] bp.cells dJ (env' := [(0, .p 0 0), (2, .p 1 0), (3, .p 3 0), (4, .v (.int .i64 ((k0_ : Nat) : Int))), (20, .v (.int .i64 (((D.f 0).l : Nat) : Int))), (21, .v (.int .i64 ((k0_ : Nat) : Int))), (25, .v (.bool true))]) kz fun gW bX => ?_)
   have dL := TT.ofW ((ab.trans ac).trans af) bp
   refine ⟨fun _ => dL, ?_⟩
   refine qaE kz ?_ _
   refine qab ?_
   refine qaX bX (b := true) kz rfl ?_
   refine qaH 19 kz bp fun gX aN bE aV => ?_
   refine qaF [0, 1, 5, 6, 7, 8, 9] [(0, .p 0 0), (2, .p 1 0), (3, .p 3 0), (20, .v (.int .i64 (((D.f 0).l : Nat) : Int))), (21, .v (.int .i64 ((k0_ : Nat) : Int))), (27, .v (.slice (some ⟨aa, 0, none⟩) 2 2)), (34, .v (.slice ((D.f 0).A) ((D.f 0).l) ((D.f 0).c))), (35, .v (.int .i64 ((k0_ : Nat) : Int)))] 13 (qaa (qac (qaa (qaa (qac (qaa qaf)))))) (fun _ h => h.cells) aV bX fun gY dM => ?_
   refine qaN dM (i := 2) (t := 34) (A := (some ⟨aa, 0, none⟩)) (m := 2) (q := 0) (d := 28) kz (e := 37) (size := 5) (bytes := 88) (j := 0) kz (b := aa) (o := 0) rfl rfl (by decide) kz kz (qaa (qac (qaa (qaa (qac (qaa qaf)))))) aV fun gZ dN => ?_
   have dO := dN.recast 28 (.v (.pointer (some ⟨aa, 0 + 0 * 5, none⟩))) (.p 2 0) rfl rfl (Nat.le_of_ble_eq_true (n := 3) rfl)
   have dP := dO.pk (env' := [(0, .p 0 0), (2, .p 1 0), (3, .p 3 0), (20, .v (.int .i64 (((D.f 0).l : Nat) : Int))), (21, .v (.int .i64 ((k0_ : Nat) : Int))), (27, .v (.slice (some ⟨aa, 0, none⟩) 2 2)), (34, .v (.slice ((D.f 0).A) ((D.f 0).l) ((D.f 0).c))), (35, .v (.int .i64 ((k0_ : Nat) : Int))), (28, .p 2 0)])
   refine qaF [3, 4, 14] [(0, .p 0 0), (2, .p 1 0), (3, .p 3 0), (20, .v (.int .i64 (((D.f 0).l : Nat) : Int))), (21, .v (.int .i64 ((k0_ : Nat) : Int))), (27, .v (.slice (some ⟨aa, 0, none⟩) 2 2)), (30, .v (.slice A0_ k0_ c0_)), (34, .v (.slice ((D.f 0).A) ((D.f 0).l) ((D.f 0).c))), (35, .v (.int .i64 ((k0_ : Nat) : Int))), (40, .v (.int .i64 ((k0_ : Nat) : Int)))] 9 (qaa (qac (qaa (qaa (qac (qaa qaf)))))) (fun _ h => h.cells) aV dP fun g6 dQ => ?_
   obtain ⟨fS, fT, dR, gb, cU⟩ := Slots.get g1 (i := k0_) (by omega)
   refine qaN dQ (i := 10) (t := 73) (A := (D.f 0).A) (m := ((D.f 0).l)) (q := ((k0_ : Nat) : Int)) (d := 36) kz (e := 9) (size := 1) (bytes := 16) kz dR rfl (by omega) kz kz (qaa (qac (qaa (qaa (qac (qaa qaf)))))) aV fun g7 dS => ?_
   refine qaS dS (i := 11) (t := 9) (b := fS) (o := fT + k0_ * 1) (d := 37) kz (cs := [.string (((D.f 0).f k0_).s)]) (v := .string (((D.f 0).f k0_).s)) kz (fun w' h' => (AtF.move cU (TT.step0 bE h') nilM qaY).at_) kz kz (qaa (qac (qaa (qaa (qac (qaa qaf)))))) aV fun g8 bY => ?_
   refine qfk (i := 12) (j := 15) kz ?_ ?_
   ·
    refine (qdZ (d := 38) (src := 9) (dst := 22) (e := 5) (s := (((D.f 0).f k0_).s)) bE bY (by have h_ := g1e k0_ (by omega); exact Nat.le_trans h_ (by decide)) fun ay az g9 hC ao bZ dT dU => ?_)
    have dV := dT F
    have b8 := TT.ofW ao bZ
    refine ⟨fun _ => b8, ?_⟩
    refine qaF [13] [(0, .p 0 0), (2, .p 1 0), (3, .p 3 0), (20, .v (.int .i64 (((D.f 0).l : Nat) : Int))), (21, .v (.int .i64 ((k0_ : Nat) : Int))), (27, .v (.slice (some ⟨aa, 0, none⟩) 2 2)), (30, .v (.slice A0_ k0_ c0_)), (39, .v (.agg #[.int .i64 0, .slice (some ⟨ay, 0, none⟩) ((sb (((D.f 0).f k0_).s)).length) az, .bool false, .slice none 0 0, .slice none 0 0])), (40, .v (.int .i64 ((k0_ : Nat) : Int)))] 5 (qaa (qac (qaa (qaa (qac (qaa qaf)))))) (fun _ h => h.cells) b8 dU fun hJ dW => ?_
    refine qaA (i := 15) kz (qbE bZ dW (e := 37) (size := 5) (len := 1) (cs := [.int .i64 0, .slice none 0 0, .bool false, .slice none 0 0, .slice none 0 0]) (d := 41) kz kz fun cV hK hZ gc gd ag bq dX => ?_)
    have dY := TT.ofW (ao.trans ag) bq
    refine ⟨fun _ => dY, ?_⟩
    refine qaA (i := 16) kz (qaT bq dX (k := 0) (d := 42) (t := 34) (e := 37) (size := 5) (bytes := 88) (A := A0_) (As := (some ⟨cV, 0, none⟩)) (m0 := k0_) (c := c0_) (m := 1) (cs := 1) (xs := xs0_) (news := [.int .i64 0, .slice none 0 0, .bool false, .slice none 0 0, .slice none 0 0]) kz kz rfl (qbu (bq.own 1 _ rfl) (qbJ kz)) (qbI (bq.own 1 _ rfl)) (by omega) fun ah ap ia ib ar bF dZ => ?_)
    have d5 := TT.ofW ((ao.trans ag).trans ar) bF
    refine ⟨fun _ => d5, ?_⟩
    refine qaA (i := 17) kz (qaz dZ (t := 34) (A := (some ⟨aa, 0, none⟩)) (m := 2) (q := 0) (d := 43) kz (e := 37) (size := 5) (bytes := 88) (j := 0) kz (b := aa) (o := 0) rfl rfl (by decide) fun ic d6 => ?_)
    have d7 := d6.recast 43 (.v (.pointer (some ⟨aa, 0 + 0 * 5, none⟩))) (.p 2 0) rfl rfl (Nat.le_of_ble_eq_true (n := 3) rfl)
    have d8 := d7.pk (env' := [(0, .p 0 0), (2, .p 1 0), (3, .p 3 0), (20, .v (.int .i64 (((D.f 0).l : Nat) : Int))), (21, .v (.int .i64 ((k0_ : Nat) : Int))), (27, .v (.slice (some ⟨aa, 0, none⟩) 2 2)), (30, .v (.slice A0_ k0_ c0_)), (39, .v (.agg #[.int .i64 0, .slice (some ⟨ay, 0, none⟩) ((sb (((D.f 0).f k0_).s)).length) az, .bool false, .slice none 0 0, .slice none 0 0])), (40, .v (.int .i64 ((k0_ : Nat) : Int))), (41, .v (.slice (some ⟨cV, 0, none⟩) 1 1)), (42, .v (.slice ah (k0_ + 1) ap)), (43, .p 2 0)])
    have cd := TT.ofW ((ao.trans ag).trans ar) bF
    refine ⟨fun _ => cd, ?_⟩
    refine qaF [18] [(0, .p 0 0), (2, .p 1 0), (3, .p 3 0), (20, .v (.int .i64 (((D.f 0).l : Nat) : Int))), (21, .v (.int .i64 ((k0_ : Nat) : Int))), (39, .v (.agg #[.int .i64 0, .slice (some ⟨ay, 0, none⟩) ((sb (((D.f 0).f k0_).s)).length) az, .bool false, .slice none 0 0, .slice none 0 0])), (40, .v (.int .i64 ((k0_ : Nat) : Int))), (42, .v (.slice ah (k0_ + 1) ap)), (44, .p 2 3)] 1 (qaa (qac (qaa (qaa (qac (qaa qaf)))))) (fun _ h => h.cells) cd d8 fun ig d9 => ?_
    refine qaA (i := 19) kz (qay bF d9 (oi := 2) (cs := [.int .i64 0, .slice none 0 0, .bool (((D.f 0).A).isNone), .slice ah (k0_ + 1) ap, .slice none 0 0, .int .i64 0, .slice none 0 0, .bool false, .slice none 0 0, .slice none 0 0]) kz fun fU aW ce ea => ?_)
    refine ⟨fun h => absurd rfl h, ?_⟩
    refine qaE kz ?_ _
    refine qab ?_
    refine qas [0, 1] kz ?_
    have eb : World.ownsRow fU 0 37 5 (.slice ah (k0_ + 1) ap) (k0_ + 1) (xs0_ ++ [.int .i64 0, .slice none 0 0, .bool false, .slice none 0 0, .slice none 0 0]) := ce.own 0 _ rfl
    obtain ⟨ec, cm⟩ := qbM eb (by omega)
    refine qal (qaz ea (t := 34) (A := ah) (m := (k0_ + 1)) (q := ((k0_ : Nat) : Int)) (d := 45) kz (e := 37) (size := 5) (bytes := 88) kz (b := ec) (o := 0) (j := k0_) cm (rfl) (by omega) fun ii ee => ?_)
    refine qal (qbV ce ee (k := 0) (g := ec) (o := k0_ * 5) (c := ap) (m := (k0_ + 1)) (size := 5) (e := 37) (A := ah) (xs := (xs0_ ++ [.int .i64 0, .slice none 0 0, .bool false, .slice none 0 0, .slice none 0 0])) (vs := [.int .i64 0, .slice (some ⟨ay, 0, none⟩) ((sb (((D.f 0).f k0_).s)).length) az, .bool false, .slice none 0 0, .slice none 0 0]) kz rfl cm (by simp only [List.length_cons, List.length_nil]; omega) fun ij aX ef eg => ?_)
    have eh : (⟨ah, ap, 37, 5, k0_ + 1, qa7 (xs0_ ++ [.int .i64 0, .slice none 0 0, .bool false, .slice none 0 0, .slice none 0 0]) (k0_ * 5) [.int .i64 0, .slice (some ⟨ay, 0, none⟩) ((sb (((D.f 0).f k0_).s)).length) az, .bool false, .slice none 0 0, .slice none 0 0]⟩ : Rw) = ⟨ah, ap, 37, 5, k0_ + 1, xs0_ ++ [.int .i64 0, .slice (some ⟨ay, 0, none⟩) ((sb (((D.f 0).f k0_).s)).length) az, .bool false, .slice none 0 0, .slice none 0 0]⟩ := by rw [qez (by rw [hT0_.xslen, List.length_take, qdL]; omega)]
    obtain ⟨cq, aY⟩ := ef.rowEq 0 [⟨ah, ap, 37, 5, k0_ + 1, xs0_ ++ [.int .i64 0, .slice (some ⟨ay, 0, none⟩) ((sb (((D.f 0).f k0_).s)).length) az, .bool false, .slice none 0 0, .slice none 0 0]⟩, ⟨some ⟨cV, 0, none⟩, 1, 37, 5, 1, [.int .i64 0, .slice none 0 0, .bool false, .slice none 0 0, .slice none 0 0]⟩] eh
    refine qae ?_
    refine qaq ?_
    refine qab ?_
    refine qas [0, 1] kz ?_
    refine qai [0, 1] [] [(0, .p 0 0), (2, .p 1 0), (3, .p 3 0), (20, .v (.int .i64 (((D.f 0).l : Nat) : Int))), (21, .v (.int .i64 (IntKind.i64.wrap (((k0_ : Nat) : Int) + 1))))] cq eg fun ik ei => ?_
    refine qae (qab ?_)
    obtain ⟨cr, ej, aZ⟩ := cq.cutB ei 4 [⟨b, o, [.int .i16 v, .slice ((D.f 0).A) ((D.f 0).l) ((D.f 0).c), .bool ((D.f 1).b), .map D.m], false⟩, ⟨b4, 0, [.int .i64 0, .slice none 0 0, .bool false, .slice none 0 0, .slice none 0 0], true⟩, ⟨aa, 0, [.int .i64 0, .slice none 0 0, .bool (((D.f 0).A).isNone), .slice ah (k0_ + 1) ap, .slice none 0 0, .int .i64 0, .slice none 0 0, .bool false, .slice none 0 0, .slice none 0 0], true⟩, ⟨bj, 0, [.int .i64 0, .slice none 0 0, .bool false, .slice (some ⟨aa, 0, none⟩) 2 2, .slice none 0 0], true⟩] [(0, .p 0 0), (2, .p 1 0), (3, .p 3 0), (20, .v (.int .i64 (((D.f 0).l : Nat) : Int))), (21, .v (.int .i64 (IntKind.i64.wrap (((k0_ : Nat) : Int) + 1))))]
    obtain ⟨ek, ba⟩ := ej.cutR 1 [⟨ah, ap, 37, 5, k0_ + 1, xs0_ ++ [.int .i64 0, .slice (some ⟨ay, 0, none⟩) ((sb (((D.f 0).f k0_).s)).length) az, .bool false, .slice none 0 0, .slice none 0 0]⟩]
    have em : IntKind.i64.wrap (((k0_ : Nat) : Int) + 1) = ((k0_ + 1 : Nat) : Int) := qaJ (by omega)
    rw [em] at cr
    exact ⟨(D.f 0).l - (k0_ + 1), by omega, k0_ + 1, ah, ap, xs0_ ++ [Value.int .i64 0, .slice (some ⟨ay, 0, none⟩) ((sb (((D.f 0).f k0_).s)).length) az, .bool false, .slice none 0 0, .slice none 0 0], (css0_ ++ [[Value.int .i64 0, .slice (some ⟨ay, 0, none⟩) ((sb (((D.f 0).f k0_).s)).length) az, .bool false, .slice none 0 0, .slice none 0 0]]), rfl, by omega, by rw [qd0 (by omega)]; exact (hT0_.move ((((((((((((aR.trans ab).trans ac).trans af).trans aN).trans ao).trans ag).trans ar).trans aW).trans aX).trans aY).trans aZ).trans ba).step immM ((((((((((((aR.trans ab).trans ac).trans af).trans aN).trans ao).trans ag).trans ar).trans aW).trans aX).trans aY).trans aZ).trans ba).to').snoc (x := (fun i => Tree.mk 0 (sb ((D.f 0).f i).s) false [] []) k0_) (TreeR.mk (n := 0) (b := false) (s := (sb (((D.f 0).f k0_).s))) (l := []) (u := []) (fun _ => []) (dV.move ((((((ag.trans ar).trans aW).trans aX).trans aY).trans aZ).trans ba).step immM ((((((ag.trans ar).trans aW).trans aX).trans aY).trans aZ).trans ba).to') (Slots.nil _ _ _ _) (fun i_ x_ h_ => by simp at h_) (TagsR.nil _ _)), cr.pk, ek, (((((((((((((cO.trans aR).trans ab).trans ac).trans af).trans aN).trans ao).trans ag).trans ar).trans aW).trans aX).trans aY).trans aZ).trans ba)⟩
   ·
    refine (qbE bE bY (e := 37) (size := 5) (len := 1) (cs := [.int .i64 0, .slice none 0 0, .bool false, .slice none 0 0, .slice none 0 0]) (d := 41) kz kz fun bQ il im ge gg au cu eo => ?_)
    have ep := TT.ofW au cu
    refine ⟨fun _ => ep, ?_⟩
    refine qaA (i := 12) kz (qdZ (d := 38) (src := 9) (dst := 22) (e := 5) (s := (((D.f 0).f k0_).s)) cu eo (by have h_ := g1e k0_ (by omega); exact Nat.le_trans h_ (by decide)) fun aA aB io ip aO bt eu ev => ?_)
    have ew := eu F
    have cw := TT.ofW (au.trans aO) bt
    refine ⟨fun _ => cw, ?_⟩
    refine qaF [13] [(0, .p 0 0), (2, .p 1 0), (3, .p 3 0), (20, .v (.int .i64 (((D.f 0).l : Nat) : Int))), (21, .v (.int .i64 ((k0_ : Nat) : Int))), (27, .v (.slice (some ⟨aa, 0, none⟩) 2 2)), (30, .v (.slice A0_ k0_ c0_)), (39, .v (.agg #[.int .i64 0, .slice (some ⟨aA, 0, none⟩) ((sb (((D.f 0).f k0_).s)).length) aB, .bool false, .slice none 0 0, .slice none 0 0])), (40, .v (.int .i64 ((k0_ : Nat) : Int))), (41, .v (.slice (some ⟨bQ, 0, none⟩) 1 1))] 4 (qaa (qac (qaa (qaa (qac (qaa qaf)))))) (fun _ h => h.cells) cw ev fun iq ey => ?_
    refine qaA (i := 16) kz (qaT bt ey (k := 0) (d := 42) (t := 34) (e := 37) (size := 5) (bytes := 88) (A := A0_) (As := (some ⟨bQ, 0, none⟩)) (m0 := k0_) (c := c0_) (m := 1) (cs := 1) (xs := xs0_) (news := [.int .i64 0, .slice none 0 0, .bool false, .slice none 0 0, .slice none 0 0]) kz kz rfl (qbu (bt.own 1 _ rfl) (qbJ kz)) (qbI (bt.own 1 _ rfl)) (by omega) fun ai av ir iu aw bG ez => ?_)
    have eB := TT.ofW ((au.trans aO).trans aw) bG
    refine ⟨fun _ => eB, ?_⟩
    refine qaA (i := 17) kz (qaz ez (t := 34) (A := (some ⟨aa, 0, none⟩)) (m := 2) (q := 0) (d := 43) kz (e := 37) (size := 5) (bytes := 88) (j := 0) kz (b := aa) (o := 0) rfl rfl (by decide) fun iv eC => ?_)
    have eD := eC.recast 43 (.v (.pointer (some ⟨aa, 0 + 0 * 5, none⟩))) (.p 2 0) rfl rfl (Nat.le_of_ble_eq_true (n := 3) rfl)
    have eE := eD.pk (env' := [(0, .p 0 0), (2, .p 1 0), (3, .p 3 0), (20, .v (.int .i64 (((D.f 0).l : Nat) : Int))), (21, .v (.int .i64 ((k0_ : Nat) : Int))), (27, .v (.slice (some ⟨aa, 0, none⟩) 2 2)), (30, .v (.slice A0_ k0_ c0_)), (39, .v (.agg #[.int .i64 0, .slice (some ⟨aA, 0, none⟩) ((sb (((D.f 0).f k0_).s)).length) aB, .bool false, .slice none 0 0, .slice none 0 0])), (40, .v (.int .i64 ((k0_ : Nat) : Int))), (41, .v (.slice (some ⟨bQ, 0, none⟩) 1 1)), (42, .v (.slice ai (k0_ + 1) av)), (43, .p 2 0)])
    have cz := TT.ofW ((au.trans aO).trans aw) bG
    refine ⟨fun _ => cz, ?_⟩
    refine qaF [18] [(0, .p 0 0), (2, .p 1 0), (3, .p 3 0), (20, .v (.int .i64 (((D.f 0).l : Nat) : Int))), (21, .v (.int .i64 ((k0_ : Nat) : Int))), (39, .v (.agg #[.int .i64 0, .slice (some ⟨aA, 0, none⟩) ((sb (((D.f 0).f k0_).s)).length) aB, .bool false, .slice none 0 0, .slice none 0 0])), (40, .v (.int .i64 ((k0_ : Nat) : Int))), (42, .v (.slice ai (k0_ + 1) av)), (44, .p 2 3)] 1 (qaa (qac (qaa (qaa (qac (qaa qaf)))))) (fun _ h => h.cells) cz eE fun iw eF => ?_
    refine qaA (i := 19) kz (qay bG eF (oi := 2) (cs := [.int .i64 0, .slice none 0 0, .bool (((D.f 0).A).isNone), .slice ai (k0_ + 1) av, .slice none 0 0, .int .i64 0, .slice none 0 0, .bool false, .slice none 0 0, .slice none 0 0]) kz fun fV bd cA eG => ?_)
    refine ⟨fun h => absurd rfl h, ?_⟩
    refine qaE kz ?_ _
    refine qab ?_
    refine qas [0, 1] kz ?_
    have eH : World.ownsRow fV 0 37 5 (.slice ai (k0_ + 1) av) (k0_ + 1) (xs0_ ++ [.int .i64 0, .slice none 0 0, .bool false, .slice none 0 0, .slice none 0 0]) := cA.own 0 _ rfl
    obtain ⟨eI, cB⟩ := qbM eH (by omega)
    refine qal (qaz eG (t := 34) (A := ai) (m := (k0_ + 1)) (q := ((k0_ : Nat) : Int)) (d := 45) kz (e := 37) (size := 5) (bytes := 88) kz (b := eI) (o := 0) (j := k0_) cB (rfl) (by omega) fun ix eJ => ?_)
    refine qal (qbV cA eJ (k := 0) (g := eI) (o := k0_ * 5) (c := av) (m := (k0_ + 1)) (size := 5) (e := 37) (A := ai) (xs := (xs0_ ++ [.int .i64 0, .slice none 0 0, .bool false, .slice none 0 0, .slice none 0 0])) (vs := [.int .i64 0, .slice (some ⟨aA, 0, none⟩) ((sb (((D.f 0).f k0_).s)).length) aB, .bool false, .slice none 0 0, .slice none 0 0]) kz rfl cB (by simp only [List.length_cons, List.length_nil]; omega) fun iy bf eK eL => ?_)
    have eM : (⟨ai, av, 37, 5, k0_ + 1, qa7 (xs0_ ++ [.int .i64 0, .slice none 0 0, .bool false, .slice none 0 0, .slice none 0 0]) (k0_ * 5) [.int .i64 0, .slice (some ⟨aA, 0, none⟩) ((sb (((D.f 0).f k0_).s)).length) aB, .bool false, .slice none 0 0, .slice none 0 0]⟩ : Rw) = ⟨ai, av, 37, 5, k0_ + 1, xs0_ ++ [.int .i64 0, .slice (some ⟨aA, 0, none⟩) ((sb (((D.f 0).f k0_).s)).length) aB, .bool false, .slice none 0 0, .slice none 0 0]⟩ := by rw [qez (by rw [hT0_.xslen, List.length_take, qdL]; omega)]
    obtain ⟨cC, bg⟩ := eK.rowEq 0 [⟨ai, av, 37, 5, k0_ + 1, xs0_ ++ [.int .i64 0, .slice (some ⟨aA, 0, none⟩) ((sb (((D.f 0).f k0_).s)).length) aB, .bool false, .slice none 0 0, .slice none 0 0]⟩, ⟨some ⟨bQ, 0, none⟩, 1, 37, 5, 1, [.int .i64 0, .slice none 0 0, .bool false, .slice none 0 0, .slice none 0 0]⟩] eM
    refine qae ?_
    refine qaq ?_
    refine qab ?_
    refine qas [0, 1] kz ?_
    refine qai [0, 1] [] [(0, .p 0 0), (2, .p 1 0), (3, .p 3 0), (20, .v (.int .i64 (((D.f 0).l : Nat) : Int))), (21, .v (.int .i64 (IntKind.i64.wrap (((k0_ : Nat) : Int) + 1))))] cC eL fun iz eN => ?_
    refine qae (qab ?_)
    obtain ⟨cD, eO, bh⟩ := cC.cutB eN 4 [⟨b, o, [.int .i16 v, .slice ((D.f 0).A) ((D.f 0).l) ((D.f 0).c), .bool ((D.f 1).b), .map D.m], false⟩, ⟨b4, 0, [.int .i64 0, .slice none 0 0, .bool false, .slice none 0 0, .slice none 0 0], true⟩, ⟨aa, 0, [.int .i64 0, .slice none 0 0, .bool (((D.f 0).A).isNone), .slice ai (k0_ + 1) av, .slice none 0 0, .int .i64 0, .slice none 0 0, .bool false, .slice none 0 0, .slice none 0 0], true⟩, ⟨bj, 0, [.int .i64 0, .slice none 0 0, .bool false, .slice (some ⟨aa, 0, none⟩) 2 2, .slice none 0 0], true⟩] [(0, .p 0 0), (2, .p 1 0), (3, .p 3 0), (20, .v (.int .i64 (((D.f 0).l : Nat) : Int))), (21, .v (.int .i64 (IntKind.i64.wrap (((k0_ : Nat) : Int) + 1))))]
    obtain ⟨eP, bi⟩ := eO.cutR 1 [⟨ai, av, 37, 5, k0_ + 1, xs0_ ++ [.int .i64 0, .slice (some ⟨aA, 0, none⟩) ((sb (((D.f 0).f k0_).s)).length) aB, .bool false, .slice none 0 0, .slice none 0 0]⟩]
    have eQ : IntKind.i64.wrap (((k0_ : Nat) : Int) + 1) = ((k0_ + 1 : Nat) : Int) := qaJ (by omega)
    rw [eQ] at cD
    exact ⟨(D.f 0).l - (k0_ + 1), by omega, k0_ + 1, ai, av, xs0_ ++ [Value.int .i64 0, .slice (some ⟨aA, 0, none⟩) ((sb (((D.f 0).f k0_).s)).length) aB, .bool false, .slice none 0 0, .slice none 0 0], (css0_ ++ [[Value.int .i64 0, .slice (some ⟨aA, 0, none⟩) ((sb (((D.f 0).f k0_).s)).length) aB, .bool false, .slice none 0 0, .slice none 0 0]]), rfl, by omega, by rw [qd0 (by omega)]; exact (hT0_.move ((((((((((((aR.trans ab).trans ac).trans af).trans aN).trans au).trans aO).trans aw).trans bd).trans bf).trans bg).trans bh).trans bi).step immM ((((((((((((aR.trans ab).trans ac).trans af).trans aN).trans au).trans aO).trans aw).trans bd).trans bf).trans bg).trans bh).trans bi).to').snoc (x := (fun i => Tree.mk 0 (sb ((D.f 0).f i).s) false [] []) k0_) (TreeR.mk (n := 0) (b := false) (s := (sb (((D.f 0).f k0_).s))) (l := []) (u := []) (fun _ => []) (ew.move (((((aw.trans bd).trans bf).trans bg).trans bh).trans bi).step immM (((((aw.trans bd).trans bf).trans bg).trans bh).trans bi).to') (Slots.nil _ _ _ _) (fun i_ x_ h_ => by simp at h_) (TagsR.nil _ _)), cD.pk, eP, (((((((((((((cO.trans aR).trans ab).trans ac).trans af).trans aN).trans au).trans aO).trans aw).trans bd).trans bf).trans bg).trans bh).trans bi)⟩
 ·
  have gh := of_decide_eq_false cQ
  refine wp_exit ?_
  refine qax ?_
  refine qax ?_
  refine qaI ?_
  refine qab ?_
  refine qaH 8 kz bO fun fW cE bH eR => ?_
  refine qaF [0, 1, 2, 3, 4, 5] [(0, .p 0 0), (2, .p 1 0), (3, .p 3 0), (68, .v (.slice (some ⟨aa, 0, none⟩) 2 2)), (72, .v (.bool ((D.f 1).b)))] 3 (qaa qaf) (fun _ h => h.cells) eR cP fun iA eS => ?_
  refine qaA (i := 6) kz (qaj eS (f := 40) (vs := [.bool ((D.f 1).b)]) (d := 73) kz Tryd.call40 (tBool _ _ (Imm F w fW [⟨b, o, [.int .i16 v, .slice ((D.f 0).A) ((D.f 0).l) ((D.f 0).c), .bool ((D.f 1).b), .map D.m], false⟩, ⟨b4, 0, [.int .i64 0, .slice none 0 0, .bool false, .slice none 0 0, .slice none 0 0], true⟩, ⟨aa, 0, [.int .i64 0, .slice none 0 0, .bool (((D.f 0).A).isNone), .slice A0_ k0_ c0_, .slice none 0 0, .int .i64 0, .slice none 0 0, .bool false, .slice none 0 0, .slice none 0 0], true⟩, ⟨bj, 0, [.int .i64 0, .slice none 0 0, .bool false, .slice (some ⟨aa, 0, none⟩) 2 2, .slice none 0 0], true⟩] [⟨A0_, c0_, 37, 5, k0_, xs0_⟩])) ?_)
  rintro e_ iB ⟨gi, rfl, eU, bI⟩
  have bJ := eU.move (Step.refl _ Nil) nilM (bH.laid (G := F) bI)
  obtain ⟨aC, aD, aE, aF, aG, aH, aI, aJ, aK, aL, aM, gj, gk, bK, fX, fY, iC, iD⟩ := bJ.open_
  rw [bK] at bJ
  have fZ := fX.small
  have f5 := fY.small
  rw [bK]
  refine ⟨_, rfl, fun iE eV => ?_⟩
  have cG := bH.next_nil bI
  have bL := bH.frN bI
  have cH := TT.ofW bL cG
  refine ⟨fun _ => cH, ?_⟩
  refine qaN eV (i := 7) (t := 34) (A := (some ⟨aa, 0, none⟩)) (m := 2) (q := 1) (d := 74) kz (e := 37) (size := 5) (bytes := 88) (j := 1) kz (b := aa) (o := 0) rfl rfl (by decide) kz kz (qaa qaf) cH fun iF eW => ?_
  have eX := eW.recast 74 (.v (.pointer (some ⟨aa, 0 + 1 * 5, none⟩))) (.p 2 5) rfl rfl (Nat.le_of_ble_eq_true (n := 3) rfl)
  have eY := eX.pk (env' := [(0, .p 0 0), (2, .p 1 0), (3, .p 3 0), (68, .v (.slice (some ⟨aa, 0, none⟩) 2 2)), (72, .v (.bool ((D.f 1).b))), (73, .v (.agg #[.int .i64 aC, .slice aH aD.length aI, .bool aE, .slice aJ aF.length aK, .slice aL aG.length aM])), (74, .p 2 5)])
  refine qaA (i := 8) kz (qay cG eY (oi := 2) (cs := [.int .i64 0, .slice none 0 0, .bool (((D.f 0).A).isNone), .slice A0_ k0_ c0_, .slice none 0 0, .int .i64 aC, .slice aH aD.length aI, .bool aE, .slice aJ aF.length aK, .slice aL aG.length aM]) kz fun f7 bu ax eZ => ?_)
  refine ⟨fun h => absurd rfl h, ?_⟩
  refine qaE kz ?_ _
  refine qab ?_
  refine qad [0, 1, 2, 3, 4] kz ?_
  refine qai [0, 1, 2] [3, 4] [(2, .p 1 0), (3, .p 3 0), (77, .p 0 3)] ax eZ fun iG e9 => ?_
  refine qal (qgj e9 (v := .func (.func 42) #[] #[.pointer (some ⟨bj, 0, none⟩)]) (d := 78) kz fun iH fa => ?_)
  refine qal (qaj fa (f := 41) (vs := [.pointer (some ⟨b, o + 3, none⟩), .func (.func 42) #[] #[.pointer (some ⟨bj, 0, none⟩)]]) (d := 79) kz Tryd.call41 (kEachTell (F := (Imm F w f7 [⟨b, o, [.int .i16 v, .slice ((D.f 0).A) ((D.f 0).l) ((D.f 0).c), .bool ((D.f 1).b), .map D.m], false⟩, ⟨b4, 0, [.int .i64 0, .slice none 0 0, .bool false, .slice none 0 0, .slice none 0 0], true⟩, ⟨aa, 0, [.int .i64 0, .slice none 0 0, .bool (((D.f 0).A).isNone), .slice A0_ k0_ c0_, .slice none 0 0, .int .i64 aC, .slice aH aD.length aI, .bool aE, .slice aJ aF.length aK, .slice aL aG.length aM], true⟩, ⟨bj, 0, [.int .i64 0, .slice none 0 0, .bool false, .slice (some ⟨aa, 0, none⟩) 2 2, .slice none 0 0], true⟩] [⟨A0_, c0_, 37, 5, k0_, xs0_⟩])) Tryd.call42 qb6 ((hat.one 3 rfl).move ax.step nilM ax.imm) (g3.move ax.step nilM ax.imm) (Str.of ax 3 rfl) (imm_n 3 rfl) g3l) ?_)
  rintro e_ iI ⟨rfl, aj, ak, cW, fb, fe⟩
  obtain ⟨bM, bw, ff⟩ := ax.wrote 3 [⟨b, o, [.int .i16 v, .slice ((D.f 0).A) ((D.f 0).l) ((D.f 0).c), .bool ((D.f 1).b), .map D.m], false⟩, ⟨b4, 0, [.int .i64 0, .slice none 0 0, .bool false, .slice none 0 0, .slice none 0 0], true⟩, ⟨aa, 0, [.int .i64 0, .slice none 0 0, .bool (((D.f 0).A).isNone), .slice A0_ k0_ c0_, .slice none 0 0, .int .i64 aC, .slice aH aD.length aI, .bool aE, .slice aJ aF.length aK, .slice aL aG.length aM], true⟩, ⟨bj, 0, [.int .i64 0, .slice none 0 0, .bool false, .slice (some ⟨aa, 0, none⟩) 2 2, .slice aj D.u.length ak], true⟩] rfl fe cW
  have cI := fb.move (Step.refl _ Nil) nilM (fun b_ o_ h_ hb_ => ff (G := F) b_ o_ (.inr h_) hb_)
  refine ⟨_, rfl, fun iJ fg => ?_⟩
  have fh := (EnvOk.places (tb' := [⟨b, o, [.int .i16 v, .slice ((D.f 0).A) ((D.f 0).l) ((D.f 0).c), .bool ((D.f 1).b), .map D.m], false⟩, ⟨b4, 0, [.int .i64 0, .slice none 0 0, .bool false, .slice none 0 0, .slice none 0 0], true⟩, ⟨aa, 0, [.int .i64 0, .slice none 0 0, .bool (((D.f 0).A).isNone), .slice A0_ k0_ c0_, .slice none 0 0, .int .i64 aC, .slice aH aD.length aI, .bool aE, .slice aJ aF.length aK, .slice aL aG.length aM], true⟩, ⟨bj, 0, [.int .i64 0, .slice none 0 0, .bool false, .slice (some ⟨aa, 0, none⟩) 2 2, .slice aj D.u.length ak], true⟩]) fg (show Pl [⟨b, o, [.int .i16 v, .slice ((D.f 0).A) ((D.f 0).l) ((D.f 0).c), .bool ((D.f 1).b), .map D.m], false⟩, ⟨b4, 0, [.int .i64 0, .slice none 0 0, .bool false, .slice none 0 0, .slice none 0 0], true⟩, ⟨aa, 0, [.int .i64 0, .slice none 0 0, .bool (((D.f 0).A).isNone), .slice A0_ k0_ c0_, .slice none 0 0, .int .i64 aC, .slice aH aD.length aI, .bool aE, .slice aJ aF.length aK, .slice aL aG.length aM], true⟩, ⟨bj, 0, [.int .i64 0, .slice none 0 0, .bool false, .slice (some ⟨aa, 0, none⟩) 2 2, .slice none 0 0], true⟩] [⟨b, o, [.int .i16 v, .slice ((D.f 0).A) ((D.f 0).l) ((D.f 0).c), .bool ((D.f 1).b), .map D.m], false⟩, ⟨b4, 0, [.int .i64 0, .slice none 0 0, .bool false, .slice none 0 0, .slice none 0 0], true⟩, ⟨aa, 0, [.int .i64 0, .slice none 0 0, .bool (((D.f 0).A).isNone), .slice A0_ k0_ c0_, .slice none 0 0, .int .i64 aC, .slice aH aD.length aI, .bool aE, .slice aJ aF.length aK, .slice aL aG.length aM], true⟩, ⟨bj, 0, [.int .i64 0, .slice none 0 0, .bool false, .slice (some ⟨aa, 0, none⟩) 2 2, .slice aj D.u.length ak], true⟩] from ⟨rfl, rfl, ⟨rfl, rfl, ⟨rfl, rfl, ⟨rfl, rfl, trivial⟩⟩⟩⟩)).pk (env' := [(79, .v (.tuple #[])), (2, .p 1 0), (3, .p 3 0), (77, .p 0 3), (78, .v (.func (.func 42) #[] #[.pointer (some ⟨bj, 0, none⟩)]))])
  refine qae (qab ?_)
  refine qad [0, 1, 2] kz ?_
  refine qai [0, 1] [2] [(2, .p 1 0), (3, .p 3 0), (81, .v (.slice aj D.u.length ak))] bM fh fun iK fi => ?_
  refine qal (qaj fi (f := 43) (vs := [.slice aj D.u.length ak]) (d := 82) kz Tryd.call43 (tSorted cI g3.sorted) ?_)
  rintro e_ iL ⟨rfl, cJ⟩
  refine ⟨_, rfl, fun iM fj => ?_⟩
  have cK := bM.next_nil cJ
  have aP := bM.frN cJ
  refine qae (qab ?_)
  refine qad [0, 1] kz ?_
  refine qai [0] [1] [(2, .p 1 0), (83, .v (.agg #[.int .i64 0, .slice none 0 0, .bool false, .slice (some ⟨aa, 0, none⟩) 2 2, .slice aj D.u.length ak]))] cK fj fun iN fk => ?_
  refine qal (qay cK fk (oi := 1) (cs := [.int .i64 0, .slice none 0 0, .bool false, .slice (some ⟨aa, 0, none⟩) 2 2, .slice aj D.u.length ak]) kz fun fm aQ bN fo => ?_)
  refine qae (qab ?_)
  refine wp_ret ?_
  refine qaD fo bN.cells (v := .agg #[.int .i64 0, .slice none 0 0, .bool false, .slice (some ⟨aa, 0, none⟩) 2 2, .slice aj D.u.length ak]) kz ?_
  have cL := (hT0_.move (((((cE.trans bL).trans bu).trans bw).trans aP).trans aQ).step immM (((((cE.trans bL).trans bu).trans bw).trans aP).trans aQ).to')
  rw [take_all (by omega)] at cL
  exact tell_end (u := D.u) (l := [.mk 0 [] (D.f 0).A.isNone ((List.range (D.f 0).l).map fun i => .mk 0 (sb ((D.f 0).f i).s) false [] []) [], boolT (D.f 1).b]) (css := [[.int .i64 0, .slice none 0 0, .bool (((D.f 0).A).isNone), .slice A0_ k0_ c0_, .slice none 0 0], [.int .i64 aC, .slice aH aD.length aI, .bool aE, .slice aJ aF.length aK, .slice aL aG.length aM]]) bN 2 rfl ⟨tell_list bN (k := 0) rfl cL (by rw [qdL]; omega) (by rw [qdL]; omega), (show TreeR _ (Imm F w fm [⟨b, o, [.int .i16 v, .slice ((D.f 0).A) ((D.f 0).l) ((D.f 0).c), .bool ((D.f 1).b), .map D.m], false⟩, ⟨b4, 0, [.int .i64 0, .slice none 0 0, .bool false, .slice (some ⟨aa, 0, none⟩) 2 2, .slice aj D.u.length ak], true⟩, ⟨aa, 0, [.int .i64 0, .slice none 0 0, .bool (((D.f 0).A).isNone), .slice A0_ k0_ c0_, .slice none 0 0, .int .i64 aC, .slice aH aD.length aI, .bool aE, .slice aJ aF.length aK, .slice aL aG.length aM], true⟩, ⟨bj, 0, [.int .i64 0, .slice none 0 0, .bool false, .slice (some ⟨aa, 0, none⟩) 2 2, .slice aj D.u.length ak], true⟩] [⟨A0_, c0_, 37, 5, k0_, xs0_⟩]) _ _ from (bJ.move (((bu.trans bw).trans aP).trans aQ).step immM (((bu.trans bw).trans aP).trans aQ).to')).move (Step.refl _ Nil) nilM qcs, trivial⟩ ((show TagsR _ (Imm F w fm [⟨b, o, [.int .i16 v, .slice ((D.f 0).A) ((D.f 0).l) ((D.f 0).c), .bool ((D.f 1).b), .map D.m], false⟩, ⟨b4, 0, [.int .i64 0, .slice none 0 0, .bool false, .slice (some ⟨aa, 0, none⟩) 2 2, .slice aj D.u.length ak], true⟩, ⟨aa, 0, [.int .i64 0, .slice none 0 0, .bool (((D.f 0).A).isNone), .slice A0_ k0_ c0_, .slice none 0 0, .int .i64 aC, .slice aH aD.length aI, .bool aE, .slice aJ aF.length aK, .slice aL aG.length aM], true⟩, ⟨bj, 0, [.int .i64 0, .slice none 0 0, .bool false, .slice (some ⟨aa, 0, none⟩) 2 2, .slice aj D.u.length ak], true⟩] [⟨A0_, c0_, 37, 5, k0_, xs0_⟩]) _ _ _ from (cI.move (aP.trans aQ).step immM (aP.trans aQ).to')).move (Step.refl _ Nil) nilM qcs)
end Go.Proofs.YtgolpmkenmedoaaDoor.ME
namespace Go.Proofs.YtgolpmkenmedoaaDoor.ME
open Go
set_option linter.unusedVariables false
set_option linter.unusedSimpArgs false
theorem pres_has {k x1 x2 x3 x5 x6 v : Int} {s : List Fld} {flex : Bool} {x : Tree} : Fld.pres (.mk k x1 x2 x3 (-1) x5 x6 s) v flex x = (decide (x1 ≤ v) && (decide (x2 < 0) || decide (v ≤ x2))) := by simp [Fld.pres, Fld.tag, Fld.has]
section
variable {T : List Fld → Tree → Tree → Prop} {U : List Fld → Tree → Prop} {v k x1 x2 x3 x4 x5 x6 n : Int} {sub : List Fld} {x T' : Tree} {A : Option Addr} {s : ByteArray} {o : Bs} {b : Bool}
theorem to0_num (hn : n = qbb k x.N) (hk : k < 7 := by decide) : ToF0 T v (.mk k x1 x2 (-1) x4 x5 x6 sub) x (.mk n [] false [] []) := by
 cases x
 exact ⟨fun h => by omega, fun _ h => by omega, fun _ h => by omega, fun _ h => by omega, fun _ _ _ _ _ _ => hn⟩
theorem to_num (hn : n = qbb k x.N) (hk : k < 7 := by decide) : ToF T v (.mk k x1 x2 (-1) x4 x5 x6 sub) x (.mk n [] false [] []) := ⟨to0_num hn hk, fun h => absurd (show k = 11 from h) (by omega)⟩
theorem to_bool (hb : b = decide (T'.N % 2 = 1)) (h1 : T'.N = x.N) : ToF T v (.mk 0 x1 x2 (-1) x4 x5 x6 sub) x (boolT b) := by
 refine to_num ?_
 subst hb
 rw [h1]
 show (if decide (x.N % 2 = 1) = true then (1 : Int) else 0) = qbb 0 x.N
 simp only [qbb, if_true, decide_eq_true_eq]
 split <;> omega
theorem to0_text (hs : o = qaB x.S) : ToF0 T v (.mk 8 x1 x2 (-1) x4 x5 x6 sub) x (.mk 0 o false [] []) := by
 cases x with
 | mk a1 a2 a3 a4 a5 =>
  exact ⟨fun _ => nul_no.symm, fun _ _ => hs, fun _ h => by omega, fun _ h => by omega, fun _ _ h => absurd rfl h⟩
theorem to_list {l : Nat} {g : Nat → Tree} {W : Tree → Tree} (hb : x3 ≥ 0 ∧ v ≥ x3 → b = Fld.nul (.mk 11 x1 x2 x3 x4 x5 x6 sub) v x) (hl : l = (lst T').length) (hlst : lst T' = (if Fld.nul (.mk 11 x1 x2 x3 (-1) x5 x6 sub) v x = true then [] else qam x.L).map W)
  (he : ∀ i y, i < l → (lst T').getD i .zero = W y → (qam x.L)[i]? = some y → ToF0 T v (.mk x6 x1 x2 (-1) (-1) x5 x6 sub) y (g i)) : ToF T v (.mk 11 x1 x2 x3 x4 x5 x6 sub) x (.mk 0 [] b ((List.range l).map g) []) := by
 have hn : Fld.nul (.mk 11 x1 x2 x3 (-1) x5 x6 sub) v x = Fld.nul (.mk 11 x1 x2 x3 x4 x5 x6 sub) v x := by cases x; rfl
 refine ⟨?_, fun _ hnn => ?_⟩
 ·cases x with
  | mk a1 a2 a3 a4 a5 =>
   refine ⟨fun h => hb ?_, fun _ h => by omega, fun _ h => by omega, fun _ h => by omega, fun _ _ _ _ _ h => absurd rfl h⟩
   rcases h with h | h | h
   ·omega
   ·omega
   ·exact h
 ·rw [hn, hnn, if_neg (by decide)] at hlst
  have hll : l = (qam x.L).length := by rw [hl, hlst, List.length_map]
  refine ⟨by show ((List.range l).map g).length = _; rw [List.length_map, List.length_range, hll], fun i y z hy hz => ?_⟩
  have hi : i < l := by rw [hll]; exact (List.getElem?_eq_some_iff.1 hy).1
  have hz' : ((List.range l).map g)[i]? = some z := hz
  rw [List.getElem?_map, List.getElem?_range hi] at hz'
  obtain rfl := Option.some.inj hz'
  refine he i y hi ?_ hy
  rw [hlst, List.getD_eq_getElem?_getD, List.getElem?_map, hy]
  rfl
end
end Go.Proofs.YtgolpmkenmedoaaDoor.ME
namespace Go.Proofs.YtgolpmkenmedoaaDoor.ME
open Go
open Go.RowKit
set_option linter.unusedVariables false
set_option linter.unusedSimpArgs false
set_option maxRecDepth 20000
theorem qb4 (v : Int) (h0 : 0 ≤ v) (t Y : Tree) (hY : ∀ i, Y.at_ i = (fitT v 8 sShareGroupDescribeRequestF t).at_ i) (hU : Y.U = (fitT v 8 sShareGroupDescribeRequestF t).U) (hi : t.i64s) (D : DV) (h : qaU v D Y) : ToldP v (decide (v ≥ qak)) 8 sShareGroupDescribeRequestF t (qaV D) := by
 unfold qaU at h
 obtain ⟨r0, r1, rU, _⟩ := h
 refine ⟨rfl, fun i f y hf hy => ?_, ?_⟩
 ·match i, hf, hy with
  | 0, hf, hy =>
   obtain rfl := Option.some.inj hf
   obtain rfl := Option.some.inj hy
   have e := hY 0
   refine ⟨fun hp => ?_, fun hp => ?_⟩
   ·have hc : True := trivial
    have r := r0
    rw [e] at r
    obtain ⟨_, fl⟩ := qgz (v := v) (d := 7) (t := t) (show sShareGroupDescribeRequestF[0]? = _ from rfl)
    refine to_list (fun h_ => absurd h_.1 (by decide)) r.1 fl fun i_ y_ hi_ hg_ hy_ => ?_
    have q := r.2 i_ hi_
    rw [hg_] at q
    exact to0_text (by rw [q, sb_bs]; cases y_; simp [qb2, Fld.kind, Tree.S])
   ·rw [pres_has] at hp; simp at hp; omega
  | 1, hf, hy =>
   obtain rfl := Option.some.inj hf
   obtain rfl := Option.some.inj hy
   have e := hY 1
   refine ⟨fun hp => ?_, fun hp => ?_⟩
   ·have hc : True := trivial
    have r := r1
    rw [e] at r
    exact to_bool r (fit_N (v := v) (d := 7) (t := t) (show sShareGroupDescribeRequestF[1]? = _ from rfl) (by decide))
   ·rw [pres_has] at hp; simp at hp; omega
  | n_ + 2, hf, hy => exact absurd (List.getElem?_eq_some_iff.1 hf).1 (by show ¬ n_ + 2 < 2; omega)
 ·show D.u = if (decide (v ≥ qak)) = true then qb0 (qag sShareGroupDescribeRequestF t.U) else []
  by_cases hc : (decide (v ≥ 0)) = true
  ·rw [if_pos (show (decide (v ≥ qak)) = true from hc), rU.1 hc, hU, fit_U]
  ·rw [if_neg (show ¬ (decide (v ≥ qak)) = true from hc), rU.2 (by simpa using hc)]
set_option maxHeartbeats 4000000 in
theorem qco (v : Int) (T : Tree) {A2 : Option Addr} {c2 : Nat} {w : World} {F : Nat → Nat → Prop} (hs_ : Octs w F A2 c2 (qah (IntKind.i16.wrap v) T)) (hc : qaR T) (hkey : T.ranged) (hroom : (qah (IntKind.i16.wrap v) T).length + 16 ≤ 1099511627776) :
  Calls Tryd.prog 9 #[.int .i64 v, .slice A2 (qah (IntKind.i16.wrap v) T).length c2] w (fun e w' => ∃ D cs, e = .returned (.tuple #[.agg cs.toArray, .bool true]) ∧ TreeR w' (Fp NoF w) cs (qaV D) ∧ qaU (IntKind.i16.wrap v) D T ∧ Step w w' Nil) := by
 refine enter (n := 20) Tryd.func9 rfl Tryd.ntmps9 kz fun a hE => ?_
 have hW := WOk.start w Nil
 have hsm2 := Slots.small hs_
 refine qad [0, 1] kz ?_
 refine qal (qaM hW hE (d := 4) (cs := [.int .i64 0, .slice none 0 0, .bool false, .slice none 0 0, .slice none 0 0]) kz fun b1 a2 w3 hb4 hz5 hF6 hW7 hE8 => ?_)
 refine qai [1] [] [(0, .v (.int .i64 v)), (1, .v (.slice A2 ((qah (IntKind.i16.wrap v) T).length) c2)), (4, .p 0 0)] hW7 hE8 fun a9 aT => ?_
 refine qae (qab ?_)
 refine qad [0, 1] kz ?_
 refine qal (qby aT (f := 18) (vs := []) (d := 7) (n' := 3) kz Tryd.call18 Tryd.func18 rfl Tryd.ntmps18 kz fun cI aU => ?_)
 refine qao [] hW7 aU fun cJ aV => ?_
 refine qad [0] kz ?_
 refine qal (qaM hW7 aV (d := 1) (cs := [.int .i16 0, .slice none 0 0, .bool false, .map none]) kz fun aa cK cL ce cm cq ac aW => ?_)
 refine qae (qab ?_)
 refine qad [0] kz ?_
 refine qal (qby aW (f := 38) (vs := [.pointer (some ⟨aa, 0, none⟩)]) (d := 2) (n' := 2) kz Tryd.call38 Tryd.func38 rfl Tryd.ntmps38 kz fun cM aX => ?_)
 have aY := aX.recast 0 (.v (.pointer (some ⟨aa, 0, none⟩))) (.p 1 0) rfl rfl (Nat.le_of_ble_eq_true (n := 2) rfl)
 refine wp_skip ?_
 refine qbZ aY ac.cells (v := .tuple #[]) kz ?_
 refine ⟨_, rfl, fun cN aZ => ?_⟩
 have ba : EnvOk 3 [⟨b1, 0, [.int .i64 0, .slice none 0 0, .bool false, .slice none 0 0, .slice none 0 0], true⟩, ⟨aa, 0, [.int .i16 0, .slice none 0 0, .bool false, .map none], true⟩] [(2, .v (.tuple #[])), (1, .p 1 0)] _ := aZ.places (⟨rfl, rfl, ⟨rfl, rfl, trivial⟩⟩)
 refine qae (qab ?_)
 refine qao [(0, .p 1 0)] ac ba fun cO bd => ?_
 refine wp_ret ?_
 refine qaD bd ac.cells (v := .pointer (some ⟨aa, 0, none⟩)) kz ?_
 refine ⟨_, rfl, fun cP bf => ?_⟩
 have bg : EnvOk 20 [⟨b1, 0, [.int .i64 0, .slice none 0 0, .bool false, .slice none 0 0, .slice none 0 0], true⟩, ⟨aa, 0, [.int .i16 0, .slice none 0 0, .bool false, .map none], true⟩] [(7, .v (.pointer (some ⟨aa, 0, none⟩))), (0, .v (.int .i64 v)), (1, .v (.slice A2 ((qah (IntKind.i16.wrap v) T).length) c2)), (4, .p 0 0)] _ := bf.places (⟨rfl, rfl, trivial⟩)
 have bh := bg.recast 7 (.v (.pointer (some ⟨aa, 0, none⟩))) (.p 1 0) rfl rfl (Nat.le_of_ble_eq_true (n := 2) rfl)
 have bi := bh.pick (ks := [0, 1, 4, 7]) (env' := [(0, .v (.int .i64 v)), (1, .v (.slice A2 ((qah (IntKind.i16.wrap v) T).length) c2)), (4, .p 0 0), (7, .p 1 0)]) kz
 refine qai [1] [] [(0, .v (.int .i64 v)), (1, .v (.slice A2 ((qah (IntKind.i16.wrap v) T).length) c2)), (4, .p 0 0), (6, .p 1 0)] ac bi fun cQ bj => ?_
 refine qae (qab ?_)
 refine qad [0, 1, 2, 3] kz ?_
 refine qai [0, 1, 2] [3] [(1, .v (.slice A2 ((qah (IntKind.i16.wrap v) T).length) c2)), (4, .p 0 0), (6, .p 1 0), (8, .p 1 0), (10, .v (.int .i16 (IntKind.i16.wrap v)))] ac bj fun cR bk => ?_
 refine qal (qby bk (f := 20) (vs := [.pointer (some ⟨aa, 0, none⟩), .int .i16 (IntKind.i16.wrap v)]) (d := 11) (n' := 8) kz Tryd.call20 Tryd.func20 rfl Tryd.ntmps20 kz fun cS bn => ?_)
 have bo := bn.recast 0 (.v (.pointer (some ⟨aa, 0, none⟩))) (.p 1 0) rfl rfl (Nat.le_of_ble_eq_true (n := 2) rfl)
 refine qas [0, 1, 2, 3, 4] kz ?_
 refine qai [0, 1, 2, 3] [4] [(5, .v (.int .i16 (IntKind.i16.wrap v))), (7, .p 1 0)] ac bo fun cT bp => ?_
 refine qal (qay ac bp (oi := 1) (cs := [.int .i16 (IntKind.i16.wrap v), .slice none 0 0, .bool false, .map none]) kz fun cU cr ao bq => ?_)
 refine qae ?_
 refine qbZ bq ao.cells (v := .tuple #[]) kz ?_
 refine ⟨_, rfl, fun cV bt => ?_⟩
 have bu : EnvOk 20 [⟨b1, 0, [.int .i64 0, .slice none 0 0, .bool false, .slice none 0 0, .slice none 0 0], true⟩, ⟨aa, 0, [.int .i16 (IntKind.i16.wrap v), .slice none 0 0, .bool false, .map none], true⟩] [(11, .v (.tuple #[])), (1, .v (.slice A2 ((qah (IntKind.i16.wrap v) T).length) c2)), (4, .p 0 0), (6, .p 1 0), (8, .p 1 0), (10, .v (.int .i16 (IntKind.i16.wrap v)))] _ := bt.places (⟨rfl, rfl, ⟨rfl, rfl, trivial⟩⟩)
 refine qae (qab ?_)
 refine wp_seq ?_
 refine qad [0, 1, 2, 3, 4] kz ?_
 refine qai [0, 1] [2, 3, 4] [(4, .p 0 0), (6, .p 1 0), (12, .p 1 0), (13, .v (.slice A2 ((qah (IntKind.i16.wrap v) T).length) c2))] ao bu fun cW bw => ?_
 have ah := ao.addNil 5 1
 have cu := ao.frNil 5 1
 refine qal (qaT ah bw (k := 0) (d := 14) (t := 22) (e := 5) (size := 1) (bytes := 1) (A := none) (As := A2) (m0 := 0) (c := 0) (m := ((qah (IntKind.i16.wrap v) T).length)) (cs := c2) (xs := []) (news := bc (qah (IntKind.i16.wrap v) T)) kz kz rfl (hs_.move ah.step nilM ah.imm).src (hs_.move ah.step nilM ah.imm).cap (by first | omega | (simp only [List.length_nil]; omega) | (simp; omega)) fun af ag cX cY cw bx bz => ?_)
 have bA : (⟨af, ag, 5, 1, 0 + (qah (IntKind.i16.wrap v) T).length, [] ++ bc (qah (IntKind.i16.wrap v) T)⟩ : Rw) = brow af ag 5 (qah (IntKind.i16.wrap v) T) := by rw [List.nil_append, Nat.zero_add]
 obtain ⟨ap, cz⟩ := bx.rowEq 0 [brow af ag 5 (qah (IntKind.i16.wrap v) T)] bA
 have bB := EnvOk.pick bz (ks := [4, 6, 12, 13, 14]) (env' := [(4, .p 0 0), (6, .p 1 0), (12, .p 1 0), (13, .v (.slice A2 ((qah (IntKind.i16.wrap v) T).length) c2)), (14, .v (.slice af (0 + (qah (IntKind.i16.wrap v) T).length) ag))]) kz
 have bC := bB.cast (env' := [(4, .p 0 0), (6, .p 1 0), (12, .p 1 0), (13, .v (.slice A2 ((qah (IntKind.i16.wrap v) T).length) c2)), (14, .v (.slice af ((qah (IntKind.i16.wrap v) T).length) ag))]) (by simp only [List.length_append, List.length_cons, List.length_nil, Nat.zero_add])
 refine qal (qby bC (f := 21) (vs := [.pointer (some ⟨aa, 0, none⟩), .slice af ((qah (IntKind.i16.wrap v) T).length) ag]) (d := 15) (n' := 8) kz Tryd.call21 Tryd.func21 rfl Tryd.ntmps21 kz fun cZ bD => ?_)
 have bE := bD.recast 0 (.v (.pointer (some ⟨aa, 0, none⟩))) (.p 1 0) rfl rfl (Nat.le_of_ble_eq_true (n := 2) rfl)
 refine qao [(0, .p 1 0), (1, .v (.slice af ((qah (IntKind.i16.wrap v) T).length) ag))] ap bE fun c5 bF => ?_
 refine qad [0, 1, 2, 3] kz ?_
 refine qai [0, 1] [2, 3] [(5, .p 1 0), (6, .v (.slice af ((qah (IntKind.i16.wrap v) T).length) ag))] ap bF fun c6 bG => ?_
 have bH := ap.giveUp (G := NoF) 0 [] (show _ = some (brow af ag 5 (qah (IntKind.i16.wrap v) T)) from rfl) (by omega)
 obtain ⟨aH, cA⟩ := ap.cutR 0 []
 refine qal (qaj bG (f := 39) (vs := [.pointer (some ⟨aa, 0, none⟩), .slice af ((qah (IntKind.i16.wrap v) T).length) ag, .bool false]) (d := 7) kz Tryd.call39 (qcm (IntKind.i16.wrap v) T (Str.of aH 1 rfl) bH (imm_n 1 rfl) hc hkey) ?_)
 rintro e_ da ⟨ab, rfl, bI, bJ, bK, aI⟩
 obtain ⟨ae, cB, bL⟩ := aH.wrote 1 [⟨b1, 0, [.int .i64 0, .slice none 0 0, .bool false, .slice none 0 0, .slice none 0 0], true⟩, ⟨aa, 0, [.int .i16 (IntKind.i16.wrap v), .slice ((ab.f 0).A) ((ab.f 0).l) ((ab.f 0).c), .bool ((ab.f 1).b), .map ab.m], true⟩] rfl aI bI
 have bM := qbB _ (Step.refl _ Nil) nilM bL bJ
 refine ⟨_, rfl, fun db bN => ?_⟩
 have bO := (EnvOk.places (tb' := [⟨b1, 0, [.int .i64 0, .slice none 0 0, .bool false, .slice none 0 0, .slice none 0 0], true⟩, ⟨aa, 0, [.int .i16 (IntKind.i16.wrap v), .slice ((ab.f 0).A) ((ab.f 0).l) ((ab.f 0).c), .bool ((ab.f 1).b), .map ab.m], true⟩]) bN (show Pl [⟨b1, 0, [.int .i64 0, .slice none 0 0, .bool false, .slice none 0 0, .slice none 0 0], true⟩, ⟨aa, 0, [.int .i16 (IntKind.i16.wrap v), .slice none 0 0, .bool false, .map none], true⟩] [⟨b1, 0, [.int .i64 0, .slice none 0 0, .bool false, .slice none 0 0, .slice none 0 0], true⟩, ⟨aa, 0, [.int .i16 (IntKind.i16.wrap v), .slice ((ab.f 0).A) ((ab.f 0).l) ((ab.f 0).c), .bool ((ab.f 1).b), .map ab.m], true⟩] from ⟨rfl, rfl, ⟨rfl, rfl, trivial⟩⟩)).pk (env' := [(7, .v (.nilIface)), (5, .p 1 0), (6, .v (.slice af ((qah (IntKind.i16.wrap v) T).length) ag))])
 refine qai [3] [] [(4, .v (.nilIface))] ae bO fun dc bP => ?_
 refine qae (qab ?_)
 refine wp_ret ?_
 refine qaD bP ae.cells (v := .nilIface) kz ?_
 refine ⟨_, rfl, fun de bQ => ?_⟩
 have bR : EnvOk 20 [⟨b1, 0, [.int .i64 0, .slice none 0 0, .bool false, .slice none 0 0, .slice none 0 0], true⟩, ⟨aa, 0, [.int .i16 (IntKind.i16.wrap v), .slice ((ab.f 0).A) ((ab.f 0).l) ((ab.f 0).c), .bool ((ab.f 1).b), .map ab.m], true⟩] [(15, .v (.nilIface)), (4, .p 0 0), (6, .p 1 0), (12, .p 1 0), (13, .v (.slice A2 ((qah (IntKind.i16.wrap v) T).length) c2)), (14, .v (.slice af ((qah (IntKind.i16.wrap v) T).length) ag))] _ := bQ.places (⟨rfl, rfl, ⟨rfl, rfl, trivial⟩⟩)
 refine qai [4] [] [(4, .p 0 0), (6, .p 1 0), (16, .v (.bool false))] ae bR fun df aJ => ?_
 refine qae (qab ?_)
 refine qap aJ (b := false) kz rfl ?_
 refine wp_skip ?_
 refine qab ?_
 refine qad [0, 1, 2, 3] kz ?_
 refine qai [0] [1, 2, 3] [(4, .p 0 0), (18, .p 1 0)] ae aJ fun dg bS => ?_
 have aK := bS.recast 18 (.p 1 0) (.v (.pointer (some ⟨aa, 0, none⟩))) rfl rfl trivial
 have aL := aK.pk (env' := [(4, .p 0 0), (18, .v (.pointer (some ⟨aa, 0, none⟩)))])
 have av := WOk.strOut (G := NoF) [⟨b1, 0, [.int .i64 0, .slice none 0 0, .bool false, .slice none 0 0, .slice none 0 0], true⟩] ae
 obtain ⟨aM, ai, ar⟩ := ae.cutB aL 1 [⟨b1, 0, [.int .i64 0, .slice none 0 0, .bool false, .slice none 0 0, .slice none 0 0], true⟩] [(4, .p 0 0), (18, .v (.pointer (some ⟨aa, 0, none⟩)))]
 have aN := qbB _ ar.step immM ar.to' bM
 refine qal (qaj aM (f := 22) (vs := [.pointer (some ⟨aa, 0, none⟩)]) (d := 19) kz Tryd.call22 (qcn (IntKind.i16.wrap v) ab aa 0 _ _ av aN) ?_)
 rintro e_ cC ⟨bY, rfl, aO, aj⟩
 have ak := aO.move (Step.refl _ Nil) nilM (ai.laid (G := NoF) aj)
 obtain ⟨aw, ax, ay, az, aA, aB, aC, aD, aE, aF, aG, bZ, b8, al, bT, bU, cD, cE⟩ := ak.open_
 rw [al] at ak
 have bV := bT.small
 have bW := bU.small
 rw [al]
 refine ⟨_, rfl, fun cG aP => ?_⟩
 have aQ := ai.next_nil aj
 have cd := ai.frN aj
 refine qal (qay aQ aP (oi := 0) (cs := [.int .i64 aw, .slice aB ax.length aC, .bool ay, .slice aD az.length aE, .slice aF aA.length aG]) kz fun bX au am aR => ?_)
 refine qai [3] [] [(4, .p 0 0), (5, .v (.bool true))] am aR fun cH aS => ?_
 refine qae (qab ?_)
 refine wp_ret ?_
 refine qaD aS am.cells (v := .tuple #[.agg #[.int .i64 aw, .slice aB ax.length aC, .bool ay, .slice aD az.length aE, .slice aF aA.length aG], .bool true]) kz ?_
 exact ⟨ab, _, rfl, (show TreeR _ (Imm NoF w bX [⟨b1, 0, [.int .i64 aw, .slice aB ax.length aC, .bool ay, .slice aD az.length aE, .slice aF aA.length aG], true⟩] []) _ (qaV ab) from (ak.move au.step immM au.to')).move (Step.refl _ Nil) nilM qcs, bK, am.step⟩
theorem qb7 (v : Int) (T : Tree) (B : Bs) {A2 : Option Addr} {c2 : Nat} {w : World} {F : Nat → Nat → Prop} (hB : qah (IntKind.i16.wrap v) T = B) (hs_ : Octs w F A2 c2 B) (hc : qaR T) (hkey : T.ranged) (hroom : B.length + 16 ≤ 1099511627776) :
  Calls Tryd.prog 9 #[.int .i64 v, .slice A2 B.length c2] w (fun e w' => ∃ D cs, e = .returned (.tuple #[.agg cs.toArray, .bool true]) ∧ TreeR w' (Fp NoF w) cs (qaV D) ∧ qaU (IntKind.i16.wrap v) D T ∧ Step w w' Nil) := by
 subst hB
 exact qco v T hs_ hc hkey hroom
end Go.Proofs.YtgolpmkenmedoaaDoor.ME