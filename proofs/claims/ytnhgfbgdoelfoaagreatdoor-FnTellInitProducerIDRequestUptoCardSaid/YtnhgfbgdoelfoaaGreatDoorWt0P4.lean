/- The texts of a claim, put together: the engine, the contracts, the law. Own work. -/
import Derived.Test.YtnhgfbgdoelfoaaGreatDoorWt0P3
namespace Go.Proofs.YtnhgfbgdoelfoaaGreatDoor.ME
open Go
open Go.RowKit
set_option linter.unusedVariables false
set_option linter.unusedSimpArgs false
set_option maxRecDepth 20000
def trInitProducerIDRequest (D : DV) : Tree := .mk 0 [] false [textT (D.f 0).A (D.f 0).s, .mk (IntKind.i64.wrap (D.f 1).n) [] false [] [], .mk ((D.f 2).n) [] false [] [], .mk (IntKind.i64.wrap (D.f 3).n) [] false [] []] D.u
theorem tlInitProducerIDRequest (v : Int) (D : DV) (b o : Nat) (w : World) (F : Nat → Nat → Prop) (hat : AtF w F b o [.int .i16 v, .pointer ((D.f 0).A), .int .i32 ((D.f 1).n), .int .i64 ((D.f 2).n), .int .i16 ((D.f 3).n), .map D.m]) (hok : okInitProducerIDRequest w F D) : Calls Tryz.prog 81 #[.pointer (some ⟨b, o, none⟩)] w (GivesT w F (trInitProducerIDRequest D)) := by
 refine enter (n := 49) Tryz.func81 rfl Tryz.ntmps81 kz fun a hE => ?_
 have hW : WOk w Nil w [⟨b, o, [.int .i16 v, .pointer ((D.f 0).A), .int .i32 ((D.f 1).n), .int .i64 ((D.f 2).n), .int .i16 ((D.f 3).n), .map D.m], false⟩] [] := (WOk.start w Nil).start1 hat rfl rfl
 unfold okInitProducerIDRequest at hok
 obtain ⟨⟨g1, g1l⟩, g2, g3, g4, g5, g5l, g5x, _⟩ := hok
 have hE0 := (EnvOk.ptr0 (cs := [.int .i16 v, .pointer ((D.f 0).A), .int .i32 ((D.f 1).n), .int .i64 ((D.f 2).n), .int .i16 ((D.f 3).n), .map D.m]) (r := false) hE).pk (env' := [(0, .p 0 0)])
 refine go_seq_region [0] kz ?_
 refine of_op (wpOp_alloc hW hE0 (d := 2) (cs := [.int .i64 0, .slice none 0 0, .bool false, .slice none 0 0, .slice none 0 0]) kz fun b6 a7 w8 hb9 cr cu bi bj => ?_)
 clear hE0 hW
 refine wpOps_nil (then_normal ?_)
 refine go_seq_region [0, 1, 2, 3] kz ?_
 refine of_op (wpOp_makeZ (t := 39) (e := 42) (size := 5) (bytes := 88) (d := 4) (j := 4) (.agg #[.int .i64 0, .slice none 0 0, .bool false, .slice none 0 0, .slice none 0 0]) [.int .i64 0, .slice none 0 0, .bool false, .slice none 0 0, .slice none 0 0, .int .i64 0, .slice none 0 0, .bool false, .slice none 0 0, .slice none 0 0, .int .i64 0, .slice none 0 0, .bool false, .slice none 0 0, .slice none 0 0, .int .i64 0, .slice none 0 0, .bool false, .slice none 0 0, .slice none 0 0] bi bj fun aa c5 da cw cz cA ba bk => ?_)
 clear bj bi
 refine go_rn [1] [2, 3] [(0, .p 0 0), (2, .p 1 0), (5, .v (.agg #[.int .i64 0, .slice none 0 0, .bool false, .slice (some ⟨aa, 0, none⟩) 4 4, .slice none 0 0]))] ba bk fun db bn => ?_
 clear bk
 refine of_op (wpOp_alloc ba bn (d := 3) (cs := [.int .i64 0, .slice none 0 0, .bool false, .slice none 0 0, .slice none 0 0]) kz fun au dc de cB cC cD bo bp => ?_)
 clear bn ba
 refine of_op (wpOp_store bo bp (oi := 3) (cs := [.int .i64 0, .slice none 0 0, .bool false, .slice (some ⟨aa, 0, none⟩) 4 4, .slice none 0 0]) kz fun df cE bq bt => ?_)
 clear bp bo
 refine wpOps_nil (then_normal ?_)
 refine go_seq_drawK 8 kz bq fun cG cH ay bX => ?_
 clear bq
 refine go_rnD [0, 1, 2, 3, 4, 5] [(0, .p 0 0), (2, .p 1 0), (3, .p 3 0), (7, .v (.slice (some ⟨aa, 0, none⟩) 4 4)), (11, .v (.pointer ((D.f 0).A)))] 3 (panicFree_then panicFree_body) (fun _ h => h.cells) bX bt fun dg bu => ?_
 clear bt
 refine anyC_op (i := 6) kz (wpOp_call bu (f := 132) (vs := [.pointer ((D.f 0).A)]) (d := 12) kz Tryz.call132 (tText _ (D.f 0).s _ (Imm F w cG [⟨b, o, [.int .i16 v, .pointer ((D.f 0).A), .int .i32 ((D.f 1).n), .int .i64 ((D.f 2).n), .int .i16 ((D.f 3).n), .map D.m], false⟩, ⟨b6, 0, [.int .i64 0, .slice none 0 0, .bool false, .slice none 0 0, .slice none 0 0], true⟩, ⟨aa, 0, [.int .i64 0, .slice none 0 0, .bool false, .slice none 0 0, .slice none 0 0, .int .i64 0, .slice none 0 0, .bool false, .slice none 0 0, .slice none 0 0, .int .i64 0, .slice none 0 0, .bool false, .slice none 0 0, .slice none 0 0, .int .i64 0, .slice none 0 0, .bool false, .slice none 0 0, .slice none 0 0], true⟩, ⟨au, 0, [.int .i64 0, .slice none 0 0, .bool false, .slice (some ⟨aa, 0, none⟩) 4 4, .slice none 0 0], true⟩] []) (fun ad h_ => by obtain ⟨b', o', g1, g2⟩ := g1 ad h_; exact ⟨b', o', g1, g2.move ay.step nilM ay.imm⟩) g1l) ?_)
 rintro e_ dh ⟨cI, rfl, bY, bd⟩
 have bf := bY.move (Step.refl _ Nil) nilM (ay.laid (G := F) bd)
 obtain ⟨af, ag, ah, ai, aj, ak, al, am, ao, ap, ar, cJ, cK, aB, cL, cM, di, dj⟩ := bf.open_
 rw [aB] at bf
 have cm := cL.small
 have cq := cM.small
 rw [aB]
 refine ⟨_, rfl, fun dl bw => ?_⟩
 have bg := ay.next_nil bd
 have bZ := ay.frN bd
 clear bu
 have bx := TT.ofW bZ bg
 refine ⟨fun _ => bx, ?_⟩
 refine takeC_index bw (i := 7) (t := 39) (A := (some ⟨aa, 0, none⟩)) (m := 4) (q := 0) (d := 13) kz (e := 42) (size := 5) (bytes := 88) (j := 0) kz (b := aa) (o := 0) rfl rfl (by decide) kz kz (panicFree_then panicFree_body) bx fun dp bz => ?_
 clear bw
 have bA := bz.recast 13 (.v (.pointer (some ⟨aa, 0 + 0 * 5, none⟩))) (.p 2 0) rfl rfl (Nat.le_of_ble_eq_true (n := 3) rfl)
 clear bz
 have bB := bA.pk (env' := [(0, .p 0 0), (2, .p 1 0), (3, .p 3 0), (7, .v (.slice (some ⟨aa, 0, none⟩) 4 4)), (11, .v (.pointer ((D.f 0).A))), (12, .v (.agg #[.int .i64 af, .slice ak ag.length al, .bool ah, .slice am ai.length ao, .slice ap aj.length ar])), (13, .p 2 0)])
 clear bA
 refine anyC_op (i := 8) kz (wpOp_store bg bB (oi := 2) (cs := [.int .i64 af, .slice ak ag.length al, .bool ah, .slice am ai.length ao, .slice ap aj.length ar, .int .i64 0, .slice none 0 0, .bool false, .slice none 0 0, .slice none 0 0, .int .i64 0, .slice none 0 0, .bool false, .slice none 0 0, .slice none 0 0, .int .i64 0, .slice none 0 0, .bool false, .slice none 0 0, .slice none 0 0]) kz fun dq bC bD bE => ?_)
 clear bB bg
 refine ⟨fun h => absurd rfl h, ?_⟩
 refine anyC_done kz ?_ _
 refine then_normal ?_
 refine go_seq_drawK 9 kz bD fun dr bF b8 bG => ?_
 clear bD
 refine go_rnD [0, 1, 2, 3, 4, 5, 6, 7] [(0, .p 0 0), (2, .p 1 0), (3, .p 3 0), (15, .v (.slice (some ⟨aa, 0, none⟩) 4 4)), (21, .v (.agg #[.int .i64 (IntKind.i64.wrap ((D.f 1).n)), .slice none 0 0, .bool false, .slice none 0 0, .slice none 0 0]))] 2 (panicFree_then panicFree_body) (fun _ h => h.cells) bG bE fun dt bH => ?_
 clear bE
 refine takeC_index bH (i := 8) (t := 39) (A := (some ⟨aa, 0, none⟩)) (m := 4) (q := 1) (d := 22) kz (e := 42) (size := 5) (bytes := 88) (j := 1) kz (b := aa) (o := 0) rfl rfl (by decide) kz kz (panicFree_then panicFree_body) bG fun du bI => ?_
 clear bH
 have bJ := bI.recast 22 (.v (.pointer (some ⟨aa, 0 + 1 * 5, none⟩))) (.p 2 5) rfl rfl (Nat.le_of_ble_eq_true (n := 3) rfl)
 clear bI
 have bK := bJ.pk (env' := [(0, .p 0 0), (2, .p 1 0), (3, .p 3 0), (15, .v (.slice (some ⟨aa, 0, none⟩) 4 4)), (21, .v (.agg #[.int .i64 (IntKind.i64.wrap ((D.f 1).n)), .slice none 0 0, .bool false, .slice none 0 0, .slice none 0 0])), (22, .p 2 5)])
 clear bJ
 refine anyC_op (i := 9) kz (wpOp_store b8 bK (oi := 2) (cs := [.int .i64 af, .slice ak ag.length al, .bool ah, .slice am ai.length ao, .slice ap aj.length ar, .int .i64 (IntKind.i64.wrap ((D.f 1).n)), .slice none 0 0, .bool false, .slice none 0 0, .slice none 0 0, .int .i64 0, .slice none 0 0, .bool false, .slice none 0 0, .slice none 0 0, .int .i64 0, .slice none 0 0, .bool false, .slice none 0 0, .slice none 0 0]) kz fun dv bL bM bN => ?_)
 clear bK
 refine ⟨fun h => absurd rfl h, ?_⟩
 refine anyC_done kz ?_ _
 refine then_normal ?_
 refine go_seq_drawK 8 kz bM fun dw bO cd bP => ?_
 clear bM
 refine go_rnD [0, 1, 2, 3, 4, 5, 6] [(0, .p 0 0), (2, .p 1 0), (3, .p 3 0), (24, .v (.slice (some ⟨aa, 0, none⟩) 4 4)), (29, .v (.agg #[.int .i64 ((D.f 2).n), .slice none 0 0, .bool false, .slice none 0 0, .slice none 0 0]))] 2 (panicFree_then panicFree_body) (fun _ h => h.cells) bP bN fun dx bQ => ?_
 clear bN
 refine takeC_index bQ (i := 7) (t := 39) (A := (some ⟨aa, 0, none⟩)) (m := 4) (q := 2) (d := 30) kz (e := 42) (size := 5) (bytes := 88) (j := 2) kz (b := aa) (o := 0) rfl rfl (by decide) kz kz (panicFree_then panicFree_body) bP fun cN aC => ?_
 clear bQ
 have aD := aC.recast 30 (.v (.pointer (some ⟨aa, 0 + 2 * 5, none⟩))) (.p 2 10) rfl rfl (Nat.le_of_ble_eq_true (n := 3) rfl)
 clear aC
 have aE := aD.pk (env' := [(0, .p 0 0), (2, .p 1 0), (3, .p 3 0), (24, .v (.slice (some ⟨aa, 0, none⟩) 4 4)), (29, .v (.agg #[.int .i64 ((D.f 2).n), .slice none 0 0, .bool false, .slice none 0 0, .slice none 0 0])), (30, .p 2 10)])
 clear aD
 refine anyC_op (i := 8) kz (wpOp_store cd aE (oi := 2) (cs := [.int .i64 af, .slice ak ag.length al, .bool ah, .slice am ai.length ao, .slice ap aj.length ar, .int .i64 (IntKind.i64.wrap ((D.f 1).n)), .slice none 0 0, .bool false, .slice none 0 0, .slice none 0 0, .int .i64 ((D.f 2).n), .slice none 0 0, .bool false, .slice none 0 0, .slice none 0 0, .int .i64 0, .slice none 0 0, .bool false, .slice none 0 0, .slice none 0 0]) kz fun cO aF aG aH => ?_)
 clear aE
 refine ⟨fun h => absurd rfl h, ?_⟩
 refine anyC_done kz ?_ _
 refine then_normal ?_
 refine go_seq_drawK 9 kz aG fun cP aI bR aJ => ?_
 clear aG
 refine go_rnD [0, 1, 2, 3, 4, 5, 6, 7] [(0, .p 0 0), (2, .p 1 0), (3, .p 3 0), (32, .v (.slice (some ⟨aa, 0, none⟩) 4 4)), (38, .v (.agg #[.int .i64 (IntKind.i64.wrap ((D.f 3).n)), .slice none 0 0, .bool false, .slice none 0 0, .slice none 0 0]))] 2 (panicFree_then panicFree_body) (fun _ h => h.cells) aJ aH fun cQ aK => ?_
 clear aH
 refine takeC_index aK (i := 8) (t := 39) (A := (some ⟨aa, 0, none⟩)) (m := 4) (q := 3) (d := 39) kz (e := 42) (size := 5) (bytes := 88) (j := 3) kz (b := aa) (o := 0) rfl rfl (by decide) kz kz (panicFree_then panicFree_body) aJ fun cR aL => ?_
 clear aK
 have aM := aL.recast 39 (.v (.pointer (some ⟨aa, 0 + 3 * 5, none⟩))) (.p 2 15) rfl rfl (Nat.le_of_ble_eq_true (n := 3) rfl)
 clear aL
 have aN := aM.pk (env' := [(0, .p 0 0), (2, .p 1 0), (3, .p 3 0), (32, .v (.slice (some ⟨aa, 0, none⟩) 4 4)), (38, .v (.agg #[.int .i64 (IntKind.i64.wrap ((D.f 3).n)), .slice none 0 0, .bool false, .slice none 0 0, .slice none 0 0])), (39, .p 2 15)])
 clear aM
 refine anyC_op (i := 9) kz (wpOp_store bR aN (oi := 2) (cs := [.int .i64 af, .slice ak ag.length al, .bool ah, .slice am ai.length ao, .slice ap aj.length ar, .int .i64 (IntKind.i64.wrap ((D.f 1).n)), .slice none 0 0, .bool false, .slice none 0 0, .slice none 0 0, .int .i64 ((D.f 2).n), .slice none 0 0, .bool false, .slice none 0 0, .slice none 0 0, .int .i64 (IntKind.i64.wrap ((D.f 3).n)), .slice none 0 0, .bool false, .slice none 0 0, .slice none 0 0]) kz fun ce aO ae aP => ?_)
 clear aN
 refine ⟨fun h => absurd rfl h, ?_⟩
 refine anyC_done kz ?_ _
 refine then_normal ?_
 refine go_seq_region [0, 1, 2, 3, 4] kz ?_
 refine go_rn [0, 1, 2] [3, 4] [(2, .p 1 0), (3, .p 3 0), (42, .p 0 5)] ae aP fun cS aQ => ?_
 clear aP
 refine of_op (wpOp_mkf aQ (v := .func (.func 134) #[] #[.pointer (some ⟨au, 0, none⟩)]) (d := 43) kz fun cT aR => ?_)
 clear aQ
 refine of_op (wpOp_call aR (f := 133) (vs := [.pointer (some ⟨b, o + 5, none⟩), .func (.func 134) #[] #[.pointer (some ⟨au, 0, none⟩)]]) (d := 44) kz Tryz.call133 (kEachTell (F := (Imm F w ce [⟨b, o, [.int .i16 v, .pointer ((D.f 0).A), .int .i32 ((D.f 1).n), .int .i64 ((D.f 2).n), .int .i16 ((D.f 3).n), .map D.m], false⟩, ⟨b6, 0, [.int .i64 0, .slice none 0 0, .bool false, .slice none 0 0, .slice none 0 0], true⟩, ⟨aa, 0, [.int .i64 af, .slice ak ag.length al, .bool ah, .slice am ai.length ao, .slice ap aj.length ar, .int .i64 (IntKind.i64.wrap ((D.f 1).n)), .slice none 0 0, .bool false, .slice none 0 0, .slice none 0 0, .int .i64 ((D.f 2).n), .slice none 0 0, .bool false, .slice none 0 0, .slice none 0 0, .int .i64 (IntKind.i64.wrap ((D.f 3).n)), .slice none 0 0, .bool false, .slice none 0 0, .slice none 0 0], true⟩, ⟨au, 0, [.int .i64 0, .slice none 0 0, .bool false, .slice (some ⟨aa, 0, none⟩) 4 4, .slice none 0 0], true⟩] [])) Tryz.call134 tInitProducerIDRequest_1 ((hat.one 5 rfl).move ae.step nilM ae.imm) (g5.move ae.step nilM ae.imm) (Str.of ae 3 rfl) (imm_n 3 rfl) g5l) ?_)
 rintro e_ cU ⟨rfl, ab, ac, bh, bS, bT⟩
 obtain ⟨av, aS, bU⟩ := ae.wrote 3 [⟨b, o, [.int .i16 v, .pointer ((D.f 0).A), .int .i32 ((D.f 1).n), .int .i64 ((D.f 2).n), .int .i16 ((D.f 3).n), .map D.m], false⟩, ⟨b6, 0, [.int .i64 0, .slice none 0 0, .bool false, .slice none 0 0, .slice none 0 0], true⟩, ⟨aa, 0, [.int .i64 af, .slice ak ag.length al, .bool ah, .slice am ai.length ao, .slice ap aj.length ar, .int .i64 (IntKind.i64.wrap ((D.f 1).n)), .slice none 0 0, .bool false, .slice none 0 0, .slice none 0 0, .int .i64 ((D.f 2).n), .slice none 0 0, .bool false, .slice none 0 0, .slice none 0 0, .int .i64 (IntKind.i64.wrap ((D.f 3).n)), .slice none 0 0, .bool false, .slice none 0 0, .slice none 0 0], true⟩, ⟨au, 0, [.int .i64 0, .slice none 0 0, .bool false, .slice (some ⟨aa, 0, none⟩) 4 4, .slice ab D.u.length ac], true⟩] rfl bT bh
 have aT := bS.move (Step.refl _ Nil) nilM (fun b_ o_ h_ hb_ => bU (G := F) b_ o_ (.inr h_) hb_)
 refine ⟨_, rfl, fun cV bV => ?_⟩
 have aU := (EnvOk.places (tb' := [⟨b, o, [.int .i16 v, .pointer ((D.f 0).A), .int .i32 ((D.f 1).n), .int .i64 ((D.f 2).n), .int .i16 ((D.f 3).n), .map D.m], false⟩, ⟨b6, 0, [.int .i64 0, .slice none 0 0, .bool false, .slice none 0 0, .slice none 0 0], true⟩, ⟨aa, 0, [.int .i64 af, .slice ak ag.length al, .bool ah, .slice am ai.length ao, .slice ap aj.length ar, .int .i64 (IntKind.i64.wrap ((D.f 1).n)), .slice none 0 0, .bool false, .slice none 0 0, .slice none 0 0, .int .i64 ((D.f 2).n), .slice none 0 0, .bool false, .slice none 0 0, .slice none 0 0, .int .i64 (IntKind.i64.wrap ((D.f 3).n)), .slice none 0 0, .bool false, .slice none 0 0, .slice none 0 0], true⟩, ⟨au, 0, [.int .i64 0, .slice none 0 0, .bool false, .slice (some ⟨aa, 0, none⟩) 4 4, .slice ab D.u.length ac], true⟩]) bV (show Pl [⟨b, o, [.int .i16 v, .pointer ((D.f 0).A), .int .i32 ((D.f 1).n), .int .i64 ((D.f 2).n), .int .i16 ((D.f 3).n), .map D.m], false⟩, ⟨b6, 0, [.int .i64 0, .slice none 0 0, .bool false, .slice none 0 0, .slice none 0 0], true⟩, ⟨aa, 0, [.int .i64 af, .slice ak ag.length al, .bool ah, .slice am ai.length ao, .slice ap aj.length ar, .int .i64 (IntKind.i64.wrap ((D.f 1).n)), .slice none 0 0, .bool false, .slice none 0 0, .slice none 0 0, .int .i64 ((D.f 2).n), .slice none 0 0, .bool false, .slice none 0 0, .slice none 0 0, .int .i64 (IntKind.i64.wrap ((D.f 3).n)), .slice none 0 0, .bool false, .slice none 0 0, .slice none 0 0], true⟩, ⟨au, 0, [.int .i64 0, .slice none 0 0, .bool false, .slice (some ⟨aa, 0, none⟩) 4 4, .slice none 0 0], true⟩] [⟨b, o, [.int .i16 v, .pointer ((D.f 0).A), .int .i32 ((D.f 1).n), .int .i64 ((D.f 2).n), .int .i16 ((D.f 3).n), .map D.m], false⟩, ⟨b6, 0, [.int .i64 0, .slice none 0 0, .bool false, .slice none 0 0, .slice none 0 0], true⟩, ⟨aa, 0, [.int .i64 af, .slice ak ag.length al, .bool ah, .slice am ai.length ao, .slice ap aj.length ar, .int .i64 (IntKind.i64.wrap ((D.f 1).n)), .slice none 0 0, .bool false, .slice none 0 0, .slice none 0 0, .int .i64 ((D.f 2).n), .slice none 0 0, .bool false, .slice none 0 0, .slice none 0 0, .int .i64 (IntKind.i64.wrap ((D.f 3).n)), .slice none 0 0, .bool false, .slice none 0 0, .slice none 0 0], true⟩, ⟨au, 0, [.int .i64 0, .slice none 0 0, .bool false, .slice (some ⟨aa, 0, none⟩) 4 4, .slice ab D.u.length ac], true⟩] from ⟨rfl, rfl, ⟨rfl, rfl, ⟨rfl, rfl, ⟨rfl, rfl, trivial⟩⟩⟩⟩)).pk (env' := [(44, .v (.tuple #[])), (2, .p 1 0), (3, .p 3 0), (42, .p 0 5), (43, .v (.func (.func 134) #[] #[.pointer (some ⟨au, 0, none⟩)]))])
 clear aR
 refine wpOps_nil (then_normal ?_)
 refine go_seq_region [0, 1, 2] kz ?_
 refine go_rn [0, 1] [2] [(2, .p 1 0), (3, .p 3 0), (46, .v (.slice ab D.u.length ac))] av aU fun cW aV => ?_
 clear aU
 refine of_op (wpOp_call aV (f := 135) (vs := [.slice ab D.u.length ac]) (d := 47) kz Tryz.call135 (tSorted aT g5.sorted) ?_)
 rintro e_ cX ⟨rfl, aW⟩
 refine ⟨_, rfl, fun cY aX => ?_⟩
 have az := av.next_nil aW
 have aw := av.frN aW
 clear aV av
 refine wpOps_nil (then_normal ?_)
 refine go_seq_region [0, 1] kz ?_
 refine go_rn [0] [1] [(2, .p 1 0), (48, .v (.agg #[.int .i64 0, .slice none 0 0, .bool false, .slice (some ⟨aa, 0, none⟩) 4 4, .slice ab D.u.length ac]))] az aX fun cZ aY => ?_
 clear aX
 refine of_op (wpOp_store az aY (oi := 1) (cs := [.int .i64 0, .slice none 0 0, .bool false, .slice (some ⟨aa, 0, none⟩) 4 4, .slice ab D.u.length ac]) kz fun aA ax aZ bW => ?_)
 clear aY az
 refine wpOps_nil (then_normal ?_)
 refine wp_ret ?_
 refine leave bW aZ.cells (v := .agg #[.int .i64 0, .slice none 0 0, .bool false, .slice (some ⟨aa, 0, none⟩) 4 4, .slice ab D.u.length ac]) kz ?_
 exact tell_end (u := D.u) (l := [textT (D.f 0).A (D.f 0).s, .mk (IntKind.i64.wrap (D.f 1).n) [] false [] [], .mk ((D.f 2).n) [] false [] [], .mk (IntKind.i64.wrap (D.f 3).n) [] false [] []]) (css := [[.int .i64 af, .slice ak ag.length al, .bool ah, .slice am ai.length ao, .slice ap aj.length ar], [.int .i64 (IntKind.i64.wrap ((D.f 1).n)), .slice none 0 0, .bool false, .slice none 0 0, .slice none 0 0], [.int .i64 ((D.f 2).n), .slice none 0 0, .bool false, .slice none 0 0, .slice none 0 0], [.int .i64 (IntKind.i64.wrap ((D.f 3).n)), .slice none 0 0, .bool false, .slice none 0 0, .slice none 0 0]]) aZ 2 rfl ⟨(show TreeR _ (Imm F w aA [⟨b, o, [.int .i16 v, .pointer ((D.f 0).A), .int .i32 ((D.f 1).n), .int .i64 ((D.f 2).n), .int .i16 ((D.f 3).n), .map D.m], false⟩, ⟨b6, 0, [.int .i64 0, .slice none 0 0, .bool false, .slice (some ⟨aa, 0, none⟩) 4 4, .slice ab D.u.length ac], true⟩, ⟨aa, 0, [.int .i64 af, .slice ak ag.length al, .bool ah, .slice am ai.length ao, .slice ap aj.length ar, .int .i64 (IntKind.i64.wrap ((D.f 1).n)), .slice none 0 0, .bool false, .slice none 0 0, .slice none 0 0, .int .i64 ((D.f 2).n), .slice none 0 0, .bool false, .slice none 0 0, .slice none 0 0, .int .i64 (IntKind.i64.wrap ((D.f 3).n)), .slice none 0 0, .bool false, .slice none 0 0, .slice none 0 0], true⟩, ⟨au, 0, [.int .i64 0, .slice none 0 0, .bool false, .slice (some ⟨aa, 0, none⟩) 4 4, .slice ab D.u.length ac], true⟩] []) _ _ from (bf.move (((((((((bC.trans bF).trans bL).trans bO).trans aF).trans aI).trans aO).trans aS).trans aw).trans ax).step immM (((((((((bC.trans bF).trans bL).trans bO).trans aF).trans aI).trans aO).trans aS).trans aw).trans ax).to')).move (Step.refl _ Nil) nilM immOut, (show TreeR _ (Imm F w aA [⟨b, o, [.int .i16 v, .pointer ((D.f 0).A), .int .i32 ((D.f 1).n), .int .i64 ((D.f 2).n), .int .i16 ((D.f 3).n), .map D.m], false⟩, ⟨b6, 0, [.int .i64 0, .slice none 0 0, .bool false, .slice (some ⟨aa, 0, none⟩) 4 4, .slice ab D.u.length ac], true⟩, ⟨aa, 0, [.int .i64 af, .slice ak ag.length al, .bool ah, .slice am ai.length ao, .slice ap aj.length ar, .int .i64 (IntKind.i64.wrap ((D.f 1).n)), .slice none 0 0, .bool false, .slice none 0 0, .slice none 0 0, .int .i64 ((D.f 2).n), .slice none 0 0, .bool false, .slice none 0 0, .slice none 0 0, .int .i64 (IntKind.i64.wrap ((D.f 3).n)), .slice none 0 0, .bool false, .slice none 0 0, .slice none 0 0], true⟩, ⟨au, 0, [.int .i64 0, .slice none 0 0, .bool false, .slice (some ⟨aa, 0, none⟩) 4 4, .slice ab D.u.length ac], true⟩] []) _ _ from (TreeR.mk (n := IntKind.i64.wrap ((D.f 1).n)) (b := false) (s := []) (l := []) (u := []) (fun _ => []) (Octs.nil _ _) (Slots.nil _ _ _ _) (fun i_ x_ h_ => by simp at h_) (TagsR.nil _ _))).move (Step.refl _ Nil) nilM immOut, (show TreeR _ (Imm F w aA [⟨b, o, [.int .i16 v, .pointer ((D.f 0).A), .int .i32 ((D.f 1).n), .int .i64 ((D.f 2).n), .int .i16 ((D.f 3).n), .map D.m], false⟩, ⟨b6, 0, [.int .i64 0, .slice none 0 0, .bool false, .slice (some ⟨aa, 0, none⟩) 4 4, .slice ab D.u.length ac], true⟩, ⟨aa, 0, [.int .i64 af, .slice ak ag.length al, .bool ah, .slice am ai.length ao, .slice ap aj.length ar, .int .i64 (IntKind.i64.wrap ((D.f 1).n)), .slice none 0 0, .bool false, .slice none 0 0, .slice none 0 0, .int .i64 ((D.f 2).n), .slice none 0 0, .bool false, .slice none 0 0, .slice none 0 0, .int .i64 (IntKind.i64.wrap ((D.f 3).n)), .slice none 0 0, .bool false, .slice none 0 0, .slice none 0 0], true⟩, ⟨au, 0, [.int .i64 0, .slice none 0 0, .bool false, .slice (some ⟨aa, 0, none⟩) 4 4, .slice ab D.u.length ac], true⟩] []) _ _ from (TreeR.mk (n := (D.f 2).n) (b := false) (s := []) (l := []) (u := []) (fun _ => []) (Octs.nil _ _) (Slots.nil _ _ _ _) (fun i_ x_ h_ => by simp at h_) (TagsR.nil _ _))).move (Step.refl _ Nil) nilM immOut, (show TreeR _ (Imm F w aA [⟨b, o, [.int .i16 v, .pointer ((D.f 0).A), .int .i32 ((D.f 1).n), .int .i64 ((D.f 2).n), .int .i16 ((D.f 3).n), .map D.m], false⟩, ⟨b6, 0, [.int .i64 0, .slice none 0 0, .bool false, .slice (some ⟨aa, 0, none⟩) 4 4, .slice ab D.u.length ac], true⟩, ⟨aa, 0, [.int .i64 af, .slice ak ag.length al, .bool ah, .slice am ai.length ao, .slice ap aj.length ar, .int .i64 (IntKind.i64.wrap ((D.f 1).n)), .slice none 0 0, .bool false, .slice none 0 0, .slice none 0 0, .int .i64 ((D.f 2).n), .slice none 0 0, .bool false, .slice none 0 0, .slice none 0 0, .int .i64 (IntKind.i64.wrap ((D.f 3).n)), .slice none 0 0, .bool false, .slice none 0 0, .slice none 0 0], true⟩, ⟨au, 0, [.int .i64 0, .slice none 0 0, .bool false, .slice (some ⟨aa, 0, none⟩) 4 4, .slice ab D.u.length ac], true⟩] []) _ _ from (TreeR.mk (n := IntKind.i64.wrap ((D.f 3).n)) (b := false) (s := []) (l := []) (u := []) (fun _ => []) (Octs.nil _ _) (Slots.nil _ _ _ _) (fun i_ x_ h_ => by simp at h_) (TagsR.nil _ _))).move (Step.refl _ Nil) nilM immOut, trivial⟩ ((show TagsR _ (Imm F w aA [⟨b, o, [.int .i16 v, .pointer ((D.f 0).A), .int .i32 ((D.f 1).n), .int .i64 ((D.f 2).n), .int .i16 ((D.f 3).n), .map D.m], false⟩, ⟨b6, 0, [.int .i64 0, .slice none 0 0, .bool false, .slice (some ⟨aa, 0, none⟩) 4 4, .slice ab D.u.length ac], true⟩, ⟨aa, 0, [.int .i64 af, .slice ak ag.length al, .bool ah, .slice am ai.length ao, .slice ap aj.length ar, .int .i64 (IntKind.i64.wrap ((D.f 1).n)), .slice none 0 0, .bool false, .slice none 0 0, .slice none 0 0, .int .i64 ((D.f 2).n), .slice none 0 0, .bool false, .slice none 0 0, .slice none 0 0, .int .i64 (IntKind.i64.wrap ((D.f 3).n)), .slice none 0 0, .bool false, .slice none 0 0, .slice none 0 0], true⟩, ⟨au, 0, [.int .i64 0, .slice none 0 0, .bool false, .slice (some ⟨aa, 0, none⟩) 4 4, .slice ab D.u.length ac], true⟩] []) _ _ _ from (aT.move (aw.trans ax).step immM (aw.trans ax).to')).move (Step.refl _ Nil) nilM immOut)
end Go.Proofs.YtnhgfbgdoelfoaaGreatDoor.ME
namespace Go.Proofs.YtnhgfbgdoelfoaaGreatDoor.ME
open Go
open Go.RowKit
set_option linter.unusedVariables false
set_option linter.unusedSimpArgs false
theorem n8w (x : Int) : IntKind.i8.wrap x = (x + 128) % 256 - 128 := by simp [IntKind.wrap, IntKind.signed, IntKind.bits]; omega
theorem n16w (x : Int) : IntKind.i16.wrap x = (x + 32768) % 65536 - 32768 := by simp [IntKind.wrap, IntKind.signed, IntKind.bits]; omega
theorem n32w (x : Int) : IntKind.i32.wrap x = (x + 2147483648) % 4294967296 - 2147483648 := by simp [IntKind.wrap, IntKind.signed, IntKind.bits]; omega
theorem n64w (x : Int) : IntKind.i64.wrap x = (x + 9223372036854775808) % 18446744073709551616 - 9223372036854775808 := by simp [IntKind.wrap, IntKind.signed, IntKind.bits]; omega
theorem n64_8 (x : Int) : IntKind.i64.wrap (IntKind.i8.wrap x) = IntKind.i8.wrap x := by rw [n64w, n8w]; omega
theorem n64_16 (x : Int) : IntKind.i64.wrap (IntKind.i16.wrap x) = IntKind.i16.wrap x := by rw [n64w, n16w]; omega
theorem n64_32 (x : Int) : IntKind.i64.wrap (IntKind.i32.wrap x) = IntKind.i32.wrap x := by rw [n64w, n32w]; omega
theorem n64_u16 (x : Int) : IntKind.i64.wrap (IntKind.u16.wrap x) = IntKind.u16.wrap x := by rw [n64w, wrap_u16]; omega
def numberI (k n : Int) : Int := if k = 0 then n % 2 else if k = 1 then IntKind.i8.wrap n else if k = 2 then IntKind.i16.wrap n else if k = 3 then IntKind.i32.wrap n else if k = 5 then IntKind.u16.wrap n else n
structure UsQ (U : List Fld → Tree → Prop) (k x1 x2 x3 x4 x5 x6 : Int) (sub : List Fld) (n : Int) (s : Bs) (b : Bool) (l : List Tree) (u : List (Int × Bs)) : Prop where
 text : k = 8 → b = decide (x3 ≥ 0) ∧ s = []
 uuid : k = 7 → s = List.replicate 16 0
 octs : k = 9 ∨ k = 11 → s = [] ∧ l = []
 part : k = 10 → (x3 ≥ 0 → b = true) ∧ (x3 < 0 → U sub (.mk n s b l u))
 num : k ≠ 7 → k ≠ 8 → k ≠ 9 → k ≠ 10 → k ≠ 11 → n = numberI k x5
def UsF (U : List Fld → Tree → Prop) : Fld → Tree → Prop
 | .mk k x1 x2 x3 x4 x5 x6 sub, .mk n s b l u => UsQ U k x1 x2 x3 x4 x5 x6 sub n s b l u
def UsP (U : List Fld → Tree → Prop) (l : List Fld) (g : Tree) : Prop := g.U = [] ∧ ∀ (i : Nat) (f : Fld), l[i]? = some f → UsF U f (g.at_ i)
def UsualP : Nat → List Fld → Tree → Prop
 | 0 => UsP fun _ _ => False
 | d + 1 => UsP (UsualP d)
structure ToQ (T : List Fld → Tree → Tree → Prop) (v : Int) (f : Fld) (k x3 : Int) (sub : List Fld) (t : Tree) (tn : Int) (ts : Bs) (n : Int) (s : Bs) (b : Bool) (g : Tree) : Prop where
 null : k = 8 ∨ k = 10 ∨ (x3 ≥ 0 ∧ v ≥ x3) → b = f.nul v t
 text : f.nul v t = false → k = 8 ∨ k = 9 → s = whole ts
 uuid : f.nul v t = false → k = 7 → s = uuidB ts
 part : f.nul v t = false → k = 10 → T sub t g
 num : f.nul v t = false → k ≠ 7 → k ≠ 8 → k ≠ 9 → k ≠ 10 → k ≠ 11 → n = numberI k tn
def ToF0 (T : List Fld → Tree → Tree → Prop) (v : Int) : Fld → Tree → Tree → Prop
 | .mk k x1 x2 x3 x4 x5 x6 sub, .mk tn ts tb tl tu, .mk n s b l u => ToQ T v (.mk k x1 x2 x3 x4 x5 x6 sub) k x3 sub (.mk tn ts tb tl tu) tn ts n s b (.mk n s b l u)
def ToF (T : List Fld → Tree → Tree → Prop) (v : Int) (f : Fld) (t g : Tree) : Prop :=
 ToF0 T v f t g ∧ (f.kind = 11 → f.nul v t = false → g.L.length = (things t.L).length ∧ ∀ (i : Nat) (x y : Tree), (things t.L)[i]? = some x → g.L[i]? = some y → ToF0 T v f.elem x y)
def Fld.pres (f : Fld) (v : Int) (flex : Bool) (x : Tree) : Bool := (decide (f.tag < 0) && f.has v) || (decide (f.tag ≥ 0) && (flex && !f.usual x))
def ToP (T : List Fld → Tree → Tree → Prop) (U : List Fld → Tree → Prop) (l : List Fld) (v : Int) (flex : Bool) (t g : Tree) : Prop :=
 g.L.length = l.length ∧ (∀ (i : Nat) (f : Fld) (y : Tree), l[i]? = some f → g.L[i]? = some y → (f.pres v flex (t.at_ i) = true → ToF T v f (t.at_ i) y) ∧ (f.pres v flex (t.at_ i) = false → UsF U f y)) ∧
  g.U = (if flex = true then wholeU (unknownT l t.U) else [])
def ToldP (v : Int) (flex : Bool) : Nat → List Fld → Tree → Tree → Prop
 | 0 => fun l t g => ToP (fun _ _ _ => False) (fun _ _ => False) l v flex t g
 | d + 1 => fun l t g => ToP (ToldP v flex d) (UsualP d) l v flex t g
theorem us_one {U : List Fld → Tree → Prop} {f : Fld} {y : Tree} (h : UsF U f y) : UsP U [f] (.mk 0 [] false [y] []) := by
 refine ⟨rfl, fun i g hg => ?_⟩
 cases i with
 | zero =>
  simp only [List.getElem?_cons_zero, Option.some.injEq] at hg
  subst hg
  exact h
 | succ i => simp at hg
theorem octs_zero {w : World} {e : Nat} {A : Option Addr} {c : Nat} {F : Nat → Nat → Prop} (h : w.ownsRow 0 e 1 (.slice A 16 c) 16 (List.replicate 16 (.int .u8 0))) (hF : ∀ g, A.map (·.block) = some g → ∀ o, F g o) : Octs w F A c (List.replicate 16 0) :=
 octs_own (s := List.replicate 16 0) h (by decide) hF
section
variable {U : List Fld → Tree → Prop} {k x1 x2 x3 x4 x5 x6 n : Int} {sub : List Fld} {s : Bs} {b : Bool} {l : List Tree} {u : List (Int × Bs)}
abbrev UsH (U : List Fld → Tree → Prop) (k x1 x2 x3 x4 x5 x6 : Int) (sub : List Fld) (n : Int) (s : Bs) (b : Bool) (l : List Tree) (u : List (Int × Bs)) : Prop := UsF U (.mk k x1 x2 x3 x4 x5 x6 sub) (.mk n s b l u)
theorem us_q (h : UsH U k x1 x2 x3 x4 x5 x6 sub n s b l u) : UsQ U k x1 x2 x3 x4 x5 x6 sub n s b l u := h
theorem us_8a (h : UsH U k x1 x2 x3 x4 x5 x6 sub n s b l u) (hk : k = 8) (hc : (b != decide (x3 ≥ 0)) = true) : False := by
 have := ((us_q h).text hk).1
 rw [this] at hc; simp at hc
theorem us_8b (h : UsH U k x1 x2 x3 x4 x5 x6 sub n s b l u) (hk : k = 8) (hc : ((s.length : Nat) : Int) > 0) : False := by
 have := ((us_q h).text hk).2
 rw [this] at hc; simp at hc
theorem us_7 (h : UsH U k x1 x2 x3 x4 x5 x6 sub n s b l u) (hk : k = 7) (hc : (!decide (s = (List.replicate 16 0 : Bs))) = true) : False := by
 have := (us_q h).uuid hk
 rw [this] at hc; simp at hc
theorem us_9a (h : UsH U k x1 x2 x3 x4 x5 x6 sub n s b l u) (hk : k = 9) (hc : ((s.length : Nat) : Int) > 0) : False := by
 have := ((us_q h).octs (.inl hk)).1
 rw [this] at hc; simp at hc
theorem us_9b (h : UsH U k x1 x2 x3 x4 x5 x6 sub n s b l u) (hk : k = 9) (hc : ((l.length : Nat) : Int) > 0) : False := by
 have := ((us_q h).octs (.inl hk)).2
 rw [this] at hc; simp at hc
theorem us_11a (h : UsH U k x1 x2 x3 x4 x5 x6 sub n s b l u) (hk : k = 11) (hc : ((s.length : Nat) : Int) > 0) : False := by
 have := ((us_q h).octs (.inr hk)).1
 rw [this] at hc; simp at hc
theorem us_11b (h : UsH U k x1 x2 x3 x4 x5 x6 sub n s b l u) (hk : k = 11) (hc : ((l.length : Nat) : Int) > 0) : False := by
 have := ((us_q h).octs (.inr hk)).2
 rw [this] at hc; simp at hc
theorem us_10 (h : UsH U k x1 x2 x3 x4 x5 x6 sub n s b l u) (hk : k = 10) (h3 : x3 ≥ 0) (hc : (!b) = true) : False := by
 have := ((us_q h).part hk).1 h3
 rw [this] at hc; simp at hc
theorem us_sub (h : UsH U k x1 x2 x3 x4 x5 x6 sub n s b l u) (hk : k = 10) (h3 : x3 < 0) : U sub (.mk n s b l u) := ((us_q h).part hk).2 h3
theorem us_n (h : UsH U k x1 x2 x3 x4 x5 x6 sub n s b l u) (h7 : k ≠ 7) (h8 : k ≠ 8) (h9 : k ≠ 9) (h10 : k ≠ 10) (h11 : k ≠ 11) (hc : n ≠ numberI k x5) : False := hc ((us_q h).num h7 h8 h9 h10 h11)
theorem us_u {g : Tree} (h : g.U = []) {u : List (Int × Bs)} (e : g.U = u) (hc : ((u.length : Nat) : Int) > 0) : False := by
 rw [← e, h] at hc; simp at hc
end
section
variable {T : List Fld → Tree → Tree → Prop} {v k x1 x2 x3 x4 x5 x6 tn n : Int} {sub : List Fld} {ts s : Bs} {tb b : Bool} {tl l : List Tree} {tu u : List (Int × Bs)}
abbrev ToH (T : List Fld → Tree → Tree → Prop) (v k x1 x2 x3 x4 x5 x6 : Int) (sub : List Fld) (tn : Int) (ts : Bs) (tb : Bool) (tl : List Tree) (tu : List (Int × Bs)) (n : Int) (s : Bs) (b : Bool) (l : List Tree) (u : List (Int × Bs)) : Prop := ToF0 T v (.mk k x1 x2 x3 x4 x5 x6 sub) (.mk tn ts tb tl tu) (.mk n s b l u)
abbrev NulH (v k x1 x2 x3 x4 x5 x6 : Int) (sub : List Fld) (tn : Int) (ts : Bs) (tb : Bool) (tl : List Tree) (tu : List (Int × Bs)) : Bool := Fld.nul (.mk k x1 x2 x3 x4 x5 x6 sub) v (.mk tn ts tb tl tu)
theorem to_q (h : ToH T v k x1 x2 x3 x4 x5 x6 sub tn ts tb tl tu n s b l u) : ToQ T v (.mk k x1 x2 x3 x4 x5 x6 sub) k x3 sub (.mk tn ts tb tl tu) tn ts n s b (.mk n s b l u) := h
theorem to_n8 (h : ToH T v k x1 x2 x3 x4 x5 x6 sub tn ts tb tl tu n s b l u) (hk : k = 8) (hc : (b != NulH v k x1 x2 x3 x4 x5 x6 sub tn ts tb tl tu) = true) : False := by
 rw [(to_q h).null (.inl hk)] at hc; simp at hc
theorem to_n10 (h : ToH T v k x1 x2 x3 x4 x5 x6 sub tn ts tb tl tu n s b l u) (hk : k = 10) (hc : (b != NulH v k x1 x2 x3 x4 x5 x6 sub tn ts tb tl tu) = true) : False := by
 rw [(to_q h).null (.inr (.inl hk))] at hc; simp at hc
theorem to_nm (h : ToH T v k x1 x2 x3 x4 x5 x6 sub tn ts tb tl tu n s b l u) (h1 : x3 ≥ 0) (h2 : v ≥ x3) (hc : (b != NulH v k x1 x2 x3 x4 x5 x6 sub tn ts tb tl tu) = true) : False := by
 rw [(to_q h).null (.inr (.inr ⟨h1, h2⟩))] at hc; simp at hc
theorem to_part (h : ToH T v k x1 x2 x3 x4 x5 x6 sub tn ts tb tl tu n s b l u) (hn : NulH v k x1 x2 x3 x4 x5 x6 sub tn ts tb tl tu = false) (hk : k = 10) : T sub (.mk tn ts tb tl tu) (.mk n s b l u) := (to_q h).part hn hk
theorem to_t8 (h : ToH T v k x1 x2 x3 x4 x5 x6 sub tn ts tb tl tu n s b l u) (hn : NulH v k x1 x2 x3 x4 x5 x6 sub tn ts tb tl tu = false) (hk : k = 8) : decide (s = whole ts) = true := decide_eq_true ((to_q h).text hn (.inl hk))
theorem to_t9 (h : ToH T v k x1 x2 x3 x4 x5 x6 sub tn ts tb tl tu n s b l u) (hn : NulH v k x1 x2 x3 x4 x5 x6 sub tn ts tb tl tu = false) (hk : k = 9) : decide (s = whole ts) = true := decide_eq_true ((to_q h).text hn (.inr hk))
theorem to_u (h : ToH T v k x1 x2 x3 x4 x5 x6 sub tn ts tb tl tu n s b l u) (hn : NulH v k x1 x2 x3 x4 x5 x6 sub tn ts tb tl tu = false) (hk : k = 7) : decide (s = uuidB ts) = true := decide_eq_true ((to_q h).uuid hn hk)
theorem to_m (h : ToH T v k x1 x2 x3 x4 x5 x6 sub tn ts tb tl tu n s b l u) (hn : NulH v k x1 x2 x3 x4 x5 x6 sub tn ts tb tl tu = false) (h8 : k ≠ 8) (h9 : k ≠ 9) (h7 : k ≠ 7) (h10 : k ≠ 10) (h11 : k ≠ 11) : (n == numberI k tn) = true := by
 rw [(to_q h).num hn h7 h8 h9 h10 h11]; simp
theorem to_len {a c : Nat} (h : a = c) (hc : ((a : Nat) : Int) ≠ ((c : Nat) : Int)) : False := hc (by rw [h])
end
theorem anyC_two {P : Program} {ops : Array Oper} {Q : Exit → Act → World → Prop} {a : Act} {w : World} {T : World → Prop} {c i j fuel : Nat} {listed : Array Bool} (hr : Region.ready .any ops listed = [i, j]) (h : wpOp P ops Q i (fun a' w' => (i ≠ c → T w') ∧ wpAnyC P ops Q T c fuel (listed.setIfInBounds i true) a' w') a w)
  (h' : wpOp P ops Q j (fun a' w' => (j ≠ c → T w') ∧ wpAnyC P ops Q T c fuel (listed.setIfInBounds j true) a' w') a w) : wpAnyC P ops Q T c (fuel + 1) listed a w := by
 refine ⟨fun h0 => (by rw [hr] at h0; cases h0), fun q hq => ?_⟩
 rw [hr] at hq
 simp only [List.mem_cons, List.not_mem_nil, or_false] at hq
 rcases hq with rfl | rfl
 ·exact h
 ·exact h'
theorem pres_a {k x1 x2 x3 x4 x5 x6 v : Int} {sub : List Fld} {flex : Bool} {x : Tree} (h : x4 < 0) (h2 : Fld.has (.mk k x1 x2 x3 x4 x5 x6 sub) v = true) : Fld.pres (.mk k x1 x2 x3 x4 x5 x6 sub) v flex x = true := by
 simp [Fld.pres, Fld.tag, h, h2]
theorem pres_b {k x1 x2 x3 x4 x5 x6 v : Int} {sub : List Fld} {flex : Bool} {x : Tree} (h : x4 ≥ 0) (h2 : flex = true) (h3 : (!Fld.usual (.mk k x1 x2 x3 x4 x5 x6 sub) x) = true) : Fld.pres (.mk k x1 x2 x3 x4 x5 x6 sub) v flex x = true := by
 subst h2
 simp only [Bool.not_eq_true'] at h3
 simp [Fld.pres, Fld.tag, h, h3]
theorem pres_c {k x1 x2 x3 x4 x5 x6 v : Int} {sub : List Fld} {flex : Bool} {x : Tree} (h : x4 < 0) (h2 : Fld.has (.mk k x1 x2 x3 x4 x5 x6 sub) v = false) : Fld.pres (.mk k x1 x2 x3 x4 x5 x6 sub) v flex x = false := by
 have : ¬ x4 ≥ 0 := by omega
 simp [Fld.pres, Fld.tag, h2, this]
theorem pres_d {k x1 x2 x3 x4 x5 x6 v : Int} {sub : List Fld} {flex : Bool} {x : Tree} (h : ¬ x4 < 0) (h2 : flex = false) : Fld.pres (.mk k x1 x2 x3 x4 x5 x6 sub) v flex x = false := by
 subst h2
 simp [Fld.pres, Fld.tag, h]
theorem pres_e {k x1 x2 x3 x4 x5 x6 v : Int} {sub : List Fld} {flex : Bool} {x : Tree} (h : ¬ x4 < 0) (h3 : (!Fld.usual (.mk k x1 x2 x3 x4 x5 x6 sub) x) = false) : Fld.pres (.mk k x1 x2 x3 x4 x5 x6 sub) v flex x = false := by
 simp only [Bool.not_eq_false'] at h3
 simp [Fld.pres, Fld.tag, h, h3]
theorem pres_f {k x1 x2 x3 x4 x5 x6 v : Int} {sub : List Fld} {flex : Bool} {x : Tree} (h : ¬ x4 < 0) (h2 : flex = true) : Fld.pres (.mk k x1 x2 x3 x4 x5 x6 sub) v flex x = !Fld.usual (.mk k x1 x2 x3 x4 x5 x6 sub) x := by
 subst h2
 have : x4 ≥ 0 := by omega
 simp [Fld.pres, Fld.tag, h, this]
theorem pres_g {k x1 x2 x3 x4 x5 x6 v : Int} {sub : List Fld} {flex : Bool} {x : Tree} (h : x4 < 0) : Fld.pres (.mk k x1 x2 x3 x4 x5 x6 sub) v flex x = Fld.has (.mk k x1 x2 x3 x4 x5 x6 sub) v := by
 have : ¬ x4 ≥ 0 := by omega
 simp [Fld.pres, Fld.tag, h, this]
section
variable {w : World} {F : Nat → Nat → Prop}
theorem at_own {e size b c : Nat} {xs : List Value} {n : Nat} (h : w.ownsRow 0 e size (.slice (some ⟨b, 0, none⟩) n c) n xs) : AtF w (fun _ _ => True) b 0 xs := fun j v hj => ⟨trivial, by
 have := h.cells (g := b) rfl j v hj
 rw [add_none] at this
 exact this⟩
theorem flds_one {e b c : Nat} {cf : List Value} {f : Fld} (h : w.ownsRow 0 e 8 (.slice (some ⟨b, 0, none⟩) 1 c) 1 cf) (hf : FldR w F cf f) (hc : 1 ≤ c) : FldsR w (fun _ _ => True) (some ⟨b, 0, none⟩) c [f] := by
 refine ⟨fun _ => cf, ⟨hc, (by show 1 ≤ 1099511627776; decide), fun h => (by cases h), fun ad hA _ => ?_⟩, fun i x hx => ?_⟩
 ·obtain rfl := Option.some.inj hA
  refine ⟨b, 0, rfl, fun i hi => ⟨hf.eight, ?_⟩⟩
  have : i = 0 := by simp at hi; omega
  subst this
  simpa using at_own h
 ·cases i with
  | zero =>
   simp only [List.getElem?_cons_zero, Option.some.injEq] at hx
   subst hx
   exact hf.move (Step.refl _ Nil) nilM fun _ _ _ _ => trivial
  | succ i => simp at hx
theorem tree_one {e b c : Nat} {cy : List Value} {y : Tree} (h : w.ownsRow 0 e 5 (.slice (some ⟨b, 0, none⟩) 1 c) 1 cy) (hy : TreeR w F cy y) (hc : 1 ≤ c) : TreeR w (fun _ _ => True) [.int .i64 0, .slice none 0 0, .bool false, .slice (some ⟨b, 0, none⟩) 1 c, .slice none 0 0] (.mk 0 [] false [y] []) := by
 refine TreeR.mk (l := [y]) (s := []) (u := []) (fun _ => cy) (Octs.nil _ _) ⟨hc, (by show 1 ≤ 1099511627776; decide), fun h => (by cases h), fun ad hA _ => ?_⟩ (fun i x hx => ?_) (TagsR.nil _ _)
 ·obtain rfl := Option.some.inj hA
  refine ⟨b, 0, rfl, fun i hi => ⟨hy.five, ?_⟩⟩
  have : i = 0 := by simp at hi; omega
  subst this
  simpa using at_own h
 ·cases i with
  | zero =>
   simp only [List.getElem?_cons_zero, Option.some.injEq] at hx
   subst hx
   exact hy.move (Step.refl _ Nil) nilM fun _ _ _ _ => trivial
  | succ i => simp at hx
end
section
variable {gu tu : List (Int × Bs)} {l : List Fld} {flex : Bool} {i : Nat} {k k' : Int} {s s' : Bs}
theorem told_len (h : gu = if flex = true then wholeU (unknownT l tu) else []) (hf : (!flex) = false) (hc : ((gu.length : Nat) : Int) ≠ (((unknownT l tu).length : Nat) : Int)) : False := by
 cases flex
 ·cases hf
 ·rw [if_pos rfl] at h
  rw [h, wholeU_len] at hc
  exact hc rfl
theorem told_len0 (h : gu = if flex = true then wholeU (unknownT l tu) else []) (hf : (!flex) = true) (hc : ((gu.length : Nat) : Int) ≠ 0) : False := by
 cases flex
 ·rw [if_neg (by decide)] at h
  rw [h] at hc
  exact hc rfl
 ·cases hf
theorem told_at (h : gu = if flex = true then wholeU (unknownT l tu) else []) (hf : (!flex) = false) (hu : (unknownT l tu)[i]? = some (k, s)) (hg : gu[i]? = some (k', s')) : k' = k ∧ s' = whole s := by
 cases flex
 ·cases hf
 ·rw [if_pos rfl] at h
  rw [h, wholeU_get hu] at hg
  have := Option.some.inj hg
  exact ⟨(Prod.mk.injEq .. ▸ this).1.symm, (Prod.mk.injEq .. ▸ this).2.symm⟩
theorem told_key (h : gu = if flex = true then wholeU (unknownT l tu) else []) (hf : (!flex) = false) (hu : (unknownT l tu)[i]? = some (k, s)) (hg : gu[i]? = some (k', s')) (hc : k' ≠ k) : False := hc (told_at h hf hu hg).1
theorem told_val (h : gu = if flex = true then wholeU (unknownT l tu) else []) (hf : (!flex) = false) (hu : (unknownT l tu)[i]? = some (k, s)) (hg : gu[i]? = some (k', s')) (hc : (!decide (s' = whole s)) = true) : False := by
 rw [(told_at h hf hu hg).2] at hc; simp at hc
theorem told_idx (h : gu = if flex = true then wholeU (unknownT l tu) else []) (hf : (!flex) = false) : gu.length = (unknownT l tu).length := by
 cases flex
 ·cases hf
 ·rw [if_pos rfl] at h
  rw [h, wholeU_len]
end
end Go.Proofs.YtnhgfbgdoelfoaaGreatDoor.ME
namespace Go.Proofs.YtnhgfbgdoelfoaaGreatDoor.ME
open Go
set_option linter.unusedVariables false
set_option linter.unusedSimpArgs false
theorem i64wN {x : Int} (h : -9223372036854775808 ≤ x ∧ x ≤ 9223372036854775807) : IntKind.i64.wrap x = x := by rw [n64w]; omega
theorem i64_N {t : Tree} (h : t.i64s) : IntKind.i64.wrap t.N = t.N := by
 cases t
 exact i64wN h.1
theorem i64_at {t : Tree} (h : t.i64s) (i : Nat) : (t.at_ i).i64s := by
 cases t with
 | mk n s b l u =>
  have h1 : ∀ x ∈ l, x.i64s := i64ss_mem h.2
  show (l.getD i .zero).i64s
  rw [List.getD_eq_getElem?_getD]
  cases hx : l[i]? with
  | none => exact ⟨by decide, trivial⟩
  | some x => exact h1 x (List.mem_of_getElem? hx)
theorem pres_has {k x1 x2 x3 x5 x6 v : Int} {s : List Fld} {flex : Bool} {x : Tree} : Fld.pres (.mk k x1 x2 x3 (-1) x5 x6 s) v flex x = (decide (x1 ≤ v) && (decide (x2 < 0) || decide (v ≤ x2))) := by simp [Fld.pres, Fld.tag, Fld.has]
section
variable {T : List Fld → Tree → Tree → Prop} {U : List Fld → Tree → Prop} {v k x1 x2 x3 x4 x5 x6 n : Int} {sub : List Fld} {x T' : Tree} {A : Option Addr} {s : ByteArray} {o : Bs} {b : Bool}
theorem to0_num (hn : n = numberI k x.N) (hk : k < 7 := by decide) : ToF0 T v (.mk k x1 x2 (-1) x4 x5 x6 sub) x (.mk n [] false [] []) := by
 cases x
 exact ⟨fun h => by omega, fun _ h => by omega, fun _ h => by omega, fun _ h => by omega, fun _ _ _ _ _ _ => hn⟩
theorem to_num (hn : n = numberI k x.N) (hk : k < 7 := by decide) : ToF T v (.mk k x1 x2 (-1) x4 x5 x6 sub) x (.mk n [] false [] []) := ⟨to0_num hn hk, fun h => absurd (show k = 11 from h) (by omega)⟩
theorem to0_text (hs : o = whole x.S) : ToF0 T v (.mk 8 x1 x2 (-1) x4 x5 x6 sub) x (.mk 0 o false [] []) := by
 cases x with
 | mk a1 a2 a3 a4 a5 =>
  exact ⟨fun _ => nul_no.symm, fun _ _ => hs, fun _ h => by omega, fun _ h => by omega, fun _ _ h => absurd rfl h⟩
theorem to_textN (h : s = bs (octOf T') ∧ A.isNone = T'.null) (h1 : octOf T' = (if Fld.nul (.mk 8 x1 x2 x3 x4 x5 x6 sub) v x = true then [] else whole x.S) ∧ T'.null = Fld.nul (.mk 8 x1 x2 x3 x4 x5 x6 sub) v x) : ToF T v (.mk 8 x1 x2 x3 x4 x5 x6 sub) x (textT A s) := by
 refine ⟨?_, fun h => absurd (show (8 : Int) = 11 from h) (by decide)⟩
 have e : textT A s = .mk 0 (if Fld.nul (.mk 8 x1 x2 x3 x4 x5 x6 sub) v x = true then [] else whole x.S) (Fld.nul (.mk 8 x1 x2 x3 x4 x5 x6 sub) v x) [] [] := by
  unfold textT
  rw [h.2, h1.2, h.1, sb_bs, h1.1]
  split <;> rfl
 rw [e]
 cases x with
 | mk a1 a2 a3 a4 a5 =>
  exact ⟨fun _ => rfl, fun hn _ => by rw [if_neg (by rw [hn]; decide)]; rfl, fun _ h => by omega, fun _ h => by omega, fun _ _ h => absurd rfl h⟩
theorem us_num' (hn : n = numberI k x5) (hk : k < 7 := by decide) : UsF U (.mk k x1 x2 x3 x4 x5 x6 sub) (.mk n [] false [] []) := ⟨fun h => by omega, fun h => by omega, fun h => by omega, fun h => by omega, fun _ _ _ _ _ => hn⟩
end
end Go.Proofs.YtnhgfbgdoelfoaaGreatDoor.ME
namespace Go.Proofs.YtnhgfbgdoelfoaaGreatDoor.ME
open Go
open Go.RowKit
set_option linter.unusedVariables false
set_option linter.unusedSimpArgs false
set_option maxRecDepth 20000
theorem toldInitProducerIDRequest (v : Int) (h0 : 0 ≤ v) (t Y : Tree) (hY : ∀ i, Y.at_ i = (fitT v 8 sInitProducerIDRequestF t).at_ i) (hU : Y.U = (fitT v 8 sInitProducerIDRequestF t).U) (hi : t.i64s) (D : DV) (h : rvInitProducerIDRequest v D Y) : ToldP v (decide (v ≥ sInitProducerIDRequestX)) 8 sInitProducerIDRequestF t (trInitProducerIDRequest D) := by
 unfold rvInitProducerIDRequest at h
 obtain ⟨r0, r1, r2, r3, rU, _⟩ := h
 refine ⟨rfl, fun i f y hf hy => ?_, ?_⟩
 ·match i, hf, hy with
  | 0, hf, hy =>
   obtain rfl := Option.some.inj hf
   obtain rfl := Option.some.inj hy
   have e := hY 0
   refine ⟨fun hp => ?_, fun hp => ?_⟩
   ·have hc : True := trivial
    have r := r0
    rw [e] at r
    exact to_textN r (fit_o (v := v) (d := 7) (t := t) (show sInitProducerIDRequestF[0]? = _ from rfl) (by decide))
   ·rw [pres_has] at hp; simp at hp; omega
  | 1, hf, hy =>
   obtain rfl := Option.some.inj hf
   obtain rfl := Option.some.inj hy
   have e := hY 1
   refine ⟨fun hp => ?_, fun hp => ?_⟩
   ·have hc : True := trivial
    have r := r1
    rw [e] at r
    rw [(fit_N (v := v) (d := 7) (t := t) (show sInitProducerIDRequestF[1]? = _ from rfl) (by decide))] at r
    exact to_num (by rw [r, n64_32]; rfl)
   ·rw [pres_has] at hp; simp at hp; omega
  | 2, hf, hy =>
   obtain rfl := Option.some.inj hf
   obtain rfl := Option.some.inj hy
   have e := hY 2
   refine ⟨fun hp => ?_, fun hp => ?_⟩
   ·have hc : (decide (v ≥ 3)) = true := by rw [pres_has] at hp; simp at hp ⊢; try omega
    have r := (r2.1 hc)
    rw [e] at r
    rw [(fit_N (v := v) (d := 7) (t := t) (show sInitProducerIDRequestF[2]? = _ from rfl) (by decide))] at r
    exact to_num (by rw [r, i64_N (i64_at hi 2)]; rfl)
   ·have hc : (decide (v ≥ 3)) = false := by rw [pres_has] at hp; simp at hp ⊢; try omega
    have r := (r2.2 hc)
    exact us_num' (by rw [r]; first | rfl | decide)
  | 3, hf, hy =>
   obtain rfl := Option.some.inj hf
   obtain rfl := Option.some.inj hy
   have e := hY 3
   refine ⟨fun hp => ?_, fun hp => ?_⟩
   ·have hc : (decide (v ≥ 3)) = true := by rw [pres_has] at hp; simp at hp ⊢; try omega
    have r := (r3.1 hc)
    rw [e] at r
    rw [(fit_N (v := v) (d := 7) (t := t) (show sInitProducerIDRequestF[3]? = _ from rfl) (by decide))] at r
    exact to_num (by rw [r, n64_16]; rfl)
   ·have hc : (decide (v ≥ 3)) = false := by rw [pres_has] at hp; simp at hp ⊢; try omega
    have r := (r3.2 hc)
    exact us_num' (by rw [r]; first | rfl | decide)
  | n_ + 4, hf, hy => exact absurd (List.getElem?_eq_some_iff.1 hf).1 (by show ¬ n_ + 4 < 4; omega)
 ·show D.u = if (decide (v ≥ sInitProducerIDRequestX)) = true then wholeU (unknownT sInitProducerIDRequestF t.U) else []
  by_cases hc : (decide (v ≥ 2)) = true
  ·rw [if_pos (show (decide (v ≥ sInitProducerIDRequestX)) = true from hc), rU.1 hc, hU, fit_U]
  ·rw [if_neg (show ¬ (decide (v ≥ sInitProducerIDRequestX)) = true from hc), rU.2 (by simpa using hc)]
theorem tzInitProducerIDRequest (v : Int) (T : Tree) {A2 : Option Addr} {c2 : Nat} {w : World} {F : Nat → Nat → Prop} (hs_ : Octs w F A2 c2 (tInitProducerIDRequest (IntKind.i16.wrap v) T)) (hc : canInitProducerIDRequest T) (hkey : T.ranged) (hroom : (tInitProducerIDRequest (IntKind.i16.wrap v) T).length + 16 ≤ 1099511627776) :
  Calls Tryz.prog 34 #[.int .i64 v, .slice A2 (tInitProducerIDRequest (IntKind.i16.wrap v) T).length c2] w (fun e w' => ∃ D cs, e = .returned (.tuple #[.agg cs.toArray, .bool true]) ∧ TreeR w' (Fp NoF w) cs (trInitProducerIDRequest D) ∧ rvInitProducerIDRequest (IntKind.i16.wrap v) D T ∧ Step w w' Nil) := by
 refine enter (n := 20) Tryz.func34 rfl Tryz.ntmps34 kz fun a hE => ?_
 have hW := WOk.start w Nil
 have hsm2 := Slots.small hs_
 refine go_seq_region [0, 1] kz ?_
 refine of_op (wpOp_alloc hW hE (d := 4) (cs := [.int .i64 0, .slice none 0 0, .bool false, .slice none 0 0, .slice none 0 0]) kz fun b1 a2 w3 hb4 hz5 hF6 hW7 hE8 => ?_)
 clear hE hW
 refine go_rn [1] [] [(0, .v (.int .i64 v)), (1, .v (.slice A2 ((tInitProducerIDRequest (IntKind.i16.wrap v) T).length) c2)), (4, .p 0 0)] hW7 hE8 fun a9 bG => ?_
 clear hE8
 refine wpOps_nil (then_normal ?_)
 refine go_seq_region [0, 1] kz ?_
 refine of_op (wpOp_inline bG (f := 77) (vs := []) (d := 7) (n' := 3) kz Tryz.call77 Tryz.func77 rfl Tryz.ntmps77 kz fun cU aS => ?_)
 refine go_sp [] hW7 aS fun cV aT => ?_
 clear aS
 refine go_seq_region [0] kz ?_
 refine of_op (wpOp_alloc hW7 aT (d := 1) (cs := [.int .i16 0, .pointer none, .int .i32 0, .int .i64 0, .int .i16 0, .map none]) kz fun aa cW cX cz cA cB aE bH => ?_)
 clear aT hW7
 refine wpOps_nil (then_normal ?_)
 refine go_seq_region [0] kz ?_
 refine of_op (wpOp_inline bH (f := 130) (vs := [.pointer (some ⟨aa, 0, none⟩)]) (d := 2) (n' := 8) kz Tryz.call130 Tryz.func130 rfl Tryz.ntmps130 kz fun cY bI => ?_)
 have aU := bI.recast 0 (.v (.pointer (some ⟨aa, 0, none⟩))) (.p 1 0) rfl rfl (Nat.le_of_ble_eq_true (n := 2) rfl)
 refine go_seq_region [0, 1, 2, 3] kz ?_
 refine go_rn [0, 1, 2] [3] [(0, .p 1 0), (4, .p 1 3)] aE aU fun cZ aV => ?_
 clear aU
 refine of_op (wpOp_store aE aV (oi := 1) (cs := [.int .i16 0, .pointer none, .int .i32 0, .int .i64 (-1), .int .i16 0, .map none]) kz fun c5 cC aF aW => ?_)
 clear aV aE
 refine wpOps_nil (then_normal ?_)
 refine go_region [0, 1, 2, 3] kz ?_
 refine go_rn [0, 1, 2] [3] [(7, .p 1 4)] aF aW fun da aX => ?_
 clear aW
 refine of_op (wpOp_store aF aX (oi := 1) (cs := [.int .i16 0, .pointer none, .int .i32 0, .int .i64 (-1), .int .i16 (-1), .map none]) kz fun db cD ac bJ => ?_)
 clear aX aF
 refine wpOps_nil ?_
 refine leave_end bJ ac.cells (v := .tuple #[]) kz ?_
 refine ⟨_, rfl, fun dc bK => ?_⟩
 have aY : EnvOk 3 [⟨b1, 0, [.int .i64 0, .slice none 0 0, .bool false, .slice none 0 0, .slice none 0 0], true⟩, ⟨aa, 0, [.int .i16 0, .pointer none, .int .i32 0, .int .i64 (-1), .int .i16 (-1), .map none], true⟩] [(2, .v (.tuple #[])), (1, .p 1 0)] _ := bK.places (⟨rfl, rfl, ⟨rfl, rfl, trivial⟩⟩)
 refine wpOps_nil (then_normal ?_)
 refine go_sp [(0, .p 1 0)] ac aY fun de bL => ?_
 clear aY
 refine wp_ret ?_
 refine leave bL ac.cells (v := .pointer (some ⟨aa, 0, none⟩)) kz ?_
 refine ⟨_, rfl, fun df bM => ?_⟩
 have aZ : EnvOk 20 [⟨b1, 0, [.int .i64 0, .slice none 0 0, .bool false, .slice none 0 0, .slice none 0 0], true⟩, ⟨aa, 0, [.int .i16 0, .pointer none, .int .i32 0, .int .i64 (-1), .int .i16 (-1), .map none], true⟩] [(7, .v (.pointer (some ⟨aa, 0, none⟩))), (0, .v (.int .i64 v)), (1, .v (.slice A2 ((tInitProducerIDRequest (IntKind.i16.wrap v) T).length) c2)), (4, .p 0 0)] _ := bM.places (⟨rfl, rfl, trivial⟩)
 have ba := aZ.recast 7 (.v (.pointer (some ⟨aa, 0, none⟩))) (.p 1 0) rfl rfl (Nat.le_of_ble_eq_true (n := 2) rfl)
 have bd := ba.pick (ks := [0, 1, 4, 7]) (env' := [(0, .v (.int .i64 v)), (1, .v (.slice A2 ((tInitProducerIDRequest (IntKind.i16.wrap v) T).length) c2)), (4, .p 0 0), (7, .p 1 0)]) kz
 clear aZ
 clear ba
 refine go_rn [1] [] [(0, .v (.int .i64 v)), (1, .v (.slice A2 ((tInitProducerIDRequest (IntKind.i16.wrap v) T).length) c2)), (4, .p 0 0), (6, .p 1 0)] ac bd fun dg bf => ?_
 clear bd
 refine wpOps_nil (then_normal ?_)
 refine go_seq_region [0, 1, 2, 3] kz ?_
 refine go_rn [0, 1, 2] [3] [(1, .v (.slice A2 ((tInitProducerIDRequest (IntKind.i16.wrap v) T).length) c2)), (4, .p 0 0), (6, .p 1 0), (8, .p 1 0), (10, .v (.int .i16 (IntKind.i16.wrap v)))] ac bf fun dh bN => ?_
 clear bf
 refine of_op (wpOp_inline bN (f := 79) (vs := [.pointer (some ⟨aa, 0, none⟩), .int .i16 (IntKind.i16.wrap v)]) (d := 11) (n' := 8) kz Tryz.call79 Tryz.func79 rfl Tryz.ntmps79 kz fun di bO => ?_)
 have bg := bO.recast 0 (.v (.pointer (some ⟨aa, 0, none⟩))) (.p 1 0) rfl rfl (Nat.le_of_ble_eq_true (n := 2) rfl)
 refine go_region [0, 1, 2, 3, 4] kz ?_
 refine go_rn [0, 1, 2, 3] [4] [(5, .v (.int .i16 (IntKind.i16.wrap v))), (7, .p 1 0)] ac bg fun dj bh => ?_
 clear bg
 refine of_op (wpOp_store ac bh (oi := 1) (cs := [.int .i16 (IntKind.i16.wrap v), .pointer none, .int .i32 0, .int .i64 (-1), .int .i16 (-1), .map none]) kz fun dl cE ai bP => ?_)
 clear bh ac
 refine wpOps_nil ?_
 refine leave_end bP ai.cells (v := .tuple #[]) kz ?_
 refine ⟨_, rfl, fun dp bQ => ?_⟩
 have bi : EnvOk 20 [⟨b1, 0, [.int .i64 0, .slice none 0 0, .bool false, .slice none 0 0, .slice none 0 0], true⟩, ⟨aa, 0, [.int .i16 (IntKind.i16.wrap v), .pointer none, .int .i32 0, .int .i64 (-1), .int .i16 (-1), .map none], true⟩] [(11, .v (.tuple #[])), (1, .v (.slice A2 ((tInitProducerIDRequest (IntKind.i16.wrap v) T).length) c2)), (4, .p 0 0), (6, .p 1 0), (8, .p 1 0), (10, .v (.int .i16 (IntKind.i16.wrap v)))] _ := bQ.places (⟨rfl, rfl, ⟨rfl, rfl, trivial⟩⟩)
 refine wpOps_nil (then_normal ?_)
 refine wp_seq ?_
 refine go_seq_region [0, 1, 2, 3, 4] kz ?_
 refine go_rn [0, 1] [2, 3, 4] [(4, .p 0 0), (6, .p 1 0), (12, .p 1 0), (13, .v (.slice A2 ((tInitProducerIDRequest (IntKind.i16.wrap v) T).length) c2))] ai bi fun dq bj => ?_
 clear bi
 have ae := ai.addNil 5 1
 have cG := ai.frNil 5 1
 clear ai
 refine of_op (wpOp_append ae bj (k := 0) (d := 14) (t := 22) (e := 5) (size := 1) (bytes := 1) (A := none) (As := A2) (m0 := 0) (c := 0) (m := ((tInitProducerIDRequest (IntKind.i16.wrap v) T).length)) (cs := c2) (xs := []) (news := bc (tInitProducerIDRequest (IntKind.i16.wrap v) T)) kz kz rfl (hs_.move ae.step nilM ae.imm).src (hs_.move ae.step nilM ae.imm).cap (by first | omega | (simp only [List.length_nil]; omega) | (simp; omega)) fun ag ah dr dt cH bk bn => ?_)
 clear bj ae
 have bR : (⟨ag, ah, 5, 1, 0 + (tInitProducerIDRequest (IntKind.i16.wrap v) T).length, [] ++ bc (tInitProducerIDRequest (IntKind.i16.wrap v) T)⟩ : Rw) = brow ag ah 5 (tInitProducerIDRequest (IntKind.i16.wrap v) T) := by rw [List.nil_append, Nat.zero_add]
 obtain ⟨ar, cI⟩ := bk.rowEq 0 [brow ag ah 5 (tInitProducerIDRequest (IntKind.i16.wrap v) T)] bR
 clear bk
 have bo := EnvOk.pick bn (ks := [4, 6, 12, 13, 14]) (env' := [(4, .p 0 0), (6, .p 1 0), (12, .p 1 0), (13, .v (.slice A2 ((tInitProducerIDRequest (IntKind.i16.wrap v) T).length) c2)), (14, .v (.slice ag (0 + (tInitProducerIDRequest (IntKind.i16.wrap v) T).length) ah))]) kz
 have bS := bo.cast (env' := [(4, .p 0 0), (6, .p 1 0), (12, .p 1 0), (13, .v (.slice A2 ((tInitProducerIDRequest (IntKind.i16.wrap v) T).length) c2)), (14, .v (.slice ag ((tInitProducerIDRequest (IntKind.i16.wrap v) T).length) ah))]) (by simp only [List.length_append, List.length_cons, List.length_nil, Nat.zero_add])
 clear bn
 clear bo
 refine of_op (wpOp_inline bS (f := 80) (vs := [.pointer (some ⟨aa, 0, none⟩), .slice ag ((tInitProducerIDRequest (IntKind.i16.wrap v) T).length) ah]) (d := 15) (n' := 8) kz Tryz.call80 Tryz.func80 rfl Tryz.ntmps80 kz fun du bT => ?_)
 have bp := bT.recast 0 (.v (.pointer (some ⟨aa, 0, none⟩))) (.p 1 0) rfl rfl (Nat.le_of_ble_eq_true (n := 2) rfl)
 refine go_sp [(0, .p 1 0), (1, .v (.slice ag ((tInitProducerIDRequest (IntKind.i16.wrap v) T).length) ah))] ar bp fun dv bq => ?_
 clear bp
 refine go_seq_region [0, 1, 2, 3] kz ?_
 refine go_rn [0, 1] [2, 3] [(5, .p 1 0), (6, .v (.slice ag ((tInitProducerIDRequest (IntKind.i16.wrap v) T).length) ah))] ar bq fun dw bt => ?_
 clear bq
 have bU := ar.giveUp (G := NoF) 0 [] (show _ = some (brow ag ah 5 (tInitProducerIDRequest (IntKind.i16.wrap v) T)) from rfl) (by omega)
 obtain ⟨bu, cJ⟩ := ar.cutR 0 []
 refine of_op (wpOp_call bt (f := 131) (vs := [.pointer (some ⟨aa, 0, none⟩), .slice ag ((tInitProducerIDRequest (IntKind.i16.wrap v) T).length) ah, .bool false]) (d := 7) kz Tryz.call131 (rdInitProducerIDRequest (IntKind.i16.wrap v) T (Str.of bu 1 rfl) bU (imm_n 1 rfl) hc hkey) ?_)
 rintro e_ dx ⟨ab, rfl, bV, bW, bX, bw⟩
 obtain ⟨af, cK, bY⟩ := bu.wrote 1 [⟨b1, 0, [.int .i64 0, .slice none 0 0, .bool false, .slice none 0 0, .slice none 0 0], true⟩, ⟨aa, 0, [.int .i16 (IntKind.i16.wrap v), .pointer ((ab.f 0).A), .int .i32 ((ab.f 1).n), .int .i64 ((ab.f 2).n), .int .i16 ((ab.f 3).n), .map ab.m], true⟩] rfl bw bV
 have bx := mvInitProducerIDRequest _ (Step.refl _ Nil) nilM bY bW
 refine ⟨_, rfl, fun dy bz => ?_⟩
 have au := (EnvOk.places (tb' := [⟨b1, 0, [.int .i64 0, .slice none 0 0, .bool false, .slice none 0 0, .slice none 0 0], true⟩, ⟨aa, 0, [.int .i16 (IntKind.i16.wrap v), .pointer ((ab.f 0).A), .int .i32 ((ab.f 1).n), .int .i64 ((ab.f 2).n), .int .i16 ((ab.f 3).n), .map ab.m], true⟩]) bz (show Pl [⟨b1, 0, [.int .i64 0, .slice none 0 0, .bool false, .slice none 0 0, .slice none 0 0], true⟩, ⟨aa, 0, [.int .i16 (IntKind.i16.wrap v), .pointer none, .int .i32 0, .int .i64 (-1), .int .i16 (-1), .map none], true⟩] [⟨b1, 0, [.int .i64 0, .slice none 0 0, .bool false, .slice none 0 0, .slice none 0 0], true⟩, ⟨aa, 0, [.int .i16 (IntKind.i16.wrap v), .pointer ((ab.f 0).A), .int .i32 ((ab.f 1).n), .int .i64 ((ab.f 2).n), .int .i16 ((ab.f 3).n), .map ab.m], true⟩] from ⟨rfl, rfl, ⟨rfl, rfl, trivial⟩⟩)).pk (env' := [(7, .v (.nilIface)), (5, .p 1 0), (6, .v (.slice ag ((tInitProducerIDRequest (IntKind.i16.wrap v) T).length) ah))])
 clear bt
 refine go_rn [3] [] [(4, .v (.nilIface))] af au fun cL bA => ?_
 clear au
 refine wpOps_nil (then_normal ?_)
 refine wp_ret ?_
 refine leave bA af.cells (v := .nilIface) kz ?_
 refine ⟨_, rfl, fun cM bB => ?_⟩
 have av : EnvOk 20 [⟨b1, 0, [.int .i64 0, .slice none 0 0, .bool false, .slice none 0 0, .slice none 0 0], true⟩, ⟨aa, 0, [.int .i16 (IntKind.i16.wrap v), .pointer ((ab.f 0).A), .int .i32 ((ab.f 1).n), .int .i64 ((ab.f 2).n), .int .i16 ((ab.f 3).n), .map ab.m], true⟩] [(15, .v (.nilIface)), (4, .p 0 0), (6, .p 1 0), (12, .p 1 0), (13, .v (.slice A2 ((tInitProducerIDRequest (IntKind.i16.wrap v) T).length) c2)), (14, .v (.slice ag ((tInitProducerIDRequest (IntKind.i16.wrap v) T).length) ah))] _ := bB.places (⟨rfl, rfl, ⟨rfl, rfl, trivial⟩⟩)
 refine go_rn [4] [] [(4, .p 0 0), (6, .p 1 0), (16, .v (.bool false))] af av fun cN aj => ?_
 clear av
 refine wpOps_nil (then_normal ?_)
 refine cond_false aj (b := false) kz rfl ?_
 refine wp_skip ?_
 refine then_normal ?_
 refine go_seq_region [0, 1, 2, 3] kz ?_
 refine go_rn [0] [1, 2, 3] [(4, .p 0 0), (18, .p 1 0)] af aj fun cO aw => ?_
 clear aj
 have ax := aw.recast 18 (.p 1 0) (.v (.pointer (some ⟨aa, 0, none⟩))) rfl rfl trivial
 have bC := ax.pk (env' := [(4, .p 0 0), (18, .v (.pointer (some ⟨aa, 0, none⟩)))])
 clear aw ax
 have aG := WOk.strOut (G := NoF) [⟨b1, 0, [.int .i64 0, .slice none 0 0, .bool false, .slice none 0 0, .slice none 0 0], true⟩] af
 obtain ⟨ay, ak, az⟩ := af.cutB bC 1 [⟨b1, 0, [.int .i64 0, .slice none 0 0, .bool false, .slice none 0 0, .slice none 0 0], true⟩] [(4, .p 0 0), (18, .v (.pointer (some ⟨aa, 0, none⟩)))]
 have bD := mvInitProducerIDRequest _ az.step immM az.to' bx
 refine of_op (wpOp_call ay (f := 81) (vs := [.pointer (some ⟨aa, 0, none⟩)]) (d := 19) kz Tryz.call81 (tlInitProducerIDRequest (IntKind.i16.wrap v) ab aa 0 _ _ aG bD) ?_)
 rintro e_ cP ⟨cq, rfl, bE, al⟩
 have am := bE.move (Step.refl _ Nil) nilM (ak.laid (G := NoF) al)
 obtain ⟨aH, aI, aJ, aK, aL, aM, aN, aO, aP, aQ, aR, cr, cu, ao, bZ, b8, cQ, cR⟩ := am.open_
 rw [ao] at am
 have cd := bZ.small
 have ce := b8.small
 rw [ao]
 refine ⟨_, rfl, fun cS aA => ?_⟩
 have aB := ak.next_nil al
 have cw := ak.frN al
 clear ay
 refine of_op (wpOp_store aB aA (oi := 0) (cs := [.int .i64 aH, .slice aM aI.length aN, .bool aJ, .slice aO aK.length aP, .slice aQ aL.length aR]) kz fun cm aC ap aD => ?_)
 clear aA aB
 refine go_rn [3] [] [(4, .p 0 0), (5, .v (.bool true))] ap aD fun cT bF => ?_
 clear aD
 refine wpOps_nil (then_normal ?_)
 refine wp_ret ?_
 refine leave bF ap.cells (v := .tuple #[.agg #[.int .i64 aH, .slice aM aI.length aN, .bool aJ, .slice aO aK.length aP, .slice aQ aL.length aR], .bool true]) kz ?_
 exact ⟨ab, _, rfl, (show TreeR _ (Imm NoF w cm [⟨b1, 0, [.int .i64 aH, .slice aM aI.length aN, .bool aJ, .slice aO aK.length aP, .slice aQ aL.length aR], true⟩] []) _ (trInitProducerIDRequest ab) from (am.move aC.step immM aC.to')).move (Step.refl _ Nil) nilM immOut, bX, ap.step⟩
theorem tegInitProducerIDRequest (v : Int) (T : Tree) (B : Bs) {A2 : Option Addr} {c2 : Nat} {w : World} {F : Nat → Nat → Prop} (hB : tInitProducerIDRequest (IntKind.i16.wrap v) T = B) (hs_ : Octs w F A2 c2 B) (hc : canInitProducerIDRequest T) (hkey : T.ranged) (hroom : B.length + 16 ≤ 1099511627776) :
  Calls Tryz.prog 34 #[.int .i64 v, .slice A2 B.length c2] w (fun e w' => ∃ D cs, e = .returned (.tuple #[.agg cs.toArray, .bool true]) ∧ TreeR w' (Fp NoF w) cs (trInitProducerIDRequest D) ∧ rvInitProducerIDRequest (IntKind.i16.wrap v) D T ∧ Step w w' Nil) := by
 subst hB
 exact tzInitProducerIDRequest v T hs_ hc hkey hroom
end Go.Proofs.YtnhgfbgdoelfoaaGreatDoor.ME