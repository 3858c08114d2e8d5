/- The texts of a claim, put together: the engine, the contracts, the law. Own work. -/
import Derived.Test.YtcbpjflgkefidaaGreatDoorWd1P4
namespace Go.Proofs.YtcbpjflgkefidaaGreatDoor.ME
open Go
open Go.RowKit
set_option linter.unusedVariables false
set_option linter.unusedSimpArgs false
set_option maxRecDepth 20000
def qaU (D:DV):Tree:=.mk 0 [] false [.mk 0 (sb (D.f 0).s) false [] [],.mk 0 (sb (D.f 1).s) false [] [],.mk (IntKind.i64.wrap (D.f 2).n) [] false [] [],.mk (IntKind.i64.wrap (D.f 3).n) [] false [] []] D.u
def qaX (D:DV):Tree:=.mk 0 [] false [.mk 0 (sb (D.f 0).s) false [] [],.mk (IntKind.i64.wrap (D.f 1).n) [] false [] [],.mk (IntKind.i64.wrap (D.f 2).n) [] false [] []] D.u
def qba (D:DV):Tree:=.mk 0 [] false [.mk (IntKind.i64.wrap (D.f 0).n) [] false [] [],.mk 0 (sb (D.f 1).s) false [] [],.mk 0 (D.f 2).o false [] [],.mk 0 [] (D.f 3).A.isNone ((List.range (D.f 3).l).map fun i=>qaU ((D.f 3).f i)) [],.mk 0 [] (D.f 4).A.isNone ((List.range (D.f 4).l).map fun i=>qaX ((D.f 4).f i)) [],qky (D.f 5).A (D.f 5).s,qkz (D.f 6).b,.mk 0 [] (D.f 7).A.isNone ((List.range (D.f 7).l).map fun i=>.mk 0 ((D.f 7).f i).o false [] []) [],.mk ((D.f 8).n) [] false [] []] D.u
set_option maxHeartbeats 4000000 in
theorem qbi (v:Int) (D:DV) (b o:Nat) (w:World) (F:Nat → Nat → Prop) (hat:AtF w F b o [.string ((D.f 0).s),.string ((D.f 1).s),.int .u16 ((D.f 2).n),.int .i16 ((D.f 3).n),.map D.m]) (hok:qaN w F D):Calls Tryz.prog 117 #[.pointer (some ⟨b,o,none⟩)] w (qdc w F (qaU D)):=by
 refine enter (n:=51) Tryz.func117 rfl Tryz.ntmps117 kz fun a hE=>?_
 have hW:WOk w Nil w [⟨b,o,[.string ((D.f 0).s),.string ((D.f 1).s),.int .u16 ((D.f 2).n),.int .i16 ((D.f 3).n),.map D.m],false⟩] []:=(WOk.start w Nil).start1 hat rfl rfl
 unfold qaN at hok
 obtain ⟨g1,g2,g3,g4,g5,g5l,g5x,_⟩:=hok
 have hE0:=(EnvOk.ptr0 (cs:=[.string ((D.f 0).s),.string ((D.f 1).s),.int .u16 ((D.f 2).n),.int .i16 ((D.f 3).n),.map D.m]) (r:=false) hE).pk (env':=[(0,.p 0 0)])
 refine qag [0] kz ?_
 refine qak (qaO hW hE0 (d:=2) (cs:=[.int .i64 0,.slice none 0 0,.bool false,.slice none 0 0,.slice none 0 0]) kz fun b6 a7 w8 hb9 ce cg bj bk=>?_)
 refine qah (qac ?_)
 refine qag [0,1,2,3] kz ?_
 refine qak (qey (t:=34) (e:=37) (size:=5) (bytes:=88) (d:=4) (j:=4) (.agg #[.int .i64 0,.slice none 0 0,.bool false,.slice none 0 0,.slice none 0 0]) [.int .i64 0,.slice none 0 0,.bool false,.slice none 0 0,.slice none 0 0,.int .i64 0,.slice none 0 0,.bool false,.slice none 0 0,.slice none 0 0,.int .i64 0,.slice none 0 0,.bool false,.slice none 0 0,.slice none 0 0,.int .i64 0,.slice none 0 0,.bool false,.slice none 0 0,.slice none 0 0] bj bk fun aa cO cP cm cq cr aH bn=>?_)
 refine qal [1] [2,3] [(0,.p 0 0),(2,.p 1 0),(5,.v (.agg #[.int .i64 0,.slice none 0 0,.bool false,.slice (some ⟨aa,0,none⟩) 4 4,.slice none 0 0]))] aH bn fun cQ bo=>?_
 refine qak (qaO aH bo (d:=3) (cs:=[.int .i64 0,.slice none 0 0,.bool false,.slice none 0 0,.slice none 0 0]) kz fun ap cR cS cu cw cz bp bq=>?_)
 refine qak (qam bp bq (oi:=3) (cs:=[.int .i64 0,.slice none 0 0,.bool false,.slice (some ⟨aa,0,none⟩) 4 4,.slice none 0 0]) kz fun cT cA bt bu=>?_)
 refine qah (qac ?_)
 refine qaK 9 kz bt fun cU cB bw bx=>?_
 refine qaz [0,1,2,3,4,5] [(0,.p 0 0),(2,.p 1 0),(3,.p 3 0),(7,.v (.slice (some ⟨aa,0,none⟩) 4 4)),(11,.v (.string ((D.f 0).s)))] 4 (qab qaf) (fun _ h=>h.cells) bx bu fun cV bz=>?_
 refine qap (i:=6) kz (qdg (d:=12) (src:=9) (dst:=22) (e:=5) (s:=((D.f 0).s)) bw bz (by omega) fun ah ai cW cX bA aI bB bC=>?_)
 have bD:=bB F
 have aD:=TT.ofW bA aI
 refine ⟨fun _=>aD,?_⟩
 refine qaz [7] [(0,.p 0 0),(2,.p 1 0),(3,.p 3 0),(7,.v (.slice (some ⟨aa,0,none⟩) 4 4)),(13,.v (.agg #[.int .i64 0,.slice (some ⟨ah,0,none⟩) ((sb ((D.f 0).s)).length) ai,.bool false,.slice none 0 0,.slice none 0 0]))] 2 (qab qaf) (fun _ h=>h.cells) aD bC fun cY bE=>?_
 refine qaC bE (i:=8) (t:=34) (A:=(some ⟨aa,0,none⟩)) (m:=4) (q:=0) (d:=14) kz (e:=37) (size:=5) (bytes:=88) (j:=0) kz (b:=aa) (o:=0) rfl rfl (by decide) kz kz (qab qaf) aD fun cZ bF=>?_
 have bG:=bF.recast 14 (.v (.pointer (some ⟨aa,0 + 0 * 5,none⟩))) (.p 2 0) rfl rfl (Nat.le_of_ble_eq_true (n:=3) rfl)
 have bH:=bG.pk (env':=[(0,.p 0 0),(2,.p 1 0),(3,.p 3 0),(7,.v (.slice (some ⟨aa,0,none⟩) 4 4)),(13,.v (.agg #[.int .i64 0,.slice (some ⟨ah,0,none⟩) ((sb ((D.f 0).s)).length) ai,.bool false,.slice none 0 0,.slice none 0 0])),(14,.p 2 0)])
 refine qap (i:=9) kz (qam aI bH (oi:=2) (cs:=[.int .i64 0,.slice (some ⟨ah,0,none⟩) ((sb ((D.f 0).s)).length) ai,.bool false,.slice none 0 0,.slice none 0 0,.int .i64 0,.slice none 0 0,.bool false,.slice none 0 0,.slice none 0 0,.int .i64 0,.slice none 0 0,.bool false,.slice none 0 0,.slice none 0 0,.int .i64 0,.slice none 0 0,.bool false,.slice none 0 0,.slice none 0 0]) kz fun c5 aJ bI bJ=>?_)
 refine ⟨fun h=>absurd rfl h,?_⟩
 refine qay kz ?_ _
 refine qac ?_
 refine qaK 9 kz bI fun c6 aK bK bL=>?_
 refine qaz [0,1,2,3,4,5] [(0,.p 0 0),(2,.p 1 0),(3,.p 3 0),(16,.v (.slice (some ⟨aa,0,none⟩) 4 4)),(20,.v (.string ((D.f 1).s)))] 4 (qab qaf) (fun _ h=>h.cells) bL bJ fun da bM=>?_
 refine qap (i:=6) kz (qdg (d:=21) (src:=9) (dst:=22) (e:=5) (s:=((D.f 1).s)) bK bM (by omega) fun aj ak db dc aE aL bN bO=>?_)
 have bP:=bN F
 have aF:=TT.ofW aE aL
 refine ⟨fun _=>aF,?_⟩
 refine qaz [7] [(0,.p 0 0),(2,.p 1 0),(3,.p 3 0),(16,.v (.slice (some ⟨aa,0,none⟩) 4 4)),(22,.v (.agg #[.int .i64 0,.slice (some ⟨aj,0,none⟩) ((sb ((D.f 1).s)).length) ak,.bool false,.slice none 0 0,.slice none 0 0]))] 2 (qab qaf) (fun _ h=>h.cells) aF bO fun de bQ=>?_
 refine qaC bQ (i:=8) (t:=34) (A:=(some ⟨aa,0,none⟩)) (m:=4) (q:=1) (d:=23) kz (e:=37) (size:=5) (bytes:=88) (j:=1) kz (b:=aa) (o:=0) rfl rfl (by decide) kz kz (qab qaf) aF fun dg bR=>?_
 have bS:=bR.recast 23 (.v (.pointer (some ⟨aa,0 + 1 * 5,none⟩))) (.p 2 5) rfl rfl (Nat.le_of_ble_eq_true (n:=3) rfl)
 have bT:=bS.pk (env':=[(0,.p 0 0),(2,.p 1 0),(3,.p 3 0),(16,.v (.slice (some ⟨aa,0,none⟩) 4 4)),(22,.v (.agg #[.int .i64 0,.slice (some ⟨aj,0,none⟩) ((sb ((D.f 1).s)).length) ak,.bool false,.slice none 0 0,.slice none 0 0])),(23,.p 2 5)])
 refine qap (i:=9) kz (qam aL bT (oi:=2) (cs:=[.int .i64 0,.slice (some ⟨ah,0,none⟩) ((sb ((D.f 0).s)).length) ai,.bool false,.slice none 0 0,.slice none 0 0,.int .i64 0,.slice (some ⟨aj,0,none⟩) ((sb ((D.f 1).s)).length) ak,.bool false,.slice none 0 0,.slice none 0 0,.int .i64 0,.slice none 0 0,.bool false,.slice none 0 0,.slice none 0 0,.int .i64 0,.slice none 0 0,.bool false,.slice none 0 0,.slice none 0 0]) kz fun dh av bU bV=>?_)
 refine ⟨fun h=>absurd rfl h,?_⟩
 refine qay kz ?_ _
 refine qac ?_
 refine qaK 9 kz bU fun di aw bW aM=>?_
 refine qaz [0,1,2,3,4,5,6,7] [(0,.p 0 0),(2,.p 1 0),(3,.p 3 0),(25,.v (.slice (some ⟨aa,0,none⟩) 4 4)),(31,.v (.agg #[.int .i64 (IntKind.i64.wrap ((D.f 2).n)),.slice none 0 0,.bool false,.slice none 0 0,.slice none 0 0]))] 2 (qab qaf) (fun _ h=>h.cells) aM bV fun dj bX=>?_
 refine qaC bX (i:=8) (t:=34) (A:=(some ⟨aa,0,none⟩)) (m:=4) (q:=2) (d:=32) kz (e:=37) (size:=5) (bytes:=88) (j:=2) kz (b:=aa) (o:=0) rfl rfl (by decide) kz kz (qab qaf) aM fun dl bY=>?_
 have bZ:=bY.recast 32 (.v (.pointer (some ⟨aa,0 + 2 * 5,none⟩))) (.p 2 10) rfl rfl (Nat.le_of_ble_eq_true (n:=3) rfl)
 have b8:=bZ.pk (env':=[(0,.p 0 0),(2,.p 1 0),(3,.p 3 0),(25,.v (.slice (some ⟨aa,0,none⟩) 4 4)),(31,.v (.agg #[.int .i64 (IntKind.i64.wrap ((D.f 2).n)),.slice none 0 0,.bool false,.slice none 0 0,.slice none 0 0])),(32,.p 2 10)])
 refine qap (i:=9) kz (qam bW b8 (oi:=2) (cs:=[.int .i64 0,.slice (some ⟨ah,0,none⟩) ((sb ((D.f 0).s)).length) ai,.bool false,.slice none 0 0,.slice none 0 0,.int .i64 0,.slice (some ⟨aj,0,none⟩) ((sb ((D.f 1).s)).length) ak,.bool false,.slice none 0 0,.slice none 0 0,.int .i64 (IntKind.i64.wrap ((D.f 2).n)),.slice none 0 0,.bool false,.slice none 0 0,.slice none 0 0,.int .i64 0,.slice none 0 0,.bool false,.slice none 0 0,.slice none 0 0]) kz fun dp ax aN aO=>?_)
 refine ⟨fun h=>absurd rfl h,?_⟩
 refine qay kz ?_ _
 refine qac ?_
 refine qaK 9 kz aN fun cC al aP ay=>?_
 refine qaz [0,1,2,3,4,5,6,7] [(0,.p 0 0),(2,.p 1 0),(3,.p 3 0),(34,.v (.slice (some ⟨aa,0,none⟩) 4 4)),(40,.v (.agg #[.int .i64 (IntKind.i64.wrap ((D.f 3).n)),.slice none 0 0,.bool false,.slice none 0 0,.slice none 0 0]))] 2 (qab qaf) (fun _ h=>h.cells) ay aO fun cD aQ=>?_
 refine qaC aQ (i:=8) (t:=34) (A:=(some ⟨aa,0,none⟩)) (m:=4) (q:=3) (d:=41) kz (e:=37) (size:=5) (bytes:=88) (j:=3) kz (b:=aa) (o:=0) rfl rfl (by decide) kz kz (qab qaf) ay fun cE aR=>?_
 have aS:=aR.recast 41 (.v (.pointer (some ⟨aa,0 + 3 * 5,none⟩))) (.p 2 15) rfl rfl (Nat.le_of_ble_eq_true (n:=3) rfl)
 have aT:=aS.pk (env':=[(0,.p 0 0),(2,.p 1 0),(3,.p 3 0),(34,.v (.slice (some ⟨aa,0,none⟩) 4 4)),(40,.v (.agg #[.int .i64 (IntKind.i64.wrap ((D.f 3).n)),.slice none 0 0,.bool false,.slice none 0 0,.slice none 0 0])),(41,.p 2 15)])
 refine qap (i:=9) kz (qam aP aT (oi:=2) (cs:=[.int .i64 0,.slice (some ⟨ah,0,none⟩) ((sb ((D.f 0).s)).length) ai,.bool false,.slice none 0 0,.slice none 0 0,.int .i64 0,.slice (some ⟨aj,0,none⟩) ((sb ((D.f 1).s)).length) ak,.bool false,.slice none 0 0,.slice none 0 0,.int .i64 (IntKind.i64.wrap ((D.f 2).n)),.slice none 0 0,.bool false,.slice none 0 0,.slice none 0 0,.int .i64 (IntKind.i64.wrap ((D.f 3).n)),.slice none 0 0,.bool false,.slice none 0 0,.slice none 0 0]) kz fun cd am ae aU=>?_)
 refine ⟨fun h=>absurd rfl h,?_⟩
 refine qay kz ?_ _
 refine qac ?_
 refine qag [0,1,2,3,4] kz ?_
 refine qal [0,1,2] [3,4] [(2,.p 1 0),(3,.p 3 0),(44,.p 0 4)] ae aU fun cG aV=>?_
 refine qak (qeJ aV (v:=.func (.func 175) #[] #[.pointer (some ⟨ap,0,none⟩)]) (d:=45) kz fun cH aW=>?_)
 refine qak (qan aW (f:=103) (vs:=[.pointer (some ⟨b,o + 4,none⟩),.func (.func 175) #[] #[.pointer (some ⟨ap,0,none⟩)]]) (d:=46) kz Tryz.call103 (qfg (F:=(Imm F w cd [⟨b,o,[.string ((D.f 0).s),.string ((D.f 1).s),.int .u16 ((D.f 2).n),.int .i16 ((D.f 3).n),.map D.m],false⟩,⟨b6,0,[.int .i64 0,.slice none 0 0,.bool false,.slice none 0 0,.slice none 0 0],true⟩,⟨aa,0,[.int .i64 0,.slice (some ⟨ah,0,none⟩) ((sb ((D.f 0).s)).length) ai,.bool false,.slice none 0 0,.slice none 0 0,.int .i64 0,.slice (some ⟨aj,0,none⟩) ((sb ((D.f 1).s)).length) ak,.bool false,.slice none 0 0,.slice none 0 0,.int .i64 (IntKind.i64.wrap ((D.f 2).n)),.slice none 0 0,.bool false,.slice none 0 0,.slice none 0 0,.int .i64 (IntKind.i64.wrap ((D.f 3).n)),.slice none 0 0,.bool false,.slice none 0 0,.slice none 0 0],true⟩,⟨ap,0,[.int .i64 0,.slice none 0 0,.bool false,.slice (some ⟨aa,0,none⟩) 4 4,.slice none 0 0],true⟩] [])) Tryz.call175 qcb ((hat.one 4 rfl).move ae.step nilM ae.imm) (g5.move ae.step nilM ae.imm) (Str.of ae 3 rfl) (qjE 3 rfl) g5l) ?_)
 rintro e_ cI ⟨rfl,ab,ac,aG,aX,aY⟩
 obtain ⟨ar,ao,aZ⟩:=ae.wrote 3 [⟨b,o,[.string ((D.f 0).s),.string ((D.f 1).s),.int .u16 ((D.f 2).n),.int .i16 ((D.f 3).n),.map D.m],false⟩,⟨b6,0,[.int .i64 0,.slice none 0 0,.bool false,.slice none 0 0,.slice none 0 0],true⟩,⟨aa,0,[.int .i64 0,.slice (some ⟨ah,0,none⟩) ((sb ((D.f 0).s)).length) ai,.bool false,.slice none 0 0,.slice none 0 0,.int .i64 0,.slice (some ⟨aj,0,none⟩) ((sb ((D.f 1).s)).length) ak,.bool false,.slice none 0 0,.slice none 0 0,.int .i64 (IntKind.i64.wrap ((D.f 2).n)),.slice none 0 0,.bool false,.slice none 0 0,.slice none 0 0,.int .i64 (IntKind.i64.wrap ((D.f 3).n)),.slice none 0 0,.bool false,.slice none 0 0,.slice none 0 0],true⟩,⟨ap,0,[.int .i64 0,.slice none 0 0,.bool false,.slice (some ⟨aa,0,none⟩) 4 4,.slice ab D.u.length ac],true⟩] rfl aY aG
 have az:=aX.move (Step.refl _ Nil) nilM (fun b_ o_ h_ hb_=>aZ (G:=F) b_ o_ (.inr h_) hb_)
 refine ⟨_,rfl,fun cJ ba=>?_⟩
 have bd:=(EnvOk.places (tb':=[⟨b,o,[.string ((D.f 0).s),.string ((D.f 1).s),.int .u16 ((D.f 2).n),.int .i16 ((D.f 3).n),.map D.m],false⟩,⟨b6,0,[.int .i64 0,.slice none 0 0,.bool false,.slice none 0 0,.slice none 0 0],true⟩,⟨aa,0,[.int .i64 0,.slice (some ⟨ah,0,none⟩) ((sb ((D.f 0).s)).length) ai,.bool false,.slice none 0 0,.slice none 0 0,.int .i64 0,.slice (some ⟨aj,0,none⟩) ((sb ((D.f 1).s)).length) ak,.bool false,.slice none 0 0,.slice none 0 0,.int .i64 (IntKind.i64.wrap ((D.f 2).n)),.slice none 0 0,.bool false,.slice none 0 0,.slice none 0 0,.int .i64 (IntKind.i64.wrap ((D.f 3).n)),.slice none 0 0,.bool false,.slice none 0 0,.slice none 0 0],true⟩,⟨ap,0,[.int .i64 0,.slice none 0 0,.bool false,.slice (some ⟨aa,0,none⟩) 4 4,.slice ab D.u.length ac],true⟩]) ba (show Pl [⟨b,o,[.string ((D.f 0).s),.string ((D.f 1).s),.int .u16 ((D.f 2).n),.int .i16 ((D.f 3).n),.map D.m],false⟩,⟨b6,0,[.int .i64 0,.slice none 0 0,.bool false,.slice none 0 0,.slice none 0 0],true⟩,⟨aa,0,[.int .i64 0,.slice (some ⟨ah,0,none⟩) ((sb ((D.f 0).s)).length) ai,.bool false,.slice none 0 0,.slice none 0 0,.int .i64 0,.slice (some ⟨aj,0,none⟩) ((sb ((D.f 1).s)).length) ak,.bool false,.slice none 0 0,.slice none 0 0,.int .i64 (IntKind.i64.wrap ((D.f 2).n)),.slice none 0 0,.bool false,.slice none 0 0,.slice none 0 0,.int .i64 (IntKind.i64.wrap ((D.f 3).n)),.slice none 0 0,.bool false,.slice none 0 0,.slice none 0 0],true⟩,⟨ap,0,[.int .i64 0,.slice none 0 0,.bool false,.slice (some ⟨aa,0,none⟩) 4 4,.slice none 0 0],true⟩] [⟨b,o,[.string ((D.f 0).s),.string ((D.f 1).s),.int .u16 ((D.f 2).n),.int .i16 ((D.f 3).n),.map D.m],false⟩,⟨b6,0,[.int .i64 0,.slice none 0 0,.bool false,.slice none 0 0,.slice none 0 0],true⟩,⟨aa,0,[.int .i64 0,.slice (some ⟨ah,0,none⟩) ((sb ((D.f 0).s)).length) ai,.bool false,.slice none 0 0,.slice none 0 0,.int .i64 0,.slice (some ⟨aj,0,none⟩) ((sb ((D.f 1).s)).length) ak,.bool false,.slice none 0 0,.slice none 0 0,.int .i64 (IntKind.i64.wrap ((D.f 2).n)),.slice none 0 0,.bool false,.slice none 0 0,.slice none 0 0,.int .i64 (IntKind.i64.wrap ((D.f 3).n)),.slice none 0 0,.bool false,.slice none 0 0,.slice none 0 0],true⟩,⟨ap,0,[.int .i64 0,.slice none 0 0,.bool false,.slice (some ⟨aa,0,none⟩) 4 4,.slice ab D.u.length ac],true⟩] from ⟨rfl,rfl,⟨rfl,rfl,⟨rfl,rfl,⟨rfl,rfl,trivial⟩⟩⟩⟩)).pk (env':=[(46,.v (.tuple #[])),(2,.p 1 0),(3,.p 3 0),(44,.p 0 4),(45,.v (.func (.func 175) #[] #[.pointer (some ⟨ap,0,none⟩)]))])
 refine qah (qac ?_)
 refine qag [0,1,2] kz ?_
 refine qal [0,1] [2] [(2,.p 1 0),(3,.p 3 0),(48,.v (.slice ab D.u.length ac))] ar bd fun cK bf=>?_
 refine qak (qan bf (f:=105) (vs:=[.slice ab D.u.length ac]) (d:=49) kz Tryz.call105 (qg6 az g5.sorted) ?_)
 rintro e_ cL ⟨rfl,aA⟩
 refine ⟨_,rfl,fun cM bg=>?_⟩
 have aB:=ar.next_nil aA
 have af:=ar.frN aA
 refine qah (qac ?_)
 refine qag [0,1] kz ?_
 refine qal [0] [1] [(2,.p 1 0),(50,.v (.agg #[.int .i64 0,.slice none 0 0,.bool false,.slice (some ⟨aa,0,none⟩) 4 4,.slice ab D.u.length ac]))] aB bg fun cN bh=>?_
 refine qak (qam aB bh (oi:=1) (cs:=[.int .i64 0,.slice none 0 0,.bool false,.slice (some ⟨aa,0,none⟩) 4 4,.slice ab D.u.length ac]) kz fun au ag aC bi=>?_)
 refine qah (qac ?_)
 refine wp_ret ?_
 refine qaV bi aC.cells (v:=.agg #[.int .i64 0,.slice none 0 0,.bool false,.slice (some ⟨aa,0,none⟩) 4 4,.slice ab D.u.length ac]) kz ?_
 exact qf1 (u:=D.u) (l:=[.mk 0 (sb (D.f 0).s) false [] [],.mk 0 (sb (D.f 1).s) false [] [],.mk (IntKind.i64.wrap (D.f 2).n) [] false [] [],.mk (IntKind.i64.wrap (D.f 3).n) [] false [] []]) (css:=[[.int .i64 0,.slice (some ⟨ah,0,none⟩) ((sb ((D.f 0).s)).length) ai,.bool false,.slice none 0 0,.slice none 0 0],[.int .i64 0,.slice (some ⟨aj,0,none⟩) ((sb ((D.f 1).s)).length) ak,.bool false,.slice none 0 0,.slice none 0 0],[.int .i64 (IntKind.i64.wrap ((D.f 2).n)),.slice none 0 0,.bool false,.slice none 0 0,.slice none 0 0],[.int .i64 (IntKind.i64.wrap ((D.f 3).n)),.slice none 0 0,.bool false,.slice none 0 0,.slice none 0 0]]) aC 2 rfl ⟨(show TreeR _ (Imm F w au [⟨b,o,[.string ((D.f 0).s),.string ((D.f 1).s),.int .u16 ((D.f 2).n),.int .i16 ((D.f 3).n),.map D.m],false⟩,⟨b6,0,[.int .i64 0,.slice none 0 0,.bool false,.slice (some ⟨aa,0,none⟩) 4 4,.slice ab D.u.length ac],true⟩,⟨aa,0,[.int .i64 0,.slice (some ⟨ah,0,none⟩) ((sb ((D.f 0).s)).length) ai,.bool false,.slice none 0 0,.slice none 0 0,.int .i64 0,.slice (some ⟨aj,0,none⟩) ((sb ((D.f 1).s)).length) ak,.bool false,.slice none 0 0,.slice none 0 0,.int .i64 (IntKind.i64.wrap ((D.f 2).n)),.slice none 0 0,.bool false,.slice none 0 0,.slice none 0 0,.int .i64 (IntKind.i64.wrap ((D.f 3).n)),.slice none 0 0,.bool false,.slice none 0 0,.slice none 0 0],true⟩,⟨ap,0,[.int .i64 0,.slice none 0 0,.bool false,.slice (some ⟨aa,0,none⟩) 4 4,.slice ab D.u.length ac],true⟩] []) _ _ from (TreeR.mk (n:=0) (b:=false) (s:=(sb ((D.f 0).s))) (l:=[]) (u:=[]) (fun _=>[]) (bD.move ((((((((((aJ.trans aK).trans aE).trans av).trans aw).trans ax).trans al).trans am).trans ao).trans af).trans ag).step immM ((((((((((aJ.trans aK).trans aE).trans av).trans aw).trans ax).trans al).trans am).trans ao).trans af).trans ag).to') (Slots.nil _ _ _ _) (fun i_ x_ h_=>by simp at h_) (TagsR.nil _ _))).move (Step.refl _ Nil) nilM qbw,(show TreeR _ (Imm F w au [⟨b,o,[.string ((D.f 0).s),.string ((D.f 1).s),.int .u16 ((D.f 2).n),.int .i16 ((D.f 3).n),.map D.m],false⟩,⟨b6,0,[.int .i64 0,.slice none 0 0,.bool false,.slice (some ⟨aa,0,none⟩) 4 4,.slice ab D.u.length ac],true⟩,⟨aa,0,[.int .i64 0,.slice (some ⟨ah,0,none⟩) ((sb ((D.f 0).s)).length) ai,.bool false,.slice none 0 0,.slice none 0 0,.int .i64 0,.slice (some ⟨aj,0,none⟩) ((sb ((D.f 1).s)).length) ak,.bool false,.slice none 0 0,.slice none 0 0,.int .i64 (IntKind.i64.wrap ((D.f 2).n)),.slice none 0 0,.bool false,.slice none 0 0,.slice none 0 0,.int .i64 (IntKind.i64.wrap ((D.f 3).n)),.slice none 0 0,.bool false,.slice none 0 0,.slice none 0 0],true⟩,⟨ap,0,[.int .i64 0,.slice none 0 0,.bool false,.slice (some ⟨aa,0,none⟩) 4 4,.slice ab D.u.length ac],true⟩] []) _ _ from (TreeR.mk (n:=0) (b:=false) (s:=(sb ((D.f 1).s))) (l:=[]) (u:=[]) (fun _=>[]) (bP.move (((((((av.trans aw).trans ax).trans al).trans am).trans ao).trans af).trans ag).step immM (((((((av.trans aw).trans ax).trans al).trans am).trans ao).trans af).trans ag).to') (Slots.nil _ _ _ _) (fun i_ x_ h_=>by simp at h_) (TagsR.nil _ _))).move (Step.refl _ Nil) nilM qbw,(show TreeR _ (Imm F w au [⟨b,o,[.string ((D.f 0).s),.string ((D.f 1).s),.int .u16 ((D.f 2).n),.int .i16 ((D.f 3).n),.map D.m],false⟩,⟨b6,0,[.int .i64 0,.slice none 0 0,.bool false,.slice (some ⟨aa,0,none⟩) 4 4,.slice ab D.u.length ac],true⟩,⟨aa,0,[.int .i64 0,.slice (some ⟨ah,0,none⟩) ((sb ((D.f 0).s)).length) ai,.bool false,.slice none 0 0,.slice none 0 0,.int .i64 0,.slice (some ⟨aj,0,none⟩) ((sb ((D.f 1).s)).length) ak,.bool false,.slice none 0 0,.slice none 0 0,.int .i64 (IntKind.i64.wrap ((D.f 2).n)),.slice none 0 0,.bool false,.slice none 0 0,.slice none 0 0,.int .i64 (IntKind.i64.wrap ((D.f 3).n)),.slice none 0 0,.bool false,.slice none 0 0,.slice none 0 0],true⟩,⟨ap,0,[.int .i64 0,.slice none 0 0,.bool false,.slice (some ⟨aa,0,none⟩) 4 4,.slice ab D.u.length ac],true⟩] []) _ _ from (TreeR.mk (n:=IntKind.i64.wrap ((D.f 2).n)) (b:=false) (s:=[]) (l:=[]) (u:=[]) (fun _=>[]) (Octs.nil _ _) (Slots.nil _ _ _ _) (fun i_ x_ h_=>by simp at h_) (TagsR.nil _ _))).move (Step.refl _ Nil) nilM qbw,(show TreeR _ (Imm F w au [⟨b,o,[.string ((D.f 0).s),.string ((D.f 1).s),.int .u16 ((D.f 2).n),.int .i16 ((D.f 3).n),.map D.m],false⟩,⟨b6,0,[.int .i64 0,.slice none 0 0,.bool false,.slice (some ⟨aa,0,none⟩) 4 4,.slice ab D.u.length ac],true⟩,⟨aa,0,[.int .i64 0,.slice (some ⟨ah,0,none⟩) ((sb ((D.f 0).s)).length) ai,.bool false,.slice none 0 0,.slice none 0 0,.int .i64 0,.slice (some ⟨aj,0,none⟩) ((sb ((D.f 1).s)).length) ak,.bool false,.slice none 0 0,.slice none 0 0,.int .i64 (IntKind.i64.wrap ((D.f 2).n)),.slice none 0 0,.bool false,.slice none 0 0,.slice none 0 0,.int .i64 (IntKind.i64.wrap ((D.f 3).n)),.slice none 0 0,.bool false,.slice none 0 0,.slice none 0 0],true⟩,⟨ap,0,[.int .i64 0,.slice none 0 0,.bool false,.slice (some ⟨aa,0,none⟩) 4 4,.slice ab D.u.length ac],true⟩] []) _ _ from (TreeR.mk (n:=IntKind.i64.wrap ((D.f 3).n)) (b:=false) (s:=[]) (l:=[]) (u:=[]) (fun _=>[]) (Octs.nil _ _) (Slots.nil _ _ _ _) (fun i_ x_ h_=>by simp at h_) (TagsR.nil _ _))).move (Step.refl _ Nil) nilM qbw,trivial⟩ ((show TagsR _ (Imm F w au [⟨b,o,[.string ((D.f 0).s),.string ((D.f 1).s),.int .u16 ((D.f 2).n),.int .i16 ((D.f 3).n),.map D.m],false⟩,⟨b6,0,[.int .i64 0,.slice none 0 0,.bool false,.slice (some ⟨aa,0,none⟩) 4 4,.slice ab D.u.length ac],true⟩,⟨aa,0,[.int .i64 0,.slice (some ⟨ah,0,none⟩) ((sb ((D.f 0).s)).length) ai,.bool false,.slice none 0 0,.slice none 0 0,.int .i64 0,.slice (some ⟨aj,0,none⟩) ((sb ((D.f 1).s)).length) ak,.bool false,.slice none 0 0,.slice none 0 0,.int .i64 (IntKind.i64.wrap ((D.f 2).n)),.slice none 0 0,.bool false,.slice none 0 0,.slice none 0 0,.int .i64 (IntKind.i64.wrap ((D.f 3).n)),.slice none 0 0,.bool false,.slice none 0 0,.slice none 0 0],true⟩,⟨ap,0,[.int .i64 0,.slice none 0 0,.bool false,.slice (some ⟨aa,0,none⟩) 4 4,.slice ab D.u.length ac],true⟩] []) _ _ _ from (az.move (af.trans ag).step immM (af.trans ag).to')).move (Step.refl _ Nil) nilM qbw)
set_option maxHeartbeats 4000000 in
theorem qbl (v:Int) (D:DV) (b o:Nat) (w:World) (F:Nat → Nat → Prop) (hat:AtF w F b o [.string ((D.f 0).s),.int .i16 ((D.f 1).n),.int .i16 ((D.f 2).n),.map D.m]) (hok:qaQ w F D):Calls Tryz.prog 118 #[.pointer (some ⟨b,o,none⟩)] w (qdc w F (qaX D)):=by
 refine enter (n:=42) Tryz.func118 rfl Tryz.ntmps118 kz fun a hE=>?_
 have hW:WOk w Nil w [⟨b,o,[.string ((D.f 0).s),.int .i16 ((D.f 1).n),.int .i16 ((D.f 2).n),.map D.m],false⟩] []:=(WOk.start w Nil).start1 hat rfl rfl
 unfold qaQ at hok
 obtain ⟨g1,g2,g3,g4,g4l,g4x,_⟩:=hok
 have hE0:=(EnvOk.ptr0 (cs:=[.string ((D.f 0).s),.int .i16 ((D.f 1).n),.int .i16 ((D.f 2).n),.map D.m]) (r:=false) hE).pk (env':=[(0,.p 0 0)])
 refine qag [0] kz ?_
 refine qak (qaO hW hE0 (d:=2) (cs:=[.int .i64 0,.slice none 0 0,.bool false,.slice none 0 0,.slice none 0 0]) kz fun b5 a6 w7 hb8 hz9 bI aN aO=>?_)
 refine qah (qac ?_)
 refine qag [0,1,2,3] kz ?_
 refine qak (qey (t:=34) (e:=37) (size:=5) (bytes:=88) (d:=4) (j:=3) (.agg #[.int .i64 0,.slice none 0 0,.bool false,.slice none 0 0,.slice none 0 0]) [.int .i64 0,.slice none 0 0,.bool false,.slice none 0 0,.slice none 0 0,.int .i64 0,.slice none 0 0,.bool false,.slice none 0 0,.slice none 0 0,.int .i64 0,.slice none 0 0,.bool false,.slice none 0 0,.slice none 0 0] aN aO fun aa bX bY bJ bK bL aw aP=>?_)
 refine qal [1] [2,3] [(0,.p 0 0),(2,.p 1 0),(5,.v (.agg #[.int .i64 0,.slice none 0 0,.bool false,.slice (some ⟨aa,0,none⟩) 3 3,.slice none 0 0]))] aw aP fun bZ aQ=>?_
 refine qak (qaO aw aQ (d:=3) (cs:=[.int .i64 0,.slice none 0 0,.bool false,.slice none 0 0,.slice none 0 0]) kz fun aj b8 cd bM bN bO aR aS=>?_)
 refine qak (qam aR aS (oi:=3) (cs:=[.int .i64 0,.slice none 0 0,.bool false,.slice (some ⟨aa,0,none⟩) 3 3,.slice none 0 0]) kz fun ce bP aT aU=>?_)
 refine qah (qac ?_)
 refine qaK 9 kz aT fun cg bQ aV aW=>?_
 refine qaz [0,1,2,3,4,5] [(0,.p 0 0),(2,.p 1 0),(3,.p 3 0),(7,.v (.slice (some ⟨aa,0,none⟩) 3 3)),(11,.v (.string ((D.f 0).s)))] 4 (qab qaf) (fun _ h=>h.cells) aW aU fun cm aX=>?_
 refine qap (i:=6) kz (qdg (d:=12) (src:=9) (dst:=22) (e:=5) (s:=((D.f 0).s)) aV aX (by omega) fun ae af cq cr aY ax aZ ba=>?_)
 have bd:=aZ F
 have au:=TT.ofW aY ax
 refine ⟨fun _=>au,?_⟩
 refine qaz [7] [(0,.p 0 0),(2,.p 1 0),(3,.p 3 0),(7,.v (.slice (some ⟨aa,0,none⟩) 3 3)),(13,.v (.agg #[.int .i64 0,.slice (some ⟨ae,0,none⟩) ((sb ((D.f 0).s)).length) af,.bool false,.slice none 0 0,.slice none 0 0]))] 2 (qab qaf) (fun _ h=>h.cells) au ba fun cu bf=>?_
 refine qaC bf (i:=8) (t:=34) (A:=(some ⟨aa,0,none⟩)) (m:=3) (q:=0) (d:=14) kz (e:=37) (size:=5) (bytes:=88) (j:=0) kz (b:=aa) (o:=0) rfl rfl (by decide) kz kz (qab qaf) au fun cw bg=>?_
 have bh:=bg.recast 14 (.v (.pointer (some ⟨aa,0 + 0 * 5,none⟩))) (.p 2 0) rfl rfl (Nat.le_of_ble_eq_true (n:=3) rfl)
 have bi:=bh.pk (env':=[(0,.p 0 0),(2,.p 1 0),(3,.p 3 0),(7,.v (.slice (some ⟨aa,0,none⟩) 3 3)),(13,.v (.agg #[.int .i64 0,.slice (some ⟨ae,0,none⟩) ((sb ((D.f 0).s)).length) af,.bool false,.slice none 0 0,.slice none 0 0])),(14,.p 2 0)])
 refine qap (i:=9) kz (qam ax bi (oi:=2) (cs:=[.int .i64 0,.slice (some ⟨ae,0,none⟩) ((sb ((D.f 0).s)).length) af,.bool false,.slice none 0 0,.slice none 0 0,.int .i64 0,.slice none 0 0,.bool false,.slice none 0 0,.slice none 0 0,.int .i64 0,.slice none 0 0,.bool false,.slice none 0 0,.slice none 0 0]) kz fun cz ay bj bk=>?_)
 refine ⟨fun h=>absurd rfl h,?_⟩
 refine qay kz ?_ _
 refine qac ?_
 refine qaK 9 kz bj fun cA az bn aA=>?_
 refine qaz [0,1,2,3,4,5,6,7] [(0,.p 0 0),(2,.p 1 0),(3,.p 3 0),(16,.v (.slice (some ⟨aa,0,none⟩) 3 3)),(22,.v (.agg #[.int .i64 (IntKind.i64.wrap ((D.f 1).n)),.slice none 0 0,.bool false,.slice none 0 0,.slice none 0 0]))] 2 (qab qaf) (fun _ h=>h.cells) aA bk fun cB bo=>?_
 refine qaC bo (i:=8) (t:=34) (A:=(some ⟨aa,0,none⟩)) (m:=3) (q:=1) (d:=23) kz (e:=37) (size:=5) (bytes:=88) (j:=1) kz (b:=aa) (o:=0) rfl rfl (by decide) kz kz (qab qaf) aA fun cC bp=>?_
 have bq:=bp.recast 23 (.v (.pointer (some ⟨aa,0 + 1 * 5,none⟩))) (.p 2 5) rfl rfl (Nat.le_of_ble_eq_true (n:=3) rfl)
 have bt:=bq.pk (env':=[(0,.p 0 0),(2,.p 1 0),(3,.p 3 0),(16,.v (.slice (some ⟨aa,0,none⟩) 3 3)),(22,.v (.agg #[.int .i64 (IntKind.i64.wrap ((D.f 1).n)),.slice none 0 0,.bool false,.slice none 0 0,.slice none 0 0])),(23,.p 2 5)])
 refine qap (i:=9) kz (qam bn bt (oi:=2) (cs:=[.int .i64 0,.slice (some ⟨ae,0,none⟩) ((sb ((D.f 0).s)).length) af,.bool false,.slice none 0 0,.slice none 0 0,.int .i64 (IntKind.i64.wrap ((D.f 1).n)),.slice none 0 0,.bool false,.slice none 0 0,.slice none 0 0,.int .i64 0,.slice none 0 0,.bool false,.slice none 0 0,.slice none 0 0]) kz fun cD aB bu bw=>?_)
 refine ⟨fun h=>absurd rfl h,?_⟩
 refine qay kz ?_ _
 refine qac ?_
 refine qaK 9 kz bu fun cE aC bx aD=>?_
 refine qaz [0,1,2,3,4,5,6,7] [(0,.p 0 0),(2,.p 1 0),(3,.p 3 0),(25,.v (.slice (some ⟨aa,0,none⟩) 3 3)),(31,.v (.agg #[.int .i64 (IntKind.i64.wrap ((D.f 2).n)),.slice none 0 0,.bool false,.slice none 0 0,.slice none 0 0]))] 2 (qab qaf) (fun _ h=>h.cells) aD bw fun cG bz=>?_
 refine qaC bz (i:=8) (t:=34) (A:=(some ⟨aa,0,none⟩)) (m:=3) (q:=2) (d:=32) kz (e:=37) (size:=5) (bytes:=88) (j:=2) kz (b:=aa) (o:=0) rfl rfl (by decide) kz kz (qab qaf) aD fun cH bA=>?_
 have bB:=bA.recast 32 (.v (.pointer (some ⟨aa,0 + 2 * 5,none⟩))) (.p 2 10) rfl rfl (Nat.le_of_ble_eq_true (n:=3) rfl)
 have bC:=bB.pk (env':=[(0,.p 0 0),(2,.p 1 0),(3,.p 3 0),(25,.v (.slice (some ⟨aa,0,none⟩) 3 3)),(31,.v (.agg #[.int .i64 (IntKind.i64.wrap ((D.f 2).n)),.slice none 0 0,.bool false,.slice none 0 0,.slice none 0 0])),(32,.p 2 10)])
 refine qap (i:=9) kz (qam bx bC (oi:=2) (cs:=[.int .i64 0,.slice (some ⟨ae,0,none⟩) ((sb ((D.f 0).s)).length) af,.bool false,.slice none 0 0,.slice none 0 0,.int .i64 (IntKind.i64.wrap ((D.f 1).n)),.slice none 0 0,.bool false,.slice none 0 0,.slice none 0 0,.int .i64 (IntKind.i64.wrap ((D.f 2).n)),.slice none 0 0,.bool false,.slice none 0 0,.slice none 0 0]) kz fun bR aE ag bD=>?_)
 refine ⟨fun h=>absurd rfl h,?_⟩
 refine qay kz ?_ _
 refine qac ?_
 refine qag [0,1,2,3,4] kz ?_
 refine qal [0,1,2] [3,4] [(2,.p 1 0),(3,.p 3 0),(35,.p 0 3)] ag bD fun cI bE=>?_
 refine qak (qeJ bE (v:=.func (.func 176) #[] #[.pointer (some ⟨aj,0,none⟩)]) (d:=36) kz fun cJ bF=>?_)
 refine qak (qan bF (f:=103) (vs:=[.pointer (some ⟨b,o + 3,none⟩),.func (.func 176) #[] #[.pointer (some ⟨aj,0,none⟩)]]) (d:=37) kz Tryz.call103 (qfg (F:=(Imm F w bR [⟨b,o,[.string ((D.f 0).s),.int .i16 ((D.f 1).n),.int .i16 ((D.f 2).n),.map D.m],false⟩,⟨b5,0,[.int .i64 0,.slice none 0 0,.bool false,.slice none 0 0,.slice none 0 0],true⟩,⟨aa,0,[.int .i64 0,.slice (some ⟨ae,0,none⟩) ((sb ((D.f 0).s)).length) af,.bool false,.slice none 0 0,.slice none 0 0,.int .i64 (IntKind.i64.wrap ((D.f 1).n)),.slice none 0 0,.bool false,.slice none 0 0,.slice none 0 0,.int .i64 (IntKind.i64.wrap ((D.f 2).n)),.slice none 0 0,.bool false,.slice none 0 0,.slice none 0 0],true⟩,⟨aj,0,[.int .i64 0,.slice none 0 0,.bool false,.slice (some ⟨aa,0,none⟩) 3 3,.slice none 0 0],true⟩] [])) Tryz.call176 qcg ((hat.one 3 rfl).move ag.step nilM ag.imm) (g4.move ag.step nilM ag.imm) (Str.of ag 3 rfl) (qjE 3 rfl) g4l) ?_)
 rintro e_ cK ⟨rfl,ab,ac,aF,bG,bH⟩
 obtain ⟨av,al,aG⟩:=ag.wrote 3 [⟨b,o,[.string ((D.f 0).s),.int .i16 ((D.f 1).n),.int .i16 ((D.f 2).n),.map D.m],false⟩,⟨b5,0,[.int .i64 0,.slice none 0 0,.bool false,.slice none 0 0,.slice none 0 0],true⟩,⟨aa,0,[.int .i64 0,.slice (some ⟨ae,0,none⟩) ((sb ((D.f 0).s)).length) af,.bool false,.slice none 0 0,.slice none 0 0,.int .i64 (IntKind.i64.wrap ((D.f 1).n)),.slice none 0 0,.bool false,.slice none 0 0,.slice none 0 0,.int .i64 (IntKind.i64.wrap ((D.f 2).n)),.slice none 0 0,.bool false,.slice none 0 0,.slice none 0 0],true⟩,⟨aj,0,[.int .i64 0,.slice none 0 0,.bool false,.slice (some ⟨aa,0,none⟩) 3 3,.slice ab D.u.length ac],true⟩] rfl bH aF
 have am:=bG.move (Step.refl _ Nil) nilM (fun b_ o_ h_ hb_=>aG (G:=F) b_ o_ (.inr h_) hb_)
 refine ⟨_,rfl,fun bS aH=>?_⟩
 have aI:=(EnvOk.places (tb':=[⟨b,o,[.string ((D.f 0).s),.int .i16 ((D.f 1).n),.int .i16 ((D.f 2).n),.map D.m],false⟩,⟨b5,0,[.int .i64 0,.slice none 0 0,.bool false,.slice none 0 0,.slice none 0 0],true⟩,⟨aa,0,[.int .i64 0,.slice (some ⟨ae,0,none⟩) ((sb ((D.f 0).s)).length) af,.bool false,.slice none 0 0,.slice none 0 0,.int .i64 (IntKind.i64.wrap ((D.f 1).n)),.slice none 0 0,.bool false,.slice none 0 0,.slice none 0 0,.int .i64 (IntKind.i64.wrap ((D.f 2).n)),.slice none 0 0,.bool false,.slice none 0 0,.slice none 0 0],true⟩,⟨aj,0,[.int .i64 0,.slice none 0 0,.bool false,.slice (some ⟨aa,0,none⟩) 3 3,.slice ab D.u.length ac],true⟩]) aH (show Pl [⟨b,o,[.string ((D.f 0).s),.int .i16 ((D.f 1).n),.int .i16 ((D.f 2).n),.map D.m],false⟩,⟨b5,0,[.int .i64 0,.slice none 0 0,.bool false,.slice none 0 0,.slice none 0 0],true⟩,⟨aa,0,[.int .i64 0,.slice (some ⟨ae,0,none⟩) ((sb ((D.f 0).s)).length) af,.bool false,.slice none 0 0,.slice none 0 0,.int .i64 (IntKind.i64.wrap ((D.f 1).n)),.slice none 0 0,.bool false,.slice none 0 0,.slice none 0 0,.int .i64 (IntKind.i64.wrap ((D.f 2).n)),.slice none 0 0,.bool false,.slice none 0 0,.slice none 0 0],true⟩,⟨aj,0,[.int .i64 0,.slice none 0 0,.bool false,.slice (some ⟨aa,0,none⟩) 3 3,.slice none 0 0],true⟩] [⟨b,o,[.string ((D.f 0).s),.int .i16 ((D.f 1).n),.int .i16 ((D.f 2).n),.map D.m],false⟩,⟨b5,0,[.int .i64 0,.slice none 0 0,.bool false,.slice none 0 0,.slice none 0 0],true⟩,⟨aa,0,[.int .i64 0,.slice (some ⟨ae,0,none⟩) ((sb ((D.f 0).s)).length) af,.bool false,.slice none 0 0,.slice none 0 0,.int .i64 (IntKind.i64.wrap ((D.f 1).n)),.slice none 0 0,.bool false,.slice none 0 0,.slice none 0 0,.int .i64 (IntKind.i64.wrap ((D.f 2).n)),.slice none 0 0,.bool false,.slice none 0 0,.slice none 0 0],true⟩,⟨aj,0,[.int .i64 0,.slice none 0 0,.bool false,.slice (some ⟨aa,0,none⟩) 3 3,.slice ab D.u.length ac],true⟩] from ⟨rfl,rfl,⟨rfl,rfl,⟨rfl,rfl,⟨rfl,rfl,trivial⟩⟩⟩⟩)).pk (env':=[(37,.v (.tuple #[])),(2,.p 1 0),(3,.p 3 0),(35,.p 0 3),(36,.v (.func (.func 176) #[] #[.pointer (some ⟨aj,0,none⟩)]))])
 refine qah (qac ?_)
 refine qag [0,1,2] kz ?_
 refine qal [0,1] [2] [(2,.p 1 0),(3,.p 3 0),(39,.v (.slice ab D.u.length ac))] av aI fun bT aJ=>?_
 refine qak (qan aJ (f:=105) (vs:=[.slice ab D.u.length ac]) (d:=40) kz Tryz.call105 (qg6 am g4.sorted) ?_)
 rintro e_ bU ⟨rfl,ao⟩
 refine ⟨_,rfl,fun bV aK=>?_⟩
 have ap:=av.next_nil ao
 have ah:=av.frN ao
 refine qah (qac ?_)
 refine qag [0,1] kz ?_
 refine qal [0] [1] [(2,.p 1 0),(41,.v (.agg #[.int .i64 0,.slice none 0 0,.bool false,.slice (some ⟨aa,0,none⟩) 3 3,.slice ab D.u.length ac]))] ap aK fun bW aL=>?_
 refine qak (qam ap aL (oi:=1) (cs:=[.int .i64 0,.slice none 0 0,.bool false,.slice (some ⟨aa,0,none⟩) 3 3,.slice ab D.u.length ac]) kz fun ak ai ar aM=>?_)
 refine qah (qac ?_)
 refine wp_ret ?_
 refine qaV aM ar.cells (v:=.agg #[.int .i64 0,.slice none 0 0,.bool false,.slice (some ⟨aa,0,none⟩) 3 3,.slice ab D.u.length ac]) kz ?_
 exact qf1 (u:=D.u) (l:=[.mk 0 (sb (D.f 0).s) false [] [],.mk (IntKind.i64.wrap (D.f 1).n) [] false [] [],.mk (IntKind.i64.wrap (D.f 2).n) [] false [] []]) (css:=[[.int .i64 0,.slice (some ⟨ae,0,none⟩) ((sb ((D.f 0).s)).length) af,.bool false,.slice none 0 0,.slice none 0 0],[.int .i64 (IntKind.i64.wrap ((D.f 1).n)),.slice none 0 0,.bool false,.slice none 0 0,.slice none 0 0],[.int .i64 (IntKind.i64.wrap ((D.f 2).n)),.slice none 0 0,.bool false,.slice none 0 0,.slice none 0 0]]) ar 2 rfl ⟨(show TreeR _ (Imm F w ak [⟨b,o,[.string ((D.f 0).s),.int .i16 ((D.f 1).n),.int .i16 ((D.f 2).n),.map D.m],false⟩,⟨b5,0,[.int .i64 0,.slice none 0 0,.bool false,.slice (some ⟨aa,0,none⟩) 3 3,.slice ab D.u.length ac],true⟩,⟨aa,0,[.int .i64 0,.slice (some ⟨ae,0,none⟩) ((sb ((D.f 0).s)).length) af,.bool false,.slice none 0 0,.slice none 0 0,.int .i64 (IntKind.i64.wrap ((D.f 1).n)),.slice none 0 0,.bool false,.slice none 0 0,.slice none 0 0,.int .i64 (IntKind.i64.wrap ((D.f 2).n)),.slice none 0 0,.bool false,.slice none 0 0,.slice none 0 0],true⟩,⟨aj,0,[.int .i64 0,.slice none 0 0,.bool false,.slice (some ⟨aa,0,none⟩) 3 3,.slice ab D.u.length ac],true⟩] []) _ _ from (TreeR.mk (n:=0) (b:=false) (s:=(sb ((D.f 0).s))) (l:=[]) (u:=[]) (fun _=>[]) (bd.move (((((((ay.trans az).trans aB).trans aC).trans aE).trans al).trans ah).trans ai).step immM (((((((ay.trans az).trans aB).trans aC).trans aE).trans al).trans ah).trans ai).to') (Slots.nil _ _ _ _) (fun i_ x_ h_=>by simp at h_) (TagsR.nil _ _))).move (Step.refl _ Nil) nilM qbw,(show TreeR _ (Imm F w ak [⟨b,o,[.string ((D.f 0).s),.int .i16 ((D.f 1).n),.int .i16 ((D.f 2).n),.map D.m],false⟩,⟨b5,0,[.int .i64 0,.slice none 0 0,.bool false,.slice (some ⟨aa,0,none⟩) 3 3,.slice ab D.u.length ac],true⟩,⟨aa,0,[.int .i64 0,.slice (some ⟨ae,0,none⟩) ((sb ((D.f 0).s)).length) af,.bool false,.slice none 0 0,.slice none 0 0,.int .i64 (IntKind.i64.wrap ((D.f 1).n)),.slice none 0 0,.bool false,.slice none 0 0,.slice none 0 0,.int .i64 (IntKind.i64.wrap ((D.f 2).n)),.slice none 0 0,.bool false,.slice none 0 0,.slice none 0 0],true⟩,⟨aj,0,[.int .i64 0,.slice none 0 0,.bool false,.slice (some ⟨aa,0,none⟩) 3 3,.slice ab D.u.length ac],true⟩] []) _ _ from (TreeR.mk (n:=IntKind.i64.wrap ((D.f 1).n)) (b:=false) (s:=[]) (l:=[]) (u:=[]) (fun _=>[]) (Octs.nil _ _) (Slots.nil _ _ _ _) (fun i_ x_ h_=>by simp at h_) (TagsR.nil _ _))).move (Step.refl _ Nil) nilM qbw,(show TreeR _ (Imm F w ak [⟨b,o,[.string ((D.f 0).s),.int .i16 ((D.f 1).n),.int .i16 ((D.f 2).n),.map D.m],false⟩,⟨b5,0,[.int .i64 0,.slice none 0 0,.bool false,.slice (some ⟨aa,0,none⟩) 3 3,.slice ab D.u.length ac],true⟩,⟨aa,0,[.int .i64 0,.slice (some ⟨ae,0,none⟩) ((sb ((D.f 0).s)).length) af,.bool false,.slice none 0 0,.slice none 0 0,.int .i64 (IntKind.i64.wrap ((D.f 1).n)),.slice none 0 0,.bool false,.slice none 0 0,.slice none 0 0,.int .i64 (IntKind.i64.wrap ((D.f 2).n)),.slice none 0 0,.bool false,.slice none 0 0,.slice none 0 0],true⟩,⟨aj,0,[.int .i64 0,.slice none 0 0,.bool false,.slice (some ⟨aa,0,none⟩) 3 3,.slice ab D.u.length ac],true⟩] []) _ _ from (TreeR.mk (n:=IntKind.i64.wrap ((D.f 2).n)) (b:=false) (s:=[]) (l:=[]) (u:=[]) (fun _=>[]) (Octs.nil _ _) (Slots.nil _ _ _ _) (fun i_ x_ h_=>by simp at h_) (TagsR.nil _ _))).move (Step.refl _ Nil) nilM qbw,trivial⟩ ((show TagsR _ (Imm F w ak [⟨b,o,[.string ((D.f 0).s),.int .i16 ((D.f 1).n),.int .i16 ((D.f 2).n),.map D.m],false⟩,⟨b5,0,[.int .i64 0,.slice none 0 0,.bool false,.slice (some ⟨aa,0,none⟩) 3 3,.slice ab D.u.length ac],true⟩,⟨aa,0,[.int .i64 0,.slice (some ⟨ae,0,none⟩) ((sb ((D.f 0).s)).length) af,.bool false,.slice none 0 0,.slice none 0 0,.int .i64 (IntKind.i64.wrap ((D.f 1).n)),.slice none 0 0,.bool false,.slice none 0 0,.slice none 0 0,.int .i64 (IntKind.i64.wrap ((D.f 2).n)),.slice none 0 0,.bool false,.slice none 0 0,.slice none 0 0],true⟩,⟨aj,0,[.int .i64 0,.slice none 0 0,.bool false,.slice (some ⟨aa,0,none⟩) 3 3,.slice ab D.u.length ac],true⟩] []) _ _ _ from (am.move (ah.trans ai).step immM (ah.trans ai).to')).move (Step.refl _ Nil) nilM qbw)
set_option maxHeartbeats 4000000 in
theorem qcY (v:Int) (D:DV) (b o:Nat) (w:World) (F:Nat → Nat → Prop) (hat:AtF w F b o [.int .i16 v,.int .i32 ((D.f 0).n),.string ((D.f 1).s),qaa ((D.f 2).o.getD 0 0),qaa ((D.f 2).o.getD 1 0),qaa ((D.f 2).o.getD 2 0),qaa ((D.f 2).o.getD 3 0),qaa ((D.f 2).o.getD 4 0),qaa ((D.f 2).o.getD 5 0),qaa ((D.f 2).o.getD 6 0),qaa ((D.f 2).o.getD 7 0),qaa ((D.f 2).o.getD 8 0),qaa ((D.f 2).o.getD 9 0),qaa ((D.f 2).o.getD 10 0),qaa ((D.f 2).o.getD 11 0),qaa ((D.f 2).o.getD 12 0),qaa ((D.f 2).o.getD 13 0),qaa ((D.f 2).o.getD 14 0),qaa ((D.f 2).o.getD 15 0),.slice ((D.f 3).A) ((D.f 3).l) ((D.f 3).c),.slice ((D.f 4).A) ((D.f 4).l) ((D.f 4).c),.pointer ((D.f 5).A),.bool ((D.f 6).b),.slice ((D.f 7).A) ((D.f 7).l) ((D.f 7).c),.int .i64 ((D.f 8).n),.map D.m]) (hok:qaZ w F D):Calls Tryz.prog 70 #[.pointer (some ⟨b,o,none⟩)] w (qdc w F (qba D)):=by
 refine enter (n:=241) Tryz.func70 rfl Tryz.ntmps70 kz fun a hE=>?_
 have hW:WOk w Nil w [⟨b,o,[.int .i16 v,.int .i32 ((D.f 0).n),.string ((D.f 1).s),qaa ((D.f 2).o.getD 0 0),qaa ((D.f 2).o.getD 1 0),qaa ((D.f 2).o.getD 2 0),qaa ((D.f 2).o.getD 3 0),qaa ((D.f 2).o.getD 4 0),qaa ((D.f 2).o.getD 5 0),qaa ((D.f 2).o.getD 6 0),qaa ((D.f 2).o.getD 7 0),qaa ((D.f 2).o.getD 8 0),qaa ((D.f 2).o.getD 9 0),qaa ((D.f 2).o.getD 10 0),qaa ((D.f 2).o.getD 11 0),qaa ((D.f 2).o.getD 12 0),qaa ((D.f 2).o.getD 13 0),qaa ((D.f 2).o.getD 14 0),qaa ((D.f 2).o.getD 15 0),.slice ((D.f 3).A) ((D.f 3).l) ((D.f 3).c),.slice ((D.f 4).A) ((D.f 4).l) ((D.f 4).c),.pointer ((D.f 5).A),.bool ((D.f 6).b),.slice ((D.f 7).A) ((D.f 7).l) ((D.f 7).c),.int .i64 ((D.f 8).n),.map D.m],false⟩] []:=(WOk.start w Nil).start1 hat rfl rfl
 unfold qaZ at hok
 obtain ⟨g1,g2,g3,⟨g4,g4l,g4e⟩,⟨g5,g5l,g5e⟩,⟨g6,g6l⟩,g7,⟨g8,g8l,g8e⟩,g9,sS,g10l,g10x,_⟩:=hok
 have hE0:=(EnvOk.ptr0 (cs:=[.int .i16 v,.int .i32 ((D.f 0).n),.string ((D.f 1).s),qaa ((D.f 2).o.getD 0 0),qaa ((D.f 2).o.getD 1 0),qaa ((D.f 2).o.getD 2 0),qaa ((D.f 2).o.getD 3 0),qaa ((D.f 2).o.getD 4 0),qaa ((D.f 2).o.getD 5 0),qaa ((D.f 2).o.getD 6 0),qaa ((D.f 2).o.getD 7 0),qaa ((D.f 2).o.getD 8 0),qaa ((D.f 2).o.getD 9 0),qaa ((D.f 2).o.getD 10 0),qaa ((D.f 2).o.getD 11 0),qaa ((D.f 2).o.getD 12 0),qaa ((D.f 2).o.getD 13 0),qaa ((D.f 2).o.getD 14 0),qaa ((D.f 2).o.getD 15 0),.slice ((D.f 3).A) ((D.f 3).l) ((D.f 3).c),.slice ((D.f 4).A) ((D.f 4).l) ((D.f 4).c),.pointer ((D.f 5).A),.bool ((D.f 6).b),.slice ((D.f 7).A) ((D.f 7).l) ((D.f 7).c),.int .i64 ((D.f 8).n),.map D.m]) (r:=false) hE).pk (env':=[(0,.p 0 0)])
 have ma:=qjb (k:=3) (s:=(D.f 2).o) hat g3 (fun j hj=>by match j,hj with | 0,_=>rfl | 1,_=>rfl | 2,_=>rfl | 3,_=>rfl | 4,_=>rfl | 5,_=>rfl | 6,_=>rfl | 7,_=>rfl | 8,_=>rfl | 9,_=>rfl | 10,_=>rfl | 11,_=>rfl | 12,_=>rfl | 13,_=>rfl | 14,_=>rfl | 15,_=>rfl | n_ + 16,h_=>exact absurd h_ (by omega))
 refine qag [0] kz ?_
 refine qak (qaO hW hE0 (d:=2) (cs:=[.int .i64 0,.slice none 0 0,.bool false,.slice none 0 0,.slice none 0 0]) kz fun bI yX yY u3 u4 u6 ru rv=>?_)
 refine qah (qac ?_)
 refine qag [0,1,2,3] kz ?_
 refine qak (qey (t:=34) (e:=37) (size:=5) (bytes:=88) (d:=7) (j:=9) (.agg #[.int .i64 0,.slice none 0 0,.bool false,.slice none 0 0,.slice none 0 0]) (.int .i64 0 :: .slice none 0 0 :: .bool false :: .slice none 0 0 :: .slice none 0 0 :: .int .i64 0 :: .slice none 0 0 :: .bool false :: .slice none 0 0 :: .slice none 0 0 :: .int .i64 0 :: .slice none 0 0 :: .bool false :: .slice none 0 0 :: .slice none 0 0 :: .int .i64 0 :: .slice none 0 0 :: .bool false :: .slice none 0 0 :: .slice none 0 0 :: .int .i64 0 :: .slice none 0 0 :: .bool false :: .slice none 0 0 :: .slice none 0 0 :: .int .i64 0 :: .slice none 0 0 :: .bool false :: .slice none 0 0 :: .slice none 0 0 :: .int .i64 0 :: .slice none 0 0 :: .bool false :: .slice none 0 0 :: .slice none 0 0 :: .int .i64 0 :: .slice none 0 0 :: .bool false :: .slice none 0 0 :: .slice none 0 0 :: .int .i64 0 :: .slice none 0 0 :: .bool false :: .slice none 0 0 :: .slice none 0 0 :: []) ru rv fun aa yZ y8 u7 u9 va mc rx=>?_)
 refine qal [1] [2,3] [(0,.p 0 0),(2,.p 1 0),(8,.v (.agg #[.int .i64 0,.slice none 0 0,.bool false,.slice (some ⟨aa,0,none⟩) 9 9,.slice none 0 0]))] mc rx fun y9 ry=>?_
 refine qak (qaO mc ry (d:=3) (cs:=[.int .i64 0,.slice none 0 0,.bool false,.slice none 0 0,.slice none 0 0]) kz fun bj za zb vb vc vd rz rA=>?_)
 refine qak (qam rz rA (oi:=3) (cs:=[.int .i64 0,.slice none 0 0,.bool false,.slice (some ⟨aa,0,none⟩) 9 9,.slice none 0 0]) kz fun zc ve rB rC=>?_)
 refine qah (qac ?_)
 refine qaK 9 kz rB fun zd vf rD md=>?_
 refine qaz [0,1,2,3,4,5,6,7] [(0,.p 0 0),(2,.p 1 0),(3,.p 3 0),(10,.v (.slice (some ⟨aa,0,none⟩) 9 9)),(16,.v (.agg #[.int .i64 (IntKind.i64.wrap ((D.f 0).n)),.slice none 0 0,.bool false,.slice none 0 0,.slice none 0 0]))] 2 (qab qaf) (fun _ h=>h.cells) md rC fun ze rE=>?_
 refine qaC rE (i:=8) (t:=34) (A:=(some ⟨aa,0,none⟩)) (m:=9) (q:=0) (d:=17) kz (e:=37) (size:=5) (bytes:=88) (j:=0) kz (b:=aa) (o:=0) rfl rfl (by decide) kz kz (qab qaf) md fun zf rF=>?_
 have rG:=rF.recast 17 (.v (.pointer (some ⟨aa,0 + 0 * 5,none⟩))) (.p 2 0) rfl rfl (Nat.le_of_ble_eq_true (n:=3) rfl)
 have rH:=rG.pk (env':=[(0,.p 0 0),(2,.p 1 0),(3,.p 3 0),(10,.v (.slice (some ⟨aa,0,none⟩) 9 9)),(16,.v (.agg #[.int .i64 (IntKind.i64.wrap ((D.f 0).n)),.slice none 0 0,.bool false,.slice none 0 0,.slice none 0 0])),(17,.p 2 0)])
 refine qap (i:=9) kz (qam rD rH (oi:=2) (cs:=(.int .i64 (IntKind.i64.wrap ((D.f 0).n)) :: .slice none 0 0 :: .bool false :: .slice none 0 0 :: .slice none 0 0 :: .int .i64 0 :: .slice none 0 0 :: .bool false :: .slice none 0 0 :: .slice none 0 0 :: .int .i64 0 :: .slice none 0 0 :: .bool false :: .slice none 0 0 :: .slice none 0 0 :: .int .i64 0 :: .slice none 0 0 :: .bool false :: .slice none 0 0 :: .slice none 0 0 :: .int .i64 0 :: .slice none 0 0 :: .bool false :: .slice none 0 0 :: .slice none 0 0 :: .int .i64 0 :: .slice none 0 0 :: .bool false :: .slice none 0 0 :: .slice none 0 0 :: .int .i64 0 :: .slice none 0 0 :: .bool false :: .slice none 0 0 :: .slice none 0 0 :: .int .i64 0 :: .slice none 0 0 :: .bool false :: .slice none 0 0 :: .slice none 0 0 :: .int .i64 0 :: .slice none 0 0 :: .bool false :: .slice none 0 0 :: .slice none 0 0 :: [])) kz fun zg vg rI rJ=>?_)
 refine ⟨fun h=>absurd rfl h,?_⟩
 refine qay kz ?_ _
 refine qac ?_
 refine qaK 9 kz rI fun zh vh rK rL=>?_
 refine qaz [0,1,2,3,4,5] [(0,.p 0 0),(2,.p 1 0),(3,.p 3 0),(19,.v (.slice (some ⟨aa,0,none⟩) 9 9)),(23,.v (.string ((D.f 1).s)))] 4 (qab qaf) (fun _ h=>h.cells) rL rJ fun zi rM=>?_
 refine qap (i:=6) kz (qdg (d:=24) (src:=9) (dst:=22) (e:=5) (s:=((D.f 1).s)) rK rM (by omega) fun aS aT zj zk rN me rO rP=>?_)
 have rQ:=rO F
 have kh:=TT.ofW rN me
 refine ⟨fun _=>kh,?_⟩
 refine qaz [7] [(0,.p 0 0),(2,.p 1 0),(3,.p 3 0),(19,.v (.slice (some ⟨aa,0,none⟩) 9 9)),(25,.v (.agg #[.int .i64 0,.slice (some ⟨aS,0,none⟩) ((sb ((D.f 1).s)).length) aT,.bool false,.slice none 0 0,.slice none 0 0]))] 2 (qab qaf) (fun _ h=>h.cells) kh rP fun zl rR=>?_
 refine qaC rR (i:=8) (t:=34) (A:=(some ⟨aa,0,none⟩)) (m:=9) (q:=1) (d:=26) kz (e:=37) (size:=5) (bytes:=88) (j:=1) kz (b:=aa) (o:=0) rfl rfl (by decide) kz kz (qab qaf) kh fun zm rS=>?_
 have rT:=rS.recast 26 (.v (.pointer (some ⟨aa,0 + 1 * 5,none⟩))) (.p 2 5) rfl rfl (Nat.le_of_ble_eq_true (n:=3) rfl)
 have rU:=rT.pk (env':=[(0,.p 0 0),(2,.p 1 0),(3,.p 3 0),(19,.v (.slice (some ⟨aa,0,none⟩) 9 9)),(25,.v (.agg #[.int .i64 0,.slice (some ⟨aS,0,none⟩) ((sb ((D.f 1).s)).length) aT,.bool false,.slice none 0 0,.slice none 0 0])),(26,.p 2 5)])
 refine qap (i:=9) kz (qam me rU (oi:=2) (cs:=(.int .i64 (IntKind.i64.wrap ((D.f 0).n)) :: .slice none 0 0 :: .bool false :: .slice none 0 0 :: .slice none 0 0 :: .int .i64 0 :: .slice (some ⟨aS,0,none⟩) ((sb ((D.f 1).s)).length) aT :: .bool false :: .slice none 0 0 :: .slice none 0 0 :: .int .i64 0 :: .slice none 0 0 :: .bool false :: .slice none 0 0 :: .slice none 0 0 :: .int .i64 0 :: .slice none 0 0 :: .bool false :: .slice none 0 0 :: .slice none 0 0 :: .int .i64 0 :: .slice none 0 0 :: .bool false :: .slice none 0 0 :: .slice none 0 0 :: .int .i64 0 :: .slice none 0 0 :: .bool false :: .slice none 0 0 :: .slice none 0 0 :: .int .i64 0 :: .slice none 0 0 :: .bool false :: .slice none 0 0 :: .slice none 0 0 :: .int .i64 0 :: .slice none 0 0 :: .bool false :: .slice none 0 0 :: .slice none 0 0 :: .int .i64 0 :: .slice none 0 0 :: .bool false :: .slice none 0 0 :: .slice none 0 0 :: [])) kz fun zn mf rV rW=>?_)
 refine ⟨fun h=>absurd rfl h,?_⟩
 refine qay kz ?_ _
 refine qac ?_
 refine qaK 9 kz rV fun zo mg mh rX=>?_
 refine qaz [0,1,2,3,4,5] [(0,.p 0 0),(2,.p 1 0),(3,.p 3 0),(28,.v (.slice (some ⟨aa,0,none⟩) 9 9)),(32,.v (.slice (some ⟨b,o + 3,none⟩) 16 16))] 4 (qab qaf) (fun _ h=>h.cells) rX rW fun zp rY=>?_
 have gq:=mh.addNil 5 1
 have ki:=mh.frNil 5 1
 refine qap (i:=6) kz (qaJ gq rY (k:=0) (d:=33) (t:=22) (e:=5) (size:=1) (bytes:=1) (A:=none) (As:=(some ⟨b,o + 3,none⟩)) (m0:=0) (c:=0) (m:=16) (cs:=16) (xs:=[]) (news:=bc ((D.f 2).o)) kz kz rfl (ma.move gq.step nilM gq.imm).src (ma.move gq.step nilM gq.imm).cap (by omega) fun ab ac zq zr kj rZ r0=>?_)
 have r2:(⟨ab,ac,5,1,0 + 16,[] ++ bc ((D.f 2).o)⟩:Rw) = brow ab ac 5 ((D.f 2).o):=by rw [List.nil_append]; unfold brow; rw [g3]
 obtain ⟨mi,km⟩:=rZ.rowEq 0 [brow ab ac 5 ((D.f 2).o)] r2
 have mj:=EnvOk.pick r0 (ks:=[0,2,3,28,32,33]) (env':=[(0,.p 0 0),(2,.p 1 0),(3,.p 3 0),(28,.v (.slice (some ⟨aa,0,none⟩) 9 9)),(32,.v (.slice (some ⟨b,o + 3,none⟩) 16 16)),(33,.v (.slice ab (0 + 16) ac))]) kz
 have ml:=mj.cast (env':=[(0,.p 0 0),(2,.p 1 0),(3,.p 3 0),(28,.v (.slice (some ⟨aa,0,none⟩) 9 9)),(32,.v (.slice (some ⟨b,o + 3,none⟩) 16 16)),(33,.v (.slice ab (((D.f 2).o).length) ac))]) (by rw [g3])
 have gt:=TT.ofW ((ki.trans kj).trans km) mi
 refine ⟨fun _=>gt,?_⟩
 refine qaz [7] [(0,.p 0 0),(2,.p 1 0),(3,.p 3 0),(28,.v (.slice (some ⟨aa,0,none⟩) 9 9)),(34,.v (.agg #[.int .i64 0,.slice ab (((D.f 2).o).length) ac,.bool false,.slice none 0 0,.slice none 0 0]))] 2 (qab qaf) (fun _ h=>h.cells) gt ml fun vj mn=>?_
 refine qaC mn (i:=8) (t:=34) (A:=(some ⟨aa,0,none⟩)) (m:=9) (q:=2) (d:=35) kz (e:=37) (size:=5) (bytes:=88) (j:=2) kz (b:=aa) (o:=0) rfl rfl (by decide) kz kz (qab qaf) gt fun vk mo=>?_
 have mp:=mo.recast 35 (.v (.pointer (some ⟨aa,0 + 2 * 5,none⟩))) (.p 2 10) rfl rfl (Nat.le_of_ble_eq_true (n:=3) rfl)
 have mq:=mp.pk (env':=[(0,.p 0 0),(2,.p 1 0),(3,.p 3 0),(28,.v (.slice (some ⟨aa,0,none⟩) 9 9)),(34,.v (.agg #[.int .i64 0,.slice ab (((D.f 2).o).length) ac,.bool false,.slice none 0 0,.slice none 0 0])),(35,.p 2 10)])
 refine qap (i:=9) kz (qam mi mq (oi:=2) (cs:=(.int .i64 (IntKind.i64.wrap ((D.f 0).n)) :: .slice none 0 0 :: .bool false :: .slice none 0 0 :: .slice none 0 0 :: .int .i64 0 :: .slice (some ⟨aS,0,none⟩) ((sb ((D.f 1).s)).length) aT :: .bool false :: .slice none 0 0 :: .slice none 0 0 :: .int .i64 0 :: .slice ab (((D.f 2).o).length) ac :: .bool false :: .slice none 0 0 :: .slice none 0 0 :: .int .i64 0 :: .slice none 0 0 :: .bool false :: .slice none 0 0 :: .slice none 0 0 :: .int .i64 0 :: .slice none 0 0 :: .bool false :: .slice none 0 0 :: .slice none 0 0 :: .int .i64 0 :: .slice none 0 0 :: .bool false :: .slice none 0 0 :: .slice none 0 0 :: .int .i64 0 :: .slice none 0 0 :: .bool false :: .slice none 0 0 :: .slice none 0 0 :: .int .i64 0 :: .slice none 0 0 :: .bool false :: .slice none 0 0 :: .slice none 0 0 :: .int .i64 0 :: .slice none 0 0 :: .bool false :: .slice none 0 0 :: .slice none 0 0 :: [])) kz fun vl jd mr mt=>?_)
 refine ⟨fun h=>absurd rfl h,?_⟩
 refine qay kz ?_ _
 refine qac ?_
 refine qaK 9 kz mr fun vm je mu gv=>?_
 refine qaz [0,1,2,3,4,5,6] [(0,.p 0 0),(2,.p 1 0),(3,.p 3 0),(37,.v (.slice (some ⟨aa,0,none⟩) 9 9)),(42,.v (.bool (((D.f 3).A).isNone)))] 3 (qab qaf) (fun _ h=>h.cells) gv mt fun vn mw=>?_
 refine qap (i:=7) kz (qas mw (t:=34) (A:=(some ⟨aa,0,none⟩)) (m:=9) (q:=3) (d:=43) kz (e:=37) (size:=5) (bytes:=88) (j:=3) kz (b:=aa) (o:=0) rfl rfl (by decide) fun vo mx=>?_)
 have my:=mx.recast 43 (.v (.pointer (some ⟨aa,0 + 3 * 5,none⟩))) (.p 2 15) rfl rfl (Nat.le_of_ble_eq_true (n:=3) rfl)
 have mz:=my.pk (env':=[(0,.p 0 0),(2,.p 1 0),(3,.p 3 0),(37,.v (.slice (some ⟨aa,0,none⟩) 9 9)),(42,.v (.bool (((D.f 3).A).isNone))),(43,.p 2 15)])
 refine ⟨fun _=>gv,?_⟩
 refine qaz [8] [(0,.p 0 0),(2,.p 1 0),(3,.p 3 0),(42,.v (.bool (((D.f 3).A).isNone))),(44,.p 2 17)] 1 (qab qaf) (fun _ h=>h.cells) gv mz fun vp mA=>?_
 refine qap (i:=9) kz (qam mu mA (oi:=2) (cs:=(.int .i64 (IntKind.i64.wrap ((D.f 0).n)) :: .slice none 0 0 :: .bool false :: .slice none 0 0 :: .slice none 0 0 :: .int .i64 0 :: .slice (some ⟨aS,0,none⟩) ((sb ((D.f 1).s)).length) aT :: .bool false :: .slice none 0 0 :: .slice none 0 0 :: .int .i64 0 :: .slice ab (((D.f 2).o).length) ac :: .bool false :: .slice none 0 0 :: .slice none 0 0 :: .int .i64 0 :: .slice none 0 0 :: .bool (((D.f 3).A).isNone) :: .slice none 0 0 :: .slice none 0 0 :: .int .i64 0 :: .slice none 0 0 :: .bool false :: .slice none 0 0 :: .slice none 0 0 :: .int .i64 0 :: .slice none 0 0 :: .bool false :: .slice none 0 0 :: .slice none 0 0 :: .int .i64 0 :: .slice none 0 0 :: .bool false :: .slice none 0 0 :: .slice none 0 0 :: .int .i64 0 :: .slice none 0 0 :: .bool false :: .slice none 0 0 :: .slice none 0 0 :: .int .i64 0 :: .slice none 0 0 :: .bool false :: .slice none 0 0 :: .slice none 0 0 :: [])) kz fun vq jf gw mB=>?_)
 refine ⟨fun h=>absurd rfl h,?_⟩
 refine qay kz ?_ _
 refine qac ?_
 refine wp_seq ?_
 refine qav [(0,.p 0 0),(2,.p 1 0),(3,.p 3 0),(49,.v (.int .i64 (((D.f 3).l:Nat):Int))),(50,.v (.int .i64 0))] gw mB fun vr mC=>?_
 refine wp_block ?_
 have jg:=gw.addNil 37 5
 have jh:=gw.frNil 37 5
 refine wp_loop_ghost (fun n_ a_ w_=>∃ (k3_:Nat) (A3_:Option Addr) (c3_:Nat) (xs3_:List Value) (css3_:List (List Value)),n_ = (D.f 3).l - k3_ ∧ k3_ ≤ (D.f 3).l ∧ (Trees w_ (Imm F w w_ [⟨b,o,[.int .i16 v,.int .i32 ((D.f 0).n),.string ((D.f 1).s),qaa ((D.f 2).o.getD 0 0),qaa ((D.f 2).o.getD 1 0),qaa ((D.f 2).o.getD 2 0),qaa ((D.f 2).o.getD 3 0),qaa ((D.f 2).o.getD 4 0),qaa ((D.f 2).o.getD 5 0),qaa ((D.f 2).o.getD 6 0),qaa ((D.f 2).o.getD 7 0),qaa ((D.f 2).o.getD 8 0),qaa ((D.f 2).o.getD 9 0),qaa ((D.f 2).o.getD 10 0),qaa ((D.f 2).o.getD 11 0),qaa ((D.f 2).o.getD 12 0),qaa ((D.f 2).o.getD 13 0),qaa ((D.f 2).o.getD 14 0),qaa ((D.f 2).o.getD 15 0),.slice ((D.f 3).A) ((D.f 3).l) ((D.f 3).c),.slice ((D.f 4).A) ((D.f 4).l) ((D.f 4).c),.pointer ((D.f 5).A),.bool ((D.f 6).b),.slice ((D.f 7).A) ((D.f 7).l) ((D.f 7).c),.int .i64 ((D.f 8).n),.map D.m],false⟩,⟨bI,0,[.int .i64 0,.slice none 0 0,.bool false,.slice none 0 0,.slice none 0 0],true⟩,⟨aa,0,(.int .i64 (IntKind.i64.wrap ((D.f 0).n)) :: .slice none 0 0 :: .bool false :: .slice none 0 0 :: .slice none 0 0 :: .int .i64 0 :: .slice (some ⟨aS,0,none⟩) ((sb ((D.f 1).s)).length) aT :: .bool false :: .slice none 0 0 :: .slice none 0 0 :: .int .i64 0 :: .slice ab (((D.f 2).o).length) ac :: .bool false :: .slice none 0 0 :: .slice none 0 0 :: .int .i64 0 :: .slice none 0 0 :: .bool (((D.f 3).A).isNone) :: .slice A3_ k3_ c3_ :: .slice none 0 0 :: .int .i64 0 :: .slice none 0 0 :: .bool false :: .slice none 0 0 :: .slice none 0 0 :: .int .i64 0 :: .slice none 0 0 :: .bool false :: .slice none 0 0 :: .slice none 0 0 :: .int .i64 0 :: .slice none 0 0 :: .bool false :: .slice none 0 0 :: .slice none 0 0 :: .int .i64 0 :: .slice none 0 0 :: .bool false :: .slice none 0 0 :: .slice none 0 0 :: .int .i64 0 :: .slice none 0 0 :: .bool false :: .slice none 0 0 :: .slice none 0 0 :: []),true⟩,⟨bj,0,[.int .i64 0,.slice none 0 0,.bool false,.slice (some ⟨aa,0,none⟩) 9 9,.slice none 0 0],true⟩] [brow ab ac 5 ((D.f 2).o),⟨A3_,c3_,37,5,k3_,xs3_⟩]) xs3_ (((List.range (D.f 3).l).map (fun i=>qaU ((D.f 3).f i))).take k3_) css3_) ∧ LInv jg 241 [⟨b,o,[.int .i16 v,.int .i32 ((D.f 0).n),.string ((D.f 1).s),qaa ((D.f 2).o.getD 0 0),qaa ((D.f 2).o.getD 1 0),qaa ((D.f 2).o.getD 2 0),qaa ((D.f 2).o.getD 3 0),qaa ((D.f 2).o.getD 4 0),qaa ((D.f 2).o.getD 5 0),qaa ((D.f 2).o.getD 6 0),qaa ((D.f 2).o.getD 7 0),qaa ((D.f 2).o.getD 8 0),qaa ((D.f 2).o.getD 9 0),qaa ((D.f 2).o.getD 10 0),qaa ((D.f 2).o.getD 11 0),qaa ((D.f 2).o.getD 12 0),qaa ((D.f 2).o.getD 13 0),qaa ((D.f 2).o.getD 14 0),qaa ((D.f 2).o.getD 15 0),.slice ((D.f 3).A) ((D.f 3).l) ((D.f 3).c),.slice ((D.f 4).A) ((D.f 4).l) ((D.f 4).c),.pointer ((D.f 5).A),.bool ((D.f 6).b),.slice ((D.f 7).A) ((D.f 7).l) ((D.f 7).c),.int .i64 ((D.f 8).n),.map D.m],false⟩,⟨bI,0,[.int .i64 0,.slice none 0 0,.bool false,.slice none 0 0,.slice none 0 0],true⟩,⟨aa,0,(.int .i64 (IntKind.i64.wrap ((D.f 0).n)) :: .slice none 0 0 :: .bool false :: .slice none 0 0 :: .slice none 0 0 :: .int .i64 0 :: .slice (some ⟨aS,0,none⟩) ((sb ((D.f 1).s)).length) aT :: .bool false :: .slice none 0 0 :: .slice none 0 0 :: .int .i64 0 :: .slice ab (((D.f 2).o).length) ac :: .bool false :: .slice none 0 0 :: .slice none 0 0 :: .int .i64 0 :: .slice none 0 0 :: .bool (((D.f 3).A).isNone) :: .slice A3_ k3_ c3_ :: .slice none 0 0 :: .int .i64 0 :: .slice none 0 0 :: .bool false :: .slice none 0 0 :: .slice none 0 0 :: .int .i64 0 :: .slice none 0 0 :: .bool false :: .slice none 0 0 :: .slice none 0 0 :: .int .i64 0 :: .slice none 0 0 :: .bool false :: .slice none 0 0 :: .slice none 0 0 :: .int .i64 0 :: .slice none 0 0 :: .bool false :: .slice none 0 0 :: .slice none 0 0 :: .int .i64 0 :: .slice none 0 0 :: .bool false :: .slice none 0 0 :: .slice none 0 0 :: []),true⟩,⟨bj,0,[.int .i64 0,.slice none 0 0,.bool false,.slice (some ⟨aa,0,none⟩) 9 9,.slice none 0 0],true⟩] [brow ab ac 5 ((D.f 2).o),⟨A3_,c3_,37,5,k3_,xs3_⟩] [(0,.p 0 0),(2,.p 1 0),(3,.p 3 0),(49,.v (.int .i64 (((D.f 3).l:Nat):Int))),(50,.v (.int .i64 ((k3_:Nat):Int)))] a_ w_) ((D.f 3).l) ⟨0,none,0,[],[],by omega,by omega,Trees.nil _ _,mC.pk,jg,Fr.refl _ _ _⟩ ?_
 rintro vt vu vv ⟨k3_,A3_,c3_,xs3_,css3_,sT,sU,hT3_,mD,fr,eB⟩
 refine qav [(0,.p 0 0),(2,.p 1 0),(3,.p 3 0),(49,.v (.int .i64 (((D.f 3).l:Nat):Int))),(50,.v (.int .i64 ((k3_:Nat):Int))),(51,.v (.bool (decide (((k3_:Nat):Int) < (((D.f 3).l:Nat):Int)))))] fr mD fun vw gx=>?_
 refine wp_seq ?_
 refine qaD gx (b:=decide (((k3_:Nat):Int) < (((D.f 3).l:Nat):Int))) kz (fun gy=>?_) (fun gy=>?_)
 ·
  have sV:=of_decide_eq_true gy
  refine wp_skip ?_
  refine qac ?_
  refine wp_seq ?_
  refine wp_block ?_
  refine qav [(0,.p 0 0),(2,.p 1 0),(3,.p 3 0),(4,.v (.int .i64 ((k3_:Nat):Int))),(49,.v (.int .i64 (((D.f 3).l:Nat):Int))),(50,.v (.int .i64 ((k3_:Nat):Int)))] fr gx fun vx mF=>?_
  refine qaK 4 kz fr fun vy bz mG sW=>?_
  refine qap (i:=0) kz (qaO mG mF (d:=53) (cs:=[.bool false]) kz fun vz vA vB sX sY aA gz ji=>?_)
  have mH:=TT.ofW aA gz
  refine ⟨fun _=>mH,?_⟩
  refine qdR (i:=1) (j:=2) kz ?_ ?_
  ·
   refine (qam gz ji (oi:=4) (cs:=[.bool true]) kz fun vC dr jj mI=>?_)
   have mJ:=TT.ofW (aA.trans dr) jj
   refine ⟨fun _=>mJ,?_⟩
   refine qap (i:=2) kz (qam jj mI (oi:=4) (cs:=[.bool false]) kz fun vD eC ft mK=>?_)
   have mL:=TT.ofW ((aA.trans dr).trans eC) ft
   refine ⟨fun _=>mL,?_⟩
   refine qap (i:=3) kz (qbs [0,2,3,4,49,50,54] ft.cells mK (env':=[(0,.p 0 0),(2,.p 1 0),(3,.p 3 0),(4,.v (.int .i64 ((k3_:Nat):Int))),(49,.v (.int .i64 (((D.f 3).l:Nat):Int))),(50,.v (.int .i64 ((k3_:Nat):Int))),(54,.v (.bool false))]) kz fun vE jk=>?_)
   have mM:=TT.ofW ((aA.trans dr).trans eC) ft
   refine ⟨fun _=>mM,?_⟩
   refine qay kz ?_ _
   refine qac ?_
   refine qau jk (b:=false) kz rfl ?_
   refine qcs 18 kz ft fun vF gA cu fu=>?_
   refine qaz [0,1,2,3,7,8,9,10,11] [(0,.p 0 0),(2,.p 1 0),(3,.p 3 0),(49,.v (.int .i64 (((D.f 3).l:Nat):Int))),(50,.v (.int .i64 ((k3_:Nat):Int))),(74,.v (.slice (some ⟨aa,0,none⟩) 9 9)),(76,.v (.slice (some ⟨aa,0,none⟩) 9 9)),(83,.v (.slice ((D.f 3).A) ((D.f 3).l) ((D.f 3).c))),(84,.v (.int .i64 ((k3_:Nat):Int)))] 10 (qae (qab (qab (qae (qab qaf))))) (fun _ h=>h.cells) fu jk fun vG mN=>?_
   refine qaC mN (i:=4) (t:=34) (A:=(some ⟨aa,0,none⟩)) (m:=9) (q:=3) (d:=77) kz (e:=37) (size:=5) (bytes:=88) (j:=3) kz (b:=aa) (o:=0) rfl rfl (by decide) kz kz (qae (qab (qab (qae (qab qaf))))) fu fun vH mO=>?_
   have mQ:=mO.recast 77 (.v (.pointer (some ⟨aa,0 + 3 * 5,none⟩))) (.p 2 15) rfl rfl (Nat.le_of_ble_eq_true (n:=3) rfl)
   have mR:=mQ.pk (env':=[(0,.p 0 0),(2,.p 1 0),(3,.p 3 0),(49,.v (.int .i64 (((D.f 3).l:Nat):Int))),(50,.v (.int .i64 ((k3_:Nat):Int))),(74,.v (.slice (some ⟨aa,0,none⟩) 9 9)),(76,.v (.slice (some ⟨aa,0,none⟩) 9 9)),(83,.v (.slice ((D.f 3).A) ((D.f 3).l) ((D.f 3).c))),(84,.v (.int .i64 ((k3_:Nat):Int))),(77,.p 2 15)])
   refine qaz [5,6] [(0,.p 0 0),(2,.p 1 0),(3,.p 3 0),(49,.v (.int .i64 (((D.f 3).l:Nat):Int))),(50,.v (.int .i64 ((k3_:Nat):Int))),(74,.v (.slice (some ⟨aa,0,none⟩) 9 9)),(79,.v (.slice A3_ k3_ c3_)),(83,.v (.slice ((D.f 3).A) ((D.f 3).l) ((D.f 3).c))),(84,.v (.int .i64 ((k3_:Nat):Int)))] 7 (qae (qab (qab (qae (qab qaf))))) (fun _ h=>h.cells) fu mR fun vI mS=>?_
   obtain ⟨mT,mU,mV,sZ,ko⟩:=Slots.get g4 (i:=k3_) (by omega)
   refine qaC mS (i:=12) (t:=130) (A:=(D.f 3).A) (m:=((D.f 3).l)) (q:=((k3_:Nat):Int)) (d:=85) kz (e:=138) (size:=5) (bytes:=48) kz mV rfl (by omega) kz kz (qae (qab (qab (qae (qab qaf))))) fu fun vJ mW=>?_
   refine qap (i:=13) kz (qan mW (f:=117) (vs:=[.pointer (some ⟨mT,mU + k3_ * 5,none⟩)]) (d:=86) kz Tryz.call117 (qbi 0 ((D.f 3).f k3_) _ _ _ _ (ko.move cu.step nilM cu.imm) (qaT _ cu.step nilM cu.imm (g4e k3_ (by omega)))) ?_)
   rintro e_ vK ⟨s0,rfl,mX,gB⟩
   have gC:=mX.move (Step.refl _ Nil) nilM (cu.laid (G:=F) gB)
   obtain ⟨fO,fP,fQ,fR,fS,fT,fU,fV,fW,fX,fY,s4,s5,gD,r3,r4,vL,vM⟩:=gC.open_
   rw [gD] at gC
   have r5:=r3.small
   have r6:=r4.small
   rw [gD]
   refine ⟨_,rfl,fun vN mY=>?_⟩
   have jl:=cu.next_nil gB
   have cw:=cu.frN gB
   have mZ:=TT.ofW cw jl
   refine ⟨fun _=>mZ,?_⟩
   refine qap (i:=14) kz (qby jl mY (e:=37) (size:=5) (len:=1) (cs:=[.int .i64 fO,.slice fT fP.length fU,.bool fQ,.slice fV fR.length fW,.slice fX fS.length fY]) (d:=87) kz kz fun m4 vO vP s6 s7 bQ fv m5=>?_)
   have m6:=TT.ofW (cw.trans bQ) fv
   refine ⟨fun _=>m6,?_⟩
   refine qap (i:=15) kz (qaJ fv m5 (k:=1) (d:=88) (t:=34) (e:=37) (size:=5) (bytes:=88) (A:=A3_) (As:=(some ⟨m4,0,none⟩)) (m0:=k3_) (c:=c3_) (m:=1) (cs:=1) (xs:=xs3_) (news:=[.int .i64 fO,.slice fT fP.length fU,.bool fQ,.slice fV fR.length fW,.slice fX fS.length fY]) kz kz rfl (qbr (fv.own 2 _ rfl) (qbp kz)) (qbz (fv.own 2 _ rfl)) (by omega) fun fZ f5 vQ vR cz gE m7=>?_)
   have m8:=TT.ofW ((cw.trans bQ).trans cz) gE
   refine ⟨fun _=>m8,?_⟩
   refine qap (i:=16) kz (qas m7 (t:=34) (A:=(some ⟨aa,0,none⟩)) (m:=9) (q:=3) (d:=89) kz (e:=37) (size:=5) (bytes:=88) (j:=3) kz (b:=aa) (o:=0) rfl rfl (by decide) fun vS m9=>?_)
   have nf:=m9.recast 89 (.v (.pointer (some ⟨aa,0 + 3 * 5,none⟩))) (.p 2 15) rfl rfl (Nat.le_of_ble_eq_true (n:=3) rfl)
   have ng:=nf.pk (env':=[(0,.p 0 0),(2,.p 1 0),(3,.p 3 0),(49,.v (.int .i64 (((D.f 3).l:Nat):Int))),(50,.v (.int .i64 ((k3_:Nat):Int))),(74,.v (.slice (some ⟨aa,0,none⟩) 9 9)),(79,.v (.slice A3_ k3_ c3_)),(83,.v (.slice ((D.f 3).A) ((D.f 3).l) ((D.f 3).c))),(84,.v (.int .i64 ((k3_:Nat):Int))),(85,.v (.pointer (some ⟨mT,mU + k3_ * 5,none⟩))),(86,.v (.agg #[.int .i64 fO,.slice fT fP.length fU,.bool fQ,.slice fV fR.length fW,.slice fX fS.length fY])),(87,.v (.slice (some ⟨m4,0,none⟩) 1 1)),(88,.v (.slice fZ (k3_ + 1) f5)),(89,.p 2 15)])
   have jm:=TT.ofW ((cw.trans bQ).trans cz) gE
   refine ⟨fun _=>jm,?_⟩
   refine qaz [17] [(0,.p 0 0),(2,.p 1 0),(3,.p 3 0),(49,.v (.int .i64 (((D.f 3).l:Nat):Int))),(50,.v (.int .i64 ((k3_:Nat):Int))),(88,.v (.slice fZ (k3_ + 1) f5)),(90,.p 2 18)] 1 (qae (qab (qab (qae (qab qaf))))) (fun _ h=>h.cells) jm ng fun vT nh=>?_
   refine qap (i:=18) kz (qam gE nh (oi:=2) (cs:=(.int .i64 (IntKind.i64.wrap ((D.f 0).n)) :: .slice none 0 0 :: .bool false :: .slice none 0 0 :: .slice none 0 0 :: .int .i64 0 :: .slice (some ⟨aS,0,none⟩) ((sb ((D.f 1).s)).length) aT :: .bool false :: .slice none 0 0 :: .slice none 0 0 :: .int .i64 0 :: .slice ab (((D.f 2).o).length) ac :: .bool false :: .slice none 0 0 :: .slice none 0 0 :: .int .i64 0 :: .slice none 0 0 :: .bool (((D.f 3).A).isNone) :: .slice fZ (k3_ + 1) f5 :: .slice none 0 0 :: .int .i64 0 :: .slice none 0 0 :: .bool false :: .slice none 0 0 :: .slice none 0 0 :: .int .i64 0 :: .slice none 0 0 :: .bool false :: .slice none 0 0 :: .slice none 0 0 :: .int .i64 0 :: .slice none 0 0 :: .bool false :: .slice none 0 0 :: .slice none 0 0 :: .int .i64 0 :: .slice none 0 0 :: .bool false :: .slice none 0 0 :: .slice none 0 0 :: .int .i64 0 :: .slice none 0 0 :: .bool false :: .slice none 0 0 :: .slice none 0 0 :: [])) kz fun vU eD jn ni=>?_)
   refine ⟨fun h=>absurd rfl h,?_⟩
   refine qay kz ?_ _
   refine qax ?_
   refine qac ?_
   refine qaq [0,1] kz ?_
   refine qal [0,1] [] [(0,.p 0 0),(2,.p 1 0),(3,.p 3 0),(49,.v (.int .i64 (((D.f 3).l:Nat):Int))),(50,.v (.int .i64 (IntKind.i64.wrap (((k3_:Nat):Int) + 1))))] jn ni fun vV nj=>?_
   refine qah (qac ?_)
   obtain ⟨jo,nk,eE⟩:=jn.cutB nj 4 [⟨b,o,[.int .i16 v,.int .i32 ((D.f 0).n),.string ((D.f 1).s),qaa ((D.f 2).o.getD 0 0),qaa ((D.f 2).o.getD 1 0),qaa ((D.f 2).o.getD 2 0),qaa ((D.f 2).o.getD 3 0),qaa ((D.f 2).o.getD 4 0),qaa ((D.f 2).o.getD 5 0),qaa ((D.f 2).o.getD 6 0),qaa ((D.f 2).o.getD 7 0),qaa ((D.f 2).o.getD 8 0),qaa ((D.f 2).o.getD 9 0),qaa ((D.f 2).o.getD 10 0),qaa ((D.f 2).o.getD 11 0),qaa ((D.f 2).o.getD 12 0),qaa ((D.f 2).o.getD 13 0),qaa ((D.f 2).o.getD 14 0),qaa ((D.f 2).o.getD 15 0),.slice ((D.f 3).A) ((D.f 3).l) ((D.f 3).c),.slice ((D.f 4).A) ((D.f 4).l) ((D.f 4).c),.pointer ((D.f 5).A),.bool ((D.f 6).b),.slice ((D.f 7).A) ((D.f 7).l) ((D.f 7).c),.int .i64 ((D.f 8).n),.map D.m],false⟩,⟨bI,0,[.int .i64 0,.slice none 0 0,.bool false,.slice none 0 0,.slice none 0 0],true⟩,⟨aa,0,(.int .i64 (IntKind.i64.wrap ((D.f 0).n)) :: .slice none 0 0 :: .bool false :: .slice none 0 0 :: .slice none 0 0 :: .int .i64 0 :: .slice (some ⟨aS,0,none⟩) ((sb ((D.f 1).s)).length) aT :: .bool false :: .slice none 0 0 :: .slice none 0 0 :: .int .i64 0 :: .slice ab (((D.f 2).o).length) ac :: .bool false :: .slice none 0 0 :: .slice none 0 0 :: .int .i64 0 :: .slice none 0 0 :: .bool (((D.f 3).A).isNone) :: .slice fZ (k3_ + 1) f5 :: .slice none 0 0 :: .int .i64 0 :: .slice none 0 0 :: .bool false :: .slice none 0 0 :: .slice none 0 0 :: .int .i64 0 :: .slice none 0 0 :: .bool false :: .slice none 0 0 :: .slice none 0 0 :: .int .i64 0 :: .slice none 0 0 :: .bool false :: .slice none 0 0 :: .slice none 0 0 :: .int .i64 0 :: .slice none 0 0 :: .bool false :: .slice none 0 0 :: .slice none 0 0 :: .int .i64 0 :: .slice none 0 0 :: .bool false :: .slice none 0 0 :: .slice none 0 0 :: []),true⟩,⟨bj,0,[.int .i64 0,.slice none 0 0,.bool false,.slice (some ⟨aa,0,none⟩) 9 9,.slice none 0 0],true⟩] [(0,.p 0 0),(2,.p 1 0),(3,.p 3 0),(49,.v (.int .i64 (((D.f 3).l:Nat):Int))),(50,.v (.int .i64 (IntKind.i64.wrap (((k3_:Nat):Int) + 1))))]
   obtain ⟨nl,eF⟩:=nk.cutR 2 [brow ab ac 5 ((D.f 2).o),⟨fZ,f5,37,5,k3_ + 1,xs3_ ++ [.int .i64 fO,.slice fT fP.length fU,.bool fQ,.slice fV fR.length fW,.slice fX fS.length fY]⟩]
   have nm:IntKind.i64.wrap (((k3_:Nat):Int) + 1) = ((k3_ + 1:Nat):Int):=qa1 (by omega)
   rw [nm] at jo
   exact ⟨(D.f 3).l - (k3_ + 1),by omega,k3_ + 1,fZ,f5,xs3_ ++ [Value.int .i64 fO,.slice fT fP.length fU,.bool fQ,.slice fV fR.length fW,.slice fX fS.length fY],(css3_ ++ [[Value.int .i64 fO,.slice fT fP.length fU,.bool fQ,.slice fV fR.length fW,.slice fX fS.length fY]]),rfl,by omega,by rw [qb9 (by omega)]; exact (hT3_.move ((((((((((bz.trans aA).trans dr).trans eC).trans gA).trans cw).trans bQ).trans cz).trans eD).trans eE).trans eF).step immM ((((((((((bz.trans aA).trans dr).trans eC).trans gA).trans cw).trans bQ).trans cz).trans eD).trans eE).trans eF).to').snoc (x:=(fun i=>qaU ((D.f 3).f i)) k3_) (gC.move ((((bQ.trans cz).trans eD).trans eE).trans eF).step immM ((((bQ.trans cz).trans eD).trans eE).trans eF).to'),jo.pk,nl,(((((((((((eB.trans bz).trans aA).trans dr).trans eC).trans gA).trans cw).trans bQ).trans cz).trans eD).trans eE).trans eF)⟩
  refine (qam gz ji (oi:=4) (cs:=[.bool false]) kz fun vW bA jp np=>?_)
  have nr:=TT.ofW (aA.trans bA) jp
  refine ⟨fun _=>nr,?_⟩
  refine qap (i:=1) kz (qam jp np (oi:=4) (cs:=[.bool true]) kz fun vX bR fw ns=>?_)
  have nt:=TT.ofW ((aA.trans bA).trans bR) fw
  refine ⟨fun _=>nt,?_⟩
  refine qap (i:=3) kz (qbs [0,2,3,4,49,50,54] fw.cells ns (env':=[(0,.p 0 0),(2,.p 1 0),(3,.p 3 0),(4,.v (.int .i64 ((k3_:Nat):Int))),(49,.v (.int .i64 (((D.f 3).l:Nat):Int))),(50,.v (.int .i64 ((k3_:Nat):Int))),(54,.v (.bool true))]) kz fun vY jq=>?_)
  have nu:=TT.ofW ((aA.trans bA).trans bR) fw
  refine ⟨fun _=>nu,?_⟩
  refine qay kz ?_ _
  refine qac ?_
  refine qbk jq (b:=true) kz rfl ?_
  refine qaK 17 kz fw fun vZ dt bS fx=>?_
  refine qaz [0,1,5,6,7,8,9] [(0,.p 0 0),(2,.p 1 0),(3,.p 3 0),(49,.v (.int .i64 (((D.f 3).l:Nat):Int))),(50,.v (.int .i64 ((k3_:Nat):Int))),(56,.v (.slice (some ⟨aa,0,none⟩) 9 9)),(63,.v (.slice ((D.f 3).A) ((D.f 3).l) ((D.f 3).c))),(64,.v (.int .i64 ((k3_:Nat):Int)))] 11 (qab (qae (qab (qab (qae (qab qaf)))))) (fun _ h=>h.cells) fx jq fun v2 nv=>?_
  refine qaC nv (i:=2) (t:=34) (A:=(some ⟨aa,0,none⟩)) (m:=9) (q:=3) (d:=57) kz (e:=37) (size:=5) (bytes:=88) (j:=3) kz (b:=aa) (o:=0) rfl rfl (by decide) kz kz (qab (qae (qab (qab (qae (qab qaf)))))) fx fun v6 nw=>?_
  have nx:=nw.recast 57 (.v (.pointer (some ⟨aa,0 + 3 * 5,none⟩))) (.p 2 15) rfl rfl (Nat.le_of_ble_eq_true (n:=3) rfl)
  have ny:=nx.pk (env':=[(0,.p 0 0),(2,.p 1 0),(3,.p 3 0),(49,.v (.int .i64 (((D.f 3).l:Nat):Int))),(50,.v (.int .i64 ((k3_:Nat):Int))),(56,.v (.slice (some ⟨aa,0,none⟩) 9 9)),(63,.v (.slice ((D.f 3).A) ((D.f 3).l) ((D.f 3).c))),(64,.v (.int .i64 ((k3_:Nat):Int))),(57,.p 2 15)])
  refine qaz [3,4,12] [(0,.p 0 0),(2,.p 1 0),(3,.p 3 0),(49,.v (.int .i64 (((D.f 3).l:Nat):Int))),(50,.v (.int .i64 ((k3_:Nat):Int))),(56,.v (.slice (some ⟨aa,0,none⟩) 9 9)),(59,.v (.slice A3_ k3_ c3_)),(63,.v (.slice ((D.f 3).A) ((D.f 3).l) ((D.f 3).c))),(64,.v (.int .i64 ((k3_:Nat):Int))),(67,.v (.int .i64 ((k3_:Nat):Int)))] 7 (qab (qae (qab (qab (qae (qab qaf)))))) (fun _ h=>h.cells) fx ny fun v7 nz=>?_
  obtain ⟨iZ,i6,nA,s8,gF⟩:=Slots.get g4 (i:=k3_) (by omega)
  refine qaC nz (i:=10) (t:=130) (A:=(D.f 3).A) (m:=((D.f 3).l)) (q:=((k3_:Nat):Int)) (d:=65) kz (e:=138) (size:=5) (bytes:=48) kz nA rfl (by omega) kz kz (qab (qae (qab (qab (qae (qab qaf)))))) fx fun v8 jr=>?_
  refine qdR (i:=11) (j:=13) kz ?_ ?_
  ·
   refine (qan jr (f:=117) (vs:=[.pointer (some ⟨iZ,i6 + k3_ * 5,none⟩)]) (d:=66) kz Tryz.call117 (qbi 0 ((D.f 3).f k3_) _ _ _ _ (gF.move bS.step nilM bS.imm) (qaT _ bS.step nilM bS.imm (g4e k3_ (by omega)))) ?_)
   rintro e_ we ⟨s9,rfl,nB,gG⟩
   have gH:=nB.move (Step.refl _ Nil) nilM (bS.laid (G:=F) gG)
   obtain ⟨dB,dC,dD,dE,dF,dG,dH,dI,dJ,dK,dL,ta,td,gI,r7,r8,wg,wh⟩:=gH.open_
   rw [gI] at gH
   have r9:=r7.small
   have sa:=r8.small
   rw [gI]
   refine ⟨_,rfl,fun wi nC=>?_⟩
   have js:=bS.next_nil gG
   have cA:=bS.frN gG
   have nD:=TT.ofW cA js
   refine ⟨fun _=>nD,?_⟩
   refine qap (i:=13) kz (qby js nC (e:=37) (size:=5) (len:=1) (cs:=[.int .i64 0,.slice none 0 0,.bool false,.slice none 0 0,.slice none 0 0]) (d:=68) kz kz fun kp wj wk te tf bT fy nE=>?_)
   have nF:=TT.ofW (cA.trans bT) fy
   refine ⟨fun _=>nF,?_⟩
   refine qap (i:=14) kz (qaJ fy nE (k:=1) (d:=69) (t:=34) (e:=37) (size:=5) (bytes:=88) (A:=A3_) (As:=(some ⟨kp,0,none⟩)) (m0:=k3_) (c:=c3_) (m:=1) (cs:=1) (xs:=xs3_) (news:=[.int .i64 0,.slice none 0 0,.bool false,.slice none 0 0,.slice none 0 0]) kz kz rfl (qbr (fy.own 2 _ rfl) (qbp kz)) (qbz (fy.own 2 _ rfl)) (by omega) fun cg cB wl wm cC gJ nG=>?_)
   have nH:=TT.ofW ((cA.trans bT).trans cC) gJ
   refine ⟨fun _=>nH,?_⟩
   refine qap (i:=15) kz (qas nG (t:=34) (A:=(some ⟨aa,0,none⟩)) (m:=9) (q:=3) (d:=70) kz (e:=37) (size:=5) (bytes:=88) (j:=3) kz (b:=aa) (o:=0) rfl rfl (by decide) fun wn nI=>?_)
   have nJ:=nI.recast 70 (.v (.pointer (some ⟨aa,0 + 3 * 5,none⟩))) (.p 2 15) rfl rfl (Nat.le_of_ble_eq_true (n:=3) rfl)
   have nK:=nJ.pk (env':=[(0,.p 0 0),(2,.p 1 0),(3,.p 3 0),(49,.v (.int .i64 (((D.f 3).l:Nat):Int))),(50,.v (.int .i64 ((k3_:Nat):Int))),(56,.v (.slice (some ⟨aa,0,none⟩) 9 9)),(59,.v (.slice A3_ k3_ c3_)),(63,.v (.slice ((D.f 3).A) ((D.f 3).l) ((D.f 3).c))),(64,.v (.int .i64 ((k3_:Nat):Int))),(67,.v (.int .i64 ((k3_:Nat):Int))),(65,.v (.pointer (some ⟨iZ,i6 + k3_ * 5,none⟩))),(66,.v (.agg #[.int .i64 dB,.slice dG dC.length dH,.bool dD,.slice dI dE.length dJ,.slice dK dF.length dL])),(68,.v (.slice (some ⟨kp,0,none⟩) 1 1)),(69,.v (.slice cg (k3_ + 1) cB)),(70,.p 2 15)])
   have jt:=TT.ofW ((cA.trans bT).trans cC) gJ
   refine ⟨fun _=>jt,?_⟩
   refine qaz [16] [(0,.p 0 0),(2,.p 1 0),(3,.p 3 0),(49,.v (.int .i64 (((D.f 3).l:Nat):Int))),(50,.v (.int .i64 ((k3_:Nat):Int))),(66,.v (.agg #[.int .i64 dB,.slice dG dC.length dH,.bool dD,.slice dI dE.length dJ,.slice dK dF.length dL])),(67,.v (.int .i64 ((k3_:Nat):Int))),(69,.v (.slice cg (k3_ + 1) cB)),(71,.p 2 18)] 1 (qab (qae (qab (qab (qae (qab qaf)))))) (fun _ h=>h.cells) jt nK fun wo nL=>?_
   refine qap (i:=17) kz (qam gJ nL (oi:=2) (cs:=(.int .i64 (IntKind.i64.wrap ((D.f 0).n)) :: .slice none 0 0 :: .bool false :: .slice none 0 0 :: .slice none 0 0 :: .int .i64 0 :: .slice (some ⟨aS,0,none⟩) ((sb ((D.f 1).s)).length) aT :: .bool false :: .slice none 0 0 :: .slice none 0 0 :: .int .i64 0 :: .slice ab (((D.f 2).o).length) ac :: .bool false :: .slice none 0 0 :: .slice none 0 0 :: .int .i64 0 :: .slice none 0 0 :: .bool (((D.f 3).A).isNone) :: .slice cg (k3_ + 1) cB :: .slice none 0 0 :: .int .i64 0 :: .slice none 0 0 :: .bool false :: .slice none 0 0 :: .slice none 0 0 :: .int .i64 0 :: .slice none 0 0 :: .bool false :: .slice none 0 0 :: .slice none 0 0 :: .int .i64 0 :: .slice none 0 0 :: .bool false :: .slice none 0 0 :: .slice none 0 0 :: .int .i64 0 :: .slice none 0 0 :: .bool false :: .slice none 0 0 :: .slice none 0 0 :: .int .i64 0 :: .slice none 0 0 :: .bool false :: .slice none 0 0 :: .slice none 0 0 :: [])) kz fun sc eG ju nM=>?_)
   refine ⟨fun h=>absurd rfl h,?_⟩
   refine qay kz ?_ _
   refine qac ?_
   refine qaq [0,1] kz ?_
   have nN:World.ownsRow sc 0 37 5 (.slice cg (k3_ + 1) cB) (k3_ + 1) (xs3_ ++ [.int .i64 0,.slice none 0 0,.bool false,.slice none 0 0,.slice none 0 0]):=ju.own 1 _ rfl
   obtain ⟨nO,jv⟩:=qbY nN (by omega)
   refine qak (qas nM (t:=34) (A:=cg) (m:=(k3_ + 1)) (q:=((k3_:Nat):Int)) (d:=72) kz (e:=37) (size:=5) (bytes:=88) kz (b:=nO) (o:=0) (j:=k3_) jv (rfl) (by omega) fun wr nP=>?_)
   refine qak (qbK ju nP (k:=1) (g:=nO) (o:=k3_ * 5) (c:=cB) (m:=(k3_ + 1)) (size:=5) (e:=37) (A:=cg) (xs:=(xs3_ ++ [.int .i64 0,.slice none 0 0,.bool false,.slice none 0 0,.slice none 0 0])) (vs:=[.int .i64 dB,.slice dG dC.length dH,.bool dD,.slice dI dE.length dJ,.slice dK dF.length dL]) kz rfl jv (by simp only [List.length_cons,List.length_nil]; omega) fun ws eH nQ nR=>?_)
   have nS:(⟨cg,cB,37,5,k3_ + 1,qbj (xs3_ ++ [.int .i64 0,.slice none 0 0,.bool false,.slice none 0 0,.slice none 0 0]) (k3_ * 5) [.int .i64 dB,.slice dG dC.length dH,.bool dD,.slice dI dE.length dJ,.slice dK dF.length dL]⟩:Rw) = ⟨cg,cB,37,5,k3_ + 1,xs3_ ++ [.int .i64 dB,.slice dG dC.length dH,.bool dD,.slice dI dE.length dJ,.slice dK dF.length dL]⟩:=by rw [qcr (by rw [hT3_.xslen,List.length_take,qbZ]; omega)]
   obtain ⟨jw,eI⟩:=nQ.rowEq 1 [brow ab ac 5 ((D.f 2).o),⟨cg,cB,37,5,k3_ + 1,xs3_ ++ [.int .i64 dB,.slice dG dC.length dH,.bool dD,.slice dI dE.length dJ,.slice dK dF.length dL]⟩,⟨some ⟨kp,0,none⟩,1,37,5,1,[.int .i64 0,.slice none 0 0,.bool false,.slice none 0 0,.slice none 0 0]⟩] nS
   refine qah ?_
   refine qax ?_
   refine qac ?_
   refine qaq [0,1] kz ?_
   refine qal [0,1] [] [(0,.p 0 0),(2,.p 1 0),(3,.p 3 0),(49,.v (.int .i64 (((D.f 3).l:Nat):Int))),(50,.v (.int .i64 (IntKind.i64.wrap (((k3_:Nat):Int) + 1))))] jw nR fun wt nT=>?_
   refine qah (qac ?_)
   obtain ⟨jx,nU,eJ⟩:=jw.cutB nT 4 [⟨b,o,[.int .i16 v,.int .i32 ((D.f 0).n),.string ((D.f 1).s),qaa ((D.f 2).o.getD 0 0),qaa ((D.f 2).o.getD 1 0),qaa ((D.f 2).o.getD 2 0),qaa ((D.f 2).o.getD 3 0),qaa ((D.f 2).o.getD 4 0),qaa ((D.f 2).o.getD 5 0),qaa ((D.f 2).o.getD 6 0),qaa ((D.f 2).o.getD 7 0),qaa ((D.f 2).o.getD 8 0),qaa ((D.f 2).o.getD 9 0),qaa ((D.f 2).o.getD 10 0),qaa ((D.f 2).o.getD 11 0),qaa ((D.f 2).o.getD 12 0),qaa ((D.f 2).o.getD 13 0),qaa ((D.f 2).o.getD 14 0),qaa ((D.f 2).o.getD 15 0),.slice ((D.f 3).A) ((D.f 3).l) ((D.f 3).c),.slice ((D.f 4).A) ((D.f 4).l) ((D.f 4).c),.pointer ((D.f 5).A),.bool ((D.f 6).b),.slice ((D.f 7).A) ((D.f 7).l) ((D.f 7).c),.int .i64 ((D.f 8).n),.map D.m],false⟩,⟨bI,0,[.int .i64 0,.slice none 0 0,.bool false,.slice none 0 0,.slice none 0 0],true⟩,⟨aa,0,(.int .i64 (IntKind.i64.wrap ((D.f 0).n)) :: .slice none 0 0 :: .bool false :: .slice none 0 0 :: .slice none 0 0 :: .int .i64 0 :: .slice (some ⟨aS,0,none⟩) ((sb ((D.f 1).s)).length) aT :: .bool false :: .slice none 0 0 :: .slice none 0 0 :: .int .i64 0 :: .slice ab (((D.f 2).o).length) ac :: .bool false :: .slice none 0 0 :: .slice none 0 0 :: .int .i64 0 :: .slice none 0 0 :: .bool (((D.f 3).A).isNone) :: .slice cg (k3_ + 1) cB :: .slice none 0 0 :: .int .i64 0 :: .slice none 0 0 :: .bool false :: .slice none 0 0 :: .slice none 0 0 :: .int .i64 0 :: .slice none 0 0 :: .bool false :: .slice none 0 0 :: .slice none 0 0 :: .int .i64 0 :: .slice none 0 0 :: .bool false :: .slice none 0 0 :: .slice none 0 0 :: .int .i64 0 :: .slice none 0 0 :: .bool false :: .slice none 0 0 :: .slice none 0 0 :: .int .i64 0 :: .slice none 0 0 :: .bool false :: .slice none 0 0 :: .slice none 0 0 :: []),true⟩,⟨bj,0,[.int .i64 0,.slice none 0 0,.bool false,.slice (some ⟨aa,0,none⟩) 9 9,.slice none 0 0],true⟩] [(0,.p 0 0),(2,.p 1 0),(3,.p 3 0),(49,.v (.int .i64 (((D.f 3).l:Nat):Int))),(50,.v (.int .i64 (IntKind.i64.wrap (((k3_:Nat):Int) + 1))))]
   obtain ⟨nV,eK⟩:=nU.cutR 2 [brow ab ac 5 ((D.f 2).o),⟨cg,cB,37,5,k3_ + 1,xs3_ ++ [.int .i64 dB,.slice dG dC.length dH,.bool dD,.slice dI dE.length dJ,.slice dK dF.length dL]⟩]
   have nW:IntKind.i64.wrap (((k3_:Nat):Int) + 1) = ((k3_ + 1:Nat):Int):=qa1 (by omega)
   rw [nW] at jx
   exact ⟨(D.f 3).l - (k3_ + 1),by omega,k3_ + 1,cg,cB,xs3_ ++ [Value.int .i64 dB,.slice dG dC.length dH,.bool dD,.slice dI dE.length dJ,.slice dK dF.length dL],(css3_ ++ [[Value.int .i64 dB,.slice dG dC.length dH,.bool dD,.slice dI dE.length dJ,.slice dK dF.length dL]]),rfl,by omega,by rw [qb9 (by omega)]; exact (hT3_.move ((((((((((((bz.trans aA).trans bA).trans bR).trans dt).trans cA).trans bT).trans cC).trans eG).trans eH).trans eI).trans eJ).trans eK).step immM ((((((((((((bz.trans aA).trans bA).trans bR).trans dt).trans cA).trans bT).trans cC).trans eG).trans eH).trans eI).trans eJ).trans eK).to').snoc (x:=(fun i=>qaU ((D.f 3).f i)) k3_) (gH.move ((((((bT.trans cC).trans eG).trans eH).trans eI).trans eJ).trans eK).step immM ((((((bT.trans cC).trans eG).trans eH).trans eI).trans eJ).trans eK).to'),jx.pk,nV,(((((((((((((eB.trans bz).trans aA).trans bA).trans bR).trans dt).trans cA).trans bT).trans cC).trans eG).trans eH).trans eI).trans eJ).trans eK)⟩
  refine (qby bS jr (e:=37) (size:=5) (len:=1) (cs:=[.int .i64 0,.slice none 0 0,.bool false,.slice none 0 0,.slice none 0 0]) (d:=68) kz kz fun kq wv ww tg th cD bU nX=>?_)
  have nY:=TT.ofW cD bU
  refine ⟨fun _=>nY,?_⟩
  refine qap (i:=11) kz (qan nX (f:=117) (vs:=[.pointer (some ⟨iZ,i6 + k3_ * 5,none⟩)]) (d:=66) kz Tryz.call117 (qbi 0 ((D.f 3).f k3_) _ _ _ _ (gF.move bU.step nilM bU.imm) (qaT _ bU.step nilM bU.imm (g4e k3_ (by omega)))) ?_)
  rintro e_ wx ⟨tj,rfl,nZ,gK⟩
  have gL:=nZ.move (Step.refl _ Nil) nilM (bU.laid (G:=F) gK)
  obtain ⟨dM,dN,dO,dP,dQ,dR,dS,dT,dU,dV,dW,tk,tm,gM,sd,se,wy,wA⟩:=gL.open_
  rw [gM] at gL
  have sf:=sd.small
  have sg:=se.small
  rw [gM]
  refine ⟨_,rfl,fun wB n4=>?_⟩
  have fz:=bU.next_nil gK
  have du:=bU.frN gK
  have n5:=TT.ofW (cD.trans du) fz
  refine ⟨fun _=>n5,?_⟩
  refine qap (i:=14) kz (qaJ fz n4 (k:=1) (d:=69) (t:=34) (e:=37) (size:=5) (bytes:=88) (A:=A3_) (As:=(some ⟨kq,0,none⟩)) (m0:=k3_) (c:=c3_) (m:=1) (cs:=1) (xs:=xs3_) (news:=[.int .i64 0,.slice none 0 0,.bool false,.slice none 0 0,.slice none 0 0]) kz kz rfl (qbr (fz.own 2 _ rfl) (qbp kz)) (qbz (fz.own 2 _ rfl)) (by omega) fun cm cE wC wD cG gN n8=>?_)
  have oa:=TT.ofW ((cD.trans du).trans cG) gN
  refine ⟨fun _=>oa,?_⟩
  refine qap (i:=15) kz (qas n8 (t:=34) (A:=(some ⟨aa,0,none⟩)) (m:=9) (q:=3) (d:=70) kz (e:=37) (size:=5) (bytes:=88) (j:=3) kz (b:=aa) (o:=0) rfl rfl (by decide) fun wE od=>?_)
  have oe:=od.recast 70 (.v (.pointer (some ⟨aa,0 + 3 * 5,none⟩))) (.p 2 15) rfl rfl (Nat.le_of_ble_eq_true (n:=3) rfl)
  have og:=oe.pk (env':=[(0,.p 0 0),(2,.p 1 0),(3,.p 3 0),(49,.v (.int .i64 (((D.f 3).l:Nat):Int))),(50,.v (.int .i64 ((k3_:Nat):Int))),(56,.v (.slice (some ⟨aa,0,none⟩) 9 9)),(59,.v (.slice A3_ k3_ c3_)),(63,.v (.slice ((D.f 3).A) ((D.f 3).l) ((D.f 3).c))),(64,.v (.int .i64 ((k3_:Nat):Int))),(67,.v (.int .i64 ((k3_:Nat):Int))),(65,.v (.pointer (some ⟨iZ,i6 + k3_ * 5,none⟩))),(68,.v (.slice (some ⟨kq,0,none⟩) 1 1)),(66,.v (.agg #[.int .i64 dM,.slice dR dN.length dS,.bool dO,.slice dT dP.length dU,.slice dV dQ.length dW])),(69,.v (.slice cm (k3_ + 1) cE)),(70,.p 2 15)])
  have jy:=TT.ofW ((cD.trans du).trans cG) gN
  refine ⟨fun _=>jy,?_⟩
  refine qaz [16] [(0,.p 0 0),(2,.p 1 0),(3,.p 3 0),(49,.v (.int .i64 (((D.f 3).l:Nat):Int))),(50,.v (.int .i64 ((k3_:Nat):Int))),(66,.v (.agg #[.int .i64 dM,.slice dR dN.length dS,.bool dO,.slice dT dP.length dU,.slice dV dQ.length dW])),(67,.v (.int .i64 ((k3_:Nat):Int))),(69,.v (.slice cm (k3_ + 1) cE)),(71,.p 2 18)] 1 (qab (qae (qab (qab (qae (qab qaf)))))) (fun _ h=>h.cells) jy og fun wF oh=>?_
  refine qap (i:=17) kz (qam gN oh (oi:=2) (cs:=(.int .i64 (IntKind.i64.wrap ((D.f 0).n)) :: .slice none 0 0 :: .bool false :: .slice none 0 0 :: .slice none 0 0 :: .int .i64 0 :: .slice (some ⟨aS,0,none⟩) ((sb ((D.f 1).s)).length) aT :: .bool false :: .slice none 0 0 :: .slice none 0 0 :: .int .i64 0 :: .slice ab (((D.f 2).o).length) ac :: .bool false :: .slice none 0 0 :: .slice none 0 0 :: .int .i64 0 :: .slice none 0 0 :: .bool (((D.f 3).A).isNone) :: .slice cm (k3_ + 1) cE :: .slice none 0 0 :: .int .i64 0 :: .slice none 0 0 :: .bool false :: .slice none 0 0 :: .slice none 0 0 :: .int .i64 0 :: .slice none 0 0 :: .bool false :: .slice none 0 0 :: .slice none 0 0 :: .int .i64 0 :: .slice none 0 0 :: .bool false :: .slice none 0 0 :: .slice none 0 0 :: .int .i64 0 :: .slice none 0 0 :: .bool false :: .slice none 0 0 :: .slice none 0 0 :: .int .i64 0 :: .slice none 0 0 :: .bool false :: .slice none 0 0 :: .slice none 0 0 :: [])) kz fun sh eL jz ol=>?_)
  refine ⟨fun h=>absurd rfl h,?_⟩
  refine qay kz ?_ _
  refine qac ?_
  refine qaq [0,1] kz ?_
  have om:World.ownsRow sh 0 37 5 (.slice cm (k3_ + 1) cE) (k3_ + 1) (xs3_ ++ [.int .i64 0,.slice none 0 0,.bool false,.slice none 0 0,.slice none 0 0]):=jz.own 1 _ rfl
  obtain ⟨oq,jA⟩:=qbY om (by omega)
  refine qak (qas ol (t:=34) (A:=cm) (m:=(k3_ + 1)) (q:=((k3_:Nat):Int)) (d:=72) kz (e:=37) (size:=5) (bytes:=88) kz (b:=oq) (o:=0) (j:=k3_) jA (rfl) (by omega) fun wG ot=>?_)
  refine qak (qbK jz ot (k:=1) (g:=oq) (o:=k3_ * 5) (c:=cE) (m:=(k3_ + 1)) (size:=5) (e:=37) (A:=cm) (xs:=(xs3_ ++ [.int .i64 0,.slice none 0 0,.bool false,.slice none 0 0,.slice none 0 0])) (vs:=[.int .i64 dM,.slice dR dN.length dS,.bool dO,.slice dT dP.length dU,.slice dV dQ.length dW]) kz rfl jA (by simp only [List.length_cons,List.length_nil]; omega) fun wH eM ou ov=>?_)
  have ow:(⟨cm,cE,37,5,k3_ + 1,qbj (xs3_ ++ [.int .i64 0,.slice none 0 0,.bool false,.slice none 0 0,.slice none 0 0]) (k3_ * 5) [.int .i64 dM,.slice dR dN.length dS,.bool dO,.slice dT dP.length dU,.slice dV dQ.length dW]⟩:Rw) = ⟨cm,cE,37,5,k3_ + 1,xs3_ ++ [.int .i64 dM,.slice dR dN.length dS,.bool dO,.slice dT dP.length dU,.slice dV dQ.length dW]⟩:=by rw [qcr (by rw [hT3_.xslen,List.length_take,qbZ]; omega)]
  obtain ⟨jB,eN⟩:=ou.rowEq 1 [brow ab ac 5 ((D.f 2).o),⟨cm,cE,37,5,k3_ + 1,xs3_ ++ [.int .i64 dM,.slice dR dN.length dS,.bool dO,.slice dT dP.length dU,.slice dV dQ.length dW]⟩,⟨some ⟨kq,0,none⟩,1,37,5,1,[.int .i64 0,.slice none 0 0,.bool false,.slice none 0 0,.slice none 0 0]⟩] ow
  refine qah ?_
  refine qax ?_
  refine qac ?_
  refine qaq [0,1] kz ?_
  refine qal [0,1] [] [(0,.p 0 0),(2,.p 1 0),(3,.p 3 0),(49,.v (.int .i64 (((D.f 3).l:Nat):Int))),(50,.v (.int .i64 (IntKind.i64.wrap (((k3_:Nat):Int) + 1))))] jB ov fun wI ox=>?_
  refine qah (qac ?_)
  obtain ⟨jC,oy,eO⟩:=jB.cutB ox 4 [⟨b,o,[.int .i16 v,.int .i32 ((D.f 0).n),.string ((D.f 1).s),qaa ((D.f 2).o.getD 0 0),qaa ((D.f 2).o.getD 1 0),qaa ((D.f 2).o.getD 2 0),qaa ((D.f 2).o.getD 3 0),qaa ((D.f 2).o.getD 4 0),qaa ((D.f 2).o.getD 5 0),qaa ((D.f 2).o.getD 6 0),qaa ((D.f 2).o.getD 7 0),qaa ((D.f 2).o.getD 8 0),qaa ((D.f 2).o.getD 9 0),qaa ((D.f 2).o.getD 10 0),qaa ((D.f 2).o.getD 11 0),qaa ((D.f 2).o.getD 12 0),qaa ((D.f 2).o.getD 13 0),qaa ((D.f 2).o.getD 14 0),qaa ((D.f 2).o.getD 15 0),.slice ((D.f 3).A) ((D.f 3).l) ((D.f 3).c),.slice ((D.f 4).A) ((D.f 4).l) ((D.f 4).c),.pointer ((D.f 5).A),.bool ((D.f 6).b),.slice ((D.f 7).A) ((D.f 7).l) ((D.f 7).c),.int .i64 ((D.f 8).n),.map D.m],false⟩,⟨bI,0,[.int .i64 0,.slice none 0 0,.bool false,.slice none 0 0,.slice none 0 0],true⟩,⟨aa,0,(.int .i64 (IntKind.i64.wrap ((D.f 0).n)) :: .slice none 0 0 :: .bool false :: .slice none 0 0 :: .slice none 0 0 :: .int .i64 0 :: .slice (some ⟨aS,0,none⟩) ((sb ((D.f 1).s)).length) aT :: .bool false :: .slice none 0 0 :: .slice none 0 0 :: .int .i64 0 :: .slice ab (((D.f 2).o).length) ac :: .bool false :: .slice none 0 0 :: .slice none 0 0 :: .int .i64 0 :: .slice none 0 0 :: .bool (((D.f 3).A).isNone) :: .slice cm (k3_ + 1) cE :: .slice none 0 0 :: .int .i64 0 :: .slice none 0 0 :: .bool false :: .slice none 0 0 :: .slice none 0 0 :: .int .i64 0 :: .slice none 0 0 :: .bool false :: .slice none 0 0 :: .slice none 0 0 :: .int .i64 0 :: .slice none 0 0 :: .bool false :: .slice none 0 0 :: .slice none 0 0 :: .int .i64 0 :: .slice none 0 0 :: .bool false :: .slice none 0 0 :: .slice none 0 0 :: .int .i64 0 :: .slice none 0 0 :: .bool false :: .slice none 0 0 :: .slice none 0 0 :: []),true⟩,⟨bj,0,[.int .i64 0,.slice none 0 0,.bool false,.slice (some ⟨aa,0,none⟩) 9 9,.slice none 0 0],true⟩] [(0,.p 0 0),(2,.p 1 0),(3,.p 3 0),(49,.v (.int .i64 (((D.f 3).l:Nat):Int))),(50,.v (.int .i64 (IntKind.i64.wrap (((k3_:Nat):Int) + 1))))]
  obtain ⟨oz,eP⟩:=oy.cutR 2 [brow ab ac 5 ((D.f 2).o),⟨cm,cE,37,5,k3_ + 1,xs3_ ++ [.int .i64 dM,.slice dR dN.length dS,.bool dO,.slice dT dP.length dU,.slice dV dQ.length dW]⟩]
  have oA:IntKind.i64.wrap (((k3_:Nat):Int) + 1) = ((k3_ + 1:Nat):Int):=qa1 (by omega)
  rw [oA] at jC
  exact ⟨(D.f 3).l - (k3_ + 1),by omega,k3_ + 1,cm,cE,xs3_ ++ [Value.int .i64 dM,.slice dR dN.length dS,.bool dO,.slice dT dP.length dU,.slice dV dQ.length dW],(css3_ ++ [[Value.int .i64 dM,.slice dR dN.length dS,.bool dO,.slice dT dP.length dU,.slice dV dQ.length dW]]),rfl,by omega,by rw [qb9 (by omega)]; exact (hT3_.move ((((((((((((bz.trans aA).trans bA).trans bR).trans dt).trans cD).trans du).trans cG).trans eL).trans eM).trans eN).trans eO).trans eP).step immM ((((((((((((bz.trans aA).trans bA).trans bR).trans dt).trans cD).trans du).trans cG).trans eL).trans eM).trans eN).trans eO).trans eP).to').snoc (x:=(fun i=>qaU ((D.f 3).f i)) k3_) (gL.move (((((cG.trans eL).trans eM).trans eN).trans eO).trans eP).step immM (((((cG.trans eL).trans eM).trans eN).trans eO).trans eP).to'),jC.pk,oz,(((((((((((((eB.trans bz).trans aA).trans bA).trans bR).trans dt).trans cD).trans du).trans cG).trans eL).trans eM).trans eN).trans eO).trans eP)⟩
 have tp:=of_decide_eq_false gy
 refine wp_exit ?_
 refine qaw ?_
 refine qaw ?_
 refine qaP ?_
 refine qac ?_
 refine qaK 9 kz fr fun wJ fA oB gO=>?_
 refine qaz [0,1,2,3,4,5,6] [(0,.p 0 0),(2,.p 1 0),(3,.p 3 0),(93,.v (.slice (some ⟨aa,0,none⟩) 9 9)),(98,.v (.bool (((D.f 4).A).isNone)))] 3 (qab qaf) (fun _ h=>h.cells) gO gx fun wK oC=>?_
 refine qap (i:=7) kz (qas oC (t:=34) (A:=(some ⟨aa,0,none⟩)) (m:=9) (q:=4) (d:=99) kz (e:=37) (size:=5) (bytes:=88) (j:=4) kz (b:=aa) (o:=0) rfl rfl (by decide) fun wM oD=>?_)
 have oE:=oD.recast 99 (.v (.pointer (some ⟨aa,0 + 4 * 5,none⟩))) (.p 2 20) rfl rfl (Nat.le_of_ble_eq_true (n:=3) rfl)
 have oF:=oE.pk (env':=[(0,.p 0 0),(2,.p 1 0),(3,.p 3 0),(93,.v (.slice (some ⟨aa,0,none⟩) 9 9)),(98,.v (.bool (((D.f 4).A).isNone))),(99,.p 2 20)])
 refine ⟨fun _=>gO,?_⟩
 refine qaz [8] [(0,.p 0 0),(2,.p 1 0),(3,.p 3 0),(98,.v (.bool (((D.f 4).A).isNone))),(100,.p 2 22)] 1 (qab qaf) (fun _ h=>h.cells) gO oF fun wN oG=>?_
 refine qap (i:=9) kz (qam oB oG (oi:=2) (cs:=(.int .i64 (IntKind.i64.wrap ((D.f 0).n)) :: .slice none 0 0 :: .bool false :: .slice none 0 0 :: .slice none 0 0 :: .int .i64 0 :: .slice (some ⟨aS,0,none⟩) ((sb ((D.f 1).s)).length) aT :: .bool false :: .slice none 0 0 :: .slice none 0 0 :: .int .i64 0 :: .slice ab (((D.f 2).o).length) ac :: .bool false :: .slice none 0 0 :: .slice none 0 0 :: .int .i64 0 :: .slice none 0 0 :: .bool (((D.f 3).A).isNone) :: .slice A3_ k3_ c3_ :: .slice none 0 0 :: .int .i64 0 :: .slice none 0 0 :: .bool (((D.f 4).A).isNone) :: .slice none 0 0 :: .slice none 0 0 :: .int .i64 0 :: .slice none 0 0 :: .bool false :: .slice none 0 0 :: .slice none 0 0 :: .int .i64 0 :: .slice none 0 0 :: .bool false :: .slice none 0 0 :: .slice none 0 0 :: .int .i64 0 :: .slice none 0 0 :: .bool false :: .slice none 0 0 :: .slice none 0 0 :: .int .i64 0 :: .slice none 0 0 :: .bool false :: .slice none 0 0 :: .slice none 0 0 :: [])) kz fun wO fB gP oH=>?_)
 refine ⟨fun h=>absurd rfl h,?_⟩
 refine qay kz ?_ _
 refine qac ?_
 refine wp_seq ?_
 refine qav [(0,.p 0 0),(2,.p 1 0),(3,.p 3 0),(105,.v (.int .i64 (((D.f 4).l:Nat):Int))),(106,.v (.int .i64 0))] gP oH fun wP oI=>?_
 refine wp_block ?_
 have jD:=gP.addNil 37 5
 have fC:=gP.frNil 37 5
 refine wp_loop_ghost (fun n_ a_ w_=>∃ (k4_:Nat) (A4_:Option Addr) (c4_:Nat) (xs4_:List Value) (css4_:List (List Value)),n_ = (D.f 4).l - k4_ ∧ k4_ ≤ (D.f 4).l ∧ (Trees w_ (Imm F w w_ [⟨b,o,[.int .i16 v,.int .i32 ((D.f 0).n),.string ((D.f 1).s),qaa ((D.f 2).o.getD 0 0),qaa ((D.f 2).o.getD 1 0),qaa ((D.f 2).o.getD 2 0),qaa ((D.f 2).o.getD 3 0),qaa ((D.f 2).o.getD 4 0),qaa ((D.f 2).o.getD 5 0),qaa ((D.f 2).o.getD 6 0),qaa ((D.f 2).o.getD 7 0),qaa ((D.f 2).o.getD 8 0),qaa ((D.f 2).o.getD 9 0),qaa ((D.f 2).o.getD 10 0),qaa ((D.f 2).o.getD 11 0),qaa ((D.f 2).o.getD 12 0),qaa ((D.f 2).o.getD 13 0),qaa ((D.f 2).o.getD 14 0),qaa ((D.f 2).o.getD 15 0),.slice ((D.f 3).A) ((D.f 3).l) ((D.f 3).c),.slice ((D.f 4).A) ((D.f 4).l) ((D.f 4).c),.pointer ((D.f 5).A),.bool ((D.f 6).b),.slice ((D.f 7).A) ((D.f 7).l) ((D.f 7).c),.int .i64 ((D.f 8).n),.map D.m],false⟩,⟨bI,0,[.int .i64 0,.slice none 0 0,.bool false,.slice none 0 0,.slice none 0 0],true⟩,⟨aa,0,(.int .i64 (IntKind.i64.wrap ((D.f 0).n)) :: .slice none 0 0 :: .bool false :: .slice none 0 0 :: .slice none 0 0 :: .int .i64 0 :: .slice (some ⟨aS,0,none⟩) ((sb ((D.f 1).s)).length) aT :: .bool false :: .slice none 0 0 :: .slice none 0 0 :: .int .i64 0 :: .slice ab (((D.f 2).o).length) ac :: .bool false :: .slice none 0 0 :: .slice none 0 0 :: .int .i64 0 :: .slice none 0 0 :: .bool (((D.f 3).A).isNone) :: .slice A3_ k3_ c3_ :: .slice none 0 0 :: .int .i64 0 :: .slice none 0 0 :: .bool (((D.f 4).A).isNone) :: .slice A4_ k4_ c4_ :: .slice none 0 0 :: .int .i64 0 :: .slice none 0 0 :: .bool false :: .slice none 0 0 :: .slice none 0 0 :: .int .i64 0 :: .slice none 0 0 :: .bool false :: .slice none 0 0 :: .slice none 0 0 :: .int .i64 0 :: .slice none 0 0 :: .bool false :: .slice none 0 0 :: .slice none 0 0 :: .int .i64 0 :: .slice none 0 0 :: .bool false :: .slice none 0 0 :: .slice none 0 0 :: []),true⟩,⟨bj,0,[.int .i64 0,.slice none 0 0,.bool false,.slice (some ⟨aa,0,none⟩) 9 9,.slice none 0 0],true⟩] [brow ab ac 5 ((D.f 2).o),⟨A3_,c3_,37,5,k3_,xs3_⟩,⟨A4_,c4_,37,5,k4_,xs4_⟩]) xs4_ (((List.range (D.f 4).l).map (fun i=>qaX ((D.f 4).f i))).take k4_) css4_) ∧ LInv jD 241 [⟨b,o,[.int .i16 v,.int .i32 ((D.f 0).n),.string ((D.f 1).s),qaa ((D.f 2).o.getD 0 0),qaa ((D.f 2).o.getD 1 0),qaa ((D.f 2).o.getD 2 0),qaa ((D.f 2).o.getD 3 0),qaa ((D.f 2).o.getD 4 0),qaa ((D.f 2).o.getD 5 0),qaa ((D.f 2).o.getD 6 0),qaa ((D.f 2).o.getD 7 0),qaa ((D.f 2).o.getD 8 0),qaa ((D.f 2).o.getD 9 0),qaa ((D.f 2).o.getD 10 0),qaa ((D.f 2).o.getD 11 0),qaa ((D.f 2).o.getD 12 0),qaa ((D.f 2).o.getD 13 0),qaa ((D.f 2).o.getD 14 0),qaa ((D.f 2).o.getD 15 0),.slice ((D.f 3).A) ((D.f 3).l) ((D.f 3).c),.slice ((D.f 4).A) ((D.f 4).l) ((D.f 4).c),.pointer ((D.f 5).A),.bool ((D.f 6).b),.slice ((D.f 7).A) ((D.f 7).l) ((D.f 7).c),.int .i64 ((D.f 8).n),.map D.m],false⟩,⟨bI,0,[.int .i64 0,.slice none 0 0,.bool false,.slice none 0 0,.slice none 0 0],true⟩,⟨aa,0,(.int .i64 (IntKind.i64.wrap ((D.f 0).n)) :: .slice none 0 0 :: .bool false :: .slice none 0 0 :: .slice none 0 0 :: .int .i64 0 :: .slice (some ⟨aS,0,none⟩) ((sb ((D.f 1).s)).length) aT :: .bool false :: .slice none 0 0 :: .slice none 0 0 :: .int .i64 0 :: .slice ab (((D.f 2).o).length) ac :: .bool false :: .slice none 0 0 :: .slice none 0 0 :: .int .i64 0 :: .slice none 0 0 :: .bool (((D.f 3).A).isNone) :: .slice A3_ k3_ c3_ :: .slice none 0 0 :: .int .i64 0 :: .slice none 0 0 :: .bool (((D.f 4).A).isNone) :: .slice A4_ k4_ c4_ :: .slice none 0 0 :: .int .i64 0 :: .slice none 0 0 :: .bool false :: .slice none 0 0 :: .slice none 0 0 :: .int .i64 0 :: .slice none 0 0 :: .bool false :: .slice none 0 0 :: .slice none 0 0 :: .int .i64 0 :: .slice none 0 0 :: .bool false :: .slice none 0 0 :: .slice none 0 0 :: .int .i64 0 :: .slice none 0 0 :: .bool false :: .slice none 0 0 :: .slice none 0 0 :: []),true⟩,⟨bj,0,[.int .i64 0,.slice none 0 0,.bool false,.slice (some ⟨aa,0,none⟩) 9 9,.slice none 0 0],true⟩] [brow ab ac 5 ((D.f 2).o),⟨A3_,c3_,37,5,k3_,xs3_⟩,⟨A4_,c4_,37,5,k4_,xs4_⟩] [(0,.p 0 0),(2,.p 1 0),(3,.p 3 0),(105,.v (.int .i64 (((D.f 4).l:Nat):Int))),(106,.v (.int .i64 ((k4_:Nat):Int)))] a_ w_) ((D.f 4).l) ⟨0,none,0,[],[],by omega,by omega,Trees.nil _ _,oI.pk,jD,Fr.refl _ _ _⟩ ?_
 rintro wQ wR wS ⟨k4_,A4_,c4_,xs4_,css4_,tq,tv,hT4_,oJ,fD,cH⟩
 refine qav [(0,.p 0 0),(2,.p 1 0),(3,.p 3 0),(105,.v (.int .i64 (((D.f 4).l:Nat):Int))),(106,.v (.int .i64 ((k4_:Nat):Int))),(107,.v (.bool (decide (((k4_:Nat):Int) < (((D.f 4).l:Nat):Int)))))] fD oJ fun wT gQ=>?_
 refine wp_seq ?_
 refine qaD gQ (b:=decide (((k4_:Nat):Int) < (((D.f 4).l:Nat):Int))) kz (fun gR=>?_) (fun gR=>?_)
 ·
  have tw:=of_decide_eq_true gR
  refine wp_skip ?_
  refine qac ?_
  refine wp_seq ?_
  refine wp_block ?_
  refine qav [(0,.p 0 0),(2,.p 1 0),(3,.p 3 0),(5,.v (.int .i64 ((k4_:Nat):Int))),(105,.v (.int .i64 (((D.f 4).l:Nat):Int))),(106,.v (.int .i64 ((k4_:Nat):Int)))] fD gQ fun wU oK=>?_
  refine qaK 4 kz fD fun wV bB oL tx=>?_
  refine qap (i:=0) kz (qaO oL oK (d:=109) (cs:=[.bool false]) kz fun wW wX wY tz tA aB gS jE=>?_)
  have oM:=TT.ofW aB gS
  refine ⟨fun _=>oM,?_⟩
  refine qdR (i:=1) (j:=2) kz ?_ ?_
  ·
   refine (qam gS jE (oi:=4) (cs:=[.bool true]) kz fun wZ dv jF oN=>?_)
   have oO:=TT.ofW (aB.trans dv) jF
   refine ⟨fun _=>oO,?_⟩
   refine qap (i:=2) kz (qam jF oN (oi:=4) (cs:=[.bool false]) kz fun xa eQ fE oP=>?_)
   have oQ:=TT.ofW ((aB.trans dv).trans eQ) fE
   refine ⟨fun _=>oQ,?_⟩
   refine qap (i:=3) kz (qbs [0,2,3,5,105,106,110] fE.cells oP (env':=[(0,.p 0 0),(2,.p 1 0),(3,.p 3 0),(5,.v (.int .i64 ((k4_:Nat):Int))),(105,.v (.int .i64 (((D.f 4).l:Nat):Int))),(106,.v (.int .i64 ((k4_:Nat):Int))),(110,.v (.bool false))]) kz fun xb jG=>?_)
   have oR:=TT.ofW ((aB.trans dv).trans eQ) fE
   refine ⟨fun _=>oR,?_⟩
   refine qay kz ?_ _
   refine qac ?_
   refine qau jG (b:=false) kz rfl ?_
   refine qcs 18 kz fE fun xc gT cI fF=>?_
   refine qaz [0,1,2,3,7,8,9,10,11] [(0,.p 0 0),(2,.p 1 0),(3,.p 3 0),(105,.v (.int .i64 (((D.f 4).l:Nat):Int))),(106,.v (.int .i64 ((k4_:Nat):Int))),(130,.v (.slice (some ⟨aa,0,none⟩) 9 9)),(132,.v (.slice (some ⟨aa,0,none⟩) 9 9)),(139,.v (.slice ((D.f 4).A) ((D.f 4).l) ((D.f 4).c))),(140,.v (.int .i64 ((k4_:Nat):Int)))] 10 (qae (qab (qab (qae (qab qaf))))) (fun _ h=>h.cells) fF jG fun xd oS=>?_
   refine qaC oS (i:=4) (t:=34) (A:=(some ⟨aa,0,none⟩)) (m:=9) (q:=4) (d:=133) kz (e:=37) (size:=5) (bytes:=88) (j:=4) kz (b:=aa) (o:=0) rfl rfl (by decide) kz kz (qae (qab (qab (qae (qab qaf))))) fF fun xe oT=>?_
   have oU:=oT.recast 133 (.v (.pointer (some ⟨aa,0 + 4 * 5,none⟩))) (.p 2 20) rfl rfl (Nat.le_of_ble_eq_true (n:=3) rfl)
   have oV:=oU.pk (env':=[(0,.p 0 0),(2,.p 1 0),(3,.p 3 0),(105,.v (.int .i64 (((D.f 4).l:Nat):Int))),(106,.v (.int .i64 ((k4_:Nat):Int))),(130,.v (.slice (some ⟨aa,0,none⟩) 9 9)),(132,.v (.slice (some ⟨aa,0,none⟩) 9 9)),(139,.v (.slice ((D.f 4).A) ((D.f 4).l) ((D.f 4).c))),(140,.v (.int .i64 ((k4_:Nat):Int))),(133,.p 2 20)])
   refine qaz [5,6] [(0,.p 0 0),(2,.p 1 0),(3,.p 3 0),(105,.v (.int .i64 (((D.f 4).l:Nat):Int))),(106,.v (.int .i64 ((k4_:Nat):Int))),(130,.v (.slice (some ⟨aa,0,none⟩) 9 9)),(135,.v (.slice A4_ k4_ c4_)),(139,.v (.slice ((D.f 4).A) ((D.f 4).l) ((D.f 4).c))),(140,.v (.int .i64 ((k4_:Nat):Int)))] 7 (qae (qab (qab (qae (qab qaf))))) (fun _ h=>h.cells) fF oV fun xg oW=>?_
   obtain ⟨oX,oY,oZ,tB,ku⟩:=Slots.get g5 (i:=k4_) (by omega)
   refine qaC oW (i:=12) (t:=131) (A:=(D.f 4).A) (m:=((D.f 4).l)) (q:=((k4_:Nat):Int)) (d:=141) kz (e:=142) (size:=4) (bytes:=32) kz oZ rfl (by omega) kz kz (qae (qab (qab (qae (qab qaf))))) fF fun xh o5=>?_
   refine qap (i:=13) kz (qan o5 (f:=118) (vs:=[.pointer (some ⟨oX,oY + k4_ * 4,none⟩)]) (d:=142) kz Tryz.call118 (qbl 0 ((D.f 4).f k4_) _ _ _ _ (ku.move cI.step nilM cI.imm) (qaW _ cI.step nilM cI.imm (g5e k4_ (by omega)))) ?_)
   rintro e_ xi ⟨tC,rfl,o6,gU⟩
   have gV:=o6.move (Step.refl _ Nil) nilM (cI.laid (G:=F) gU)
   obtain ⟨f7,f8,f9,ga,gb,gc,gd,ge,gg,gh,gi,tD,tE,gW,si,sj,xj,xk⟩:=gV.open_
   rw [gW] at gV
   have sk:=si.small
   have sl:=sj.small
   rw [gW]
   refine ⟨_,rfl,fun xl o7=>?_⟩
   have jH:=cI.next_nil gU
   have cJ:=cI.frN gU
   have o9:=TT.ofW cJ jH
   refine ⟨fun _=>o9,?_⟩
   refine qap (i:=14) kz (qby jH o7 (e:=37) (size:=5) (len:=1) (cs:=[.int .i64 f7,.slice gc f8.length gd,.bool f9,.slice ge ga.length gg,.slice gh gb.length gi]) (d:=143) kz kz fun pa xm xn tF tG bV fG pb=>?_)
   have pc:=TT.ofW (cJ.trans bV) fG
   refine ⟨fun _=>pc,?_⟩
   refine qap (i:=15) kz (qaJ fG pb (k:=2) (d:=144) (t:=34) (e:=37) (size:=5) (bytes:=88) (A:=A4_) (As:=(some ⟨pa,0,none⟩)) (m0:=k4_) (c:=c4_) (m:=1) (cs:=1) (xs:=xs4_) (news:=[.int .i64 f7,.slice gc f8.length gd,.bool f9,.slice ge ga.length gg,.slice gh gb.length gi]) kz kz rfl (qbr (fG.own 3 _ rfl) (qbp kz)) (qbz (fG.own 3 _ rfl)) (by omega) fun gj gk xo xp cK gX pd=>?_)
   have pe:=TT.ofW ((cJ.trans bV).trans cK) gX
   refine ⟨fun _=>pe,?_⟩
   refine qap (i:=16) kz (qas pd (t:=34) (A:=(some ⟨aa,0,none⟩)) (m:=9) (q:=4) (d:=145) kz (e:=37) (size:=5) (bytes:=88) (j:=4) kz (b:=aa) (o:=0) rfl rfl (by decide) fun xq pf=>?_)
   have pg:=pf.recast 145 (.v (.pointer (some ⟨aa,0 + 4 * 5,none⟩))) (.p 2 20) rfl rfl (Nat.le_of_ble_eq_true (n:=3) rfl)
   have ph:=pg.pk (env':=[(0,.p 0 0),(2,.p 1 0),(3,.p 3 0),(105,.v (.int .i64 (((D.f 4).l:Nat):Int))),(106,.v (.int .i64 ((k4_:Nat):Int))),(130,.v (.slice (some ⟨aa,0,none⟩) 9 9)),(135,.v (.slice A4_ k4_ c4_)),(139,.v (.slice ((D.f 4).A) ((D.f 4).l) ((D.f 4).c))),(140,.v (.int .i64 ((k4_:Nat):Int))),(141,.v (.pointer (some ⟨oX,oY + k4_ * 4,none⟩))),(142,.v (.agg #[.int .i64 f7,.slice gc f8.length gd,.bool f9,.slice ge ga.length gg,.slice gh gb.length gi])),(143,.v (.slice (some ⟨pa,0,none⟩) 1 1)),(144,.v (.slice gj (k4_ + 1) gk)),(145,.p 2 20)])
   have jI:=TT.ofW ((cJ.trans bV).trans cK) gX
   refine ⟨fun _=>jI,?_⟩
   refine qaz [17] [(0,.p 0 0),(2,.p 1 0),(3,.p 3 0),(105,.v (.int .i64 (((D.f 4).l:Nat):Int))),(106,.v (.int .i64 ((k4_:Nat):Int))),(144,.v (.slice gj (k4_ + 1) gk)),(146,.p 2 23)] 1 (qae (qab (qab (qae (qab qaf))))) (fun _ h=>h.cells) jI ph fun xr pi=>?_
   refine qap (i:=18) kz (qam gX pi (oi:=2) (cs:=(.int .i64 (IntKind.i64.wrap ((D.f 0).n)) :: .slice none 0 0 :: .bool false :: .slice none 0 0 :: .slice none 0 0 :: .int .i64 0 :: .slice (some ⟨aS,0,none⟩) ((sb ((D.f 1).s)).length) aT :: .bool false :: .slice none 0 0 :: .slice none 0 0 :: .int .i64 0 :: .slice ab (((D.f 2).o).length) ac :: .bool false :: .slice none 0 0 :: .slice none 0 0 :: .int .i64 0 :: .slice none 0 0 :: .bool (((D.f 3).A).isNone) :: .slice A3_ k3_ c3_ :: .slice none 0 0 :: .int .i64 0 :: .slice none 0 0 :: .bool (((D.f 4).A).isNone) :: .slice gj (k4_ + 1) gk :: .slice none 0 0 :: .int .i64 0 :: .slice none 0 0 :: .bool false :: .slice none 0 0 :: .slice none 0 0 :: .int .i64 0 :: .slice none 0 0 :: .bool false :: .slice none 0 0 :: .slice none 0 0 :: .int .i64 0 :: .slice none 0 0 :: .bool false :: .slice none 0 0 :: .slice none 0 0 :: .int .i64 0 :: .slice none 0 0 :: .bool false :: .slice none 0 0 :: .slice none 0 0 :: [])) kz fun xt eR jJ pj=>?_)
   refine ⟨fun h=>absurd rfl h,?_⟩
   refine qay kz ?_ _
   refine qax ?_
   refine qac ?_
   refine qaq [0,1] kz ?_
   refine qal [0,1] [] [(0,.p 0 0),(2,.p 1 0),(3,.p 3 0),(105,.v (.int .i64 (((D.f 4).l:Nat):Int))),(106,.v (.int .i64 (IntKind.i64.wrap (((k4_:Nat):Int) + 1))))] jJ pj fun xv pl=>?_
   refine qah (qac ?_)
   obtain ⟨jK,pm,eS⟩:=jJ.cutB pl 4 [⟨b,o,[.int .i16 v,.int .i32 ((D.f 0).n),.string ((D.f 1).s),qaa ((D.f 2).o.getD 0 0),qaa ((D.f 2).o.getD 1 0),qaa ((D.f 2).o.getD 2 0),qaa ((D.f 2).o.getD 3 0),qaa ((D.f 2).o.getD 4 0),qaa ((D.f 2).o.getD 5 0),qaa ((D.f 2).o.getD 6 0),qaa ((D.f 2).o.getD 7 0),qaa ((D.f 2).o.getD 8 0),qaa ((D.f 2).o.getD 9 0),qaa ((D.f 2).o.getD 10 0),qaa ((D.f 2).o.getD 11 0),qaa ((D.f 2).o.getD 12 0),qaa ((D.f 2).o.getD 13 0),qaa ((D.f 2).o.getD 14 0),qaa ((D.f 2).o.getD 15 0),.slice ((D.f 3).A) ((D.f 3).l) ((D.f 3).c),.slice ((D.f 4).A) ((D.f 4).l) ((D.f 4).c),.pointer ((D.f 5).A),.bool ((D.f 6).b),.slice ((D.f 7).A) ((D.f 7).l) ((D.f 7).c),.int .i64 ((D.f 8).n),.map D.m],false⟩,⟨bI,0,[.int .i64 0,.slice none 0 0,.bool false,.slice none 0 0,.slice none 0 0],true⟩,⟨aa,0,(.int .i64 (IntKind.i64.wrap ((D.f 0).n)) :: .slice none 0 0 :: .bool false :: .slice none 0 0 :: .slice none 0 0 :: .int .i64 0 :: .slice (some ⟨aS,0,none⟩) ((sb ((D.f 1).s)).length) aT :: .bool false :: .slice none 0 0 :: .slice none 0 0 :: .int .i64 0 :: .slice ab (((D.f 2).o).length) ac :: .bool false :: .slice none 0 0 :: .slice none 0 0 :: .int .i64 0 :: .slice none 0 0 :: .bool (((D.f 3).A).isNone) :: .slice A3_ k3_ c3_ :: .slice none 0 0 :: .int .i64 0 :: .slice none 0 0 :: .bool (((D.f 4).A).isNone) :: .slice gj (k4_ + 1) gk :: .slice none 0 0 :: .int .i64 0 :: .slice none 0 0 :: .bool false :: .slice none 0 0 :: .slice none 0 0 :: .int .i64 0 :: .slice none 0 0 :: .bool false :: .slice none 0 0 :: .slice none 0 0 :: .int .i64 0 :: .slice none 0 0 :: .bool false :: .slice none 0 0 :: .slice none 0 0 :: .int .i64 0 :: .slice none 0 0 :: .bool false :: .slice none 0 0 :: .slice none 0 0 :: []),true⟩,⟨bj,0,[.int .i64 0,.slice none 0 0,.bool false,.slice (some ⟨aa,0,none⟩) 9 9,.slice none 0 0],true⟩] [(0,.p 0 0),(2,.p 1 0),(3,.p 3 0),(105,.v (.int .i64 (((D.f 4).l:Nat):Int))),(106,.v (.int .i64 (IntKind.i64.wrap (((k4_:Nat):Int) + 1))))]
   obtain ⟨pn,eU⟩:=pm.cutR 3 [brow ab ac 5 ((D.f 2).o),⟨A3_,c3_,37,5,k3_,xs3_⟩,⟨gj,gk,37,5,k4_ + 1,xs4_ ++ [.int .i64 f7,.slice gc f8.length gd,.bool f9,.slice ge ga.length gg,.slice gh gb.length gi]⟩]
   have po:IntKind.i64.wrap (((k4_:Nat):Int) + 1) = ((k4_ + 1:Nat):Int):=qa1 (by omega)
   rw [po] at jK
   exact ⟨(D.f 4).l - (k4_ + 1),by omega,k4_ + 1,gj,gk,xs4_ ++ [Value.int .i64 f7,.slice gc f8.length gd,.bool f9,.slice ge ga.length gg,.slice gh gb.length gi],(css4_ ++ [[Value.int .i64 f7,.slice gc f8.length gd,.bool f9,.slice ge ga.length gg,.slice gh gb.length gi]]),rfl,by omega,by rw [qb9 (by omega)]; exact (hT4_.move ((((((((((bB.trans aB).trans dv).trans eQ).trans gT).trans cJ).trans bV).trans cK).trans eR).trans eS).trans eU).step immM ((((((((((bB.trans aB).trans dv).trans eQ).trans gT).trans cJ).trans bV).trans cK).trans eR).trans eS).trans eU).to').snoc (x:=(fun i=>qaX ((D.f 4).f i)) k4_) (gV.move ((((bV.trans cK).trans eR).trans eS).trans eU).step immM ((((bV.trans cK).trans eR).trans eS).trans eU).to'),jK.pk,pn,(((((((((((cH.trans bB).trans aB).trans dv).trans eQ).trans gT).trans cJ).trans bV).trans cK).trans eR).trans eS).trans eU)⟩
  refine (qam gS jE (oi:=4) (cs:=[.bool false]) kz fun xw bC jL pp=>?_)
  have pq:=TT.ofW (aB.trans bC) jL
  refine ⟨fun _=>pq,?_⟩
  refine qap (i:=1) kz (qam jL pp (oi:=4) (cs:=[.bool true]) kz fun xx bW fH pr=>?_)
  have pt:=TT.ofW ((aB.trans bC).trans bW) fH
  refine ⟨fun _=>pt,?_⟩
  refine qap (i:=3) kz (qbs [0,2,3,5,105,106,110] fH.cells pr (env':=[(0,.p 0 0),(2,.p 1 0),(3,.p 3 0),(5,.v (.int .i64 ((k4_:Nat):Int))),(105,.v (.int .i64 (((D.f 4).l:Nat):Int))),(106,.v (.int .i64 ((k4_:Nat):Int))),(110,.v (.bool true))]) kz fun xy jM=>?_)
  have pu:=TT.ofW ((aB.trans bC).trans bW) fH
  refine ⟨fun _=>pu,?_⟩
  refine qay kz ?_ _
  refine qac ?_
  refine qbk jM (b:=true) kz rfl ?_
  refine qaK 17 kz fH fun xz dw bX fI=>?_
  refine qaz [0,1,5,6,7,8,9] [(0,.p 0 0),(2,.p 1 0),(3,.p 3 0),(105,.v (.int .i64 (((D.f 4).l:Nat):Int))),(106,.v (.int .i64 ((k4_:Nat):Int))),(112,.v (.slice (some ⟨aa,0,none⟩) 9 9)),(119,.v (.slice ((D.f 4).A) ((D.f 4).l) ((D.f 4).c))),(120,.v (.int .i64 ((k4_:Nat):Int)))] 11 (qab (qae (qab (qab (qae (qab qaf)))))) (fun _ h=>h.cells) fI jM fun xA pv=>?_
  refine qaC pv (i:=2) (t:=34) (A:=(some ⟨aa,0,none⟩)) (m:=9) (q:=4) (d:=113) kz (e:=37) (size:=5) (bytes:=88) (j:=4) kz (b:=aa) (o:=0) rfl rfl (by decide) kz kz (qab (qae (qab (qab (qae (qab qaf)))))) fI fun xB pw=>?_
  have px:=pw.recast 113 (.v (.pointer (some ⟨aa,0 + 4 * 5,none⟩))) (.p 2 20) rfl rfl (Nat.le_of_ble_eq_true (n:=3) rfl)
  have pz:=px.pk (env':=[(0,.p 0 0),(2,.p 1 0),(3,.p 3 0),(105,.v (.int .i64 (((D.f 4).l:Nat):Int))),(106,.v (.int .i64 ((k4_:Nat):Int))),(112,.v (.slice (some ⟨aa,0,none⟩) 9 9)),(119,.v (.slice ((D.f 4).A) ((D.f 4).l) ((D.f 4).c))),(120,.v (.int .i64 ((k4_:Nat):Int))),(113,.p 2 20)])
  refine qaz [3,4,12] [(0,.p 0 0),(2,.p 1 0),(3,.p 3 0),(105,.v (.int .i64 (((D.f 4).l:Nat):Int))),(106,.v (.int .i64 ((k4_:Nat):Int))),(112,.v (.slice (some ⟨aa,0,none⟩) 9 9)),(115,.v (.slice A4_ k4_ c4_)),(119,.v (.slice ((D.f 4).A) ((D.f 4).l) ((D.f 4).c))),(120,.v (.int .i64 ((k4_:Nat):Int))),(123,.v (.int .i64 ((k4_:Nat):Int)))] 7 (qab (qae (qab (qab (qae (qab qaf)))))) (fun _ h=>h.cells) fI pz fun xC pA=>?_
  obtain ⟨i7,ja,pB,tH,gY⟩:=Slots.get g5 (i:=k4_) (by omega)
  refine qaC pA (i:=10) (t:=131) (A:=(D.f 4).A) (m:=((D.f 4).l)) (q:=((k4_:Nat):Int)) (d:=121) kz (e:=142) (size:=4) (bytes:=32) kz pB rfl (by omega) kz kz (qab (qae (qab (qab (qae (qab qaf)))))) fI fun xD jN=>?_
  refine qdR (i:=11) (j:=13) kz ?_ ?_
  ·
   refine (qan jN (f:=118) (vs:=[.pointer (some ⟨i7,ja + k4_ * 4,none⟩)]) (d:=122) kz Tryz.call118 (qbl 0 ((D.f 4).f k4_) _ _ _ _ (gY.move bX.step nilM bX.imm) (qaW _ bX.step nilM bX.imm (g5e k4_ (by omega)))) ?_)
   rintro e_ xE ⟨tI,rfl,pC,gZ⟩
   have hC:=pC.move (Step.refl _ Nil) nilM (bX.laid (G:=F) gZ)
   obtain ⟨dX,dY,dZ,d5,d6,d7,d8,d9,ea,eb,ec,tJ,tK,hJ,sm,sn,xF,xG⟩:=hC.open_
   rw [hJ] at hC
   have sq:=sm.small
   have sr:=sn.small
   rw [hJ]
   refine ⟨_,rfl,fun xH pD=>?_⟩
   have jO:=bX.next_nil gZ
   have cL:=bX.frN gZ
   have pE:=TT.ofW cL jO
   refine ⟨fun _=>pE,?_⟩
   refine qap (i:=13) kz (qby jO pD (e:=37) (size:=5) (len:=1) (cs:=[.int .i64 0,.slice none 0 0,.bool false,.slice none 0 0,.slice none 0 0]) (d:=124) kz kz fun kv xI xJ tL tM bY fJ pF=>?_)
   have pG:=TT.ofW (cL.trans bY) fJ
   refine ⟨fun _=>pG,?_⟩
   refine qap (i:=14) kz (qaJ fJ pF (k:=2) (d:=125) (t:=34) (e:=37) (size:=5) (bytes:=88) (A:=A4_) (As:=(some ⟨kv,0,none⟩)) (m0:=k4_) (c:=c4_) (m:=1) (cs:=1) (xs:=xs4_) (news:=[.int .i64 0,.slice none 0 0,.bool false,.slice none 0 0,.slice none 0 0]) kz kz rfl (qbr (fJ.own 3 _ rfl) (qbp kz)) (qbz (fJ.own 3 _ rfl)) (by omega) fun cq cM xK xL cN hK pH=>?_)
   have pI:=TT.ofW ((cL.trans bY).trans cN) hK
   refine ⟨fun _=>pI,?_⟩
   refine qap (i:=15) kz (qas pH (t:=34) (A:=(some ⟨aa,0,none⟩)) (m:=9) (q:=4) (d:=126) kz (e:=37) (size:=5) (bytes:=88) (j:=4) kz (b:=aa) (o:=0) rfl rfl (by decide) fun xM pJ=>?_)
   have pK:=pJ.recast 126 (.v (.pointer (some ⟨aa,0 + 4 * 5,none⟩))) (.p 2 20) rfl rfl (Nat.le_of_ble_eq_true (n:=3) rfl)
   have pL:=pK.pk (env':=[(0,.p 0 0),(2,.p 1 0),(3,.p 3 0),(105,.v (.int .i64 (((D.f 4).l:Nat):Int))),(106,.v (.int .i64 ((k4_:Nat):Int))),(112,.v (.slice (some ⟨aa,0,none⟩) 9 9)),(115,.v (.slice A4_ k4_ c4_)),(119,.v (.slice ((D.f 4).A) ((D.f 4).l) ((D.f 4).c))),(120,.v (.int .i64 ((k4_:Nat):Int))),(123,.v (.int .i64 ((k4_:Nat):Int))),(121,.v (.pointer (some ⟨i7,ja + k4_ * 4,none⟩))),(122,.v (.agg #[.int .i64 dX,.slice d7 dY.length d8,.bool dZ,.slice d9 d5.length ea,.slice eb d6.length ec])),(124,.v (.slice (some ⟨kv,0,none⟩) 1 1)),(125,.v (.slice cq (k4_ + 1) cM)),(126,.p 2 20)])
   have jP:=TT.ofW ((cL.trans bY).trans cN) hK
   refine ⟨fun _=>jP,?_⟩
   refine qaz [16] [(0,.p 0 0),(2,.p 1 0),(3,.p 3 0),(105,.v (.int .i64 (((D.f 4).l:Nat):Int))),(106,.v (.int .i64 ((k4_:Nat):Int))),(122,.v (.agg #[.int .i64 dX,.slice d7 dY.length d8,.bool dZ,.slice d9 d5.length ea,.slice eb d6.length ec])),(123,.v (.int .i64 ((k4_:Nat):Int))),(125,.v (.slice cq (k4_ + 1) cM)),(127,.p 2 23)] 1 (qab (qae (qab (qab (qae (qab qaf)))))) (fun _ h=>h.cells) jP pL fun xN pM=>?_
   refine qap (i:=17) kz (qam hK pM (oi:=2) (cs:=(.int .i64 (IntKind.i64.wrap ((D.f 0).n)) :: .slice none 0 0 :: .bool false :: .slice none 0 0 :: .slice none 0 0 :: .int .i64 0 :: .slice (some ⟨aS,0,none⟩) ((sb ((D.f 1).s)).length) aT :: .bool false :: .slice none 0 0 :: .slice none 0 0 :: .int .i64 0 :: .slice ab (((D.f 2).o).length) ac :: .bool false :: .slice none 0 0 :: .slice none 0 0 :: .int .i64 0 :: .slice none 0 0 :: .bool (((D.f 3).A).isNone) :: .slice A3_ k3_ c3_ :: .slice none 0 0 :: .int .i64 0 :: .slice none 0 0 :: .bool (((D.f 4).A).isNone) :: .slice cq (k4_ + 1) cM :: .slice none 0 0 :: .int .i64 0 :: .slice none 0 0 :: .bool false :: .slice none 0 0 :: .slice none 0 0 :: .int .i64 0 :: .slice none 0 0 :: .bool false :: .slice none 0 0 :: .slice none 0 0 :: .int .i64 0 :: .slice none 0 0 :: .bool false :: .slice none 0 0 :: .slice none 0 0 :: .int .i64 0 :: .slice none 0 0 :: .bool false :: .slice none 0 0 :: .slice none 0 0 :: [])) kz fun ss eV jQ pN=>?_)
   refine ⟨fun h=>absurd rfl h,?_⟩
   refine qay kz ?_ _
   refine qac ?_
   refine qaq [0,1] kz ?_
   have pO:World.ownsRow ss 0 37 5 (.slice cq (k4_ + 1) cM) (k4_ + 1) (xs4_ ++ [.int .i64 0,.slice none 0 0,.bool false,.slice none 0 0,.slice none 0 0]):=jQ.own 2 _ rfl
   obtain ⟨pP,jR⟩:=qbY pO (by omega)
   refine qak (qas pN (t:=34) (A:=cq) (m:=(k4_ + 1)) (q:=((k4_:Nat):Int)) (d:=128) kz (e:=37) (size:=5) (bytes:=88) kz (b:=pP) (o:=0) (j:=k4_) jR (rfl) (by omega) fun xO pQ=>?_)
   refine qak (qbK jQ pQ (k:=2) (g:=pP) (o:=k4_ * 5) (c:=cM) (m:=(k4_ + 1)) (size:=5) (e:=37) (A:=cq) (xs:=(xs4_ ++ [.int .i64 0,.slice none 0 0,.bool false,.slice none 0 0,.slice none 0 0])) (vs:=[.int .i64 dX,.slice d7 dY.length d8,.bool dZ,.slice d9 d5.length ea,.slice eb d6.length ec]) kz rfl jR (by simp only [List.length_cons,List.length_nil]; omega) fun xP eW pR pS=>?_)
   have pT:(⟨cq,cM,37,5,k4_ + 1,qbj (xs4_ ++ [.int .i64 0,.slice none 0 0,.bool false,.slice none 0 0,.slice none 0 0]) (k4_ * 5) [.int .i64 dX,.slice d7 dY.length d8,.bool dZ,.slice d9 d5.length ea,.slice eb d6.length ec]⟩:Rw) = ⟨cq,cM,37,5,k4_ + 1,xs4_ ++ [.int .i64 dX,.slice d7 dY.length d8,.bool dZ,.slice d9 d5.length ea,.slice eb d6.length ec]⟩:=by rw [qcr (by rw [hT4_.xslen,List.length_take,qbZ]; omega)]
   obtain ⟨jS,eX⟩:=pR.rowEq 2 [brow ab ac 5 ((D.f 2).o),⟨A3_,c3_,37,5,k3_,xs3_⟩,⟨cq,cM,37,5,k4_ + 1,xs4_ ++ [.int .i64 dX,.slice d7 dY.length d8,.bool dZ,.slice d9 d5.length ea,.slice eb d6.length ec]⟩,⟨some ⟨kv,0,none⟩,1,37,5,1,[.int .i64 0,.slice none 0 0,.bool false,.slice none 0 0,.slice none 0 0]⟩] pT
   refine qah ?_
   refine qax ?_
   refine qac ?_
   refine qaq [0,1] kz ?_
   refine qal [0,1] [] [(0,.p 0 0),(2,.p 1 0),(3,.p 3 0),(105,.v (.int .i64 (((D.f 4).l:Nat):Int))),(106,.v (.int .i64 (IntKind.i64.wrap (((k4_:Nat):Int) + 1))))] jS pS fun xQ pU=>?_
   refine qah (qac ?_)
   obtain ⟨jT,pV,eY⟩:=jS.cutB pU 4 [⟨b,o,[.int .i16 v,.int .i32 ((D.f 0).n),.string ((D.f 1).s),qaa ((D.f 2).o.getD 0 0),qaa ((D.f 2).o.getD 1 0),qaa ((D.f 2).o.getD 2 0),qaa ((D.f 2).o.getD 3 0),qaa ((D.f 2).o.getD 4 0),qaa ((D.f 2).o.getD 5 0),qaa ((D.f 2).o.getD 6 0),qaa ((D.f 2).o.getD 7 0),qaa ((D.f 2).o.getD 8 0),qaa ((D.f 2).o.getD 9 0),qaa ((D.f 2).o.getD 10 0),qaa ((D.f 2).o.getD 11 0),qaa ((D.f 2).o.getD 12 0),qaa ((D.f 2).o.getD 13 0),qaa ((D.f 2).o.getD 14 0),qaa ((D.f 2).o.getD 15 0),.slice ((D.f 3).A) ((D.f 3).l) ((D.f 3).c),.slice ((D.f 4).A) ((D.f 4).l) ((D.f 4).c),.pointer ((D.f 5).A),.bool ((D.f 6).b),.slice ((D.f 7).A) ((D.f 7).l) ((D.f 7).c),.int .i64 ((D.f 8).n),.map D.m],false⟩,⟨bI,0,[.int .i64 0,.slice none 0 0,.bool false,.slice none 0 0,.slice none 0 0],true⟩,⟨aa,0,(.int .i64 (IntKind.i64.wrap ((D.f 0).n)) :: .slice none 0 0 :: .bool false :: .slice none 0 0 :: .slice none 0 0 :: .int .i64 0 :: .slice (some ⟨aS,0,none⟩) ((sb ((D.f 1).s)).length) aT :: .bool false :: .slice none 0 0 :: .slice none 0 0 :: .int .i64 0 :: .slice ab (((D.f 2).o).length) ac :: .bool false :: .slice none 0 0 :: .slice none 0 0 :: .int .i64 0 :: .slice none 0 0 :: .bool (((D.f 3).A).isNone) :: .slice A3_ k3_ c3_ :: .slice none 0 0 :: .int .i64 0 :: .slice none 0 0 :: .bool (((D.f 4).A).isNone) :: .slice cq (k4_ + 1) cM :: .slice none 0 0 :: .int .i64 0 :: .slice none 0 0 :: .bool false :: .slice none 0 0 :: .slice none 0 0 :: .int .i64 0 :: .slice none 0 0 :: .bool false :: .slice none 0 0 :: .slice none 0 0 :: .int .i64 0 :: .slice none 0 0 :: .bool false :: .slice none 0 0 :: .slice none 0 0 :: .int .i64 0 :: .slice none 0 0 :: .bool false :: .slice none 0 0 :: .slice none 0 0 :: []),true⟩,⟨bj,0,[.int .i64 0,.slice none 0 0,.bool false,.slice (some ⟨aa,0,none⟩) 9 9,.slice none 0 0],true⟩] [(0,.p 0 0),(2,.p 1 0),(3,.p 3 0),(105,.v (.int .i64 (((D.f 4).l:Nat):Int))),(106,.v (.int .i64 (IntKind.i64.wrap (((k4_:Nat):Int) + 1))))]
   obtain ⟨pW,eZ⟩:=pV.cutR 3 [brow ab ac 5 ((D.f 2).o),⟨A3_,c3_,37,5,k3_,xs3_⟩,⟨cq,cM,37,5,k4_ + 1,xs4_ ++ [.int .i64 dX,.slice d7 dY.length d8,.bool dZ,.slice d9 d5.length ea,.slice eb d6.length ec]⟩]
   have pX:IntKind.i64.wrap (((k4_:Nat):Int) + 1) = ((k4_ + 1:Nat):Int):=qa1 (by omega)
   rw [pX] at jT
   exact ⟨(D.f 4).l - (k4_ + 1),by omega,k4_ + 1,cq,cM,xs4_ ++ [Value.int .i64 dX,.slice d7 dY.length d8,.bool dZ,.slice d9 d5.length ea,.slice eb d6.length ec],(css4_ ++ [[Value.int .i64 dX,.slice d7 dY.length d8,.bool dZ,.slice d9 d5.length ea,.slice eb d6.length ec]]),rfl,by omega,by rw [qb9 (by omega)]; exact (hT4_.move ((((((((((((bB.trans aB).trans bC).trans bW).trans dw).trans cL).trans bY).trans cN).trans eV).trans eW).trans eX).trans eY).trans eZ).step immM ((((((((((((bB.trans aB).trans bC).trans bW).trans dw).trans cL).trans bY).trans cN).trans eV).trans eW).trans eX).trans eY).trans eZ).to').snoc (x:=(fun i=>qaX ((D.f 4).f i)) k4_) (hC.move ((((((bY.trans cN).trans eV).trans eW).trans eX).trans eY).trans eZ).step immM ((((((bY.trans cN).trans eV).trans eW).trans eX).trans eY).trans eZ).to'),jT.pk,pW,(((((((((((((cH.trans bB).trans aB).trans bC).trans bW).trans dw).trans cL).trans bY).trans cN).trans eV).trans eW).trans eX).trans eY).trans eZ)⟩
  refine (qby bX jN (e:=37) (size:=5) (len:=1) (cs:=[.int .i64 0,.slice none 0 0,.bool false,.slice none 0 0,.slice none 0 0]) (d:=124) kz kz fun kw xR xS tN tO cO bZ pY=>?_)
  have pZ:=TT.ofW cO bZ
  refine ⟨fun _=>pZ,?_⟩
  refine qap (i:=11) kz (qan pY (f:=118) (vs:=[.pointer (some ⟨i7,ja + k4_ * 4,none⟩)]) (d:=122) kz Tryz.call118 (qbl 0 ((D.f 4).f k4_) _ _ _ _ (gY.move bZ.step nilM bZ.imm) (qaW _ bZ.step nilM bZ.imm (g5e k4_ (by omega)))) ?_)
  rintro e_ xT ⟨tP,rfl,p4,hY⟩
  have hZ:=p4.move (Step.refl _ Nil) nilM (bZ.laid (G:=F) hY)
  obtain ⟨ee,ef,eg,eh,ei,ej,ek,em,eo,ep,eu,tQ,tR,ia,su,sw,xU,xV⟩:=hZ.open_
  rw [ia] at hZ
  have sy:=su.small
  have sA:=sw.small
  rw [ia]
  refine ⟨_,rfl,fun xW p5=>?_⟩
  have fK:=bZ.next_nil hY
  have dx:=bZ.frN hY
  have p6:=TT.ofW (cO.trans dx) fK
  refine ⟨fun _=>p6,?_⟩
  refine qap (i:=14) kz (qaJ fK p5 (k:=2) (d:=125) (t:=34) (e:=37) (size:=5) (bytes:=88) (A:=A4_) (As:=(some ⟨kw,0,none⟩)) (m0:=k4_) (c:=c4_) (m:=1) (cs:=1) (xs:=xs4_) (news:=[.int .i64 0,.slice none 0 0,.bool false,.slice none 0 0,.slice none 0 0]) kz kz rfl (qbr (fK.own 3 _ rfl) (qbp kz)) (qbz (fK.own 3 _ rfl)) (by omega) fun cr cP xX xY cQ ib p7=>?_)
  have p8:=TT.ofW ((cO.trans dx).trans cQ) ib
  refine ⟨fun _=>p8,?_⟩
  refine qap (i:=15) kz (qas p7 (t:=34) (A:=(some ⟨aa,0,none⟩)) (m:=9) (q:=4) (d:=126) kz (e:=37) (size:=5) (bytes:=88) (j:=4) kz (b:=aa) (o:=0) rfl rfl (by decide) fun xZ p9=>?_)
  have qa:=p9.recast 126 (.v (.pointer (some ⟨aa,0 + 4 * 5,none⟩))) (.p 2 20) rfl rfl (Nat.le_of_ble_eq_true (n:=3) rfl)
  have qb:=qa.pk (env':=[(0,.p 0 0),(2,.p 1 0),(3,.p 3 0),(105,.v (.int .i64 (((D.f 4).l:Nat):Int))),(106,.v (.int .i64 ((k4_:Nat):Int))),(112,.v (.slice (some ⟨aa,0,none⟩) 9 9)),(115,.v (.slice A4_ k4_ c4_)),(119,.v (.slice ((D.f 4).A) ((D.f 4).l) ((D.f 4).c))),(120,.v (.int .i64 ((k4_:Nat):Int))),(123,.v (.int .i64 ((k4_:Nat):Int))),(121,.v (.pointer (some ⟨i7,ja + k4_ * 4,none⟩))),(124,.v (.slice (some ⟨kw,0,none⟩) 1 1)),(122,.v (.agg #[.int .i64 ee,.slice ej ef.length ek,.bool eg,.slice em eh.length eo,.slice ep ei.length eu])),(125,.v (.slice cr (k4_ + 1) cP)),(126,.p 2 20)])
  have jU:=TT.ofW ((cO.trans dx).trans cQ) ib
  refine ⟨fun _=>jU,?_⟩
  refine qaz [16] [(0,.p 0 0),(2,.p 1 0),(3,.p 3 0),(105,.v (.int .i64 (((D.f 4).l:Nat):Int))),(106,.v (.int .i64 ((k4_:Nat):Int))),(122,.v (.agg #[.int .i64 ee,.slice ej ef.length ek,.bool eg,.slice em eh.length eo,.slice ep ei.length eu])),(123,.v (.int .i64 ((k4_:Nat):Int))),(125,.v (.slice cr (k4_ + 1) cP)),(127,.p 2 23)] 1 (qab (qae (qab (qab (qae (qab qaf)))))) (fun _ h=>h.cells) jU qb fun x7 qc=>?_
  refine qap (i:=17) kz (qam ib qc (oi:=2) (cs:=(.int .i64 (IntKind.i64.wrap ((D.f 0).n)) :: .slice none 0 0 :: .bool false :: .slice none 0 0 :: .slice none 0 0 :: .int .i64 0 :: .slice (some ⟨aS,0,none⟩) ((sb ((D.f 1).s)).length) aT :: .bool false :: .slice none 0 0 :: .slice none 0 0 :: .int .i64 0 :: .slice ab (((D.f 2).o).length) ac :: .bool false :: .slice none 0 0 :: .slice none 0 0 :: .int .i64 0 :: .slice none 0 0 :: .bool (((D.f 3).A).isNone) :: .slice A3_ k3_ c3_ :: .slice none 0 0 :: .int .i64 0 :: .slice none 0 0 :: .bool (((D.f 4).A).isNone) :: .slice cr (k4_ + 1) cP :: .slice none 0 0 :: .int .i64 0 :: .slice none 0 0 :: .bool false :: .slice none 0 0 :: .slice none 0 0 :: .int .i64 0 :: .slice none 0 0 :: .bool false :: .slice none 0 0 :: .slice none 0 0 :: .int .i64 0 :: .slice none 0 0 :: .bool false :: .slice none 0 0 :: .slice none 0 0 :: .int .i64 0 :: .slice none 0 0 :: .bool false :: .slice none 0 0 :: .slice none 0 0 :: [])) kz fun sB e9 jV qd=>?_)
  refine ⟨fun h=>absurd rfl h,?_⟩
  refine qay kz ?_ _
  refine qac ?_
  refine qaq [0,1] kz ?_
  have qe:World.ownsRow sB 0 37 5 (.slice cr (k4_ + 1) cP) (k4_ + 1) (xs4_ ++ [.int .i64 0,.slice none 0 0,.bool false,.slice none 0 0,.slice none 0 0]):=jV.own 2 _ rfl
  obtain ⟨qf,jW⟩:=qbY qe (by omega)
  refine qak (qas qd (t:=34) (A:=cr) (m:=(k4_ + 1)) (q:=((k4_:Nat):Int)) (d:=128) kz (e:=37) (size:=5) (bytes:=88) kz (b:=qf) (o:=0) (j:=k4_) jW (rfl) (by omega) fun x8 qg=>?_)
  refine qak (qbK jV qg (k:=2) (g:=qf) (o:=k4_ * 5) (c:=cP) (m:=(k4_ + 1)) (size:=5) (e:=37) (A:=cr) (xs:=(xs4_ ++ [.int .i64 0,.slice none 0 0,.bool false,.slice none 0 0,.slice none 0 0])) (vs:=[.int .i64 ee,.slice ej ef.length ek,.bool eg,.slice em eh.length eo,.slice ep ei.length eu]) kz rfl jW (by simp only [List.length_cons,List.length_nil]; omega) fun x9 fa qh qi=>?_)
  have qj:(⟨cr,cP,37,5,k4_ + 1,qbj (xs4_ ++ [.int .i64 0,.slice none 0 0,.bool false,.slice none 0 0,.slice none 0 0]) (k4_ * 5) [.int .i64 ee,.slice ej ef.length ek,.bool eg,.slice em eh.length eo,.slice ep ei.length eu]⟩:Rw) = ⟨cr,cP,37,5,k4_ + 1,xs4_ ++ [.int .i64 ee,.slice ej ef.length ek,.bool eg,.slice em eh.length eo,.slice ep ei.length eu]⟩:=by rw [qcr (by rw [hT4_.xslen,List.length_take,qbZ]; omega)]
  obtain ⟨jX,fb⟩:=qh.rowEq 2 [brow ab ac 5 ((D.f 2).o),⟨A3_,c3_,37,5,k3_,xs3_⟩,⟨cr,cP,37,5,k4_ + 1,xs4_ ++ [.int .i64 ee,.slice ej ef.length ek,.bool eg,.slice em eh.length eo,.slice ep ei.length eu]⟩,⟨some ⟨kw,0,none⟩,1,37,5,1,[.int .i64 0,.slice none 0 0,.bool false,.slice none 0 0,.slice none 0 0]⟩] qj
  refine qah ?_
  refine qax ?_
  refine qac ?_
  refine qaq [0,1] kz ?_
  refine qal [0,1] [] [(0,.p 0 0),(2,.p 1 0),(3,.p 3 0),(105,.v (.int .i64 (((D.f 4).l:Nat):Int))),(106,.v (.int .i64 (IntKind.i64.wrap (((k4_:Nat):Int) + 1))))] jX qi fun ya qk=>?_
  refine qah (qac ?_)
  obtain ⟨jY,ql,fe⟩:=jX.cutB qk 4 [⟨b,o,[.int .i16 v,.int .i32 ((D.f 0).n),.string ((D.f 1).s),qaa ((D.f 2).o.getD 0 0),qaa ((D.f 2).o.getD 1 0),qaa ((D.f 2).o.getD 2 0),qaa ((D.f 2).o.getD 3 0),qaa ((D.f 2).o.getD 4 0),qaa ((D.f 2).o.getD 5 0),qaa ((D.f 2).o.getD 6 0),qaa ((D.f 2).o.getD 7 0),qaa ((D.f 2).o.getD 8 0),qaa ((D.f 2).o.getD 9 0),qaa ((D.f 2).o.getD 10 0),qaa ((D.f 2).o.getD 11 0),qaa ((D.f 2).o.getD 12 0),qaa ((D.f 2).o.getD 13 0),qaa ((D.f 2).o.getD 14 0),qaa ((D.f 2).o.getD 15 0),.slice ((D.f 3).A) ((D.f 3).l) ((D.f 3).c),.slice ((D.f 4).A) ((D.f 4).l) ((D.f 4).c),.pointer ((D.f 5).A),.bool ((D.f 6).b),.slice ((D.f 7).A) ((D.f 7).l) ((D.f 7).c),.int .i64 ((D.f 8).n),.map D.m],false⟩,⟨bI,0,[.int .i64 0,.slice none 0 0,.bool false,.slice none 0 0,.slice none 0 0],true⟩,⟨aa,0,(.int .i64 (IntKind.i64.wrap ((D.f 0).n)) :: .slice none 0 0 :: .bool false :: .slice none 0 0 :: .slice none 0 0 :: .int .i64 0 :: .slice (some ⟨aS,0,none⟩) ((sb ((D.f 1).s)).length) aT :: .bool false :: .slice none 0 0 :: .slice none 0 0 :: .int .i64 0 :: .slice ab (((D.f 2).o).length) ac :: .bool false :: .slice none 0 0 :: .slice none 0 0 :: .int .i64 0 :: .slice none 0 0 :: .bool (((D.f 3).A).isNone) :: .slice A3_ k3_ c3_ :: .slice none 0 0 :: .int .i64 0 :: .slice none 0 0 :: .bool (((D.f 4).A).isNone) :: .slice cr (k4_ + 1) cP :: .slice none 0 0 :: .int .i64 0 :: .slice none 0 0 :: .bool false :: .slice none 0 0 :: .slice none 0 0 :: .int .i64 0 :: .slice none 0 0 :: .bool false :: .slice none 0 0 :: .slice none 0 0 :: .int .i64 0 :: .slice none 0 0 :: .bool false :: .slice none 0 0 :: .slice none 0 0 :: .int .i64 0 :: .slice none 0 0 :: .bool false :: .slice none 0 0 :: .slice none 0 0 :: []),true⟩,⟨bj,0,[.int .i64 0,.slice none 0 0,.bool false,.slice (some ⟨aa,0,none⟩) 9 9,.slice none 0 0],true⟩] [(0,.p 0 0),(2,.p 1 0),(3,.p 3 0),(105,.v (.int .i64 (((D.f 4).l:Nat):Int))),(106,.v (.int .i64 (IntKind.i64.wrap (((k4_:Nat):Int) + 1))))]
  obtain ⟨qm,ff⟩:=ql.cutR 3 [brow ab ac 5 ((D.f 2).o),⟨A3_,c3_,37,5,k3_,xs3_⟩,⟨cr,cP,37,5,k4_ + 1,xs4_ ++ [.int .i64 ee,.slice ej ef.length ek,.bool eg,.slice em eh.length eo,.slice ep ei.length eu]⟩]
  have qn:IntKind.i64.wrap (((k4_:Nat):Int) + 1) = ((k4_ + 1:Nat):Int):=qa1 (by omega)
  rw [qn] at jY
  exact ⟨(D.f 4).l - (k4_ + 1),by omega,k4_ + 1,cr,cP,xs4_ ++ [Value.int .i64 ee,.slice ej ef.length ek,.bool eg,.slice em eh.length eo,.slice ep ei.length eu],(css4_ ++ [[Value.int .i64 ee,.slice ej ef.length ek,.bool eg,.slice em eh.length eo,.slice ep ei.length eu]]),rfl,by omega,by rw [qb9 (by omega)]; exact (hT4_.move ((((((((((((bB.trans aB).trans bC).trans bW).trans dw).trans cO).trans dx).trans cQ).trans e9).trans fa).trans fb).trans fe).trans ff).step immM ((((((((((((bB.trans aB).trans bC).trans bW).trans dw).trans cO).trans dx).trans cQ).trans e9).trans fa).trans fb).trans fe).trans ff).to').snoc (x:=(fun i=>qaX ((D.f 4).f i)) k4_) (hZ.move (((((cQ.trans e9).trans fa).trans fb).trans fe).trans ff).step immM (((((cQ.trans e9).trans fa).trans fb).trans fe).trans ff).to'),jY.pk,qm,(((((((((((((cH.trans bB).trans aB).trans bC).trans bW).trans dw).trans cO).trans dx).trans cQ).trans e9).trans fa).trans fb).trans fe).trans ff)⟩
 have tS:=of_decide_eq_false gR
 refine wp_exit ?_
 refine qaw ?_
 refine qaw ?_
 refine qaP ?_
 refine qac ?_
 refine qaK 8 kz fD fun sC dy fg qo=>?_
 refine qaz [0,1,2,3,4,5] [(0,.p 0 0),(2,.p 1 0),(3,.p 3 0),(149,.v (.slice (some ⟨aa,0,none⟩) 9 9)),(153,.v (.pointer ((D.f 5).A)))] 3 (qab qaf) (fun _ h=>h.cells) qo gQ fun yb qp=>?_
 refine qap (i:=6) kz (qan qp (f:=101) (vs:=[.pointer ((D.f 5).A)]) (d:=154) kz Tryz.call101 (qls _ (D.f 5).s _ (Imm F w sC [⟨b,o,[.int .i16 v,.int .i32 ((D.f 0).n),.string ((D.f 1).s),qaa ((D.f 2).o.getD 0 0),qaa ((D.f 2).o.getD 1 0),qaa ((D.f 2).o.getD 2 0),qaa ((D.f 2).o.getD 3 0),qaa ((D.f 2).o.getD 4 0),qaa ((D.f 2).o.getD 5 0),qaa ((D.f 2).o.getD 6 0),qaa ((D.f 2).o.getD 7 0),qaa ((D.f 2).o.getD 8 0),qaa ((D.f 2).o.getD 9 0),qaa ((D.f 2).o.getD 10 0),qaa ((D.f 2).o.getD 11 0),qaa ((D.f 2).o.getD 12 0),qaa ((D.f 2).o.getD 13 0),qaa ((D.f 2).o.getD 14 0),qaa ((D.f 2).o.getD 15 0),.slice ((D.f 3).A) ((D.f 3).l) ((D.f 3).c),.slice ((D.f 4).A) ((D.f 4).l) ((D.f 4).c),.pointer ((D.f 5).A),.bool ((D.f 6).b),.slice ((D.f 7).A) ((D.f 7).l) ((D.f 7).c),.int .i64 ((D.f 8).n),.map D.m],false⟩,⟨bI,0,[.int .i64 0,.slice none 0 0,.bool false,.slice none 0 0,.slice none 0 0],true⟩,⟨aa,0,(.int .i64 (IntKind.i64.wrap ((D.f 0).n)) :: .slice none 0 0 :: .bool false :: .slice none 0 0 :: .slice none 0 0 :: .int .i64 0 :: .slice (some ⟨aS,0,none⟩) ((sb ((D.f 1).s)).length) aT :: .bool false :: .slice none 0 0 :: .slice none 0 0 :: .int .i64 0 :: .slice ab (((D.f 2).o).length) ac :: .bool false :: .slice none 0 0 :: .slice none 0 0 :: .int .i64 0 :: .slice none 0 0 :: .bool (((D.f 3).A).isNone) :: .slice A3_ k3_ c3_ :: .slice none 0 0 :: .int .i64 0 :: .slice none 0 0 :: .bool (((D.f 4).A).isNone) :: .slice A4_ k4_ c4_ :: .slice none 0 0 :: .int .i64 0 :: .slice none 0 0 :: .bool false :: .slice none 0 0 :: .slice none 0 0 :: .int .i64 0 :: .slice none 0 0 :: .bool false :: .slice none 0 0 :: .slice none 0 0 :: .int .i64 0 :: .slice none 0 0 :: .bool false :: .slice none 0 0 :: .slice none 0 0 :: .int .i64 0 :: .slice none 0 0 :: .bool false :: .slice none 0 0 :: .slice none 0 0 :: []),true⟩,⟨bj,0,[.int .i64 0,.slice none 0 0,.bool false,.slice (some ⟨aa,0,none⟩) 9 9,.slice none 0 0],true⟩] [brow ab ac 5 ((D.f 2).o),⟨A3_,c3_,37,5,k3_,xs3_⟩,⟨A4_,c4_,37,5,k4_,xs4_⟩]) (fun ad h_=>by obtain ⟨b',o',g1,g2⟩:=g6 ad h_; exact ⟨b',o',g1,g2.move fg.step nilM fg.imm⟩) g6l) ?_)
 rintro e_ yc ⟨tT,rfl,qq,ic⟩
 have ig:=qq.move (Step.refl _ Nil) nilM (fg.laid (G:=F) ic)
 obtain ⟨ai,aj,ak,al,am,ao,ap,ar,au,av,aw,tU,tV,ii,sD,sE,yd,ye⟩:=ig.open_
 rw [ii] at ig
 have sF:=sD.small
 have sG:=sE.small
 rw [ii]
 refine ⟨_,rfl,fun yf qr=>?_⟩
 have jZ:=fg.next_nil ic
 have cR:=fg.frN ic
 have j0:=TT.ofW cR jZ
 refine ⟨fun _=>j0,?_⟩
 refine qaC qr (i:=7) (t:=34) (A:=(some ⟨aa,0,none⟩)) (m:=9) (q:=5) (d:=155) kz (e:=37) (size:=5) (bytes:=88) (j:=5) kz (b:=aa) (o:=0) rfl rfl (by decide) kz kz (qab qaf) j0 fun yg qs=>?_
 have qt:=qs.recast 155 (.v (.pointer (some ⟨aa,0 + 5 * 5,none⟩))) (.p 2 25) rfl rfl (Nat.le_of_ble_eq_true (n:=3) rfl)
 have qu:=qt.pk (env':=[(0,.p 0 0),(2,.p 1 0),(3,.p 3 0),(149,.v (.slice (some ⟨aa,0,none⟩) 9 9)),(153,.v (.pointer ((D.f 5).A))),(154,.v (.agg #[.int .i64 ai,.slice ao aj.length ap,.bool ak,.slice ar al.length au,.slice av am.length aw])),(155,.p 2 25)])
 refine qap (i:=8) kz (qam jZ qu (oi:=2) (cs:=(.int .i64 (IntKind.i64.wrap ((D.f 0).n)) :: .slice none 0 0 :: .bool false :: .slice none 0 0 :: .slice none 0 0 :: .int .i64 0 :: .slice (some ⟨aS,0,none⟩) ((sb ((D.f 1).s)).length) aT :: .bool false :: .slice none 0 0 :: .slice none 0 0 :: .int .i64 0 :: .slice ab (((D.f 2).o).length) ac :: .bool false :: .slice none 0 0 :: .slice none 0 0 :: .int .i64 0 :: .slice none 0 0 :: .bool (((D.f 3).A).isNone) :: .slice A3_ k3_ c3_ :: .slice none 0 0 :: .int .i64 0 :: .slice none 0 0 :: .bool (((D.f 4).A).isNone) :: .slice A4_ k4_ c4_ :: .slice none 0 0 :: .int .i64 ai :: .slice ao aj.length ap :: .bool ak :: .slice ar al.length au :: .slice av am.length aw :: .int .i64 0 :: .slice none 0 0 :: .bool false :: .slice none 0 0 :: .slice none 0 0 :: .int .i64 0 :: .slice none 0 0 :: .bool false :: .slice none 0 0 :: .slice none 0 0 :: .int .i64 0 :: .slice none 0 0 :: .bool false :: .slice none 0 0 :: .slice none 0 0 :: [])) kz fun yh b8 qv qw=>?_)
 refine ⟨fun h=>absurd rfl h,?_⟩
 refine qay kz ?_ _
 refine qac ?_
 refine qaK 8 kz qv fun sH cd ij qx=>?_
 refine qaz [0,1,2,3,4,5] [(0,.p 0 0),(2,.p 1 0),(3,.p 3 0),(157,.v (.slice (some ⟨aa,0,none⟩) 9 9)),(161,.v (.bool ((D.f 6).b)))] 3 (qab qaf) (fun _ h=>h.cells) qx qw fun yi qy=>?_
 refine qap (i:=6) kz (qan qy (f:=100) (vs:=[.bool ((D.f 6).b)]) (d:=162) kz Tryz.call100 (qlt _ _ (Imm F w sH [⟨b,o,[.int .i16 v,.int .i32 ((D.f 0).n),.string ((D.f 1).s),qaa ((D.f 2).o.getD 0 0),qaa ((D.f 2).o.getD 1 0),qaa ((D.f 2).o.getD 2 0),qaa ((D.f 2).o.getD 3 0),qaa ((D.f 2).o.getD 4 0),qaa ((D.f 2).o.getD 5 0),qaa ((D.f 2).o.getD 6 0),qaa ((D.f 2).o.getD 7 0),qaa ((D.f 2).o.getD 8 0),qaa ((D.f 2).o.getD 9 0),qaa ((D.f 2).o.getD 10 0),qaa ((D.f 2).o.getD 11 0),qaa ((D.f 2).o.getD 12 0),qaa ((D.f 2).o.getD 13 0),qaa ((D.f 2).o.getD 14 0),qaa ((D.f 2).o.getD 15 0),.slice ((D.f 3).A) ((D.f 3).l) ((D.f 3).c),.slice ((D.f 4).A) ((D.f 4).l) ((D.f 4).c),.pointer ((D.f 5).A),.bool ((D.f 6).b),.slice ((D.f 7).A) ((D.f 7).l) ((D.f 7).c),.int .i64 ((D.f 8).n),.map D.m],false⟩,⟨bI,0,[.int .i64 0,.slice none 0 0,.bool false,.slice none 0 0,.slice none 0 0],true⟩,⟨aa,0,(.int .i64 (IntKind.i64.wrap ((D.f 0).n)) :: .slice none 0 0 :: .bool false :: .slice none 0 0 :: .slice none 0 0 :: .int .i64 0 :: .slice (some ⟨aS,0,none⟩) ((sb ((D.f 1).s)).length) aT :: .bool false :: .slice none 0 0 :: .slice none 0 0 :: .int .i64 0 :: .slice ab (((D.f 2).o).length) ac :: .bool false :: .slice none 0 0 :: .slice none 0 0 :: .int .i64 0 :: .slice none 0 0 :: .bool (((D.f 3).A).isNone) :: .slice A3_ k3_ c3_ :: .slice none 0 0 :: .int .i64 0 :: .slice none 0 0 :: .bool (((D.f 4).A).isNone) :: .slice A4_ k4_ c4_ :: .slice none 0 0 :: .int .i64 ai :: .slice ao aj.length ap :: .bool ak :: .slice ar al.length au :: .slice av am.length aw :: .int .i64 0 :: .slice none 0 0 :: .bool false :: .slice none 0 0 :: .slice none 0 0 :: .int .i64 0 :: .slice none 0 0 :: .bool false :: .slice none 0 0 :: .slice none 0 0 :: .int .i64 0 :: .slice none 0 0 :: .bool false :: .slice none 0 0 :: .slice none 0 0 :: []),true⟩,⟨bj,0,[.int .i64 0,.slice none 0 0,.bool false,.slice (some ⟨aa,0,none⟩) 9 9,.slice none 0 0],true⟩] [brow ab ac 5 ((D.f 2).o),⟨A3_,c3_,37,5,k3_,xs3_⟩,⟨A4_,c4_,37,5,k4_,xs4_⟩])) ?_)
 rintro e_ yj ⟨tW,rfl,qz,ik⟩
 have il:=qz.move (Step.refl _ Nil) nilM (ij.laid (G:=F) ik)
 obtain ⟨aH,aI,aJ,aK,aL,aM,aN,aO,aP,aQ,aR,tX,tY,im,sI,sJ,yk,yl⟩:=il.open_
 rw [im] at il
 have sK:=sI.small
 have sL:=sJ.small
 rw [im]
 refine ⟨_,rfl,fun ym qA=>?_⟩
 have j1:=ij.next_nil ik
 have bD:=ij.frN ik
 have j2:=TT.ofW bD j1
 refine ⟨fun _=>j2,?_⟩
 refine qaC qA (i:=7) (t:=34) (A:=(some ⟨aa,0,none⟩)) (m:=9) (q:=6) (d:=163) kz (e:=37) (size:=5) (bytes:=88) (j:=6) kz (b:=aa) (o:=0) rfl rfl (by decide) kz kz (qab qaf) j2 fun yn qB=>?_
 have qC:=qB.recast 163 (.v (.pointer (some ⟨aa,0 + 6 * 5,none⟩))) (.p 2 30) rfl rfl (Nat.le_of_ble_eq_true (n:=3) rfl)
 have qD:=qC.pk (env':=[(0,.p 0 0),(2,.p 1 0),(3,.p 3 0),(157,.v (.slice (some ⟨aa,0,none⟩) 9 9)),(161,.v (.bool ((D.f 6).b))),(162,.v (.agg #[.int .i64 aH,.slice aM aI.length aN,.bool aJ,.slice aO aK.length aP,.slice aQ aL.length aR])),(163,.p 2 30)])
 refine qap (i:=8) kz (qam j1 qD (oi:=2) (cs:=(.int .i64 (IntKind.i64.wrap ((D.f 0).n)) :: .slice none 0 0 :: .bool false :: .slice none 0 0 :: .slice none 0 0 :: .int .i64 0 :: .slice (some ⟨aS,0,none⟩) ((sb ((D.f 1).s)).length) aT :: .bool false :: .slice none 0 0 :: .slice none 0 0 :: .int .i64 0 :: .slice ab (((D.f 2).o).length) ac :: .bool false :: .slice none 0 0 :: .slice none 0 0 :: .int .i64 0 :: .slice none 0 0 :: .bool (((D.f 3).A).isNone) :: .slice A3_ k3_ c3_ :: .slice none 0 0 :: .int .i64 0 :: .slice none 0 0 :: .bool (((D.f 4).A).isNone) :: .slice A4_ k4_ c4_ :: .slice none 0 0 :: .int .i64 ai :: .slice ao aj.length ap :: .bool ak :: .slice ar al.length au :: .slice av am.length aw :: .int .i64 aH :: .slice aM aI.length aN :: .bool aJ :: .slice aO aK.length aP :: .slice aQ aL.length aR :: .int .i64 0 :: .slice none 0 0 :: .bool false :: .slice none 0 0 :: .slice none 0 0 :: .int .i64 0 :: .slice none 0 0 :: .bool false :: .slice none 0 0 :: .slice none 0 0 :: [])) kz fun yo bf qE qF=>?_)
 refine ⟨fun h=>absurd rfl h,?_⟩
 refine qay kz ?_ _
 refine qac ?_
 refine qaK 9 kz qE fun yp bg qG io=>?_
 refine qaz [0,1,2,3,4,5,6] [(0,.p 0 0),(2,.p 1 0),(3,.p 3 0),(165,.v (.slice (some ⟨aa,0,none⟩) 9 9)),(170,.v (.bool (((D.f 7).A).isNone)))] 3 (qab qaf) (fun _ h=>h.cells) io qF fun yq qH=>?_
 refine qap (i:=7) kz (qas qH (t:=34) (A:=(some ⟨aa,0,none⟩)) (m:=9) (q:=7) (d:=171) kz (e:=37) (size:=5) (bytes:=88) (j:=7) kz (b:=aa) (o:=0) rfl rfl (by decide) fun yr qI=>?_)
 have qJ:=qI.recast 171 (.v (.pointer (some ⟨aa,0 + 7 * 5,none⟩))) (.p 2 35) rfl rfl (Nat.le_of_ble_eq_true (n:=3) rfl)
 have qK:=qJ.pk (env':=[(0,.p 0 0),(2,.p 1 0),(3,.p 3 0),(165,.v (.slice (some ⟨aa,0,none⟩) 9 9)),(170,.v (.bool (((D.f 7).A).isNone))),(171,.p 2 35)])
 refine ⟨fun _=>io,?_⟩
 refine qaz [8] [(0,.p 0 0),(2,.p 1 0),(3,.p 3 0),(170,.v (.bool (((D.f 7).A).isNone))),(172,.p 2 37)] 1 (qab qaf) (fun _ h=>h.cells) io qK fun yu qL=>?_
 refine qap (i:=9) kz (qam qG qL (oi:=2) (cs:=(.int .i64 (IntKind.i64.wrap ((D.f 0).n)) :: .slice none 0 0 :: .bool false :: .slice none 0 0 :: .slice none 0 0 :: .int .i64 0 :: .slice (some ⟨aS,0,none⟩) ((sb ((D.f 1).s)).length) aT :: .bool false :: .slice none 0 0 :: .slice none 0 0 :: .int .i64 0 :: .slice ab (((D.f 2).o).length) ac :: .bool false :: .slice none 0 0 :: .slice none 0 0 :: .int .i64 0 :: .slice none 0 0 :: .bool (((D.f 3).A).isNone) :: .slice A3_ k3_ c3_ :: .slice none 0 0 :: .int .i64 0 :: .slice none 0 0 :: .bool (((D.f 4).A).isNone) :: .slice A4_ k4_ c4_ :: .slice none 0 0 :: .int .i64 ai :: .slice ao aj.length ap :: .bool ak :: .slice ar al.length au :: .slice av am.length aw :: .int .i64 aH :: .slice aM aI.length aN :: .bool aJ :: .slice aO aK.length aP :: .slice aQ aL.length aR :: .int .i64 0 :: .slice none 0 0 :: .bool (((D.f 7).A).isNone) :: .slice none 0 0 :: .slice none 0 0 :: .int .i64 0 :: .slice none 0 0 :: .bool false :: .slice none 0 0 :: .slice none 0 0 :: [])) kz fun yv bh ip qM=>?_)
 refine ⟨fun h=>absurd rfl h,?_⟩
 refine qay kz ?_ _
 refine qac ?_
 refine wp_seq ?_
 refine qav [(0,.p 0 0),(2,.p 1 0),(3,.p 3 0),(177,.v (.int .i64 (((D.f 7).l:Nat):Int))),(178,.v (.int .i64 0))] ip qM fun yw qN=>?_
 refine wp_block ?_
 have j3:=ip.addNil 37 5
 have bi:=ip.frNil 37 5
 refine wp_loop_ghost (fun n_ a_ w_=>∃ (k7_:Nat) (A7_:Option Addr) (c7_:Nat) (xs7_:List Value) (css7_:List (List Value)),n_ = (D.f 7).l - k7_ ∧ k7_ ≤ (D.f 7).l ∧ (Trees w_ (Imm F w w_ [⟨b,o,[.int .i16 v,.int .i32 ((D.f 0).n),.string ((D.f 1).s),qaa ((D.f 2).o.getD 0 0),qaa ((D.f 2).o.getD 1 0),qaa ((D.f 2).o.getD 2 0),qaa ((D.f 2).o.getD 3 0),qaa ((D.f 2).o.getD 4 0),qaa ((D.f 2).o.getD 5 0),qaa ((D.f 2).o.getD 6 0),qaa ((D.f 2).o.getD 7 0),qaa ((D.f 2).o.getD 8 0),qaa ((D.f 2).o.getD 9 0),qaa ((D.f 2).o.getD 10 0),qaa ((D.f 2).o.getD 11 0),qaa ((D.f 2).o.getD 12 0),qaa ((D.f 2).o.getD 13 0),qaa ((D.f 2).o.getD 14 0),qaa ((D.f 2).o.getD 15 0),.slice ((D.f 3).A) ((D.f 3).l) ((D.f 3).c),.slice ((D.f 4).A) ((D.f 4).l) ((D.f 4).c),.pointer ((D.f 5).A),.bool ((D.f 6).b),.slice ((D.f 7).A) ((D.f 7).l) ((D.f 7).c),.int .i64 ((D.f 8).n),.map D.m],false⟩,⟨bI,0,[.int .i64 0,.slice none 0 0,.bool false,.slice none 0 0,.slice none 0 0],true⟩,⟨aa,0,(.int .i64 (IntKind.i64.wrap ((D.f 0).n)) :: .slice none 0 0 :: .bool false :: .slice none 0 0 :: .slice none 0 0 :: .int .i64 0 :: .slice (some ⟨aS,0,none⟩) ((sb ((D.f 1).s)).length) aT :: .bool false :: .slice none 0 0 :: .slice none 0 0 :: .int .i64 0 :: .slice ab (((D.f 2).o).length) ac :: .bool false :: .slice none 0 0 :: .slice none 0 0 :: .int .i64 0 :: .slice none 0 0 :: .bool (((D.f 3).A).isNone) :: .slice A3_ k3_ c3_ :: .slice none 0 0 :: .int .i64 0 :: .slice none 0 0 :: .bool (((D.f 4).A).isNone) :: .slice A4_ k4_ c4_ :: .slice none 0 0 :: .int .i64 ai :: .slice ao aj.length ap :: .bool ak :: .slice ar al.length au :: .slice av am.length aw :: .int .i64 aH :: .slice aM aI.length aN :: .bool aJ :: .slice aO aK.length aP :: .slice aQ aL.length aR :: .int .i64 0 :: .slice none 0 0 :: .bool (((D.f 7).A).isNone) :: .slice A7_ k7_ c7_ :: .slice none 0 0 :: .int .i64 0 :: .slice none 0 0 :: .bool false :: .slice none 0 0 :: .slice none 0 0 :: []),true⟩,⟨bj,0,[.int .i64 0,.slice none 0 0,.bool false,.slice (some ⟨aa,0,none⟩) 9 9,.slice none 0 0],true⟩] [brow ab ac 5 ((D.f 2).o),⟨A3_,c3_,37,5,k3_,xs3_⟩,⟨A4_,c4_,37,5,k4_,xs4_⟩,⟨A7_,c7_,37,5,k7_,xs7_⟩]) xs7_ (((List.range (D.f 7).l).map (fun i=>Tree.mk 0 ((D.f 7).f i).o false [] [])).take k7_) css7_) ∧ LInv j3 241 [⟨b,o,[.int .i16 v,.int .i32 ((D.f 0).n),.string ((D.f 1).s),qaa ((D.f 2).o.getD 0 0),qaa ((D.f 2).o.getD 1 0),qaa ((D.f 2).o.getD 2 0),qaa ((D.f 2).o.getD 3 0),qaa ((D.f 2).o.getD 4 0),qaa ((D.f 2).o.getD 5 0),qaa ((D.f 2).o.getD 6 0),qaa ((D.f 2).o.getD 7 0),qaa ((D.f 2).o.getD 8 0),qaa ((D.f 2).o.getD 9 0),qaa ((D.f 2).o.getD 10 0),qaa ((D.f 2).o.getD 11 0),qaa ((D.f 2).o.getD 12 0),qaa ((D.f 2).o.getD 13 0),qaa ((D.f 2).o.getD 14 0),qaa ((D.f 2).o.getD 15 0),.slice ((D.f 3).A) ((D.f 3).l) ((D.f 3).c),.slice ((D.f 4).A) ((D.f 4).l) ((D.f 4).c),.pointer ((D.f 5).A),.bool ((D.f 6).b),.slice ((D.f 7).A) ((D.f 7).l) ((D.f 7).c),.int .i64 ((D.f 8).n),.map D.m],false⟩,⟨bI,0,[.int .i64 0,.slice none 0 0,.bool false,.slice none 0 0,.slice none 0 0],true⟩,⟨aa,0,(.int .i64 (IntKind.i64.wrap ((D.f 0).n)) :: .slice none 0 0 :: .bool false :: .slice none 0 0 :: .slice none 0 0 :: .int .i64 0 :: .slice (some ⟨aS,0,none⟩) ((sb ((D.f 1).s)).length) aT :: .bool false :: .slice none 0 0 :: .slice none 0 0 :: .int .i64 0 :: .slice ab (((D.f 2).o).length) ac :: .bool false :: .slice none 0 0 :: .slice none 0 0 :: .int .i64 0 :: .slice none 0 0 :: .bool (((D.f 3).A).isNone) :: .slice A3_ k3_ c3_ :: .slice none 0 0 :: .int .i64 0 :: .slice none 0 0 :: .bool (((D.f 4).A).isNone) :: .slice A4_ k4_ c4_ :: .slice none 0 0 :: .int .i64 ai :: .slice ao aj.length ap :: .bool ak :: .slice ar al.length au :: .slice av am.length aw :: .int .i64 aH :: .slice aM aI.length aN :: .bool aJ :: .slice aO aK.length aP :: .slice aQ aL.length aR :: .int .i64 0 :: .slice none 0 0 :: .bool (((D.f 7).A).isNone) :: .slice A7_ k7_ c7_ :: .slice none 0 0 :: .int .i64 0 :: .slice none 0 0 :: .bool false :: .slice none 0 0 :: .slice none 0 0 :: []),true⟩,⟨bj,0,[.int .i64 0,.slice none 0 0,.bool false,.slice (some ⟨aa,0,none⟩) 9 9,.slice none 0 0],true⟩] [brow ab ac 5 ((D.f 2).o),⟨A3_,c3_,37,5,k3_,xs3_⟩,⟨A4_,c4_,37,5,k4_,xs4_⟩,⟨A7_,c7_,37,5,k7_,xs7_⟩] [(0,.p 0 0),(2,.p 1 0),(3,.p 3 0),(177,.v (.int .i64 (((D.f 7).l:Nat):Int))),(178,.v (.int .i64 ((k7_:Nat):Int)))] a_ w_) ((D.f 7).l) ⟨0,none,0,[],[],by omega,by omega,Trees.nil _ _,qN.pk,j3,Fr.refl _ _ _⟩ ?_
 rintro yx yy yz ⟨k7_,A7_,c7_,xs7_,css7_,tZ,t6,hT7_,qO,fL,aU⟩
 refine qav [(0,.p 0 0),(2,.p 1 0),(3,.p 3 0),(177,.v (.int .i64 (((D.f 7).l:Nat):Int))),(178,.v (.int .i64 ((k7_:Nat):Int))),(179,.v (.bool (decide (((k7_:Nat):Int) < (((D.f 7).l:Nat):Int)))))] fL qO fun yA iq=>?_
 refine wp_seq ?_
 refine qaD iq (b:=decide (((k7_:Nat):Int) < (((D.f 7).l:Nat):Int))) kz (fun ir=>?_) (fun ir=>?_)
 ·
  have t7:=of_decide_eq_true ir
  refine wp_skip ?_
  refine qac ?_
  refine wp_seq ?_
  refine wp_block ?_
  refine qav [(0,.p 0 0),(2,.p 1 0),(3,.p 3 0),(6,.v (.int .i64 ((k7_:Nat):Int))),(177,.v (.int .i64 (((D.f 7).l:Nat):Int))),(178,.v (.int .i64 ((k7_:Nat):Int)))] fL iq fun yB qP=>?_
  refine qaK 4 kz fL fun yC bE qQ t8=>?_
  refine qap (i:=0) kz (qaO qQ qP (d:=181) (cs:=[.bool false]) kz fun yD yE yF ua ub aC iu j4=>?_)
  have qR:=TT.ofW aC iu
  refine ⟨fun _=>qR,?_⟩
  refine qdR (i:=1) (j:=2) kz ?_ ?_
  ·
   refine (qam iu j4 (oi:=4) (cs:=[.bool true]) kz fun yG dz j5 qS=>?_)
   have qT:=TT.ofW (aC.trans dz) j5
   refine ⟨fun _=>qT,?_⟩
   refine qap (i:=2) kz (qam j5 qS (oi:=4) (cs:=[.bool false]) kz fun yH fh fM qU=>?_)
   have qV:=TT.ofW ((aC.trans dz).trans fh) fM
   refine ⟨fun _=>qV,?_⟩
   refine qap (i:=3) kz (qbs [0,2,3,6,177,178,182] fM.cells qU (env':=[(0,.p 0 0),(2,.p 1 0),(3,.p 3 0),(6,.v (.int .i64 ((k7_:Nat):Int))),(177,.v (.int .i64 (((D.f 7).l:Nat):Int))),(178,.v (.int .i64 ((k7_:Nat):Int))),(182,.v (.bool false))]) kz fun yI j6=>?_)
   have qW:=TT.ofW ((aC.trans dz).trans fh) fM
   refine ⟨fun _=>qW,?_⟩
   refine qay kz ?_ _
   refine qac ?_
   refine qau j6 (b:=false) kz rfl ?_
   refine qcs 20 kz fM fun yJ iv j7 fi=>?_
   refine qaz [0,1,2,3,7,8,9,10,11] [(0,.p 0 0),(2,.p 1 0),(3,.p 3 0),(177,.v (.int .i64 (((D.f 7).l:Nat):Int))),(178,.v (.int .i64 ((k7_:Nat):Int))),(204,.v (.slice (some ⟨aa,0,none⟩) 9 9)),(206,.v (.slice (some ⟨aa,0,none⟩) 9 9)),(213,.v (.slice ((D.f 7).A) ((D.f 7).l) ((D.f 7).c))),(214,.v (.int .i64 ((k7_:Nat):Int)))] 12 (qae (qab (qab (qae (qab qaf))))) (fun _ h=>h.cells) fi j6 fun yK qX=>?_
   refine qaC qX (i:=4) (t:=34) (A:=(some ⟨aa,0,none⟩)) (m:=9) (q:=7) (d:=207) kz (e:=37) (size:=5) (bytes:=88) (j:=7) kz (b:=aa) (o:=0) rfl rfl (by decide) kz kz (qae (qab (qab (qae (qab qaf))))) fi fun yL qY=>?_
   have qZ:=qY.recast 207 (.v (.pointer (some ⟨aa,0 + 7 * 5,none⟩))) (.p 2 35) rfl rfl (Nat.le_of_ble_eq_true (n:=3) rfl)
   have q0:=qZ.pk (env':=[(0,.p 0 0),(2,.p 1 0),(3,.p 3 0),(177,.v (.int .i64 (((D.f 7).l:Nat):Int))),(178,.v (.int .i64 ((k7_:Nat):Int))),(204,.v (.slice (some ⟨aa,0,none⟩) 9 9)),(206,.v (.slice (some ⟨aa,0,none⟩) 9 9)),(213,.v (.slice ((D.f 7).A) ((D.f 7).l) ((D.f 7).c))),(214,.v (.int .i64 ((k7_:Nat):Int))),(207,.p 2 35)])
   refine qaz [5,6] [(0,.p 0 0),(2,.p 1 0),(3,.p 3 0),(177,.v (.int .i64 (((D.f 7).l:Nat):Int))),(178,.v (.int .i64 ((k7_:Nat):Int))),(204,.v (.slice (some ⟨aa,0,none⟩) 9 9)),(209,.v (.slice A7_ k7_ c7_)),(213,.v (.slice ((D.f 7).A) ((D.f 7).l) ((D.f 7).c))),(214,.v (.int .i64 ((k7_:Nat):Int)))] 9 (qae (qab (qab (qae (qab qaf))))) (fun _ h=>h.cells) fi q0 fun yM q4=>?_
   obtain ⟨gl,gm,q5,uc,kx⟩:=Slots.get g8 (i:=k7_) (by omega)
   have j8:O16 _ _ (some ⟨gl,gm + k7_ * 16,none⟩) 16 (((D.f 7).f k7_).o):=qjb (k:=0) (b:=gl) (o:=gm + k7_ * 16) (s:=((D.f 7).f k7_).o) kx (g8e k7_ (by omega)) (fun j hj=>by match j,hj with | 0,_=>rfl | 1,_=>rfl | 2,_=>rfl | 3,_=>rfl | 4,_=>rfl | 5,_=>rfl | 6,_=>rfl | 7,_=>rfl | 8,_=>rfl | 9,_=>rfl | 10,_=>rfl | 11,_=>rfl | 12,_=>rfl | 13,_=>rfl | 14,_=>rfl | 15,_=>rfl | n_ + 16,h_=>exact absurd h_ (by omega))
   refine qaC q4 (i:=12) (t:=132) (A:=(D.f 7).A) (m:=((D.f 7).l)) (q:=((k7_:Nat):Int)) (d:=215) kz (e:=129) (size:=16) (bytes:=16) kz q5 rfl (by omega) kz kz (qae (qab (qab (qae (qab qaf))))) fi fun yN q6=>?_
   refine qaz [13] [(0,.p 0 0),(2,.p 1 0),(3,.p 3 0),(177,.v (.int .i64 (((D.f 7).l:Nat):Int))),(178,.v (.int .i64 ((k7_:Nat):Int))),(204,.v (.slice (some ⟨aa,0,none⟩) 9 9)),(209,.v (.slice A7_ k7_ c7_)),(216,.v (.slice (some ⟨gl,gm + k7_ * 16,none⟩) 16 16))] 7 (qae (qab (qab (qae (qab qaf))))) (fun _ h=>h.cells) fi q6 fun yO q7=>?_
   have fj:=j7.addNil 5 1
   have cS:=j7.frNil 5 1
   refine qap (i:=14) kz (qaJ fj q7 (k:=4) (d:=217) (t:=22) (e:=5) (size:=1) (bytes:=1) (A:=none) (As:=(some ⟨gl,gm + k7_ * 16,none⟩)) (m0:=0) (c:=0) (m:=16) (cs:=16) (xs:=[]) (news:=bc (((D.f 7).f k7_).o)) kz kz rfl (j8.move fj.step nilM fj.imm).src (j8.move fj.step nilM fj.imm).cap (by omega) fun bJ bK yP yQ cT q8 q9=>?_)
   have ra:(⟨bJ,bK,5,1,0 + 16,[] ++ bc (((D.f 7).f k7_).o)⟩:Rw) = brow bJ bK 5 (((D.f 7).f k7_).o):=by rw [List.nil_append]; unfold brow; rw [(g8e k7_ (by omega))]
   obtain ⟨j9,cU⟩:=q8.rowEq 4 [brow ab ac 5 ((D.f 2).o),⟨A3_,c3_,37,5,k3_,xs3_⟩,⟨A4_,c4_,37,5,k4_,xs4_⟩,⟨A7_,c7_,37,5,k7_,xs7_⟩,brow bJ bK 5 (((D.f 7).f k7_).o)] ra
   have rb:=EnvOk.pick q9 (ks:=[0,2,3,177,178,204,209,216,217]) (env':=[(0,.p 0 0),(2,.p 1 0),(3,.p 3 0),(177,.v (.int .i64 (((D.f 7).l:Nat):Int))),(178,.v (.int .i64 ((k7_:Nat):Int))),(204,.v (.slice (some ⟨aa,0,none⟩) 9 9)),(209,.v (.slice A7_ k7_ c7_)),(216,.v (.slice (some ⟨gl,gm + k7_ * 16,none⟩) 16 16)),(217,.v (.slice bJ (0 + 16) bK))]) kz
   have rc:=rb.cast (env':=[(0,.p 0 0),(2,.p 1 0),(3,.p 3 0),(177,.v (.int .i64 (((D.f 7).l:Nat):Int))),(178,.v (.int .i64 ((k7_:Nat):Int))),(204,.v (.slice (some ⟨aa,0,none⟩) 9 9)),(209,.v (.slice A7_ k7_ c7_)),(216,.v (.slice (some ⟨gl,gm + k7_ * 16,none⟩) 16 16)),(217,.v (.slice bJ ((((D.f 7).f k7_).o).length) bK))]) (by rw [(g8e k7_ (by omega))])
   have re:=j9.giveUp (G:=F) 4 [brow ab ac 5 ((D.f 2).o),⟨A3_,c3_,37,5,k3_,xs3_⟩,⟨A4_,c4_,37,5,k4_,xs4_⟩,⟨A7_,c7_,37,5,k7_,xs7_⟩] (show _ = some (brow bJ bK 5 (((D.f 7).f k7_).o)) from rfl) (by rw [(g8e k7_ (by omega))]; decide)
   obtain ⟨ka,cV⟩:=j9.cutR 4 [brow ab ac 5 ((D.f 2).o),⟨A3_,c3_,37,5,k3_,xs3_⟩,⟨A4_,c4_,37,5,k4_,xs4_⟩,⟨A7_,c7_,37,5,k7_,xs7_⟩]
   have kd:=TT.ofW (((cS.trans cT).trans cU).trans cV) ka
   refine ⟨fun _=>kd,?_⟩
   refine qaz [15] [(0,.p 0 0),(2,.p 1 0),(3,.p 3 0),(177,.v (.int .i64 (((D.f 7).l:Nat):Int))),(178,.v (.int .i64 ((k7_:Nat):Int))),(204,.v (.slice (some ⟨aa,0,none⟩) 9 9)),(209,.v (.slice A7_ k7_ c7_)),(218,.v (.agg #[.int .i64 0,.slice bJ ((((D.f 7).f k7_).o).length) bK,.bool false,.slice none 0 0,.slice none 0 0]))] 5 (qae (qab (qab (qae (qab qaf))))) (fun _ h=>h.cells) kd rc fun yR rf=>?_
   refine qap (i:=16) kz (qby ka rf (e:=37) (size:=5) (len:=1) (cs:=[.int .i64 0,.slice bJ ((((D.f 7).f k7_).o).length) bK,.bool false,.slice none 0 0,.slice none 0 0]) (d:=219) kz kz fun rg yS yT ud ue ce fN rh=>?_)
   have ri:=TT.ofW ((((cS.trans cT).trans cU).trans cV).trans ce) fN
   refine ⟨fun _=>ri,?_⟩
   refine qap (i:=17) kz (qaJ fN rh (k:=3) (d:=220) (t:=34) (e:=37) (size:=5) (bytes:=88) (A:=A7_) (As:=(some ⟨rg,0,none⟩)) (m0:=k7_) (c:=c7_) (m:=1) (cs:=1) (xs:=xs7_) (news:=[.int .i64 0,.slice bJ ((((D.f 7).f k7_).o).length) bK,.bool false,.slice none 0 0,.slice none 0 0]) kz kz rfl (qbr (fN.own 4 _ rfl) (qbp kz)) (qbz (fN.own 4 _ rfl)) (by omega) fun gn gp yU yV cW iw rj=>?_)
   have rl:=TT.ofW (((((cS.trans cT).trans cU).trans cV).trans ce).trans cW) iw
   refine ⟨fun _=>rl,?_⟩
   refine qap (i:=18) kz (qas rj (t:=34) (A:=(some ⟨aa,0,none⟩)) (m:=9) (q:=7) (d:=221) kz (e:=37) (size:=5) (bytes:=88) (j:=7) kz (b:=aa) (o:=0) rfl rfl (by decide) fun yW rm=>?_)
   have rn:=rm.recast 221 (.v (.pointer (some ⟨aa,0 + 7 * 5,none⟩))) (.p 2 35) rfl rfl (Nat.le_of_ble_eq_true (n:=3) rfl)
   have ro:=rn.pk (env':=[(0,.p 0 0),(2,.p 1 0),(3,.p 3 0),(177,.v (.int .i64 (((D.f 7).l:Nat):Int))),(178,.v (.int .i64 ((k7_:Nat):Int))),(204,.v (.slice (some ⟨aa,0,none⟩) 9 9)),(209,.v (.slice A7_ k7_ c7_)),(218,.v (.agg #[.int .i64 0,.slice bJ ((((D.f 7).f k7_).o).length) bK,.bool false,.slice none 0 0,.slice none 0 0])),(219,.v (.slice (some ⟨rg,0,none⟩) 1 1)),(220,.v (.slice gn (k7_ + 1) gp)),(221,.p 2 35)])
   have ke:=TT.ofW (((((cS.trans cT).trans cU).trans cV).trans ce).trans cW) iw
   refine ⟨fun _=>ke,?_⟩
   refine qaz [19] [(0,.p 0 0),(2,.p 1 0),(3,.p 3 0),(177,.v (.int .i64 (((D.f 7).l:Nat):Int))),(178,.v (.int .i64 ((k7_:Nat):Int))),(220,.v (.slice gn (k7_ + 1) gp)),(222,.p 2 38)] 1 (qae (qab (qab (qae (qab qaf))))) (fun _ h=>h.cells) ke ro fun uf ky=>?_
   refine qap (i:=20) kz (qam iw ky (oi:=2) (cs:=(.int .i64 (IntKind.i64.wrap ((D.f 0).n)) :: .slice none 0 0 :: .bool false :: .slice none 0 0 :: .slice none 0 0 :: .int .i64 0 :: .slice (some ⟨aS,0,none⟩) ((sb ((D.f 1).s)).length) aT :: .bool false :: .slice none 0 0 :: .slice none 0 0 :: .int .i64 0 :: .slice ab (((D.f 2).o).length) ac :: .bool false :: .slice none 0 0 :: .slice none 0 0 :: .int .i64 0 :: .slice none 0 0 :: .bool (((D.f 3).A).isNone) :: .slice A3_ k3_ c3_ :: .slice none 0 0 :: .int .i64 0 :: .slice none 0 0 :: .bool (((D.f 4).A).isNone) :: .slice A4_ k4_ c4_ :: .slice none 0 0 :: .int .i64 ai :: .slice ao aj.length ap :: .bool ak :: .slice ar al.length au :: .slice av am.length aw :: .int .i64 aH :: .slice aM aI.length aN :: .bool aJ :: .slice aO aK.length aP :: .slice aQ aL.length aR :: .int .i64 0 :: .slice none 0 0 :: .bool (((D.f 7).A).isNone) :: .slice gn (k7_ + 1) gp :: .slice none 0 0 :: .int .i64 0 :: .slice none 0 0 :: .bool false :: .slice none 0 0 :: .slice none 0 0 :: [])) kz fun ug cX ix kA=>?_)
   refine ⟨fun h=>absurd rfl h,?_⟩
   refine qay kz ?_ _
   refine qax ?_
   refine qac ?_
   refine qaq [0,1] kz ?_
   refine qal [0,1] [] [(0,.p 0 0),(2,.p 1 0),(3,.p 3 0),(177,.v (.int .i64 (((D.f 7).l:Nat):Int))),(178,.v (.int .i64 (IntKind.i64.wrap (((k7_:Nat):Int) + 1))))] ix kA fun uh kB=>?_
   refine qah (qac ?_)
   obtain ⟨iy,kC,cY⟩:=ix.cutB kB 4 [⟨b,o,[.int .i16 v,.int .i32 ((D.f 0).n),.string ((D.f 1).s),qaa ((D.f 2).o.getD 0 0),qaa ((D.f 2).o.getD 1 0),qaa ((D.f 2).o.getD 2 0),qaa ((D.f 2).o.getD 3 0),qaa ((D.f 2).o.getD 4 0),qaa ((D.f 2).o.getD 5 0),qaa ((D.f 2).o.getD 6 0),qaa ((D.f 2).o.getD 7 0),qaa ((D.f 2).o.getD 8 0),qaa ((D.f 2).o.getD 9 0),qaa ((D.f 2).o.getD 10 0),qaa ((D.f 2).o.getD 11 0),qaa ((D.f 2).o.getD 12 0),qaa ((D.f 2).o.getD 13 0),qaa ((D.f 2).o.getD 14 0),qaa ((D.f 2).o.getD 15 0),.slice ((D.f 3).A) ((D.f 3).l) ((D.f 3).c),.slice ((D.f 4).A) ((D.f 4).l) ((D.f 4).c),.pointer ((D.f 5).A),.bool ((D.f 6).b),.slice ((D.f 7).A) ((D.f 7).l) ((D.f 7).c),.int .i64 ((D.f 8).n),.map D.m],false⟩,⟨bI,0,[.int .i64 0,.slice none 0 0,.bool false,.slice none 0 0,.slice none 0 0],true⟩,⟨aa,0,(.int .i64 (IntKind.i64.wrap ((D.f 0).n)) :: .slice none 0 0 :: .bool false :: .slice none 0 0 :: .slice none 0 0 :: .int .i64 0 :: .slice (some ⟨aS,0,none⟩) ((sb ((D.f 1).s)).length) aT :: .bool false :: .slice none 0 0 :: .slice none 0 0 :: .int .i64 0 :: .slice ab (((D.f 2).o).length) ac :: .bool false :: .slice none 0 0 :: .slice none 0 0 :: .int .i64 0 :: .slice none 0 0 :: .bool (((D.f 3).A).isNone) :: .slice A3_ k3_ c3_ :: .slice none 0 0 :: .int .i64 0 :: .slice none 0 0 :: .bool (((D.f 4).A).isNone) :: .slice A4_ k4_ c4_ :: .slice none 0 0 :: .int .i64 ai :: .slice ao aj.length ap :: .bool ak :: .slice ar al.length au :: .slice av am.length aw :: .int .i64 aH :: .slice aM aI.length aN :: .bool aJ :: .slice aO aK.length aP :: .slice aQ aL.length aR :: .int .i64 0 :: .slice none 0 0 :: .bool (((D.f 7).A).isNone) :: .slice gn (k7_ + 1) gp :: .slice none 0 0 :: .int .i64 0 :: .slice none 0 0 :: .bool false :: .slice none 0 0 :: .slice none 0 0 :: []),true⟩,⟨bj,0,[.int .i64 0,.slice none 0 0,.bool false,.slice (some ⟨aa,0,none⟩) 9 9,.slice none 0 0],true⟩] [(0,.p 0 0),(2,.p 1 0),(3,.p 3 0),(177,.v (.int .i64 (((D.f 7).l:Nat):Int))),(178,.v (.int .i64 (IntKind.i64.wrap (((k7_:Nat):Int) + 1))))]
   obtain ⟨kD,cZ⟩:=kC.cutR 4 [brow ab ac 5 ((D.f 2).o),⟨A3_,c3_,37,5,k3_,xs3_⟩,⟨A4_,c4_,37,5,k4_,xs4_⟩,⟨gn,gp,37,5,k7_ + 1,xs7_ ++ [.int .i64 0,.slice bJ ((((D.f 7).f k7_).o).length) bK,.bool false,.slice none 0 0,.slice none 0 0]⟩]
   have kE:IntKind.i64.wrap (((k7_:Nat):Int) + 1) = ((k7_ + 1:Nat):Int):=qa1 (by omega)
   rw [kE] at iy
   exact ⟨(D.f 7).l - (k7_ + 1),by omega,k7_ + 1,gn,gp,xs7_ ++ [Value.int .i64 0,.slice bJ ((((D.f 7).f k7_).o).length) bK,.bool false,.slice none 0 0,.slice none 0 0],(css7_ ++ [[Value.int .i64 0,.slice bJ ((((D.f 7).f k7_).o).length) bK,.bool false,.slice none 0 0,.slice none 0 0]]),rfl,by omega,by rw [qb9 (by omega)]; exact (hT7_.move (((((((((((((bE.trans aC).trans dz).trans fh).trans iv).trans cS).trans cT).trans cU).trans cV).trans ce).trans cW).trans cX).trans cY).trans cZ).step immM (((((((((((((bE.trans aC).trans dz).trans fh).trans iv).trans cS).trans cT).trans cU).trans cV).trans ce).trans cW).trans cX).trans cY).trans cZ).to').snoc (x:=(fun i=>Tree.mk 0 ((D.f 7).f i).o false [] []) k7_) (TreeR.mk (n:=0) (b:=false) (s:=(((D.f 7).f k7_).o)) (l:=[]) (u:=[]) (fun _=>[]) (re.move ((((ce.trans cW).trans cX).trans cY).trans cZ).step immM ((((ce.trans cW).trans cX).trans cY).trans cZ).to') (Slots.nil _ _ _ _) (fun i_ x_ h_=>by simp at h_) (TagsR.nil _ _)),iy.pk,kD,((((((((((((((aU.trans bE).trans aC).trans dz).trans fh).trans iv).trans cS).trans cT).trans cU).trans cV).trans ce).trans cW).trans cX).trans cY).trans cZ)⟩
  refine (qam iu j4 (oi:=4) (cs:=[.bool false]) kz fun ui aV iz kF=>?_)
  have kG:=TT.ofW (aC.trans aV) iz
  refine ⟨fun _=>kG,?_⟩
  refine qap (i:=1) kz (qam iz kF (oi:=4) (cs:=[.bool true]) kz fun uj aY ev kH=>?_)
  have kI:=TT.ofW ((aC.trans aV).trans aY) ev
  refine ⟨fun _=>kI,?_⟩
  refine qap (i:=3) kz (qbs [0,2,3,6,177,178,182] ev.cells kH (env':=[(0,.p 0 0),(2,.p 1 0),(3,.p 3 0),(6,.v (.int .i64 ((k7_:Nat):Int))),(177,.v (.int .i64 (((D.f 7).l:Nat):Int))),(178,.v (.int .i64 ((k7_:Nat):Int))),(182,.v (.bool true))]) kz fun uk iA=>?_)
  have kJ:=TT.ofW ((aC.trans aV).trans aY) ev
  refine ⟨fun _=>kJ,?_⟩
  refine qay kz ?_ _
  refine qac ?_
  refine qbk iA (b:=true) kz rfl ?_
  refine qaK 19 kz ev fun ul bL fk c5=>?_
  refine qaz [0,1,5,6,7,8,9] [(0,.p 0 0),(2,.p 1 0),(3,.p 3 0),(177,.v (.int .i64 (((D.f 7).l:Nat):Int))),(178,.v (.int .i64 ((k7_:Nat):Int))),(184,.v (.slice (some ⟨aa,0,none⟩) 9 9)),(191,.v (.slice ((D.f 7).A) ((D.f 7).l) ((D.f 7).c))),(192,.v (.int .i64 ((k7_:Nat):Int)))] 13 (qab (qae (qab (qab (qae (qab qaf)))))) (fun _ h=>h.cells) c5 iA fun um kK=>?_
  refine qaC kK (i:=2) (t:=34) (A:=(some ⟨aa,0,none⟩)) (m:=9) (q:=7) (d:=185) kz (e:=37) (size:=5) (bytes:=88) (j:=7) kz (b:=aa) (o:=0) rfl rfl (by decide) kz kz (qab (qae (qab (qab (qae (qab qaf)))))) c5 fun un kL=>?_
  have kM:=kL.recast 185 (.v (.pointer (some ⟨aa,0 + 7 * 5,none⟩))) (.p 2 35) rfl rfl (Nat.le_of_ble_eq_true (n:=3) rfl)
  have kN:=kM.pk (env':=[(0,.p 0 0),(2,.p 1 0),(3,.p 3 0),(177,.v (.int .i64 (((D.f 7).l:Nat):Int))),(178,.v (.int .i64 ((k7_:Nat):Int))),(184,.v (.slice (some ⟨aa,0,none⟩) 9 9)),(191,.v (.slice ((D.f 7).A) ((D.f 7).l) ((D.f 7).c))),(192,.v (.int .i64 ((k7_:Nat):Int))),(185,.p 2 35)])
  refine qaz [3,4,14] [(0,.p 0 0),(2,.p 1 0),(3,.p 3 0),(177,.v (.int .i64 (((D.f 7).l:Nat):Int))),(178,.v (.int .i64 ((k7_:Nat):Int))),(184,.v (.slice (some ⟨aa,0,none⟩) 9 9)),(187,.v (.slice A7_ k7_ c7_)),(191,.v (.slice ((D.f 7).A) ((D.f 7).l) ((D.f 7).c))),(192,.v (.int .i64 ((k7_:Nat):Int))),(197,.v (.int .i64 ((k7_:Nat):Int)))] 9 (qab (qae (qab (qab (qae (qab qaf)))))) (fun _ h=>h.cells) c5 kN fun uo kO=>?_
  obtain ⟨bF,bG,kP,sM,jb⟩:=Slots.get g8 (i:=k7_) (by omega)
  have ew:O16 _ _ (some ⟨bF,bG + k7_ * 16,none⟩) 16 (((D.f 7).f k7_).o):=qjb (k:=0) (b:=bF) (o:=bG + k7_ * 16) (s:=((D.f 7).f k7_).o) jb (g8e k7_ (by omega)) (fun j hj=>by match j,hj with | 0,_=>rfl | 1,_=>rfl | 2,_=>rfl | 3,_=>rfl | 4,_=>rfl | 5,_=>rfl | 6,_=>rfl | 7,_=>rfl | 8,_=>rfl | 9,_=>rfl | 10,_=>rfl | 11,_=>rfl | 12,_=>rfl | 13,_=>rfl | 14,_=>rfl | 15,_=>rfl | n_ + 16,h_=>exact absurd h_ (by omega))
  refine qaC kO (i:=10) (t:=132) (A:=(D.f 7).A) (m:=((D.f 7).l)) (q:=((k7_:Nat):Int)) (d:=193) kz (e:=129) (size:=16) (bytes:=16) kz kP rfl (by omega) kz kz (qab (qae (qab (qab (qae (qab qaf)))))) c5 fun uq kQ=>?_
  refine qaz [11] [(0,.p 0 0),(2,.p 1 0),(3,.p 3 0),(177,.v (.int .i64 (((D.f 7).l:Nat):Int))),(178,.v (.int .i64 ((k7_:Nat):Int))),(184,.v (.slice (some ⟨aa,0,none⟩) 9 9)),(187,.v (.slice A7_ k7_ c7_)),(194,.v (.slice (some ⟨bF,bG + k7_ * 16,none⟩) 16 16)),(197,.v (.int .i64 ((k7_:Nat):Int)))] 7 (qab (qae (qab (qab (qae (qab qaf)))))) (fun _ h=>h.cells) c5 kQ fun ur iB=>?_
  refine qdR (i:=12) (j:=15) kz ?_ ?_
  ·
   have c6:=fk.addNil 5 1
   have bk:=fk.frNil 5 1
   refine (qaJ c6 iB (k:=4) (d:=195) (t:=22) (e:=5) (size:=1) (bytes:=1) (A:=none) (As:=(some ⟨bF,bG + k7_ * 16,none⟩)) (m0:=0) (c:=0) (m:=16) (cs:=16) (xs:=[]) (news:=bc (((D.f 7).f k7_).o)) kz kz rfl (ew.move c6.step nilM c6.imm).src (ew.move c6.step nilM c6.imm).cap (by omega) fun aD aE ut uu bn kR kS=>?_)
   have kT:(⟨aD,aE,5,1,0 + 16,[] ++ bc (((D.f 7).f k7_).o)⟩:Rw) = brow aD aE 5 (((D.f 7).f k7_).o):=by rw [List.nil_append]; unfold brow; rw [(g8e k7_ (by omega))]
   obtain ⟨iC,bo⟩:=kR.rowEq 4 [brow ab ac 5 ((D.f 2).o),⟨A3_,c3_,37,5,k3_,xs3_⟩,⟨A4_,c4_,37,5,k4_,xs4_⟩,⟨A7_,c7_,37,5,k7_,xs7_⟩,brow aD aE 5 (((D.f 7).f k7_).o)] kT
   have kU:=EnvOk.pick kS (ks:=[0,2,3,177,178,184,187,194,197,195]) (env':=[(0,.p 0 0),(2,.p 1 0),(3,.p 3 0),(177,.v (.int .i64 (((D.f 7).l:Nat):Int))),(178,.v (.int .i64 ((k7_:Nat):Int))),(184,.v (.slice (some ⟨aa,0,none⟩) 9 9)),(187,.v (.slice A7_ k7_ c7_)),(194,.v (.slice (some ⟨bF,bG + k7_ * 16,none⟩) 16 16)),(197,.v (.int .i64 ((k7_:Nat):Int))),(195,.v (.slice aD (0 + 16) aE))]) kz
   have kV:=kU.cast (env':=[(0,.p 0 0),(2,.p 1 0),(3,.p 3 0),(177,.v (.int .i64 (((D.f 7).l:Nat):Int))),(178,.v (.int .i64 ((k7_:Nat):Int))),(184,.v (.slice (some ⟨aa,0,none⟩) 9 9)),(187,.v (.slice A7_ k7_ c7_)),(194,.v (.slice (some ⟨bF,bG + k7_ * 16,none⟩) 16 16)),(197,.v (.int .i64 ((k7_:Nat):Int))),(195,.v (.slice aD ((((D.f 7).f k7_).o).length) aE))]) (by rw [(g8e k7_ (by omega))])
   have kW:=iC.giveUp (G:=F) 4 [brow ab ac 5 ((D.f 2).o),⟨A3_,c3_,37,5,k3_,xs3_⟩,⟨A4_,c4_,37,5,k4_,xs4_⟩,⟨A7_,c7_,37,5,k7_,xs7_⟩] (show _ = some (brow aD aE 5 (((D.f 7).f k7_).o)) from rfl) (by rw [(g8e k7_ (by omega))]; decide)
   obtain ⟨iD,bp⟩:=iC.cutR 4 [brow ab ac 5 ((D.f 2).o),⟨A3_,c3_,37,5,k3_,xs3_⟩,⟨A4_,c4_,37,5,k4_,xs4_⟩,⟨A7_,c7_,37,5,k7_,xs7_⟩]
   have iE:=TT.ofW (((bk.trans bn).trans bo).trans bp) iD
   refine ⟨fun _=>iE,?_⟩
   refine qaz [13] [(0,.p 0 0),(2,.p 1 0),(3,.p 3 0),(177,.v (.int .i64 (((D.f 7).l:Nat):Int))),(178,.v (.int .i64 ((k7_:Nat):Int))),(184,.v (.slice (some ⟨aa,0,none⟩) 9 9)),(187,.v (.slice A7_ k7_ c7_)),(196,.v (.agg #[.int .i64 0,.slice aD ((((D.f 7).f k7_).o).length) aE,.bool false,.slice none 0 0,.slice none 0 0])),(197,.v (.int .i64 ((k7_:Nat):Int)))] 5 (qab (qae (qab (qab (qae (qab qaf)))))) (fun _ h=>h.cells) iE kV fun uw kX=>?_
   refine qap (i:=15) kz (qby iD kX (e:=37) (size:=5) (len:=1) (cs:=[.int .i64 0,.slice none 0 0,.bool false,.slice none 0 0,.slice none 0 0]) (d:=198) kz kz fun iF ux uy sN sO aZ ey kY=>?_)
   have kZ:=TT.ofW ((((bk.trans bn).trans bo).trans bp).trans aZ) ey
   refine ⟨fun _=>kZ,?_⟩
   refine qap (i:=16) kz (qaJ ey kY (k:=3) (d:=199) (t:=34) (e:=37) (size:=5) (bytes:=88) (A:=A7_) (As:=(some ⟨iF,0,none⟩)) (m0:=k7_) (c:=c7_) (m:=1) (cs:=1) (xs:=xs7_) (news:=[.int .i64 0,.slice none 0 0,.bool false,.slice none 0 0,.slice none 0 0]) kz kz rfl (qbr (ey.own 4 _ rfl) (qbp kz)) (qbz (ey.own 4 _ rfl)) (by omega) fun aW ba uz uA bq fl k5=>?_)
   have k6:=TT.ofW (((((bk.trans bn).trans bo).trans bp).trans aZ).trans bq) fl
   refine ⟨fun _=>k6,?_⟩
   refine qap (i:=17) kz (qas k5 (t:=34) (A:=(some ⟨aa,0,none⟩)) (m:=9) (q:=7) (d:=200) kz (e:=37) (size:=5) (bytes:=88) (j:=7) kz (b:=aa) (o:=0) rfl rfl (by decide) fun uB k7=>?_)
   have k8:=k7.recast 200 (.v (.pointer (some ⟨aa,0 + 7 * 5,none⟩))) (.p 2 35) rfl rfl (Nat.le_of_ble_eq_true (n:=3) rfl)
   have k9:=k8.pk (env':=[(0,.p 0 0),(2,.p 1 0),(3,.p 3 0),(177,.v (.int .i64 (((D.f 7).l:Nat):Int))),(178,.v (.int .i64 ((k7_:Nat):Int))),(184,.v (.slice (some ⟨aa,0,none⟩) 9 9)),(187,.v (.slice A7_ k7_ c7_)),(196,.v (.agg #[.int .i64 0,.slice aD ((((D.f 7).f k7_).o).length) aE,.bool false,.slice none 0 0,.slice none 0 0])),(197,.v (.int .i64 ((k7_:Nat):Int))),(198,.v (.slice (some ⟨iF,0,none⟩) 1 1)),(199,.v (.slice aW (k7_ + 1) ba)),(200,.p 2 35)])
   have iG:=TT.ofW (((((bk.trans bn).trans bo).trans bp).trans aZ).trans bq) fl
   refine ⟨fun _=>iG,?_⟩
   refine qaz [18] [(0,.p 0 0),(2,.p 1 0),(3,.p 3 0),(177,.v (.int .i64 (((D.f 7).l:Nat):Int))),(178,.v (.int .i64 ((k7_:Nat):Int))),(196,.v (.agg #[.int .i64 0,.slice aD ((((D.f 7).f k7_).o).length) aE,.bool false,.slice none 0 0,.slice none 0 0])),(197,.v (.int .i64 ((k7_:Nat):Int))),(199,.v (.slice aW (k7_ + 1) ba)),(201,.p 2 38)] 1 (qab (qae (qab (qab (qae (qab qaf)))))) (fun _ h=>h.cells) iG k9 fun uC la=>?_
   refine qap (i:=19) kz (qam fl la (oi:=2) (cs:=(.int .i64 (IntKind.i64.wrap ((D.f 0).n)) :: .slice none 0 0 :: .bool false :: .slice none 0 0 :: .slice none 0 0 :: .int .i64 0 :: .slice (some ⟨aS,0,none⟩) ((sb ((D.f 1).s)).length) aT :: .bool false :: .slice none 0 0 :: .slice none 0 0 :: .int .i64 0 :: .slice ab (((D.f 2).o).length) ac :: .bool false :: .slice none 0 0 :: .slice none 0 0 :: .int .i64 0 :: .slice none 0 0 :: .bool (((D.f 3).A).isNone) :: .slice A3_ k3_ c3_ :: .slice none 0 0 :: .int .i64 0 :: .slice none 0 0 :: .bool (((D.f 4).A).isNone) :: .slice A4_ k4_ c4_ :: .slice none 0 0 :: .int .i64 ai :: .slice ao aj.length ap :: .bool ak :: .slice ar al.length au :: .slice av am.length aw :: .int .i64 aH :: .slice aM aI.length aN :: .bool aJ :: .slice aO aK.length aP :: .slice aQ aL.length aR :: .int .i64 0 :: .slice none 0 0 :: .bool (((D.f 7).A).isNone) :: .slice aW (k7_ + 1) ba :: .slice none 0 0 :: .int .i64 0 :: .slice none 0 0 :: .bool false :: .slice none 0 0 :: .slice none 0 0 :: [])) kz fun rp da iH lb=>?_)
   refine ⟨fun h=>absurd rfl h,?_⟩
   refine qay kz ?_ _
   refine qac ?_
   refine qaq [0,1] kz ?_
   have lc:World.ownsRow rp 0 37 5 (.slice aW (k7_ + 1) ba) (k7_ + 1) (xs7_ ++ [.int .i64 0,.slice none 0 0,.bool false,.slice none 0 0,.slice none 0 0]):=iH.own 3 _ rfl
   obtain ⟨kf,iI⟩:=qbY lc (by omega)
   refine qak (qas lb (t:=34) (A:=aW) (m:=(k7_ + 1)) (q:=((k7_:Nat):Int)) (d:=202) kz (e:=37) (size:=5) (bytes:=88) kz (b:=kf) (o:=0) (j:=k7_) iI (rfl) (by omega) fun uD ld=>?_)
   refine qak (qbK iH ld (k:=3) (g:=kf) (o:=k7_ * 5) (c:=ba) (m:=(k7_ + 1)) (size:=5) (e:=37) (A:=aW) (xs:=(xs7_ ++ [.int .i64 0,.slice none 0 0,.bool false,.slice none 0 0,.slice none 0 0])) (vs:=[.int .i64 0,.slice aD ((((D.f 7).f k7_).o).length) aE,.bool false,.slice none 0 0,.slice none 0 0]) kz rfl iI (by simp only [List.length_cons,List.length_nil]; omega) fun uE db lf lg=>?_)
   have lh:(⟨aW,ba,37,5,k7_ + 1,qbj (xs7_ ++ [.int .i64 0,.slice none 0 0,.bool false,.slice none 0 0,.slice none 0 0]) (k7_ * 5) [.int .i64 0,.slice aD ((((D.f 7).f k7_).o).length) aE,.bool false,.slice none 0 0,.slice none 0 0]⟩:Rw) = ⟨aW,ba,37,5,k7_ + 1,xs7_ ++ [.int .i64 0,.slice aD ((((D.f 7).f k7_).o).length) aE,.bool false,.slice none 0 0,.slice none 0 0]⟩:=by rw [qcr (by rw [hT7_.xslen,List.length_take,qbZ]; omega)]
   obtain ⟨iJ,dc⟩:=lf.rowEq 3 [brow ab ac 5 ((D.f 2).o),⟨A3_,c3_,37,5,k3_,xs3_⟩,⟨A4_,c4_,37,5,k4_,xs4_⟩,⟨aW,ba,37,5,k7_ + 1,xs7_ ++ [.int .i64 0,.slice aD ((((D.f 7).f k7_).o).length) aE,.bool false,.slice none 0 0,.slice none 0 0]⟩,⟨some ⟨iF,0,none⟩,1,37,5,1,[.int .i64 0,.slice none 0 0,.bool false,.slice none 0 0,.slice none 0 0]⟩] lh
   refine qah ?_
   refine qax ?_
   refine qac ?_
   refine qaq [0,1] kz ?_
   refine qal [0,1] [] [(0,.p 0 0),(2,.p 1 0),(3,.p 3 0),(177,.v (.int .i64 (((D.f 7).l:Nat):Int))),(178,.v (.int .i64 (IntKind.i64.wrap (((k7_:Nat):Int) + 1))))] iJ lg fun uF li=>?_
   refine qah (qac ?_)
   obtain ⟨iK,lj,de⟩:=iJ.cutB li 4 [⟨b,o,[.int .i16 v,.int .i32 ((D.f 0).n),.string ((D.f 1).s),qaa ((D.f 2).o.getD 0 0),qaa ((D.f 2).o.getD 1 0),qaa ((D.f 2).o.getD 2 0),qaa ((D.f 2).o.getD 3 0),qaa ((D.f 2).o.getD 4 0),qaa ((D.f 2).o.getD 5 0),qaa ((D.f 2).o.getD 6 0),qaa ((D.f 2).o.getD 7 0),qaa ((D.f 2).o.getD 8 0),qaa ((D.f 2).o.getD 9 0),qaa ((D.f 2).o.getD 10 0),qaa ((D.f 2).o.getD 11 0),qaa ((D.f 2).o.getD 12 0),qaa ((D.f 2).o.getD 13 0),qaa ((D.f 2).o.getD 14 0),qaa ((D.f 2).o.getD 15 0),.slice ((D.f 3).A) ((D.f 3).l) ((D.f 3).c),.slice ((D.f 4).A) ((D.f 4).l) ((D.f 4).c),.pointer ((D.f 5).A),.bool ((D.f 6).b),.slice ((D.f 7).A) ((D.f 7).l) ((D.f 7).c),.int .i64 ((D.f 8).n),.map D.m],false⟩,⟨bI,0,[.int .i64 0,.slice none 0 0,.bool false,.slice none 0 0,.slice none 0 0],true⟩,⟨aa,0,(.int .i64 (IntKind.i64.wrap ((D.f 0).n)) :: .slice none 0 0 :: .bool false :: .slice none 0 0 :: .slice none 0 0 :: .int .i64 0 :: .slice (some ⟨aS,0,none⟩) ((sb ((D.f 1).s)).length) aT :: .bool false :: .slice none 0 0 :: .slice none 0 0 :: .int .i64 0 :: .slice ab (((D.f 2).o).length) ac :: .bool false :: .slice none 0 0 :: .slice none 0 0 :: .int .i64 0 :: .slice none 0 0 :: .bool (((D.f 3).A).isNone) :: .slice A3_ k3_ c3_ :: .slice none 0 0 :: .int .i64 0 :: .slice none 0 0 :: .bool (((D.f 4).A).isNone) :: .slice A4_ k4_ c4_ :: .slice none 0 0 :: .int .i64 ai :: .slice ao aj.length ap :: .bool ak :: .slice ar al.length au :: .slice av am.length aw :: .int .i64 aH :: .slice aM aI.length aN :: .bool aJ :: .slice aO aK.length aP :: .slice aQ aL.length aR :: .int .i64 0 :: .slice none 0 0 :: .bool (((D.f 7).A).isNone) :: .slice aW (k7_ + 1) ba :: .slice none 0 0 :: .int .i64 0 :: .slice none 0 0 :: .bool false :: .slice none 0 0 :: .slice none 0 0 :: []),true⟩,⟨bj,0,[.int .i64 0,.slice none 0 0,.bool false,.slice (some ⟨aa,0,none⟩) 9 9,.slice none 0 0],true⟩] [(0,.p 0 0),(2,.p 1 0),(3,.p 3 0),(177,.v (.int .i64 (((D.f 7).l:Nat):Int))),(178,.v (.int .i64 (IntKind.i64.wrap (((k7_:Nat):Int) + 1))))]
   obtain ⟨lm,dg⟩:=lj.cutR 4 [brow ab ac 5 ((D.f 2).o),⟨A3_,c3_,37,5,k3_,xs3_⟩,⟨A4_,c4_,37,5,k4_,xs4_⟩,⟨aW,ba,37,5,k7_ + 1,xs7_ ++ [.int .i64 0,.slice aD ((((D.f 7).f k7_).o).length) aE,.bool false,.slice none 0 0,.slice none 0 0]⟩]
   have ln:IntKind.i64.wrap (((k7_:Nat):Int) + 1) = ((k7_ + 1:Nat):Int):=qa1 (by omega)
   rw [ln] at iK
   exact ⟨(D.f 7).l - (k7_ + 1),by omega,k7_ + 1,aW,ba,xs7_ ++ [Value.int .i64 0,.slice aD ((((D.f 7).f k7_).o).length) aE,.bool false,.slice none 0 0,.slice none 0 0],(css7_ ++ [[Value.int .i64 0,.slice aD ((((D.f 7).f k7_).o).length) aE,.bool false,.slice none 0 0,.slice none 0 0]]),rfl,by omega,by rw [qb9 (by omega)]; exact (hT7_.move (((((((((((((((bE.trans aC).trans aV).trans aY).trans bL).trans bk).trans bn).trans bo).trans bp).trans aZ).trans bq).trans da).trans db).trans dc).trans de).trans dg).step immM (((((((((((((((bE.trans aC).trans aV).trans aY).trans bL).trans bk).trans bn).trans bo).trans bp).trans aZ).trans bq).trans da).trans db).trans dc).trans de).trans dg).to').snoc (x:=(fun i=>Tree.mk 0 ((D.f 7).f i).o false [] []) k7_) (TreeR.mk (n:=0) (b:=false) (s:=(((D.f 7).f k7_).o)) (l:=[]) (u:=[]) (fun _=>[]) (kW.move ((((((aZ.trans bq).trans da).trans db).trans dc).trans de).trans dg).step immM ((((((aZ.trans bq).trans da).trans db).trans dc).trans de).trans dg).to') (Slots.nil _ _ _ _) (fun i_ x_ h_=>by simp at h_) (TagsR.nil _ _)),iK.pk,lm,((((((((((((((((aU.trans bE).trans aC).trans aV).trans aY).trans bL).trans bk).trans bn).trans bo).trans bp).trans aZ).trans bq).trans da).trans db).trans dc).trans de).trans dg)⟩
  refine (qby fk iB (e:=37) (size:=5) (len:=1) (cs:=[.int .i64 0,.slice none 0 0,.bool false,.slice none 0 0,.slice none 0 0]) (d:=198) kz kz fun bH uG uH sP sQ bt fm lp=>?_)
  have lq:=TT.ofW bt fm
  refine ⟨fun _=>lq,?_⟩
  have dh:=fm.addNil 5 1
  have bM:=fm.frNil 5 1
  refine qap (i:=12) kz (qaJ dh lp (k:=5) (d:=195) (t:=22) (e:=5) (size:=1) (bytes:=1) (A:=none) (As:=(some ⟨bF,bG + k7_ * 16,none⟩)) (m0:=0) (c:=0) (m:=16) (cs:=16) (xs:=[]) (news:=bc (((D.f 7).f k7_).o)) kz kz rfl (ew.move dh.step nilM dh.imm).src (ew.move dh.step nilM dh.imm).cap (by omega) fun aF aG uI uJ bN lr ls=>?_)
  have lu:(⟨aF,aG,5,1,0 + 16,[] ++ bc (((D.f 7).f k7_).o)⟩:Rw) = brow aF aG 5 (((D.f 7).f k7_).o):=by rw [List.nil_append]; unfold brow; rw [(g8e k7_ (by omega))]
  obtain ⟨iL,bO⟩:=lr.rowEq 5 [brow ab ac 5 ((D.f 2).o),⟨A3_,c3_,37,5,k3_,xs3_⟩,⟨A4_,c4_,37,5,k4_,xs4_⟩,⟨A7_,c7_,37,5,k7_,xs7_⟩,⟨some ⟨bH,0,none⟩,1,37,5,1,[.int .i64 0,.slice none 0 0,.bool false,.slice none 0 0,.slice none 0 0]⟩,brow aF aG 5 (((D.f 7).f k7_).o)] lu
  have lv:=EnvOk.pick ls (ks:=[0,2,3,177,178,184,187,194,197,198,195]) (env':=[(0,.p 0 0),(2,.p 1 0),(3,.p 3 0),(177,.v (.int .i64 (((D.f 7).l:Nat):Int))),(178,.v (.int .i64 ((k7_:Nat):Int))),(184,.v (.slice (some ⟨aa,0,none⟩) 9 9)),(187,.v (.slice A7_ k7_ c7_)),(194,.v (.slice (some ⟨bF,bG + k7_ * 16,none⟩) 16 16)),(197,.v (.int .i64 ((k7_:Nat):Int))),(198,.v (.slice (some ⟨bH,0,none⟩) 1 1)),(195,.v (.slice aF (0 + 16) aG))]) kz
  have lw:=lv.cast (env':=[(0,.p 0 0),(2,.p 1 0),(3,.p 3 0),(177,.v (.int .i64 (((D.f 7).l:Nat):Int))),(178,.v (.int .i64 ((k7_:Nat):Int))),(184,.v (.slice (some ⟨aa,0,none⟩) 9 9)),(187,.v (.slice A7_ k7_ c7_)),(194,.v (.slice (some ⟨bF,bG + k7_ * 16,none⟩) 16 16)),(197,.v (.int .i64 ((k7_:Nat):Int))),(198,.v (.slice (some ⟨bH,0,none⟩) 1 1)),(195,.v (.slice aF ((((D.f 7).f k7_).o).length) aG))]) (by rw [(g8e k7_ (by omega))])
  have lx:=iL.giveUp (G:=F) 5 [brow ab ac 5 ((D.f 2).o),⟨A3_,c3_,37,5,k3_,xs3_⟩,⟨A4_,c4_,37,5,k4_,xs4_⟩,⟨A7_,c7_,37,5,k7_,xs7_⟩,⟨some ⟨bH,0,none⟩,1,37,5,1,[.int .i64 0,.slice none 0 0,.bool false,.slice none 0 0,.slice none 0 0]⟩] (show _ = some (brow aF aG 5 (((D.f 7).f k7_).o)) from rfl) (by rw [(g8e k7_ (by omega))]; decide)
  obtain ⟨ez,bP⟩:=iL.cutR 5 [brow ab ac 5 ((D.f 2).o),⟨A3_,c3_,37,5,k3_,xs3_⟩,⟨A4_,c4_,37,5,k4_,xs4_⟩,⟨A7_,c7_,37,5,k7_,xs7_⟩,⟨some ⟨bH,0,none⟩,1,37,5,1,[.int .i64 0,.slice none 0 0,.bool false,.slice none 0 0,.slice none 0 0]⟩]
  have iM:=TT.ofW ((((bt.trans bM).trans bN).trans bO).trans bP) ez
  refine ⟨fun _=>iM,?_⟩
  refine qaz [13] [(0,.p 0 0),(2,.p 1 0),(3,.p 3 0),(177,.v (.int .i64 (((D.f 7).l:Nat):Int))),(178,.v (.int .i64 ((k7_:Nat):Int))),(184,.v (.slice (some ⟨aa,0,none⟩) 9 9)),(187,.v (.slice A7_ k7_ c7_)),(196,.v (.agg #[.int .i64 0,.slice aF ((((D.f 7).f k7_).o).length) aG,.bool false,.slice none 0 0,.slice none 0 0])),(197,.v (.int .i64 ((k7_:Nat):Int))),(198,.v (.slice (some ⟨bH,0,none⟩) 1 1))] 4 (qab (qae (qab (qab (qae (qab qaf)))))) (fun _ h=>h.cells) iM lw fun uK ly=>?_
  refine qap (i:=16) kz (qaJ ez ly (k:=3) (d:=199) (t:=34) (e:=37) (size:=5) (bytes:=88) (A:=A7_) (As:=(some ⟨bH,0,none⟩)) (m0:=k7_) (c:=c7_) (m:=1) (cs:=1) (xs:=xs7_) (news:=[.int .i64 0,.slice none 0 0,.bool false,.slice none 0 0,.slice none 0 0]) kz kz rfl (qbr (ez.own 4 _ rfl) (qbp kz)) (qbz (ez.own 4 _ rfl)) (by omega) fun aX bd uL uM bu fo lz=>?_)
  have lA:=TT.ofW (((((bt.trans bM).trans bN).trans bO).trans bP).trans bu) fo
  refine ⟨fun _=>lA,?_⟩
  refine qap (i:=17) kz (qas lz (t:=34) (A:=(some ⟨aa,0,none⟩)) (m:=9) (q:=7) (d:=200) kz (e:=37) (size:=5) (bytes:=88) (j:=7) kz (b:=aa) (o:=0) rfl rfl (by decide) fun uN lB=>?_)
  have lC:=lB.recast 200 (.v (.pointer (some ⟨aa,0 + 7 * 5,none⟩))) (.p 2 35) rfl rfl (Nat.le_of_ble_eq_true (n:=3) rfl)
  have lD:=lC.pk (env':=[(0,.p 0 0),(2,.p 1 0),(3,.p 3 0),(177,.v (.int .i64 (((D.f 7).l:Nat):Int))),(178,.v (.int .i64 ((k7_:Nat):Int))),(184,.v (.slice (some ⟨aa,0,none⟩) 9 9)),(187,.v (.slice A7_ k7_ c7_)),(196,.v (.agg #[.int .i64 0,.slice aF ((((D.f 7).f k7_).o).length) aG,.bool false,.slice none 0 0,.slice none 0 0])),(197,.v (.int .i64 ((k7_:Nat):Int))),(198,.v (.slice (some ⟨bH,0,none⟩) 1 1)),(199,.v (.slice aX (k7_ + 1) bd)),(200,.p 2 35)])
  have iN:=TT.ofW (((((bt.trans bM).trans bN).trans bO).trans bP).trans bu) fo
  refine ⟨fun _=>iN,?_⟩
  refine qaz [18] [(0,.p 0 0),(2,.p 1 0),(3,.p 3 0),(177,.v (.int .i64 (((D.f 7).l:Nat):Int))),(178,.v (.int .i64 ((k7_:Nat):Int))),(196,.v (.agg #[.int .i64 0,.slice aF ((((D.f 7).f k7_).o).length) aG,.bool false,.slice none 0 0,.slice none 0 0])),(197,.v (.int .i64 ((k7_:Nat):Int))),(199,.v (.slice aX (k7_ + 1) bd)),(201,.p 2 38)] 1 (qab (qae (qab (qab (qae (qab qaf)))))) (fun _ h=>h.cells) iN lD fun uO lE=>?_
  refine qap (i:=19) kz (qam fo lE (oi:=2) (cs:=(.int .i64 (IntKind.i64.wrap ((D.f 0).n)) :: .slice none 0 0 :: .bool false :: .slice none 0 0 :: .slice none 0 0 :: .int .i64 0 :: .slice (some ⟨aS,0,none⟩) ((sb ((D.f 1).s)).length) aT :: .bool false :: .slice none 0 0 :: .slice none 0 0 :: .int .i64 0 :: .slice ab (((D.f 2).o).length) ac :: .bool false :: .slice none 0 0 :: .slice none 0 0 :: .int .i64 0 :: .slice none 0 0 :: .bool (((D.f 3).A).isNone) :: .slice A3_ k3_ c3_ :: .slice none 0 0 :: .int .i64 0 :: .slice none 0 0 :: .bool (((D.f 4).A).isNone) :: .slice A4_ k4_ c4_ :: .slice none 0 0 :: .int .i64 ai :: .slice ao aj.length ap :: .bool ak :: .slice ar al.length au :: .slice av am.length aw :: .int .i64 aH :: .slice aM aI.length aN :: .bool aJ :: .slice aO aK.length aP :: .slice aQ aL.length aR :: .int .i64 0 :: .slice none 0 0 :: .bool (((D.f 7).A).isNone) :: .slice aX (k7_ + 1) bd :: .slice none 0 0 :: .int .i64 0 :: .slice none 0 0 :: .bool false :: .slice none 0 0 :: .slice none 0 0 :: [])) kz fun rq di iO lF=>?_)
  refine ⟨fun h=>absurd rfl h,?_⟩
  refine qay kz ?_ _
  refine qac ?_
  refine qaq [0,1] kz ?_
  have lG:World.ownsRow rq 0 37 5 (.slice aX (k7_ + 1) bd) (k7_ + 1) (xs7_ ++ [.int .i64 0,.slice none 0 0,.bool false,.slice none 0 0,.slice none 0 0]):=iO.own 3 _ rfl
  obtain ⟨kg,iP⟩:=qbY lG (by omega)
  refine qak (qas lF (t:=34) (A:=aX) (m:=(k7_ + 1)) (q:=((k7_:Nat):Int)) (d:=202) kz (e:=37) (size:=5) (bytes:=88) kz (b:=kg) (o:=0) (j:=k7_) iP (rfl) (by omega) fun uP lH=>?_)
  refine qak (qbK iO lH (k:=3) (g:=kg) (o:=k7_ * 5) (c:=bd) (m:=(k7_ + 1)) (size:=5) (e:=37) (A:=aX) (xs:=(xs7_ ++ [.int .i64 0,.slice none 0 0,.bool false,.slice none 0 0,.slice none 0 0])) (vs:=[.int .i64 0,.slice aF ((((D.f 7).f k7_).o).length) aG,.bool false,.slice none 0 0,.slice none 0 0]) kz rfl iP (by simp only [List.length_cons,List.length_nil]; omega) fun uQ dj lI lJ=>?_)
  have lK:(⟨aX,bd,37,5,k7_ + 1,qbj (xs7_ ++ [.int .i64 0,.slice none 0 0,.bool false,.slice none 0 0,.slice none 0 0]) (k7_ * 5) [.int .i64 0,.slice aF ((((D.f 7).f k7_).o).length) aG,.bool false,.slice none 0 0,.slice none 0 0]⟩:Rw) = ⟨aX,bd,37,5,k7_ + 1,xs7_ ++ [.int .i64 0,.slice aF ((((D.f 7).f k7_).o).length) aG,.bool false,.slice none 0 0,.slice none 0 0]⟩:=by rw [qcr (by rw [hT7_.xslen,List.length_take,qbZ]; omega)]
  obtain ⟨iQ,dl⟩:=lI.rowEq 3 [brow ab ac 5 ((D.f 2).o),⟨A3_,c3_,37,5,k3_,xs3_⟩,⟨A4_,c4_,37,5,k4_,xs4_⟩,⟨aX,bd,37,5,k7_ + 1,xs7_ ++ [.int .i64 0,.slice aF ((((D.f 7).f k7_).o).length) aG,.bool false,.slice none 0 0,.slice none 0 0]⟩,⟨some ⟨bH,0,none⟩,1,37,5,1,[.int .i64 0,.slice none 0 0,.bool false,.slice none 0 0,.slice none 0 0]⟩] lK
  refine qah ?_
  refine qax ?_
  refine qac ?_
  refine qaq [0,1] kz ?_
  refine qal [0,1] [] [(0,.p 0 0),(2,.p 1 0),(3,.p 3 0),(177,.v (.int .i64 (((D.f 7).l:Nat):Int))),(178,.v (.int .i64 (IntKind.i64.wrap (((k7_:Nat):Int) + 1))))] iQ lJ fun uR lL=>?_
  refine qah (qac ?_)
  obtain ⟨iR,lM,dp⟩:=iQ.cutB lL 4 [⟨b,o,[.int .i16 v,.int .i32 ((D.f 0).n),.string ((D.f 1).s),qaa ((D.f 2).o.getD 0 0),qaa ((D.f 2).o.getD 1 0),qaa ((D.f 2).o.getD 2 0),qaa ((D.f 2).o.getD 3 0),qaa ((D.f 2).o.getD 4 0),qaa ((D.f 2).o.getD 5 0),qaa ((D.f 2).o.getD 6 0),qaa ((D.f 2).o.getD 7 0),qaa ((D.f 2).o.getD 8 0),qaa ((D.f 2).o.getD 9 0),qaa ((D.f 2).o.getD 10 0),qaa ((D.f 2).o.getD 11 0),qaa ((D.f 2).o.getD 12 0),qaa ((D.f 2).o.getD 13 0),qaa ((D.f 2).o.getD 14 0),qaa ((D.f 2).o.getD 15 0),.slice ((D.f 3).A) ((D.f 3).l) ((D.f 3).c),.slice ((D.f 4).A) ((D.f 4).l) ((D.f 4).c),.pointer ((D.f 5).A),.bool ((D.f 6).b),.slice ((D.f 7).A) ((D.f 7).l) ((D.f 7).c),.int .i64 ((D.f 8).n),.map D.m],false⟩,⟨bI,0,[.int .i64 0,.slice none 0 0,.bool false,.slice none 0 0,.slice none 0 0],true⟩,⟨aa,0,(.int .i64 (IntKind.i64.wrap ((D.f 0).n)) :: .slice none 0 0 :: .bool false :: .slice none 0 0 :: .slice none 0 0 :: .int .i64 0 :: .slice (some ⟨aS,0,none⟩) ((sb ((D.f 1).s)).length) aT :: .bool false :: .slice none 0 0 :: .slice none 0 0 :: .int .i64 0 :: .slice ab (((D.f 2).o).length) ac :: .bool false :: .slice none 0 0 :: .slice none 0 0 :: .int .i64 0 :: .slice none 0 0 :: .bool (((D.f 3).A).isNone) :: .slice A3_ k3_ c3_ :: .slice none 0 0 :: .int .i64 0 :: .slice none 0 0 :: .bool (((D.f 4).A).isNone) :: .slice A4_ k4_ c4_ :: .slice none 0 0 :: .int .i64 ai :: .slice ao aj.length ap :: .bool ak :: .slice ar al.length au :: .slice av am.length aw :: .int .i64 aH :: .slice aM aI.length aN :: .bool aJ :: .slice aO aK.length aP :: .slice aQ aL.length aR :: .int .i64 0 :: .slice none 0 0 :: .bool (((D.f 7).A).isNone) :: .slice aX (k7_ + 1) bd :: .slice none 0 0 :: .int .i64 0 :: .slice none 0 0 :: .bool false :: .slice none 0 0 :: .slice none 0 0 :: []),true⟩,⟨bj,0,[.int .i64 0,.slice none 0 0,.bool false,.slice (some ⟨aa,0,none⟩) 9 9,.slice none 0 0],true⟩] [(0,.p 0 0),(2,.p 1 0),(3,.p 3 0),(177,.v (.int .i64 (((D.f 7).l:Nat):Int))),(178,.v (.int .i64 (IntKind.i64.wrap (((k7_:Nat):Int) + 1))))]
  obtain ⟨lN,dq⟩:=lM.cutR 4 [brow ab ac 5 ((D.f 2).o),⟨A3_,c3_,37,5,k3_,xs3_⟩,⟨A4_,c4_,37,5,k4_,xs4_⟩,⟨aX,bd,37,5,k7_ + 1,xs7_ ++ [.int .i64 0,.slice aF ((((D.f 7).f k7_).o).length) aG,.bool false,.slice none 0 0,.slice none 0 0]⟩]
  have lO:IntKind.i64.wrap (((k7_:Nat):Int) + 1) = ((k7_ + 1:Nat):Int):=qa1 (by omega)
  rw [lO] at iR
  exact ⟨(D.f 7).l - (k7_ + 1),by omega,k7_ + 1,aX,bd,xs7_ ++ [Value.int .i64 0,.slice aF ((((D.f 7).f k7_).o).length) aG,.bool false,.slice none 0 0,.slice none 0 0],(css7_ ++ [[Value.int .i64 0,.slice aF ((((D.f 7).f k7_).o).length) aG,.bool false,.slice none 0 0,.slice none 0 0]]),rfl,by omega,by rw [qb9 (by omega)]; exact (hT7_.move (((((((((((((((bE.trans aC).trans aV).trans aY).trans bL).trans bt).trans bM).trans bN).trans bO).trans bP).trans bu).trans di).trans dj).trans dl).trans dp).trans dq).step immM (((((((((((((((bE.trans aC).trans aV).trans aY).trans bL).trans bt).trans bM).trans bN).trans bO).trans bP).trans bu).trans di).trans dj).trans dl).trans dp).trans dq).to').snoc (x:=(fun i=>Tree.mk 0 ((D.f 7).f i).o false [] []) k7_) (TreeR.mk (n:=0) (b:=false) (s:=(((D.f 7).f k7_).o)) (l:=[]) (u:=[]) (fun _=>[]) (lx.move (((((bu.trans di).trans dj).trans dl).trans dp).trans dq).step immM (((((bu.trans di).trans dj).trans dl).trans dp).trans dq).to') (Slots.nil _ _ _ _) (fun i_ x_ h_=>by simp at h_) (TagsR.nil _ _)),iR.pk,lN,((((((((((((((((aU.trans bE).trans aC).trans aV).trans aY).trans bL).trans bt).trans bM).trans bN).trans bO).trans bP).trans bu).trans di).trans dj).trans dl).trans dp).trans dq)⟩
 have sR:=of_decide_eq_false ir
 refine wp_exit ?_
 refine qaw ?_
 refine qaw ?_
 refine qaP ?_
 refine qac ?_
 refine qaK 8 kz fL fun uS ax lP iS=>?_
 refine qaz [0,1,2,3,4,5,6] [(0,.p 0 0),(2,.p 1 0),(3,.p 3 0),(225,.v (.slice (some ⟨aa,0,none⟩) 9 9)),(230,.v (.agg #[.int .i64 ((D.f 8).n),.slice none 0 0,.bool false,.slice none 0 0,.slice none 0 0]))] 2 (qab qaf) (fun _ h=>h.cells) iS iq fun uT lQ=>?_
 refine qaC lQ (i:=7) (t:=34) (A:=(some ⟨aa,0,none⟩)) (m:=9) (q:=8) (d:=231) kz (e:=37) (size:=5) (bytes:=88) (j:=8) kz (b:=aa) (o:=0) rfl rfl (by decide) kz kz (qab qaf) iS fun uU lR=>?_
 have lS:=lR.recast 231 (.v (.pointer (some ⟨aa,0 + 8 * 5,none⟩))) (.p 2 40) rfl rfl (Nat.le_of_ble_eq_true (n:=3) rfl)
 have lT:=lS.pk (env':=[(0,.p 0 0),(2,.p 1 0),(3,.p 3 0),(225,.v (.slice (some ⟨aa,0,none⟩) 9 9)),(230,.v (.agg #[.int .i64 ((D.f 8).n),.slice none 0 0,.bool false,.slice none 0 0,.slice none 0 0])),(231,.p 2 40)])
 refine qap (i:=8) kz (qam lP lT (oi:=2) (cs:=(.int .i64 (IntKind.i64.wrap ((D.f 0).n)) :: .slice none 0 0 :: .bool false :: .slice none 0 0 :: .slice none 0 0 :: .int .i64 0 :: .slice (some ⟨aS,0,none⟩) ((sb ((D.f 1).s)).length) aT :: .bool false :: .slice none 0 0 :: .slice none 0 0 :: .int .i64 0 :: .slice ab (((D.f 2).o).length) ac :: .bool false :: .slice none 0 0 :: .slice none 0 0 :: .int .i64 0 :: .slice none 0 0 :: .bool (((D.f 3).A).isNone) :: .slice A3_ k3_ c3_ :: .slice none 0 0 :: .int .i64 0 :: .slice none 0 0 :: .bool (((D.f 4).A).isNone) :: .slice A4_ k4_ c4_ :: .slice none 0 0 :: .int .i64 ai :: .slice ao aj.length ap :: .bool ak :: .slice ar al.length au :: .slice av am.length aw :: .int .i64 aH :: .slice aM aI.length aN :: .bool aJ :: .slice aO aK.length aP :: .slice aQ aL.length aR :: .int .i64 0 :: .slice none 0 0 :: .bool (((D.f 7).A).isNone) :: .slice A7_ k7_ c7_ :: .slice none 0 0 :: .int .i64 ((D.f 8).n) :: .slice none 0 0 :: .bool false :: .slice none 0 0 :: .slice none 0 0 :: [])) kz fun rt ay bw lU=>?_)
 refine ⟨fun h=>absurd rfl h,?_⟩
 refine qay kz ?_ _
 refine qac ?_
 refine qag [0,1,2,3,4] kz ?_
 refine qal [0,1,2] [3,4] [(2,.p 1 0),(3,.p 3 0),(234,.p 0 25)] bw lU fun uV lV=>?_
 refine qak (qeJ lV (v:=.func (.func 119) #[] #[.pointer (some ⟨bj,0,none⟩)]) (d:=235) kz fun uW lW=>?_)
 refine qak (qan lW (f:=103) (vs:=[.pointer (some ⟨b,o + 25,none⟩),.func (.func 119) #[] #[.pointer (some ⟨bj,0,none⟩)]]) (d:=236) kz Tryz.call103 (qfg (F:=(Imm F w rt [⟨b,o,[.int .i16 v,.int .i32 ((D.f 0).n),.string ((D.f 1).s),qaa ((D.f 2).o.getD 0 0),qaa ((D.f 2).o.getD 1 0),qaa ((D.f 2).o.getD 2 0),qaa ((D.f 2).o.getD 3 0),qaa ((D.f 2).o.getD 4 0),qaa ((D.f 2).o.getD 5 0),qaa ((D.f 2).o.getD 6 0),qaa ((D.f 2).o.getD 7 0),qaa ((D.f 2).o.getD 8 0),qaa ((D.f 2).o.getD 9 0),qaa ((D.f 2).o.getD 10 0),qaa ((D.f 2).o.getD 11 0),qaa ((D.f 2).o.getD 12 0),qaa ((D.f 2).o.getD 13 0),qaa ((D.f 2).o.getD 14 0),qaa ((D.f 2).o.getD 15 0),.slice ((D.f 3).A) ((D.f 3).l) ((D.f 3).c),.slice ((D.f 4).A) ((D.f 4).l) ((D.f 4).c),.pointer ((D.f 5).A),.bool ((D.f 6).b),.slice ((D.f 7).A) ((D.f 7).l) ((D.f 7).c),.int .i64 ((D.f 8).n),.map D.m],false⟩,⟨bI,0,[.int .i64 0,.slice none 0 0,.bool false,.slice none 0 0,.slice none 0 0],true⟩,⟨aa,0,(.int .i64 (IntKind.i64.wrap ((D.f 0).n)) :: .slice none 0 0 :: .bool false :: .slice none 0 0 :: .slice none 0 0 :: .int .i64 0 :: .slice (some ⟨aS,0,none⟩) ((sb ((D.f 1).s)).length) aT :: .bool false :: .slice none 0 0 :: .slice none 0 0 :: .int .i64 0 :: .slice ab (((D.f 2).o).length) ac :: .bool false :: .slice none 0 0 :: .slice none 0 0 :: .int .i64 0 :: .slice none 0 0 :: .bool (((D.f 3).A).isNone) :: .slice A3_ k3_ c3_ :: .slice none 0 0 :: .int .i64 0 :: .slice none 0 0 :: .bool (((D.f 4).A).isNone) :: .slice A4_ k4_ c4_ :: .slice none 0 0 :: .int .i64 ai :: .slice ao aj.length ap :: .bool ak :: .slice ar al.length au :: .slice av am.length aw :: .int .i64 aH :: .slice aM aI.length aN :: .bool aJ :: .slice aO aK.length aP :: .slice aQ aL.length aR :: .int .i64 0 :: .slice none 0 0 :: .bool (((D.f 7).A).isNone) :: .slice A7_ k7_ c7_ :: .slice none 0 0 :: .int .i64 ((D.f 8).n) :: .slice none 0 0 :: .bool false :: .slice none 0 0 :: .slice none 0 0 :: []),true⟩,⟨bj,0,[.int .i64 0,.slice none 0 0,.bool false,.slice (some ⟨aa,0,none⟩) 9 9,.slice none 0 0],true⟩] [brow ab ac 5 ((D.f 2).o),⟨A3_,c3_,37,5,k3_,xs3_⟩,⟨A4_,c4_,37,5,k4_,xs4_⟩,⟨A7_,c7_,37,5,k7_,xs7_⟩])) Tryz.call119 qcH ((hat.one 25 rfl).move bw.step nilM bw.imm) (sS.move bw.step nilM bw.imm) (Str.of bw 3 rfl) (qjE 3 rfl) g10l) ?_)
 rintro e_ uX ⟨rfl,ae,af,jc,lX,lY⟩
 obtain ⟨fq,az,lZ⟩:=bw.wrote 3 [⟨b,o,[.int .i16 v,.int .i32 ((D.f 0).n),.string ((D.f 1).s),qaa ((D.f 2).o.getD 0 0),qaa ((D.f 2).o.getD 1 0),qaa ((D.f 2).o.getD 2 0),qaa ((D.f 2).o.getD 3 0),qaa ((D.f 2).o.getD 4 0),qaa ((D.f 2).o.getD 5 0),qaa ((D.f 2).o.getD 6 0),qaa ((D.f 2).o.getD 7 0),qaa ((D.f 2).o.getD 8 0),qaa ((D.f 2).o.getD 9 0),qaa ((D.f 2).o.getD 10 0),qaa ((D.f 2).o.getD 11 0),qaa ((D.f 2).o.getD 12 0),qaa ((D.f 2).o.getD 13 0),qaa ((D.f 2).o.getD 14 0),qaa ((D.f 2).o.getD 15 0),.slice ((D.f 3).A) ((D.f 3).l) ((D.f 3).c),.slice ((D.f 4).A) ((D.f 4).l) ((D.f 4).c),.pointer ((D.f 5).A),.bool ((D.f 6).b),.slice ((D.f 7).A) ((D.f 7).l) ((D.f 7).c),.int .i64 ((D.f 8).n),.map D.m],false⟩,⟨bI,0,[.int .i64 0,.slice none 0 0,.bool false,.slice none 0 0,.slice none 0 0],true⟩,⟨aa,0,(.int .i64 (IntKind.i64.wrap ((D.f 0).n)) :: .slice none 0 0 :: .bool false :: .slice none 0 0 :: .slice none 0 0 :: .int .i64 0 :: .slice (some ⟨aS,0,none⟩) ((sb ((D.f 1).s)).length) aT :: .bool false :: .slice none 0 0 :: .slice none 0 0 :: .int .i64 0 :: .slice ab (((D.f 2).o).length) ac :: .bool false :: .slice none 0 0 :: .slice none 0 0 :: .int .i64 0 :: .slice none 0 0 :: .bool (((D.f 3).A).isNone) :: .slice A3_ k3_ c3_ :: .slice none 0 0 :: .int .i64 0 :: .slice none 0 0 :: .bool (((D.f 4).A).isNone) :: .slice A4_ k4_ c4_ :: .slice none 0 0 :: .int .i64 ai :: .slice ao aj.length ap :: .bool ak :: .slice ar al.length au :: .slice av am.length aw :: .int .i64 aH :: .slice aM aI.length aN :: .bool aJ :: .slice aO aK.length aP :: .slice aQ aL.length aR :: .int .i64 0 :: .slice none 0 0 :: .bool (((D.f 7).A).isNone) :: .slice A7_ k7_ c7_ :: .slice none 0 0 :: .int .i64 ((D.f 8).n) :: .slice none 0 0 :: .bool false :: .slice none 0 0 :: .slice none 0 0 :: []),true⟩,⟨bj,0,[.int .i64 0,.slice none 0 0,.bool false,.slice (some ⟨aa,0,none⟩) 9 9,.slice ae D.u.length af],true⟩] rfl lY jc
 have iT:=lX.move (Step.refl _ Nil) nilM (fun b_ o_ h_ hb_=>lZ (G:=F) b_ o_ (.inr h_) hb_)
 refine ⟨_,rfl,fun uY l0=>?_⟩
 have l3:=(EnvOk.places (tb':=[⟨b,o,[.int .i16 v,.int .i32 ((D.f 0).n),.string ((D.f 1).s),qaa ((D.f 2).o.getD 0 0),qaa ((D.f 2).o.getD 1 0),qaa ((D.f 2).o.getD 2 0),qaa ((D.f 2).o.getD 3 0),qaa ((D.f 2).o.getD 4 0),qaa ((D.f 2).o.getD 5 0),qaa ((D.f 2).o.getD 6 0),qaa ((D.f 2).o.getD 7 0),qaa ((D.f 2).o.getD 8 0),qaa ((D.f 2).o.getD 9 0),qaa ((D.f 2).o.getD 10 0),qaa ((D.f 2).o.getD 11 0),qaa ((D.f 2).o.getD 12 0),qaa ((D.f 2).o.getD 13 0),qaa ((D.f 2).o.getD 14 0),qaa ((D.f 2).o.getD 15 0),.slice ((D.f 3).A) ((D.f 3).l) ((D.f 3).c),.slice ((D.f 4).A) ((D.f 4).l) ((D.f 4).c),.pointer ((D.f 5).A),.bool ((D.f 6).b),.slice ((D.f 7).A) ((D.f 7).l) ((D.f 7).c),.int .i64 ((D.f 8).n),.map D.m],false⟩,⟨bI,0,[.int .i64 0,.slice none 0 0,.bool false,.slice none 0 0,.slice none 0 0],true⟩,⟨aa,0,(.int .i64 (IntKind.i64.wrap ((D.f 0).n)) :: .slice none 0 0 :: .bool false :: .slice none 0 0 :: .slice none 0 0 :: .int .i64 0 :: .slice (some ⟨aS,0,none⟩) ((sb ((D.f 1).s)).length) aT :: .bool false :: .slice none 0 0 :: .slice none 0 0 :: .int .i64 0 :: .slice ab (((D.f 2).o).length) ac :: .bool false :: .slice none 0 0 :: .slice none 0 0 :: .int .i64 0 :: .slice none 0 0 :: .bool (((D.f 3).A).isNone) :: .slice A3_ k3_ c3_ :: .slice none 0 0 :: .int .i64 0 :: .slice none 0 0 :: .bool (((D.f 4).A).isNone) :: .slice A4_ k4_ c4_ :: .slice none 0 0 :: .int .i64 ai :: .slice ao aj.length ap :: .bool ak :: .slice ar al.length au :: .slice av am.length aw :: .int .i64 aH :: .slice aM aI.length aN :: .bool aJ :: .slice aO aK.length aP :: .slice aQ aL.length aR :: .int .i64 0 :: .slice none 0 0 :: .bool (((D.f 7).A).isNone) :: .slice A7_ k7_ c7_ :: .slice none 0 0 :: .int .i64 ((D.f 8).n) :: .slice none 0 0 :: .bool false :: .slice none 0 0 :: .slice none 0 0 :: []),true⟩,⟨bj,0,[.int .i64 0,.slice none 0 0,.bool false,.slice (some ⟨aa,0,none⟩) 9 9,.slice ae D.u.length af],true⟩]) l0 (show Pl [⟨b,o,[.int .i16 v,.int .i32 ((D.f 0).n),.string ((D.f 1).s),qaa ((D.f 2).o.getD 0 0),qaa ((D.f 2).o.getD 1 0),qaa ((D.f 2).o.getD 2 0),qaa ((D.f 2).o.getD 3 0),qaa ((D.f 2).o.getD 4 0),qaa ((D.f 2).o.getD 5 0),qaa ((D.f 2).o.getD 6 0),qaa ((D.f 2).o.getD 7 0),qaa ((D.f 2).o.getD 8 0),qaa ((D.f 2).o.getD 9 0),qaa ((D.f 2).o.getD 10 0),qaa ((D.f 2).o.getD 11 0),qaa ((D.f 2).o.getD 12 0),qaa ((D.f 2).o.getD 13 0),qaa ((D.f 2).o.getD 14 0),qaa ((D.f 2).o.getD 15 0),.slice ((D.f 3).A) ((D.f 3).l) ((D.f 3).c),.slice ((D.f 4).A) ((D.f 4).l) ((D.f 4).c),.pointer ((D.f 5).A),.bool ((D.f 6).b),.slice ((D.f 7).A) ((D.f 7).l) ((D.f 7).c),.int .i64 ((D.f 8).n),.map D.m],false⟩,⟨bI,0,[.int .i64 0,.slice none 0 0,.bool false,.slice none 0 0,.slice none 0 0],true⟩,⟨aa,0,(.int .i64 (IntKind.i64.wrap ((D.f 0).n)) :: .slice none 0 0 :: .bool false :: .slice none 0 0 :: .slice none 0 0 :: .int .i64 0 :: .slice (some ⟨aS,0,none⟩) ((sb ((D.f 1).s)).length) aT :: .bool false :: .slice none 0 0 :: .slice none 0 0 :: .int .i64 0 :: .slice ab (((D.f 2).o).length) ac :: .bool false :: .slice none 0 0 :: .slice none 0 0 :: .int .i64 0 :: .slice none 0 0 :: .bool (((D.f 3).A).isNone) :: .slice A3_ k3_ c3_ :: .slice none 0 0 :: .int .i64 0 :: .slice none 0 0 :: .bool (((D.f 4).A).isNone) :: .slice A4_ k4_ c4_ :: .slice none 0 0 :: .int .i64 ai :: .slice ao aj.length ap :: .bool ak :: .slice ar al.length au :: .slice av am.length aw :: .int .i64 aH :: .slice aM aI.length aN :: .bool aJ :: .slice aO aK.length aP :: .slice aQ aL.length aR :: .int .i64 0 :: .slice none 0 0 :: .bool (((D.f 7).A).isNone) :: .slice A7_ k7_ c7_ :: .slice none 0 0 :: .int .i64 ((D.f 8).n) :: .slice none 0 0 :: .bool false :: .slice none 0 0 :: .slice none 0 0 :: []),true⟩,⟨bj,0,[.int .i64 0,.slice none 0 0,.bool false,.slice (some ⟨aa,0,none⟩) 9 9,.slice none 0 0],true⟩] [⟨b,o,[.int .i16 v,.int .i32 ((D.f 0).n),.string ((D.f 1).s),qaa ((D.f 2).o.getD 0 0),qaa ((D.f 2).o.getD 1 0),qaa ((D.f 2).o.getD 2 0),qaa ((D.f 2).o.getD 3 0),qaa ((D.f 2).o.getD 4 0),qaa ((D.f 2).o.getD 5 0),qaa ((D.f 2).o.getD 6 0),qaa ((D.f 2).o.getD 7 0),qaa ((D.f 2).o.getD 8 0),qaa ((D.f 2).o.getD 9 0),qaa ((D.f 2).o.getD 10 0),qaa ((D.f 2).o.getD 11 0),qaa ((D.f 2).o.getD 12 0),qaa ((D.f 2).o.getD 13 0),qaa ((D.f 2).o.getD 14 0),qaa ((D.f 2).o.getD 15 0),.slice ((D.f 3).A) ((D.f 3).l) ((D.f 3).c),.slice ((D.f 4).A) ((D.f 4).l) ((D.f 4).c),.pointer ((D.f 5).A),.bool ((D.f 6).b),.slice ((D.f 7).A) ((D.f 7).l) ((D.f 7).c),.int .i64 ((D.f 8).n),.map D.m],false⟩,⟨bI,0,[.int .i64 0,.slice none 0 0,.bool false,.slice none 0 0,.slice none 0 0],true⟩,⟨aa,0,(.int .i64 (IntKind.i64.wrap ((D.f 0).n)) :: .slice none 0 0 :: .bool false :: .slice none 0 0 :: .slice none 0 0 :: .int .i64 0 :: .slice (some ⟨aS,0,none⟩) ((sb ((D.f 1).s)).length) aT :: .bool false :: .slice none 0 0 :: .slice none 0 0 :: .int .i64 0 :: .slice ab (((D.f 2).o).length) ac :: .bool false :: .slice none 0 0 :: .slice none 0 0 :: .int .i64 0 :: .slice none 0 0 :: .bool (((D.f 3).A).isNone) :: .slice A3_ k3_ c3_ :: .slice none 0 0 :: .int .i64 0 :: .slice none 0 0 :: .bool (((D.f 4).A).isNone) :: .slice A4_ k4_ c4_ :: .slice none 0 0 :: .int .i64 ai :: .slice ao aj.length ap :: .bool ak :: .slice ar al.length au :: .slice av am.length aw :: .int .i64 aH :: .slice aM aI.length aN :: .bool aJ :: .slice aO aK.length aP :: .slice aQ aL.length aR :: .int .i64 0 :: .slice none 0 0 :: .bool (((D.f 7).A).isNone) :: .slice A7_ k7_ c7_ :: .slice none 0 0 :: .int .i64 ((D.f 8).n) :: .slice none 0 0 :: .bool false :: .slice none 0 0 :: .slice none 0 0 :: []),true⟩,⟨bj,0,[.int .i64 0,.slice none 0 0,.bool false,.slice (some ⟨aa,0,none⟩) 9 9,.slice ae D.u.length af],true⟩] from ⟨rfl,rfl,⟨rfl,rfl,⟨rfl,rfl,⟨rfl,rfl,trivial⟩⟩⟩⟩)).pk (env':=[(236,.v (.tuple #[])),(2,.p 1 0),(3,.p 3 0),(234,.p 0 25),(235,.v (.func (.func 119) #[] #[.pointer (some ⟨bj,0,none⟩)]))])
 refine qah (qac ?_)
 refine qag [0,1,2] kz ?_
 refine qal [0,1] [2] [(2,.p 1 0),(3,.p 3 0),(238,.v (.slice ae D.u.length af))] fq l3 fun uZ l5=>?_
 refine qak (qan l5 (f:=105) (vs:=[.slice ae D.u.length af]) (d:=239) kz Tryz.call105 (qg6 iT sS.sorted) ?_)
 rintro e_ u0 ⟨rfl,iU⟩
 refine ⟨_,rfl,fun u1 l6=>?_⟩
 have iV:=fq.next_nil iU
 have ag:=fq.frN iU
 refine qah (qac ?_)
 refine qag [0,1] kz ?_
 refine qal [0] [1] [(2,.p 1 0),(240,.v (.agg #[.int .i64 0,.slice none 0 0,.bool false,.slice (some ⟨aa,0,none⟩) 9 9,.slice ae D.u.length af]))] iV l6 fun u2 l7=>?_
 refine qak (qam iV l7 (oi:=1) (cs:=[.int .i64 0,.slice none 0 0,.bool false,.slice (some ⟨aa,0,none⟩) 9 9,.slice ae D.u.length af]) kz fun dA ah bx l9=>?_)
 refine qah (qac ?_)
 refine wp_ret ?_
 refine qaV l9 bx.cells (v:=.agg #[.int .i64 0,.slice none 0 0,.bool false,.slice (some ⟨aa,0,none⟩) 9 9,.slice ae D.u.length af]) kz ?_
 have iW:=(hT3_.move ((((((((((((((((((fA.trans fB).trans fC).trans cH).trans dy).trans cR).trans b8).trans cd).trans bD).trans bf).trans bg).trans bh).trans bi).trans aU).trans ax).trans ay).trans az).trans ag).trans ah).step immM ((((((((((((((((((fA.trans fB).trans fC).trans cH).trans dy).trans cR).trans b8).trans cd).trans bD).trans bf).trans bg).trans bh).trans bi).trans aU).trans ax).trans ay).trans az).trans ag).trans ah).to')
 rw [qf0 (by omega)] at iW
 have iX:=(hT4_.move ((((((((((((((dy.trans cR).trans b8).trans cd).trans bD).trans bf).trans bg).trans bh).trans bi).trans aU).trans ax).trans ay).trans az).trans ag).trans ah).step immM ((((((((((((((dy.trans cR).trans b8).trans cd).trans bD).trans bf).trans bg).trans bh).trans bi).trans aU).trans ax).trans ay).trans az).trans ag).trans ah).to')
 rw [qf0 (by omega)] at iX
 have iY:=(hT7_.move ((((ax.trans ay).trans az).trans ag).trans ah).step immM ((((ax.trans ay).trans az).trans ag).trans ah).to')
 rw [qf0 (by omega)] at iY
 exact qf1 (u:=D.u) (l:=[.mk (IntKind.i64.wrap (D.f 0).n) [] false [] [],.mk 0 (sb (D.f 1).s) false [] [],.mk 0 (D.f 2).o false [] [],.mk 0 [] (D.f 3).A.isNone ((List.range (D.f 3).l).map fun i=>qaU ((D.f 3).f i)) [],.mk 0 [] (D.f 4).A.isNone ((List.range (D.f 4).l).map fun i=>qaX ((D.f 4).f i)) [],qky (D.f 5).A (D.f 5).s,qkz (D.f 6).b,.mk 0 [] (D.f 7).A.isNone ((List.range (D.f 7).l).map fun i=>.mk 0 ((D.f 7).f i).o false [] []) [],.mk ((D.f 8).n) [] false [] []]) (css:=[[.int .i64 (IntKind.i64.wrap ((D.f 0).n)),.slice none 0 0,.bool false,.slice none 0 0,.slice none 0 0],[.int .i64 0,.slice (some ⟨aS,0,none⟩) ((sb ((D.f 1).s)).length) aT,.bool false,.slice none 0 0,.slice none 0 0],[.int .i64 0,.slice ab (((D.f 2).o).length) ac,.bool false,.slice none 0 0,.slice none 0 0],[.int .i64 0,.slice none 0 0,.bool (((D.f 3).A).isNone),.slice A3_ k3_ c3_,.slice none 0 0],[.int .i64 0,.slice none 0 0,.bool (((D.f 4).A).isNone),.slice A4_ k4_ c4_,.slice none 0 0],[.int .i64 ai,.slice ao aj.length ap,.bool ak,.slice ar al.length au,.slice av am.length aw],[.int .i64 aH,.slice aM aI.length aN,.bool aJ,.slice aO aK.length aP,.slice aQ aL.length aR],[.int .i64 0,.slice none 0 0,.bool (((D.f 7).A).isNone),.slice A7_ k7_ c7_,.slice none 0 0],[.int .i64 ((D.f 8).n),.slice none 0 0,.bool false,.slice none 0 0,.slice none 0 0]]) bx 2 rfl ⟨(show TreeR _ (Imm F w dA [⟨b,o,[.int .i16 v,.int .i32 ((D.f 0).n),.string ((D.f 1).s),qaa ((D.f 2).o.getD 0 0),qaa ((D.f 2).o.getD 1 0),qaa ((D.f 2).o.getD 2 0),qaa ((D.f 2).o.getD 3 0),qaa ((D.f 2).o.getD 4 0),qaa ((D.f 2).o.getD 5 0),qaa ((D.f 2).o.getD 6 0),qaa ((D.f 2).o.getD 7 0),qaa ((D.f 2).o.getD 8 0),qaa ((D.f 2).o.getD 9 0),qaa ((D.f 2).o.getD 10 0),qaa ((D.f 2).o.getD 11 0),qaa ((D.f 2).o.getD 12 0),qaa ((D.f 2).o.getD 13 0),qaa ((D.f 2).o.getD 14 0),qaa ((D.f 2).o.getD 15 0),.slice ((D.f 3).A) ((D.f 3).l) ((D.f 3).c),.slice ((D.f 4).A) ((D.f 4).l) ((D.f 4).c),.pointer ((D.f 5).A),.bool ((D.f 6).b),.slice ((D.f 7).A) ((D.f 7).l) ((D.f 7).c),.int .i64 ((D.f 8).n),.map D.m],false⟩,⟨bI,0,[.int .i64 0,.slice none 0 0,.bool false,.slice (some ⟨aa,0,none⟩) 9 9,.slice ae D.u.length af],true⟩,⟨aa,0,(.int .i64 (IntKind.i64.wrap ((D.f 0).n)) :: .slice none 0 0 :: .bool false :: .slice none 0 0 :: .slice none 0 0 :: .int .i64 0 :: .slice (some ⟨aS,0,none⟩) ((sb ((D.f 1).s)).length) aT :: .bool false :: .slice none 0 0 :: .slice none 0 0 :: .int .i64 0 :: .slice ab (((D.f 2).o).length) ac :: .bool false :: .slice none 0 0 :: .slice none 0 0 :: .int .i64 0 :: .slice none 0 0 :: .bool (((D.f 3).A).isNone) :: .slice A3_ k3_ c3_ :: .slice none 0 0 :: .int .i64 0 :: .slice none 0 0 :: .bool (((D.f 4).A).isNone) :: .slice A4_ k4_ c4_ :: .slice none 0 0 :: .int .i64 ai :: .slice ao aj.length ap :: .bool ak :: .slice ar al.length au :: .slice av am.length aw :: .int .i64 aH :: .slice aM aI.length aN :: .bool aJ :: .slice aO aK.length aP :: .slice aQ aL.length aR :: .int .i64 0 :: .slice none 0 0 :: .bool (((D.f 7).A).isNone) :: .slice A7_ k7_ c7_ :: .slice none 0 0 :: .int .i64 ((D.f 8).n) :: .slice none 0 0 :: .bool false :: .slice none 0 0 :: .slice none 0 0 :: []),true⟩,⟨bj,0,[.int .i64 0,.slice none 0 0,.bool false,.slice (some ⟨aa,0,none⟩) 9 9,.slice ae D.u.length af],true⟩] [brow ab ac 5 ((D.f 2).o),⟨A3_,c3_,37,5,k3_,xs3_⟩,⟨A4_,c4_,37,5,k4_,xs4_⟩,⟨A7_,c7_,37,5,k7_,xs7_⟩]) _ _ from (TreeR.mk (n:=IntKind.i64.wrap ((D.f 0).n)) (b:=false) (s:=[]) (l:=[]) (u:=[]) (fun _=>[]) (Octs.nil _ _) (Slots.nil _ _ _ _) (fun i_ x_ h_=>by simp at h_) (TagsR.nil _ _))).move (Step.refl _ Nil) nilM qbw,(show TreeR _ (Imm F w dA [⟨b,o,[.int .i16 v,.int .i32 ((D.f 0).n),.string ((D.f 1).s),qaa ((D.f 2).o.getD 0 0),qaa ((D.f 2).o.getD 1 0),qaa ((D.f 2).o.getD 2 0),qaa ((D.f 2).o.getD 3 0),qaa ((D.f 2).o.getD 4 0),qaa ((D.f 2).o.getD 5 0),qaa ((D.f 2).o.getD 6 0),qaa ((D.f 2).o.getD 7 0),qaa ((D.f 2).o.getD 8 0),qaa ((D.f 2).o.getD 9 0),qaa ((D.f 2).o.getD 10 0),qaa ((D.f 2).o.getD 11 0),qaa ((D.f 2).o.getD 12 0),qaa ((D.f 2).o.getD 13 0),qaa ((D.f 2).o.getD 14 0),qaa ((D.f 2).o.getD 15 0),.slice ((D.f 3).A) ((D.f 3).l) ((D.f 3).c),.slice ((D.f 4).A) ((D.f 4).l) ((D.f 4).c),.pointer ((D.f 5).A),.bool ((D.f 6).b),.slice ((D.f 7).A) ((D.f 7).l) ((D.f 7).c),.int .i64 ((D.f 8).n),.map D.m],false⟩,⟨bI,0,[.int .i64 0,.slice none 0 0,.bool false,.slice (some ⟨aa,0,none⟩) 9 9,.slice ae D.u.length af],true⟩,⟨aa,0,(.int .i64 (IntKind.i64.wrap ((D.f 0).n)) :: .slice none 0 0 :: .bool false :: .slice none 0 0 :: .slice none 0 0 :: .int .i64 0 :: .slice (some ⟨aS,0,none⟩) ((sb ((D.f 1).s)).length) aT :: .bool false :: .slice none 0 0 :: .slice none 0 0 :: .int .i64 0 :: .slice ab (((D.f 2).o).length) ac :: .bool false :: .slice none 0 0 :: .slice none 0 0 :: .int .i64 0 :: .slice none 0 0 :: .bool (((D.f 3).A).isNone) :: .slice A3_ k3_ c3_ :: .slice none 0 0 :: .int .i64 0 :: .slice none 0 0 :: .bool (((D.f 4).A).isNone) :: .slice A4_ k4_ c4_ :: .slice none 0 0 :: .int .i64 ai :: .slice ao aj.length ap :: .bool ak :: .slice ar al.length au :: .slice av am.length aw :: .int .i64 aH :: .slice aM aI.length aN :: .bool aJ :: .slice aO aK.length aP :: .slice aQ aL.length aR :: .int .i64 0 :: .slice none 0 0 :: .bool (((D.f 7).A).isNone) :: .slice A7_ k7_ c7_ :: .slice none 0 0 :: .int .i64 ((D.f 8).n) :: .slice none 0 0 :: .bool false :: .slice none 0 0 :: .slice none 0 0 :: []),true⟩,⟨bj,0,[.int .i64 0,.slice none 0 0,.bool false,.slice (some ⟨aa,0,none⟩) 9 9,.slice ae D.u.length af],true⟩] [brow ab ac 5 ((D.f 2).o),⟨A3_,c3_,37,5,k3_,xs3_⟩,⟨A4_,c4_,37,5,k4_,xs4_⟩,⟨A7_,c7_,37,5,k7_,xs7_⟩]) _ _ from (TreeR.mk (n:=0) (b:=false) (s:=(sb ((D.f 1).s))) (l:=[]) (u:=[]) (fun _=>[]) (rQ.move ((((((((((((((((((((((((((((mf.trans mg).trans ki).trans kj).trans km).trans jd).trans je).trans jf).trans jh).trans eB).trans fA).trans fB).trans fC).trans cH).trans dy).trans cR).trans b8).trans cd).trans bD).trans bf).trans bg).trans bh).trans bi).trans aU).trans ax).trans ay).trans az).trans ag).trans ah).step immM ((((((((((((((((((((((((((((mf.trans mg).trans ki).trans kj).trans km).trans jd).trans je).trans jf).trans jh).trans eB).trans fA).trans fB).trans fC).trans cH).trans dy).trans cR).trans b8).trans cd).trans bD).trans bf).trans bg).trans bh).trans bi).trans aU).trans ax).trans ay).trans az).trans ag).trans ah).to') (Slots.nil _ _ _ _) (fun i_ x_ h_=>by simp at h_) (TagsR.nil _ _))).move (Step.refl _ Nil) nilM qbw,TreeR.mk (n:=0) (b:=false) (l:=[]) (u:=[]) (fun _=>[]) (qdB (bx.own 0 _ rfl) (by rw [g3]; decide) (qhg (F:=F) bx (k:=0) rfl)) (Slots.nil _ _ 5 _) (fun _ _ h_=>by simp at h_) (TagsR.nil _ _),qfh bx (k:=1) rfl iW (by rw [qbZ]; omega) (by rw [qbZ]; omega),qfh bx (k:=2) rfl iX (by rw [qbZ]; omega) (by rw [qbZ]; omega),(show TreeR _ (Imm F w dA [⟨b,o,[.int .i16 v,.int .i32 ((D.f 0).n),.string ((D.f 1).s),qaa ((D.f 2).o.getD 0 0),qaa ((D.f 2).o.getD 1 0),qaa ((D.f 2).o.getD 2 0),qaa ((D.f 2).o.getD 3 0),qaa ((D.f 2).o.getD 4 0),qaa ((D.f 2).o.getD 5 0),qaa ((D.f 2).o.getD 6 0),qaa ((D.f 2).o.getD 7 0),qaa ((D.f 2).o.getD 8 0),qaa ((D.f 2).o.getD 9 0),qaa ((D.f 2).o.getD 10 0),qaa ((D.f 2).o.getD 11 0),qaa ((D.f 2).o.getD 12 0),qaa ((D.f 2).o.getD 13 0),qaa ((D.f 2).o.getD 14 0),qaa ((D.f 2).o.getD 15 0),.slice ((D.f 3).A) ((D.f 3).l) ((D.f 3).c),.slice ((D.f 4).A) ((D.f 4).l) ((D.f 4).c),.pointer ((D.f 5).A),.bool ((D.f 6).b),.slice ((D.f 7).A) ((D.f 7).l) ((D.f 7).c),.int .i64 ((D.f 8).n),.map D.m],false⟩,⟨bI,0,[.int .i64 0,.slice none 0 0,.bool false,.slice (some ⟨aa,0,none⟩) 9 9,.slice ae D.u.length af],true⟩,⟨aa,0,(.int .i64 (IntKind.i64.wrap ((D.f 0).n)) :: .slice none 0 0 :: .bool false :: .slice none 0 0 :: .slice none 0 0 :: .int .i64 0 :: .slice (some ⟨aS,0,none⟩) ((sb ((D.f 1).s)).length) aT :: .bool false :: .slice none 0 0 :: .slice none 0 0 :: .int .i64 0 :: .slice ab (((D.f 2).o).length) ac :: .bool false :: .slice none 0 0 :: .slice none 0 0 :: .int .i64 0 :: .slice none 0 0 :: .bool (((D.f 3).A).isNone) :: .slice A3_ k3_ c3_ :: .slice none 0 0 :: .int .i64 0 :: .slice none 0 0 :: .bool (((D.f 4).A).isNone) :: .slice A4_ k4_ c4_ :: .slice none 0 0 :: .int .i64 ai :: .slice ao aj.length ap :: .bool ak :: .slice ar al.length au :: .slice av am.length aw :: .int .i64 aH :: .slice aM aI.length aN :: .bool aJ :: .slice aO aK.length aP :: .slice aQ aL.length aR :: .int .i64 0 :: .slice none 0 0 :: .bool (((D.f 7).A).isNone) :: .slice A7_ k7_ c7_ :: .slice none 0 0 :: .int .i64 ((D.f 8).n) :: .slice none 0 0 :: .bool false :: .slice none 0 0 :: .slice none 0 0 :: []),true⟩,⟨bj,0,[.int .i64 0,.slice none 0 0,.bool false,.slice (some ⟨aa,0,none⟩) 9 9,.slice ae D.u.length af],true⟩] [brow ab ac 5 ((D.f 2).o),⟨A3_,c3_,37,5,k3_,xs3_⟩,⟨A4_,c4_,37,5,k4_,xs4_⟩,⟨A7_,c7_,37,5,k7_,xs7_⟩]) _ _ from (ig.move ((((((((((((b8.trans cd).trans bD).trans bf).trans bg).trans bh).trans bi).trans aU).trans ax).trans ay).trans az).trans ag).trans ah).step immM ((((((((((((b8.trans cd).trans bD).trans bf).trans bg).trans bh).trans bi).trans aU).trans ax).trans ay).trans az).trans ag).trans ah).to')).move (Step.refl _ Nil) nilM qbw,(show TreeR _ (Imm F w dA [⟨b,o,[.int .i16 v,.int .i32 ((D.f 0).n),.string ((D.f 1).s),qaa ((D.f 2).o.getD 0 0),qaa ((D.f 2).o.getD 1 0),qaa ((D.f 2).o.getD 2 0),qaa ((D.f 2).o.getD 3 0),qaa ((D.f 2).o.getD 4 0),qaa ((D.f 2).o.getD 5 0),qaa ((D.f 2).o.getD 6 0),qaa ((D.f 2).o.getD 7 0),qaa ((D.f 2).o.getD 8 0),qaa ((D.f 2).o.getD 9 0),qaa ((D.f 2).o.getD 10 0),qaa ((D.f 2).o.getD 11 0),qaa ((D.f 2).o.getD 12 0),qaa ((D.f 2).o.getD 13 0),qaa ((D.f 2).o.getD 14 0),qaa ((D.f 2).o.getD 15 0),.slice ((D.f 3).A) ((D.f 3).l) ((D.f 3).c),.slice ((D.f 4).A) ((D.f 4).l) ((D.f 4).c),.pointer ((D.f 5).A),.bool ((D.f 6).b),.slice ((D.f 7).A) ((D.f 7).l) ((D.f 7).c),.int .i64 ((D.f 8).n),.map D.m],false⟩,⟨bI,0,[.int .i64 0,.slice none 0 0,.bool false,.slice (some ⟨aa,0,none⟩) 9 9,.slice ae D.u.length af],true⟩,⟨aa,0,(.int .i64 (IntKind.i64.wrap ((D.f 0).n)) :: .slice none 0 0 :: .bool false :: .slice none 0 0 :: .slice none 0 0 :: .int .i64 0 :: .slice (some ⟨aS,0,none⟩) ((sb ((D.f 1).s)).length) aT :: .bool false :: .slice none 0 0 :: .slice none 0 0 :: .int .i64 0 :: .slice ab (((D.f 2).o).length) ac :: .bool false :: .slice none 0 0 :: .slice none 0 0 :: .int .i64 0 :: .slice none 0 0 :: .bool (((D.f 3).A).isNone) :: .slice A3_ k3_ c3_ :: .slice none 0 0 :: .int .i64 0 :: .slice none 0 0 :: .bool (((D.f 4).A).isNone) :: .slice A4_ k4_ c4_ :: .slice none 0 0 :: .int .i64 ai :: .slice ao aj.length ap :: .bool ak :: .slice ar al.length au :: .slice av am.length aw :: .int .i64 aH :: .slice aM aI.length aN :: .bool aJ :: .slice aO aK.length aP :: .slice aQ aL.length aR :: .int .i64 0 :: .slice none 0 0 :: .bool (((D.f 7).A).isNone) :: .slice A7_ k7_ c7_ :: .slice none 0 0 :: .int .i64 ((D.f 8).n) :: .slice none 0 0 :: .bool false :: .slice none 0 0 :: .slice none 0 0 :: []),true⟩,⟨bj,0,[.int .i64 0,.slice none 0 0,.bool false,.slice (some ⟨aa,0,none⟩) 9 9,.slice ae D.u.length af],true⟩] [brow ab ac 5 ((D.f 2).o),⟨A3_,c3_,37,5,k3_,xs3_⟩,⟨A4_,c4_,37,5,k4_,xs4_⟩,⟨A7_,c7_,37,5,k7_,xs7_⟩]) _ _ from (il.move (((((((((bf.trans bg).trans bh).trans bi).trans aU).trans ax).trans ay).trans az).trans ag).trans ah).step immM (((((((((bf.trans bg).trans bh).trans bi).trans aU).trans ax).trans ay).trans az).trans ag).trans ah).to')).move (Step.refl _ Nil) nilM qbw,qfh bx (k:=3) rfl iY (by rw [qbZ]; omega) (by rw [qbZ]; omega),(show TreeR _ (Imm F w dA [⟨b,o,[.int .i16 v,.int .i32 ((D.f 0).n),.string ((D.f 1).s),qaa ((D.f 2).o.getD 0 0),qaa ((D.f 2).o.getD 1 0),qaa ((D.f 2).o.getD 2 0),qaa ((D.f 2).o.getD 3 0),qaa ((D.f 2).o.getD 4 0),qaa ((D.f 2).o.getD 5 0),qaa ((D.f 2).o.getD 6 0),qaa ((D.f 2).o.getD 7 0),qaa ((D.f 2).o.getD 8 0),qaa ((D.f 2).o.getD 9 0),qaa ((D.f 2).o.getD 10 0),qaa ((D.f 2).o.getD 11 0),qaa ((D.f 2).o.getD 12 0),qaa ((D.f 2).o.getD 13 0),qaa ((D.f 2).o.getD 14 0),qaa ((D.f 2).o.getD 15 0),.slice ((D.f 3).A) ((D.f 3).l) ((D.f 3).c),.slice ((D.f 4).A) ((D.f 4).l) ((D.f 4).c),.pointer ((D.f 5).A),.bool ((D.f 6).b),.slice ((D.f 7).A) ((D.f 7).l) ((D.f 7).c),.int .i64 ((D.f 8).n),.map D.m],false⟩,⟨bI,0,[.int .i64 0,.slice none 0 0,.bool false,.slice (some ⟨aa,0,none⟩) 9 9,.slice ae D.u.length af],true⟩,⟨aa,0,(.int .i64 (IntKind.i64.wrap ((D.f 0).n)) :: .slice none 0 0 :: .bool false :: .slice none 0 0 :: .slice none 0 0 :: .int .i64 0 :: .slice (some ⟨aS,0,none⟩) ((sb ((D.f 1).s)).length) aT :: .bool false :: .slice none 0 0 :: .slice none 0 0 :: .int .i64 0 :: .slice ab (((D.f 2).o).length) ac :: .bool false :: .slice none 0 0 :: .slice none 0 0 :: .int .i64 0 :: .slice none 0 0 :: .bool (((D.f 3).A).isNone) :: .slice A3_ k3_ c3_ :: .slice none 0 0 :: .int .i64 0 :: .slice none 0 0 :: .bool (((D.f 4).A).isNone) :: .slice A4_ k4_ c4_ :: .slice none 0 0 :: .int .i64 ai :: .slice ao aj.length ap :: .bool ak :: .slice ar al.length au :: .slice av am.length aw :: .int .i64 aH :: .slice aM aI.length aN :: .bool aJ :: .slice aO aK.length aP :: .slice aQ aL.length aR :: .int .i64 0 :: .slice none 0 0 :: .bool (((D.f 7).A).isNone) :: .slice A7_ k7_ c7_ :: .slice none 0 0 :: .int .i64 ((D.f 8).n) :: .slice none 0 0 :: .bool false :: .slice none 0 0 :: .slice none 0 0 :: []),true⟩,⟨bj,0,[.int .i64 0,.slice none 0 0,.bool false,.slice (some ⟨aa,0,none⟩) 9 9,.slice ae D.u.length af],true⟩] [brow ab ac 5 ((D.f 2).o),⟨A3_,c3_,37,5,k3_,xs3_⟩,⟨A4_,c4_,37,5,k4_,xs4_⟩,⟨A7_,c7_,37,5,k7_,xs7_⟩]) _ _ from (TreeR.mk (n:=(D.f 8).n) (b:=false) (s:=[]) (l:=[]) (u:=[]) (fun _=>[]) (Octs.nil _ _) (Slots.nil _ _ _ _) (fun i_ x_ h_=>by simp at h_) (TagsR.nil _ _))).move (Step.refl _ Nil) nilM qbw,trivial⟩ ((show TagsR _ (Imm F w dA [⟨b,o,[.int .i16 v,.int .i32 ((D.f 0).n),.string ((D.f 1).s),qaa ((D.f 2).o.getD 0 0),qaa ((D.f 2).o.getD 1 0),qaa ((D.f 2).o.getD 2 0),qaa ((D.f 2).o.getD 3 0),qaa ((D.f 2).o.getD 4 0),qaa ((D.f 2).o.getD 5 0),qaa ((D.f 2).o.getD 6 0),qaa ((D.f 2).o.getD 7 0),qaa ((D.f 2).o.getD 8 0),qaa ((D.f 2).o.getD 9 0),qaa ((D.f 2).o.getD 10 0),qaa ((D.f 2).o.getD 11 0),qaa ((D.f 2).o.getD 12 0),qaa ((D.f 2).o.getD 13 0),qaa ((D.f 2).o.getD 14 0),qaa ((D.f 2).o.getD 15 0),.slice ((D.f 3).A) ((D.f 3).l) ((D.f 3).c),.slice ((D.f 4).A) ((D.f 4).l) ((D.f 4).c),.pointer ((D.f 5).A),.bool ((D.f 6).b),.slice ((D.f 7).A) ((D.f 7).l) ((D.f 7).c),.int .i64 ((D.f 8).n),.map D.m],false⟩,⟨bI,0,[.int .i64 0,.slice none 0 0,.bool false,.slice (some ⟨aa,0,none⟩) 9 9,.slice ae D.u.length af],true⟩,⟨aa,0,(.int .i64 (IntKind.i64.wrap ((D.f 0).n)) :: .slice none 0 0 :: .bool false :: .slice none 0 0 :: .slice none 0 0 :: .int .i64 0 :: .slice (some ⟨aS,0,none⟩) ((sb ((D.f 1).s)).length) aT :: .bool false :: .slice none 0 0 :: .slice none 0 0 :: .int .i64 0 :: .slice ab (((D.f 2).o).length) ac :: .bool false :: .slice none 0 0 :: .slice none 0 0 :: .int .i64 0 :: .slice none 0 0 :: .bool (((D.f 3).A).isNone) :: .slice A3_ k3_ c3_ :: .slice none 0 0 :: .int .i64 0 :: .slice none 0 0 :: .bool (((D.f 4).A).isNone) :: .slice A4_ k4_ c4_ :: .slice none 0 0 :: .int .i64 ai :: .slice ao aj.length ap :: .bool ak :: .slice ar al.length au :: .slice av am.length aw :: .int .i64 aH :: .slice aM aI.length aN :: .bool aJ :: .slice aO aK.length aP :: .slice aQ aL.length aR :: .int .i64 0 :: .slice none 0 0 :: .bool (((D.f 7).A).isNone) :: .slice A7_ k7_ c7_ :: .slice none 0 0 :: .int .i64 ((D.f 8).n) :: .slice none 0 0 :: .bool false :: .slice none 0 0 :: .slice none 0 0 :: []),true⟩,⟨bj,0,[.int .i64 0,.slice none 0 0,.bool false,.slice (some ⟨aa,0,none⟩) 9 9,.slice ae D.u.length af],true⟩] [brow ab ac 5 ((D.f 2).o),⟨A3_,c3_,37,5,k3_,xs3_⟩,⟨A4_,c4_,37,5,k4_,xs4_⟩,⟨A7_,c7_,37,5,k7_,xs7_⟩]) _ _ _ from (iT.move (ag.trans ah).step immM (ag.trans ah).to')).move (Step.refl _ Nil) nilM qbw)
def DefF:Fld → Tree → Prop
 | .mk k _ _ _ _ x5 _ _,g=>x5 = 0 ∨ g.N = qch k x5
def DefP (l:List Fld) (g:Tree):Prop:=∀ (i:Nat) (f:Fld),l[i]? = some f → DefF f (g.at_ i)
theorem qlu {k x1 x2 x3 x4 x5 x6 n:Int} {s:List Fld} {b:Bs} {c:Bool} {l:List Tree} {u:List (Int × Bs)} (h:DefF (.mk k x1 x2 x3 x4 x5 x6 s) (.mk n b c l u)) (h1:(x5 != 0) = true) (h2:(n != qch k x5) = true):False:=by
 have h':x5 = 0 ∨ n = qch k x5:=h
 rcases h' with h' | h'
 ·rw [h'] at h1; simp at h1
 rw [h'] at h2; simp at h2
theorem qkA (k n:Int) (w:World):Calls Tryz.prog 48 #[.int .i64 k,.int .i64 n] w (qcz w (.int .i64 (qch k n))):=by
 refine enter (n:=31) Tryz.func48 rfl Tryz.ntmps48 kz fun a hE=>?_
 have hW:=WOk.start w Nil
 refine qav [(0,.v (.int .i64 k)),(1,.v (.int .i64 n))] hW hE fun a1 hE2=>?_
 refine wp_seq ?_
 refine qav [(1,.v (.int .i64 n)),(5,.v (.int .i64 k))] hW hE2 fun a3 hE4=>?_
 refine wp_block ?_
 refine qav [(1,.v (.int .i64 n)),(5,.v (.int .i64 k)),(6,.v (.bool (k == 0)))] hW hE4 fun a5 hE6=>?_
 refine qaD hE6 (b:=k == 0) kz (fun hc7=>?_) (fun hc7=>?_)
 ·
  have hf8:k = 0:=by simpa using hc7
  refine qav [(4,.v (.int .i64 (IntKind.i64.wrap (BitVec.ofInt 64 n &&& BitVec.ofInt 64 1).toNat)))] hW hE6 fun a9 aj=>?_
  refine wp_ret ?_
  refine qaY ?_
  refine qaE ?_
  refine qaV aj hW.cells (v:=.int .i64 (IntKind.i64.wrap (BitVec.ofInt 64 n &&& BitVec.ofInt 64 1).toNat)) kz ?_
  exact ⟨by (try simp only [and1]); simp_all [qch,qh3,qfA,qfB,qez],hW.step⟩
 have ar:k ≠ 0:=by simpa using hc7
 refine qav [(1,.v (.int .i64 n)),(5,.v (.int .i64 k)),(10,.v (.bool (k == 1)))] hW hE6 fun aC aa=>?_
 refine qaD aa (b:=k == 1) kz (fun ab=>?_) (fun ab=>?_)
 ·
  have au:k = 1:=by simpa using ab
  refine qav [(4,.v (.int .i64 (IntKind.i64.wrap (IntKind.i8.wrap n))))] hW aa fun aD ak=>?_
  refine wp_ret ?_
  refine qaY ?_
  refine qaE ?_
  refine qaV ak hW.cells (v:=.int .i64 (IntKind.i64.wrap (IntKind.i8.wrap n))) kz ?_
  exact ⟨by (try simp only [and1]); simp_all [qch,qh3,qfA,qfB,qez],hW.step⟩
 have av:k ≠ 1:=by simpa using ab
 refine qav [(1,.v (.int .i64 n)),(5,.v (.int .i64 k)),(15,.v (.bool (k == 2)))] hW aa fun aE ac=>?_
 refine qaD ac (b:=k == 2) kz (fun ae=>?_) (fun ae=>?_)
 ·
  have aw:k = 2:=by simpa using ae
  refine qav [(4,.v (.int .i64 (IntKind.i64.wrap (IntKind.i16.wrap n))))] hW ac fun aF al=>?_
  refine wp_ret ?_
  refine qaY ?_
  refine qaE ?_
  refine qaV al hW.cells (v:=.int .i64 (IntKind.i64.wrap (IntKind.i16.wrap n))) kz ?_
  exact ⟨by (try simp only [and1]); simp_all [qch,qh3,qfA,qfB,qez],hW.step⟩
 have ax:k ≠ 2:=by simpa using ae
 refine qav [(1,.v (.int .i64 n)),(5,.v (.int .i64 k)),(20,.v (.bool (k == 3)))] hW ac fun aG af=>?_
 refine qaD af (b:=k == 3) kz (fun ag=>?_) (fun ag=>?_)
 ·
  have ay:k = 3:=by simpa using ag
  refine qav [(4,.v (.int .i64 (IntKind.i64.wrap (IntKind.i32.wrap n))))] hW af fun aH am=>?_
  refine wp_ret ?_
  refine qaY ?_
  refine qaE ?_
  refine qaV am hW.cells (v:=.int .i64 (IntKind.i64.wrap (IntKind.i32.wrap n))) kz ?_
  exact ⟨by (try simp only [and1]); simp_all [qch,qh3,qfA,qfB,qez],hW.step⟩
 have az:k ≠ 3:=by simpa using ag
 refine qav [(1,.v (.int .i64 n)),(25,.v (.bool (k == 5)))] hW af fun aI ah=>?_
 refine qaD ah (b:=k == 5) kz (fun ai=>?_) (fun ai=>?_)
 ·
  have aA:k = 5:=by simpa using ai
  refine qav [(4,.v (.int .i64 (IntKind.i64.wrap (IntKind.u16.wrap n))))] hW ah fun aJ ao=>?_
  refine wp_ret ?_
  refine qaY ?_
  refine qaE ?_
  refine qaV ao hW.cells (v:=.int .i64 (IntKind.i64.wrap (IntKind.u16.wrap n))) kz ?_
  exact ⟨by (try simp only [and1]); simp_all [qch,qh3,qfA,qfB,qez],hW.step⟩
 have aB:k ≠ 5:=by simpa using ai
 refine wp_skip ?_
 refine qax ?_
 refine qac ?_
 refine qav [(4,.v (.int .i64 n))] hW ah fun aK ap=>?_
 refine wp_ret ?_
 refine qaV ap hW.cells (v:=.int .i64 n) kz ?_
 exact ⟨by (try simp only [and1]); simp_all [qch,qh3,qfA,qfB,qez],hW.step⟩
theorem qjd (A:Option Addr) (c:Nat) (l:List Fld) (ct:List Value) (g:Tree) (w:World) (F:Nat → Nat → Prop) (hl:FldsR w F A c l) (ht:TreeR w F ct g) (hD:DefP l g) :
  Calls Tryz.prog 16 #[.slice A l.length c,.agg ct.toArray] w (qcz w (.bool true)):=by
 obtain ⟨xfs,h1,h2⟩:=hl.ex
 have hsm:=h1.small
 obtain ⟨n1,s2,b3,l4,u5,A6,c7,A8,c9,aG,aH,bZ,rfl,rfl,b8,cd,de,dg⟩:=ht.open_
 have bQ:=b8.small
 have bR:=cd.small
 refine enter (n:=30) Tryz.func16 rfl Tryz.ntmps16 kz fun a hE=>?_
 have hW:=WOk.start w Nil
 refine qag [0,1] kz ?_
 refine qak (qbv hW hE (d:=3) (cs:=[.int .i64 n1,.slice A6 s2.length c7,.bool b3,.slice A8 l4.length c9,.slice aG u5.length aH]) kz fun bw dh di ce cg cm ap bx=>?_)
 refine qal [1] [] [(0,.v (.slice A l.length c)),(3,.p 0 0)] ap bx fun dj bz=>?_
 refine qah (qac ?_)
 refine wp_seq ?_
 refine qav [(3,.p 0 0),(7,.v (.slice A l.length c)),(8,.v (.int .i64 ((l.length:Nat):Int))),(9,.v (.int .i64 0))] ap bz fun dl bA=>?_
 refine wp_block ?_
 refine wp_loop_ghost (fun n_ a_ w_=>∃ (k:Nat),n_ = l.length - k ∧ k ≤ l.length ∧ LInv ap 30 [⟨bw,0,[.int .i64 n1,.slice A6 s2.length c7,.bool b3,.slice A8 l4.length c9,.slice aG u5.length aH],true⟩] [] [(3,.p 0 0),(7,.v (.slice A l.length c)),(8,.v (.int .i64 ((l.length:Nat):Int))),(9,.v (.int .i64 ((k:Nat):Int)))] a_ w_) (l.length) ⟨0,by omega,by omega,bA.pk,ap,Fr.refl _ _ _⟩ ?_
 rintro dp dq dr ⟨k,cq,cr,bB,ac,aI⟩
 refine qav [(3,.p 0 0),(7,.v (.slice A l.length c)),(8,.v (.int .i64 ((l.length:Nat):Int))),(9,.v (.int .i64 ((k:Nat):Int))),(10,.v (.bool (decide (((k:Nat):Int) < ((l.length:Nat):Int)))))] ac bB fun dt aD=>?_
 refine wp_seq ?_
 refine qaD aD (b:=decide (((k:Nat):Int) < ((l.length:Nat):Int))) kz (fun aE=>?_) (fun aE=>?_)
 ·
  have cu:=of_decide_eq_true aE
  refine wp_skip ?_
  refine qac ?_
  refine wp_seq ?_
  refine wp_block ?_
  refine qag [0,1,2,3,4,5] kz ?_
  refine qal [0] [1,2,3,4,5] [(3,.p 0 0),(7,.v (.slice A l.length c)),(8,.v (.int .i64 ((l.length:Nat):Int))),(9,.v (.int .i64 ((k:Nat):Int))),(11,.v (.int .i64 ((k:Nat):Int)))] ac aD fun du bC=>?_
  obtain ⟨cw,cz,bD,cA,ar⟩:=Slots.get h1 (i:=k) (by omega)
  obtain ⟨cB,aJ⟩:∃ x,l[k]? = some x:=⟨_,List.getElem?_eq_getElem (by omega)⟩
  have aK:=h2 k cB aJ
  obtain ⟨af,bj,bk,bn,bo,ab,bp,bq,bt,bu,cC,rfl,au,cD,dv⟩:=aK.open_
  rw [au] at aK
  have bS:=cD.small
  rw [au] at ar
  refine qak (qas bC (t:=29) (A:=A) (m:=l.length) (q:=((k:Nat):Int)) (d:=12) kz (e:=52) (size:=8) (bytes:=80) kz bD rfl (by omega) fun dw bE=>?_)
  refine qak (qaM bE (t:=52) (b:=cw) (o:=cz + k * 8) (d:=13) kz (cs:=[.int .i64 af,.int .i64 bj,.int .i64 bk,.int .i64 bn,.int .i64 bo,.int .i64 ab,.int .i64 bp,.slice bt bq.length bu]) (v:=.agg #[.int .i64 af,.int .i64 bj,.int .i64 bk,.int .i64 bn,.int .i64 bo,.int .i64 ab,.int .i64 bp,.slice bt bq.length bu]) kz (AtF.move ar ac.step nilM qa7).at_ fun dx bF=>?_)
  refine qak (qaO ac bF (d:=6) (cs:=[.int .i64 0,.int .i64 0,.int .i64 0,.int .i64 0,.int .i64 0,.int .i64 0,.int .i64 0,.slice none 0 0]) kz fun dy dz dA cE cG aL aM bG=>?_)
  refine qal [4] [5] [(3,.p 0 0),(5,.v (.int .i64 ((k:Nat):Int))),(6,.p 1 0),(7,.v (.slice A l.length c)),(8,.v (.int .i64 ((l.length:Nat):Int))),(9,.v (.int .i64 ((k:Nat):Int))),(13,.v (.agg #[.int .i64 af,.int .i64 bj,.int .i64 bk,.int .i64 bn,.int .i64 bo,.int .i64 ab,.int .i64 bp,.slice bt bq.length bu]))] aM bG fun dB bH=>?_
  refine qak (qam aM bH (oi:=1) (cs:=[.int .i64 af,.int .i64 bj,.int .i64 bk,.int .i64 bn,.int .i64 bo,.int .i64 ab,.int .i64 bp,.slice bt bq.length bu]) kz fun dC aN bI bJ=>?_)
  refine qah (qac ?_)
  refine qaK 15 kz bI fun dD aO ae aF=>?_
  refine qaz [0,1,2,3] [(3,.p 0 0),(5,.v (.int .i64 ((k:Nat):Int))),(6,.p 1 0),(7,.v (.slice A l.length c)),(8,.v (.int .i64 ((l.length:Nat):Int))),(9,.v (.int .i64 ((k:Nat):Int))),(17,.v (.bool (ab != 0)))] 11 (qab (qae (qab (qab (qae (qab qaf)))))) (fun _ h=>h.cells) aF bJ fun dE aP=>?_
  refine (Bool.eq_false_or_eq_true (ab != 0)).elim (fun ag=>?_) (fun ag=>?_)
  ·
   have cH:ab ≠ 0:=by simpa using ag
   have bK:=aP.cast (env':=[(3,.p 0 0),(5,.v (.int .i64 ((k:Nat):Int))),(6,.p 1 0),(7,.v (.slice A l.length c)),(8,.v (.int .i64 ((l.length:Nat):Int))),(9,.v (.int .i64 ((k:Nat):Int))),(17,.v (.bool true))]) (by rw [ag])
   refine qaz [4,5,8,9,10,11] [(3,.p 0 0),(7,.v (.slice A l.length c)),(8,.v (.int .i64 ((l.length:Nat):Int))),(9,.v (.int .i64 ((k:Nat):Int))),(17,.v (.bool true)),(18,.v (.agg #[.int .i64 n1,.slice A6 s2.length c7,.bool b3,.slice A8 l4.length c9,.slice aG u5.length aH])),(19,.v (.int .i64 ((k:Nat):Int))),(23,.v (.int .i64 af)),(25,.v (.int .i64 ab))] 5 (qab (qae (qab (qab (qae (qab qaf)))))) (fun _ h=>h.cells) aF bK fun dF bL=>?_
   refine qap (i:=6) kz (qan bL (f:=47) (vs:=[.agg #[.int .i64 n1,.slice A6 s2.length c7,.bool b3,.slice A8 l4.length c9,.slice aG u5.length aH],.int .i64 ((k:Nat):Int)]) (d:=20) kz Tryz.call47 (sAt _ _ k _ _ (ht.move ae.step nilM ae.imm)) ?_)
   rintro e_ cI ⟨bT,rfl,aQ,ah⟩
   have av:=aQ.move ah nilM (fun b o h_ hb_=>ae.laid (G:=F) ah b o (.inl h_) (Nat.lt_of_lt_of_le hb_ ah.size))
   obtain ⟨ai,cJ,cK,cL,cM,cN,cO,cP,cQ,cR,cS,bU,aR,aj,bM,bN,cT,cU⟩:=av.open_
   rw [aj] at av
   have bO:=bM.small
   have bP:=bN.small
   rw [aj]
   refine ⟨_,rfl,fun cV aS=>?_⟩
   have ak:=ae.next_nil ah
   have al:=ae.frN ah
   have hq_:=hD k _ aJ
   rw [aR] at hq_
   have aw:=TT.ofW al ak
   refine ⟨fun _=>aw,?_⟩
   refine qaz [7] [(3,.p 0 0),(7,.v (.slice A l.length c)),(8,.v (.int .i64 ((l.length:Nat):Int))),(9,.v (.int .i64 ((k:Nat):Int))),(17,.v (.bool true)),(21,.v (.int .i64 ai)),(23,.v (.int .i64 af)),(25,.v (.int .i64 ab))] 3 (qab (qae (qab (qab (qae (qab qaf)))))) (fun _ h=>h.cells) aw aS fun cW aT=>?_
   refine qap (i:=12) kz (qan aT (f:=48) (vs:=[.int .i64 af,.int .i64 ab]) (d:=26) kz Tryz.call48 (qkA af ab _) ?_)
   rintro e_ cX ⟨rfl,ax⟩
   refine ⟨_,rfl,fun cY aU=>?_⟩
   have aa:=ak.next_nil ax
   have ay:=ak.frN ax
   have az:=TT.ofW (al.trans ay) aa
   refine ⟨fun _=>az,?_⟩
   refine qaz [13,14] [(3,.p 0 0),(7,.v (.slice A l.length c)),(8,.v (.int .i64 ((l.length:Nat):Int))),(9,.v (.int .i64 ((k:Nat):Int))),(28,.v (.bool (ai != (qch af ab))))] 0 (qab (qae (qab (qab (qae (qab qaf)))))) (fun _ h=>h.cells) az aU fun cZ am=>?_
   refine qay kz ?_ _
   refine qac ?_
   refine qaD am (b:=ai != (qch af ab)) kz (fun ao=>?_) (fun ao=>?_)
   ·
    have bV:ai ≠ (qch af ab):=by simpa using ao
    refine qav [(4,.v (.bool false))] aa am fun c5 aV=>?_
    refine wp_ret ?_
    refine qaY ?_
    refine qaE ?_
    refine qaE ?_
    refine qaY ?_
    refine qaE ?_
    refine qaV aV aa.cells (v:=.bool false) kz ?_
    exact (qlu hq_ ‹_› ‹_›).elim
   have bW:ai = (qch af ab):=by simpa using ao
   refine wp_skip ?_
   refine qax ?_
   refine qac ?_
   refine qaq [0,1] kz ?_
   refine qal [0,1] [] [(3,.p 0 0),(7,.v (.slice A l.length c)),(8,.v (.int .i64 ((l.length:Nat):Int))),(9,.v (.int .i64 (IntKind.i64.wrap (((k:Nat):Int) + 1))))] aa am fun c6 aW=>?_
   refine qah (qac ?_)
   obtain ⟨aA,aX,aY⟩:=aa.cutB aW 1 [⟨bw,0,[.int .i64 n1,.slice A6 s2.length c7,.bool b3,.slice A8 l4.length c9,.slice aG u5.length aH],true⟩] [(3,.p 0 0),(7,.v (.slice A l.length c)),(8,.v (.int .i64 ((l.length:Nat):Int))),(9,.v (.int .i64 (IntKind.i64.wrap (((k:Nat):Int) + 1))))]
   have aZ:IntKind.i64.wrap (((k:Nat):Int) + 1) = ((k + 1:Nat):Int):=qa1 (by omega)
   rw [aZ] at aA
   exact ⟨l.length - (k + 1),by omega,k + 1,rfl,by omega,aA.pk,aX,((((((aI.trans aL).trans aN).trans aO).trans al).trans ay).trans aY)⟩
  have bX:ab = 0:=by simpa using ag
  have ba:=aP.cast (env':=[(3,.p 0 0),(5,.v (.int .i64 ((k:Nat):Int))),(6,.p 1 0),(7,.v (.slice A l.length c)),(8,.v (.int .i64 ((l.length:Nat):Int))),(9,.v (.int .i64 ((k:Nat):Int))),(17,.v (.bool false))]) (by rw [ag])
  refine qaz [4,5,6,7,8,9,10,11,12,13,14] [(3,.p 0 0),(7,.v (.slice A l.length c)),(8,.v (.int .i64 ((l.length:Nat):Int))),(9,.v (.int .i64 ((k:Nat):Int))),(28,.v (.bool false))] 0 (qab (qae (qab (qab (qae (qab qaf)))))) (fun _ h=>h.cells) aF ba fun da aB=>?_
  refine qay kz ?_ _
  refine qac ?_
  refine qau aB (b:=false) kz rfl ?_
  refine wp_skip ?_
  refine qax ?_
  refine qac ?_
  refine qaq [0,1] kz ?_
  refine qal [0,1] [] [(3,.p 0 0),(7,.v (.slice A l.length c)),(8,.v (.int .i64 ((l.length:Nat):Int))),(9,.v (.int .i64 (IntKind.i64.wrap (((k:Nat):Int) + 1))))] ae aB fun db bd=>?_
  refine qah (qac ?_)
  obtain ⟨aC,bf,bg⟩:=ae.cutB bd 1 [⟨bw,0,[.int .i64 n1,.slice A6 s2.length c7,.bool b3,.slice A8 l4.length c9,.slice aG u5.length aH],true⟩] [(3,.p 0 0),(7,.v (.slice A l.length c)),(8,.v (.int .i64 ((l.length:Nat):Int))),(9,.v (.int .i64 (IntKind.i64.wrap (((k:Nat):Int) + 1))))]
  have bh:IntKind.i64.wrap (((k:Nat):Int) + 1) = ((k + 1:Nat):Int):=qa1 (by omega)
  rw [bh] at aC
  exact ⟨l.length - (k + 1),by omega,k + 1,rfl,by omega,aC.pk,bf,((((aI.trans aL).trans aN).trans aO).trans bg)⟩
 have bY:=of_decide_eq_false aE
 refine wp_exit ?_
 refine qaw ?_
 refine qaw ?_
 refine qaP ?_
 refine qac ?_
 refine qav [(4,.v (.bool true))] ac aD fun dc bi=>?_
 refine wp_ret ?_
 refine qaV bi ac.cells (v:=.bool true) kz ?_
 exact ⟨rfl,ac.step⟩
def qa6 (D:DV):DV:=dvP D.m D.u [D.f 0,D.f 1,D.f 2,D.f 3,D.f 4,D.f 5,D.f 6,D.f 7,dvN (-1)]
theorem qcI {v:World} {F:Nat → Nat → Prop} {D:DV} (h:qaZ v F D):qaZ v F (qa6 D):=by
 unfold qaZ at h
 obtain ⟨g0,g1,g2,g3,g4,g5,g6,g7,g8,t1,t2,t3,_⟩:=h
 exact ⟨g0,g1,g2,g3,g4,g5,g6,g7,g8,t1,t2,t3,trivial⟩
theorem qcJ (D:DV):DefP sBrokerRegistrationRequestF (qba (qa6 D)):=by
 intro i f hf
 match i,hf with
 | 0,hf =>
  obtain rfl:=Option.some.inj hf
  exact .inl rfl
 | 1,hf =>
  obtain rfl:=Option.some.inj hf
  exact .inl rfl
 | 2,hf =>
  obtain rfl:=Option.some.inj hf
  exact .inl rfl
 | 3,hf =>
  obtain rfl:=Option.some.inj hf
  exact .inl rfl
 | 4,hf =>
  obtain rfl:=Option.some.inj hf
  exact .inl rfl
 | 5,hf =>
  obtain rfl:=Option.some.inj hf
  exact .inl rfl
 | 6,hf =>
  obtain rfl:=Option.some.inj hf
  exact .inl rfl
 | 7,hf =>
  obtain rfl:=Option.some.inj hf
  exact .inl rfl
 | 8,hf =>
  obtain rfl:=Option.some.inj hf
  exact .inr (show (-1:Int) = qch 4 (-1) from by decide)
 | n_ + 9,hf=>exact absurd (List.getElem?_eq_some_iff.1 hf).1 (by show ¬ n_ + 9 < 9; omega)
set_option maxHeartbeats 4000000 in
theorem qcZ (v:Int) (T:Tree) {A2:Option Addr} {c2:Nat} {w:World} {F:Nat → Nat → Prop} (hs_:Octs w F A2 c2 (qai (IntKind.i16.wrap v) T)) (hc:qa4 T) (hkey:T.ranged) (hroom:(qai (IntKind.i16.wrap v) T).length + 16 ≤ 1099511627776) :
  Calls Tryz.prog 26 #[.int .i64 v,.slice A2 (qai (IntKind.i16.wrap v) T).length c2] w (fun e w'=>∃ D cs,e = .returned (.tuple #[.agg cs.toArray,.bool true]) ∧ TreeR w' (Fp NoF w) cs (qba (qa6 D)) ∧ Step w w' Nil):=by
 refine enter (n:=22) Tryz.func26 rfl Tryz.ntmps26 kz fun a hE=>?_
 have hW:=WOk.start w Nil
 have hsm2:=Slots.small hs_
 refine qag [0,1] kz ?_
 refine qak (qaO hW hE (d:=4) (cs:=[.int .i64 0,.slice none 0 0,.bool false,.slice none 0 0,.slice none 0 0]) kz fun b1 a2 w3 hb4 hz5 hF6 hW7 hE8=>?_)
 refine qal [1] [] [(0,.v (.int .i64 v)),(1,.v (.slice A2 ((qai (IntKind.i16.wrap v) T).length) c2)),(4,.p 0 0)] hW7 hE8 fun a9 bj=>?_
 refine qah (qac ?_)
 refine qag [0,1] kz ?_
 refine qak (qbB bj (f:=63) (vs:=[]) (d:=7) (n':=3) kz Tryz.call63 Tryz.func63 rfl Tryz.ntmps63 kz fun c6 bk=>?_)
 refine qav [] hW7 bk fun da bn=>?_
 refine qag [0] kz ?_
 refine qak (qaO hW7 bn (d:=1) (cs:=[.int .i16 0,.int .i32 0,.string ByteArray.empty,.int .u8 0,.int .u8 0,.int .u8 0,.int .u8 0,.int .u8 0,.int .u8 0,.int .u8 0,.int .u8 0,.int .u8 0,.int .u8 0,.int .u8 0,.int .u8 0,.int .u8 0,.int .u8 0,.int .u8 0,.int .u8 0,.slice none 0 0,.slice none 0 0,.pointer none,.bool false,.slice none 0 0,.int .i64 0,.map none]) kz fun ab db dc cD cE cG aK bo=>?_)
 refine qah (qac ?_)
 refine qag [0] kz ?_
 refine qak (qbB bo (f:=69) (vs:=[.pointer (some ⟨ab,0,none⟩)]) (d:=2) (n':=5) kz Tryz.call69 Tryz.func69 rfl Tryz.ntmps69 kz fun de bp=>?_)
 have bq:=bp.recast 0 (.v (.pointer (some ⟨ab,0,none⟩))) (.p 1 0) rfl rfl (Nat.le_of_ble_eq_true (n:=2) rfl)
 refine qaq [0,1,2,3] kz ?_
 refine qal [0,1,2] [3] [(4,.p 1 24)] aK bq fun dg bt=>?_
 refine qak (qam aK bt (oi:=1) (cs:=[.int .i16 0,.int .i32 0,.string ByteArray.empty,.int .u8 0,.int .u8 0,.int .u8 0,.int .u8 0,.int .u8 0,.int .u8 0,.int .u8 0,.int .u8 0,.int .u8 0,.int .u8 0,.int .u8 0,.int .u8 0,.int .u8 0,.int .u8 0,.int .u8 0,.int .u8 0,.slice none 0 0,.slice none 0 0,.pointer none,.bool false,.slice none 0 0,.int .i64 (-1),.map none]) kz fun dh cH ac bu=>?_)
 refine qah ?_
 refine qbI bu ac.cells (v:=.tuple #[]) kz ?_
 refine ⟨_,rfl,fun di bw=>?_⟩
 have bx:EnvOk 3 [⟨b1,0,[.int .i64 0,.slice none 0 0,.bool false,.slice none 0 0,.slice none 0 0],true⟩,⟨ab,0,[.int .i16 0,.int .i32 0,.string ByteArray.empty,.int .u8 0,.int .u8 0,.int .u8 0,.int .u8 0,.int .u8 0,.int .u8 0,.int .u8 0,.int .u8 0,.int .u8 0,.int .u8 0,.int .u8 0,.int .u8 0,.int .u8 0,.int .u8 0,.int .u8 0,.int .u8 0,.slice none 0 0,.slice none 0 0,.pointer none,.bool false,.slice none 0 0,.int .i64 (-1),.map none],true⟩] [(2,.v (.tuple #[])),(1,.p 1 0)] _:=bw.places (⟨rfl,rfl,⟨rfl,rfl,trivial⟩⟩)
 refine qah (qac ?_)
 refine qav [(0,.p 1 0)] ac bx fun dj bz=>?_
 refine wp_ret ?_
 refine qaV bz ac.cells (v:=.pointer (some ⟨ab,0,none⟩)) kz ?_
 refine ⟨_,rfl,fun dl bA=>?_⟩
 have bB:EnvOk 22 [⟨b1,0,[.int .i64 0,.slice none 0 0,.bool false,.slice none 0 0,.slice none 0 0],true⟩,⟨ab,0,[.int .i16 0,.int .i32 0,.string ByteArray.empty,.int .u8 0,.int .u8 0,.int .u8 0,.int .u8 0,.int .u8 0,.int .u8 0,.int .u8 0,.int .u8 0,.int .u8 0,.int .u8 0,.int .u8 0,.int .u8 0,.int .u8 0,.int .u8 0,.int .u8 0,.int .u8 0,.slice none 0 0,.slice none 0 0,.pointer none,.bool false,.slice none 0 0,.int .i64 (-1),.map none],true⟩] [(7,.v (.pointer (some ⟨ab,0,none⟩))),(0,.v (.int .i64 v)),(1,.v (.slice A2 ((qai (IntKind.i16.wrap v) T).length) c2)),(4,.p 0 0)] _:=bA.places (⟨rfl,rfl,trivial⟩)
 have bC:=bB.recast 7 (.v (.pointer (some ⟨ab,0,none⟩))) (.p 1 0) rfl rfl (Nat.le_of_ble_eq_true (n:=2) rfl)
 have bD:=bC.pick (ks:=[0,1,4,7]) (env':=[(0,.v (.int .i64 v)),(1,.v (.slice A2 ((qai (IntKind.i16.wrap v) T).length) c2)),(4,.p 0 0),(7,.p 1 0)]) kz
 refine qal [1] [] [(0,.v (.int .i64 v)),(1,.v (.slice A2 ((qai (IntKind.i16.wrap v) T).length) c2)),(4,.p 0 0),(6,.p 1 0)] ac bD fun dp bE=>?_
 refine qah (qac ?_)
 refine qag [0,1,2,3] kz ?_
 refine qal [0,1,2] [3] [(1,.v (.slice A2 ((qai (IntKind.i16.wrap v) T).length) c2)),(4,.p 0 0),(6,.p 1 0),(8,.p 1 0),(10,.v (.int .i16 (IntKind.i16.wrap v)))] ac bE fun dq bF=>?_
 refine qak (qbB bF (f:=67) (vs:=[.pointer (some ⟨ab,0,none⟩),.int .i16 (IntKind.i16.wrap v)]) (d:=11) (n':=8) kz Tryz.call67 Tryz.func67 rfl Tryz.ntmps67 kz fun dr bG=>?_)
 have bH:=bG.recast 0 (.v (.pointer (some ⟨ab,0,none⟩))) (.p 1 0) rfl rfl (Nat.le_of_ble_eq_true (n:=2) rfl)
 refine qaq [0,1,2,3,4] kz ?_
 refine qal [0,1,2,3] [4] [(5,.v (.int .i16 (IntKind.i16.wrap v))),(7,.p 1 0)] ac bH fun dt bI=>?_
 refine qak (qam ac bI (oi:=1) (cs:=[.int .i16 (IntKind.i16.wrap v),.int .i32 0,.string ByteArray.empty,.int .u8 0,.int .u8 0,.int .u8 0,.int .u8 0,.int .u8 0,.int .u8 0,.int .u8 0,.int .u8 0,.int .u8 0,.int .u8 0,.int .u8 0,.int .u8 0,.int .u8 0,.int .u8 0,.int .u8 0,.int .u8 0,.slice none 0 0,.slice none 0 0,.pointer none,.bool false,.slice none 0 0,.int .i64 (-1),.map none]) kz fun du cI ap bJ=>?_)
 refine qah ?_
 refine qbI bJ ap.cells (v:=.tuple #[]) kz ?_
 refine ⟨_,rfl,fun dv bK=>?_⟩
 have bL:EnvOk 22 [⟨b1,0,[.int .i64 0,.slice none 0 0,.bool false,.slice none 0 0,.slice none 0 0],true⟩,⟨ab,0,[.int .i16 (IntKind.i16.wrap v),.int .i32 0,.string ByteArray.empty,.int .u8 0,.int .u8 0,.int .u8 0,.int .u8 0,.int .u8 0,.int .u8 0,.int .u8 0,.int .u8 0,.int .u8 0,.int .u8 0,.int .u8 0,.int .u8 0,.int .u8 0,.int .u8 0,.int .u8 0,.int .u8 0,.slice none 0 0,.slice none 0 0,.pointer none,.bool false,.slice none 0 0,.int .i64 (-1),.map none],true⟩] [(11,.v (.tuple #[])),(1,.v (.slice A2 ((qai (IntKind.i16.wrap v) T).length) c2)),(4,.p 0 0),(6,.p 1 0),(8,.p 1 0),(10,.v (.int .i16 (IntKind.i16.wrap v)))] _:=bK.places (⟨rfl,rfl,⟨rfl,rfl,trivial⟩⟩)
 refine qah (qac ?_)
 refine wp_seq ?_
 refine qag [0,1,2,3,4] kz ?_
 refine qal [0,1] [2,3,4] [(4,.p 0 0),(6,.p 1 0),(12,.p 1 0),(13,.v (.slice A2 ((qai (IntKind.i16.wrap v) T).length) c2))] ap bL fun dw bM=>?_
 have ai:=ap.addNil 5 1
 have cJ:=ap.frNil 5 1
 refine qak (qaJ ai bM (k:=0) (d:=14) (t:=22) (e:=5) (size:=1) (bytes:=1) (A:=none) (As:=A2) (m0:=0) (c:=0) (m:=((qai (IntKind.i16.wrap v) T).length)) (cs:=c2) (xs:=[]) (news:=bc (qai (IntKind.i16.wrap v) T)) kz kz rfl (hs_.move ai.step nilM ai.imm).src (hs_.move ai.step nilM ai.imm).cap (by first | omega | (simp only [List.length_nil]; omega) | (simp; omega)) fun ag ah dx dy cK bN bO=>?_)
 have bP:(⟨ag,ah,5,1,0 + (qai (IntKind.i16.wrap v) T).length,[] ++ bc (qai (IntKind.i16.wrap v) T)⟩:Rw) = brow ag ah 5 (qai (IntKind.i16.wrap v) T):=by rw [List.nil_append,Nat.zero_add]
 obtain ⟨ar,cL⟩:=bN.rowEq 0 [brow ag ah 5 (qai (IntKind.i16.wrap v) T)] bP
 have bQ:=EnvOk.pick bO (ks:=[4,6,12,13,14]) (env':=[(4,.p 0 0),(6,.p 1 0),(12,.p 1 0),(13,.v (.slice A2 ((qai (IntKind.i16.wrap v) T).length) c2)),(14,.v (.slice ag (0 + (qai (IntKind.i16.wrap v) T).length) ah))]) kz
 have bR:=bQ.cast (env':=[(4,.p 0 0),(6,.p 1 0),(12,.p 1 0),(13,.v (.slice A2 ((qai (IntKind.i16.wrap v) T).length) c2)),(14,.v (.slice ag ((qai (IntKind.i16.wrap v) T).length) ah))]) (by simp only [List.length_append,List.length_cons,List.length_nil,Nat.zero_add])
 refine qak (qbB bR (f:=68) (vs:=[.pointer (some ⟨ab,0,none⟩),.slice ag ((qai (IntKind.i16.wrap v) T).length) ah]) (d:=15) (n':=8) kz Tryz.call68 Tryz.func68 rfl Tryz.ntmps68 kz fun dz bS=>?_)
 have bT:=bS.recast 0 (.v (.pointer (some ⟨ab,0,none⟩))) (.p 1 0) rfl rfl (Nat.le_of_ble_eq_true (n:=2) rfl)
 refine qav [(0,.p 1 0),(1,.v (.slice ag ((qai (IntKind.i16.wrap v) T).length) ah))] ar bT fun dA bU=>?_
 refine qag [0,1,2,3] kz ?_
 refine qal [0,1] [2,3] [(5,.p 1 0),(6,.v (.slice ag ((qai (IntKind.i16.wrap v) T).length) ah))] ar bU fun dB bV=>?_
 have bW:=ar.giveUp (G:=NoF) 0 [] (show _ = some (brow ag ah 5 (qai (IntKind.i16.wrap v) T)) from rfl) (by omega)
 obtain ⟨aL,cM⟩:=ar.cutR 0 []
 refine qak (qan bV (f:=116) (vs:=[.pointer (some ⟨ab,0,none⟩),.slice ag ((qai (IntKind.i16.wrap v) T).length) ah,.bool false]) (d:=7) kz Tryz.call116 (qcX (IntKind.i16.wrap v) T (Str.of aL 1 rfl) bW (qjE 1 rfl) hc hkey) ?_)
 rintro e_ dC ⟨aa,rfl,bX,bY,cN,aM⟩
 obtain ⟨af,cO,bZ⟩:=aL.wrote 1 [⟨b1,0,[.int .i64 0,.slice none 0 0,.bool false,.slice none 0 0,.slice none 0 0],true⟩,⟨ab,0,[.int .i16 (IntKind.i16.wrap v),.int .i32 ((aa.f 0).n),.string ((aa.f 1).s),qaa ((aa.f 2).o.getD 0 0),qaa ((aa.f 2).o.getD 1 0),qaa ((aa.f 2).o.getD 2 0),qaa ((aa.f 2).o.getD 3 0),qaa ((aa.f 2).o.getD 4 0),qaa ((aa.f 2).o.getD 5 0),qaa ((aa.f 2).o.getD 6 0),qaa ((aa.f 2).o.getD 7 0),qaa ((aa.f 2).o.getD 8 0),qaa ((aa.f 2).o.getD 9 0),qaa ((aa.f 2).o.getD 10 0),qaa ((aa.f 2).o.getD 11 0),qaa ((aa.f 2).o.getD 12 0),qaa ((aa.f 2).o.getD 13 0),qaa ((aa.f 2).o.getD 14 0),qaa ((aa.f 2).o.getD 15 0),.slice ((aa.f 3).A) ((aa.f 3).l) ((aa.f 3).c),.slice ((aa.f 4).A) ((aa.f 4).l) ((aa.f 4).c),.pointer ((aa.f 5).A),.bool ((aa.f 6).b),.slice ((aa.f 7).A) ((aa.f 7).l) ((aa.f 7).c),.int .i64 ((aa.f 8).n),.map aa.m],true⟩] rfl aM bX
 have b8:=qb7 _ (Step.refl _ Nil) nilM bZ bY
 refine ⟨_,rfl,fun dD cd=>?_⟩
 have ce:=(EnvOk.places (tb':=[⟨b1,0,[.int .i64 0,.slice none 0 0,.bool false,.slice none 0 0,.slice none 0 0],true⟩,⟨ab,0,[.int .i16 (IntKind.i16.wrap v),.int .i32 ((aa.f 0).n),.string ((aa.f 1).s),qaa ((aa.f 2).o.getD 0 0),qaa ((aa.f 2).o.getD 1 0),qaa ((aa.f 2).o.getD 2 0),qaa ((aa.f 2).o.getD 3 0),qaa ((aa.f 2).o.getD 4 0),qaa ((aa.f 2).o.getD 5 0),qaa ((aa.f 2).o.getD 6 0),qaa ((aa.f 2).o.getD 7 0),qaa ((aa.f 2).o.getD 8 0),qaa ((aa.f 2).o.getD 9 0),qaa ((aa.f 2).o.getD 10 0),qaa ((aa.f 2).o.getD 11 0),qaa ((aa.f 2).o.getD 12 0),qaa ((aa.f 2).o.getD 13 0),qaa ((aa.f 2).o.getD 14 0),qaa ((aa.f 2).o.getD 15 0),.slice ((aa.f 3).A) ((aa.f 3).l) ((aa.f 3).c),.slice ((aa.f 4).A) ((aa.f 4).l) ((aa.f 4).c),.pointer ((aa.f 5).A),.bool ((aa.f 6).b),.slice ((aa.f 7).A) ((aa.f 7).l) ((aa.f 7).c),.int .i64 ((aa.f 8).n),.map aa.m],true⟩]) cd (show Pl [⟨b1,0,[.int .i64 0,.slice none 0 0,.bool false,.slice none 0 0,.slice none 0 0],true⟩,⟨ab,0,[.int .i16 (IntKind.i16.wrap v),.int .i32 0,.string ByteArray.empty,.int .u8 0,.int .u8 0,.int .u8 0,.int .u8 0,.int .u8 0,.int .u8 0,.int .u8 0,.int .u8 0,.int .u8 0,.int .u8 0,.int .u8 0,.int .u8 0,.int .u8 0,.int .u8 0,.int .u8 0,.int .u8 0,.slice none 0 0,.slice none 0 0,.pointer none,.bool false,.slice none 0 0,.int .i64 (-1),.map none],true⟩] [⟨b1,0,[.int .i64 0,.slice none 0 0,.bool false,.slice none 0 0,.slice none 0 0],true⟩,⟨ab,0,[.int .i16 (IntKind.i16.wrap v),.int .i32 ((aa.f 0).n),.string ((aa.f 1).s),qaa ((aa.f 2).o.getD 0 0),qaa ((aa.f 2).o.getD 1 0),qaa ((aa.f 2).o.getD 2 0),qaa ((aa.f 2).o.getD 3 0),qaa ((aa.f 2).o.getD 4 0),qaa ((aa.f 2).o.getD 5 0),qaa ((aa.f 2).o.getD 6 0),qaa ((aa.f 2).o.getD 7 0),qaa ((aa.f 2).o.getD 8 0),qaa ((aa.f 2).o.getD 9 0),qaa ((aa.f 2).o.getD 10 0),qaa ((aa.f 2).o.getD 11 0),qaa ((aa.f 2).o.getD 12 0),qaa ((aa.f 2).o.getD 13 0),qaa ((aa.f 2).o.getD 14 0),qaa ((aa.f 2).o.getD 15 0),.slice ((aa.f 3).A) ((aa.f 3).l) ((aa.f 3).c),.slice ((aa.f 4).A) ((aa.f 4).l) ((aa.f 4).c),.pointer ((aa.f 5).A),.bool ((aa.f 6).b),.slice ((aa.f 7).A) ((aa.f 7).l) ((aa.f 7).c),.int .i64 ((aa.f 8).n),.map aa.m],true⟩] from ⟨rfl,rfl,⟨rfl,rfl,trivial⟩⟩)).pk (env':=[(7,.v (.nilIface)),(5,.p 1 0),(6,.v (.slice ag ((qai (IntKind.i16.wrap v) T).length) ah))])
 refine qal [3] [] [(4,.v (.nilIface))] af ce fun dE cg=>?_
 refine qah (qac ?_)
 refine wp_ret ?_
 refine qaV cg af.cells (v:=.nilIface) kz ?_
 refine ⟨_,rfl,fun dF aN=>?_⟩
 have aO:EnvOk 22 [⟨b1,0,[.int .i64 0,.slice none 0 0,.bool false,.slice none 0 0,.slice none 0 0],true⟩,⟨ab,0,[.int .i16 (IntKind.i16.wrap v),.int .i32 ((aa.f 0).n),.string ((aa.f 1).s),qaa ((aa.f 2).o.getD 0 0),qaa ((aa.f 2).o.getD 1 0),qaa ((aa.f 2).o.getD 2 0),qaa ((aa.f 2).o.getD 3 0),qaa ((aa.f 2).o.getD 4 0),qaa ((aa.f 2).o.getD 5 0),qaa ((aa.f 2).o.getD 6 0),qaa ((aa.f 2).o.getD 7 0),qaa ((aa.f 2).o.getD 8 0),qaa ((aa.f 2).o.getD 9 0),qaa ((aa.f 2).o.getD 10 0),qaa ((aa.f 2).o.getD 11 0),qaa ((aa.f 2).o.getD 12 0),qaa ((aa.f 2).o.getD 13 0),qaa ((aa.f 2).o.getD 14 0),qaa ((aa.f 2).o.getD 15 0),.slice ((aa.f 3).A) ((aa.f 3).l) ((aa.f 3).c),.slice ((aa.f 4).A) ((aa.f 4).l) ((aa.f 4).c),.pointer ((aa.f 5).A),.bool ((aa.f 6).b),.slice ((aa.f 7).A) ((aa.f 7).l) ((aa.f 7).c),.int .i64 ((aa.f 8).n),.map aa.m],true⟩] [(15,.v (.nilIface)),(4,.p 0 0),(6,.p 1 0),(12,.p 1 0),(13,.v (.slice A2 ((qai (IntKind.i16.wrap v) T).length) c2)),(14,.v (.slice ag ((qai (IntKind.i16.wrap v) T).length) ah))] _:=aN.places (⟨rfl,rfl,⟨rfl,rfl,trivial⟩⟩)
 refine qal [4] [] [(4,.p 0 0),(6,.p 1 0),(16,.v (.bool false))] af aO fun cP au=>?_
 refine qah (qac ?_)
 refine qau au (b:=false) kz rfl ?_
 refine wp_skip ?_
 refine qac ?_
 refine qag [0,1] kz ?_
 refine qal [0] [1] [(4,.p 0 0),(6,.p 1 0),(18,.p 1 0)] af au fun cQ aP=>?_
 refine qak (qbB aP (f:=69) (vs:=[.pointer (some ⟨ab,0,none⟩)]) (d:=19) (n':=5) kz Tryz.call69 Tryz.func69 rfl Tryz.ntmps69 kz fun cR aQ=>?_)
 have aR:=aQ.recast 0 (.v (.pointer (some ⟨ab,0,none⟩))) (.p 1 0) rfl rfl (Nat.le_of_ble_eq_true (n:=2) rfl)
 refine qaq [0,1,2,3] kz ?_
 refine qal [0,1,2] [3] [(4,.p 1 24)] af aR fun cS aS=>?_
 refine qak (qam af aS (oi:=1) (cs:=[.int .i16 (IntKind.i16.wrap v),.int .i32 ((aa.f 0).n),.string ((aa.f 1).s),qaa ((aa.f 2).o.getD 0 0),qaa ((aa.f 2).o.getD 1 0),qaa ((aa.f 2).o.getD 2 0),qaa ((aa.f 2).o.getD 3 0),qaa ((aa.f 2).o.getD 4 0),qaa ((aa.f 2).o.getD 5 0),qaa ((aa.f 2).o.getD 6 0),qaa ((aa.f 2).o.getD 7 0),qaa ((aa.f 2).o.getD 8 0),qaa ((aa.f 2).o.getD 9 0),qaa ((aa.f 2).o.getD 10 0),qaa ((aa.f 2).o.getD 11 0),qaa ((aa.f 2).o.getD 12 0),qaa ((aa.f 2).o.getD 13 0),qaa ((aa.f 2).o.getD 14 0),qaa ((aa.f 2).o.getD 15 0),.slice ((aa.f 3).A) ((aa.f 3).l) ((aa.f 3).c),.slice ((aa.f 4).A) ((aa.f 4).l) ((aa.f 4).c),.pointer ((aa.f 5).A),.bool ((aa.f 6).b),.slice ((aa.f 7).A) ((aa.f 7).l) ((aa.f 7).c),.int .i64 (-1),.map aa.m]) kz fun cT av ae aT=>?_)
 refine qah ?_
 refine qbI aT ae.cells (v:=.tuple #[]) kz ?_
 refine ⟨_,rfl,fun cU aU=>?_⟩
 have aV:EnvOk 22 [⟨b1,0,[.int .i64 0,.slice none 0 0,.bool false,.slice none 0 0,.slice none 0 0],true⟩,⟨ab,0,[.int .i16 (IntKind.i16.wrap v),.int .i32 ((aa.f 0).n),.string ((aa.f 1).s),qaa ((aa.f 2).o.getD 0 0),qaa ((aa.f 2).o.getD 1 0),qaa ((aa.f 2).o.getD 2 0),qaa ((aa.f 2).o.getD 3 0),qaa ((aa.f 2).o.getD 4 0),qaa ((aa.f 2).o.getD 5 0),qaa ((aa.f 2).o.getD 6 0),qaa ((aa.f 2).o.getD 7 0),qaa ((aa.f 2).o.getD 8 0),qaa ((aa.f 2).o.getD 9 0),qaa ((aa.f 2).o.getD 10 0),qaa ((aa.f 2).o.getD 11 0),qaa ((aa.f 2).o.getD 12 0),qaa ((aa.f 2).o.getD 13 0),qaa ((aa.f 2).o.getD 14 0),qaa ((aa.f 2).o.getD 15 0),.slice ((aa.f 3).A) ((aa.f 3).l) ((aa.f 3).c),.slice ((aa.f 4).A) ((aa.f 4).l) ((aa.f 4).c),.pointer ((aa.f 5).A),.bool ((aa.f 6).b),.slice ((aa.f 7).A) ((aa.f 7).l) ((aa.f 7).c),.int .i64 (-1),.map aa.m],true⟩] [(19,.v (.tuple #[])),(4,.p 0 0),(6,.p 1 0),(18,.p 1 0)] _:=aU.places (⟨rfl,rfl,⟨rfl,rfl,trivial⟩⟩)
 refine qah (qac ?_)
 refine qag [0,1,2,3] kz ?_
 refine qal [0] [1,2,3] [(4,.p 0 0),(20,.p 1 0)] ae aV fun cV aW=>?_
 have aX:=aW.recast 20 (.p 1 0) (.v (.pointer (some ⟨ab,0,none⟩))) rfl rfl trivial
 have aY:=aX.pk (env':=[(4,.p 0 0),(20,.v (.pointer (some ⟨ab,0,none⟩)))])
 have ay:=WOk.strOut (G:=NoF) [⟨b1,0,[.int .i64 0,.slice none 0 0,.bool false,.slice none 0 0,.slice none 0 0],true⟩] ae
 obtain ⟨aZ,aj,aw⟩:=ae.cutB aY 1 [⟨b1,0,[.int .i64 0,.slice none 0 0,.bool false,.slice none 0 0,.slice none 0 0],true⟩] [(4,.p 0 0),(20,.v (.pointer (some ⟨ab,0,none⟩)))]
 have ba:=qcI (qb7 _ (av.trans aw).step immM (av.trans aw).to' b8)
 refine qak (qan aZ (f:=70) (vs:=[.pointer (some ⟨ab,0,none⟩)]) (d:=21) kz Tryz.call70 (qcY (IntKind.i16.wrap v) (qa6 aa) ab 0 _ _ ay ba) ?_)
 rintro e_ cW ⟨cz,rfl,bd,ak⟩
 have al:=bd.move (Step.refl _ Nil) nilM (aj.laid (G:=NoF) ak)
 obtain ⟨az,aA,aB,aC,aD,aE,aF,aG,aH,aI,aJ,cA,cB,am,cm,cq,cX,cY⟩:=al.open_
 rw [am] at al
 have cr:=cm.small
 have cu:=cq.small
 rw [am]
 refine ⟨_,rfl,fun cZ bf=>?_⟩
 have bg:=aj.next_nil ak
 have cC:=aj.frN ak
 refine qak (qam bg bf (oi:=0) (cs:=[.int .i64 az,.slice aE aA.length aF,.bool aB,.slice aG aC.length aH,.slice aI aD.length aJ]) kz fun cw ax ao bh=>?_)
 refine qal [3] [] [(4,.p 0 0),(5,.v (.bool true))] ao bh fun c5 bi=>?_
 refine qah (qac ?_)
 refine wp_ret ?_
 refine qaV bi ao.cells (v:=.tuple #[.agg #[.int .i64 az,.slice aE aA.length aF,.bool aB,.slice aG aC.length aH,.slice aI aD.length aJ],.bool true]) kz ?_
 exact ⟨aa,_,rfl,(show TreeR _ (Imm NoF w cw [⟨b1,0,[.int .i64 az,.slice aE aA.length aF,.bool aB,.slice aG aC.length aH,.slice aI aD.length aJ],true⟩] []) _ (qba (qa6 aa)) from (al.move ax.step immM ax.to')).move (Step.refl _ Nil) nilM qbw,ao.step⟩
theorem qcK (v:Int) (T:Tree) (B:Bs) {A2:Option Addr} {c2:Nat} {w:World} {F:Nat → Nat → Prop} (hB:qai (IntKind.i16.wrap v) T = B) (hs_:Octs w F A2 c2 B) (hc:qa4 T) (hkey:T.ranged) (hroom:B.length + 16 ≤ 1099511627776) :
  Calls Tryz.prog 26 #[.int .i64 v,.slice A2 B.length c2] w (fun e w'=>∃ D cs,e = .returned (.tuple #[.agg cs.toArray,.bool true]) ∧ TreeR w' (Fp NoF w) cs (qba (qa6 D)) ∧ Step w w' Nil):=by
 subst hB
 exact qcZ v T hs_ hc hkey hroom
end Go.Proofs.YtcbpjflgkefidaaGreatDoor.ME