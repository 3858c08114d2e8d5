/- The texts of a claim, put together: the engine, the contracts, the law. Own work. -/
import Derived.Test.YtdlaobdadlmcdaaGreatDoorWt2P4
namespace Go.Proofs.YtdlaobdadlmcdaaGreatDoor.ME
open Go
open Go.RowKit
set_option linter.unusedVariables false
set_option linter.unusedSimpArgs false
set_option maxRecDepth 20000
def qa4 (D:DV):Tree:=.mk 0 [] false [.mk (IntKind.i64.wrap (D.f 0).n) [] false [] [],.mk (IntKind.i64.wrap (D.f 1).n) [] false [] []] D.u
def qaP (D:DV):Tree:=.mk 0 [] false [.mk (IntKind.i64.wrap (D.f 0).n) [] false [] [],.mk (IntKind.i64.wrap (D.f 1).n) [] false [] [],qgd (D.f 2).A (D.f 2).s,qa4 (D.f 3)] D.u
def qa3 (D:DV):Tree:=.mk 0 [] false [.mk 0 (D.f 0).o false [] [],.mk 0 [] (D.f 1).A.isNone ((List.range (D.f 1).l).map fun i=>qaP ((D.f 1).f i)) []] D.u
def qaU (D:DV):Tree:=.mk 0 [] false [.mk (IntKind.i64.wrap (D.f 0).n) [] false [] [],.mk 0 (sb (D.f 1).s) false [] [],.mk (IntKind.i64.wrap (D.f 2).n) [] false [] [],qgd (D.f 3).A (D.f 3).s] D.u
def qbk (D:DV):Tree:=.mk 0 [] false [.mk (IntKind.i64.wrap (D.f 0).n) [] false [] [],.mk (IntKind.i64.wrap (D.f 1).n) [] false [] [],qgd (D.f 2).A (D.f 2).s,.mk (IntKind.i64.wrap (D.f 3).n) [] false [] [],.mk 0 [] (D.f 4).A.isNone ((List.range (D.f 4).l).map fun i=>qa3 ((D.f 4).f i)) [],.mk 0 [] (D.f 5).A.isNone ((List.range (D.f 5).l).map fun i=>qaU ((D.f 5).f i)) []] D.u
abbrev z30 (x0:DV):=([.int .i64 (IntKind.i64.wrap ((x0.f 0).n)),.slice none 0 0,.bool false,.slice none 0 0,.slice none 0 0,.int .i64 (IntKind.i64.wrap ((x0.f 1).n)),.slice none 0 0,.bool false,.slice none 0 0,.slice none 0 0]:List Value)
abbrev z44 (x0):=([.int .i64 0,.slice none 0 0,.bool false,.slice (some ⟨x0,0,none⟩) 2 2,.slice none 0 0]:List Value)
abbrev z53 (x0) (x1) (x2:DV) (x3):=([.int .i64 0,.slice none 0 0,.bool false,.slice (some ⟨x0,0,none⟩) 2 2,.slice x1 x2.u.length x3]:List Value)
abbrev z70 :=([.int .i64 0,.slice none 0 0,.bool false,.slice none 0 0,.slice none 0 0,.int .i64 0,.slice none 0 0,.bool false,.slice none 0 0,.slice none 0 0]:List Value)
abbrev z75 (x0:DV):=([.int .i32 ((x0.f 0).n),.int .i32 ((x0.f 1).n),.map x0.m]:List Value)
set_option maxHeartbeats 4000000 in
theorem qb0 (v:Int) (D:DV) (b o:Nat) (w:World) (F:Nat → Nat → Prop) (hat:AtF w F b o [.int .i32 ((D.f 0).n),.int .i32 ((D.f 1).n),.map D.m]) (hok:qaL w F D):Calls Tryz.prog 143 #[.pointer (some ⟨b,o,none⟩)] w (qdX w F (qa4 D)):=by
 refine enter (n:=33) Tryz.func143 rfl Tryz.ntmps143 kz fun a hE=>?_
 have hW:WOk w Nil w [⟨b,o,(z75 D),false⟩] []:=(WOk.start w Nil).start1 hat rfl rfl
 unfold qaL at hok
 obtain ⟨g1,g2,g3,g3l,g3x,_⟩:=hok
 have hE0:=(EnvOk.ptr0 (cs:=(z75 D)) (r:=false) hE).pk (env':=[(0,.p 0 0)])
 refine qaf [0] kz ?_
 refine qan (qaM hW hE0 (d:=2) (cs:=z0) kz fun b4 a5 w6 hb7 hz8 hF9 av aw=>?_)
 refine qag (qab ?_)
 refine qaf [0,1,2,3] kz ?_
 refine qan (qdK (t:=34) (e:=37) (size:=5) (bytes:=88) (d:=4) (j:=2) (.agg #[.int .i64 0,.slice none 0 0,.bool false,.slice none 0 0,.slice none 0 0]) z70 av aw fun aa bx bz bf bg bh ah ax=>?_)
 refine qak [1] [2,3] [(0,.p 0 0),(2,.p 1 0),(5,.v (.agg #[.int .i64 0,.slice none 0 0,.bool false,.slice (some ⟨aa,0,none⟩) 2 2,.slice none 0 0]))] ah ax fun bA ay=>?_
 refine qan (qaM ah ay (d:=3) (cs:=z0) kz fun af bB bC bi bj bk az aA=>?_)
 refine qan (qao az aA (oi:=3) (cs:=(z44 aa)) kz fun bD bn aB aC=>?_)
 refine qag (qab ?_)
 refine qaE 9 kz aB fun bE bo aD ai=>?_
 refine qaF [0,1,2,3,4,5,6,7] [(0,.p 0 0),(2,.p 1 0),(3,.p 3 0),(7,.v (.slice (some ⟨aa,0,none⟩) 2 2)),(13,.v (.agg #[.int .i64 (IntKind.i64.wrap ((D.f 0).n)),.slice none 0 0,.bool false,.slice none 0 0,.slice none 0 0]))] 2 (qaa qae) (fun _ h=>h.cells) ai aC fun bF aE=>?_
 refine qaH aE (i:=8) (t:=34) (A:=(some ⟨aa,0,none⟩)) (m:=2) (q:=0) (d:=14) kz (e:=37) (size:=5) (bytes:=88) (j:=0) kz (b:=aa) (o:=0) rfl rfl (by decide) kz kz (qaa qae) ai fun bG aF=>?_
 have aG:=aF.recast 14 (.v (.pointer (some ⟨aa,0 + 0 * 5,none⟩))) (.p 2 0) rfl rfl (zN (n:=3) rfl)
 have aH:=aG.pk (env':=[(0,.p 0 0),(2,.p 1 0),(3,.p 3 0),(7,.v (.slice (some ⟨aa,0,none⟩) 2 2)),(13,.v (.agg #[.int .i64 (IntKind.i64.wrap ((D.f 0).n)),.slice none 0 0,.bool false,.slice none 0 0,.slice none 0 0])),(14,.p 2 0)])
 refine qap (i:=9) kz (qao aD aH (oi:=2) (cs:=[.int .i64 (IntKind.i64.wrap ((D.f 0).n)),.slice none 0 0,.bool false,.slice none 0 0,.slice none 0 0,.int .i64 0,.slice none 0 0,.bool false,.slice none 0 0,.slice none 0 0]) kz fun bH bp aI aJ=>?_)
 refine ⟨fun h=>absurd rfl h,?_⟩
 refine qaC kz ?_ _
 refine qab (qaE 9 kz aI fun bI bq aK aj=>?_)
 refine qaF [0,1,2,3,4,5,6,7] [(0,.p 0 0),(2,.p 1 0),(3,.p 3 0),(16,.v (.slice (some ⟨aa,0,none⟩) 2 2)),(22,.v (.agg #[.int .i64 (IntKind.i64.wrap ((D.f 1).n)),.slice none 0 0,.bool false,.slice none 0 0,.slice none 0 0]))] 2 (qaa qae) (fun _ h=>h.cells) aj aJ fun bJ aL=>?_
 refine qaH aL (i:=8) (t:=34) (A:=(some ⟨aa,0,none⟩)) (m:=2) (q:=1) (d:=23) kz (e:=37) (size:=5) (bytes:=88) (j:=1) kz (b:=aa) (o:=0) rfl rfl (by decide) kz kz (qaa qae) aj fun bK aM=>?_
 have aN:=aM.recast 23 (.v (.pointer (some ⟨aa,0 + 1 * 5,none⟩))) (.p 2 5) rfl rfl (zN (n:=3) rfl)
 have aO:=aN.pk (env':=[(0,.p 0 0),(2,.p 1 0),(3,.p 3 0),(16,.v (.slice (some ⟨aa,0,none⟩) 2 2)),(22,.v (.agg #[.int .i64 (IntKind.i64.wrap ((D.f 1).n)),.slice none 0 0,.bool false,.slice none 0 0,.slice none 0 0])),(23,.p 2 5)])
 refine qap (i:=9) kz (qao aK aO (oi:=2) (cs:=(z30 D)) kz fun bt bu ab aP=>?_)
 refine ⟨fun h=>absurd rfl h,?_⟩
 refine qaC kz ?_ _
 refine qab (qaf [0,1,2,3,4] kz ?_)
 refine qak [0,1,2] [3,4] [(2,.p 1 0),(3,.p 3 0),(26,.p 0 2)] ab aP fun bL aQ=>?_
 refine qan (qen aQ (v:=.func (.func 167) #[] #[.pointer (some ⟨af,0,none⟩)]) (d:=27) kz fun bM aR=>?_)
 refine qan (qal aR (f:=59) (vs:=[.pointer (some ⟨b,o + 2,none⟩),.func (.func 167) #[] #[.pointer (some ⟨af,0,none⟩)]]) (d:=28) kz Tryz.call59 (qec (F:=(Imm F w bt [⟨b,o,(z75 D),false⟩,⟨b4,0,z0,true⟩,⟨aa,0,(z30 D),true⟩,⟨af,0,(z44 aa),true⟩] [])) Tryz.call167 qbX ((hat.one 2 rfl).move ab.step nilM ab.imm) (g3.move ab.step nilM ab.imm) (Str.of ab 3 rfl) (qiZ 3 rfl) g3l) ?_)
 rintro e_ bN ⟨rfl,ac,ae,ak,aS,aT⟩
 obtain ⟨ag,bw,aU⟩:=ab.wrote 3 [⟨b,o,(z75 D),false⟩,⟨b4,0,z0,true⟩,⟨aa,0,(z30 D),true⟩,⟨af,0,(z53 aa ac D ae),true⟩] rfl aT ak
 have al:=aS.move (Step.refl _ Nil) nilM (fun b_ o_ h_ hb_=>aU (G:=F) b_ o_ (.inr h_) hb_)
 refine ⟨_,rfl,fun bO aV=>?_⟩
 have aW:=(EnvOk.places (tb':=[⟨b,o,[.int .i32 ((D.f 0).n),.int .i32 ((D.f 1).n),.map D.m],false⟩,⟨b4,0,[.int .i64 0,.slice none 0 0,.bool false,.slice none 0 0,.slice none 0 0],true⟩,⟨aa,0,[.int .i64 (IntKind.i64.wrap ((D.f 0).n)),.slice none 0 0,.bool false,.slice none 0 0,.slice none 0 0,.int .i64 (IntKind.i64.wrap ((D.f 1).n)),.slice none 0 0,.bool false,.slice none 0 0,.slice none 0 0],true⟩,⟨af,0,[.int .i64 0,.slice none 0 0,.bool false,.slice (some ⟨aa,0,none⟩) 2 2,.slice ac D.u.length ae],true⟩]) aV (show Pl [⟨b,o,[.int .i32 ((D.f 0).n),.int .i32 ((D.f 1).n),.map D.m],false⟩,⟨b4,0,[.int .i64 0,.slice none 0 0,.bool false,.slice none 0 0,.slice none 0 0],true⟩,⟨aa,0,[.int .i64 (IntKind.i64.wrap ((D.f 0).n)),.slice none 0 0,.bool false,.slice none 0 0,.slice none 0 0,.int .i64 (IntKind.i64.wrap ((D.f 1).n)),.slice none 0 0,.bool false,.slice none 0 0,.slice none 0 0],true⟩,⟨af,0,[.int .i64 0,.slice none 0 0,.bool false,.slice (some ⟨aa,0,none⟩) 2 2,.slice none 0 0],true⟩] [⟨b,o,[.int .i32 ((D.f 0).n),.int .i32 ((D.f 1).n),.map D.m],false⟩,⟨b4,0,[.int .i64 0,.slice none 0 0,.bool false,.slice none 0 0,.slice none 0 0],true⟩,⟨aa,0,[.int .i64 (IntKind.i64.wrap ((D.f 0).n)),.slice none 0 0,.bool false,.slice none 0 0,.slice none 0 0,.int .i64 (IntKind.i64.wrap ((D.f 1).n)),.slice none 0 0,.bool false,.slice none 0 0,.slice none 0 0],true⟩,⟨af,0,[.int .i64 0,.slice none 0 0,.bool false,.slice (some ⟨aa,0,none⟩) 2 2,.slice ac D.u.length ae],true⟩] from ⟨rfl,rfl,⟨rfl,rfl,⟨rfl,rfl,⟨rfl,rfl,trivial⟩⟩⟩⟩)).pk (env':=[(28,.v (.tuple #[])),(2,.p 1 0),(3,.p 3 0),(26,.p 0 2),(27,.v (.func (.func 167) #[] #[.pointer (some ⟨af,0,none⟩)]))])
 refine qag (qab ?_)
 refine qaf [0,1,2] kz ?_
 refine qak [0,1] [2] [(2,.p 1 0),(3,.p 3 0),(30,.v (.slice ac D.u.length ae))] ag aW fun bP aX=>?_
 refine qan (qal aX (f:=61) (vs:=[.slice ac D.u.length ae]) (d:=31) kz Tryz.call61 (qf6 al g3.sorted) ?_)
 rintro e_ bQ ⟨rfl,am⟩
 refine ⟨_,rfl,fun bR aY=>?_⟩
 have ao:=ag.next_nil am
 have ap:=ag.frN am
 refine qag (qab ?_)
 refine qaf [0,1] kz ?_
 refine qak [0] [1] [(2,.p 1 0),(32,.v (.agg #[.int .i64 0,.slice none 0 0,.bool false,.slice (some ⟨aa,0,none⟩) 2 2,.slice ac D.u.length ae]))] ao aY fun bS aZ=>?_
 refine qan (qao ao aZ (oi:=1) (cs:=(z53 aa ac D ae)) kz fun ba ar au bd=>?_)
 refine qag (qab ?_)
 refine wp_ret (qaK bd au.cells (v:=.agg #[.int .i64 0,.slice none 0 0,.bool false,.slice (some ⟨aa,0,none⟩) 2 2,.slice ac D.u.length ae]) kz ?_)
 exact qe5 (u:=D.u) (l:=[.mk (IntKind.i64.wrap (D.f 0).n) [] false [] [],.mk (IntKind.i64.wrap (D.f 1).n) [] false [] []]) (css:=[[.int .i64 (IntKind.i64.wrap ((D.f 0).n)),.slice none 0 0,.bool false,.slice none 0 0,.slice none 0 0],[.int .i64 (IntKind.i64.wrap ((D.f 1).n)),.slice none 0 0,.bool false,.slice none 0 0,.slice none 0 0]]) au 2 rfl ⟨(show TreeR _ (Imm F w ba [⟨b,o,[.int .i32 ((D.f 0).n),.int .i32 ((D.f 1).n),.map D.m],false⟩,⟨b4,0,[.int .i64 0,.slice none 0 0,.bool false,.slice (some ⟨aa,0,none⟩) 2 2,.slice ac D.u.length ae],true⟩,⟨aa,0,[.int .i64 (IntKind.i64.wrap ((D.f 0).n)),.slice none 0 0,.bool false,.slice none 0 0,.slice none 0 0,.int .i64 (IntKind.i64.wrap ((D.f 1).n)),.slice none 0 0,.bool false,.slice none 0 0,.slice none 0 0],true⟩,⟨af,0,[.int .i64 0,.slice none 0 0,.bool false,.slice (some ⟨aa,0,none⟩) 2 2,.slice ac D.u.length ae],true⟩] []) _ _ from (TreeR.mk (n:=IntKind.i64.wrap ((D.f 0).n)) (b:=false) (s:=[]) (l:=[]) (u:=[]) (fun _=>[]) (Octs.nil _ _) (Slots.nil _ _ _ _) (fun i_ x_ h_=>by simp at h_) (TagsR.nil _ _))).move (Step.refl _ Nil) nilM qbP,(show TreeR _ (Imm F w ba [⟨b,o,[.int .i32 ((D.f 0).n),.int .i32 ((D.f 1).n),.map D.m],false⟩,⟨b4,0,[.int .i64 0,.slice none 0 0,.bool false,.slice (some ⟨aa,0,none⟩) 2 2,.slice ac D.u.length ae],true⟩,⟨aa,0,[.int .i64 (IntKind.i64.wrap ((D.f 0).n)),.slice none 0 0,.bool false,.slice none 0 0,.slice none 0 0,.int .i64 (IntKind.i64.wrap ((D.f 1).n)),.slice none 0 0,.bool false,.slice none 0 0,.slice none 0 0],true⟩,⟨af,0,[.int .i64 0,.slice none 0 0,.bool false,.slice (some ⟨aa,0,none⟩) 2 2,.slice ac D.u.length ae],true⟩] []) _ _ from (TreeR.mk (n:=IntKind.i64.wrap ((D.f 1).n)) (b:=false) (s:=[]) (l:=[]) (u:=[]) (fun _=>[]) (Octs.nil _ _) (Slots.nil _ _ _ _) (fun i_ x_ h_=>by simp at h_) (TagsR.nil _ _))).move (Step.refl _ Nil) nilM qbP,trivial⟩ ((show TagsR _ (Imm F w ba [⟨b,o,[.int .i32 ((D.f 0).n),.int .i32 ((D.f 1).n),.map D.m],false⟩,⟨b4,0,[.int .i64 0,.slice none 0 0,.bool false,.slice (some ⟨aa,0,none⟩) 2 2,.slice ac D.u.length ae],true⟩,⟨aa,0,[.int .i64 (IntKind.i64.wrap ((D.f 0).n)),.slice none 0 0,.bool false,.slice none 0 0,.slice none 0 0,.int .i64 (IntKind.i64.wrap ((D.f 1).n)),.slice none 0 0,.bool false,.slice none 0 0,.slice none 0 0],true⟩,⟨af,0,[.int .i64 0,.slice none 0 0,.bool false,.slice (some ⟨aa,0,none⟩) 2 2,.slice ac D.u.length ae],true⟩] []) _ _ _ from (al.move (ap.trans ar).step immM (ap.trans ar).to')).move (Step.refl _ Nil) nilM qbP)
abbrev z14 (x0:DV):=([.int .i32 ((x0.f 0).n),.int .i16 ((x0.f 1).n),.pointer ((x0.f 2).A),.int .i32 (((x0.f 3).f 0).n),.int .i32 (((x0.f 3).f 1).n),.map ((x0.f 3).m),.map x0.m]:List Value)
abbrev z23 (x0):=([.int .i64 0,.slice none 0 0,.bool false,.slice (some ⟨x0,0,none⟩) 4 4,.slice none 0 0]:List Value)
abbrev z39 (x0:DV):=([.int .i64 (IntKind.i64.wrap ((x0.f 0).n)),.slice none 0 0,.bool false,.slice none 0 0,.slice none 0 0,.int .i64 0,.slice none 0 0,.bool false,.slice none 0 0,.slice none 0 0,.int .i64 0,.slice none 0 0,.bool false,.slice none 0 0,.slice none 0 0,.int .i64 0,.slice none 0 0,.bool false,.slice none 0 0,.slice none 0 0]:List Value)
abbrev z33 (x0:DV):=([.int .i64 (IntKind.i64.wrap ((x0.f 0).n)),.slice none 0 0,.bool false,.slice none 0 0,.slice none 0 0,.int .i64 (IntKind.i64.wrap ((x0.f 1).n)),.slice none 0 0,.bool false,.slice none 0 0,.slice none 0 0,.int .i64 0,.slice none 0 0,.bool false,.slice none 0 0,.slice none 0 0,.int .i64 0,.slice none 0 0,.bool false,.slice none 0 0,.slice none 0 0]:List Value)
abbrev z37 (x0:DV) (x1) (x2) (x3) (x4) (x5) (x6) (x7) (x8) (x9) (x10) (x11) (x12) (x13) (x14) (x15) (x16) (x17) (x18) (x19) (x20) (x21) (x22):=([.int .i64 (IntKind.i64.wrap ((x0.f 0).n)),.slice none 0 0,.bool false,.slice none 0 0,.slice none 0 0,.int .i64 (IntKind.i64.wrap ((x0.f 1).n)),.slice none 0 0,.bool false,.slice none 0 0,.slice none 0 0,.int .i64 x1,.slice x2 x3 x4,.bool x5,.slice x6 x7 x8,.slice x9 x10 x11,.int .i64 x12,.slice x13 x14 x15,.bool x16,.slice x17 x18 x19,.slice x20 x21 x22]:List Value)
abbrev z41 :=([.int .i64 0,.slice none 0 0,.bool false,.slice none 0 0,.slice none 0 0,.int .i64 0,.slice none 0 0,.bool false,.slice none 0 0,.slice none 0 0,.int .i64 0,.slice none 0 0,.bool false,.slice none 0 0,.slice none 0 0,.int .i64 0,.slice none 0 0,.bool false,.slice none 0 0,.slice none 0 0]:List Value)
abbrev z54 (x0) (x1) (x2:DV) (x3):=([.int .i64 0,.slice none 0 0,.bool false,.slice (some ⟨x0,0,none⟩) 4 4,.slice x1 x2.u.length x3]:List Value)
abbrev z57 (x0:DV) (x1) (x2) (x3) (x4) (x5) (x6) (x7) (x8) (x9) (x10) (x11):=([.int .i64 (IntKind.i64.wrap ((x0.f 0).n)),.slice none 0 0,.bool false,.slice none 0 0,.slice none 0 0,.int .i64 (IntKind.i64.wrap ((x0.f 1).n)),.slice none 0 0,.bool false,.slice none 0 0,.slice none 0 0,.int .i64 x1,.slice x2 x3 x4,.bool x5,.slice x6 x7 x8,.slice x9 x10 x11,.int .i64 0,.slice none 0 0,.bool false,.slice none 0 0,.slice none 0 0]:List Value)
abbrev z78 (x0):=([(0,.p 0 0),(2,.p 1 0),(5,.v (.agg #[.int .i64 0,.slice none 0 0,.bool false,.slice (some ⟨x0,0,none⟩) 4 4,.slice none 0 0]))]:Env)
set_option maxHeartbeats 4000000 in
theorem qbx (v:Int) (D:DV) (b o:Nat) (w:World) (F:Nat → Nat → Prop) (hat:AtF w F b o [.int .i32 ((D.f 0).n),.int .i16 ((D.f 1).n),.pointer ((D.f 2).A),.int .i32 (((D.f 3).f 0).n),.int .i32 (((D.f 3).f 1).n),.map ((D.f 3).m),.map D.m]) (hok:qaO w F D):Calls Tryz.prog 118 #[.pointer (some ⟨b,o,none⟩)] w (qdX w F (qaP D)):=by
 refine enter (n:=48) Tryz.func118 rfl Tryz.ntmps118 kz fun a hE=>?_
 have hW:WOk w Nil w [⟨b,o,(z14 D),false⟩] []:=(WOk.start w Nil).start1 hat rfl rfl
 unfold qaO at hok
 obtain ⟨g1,g2,⟨g3,g3l⟩,g4,g5,g5l,g5x,_⟩:=hok
 have g4k:=g4
 unfold qaL at g4
 obtain ⟨g6,g7,g8,g8l,g8x,_⟩:=g4
 have hE0:=(EnvOk.ptr0 (cs:=(z14 D)) (r:=false) hE).pk (env':=[(0,.p 0 0)])
 refine qaf [0] kz ?_
 refine qan (qaM hW hE0 (d:=2) (cs:=z0) kz fun b9 dK dL cV cW cX bR bS=>?_)
 refine qag (qab ?_)
 refine qaf [0,1,2,3] kz ?_
 refine qan (qdK (t:=34) (e:=37) (size:=5) (bytes:=88) (d:=4) (j:=4) (.agg #[.int .i64 0,.slice none 0 0,.bool false,.slice none 0 0,.slice none 0 0]) z41 bR bS fun aa dM dN cY cZ c5 bj bT=>?_)
 refine qak [1] [2,3] (z78 aa) bj bT fun dO bU=>?_
 refine qan (qaM bj bU (d:=3) (cs:=z0) kz fun ax dP dQ c6 da db bV bW=>?_)
 refine qan (qao bV bW (oi:=3) (cs:=(z23 aa)) kz fun dR dc bX bY=>?_)
 refine qag (qab ?_)
 refine qaE 9 kz bX fun dS de bZ bk=>?_
 refine qaF [0,1,2,3,4,5,6,7] [(0,.p 0 0),(2,.p 1 0),(3,.p 3 0),(7,.v (.slice (some ⟨aa,0,none⟩) 4 4)),(13,.v (.agg #[.int .i64 (IntKind.i64.wrap ((D.f 0).n)),.slice none 0 0,.bool false,.slice none 0 0,.slice none 0 0]))] 2 (qaa qae) (fun _ h=>h.cells) bk bY fun dT cd=>?_
 refine qaH cd (i:=8) (t:=34) (A:=(some ⟨aa,0,none⟩)) (m:=4) (q:=0) (d:=14) kz (e:=37) (size:=5) (bytes:=88) (j:=0) kz (b:=aa) (o:=0) rfl rfl (by decide) kz kz (qaa qae) bk fun dU ce=>?_
 have cm:=ce.recast 14 (.v (.pointer (some ⟨aa,0 + 0 * 5,none⟩))) (.p 2 0) rfl rfl (zN (n:=3) rfl)
 have cq:=cm.pk (env':=[(0,.p 0 0),(2,.p 1 0),(3,.p 3 0),(7,.v (.slice (some ⟨aa,0,none⟩) 4 4)),(13,.v (.agg #[.int .i64 (IntKind.i64.wrap ((D.f 0).n)),.slice none 0 0,.bool false,.slice none 0 0,.slice none 0 0])),(14,.p 2 0)])
 refine qap (i:=9) kz (qao bZ cq (oi:=2) (cs:=(z39 D)) kz fun dV df cr cu=>?_)
 refine ⟨fun h=>absurd rfl h,?_⟩
 refine qaC kz ?_ _
 refine qab (qaE 9 kz cr fun dW dg cw bn=>?_)
 refine qaF [0,1,2,3,4,5,6,7] [(0,.p 0 0),(2,.p 1 0),(3,.p 3 0),(16,.v (.slice (some ⟨aa,0,none⟩) 4 4)),(22,.v (.agg #[.int .i64 (IntKind.i64.wrap ((D.f 1).n)),.slice none 0 0,.bool false,.slice none 0 0,.slice none 0 0]))] 2 (qaa qae) (fun _ h=>h.cells) bn cu fun dX cz=>?_
 refine qaH cz (i:=8) (t:=34) (A:=(some ⟨aa,0,none⟩)) (m:=4) (q:=1) (d:=23) kz (e:=37) (size:=5) (bytes:=88) (j:=1) kz (b:=aa) (o:=0) rfl rfl (by decide) kz kz (qaa qae) bn fun dY cA=>?_
 have cB:=cA.recast 23 (.v (.pointer (some ⟨aa,0 + 1 * 5,none⟩))) (.p 2 5) rfl rfl (zN (n:=3) rfl)
 have cC:=cB.pk (env':=[(0,.p 0 0),(2,.p 1 0),(3,.p 3 0),(16,.v (.slice (some ⟨aa,0,none⟩) 4 4)),(22,.v (.agg #[.int .i64 (IntKind.i64.wrap ((D.f 1).n)),.slice none 0 0,.bool false,.slice none 0 0,.slice none 0 0])),(23,.p 2 5)])
 refine qap (i:=9) kz (qao cw cC (oi:=2) (cs:=(z33 D)) kz fun dZ dh cD cE=>?_)
 refine ⟨fun h=>absurd rfl h,?_⟩
 refine qaC kz ?_ _
 refine qab (qaE 8 kz cD fun di dj aL cG=>?_)
 refine qaF [0,1,2,3,4,5] [(0,.p 0 0),(2,.p 1 0),(3,.p 3 0),(25,.v (.slice (some ⟨aa,0,none⟩) 4 4)),(29,.v (.pointer ((D.f 2).A)))] 3 (qaa qae) (fun _ h=>h.cells) cG cE fun d5 cH=>?_
 refine qap (i:=6) kz (qal cH (f:=73) (vs:=[.pointer ((D.f 2).A)]) (d:=30) kz Tryz.call73 (qlI _ (D.f 2).s _ (Imm F w di [⟨b,o,(z14 D),false⟩,⟨b9,0,z0,true⟩,⟨aa,0,(z33 D),true⟩,⟨ax,0,(z23 aa),true⟩] []) (fun ad h_=>by obtain ⟨b',o',g1,g2⟩:=g3 ad h_; exact ⟨b',o',g1,g2.move aL.step nilM aL.imm⟩) g3l) ?_)
 rintro e_ d6 ⟨dl,rfl,cI,bg⟩
 have bh:=cI.move (Step.refl _ Nil) nilM (aL.laid (G:=F) bg)
 obtain ⟨ay,az,aA,aB,aC,aD,aE,aF,aG,aH,aI,dp,dq,aS,dr,dt,d7,d8⟩:=bh.open_
 rw [aS] at bh
 have cQ:=dr.small
 have cR:=dt.small
 rw [aS]
 refine ⟨_,rfl,fun d9 cJ=>?_⟩
 have aT:=aL.next_nil bg
 have bo:=aL.frN bg
 have aU:=TT.ofW bo aT
 refine ⟨fun _=>aU,?_⟩
 refine qaH cJ (i:=7) (t:=34) (A:=(some ⟨aa,0,none⟩)) (m:=4) (q:=2) (d:=31) kz (e:=37) (size:=5) (bytes:=88) (j:=2) kz (b:=aa) (o:=0) rfl rfl (by decide) kz kz (qaa qae) aU fun du bp=>?_
 have bq:=bp.recast 31 (.v (.pointer (some ⟨aa,0 + 2 * 5,none⟩))) (.p 2 10) rfl rfl (zN (n:=3) rfl)
 have bt:=bq.pk (env':=[(0,.p 0 0),(2,.p 1 0),(3,.p 3 0),(25,.v (.slice (some ⟨aa,0,none⟩) 4 4)),(29,.v (.pointer ((D.f 2).A))),(30,.v (.agg #[.int .i64 ay,.slice aD az.length aE,.bool aA,.slice aF aB.length aG,.slice aH aC.length aI])),(31,.p 2 10)])
 refine qap (i:=8) kz (qao aT bt (oi:=2) (cs:=(z57 D ay aD az.length aE aA aF aB.length aG aH aC.length aI)) kz fun dv aV bu bw=>?_)
 refine ⟨fun h=>absurd rfl h,?_⟩
 refine qaC kz ?_ _
 refine qab (qaE 7 kz bu fun cK aW ar bx=>?_)
 refine qaF [0,1,2,3,4] [(0,.p 0 0),(2,.p 1 0),(3,.p 3 0),(33,.v (.slice (some ⟨aa,0,none⟩) 4 4)),(36,.p 0 3)] 3 (qaa qae) (fun _ h=>h.cells) bx bw fun dw bz=>?_
 refine qap (i:=5) kz (qal bz (f:=143) (vs:=[.pointer (some ⟨b,o + 3,none⟩)]) (d:=37) kz Tryz.call143 (qb0 0 (D.f 3) b (o + 3) _ (Imm F w cK [⟨b,o,(z14 D),false⟩,⟨b9,0,z0,true⟩,⟨aa,0,(z57 D ay aD az.length aE aA aF aB.length aG aH aC.length aI),true⟩,⟨ax,0,(z23 aa),true⟩] []) ((AtF.part 3 3 hat rfl).move ar.step nilM ar.imm) (qbv _ ar.step nilM ar.imm g4k)) ?_)
 rintro e_ dx ⟨cS,rfl,bA,aM⟩
 have aN:=bA.move (Step.refl _ Nil) nilM (ar.laid (G:=F) aM)
 obtain ⟨ae,af,ag,ah,ai,aj,ak,al,am,ao,ap,cT,cU,aO,cL,cM,dy,dz⟩:=aN.open_
 rw [aO] at aN
 have cN:=cL.small
 have cO:=cM.small
 rw [aO]
 refine ⟨_,rfl,fun dA bB=>?_⟩
 have aX:=ar.next_nil aM
 have aP:=ar.frN aM
 have aY:=TT.ofW aP aX
 refine ⟨fun _=>aY,?_⟩
 refine qaH bB (i:=6) (t:=34) (A:=(some ⟨aa,0,none⟩)) (m:=4) (q:=3) (d:=38) kz (e:=37) (size:=5) (bytes:=88) (j:=3) kz (b:=aa) (o:=0) rfl rfl (by decide) kz kz (qaa qae) aY fun dB bC=>?_
 have bD:=bC.recast 38 (.v (.pointer (some ⟨aa,0 + 3 * 5,none⟩))) (.p 2 15) rfl rfl (zN (n:=3) rfl)
 have bE:=bD.pk (env':=[(0,.p 0 0),(2,.p 1 0),(3,.p 3 0),(33,.v (.slice (some ⟨aa,0,none⟩) 4 4)),(36,.p 0 3),(37,.v (.agg #[.int .i64 ae,.slice aj af.length ak,.bool ag,.slice al ah.length am,.slice ao ai.length ap])),(38,.p 2 15)])
 refine qap (i:=7) kz (qao aX bE (oi:=2) (cs:=(z37 D ay aD az.length aE aA aF aB.length aG aH aC.length aI ae aj af.length ak ag al ah.length am ao ai.length ap)) kz fun cP aJ au bF=>?_)
 refine ⟨fun h=>absurd rfl h,?_⟩
 refine qaC kz ?_ _
 refine qab (qaf [0,1,2,3,4] kz ?_)
 refine qak [0,1,2] [3,4] [(2,.p 1 0),(3,.p 3 0),(41,.p 0 6)] au bF fun dC bG=>?_
 refine qan (qen bG (v:=.func (.func 144) #[] #[.pointer (some ⟨ax,0,none⟩)]) (d:=42) kz fun dD bH=>?_)
 refine qan (qal bH (f:=59) (vs:=[.pointer (some ⟨b,o + 6,none⟩),.func (.func 144) #[] #[.pointer (some ⟨ax,0,none⟩)]]) (d:=43) kz Tryz.call59 (qec (F:=(Imm F w cP [⟨b,o,(z14 D),false⟩,⟨b9,0,z0,true⟩,⟨aa,0,(z37 D ay aD az.length aE aA aF aB.length aG aH aC.length aI ae aj af.length ak ag al ah.length am ao ai.length ap),true⟩,⟨ax,0,(z23 aa),true⟩] [])) Tryz.call144 qcp ((hat.one 6 rfl).move au.step nilM au.imm) (g5.move au.step nilM au.imm) (Str.of au 3 rfl) (qiZ 3 rfl) g5l) ?_)
 rintro e_ dE ⟨rfl,ab,ac,bi,bI,bJ⟩
 obtain ⟨aQ,aK,bK⟩:=au.wrote 3 [⟨b,o,(z14 D),false⟩,⟨b9,0,z0,true⟩,⟨aa,0,(z37 D ay aD az.length aE aA aF aB.length aG aH aC.length aI ae aj af.length ak ag al ah.length am ao ai.length ap),true⟩,⟨ax,0,(z54 aa ab D ac),true⟩] rfl bJ bi
 have aZ:=bI.move (Step.refl _ Nil) nilM (fun b_ o_ h_ hb_=>bK (G:=F) b_ o_ (.inr h_) hb_)
 refine ⟨_,rfl,fun dF bL=>?_⟩
 have bM:=(EnvOk.places (tb':=[⟨b,o,[.int .i32 ((D.f 0).n),.int .i16 ((D.f 1).n),.pointer ((D.f 2).A),.int .i32 (((D.f 3).f 0).n),.int .i32 (((D.f 3).f 1).n),.map ((D.f 3).m),.map D.m],false⟩,⟨b9,0,[.int .i64 0,.slice none 0 0,.bool false,.slice none 0 0,.slice none 0 0],true⟩,⟨aa,0,[.int .i64 (IntKind.i64.wrap ((D.f 0).n)),.slice none 0 0,.bool false,.slice none 0 0,.slice none 0 0,.int .i64 (IntKind.i64.wrap ((D.f 1).n)),.slice none 0 0,.bool false,.slice none 0 0,.slice none 0 0,.int .i64 ay,.slice aD az.length aE,.bool aA,.slice aF aB.length aG,.slice aH aC.length aI,.int .i64 ae,.slice aj af.length ak,.bool ag,.slice al ah.length am,.slice ao ai.length ap],true⟩,⟨ax,0,[.int .i64 0,.slice none 0 0,.bool false,.slice (some ⟨aa,0,none⟩) 4 4,.slice ab D.u.length ac],true⟩]) bL (show Pl [⟨b,o,[.int .i32 ((D.f 0).n),.int .i16 ((D.f 1).n),.pointer ((D.f 2).A),.int .i32 (((D.f 3).f 0).n),.int .i32 (((D.f 3).f 1).n),.map ((D.f 3).m),.map D.m],false⟩,⟨b9,0,[.int .i64 0,.slice none 0 0,.bool false,.slice none 0 0,.slice none 0 0],true⟩,⟨aa,0,[.int .i64 (IntKind.i64.wrap ((D.f 0).n)),.slice none 0 0,.bool false,.slice none 0 0,.slice none 0 0,.int .i64 (IntKind.i64.wrap ((D.f 1).n)),.slice none 0 0,.bool false,.slice none 0 0,.slice none 0 0,.int .i64 ay,.slice aD az.length aE,.bool aA,.slice aF aB.length aG,.slice aH aC.length aI,.int .i64 ae,.slice aj af.length ak,.bool ag,.slice al ah.length am,.slice ao ai.length ap],true⟩,⟨ax,0,[.int .i64 0,.slice none 0 0,.bool false,.slice (some ⟨aa,0,none⟩) 4 4,.slice none 0 0],true⟩] [⟨b,o,[.int .i32 ((D.f 0).n),.int .i16 ((D.f 1).n),.pointer ((D.f 2).A),.int .i32 (((D.f 3).f 0).n),.int .i32 (((D.f 3).f 1).n),.map ((D.f 3).m),.map D.m],false⟩,⟨b9,0,[.int .i64 0,.slice none 0 0,.bool false,.slice none 0 0,.slice none 0 0],true⟩,⟨aa,0,[.int .i64 (IntKind.i64.wrap ((D.f 0).n)),.slice none 0 0,.bool false,.slice none 0 0,.slice none 0 0,.int .i64 (IntKind.i64.wrap ((D.f 1).n)),.slice none 0 0,.bool false,.slice none 0 0,.slice none 0 0,.int .i64 ay,.slice aD az.length aE,.bool aA,.slice aF aB.length aG,.slice aH aC.length aI,.int .i64 ae,.slice aj af.length ak,.bool ag,.slice al ah.length am,.slice ao ai.length ap],true⟩,⟨ax,0,[.int .i64 0,.slice none 0 0,.bool false,.slice (some ⟨aa,0,none⟩) 4 4,.slice ab D.u.length ac],true⟩] from ⟨rfl,rfl,⟨rfl,rfl,⟨rfl,rfl,⟨rfl,rfl,trivial⟩⟩⟩⟩)).pk (env':=[(43,.v (.tuple #[])),(2,.p 1 0),(3,.p 3 0),(41,.p 0 6),(42,.v (.func (.func 144) #[] #[.pointer (some ⟨ax,0,none⟩)]))])
 refine qag (qab ?_)
 refine qaf [0,1,2] kz ?_
 refine qak [0,1] [2] [(2,.p 1 0),(3,.p 3 0),(45,.v (.slice ab D.u.length ac))] aQ bM fun dG bN=>?_
 refine qan (qal bN (f:=61) (vs:=[.slice ab D.u.length ac]) (d:=46) kz Tryz.call61 (qf6 aZ g5.sorted) ?_)
 rintro e_ dH ⟨rfl,ba⟩
 refine ⟨_,rfl,fun dI bO=>?_⟩
 have bd:=aQ.next_nil ba
 have av:=aQ.frN ba
 refine qag (qab ?_)
 refine qaf [0,1] kz ?_
 refine qak [0] [1] [(2,.p 1 0),(47,.v (.agg #[.int .i64 0,.slice none 0 0,.bool false,.slice (some ⟨aa,0,none⟩) 4 4,.slice ab D.u.length ac]))] bd bO fun dJ bP=>?_
 refine qan (qao bd bP (oi:=1) (cs:=(z54 aa ab D ac)) kz fun aR aw bf bQ=>?_)
 refine qag (qab ?_)
 refine wp_ret (qaK bQ bf.cells (v:=.agg #[.int .i64 0,.slice none 0 0,.bool false,.slice (some ⟨aa,0,none⟩) 4 4,.slice ab D.u.length ac]) kz ?_)
 exact qe5 (u:=D.u) (l:=[.mk (IntKind.i64.wrap (D.f 0).n) [] false [] [],.mk (IntKind.i64.wrap (D.f 1).n) [] false [] [],qgd (D.f 2).A (D.f 2).s,qa4 (D.f 3)]) (css:=[[.int .i64 (IntKind.i64.wrap ((D.f 0).n)),.slice none 0 0,.bool false,.slice none 0 0,.slice none 0 0],[.int .i64 (IntKind.i64.wrap ((D.f 1).n)),.slice none 0 0,.bool false,.slice none 0 0,.slice none 0 0],[.int .i64 ay,.slice aD az.length aE,.bool aA,.slice aF aB.length aG,.slice aH aC.length aI],[.int .i64 ae,.slice aj af.length ak,.bool ag,.slice al ah.length am,.slice ao ai.length ap]]) bf 2 rfl ⟨(show TreeR _ (Imm F w aR [⟨b,o,[.int .i32 ((D.f 0).n),.int .i16 ((D.f 1).n),.pointer ((D.f 2).A),.int .i32 (((D.f 3).f 0).n),.int .i32 (((D.f 3).f 1).n),.map ((D.f 3).m),.map D.m],false⟩,⟨b9,0,[.int .i64 0,.slice none 0 0,.bool false,.slice (some ⟨aa,0,none⟩) 4 4,.slice ab D.u.length ac],true⟩,⟨aa,0,[.int .i64 (IntKind.i64.wrap ((D.f 0).n)),.slice none 0 0,.bool false,.slice none 0 0,.slice none 0 0,.int .i64 (IntKind.i64.wrap ((D.f 1).n)),.slice none 0 0,.bool false,.slice none 0 0,.slice none 0 0,.int .i64 ay,.slice aD az.length aE,.bool aA,.slice aF aB.length aG,.slice aH aC.length aI,.int .i64 ae,.slice aj af.length ak,.bool ag,.slice al ah.length am,.slice ao ai.length ap],true⟩,⟨ax,0,[.int .i64 0,.slice none 0 0,.bool false,.slice (some ⟨aa,0,none⟩) 4 4,.slice ab D.u.length ac],true⟩] []) _ _ from (TreeR.mk (n:=IntKind.i64.wrap ((D.f 0).n)) (b:=false) (s:=[]) (l:=[]) (u:=[]) (fun _=>[]) (Octs.nil _ _) (Slots.nil _ _ _ _) (fun i_ x_ h_=>by simp at h_) (TagsR.nil _ _))).move (Step.refl _ Nil) nilM qbP,(show TreeR _ (Imm F w aR [⟨b,o,[.int .i32 ((D.f 0).n),.int .i16 ((D.f 1).n),.pointer ((D.f 2).A),.int .i32 (((D.f 3).f 0).n),.int .i32 (((D.f 3).f 1).n),.map ((D.f 3).m),.map D.m],false⟩,⟨b9,0,[.int .i64 0,.slice none 0 0,.bool false,.slice (some ⟨aa,0,none⟩) 4 4,.slice ab D.u.length ac],true⟩,⟨aa,0,[.int .i64 (IntKind.i64.wrap ((D.f 0).n)),.slice none 0 0,.bool false,.slice none 0 0,.slice none 0 0,.int .i64 (IntKind.i64.wrap ((D.f 1).n)),.slice none 0 0,.bool false,.slice none 0 0,.slice none 0 0,.int .i64 ay,.slice aD az.length aE,.bool aA,.slice aF aB.length aG,.slice aH aC.length aI,.int .i64 ae,.slice aj af.length ak,.bool ag,.slice al ah.length am,.slice ao ai.length ap],true⟩,⟨ax,0,[.int .i64 0,.slice none 0 0,.bool false,.slice (some ⟨aa,0,none⟩) 4 4,.slice ab D.u.length ac],true⟩] []) _ _ from (TreeR.mk (n:=IntKind.i64.wrap ((D.f 1).n)) (b:=false) (s:=[]) (l:=[]) (u:=[]) (fun _=>[]) (Octs.nil _ _) (Slots.nil _ _ _ _) (fun i_ x_ h_=>by simp at h_) (TagsR.nil _ _))).move (Step.refl _ Nil) nilM qbP,(show TreeR _ (Imm F w aR [⟨b,o,[.int .i32 ((D.f 0).n),.int .i16 ((D.f 1).n),.pointer ((D.f 2).A),.int .i32 (((D.f 3).f 0).n),.int .i32 (((D.f 3).f 1).n),.map ((D.f 3).m),.map D.m],false⟩,⟨b9,0,[.int .i64 0,.slice none 0 0,.bool false,.slice (some ⟨aa,0,none⟩) 4 4,.slice ab D.u.length ac],true⟩,⟨aa,0,[.int .i64 (IntKind.i64.wrap ((D.f 0).n)),.slice none 0 0,.bool false,.slice none 0 0,.slice none 0 0,.int .i64 (IntKind.i64.wrap ((D.f 1).n)),.slice none 0 0,.bool false,.slice none 0 0,.slice none 0 0,.int .i64 ay,.slice aD az.length aE,.bool aA,.slice aF aB.length aG,.slice aH aC.length aI,.int .i64 ae,.slice aj af.length ak,.bool ag,.slice al ah.length am,.slice ao ai.length ap],true⟩,⟨ax,0,[.int .i64 0,.slice none 0 0,.bool false,.slice (some ⟨aa,0,none⟩) 4 4,.slice ab D.u.length ac],true⟩] []) _ _ from (bh.move ((((((aV.trans aW).trans aP).trans aJ).trans aK).trans av).trans aw).step immM ((((((aV.trans aW).trans aP).trans aJ).trans aK).trans av).trans aw).to')).move (Step.refl _ Nil) nilM qbP,(show TreeR _ (Imm F w aR [⟨b,o,[.int .i32 ((D.f 0).n),.int .i16 ((D.f 1).n),.pointer ((D.f 2).A),.int .i32 (((D.f 3).f 0).n),.int .i32 (((D.f 3).f 1).n),.map ((D.f 3).m),.map D.m],false⟩,⟨b9,0,[.int .i64 0,.slice none 0 0,.bool false,.slice (some ⟨aa,0,none⟩) 4 4,.slice ab D.u.length ac],true⟩,⟨aa,0,[.int .i64 (IntKind.i64.wrap ((D.f 0).n)),.slice none 0 0,.bool false,.slice none 0 0,.slice none 0 0,.int .i64 (IntKind.i64.wrap ((D.f 1).n)),.slice none 0 0,.bool false,.slice none 0 0,.slice none 0 0,.int .i64 ay,.slice aD az.length aE,.bool aA,.slice aF aB.length aG,.slice aH aC.length aI,.int .i64 ae,.slice aj af.length ak,.bool ag,.slice al ah.length am,.slice ao ai.length ap],true⟩,⟨ax,0,[.int .i64 0,.slice none 0 0,.bool false,.slice (some ⟨aa,0,none⟩) 4 4,.slice ab D.u.length ac],true⟩] []) _ _ from (aN.move (((aJ.trans aK).trans av).trans aw).step immM (((aJ.trans aK).trans av).trans aw).to')).move (Step.refl _ Nil) nilM qbP,trivial⟩ ((show TagsR _ (Imm F w aR [⟨b,o,[.int .i32 ((D.f 0).n),.int .i16 ((D.f 1).n),.pointer ((D.f 2).A),.int .i32 (((D.f 3).f 0).n),.int .i32 (((D.f 3).f 1).n),.map ((D.f 3).m),.map D.m],false⟩,⟨b9,0,[.int .i64 0,.slice none 0 0,.bool false,.slice (some ⟨aa,0,none⟩) 4 4,.slice ab D.u.length ac],true⟩,⟨aa,0,[.int .i64 (IntKind.i64.wrap ((D.f 0).n)),.slice none 0 0,.bool false,.slice none 0 0,.slice none 0 0,.int .i64 (IntKind.i64.wrap ((D.f 1).n)),.slice none 0 0,.bool false,.slice none 0 0,.slice none 0 0,.int .i64 ay,.slice aD az.length aE,.bool aA,.slice aF aB.length aG,.slice aH aC.length aI,.int .i64 ae,.slice aj af.length ak,.bool ag,.slice al ah.length am,.slice ao ai.length ap],true⟩,⟨ax,0,[.int .i64 0,.slice none 0 0,.bool false,.slice (some ⟨aa,0,none⟩) 4 4,.slice ab D.u.length ac],true⟩] []) _ _ _ from (aZ.move (av.trans aw).step immM (av.trans aw).to')).move (Step.refl _ Nil) nilM qbP)
abbrev z11 (x0) (x1:DV) (x2) (x3) (x4) (x5):=([.int .i64 0,.slice x0 (((x1.f 0).o).length) x2,.bool false,.slice none 0 0,.slice none 0 0,.int .i64 0,.slice none 0 0,.bool (((x1.f 1).A).isNone),.slice x3 (x4 + 1) x5,.slice none 0 0]:List Value)
abbrev z8 (x0) (x1) (x2:DV) (x3) (x4) (x5) (x6) (x7) (x8) (x9) (x10):=([⟨x0,x1,[qad ((x2.f 0).o.getD 0 0),qad ((x2.f 0).o.getD 1 0),qad ((x2.f 0).o.getD 2 0),qad ((x2.f 0).o.getD 3 0),qad ((x2.f 0).o.getD 4 0),qad ((x2.f 0).o.getD 5 0),qad ((x2.f 0).o.getD 6 0),qad ((x2.f 0).o.getD 7 0),qad ((x2.f 0).o.getD 8 0),qad ((x2.f 0).o.getD 9 0),qad ((x2.f 0).o.getD 10 0),qad ((x2.f 0).o.getD 11 0),qad ((x2.f 0).o.getD 12 0),qad ((x2.f 0).o.getD 13 0),qad ((x2.f 0).o.getD 14 0),qad ((x2.f 0).o.getD 15 0),.slice ((x2.f 1).A) ((x2.f 1).l) ((x2.f 1).c),.map x2.m],false⟩,⟨x3,0,z0,true⟩,⟨x4,0,[.int .i64 0,.slice x5 (((x2.f 0).o).length) x6,.bool false,.slice none 0 0,.slice none 0 0,.int .i64 0,.slice none 0 0,.bool (((x2.f 1).A).isNone),.slice x7 (x8 + 1) x9,.slice none 0 0],true⟩,⟨x10,0,[.int .i64 0,.slice none 0 0,.bool false,.slice (some ⟨x4,0,none⟩) 2 2,.slice none 0 0],true⟩]:Tb)
abbrev z85 (x0) (x1:DV) (x2) (x3) (x4) (x5):=([.int .i64 0,.slice x0 (((x1.f 0).o).length) x2,.bool false,.slice none 0 0,.slice none 0 0,.int .i64 0,.slice none 0 0,.bool (((x1.f 1).A).isNone),.slice x3 x4 x5,.slice none 0 0]:List Value)
set_option maxHeartbeats 4000000 in
theorem qbM (v:Int) (D:DV) (b o:Nat) (w:World) (F:Nat → Nat → Prop) (hat:AtF w F b o [qad ((D.f 0).o.getD 0 0),qad ((D.f 0).o.getD 1 0),qad ((D.f 0).o.getD 2 0),qad ((D.f 0).o.getD 3 0),qad ((D.f 0).o.getD 4 0),qad ((D.f 0).o.getD 5 0),qad ((D.f 0).o.getD 6 0),qad ((D.f 0).o.getD 7 0),qad ((D.f 0).o.getD 8 0),qad ((D.f 0).o.getD 9 0),qad ((D.f 0).o.getD 10 0),qad ((D.f 0).o.getD 11 0),qad ((D.f 0).o.getD 12 0),qad ((D.f 0).o.getD 13 0),qad ((D.f 0).o.getD 14 0),qad ((D.f 0).o.getD 15 0),.slice ((D.f 1).A) ((D.f 1).l) ((D.f 1).c),.map D.m]) (hok:qa2 w F D):Calls Tryz.prog 74 #[.pointer (some ⟨b,o,none⟩)] w (qdX w F (qa3 D)):=by
 refine enter (n:=81) Tryz.func74 rfl Tryz.ntmps74 kz fun a hE=>?_
 have hW:WOk w Nil w [⟨b,o,[qad ((D.f 0).o.getD 0 0),qad ((D.f 0).o.getD 1 0),qad ((D.f 0).o.getD 2 0),qad ((D.f 0).o.getD 3 0),qad ((D.f 0).o.getD 4 0),qad ((D.f 0).o.getD 5 0),qad ((D.f 0).o.getD 6 0),qad ((D.f 0).o.getD 7 0),qad ((D.f 0).o.getD 8 0),qad ((D.f 0).o.getD 9 0),qad ((D.f 0).o.getD 10 0),qad ((D.f 0).o.getD 11 0),qad ((D.f 0).o.getD 12 0),qad ((D.f 0).o.getD 13 0),qad ((D.f 0).o.getD 14 0),qad ((D.f 0).o.getD 15 0),.slice ((D.f 1).A) ((D.f 1).l) ((D.f 1).c),.map D.m],false⟩] []:=(WOk.start w Nil).start1 hat rfl rfl
 unfold qa2 at hok
 obtain ⟨g1,⟨g2,g2l,g2e⟩,g3,g3l,g3x,_⟩:=hok
 have hE0:=(EnvOk.ptr0 (cs:=[qad ((D.f 0).o.getD 0 0),qad ((D.f 0).o.getD 1 0),qad ((D.f 0).o.getD 2 0),qad ((D.f 0).o.getD 3 0),qad ((D.f 0).o.getD 4 0),qad ((D.f 0).o.getD 5 0),qad ((D.f 0).o.getD 6 0),qad ((D.f 0).o.getD 7 0),qad ((D.f 0).o.getD 8 0),qad ((D.f 0).o.getD 9 0),qad ((D.f 0).o.getD 10 0),qad ((D.f 0).o.getD 11 0),qad ((D.f 0).o.getD 12 0),qad ((D.f 0).o.getD 13 0),qad ((D.f 0).o.getD 14 0),qad ((D.f 0).o.getD 15 0),.slice ((D.f 1).A) ((D.f 1).l) ((D.f 1).c),.map D.m]) (r:=false) hE).pk (env':=[(0,.p 0 0)])
 have hu4:=qmg (k:=0) (s:=(D.f 0).o) hat g1 (fun j hj=>by match j,hj with | 0,_=>rfl | 1,_=>rfl | 2,_=>rfl | 3,_=>rfl | 4,_=>rfl | 5,_=>rfl | 6,_=>rfl | 7,_=>rfl | 8,_=>rfl | 9,_=>rfl | 10,_=>rfl | 11,_=>rfl | 12,_=>rfl | 13,_=>rfl | 14,_=>rfl | 15,_=>rfl | n_ + 16,h_=>exact absurd h_ (by omega))
 refine qaf [0] kz ?_
 refine qan (qaM hW hE0 (d:=2) (cs:=z0) kz fun b5 a6 w7 hb8 hz9 hJ fK fL=>?_)
 refine qag (qab ?_)
 refine qaf [0,1,2,3] kz ?_
 refine qan (qdK (t:=34) (e:=37) (size:=5) (bytes:=88) (d:=5) (j:=2) (.agg #[.int .i64 0,.slice none 0 0,.bool false,.slice none 0 0,.slice none 0 0]) z70 fK fL fun aa jH jI hK hZ ia dy fM=>?_)
 refine qak [1] [2,3] [(0,.p 0 0),(2,.p 1 0),(6,.v (.agg #[.int .i64 0,.slice none 0 0,.bool false,.slice (some ⟨aa,0,none⟩) 2 2,.slice none 0 0]))] dy fM fun jJ fN=>?_
 refine qan (qaM dy fN (d:=3) (cs:=z0) kz fun bB jK jL ib ic ig fO fP=>?_)
 refine qan (qao fO fP (oi:=3) (cs:=(z44 aa)) kz fun jM ii fQ fR=>?_)
 refine qag (qab ?_)
 refine qaE 9 kz fQ fun jN ij dz fS=>?_
 refine qaF [0,1,2,3,4,5] [(0,.p 0 0),(2,.p 1 0),(3,.p 3 0),(8,.v (.slice (some ⟨aa,0,none⟩) 2 2)),(12,.v (.slice (some ⟨b,o,none⟩) 16 16))] 4 (qaa qae) (fun _ h=>h.cells) fS fR fun jO fT=>?_
 have bY:=dz.addNil 5 1
 have fU:=dz.frNil 5 1
 refine qap (i:=6) kz (qaR bY fT (k:=0) (d:=13) (t:=22) (e:=5) (size:=1) (bytes:=1) (A:=none) (As:=(some ⟨b,o,none⟩)) (m0:=0) (c:=0) (m:=16) (cs:=16) (xs:=[]) (news:=bc ((D.f 0).o)) kz kz rfl (hu4.move bY.step nilM bY.imm).src (hu4.move bY.step nilM bY.imm).cap (by omega) fun ac ae jP jQ fV fW fX=>?_)
 have fY:(⟨ac,ae,5,1,0 + 16,[] ++ bc ((D.f 0).o)⟩:Rw) = brow ac ae 5 ((D.f 0).o):=by rw [List.nil_append]; unfold brow; rw [g1]
 obtain ⟨dA,fZ⟩:=fW.rowEq 0 [brow ac ae 5 ((D.f 0).o)] fY
 have f5:=EnvOk.pick fX (ks:=[0,2,3,8,12,13]) (env':=[(0,.p 0 0),(2,.p 1 0),(3,.p 3 0),(8,.v (.slice (some ⟨aa,0,none⟩) 2 2)),(12,.v (.slice (some ⟨b,o,none⟩) 16 16)),(13,.v (.slice ac (0 + 16) ae))]) kz
 have f7:=f5.cast (env':=[(0,.p 0 0),(2,.p 1 0),(3,.p 3 0),(8,.v (.slice (some ⟨aa,0,none⟩) 2 2)),(12,.v (.slice (some ⟨b,o,none⟩) 16 16)),(13,.v (.slice ac (((D.f 0).o).length) ae))]) (by rw [g1])
 have dj:=TT.ofW ((fU.trans fV).trans fZ) dA
 refine ⟨fun _=>dj,?_⟩
 refine qaF [7] [(0,.p 0 0),(2,.p 1 0),(3,.p 3 0),(8,.v (.slice (some ⟨aa,0,none⟩) 2 2)),(14,.v (.agg #[.int .i64 0,.slice ac (((D.f 0).o).length) ae,.bool false,.slice none 0 0,.slice none 0 0]))] 2 (qaa qae) (fun _ h=>h.cells) dj f7 fun jR f8=>?_
 refine qaH f8 (i:=8) (t:=34) (A:=(some ⟨aa,0,none⟩)) (m:=2) (q:=0) (d:=15) kz (e:=37) (size:=5) (bytes:=88) (j:=0) kz (b:=aa) (o:=0) rfl rfl (by decide) kz kz (qaa qae) dj fun jS f9=>?_
 have ga:=f9.recast 15 (.v (.pointer (some ⟨aa,0 + 0 * 5,none⟩))) (.p 2 0) rfl rfl (zN (n:=3) rfl)
 have gb:=ga.pk (env':=[(0,.p 0 0),(2,.p 1 0),(3,.p 3 0),(8,.v (.slice (some ⟨aa,0,none⟩) 2 2)),(14,.v (.agg #[.int .i64 0,.slice ac (((D.f 0).o).length) ae,.bool false,.slice none 0 0,.slice none 0 0])),(15,.p 2 0)])
 refine qap (i:=9) kz (qao dA gb (oi:=2) (cs:=[.int .i64 0,.slice ac (((D.f 0).o).length) ae,.bool false,.slice none 0 0,.slice none 0 0,.int .i64 0,.slice none 0 0,.bool false,.slice none 0 0,.slice none 0 0]) kz fun jT ik gc gd=>?_)
 refine ⟨fun h=>absurd rfl h,?_⟩
 refine qaC kz ?_ _
 refine qab (qaE 9 kz gc fun jU il ge dl=>?_)
 refine qaF [0,1,2,3,4,5,6] [(0,.p 0 0),(2,.p 1 0),(3,.p 3 0),(17,.v (.slice (some ⟨aa,0,none⟩) 2 2)),(22,.v (.bool (((D.f 1).A).isNone)))] 3 (qaa qae) (fun _ h=>h.cells) dl gd fun jV gg=>?_
 refine qap (i:=7) kz (qaB gg (t:=34) (A:=(some ⟨aa,0,none⟩)) (m:=2) (q:=1) (d:=23) kz (e:=37) (size:=5) (bytes:=88) (j:=1) kz (b:=aa) (o:=0) rfl rfl (by decide) fun jW gh=>?_)
 have gi:=gh.recast 23 (.v (.pointer (some ⟨aa,0 + 1 * 5,none⟩))) (.p 2 5) rfl rfl (zN (n:=3) rfl)
 have gj:=gi.pk (env':=[(0,.p 0 0),(2,.p 1 0),(3,.p 3 0),(17,.v (.slice (some ⟨aa,0,none⟩) 2 2)),(22,.v (.bool (((D.f 1).A).isNone))),(23,.p 2 5)])
 refine ⟨fun _=>dl,?_⟩
 refine qaF [8] [(0,.p 0 0),(2,.p 1 0),(3,.p 3 0),(22,.v (.bool (((D.f 1).A).isNone))),(24,.p 2 7)] 1 (qaa qae) (fun _ h=>h.cells) dl gj fun jX gk=>?_
 refine qap (i:=9) kz (qao ge gk (oi:=2) (cs:=[.int .i64 0,.slice ac (((D.f 0).o).length) ae,.bool false,.slice none 0 0,.slice none 0 0,.int .i64 0,.slice none 0 0,.bool (((D.f 1).A).isNone),.slice none 0 0,.slice none 0 0]) kz fun jY im dp gl=>?_)
 refine ⟨fun h=>absurd rfl h,?_⟩
 refine qaC kz ?_ _
 refine qab (wp_seq (qas [(0,.p 0 0),(2,.p 1 0),(3,.p 3 0),(29,.v (.int .i64 (((D.f 1).l:Nat):Int))),(30,.v (.int .i64 0))] dp gl fun jZ gm=>?_))
 refine wp_block ?_
 have dB:=dp.addNil 37 5
 have io:=dp.frNil 37 5
 refine wp_loop_ghost (fun n_ a_ w_=>∃ (k1_:Nat) (A1_:Option Addr) (c1_:Nat) (xs1_:List Value) (css1_:List (List Value)),n_ = (D.f 1).l - k1_ ∧ k1_ ≤ (D.f 1).l ∧ (Trees w_ (Imm F w w_ [⟨b,o,[qad ((D.f 0).o.getD 0 0),qad ((D.f 0).o.getD 1 0),qad ((D.f 0).o.getD 2 0),qad ((D.f 0).o.getD 3 0),qad ((D.f 0).o.getD 4 0),qad ((D.f 0).o.getD 5 0),qad ((D.f 0).o.getD 6 0),qad ((D.f 0).o.getD 7 0),qad ((D.f 0).o.getD 8 0),qad ((D.f 0).o.getD 9 0),qad ((D.f 0).o.getD 10 0),qad ((D.f 0).o.getD 11 0),qad ((D.f 0).o.getD 12 0),qad ((D.f 0).o.getD 13 0),qad ((D.f 0).o.getD 14 0),qad ((D.f 0).o.getD 15 0),.slice ((D.f 1).A) ((D.f 1).l) ((D.f 1).c),.map D.m],false⟩,⟨b5,0,[.int .i64 0,.slice none 0 0,.bool false,.slice none 0 0,.slice none 0 0],true⟩,⟨aa,0,[.int .i64 0,.slice ac (((D.f 0).o).length) ae,.bool false,.slice none 0 0,.slice none 0 0,.int .i64 0,.slice none 0 0,.bool (((D.f 1).A).isNone),.slice A1_ k1_ c1_,.slice none 0 0],true⟩,⟨bB,0,[.int .i64 0,.slice none 0 0,.bool false,.slice (some ⟨aa,0,none⟩) 2 2,.slice none 0 0],true⟩] [brow ac ae 5 ((D.f 0).o),⟨A1_,c1_,37,5,k1_,xs1_⟩]) xs1_ (((List.range (D.f 1).l).map (fun i=>qaP ((D.f 1).f i))).take k1_) css1_) ∧ LInv dB 81 [⟨b,o,[qad ((D.f 0).o.getD 0 0),qad ((D.f 0).o.getD 1 0),qad ((D.f 0).o.getD 2 0),qad ((D.f 0).o.getD 3 0),qad ((D.f 0).o.getD 4 0),qad ((D.f 0).o.getD 5 0),qad ((D.f 0).o.getD 6 0),qad ((D.f 0).o.getD 7 0),qad ((D.f 0).o.getD 8 0),qad ((D.f 0).o.getD 9 0),qad ((D.f 0).o.getD 10 0),qad ((D.f 0).o.getD 11 0),qad ((D.f 0).o.getD 12 0),qad ((D.f 0).o.getD 13 0),qad ((D.f 0).o.getD 14 0),qad ((D.f 0).o.getD 15 0),.slice ((D.f 1).A) ((D.f 1).l) ((D.f 1).c),.map D.m],false⟩,⟨b5,0,[.int .i64 0,.slice none 0 0,.bool false,.slice none 0 0,.slice none 0 0],true⟩,⟨aa,0,[.int .i64 0,.slice ac (((D.f 0).o).length) ae,.bool false,.slice none 0 0,.slice none 0 0,.int .i64 0,.slice none 0 0,.bool (((D.f 1).A).isNone),.slice A1_ k1_ c1_,.slice none 0 0],true⟩,⟨bB,0,[.int .i64 0,.slice none 0 0,.bool false,.slice (some ⟨aa,0,none⟩) 2 2,.slice none 0 0],true⟩] [brow ac ae 5 ((D.f 0).o),⟨A1_,c1_,37,5,k1_,xs1_⟩] [(0,.p 0 0),(2,.p 1 0),(3,.p 3 0),(29,.v (.int .i64 (((D.f 1).l:Nat):Int))),(30,.v (.int .i64 ((k1_:Nat):Int)))] a_ w_) ((D.f 1).l) ⟨0,none,0,[],[],by omega,by omega,Trees.nil _ _,gm.pk,dB,Fr.refl _ _ _⟩ ?_
 rintro j0 j1 ip ⟨k1_,A1_,c1_,xs1_,css1_,iq,ir,hT1_,gn,aB,dq⟩
 refine qas [(0,.p 0 0),(2,.p 1 0),(3,.p 3 0),(29,.v (.int .i64 (((D.f 1).l:Nat):Int))),(30,.v (.int .i64 ((k1_:Nat):Int))),(31,.v (.bool (decide (((k1_:Nat):Int) < (((D.f 1).l:Nat):Int)))))] aB gn fun j2 dr=>?_
 refine wp_seq (qax dr (b:=decide (((k1_:Nat):Int) < (((D.f 1).l:Nat):Int))) kz (fun dt=>?_) (fun dt=>?_))
 ·
  have iu:=zD dt
  refine wp_skip (qab (wp_seq (wp_block (qas [(0,.p 0 0),(2,.p 1 0),(3,.p 3 0),(4,.v (.int .i64 ((k1_:Nat):Int))),(29,.v (.int .i64 (((D.f 1).l:Nat):Int))),(30,.v (.int .i64 ((k1_:Nat):Int)))] aB dr fun j3 dC=>?_))))
  refine qaE 4 kz aB fun iv af dD gH=>?_
  refine qap (i:=0) kz (qaM dD dC (d:=33) (cs:=[.bool false]) kz fun iw ix iy gI gJ ab bZ cK=>?_)
  have dE:=TT.ofW ab bZ
  refine ⟨fun _=>dE,?_⟩
  refine qdV (i:=1) (j:=2) kz ?_ ?_
  ·
   refine (qao bZ cK (oi:=4) (cs:=[.bool true]) kz fun iz aE cL dF=>?_)
   have dG:=TT.ofW (ab.trans aE) cL
   refine ⟨fun _=>dG,?_⟩
   refine qap (i:=2) kz (qao cL dF (oi:=4) (cs:=[.bool false]) kz fun iA bg bC dH=>?_)
   have dI:=TT.ofW ((ab.trans aE).trans bg) bC
   refine ⟨fun _=>dI,?_⟩
   refine qap (i:=3) kz (qbq [0,2,3,4,29,30,34] bC.cells dH (env':=[(0,.p 0 0),(2,.p 1 0),(3,.p 3 0),(4,.v (.int .i64 ((k1_:Nat):Int))),(29,.v (.int .i64 (((D.f 1).l:Nat):Int))),(30,.v (.int .i64 ((k1_:Nat):Int))),(34,.v (.bool false))]) kz fun iB cM=>?_)
   have dJ:=TT.ofW ((ab.trans aE).trans bg) bC
   refine ⟨fun _=>dJ,?_⟩
   refine qaC kz ?_ _
   refine qab (qaq cM (b:=false) kz rfl ?_)
   refine qcE 18 kz bC fun iC cd ap bD=>?_
   refine qaF [0,1,2,3,7,8,9,10,11] [(0,.p 0 0),(2,.p 1 0),(3,.p 3 0),(29,.v (.int .i64 (((D.f 1).l:Nat):Int))),(30,.v (.int .i64 ((k1_:Nat):Int))),(54,.v (.slice (some ⟨aa,0,none⟩) 2 2)),(56,.v (.slice (some ⟨aa,0,none⟩) 2 2)),(63,.v (.slice ((D.f 1).A) ((D.f 1).l) ((D.f 1).c))),(64,.v (.int .i64 ((k1_:Nat):Int)))] 10 (qac (qaa (qaa (qac (qaa qae))))) (fun _ h=>h.cells) bD cM fun iD dK=>?_
   refine qaH dK (i:=4) (t:=34) (A:=(some ⟨aa,0,none⟩)) (m:=2) (q:=1) (d:=57) kz (e:=37) (size:=5) (bytes:=88) (j:=1) kz (b:=aa) (o:=0) rfl rfl (by decide) kz kz (qac (qaa (qaa (qac (qaa qae))))) bD fun iE dL=>?_
   have dM:=dL.recast 57 (.v (.pointer (some ⟨aa,0 + 1 * 5,none⟩))) (.p 2 5) rfl rfl (zN (n:=3) rfl)
   have dN:=dM.pk (env':=[(0,.p 0 0),(2,.p 1 0),(3,.p 3 0),(29,.v (.int .i64 (((D.f 1).l:Nat):Int))),(30,.v (.int .i64 ((k1_:Nat):Int))),(54,.v (.slice (some ⟨aa,0,none⟩) 2 2)),(56,.v (.slice (some ⟨aa,0,none⟩) 2 2)),(63,.v (.slice ((D.f 1).A) ((D.f 1).l) ((D.f 1).c))),(64,.v (.int .i64 ((k1_:Nat):Int))),(57,.p 2 5)])
   refine qaF [5,6] [(0,.p 0 0),(2,.p 1 0),(3,.p 3 0),(29,.v (.int .i64 (((D.f 1).l:Nat):Int))),(30,.v (.int .i64 ((k1_:Nat):Int))),(54,.v (.slice (some ⟨aa,0,none⟩) 2 2)),(59,.v (.slice A1_ k1_ c1_)),(63,.v (.slice ((D.f 1).A) ((D.f 1).l) ((D.f 1).c))),(64,.v (.int .i64 ((k1_:Nat):Int)))] 7 (qac (qaa (qaa (qac (qaa qae))))) (fun _ h=>h.cells) bD dN fun iF dO=>?_
   obtain ⟨dP,dQ,dR,gK,du⟩:=Slots.get g2 (i:=k1_) (by omega)
   refine qaH dO (i:=12) (t:=116) (A:=(D.f 1).A) (m:=((D.f 1).l)) (q:=((k1_:Nat):Int)) (d:=65) kz (e:=168) (size:=7) (bytes:=40) kz dR rfl (by omega) kz kz (qac (qaa (qaa (qac (qaa qae))))) bD fun iG dS=>?_
   refine qap (i:=13) kz (qal dS (f:=118) (vs:=[.pointer (some ⟨dP,dQ + k1_ * 7,none⟩)]) (d:=66) kz Tryz.call118 (qbx 0 ((D.f 1).f k1_) _ _ _ _ (du.move ap.step nilM ap.imm) (qaX _ ap.step nilM ap.imm (g2e k1_ (by omega)))) ?_)
   rintro e_ iH ⟨gL,rfl,dT,ce⟩
   have cm:=dT.move (Step.refl _ Nil) nilM (ap.laid (G:=F) ce)
   obtain ⟨bL,bM,bN,bO,bP,bQ,bR,bS,bT,bU,bV,gM,gN,cq,gp,gq,iI,iJ⟩:=cm.open_
   rw [cq] at cm
   have gt:=gp.small
   have gv:=gq.small
   rw [cq]
   refine ⟨_,rfl,fun iK dU=>?_⟩
   have cN:=ap.next_nil ce
   have ar:=ap.frN ce
   have dV:=TT.ofW ar cN
   refine ⟨fun _=>dV,?_⟩
   refine qap (i:=14) kz (qbB cN dU (e:=37) (size:=5) (len:=1) (cs:=(z1 bL bQ bM.length bR bN bS bO.length bT bU bP.length bV)) (d:=67) kz kz fun dW iL iM gO gP ah bE dX=>?_)
   have dY:=TT.ofW (ar.trans ah) bE
   refine ⟨fun _=>dY,?_⟩
   refine qap (i:=15) kz (qaR bE dX (k:=1) (d:=68) (t:=34) (e:=37) (size:=5) (bytes:=88) (A:=A1_) (As:=(some ⟨dW,0,none⟩)) (m0:=k1_) (c:=c1_) (m:=1) (cs:=1) (xs:=xs1_) (news:=(z1 bL bQ bM.length bR bN bS bO.length bT bU bP.length bV)) kz kz rfl (qbI (bE.own 2 _ rfl) (qbE kz)) (qbQ (bE.own 2 _ rfl)) (by omega) fun bW bX iN iO au cr dZ=>?_)
   have d5:=TT.ofW ((ar.trans ah).trans au) cr
   refine ⟨fun _=>d5,?_⟩
   refine qap (i:=16) kz (qaB dZ (t:=34) (A:=(some ⟨aa,0,none⟩)) (m:=2) (q:=1) (d:=69) kz (e:=37) (size:=5) (bytes:=88) (j:=1) kz (b:=aa) (o:=0) rfl rfl (by decide) fun iP d6=>?_)
   have d7:=d6.recast 69 (.v (.pointer (some ⟨aa,0 + 1 * 5,none⟩))) (.p 2 5) rfl rfl (zN (n:=3) rfl)
   have d8:=d7.pk (env':=[(0,.p 0 0),(2,.p 1 0),(3,.p 3 0),(29,.v (.int .i64 (((D.f 1).l:Nat):Int))),(30,.v (.int .i64 ((k1_:Nat):Int))),(54,.v (.slice (some ⟨aa,0,none⟩) 2 2)),(59,.v (.slice A1_ k1_ c1_)),(63,.v (.slice ((D.f 1).A) ((D.f 1).l) ((D.f 1).c))),(64,.v (.int .i64 ((k1_:Nat):Int))),(65,.v (.pointer (some ⟨dP,dQ + k1_ * 7,none⟩))),(66,.v (.agg #[.int .i64 bL,.slice bQ bM.length bR,.bool bN,.slice bS bO.length bT,.slice bU bP.length bV])),(67,.v (.slice (some ⟨dW,0,none⟩) 1 1)),(68,.v (.slice bW (k1_ + 1) bX)),(69,.p 2 5)])
   have cO:=TT.ofW ((ar.trans ah).trans au) cr
   refine ⟨fun _=>cO,?_⟩
   refine qaF [17] [(0,.p 0 0),(2,.p 1 0),(3,.p 3 0),(29,.v (.int .i64 (((D.f 1).l:Nat):Int))),(30,.v (.int .i64 ((k1_:Nat):Int))),(68,.v (.slice bW (k1_ + 1) bX)),(70,.p 2 8)] 1 (qac (qaa (qaa (qac (qaa qae))))) (fun _ h=>h.cells) cO d8 fun iQ d9=>?_
   refine qap (i:=18) kz (qao cr d9 (oi:=2) (cs:=(z11 ac D ae bW k1_ bX)) kz fun iR bh cP ea=>?_)
   refine ⟨fun h=>absurd rfl h,?_⟩
   refine qaC kz ?_ _
   refine qav (qab (qau [0,1] kz ?_))
   refine qak [0,1] [] [(0,.p 0 0),(2,.p 1 0),(3,.p 3 0),(29,.v (.int .i64 (((D.f 1).l:Nat):Int))),(30,.v (.int .i64 (IntKind.i64.wrap (((k1_:Nat):Int) + 1))))] cP ea fun iS eb=>?_
   refine qag (qab ?_)
   obtain ⟨cQ,ec,bi⟩:=cP.cutB eb 4 (z8 b o D b5 aa ac ae bW k1_ bX bB) [(0,.p 0 0),(2,.p 1 0),(3,.p 3 0),(29,.v (.int .i64 (((D.f 1).l:Nat):Int))),(30,.v (.int .i64 (IntKind.i64.wrap (((k1_:Nat):Int) + 1))))]
   obtain ⟨ee,bj⟩:=ec.cutR 2 [brow ac ae 5 ((D.f 0).o),⟨bW,bX,37,5,k1_ + 1,xs1_ ++ (z1 bL bQ bM.length bR bN bS bO.length bT bU bP.length bV)⟩]
   have ef:IntKind.i64.wrap (((k1_:Nat):Int) + 1) = ((k1_ + 1:Nat):Int):=qaS (by omega)
   rw [ef] at cQ
   exact ⟨(D.f 1).l - (k1_ + 1),by omega,k1_ + 1,bW,bX,xs1_ ++ [Value.int .i64 bL,.slice bQ bM.length bR,.bool bN,.slice bS bO.length bT,.slice bU bP.length bV],(css1_ ++ [[Value.int .i64 bL,.slice bQ bM.length bR,.bool bN,.slice bS bO.length bT,.slice bU bP.length bV]]),rfl,by omega,by rw [qcA (by omega)]; exact (hT1_.move ((((((((((af.trans ab).trans aE).trans bg).trans cd).trans ar).trans ah).trans au).trans bh).trans bi).trans bj).step immM ((((((((((af.trans ab).trans aE).trans bg).trans cd).trans ar).trans ah).trans au).trans bh).trans bi).trans bj).to').snoc (x:=(fun i=>qaP ((D.f 1).f i)) k1_) (cm.move ((((ah.trans au).trans bh).trans bi).trans bj).step immM ((((ah.trans au).trans bh).trans bi).trans bj).to'),cQ.pk,ee,(((((((((((dq.trans af).trans ab).trans aE).trans bg).trans cd).trans ar).trans ah).trans au).trans bh).trans bi).trans bj)⟩
  refine (qao bZ cK (oi:=4) (cs:=[.bool false]) kz fun iT ag cR eg=>?_)
  have eh:=TT.ofW (ab.trans ag) cR
  refine ⟨fun _=>eh,?_⟩
  refine qap (i:=1) kz (qao cR eg (oi:=4) (cs:=[.bool true]) kz fun iU ai bF ei=>?_)
  have ej:=TT.ofW ((ab.trans ag).trans ai) bF
  refine ⟨fun _=>ej,?_⟩
  refine qap (i:=3) kz (qbq [0,2,3,4,29,30,34] bF.cells ei (env':=[(0,.p 0 0),(2,.p 1 0),(3,.p 3 0),(4,.v (.int .i64 ((k1_:Nat):Int))),(29,.v (.int .i64 (((D.f 1).l:Nat):Int))),(30,.v (.int .i64 ((k1_:Nat):Int))),(34,.v (.bool true))]) kz fun iV cS=>?_)
  have ek:=TT.ofW ((ab.trans ag).trans ai) bF
  refine ⟨fun _=>ek,?_⟩
  refine qaC kz ?_ _
  refine qab (qa9 cS (b:=true) kz rfl ?_)
  refine qaE 17 kz bF fun iW aF aj bG=>?_
  refine qaF [0,1,5,6,7,8,9] [(0,.p 0 0),(2,.p 1 0),(3,.p 3 0),(29,.v (.int .i64 (((D.f 1).l:Nat):Int))),(30,.v (.int .i64 ((k1_:Nat):Int))),(36,.v (.slice (some ⟨aa,0,none⟩) 2 2)),(43,.v (.slice ((D.f 1).A) ((D.f 1).l) ((D.f 1).c))),(44,.v (.int .i64 ((k1_:Nat):Int)))] 11 (qaa (qac (qaa (qaa (qac (qaa qae)))))) (fun _ h=>h.cells) bG cS fun iX em=>?_
  refine qaH em (i:=2) (t:=34) (A:=(some ⟨aa,0,none⟩)) (m:=2) (q:=1) (d:=37) kz (e:=37) (size:=5) (bytes:=88) (j:=1) kz (b:=aa) (o:=0) rfl rfl (by decide) kz kz (qaa (qac (qaa (qaa (qac (qaa qae)))))) bG fun iY eo=>?_
  have ep:=eo.recast 37 (.v (.pointer (some ⟨aa,0 + 1 * 5,none⟩))) (.p 2 5) rfl rfl (zN (n:=3) rfl)
  have eu:=ep.pk (env':=[(0,.p 0 0),(2,.p 1 0),(3,.p 3 0),(29,.v (.int .i64 (((D.f 1).l:Nat):Int))),(30,.v (.int .i64 ((k1_:Nat):Int))),(36,.v (.slice (some ⟨aa,0,none⟩) 2 2)),(43,.v (.slice ((D.f 1).A) ((D.f 1).l) ((D.f 1).c))),(44,.v (.int .i64 ((k1_:Nat):Int))),(37,.p 2 5)])
  refine qaF [3,4,12] [(0,.p 0 0),(2,.p 1 0),(3,.p 3 0),(29,.v (.int .i64 (((D.f 1).l:Nat):Int))),(30,.v (.int .i64 ((k1_:Nat):Int))),(36,.v (.slice (some ⟨aa,0,none⟩) 2 2)),(39,.v (.slice A1_ k1_ c1_)),(43,.v (.slice ((D.f 1).A) ((D.f 1).l) ((D.f 1).c))),(44,.v (.int .i64 ((k1_:Nat):Int))),(47,.v (.int .i64 ((k1_:Nat):Int)))] 7 (qaa (qac (qaa (qaa (qac (qaa qae)))))) (fun _ h=>h.cells) bG eu fun iZ ev=>?_
  obtain ⟨cI,cJ,ew,gQ,cu⟩:=Slots.get g2 (i:=k1_) (by omega)
  refine qaH ev (i:=10) (t:=116) (A:=(D.f 1).A) (m:=((D.f 1).l)) (q:=((k1_:Nat):Int)) (d:=45) kz (e:=168) (size:=7) (bytes:=40) kz ew rfl (by omega) kz kz (qaa (qac (qaa (qaa (qac (qaa qae)))))) bG fun i6 cT=>?_
  refine qdV (i:=11) (j:=13) kz ?_ ?_
  ·
   refine (qal cT (f:=118) (vs:=[.pointer (some ⟨cI,cJ + k1_ * 7,none⟩)]) (d:=46) kz Tryz.call118 (qbx 0 ((D.f 1).f k1_) _ _ _ _ (cu.move aj.step nilM aj.imm) (qaX _ aj.step nilM aj.imm (g2e k1_ (by omega)))) ?_)
   rintro e_ i7 ⟨gR,rfl,ey,cw⟩
   have cz:=ey.move (Step.refl _ Nil) nilM (aj.laid (G:=F) cw)
   obtain ⟨aH,aI,aJ,aK,aL,aM,aN,aO,aP,aQ,aR,gS,gT,cA,gw,gx,ja,jb⟩:=cz.open_
   rw [cA] at cz
   have gy:=gw.small
   have gz:=gx.small
   rw [cA]
   refine ⟨_,rfl,fun jc ez=>?_⟩
   have cU:=aj.next_nil cw
   have av:=aj.frN cw
   have eB:=TT.ofW av cU
   refine ⟨fun _=>eB,?_⟩
   refine qap (i:=13) kz (qbB cU ez (e:=37) (size:=5) (len:=1) (cs:=z0) (d:=48) kz kz fun dv jd je gU gV ak bH eC=>?_)
   have eD:=TT.ofW (av.trans ak) bH
   refine ⟨fun _=>eD,?_⟩
   refine qap (i:=14) kz (qaR bH eC (k:=1) (d:=49) (t:=34) (e:=37) (size:=5) (bytes:=88) (A:=A1_) (As:=(some ⟨dv,0,none⟩)) (m0:=k1_) (c:=c1_) (m:=1) (cs:=1) (xs:=xs1_) (news:=z0) kz kz rfl (qbI (bH.own 2 _ rfl) (qbE kz)) (qbQ (bH.own 2 _ rfl)) (by omega) fun am aw jf jg ax cB eE=>?_)
   have eF:=TT.ofW ((av.trans ak).trans ax) cB
   refine ⟨fun _=>eF,?_⟩
   refine qap (i:=15) kz (qaB eE (t:=34) (A:=(some ⟨aa,0,none⟩)) (m:=2) (q:=1) (d:=50) kz (e:=37) (size:=5) (bytes:=88) (j:=1) kz (b:=aa) (o:=0) rfl rfl (by decide) fun jh eG=>?_)
   have eH:=eG.recast 50 (.v (.pointer (some ⟨aa,0 + 1 * 5,none⟩))) (.p 2 5) rfl rfl (zN (n:=3) rfl)
   have eI:=eH.pk (env':=[(0,.p 0 0),(2,.p 1 0),(3,.p 3 0),(29,.v (.int .i64 (((D.f 1).l:Nat):Int))),(30,.v (.int .i64 ((k1_:Nat):Int))),(36,.v (.slice (some ⟨aa,0,none⟩) 2 2)),(39,.v (.slice A1_ k1_ c1_)),(43,.v (.slice ((D.f 1).A) ((D.f 1).l) ((D.f 1).c))),(44,.v (.int .i64 ((k1_:Nat):Int))),(47,.v (.int .i64 ((k1_:Nat):Int))),(45,.v (.pointer (some ⟨cI,cJ + k1_ * 7,none⟩))),(46,.v (.agg #[.int .i64 aH,.slice aM aI.length aN,.bool aJ,.slice aO aK.length aP,.slice aQ aL.length aR])),(48,.v (.slice (some ⟨dv,0,none⟩) 1 1)),(49,.v (.slice am (k1_ + 1) aw)),(50,.p 2 5)])
   have cV:=TT.ofW ((av.trans ak).trans ax) cB
   refine ⟨fun _=>cV,?_⟩
   refine qaF [16] [(0,.p 0 0),(2,.p 1 0),(3,.p 3 0),(29,.v (.int .i64 (((D.f 1).l:Nat):Int))),(30,.v (.int .i64 ((k1_:Nat):Int))),(46,.v (.agg #[.int .i64 aH,.slice aM aI.length aN,.bool aJ,.slice aO aK.length aP,.slice aQ aL.length aR])),(47,.v (.int .i64 ((k1_:Nat):Int))),(49,.v (.slice am (k1_ + 1) aw)),(51,.p 2 8)] 1 (qaa (qac (qaa (qaa (qac (qaa qae)))))) (fun _ h=>h.cells) cV eI fun ji eJ=>?_
   refine qap (i:=17) kz (qao cB eJ (oi:=2) (cs:=(z11 ac D ae am k1_ aw)) kz fun gA bk cW eK=>?_)
   refine ⟨fun h=>absurd rfl h,?_⟩
   refine qaC kz ?_ _
   refine qab (qau [0,1] kz ?_)
   have eL:World.ownsRow gA 0 37 5 (.slice am (k1_ + 1) aw) (k1_ + 1) (xs1_ ++ z0):=cW.own 1 _ rfl
   obtain ⟨eM,cX⟩:=qcj eL (by omega)
   refine qan (qaB eK (t:=34) (A:=am) (m:=(k1_ + 1)) (q:=((k1_:Nat):Int)) (d:=52) kz (e:=37) (size:=5) (bytes:=88) kz (b:=eM) (o:=0) (j:=k1_) cX (rfl) (by omega) fun jj eN=>?_)
   refine qan (qb6 cW eN (k:=1) (g:=eM) (o:=k1_ * 5) (c:=aw) (m:=(k1_ + 1)) (size:=5) (e:=37) (A:=am) (xs:=(xs1_ ++ [.int .i64 0,.slice none 0 0,.bool false,.slice none 0 0,.slice none 0 0])) (vs:=[.int .i64 aH,.slice aM aI.length aN,.bool aJ,.slice aO aK.length aP,.slice aQ aL.length aR]) kz rfl cX (by simp only [List.length_cons,List.length_nil]; omega) fun jk bn eO eP=>?_)
   have eQ:(⟨am,aw,37,5,k1_ + 1,qbA (xs1_ ++ [.int .i64 0,.slice none 0 0,.bool false,.slice none 0 0,.slice none 0 0]) (k1_ * 5) [.int .i64 aH,.slice aM aI.length aN,.bool aJ,.slice aO aK.length aP,.slice aQ aL.length aR]⟩:Rw) = ⟨am,aw,37,5,k1_ + 1,xs1_ ++ [.int .i64 aH,.slice aM aI.length aN,.bool aJ,.slice aO aK.length aP,.slice aQ aL.length aR]⟩:=by rw [qcW (by rw [hT1_.xslen,List.length_take,qcl]; omega)]
   obtain ⟨cY,bo⟩:=eO.rowEq 1 [brow ac ae 5 ((D.f 0).o),⟨am,aw,37,5,k1_ + 1,xs1_ ++ (z1 aH aM aI.length aN aJ aO aK.length aP aQ aL.length aR)⟩,⟨some ⟨dv,0,none⟩,1,37,5,1,z0⟩] eQ
   refine qag (qav (qab (qau [0,1] kz ?_)))
   refine qak [0,1] [] [(0,.p 0 0),(2,.p 1 0),(3,.p 3 0),(29,.v (.int .i64 (((D.f 1).l:Nat):Int))),(30,.v (.int .i64 (IntKind.i64.wrap (((k1_:Nat):Int) + 1))))] cY eP fun jl eR=>?_
   refine qag (qab ?_)
   obtain ⟨cZ,eS,bp⟩:=cY.cutB eR 4 (z8 b o D b5 aa ac ae am k1_ aw bB) [(0,.p 0 0),(2,.p 1 0),(3,.p 3 0),(29,.v (.int .i64 (((D.f 1).l:Nat):Int))),(30,.v (.int .i64 (IntKind.i64.wrap (((k1_:Nat):Int) + 1))))]
   obtain ⟨eU,bq⟩:=eS.cutR 2 [brow ac ae 5 ((D.f 0).o),⟨am,aw,37,5,k1_ + 1,xs1_ ++ (z1 aH aM aI.length aN aJ aO aK.length aP aQ aL.length aR)⟩]
   have eV:IntKind.i64.wrap (((k1_:Nat):Int) + 1) = ((k1_ + 1:Nat):Int):=qaS (by omega)
   rw [eV] at cZ
   exact ⟨(D.f 1).l - (k1_ + 1),by omega,k1_ + 1,am,aw,xs1_ ++ [Value.int .i64 aH,.slice aM aI.length aN,.bool aJ,.slice aO aK.length aP,.slice aQ aL.length aR],(css1_ ++ [[Value.int .i64 aH,.slice aM aI.length aN,.bool aJ,.slice aO aK.length aP,.slice aQ aL.length aR]]),rfl,by omega,by rw [qcA (by omega)]; exact (hT1_.move ((((((((((((af.trans ab).trans ag).trans ai).trans aF).trans av).trans ak).trans ax).trans bk).trans bn).trans bo).trans bp).trans bq).step immM ((((((((((((af.trans ab).trans ag).trans ai).trans aF).trans av).trans ak).trans ax).trans bk).trans bn).trans bo).trans bp).trans bq).to').snoc (x:=(fun i=>qaP ((D.f 1).f i)) k1_) (cz.move ((((((ak.trans ax).trans bk).trans bn).trans bo).trans bp).trans bq).step immM ((((((ak.trans ax).trans bk).trans bn).trans bo).trans bp).trans bq).to'),cZ.pk,eU,(((((((((((((dq.trans af).trans ab).trans ag).trans ai).trans aF).trans av).trans ak).trans ax).trans bk).trans bn).trans bo).trans bp).trans bq)⟩
  refine (qbB aj cT (e:=37) (size:=5) (len:=1) (cs:=z0) (d:=48) kz kz fun dw jm jn gW gX ay al eW=>?_)
  have eX:=TT.ofW ay al
  refine ⟨fun _=>eX,?_⟩
  refine qap (i:=11) kz (qal eW (f:=118) (vs:=[.pointer (some ⟨cI,cJ + k1_ * 7,none⟩)]) (d:=46) kz Tryz.call118 (qbx 0 ((D.f 1).f k1_) _ _ _ _ (cu.move al.step nilM al.imm) (qaX _ al.step nilM al.imm (g2e k1_ (by omega)))) ?_)
  rintro e_ jo ⟨gY,rfl,eY,cC⟩
  have cD:=eY.move (Step.refl _ Nil) nilM (al.laid (G:=F) cC)
  obtain ⟨aS,aT,aU,aV,aW,aX,aY,aZ,ba,bd,bf,gZ,g9,cE,gB,gC,jp,jq⟩:=cD.open_
  rw [cE] at cD
  have gD:=gB.small
  have gE:=gC.small
  rw [cE]
  refine ⟨_,rfl,fun jr eZ=>?_⟩
  have bI:=al.next_nil cC
  have aG:=al.frN cC
  have e9:=TT.ofW (ay.trans aG) bI
  refine ⟨fun _=>e9,?_⟩
  refine qap (i:=14) kz (qaR bI eZ (k:=1) (d:=49) (t:=34) (e:=37) (size:=5) (bytes:=88) (A:=A1_) (As:=(some ⟨dw,0,none⟩)) (m0:=k1_) (c:=c1_) (m:=1) (cs:=1) (xs:=xs1_) (news:=z0) kz kz rfl (qbI (bI.own 2 _ rfl) (qbE kz)) (qbQ (bI.own 2 _ rfl)) (by omega) fun ao az js jt aA cG fb=>?_)
  have fe:=TT.ofW ((ay.trans aG).trans aA) cG
  refine ⟨fun _=>fe,?_⟩
  refine qap (i:=15) kz (qaB fb (t:=34) (A:=(some ⟨aa,0,none⟩)) (m:=2) (q:=1) (d:=50) kz (e:=37) (size:=5) (bytes:=88) (j:=1) kz (b:=aa) (o:=0) rfl rfl (by decide) fun ju ff=>?_)
  have fg:=ff.recast 50 (.v (.pointer (some ⟨aa,0 + 1 * 5,none⟩))) (.p 2 5) rfl rfl (zN (n:=3) rfl)
  have fh:=fg.pk (env':=[(0,.p 0 0),(2,.p 1 0),(3,.p 3 0),(29,.v (.int .i64 (((D.f 1).l:Nat):Int))),(30,.v (.int .i64 ((k1_:Nat):Int))),(36,.v (.slice (some ⟨aa,0,none⟩) 2 2)),(39,.v (.slice A1_ k1_ c1_)),(43,.v (.slice ((D.f 1).A) ((D.f 1).l) ((D.f 1).c))),(44,.v (.int .i64 ((k1_:Nat):Int))),(47,.v (.int .i64 ((k1_:Nat):Int))),(45,.v (.pointer (some ⟨cI,cJ + k1_ * 7,none⟩))),(48,.v (.slice (some ⟨dw,0,none⟩) 1 1)),(46,.v (.agg #[.int .i64 aS,.slice aX aT.length aY,.bool aU,.slice aZ aV.length ba,.slice bd aW.length bf])),(49,.v (.slice ao (k1_ + 1) az)),(50,.p 2 5)])
  have c5:=TT.ofW ((ay.trans aG).trans aA) cG
  refine ⟨fun _=>c5,?_⟩
  refine qaF [16] [(0,.p 0 0),(2,.p 1 0),(3,.p 3 0),(29,.v (.int .i64 (((D.f 1).l:Nat):Int))),(30,.v (.int .i64 ((k1_:Nat):Int))),(46,.v (.agg #[.int .i64 aS,.slice aX aT.length aY,.bool aU,.slice aZ aV.length ba,.slice bd aW.length bf])),(47,.v (.int .i64 ((k1_:Nat):Int))),(49,.v (.slice ao (k1_ + 1) az)),(51,.p 2 8)] 1 (qaa (qac (qaa (qaa (qac (qaa qae)))))) (fun _ h=>h.cells) c5 fh fun jv fi=>?_
  refine qap (i:=17) kz (qao cG fi (oi:=2) (cs:=(z11 ac D ae ao k1_ az)) kz fun gF bt c6 fj=>?_)
  refine ⟨fun h=>absurd rfl h,?_⟩
  refine qaC kz ?_ _
  refine qab (qau [0,1] kz ?_)
  have fk:World.ownsRow gF 0 37 5 (.slice ao (k1_ + 1) az) (k1_ + 1) (xs1_ ++ z0):=c6.own 1 _ rfl
  obtain ⟨fm,da⟩:=qcj fk (by omega)
  refine qan (qaB fj (t:=34) (A:=ao) (m:=(k1_ + 1)) (q:=((k1_:Nat):Int)) (d:=52) kz (e:=37) (size:=5) (bytes:=88) kz (b:=fm) (o:=0) (j:=k1_) da (rfl) (by omega) fun jw fo=>?_)
  refine qan (qb6 c6 fo (k:=1) (g:=fm) (o:=k1_ * 5) (c:=az) (m:=(k1_ + 1)) (size:=5) (e:=37) (A:=ao) (xs:=(xs1_ ++ [.int .i64 0,.slice none 0 0,.bool false,.slice none 0 0,.slice none 0 0])) (vs:=[.int .i64 aS,.slice aX aT.length aY,.bool aU,.slice aZ aV.length ba,.slice bd aW.length bf]) kz rfl da (by simp only [List.length_cons,List.length_nil]; omega) fun jx bu fq fr=>?_)
  have ft:(⟨ao,az,37,5,k1_ + 1,qbA (xs1_ ++ [.int .i64 0,.slice none 0 0,.bool false,.slice none 0 0,.slice none 0 0]) (k1_ * 5) [.int .i64 aS,.slice aX aT.length aY,.bool aU,.slice aZ aV.length ba,.slice bd aW.length bf]⟩:Rw) = ⟨ao,az,37,5,k1_ + 1,xs1_ ++ [.int .i64 aS,.slice aX aT.length aY,.bool aU,.slice aZ aV.length ba,.slice bd aW.length bf]⟩:=by rw [qcW (by rw [hT1_.xslen,List.length_take,qcl]; omega)]
  obtain ⟨db,bw⟩:=fq.rowEq 1 [brow ac ae 5 ((D.f 0).o),⟨ao,az,37,5,k1_ + 1,xs1_ ++ (z1 aS aX aT.length aY aU aZ aV.length ba bd aW.length bf)⟩,⟨some ⟨dw,0,none⟩,1,37,5,1,z0⟩] ft
  refine qag (qav (qab (qau [0,1] kz ?_)))
  refine qak [0,1] [] [(0,.p 0 0),(2,.p 1 0),(3,.p 3 0),(29,.v (.int .i64 (((D.f 1).l:Nat):Int))),(30,.v (.int .i64 (IntKind.i64.wrap (((k1_:Nat):Int) + 1))))] db fr fun jy fv=>?_
  refine qag (qab ?_)
  obtain ⟨dc,fw,bx⟩:=db.cutB fv 4 (z8 b o D b5 aa ac ae ao k1_ az bB) [(0,.p 0 0),(2,.p 1 0),(3,.p 3 0),(29,.v (.int .i64 (((D.f 1).l:Nat):Int))),(30,.v (.int .i64 (IntKind.i64.wrap (((k1_:Nat):Int) + 1))))]
  obtain ⟨fx,bz⟩:=fw.cutR 2 [brow ac ae 5 ((D.f 0).o),⟨ao,az,37,5,k1_ + 1,xs1_ ++ (z1 aS aX aT.length aY aU aZ aV.length ba bd aW.length bf)⟩]
  have fy:IntKind.i64.wrap (((k1_:Nat):Int) + 1) = ((k1_ + 1:Nat):Int):=qaS (by omega)
  rw [fy] at dc
  exact ⟨(D.f 1).l - (k1_ + 1),by omega,k1_ + 1,ao,az,xs1_ ++ [Value.int .i64 aS,.slice aX aT.length aY,.bool aU,.slice aZ aV.length ba,.slice bd aW.length bf],(css1_ ++ [[Value.int .i64 aS,.slice aX aT.length aY,.bool aU,.slice aZ aV.length ba,.slice bd aW.length bf]]),rfl,by omega,by rw [qcA (by omega)]; exact (hT1_.move ((((((((((((af.trans ab).trans ag).trans ai).trans aF).trans ay).trans aG).trans aA).trans bt).trans bu).trans bw).trans bx).trans bz).step immM ((((((((((((af.trans ab).trans ag).trans ai).trans aF).trans ay).trans aG).trans aA).trans bt).trans bu).trans bw).trans bx).trans bz).to').snoc (x:=(fun i=>qaP ((D.f 1).f i)) k1_) (cD.move (((((aA.trans bt).trans bu).trans bw).trans bx).trans bz).step immM (((((aA.trans bt).trans bu).trans bw).trans bx).trans bz).to'),dc.pk,fx,(((((((((((((dq.trans af).trans ab).trans ag).trans ai).trans aF).trans ay).trans aG).trans aA).trans bt).trans bu).trans bw).trans bx).trans bz)⟩
 have hC:=zF dt
 refine wp_exit (qay (qay (qaQ (qab (qaf [0,1,2,3,4] kz ?_)))))
 refine qak [0,1,2] [3,4] [(2,.p 1 0),(3,.p 3 0),(74,.p 0 17)] aB dr fun jz fz=>?_
 refine qan (qen fz (v:=.func (.func 119) #[] #[.pointer (some ⟨bB,0,none⟩)]) (d:=75) kz fun jA fA=>?_)
 refine qan (qal fA (f:=59) (vs:=[.pointer (some ⟨b,o + 17,none⟩),.func (.func 119) #[] #[.pointer (some ⟨bB,0,none⟩)]]) (d:=76) kz Tryz.call59 (qec (F:=(Imm F w ip [⟨b,o,[qad ((D.f 0).o.getD 0 0),qad ((D.f 0).o.getD 1 0),qad ((D.f 0).o.getD 2 0),qad ((D.f 0).o.getD 3 0),qad ((D.f 0).o.getD 4 0),qad ((D.f 0).o.getD 5 0),qad ((D.f 0).o.getD 6 0),qad ((D.f 0).o.getD 7 0),qad ((D.f 0).o.getD 8 0),qad ((D.f 0).o.getD 9 0),qad ((D.f 0).o.getD 10 0),qad ((D.f 0).o.getD 11 0),qad ((D.f 0).o.getD 12 0),qad ((D.f 0).o.getD 13 0),qad ((D.f 0).o.getD 14 0),qad ((D.f 0).o.getD 15 0),.slice ((D.f 1).A) ((D.f 1).l) ((D.f 1).c),.map D.m],false⟩,⟨b5,0,z0,true⟩,⟨aa,0,(z85 ac D ae A1_ k1_ c1_),true⟩,⟨bB,0,(z44 aa),true⟩] [brow ac ae 5 ((D.f 0).o),⟨A1_,c1_,37,5,k1_,xs1_⟩])) Tryz.call119 qcS ((hat.one 17 rfl).move aB.step nilM aB.imm) (g3.move aB.step nilM aB.imm) (Str.of aB 3 rfl) (qiZ 3 rfl) g3l) ?_)
 rintro e_ jB ⟨rfl,aC,aD,dx,fB,fC⟩
 obtain ⟨cH,de,fD⟩:=aB.wrote 3 [⟨b,o,[qad ((D.f 0).o.getD 0 0),qad ((D.f 0).o.getD 1 0),qad ((D.f 0).o.getD 2 0),qad ((D.f 0).o.getD 3 0),qad ((D.f 0).o.getD 4 0),qad ((D.f 0).o.getD 5 0),qad ((D.f 0).o.getD 6 0),qad ((D.f 0).o.getD 7 0),qad ((D.f 0).o.getD 8 0),qad ((D.f 0).o.getD 9 0),qad ((D.f 0).o.getD 10 0),qad ((D.f 0).o.getD 11 0),qad ((D.f 0).o.getD 12 0),qad ((D.f 0).o.getD 13 0),qad ((D.f 0).o.getD 14 0),qad ((D.f 0).o.getD 15 0),.slice ((D.f 1).A) ((D.f 1).l) ((D.f 1).c),.map D.m],false⟩,⟨b5,0,z0,true⟩,⟨aa,0,(z85 ac D ae A1_ k1_ c1_),true⟩,⟨bB,0,(z53 aa aC D aD),true⟩] rfl fC dx
 have df:=fB.move (Step.refl _ Nil) nilM (fun b_ o_ h_ hb_=>fD (G:=F) b_ o_ (.inr h_) hb_)
 refine ⟨_,rfl,fun jC fE=>?_⟩
 have fF:=(EnvOk.places (tb':=[⟨b,o,[qad ((D.f 0).o.getD 0 0),qad ((D.f 0).o.getD 1 0),qad ((D.f 0).o.getD 2 0),qad ((D.f 0).o.getD 3 0),qad ((D.f 0).o.getD 4 0),qad ((D.f 0).o.getD 5 0),qad ((D.f 0).o.getD 6 0),qad ((D.f 0).o.getD 7 0),qad ((D.f 0).o.getD 8 0),qad ((D.f 0).o.getD 9 0),qad ((D.f 0).o.getD 10 0),qad ((D.f 0).o.getD 11 0),qad ((D.f 0).o.getD 12 0),qad ((D.f 0).o.getD 13 0),qad ((D.f 0).o.getD 14 0),qad ((D.f 0).o.getD 15 0),.slice ((D.f 1).A) ((D.f 1).l) ((D.f 1).c),.map D.m],false⟩,⟨b5,0,[.int .i64 0,.slice none 0 0,.bool false,.slice none 0 0,.slice none 0 0],true⟩,⟨aa,0,[.int .i64 0,.slice ac (((D.f 0).o).length) ae,.bool false,.slice none 0 0,.slice none 0 0,.int .i64 0,.slice none 0 0,.bool (((D.f 1).A).isNone),.slice A1_ k1_ c1_,.slice none 0 0],true⟩,⟨bB,0,[.int .i64 0,.slice none 0 0,.bool false,.slice (some ⟨aa,0,none⟩) 2 2,.slice aC D.u.length aD],true⟩]) fE (show Pl [⟨b,o,[qad ((D.f 0).o.getD 0 0),qad ((D.f 0).o.getD 1 0),qad ((D.f 0).o.getD 2 0),qad ((D.f 0).o.getD 3 0),qad ((D.f 0).o.getD 4 0),qad ((D.f 0).o.getD 5 0),qad ((D.f 0).o.getD 6 0),qad ((D.f 0).o.getD 7 0),qad ((D.f 0).o.getD 8 0),qad ((D.f 0).o.getD 9 0),qad ((D.f 0).o.getD 10 0),qad ((D.f 0).o.getD 11 0),qad ((D.f 0).o.getD 12 0),qad ((D.f 0).o.getD 13 0),qad ((D.f 0).o.getD 14 0),qad ((D.f 0).o.getD 15 0),.slice ((D.f 1).A) ((D.f 1).l) ((D.f 1).c),.map D.m],false⟩,⟨b5,0,[.int .i64 0,.slice none 0 0,.bool false,.slice none 0 0,.slice none 0 0],true⟩,⟨aa,0,[.int .i64 0,.slice ac (((D.f 0).o).length) ae,.bool false,.slice none 0 0,.slice none 0 0,.int .i64 0,.slice none 0 0,.bool (((D.f 1).A).isNone),.slice A1_ k1_ c1_,.slice none 0 0],true⟩,⟨bB,0,[.int .i64 0,.slice none 0 0,.bool false,.slice (some ⟨aa,0,none⟩) 2 2,.slice none 0 0],true⟩] [⟨b,o,[qad ((D.f 0).o.getD 0 0),qad ((D.f 0).o.getD 1 0),qad ((D.f 0).o.getD 2 0),qad ((D.f 0).o.getD 3 0),qad ((D.f 0).o.getD 4 0),qad ((D.f 0).o.getD 5 0),qad ((D.f 0).o.getD 6 0),qad ((D.f 0).o.getD 7 0),qad ((D.f 0).o.getD 8 0),qad ((D.f 0).o.getD 9 0),qad ((D.f 0).o.getD 10 0),qad ((D.f 0).o.getD 11 0),qad ((D.f 0).o.getD 12 0),qad ((D.f 0).o.getD 13 0),qad ((D.f 0).o.getD 14 0),qad ((D.f 0).o.getD 15 0),.slice ((D.f 1).A) ((D.f 1).l) ((D.f 1).c),.map D.m],false⟩,⟨b5,0,[.int .i64 0,.slice none 0 0,.bool false,.slice none 0 0,.slice none 0 0],true⟩,⟨aa,0,[.int .i64 0,.slice ac (((D.f 0).o).length) ae,.bool false,.slice none 0 0,.slice none 0 0,.int .i64 0,.slice none 0 0,.bool (((D.f 1).A).isNone),.slice A1_ k1_ c1_,.slice none 0 0],true⟩,⟨bB,0,[.int .i64 0,.slice none 0 0,.bool false,.slice (some ⟨aa,0,none⟩) 2 2,.slice aC D.u.length aD],true⟩] from ⟨rfl,rfl,⟨rfl,rfl,⟨rfl,rfl,⟨rfl,rfl,trivial⟩⟩⟩⟩)).pk (env':=[(76,.v (.tuple #[])),(2,.p 1 0),(3,.p 3 0),(74,.p 0 17),(75,.v (.func (.func 119) #[] #[.pointer (some ⟨bB,0,none⟩)]))])
 refine qag (qab ?_)
 refine qaf [0,1,2] kz ?_
 refine qak [0,1] [2] [(2,.p 1 0),(3,.p 3 0),(78,.v (.slice aC D.u.length aD))] cH fF fun jD fG=>?_
 refine qan (qal fG (f:=61) (vs:=[.slice aC D.u.length aD]) (d:=79) kz Tryz.call61 (qf6 df g3.sorted) ?_)
 rintro e_ jE ⟨rfl,dg⟩
 refine ⟨_,rfl,fun jF fH=>?_⟩
 have dh:=cH.next_nil dg
 have bJ:=cH.frN dg
 refine qag (qab ?_)
 refine qaf [0,1] kz ?_
 refine qak [0] [1] [(2,.p 1 0),(80,.v (.agg #[.int .i64 0,.slice none 0 0,.bool false,.slice (some ⟨aa,0,none⟩) 2 2,.slice aC D.u.length aD]))] dh fH fun jG fI=>?_
 refine qan (qao dh fI (oi:=1) (cs:=(z53 aa aC D aD)) kz fun gG bK bA fJ=>?_)
 refine qag (qab ?_)
 refine wp_ret (qaK fJ bA.cells (v:=.agg #[.int .i64 0,.slice none 0 0,.bool false,.slice (some ⟨aa,0,none⟩) 2 2,.slice aC D.u.length aD]) kz ?_)
 have di:=(hT1_.move ((de.trans bJ).trans bK).step immM ((de.trans bJ).trans bK).to')
 rw [qgV (by omega)] at di
 exact qe5 (u:=D.u) (l:=[.mk 0 (D.f 0).o false [] [],.mk 0 [] (D.f 1).A.isNone ((List.range (D.f 1).l).map fun i=>qaP ((D.f 1).f i)) []]) (css:=[[.int .i64 0,.slice ac (((D.f 0).o).length) ae,.bool false,.slice none 0 0,.slice none 0 0],[.int .i64 0,.slice none 0 0,.bool (((D.f 1).A).isNone),.slice A1_ k1_ c1_,.slice none 0 0]]) bA 2 rfl ⟨TreeR.mk (n:=0) (b:=false) (l:=[]) (u:=[]) (fun _=>[]) (qcF (bA.own 0 _ rfl) (by rw [g1]; decide) (qid (F:=F) bA (k:=0) rfl)) (Slots.nil _ _ 5 _) (fun _ _ h_=>by simp at h_) (TagsR.nil _ _),qf5 bA (k:=1) rfl di (by rw [qcl]; omega) (by rw [qcl]; omega),trivial⟩ ((show TagsR _ (Imm F w gG [⟨b,o,[qad ((D.f 0).o.getD 0 0),qad ((D.f 0).o.getD 1 0),qad ((D.f 0).o.getD 2 0),qad ((D.f 0).o.getD 3 0),qad ((D.f 0).o.getD 4 0),qad ((D.f 0).o.getD 5 0),qad ((D.f 0).o.getD 6 0),qad ((D.f 0).o.getD 7 0),qad ((D.f 0).o.getD 8 0),qad ((D.f 0).o.getD 9 0),qad ((D.f 0).o.getD 10 0),qad ((D.f 0).o.getD 11 0),qad ((D.f 0).o.getD 12 0),qad ((D.f 0).o.getD 13 0),qad ((D.f 0).o.getD 14 0),qad ((D.f 0).o.getD 15 0),.slice ((D.f 1).A) ((D.f 1).l) ((D.f 1).c),.map D.m],false⟩,⟨b5,0,[.int .i64 0,.slice none 0 0,.bool false,.slice (some ⟨aa,0,none⟩) 2 2,.slice aC D.u.length aD],true⟩,⟨aa,0,[.int .i64 0,.slice ac (((D.f 0).o).length) ae,.bool false,.slice none 0 0,.slice none 0 0,.int .i64 0,.slice none 0 0,.bool (((D.f 1).A).isNone),.slice A1_ k1_ c1_,.slice none 0 0],true⟩,⟨bB,0,[.int .i64 0,.slice none 0 0,.bool false,.slice (some ⟨aa,0,none⟩) 2 2,.slice aC D.u.length aD],true⟩] [brow ac ae 5 ((D.f 0).o),⟨A1_,c1_,37,5,k1_,xs1_⟩]) _ _ _ from (df.move (bJ.trans bK).step immM (bJ.trans bK).to')).move (Step.refl _ Nil) nilM qbP)
abbrev z20 (x0:DV) (x1) (x2) (x3) (x4) (x5) (x6) (x7) (x8) (x9) (x10) (x11) (x12) (x13):=([.int .i64 (IntKind.i64.wrap ((x0.f 0).n)),.slice none 0 0,.bool false,.slice none 0 0,.slice none 0 0,.int .i64 0,.slice (some ⟨x1,0,none⟩) ((sb ((x0.f 1).s)).length) x2,.bool false,.slice none 0 0,.slice none 0 0,.int .i64 (IntKind.i64.wrap ((x0.f 2).n)),.slice none 0 0,.bool false,.slice none 0 0,.slice none 0 0,.int .i64 x3,.slice x4 x5 x6,.bool x7,.slice x8 x9 x10,.slice x11 x12 x13]:List Value)
abbrev z31 (x0:DV) (x1) (x2):=([.int .i64 (IntKind.i64.wrap ((x0.f 0).n)),.slice none 0 0,.bool false,.slice none 0 0,.slice none 0 0,.int .i64 0,.slice (some ⟨x1,0,none⟩) ((sb ((x0.f 1).s)).length) x2,.bool false,.slice none 0 0,.slice none 0 0,.int .i64 (IntKind.i64.wrap ((x0.f 2).n)),.slice none 0 0,.bool false,.slice none 0 0,.slice none 0 0,.int .i64 0,.slice none 0 0,.bool false,.slice none 0 0,.slice none 0 0]:List Value)
abbrev z34 (x0:DV):=([.int .i32 ((x0.f 0).n),.string ((x0.f 1).s),.int .i32 ((x0.f 2).n),.pointer ((x0.f 3).A),.map x0.m]:List Value)
set_option maxHeartbeats 4000000 in
theorem qbC (v:Int) (D:DV) (b o:Nat) (w:World) (F:Nat → Nat → Prop) (hat:AtF w F b o [.int .i32 ((D.f 0).n),.string ((D.f 1).s),.int .i32 ((D.f 2).n),.pointer ((D.f 3).A),.map D.m]) (hok:qaT w F D):Calls Tryz.prog 75 #[.pointer (some ⟨b,o,none⟩)] w (qdX w F (qaU D)):=by
 refine enter (n:=50) Tryz.func75 rfl Tryz.ntmps75 kz fun a hE=>?_
 have hW:WOk w Nil w [⟨b,o,(z34 D),false⟩] []:=(WOk.start w Nil).start1 hat rfl rfl
 unfold qaT at hok
 obtain ⟨g1,g2,g3,⟨g4,g4l⟩,g5,g5l,g5x,_⟩:=hok
 have hE0:=(EnvOk.ptr0 (cs:=(z34 D)) (r:=false) hE).pk (env':=[(0,.p 0 0)])
 refine qaf [0] kz ?_
 refine qan (qaM hW hE0 (d:=2) (cs:=z0) kz fun b6 a7 w8 hb9 cJ cK bw bx=>?_)
 refine qag (qab ?_)
 refine qaf [0,1,2,3] kz ?_
 refine qan (qdK (t:=34) (e:=37) (size:=5) (bytes:=88) (d:=4) (j:=4) (.agg #[.int .i64 0,.slice none 0 0,.bool false,.slice none 0 0,.slice none 0 0]) z41 bw bx fun aa di dj cL cM cN aQ bz=>?_)
 refine qak [1] [2,3] (z78 aa) aQ bz fun dl bA=>?_
 refine qan (qaM aQ bA (d:=3) (cs:=z0) kz fun ay dp dq cO cP cQ bB bC=>?_)
 refine qan (qao bB bC (oi:=3) (cs:=(z23 aa)) kz fun dr cR bD bE=>?_)
 refine qag (qab ?_)
 refine qaE 9 kz bD fun dt cS bF aR=>?_
 refine qaF [0,1,2,3,4,5,6,7] [(0,.p 0 0),(2,.p 1 0),(3,.p 3 0),(7,.v (.slice (some ⟨aa,0,none⟩) 4 4)),(13,.v (.agg #[.int .i64 (IntKind.i64.wrap ((D.f 0).n)),.slice none 0 0,.bool false,.slice none 0 0,.slice none 0 0]))] 2 (qaa qae) (fun _ h=>h.cells) aR bE fun du bG=>?_
 refine qaH bG (i:=8) (t:=34) (A:=(some ⟨aa,0,none⟩)) (m:=4) (q:=0) (d:=14) kz (e:=37) (size:=5) (bytes:=88) (j:=0) kz (b:=aa) (o:=0) rfl rfl (by decide) kz kz (qaa qae) aR fun dv bH=>?_
 have bI:=bH.recast 14 (.v (.pointer (some ⟨aa,0 + 0 * 5,none⟩))) (.p 2 0) rfl rfl (zN (n:=3) rfl)
 have bJ:=bI.pk (env':=[(0,.p 0 0),(2,.p 1 0),(3,.p 3 0),(7,.v (.slice (some ⟨aa,0,none⟩) 4 4)),(13,.v (.agg #[.int .i64 (IntKind.i64.wrap ((D.f 0).n)),.slice none 0 0,.bool false,.slice none 0 0,.slice none 0 0])),(14,.p 2 0)])
 refine qap (i:=9) kz (qao bF bJ (oi:=2) (cs:=(z39 D)) kz fun dw cT bK bL=>?_)
 refine ⟨fun h=>absurd rfl h,?_⟩
 refine qaC kz ?_ _
 refine qab (qaE 9 kz bK fun dx cU bM bN=>?_)
 refine qaF [0,1,2,3,4,5] [(0,.p 0 0),(2,.p 1 0),(3,.p 3 0),(16,.v (.slice (some ⟨aa,0,none⟩) 4 4)),(20,.v (.string ((D.f 1).s)))] 4 (qaa qae) (fun _ h=>h.cells) bN bL fun dy bO=>?_
 refine qap (i:=6) kz (qgu (d:=21) (src:=9) (dst:=22) (e:=5) (s:=((D.f 1).s)) bM bO (by omega) fun aw ax dz dA bP aS bQ bR=>?_)
 have bS:=bQ F
 have aN:=TT.ofW bP aS
 refine ⟨fun _=>aN,?_⟩
 refine qaF [7] [(0,.p 0 0),(2,.p 1 0),(3,.p 3 0),(16,.v (.slice (some ⟨aa,0,none⟩) 4 4)),(22,.v (.agg #[.int .i64 0,.slice (some ⟨aw,0,none⟩) ((sb ((D.f 1).s)).length) ax,.bool false,.slice none 0 0,.slice none 0 0]))] 2 (qaa qae) (fun _ h=>h.cells) aN bR fun dB bT=>?_
 refine qaH bT (i:=8) (t:=34) (A:=(some ⟨aa,0,none⟩)) (m:=4) (q:=1) (d:=23) kz (e:=37) (size:=5) (bytes:=88) (j:=1) kz (b:=aa) (o:=0) rfl rfl (by decide) kz kz (qaa qae) aN fun dC bU=>?_
 have bV:=bU.recast 23 (.v (.pointer (some ⟨aa,0 + 1 * 5,none⟩))) (.p 2 5) rfl rfl (zN (n:=3) rfl)
 have bW:=bV.pk (env':=[(0,.p 0 0),(2,.p 1 0),(3,.p 3 0),(16,.v (.slice (some ⟨aa,0,none⟩) 4 4)),(22,.v (.agg #[.int .i64 0,.slice (some ⟨aw,0,none⟩) ((sb ((D.f 1).s)).length) ax,.bool false,.slice none 0 0,.slice none 0 0])),(23,.p 2 5)])
 refine qap (i:=9) kz (qao aS bW (oi:=2) (cs:=[.int .i64 (IntKind.i64.wrap ((D.f 0).n)),.slice none 0 0,.bool false,.slice none 0 0,.slice none 0 0,.int .i64 0,.slice (some ⟨aw,0,none⟩) ((sb ((D.f 1).s)).length) ax,.bool false,.slice none 0 0,.slice none 0 0,.int .i64 0,.slice none 0 0,.bool false,.slice none 0 0,.slice none 0 0,.int .i64 0,.slice none 0 0,.bool false,.slice none 0 0,.slice none 0 0]) kz fun dD aT bX bY=>?_)
 refine ⟨fun h=>absurd rfl h,?_⟩
 refine qaC kz ?_ _
 refine qab (qaE 9 kz bX fun dE aU bZ aV=>?_)
 refine qaF [0,1,2,3,4,5,6,7] [(0,.p 0 0),(2,.p 1 0),(3,.p 3 0),(25,.v (.slice (some ⟨aa,0,none⟩) 4 4)),(31,.v (.agg #[.int .i64 (IntKind.i64.wrap ((D.f 2).n)),.slice none 0 0,.bool false,.slice none 0 0,.slice none 0 0]))] 2 (qaa qae) (fun _ h=>h.cells) aV bY fun dF cd=>?_
 refine qaH cd (i:=8) (t:=34) (A:=(some ⟨aa,0,none⟩)) (m:=4) (q:=2) (d:=32) kz (e:=37) (size:=5) (bytes:=88) (j:=2) kz (b:=aa) (o:=0) rfl rfl (by decide) kz kz (qaa qae) aV fun dG ce=>?_
 have cm:=ce.recast 32 (.v (.pointer (some ⟨aa,0 + 2 * 5,none⟩))) (.p 2 10) rfl rfl (zN (n:=3) rfl)
 have cq:=cm.pk (env':=[(0,.p 0 0),(2,.p 1 0),(3,.p 3 0),(25,.v (.slice (some ⟨aa,0,none⟩) 4 4)),(31,.v (.agg #[.int .i64 (IntKind.i64.wrap ((D.f 2).n)),.slice none 0 0,.bool false,.slice none 0 0,.slice none 0 0])),(32,.p 2 10)])
 refine qap (i:=9) kz (qao bZ cq (oi:=2) (cs:=(z31 D aw ax)) kz fun dH aW cr cu=>?_)
 refine ⟨fun h=>absurd rfl h,?_⟩
 refine qaC kz ?_ _
 refine qab (qaE 8 kz cr fun cV aX aB cw=>?_)
 refine qaF [0,1,2,3,4,5] [(0,.p 0 0),(2,.p 1 0),(3,.p 3 0),(34,.v (.slice (some ⟨aa,0,none⟩) 4 4)),(38,.v (.pointer ((D.f 3).A)))] 3 (qaa qae) (fun _ h=>h.cells) cw cu fun dI cz=>?_
 refine qap (i:=6) kz (qal cz (f:=73) (vs:=[.pointer ((D.f 3).A)]) (d:=39) kz Tryz.call73 (qlI _ (D.f 3).s _ (Imm F w cV [⟨b,o,(z34 D),false⟩,⟨b6,0,z0,true⟩,⟨aa,0,(z31 D aw ax),true⟩,⟨ay,0,(z23 aa),true⟩] []) (fun ad h_=>by obtain ⟨b',o',g1,g2⟩:=g4 ad h_; exact ⟨b',o',g1,g2.move aB.step nilM aB.imm⟩) g4l) ?_)
 rintro e_ dJ ⟨cW,rfl,cA,aO⟩
 have aC:=cA.move (Step.refl _ Nil) nilM (aB.laid (G:=F) aO)
 obtain ⟨ae,af,ag,ah,ai,aj,ak,al,am,ao,ap,cH,cI,aD,cB,cC,cX,cY⟩:=aC.open_
 rw [aD] at aC
 have cD:=cB.small
 have cE:=cC.small
 rw [aD]
 refine ⟨_,rfl,fun cZ aY=>?_⟩
 have aH:=aB.next_nil aO
 have aE:=aB.frN aO
 have aI:=TT.ofW aE aH
 refine ⟨fun _=>aI,?_⟩
 refine qaH aY (i:=7) (t:=34) (A:=(some ⟨aa,0,none⟩)) (m:=4) (q:=3) (d:=40) kz (e:=37) (size:=5) (bytes:=88) (j:=3) kz (b:=aa) (o:=0) rfl rfl (by decide) kz kz (qaa qae) aI fun c5 aZ=>?_
 have ba:=aZ.recast 40 (.v (.pointer (some ⟨aa,0 + 3 * 5,none⟩))) (.p 2 15) rfl rfl (zN (n:=3) rfl)
 have bd:=ba.pk (env':=[(0,.p 0 0),(2,.p 1 0),(3,.p 3 0),(34,.v (.slice (some ⟨aa,0,none⟩) 4 4)),(38,.v (.pointer ((D.f 3).A))),(39,.v (.agg #[.int .i64 ae,.slice aj af.length ak,.bool ag,.slice al ah.length am,.slice ao ai.length ap])),(40,.p 2 15)])
 refine qap (i:=8) kz (qao aH bd (oi:=2) (cs:=(z20 D aw ax ae aj af.length ak ag al ah.length am ao ai.length ap)) kz fun cG az ar bf=>?_)
 refine ⟨fun h=>absurd rfl h,?_⟩
 refine qaC kz ?_ _
 refine qab (qaf [0,1,2,3,4] kz ?_)
 refine qak [0,1,2] [3,4] [(2,.p 1 0),(3,.p 3 0),(43,.p 0 4)] ar bf fun c6 bg=>?_
 refine qan (qen bg (v:=.func (.func 120) #[] #[.pointer (some ⟨ay,0,none⟩)]) (d:=44) kz fun da bh=>?_)
 refine qan (qal bh (f:=59) (vs:=[.pointer (some ⟨b,o + 4,none⟩),.func (.func 120) #[] #[.pointer (some ⟨ay,0,none⟩)]]) (d:=45) kz Tryz.call59 (qec (F:=(Imm F w cG [⟨b,o,(z34 D),false⟩,⟨b6,0,z0,true⟩,⟨aa,0,(z20 D aw ax ae aj af.length ak ag al ah.length am ao ai.length ap),true⟩,⟨ay,0,(z23 aa),true⟩] [])) Tryz.call120 qcw ((hat.one 4 rfl).move ar.step nilM ar.imm) (g5.move ar.step nilM ar.imm) (Str.of ar 3 rfl) (qiZ 3 rfl) g5l) ?_)
 rintro e_ db ⟨rfl,ab,ac,aP,bi,bj⟩
 obtain ⟨aF,aA,bk⟩:=ar.wrote 3 [⟨b,o,(z34 D),false⟩,⟨b6,0,z0,true⟩,⟨aa,0,(z20 D aw ax ae aj af.length ak ag al ah.length am ao ai.length ap),true⟩,⟨ay,0,(z54 aa ab D ac),true⟩] rfl bj aP
 have aJ:=bi.move (Step.refl _ Nil) nilM (fun b_ o_ h_ hb_=>bk (G:=F) b_ o_ (.inr h_) hb_)
 refine ⟨_,rfl,fun dc bn=>?_⟩
 have bo:=(EnvOk.places (tb':=[⟨b,o,[.int .i32 ((D.f 0).n),.string ((D.f 1).s),.int .i32 ((D.f 2).n),.pointer ((D.f 3).A),.map D.m],false⟩,⟨b6,0,[.int .i64 0,.slice none 0 0,.bool false,.slice none 0 0,.slice none 0 0],true⟩,⟨aa,0,[.int .i64 (IntKind.i64.wrap ((D.f 0).n)),.slice none 0 0,.bool false,.slice none 0 0,.slice none 0 0,.int .i64 0,.slice (some ⟨aw,0,none⟩) ((sb ((D.f 1).s)).length) ax,.bool false,.slice none 0 0,.slice none 0 0,.int .i64 (IntKind.i64.wrap ((D.f 2).n)),.slice none 0 0,.bool false,.slice none 0 0,.slice none 0 0,.int .i64 ae,.slice aj af.length ak,.bool ag,.slice al ah.length am,.slice ao ai.length ap],true⟩,⟨ay,0,[.int .i64 0,.slice none 0 0,.bool false,.slice (some ⟨aa,0,none⟩) 4 4,.slice ab D.u.length ac],true⟩]) bn (show Pl [⟨b,o,[.int .i32 ((D.f 0).n),.string ((D.f 1).s),.int .i32 ((D.f 2).n),.pointer ((D.f 3).A),.map D.m],false⟩,⟨b6,0,[.int .i64 0,.slice none 0 0,.bool false,.slice none 0 0,.slice none 0 0],true⟩,⟨aa,0,[.int .i64 (IntKind.i64.wrap ((D.f 0).n)),.slice none 0 0,.bool false,.slice none 0 0,.slice none 0 0,.int .i64 0,.slice (some ⟨aw,0,none⟩) ((sb ((D.f 1).s)).length) ax,.bool false,.slice none 0 0,.slice none 0 0,.int .i64 (IntKind.i64.wrap ((D.f 2).n)),.slice none 0 0,.bool false,.slice none 0 0,.slice none 0 0,.int .i64 ae,.slice aj af.length ak,.bool ag,.slice al ah.length am,.slice ao ai.length ap],true⟩,⟨ay,0,[.int .i64 0,.slice none 0 0,.bool false,.slice (some ⟨aa,0,none⟩) 4 4,.slice none 0 0],true⟩] [⟨b,o,[.int .i32 ((D.f 0).n),.string ((D.f 1).s),.int .i32 ((D.f 2).n),.pointer ((D.f 3).A),.map D.m],false⟩,⟨b6,0,[.int .i64 0,.slice none 0 0,.bool false,.slice none 0 0,.slice none 0 0],true⟩,⟨aa,0,[.int .i64 (IntKind.i64.wrap ((D.f 0).n)),.slice none 0 0,.bool false,.slice none 0 0,.slice none 0 0,.int .i64 0,.slice (some ⟨aw,0,none⟩) ((sb ((D.f 1).s)).length) ax,.bool false,.slice none 0 0,.slice none 0 0,.int .i64 (IntKind.i64.wrap ((D.f 2).n)),.slice none 0 0,.bool false,.slice none 0 0,.slice none 0 0,.int .i64 ae,.slice aj af.length ak,.bool ag,.slice al ah.length am,.slice ao ai.length ap],true⟩,⟨ay,0,[.int .i64 0,.slice none 0 0,.bool false,.slice (some ⟨aa,0,none⟩) 4 4,.slice ab D.u.length ac],true⟩] from ⟨rfl,rfl,⟨rfl,rfl,⟨rfl,rfl,⟨rfl,rfl,trivial⟩⟩⟩⟩)).pk (env':=[(45,.v (.tuple #[])),(2,.p 1 0),(3,.p 3 0),(43,.p 0 4),(44,.v (.func (.func 120) #[] #[.pointer (some ⟨ay,0,none⟩)]))])
 refine qag (qab ?_)
 refine qaf [0,1,2] kz ?_
 refine qak [0,1] [2] [(2,.p 1 0),(3,.p 3 0),(47,.v (.slice ab D.u.length ac))] aF bo fun de bp=>?_
 refine qan (qal bp (f:=61) (vs:=[.slice ab D.u.length ac]) (d:=48) kz Tryz.call61 (qf6 aJ g5.sorted) ?_)
 rintro e_ df ⟨rfl,aK⟩
 refine ⟨_,rfl,fun dg bq=>?_⟩
 have aL:=aF.next_nil aK
 have au:=aF.frN aK
 refine qag (qab ?_)
 refine qaf [0,1] kz ?_
 refine qak [0] [1] [(2,.p 1 0),(49,.v (.agg #[.int .i64 0,.slice none 0 0,.bool false,.slice (some ⟨aa,0,none⟩) 4 4,.slice ab D.u.length ac]))] aL bq fun dh bt=>?_
 refine qan (qao aL bt (oi:=1) (cs:=(z54 aa ab D ac)) kz fun aG av aM bu=>?_)
 refine qag (qab ?_)
 refine wp_ret (qaK bu aM.cells (v:=.agg #[.int .i64 0,.slice none 0 0,.bool false,.slice (some ⟨aa,0,none⟩) 4 4,.slice ab D.u.length ac]) kz ?_)
 exact qe5 (u:=D.u) (l:=[.mk (IntKind.i64.wrap (D.f 0).n) [] false [] [],.mk 0 (sb (D.f 1).s) false [] [],.mk (IntKind.i64.wrap (D.f 2).n) [] false [] [],qgd (D.f 3).A (D.f 3).s]) (css:=[[.int .i64 (IntKind.i64.wrap ((D.f 0).n)),.slice none 0 0,.bool false,.slice none 0 0,.slice none 0 0],[.int .i64 0,.slice (some ⟨aw,0,none⟩) ((sb ((D.f 1).s)).length) ax,.bool false,.slice none 0 0,.slice none 0 0],[.int .i64 (IntKind.i64.wrap ((D.f 2).n)),.slice none 0 0,.bool false,.slice none 0 0,.slice none 0 0],[.int .i64 ae,.slice aj af.length ak,.bool ag,.slice al ah.length am,.slice ao ai.length ap]]) aM 2 rfl ⟨(show TreeR _ (Imm F w aG [⟨b,o,[.int .i32 ((D.f 0).n),.string ((D.f 1).s),.int .i32 ((D.f 2).n),.pointer ((D.f 3).A),.map D.m],false⟩,⟨b6,0,[.int .i64 0,.slice none 0 0,.bool false,.slice (some ⟨aa,0,none⟩) 4 4,.slice ab D.u.length ac],true⟩,⟨aa,0,[.int .i64 (IntKind.i64.wrap ((D.f 0).n)),.slice none 0 0,.bool false,.slice none 0 0,.slice none 0 0,.int .i64 0,.slice (some ⟨aw,0,none⟩) ((sb ((D.f 1).s)).length) ax,.bool false,.slice none 0 0,.slice none 0 0,.int .i64 (IntKind.i64.wrap ((D.f 2).n)),.slice none 0 0,.bool false,.slice none 0 0,.slice none 0 0,.int .i64 ae,.slice aj af.length ak,.bool ag,.slice al ah.length am,.slice ao ai.length ap],true⟩,⟨ay,0,[.int .i64 0,.slice none 0 0,.bool false,.slice (some ⟨aa,0,none⟩) 4 4,.slice ab D.u.length ac],true⟩] []) _ _ from (TreeR.mk (n:=IntKind.i64.wrap ((D.f 0).n)) (b:=false) (s:=[]) (l:=[]) (u:=[]) (fun _=>[]) (Octs.nil _ _) (Slots.nil _ _ _ _) (fun i_ x_ h_=>by simp at h_) (TagsR.nil _ _))).move (Step.refl _ Nil) nilM qbP,(show TreeR _ (Imm F w aG [⟨b,o,[.int .i32 ((D.f 0).n),.string ((D.f 1).s),.int .i32 ((D.f 2).n),.pointer ((D.f 3).A),.map D.m],false⟩,⟨b6,0,[.int .i64 0,.slice none 0 0,.bool false,.slice (some ⟨aa,0,none⟩) 4 4,.slice ab D.u.length ac],true⟩,⟨aa,0,[.int .i64 (IntKind.i64.wrap ((D.f 0).n)),.slice none 0 0,.bool false,.slice none 0 0,.slice none 0 0,.int .i64 0,.slice (some ⟨aw,0,none⟩) ((sb ((D.f 1).s)).length) ax,.bool false,.slice none 0 0,.slice none 0 0,.int .i64 (IntKind.i64.wrap ((D.f 2).n)),.slice none 0 0,.bool false,.slice none 0 0,.slice none 0 0,.int .i64 ae,.slice aj af.length ak,.bool ag,.slice al ah.length am,.slice ao ai.length ap],true⟩,⟨ay,0,[.int .i64 0,.slice none 0 0,.bool false,.slice (some ⟨aa,0,none⟩) 4 4,.slice ab D.u.length ac],true⟩] []) _ _ from (TreeR.mk (n:=0) (b:=false) (s:=(sb ((D.f 1).s))) (l:=[]) (u:=[]) (fun _=>[]) (bS.move ((((((((aT.trans aU).trans aW).trans aX).trans aE).trans az).trans aA).trans au).trans av).step immM ((((((((aT.trans aU).trans aW).trans aX).trans aE).trans az).trans aA).trans au).trans av).to') (Slots.nil _ _ _ _) (fun i_ x_ h_=>by simp at h_) (TagsR.nil _ _))).move (Step.refl _ Nil) nilM qbP,(show TreeR _ (Imm F w aG [⟨b,o,[.int .i32 ((D.f 0).n),.string ((D.f 1).s),.int .i32 ((D.f 2).n),.pointer ((D.f 3).A),.map D.m],false⟩,⟨b6,0,[.int .i64 0,.slice none 0 0,.bool false,.slice (some ⟨aa,0,none⟩) 4 4,.slice ab D.u.length ac],true⟩,⟨aa,0,[.int .i64 (IntKind.i64.wrap ((D.f 0).n)),.slice none 0 0,.bool false,.slice none 0 0,.slice none 0 0,.int .i64 0,.slice (some ⟨aw,0,none⟩) ((sb ((D.f 1).s)).length) ax,.bool false,.slice none 0 0,.slice none 0 0,.int .i64 (IntKind.i64.wrap ((D.f 2).n)),.slice none 0 0,.bool false,.slice none 0 0,.slice none 0 0,.int .i64 ae,.slice aj af.length ak,.bool ag,.slice al ah.length am,.slice ao ai.length ap],true⟩,⟨ay,0,[.int .i64 0,.slice none 0 0,.bool false,.slice (some ⟨aa,0,none⟩) 4 4,.slice ab D.u.length ac],true⟩] []) _ _ from (TreeR.mk (n:=IntKind.i64.wrap ((D.f 2).n)) (b:=false) (s:=[]) (l:=[]) (u:=[]) (fun _=>[]) (Octs.nil _ _) (Slots.nil _ _ _ _) (fun i_ x_ h_=>by simp at h_) (TagsR.nil _ _))).move (Step.refl _ Nil) nilM qbP,(show TreeR _ (Imm F w aG [⟨b,o,[.int .i32 ((D.f 0).n),.string ((D.f 1).s),.int .i32 ((D.f 2).n),.pointer ((D.f 3).A),.map D.m],false⟩,⟨b6,0,[.int .i64 0,.slice none 0 0,.bool false,.slice (some ⟨aa,0,none⟩) 4 4,.slice ab D.u.length ac],true⟩,⟨aa,0,[.int .i64 (IntKind.i64.wrap ((D.f 0).n)),.slice none 0 0,.bool false,.slice none 0 0,.slice none 0 0,.int .i64 0,.slice (some ⟨aw,0,none⟩) ((sb ((D.f 1).s)).length) ax,.bool false,.slice none 0 0,.slice none 0 0,.int .i64 (IntKind.i64.wrap ((D.f 2).n)),.slice none 0 0,.bool false,.slice none 0 0,.slice none 0 0,.int .i64 ae,.slice aj af.length ak,.bool ag,.slice al ah.length am,.slice ao ai.length ap],true⟩,⟨ay,0,[.int .i64 0,.slice none 0 0,.bool false,.slice (some ⟨aa,0,none⟩) 4 4,.slice ab D.u.length ac],true⟩] []) _ _ from (aC.move (((az.trans aA).trans au).trans av).step immM (((az.trans aA).trans au).trans av).to')).move (Step.refl _ Nil) nilM qbP,trivial⟩ ((show TagsR _ (Imm F w aG [⟨b,o,[.int .i32 ((D.f 0).n),.string ((D.f 1).s),.int .i32 ((D.f 2).n),.pointer ((D.f 3).A),.map D.m],false⟩,⟨b6,0,[.int .i64 0,.slice none 0 0,.bool false,.slice (some ⟨aa,0,none⟩) 4 4,.slice ab D.u.length ac],true⟩,⟨aa,0,[.int .i64 (IntKind.i64.wrap ((D.f 0).n)),.slice none 0 0,.bool false,.slice none 0 0,.slice none 0 0,.int .i64 0,.slice (some ⟨aw,0,none⟩) ((sb ((D.f 1).s)).length) ax,.bool false,.slice none 0 0,.slice none 0 0,.int .i64 (IntKind.i64.wrap ((D.f 2).n)),.slice none 0 0,.bool false,.slice none 0 0,.slice none 0 0,.int .i64 ae,.slice aj af.length ak,.bool ag,.slice al ah.length am,.slice ao ai.length ap],true⟩,⟨ay,0,[.int .i64 0,.slice none 0 0,.bool false,.slice (some ⟨aa,0,none⟩) 4 4,.slice ab D.u.length ac],true⟩] []) _ _ _ from (aJ.move (au.trans av).step immM (au.trans av).to')).move (Step.refl _ Nil) nilM qbP)
abbrev z5 (x0) (x1:DV):=([.int .i16 x0,.int .i32 ((x1.f 0).n),.int .i16 ((x1.f 1).n),.pointer ((x1.f 2).A),.int .i32 ((x1.f 3).n),.slice ((x1.f 4).A) ((x1.f 4).l) ((x1.f 4).c),.slice ((x1.f 5).A) ((x1.f 5).l) ((x1.f 5).c),.map x1.m]:List Value)
abbrev z2 (x0:DV) (x1) (x2) (x3) (x4) (x5) (x6) (x7) (x8) (x9) (x10) (x11) (x12) (x13) (x14):=([.int .i64 (IntKind.i64.wrap ((x0.f 0).n)),.slice none 0 0,.bool false,.slice none 0 0,.slice none 0 0,.int .i64 (IntKind.i64.wrap ((x0.f 1).n)),.slice none 0 0,.bool false,.slice none 0 0,.slice none 0 0,.int .i64 x1,.slice x2 x3 x4,.bool x5,.slice x6 x7 x8,.slice x9 x10 x11,.int .i64 (IntKind.i64.wrap ((x0.f 3).n)),.slice none 0 0,.bool false,.slice none 0 0,.slice none 0 0,.int .i64 0,.slice none 0 0,.bool (((x0.f 4).A).isNone),.slice x12 (x13 + 1) x14,.slice none 0 0,.int .i64 0,.slice none 0 0,.bool false,.slice none 0 0,.slice none 0 0]:List Value)
abbrev z3 (x0:DV) (x1) (x2) (x3) (x4) (x5) (x6) (x7) (x8) (x9) (x10) (x11) (x12) (x13) (x14) (x15) (x16) (x17):=([.int .i64 (IntKind.i64.wrap ((x0.f 0).n)),.slice none 0 0,.bool false,.slice none 0 0,.slice none 0 0,.int .i64 (IntKind.i64.wrap ((x0.f 1).n)),.slice none 0 0,.bool false,.slice none 0 0,.slice none 0 0,.int .i64 x1,.slice x2 x3 x4,.bool x5,.slice x6 x7 x8,.slice x9 x10 x11,.int .i64 (IntKind.i64.wrap ((x0.f 3).n)),.slice none 0 0,.bool false,.slice none 0 0,.slice none 0 0,.int .i64 0,.slice none 0 0,.bool (((x0.f 4).A).isNone),.slice x12 x13 x14,.slice none 0 0,.int .i64 0,.slice none 0 0,.bool (((x0.f 5).A).isNone),.slice x15 (x16 + 1) x17,.slice none 0 0]:List Value)
abbrev z16 (x0):=([.int .i64 0,.slice none 0 0,.bool false,.slice (some ⟨x0,0,none⟩) 6 6,.slice none 0 0]:List Value)
abbrev z24 (x0:DV):=([.int .i64 (IntKind.i64.wrap ((x0.f 0).n)),.slice none 0 0,.bool false,.slice none 0 0,.slice none 0 0,.int .i64 (IntKind.i64.wrap ((x0.f 1).n)),.slice none 0 0,.bool false,.slice none 0 0,.slice none 0 0,.int .i64 0,.slice none 0 0,.bool false,.slice none 0 0,.slice none 0 0,.int .i64 0,.slice none 0 0,.bool false,.slice none 0 0,.slice none 0 0,.int .i64 0,.slice none 0 0,.bool false,.slice none 0 0,.slice none 0 0,.int .i64 0,.slice none 0 0,.bool false,.slice none 0 0,.slice none 0 0]:List Value)
abbrev z38 (x0:DV) (x1) (x2) (x3) (x4) (x5) (x6) (x7) (x8) (x9) (x10) (x11) (x12) (x13) (x14) (x15) (x16) (x17):=([.int .i64 (IntKind.i64.wrap ((x0.f 0).n)),.slice none 0 0,.bool false,.slice none 0 0,.slice none 0 0,.int .i64 (IntKind.i64.wrap ((x0.f 1).n)),.slice none 0 0,.bool false,.slice none 0 0,.slice none 0 0,.int .i64 x1,.slice x2 x3 x4,.bool x5,.slice x6 x7 x8,.slice x9 x10 x11,.int .i64 (IntKind.i64.wrap ((x0.f 3).n)),.slice none 0 0,.bool false,.slice none 0 0,.slice none 0 0,.int .i64 0,.slice none 0 0,.bool (((x0.f 4).A).isNone),.slice x12 x13 x14,.slice none 0 0,.int .i64 0,.slice none 0 0,.bool (((x0.f 5).A).isNone),.slice x15 x16 x17,.slice none 0 0]:List Value)
set_option maxHeartbeats 4000000 in
theorem qdp (v:Int) (D:DV) (b o:Nat) (w:World) (F:Nat → Nat → Prop) (hat:AtF w F b o [.int .i16 v,.int .i32 ((D.f 0).n),.int .i16 ((D.f 1).n),.pointer ((D.f 2).A),.int .i32 ((D.f 3).n),.slice ((D.f 4).A) ((D.f 4).l) ((D.f 4).c),.slice ((D.f 5).A) ((D.f 5).l) ((D.f 5).c),.map D.m]) (hok:qbp w F D):Calls Tryz.prog 44 #[.pointer (some ⟨b,o,none⟩)] w (qdX w F (qbk D)):=by
 refine enter (n:=164) Tryz.func44 rfl Tryz.ntmps44 kz fun a hE=>?_
 have hW:WOk w Nil w [⟨b,o,(z5 v D),false⟩] []:=(WOk.start w Nil).start1 hat rfl rfl
 unfold qbp at hok
 obtain ⟨g1,g2,⟨g3,g3l⟩,g4,⟨g5,g5l,g5e⟩,⟨g6,g6l,g6e⟩,g7,g7l,g7x,_⟩:=hok
 have hE0:=(EnvOk.ptr0 (cs:=(z5 v D)) (r:=false) hE).pk (env':=[(0,.p 0 0)])
 refine qaf [0] kz ?_
 refine qan (qaM hW hE0 (d:=2) (cs:=z0) kz fun b8 a9 rl nZ n4 n5 lV lW=>?_)
 refine qag (qab ?_)
 refine qaf [0,1,2,3] kz ?_
 refine qan (qdK (t:=34) (e:=37) (size:=5) (bytes:=88) (d:=6) (j:=6) (.agg #[.int .i64 0,.slice none 0 0,.bool false,.slice none 0 0,.slice none 0 0]) [.int .i64 0,.slice none 0 0,.bool false,.slice none 0 0,.slice none 0 0,.int .i64 0,.slice none 0 0,.bool false,.slice none 0 0,.slice none 0 0,.int .i64 0,.slice none 0 0,.bool false,.slice none 0 0,.slice none 0 0,.int .i64 0,.slice none 0 0,.bool false,.slice none 0 0,.slice none 0 0,.int .i64 0,.slice none 0 0,.bool false,.slice none 0 0,.slice none 0 0,.int .i64 0,.slice none 0 0,.bool false,.slice none 0 0,.slice none 0 0] lV lW fun aa rm rn n8 oa od gG lX=>?_)
 refine qak [1] [2,3] [(0,.p 0 0),(2,.p 1 0),(7,.v (.agg #[.int .i64 0,.slice none 0 0,.bool false,.slice (some ⟨aa,0,none⟩) 6 6,.slice none 0 0]))] gG lX fun ro lY=>?_
 refine qan (qaM gG lY (d:=3) (cs:=z0) kz fun aQ rp rq oe og oh lZ l0=>?_)
 refine qan (qao lZ l0 (oi:=3) (cs:=(z16 aa)) kz fun rt ol l3 l5=>?_)
 refine qag (qab ?_)
 refine qaE 9 kz l3 fun ru om l6 gH=>?_
 refine qaF [0,1,2,3,4,5,6,7] [(0,.p 0 0),(2,.p 1 0),(3,.p 3 0),(9,.v (.slice (some ⟨aa,0,none⟩) 6 6)),(15,.v (.agg #[.int .i64 (IntKind.i64.wrap ((D.f 0).n)),.slice none 0 0,.bool false,.slice none 0 0,.slice none 0 0]))] 2 (qaa qae) (fun _ h=>h.cells) gH l5 fun rv l7=>?_
 refine qaH l7 (i:=8) (t:=34) (A:=(some ⟨aa,0,none⟩)) (m:=6) (q:=0) (d:=16) kz (e:=37) (size:=5) (bytes:=88) (j:=0) kz (b:=aa) (o:=0) rfl rfl (by decide) kz kz (qaa qae) gH fun rx l9=>?_
 have ma:=l9.recast 16 (.v (.pointer (some ⟨aa,0 + 0 * 5,none⟩))) (.p 2 0) rfl rfl (zN (n:=3) rfl)
 have mc:=ma.pk (env':=[(0,.p 0 0),(2,.p 1 0),(3,.p 3 0),(9,.v (.slice (some ⟨aa,0,none⟩) 6 6)),(15,.v (.agg #[.int .i64 (IntKind.i64.wrap ((D.f 0).n)),.slice none 0 0,.bool false,.slice none 0 0,.slice none 0 0])),(16,.p 2 0)])
 refine qap (i:=9) kz (qao l6 mc (oi:=2) (cs:=[.int .i64 (IntKind.i64.wrap ((D.f 0).n)),.slice none 0 0,.bool false,.slice none 0 0,.slice none 0 0,.int .i64 0,.slice none 0 0,.bool false,.slice none 0 0,.slice none 0 0,.int .i64 0,.slice none 0 0,.bool false,.slice none 0 0,.slice none 0 0,.int .i64 0,.slice none 0 0,.bool false,.slice none 0 0,.slice none 0 0,.int .i64 0,.slice none 0 0,.bool false,.slice none 0 0,.slice none 0 0,.int .i64 0,.slice none 0 0,.bool false,.slice none 0 0,.slice none 0 0]) kz fun ry oq md me=>?_)
 refine ⟨fun h=>absurd rfl h,?_⟩
 refine qaC kz ?_ _
 refine qab (qaE 9 kz md fun rz ot mf gI=>?_)
 refine qaF [0,1,2,3,4,5,6,7] [(0,.p 0 0),(2,.p 1 0),(3,.p 3 0),(18,.v (.slice (some ⟨aa,0,none⟩) 6 6)),(24,.v (.agg #[.int .i64 (IntKind.i64.wrap ((D.f 1).n)),.slice none 0 0,.bool false,.slice none 0 0,.slice none 0 0]))] 2 (qaa qae) (fun _ h=>h.cells) gI me fun rA mg=>?_
 refine qaH mg (i:=8) (t:=34) (A:=(some ⟨aa,0,none⟩)) (m:=6) (q:=1) (d:=25) kz (e:=37) (size:=5) (bytes:=88) (j:=1) kz (b:=aa) (o:=0) rfl rfl (by decide) kz kz (qaa qae) gI fun rB mh=>?_
 have mi:=mh.recast 25 (.v (.pointer (some ⟨aa,0 + 1 * 5,none⟩))) (.p 2 5) rfl rfl (zN (n:=3) rfl)
 have mj:=mi.pk (env':=[(0,.p 0 0),(2,.p 1 0),(3,.p 3 0),(18,.v (.slice (some ⟨aa,0,none⟩) 6 6)),(24,.v (.agg #[.int .i64 (IntKind.i64.wrap ((D.f 1).n)),.slice none 0 0,.bool false,.slice none 0 0,.slice none 0 0])),(25,.p 2 5)])
 refine qap (i:=9) kz (qao mf mj (oi:=2) (cs:=(z24 D)) kz fun rC ou ml mn=>?_)
 refine ⟨fun h=>absurd rfl h,?_⟩
 refine qaC kz ?_ _
 refine qab (qaE 8 kz ml fun ov ow eh mo=>?_)
 refine qaF [0,1,2,3,4,5] [(0,.p 0 0),(2,.p 1 0),(3,.p 3 0),(27,.v (.slice (some ⟨aa,0,none⟩) 6 6)),(31,.v (.pointer ((D.f 2).A)))] 3 (qaa qae) (fun _ h=>h.cells) mo mn fun rD mp=>?_
 refine qap (i:=6) kz (qal mp (f:=73) (vs:=[.pointer ((D.f 2).A)]) (d:=32) kz Tryz.call73 (qlI _ (D.f 2).s _ (Imm F w ov [⟨b,o,(z5 v D),false⟩,⟨b8,0,z0,true⟩,⟨aa,0,(z24 D),true⟩,⟨aQ,0,(z16 aa),true⟩] []) (fun ad h_=>by obtain ⟨b',o',g1,g2⟩:=g3 ad h_; exact ⟨b',o',g1,g2.move eh.step nilM eh.imm⟩) g3l) ?_)
 rintro e_ rE ⟨ox,rfl,mq,gx⟩
 have gy:=mq.move (Step.refl _ Nil) nilM (eh.laid (G:=F) gx)
 obtain ⟨ag,ah,ai,aj,ak,al,am,ao,ap,ar,au,oy,oz,fm,oA,oB,rF,rG⟩:=gy.open_
 rw [fm] at gy
 have mZ:=oA.small
 have m4:=oB.small
 rw [fm]
 refine ⟨_,rfl,fun rH mr=>?_⟩
 have gJ:=eh.next_nil gx
 have gK:=eh.frN gx
 have fo:=TT.ofW gK gJ
 refine ⟨fun _=>fo,?_⟩
 refine qaH mr (i:=7) (t:=34) (A:=(some ⟨aa,0,none⟩)) (m:=6) (q:=2) (d:=33) kz (e:=37) (size:=5) (bytes:=88) (j:=2) kz (b:=aa) (o:=0) rfl rfl (by decide) kz kz (qaa qae) fo fun oC gL=>?_
 have gM:=gL.recast 33 (.v (.pointer (some ⟨aa,0 + 2 * 5,none⟩))) (.p 2 10) rfl rfl (zN (n:=3) rfl)
 have gN:=gM.pk (env':=[(0,.p 0 0),(2,.p 1 0),(3,.p 3 0),(27,.v (.slice (some ⟨aa,0,none⟩) 6 6)),(31,.v (.pointer ((D.f 2).A))),(32,.v (.agg #[.int .i64 ag,.slice al ah.length am,.bool ai,.slice ao aj.length ap,.slice ar ak.length au])),(33,.p 2 10)])
 refine qap (i:=8) kz (qao gJ gN (oi:=2) (cs:=[.int .i64 (IntKind.i64.wrap ((D.f 0).n)),.slice none 0 0,.bool false,.slice none 0 0,.slice none 0 0,.int .i64 (IntKind.i64.wrap ((D.f 1).n)),.slice none 0 0,.bool false,.slice none 0 0,.slice none 0 0,.int .i64 ag,.slice al ah.length am,.bool ai,.slice ao aj.length ap,.slice ar ak.length au,.int .i64 0,.slice none 0 0,.bool false,.slice none 0 0,.slice none 0 0,.int .i64 0,.slice none 0 0,.bool false,.slice none 0 0,.slice none 0 0,.int .i64 0,.slice none 0 0,.bool false,.slice none 0 0,.slice none 0 0]) kz fun oD fq gO gP=>?_)
 refine ⟨fun h=>absurd rfl h,?_⟩
 refine qaC kz ?_ _
 refine qab (qaE 9 kz gO fun oE fr gQ ft=>?_)
 refine qaF [0,1,2,3,4,5,6,7] [(0,.p 0 0),(2,.p 1 0),(3,.p 3 0),(35,.v (.slice (some ⟨aa,0,none⟩) 6 6)),(41,.v (.agg #[.int .i64 (IntKind.i64.wrap ((D.f 3).n)),.slice none 0 0,.bool false,.slice none 0 0,.slice none 0 0]))] 2 (qaa qae) (fun _ h=>h.cells) ft gP fun oF gR=>?_
 refine qaH gR (i:=8) (t:=34) (A:=(some ⟨aa,0,none⟩)) (m:=6) (q:=3) (d:=42) kz (e:=37) (size:=5) (bytes:=88) (j:=3) kz (b:=aa) (o:=0) rfl rfl (by decide) kz kz (qaa qae) ft fun oG gS=>?_
 have gT:=gS.recast 42 (.v (.pointer (some ⟨aa,0 + 3 * 5,none⟩))) (.p 2 15) rfl rfl (zN (n:=3) rfl)
 have gU:=gT.pk (env':=[(0,.p 0 0),(2,.p 1 0),(3,.p 3 0),(35,.v (.slice (some ⟨aa,0,none⟩) 6 6)),(41,.v (.agg #[.int .i64 (IntKind.i64.wrap ((D.f 3).n)),.slice none 0 0,.bool false,.slice none 0 0,.slice none 0 0])),(42,.p 2 15)])
 refine qap (i:=9) kz (qao gQ gU (oi:=2) (cs:=[.int .i64 (IntKind.i64.wrap ((D.f 0).n)),.slice none 0 0,.bool false,.slice none 0 0,.slice none 0 0,.int .i64 (IntKind.i64.wrap ((D.f 1).n)),.slice none 0 0,.bool false,.slice none 0 0,.slice none 0 0,.int .i64 ag,.slice al ah.length am,.bool ai,.slice ao aj.length ap,.slice ar ak.length au,.int .i64 (IntKind.i64.wrap ((D.f 3).n)),.slice none 0 0,.bool false,.slice none 0 0,.slice none 0 0,.int .i64 0,.slice none 0 0,.bool false,.slice none 0 0,.slice none 0 0,.int .i64 0,.slice none 0 0,.bool false,.slice none 0 0,.slice none 0 0]) kz fun oH fv gV gW=>?_)
 refine ⟨fun h=>absurd rfl h,?_⟩
 refine qaC kz ?_ _
 refine qab (qaE 9 kz gV fun oI fw gX ei=>?_)
 refine qaF [0,1,2,3,4,5,6] [(0,.p 0 0),(2,.p 1 0),(3,.p 3 0),(44,.v (.slice (some ⟨aa,0,none⟩) 6 6)),(49,.v (.bool (((D.f 4).A).isNone)))] 3 (qaa qae) (fun _ h=>h.cells) ei gW fun oJ gY=>?_
 refine qap (i:=7) kz (qaB gY (t:=34) (A:=(some ⟨aa,0,none⟩)) (m:=6) (q:=4) (d:=50) kz (e:=37) (size:=5) (bytes:=88) (j:=4) kz (b:=aa) (o:=0) rfl rfl (by decide) fun oK gZ=>?_)
 have g9:=gZ.recast 50 (.v (.pointer (some ⟨aa,0 + 4 * 5,none⟩))) (.p 2 20) rfl rfl (zN (n:=3) rfl)
 have hC:=g9.pk (env':=[(0,.p 0 0),(2,.p 1 0),(3,.p 3 0),(44,.v (.slice (some ⟨aa,0,none⟩) 6 6)),(49,.v (.bool (((D.f 4).A).isNone))),(50,.p 2 20)])
 refine ⟨fun _=>ei,?_⟩
 refine qaF [8] [(0,.p 0 0),(2,.p 1 0),(3,.p 3 0),(49,.v (.bool (((D.f 4).A).isNone))),(51,.p 2 22)] 1 (qaa qae) (fun _ h=>h.cells) ei hC fun oL hJ=>?_
 refine qap (i:=9) kz (qao gX hJ (oi:=2) (cs:=[.int .i64 (IntKind.i64.wrap ((D.f 0).n)),.slice none 0 0,.bool false,.slice none 0 0,.slice none 0 0,.int .i64 (IntKind.i64.wrap ((D.f 1).n)),.slice none 0 0,.bool false,.slice none 0 0,.slice none 0 0,.int .i64 ag,.slice al ah.length am,.bool ai,.slice ao aj.length ap,.slice ar ak.length au,.int .i64 (IntKind.i64.wrap ((D.f 3).n)),.slice none 0 0,.bool false,.slice none 0 0,.slice none 0 0,.int .i64 0,.slice none 0 0,.bool (((D.f 4).A).isNone),.slice none 0 0,.slice none 0 0,.int .i64 0,.slice none 0 0,.bool false,.slice none 0 0,.slice none 0 0]) kz fun oM fx ej hK=>?_)
 refine ⟨fun h=>absurd rfl h,?_⟩
 refine qaC kz ?_ _
 refine qab (wp_seq (qas [(0,.p 0 0),(2,.p 1 0),(3,.p 3 0),(56,.v (.int .i64 (((D.f 4).l:Nat):Int))),(57,.v (.int .i64 0))] ej hK fun oN hZ=>?_))
 refine wp_block ?_
 have fy:=ej.addNil 37 5
 have fz:=ej.frNil 37 5
 refine wp_loop_ghost (fun n_ a_ w_=>∃ (k4_:Nat) (A4_:Option Addr) (c4_:Nat) (xs4_:List Value) (css4_:List (List Value)),n_ = (D.f 4).l - k4_ ∧ k4_ ≤ (D.f 4).l ∧ (Trees w_ (Imm F w w_ [⟨b,o,[.int .i16 v,.int .i32 ((D.f 0).n),.int .i16 ((D.f 1).n),.pointer ((D.f 2).A),.int .i32 ((D.f 3).n),.slice ((D.f 4).A) ((D.f 4).l) ((D.f 4).c),.slice ((D.f 5).A) ((D.f 5).l) ((D.f 5).c),.map D.m],false⟩,⟨b8,0,[.int .i64 0,.slice none 0 0,.bool false,.slice none 0 0,.slice none 0 0],true⟩,⟨aa,0,[.int .i64 (IntKind.i64.wrap ((D.f 0).n)),.slice none 0 0,.bool false,.slice none 0 0,.slice none 0 0,.int .i64 (IntKind.i64.wrap ((D.f 1).n)),.slice none 0 0,.bool false,.slice none 0 0,.slice none 0 0,.int .i64 ag,.slice al ah.length am,.bool ai,.slice ao aj.length ap,.slice ar ak.length au,.int .i64 (IntKind.i64.wrap ((D.f 3).n)),.slice none 0 0,.bool false,.slice none 0 0,.slice none 0 0,.int .i64 0,.slice none 0 0,.bool (((D.f 4).A).isNone),.slice A4_ k4_ c4_,.slice none 0 0,.int .i64 0,.slice none 0 0,.bool false,.slice none 0 0,.slice none 0 0],true⟩,⟨aQ,0,[.int .i64 0,.slice none 0 0,.bool false,.slice (some ⟨aa,0,none⟩) 6 6,.slice none 0 0],true⟩] [⟨A4_,c4_,37,5,k4_,xs4_⟩]) xs4_ (((List.range (D.f 4).l).map (fun i=>qa3 ((D.f 4).f i))).take k4_) css4_) ∧ LInv fy 164 [⟨b,o,[.int .i16 v,.int .i32 ((D.f 0).n),.int .i16 ((D.f 1).n),.pointer ((D.f 2).A),.int .i32 ((D.f 3).n),.slice ((D.f 4).A) ((D.f 4).l) ((D.f 4).c),.slice ((D.f 5).A) ((D.f 5).l) ((D.f 5).c),.map D.m],false⟩,⟨b8,0,[.int .i64 0,.slice none 0 0,.bool false,.slice none 0 0,.slice none 0 0],true⟩,⟨aa,0,[.int .i64 (IntKind.i64.wrap ((D.f 0).n)),.slice none 0 0,.bool false,.slice none 0 0,.slice none 0 0,.int .i64 (IntKind.i64.wrap ((D.f 1).n)),.slice none 0 0,.bool false,.slice none 0 0,.slice none 0 0,.int .i64 ag,.slice al ah.length am,.bool ai,.slice ao aj.length ap,.slice ar ak.length au,.int .i64 (IntKind.i64.wrap ((D.f 3).n)),.slice none 0 0,.bool false,.slice none 0 0,.slice none 0 0,.int .i64 0,.slice none 0 0,.bool (((D.f 4).A).isNone),.slice A4_ k4_ c4_,.slice none 0 0,.int .i64 0,.slice none 0 0,.bool false,.slice none 0 0,.slice none 0 0],true⟩,⟨aQ,0,[.int .i64 0,.slice none 0 0,.bool false,.slice (some ⟨aa,0,none⟩) 6 6,.slice none 0 0],true⟩] [⟨A4_,c4_,37,5,k4_,xs4_⟩] [(0,.p 0 0),(2,.p 1 0),(3,.p 3 0),(56,.v (.int .i64 (((D.f 4).l:Nat):Int))),(57,.v (.int .i64 ((k4_:Nat):Int)))] a_ w_) ((D.f 4).l) ⟨0,none,0,[],[],by omega,by omega,Trees.nil _ _,hZ.pk,fy,Fr.refl _ _ _⟩ ?_
 rintro oO oP oQ ⟨k4_,A4_,c4_,xs4_,css4_,m5,m6,hT4_,ia,dr,cL⟩
 refine qas [(0,.p 0 0),(2,.p 1 0),(3,.p 3 0),(56,.v (.int .i64 (((D.f 4).l:Nat):Int))),(57,.v (.int .i64 ((k4_:Nat):Int))),(58,.v (.bool (decide (((k4_:Nat):Int) < (((D.f 4).l:Nat):Int)))))] dr ia fun oR ek=>?_
 refine wp_seq (qax ek (b:=decide (((k4_:Nat):Int) < (((D.f 4).l:Nat):Int))) kz (fun em=>?_) (fun em=>?_))
 ·
  have m7:=zD em
  refine wp_skip (qab (wp_seq (wp_block (qas [(0,.p 0 0),(2,.p 1 0),(3,.p 3 0),(4,.v (.int .i64 ((k4_:Nat):Int))),(56,.v (.int .i64 (((D.f 4).l:Nat):Int))),(57,.v (.int .i64 ((k4_:Nat):Int)))] dr ek fun oS ib=>?_))))
  refine qaE 4 kz dr fun oT aw ic m8=>?_
  refine qap (i:=0) kz (qaM ic ib (d:=60) (cs:=[.bool false]) kz fun oU oV oW m9 nf ab eo fA=>?_)
  have ig:=TT.ofW ab eo
  refine ⟨fun _=>ig,?_⟩
  refine qdV (i:=1) (j:=2) kz ?_ ?_
  ·
   refine (qao eo fA (oi:=4) (cs:=[.bool true]) kz fun oX bp fB ii=>?_)
   have ij:=TT.ofW (ab.trans bp) fB
   refine ⟨fun _=>ij,?_⟩
   refine qap (i:=2) kz (qao fB ii (oi:=4) (cs:=[.bool false]) kz fun oY cM dt ik=>?_)
   have il:=TT.ofW ((ab.trans bp).trans cM) dt
   refine ⟨fun _=>il,?_⟩
   refine qap (i:=3) kz (qbq [0,2,3,4,56,57,61] dt.cells ik (env':=[(0,.p 0 0),(2,.p 1 0),(3,.p 3 0),(4,.v (.int .i64 ((k4_:Nat):Int))),(56,.v (.int .i64 (((D.f 4).l:Nat):Int))),(57,.v (.int .i64 ((k4_:Nat):Int))),(61,.v (.bool false))]) kz fun oZ fC=>?_)
   have im:=TT.ofW ((ab.trans bp).trans cM) dt
   refine ⟨fun _=>im,?_⟩
   refine qaC kz ?_ _
   refine qab (qaq fC (b:=false) kz rfl ?_)
   refine qcE 18 kz dt fun o5 ep aR du=>?_
   refine qaF [0,1,2,3,7,8,9,10,11] [(0,.p 0 0),(2,.p 1 0),(3,.p 3 0),(56,.v (.int .i64 (((D.f 4).l:Nat):Int))),(57,.v (.int .i64 ((k4_:Nat):Int))),(81,.v (.slice (some ⟨aa,0,none⟩) 6 6)),(83,.v (.slice (some ⟨aa,0,none⟩) 6 6)),(90,.v (.slice ((D.f 4).A) ((D.f 4).l) ((D.f 4).c))),(91,.v (.int .i64 ((k4_:Nat):Int)))] 10 (qac (qaa (qaa (qac (qaa qae))))) (fun _ h=>h.cells) du fC fun o6 io=>?_
   refine qaH io (i:=4) (t:=34) (A:=(some ⟨aa,0,none⟩)) (m:=6) (q:=4) (d:=84) kz (e:=37) (size:=5) (bytes:=88) (j:=4) kz (b:=aa) (o:=0) rfl rfl (by decide) kz kz (qac (qaa (qaa (qac (qaa qae))))) du fun o7 ip=>?_
   have iq:=ip.recast 84 (.v (.pointer (some ⟨aa,0 + 4 * 5,none⟩))) (.p 2 20) rfl rfl (zN (n:=3) rfl)
   have ir:=iq.pk (env':=[(0,.p 0 0),(2,.p 1 0),(3,.p 3 0),(56,.v (.int .i64 (((D.f 4).l:Nat):Int))),(57,.v (.int .i64 ((k4_:Nat):Int))),(81,.v (.slice (some ⟨aa,0,none⟩) 6 6)),(83,.v (.slice (some ⟨aa,0,none⟩) 6 6)),(90,.v (.slice ((D.f 4).A) ((D.f 4).l) ((D.f 4).c))),(91,.v (.int .i64 ((k4_:Nat):Int))),(84,.p 2 20)])
   refine qaF [5,6] [(0,.p 0 0),(2,.p 1 0),(3,.p 3 0),(56,.v (.int .i64 (((D.f 4).l:Nat):Int))),(57,.v (.int .i64 ((k4_:Nat):Int))),(81,.v (.slice (some ⟨aa,0,none⟩) 6 6)),(86,.v (.slice A4_ k4_ c4_)),(90,.v (.slice ((D.f 4).A) ((D.f 4).l) ((D.f 4).c))),(91,.v (.int .i64 ((k4_:Nat):Int)))] 7 (qac (qaa (qaa (qac (qaa qae))))) (fun _ h=>h.cells) du ir fun o9 iu=>?_
   obtain ⟨iv,iw,ix,ng,gz⟩:=Slots.get g5 (i:=k4_) (by omega)
   refine qaH iu (i:=12) (t:=108) (A:=(D.f 4).A) (m:=((D.f 4).l)) (q:=((k4_:Nat):Int)) (d:=92) kz (e:=118) (size:=18) (bytes:=48) kz ix rfl (by omega) kz kz (qac (qaa (qaa (qac (qaa qae))))) du fun pa iy=>?_
   refine qap (i:=13) kz (qal iy (f:=74) (vs:=[.pointer (some ⟨iv,iw + k4_ * 18,none⟩)]) (d:=93) kz Tryz.call74 (qbM 0 ((D.f 4).f k4_) _ _ _ _ (gz.move aR.step nilM aR.imm) (qa7 _ aR.step nilM aR.imm (g5e k4_ (by omega)))) ?_)
   rintro e_ pb ⟨nh,rfl,iz,eu⟩
   have ev:=iz.move (Step.refl _ Nil) nilM (aR.laid (G:=F) eu)
   obtain ⟨dL,dM,dN,dO,dP,dQ,dR,dS,dT,dU,dV,ni,nj,ew,mt,mu,pc,pd⟩:=ev.open_
   rw [ew] at ev
   have mw:=mt.small
   have mx:=mu.small
   rw [ew]
   refine ⟨_,rfl,fun pe iA=>?_⟩
   have fD:=aR.next_nil eu
   have aS:=aR.frN eu
   have iB:=TT.ofW aS fD
   refine ⟨fun _=>iB,?_⟩
   refine qap (i:=14) kz (qbB fD iA (e:=37) (size:=5) (len:=1) (cs:=(z1 dL dQ dM.length dR dN dS dO.length dT dU dP.length dV)) (d:=94) kz kz fun iC pf pg nk nl aA dv iD=>?_)
   have iE:=TT.ofW (aS.trans aA) dv
   refine ⟨fun _=>iE,?_⟩
   refine qap (i:=15) kz (qaR dv iD (k:=0) (d:=95) (t:=34) (e:=37) (size:=5) (bytes:=88) (A:=A4_) (As:=(some ⟨iC,0,none⟩)) (m0:=k4_) (c:=c4_) (m:=1) (cs:=1) (xs:=xs4_) (news:=(z1 dL dQ dM.length dR dN dS dO.length dT dU dP.length dV)) kz kz rfl (qbI (dv.own 1 _ rfl) (qbE kz)) (qbQ (dv.own 1 _ rfl)) (by omega) fun dW dX ph pi aT ey iF=>?_)
   have iG:=TT.ofW ((aS.trans aA).trans aT) ey
   refine ⟨fun _=>iG,?_⟩
   refine qap (i:=16) kz (qaB iF (t:=34) (A:=(some ⟨aa,0,none⟩)) (m:=6) (q:=4) (d:=96) kz (e:=37) (size:=5) (bytes:=88) (j:=4) kz (b:=aa) (o:=0) rfl rfl (by decide) fun pj iH=>?_)
   have iI:=iH.recast 96 (.v (.pointer (some ⟨aa,0 + 4 * 5,none⟩))) (.p 2 20) rfl rfl (zN (n:=3) rfl)
   have iJ:=iI.pk (env':=[(0,.p 0 0),(2,.p 1 0),(3,.p 3 0),(56,.v (.int .i64 (((D.f 4).l:Nat):Int))),(57,.v (.int .i64 ((k4_:Nat):Int))),(81,.v (.slice (some ⟨aa,0,none⟩) 6 6)),(86,.v (.slice A4_ k4_ c4_)),(90,.v (.slice ((D.f 4).A) ((D.f 4).l) ((D.f 4).c))),(91,.v (.int .i64 ((k4_:Nat):Int))),(92,.v (.pointer (some ⟨iv,iw + k4_ * 18,none⟩))),(93,.v (.agg #[.int .i64 dL,.slice dQ dM.length dR,.bool dN,.slice dS dO.length dT,.slice dU dP.length dV])),(94,.v (.slice (some ⟨iC,0,none⟩) 1 1)),(95,.v (.slice dW (k4_ + 1) dX)),(96,.p 2 20)])
   have fE:=TT.ofW ((aS.trans aA).trans aT) ey
   refine ⟨fun _=>fE,?_⟩
   refine qaF [17] [(0,.p 0 0),(2,.p 1 0),(3,.p 3 0),(56,.v (.int .i64 (((D.f 4).l:Nat):Int))),(57,.v (.int .i64 ((k4_:Nat):Int))),(95,.v (.slice dW (k4_ + 1) dX)),(97,.p 2 23)] 1 (qac (qaa (qaa (qac (qaa qae))))) (fun _ h=>h.cells) fE iJ fun pl iK=>?_
   refine qap (i:=18) kz (qao ey iK (oi:=2) (cs:=(z2 D ag al ah.length am ai ao aj.length ap ar ak.length au dW k4_ dX)) kz fun pm cN fF iL=>?_)
   refine ⟨fun h=>absurd rfl h,?_⟩
   refine qaC kz ?_ _
   refine qav (qab (qau [0,1] kz ?_))
   refine qak [0,1] [] [(0,.p 0 0),(2,.p 1 0),(3,.p 3 0),(56,.v (.int .i64 (((D.f 4).l:Nat):Int))),(57,.v (.int .i64 (IntKind.i64.wrap (((k4_:Nat):Int) + 1))))] fF iL fun pn iM=>?_
   refine qag (qab ?_)
   obtain ⟨fG,iN,cO⟩:=fF.cutB iM 4 [⟨b,o,(z5 v D),false⟩,⟨b8,0,z0,true⟩,⟨aa,0,(z2 D ag al ah.length am ai ao aj.length ap ar ak.length au dW k4_ dX),true⟩,⟨aQ,0,(z16 aa),true⟩] [(0,.p 0 0),(2,.p 1 0),(3,.p 3 0),(56,.v (.int .i64 (((D.f 4).l:Nat):Int))),(57,.v (.int .i64 (IntKind.i64.wrap (((k4_:Nat):Int) + 1))))]
   obtain ⟨iO,cP⟩:=iN.cutR 1 [⟨dW,dX,37,5,k4_ + 1,xs4_ ++ (z1 dL dQ dM.length dR dN dS dO.length dT dU dP.length dV)⟩]
   have iP:IntKind.i64.wrap (((k4_:Nat):Int) + 1) = ((k4_ + 1:Nat):Int):=qaS (by omega)
   rw [iP] at fG
   exact ⟨(D.f 4).l - (k4_ + 1),by omega,k4_ + 1,dW,dX,xs4_ ++ [Value.int .i64 dL,.slice dQ dM.length dR,.bool dN,.slice dS dO.length dT,.slice dU dP.length dV],(css4_ ++ [[Value.int .i64 dL,.slice dQ dM.length dR,.bool dN,.slice dS dO.length dT,.slice dU dP.length dV]]),rfl,by omega,by rw [qcA (by omega)]; exact (hT4_.move ((((((((((aw.trans ab).trans bp).trans cM).trans ep).trans aS).trans aA).trans aT).trans cN).trans cO).trans cP).step immM ((((((((((aw.trans ab).trans bp).trans cM).trans ep).trans aS).trans aA).trans aT).trans cN).trans cO).trans cP).to').snoc (x:=(fun i=>qa3 ((D.f 4).f i)) k4_) (ev.move ((((aA.trans aT).trans cN).trans cO).trans cP).step immM ((((aA.trans aT).trans cN).trans cO).trans cP).to'),fG.pk,iO,(((((((((((cL.trans aw).trans ab).trans bp).trans cM).trans ep).trans aS).trans aA).trans aT).trans cN).trans cO).trans cP)⟩
  refine (qao eo fA (oi:=4) (cs:=[.bool false]) kz fun po ax fH iQ=>?_)
  have iR:=TT.ofW (ab.trans ax) fH
  refine ⟨fun _=>iR,?_⟩
  refine qap (i:=1) kz (qao fH iQ (oi:=4) (cs:=[.bool true]) kz fun pp aB dw iS=>?_)
  have iT:=TT.ofW ((ab.trans ax).trans aB) dw
  refine ⟨fun _=>iT,?_⟩
  refine qap (i:=3) kz (qbq [0,2,3,4,56,57,61] dw.cells iS (env':=[(0,.p 0 0),(2,.p 1 0),(3,.p 3 0),(4,.v (.int .i64 ((k4_:Nat):Int))),(56,.v (.int .i64 (((D.f 4).l:Nat):Int))),(57,.v (.int .i64 ((k4_:Nat):Int))),(61,.v (.bool true))]) kz fun pq fI=>?_)
  have iU:=TT.ofW ((ab.trans ax).trans aB) dw
  refine ⟨fun _=>iU,?_⟩
  refine qaC kz ?_ _
  refine qab (qa9 fI (b:=true) kz rfl ?_)
  refine qaE 17 kz dw fun pr bq aC dx=>?_
  refine qaF [0,1,5,6,7,8,9] [(0,.p 0 0),(2,.p 1 0),(3,.p 3 0),(56,.v (.int .i64 (((D.f 4).l:Nat):Int))),(57,.v (.int .i64 ((k4_:Nat):Int))),(63,.v (.slice (some ⟨aa,0,none⟩) 6 6)),(70,.v (.slice ((D.f 4).A) ((D.f 4).l) ((D.f 4).c))),(71,.v (.int .i64 ((k4_:Nat):Int)))] 11 (qaa (qac (qaa (qaa (qac (qaa qae)))))) (fun _ h=>h.cells) dx fI fun pt iV=>?_
  refine qaH iV (i:=2) (t:=34) (A:=(some ⟨aa,0,none⟩)) (m:=6) (q:=4) (d:=64) kz (e:=37) (size:=5) (bytes:=88) (j:=4) kz (b:=aa) (o:=0) rfl rfl (by decide) kz kz (qaa (qac (qaa (qaa (qac (qaa qae)))))) dx fun pu iW=>?_
  have iX:=iW.recast 64 (.v (.pointer (some ⟨aa,0 + 4 * 5,none⟩))) (.p 2 20) rfl rfl (zN (n:=3) rfl)
  have iY:=iX.pk (env':=[(0,.p 0 0),(2,.p 1 0),(3,.p 3 0),(56,.v (.int .i64 (((D.f 4).l:Nat):Int))),(57,.v (.int .i64 ((k4_:Nat):Int))),(63,.v (.slice (some ⟨aa,0,none⟩) 6 6)),(70,.v (.slice ((D.f 4).A) ((D.f 4).l) ((D.f 4).c))),(71,.v (.int .i64 ((k4_:Nat):Int))),(64,.p 2 20)])
  refine qaF [3,4,12] [(0,.p 0 0),(2,.p 1 0),(3,.p 3 0),(56,.v (.int .i64 (((D.f 4).l:Nat):Int))),(57,.v (.int .i64 ((k4_:Nat):Int))),(63,.v (.slice (some ⟨aa,0,none⟩) 6 6)),(66,.v (.slice A4_ k4_ c4_)),(70,.v (.slice ((D.f 4).A) ((D.f 4).l) ((D.f 4).c))),(71,.v (.int .i64 ((k4_:Nat):Int))),(74,.v (.int .i64 ((k4_:Nat):Int)))] 7 (qaa (qac (qaa (qaa (qac (qaa qae)))))) (fun _ h=>h.cells) dx iY fun pv iZ=>?_
  obtain ⟨fh,fi,i6,nm,ez⟩:=Slots.get g5 (i:=k4_) (by omega)
  refine qaH iZ (i:=10) (t:=108) (A:=(D.f 4).A) (m:=((D.f 4).l)) (q:=((k4_:Nat):Int)) (d:=72) kz (e:=118) (size:=18) (bytes:=48) kz i6 rfl (by omega) kz kz (qaa (qac (qaa (qaa (qac (qaa qae)))))) dx fun pw fJ=>?_
  refine qdV (i:=11) (j:=13) kz ?_ ?_
  ·
   refine (qal fJ (f:=74) (vs:=[.pointer (some ⟨fh,fi + k4_ * 18,none⟩)]) (d:=73) kz Tryz.call74 (qbM 0 ((D.f 4).f k4_) _ _ _ _ (ez.move aC.step nilM aC.imm) (qa7 _ aC.step nilM aC.imm (g5e k4_ (by omega)))) ?_)
   rintro e_ px ⟨np,rfl,i7,eB⟩
   have eC:=i7.move (Step.refl _ Nil) nilM (aC.laid (G:=F) eB)
   obtain ⟨bA,bB,bC,bD,bE,bF,bG,bH,bI,bJ,bK,nr,ns,eD,my,mz,pz,pA⟩:=eC.open_
   rw [eD] at eC
   have mA:=my.small
   have mB:=mz.small
   rw [eD]
   refine ⟨_,rfl,fun pB ja=>?_⟩
   have fK:=aC.next_nil eB
   have aU:=aC.frN eB
   have jb:=TT.ofW aU fK
   refine ⟨fun _=>jb,?_⟩
   refine qap (i:=13) kz (qbB fK ja (e:=37) (size:=5) (len:=1) (cs:=z0) (d:=75) kz kz fun gA pC pD nt nu aD dy jc=>?_)
   have jd:=TT.ofW (aU.trans aD) dy
   refine ⟨fun _=>jd,?_⟩
   refine qap (i:=14) kz (qaR dy jc (k:=0) (d:=76) (t:=34) (e:=37) (size:=5) (bytes:=88) (A:=A4_) (As:=(some ⟨gA,0,none⟩)) (m0:=k4_) (c:=c4_) (m:=1) (cs:=1) (xs:=xs4_) (news:=z0) kz kz rfl (qbI (dy.own 1 _ rfl) (qbE kz)) (qbQ (dy.own 1 _ rfl)) (by omega) fun aM aV pE pF aW eE je=>?_)
   have jf:=TT.ofW ((aU.trans aD).trans aW) eE
   refine ⟨fun _=>jf,?_⟩
   refine qap (i:=15) kz (qaB je (t:=34) (A:=(some ⟨aa,0,none⟩)) (m:=6) (q:=4) (d:=77) kz (e:=37) (size:=5) (bytes:=88) (j:=4) kz (b:=aa) (o:=0) rfl rfl (by decide) fun pG jg=>?_)
   have jh:=jg.recast 77 (.v (.pointer (some ⟨aa,0 + 4 * 5,none⟩))) (.p 2 20) rfl rfl (zN (n:=3) rfl)
   have ji:=jh.pk (env':=[(0,.p 0 0),(2,.p 1 0),(3,.p 3 0),(56,.v (.int .i64 (((D.f 4).l:Nat):Int))),(57,.v (.int .i64 ((k4_:Nat):Int))),(63,.v (.slice (some ⟨aa,0,none⟩) 6 6)),(66,.v (.slice A4_ k4_ c4_)),(70,.v (.slice ((D.f 4).A) ((D.f 4).l) ((D.f 4).c))),(71,.v (.int .i64 ((k4_:Nat):Int))),(74,.v (.int .i64 ((k4_:Nat):Int))),(72,.v (.pointer (some ⟨fh,fi + k4_ * 18,none⟩))),(73,.v (.agg #[.int .i64 bA,.slice bF bB.length bG,.bool bC,.slice bH bD.length bI,.slice bJ bE.length bK])),(75,.v (.slice (some ⟨gA,0,none⟩) 1 1)),(76,.v (.slice aM (k4_ + 1) aV)),(77,.p 2 20)])
   have fL:=TT.ofW ((aU.trans aD).trans aW) eE
   refine ⟨fun _=>fL,?_⟩
   refine qaF [16] [(0,.p 0 0),(2,.p 1 0),(3,.p 3 0),(56,.v (.int .i64 (((D.f 4).l:Nat):Int))),(57,.v (.int .i64 ((k4_:Nat):Int))),(73,.v (.agg #[.int .i64 bA,.slice bF bB.length bG,.bool bC,.slice bH bD.length bI,.slice bJ bE.length bK])),(74,.v (.int .i64 ((k4_:Nat):Int))),(76,.v (.slice aM (k4_ + 1) aV)),(78,.p 2 23)] 1 (qaa (qac (qaa (qaa (qac (qaa qae)))))) (fun _ h=>h.cells) fL ji fun pH jj=>?_
   refine qap (i:=17) kz (qao eE jj (oi:=2) (cs:=(z2 D ag al ah.length am ai ao aj.length ap ar ak.length au aM k4_ aV)) kz fun mC cQ fM jk=>?_)
   refine ⟨fun h=>absurd rfl h,?_⟩
   refine qaC kz ?_ _
   refine qab (qau [0,1] kz ?_)
   have jl:World.ownsRow mC 0 37 5 (.slice aM (k4_ + 1) aV) (k4_ + 1) (xs4_ ++ z0):=fM.own 0 _ rfl
   obtain ⟨jm,fN⟩:=qcj jl (by omega)
   refine qan (qaB jk (t:=34) (A:=aM) (m:=(k4_ + 1)) (q:=((k4_:Nat):Int)) (d:=79) kz (e:=37) (size:=5) (bytes:=88) kz (b:=jm) (o:=0) (j:=k4_) fN (rfl) (by omega) fun pI jn=>?_)
   refine qan (qb6 fM jn (k:=0) (g:=jm) (o:=k4_ * 5) (c:=aV) (m:=(k4_ + 1)) (size:=5) (e:=37) (A:=aM) (xs:=(xs4_ ++ [.int .i64 0,.slice none 0 0,.bool false,.slice none 0 0,.slice none 0 0])) (vs:=[.int .i64 bA,.slice bF bB.length bG,.bool bC,.slice bH bD.length bI,.slice bJ bE.length bK]) kz rfl fN (by simp only [List.length_cons,List.length_nil]; omega) fun pJ cR jo jp=>?_)
   have jq:(⟨aM,aV,37,5,k4_ + 1,qbA (xs4_ ++ [.int .i64 0,.slice none 0 0,.bool false,.slice none 0 0,.slice none 0 0]) (k4_ * 5) [.int .i64 bA,.slice bF bB.length bG,.bool bC,.slice bH bD.length bI,.slice bJ bE.length bK]⟩:Rw) = ⟨aM,aV,37,5,k4_ + 1,xs4_ ++ [.int .i64 bA,.slice bF bB.length bG,.bool bC,.slice bH bD.length bI,.slice bJ bE.length bK]⟩:=by rw [qcW (by rw [hT4_.xslen,List.length_take,qcl]; omega)]
   obtain ⟨fO,cS⟩:=jo.rowEq 0 [⟨aM,aV,37,5,k4_ + 1,xs4_ ++ (z1 bA bF bB.length bG bC bH bD.length bI bJ bE.length bK)⟩,⟨some ⟨gA,0,none⟩,1,37,5,1,z0⟩] jq
   refine qag (qav (qab (qau [0,1] kz ?_)))
   refine qak [0,1] [] [(0,.p 0 0),(2,.p 1 0),(3,.p 3 0),(56,.v (.int .i64 (((D.f 4).l:Nat):Int))),(57,.v (.int .i64 (IntKind.i64.wrap (((k4_:Nat):Int) + 1))))] fO jp fun pK jr=>?_
   refine qag (qab ?_)
   obtain ⟨fP,js,cT⟩:=fO.cutB jr 4 [⟨b,o,(z5 v D),false⟩,⟨b8,0,z0,true⟩,⟨aa,0,(z2 D ag al ah.length am ai ao aj.length ap ar ak.length au aM k4_ aV),true⟩,⟨aQ,0,(z16 aa),true⟩] [(0,.p 0 0),(2,.p 1 0),(3,.p 3 0),(56,.v (.int .i64 (((D.f 4).l:Nat):Int))),(57,.v (.int .i64 (IntKind.i64.wrap (((k4_:Nat):Int) + 1))))]
   obtain ⟨jt,cU⟩:=js.cutR 1 [⟨aM,aV,37,5,k4_ + 1,xs4_ ++ (z1 bA bF bB.length bG bC bH bD.length bI bJ bE.length bK)⟩]
   have ju:IntKind.i64.wrap (((k4_:Nat):Int) + 1) = ((k4_ + 1:Nat):Int):=qaS (by omega)
   rw [ju] at fP
   exact ⟨(D.f 4).l - (k4_ + 1),by omega,k4_ + 1,aM,aV,xs4_ ++ [Value.int .i64 bA,.slice bF bB.length bG,.bool bC,.slice bH bD.length bI,.slice bJ bE.length bK],(css4_ ++ [[Value.int .i64 bA,.slice bF bB.length bG,.bool bC,.slice bH bD.length bI,.slice bJ bE.length bK]]),rfl,by omega,by rw [qcA (by omega)]; exact (hT4_.move ((((((((((((aw.trans ab).trans ax).trans aB).trans bq).trans aU).trans aD).trans aW).trans cQ).trans cR).trans cS).trans cT).trans cU).step immM ((((((((((((aw.trans ab).trans ax).trans aB).trans bq).trans aU).trans aD).trans aW).trans cQ).trans cR).trans cS).trans cT).trans cU).to').snoc (x:=(fun i=>qa3 ((D.f 4).f i)) k4_) (eC.move ((((((aD.trans aW).trans cQ).trans cR).trans cS).trans cT).trans cU).step immM ((((((aD.trans aW).trans cQ).trans cR).trans cS).trans cT).trans cU).to'),fP.pk,jt,(((((((((((((cL.trans aw).trans ab).trans ax).trans aB).trans bq).trans aU).trans aD).trans aW).trans cQ).trans cR).trans cS).trans cT).trans cU)⟩
  refine (qbB aC fJ (e:=37) (size:=5) (len:=1) (cs:=z0) (d:=75) kz kz fun gB pL pM nv nw aX aE jv=>?_)
  have jw:=TT.ofW aX aE
  refine ⟨fun _=>jw,?_⟩
  refine qap (i:=11) kz (qal jv (f:=74) (vs:=[.pointer (some ⟨fh,fi + k4_ * 18,none⟩)]) (d:=73) kz Tryz.call74 (qbM 0 ((D.f 4).f k4_) _ _ _ _ (ez.move aE.step nilM aE.imm) (qa7 _ aE.step nilM aE.imm (g5e k4_ (by omega)))) ?_)
  rintro e_ pN ⟨nx,rfl,jx,eF⟩
  have eG:=jx.move (Step.refl _ Nil) nilM (aE.laid (G:=F) eF)
  obtain ⟨bL,bM,bN,bO,bP,bQ,bR,bS,bT,bU,bV,ny,nz,eH,mD,mF,pO,pP⟩:=eG.open_
  rw [eH] at eG
  have mG:=mD.small
  have mH:=mF.small
  rw [eH]
  refine ⟨_,rfl,fun pQ jy=>?_⟩
  have dz:=aE.next_nil eF
  have bt:=aE.frN eF
  have jz:=TT.ofW (aX.trans bt) dz
  refine ⟨fun _=>jz,?_⟩
  refine qap (i:=14) kz (qaR dz jy (k:=0) (d:=76) (t:=34) (e:=37) (size:=5) (bytes:=88) (A:=A4_) (As:=(some ⟨gB,0,none⟩)) (m0:=k4_) (c:=c4_) (m:=1) (cs:=1) (xs:=xs4_) (news:=z0) kz kz rfl (qbI (dz.own 1 _ rfl) (qbE kz)) (qbQ (dz.own 1 _ rfl)) (by omega) fun aN aY pR pS aZ eI jA=>?_)
  have jB:=TT.ofW ((aX.trans bt).trans aZ) eI
  refine ⟨fun _=>jB,?_⟩
  refine qap (i:=15) kz (qaB jA (t:=34) (A:=(some ⟨aa,0,none⟩)) (m:=6) (q:=4) (d:=77) kz (e:=37) (size:=5) (bytes:=88) (j:=4) kz (b:=aa) (o:=0) rfl rfl (by decide) fun pT jC=>?_)
  have jD:=jC.recast 77 (.v (.pointer (some ⟨aa,0 + 4 * 5,none⟩))) (.p 2 20) rfl rfl (zN (n:=3) rfl)
  have jE:=jD.pk (env':=[(0,.p 0 0),(2,.p 1 0),(3,.p 3 0),(56,.v (.int .i64 (((D.f 4).l:Nat):Int))),(57,.v (.int .i64 ((k4_:Nat):Int))),(63,.v (.slice (some ⟨aa,0,none⟩) 6 6)),(66,.v (.slice A4_ k4_ c4_)),(70,.v (.slice ((D.f 4).A) ((D.f 4).l) ((D.f 4).c))),(71,.v (.int .i64 ((k4_:Nat):Int))),(74,.v (.int .i64 ((k4_:Nat):Int))),(72,.v (.pointer (some ⟨fh,fi + k4_ * 18,none⟩))),(75,.v (.slice (some ⟨gB,0,none⟩) 1 1)),(73,.v (.agg #[.int .i64 bL,.slice bQ bM.length bR,.bool bN,.slice bS bO.length bT,.slice bU bP.length bV])),(76,.v (.slice aN (k4_ + 1) aY)),(77,.p 2 20)])
  have fQ:=TT.ofW ((aX.trans bt).trans aZ) eI
  refine ⟨fun _=>fQ,?_⟩
  refine qaF [16] [(0,.p 0 0),(2,.p 1 0),(3,.p 3 0),(56,.v (.int .i64 (((D.f 4).l:Nat):Int))),(57,.v (.int .i64 ((k4_:Nat):Int))),(73,.v (.agg #[.int .i64 bL,.slice bQ bM.length bR,.bool bN,.slice bS bO.length bT,.slice bU bP.length bV])),(74,.v (.int .i64 ((k4_:Nat):Int))),(76,.v (.slice aN (k4_ + 1) aY)),(78,.p 2 23)] 1 (qaa (qac (qaa (qaa (qac (qaa qae)))))) (fun _ h=>h.cells) fQ jE fun pU jF=>?_
  refine qap (i:=17) kz (qao eI jF (oi:=2) (cs:=(z2 D ag al ah.length am ai ao aj.length ap ar ak.length au aN k4_ aY)) kz fun mI cV fR jG=>?_)
  refine ⟨fun h=>absurd rfl h,?_⟩
  refine qaC kz ?_ _
  refine qab (qau [0,1] kz ?_)
  have jH:World.ownsRow mI 0 37 5 (.slice aN (k4_ + 1) aY) (k4_ + 1) (xs4_ ++ z0):=fR.own 0 _ rfl
  obtain ⟨jI,fS⟩:=qcj jH (by omega)
  refine qan (qaB jG (t:=34) (A:=aN) (m:=(k4_ + 1)) (q:=((k4_:Nat):Int)) (d:=79) kz (e:=37) (size:=5) (bytes:=88) kz (b:=jI) (o:=0) (j:=k4_) fS (rfl) (by omega) fun pV jJ=>?_)
  refine qan (qb6 fR jJ (k:=0) (g:=jI) (o:=k4_ * 5) (c:=aY) (m:=(k4_ + 1)) (size:=5) (e:=37) (A:=aN) (xs:=(xs4_ ++ [.int .i64 0,.slice none 0 0,.bool false,.slice none 0 0,.slice none 0 0])) (vs:=[.int .i64 bL,.slice bQ bM.length bR,.bool bN,.slice bS bO.length bT,.slice bU bP.length bV]) kz rfl fS (by simp only [List.length_cons,List.length_nil]; omega) fun pW cW jK jL=>?_)
  have jM:(⟨aN,aY,37,5,k4_ + 1,qbA (xs4_ ++ [.int .i64 0,.slice none 0 0,.bool false,.slice none 0 0,.slice none 0 0]) (k4_ * 5) [.int .i64 bL,.slice bQ bM.length bR,.bool bN,.slice bS bO.length bT,.slice bU bP.length bV]⟩:Rw) = ⟨aN,aY,37,5,k4_ + 1,xs4_ ++ [.int .i64 bL,.slice bQ bM.length bR,.bool bN,.slice bS bO.length bT,.slice bU bP.length bV]⟩:=by rw [qcW (by rw [hT4_.xslen,List.length_take,qcl]; omega)]
  obtain ⟨fT,cX⟩:=jK.rowEq 0 [⟨aN,aY,37,5,k4_ + 1,xs4_ ++ (z1 bL bQ bM.length bR bN bS bO.length bT bU bP.length bV)⟩,⟨some ⟨gB,0,none⟩,1,37,5,1,z0⟩] jM
  refine qag (qav (qab (qau [0,1] kz ?_)))
  refine qak [0,1] [] [(0,.p 0 0),(2,.p 1 0),(3,.p 3 0),(56,.v (.int .i64 (((D.f 4).l:Nat):Int))),(57,.v (.int .i64 (IntKind.i64.wrap (((k4_:Nat):Int) + 1))))] fT jL fun pX jN=>?_
  refine qag (qab ?_)
  obtain ⟨fU,jO,cY⟩:=fT.cutB jN 4 [⟨b,o,(z5 v D),false⟩,⟨b8,0,z0,true⟩,⟨aa,0,(z2 D ag al ah.length am ai ao aj.length ap ar ak.length au aN k4_ aY),true⟩,⟨aQ,0,(z16 aa),true⟩] [(0,.p 0 0),(2,.p 1 0),(3,.p 3 0),(56,.v (.int .i64 (((D.f 4).l:Nat):Int))),(57,.v (.int .i64 (IntKind.i64.wrap (((k4_:Nat):Int) + 1))))]
  obtain ⟨jP,cZ⟩:=jO.cutR 1 [⟨aN,aY,37,5,k4_ + 1,xs4_ ++ (z1 bL bQ bM.length bR bN bS bO.length bT bU bP.length bV)⟩]
  have jQ:IntKind.i64.wrap (((k4_:Nat):Int) + 1) = ((k4_ + 1:Nat):Int):=qaS (by omega)
  rw [jQ] at fU
  exact ⟨(D.f 4).l - (k4_ + 1),by omega,k4_ + 1,aN,aY,xs4_ ++ [Value.int .i64 bL,.slice bQ bM.length bR,.bool bN,.slice bS bO.length bT,.slice bU bP.length bV],(css4_ ++ [[Value.int .i64 bL,.slice bQ bM.length bR,.bool bN,.slice bS bO.length bT,.slice bU bP.length bV]]),rfl,by omega,by rw [qcA (by omega)]; exact (hT4_.move ((((((((((((aw.trans ab).trans ax).trans aB).trans bq).trans aX).trans bt).trans aZ).trans cV).trans cW).trans cX).trans cY).trans cZ).step immM ((((((((((((aw.trans ab).trans ax).trans aB).trans bq).trans aX).trans bt).trans aZ).trans cV).trans cW).trans cX).trans cY).trans cZ).to').snoc (x:=(fun i=>qa3 ((D.f 4).f i)) k4_) (eG.move (((((aZ.trans cV).trans cW).trans cX).trans cY).trans cZ).step immM (((((aZ.trans cV).trans cW).trans cX).trans cY).trans cZ).to'),fU.pk,jP,(((((((((((((cL.trans aw).trans ab).trans ax).trans aB).trans bq).trans aX).trans bt).trans aZ).trans cV).trans cW).trans cX).trans cY).trans cZ)⟩
 have nA:=zF em
 refine wp_exit (qay (qay (qaQ (qab (qaE 9 kz dr fun pY dA jR eJ=>?_)))))
 refine qaF [0,1,2,3,4,5,6] [(0,.p 0 0),(2,.p 1 0),(3,.p 3 0),(100,.v (.slice (some ⟨aa,0,none⟩) 6 6)),(105,.v (.bool (((D.f 5).A).isNone)))] 3 (qaa qae) (fun _ h=>h.cells) eJ ek fun pZ jS=>?_
 refine qap (i:=7) kz (qaB jS (t:=34) (A:=(some ⟨aa,0,none⟩)) (m:=6) (q:=5) (d:=106) kz (e:=37) (size:=5) (bytes:=88) (j:=5) kz (b:=aa) (o:=0) rfl rfl (by decide) fun p4 jT=>?_)
 have jU:=jT.recast 106 (.v (.pointer (some ⟨aa,0 + 5 * 5,none⟩))) (.p 2 25) rfl rfl (zN (n:=3) rfl)
 have jV:=jU.pk (env':=[(0,.p 0 0),(2,.p 1 0),(3,.p 3 0),(100,.v (.slice (some ⟨aa,0,none⟩) 6 6)),(105,.v (.bool (((D.f 5).A).isNone))),(106,.p 2 25)])
 refine ⟨fun _=>eJ,?_⟩
 refine qaF [8] [(0,.p 0 0),(2,.p 1 0),(3,.p 3 0),(105,.v (.bool (((D.f 5).A).isNone))),(107,.p 2 27)] 1 (qaa qae) (fun _ h=>h.cells) eJ jV fun p5 jW=>?_
 refine qap (i:=9) kz (qao jR jW (oi:=2) (cs:=[.int .i64 (IntKind.i64.wrap ((D.f 0).n)),.slice none 0 0,.bool false,.slice none 0 0,.slice none 0 0,.int .i64 (IntKind.i64.wrap ((D.f 1).n)),.slice none 0 0,.bool false,.slice none 0 0,.slice none 0 0,.int .i64 ag,.slice al ah.length am,.bool ai,.slice ao aj.length ap,.slice ar ak.length au,.int .i64 (IntKind.i64.wrap ((D.f 3).n)),.slice none 0 0,.bool false,.slice none 0 0,.slice none 0 0,.int .i64 0,.slice none 0 0,.bool (((D.f 4).A).isNone),.slice A4_ k4_ c4_,.slice none 0 0,.int .i64 0,.slice none 0 0,.bool (((D.f 5).A).isNone),.slice none 0 0,.slice none 0 0]) kz fun p6 dB eK jX=>?_)
 refine ⟨fun h=>absurd rfl h,?_⟩
 refine qaC kz ?_ _
 refine qab (wp_seq (qas [(0,.p 0 0),(2,.p 1 0),(3,.p 3 0),(112,.v (.int .i64 (((D.f 5).l:Nat):Int))),(113,.v (.int .i64 0))] eK jX fun p7 jY=>?_))
 refine wp_block ?_
 have fV:=eK.addNil 37 5
 have dC:=eK.frNil 37 5
 refine wp_loop_ghost (fun n_ a_ w_=>∃ (k5_:Nat) (A5_:Option Addr) (c5_:Nat) (xs5_:List Value) (css5_:List (List Value)),n_ = (D.f 5).l - k5_ ∧ k5_ ≤ (D.f 5).l ∧ (Trees w_ (Imm F w w_ [⟨b,o,[.int .i16 v,.int .i32 ((D.f 0).n),.int .i16 ((D.f 1).n),.pointer ((D.f 2).A),.int .i32 ((D.f 3).n),.slice ((D.f 4).A) ((D.f 4).l) ((D.f 4).c),.slice ((D.f 5).A) ((D.f 5).l) ((D.f 5).c),.map D.m],false⟩,⟨b8,0,[.int .i64 0,.slice none 0 0,.bool false,.slice none 0 0,.slice none 0 0],true⟩,⟨aa,0,[.int .i64 (IntKind.i64.wrap ((D.f 0).n)),.slice none 0 0,.bool false,.slice none 0 0,.slice none 0 0,.int .i64 (IntKind.i64.wrap ((D.f 1).n)),.slice none 0 0,.bool false,.slice none 0 0,.slice none 0 0,.int .i64 ag,.slice al ah.length am,.bool ai,.slice ao aj.length ap,.slice ar ak.length au,.int .i64 (IntKind.i64.wrap ((D.f 3).n)),.slice none 0 0,.bool false,.slice none 0 0,.slice none 0 0,.int .i64 0,.slice none 0 0,.bool (((D.f 4).A).isNone),.slice A4_ k4_ c4_,.slice none 0 0,.int .i64 0,.slice none 0 0,.bool (((D.f 5).A).isNone),.slice A5_ k5_ c5_,.slice none 0 0],true⟩,⟨aQ,0,[.int .i64 0,.slice none 0 0,.bool false,.slice (some ⟨aa,0,none⟩) 6 6,.slice none 0 0],true⟩] [⟨A4_,c4_,37,5,k4_,xs4_⟩,⟨A5_,c5_,37,5,k5_,xs5_⟩]) xs5_ (((List.range (D.f 5).l).map (fun i=>qaU ((D.f 5).f i))).take k5_) css5_) ∧ LInv fV 164 [⟨b,o,[.int .i16 v,.int .i32 ((D.f 0).n),.int .i16 ((D.f 1).n),.pointer ((D.f 2).A),.int .i32 ((D.f 3).n),.slice ((D.f 4).A) ((D.f 4).l) ((D.f 4).c),.slice ((D.f 5).A) ((D.f 5).l) ((D.f 5).c),.map D.m],false⟩,⟨b8,0,[.int .i64 0,.slice none 0 0,.bool false,.slice none 0 0,.slice none 0 0],true⟩,⟨aa,0,[.int .i64 (IntKind.i64.wrap ((D.f 0).n)),.slice none 0 0,.bool false,.slice none 0 0,.slice none 0 0,.int .i64 (IntKind.i64.wrap ((D.f 1).n)),.slice none 0 0,.bool false,.slice none 0 0,.slice none 0 0,.int .i64 ag,.slice al ah.length am,.bool ai,.slice ao aj.length ap,.slice ar ak.length au,.int .i64 (IntKind.i64.wrap ((D.f 3).n)),.slice none 0 0,.bool false,.slice none 0 0,.slice none 0 0,.int .i64 0,.slice none 0 0,.bool (((D.f 4).A).isNone),.slice A4_ k4_ c4_,.slice none 0 0,.int .i64 0,.slice none 0 0,.bool (((D.f 5).A).isNone),.slice A5_ k5_ c5_,.slice none 0 0],true⟩,⟨aQ,0,[.int .i64 0,.slice none 0 0,.bool false,.slice (some ⟨aa,0,none⟩) 6 6,.slice none 0 0],true⟩] [⟨A4_,c4_,37,5,k4_,xs4_⟩,⟨A5_,c5_,37,5,k5_,xs5_⟩] [(0,.p 0 0),(2,.p 1 0),(3,.p 3 0),(112,.v (.int .i64 (((D.f 5).l:Nat):Int))),(113,.v (.int .i64 ((k5_:Nat):Int)))] a_ w_) ((D.f 5).l) ⟨0,none,0,[],[],by omega,by omega,Trees.nil _ _,jY.pk,fV,Fr.refl _ _ _⟩ ?_
 rintro p8 p9 mJ ⟨k5_,A5_,c5_,xs5_,css5_,nB,nC,hT5_,jZ,av,ba⟩
 refine qas [(0,.p 0 0),(2,.p 1 0),(3,.p 3 0),(112,.v (.int .i64 (((D.f 5).l:Nat):Int))),(113,.v (.int .i64 ((k5_:Nat):Int))),(114,.v (.bool (decide (((k5_:Nat):Int) < (((D.f 5).l:Nat):Int)))))] av jZ fun qa eL=>?_
 refine wp_seq (qax eL (b:=decide (((k5_:Nat):Int) < (((D.f 5).l:Nat):Int))) kz (fun eM=>?_) (fun eM=>?_))
 ·
  have nD:=zD eM
  refine wp_skip (qab (wp_seq (wp_block (qas [(0,.p 0 0),(2,.p 1 0),(3,.p 3 0),(5,.v (.int .i64 ((k5_:Nat):Int))),(112,.v (.int .i64 (((D.f 5).l:Nat):Int))),(113,.v (.int .i64 ((k5_:Nat):Int)))] av eL fun qb j0=>?_))))
  refine qaE 4 kz av fun qc ay j1 nE=>?_
  refine qap (i:=0) kz (qaM j1 j0 (d:=116) (cs:=[.bool false]) kz fun qd qe qf nF nG ac eN fW=>?_)
  have j2:=TT.ofW ac eN
  refine ⟨fun _=>j2,?_⟩
  refine qdV (i:=1) (j:=2) kz ?_ ?_
  ·
   refine (qao eN fW (oi:=4) (cs:=[.bool true]) kz fun qg bu fX j3=>?_)
   have j4:=TT.ofW (ac.trans bu) fX
   refine ⟨fun _=>j4,?_⟩
   refine qap (i:=2) kz (qao fX j3 (oi:=4) (cs:=[.bool false]) kz fun qh c5 dD j5=>?_)
   have j6:=TT.ofW ((ac.trans bu).trans c5) dD
   refine ⟨fun _=>j6,?_⟩
   refine qap (i:=3) kz (qbq [0,2,3,5,112,113,117] dD.cells j5 (env':=[(0,.p 0 0),(2,.p 1 0),(3,.p 3 0),(5,.v (.int .i64 ((k5_:Nat):Int))),(112,.v (.int .i64 (((D.f 5).l:Nat):Int))),(113,.v (.int .i64 ((k5_:Nat):Int))),(117,.v (.bool false))]) kz fun qi fY=>?_)
   have j7:=TT.ofW ((ac.trans bu).trans c5) dD
   refine ⟨fun _=>j7,?_⟩
   refine qaC kz ?_ _
   refine qab (qaq fY (b:=false) kz rfl ?_)
   refine qcE 18 kz dD fun qj eO bd dE=>?_
   refine qaF [0,1,2,3,7,8,9,10,11] [(0,.p 0 0),(2,.p 1 0),(3,.p 3 0),(112,.v (.int .i64 (((D.f 5).l:Nat):Int))),(113,.v (.int .i64 ((k5_:Nat):Int))),(137,.v (.slice (some ⟨aa,0,none⟩) 6 6)),(139,.v (.slice (some ⟨aa,0,none⟩) 6 6)),(146,.v (.slice ((D.f 5).A) ((D.f 5).l) ((D.f 5).c))),(147,.v (.int .i64 ((k5_:Nat):Int)))] 10 (qac (qaa (qaa (qac (qaa qae))))) (fun _ h=>h.cells) dE fY fun qk j8=>?_
   refine qaH j8 (i:=4) (t:=34) (A:=(some ⟨aa,0,none⟩)) (m:=6) (q:=5) (d:=140) kz (e:=37) (size:=5) (bytes:=88) (j:=5) kz (b:=aa) (o:=0) rfl rfl (by decide) kz kz (qac (qaa (qaa (qac (qaa qae))))) dE fun ql j9=>?_
   have ka:=j9.recast 140 (.v (.pointer (some ⟨aa,0 + 5 * 5,none⟩))) (.p 2 25) rfl rfl (zN (n:=3) rfl)
   have kd:=ka.pk (env':=[(0,.p 0 0),(2,.p 1 0),(3,.p 3 0),(112,.v (.int .i64 (((D.f 5).l:Nat):Int))),(113,.v (.int .i64 ((k5_:Nat):Int))),(137,.v (.slice (some ⟨aa,0,none⟩) 6 6)),(139,.v (.slice (some ⟨aa,0,none⟩) 6 6)),(146,.v (.slice ((D.f 5).A) ((D.f 5).l) ((D.f 5).c))),(147,.v (.int .i64 ((k5_:Nat):Int))),(140,.p 2 25)])
   refine qaF [5,6] [(0,.p 0 0),(2,.p 1 0),(3,.p 3 0),(112,.v (.int .i64 (((D.f 5).l:Nat):Int))),(113,.v (.int .i64 ((k5_:Nat):Int))),(137,.v (.slice (some ⟨aa,0,none⟩) 6 6)),(142,.v (.slice A5_ k5_ c5_)),(146,.v (.slice ((D.f 5).A) ((D.f 5).l) ((D.f 5).c))),(147,.v (.int .i64 ((k5_:Nat):Int)))] 7 (qac (qaa (qaa (qac (qaa qae))))) (fun _ h=>h.cells) dE kd fun qm ke=>?_
   obtain ⟨kf,kg,kh,nH,gC⟩:=Slots.get g6 (i:=k5_) (by omega)
   refine qaH ke (i:=12) (t:=109) (A:=(D.f 5).A) (m:=((D.f 5).l)) (q:=((k5_:Nat):Int)) (d:=148) kz (e:=122) (size:=5) (bytes:=48) kz kh rfl (by omega) kz kz (qac (qaa (qaa (qac (qaa qae))))) dE fun qn ki=>?_
   refine qap (i:=13) kz (qal ki (f:=75) (vs:=[.pointer (some ⟨kf,kg + k5_ * 5,none⟩)]) (d:=149) kz Tryz.call75 (qbC 0 ((D.f 5).f k5_) _ _ _ _ (gC.move bd.step nilM bd.imm) (qaY _ bd.step nilM bd.imm (g6e k5_ (by omega)))) ?_)
   rintro e_ qo ⟨nI,rfl,kj,eP⟩
   have eQ:=kj.move (Step.refl _ Nil) nilM (bd.laid (G:=F) eP)
   obtain ⟨dY,dZ,d5,d6,d7,d8,d9,ea,eb,ec,ee,nJ,nK,eR,mK,mL,qp,qq⟩:=eQ.open_
   rw [eR] at eQ
   have mM:=mK.small
   have mN:=mL.small
   rw [eR]
   refine ⟨_,rfl,fun qr km=>?_⟩
   have fZ:=bd.next_nil eP
   have bf:=bd.frN eP
   have ko:=TT.ofW bf fZ
   refine ⟨fun _=>ko,?_⟩
   refine qap (i:=14) kz (qbB fZ km (e:=37) (size:=5) (len:=1) (cs:=(z1 dY d8 dZ.length d9 d5 ea d6.length eb ec d7.length ee)) (d:=150) kz kz fun kp qs qt nL nM aF dF kq=>?_)
   have ku:=TT.ofW (bf.trans aF) dF
   refine ⟨fun _=>ku,?_⟩
   refine qap (i:=15) kz (qaR dF kq (k:=1) (d:=151) (t:=34) (e:=37) (size:=5) (bytes:=88) (A:=A5_) (As:=(some ⟨kp,0,none⟩)) (m0:=k5_) (c:=c5_) (m:=1) (cs:=1) (xs:=xs5_) (news:=(z1 dY d8 dZ.length d9 d5 ea d6.length eb ec d7.length ee)) kz kz rfl (qbI (dF.own 2 _ rfl) (qbE kz)) (qbQ (dF.own 2 _ rfl)) (by omega) fun ef eg qu qv bg eS kv=>?_)
   have kw:=TT.ofW ((bf.trans aF).trans bg) eS
   refine ⟨fun _=>kw,?_⟩
   refine qap (i:=16) kz (qaB kv (t:=34) (A:=(some ⟨aa,0,none⟩)) (m:=6) (q:=5) (d:=152) kz (e:=37) (size:=5) (bytes:=88) (j:=5) kz (b:=aa) (o:=0) rfl rfl (by decide) fun qw kx=>?_)
   have ky:=kx.recast 152 (.v (.pointer (some ⟨aa,0 + 5 * 5,none⟩))) (.p 2 25) rfl rfl (zN (n:=3) rfl)
   have kA:=ky.pk (env':=[(0,.p 0 0),(2,.p 1 0),(3,.p 3 0),(112,.v (.int .i64 (((D.f 5).l:Nat):Int))),(113,.v (.int .i64 ((k5_:Nat):Int))),(137,.v (.slice (some ⟨aa,0,none⟩) 6 6)),(142,.v (.slice A5_ k5_ c5_)),(146,.v (.slice ((D.f 5).A) ((D.f 5).l) ((D.f 5).c))),(147,.v (.int .i64 ((k5_:Nat):Int))),(148,.v (.pointer (some ⟨kf,kg + k5_ * 5,none⟩))),(149,.v (.agg #[.int .i64 dY,.slice d8 dZ.length d9,.bool d5,.slice ea d6.length eb,.slice ec d7.length ee])),(150,.v (.slice (some ⟨kp,0,none⟩) 1 1)),(151,.v (.slice ef (k5_ + 1) eg)),(152,.p 2 25)])
   have f5:=TT.ofW ((bf.trans aF).trans bg) eS
   refine ⟨fun _=>f5,?_⟩
   refine qaF [17] [(0,.p 0 0),(2,.p 1 0),(3,.p 3 0),(112,.v (.int .i64 (((D.f 5).l:Nat):Int))),(113,.v (.int .i64 ((k5_:Nat):Int))),(151,.v (.slice ef (k5_ + 1) eg)),(153,.p 2 28)] 1 (qac (qaa (qaa (qac (qaa qae))))) (fun _ h=>h.cells) f5 kA fun qx kB=>?_
   refine qap (i:=18) kz (qao eS kB (oi:=2) (cs:=(z3 D ag al ah.length am ai ao aj.length ap ar ak.length au A4_ k4_ c4_ ef k5_ eg)) kz fun qy c6 f7 kC=>?_)
   refine ⟨fun h=>absurd rfl h,?_⟩
   refine qaC kz ?_ _
   refine qav (qab (qau [0,1] kz ?_))
   refine qak [0,1] [] [(0,.p 0 0),(2,.p 1 0),(3,.p 3 0),(112,.v (.int .i64 (((D.f 5).l:Nat):Int))),(113,.v (.int .i64 (IntKind.i64.wrap (((k5_:Nat):Int) + 1))))] f7 kC fun qz kD=>?_
   refine qag (qab ?_)
   obtain ⟨f8,kE,da⟩:=f7.cutB kD 4 [⟨b,o,(z5 v D),false⟩,⟨b8,0,z0,true⟩,⟨aa,0,(z3 D ag al ah.length am ai ao aj.length ap ar ak.length au A4_ k4_ c4_ ef k5_ eg),true⟩,⟨aQ,0,(z16 aa),true⟩] [(0,.p 0 0),(2,.p 1 0),(3,.p 3 0),(112,.v (.int .i64 (((D.f 5).l:Nat):Int))),(113,.v (.int .i64 (IntKind.i64.wrap (((k5_:Nat):Int) + 1))))]
   obtain ⟨kF,db⟩:=kE.cutR 2 [⟨A4_,c4_,37,5,k4_,xs4_⟩,⟨ef,eg,37,5,k5_ + 1,xs5_ ++ (z1 dY d8 dZ.length d9 d5 ea d6.length eb ec d7.length ee)⟩]
   have kG:IntKind.i64.wrap (((k5_:Nat):Int) + 1) = ((k5_ + 1:Nat):Int):=qaS (by omega)
   rw [kG] at f8
   exact ⟨(D.f 5).l - (k5_ + 1),by omega,k5_ + 1,ef,eg,xs5_ ++ [Value.int .i64 dY,.slice d8 dZ.length d9,.bool d5,.slice ea d6.length eb,.slice ec d7.length ee],(css5_ ++ [[Value.int .i64 dY,.slice d8 dZ.length d9,.bool d5,.slice ea d6.length eb,.slice ec d7.length ee]]),rfl,by omega,by rw [qcA (by omega)]; exact (hT5_.move ((((((((((ay.trans ac).trans bu).trans c5).trans eO).trans bf).trans aF).trans bg).trans c6).trans da).trans db).step immM ((((((((((ay.trans ac).trans bu).trans c5).trans eO).trans bf).trans aF).trans bg).trans c6).trans da).trans db).to').snoc (x:=(fun i=>qaU ((D.f 5).f i)) k5_) (eQ.move ((((aF.trans bg).trans c6).trans da).trans db).step immM ((((aF.trans bg).trans c6).trans da).trans db).to'),f8.pk,kF,(((((((((((ba.trans ay).trans ac).trans bu).trans c5).trans eO).trans bf).trans aF).trans bg).trans c6).trans da).trans db)⟩
  refine (qao eN fW (oi:=4) (cs:=[.bool false]) kz fun qA az f9 kH=>?_)
  have kI:=TT.ofW (ac.trans az) f9
  refine ⟨fun _=>kI,?_⟩
  refine qap (i:=1) kz (qao f9 kH (oi:=4) (cs:=[.bool true]) kz fun qB aG dG kJ=>?_)
  have kK:=TT.ofW ((ac.trans az).trans aG) dG
  refine ⟨fun _=>kK,?_⟩
  refine qap (i:=3) kz (qbq [0,2,3,5,112,113,117] dG.cells kJ (env':=[(0,.p 0 0),(2,.p 1 0),(3,.p 3 0),(5,.v (.int .i64 ((k5_:Nat):Int))),(112,.v (.int .i64 (((D.f 5).l:Nat):Int))),(113,.v (.int .i64 ((k5_:Nat):Int))),(117,.v (.bool true))]) kz fun qC ga=>?_)
  have kL:=TT.ofW ((ac.trans az).trans aG) dG
  refine ⟨fun _=>kL,?_⟩
  refine qaC kz ?_ _
  refine qab (qa9 ga (b:=true) kz rfl ?_)
  refine qaE 17 kz dG fun qD bw aH dH=>?_
  refine qaF [0,1,5,6,7,8,9] [(0,.p 0 0),(2,.p 1 0),(3,.p 3 0),(112,.v (.int .i64 (((D.f 5).l:Nat):Int))),(113,.v (.int .i64 ((k5_:Nat):Int))),(119,.v (.slice (some ⟨aa,0,none⟩) 6 6)),(126,.v (.slice ((D.f 5).A) ((D.f 5).l) ((D.f 5).c))),(127,.v (.int .i64 ((k5_:Nat):Int)))] 11 (qaa (qac (qaa (qaa (qac (qaa qae)))))) (fun _ h=>h.cells) dH ga fun qE kM=>?_
  refine qaH kM (i:=2) (t:=34) (A:=(some ⟨aa,0,none⟩)) (m:=6) (q:=5) (d:=120) kz (e:=37) (size:=5) (bytes:=88) (j:=5) kz (b:=aa) (o:=0) rfl rfl (by decide) kz kz (qaa (qac (qaa (qaa (qac (qaa qae)))))) dH fun qF kN=>?_
  have kO:=kN.recast 120 (.v (.pointer (some ⟨aa,0 + 5 * 5,none⟩))) (.p 2 25) rfl rfl (zN (n:=3) rfl)
  have kP:=kO.pk (env':=[(0,.p 0 0),(2,.p 1 0),(3,.p 3 0),(112,.v (.int .i64 (((D.f 5).l:Nat):Int))),(113,.v (.int .i64 ((k5_:Nat):Int))),(119,.v (.slice (some ⟨aa,0,none⟩) 6 6)),(126,.v (.slice ((D.f 5).A) ((D.f 5).l) ((D.f 5).c))),(127,.v (.int .i64 ((k5_:Nat):Int))),(120,.p 2 25)])
  refine qaF [3,4,12] [(0,.p 0 0),(2,.p 1 0),(3,.p 3 0),(112,.v (.int .i64 (((D.f 5).l:Nat):Int))),(113,.v (.int .i64 ((k5_:Nat):Int))),(119,.v (.slice (some ⟨aa,0,none⟩) 6 6)),(122,.v (.slice A5_ k5_ c5_)),(126,.v (.slice ((D.f 5).A) ((D.f 5).l) ((D.f 5).c))),(127,.v (.int .i64 ((k5_:Nat):Int))),(130,.v (.int .i64 ((k5_:Nat):Int)))] 7 (qaa (qac (qaa (qaa (qac (qaa qae)))))) (fun _ h=>h.cells) dH kP fun qG kQ=>?_
  obtain ⟨fj,fk,kR,nN,eU⟩:=Slots.get g6 (i:=k5_) (by omega)
  refine qaH kQ (i:=10) (t:=109) (A:=(D.f 5).A) (m:=((D.f 5).l)) (q:=((k5_:Nat):Int)) (d:=128) kz (e:=122) (size:=5) (bytes:=48) kz kR rfl (by omega) kz kz (qaa (qac (qaa (qaa (qac (qaa qae)))))) dH fun qH gb=>?_
  refine qdV (i:=11) (j:=13) kz ?_ ?_
  ·
   refine (qal gb (f:=75) (vs:=[.pointer (some ⟨fj,fk + k5_ * 5,none⟩)]) (d:=129) kz Tryz.call75 (qbC 0 ((D.f 5).f k5_) _ _ _ _ (eU.move aH.step nilM aH.imm) (qaY _ aH.step nilM aH.imm (g6e k5_ (by omega)))) ?_)
   rintro e_ qI ⟨nO,rfl,kS,eV⟩
   have eW:=kS.move (Step.refl _ Nil) nilM (aH.laid (G:=F) eV)
   obtain ⟨bW,bX,bY,bZ,cd,ce,cm,cq,cr,cu,cw,nP,nQ,eX,mO,mQ,qJ,qK⟩:=eW.open_
   rw [eX] at eW
   have mR:=mO.small
   have mS:=mQ.small
   rw [eX]
   refine ⟨_,rfl,fun qL kT=>?_⟩
   have gc:=aH.next_nil eV
   have bh:=aH.frN eV
   have kU:=TT.ofW bh gc
   refine ⟨fun _=>kU,?_⟩
   refine qap (i:=13) kz (qbB gc kT (e:=37) (size:=5) (len:=1) (cs:=z0) (d:=131) kz kz fun gD qM qN nR nS aI dI kV=>?_)
   have kW:=TT.ofW (bh.trans aI) dI
   refine ⟨fun _=>kW,?_⟩
   refine qap (i:=14) kz (qaR dI kV (k:=1) (d:=132) (t:=34) (e:=37) (size:=5) (bytes:=88) (A:=A5_) (As:=(some ⟨gD,0,none⟩)) (m0:=k5_) (c:=c5_) (m:=1) (cs:=1) (xs:=xs5_) (news:=z0) kz kz rfl (qbI (dI.own 2 _ rfl) (qbE kz)) (qbQ (dI.own 2 _ rfl)) (by omega) fun aO bi qO qP bj eY kX=>?_)
   have kY:=TT.ofW ((bh.trans aI).trans bj) eY
   refine ⟨fun _=>kY,?_⟩
   refine qap (i:=15) kz (qaB kX (t:=34) (A:=(some ⟨aa,0,none⟩)) (m:=6) (q:=5) (d:=133) kz (e:=37) (size:=5) (bytes:=88) (j:=5) kz (b:=aa) (o:=0) rfl rfl (by decide) fun qQ kZ=>?_)
   have k5:=kZ.recast 133 (.v (.pointer (some ⟨aa,0 + 5 * 5,none⟩))) (.p 2 25) rfl rfl (zN (n:=3) rfl)
   have k6:=k5.pk (env':=[(0,.p 0 0),(2,.p 1 0),(3,.p 3 0),(112,.v (.int .i64 (((D.f 5).l:Nat):Int))),(113,.v (.int .i64 ((k5_:Nat):Int))),(119,.v (.slice (some ⟨aa,0,none⟩) 6 6)),(122,.v (.slice A5_ k5_ c5_)),(126,.v (.slice ((D.f 5).A) ((D.f 5).l) ((D.f 5).c))),(127,.v (.int .i64 ((k5_:Nat):Int))),(130,.v (.int .i64 ((k5_:Nat):Int))),(128,.v (.pointer (some ⟨fj,fk + k5_ * 5,none⟩))),(129,.v (.agg #[.int .i64 bW,.slice ce bX.length cm,.bool bY,.slice cq bZ.length cr,.slice cu cd.length cw])),(131,.v (.slice (some ⟨gD,0,none⟩) 1 1)),(132,.v (.slice aO (k5_ + 1) bi)),(133,.p 2 25)])
   have gd:=TT.ofW ((bh.trans aI).trans bj) eY
   refine ⟨fun _=>gd,?_⟩
   refine qaF [16] [(0,.p 0 0),(2,.p 1 0),(3,.p 3 0),(112,.v (.int .i64 (((D.f 5).l:Nat):Int))),(113,.v (.int .i64 ((k5_:Nat):Int))),(129,.v (.agg #[.int .i64 bW,.slice ce bX.length cm,.bool bY,.slice cq bZ.length cr,.slice cu cd.length cw])),(130,.v (.int .i64 ((k5_:Nat):Int))),(132,.v (.slice aO (k5_ + 1) bi)),(134,.p 2 28)] 1 (qaa (qac (qaa (qaa (qac (qaa qae)))))) (fun _ h=>h.cells) gd k6 fun qR k7=>?_
   refine qap (i:=17) kz (qao eY k7 (oi:=2) (cs:=(z3 D ag al ah.length am ai ao aj.length ap ar ak.length au A4_ k4_ c4_ aO k5_ bi)) kz fun mT dc ge k8=>?_)
   refine ⟨fun h=>absurd rfl h,?_⟩
   refine qaC kz ?_ _
   refine qab (qau [0,1] kz ?_)
   have k9:World.ownsRow mT 0 37 5 (.slice aO (k5_ + 1) bi) (k5_ + 1) (xs5_ ++ z0):=ge.own 1 _ rfl
   obtain ⟨la,gg⟩:=qcj k9 (by omega)
   refine qan (qaB k8 (t:=34) (A:=aO) (m:=(k5_ + 1)) (q:=((k5_:Nat):Int)) (d:=135) kz (e:=37) (size:=5) (bytes:=88) kz (b:=la) (o:=0) (j:=k5_) gg (rfl) (by omega) fun qS lb=>?_)
   refine qan (qb6 ge lb (k:=1) (g:=la) (o:=k5_ * 5) (c:=bi) (m:=(k5_ + 1)) (size:=5) (e:=37) (A:=aO) (xs:=(xs5_ ++ [.int .i64 0,.slice none 0 0,.bool false,.slice none 0 0,.slice none 0 0])) (vs:=[.int .i64 bW,.slice ce bX.length cm,.bool bY,.slice cq bZ.length cr,.slice cu cd.length cw]) kz rfl gg (by simp only [List.length_cons,List.length_nil]; omega) fun qT de lc ld=>?_)
   have lf:(⟨aO,bi,37,5,k5_ + 1,qbA (xs5_ ++ [.int .i64 0,.slice none 0 0,.bool false,.slice none 0 0,.slice none 0 0]) (k5_ * 5) [.int .i64 bW,.slice ce bX.length cm,.bool bY,.slice cq bZ.length cr,.slice cu cd.length cw]⟩:Rw) = ⟨aO,bi,37,5,k5_ + 1,xs5_ ++ [.int .i64 bW,.slice ce bX.length cm,.bool bY,.slice cq bZ.length cr,.slice cu cd.length cw]⟩:=by rw [qcW (by rw [hT5_.xslen,List.length_take,qcl]; omega)]
   obtain ⟨gh,df⟩:=lc.rowEq 1 [⟨A4_,c4_,37,5,k4_,xs4_⟩,⟨aO,bi,37,5,k5_ + 1,xs5_ ++ (z1 bW ce bX.length cm bY cq bZ.length cr cu cd.length cw)⟩,⟨some ⟨gD,0,none⟩,1,37,5,1,z0⟩] lf
   refine qag (qav (qab (qau [0,1] kz ?_)))
   refine qak [0,1] [] [(0,.p 0 0),(2,.p 1 0),(3,.p 3 0),(112,.v (.int .i64 (((D.f 5).l:Nat):Int))),(113,.v (.int .i64 (IntKind.i64.wrap (((k5_:Nat):Int) + 1))))] gh ld fun qU lg=>?_
   refine qag (qab ?_)
   obtain ⟨gi,lh,dg⟩:=gh.cutB lg 4 [⟨b,o,(z5 v D),false⟩,⟨b8,0,z0,true⟩,⟨aa,0,(z3 D ag al ah.length am ai ao aj.length ap ar ak.length au A4_ k4_ c4_ aO k5_ bi),true⟩,⟨aQ,0,(z16 aa),true⟩] [(0,.p 0 0),(2,.p 1 0),(3,.p 3 0),(112,.v (.int .i64 (((D.f 5).l:Nat):Int))),(113,.v (.int .i64 (IntKind.i64.wrap (((k5_:Nat):Int) + 1))))]
   obtain ⟨li,dh⟩:=lh.cutR 2 [⟨A4_,c4_,37,5,k4_,xs4_⟩,⟨aO,bi,37,5,k5_ + 1,xs5_ ++ (z1 bW ce bX.length cm bY cq bZ.length cr cu cd.length cw)⟩]
   have lj:IntKind.i64.wrap (((k5_:Nat):Int) + 1) = ((k5_ + 1:Nat):Int):=qaS (by omega)
   rw [lj] at gi
   exact ⟨(D.f 5).l - (k5_ + 1),by omega,k5_ + 1,aO,bi,xs5_ ++ [Value.int .i64 bW,.slice ce bX.length cm,.bool bY,.slice cq bZ.length cr,.slice cu cd.length cw],(css5_ ++ [[Value.int .i64 bW,.slice ce bX.length cm,.bool bY,.slice cq bZ.length cr,.slice cu cd.length cw]]),rfl,by omega,by rw [qcA (by omega)]; exact (hT5_.move ((((((((((((ay.trans ac).trans az).trans aG).trans bw).trans bh).trans aI).trans bj).trans dc).trans de).trans df).trans dg).trans dh).step immM ((((((((((((ay.trans ac).trans az).trans aG).trans bw).trans bh).trans aI).trans bj).trans dc).trans de).trans df).trans dg).trans dh).to').snoc (x:=(fun i=>qaU ((D.f 5).f i)) k5_) (eW.move ((((((aI.trans bj).trans dc).trans de).trans df).trans dg).trans dh).step immM ((((((aI.trans bj).trans dc).trans de).trans df).trans dg).trans dh).to'),gi.pk,li,(((((((((((((ba.trans ay).trans ac).trans az).trans aG).trans bw).trans bh).trans aI).trans bj).trans dc).trans de).trans df).trans dg).trans dh)⟩
  refine (qbB aH gb (e:=37) (size:=5) (len:=1) (cs:=z0) (d:=131) kz kz fun gE qV qW nT nU bk aJ lm=>?_)
  have ln:=TT.ofW bk aJ
  refine ⟨fun _=>ln,?_⟩
  refine qap (i:=11) kz (qal lm (f:=75) (vs:=[.pointer (some ⟨fj,fk + k5_ * 5,none⟩)]) (d:=129) kz Tryz.call75 (qbC 0 ((D.f 5).f k5_) _ _ _ _ (eU.move aJ.step nilM aJ.imm) (qaY _ aJ.step nilM aJ.imm (g6e k5_ (by omega)))) ?_)
  rintro e_ qX ⟨nV,rfl,lp,eZ⟩
  have e9:=lp.move (Step.refl _ Nil) nilM (aJ.laid (G:=F) eZ)
  obtain ⟨cz,cA,cB,cC,cD,cE,cG,cH,cI,cJ,cK,nW,nX,fb,mU,mV,qY,qZ⟩:=e9.open_
  rw [fb] at e9
  have mW:=mU.small
  have mX:=mV.small
  rw [fb]
  refine ⟨_,rfl,fun q0 lq=>?_⟩
  have dJ:=aJ.next_nil eZ
  have bx:=aJ.frN eZ
  have lr:=TT.ofW (bk.trans bx) dJ
  refine ⟨fun _=>lr,?_⟩
  refine qap (i:=14) kz (qaR dJ lq (k:=1) (d:=132) (t:=34) (e:=37) (size:=5) (bytes:=88) (A:=A5_) (As:=(some ⟨gE,0,none⟩)) (m0:=k5_) (c:=c5_) (m:=1) (cs:=1) (xs:=xs5_) (news:=z0) kz kz rfl (qbI (dJ.own 2 _ rfl) (qbE kz)) (qbQ (dJ.own 2 _ rfl)) (by omega) fun aP bn q4 q5 bo fe ls=>?_)
  have lu:=TT.ofW ((bk.trans bx).trans bo) fe
  refine ⟨fun _=>lu,?_⟩
  refine qap (i:=15) kz (qaB ls (t:=34) (A:=(some ⟨aa,0,none⟩)) (m:=6) (q:=5) (d:=133) kz (e:=37) (size:=5) (bytes:=88) (j:=5) kz (b:=aa) (o:=0) rfl rfl (by decide) fun q6 lv=>?_)
  have lw:=lv.recast 133 (.v (.pointer (some ⟨aa,0 + 5 * 5,none⟩))) (.p 2 25) rfl rfl (zN (n:=3) rfl)
  have lx:=lw.pk (env':=[(0,.p 0 0),(2,.p 1 0),(3,.p 3 0),(112,.v (.int .i64 (((D.f 5).l:Nat):Int))),(113,.v (.int .i64 ((k5_:Nat):Int))),(119,.v (.slice (some ⟨aa,0,none⟩) 6 6)),(122,.v (.slice A5_ k5_ c5_)),(126,.v (.slice ((D.f 5).A) ((D.f 5).l) ((D.f 5).c))),(127,.v (.int .i64 ((k5_:Nat):Int))),(130,.v (.int .i64 ((k5_:Nat):Int))),(128,.v (.pointer (some ⟨fj,fk + k5_ * 5,none⟩))),(131,.v (.slice (some ⟨gE,0,none⟩) 1 1)),(129,.v (.agg #[.int .i64 cz,.slice cE cA.length cG,.bool cB,.slice cH cC.length cI,.slice cJ cD.length cK])),(132,.v (.slice aP (k5_ + 1) bn)),(133,.p 2 25)])
  have gj:=TT.ofW ((bk.trans bx).trans bo) fe
  refine ⟨fun _=>gj,?_⟩
  refine qaF [16] [(0,.p 0 0),(2,.p 1 0),(3,.p 3 0),(112,.v (.int .i64 (((D.f 5).l:Nat):Int))),(113,.v (.int .i64 ((k5_:Nat):Int))),(129,.v (.agg #[.int .i64 cz,.slice cE cA.length cG,.bool cB,.slice cH cC.length cI,.slice cJ cD.length cK])),(130,.v (.int .i64 ((k5_:Nat):Int))),(132,.v (.slice aP (k5_ + 1) bn)),(134,.p 2 28)] 1 (qaa (qac (qaa (qaa (qac (qaa qae)))))) (fun _ h=>h.cells) gj lx fun q7 ly=>?_
  refine qap (i:=17) kz (qao fe ly (oi:=2) (cs:=(z3 D ag al ah.length am ai ao aj.length ap ar ak.length au A4_ k4_ c4_ aP k5_ bn)) kz fun mY di gk lz=>?_)
  refine ⟨fun h=>absurd rfl h,?_⟩
  refine qaC kz ?_ _
  refine qab (qau [0,1] kz ?_)
  have lA:World.ownsRow mY 0 37 5 (.slice aP (k5_ + 1) bn) (k5_ + 1) (xs5_ ++ z0):=gk.own 1 _ rfl
  obtain ⟨lB,gl⟩:=qcj lA (by omega)
  refine qan (qaB lz (t:=34) (A:=aP) (m:=(k5_ + 1)) (q:=((k5_:Nat):Int)) (d:=135) kz (e:=37) (size:=5) (bytes:=88) kz (b:=lB) (o:=0) (j:=k5_) gl (rfl) (by omega) fun q8 lC=>?_)
  refine qan (qb6 gk lC (k:=1) (g:=lB) (o:=k5_ * 5) (c:=bn) (m:=(k5_ + 1)) (size:=5) (e:=37) (A:=aP) (xs:=(xs5_ ++ [.int .i64 0,.slice none 0 0,.bool false,.slice none 0 0,.slice none 0 0])) (vs:=[.int .i64 cz,.slice cE cA.length cG,.bool cB,.slice cH cC.length cI,.slice cJ cD.length cK]) kz rfl gl (by simp only [List.length_cons,List.length_nil]; omega) fun q9 dj lD lE=>?_)
  have lF:(⟨aP,bn,37,5,k5_ + 1,qbA (xs5_ ++ [.int .i64 0,.slice none 0 0,.bool false,.slice none 0 0,.slice none 0 0]) (k5_ * 5) [.int .i64 cz,.slice cE cA.length cG,.bool cB,.slice cH cC.length cI,.slice cJ cD.length cK]⟩:Rw) = ⟨aP,bn,37,5,k5_ + 1,xs5_ ++ [.int .i64 cz,.slice cE cA.length cG,.bool cB,.slice cH cC.length cI,.slice cJ cD.length cK]⟩:=by rw [qcW (by rw [hT5_.xslen,List.length_take,qcl]; omega)]
  obtain ⟨gm,dl⟩:=lD.rowEq 1 [⟨A4_,c4_,37,5,k4_,xs4_⟩,⟨aP,bn,37,5,k5_ + 1,xs5_ ++ (z1 cz cE cA.length cG cB cH cC.length cI cJ cD.length cK)⟩,⟨some ⟨gE,0,none⟩,1,37,5,1,z0⟩] lF
  refine qag (qav (qab (qau [0,1] kz ?_)))
  refine qak [0,1] [] [(0,.p 0 0),(2,.p 1 0),(3,.p 3 0),(112,.v (.int .i64 (((D.f 5).l:Nat):Int))),(113,.v (.int .i64 (IntKind.i64.wrap (((k5_:Nat):Int) + 1))))] gm lE fun ra lG=>?_
  refine qag (qab ?_)
  obtain ⟨gn,lH,dp⟩:=gm.cutB lG 4 [⟨b,o,(z5 v D),false⟩,⟨b8,0,z0,true⟩,⟨aa,0,(z3 D ag al ah.length am ai ao aj.length ap ar ak.length au A4_ k4_ c4_ aP k5_ bn),true⟩,⟨aQ,0,(z16 aa),true⟩] [(0,.p 0 0),(2,.p 1 0),(3,.p 3 0),(112,.v (.int .i64 (((D.f 5).l:Nat):Int))),(113,.v (.int .i64 (IntKind.i64.wrap (((k5_:Nat):Int) + 1))))]
  obtain ⟨lI,dq⟩:=lH.cutR 2 [⟨A4_,c4_,37,5,k4_,xs4_⟩,⟨aP,bn,37,5,k5_ + 1,xs5_ ++ (z1 cz cE cA.length cG cB cH cC.length cI cJ cD.length cK)⟩]
  have lJ:IntKind.i64.wrap (((k5_:Nat):Int) + 1) = ((k5_ + 1:Nat):Int):=qaS (by omega)
  rw [lJ] at gn
  exact ⟨(D.f 5).l - (k5_ + 1),by omega,k5_ + 1,aP,bn,xs5_ ++ [Value.int .i64 cz,.slice cE cA.length cG,.bool cB,.slice cH cC.length cI,.slice cJ cD.length cK],(css5_ ++ [[Value.int .i64 cz,.slice cE cA.length cG,.bool cB,.slice cH cC.length cI,.slice cJ cD.length cK]]),rfl,by omega,by rw [qcA (by omega)]; exact (hT5_.move ((((((((((((ay.trans ac).trans az).trans aG).trans bw).trans bk).trans bx).trans bo).trans di).trans dj).trans dl).trans dp).trans dq).step immM ((((((((((((ay.trans ac).trans az).trans aG).trans bw).trans bk).trans bx).trans bo).trans di).trans dj).trans dl).trans dp).trans dq).to').snoc (x:=(fun i=>qaU ((D.f 5).f i)) k5_) (e9.move (((((bo.trans di).trans dj).trans dl).trans dp).trans dq).step immM (((((bo.trans di).trans dj).trans dl).trans dp).trans dq).to'),gn.pk,lI,(((((((((((((ba.trans ay).trans ac).trans az).trans aG).trans bw).trans bk).trans bx).trans bo).trans di).trans dj).trans dl).trans dp).trans dq)⟩
 have nY:=zF eM
 refine wp_exit (qay (qay (qaQ (qab (qaf [0,1,2,3,4] kz ?_)))))
 refine qak [0,1,2] [3,4] [(2,.p 1 0),(3,.p 3 0),(157,.p 0 7)] av eL fun rb lK=>?_
 refine qan (qen lK (v:=.func (.func 76) #[] #[.pointer (some ⟨aQ,0,none⟩)]) (d:=158) kz fun rc lL=>?_)
 refine qan (qal lL (f:=59) (vs:=[.pointer (some ⟨b,o + 7,none⟩),.func (.func 76) #[] #[.pointer (some ⟨aQ,0,none⟩)]]) (d:=159) kz Tryz.call59 (qec (F:=(Imm F w mJ [⟨b,o,(z5 v D),false⟩,⟨b8,0,z0,true⟩,⟨aa,0,(z38 D ag al ah.length am ai ao aj.length ap ar ak.length au A4_ k4_ c4_ A5_ k5_ c5_),true⟩,⟨aQ,0,(z16 aa),true⟩] [⟨A4_,c4_,37,5,k4_,xs4_⟩,⟨A5_,c5_,37,5,k5_,xs5_⟩])) Tryz.call76 qdk ((hat.one 7 rfl).move av.step nilM av.imm) (g7.move av.step nilM av.imm) (Str.of av 3 rfl) (qiZ 3 rfl) g7l) ?_)
 rintro e_ re ⟨rfl,ae,af,gF,lM,lN⟩
 obtain ⟨ff,bz,lO⟩:=av.wrote 3 [⟨b,o,(z5 v D),false⟩,⟨b8,0,z0,true⟩,⟨aa,0,(z38 D ag al ah.length am ai ao aj.length ap ar ak.length au A4_ k4_ c4_ A5_ k5_ c5_),true⟩,⟨aQ,0,[.int .i64 0,.slice none 0 0,.bool false,.slice (some ⟨aa,0,none⟩) 6 6,.slice ae D.u.length af],true⟩] rfl lN gF
 have gp:=lM.move (Step.refl _ Nil) nilM (fun b_ o_ h_ hb_=>lO (G:=F) b_ o_ (.inr h_) hb_)
 refine ⟨_,rfl,fun rf lP=>?_⟩
 have lQ:=(EnvOk.places (tb':=[⟨b,o,[.int .i16 v,.int .i32 ((D.f 0).n),.int .i16 ((D.f 1).n),.pointer ((D.f 2).A),.int .i32 ((D.f 3).n),.slice ((D.f 4).A) ((D.f 4).l) ((D.f 4).c),.slice ((D.f 5).A) ((D.f 5).l) ((D.f 5).c),.map D.m],false⟩,⟨b8,0,[.int .i64 0,.slice none 0 0,.bool false,.slice none 0 0,.slice none 0 0],true⟩,⟨aa,0,[.int .i64 (IntKind.i64.wrap ((D.f 0).n)),.slice none 0 0,.bool false,.slice none 0 0,.slice none 0 0,.int .i64 (IntKind.i64.wrap ((D.f 1).n)),.slice none 0 0,.bool false,.slice none 0 0,.slice none 0 0,.int .i64 ag,.slice al ah.length am,.bool ai,.slice ao aj.length ap,.slice ar ak.length au,.int .i64 (IntKind.i64.wrap ((D.f 3).n)),.slice none 0 0,.bool false,.slice none 0 0,.slice none 0 0,.int .i64 0,.slice none 0 0,.bool (((D.f 4).A).isNone),.slice A4_ k4_ c4_,.slice none 0 0,.int .i64 0,.slice none 0 0,.bool (((D.f 5).A).isNone),.slice A5_ k5_ c5_,.slice none 0 0],true⟩,⟨aQ,0,[.int .i64 0,.slice none 0 0,.bool false,.slice (some ⟨aa,0,none⟩) 6 6,.slice ae D.u.length af],true⟩]) lP (show Pl [⟨b,o,[.int .i16 v,.int .i32 ((D.f 0).n),.int .i16 ((D.f 1).n),.pointer ((D.f 2).A),.int .i32 ((D.f 3).n),.slice ((D.f 4).A) ((D.f 4).l) ((D.f 4).c),.slice ((D.f 5).A) ((D.f 5).l) ((D.f 5).c),.map D.m],false⟩,⟨b8,0,[.int .i64 0,.slice none 0 0,.bool false,.slice none 0 0,.slice none 0 0],true⟩,⟨aa,0,[.int .i64 (IntKind.i64.wrap ((D.f 0).n)),.slice none 0 0,.bool false,.slice none 0 0,.slice none 0 0,.int .i64 (IntKind.i64.wrap ((D.f 1).n)),.slice none 0 0,.bool false,.slice none 0 0,.slice none 0 0,.int .i64 ag,.slice al ah.length am,.bool ai,.slice ao aj.length ap,.slice ar ak.length au,.int .i64 (IntKind.i64.wrap ((D.f 3).n)),.slice none 0 0,.bool false,.slice none 0 0,.slice none 0 0,.int .i64 0,.slice none 0 0,.bool (((D.f 4).A).isNone),.slice A4_ k4_ c4_,.slice none 0 0,.int .i64 0,.slice none 0 0,.bool (((D.f 5).A).isNone),.slice A5_ k5_ c5_,.slice none 0 0],true⟩,⟨aQ,0,[.int .i64 0,.slice none 0 0,.bool false,.slice (some ⟨aa,0,none⟩) 6 6,.slice none 0 0],true⟩] [⟨b,o,[.int .i16 v,.int .i32 ((D.f 0).n),.int .i16 ((D.f 1).n),.pointer ((D.f 2).A),.int .i32 ((D.f 3).n),.slice ((D.f 4).A) ((D.f 4).l) ((D.f 4).c),.slice ((D.f 5).A) ((D.f 5).l) ((D.f 5).c),.map D.m],false⟩,⟨b8,0,[.int .i64 0,.slice none 0 0,.bool false,.slice none 0 0,.slice none 0 0],true⟩,⟨aa,0,[.int .i64 (IntKind.i64.wrap ((D.f 0).n)),.slice none 0 0,.bool false,.slice none 0 0,.slice none 0 0,.int .i64 (IntKind.i64.wrap ((D.f 1).n)),.slice none 0 0,.bool false,.slice none 0 0,.slice none 0 0,.int .i64 ag,.slice al ah.length am,.bool ai,.slice ao aj.length ap,.slice ar ak.length au,.int .i64 (IntKind.i64.wrap ((D.f 3).n)),.slice none 0 0,.bool false,.slice none 0 0,.slice none 0 0,.int .i64 0,.slice none 0 0,.bool (((D.f 4).A).isNone),.slice A4_ k4_ c4_,.slice none 0 0,.int .i64 0,.slice none 0 0,.bool (((D.f 5).A).isNone),.slice A5_ k5_ c5_,.slice none 0 0],true⟩,⟨aQ,0,[.int .i64 0,.slice none 0 0,.bool false,.slice (some ⟨aa,0,none⟩) 6 6,.slice ae D.u.length af],true⟩] from ⟨rfl,rfl,⟨rfl,rfl,⟨rfl,rfl,⟨rfl,rfl,trivial⟩⟩⟩⟩)).pk (env':=[(159,.v (.tuple #[])),(2,.p 1 0),(3,.p 3 0),(157,.p 0 7),(158,.v (.func (.func 76) #[] #[.pointer (some ⟨aQ,0,none⟩)]))])
 refine qag (qab ?_)
 refine qaf [0,1,2] kz ?_
 refine qak [0,1] [2] [(2,.p 1 0),(3,.p 3 0),(161,.v (.slice ae D.u.length af))] ff lQ fun rg lR=>?_
 refine qan (qal lR (f:=61) (vs:=[.slice ae D.u.length af]) (d:=162) kz Tryz.call61 (qf6 gp g7.sorted) ?_)
 rintro e_ rh ⟨rfl,gq⟩
 refine ⟨_,rfl,fun ri lS=>?_⟩
 have gt:=ff.next_nil gq
 have aK:=ff.frN gq
 refine qag (qab ?_)
 refine qaf [0,1] kz ?_
 refine qak [0] [1] [(2,.p 1 0),(163,.v (.agg #[.int .i64 0,.slice none 0 0,.bool false,.slice (some ⟨aa,0,none⟩) 6 6,.slice ae D.u.length af]))] gt lS fun rj lT=>?_
 refine qan (qao gt lT (oi:=1) (cs:=[.int .i64 0,.slice none 0 0,.bool false,.slice (some ⟨aa,0,none⟩) 6 6,.slice ae D.u.length af]) kz fun fg aL dK lU=>?_)
 refine qag (qab ?_)
 refine wp_ret (qaK lU dK.cells (v:=.agg #[.int .i64 0,.slice none 0 0,.bool false,.slice (some ⟨aa,0,none⟩) 6 6,.slice ae D.u.length af]) kz ?_)
 have gv:=(hT4_.move ((((((dA.trans dB).trans dC).trans ba).trans bz).trans aK).trans aL).step immM ((((((dA.trans dB).trans dC).trans ba).trans bz).trans aK).trans aL).to')
 rw [qgV (by omega)] at gv
 have gw:=(hT5_.move ((bz.trans aK).trans aL).step immM ((bz.trans aK).trans aL).to')
 rw [qgV (by omega)] at gw
 exact qe5 (u:=D.u) (l:=[.mk (IntKind.i64.wrap (D.f 0).n) [] false [] [],.mk (IntKind.i64.wrap (D.f 1).n) [] false [] [],qgd (D.f 2).A (D.f 2).s,.mk (IntKind.i64.wrap (D.f 3).n) [] false [] [],.mk 0 [] (D.f 4).A.isNone ((List.range (D.f 4).l).map fun i=>qa3 ((D.f 4).f i)) [],.mk 0 [] (D.f 5).A.isNone ((List.range (D.f 5).l).map fun i=>qaU ((D.f 5).f i)) []]) (css:=[[.int .i64 (IntKind.i64.wrap ((D.f 0).n)),.slice none 0 0,.bool false,.slice none 0 0,.slice none 0 0],[.int .i64 (IntKind.i64.wrap ((D.f 1).n)),.slice none 0 0,.bool false,.slice none 0 0,.slice none 0 0],[.int .i64 ag,.slice al ah.length am,.bool ai,.slice ao aj.length ap,.slice ar ak.length au],[.int .i64 (IntKind.i64.wrap ((D.f 3).n)),.slice none 0 0,.bool false,.slice none 0 0,.slice none 0 0],[.int .i64 0,.slice none 0 0,.bool (((D.f 4).A).isNone),.slice A4_ k4_ c4_,.slice none 0 0],[.int .i64 0,.slice none 0 0,.bool (((D.f 5).A).isNone),.slice A5_ k5_ c5_,.slice none 0 0]]) dK 2 rfl ⟨(show TreeR _ (Imm F w fg [⟨b,o,[.int .i16 v,.int .i32 ((D.f 0).n),.int .i16 ((D.f 1).n),.pointer ((D.f 2).A),.int .i32 ((D.f 3).n),.slice ((D.f 4).A) ((D.f 4).l) ((D.f 4).c),.slice ((D.f 5).A) ((D.f 5).l) ((D.f 5).c),.map D.m],false⟩,⟨b8,0,[.int .i64 0,.slice none 0 0,.bool false,.slice (some ⟨aa,0,none⟩) 6 6,.slice ae D.u.length af],true⟩,⟨aa,0,[.int .i64 (IntKind.i64.wrap ((D.f 0).n)),.slice none 0 0,.bool false,.slice none 0 0,.slice none 0 0,.int .i64 (IntKind.i64.wrap ((D.f 1).n)),.slice none 0 0,.bool false,.slice none 0 0,.slice none 0 0,.int .i64 ag,.slice al ah.length am,.bool ai,.slice ao aj.length ap,.slice ar ak.length au,.int .i64 (IntKind.i64.wrap ((D.f 3).n)),.slice none 0 0,.bool false,.slice none 0 0,.slice none 0 0,.int .i64 0,.slice none 0 0,.bool (((D.f 4).A).isNone),.slice A4_ k4_ c4_,.slice none 0 0,.int .i64 0,.slice none 0 0,.bool (((D.f 5).A).isNone),.slice A5_ k5_ c5_,.slice none 0 0],true⟩,⟨aQ,0,[.int .i64 0,.slice none 0 0,.bool false,.slice (some ⟨aa,0,none⟩) 6 6,.slice ae D.u.length af],true⟩] [⟨A4_,c4_,37,5,k4_,xs4_⟩,⟨A5_,c5_,37,5,k5_,xs5_⟩]) _ _ from (TreeR.mk (n:=IntKind.i64.wrap ((D.f 0).n)) (b:=false) (s:=[]) (l:=[]) (u:=[]) (fun _=>[]) (Octs.nil _ _) (Slots.nil _ _ _ _) (fun i_ x_ h_=>by simp at h_) (TagsR.nil _ _))).move (Step.refl _ Nil) nilM qbP,(show TreeR _ (Imm F w fg [⟨b,o,[.int .i16 v,.int .i32 ((D.f 0).n),.int .i16 ((D.f 1).n),.pointer ((D.f 2).A),.int .i32 ((D.f 3).n),.slice ((D.f 4).A) ((D.f 4).l) ((D.f 4).c),.slice ((D.f 5).A) ((D.f 5).l) ((D.f 5).c),.map D.m],false⟩,⟨b8,0,[.int .i64 0,.slice none 0 0,.bool false,.slice (some ⟨aa,0,none⟩) 6 6,.slice ae D.u.length af],true⟩,⟨aa,0,[.int .i64 (IntKind.i64.wrap ((D.f 0).n)),.slice none 0 0,.bool false,.slice none 0 0,.slice none 0 0,.int .i64 (IntKind.i64.wrap ((D.f 1).n)),.slice none 0 0,.bool false,.slice none 0 0,.slice none 0 0,.int .i64 ag,.slice al ah.length am,.bool ai,.slice ao aj.length ap,.slice ar ak.length au,.int .i64 (IntKind.i64.wrap ((D.f 3).n)),.slice none 0 0,.bool false,.slice none 0 0,.slice none 0 0,.int .i64 0,.slice none 0 0,.bool (((D.f 4).A).isNone),.slice A4_ k4_ c4_,.slice none 0 0,.int .i64 0,.slice none 0 0,.bool (((D.f 5).A).isNone),.slice A5_ k5_ c5_,.slice none 0 0],true⟩,⟨aQ,0,[.int .i64 0,.slice none 0 0,.bool false,.slice (some ⟨aa,0,none⟩) 6 6,.slice ae D.u.length af],true⟩] [⟨A4_,c4_,37,5,k4_,xs4_⟩,⟨A5_,c5_,37,5,k5_,xs5_⟩]) _ _ from (TreeR.mk (n:=IntKind.i64.wrap ((D.f 1).n)) (b:=false) (s:=[]) (l:=[]) (u:=[]) (fun _=>[]) (Octs.nil _ _) (Slots.nil _ _ _ _) (fun i_ x_ h_=>by simp at h_) (TagsR.nil _ _))).move (Step.refl _ Nil) nilM qbP,(show TreeR _ (Imm F w fg [⟨b,o,[.int .i16 v,.int .i32 ((D.f 0).n),.int .i16 ((D.f 1).n),.pointer ((D.f 2).A),.int .i32 ((D.f 3).n),.slice ((D.f 4).A) ((D.f 4).l) ((D.f 4).c),.slice ((D.f 5).A) ((D.f 5).l) ((D.f 5).c),.map D.m],false⟩,⟨b8,0,[.int .i64 0,.slice none 0 0,.bool false,.slice (some ⟨aa,0,none⟩) 6 6,.slice ae D.u.length af],true⟩,⟨aa,0,[.int .i64 (IntKind.i64.wrap ((D.f 0).n)),.slice none 0 0,.bool false,.slice none 0 0,.slice none 0 0,.int .i64 (IntKind.i64.wrap ((D.f 1).n)),.slice none 0 0,.bool false,.slice none 0 0,.slice none 0 0,.int .i64 ag,.slice al ah.length am,.bool ai,.slice ao aj.length ap,.slice ar ak.length au,.int .i64 (IntKind.i64.wrap ((D.f 3).n)),.slice none 0 0,.bool false,.slice none 0 0,.slice none 0 0,.int .i64 0,.slice none 0 0,.bool (((D.f 4).A).isNone),.slice A4_ k4_ c4_,.slice none 0 0,.int .i64 0,.slice none 0 0,.bool (((D.f 5).A).isNone),.slice A5_ k5_ c5_,.slice none 0 0],true⟩,⟨aQ,0,[.int .i64 0,.slice none 0 0,.bool false,.slice (some ⟨aa,0,none⟩) 6 6,.slice ae D.u.length af],true⟩] [⟨A4_,c4_,37,5,k4_,xs4_⟩,⟨A5_,c5_,37,5,k5_,xs5_⟩]) _ _ from (gy.move (((((((((((((fq.trans fr).trans fv).trans fw).trans fx).trans fz).trans cL).trans dA).trans dB).trans dC).trans ba).trans bz).trans aK).trans aL).step immM (((((((((((((fq.trans fr).trans fv).trans fw).trans fx).trans fz).trans cL).trans dA).trans dB).trans dC).trans ba).trans bz).trans aK).trans aL).to')).move (Step.refl _ Nil) nilM qbP,(show TreeR _ (Imm F w fg [⟨b,o,[.int .i16 v,.int .i32 ((D.f 0).n),.int .i16 ((D.f 1).n),.pointer ((D.f 2).A),.int .i32 ((D.f 3).n),.slice ((D.f 4).A) ((D.f 4).l) ((D.f 4).c),.slice ((D.f 5).A) ((D.f 5).l) ((D.f 5).c),.map D.m],false⟩,⟨b8,0,[.int .i64 0,.slice none 0 0,.bool false,.slice (some ⟨aa,0,none⟩) 6 6,.slice ae D.u.length af],true⟩,⟨aa,0,[.int .i64 (IntKind.i64.wrap ((D.f 0).n)),.slice none 0 0,.bool false,.slice none 0 0,.slice none 0 0,.int .i64 (IntKind.i64.wrap ((D.f 1).n)),.slice none 0 0,.bool false,.slice none 0 0,.slice none 0 0,.int .i64 ag,.slice al ah.length am,.bool ai,.slice ao aj.length ap,.slice ar ak.length au,.int .i64 (IntKind.i64.wrap ((D.f 3).n)),.slice none 0 0,.bool false,.slice none 0 0,.slice none 0 0,.int .i64 0,.slice none 0 0,.bool (((D.f 4).A).isNone),.slice A4_ k4_ c4_,.slice none 0 0,.int .i64 0,.slice none 0 0,.bool (((D.f 5).A).isNone),.slice A5_ k5_ c5_,.slice none 0 0],true⟩,⟨aQ,0,[.int .i64 0,.slice none 0 0,.bool false,.slice (some ⟨aa,0,none⟩) 6 6,.slice ae D.u.length af],true⟩] [⟨A4_,c4_,37,5,k4_,xs4_⟩,⟨A5_,c5_,37,5,k5_,xs5_⟩]) _ _ from (TreeR.mk (n:=IntKind.i64.wrap ((D.f 3).n)) (b:=false) (s:=[]) (l:=[]) (u:=[]) (fun _=>[]) (Octs.nil _ _) (Slots.nil _ _ _ _) (fun i_ x_ h_=>by simp at h_) (TagsR.nil _ _))).move (Step.refl _ Nil) nilM qbP,qf5 dK (k:=0) rfl gv (by rw [qcl]; omega) (by rw [qcl]; omega),qf5 dK (k:=1) rfl gw (by rw [qcl]; omega) (by rw [qcl]; omega),trivial⟩ ((show TagsR _ (Imm F w fg [⟨b,o,[.int .i16 v,.int .i32 ((D.f 0).n),.int .i16 ((D.f 1).n),.pointer ((D.f 2).A),.int .i32 ((D.f 3).n),.slice ((D.f 4).A) ((D.f 4).l) ((D.f 4).c),.slice ((D.f 5).A) ((D.f 5).l) ((D.f 5).c),.map D.m],false⟩,⟨b8,0,[.int .i64 0,.slice none 0 0,.bool false,.slice (some ⟨aa,0,none⟩) 6 6,.slice ae D.u.length af],true⟩,⟨aa,0,[.int .i64 (IntKind.i64.wrap ((D.f 0).n)),.slice none 0 0,.bool false,.slice none 0 0,.slice none 0 0,.int .i64 (IntKind.i64.wrap ((D.f 1).n)),.slice none 0 0,.bool false,.slice none 0 0,.slice none 0 0,.int .i64 ag,.slice al ah.length am,.bool ai,.slice ao aj.length ap,.slice ar ak.length au,.int .i64 (IntKind.i64.wrap ((D.f 3).n)),.slice none 0 0,.bool false,.slice none 0 0,.slice none 0 0,.int .i64 0,.slice none 0 0,.bool (((D.f 4).A).isNone),.slice A4_ k4_ c4_,.slice none 0 0,.int .i64 0,.slice none 0 0,.bool (((D.f 5).A).isNone),.slice A5_ k5_ c5_,.slice none 0 0],true⟩,⟨aQ,0,[.int .i64 0,.slice none 0 0,.bool false,.slice (some ⟨aa,0,none⟩) 6 6,.slice ae D.u.length af],true⟩] [⟨A4_,c4_,37,5,k4_,xs4_⟩,⟨A5_,c5_,37,5,k5_,xs5_⟩]) _ _ _ from (gp.move (aK.trans aL).step immM (aK.trans aL).to')).move (Step.refl _ Nil) nilM qbP)
theorem qiy {t:Tree} (h:t.i64s) (i:Nat):(t.at_ i).i64s:=by
 cases t with
 | mk n s b l u =>
  have h1:∀ x ∈ l,x.i64s:=qfU h.2
  show (l.getD i .zero).i64s
  rw [List.getD_eq_getElem?_getD]
  cases hx:l[i]? with
  | none=>exact ⟨by decide,trivial⟩
  | some x=>exact h1 x (List.mem_of_getElem? hx)
theorem qf7 {t x:Tree} (h:t.i64s) {i:Nat} (hx:(qar t.L)[i]? = some x):x.i64s:=by
 cases t with
 | mk n s b l u =>
  have h1:∀ x ∈ l,x.i64s:=qfU h.2
  exact h1 x (List.mem_of_mem_take (List.mem_of_getElem? hx))
theorem qb1 {k x1 x2 x3 x5 x6 v:Int} {s:List Fld} {flex:Bool} {x:Tree}:Fld.pres (.mk k x1 x2 x3 (-1) x5 x6 s) v flex x = (decide (x1 ≤ v) && (decide (x2 < 0) || decide (v ≤ x2))):=by simp [Fld.pres,Fld.tag,Fld.has]
section
variable {T:List Fld → Tree → Tree → Prop} {U:List Fld → Tree → Prop} {v k x1 x2 x3 x4 x5 x6 n:Int} {sub:List Fld} {x T':Tree} {A:Option Addr} {s:ByteArray} {o:Bs} {b:Bool}
theorem qlJ (hn:n = qbL k x.N) (hk:k < 7:=by decide):ToF0 T v (.mk k x1 x2 (-1) x4 x5 x6 sub) x (.mk n [] false [] []):=by
 cases x
 exact ⟨fun h=>by omega,fun _ h=>by omega,fun _ h=>by omega,fun _ h=>by omega,fun _ _ _ _ _ _=>hn⟩
theorem qfb (hn:n = qbL k x.N) (hk:k < 7:=by decide):ToF T v (.mk k x1 x2 (-1) x4 x5 x6 sub) x (.mk n [] false [] []):=⟨qlJ hn hk,fun h=>absurd (show k = 11 from h) (by omega)⟩
theorem qkN (hs:o = qaG x.S):ToF0 T v (.mk 8 x1 x2 (-1) x4 x5 x6 sub) x (.mk 0 o false [] []):=by
 cases x with
 | mk a1 a2 a3 a4 a5 =>
  exact ⟨fun _=>nul_no.symm,fun _ _=>hs,fun _ h=>by omega,fun _ h=>by omega,fun _ _ h=>absurd rfl h⟩
theorem qlK (h:s = bs T'.S) (h1:T'.S = qaG x.S):ToF T v (.mk 8 x1 x2 (-1) x4 x5 x6 sub) x (.mk 0 (sb s) false [] []) :=
 ⟨qkN (by rw [h,ql0,h1]),fun h=>absurd (show (8:Int) = 11 from h) (by decide)⟩
theorem qg2 (h:s = bs (qbo T') ∧ A.isNone = T'.null) (h1:qbo T' = (if Fld.nul (.mk 8 x1 x2 x3 x4 x5 x6 sub) v x = true then [] else qaG x.S) ∧ T'.null = Fld.nul (.mk 8 x1 x2 x3 x4 x5 x6 sub) v x):ToF T v (.mk 8 x1 x2 x3 x4 x5 x6 sub) x (qgd A s):=by
 refine ⟨?_,fun h=>absurd (show (8:Int) = 11 from h) (by decide)⟩
 have e:qgd A s = .mk 0 (if Fld.nul (.mk 8 x1 x2 x3 x4 x5 x6 sub) v x = true then [] else qaG x.S) (Fld.nul (.mk 8 x1 x2 x3 x4 x5 x6 sub) v x) [] []:=by
  unfold qgd
  rw [h.2,h1.2,h.1,ql0,h1.1]
  split <;> rfl
 rw [e]
 cases x with
 | mk a1 a2 a3 a4 a5 =>
  exact ⟨fun _=>rfl,fun hn _=>by rw [if_neg (by rw [hn]; decide)]; rfl,fun _ h=>by omega,fun _ h=>by omega,fun _ _ h=>absurd rfl h⟩
theorem qkO (hs:o = qbF x.S):ToF0 T v (.mk 7 x1 x2 (-1) x4 x5 x6 sub) x (.mk 0 o false [] []):=by
 cases x with
 | mk a1 a2 a3 a4 a5 =>
  exact ⟨fun h=>by omega,fun _ h=>by omega,fun _ _=>hs,fun _ h=>by omega,fun _ h=>absurd rfl h⟩
theorem qlL (h:o = qah T'.S) (h1:T'.S = x.S):ToF T v (.mk 7 x1 x2 (-1) x4 x5 x6 sub) x (.mk 0 o false [] []) :=
 ⟨qkO (by rw [h,qcM,h1]),fun h=>absurd (show (7:Int) = 11 from h) (by decide)⟩
theorem qfI {g:Tree} (hg:g.null = false) (h:T sub x g):ToF0 T v (.mk 10 x1 x2 (-1) x4 x5 x6 sub) x g:=by
 cases x with
 | mk a1 a2 a3 a4 a5 =>
  cases g with
  | mk g1 g2 g3 g4 g5 =>
   exact ⟨fun _=>by rw [nul_no]; exact hg,fun _ h=>by omega,fun _ h=>by omega,fun _ _=>h,fun _ _ _ _ h=>absurd rfl h⟩
theorem qh4 {l:Nat} {g:Nat → Tree} {W:Tree → Tree} (hb:x3 ≥ 0 ∧ v ≥ x3 → b = Fld.nul (.mk 11 x1 x2 x3 x4 x5 x6 sub) v x) (hl:l = (lst T').length) (hlst:lst T' = (if Fld.nul (.mk 11 x1 x2 x3 (-1) x5 x6 sub) v x = true then [] else qar x.L).map W)
  (he:∀ i y,i < l → (lst T').getD i .zero = W y → (qar x.L)[i]? = some y → ToF0 T v (.mk x6 x1 x2 (-1) (-1) x5 x6 sub) y (g i)):ToF T v (.mk 11 x1 x2 x3 x4 x5 x6 sub) x (.mk 0 [] b ((List.range l).map g) []):=by
 have hn:Fld.nul (.mk 11 x1 x2 x3 (-1) x5 x6 sub) v x = Fld.nul (.mk 11 x1 x2 x3 x4 x5 x6 sub) v x:=by cases x; rfl
 refine ⟨?_,fun _ hnn=>?_⟩
 ·cases x with
  | mk a1 a2 a3 a4 a5 =>
   refine ⟨fun h=>hb ?_,fun _ h=>by omega,fun _ h=>by omega,fun _ h=>by omega,fun _ _ _ _ _ h=>absurd rfl h⟩
   rcases h with h | h | h
   ·omega
   ·omega
   exact h
 rw [hn,hnn,if_neg (by decide)] at hlst
 have hll:l = (qar x.L).length:=by rw [hl,hlst,List.length_map]
 refine ⟨by show ((List.range l).map g).length = _; rw [List.length_map,List.length_range,hll],fun i y z hy hz=>?_⟩
 have hi:i < l:=by rw [hll]; exact (List.getElem?_eq_some_iff.1 hy).1
 have hz':((List.range l).map g)[i]? = some z:=hz
 rw [List.getElem?_map,List.getElem?_range hi] at hz'
 obtain rfl:=Option.some.inj hz'
 refine he i y hi ?_ hy
 rw [hlst,List.getD_eq_getElem?_getD,List.getElem?_map,hy]
 rfl
theorem us_num' (hn:n = qbL k x5) (hk:k < 7:=by decide):UsF U (.mk k x1 x2 x3 x4 x5 x6 sub) (.mk n [] false [] []):=⟨fun h=>by omega,fun h=>by omega,fun h=>by omega,fun h=>by omega,fun _ _ _ _ _=>hn⟩
end
theorem qbU (v:Int) (h0:0 ≤ v) (t Y:Tree) (hY:∀ i,Y.at_ i = (fitT v 5 [(Fld.mk 3 0 (-1) (-1) (-1) 0 0 []),(Fld.mk 3 0 (-1) (-1) (-1) 0 0 [])] t).at_ i) (hU:Y.U = (fitT v 5 [(Fld.mk 3 0 (-1) (-1) (-1) 0 0 []),(Fld.mk 3 0 (-1) (-1) (-1) 0 0 [])] t).U) (hi:t.i64s) (D:DV) (h:qbd v D Y):qhA v (decide (v ≥ qai)) 5 [(Fld.mk 3 0 (-1) (-1) (-1) 0 0 []),(Fld.mk 3 0 (-1) (-1) (-1) 0 0 [])] t (qa4 D):=by
 unfold qbd at h
 obtain ⟨r0,r1,rU,_⟩:=h
 refine ⟨rfl,fun i f y hf hy=>?_,?_⟩
 ·match i,hf,hy with
  | 0,hf,hy =>
   obtain rfl:=Option.some.inj hf
   obtain rfl:=Option.some.inj hy
   have e:=hY 0
   refine ⟨fun hp=>?_,fun hp=>?_⟩
   ·have hc:True:=trivial
    have r:=r0
    rw [e] at r
    rw [(qdZ (v:=v) (d:=4) (t:=t) (show [(Fld.mk 3 0 (-1) (-1) (-1) 0 0 []),(Fld.mk 3 0 (-1) (-1) (-1) 0 0 [])][0]? = _ from rfl) (by decide))] at r
    exact qfb (by rw [r,qdM]; rfl)
   rw [qb1] at hp; simp at hp; omega
  | 1,hf,hy =>
   obtain rfl:=Option.some.inj hf
   obtain rfl:=Option.some.inj hy
   have e:=hY 1
   refine ⟨fun hp=>?_,fun hp=>?_⟩
   ·have hc:True:=trivial
    have r:=r1
    rw [e] at r
    rw [(qdZ (v:=v) (d:=4) (t:=t) (show [(Fld.mk 3 0 (-1) (-1) (-1) 0 0 []),(Fld.mk 3 0 (-1) (-1) (-1) 0 0 [])][1]? = _ from rfl) (by decide))] at r
    exact qfb (by rw [r,qdM]; rfl)
   rw [qb1] at hp; simp at hp; omega
  | n_ + 2,hf,hy=>exact absurd (List.getElem?_eq_some_iff.1 hf).1 (by show ¬ n_ + 2 < 2; omega)
 show D.u = if (decide (v ≥ qai)) = true then qcC (qaj [(Fld.mk 3 0 (-1) (-1) (-1) 0 0 []),(Fld.mk 3 0 (-1) (-1) (-1) 0 0 [])] t.U) else []
 by_cases hc:(decide (v ≥ 0)) = true
 ·rw [if_pos (show (decide (v ≥ qai)) = true from hc),rU.1 hc,hU,qf9]
 rw [if_neg (show ¬ (decide (v ≥ qai)) = true from hc),rU.2 (by simpa using hc)]
theorem qcm (v:Int) (h0:0 ≤ v) (t Y:Tree) (hY:∀ i,Y.at_ i = (fitT v 6 [(Fld.mk 3 0 (-1) (-1) (-1) 0 0 []),(Fld.mk 2 0 (-1) (-1) (-1) 0 0 []),(Fld.mk 8 0 (-1) 0 (-1) 0 0 []),(Fld.mk 10 0 (-1) (-1) (-1) 0 0 [(Fld.mk 3 0 (-1) (-1) (-1) 0 0 []),(Fld.mk 3 0 (-1) (-1) (-1) 0 0 [])])] t).at_ i) (hU:Y.U = (fitT v 6 [(Fld.mk 3 0 (-1) (-1) (-1) 0 0 []),(Fld.mk 2 0 (-1) (-1) (-1) 0 0 []),(Fld.mk 8 0 (-1) 0 (-1) 0 0 []),(Fld.mk 10 0 (-1) (-1) (-1) 0 0 [(Fld.mk 3 0 (-1) (-1) (-1) 0 0 []),(Fld.mk 3 0 (-1) (-1) (-1) 0 0 [])])] t).U) (hi:t.i64s) (D:DV) (h:qa1 v D Y):qhA v (decide (v ≥ qai)) 6 [(Fld.mk 3 0 (-1) (-1) (-1) 0 0 []),(Fld.mk 2 0 (-1) (-1) (-1) 0 0 []),(Fld.mk 8 0 (-1) 0 (-1) 0 0 []),(Fld.mk 10 0 (-1) (-1) (-1) 0 0 [(Fld.mk 3 0 (-1) (-1) (-1) 0 0 []),(Fld.mk 3 0 (-1) (-1) (-1) 0 0 [])])] t (qaP D):=by
 unfold qa1 at h
 obtain ⟨r0,r1,r2,r3,rU,_⟩:=h
 refine ⟨rfl,fun i f y hf hy=>?_,?_⟩
 ·match i,hf,hy with
  | 0,hf,hy =>
   obtain rfl:=Option.some.inj hf
   obtain rfl:=Option.some.inj hy
   have e:=hY 0
   refine ⟨fun hp=>?_,fun hp=>?_⟩
   ·have hc:True:=trivial
    have r:=r0
    rw [e] at r
    rw [(qdZ (v:=v) (d:=5) (t:=t) (show [(Fld.mk 3 0 (-1) (-1) (-1) 0 0 []),(Fld.mk 2 0 (-1) (-1) (-1) 0 0 []),(Fld.mk 8 0 (-1) 0 (-1) 0 0 []),(Fld.mk 10 0 (-1) (-1) (-1) 0 0 [(Fld.mk 3 0 (-1) (-1) (-1) 0 0 []),(Fld.mk 3 0 (-1) (-1) (-1) 0 0 [])])][0]? = _ from rfl) (by decide))] at r
    exact qfb (by rw [r,qdM]; rfl)
   rw [qb1] at hp; simp at hp; omega
  | 1,hf,hy =>
   obtain rfl:=Option.some.inj hf
   obtain rfl:=Option.some.inj hy
   have e:=hY 1
   refine ⟨fun hp=>?_,fun hp=>?_⟩
   ·have hc:True:=trivial
    have r:=r1
    rw [e] at r
    rw [(qdZ (v:=v) (d:=5) (t:=t) (show [(Fld.mk 3 0 (-1) (-1) (-1) 0 0 []),(Fld.mk 2 0 (-1) (-1) (-1) 0 0 []),(Fld.mk 8 0 (-1) 0 (-1) 0 0 []),(Fld.mk 10 0 (-1) (-1) (-1) 0 0 [(Fld.mk 3 0 (-1) (-1) (-1) 0 0 []),(Fld.mk 3 0 (-1) (-1) (-1) 0 0 [])])][1]? = _ from rfl) (by decide))] at r
    exact qfb (by rw [r,qfu]; rfl)
   rw [qb1] at hp; simp at hp; omega
  | 2,hf,hy =>
   obtain rfl:=Option.some.inj hf
   obtain rfl:=Option.some.inj hy
   have e:=hY 2
   refine ⟨fun hp=>?_,fun hp=>?_⟩
   ·have hc:True:=trivial
    have r:=r2
    rw [e] at r
    exact qg2 r (qhR (v:=v) (d:=5) (t:=t) (show [(Fld.mk 3 0 (-1) (-1) (-1) 0 0 []),(Fld.mk 2 0 (-1) (-1) (-1) 0 0 []),(Fld.mk 8 0 (-1) 0 (-1) 0 0 []),(Fld.mk 10 0 (-1) (-1) (-1) 0 0 [(Fld.mk 3 0 (-1) (-1) (-1) 0 0 []),(Fld.mk 3 0 (-1) (-1) (-1) 0 0 [])])][2]? = _ from rfl) (by decide))
   rw [qb1] at hp; simp at hp; omega
  | 3,hf,hy =>
   obtain rfl:=Option.some.inj hf
   obtain rfl:=Option.some.inj hy
   have e:=hY 3
   refine ⟨fun hp=>?_,fun hp=>?_⟩
   ·have hc:True:=trivial
    have r:=r3
    rw [e] at r
    obtain ⟨fa,fu,fn⟩:=qhS (v:=v) (d:=5) (t:=t) (show [(Fld.mk 3 0 (-1) (-1) (-1) 0 0 []),(Fld.mk 2 0 (-1) (-1) (-1) 0 0 []),(Fld.mk 8 0 (-1) 0 (-1) 0 0 []),(Fld.mk 10 0 (-1) (-1) (-1) 0 0 [(Fld.mk 3 0 (-1) (-1) (-1) 0 0 []),(Fld.mk 3 0 (-1) (-1) (-1) 0 0 [])])][3]? = _ from rfl)
    exact ⟨qfI rfl (qbU v h0 (t.at_ 3) _ fa fu (qiy hi 3) _ r),fun h=>absurd (show (10:Int) = 11 from h) (by decide)⟩
   rw [qb1] at hp; simp at hp; omega
  | n_ + 4,hf,hy=>exact absurd (List.getElem?_eq_some_iff.1 hf).1 (by show ¬ n_ + 4 < 4; omega)
 show D.u = if (decide (v ≥ qai)) = true then qcC (qaj [(Fld.mk 3 0 (-1) (-1) (-1) 0 0 []),(Fld.mk 2 0 (-1) (-1) (-1) 0 0 []),(Fld.mk 8 0 (-1) 0 (-1) 0 0 []),(Fld.mk 10 0 (-1) (-1) (-1) 0 0 [(Fld.mk 3 0 (-1) (-1) (-1) 0 0 []),(Fld.mk 3 0 (-1) (-1) (-1) 0 0 [])])] t.U) else []
 by_cases hc:(decide (v ≥ 0)) = true
 ·rw [if_pos (show (decide (v ≥ qai)) = true from hc),rU.1 hc,hU,qf9]
 rw [if_neg (show ¬ (decide (v ≥ qai)) = true from hc),rU.2 (by simpa using hc)]
theorem qcQ (v:Int) (h0:0 ≤ v) (t Y:Tree) (hY:∀ i,Y.at_ i = (fitT v 7 [(Fld.mk 7 0 (-1) (-1) (-1) 0 0 []),(Fld.mk 11 0 (-1) (-1) (-1) 0 10 [(Fld.mk 3 0 (-1) (-1) (-1) 0 0 []),(Fld.mk 2 0 (-1) (-1) (-1) 0 0 []),(Fld.mk 8 0 (-1) 0 (-1) 0 0 []),(Fld.mk 10 0 (-1) (-1) (-1) 0 0 [(Fld.mk 3 0 (-1) (-1) (-1) 0 0 []),(Fld.mk 3 0 (-1) (-1) (-1) 0 0 [])])])] t).at_ i) (hU:Y.U = (fitT v 7 [(Fld.mk 7 0 (-1) (-1) (-1) 0 0 []),(Fld.mk 11 0 (-1) (-1) (-1) 0 10 [(Fld.mk 3 0 (-1) (-1) (-1) 0 0 []),(Fld.mk 2 0 (-1) (-1) (-1) 0 0 []),(Fld.mk 8 0 (-1) 0 (-1) 0 0 []),(Fld.mk 10 0 (-1) (-1) (-1) 0 0 [(Fld.mk 3 0 (-1) (-1) (-1) 0 0 []),(Fld.mk 3 0 (-1) (-1) (-1) 0 0 [])])])] t).U) (hi:t.i64s) (D:DV) (h:qbf v D Y):qhA v (decide (v ≥ qai)) 7 [(Fld.mk 7 0 (-1) (-1) (-1) 0 0 []),(Fld.mk 11 0 (-1) (-1) (-1) 0 10 [(Fld.mk 3 0 (-1) (-1) (-1) 0 0 []),(Fld.mk 2 0 (-1) (-1) (-1) 0 0 []),(Fld.mk 8 0 (-1) 0 (-1) 0 0 []),(Fld.mk 10 0 (-1) (-1) (-1) 0 0 [(Fld.mk 3 0 (-1) (-1) (-1) 0 0 []),(Fld.mk 3 0 (-1) (-1) (-1) 0 0 [])])])] t (qa3 D):=by
 unfold qbf at h
 obtain ⟨r0,r1,rU,_⟩:=h
 refine ⟨rfl,fun i f y hf hy=>?_,?_⟩
 ·match i,hf,hy with
  | 0,hf,hy =>
   obtain rfl:=Option.some.inj hf
   obtain rfl:=Option.some.inj hy
   have e:=hY 0
   refine ⟨fun hp=>?_,fun hp=>?_⟩
   ·have hc:True:=trivial
    have r:=r0
    rw [e] at r
    exact qlL r (qk1 (v:=v) (d:=6) (t:=t) (show [(Fld.mk 7 0 (-1) (-1) (-1) 0 0 []),(Fld.mk 11 0 (-1) (-1) (-1) 0 10 [(Fld.mk 3 0 (-1) (-1) (-1) 0 0 []),(Fld.mk 2 0 (-1) (-1) (-1) 0 0 []),(Fld.mk 8 0 (-1) 0 (-1) 0 0 []),(Fld.mk 10 0 (-1) (-1) (-1) 0 0 [(Fld.mk 3 0 (-1) (-1) (-1) 0 0 []),(Fld.mk 3 0 (-1) (-1) (-1) 0 0 [])])])][0]? = _ from rfl) (by decide))
   rw [qb1] at hp; simp at hp; omega
  | 1,hf,hy =>
   obtain rfl:=Option.some.inj hf
   obtain rfl:=Option.some.inj hy
   have e:=hY 1
   refine ⟨fun hp=>?_,fun hp=>?_⟩
   ·have hc:True:=trivial
    have r:=r1
    rw [e] at r
    obtain ⟨fn_,fl⟩:=qft (v:=v) (d:=6) (t:=t) (show [(Fld.mk 7 0 (-1) (-1) (-1) 0 0 []),(Fld.mk 11 0 (-1) (-1) (-1) 0 10 [(Fld.mk 3 0 (-1) (-1) (-1) 0 0 []),(Fld.mk 2 0 (-1) (-1) (-1) 0 0 []),(Fld.mk 8 0 (-1) 0 (-1) 0 0 []),(Fld.mk 10 0 (-1) (-1) (-1) 0 0 [(Fld.mk 3 0 (-1) (-1) (-1) 0 0 []),(Fld.mk 3 0 (-1) (-1) (-1) 0 0 [])])])][1]? = _ from rfl)
    refine qh4 (fun h_=>absurd h_.1 (by decide)) r.1 fl fun i_ y_ hi_ hg_ hy_=>?_
    have q:=r.2 i_ hi_
    rw [hg_] at q
    exact qfI rfl (qcm v h0 y_ _ (fun i=>fit_10.1 i) fit_10.2 (qf7 (qiy hi 1) hy_) _ q)
   rw [qb1] at hp; simp at hp; omega
  | n_ + 2,hf,hy=>exact absurd (List.getElem?_eq_some_iff.1 hf).1 (by show ¬ n_ + 2 < 2; omega)
 show D.u = if (decide (v ≥ qai)) = true then qcC (qaj [(Fld.mk 7 0 (-1) (-1) (-1) 0 0 []),(Fld.mk 11 0 (-1) (-1) (-1) 0 10 [(Fld.mk 3 0 (-1) (-1) (-1) 0 0 []),(Fld.mk 2 0 (-1) (-1) (-1) 0 0 []),(Fld.mk 8 0 (-1) 0 (-1) 0 0 []),(Fld.mk 10 0 (-1) (-1) (-1) 0 0 [(Fld.mk 3 0 (-1) (-1) (-1) 0 0 []),(Fld.mk 3 0 (-1) (-1) (-1) 0 0 [])])])] t.U) else []
 by_cases hc:(decide (v ≥ 0)) = true
 ·rw [if_pos (show (decide (v ≥ qai)) = true from hc),rU.1 hc,hU,qf9]
 rw [if_neg (show ¬ (decide (v ≥ qai)) = true from hc),rU.2 (by simpa using hc)]
theorem qcq (v:Int) (h0:0 ≤ v) (t Y:Tree) (hY:∀ i,Y.at_ i = (fitT v 7 [(Fld.mk 3 0 (-1) (-1) (-1) 0 0 []),(Fld.mk 8 0 (-1) (-1) (-1) 0 0 []),(Fld.mk 3 0 (-1) (-1) (-1) 0 0 []),(Fld.mk 8 0 (-1) 0 (-1) 0 0 [])] t).at_ i) (hU:Y.U = (fitT v 7 [(Fld.mk 3 0 (-1) (-1) (-1) 0 0 []),(Fld.mk 8 0 (-1) (-1) (-1) 0 0 []),(Fld.mk 3 0 (-1) (-1) (-1) 0 0 []),(Fld.mk 8 0 (-1) 0 (-1) 0 0 [])] t).U) (hi:t.i64s) (D:DV) (h:qa5 v D Y):qhA v (decide (v ≥ qai)) 7 [(Fld.mk 3 0 (-1) (-1) (-1) 0 0 []),(Fld.mk 8 0 (-1) (-1) (-1) 0 0 []),(Fld.mk 3 0 (-1) (-1) (-1) 0 0 []),(Fld.mk 8 0 (-1) 0 (-1) 0 0 [])] t (qaU D):=by
 unfold qa5 at h
 obtain ⟨r0,r1,r2,r3,rU,_⟩:=h
 refine ⟨rfl,fun i f y hf hy=>?_,?_⟩
 ·match i,hf,hy with
  | 0,hf,hy =>
   obtain rfl:=Option.some.inj hf
   obtain rfl:=Option.some.inj hy
   have e:=hY 0
   refine ⟨fun hp=>?_,fun hp=>?_⟩
   ·have hc:True:=trivial
    have r:=r0
    rw [e] at r
    rw [(qdZ (v:=v) (d:=6) (t:=t) (show [(Fld.mk 3 0 (-1) (-1) (-1) 0 0 []),(Fld.mk 8 0 (-1) (-1) (-1) 0 0 []),(Fld.mk 3 0 (-1) (-1) (-1) 0 0 []),(Fld.mk 8 0 (-1) 0 (-1) 0 0 [])][0]? = _ from rfl) (by decide))] at r
    exact qfb (by rw [r,qdM]; rfl)
   rw [qb1] at hp; simp at hp; omega
  | 1,hf,hy =>
   obtain rfl:=Option.some.inj hf
   obtain rfl:=Option.some.inj hy
   have e:=hY 1
   refine ⟨fun hp=>?_,fun hp=>?_⟩
   ·have hc:True:=trivial
    have r:=r1
    rw [e] at r
    exact qlK r (qlu (v:=v) (d:=6) (t:=t) (show [(Fld.mk 3 0 (-1) (-1) (-1) 0 0 []),(Fld.mk 8 0 (-1) (-1) (-1) 0 0 []),(Fld.mk 3 0 (-1) (-1) (-1) 0 0 []),(Fld.mk 8 0 (-1) 0 (-1) 0 0 [])][1]? = _ from rfl) (by decide))
   rw [qb1] at hp; simp at hp; omega
  | 2,hf,hy =>
   obtain rfl:=Option.some.inj hf
   obtain rfl:=Option.some.inj hy
   have e:=hY 2
   refine ⟨fun hp=>?_,fun hp=>?_⟩
   ·have hc:True:=trivial
    have r:=r2
    rw [e] at r
    rw [(qdZ (v:=v) (d:=6) (t:=t) (show [(Fld.mk 3 0 (-1) (-1) (-1) 0 0 []),(Fld.mk 8 0 (-1) (-1) (-1) 0 0 []),(Fld.mk 3 0 (-1) (-1) (-1) 0 0 []),(Fld.mk 8 0 (-1) 0 (-1) 0 0 [])][2]? = _ from rfl) (by decide))] at r
    exact qfb (by rw [r,qdM]; rfl)
   rw [qb1] at hp; simp at hp; omega
  | 3,hf,hy =>
   obtain rfl:=Option.some.inj hf
   obtain rfl:=Option.some.inj hy
   have e:=hY 3
   refine ⟨fun hp=>?_,fun hp=>?_⟩
   ·have hc:True:=trivial
    have r:=r3
    rw [e] at r
    exact qg2 r (qhR (v:=v) (d:=6) (t:=t) (show [(Fld.mk 3 0 (-1) (-1) (-1) 0 0 []),(Fld.mk 8 0 (-1) (-1) (-1) 0 0 []),(Fld.mk 3 0 (-1) (-1) (-1) 0 0 []),(Fld.mk 8 0 (-1) 0 (-1) 0 0 [])][3]? = _ from rfl) (by decide))
   rw [qb1] at hp; simp at hp; omega
  | n_ + 4,hf,hy=>exact absurd (List.getElem?_eq_some_iff.1 hf).1 (by show ¬ n_ + 4 < 4; omega)
 show D.u = if (decide (v ≥ qai)) = true then qcC (qaj [(Fld.mk 3 0 (-1) (-1) (-1) 0 0 []),(Fld.mk 8 0 (-1) (-1) (-1) 0 0 []),(Fld.mk 3 0 (-1) (-1) (-1) 0 0 []),(Fld.mk 8 0 (-1) 0 (-1) 0 0 [])] t.U) else []
 by_cases hc:(decide (v ≥ 0)) = true
 ·rw [if_pos (show (decide (v ≥ qai)) = true from hc),rU.1 hc,hU,qf9]
 rw [if_neg (show ¬ (decide (v ≥ qai)) = true from hc),rU.2 (by simpa using hc)]
theorem qc9 (v:Int) (h0:0 ≤ v) (t Y:Tree) (hY:∀ i,Y.at_ i = (fitT v 8 sShareAcknowledgeResponseF t).at_ i) (hU:Y.U = (fitT v 8 sShareAcknowledgeResponseF t).U) (hi:t.i64s) (D:DV) (h:qbj v D Y):qhA v (decide (v ≥ qai)) 8 sShareAcknowledgeResponseF t (qbk D):=by
 unfold qbj at h
 obtain ⟨r0,r1,r2,r3,r4,r5,rU,_⟩:=h
 refine ⟨rfl,fun i f y hf hy=>?_,?_⟩
 ·match i,hf,hy with
  | 0,hf,hy =>
   obtain rfl:=Option.some.inj hf
   obtain rfl:=Option.some.inj hy
   have e:=hY 0
   refine ⟨fun hp=>?_,fun hp=>?_⟩
   ·have hc:True:=trivial
    have r:=r0
    rw [e] at r
    rw [(qdZ (v:=v) (d:=7) (t:=t) (show sShareAcknowledgeResponseF[0]? = _ from rfl) (by decide))] at r
    exact qfb (by rw [r,qdM]; rfl)
   rw [qb1] at hp; simp at hp; omega
  | 1,hf,hy =>
   obtain rfl:=Option.some.inj hf
   obtain rfl:=Option.some.inj hy
   have e:=hY 1
   refine ⟨fun hp=>?_,fun hp=>?_⟩
   ·have hc:True:=trivial
    have r:=r1
    rw [e] at r
    rw [(qdZ (v:=v) (d:=7) (t:=t) (show sShareAcknowledgeResponseF[1]? = _ from rfl) (by decide))] at r
    exact qfb (by rw [r,qfu]; rfl)
   rw [qb1] at hp; simp at hp; omega
  | 2,hf,hy =>
   obtain rfl:=Option.some.inj hf
   obtain rfl:=Option.some.inj hy
   have e:=hY 2
   refine ⟨fun hp=>?_,fun hp=>?_⟩
   ·have hc:True:=trivial
    have r:=r2
    rw [e] at r
    exact qg2 r (qhR (v:=v) (d:=7) (t:=t) (show sShareAcknowledgeResponseF[2]? = _ from rfl) (by decide))
   rw [qb1] at hp; simp at hp; omega
  | 3,hf,hy =>
   obtain rfl:=Option.some.inj hf
   obtain rfl:=Option.some.inj hy
   have e:=hY 3
   refine ⟨fun hp=>?_,fun hp=>?_⟩
   ·have hc:(decide (v ≥ 2)) = true:=by rw [qb1] at hp; simp at hp ⊢; try omega
    have r:=(r3.1 hc)
    rw [e] at r
    rw [(qdZ (v:=v) (d:=7) (t:=t) (show sShareAcknowledgeResponseF[3]? = _ from rfl) (by decide))] at r
    exact qfb (by rw [r,qdM]; rfl)
   have hc:(decide (v ≥ 2)) = false:=by rw [qb1] at hp; simp at hp ⊢; try omega
   have r:=(r3.2 hc)
   exact us_num' (by rw [r]; first | rfl | decide)
  | 4,hf,hy =>
   obtain rfl:=Option.some.inj hf
   obtain rfl:=Option.some.inj hy
   have e:=hY 4
   refine ⟨fun hp=>?_,fun hp=>?_⟩
   ·have hc:True:=trivial
    have r:=r4
    rw [e] at r
    obtain ⟨fn_,fl⟩:=qft (v:=v) (d:=7) (t:=t) (show sShareAcknowledgeResponseF[4]? = _ from rfl)
    refine qh4 (fun h_=>absurd h_.1 (by decide)) r.1 fl fun i_ y_ hi_ hg_ hy_=>?_
    have q:=r.2 i_ hi_
    rw [hg_] at q
    exact qfI rfl (qcQ v h0 y_ _ (fun i=>fit_10.1 i) fit_10.2 (qf7 (qiy hi 4) hy_) _ q)
   rw [qb1] at hp; simp at hp; omega
  | 5,hf,hy =>
   obtain rfl:=Option.some.inj hf
   obtain rfl:=Option.some.inj hy
   have e:=hY 5
   refine ⟨fun hp=>?_,fun hp=>?_⟩
   ·have hc:True:=trivial
    have r:=r5
    rw [e] at r
    obtain ⟨fn_,fl⟩:=qft (v:=v) (d:=7) (t:=t) (show sShareAcknowledgeResponseF[5]? = _ from rfl)
    refine qh4 (fun h_=>absurd h_.1 (by decide)) r.1 fl fun i_ y_ hi_ hg_ hy_=>?_
    have q:=r.2 i_ hi_
    rw [hg_] at q
    exact qfI rfl (qcq v h0 y_ _ (fun i=>fit_10.1 i) fit_10.2 (qf7 (qiy hi 5) hy_) _ q)
   rw [qb1] at hp; simp at hp; omega
  | n_ + 6,hf,hy=>exact absurd (List.getElem?_eq_some_iff.1 hf).1 (by show ¬ n_ + 6 < 6; omega)
 show D.u = if (decide (v ≥ qai)) = true then qcC (qaj sShareAcknowledgeResponseF t.U) else []
 by_cases hc:(decide (v ≥ 0)) = true
 ·rw [if_pos (show (decide (v ≥ qai)) = true from hc),rU.1 hc,hU,qf9]
 rw [if_neg (show ¬ (decide (v ≥ qai)) = true from hc),rU.2 (by simpa using hc)]
abbrev z19 :=([.int .i16 0,.int .i32 0,.int .i16 0,.pointer none,.int .i32 0,.slice none 0 0,.slice none 0 0,.map none]:List Value)
abbrev z59 (x0) (x1) (x2) (x3:DV):=([⟨x0,0,z0,true⟩,⟨x1,0,[.int .i16 (IntKind.i16.wrap x2),.int .i32 ((x3.f 0).n),.int .i16 ((x3.f 1).n),.pointer ((x3.f 2).A),.int .i32 ((x3.f 3).n),.slice ((x3.f 4).A) ((x3.f 4).l) ((x3.f 4).c),.slice ((x3.f 5).A) ((x3.f 5).l) ((x3.f 5).c),.map x3.m],true⟩]:Tb)
abbrev z81 (x0):=([.int .i16 (IntKind.i16.wrap x0),.int .i32 0,.int .i16 0,.pointer none,.int .i32 0,.slice none 0 0,.slice none 0 0,.map none]:List Value)
set_option maxHeartbeats 4000000 in
theorem qdq (v:Int) (T:Tree) {A2:Option Addr} {c2:Nat} {w:World} {F:Nat → Nat → Prop} (hs_:Octs w F A2 c2 (qam (IntKind.i16.wrap v) T)) (hc:qbg T) (hkey:T.ranged) (hroom:(qam (IntKind.i16.wrap v) T).length + 16 ≤ 1099511627776) :
  Calls Tryz.prog 17 #[.int .i64 v,.slice A2 (qam (IntKind.i16.wrap v) T).length c2] w (fun e w'=>∃ D cs,e = .returned (.tuple #[.agg cs.toArray,.bool true]) ∧ TreeR w' (Fp NoF w) cs (qbk D) ∧ qbj (IntKind.i16.wrap v) D T ∧ Step w w' Nil):=by
 refine enter (n:=20) Tryz.func17 rfl Tryz.ntmps17 kz fun a hE=>?_
 have hW:=WOk.start w Nil
 have hsm2:=Slots.small hs_
 refine qaf [0,1] kz ?_
 refine qan (qaM hW hE (d:=4) (cs:=z0) kz fun b1 a2 w3 hb4 hz5 hF6 hW7 hE8=>?_)
 refine qak [1] [] [(0,.v (.int .i64 v)),(1,.v (.slice A2 ((qam (IntKind.i16.wrap v) T).length) c2)),(4,.p 0 0)] hW7 hE8 fun a9 aT=>?_
 refine qag (qab ?_)
 refine qaf [0,1] kz ?_
 refine qan (qbK aT (f:=38) (vs:=[]) (d:=7) (n':=3) kz Tryz.call38 Tryz.func38 rfl Tryz.ntmps38 kz fun cJ aU=>?_)
 refine qas [] hW7 aU fun cK aV=>?_
 refine qaf [0] kz ?_
 refine qan (qaM hW7 aV (d:=1) (cs:=z19) kz fun ab cL cM cm cq cr ac aW=>?_)
 refine qag (qab ?_)
 refine qaf [0] kz ?_
 refine qan (qbK aW (f:=70) (vs:=(z29 ab)) (d:=2) (n':=2) kz Tryz.call70 Tryz.func70 rfl Tryz.ntmps70 kz fun cN aX=>?_)
 have aY:=aX.recast 0 (.v (.pointer (some ⟨ab,0,none⟩))) (.p 1 0) rfl rfl (zN (n:=2) rfl)
 refine wp_skip (qbV aY ac.cells (v:=.tuple #[]) kz ?_)
 refine ⟨_,rfl,fun cO aZ=>?_⟩
 have ba:EnvOk 3 [⟨b1,0,z0,true⟩,⟨ab,0,z19,true⟩] [(2,.v (.tuple #[])),(1,.p 1 0)] _:=aZ.places (⟨rfl,rfl,⟨rfl,rfl,trivial⟩⟩)
 refine qag (qab ?_)
 refine qas [(0,.p 1 0)] ac ba fun cP bd=>?_
 refine wp_ret (qaK bd ac.cells (v:=.pointer (some ⟨ab,0,none⟩)) kz ?_)
 refine ⟨_,rfl,fun cQ bf=>?_⟩
 have bg:EnvOk 20 [⟨b1,0,z0,true⟩,⟨ab,0,z19,true⟩] [(7,.v (.pointer (some ⟨ab,0,none⟩))),(0,.v (.int .i64 v)),(1,.v (.slice A2 ((qam (IntKind.i16.wrap v) T).length) c2)),(4,.p 0 0)] _:=bf.places (⟨rfl,rfl,trivial⟩)
 have bh:=bg.recast 7 (.v (.pointer (some ⟨ab,0,none⟩))) (.p 1 0) rfl rfl (zN (n:=2) rfl)
 have bi:=bh.pick (ks:=[0,1,4,7]) (env':=[(0,.v (.int .i64 v)),(1,.v (.slice A2 ((qam (IntKind.i16.wrap v) T).length) c2)),(4,.p 0 0),(7,.p 1 0)]) kz
 refine qak [1] [] [(0,.v (.int .i64 v)),(1,.v (.slice A2 ((qam (IntKind.i16.wrap v) T).length) c2)),(4,.p 0 0),(6,.p 1 0)] ac bi fun cR bj=>?_
 refine qag (qab ?_)
 refine qaf [0,1,2,3] kz ?_
 refine qak [0,1,2] [3] [(1,.v (.slice A2 ((qam (IntKind.i16.wrap v) T).length) c2)),(4,.p 0 0),(6,.p 1 0),(8,.p 1 0),(10,.v (.int .i16 (IntKind.i16.wrap v)))] ac bj fun cS bk=>?_
 refine qan (qbK bk (f:=42) (vs:=[.pointer (some ⟨ab,0,none⟩),.int .i16 (IntKind.i16.wrap v)]) (d:=11) (n':=8) kz Tryz.call42 Tryz.func42 rfl Tryz.ntmps42 kz fun cT bn=>?_)
 have bo:=bn.recast 0 (.v (.pointer (some ⟨ab,0,none⟩))) (.p 1 0) rfl rfl (zN (n:=2) rfl)
 refine qau [0,1,2,3,4] kz ?_
 refine qak [0,1,2,3] [4] [(5,.v (.int .i16 (IntKind.i16.wrap v))),(7,.p 1 0)] ac bo fun cU bp=>?_
 refine qan (qao ac bp (oi:=1) (cs:=(z81 v)) kz fun cV cu ao bq=>?_)
 refine qag (qbV bq ao.cells (v:=.tuple #[]) kz ?_)
 refine ⟨_,rfl,fun cW bt=>?_⟩
 have bu:EnvOk 20 [⟨b1,0,z0,true⟩,⟨ab,0,(z81 v),true⟩] [(11,.v (.tuple #[])),(1,.v (.slice A2 ((qam (IntKind.i16.wrap v) T).length) c2)),(4,.p 0 0),(6,.p 1 0),(8,.p 1 0),(10,.v (.int .i16 (IntKind.i16.wrap v)))] _:=bt.places (⟨rfl,rfl,⟨rfl,rfl,trivial⟩⟩)
 refine qag (qab ?_)
 refine wp_seq (qaf [0,1,2,3,4] kz ?_)
 refine qak [0,1] [2,3,4] [(4,.p 0 0),(6,.p 1 0),(12,.p 1 0),(13,.v (.slice A2 ((qam (IntKind.i16.wrap v) T).length) c2))] ao bu fun cX bw=>?_
 have ah:=ao.addNil 5 1
 have cw:=ao.frNil 5 1
 refine qan (qaR ah bw (k:=0) (d:=14) (t:=22) (e:=5) (size:=1) (bytes:=1) (A:=none) (As:=A2) (m0:=0) (c:=0) (m:=((qam (IntKind.i16.wrap v) T).length)) (cs:=c2) (xs:=[]) (news:=bc (qam (IntKind.i16.wrap v) T)) kz kz rfl (hs_.move ah.step nilM ah.imm).src (hs_.move ah.step nilM ah.imm).cap (by first | omega | (simp only [List.length_nil]; omega) | (simp; omega)) fun af ag cY cZ cz bx bz=>?_)
 have bA:(⟨af,ag,5,1,0 + (qam (IntKind.i16.wrap v) T).length,[] ++ bc (qam (IntKind.i16.wrap v) T)⟩:Rw) = brow af ag 5 (qam (IntKind.i16.wrap v) T):=by rw [List.nil_append,Nat.zero_add]
 obtain ⟨ap,cA⟩:=bx.rowEq 0 [brow af ag 5 (qam (IntKind.i16.wrap v) T)] bA
 have bB:=EnvOk.pick bz (ks:=[4,6,12,13,14]) (env':=[(4,.p 0 0),(6,.p 1 0),(12,.p 1 0),(13,.v (.slice A2 ((qam (IntKind.i16.wrap v) T).length) c2)),(14,.v (.slice af (0 + (qam (IntKind.i16.wrap v) T).length) ag))]) kz
 have bC:=bB.cast (env':=[(4,.p 0 0),(6,.p 1 0),(12,.p 1 0),(13,.v (.slice A2 ((qam (IntKind.i16.wrap v) T).length) c2)),(14,.v (.slice af ((qam (IntKind.i16.wrap v) T).length) ag))]) (by simp only [List.length_append,List.length_cons,List.length_nil,Nat.zero_add])
 refine qan (qbK bC (f:=43) (vs:=[.pointer (some ⟨ab,0,none⟩),.slice af ((qam (IntKind.i16.wrap v) T).length) ag]) (d:=15) (n':=8) kz Tryz.call43 Tryz.func43 rfl Tryz.ntmps43 kz fun c5 bD=>?_)
 have bE:=bD.recast 0 (.v (.pointer (some ⟨ab,0,none⟩))) (.p 1 0) rfl rfl (zN (n:=2) rfl)
 refine qas [(0,.p 1 0),(1,.v (.slice af ((qam (IntKind.i16.wrap v) T).length) ag))] ap bE fun c6 bF=>?_
 refine qaf [0,1,2,3] kz ?_
 refine qak [0,1] [2,3] [(5,.p 1 0),(6,.v (.slice af ((qam (IntKind.i16.wrap v) T).length) ag))] ap bF fun da bG=>?_
 have bH:=ap.giveUp (G:=NoF) 0 [] (show _ = some (brow af ag 5 (qam (IntKind.i16.wrap v) T)) from rfl) (by omega)
 obtain ⟨aH,cB⟩:=ap.cutR 0 []
 refine qan (qal bG (f:=72) (vs:=[.pointer (some ⟨ab,0,none⟩),.slice af ((qam (IntKind.i16.wrap v) T).length) ag,.bool false]) (d:=7) kz Tryz.call72 (qdo (IntKind.i16.wrap v) T (Str.of aH 1 rfl) bH (qiZ 1 rfl) hc hkey) ?_)
 rintro e_ db ⟨aa,rfl,bI,bJ,bK,aI⟩
 obtain ⟨ae,cC,bL⟩:=aH.wrote 1 (z59 b1 ab v aa) rfl aI bI
 have bM:=qcB _ (Step.refl _ Nil) nilM bL bJ
 refine ⟨_,rfl,fun dc bN=>?_⟩
 have bO:=(EnvOk.places (tb':=[⟨b1,0,[.int .i64 0,.slice none 0 0,.bool false,.slice none 0 0,.slice none 0 0],true⟩,⟨ab,0,[.int .i16 (IntKind.i16.wrap v),.int .i32 ((aa.f 0).n),.int .i16 ((aa.f 1).n),.pointer ((aa.f 2).A),.int .i32 ((aa.f 3).n),.slice ((aa.f 4).A) ((aa.f 4).l) ((aa.f 4).c),.slice ((aa.f 5).A) ((aa.f 5).l) ((aa.f 5).c),.map aa.m],true⟩]) bN (show Pl [⟨b1,0,[.int .i64 0,.slice none 0 0,.bool false,.slice none 0 0,.slice none 0 0],true⟩,⟨ab,0,[.int .i16 (IntKind.i16.wrap v),.int .i32 0,.int .i16 0,.pointer none,.int .i32 0,.slice none 0 0,.slice none 0 0,.map none],true⟩] [⟨b1,0,[.int .i64 0,.slice none 0 0,.bool false,.slice none 0 0,.slice none 0 0],true⟩,⟨ab,0,[.int .i16 (IntKind.i16.wrap v),.int .i32 ((aa.f 0).n),.int .i16 ((aa.f 1).n),.pointer ((aa.f 2).A),.int .i32 ((aa.f 3).n),.slice ((aa.f 4).A) ((aa.f 4).l) ((aa.f 4).c),.slice ((aa.f 5).A) ((aa.f 5).l) ((aa.f 5).c),.map aa.m],true⟩] from ⟨rfl,rfl,⟨rfl,rfl,trivial⟩⟩)).pk (env':=[(7,.v (.nilIface)),(5,.p 1 0),(6,.v (.slice af ((qam (IntKind.i16.wrap v) T).length) ag))])
 refine qak [3] [] [(4,.v (.nilIface))] ae bO fun de bP=>?_
 refine qag (qab ?_)
 refine wp_ret (qaK bP ae.cells (v:=.nilIface) kz ?_)
 refine ⟨_,rfl,fun df bQ=>?_⟩
 have bR:EnvOk 20 (z59 b1 ab v aa) [(15,.v (.nilIface)),(4,.p 0 0),(6,.p 1 0),(12,.p 1 0),(13,.v (.slice A2 ((qam (IntKind.i16.wrap v) T).length) c2)),(14,.v (.slice af ((qam (IntKind.i16.wrap v) T).length) ag))] _:=bQ.places (⟨rfl,rfl,⟨rfl,rfl,trivial⟩⟩)
 refine qak [4] [] [(4,.p 0 0),(6,.p 1 0),(16,.v (.bool false))] ae bR fun dg aJ=>?_
 refine qag (qab ?_)
 refine qaq aJ (b:=false) kz rfl ?_
 refine wp_skip (qab (qaf [0,1,2,3] kz ?_))
 refine qak [0] [1,2,3] [(4,.p 0 0),(18,.p 1 0)] ae aJ fun dh bS=>?_
 have aK:=bS.recast 18 (.p 1 0) (.v (.pointer (some ⟨ab,0,none⟩))) rfl rfl trivial
 have aL:=aK.pk (env':=[(4,.p 0 0),(18,.v (.pointer (some ⟨ab,0,none⟩)))])
 have av:=WOk.strOut (G:=NoF) [⟨b1,0,z0,true⟩] ae
 obtain ⟨aM,ai,ar⟩:=ae.cutB aL 1 [⟨b1,0,z0,true⟩] [(4,.p 0 0),(18,.v (.pointer (some ⟨ab,0,none⟩)))]
 have aN:=qcB _ ar.step immM ar.to' bM
 refine qan (qal aM (f:=44) (vs:=(z29 ab)) (d:=19) kz Tryz.call44 (qdp (IntKind.i16.wrap v) aa ab 0 _ _ av aN) ?_)
 rintro e_ cD ⟨bY,rfl,aO,aj⟩
 have ak:=aO.move (Step.refl _ Nil) nilM (ai.laid (G:=NoF) aj)
 obtain ⟨aw,ax,ay,az,aA,aB,aC,aD,aE,aF,aG,bZ,cd,al,bT,bU,cE,cG⟩:=ak.open_
 rw [al] at ak
 have bV:=bT.small
 have bW:=bU.small
 rw [al]
 refine ⟨_,rfl,fun cH aP=>?_⟩
 have aQ:=ai.next_nil aj
 have ce:=ai.frN aj
 refine qan (qao aQ aP (oi:=0) (cs:=(z1 aw aB ax.length aC ay aD az.length aE aF aA.length aG)) kz fun bX au am aR=>?_)
 refine qak [3] [] [(4,.p 0 0),(5,.v (.bool true))] am aR fun cI aS=>?_
 refine qag (qab ?_)
 refine wp_ret (qaK aS am.cells (v:=.tuple #[.agg #[.int .i64 aw,.slice aB ax.length aC,.bool ay,.slice aD az.length aE,.slice aF aA.length aG],.bool true]) kz ?_)
 exact ⟨aa,_,rfl,(show TreeR _ (Imm NoF w bX [⟨b1,0,[.int .i64 aw,.slice aB ax.length aC,.bool ay,.slice aD az.length aE,.slice aF aA.length aG],true⟩] []) _ (qbk aa) from (ak.move au.step immM au.to')).move (Step.refl _ Nil) nilM qbP,bK,am.step⟩
theorem qdl (v:Int) (T:Tree) (B:Bs) {A2:Option Addr} {c2:Nat} {w:World} {F:Nat → Nat → Prop} (hB:qam (IntKind.i16.wrap v) T = B) (hs_:Octs w F A2 c2 B) (hc:qbg T) (hkey:T.ranged) (hroom:B.length + 16 ≤ 1099511627776) :
  Calls Tryz.prog 17 #[.int .i64 v,.slice A2 B.length c2] w (fun e w'=>∃ D cs,e = .returned (.tuple #[.agg cs.toArray,.bool true]) ∧ TreeR w' (Fp NoF w) cs (qbk D) ∧ qbj (IntKind.i16.wrap v) D T ∧ Step w w' Nil):=by
 subst hB
 exact qdq v T hs_ hc hkey hroom
end Go.Proofs.YtdlaobdadlmcdaaGreatDoor.ME