/- The texts of a claim, put together: the engine, the contracts, the law. Own work. -/
import Derived.Test.YtfljkhecngpcmaaGreatDoorWt0P4
namespace Go.Proofs.YtfljkhecngpcmaaGreatDoor.ME
open Go
open Go.RowKit
set_option linter.unusedVariables false
set_option linter.unusedSimpArgs false
set_option maxRecDepth 20000
def qaG (D:DV):Tree:=.mk 0 [] false [.mk (IntKind.i64.wrap (D.f 0).n) [] false [] [],.mk (IntKind.i64.wrap (D.f 1).n) [] false [] []] D.u
def qaO (D:DV):Tree:=.mk 0 [] false [.mk 0 (D.f 0).o false [] [],.mk 0 [] (D.f 1).A.isNone ((List.range (D.f 1).l).map fun i=>qaG ((D.f 1).f i)) []] D.u
def qaW (D:DV):Tree:=.mk 0 [] false [.mk 0 (D.f 0).o false [] [],.mk 0 [] (D.f 1).A.isNone ((List.range (D.f 1).l).map fun i=>qaO ((D.f 1).f i)) []] D.u
def qba (D:DV):Tree:=.mk 0 [] false [.mk (IntKind.i64.wrap (D.f 0).n) [] false [] [],.mk (IntKind.i64.wrap (D.f 1).n) [] false [] [],.mk 0 [] (D.f 2).A.isNone ((List.range (D.f 2).l).map fun i=>qaW ((D.f 2).f i)) []] D.u
set_option maxHeartbeats 4000000 in
theorem qbd (v:Int) (D:DV) (b o:Nat) (w:World) (F:Nat → Nat → Prop) (hat:AtF w F b o [.int .i32 ((D.f 0).n),.int .i16 ((D.f 1).n),.map D.m]) (hok:qaF w F D):Calls Tryz.prog 131 #[.pointer (some ⟨b,o,none⟩)] w (qeW w F (qaG D)):=by
 refine enter (n:=33) Tryz.func131 rfl Tryz.ntmps131 kz fun a hE=>?_
 have hW:WOk w Nil w [⟨b,o,[.int .i32 ((D.f 0).n),.int .i16 ((D.f 1).n),.map D.m],false⟩] []:=(WOk.start w Nil).start1 hat rfl rfl
 unfold qaF at hok
 obtain ⟨g1,g2,g3,g3l,g3x,_⟩:=hok
 have hE0:=(EnvOk.ptr0 (cs:=[.int .i32 ((D.f 0).n),.int .i16 ((D.f 1).n),.map D.m]) (r:=false) hE).pk (env':=[(0,.p 0 0)])
 refine qaf [0] kz ?_
 refine qan (qaZ hW hE0 (d:=2) (cs:=[.int .i64 0,.slice none 0 0,.bool false,.slice none 0 0,.slice none 0 0]) kz fun b4 a5 w6 hb7 hz8 hF9 av aw=>?_)
 refine qah (qac ?_)
 refine qaf [0,1,2,3] kz ?_
 refine qan (qd5 (t:=34) (e:=37) (size:=5) (bytes:=88) (d:=4) (j:=2) (.agg #[.int .i64 0,.slice none 0 0,.bool false,.slice none 0 0,.slice none 0 0]) [.int .i64 0,.slice none 0 0,.bool false,.slice none 0 0,.slice none 0 0,.int .i64 0,.slice none 0 0,.bool false,.slice none 0 0,.slice none 0 0] av aw fun aa bx bz bf bg bh ah ax=>?_)
 refine qal [1] [2,3] [(0,.p 0 0),(2,.p 1 0),(5,.v (.agg #[.int .i64 0,.slice none 0 0,.bool false,.slice (some ⟨aa,0,none⟩) 2 2,.slice none 0 0]))] ah ax fun bA ay=>?_
 refine qan (qaZ ah ay (d:=3) (cs:=[.int .i64 0,.slice none 0 0,.bool false,.slice none 0 0,.slice none 0 0]) kz fun af bB bC bi bj bk az aA=>?_)
 refine qan (qav az aA (oi:=3) (cs:=[.int .i64 0,.slice none 0 0,.bool false,.slice (some ⟨aa,0,none⟩) 2 2,.slice none 0 0]) kz fun bD bn aB aC=>?_)
 refine qah (qac ?_)
 refine qaM 9 kz aB fun bE bo aD ai=>?_
 refine qaI [0,1,2,3,4,5,6,7] [(0,.p 0 0),(2,.p 1 0),(3,.p 3 0),(7,.v (.slice (some ⟨aa,0,none⟩) 2 2)),(13,.v (.agg #[.int .i64 (IntKind.i64.wrap ((D.f 0).n)),.slice none 0 0,.bool false,.slice none 0 0,.slice none 0 0]))] 2 (qab qag) (fun _ h=>h.cells) ai aC fun bF aE=>?_
 refine qaR aE (i:=8) (t:=34) (A:=(some ⟨aa,0,none⟩)) (m:=2) (q:=0) (d:=14) kz (e:=37) (size:=5) (bytes:=88) (j:=0) kz (b:=aa) (o:=0) rfl rfl (by decide) kz kz (qab qag) ai fun bG aF=>?_
 have aG:=aF.recast 14 (.v (.pointer (some ⟨aa,0 + 0 * 5,none⟩))) (.p 2 0) rfl rfl (Nat.le_of_ble_eq_true (n:=3) rfl)
 have aH:=aG.pk (env':=[(0,.p 0 0),(2,.p 1 0),(3,.p 3 0),(7,.v (.slice (some ⟨aa,0,none⟩) 2 2)),(13,.v (.agg #[.int .i64 (IntKind.i64.wrap ((D.f 0).n)),.slice none 0 0,.bool false,.slice none 0 0,.slice none 0 0])),(14,.p 2 0)])
 refine qau (i:=9) kz (qav aD aH (oi:=2) (cs:=[.int .i64 (IntKind.i64.wrap ((D.f 0).n)),.slice none 0 0,.bool false,.slice none 0 0,.slice none 0 0,.int .i64 0,.slice none 0 0,.bool false,.slice none 0 0,.slice none 0 0]) kz fun bH bp aI aJ=>?_)
 refine ⟨fun h=>absurd rfl h,?_⟩
 refine qaH kz ?_ _
 refine qac ?_
 refine qaM 9 kz aI fun bI bq aK aj=>?_
 refine qaI [0,1,2,3,4,5,6,7] [(0,.p 0 0),(2,.p 1 0),(3,.p 3 0),(16,.v (.slice (some ⟨aa,0,none⟩) 2 2)),(22,.v (.agg #[.int .i64 (IntKind.i64.wrap ((D.f 1).n)),.slice none 0 0,.bool false,.slice none 0 0,.slice none 0 0]))] 2 (qab qag) (fun _ h=>h.cells) aj aJ fun bJ aL=>?_
 refine qaR aL (i:=8) (t:=34) (A:=(some ⟨aa,0,none⟩)) (m:=2) (q:=1) (d:=23) kz (e:=37) (size:=5) (bytes:=88) (j:=1) kz (b:=aa) (o:=0) rfl rfl (by decide) kz kz (qab qag) aj fun bK aM=>?_
 have aN:=aM.recast 23 (.v (.pointer (some ⟨aa,0 + 1 * 5,none⟩))) (.p 2 5) rfl rfl (Nat.le_of_ble_eq_true (n:=3) rfl)
 have aO:=aN.pk (env':=[(0,.p 0 0),(2,.p 1 0),(3,.p 3 0),(16,.v (.slice (some ⟨aa,0,none⟩) 2 2)),(22,.v (.agg #[.int .i64 (IntKind.i64.wrap ((D.f 1).n)),.slice none 0 0,.bool false,.slice none 0 0,.slice none 0 0])),(23,.p 2 5)])
 refine qau (i:=9) kz (qav aK aO (oi:=2) (cs:=[.int .i64 (IntKind.i64.wrap ((D.f 0).n)),.slice none 0 0,.bool false,.slice none 0 0,.slice none 0 0,.int .i64 (IntKind.i64.wrap ((D.f 1).n)),.slice none 0 0,.bool false,.slice none 0 0,.slice none 0 0]) kz fun bt bu ab aP=>?_)
 refine ⟨fun h=>absurd rfl h,?_⟩
 refine qaH kz ?_ _
 refine qac ?_
 refine qaf [0,1,2,3,4] kz ?_
 refine qal [0,1,2] [3,4] [(2,.p 1 0),(3,.p 3 0),(26,.p 0 2)] ab aP fun bL aQ=>?_
 refine qan (qew aQ (v:=.func (.func 142) #[] #[.pointer (some ⟨af,0,none⟩)]) (d:=27) kz fun bM aR=>?_)
 refine qan (qam aR (f:=64) (vs:=[.pointer (some ⟨b,o + 2,none⟩),.func (.func 142) #[] #[.pointer (some ⟨af,0,none⟩)]]) (d:=28) kz Tryz.call64 (qeF (F:=(Imm F w bt [⟨b,o,[.int .i32 ((D.f 0).n),.int .i16 ((D.f 1).n),.map D.m],false⟩,⟨b4,0,[.int .i64 0,.slice none 0 0,.bool false,.slice none 0 0,.slice none 0 0],true⟩,⟨aa,0,[.int .i64 (IntKind.i64.wrap ((D.f 0).n)),.slice none 0 0,.bool false,.slice none 0 0,.slice none 0 0,.int .i64 (IntKind.i64.wrap ((D.f 1).n)),.slice none 0 0,.bool false,.slice none 0 0,.slice none 0 0],true⟩,⟨af,0,[.int .i64 0,.slice none 0 0,.bool false,.slice (some ⟨aa,0,none⟩) 2 2,.slice none 0 0],true⟩] [])) Tryz.call142 qbN ((hat.one 2 rfl).move ab.step nilM ab.imm) (g3.move ab.step nilM ab.imm) (Str.of ab 3 rfl) (qjw 3 rfl) g3l) ?_)
 rintro e_ bN ⟨rfl,ac,ae,ak,aS,aT⟩
 obtain ⟨ag,bw,aU⟩:=ab.wrote 3 [⟨b,o,[.int .i32 ((D.f 0).n),.int .i16 ((D.f 1).n),.map D.m],false⟩,⟨b4,0,[.int .i64 0,.slice none 0 0,.bool false,.slice none 0 0,.slice none 0 0],true⟩,⟨aa,0,[.int .i64 (IntKind.i64.wrap ((D.f 0).n)),.slice none 0 0,.bool false,.slice none 0 0,.slice none 0 0,.int .i64 (IntKind.i64.wrap ((D.f 1).n)),.slice none 0 0,.bool false,.slice none 0 0,.slice none 0 0],true⟩,⟨af,0,[.int .i64 0,.slice none 0 0,.bool false,.slice (some ⟨aa,0,none⟩) 2 2,.slice ac D.u.length ae],true⟩] rfl aT ak
 have al:=aS.move (Step.refl _ Nil) nilM (fun b_ o_ h_ hb_=>aU (G:=F) b_ o_ (.inr h_) hb_)
 refine ⟨_,rfl,fun bO aV=>?_⟩
 have aW:=(EnvOk.places (tb':=[⟨b,o,[.int .i32 ((D.f 0).n),.int .i16 ((D.f 1).n),.map D.m],false⟩,⟨b4,0,[.int .i64 0,.slice none 0 0,.bool false,.slice none 0 0,.slice none 0 0],true⟩,⟨aa,0,[.int .i64 (IntKind.i64.wrap ((D.f 0).n)),.slice none 0 0,.bool false,.slice none 0 0,.slice none 0 0,.int .i64 (IntKind.i64.wrap ((D.f 1).n)),.slice none 0 0,.bool false,.slice none 0 0,.slice none 0 0],true⟩,⟨af,0,[.int .i64 0,.slice none 0 0,.bool false,.slice (some ⟨aa,0,none⟩) 2 2,.slice ac D.u.length ae],true⟩]) aV (show Pl [⟨b,o,[.int .i32 ((D.f 0).n),.int .i16 ((D.f 1).n),.map D.m],false⟩,⟨b4,0,[.int .i64 0,.slice none 0 0,.bool false,.slice none 0 0,.slice none 0 0],true⟩,⟨aa,0,[.int .i64 (IntKind.i64.wrap ((D.f 0).n)),.slice none 0 0,.bool false,.slice none 0 0,.slice none 0 0,.int .i64 (IntKind.i64.wrap ((D.f 1).n)),.slice none 0 0,.bool false,.slice none 0 0,.slice none 0 0],true⟩,⟨af,0,[.int .i64 0,.slice none 0 0,.bool false,.slice (some ⟨aa,0,none⟩) 2 2,.slice none 0 0],true⟩] [⟨b,o,[.int .i32 ((D.f 0).n),.int .i16 ((D.f 1).n),.map D.m],false⟩,⟨b4,0,[.int .i64 0,.slice none 0 0,.bool false,.slice none 0 0,.slice none 0 0],true⟩,⟨aa,0,[.int .i64 (IntKind.i64.wrap ((D.f 0).n)),.slice none 0 0,.bool false,.slice none 0 0,.slice none 0 0,.int .i64 (IntKind.i64.wrap ((D.f 1).n)),.slice none 0 0,.bool false,.slice none 0 0,.slice none 0 0],true⟩,⟨af,0,[.int .i64 0,.slice none 0 0,.bool false,.slice (some ⟨aa,0,none⟩) 2 2,.slice ac D.u.length ae],true⟩] from ⟨rfl,rfl,⟨rfl,rfl,⟨rfl,rfl,⟨rfl,rfl,trivial⟩⟩⟩⟩)).pk (env':=[(28,.v (.tuple #[])),(2,.p 1 0),(3,.p 3 0),(26,.p 0 2),(27,.v (.func (.func 142) #[] #[.pointer (some ⟨af,0,none⟩)]))])
 refine qah (qac ?_)
 refine qaf [0,1,2] kz ?_
 refine qal [0,1] [2] [(2,.p 1 0),(3,.p 3 0),(30,.v (.slice ac D.u.length ae))] ag aW fun bP aX=>?_
 refine qan (qam aX (f:=66) (vs:=[.slice ac D.u.length ae]) (d:=31) kz Tryz.call66 (qgo al g3.sorted) ?_)
 rintro e_ bQ ⟨rfl,am⟩
 refine ⟨_,rfl,fun bR aY=>?_⟩
 have ao:=ag.next_nil am
 have ap:=ag.frN am
 refine qah (qac ?_)
 refine qaf [0,1] kz ?_
 refine qal [0] [1] [(2,.p 1 0),(32,.v (.agg #[.int .i64 0,.slice none 0 0,.bool false,.slice (some ⟨aa,0,none⟩) 2 2,.slice ac D.u.length ae]))] ao aY fun bS aZ=>?_
 refine qan (qav ao aZ (oi:=1) (cs:=[.int .i64 0,.slice none 0 0,.bool false,.slice (some ⟨aa,0,none⟩) 2 2,.slice ac D.u.length ae]) kz fun ba ar au bd=>?_)
 refine qah (qac ?_)
 refine wp_ret ?_
 refine qaS bd au.cells (v:=.agg #[.int .i64 0,.slice none 0 0,.bool false,.slice (some ⟨aa,0,none⟩) 2 2,.slice ac D.u.length ae]) kz ?_
 exact qff (u:=D.u) (l:=[.mk (IntKind.i64.wrap (D.f 0).n) [] false [] [],.mk (IntKind.i64.wrap (D.f 1).n) [] false [] []]) (css:=[[.int .i64 (IntKind.i64.wrap ((D.f 0).n)),.slice none 0 0,.bool false,.slice none 0 0,.slice none 0 0],[.int .i64 (IntKind.i64.wrap ((D.f 1).n)),.slice none 0 0,.bool false,.slice none 0 0,.slice none 0 0]]) au 2 rfl ⟨(show TreeR _ (Imm F w ba [⟨b,o,[.int .i32 ((D.f 0).n),.int .i16 ((D.f 1).n),.map D.m],false⟩,⟨b4,0,[.int .i64 0,.slice none 0 0,.bool false,.slice (some ⟨aa,0,none⟩) 2 2,.slice ac D.u.length ae],true⟩,⟨aa,0,[.int .i64 (IntKind.i64.wrap ((D.f 0).n)),.slice none 0 0,.bool false,.slice none 0 0,.slice none 0 0,.int .i64 (IntKind.i64.wrap ((D.f 1).n)),.slice none 0 0,.bool false,.slice none 0 0,.slice none 0 0],true⟩,⟨af,0,[.int .i64 0,.slice none 0 0,.bool false,.slice (some ⟨aa,0,none⟩) 2 2,.slice ac D.u.length ae],true⟩] []) _ _ from (TreeR.mk (n:=IntKind.i64.wrap ((D.f 0).n)) (b:=false) (s:=[]) (l:=[]) (u:=[]) (fun _=>[]) (Octs.nil _ _) (Slots.nil _ _ _ _) (fun i_ x_ h_=>by simp at h_) (TagsR.nil _ _))).move (Step.refl _ Nil) nilM qc1,(show TreeR _ (Imm F w ba [⟨b,o,[.int .i32 ((D.f 0).n),.int .i16 ((D.f 1).n),.map D.m],false⟩,⟨b4,0,[.int .i64 0,.slice none 0 0,.bool false,.slice (some ⟨aa,0,none⟩) 2 2,.slice ac D.u.length ae],true⟩,⟨aa,0,[.int .i64 (IntKind.i64.wrap ((D.f 0).n)),.slice none 0 0,.bool false,.slice none 0 0,.slice none 0 0,.int .i64 (IntKind.i64.wrap ((D.f 1).n)),.slice none 0 0,.bool false,.slice none 0 0,.slice none 0 0],true⟩,⟨af,0,[.int .i64 0,.slice none 0 0,.bool false,.slice (some ⟨aa,0,none⟩) 2 2,.slice ac D.u.length ae],true⟩] []) _ _ from (TreeR.mk (n:=IntKind.i64.wrap ((D.f 1).n)) (b:=false) (s:=[]) (l:=[]) (u:=[]) (fun _=>[]) (Octs.nil _ _) (Slots.nil _ _ _ _) (fun i_ x_ h_=>by simp at h_) (TagsR.nil _ _))).move (Step.refl _ Nil) nilM qc1,trivial⟩ ((show TagsR _ (Imm F w ba [⟨b,o,[.int .i32 ((D.f 0).n),.int .i16 ((D.f 1).n),.map D.m],false⟩,⟨b4,0,[.int .i64 0,.slice none 0 0,.bool false,.slice (some ⟨aa,0,none⟩) 2 2,.slice ac D.u.length ae],true⟩,⟨aa,0,[.int .i64 (IntKind.i64.wrap ((D.f 0).n)),.slice none 0 0,.bool false,.slice none 0 0,.slice none 0 0,.int .i64 (IntKind.i64.wrap ((D.f 1).n)),.slice none 0 0,.bool false,.slice none 0 0,.slice none 0 0],true⟩,⟨af,0,[.int .i64 0,.slice none 0 0,.bool false,.slice (some ⟨aa,0,none⟩) 2 2,.slice ac D.u.length ae],true⟩] []) _ _ _ from (al.move (ap.trans ar).step immM (ap.trans ar).to')).move (Step.refl _ Nil) nilM qc1)
set_option maxHeartbeats 4000000 in
theorem qbn (v:Int) (D:DV) (b o:Nat) (w:World) (F:Nat → Nat → Prop) (hat:AtF w F b o [qaa ((D.f 0).o.getD 0 0),qaa ((D.f 0).o.getD 1 0),qaa ((D.f 0).o.getD 2 0),qaa ((D.f 0).o.getD 3 0),qaa ((D.f 0).o.getD 4 0),qaa ((D.f 0).o.getD 5 0),qaa ((D.f 0).o.getD 6 0),qaa ((D.f 0).o.getD 7 0),qaa ((D.f 0).o.getD 8 0),qaa ((D.f 0).o.getD 9 0),qaa ((D.f 0).o.getD 10 0),qaa ((D.f 0).o.getD 11 0),qaa ((D.f 0).o.getD 12 0),qaa ((D.f 0).o.getD 13 0),qaa ((D.f 0).o.getD 14 0),qaa ((D.f 0).o.getD 15 0),.slice ((D.f 1).A) ((D.f 1).l) ((D.f 1).c),.map D.m]) (hok:qaN w F D):Calls Tryz.prog 102 #[.pointer (some ⟨b,o,none⟩)] w (qeW w F (qaO D)):=by
 refine enter (n:=81) Tryz.func102 rfl Tryz.ntmps102 kz fun a hE=>?_
 have hW:WOk w Nil w [⟨b,o,[qaa ((D.f 0).o.getD 0 0),qaa ((D.f 0).o.getD 1 0),qaa ((D.f 0).o.getD 2 0),qaa ((D.f 0).o.getD 3 0),qaa ((D.f 0).o.getD 4 0),qaa ((D.f 0).o.getD 5 0),qaa ((D.f 0).o.getD 6 0),qaa ((D.f 0).o.getD 7 0),qaa ((D.f 0).o.getD 8 0),qaa ((D.f 0).o.getD 9 0),qaa ((D.f 0).o.getD 10 0),qaa ((D.f 0).o.getD 11 0),qaa ((D.f 0).o.getD 12 0),qaa ((D.f 0).o.getD 13 0),qaa ((D.f 0).o.getD 14 0),qaa ((D.f 0).o.getD 15 0),.slice ((D.f 1).A) ((D.f 1).l) ((D.f 1).c),.map D.m],false⟩] []:=(WOk.start w Nil).start1 hat rfl rfl
 unfold qaN at hok
 obtain ⟨g1,⟨g2,g2l,g2e⟩,g3,g3l,g3x,_⟩:=hok
 have hE0:=(EnvOk.ptr0 (cs:=[qaa ((D.f 0).o.getD 0 0),qaa ((D.f 0).o.getD 1 0),qaa ((D.f 0).o.getD 2 0),qaa ((D.f 0).o.getD 3 0),qaa ((D.f 0).o.getD 4 0),qaa ((D.f 0).o.getD 5 0),qaa ((D.f 0).o.getD 6 0),qaa ((D.f 0).o.getD 7 0),qaa ((D.f 0).o.getD 8 0),qaa ((D.f 0).o.getD 9 0),qaa ((D.f 0).o.getD 10 0),qaa ((D.f 0).o.getD 11 0),qaa ((D.f 0).o.getD 12 0),qaa ((D.f 0).o.getD 13 0),qaa ((D.f 0).o.getD 14 0),qaa ((D.f 0).o.getD 15 0),.slice ((D.f 1).A) ((D.f 1).l) ((D.f 1).c),.map D.m]) (r:=false) hE).pk (env':=[(0,.p 0 0)])
 have hu4:=qkw (k:=0) (s:=(D.f 0).o) hat g1 (fun j hj=>by match j,hj with | 0,_=>rfl | 1,_=>rfl | 2,_=>rfl | 3,_=>rfl | 4,_=>rfl | 5,_=>rfl | 6,_=>rfl | 7,_=>rfl | 8,_=>rfl | 9,_=>rfl | 10,_=>rfl | 11,_=>rfl | 12,_=>rfl | 13,_=>rfl | 14,_=>rfl | 15,_=>rfl | n_ + 16,h_=>exact absurd h_ (by omega))
 refine qaf [0] kz ?_
 refine qan (qaZ hW hE0 (d:=2) (cs:=[.int .i64 0,.slice none 0 0,.bool false,.slice none 0 0,.slice none 0 0]) kz fun b5 a6 w7 hb8 hz9 gZ fH fI=>?_)
 refine qah (qac ?_)
 refine qaf [0,1,2,3] kz ?_
 refine qan (qd5 (t:=34) (e:=37) (size:=5) (bytes:=88) (d:=5) (j:=2) (.agg #[.int .i64 0,.slice none 0 0,.bool false,.slice none 0 0,.slice none 0 0]) [.int .i64 0,.slice none 0 0,.bool false,.slice none 0 0,.slice none 0 0,.int .i64 0,.slice none 0 0,.bool false,.slice none 0 0,.slice none 0 0] fH fI fun aa jB jC g6 g7 g8 dx fJ=>?_)
 refine qal [1] [2,3] [(0,.p 0 0),(2,.p 1 0),(6,.v (.agg #[.int .i64 0,.slice none 0 0,.bool false,.slice (some ⟨aa,0,none⟩) 2 2,.slice none 0 0]))] dx fJ fun jD fK=>?_
 refine qan (qaZ dx fK (d:=3) (cs:=[.int .i64 0,.slice none 0 0,.bool false,.slice none 0 0,.slice none 0 0]) kz fun bB jE jF g9 hC hJ fL fM=>?_)
 refine qan (qav fL fM (oi:=3) (cs:=[.int .i64 0,.slice none 0 0,.bool false,.slice (some ⟨aa,0,none⟩) 2 2,.slice none 0 0]) kz fun jG hK fN fO=>?_)
 refine qah (qac ?_)
 refine qaM 9 kz fN fun jH hZ dy fP=>?_
 refine qaI [0,1,2,3,4,5] [(0,.p 0 0),(2,.p 1 0),(3,.p 3 0),(8,.v (.slice (some ⟨aa,0,none⟩) 2 2)),(12,.v (.slice (some ⟨b,o,none⟩) 16 16))] 4 (qab qag) (fun _ h=>h.cells) fP fO fun jI fQ=>?_
 have bY:=dy.addNil 5 1
 have fR:=dy.frNil 5 1
 refine qau (i:=6) kz (qaY bY fQ (k:=0) (d:=13) (t:=22) (e:=5) (size:=1) (bytes:=1) (A:=none) (As:=(some ⟨b,o,none⟩)) (m0:=0) (c:=0) (m:=16) (cs:=16) (xs:=[]) (news:=bc ((D.f 0).o)) kz kz rfl (hu4.move bY.step nilM bY.imm).src (hu4.move bY.step nilM bY.imm).cap (by omega) fun ac ae jJ jK fS fT fU=>?_)
 have fV:(⟨ac,ae,5,1,0 + 16,[] ++ bc ((D.f 0).o)⟩:Rw) = brow ac ae 5 ((D.f 0).o):=by rw [List.nil_append]; unfold brow; rw [g1]
 obtain ⟨dz,fW⟩:=fT.rowEq 0 [brow ac ae 5 ((D.f 0).o)] fV
 have fX:=EnvOk.pick fU (ks:=[0,2,3,8,12,13]) (env':=[(0,.p 0 0),(2,.p 1 0),(3,.p 3 0),(8,.v (.slice (some ⟨aa,0,none⟩) 2 2)),(12,.v (.slice (some ⟨b,o,none⟩) 16 16)),(13,.v (.slice ac (0 + 16) ae))]) kz
 have fY:=fX.cast (env':=[(0,.p 0 0),(2,.p 1 0),(3,.p 3 0),(8,.v (.slice (some ⟨aa,0,none⟩) 2 2)),(12,.v (.slice (some ⟨b,o,none⟩) 16 16)),(13,.v (.slice ac (((D.f 0).o).length) ae))]) (by rw [g1])
 have di:=TT.ofW ((fR.trans fS).trans fW) dz
 refine ⟨fun _=>di,?_⟩
 refine qaI [7] [(0,.p 0 0),(2,.p 1 0),(3,.p 3 0),(8,.v (.slice (some ⟨aa,0,none⟩) 2 2)),(14,.v (.agg #[.int .i64 0,.slice ac (((D.f 0).o).length) ae,.bool false,.slice none 0 0,.slice none 0 0]))] 2 (qab qag) (fun _ h=>h.cells) di fY fun jL fZ=>?_
 refine qaR fZ (i:=8) (t:=34) (A:=(some ⟨aa,0,none⟩)) (m:=2) (q:=0) (d:=15) kz (e:=37) (size:=5) (bytes:=88) (j:=0) kz (b:=aa) (o:=0) rfl rfl (by decide) kz kz (qab qag) di fun jM f5=>?_
 have f7:=f5.recast 15 (.v (.pointer (some ⟨aa,0 + 0 * 5,none⟩))) (.p 2 0) rfl rfl (Nat.le_of_ble_eq_true (n:=3) rfl)
 have f8:=f7.pk (env':=[(0,.p 0 0),(2,.p 1 0),(3,.p 3 0),(8,.v (.slice (some ⟨aa,0,none⟩) 2 2)),(14,.v (.agg #[.int .i64 0,.slice ac (((D.f 0).o).length) ae,.bool false,.slice none 0 0,.slice none 0 0])),(15,.p 2 0)])
 refine qau (i:=9) kz (qav dz f8 (oi:=2) (cs:=[.int .i64 0,.slice ac (((D.f 0).o).length) ae,.bool false,.slice none 0 0,.slice none 0 0,.int .i64 0,.slice none 0 0,.bool false,.slice none 0 0,.slice none 0 0]) kz fun jN ia f9 ga=>?_)
 refine ⟨fun h=>absurd rfl h,?_⟩
 refine qaH kz ?_ _
 refine qac ?_
 refine qaM 9 kz f9 fun jO ib gb dj=>?_
 refine qaI [0,1,2,3,4,5,6] [(0,.p 0 0),(2,.p 1 0),(3,.p 3 0),(17,.v (.slice (some ⟨aa,0,none⟩) 2 2)),(22,.v (.bool (((D.f 1).A).isNone)))] 3 (qab qag) (fun _ h=>h.cells) dj ga fun jP gc=>?_
 refine qau (i:=7) kz (qaC gc (t:=34) (A:=(some ⟨aa,0,none⟩)) (m:=2) (q:=1) (d:=23) kz (e:=37) (size:=5) (bytes:=88) (j:=1) kz (b:=aa) (o:=0) rfl rfl (by decide) fun jQ gd=>?_)
 have ge:=gd.recast 23 (.v (.pointer (some ⟨aa,0 + 1 * 5,none⟩))) (.p 2 5) rfl rfl (Nat.le_of_ble_eq_true (n:=3) rfl)
 have gg:=ge.pk (env':=[(0,.p 0 0),(2,.p 1 0),(3,.p 3 0),(17,.v (.slice (some ⟨aa,0,none⟩) 2 2)),(22,.v (.bool (((D.f 1).A).isNone))),(23,.p 2 5)])
 refine ⟨fun _=>dj,?_⟩
 refine qaI [8] [(0,.p 0 0),(2,.p 1 0),(3,.p 3 0),(22,.v (.bool (((D.f 1).A).isNone))),(24,.p 2 7)] 1 (qab qag) (fun _ h=>h.cells) dj gg fun jR gh=>?_
 refine qau (i:=9) kz (qav gb gh (oi:=2) (cs:=[.int .i64 0,.slice ac (((D.f 0).o).length) ae,.bool false,.slice none 0 0,.slice none 0 0,.int .i64 0,.slice none 0 0,.bool (((D.f 1).A).isNone),.slice none 0 0,.slice none 0 0]) kz fun jS ic dl gi=>?_)
 refine ⟨fun h=>absurd rfl h,?_⟩
 refine qaH kz ?_ _
 refine qac ?_
 refine wp_seq ?_
 refine qar [(0,.p 0 0),(2,.p 1 0),(3,.p 3 0),(29,.v (.int .i64 (((D.f 1).l:Nat):Int))),(30,.v (.int .i64 0))] dl gi fun jT gj=>?_
 refine wp_block ?_
 have dA:=dl.addNil 37 5
 have ig:=dl.frNil 37 5
 refine wp_loop_ghost (fun n_ a_ w_=>∃ (k1_:Nat) (A1_:Option Addr) (c1_:Nat) (xs1_:List Value) (css1_:List (List Value)),n_ = (D.f 1).l - k1_ ∧ k1_ ≤ (D.f 1).l ∧ (Trees w_ (Imm F w w_ [⟨b,o,[qaa ((D.f 0).o.getD 0 0),qaa ((D.f 0).o.getD 1 0),qaa ((D.f 0).o.getD 2 0),qaa ((D.f 0).o.getD 3 0),qaa ((D.f 0).o.getD 4 0),qaa ((D.f 0).o.getD 5 0),qaa ((D.f 0).o.getD 6 0),qaa ((D.f 0).o.getD 7 0),qaa ((D.f 0).o.getD 8 0),qaa ((D.f 0).o.getD 9 0),qaa ((D.f 0).o.getD 10 0),qaa ((D.f 0).o.getD 11 0),qaa ((D.f 0).o.getD 12 0),qaa ((D.f 0).o.getD 13 0),qaa ((D.f 0).o.getD 14 0),qaa ((D.f 0).o.getD 15 0),.slice ((D.f 1).A) ((D.f 1).l) ((D.f 1).c),.map D.m],false⟩,⟨b5,0,[.int .i64 0,.slice none 0 0,.bool false,.slice none 0 0,.slice none 0 0],true⟩,⟨aa,0,[.int .i64 0,.slice ac (((D.f 0).o).length) ae,.bool false,.slice none 0 0,.slice none 0 0,.int .i64 0,.slice none 0 0,.bool (((D.f 1).A).isNone),.slice A1_ k1_ c1_,.slice none 0 0],true⟩,⟨bB,0,[.int .i64 0,.slice none 0 0,.bool false,.slice (some ⟨aa,0,none⟩) 2 2,.slice none 0 0],true⟩] [brow ac ae 5 ((D.f 0).o),⟨A1_,c1_,37,5,k1_,xs1_⟩]) xs1_ (((List.range (D.f 1).l).map (fun i=>qaG ((D.f 1).f i))).take k1_) css1_) ∧ LInv dA 81 [⟨b,o,[qaa ((D.f 0).o.getD 0 0),qaa ((D.f 0).o.getD 1 0),qaa ((D.f 0).o.getD 2 0),qaa ((D.f 0).o.getD 3 0),qaa ((D.f 0).o.getD 4 0),qaa ((D.f 0).o.getD 5 0),qaa ((D.f 0).o.getD 6 0),qaa ((D.f 0).o.getD 7 0),qaa ((D.f 0).o.getD 8 0),qaa ((D.f 0).o.getD 9 0),qaa ((D.f 0).o.getD 10 0),qaa ((D.f 0).o.getD 11 0),qaa ((D.f 0).o.getD 12 0),qaa ((D.f 0).o.getD 13 0),qaa ((D.f 0).o.getD 14 0),qaa ((D.f 0).o.getD 15 0),.slice ((D.f 1).A) ((D.f 1).l) ((D.f 1).c),.map D.m],false⟩,⟨b5,0,[.int .i64 0,.slice none 0 0,.bool false,.slice none 0 0,.slice none 0 0],true⟩,⟨aa,0,[.int .i64 0,.slice ac (((D.f 0).o).length) ae,.bool false,.slice none 0 0,.slice none 0 0,.int .i64 0,.slice none 0 0,.bool (((D.f 1).A).isNone),.slice A1_ k1_ c1_,.slice none 0 0],true⟩,⟨bB,0,[.int .i64 0,.slice none 0 0,.bool false,.slice (some ⟨aa,0,none⟩) 2 2,.slice none 0 0],true⟩] [brow ac ae 5 ((D.f 0).o),⟨A1_,c1_,37,5,k1_,xs1_⟩] [(0,.p 0 0),(2,.p 1 0),(3,.p 3 0),(29,.v (.int .i64 (((D.f 1).l:Nat):Int))),(30,.v (.int .i64 ((k1_:Nat):Int)))] a_ w_) ((D.f 1).l) ⟨0,none,0,[],[],by omega,by omega,Trees.nil _ _,gj.pk,dA,Fr.refl _ _ _⟩ ?_
 rintro jU jV ii ⟨k1_,A1_,c1_,xs1_,css1_,ij,ik,hT1_,gk,aB,dp⟩
 refine qar [(0,.p 0 0),(2,.p 1 0),(3,.p 3 0),(29,.v (.int .i64 (((D.f 1).l:Nat):Int))),(30,.v (.int .i64 ((k1_:Nat):Int))),(31,.v (.bool (decide (((k1_:Nat):Int) < (((D.f 1).l:Nat):Int)))))] aB gk fun jW dq=>?_
 refine wp_seq ?_
 refine qax dq (b:=decide (((k1_:Nat):Int) < (((D.f 1).l:Nat):Int))) kz (fun dr=>?_) (fun dr=>?_)
 ·
  have il:=of_decide_eq_true dr
  refine wp_skip ?_
  refine qac ?_
  refine wp_seq ?_
  refine wp_block ?_
  refine qar [(0,.p 0 0),(2,.p 1 0),(3,.p 3 0),(4,.v (.int .i64 ((k1_:Nat):Int))),(29,.v (.int .i64 (((D.f 1).l:Nat):Int))),(30,.v (.int .i64 ((k1_:Nat):Int)))] aB dq fun jX dB=>?_
  refine qaM 4 kz aB fun im af dC gE=>?_
  refine qau (i:=0) kz (qaZ dC dB (d:=33) (cs:=[.bool false]) kz fun io ip iq gF gG ab bZ cJ=>?_)
  have dD:=TT.ofW ab bZ
  refine ⟨fun _=>dD,?_⟩
  refine qdz (i:=1) (j:=2) kz ?_ ?_
  ·
   refine (qav bZ cJ (oi:=4) (cs:=[.bool true]) kz fun ir aE cK dE=>?_)
   have dF:=TT.ofW (ab.trans aE) cK
   refine ⟨fun _=>dF,?_⟩
   refine qau (i:=2) kz (qav cK dE (oi:=4) (cs:=[.bool false]) kz fun iu bg bC dG=>?_)
   have dH:=TT.ofW ((ab.trans aE).trans bg) bC
   refine ⟨fun _=>dH,?_⟩
   refine qau (i:=3) kz (qbo [0,2,3,4,29,30,34] bC.cells dG (env':=[(0,.p 0 0),(2,.p 1 0),(3,.p 3 0),(4,.v (.int .i64 ((k1_:Nat):Int))),(29,.v (.int .i64 (((D.f 1).l:Nat):Int))),(30,.v (.int .i64 ((k1_:Nat):Int))),(34,.v (.bool false))]) kz fun iv cL=>?_)
   have dI:=TT.ofW ((ab.trans aE).trans bg) bC
   refine ⟨fun _=>dI,?_⟩
   refine qaH kz ?_ _
   refine qac ?_
   refine qat cL (b:=false) kz rfl ?_
   refine qcO 18 kz bC fun iw b8 ap bD=>?_
   refine qaI [0,1,2,3,7,8,9,10,11] [(0,.p 0 0),(2,.p 1 0),(3,.p 3 0),(29,.v (.int .i64 (((D.f 1).l:Nat):Int))),(30,.v (.int .i64 ((k1_:Nat):Int))),(54,.v (.slice (some ⟨aa,0,none⟩) 2 2)),(56,.v (.slice (some ⟨aa,0,none⟩) 2 2)),(63,.v (.slice ((D.f 1).A) ((D.f 1).l) ((D.f 1).c))),(64,.v (.int .i64 ((k1_:Nat):Int)))] 10 (qae (qab (qab (qae (qab qag))))) (fun _ h=>h.cells) bD cL fun ix dJ=>?_
   refine qaR dJ (i:=4) (t:=34) (A:=(some ⟨aa,0,none⟩)) (m:=2) (q:=1) (d:=57) kz (e:=37) (size:=5) (bytes:=88) (j:=1) kz (b:=aa) (o:=0) rfl rfl (by decide) kz kz (qae (qab (qab (qae (qab qag))))) bD fun iy dK=>?_
   have dL:=dK.recast 57 (.v (.pointer (some ⟨aa,0 + 1 * 5,none⟩))) (.p 2 5) rfl rfl (Nat.le_of_ble_eq_true (n:=3) rfl)
   have dM:=dL.pk (env':=[(0,.p 0 0),(2,.p 1 0),(3,.p 3 0),(29,.v (.int .i64 (((D.f 1).l:Nat):Int))),(30,.v (.int .i64 ((k1_:Nat):Int))),(54,.v (.slice (some ⟨aa,0,none⟩) 2 2)),(56,.v (.slice (some ⟨aa,0,none⟩) 2 2)),(63,.v (.slice ((D.f 1).A) ((D.f 1).l) ((D.f 1).c))),(64,.v (.int .i64 ((k1_:Nat):Int))),(57,.p 2 5)])
   refine qaI [5,6] [(0,.p 0 0),(2,.p 1 0),(3,.p 3 0),(29,.v (.int .i64 (((D.f 1).l:Nat):Int))),(30,.v (.int .i64 ((k1_:Nat):Int))),(54,.v (.slice (some ⟨aa,0,none⟩) 2 2)),(59,.v (.slice A1_ k1_ c1_)),(63,.v (.slice ((D.f 1).A) ((D.f 1).l) ((D.f 1).c))),(64,.v (.int .i64 ((k1_:Nat):Int)))] 7 (qae (qab (qab (qae (qab qag))))) (fun _ h=>h.cells) bD dM fun iz dN=>?_
   obtain ⟨dO,dP,dQ,gH,dt⟩:=Slots.get g2 (i:=k1_) (by omega)
   refine qaR dN (i:=12) (t:=137) (A:=(D.f 1).A) (m:=((D.f 1).l)) (q:=((k1_:Nat):Int)) (d:=65) kz (e:=142) (size:=3) (bytes:=16) kz dQ rfl (by omega) kz kz (qae (qab (qab (qae (qab qag))))) bD fun iA dR=>?_
   refine qau (i:=13) kz (qam dR (f:=131) (vs:=[.pointer (some ⟨dO,dP + k1_ * 3,none⟩)]) (d:=66) kz Tryz.call131 (qbd 0 ((D.f 1).f k1_) _ _ _ _ (dt.move ap.step nilM ap.imm) (qaJ _ ap.step nilM ap.imm (g2e k1_ (by omega)))) ?_)
   rintro e_ iB ⟨gI,rfl,dS,cd⟩
   have ce:=dS.move (Step.refl _ Nil) nilM (ap.laid (G:=F) cd)
   obtain ⟨bL,bM,bN,bO,bP,bQ,bR,bS,bT,bU,bV,gJ,gK,cm,gl,gm,iC,iD⟩:=ce.open_
   rw [cm] at ce
   have gn:=gl.small
   have gp:=gm.small
   rw [cm]
   refine ⟨_,rfl,fun iE dT=>?_⟩
   have cM:=ap.next_nil cd
   have ar:=ap.frN cd
   have dU:=TT.ofW ar cM
   refine ⟨fun _=>dU,?_⟩
   refine qau (i:=14) kz (qbA cM dT (e:=37) (size:=5) (len:=1) (cs:=[.int .i64 bL,.slice bQ bM.length bR,.bool bN,.slice bS bO.length bT,.slice bU bP.length bV]) (d:=67) kz kz fun dV iF iG gL gM ah bE dW=>?_)
   have dX:=TT.ofW (ar.trans ah) bE
   refine ⟨fun _=>dX,?_⟩
   refine qau (i:=15) kz (qaY bE dW (k:=1) (d:=68) (t:=34) (e:=37) (size:=5) (bytes:=88) (A:=A1_) (As:=(some ⟨dV,0,none⟩)) (m0:=k1_) (c:=c1_) (m:=1) (cs:=1) (xs:=xs1_) (news:=[.int .i64 bL,.slice bQ bM.length bR,.bool bN,.slice bS bO.length bT,.slice bU bP.length bV]) kz kz rfl (qbH (bE.own 2 _ rfl) (qbD kz)) (qbQ (bE.own 2 _ rfl)) (by omega) fun bW bX iH iI au cq dY=>?_)
   have dZ:=TT.ofW ((ar.trans ah).trans au) cq
   refine ⟨fun _=>dZ,?_⟩
   refine qau (i:=16) kz (qaC dY (t:=34) (A:=(some ⟨aa,0,none⟩)) (m:=2) (q:=1) (d:=69) kz (e:=37) (size:=5) (bytes:=88) (j:=1) kz (b:=aa) (o:=0) rfl rfl (by decide) fun iJ d5=>?_)
   have d6:=d5.recast 69 (.v (.pointer (some ⟨aa,0 + 1 * 5,none⟩))) (.p 2 5) rfl rfl (Nat.le_of_ble_eq_true (n:=3) rfl)
   have d7:=d6.pk (env':=[(0,.p 0 0),(2,.p 1 0),(3,.p 3 0),(29,.v (.int .i64 (((D.f 1).l:Nat):Int))),(30,.v (.int .i64 ((k1_:Nat):Int))),(54,.v (.slice (some ⟨aa,0,none⟩) 2 2)),(59,.v (.slice A1_ k1_ c1_)),(63,.v (.slice ((D.f 1).A) ((D.f 1).l) ((D.f 1).c))),(64,.v (.int .i64 ((k1_:Nat):Int))),(65,.v (.pointer (some ⟨dO,dP + k1_ * 3,none⟩))),(66,.v (.agg #[.int .i64 bL,.slice bQ bM.length bR,.bool bN,.slice bS bO.length bT,.slice bU bP.length bV])),(67,.v (.slice (some ⟨dV,0,none⟩) 1 1)),(68,.v (.slice bW (k1_ + 1) bX)),(69,.p 2 5)])
   have cN:=TT.ofW ((ar.trans ah).trans au) cq
   refine ⟨fun _=>cN,?_⟩
   refine qaI [17] [(0,.p 0 0),(2,.p 1 0),(3,.p 3 0),(29,.v (.int .i64 (((D.f 1).l:Nat):Int))),(30,.v (.int .i64 ((k1_:Nat):Int))),(68,.v (.slice bW (k1_ + 1) bX)),(70,.p 2 8)] 1 (qae (qab (qab (qae (qab qag))))) (fun _ h=>h.cells) cN d7 fun iK d8=>?_
   refine qau (i:=18) kz (qav cq d8 (oi:=2) (cs:=[.int .i64 0,.slice ac (((D.f 0).o).length) ae,.bool false,.slice none 0 0,.slice none 0 0,.int .i64 0,.slice none 0 0,.bool (((D.f 1).A).isNone),.slice bW (k1_ + 1) bX,.slice none 0 0]) kz fun iL bh cO d9=>?_)
   refine ⟨fun h=>absurd rfl h,?_⟩
   refine qaH kz ?_ _
   refine qas ?_
   refine qac ?_
   refine qaq [0,1] kz ?_
   refine qal [0,1] [] [(0,.p 0 0),(2,.p 1 0),(3,.p 3 0),(29,.v (.int .i64 (((D.f 1).l:Nat):Int))),(30,.v (.int .i64 (IntKind.i64.wrap (((k1_:Nat):Int) + 1))))] cO d9 fun iM ea=>?_
   refine qah (qac ?_)
   obtain ⟨cP,eb,bi⟩:=cO.cutB ea 4 [⟨b,o,[qaa ((D.f 0).o.getD 0 0),qaa ((D.f 0).o.getD 1 0),qaa ((D.f 0).o.getD 2 0),qaa ((D.f 0).o.getD 3 0),qaa ((D.f 0).o.getD 4 0),qaa ((D.f 0).o.getD 5 0),qaa ((D.f 0).o.getD 6 0),qaa ((D.f 0).o.getD 7 0),qaa ((D.f 0).o.getD 8 0),qaa ((D.f 0).o.getD 9 0),qaa ((D.f 0).o.getD 10 0),qaa ((D.f 0).o.getD 11 0),qaa ((D.f 0).o.getD 12 0),qaa ((D.f 0).o.getD 13 0),qaa ((D.f 0).o.getD 14 0),qaa ((D.f 0).o.getD 15 0),.slice ((D.f 1).A) ((D.f 1).l) ((D.f 1).c),.map D.m],false⟩,⟨b5,0,[.int .i64 0,.slice none 0 0,.bool false,.slice none 0 0,.slice none 0 0],true⟩,⟨aa,0,[.int .i64 0,.slice ac (((D.f 0).o).length) ae,.bool false,.slice none 0 0,.slice none 0 0,.int .i64 0,.slice none 0 0,.bool (((D.f 1).A).isNone),.slice bW (k1_ + 1) bX,.slice none 0 0],true⟩,⟨bB,0,[.int .i64 0,.slice none 0 0,.bool false,.slice (some ⟨aa,0,none⟩) 2 2,.slice none 0 0],true⟩] [(0,.p 0 0),(2,.p 1 0),(3,.p 3 0),(29,.v (.int .i64 (((D.f 1).l:Nat):Int))),(30,.v (.int .i64 (IntKind.i64.wrap (((k1_:Nat):Int) + 1))))]
   obtain ⟨ec,bj⟩:=eb.cutR 2 [brow ac ae 5 ((D.f 0).o),⟨bW,bX,37,5,k1_ + 1,xs1_ ++ [.int .i64 bL,.slice bQ bM.length bR,.bool bN,.slice bS bO.length bT,.slice bU bP.length bV]⟩]
   have ee:IntKind.i64.wrap (((k1_:Nat):Int) + 1) = ((k1_ + 1:Nat):Int):=qaX (by omega)
   rw [ee] at cP
   exact ⟨(D.f 1).l - (k1_ + 1),by omega,k1_ + 1,bW,bX,xs1_ ++ [Value.int .i64 bL,.slice bQ bM.length bR,.bool bN,.slice bS bO.length bT,.slice bU bP.length bV],(css1_ ++ [[Value.int .i64 bL,.slice bQ bM.length bR,.bool bN,.slice bS bO.length bT,.slice bU bP.length bV]]),rfl,by omega,by rw [qco (by omega)]; exact (hT1_.move ((((((((((af.trans ab).trans aE).trans bg).trans b8).trans ar).trans ah).trans au).trans bh).trans bi).trans bj).step immM ((((((((((af.trans ab).trans aE).trans bg).trans b8).trans ar).trans ah).trans au).trans bh).trans bi).trans bj).to').snoc (x:=(fun i=>qaG ((D.f 1).f i)) k1_) (ce.move ((((ah.trans au).trans bh).trans bi).trans bj).step immM ((((ah.trans au).trans bh).trans bi).trans bj).to'),cP.pk,ec,(((((((((((dp.trans af).trans ab).trans aE).trans bg).trans b8).trans ar).trans ah).trans au).trans bh).trans bi).trans bj)⟩
  refine (qav bZ cJ (oi:=4) (cs:=[.bool false]) kz fun iN ag cQ ef=>?_)
  have eg:=TT.ofW (ab.trans ag) cQ
  refine ⟨fun _=>eg,?_⟩
  refine qau (i:=1) kz (qav cQ ef (oi:=4) (cs:=[.bool true]) kz fun iO ai bF eh=>?_)
  have ei:=TT.ofW ((ab.trans ag).trans ai) bF
  refine ⟨fun _=>ei,?_⟩
  refine qau (i:=3) kz (qbo [0,2,3,4,29,30,34] bF.cells eh (env':=[(0,.p 0 0),(2,.p 1 0),(3,.p 3 0),(4,.v (.int .i64 ((k1_:Nat):Int))),(29,.v (.int .i64 (((D.f 1).l:Nat):Int))),(30,.v (.int .i64 ((k1_:Nat):Int))),(34,.v (.bool true))]) kz fun iP cR=>?_)
  have ej:=TT.ofW ((ab.trans ag).trans ai) bF
  refine ⟨fun _=>ej,?_⟩
  refine qaH kz ?_ _
  refine qac ?_
  refine qbf cR (b:=true) kz rfl ?_
  refine qaM 17 kz bF fun iQ aF aj bG=>?_
  refine qaI [0,1,5,6,7,8,9] [(0,.p 0 0),(2,.p 1 0),(3,.p 3 0),(29,.v (.int .i64 (((D.f 1).l:Nat):Int))),(30,.v (.int .i64 ((k1_:Nat):Int))),(36,.v (.slice (some ⟨aa,0,none⟩) 2 2)),(43,.v (.slice ((D.f 1).A) ((D.f 1).l) ((D.f 1).c))),(44,.v (.int .i64 ((k1_:Nat):Int)))] 11 (qab (qae (qab (qab (qae (qab qag)))))) (fun _ h=>h.cells) bG cR fun iR ek=>?_
  refine qaR ek (i:=2) (t:=34) (A:=(some ⟨aa,0,none⟩)) (m:=2) (q:=1) (d:=37) kz (e:=37) (size:=5) (bytes:=88) (j:=1) kz (b:=aa) (o:=0) rfl rfl (by decide) kz kz (qab (qae (qab (qab (qae (qab qag)))))) bG fun iS em=>?_
  have eo:=em.recast 37 (.v (.pointer (some ⟨aa,0 + 1 * 5,none⟩))) (.p 2 5) rfl rfl (Nat.le_of_ble_eq_true (n:=3) rfl)
  have ep:=eo.pk (env':=[(0,.p 0 0),(2,.p 1 0),(3,.p 3 0),(29,.v (.int .i64 (((D.f 1).l:Nat):Int))),(30,.v (.int .i64 ((k1_:Nat):Int))),(36,.v (.slice (some ⟨aa,0,none⟩) 2 2)),(43,.v (.slice ((D.f 1).A) ((D.f 1).l) ((D.f 1).c))),(44,.v (.int .i64 ((k1_:Nat):Int))),(37,.p 2 5)])
  refine qaI [3,4,12] [(0,.p 0 0),(2,.p 1 0),(3,.p 3 0),(29,.v (.int .i64 (((D.f 1).l:Nat):Int))),(30,.v (.int .i64 ((k1_:Nat):Int))),(36,.v (.slice (some ⟨aa,0,none⟩) 2 2)),(39,.v (.slice A1_ k1_ c1_)),(43,.v (.slice ((D.f 1).A) ((D.f 1).l) ((D.f 1).c))),(44,.v (.int .i64 ((k1_:Nat):Int))),(47,.v (.int .i64 ((k1_:Nat):Int)))] 7 (qab (qae (qab (qab (qae (qab qag)))))) (fun _ h=>h.cells) bG ep fun iT eu=>?_
  obtain ⟨cH,cI,ev,gN,cr⟩:=Slots.get g2 (i:=k1_) (by omega)
  refine qaR eu (i:=10) (t:=137) (A:=(D.f 1).A) (m:=((D.f 1).l)) (q:=((k1_:Nat):Int)) (d:=45) kz (e:=142) (size:=3) (bytes:=16) kz ev rfl (by omega) kz kz (qab (qae (qab (qab (qae (qab qag)))))) bG fun iU cS=>?_
  refine qdz (i:=11) (j:=13) kz ?_ ?_
  ·
   refine (qam cS (f:=131) (vs:=[.pointer (some ⟨cH,cI + k1_ * 3,none⟩)]) (d:=46) kz Tryz.call131 (qbd 0 ((D.f 1).f k1_) _ _ _ _ (cr.move aj.step nilM aj.imm) (qaJ _ aj.step nilM aj.imm (g2e k1_ (by omega)))) ?_)
   rintro e_ iV ⟨gO,rfl,ew,cu⟩
   have cw:=ew.move (Step.refl _ Nil) nilM (aj.laid (G:=F) cu)
   obtain ⟨aH,aI,aJ,aK,aL,aM,aN,aO,aP,aQ,aR,gP,gQ,cz,gq,gt,iW,iX⟩:=cw.open_
   rw [cz] at cw
   have gv:=gq.small
   have gw:=gt.small
   rw [cz]
   refine ⟨_,rfl,fun iY ey=>?_⟩
   have cT:=aj.next_nil cu
   have av:=aj.frN cu
   have ez:=TT.ofW av cT
   refine ⟨fun _=>ez,?_⟩
   refine qau (i:=13) kz (qbA cT ey (e:=37) (size:=5) (len:=1) (cs:=[.int .i64 0,.slice none 0 0,.bool false,.slice none 0 0,.slice none 0 0]) (d:=48) kz kz fun du iZ i6 gR gS ak bH eB=>?_)
   have eC:=TT.ofW (av.trans ak) bH
   refine ⟨fun _=>eC,?_⟩
   refine qau (i:=14) kz (qaY bH eB (k:=1) (d:=49) (t:=34) (e:=37) (size:=5) (bytes:=88) (A:=A1_) (As:=(some ⟨du,0,none⟩)) (m0:=k1_) (c:=c1_) (m:=1) (cs:=1) (xs:=xs1_) (news:=[.int .i64 0,.slice none 0 0,.bool false,.slice none 0 0,.slice none 0 0]) kz kz rfl (qbH (bH.own 2 _ rfl) (qbD kz)) (qbQ (bH.own 2 _ rfl)) (by omega) fun am aw i7 ja ax cA eD=>?_)
   have eE:=TT.ofW ((av.trans ak).trans ax) cA
   refine ⟨fun _=>eE,?_⟩
   refine qau (i:=15) kz (qaC eD (t:=34) (A:=(some ⟨aa,0,none⟩)) (m:=2) (q:=1) (d:=50) kz (e:=37) (size:=5) (bytes:=88) (j:=1) kz (b:=aa) (o:=0) rfl rfl (by decide) fun jb eF=>?_)
   have eG:=eF.recast 50 (.v (.pointer (some ⟨aa,0 + 1 * 5,none⟩))) (.p 2 5) rfl rfl (Nat.le_of_ble_eq_true (n:=3) rfl)
   have eH:=eG.pk (env':=[(0,.p 0 0),(2,.p 1 0),(3,.p 3 0),(29,.v (.int .i64 (((D.f 1).l:Nat):Int))),(30,.v (.int .i64 ((k1_:Nat):Int))),(36,.v (.slice (some ⟨aa,0,none⟩) 2 2)),(39,.v (.slice A1_ k1_ c1_)),(43,.v (.slice ((D.f 1).A) ((D.f 1).l) ((D.f 1).c))),(44,.v (.int .i64 ((k1_:Nat):Int))),(47,.v (.int .i64 ((k1_:Nat):Int))),(45,.v (.pointer (some ⟨cH,cI + k1_ * 3,none⟩))),(46,.v (.agg #[.int .i64 aH,.slice aM aI.length aN,.bool aJ,.slice aO aK.length aP,.slice aQ aL.length aR])),(48,.v (.slice (some ⟨du,0,none⟩) 1 1)),(49,.v (.slice am (k1_ + 1) aw)),(50,.p 2 5)])
   have cU:=TT.ofW ((av.trans ak).trans ax) cA
   refine ⟨fun _=>cU,?_⟩
   refine qaI [16] [(0,.p 0 0),(2,.p 1 0),(3,.p 3 0),(29,.v (.int .i64 (((D.f 1).l:Nat):Int))),(30,.v (.int .i64 ((k1_:Nat):Int))),(46,.v (.agg #[.int .i64 aH,.slice aM aI.length aN,.bool aJ,.slice aO aK.length aP,.slice aQ aL.length aR])),(47,.v (.int .i64 ((k1_:Nat):Int))),(49,.v (.slice am (k1_ + 1) aw)),(51,.p 2 8)] 1 (qab (qae (qab (qab (qae (qab qag)))))) (fun _ h=>h.cells) cU eH fun jc eI=>?_
   refine qau (i:=17) kz (qav cA eI (oi:=2) (cs:=[.int .i64 0,.slice ac (((D.f 0).o).length) ae,.bool false,.slice none 0 0,.slice none 0 0,.int .i64 0,.slice none 0 0,.bool (((D.f 1).A).isNone),.slice am (k1_ + 1) aw,.slice none 0 0]) kz fun gx bk cV eJ=>?_)
   refine ⟨fun h=>absurd rfl h,?_⟩
   refine qaH kz ?_ _
   refine qac ?_
   refine qaq [0,1] kz ?_
   have eK:World.ownsRow gx 0 37 5 (.slice am (k1_ + 1) aw) (k1_ + 1) (xs1_ ++ [.int .i64 0,.slice none 0 0,.bool false,.slice none 0 0,.slice none 0 0]):=cV.own 1 _ rfl
   obtain ⟨eL,cW⟩:=qca eK (by omega)
   refine qan (qaC eJ (t:=34) (A:=am) (m:=(k1_ + 1)) (q:=((k1_:Nat):Int)) (d:=52) kz (e:=37) (size:=5) (bytes:=88) kz (b:=eL) (o:=0) (j:=k1_) cW (rfl) (by omega) fun jd eM=>?_)
   refine qan (qbX cV eM (k:=1) (g:=eL) (o:=k1_ * 5) (c:=aw) (m:=(k1_ + 1)) (size:=5) (e:=37) (A:=am) (xs:=(xs1_ ++ [.int .i64 0,.slice none 0 0,.bool false,.slice none 0 0,.slice none 0 0])) (vs:=[.int .i64 aH,.slice aM aI.length aN,.bool aJ,.slice aO aK.length aP,.slice aQ aL.length aR]) kz rfl cW (by simp only [List.length_cons,List.length_nil]; omega) fun je bn eN eO=>?_)
   have eP:(⟨am,aw,37,5,k1_ + 1,qbx (xs1_ ++ [.int .i64 0,.slice none 0 0,.bool false,.slice none 0 0,.slice none 0 0]) (k1_ * 5) [.int .i64 aH,.slice aM aI.length aN,.bool aJ,.slice aO aK.length aP,.slice aQ aL.length aR]⟩:Rw) = ⟨am,aw,37,5,k1_ + 1,xs1_ ++ [.int .i64 aH,.slice aM aI.length aN,.bool aJ,.slice aO aK.length aP,.slice aQ aL.length aR]⟩:=by rw [qcK (by rw [hT1_.xslen,List.length_take,qcc]; omega)]
   obtain ⟨cX,bo⟩:=eN.rowEq 1 [brow ac ae 5 ((D.f 0).o),⟨am,aw,37,5,k1_ + 1,xs1_ ++ [.int .i64 aH,.slice aM aI.length aN,.bool aJ,.slice aO aK.length aP,.slice aQ aL.length aR]⟩,⟨some ⟨du,0,none⟩,1,37,5,1,[.int .i64 0,.slice none 0 0,.bool false,.slice none 0 0,.slice none 0 0]⟩] eP
   refine qah ?_
   refine qas ?_
   refine qac ?_
   refine qaq [0,1] kz ?_
   refine qal [0,1] [] [(0,.p 0 0),(2,.p 1 0),(3,.p 3 0),(29,.v (.int .i64 (((D.f 1).l:Nat):Int))),(30,.v (.int .i64 (IntKind.i64.wrap (((k1_:Nat):Int) + 1))))] cX eO fun jf eQ=>?_
   refine qah (qac ?_)
   obtain ⟨cY,eR,bp⟩:=cX.cutB eQ 4 [⟨b,o,[qaa ((D.f 0).o.getD 0 0),qaa ((D.f 0).o.getD 1 0),qaa ((D.f 0).o.getD 2 0),qaa ((D.f 0).o.getD 3 0),qaa ((D.f 0).o.getD 4 0),qaa ((D.f 0).o.getD 5 0),qaa ((D.f 0).o.getD 6 0),qaa ((D.f 0).o.getD 7 0),qaa ((D.f 0).o.getD 8 0),qaa ((D.f 0).o.getD 9 0),qaa ((D.f 0).o.getD 10 0),qaa ((D.f 0).o.getD 11 0),qaa ((D.f 0).o.getD 12 0),qaa ((D.f 0).o.getD 13 0),qaa ((D.f 0).o.getD 14 0),qaa ((D.f 0).o.getD 15 0),.slice ((D.f 1).A) ((D.f 1).l) ((D.f 1).c),.map D.m],false⟩,⟨b5,0,[.int .i64 0,.slice none 0 0,.bool false,.slice none 0 0,.slice none 0 0],true⟩,⟨aa,0,[.int .i64 0,.slice ac (((D.f 0).o).length) ae,.bool false,.slice none 0 0,.slice none 0 0,.int .i64 0,.slice none 0 0,.bool (((D.f 1).A).isNone),.slice am (k1_ + 1) aw,.slice none 0 0],true⟩,⟨bB,0,[.int .i64 0,.slice none 0 0,.bool false,.slice (some ⟨aa,0,none⟩) 2 2,.slice none 0 0],true⟩] [(0,.p 0 0),(2,.p 1 0),(3,.p 3 0),(29,.v (.int .i64 (((D.f 1).l:Nat):Int))),(30,.v (.int .i64 (IntKind.i64.wrap (((k1_:Nat):Int) + 1))))]
   obtain ⟨eS,bq⟩:=eR.cutR 2 [brow ac ae 5 ((D.f 0).o),⟨am,aw,37,5,k1_ + 1,xs1_ ++ [.int .i64 aH,.slice aM aI.length aN,.bool aJ,.slice aO aK.length aP,.slice aQ aL.length aR]⟩]
   have eU:IntKind.i64.wrap (((k1_:Nat):Int) + 1) = ((k1_ + 1:Nat):Int):=qaX (by omega)
   rw [eU] at cY
   exact ⟨(D.f 1).l - (k1_ + 1),by omega,k1_ + 1,am,aw,xs1_ ++ [Value.int .i64 aH,.slice aM aI.length aN,.bool aJ,.slice aO aK.length aP,.slice aQ aL.length aR],(css1_ ++ [[Value.int .i64 aH,.slice aM aI.length aN,.bool aJ,.slice aO aK.length aP,.slice aQ aL.length aR]]),rfl,by omega,by rw [qco (by omega)]; exact (hT1_.move ((((((((((((af.trans ab).trans ag).trans ai).trans aF).trans av).trans ak).trans ax).trans bk).trans bn).trans bo).trans bp).trans bq).step immM ((((((((((((af.trans ab).trans ag).trans ai).trans aF).trans av).trans ak).trans ax).trans bk).trans bn).trans bo).trans bp).trans bq).to').snoc (x:=(fun i=>qaG ((D.f 1).f i)) k1_) (cw.move ((((((ak.trans ax).trans bk).trans bn).trans bo).trans bp).trans bq).step immM ((((((ak.trans ax).trans bk).trans bn).trans bo).trans bp).trans bq).to'),cY.pk,eS,(((((((((((((dp.trans af).trans ab).trans ag).trans ai).trans aF).trans av).trans ak).trans ax).trans bk).trans bn).trans bo).trans bp).trans bq)⟩
  refine (qbA aj cS (e:=37) (size:=5) (len:=1) (cs:=[.int .i64 0,.slice none 0 0,.bool false,.slice none 0 0,.slice none 0 0]) (d:=48) kz kz fun dv jg jh gT gU ay al eV=>?_)
  have eW:=TT.ofW ay al
  refine ⟨fun _=>eW,?_⟩
  refine qau (i:=11) kz (qam eV (f:=131) (vs:=[.pointer (some ⟨cH,cI + k1_ * 3,none⟩)]) (d:=46) kz Tryz.call131 (qbd 0 ((D.f 1).f k1_) _ _ _ _ (cr.move al.step nilM al.imm) (qaJ _ al.step nilM al.imm (g2e k1_ (by omega)))) ?_)
  rintro e_ ji ⟨gV,rfl,eX,cB⟩
  have cC:=eX.move (Step.refl _ Nil) nilM (al.laid (G:=F) cB)
  obtain ⟨aS,aT,aU,aV,aW,aX,aY,aZ,ba,bd,bf,gW,gX,cD,gy,gz,jj,jk⟩:=cC.open_
  rw [cD] at cC
  have gA:=gy.small
  have gB:=gz.small
  rw [cD]
  refine ⟨_,rfl,fun jl eY=>?_⟩
  have bI:=al.next_nil cB
  have aG:=al.frN cB
  have eZ:=TT.ofW (ay.trans aG) bI
  refine ⟨fun _=>eZ,?_⟩
  refine qau (i:=14) kz (qaY bI eY (k:=1) (d:=49) (t:=34) (e:=37) (size:=5) (bytes:=88) (A:=A1_) (As:=(some ⟨dv,0,none⟩)) (m0:=k1_) (c:=c1_) (m:=1) (cs:=1) (xs:=xs1_) (news:=[.int .i64 0,.slice none 0 0,.bool false,.slice none 0 0,.slice none 0 0]) kz kz rfl (qbH (bI.own 2 _ rfl) (qbD kz)) (qbQ (bI.own 2 _ rfl)) (by omega) fun ao az jm jn aA cE e9=>?_)
  have fa:=TT.ofW ((ay.trans aG).trans aA) cE
  refine ⟨fun _=>fa,?_⟩
  refine qau (i:=15) kz (qaC e9 (t:=34) (A:=(some ⟨aa,0,none⟩)) (m:=2) (q:=1) (d:=50) kz (e:=37) (size:=5) (bytes:=88) (j:=1) kz (b:=aa) (o:=0) rfl rfl (by decide) fun jo fb=>?_)
  have fe:=fb.recast 50 (.v (.pointer (some ⟨aa,0 + 1 * 5,none⟩))) (.p 2 5) rfl rfl (Nat.le_of_ble_eq_true (n:=3) rfl)
  have ff:=fe.pk (env':=[(0,.p 0 0),(2,.p 1 0),(3,.p 3 0),(29,.v (.int .i64 (((D.f 1).l:Nat):Int))),(30,.v (.int .i64 ((k1_:Nat):Int))),(36,.v (.slice (some ⟨aa,0,none⟩) 2 2)),(39,.v (.slice A1_ k1_ c1_)),(43,.v (.slice ((D.f 1).A) ((D.f 1).l) ((D.f 1).c))),(44,.v (.int .i64 ((k1_:Nat):Int))),(47,.v (.int .i64 ((k1_:Nat):Int))),(45,.v (.pointer (some ⟨cH,cI + k1_ * 3,none⟩))),(48,.v (.slice (some ⟨dv,0,none⟩) 1 1)),(46,.v (.agg #[.int .i64 aS,.slice aX aT.length aY,.bool aU,.slice aZ aV.length ba,.slice bd aW.length bf])),(49,.v (.slice ao (k1_ + 1) az)),(50,.p 2 5)])
  have cZ:=TT.ofW ((ay.trans aG).trans aA) cE
  refine ⟨fun _=>cZ,?_⟩
  refine qaI [16] [(0,.p 0 0),(2,.p 1 0),(3,.p 3 0),(29,.v (.int .i64 (((D.f 1).l:Nat):Int))),(30,.v (.int .i64 ((k1_:Nat):Int))),(46,.v (.agg #[.int .i64 aS,.slice aX aT.length aY,.bool aU,.slice aZ aV.length ba,.slice bd aW.length bf])),(47,.v (.int .i64 ((k1_:Nat):Int))),(49,.v (.slice ao (k1_ + 1) az)),(51,.p 2 8)] 1 (qab (qae (qab (qab (qae (qab qag)))))) (fun _ h=>h.cells) cZ ff fun jp fg=>?_
  refine qau (i:=17) kz (qav cE fg (oi:=2) (cs:=[.int .i64 0,.slice ac (((D.f 0).o).length) ae,.bool false,.slice none 0 0,.slice none 0 0,.int .i64 0,.slice none 0 0,.bool (((D.f 1).A).isNone),.slice ao (k1_ + 1) az,.slice none 0 0]) kz fun gC bt c5 fh=>?_)
  refine ⟨fun h=>absurd rfl h,?_⟩
  refine qaH kz ?_ _
  refine qac ?_
  refine qaq [0,1] kz ?_
  have fi:World.ownsRow gC 0 37 5 (.slice ao (k1_ + 1) az) (k1_ + 1) (xs1_ ++ [.int .i64 0,.slice none 0 0,.bool false,.slice none 0 0,.slice none 0 0]):=c5.own 1 _ rfl
  obtain ⟨fj,c6⟩:=qca fi (by omega)
  refine qan (qaC fh (t:=34) (A:=ao) (m:=(k1_ + 1)) (q:=((k1_:Nat):Int)) (d:=52) kz (e:=37) (size:=5) (bytes:=88) kz (b:=fj) (o:=0) (j:=k1_) c6 (rfl) (by omega) fun jq fk=>?_)
  refine qan (qbX c5 fk (k:=1) (g:=fj) (o:=k1_ * 5) (c:=az) (m:=(k1_ + 1)) (size:=5) (e:=37) (A:=ao) (xs:=(xs1_ ++ [.int .i64 0,.slice none 0 0,.bool false,.slice none 0 0,.slice none 0 0])) (vs:=[.int .i64 aS,.slice aX aT.length aY,.bool aU,.slice aZ aV.length ba,.slice bd aW.length bf]) kz rfl c6 (by simp only [List.length_cons,List.length_nil]; omega) fun jr bu fm fo=>?_)
  have fq:(⟨ao,az,37,5,k1_ + 1,qbx (xs1_ ++ [.int .i64 0,.slice none 0 0,.bool false,.slice none 0 0,.slice none 0 0]) (k1_ * 5) [.int .i64 aS,.slice aX aT.length aY,.bool aU,.slice aZ aV.length ba,.slice bd aW.length bf]⟩:Rw) = ⟨ao,az,37,5,k1_ + 1,xs1_ ++ [.int .i64 aS,.slice aX aT.length aY,.bool aU,.slice aZ aV.length ba,.slice bd aW.length bf]⟩:=by rw [qcK (by rw [hT1_.xslen,List.length_take,qcc]; omega)]
  obtain ⟨da,bw⟩:=fm.rowEq 1 [brow ac ae 5 ((D.f 0).o),⟨ao,az,37,5,k1_ + 1,xs1_ ++ [.int .i64 aS,.slice aX aT.length aY,.bool aU,.slice aZ aV.length ba,.slice bd aW.length bf]⟩,⟨some ⟨dv,0,none⟩,1,37,5,1,[.int .i64 0,.slice none 0 0,.bool false,.slice none 0 0,.slice none 0 0]⟩] fq
  refine qah ?_
  refine qas ?_
  refine qac ?_
  refine qaq [0,1] kz ?_
  refine qal [0,1] [] [(0,.p 0 0),(2,.p 1 0),(3,.p 3 0),(29,.v (.int .i64 (((D.f 1).l:Nat):Int))),(30,.v (.int .i64 (IntKind.i64.wrap (((k1_:Nat):Int) + 1))))] da fo fun js fr=>?_
  refine qah (qac ?_)
  obtain ⟨db,ft,bx⟩:=da.cutB fr 4 [⟨b,o,[qaa ((D.f 0).o.getD 0 0),qaa ((D.f 0).o.getD 1 0),qaa ((D.f 0).o.getD 2 0),qaa ((D.f 0).o.getD 3 0),qaa ((D.f 0).o.getD 4 0),qaa ((D.f 0).o.getD 5 0),qaa ((D.f 0).o.getD 6 0),qaa ((D.f 0).o.getD 7 0),qaa ((D.f 0).o.getD 8 0),qaa ((D.f 0).o.getD 9 0),qaa ((D.f 0).o.getD 10 0),qaa ((D.f 0).o.getD 11 0),qaa ((D.f 0).o.getD 12 0),qaa ((D.f 0).o.getD 13 0),qaa ((D.f 0).o.getD 14 0),qaa ((D.f 0).o.getD 15 0),.slice ((D.f 1).A) ((D.f 1).l) ((D.f 1).c),.map D.m],false⟩,⟨b5,0,[.int .i64 0,.slice none 0 0,.bool false,.slice none 0 0,.slice none 0 0],true⟩,⟨aa,0,[.int .i64 0,.slice ac (((D.f 0).o).length) ae,.bool false,.slice none 0 0,.slice none 0 0,.int .i64 0,.slice none 0 0,.bool (((D.f 1).A).isNone),.slice ao (k1_ + 1) az,.slice none 0 0],true⟩,⟨bB,0,[.int .i64 0,.slice none 0 0,.bool false,.slice (some ⟨aa,0,none⟩) 2 2,.slice none 0 0],true⟩] [(0,.p 0 0),(2,.p 1 0),(3,.p 3 0),(29,.v (.int .i64 (((D.f 1).l:Nat):Int))),(30,.v (.int .i64 (IntKind.i64.wrap (((k1_:Nat):Int) + 1))))]
  obtain ⟨fu,bz⟩:=ft.cutR 2 [brow ac ae 5 ((D.f 0).o),⟨ao,az,37,5,k1_ + 1,xs1_ ++ [.int .i64 aS,.slice aX aT.length aY,.bool aU,.slice aZ aV.length ba,.slice bd aW.length bf]⟩]
  have fv:IntKind.i64.wrap (((k1_:Nat):Int) + 1) = ((k1_ + 1:Nat):Int):=qaX (by omega)
  rw [fv] at db
  exact ⟨(D.f 1).l - (k1_ + 1),by omega,k1_ + 1,ao,az,xs1_ ++ [Value.int .i64 aS,.slice aX aT.length aY,.bool aU,.slice aZ aV.length ba,.slice bd aW.length bf],(css1_ ++ [[Value.int .i64 aS,.slice aX aT.length aY,.bool aU,.slice aZ aV.length ba,.slice bd aW.length bf]]),rfl,by omega,by rw [qco (by omega)]; exact (hT1_.move ((((((((((((af.trans ab).trans ag).trans ai).trans aF).trans ay).trans aG).trans aA).trans bt).trans bu).trans bw).trans bx).trans bz).step immM ((((((((((((af.trans ab).trans ag).trans ai).trans aF).trans ay).trans aG).trans aA).trans bt).trans bu).trans bw).trans bx).trans bz).to').snoc (x:=(fun i=>qaG ((D.f 1).f i)) k1_) (cC.move (((((aA.trans bt).trans bu).trans bw).trans bx).trans bz).step immM (((((aA.trans bt).trans bu).trans bw).trans bx).trans bz).to'),db.pk,fu,(((((((((((((dp.trans af).trans ab).trans ag).trans ai).trans aF).trans ay).trans aG).trans aA).trans bt).trans bu).trans bw).trans bx).trans bz)⟩
 have gY:=of_decide_eq_false dr
 refine wp_exit ?_
 refine qaz ?_
 refine qaz ?_
 refine qaT ?_
 refine qac ?_
 refine qaf [0,1,2,3,4] kz ?_
 refine qal [0,1,2] [3,4] [(2,.p 1 0),(3,.p 3 0),(74,.p 0 17)] aB dq fun jt fw=>?_
 refine qan (qew fw (v:=.func (.func 132) #[] #[.pointer (some ⟨bB,0,none⟩)]) (d:=75) kz fun ju fx=>?_)
 refine qan (qam fx (f:=64) (vs:=[.pointer (some ⟨b,o + 17,none⟩),.func (.func 132) #[] #[.pointer (some ⟨bB,0,none⟩)]]) (d:=76) kz Tryz.call64 (qeF (F:=(Imm F w ii [⟨b,o,[qaa ((D.f 0).o.getD 0 0),qaa ((D.f 0).o.getD 1 0),qaa ((D.f 0).o.getD 2 0),qaa ((D.f 0).o.getD 3 0),qaa ((D.f 0).o.getD 4 0),qaa ((D.f 0).o.getD 5 0),qaa ((D.f 0).o.getD 6 0),qaa ((D.f 0).o.getD 7 0),qaa ((D.f 0).o.getD 8 0),qaa ((D.f 0).o.getD 9 0),qaa ((D.f 0).o.getD 10 0),qaa ((D.f 0).o.getD 11 0),qaa ((D.f 0).o.getD 12 0),qaa ((D.f 0).o.getD 13 0),qaa ((D.f 0).o.getD 14 0),qaa ((D.f 0).o.getD 15 0),.slice ((D.f 1).A) ((D.f 1).l) ((D.f 1).c),.map D.m],false⟩,⟨b5,0,[.int .i64 0,.slice none 0 0,.bool false,.slice none 0 0,.slice none 0 0],true⟩,⟨aa,0,[.int .i64 0,.slice ac (((D.f 0).o).length) ae,.bool false,.slice none 0 0,.slice none 0 0,.int .i64 0,.slice none 0 0,.bool (((D.f 1).A).isNone),.slice A1_ k1_ c1_,.slice none 0 0],true⟩,⟨bB,0,[.int .i64 0,.slice none 0 0,.bool false,.slice (some ⟨aa,0,none⟩) 2 2,.slice none 0 0],true⟩] [brow ac ae 5 ((D.f 0).o),⟨A1_,c1_,37,5,k1_,xs1_⟩])) Tryz.call132 qb4 ((hat.one 17 rfl).move aB.step nilM aB.imm) (g3.move aB.step nilM aB.imm) (Str.of aB 3 rfl) (qjw 3 rfl) g3l) ?_)
 rintro e_ jv ⟨rfl,aC,aD,dw,fy,fz⟩
 obtain ⟨cG,dc,fA⟩:=aB.wrote 3 [⟨b,o,[qaa ((D.f 0).o.getD 0 0),qaa ((D.f 0).o.getD 1 0),qaa ((D.f 0).o.getD 2 0),qaa ((D.f 0).o.getD 3 0),qaa ((D.f 0).o.getD 4 0),qaa ((D.f 0).o.getD 5 0),qaa ((D.f 0).o.getD 6 0),qaa ((D.f 0).o.getD 7 0),qaa ((D.f 0).o.getD 8 0),qaa ((D.f 0).o.getD 9 0),qaa ((D.f 0).o.getD 10 0),qaa ((D.f 0).o.getD 11 0),qaa ((D.f 0).o.getD 12 0),qaa ((D.f 0).o.getD 13 0),qaa ((D.f 0).o.getD 14 0),qaa ((D.f 0).o.getD 15 0),.slice ((D.f 1).A) ((D.f 1).l) ((D.f 1).c),.map D.m],false⟩,⟨b5,0,[.int .i64 0,.slice none 0 0,.bool false,.slice none 0 0,.slice none 0 0],true⟩,⟨aa,0,[.int .i64 0,.slice ac (((D.f 0).o).length) ae,.bool false,.slice none 0 0,.slice none 0 0,.int .i64 0,.slice none 0 0,.bool (((D.f 1).A).isNone),.slice A1_ k1_ c1_,.slice none 0 0],true⟩,⟨bB,0,[.int .i64 0,.slice none 0 0,.bool false,.slice (some ⟨aa,0,none⟩) 2 2,.slice aC D.u.length aD],true⟩] rfl fz dw
 have de:=fy.move (Step.refl _ Nil) nilM (fun b_ o_ h_ hb_=>fA (G:=F) b_ o_ (.inr h_) hb_)
 refine ⟨_,rfl,fun jw fB=>?_⟩
 have fC:=(EnvOk.places (tb':=[⟨b,o,[qaa ((D.f 0).o.getD 0 0),qaa ((D.f 0).o.getD 1 0),qaa ((D.f 0).o.getD 2 0),qaa ((D.f 0).o.getD 3 0),qaa ((D.f 0).o.getD 4 0),qaa ((D.f 0).o.getD 5 0),qaa ((D.f 0).o.getD 6 0),qaa ((D.f 0).o.getD 7 0),qaa ((D.f 0).o.getD 8 0),qaa ((D.f 0).o.getD 9 0),qaa ((D.f 0).o.getD 10 0),qaa ((D.f 0).o.getD 11 0),qaa ((D.f 0).o.getD 12 0),qaa ((D.f 0).o.getD 13 0),qaa ((D.f 0).o.getD 14 0),qaa ((D.f 0).o.getD 15 0),.slice ((D.f 1).A) ((D.f 1).l) ((D.f 1).c),.map D.m],false⟩,⟨b5,0,[.int .i64 0,.slice none 0 0,.bool false,.slice none 0 0,.slice none 0 0],true⟩,⟨aa,0,[.int .i64 0,.slice ac (((D.f 0).o).length) ae,.bool false,.slice none 0 0,.slice none 0 0,.int .i64 0,.slice none 0 0,.bool (((D.f 1).A).isNone),.slice A1_ k1_ c1_,.slice none 0 0],true⟩,⟨bB,0,[.int .i64 0,.slice none 0 0,.bool false,.slice (some ⟨aa,0,none⟩) 2 2,.slice aC D.u.length aD],true⟩]) fB (show Pl [⟨b,o,[qaa ((D.f 0).o.getD 0 0),qaa ((D.f 0).o.getD 1 0),qaa ((D.f 0).o.getD 2 0),qaa ((D.f 0).o.getD 3 0),qaa ((D.f 0).o.getD 4 0),qaa ((D.f 0).o.getD 5 0),qaa ((D.f 0).o.getD 6 0),qaa ((D.f 0).o.getD 7 0),qaa ((D.f 0).o.getD 8 0),qaa ((D.f 0).o.getD 9 0),qaa ((D.f 0).o.getD 10 0),qaa ((D.f 0).o.getD 11 0),qaa ((D.f 0).o.getD 12 0),qaa ((D.f 0).o.getD 13 0),qaa ((D.f 0).o.getD 14 0),qaa ((D.f 0).o.getD 15 0),.slice ((D.f 1).A) ((D.f 1).l) ((D.f 1).c),.map D.m],false⟩,⟨b5,0,[.int .i64 0,.slice none 0 0,.bool false,.slice none 0 0,.slice none 0 0],true⟩,⟨aa,0,[.int .i64 0,.slice ac (((D.f 0).o).length) ae,.bool false,.slice none 0 0,.slice none 0 0,.int .i64 0,.slice none 0 0,.bool (((D.f 1).A).isNone),.slice A1_ k1_ c1_,.slice none 0 0],true⟩,⟨bB,0,[.int .i64 0,.slice none 0 0,.bool false,.slice (some ⟨aa,0,none⟩) 2 2,.slice none 0 0],true⟩] [⟨b,o,[qaa ((D.f 0).o.getD 0 0),qaa ((D.f 0).o.getD 1 0),qaa ((D.f 0).o.getD 2 0),qaa ((D.f 0).o.getD 3 0),qaa ((D.f 0).o.getD 4 0),qaa ((D.f 0).o.getD 5 0),qaa ((D.f 0).o.getD 6 0),qaa ((D.f 0).o.getD 7 0),qaa ((D.f 0).o.getD 8 0),qaa ((D.f 0).o.getD 9 0),qaa ((D.f 0).o.getD 10 0),qaa ((D.f 0).o.getD 11 0),qaa ((D.f 0).o.getD 12 0),qaa ((D.f 0).o.getD 13 0),qaa ((D.f 0).o.getD 14 0),qaa ((D.f 0).o.getD 15 0),.slice ((D.f 1).A) ((D.f 1).l) ((D.f 1).c),.map D.m],false⟩,⟨b5,0,[.int .i64 0,.slice none 0 0,.bool false,.slice none 0 0,.slice none 0 0],true⟩,⟨aa,0,[.int .i64 0,.slice ac (((D.f 0).o).length) ae,.bool false,.slice none 0 0,.slice none 0 0,.int .i64 0,.slice none 0 0,.bool (((D.f 1).A).isNone),.slice A1_ k1_ c1_,.slice none 0 0],true⟩,⟨bB,0,[.int .i64 0,.slice none 0 0,.bool false,.slice (some ⟨aa,0,none⟩) 2 2,.slice aC D.u.length aD],true⟩] from ⟨rfl,rfl,⟨rfl,rfl,⟨rfl,rfl,⟨rfl,rfl,trivial⟩⟩⟩⟩)).pk (env':=[(76,.v (.tuple #[])),(2,.p 1 0),(3,.p 3 0),(74,.p 0 17),(75,.v (.func (.func 132) #[] #[.pointer (some ⟨bB,0,none⟩)]))])
 refine qah (qac ?_)
 refine qaf [0,1,2] kz ?_
 refine qal [0,1] [2] [(2,.p 1 0),(3,.p 3 0),(78,.v (.slice aC D.u.length aD))] cG fC fun jx fD=>?_
 refine qan (qam fD (f:=66) (vs:=[.slice aC D.u.length aD]) (d:=79) kz Tryz.call66 (qgo de g3.sorted) ?_)
 rintro e_ jy ⟨rfl,df⟩
 refine ⟨_,rfl,fun jz fE=>?_⟩
 have dg:=cG.next_nil df
 have bJ:=cG.frN df
 refine qah (qac ?_)
 refine qaf [0,1] kz ?_
 refine qal [0] [1] [(2,.p 1 0),(80,.v (.agg #[.int .i64 0,.slice none 0 0,.bool false,.slice (some ⟨aa,0,none⟩) 2 2,.slice aC D.u.length aD]))] dg fE fun jA fF=>?_
 refine qan (qav dg fF (oi:=1) (cs:=[.int .i64 0,.slice none 0 0,.bool false,.slice (some ⟨aa,0,none⟩) 2 2,.slice aC D.u.length aD]) kz fun gD bK bA fG=>?_)
 refine qah (qac ?_)
 refine wp_ret ?_
 refine qaS fG bA.cells (v:=.agg #[.int .i64 0,.slice none 0 0,.bool false,.slice (some ⟨aa,0,none⟩) 2 2,.slice aC D.u.length aD]) kz ?_
 have dh:=(hT1_.move ((dc.trans bJ).trans bK).step immM ((dc.trans bJ).trans bK).to')
 rw [qgn (by omega)] at dh
 exact qff (u:=D.u) (l:=[.mk 0 (D.f 0).o false [] [],.mk 0 [] (D.f 1).A.isNone ((List.range (D.f 1).l).map fun i=>qaG ((D.f 1).f i)) []]) (css:=[[.int .i64 0,.slice ac (((D.f 0).o).length) ae,.bool false,.slice none 0 0,.slice none 0 0],[.int .i64 0,.slice none 0 0,.bool (((D.f 1).A).isNone),.slice A1_ k1_ c1_,.slice none 0 0]]) bA 2 rfl ⟨TreeR.mk (n:=0) (b:=false) (l:=[]) (u:=[]) (fun _=>[]) (qck (bA.own 0 _ rfl) (by rw [g1]; decide) (qgP (F:=F) bA (k:=0) rfl)) (Slots.nil _ _ 5 _) (fun _ _ h_=>by simp at h_) (TagsR.nil _ _),qfE bA (k:=1) rfl dh (by rw [qcc]; omega) (by rw [qcc]; omega),trivial⟩ ((show TagsR _ (Imm F w gD [⟨b,o,[qaa ((D.f 0).o.getD 0 0),qaa ((D.f 0).o.getD 1 0),qaa ((D.f 0).o.getD 2 0),qaa ((D.f 0).o.getD 3 0),qaa ((D.f 0).o.getD 4 0),qaa ((D.f 0).o.getD 5 0),qaa ((D.f 0).o.getD 6 0),qaa ((D.f 0).o.getD 7 0),qaa ((D.f 0).o.getD 8 0),qaa ((D.f 0).o.getD 9 0),qaa ((D.f 0).o.getD 10 0),qaa ((D.f 0).o.getD 11 0),qaa ((D.f 0).o.getD 12 0),qaa ((D.f 0).o.getD 13 0),qaa ((D.f 0).o.getD 14 0),qaa ((D.f 0).o.getD 15 0),.slice ((D.f 1).A) ((D.f 1).l) ((D.f 1).c),.map D.m],false⟩,⟨b5,0,[.int .i64 0,.slice none 0 0,.bool false,.slice (some ⟨aa,0,none⟩) 2 2,.slice aC D.u.length aD],true⟩,⟨aa,0,[.int .i64 0,.slice ac (((D.f 0).o).length) ae,.bool false,.slice none 0 0,.slice none 0 0,.int .i64 0,.slice none 0 0,.bool (((D.f 1).A).isNone),.slice A1_ k1_ c1_,.slice none 0 0],true⟩,⟨bB,0,[.int .i64 0,.slice none 0 0,.bool false,.slice (some ⟨aa,0,none⟩) 2 2,.slice aC D.u.length aD],true⟩] [brow ac ae 5 ((D.f 0).o),⟨A1_,c1_,37,5,k1_,xs1_⟩]) _ _ _ from (de.move (bJ.trans bK).step immM (bJ.trans bK).to')).move (Step.refl _ Nil) nilM qc1)
set_option maxHeartbeats 4000000 in
theorem qbw (v:Int) (D:DV) (b o:Nat) (w:World) (F:Nat → Nat → Prop) (hat:AtF w F b o [qaa ((D.f 0).o.getD 0 0),qaa ((D.f 0).o.getD 1 0),qaa ((D.f 0).o.getD 2 0),qaa ((D.f 0).o.getD 3 0),qaa ((D.f 0).o.getD 4 0),qaa ((D.f 0).o.getD 5 0),qaa ((D.f 0).o.getD 6 0),qaa ((D.f 0).o.getD 7 0),qaa ((D.f 0).o.getD 8 0),qaa ((D.f 0).o.getD 9 0),qaa ((D.f 0).o.getD 10 0),qaa ((D.f 0).o.getD 11 0),qaa ((D.f 0).o.getD 12 0),qaa ((D.f 0).o.getD 13 0),qaa ((D.f 0).o.getD 14 0),qaa ((D.f 0).o.getD 15 0),.slice ((D.f 1).A) ((D.f 1).l) ((D.f 1).c),.map D.m]) (hok:qaV w F D):Calls Tryz.prog 63 #[.pointer (some ⟨b,o,none⟩)] w (qeW w F (qaW D)):=by
 refine enter (n:=81) Tryz.func63 rfl Tryz.ntmps63 kz fun a hE=>?_
 have hW:WOk w Nil w [⟨b,o,[qaa ((D.f 0).o.getD 0 0),qaa ((D.f 0).o.getD 1 0),qaa ((D.f 0).o.getD 2 0),qaa ((D.f 0).o.getD 3 0),qaa ((D.f 0).o.getD 4 0),qaa ((D.f 0).o.getD 5 0),qaa ((D.f 0).o.getD 6 0),qaa ((D.f 0).o.getD 7 0),qaa ((D.f 0).o.getD 8 0),qaa ((D.f 0).o.getD 9 0),qaa ((D.f 0).o.getD 10 0),qaa ((D.f 0).o.getD 11 0),qaa ((D.f 0).o.getD 12 0),qaa ((D.f 0).o.getD 13 0),qaa ((D.f 0).o.getD 14 0),qaa ((D.f 0).o.getD 15 0),.slice ((D.f 1).A) ((D.f 1).l) ((D.f 1).c),.map D.m],false⟩] []:=(WOk.start w Nil).start1 hat rfl rfl
 unfold qaV at hok
 obtain ⟨g1,⟨g2,g2l,g2e⟩,g3,g3l,g3x,_⟩:=hok
 have hE0:=(EnvOk.ptr0 (cs:=[qaa ((D.f 0).o.getD 0 0),qaa ((D.f 0).o.getD 1 0),qaa ((D.f 0).o.getD 2 0),qaa ((D.f 0).o.getD 3 0),qaa ((D.f 0).o.getD 4 0),qaa ((D.f 0).o.getD 5 0),qaa ((D.f 0).o.getD 6 0),qaa ((D.f 0).o.getD 7 0),qaa ((D.f 0).o.getD 8 0),qaa ((D.f 0).o.getD 9 0),qaa ((D.f 0).o.getD 10 0),qaa ((D.f 0).o.getD 11 0),qaa ((D.f 0).o.getD 12 0),qaa ((D.f 0).o.getD 13 0),qaa ((D.f 0).o.getD 14 0),qaa ((D.f 0).o.getD 15 0),.slice ((D.f 1).A) ((D.f 1).l) ((D.f 1).c),.map D.m]) (r:=false) hE).pk (env':=[(0,.p 0 0)])
 have hu4:=qkw (k:=0) (s:=(D.f 0).o) hat g1 (fun j hj=>by match j,hj with | 0,_=>rfl | 1,_=>rfl | 2,_=>rfl | 3,_=>rfl | 4,_=>rfl | 5,_=>rfl | 6,_=>rfl | 7,_=>rfl | 8,_=>rfl | 9,_=>rfl | 10,_=>rfl | 11,_=>rfl | 12,_=>rfl | 13,_=>rfl | 14,_=>rfl | 15,_=>rfl | n_ + 16,h_=>exact absurd h_ (by omega))
 refine qaf [0] kz ?_
 refine qan (qaZ hW hE0 (d:=2) (cs:=[.int .i64 0,.slice none 0 0,.bool false,.slice none 0 0,.slice none 0 0]) kz fun b5 a6 w7 hb8 hz9 gZ fH fI=>?_)
 refine qah (qac ?_)
 refine qaf [0,1,2,3] kz ?_
 refine qan (qd5 (t:=34) (e:=37) (size:=5) (bytes:=88) (d:=5) (j:=2) (.agg #[.int .i64 0,.slice none 0 0,.bool false,.slice none 0 0,.slice none 0 0]) [.int .i64 0,.slice none 0 0,.bool false,.slice none 0 0,.slice none 0 0,.int .i64 0,.slice none 0 0,.bool false,.slice none 0 0,.slice none 0 0] fH fI fun aa jB jC g6 g7 g8 dx fJ=>?_)
 refine qal [1] [2,3] [(0,.p 0 0),(2,.p 1 0),(6,.v (.agg #[.int .i64 0,.slice none 0 0,.bool false,.slice (some ⟨aa,0,none⟩) 2 2,.slice none 0 0]))] dx fJ fun jD fK=>?_
 refine qan (qaZ dx fK (d:=3) (cs:=[.int .i64 0,.slice none 0 0,.bool false,.slice none 0 0,.slice none 0 0]) kz fun bB jE jF g9 hC hJ fL fM=>?_)
 refine qan (qav fL fM (oi:=3) (cs:=[.int .i64 0,.slice none 0 0,.bool false,.slice (some ⟨aa,0,none⟩) 2 2,.slice none 0 0]) kz fun jG hK fN fO=>?_)
 refine qah (qac ?_)
 refine qaM 9 kz fN fun jH hZ dy fP=>?_
 refine qaI [0,1,2,3,4,5] [(0,.p 0 0),(2,.p 1 0),(3,.p 3 0),(8,.v (.slice (some ⟨aa,0,none⟩) 2 2)),(12,.v (.slice (some ⟨b,o,none⟩) 16 16))] 4 (qab qag) (fun _ h=>h.cells) fP fO fun jI fQ=>?_
 have bY:=dy.addNil 5 1
 have fR:=dy.frNil 5 1
 refine qau (i:=6) kz (qaY bY fQ (k:=0) (d:=13) (t:=22) (e:=5) (size:=1) (bytes:=1) (A:=none) (As:=(some ⟨b,o,none⟩)) (m0:=0) (c:=0) (m:=16) (cs:=16) (xs:=[]) (news:=bc ((D.f 0).o)) kz kz rfl (hu4.move bY.step nilM bY.imm).src (hu4.move bY.step nilM bY.imm).cap (by omega) fun ac ae jJ jK fS fT fU=>?_)
 have fV:(⟨ac,ae,5,1,0 + 16,[] ++ bc ((D.f 0).o)⟩:Rw) = brow ac ae 5 ((D.f 0).o):=by rw [List.nil_append]; unfold brow; rw [g1]
 obtain ⟨dz,fW⟩:=fT.rowEq 0 [brow ac ae 5 ((D.f 0).o)] fV
 have fX:=EnvOk.pick fU (ks:=[0,2,3,8,12,13]) (env':=[(0,.p 0 0),(2,.p 1 0),(3,.p 3 0),(8,.v (.slice (some ⟨aa,0,none⟩) 2 2)),(12,.v (.slice (some ⟨b,o,none⟩) 16 16)),(13,.v (.slice ac (0 + 16) ae))]) kz
 have fY:=fX.cast (env':=[(0,.p 0 0),(2,.p 1 0),(3,.p 3 0),(8,.v (.slice (some ⟨aa,0,none⟩) 2 2)),(12,.v (.slice (some ⟨b,o,none⟩) 16 16)),(13,.v (.slice ac (((D.f 0).o).length) ae))]) (by rw [g1])
 have di:=TT.ofW ((fR.trans fS).trans fW) dz
 refine ⟨fun _=>di,?_⟩
 refine qaI [7] [(0,.p 0 0),(2,.p 1 0),(3,.p 3 0),(8,.v (.slice (some ⟨aa,0,none⟩) 2 2)),(14,.v (.agg #[.int .i64 0,.slice ac (((D.f 0).o).length) ae,.bool false,.slice none 0 0,.slice none 0 0]))] 2 (qab qag) (fun _ h=>h.cells) di fY fun jL fZ=>?_
 refine qaR fZ (i:=8) (t:=34) (A:=(some ⟨aa,0,none⟩)) (m:=2) (q:=0) (d:=15) kz (e:=37) (size:=5) (bytes:=88) (j:=0) kz (b:=aa) (o:=0) rfl rfl (by decide) kz kz (qab qag) di fun jM f5=>?_
 have f7:=f5.recast 15 (.v (.pointer (some ⟨aa,0 + 0 * 5,none⟩))) (.p 2 0) rfl rfl (Nat.le_of_ble_eq_true (n:=3) rfl)
 have f8:=f7.pk (env':=[(0,.p 0 0),(2,.p 1 0),(3,.p 3 0),(8,.v (.slice (some ⟨aa,0,none⟩) 2 2)),(14,.v (.agg #[.int .i64 0,.slice ac (((D.f 0).o).length) ae,.bool false,.slice none 0 0,.slice none 0 0])),(15,.p 2 0)])
 refine qau (i:=9) kz (qav dz f8 (oi:=2) (cs:=[.int .i64 0,.slice ac (((D.f 0).o).length) ae,.bool false,.slice none 0 0,.slice none 0 0,.int .i64 0,.slice none 0 0,.bool false,.slice none 0 0,.slice none 0 0]) kz fun jN ia f9 ga=>?_)
 refine ⟨fun h=>absurd rfl h,?_⟩
 refine qaH kz ?_ _
 refine qac ?_
 refine qaM 9 kz f9 fun jO ib gb dj=>?_
 refine qaI [0,1,2,3,4,5,6] [(0,.p 0 0),(2,.p 1 0),(3,.p 3 0),(17,.v (.slice (some ⟨aa,0,none⟩) 2 2)),(22,.v (.bool (((D.f 1).A).isNone)))] 3 (qab qag) (fun _ h=>h.cells) dj ga fun jP gc=>?_
 refine qau (i:=7) kz (qaC gc (t:=34) (A:=(some ⟨aa,0,none⟩)) (m:=2) (q:=1) (d:=23) kz (e:=37) (size:=5) (bytes:=88) (j:=1) kz (b:=aa) (o:=0) rfl rfl (by decide) fun jQ gd=>?_)
 have ge:=gd.recast 23 (.v (.pointer (some ⟨aa,0 + 1 * 5,none⟩))) (.p 2 5) rfl rfl (Nat.le_of_ble_eq_true (n:=3) rfl)
 have gg:=ge.pk (env':=[(0,.p 0 0),(2,.p 1 0),(3,.p 3 0),(17,.v (.slice (some ⟨aa,0,none⟩) 2 2)),(22,.v (.bool (((D.f 1).A).isNone))),(23,.p 2 5)])
 refine ⟨fun _=>dj,?_⟩
 refine qaI [8] [(0,.p 0 0),(2,.p 1 0),(3,.p 3 0),(22,.v (.bool (((D.f 1).A).isNone))),(24,.p 2 7)] 1 (qab qag) (fun _ h=>h.cells) dj gg fun jR gh=>?_
 refine qau (i:=9) kz (qav gb gh (oi:=2) (cs:=[.int .i64 0,.slice ac (((D.f 0).o).length) ae,.bool false,.slice none 0 0,.slice none 0 0,.int .i64 0,.slice none 0 0,.bool (((D.f 1).A).isNone),.slice none 0 0,.slice none 0 0]) kz fun jS ic dl gi=>?_)
 refine ⟨fun h=>absurd rfl h,?_⟩
 refine qaH kz ?_ _
 refine qac ?_
 refine wp_seq ?_
 refine qar [(0,.p 0 0),(2,.p 1 0),(3,.p 3 0),(29,.v (.int .i64 (((D.f 1).l:Nat):Int))),(30,.v (.int .i64 0))] dl gi fun jT gj=>?_
 refine wp_block ?_
 have dA:=dl.addNil 37 5
 have ig:=dl.frNil 37 5
 refine wp_loop_ghost (fun n_ a_ w_=>∃ (k1_:Nat) (A1_:Option Addr) (c1_:Nat) (xs1_:List Value) (css1_:List (List Value)),n_ = (D.f 1).l - k1_ ∧ k1_ ≤ (D.f 1).l ∧ (Trees w_ (Imm F w w_ [⟨b,o,[qaa ((D.f 0).o.getD 0 0),qaa ((D.f 0).o.getD 1 0),qaa ((D.f 0).o.getD 2 0),qaa ((D.f 0).o.getD 3 0),qaa ((D.f 0).o.getD 4 0),qaa ((D.f 0).o.getD 5 0),qaa ((D.f 0).o.getD 6 0),qaa ((D.f 0).o.getD 7 0),qaa ((D.f 0).o.getD 8 0),qaa ((D.f 0).o.getD 9 0),qaa ((D.f 0).o.getD 10 0),qaa ((D.f 0).o.getD 11 0),qaa ((D.f 0).o.getD 12 0),qaa ((D.f 0).o.getD 13 0),qaa ((D.f 0).o.getD 14 0),qaa ((D.f 0).o.getD 15 0),.slice ((D.f 1).A) ((D.f 1).l) ((D.f 1).c),.map D.m],false⟩,⟨b5,0,[.int .i64 0,.slice none 0 0,.bool false,.slice none 0 0,.slice none 0 0],true⟩,⟨aa,0,[.int .i64 0,.slice ac (((D.f 0).o).length) ae,.bool false,.slice none 0 0,.slice none 0 0,.int .i64 0,.slice none 0 0,.bool (((D.f 1).A).isNone),.slice A1_ k1_ c1_,.slice none 0 0],true⟩,⟨bB,0,[.int .i64 0,.slice none 0 0,.bool false,.slice (some ⟨aa,0,none⟩) 2 2,.slice none 0 0],true⟩] [brow ac ae 5 ((D.f 0).o),⟨A1_,c1_,37,5,k1_,xs1_⟩]) xs1_ (((List.range (D.f 1).l).map (fun i=>qaO ((D.f 1).f i))).take k1_) css1_) ∧ LInv dA 81 [⟨b,o,[qaa ((D.f 0).o.getD 0 0),qaa ((D.f 0).o.getD 1 0),qaa ((D.f 0).o.getD 2 0),qaa ((D.f 0).o.getD 3 0),qaa ((D.f 0).o.getD 4 0),qaa ((D.f 0).o.getD 5 0),qaa ((D.f 0).o.getD 6 0),qaa ((D.f 0).o.getD 7 0),qaa ((D.f 0).o.getD 8 0),qaa ((D.f 0).o.getD 9 0),qaa ((D.f 0).o.getD 10 0),qaa ((D.f 0).o.getD 11 0),qaa ((D.f 0).o.getD 12 0),qaa ((D.f 0).o.getD 13 0),qaa ((D.f 0).o.getD 14 0),qaa ((D.f 0).o.getD 15 0),.slice ((D.f 1).A) ((D.f 1).l) ((D.f 1).c),.map D.m],false⟩,⟨b5,0,[.int .i64 0,.slice none 0 0,.bool false,.slice none 0 0,.slice none 0 0],true⟩,⟨aa,0,[.int .i64 0,.slice ac (((D.f 0).o).length) ae,.bool false,.slice none 0 0,.slice none 0 0,.int .i64 0,.slice none 0 0,.bool (((D.f 1).A).isNone),.slice A1_ k1_ c1_,.slice none 0 0],true⟩,⟨bB,0,[.int .i64 0,.slice none 0 0,.bool false,.slice (some ⟨aa,0,none⟩) 2 2,.slice none 0 0],true⟩] [brow ac ae 5 ((D.f 0).o),⟨A1_,c1_,37,5,k1_,xs1_⟩] [(0,.p 0 0),(2,.p 1 0),(3,.p 3 0),(29,.v (.int .i64 (((D.f 1).l:Nat):Int))),(30,.v (.int .i64 ((k1_:Nat):Int)))] a_ w_) ((D.f 1).l) ⟨0,none,0,[],[],by omega,by omega,Trees.nil _ _,gj.pk,dA,Fr.refl _ _ _⟩ ?_
 rintro jU jV ii ⟨k1_,A1_,c1_,xs1_,css1_,ij,ik,hT1_,gk,aB,dp⟩
 refine qar [(0,.p 0 0),(2,.p 1 0),(3,.p 3 0),(29,.v (.int .i64 (((D.f 1).l:Nat):Int))),(30,.v (.int .i64 ((k1_:Nat):Int))),(31,.v (.bool (decide (((k1_:Nat):Int) < (((D.f 1).l:Nat):Int)))))] aB gk fun jW dq=>?_
 refine wp_seq ?_
 refine qax dq (b:=decide (((k1_:Nat):Int) < (((D.f 1).l:Nat):Int))) kz (fun dr=>?_) (fun dr=>?_)
 ·
  have il:=of_decide_eq_true dr
  refine wp_skip ?_
  refine qac ?_
  refine wp_seq ?_
  refine wp_block ?_
  refine qar [(0,.p 0 0),(2,.p 1 0),(3,.p 3 0),(4,.v (.int .i64 ((k1_:Nat):Int))),(29,.v (.int .i64 (((D.f 1).l:Nat):Int))),(30,.v (.int .i64 ((k1_:Nat):Int)))] aB dq fun jX dB=>?_
  refine qaM 4 kz aB fun im af dC gE=>?_
  refine qau (i:=0) kz (qaZ dC dB (d:=33) (cs:=[.bool false]) kz fun io ip iq gF gG ab bZ cJ=>?_)
  have dD:=TT.ofW ab bZ
  refine ⟨fun _=>dD,?_⟩
  refine qdz (i:=1) (j:=2) kz ?_ ?_
  ·
   refine (qav bZ cJ (oi:=4) (cs:=[.bool true]) kz fun ir aE cK dE=>?_)
   have dF:=TT.ofW (ab.trans aE) cK
   refine ⟨fun _=>dF,?_⟩
   refine qau (i:=2) kz (qav cK dE (oi:=4) (cs:=[.bool false]) kz fun iu bg bC dG=>?_)
   have dH:=TT.ofW ((ab.trans aE).trans bg) bC
   refine ⟨fun _=>dH,?_⟩
   refine qau (i:=3) kz (qbo [0,2,3,4,29,30,34] bC.cells dG (env':=[(0,.p 0 0),(2,.p 1 0),(3,.p 3 0),(4,.v (.int .i64 ((k1_:Nat):Int))),(29,.v (.int .i64 (((D.f 1).l:Nat):Int))),(30,.v (.int .i64 ((k1_:Nat):Int))),(34,.v (.bool false))]) kz fun iv cL=>?_)
   have dI:=TT.ofW ((ab.trans aE).trans bg) bC
   refine ⟨fun _=>dI,?_⟩
   refine qaH kz ?_ _
   refine qac ?_
   refine qat cL (b:=false) kz rfl ?_
   refine qcO 18 kz bC fun iw b8 ap bD=>?_
   refine qaI [0,1,2,3,7,8,9,10,11] [(0,.p 0 0),(2,.p 1 0),(3,.p 3 0),(29,.v (.int .i64 (((D.f 1).l:Nat):Int))),(30,.v (.int .i64 ((k1_:Nat):Int))),(54,.v (.slice (some ⟨aa,0,none⟩) 2 2)),(56,.v (.slice (some ⟨aa,0,none⟩) 2 2)),(63,.v (.slice ((D.f 1).A) ((D.f 1).l) ((D.f 1).c))),(64,.v (.int .i64 ((k1_:Nat):Int)))] 10 (qae (qab (qab (qae (qab qag))))) (fun _ h=>h.cells) bD cL fun ix dJ=>?_
   refine qaR dJ (i:=4) (t:=34) (A:=(some ⟨aa,0,none⟩)) (m:=2) (q:=1) (d:=57) kz (e:=37) (size:=5) (bytes:=88) (j:=1) kz (b:=aa) (o:=0) rfl rfl (by decide) kz kz (qae (qab (qab (qae (qab qag))))) bD fun iy dK=>?_
   have dL:=dK.recast 57 (.v (.pointer (some ⟨aa,0 + 1 * 5,none⟩))) (.p 2 5) rfl rfl (Nat.le_of_ble_eq_true (n:=3) rfl)
   have dM:=dL.pk (env':=[(0,.p 0 0),(2,.p 1 0),(3,.p 3 0),(29,.v (.int .i64 (((D.f 1).l:Nat):Int))),(30,.v (.int .i64 ((k1_:Nat):Int))),(54,.v (.slice (some ⟨aa,0,none⟩) 2 2)),(56,.v (.slice (some ⟨aa,0,none⟩) 2 2)),(63,.v (.slice ((D.f 1).A) ((D.f 1).l) ((D.f 1).c))),(64,.v (.int .i64 ((k1_:Nat):Int))),(57,.p 2 5)])
   refine qaI [5,6] [(0,.p 0 0),(2,.p 1 0),(3,.p 3 0),(29,.v (.int .i64 (((D.f 1).l:Nat):Int))),(30,.v (.int .i64 ((k1_:Nat):Int))),(54,.v (.slice (some ⟨aa,0,none⟩) 2 2)),(59,.v (.slice A1_ k1_ c1_)),(63,.v (.slice ((D.f 1).A) ((D.f 1).l) ((D.f 1).c))),(64,.v (.int .i64 ((k1_:Nat):Int)))] 7 (qae (qab (qab (qae (qab qag))))) (fun _ h=>h.cells) bD dM fun iz dN=>?_
   obtain ⟨dO,dP,dQ,gH,dt⟩:=Slots.get g2 (i:=k1_) (by omega)
   refine qaR dN (i:=12) (t:=90) (A:=(D.f 1).A) (m:=((D.f 1).l)) (q:=((k1_:Nat):Int)) (d:=65) kz (e:=139) (size:=18) (bytes:=48) kz dQ rfl (by omega) kz kz (qae (qab (qab (qae (qab qag))))) bD fun iA dR=>?_
   refine qau (i:=13) kz (qam dR (f:=102) (vs:=[.pointer (some ⟨dO,dP + k1_ * 18,none⟩)]) (d:=66) kz Tryz.call102 (qbn 0 ((D.f 1).f k1_) _ _ _ _ (dt.move ap.step nilM ap.imm) (qaU _ ap.step nilM ap.imm (g2e k1_ (by omega)))) ?_)
   rintro e_ iB ⟨gI,rfl,dS,cd⟩
   have ce:=dS.move (Step.refl _ Nil) nilM (ap.laid (G:=F) cd)
   obtain ⟨bL,bM,bN,bO,bP,bQ,bR,bS,bT,bU,bV,gJ,gK,cm,gl,gm,iC,iD⟩:=ce.open_
   rw [cm] at ce
   have gn:=gl.small
   have gp:=gm.small
   rw [cm]
   refine ⟨_,rfl,fun iE dT=>?_⟩
   have cM:=ap.next_nil cd
   have ar:=ap.frN cd
   have dU:=TT.ofW ar cM
   refine ⟨fun _=>dU,?_⟩
   refine qau (i:=14) kz (qbA cM dT (e:=37) (size:=5) (len:=1) (cs:=[.int .i64 bL,.slice bQ bM.length bR,.bool bN,.slice bS bO.length bT,.slice bU bP.length bV]) (d:=67) kz kz fun dV iF iG gL gM ah bE dW=>?_)
   have dX:=TT.ofW (ar.trans ah) bE
   refine ⟨fun _=>dX,?_⟩
   refine qau (i:=15) kz (qaY bE dW (k:=1) (d:=68) (t:=34) (e:=37) (size:=5) (bytes:=88) (A:=A1_) (As:=(some ⟨dV,0,none⟩)) (m0:=k1_) (c:=c1_) (m:=1) (cs:=1) (xs:=xs1_) (news:=[.int .i64 bL,.slice bQ bM.length bR,.bool bN,.slice bS bO.length bT,.slice bU bP.length bV]) kz kz rfl (qbH (bE.own 2 _ rfl) (qbD kz)) (qbQ (bE.own 2 _ rfl)) (by omega) fun bW bX iH iI au cq dY=>?_)
   have dZ:=TT.ofW ((ar.trans ah).trans au) cq
   refine ⟨fun _=>dZ,?_⟩
   refine qau (i:=16) kz (qaC dY (t:=34) (A:=(some ⟨aa,0,none⟩)) (m:=2) (q:=1) (d:=69) kz (e:=37) (size:=5) (bytes:=88) (j:=1) kz (b:=aa) (o:=0) rfl rfl (by decide) fun iJ d5=>?_)
   have d6:=d5.recast 69 (.v (.pointer (some ⟨aa,0 + 1 * 5,none⟩))) (.p 2 5) rfl rfl (Nat.le_of_ble_eq_true (n:=3) rfl)
   have d7:=d6.pk (env':=[(0,.p 0 0),(2,.p 1 0),(3,.p 3 0),(29,.v (.int .i64 (((D.f 1).l:Nat):Int))),(30,.v (.int .i64 ((k1_:Nat):Int))),(54,.v (.slice (some ⟨aa,0,none⟩) 2 2)),(59,.v (.slice A1_ k1_ c1_)),(63,.v (.slice ((D.f 1).A) ((D.f 1).l) ((D.f 1).c))),(64,.v (.int .i64 ((k1_:Nat):Int))),(65,.v (.pointer (some ⟨dO,dP + k1_ * 18,none⟩))),(66,.v (.agg #[.int .i64 bL,.slice bQ bM.length bR,.bool bN,.slice bS bO.length bT,.slice bU bP.length bV])),(67,.v (.slice (some ⟨dV,0,none⟩) 1 1)),(68,.v (.slice bW (k1_ + 1) bX)),(69,.p 2 5)])
   have cN:=TT.ofW ((ar.trans ah).trans au) cq
   refine ⟨fun _=>cN,?_⟩
   refine qaI [17] [(0,.p 0 0),(2,.p 1 0),(3,.p 3 0),(29,.v (.int .i64 (((D.f 1).l:Nat):Int))),(30,.v (.int .i64 ((k1_:Nat):Int))),(68,.v (.slice bW (k1_ + 1) bX)),(70,.p 2 8)] 1 (qae (qab (qab (qae (qab qag))))) (fun _ h=>h.cells) cN d7 fun iK d8=>?_
   refine qau (i:=18) kz (qav cq d8 (oi:=2) (cs:=[.int .i64 0,.slice ac (((D.f 0).o).length) ae,.bool false,.slice none 0 0,.slice none 0 0,.int .i64 0,.slice none 0 0,.bool (((D.f 1).A).isNone),.slice bW (k1_ + 1) bX,.slice none 0 0]) kz fun iL bh cO d9=>?_)
   refine ⟨fun h=>absurd rfl h,?_⟩
   refine qaH kz ?_ _
   refine qas ?_
   refine qac ?_
   refine qaq [0,1] kz ?_
   refine qal [0,1] [] [(0,.p 0 0),(2,.p 1 0),(3,.p 3 0),(29,.v (.int .i64 (((D.f 1).l:Nat):Int))),(30,.v (.int .i64 (IntKind.i64.wrap (((k1_:Nat):Int) + 1))))] cO d9 fun iM ea=>?_
   refine qah (qac ?_)
   obtain ⟨cP,eb,bi⟩:=cO.cutB ea 4 [⟨b,o,[qaa ((D.f 0).o.getD 0 0),qaa ((D.f 0).o.getD 1 0),qaa ((D.f 0).o.getD 2 0),qaa ((D.f 0).o.getD 3 0),qaa ((D.f 0).o.getD 4 0),qaa ((D.f 0).o.getD 5 0),qaa ((D.f 0).o.getD 6 0),qaa ((D.f 0).o.getD 7 0),qaa ((D.f 0).o.getD 8 0),qaa ((D.f 0).o.getD 9 0),qaa ((D.f 0).o.getD 10 0),qaa ((D.f 0).o.getD 11 0),qaa ((D.f 0).o.getD 12 0),qaa ((D.f 0).o.getD 13 0),qaa ((D.f 0).o.getD 14 0),qaa ((D.f 0).o.getD 15 0),.slice ((D.f 1).A) ((D.f 1).l) ((D.f 1).c),.map D.m],false⟩,⟨b5,0,[.int .i64 0,.slice none 0 0,.bool false,.slice none 0 0,.slice none 0 0],true⟩,⟨aa,0,[.int .i64 0,.slice ac (((D.f 0).o).length) ae,.bool false,.slice none 0 0,.slice none 0 0,.int .i64 0,.slice none 0 0,.bool (((D.f 1).A).isNone),.slice bW (k1_ + 1) bX,.slice none 0 0],true⟩,⟨bB,0,[.int .i64 0,.slice none 0 0,.bool false,.slice (some ⟨aa,0,none⟩) 2 2,.slice none 0 0],true⟩] [(0,.p 0 0),(2,.p 1 0),(3,.p 3 0),(29,.v (.int .i64 (((D.f 1).l:Nat):Int))),(30,.v (.int .i64 (IntKind.i64.wrap (((k1_:Nat):Int) + 1))))]
   obtain ⟨ec,bj⟩:=eb.cutR 2 [brow ac ae 5 ((D.f 0).o),⟨bW,bX,37,5,k1_ + 1,xs1_ ++ [.int .i64 bL,.slice bQ bM.length bR,.bool bN,.slice bS bO.length bT,.slice bU bP.length bV]⟩]
   have ee:IntKind.i64.wrap (((k1_:Nat):Int) + 1) = ((k1_ + 1:Nat):Int):=qaX (by omega)
   rw [ee] at cP
   exact ⟨(D.f 1).l - (k1_ + 1),by omega,k1_ + 1,bW,bX,xs1_ ++ [Value.int .i64 bL,.slice bQ bM.length bR,.bool bN,.slice bS bO.length bT,.slice bU bP.length bV],(css1_ ++ [[Value.int .i64 bL,.slice bQ bM.length bR,.bool bN,.slice bS bO.length bT,.slice bU bP.length bV]]),rfl,by omega,by rw [qco (by omega)]; exact (hT1_.move ((((((((((af.trans ab).trans aE).trans bg).trans b8).trans ar).trans ah).trans au).trans bh).trans bi).trans bj).step immM ((((((((((af.trans ab).trans aE).trans bg).trans b8).trans ar).trans ah).trans au).trans bh).trans bi).trans bj).to').snoc (x:=(fun i=>qaO ((D.f 1).f i)) k1_) (ce.move ((((ah.trans au).trans bh).trans bi).trans bj).step immM ((((ah.trans au).trans bh).trans bi).trans bj).to'),cP.pk,ec,(((((((((((dp.trans af).trans ab).trans aE).trans bg).trans b8).trans ar).trans ah).trans au).trans bh).trans bi).trans bj)⟩
  refine (qav bZ cJ (oi:=4) (cs:=[.bool false]) kz fun iN ag cQ ef=>?_)
  have eg:=TT.ofW (ab.trans ag) cQ
  refine ⟨fun _=>eg,?_⟩
  refine qau (i:=1) kz (qav cQ ef (oi:=4) (cs:=[.bool true]) kz fun iO ai bF eh=>?_)
  have ei:=TT.ofW ((ab.trans ag).trans ai) bF
  refine ⟨fun _=>ei,?_⟩
  refine qau (i:=3) kz (qbo [0,2,3,4,29,30,34] bF.cells eh (env':=[(0,.p 0 0),(2,.p 1 0),(3,.p 3 0),(4,.v (.int .i64 ((k1_:Nat):Int))),(29,.v (.int .i64 (((D.f 1).l:Nat):Int))),(30,.v (.int .i64 ((k1_:Nat):Int))),(34,.v (.bool true))]) kz fun iP cR=>?_)
  have ej:=TT.ofW ((ab.trans ag).trans ai) bF
  refine ⟨fun _=>ej,?_⟩
  refine qaH kz ?_ _
  refine qac ?_
  refine qbf cR (b:=true) kz rfl ?_
  refine qaM 17 kz bF fun iQ aF aj bG=>?_
  refine qaI [0,1,5,6,7,8,9] [(0,.p 0 0),(2,.p 1 0),(3,.p 3 0),(29,.v (.int .i64 (((D.f 1).l:Nat):Int))),(30,.v (.int .i64 ((k1_:Nat):Int))),(36,.v (.slice (some ⟨aa,0,none⟩) 2 2)),(43,.v (.slice ((D.f 1).A) ((D.f 1).l) ((D.f 1).c))),(44,.v (.int .i64 ((k1_:Nat):Int)))] 11 (qab (qae (qab (qab (qae (qab qag)))))) (fun _ h=>h.cells) bG cR fun iR ek=>?_
  refine qaR ek (i:=2) (t:=34) (A:=(some ⟨aa,0,none⟩)) (m:=2) (q:=1) (d:=37) kz (e:=37) (size:=5) (bytes:=88) (j:=1) kz (b:=aa) (o:=0) rfl rfl (by decide) kz kz (qab (qae (qab (qab (qae (qab qag)))))) bG fun iS em=>?_
  have eo:=em.recast 37 (.v (.pointer (some ⟨aa,0 + 1 * 5,none⟩))) (.p 2 5) rfl rfl (Nat.le_of_ble_eq_true (n:=3) rfl)
  have ep:=eo.pk (env':=[(0,.p 0 0),(2,.p 1 0),(3,.p 3 0),(29,.v (.int .i64 (((D.f 1).l:Nat):Int))),(30,.v (.int .i64 ((k1_:Nat):Int))),(36,.v (.slice (some ⟨aa,0,none⟩) 2 2)),(43,.v (.slice ((D.f 1).A) ((D.f 1).l) ((D.f 1).c))),(44,.v (.int .i64 ((k1_:Nat):Int))),(37,.p 2 5)])
  refine qaI [3,4,12] [(0,.p 0 0),(2,.p 1 0),(3,.p 3 0),(29,.v (.int .i64 (((D.f 1).l:Nat):Int))),(30,.v (.int .i64 ((k1_:Nat):Int))),(36,.v (.slice (some ⟨aa,0,none⟩) 2 2)),(39,.v (.slice A1_ k1_ c1_)),(43,.v (.slice ((D.f 1).A) ((D.f 1).l) ((D.f 1).c))),(44,.v (.int .i64 ((k1_:Nat):Int))),(47,.v (.int .i64 ((k1_:Nat):Int)))] 7 (qab (qae (qab (qab (qae (qab qag)))))) (fun _ h=>h.cells) bG ep fun iT eu=>?_
  obtain ⟨cH,cI,ev,gN,cr⟩:=Slots.get g2 (i:=k1_) (by omega)
  refine qaR eu (i:=10) (t:=90) (A:=(D.f 1).A) (m:=((D.f 1).l)) (q:=((k1_:Nat):Int)) (d:=45) kz (e:=139) (size:=18) (bytes:=48) kz ev rfl (by omega) kz kz (qab (qae (qab (qab (qae (qab qag)))))) bG fun iU cS=>?_
  refine qdz (i:=11) (j:=13) kz ?_ ?_
  ·
   refine (qam cS (f:=102) (vs:=[.pointer (some ⟨cH,cI + k1_ * 18,none⟩)]) (d:=46) kz Tryz.call102 (qbn 0 ((D.f 1).f k1_) _ _ _ _ (cr.move aj.step nilM aj.imm) (qaU _ aj.step nilM aj.imm (g2e k1_ (by omega)))) ?_)
   rintro e_ iV ⟨gO,rfl,ew,cu⟩
   have cw:=ew.move (Step.refl _ Nil) nilM (aj.laid (G:=F) cu)
   obtain ⟨aH,aI,aJ,aK,aL,aM,aN,aO,aP,aQ,aR,gP,gQ,cz,gq,gt,iW,iX⟩:=cw.open_
   rw [cz] at cw
   have gv:=gq.small
   have gw:=gt.small
   rw [cz]
   refine ⟨_,rfl,fun iY ey=>?_⟩
   have cT:=aj.next_nil cu
   have av:=aj.frN cu
   have ez:=TT.ofW av cT
   refine ⟨fun _=>ez,?_⟩
   refine qau (i:=13) kz (qbA cT ey (e:=37) (size:=5) (len:=1) (cs:=[.int .i64 0,.slice none 0 0,.bool false,.slice none 0 0,.slice none 0 0]) (d:=48) kz kz fun du iZ i6 gR gS ak bH eB=>?_)
   have eC:=TT.ofW (av.trans ak) bH
   refine ⟨fun _=>eC,?_⟩
   refine qau (i:=14) kz (qaY bH eB (k:=1) (d:=49) (t:=34) (e:=37) (size:=5) (bytes:=88) (A:=A1_) (As:=(some ⟨du,0,none⟩)) (m0:=k1_) (c:=c1_) (m:=1) (cs:=1) (xs:=xs1_) (news:=[.int .i64 0,.slice none 0 0,.bool false,.slice none 0 0,.slice none 0 0]) kz kz rfl (qbH (bH.own 2 _ rfl) (qbD kz)) (qbQ (bH.own 2 _ rfl)) (by omega) fun am aw i7 ja ax cA eD=>?_)
   have eE:=TT.ofW ((av.trans ak).trans ax) cA
   refine ⟨fun _=>eE,?_⟩
   refine qau (i:=15) kz (qaC eD (t:=34) (A:=(some ⟨aa,0,none⟩)) (m:=2) (q:=1) (d:=50) kz (e:=37) (size:=5) (bytes:=88) (j:=1) kz (b:=aa) (o:=0) rfl rfl (by decide) fun jb eF=>?_)
   have eG:=eF.recast 50 (.v (.pointer (some ⟨aa,0 + 1 * 5,none⟩))) (.p 2 5) rfl rfl (Nat.le_of_ble_eq_true (n:=3) rfl)
   have eH:=eG.pk (env':=[(0,.p 0 0),(2,.p 1 0),(3,.p 3 0),(29,.v (.int .i64 (((D.f 1).l:Nat):Int))),(30,.v (.int .i64 ((k1_:Nat):Int))),(36,.v (.slice (some ⟨aa,0,none⟩) 2 2)),(39,.v (.slice A1_ k1_ c1_)),(43,.v (.slice ((D.f 1).A) ((D.f 1).l) ((D.f 1).c))),(44,.v (.int .i64 ((k1_:Nat):Int))),(47,.v (.int .i64 ((k1_:Nat):Int))),(45,.v (.pointer (some ⟨cH,cI + k1_ * 18,none⟩))),(46,.v (.agg #[.int .i64 aH,.slice aM aI.length aN,.bool aJ,.slice aO aK.length aP,.slice aQ aL.length aR])),(48,.v (.slice (some ⟨du,0,none⟩) 1 1)),(49,.v (.slice am (k1_ + 1) aw)),(50,.p 2 5)])
   have cU:=TT.ofW ((av.trans ak).trans ax) cA
   refine ⟨fun _=>cU,?_⟩
   refine qaI [16] [(0,.p 0 0),(2,.p 1 0),(3,.p 3 0),(29,.v (.int .i64 (((D.f 1).l:Nat):Int))),(30,.v (.int .i64 ((k1_:Nat):Int))),(46,.v (.agg #[.int .i64 aH,.slice aM aI.length aN,.bool aJ,.slice aO aK.length aP,.slice aQ aL.length aR])),(47,.v (.int .i64 ((k1_:Nat):Int))),(49,.v (.slice am (k1_ + 1) aw)),(51,.p 2 8)] 1 (qab (qae (qab (qab (qae (qab qag)))))) (fun _ h=>h.cells) cU eH fun jc eI=>?_
   refine qau (i:=17) kz (qav cA eI (oi:=2) (cs:=[.int .i64 0,.slice ac (((D.f 0).o).length) ae,.bool false,.slice none 0 0,.slice none 0 0,.int .i64 0,.slice none 0 0,.bool (((D.f 1).A).isNone),.slice am (k1_ + 1) aw,.slice none 0 0]) kz fun gx bk cV eJ=>?_)
   refine ⟨fun h=>absurd rfl h,?_⟩
   refine qaH kz ?_ _
   refine qac ?_
   refine qaq [0,1] kz ?_
   have eK:World.ownsRow gx 0 37 5 (.slice am (k1_ + 1) aw) (k1_ + 1) (xs1_ ++ [.int .i64 0,.slice none 0 0,.bool false,.slice none 0 0,.slice none 0 0]):=cV.own 1 _ rfl
   obtain ⟨eL,cW⟩:=qca eK (by omega)
   refine qan (qaC eJ (t:=34) (A:=am) (m:=(k1_ + 1)) (q:=((k1_:Nat):Int)) (d:=52) kz (e:=37) (size:=5) (bytes:=88) kz (b:=eL) (o:=0) (j:=k1_) cW (rfl) (by omega) fun jd eM=>?_)
   refine qan (qbX cV eM (k:=1) (g:=eL) (o:=k1_ * 5) (c:=aw) (m:=(k1_ + 1)) (size:=5) (e:=37) (A:=am) (xs:=(xs1_ ++ [.int .i64 0,.slice none 0 0,.bool false,.slice none 0 0,.slice none 0 0])) (vs:=[.int .i64 aH,.slice aM aI.length aN,.bool aJ,.slice aO aK.length aP,.slice aQ aL.length aR]) kz rfl cW (by simp only [List.length_cons,List.length_nil]; omega) fun je bn eN eO=>?_)
   have eP:(⟨am,aw,37,5,k1_ + 1,qbx (xs1_ ++ [.int .i64 0,.slice none 0 0,.bool false,.slice none 0 0,.slice none 0 0]) (k1_ * 5) [.int .i64 aH,.slice aM aI.length aN,.bool aJ,.slice aO aK.length aP,.slice aQ aL.length aR]⟩:Rw) = ⟨am,aw,37,5,k1_ + 1,xs1_ ++ [.int .i64 aH,.slice aM aI.length aN,.bool aJ,.slice aO aK.length aP,.slice aQ aL.length aR]⟩:=by rw [qcK (by rw [hT1_.xslen,List.length_take,qcc]; omega)]
   obtain ⟨cX,bo⟩:=eN.rowEq 1 [brow ac ae 5 ((D.f 0).o),⟨am,aw,37,5,k1_ + 1,xs1_ ++ [.int .i64 aH,.slice aM aI.length aN,.bool aJ,.slice aO aK.length aP,.slice aQ aL.length aR]⟩,⟨some ⟨du,0,none⟩,1,37,5,1,[.int .i64 0,.slice none 0 0,.bool false,.slice none 0 0,.slice none 0 0]⟩] eP
   refine qah ?_
   refine qas ?_
   refine qac ?_
   refine qaq [0,1] kz ?_
   refine qal [0,1] [] [(0,.p 0 0),(2,.p 1 0),(3,.p 3 0),(29,.v (.int .i64 (((D.f 1).l:Nat):Int))),(30,.v (.int .i64 (IntKind.i64.wrap (((k1_:Nat):Int) + 1))))] cX eO fun jf eQ=>?_
   refine qah (qac ?_)
   obtain ⟨cY,eR,bp⟩:=cX.cutB eQ 4 [⟨b,o,[qaa ((D.f 0).o.getD 0 0),qaa ((D.f 0).o.getD 1 0),qaa ((D.f 0).o.getD 2 0),qaa ((D.f 0).o.getD 3 0),qaa ((D.f 0).o.getD 4 0),qaa ((D.f 0).o.getD 5 0),qaa ((D.f 0).o.getD 6 0),qaa ((D.f 0).o.getD 7 0),qaa ((D.f 0).o.getD 8 0),qaa ((D.f 0).o.getD 9 0),qaa ((D.f 0).o.getD 10 0),qaa ((D.f 0).o.getD 11 0),qaa ((D.f 0).o.getD 12 0),qaa ((D.f 0).o.getD 13 0),qaa ((D.f 0).o.getD 14 0),qaa ((D.f 0).o.getD 15 0),.slice ((D.f 1).A) ((D.f 1).l) ((D.f 1).c),.map D.m],false⟩,⟨b5,0,[.int .i64 0,.slice none 0 0,.bool false,.slice none 0 0,.slice none 0 0],true⟩,⟨aa,0,[.int .i64 0,.slice ac (((D.f 0).o).length) ae,.bool false,.slice none 0 0,.slice none 0 0,.int .i64 0,.slice none 0 0,.bool (((D.f 1).A).isNone),.slice am (k1_ + 1) aw,.slice none 0 0],true⟩,⟨bB,0,[.int .i64 0,.slice none 0 0,.bool false,.slice (some ⟨aa,0,none⟩) 2 2,.slice none 0 0],true⟩] [(0,.p 0 0),(2,.p 1 0),(3,.p 3 0),(29,.v (.int .i64 (((D.f 1).l:Nat):Int))),(30,.v (.int .i64 (IntKind.i64.wrap (((k1_:Nat):Int) + 1))))]
   obtain ⟨eS,bq⟩:=eR.cutR 2 [brow ac ae 5 ((D.f 0).o),⟨am,aw,37,5,k1_ + 1,xs1_ ++ [.int .i64 aH,.slice aM aI.length aN,.bool aJ,.slice aO aK.length aP,.slice aQ aL.length aR]⟩]
   have eU:IntKind.i64.wrap (((k1_:Nat):Int) + 1) = ((k1_ + 1:Nat):Int):=qaX (by omega)
   rw [eU] at cY
   exact ⟨(D.f 1).l - (k1_ + 1),by omega,k1_ + 1,am,aw,xs1_ ++ [Value.int .i64 aH,.slice aM aI.length aN,.bool aJ,.slice aO aK.length aP,.slice aQ aL.length aR],(css1_ ++ [[Value.int .i64 aH,.slice aM aI.length aN,.bool aJ,.slice aO aK.length aP,.slice aQ aL.length aR]]),rfl,by omega,by rw [qco (by omega)]; exact (hT1_.move ((((((((((((af.trans ab).trans ag).trans ai).trans aF).trans av).trans ak).trans ax).trans bk).trans bn).trans bo).trans bp).trans bq).step immM ((((((((((((af.trans ab).trans ag).trans ai).trans aF).trans av).trans ak).trans ax).trans bk).trans bn).trans bo).trans bp).trans bq).to').snoc (x:=(fun i=>qaO ((D.f 1).f i)) k1_) (cw.move ((((((ak.trans ax).trans bk).trans bn).trans bo).trans bp).trans bq).step immM ((((((ak.trans ax).trans bk).trans bn).trans bo).trans bp).trans bq).to'),cY.pk,eS,(((((((((((((dp.trans af).trans ab).trans ag).trans ai).trans aF).trans av).trans ak).trans ax).trans bk).trans bn).trans bo).trans bp).trans bq)⟩
  refine (qbA aj cS (e:=37) (size:=5) (len:=1) (cs:=[.int .i64 0,.slice none 0 0,.bool false,.slice none 0 0,.slice none 0 0]) (d:=48) kz kz fun dv jg jh gT gU ay al eV=>?_)
  have eW:=TT.ofW ay al
  refine ⟨fun _=>eW,?_⟩
  refine qau (i:=11) kz (qam eV (f:=102) (vs:=[.pointer (some ⟨cH,cI + k1_ * 18,none⟩)]) (d:=46) kz Tryz.call102 (qbn 0 ((D.f 1).f k1_) _ _ _ _ (cr.move al.step nilM al.imm) (qaU _ al.step nilM al.imm (g2e k1_ (by omega)))) ?_)
  rintro e_ ji ⟨gV,rfl,eX,cB⟩
  have cC:=eX.move (Step.refl _ Nil) nilM (al.laid (G:=F) cB)
  obtain ⟨aS,aT,aU,aV,aW,aX,aY,aZ,ba,bd,bf,gW,gX,cD,gy,gz,jj,jk⟩:=cC.open_
  rw [cD] at cC
  have gA:=gy.small
  have gB:=gz.small
  rw [cD]
  refine ⟨_,rfl,fun jl eY=>?_⟩
  have bI:=al.next_nil cB
  have aG:=al.frN cB
  have eZ:=TT.ofW (ay.trans aG) bI
  refine ⟨fun _=>eZ,?_⟩
  refine qau (i:=14) kz (qaY bI eY (k:=1) (d:=49) (t:=34) (e:=37) (size:=5) (bytes:=88) (A:=A1_) (As:=(some ⟨dv,0,none⟩)) (m0:=k1_) (c:=c1_) (m:=1) (cs:=1) (xs:=xs1_) (news:=[.int .i64 0,.slice none 0 0,.bool false,.slice none 0 0,.slice none 0 0]) kz kz rfl (qbH (bI.own 2 _ rfl) (qbD kz)) (qbQ (bI.own 2 _ rfl)) (by omega) fun ao az jm jn aA cE e9=>?_)
  have fa:=TT.ofW ((ay.trans aG).trans aA) cE
  refine ⟨fun _=>fa,?_⟩
  refine qau (i:=15) kz (qaC e9 (t:=34) (A:=(some ⟨aa,0,none⟩)) (m:=2) (q:=1) (d:=50) kz (e:=37) (size:=5) (bytes:=88) (j:=1) kz (b:=aa) (o:=0) rfl rfl (by decide) fun jo fb=>?_)
  have fe:=fb.recast 50 (.v (.pointer (some ⟨aa,0 + 1 * 5,none⟩))) (.p 2 5) rfl rfl (Nat.le_of_ble_eq_true (n:=3) rfl)
  have ff:=fe.pk (env':=[(0,.p 0 0),(2,.p 1 0),(3,.p 3 0),(29,.v (.int .i64 (((D.f 1).l:Nat):Int))),(30,.v (.int .i64 ((k1_:Nat):Int))),(36,.v (.slice (some ⟨aa,0,none⟩) 2 2)),(39,.v (.slice A1_ k1_ c1_)),(43,.v (.slice ((D.f 1).A) ((D.f 1).l) ((D.f 1).c))),(44,.v (.int .i64 ((k1_:Nat):Int))),(47,.v (.int .i64 ((k1_:Nat):Int))),(45,.v (.pointer (some ⟨cH,cI + k1_ * 18,none⟩))),(48,.v (.slice (some ⟨dv,0,none⟩) 1 1)),(46,.v (.agg #[.int .i64 aS,.slice aX aT.length aY,.bool aU,.slice aZ aV.length ba,.slice bd aW.length bf])),(49,.v (.slice ao (k1_ + 1) az)),(50,.p 2 5)])
  have cZ:=TT.ofW ((ay.trans aG).trans aA) cE
  refine ⟨fun _=>cZ,?_⟩
  refine qaI [16] [(0,.p 0 0),(2,.p 1 0),(3,.p 3 0),(29,.v (.int .i64 (((D.f 1).l:Nat):Int))),(30,.v (.int .i64 ((k1_:Nat):Int))),(46,.v (.agg #[.int .i64 aS,.slice aX aT.length aY,.bool aU,.slice aZ aV.length ba,.slice bd aW.length bf])),(47,.v (.int .i64 ((k1_:Nat):Int))),(49,.v (.slice ao (k1_ + 1) az)),(51,.p 2 8)] 1 (qab (qae (qab (qab (qae (qab qag)))))) (fun _ h=>h.cells) cZ ff fun jp fg=>?_
  refine qau (i:=17) kz (qav cE fg (oi:=2) (cs:=[.int .i64 0,.slice ac (((D.f 0).o).length) ae,.bool false,.slice none 0 0,.slice none 0 0,.int .i64 0,.slice none 0 0,.bool (((D.f 1).A).isNone),.slice ao (k1_ + 1) az,.slice none 0 0]) kz fun gC bt c5 fh=>?_)
  refine ⟨fun h=>absurd rfl h,?_⟩
  refine qaH kz ?_ _
  refine qac ?_
  refine qaq [0,1] kz ?_
  have fi:World.ownsRow gC 0 37 5 (.slice ao (k1_ + 1) az) (k1_ + 1) (xs1_ ++ [.int .i64 0,.slice none 0 0,.bool false,.slice none 0 0,.slice none 0 0]):=c5.own 1 _ rfl
  obtain ⟨fj,c6⟩:=qca fi (by omega)
  refine qan (qaC fh (t:=34) (A:=ao) (m:=(k1_ + 1)) (q:=((k1_:Nat):Int)) (d:=52) kz (e:=37) (size:=5) (bytes:=88) kz (b:=fj) (o:=0) (j:=k1_) c6 (rfl) (by omega) fun jq fk=>?_)
  refine qan (qbX c5 fk (k:=1) (g:=fj) (o:=k1_ * 5) (c:=az) (m:=(k1_ + 1)) (size:=5) (e:=37) (A:=ao) (xs:=(xs1_ ++ [.int .i64 0,.slice none 0 0,.bool false,.slice none 0 0,.slice none 0 0])) (vs:=[.int .i64 aS,.slice aX aT.length aY,.bool aU,.slice aZ aV.length ba,.slice bd aW.length bf]) kz rfl c6 (by simp only [List.length_cons,List.length_nil]; omega) fun jr bu fm fo=>?_)
  have fq:(⟨ao,az,37,5,k1_ + 1,qbx (xs1_ ++ [.int .i64 0,.slice none 0 0,.bool false,.slice none 0 0,.slice none 0 0]) (k1_ * 5) [.int .i64 aS,.slice aX aT.length aY,.bool aU,.slice aZ aV.length ba,.slice bd aW.length bf]⟩:Rw) = ⟨ao,az,37,5,k1_ + 1,xs1_ ++ [.int .i64 aS,.slice aX aT.length aY,.bool aU,.slice aZ aV.length ba,.slice bd aW.length bf]⟩:=by rw [qcK (by rw [hT1_.xslen,List.length_take,qcc]; omega)]
  obtain ⟨da,bw⟩:=fm.rowEq 1 [brow ac ae 5 ((D.f 0).o),⟨ao,az,37,5,k1_ + 1,xs1_ ++ [.int .i64 aS,.slice aX aT.length aY,.bool aU,.slice aZ aV.length ba,.slice bd aW.length bf]⟩,⟨some ⟨dv,0,none⟩,1,37,5,1,[.int .i64 0,.slice none 0 0,.bool false,.slice none 0 0,.slice none 0 0]⟩] fq
  refine qah ?_
  refine qas ?_
  refine qac ?_
  refine qaq [0,1] kz ?_
  refine qal [0,1] [] [(0,.p 0 0),(2,.p 1 0),(3,.p 3 0),(29,.v (.int .i64 (((D.f 1).l:Nat):Int))),(30,.v (.int .i64 (IntKind.i64.wrap (((k1_:Nat):Int) + 1))))] da fo fun js fr=>?_
  refine qah (qac ?_)
  obtain ⟨db,ft,bx⟩:=da.cutB fr 4 [⟨b,o,[qaa ((D.f 0).o.getD 0 0),qaa ((D.f 0).o.getD 1 0),qaa ((D.f 0).o.getD 2 0),qaa ((D.f 0).o.getD 3 0),qaa ((D.f 0).o.getD 4 0),qaa ((D.f 0).o.getD 5 0),qaa ((D.f 0).o.getD 6 0),qaa ((D.f 0).o.getD 7 0),qaa ((D.f 0).o.getD 8 0),qaa ((D.f 0).o.getD 9 0),qaa ((D.f 0).o.getD 10 0),qaa ((D.f 0).o.getD 11 0),qaa ((D.f 0).o.getD 12 0),qaa ((D.f 0).o.getD 13 0),qaa ((D.f 0).o.getD 14 0),qaa ((D.f 0).o.getD 15 0),.slice ((D.f 1).A) ((D.f 1).l) ((D.f 1).c),.map D.m],false⟩,⟨b5,0,[.int .i64 0,.slice none 0 0,.bool false,.slice none 0 0,.slice none 0 0],true⟩,⟨aa,0,[.int .i64 0,.slice ac (((D.f 0).o).length) ae,.bool false,.slice none 0 0,.slice none 0 0,.int .i64 0,.slice none 0 0,.bool (((D.f 1).A).isNone),.slice ao (k1_ + 1) az,.slice none 0 0],true⟩,⟨bB,0,[.int .i64 0,.slice none 0 0,.bool false,.slice (some ⟨aa,0,none⟩) 2 2,.slice none 0 0],true⟩] [(0,.p 0 0),(2,.p 1 0),(3,.p 3 0),(29,.v (.int .i64 (((D.f 1).l:Nat):Int))),(30,.v (.int .i64 (IntKind.i64.wrap (((k1_:Nat):Int) + 1))))]
  obtain ⟨fu,bz⟩:=ft.cutR 2 [brow ac ae 5 ((D.f 0).o),⟨ao,az,37,5,k1_ + 1,xs1_ ++ [.int .i64 aS,.slice aX aT.length aY,.bool aU,.slice aZ aV.length ba,.slice bd aW.length bf]⟩]
  have fv:IntKind.i64.wrap (((k1_:Nat):Int) + 1) = ((k1_ + 1:Nat):Int):=qaX (by omega)
  rw [fv] at db
  exact ⟨(D.f 1).l - (k1_ + 1),by omega,k1_ + 1,ao,az,xs1_ ++ [Value.int .i64 aS,.slice aX aT.length aY,.bool aU,.slice aZ aV.length ba,.slice bd aW.length bf],(css1_ ++ [[Value.int .i64 aS,.slice aX aT.length aY,.bool aU,.slice aZ aV.length ba,.slice bd aW.length bf]]),rfl,by omega,by rw [qco (by omega)]; exact (hT1_.move ((((((((((((af.trans ab).trans ag).trans ai).trans aF).trans ay).trans aG).trans aA).trans bt).trans bu).trans bw).trans bx).trans bz).step immM ((((((((((((af.trans ab).trans ag).trans ai).trans aF).trans ay).trans aG).trans aA).trans bt).trans bu).trans bw).trans bx).trans bz).to').snoc (x:=(fun i=>qaO ((D.f 1).f i)) k1_) (cC.move (((((aA.trans bt).trans bu).trans bw).trans bx).trans bz).step immM (((((aA.trans bt).trans bu).trans bw).trans bx).trans bz).to'),db.pk,fu,(((((((((((((dp.trans af).trans ab).trans ag).trans ai).trans aF).trans ay).trans aG).trans aA).trans bt).trans bu).trans bw).trans bx).trans bz)⟩
 have gY:=of_decide_eq_false dr
 refine wp_exit ?_
 refine qaz ?_
 refine qaz ?_
 refine qaT ?_
 refine qac ?_
 refine qaf [0,1,2,3,4] kz ?_
 refine qal [0,1,2] [3,4] [(2,.p 1 0),(3,.p 3 0),(74,.p 0 17)] aB dq fun jt fw=>?_
 refine qan (qew fw (v:=.func (.func 103) #[] #[.pointer (some ⟨bB,0,none⟩)]) (d:=75) kz fun ju fx=>?_)
 refine qan (qam fx (f:=64) (vs:=[.pointer (some ⟨b,o + 17,none⟩),.func (.func 103) #[] #[.pointer (some ⟨bB,0,none⟩)]]) (d:=76) kz Tryz.call64 (qeF (F:=(Imm F w ii [⟨b,o,[qaa ((D.f 0).o.getD 0 0),qaa ((D.f 0).o.getD 1 0),qaa ((D.f 0).o.getD 2 0),qaa ((D.f 0).o.getD 3 0),qaa ((D.f 0).o.getD 4 0),qaa ((D.f 0).o.getD 5 0),qaa ((D.f 0).o.getD 6 0),qaa ((D.f 0).o.getD 7 0),qaa ((D.f 0).o.getD 8 0),qaa ((D.f 0).o.getD 9 0),qaa ((D.f 0).o.getD 10 0),qaa ((D.f 0).o.getD 11 0),qaa ((D.f 0).o.getD 12 0),qaa ((D.f 0).o.getD 13 0),qaa ((D.f 0).o.getD 14 0),qaa ((D.f 0).o.getD 15 0),.slice ((D.f 1).A) ((D.f 1).l) ((D.f 1).c),.map D.m],false⟩,⟨b5,0,[.int .i64 0,.slice none 0 0,.bool false,.slice none 0 0,.slice none 0 0],true⟩,⟨aa,0,[.int .i64 0,.slice ac (((D.f 0).o).length) ae,.bool false,.slice none 0 0,.slice none 0 0,.int .i64 0,.slice none 0 0,.bool (((D.f 1).A).isNone),.slice A1_ k1_ c1_,.slice none 0 0],true⟩,⟨bB,0,[.int .i64 0,.slice none 0 0,.bool false,.slice (some ⟨aa,0,none⟩) 2 2,.slice none 0 0],true⟩] [brow ac ae 5 ((D.f 0).o),⟨A1_,c1_,37,5,k1_,xs1_⟩])) Tryz.call103 qcf ((hat.one 17 rfl).move aB.step nilM aB.imm) (g3.move aB.step nilM aB.imm) (Str.of aB 3 rfl) (qjw 3 rfl) g3l) ?_)
 rintro e_ jv ⟨rfl,aC,aD,dw,fy,fz⟩
 obtain ⟨cG,dc,fA⟩:=aB.wrote 3 [⟨b,o,[qaa ((D.f 0).o.getD 0 0),qaa ((D.f 0).o.getD 1 0),qaa ((D.f 0).o.getD 2 0),qaa ((D.f 0).o.getD 3 0),qaa ((D.f 0).o.getD 4 0),qaa ((D.f 0).o.getD 5 0),qaa ((D.f 0).o.getD 6 0),qaa ((D.f 0).o.getD 7 0),qaa ((D.f 0).o.getD 8 0),qaa ((D.f 0).o.getD 9 0),qaa ((D.f 0).o.getD 10 0),qaa ((D.f 0).o.getD 11 0),qaa ((D.f 0).o.getD 12 0),qaa ((D.f 0).o.getD 13 0),qaa ((D.f 0).o.getD 14 0),qaa ((D.f 0).o.getD 15 0),.slice ((D.f 1).A) ((D.f 1).l) ((D.f 1).c),.map D.m],false⟩,⟨b5,0,[.int .i64 0,.slice none 0 0,.bool false,.slice none 0 0,.slice none 0 0],true⟩,⟨aa,0,[.int .i64 0,.slice ac (((D.f 0).o).length) ae,.bool false,.slice none 0 0,.slice none 0 0,.int .i64 0,.slice none 0 0,.bool (((D.f 1).A).isNone),.slice A1_ k1_ c1_,.slice none 0 0],true⟩,⟨bB,0,[.int .i64 0,.slice none 0 0,.bool false,.slice (some ⟨aa,0,none⟩) 2 2,.slice aC D.u.length aD],true⟩] rfl fz dw
 have de:=fy.move (Step.refl _ Nil) nilM (fun b_ o_ h_ hb_=>fA (G:=F) b_ o_ (.inr h_) hb_)
 refine ⟨_,rfl,fun jw fB=>?_⟩
 have fC:=(EnvOk.places (tb':=[⟨b,o,[qaa ((D.f 0).o.getD 0 0),qaa ((D.f 0).o.getD 1 0),qaa ((D.f 0).o.getD 2 0),qaa ((D.f 0).o.getD 3 0),qaa ((D.f 0).o.getD 4 0),qaa ((D.f 0).o.getD 5 0),qaa ((D.f 0).o.getD 6 0),qaa ((D.f 0).o.getD 7 0),qaa ((D.f 0).o.getD 8 0),qaa ((D.f 0).o.getD 9 0),qaa ((D.f 0).o.getD 10 0),qaa ((D.f 0).o.getD 11 0),qaa ((D.f 0).o.getD 12 0),qaa ((D.f 0).o.getD 13 0),qaa ((D.f 0).o.getD 14 0),qaa ((D.f 0).o.getD 15 0),.slice ((D.f 1).A) ((D.f 1).l) ((D.f 1).c),.map D.m],false⟩,⟨b5,0,[.int .i64 0,.slice none 0 0,.bool false,.slice none 0 0,.slice none 0 0],true⟩,⟨aa,0,[.int .i64 0,.slice ac (((D.f 0).o).length) ae,.bool false,.slice none 0 0,.slice none 0 0,.int .i64 0,.slice none 0 0,.bool (((D.f 1).A).isNone),.slice A1_ k1_ c1_,.slice none 0 0],true⟩,⟨bB,0,[.int .i64 0,.slice none 0 0,.bool false,.slice (some ⟨aa,0,none⟩) 2 2,.slice aC D.u.length aD],true⟩]) fB (show Pl [⟨b,o,[qaa ((D.f 0).o.getD 0 0),qaa ((D.f 0).o.getD 1 0),qaa ((D.f 0).o.getD 2 0),qaa ((D.f 0).o.getD 3 0),qaa ((D.f 0).o.getD 4 0),qaa ((D.f 0).o.getD 5 0),qaa ((D.f 0).o.getD 6 0),qaa ((D.f 0).o.getD 7 0),qaa ((D.f 0).o.getD 8 0),qaa ((D.f 0).o.getD 9 0),qaa ((D.f 0).o.getD 10 0),qaa ((D.f 0).o.getD 11 0),qaa ((D.f 0).o.getD 12 0),qaa ((D.f 0).o.getD 13 0),qaa ((D.f 0).o.getD 14 0),qaa ((D.f 0).o.getD 15 0),.slice ((D.f 1).A) ((D.f 1).l) ((D.f 1).c),.map D.m],false⟩,⟨b5,0,[.int .i64 0,.slice none 0 0,.bool false,.slice none 0 0,.slice none 0 0],true⟩,⟨aa,0,[.int .i64 0,.slice ac (((D.f 0).o).length) ae,.bool false,.slice none 0 0,.slice none 0 0,.int .i64 0,.slice none 0 0,.bool (((D.f 1).A).isNone),.slice A1_ k1_ c1_,.slice none 0 0],true⟩,⟨bB,0,[.int .i64 0,.slice none 0 0,.bool false,.slice (some ⟨aa,0,none⟩) 2 2,.slice none 0 0],true⟩] [⟨b,o,[qaa ((D.f 0).o.getD 0 0),qaa ((D.f 0).o.getD 1 0),qaa ((D.f 0).o.getD 2 0),qaa ((D.f 0).o.getD 3 0),qaa ((D.f 0).o.getD 4 0),qaa ((D.f 0).o.getD 5 0),qaa ((D.f 0).o.getD 6 0),qaa ((D.f 0).o.getD 7 0),qaa ((D.f 0).o.getD 8 0),qaa ((D.f 0).o.getD 9 0),qaa ((D.f 0).o.getD 10 0),qaa ((D.f 0).o.getD 11 0),qaa ((D.f 0).o.getD 12 0),qaa ((D.f 0).o.getD 13 0),qaa ((D.f 0).o.getD 14 0),qaa ((D.f 0).o.getD 15 0),.slice ((D.f 1).A) ((D.f 1).l) ((D.f 1).c),.map D.m],false⟩,⟨b5,0,[.int .i64 0,.slice none 0 0,.bool false,.slice none 0 0,.slice none 0 0],true⟩,⟨aa,0,[.int .i64 0,.slice ac (((D.f 0).o).length) ae,.bool false,.slice none 0 0,.slice none 0 0,.int .i64 0,.slice none 0 0,.bool (((D.f 1).A).isNone),.slice A1_ k1_ c1_,.slice none 0 0],true⟩,⟨bB,0,[.int .i64 0,.slice none 0 0,.bool false,.slice (some ⟨aa,0,none⟩) 2 2,.slice aC D.u.length aD],true⟩] from ⟨rfl,rfl,⟨rfl,rfl,⟨rfl,rfl,⟨rfl,rfl,trivial⟩⟩⟩⟩)).pk (env':=[(76,.v (.tuple #[])),(2,.p 1 0),(3,.p 3 0),(74,.p 0 17),(75,.v (.func (.func 103) #[] #[.pointer (some ⟨bB,0,none⟩)]))])
 refine qah (qac ?_)
 refine qaf [0,1,2] kz ?_
 refine qal [0,1] [2] [(2,.p 1 0),(3,.p 3 0),(78,.v (.slice aC D.u.length aD))] cG fC fun jx fD=>?_
 refine qan (qam fD (f:=66) (vs:=[.slice aC D.u.length aD]) (d:=79) kz Tryz.call66 (qgo de g3.sorted) ?_)
 rintro e_ jy ⟨rfl,df⟩
 refine ⟨_,rfl,fun jz fE=>?_⟩
 have dg:=cG.next_nil df
 have bJ:=cG.frN df
 refine qah (qac ?_)
 refine qaf [0,1] kz ?_
 refine qal [0] [1] [(2,.p 1 0),(80,.v (.agg #[.int .i64 0,.slice none 0 0,.bool false,.slice (some ⟨aa,0,none⟩) 2 2,.slice aC D.u.length aD]))] dg fE fun jA fF=>?_
 refine qan (qav dg fF (oi:=1) (cs:=[.int .i64 0,.slice none 0 0,.bool false,.slice (some ⟨aa,0,none⟩) 2 2,.slice aC D.u.length aD]) kz fun gD bK bA fG=>?_)
 refine qah (qac ?_)
 refine wp_ret ?_
 refine qaS fG bA.cells (v:=.agg #[.int .i64 0,.slice none 0 0,.bool false,.slice (some ⟨aa,0,none⟩) 2 2,.slice aC D.u.length aD]) kz ?_
 have dh:=(hT1_.move ((dc.trans bJ).trans bK).step immM ((dc.trans bJ).trans bK).to')
 rw [qgn (by omega)] at dh
 exact qff (u:=D.u) (l:=[.mk 0 (D.f 0).o false [] [],.mk 0 [] (D.f 1).A.isNone ((List.range (D.f 1).l).map fun i=>qaO ((D.f 1).f i)) []]) (css:=[[.int .i64 0,.slice ac (((D.f 0).o).length) ae,.bool false,.slice none 0 0,.slice none 0 0],[.int .i64 0,.slice none 0 0,.bool (((D.f 1).A).isNone),.slice A1_ k1_ c1_,.slice none 0 0]]) bA 2 rfl ⟨TreeR.mk (n:=0) (b:=false) (l:=[]) (u:=[]) (fun _=>[]) (qck (bA.own 0 _ rfl) (by rw [g1]; decide) (qgP (F:=F) bA (k:=0) rfl)) (Slots.nil _ _ 5 _) (fun _ _ h_=>by simp at h_) (TagsR.nil _ _),qfE bA (k:=1) rfl dh (by rw [qcc]; omega) (by rw [qcc]; omega),trivial⟩ ((show TagsR _ (Imm F w gD [⟨b,o,[qaa ((D.f 0).o.getD 0 0),qaa ((D.f 0).o.getD 1 0),qaa ((D.f 0).o.getD 2 0),qaa ((D.f 0).o.getD 3 0),qaa ((D.f 0).o.getD 4 0),qaa ((D.f 0).o.getD 5 0),qaa ((D.f 0).o.getD 6 0),qaa ((D.f 0).o.getD 7 0),qaa ((D.f 0).o.getD 8 0),qaa ((D.f 0).o.getD 9 0),qaa ((D.f 0).o.getD 10 0),qaa ((D.f 0).o.getD 11 0),qaa ((D.f 0).o.getD 12 0),qaa ((D.f 0).o.getD 13 0),qaa ((D.f 0).o.getD 14 0),qaa ((D.f 0).o.getD 15 0),.slice ((D.f 1).A) ((D.f 1).l) ((D.f 1).c),.map D.m],false⟩,⟨b5,0,[.int .i64 0,.slice none 0 0,.bool false,.slice (some ⟨aa,0,none⟩) 2 2,.slice aC D.u.length aD],true⟩,⟨aa,0,[.int .i64 0,.slice ac (((D.f 0).o).length) ae,.bool false,.slice none 0 0,.slice none 0 0,.int .i64 0,.slice none 0 0,.bool (((D.f 1).A).isNone),.slice A1_ k1_ c1_,.slice none 0 0],true⟩,⟨bB,0,[.int .i64 0,.slice none 0 0,.bool false,.slice (some ⟨aa,0,none⟩) 2 2,.slice aC D.u.length aD],true⟩] [brow ac ae 5 ((D.f 0).o),⟨A1_,c1_,37,5,k1_,xs1_⟩]) _ _ _ from (de.move (bJ.trans bK).step immM (bJ.trans bK).to')).move (Step.refl _ Nil) nilM qc1)
set_option maxHeartbeats 4000000 in
theorem qcU (v:Int) (D:DV) (b o:Nat) (w:World) (F:Nat → Nat → Prop) (hat:AtF w F b o [.int .i16 v,.int .i32 ((D.f 0).n),.int .i16 ((D.f 1).n),.slice ((D.f 2).A) ((D.f 2).l) ((D.f 2).c),.map D.m]) (hok:qbg w F D):Calls Tryz.prog 31 #[.pointer (some ⟨b,o,none⟩)] w (qeW w F (qba D)):=by
 refine enter (n:=90) Tryz.func31 rfl Tryz.ntmps31 kz fun a hE=>?_
 have hW:WOk w Nil w [⟨b,o,[.int .i16 v,.int .i32 ((D.f 0).n),.int .i16 ((D.f 1).n),.slice ((D.f 2).A) ((D.f 2).l) ((D.f 2).c),.map D.m],false⟩] []:=(WOk.start w Nil).start1 hat rfl rfl
 unfold qbg at hok
 obtain ⟨g1,g2,⟨g3,g3l,g3e⟩,g4,g4l,g4x,_⟩:=hok
 have hE0:=(EnvOk.ptr0 (cs:=[.int .i16 v,.int .i32 ((D.f 0).n),.int .i16 ((D.f 1).n),.slice ((D.f 2).A) ((D.f 2).l) ((D.f 2).c),.map D.m]) (r:=false) hE).pk (env':=[(0,.p 0 0)])
 refine qaf [0] kz ?_
 refine qan (qaZ hW hE0 (d:=2) (cs:=[.int .i64 0,.slice none 0 0,.bool false,.slice none 0 0,.slice none 0 0]) kz fun b5 a6 w7 hb8 hz9 gT fD fE=>?_)
 refine qah (qac ?_)
 refine qaf [0,1,2,3] kz ?_
 refine qan (qd5 (t:=34) (e:=37) (size:=5) (bytes:=88) (d:=5) (j:=3) (.agg #[.int .i64 0,.slice none 0 0,.bool false,.slice none 0 0,.slice none 0 0]) [.int .i64 0,.slice none 0 0,.bool false,.slice none 0 0,.slice none 0 0,.int .i64 0,.slice none 0 0,.bool false,.slice none 0 0,.slice none 0 0,.int .i64 0,.slice none 0 0,.bool false,.slice none 0 0,.slice none 0 0] fD fE fun aa jw jx gU gV gW du fF=>?_)
 refine qal [1] [2,3] [(0,.p 0 0),(2,.p 1 0),(6,.v (.agg #[.int .i64 0,.slice none 0 0,.bool false,.slice (some ⟨aa,0,none⟩) 3 3,.slice none 0 0]))] du fF fun jy fG=>?_
 refine qan (qaZ du fG (d:=3) (cs:=[.int .i64 0,.slice none 0 0,.bool false,.slice none 0 0,.slice none 0 0]) kz fun bx jz jA gX gY gZ fH fI=>?_)
 refine qan (qav fH fI (oi:=3) (cs:=[.int .i64 0,.slice none 0 0,.bool false,.slice (some ⟨aa,0,none⟩) 3 3,.slice none 0 0]) kz fun jB g6 fJ fK=>?_)
 refine qah (qac ?_)
 refine qaM 9 kz fJ fun jC g7 fL dv=>?_
 refine qaI [0,1,2,3,4,5,6,7] [(0,.p 0 0),(2,.p 1 0),(3,.p 3 0),(8,.v (.slice (some ⟨aa,0,none⟩) 3 3)),(14,.v (.agg #[.int .i64 (IntKind.i64.wrap ((D.f 0).n)),.slice none 0 0,.bool false,.slice none 0 0,.slice none 0 0]))] 2 (qab qag) (fun _ h=>h.cells) dv fK fun jD fM=>?_
 refine qaR fM (i:=8) (t:=34) (A:=(some ⟨aa,0,none⟩)) (m:=3) (q:=0) (d:=15) kz (e:=37) (size:=5) (bytes:=88) (j:=0) kz (b:=aa) (o:=0) rfl rfl (by decide) kz kz (qab qag) dv fun jE fN=>?_
 have fO:=fN.recast 15 (.v (.pointer (some ⟨aa,0 + 0 * 5,none⟩))) (.p 2 0) rfl rfl (Nat.le_of_ble_eq_true (n:=3) rfl)
 have fP:=fO.pk (env':=[(0,.p 0 0),(2,.p 1 0),(3,.p 3 0),(8,.v (.slice (some ⟨aa,0,none⟩) 3 3)),(14,.v (.agg #[.int .i64 (IntKind.i64.wrap ((D.f 0).n)),.slice none 0 0,.bool false,.slice none 0 0,.slice none 0 0])),(15,.p 2 0)])
 refine qau (i:=9) kz (qav fL fP (oi:=2) (cs:=[.int .i64 (IntKind.i64.wrap ((D.f 0).n)),.slice none 0 0,.bool false,.slice none 0 0,.slice none 0 0,.int .i64 0,.slice none 0 0,.bool false,.slice none 0 0,.slice none 0 0,.int .i64 0,.slice none 0 0,.bool false,.slice none 0 0,.slice none 0 0]) kz fun jF g8 fQ fR=>?_)
 refine ⟨fun h=>absurd rfl h,?_⟩
 refine qaH kz ?_ _
 refine qac ?_
 refine qaM 9 kz fQ fun jG g9 fS dw=>?_
 refine qaI [0,1,2,3,4,5,6,7] [(0,.p 0 0),(2,.p 1 0),(3,.p 3 0),(17,.v (.slice (some ⟨aa,0,none⟩) 3 3)),(23,.v (.agg #[.int .i64 (IntKind.i64.wrap ((D.f 1).n)),.slice none 0 0,.bool false,.slice none 0 0,.slice none 0 0]))] 2 (qab qag) (fun _ h=>h.cells) dw fR fun jH fT=>?_
 refine qaR fT (i:=8) (t:=34) (A:=(some ⟨aa,0,none⟩)) (m:=3) (q:=1) (d:=24) kz (e:=37) (size:=5) (bytes:=88) (j:=1) kz (b:=aa) (o:=0) rfl rfl (by decide) kz kz (qab qag) dw fun jI fU=>?_
 have fV:=fU.recast 24 (.v (.pointer (some ⟨aa,0 + 1 * 5,none⟩))) (.p 2 5) rfl rfl (Nat.le_of_ble_eq_true (n:=3) rfl)
 have fW:=fV.pk (env':=[(0,.p 0 0),(2,.p 1 0),(3,.p 3 0),(17,.v (.slice (some ⟨aa,0,none⟩) 3 3)),(23,.v (.agg #[.int .i64 (IntKind.i64.wrap ((D.f 1).n)),.slice none 0 0,.bool false,.slice none 0 0,.slice none 0 0])),(24,.p 2 5)])
 refine qau (i:=9) kz (qav fS fW (oi:=2) (cs:=[.int .i64 (IntKind.i64.wrap ((D.f 0).n)),.slice none 0 0,.bool false,.slice none 0 0,.slice none 0 0,.int .i64 (IntKind.i64.wrap ((D.f 1).n)),.slice none 0 0,.bool false,.slice none 0 0,.slice none 0 0,.int .i64 0,.slice none 0 0,.bool false,.slice none 0 0,.slice none 0 0]) kz fun jJ hC fX fY=>?_)
 refine ⟨fun h=>absurd rfl h,?_⟩
 refine qaH kz ?_ _
 refine qac ?_
 refine qaM 9 kz fX fun jK hJ fZ df=>?_
 refine qaI [0,1,2,3,4,5,6] [(0,.p 0 0),(2,.p 1 0),(3,.p 3 0),(26,.v (.slice (some ⟨aa,0,none⟩) 3 3)),(31,.v (.bool (((D.f 2).A).isNone)))] 3 (qab qag) (fun _ h=>h.cells) df fY fun jL f5=>?_
 refine qau (i:=7) kz (qaC f5 (t:=34) (A:=(some ⟨aa,0,none⟩)) (m:=3) (q:=2) (d:=32) kz (e:=37) (size:=5) (bytes:=88) (j:=2) kz (b:=aa) (o:=0) rfl rfl (by decide) fun jM f7=>?_)
 have f8:=f7.recast 32 (.v (.pointer (some ⟨aa,0 + 2 * 5,none⟩))) (.p 2 10) rfl rfl (Nat.le_of_ble_eq_true (n:=3) rfl)
 have f9:=f8.pk (env':=[(0,.p 0 0),(2,.p 1 0),(3,.p 3 0),(26,.v (.slice (some ⟨aa,0,none⟩) 3 3)),(31,.v (.bool (((D.f 2).A).isNone))),(32,.p 2 10)])
 refine ⟨fun _=>df,?_⟩
 refine qaI [8] [(0,.p 0 0),(2,.p 1 0),(3,.p 3 0),(31,.v (.bool (((D.f 2).A).isNone))),(33,.p 2 12)] 1 (qab qag) (fun _ h=>h.cells) df f9 fun jN ga=>?_
 refine qau (i:=9) kz (qav fZ ga (oi:=2) (cs:=[.int .i64 (IntKind.i64.wrap ((D.f 0).n)),.slice none 0 0,.bool false,.slice none 0 0,.slice none 0 0,.int .i64 (IntKind.i64.wrap ((D.f 1).n)),.slice none 0 0,.bool false,.slice none 0 0,.slice none 0 0,.int .i64 0,.slice none 0 0,.bool (((D.f 2).A).isNone),.slice none 0 0,.slice none 0 0]) kz fun jO hK dg gb=>?_)
 refine ⟨fun h=>absurd rfl h,?_⟩
 refine qaH kz ?_ _
 refine qac ?_
 refine wp_seq ?_
 refine qar [(0,.p 0 0),(2,.p 1 0),(3,.p 3 0),(38,.v (.int .i64 (((D.f 2).l:Nat):Int))),(39,.v (.int .i64 0))] dg gb fun jP gc=>?_
 refine wp_block ?_
 have dx:=dg.addNil 37 5
 have hZ:=dg.frNil 37 5
 refine wp_loop_ghost (fun n_ a_ w_=>∃ (k2_:Nat) (A2_:Option Addr) (c2_:Nat) (xs2_:List Value) (css2_:List (List Value)),n_ = (D.f 2).l - k2_ ∧ k2_ ≤ (D.f 2).l ∧ (Trees w_ (Imm F w w_ [⟨b,o,[.int .i16 v,.int .i32 ((D.f 0).n),.int .i16 ((D.f 1).n),.slice ((D.f 2).A) ((D.f 2).l) ((D.f 2).c),.map D.m],false⟩,⟨b5,0,[.int .i64 0,.slice none 0 0,.bool false,.slice none 0 0,.slice none 0 0],true⟩,⟨aa,0,[.int .i64 (IntKind.i64.wrap ((D.f 0).n)),.slice none 0 0,.bool false,.slice none 0 0,.slice none 0 0,.int .i64 (IntKind.i64.wrap ((D.f 1).n)),.slice none 0 0,.bool false,.slice none 0 0,.slice none 0 0,.int .i64 0,.slice none 0 0,.bool (((D.f 2).A).isNone),.slice A2_ k2_ c2_,.slice none 0 0],true⟩,⟨bx,0,[.int .i64 0,.slice none 0 0,.bool false,.slice (some ⟨aa,0,none⟩) 3 3,.slice none 0 0],true⟩] [⟨A2_,c2_,37,5,k2_,xs2_⟩]) xs2_ (((List.range (D.f 2).l).map (fun i=>qaW ((D.f 2).f i))).take k2_) css2_) ∧ LInv dx 90 [⟨b,o,[.int .i16 v,.int .i32 ((D.f 0).n),.int .i16 ((D.f 1).n),.slice ((D.f 2).A) ((D.f 2).l) ((D.f 2).c),.map D.m],false⟩,⟨b5,0,[.int .i64 0,.slice none 0 0,.bool false,.slice none 0 0,.slice none 0 0],true⟩,⟨aa,0,[.int .i64 (IntKind.i64.wrap ((D.f 0).n)),.slice none 0 0,.bool false,.slice none 0 0,.slice none 0 0,.int .i64 (IntKind.i64.wrap ((D.f 1).n)),.slice none 0 0,.bool false,.slice none 0 0,.slice none 0 0,.int .i64 0,.slice none 0 0,.bool (((D.f 2).A).isNone),.slice A2_ k2_ c2_,.slice none 0 0],true⟩,⟨bx,0,[.int .i64 0,.slice none 0 0,.bool false,.slice (some ⟨aa,0,none⟩) 3 3,.slice none 0 0],true⟩] [⟨A2_,c2_,37,5,k2_,xs2_⟩] [(0,.p 0 0),(2,.p 1 0),(3,.p 3 0),(38,.v (.int .i64 (((D.f 2).l:Nat):Int))),(39,.v (.int .i64 ((k2_:Nat):Int)))] a_ w_) ((D.f 2).l) ⟨0,none,0,[],[],by omega,by omega,Trees.nil _ _,gc.pk,dx,Fr.refl _ _ _⟩ ?_
 rintro jQ jR ia ⟨k2_,A2_,c2_,xs2_,css2_,ib,ic,hT2_,gd,aA,dh⟩
 refine qar [(0,.p 0 0),(2,.p 1 0),(3,.p 3 0),(38,.v (.int .i64 (((D.f 2).l:Nat):Int))),(39,.v (.int .i64 ((k2_:Nat):Int))),(40,.v (.bool (decide (((k2_:Nat):Int) < (((D.f 2).l:Nat):Int)))))] aA gd fun jS di=>?_
 refine wp_seq ?_
 refine qax di (b:=decide (((k2_:Nat):Int) < (((D.f 2).l:Nat):Int))) kz (fun dj=>?_) (fun dj=>?_)
 ·
  have ig:=of_decide_eq_true dj
  refine wp_skip ?_
  refine qac ?_
  refine wp_seq ?_
  refine wp_block ?_
  refine qar [(0,.p 0 0),(2,.p 1 0),(3,.p 3 0),(4,.v (.int .i64 ((k2_:Nat):Int))),(38,.v (.int .i64 (((D.f 2).l:Nat):Int))),(39,.v (.int .i64 ((k2_:Nat):Int)))] aA di fun jT ge=>?_
  refine qaM 4 kz aA fun jU aE dy gy=>?_
  refine qau (i:=0) kz (qaZ dy ge (d:=42) (cs:=[.bool false]) kz fun ii ij ik gz gA ab bV cG=>?_)
  have dz:=TT.ofW ab bV
  refine ⟨fun _=>dz,?_⟩
  refine qdz (i:=1) (j:=2) kz ?_ ?_
  ·
   refine (qav bV cG (oi:=4) (cs:=[.bool true]) kz fun il aB cH dA=>?_)
   have dB:=TT.ofW (ab.trans aB) cH
   refine ⟨fun _=>dB,?_⟩
   refine qau (i:=2) kz (qav cH dA (oi:=4) (cs:=[.bool false]) kz fun im bd bz dC=>?_)
   have dD:=TT.ofW ((ab.trans aB).trans bd) bz
   refine ⟨fun _=>dD,?_⟩
   refine qau (i:=3) kz (qbo [0,2,3,4,38,39,43] bz.cells dC (env':=[(0,.p 0 0),(2,.p 1 0),(3,.p 3 0),(4,.v (.int .i64 ((k2_:Nat):Int))),(38,.v (.int .i64 (((D.f 2).l:Nat):Int))),(39,.v (.int .i64 ((k2_:Nat):Int))),(43,.v (.bool false))]) kz fun io cI=>?_)
   have dE:=TT.ofW ((ab.trans aB).trans bd) bz
   refine ⟨fun _=>dE,?_⟩
   refine qaH kz ?_ _
   refine qac ?_
   refine qat cI (b:=false) kz rfl ?_
   refine qcO 18 kz bz fun ip bW ao bA=>?_
   refine qaI [0,1,2,3,7,8,9,10,11] [(0,.p 0 0),(2,.p 1 0),(3,.p 3 0),(38,.v (.int .i64 (((D.f 2).l:Nat):Int))),(39,.v (.int .i64 ((k2_:Nat):Int))),(63,.v (.slice (some ⟨aa,0,none⟩) 3 3)),(65,.v (.slice (some ⟨aa,0,none⟩) 3 3)),(72,.v (.slice ((D.f 2).A) ((D.f 2).l) ((D.f 2).c))),(73,.v (.int .i64 ((k2_:Nat):Int)))] 10 (qae (qab (qab (qae (qab qag))))) (fun _ h=>h.cells) bA cI fun iq dF=>?_
   refine qaR dF (i:=4) (t:=34) (A:=(some ⟨aa,0,none⟩)) (m:=3) (q:=2) (d:=66) kz (e:=37) (size:=5) (bytes:=88) (j:=2) kz (b:=aa) (o:=0) rfl rfl (by decide) kz kz (qae (qab (qab (qae (qab qag))))) bA fun ir dG=>?_
   have dH:=dG.recast 66 (.v (.pointer (some ⟨aa,0 + 2 * 5,none⟩))) (.p 2 10) rfl rfl (Nat.le_of_ble_eq_true (n:=3) rfl)
   have dI:=dH.pk (env':=[(0,.p 0 0),(2,.p 1 0),(3,.p 3 0),(38,.v (.int .i64 (((D.f 2).l:Nat):Int))),(39,.v (.int .i64 ((k2_:Nat):Int))),(63,.v (.slice (some ⟨aa,0,none⟩) 3 3)),(65,.v (.slice (some ⟨aa,0,none⟩) 3 3)),(72,.v (.slice ((D.f 2).A) ((D.f 2).l) ((D.f 2).c))),(73,.v (.int .i64 ((k2_:Nat):Int))),(66,.p 2 10)])
   refine qaI [5,6] [(0,.p 0 0),(2,.p 1 0),(3,.p 3 0),(38,.v (.int .i64 (((D.f 2).l:Nat):Int))),(39,.v (.int .i64 ((k2_:Nat):Int))),(63,.v (.slice (some ⟨aa,0,none⟩) 3 3)),(68,.v (.slice A2_ k2_ c2_)),(72,.v (.slice ((D.f 2).A) ((D.f 2).l) ((D.f 2).c))),(73,.v (.int .i64 ((k2_:Nat):Int)))] 7 (qae (qab (qab (qae (qab qag))))) (fun _ h=>h.cells) bA dI fun iu dJ=>?_
   obtain ⟨dK,dL,dM,gB,dl⟩:=Slots.get g3 (i:=k2_) (by omega)
   refine qaR dJ (i:=12) (t:=80) (A:=(D.f 2).A) (m:=((D.f 2).l)) (q:=((k2_:Nat):Int)) (d:=74) kz (e:=92) (size:=18) (bytes:=48) kz dM rfl (by omega) kz kz (qae (qab (qab (qae (qab qag))))) bA fun iv dN=>?_
   refine qau (i:=13) kz (qam dN (f:=63) (vs:=[.pointer (some ⟨dK,dL + k2_ * 18,none⟩)]) (d:=75) kz Tryz.call63 (qbw 0 ((D.f 2).f k2_) _ _ _ _ (dl.move ao.step nilM ao.imm) (qa1 _ ao.step nilM ao.imm (g3e k2_ (by omega)))) ?_)
   rintro e_ iw ⟨gC,rfl,dO,bX⟩
   have bY:=dO.move (Step.refl _ Nil) nilM (ao.laid (G:=F) bX)
   obtain ⟨bI,bJ,bK,bL,bM,bN,bO,bP,bQ,bR,bS,gD,gE,bZ,gg,gh,ix,iy⟩:=bY.open_
   rw [bZ] at bY
   have gi:=gg.small
   have gj:=gh.small
   rw [bZ]
   refine ⟨_,rfl,fun iz dP=>?_⟩
   have cJ:=ao.next_nil bX
   have ap:=ao.frN bX
   have dQ:=TT.ofW ap cJ
   refine ⟨fun _=>dQ,?_⟩
   refine qau (i:=14) kz (qbA cJ dP (e:=37) (size:=5) (len:=1) (cs:=[.int .i64 bI,.slice bN bJ.length bO,.bool bK,.slice bP bL.length bQ,.slice bR bM.length bS]) (d:=76) kz kz fun dR iA iB gF gG ag bB dS=>?_)
   have dT:=TT.ofW (ap.trans ag) bB
   refine ⟨fun _=>dT,?_⟩
   refine qau (i:=15) kz (qaY bB dS (k:=0) (d:=77) (t:=34) (e:=37) (size:=5) (bytes:=88) (A:=A2_) (As:=(some ⟨dR,0,none⟩)) (m0:=k2_) (c:=c2_) (m:=1) (cs:=1) (xs:=xs2_) (news:=[.int .i64 bI,.slice bN bJ.length bO,.bool bK,.slice bP bL.length bQ,.slice bR bM.length bS]) kz kz rfl (qbH (bB.own 1 _ rfl) (qbD kz)) (qbQ (bB.own 1 _ rfl)) (by omega) fun bT bU iC iD ar b8 dU=>?_)
   have dV:=TT.ofW ((ap.trans ag).trans ar) b8
   refine ⟨fun _=>dV,?_⟩
   refine qau (i:=16) kz (qaC dU (t:=34) (A:=(some ⟨aa,0,none⟩)) (m:=3) (q:=2) (d:=78) kz (e:=37) (size:=5) (bytes:=88) (j:=2) kz (b:=aa) (o:=0) rfl rfl (by decide) fun iE dW=>?_)
   have dX:=dW.recast 78 (.v (.pointer (some ⟨aa,0 + 2 * 5,none⟩))) (.p 2 10) rfl rfl (Nat.le_of_ble_eq_true (n:=3) rfl)
   have dY:=dX.pk (env':=[(0,.p 0 0),(2,.p 1 0),(3,.p 3 0),(38,.v (.int .i64 (((D.f 2).l:Nat):Int))),(39,.v (.int .i64 ((k2_:Nat):Int))),(63,.v (.slice (some ⟨aa,0,none⟩) 3 3)),(68,.v (.slice A2_ k2_ c2_)),(72,.v (.slice ((D.f 2).A) ((D.f 2).l) ((D.f 2).c))),(73,.v (.int .i64 ((k2_:Nat):Int))),(74,.v (.pointer (some ⟨dK,dL + k2_ * 18,none⟩))),(75,.v (.agg #[.int .i64 bI,.slice bN bJ.length bO,.bool bK,.slice bP bL.length bQ,.slice bR bM.length bS])),(76,.v (.slice (some ⟨dR,0,none⟩) 1 1)),(77,.v (.slice bT (k2_ + 1) bU)),(78,.p 2 10)])
   have cK:=TT.ofW ((ap.trans ag).trans ar) b8
   refine ⟨fun _=>cK,?_⟩
   refine qaI [17] [(0,.p 0 0),(2,.p 1 0),(3,.p 3 0),(38,.v (.int .i64 (((D.f 2).l:Nat):Int))),(39,.v (.int .i64 ((k2_:Nat):Int))),(77,.v (.slice bT (k2_ + 1) bU)),(79,.p 2 13)] 1 (qae (qab (qab (qae (qab qag))))) (fun _ h=>h.cells) cK dY fun iF dZ=>?_
   refine qau (i:=18) kz (qav b8 dZ (oi:=2) (cs:=[.int .i64 (IntKind.i64.wrap ((D.f 0).n)),.slice none 0 0,.bool false,.slice none 0 0,.slice none 0 0,.int .i64 (IntKind.i64.wrap ((D.f 1).n)),.slice none 0 0,.bool false,.slice none 0 0,.slice none 0 0,.int .i64 0,.slice none 0 0,.bool (((D.f 2).A).isNone),.slice bT (k2_ + 1) bU,.slice none 0 0]) kz fun iG bf cL d5=>?_)
   refine ⟨fun h=>absurd rfl h,?_⟩
   refine qaH kz ?_ _
   refine qas ?_
   refine qac ?_
   refine qaq [0,1] kz ?_
   refine qal [0,1] [] [(0,.p 0 0),(2,.p 1 0),(3,.p 3 0),(38,.v (.int .i64 (((D.f 2).l:Nat):Int))),(39,.v (.int .i64 (IntKind.i64.wrap (((k2_:Nat):Int) + 1))))] cL d5 fun iH d6=>?_
   refine qah (qac ?_)
   obtain ⟨cM,d7,bg⟩:=cL.cutB d6 4 [⟨b,o,[.int .i16 v,.int .i32 ((D.f 0).n),.int .i16 ((D.f 1).n),.slice ((D.f 2).A) ((D.f 2).l) ((D.f 2).c),.map D.m],false⟩,⟨b5,0,[.int .i64 0,.slice none 0 0,.bool false,.slice none 0 0,.slice none 0 0],true⟩,⟨aa,0,[.int .i64 (IntKind.i64.wrap ((D.f 0).n)),.slice none 0 0,.bool false,.slice none 0 0,.slice none 0 0,.int .i64 (IntKind.i64.wrap ((D.f 1).n)),.slice none 0 0,.bool false,.slice none 0 0,.slice none 0 0,.int .i64 0,.slice none 0 0,.bool (((D.f 2).A).isNone),.slice bT (k2_ + 1) bU,.slice none 0 0],true⟩,⟨bx,0,[.int .i64 0,.slice none 0 0,.bool false,.slice (some ⟨aa,0,none⟩) 3 3,.slice none 0 0],true⟩] [(0,.p 0 0),(2,.p 1 0),(3,.p 3 0),(38,.v (.int .i64 (((D.f 2).l:Nat):Int))),(39,.v (.int .i64 (IntKind.i64.wrap (((k2_:Nat):Int) + 1))))]
   obtain ⟨d8,bh⟩:=d7.cutR 1 [⟨bT,bU,37,5,k2_ + 1,xs2_ ++ [.int .i64 bI,.slice bN bJ.length bO,.bool bK,.slice bP bL.length bQ,.slice bR bM.length bS]⟩]
   have d9:IntKind.i64.wrap (((k2_:Nat):Int) + 1) = ((k2_ + 1:Nat):Int):=qaX (by omega)
   rw [d9] at cM
   exact ⟨(D.f 2).l - (k2_ + 1),by omega,k2_ + 1,bT,bU,xs2_ ++ [Value.int .i64 bI,.slice bN bJ.length bO,.bool bK,.slice bP bL.length bQ,.slice bR bM.length bS],(css2_ ++ [[Value.int .i64 bI,.slice bN bJ.length bO,.bool bK,.slice bP bL.length bQ,.slice bR bM.length bS]]),rfl,by omega,by rw [qco (by omega)]; exact (hT2_.move ((((((((((aE.trans ab).trans aB).trans bd).trans bW).trans ap).trans ag).trans ar).trans bf).trans bg).trans bh).step immM ((((((((((aE.trans ab).trans aB).trans bd).trans bW).trans ap).trans ag).trans ar).trans bf).trans bg).trans bh).to').snoc (x:=(fun i=>qaW ((D.f 2).f i)) k2_) (bY.move ((((ag.trans ar).trans bf).trans bg).trans bh).step immM ((((ag.trans ar).trans bf).trans bg).trans bh).to'),cM.pk,d8,(((((((((((dh.trans aE).trans ab).trans aB).trans bd).trans bW).trans ap).trans ag).trans ar).trans bf).trans bg).trans bh)⟩
  refine (qav bV cG (oi:=4) (cs:=[.bool false]) kz fun iI ac cN ea=>?_)
  have eb:=TT.ofW (ab.trans ac) cN
  refine ⟨fun _=>eb,?_⟩
  refine qau (i:=1) kz (qav cN ea (oi:=4) (cs:=[.bool true]) kz fun iJ ah bC ec=>?_)
  have ee:=TT.ofW ((ab.trans ac).trans ah) bC
  refine ⟨fun _=>ee,?_⟩
  refine qau (i:=3) kz (qbo [0,2,3,4,38,39,43] bC.cells ec (env':=[(0,.p 0 0),(2,.p 1 0),(3,.p 3 0),(4,.v (.int .i64 ((k2_:Nat):Int))),(38,.v (.int .i64 (((D.f 2).l:Nat):Int))),(39,.v (.int .i64 ((k2_:Nat):Int))),(43,.v (.bool true))]) kz fun iK cO=>?_)
  have ef:=TT.ofW ((ab.trans ac).trans ah) bC
  refine ⟨fun _=>ef,?_⟩
  refine qaH kz ?_ _
  refine qac ?_
  refine qbf cO (b:=true) kz rfl ?_
  refine qaM 17 kz bC fun iL aC ai bD=>?_
  refine qaI [0,1,5,6,7,8,9] [(0,.p 0 0),(2,.p 1 0),(3,.p 3 0),(38,.v (.int .i64 (((D.f 2).l:Nat):Int))),(39,.v (.int .i64 ((k2_:Nat):Int))),(45,.v (.slice (some ⟨aa,0,none⟩) 3 3)),(52,.v (.slice ((D.f 2).A) ((D.f 2).l) ((D.f 2).c))),(53,.v (.int .i64 ((k2_:Nat):Int)))] 11 (qab (qae (qab (qab (qae (qab qag)))))) (fun _ h=>h.cells) bD cO fun iM eg=>?_
  refine qaR eg (i:=2) (t:=34) (A:=(some ⟨aa,0,none⟩)) (m:=3) (q:=2) (d:=46) kz (e:=37) (size:=5) (bytes:=88) (j:=2) kz (b:=aa) (o:=0) rfl rfl (by decide) kz kz (qab (qae (qab (qab (qae (qab qag)))))) bD fun iN eh=>?_
  have ei:=eh.recast 46 (.v (.pointer (some ⟨aa,0 + 2 * 5,none⟩))) (.p 2 10) rfl rfl (Nat.le_of_ble_eq_true (n:=3) rfl)
  have ej:=ei.pk (env':=[(0,.p 0 0),(2,.p 1 0),(3,.p 3 0),(38,.v (.int .i64 (((D.f 2).l:Nat):Int))),(39,.v (.int .i64 ((k2_:Nat):Int))),(45,.v (.slice (some ⟨aa,0,none⟩) 3 3)),(52,.v (.slice ((D.f 2).A) ((D.f 2).l) ((D.f 2).c))),(53,.v (.int .i64 ((k2_:Nat):Int))),(46,.p 2 10)])
  refine qaI [3,4,12] [(0,.p 0 0),(2,.p 1 0),(3,.p 3 0),(38,.v (.int .i64 (((D.f 2).l:Nat):Int))),(39,.v (.int .i64 ((k2_:Nat):Int))),(45,.v (.slice (some ⟨aa,0,none⟩) 3 3)),(48,.v (.slice A2_ k2_ c2_)),(52,.v (.slice ((D.f 2).A) ((D.f 2).l) ((D.f 2).c))),(53,.v (.int .i64 ((k2_:Nat):Int))),(56,.v (.int .i64 ((k2_:Nat):Int)))] 7 (qab (qae (qab (qab (qae (qab qag)))))) (fun _ h=>h.cells) bD ej fun iO ek=>?_
  obtain ⟨cD,cE,em,gH,cd⟩:=Slots.get g3 (i:=k2_) (by omega)
  refine qaR ek (i:=10) (t:=80) (A:=(D.f 2).A) (m:=((D.f 2).l)) (q:=((k2_:Nat):Int)) (d:=54) kz (e:=92) (size:=18) (bytes:=48) kz em rfl (by omega) kz kz (qab (qae (qab (qab (qae (qab qag)))))) bD fun iP cP=>?_
  refine qdz (i:=11) (j:=13) kz ?_ ?_
  ·
   refine (qam cP (f:=63) (vs:=[.pointer (some ⟨cD,cE + k2_ * 18,none⟩)]) (d:=55) kz Tryz.call63 (qbw 0 ((D.f 2).f k2_) _ _ _ _ (cd.move ai.step nilM ai.imm) (qa1 _ ai.step nilM ai.imm (g3e k2_ (by omega)))) ?_)
   rintro e_ iQ ⟨gI,rfl,eo,ce⟩
   have cm:=eo.move (Step.refl _ Nil) nilM (ai.laid (G:=F) ce)
   obtain ⟨aF,aG,aH,aI,aJ,aK,aL,aM,aN,aO,aP,gJ,gK,cq,gk,gl,iR,iS⟩:=cm.open_
   rw [cq] at cm
   have gm:=gk.small
   have gn:=gl.small
   rw [cq]
   refine ⟨_,rfl,fun iT ep=>?_⟩
   have cQ:=ai.next_nil ce
   have au:=ai.frN ce
   have eu:=TT.ofW au cQ
   refine ⟨fun _=>eu,?_⟩
   refine qau (i:=13) kz (qbA cQ ep (e:=37) (size:=5) (len:=1) (cs:=[.int .i64 0,.slice none 0 0,.bool false,.slice none 0 0,.slice none 0 0]) (d:=57) kz kz fun dp iU iV gL gM aj bE ev=>?_)
   have ew:=TT.ofW (au.trans aj) bE
   refine ⟨fun _=>ew,?_⟩
   refine qau (i:=14) kz (qaY bE ev (k:=0) (d:=58) (t:=34) (e:=37) (size:=5) (bytes:=88) (A:=A2_) (As:=(some ⟨dp,0,none⟩)) (m0:=k2_) (c:=c2_) (m:=1) (cs:=1) (xs:=xs2_) (news:=[.int .i64 0,.slice none 0 0,.bool false,.slice none 0 0,.slice none 0 0]) kz kz rfl (qbH (bE.own 1 _ rfl) (qbD kz)) (qbQ (bE.own 1 _ rfl)) (by omega) fun al av iW iX aw cr ey=>?_)
   have ez:=TT.ofW ((au.trans aj).trans aw) cr
   refine ⟨fun _=>ez,?_⟩
   refine qau (i:=15) kz (qaC ey (t:=34) (A:=(some ⟨aa,0,none⟩)) (m:=3) (q:=2) (d:=59) kz (e:=37) (size:=5) (bytes:=88) (j:=2) kz (b:=aa) (o:=0) rfl rfl (by decide) fun iY eB=>?_)
   have eC:=eB.recast 59 (.v (.pointer (some ⟨aa,0 + 2 * 5,none⟩))) (.p 2 10) rfl rfl (Nat.le_of_ble_eq_true (n:=3) rfl)
   have eD:=eC.pk (env':=[(0,.p 0 0),(2,.p 1 0),(3,.p 3 0),(38,.v (.int .i64 (((D.f 2).l:Nat):Int))),(39,.v (.int .i64 ((k2_:Nat):Int))),(45,.v (.slice (some ⟨aa,0,none⟩) 3 3)),(48,.v (.slice A2_ k2_ c2_)),(52,.v (.slice ((D.f 2).A) ((D.f 2).l) ((D.f 2).c))),(53,.v (.int .i64 ((k2_:Nat):Int))),(56,.v (.int .i64 ((k2_:Nat):Int))),(54,.v (.pointer (some ⟨cD,cE + k2_ * 18,none⟩))),(55,.v (.agg #[.int .i64 aF,.slice aK aG.length aL,.bool aH,.slice aM aI.length aN,.slice aO aJ.length aP])),(57,.v (.slice (some ⟨dp,0,none⟩) 1 1)),(58,.v (.slice al (k2_ + 1) av)),(59,.p 2 10)])
   have cR:=TT.ofW ((au.trans aj).trans aw) cr
   refine ⟨fun _=>cR,?_⟩
   refine qaI [16] [(0,.p 0 0),(2,.p 1 0),(3,.p 3 0),(38,.v (.int .i64 (((D.f 2).l:Nat):Int))),(39,.v (.int .i64 ((k2_:Nat):Int))),(55,.v (.agg #[.int .i64 aF,.slice aK aG.length aL,.bool aH,.slice aM aI.length aN,.slice aO aJ.length aP])),(56,.v (.int .i64 ((k2_:Nat):Int))),(58,.v (.slice al (k2_ + 1) av)),(60,.p 2 13)] 1 (qab (qae (qab (qab (qae (qab qag)))))) (fun _ h=>h.cells) cR eD fun iZ eE=>?_
   refine qau (i:=17) kz (qav cr eE (oi:=2) (cs:=[.int .i64 (IntKind.i64.wrap ((D.f 0).n)),.slice none 0 0,.bool false,.slice none 0 0,.slice none 0 0,.int .i64 (IntKind.i64.wrap ((D.f 1).n)),.slice none 0 0,.bool false,.slice none 0 0,.slice none 0 0,.int .i64 0,.slice none 0 0,.bool (((D.f 2).A).isNone),.slice al (k2_ + 1) av,.slice none 0 0]) kz fun gp bi cS eF=>?_)
   refine ⟨fun h=>absurd rfl h,?_⟩
   refine qaH kz ?_ _
   refine qac ?_
   refine qaq [0,1] kz ?_
   have eG:World.ownsRow gp 0 37 5 (.slice al (k2_ + 1) av) (k2_ + 1) (xs2_ ++ [.int .i64 0,.slice none 0 0,.bool false,.slice none 0 0,.slice none 0 0]):=cS.own 0 _ rfl
   obtain ⟨eH,cT⟩:=qca eG (by omega)
   refine qan (qaC eF (t:=34) (A:=al) (m:=(k2_ + 1)) (q:=((k2_:Nat):Int)) (d:=61) kz (e:=37) (size:=5) (bytes:=88) kz (b:=eH) (o:=0) (j:=k2_) cT (rfl) (by omega) fun i6 eI=>?_)
   refine qan (qbX cS eI (k:=0) (g:=eH) (o:=k2_ * 5) (c:=av) (m:=(k2_ + 1)) (size:=5) (e:=37) (A:=al) (xs:=(xs2_ ++ [.int .i64 0,.slice none 0 0,.bool false,.slice none 0 0,.slice none 0 0])) (vs:=[.int .i64 aF,.slice aK aG.length aL,.bool aH,.slice aM aI.length aN,.slice aO aJ.length aP]) kz rfl cT (by simp only [List.length_cons,List.length_nil]; omega) fun i7 bj eJ eK=>?_)
   have eL:(⟨al,av,37,5,k2_ + 1,qbx (xs2_ ++ [.int .i64 0,.slice none 0 0,.bool false,.slice none 0 0,.slice none 0 0]) (k2_ * 5) [.int .i64 aF,.slice aK aG.length aL,.bool aH,.slice aM aI.length aN,.slice aO aJ.length aP]⟩:Rw) = ⟨al,av,37,5,k2_ + 1,xs2_ ++ [.int .i64 aF,.slice aK aG.length aL,.bool aH,.slice aM aI.length aN,.slice aO aJ.length aP]⟩:=by rw [qcK (by rw [hT2_.xslen,List.length_take,qcc]; omega)]
   obtain ⟨cU,bk⟩:=eJ.rowEq 0 [⟨al,av,37,5,k2_ + 1,xs2_ ++ [.int .i64 aF,.slice aK aG.length aL,.bool aH,.slice aM aI.length aN,.slice aO aJ.length aP]⟩,⟨some ⟨dp,0,none⟩,1,37,5,1,[.int .i64 0,.slice none 0 0,.bool false,.slice none 0 0,.slice none 0 0]⟩] eL
   refine qah ?_
   refine qas ?_
   refine qac ?_
   refine qaq [0,1] kz ?_
   refine qal [0,1] [] [(0,.p 0 0),(2,.p 1 0),(3,.p 3 0),(38,.v (.int .i64 (((D.f 2).l:Nat):Int))),(39,.v (.int .i64 (IntKind.i64.wrap (((k2_:Nat):Int) + 1))))] cU eK fun ja eM=>?_
   refine qah (qac ?_)
   obtain ⟨cV,eN,bn⟩:=cU.cutB eM 4 [⟨b,o,[.int .i16 v,.int .i32 ((D.f 0).n),.int .i16 ((D.f 1).n),.slice ((D.f 2).A) ((D.f 2).l) ((D.f 2).c),.map D.m],false⟩,⟨b5,0,[.int .i64 0,.slice none 0 0,.bool false,.slice none 0 0,.slice none 0 0],true⟩,⟨aa,0,[.int .i64 (IntKind.i64.wrap ((D.f 0).n)),.slice none 0 0,.bool false,.slice none 0 0,.slice none 0 0,.int .i64 (IntKind.i64.wrap ((D.f 1).n)),.slice none 0 0,.bool false,.slice none 0 0,.slice none 0 0,.int .i64 0,.slice none 0 0,.bool (((D.f 2).A).isNone),.slice al (k2_ + 1) av,.slice none 0 0],true⟩,⟨bx,0,[.int .i64 0,.slice none 0 0,.bool false,.slice (some ⟨aa,0,none⟩) 3 3,.slice none 0 0],true⟩] [(0,.p 0 0),(2,.p 1 0),(3,.p 3 0),(38,.v (.int .i64 (((D.f 2).l:Nat):Int))),(39,.v (.int .i64 (IntKind.i64.wrap (((k2_:Nat):Int) + 1))))]
   obtain ⟨eO,bo⟩:=eN.cutR 1 [⟨al,av,37,5,k2_ + 1,xs2_ ++ [.int .i64 aF,.slice aK aG.length aL,.bool aH,.slice aM aI.length aN,.slice aO aJ.length aP]⟩]
   have eP:IntKind.i64.wrap (((k2_:Nat):Int) + 1) = ((k2_ + 1:Nat):Int):=qaX (by omega)
   rw [eP] at cV
   exact ⟨(D.f 2).l - (k2_ + 1),by omega,k2_ + 1,al,av,xs2_ ++ [Value.int .i64 aF,.slice aK aG.length aL,.bool aH,.slice aM aI.length aN,.slice aO aJ.length aP],(css2_ ++ [[Value.int .i64 aF,.slice aK aG.length aL,.bool aH,.slice aM aI.length aN,.slice aO aJ.length aP]]),rfl,by omega,by rw [qco (by omega)]; exact (hT2_.move ((((((((((((aE.trans ab).trans ac).trans ah).trans aC).trans au).trans aj).trans aw).trans bi).trans bj).trans bk).trans bn).trans bo).step immM ((((((((((((aE.trans ab).trans ac).trans ah).trans aC).trans au).trans aj).trans aw).trans bi).trans bj).trans bk).trans bn).trans bo).to').snoc (x:=(fun i=>qaW ((D.f 2).f i)) k2_) (cm.move ((((((aj.trans aw).trans bi).trans bj).trans bk).trans bn).trans bo).step immM ((((((aj.trans aw).trans bi).trans bj).trans bk).trans bn).trans bo).to'),cV.pk,eO,(((((((((((((dh.trans aE).trans ab).trans ac).trans ah).trans aC).trans au).trans aj).trans aw).trans bi).trans bj).trans bk).trans bn).trans bo)⟩
  refine (qbA ai cP (e:=37) (size:=5) (len:=1) (cs:=[.int .i64 0,.slice none 0 0,.bool false,.slice none 0 0,.slice none 0 0]) (d:=57) kz kz fun dq jb jc gN gO ax ak eQ=>?_)
  have eR:=TT.ofW ax ak
  refine ⟨fun _=>eR,?_⟩
  refine qau (i:=11) kz (qam eQ (f:=63) (vs:=[.pointer (some ⟨cD,cE + k2_ * 18,none⟩)]) (d:=55) kz Tryz.call63 (qbw 0 ((D.f 2).f k2_) _ _ _ _ (cd.move ak.step nilM ak.imm) (qa1 _ ak.step nilM ak.imm (g3e k2_ (by omega)))) ?_)
  rintro e_ jd ⟨gP,rfl,eS,cu⟩
  have cw:=eS.move (Step.refl _ Nil) nilM (ak.laid (G:=F) cu)
  obtain ⟨aQ,aR,aS,aT,aU,aV,aW,aX,aY,aZ,ba,gQ,gR,cz,gq,gt,je,jf⟩:=cw.open_
  rw [cz] at cw
  have gv:=gq.small
  have gw:=gt.small
  rw [cz]
  refine ⟨_,rfl,fun jg eU=>?_⟩
  have bF:=ak.next_nil cu
  have aD:=ak.frN cu
  have eV:=TT.ofW (ax.trans aD) bF
  refine ⟨fun _=>eV,?_⟩
  refine qau (i:=14) kz (qaY bF eU (k:=0) (d:=58) (t:=34) (e:=37) (size:=5) (bytes:=88) (A:=A2_) (As:=(some ⟨dq,0,none⟩)) (m0:=k2_) (c:=c2_) (m:=1) (cs:=1) (xs:=xs2_) (news:=[.int .i64 0,.slice none 0 0,.bool false,.slice none 0 0,.slice none 0 0]) kz kz rfl (qbH (bF.own 1 _ rfl) (qbD kz)) (qbQ (bF.own 1 _ rfl)) (by omega) fun am ay jh ji az cA eW=>?_)
  have eX:=TT.ofW ((ax.trans aD).trans az) cA
  refine ⟨fun _=>eX,?_⟩
  refine qau (i:=15) kz (qaC eW (t:=34) (A:=(some ⟨aa,0,none⟩)) (m:=3) (q:=2) (d:=59) kz (e:=37) (size:=5) (bytes:=88) (j:=2) kz (b:=aa) (o:=0) rfl rfl (by decide) fun jj eY=>?_)
  have eZ:=eY.recast 59 (.v (.pointer (some ⟨aa,0 + 2 * 5,none⟩))) (.p 2 10) rfl rfl (Nat.le_of_ble_eq_true (n:=3) rfl)
  have e9:=eZ.pk (env':=[(0,.p 0 0),(2,.p 1 0),(3,.p 3 0),(38,.v (.int .i64 (((D.f 2).l:Nat):Int))),(39,.v (.int .i64 ((k2_:Nat):Int))),(45,.v (.slice (some ⟨aa,0,none⟩) 3 3)),(48,.v (.slice A2_ k2_ c2_)),(52,.v (.slice ((D.f 2).A) ((D.f 2).l) ((D.f 2).c))),(53,.v (.int .i64 ((k2_:Nat):Int))),(56,.v (.int .i64 ((k2_:Nat):Int))),(54,.v (.pointer (some ⟨cD,cE + k2_ * 18,none⟩))),(57,.v (.slice (some ⟨dq,0,none⟩) 1 1)),(55,.v (.agg #[.int .i64 aQ,.slice aV aR.length aW,.bool aS,.slice aX aT.length aY,.slice aZ aU.length ba])),(58,.v (.slice am (k2_ + 1) ay)),(59,.p 2 10)])
  have cW:=TT.ofW ((ax.trans aD).trans az) cA
  refine ⟨fun _=>cW,?_⟩
  refine qaI [16] [(0,.p 0 0),(2,.p 1 0),(3,.p 3 0),(38,.v (.int .i64 (((D.f 2).l:Nat):Int))),(39,.v (.int .i64 ((k2_:Nat):Int))),(55,.v (.agg #[.int .i64 aQ,.slice aV aR.length aW,.bool aS,.slice aX aT.length aY,.slice aZ aU.length ba])),(56,.v (.int .i64 ((k2_:Nat):Int))),(58,.v (.slice am (k2_ + 1) ay)),(60,.p 2 13)] 1 (qab (qae (qab (qab (qae (qab qag)))))) (fun _ h=>h.cells) cW e9 fun jk fa=>?_
  refine qau (i:=17) kz (qav cA fa (oi:=2) (cs:=[.int .i64 (IntKind.i64.wrap ((D.f 0).n)),.slice none 0 0,.bool false,.slice none 0 0,.slice none 0 0,.int .i64 (IntKind.i64.wrap ((D.f 1).n)),.slice none 0 0,.bool false,.slice none 0 0,.slice none 0 0,.int .i64 0,.slice none 0 0,.bool (((D.f 2).A).isNone),.slice am (k2_ + 1) ay,.slice none 0 0]) kz fun gx bp cX fb=>?_)
  refine ⟨fun h=>absurd rfl h,?_⟩
  refine qaH kz ?_ _
  refine qac ?_
  refine qaq [0,1] kz ?_
  have fe:World.ownsRow gx 0 37 5 (.slice am (k2_ + 1) ay) (k2_ + 1) (xs2_ ++ [.int .i64 0,.slice none 0 0,.bool false,.slice none 0 0,.slice none 0 0]):=cX.own 0 _ rfl
  obtain ⟨ff,cY⟩:=qca fe (by omega)
  refine qan (qaC fb (t:=34) (A:=am) (m:=(k2_ + 1)) (q:=((k2_:Nat):Int)) (d:=61) kz (e:=37) (size:=5) (bytes:=88) kz (b:=ff) (o:=0) (j:=k2_) cY (rfl) (by omega) fun jl fg=>?_)
  refine qan (qbX cX fg (k:=0) (g:=ff) (o:=k2_ * 5) (c:=ay) (m:=(k2_ + 1)) (size:=5) (e:=37) (A:=am) (xs:=(xs2_ ++ [.int .i64 0,.slice none 0 0,.bool false,.slice none 0 0,.slice none 0 0])) (vs:=[.int .i64 aQ,.slice aV aR.length aW,.bool aS,.slice aX aT.length aY,.slice aZ aU.length ba]) kz rfl cY (by simp only [List.length_cons,List.length_nil]; omega) fun jm bq fh fi=>?_)
  have fj:(⟨am,ay,37,5,k2_ + 1,qbx (xs2_ ++ [.int .i64 0,.slice none 0 0,.bool false,.slice none 0 0,.slice none 0 0]) (k2_ * 5) [.int .i64 aQ,.slice aV aR.length aW,.bool aS,.slice aX aT.length aY,.slice aZ aU.length ba]⟩:Rw) = ⟨am,ay,37,5,k2_ + 1,xs2_ ++ [.int .i64 aQ,.slice aV aR.length aW,.bool aS,.slice aX aT.length aY,.slice aZ aU.length ba]⟩:=by rw [qcK (by rw [hT2_.xslen,List.length_take,qcc]; omega)]
  obtain ⟨cZ,bt⟩:=fh.rowEq 0 [⟨am,ay,37,5,k2_ + 1,xs2_ ++ [.int .i64 aQ,.slice aV aR.length aW,.bool aS,.slice aX aT.length aY,.slice aZ aU.length ba]⟩,⟨some ⟨dq,0,none⟩,1,37,5,1,[.int .i64 0,.slice none 0 0,.bool false,.slice none 0 0,.slice none 0 0]⟩] fj
  refine qah ?_
  refine qas ?_
  refine qac ?_
  refine qaq [0,1] kz ?_
  refine qal [0,1] [] [(0,.p 0 0),(2,.p 1 0),(3,.p 3 0),(38,.v (.int .i64 (((D.f 2).l:Nat):Int))),(39,.v (.int .i64 (IntKind.i64.wrap (((k2_:Nat):Int) + 1))))] cZ fi fun jn fk=>?_
  refine qah (qac ?_)
  obtain ⟨c5,fm,bu⟩:=cZ.cutB fk 4 [⟨b,o,[.int .i16 v,.int .i32 ((D.f 0).n),.int .i16 ((D.f 1).n),.slice ((D.f 2).A) ((D.f 2).l) ((D.f 2).c),.map D.m],false⟩,⟨b5,0,[.int .i64 0,.slice none 0 0,.bool false,.slice none 0 0,.slice none 0 0],true⟩,⟨aa,0,[.int .i64 (IntKind.i64.wrap ((D.f 0).n)),.slice none 0 0,.bool false,.slice none 0 0,.slice none 0 0,.int .i64 (IntKind.i64.wrap ((D.f 1).n)),.slice none 0 0,.bool false,.slice none 0 0,.slice none 0 0,.int .i64 0,.slice none 0 0,.bool (((D.f 2).A).isNone),.slice am (k2_ + 1) ay,.slice none 0 0],true⟩,⟨bx,0,[.int .i64 0,.slice none 0 0,.bool false,.slice (some ⟨aa,0,none⟩) 3 3,.slice none 0 0],true⟩] [(0,.p 0 0),(2,.p 1 0),(3,.p 3 0),(38,.v (.int .i64 (((D.f 2).l:Nat):Int))),(39,.v (.int .i64 (IntKind.i64.wrap (((k2_:Nat):Int) + 1))))]
  obtain ⟨fo,bw⟩:=fm.cutR 1 [⟨am,ay,37,5,k2_ + 1,xs2_ ++ [.int .i64 aQ,.slice aV aR.length aW,.bool aS,.slice aX aT.length aY,.slice aZ aU.length ba]⟩]
  have fq:IntKind.i64.wrap (((k2_:Nat):Int) + 1) = ((k2_ + 1:Nat):Int):=qaX (by omega)
  rw [fq] at c5
  exact ⟨(D.f 2).l - (k2_ + 1),by omega,k2_ + 1,am,ay,xs2_ ++ [Value.int .i64 aQ,.slice aV aR.length aW,.bool aS,.slice aX aT.length aY,.slice aZ aU.length ba],(css2_ ++ [[Value.int .i64 aQ,.slice aV aR.length aW,.bool aS,.slice aX aT.length aY,.slice aZ aU.length ba]]),rfl,by omega,by rw [qco (by omega)]; exact (hT2_.move ((((((((((((aE.trans ab).trans ac).trans ah).trans aC).trans ax).trans aD).trans az).trans bp).trans bq).trans bt).trans bu).trans bw).step immM ((((((((((((aE.trans ab).trans ac).trans ah).trans aC).trans ax).trans aD).trans az).trans bp).trans bq).trans bt).trans bu).trans bw).to').snoc (x:=(fun i=>qaW ((D.f 2).f i)) k2_) (cw.move (((((az.trans bp).trans bq).trans bt).trans bu).trans bw).step immM (((((az.trans bp).trans bq).trans bt).trans bu).trans bw).to'),c5.pk,fo,(((((((((((((dh.trans aE).trans ab).trans ac).trans ah).trans aC).trans ax).trans aD).trans az).trans bp).trans bq).trans bt).trans bu).trans bw)⟩
 have gS:=of_decide_eq_false dj
 refine wp_exit ?_
 refine qaz ?_
 refine qaz ?_
 refine qaT ?_
 refine qac ?_
 refine qaf [0,1,2,3,4] kz ?_
 refine qal [0,1,2] [3,4] [(2,.p 1 0),(3,.p 3 0),(83,.p 0 4)] aA di fun jo fr=>?_
 refine qan (qew fr (v:=.func (.func 65) #[] #[.pointer (some ⟨bx,0,none⟩)]) (d:=84) kz fun jp ft=>?_)
 refine qan (qam ft (f:=64) (vs:=[.pointer (some ⟨b,o + 4,none⟩),.func (.func 65) #[] #[.pointer (some ⟨bx,0,none⟩)]]) (d:=85) kz Tryz.call64 (qeF (F:=(Imm F w ia [⟨b,o,[.int .i16 v,.int .i32 ((D.f 0).n),.int .i16 ((D.f 1).n),.slice ((D.f 2).A) ((D.f 2).l) ((D.f 2).c),.map D.m],false⟩,⟨b5,0,[.int .i64 0,.slice none 0 0,.bool false,.slice none 0 0,.slice none 0 0],true⟩,⟨aa,0,[.int .i64 (IntKind.i64.wrap ((D.f 0).n)),.slice none 0 0,.bool false,.slice none 0 0,.slice none 0 0,.int .i64 (IntKind.i64.wrap ((D.f 1).n)),.slice none 0 0,.bool false,.slice none 0 0,.slice none 0 0,.int .i64 0,.slice none 0 0,.bool (((D.f 2).A).isNone),.slice A2_ k2_ c2_,.slice none 0 0],true⟩,⟨bx,0,[.int .i64 0,.slice none 0 0,.bool false,.slice (some ⟨aa,0,none⟩) 3 3,.slice none 0 0],true⟩] [⟨A2_,c2_,37,5,k2_,xs2_⟩])) Tryz.call65 qcL ((hat.one 4 rfl).move aA.step nilM aA.imm) (g4.move aA.step nilM aA.imm) (Str.of aA 3 rfl) (qjw 3 rfl) g4l) ?_)
 rintro e_ jq ⟨rfl,ae,af,dr,fu,fv⟩
 obtain ⟨cB,c6,fw⟩:=aA.wrote 3 [⟨b,o,[.int .i16 v,.int .i32 ((D.f 0).n),.int .i16 ((D.f 1).n),.slice ((D.f 2).A) ((D.f 2).l) ((D.f 2).c),.map D.m],false⟩,⟨b5,0,[.int .i64 0,.slice none 0 0,.bool false,.slice none 0 0,.slice none 0 0],true⟩,⟨aa,0,[.int .i64 (IntKind.i64.wrap ((D.f 0).n)),.slice none 0 0,.bool false,.slice none 0 0,.slice none 0 0,.int .i64 (IntKind.i64.wrap ((D.f 1).n)),.slice none 0 0,.bool false,.slice none 0 0,.slice none 0 0,.int .i64 0,.slice none 0 0,.bool (((D.f 2).A).isNone),.slice A2_ k2_ c2_,.slice none 0 0],true⟩,⟨bx,0,[.int .i64 0,.slice none 0 0,.bool false,.slice (some ⟨aa,0,none⟩) 3 3,.slice ae D.u.length af],true⟩] rfl fv dr
 have da:=fu.move (Step.refl _ Nil) nilM (fun b_ o_ h_ hb_=>fw (G:=F) b_ o_ (.inr h_) hb_)
 refine ⟨_,rfl,fun jr fx=>?_⟩
 have fy:=(EnvOk.places (tb':=[⟨b,o,[.int .i16 v,.int .i32 ((D.f 0).n),.int .i16 ((D.f 1).n),.slice ((D.f 2).A) ((D.f 2).l) ((D.f 2).c),.map D.m],false⟩,⟨b5,0,[.int .i64 0,.slice none 0 0,.bool false,.slice none 0 0,.slice none 0 0],true⟩,⟨aa,0,[.int .i64 (IntKind.i64.wrap ((D.f 0).n)),.slice none 0 0,.bool false,.slice none 0 0,.slice none 0 0,.int .i64 (IntKind.i64.wrap ((D.f 1).n)),.slice none 0 0,.bool false,.slice none 0 0,.slice none 0 0,.int .i64 0,.slice none 0 0,.bool (((D.f 2).A).isNone),.slice A2_ k2_ c2_,.slice none 0 0],true⟩,⟨bx,0,[.int .i64 0,.slice none 0 0,.bool false,.slice (some ⟨aa,0,none⟩) 3 3,.slice ae D.u.length af],true⟩]) fx (show Pl [⟨b,o,[.int .i16 v,.int .i32 ((D.f 0).n),.int .i16 ((D.f 1).n),.slice ((D.f 2).A) ((D.f 2).l) ((D.f 2).c),.map D.m],false⟩,⟨b5,0,[.int .i64 0,.slice none 0 0,.bool false,.slice none 0 0,.slice none 0 0],true⟩,⟨aa,0,[.int .i64 (IntKind.i64.wrap ((D.f 0).n)),.slice none 0 0,.bool false,.slice none 0 0,.slice none 0 0,.int .i64 (IntKind.i64.wrap ((D.f 1).n)),.slice none 0 0,.bool false,.slice none 0 0,.slice none 0 0,.int .i64 0,.slice none 0 0,.bool (((D.f 2).A).isNone),.slice A2_ k2_ c2_,.slice none 0 0],true⟩,⟨bx,0,[.int .i64 0,.slice none 0 0,.bool false,.slice (some ⟨aa,0,none⟩) 3 3,.slice none 0 0],true⟩] [⟨b,o,[.int .i16 v,.int .i32 ((D.f 0).n),.int .i16 ((D.f 1).n),.slice ((D.f 2).A) ((D.f 2).l) ((D.f 2).c),.map D.m],false⟩,⟨b5,0,[.int .i64 0,.slice none 0 0,.bool false,.slice none 0 0,.slice none 0 0],true⟩,⟨aa,0,[.int .i64 (IntKind.i64.wrap ((D.f 0).n)),.slice none 0 0,.bool false,.slice none 0 0,.slice none 0 0,.int .i64 (IntKind.i64.wrap ((D.f 1).n)),.slice none 0 0,.bool false,.slice none 0 0,.slice none 0 0,.int .i64 0,.slice none 0 0,.bool (((D.f 2).A).isNone),.slice A2_ k2_ c2_,.slice none 0 0],true⟩,⟨bx,0,[.int .i64 0,.slice none 0 0,.bool false,.slice (some ⟨aa,0,none⟩) 3 3,.slice ae D.u.length af],true⟩] from ⟨rfl,rfl,⟨rfl,rfl,⟨rfl,rfl,⟨rfl,rfl,trivial⟩⟩⟩⟩)).pk (env':=[(85,.v (.tuple #[])),(2,.p 1 0),(3,.p 3 0),(83,.p 0 4),(84,.v (.func (.func 65) #[] #[.pointer (some ⟨bx,0,none⟩)]))])
 refine qah (qac ?_)
 refine qaf [0,1,2] kz ?_
 refine qal [0,1] [2] [(2,.p 1 0),(3,.p 3 0),(87,.v (.slice ae D.u.length af))] cB fy fun js fz=>?_
 refine qan (qam fz (f:=66) (vs:=[.slice ae D.u.length af]) (d:=88) kz Tryz.call66 (qgo da g4.sorted) ?_)
 rintro e_ jt ⟨rfl,db⟩
 refine ⟨_,rfl,fun ju fA=>?_⟩
 have dc:=cB.next_nil db
 have bG:=cB.frN db
 refine qah (qac ?_)
 refine qaf [0,1] kz ?_
 refine qal [0] [1] [(2,.p 1 0),(89,.v (.agg #[.int .i64 0,.slice none 0 0,.bool false,.slice (some ⟨aa,0,none⟩) 3 3,.slice ae D.u.length af]))] dc fA fun jv fB=>?_
 refine qan (qav dc fB (oi:=1) (cs:=[.int .i64 0,.slice none 0 0,.bool false,.slice (some ⟨aa,0,none⟩) 3 3,.slice ae D.u.length af]) kz fun dt bH cC fC=>?_)
 refine qah (qac ?_)
 refine wp_ret ?_
 refine qaS fC cC.cells (v:=.agg #[.int .i64 0,.slice none 0 0,.bool false,.slice (some ⟨aa,0,none⟩) 3 3,.slice ae D.u.length af]) kz ?_
 have de:=(hT2_.move ((c6.trans bG).trans bH).step immM ((c6.trans bG).trans bH).to')
 rw [qgn (by omega)] at de
 exact qff (u:=D.u) (l:=[.mk (IntKind.i64.wrap (D.f 0).n) [] false [] [],.mk (IntKind.i64.wrap (D.f 1).n) [] false [] [],.mk 0 [] (D.f 2).A.isNone ((List.range (D.f 2).l).map fun i=>qaW ((D.f 2).f i)) []]) (css:=[[.int .i64 (IntKind.i64.wrap ((D.f 0).n)),.slice none 0 0,.bool false,.slice none 0 0,.slice none 0 0],[.int .i64 (IntKind.i64.wrap ((D.f 1).n)),.slice none 0 0,.bool false,.slice none 0 0,.slice none 0 0],[.int .i64 0,.slice none 0 0,.bool (((D.f 2).A).isNone),.slice A2_ k2_ c2_,.slice none 0 0]]) cC 2 rfl ⟨(show TreeR _ (Imm F w dt [⟨b,o,[.int .i16 v,.int .i32 ((D.f 0).n),.int .i16 ((D.f 1).n),.slice ((D.f 2).A) ((D.f 2).l) ((D.f 2).c),.map D.m],false⟩,⟨b5,0,[.int .i64 0,.slice none 0 0,.bool false,.slice (some ⟨aa,0,none⟩) 3 3,.slice ae D.u.length af],true⟩,⟨aa,0,[.int .i64 (IntKind.i64.wrap ((D.f 0).n)),.slice none 0 0,.bool false,.slice none 0 0,.slice none 0 0,.int .i64 (IntKind.i64.wrap ((D.f 1).n)),.slice none 0 0,.bool false,.slice none 0 0,.slice none 0 0,.int .i64 0,.slice none 0 0,.bool (((D.f 2).A).isNone),.slice A2_ k2_ c2_,.slice none 0 0],true⟩,⟨bx,0,[.int .i64 0,.slice none 0 0,.bool false,.slice (some ⟨aa,0,none⟩) 3 3,.slice ae D.u.length af],true⟩] [⟨A2_,c2_,37,5,k2_,xs2_⟩]) _ _ from (TreeR.mk (n:=IntKind.i64.wrap ((D.f 0).n)) (b:=false) (s:=[]) (l:=[]) (u:=[]) (fun _=>[]) (Octs.nil _ _) (Slots.nil _ _ _ _) (fun i_ x_ h_=>by simp at h_) (TagsR.nil _ _))).move (Step.refl _ Nil) nilM qc1,(show TreeR _ (Imm F w dt [⟨b,o,[.int .i16 v,.int .i32 ((D.f 0).n),.int .i16 ((D.f 1).n),.slice ((D.f 2).A) ((D.f 2).l) ((D.f 2).c),.map D.m],false⟩,⟨b5,0,[.int .i64 0,.slice none 0 0,.bool false,.slice (some ⟨aa,0,none⟩) 3 3,.slice ae D.u.length af],true⟩,⟨aa,0,[.int .i64 (IntKind.i64.wrap ((D.f 0).n)),.slice none 0 0,.bool false,.slice none 0 0,.slice none 0 0,.int .i64 (IntKind.i64.wrap ((D.f 1).n)),.slice none 0 0,.bool false,.slice none 0 0,.slice none 0 0,.int .i64 0,.slice none 0 0,.bool (((D.f 2).A).isNone),.slice A2_ k2_ c2_,.slice none 0 0],true⟩,⟨bx,0,[.int .i64 0,.slice none 0 0,.bool false,.slice (some ⟨aa,0,none⟩) 3 3,.slice ae D.u.length af],true⟩] [⟨A2_,c2_,37,5,k2_,xs2_⟩]) _ _ from (TreeR.mk (n:=IntKind.i64.wrap ((D.f 1).n)) (b:=false) (s:=[]) (l:=[]) (u:=[]) (fun _=>[]) (Octs.nil _ _) (Slots.nil _ _ _ _) (fun i_ x_ h_=>by simp at h_) (TagsR.nil _ _))).move (Step.refl _ Nil) nilM qc1,qfE cC (k:=0) rfl de (by rw [qcc]; omega) (by rw [qcc]; omega),trivial⟩ ((show TagsR _ (Imm F w dt [⟨b,o,[.int .i16 v,.int .i32 ((D.f 0).n),.int .i16 ((D.f 1).n),.slice ((D.f 2).A) ((D.f 2).l) ((D.f 2).c),.map D.m],false⟩,⟨b5,0,[.int .i64 0,.slice none 0 0,.bool false,.slice (some ⟨aa,0,none⟩) 3 3,.slice ae D.u.length af],true⟩,⟨aa,0,[.int .i64 (IntKind.i64.wrap ((D.f 0).n)),.slice none 0 0,.bool false,.slice none 0 0,.slice none 0 0,.int .i64 (IntKind.i64.wrap ((D.f 1).n)),.slice none 0 0,.bool false,.slice none 0 0,.slice none 0 0,.int .i64 0,.slice none 0 0,.bool (((D.f 2).A).isNone),.slice A2_ k2_ c2_,.slice none 0 0],true⟩,⟨bx,0,[.int .i64 0,.slice none 0 0,.bool false,.slice (some ⟨aa,0,none⟩) 3 3,.slice ae D.u.length af],true⟩] [⟨A2_,c2_,37,5,k2_,xs2_⟩]) _ _ _ from (da.move (bG.trans bH).step immM (bG.trans bH).to')).move (Step.refl _ Nil) nilM qc1)
theorem qjH {t:Tree} (h:t.i64s) (i:Nat):(t.at_ i).i64s:=by
 cases t with
 | mk n s b l u =>
  have h1:∀ x ∈ l,x.i64s:=qft h.2
  show (l.getD i .zero).i64s
  rw [List.getD_eq_getElem?_getD]
  cases hx:l[i]? with
  | none=>exact ⟨by decide,trivial⟩
  | some x=>exact h1 x (List.mem_of_getElem? hx)
theorem qfF {t x:Tree} (h:t.i64s) {i:Nat} (hx:(qao t.L)[i]? = some x):x.i64s:=by
 cases t with
 | mk n s b l u =>
  have h1:∀ x ∈ l,x.i64s:=qft h.2
  exact h1 x (List.mem_of_mem_take (List.mem_of_getElem? hx))
theorem qc5 {k x1 x2 x3 x5 x6 v:Int} {s:List Fld} {flex:Bool} {x:Tree}:Fld.pres (.mk k x1 x2 x3 (-1) x5 x6 s) v flex x = (decide (x1 ≤ v) && (decide (x2 < 0) || decide (v ≤ x2))):=by simp [Fld.pres,Fld.tag,Fld.has]
section
variable {T:List Fld → Tree → Tree → Prop} {U:List Fld → Tree → Prop} {v k x1 x2 x3 x4 x5 x6 n:Int} {sub:List Fld} {x T':Tree} {A:Option Addr} {s:ByteArray} {o:Bs} {b:Bool}
theorem qk2 (hn:n = qbK k x.N) (hk:k < 7:=by decide):ToF0 T v (.mk k x1 x2 (-1) x4 x5 x6 sub) x (.mk n [] false [] []):=by
 cases x
 exact ⟨fun h=>by omega,fun _ h=>by omega,fun _ h=>by omega,fun _ h=>by omega,fun _ _ _ _ _ _=>hn⟩
theorem qh3 (hn:n = qbK k x.N) (hk:k < 7:=by decide):ToF T v (.mk k x1 x2 (-1) x4 x5 x6 sub) x (.mk n [] false [] []):=⟨qk2 hn hk,fun h=>absurd (show k = 11 from h) (by omega)⟩
theorem qkc (hs:o = qby x.S):ToF0 T v (.mk 7 x1 x2 (-1) x4 x5 x6 sub) x (.mk 0 o false [] []):=by
 cases x with
 | mk a1 a2 a3 a4 a5 =>
  exact ⟨fun h=>by omega,fun _ h=>by omega,fun _ _=>hs,fun _ h=>by omega,fun _ h=>absurd rfl h⟩
theorem qjI (h:o = qad T'.S) (h1:T'.S = x.S):ToF T v (.mk 7 x1 x2 (-1) x4 x5 x6 sub) x (.mk 0 o false [] []) :=
 ⟨qkc (by rw [h,qcA,h1]),fun h=>absurd (show (7:Int) = 11 from h) (by decide)⟩
theorem qgv {g:Tree} (hg:g.null = false) (h:T sub x g):ToF0 T v (.mk 10 x1 x2 (-1) x4 x5 x6 sub) x g:=by
 cases x with
 | mk a1 a2 a3 a4 a5 =>
  cases g with
  | mk g1 g2 g3 g4 g5 =>
   exact ⟨fun _=>by rw [qg4]; exact hg,fun _ h=>by omega,fun _ h=>by omega,fun _ _=>h,fun _ _ _ _ h=>absurd rfl h⟩
theorem qhz {l:Nat} {g:Nat → Tree} {W:Tree → Tree} (hb:x3 ≥ 0 ∧ v ≥ x3 → b = Fld.nul (.mk 11 x1 x2 x3 x4 x5 x6 sub) v x) (hl:l = (lst T').length) (hlst:lst T' = (if Fld.nul (.mk 11 x1 x2 x3 (-1) x5 x6 sub) v x = true then [] else qao x.L).map W)
  (he:∀ i y,i < l → (lst T').getD i .zero = W y → (qao x.L)[i]? = some y → ToF0 T v (.mk x6 x1 x2 (-1) (-1) x5 x6 sub) y (g i)):ToF T v (.mk 11 x1 x2 x3 x4 x5 x6 sub) x (.mk 0 [] b ((List.range l).map g) []):=by
 have hn:Fld.nul (.mk 11 x1 x2 x3 (-1) x5 x6 sub) v x = Fld.nul (.mk 11 x1 x2 x3 x4 x5 x6 sub) v x:=by cases x; rfl
 refine ⟨?_,fun _ hnn=>?_⟩
 ·cases x with
  | mk a1 a2 a3 a4 a5 =>
   refine ⟨fun h=>hb ?_,fun _ h=>by omega,fun _ h=>by omega,fun _ h=>by omega,fun _ _ _ _ _ h=>absurd rfl h⟩
   rcases h with h | h | h
   ·omega
   ·omega
   exact h
 rw [hn,hnn,if_neg (by decide)] at hlst
 have hll:l = (qao x.L).length:=by rw [hl,hlst,List.length_map]
 refine ⟨by show ((List.range l).map g).length = _; rw [List.length_map,List.length_range,hll],fun i y z hy hz=>?_⟩
 have hi:i < l:=by rw [hll]; exact (List.getElem?_eq_some_iff.1 hy).1
 have hz':((List.range l).map g)[i]? = some z:=hz
 rw [List.getElem?_map,List.getElem?_range hi] at hz'
 obtain rfl:=Option.some.inj hz'
 refine he i y hi ?_ hy
 rw [hlst,List.getD_eq_getElem?_getD,List.getElem?_map,hy]
 rfl
end
theorem qbL (v:Int) (h0:0 ≤ v) (t Y:Tree) (hY:∀ i,Y.at_ i = (fitT v 5 [(Fld.mk 3 0 (-1) (-1) (-1) 0 0 []),(Fld.mk 2 0 (-1) (-1) (-1) 0 0 [])] t).at_ i) (hU:Y.U = (fitT v 5 [(Fld.mk 3 0 (-1) (-1) (-1) 0 0 []),(Fld.mk 2 0 (-1) (-1) (-1) 0 0 [])] t).U) (hi:t.i64s) (D:DV) (h:qaP v D Y):qhy v (decide (v ≥ qai)) 5 [(Fld.mk 3 0 (-1) (-1) (-1) 0 0 []),(Fld.mk 2 0 (-1) (-1) (-1) 0 0 [])] t (qaG D):=by
 unfold qaP at h
 obtain ⟨r0,r1,rU,_⟩:=h
 refine ⟨rfl,fun i f y hf hy=>?_,?_⟩
 ·match i,hf,hy with
  | 0,hf,hy =>
   obtain rfl:=Option.some.inj hf
   obtain rfl:=Option.some.inj hy
   have e:=hY 0
   refine ⟨fun hp=>?_,fun hp=>?_⟩
   ·have hc:True:=trivial
    have r:=r0
    rw [e] at r
    rw [(qgV (v:=v) (d:=4) (t:=t) (show [(Fld.mk 3 0 (-1) (-1) (-1) 0 0 []),(Fld.mk 2 0 (-1) (-1) (-1) 0 0 [])][0]? = _ from rfl) (by decide))] at r
    exact qh3 (by rw [r,qe1]; rfl)
   rw [qc5] at hp; simp at hp; omega
  | 1,hf,hy =>
   obtain rfl:=Option.some.inj hf
   obtain rfl:=Option.some.inj hy
   have e:=hY 1
   refine ⟨fun hp=>?_,fun hp=>?_⟩
   ·have hc:True:=trivial
    have r:=r1
    rw [e] at r
    rw [(qgV (v:=v) (d:=4) (t:=t) (show [(Fld.mk 3 0 (-1) (-1) (-1) 0 0 []),(Fld.mk 2 0 (-1) (-1) (-1) 0 0 [])][1]? = _ from rfl) (by decide))] at r
    exact qh3 (by rw [r,qe0]; rfl)
   rw [qc5] at hp; simp at hp; omega
  | n_ + 2,hf,hy=>exact absurd (List.getElem?_eq_some_iff.1 hf).1 (by show ¬ n_ + 2 < 2; omega)
 show D.u = if (decide (v ≥ qai)) = true then qcw (qak [(Fld.mk 3 0 (-1) (-1) (-1) 0 0 []),(Fld.mk 2 0 (-1) (-1) (-1) 0 0 [])] t.U) else []
 by_cases hc:(decide (v ≥ 0)) = true
 ·rw [if_pos (show (decide (v ≥ qai)) = true from hc),rU.1 hc,hU,qf6]
 rw [if_neg (show ¬ (decide (v ≥ qai)) = true from hc),rU.2 (by simpa using hc)]
theorem qbY (v:Int) (h0:0 ≤ v) (t Y:Tree) (hY:∀ i,Y.at_ i = (fitT v 6 [(Fld.mk 7 0 (-1) (-1) (-1) 0 0 []),(Fld.mk 11 0 (-1) (-1) (-1) 0 10 [(Fld.mk 3 0 (-1) (-1) (-1) 0 0 []),(Fld.mk 2 0 (-1) (-1) (-1) 0 0 [])])] t).at_ i) (hU:Y.U = (fitT v 6 [(Fld.mk 7 0 (-1) (-1) (-1) 0 0 []),(Fld.mk 11 0 (-1) (-1) (-1) 0 10 [(Fld.mk 3 0 (-1) (-1) (-1) 0 0 []),(Fld.mk 2 0 (-1) (-1) (-1) 0 0 [])])] t).U) (hi:t.i64s) (D:DV) (h:qa2 v D Y):qhy v (decide (v ≥ qai)) 6 [(Fld.mk 7 0 (-1) (-1) (-1) 0 0 []),(Fld.mk 11 0 (-1) (-1) (-1) 0 10 [(Fld.mk 3 0 (-1) (-1) (-1) 0 0 []),(Fld.mk 2 0 (-1) (-1) (-1) 0 0 [])])] t (qaO D):=by
 unfold qa2 at h
 obtain ⟨r0,r1,rU,_⟩:=h
 refine ⟨rfl,fun i f y hf hy=>?_,?_⟩
 ·match i,hf,hy with
  | 0,hf,hy =>
   obtain rfl:=Option.some.inj hf
   obtain rfl:=Option.some.inj hy
   have e:=hY 0
   refine ⟨fun hp=>?_,fun hp=>?_⟩
   ·have hc:True:=trivial
    have r:=r0
    rw [e] at r
    exact qjI r (qhJ (v:=v) (d:=5) (t:=t) (show [(Fld.mk 7 0 (-1) (-1) (-1) 0 0 []),(Fld.mk 11 0 (-1) (-1) (-1) 0 10 [(Fld.mk 3 0 (-1) (-1) (-1) 0 0 []),(Fld.mk 2 0 (-1) (-1) (-1) 0 0 [])])][0]? = _ from rfl) (by decide))
   rw [qc5] at hp; simp at hp; omega
  | 1,hf,hy =>
   obtain rfl:=Option.some.inj hf
   obtain rfl:=Option.some.inj hy
   have e:=hY 1
   refine ⟨fun hp=>?_,fun hp=>?_⟩
   ·have hc:True:=trivial
    have r:=r1
    rw [e] at r
    obtain ⟨fn_,fl⟩:=qeZ (v:=v) (d:=5) (t:=t) (show [(Fld.mk 7 0 (-1) (-1) (-1) 0 0 []),(Fld.mk 11 0 (-1) (-1) (-1) 0 10 [(Fld.mk 3 0 (-1) (-1) (-1) 0 0 []),(Fld.mk 2 0 (-1) (-1) (-1) 0 0 [])])][1]? = _ from rfl)
    refine qhz (fun h_=>absurd h_.1 (by decide)) r.1 fl fun i_ y_ hi_ hg_ hy_=>?_
    have q:=r.2 i_ hi_
    rw [hg_] at q
    exact qgv rfl (qbL v h0 y_ _ (fun i=>fit_10.1 i) fit_10.2 (qfF (qjH hi 1) hy_) _ q)
   rw [qc5] at hp; simp at hp; omega
  | n_ + 2,hf,hy=>exact absurd (List.getElem?_eq_some_iff.1 hf).1 (by show ¬ n_ + 2 < 2; omega)
 show D.u = if (decide (v ≥ qai)) = true then qcw (qak [(Fld.mk 7 0 (-1) (-1) (-1) 0 0 []),(Fld.mk 11 0 (-1) (-1) (-1) 0 10 [(Fld.mk 3 0 (-1) (-1) (-1) 0 0 []),(Fld.mk 2 0 (-1) (-1) (-1) 0 0 [])])] t.U) else []
 by_cases hc:(decide (v ≥ 0)) = true
 ·rw [if_pos (show (decide (v ≥ qai)) = true from hc),rU.1 hc,hU,qf6]
 rw [if_neg (show ¬ (decide (v ≥ qai)) = true from hc),rU.2 (by simpa using hc)]
theorem qce (v:Int) (h0:0 ≤ v) (t Y:Tree) (hY:∀ i,Y.at_ i = (fitT v 7 [(Fld.mk 7 0 (-1) (-1) (-1) 0 0 []),(Fld.mk 11 0 (-1) (-1) (-1) 0 10 [(Fld.mk 7 0 (-1) (-1) (-1) 0 0 []),(Fld.mk 11 0 (-1) (-1) (-1) 0 10 [(Fld.mk 3 0 (-1) (-1) (-1) 0 0 []),(Fld.mk 2 0 (-1) (-1) (-1) 0 0 [])])])] t).at_ i) (hU:Y.U = (fitT v 7 [(Fld.mk 7 0 (-1) (-1) (-1) 0 0 []),(Fld.mk 11 0 (-1) (-1) (-1) 0 10 [(Fld.mk 7 0 (-1) (-1) (-1) 0 0 []),(Fld.mk 11 0 (-1) (-1) (-1) 0 10 [(Fld.mk 3 0 (-1) (-1) (-1) 0 0 []),(Fld.mk 2 0 (-1) (-1) (-1) 0 0 [])])])] t).U) (hi:t.i64s) (D:DV) (h:qa6 v D Y):qhy v (decide (v ≥ qai)) 7 [(Fld.mk 7 0 (-1) (-1) (-1) 0 0 []),(Fld.mk 11 0 (-1) (-1) (-1) 0 10 [(Fld.mk 7 0 (-1) (-1) (-1) 0 0 []),(Fld.mk 11 0 (-1) (-1) (-1) 0 10 [(Fld.mk 3 0 (-1) (-1) (-1) 0 0 []),(Fld.mk 2 0 (-1) (-1) (-1) 0 0 [])])])] t (qaW D):=by
 unfold qa6 at h
 obtain ⟨r0,r1,rU,_⟩:=h
 refine ⟨rfl,fun i f y hf hy=>?_,?_⟩
 ·match i,hf,hy with
  | 0,hf,hy =>
   obtain rfl:=Option.some.inj hf
   obtain rfl:=Option.some.inj hy
   have e:=hY 0
   refine ⟨fun hp=>?_,fun hp=>?_⟩
   ·have hc:True:=trivial
    have r:=r0
    rw [e] at r
    exact qjI r (qhJ (v:=v) (d:=6) (t:=t) (show [(Fld.mk 7 0 (-1) (-1) (-1) 0 0 []),(Fld.mk 11 0 (-1) (-1) (-1) 0 10 [(Fld.mk 7 0 (-1) (-1) (-1) 0 0 []),(Fld.mk 11 0 (-1) (-1) (-1) 0 10 [(Fld.mk 3 0 (-1) (-1) (-1) 0 0 []),(Fld.mk 2 0 (-1) (-1) (-1) 0 0 [])])])][0]? = _ from rfl) (by decide))
   rw [qc5] at hp; simp at hp; omega
  | 1,hf,hy =>
   obtain rfl:=Option.some.inj hf
   obtain rfl:=Option.some.inj hy
   have e:=hY 1
   refine ⟨fun hp=>?_,fun hp=>?_⟩
   ·have hc:True:=trivial
    have r:=r1
    rw [e] at r
    obtain ⟨fn_,fl⟩:=qeZ (v:=v) (d:=6) (t:=t) (show [(Fld.mk 7 0 (-1) (-1) (-1) 0 0 []),(Fld.mk 11 0 (-1) (-1) (-1) 0 10 [(Fld.mk 7 0 (-1) (-1) (-1) 0 0 []),(Fld.mk 11 0 (-1) (-1) (-1) 0 10 [(Fld.mk 3 0 (-1) (-1) (-1) 0 0 []),(Fld.mk 2 0 (-1) (-1) (-1) 0 0 [])])])][1]? = _ from rfl)
    refine qhz (fun h_=>absurd h_.1 (by decide)) r.1 fl fun i_ y_ hi_ hg_ hy_=>?_
    have q:=r.2 i_ hi_
    rw [hg_] at q
    exact qgv rfl (qbY v h0 y_ _ (fun i=>fit_10.1 i) fit_10.2 (qfF (qjH hi 1) hy_) _ q)
   rw [qc5] at hp; simp at hp; omega
  | n_ + 2,hf,hy=>exact absurd (List.getElem?_eq_some_iff.1 hf).1 (by show ¬ n_ + 2 < 2; omega)
 show D.u = if (decide (v ≥ qai)) = true then qcw (qak [(Fld.mk 7 0 (-1) (-1) (-1) 0 0 []),(Fld.mk 11 0 (-1) (-1) (-1) 0 10 [(Fld.mk 7 0 (-1) (-1) (-1) 0 0 []),(Fld.mk 11 0 (-1) (-1) (-1) 0 10 [(Fld.mk 3 0 (-1) (-1) (-1) 0 0 []),(Fld.mk 2 0 (-1) (-1) (-1) 0 0 [])])])] t.U) else []
 by_cases hc:(decide (v ≥ 0)) = true
 ·rw [if_pos (show (decide (v ≥ qai)) = true from hc),rU.1 hc,hU,qf6]
 rw [if_neg (show ¬ (decide (v ≥ qai)) = true from hc),rU.2 (by simpa using hc)]
theorem qcG (v:Int) (h0:0 ≤ v) (t Y:Tree) (hY:∀ i,Y.at_ i = (fitT v 8 sAssignReplicasToDirsResponseF t).at_ i) (hU:Y.U = (fitT v 8 sAssignReplicasToDirsResponseF t).U) (hi:t.i64s) (D:DV) (h:qa9 v D Y):qhy v (decide (v ≥ qai)) 8 sAssignReplicasToDirsResponseF t (qba D):=by
 unfold qa9 at h
 obtain ⟨r0,r1,r2,rU,_⟩:=h
 refine ⟨rfl,fun i f y hf hy=>?_,?_⟩
 ·match i,hf,hy with
  | 0,hf,hy =>
   obtain rfl:=Option.some.inj hf
   obtain rfl:=Option.some.inj hy
   have e:=hY 0
   refine ⟨fun hp=>?_,fun hp=>?_⟩
   ·have hc:True:=trivial
    have r:=r0
    rw [e] at r
    rw [(qgV (v:=v) (d:=7) (t:=t) (show sAssignReplicasToDirsResponseF[0]? = _ from rfl) (by decide))] at r
    exact qh3 (by rw [r,qe1]; rfl)
   rw [qc5] at hp; simp at hp; omega
  | 1,hf,hy =>
   obtain rfl:=Option.some.inj hf
   obtain rfl:=Option.some.inj hy
   have e:=hY 1
   refine ⟨fun hp=>?_,fun hp=>?_⟩
   ·have hc:True:=trivial
    have r:=r1
    rw [e] at r
    rw [(qgV (v:=v) (d:=7) (t:=t) (show sAssignReplicasToDirsResponseF[1]? = _ from rfl) (by decide))] at r
    exact qh3 (by rw [r,qe0]; rfl)
   rw [qc5] at hp; simp at hp; omega
  | 2,hf,hy =>
   obtain rfl:=Option.some.inj hf
   obtain rfl:=Option.some.inj hy
   have e:=hY 2
   refine ⟨fun hp=>?_,fun hp=>?_⟩
   ·have hc:True:=trivial
    have r:=r2
    rw [e] at r
    obtain ⟨fn_,fl⟩:=qeZ (v:=v) (d:=7) (t:=t) (show sAssignReplicasToDirsResponseF[2]? = _ from rfl)
    refine qhz (fun h_=>absurd h_.1 (by decide)) r.1 fl fun i_ y_ hi_ hg_ hy_=>?_
    have q:=r.2 i_ hi_
    rw [hg_] at q
    exact qgv rfl (qce v h0 y_ _ (fun i=>fit_10.1 i) fit_10.2 (qfF (qjH hi 2) hy_) _ q)
   rw [qc5] at hp; simp at hp; omega
  | n_ + 3,hf,hy=>exact absurd (List.getElem?_eq_some_iff.1 hf).1 (by show ¬ n_ + 3 < 3; omega)
 show D.u = if (decide (v ≥ qai)) = true then qcw (qak sAssignReplicasToDirsResponseF t.U) else []
 by_cases hc:(decide (v ≥ 0)) = true
 ·rw [if_pos (show (decide (v ≥ qai)) = true from hc),rU.1 hc,hU,qf6]
 rw [if_neg (show ¬ (decide (v ≥ qai)) = true from hc),rU.2 (by simpa using hc)]
set_option maxHeartbeats 4000000 in
theorem qcV (v:Int) (T:Tree) {A2:Option Addr} {c2:Nat} {w:World} {F:Nat → Nat → Prop} (hs_:Octs w F A2 c2 (qaj (IntKind.i16.wrap v) T)) (hc:qa8 T) (hkey:T.ranged) (hroom:(qaj (IntKind.i16.wrap v) T).length + 16 ≤ 1099511627776) :
  Calls Tryz.prog 11 #[.int .i64 v,.slice A2 (qaj (IntKind.i16.wrap v) T).length c2] w (fun e w'=>∃ D cs,e = .returned (.tuple #[.agg cs.toArray,.bool true]) ∧ TreeR w' (Fp NoF w) cs (qba D) ∧ qa9 (IntKind.i16.wrap v) D T ∧ Step w w' Nil):=by
 refine enter (n:=20) Tryz.func11 rfl Tryz.ntmps11 kz fun a hE=>?_
 have hW:=WOk.start w Nil
 have hsm2:=Slots.small hs_
 refine qaf [0,1] kz ?_
 refine qan (qaZ hW hE (d:=4) (cs:=[.int .i64 0,.slice none 0 0,.bool false,.slice none 0 0,.slice none 0 0]) kz fun b1 a2 w3 hb4 hz5 hF6 hW7 hE8=>?_)
 refine qal [1] [] [(0,.v (.int .i64 v)),(1,.v (.slice A2 ((qaj (IntKind.i16.wrap v) T).length) c2)),(4,.p 0 0)] hW7 hE8 fun a9 aT=>?_
 refine qah (qac ?_)
 refine qaf [0,1] kz ?_
 refine qan (qbR aT (f:=26) (vs:=[]) (d:=7) (n':=3) kz Tryz.call26 Tryz.func26 rfl Tryz.ntmps26 kz fun cI aU=>?_)
 refine qar [] hW7 aU fun cJ aV=>?_
 refine qaf [0] kz ?_
 refine qan (qaZ hW7 aV (d:=1) (cs:=[.int .i16 0,.int .i32 0,.int .i16 0,.slice none 0 0,.map none]) kz fun ab cK cL ce cm cq ac aW=>?_)
 refine qah (qac ?_)
 refine qaf [0] kz ?_
 refine qan (qbR aW (f:=60) (vs:=[.pointer (some ⟨ab,0,none⟩)]) (d:=2) (n':=2) kz Tryz.call60 Tryz.func60 rfl Tryz.ntmps60 kz fun cM aX=>?_)
 have aY:=aX.recast 0 (.v (.pointer (some ⟨ab,0,none⟩))) (.p 1 0) rfl rfl (Nat.le_of_ble_eq_true (n:=2) rfl)
 refine wp_skip ?_
 refine qbV aY ac.cells (v:=.tuple #[]) kz ?_
 refine ⟨_,rfl,fun cN aZ=>?_⟩
 have ba:EnvOk 3 [⟨b1,0,[.int .i64 0,.slice none 0 0,.bool false,.slice none 0 0,.slice none 0 0],true⟩,⟨ab,0,[.int .i16 0,.int .i32 0,.int .i16 0,.slice none 0 0,.map none],true⟩] [(2,.v (.tuple #[])),(1,.p 1 0)] _:=aZ.places (⟨rfl,rfl,⟨rfl,rfl,trivial⟩⟩)
 refine qah (qac ?_)
 refine qar [(0,.p 1 0)] ac ba fun cO bd=>?_
 refine wp_ret ?_
 refine qaS bd ac.cells (v:=.pointer (some ⟨ab,0,none⟩)) kz ?_
 refine ⟨_,rfl,fun cP bf=>?_⟩
 have bg:EnvOk 20 [⟨b1,0,[.int .i64 0,.slice none 0 0,.bool false,.slice none 0 0,.slice none 0 0],true⟩,⟨ab,0,[.int .i16 0,.int .i32 0,.int .i16 0,.slice none 0 0,.map none],true⟩] [(7,.v (.pointer (some ⟨ab,0,none⟩))),(0,.v (.int .i64 v)),(1,.v (.slice A2 ((qaj (IntKind.i16.wrap v) T).length) c2)),(4,.p 0 0)] _:=bf.places (⟨rfl,rfl,trivial⟩)
 have bh:=bg.recast 7 (.v (.pointer (some ⟨ab,0,none⟩))) (.p 1 0) rfl rfl (Nat.le_of_ble_eq_true (n:=2) rfl)
 have bi:=bh.pick (ks:=[0,1,4,7]) (env':=[(0,.v (.int .i64 v)),(1,.v (.slice A2 ((qaj (IntKind.i16.wrap v) T).length) c2)),(4,.p 0 0),(7,.p 1 0)]) kz
 refine qal [1] [] [(0,.v (.int .i64 v)),(1,.v (.slice A2 ((qaj (IntKind.i16.wrap v) T).length) c2)),(4,.p 0 0),(6,.p 1 0)] ac bi fun cQ bj=>?_
 refine qah (qac ?_)
 refine qaf [0,1,2,3] kz ?_
 refine qal [0,1,2] [3] [(1,.v (.slice A2 ((qaj (IntKind.i16.wrap v) T).length) c2)),(4,.p 0 0),(6,.p 1 0),(8,.p 1 0),(10,.v (.int .i16 (IntKind.i16.wrap v)))] ac bj fun cR bk=>?_
 refine qan (qbR bk (f:=29) (vs:=[.pointer (some ⟨ab,0,none⟩),.int .i16 (IntKind.i16.wrap v)]) (d:=11) (n':=8) kz Tryz.call29 Tryz.func29 rfl Tryz.ntmps29 kz fun cS bn=>?_)
 have bo:=bn.recast 0 (.v (.pointer (some ⟨ab,0,none⟩))) (.p 1 0) rfl rfl (Nat.le_of_ble_eq_true (n:=2) rfl)
 refine qaq [0,1,2,3,4] kz ?_
 refine qal [0,1,2,3] [4] [(5,.v (.int .i16 (IntKind.i16.wrap v))),(7,.p 1 0)] ac bo fun cT bp=>?_
 refine qan (qav ac bp (oi:=1) (cs:=[.int .i16 (IntKind.i16.wrap v),.int .i32 0,.int .i16 0,.slice none 0 0,.map none]) kz fun cU cr ao bq=>?_)
 refine qah ?_
 refine qbV bq ao.cells (v:=.tuple #[]) kz ?_
 refine ⟨_,rfl,fun cV bt=>?_⟩
 have bu:EnvOk 20 [⟨b1,0,[.int .i64 0,.slice none 0 0,.bool false,.slice none 0 0,.slice none 0 0],true⟩,⟨ab,0,[.int .i16 (IntKind.i16.wrap v),.int .i32 0,.int .i16 0,.slice none 0 0,.map none],true⟩] [(11,.v (.tuple #[])),(1,.v (.slice A2 ((qaj (IntKind.i16.wrap v) T).length) c2)),(4,.p 0 0),(6,.p 1 0),(8,.p 1 0),(10,.v (.int .i16 (IntKind.i16.wrap v)))] _:=bt.places (⟨rfl,rfl,⟨rfl,rfl,trivial⟩⟩)
 refine qah (qac ?_)
 refine wp_seq ?_
 refine qaf [0,1,2,3,4] kz ?_
 refine qal [0,1] [2,3,4] [(4,.p 0 0),(6,.p 1 0),(12,.p 1 0),(13,.v (.slice A2 ((qaj (IntKind.i16.wrap v) T).length) c2))] ao bu fun cW bw=>?_
 have ah:=ao.addNil 5 1
 have cu:=ao.frNil 5 1
 refine qan (qaY ah bw (k:=0) (d:=14) (t:=22) (e:=5) (size:=1) (bytes:=1) (A:=none) (As:=A2) (m0:=0) (c:=0) (m:=((qaj (IntKind.i16.wrap v) T).length)) (cs:=c2) (xs:=[]) (news:=bc (qaj (IntKind.i16.wrap v) T)) kz kz rfl (hs_.move ah.step nilM ah.imm).src (hs_.move ah.step nilM ah.imm).cap (by first | omega | (simp only [List.length_nil]; omega) | (simp; omega)) fun af ag cX cY cw bx bz=>?_)
 have bA:(⟨af,ag,5,1,0 + (qaj (IntKind.i16.wrap v) T).length,[] ++ bc (qaj (IntKind.i16.wrap v) T)⟩:Rw) = brow af ag 5 (qaj (IntKind.i16.wrap v) T):=by rw [List.nil_append,Nat.zero_add]
 obtain ⟨ap,cz⟩:=bx.rowEq 0 [brow af ag 5 (qaj (IntKind.i16.wrap v) T)] bA
 have bB:=EnvOk.pick bz (ks:=[4,6,12,13,14]) (env':=[(4,.p 0 0),(6,.p 1 0),(12,.p 1 0),(13,.v (.slice A2 ((qaj (IntKind.i16.wrap v) T).length) c2)),(14,.v (.slice af (0 + (qaj (IntKind.i16.wrap v) T).length) ag))]) kz
 have bC:=bB.cast (env':=[(4,.p 0 0),(6,.p 1 0),(12,.p 1 0),(13,.v (.slice A2 ((qaj (IntKind.i16.wrap v) T).length) c2)),(14,.v (.slice af ((qaj (IntKind.i16.wrap v) T).length) ag))]) (by simp only [List.length_append,List.length_cons,List.length_nil,Nat.zero_add])
 refine qan (qbR bC (f:=30) (vs:=[.pointer (some ⟨ab,0,none⟩),.slice af ((qaj (IntKind.i16.wrap v) T).length) ag]) (d:=15) (n':=8) kz Tryz.call30 Tryz.func30 rfl Tryz.ntmps30 kz fun cZ bD=>?_)
 have bE:=bD.recast 0 (.v (.pointer (some ⟨ab,0,none⟩))) (.p 1 0) rfl rfl (Nat.le_of_ble_eq_true (n:=2) rfl)
 refine qar [(0,.p 1 0),(1,.v (.slice af ((qaj (IntKind.i16.wrap v) T).length) ag))] ap bE fun c5 bF=>?_
 refine qaf [0,1,2,3] kz ?_
 refine qal [0,1] [2,3] [(5,.p 1 0),(6,.v (.slice af ((qaj (IntKind.i16.wrap v) T).length) ag))] ap bF fun c6 bG=>?_
 have bH:=ap.giveUp (G:=NoF) 0 [] (show _ = some (brow af ag 5 (qaj (IntKind.i16.wrap v) T)) from rfl) (by omega)
 obtain ⟨aH,cA⟩:=ap.cutR 0 []
 refine qan (qam bG (f:=62) (vs:=[.pointer (some ⟨ab,0,none⟩),.slice af ((qaj (IntKind.i16.wrap v) T).length) ag,.bool false]) (d:=7) kz Tryz.call62 (qcT (IntKind.i16.wrap v) T (Str.of aH 1 rfl) bH (qjw 1 rfl) hc hkey) ?_)
 rintro e_ da ⟨aa,rfl,bI,bJ,bK,aI⟩
 obtain ⟨ae,cB,bL⟩:=aH.wrote 1 [⟨b1,0,[.int .i64 0,.slice none 0 0,.bool false,.slice none 0 0,.slice none 0 0],true⟩,⟨ab,0,[.int .i16 (IntKind.i16.wrap v),.int .i32 ((aa.f 0).n),.int .i16 ((aa.f 1).n),.slice ((aa.f 2).A) ((aa.f 2).l) ((aa.f 2).c),.map aa.m],true⟩] rfl aI bI
 have bM:=qb7 _ (Step.refl _ Nil) nilM bL bJ
 refine ⟨_,rfl,fun db bN=>?_⟩
 have bO:=(EnvOk.places (tb':=[⟨b1,0,[.int .i64 0,.slice none 0 0,.bool false,.slice none 0 0,.slice none 0 0],true⟩,⟨ab,0,[.int .i16 (IntKind.i16.wrap v),.int .i32 ((aa.f 0).n),.int .i16 ((aa.f 1).n),.slice ((aa.f 2).A) ((aa.f 2).l) ((aa.f 2).c),.map aa.m],true⟩]) bN (show Pl [⟨b1,0,[.int .i64 0,.slice none 0 0,.bool false,.slice none 0 0,.slice none 0 0],true⟩,⟨ab,0,[.int .i16 (IntKind.i16.wrap v),.int .i32 0,.int .i16 0,.slice none 0 0,.map none],true⟩] [⟨b1,0,[.int .i64 0,.slice none 0 0,.bool false,.slice none 0 0,.slice none 0 0],true⟩,⟨ab,0,[.int .i16 (IntKind.i16.wrap v),.int .i32 ((aa.f 0).n),.int .i16 ((aa.f 1).n),.slice ((aa.f 2).A) ((aa.f 2).l) ((aa.f 2).c),.map aa.m],true⟩] from ⟨rfl,rfl,⟨rfl,rfl,trivial⟩⟩)).pk (env':=[(7,.v (.nilIface)),(5,.p 1 0),(6,.v (.slice af ((qaj (IntKind.i16.wrap v) T).length) ag))])
 refine qal [3] [] [(4,.v (.nilIface))] ae bO fun dc bP=>?_
 refine qah (qac ?_)
 refine wp_ret ?_
 refine qaS bP ae.cells (v:=.nilIface) kz ?_
 refine ⟨_,rfl,fun de bQ=>?_⟩
 have bR:EnvOk 20 [⟨b1,0,[.int .i64 0,.slice none 0 0,.bool false,.slice none 0 0,.slice none 0 0],true⟩,⟨ab,0,[.int .i16 (IntKind.i16.wrap v),.int .i32 ((aa.f 0).n),.int .i16 ((aa.f 1).n),.slice ((aa.f 2).A) ((aa.f 2).l) ((aa.f 2).c),.map aa.m],true⟩] [(15,.v (.nilIface)),(4,.p 0 0),(6,.p 1 0),(12,.p 1 0),(13,.v (.slice A2 ((qaj (IntKind.i16.wrap v) T).length) c2)),(14,.v (.slice af ((qaj (IntKind.i16.wrap v) T).length) ag))] _:=bQ.places (⟨rfl,rfl,⟨rfl,rfl,trivial⟩⟩)
 refine qal [4] [] [(4,.p 0 0),(6,.p 1 0),(16,.v (.bool false))] ae bR fun df aJ=>?_
 refine qah (qac ?_)
 refine qat aJ (b:=false) kz rfl ?_
 refine wp_skip ?_
 refine qac ?_
 refine qaf [0,1,2,3] kz ?_
 refine qal [0] [1,2,3] [(4,.p 0 0),(18,.p 1 0)] ae aJ fun dg bS=>?_
 have aK:=bS.recast 18 (.p 1 0) (.v (.pointer (some ⟨ab,0,none⟩))) rfl rfl trivial
 have aL:=aK.pk (env':=[(4,.p 0 0),(18,.v (.pointer (some ⟨ab,0,none⟩)))])
 have av:=WOk.strOut (G:=NoF) [⟨b1,0,[.int .i64 0,.slice none 0 0,.bool false,.slice none 0 0,.slice none 0 0],true⟩] ae
 obtain ⟨aM,ai,ar⟩:=ae.cutB aL 1 [⟨b1,0,[.int .i64 0,.slice none 0 0,.bool false,.slice none 0 0,.slice none 0 0],true⟩] [(4,.p 0 0),(18,.v (.pointer (some ⟨ab,0,none⟩)))]
 have aN:=qb7 _ ar.step immM ar.to' bM
 refine qan (qam aM (f:=31) (vs:=[.pointer (some ⟨ab,0,none⟩)]) (d:=19) kz Tryz.call31 (qcU (IntKind.i16.wrap v) aa ab 0 _ _ av aN) ?_)
 rintro e_ cC ⟨bY,rfl,aO,aj⟩
 have ak:=aO.move (Step.refl _ Nil) nilM (ai.laid (G:=NoF) aj)
 obtain ⟨aw,ax,ay,az,aA,aB,aC,aD,aE,aF,aG,bZ,b8,al,bT,bU,cD,cE⟩:=ak.open_
 rw [al] at ak
 have bV:=bT.small
 have bW:=bU.small
 rw [al]
 refine ⟨_,rfl,fun cG aP=>?_⟩
 have aQ:=ai.next_nil aj
 have cd:=ai.frN aj
 refine qan (qav aQ aP (oi:=0) (cs:=[.int .i64 aw,.slice aB ax.length aC,.bool ay,.slice aD az.length aE,.slice aF aA.length aG]) kz fun bX au am aR=>?_)
 refine qal [3] [] [(4,.p 0 0),(5,.v (.bool true))] am aR fun cH aS=>?_
 refine qah (qac ?_)
 refine wp_ret ?_
 refine qaS aS am.cells (v:=.tuple #[.agg #[.int .i64 aw,.slice aB ax.length aC,.bool ay,.slice aD az.length aE,.slice aF aA.length aG],.bool true]) kz ?_
 exact ⟨aa,_,rfl,(show TreeR _ (Imm NoF w bX [⟨b1,0,[.int .i64 aw,.slice aB ax.length aC,.bool ay,.slice aD az.length aE,.slice aF aA.length aG],true⟩] []) _ (qba aa) from (ak.move au.step immM au.to')).move (Step.refl _ Nil) nilM qc1,bK,am.step⟩
theorem qcM (v:Int) (T:Tree) (B:Bs) {A2:Option Addr} {c2:Nat} {w:World} {F:Nat → Nat → Prop} (hB:qaj (IntKind.i16.wrap v) T = B) (hs_:Octs w F A2 c2 B) (hc:qa8 T) (hkey:T.ranged) (hroom:B.length + 16 ≤ 1099511627776) :
  Calls Tryz.prog 11 #[.int .i64 v,.slice A2 B.length c2] w (fun e w'=>∃ D cs,e = .returned (.tuple #[.agg cs.toArray,.bool true]) ∧ TreeR w' (Fp NoF w) cs (qba D) ∧ qa9 (IntKind.i16.wrap v) D T ∧ Step w w' Nil):=by
 subst hB
 exact qcV v T hs_ hc hkey hroom
end Go.Proofs.YtfljkhecngpcmaaGreatDoor.ME