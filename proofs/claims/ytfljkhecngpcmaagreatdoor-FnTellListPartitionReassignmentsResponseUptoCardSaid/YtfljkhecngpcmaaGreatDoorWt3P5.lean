/- The texts of a claim, put together: the engine, the contracts, the law. Own work. -/
import Derived.Test.YtfljkhecngpcmaaGreatDoorWt3P4
namespace Go.Proofs.YtfljkhecngpcmaaGreatDoor.ME
open Go
open Go.RowKit
set_option linter.unusedVariables false
set_option linter.unusedSimpArgs false
set_option maxRecDepth 20000
def qaG (D:DV):Tree:=.mk 0 [] false [.mk (IntKind.i64.wrap (D.f 0).n) [] false [] [],.mk 0 [] (D.f 1).A.isNone ((List.range (D.f 1).l).map fun i=>.mk (IntKind.i64.wrap ((D.f 1).f i).n) [] false [] []) [],.mk 0 [] (D.f 2).A.isNone ((List.range (D.f 2).l).map fun i=>.mk (IntKind.i64.wrap ((D.f 2).f i).n) [] false [] []) [],.mk 0 [] (D.f 3).A.isNone ((List.range (D.f 3).l).map fun i=>.mk (IntKind.i64.wrap ((D.f 3).f i).n) [] false [] []) []] D.u
def qaO (D:DV):Tree:=.mk 0 [] false [.mk 0 (sb (D.f 0).s) false [] [],.mk 0 [] (D.f 1).A.isNone ((List.range (D.f 1).l).map fun i=>qaG ((D.f 1).f i)) []] D.u
def qa0 (D:DV):Tree:=.mk 0 [] false [.mk (IntKind.i64.wrap (D.f 0).n) [] false [] [],.mk (IntKind.i64.wrap (D.f 1).n) [] false [] [],qiu (D.f 2).A (D.f 2).s,.mk 0 [] (D.f 3).A.isNone ((List.range (D.f 3).l).map fun i=>qaO ((D.f 3).f i)) []] D.u
abbrev z6 (x0:DV):=([.int .i32 ((x0.f 0).n),.slice ((x0.f 1).A) ((x0.f 1).l) ((x0.f 1).c),.slice ((x0.f 2).A) ((x0.f 2).l) ((x0.f 2).c),.slice ((x0.f 3).A) ((x0.f 3).l) ((x0.f 3).c),.map x0.m]:List Value)
abbrev z7 (x0):=([.int .i64 0,.slice none 0 0,.bool false,.slice (some ⟨x0,0,none⟩) 4 4,.slice none 0 0]:List Value)
abbrev z9 (x0:DV) (x1) (x2) (x3):=([.int .i64 (IntKind.i64.wrap ((x0.f 0).n)),.slice none 0 0,.bool false,.slice none 0 0,.slice none 0 0,.int .i64 0,.slice none 0 0,.bool (((x0.f 1).A).isNone),.slice x1 (x2 + 1) x3,.slice none 0 0,.int .i64 0,.slice none 0 0,.bool false,.slice none 0 0,.slice none 0 0,.int .i64 0,.slice none 0 0,.bool false,.slice none 0 0,.slice none 0 0]:List Value)
abbrev z10 (x0:DV) (x1) (x2) (x3) (x4) (x5) (x6):=([.int .i64 (IntKind.i64.wrap ((x0.f 0).n)),.slice none 0 0,.bool false,.slice none 0 0,.slice none 0 0,.int .i64 0,.slice none 0 0,.bool (((x0.f 1).A).isNone),.slice x1 x2 x3,.slice none 0 0,.int .i64 0,.slice none 0 0,.bool (((x0.f 2).A).isNone),.slice x4 (x5 + 1) x6,.slice none 0 0,.int .i64 0,.slice none 0 0,.bool false,.slice none 0 0,.slice none 0 0]:List Value)
abbrev z11 (x0:DV) (x1) (x2) (x3) (x4) (x5) (x6) (x7) (x8) (x9):=([.int .i64 (IntKind.i64.wrap ((x0.f 0).n)),.slice none 0 0,.bool false,.slice none 0 0,.slice none 0 0,.int .i64 0,.slice none 0 0,.bool (((x0.f 1).A).isNone),.slice x1 x2 x3,.slice none 0 0,.int .i64 0,.slice none 0 0,.bool (((x0.f 2).A).isNone),.slice x4 x5 x6,.slice none 0 0,.int .i64 0,.slice none 0 0,.bool (((x0.f 3).A).isNone),.slice x7 (x8 + 1) x9,.slice none 0 0]:List Value)
abbrev z25 (x0:DV) (x1):=([.int .i64 (IntKind.i64.wrap (((x0.f 1).f x1).n)),.slice none 0 0,.bool false,.slice none 0 0,.slice none 0 0]:List Value)
abbrev z26 (x0:DV) (x1):=([.int .i64 (IntKind.i64.wrap (((x0.f 2).f x1).n)),.slice none 0 0,.bool false,.slice none 0 0,.slice none 0 0]:List Value)
abbrev z27 (x0:DV) (x1):=([.int .i64 (IntKind.i64.wrap (((x0.f 3).f x1).n)),.slice none 0 0,.bool false,.slice none 0 0,.slice none 0 0]:List Value)
abbrev z36 :=([.int .i64 0,.slice none 0 0,.bool false,.slice none 0 0,.slice none 0 0,.int .i64 0,.slice none 0 0,.bool false,.slice none 0 0,.slice none 0 0,.int .i64 0,.slice none 0 0,.bool false,.slice none 0 0,.slice none 0 0,.int .i64 0,.slice none 0 0,.bool false,.slice none 0 0,.slice none 0 0]:List Value)
abbrev z35 (x0:DV):=([.int .i64 (IntKind.i64.wrap ((x0.f 0).n)),.slice none 0 0,.bool false,.slice none 0 0,.slice none 0 0,.int .i64 0,.slice none 0 0,.bool false,.slice none 0 0,.slice none 0 0,.int .i64 0,.slice none 0 0,.bool false,.slice none 0 0,.slice none 0 0,.int .i64 0,.slice none 0 0,.bool false,.slice none 0 0,.slice none 0 0]:List Value)
abbrev z39 (x0:DV) (x1) (x2) (x3) (x4) (x5) (x6) (x7) (x8) (x9):=([.int .i64 (IntKind.i64.wrap ((x0.f 0).n)),.slice none 0 0,.bool false,.slice none 0 0,.slice none 0 0,.int .i64 0,.slice none 0 0,.bool (((x0.f 1).A).isNone),.slice x1 x2 x3,.slice none 0 0,.int .i64 0,.slice none 0 0,.bool (((x0.f 2).A).isNone),.slice x4 x5 x6,.slice none 0 0,.int .i64 0,.slice none 0 0,.bool (((x0.f 3).A).isNone),.slice x7 x8 x9,.slice none 0 0]:List Value)
abbrev z45 (x0) (x1) (x2:DV) (x3):=([.int .i64 0,.slice none 0 0,.bool false,.slice (some ⟨x0,0,none⟩) 4 4,.slice x1 x2.u.length x3]:List Value)
set_option maxHeartbeats 4000000 in
theorem qbc (v:Int) (D:DV) (b o:Nat) (w:World) (F:Nat → Nat → Prop) (hat:AtF w F b o [.int .i32 ((D.f 0).n),.slice ((D.f 1).A) ((D.f 1).l) ((D.f 1).c),.slice ((D.f 2).A) ((D.f 2).l) ((D.f 2).c),.slice ((D.f 3).A) ((D.f 3).l) ((D.f 3).c),.map D.m]) (hok:qaF w F D):Calls Tryz.prog 118 #[.pointer (some ⟨b,o,none⟩)] w (qd4 w F (qaG D)):=by
 refine enter (n:=207) Tryz.func118 rfl Tryz.ntmps118 kz fun a hE=>?_
 have hW:WOk w Nil w [⟨b,o,(z6 D),false⟩] []:=(WOk.start w Nil).start1 hat rfl rfl
 unfold qaF at hok
 obtain ⟨g1,⟨g2,g2l,g2e⟩,⟨g3,g3l,g3e⟩,⟨g4,g4l,g4e⟩,g5,g5l,g5x,_⟩:=hok
 have hE0:=(EnvOk.ptr0 (cs:=(z6 D)) (r:=false) hE).pk (env':=[(0,.p 0 0)])
 refine qae [0] kz ?_
 refine qal (qaS hW hE0 (d:=2) (cs:=z0) kz fun b6 a7 w8 hb9 lp lq jT jU=>?_)
 refine qaf (qab ?_)
 refine qae [0,1,2,3] kz ?_
 refine qal (qeY (t:=34) (e:=37) (size:=5) (bytes:=88) (d:=7) (j:=4) (.agg #[.int .i64 0,.slice none 0 0,.bool false,.slice none 0 0,.slice none 0 0]) z36 jT jU fun aa oM oN lr ls lu ey jV=>?_)
 refine qaj [1] [2,3] [(0,.p 0 0),(2,.p 1 0),(8,.v (.agg #[.int .i64 0,.slice none 0 0,.bool false,.slice (some ⟨aa,0,none⟩) 4 4,.slice none 0 0]))] ey jV fun oO jW=>?_
 refine qal (qaS ey jW (d:=3) (cs:=z0) kz fun au oP oQ lv lw lx jX jY=>?_)
 refine qal (qap jX jY (oi:=3) (cs:=(z7 aa)) kz fun oR ly jZ j0=>?_)
 refine qaf (qab ?_)
 refine qaE 9 kz jZ fun oS lz j1 ez=>?_
 refine qaD [0,1,2,3,4,5,6,7] [(0,.p 0 0),(2,.p 1 0),(3,.p 3 0),(10,.v (.slice (some ⟨aa,0,none⟩) 4 4)),(16,.v (.agg #[.int .i64 (IntKind.i64.wrap ((D.f 0).n)),.slice none 0 0,.bool false,.slice none 0 0,.slice none 0 0]))] 2 (qaa qad) (fun _ h=>h.cells) ez j0 fun oT j2=>?_
 refine qaJ j2 (i:=8) (t:=34) (A:=(some ⟨aa,0,none⟩)) (m:=4) (q:=0) (d:=17) kz (e:=37) (size:=5) (bytes:=88) (j:=0) kz (b:=aa) (o:=0) rfl rfl (by decide) kz kz (qaa qad) ez fun oU j3=>?_
 have j4:=j3.recast 17 (.v (.pointer (some ⟨aa,0 + 0 * 5,none⟩))) (.p 2 0) rfl rfl (Nat.le_of_ble_eq_true (n:=3) rfl)
 have j5:=j4.pk (env':=[(0,.p 0 0),(2,.p 1 0),(3,.p 3 0),(10,.v (.slice (some ⟨aa,0,none⟩) 4 4)),(16,.v (.agg #[.int .i64 (IntKind.i64.wrap ((D.f 0).n)),.slice none 0 0,.bool false,.slice none 0 0,.slice none 0 0])),(17,.p 2 0)])
 refine qan (i:=9) kz (qap j1 j5 (oi:=2) (cs:=(z35 D)) kz fun oV lA j6 j7=>?_)
 refine ⟨fun h=>absurd rfl h,?_⟩
 refine qaC kz ?_ _
 refine qab (qaE 9 kz j6 fun oW lB j8 eb=>?_)
 refine qaD [0,1,2,3,4,5,6] [(0,.p 0 0),(2,.p 1 0),(3,.p 3 0),(19,.v (.slice (some ⟨aa,0,none⟩) 4 4)),(24,.v (.bool (((D.f 1).A).isNone)))] 3 (qaa qad) (fun _ h=>h.cells) eb j7 fun oX j9=>?_
 refine qan (i:=7) kz (qax j9 (t:=34) (A:=(some ⟨aa,0,none⟩)) (m:=4) (q:=1) (d:=25) kz (e:=37) (size:=5) (bytes:=88) (j:=1) kz (b:=aa) (o:=0) rfl rfl (by decide) fun oY ka=>?_)
 have kd:=ka.recast 25 (.v (.pointer (some ⟨aa,0 + 1 * 5,none⟩))) (.p 2 5) rfl rfl (Nat.le_of_ble_eq_true (n:=3) rfl)
 have ke:=kd.pk (env':=[(0,.p 0 0),(2,.p 1 0),(3,.p 3 0),(19,.v (.slice (some ⟨aa,0,none⟩) 4 4)),(24,.v (.bool (((D.f 1).A).isNone))),(25,.p 2 5)])
 refine ⟨fun _=>eb,?_⟩
 refine qaD [8] [(0,.p 0 0),(2,.p 1 0),(3,.p 3 0),(24,.v (.bool (((D.f 1).A).isNone))),(26,.p 2 7)] 1 (qaa qad) (fun _ h=>h.cells) eb ke fun oZ kf=>?_
 refine qan (i:=9) kz (qap j8 kf (oi:=2) (cs:=[.int .i64 (IntKind.i64.wrap ((D.f 0).n)),.slice none 0 0,.bool false,.slice none 0 0,.slice none 0 0,.int .i64 0,.slice none 0 0,.bool (((D.f 1).A).isNone),.slice none 0 0,.slice none 0 0,.int .i64 0,.slice none 0 0,.bool false,.slice none 0 0,.slice none 0 0,.int .i64 0,.slice none 0 0,.bool false,.slice none 0 0,.slice none 0 0]) kz fun o5 lC ec kg=>?_)
 refine ⟨fun h=>absurd rfl h,?_⟩
 refine qaC kz ?_ _
 refine qab (wp_seq (qar [(0,.p 0 0),(2,.p 1 0),(3,.p 3 0),(31,.v (.int .i64 (((D.f 1).l:Nat):Int))),(32,.v (.int .i64 0))] ec kg fun o6 kh=>?_))
 refine wp_block ?_
 have eB:=ec.addNil 37 5
 have lD:=ec.frNil 37 5
 refine wp_loop_ghost (fun n_ a_ w_=>∃ (k1_:Nat) (A1_:Option Addr) (c1_:Nat) (xs1_:List Value) (css1_:List (List Value)),n_ = (D.f 1).l - k1_ ∧ k1_ ≤ (D.f 1).l ∧ (Trees w_ (Imm F w w_ [⟨b,o,[.int .i32 ((D.f 0).n),.slice ((D.f 1).A) ((D.f 1).l) ((D.f 1).c),.slice ((D.f 2).A) ((D.f 2).l) ((D.f 2).c),.slice ((D.f 3).A) ((D.f 3).l) ((D.f 3).c),.map D.m],false⟩,⟨b6,0,[.int .i64 0,.slice none 0 0,.bool false,.slice none 0 0,.slice none 0 0],true⟩,⟨aa,0,[.int .i64 (IntKind.i64.wrap ((D.f 0).n)),.slice none 0 0,.bool false,.slice none 0 0,.slice none 0 0,.int .i64 0,.slice none 0 0,.bool (((D.f 1).A).isNone),.slice A1_ k1_ c1_,.slice none 0 0,.int .i64 0,.slice none 0 0,.bool false,.slice none 0 0,.slice none 0 0,.int .i64 0,.slice none 0 0,.bool false,.slice none 0 0,.slice none 0 0],true⟩,⟨au,0,[.int .i64 0,.slice none 0 0,.bool false,.slice (some ⟨aa,0,none⟩) 4 4,.slice none 0 0],true⟩] [⟨A1_,c1_,37,5,k1_,xs1_⟩]) xs1_ (((List.range (D.f 1).l).map (fun i=>Tree.mk (IntKind.i64.wrap ((D.f 1).f i).n) [] false [] [])).take k1_) css1_) ∧ LInv eB 207 [⟨b,o,[.int .i32 ((D.f 0).n),.slice ((D.f 1).A) ((D.f 1).l) ((D.f 1).c),.slice ((D.f 2).A) ((D.f 2).l) ((D.f 2).c),.slice ((D.f 3).A) ((D.f 3).l) ((D.f 3).c),.map D.m],false⟩,⟨b6,0,[.int .i64 0,.slice none 0 0,.bool false,.slice none 0 0,.slice none 0 0],true⟩,⟨aa,0,[.int .i64 (IntKind.i64.wrap ((D.f 0).n)),.slice none 0 0,.bool false,.slice none 0 0,.slice none 0 0,.int .i64 0,.slice none 0 0,.bool (((D.f 1).A).isNone),.slice A1_ k1_ c1_,.slice none 0 0,.int .i64 0,.slice none 0 0,.bool false,.slice none 0 0,.slice none 0 0,.int .i64 0,.slice none 0 0,.bool false,.slice none 0 0,.slice none 0 0],true⟩,⟨au,0,[.int .i64 0,.slice none 0 0,.bool false,.slice (some ⟨aa,0,none⟩) 4 4,.slice none 0 0],true⟩] [⟨A1_,c1_,37,5,k1_,xs1_⟩] [(0,.p 0 0),(2,.p 1 0),(3,.p 3 0),(31,.v (.int .i64 (((D.f 1).l:Nat):Int))),(32,.v (.int .i64 ((k1_:Nat):Int)))] a_ w_) ((D.f 1).l) ⟨0,none,0,[],[],by omega,by omega,Trees.nil _ _,kh.pk,eB,Fr.refl _ _ _⟩ ?_
 rintro o7 o8 o9 ⟨k1_,A1_,c1_,xs1_,css1_,lE,lF,hT1_,ki,cY,eC⟩
 refine qar [(0,.p 0 0),(2,.p 1 0),(3,.p 3 0),(31,.v (.int .i64 (((D.f 1).l:Nat):Int))),(32,.v (.int .i64 ((k1_:Nat):Int))),(33,.v (.bool (decide (((k1_:Nat):Int) < (((D.f 1).l:Nat):Int)))))] cY ki fun pa ee=>?_
 refine wp_seq (qaw ee (b:=decide (((k1_:Nat):Int) < (((D.f 1).l:Nat):Int))) kz (fun ef=>?_) (fun ef=>?_))
 ·
  have lG:=of_decide_eq_true ef
  refine wp_skip (qab (wp_seq (wp_block (qar [(0,.p 0 0),(2,.p 1 0),(3,.p 3 0),(4,.v (.int .i64 ((k1_:Nat):Int))),(31,.v (.int .i64 (((D.f 1).l:Nat):Int))),(32,.v (.int .i64 ((k1_:Nat):Int)))] cY ee fun pb kj=>?_))))
  refine qaE 4 kz cY fun pc bD km lH=>?_
  refine qan (i:=0) kz (qaS km kj (d:=35) (cs:=[.bool false]) kz fun pd pe pf lI lJ af eg eD=>?_)
  have ko:=TT.ofW af eg
  refine ⟨fun _=>ko,?_⟩
  refine qc7 (i:=1) (j:=2) kz ?_ ?_
  ·
   refine (qap eg eD (oi:=4) (cs:=[.bool true]) kz fun pg bE cZ eE=>?_)
   have eF:=TT.ofW (af.trans bE) cZ
   refine ⟨fun _=>eF,?_⟩
   refine qan (i:=2) kz (qap cZ eE (oi:=4) (cs:=[.bool false]) kz fun lK aQ bg eG=>?_)
   have eH:=TT.ofW ((af.trans bE).trans aQ) bg
   refine ⟨fun _=>eH,?_⟩
   refine qan (i:=3) kz (qbd [0,2,3,4,31,32,36] bg.cells eG (env':=[(0,.p 0 0),(2,.p 1 0),(3,.p 3 0),(4,.v (.int .i64 ((k1_:Nat):Int))),(31,.v (.int .i64 (((D.f 1).l:Nat):Int))),(32,.v (.int .i64 ((k1_:Nat):Int))),(36,.v (.bool false))]) kz fun lL c5=>?_)
   have eI:=TT.ofW ((af.trans bE).trans aQ) bg
   refine ⟨fun _=>eI,?_⟩
   refine qaC kz ?_ _
   refine qab (qam c5 (b:=false) kz rfl ?_)
   refine qcr 20 kz bg fun lM bL c6 av=>?_
   refine qaD [0,1,2,3,7,8,9,10,11] [(0,.p 0 0),(2,.p 1 0),(3,.p 3 0),(31,.v (.int .i64 (((D.f 1).l:Nat):Int))),(32,.v (.int .i64 ((k1_:Nat):Int))),(58,.v (.slice (some ⟨aa,0,none⟩) 4 4)),(60,.v (.slice (some ⟨aa,0,none⟩) 4 4)),(67,.v (.slice ((D.f 1).A) ((D.f 1).l) ((D.f 1).c))),(68,.v (.int .i64 ((k1_:Nat):Int)))] 12 (qac (qaa (qaa (qac (qaa qad))))) (fun _ h=>h.cells) av c5 fun lN eJ=>?_
   refine qaJ eJ (i:=4) (t:=34) (A:=(some ⟨aa,0,none⟩)) (m:=4) (q:=1) (d:=61) kz (e:=37) (size:=5) (bytes:=88) (j:=1) kz (b:=aa) (o:=0) rfl rfl (by decide) kz kz (qac (qaa (qaa (qac (qaa qad))))) av fun lO eK=>?_
   have eL:=eK.recast 61 (.v (.pointer (some ⟨aa,0 + 1 * 5,none⟩))) (.p 2 5) rfl rfl (Nat.le_of_ble_eq_true (n:=3) rfl)
   have eM:=eL.pk (env':=[(0,.p 0 0),(2,.p 1 0),(3,.p 3 0),(31,.v (.int .i64 (((D.f 1).l:Nat):Int))),(32,.v (.int .i64 ((k1_:Nat):Int))),(58,.v (.slice (some ⟨aa,0,none⟩) 4 4)),(60,.v (.slice (some ⟨aa,0,none⟩) 4 4)),(67,.v (.slice ((D.f 1).A) ((D.f 1).l) ((D.f 1).c))),(68,.v (.int .i64 ((k1_:Nat):Int))),(61,.p 2 5)])
   refine qaD [5,6] [(0,.p 0 0),(2,.p 1 0),(3,.p 3 0),(31,.v (.int .i64 (((D.f 1).l:Nat):Int))),(32,.v (.int .i64 ((k1_:Nat):Int))),(58,.v (.slice (some ⟨aa,0,none⟩) 4 4)),(63,.v (.slice A1_ k1_ c1_)),(67,.v (.slice ((D.f 1).A) ((D.f 1).l) ((D.f 1).c))),(68,.v (.int .i64 ((k1_:Nat):Int)))] 9 (qac (qaa (qaa (qac (qaa qad))))) (fun _ h=>h.cells) av eM fun lP eN=>?_
   obtain ⟨kp,kq,eO,kJ,eh⟩:=Slots.get g2 (i:=k1_) (by omega)
   refine qaJ eN (i:=12) (t:=158) (A:=(D.f 1).A) (m:=((D.f 1).l)) (q:=((k1_:Nat):Int)) (d:=69) kz (e:=21) (size:=1) (bytes:=4) kz eO rfl (by omega) kz kz (qac (qaa (qaa (qac (qaa qad))))) av fun lQ eP=>?_
   refine qa6 eP (i:=13) (t:=21) (b:=kp) (o:=kq + k1_ * 1) (d:=70) kz (cs:=[.int .i32 (((D.f 1).f k1_).n)]) (v:=.int .i32 (((D.f 1).f k1_).n)) kz (fun w' h'=>(AtF.move eh (TT.step0 c6 h') nilM qbb).at_) kz kz (qac (qaa (qaa (qac (qaa qad))))) av fun lR eQ=>?_
   refine qaD [14,15] [(0,.p 0 0),(2,.p 1 0),(3,.p 3 0),(31,.v (.int .i64 (((D.f 1).l:Nat):Int))),(32,.v (.int .i64 ((k1_:Nat):Int))),(58,.v (.slice (some ⟨aa,0,none⟩) 4 4)),(63,.v (.slice A1_ k1_ c1_)),(72,.v (.agg #[.int .i64 (IntKind.i64.wrap (((D.f 1).f k1_).n)),.slice none 0 0,.bool false,.slice none 0 0,.slice none 0 0]))] 5 (qac (qaa (qaa (qac (qaa qad))))) (fun _ h=>h.cells) av eQ fun lS eR=>?_
   refine qan (i:=16) kz (qbq c6 eR (e:=37) (size:=5) (len:=1) (cs:=(z25 D k1_)) (d:=73) kz kz fun eS lT lU kK kL aw bh eU=>?_)
   have eV:=TT.ofW aw bh
   refine ⟨fun _=>eV,?_⟩
   refine qan (i:=17) kz (qaT bh eU (k:=0) (d:=74) (t:=34) (e:=37) (size:=5) (bytes:=88) (A:=A1_) (As:=(some ⟨eS,0,none⟩)) (m0:=k1_) (c:=c1_) (m:=1) (cs:=1) (xs:=xs1_) (news:=(z25 D k1_)) kz kz rfl (qbu (bh.own 1 _ rfl) (qbr kz)) (qbz (bh.own 1 _ rfl)) (by omega) fun bF bG lV lW aR bM eW=>?_)
   have eX:=TT.ofW (aw.trans aR) bM
   refine ⟨fun _=>eX,?_⟩
   refine qan (i:=18) kz (qax eW (t:=34) (A:=(some ⟨aa,0,none⟩)) (m:=4) (q:=1) (d:=75) kz (e:=37) (size:=5) (bytes:=88) (j:=1) kz (b:=aa) (o:=0) rfl rfl (by decide) fun lX eY=>?_)
   have eZ:=eY.recast 75 (.v (.pointer (some ⟨aa,0 + 1 * 5,none⟩))) (.p 2 5) rfl rfl (Nat.le_of_ble_eq_true (n:=3) rfl)
   have e9:=eZ.pk (env':=[(0,.p 0 0),(2,.p 1 0),(3,.p 3 0),(31,.v (.int .i64 (((D.f 1).l:Nat):Int))),(32,.v (.int .i64 ((k1_:Nat):Int))),(58,.v (.slice (some ⟨aa,0,none⟩) 4 4)),(63,.v (.slice A1_ k1_ c1_)),(72,.v (.agg #[.int .i64 (IntKind.i64.wrap (((D.f 1).f k1_).n)),.slice none 0 0,.bool false,.slice none 0 0,.slice none 0 0])),(73,.v (.slice (some ⟨eS,0,none⟩) 1 1)),(74,.v (.slice bF (k1_ + 1) bG)),(75,.p 2 5)])
   have da:=TT.ofW (aw.trans aR) bM
   refine ⟨fun _=>da,?_⟩
   refine qaD [19] [(0,.p 0 0),(2,.p 1 0),(3,.p 3 0),(31,.v (.int .i64 (((D.f 1).l:Nat):Int))),(32,.v (.int .i64 ((k1_:Nat):Int))),(74,.v (.slice bF (k1_ + 1) bG)),(76,.p 2 8)] 1 (qac (qaa (qaa (qac (qaa qad))))) (fun _ h=>h.cells) da e9 fun lY fa=>?_
   refine qan (i:=20) kz (qap bM fa (oi:=2) (cs:=(z9 D bF k1_ bG)) kz fun lZ bN db fb=>?_)
   refine ⟨fun h=>absurd rfl h,?_⟩
   refine qaC kz ?_ _
   refine qas (qab (qaq [0,1] kz ?_))
   refine qaj [0,1] [] [(0,.p 0 0),(2,.p 1 0),(3,.p 3 0),(31,.v (.int .i64 (((D.f 1).l:Nat):Int))),(32,.v (.int .i64 (IntKind.i64.wrap (((k1_:Nat):Int) + 1))))] db fb fun l0 fe=>?_
   refine qaf (qab ?_)
   obtain ⟨dc,ff,bO⟩:=db.cutB fe 4 [⟨b,o,(z6 D),false⟩,⟨b6,0,z0,true⟩,⟨aa,0,(z9 D bF k1_ bG),true⟩,⟨au,0,(z7 aa),true⟩] [(0,.p 0 0),(2,.p 1 0),(3,.p 3 0),(31,.v (.int .i64 (((D.f 1).l:Nat):Int))),(32,.v (.int .i64 (IntKind.i64.wrap (((k1_:Nat):Int) + 1))))]
   obtain ⟨fg,bP⟩:=ff.cutR 1 [⟨bF,bG,37,5,k1_ + 1,xs1_ ++ (z25 D k1_)⟩]
   have fh:IntKind.i64.wrap (((k1_:Nat):Int) + 1) = ((k1_ + 1:Nat):Int):=qaP (by omega)
   rw [fh] at dc
   exact ⟨(D.f 1).l - (k1_ + 1),by omega,k1_ + 1,bF,bG,xs1_ ++ [Value.int .i64 (IntKind.i64.wrap (((D.f 1).f k1_).n)),.slice none 0 0,.bool false,.slice none 0 0,.slice none 0 0],(css1_ ++ [[Value.int .i64 (IntKind.i64.wrap (((D.f 1).f k1_).n)),.slice none 0 0,.bool false,.slice none 0 0,.slice none 0 0]]),rfl,by omega,by rw [qbO (by omega)]; exact (hT1_.move (((((((((bD.trans af).trans bE).trans aQ).trans bL).trans aw).trans aR).trans bN).trans bO).trans bP).step immM (((((((((bD.trans af).trans bE).trans aQ).trans bL).trans aw).trans aR).trans bN).trans bO).trans bP).to').snoc (x:=(fun i=>Tree.mk (IntKind.i64.wrap ((D.f 1).f i).n) [] false [] []) k1_) (TreeR.mk (n:=IntKind.i64.wrap (((D.f 1).f k1_).n)) (b:=false) (s:=[]) (l:=[]) (u:=[]) (fun _=>[]) (Octs.nil _ _) (Slots.nil _ _ _ _) (fun i_ x_ h_=>by simp at h_) (TagsR.nil _ _)),dc.pk,fg,((((((((((eC.trans bD).trans af).trans bE).trans aQ).trans bL).trans aw).trans aR).trans bN).trans bO).trans bP)⟩
  refine (qap eg eD (oi:=4) (cs:=[.bool false]) kz fun l3 ax de fi=>?_)
  have fj:=TT.ofW (af.trans ax) de
  refine ⟨fun _=>fj,?_⟩
  refine qan (i:=1) kz (qap de fi (oi:=4) (cs:=[.bool true]) kz fun l5 aS bi fk=>?_)
  have fm:=TT.ofW ((af.trans ax).trans aS) bi
  refine ⟨fun _=>fm,?_⟩
  refine qan (i:=3) kz (qbd [0,2,3,4,31,32,36] bi.cells fk (env':=[(0,.p 0 0),(2,.p 1 0),(3,.p 3 0),(4,.v (.int .i64 ((k1_:Nat):Int))),(31,.v (.int .i64 (((D.f 1).l:Nat):Int))),(32,.v (.int .i64 ((k1_:Nat):Int))),(36,.v (.bool true))]) kz fun l6 df=>?_)
  have fo:=TT.ofW ((af.trans ax).trans aS) bi
  refine ⟨fun _=>fo,?_⟩
  refine qaC kz ?_ _
  refine qab (qa4 df (b:=true) kz rfl ?_)
  refine qaE 19 kz bi fun l7 bQ dg ay=>?_
  refine qaD [0,1,5,6,7,8,9] [(0,.p 0 0),(2,.p 1 0),(3,.p 3 0),(31,.v (.int .i64 (((D.f 1).l:Nat):Int))),(32,.v (.int .i64 ((k1_:Nat):Int))),(38,.v (.slice (some ⟨aa,0,none⟩) 4 4)),(45,.v (.slice ((D.f 1).A) ((D.f 1).l) ((D.f 1).c))),(46,.v (.int .i64 ((k1_:Nat):Int)))] 13 (qaa (qac (qaa (qaa (qac (qaa qad)))))) (fun _ h=>h.cells) ay df fun l9 fq=>?_
  refine qaJ fq (i:=2) (t:=34) (A:=(some ⟨aa,0,none⟩)) (m:=4) (q:=1) (d:=39) kz (e:=37) (size:=5) (bytes:=88) (j:=1) kz (b:=aa) (o:=0) rfl rfl (by decide) kz kz (qaa (qac (qaa (qaa (qac (qaa qad)))))) ay fun ma fr=>?_
  have ft:=fr.recast 39 (.v (.pointer (some ⟨aa,0 + 1 * 5,none⟩))) (.p 2 5) rfl rfl (Nat.le_of_ble_eq_true (n:=3) rfl)
  have fu:=ft.pk (env':=[(0,.p 0 0),(2,.p 1 0),(3,.p 3 0),(31,.v (.int .i64 (((D.f 1).l:Nat):Int))),(32,.v (.int .i64 ((k1_:Nat):Int))),(38,.v (.slice (some ⟨aa,0,none⟩) 4 4)),(45,.v (.slice ((D.f 1).A) ((D.f 1).l) ((D.f 1).c))),(46,.v (.int .i64 ((k1_:Nat):Int))),(39,.p 2 5)])
  refine qaD [3,4,14] [(0,.p 0 0),(2,.p 1 0),(3,.p 3 0),(31,.v (.int .i64 (((D.f 1).l:Nat):Int))),(32,.v (.int .i64 ((k1_:Nat):Int))),(38,.v (.slice (some ⟨aa,0,none⟩) 4 4)),(41,.v (.slice A1_ k1_ c1_)),(45,.v (.slice ((D.f 1).A) ((D.f 1).l) ((D.f 1).c))),(46,.v (.int .i64 ((k1_:Nat):Int))),(51,.v (.int .i64 ((k1_:Nat):Int)))] 9 (qaa (qac (qaa (qaa (qac (qaa qad)))))) (fun _ h=>h.cells) ay fu fun mc fv=>?_
  obtain ⟨ku,kv,fw,kM,ei⟩:=Slots.get g2 (i:=k1_) (by omega)
  refine qaJ fv (i:=10) (t:=158) (A:=(D.f 1).A) (m:=((D.f 1).l)) (q:=((k1_:Nat):Int)) (d:=47) kz (e:=21) (size:=1) (bytes:=4) kz fw rfl (by omega) kz kz (qaa (qac (qaa (qaa (qac (qaa qad)))))) ay fun md fx=>?_
  refine qa6 fx (i:=11) (t:=21) (b:=ku) (o:=kv + k1_ * 1) (d:=48) kz (cs:=[.int .i32 (((D.f 1).f k1_).n)]) (v:=.int .i32 (((D.f 1).f k1_).n)) kz (fun w' h'=>(AtF.move ei (TT.step0 dg h') nilM qbb).at_) kz kz (qaa (qac (qaa (qaa (qac (qaa qad)))))) ay fun me fy=>?_
  refine qaD [12,13] [(0,.p 0 0),(2,.p 1 0),(3,.p 3 0),(31,.v (.int .i64 (((D.f 1).l:Nat):Int))),(32,.v (.int .i64 ((k1_:Nat):Int))),(38,.v (.slice (some ⟨aa,0,none⟩) 4 4)),(41,.v (.slice A1_ k1_ c1_)),(50,.v (.agg #[.int .i64 (IntKind.i64.wrap (((D.f 1).f k1_).n)),.slice none 0 0,.bool false,.slice none 0 0,.slice none 0 0])),(51,.v (.int .i64 ((k1_:Nat):Int)))] 5 (qaa (qac (qaa (qaa (qac (qaa qad)))))) (fun _ h=>h.cells) ay fy fun mf fz=>?_
  refine qan (i:=15) kz (qbq dg fz (e:=37) (size:=5) (len:=1) (cs:=z0) (d:=52) kz kz fun ej mg mh kN kO az bj fA=>?_)
  have fB:=TT.ofW az bj
  refine ⟨fun _=>fB,?_⟩
  refine qan (i:=16) kz (qaT bj fA (k:=0) (d:=53) (t:=34) (e:=37) (size:=5) (bytes:=88) (A:=A1_) (As:=(some ⟨ej,0,none⟩)) (m0:=k1_) (c:=c1_) (m:=1) (cs:=1) (xs:=xs1_) (news:=z0) kz kz rfl (qbu (bj.own 1 _ rfl) (qbr kz)) (qbz (bj.own 1 _ rfl)) (by omega) fun ai ao mi mj aT bR fC=>?_)
  have fD:=TT.ofW (az.trans aT) bR
  refine ⟨fun _=>fD,?_⟩
  refine qan (i:=17) kz (qax fC (t:=34) (A:=(some ⟨aa,0,none⟩)) (m:=4) (q:=1) (d:=54) kz (e:=37) (size:=5) (bytes:=88) (j:=1) kz (b:=aa) (o:=0) rfl rfl (by decide) fun ml fE=>?_)
  have fF:=fE.recast 54 (.v (.pointer (some ⟨aa,0 + 1 * 5,none⟩))) (.p 2 5) rfl rfl (Nat.le_of_ble_eq_true (n:=3) rfl)
  have fG:=fF.pk (env':=[(0,.p 0 0),(2,.p 1 0),(3,.p 3 0),(31,.v (.int .i64 (((D.f 1).l:Nat):Int))),(32,.v (.int .i64 ((k1_:Nat):Int))),(38,.v (.slice (some ⟨aa,0,none⟩) 4 4)),(41,.v (.slice A1_ k1_ c1_)),(50,.v (.agg #[.int .i64 (IntKind.i64.wrap (((D.f 1).f k1_).n)),.slice none 0 0,.bool false,.slice none 0 0,.slice none 0 0])),(51,.v (.int .i64 ((k1_:Nat):Int))),(52,.v (.slice (some ⟨ej,0,none⟩) 1 1)),(53,.v (.slice ai (k1_ + 1) ao)),(54,.p 2 5)])
  have dh:=TT.ofW (az.trans aT) bR
  refine ⟨fun _=>dh,?_⟩
  refine qaD [18] [(0,.p 0 0),(2,.p 1 0),(3,.p 3 0),(31,.v (.int .i64 (((D.f 1).l:Nat):Int))),(32,.v (.int .i64 ((k1_:Nat):Int))),(50,.v (.agg #[.int .i64 (IntKind.i64.wrap (((D.f 1).f k1_).n)),.slice none 0 0,.bool false,.slice none 0 0,.slice none 0 0])),(51,.v (.int .i64 ((k1_:Nat):Int))),(53,.v (.slice ai (k1_ + 1) ao)),(55,.p 2 8)] 1 (qaa (qac (qaa (qaa (qac (qaa qad)))))) (fun _ h=>h.cells) dh fG fun mn fH=>?_
  refine qan (i:=19) kz (qap bR fH (oi:=2) (cs:=(z9 D ai k1_ ao)) kz fun kw bS di fI=>?_)
  refine ⟨fun h=>absurd rfl h,?_⟩
  refine qaC kz ?_ _
  refine qab (qaq [0,1] kz ?_)
  have fJ:World.ownsRow kw 0 37 5 (.slice ai (k1_ + 1) ao) (k1_ + 1) (xs1_ ++ z0):=di.own 0 _ rfl
  obtain ⟨fK,dj⟩:=qbS fJ (by omega)
  refine qal (qax fI (t:=34) (A:=ai) (m:=(k1_ + 1)) (q:=((k1_:Nat):Int)) (d:=56) kz (e:=37) (size:=5) (bytes:=88) kz (b:=fK) (o:=0) (j:=k1_) dj (rfl) (by omega) fun mo fL=>?_)
  refine qal (qbK di fL (k:=0) (g:=fK) (o:=k1_ * 5) (c:=ao) (m:=(k1_ + 1)) (size:=5) (e:=37) (A:=ai) (xs:=(xs1_ ++ [.int .i64 0,.slice none 0 0,.bool false,.slice none 0 0,.slice none 0 0])) (vs:=[.int .i64 (IntKind.i64.wrap (((D.f 1).f k1_).n)),.slice none 0 0,.bool false,.slice none 0 0,.slice none 0 0]) kz rfl dj (by simp only [List.length_cons,List.length_nil]; omega) fun mp bT fM fN=>?_)
  have fO:(⟨ai,ao,37,5,k1_ + 1,qbn (xs1_ ++ [.int .i64 0,.slice none 0 0,.bool false,.slice none 0 0,.slice none 0 0]) (k1_ * 5) [.int .i64 (IntKind.i64.wrap (((D.f 1).f k1_).n)),.slice none 0 0,.bool false,.slice none 0 0,.slice none 0 0]⟩:Rw) = ⟨ai,ao,37,5,k1_ + 1,xs1_ ++ [.int .i64 (IntKind.i64.wrap (((D.f 1).f k1_).n)),.slice none 0 0,.bool false,.slice none 0 0,.slice none 0 0]⟩:=by rw [qcx (by rw [hT1_.xslen,List.length_take,qbC]; omega)]
  obtain ⟨dl,bU⟩:=fM.rowEq 0 [⟨ai,ao,37,5,k1_ + 1,xs1_ ++ (z25 D k1_)⟩,⟨some ⟨ej,0,none⟩,1,37,5,1,z0⟩] fO
  refine qaf (qas (qab (qaq [0,1] kz ?_)))
  refine qaj [0,1] [] [(0,.p 0 0),(2,.p 1 0),(3,.p 3 0),(31,.v (.int .i64 (((D.f 1).l:Nat):Int))),(32,.v (.int .i64 (IntKind.i64.wrap (((k1_:Nat):Int) + 1))))] dl fN fun mq fP=>?_
  refine qaf (qab ?_)
  obtain ⟨dp,fQ,bV⟩:=dl.cutB fP 4 [⟨b,o,(z6 D),false⟩,⟨b6,0,z0,true⟩,⟨aa,0,(z9 D ai k1_ ao),true⟩,⟨au,0,(z7 aa),true⟩] [(0,.p 0 0),(2,.p 1 0),(3,.p 3 0),(31,.v (.int .i64 (((D.f 1).l:Nat):Int))),(32,.v (.int .i64 (IntKind.i64.wrap (((k1_:Nat):Int) + 1))))]
  obtain ⟨fR,bW⟩:=fQ.cutR 1 [⟨ai,ao,37,5,k1_ + 1,xs1_ ++ (z25 D k1_)⟩]
  have fS:IntKind.i64.wrap (((k1_:Nat):Int) + 1) = ((k1_ + 1:Nat):Int):=qaP (by omega)
  rw [fS] at dp
  exact ⟨(D.f 1).l - (k1_ + 1),by omega,k1_ + 1,ai,ao,xs1_ ++ [Value.int .i64 (IntKind.i64.wrap (((D.f 1).f k1_).n)),.slice none 0 0,.bool false,.slice none 0 0,.slice none 0 0],(css1_ ++ [[Value.int .i64 (IntKind.i64.wrap (((D.f 1).f k1_).n)),.slice none 0 0,.bool false,.slice none 0 0,.slice none 0 0]]),rfl,by omega,by rw [qbO (by omega)]; exact (hT1_.move (((((((((((bD.trans af).trans ax).trans aS).trans bQ).trans az).trans aT).trans bS).trans bT).trans bU).trans bV).trans bW).step immM (((((((((((bD.trans af).trans ax).trans aS).trans bQ).trans az).trans aT).trans bS).trans bT).trans bU).trans bV).trans bW).to').snoc (x:=(fun i=>Tree.mk (IntKind.i64.wrap ((D.f 1).f i).n) [] false [] []) k1_) (TreeR.mk (n:=IntKind.i64.wrap (((D.f 1).f k1_).n)) (b:=false) (s:=[]) (l:=[]) (u:=[]) (fun _=>[]) (Octs.nil _ _) (Slots.nil _ _ _ _) (fun i_ x_ h_=>by simp at h_) (TagsR.nil _ _)),dp.pk,fR,((((((((((((eC.trans bD).trans af).trans ax).trans aS).trans bQ).trans az).trans aT).trans bS).trans bT).trans bU).trans bV).trans bW)⟩
 have kP:=of_decide_eq_false ef
 refine wp_exit (qau (qau (qaL (qab (qaE 9 kz cY fun mr dq fT bX=>?_)))))
 refine qaD [0,1,2,3,4,5,6] [(0,.p 0 0),(2,.p 1 0),(3,.p 3 0),(79,.v (.slice (some ⟨aa,0,none⟩) 4 4)),(84,.v (.bool (((D.f 2).A).isNone)))] 3 (qaa qad) (fun _ h=>h.cells) bX ee fun mt fU=>?_
 refine qan (i:=7) kz (qax fU (t:=34) (A:=(some ⟨aa,0,none⟩)) (m:=4) (q:=2) (d:=85) kz (e:=37) (size:=5) (bytes:=88) (j:=2) kz (b:=aa) (o:=0) rfl rfl (by decide) fun mu fV=>?_)
 have fW:=fV.recast 85 (.v (.pointer (some ⟨aa,0 + 2 * 5,none⟩))) (.p 2 10) rfl rfl (Nat.le_of_ble_eq_true (n:=3) rfl)
 have fX:=fW.pk (env':=[(0,.p 0 0),(2,.p 1 0),(3,.p 3 0),(79,.v (.slice (some ⟨aa,0,none⟩) 4 4)),(84,.v (.bool (((D.f 2).A).isNone))),(85,.p 2 10)])
 refine ⟨fun _=>bX,?_⟩
 refine qaD [8] [(0,.p 0 0),(2,.p 1 0),(3,.p 3 0),(84,.v (.bool (((D.f 2).A).isNone))),(86,.p 2 12)] 1 (qaa qad) (fun _ h=>h.cells) bX fX fun mw fY=>?_
 refine qan (i:=9) kz (qap fT fY (oi:=2) (cs:=[.int .i64 (IntKind.i64.wrap ((D.f 0).n)),.slice none 0 0,.bool false,.slice none 0 0,.slice none 0 0,.int .i64 0,.slice none 0 0,.bool (((D.f 1).A).isNone),.slice A1_ k1_ c1_,.slice none 0 0,.int .i64 0,.slice none 0 0,.bool (((D.f 2).A).isNone),.slice none 0 0,.slice none 0 0,.int .i64 0,.slice none 0 0,.bool false,.slice none 0 0,.slice none 0 0]) kz fun mx dr bY fZ=>?_)
 refine ⟨fun h=>absurd rfl h,?_⟩
 refine qaC kz ?_ _
 refine qab (wp_seq (qar [(0,.p 0 0),(2,.p 1 0),(3,.p 3 0),(91,.v (.int .i64 (((D.f 2).l:Nat):Int))),(92,.v (.int .i64 0))] bY fZ fun my f5=>?_))
 refine wp_block ?_
 have dt:=bY.addNil 37 5
 have du:=bY.frNil 37 5
 refine wp_loop_ghost (fun n_ a_ w_=>∃ (k2_:Nat) (A2_:Option Addr) (c2_:Nat) (xs2_:List Value) (css2_:List (List Value)),n_ = (D.f 2).l - k2_ ∧ k2_ ≤ (D.f 2).l ∧ (Trees w_ (Imm F w w_ [⟨b,o,[.int .i32 ((D.f 0).n),.slice ((D.f 1).A) ((D.f 1).l) ((D.f 1).c),.slice ((D.f 2).A) ((D.f 2).l) ((D.f 2).c),.slice ((D.f 3).A) ((D.f 3).l) ((D.f 3).c),.map D.m],false⟩,⟨b6,0,[.int .i64 0,.slice none 0 0,.bool false,.slice none 0 0,.slice none 0 0],true⟩,⟨aa,0,[.int .i64 (IntKind.i64.wrap ((D.f 0).n)),.slice none 0 0,.bool false,.slice none 0 0,.slice none 0 0,.int .i64 0,.slice none 0 0,.bool (((D.f 1).A).isNone),.slice A1_ k1_ c1_,.slice none 0 0,.int .i64 0,.slice none 0 0,.bool (((D.f 2).A).isNone),.slice A2_ k2_ c2_,.slice none 0 0,.int .i64 0,.slice none 0 0,.bool false,.slice none 0 0,.slice none 0 0],true⟩,⟨au,0,[.int .i64 0,.slice none 0 0,.bool false,.slice (some ⟨aa,0,none⟩) 4 4,.slice none 0 0],true⟩] [⟨A1_,c1_,37,5,k1_,xs1_⟩,⟨A2_,c2_,37,5,k2_,xs2_⟩]) xs2_ (((List.range (D.f 2).l).map (fun i=>Tree.mk (IntKind.i64.wrap ((D.f 2).f i).n) [] false [] [])).take k2_) css2_) ∧ LInv dt 207 [⟨b,o,[.int .i32 ((D.f 0).n),.slice ((D.f 1).A) ((D.f 1).l) ((D.f 1).c),.slice ((D.f 2).A) ((D.f 2).l) ((D.f 2).c),.slice ((D.f 3).A) ((D.f 3).l) ((D.f 3).c),.map D.m],false⟩,⟨b6,0,[.int .i64 0,.slice none 0 0,.bool false,.slice none 0 0,.slice none 0 0],true⟩,⟨aa,0,[.int .i64 (IntKind.i64.wrap ((D.f 0).n)),.slice none 0 0,.bool false,.slice none 0 0,.slice none 0 0,.int .i64 0,.slice none 0 0,.bool (((D.f 1).A).isNone),.slice A1_ k1_ c1_,.slice none 0 0,.int .i64 0,.slice none 0 0,.bool (((D.f 2).A).isNone),.slice A2_ k2_ c2_,.slice none 0 0,.int .i64 0,.slice none 0 0,.bool false,.slice none 0 0,.slice none 0 0],true⟩,⟨au,0,[.int .i64 0,.slice none 0 0,.bool false,.slice (some ⟨aa,0,none⟩) 4 4,.slice none 0 0],true⟩] [⟨A1_,c1_,37,5,k1_,xs1_⟩,⟨A2_,c2_,37,5,k2_,xs2_⟩] [(0,.p 0 0),(2,.p 1 0),(3,.p 3 0),(91,.v (.int .i64 (((D.f 2).l:Nat):Int))),(92,.v (.int .i64 ((k2_:Nat):Int)))] a_ w_) ((D.f 2).l) ⟨0,none,0,[],[],by omega,by omega,Trees.nil _ _,f5.pk,dt,Fr.refl _ _ _⟩ ?_
 rintro mz mA mB ⟨k2_,A2_,c2_,xs2_,css2_,kQ,kR,hT2_,f7,bk,bn⟩
 refine qar [(0,.p 0 0),(2,.p 1 0),(3,.p 3 0),(91,.v (.int .i64 (((D.f 2).l:Nat):Int))),(92,.v (.int .i64 ((k2_:Nat):Int))),(93,.v (.bool (decide (((k2_:Nat):Int) < (((D.f 2).l:Nat):Int)))))] bk f7 fun mC bZ=>?_
 refine wp_seq (qaw bZ (b:=decide (((k2_:Nat):Int) < (((D.f 2).l:Nat):Int))) kz (fun b8=>?_) (fun b8=>?_))
 ·
  have kS:=of_decide_eq_true b8
  refine wp_skip (qab (wp_seq (wp_block (qar [(0,.p 0 0),(2,.p 1 0),(3,.p 3 0),(5,.v (.int .i64 ((k2_:Nat):Int))),(91,.v (.int .i64 (((D.f 2).l:Nat):Int))),(92,.v (.int .i64 ((k2_:Nat):Int)))] bk bZ fun mD f8=>?_))))
  refine qaE 4 kz bk fun mF aA f9 kT=>?_
  refine qan (i:=0) kz (qaS f9 f8 (d:=95) (cs:=[.bool false]) kz fun mG mH mI kU kV ab cd dv=>?_)
  have ga:=TT.ofW ab cd
  refine ⟨fun _=>ga,?_⟩
  refine qc7 (i:=1) (j:=2) kz ?_ ?_
  ·
   refine (qap cd dv (oi:=4) (cs:=[.bool true]) kz fun mJ aB dw gb=>?_)
   have gc:=TT.ofW (ab.trans aB) dw
   refine ⟨fun _=>gc,?_⟩
   refine qan (i:=2) kz (qap dw gb (oi:=4) (cs:=[.bool false]) kz fun mK aU bo gd=>?_)
   have ge:=TT.ofW ((ab.trans aB).trans aU) bo
   refine ⟨fun _=>ge,?_⟩
   refine qan (i:=3) kz (qbd [0,2,3,5,91,92,96] bo.cells gd (env':=[(0,.p 0 0),(2,.p 1 0),(3,.p 3 0),(5,.v (.int .i64 ((k2_:Nat):Int))),(91,.v (.int .i64 (((D.f 2).l:Nat):Int))),(92,.v (.int .i64 ((k2_:Nat):Int))),(96,.v (.bool false))]) kz fun mL dx=>?_)
   have gg:=TT.ofW ((ab.trans aB).trans aU) bo
   refine ⟨fun _=>gg,?_⟩
   refine qaC kz ?_ _
   refine qab (qam dx (b:=false) kz rfl ?_)
   refine qcr 20 kz bo fun mM ce dy aC=>?_
   refine qaD [0,1,2,3,7,8,9,10,11] [(0,.p 0 0),(2,.p 1 0),(3,.p 3 0),(91,.v (.int .i64 (((D.f 2).l:Nat):Int))),(92,.v (.int .i64 ((k2_:Nat):Int))),(118,.v (.slice (some ⟨aa,0,none⟩) 4 4)),(120,.v (.slice (some ⟨aa,0,none⟩) 4 4)),(127,.v (.slice ((D.f 2).A) ((D.f 2).l) ((D.f 2).c))),(128,.v (.int .i64 ((k2_:Nat):Int)))] 12 (qac (qaa (qaa (qac (qaa qad))))) (fun _ h=>h.cells) aC dx fun mN gh=>?_
   refine qaJ gh (i:=4) (t:=34) (A:=(some ⟨aa,0,none⟩)) (m:=4) (q:=2) (d:=121) kz (e:=37) (size:=5) (bytes:=88) (j:=2) kz (b:=aa) (o:=0) rfl rfl (by decide) kz kz (qac (qaa (qaa (qac (qaa qad))))) aC fun mO gi=>?_
   have gj:=gi.recast 121 (.v (.pointer (some ⟨aa,0 + 2 * 5,none⟩))) (.p 2 10) rfl rfl (Nat.le_of_ble_eq_true (n:=3) rfl)
   have gk:=gj.pk (env':=[(0,.p 0 0),(2,.p 1 0),(3,.p 3 0),(91,.v (.int .i64 (((D.f 2).l:Nat):Int))),(92,.v (.int .i64 ((k2_:Nat):Int))),(118,.v (.slice (some ⟨aa,0,none⟩) 4 4)),(120,.v (.slice (some ⟨aa,0,none⟩) 4 4)),(127,.v (.slice ((D.f 2).A) ((D.f 2).l) ((D.f 2).c))),(128,.v (.int .i64 ((k2_:Nat):Int))),(121,.p 2 10)])
   refine qaD [5,6] [(0,.p 0 0),(2,.p 1 0),(3,.p 3 0),(91,.v (.int .i64 (((D.f 2).l:Nat):Int))),(92,.v (.int .i64 ((k2_:Nat):Int))),(118,.v (.slice (some ⟨aa,0,none⟩) 4 4)),(123,.v (.slice A2_ k2_ c2_)),(127,.v (.slice ((D.f 2).A) ((D.f 2).l) ((D.f 2).c))),(128,.v (.int .i64 ((k2_:Nat):Int)))] 9 (qac (qaa (qaa (qac (qaa qad))))) (fun _ h=>h.cells) aC gk fun mQ gl=>?_
   obtain ⟨kx,ky,gm,kW,ek⟩:=Slots.get g3 (i:=k2_) (by omega)
   refine qaJ gl (i:=12) (t:=158) (A:=(D.f 2).A) (m:=((D.f 2).l)) (q:=((k2_:Nat):Int)) (d:=129) kz (e:=21) (size:=1) (bytes:=4) kz gm rfl (by omega) kz kz (qac (qaa (qaa (qac (qaa qad))))) aC fun mR gn=>?_
   refine qa6 gn (i:=13) (t:=21) (b:=kx) (o:=ky + k2_ * 1) (d:=130) kz (cs:=[.int .i32 (((D.f 2).f k2_).n)]) (v:=.int .i32 (((D.f 2).f k2_).n)) kz (fun w' h'=>(AtF.move ek (TT.step0 dy h') nilM qbb).at_) kz kz (qac (qaa (qaa (qac (qaa qad))))) aC fun mS gp=>?_
   refine qaD [14,15] [(0,.p 0 0),(2,.p 1 0),(3,.p 3 0),(91,.v (.int .i64 (((D.f 2).l:Nat):Int))),(92,.v (.int .i64 ((k2_:Nat):Int))),(118,.v (.slice (some ⟨aa,0,none⟩) 4 4)),(123,.v (.slice A2_ k2_ c2_)),(132,.v (.agg #[.int .i64 (IntKind.i64.wrap (((D.f 2).f k2_).n)),.slice none 0 0,.bool false,.slice none 0 0,.slice none 0 0]))] 5 (qac (qaa (qaa (qac (qaa qad))))) (fun _ h=>h.cells) aC gp fun mT gq=>?_
   refine qan (i:=16) kz (qbq dy gq (e:=37) (size:=5) (len:=1) (cs:=(z26 D k2_)) (d:=133) kz kz fun gt mU mV kX kY aD bp gv=>?_)
   have gw:=TT.ofW aD bp
   refine ⟨fun _=>gw,?_⟩
   refine qan (i:=17) kz (qaT bp gv (k:=1) (d:=134) (t:=34) (e:=37) (size:=5) (bytes:=88) (A:=A2_) (As:=(some ⟨gt,0,none⟩)) (m0:=k2_) (c:=c2_) (m:=1) (cs:=1) (xs:=xs2_) (news:=(z26 D k2_)) kz kz rfl (qbu (bp.own 2 _ rfl) (qbr kz)) (qbz (bp.own 2 _ rfl)) (by omega) fun bH bI mW mX aV cm gx=>?_)
   have gy:=TT.ofW (aD.trans aV) cm
   refine ⟨fun _=>gy,?_⟩
   refine qan (i:=18) kz (qax gx (t:=34) (A:=(some ⟨aa,0,none⟩)) (m:=4) (q:=2) (d:=135) kz (e:=37) (size:=5) (bytes:=88) (j:=2) kz (b:=aa) (o:=0) rfl rfl (by decide) fun mY gz=>?_)
   have gA:=gz.recast 135 (.v (.pointer (some ⟨aa,0 + 2 * 5,none⟩))) (.p 2 10) rfl rfl (Nat.le_of_ble_eq_true (n:=3) rfl)
   have gB:=gA.pk (env':=[(0,.p 0 0),(2,.p 1 0),(3,.p 3 0),(91,.v (.int .i64 (((D.f 2).l:Nat):Int))),(92,.v (.int .i64 ((k2_:Nat):Int))),(118,.v (.slice (some ⟨aa,0,none⟩) 4 4)),(123,.v (.slice A2_ k2_ c2_)),(132,.v (.agg #[.int .i64 (IntKind.i64.wrap (((D.f 2).f k2_).n)),.slice none 0 0,.bool false,.slice none 0 0,.slice none 0 0])),(133,.v (.slice (some ⟨gt,0,none⟩) 1 1)),(134,.v (.slice bH (k2_ + 1) bI)),(135,.p 2 10)])
   have dz:=TT.ofW (aD.trans aV) cm
   refine ⟨fun _=>dz,?_⟩
   refine qaD [19] [(0,.p 0 0),(2,.p 1 0),(3,.p 3 0),(91,.v (.int .i64 (((D.f 2).l:Nat):Int))),(92,.v (.int .i64 ((k2_:Nat):Int))),(134,.v (.slice bH (k2_ + 1) bI)),(136,.p 2 13)] 1 (qac (qaa (qaa (qac (qaa qad))))) (fun _ h=>h.cells) dz gB fun mZ gC=>?_
   refine qan (i:=20) kz (qap cm gC (oi:=2) (cs:=(z10 D A1_ k1_ c1_ bH k2_ bI)) kz fun m4 cq dA gD=>?_)
   refine ⟨fun h=>absurd rfl h,?_⟩
   refine qaC kz ?_ _
   refine qas (qab (qaq [0,1] kz ?_))
   refine qaj [0,1] [] [(0,.p 0 0),(2,.p 1 0),(3,.p 3 0),(91,.v (.int .i64 (((D.f 2).l:Nat):Int))),(92,.v (.int .i64 (IntKind.i64.wrap (((k2_:Nat):Int) + 1))))] dA gD fun m5 gE=>?_
   refine qaf (qab ?_)
   obtain ⟨dB,gF,cr⟩:=dA.cutB gE 4 [⟨b,o,(z6 D),false⟩,⟨b6,0,z0,true⟩,⟨aa,0,(z10 D A1_ k1_ c1_ bH k2_ bI),true⟩,⟨au,0,(z7 aa),true⟩] [(0,.p 0 0),(2,.p 1 0),(3,.p 3 0),(91,.v (.int .i64 (((D.f 2).l:Nat):Int))),(92,.v (.int .i64 (IntKind.i64.wrap (((k2_:Nat):Int) + 1))))]
   obtain ⟨gG,cu⟩:=gF.cutR 2 [⟨A1_,c1_,37,5,k1_,xs1_⟩,⟨bH,bI,37,5,k2_ + 1,xs2_ ++ (z26 D k2_)⟩]
   have gH:IntKind.i64.wrap (((k2_:Nat):Int) + 1) = ((k2_ + 1:Nat):Int):=qaP (by omega)
   rw [gH] at dB
   exact ⟨(D.f 2).l - (k2_ + 1),by omega,k2_ + 1,bH,bI,xs2_ ++ [Value.int .i64 (IntKind.i64.wrap (((D.f 2).f k2_).n)),.slice none 0 0,.bool false,.slice none 0 0,.slice none 0 0],(css2_ ++ [[Value.int .i64 (IntKind.i64.wrap (((D.f 2).f k2_).n)),.slice none 0 0,.bool false,.slice none 0 0,.slice none 0 0]]),rfl,by omega,by rw [qbO (by omega)]; exact (hT2_.move (((((((((aA.trans ab).trans aB).trans aU).trans ce).trans aD).trans aV).trans cq).trans cr).trans cu).step immM (((((((((aA.trans ab).trans aB).trans aU).trans ce).trans aD).trans aV).trans cq).trans cr).trans cu).to').snoc (x:=(fun i=>Tree.mk (IntKind.i64.wrap ((D.f 2).f i).n) [] false [] []) k2_) (TreeR.mk (n:=IntKind.i64.wrap (((D.f 2).f k2_).n)) (b:=false) (s:=[]) (l:=[]) (u:=[]) (fun _=>[]) (Octs.nil _ _) (Slots.nil _ _ _ _) (fun i_ x_ h_=>by simp at h_) (TagsR.nil _ _)),dB.pk,gG,((((((((((bn.trans aA).trans ab).trans aB).trans aU).trans ce).trans aD).trans aV).trans cq).trans cr).trans cu)⟩
  refine (qap cd dv (oi:=4) (cs:=[.bool false]) kz fun m6 aE dC gI=>?_)
  have gJ:=TT.ofW (ab.trans aE) dC
  refine ⟨fun _=>gJ,?_⟩
  refine qan (i:=1) kz (qap dC gI (oi:=4) (cs:=[.bool true]) kz fun m7 aW bq gK=>?_)
  have gL:=TT.ofW ((ab.trans aE).trans aW) bq
  refine ⟨fun _=>gL,?_⟩
  refine qan (i:=3) kz (qbd [0,2,3,5,91,92,96] bq.cells gK (env':=[(0,.p 0 0),(2,.p 1 0),(3,.p 3 0),(5,.v (.int .i64 ((k2_:Nat):Int))),(91,.v (.int .i64 (((D.f 2).l:Nat):Int))),(92,.v (.int .i64 ((k2_:Nat):Int))),(96,.v (.bool true))]) kz fun m8 dD=>?_)
  have gM:=TT.ofW ((ab.trans aE).trans aW) bq
  refine ⟨fun _=>gM,?_⟩
  refine qaC kz ?_ _
  refine qab (qa4 dD (b:=true) kz rfl ?_)
  refine qaE 19 kz bq fun m9 cw dE aF=>?_
  refine qaD [0,1,5,6,7,8,9] [(0,.p 0 0),(2,.p 1 0),(3,.p 3 0),(91,.v (.int .i64 (((D.f 2).l:Nat):Int))),(92,.v (.int .i64 ((k2_:Nat):Int))),(98,.v (.slice (some ⟨aa,0,none⟩) 4 4)),(105,.v (.slice ((D.f 2).A) ((D.f 2).l) ((D.f 2).c))),(106,.v (.int .i64 ((k2_:Nat):Int)))] 13 (qaa (qac (qaa (qaa (qac (qaa qad)))))) (fun _ h=>h.cells) aF dD fun nf gN=>?_
  refine qaJ gN (i:=2) (t:=34) (A:=(some ⟨aa,0,none⟩)) (m:=4) (q:=2) (d:=99) kz (e:=37) (size:=5) (bytes:=88) (j:=2) kz (b:=aa) (o:=0) rfl rfl (by decide) kz kz (qaa (qac (qaa (qaa (qac (qaa qad)))))) aF fun ng gO=>?_
  have gP:=gO.recast 99 (.v (.pointer (some ⟨aa,0 + 2 * 5,none⟩))) (.p 2 10) rfl rfl (Nat.le_of_ble_eq_true (n:=3) rfl)
  have gQ:=gP.pk (env':=[(0,.p 0 0),(2,.p 1 0),(3,.p 3 0),(91,.v (.int .i64 (((D.f 2).l:Nat):Int))),(92,.v (.int .i64 ((k2_:Nat):Int))),(98,.v (.slice (some ⟨aa,0,none⟩) 4 4)),(105,.v (.slice ((D.f 2).A) ((D.f 2).l) ((D.f 2).c))),(106,.v (.int .i64 ((k2_:Nat):Int))),(99,.p 2 10)])
  refine qaD [3,4,14] [(0,.p 0 0),(2,.p 1 0),(3,.p 3 0),(91,.v (.int .i64 (((D.f 2).l:Nat):Int))),(92,.v (.int .i64 ((k2_:Nat):Int))),(98,.v (.slice (some ⟨aa,0,none⟩) 4 4)),(101,.v (.slice A2_ k2_ c2_)),(105,.v (.slice ((D.f 2).A) ((D.f 2).l) ((D.f 2).c))),(106,.v (.int .i64 ((k2_:Nat):Int))),(111,.v (.int .i64 ((k2_:Nat):Int)))] 9 (qaa (qac (qaa (qaa (qac (qaa qad)))))) (fun _ h=>h.cells) aF gQ fun nh gR=>?_
  obtain ⟨kA,kB,gS,kZ,em⟩:=Slots.get g3 (i:=k2_) (by omega)
  refine qaJ gR (i:=10) (t:=158) (A:=(D.f 2).A) (m:=((D.f 2).l)) (q:=((k2_:Nat):Int)) (d:=107) kz (e:=21) (size:=1) (bytes:=4) kz gS rfl (by omega) kz kz (qaa (qac (qaa (qaa (qac (qaa qad)))))) aF fun ni gT=>?_
  refine qa6 gT (i:=11) (t:=21) (b:=kA) (o:=kB + k2_ * 1) (d:=108) kz (cs:=[.int .i32 (((D.f 2).f k2_).n)]) (v:=.int .i32 (((D.f 2).f k2_).n)) kz (fun w' h'=>(AtF.move em (TT.step0 dE h') nilM qbb).at_) kz kz (qaa (qac (qaa (qaa (qac (qaa qad)))))) aF fun nj gU=>?_
  refine qaD [12,13] [(0,.p 0 0),(2,.p 1 0),(3,.p 3 0),(91,.v (.int .i64 (((D.f 2).l:Nat):Int))),(92,.v (.int .i64 ((k2_:Nat):Int))),(98,.v (.slice (some ⟨aa,0,none⟩) 4 4)),(101,.v (.slice A2_ k2_ c2_)),(110,.v (.agg #[.int .i64 (IntKind.i64.wrap (((D.f 2).f k2_).n)),.slice none 0 0,.bool false,.slice none 0 0,.slice none 0 0])),(111,.v (.int .i64 ((k2_:Nat):Int)))] 5 (qaa (qac (qaa (qaa (qac (qaa qad)))))) (fun _ h=>h.cells) aF gU fun nk gV=>?_
  refine qan (i:=15) kz (qbq dE gV (e:=37) (size:=5) (len:=1) (cs:=z0) (d:=112) kz kz fun eo nl nm k5 k6 aG bt gW=>?_)
  have gX:=TT.ofW aG bt
  refine ⟨fun _=>gX,?_⟩
  refine qan (i:=16) kz (qaT bt gW (k:=1) (d:=113) (t:=34) (e:=37) (size:=5) (bytes:=88) (A:=A2_) (As:=(some ⟨eo,0,none⟩)) (m0:=k2_) (c:=c2_) (m:=1) (cs:=1) (xs:=xs2_) (news:=z0) kz kz rfl (qbu (bt.own 2 _ rfl) (qbr kz)) (qbz (bt.own 2 _ rfl)) (by omega) fun aj ap np nr aX cz gY=>?_)
  have gZ:=TT.ofW (aG.trans aX) cz
  refine ⟨fun _=>gZ,?_⟩
  refine qan (i:=17) kz (qax gY (t:=34) (A:=(some ⟨aa,0,none⟩)) (m:=4) (q:=2) (d:=114) kz (e:=37) (size:=5) (bytes:=88) (j:=2) kz (b:=aa) (o:=0) rfl rfl (by decide) fun ns g6=>?_)
  have g7:=g6.recast 114 (.v (.pointer (some ⟨aa,0 + 2 * 5,none⟩))) (.p 2 10) rfl rfl (Nat.le_of_ble_eq_true (n:=3) rfl)
  have g8:=g7.pk (env':=[(0,.p 0 0),(2,.p 1 0),(3,.p 3 0),(91,.v (.int .i64 (((D.f 2).l:Nat):Int))),(92,.v (.int .i64 ((k2_:Nat):Int))),(98,.v (.slice (some ⟨aa,0,none⟩) 4 4)),(101,.v (.slice A2_ k2_ c2_)),(110,.v (.agg #[.int .i64 (IntKind.i64.wrap (((D.f 2).f k2_).n)),.slice none 0 0,.bool false,.slice none 0 0,.slice none 0 0])),(111,.v (.int .i64 ((k2_:Nat):Int))),(112,.v (.slice (some ⟨eo,0,none⟩) 1 1)),(113,.v (.slice aj (k2_ + 1) ap)),(114,.p 2 10)])
  have dF:=TT.ofW (aG.trans aX) cz
  refine ⟨fun _=>dF,?_⟩
  refine qaD [18] [(0,.p 0 0),(2,.p 1 0),(3,.p 3 0),(91,.v (.int .i64 (((D.f 2).l:Nat):Int))),(92,.v (.int .i64 ((k2_:Nat):Int))),(110,.v (.agg #[.int .i64 (IntKind.i64.wrap (((D.f 2).f k2_).n)),.slice none 0 0,.bool false,.slice none 0 0,.slice none 0 0])),(111,.v (.int .i64 ((k2_:Nat):Int))),(113,.v (.slice aj (k2_ + 1) ap)),(115,.p 2 13)] 1 (qaa (qac (qaa (qaa (qac (qaa qad)))))) (fun _ h=>h.cells) dF g8 fun nt g9=>?_
  refine qan (i:=19) kz (qap cz g9 (oi:=2) (cs:=(z10 D A1_ k1_ c1_ aj k2_ ap)) kz fun kC cA dG hC=>?_)
  refine ⟨fun h=>absurd rfl h,?_⟩
  refine qaC kz ?_ _
  refine qab (qaq [0,1] kz ?_)
  have hJ:World.ownsRow kC 0 37 5 (.slice aj (k2_ + 1) ap) (k2_ + 1) (xs2_ ++ z0):=dG.own 1 _ rfl
  obtain ⟨hK,dH⟩:=qbS hJ (by omega)
  refine qal (qax hC (t:=34) (A:=aj) (m:=(k2_ + 1)) (q:=((k2_:Nat):Int)) (d:=116) kz (e:=37) (size:=5) (bytes:=88) kz (b:=hK) (o:=0) (j:=k2_) dH (rfl) (by omega) fun nu hZ=>?_)
  refine qal (qbK dG hZ (k:=1) (g:=hK) (o:=k2_ * 5) (c:=ap) (m:=(k2_ + 1)) (size:=5) (e:=37) (A:=aj) (xs:=(xs2_ ++ [.int .i64 0,.slice none 0 0,.bool false,.slice none 0 0,.slice none 0 0])) (vs:=[.int .i64 (IntKind.i64.wrap (((D.f 2).f k2_).n)),.slice none 0 0,.bool false,.slice none 0 0,.slice none 0 0]) kz rfl dH (by simp only [List.length_cons,List.length_nil]; omega) fun nv cB ia ib=>?_)
  have ic:(⟨aj,ap,37,5,k2_ + 1,qbn (xs2_ ++ [.int .i64 0,.slice none 0 0,.bool false,.slice none 0 0,.slice none 0 0]) (k2_ * 5) [.int .i64 (IntKind.i64.wrap (((D.f 2).f k2_).n)),.slice none 0 0,.bool false,.slice none 0 0,.slice none 0 0]⟩:Rw) = ⟨aj,ap,37,5,k2_ + 1,xs2_ ++ [.int .i64 (IntKind.i64.wrap (((D.f 2).f k2_).n)),.slice none 0 0,.bool false,.slice none 0 0,.slice none 0 0]⟩:=by rw [qcx (by rw [hT2_.xslen,List.length_take,qbC]; omega)]
  obtain ⟨dI,cC⟩:=ia.rowEq 1 [⟨A1_,c1_,37,5,k1_,xs1_⟩,⟨aj,ap,37,5,k2_ + 1,xs2_ ++ (z26 D k2_)⟩,⟨some ⟨eo,0,none⟩,1,37,5,1,z0⟩] ic
  refine qaf (qas (qab (qaq [0,1] kz ?_)))
  refine qaj [0,1] [] [(0,.p 0 0),(2,.p 1 0),(3,.p 3 0),(91,.v (.int .i64 (((D.f 2).l:Nat):Int))),(92,.v (.int .i64 (IntKind.i64.wrap (((k2_:Nat):Int) + 1))))] dI ib fun nw ig=>?_
  refine qaf (qab ?_)
  obtain ⟨dJ,ii,cD⟩:=dI.cutB ig 4 [⟨b,o,(z6 D),false⟩,⟨b6,0,z0,true⟩,⟨aa,0,(z10 D A1_ k1_ c1_ aj k2_ ap),true⟩,⟨au,0,(z7 aa),true⟩] [(0,.p 0 0),(2,.p 1 0),(3,.p 3 0),(91,.v (.int .i64 (((D.f 2).l:Nat):Int))),(92,.v (.int .i64 (IntKind.i64.wrap (((k2_:Nat):Int) + 1))))]
  obtain ⟨ij,cE⟩:=ii.cutR 2 [⟨A1_,c1_,37,5,k1_,xs1_⟩,⟨aj,ap,37,5,k2_ + 1,xs2_ ++ (z26 D k2_)⟩]
  have ik:IntKind.i64.wrap (((k2_:Nat):Int) + 1) = ((k2_ + 1:Nat):Int):=qaP (by omega)
  rw [ik] at dJ
  exact ⟨(D.f 2).l - (k2_ + 1),by omega,k2_ + 1,aj,ap,xs2_ ++ [Value.int .i64 (IntKind.i64.wrap (((D.f 2).f k2_).n)),.slice none 0 0,.bool false,.slice none 0 0,.slice none 0 0],(css2_ ++ [[Value.int .i64 (IntKind.i64.wrap (((D.f 2).f k2_).n)),.slice none 0 0,.bool false,.slice none 0 0,.slice none 0 0]]),rfl,by omega,by rw [qbO (by omega)]; exact (hT2_.move (((((((((((aA.trans ab).trans aE).trans aW).trans cw).trans aG).trans aX).trans cA).trans cB).trans cC).trans cD).trans cE).step immM (((((((((((aA.trans ab).trans aE).trans aW).trans cw).trans aG).trans aX).trans cA).trans cB).trans cC).trans cD).trans cE).to').snoc (x:=(fun i=>Tree.mk (IntKind.i64.wrap ((D.f 2).f i).n) [] false [] []) k2_) (TreeR.mk (n:=IntKind.i64.wrap (((D.f 2).f k2_).n)) (b:=false) (s:=[]) (l:=[]) (u:=[]) (fun _=>[]) (Octs.nil _ _) (Slots.nil _ _ _ _) (fun i_ x_ h_=>by simp at h_) (TagsR.nil _ _)),dJ.pk,ij,((((((((((((bn.trans aA).trans ab).trans aE).trans aW).trans cw).trans aG).trans aX).trans cA).trans cB).trans cC).trans cD).trans cE)⟩
 have k7:=of_decide_eq_false b8
 refine wp_exit (qau (qau (qaL (qab (qaE 9 kz bk fun nx bu il cG=>?_)))))
 refine qaD [0,1,2,3,4,5,6] [(0,.p 0 0),(2,.p 1 0),(3,.p 3 0),(139,.v (.slice (some ⟨aa,0,none⟩) 4 4)),(144,.v (.bool (((D.f 3).A).isNone)))] 3 (qaa qad) (fun _ h=>h.cells) cG bZ fun ny im=>?_
 refine qan (i:=7) kz (qax im (t:=34) (A:=(some ⟨aa,0,none⟩)) (m:=4) (q:=3) (d:=145) kz (e:=37) (size:=5) (bytes:=88) (j:=3) kz (b:=aa) (o:=0) rfl rfl (by decide) fun nz io=>?_)
 have ip:=io.recast 145 (.v (.pointer (some ⟨aa,0 + 3 * 5,none⟩))) (.p 2 15) rfl rfl (Nat.le_of_ble_eq_true (n:=3) rfl)
 have iq:=ip.pk (env':=[(0,.p 0 0),(2,.p 1 0),(3,.p 3 0),(139,.v (.slice (some ⟨aa,0,none⟩) 4 4)),(144,.v (.bool (((D.f 3).A).isNone))),(145,.p 2 15)])
 refine ⟨fun _=>cG,?_⟩
 refine qaD [8] [(0,.p 0 0),(2,.p 1 0),(3,.p 3 0),(144,.v (.bool (((D.f 3).A).isNone))),(146,.p 2 17)] 1 (qaa qad) (fun _ h=>h.cells) cG iq fun nA ir=>?_
 refine qan (i:=9) kz (qap il ir (oi:=2) (cs:=[.int .i64 (IntKind.i64.wrap ((D.f 0).n)),.slice none 0 0,.bool false,.slice none 0 0,.slice none 0 0,.int .i64 0,.slice none 0 0,.bool (((D.f 1).A).isNone),.slice A1_ k1_ c1_,.slice none 0 0,.int .i64 0,.slice none 0 0,.bool (((D.f 2).A).isNone),.slice A2_ k2_ c2_,.slice none 0 0,.int .i64 0,.slice none 0 0,.bool (((D.f 3).A).isNone),.slice none 0 0,.slice none 0 0]) kz fun nB bw cH iu=>?_)
 refine ⟨fun h=>absurd rfl h,?_⟩
 refine qaC kz ?_ _
 refine qab (wp_seq (qar [(0,.p 0 0),(2,.p 1 0),(3,.p 3 0),(151,.v (.int .i64 (((D.f 3).l:Nat):Int))),(152,.v (.int .i64 0))] cH iu fun nC iv=>?_))
 refine wp_block ?_
 have dK:=cH.addNil 37 5
 have bx:=cH.frNil 37 5
 refine wp_loop_ghost (fun n_ a_ w_=>∃ (k3_:Nat) (A3_:Option Addr) (c3_:Nat) (xs3_:List Value) (css3_:List (List Value)),n_ = (D.f 3).l - k3_ ∧ k3_ ≤ (D.f 3).l ∧ (Trees w_ (Imm F w w_ [⟨b,o,[.int .i32 ((D.f 0).n),.slice ((D.f 1).A) ((D.f 1).l) ((D.f 1).c),.slice ((D.f 2).A) ((D.f 2).l) ((D.f 2).c),.slice ((D.f 3).A) ((D.f 3).l) ((D.f 3).c),.map D.m],false⟩,⟨b6,0,[.int .i64 0,.slice none 0 0,.bool false,.slice none 0 0,.slice none 0 0],true⟩,⟨aa,0,[.int .i64 (IntKind.i64.wrap ((D.f 0).n)),.slice none 0 0,.bool false,.slice none 0 0,.slice none 0 0,.int .i64 0,.slice none 0 0,.bool (((D.f 1).A).isNone),.slice A1_ k1_ c1_,.slice none 0 0,.int .i64 0,.slice none 0 0,.bool (((D.f 2).A).isNone),.slice A2_ k2_ c2_,.slice none 0 0,.int .i64 0,.slice none 0 0,.bool (((D.f 3).A).isNone),.slice A3_ k3_ c3_,.slice none 0 0],true⟩,⟨au,0,[.int .i64 0,.slice none 0 0,.bool false,.slice (some ⟨aa,0,none⟩) 4 4,.slice none 0 0],true⟩] [⟨A1_,c1_,37,5,k1_,xs1_⟩,⟨A2_,c2_,37,5,k2_,xs2_⟩,⟨A3_,c3_,37,5,k3_,xs3_⟩]) xs3_ (((List.range (D.f 3).l).map (fun i=>Tree.mk (IntKind.i64.wrap ((D.f 3).f i).n) [] false [] [])).take k3_) css3_) ∧ LInv dK 207 [⟨b,o,[.int .i32 ((D.f 0).n),.slice ((D.f 1).A) ((D.f 1).l) ((D.f 1).c),.slice ((D.f 2).A) ((D.f 2).l) ((D.f 2).c),.slice ((D.f 3).A) ((D.f 3).l) ((D.f 3).c),.map D.m],false⟩,⟨b6,0,[.int .i64 0,.slice none 0 0,.bool false,.slice none 0 0,.slice none 0 0],true⟩,⟨aa,0,[.int .i64 (IntKind.i64.wrap ((D.f 0).n)),.slice none 0 0,.bool false,.slice none 0 0,.slice none 0 0,.int .i64 0,.slice none 0 0,.bool (((D.f 1).A).isNone),.slice A1_ k1_ c1_,.slice none 0 0,.int .i64 0,.slice none 0 0,.bool (((D.f 2).A).isNone),.slice A2_ k2_ c2_,.slice none 0 0,.int .i64 0,.slice none 0 0,.bool (((D.f 3).A).isNone),.slice A3_ k3_ c3_,.slice none 0 0],true⟩,⟨au,0,[.int .i64 0,.slice none 0 0,.bool false,.slice (some ⟨aa,0,none⟩) 4 4,.slice none 0 0],true⟩] [⟨A1_,c1_,37,5,k1_,xs1_⟩,⟨A2_,c2_,37,5,k2_,xs2_⟩,⟨A3_,c3_,37,5,k3_,xs3_⟩] [(0,.p 0 0),(2,.p 1 0),(3,.p 3 0),(151,.v (.int .i64 (((D.f 3).l:Nat):Int))),(152,.v (.int .i64 ((k3_:Nat):Int)))] a_ w_) ((D.f 3).l) ⟨0,none,0,[],[],by omega,by omega,Trees.nil _ _,iv.pk,dK,Fr.refl _ _ _⟩ ?_
 rintro nD nE kD ⟨k3_,A3_,c3_,xs3_,css3_,k8,k9,hT3_,iw,ae,aH⟩
 refine qar [(0,.p 0 0),(2,.p 1 0),(3,.p 3 0),(151,.v (.int .i64 (((D.f 3).l:Nat):Int))),(152,.v (.int .i64 ((k3_:Nat):Int))),(153,.v (.bool (decide (((k3_:Nat):Int) < (((D.f 3).l:Nat):Int)))))] ae iw fun nF cI=>?_
 refine wp_seq (qaw cI (b:=decide (((k3_:Nat):Int) < (((D.f 3).l:Nat):Int))) kz (fun cJ=>?_) (fun cJ=>?_))
 ·
  have la:=of_decide_eq_true cJ
  refine wp_skip (qab (wp_seq (wp_block (qar [(0,.p 0 0),(2,.p 1 0),(3,.p 3 0),(6,.v (.int .i64 ((k3_:Nat):Int))),(151,.v (.int .i64 (((D.f 3).l:Nat):Int))),(152,.v (.int .i64 ((k3_:Nat):Int)))] ae cI fun nG ix=>?_))))
  refine qaE 4 kz ae fun nH aI iy lb=>?_
  refine qan (i:=0) kz (qaS iy ix (d:=155) (cs:=[.bool false]) kz fun nI nJ nK lc ld ac cK dL=>?_)
  have iz:=TT.ofW ac cK
  refine ⟨fun _=>iz,?_⟩
  refine qc7 (i:=1) (j:=2) kz ?_ ?_
  ·
   refine (qap cK dL (oi:=4) (cs:=[.bool true]) kz fun nL aJ dM iA=>?_)
   have iB:=TT.ofW (ac.trans aJ) dM
   refine ⟨fun _=>iB,?_⟩
   refine qan (i:=2) kz (qap dM iA (oi:=4) (cs:=[.bool false]) kz fun nM aY bz iC=>?_)
   have iD:=TT.ofW ((ac.trans aJ).trans aY) bz
   refine ⟨fun _=>iD,?_⟩
   refine qan (i:=3) kz (qbd [0,2,3,6,151,152,156] bz.cells iC (env':=[(0,.p 0 0),(2,.p 1 0),(3,.p 3 0),(6,.v (.int .i64 ((k3_:Nat):Int))),(151,.v (.int .i64 (((D.f 3).l:Nat):Int))),(152,.v (.int .i64 ((k3_:Nat):Int))),(156,.v (.bool false))]) kz fun nN dN=>?_)
   have iE:=TT.ofW ((ac.trans aJ).trans aY) bz
   refine ⟨fun _=>iE,?_⟩
   refine qaC kz ?_ _
   refine qab (qam dN (b:=false) kz rfl ?_)
   refine qcr 20 kz bz fun nO cL dO aK=>?_
   refine qaD [0,1,2,3,7,8,9,10,11] [(0,.p 0 0),(2,.p 1 0),(3,.p 3 0),(151,.v (.int .i64 (((D.f 3).l:Nat):Int))),(152,.v (.int .i64 ((k3_:Nat):Int))),(178,.v (.slice (some ⟨aa,0,none⟩) 4 4)),(180,.v (.slice (some ⟨aa,0,none⟩) 4 4)),(187,.v (.slice ((D.f 3).A) ((D.f 3).l) ((D.f 3).c))),(188,.v (.int .i64 ((k3_:Nat):Int)))] 12 (qac (qaa (qaa (qac (qaa qad))))) (fun _ h=>h.cells) aK dN fun nP iF=>?_
   refine qaJ iF (i:=4) (t:=34) (A:=(some ⟨aa,0,none⟩)) (m:=4) (q:=3) (d:=181) kz (e:=37) (size:=5) (bytes:=88) (j:=3) kz (b:=aa) (o:=0) rfl rfl (by decide) kz kz (qac (qaa (qaa (qac (qaa qad))))) aK fun nQ iG=>?_
   have iH:=iG.recast 181 (.v (.pointer (some ⟨aa,0 + 3 * 5,none⟩))) (.p 2 15) rfl rfl (Nat.le_of_ble_eq_true (n:=3) rfl)
   have iI:=iH.pk (env':=[(0,.p 0 0),(2,.p 1 0),(3,.p 3 0),(151,.v (.int .i64 (((D.f 3).l:Nat):Int))),(152,.v (.int .i64 ((k3_:Nat):Int))),(178,.v (.slice (some ⟨aa,0,none⟩) 4 4)),(180,.v (.slice (some ⟨aa,0,none⟩) 4 4)),(187,.v (.slice ((D.f 3).A) ((D.f 3).l) ((D.f 3).c))),(188,.v (.int .i64 ((k3_:Nat):Int))),(181,.p 2 15)])
   refine qaD [5,6] [(0,.p 0 0),(2,.p 1 0),(3,.p 3 0),(151,.v (.int .i64 (((D.f 3).l:Nat):Int))),(152,.v (.int .i64 ((k3_:Nat):Int))),(178,.v (.slice (some ⟨aa,0,none⟩) 4 4)),(183,.v (.slice A3_ k3_ c3_)),(187,.v (.slice ((D.f 3).A) ((D.f 3).l) ((D.f 3).c))),(188,.v (.int .i64 ((k3_:Nat):Int)))] 9 (qac (qaa (qaa (qac (qaa qad))))) (fun _ h=>h.cells) aK iI fun nR iJ=>?_
   obtain ⟨kE,kF,iK,lf,ep⟩:=Slots.get g4 (i:=k3_) (by omega)
   refine qaJ iJ (i:=12) (t:=158) (A:=(D.f 3).A) (m:=((D.f 3).l)) (q:=((k3_:Nat):Int)) (d:=189) kz (e:=21) (size:=1) (bytes:=4) kz iK rfl (by omega) kz kz (qac (qaa (qaa (qac (qaa qad))))) aK fun nS iL=>?_
   refine qa6 iL (i:=13) (t:=21) (b:=kE) (o:=kF + k3_ * 1) (d:=190) kz (cs:=[.int .i32 (((D.f 3).f k3_).n)]) (v:=.int .i32 (((D.f 3).f k3_).n)) kz (fun w' h'=>(AtF.move ep (TT.step0 dO h') nilM qbb).at_) kz kz (qac (qaa (qaa (qac (qaa qad))))) aK fun nT iM=>?_
   refine qaD [14,15] [(0,.p 0 0),(2,.p 1 0),(3,.p 3 0),(151,.v (.int .i64 (((D.f 3).l:Nat):Int))),(152,.v (.int .i64 ((k3_:Nat):Int))),(178,.v (.slice (some ⟨aa,0,none⟩) 4 4)),(183,.v (.slice A3_ k3_ c3_)),(192,.v (.agg #[.int .i64 (IntKind.i64.wrap (((D.f 3).f k3_).n)),.slice none 0 0,.bool false,.slice none 0 0,.slice none 0 0]))] 5 (qac (qaa (qaa (qac (qaa qad))))) (fun _ h=>h.cells) aK iM fun nU iN=>?_
   refine qan (i:=16) kz (qbq dO iN (e:=37) (size:=5) (len:=1) (cs:=(z27 D k3_)) (d:=193) kz kz fun iO nV nW lg lh aL bA iP=>?_)
   have iQ:=TT.ofW aL bA
   refine ⟨fun _=>iQ,?_⟩
   refine qan (i:=17) kz (qaT bA iP (k:=2) (d:=194) (t:=34) (e:=37) (size:=5) (bytes:=88) (A:=A3_) (As:=(some ⟨iO,0,none⟩)) (m0:=k3_) (c:=c3_) (m:=1) (cs:=1) (xs:=xs3_) (news:=(z27 D k3_)) kz kz rfl (qbu (bA.own 3 _ rfl) (qbr kz)) (qbz (bA.own 3 _ rfl)) (by omega) fun bJ bK nX nY aZ cM iR=>?_)
   have iS:=TT.ofW (aL.trans aZ) cM
   refine ⟨fun _=>iS,?_⟩
   refine qan (i:=18) kz (qax iR (t:=34) (A:=(some ⟨aa,0,none⟩)) (m:=4) (q:=3) (d:=195) kz (e:=37) (size:=5) (bytes:=88) (j:=3) kz (b:=aa) (o:=0) rfl rfl (by decide) fun nZ iT=>?_)
   have iU:=iT.recast 195 (.v (.pointer (some ⟨aa,0 + 3 * 5,none⟩))) (.p 2 15) rfl rfl (Nat.le_of_ble_eq_true (n:=3) rfl)
   have iV:=iU.pk (env':=[(0,.p 0 0),(2,.p 1 0),(3,.p 3 0),(151,.v (.int .i64 (((D.f 3).l:Nat):Int))),(152,.v (.int .i64 ((k3_:Nat):Int))),(178,.v (.slice (some ⟨aa,0,none⟩) 4 4)),(183,.v (.slice A3_ k3_ c3_)),(192,.v (.agg #[.int .i64 (IntKind.i64.wrap (((D.f 3).f k3_).n)),.slice none 0 0,.bool false,.slice none 0 0,.slice none 0 0])),(193,.v (.slice (some ⟨iO,0,none⟩) 1 1)),(194,.v (.slice bJ (k3_ + 1) bK)),(195,.p 2 15)])
   have dP:=TT.ofW (aL.trans aZ) cM
   refine ⟨fun _=>dP,?_⟩
   refine qaD [19] [(0,.p 0 0),(2,.p 1 0),(3,.p 3 0),(151,.v (.int .i64 (((D.f 3).l:Nat):Int))),(152,.v (.int .i64 ((k3_:Nat):Int))),(194,.v (.slice bJ (k3_ + 1) bK)),(196,.p 2 18)] 1 (qac (qaa (qaa (qac (qaa qad))))) (fun _ h=>h.cells) dP iV fun n4 iW=>?_
   refine qan (i:=20) kz (qap cM iW (oi:=2) (cs:=(z11 D A1_ k1_ c1_ A2_ k2_ c2_ bJ k3_ bK)) kz fun n5 cN dQ iX=>?_)
   refine ⟨fun h=>absurd rfl h,?_⟩
   refine qaC kz ?_ _
   refine qas (qab (qaq [0,1] kz ?_))
   refine qaj [0,1] [] [(0,.p 0 0),(2,.p 1 0),(3,.p 3 0),(151,.v (.int .i64 (((D.f 3).l:Nat):Int))),(152,.v (.int .i64 (IntKind.i64.wrap (((k3_:Nat):Int) + 1))))] dQ iX fun n8 iY=>?_
   refine qaf (qab ?_)
   obtain ⟨dR,iZ,cO⟩:=dQ.cutB iY 4 [⟨b,o,(z6 D),false⟩,⟨b6,0,z0,true⟩,⟨aa,0,(z11 D A1_ k1_ c1_ A2_ k2_ c2_ bJ k3_ bK),true⟩,⟨au,0,(z7 aa),true⟩] [(0,.p 0 0),(2,.p 1 0),(3,.p 3 0),(151,.v (.int .i64 (((D.f 3).l:Nat):Int))),(152,.v (.int .i64 (IntKind.i64.wrap (((k3_:Nat):Int) + 1))))]
   obtain ⟨i6,cP⟩:=iZ.cutR 3 [⟨A1_,c1_,37,5,k1_,xs1_⟩,⟨A2_,c2_,37,5,k2_,xs2_⟩,⟨bJ,bK,37,5,k3_ + 1,xs3_ ++ (z27 D k3_)⟩]
   have i7:IntKind.i64.wrap (((k3_:Nat):Int) + 1) = ((k3_ + 1:Nat):Int):=qaP (by omega)
   rw [i7] at dR
   exact ⟨(D.f 3).l - (k3_ + 1),by omega,k3_ + 1,bJ,bK,xs3_ ++ [Value.int .i64 (IntKind.i64.wrap (((D.f 3).f k3_).n)),.slice none 0 0,.bool false,.slice none 0 0,.slice none 0 0],(css3_ ++ [[Value.int .i64 (IntKind.i64.wrap (((D.f 3).f k3_).n)),.slice none 0 0,.bool false,.slice none 0 0,.slice none 0 0]]),rfl,by omega,by rw [qbO (by omega)]; exact (hT3_.move (((((((((aI.trans ac).trans aJ).trans aY).trans cL).trans aL).trans aZ).trans cN).trans cO).trans cP).step immM (((((((((aI.trans ac).trans aJ).trans aY).trans cL).trans aL).trans aZ).trans cN).trans cO).trans cP).to').snoc (x:=(fun i=>Tree.mk (IntKind.i64.wrap ((D.f 3).f i).n) [] false [] []) k3_) (TreeR.mk (n:=IntKind.i64.wrap (((D.f 3).f k3_).n)) (b:=false) (s:=[]) (l:=[]) (u:=[]) (fun _=>[]) (Octs.nil _ _) (Slots.nil _ _ _ _) (fun i_ x_ h_=>by simp at h_) (TagsR.nil _ _)),dR.pk,i6,((((((((((aH.trans aI).trans ac).trans aJ).trans aY).trans cL).trans aL).trans aZ).trans cN).trans cO).trans cP)⟩
  refine (qap cK dL (oi:=4) (cs:=[.bool false]) kz fun oa aM dS ja=>?_)
  have jb:=TT.ofW (ac.trans aM) dS
  refine ⟨fun _=>jb,?_⟩
  refine qan (i:=1) kz (qap dS ja (oi:=4) (cs:=[.bool true]) kz fun od ba bB jc=>?_)
  have jd:=TT.ofW ((ac.trans aM).trans ba) bB
  refine ⟨fun _=>jd,?_⟩
  refine qan (i:=3) kz (qbd [0,2,3,6,151,152,156] bB.cells jc (env':=[(0,.p 0 0),(2,.p 1 0),(3,.p 3 0),(6,.v (.int .i64 ((k3_:Nat):Int))),(151,.v (.int .i64 (((D.f 3).l:Nat):Int))),(152,.v (.int .i64 ((k3_:Nat):Int))),(156,.v (.bool true))]) kz fun oe dT=>?_)
  have je:=TT.ofW ((ac.trans aM).trans ba) bB
  refine ⟨fun _=>je,?_⟩
  refine qaC kz ?_ _
  refine qab (qa4 dT (b:=true) kz rfl ?_)
  refine qaE 19 kz bB fun og cQ dU aN=>?_
  refine qaD [0,1,5,6,7,8,9] [(0,.p 0 0),(2,.p 1 0),(3,.p 3 0),(151,.v (.int .i64 (((D.f 3).l:Nat):Int))),(152,.v (.int .i64 ((k3_:Nat):Int))),(158,.v (.slice (some ⟨aa,0,none⟩) 4 4)),(165,.v (.slice ((D.f 3).A) ((D.f 3).l) ((D.f 3).c))),(166,.v (.int .i64 ((k3_:Nat):Int)))] 13 (qaa (qac (qaa (qaa (qac (qaa qad)))))) (fun _ h=>h.cells) aN dT fun oh jf=>?_
  refine qaJ jf (i:=2) (t:=34) (A:=(some ⟨aa,0,none⟩)) (m:=4) (q:=3) (d:=159) kz (e:=37) (size:=5) (bytes:=88) (j:=3) kz (b:=aa) (o:=0) rfl rfl (by decide) kz kz (qaa (qac (qaa (qaa (qac (qaa qad)))))) aN fun ol jg=>?_
  have jh:=jg.recast 159 (.v (.pointer (some ⟨aa,0 + 3 * 5,none⟩))) (.p 2 15) rfl rfl (Nat.le_of_ble_eq_true (n:=3) rfl)
  have ji:=jh.pk (env':=[(0,.p 0 0),(2,.p 1 0),(3,.p 3 0),(151,.v (.int .i64 (((D.f 3).l:Nat):Int))),(152,.v (.int .i64 ((k3_:Nat):Int))),(158,.v (.slice (some ⟨aa,0,none⟩) 4 4)),(165,.v (.slice ((D.f 3).A) ((D.f 3).l) ((D.f 3).c))),(166,.v (.int .i64 ((k3_:Nat):Int))),(159,.p 2 15)])
  refine qaD [3,4,14] [(0,.p 0 0),(2,.p 1 0),(3,.p 3 0),(151,.v (.int .i64 (((D.f 3).l:Nat):Int))),(152,.v (.int .i64 ((k3_:Nat):Int))),(158,.v (.slice (some ⟨aa,0,none⟩) 4 4)),(161,.v (.slice A3_ k3_ c3_)),(165,.v (.slice ((D.f 3).A) ((D.f 3).l) ((D.f 3).c))),(166,.v (.int .i64 ((k3_:Nat):Int))),(171,.v (.int .i64 ((k3_:Nat):Int)))] 9 (qaa (qac (qaa (qaa (qac (qaa qad)))))) (fun _ h=>h.cells) aN ji fun om jj=>?_
  obtain ⟨kG,kH,jk,li,eu⟩:=Slots.get g4 (i:=k3_) (by omega)
  refine qaJ jj (i:=10) (t:=158) (A:=(D.f 3).A) (m:=((D.f 3).l)) (q:=((k3_:Nat):Int)) (d:=167) kz (e:=21) (size:=1) (bytes:=4) kz jk rfl (by omega) kz kz (qaa (qac (qaa (qaa (qac (qaa qad)))))) aN fun oq jl=>?_
  refine qa6 jl (i:=11) (t:=21) (b:=kG) (o:=kH + k3_ * 1) (d:=168) kz (cs:=[.int .i32 (((D.f 3).f k3_).n)]) (v:=.int .i32 (((D.f 3).f k3_).n)) kz (fun w' h'=>(AtF.move eu (TT.step0 dU h') nilM qbb).at_) kz kz (qaa (qac (qaa (qaa (qac (qaa qad)))))) aN fun ot jm=>?_
  refine qaD [12,13] [(0,.p 0 0),(2,.p 1 0),(3,.p 3 0),(151,.v (.int .i64 (((D.f 3).l:Nat):Int))),(152,.v (.int .i64 ((k3_:Nat):Int))),(158,.v (.slice (some ⟨aa,0,none⟩) 4 4)),(161,.v (.slice A3_ k3_ c3_)),(170,.v (.agg #[.int .i64 (IntKind.i64.wrap (((D.f 3).f k3_).n)),.slice none 0 0,.bool false,.slice none 0 0,.slice none 0 0])),(171,.v (.int .i64 ((k3_:Nat):Int)))] 5 (qaa (qac (qaa (qaa (qac (qaa qad)))))) (fun _ h=>h.cells) aN jm fun ou jn=>?_
  refine qan (i:=15) kz (qbq dU jn (e:=37) (size:=5) (len:=1) (cs:=z0) (d:=172) kz kz fun ev ov ow lj lm aO bC jo=>?_)
  have jp:=TT.ofW aO bC
  refine ⟨fun _=>jp,?_⟩
  refine qan (i:=16) kz (qaT bC jo (k:=2) (d:=173) (t:=34) (e:=37) (size:=5) (bytes:=88) (A:=A3_) (As:=(some ⟨ev,0,none⟩)) (m0:=k3_) (c:=c3_) (m:=1) (cs:=1) (xs:=xs3_) (news:=z0) kz kz rfl (qbu (bC.own 3 _ rfl) (qbr kz)) (qbz (bC.own 3 _ rfl)) (by omega) fun ak ar ox oy bd cR jq=>?_)
  have jr:=TT.ofW (aO.trans bd) cR
  refine ⟨fun _=>jr,?_⟩
  refine qan (i:=17) kz (qax jq (t:=34) (A:=(some ⟨aa,0,none⟩)) (m:=4) (q:=3) (d:=174) kz (e:=37) (size:=5) (bytes:=88) (j:=3) kz (b:=aa) (o:=0) rfl rfl (by decide) fun oz js=>?_)
  have jt:=js.recast 174 (.v (.pointer (some ⟨aa,0 + 3 * 5,none⟩))) (.p 2 15) rfl rfl (Nat.le_of_ble_eq_true (n:=3) rfl)
  have ju:=jt.pk (env':=[(0,.p 0 0),(2,.p 1 0),(3,.p 3 0),(151,.v (.int .i64 (((D.f 3).l:Nat):Int))),(152,.v (.int .i64 ((k3_:Nat):Int))),(158,.v (.slice (some ⟨aa,0,none⟩) 4 4)),(161,.v (.slice A3_ k3_ c3_)),(170,.v (.agg #[.int .i64 (IntKind.i64.wrap (((D.f 3).f k3_).n)),.slice none 0 0,.bool false,.slice none 0 0,.slice none 0 0])),(171,.v (.int .i64 ((k3_:Nat):Int))),(172,.v (.slice (some ⟨ev,0,none⟩) 1 1)),(173,.v (.slice ak (k3_ + 1) ar)),(174,.p 2 15)])
  have dV:=TT.ofW (aO.trans bd) cR
  refine ⟨fun _=>dV,?_⟩
  refine qaD [18] [(0,.p 0 0),(2,.p 1 0),(3,.p 3 0),(151,.v (.int .i64 (((D.f 3).l:Nat):Int))),(152,.v (.int .i64 ((k3_:Nat):Int))),(170,.v (.agg #[.int .i64 (IntKind.i64.wrap (((D.f 3).f k3_).n)),.slice none 0 0,.bool false,.slice none 0 0,.slice none 0 0])),(171,.v (.int .i64 ((k3_:Nat):Int))),(173,.v (.slice ak (k3_ + 1) ar)),(175,.p 2 18)] 1 (qaa (qac (qaa (qaa (qac (qaa qad)))))) (fun _ h=>h.cells) dV ju fun oA jv=>?_
  refine qan (i:=19) kz (qap cR jv (oi:=2) (cs:=(z11 D A1_ k1_ c1_ A2_ k2_ c2_ ak k3_ ar)) kz fun kI cS dW jw=>?_)
  refine ⟨fun h=>absurd rfl h,?_⟩
  refine qaC kz ?_ _
  refine qab (qaq [0,1] kz ?_)
  have jx:World.ownsRow kI 0 37 5 (.slice ak (k3_ + 1) ar) (k3_ + 1) (xs3_ ++ z0):=dW.own 2 _ rfl
  obtain ⟨jy,dX⟩:=qbS jx (by omega)
  refine qal (qax jw (t:=34) (A:=ak) (m:=(k3_ + 1)) (q:=((k3_:Nat):Int)) (d:=176) kz (e:=37) (size:=5) (bytes:=88) kz (b:=jy) (o:=0) (j:=k3_) dX (rfl) (by omega) fun oB jz=>?_)
  refine qal (qbK dW jz (k:=2) (g:=jy) (o:=k3_ * 5) (c:=ar) (m:=(k3_ + 1)) (size:=5) (e:=37) (A:=ak) (xs:=(xs3_ ++ [.int .i64 0,.slice none 0 0,.bool false,.slice none 0 0,.slice none 0 0])) (vs:=[.int .i64 (IntKind.i64.wrap (((D.f 3).f k3_).n)),.slice none 0 0,.bool false,.slice none 0 0,.slice none 0 0]) kz rfl dX (by simp only [List.length_cons,List.length_nil]; omega) fun oC cT jA jB=>?_)
  have jC:(⟨ak,ar,37,5,k3_ + 1,qbn (xs3_ ++ [.int .i64 0,.slice none 0 0,.bool false,.slice none 0 0,.slice none 0 0]) (k3_ * 5) [.int .i64 (IntKind.i64.wrap (((D.f 3).f k3_).n)),.slice none 0 0,.bool false,.slice none 0 0,.slice none 0 0]⟩:Rw) = ⟨ak,ar,37,5,k3_ + 1,xs3_ ++ [.int .i64 (IntKind.i64.wrap (((D.f 3).f k3_).n)),.slice none 0 0,.bool false,.slice none 0 0,.slice none 0 0]⟩:=by rw [qcx (by rw [hT3_.xslen,List.length_take,qbC]; omega)]
  obtain ⟨dY,cU⟩:=jA.rowEq 2 [⟨A1_,c1_,37,5,k1_,xs1_⟩,⟨A2_,c2_,37,5,k2_,xs2_⟩,⟨ak,ar,37,5,k3_ + 1,xs3_ ++ (z27 D k3_)⟩,⟨some ⟨ev,0,none⟩,1,37,5,1,z0⟩] jC
  refine qaf (qas (qab (qaq [0,1] kz ?_)))
  refine qaj [0,1] [] [(0,.p 0 0),(2,.p 1 0),(3,.p 3 0),(151,.v (.int .i64 (((D.f 3).l:Nat):Int))),(152,.v (.int .i64 (IntKind.i64.wrap (((k3_:Nat):Int) + 1))))] dY jB fun oD jD=>?_
  refine qaf (qab ?_)
  obtain ⟨dZ,jE,cV⟩:=dY.cutB jD 4 [⟨b,o,(z6 D),false⟩,⟨b6,0,z0,true⟩,⟨aa,0,(z11 D A1_ k1_ c1_ A2_ k2_ c2_ ak k3_ ar),true⟩,⟨au,0,(z7 aa),true⟩] [(0,.p 0 0),(2,.p 1 0),(3,.p 3 0),(151,.v (.int .i64 (((D.f 3).l:Nat):Int))),(152,.v (.int .i64 (IntKind.i64.wrap (((k3_:Nat):Int) + 1))))]
  obtain ⟨jF,cW⟩:=jE.cutR 3 [⟨A1_,c1_,37,5,k1_,xs1_⟩,⟨A2_,c2_,37,5,k2_,xs2_⟩,⟨ak,ar,37,5,k3_ + 1,xs3_ ++ (z27 D k3_)⟩]
  have jG:IntKind.i64.wrap (((k3_:Nat):Int) + 1) = ((k3_ + 1:Nat):Int):=qaP (by omega)
  rw [jG] at dZ
  exact ⟨(D.f 3).l - (k3_ + 1),by omega,k3_ + 1,ak,ar,xs3_ ++ [Value.int .i64 (IntKind.i64.wrap (((D.f 3).f k3_).n)),.slice none 0 0,.bool false,.slice none 0 0,.slice none 0 0],(css3_ ++ [[Value.int .i64 (IntKind.i64.wrap (((D.f 3).f k3_).n)),.slice none 0 0,.bool false,.slice none 0 0,.slice none 0 0]]),rfl,by omega,by rw [qbO (by omega)]; exact (hT3_.move (((((((((((aI.trans ac).trans aM).trans ba).trans cQ).trans aO).trans bd).trans cS).trans cT).trans cU).trans cV).trans cW).step immM (((((((((((aI.trans ac).trans aM).trans ba).trans cQ).trans aO).trans bd).trans cS).trans cT).trans cU).trans cV).trans cW).to').snoc (x:=(fun i=>Tree.mk (IntKind.i64.wrap ((D.f 3).f i).n) [] false [] []) k3_) (TreeR.mk (n:=IntKind.i64.wrap (((D.f 3).f k3_).n)) (b:=false) (s:=[]) (l:=[]) (u:=[]) (fun _=>[]) (Octs.nil _ _) (Slots.nil _ _ _ _) (fun i_ x_ h_=>by simp at h_) (TagsR.nil _ _)),dZ.pk,jF,((((((((((((aH.trans aI).trans ac).trans aM).trans ba).trans cQ).trans aO).trans bd).trans cS).trans cT).trans cU).trans cV).trans cW)⟩
 have ln:=of_decide_eq_false cJ
 refine wp_exit (qau (qau (qaL (qab (qae [0,1,2,3,4] kz ?_)))))
 refine qaj [0,1,2] [3,4] [(2,.p 1 0),(3,.p 3 0),(200,.p 0 4)] ae cI fun oE jH=>?_
 refine qal (qfb jH (v:=.func (.func 139) #[] #[.pointer (some ⟨au,0,none⟩)]) (d:=201) kz fun oF jI=>?_)
 refine qal (qak jI (f:=64) (vs:=[.pointer (some ⟨b,o + 4,none⟩),.func (.func 139) #[] #[.pointer (some ⟨au,0,none⟩)]]) (d:=202) kz Tryz.call64 (qfK (F:=(Imm F w kD [⟨b,o,(z6 D),false⟩,⟨b6,0,z0,true⟩,⟨aa,0,(z39 D A1_ k1_ c1_ A2_ k2_ c2_ A3_ k3_ c3_),true⟩,⟨au,0,(z7 aa),true⟩] [⟨A1_,c1_,37,5,k1_,xs1_⟩,⟨A2_,c2_,37,5,k2_,xs2_⟩,⟨A3_,c3_,37,5,k3_,xs3_⟩])) Tryz.call139 qbM ((hat.one 4 rfl).move ae.step nilM ae.imm) (g5.move ae.step nilM ae.imm) (Str.of ae 3 rfl) (qkb 3 rfl) g5l) ?_)
 rintro e_ oG ⟨rfl,al,am,ew,jJ,jK⟩
 obtain ⟨cX,aP,jL⟩:=ae.wrote 3 [⟨b,o,(z6 D),false⟩,⟨b6,0,z0,true⟩,⟨aa,0,(z39 D A1_ k1_ c1_ A2_ k2_ c2_ A3_ k3_ c3_),true⟩,⟨au,0,(z45 aa al D am),true⟩] rfl jK ew
 have d5:=jJ.move (Step.refl _ Nil) nilM (fun b_ o_ h_ hb_=>jL (G:=F) b_ o_ (.inr h_) hb_)
 refine ⟨_,rfl,fun oH jM=>?_⟩
 have jN:=(EnvOk.places (tb':=[⟨b,o,[.int .i32 ((D.f 0).n),.slice ((D.f 1).A) ((D.f 1).l) ((D.f 1).c),.slice ((D.f 2).A) ((D.f 2).l) ((D.f 2).c),.slice ((D.f 3).A) ((D.f 3).l) ((D.f 3).c),.map D.m],false⟩,⟨b6,0,[.int .i64 0,.slice none 0 0,.bool false,.slice none 0 0,.slice none 0 0],true⟩,⟨aa,0,[.int .i64 (IntKind.i64.wrap ((D.f 0).n)),.slice none 0 0,.bool false,.slice none 0 0,.slice none 0 0,.int .i64 0,.slice none 0 0,.bool (((D.f 1).A).isNone),.slice A1_ k1_ c1_,.slice none 0 0,.int .i64 0,.slice none 0 0,.bool (((D.f 2).A).isNone),.slice A2_ k2_ c2_,.slice none 0 0,.int .i64 0,.slice none 0 0,.bool (((D.f 3).A).isNone),.slice A3_ k3_ c3_,.slice none 0 0],true⟩,⟨au,0,[.int .i64 0,.slice none 0 0,.bool false,.slice (some ⟨aa,0,none⟩) 4 4,.slice al D.u.length am],true⟩]) jM (show Pl [⟨b,o,[.int .i32 ((D.f 0).n),.slice ((D.f 1).A) ((D.f 1).l) ((D.f 1).c),.slice ((D.f 2).A) ((D.f 2).l) ((D.f 2).c),.slice ((D.f 3).A) ((D.f 3).l) ((D.f 3).c),.map D.m],false⟩,⟨b6,0,[.int .i64 0,.slice none 0 0,.bool false,.slice none 0 0,.slice none 0 0],true⟩,⟨aa,0,[.int .i64 (IntKind.i64.wrap ((D.f 0).n)),.slice none 0 0,.bool false,.slice none 0 0,.slice none 0 0,.int .i64 0,.slice none 0 0,.bool (((D.f 1).A).isNone),.slice A1_ k1_ c1_,.slice none 0 0,.int .i64 0,.slice none 0 0,.bool (((D.f 2).A).isNone),.slice A2_ k2_ c2_,.slice none 0 0,.int .i64 0,.slice none 0 0,.bool (((D.f 3).A).isNone),.slice A3_ k3_ c3_,.slice none 0 0],true⟩,⟨au,0,[.int .i64 0,.slice none 0 0,.bool false,.slice (some ⟨aa,0,none⟩) 4 4,.slice none 0 0],true⟩] [⟨b,o,[.int .i32 ((D.f 0).n),.slice ((D.f 1).A) ((D.f 1).l) ((D.f 1).c),.slice ((D.f 2).A) ((D.f 2).l) ((D.f 2).c),.slice ((D.f 3).A) ((D.f 3).l) ((D.f 3).c),.map D.m],false⟩,⟨b6,0,[.int .i64 0,.slice none 0 0,.bool false,.slice none 0 0,.slice none 0 0],true⟩,⟨aa,0,[.int .i64 (IntKind.i64.wrap ((D.f 0).n)),.slice none 0 0,.bool false,.slice none 0 0,.slice none 0 0,.int .i64 0,.slice none 0 0,.bool (((D.f 1).A).isNone),.slice A1_ k1_ c1_,.slice none 0 0,.int .i64 0,.slice none 0 0,.bool (((D.f 2).A).isNone),.slice A2_ k2_ c2_,.slice none 0 0,.int .i64 0,.slice none 0 0,.bool (((D.f 3).A).isNone),.slice A3_ k3_ c3_,.slice none 0 0],true⟩,⟨au,0,[.int .i64 0,.slice none 0 0,.bool false,.slice (some ⟨aa,0,none⟩) 4 4,.slice al D.u.length am],true⟩] from ⟨rfl,rfl,⟨rfl,rfl,⟨rfl,rfl,⟨rfl,rfl,trivial⟩⟩⟩⟩)).pk (env':=[(202,.v (.tuple #[])),(2,.p 1 0),(3,.p 3 0),(200,.p 0 4),(201,.v (.func (.func 139) #[] #[.pointer (some ⟨au,0,none⟩)]))])
 refine qaf (qab ?_)
 refine qae [0,1,2] kz ?_
 refine qaj [0,1] [2] [(2,.p 1 0),(3,.p 3 0),(204,.v (.slice al D.u.length am))] cX jN fun oI jO=>?_
 refine qal (qak jO (f:=66) (vs:=[.slice al D.u.length am]) (d:=205) kz Tryz.call66 (qhy d5 g5.sorted) ?_)
 rintro e_ oJ ⟨rfl,d6⟩
 refine ⟨_,rfl,fun oK jP=>?_⟩
 have d7:=cX.next_nil d6
 have ag:=cX.frN d6
 refine qaf (qab ?_)
 refine qae [0,1] kz ?_
 refine qaj [0] [1] [(2,.p 1 0),(206,.v (.agg #[.int .i64 0,.slice none 0 0,.bool false,.slice (some ⟨aa,0,none⟩) 4 4,.slice al D.u.length am]))] d7 jP fun oL jQ=>?_
 refine qal (qap d7 jQ (oi:=1) (cs:=(z45 aa al D am)) kz fun jR ah bf jS=>?_)
 refine qaf (qab ?_)
 refine wp_ret (qaM jS bf.cells (v:=.agg #[.int .i64 0,.slice none 0 0,.bool false,.slice (some ⟨aa,0,none⟩) 4 4,.slice al D.u.length am]) kz ?_)
 have d8:=(hT1_.move ((((((((((dq.trans dr).trans du).trans bn).trans bu).trans bw).trans bx).trans aH).trans aP).trans ag).trans ah).step immM ((((((((((dq.trans dr).trans du).trans bn).trans bu).trans bw).trans bx).trans aH).trans aP).trans ag).trans ah).to')
 rw [qeE (by omega)] at d8
 have d9:=(hT2_.move ((((((bu.trans bw).trans bx).trans aH).trans aP).trans ag).trans ah).step immM ((((((bu.trans bw).trans bx).trans aH).trans aP).trans ag).trans ah).to')
 rw [qeE (by omega)] at d9
 have ea:=(hT3_.move ((aP.trans ag).trans ah).step immM ((aP.trans ag).trans ah).to')
 rw [qeE (by omega)] at ea
 exact qgv (u:=D.u) (l:=[.mk (IntKind.i64.wrap (D.f 0).n) [] false [] [],.mk 0 [] (D.f 1).A.isNone ((List.range (D.f 1).l).map fun i=>.mk (IntKind.i64.wrap ((D.f 1).f i).n) [] false [] []) [],.mk 0 [] (D.f 2).A.isNone ((List.range (D.f 2).l).map fun i=>.mk (IntKind.i64.wrap ((D.f 2).f i).n) [] false [] []) [],.mk 0 [] (D.f 3).A.isNone ((List.range (D.f 3).l).map fun i=>.mk (IntKind.i64.wrap ((D.f 3).f i).n) [] false [] []) []]) (css:=[[.int .i64 (IntKind.i64.wrap ((D.f 0).n)),.slice none 0 0,.bool false,.slice none 0 0,.slice none 0 0],[.int .i64 0,.slice none 0 0,.bool (((D.f 1).A).isNone),.slice A1_ k1_ c1_,.slice none 0 0],[.int .i64 0,.slice none 0 0,.bool (((D.f 2).A).isNone),.slice A2_ k2_ c2_,.slice none 0 0],[.int .i64 0,.slice none 0 0,.bool (((D.f 3).A).isNone),.slice A3_ k3_ c3_,.slice none 0 0]]) bf 2 rfl ⟨(show TreeR _ (Imm F w jR [⟨b,o,[.int .i32 ((D.f 0).n),.slice ((D.f 1).A) ((D.f 1).l) ((D.f 1).c),.slice ((D.f 2).A) ((D.f 2).l) ((D.f 2).c),.slice ((D.f 3).A) ((D.f 3).l) ((D.f 3).c),.map D.m],false⟩,⟨b6,0,[.int .i64 0,.slice none 0 0,.bool false,.slice (some ⟨aa,0,none⟩) 4 4,.slice al D.u.length am],true⟩,⟨aa,0,[.int .i64 (IntKind.i64.wrap ((D.f 0).n)),.slice none 0 0,.bool false,.slice none 0 0,.slice none 0 0,.int .i64 0,.slice none 0 0,.bool (((D.f 1).A).isNone),.slice A1_ k1_ c1_,.slice none 0 0,.int .i64 0,.slice none 0 0,.bool (((D.f 2).A).isNone),.slice A2_ k2_ c2_,.slice none 0 0,.int .i64 0,.slice none 0 0,.bool (((D.f 3).A).isNone),.slice A3_ k3_ c3_,.slice none 0 0],true⟩,⟨au,0,[.int .i64 0,.slice none 0 0,.bool false,.slice (some ⟨aa,0,none⟩) 4 4,.slice al D.u.length am],true⟩] [⟨A1_,c1_,37,5,k1_,xs1_⟩,⟨A2_,c2_,37,5,k2_,xs2_⟩,⟨A3_,c3_,37,5,k3_,xs3_⟩]) _ _ from (TreeR.mk (n:=IntKind.i64.wrap ((D.f 0).n)) (b:=false) (s:=[]) (l:=[]) (u:=[]) (fun _=>[]) (Octs.nil _ _) (Slots.nil _ _ _ _) (fun i_ x_ h_=>by simp at h_) (TagsR.nil _ _))).move (Step.refl _ Nil) nilM qb8,qdG bf (k:=0) rfl d8 (by rw [qbC]; omega) (by rw [qbC]; omega),qdG bf (k:=1) rfl d9 (by rw [qbC]; omega) (by rw [qbC]; omega),qdG bf (k:=2) rfl ea (by rw [qbC]; omega) (by rw [qbC]; omega),trivial⟩ ((show TagsR _ (Imm F w jR [⟨b,o,[.int .i32 ((D.f 0).n),.slice ((D.f 1).A) ((D.f 1).l) ((D.f 1).c),.slice ((D.f 2).A) ((D.f 2).l) ((D.f 2).c),.slice ((D.f 3).A) ((D.f 3).l) ((D.f 3).c),.map D.m],false⟩,⟨b6,0,[.int .i64 0,.slice none 0 0,.bool false,.slice (some ⟨aa,0,none⟩) 4 4,.slice al D.u.length am],true⟩,⟨aa,0,[.int .i64 (IntKind.i64.wrap ((D.f 0).n)),.slice none 0 0,.bool false,.slice none 0 0,.slice none 0 0,.int .i64 0,.slice none 0 0,.bool (((D.f 1).A).isNone),.slice A1_ k1_ c1_,.slice none 0 0,.int .i64 0,.slice none 0 0,.bool (((D.f 2).A).isNone),.slice A2_ k2_ c2_,.slice none 0 0,.int .i64 0,.slice none 0 0,.bool (((D.f 3).A).isNone),.slice A3_ k3_ c3_,.slice none 0 0],true⟩,⟨au,0,[.int .i64 0,.slice none 0 0,.bool false,.slice (some ⟨aa,0,none⟩) 4 4,.slice al D.u.length am],true⟩] [⟨A1_,c1_,37,5,k1_,xs1_⟩,⟨A2_,c2_,37,5,k2_,xs2_⟩,⟨A3_,c3_,37,5,k3_,xs3_⟩]) _ _ _ from (d5.move (ag.trans ah).step immM (ag.trans ah).to')).move (Step.refl _ Nil) nilM qb8)
abbrev z14 (x0) (x1:DV) (x2) (x3) (x4) (x5):=([.int .i64 0,.slice (some ⟨x0,0,none⟩) ((sb ((x1.f 0).s)).length) x2,.bool false,.slice none 0 0,.slice none 0 0,.int .i64 0,.slice none 0 0,.bool (((x1.f 1).A).isNone),.slice x3 (x4 + 1) x5,.slice none 0 0]:List Value)
abbrev z28 (x0:DV):=([.string ((x0.f 0).s),.slice ((x0.f 1).A) ((x0.f 1).l) ((x0.f 1).c),.map x0.m]:List Value)
abbrev z33 (x0):=([.int .i64 0,.slice none 0 0,.bool false,.slice (some ⟨x0,0,none⟩) 2 2,.slice none 0 0]:List Value)
abbrev z58 (x0) (x1:DV) (x2) (x3) (x4) (x5):=([.int .i64 0,.slice (some ⟨x0,0,none⟩) ((sb ((x1.f 0).s)).length) x2,.bool false,.slice none 0 0,.slice none 0 0,.int .i64 0,.slice none 0 0,.bool (((x1.f 1).A).isNone),.slice x3 x4 x5,.slice none 0 0]:List Value)
set_option maxHeartbeats 4000000 in
theorem qbj (v:Int) (D:DV) (b o:Nat) (w:World) (F:Nat → Nat → Prop) (hat:AtF w F b o [.string ((D.f 0).s),.slice ((D.f 1).A) ((D.f 1).l) ((D.f 1).c),.map D.m]) (hok:qaN w F D):Calls Tryz.prog 79 #[.pointer (some ⟨b,o,none⟩)] w (qd4 w F (qaO D)):=by
 refine enter (n:=81) Tryz.func79 rfl Tryz.ntmps79 kz fun a hE=>?_
 have hW:WOk w Nil w [⟨b,o,(z28 D),false⟩] []:=(WOk.start w Nil).start1 hat rfl rfl
 unfold qaN at hok
 obtain ⟨g1,⟨g2,g2l,g2e⟩,g3,g3l,g3x,_⟩:=hok
 have hE0:=(EnvOk.ptr0 (cs:=(z28 D)) (r:=false) hE).pk (env':=[(0,.p 0 0)])
 refine qae [0] kz ?_
 refine qal (qaS hW hE0 (d:=2) (cs:=z0) kz fun b4 a5 w6 hb7 hz8 hF9 fI fJ=>?_)
 refine qaf (qab ?_)
 refine qae [0,1,2,3] kz ?_
 refine qal (qeY (t:=34) (e:=37) (size:=5) (bytes:=88) (d:=5) (j:=2) (.agg #[.int .i64 0,.slice none 0 0,.bool false,.slice none 0 0,.slice none 0 0]) [.int .i64 0,.slice none 0 0,.bool false,.slice none 0 0,.slice none 0 0,.int .i64 0,.slice none 0 0,.bool false,.slice none 0 0,.slice none 0 0] fI fJ fun aa jt ju gX gY gZ dw fK=>?_)
 refine qaj [1] [2,3] [(0,.p 0 0),(2,.p 1 0),(6,.v (.agg #[.int .i64 0,.slice none 0 0,.bool false,.slice (some ⟨aa,0,none⟩) 2 2,.slice none 0 0]))] dw fK fun jv fL=>?_
 refine qal (qaS dw fL (d:=3) (cs:=z0) kz fun bC jw jx g6 g7 g8 fM fN=>?_)
 refine qal (qap fM fN (oi:=3) (cs:=(z33 aa)) kz fun jy g9 fO fP=>?_)
 refine qaf (qab ?_)
 refine qaE 9 kz fO fun jz hC fQ fR=>?_
 refine qaD [0,1,2,3,4,5] [(0,.p 0 0),(2,.p 1 0),(3,.p 3 0),(8,.v (.slice (some ⟨aa,0,none⟩) 2 2)),(12,.v (.string ((D.f 0).s)))] 4 (qaa qad) (fun _ h=>h.cells) fR fP fun jA fS=>?_
 refine qan (i:=6) kz (qf7 (d:=13) (src:=9) (dst:=22) (e:=5) (s:=((D.f 0).s)) fQ fS (by omega) fun aB aC jB jC fT dx fU fV=>?_)
 have fW:=fU F
 have di:=TT.ofW fT dx
 refine ⟨fun _=>di,?_⟩
 refine qaD [7] [(0,.p 0 0),(2,.p 1 0),(3,.p 3 0),(8,.v (.slice (some ⟨aa,0,none⟩) 2 2)),(14,.v (.agg #[.int .i64 0,.slice (some ⟨aB,0,none⟩) ((sb ((D.f 0).s)).length) aC,.bool false,.slice none 0 0,.slice none 0 0]))] 2 (qaa qad) (fun _ h=>h.cells) di fV fun jD fX=>?_
 refine qaJ fX (i:=8) (t:=34) (A:=(some ⟨aa,0,none⟩)) (m:=2) (q:=0) (d:=15) kz (e:=37) (size:=5) (bytes:=88) (j:=0) kz (b:=aa) (o:=0) rfl rfl (by decide) kz kz (qaa qad) di fun jE fY=>?_
 have fZ:=fY.recast 15 (.v (.pointer (some ⟨aa,0 + 0 * 5,none⟩))) (.p 2 0) rfl rfl (Nat.le_of_ble_eq_true (n:=3) rfl)
 have f5:=fZ.pk (env':=[(0,.p 0 0),(2,.p 1 0),(3,.p 3 0),(8,.v (.slice (some ⟨aa,0,none⟩) 2 2)),(14,.v (.agg #[.int .i64 0,.slice (some ⟨aB,0,none⟩) ((sb ((D.f 0).s)).length) aC,.bool false,.slice none 0 0,.slice none 0 0])),(15,.p 2 0)])
 refine qan (i:=9) kz (qap dx f5 (oi:=2) (cs:=[.int .i64 0,.slice (some ⟨aB,0,none⟩) ((sb ((D.f 0).s)).length) aC,.bool false,.slice none 0 0,.slice none 0 0,.int .i64 0,.slice none 0 0,.bool false,.slice none 0 0,.slice none 0 0]) kz fun jF dy f7 f8=>?_)
 refine ⟨fun h=>absurd rfl h,?_⟩
 refine qaC kz ?_ _
 refine qab (qaE 9 kz f7 fun jG dz f9 dj=>?_)
 refine qaD [0,1,2,3,4,5,6] [(0,.p 0 0),(2,.p 1 0),(3,.p 3 0),(17,.v (.slice (some ⟨aa,0,none⟩) 2 2)),(22,.v (.bool (((D.f 1).A).isNone)))] 3 (qaa qad) (fun _ h=>h.cells) dj f8 fun jH ga=>?_
 refine qan (i:=7) kz (qax ga (t:=34) (A:=(some ⟨aa,0,none⟩)) (m:=2) (q:=1) (d:=23) kz (e:=37) (size:=5) (bytes:=88) (j:=1) kz (b:=aa) (o:=0) rfl rfl (by decide) fun jI gb=>?_)
 have gc:=gb.recast 23 (.v (.pointer (some ⟨aa,0 + 1 * 5,none⟩))) (.p 2 5) rfl rfl (Nat.le_of_ble_eq_true (n:=3) rfl)
 have gd:=gc.pk (env':=[(0,.p 0 0),(2,.p 1 0),(3,.p 3 0),(17,.v (.slice (some ⟨aa,0,none⟩) 2 2)),(22,.v (.bool (((D.f 1).A).isNone))),(23,.p 2 5)])
 refine ⟨fun _=>dj,?_⟩
 refine qaD [8] [(0,.p 0 0),(2,.p 1 0),(3,.p 3 0),(22,.v (.bool (((D.f 1).A).isNone))),(24,.p 2 7)] 1 (qaa qad) (fun _ h=>h.cells) dj gd fun jJ ge=>?_
 refine qan (i:=9) kz (qap f9 ge (oi:=2) (cs:=[.int .i64 0,.slice (some ⟨aB,0,none⟩) ((sb ((D.f 0).s)).length) aC,.bool false,.slice none 0 0,.slice none 0 0,.int .i64 0,.slice none 0 0,.bool (((D.f 1).A).isNone),.slice none 0 0,.slice none 0 0]) kz fun jK dA dl gg=>?_)
 refine ⟨fun h=>absurd rfl h,?_⟩
 refine qaC kz ?_ _
 refine qab (wp_seq (qar [(0,.p 0 0),(2,.p 1 0),(3,.p 3 0),(29,.v (.int .i64 (((D.f 1).l:Nat):Int))),(30,.v (.int .i64 0))] dl gg fun jL gh=>?_))
 refine wp_block ?_
 have dB:=dl.addNil 37 5
 have dC:=dl.frNil 37 5
 refine wp_loop_ghost (fun n_ a_ w_=>∃ (k1_:Nat) (A1_:Option Addr) (c1_:Nat) (xs1_:List Value) (css1_:List (List Value)),n_ = (D.f 1).l - k1_ ∧ k1_ ≤ (D.f 1).l ∧ (Trees w_ (Imm F w w_ [⟨b,o,[.string ((D.f 0).s),.slice ((D.f 1).A) ((D.f 1).l) ((D.f 1).c),.map D.m],false⟩,⟨b4,0,[.int .i64 0,.slice none 0 0,.bool false,.slice none 0 0,.slice none 0 0],true⟩,⟨aa,0,[.int .i64 0,.slice (some ⟨aB,0,none⟩) ((sb ((D.f 0).s)).length) aC,.bool false,.slice none 0 0,.slice none 0 0,.int .i64 0,.slice none 0 0,.bool (((D.f 1).A).isNone),.slice A1_ k1_ c1_,.slice none 0 0],true⟩,⟨bC,0,[.int .i64 0,.slice none 0 0,.bool false,.slice (some ⟨aa,0,none⟩) 2 2,.slice none 0 0],true⟩] [⟨A1_,c1_,37,5,k1_,xs1_⟩]) xs1_ (((List.range (D.f 1).l).map (fun i=>qaG ((D.f 1).f i))).take k1_) css1_) ∧ LInv dB 81 [⟨b,o,[.string ((D.f 0).s),.slice ((D.f 1).A) ((D.f 1).l) ((D.f 1).c),.map D.m],false⟩,⟨b4,0,[.int .i64 0,.slice none 0 0,.bool false,.slice none 0 0,.slice none 0 0],true⟩,⟨aa,0,[.int .i64 0,.slice (some ⟨aB,0,none⟩) ((sb ((D.f 0).s)).length) aC,.bool false,.slice none 0 0,.slice none 0 0,.int .i64 0,.slice none 0 0,.bool (((D.f 1).A).isNone),.slice A1_ k1_ c1_,.slice none 0 0],true⟩,⟨bC,0,[.int .i64 0,.slice none 0 0,.bool false,.slice (some ⟨aa,0,none⟩) 2 2,.slice none 0 0],true⟩] [⟨A1_,c1_,37,5,k1_,xs1_⟩] [(0,.p 0 0),(2,.p 1 0),(3,.p 3 0),(29,.v (.int .i64 (((D.f 1).l:Nat):Int))),(30,.v (.int .i64 ((k1_:Nat):Int)))] a_ w_) ((D.f 1).l) ⟨0,none,0,[],[],by omega,by omega,Trees.nil _ _,gh.pk,dB,Fr.refl _ _ _⟩ ?_
 rintro jM jN hJ ⟨k1_,A1_,c1_,xs1_,css1_,hK,hZ,hT1_,gi,aA,bY⟩
 refine qar [(0,.p 0 0),(2,.p 1 0),(3,.p 3 0),(29,.v (.int .i64 (((D.f 1).l:Nat):Int))),(30,.v (.int .i64 ((k1_:Nat):Int))),(31,.v (.bool (decide (((k1_:Nat):Int) < (((D.f 1).l:Nat):Int)))))] aA gi fun jO dp=>?_
 refine wp_seq (qaw dp (b:=decide (((k1_:Nat):Int) < (((D.f 1).l:Nat):Int))) kz (fun dq=>?_) (fun dq=>?_))
 ·
  have ia:=of_decide_eq_true dq
  refine wp_skip (qab (wp_seq (wp_block (qar [(0,.p 0 0),(2,.p 1 0),(3,.p 3 0),(4,.v (.int .i64 ((k1_:Nat):Int))),(29,.v (.int .i64 (((D.f 1).l:Nat):Int))),(30,.v (.int .i64 ((k1_:Nat):Int)))] aA dp fun jP gj=>?_))))
  refine qaE 4 kz aA fun jQ aI gk ib=>?_
  refine qan (i:=0) kz (qaS gk gj (d:=33) (cs:=[.bool false]) kz fun jR ic ig gD gE ab bZ cK=>?_)
  have dD:=TT.ofW ab bZ
  refine ⟨fun _=>dD,?_⟩
  refine qc7 (i:=1) (j:=2) kz ?_ ?_
  ·
   refine (qap bZ cK (oi:=4) (cs:=[.bool true]) kz fun ii aD cL dE=>?_)
   have dF:=TT.ofW (ab.trans aD) cL
   refine ⟨fun _=>dF,?_⟩
   refine qan (i:=2) kz (qap cL dE (oi:=4) (cs:=[.bool false]) kz fun ij bi bD dG=>?_)
   have dH:=TT.ofW ((ab.trans aD).trans bi) bD
   refine ⟨fun _=>dH,?_⟩
   refine qan (i:=3) kz (qbd [0,2,3,4,29,30,34] bD.cells dG (env':=[(0,.p 0 0),(2,.p 1 0),(3,.p 3 0),(4,.v (.int .i64 ((k1_:Nat):Int))),(29,.v (.int .i64 (((D.f 1).l:Nat):Int))),(30,.v (.int .i64 ((k1_:Nat):Int))),(34,.v (.bool false))]) kz fun ik cM=>?_)
   have dI:=TT.ofW ((ab.trans aD).trans bi) bD
   refine ⟨fun _=>dI,?_⟩
   refine qaC kz ?_ _
   refine qab (qam cM (b:=false) kz rfl ?_)
   refine qcr 18 kz bD fun il b8 ao bE=>?_
   refine qaD [0,1,2,3,7,8,9,10,11] [(0,.p 0 0),(2,.p 1 0),(3,.p 3 0),(29,.v (.int .i64 (((D.f 1).l:Nat):Int))),(30,.v (.int .i64 ((k1_:Nat):Int))),(54,.v (.slice (some ⟨aa,0,none⟩) 2 2)),(56,.v (.slice (some ⟨aa,0,none⟩) 2 2)),(63,.v (.slice ((D.f 1).A) ((D.f 1).l) ((D.f 1).c))),(64,.v (.int .i64 ((k1_:Nat):Int)))] 10 (qac (qaa (qaa (qac (qaa qad))))) (fun _ h=>h.cells) bE cM fun im dJ=>?_
   refine qaJ dJ (i:=4) (t:=34) (A:=(some ⟨aa,0,none⟩)) (m:=2) (q:=1) (d:=57) kz (e:=37) (size:=5) (bytes:=88) (j:=1) kz (b:=aa) (o:=0) rfl rfl (by decide) kz kz (qac (qaa (qaa (qac (qaa qad))))) bE fun io dK=>?_
   have dL:=dK.recast 57 (.v (.pointer (some ⟨aa,0 + 1 * 5,none⟩))) (.p 2 5) rfl rfl (Nat.le_of_ble_eq_true (n:=3) rfl)
   have dM:=dL.pk (env':=[(0,.p 0 0),(2,.p 1 0),(3,.p 3 0),(29,.v (.int .i64 (((D.f 1).l:Nat):Int))),(30,.v (.int .i64 ((k1_:Nat):Int))),(54,.v (.slice (some ⟨aa,0,none⟩) 2 2)),(56,.v (.slice (some ⟨aa,0,none⟩) 2 2)),(63,.v (.slice ((D.f 1).A) ((D.f 1).l) ((D.f 1).c))),(64,.v (.int .i64 ((k1_:Nat):Int))),(57,.p 2 5)])
   refine qaD [5,6] [(0,.p 0 0),(2,.p 1 0),(3,.p 3 0),(29,.v (.int .i64 (((D.f 1).l:Nat):Int))),(30,.v (.int .i64 ((k1_:Nat):Int))),(54,.v (.slice (some ⟨aa,0,none⟩) 2 2)),(59,.v (.slice A1_ k1_ c1_)),(63,.v (.slice ((D.f 1).A) ((D.f 1).l) ((D.f 1).c))),(64,.v (.int .i64 ((k1_:Nat):Int)))] 7 (qac (qaa (qaa (qac (qaa qad))))) (fun _ h=>h.cells) bE dM fun ip dN=>?_
   obtain ⟨dO,dP,dQ,gF,dr⟩:=Slots.get g2 (i:=k1_) (by omega)
   refine qaJ dN (i:=12) (t:=112) (A:=(D.f 1).A) (m:=((D.f 1).l)) (q:=((k1_:Nat):Int)) (d:=65) kz (e:=160) (size:=5) (bytes:=88) kz dQ rfl (by omega) kz kz (qac (qaa (qaa (qac (qaa qad))))) bE fun iq dR=>?_
   refine qan (i:=13) kz (qak dR (f:=118) (vs:=[.pointer (some ⟨dO,dP + k1_ * 5,none⟩)]) (d:=66) kz Tryz.call118 (qbc 0 ((D.f 1).f k1_) _ _ _ _ (dr.move ao.step nilM ao.imm) (qaK _ ao.step nilM ao.imm (g2e k1_ (by omega)))) ?_)
   rintro e_ ir ⟨gG,rfl,dS,cd⟩
   have ce:=dS.move (Step.refl _ Nil) nilM (ao.laid (G:=F) cd)
   obtain ⟨bL,bM,bN,bO,bP,bQ,bR,bS,bT,bU,bV,gH,gI,cm,gl,gm,iu,iv⟩:=ce.open_
   rw [cm] at ce
   have gn:=gl.small
   have gp:=gm.small
   rw [cm]
   refine ⟨_,rfl,fun iw dT=>?_⟩
   have cN:=ao.next_nil cd
   have ap:=ao.frN cd
   have dU:=TT.ofW ap cN
   refine ⟨fun _=>dU,?_⟩
   refine qan (i:=14) kz (qbq cN dT (e:=37) (size:=5) (len:=1) (cs:=(z2 bL bQ bM.length bR bN bS bO.length bT bU bP.length bV)) (d:=67) kz kz fun dV ix iy gJ gK ae bF dW=>?_)
   have dX:=TT.ofW (ap.trans ae) bF
   refine ⟨fun _=>dX,?_⟩
   refine qan (i:=15) kz (qaT bF dW (k:=0) (d:=68) (t:=34) (e:=37) (size:=5) (bytes:=88) (A:=A1_) (As:=(some ⟨dV,0,none⟩)) (m0:=k1_) (c:=c1_) (m:=1) (cs:=1) (xs:=xs1_) (news:=(z2 bL bQ bM.length bR bN bS bO.length bT bU bP.length bV)) kz kz rfl (qbu (bF.own 1 _ rfl) (qbr kz)) (qbz (bF.own 1 _ rfl)) (by omega) fun bW bX iz iA ar cq dY=>?_)
   have dZ:=TT.ofW ((ap.trans ae).trans ar) cq
   refine ⟨fun _=>dZ,?_⟩
   refine qan (i:=16) kz (qax dY (t:=34) (A:=(some ⟨aa,0,none⟩)) (m:=2) (q:=1) (d:=69) kz (e:=37) (size:=5) (bytes:=88) (j:=1) kz (b:=aa) (o:=0) rfl rfl (by decide) fun iB d5=>?_)
   have d6:=d5.recast 69 (.v (.pointer (some ⟨aa,0 + 1 * 5,none⟩))) (.p 2 5) rfl rfl (Nat.le_of_ble_eq_true (n:=3) rfl)
   have d7:=d6.pk (env':=[(0,.p 0 0),(2,.p 1 0),(3,.p 3 0),(29,.v (.int .i64 (((D.f 1).l:Nat):Int))),(30,.v (.int .i64 ((k1_:Nat):Int))),(54,.v (.slice (some ⟨aa,0,none⟩) 2 2)),(59,.v (.slice A1_ k1_ c1_)),(63,.v (.slice ((D.f 1).A) ((D.f 1).l) ((D.f 1).c))),(64,.v (.int .i64 ((k1_:Nat):Int))),(65,.v (.pointer (some ⟨dO,dP + k1_ * 5,none⟩))),(66,.v (.agg #[.int .i64 bL,.slice bQ bM.length bR,.bool bN,.slice bS bO.length bT,.slice bU bP.length bV])),(67,.v (.slice (some ⟨dV,0,none⟩) 1 1)),(68,.v (.slice bW (k1_ + 1) bX)),(69,.p 2 5)])
   have cO:=TT.ofW ((ap.trans ae).trans ar) cq
   refine ⟨fun _=>cO,?_⟩
   refine qaD [17] [(0,.p 0 0),(2,.p 1 0),(3,.p 3 0),(29,.v (.int .i64 (((D.f 1).l:Nat):Int))),(30,.v (.int .i64 ((k1_:Nat):Int))),(68,.v (.slice bW (k1_ + 1) bX)),(70,.p 2 8)] 1 (qac (qaa (qaa (qac (qaa qad))))) (fun _ h=>h.cells) cO d7 fun iC d8=>?_
   refine qan (i:=18) kz (qap cq d8 (oi:=2) (cs:=(z14 aB D aC bW k1_ bX)) kz fun iD bj cP d9=>?_)
   refine ⟨fun h=>absurd rfl h,?_⟩
   refine qaC kz ?_ _
   refine qas (qab (qaq [0,1] kz ?_))
   refine qaj [0,1] [] [(0,.p 0 0),(2,.p 1 0),(3,.p 3 0),(29,.v (.int .i64 (((D.f 1).l:Nat):Int))),(30,.v (.int .i64 (IntKind.i64.wrap (((k1_:Nat):Int) + 1))))] cP d9 fun iE ea=>?_
   refine qaf (qab ?_)
   obtain ⟨cQ,eb,bk⟩:=cP.cutB ea 4 [⟨b,o,(z28 D),false⟩,⟨b4,0,z0,true⟩,⟨aa,0,(z14 aB D aC bW k1_ bX),true⟩,⟨bC,0,(z33 aa),true⟩] [(0,.p 0 0),(2,.p 1 0),(3,.p 3 0),(29,.v (.int .i64 (((D.f 1).l:Nat):Int))),(30,.v (.int .i64 (IntKind.i64.wrap (((k1_:Nat):Int) + 1))))]
   obtain ⟨ec,bn⟩:=eb.cutR 1 [⟨bW,bX,37,5,k1_ + 1,xs1_ ++ (z2 bL bQ bM.length bR bN bS bO.length bT bU bP.length bV)⟩]
   have ee:IntKind.i64.wrap (((k1_:Nat):Int) + 1) = ((k1_ + 1:Nat):Int):=qaP (by omega)
   rw [ee] at cQ
   exact ⟨(D.f 1).l - (k1_ + 1),by omega,k1_ + 1,bW,bX,xs1_ ++ [Value.int .i64 bL,.slice bQ bM.length bR,.bool bN,.slice bS bO.length bT,.slice bU bP.length bV],(css1_ ++ [[Value.int .i64 bL,.slice bQ bM.length bR,.bool bN,.slice bS bO.length bT,.slice bU bP.length bV]]),rfl,by omega,by rw [qbO (by omega)]; exact (hT1_.move ((((((((((aI.trans ab).trans aD).trans bi).trans b8).trans ap).trans ae).trans ar).trans bj).trans bk).trans bn).step immM ((((((((((aI.trans ab).trans aD).trans bi).trans b8).trans ap).trans ae).trans ar).trans bj).trans bk).trans bn).to').snoc (x:=(fun i=>qaG ((D.f 1).f i)) k1_) (ce.move ((((ae.trans ar).trans bj).trans bk).trans bn).step immM ((((ae.trans ar).trans bj).trans bk).trans bn).to'),cQ.pk,ec,(((((((((((bY.trans aI).trans ab).trans aD).trans bi).trans b8).trans ap).trans ae).trans ar).trans bj).trans bk).trans bn)⟩
  refine (qap bZ cK (oi:=4) (cs:=[.bool false]) kz fun iF ac cR ef=>?_)
  have eg:=TT.ofW (ab.trans ac) cR
  refine ⟨fun _=>eg,?_⟩
  refine qan (i:=1) kz (qap cR ef (oi:=4) (cs:=[.bool true]) kz fun iG af bG eh=>?_)
  have ei:=TT.ofW ((ab.trans ac).trans af) bG
  refine ⟨fun _=>ei,?_⟩
  refine qan (i:=3) kz (qbd [0,2,3,4,29,30,34] bG.cells eh (env':=[(0,.p 0 0),(2,.p 1 0),(3,.p 3 0),(4,.v (.int .i64 ((k1_:Nat):Int))),(29,.v (.int .i64 (((D.f 1).l:Nat):Int))),(30,.v (.int .i64 ((k1_:Nat):Int))),(34,.v (.bool true))]) kz fun iH cS=>?_)
  have ej:=TT.ofW ((ab.trans ac).trans af) bG
  refine ⟨fun _=>ej,?_⟩
  refine qaC kz ?_ _
  refine qab (qa4 cS (b:=true) kz rfl ?_)
  refine qaE 17 kz bG fun iI aE ag bH=>?_
  refine qaD [0,1,5,6,7,8,9] [(0,.p 0 0),(2,.p 1 0),(3,.p 3 0),(29,.v (.int .i64 (((D.f 1).l:Nat):Int))),(30,.v (.int .i64 ((k1_:Nat):Int))),(36,.v (.slice (some ⟨aa,0,none⟩) 2 2)),(43,.v (.slice ((D.f 1).A) ((D.f 1).l) ((D.f 1).c))),(44,.v (.int .i64 ((k1_:Nat):Int)))] 11 (qaa (qac (qaa (qaa (qac (qaa qad)))))) (fun _ h=>h.cells) bH cS fun iJ ek=>?_
  refine qaJ ek (i:=2) (t:=34) (A:=(some ⟨aa,0,none⟩)) (m:=2) (q:=1) (d:=37) kz (e:=37) (size:=5) (bytes:=88) (j:=1) kz (b:=aa) (o:=0) rfl rfl (by decide) kz kz (qaa (qac (qaa (qaa (qac (qaa qad)))))) bH fun iK em=>?_
  have eo:=em.recast 37 (.v (.pointer (some ⟨aa,0 + 1 * 5,none⟩))) (.p 2 5) rfl rfl (Nat.le_of_ble_eq_true (n:=3) rfl)
  have ep:=eo.pk (env':=[(0,.p 0 0),(2,.p 1 0),(3,.p 3 0),(29,.v (.int .i64 (((D.f 1).l:Nat):Int))),(30,.v (.int .i64 ((k1_:Nat):Int))),(36,.v (.slice (some ⟨aa,0,none⟩) 2 2)),(43,.v (.slice ((D.f 1).A) ((D.f 1).l) ((D.f 1).c))),(44,.v (.int .i64 ((k1_:Nat):Int))),(37,.p 2 5)])
  refine qaD [3,4,12] [(0,.p 0 0),(2,.p 1 0),(3,.p 3 0),(29,.v (.int .i64 (((D.f 1).l:Nat):Int))),(30,.v (.int .i64 ((k1_:Nat):Int))),(36,.v (.slice (some ⟨aa,0,none⟩) 2 2)),(39,.v (.slice A1_ k1_ c1_)),(43,.v (.slice ((D.f 1).A) ((D.f 1).l) ((D.f 1).c))),(44,.v (.int .i64 ((k1_:Nat):Int))),(47,.v (.int .i64 ((k1_:Nat):Int)))] 7 (qaa (qac (qaa (qaa (qac (qaa qad)))))) (fun _ h=>h.cells) bH ep fun iL eu=>?_
  obtain ⟨cI,cJ,ev,gL,cr⟩:=Slots.get g2 (i:=k1_) (by omega)
  refine qaJ eu (i:=10) (t:=112) (A:=(D.f 1).A) (m:=((D.f 1).l)) (q:=((k1_:Nat):Int)) (d:=45) kz (e:=160) (size:=5) (bytes:=88) kz ev rfl (by omega) kz kz (qaa (qac (qaa (qaa (qac (qaa qad)))))) bH fun iM cT=>?_
  refine qc7 (i:=11) (j:=13) kz ?_ ?_
  ·
   refine (qak cT (f:=118) (vs:=[.pointer (some ⟨cI,cJ + k1_ * 5,none⟩)]) (d:=46) kz Tryz.call118 (qbc 0 ((D.f 1).f k1_) _ _ _ _ (cr.move ag.step nilM ag.imm) (qaK _ ag.step nilM ag.imm (g2e k1_ (by omega)))) ?_)
   rintro e_ iN ⟨gM,rfl,ew,cu⟩
   have cw:=ew.move (Step.refl _ Nil) nilM (ag.laid (G:=F) cu)
   obtain ⟨aJ,aK,aL,aM,aN,aO,aP,aQ,aR,aS,aT,gN,gO,cz,gq,gt,iO,iP⟩:=cw.open_
   rw [cz] at cw
   have gv:=gq.small
   have gw:=gt.small
   rw [cz]
   refine ⟨_,rfl,fun iQ ey=>?_⟩
   have cU:=ag.next_nil cu
   have au:=ag.frN cu
   have ez:=TT.ofW au cU
   refine ⟨fun _=>ez,?_⟩
   refine qan (i:=13) kz (qbq cU ey (e:=37) (size:=5) (len:=1) (cs:=z0) (d:=48) kz kz fun dt iR iS gP gQ ah bI eB=>?_)
   have eC:=TT.ofW (au.trans ah) bI
   refine ⟨fun _=>eC,?_⟩
   refine qan (i:=14) kz (qaT bI eB (k:=0) (d:=49) (t:=34) (e:=37) (size:=5) (bytes:=88) (A:=A1_) (As:=(some ⟨dt,0,none⟩)) (m0:=k1_) (c:=c1_) (m:=1) (cs:=1) (xs:=xs1_) (news:=z0) kz kz rfl (qbu (bI.own 1 _ rfl) (qbr kz)) (qbz (bI.own 1 _ rfl)) (by omega) fun aj av iT iU aw cA eD=>?_)
   have eE:=TT.ofW ((au.trans ah).trans aw) cA
   refine ⟨fun _=>eE,?_⟩
   refine qan (i:=15) kz (qax eD (t:=34) (A:=(some ⟨aa,0,none⟩)) (m:=2) (q:=1) (d:=50) kz (e:=37) (size:=5) (bytes:=88) (j:=1) kz (b:=aa) (o:=0) rfl rfl (by decide) fun iV eF=>?_)
   have eG:=eF.recast 50 (.v (.pointer (some ⟨aa,0 + 1 * 5,none⟩))) (.p 2 5) rfl rfl (Nat.le_of_ble_eq_true (n:=3) rfl)
   have eH:=eG.pk (env':=[(0,.p 0 0),(2,.p 1 0),(3,.p 3 0),(29,.v (.int .i64 (((D.f 1).l:Nat):Int))),(30,.v (.int .i64 ((k1_:Nat):Int))),(36,.v (.slice (some ⟨aa,0,none⟩) 2 2)),(39,.v (.slice A1_ k1_ c1_)),(43,.v (.slice ((D.f 1).A) ((D.f 1).l) ((D.f 1).c))),(44,.v (.int .i64 ((k1_:Nat):Int))),(47,.v (.int .i64 ((k1_:Nat):Int))),(45,.v (.pointer (some ⟨cI,cJ + k1_ * 5,none⟩))),(46,.v (.agg #[.int .i64 aJ,.slice aO aK.length aP,.bool aL,.slice aQ aM.length aR,.slice aS aN.length aT])),(48,.v (.slice (some ⟨dt,0,none⟩) 1 1)),(49,.v (.slice aj (k1_ + 1) av)),(50,.p 2 5)])
   have cV:=TT.ofW ((au.trans ah).trans aw) cA
   refine ⟨fun _=>cV,?_⟩
   refine qaD [16] [(0,.p 0 0),(2,.p 1 0),(3,.p 3 0),(29,.v (.int .i64 (((D.f 1).l:Nat):Int))),(30,.v (.int .i64 ((k1_:Nat):Int))),(46,.v (.agg #[.int .i64 aJ,.slice aO aK.length aP,.bool aL,.slice aQ aM.length aR,.slice aS aN.length aT])),(47,.v (.int .i64 ((k1_:Nat):Int))),(49,.v (.slice aj (k1_ + 1) av)),(51,.p 2 8)] 1 (qaa (qac (qaa (qaa (qac (qaa qad)))))) (fun _ h=>h.cells) cV eH fun iW eI=>?_
   refine qan (i:=17) kz (qap cA eI (oi:=2) (cs:=(z14 aB D aC aj k1_ av)) kz fun gx bo cW eJ=>?_)
   refine ⟨fun h=>absurd rfl h,?_⟩
   refine qaC kz ?_ _
   refine qab (qaq [0,1] kz ?_)
   have eK:World.ownsRow gx 0 37 5 (.slice aj (k1_ + 1) av) (k1_ + 1) (xs1_ ++ z0):=cW.own 0 _ rfl
   obtain ⟨eL,cX⟩:=qbS eK (by omega)
   refine qal (qax eJ (t:=34) (A:=aj) (m:=(k1_ + 1)) (q:=((k1_:Nat):Int)) (d:=52) kz (e:=37) (size:=5) (bytes:=88) kz (b:=eL) (o:=0) (j:=k1_) cX (rfl) (by omega) fun iX eM=>?_)
   refine qal (qbK cW eM (k:=0) (g:=eL) (o:=k1_ * 5) (c:=av) (m:=(k1_ + 1)) (size:=5) (e:=37) (A:=aj) (xs:=(xs1_ ++ [.int .i64 0,.slice none 0 0,.bool false,.slice none 0 0,.slice none 0 0])) (vs:=[.int .i64 aJ,.slice aO aK.length aP,.bool aL,.slice aQ aM.length aR,.slice aS aN.length aT]) kz rfl cX (by simp only [List.length_cons,List.length_nil]; omega) fun iY bp eN eO=>?_)
   have eP:(⟨aj,av,37,5,k1_ + 1,qbn (xs1_ ++ [.int .i64 0,.slice none 0 0,.bool false,.slice none 0 0,.slice none 0 0]) (k1_ * 5) [.int .i64 aJ,.slice aO aK.length aP,.bool aL,.slice aQ aM.length aR,.slice aS aN.length aT]⟩:Rw) = ⟨aj,av,37,5,k1_ + 1,xs1_ ++ [.int .i64 aJ,.slice aO aK.length aP,.bool aL,.slice aQ aM.length aR,.slice aS aN.length aT]⟩:=by rw [qcx (by rw [hT1_.xslen,List.length_take,qbC]; omega)]
   obtain ⟨cY,bq⟩:=eN.rowEq 0 [⟨aj,av,37,5,k1_ + 1,xs1_ ++ (z2 aJ aO aK.length aP aL aQ aM.length aR aS aN.length aT)⟩,⟨some ⟨dt,0,none⟩,1,37,5,1,z0⟩] eP
   refine qaf (qas (qab (qaq [0,1] kz ?_)))
   refine qaj [0,1] [] [(0,.p 0 0),(2,.p 1 0),(3,.p 3 0),(29,.v (.int .i64 (((D.f 1).l:Nat):Int))),(30,.v (.int .i64 (IntKind.i64.wrap (((k1_:Nat):Int) + 1))))] cY eO fun iZ eQ=>?_
   refine qaf (qab ?_)
   obtain ⟨cZ,eR,bt⟩:=cY.cutB eQ 4 [⟨b,o,(z28 D),false⟩,⟨b4,0,z0,true⟩,⟨aa,0,(z14 aB D aC aj k1_ av),true⟩,⟨bC,0,(z33 aa),true⟩] [(0,.p 0 0),(2,.p 1 0),(3,.p 3 0),(29,.v (.int .i64 (((D.f 1).l:Nat):Int))),(30,.v (.int .i64 (IntKind.i64.wrap (((k1_:Nat):Int) + 1))))]
   obtain ⟨eS,bu⟩:=eR.cutR 1 [⟨aj,av,37,5,k1_ + 1,xs1_ ++ (z2 aJ aO aK.length aP aL aQ aM.length aR aS aN.length aT)⟩]
   have eU:IntKind.i64.wrap (((k1_:Nat):Int) + 1) = ((k1_ + 1:Nat):Int):=qaP (by omega)
   rw [eU] at cZ
   exact ⟨(D.f 1).l - (k1_ + 1),by omega,k1_ + 1,aj,av,xs1_ ++ [Value.int .i64 aJ,.slice aO aK.length aP,.bool aL,.slice aQ aM.length aR,.slice aS aN.length aT],(css1_ ++ [[Value.int .i64 aJ,.slice aO aK.length aP,.bool aL,.slice aQ aM.length aR,.slice aS aN.length aT]]),rfl,by omega,by rw [qbO (by omega)]; exact (hT1_.move ((((((((((((aI.trans ab).trans ac).trans af).trans aE).trans au).trans ah).trans aw).trans bo).trans bp).trans bq).trans bt).trans bu).step immM ((((((((((((aI.trans ab).trans ac).trans af).trans aE).trans au).trans ah).trans aw).trans bo).trans bp).trans bq).trans bt).trans bu).to').snoc (x:=(fun i=>qaG ((D.f 1).f i)) k1_) (cw.move ((((((ah.trans aw).trans bo).trans bp).trans bq).trans bt).trans bu).step immM ((((((ah.trans aw).trans bo).trans bp).trans bq).trans bt).trans bu).to'),cZ.pk,eS,(((((((((((((bY.trans aI).trans ab).trans ac).trans af).trans aE).trans au).trans ah).trans aw).trans bo).trans bp).trans bq).trans bt).trans bu)⟩
  refine (qbq ag cT (e:=37) (size:=5) (len:=1) (cs:=z0) (d:=48) kz kz fun du i6 i7 gR gS ax ai eV=>?_)
  have eW:=TT.ofW ax ai
  refine ⟨fun _=>eW,?_⟩
  refine qan (i:=11) kz (qak eV (f:=118) (vs:=[.pointer (some ⟨cI,cJ + k1_ * 5,none⟩)]) (d:=46) kz Tryz.call118 (qbc 0 ((D.f 1).f k1_) _ _ _ _ (cr.move ai.step nilM ai.imm) (qaK _ ai.step nilM ai.imm (g2e k1_ (by omega)))) ?_)
  rintro e_ ja ⟨gT,rfl,eX,cB⟩
  have cC:=eX.move (Step.refl _ Nil) nilM (ai.laid (G:=F) cB)
  obtain ⟨aU,aV,aW,aX,aY,aZ,ba,bd,bf,bg,bh,gU,gV,cD,gy,gz,jb,jc⟩:=cC.open_
  rw [cD] at cC
  have gA:=gy.small
  have gB:=gz.small
  rw [cD]
  refine ⟨_,rfl,fun jd eY=>?_⟩
  have bJ:=ai.next_nil cB
  have aF:=ai.frN cB
  have eZ:=TT.ofW (ax.trans aF) bJ
  refine ⟨fun _=>eZ,?_⟩
  refine qan (i:=14) kz (qaT bJ eY (k:=0) (d:=49) (t:=34) (e:=37) (size:=5) (bytes:=88) (A:=A1_) (As:=(some ⟨du,0,none⟩)) (m0:=k1_) (c:=c1_) (m:=1) (cs:=1) (xs:=xs1_) (news:=z0) kz kz rfl (qbu (bJ.own 1 _ rfl) (qbr kz)) (qbz (bJ.own 1 _ rfl)) (by omega) fun ak ay je jf az cE e9=>?_)
  have fa:=TT.ofW ((ax.trans aF).trans az) cE
  refine ⟨fun _=>fa,?_⟩
  refine qan (i:=15) kz (qax e9 (t:=34) (A:=(some ⟨aa,0,none⟩)) (m:=2) (q:=1) (d:=50) kz (e:=37) (size:=5) (bytes:=88) (j:=1) kz (b:=aa) (o:=0) rfl rfl (by decide) fun jg fb=>?_)
  have fe:=fb.recast 50 (.v (.pointer (some ⟨aa,0 + 1 * 5,none⟩))) (.p 2 5) rfl rfl (Nat.le_of_ble_eq_true (n:=3) rfl)
  have ff:=fe.pk (env':=[(0,.p 0 0),(2,.p 1 0),(3,.p 3 0),(29,.v (.int .i64 (((D.f 1).l:Nat):Int))),(30,.v (.int .i64 ((k1_:Nat):Int))),(36,.v (.slice (some ⟨aa,0,none⟩) 2 2)),(39,.v (.slice A1_ k1_ c1_)),(43,.v (.slice ((D.f 1).A) ((D.f 1).l) ((D.f 1).c))),(44,.v (.int .i64 ((k1_:Nat):Int))),(47,.v (.int .i64 ((k1_:Nat):Int))),(45,.v (.pointer (some ⟨cI,cJ + k1_ * 5,none⟩))),(48,.v (.slice (some ⟨du,0,none⟩) 1 1)),(46,.v (.agg #[.int .i64 aU,.slice aZ aV.length ba,.bool aW,.slice bd aX.length bf,.slice bg aY.length bh])),(49,.v (.slice ak (k1_ + 1) ay)),(50,.p 2 5)])
  have c5:=TT.ofW ((ax.trans aF).trans az) cE
  refine ⟨fun _=>c5,?_⟩
  refine qaD [16] [(0,.p 0 0),(2,.p 1 0),(3,.p 3 0),(29,.v (.int .i64 (((D.f 1).l:Nat):Int))),(30,.v (.int .i64 ((k1_:Nat):Int))),(46,.v (.agg #[.int .i64 aU,.slice aZ aV.length ba,.bool aW,.slice bd aX.length bf,.slice bg aY.length bh])),(47,.v (.int .i64 ((k1_:Nat):Int))),(49,.v (.slice ak (k1_ + 1) ay)),(51,.p 2 8)] 1 (qaa (qac (qaa (qaa (qac (qaa qad)))))) (fun _ h=>h.cells) c5 ff fun jh fg=>?_
  refine qan (i:=17) kz (qap cE fg (oi:=2) (cs:=(z14 aB D aC ak k1_ ay)) kz fun gC bw c6 fh=>?_)
  refine ⟨fun h=>absurd rfl h,?_⟩
  refine qaC kz ?_ _
  refine qab (qaq [0,1] kz ?_)
  have fi:World.ownsRow gC 0 37 5 (.slice ak (k1_ + 1) ay) (k1_ + 1) (xs1_ ++ z0):=c6.own 0 _ rfl
  obtain ⟨fj,da⟩:=qbS fi (by omega)
  refine qal (qax fh (t:=34) (A:=ak) (m:=(k1_ + 1)) (q:=((k1_:Nat):Int)) (d:=52) kz (e:=37) (size:=5) (bytes:=88) kz (b:=fj) (o:=0) (j:=k1_) da (rfl) (by omega) fun ji fk=>?_)
  refine qal (qbK c6 fk (k:=0) (g:=fj) (o:=k1_ * 5) (c:=ay) (m:=(k1_ + 1)) (size:=5) (e:=37) (A:=ak) (xs:=(xs1_ ++ [.int .i64 0,.slice none 0 0,.bool false,.slice none 0 0,.slice none 0 0])) (vs:=[.int .i64 aU,.slice aZ aV.length ba,.bool aW,.slice bd aX.length bf,.slice bg aY.length bh]) kz rfl da (by simp only [List.length_cons,List.length_nil]; omega) fun jj bx fm fo=>?_)
  have fq:(⟨ak,ay,37,5,k1_ + 1,qbn (xs1_ ++ [.int .i64 0,.slice none 0 0,.bool false,.slice none 0 0,.slice none 0 0]) (k1_ * 5) [.int .i64 aU,.slice aZ aV.length ba,.bool aW,.slice bd aX.length bf,.slice bg aY.length bh]⟩:Rw) = ⟨ak,ay,37,5,k1_ + 1,xs1_ ++ [.int .i64 aU,.slice aZ aV.length ba,.bool aW,.slice bd aX.length bf,.slice bg aY.length bh]⟩:=by rw [qcx (by rw [hT1_.xslen,List.length_take,qbC]; omega)]
  obtain ⟨db,bz⟩:=fm.rowEq 0 [⟨ak,ay,37,5,k1_ + 1,xs1_ ++ (z2 aU aZ aV.length ba aW bd aX.length bf bg aY.length bh)⟩,⟨some ⟨du,0,none⟩,1,37,5,1,z0⟩] fq
  refine qaf (qas (qab (qaq [0,1] kz ?_)))
  refine qaj [0,1] [] [(0,.p 0 0),(2,.p 1 0),(3,.p 3 0),(29,.v (.int .i64 (((D.f 1).l:Nat):Int))),(30,.v (.int .i64 (IntKind.i64.wrap (((k1_:Nat):Int) + 1))))] db fo fun jk fr=>?_
  refine qaf (qab ?_)
  obtain ⟨dc,ft,bA⟩:=db.cutB fr 4 [⟨b,o,(z28 D),false⟩,⟨b4,0,z0,true⟩,⟨aa,0,(z14 aB D aC ak k1_ ay),true⟩,⟨bC,0,(z33 aa),true⟩] [(0,.p 0 0),(2,.p 1 0),(3,.p 3 0),(29,.v (.int .i64 (((D.f 1).l:Nat):Int))),(30,.v (.int .i64 (IntKind.i64.wrap (((k1_:Nat):Int) + 1))))]
  obtain ⟨fu,bB⟩:=ft.cutR 1 [⟨ak,ay,37,5,k1_ + 1,xs1_ ++ (z2 aU aZ aV.length ba aW bd aX.length bf bg aY.length bh)⟩]
  have fv:IntKind.i64.wrap (((k1_:Nat):Int) + 1) = ((k1_ + 1:Nat):Int):=qaP (by omega)
  rw [fv] at dc
  exact ⟨(D.f 1).l - (k1_ + 1),by omega,k1_ + 1,ak,ay,xs1_ ++ [Value.int .i64 aU,.slice aZ aV.length ba,.bool aW,.slice bd aX.length bf,.slice bg aY.length bh],(css1_ ++ [[Value.int .i64 aU,.slice aZ aV.length ba,.bool aW,.slice bd aX.length bf,.slice bg aY.length bh]]),rfl,by omega,by rw [qbO (by omega)]; exact (hT1_.move ((((((((((((aI.trans ab).trans ac).trans af).trans aE).trans ax).trans aF).trans az).trans bw).trans bx).trans bz).trans bA).trans bB).step immM ((((((((((((aI.trans ab).trans ac).trans af).trans aE).trans ax).trans aF).trans az).trans bw).trans bx).trans bz).trans bA).trans bB).to').snoc (x:=(fun i=>qaG ((D.f 1).f i)) k1_) (cC.move (((((az.trans bw).trans bx).trans bz).trans bA).trans bB).step immM (((((az.trans bw).trans bx).trans bz).trans bA).trans bB).to'),dc.pk,fu,(((((((((((((bY.trans aI).trans ab).trans ac).trans af).trans aE).trans ax).trans aF).trans az).trans bw).trans bx).trans bz).trans bA).trans bB)⟩
 have gW:=of_decide_eq_false dq
 refine wp_exit (qau (qau (qaL (qab (qae [0,1,2,3,4] kz ?_)))))
 refine qaj [0,1,2] [3,4] [(2,.p 1 0),(3,.p 3 0),(74,.p 0 2)] aA dp fun jl fw=>?_
 refine qal (qfb fw (v:=.func (.func 119) #[] #[.pointer (some ⟨bC,0,none⟩)]) (d:=75) kz fun jm fx=>?_)
 refine qal (qak fx (f:=64) (vs:=[.pointer (some ⟨b,o + 2,none⟩),.func (.func 119) #[] #[.pointer (some ⟨bC,0,none⟩)]]) (d:=76) kz Tryz.call64 (qfK (F:=(Imm F w hJ [⟨b,o,(z28 D),false⟩,⟨b4,0,z0,true⟩,⟨aa,0,(z58 aB D aC A1_ k1_ c1_),true⟩,⟨bC,0,(z33 aa),true⟩] [⟨A1_,c1_,37,5,k1_,xs1_⟩])) Tryz.call119 qb4 ((hat.one 2 rfl).move aA.step nilM aA.imm) (g3.move aA.step nilM aA.imm) (Str.of aA 3 rfl) (qkb 3 rfl) g3l) ?_)
 rintro e_ jn ⟨rfl,al,am,dv,fy,fz⟩
 obtain ⟨cG,bK,fA⟩:=aA.wrote 3 [⟨b,o,(z28 D),false⟩,⟨b4,0,z0,true⟩,⟨aa,0,(z58 aB D aC A1_ k1_ c1_),true⟩,⟨bC,0,[.int .i64 0,.slice none 0 0,.bool false,.slice (some ⟨aa,0,none⟩) 2 2,.slice al D.u.length am],true⟩] rfl fz dv
 have de:=fy.move (Step.refl _ Nil) nilM (fun b_ o_ h_ hb_=>fA (G:=F) b_ o_ (.inr h_) hb_)
 refine ⟨_,rfl,fun jo fB=>?_⟩
 have fC:=(EnvOk.places (tb':=[⟨b,o,[.string ((D.f 0).s),.slice ((D.f 1).A) ((D.f 1).l) ((D.f 1).c),.map D.m],false⟩,⟨b4,0,[.int .i64 0,.slice none 0 0,.bool false,.slice none 0 0,.slice none 0 0],true⟩,⟨aa,0,[.int .i64 0,.slice (some ⟨aB,0,none⟩) ((sb ((D.f 0).s)).length) aC,.bool false,.slice none 0 0,.slice none 0 0,.int .i64 0,.slice none 0 0,.bool (((D.f 1).A).isNone),.slice A1_ k1_ c1_,.slice none 0 0],true⟩,⟨bC,0,[.int .i64 0,.slice none 0 0,.bool false,.slice (some ⟨aa,0,none⟩) 2 2,.slice al D.u.length am],true⟩]) fB (show Pl [⟨b,o,[.string ((D.f 0).s),.slice ((D.f 1).A) ((D.f 1).l) ((D.f 1).c),.map D.m],false⟩,⟨b4,0,[.int .i64 0,.slice none 0 0,.bool false,.slice none 0 0,.slice none 0 0],true⟩,⟨aa,0,[.int .i64 0,.slice (some ⟨aB,0,none⟩) ((sb ((D.f 0).s)).length) aC,.bool false,.slice none 0 0,.slice none 0 0,.int .i64 0,.slice none 0 0,.bool (((D.f 1).A).isNone),.slice A1_ k1_ c1_,.slice none 0 0],true⟩,⟨bC,0,[.int .i64 0,.slice none 0 0,.bool false,.slice (some ⟨aa,0,none⟩) 2 2,.slice none 0 0],true⟩] [⟨b,o,[.string ((D.f 0).s),.slice ((D.f 1).A) ((D.f 1).l) ((D.f 1).c),.map D.m],false⟩,⟨b4,0,[.int .i64 0,.slice none 0 0,.bool false,.slice none 0 0,.slice none 0 0],true⟩,⟨aa,0,[.int .i64 0,.slice (some ⟨aB,0,none⟩) ((sb ((D.f 0).s)).length) aC,.bool false,.slice none 0 0,.slice none 0 0,.int .i64 0,.slice none 0 0,.bool (((D.f 1).A).isNone),.slice A1_ k1_ c1_,.slice none 0 0],true⟩,⟨bC,0,[.int .i64 0,.slice none 0 0,.bool false,.slice (some ⟨aa,0,none⟩) 2 2,.slice al D.u.length am],true⟩] from ⟨rfl,rfl,⟨rfl,rfl,⟨rfl,rfl,⟨rfl,rfl,trivial⟩⟩⟩⟩)).pk (env':=[(76,.v (.tuple #[])),(2,.p 1 0),(3,.p 3 0),(74,.p 0 2),(75,.v (.func (.func 119) #[] #[.pointer (some ⟨bC,0,none⟩)]))])
 refine qaf (qab ?_)
 refine qae [0,1,2] kz ?_
 refine qaj [0,1] [2] [(2,.p 1 0),(3,.p 3 0),(78,.v (.slice al D.u.length am))] cG fC fun jp fD=>?_
 refine qal (qak fD (f:=66) (vs:=[.slice al D.u.length am]) (d:=79) kz Tryz.call66 (qhy de g3.sorted) ?_)
 rintro e_ jq ⟨rfl,df⟩
 refine ⟨_,rfl,fun jr fE=>?_⟩
 have dg:=cG.next_nil df
 have aG:=cG.frN df
 refine qaf (qab ?_)
 refine qae [0,1] kz ?_
 refine qaj [0] [1] [(2,.p 1 0),(80,.v (.agg #[.int .i64 0,.slice none 0 0,.bool false,.slice (some ⟨aa,0,none⟩) 2 2,.slice al D.u.length am]))] dg fE fun js fF=>?_
 refine qal (qap dg fF (oi:=1) (cs:=[.int .i64 0,.slice none 0 0,.bool false,.slice (some ⟨aa,0,none⟩) 2 2,.slice al D.u.length am]) kz fun fG aH cH fH=>?_)
 refine qaf (qab ?_)
 refine wp_ret (qaM fH cH.cells (v:=.agg #[.int .i64 0,.slice none 0 0,.bool false,.slice (some ⟨aa,0,none⟩) 2 2,.slice al D.u.length am]) kz ?_)
 have dh:=(hT1_.move ((bK.trans aG).trans aH).step immM ((bK.trans aG).trans aH).to')
 rw [qeE (by omega)] at dh
 exact qgv (u:=D.u) (l:=[.mk 0 (sb (D.f 0).s) false [] [],.mk 0 [] (D.f 1).A.isNone ((List.range (D.f 1).l).map fun i=>qaG ((D.f 1).f i)) []]) (css:=[[.int .i64 0,.slice (some ⟨aB,0,none⟩) ((sb ((D.f 0).s)).length) aC,.bool false,.slice none 0 0,.slice none 0 0],[.int .i64 0,.slice none 0 0,.bool (((D.f 1).A).isNone),.slice A1_ k1_ c1_,.slice none 0 0]]) cH 2 rfl ⟨(show TreeR _ (Imm F w fG [⟨b,o,[.string ((D.f 0).s),.slice ((D.f 1).A) ((D.f 1).l) ((D.f 1).c),.map D.m],false⟩,⟨b4,0,[.int .i64 0,.slice none 0 0,.bool false,.slice (some ⟨aa,0,none⟩) 2 2,.slice al D.u.length am],true⟩,⟨aa,0,[.int .i64 0,.slice (some ⟨aB,0,none⟩) ((sb ((D.f 0).s)).length) aC,.bool false,.slice none 0 0,.slice none 0 0,.int .i64 0,.slice none 0 0,.bool (((D.f 1).A).isNone),.slice A1_ k1_ c1_,.slice none 0 0],true⟩,⟨bC,0,[.int .i64 0,.slice none 0 0,.bool false,.slice (some ⟨aa,0,none⟩) 2 2,.slice al D.u.length am],true⟩] [⟨A1_,c1_,37,5,k1_,xs1_⟩]) _ _ from (TreeR.mk (n:=0) (b:=false) (s:=(sb ((D.f 0).s))) (l:=[]) (u:=[]) (fun _=>[]) (fW.move (((((((dy.trans dz).trans dA).trans dC).trans bY).trans bK).trans aG).trans aH).step immM (((((((dy.trans dz).trans dA).trans dC).trans bY).trans bK).trans aG).trans aH).to') (Slots.nil _ _ _ _) (fun i_ x_ h_=>by simp at h_) (TagsR.nil _ _))).move (Step.refl _ Nil) nilM qb8,qdG cH (k:=0) rfl dh (by rw [qbC]; omega) (by rw [qbC]; omega),trivial⟩ ((show TagsR _ (Imm F w fG [⟨b,o,[.string ((D.f 0).s),.slice ((D.f 1).A) ((D.f 1).l) ((D.f 1).c),.map D.m],false⟩,⟨b4,0,[.int .i64 0,.slice none 0 0,.bool false,.slice (some ⟨aa,0,none⟩) 2 2,.slice al D.u.length am],true⟩,⟨aa,0,[.int .i64 0,.slice (some ⟨aB,0,none⟩) ((sb ((D.f 0).s)).length) aC,.bool false,.slice none 0 0,.slice none 0 0,.int .i64 0,.slice none 0 0,.bool (((D.f 1).A).isNone),.slice A1_ k1_ c1_,.slice none 0 0],true⟩,⟨bC,0,[.int .i64 0,.slice none 0 0,.bool false,.slice (some ⟨aa,0,none⟩) 2 2,.slice al D.u.length am],true⟩] [⟨A1_,c1_,37,5,k1_,xs1_⟩]) _ _ _ from (de.move (aG.trans aH).step immM (aG.trans aH).to')).move (Step.refl _ Nil) nilM qb8)
abbrev z5 (x0:DV) (x1) (x2) (x3) (x4) (x5) (x6) (x7) (x8) (x9) (x10) (x11) (x12) (x13) (x14):=([.int .i64 (IntKind.i64.wrap ((x0.f 0).n)),.slice none 0 0,.bool false,.slice none 0 0,.slice none 0 0,.int .i64 (IntKind.i64.wrap ((x0.f 1).n)),.slice none 0 0,.bool false,.slice none 0 0,.slice none 0 0,.int .i64 x1,.slice x2 x3 x4,.bool x5,.slice x6 x7 x8,.slice x9 x10 x11,.int .i64 0,.slice none 0 0,.bool (((x0.f 3).A).isNone),.slice x12 (x13 + 1) x14,.slice none 0 0]:List Value)
abbrev z15 (x0) (x1:DV):=([.int .i16 x0,.int .i32 ((x1.f 0).n),.int .i16 ((x1.f 1).n),.pointer ((x1.f 2).A),.slice ((x1.f 3).A) ((x1.f 3).l) ((x1.f 3).c),.map x1.m]:List Value)
abbrev z31 (x0:DV):=([.int .i64 (IntKind.i64.wrap ((x0.f 0).n)),.slice none 0 0,.bool false,.slice none 0 0,.slice none 0 0,.int .i64 (IntKind.i64.wrap ((x0.f 1).n)),.slice none 0 0,.bool false,.slice none 0 0,.slice none 0 0,.int .i64 0,.slice none 0 0,.bool false,.slice none 0 0,.slice none 0 0,.int .i64 0,.slice none 0 0,.bool false,.slice none 0 0,.slice none 0 0]:List Value)
abbrev z53 (x0:DV) (x1) (x2) (x3) (x4) (x5) (x6) (x7) (x8) (x9) (x10) (x11) (x12) (x13) (x14):=([.int .i64 (IntKind.i64.wrap ((x0.f 0).n)),.slice none 0 0,.bool false,.slice none 0 0,.slice none 0 0,.int .i64 (IntKind.i64.wrap ((x0.f 1).n)),.slice none 0 0,.bool false,.slice none 0 0,.slice none 0 0,.int .i64 x1,.slice x2 x3 x4,.bool x5,.slice x6 x7 x8,.slice x9 x10 x11,.int .i64 0,.slice none 0 0,.bool (((x0.f 3).A).isNone),.slice x12 x13 x14,.slice none 0 0]:List Value)
set_option maxHeartbeats 4000000 in
theorem qco (v:Int) (D:DV) (b o:Nat) (w:World) (F:Nat → Nat → Prop) (hat:AtF w F b o [.int .i16 v,.int .i32 ((D.f 0).n),.int .i16 ((D.f 1).n),.pointer ((D.f 2).A),.slice ((D.f 3).A) ((D.f 3).l) ((D.f 3).c),.map D.m]) (hok:qa5 w F D):Calls Tryz.prog 46 #[.pointer (some ⟨b,o,none⟩)] w (qd4 w F (qa0 D)):=by
 refine enter (n:=98) Tryz.func46 rfl Tryz.ntmps46 kz fun a hE=>?_
 have hW:WOk w Nil w [⟨b,o,(z15 v D),false⟩] []:=(WOk.start w Nil).start1 hat rfl rfl
 unfold qa5 at hok
 obtain ⟨g1,g2,⟨g3,g3l⟩,⟨g4,g4l,g4e⟩,g5,g5l,g5x,_⟩:=hok
 have hE0:=(EnvOk.ptr0 (cs:=(z15 v D)) (r:=false) hE).pk (env':=[(0,.p 0 0)])
 refine qae [0] kz ?_
 refine qal (qaS hW hE0 (d:=2) (cs:=z0) kz fun b6 a7 w8 hb9 iD iE gk gl=>?_)
 refine qaf (qab ?_)
 refine qae [0,1,2,3] kz ?_
 refine qal (qeY (t:=34) (e:=37) (size:=5) (bytes:=88) (d:=5) (j:=4) (.agg #[.int .i64 0,.slice none 0 0,.bool false,.slice none 0 0,.slice none 0 0]) z36 gk gl fun aa kq ku iF iG iH dO gm=>?_)
 refine qaj [1] [2,3] [(0,.p 0 0),(2,.p 1 0),(6,.v (.agg #[.int .i64 0,.slice none 0 0,.bool false,.slice (some ⟨aa,0,none⟩) 4 4,.slice none 0 0]))] dO gm fun kv gn=>?_
 refine qal (qaS dO gn (d:=3) (cs:=z0) kz fun bw kw kx iI iJ iK gp gq=>?_)
 refine qal (qap gp gq (oi:=3) (cs:=(z7 aa)) kz fun ky iL gt gv=>?_)
 refine qaf (qab ?_)
 refine qaE 9 kz gt fun kA iM gw dP=>?_
 refine qaD [0,1,2,3,4,5,6,7] [(0,.p 0 0),(2,.p 1 0),(3,.p 3 0),(8,.v (.slice (some ⟨aa,0,none⟩) 4 4)),(14,.v (.agg #[.int .i64 (IntKind.i64.wrap ((D.f 0).n)),.slice none 0 0,.bool false,.slice none 0 0,.slice none 0 0]))] 2 (qaa qad) (fun _ h=>h.cells) dP gv fun kB gx=>?_
 refine qaJ gx (i:=8) (t:=34) (A:=(some ⟨aa,0,none⟩)) (m:=4) (q:=0) (d:=15) kz (e:=37) (size:=5) (bytes:=88) (j:=0) kz (b:=aa) (o:=0) rfl rfl (by decide) kz kz (qaa qad) dP fun kC gy=>?_
 have gz:=gy.recast 15 (.v (.pointer (some ⟨aa,0 + 0 * 5,none⟩))) (.p 2 0) rfl rfl (Nat.le_of_ble_eq_true (n:=3) rfl)
 have gA:=gz.pk (env':=[(0,.p 0 0),(2,.p 1 0),(3,.p 3 0),(8,.v (.slice (some ⟨aa,0,none⟩) 4 4)),(14,.v (.agg #[.int .i64 (IntKind.i64.wrap ((D.f 0).n)),.slice none 0 0,.bool false,.slice none 0 0,.slice none 0 0])),(15,.p 2 0)])
 refine qan (i:=9) kz (qap gw gA (oi:=2) (cs:=(z35 D)) kz fun kD iN gB gC=>?_)
 refine ⟨fun h=>absurd rfl h,?_⟩
 refine qaC kz ?_ _
 refine qab (qaE 9 kz gB fun kE iO gD dQ=>?_)
 refine qaD [0,1,2,3,4,5,6,7] [(0,.p 0 0),(2,.p 1 0),(3,.p 3 0),(17,.v (.slice (some ⟨aa,0,none⟩) 4 4)),(23,.v (.agg #[.int .i64 (IntKind.i64.wrap ((D.f 1).n)),.slice none 0 0,.bool false,.slice none 0 0,.slice none 0 0]))] 2 (qaa qad) (fun _ h=>h.cells) dQ gC fun kF gE=>?_
 refine qaJ gE (i:=8) (t:=34) (A:=(some ⟨aa,0,none⟩)) (m:=4) (q:=1) (d:=24) kz (e:=37) (size:=5) (bytes:=88) (j:=1) kz (b:=aa) (o:=0) rfl rfl (by decide) kz kz (qaa qad) dQ fun kG gF=>?_
 have gG:=gF.recast 24 (.v (.pointer (some ⟨aa,0 + 1 * 5,none⟩))) (.p 2 5) rfl rfl (Nat.le_of_ble_eq_true (n:=3) rfl)
 have gH:=gG.pk (env':=[(0,.p 0 0),(2,.p 1 0),(3,.p 3 0),(17,.v (.slice (some ⟨aa,0,none⟩) 4 4)),(23,.v (.agg #[.int .i64 (IntKind.i64.wrap ((D.f 1).n)),.slice none 0 0,.bool false,.slice none 0 0,.slice none 0 0])),(24,.p 2 5)])
 refine qan (i:=9) kz (qap gD gH (oi:=2) (cs:=(z31 D)) kz fun kH iP gI gJ=>?_)
 refine ⟨fun h=>absurd rfl h,?_⟩
 refine qaC kz ?_ _
 refine qab (qaE 8 kz gI fun iQ iR cz gK=>?_)
 refine qaD [0,1,2,3,4,5] [(0,.p 0 0),(2,.p 1 0),(3,.p 3 0),(26,.v (.slice (some ⟨aa,0,none⟩) 4 4)),(30,.v (.pointer ((D.f 2).A)))] 3 (qaa qad) (fun _ h=>h.cells) gK gJ fun kI gL=>?_
 refine qan (i:=6) kz (qak gL (f:=78) (vs:=[.pointer ((D.f 2).A)]) (d:=31) kz Tryz.call78 (ql0 _ (D.f 2).s _ (Imm F w iQ [⟨b,o,(z15 v D),false⟩,⟨b6,0,z0,true⟩,⟨aa,0,(z31 D),true⟩,⟨bw,0,(z7 aa),true⟩] []) (fun ad h_=>by obtain ⟨b',o',g1,g2⟩:=g3 ad h_; exact ⟨b',o',g1,g2.move cz.step nilM cz.imm⟩) g3l) ?_)
 rintro e_ kJ ⟨iS,rfl,gM,dI⟩
 have dJ:=gM.move (Step.refl _ Nil) nilM (cz.laid (G:=F) dI)
 obtain ⟨aC,aD,aE,aF,aG,aH,aI,aJ,aK,aL,aM,iT,iU,cZ,iV,iW,kK,kL⟩:=dJ.open_
 rw [cZ] at dJ
 have hC:=iV.small
 have hJ:=iW.small
 rw [cZ]
 refine ⟨_,rfl,fun kM gN=>?_⟩
 have dR:=cz.next_nil dI
 have gO:=cz.frN dI
 have dS:=TT.ofW gO dR
 refine ⟨fun _=>dS,?_⟩
 refine qaJ gN (i:=7) (t:=34) (A:=(some ⟨aa,0,none⟩)) (m:=4) (q:=2) (d:=32) kz (e:=37) (size:=5) (bytes:=88) (j:=2) kz (b:=aa) (o:=0) rfl rfl (by decide) kz kz (qaa qad) dS fun iX dT=>?_
 have dU:=dT.recast 32 (.v (.pointer (some ⟨aa,0 + 2 * 5,none⟩))) (.p 2 10) rfl rfl (Nat.le_of_ble_eq_true (n:=3) rfl)
 have dV:=dU.pk (env':=[(0,.p 0 0),(2,.p 1 0),(3,.p 3 0),(26,.v (.slice (some ⟨aa,0,none⟩) 4 4)),(30,.v (.pointer ((D.f 2).A))),(31,.v (.agg #[.int .i64 aC,.slice aH aD.length aI,.bool aE,.slice aJ aF.length aK,.slice aL aG.length aM])),(32,.p 2 10)])
 refine qan (i:=8) kz (qap dR dV (oi:=2) (cs:=[.int .i64 (IntKind.i64.wrap ((D.f 0).n)),.slice none 0 0,.bool false,.slice none 0 0,.slice none 0 0,.int .i64 (IntKind.i64.wrap ((D.f 1).n)),.slice none 0 0,.bool false,.slice none 0 0,.slice none 0 0,.int .i64 aC,.slice aH aD.length aI,.bool aE,.slice aJ aF.length aK,.slice aL aG.length aM,.int .i64 0,.slice none 0 0,.bool false,.slice none 0 0,.slice none 0 0]) kz fun iY c5 dW dX=>?_)
 refine ⟨fun h=>absurd rfl h,?_⟩
 refine qaC kz ?_ _
 refine qab (qaE 9 kz dW fun iZ c6 dY cA=>?_)
 refine qaD [0,1,2,3,4,5,6] [(0,.p 0 0),(2,.p 1 0),(3,.p 3 0),(34,.v (.slice (some ⟨aa,0,none⟩) 4 4)),(39,.v (.bool (((D.f 3).A).isNone)))] 3 (qaa qad) (fun _ h=>h.cells) cA dX fun i6 dZ=>?_
 refine qan (i:=7) kz (qax dZ (t:=34) (A:=(some ⟨aa,0,none⟩)) (m:=4) (q:=3) (d:=40) kz (e:=37) (size:=5) (bytes:=88) (j:=3) kz (b:=aa) (o:=0) rfl rfl (by decide) fun i7 d5=>?_)
 have d6:=d5.recast 40 (.v (.pointer (some ⟨aa,0 + 3 * 5,none⟩))) (.p 2 15) rfl rfl (Nat.le_of_ble_eq_true (n:=3) rfl)
 have d7:=d6.pk (env':=[(0,.p 0 0),(2,.p 1 0),(3,.p 3 0),(34,.v (.slice (some ⟨aa,0,none⟩) 4 4)),(39,.v (.bool (((D.f 3).A).isNone))),(40,.p 2 15)])
 refine ⟨fun _=>cA,?_⟩
 refine qaD [8] [(0,.p 0 0),(2,.p 1 0),(3,.p 3 0),(39,.v (.bool (((D.f 3).A).isNone))),(41,.p 2 17)] 1 (qaa qad) (fun _ h=>h.cells) cA d7 fun ja d8=>?_
 refine qan (i:=9) kz (qap dY d8 (oi:=2) (cs:=[.int .i64 (IntKind.i64.wrap ((D.f 0).n)),.slice none 0 0,.bool false,.slice none 0 0,.slice none 0 0,.int .i64 (IntKind.i64.wrap ((D.f 1).n)),.slice none 0 0,.bool false,.slice none 0 0,.slice none 0 0,.int .i64 aC,.slice aH aD.length aI,.bool aE,.slice aJ aF.length aK,.slice aL aG.length aM,.int .i64 0,.slice none 0 0,.bool (((D.f 3).A).isNone),.slice none 0 0,.slice none 0 0]) kz fun jb da cB d9=>?_)
 refine ⟨fun h=>absurd rfl h,?_⟩
 refine qaC kz ?_ _
 refine qab (wp_seq (qar [(0,.p 0 0),(2,.p 1 0),(3,.p 3 0),(46,.v (.int .i64 (((D.f 3).l:Nat):Int))),(47,.v (.int .i64 0))] cB d9 fun jc ea=>?_))
 refine wp_block ?_
 have db:=cB.addNil 37 5
 have dc:=cB.frNil 37 5
 refine wp_loop_ghost (fun n_ a_ w_=>∃ (k3_:Nat) (A3_:Option Addr) (c3_:Nat) (xs3_:List Value) (css3_:List (List Value)),n_ = (D.f 3).l - k3_ ∧ k3_ ≤ (D.f 3).l ∧ (Trees w_ (Imm F w w_ [⟨b,o,[.int .i16 v,.int .i32 ((D.f 0).n),.int .i16 ((D.f 1).n),.pointer ((D.f 2).A),.slice ((D.f 3).A) ((D.f 3).l) ((D.f 3).c),.map D.m],false⟩,⟨b6,0,[.int .i64 0,.slice none 0 0,.bool false,.slice none 0 0,.slice none 0 0],true⟩,⟨aa,0,[.int .i64 (IntKind.i64.wrap ((D.f 0).n)),.slice none 0 0,.bool false,.slice none 0 0,.slice none 0 0,.int .i64 (IntKind.i64.wrap ((D.f 1).n)),.slice none 0 0,.bool false,.slice none 0 0,.slice none 0 0,.int .i64 aC,.slice aH aD.length aI,.bool aE,.slice aJ aF.length aK,.slice aL aG.length aM,.int .i64 0,.slice none 0 0,.bool (((D.f 3).A).isNone),.slice A3_ k3_ c3_,.slice none 0 0],true⟩,⟨bw,0,[.int .i64 0,.slice none 0 0,.bool false,.slice (some ⟨aa,0,none⟩) 4 4,.slice none 0 0],true⟩] [⟨A3_,c3_,37,5,k3_,xs3_⟩]) xs3_ (((List.range (D.f 3).l).map (fun i=>qaO ((D.f 3).f i))).take k3_) css3_) ∧ LInv db 98 [⟨b,o,[.int .i16 v,.int .i32 ((D.f 0).n),.int .i16 ((D.f 1).n),.pointer ((D.f 2).A),.slice ((D.f 3).A) ((D.f 3).l) ((D.f 3).c),.map D.m],false⟩,⟨b6,0,[.int .i64 0,.slice none 0 0,.bool false,.slice none 0 0,.slice none 0 0],true⟩,⟨aa,0,[.int .i64 (IntKind.i64.wrap ((D.f 0).n)),.slice none 0 0,.bool false,.slice none 0 0,.slice none 0 0,.int .i64 (IntKind.i64.wrap ((D.f 1).n)),.slice none 0 0,.bool false,.slice none 0 0,.slice none 0 0,.int .i64 aC,.slice aH aD.length aI,.bool aE,.slice aJ aF.length aK,.slice aL aG.length aM,.int .i64 0,.slice none 0 0,.bool (((D.f 3).A).isNone),.slice A3_ k3_ c3_,.slice none 0 0],true⟩,⟨bw,0,[.int .i64 0,.slice none 0 0,.bool false,.slice (some ⟨aa,0,none⟩) 4 4,.slice none 0 0],true⟩] [⟨A3_,c3_,37,5,k3_,xs3_⟩] [(0,.p 0 0),(2,.p 1 0),(3,.p 3 0),(46,.v (.int .i64 (((D.f 3).l:Nat):Int))),(47,.v (.int .i64 ((k3_:Nat):Int)))] a_ w_) ((D.f 3).l) ⟨0,none,0,[],[],by omega,by omega,Trees.nil _ _,ea.pk,db,Fr.refl _ _ _⟩ ?_
 rintro jd je gP ⟨k3_,A3_,c3_,xs3_,css3_,hK,hZ,hT3_,eb,af,bx⟩
 refine qar [(0,.p 0 0),(2,.p 1 0),(3,.p 3 0),(46,.v (.int .i64 (((D.f 3).l:Nat):Int))),(47,.v (.int .i64 ((k3_:Nat):Int))),(48,.v (.bool (decide (((k3_:Nat):Int) < (((D.f 3).l:Nat):Int)))))] af eb fun jf cC=>?_
 refine wp_seq (qaw cC (b:=decide (((k3_:Nat):Int) < (((D.f 3).l:Nat):Int))) kz (fun cD=>?_) (fun cD=>?_))
 ·
  have ia:=of_decide_eq_true cD
  refine wp_skip (qab (wp_seq (wp_block (qar [(0,.p 0 0),(2,.p 1 0),(3,.p 3 0),(4,.v (.int .i64 ((k3_:Nat):Int))),(46,.v (.int .i64 (((D.f 3).l:Nat):Int))),(47,.v (.int .i64 ((k3_:Nat):Int)))] af cC fun jg ec=>?_))))
  refine qaE 4 kz af fun jh ag ee ib=>?_
  refine qan (i:=0) kz (qaS ee ec (d:=50) (cs:=[.bool false]) kz fun ji jj jk ic ig ab cE de=>?_)
  have ef:=TT.ofW ab cE
  refine ⟨fun _=>ef,?_⟩
  refine qc7 (i:=1) (j:=2) kz ?_ ?_
  ·
   refine (qap cE de (oi:=4) (cs:=[.bool true]) kz fun jl aN df eg=>?_)
   have eh:=TT.ofW (ab.trans aN) df
   refine ⟨fun _=>eh,?_⟩
   refine qan (i:=2) kz (qap df eg (oi:=4) (cs:=[.bool false]) kz fun jm bz bN ei=>?_)
   have ej:=TT.ofW ((ab.trans aN).trans bz) bN
   refine ⟨fun _=>ej,?_⟩
   refine qan (i:=3) kz (qbd [0,2,3,4,46,47,51] bN.cells ei (env':=[(0,.p 0 0),(2,.p 1 0),(3,.p 3 0),(4,.v (.int .i64 ((k3_:Nat):Int))),(46,.v (.int .i64 (((D.f 3).l:Nat):Int))),(47,.v (.int .i64 ((k3_:Nat):Int))),(51,.v (.bool false))]) kz fun jn dg=>?_)
   have ek:=TT.ofW ((ab.trans aN).trans bz) bN
   refine ⟨fun _=>ek,?_⟩
   refine qaC kz ?_ _
   refine qab (qam dg (b:=false) kz rfl ?_)
   refine qcr 18 kz bN fun jo cG ar bO=>?_
   refine qaD [0,1,2,3,7,8,9,10,11] [(0,.p 0 0),(2,.p 1 0),(3,.p 3 0),(46,.v (.int .i64 (((D.f 3).l:Nat):Int))),(47,.v (.int .i64 ((k3_:Nat):Int))),(71,.v (.slice (some ⟨aa,0,none⟩) 4 4)),(73,.v (.slice (some ⟨aa,0,none⟩) 4 4)),(80,.v (.slice ((D.f 3).A) ((D.f 3).l) ((D.f 3).c))),(81,.v (.int .i64 ((k3_:Nat):Int)))] 10 (qac (qaa (qaa (qac (qaa qad))))) (fun _ h=>h.cells) bO dg fun jp em=>?_
   refine qaJ em (i:=4) (t:=34) (A:=(some ⟨aa,0,none⟩)) (m:=4) (q:=3) (d:=74) kz (e:=37) (size:=5) (bytes:=88) (j:=3) kz (b:=aa) (o:=0) rfl rfl (by decide) kz kz (qac (qaa (qaa (qac (qaa qad))))) bO fun jq eo=>?_
   have ep:=eo.recast 74 (.v (.pointer (some ⟨aa,0 + 3 * 5,none⟩))) (.p 2 15) rfl rfl (Nat.le_of_ble_eq_true (n:=3) rfl)
   have eu:=ep.pk (env':=[(0,.p 0 0),(2,.p 1 0),(3,.p 3 0),(46,.v (.int .i64 (((D.f 3).l:Nat):Int))),(47,.v (.int .i64 ((k3_:Nat):Int))),(71,.v (.slice (some ⟨aa,0,none⟩) 4 4)),(73,.v (.slice (some ⟨aa,0,none⟩) 4 4)),(80,.v (.slice ((D.f 3).A) ((D.f 3).l) ((D.f 3).c))),(81,.v (.int .i64 ((k3_:Nat):Int))),(74,.p 2 15)])
   refine qaD [5,6] [(0,.p 0 0),(2,.p 1 0),(3,.p 3 0),(46,.v (.int .i64 (((D.f 3).l:Nat):Int))),(47,.v (.int .i64 ((k3_:Nat):Int))),(71,.v (.slice (some ⟨aa,0,none⟩) 4 4)),(76,.v (.slice A3_ k3_ c3_)),(80,.v (.slice ((D.f 3).A) ((D.f 3).l) ((D.f 3).c))),(81,.v (.int .i64 ((k3_:Nat):Int)))] 7 (qac (qaa (qaa (qac (qaa qad))))) (fun _ h=>h.cells) bO eu fun jr ev=>?_
   obtain ⟨ew,ey,ez,ii,dK⟩:=Slots.get g4 (i:=k3_) (by omega)
   refine qaJ ev (i:=12) (t:=106) (A:=(D.f 3).A) (m:=((D.f 3).l)) (q:=((k3_:Nat):Int)) (d:=82) kz (e:=114) (size:=3) (bytes:=48) kz ez rfl (by omega) kz kz (qac (qaa (qaa (qac (qaa qad))))) bO fun js eB=>?_
   refine qan (i:=13) kz (qak eB (f:=79) (vs:=[.pointer (some ⟨ew,ey + k3_ * 3,none⟩)]) (d:=83) kz Tryz.call79 (qbj 0 ((D.f 3).f k3_) _ _ _ _ (dK.move ar.step nilM ar.imm) (qaV _ ar.step nilM ar.imm (g4e k3_ (by omega)))) ?_)
   rintro e_ jt ⟨ij,rfl,eC,cH⟩
   have cI:=eC.move (Step.refl _ Nil) nilM (ar.laid (G:=F) cH)
   obtain ⟨bV,bW,bX,bY,bZ,b8,cd,ce,cm,cq,cr,ik,il,cJ,gQ,gR,ju,jv⟩:=cI.open_
   rw [cJ] at cI
   have gS:=gQ.small
   have gT:=gR.small
   rw [cJ]
   refine ⟨_,rfl,fun jw eD=>?_⟩
   have dh:=ar.next_nil cH
   have au:=ar.frN cH
   have eE:=TT.ofW au dh
   refine ⟨fun _=>eE,?_⟩
   refine qan (i:=14) kz (qbq dh eD (e:=37) (size:=5) (len:=1) (cs:=(z2 bV b8 bW.length cd bX ce bY.length cm cq bZ.length cr)) (d:=84) kz kz fun eF jx jy im io ai bP eG=>?_)
   have eH:=TT.ofW (au.trans ai) bP
   refine ⟨fun _=>eH,?_⟩
   refine qan (i:=15) kz (qaT bP eG (k:=0) (d:=85) (t:=34) (e:=37) (size:=5) (bytes:=88) (A:=A3_) (As:=(some ⟨eF,0,none⟩)) (m0:=k3_) (c:=c3_) (m:=1) (cs:=1) (xs:=xs3_) (news:=(z2 bV b8 bW.length cd bX ce bY.length cm cq bZ.length cr)) kz kz rfl (qbu (bP.own 1 _ rfl) (qbr kz)) (qbz (bP.own 1 _ rfl)) (by omega) fun cu cw jz jA av cK eI=>?_)
   have eJ:=TT.ofW ((au.trans ai).trans av) cK
   refine ⟨fun _=>eJ,?_⟩
   refine qan (i:=16) kz (qax eI (t:=34) (A:=(some ⟨aa,0,none⟩)) (m:=4) (q:=3) (d:=86) kz (e:=37) (size:=5) (bytes:=88) (j:=3) kz (b:=aa) (o:=0) rfl rfl (by decide) fun jB eK=>?_)
   have eL:=eK.recast 86 (.v (.pointer (some ⟨aa,0 + 3 * 5,none⟩))) (.p 2 15) rfl rfl (Nat.le_of_ble_eq_true (n:=3) rfl)
   have eM:=eL.pk (env':=[(0,.p 0 0),(2,.p 1 0),(3,.p 3 0),(46,.v (.int .i64 (((D.f 3).l:Nat):Int))),(47,.v (.int .i64 ((k3_:Nat):Int))),(71,.v (.slice (some ⟨aa,0,none⟩) 4 4)),(76,.v (.slice A3_ k3_ c3_)),(80,.v (.slice ((D.f 3).A) ((D.f 3).l) ((D.f 3).c))),(81,.v (.int .i64 ((k3_:Nat):Int))),(82,.v (.pointer (some ⟨ew,ey + k3_ * 3,none⟩))),(83,.v (.agg #[.int .i64 bV,.slice b8 bW.length cd,.bool bX,.slice ce bY.length cm,.slice cq bZ.length cr])),(84,.v (.slice (some ⟨eF,0,none⟩) 1 1)),(85,.v (.slice cu (k3_ + 1) cw)),(86,.p 2 15)])
   have di:=TT.ofW ((au.trans ai).trans av) cK
   refine ⟨fun _=>di,?_⟩
   refine qaD [17] [(0,.p 0 0),(2,.p 1 0),(3,.p 3 0),(46,.v (.int .i64 (((D.f 3).l:Nat):Int))),(47,.v (.int .i64 ((k3_:Nat):Int))),(85,.v (.slice cu (k3_ + 1) cw)),(87,.p 2 18)] 1 (qac (qaa (qaa (qac (qaa qad))))) (fun _ h=>h.cells) di eM fun jC eN=>?_
   refine qan (i:=18) kz (qap cK eN (oi:=2) (cs:=(z5 D aC aH aD.length aI aE aJ aF.length aK aL aG.length aM cu k3_ cw)) kz fun jD bA dj eO=>?_)
   refine ⟨fun h=>absurd rfl h,?_⟩
   refine qaC kz ?_ _
   refine qas (qab (qaq [0,1] kz ?_))
   refine qaj [0,1] [] [(0,.p 0 0),(2,.p 1 0),(3,.p 3 0),(46,.v (.int .i64 (((D.f 3).l:Nat):Int))),(47,.v (.int .i64 (IntKind.i64.wrap (((k3_:Nat):Int) + 1))))] dj eO fun jE eP=>?_
   refine qaf (qab ?_)
   obtain ⟨dl,eQ,bB⟩:=dj.cutB eP 4 [⟨b,o,(z15 v D),false⟩,⟨b6,0,z0,true⟩,⟨aa,0,(z5 D aC aH aD.length aI aE aJ aF.length aK aL aG.length aM cu k3_ cw),true⟩,⟨bw,0,(z7 aa),true⟩] [(0,.p 0 0),(2,.p 1 0),(3,.p 3 0),(46,.v (.int .i64 (((D.f 3).l:Nat):Int))),(47,.v (.int .i64 (IntKind.i64.wrap (((k3_:Nat):Int) + 1))))]
   obtain ⟨eR,bC⟩:=eQ.cutR 1 [⟨cu,cw,37,5,k3_ + 1,xs3_ ++ (z2 bV b8 bW.length cd bX ce bY.length cm cq bZ.length cr)⟩]
   have eS:IntKind.i64.wrap (((k3_:Nat):Int) + 1) = ((k3_ + 1:Nat):Int):=qaP (by omega)
   rw [eS] at dl
   exact ⟨(D.f 3).l - (k3_ + 1),by omega,k3_ + 1,cu,cw,xs3_ ++ [Value.int .i64 bV,.slice b8 bW.length cd,.bool bX,.slice ce bY.length cm,.slice cq bZ.length cr],(css3_ ++ [[Value.int .i64 bV,.slice b8 bW.length cd,.bool bX,.slice ce bY.length cm,.slice cq bZ.length cr]]),rfl,by omega,by rw [qbO (by omega)]; exact (hT3_.move ((((((((((ag.trans ab).trans aN).trans bz).trans cG).trans au).trans ai).trans av).trans bA).trans bB).trans bC).step immM ((((((((((ag.trans ab).trans aN).trans bz).trans cG).trans au).trans ai).trans av).trans bA).trans bB).trans bC).to').snoc (x:=(fun i=>qaO ((D.f 3).f i)) k3_) (cI.move ((((ai.trans av).trans bA).trans bB).trans bC).step immM ((((ai.trans av).trans bA).trans bB).trans bC).to'),dl.pk,eR,(((((((((((bx.trans ag).trans ab).trans aN).trans bz).trans cG).trans au).trans ai).trans av).trans bA).trans bB).trans bC)⟩
  refine (qap cE de (oi:=4) (cs:=[.bool false]) kz fun jF ah dp eU=>?_)
  have eV:=TT.ofW (ab.trans ah) dp
  refine ⟨fun _=>eV,?_⟩
  refine qan (i:=1) kz (qap dp eU (oi:=4) (cs:=[.bool true]) kz fun jG aj bQ eW=>?_)
  have eX:=TT.ofW ((ab.trans ah).trans aj) bQ
  refine ⟨fun _=>eX,?_⟩
  refine qan (i:=3) kz (qbd [0,2,3,4,46,47,51] bQ.cells eW (env':=[(0,.p 0 0),(2,.p 1 0),(3,.p 3 0),(4,.v (.int .i64 ((k3_:Nat):Int))),(46,.v (.int .i64 (((D.f 3).l:Nat):Int))),(47,.v (.int .i64 ((k3_:Nat):Int))),(51,.v (.bool true))]) kz fun jH dq=>?_)
  have eY:=TT.ofW ((ab.trans ah).trans aj) bQ
  refine ⟨fun _=>eY,?_⟩
  refine qaC kz ?_ _
  refine qab (qa4 dq (b:=true) kz rfl ?_)
  refine qaE 17 kz bQ fun jI aO ak bR=>?_
  refine qaD [0,1,5,6,7,8,9] [(0,.p 0 0),(2,.p 1 0),(3,.p 3 0),(46,.v (.int .i64 (((D.f 3).l:Nat):Int))),(47,.v (.int .i64 ((k3_:Nat):Int))),(53,.v (.slice (some ⟨aa,0,none⟩) 4 4)),(60,.v (.slice ((D.f 3).A) ((D.f 3).l) ((D.f 3).c))),(61,.v (.int .i64 ((k3_:Nat):Int)))] 11 (qaa (qac (qaa (qaa (qac (qaa qad)))))) (fun _ h=>h.cells) bR dq fun jJ eZ=>?_
  refine qaJ eZ (i:=2) (t:=34) (A:=(some ⟨aa,0,none⟩)) (m:=4) (q:=3) (d:=54) kz (e:=37) (size:=5) (bytes:=88) (j:=3) kz (b:=aa) (o:=0) rfl rfl (by decide) kz kz (qaa (qac (qaa (qaa (qac (qaa qad)))))) bR fun jK e9=>?_
  have fa:=e9.recast 54 (.v (.pointer (some ⟨aa,0 + 3 * 5,none⟩))) (.p 2 15) rfl rfl (Nat.le_of_ble_eq_true (n:=3) rfl)
  have fb:=fa.pk (env':=[(0,.p 0 0),(2,.p 1 0),(3,.p 3 0),(46,.v (.int .i64 (((D.f 3).l:Nat):Int))),(47,.v (.int .i64 ((k3_:Nat):Int))),(53,.v (.slice (some ⟨aa,0,none⟩) 4 4)),(60,.v (.slice ((D.f 3).A) ((D.f 3).l) ((D.f 3).c))),(61,.v (.int .i64 ((k3_:Nat):Int))),(54,.p 2 15)])
  refine qaD [3,4,12] [(0,.p 0 0),(2,.p 1 0),(3,.p 3 0),(46,.v (.int .i64 (((D.f 3).l:Nat):Int))),(47,.v (.int .i64 ((k3_:Nat):Int))),(53,.v (.slice (some ⟨aa,0,none⟩) 4 4)),(56,.v (.slice A3_ k3_ c3_)),(60,.v (.slice ((D.f 3).A) ((D.f 3).l) ((D.f 3).c))),(61,.v (.int .i64 ((k3_:Nat):Int))),(64,.v (.int .i64 ((k3_:Nat):Int)))] 7 (qaa (qac (qaa (qaa (qac (qaa qad)))))) (fun _ h=>h.cells) bR fb fun jL fe=>?_
  obtain ⟨cW,cX,ff,ip,cL⟩:=Slots.get g4 (i:=k3_) (by omega)
  refine qaJ fe (i:=10) (t:=106) (A:=(D.f 3).A) (m:=((D.f 3).l)) (q:=((k3_:Nat):Int)) (d:=62) kz (e:=114) (size:=3) (bytes:=48) kz ff rfl (by omega) kz kz (qaa (qac (qaa (qaa (qac (qaa qad)))))) bR fun jM dr=>?_
  refine qc7 (i:=11) (j:=13) kz ?_ ?_
  ·
   refine (qak dr (f:=79) (vs:=[.pointer (some ⟨cW,cX + k3_ * 3,none⟩)]) (d:=63) kz Tryz.call79 (qbj 0 ((D.f 3).f k3_) _ _ _ _ (cL.move ak.step nilM ak.imm) (qaV _ ak.step nilM ak.imm (g4e k3_ (by omega)))) ?_)
   rintro e_ jN ⟨iq,rfl,fg,cM⟩
   have cN:=fg.move (Step.refl _ Nil) nilM (ak.laid (G:=F) cM)
   obtain ⟨aS,aT,aU,aV,aW,aX,aY,aZ,ba,bd,bf,ir,iu,cO,gU,gV,jO,jP⟩:=cN.open_
   rw [cO] at cN
   have gW:=gU.small
   have gX:=gV.small
   rw [cO]
   refine ⟨_,rfl,fun jQ fh=>?_⟩
   have dt:=ak.next_nil cM
   have aw:=ak.frN cM
   have fi:=TT.ofW aw dt
   refine ⟨fun _=>fi,?_⟩
   refine qan (i:=13) kz (qbq dt fh (e:=37) (size:=5) (len:=1) (cs:=z0) (d:=65) kz kz fun dL jR jS iv iw al bS fj=>?_)
   have fk:=TT.ofW (aw.trans al) bS
   refine ⟨fun _=>fk,?_⟩
   refine qan (i:=14) kz (qaT bS fj (k:=0) (d:=66) (t:=34) (e:=37) (size:=5) (bytes:=88) (A:=A3_) (As:=(some ⟨dL,0,none⟩)) (m0:=k3_) (c:=c3_) (m:=1) (cs:=1) (xs:=xs3_) (news:=z0) kz kz rfl (qbu (bS.own 1 _ rfl) (qbr kz)) (qbz (bS.own 1 _ rfl)) (by omega) fun ao ax jT jU ay cP fm=>?_)
   have fo:=TT.ofW ((aw.trans al).trans ay) cP
   refine ⟨fun _=>fo,?_⟩
   refine qan (i:=15) kz (qax fm (t:=34) (A:=(some ⟨aa,0,none⟩)) (m:=4) (q:=3) (d:=67) kz (e:=37) (size:=5) (bytes:=88) (j:=3) kz (b:=aa) (o:=0) rfl rfl (by decide) fun jV fq=>?_)
   have fr:=fq.recast 67 (.v (.pointer (some ⟨aa,0 + 3 * 5,none⟩))) (.p 2 15) rfl rfl (Nat.le_of_ble_eq_true (n:=3) rfl)
   have ft:=fr.pk (env':=[(0,.p 0 0),(2,.p 1 0),(3,.p 3 0),(46,.v (.int .i64 (((D.f 3).l:Nat):Int))),(47,.v (.int .i64 ((k3_:Nat):Int))),(53,.v (.slice (some ⟨aa,0,none⟩) 4 4)),(56,.v (.slice A3_ k3_ c3_)),(60,.v (.slice ((D.f 3).A) ((D.f 3).l) ((D.f 3).c))),(61,.v (.int .i64 ((k3_:Nat):Int))),(64,.v (.int .i64 ((k3_:Nat):Int))),(62,.v (.pointer (some ⟨cW,cX + k3_ * 3,none⟩))),(63,.v (.agg #[.int .i64 aS,.slice aX aT.length aY,.bool aU,.slice aZ aV.length ba,.slice bd aW.length bf])),(65,.v (.slice (some ⟨dL,0,none⟩) 1 1)),(66,.v (.slice ao (k3_ + 1) ax)),(67,.p 2 15)])
   have du:=TT.ofW ((aw.trans al).trans ay) cP
   refine ⟨fun _=>du,?_⟩
   refine qaD [16] [(0,.p 0 0),(2,.p 1 0),(3,.p 3 0),(46,.v (.int .i64 (((D.f 3).l:Nat):Int))),(47,.v (.int .i64 ((k3_:Nat):Int))),(63,.v (.agg #[.int .i64 aS,.slice aX aT.length aY,.bool aU,.slice aZ aV.length ba,.slice bd aW.length bf])),(64,.v (.int .i64 ((k3_:Nat):Int))),(66,.v (.slice ao (k3_ + 1) ax)),(68,.p 2 18)] 1 (qaa (qac (qaa (qaa (qac (qaa qad)))))) (fun _ h=>h.cells) du ft fun jW fu=>?_
   refine qan (i:=17) kz (qap cP fu (oi:=2) (cs:=(z5 D aC aH aD.length aI aE aJ aF.length aK aL aG.length aM ao k3_ ax)) kz fun gY bD dv fv=>?_)
   refine ⟨fun h=>absurd rfl h,?_⟩
   refine qaC kz ?_ _
   refine qab (qaq [0,1] kz ?_)
   have fw:World.ownsRow gY 0 37 5 (.slice ao (k3_ + 1) ax) (k3_ + 1) (xs3_ ++ z0):=dv.own 0 _ rfl
   obtain ⟨fx,dw⟩:=qbS fw (by omega)
   refine qal (qax fv (t:=34) (A:=ao) (m:=(k3_ + 1)) (q:=((k3_:Nat):Int)) (d:=69) kz (e:=37) (size:=5) (bytes:=88) kz (b:=fx) (o:=0) (j:=k3_) dw (rfl) (by omega) fun jX fy=>?_)
   refine qal (qbK dv fy (k:=0) (g:=fx) (o:=k3_ * 5) (c:=ax) (m:=(k3_ + 1)) (size:=5) (e:=37) (A:=ao) (xs:=(xs3_ ++ [.int .i64 0,.slice none 0 0,.bool false,.slice none 0 0,.slice none 0 0])) (vs:=[.int .i64 aS,.slice aX aT.length aY,.bool aU,.slice aZ aV.length ba,.slice bd aW.length bf]) kz rfl dw (by simp only [List.length_cons,List.length_nil]; omega) fun jY bE fz fA=>?_)
   have fB:(⟨ao,ax,37,5,k3_ + 1,qbn (xs3_ ++ [.int .i64 0,.slice none 0 0,.bool false,.slice none 0 0,.slice none 0 0]) (k3_ * 5) [.int .i64 aS,.slice aX aT.length aY,.bool aU,.slice aZ aV.length ba,.slice bd aW.length bf]⟩:Rw) = ⟨ao,ax,37,5,k3_ + 1,xs3_ ++ [.int .i64 aS,.slice aX aT.length aY,.bool aU,.slice aZ aV.length ba,.slice bd aW.length bf]⟩:=by rw [qcx (by rw [hT3_.xslen,List.length_take,qbC]; omega)]
   obtain ⟨dx,bF⟩:=fz.rowEq 0 [⟨ao,ax,37,5,k3_ + 1,xs3_ ++ (z2 aS aX aT.length aY aU aZ aV.length ba bd aW.length bf)⟩,⟨some ⟨dL,0,none⟩,1,37,5,1,z0⟩] fB
   refine qaf (qas (qab (qaq [0,1] kz ?_)))
   refine qaj [0,1] [] [(0,.p 0 0),(2,.p 1 0),(3,.p 3 0),(46,.v (.int .i64 (((D.f 3).l:Nat):Int))),(47,.v (.int .i64 (IntKind.i64.wrap (((k3_:Nat):Int) + 1))))] dx fA fun jZ fC=>?_
   refine qaf (qab ?_)
   obtain ⟨dy,fD,bG⟩:=dx.cutB fC 4 [⟨b,o,(z15 v D),false⟩,⟨b6,0,z0,true⟩,⟨aa,0,(z5 D aC aH aD.length aI aE aJ aF.length aK aL aG.length aM ao k3_ ax),true⟩,⟨bw,0,(z7 aa),true⟩] [(0,.p 0 0),(2,.p 1 0),(3,.p 3 0),(46,.v (.int .i64 (((D.f 3).l:Nat):Int))),(47,.v (.int .i64 (IntKind.i64.wrap (((k3_:Nat):Int) + 1))))]
   obtain ⟨fE,bH⟩:=fD.cutR 1 [⟨ao,ax,37,5,k3_ + 1,xs3_ ++ (z2 aS aX aT.length aY aU aZ aV.length ba bd aW.length bf)⟩]
   have fF:IntKind.i64.wrap (((k3_:Nat):Int) + 1) = ((k3_ + 1:Nat):Int):=qaP (by omega)
   rw [fF] at dy
   exact ⟨(D.f 3).l - (k3_ + 1),by omega,k3_ + 1,ao,ax,xs3_ ++ [Value.int .i64 aS,.slice aX aT.length aY,.bool aU,.slice aZ aV.length ba,.slice bd aW.length bf],(css3_ ++ [[Value.int .i64 aS,.slice aX aT.length aY,.bool aU,.slice aZ aV.length ba,.slice bd aW.length bf]]),rfl,by omega,by rw [qbO (by omega)]; exact (hT3_.move ((((((((((((ag.trans ab).trans ah).trans aj).trans aO).trans aw).trans al).trans ay).trans bD).trans bE).trans bF).trans bG).trans bH).step immM ((((((((((((ag.trans ab).trans ah).trans aj).trans aO).trans aw).trans al).trans ay).trans bD).trans bE).trans bF).trans bG).trans bH).to').snoc (x:=(fun i=>qaO ((D.f 3).f i)) k3_) (cN.move ((((((al.trans ay).trans bD).trans bE).trans bF).trans bG).trans bH).step immM ((((((al.trans ay).trans bD).trans bE).trans bF).trans bG).trans bH).to'),dy.pk,fE,(((((((((((((bx.trans ag).trans ab).trans ah).trans aj).trans aO).trans aw).trans al).trans ay).trans bD).trans bE).trans bF).trans bG).trans bH)⟩
  refine (qbq ak dr (e:=37) (size:=5) (len:=1) (cs:=z0) (d:=65) kz kz fun dM j0 j1 ix iy az am fG=>?_)
  have fH:=TT.ofW az am
  refine ⟨fun _=>fH,?_⟩
  refine qan (i:=11) kz (qak fG (f:=79) (vs:=[.pointer (some ⟨cW,cX + k3_ * 3,none⟩)]) (d:=63) kz Tryz.call79 (qbj 0 ((D.f 3).f k3_) _ _ _ _ (cL.move am.step nilM am.imm) (qaV _ am.step nilM am.imm (g4e k3_ (by omega)))) ?_)
  rintro e_ j2 ⟨iz,rfl,fI,cQ⟩
  have cR:=fI.move (Step.refl _ Nil) nilM (am.laid (G:=F) cQ)
  obtain ⟨bg,bh,bi,bj,bk,bn,bo,bp,bq,bt,bu,iA,iB,cS,gZ,g6,j3,j4⟩:=cR.open_
  rw [cS] at cR
  have g7:=gZ.small
  have g8:=g6.small
  rw [cS]
  refine ⟨_,rfl,fun j5 fJ=>?_⟩
  have bT:=am.next_nil cQ
  have aP:=am.frN cQ
  have fK:=TT.ofW (az.trans aP) bT
  refine ⟨fun _=>fK,?_⟩
  refine qan (i:=14) kz (qaT bT fJ (k:=0) (d:=66) (t:=34) (e:=37) (size:=5) (bytes:=88) (A:=A3_) (As:=(some ⟨dM,0,none⟩)) (m0:=k3_) (c:=c3_) (m:=1) (cs:=1) (xs:=xs3_) (news:=z0) kz kz rfl (qbu (bT.own 1 _ rfl) (qbr kz)) (qbz (bT.own 1 _ rfl)) (by omega) fun ap aA j6 j7 aB cT fL=>?_)
  have fM:=TT.ofW ((az.trans aP).trans aB) cT
  refine ⟨fun _=>fM,?_⟩
  refine qan (i:=15) kz (qax fL (t:=34) (A:=(some ⟨aa,0,none⟩)) (m:=4) (q:=3) (d:=67) kz (e:=37) (size:=5) (bytes:=88) (j:=3) kz (b:=aa) (o:=0) rfl rfl (by decide) fun j8 fN=>?_)
  have fO:=fN.recast 67 (.v (.pointer (some ⟨aa,0 + 3 * 5,none⟩))) (.p 2 15) rfl rfl (Nat.le_of_ble_eq_true (n:=3) rfl)
  have fP:=fO.pk (env':=[(0,.p 0 0),(2,.p 1 0),(3,.p 3 0),(46,.v (.int .i64 (((D.f 3).l:Nat):Int))),(47,.v (.int .i64 ((k3_:Nat):Int))),(53,.v (.slice (some ⟨aa,0,none⟩) 4 4)),(56,.v (.slice A3_ k3_ c3_)),(60,.v (.slice ((D.f 3).A) ((D.f 3).l) ((D.f 3).c))),(61,.v (.int .i64 ((k3_:Nat):Int))),(64,.v (.int .i64 ((k3_:Nat):Int))),(62,.v (.pointer (some ⟨cW,cX + k3_ * 3,none⟩))),(65,.v (.slice (some ⟨dM,0,none⟩) 1 1)),(63,.v (.agg #[.int .i64 bg,.slice bn bh.length bo,.bool bi,.slice bp bj.length bq,.slice bt bk.length bu])),(66,.v (.slice ap (k3_ + 1) aA)),(67,.p 2 15)])
  have dz:=TT.ofW ((az.trans aP).trans aB) cT
  refine ⟨fun _=>dz,?_⟩
  refine qaD [16] [(0,.p 0 0),(2,.p 1 0),(3,.p 3 0),(46,.v (.int .i64 (((D.f 3).l:Nat):Int))),(47,.v (.int .i64 ((k3_:Nat):Int))),(63,.v (.agg #[.int .i64 bg,.slice bn bh.length bo,.bool bi,.slice bp bj.length bq,.slice bt bk.length bu])),(64,.v (.int .i64 ((k3_:Nat):Int))),(66,.v (.slice ap (k3_ + 1) aA)),(68,.p 2 18)] 1 (qaa (qac (qaa (qaa (qac (qaa qad)))))) (fun _ h=>h.cells) dz fP fun j9 fQ=>?_
  refine qan (i:=17) kz (qap cT fQ (oi:=2) (cs:=(z5 D aC aH aD.length aI aE aJ aF.length aK aL aG.length aM ap k3_ aA)) kz fun g9 bI dA fR=>?_)
  refine ⟨fun h=>absurd rfl h,?_⟩
  refine qaC kz ?_ _
  refine qab (qaq [0,1] kz ?_)
  have fS:World.ownsRow g9 0 37 5 (.slice ap (k3_ + 1) aA) (k3_ + 1) (xs3_ ++ z0):=dA.own 0 _ rfl
  obtain ⟨fT,dB⟩:=qbS fS (by omega)
  refine qal (qax fR (t:=34) (A:=ap) (m:=(k3_ + 1)) (q:=((k3_:Nat):Int)) (d:=69) kz (e:=37) (size:=5) (bytes:=88) kz (b:=fT) (o:=0) (j:=k3_) dB (rfl) (by omega) fun ka fU=>?_)
  refine qal (qbK dA fU (k:=0) (g:=fT) (o:=k3_ * 5) (c:=aA) (m:=(k3_ + 1)) (size:=5) (e:=37) (A:=ap) (xs:=(xs3_ ++ [.int .i64 0,.slice none 0 0,.bool false,.slice none 0 0,.slice none 0 0])) (vs:=[.int .i64 bg,.slice bn bh.length bo,.bool bi,.slice bp bj.length bq,.slice bt bk.length bu]) kz rfl dB (by simp only [List.length_cons,List.length_nil]; omega) fun kd bJ fV fW=>?_)
  have fX:(⟨ap,aA,37,5,k3_ + 1,qbn (xs3_ ++ [.int .i64 0,.slice none 0 0,.bool false,.slice none 0 0,.slice none 0 0]) (k3_ * 5) [.int .i64 bg,.slice bn bh.length bo,.bool bi,.slice bp bj.length bq,.slice bt bk.length bu]⟩:Rw) = ⟨ap,aA,37,5,k3_ + 1,xs3_ ++ [.int .i64 bg,.slice bn bh.length bo,.bool bi,.slice bp bj.length bq,.slice bt bk.length bu]⟩:=by rw [qcx (by rw [hT3_.xslen,List.length_take,qbC]; omega)]
  obtain ⟨dC,bK⟩:=fV.rowEq 0 [⟨ap,aA,37,5,k3_ + 1,xs3_ ++ (z2 bg bn bh.length bo bi bp bj.length bq bt bk.length bu)⟩,⟨some ⟨dM,0,none⟩,1,37,5,1,z0⟩] fX
  refine qaf (qas (qab (qaq [0,1] kz ?_)))
  refine qaj [0,1] [] [(0,.p 0 0),(2,.p 1 0),(3,.p 3 0),(46,.v (.int .i64 (((D.f 3).l:Nat):Int))),(47,.v (.int .i64 (IntKind.i64.wrap (((k3_:Nat):Int) + 1))))] dC fW fun ke fY=>?_
  refine qaf (qab ?_)
  obtain ⟨dD,fZ,bL⟩:=dC.cutB fY 4 [⟨b,o,(z15 v D),false⟩,⟨b6,0,z0,true⟩,⟨aa,0,(z5 D aC aH aD.length aI aE aJ aF.length aK aL aG.length aM ap k3_ aA),true⟩,⟨bw,0,(z7 aa),true⟩] [(0,.p 0 0),(2,.p 1 0),(3,.p 3 0),(46,.v (.int .i64 (((D.f 3).l:Nat):Int))),(47,.v (.int .i64 (IntKind.i64.wrap (((k3_:Nat):Int) + 1))))]
  obtain ⟨f5,bM⟩:=fZ.cutR 1 [⟨ap,aA,37,5,k3_ + 1,xs3_ ++ (z2 bg bn bh.length bo bi bp bj.length bq bt bk.length bu)⟩]
  have f7:IntKind.i64.wrap (((k3_:Nat):Int) + 1) = ((k3_ + 1:Nat):Int):=qaP (by omega)
  rw [f7] at dD
  exact ⟨(D.f 3).l - (k3_ + 1),by omega,k3_ + 1,ap,aA,xs3_ ++ [Value.int .i64 bg,.slice bn bh.length bo,.bool bi,.slice bp bj.length bq,.slice bt bk.length bu],(css3_ ++ [[Value.int .i64 bg,.slice bn bh.length bo,.bool bi,.slice bp bj.length bq,.slice bt bk.length bu]]),rfl,by omega,by rw [qbO (by omega)]; exact (hT3_.move ((((((((((((ag.trans ab).trans ah).trans aj).trans aO).trans az).trans aP).trans aB).trans bI).trans bJ).trans bK).trans bL).trans bM).step immM ((((((((((((ag.trans ab).trans ah).trans aj).trans aO).trans az).trans aP).trans aB).trans bI).trans bJ).trans bK).trans bL).trans bM).to').snoc (x:=(fun i=>qaO ((D.f 3).f i)) k3_) (cR.move (((((aB.trans bI).trans bJ).trans bK).trans bL).trans bM).step immM (((((aB.trans bI).trans bJ).trans bK).trans bL).trans bM).to'),dD.pk,f5,(((((((((((((bx.trans ag).trans ab).trans ah).trans aj).trans aO).trans az).trans aP).trans aB).trans bI).trans bJ).trans bK).trans bL).trans bM)⟩
 have iC:=of_decide_eq_false cD
 refine wp_exit (qau (qau (qaL (qab (qae [0,1,2,3,4] kz ?_)))))
 refine qaj [0,1,2] [3,4] [(2,.p 1 0),(3,.p 3 0),(91,.p 0 5)] af cC fun kf f8=>?_
 refine qal (qfb f8 (v:=.func (.func 80) #[] #[.pointer (some ⟨bw,0,none⟩)]) (d:=92) kz fun kg f9=>?_)
 refine qal (qak f9 (f:=64) (vs:=[.pointer (some ⟨b,o + 5,none⟩),.func (.func 80) #[] #[.pointer (some ⟨bw,0,none⟩)]]) (d:=93) kz Tryz.call64 (qfK (F:=(Imm F w gP [⟨b,o,(z15 v D),false⟩,⟨b6,0,z0,true⟩,⟨aa,0,(z53 D aC aH aD.length aI aE aJ aF.length aK aL aG.length aM A3_ k3_ c3_),true⟩,⟨bw,0,(z7 aa),true⟩] [⟨A3_,c3_,37,5,k3_,xs3_⟩])) Tryz.call80 qcj ((hat.one 5 rfl).move af.step nilM af.imm) (g5.move af.step nilM af.imm) (Str.of af 3 rfl) (qkb 3 rfl) g5l) ?_)
 rintro e_ kh ⟨rfl,ac,ae,dN,ga,gb⟩
 obtain ⟨cU,bU,gc⟩:=af.wrote 3 [⟨b,o,(z15 v D),false⟩,⟨b6,0,z0,true⟩,⟨aa,0,(z53 D aC aH aD.length aI aE aJ aF.length aK aL aG.length aM A3_ k3_ c3_),true⟩,⟨bw,0,(z45 aa ac D ae),true⟩] rfl gb dN
 have dE:=ga.move (Step.refl _ Nil) nilM (fun b_ o_ h_ hb_=>gc (G:=F) b_ o_ (.inr h_) hb_)
 refine ⟨_,rfl,fun ki gd=>?_⟩
 have ge:=(EnvOk.places (tb':=[⟨b,o,[.int .i16 v,.int .i32 ((D.f 0).n),.int .i16 ((D.f 1).n),.pointer ((D.f 2).A),.slice ((D.f 3).A) ((D.f 3).l) ((D.f 3).c),.map D.m],false⟩,⟨b6,0,[.int .i64 0,.slice none 0 0,.bool false,.slice none 0 0,.slice none 0 0],true⟩,⟨aa,0,[.int .i64 (IntKind.i64.wrap ((D.f 0).n)),.slice none 0 0,.bool false,.slice none 0 0,.slice none 0 0,.int .i64 (IntKind.i64.wrap ((D.f 1).n)),.slice none 0 0,.bool false,.slice none 0 0,.slice none 0 0,.int .i64 aC,.slice aH aD.length aI,.bool aE,.slice aJ aF.length aK,.slice aL aG.length aM,.int .i64 0,.slice none 0 0,.bool (((D.f 3).A).isNone),.slice A3_ k3_ c3_,.slice none 0 0],true⟩,⟨bw,0,[.int .i64 0,.slice none 0 0,.bool false,.slice (some ⟨aa,0,none⟩) 4 4,.slice ac D.u.length ae],true⟩]) gd (show Pl [⟨b,o,[.int .i16 v,.int .i32 ((D.f 0).n),.int .i16 ((D.f 1).n),.pointer ((D.f 2).A),.slice ((D.f 3).A) ((D.f 3).l) ((D.f 3).c),.map D.m],false⟩,⟨b6,0,[.int .i64 0,.slice none 0 0,.bool false,.slice none 0 0,.slice none 0 0],true⟩,⟨aa,0,[.int .i64 (IntKind.i64.wrap ((D.f 0).n)),.slice none 0 0,.bool false,.slice none 0 0,.slice none 0 0,.int .i64 (IntKind.i64.wrap ((D.f 1).n)),.slice none 0 0,.bool false,.slice none 0 0,.slice none 0 0,.int .i64 aC,.slice aH aD.length aI,.bool aE,.slice aJ aF.length aK,.slice aL aG.length aM,.int .i64 0,.slice none 0 0,.bool (((D.f 3).A).isNone),.slice A3_ k3_ c3_,.slice none 0 0],true⟩,⟨bw,0,[.int .i64 0,.slice none 0 0,.bool false,.slice (some ⟨aa,0,none⟩) 4 4,.slice none 0 0],true⟩] [⟨b,o,[.int .i16 v,.int .i32 ((D.f 0).n),.int .i16 ((D.f 1).n),.pointer ((D.f 2).A),.slice ((D.f 3).A) ((D.f 3).l) ((D.f 3).c),.map D.m],false⟩,⟨b6,0,[.int .i64 0,.slice none 0 0,.bool false,.slice none 0 0,.slice none 0 0],true⟩,⟨aa,0,[.int .i64 (IntKind.i64.wrap ((D.f 0).n)),.slice none 0 0,.bool false,.slice none 0 0,.slice none 0 0,.int .i64 (IntKind.i64.wrap ((D.f 1).n)),.slice none 0 0,.bool false,.slice none 0 0,.slice none 0 0,.int .i64 aC,.slice aH aD.length aI,.bool aE,.slice aJ aF.length aK,.slice aL aG.length aM,.int .i64 0,.slice none 0 0,.bool (((D.f 3).A).isNone),.slice A3_ k3_ c3_,.slice none 0 0],true⟩,⟨bw,0,[.int .i64 0,.slice none 0 0,.bool false,.slice (some ⟨aa,0,none⟩) 4 4,.slice ac D.u.length ae],true⟩] from ⟨rfl,rfl,⟨rfl,rfl,⟨rfl,rfl,⟨rfl,rfl,trivial⟩⟩⟩⟩)).pk (env':=[(93,.v (.tuple #[])),(2,.p 1 0),(3,.p 3 0),(91,.p 0 5),(92,.v (.func (.func 80) #[] #[.pointer (some ⟨bw,0,none⟩)]))])
 refine qaf (qab ?_)
 refine qae [0,1,2] kz ?_
 refine qaj [0,1] [2] [(2,.p 1 0),(3,.p 3 0),(95,.v (.slice ac D.u.length ae))] cU ge fun kj gg=>?_
 refine qal (qak gg (f:=66) (vs:=[.slice ac D.u.length ae]) (d:=96) kz Tryz.call66 (qhy dE g5.sorted) ?_)
 rintro e_ km ⟨rfl,dF⟩
 refine ⟨_,rfl,fun ko gh=>?_⟩
 have dG:=cU.next_nil dF
 have aQ:=cU.frN dF
 refine qaf (qab ?_)
 refine qae [0,1] kz ?_
 refine qaj [0] [1] [(2,.p 1 0),(97,.v (.agg #[.int .i64 0,.slice none 0 0,.bool false,.slice (some ⟨aa,0,none⟩) 4 4,.slice ac D.u.length ae]))] dG gh fun kp gi=>?_
 refine qal (qap dG gi (oi:=1) (cs:=(z45 aa ac D ae)) kz fun cY aR cV gj=>?_)
 refine qaf (qab ?_)
 refine wp_ret (qaM gj cV.cells (v:=.agg #[.int .i64 0,.slice none 0 0,.bool false,.slice (some ⟨aa,0,none⟩) 4 4,.slice ac D.u.length ae]) kz ?_)
 have dH:=(hT3_.move ((bU.trans aQ).trans aR).step immM ((bU.trans aQ).trans aR).to')
 rw [qeE (by omega)] at dH
 exact qgv (u:=D.u) (l:=[.mk (IntKind.i64.wrap (D.f 0).n) [] false [] [],.mk (IntKind.i64.wrap (D.f 1).n) [] false [] [],qiu (D.f 2).A (D.f 2).s,.mk 0 [] (D.f 3).A.isNone ((List.range (D.f 3).l).map fun i=>qaO ((D.f 3).f i)) []]) (css:=[[.int .i64 (IntKind.i64.wrap ((D.f 0).n)),.slice none 0 0,.bool false,.slice none 0 0,.slice none 0 0],[.int .i64 (IntKind.i64.wrap ((D.f 1).n)),.slice none 0 0,.bool false,.slice none 0 0,.slice none 0 0],[.int .i64 aC,.slice aH aD.length aI,.bool aE,.slice aJ aF.length aK,.slice aL aG.length aM],[.int .i64 0,.slice none 0 0,.bool (((D.f 3).A).isNone),.slice A3_ k3_ c3_,.slice none 0 0]]) cV 2 rfl ⟨(show TreeR _ (Imm F w cY [⟨b,o,[.int .i16 v,.int .i32 ((D.f 0).n),.int .i16 ((D.f 1).n),.pointer ((D.f 2).A),.slice ((D.f 3).A) ((D.f 3).l) ((D.f 3).c),.map D.m],false⟩,⟨b6,0,[.int .i64 0,.slice none 0 0,.bool false,.slice (some ⟨aa,0,none⟩) 4 4,.slice ac D.u.length ae],true⟩,⟨aa,0,[.int .i64 (IntKind.i64.wrap ((D.f 0).n)),.slice none 0 0,.bool false,.slice none 0 0,.slice none 0 0,.int .i64 (IntKind.i64.wrap ((D.f 1).n)),.slice none 0 0,.bool false,.slice none 0 0,.slice none 0 0,.int .i64 aC,.slice aH aD.length aI,.bool aE,.slice aJ aF.length aK,.slice aL aG.length aM,.int .i64 0,.slice none 0 0,.bool (((D.f 3).A).isNone),.slice A3_ k3_ c3_,.slice none 0 0],true⟩,⟨bw,0,[.int .i64 0,.slice none 0 0,.bool false,.slice (some ⟨aa,0,none⟩) 4 4,.slice ac D.u.length ae],true⟩] [⟨A3_,c3_,37,5,k3_,xs3_⟩]) _ _ from (TreeR.mk (n:=IntKind.i64.wrap ((D.f 0).n)) (b:=false) (s:=[]) (l:=[]) (u:=[]) (fun _=>[]) (Octs.nil _ _) (Slots.nil _ _ _ _) (fun i_ x_ h_=>by simp at h_) (TagsR.nil _ _))).move (Step.refl _ Nil) nilM qb8,(show TreeR _ (Imm F w cY [⟨b,o,[.int .i16 v,.int .i32 ((D.f 0).n),.int .i16 ((D.f 1).n),.pointer ((D.f 2).A),.slice ((D.f 3).A) ((D.f 3).l) ((D.f 3).c),.map D.m],false⟩,⟨b6,0,[.int .i64 0,.slice none 0 0,.bool false,.slice (some ⟨aa,0,none⟩) 4 4,.slice ac D.u.length ae],true⟩,⟨aa,0,[.int .i64 (IntKind.i64.wrap ((D.f 0).n)),.slice none 0 0,.bool false,.slice none 0 0,.slice none 0 0,.int .i64 (IntKind.i64.wrap ((D.f 1).n)),.slice none 0 0,.bool false,.slice none 0 0,.slice none 0 0,.int .i64 aC,.slice aH aD.length aI,.bool aE,.slice aJ aF.length aK,.slice aL aG.length aM,.int .i64 0,.slice none 0 0,.bool (((D.f 3).A).isNone),.slice A3_ k3_ c3_,.slice none 0 0],true⟩,⟨bw,0,[.int .i64 0,.slice none 0 0,.bool false,.slice (some ⟨aa,0,none⟩) 4 4,.slice ac D.u.length ae],true⟩] [⟨A3_,c3_,37,5,k3_,xs3_⟩]) _ _ from (TreeR.mk (n:=IntKind.i64.wrap ((D.f 1).n)) (b:=false) (s:=[]) (l:=[]) (u:=[]) (fun _=>[]) (Octs.nil _ _) (Slots.nil _ _ _ _) (fun i_ x_ h_=>by simp at h_) (TagsR.nil _ _))).move (Step.refl _ Nil) nilM qb8,(show TreeR _ (Imm F w cY [⟨b,o,[.int .i16 v,.int .i32 ((D.f 0).n),.int .i16 ((D.f 1).n),.pointer ((D.f 2).A),.slice ((D.f 3).A) ((D.f 3).l) ((D.f 3).c),.map D.m],false⟩,⟨b6,0,[.int .i64 0,.slice none 0 0,.bool false,.slice (some ⟨aa,0,none⟩) 4 4,.slice ac D.u.length ae],true⟩,⟨aa,0,[.int .i64 (IntKind.i64.wrap ((D.f 0).n)),.slice none 0 0,.bool false,.slice none 0 0,.slice none 0 0,.int .i64 (IntKind.i64.wrap ((D.f 1).n)),.slice none 0 0,.bool false,.slice none 0 0,.slice none 0 0,.int .i64 aC,.slice aH aD.length aI,.bool aE,.slice aJ aF.length aK,.slice aL aG.length aM,.int .i64 0,.slice none 0 0,.bool (((D.f 3).A).isNone),.slice A3_ k3_ c3_,.slice none 0 0],true⟩,⟨bw,0,[.int .i64 0,.slice none 0 0,.bool false,.slice (some ⟨aa,0,none⟩) 4 4,.slice ac D.u.length ae],true⟩] [⟨A3_,c3_,37,5,k3_,xs3_⟩]) _ _ from (dJ.move (((((((c5.trans c6).trans da).trans dc).trans bx).trans bU).trans aQ).trans aR).step immM (((((((c5.trans c6).trans da).trans dc).trans bx).trans bU).trans aQ).trans aR).to')).move (Step.refl _ Nil) nilM qb8,qdG cV (k:=0) rfl dH (by rw [qbC]; omega) (by rw [qbC]; omega),trivial⟩ ((show TagsR _ (Imm F w cY [⟨b,o,[.int .i16 v,.int .i32 ((D.f 0).n),.int .i16 ((D.f 1).n),.pointer ((D.f 2).A),.slice ((D.f 3).A) ((D.f 3).l) ((D.f 3).c),.map D.m],false⟩,⟨b6,0,[.int .i64 0,.slice none 0 0,.bool false,.slice (some ⟨aa,0,none⟩) 4 4,.slice ac D.u.length ae],true⟩,⟨aa,0,[.int .i64 (IntKind.i64.wrap ((D.f 0).n)),.slice none 0 0,.bool false,.slice none 0 0,.slice none 0 0,.int .i64 (IntKind.i64.wrap ((D.f 1).n)),.slice none 0 0,.bool false,.slice none 0 0,.slice none 0 0,.int .i64 aC,.slice aH aD.length aI,.bool aE,.slice aJ aF.length aK,.slice aL aG.length aM,.int .i64 0,.slice none 0 0,.bool (((D.f 3).A).isNone),.slice A3_ k3_ c3_,.slice none 0 0],true⟩,⟨bw,0,[.int .i64 0,.slice none 0 0,.bool false,.slice (some ⟨aa,0,none⟩) 4 4,.slice ac D.u.length ae],true⟩] [⟨A3_,c3_,37,5,k3_,xs3_⟩]) _ _ _ from (dE.move (aQ.trans aR).step immM (aQ.trans aR).to')).move (Step.refl _ Nil) nilM qb8)
theorem qkI {t:Tree} (h:t.i64s) (i:Nat):(t.at_ i).i64s:=by
 cases t with
 | mk n s b l u =>
  have h1:∀ x ∈ l,x.i64s:=qfw h.2
  show (l.getD i .zero).i64s
  rw [List.getD_eq_getElem?_getD]
  cases hx:l[i]? with
  | none=>exact ⟨by decide,trivial⟩
  | some x=>exact h1 x (List.mem_of_getElem? hx)
theorem qhb {t x:Tree} (h:t.i64s) {i:Nat} (hx:(qao t.L)[i]? = some x):x.i64s:=by
 cases t with
 | mk n s b l u =>
  have h1:∀ x ∈ l,x.i64s:=qfw h.2
  exact h1 x (List.mem_of_mem_take (List.mem_of_getElem? hx))
theorem qcM {k x1 x2 x3 x5 x6 v:Int} {s:List Fld} {flex:Bool} {x:Tree}:Fld.pres (.mk k x1 x2 x3 (-1) x5 x6 s) v flex x = (decide (x1 ≤ v) && (decide (x2 < 0) || decide (v ≤ x2))):=by simp [Fld.pres,Fld.tag,Fld.has]
section
variable {T:List Fld → Tree → Tree → Prop} {U:List Fld → Tree → Prop} {v k x1 x2 x3 x4 x5 x6 n:Int} {sub:List Fld} {x T':Tree} {A:Option Addr} {s:ByteArray} {o:Bs} {b:Bool}
theorem qgC (hn:n = qbv k x.N) (hk:k < 7:=by decide):ToF0 T v (.mk k x1 x2 (-1) x4 x5 x6 sub) x (.mk n [] false [] []):=by
 cases x
 exact ⟨fun h=>by omega,fun _ h=>by omega,fun _ h=>by omega,fun _ h=>by omega,fun _ _ _ _ _ _=>hn⟩
theorem qjL (hn:n = qbv k x.N) (hk:k < 7:=by decide):ToF T v (.mk k x1 x2 (-1) x4 x5 x6 sub) x (.mk n [] false [] []):=⟨qgC hn hk,fun h=>absurd (show k = 11 from h) (by omega)⟩
theorem qki (hs:o = qaI x.S):ToF0 T v (.mk 8 x1 x2 (-1) x4 x5 x6 sub) x (.mk 0 o false [] []):=by
 cases x with
 | mk a1 a2 a3 a4 a5 =>
  exact ⟨fun _=>nul_no.symm,fun _ _=>hs,fun _ h=>by omega,fun _ h=>by omega,fun _ _ h=>absurd rfl h⟩
theorem qle (h:s = bs T'.S) (h1:T'.S = qaI x.S):ToF T v (.mk 8 x1 x2 (-1) x4 x5 x6 sub) x (.mk 0 (sb s) false [] []) :=
 ⟨qki (by rw [h,qlu,h1]),fun h=>absurd (show (8:Int) = 11 from h) (by decide)⟩
theorem qkj (h:s = bs (qcN T') ∧ A.isNone = T'.null) (h1:qcN T' = (if Fld.nul (.mk 8 x1 x2 x3 x4 x5 x6 sub) v x = true then [] else qaI x.S) ∧ T'.null = Fld.nul (.mk 8 x1 x2 x3 x4 x5 x6 sub) v x):ToF T v (.mk 8 x1 x2 x3 x4 x5 x6 sub) x (qiu A s):=by
 refine ⟨?_,fun h=>absurd (show (8:Int) = 11 from h) (by decide)⟩
 have e:qiu A s = .mk 0 (if Fld.nul (.mk 8 x1 x2 x3 x4 x5 x6 sub) v x = true then [] else qaI x.S) (Fld.nul (.mk 8 x1 x2 x3 x4 x5 x6 sub) v x) [] []:=by
  unfold qiu
  rw [h.2,h1.2,h.1,qlu,h1.1]
  split <;> rfl
 rw [e]
 cases x with
 | mk a1 a2 a3 a4 a5 =>
  exact ⟨fun _=>rfl,fun hn _=>by rw [if_neg (by rw [hn]; decide)]; rfl,fun _ h=>by omega,fun _ h=>by omega,fun _ _ h=>absurd rfl h⟩
theorem qh0 {g:Tree} (hg:g.null = false) (h:T sub x g):ToF0 T v (.mk 10 x1 x2 (-1) x4 x5 x6 sub) x g:=by
 cases x with
 | mk a1 a2 a3 a4 a5 =>
  cases g with
  | mk g1 g2 g3 g4 g5 =>
   exact ⟨fun _=>by rw [nul_no]; exact hg,fun _ h=>by omega,fun _ h=>by omega,fun _ _=>h,fun _ _ _ _ h=>absurd rfl h⟩
theorem qfM {l:Nat} {g:Nat → Tree} {W:Tree → Tree} (hb:x3 ≥ 0 ∧ v ≥ x3 → b = Fld.nul (.mk 11 x1 x2 x3 x4 x5 x6 sub) v x) (hl:l = (lst T').length) (hlst:lst T' = (if Fld.nul (.mk 11 x1 x2 x3 (-1) x5 x6 sub) v x = true then [] else qao x.L).map W)
  (he:∀ i y,i < l → (lst T').getD i .zero = W y → (qao x.L)[i]? = some y → ToF0 T v (.mk x6 x1 x2 (-1) (-1) x5 x6 sub) y (g i)):ToF T v (.mk 11 x1 x2 x3 x4 x5 x6 sub) x (.mk 0 [] b ((List.range l).map g) []):=by
 have hn:Fld.nul (.mk 11 x1 x2 x3 (-1) x5 x6 sub) v x = Fld.nul (.mk 11 x1 x2 x3 x4 x5 x6 sub) v x:=by cases x; rfl
 refine ⟨?_,fun _ hnn=>?_⟩
 ·cases x with
  | mk a1 a2 a3 a4 a5 =>
   refine ⟨fun h=>hb ?_,fun _ h=>by omega,fun _ h=>by omega,fun _ h=>by omega,fun _ _ _ _ _ h=>absurd rfl h⟩
   rcases h with h | h | h
   ·omega
   ·omega
   exact h
 rw [hn,hnn,if_neg (by decide)] at hlst
 have hll:l = (qao x.L).length:=by rw [hl,hlst,List.length_map]
 refine ⟨by show ((List.range l).map g).length = _; rw [List.length_map,List.length_range,hll],fun i y z hy hz=>?_⟩
 have hi:i < l:=by rw [hll]; exact (List.getElem?_eq_some_iff.1 hy).1
 have hz':((List.range l).map g)[i]? = some z:=hz
 rw [List.getElem?_map,List.getElem?_range hi] at hz'
 obtain rfl:=Option.some.inj hz'
 refine he i y hi ?_ hy
 rw [hlst,List.getD_eq_getElem?_getD,List.getElem?_map,hy]
 rfl
end
theorem qbJ (v:Int) (h0:0 ≤ v) (t Y:Tree) (hY:∀ i,Y.at_ i = (fitT v 6 [(Fld.mk 3 0 (-1) (-1) (-1) 0 0 []),(Fld.mk 11 0 (-1) (-1) (-1) 0 3 []),(Fld.mk 11 0 (-1) (-1) (-1) 0 3 []),(Fld.mk 11 0 (-1) (-1) (-1) 0 3 [])] t).at_ i) (hU:Y.U = (fitT v 6 [(Fld.mk 3 0 (-1) (-1) (-1) 0 0 []),(Fld.mk 11 0 (-1) (-1) (-1) 0 3 []),(Fld.mk 11 0 (-1) (-1) (-1) 0 3 []),(Fld.mk 11 0 (-1) (-1) (-1) 0 3 [])] t).U) (hi:t.i64s) (D:DV) (h:qaR v D Y):qiy v (decide (v ≥ qah)) 6 [(Fld.mk 3 0 (-1) (-1) (-1) 0 0 []),(Fld.mk 11 0 (-1) (-1) (-1) 0 3 []),(Fld.mk 11 0 (-1) (-1) (-1) 0 3 []),(Fld.mk 11 0 (-1) (-1) (-1) 0 3 [])] t (qaG D):=by
 unfold qaR at h
 obtain ⟨r0,r1,r2,r3,rU,_⟩:=h
 refine ⟨rfl,fun i f y hf hy=>?_,?_⟩
 ·match i,hf,hy with
  | 0,hf,hy =>
   obtain rfl:=Option.some.inj hf
   obtain rfl:=Option.some.inj hy
   have e:=hY 0
   refine ⟨fun hp=>?_,fun hp=>?_⟩
   ·have hc:True:=trivial
    have r:=r0
    rw [e] at r
    rw [(qim (v:=v) (d:=5) (t:=t) (show [(Fld.mk 3 0 (-1) (-1) (-1) 0 0 []),(Fld.mk 11 0 (-1) (-1) (-1) 0 3 []),(Fld.mk 11 0 (-1) (-1) (-1) 0 3 []),(Fld.mk 11 0 (-1) (-1) (-1) 0 3 [])][0]? = _ from rfl) (by decide))] at r
    exact qjL (by rw [r,qdH]; rfl)
   rw [qcM] at hp; simp at hp; omega
  | 1,hf,hy =>
   obtain rfl:=Option.some.inj hf
   obtain rfl:=Option.some.inj hy
   have e:=hY 1
   refine ⟨fun hp=>?_,fun hp=>?_⟩
   ·have hc:True:=trivial
    have r:=r1
    rw [e] at r
    obtain ⟨fn_,fl⟩:=qds (v:=v) (d:=5) (t:=t) (show [(Fld.mk 3 0 (-1) (-1) (-1) 0 0 []),(Fld.mk 11 0 (-1) (-1) (-1) 0 3 []),(Fld.mk 11 0 (-1) (-1) (-1) 0 3 []),(Fld.mk 11 0 (-1) (-1) (-1) 0 3 [])][1]? = _ from rfl)
    refine qfM (fun h_=>absurd h_.1 (by decide)) r.1 fl fun i_ y_ hi_ hg_ hy_=>?_
    have q:=r.2 i_ hi_
    rw [hg_] at q
    exact qgC (by rw [q,qdH]; cases y_; simp [qbD,Fld.kind,Tree.N,qbv])
   rw [qcM] at hp; simp at hp; omega
  | 2,hf,hy =>
   obtain rfl:=Option.some.inj hf
   obtain rfl:=Option.some.inj hy
   have e:=hY 2
   refine ⟨fun hp=>?_,fun hp=>?_⟩
   ·have hc:True:=trivial
    have r:=r2
    rw [e] at r
    obtain ⟨fn_,fl⟩:=qds (v:=v) (d:=5) (t:=t) (show [(Fld.mk 3 0 (-1) (-1) (-1) 0 0 []),(Fld.mk 11 0 (-1) (-1) (-1) 0 3 []),(Fld.mk 11 0 (-1) (-1) (-1) 0 3 []),(Fld.mk 11 0 (-1) (-1) (-1) 0 3 [])][2]? = _ from rfl)
    refine qfM (fun h_=>absurd h_.1 (by decide)) r.1 fl fun i_ y_ hi_ hg_ hy_=>?_
    have q:=r.2 i_ hi_
    rw [hg_] at q
    exact qgC (by rw [q,qdH]; cases y_; simp [qbD,Fld.kind,Tree.N,qbv])
   rw [qcM] at hp; simp at hp; omega
  | 3,hf,hy =>
   obtain rfl:=Option.some.inj hf
   obtain rfl:=Option.some.inj hy
   have e:=hY 3
   refine ⟨fun hp=>?_,fun hp=>?_⟩
   ·have hc:True:=trivial
    have r:=r3
    rw [e] at r
    obtain ⟨fn_,fl⟩:=qds (v:=v) (d:=5) (t:=t) (show [(Fld.mk 3 0 (-1) (-1) (-1) 0 0 []),(Fld.mk 11 0 (-1) (-1) (-1) 0 3 []),(Fld.mk 11 0 (-1) (-1) (-1) 0 3 []),(Fld.mk 11 0 (-1) (-1) (-1) 0 3 [])][3]? = _ from rfl)
    refine qfM (fun h_=>absurd h_.1 (by decide)) r.1 fl fun i_ y_ hi_ hg_ hy_=>?_
    have q:=r.2 i_ hi_
    rw [hg_] at q
    exact qgC (by rw [q,qdH]; cases y_; simp [qbD,Fld.kind,Tree.N,qbv])
   rw [qcM] at hp; simp at hp; omega
  | n_ + 4,hf,hy=>exact absurd (List.getElem?_eq_some_iff.1 hf).1 (by show ¬ n_ + 4 < 4; omega)
 show D.u = if (decide (v ≥ qah)) = true then qcD (qai [(Fld.mk 3 0 (-1) (-1) (-1) 0 0 []),(Fld.mk 11 0 (-1) (-1) (-1) 0 3 []),(Fld.mk 11 0 (-1) (-1) (-1) 0 3 []),(Fld.mk 11 0 (-1) (-1) (-1) 0 3 [])] t.U) else []
 by_cases hc:(decide (v ≥ 0)) = true
 ·rw [if_pos (show (decide (v ≥ qah)) = true from hc),rU.1 hc,hU,qho]
 rw [if_neg (show ¬ (decide (v ≥ qah)) = true from hc),rU.2 (by simpa using hc)]
theorem qb2 (v:Int) (h0:0 ≤ v) (t Y:Tree) (hY:∀ i,Y.at_ i = (fitT v 7 [(Fld.mk 8 0 (-1) (-1) (-1) 0 0 []),(Fld.mk 11 0 (-1) (-1) (-1) 0 10 [(Fld.mk 3 0 (-1) (-1) (-1) 0 0 []),(Fld.mk 11 0 (-1) (-1) (-1) 0 3 []),(Fld.mk 11 0 (-1) (-1) (-1) 0 3 []),(Fld.mk 11 0 (-1) (-1) (-1) 0 3 [])])] t).at_ i) (hU:Y.U = (fitT v 7 [(Fld.mk 8 0 (-1) (-1) (-1) 0 0 []),(Fld.mk 11 0 (-1) (-1) (-1) 0 10 [(Fld.mk 3 0 (-1) (-1) (-1) 0 0 []),(Fld.mk 11 0 (-1) (-1) (-1) 0 3 []),(Fld.mk 11 0 (-1) (-1) (-1) 0 3 []),(Fld.mk 11 0 (-1) (-1) (-1) 0 3 [])])] t).U) (hi:t.i64s) (D:DV) (h:qaY v D Y):qiy v (decide (v ≥ qah)) 7 [(Fld.mk 8 0 (-1) (-1) (-1) 0 0 []),(Fld.mk 11 0 (-1) (-1) (-1) 0 10 [(Fld.mk 3 0 (-1) (-1) (-1) 0 0 []),(Fld.mk 11 0 (-1) (-1) (-1) 0 3 []),(Fld.mk 11 0 (-1) (-1) (-1) 0 3 []),(Fld.mk 11 0 (-1) (-1) (-1) 0 3 [])])] t (qaO D):=by
 unfold qaY at h
 obtain ⟨r0,r1,rU,_⟩:=h
 refine ⟨rfl,fun i f y hf hy=>?_,?_⟩
 ·match i,hf,hy with
  | 0,hf,hy =>
   obtain rfl:=Option.some.inj hf
   obtain rfl:=Option.some.inj hy
   have e:=hY 0
   refine ⟨fun hp=>?_,fun hp=>?_⟩
   ·have hc:True:=trivial
    have r:=r0
    rw [e] at r
    exact qle r (qk1 (v:=v) (d:=6) (t:=t) (show [(Fld.mk 8 0 (-1) (-1) (-1) 0 0 []),(Fld.mk 11 0 (-1) (-1) (-1) 0 10 [(Fld.mk 3 0 (-1) (-1) (-1) 0 0 []),(Fld.mk 11 0 (-1) (-1) (-1) 0 3 []),(Fld.mk 11 0 (-1) (-1) (-1) 0 3 []),(Fld.mk 11 0 (-1) (-1) (-1) 0 3 [])])][0]? = _ from rfl) (by decide))
   rw [qcM] at hp; simp at hp; omega
  | 1,hf,hy =>
   obtain rfl:=Option.some.inj hf
   obtain rfl:=Option.some.inj hy
   have e:=hY 1
   refine ⟨fun hp=>?_,fun hp=>?_⟩
   ·have hc:True:=trivial
    have r:=r1
    rw [e] at r
    obtain ⟨fn_,fl⟩:=qds (v:=v) (d:=6) (t:=t) (show [(Fld.mk 8 0 (-1) (-1) (-1) 0 0 []),(Fld.mk 11 0 (-1) (-1) (-1) 0 10 [(Fld.mk 3 0 (-1) (-1) (-1) 0 0 []),(Fld.mk 11 0 (-1) (-1) (-1) 0 3 []),(Fld.mk 11 0 (-1) (-1) (-1) 0 3 []),(Fld.mk 11 0 (-1) (-1) (-1) 0 3 [])])][1]? = _ from rfl)
    refine qfM (fun h_=>absurd h_.1 (by decide)) r.1 fl fun i_ y_ hi_ hg_ hy_=>?_
    have q:=r.2 i_ hi_
    rw [hg_] at q
    exact qh0 rfl (qbJ v h0 y_ _ (fun i=>fit_10.1 i) fit_10.2 (qhb (qkI hi 1) hy_) _ q)
   rw [qcM] at hp; simp at hp; omega
  | n_ + 2,hf,hy=>exact absurd (List.getElem?_eq_some_iff.1 hf).1 (by show ¬ n_ + 2 < 2; omega)
 show D.u = if (decide (v ≥ qah)) = true then qcD (qai [(Fld.mk 8 0 (-1) (-1) (-1) 0 0 []),(Fld.mk 11 0 (-1) (-1) (-1) 0 10 [(Fld.mk 3 0 (-1) (-1) (-1) 0 0 []),(Fld.mk 11 0 (-1) (-1) (-1) 0 3 []),(Fld.mk 11 0 (-1) (-1) (-1) 0 3 []),(Fld.mk 11 0 (-1) (-1) (-1) 0 3 [])])] t.U) else []
 by_cases hc:(decide (v ≥ 0)) = true
 ·rw [if_pos (show (decide (v ≥ qah)) = true from hc),rU.1 hc,hU,qho]
 rw [if_neg (show ¬ (decide (v ≥ qah)) = true from hc),rU.2 (by simpa using hc)]
theorem qci (v:Int) (h0:0 ≤ v) (t Y:Tree) (hY:∀ i,Y.at_ i = (fitT v 8 sListPartitionReassignmentsResponseF t).at_ i) (hU:Y.U = (fitT v 8 sListPartitionReassignmentsResponseF t).U) (hi:t.i64s) (D:DV) (h:qaZ v D Y):qiy v (decide (v ≥ qah)) 8 sListPartitionReassignmentsResponseF t (qa0 D):=by
 unfold qaZ at h
 obtain ⟨r0,r1,r2,r3,rU,_⟩:=h
 refine ⟨rfl,fun i f y hf hy=>?_,?_⟩
 ·match i,hf,hy with
  | 0,hf,hy =>
   obtain rfl:=Option.some.inj hf
   obtain rfl:=Option.some.inj hy
   have e:=hY 0
   refine ⟨fun hp=>?_,fun hp=>?_⟩
   ·have hc:True:=trivial
    have r:=r0
    rw [e] at r
    rw [(qim (v:=v) (d:=7) (t:=t) (show sListPartitionReassignmentsResponseF[0]? = _ from rfl) (by decide))] at r
    exact qjL (by rw [r,qdH]; rfl)
   rw [qcM] at hp; simp at hp; omega
  | 1,hf,hy =>
   obtain rfl:=Option.some.inj hf
   obtain rfl:=Option.some.inj hy
   have e:=hY 1
   refine ⟨fun hp=>?_,fun hp=>?_⟩
   ·have hc:True:=trivial
    have r:=r1
    rw [e] at r
    rw [(qim (v:=v) (d:=7) (t:=t) (show sListPartitionReassignmentsResponseF[1]? = _ from rfl) (by decide))] at r
    exact qjL (by rw [r,qfL]; rfl)
   rw [qcM] at hp; simp at hp; omega
  | 2,hf,hy =>
   obtain rfl:=Option.some.inj hf
   obtain rfl:=Option.some.inj hy
   have e:=hY 2
   refine ⟨fun hp=>?_,fun hp=>?_⟩
   ·have hc:True:=trivial
    have r:=r2
    rw [e] at r
    exact qkj r (qk0 (v:=v) (d:=7) (t:=t) (show sListPartitionReassignmentsResponseF[2]? = _ from rfl) (by decide))
   rw [qcM] at hp; simp at hp; omega
  | 3,hf,hy =>
   obtain rfl:=Option.some.inj hf
   obtain rfl:=Option.some.inj hy
   have e:=hY 3
   refine ⟨fun hp=>?_,fun hp=>?_⟩
   ·have hc:True:=trivial
    have r:=r3
    rw [e] at r
    obtain ⟨fn_,fl⟩:=qds (v:=v) (d:=7) (t:=t) (show sListPartitionReassignmentsResponseF[3]? = _ from rfl)
    refine qfM (fun h_=>absurd h_.1 (by decide)) r.1 fl fun i_ y_ hi_ hg_ hy_=>?_
    have q:=r.2 i_ hi_
    rw [hg_] at q
    exact qh0 rfl (qb2 v h0 y_ _ (fun i=>fit_10.1 i) fit_10.2 (qhb (qkI hi 3) hy_) _ q)
   rw [qcM] at hp; simp at hp; omega
  | n_ + 4,hf,hy=>exact absurd (List.getElem?_eq_some_iff.1 hf).1 (by show ¬ n_ + 4 < 4; omega)
 show D.u = if (decide (v ≥ qah)) = true then qcD (qai sListPartitionReassignmentsResponseF t.U) else []
 by_cases hc:(decide (v ≥ 0)) = true
 ·rw [if_pos (show (decide (v ≥ qah)) = true from hc),rU.1 hc,hU,qho]
 rw [if_neg (show ¬ (decide (v ≥ qah)) = true from hc),rU.2 (by simpa using hc)]
abbrev z23 :=([.int .i16 0,.int .i32 0,.int .i16 0,.pointer none,.slice none 0 0,.map none]:List Value)
abbrev z63 (x0) (x1:DV):=([.int .i16 (IntKind.i16.wrap x0),.int .i32 ((x1.f 0).n),.int .i16 ((x1.f 1).n),.pointer ((x1.f 2).A),.slice ((x1.f 3).A) ((x1.f 3).l) ((x1.f 3).c),.map x1.m]:List Value)
abbrev z59 (x0) (x1) (x2) (x3:DV):=([⟨x0,0,z0,true⟩,⟨x1,0,[.int .i16 (IntKind.i16.wrap x2),.int .i32 ((x3.f 0).n),.int .i16 ((x3.f 1).n),.pointer ((x3.f 2).A),.slice ((x3.f 3).A) ((x3.f 3).l) ((x3.f 3).c),.map x3.m],true⟩]:Tb)
set_option maxHeartbeats 4000000 in
theorem qcp (v:Int) (T:Tree) {A2:Option Addr} {c2:Nat} {w:World} {F:Nat → Nat → Prop} (hs_:Octs w F A2 c2 (qag (IntKind.i16.wrap v) T)) (hc:qaW T) (hkey:T.ranged) (hroom:(qag (IntKind.i16.wrap v) T).length + 16 ≤ 1099511627776) :
  Calls Tryz.prog 18 #[.int .i64 v,.slice A2 (qag (IntKind.i16.wrap v) T).length c2] w (fun e w'=>∃ D cs,e = .returned (.tuple #[.agg cs.toArray,.bool true]) ∧ TreeR w' (Fp NoF w) cs (qa0 D) ∧ qaZ (IntKind.i16.wrap v) D T ∧ Step w w' Nil):=by
 refine enter (n:=20) Tryz.func18 rfl Tryz.ntmps18 kz fun a hE=>?_
 have hW:=WOk.start w Nil
 have hsm2:=Slots.small hs_
 refine qae [0,1] kz ?_
 refine qal (qaS hW hE (d:=4) (cs:=z0) kz fun b1 a2 w3 hb4 hz5 hF6 hW7 hE8=>?_)
 refine qaj [1] [] [(0,.v (.int .i64 v)),(1,.v (.slice A2 ((qag (IntKind.i16.wrap v) T).length) c2)),(4,.p 0 0)] hW7 hE8 fun a9 aT=>?_
 refine qaf (qab ?_)
 refine qae [0,1] kz ?_
 refine qal (qbQ aT (f:=41) (vs:=[]) (d:=7) (n':=3) kz Tryz.call41 Tryz.func41 rfl Tryz.ntmps41 kz fun cI aU=>?_)
 refine qar [] hW7 aU fun cJ aV=>?_
 refine qae [0] kz ?_
 refine qal (qaS hW7 aV (d:=1) (cs:=z23) kz fun ab cK cL ce cm cq ac aW=>?_)
 refine qaf (qab ?_)
 refine qae [0] kz ?_
 refine qal (qbQ aW (f:=75) (vs:=[.pointer (some ⟨ab,0,none⟩)]) (d:=2) (n':=2) kz Tryz.call75 Tryz.func75 rfl Tryz.ntmps75 kz fun cM aX=>?_)
 have aY:=aX.recast 0 (.v (.pointer (some ⟨ab,0,none⟩))) (.p 1 0) rfl rfl (Nat.le_of_ble_eq_true (n:=2) rfl)
 refine wp_skip (qbT aY ac.cells (v:=.tuple #[]) kz ?_)
 refine ⟨_,rfl,fun cN aZ=>?_⟩
 have ba:EnvOk 3 [⟨b1,0,z0,true⟩,⟨ab,0,z23,true⟩] [(2,.v (.tuple #[])),(1,.p 1 0)] _:=aZ.places (⟨rfl,rfl,⟨rfl,rfl,trivial⟩⟩)
 refine qaf (qab ?_)
 refine qar [(0,.p 1 0)] ac ba fun cO bd=>?_
 refine wp_ret (qaM bd ac.cells (v:=.pointer (some ⟨ab,0,none⟩)) kz ?_)
 refine ⟨_,rfl,fun cP bf=>?_⟩
 have bg:EnvOk 20 [⟨b1,0,z0,true⟩,⟨ab,0,z23,true⟩] [(7,.v (.pointer (some ⟨ab,0,none⟩))),(0,.v (.int .i64 v)),(1,.v (.slice A2 ((qag (IntKind.i16.wrap v) T).length) c2)),(4,.p 0 0)] _:=bf.places (⟨rfl,rfl,trivial⟩)
 have bh:=bg.recast 7 (.v (.pointer (some ⟨ab,0,none⟩))) (.p 1 0) rfl rfl (Nat.le_of_ble_eq_true (n:=2) rfl)
 have bi:=bh.pick (ks:=[0,1,4,7]) (env':=[(0,.v (.int .i64 v)),(1,.v (.slice A2 ((qag (IntKind.i16.wrap v) T).length) c2)),(4,.p 0 0),(7,.p 1 0)]) kz
 refine qaj [1] [] [(0,.v (.int .i64 v)),(1,.v (.slice A2 ((qag (IntKind.i16.wrap v) T).length) c2)),(4,.p 0 0),(6,.p 1 0)] ac bi fun cQ bj=>?_
 refine qaf (qab ?_)
 refine qae [0,1,2,3] kz ?_
 refine qaj [0,1,2] [3] [(1,.v (.slice A2 ((qag (IntKind.i16.wrap v) T).length) c2)),(4,.p 0 0),(6,.p 1 0),(8,.p 1 0),(10,.v (.int .i16 (IntKind.i16.wrap v)))] ac bj fun cR bk=>?_
 refine qal (qbQ bk (f:=44) (vs:=[.pointer (some ⟨ab,0,none⟩),.int .i16 (IntKind.i16.wrap v)]) (d:=11) (n':=8) kz Tryz.call44 Tryz.func44 rfl Tryz.ntmps44 kz fun cS bn=>?_)
 have bo:=bn.recast 0 (.v (.pointer (some ⟨ab,0,none⟩))) (.p 1 0) rfl rfl (Nat.le_of_ble_eq_true (n:=2) rfl)
 refine qaq [0,1,2,3,4] kz ?_
 refine qaj [0,1,2,3] [4] [(5,.v (.int .i16 (IntKind.i16.wrap v))),(7,.p 1 0)] ac bo fun cT bp=>?_
 refine qal (qap ac bp (oi:=1) (cs:=[.int .i16 (IntKind.i16.wrap v),.int .i32 0,.int .i16 0,.pointer none,.slice none 0 0,.map none]) kz fun cU cr ao bq=>?_)
 refine qaf (qbT bq ao.cells (v:=.tuple #[]) kz ?_)
 refine ⟨_,rfl,fun cV bt=>?_⟩
 have bu:EnvOk 20 [⟨b1,0,z0,true⟩,⟨ab,0,[.int .i16 (IntKind.i16.wrap v),.int .i32 0,.int .i16 0,.pointer none,.slice none 0 0,.map none],true⟩] [(11,.v (.tuple #[])),(1,.v (.slice A2 ((qag (IntKind.i16.wrap v) T).length) c2)),(4,.p 0 0),(6,.p 1 0),(8,.p 1 0),(10,.v (.int .i16 (IntKind.i16.wrap v)))] _:=bt.places (⟨rfl,rfl,⟨rfl,rfl,trivial⟩⟩)
 refine qaf (qab ?_)
 refine wp_seq (qae [0,1,2,3,4] kz ?_)
 refine qaj [0,1] [2,3,4] [(4,.p 0 0),(6,.p 1 0),(12,.p 1 0),(13,.v (.slice A2 ((qag (IntKind.i16.wrap v) T).length) c2))] ao bu fun cW bw=>?_
 have ah:=ao.addNil 5 1
 have cu:=ao.frNil 5 1
 refine qal (qaT ah bw (k:=0) (d:=14) (t:=22) (e:=5) (size:=1) (bytes:=1) (A:=none) (As:=A2) (m0:=0) (c:=0) (m:=((qag (IntKind.i16.wrap v) T).length)) (cs:=c2) (xs:=[]) (news:=bc (qag (IntKind.i16.wrap v) T)) kz kz rfl (hs_.move ah.step nilM ah.imm).src (hs_.move ah.step nilM ah.imm).cap (by first | omega | (simp only [List.length_nil]; omega) | (simp; omega)) fun af ag cX cY cw bx bz=>?_)
 have bA:(⟨af,ag,5,1,0 + (qag (IntKind.i16.wrap v) T).length,[] ++ bc (qag (IntKind.i16.wrap v) T)⟩:Rw) = brow af ag 5 (qag (IntKind.i16.wrap v) T):=by rw [List.nil_append,Nat.zero_add]
 obtain ⟨ap,cz⟩:=bx.rowEq 0 [brow af ag 5 (qag (IntKind.i16.wrap v) T)] bA
 have bB:=EnvOk.pick bz (ks:=[4,6,12,13,14]) (env':=[(4,.p 0 0),(6,.p 1 0),(12,.p 1 0),(13,.v (.slice A2 ((qag (IntKind.i16.wrap v) T).length) c2)),(14,.v (.slice af (0 + (qag (IntKind.i16.wrap v) T).length) ag))]) kz
 have bC:=bB.cast (env':=[(4,.p 0 0),(6,.p 1 0),(12,.p 1 0),(13,.v (.slice A2 ((qag (IntKind.i16.wrap v) T).length) c2)),(14,.v (.slice af ((qag (IntKind.i16.wrap v) T).length) ag))]) (by simp only [List.length_append,List.length_cons,List.length_nil,Nat.zero_add])
 refine qal (qbQ bC (f:=45) (vs:=[.pointer (some ⟨ab,0,none⟩),.slice af ((qag (IntKind.i16.wrap v) T).length) ag]) (d:=15) (n':=8) kz Tryz.call45 Tryz.func45 rfl Tryz.ntmps45 kz fun cZ bD=>?_)
 have bE:=bD.recast 0 (.v (.pointer (some ⟨ab,0,none⟩))) (.p 1 0) rfl rfl (Nat.le_of_ble_eq_true (n:=2) rfl)
 refine qar [(0,.p 1 0),(1,.v (.slice af ((qag (IntKind.i16.wrap v) T).length) ag))] ap bE fun c5 bF=>?_
 refine qae [0,1,2,3] kz ?_
 refine qaj [0,1] [2,3] [(5,.p 1 0),(6,.v (.slice af ((qag (IntKind.i16.wrap v) T).length) ag))] ap bF fun c6 bG=>?_
 have bH:=ap.giveUp (G:=NoF) 0 [] (show _ = some (brow af ag 5 (qag (IntKind.i16.wrap v) T)) from rfl) (by omega)
 obtain ⟨aH,cA⟩:=ap.cutR 0 []
 refine qal (qak bG (f:=77) (vs:=[.pointer (some ⟨ab,0,none⟩),.slice af ((qag (IntKind.i16.wrap v) T).length) ag,.bool false]) (d:=7) kz Tryz.call77 (qcn (IntKind.i16.wrap v) T (Str.of aH 1 rfl) bH (qkb 1 rfl) hc hkey) ?_)
 rintro e_ da ⟨aa,rfl,bI,bJ,bK,aI⟩
 obtain ⟨ae,cB,bL⟩:=aH.wrote 1 (z59 b1 ab v aa) rfl aI bI
 have bM:=qbI _ (Step.refl _ Nil) nilM bL bJ
 refine ⟨_,rfl,fun db bN=>?_⟩
 have bO:=(EnvOk.places (tb':=[⟨b1,0,[.int .i64 0,.slice none 0 0,.bool false,.slice none 0 0,.slice none 0 0],true⟩,⟨ab,0,[.int .i16 (IntKind.i16.wrap v),.int .i32 ((aa.f 0).n),.int .i16 ((aa.f 1).n),.pointer ((aa.f 2).A),.slice ((aa.f 3).A) ((aa.f 3).l) ((aa.f 3).c),.map aa.m],true⟩]) bN (show Pl [⟨b1,0,[.int .i64 0,.slice none 0 0,.bool false,.slice none 0 0,.slice none 0 0],true⟩,⟨ab,0,[.int .i16 (IntKind.i16.wrap v),.int .i32 0,.int .i16 0,.pointer none,.slice none 0 0,.map none],true⟩] [⟨b1,0,[.int .i64 0,.slice none 0 0,.bool false,.slice none 0 0,.slice none 0 0],true⟩,⟨ab,0,[.int .i16 (IntKind.i16.wrap v),.int .i32 ((aa.f 0).n),.int .i16 ((aa.f 1).n),.pointer ((aa.f 2).A),.slice ((aa.f 3).A) ((aa.f 3).l) ((aa.f 3).c),.map aa.m],true⟩] from ⟨rfl,rfl,⟨rfl,rfl,trivial⟩⟩)).pk (env':=[(7,.v (.nilIface)),(5,.p 1 0),(6,.v (.slice af ((qag (IntKind.i16.wrap v) T).length) ag))])
 refine qaj [3] [] [(4,.v (.nilIface))] ae bO fun dc bP=>?_
 refine qaf (qab ?_)
 refine wp_ret (qaM bP ae.cells (v:=.nilIface) kz ?_)
 refine ⟨_,rfl,fun de bQ=>?_⟩
 have bR:EnvOk 20 (z59 b1 ab v aa) [(15,.v (.nilIface)),(4,.p 0 0),(6,.p 1 0),(12,.p 1 0),(13,.v (.slice A2 ((qag (IntKind.i16.wrap v) T).length) c2)),(14,.v (.slice af ((qag (IntKind.i16.wrap v) T).length) ag))] _:=bQ.places (⟨rfl,rfl,⟨rfl,rfl,trivial⟩⟩)
 refine qaj [4] [] [(4,.p 0 0),(6,.p 1 0),(16,.v (.bool false))] ae bR fun df aJ=>?_
 refine qaf (qab ?_)
 refine qam aJ (b:=false) kz rfl ?_
 refine wp_skip (qab (qae [0,1,2,3] kz ?_))
 refine qaj [0] [1,2,3] [(4,.p 0 0),(18,.p 1 0)] ae aJ fun dg bS=>?_
 have aK:=bS.recast 18 (.p 1 0) (.v (.pointer (some ⟨ab,0,none⟩))) rfl rfl trivial
 have aL:=aK.pk (env':=[(4,.p 0 0),(18,.v (.pointer (some ⟨ab,0,none⟩)))])
 have av:=WOk.strOut (G:=NoF) [⟨b1,0,z0,true⟩] ae
 obtain ⟨aM,ai,ar⟩:=ae.cutB aL 1 [⟨b1,0,z0,true⟩] [(4,.p 0 0),(18,.v (.pointer (some ⟨ab,0,none⟩)))]
 have aN:=qbI _ ar.step immM ar.to' bM
 refine qal (qak aM (f:=46) (vs:=[.pointer (some ⟨ab,0,none⟩)]) (d:=19) kz Tryz.call46 (qco (IntKind.i16.wrap v) aa ab 0 _ _ av aN) ?_)
 rintro e_ cC ⟨bY,rfl,aO,aj⟩
 have ak:=aO.move (Step.refl _ Nil) nilM (ai.laid (G:=NoF) aj)
 obtain ⟨aw,ax,ay,az,aA,aB,aC,aD,aE,aF,aG,bZ,b8,al,bT,bU,cD,cE⟩:=ak.open_
 rw [al] at ak
 have bV:=bT.small
 have bW:=bU.small
 rw [al]
 refine ⟨_,rfl,fun cG aP=>?_⟩
 have aQ:=ai.next_nil aj
 have cd:=ai.frN aj
 refine qal (qap aQ aP (oi:=0) (cs:=(z2 aw aB ax.length aC ay aD az.length aE aF aA.length aG)) kz fun bX au am aR=>?_)
 refine qaj [3] [] [(4,.p 0 0),(5,.v (.bool true))] am aR fun cH aS=>?_
 refine qaf (qab ?_)
 refine wp_ret (qaM aS am.cells (v:=.tuple #[.agg #[.int .i64 aw,.slice aB ax.length aC,.bool ay,.slice aD az.length aE,.slice aF aA.length aG],.bool true]) kz ?_)
 exact ⟨aa,_,rfl,(show TreeR _ (Imm NoF w bX [⟨b1,0,[.int .i64 aw,.slice aB ax.length aC,.bool ay,.slice aD az.length aE,.slice aF aA.length aG],true⟩] []) _ (qa0 aa) from (ak.move au.step immM au.to')).move (Step.refl _ Nil) nilM qb8,bK,am.step⟩
theorem qck (v:Int) (T:Tree) (B:Bs) {A2:Option Addr} {c2:Nat} {w:World} {F:Nat → Nat → Prop} (hB:qag (IntKind.i16.wrap v) T = B) (hs_:Octs w F A2 c2 B) (hc:qaW T) (hkey:T.ranged) (hroom:B.length + 16 ≤ 1099511627776) :
  Calls Tryz.prog 18 #[.int .i64 v,.slice A2 B.length c2] w (fun e w'=>∃ D cs,e = .returned (.tuple #[.agg cs.toArray,.bool true]) ∧ TreeR w' (Fp NoF w) cs (qa0 D) ∧ qaZ (IntKind.i16.wrap v) D T ∧ Step w w' Nil):=by
 subst hB
 exact qcp v T hs_ hc hkey hroom
end Go.Proofs.YtfljkhecngpcmaaGreatDoor.ME