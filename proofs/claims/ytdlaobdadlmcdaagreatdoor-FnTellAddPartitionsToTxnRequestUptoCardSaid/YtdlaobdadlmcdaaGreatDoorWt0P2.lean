/- The texts of a claim, put together: the engine, the contracts, the law. Own work. -/
import Derived.Test.YtdlaobdadlmcdaaGreatDoorWt0P1
import Derived.Lib.EndianBits
import Derived.Scope
import Derived.Lib.AppendZeros
import Derived.Deep.LoopGhost
namespace Go.Proofs.YtdlaobdadlmcdaaGreatDoor.ME
open Go
open Go.RowKit
set_option linter.unusedVariables false
set_option linter.unusedSimpArgs false
set_option maxRecDepth 20000
abbrev z99 (x0) (x1) (x2) (x3) (x4) (x5) (x6) (x7) (x8) (x9) (x10) (x11):=([⟨x0,0,(z1 x1 x2 x3 x4 x5 x6 x7 x8 x9 x10 x11),true⟩]:Tb)
theorem qlA (W:Fld → Tree → Bs) (A:Option Addr) (c:Nat) (l:List Fld) (v:Int) (flex:Bool) (ct:List Value) (t:Tree) (w:World) (F:Nat → Nat → Prop) (hW_:∀ cf f ct t w F,f ∈ l → FldR w F cf f → TreeR w F ct t → (W f t).length ≤ 1099511627776 → Calls Tryz.prog 62 #[.agg cf.toArray,.int .i64 v,.bool flex,.agg ct.toArray] w (qee w 5 (W f t))) (hl:FldsR w F A c l) (ht:TreeR w F ct t) (hroom:(qek W l v flex t).length ≤ 1099511627776) :
  Calls Tryz.prog 29 #[.slice A l.length c,.int .i64 v,.bool flex,.agg ct.toArray] w (qee w 5 (qek W l v flex t)):=by
 obtain ⟨xfs,h1,h2⟩:=hl.ex
 have hsm:=h1.small
 obtain ⟨n1,s2,b3,l4,u5,A6,c7,A8,c9,aU,aV,lW,rfl,rfl,lX,lY,oX,lZ⟩:=ht.open_
 have k8:=lX.small
 have k9:=lY.small
 have hkr:=qen l
 refine enter (n:=132) Tryz.func29 rfl Tryz.ntmps29 kz fun a hE=>?_
 have hW:=WOk.start w Nil
 refine qaf [0,1] kz ?_
 refine qal (qbq hW hE (d:=7) (cs:=(z1 n1 A6 s2.length c7 b3 A8 l4.length c9 aU u5.length aV)) kz fun cG oY oZ l0 l3 l5 cw jW=>?_)
 refine qai [1] [] [(0,.v (.slice A l.length c)),(1,.v (.int .i64 v)),(2,.v (.bool flex)),(7,.p 0 0)] cw jW fun o5 jX=>?_
 refine qae (qab ?_)
 refine qas [(0,.v (.slice A l.length c)),(1,.v (.int .i64 v)),(2,.v (.bool flex)),(7,.p 0 0),(9,.v (.slice none 0 0)),(10,.v (.slice none 0 0))] cw jX fun o6 jY=>?_
 refine qas [(0,.v (.slice A l.length c)),(1,.v (.int .i64 v)),(2,.v (.bool flex)),(7,.p 0 0),(9,.v (.slice none 0 0)),(10,.v (.slice none 0 0)),(11,.v (.int .i64 0))] cw jY fun o7 jZ=>?_
 refine wp_seq (qas [(0,.v (.slice A l.length c)),(1,.v (.int .i64 v)),(2,.v (.bool flex)),(7,.p 0 0),(9,.v (.slice none 0 0)),(10,.v (.slice none 0 0)),(11,.v (.int .i64 0)),(21,.v (.slice A l.length c)),(22,.v (.int .i64 ((l.length:Nat):Int))),(23,.v (.int .i64 0))] cw jZ fun o9 j0=>?_)
 refine wp_block ?_
 have eH:=cw.addNil 5 1
 have l6:=cw.frNil 5 1
 have htot:(qa1 W l v (Tree.mk n1 s2 b3 l4 u5) 0).length ≤ 1099511627776:=by have h_:=hroom; rw [qek,List.length_append] at h_; omega
 refine wp_loop_ghost (fun n_ a_ w_=>∃ (k:Nat) (A_:Option Addr) (c_:Nat) (dn:Bs),n_ = l.length - k ∧ k ≤ l.length ∧ (dn ++ qa1 W (l.drop k) v (Tree.mk n1 s2 b3 l4 u5) k = qa1 W l v (Tree.mk n1 s2 b3 l4 u5) 0) ∧ LInv eH 132 [⟨cG,0,[.int .i64 n1,.slice A6 s2.length c7,.bool b3,.slice A8 l4.length c9,.slice aU u5.length aV],true⟩] [brow A_ c_ 5 dn] [(0,.v (.slice A l.length c)),(1,.v (.int .i64 v)),(2,.v (.bool flex)),(7,.p 0 0),(9,.v (.slice A_ dn.length c_)),(10,.v (.slice none 0 0)),(11,.v (.int .i64 0)),(21,.v (.slice A l.length c)),(22,.v (.int .i64 ((l.length:Nat):Int))),(23,.v (.int .i64 ((k:Nat):Int)))] a_ w_) (l.length) ⟨0,none,0,[],by omega,by omega,rfl,j0.pk,eH,Fr.refl _ _ _⟩ ?_
 rintro pa pb pc ⟨k,A_,c_,dn,l7,l9,hB,j1,az,eh⟩
 refine qas [(0,.v (.slice A l.length c)),(1,.v (.int .i64 v)),(2,.v (.bool flex)),(7,.p 0 0),(9,.v (.slice A_ dn.length c_)),(10,.v (.slice none 0 0)),(11,.v (.int .i64 0)),(21,.v (.slice A l.length c)),(22,.v (.int .i64 ((l.length:Nat):Int))),(23,.v (.int .i64 ((k:Nat):Int))),(24,.v (.bool (decide (((k:Nat):Int) < ((l.length:Nat):Int)))))] az j1 fun pd ei=>?_
 refine wp_seq (qaw ei (b:=decide (((k:Nat):Int) < ((l.length:Nat):Int))) kz (fun ej=>?_) (fun ej=>?_))
 ·
  have ma:=of_decide_eq_true ej
  refine wp_skip (qab (wp_seq (wp_block (qaf [0,1,2,3,4,5] kz ?_))))
  refine qai [0] [1,2,3,4,5] [(0,.v (.slice A l.length c)),(1,.v (.int .i64 v)),(2,.v (.bool flex)),(7,.p 0 0),(9,.v (.slice A_ dn.length c_)),(10,.v (.slice none 0 0)),(11,.v (.int .i64 0)),(21,.v (.slice A l.length c)),(22,.v (.int .i64 ((l.length:Nat):Int))),(23,.v (.int .i64 ((k:Nat):Int))),(25,.v (.int .i64 ((k:Nat):Int)))] az ei fun pe j2=>?_
  obtain ⟨mc,md,j3,me,dz⟩:=Slots.get h1 (i:=k) (by omega)
  obtain ⟨mf,bi⟩:∃ x,l[k]? = some x:=⟨_,List.getElem?_eq_getElem (by omega)⟩
  have ek:=h2 k mf bi
  obtain ⟨aA,aB,aC,aD,ax,aE,aF,aG,dx,dy,mg,rfl,dA,mh,pf⟩:=ek.open_
  rw [dA] at ek
  have la:=mh.small
  rw [dA] at dz
  refine qal (qax j2 (t:=29) (A:=A) (m:=l.length) (q:=((k:Nat):Int)) (d:=26) kz (e:=51) (size:=8) (bytes:=80) kz j3 rfl (by omega) fun pg j4=>?_)
  refine qal (qaU j4 (t:=51) (b:=mc) (o:=md + k * 8) (d:=27) kz (cs:=(z7 aA aB aC aD ax aE aF dx aG.length dy)) (v:=.agg #[.int .i64 aA,.int .i64 aB,.int .i64 aC,.int .i64 aD,.int .i64 ax,.int .i64 aE,.int .i64 aF,.slice dx aG.length dy]) kz (AtF.move dz az.step nilM qa9).at_ fun ph j5=>?_)
  refine qal (qaQ az j5 (d:=13) (cs:=z15) kz fun pi pj pl mi mj em eI j6=>?_)
  refine qai [4] [5] [(0,.v (.slice A l.length c)),(1,.v (.int .i64 v)),(2,.v (.bool flex)),(7,.p 0 0),(9,.v (.slice A_ dn.length c_)),(10,.v (.slice none 0 0)),(11,.v (.int .i64 0)),(12,.v (.int .i64 ((k:Nat):Int))),(13,.p 1 0),(21,.v (.slice A l.length c)),(22,.v (.int .i64 ((l.length:Nat):Int))),(23,.v (.int .i64 ((k:Nat):Int))),(27,.v (.agg #[.int .i64 aA,.int .i64 aB,.int .i64 aC,.int .i64 aD,.int .i64 ax,.int .i64 aE,.int .i64 aF,.slice dx aG.length dy]))] eI j6 fun pm j7=>?_
  refine qal (qao eI j7 (oi:=1) (cs:=(z7 aA aB aC aD ax aE aF dx aG.length dy)) kz fun pn eo bG j8=>?_)
  refine qae (qab ?_)
  refine qaf [0,1,2,3,4,5,6,7] kz ?_
  refine qai [0,1,2,3] [4,5,6,7] [(0,.v (.slice A l.length c)),(1,.v (.int .i64 v)),(2,.v (.bool flex)),(7,.p 0 0),(9,.v (.slice A_ dn.length c_)),(10,.v (.slice none 0 0)),(11,.v (.int .i64 0)),(12,.v (.int .i64 ((k:Nat):Int))),(13,.p 1 0),(21,.v (.slice A l.length c)),(22,.v (.int .i64 ((l.length:Nat):Int))),(23,.v (.int .i64 ((k:Nat):Int))),(31,.v (.bool (decide (ax < 0))))] bG j8 fun po eJ=>?_
  refine (Bool.eq_false_or_eq_true (decide (ax < 0))).elim (fun cH=>?_) (fun cH=>?_)
  ·
   have ml:=of_decide_eq_true cH
   have j9:=eJ
   rw [cH] at j9
   refine qai [4,5] [6,7] [(0,.v (.slice A l.length c)),(1,.v (.int .i64 v)),(2,.v (.bool flex)),(7,.p 0 0),(9,.v (.slice A_ dn.length c_)),(10,.v (.slice none 0 0)),(11,.v (.int .i64 0)),(12,.v (.int .i64 ((k:Nat):Int))),(13,.p 1 0),(21,.v (.slice A l.length c)),(22,.v (.int .i64 ((l.length:Nat):Int))),(23,.v (.int .i64 ((k:Nat):Int))),(31,.v (.bool true)),(32,.v (.agg #[.int .i64 aA,.int .i64 aB,.int .i64 aC,.int .i64 aD,.int .i64 ax,.int .i64 aE,.int .i64 aF,.slice dx aG.length dy])),(33,.v (.int .i64 v))] bG j9 fun pp eK=>?_
   refine qal (qak eK (f:=31) (vs:=[.agg #[.int .i64 aA,.int .i64 aB,.int .i64 aC,.int .i64 aD,.int .i64 ax,.int .i64 aE,.int .i64 aF,.slice dx aG.length dy],.int .i64 v]) (d:=34) kz Tryz.call31 (sHas aA aB aC aD ax aE aF aG _ _ v _) ?_)
   rintro e_ mn ⟨rfl,dB⟩
   refine ⟨_,rfl,fun mo eL=>?_⟩
   have bN:=bG.next_nil dB
   have dC:=bG.frN dB
   refine qai [7] [] [(0,.v (.slice A l.length c)),(1,.v (.int .i64 v)),(2,.v (.bool flex)),(7,.p 0 0),(9,.v (.slice A_ dn.length c_)),(10,.v (.slice none 0 0)),(11,.v (.int .i64 0)),(12,.v (.int .i64 ((k:Nat):Int))),(13,.p 1 0),(21,.v (.slice A l.length c)),(22,.v (.int .i64 ((l.length:Nat):Int))),(23,.v (.int .i64 ((k:Nat):Int))),(35,.v (.bool (Fld.has (Fld.mk aA aB aC aD ax aE aF aG) v)))] bN eL fun mp cI=>?_
   refine qae (qab ?_)
   refine qaw cI (b:=Fld.has (Fld.mk aA aB aC aD ax aE aF aG) v) kz (fun eM=>?_) (fun eM=>?_)
   ·
    refine qcu 9 kz bN fun mq eN bj eO=>?_
    refine qaB [0,1,2,3,4,5] [(0,.v (.slice A l.length c)),(1,.v (.int .i64 v)),(2,.v (.bool flex)),(7,.p 0 0),(9,.v (.slice A_ dn.length c_)),(10,.v (.slice none 0 0)),(11,.v (.int .i64 0)),(21,.v (.slice A l.length c)),(22,.v (.int .i64 ((l.length:Nat):Int))),(23,.v (.int .i64 ((k:Nat):Int))),(36,.v (.slice A_ dn.length c_)),(37,.v (.agg #[.int .i64 aA,.int .i64 aB,.int .i64 aC,.int .i64 aD,.int .i64 ax,.int .i64 aE,.int .i64 aF,.slice dx aG.length dy])),(38,.v (.int .i64 v)),(39,.v (.bool flex)),(40,.v (.agg #[.int .i64 n1,.slice A6 s2.length c7,.bool b3,.slice A8 l4.length c9,.slice aU u5.length aV])),(41,.v (.int .i64 ((k:Nat):Int)))] 4 (qac (qaa (qaa (qac (qaa qad))))) (fun _ h=>h.cells) eO cI fun mr eP=>?_
    refine qam (i:=6) kz (qak eP (f:=30) (vs:=[.agg #[.int .i64 n1,.slice A6 s2.length c7,.bool b3,.slice A8 l4.length c9,.slice aU u5.length aV],.int .i64 ((k:Nat):Int)]) (d:=42) kz Tryz.call30 (sAt _ _ k _ _ (ht.move bj.step nilM bj.imm)) ?_)
    rintro e_ mt ⟨lb,rfl,eQ,bk⟩
    have cJ:=eQ.move bk nilM (fun b o h_ hb_=>bj.laid (G:=F) bk b o (.inl h_) (Nat.lt_of_lt_of_le hb_ bk.size))
    obtain ⟨ep,eu,ev,ew,ey,ez,eB,eC,eD,eE,eF,lc,ld,cK,ka,kd,mu,mw⟩:=cJ.open_
    rw [cK] at cJ
    have ke:=ka.small
    have kf:=kd.small
    rw [cK]
    refine ⟨_,rfl,fun mx eR=>?_⟩
    have bO:=bj.next_nil bk
    have bP:=bj.frN bk
    have eS:=TT.ofW bP bO
    refine ⟨fun _=>eS,?_⟩
    refine qam (i:=7) kz (qak eR (f:=62) (vs:=[.agg #[.int .i64 aA,.int .i64 aB,.int .i64 aC,.int .i64 aD,.int .i64 ax,.int .i64 aE,.int .i64 aF,.slice dx aG.length dy],.int .i64 v,.bool flex,.agg #[.int .i64 ep,.slice ez eu.length eB,.bool ev,.slice eC ew.length eD,.slice eE ey.length eF]]) (d:=43) kz Tryz.call62 ( hW_ _ _ _ _ _ _ (List.mem_of_getElem? bi) (ek.move bO.step nilM bO.imm) cJ (by have h_:=congrArg List.length hB; rw [qeF bi ‹_› ‹_›] at h_; simp only [List.length_append] at h_; omega)) ?_)
    rintro e_ my ⟨cL,cM,rfl,eU,eV⟩
    refine ⟨_,rfl,fun mz eW=>?_⟩
    obtain ⟨bQ,cN⟩:=bO.frFresh eV (brow cL cM 5 (W (Fld.mk aA aB aC aD ax aE aF aG) (Tree.at_ (Tree.mk n1 s2 b3 l4 u5) k))) (Nat.le_refl _) eU
    have kg:(W (Fld.mk aA aB aC aD ax aE aF aG) (Tree.at_ (Tree.mk n1 s2 b3 l4 u5) k)).length ≤ 1099511627776:=by have h_:=congrArg List.length hB; rw [qeF bi ‹_› ‹_›] at h_; simp only [List.length_append] at h_; omega
    have eX:=TT.ofW (bP.trans cN) bQ
    refine ⟨fun _=>eX,?_⟩
    refine qam (i:=8) kz (qaR bQ eW (k:=0) (d:=44) (t:=22) (e:=5) (size:=1) (bytes:=1) (A:=A_) (As:=cL) (m0:=dn.length) (c:=c_) (m:=((W (Fld.mk aA aB aC aD ax aE aF aG) (Tree.at_ (Tree.mk n1 s2 b3 l4 u5) k)).length)) (cs:=cM) (xs:=(bc dn)) (news:=bc (W (Fld.mk aA aB aC aD ax aE aF aG) (Tree.at_ (Tree.mk n1 s2 b3 l4 u5) k))) kz kz rfl (qby (bQ.own 1 _ rfl) (qdC _)) (qbE (bQ.own 1 _ rfl)) (by have h_:=congrArg List.length hB; rw [qeF bi ‹_› ‹_›] at h_; simp only [List.length_append] at h_ ⊢; omega) fun aW aX mA mB dD eY eZ=>?_)
    have e9:(⟨aW,aX,5,1,dn.length + (W (Fld.mk aA aB aC aD ax aE aF aG) (Tree.at_ (Tree.mk n1 s2 b3 l4 u5) k)).length,bc dn ++ bc (W (Fld.mk aA aB aC aD ax aE aF aG) (Tree.at_ (Tree.mk n1 s2 b3 l4 u5) k))⟩:Rw) = brow aW aX 5 (dn ++ (W (Fld.mk aA aB aC aD ax aE aF aG) (Tree.at_ (Tree.mk n1 s2 b3 l4 u5) k))):=qcg (rfl) rfl
    obtain ⟨bR,dE⟩:=eY.rowEq 0 [brow aW aX 5 (dn ++ (W (Fld.mk aA aB aC aD ax aE aF aG) (Tree.at_ (Tree.mk n1 s2 b3 l4 u5) k))),brow cL cM 5 (W (Fld.mk aA aB aC aD ax aE aF aG) (Tree.at_ (Tree.mk n1 s2 b3 l4 u5) k))] e9
    have fa:=EnvOk.pick eZ (ks:=[0,1,2,7,9,10,11,21,22,23,36,37,38,39,40,41,42,43,44]) (env':=[(0,.v (.slice A l.length c)),(1,.v (.int .i64 v)),(2,.v (.bool flex)),(7,.p 0 0),(9,.v (.slice A_ dn.length c_)),(10,.v (.slice none 0 0)),(11,.v (.int .i64 0)),(21,.v (.slice A l.length c)),(22,.v (.int .i64 ((l.length:Nat):Int))),(23,.v (.int .i64 ((k:Nat):Int))),(36,.v (.slice A_ dn.length c_)),(37,.v (.agg #[.int .i64 aA,.int .i64 aB,.int .i64 aC,.int .i64 aD,.int .i64 ax,.int .i64 aE,.int .i64 aF,.slice dx aG.length dy])),(38,.v (.int .i64 v)),(39,.v (.bool flex)),(40,.v (.agg #[.int .i64 n1,.slice A6 s2.length c7,.bool b3,.slice A8 l4.length c9,.slice aU u5.length aV])),(41,.v (.int .i64 ((k:Nat):Int))),(42,.v (.agg #[.int .i64 ep,.slice ez eu.length eB,.bool ev,.slice eC ew.length eD,.slice eE ey.length eF])),(43,.v (.slice cL ((W (Fld.mk aA aB aC aD ax aE aF aG) (Tree.at_ (Tree.mk n1 s2 b3 l4 u5) k)).length) cM)),(44,.v (.slice aW (dn.length + (W (Fld.mk aA aB aC aD ax aE aF aG) (Tree.at_ (Tree.mk n1 s2 b3 l4 u5) k)).length) aX))]) kz
    have fb:=fa.cast (env':=[(0,.v (.slice A l.length c)),(1,.v (.int .i64 v)),(2,.v (.bool flex)),(7,.p 0 0),(9,.v (.slice A_ dn.length c_)),(10,.v (.slice none 0 0)),(11,.v (.int .i64 0)),(21,.v (.slice A l.length c)),(22,.v (.int .i64 ((l.length:Nat):Int))),(23,.v (.int .i64 ((k:Nat):Int))),(36,.v (.slice A_ dn.length c_)),(37,.v (.agg #[.int .i64 aA,.int .i64 aB,.int .i64 aC,.int .i64 aD,.int .i64 ax,.int .i64 aE,.int .i64 aF,.slice dx aG.length dy])),(38,.v (.int .i64 v)),(39,.v (.bool flex)),(40,.v (.agg #[.int .i64 n1,.slice A6 s2.length c7,.bool b3,.slice A8 l4.length c9,.slice aU u5.length aV])),(41,.v (.int .i64 ((k:Nat):Int))),(42,.v (.agg #[.int .i64 ep,.slice ez eu.length eB,.bool ev,.slice eC ew.length eD,.slice eE ey.length eF])),(43,.v (.slice cL ((W (Fld.mk aA aB aC aD ax aE aF aG) (Tree.at_ (Tree.mk n1 s2 b3 l4 u5) k)).length) cM)),(44,.v (.slice aW ((dn ++ (W (Fld.mk aA aB aC aD ax aE aF aG) (Tree.at_ (Tree.mk n1 s2 b3 l4 u5) k))).length) aX))]) (by simp only [List.length_append,List.length_cons,List.length_nil,Nat.zero_add])
    have fe:=TT.ofW (((bP.trans cN).trans dD).trans dE) bR
    refine ⟨fun _=>fe,?_⟩
    refine qam (i:=9) kz (qbf [0,1,2,7,9,10,11,21,22,23] bR.cells fb (env':=[(0,.v (.slice A l.length c)),(1,.v (.int .i64 v)),(2,.v (.bool flex)),(7,.p 0 0),(9,.v (.slice aW ((dn ++ (W (Fld.mk aA aB aC aD ax aE aF aG) (Tree.at_ (Tree.mk n1 s2 b3 l4 u5) k))).length) aX)),(10,.v (.slice none 0 0)),(11,.v (.int .i64 0)),(21,.v (.slice A l.length c)),(22,.v (.int .i64 ((l.length:Nat):Int))),(23,.v (.int .i64 ((k:Nat):Int)))]) kz fun mC ff=>?_)
    refine ⟨fun h=>absurd rfl h,?_⟩
    refine qaz kz ?_ _
    refine qar (qab (qap [0,1] kz ?_))
    refine qai [0,1] [] [(0,.v (.slice A l.length c)),(1,.v (.int .i64 v)),(2,.v (.bool flex)),(7,.p 0 0),(9,.v (.slice aW ((dn ++ (W (Fld.mk aA aB aC aD ax aE aF aG) (Tree.at_ (Tree.mk n1 s2 b3 l4 u5) k))).length) aX)),(10,.v (.slice none 0 0)),(11,.v (.int .i64 0)),(21,.v (.slice A l.length c)),(22,.v (.int .i64 ((l.length:Nat):Int))),(23,.v (.int .i64 (IntKind.i64.wrap (((k:Nat):Int) + 1))))] bR ff fun mD fg=>?_
    refine qae (qab ?_)
    obtain ⟨dF,fh,fi⟩:=bR.cutB fg 1 (z99 cG n1 A6 s2.length c7 b3 A8 l4.length c9 aU u5.length aV) [(0,.v (.slice A l.length c)),(1,.v (.int .i64 v)),(2,.v (.bool flex)),(7,.p 0 0),(9,.v (.slice aW ((dn ++ (W (Fld.mk aA aB aC aD ax aE aF aG) (Tree.at_ (Tree.mk n1 s2 b3 l4 u5) k))).length) aX)),(10,.v (.slice none 0 0)),(11,.v (.int .i64 0)),(21,.v (.slice A l.length c)),(22,.v (.int .i64 ((l.length:Nat):Int))),(23,.v (.int .i64 (IntKind.i64.wrap (((k:Nat):Int) + 1))))]
    obtain ⟨fj,fk⟩:=fh.cutR 1 [brow aW aX 5 (dn ++ (W (Fld.mk aA aB aC aD ax aE aF aG) (Tree.at_ (Tree.mk n1 s2 b3 l4 u5) k)))]
    have fm:IntKind.i64.wrap (((k:Nat):Int) + 1) = ((k + 1:Nat):Int):=qaO (by omega)
    rw [fm] at dF
    exact ⟨l.length - (k + 1),by omega,k + 1,aW,aX,dn ++ (W (Fld.mk aA aB aC aD ax aE aF aG) (Tree.at_ (Tree.mk n1 s2 b3 l4 u5) k)),rfl,by omega,by rw [List.append_assoc,← qeF bi ‹_› ‹_›]; exact hB,dF.pk,fj,((((((((((eh.trans em).trans eo).trans dC).trans eN).trans bP).trans cN).trans dD).trans dE).trans fi).trans fk)⟩
   refine wp_skip (qar (qab (qap [0,1] kz ?_)))
   refine qai [0,1] [] [(0,.v (.slice A l.length c)),(1,.v (.int .i64 v)),(2,.v (.bool flex)),(7,.p 0 0),(9,.v (.slice A_ dn.length c_)),(10,.v (.slice none 0 0)),(11,.v (.int .i64 0)),(21,.v (.slice A l.length c)),(22,.v (.int .i64 ((l.length:Nat):Int))),(23,.v (.int .i64 (IntKind.i64.wrap (((k:Nat):Int) + 1))))] bN cI fun mF fo=>?_
   refine qae (qab ?_)
   obtain ⟨dG,fq,fr⟩:=bN.cutB fo 1 (z99 cG n1 A6 s2.length c7 b3 A8 l4.length c9 aU u5.length aV) [(0,.v (.slice A l.length c)),(1,.v (.int .i64 v)),(2,.v (.bool flex)),(7,.p 0 0),(9,.v (.slice A_ dn.length c_)),(10,.v (.slice none 0 0)),(11,.v (.int .i64 0)),(21,.v (.slice A l.length c)),(22,.v (.int .i64 ((l.length:Nat):Int))),(23,.v (.int .i64 (IntKind.i64.wrap (((k:Nat):Int) + 1))))]
   have ft:IntKind.i64.wrap (((k:Nat):Int) + 1) = ((k + 1:Nat):Int):=qaO (by omega)
   rw [ft] at dG
   exact ⟨l.length - (k + 1),by omega,k + 1,A_,c_,dn,rfl,by omega,by rw [← qiu bi ‹_›]; exact hB,dG.pk,fq,((((eh.trans em).trans eo).trans dC).trans fr)⟩
  have lf:=of_decide_eq_false cH
  have fu:=eJ.cast (env':=[(0,.v (.slice A l.length c)),(1,.v (.int .i64 v)),(2,.v (.bool flex)),(7,.p 0 0),(9,.v (.slice A_ dn.length c_)),(10,.v (.slice none 0 0)),(11,.v (.int .i64 0)),(12,.v (.int .i64 ((k:Nat):Int))),(13,.p 1 0),(21,.v (.slice A l.length c)),(22,.v (.int .i64 ((l.length:Nat):Int))),(23,.v (.int .i64 ((k:Nat):Int))),(31,.v (.bool false))]) (by rw [cH])
  refine qai [4,5,6,7] [] [(0,.v (.slice A l.length c)),(1,.v (.int .i64 v)),(2,.v (.bool flex)),(7,.p 0 0),(9,.v (.slice A_ dn.length c_)),(10,.v (.slice none 0 0)),(11,.v (.int .i64 0)),(12,.v (.int .i64 ((k:Nat):Int))),(13,.p 1 0),(21,.v (.slice A l.length c)),(22,.v (.int .i64 ((l.length:Nat):Int))),(23,.v (.int .i64 ((k:Nat):Int))),(35,.v (.bool false))] bG fu fun mG dH=>?_
  refine qae (qab ?_)
  refine qan dH (b:=false) kz rfl ?_
  refine wp_skip (qar (qab (qap [0,1] kz ?_)))
  refine qai [0,1] [] [(0,.v (.slice A l.length c)),(1,.v (.int .i64 v)),(2,.v (.bool flex)),(7,.p 0 0),(9,.v (.slice A_ dn.length c_)),(10,.v (.slice none 0 0)),(11,.v (.int .i64 0)),(21,.v (.slice A l.length c)),(22,.v (.int .i64 ((l.length:Nat):Int))),(23,.v (.int .i64 (IntKind.i64.wrap (((k:Nat):Int) + 1))))] bG dH fun mH fv=>?_
  refine qae (qab ?_)
  obtain ⟨dI,fw,fx⟩:=bG.cutB fv 1 (z99 cG n1 A6 s2.length c7 b3 A8 l4.length c9 aU u5.length aV) [(0,.v (.slice A l.length c)),(1,.v (.int .i64 v)),(2,.v (.bool flex)),(7,.p 0 0),(9,.v (.slice A_ dn.length c_)),(10,.v (.slice none 0 0)),(11,.v (.int .i64 0)),(21,.v (.slice A l.length c)),(22,.v (.int .i64 ((l.length:Nat):Int))),(23,.v (.int .i64 (IntKind.i64.wrap (((k:Nat):Int) + 1))))]
  have fy:IntKind.i64.wrap (((k:Nat):Int) + 1) = ((k + 1:Nat):Int):=qaO (by omega)
  rw [fy] at dI
  exact ⟨l.length - (k + 1),by omega,k + 1,A_,c_,dn,rfl,by omega,by rw [← qit bi ‹_›]; exact hB,dI.pk,fw,(((eh.trans em).trans eo).trans fx)⟩
 have lg:=of_decide_eq_false ej
 refine wp_exit (qau (qau (qaI (qab (wp_seq (qas [(0,.v (.slice A l.length c)),(1,.v (.int .i64 v)),(2,.v (.bool flex)),(7,.p 0 0),(9,.v (.slice A_ dn.length c_)),(10,.v (.slice none 0 0)),(11,.v (.int .i64 0)),(47,.v (.bool (!flex)))] az ei fun mI cO=>?_))))))
 refine qaw cO (b:=!flex) kz (fun bS=>?_) (fun bS=>?_)
 ·
  refine qas [(8,.v (.slice A_ dn.length c_))] az cO fun mJ fz=>?_
  refine wp_ret (qat (qaM fz az.cells (v:=.slice A_ dn.length c_) kz ?_))
  exact qbr az (k:=0) rfl (by rw [show flex = false by simpa using bS,qji,← hB,qg1 (by omega),List.append_nil])
 refine wp_skip (qab (wp_seq (qaf [0,1,2,3] kz ?_)))
 refine qai [0] [1,2,3] [(0,.v (.slice A l.length c)),(1,.v (.int .i64 v)),(2,.v (.bool flex)),(7,.p 0 0),(9,.v (.slice A_ dn.length c_)),(10,.v (.slice none 0 0)),(11,.v (.int .i64 0)),(49,.v (.slice A l.length c))] az cO fun mK fA=>?_
 refine qal (qak fA (f:=63) (vs:=[.slice A l.length c]) (d:=50) kz Tryz.call63 (qkF _ _ l _ _ ⟨xfs,(h1.move az.step nilM az.imm),(fun i_ x_ h_=>((h2 i_ x_ h_).move az.step nilM az.imm))⟩) ?_)
 rintro e_ mL ⟨rfl,dJ⟩
 refine ⟨_,rfl,fun mM fB=>?_⟩
 have dK:=az.next_nil dJ
 have lh:=az.frN dJ
 refine qai [2,3] [] [(0,.v (.slice A l.length c)),(1,.v (.int .i64 v)),(2,.v (.bool flex)),(7,.p 0 0),(9,.v (.slice A_ dn.length c_)),(10,.v (.slice none 0 0)),(11,.v (.int .i64 0)),(51,.v (.int .i64 (IntKind.i64.wrap (qaC l)))),(52,.v (.int .i64 0))] dK fB fun mN dL=>?_
 refine qae (qab ?_)
 refine wp_block ?_
 have hdn:dn = qa1 W l v (Tree.mk n1 s2 b3 l4 u5) 0:=by rw [← hB,qg1 (by omega),List.append_nil]
 have dM:dn = (qa1 W l v (Tree.mk n1 s2 b3 l4 u5) 0):=hdn
 have fC:=congrArg (brow A_ c_ 5) dM
 obtain ⟨dN,li⟩:=dK.rowEq 0 [brow A_ c_ 5 (qa1 W l v (Tree.mk n1 s2 b3 l4 u5) 0)] fC
 rw [dM] at dL
 have hfx:flex = true:=by simpa using bS
 have htot2:(qa1 W l v (Tree.mk n1 s2 b3 l4 u5) 0).length + (uv (qa4 W l (Tree.mk n1 s2 b3 l4 u5) (qaC l).toNat + (qag l u5).length)).length + ((qaP W l (Tree.mk n1 s2 b3 l4 u5) (qaC l).toNat).length + (qbi (qag l u5)).length) ≤ 1099511627776:=by have h_:=hroom; rw [hfx,qf4] at h_; simpa only [List.length_append] using h_
 have hmono:=fun i (h_:i ≤ (qaC l).toNat)=>qiv W l (Tree.mk n1 s2 b3 l4 u5) h_
 have hcnt:=qhS W l (Tree.mk n1 s2 b3 l4 u5)
 have hknn:=qjj l
 have fD:=EnvOk.pick dL (ks:=[0,1,2,7,9,10,11,51,52]) (env':=[(0,.v (.slice A l.length c)),(1,.v (.int .i64 v)),(2,.v (.bool flex)),(7,.p 0 0),(9,.v (.slice A_ ((qa1 W l v (Tree.mk n1 s2 b3 l4 u5) 0).length) c_)),(10,.v (.slice none 0 0)),(11,.v (.int .i64 0)),(51,.v (.int .i64 (IntKind.i64.wrap (qaC l)))),(52,.v (.int .i64 0))]) kz
 have fE:=fD.cast (env':=[(0,.v (.slice A l.length c)),(1,.v (.int .i64 v)),(2,.v (.bool flex)),(7,.p 0 0),(9,.v (.slice A_ ((qa1 W l v (Tree.mk n1 s2 b3 l4 u5) 0).length) c_)),(10,.v (.slice none 0 0)),(11,.v (.int .i64 0)),(51,.v (.int .i64 (((qaC l).toNat:Nat):Int))),(52,.v (.int .i64 0))]) (by rw [hknn])
 have dO:=dN.addNil 5 1
 have lj:=dN.frNil 5 1
 refine wp_loop_ghost (fun n_ a_ w_=>∃ (k2:Nat) (A2_:Option Addr) (c2_:Nat),n_ = (qaC l).toNat - k2 ∧ k2 ≤ (qaC l).toNat ∧ LInv dO 132 [⟨cG,0,[.int .i64 n1,.slice A6 s2.length c7,.bool b3,.slice A8 l4.length c9,.slice aU u5.length aV],true⟩] [brow A_ c_ 5 (qa1 W l v (Tree.mk n1 s2 b3 l4 u5) 0),brow A2_ c2_ 5 (qaP W l (Tree.mk n1 s2 b3 l4 u5) k2)] [(0,.v (.slice A l.length c)),(1,.v (.int .i64 v)),(2,.v (.bool flex)),(7,.p 0 0),(9,.v (.slice A_ ((qa1 W l v (Tree.mk n1 s2 b3 l4 u5) 0).length) c_)),(10,.v (.slice A2_ ((qaP W l (Tree.mk n1 s2 b3 l4 u5) k2).length) c2_)),(11,.v (.int .i64 ((qa4 W l (Tree.mk n1 s2 b3 l4 u5) k2:Nat):Int))),(51,.v (.int .i64 (((qaC l).toNat:Nat):Int))),(52,.v (.int .i64 ((k2:Nat):Int)))] a_ w_) ((qaC l).toNat) ⟨0,none,0,by omega,by omega,fE.pk,dO,Fr.refl _ _ _⟩ ?_
 rintro mO mQ mR ⟨k2,A2_,c2_,lm,ln,fF,ao,fG⟩
 refine qas [(0,.v (.slice A l.length c)),(1,.v (.int .i64 v)),(2,.v (.bool flex)),(7,.p 0 0),(9,.v (.slice A_ ((qa1 W l v (Tree.mk n1 s2 b3 l4 u5) 0).length) c_)),(10,.v (.slice A2_ ((qaP W l (Tree.mk n1 s2 b3 l4 u5) k2).length) c2_)),(11,.v (.int .i64 ((qa4 W l (Tree.mk n1 s2 b3 l4 u5) k2:Nat):Int))),(51,.v (.int .i64 (((qaC l).toNat:Nat):Int))),(52,.v (.int .i64 ((k2:Nat):Int))),(53,.v (.bool (decide (((k2:Nat):Int) < (((qaC l).toNat:Nat):Int)))))] ao fF fun mS cP=>?_
 refine wp_seq (qaw cP (b:=decide (((k2:Nat):Int) < (((qaC l).toNat:Nat):Int))) kz (fun cQ=>?_) (fun cQ=>?_))
 ·
  have lp:=of_decide_eq_true cQ
  refine wp_skip (qab (wp_seq (wp_block (qas [(0,.v (.slice A l.length c)),(1,.v (.int .i64 v)),(2,.v (.bool flex)),(7,.p 0 0),(9,.v (.slice A_ ((qa1 W l v (Tree.mk n1 s2 b3 l4 u5) 0).length) c_)),(10,.v (.slice A2_ ((qaP W l (Tree.mk n1 s2 b3 l4 u5) k2).length) c2_)),(11,.v (.int .i64 ((qa4 W l (Tree.mk n1 s2 b3 l4 u5) k2:Nat):Int))),(14,.v (.int .i64 ((k2:Nat):Int))),(51,.v (.int .i64 (((qaC l).toNat:Nat):Int))),(52,.v (.int .i64 ((k2:Nat):Int)))] ao cP fun mT fH=>?_))))
  refine qas [(0,.v (.slice A l.length c)),(1,.v (.int .i64 v)),(2,.v (.bool flex)),(7,.p 0 0),(9,.v (.slice A_ ((qa1 W l v (Tree.mk n1 s2 b3 l4 u5) 0).length) c_)),(10,.v (.slice A2_ ((qaP W l (Tree.mk n1 s2 b3 l4 u5) k2).length) c2_)),(11,.v (.int .i64 ((qa4 W l (Tree.mk n1 s2 b3 l4 u5) k2:Nat):Int))),(14,.v (.int .i64 ((k2:Nat):Int))),(51,.v (.int .i64 (((qaC l).toNat:Nat):Int))),(52,.v (.int .i64 ((k2:Nat):Int))),(55,.v (.slice A l.length c)),(56,.v (.int .i64 ((l.length:Nat):Int))),(57,.v (.int .i64 0))] ao fH fun mU dP=>?_
  refine wp_block ?_
  have dQ:(qaP W l (Tree.mk n1 s2 b3 l4 u5) k2) = (qaP W l (Tree.mk n1 s2 b3 l4 u5) k2 ++ []):=(List.append_nil _).symm
  have fI:=congrArg (brow A2_ c2_ 5) dQ
  obtain ⟨dR,fJ⟩:=ao.rowEq 1 [brow A_ c_ 5 (qa1 W l v (Tree.mk n1 s2 b3 l4 u5) 0),brow A2_ c2_ 5 (qaP W l (Tree.mk n1 s2 b3 l4 u5) k2 ++ [])] fI
  rw [dQ] at dP
  have hm2:=hmono (k2 + 1) (by omega)
  rw [qaP,List.length_append] at hm2
  have hc2:=hcnt (k2 + 1)
  rw [qa4,qaP,List.length_append] at hc2
  have hc3:=qhx W k2 (Tree.mk n1 s2 b3 l4 u5) l 0
  refine wp_loop_ghost (fun n_ a_ w_=>∃ (q:Nat) (A3_:Option Addr) (c3_:Nat) (dm:Bs) (cn:Nat),n_ = l.length - q ∧ q ≤ l.length ∧ (dm ++ tagB W (l.drop q) k2 (Tree.mk n1 s2 b3 l4 u5) q = tagB W l k2 (Tree.mk n1 s2 b3 l4 u5) 0) ∧ (cn + tagN W (l.drop q) k2 (Tree.mk n1 s2 b3 l4 u5) q = tagN W l k2 (Tree.mk n1 s2 b3 l4 u5) 0) ∧ LInv dR 132 [⟨cG,0,[.int .i64 n1,.slice A6 s2.length c7,.bool b3,.slice A8 l4.length c9,.slice aU u5.length aV],true⟩] [brow A_ c_ 5 (qa1 W l v (Tree.mk n1 s2 b3 l4 u5) 0),brow A3_ c3_ 5 (qaP W l (Tree.mk n1 s2 b3 l4 u5) k2 ++ dm)] [(0,.v (.slice A l.length c)),(1,.v (.int .i64 v)),(2,.v (.bool flex)),(7,.p 0 0),(9,.v (.slice A_ ((qa1 W l v (Tree.mk n1 s2 b3 l4 u5) 0).length) c_)),(10,.v (.slice A3_ ((qaP W l (Tree.mk n1 s2 b3 l4 u5) k2 ++ dm).length) c3_)),(11,.v (.int .i64 ((qa4 W l (Tree.mk n1 s2 b3 l4 u5) k2 + cn:Nat):Int))),(14,.v (.int .i64 ((k2:Nat):Int))),(51,.v (.int .i64 (((qaC l).toNat:Nat):Int))),(52,.v (.int .i64 ((k2:Nat):Int))),(55,.v (.slice A l.length c)),(56,.v (.int .i64 ((l.length:Nat):Int))),(57,.v (.int .i64 ((q:Nat):Int)))] a_ w_) (l.length) ⟨0,A2_,c2_,[],0,by omega,by omega,rfl,Nat.zero_add _,dP.pk,dR,Fr.refl _ _ _⟩ ?_
  rintro mV mW mX ⟨q,A3_,c3_,dm,cn,lq,lr,hB2,hN2,fK,aY,bT⟩
  refine qas [(0,.v (.slice A l.length c)),(1,.v (.int .i64 v)),(2,.v (.bool flex)),(7,.p 0 0),(9,.v (.slice A_ ((qa1 W l v (Tree.mk n1 s2 b3 l4 u5) 0).length) c_)),(10,.v (.slice A3_ ((qaP W l (Tree.mk n1 s2 b3 l4 u5) k2 ++ dm).length) c3_)),(11,.v (.int .i64 ((qa4 W l (Tree.mk n1 s2 b3 l4 u5) k2 + cn:Nat):Int))),(14,.v (.int .i64 ((k2:Nat):Int))),(51,.v (.int .i64 (((qaC l).toNat:Nat):Int))),(52,.v (.int .i64 ((k2:Nat):Int))),(55,.v (.slice A l.length c)),(56,.v (.int .i64 ((l.length:Nat):Int))),(57,.v (.int .i64 ((q:Nat):Int))),(58,.v (.bool (decide (((q:Nat):Int) < ((l.length:Nat):Int)))))] aY fK fun mY cR=>?_
  refine wp_seq (qaw cR (b:=decide (((q:Nat):Int) < ((l.length:Nat):Int))) kz (fun cS=>?_) (fun cS=>?_))
  ·
   have ls:=of_decide_eq_true cS
   refine wp_skip (qab (wp_seq (wp_block (qaf [0,1,2,3,4,5] kz ?_))))
   refine qai [0] [1,2,3,4,5] [(0,.v (.slice A l.length c)),(1,.v (.int .i64 v)),(2,.v (.bool flex)),(7,.p 0 0),(9,.v (.slice A_ ((qa1 W l v (Tree.mk n1 s2 b3 l4 u5) 0).length) c_)),(10,.v (.slice A3_ ((qaP W l (Tree.mk n1 s2 b3 l4 u5) k2 ++ dm).length) c3_)),(11,.v (.int .i64 ((qa4 W l (Tree.mk n1 s2 b3 l4 u5) k2 + cn:Nat):Int))),(14,.v (.int .i64 ((k2:Nat):Int))),(51,.v (.int .i64 (((qaC l).toNat:Nat):Int))),(52,.v (.int .i64 ((k2:Nat):Int))),(55,.v (.slice A l.length c)),(56,.v (.int .i64 ((l.length:Nat):Int))),(57,.v (.int .i64 ((q:Nat):Int))),(59,.v (.int .i64 ((q:Nat):Int)))] aY cR fun mZ fL=>?_
   obtain ⟨kh,ki,fM,lu,cT⟩:=Slots.get h1 (i:=q) (by omega)
   obtain ⟨kj,ap⟩:∃ x,l[q]? = some x:=⟨_,List.getElem?_eq_getElem (by omega)⟩
   have bU:=h2 q kj ap
   obtain ⟨ab,ac,ae,af,aa,ag,ah,ai,bn,bo,lv,rfl,cU,km,m4⟩:=bU.open_
   rw [cU] at bU
   have ko:=km.small
   rw [cU] at cT
   refine qal (qax fL (t:=29) (A:=A) (m:=l.length) (q:=((q:Nat):Int)) (d:=60) kz (e:=51) (size:=8) (bytes:=80) kz fM rfl (by omega) fun m5 fN=>?_)
   refine qal (qaU fN (t:=51) (b:=kh) (o:=ki + q * 8) (d:=61) kz (cs:=(z7 ab ac ae af aa ag ah bn ai.length bo)) (v:=.agg #[.int .i64 ab,.int .i64 ac,.int .i64 ae,.int .i64 af,.int .i64 aa,.int .i64 ag,.int .i64 ah,.slice bn ai.length bo]) kz (AtF.move cT aY.step nilM qa9).at_ fun m6 fO=>?_)
   refine qal (qaQ aY fO (d:=16) (cs:=z15) kz fun m7 m8 m9 lw lx cV dS fP=>?_)
   refine qai [4] [5] [(0,.v (.slice A l.length c)),(1,.v (.int .i64 v)),(2,.v (.bool flex)),(7,.p 0 0),(9,.v (.slice A_ ((qa1 W l v (Tree.mk n1 s2 b3 l4 u5) 0).length) c_)),(10,.v (.slice A3_ ((qaP W l (Tree.mk n1 s2 b3 l4 u5) k2 ++ dm).length) c3_)),(11,.v (.int .i64 ((qa4 W l (Tree.mk n1 s2 b3 l4 u5) k2 + cn:Nat):Int))),(14,.v (.int .i64 ((k2:Nat):Int))),(15,.v (.int .i64 ((q:Nat):Int))),(16,.p 1 0),(51,.v (.int .i64 (((qaC l).toNat:Nat):Int))),(52,.v (.int .i64 ((k2:Nat):Int))),(55,.v (.slice A l.length c)),(56,.v (.int .i64 ((l.length:Nat):Int))),(57,.v (.int .i64 ((q:Nat):Int))),(61,.v (.agg #[.int .i64 ab,.int .i64 ac,.int .i64 ae,.int .i64 af,.int .i64 aa,.int .i64 ag,.int .i64 ah,.slice bn ai.length bo]))] dS fP fun nf fQ=>?_
   refine qal (qao dS fQ (oi:=1) (cs:=(z7 ab ac ae af aa ag ah bn ai.length bo)) kz fun ng cW fR fS=>?_)
   refine qae (qab ?_)
   refine qaE 12 kz fR fun nh cX aN cY=>?_
   refine qaB [0,1,2,3,4] [(0,.v (.slice A l.length c)),(1,.v (.int .i64 v)),(2,.v (.bool flex)),(7,.p 0 0),(9,.v (.slice A_ ((qa1 W l v (Tree.mk n1 s2 b3 l4 u5) 0).length) c_)),(10,.v (.slice A3_ ((qaP W l (Tree.mk n1 s2 b3 l4 u5) k2 ++ dm).length) c3_)),(11,.v (.int .i64 ((qa4 W l (Tree.mk n1 s2 b3 l4 u5) k2 + cn:Nat):Int))),(14,.v (.int .i64 ((k2:Nat):Int))),(15,.v (.int .i64 ((q:Nat):Int))),(16,.p 1 0),(51,.v (.int .i64 (((qaC l).toNat:Nat):Int))),(52,.v (.int .i64 ((k2:Nat):Int))),(55,.v (.slice A l.length c)),(56,.v (.int .i64 ((l.length:Nat):Int))),(57,.v (.int .i64 ((q:Nat):Int))),(66,.v (.bool (aa == ((k2:Nat):Int))))] 7 (qaa (qac (qaa (qaa (qac (qac (qaa (qaa (qac (qaa qad)))))))))) (fun _ h=>h.cells) cY fS fun ni dT=>?_
   refine (Bool.eq_false_or_eq_true (aa == ((k2:Nat):Int))).elim (fun bp=>?_) (fun bp=>?_)
   ·
    have ly:aa = ((k2:Nat):Int):=by simpa using bp
    have fT:=dT
    rw [bp] at fT
    refine qaB [5,6,7] [(0,.v (.slice A l.length c)),(1,.v (.int .i64 v)),(2,.v (.bool flex)),(7,.p 0 0),(9,.v (.slice A_ ((qa1 W l v (Tree.mk n1 s2 b3 l4 u5) 0).length) c_)),(10,.v (.slice A3_ ((qaP W l (Tree.mk n1 s2 b3 l4 u5) k2 ++ dm).length) c3_)),(11,.v (.int .i64 ((qa4 W l (Tree.mk n1 s2 b3 l4 u5) k2 + cn:Nat):Int))),(14,.v (.int .i64 ((k2:Nat):Int))),(15,.v (.int .i64 ((q:Nat):Int))),(16,.p 1 0),(51,.v (.int .i64 (((qaC l).toNat:Nat):Int))),(52,.v (.int .i64 ((k2:Nat):Int))),(55,.v (.slice A l.length c)),(56,.v (.int .i64 ((l.length:Nat):Int))),(57,.v (.int .i64 ((q:Nat):Int))),(66,.v (.bool true)),(67,.v (.agg #[.int .i64 ab,.int .i64 ac,.int .i64 ae,.int .i64 af,.int .i64 aa,.int .i64 ag,.int .i64 ah,.slice bn ai.length bo])),(68,.v (.agg #[.int .i64 n1,.slice A6 s2.length c7,.bool b3,.slice A8 l4.length c9,.slice aU u5.length aV])),(69,.v (.int .i64 ((q:Nat):Int)))] 4 (qaa (qac (qaa (qaa (qac (qac (qaa (qaa (qac (qaa qad)))))))))) (fun _ h=>h.cells) cY fT fun nj fU=>?_
    refine qam (i:=8) kz (qak fU (f:=30) (vs:=[.agg #[.int .i64 n1,.slice A6 s2.length c7,.bool b3,.slice A8 l4.length c9,.slice aU u5.length aV],.int .i64 ((q:Nat):Int)]) (d:=70) kz Tryz.call30 (sAt _ _ q _ _ (ht.move aN.step nilM aN.imm)) ?_)
    rintro e_ nk ⟨lz,rfl,fV,bq⟩
    have cZ:=fV.move bq nilM (fun b o h_ hb_=>aN.laid (G:=F) bq b o (.inl h_) (Nat.lt_of_lt_of_le hb_ bq.size))
    obtain ⟨kp,kq,ku,kv,kw,kx,ky,kA,kB,kC,kD,lA,lB,c5,kE,kF,nl,nm⟩:=cZ.open_
    rw [c5] at cZ
    have kG:=kE.small
    have kH:=kF.small
    rw [c5]
    refine ⟨_,rfl,fun np fW=>?_⟩
    have bt:=aN.next_nil bq
    have bV:=aN.frN bq
    have fX:=TT.ofW bV bt
    refine ⟨fun _=>fX,?_⟩
    refine qam (i:=9) kz (qak fW (f:=32) (vs:=[.agg #[.int .i64 ab,.int .i64 ac,.int .i64 ae,.int .i64 af,.int .i64 aa,.int .i64 ag,.int .i64 ah,.slice bn ai.length bo],.agg #[.int .i64 kp,.slice kx kq.length ky,.bool ku,.slice kA kv.length kB,.slice kC kw.length kD]]) (d:=71) kz Tryz.call32 (qh5 _ _ _ _ _ _ _ (bU.move bt.step nilM bt.imm) (Nat.le_refl _) cZ) ?_)
    rintro e_ nr ⟨rfl,dU⟩
    refine ⟨_,rfl,fun ns fY=>?_⟩
    have bW:=bt.next_nil dU
    have c6:=bt.frN dU
    have dV:=TT.ofW (bV.trans c6) bW
    refine ⟨fun _=>dV,?_⟩
    refine qaB [10,11] [(0,.v (.slice A l.length c)),(1,.v (.int .i64 v)),(2,.v (.bool flex)),(7,.p 0 0),(9,.v (.slice A_ ((qa1 W l v (Tree.mk n1 s2 b3 l4 u5) 0).length) c_)),(10,.v (.slice A3_ ((qaP W l (Tree.mk n1 s2 b3 l4 u5) k2 ++ dm).length) c3_)),(11,.v (.int .i64 ((qa4 W l (Tree.mk n1 s2 b3 l4 u5) k2 + cn:Nat):Int))),(14,.v (.int .i64 ((k2:Nat):Int))),(15,.v (.int .i64 ((q:Nat):Int))),(16,.p 1 0),(51,.v (.int .i64 (((qaC l).toNat:Nat):Int))),(52,.v (.int .i64 ((k2:Nat):Int))),(55,.v (.slice A l.length c)),(56,.v (.int .i64 ((l.length:Nat):Int))),(57,.v (.int .i64 ((q:Nat):Int))),(73,.v (.bool (!(Fld.usual (Fld.mk ab ac ae af aa ag ah ai) (Tree.at_ (Tree.mk n1 s2 b3 l4 u5) q)))))] 0 (qaa (qac (qaa (qaa (qac (qac (qaa (qaa (qac (qaa qad)))))))))) (fun _ h=>h.cells) dV fY fun nt da=>?_
    refine qaz kz ?_ _
    refine qab (qaw da (b:=!(Fld.usual (Fld.mk ab ac ae af aa ag ah ai) (Tree.at_ (Tree.mk n1 s2 b3 l4 u5) q))) kz (fun ay=>?_) (fun ay=>?_))
    ·
     refine qaE 7 kz bW fun nu fZ bu f5=>?_
     refine qaB [0,1,2,3,4] [(0,.v (.slice A l.length c)),(1,.v (.int .i64 v)),(2,.v (.bool flex)),(7,.p 0 0),(9,.v (.slice A_ ((qa1 W l v (Tree.mk n1 s2 b3 l4 u5) 0).length) c_)),(10,.v (.slice A3_ ((qaP W l (Tree.mk n1 s2 b3 l4 u5) k2 ++ dm).length) c3_)),(11,.v (.int .i64 ((qa4 W l (Tree.mk n1 s2 b3 l4 u5) k2 + cn:Nat):Int))),(14,.v (.int .i64 ((k2:Nat):Int))),(51,.v (.int .i64 (((qaC l).toNat:Nat):Int))),(52,.v (.int .i64 ((k2:Nat):Int))),(55,.v (.slice A l.length c)),(56,.v (.int .i64 ((l.length:Nat):Int))),(57,.v (.int .i64 ((q:Nat):Int))),(74,.v (.agg #[.int .i64 ab,.int .i64 ac,.int .i64 ae,.int .i64 af,.int .i64 aa,.int .i64 ag,.int .i64 ah,.slice bn ai.length bo])),(75,.v (.int .i64 v)),(76,.v (.bool flex)),(77,.v (.agg #[.int .i64 n1,.slice A6 s2.length c7,.bool b3,.slice A8 l4.length c9,.slice aU u5.length aV])),(78,.v (.int .i64 ((q:Nat):Int)))] 3 (qaa (qac (qaa (qaa (qac (qac (qaa (qaa (qac (qaa qad)))))))))) (fun _ h=>h.cells) f5 da fun nv f7=>?_
     refine qam (i:=5) kz (qak f7 (f:=30) (vs:=[.agg #[.int .i64 n1,.slice A6 s2.length c7,.bool b3,.slice A8 l4.length c9,.slice aU u5.length aV],.int .i64 ((q:Nat):Int)]) (d:=79) kz Tryz.call30 (sAt _ _ q _ _ (ht.move bu.step nilM bu.imm)) ?_)
     rintro e_ nw ⟨lC,rfl,f8,bw⟩
     have db:=f8.move bw nilM (fun b o h_ hb_=>bu.laid (G:=F) bw b o (.inl h_) (Nat.lt_of_lt_of_le hb_ bw.size))
     obtain ⟨kI,kJ,kK,kL,kM,kN,kO,kP,kQ,kR,kS,lD,lE,dc,kT,kU,nx,ny⟩:=db.open_
     rw [dc] at db
     have kV:=kT.small
     have kW:=kU.small
     rw [dc]
     refine ⟨_,rfl,fun nz f9=>?_⟩
     have bX:=bu.next_nil bw
     have de:=bu.frN bw
     have ga:=TT.ofW de bX
     refine ⟨fun _=>ga,?_⟩
     refine qam (i:=6) kz (qak f9 (f:=62) (vs:=[.agg #[.int .i64 ab,.int .i64 ac,.int .i64 ae,.int .i64 af,.int .i64 aa,.int .i64 ag,.int .i64 ah,.slice bn ai.length bo],.int .i64 v,.bool flex,.agg #[.int .i64 kI,.slice kN kJ.length kO,.bool kK,.slice kP kL.length kQ,.slice kR kM.length kS]]) (d:=80) kz Tryz.call62 ( hW_ _ _ _ _ _ _ (List.mem_of_getElem? ap) (bU.move bX.step nilM bX.imm) db (by have h_:=congrArg List.length hB2; rw [qd4 ap (by omega) (by simpa using ay)] at h_; simp only [List.length_append] at h_; omega)) ?_)
     rintro e_ nA ⟨av,aw,rfl,gb,gc⟩
     refine ⟨_,rfl,fun nB gd=>?_⟩
     obtain ⟨bY,dW⟩:=bX.frFresh gc (brow av aw 5 (W (Fld.mk ab ac ae af aa ag ah ai) (Tree.at_ (Tree.mk n1 s2 b3 l4 u5) q))) (Nat.le_refl _) gb
     have kX:(W (Fld.mk ab ac ae af aa ag ah ai) (Tree.at_ (Tree.mk n1 s2 b3 l4 u5) q)).length ≤ 1099511627776:=by have h_:=congrArg List.length hB2; rw [qd4 ap (by omega) (by simpa using ay)] at h_; simp only [List.length_append] at h_; omega
     have ge:=TT.ofW (de.trans dW) bY
     refine ⟨fun _=>ge,?_⟩
     refine qam (i:=7) kz (qbf [0,1,2,7,9,10,11,14,17,51,52,55,56,57] bY.cells gd (env':=[(0,.v (.slice A l.length c)),(1,.v (.int .i64 v)),(2,.v (.bool flex)),(7,.p 0 0),(9,.v (.slice A_ ((qa1 W l v (Tree.mk n1 s2 b3 l4 u5) 0).length) c_)),(10,.v (.slice A3_ ((qaP W l (Tree.mk n1 s2 b3 l4 u5) k2 ++ dm).length) c3_)),(11,.v (.int .i64 ((qa4 W l (Tree.mk n1 s2 b3 l4 u5) k2 + cn:Nat):Int))),(14,.v (.int .i64 ((k2:Nat):Int))),(17,.v (.slice av ((W (Fld.mk ab ac ae af aa ag ah ai) (Tree.at_ (Tree.mk n1 s2 b3 l4 u5) q)).length) aw)),(51,.v (.int .i64 (((qaC l).toNat:Nat):Int))),(52,.v (.int .i64 ((k2:Nat):Int))),(55,.v (.slice A l.length c)),(56,.v (.int .i64 ((l.length:Nat):Int))),(57,.v (.int .i64 ((q:Nat):Int)))]) kz fun nC gg=>?_)
     refine ⟨fun h=>absurd rfl h,?_⟩
     refine qaz kz ?_ _
     refine qab (qaf [0,1,2,3,4,5,6,7,8,9,10,11,12] kz ?_)
     refine qai [0,1,2] [3,4,5,6,7,8,9,10,11,12] [(0,.v (.slice A l.length c)),(1,.v (.int .i64 v)),(2,.v (.bool flex)),(7,.p 0 0),(9,.v (.slice A_ ((qa1 W l v (Tree.mk n1 s2 b3 l4 u5) 0).length) c_)),(11,.v (.int .i64 ((qa4 W l (Tree.mk n1 s2 b3 l4 u5) k2 + cn:Nat):Int))),(14,.v (.int .i64 ((k2:Nat):Int))),(17,.v (.slice av ((W (Fld.mk ab ac ae af aa ag ah ai) (Tree.at_ (Tree.mk n1 s2 b3 l4 u5) q)).length) aw)),(51,.v (.int .i64 (((qaC l).toNat:Nat):Int))),(52,.v (.int .i64 ((k2:Nat):Int))),(55,.v (.slice A l.length c)),(56,.v (.int .i64 ((l.length:Nat):Int))),(57,.v (.int .i64 ((q:Nat):Int))),(81,.v (.slice A3_ ((qaP W l (Tree.mk n1 s2 b3 l4 u5) k2 ++ dm).length) c3_)),(83,.v (.int .u64 (IntKind.u64.wrap ((k2:Nat):Int))))] bY gg fun nD gh=>?_
     have gi:IntKind.u64.wrap ((k2:Nat):Int) = ((k2:Nat):Int):=by simp only [qaV,qaA,qbO,IntKind.wrap_i64,IntKind.wrap_i32]; omega
     have gj:=EnvOk.pick gh (ks:=[0,1,2,7,9,11,14,17,51,52,55,56,57,81,83]) (env':=[(0,.v (.slice A l.length c)),(1,.v (.int .i64 v)),(2,.v (.bool flex)),(7,.p 0 0),(9,.v (.slice A_ ((qa1 W l v (Tree.mk n1 s2 b3 l4 u5) 0).length) c_)),(11,.v (.int .i64 ((qa4 W l (Tree.mk n1 s2 b3 l4 u5) k2 + cn:Nat):Int))),(14,.v (.int .i64 ((k2:Nat):Int))),(17,.v (.slice av ((W (Fld.mk ab ac ae af aa ag ah ai) (Tree.at_ (Tree.mk n1 s2 b3 l4 u5) q)).length) aw)),(51,.v (.int .i64 (((qaC l).toNat:Nat):Int))),(52,.v (.int .i64 ((k2:Nat):Int))),(55,.v (.slice A l.length c)),(56,.v (.int .i64 ((l.length:Nat):Int))),(57,.v (.int .i64 ((q:Nat):Int))),(81,.v (.slice A3_ ((qaP W l (Tree.mk n1 s2 b3 l4 u5) k2 ++ dm).length) c3_)),(83,.v (.int .u64 (IntKind.u64.wrap ((k2:Nat):Int))))]) kz
     have gk:=gj
     rw [gi] at gk
     refine qal (qak gk (f:=64) (vs:=[.int .u64 ((k2:Nat):Int)]) (d:=84) kz Tryz.call64 (qd7 k2 (by omega) _) ?_)
     rintro e_ nE ⟨bH,bI,rfl,gl,gm⟩
     refine ⟨_,rfl,fun nF gn=>?_⟩
     obtain ⟨df,gp⟩:=bY.frFresh gm (brow bH bI 5 (uv k2)) (Nat.le_refl _) gl
     refine qal (qaR df gn (k:=1) (d:=85) (t:=22) (e:=5) (size:=1) (bytes:=1) (A:=A3_) (As:=bH) (m0:=((qaP W l (Tree.mk n1 s2 b3 l4 u5) k2 ++ dm).length)) (c:=c3_) (m:=((uv k2).length)) (cs:=bI) (xs:=(bc (qaP W l (Tree.mk n1 s2 b3 l4 u5) k2 ++ dm))) (news:=bc (uv k2)) kz kz rfl (qby (df.own 3 _ rfl) (qdC _)) (qbE (df.own 3 _ rfl)) (by have h_:=congrArg List.length hB2; rw [qd4 ap (by omega) (by simpa using ay)] at h_; simp only [List.length_append] at h_ ⊢; omega) fun aO aP nG nH gq gt gv=>?_)
     have gw:(⟨aO,aP,5,1,(qaP W l (Tree.mk n1 s2 b3 l4 u5) k2 ++ dm).length + (uv k2).length,bc (qaP W l (Tree.mk n1 s2 b3 l4 u5) k2 ++ dm) ++ bc (uv k2)⟩:Rw) = brow aO aP 5 (qaP W l (Tree.mk n1 s2 b3 l4 u5) k2 ++ dm ++ (uv k2)):=qcg (rfl) rfl
     obtain ⟨dX,gx⟩:=gt.rowEq 1 [brow A_ c_ 5 (qa1 W l v (Tree.mk n1 s2 b3 l4 u5) 0),brow aO aP 5 (qaP W l (Tree.mk n1 s2 b3 l4 u5) k2 ++ dm ++ (uv k2)),brow av aw 5 (W (Fld.mk ab ac ae af aa ag ah ai) (Tree.at_ (Tree.mk n1 s2 b3 l4 u5) q)),brow bH bI 5 (uv k2)] gw
     have gy:=EnvOk.pick gv (ks:=[0,1,2,7,9,11,14,17,51,52,55,56,57,81,83,84,85]) (env':=[(0,.v (.slice A l.length c)),(1,.v (.int .i64 v)),(2,.v (.bool flex)),(7,.p 0 0),(9,.v (.slice A_ ((qa1 W l v (Tree.mk n1 s2 b3 l4 u5) 0).length) c_)),(11,.v (.int .i64 ((qa4 W l (Tree.mk n1 s2 b3 l4 u5) k2 + cn:Nat):Int))),(14,.v (.int .i64 ((k2:Nat):Int))),(17,.v (.slice av ((W (Fld.mk ab ac ae af aa ag ah ai) (Tree.at_ (Tree.mk n1 s2 b3 l4 u5) q)).length) aw)),(51,.v (.int .i64 (((qaC l).toNat:Nat):Int))),(52,.v (.int .i64 ((k2:Nat):Int))),(55,.v (.slice A l.length c)),(56,.v (.int .i64 ((l.length:Nat):Int))),(57,.v (.int .i64 ((q:Nat):Int))),(81,.v (.slice A3_ ((qaP W l (Tree.mk n1 s2 b3 l4 u5) k2 ++ dm).length) c3_)),(83,.v (.int .u64 ((k2:Nat):Int))),(84,.v (.slice bH ((uv k2).length) bI)),(85,.v (.slice aO ((qaP W l (Tree.mk n1 s2 b3 l4 u5) k2 ++ dm).length + (uv k2).length) aP))]) kz
     have gz:=gy.cast (env':=[(0,.v (.slice A l.length c)),(1,.v (.int .i64 v)),(2,.v (.bool flex)),(7,.p 0 0),(9,.v (.slice A_ ((qa1 W l v (Tree.mk n1 s2 b3 l4 u5) 0).length) c_)),(11,.v (.int .i64 ((qa4 W l (Tree.mk n1 s2 b3 l4 u5) k2 + cn:Nat):Int))),(14,.v (.int .i64 ((k2:Nat):Int))),(17,.v (.slice av ((W (Fld.mk ab ac ae af aa ag ah ai) (Tree.at_ (Tree.mk n1 s2 b3 l4 u5) q)).length) aw)),(51,.v (.int .i64 (((qaC l).toNat:Nat):Int))),(52,.v (.int .i64 ((k2:Nat):Int))),(55,.v (.slice A l.length c)),(56,.v (.int .i64 ((l.length:Nat):Int))),(57,.v (.int .i64 ((q:Nat):Int))),(81,.v (.slice A3_ ((qaP W l (Tree.mk n1 s2 b3 l4 u5) k2 ++ dm).length) c3_)),(83,.v (.int .u64 ((k2:Nat):Int))),(84,.v (.slice bH ((uv k2).length) bI)),(85,.v (.slice aO ((qaP W l (Tree.mk n1 s2 b3 l4 u5) k2 ++ dm ++ (uv k2)).length) aP))]) (by simp only [List.length_append,List.length_cons,List.length_nil,Nat.zero_add])
     refine qai [5,6,7] [8,9,10,11,12] [(0,.v (.slice A l.length c)),(1,.v (.int .i64 v)),(2,.v (.bool flex)),(7,.p 0 0),(9,.v (.slice A_ ((qa1 W l v (Tree.mk n1 s2 b3 l4 u5) 0).length) c_)),(11,.v (.int .i64 ((qa4 W l (Tree.mk n1 s2 b3 l4 u5) k2 + cn:Nat):Int))),(14,.v (.int .i64 ((k2:Nat):Int))),(17,.v (.slice av ((W (Fld.mk ab ac ae af aa ag ah ai) (Tree.at_ (Tree.mk n1 s2 b3 l4 u5) q)).length) aw)),(51,.v (.int .i64 (((qaC l).toNat:Nat):Int))),(52,.v (.int .i64 ((k2:Nat):Int))),(55,.v (.slice A l.length c)),(56,.v (.int .i64 ((l.length:Nat):Int))),(57,.v (.int .i64 ((q:Nat):Int))),(85,.v (.slice aO ((qaP W l (Tree.mk n1 s2 b3 l4 u5) k2 ++ dm ++ (uv k2)).length) aP)),(88,.v (.int .u64 (IntKind.u64.wrap (((W (Fld.mk ab ac ae af aa ag ah ai) (Tree.at_ (Tree.mk n1 s2 b3 l4 u5) q)).length:Nat):Int))))] dX gz fun nI gA=>?_
     have gB:IntKind.u64.wrap (((W (Fld.mk ab ac ae af aa ag ah ai) (Tree.at_ (Tree.mk n1 s2 b3 l4 u5) q)).length:Nat):Int) = (((W (Fld.mk ab ac ae af aa ag ah ai) (Tree.at_ (Tree.mk n1 s2 b3 l4 u5) q)).length:Nat):Int):=by simp only [qaV,qaA,qbO,IntKind.wrap_i64,IntKind.wrap_i32]; omega
     have gC:=EnvOk.pick gA (ks:=[0,1,2,7,9,11,14,17,51,52,55,56,57,85,88]) (env':=[(0,.v (.slice A l.length c)),(1,.v (.int .i64 v)),(2,.v (.bool flex)),(7,.p 0 0),(9,.v (.slice A_ ((qa1 W l v (Tree.mk n1 s2 b3 l4 u5) 0).length) c_)),(11,.v (.int .i64 ((qa4 W l (Tree.mk n1 s2 b3 l4 u5) k2 + cn:Nat):Int))),(14,.v (.int .i64 ((k2:Nat):Int))),(17,.v (.slice av ((W (Fld.mk ab ac ae af aa ag ah ai) (Tree.at_ (Tree.mk n1 s2 b3 l4 u5) q)).length) aw)),(51,.v (.int .i64 (((qaC l).toNat:Nat):Int))),(52,.v (.int .i64 ((k2:Nat):Int))),(55,.v (.slice A l.length c)),(56,.v (.int .i64 ((l.length:Nat):Int))),(57,.v (.int .i64 ((q:Nat):Int))),(85,.v (.slice aO ((qaP W l (Tree.mk n1 s2 b3 l4 u5) k2 ++ dm ++ (uv k2)).length) aP)),(88,.v (.int .u64 (IntKind.u64.wrap (((W (Fld.mk ab ac ae af aa ag ah ai) (Tree.at_ (Tree.mk n1 s2 b3 l4 u5) q)).length:Nat):Int))))]) kz
     have gD:=gC
     rw [gB] at gD
     refine qal (qak gD (f:=64) (vs:=[.int .u64 (((W (Fld.mk ab ac ae af aa ag ah ai) (Tree.at_ (Tree.mk n1 s2 b3 l4 u5) q)).length:Nat):Int)]) (d:=89) kz Tryz.call64 (qd7 ((W (Fld.mk ab ac ae af aa ag ah ai) (Tree.at_ (Tree.mk n1 s2 b3 l4 u5) q)).length) (by omega) _) ?_)
     rintro e_ nJ ⟨cz,cA,rfl,gE,gF⟩
     refine ⟨_,rfl,fun nK gG=>?_⟩
     obtain ⟨dg,gH⟩:=dX.frFresh gF (brow cz cA 5 (uv ((W (Fld.mk ab ac ae af aa ag ah ai) (Tree.at_ (Tree.mk n1 s2 b3 l4 u5) q)).length))) (Nat.le_refl _) gE
     refine qal (qaR dg gG (k:=1) (d:=90) (t:=22) (e:=5) (size:=1) (bytes:=1) (A:=aO) (As:=cz) (m0:=((qaP W l (Tree.mk n1 s2 b3 l4 u5) k2 ++ dm ++ (uv k2)).length)) (c:=aP) (m:=((uv ((W (Fld.mk ab ac ae af aa ag ah ai) (Tree.at_ (Tree.mk n1 s2 b3 l4 u5) q)).length)).length)) (cs:=cA) (xs:=(bc (qaP W l (Tree.mk n1 s2 b3 l4 u5) k2 ++ dm ++ (uv k2)))) (news:=bc (uv ((W (Fld.mk ab ac ae af aa ag ah ai) (Tree.at_ (Tree.mk n1 s2 b3 l4 u5) q)).length))) kz kz rfl (qby (dg.own 4 _ rfl) (qdC _)) (qbE (dg.own 4 _ rfl)) (by have h_:=congrArg List.length hB2; rw [qd4 ap (by omega) (by simpa using ay)] at h_; simp only [List.length_append] at h_ ⊢; omega) fun aZ ba nL nM gI gJ gK=>?_)
     have gL:(⟨aZ,ba,5,1,(qaP W l (Tree.mk n1 s2 b3 l4 u5) k2 ++ dm ++ (uv k2)).length + (uv ((W (Fld.mk ab ac ae af aa ag ah ai) (Tree.at_ (Tree.mk n1 s2 b3 l4 u5) q)).length)).length,bc (qaP W l (Tree.mk n1 s2 b3 l4 u5) k2 ++ dm ++ (uv k2)) ++ bc (uv ((W (Fld.mk ab ac ae af aa ag ah ai) (Tree.at_ (Tree.mk n1 s2 b3 l4 u5) q)).length))⟩:Rw) = brow aZ ba 5 (qaP W l (Tree.mk n1 s2 b3 l4 u5) k2 ++ dm ++ (uv k2) ++ (uv ((W (Fld.mk ab ac ae af aa ag ah ai) (Tree.at_ (Tree.mk n1 s2 b3 l4 u5) q)).length))):=qcg (rfl) rfl
     obtain ⟨bZ,gM⟩:=gJ.rowEq 1 [brow A_ c_ 5 (qa1 W l v (Tree.mk n1 s2 b3 l4 u5) 0),brow aZ ba 5 (qaP W l (Tree.mk n1 s2 b3 l4 u5) k2 ++ dm ++ (uv k2) ++ (uv ((W (Fld.mk ab ac ae af aa ag ah ai) (Tree.at_ (Tree.mk n1 s2 b3 l4 u5) q)).length))),brow av aw 5 (W (Fld.mk ab ac ae af aa ag ah ai) (Tree.at_ (Tree.mk n1 s2 b3 l4 u5) q)),brow bH bI 5 (uv k2),brow cz cA 5 (uv ((W (Fld.mk ab ac ae af aa ag ah ai) (Tree.at_ (Tree.mk n1 s2 b3 l4 u5) q)).length))] gL
     have gN:=EnvOk.pick gK (ks:=[0,1,2,7,9,11,14,17,51,52,55,56,57,85,88,89,90]) (env':=[(0,.v (.slice A l.length c)),(1,.v (.int .i64 v)),(2,.v (.bool flex)),(7,.p 0 0),(9,.v (.slice A_ ((qa1 W l v (Tree.mk n1 s2 b3 l4 u5) 0).length) c_)),(11,.v (.int .i64 ((qa4 W l (Tree.mk n1 s2 b3 l4 u5) k2 + cn:Nat):Int))),(14,.v (.int .i64 ((k2:Nat):Int))),(17,.v (.slice av ((W (Fld.mk ab ac ae af aa ag ah ai) (Tree.at_ (Tree.mk n1 s2 b3 l4 u5) q)).length) aw)),(51,.v (.int .i64 (((qaC l).toNat:Nat):Int))),(52,.v (.int .i64 ((k2:Nat):Int))),(55,.v (.slice A l.length c)),(56,.v (.int .i64 ((l.length:Nat):Int))),(57,.v (.int .i64 ((q:Nat):Int))),(85,.v (.slice aO ((qaP W l (Tree.mk n1 s2 b3 l4 u5) k2 ++ dm ++ (uv k2)).length) aP)),(88,.v (.int .u64 (((W (Fld.mk ab ac ae af aa ag ah ai) (Tree.at_ (Tree.mk n1 s2 b3 l4 u5) q)).length:Nat):Int))),(89,.v (.slice cz ((uv ((W (Fld.mk ab ac ae af aa ag ah ai) (Tree.at_ (Tree.mk n1 s2 b3 l4 u5) q)).length)).length) cA)),(90,.v (.slice aZ ((qaP W l (Tree.mk n1 s2 b3 l4 u5) k2 ++ dm ++ (uv k2)).length + (uv ((W (Fld.mk ab ac ae af aa ag ah ai) (Tree.at_ (Tree.mk n1 s2 b3 l4 u5) q)).length)).length) ba))]) kz
     have gO:=gN.cast (env':=[(0,.v (.slice A l.length c)),(1,.v (.int .i64 v)),(2,.v (.bool flex)),(7,.p 0 0),(9,.v (.slice A_ ((qa1 W l v (Tree.mk n1 s2 b3 l4 u5) 0).length) c_)),(11,.v (.int .i64 ((qa4 W l (Tree.mk n1 s2 b3 l4 u5) k2 + cn:Nat):Int))),(14,.v (.int .i64 ((k2:Nat):Int))),(17,.v (.slice av ((W (Fld.mk ab ac ae af aa ag ah ai) (Tree.at_ (Tree.mk n1 s2 b3 l4 u5) q)).length) aw)),(51,.v (.int .i64 (((qaC l).toNat:Nat):Int))),(52,.v (.int .i64 ((k2:Nat):Int))),(55,.v (.slice A l.length c)),(56,.v (.int .i64 ((l.length:Nat):Int))),(57,.v (.int .i64 ((q:Nat):Int))),(85,.v (.slice aO ((qaP W l (Tree.mk n1 s2 b3 l4 u5) k2 ++ dm ++ (uv k2)).length) aP)),(88,.v (.int .u64 (((W (Fld.mk ab ac ae af aa ag ah ai) (Tree.at_ (Tree.mk n1 s2 b3 l4 u5) q)).length:Nat):Int))),(89,.v (.slice cz ((uv ((W (Fld.mk ab ac ae af aa ag ah ai) (Tree.at_ (Tree.mk n1 s2 b3 l4 u5) q)).length)).length) cA)),(90,.v (.slice aZ ((qaP W l (Tree.mk n1 s2 b3 l4 u5) k2 ++ dm ++ (uv k2) ++ (uv ((W (Fld.mk ab ac ae af aa ag ah ai) (Tree.at_ (Tree.mk n1 s2 b3 l4 u5) q)).length))).length) ba))]) (by simp only [List.length_append,List.length_cons,List.length_nil,Nat.zero_add])
     refine qai [10] [11,12] [(0,.v (.slice A l.length c)),(1,.v (.int .i64 v)),(2,.v (.bool flex)),(7,.p 0 0),(9,.v (.slice A_ ((qa1 W l v (Tree.mk n1 s2 b3 l4 u5) 0).length) c_)),(11,.v (.int .i64 ((qa4 W l (Tree.mk n1 s2 b3 l4 u5) k2 + cn:Nat):Int))),(14,.v (.int .i64 ((k2:Nat):Int))),(51,.v (.int .i64 (((qaC l).toNat:Nat):Int))),(52,.v (.int .i64 ((k2:Nat):Int))),(55,.v (.slice A l.length c)),(56,.v (.int .i64 ((l.length:Nat):Int))),(57,.v (.int .i64 ((q:Nat):Int))),(90,.v (.slice aZ ((qaP W l (Tree.mk n1 s2 b3 l4 u5) k2 ++ dm ++ (uv k2) ++ (uv ((W (Fld.mk ab ac ae af aa ag ah ai) (Tree.at_ (Tree.mk n1 s2 b3 l4 u5) q)).length))).length) ba)),(91,.v (.slice av ((W (Fld.mk ab ac ae af aa ag ah ai) (Tree.at_ (Tree.mk n1 s2 b3 l4 u5) q)).length) aw))] bZ gO fun nN gP=>?_
     refine qal (qaR bZ gP (k:=1) (d:=92) (t:=22) (e:=5) (size:=1) (bytes:=1) (A:=aZ) (As:=av) (m0:=((qaP W l (Tree.mk n1 s2 b3 l4 u5) k2 ++ dm ++ (uv k2) ++ (uv ((W (Fld.mk ab ac ae af aa ag ah ai) (Tree.at_ (Tree.mk n1 s2 b3 l4 u5) q)).length))).length)) (c:=ba) (m:=((W (Fld.mk ab ac ae af aa ag ah ai) (Tree.at_ (Tree.mk n1 s2 b3 l4 u5) q)).length)) (cs:=aw) (xs:=(bc (qaP W l (Tree.mk n1 s2 b3 l4 u5) k2 ++ dm ++ (uv k2) ++ (uv ((W (Fld.mk ab ac ae af aa ag ah ai) (Tree.at_ (Tree.mk n1 s2 b3 l4 u5) q)).length))))) (news:=bc (W (Fld.mk ab ac ae af aa ag ah ai) (Tree.at_ (Tree.mk n1 s2 b3 l4 u5) q))) kz kz rfl (qby (bZ.own 2 _ rfl) (qdC _)) (qbE (bZ.own 2 _ rfl)) (by have h_:=congrArg List.length hB2; rw [qd4 ap (by omega) (by simpa using ay)] at h_; simp only [List.length_append] at h_ ⊢; omega) fun aI aJ nO nP gQ gR gS=>?_)
     have gT:(⟨aI,aJ,5,1,(qaP W l (Tree.mk n1 s2 b3 l4 u5) k2 ++ dm ++ (uv k2) ++ (uv ((W (Fld.mk ab ac ae af aa ag ah ai) (Tree.at_ (Tree.mk n1 s2 b3 l4 u5) q)).length))).length + (W (Fld.mk ab ac ae af aa ag ah ai) (Tree.at_ (Tree.mk n1 s2 b3 l4 u5) q)).length,bc (qaP W l (Tree.mk n1 s2 b3 l4 u5) k2 ++ dm ++ (uv k2) ++ (uv ((W (Fld.mk ab ac ae af aa ag ah ai) (Tree.at_ (Tree.mk n1 s2 b3 l4 u5) q)).length))) ++ bc (W (Fld.mk ab ac ae af aa ag ah ai) (Tree.at_ (Tree.mk n1 s2 b3 l4 u5) q))⟩:Rw) = brow aI aJ 5 (qaP W l (Tree.mk n1 s2 b3 l4 u5) k2 ++ dm ++ (uv k2) ++ (uv ((W (Fld.mk ab ac ae af aa ag ah ai) (Tree.at_ (Tree.mk n1 s2 b3 l4 u5) q)).length)) ++ (W (Fld.mk ab ac ae af aa ag ah ai) (Tree.at_ (Tree.mk n1 s2 b3 l4 u5) q))):=qcg (rfl) rfl
     obtain ⟨b8,gU⟩:=gR.rowEq 1 [brow A_ c_ 5 (qa1 W l v (Tree.mk n1 s2 b3 l4 u5) 0),brow aI aJ 5 (qaP W l (Tree.mk n1 s2 b3 l4 u5) k2 ++ dm ++ (uv k2) ++ (uv ((W (Fld.mk ab ac ae af aa ag ah ai) (Tree.at_ (Tree.mk n1 s2 b3 l4 u5) q)).length)) ++ (W (Fld.mk ab ac ae af aa ag ah ai) (Tree.at_ (Tree.mk n1 s2 b3 l4 u5) q))),brow av aw 5 (W (Fld.mk ab ac ae af aa ag ah ai) (Tree.at_ (Tree.mk n1 s2 b3 l4 u5) q)),brow bH bI 5 (uv k2),brow cz cA 5 (uv ((W (Fld.mk ab ac ae af aa ag ah ai) (Tree.at_ (Tree.mk n1 s2 b3 l4 u5) q)).length))] gT
     have gV:=EnvOk.pick gS (ks:=[0,1,2,7,9,11,14,51,52,55,56,57,90,91,92]) (env':=[(0,.v (.slice A l.length c)),(1,.v (.int .i64 v)),(2,.v (.bool flex)),(7,.p 0 0),(9,.v (.slice A_ ((qa1 W l v (Tree.mk n1 s2 b3 l4 u5) 0).length) c_)),(11,.v (.int .i64 ((qa4 W l (Tree.mk n1 s2 b3 l4 u5) k2 + cn:Nat):Int))),(14,.v (.int .i64 ((k2:Nat):Int))),(51,.v (.int .i64 (((qaC l).toNat:Nat):Int))),(52,.v (.int .i64 ((k2:Nat):Int))),(55,.v (.slice A l.length c)),(56,.v (.int .i64 ((l.length:Nat):Int))),(57,.v (.int .i64 ((q:Nat):Int))),(90,.v (.slice aZ ((qaP W l (Tree.mk n1 s2 b3 l4 u5) k2 ++ dm ++ (uv k2) ++ (uv ((W (Fld.mk ab ac ae af aa ag ah ai) (Tree.at_ (Tree.mk n1 s2 b3 l4 u5) q)).length))).length) ba)),(91,.v (.slice av ((W (Fld.mk ab ac ae af aa ag ah ai) (Tree.at_ (Tree.mk n1 s2 b3 l4 u5) q)).length) aw)),(92,.v (.slice aI ((qaP W l (Tree.mk n1 s2 b3 l4 u5) k2 ++ dm ++ (uv k2) ++ (uv ((W (Fld.mk ab ac ae af aa ag ah ai) (Tree.at_ (Tree.mk n1 s2 b3 l4 u5) q)).length))).length + (W (Fld.mk ab ac ae af aa ag ah ai) (Tree.at_ (Tree.mk n1 s2 b3 l4 u5) q)).length) aJ))]) kz
     have gW:=gV.cast (env':=[(0,.v (.slice A l.length c)),(1,.v (.int .i64 v)),(2,.v (.bool flex)),(7,.p 0 0),(9,.v (.slice A_ ((qa1 W l v (Tree.mk n1 s2 b3 l4 u5) 0).length) c_)),(11,.v (.int .i64 ((qa4 W l (Tree.mk n1 s2 b3 l4 u5) k2 + cn:Nat):Int))),(14,.v (.int .i64 ((k2:Nat):Int))),(51,.v (.int .i64 (((qaC l).toNat:Nat):Int))),(52,.v (.int .i64 ((k2:Nat):Int))),(55,.v (.slice A l.length c)),(56,.v (.int .i64 ((l.length:Nat):Int))),(57,.v (.int .i64 ((q:Nat):Int))),(90,.v (.slice aZ ((qaP W l (Tree.mk n1 s2 b3 l4 u5) k2 ++ dm ++ (uv k2) ++ (uv ((W (Fld.mk ab ac ae af aa ag ah ai) (Tree.at_ (Tree.mk n1 s2 b3 l4 u5) q)).length))).length) ba)),(91,.v (.slice av ((W (Fld.mk ab ac ae af aa ag ah ai) (Tree.at_ (Tree.mk n1 s2 b3 l4 u5) q)).length) aw)),(92,.v (.slice aI ((qaP W l (Tree.mk n1 s2 b3 l4 u5) k2 ++ dm ++ (uv k2) ++ (uv ((W (Fld.mk ab ac ae af aa ag ah ai) (Tree.at_ (Tree.mk n1 s2 b3 l4 u5) q)).length)) ++ (W (Fld.mk ab ac ae af aa ag ah ai) (Tree.at_ (Tree.mk n1 s2 b3 l4 u5) q))).length) aJ))]) (by simp only [List.length_append,List.length_cons,List.length_nil,Nat.zero_add])
     refine qai [12] [] [(0,.v (.slice A l.length c)),(1,.v (.int .i64 v)),(2,.v (.bool flex)),(7,.p 0 0),(9,.v (.slice A_ ((qa1 W l v (Tree.mk n1 s2 b3 l4 u5) 0).length) c_)),(10,.v (.slice aI ((qaP W l (Tree.mk n1 s2 b3 l4 u5) k2 ++ dm ++ (uv k2) ++ (uv ((W (Fld.mk ab ac ae af aa ag ah ai) (Tree.at_ (Tree.mk n1 s2 b3 l4 u5) q)).length)) ++ (W (Fld.mk ab ac ae af aa ag ah ai) (Tree.at_ (Tree.mk n1 s2 b3 l4 u5) q))).length) aJ)),(11,.v (.int .i64 ((qa4 W l (Tree.mk n1 s2 b3 l4 u5) k2 + cn:Nat):Int))),(14,.v (.int .i64 ((k2:Nat):Int))),(51,.v (.int .i64 (((qaC l).toNat:Nat):Int))),(52,.v (.int .i64 ((k2:Nat):Int))),(55,.v (.slice A l.length c)),(56,.v (.int .i64 ((l.length:Nat):Int))),(57,.v (.int .i64 ((q:Nat):Int)))] b8 gW fun nQ gX=>?_
     refine qae (qab ?_)
     refine qap [0,1,2] kz ?_
     refine qai [0,1,2] [] [(0,.v (.slice A l.length c)),(1,.v (.int .i64 v)),(2,.v (.bool flex)),(7,.p 0 0),(9,.v (.slice A_ ((qa1 W l v (Tree.mk n1 s2 b3 l4 u5) 0).length) c_)),(10,.v (.slice aI ((qaP W l (Tree.mk n1 s2 b3 l4 u5) k2 ++ dm ++ (uv k2) ++ (uv ((W (Fld.mk ab ac ae af aa ag ah ai) (Tree.at_ (Tree.mk n1 s2 b3 l4 u5) q)).length)) ++ (W (Fld.mk ab ac ae af aa ag ah ai) (Tree.at_ (Tree.mk n1 s2 b3 l4 u5) q))).length) aJ)),(11,.v (.int .i64 (IntKind.i64.wrap (((qa4 W l (Tree.mk n1 s2 b3 l4 u5) k2 + cn:Nat):Int) + 1)))),(14,.v (.int .i64 ((k2:Nat):Int))),(51,.v (.int .i64 (((qaC l).toNat:Nat):Int))),(52,.v (.int .i64 ((k2:Nat):Int))),(55,.v (.slice A l.length c)),(56,.v (.int .i64 ((l.length:Nat):Int))),(57,.v (.int .i64 ((q:Nat):Int)))] b8 gX fun nR gY=>?_
     refine qae (qar (qab (qap [0,1] kz ?_)))
     refine qai [0,1] [] [(0,.v (.slice A l.length c)),(1,.v (.int .i64 v)),(2,.v (.bool flex)),(7,.p 0 0),(9,.v (.slice A_ ((qa1 W l v (Tree.mk n1 s2 b3 l4 u5) 0).length) c_)),(10,.v (.slice aI ((qaP W l (Tree.mk n1 s2 b3 l4 u5) k2 ++ dm ++ (uv k2) ++ (uv ((W (Fld.mk ab ac ae af aa ag ah ai) (Tree.at_ (Tree.mk n1 s2 b3 l4 u5) q)).length)) ++ (W (Fld.mk ab ac ae af aa ag ah ai) (Tree.at_ (Tree.mk n1 s2 b3 l4 u5) q))).length) aJ)),(11,.v (.int .i64 (IntKind.i64.wrap (((qa4 W l (Tree.mk n1 s2 b3 l4 u5) k2 + cn:Nat):Int) + 1)))),(14,.v (.int .i64 ((k2:Nat):Int))),(51,.v (.int .i64 (((qaC l).toNat:Nat):Int))),(52,.v (.int .i64 ((k2:Nat):Int))),(55,.v (.slice A l.length c)),(56,.v (.int .i64 ((l.length:Nat):Int))),(57,.v (.int .i64 (IntKind.i64.wrap (((q:Nat):Int) + 1))))] b8 gY fun nS gZ=>?_
     refine qae (qab ?_)
     obtain ⟨cd,g7,g8⟩:=b8.cutB gZ 1 (z99 cG n1 A6 s2.length c7 b3 A8 l4.length c9 aU u5.length aV) [(0,.v (.slice A l.length c)),(1,.v (.int .i64 v)),(2,.v (.bool flex)),(7,.p 0 0),(9,.v (.slice A_ ((qa1 W l v (Tree.mk n1 s2 b3 l4 u5) 0).length) c_)),(10,.v (.slice aI ((qaP W l (Tree.mk n1 s2 b3 l4 u5) k2 ++ dm ++ (uv k2) ++ (uv ((W (Fld.mk ab ac ae af aa ag ah ai) (Tree.at_ (Tree.mk n1 s2 b3 l4 u5) q)).length)) ++ (W (Fld.mk ab ac ae af aa ag ah ai) (Tree.at_ (Tree.mk n1 s2 b3 l4 u5) q))).length) aJ)),(11,.v (.int .i64 (IntKind.i64.wrap (((qa4 W l (Tree.mk n1 s2 b3 l4 u5) k2 + cn:Nat):Int) + 1)))),(14,.v (.int .i64 ((k2:Nat):Int))),(51,.v (.int .i64 (((qaC l).toNat:Nat):Int))),(52,.v (.int .i64 ((k2:Nat):Int))),(55,.v (.slice A l.length c)),(56,.v (.int .i64 ((l.length:Nat):Int))),(57,.v (.int .i64 (IntKind.i64.wrap (((q:Nat):Int) + 1))))]
     obtain ⟨g9,hC⟩:=g7.cutR 2 [brow A_ c_ 5 (qa1 W l v (Tree.mk n1 s2 b3 l4 u5) 0),brow aI aJ 5 (qaP W l (Tree.mk n1 s2 b3 l4 u5) k2 ++ dm ++ (uv k2) ++ (uv ((W (Fld.mk ab ac ae af aa ag ah ai) (Tree.at_ (Tree.mk n1 s2 b3 l4 u5) q)).length)) ++ (W (Fld.mk ab ac ae af aa ag ah ai) (Tree.at_ (Tree.mk n1 s2 b3 l4 u5) q)))]
     have dY:(qaP W l (Tree.mk n1 s2 b3 l4 u5) k2 ++ dm ++ (uv k2) ++ (uv ((W (Fld.mk ab ac ae af aa ag ah ai) (Tree.at_ (Tree.mk n1 s2 b3 l4 u5) q)).length)) ++ (W (Fld.mk ab ac ae af aa ag ah ai) (Tree.at_ (Tree.mk n1 s2 b3 l4 u5) q))) = (qaP W l (Tree.mk n1 s2 b3 l4 u5) k2 ++ (dm ++ (uv k2 ++ uv (W (Fld.mk ab ac ae af aa ag ah ai) (Tree.at_ (Tree.mk n1 s2 b3 l4 u5) q)).length ++ W (Fld.mk ab ac ae af aa ag ah ai) (Tree.at_ (Tree.mk n1 s2 b3 l4 u5) q)))):=by simp only [List.append_assoc]
     have hJ:=congrArg (brow aI aJ 5) dY
     obtain ⟨hK,hZ⟩:=g9.rowEq 1 [brow A_ c_ 5 (qa1 W l v (Tree.mk n1 s2 b3 l4 u5) 0),brow aI aJ 5 (qaP W l (Tree.mk n1 s2 b3 l4 u5) k2 ++ (dm ++ (uv k2 ++ uv (W (Fld.mk ab ac ae af aa ag ah ai) (Tree.at_ (Tree.mk n1 s2 b3 l4 u5) q)).length ++ W (Fld.mk ab ac ae af aa ag ah ai) (Tree.at_ (Tree.mk n1 s2 b3 l4 u5) q))))] hJ
     rw [dY] at cd
     have ia:IntKind.i64.wrap (((q:Nat):Int) + 1) = ((q + 1:Nat):Int):=qaO (by omega)
     rw [ia] at cd
     have ib:IntKind.i64.wrap (((qa4 W l (Tree.mk n1 s2 b3 l4 u5) k2 + cn:Nat):Int) + 1) = ((qa4 W l (Tree.mk n1 s2 b3 l4 u5) k2 + (cn + 1):Nat):Int):=by rw [wrap_i64 (by omega) (by omega)]; omega
     rw [ib] at cd
     exact ⟨l.length - (q + 1),by omega,q + 1,aI,aJ,(dm ++ (uv k2 ++ uv (W (Fld.mk ab ac ae af aa ag ah ai) (Tree.at_ (Tree.mk n1 s2 b3 l4 u5) q)).length ++ W (Fld.mk ab ac ae af aa ag ah ai) (Tree.at_ (Tree.mk n1 s2 b3 l4 u5) q))),(cn + 1),rfl,by omega,by rw [List.append_assoc,← qd4 ap (by omega) (by simpa using ay)]; exact hB2,by rw [Nat.add_assoc,← qkb ap (by omega) (by simpa using ay)]; exact hN2,cd.pk,hK,(((((((((((((((((((bT.trans cV).trans cW).trans cX).trans bV).trans c6).trans fZ).trans de).trans dW).trans gp).trans gq).trans gx).trans gH).trans gI).trans gM).trans gQ).trans gU).trans g8).trans hC).trans hZ)⟩
    refine wp_skip (qar (qab (qap [0,1] kz ?_)))
    refine qai [0,1] [] [(0,.v (.slice A l.length c)),(1,.v (.int .i64 v)),(2,.v (.bool flex)),(7,.p 0 0),(9,.v (.slice A_ ((qa1 W l v (Tree.mk n1 s2 b3 l4 u5) 0).length) c_)),(10,.v (.slice A3_ ((qaP W l (Tree.mk n1 s2 b3 l4 u5) k2 ++ dm).length) c3_)),(11,.v (.int .i64 ((qa4 W l (Tree.mk n1 s2 b3 l4 u5) k2 + cn:Nat):Int))),(14,.v (.int .i64 ((k2:Nat):Int))),(51,.v (.int .i64 (((qaC l).toNat:Nat):Int))),(52,.v (.int .i64 ((k2:Nat):Int))),(55,.v (.slice A l.length c)),(56,.v (.int .i64 ((l.length:Nat):Int))),(57,.v (.int .i64 (IntKind.i64.wrap (((q:Nat):Int) + 1))))] bW da fun nT ic=>?_
    refine qae (qab ?_)
    obtain ⟨dZ,ig,ii⟩:=bW.cutB ic 1 (z99 cG n1 A6 s2.length c7 b3 A8 l4.length c9 aU u5.length aV) [(0,.v (.slice A l.length c)),(1,.v (.int .i64 v)),(2,.v (.bool flex)),(7,.p 0 0),(9,.v (.slice A_ ((qa1 W l v (Tree.mk n1 s2 b3 l4 u5) 0).length) c_)),(10,.v (.slice A3_ ((qaP W l (Tree.mk n1 s2 b3 l4 u5) k2 ++ dm).length) c3_)),(11,.v (.int .i64 ((qa4 W l (Tree.mk n1 s2 b3 l4 u5) k2 + cn:Nat):Int))),(14,.v (.int .i64 ((k2:Nat):Int))),(51,.v (.int .i64 (((qaC l).toNat:Nat):Int))),(52,.v (.int .i64 ((k2:Nat):Int))),(55,.v (.slice A l.length c)),(56,.v (.int .i64 ((l.length:Nat):Int))),(57,.v (.int .i64 (IntKind.i64.wrap (((q:Nat):Int) + 1))))]
    have ij:IntKind.i64.wrap (((q:Nat):Int) + 1) = ((q + 1:Nat):Int):=qaO (by omega)
    rw [ij] at dZ
    exact ⟨l.length - (q + 1),by omega,q + 1,A3_,c3_,dm,cn,rfl,by omega,by rw [← qjf ap (by simpa using ay)]; exact hB2,by rw [← qjh ap (by simpa using ay)]; exact hN2,dZ.pk,ig,((((((bT.trans cV).trans cW).trans cX).trans bV).trans c6).trans ii)⟩
   have lF:aa ≠ ((k2:Nat):Int):=by simpa using bp
   have ik:=dT.cast (env':=[(0,.v (.slice A l.length c)),(1,.v (.int .i64 v)),(2,.v (.bool flex)),(7,.p 0 0),(9,.v (.slice A_ ((qa1 W l v (Tree.mk n1 s2 b3 l4 u5) 0).length) c_)),(10,.v (.slice A3_ ((qaP W l (Tree.mk n1 s2 b3 l4 u5) k2 ++ dm).length) c3_)),(11,.v (.int .i64 ((qa4 W l (Tree.mk n1 s2 b3 l4 u5) k2 + cn:Nat):Int))),(14,.v (.int .i64 ((k2:Nat):Int))),(15,.v (.int .i64 ((q:Nat):Int))),(16,.p 1 0),(51,.v (.int .i64 (((qaC l).toNat:Nat):Int))),(52,.v (.int .i64 ((k2:Nat):Int))),(55,.v (.slice A l.length c)),(56,.v (.int .i64 ((l.length:Nat):Int))),(57,.v (.int .i64 ((q:Nat):Int))),(66,.v (.bool false))]) (by rw [bp])
   refine qaB [5,6,7,8,9,10,11] [(0,.v (.slice A l.length c)),(1,.v (.int .i64 v)),(2,.v (.bool flex)),(7,.p 0 0),(9,.v (.slice A_ ((qa1 W l v (Tree.mk n1 s2 b3 l4 u5) 0).length) c_)),(10,.v (.slice A3_ ((qaP W l (Tree.mk n1 s2 b3 l4 u5) k2 ++ dm).length) c3_)),(11,.v (.int .i64 ((qa4 W l (Tree.mk n1 s2 b3 l4 u5) k2 + cn:Nat):Int))),(14,.v (.int .i64 ((k2:Nat):Int))),(15,.v (.int .i64 ((q:Nat):Int))),(16,.p 1 0),(51,.v (.int .i64 (((qaC l).toNat:Nat):Int))),(52,.v (.int .i64 ((k2:Nat):Int))),(55,.v (.slice A l.length c)),(56,.v (.int .i64 ((l.length:Nat):Int))),(57,.v (.int .i64 ((q:Nat):Int))),(73,.v (.bool false))] 0 (qaa (qac (qaa (qaa (qac (qac (qaa (qaa (qac (qaa qad)))))))))) (fun _ h=>h.cells) cY ik fun nU d5=>?_
   refine qaz kz ?_ _
   refine qab (qan d5 (b:=false) kz rfl ?_)
   refine wp_skip (qar (qab (qap [0,1] kz ?_)))
   refine qai [0,1] [] [(0,.v (.slice A l.length c)),(1,.v (.int .i64 v)),(2,.v (.bool flex)),(7,.p 0 0),(9,.v (.slice A_ ((qa1 W l v (Tree.mk n1 s2 b3 l4 u5) 0).length) c_)),(10,.v (.slice A3_ ((qaP W l (Tree.mk n1 s2 b3 l4 u5) k2 ++ dm).length) c3_)),(11,.v (.int .i64 ((qa4 W l (Tree.mk n1 s2 b3 l4 u5) k2 + cn:Nat):Int))),(14,.v (.int .i64 ((k2:Nat):Int))),(51,.v (.int .i64 (((qaC l).toNat:Nat):Int))),(52,.v (.int .i64 ((k2:Nat):Int))),(55,.v (.slice A l.length c)),(56,.v (.int .i64 ((l.length:Nat):Int))),(57,.v (.int .i64 (IntKind.i64.wrap (((q:Nat):Int) + 1))))] aN d5 fun nV il=>?_
   refine qae (qab ?_)
   obtain ⟨d6,im,io⟩:=aN.cutB il 1 (z99 cG n1 A6 s2.length c7 b3 A8 l4.length c9 aU u5.length aV) [(0,.v (.slice A l.length c)),(1,.v (.int .i64 v)),(2,.v (.bool flex)),(7,.p 0 0),(9,.v (.slice A_ ((qa1 W l v (Tree.mk n1 s2 b3 l4 u5) 0).length) c_)),(10,.v (.slice A3_ ((qaP W l (Tree.mk n1 s2 b3 l4 u5) k2 ++ dm).length) c3_)),(11,.v (.int .i64 ((qa4 W l (Tree.mk n1 s2 b3 l4 u5) k2 + cn:Nat):Int))),(14,.v (.int .i64 ((k2:Nat):Int))),(51,.v (.int .i64 (((qaC l).toNat:Nat):Int))),(52,.v (.int .i64 ((k2:Nat):Int))),(55,.v (.slice A l.length c)),(56,.v (.int .i64 ((l.length:Nat):Int))),(57,.v (.int .i64 (IntKind.i64.wrap (((q:Nat):Int) + 1))))]
   have ip:IntKind.i64.wrap (((q:Nat):Int) + 1) = ((q + 1:Nat):Int):=qaO (by omega)
   rw [ip] at d6
   exact ⟨l.length - (q + 1),by omega,q + 1,A3_,c3_,dm,cn,rfl,by omega,by rw [← qje ap (by omega)]; exact hB2,by rw [← qjg ap (by omega)]; exact hN2,d6.pk,im,((((bT.trans cV).trans cW).trans cX).trans io)⟩
  have lG:=of_decide_eq_false cS
  refine wp_exit (qau (qau (qaI (qar (qab (qap [0,1] kz ?_))))))
  refine qai [0,1] [] [(0,.v (.slice A l.length c)),(1,.v (.int .i64 v)),(2,.v (.bool flex)),(7,.p 0 0),(9,.v (.slice A_ ((qa1 W l v (Tree.mk n1 s2 b3 l4 u5) 0).length) c_)),(10,.v (.slice A3_ ((qaP W l (Tree.mk n1 s2 b3 l4 u5) k2 ++ dm).length) c3_)),(11,.v (.int .i64 ((qa4 W l (Tree.mk n1 s2 b3 l4 u5) k2 + cn:Nat):Int))),(51,.v (.int .i64 (((qaC l).toNat:Nat):Int))),(52,.v (.int .i64 (IntKind.i64.wrap (((k2:Nat):Int) + 1))))] aY cR fun nW ce=>?_
  refine qae (qab ?_)
  have d7:(qaP W l (Tree.mk n1 s2 b3 l4 u5) k2 ++ dm) = (qaP W l (Tree.mk n1 s2 b3 l4 u5) (k2 + 1)):=by rw [qaP,← hB2,qka (by omega),List.append_nil]
  have iq:=congrArg (brow A3_ c3_ 5) d7
  obtain ⟨ir,iu⟩:=aY.rowEq 1 [brow A_ c_ 5 (qa1 W l v (Tree.mk n1 s2 b3 l4 u5) 0),brow A3_ c3_ 5 (qaP W l (Tree.mk n1 s2 b3 l4 u5) (k2 + 1))] iq
  rw [d7] at ce
  have iv:IntKind.i64.wrap (((k2:Nat):Int) + 1) = ((k2 + 1:Nat):Int):=qaO (by omega)
  rw [iv] at ce
  have iw:((qa4 W l (Tree.mk n1 s2 b3 l4 u5) k2 + cn:Nat):Int) = ((qa4 W l (Tree.mk n1 s2 b3 l4 u5) (k2 + 1):Nat):Int):=by rw [qa4,← hN2,qkc (by omega),Nat.add_zero]
  rw [iw] at ce
  exact ⟨(qaC l).toNat - (k2 + 1),by omega,k2 + 1,A3_,c3_,rfl,by omega,ce.pk,ir,(((fG.trans fJ).trans bT).trans iu)⟩
 have lH:=of_decide_eq_false cQ
 refine wp_exit (qau (qau (qaI (qab (wp_seq (qaf [0,1,2,3,4,5] kz ?_))))))
 refine qai [0,1,2] [3,4,5] [(9,.v (.slice A_ ((qa1 W l v (Tree.mk n1 s2 b3 l4 u5) 0).length) c_)),(10,.v (.slice A2_ ((qaP W l (Tree.mk n1 s2 b3 l4 u5) k2).length) c2_)),(11,.v (.int .i64 ((qa4 W l (Tree.mk n1 s2 b3 l4 u5) k2:Nat):Int))),(97,.v (.slice A l.length c)),(99,.v (.slice aU u5.length aV))] ao cP fun nX ix=>?_
 refine qal (qak ix (f:=35) (vs:=[.slice A l.length c,.slice aU u5.length aV]) (d:=100) kz Tryz.call35 (qgu _ _ l _ _ u5 _ _ ⟨xfs,(h1.move ao.step nilM ao.imm),(fun i_ x_ h_=>((h2 i_ x_ h_).move ao.step nilM ao.imm))⟩ (lZ.move ao.step nilM ao.imm)) ?_)
 rintro e_ nY ⟨al,am,rfl,iy,dh⟩
 have iz:=iy.move (Step.refl _ Nil) nilM (ao.laid (G:=F) dh)
 refine ⟨_,rfl,fun nZ iA=>?_⟩
 have d8:=ao.next_nil dh
 have lI:=ao.frN dh
 refine qai [4,5] [] [(9,.v (.slice A_ ((qa1 W l v (Tree.mk n1 s2 b3 l4 u5) 0).length) c_)),(10,.v (.slice A2_ ((qaP W l (Tree.mk n1 s2 b3 l4 u5) k2).length) c2_)),(11,.v (.int .i64 ((qa4 W l (Tree.mk n1 s2 b3 l4 u5) k2:Nat):Int))),(100,.v (.slice al ((qag l u5).length) am)),(101,.v (.int .i64 (((qag l u5).length:Nat):Int))),(102,.v (.int .i64 0))] d8 iA fun n0 d9=>?_
 refine qae (qab ?_)
 refine wp_block ?_
 obtain ⟨lJ,iB,kY⟩:=iz.ex
 have kZ:=iB.small
 have hkk2:k2 = (qaC l).toNat:=by omega
 have hc2:=hcnt k2
 have hm2:=hmono k2 (by omega)
 have ea:(qaP W l (Tree.mk n1 s2 b3 l4 u5) k2) = (qaP W l (Tree.mk n1 s2 b3 l4 u5) k2 ++ qbi ((qag l u5).take 0)):=(List.append_nil _).symm
 have iC:=congrArg (brow A2_ c2_ 5) ea
 obtain ⟨eb,aM⟩:=d8.rowEq 1 [brow A_ c_ 5 (qa1 W l v (Tree.mk n1 s2 b3 l4 u5) 0),brow A2_ c2_ 5 (qaP W l (Tree.mk n1 s2 b3 l4 u5) k2 ++ qbi ((qag l u5).take 0))] iC
 rw [ea] at d9
 refine wp_loop_ghost (fun n_ a_ w_=>∃ (k:Nat) (A4_:Option Addr) (c4_:Nat),n_ = (qag l u5).length - k ∧ k ≤ (qag l u5).length ∧ LInv eb 132 [⟨cG,0,[.int .i64 n1,.slice A6 s2.length c7,.bool b3,.slice A8 l4.length c9,.slice aU u5.length aV],true⟩] [brow A_ c_ 5 (qa1 W l v (Tree.mk n1 s2 b3 l4 u5) 0),brow A4_ c4_ 5 (qaP W l (Tree.mk n1 s2 b3 l4 u5) k2 ++ qbi ((qag l u5).take k))] [(9,.v (.slice A_ ((qa1 W l v (Tree.mk n1 s2 b3 l4 u5) 0).length) c_)),(10,.v (.slice A4_ ((qaP W l (Tree.mk n1 s2 b3 l4 u5) k2 ++ qbi ((qag l u5).take k)).length) c4_)),(11,.v (.int .i64 ((qa4 W l (Tree.mk n1 s2 b3 l4 u5) k2 + k:Nat):Int))),(100,.v (.slice al ((qag l u5).length) am)),(101,.v (.int .i64 (((qag l u5).length:Nat):Int))),(102,.v (.int .i64 ((k:Nat):Int)))] a_ w_) ((qag l u5).length) ⟨0,A2_,c2_,by omega,by omega,d9.pk,eb,Fr.refl _ _ _⟩ ?_
 rintro n4 n5 n8 ⟨k,A4_,c4_,lK,lL,iD,cm,aH⟩
 refine qas [(9,.v (.slice A_ ((qa1 W l v (Tree.mk n1 s2 b3 l4 u5) 0).length) c_)),(10,.v (.slice A4_ ((qaP W l (Tree.mk n1 s2 b3 l4 u5) k2 ++ qbi ((qag l u5).take k)).length) c4_)),(11,.v (.int .i64 ((qa4 W l (Tree.mk n1 s2 b3 l4 u5) k2 + k:Nat):Int))),(100,.v (.slice al ((qag l u5).length) am)),(101,.v (.int .i64 (((qag l u5).length:Nat):Int))),(102,.v (.int .i64 ((k:Nat):Int))),(103,.v (.bool (decide (((k:Nat):Int) < (((qag l u5).length:Nat):Int)))))] cm iD fun oa di=>?_
 refine wp_seq (qaw di (b:=decide (((k:Nat):Int) < (((qag l u5).length:Nat):Int))) kz (fun dj=>?_) (fun dj=>?_))
 ·
  have lM:=of_decide_eq_true dj
  refine wp_skip (qab (wp_seq (wp_block (qaf [0,1,2,3] kz ?_))))
  obtain ⟨k5,k6,iE,lN,dl⟩:=Slots.get iB (i:=k) (by omega)
  obtain ⟨⟨ak,aj⟩,bx⟩:∃ x,(qag l u5)[k]? = some x:=⟨_,List.getElem?_eq_getElem (by omega)⟩
  obtain ⟨⟨ar,au,eG,dp⟩,od,oe⟩:=kY k ak aj bx
  rw [eG] at dl
  refine qal (qax di (t:=24) (A:=al) (m:=((qag l u5).length)) (q:=((k:Nat):Int)) (d:=104) kz (e:=66) (size:=2) (bytes:=32) kz iE rfl (by omega) fun og iF=>?_)
  refine qal (qaU iF (t:=66) (b:=k5) (o:=k6 + k * 2) (d:=105) kz (cs:=(z42 ak ar aj.length au)) (v:=.agg #[.int .u32 ak,.slice ar aj.length au]) kz (AtF.move dl (aM.trans aH).step immM (aM.trans aH).to').at_ fun oh iG=>?_)
  refine qal (qaQ cm iG (d:=19) (cs:=z38) kz fun ol om oq lO lP aQ iH iI=>?_)
  refine qal (qao iH iI (oi:=1) (cs:=(z42 ak ar aj.length au)) kz fun ot aR dq iJ=>?_)
  refine qae (qab ?_)
  refine qaf [0,1,2,3] kz ?_
  refine qai [0,1] [2,3] [(9,.v (.slice A_ ((qa1 W l v (Tree.mk n1 s2 b3 l4 u5) 0).length) c_)),(10,.v (.slice A4_ ((qaP W l (Tree.mk n1 s2 b3 l4 u5) k2 ++ qbi ((qag l u5).take k)).length) c4_)),(11,.v (.int .i64 ((qa4 W l (Tree.mk n1 s2 b3 l4 u5) k2 + k:Nat):Int))),(19,.p 1 0),(100,.v (.slice al ((qag l u5).length) am)),(101,.v (.int .i64 (((qag l u5).length:Nat):Int))),(102,.v (.int .i64 ((k:Nat):Int))),(107,.v (.slice ar aj.length au))] dq iJ fun ou iK=>?_
  have k7:=qbl aj
  refine qal (qak iK (f:=37) (vs:=[.slice ar aj.length au]) (d:=108) kz Tryz.call37 (qdN _ _ aj (dp.move (((aM.trans aH).trans aQ).trans aR).step immM (((aM.trans aH).trans aQ).trans aR).to').le _) ?_)
  rintro e_ ov ⟨rfl,ec⟩
  refine ⟨_,rfl,fun ow iL=>?_⟩
  have dr:=dq.next_nil ec
  have bz:=dq.frN ec
  refine qai [3] [] [(9,.v (.slice A_ ((qa1 W l v (Tree.mk n1 s2 b3 l4 u5) 0).length) c_)),(10,.v (.slice A4_ ((qaP W l (Tree.mk n1 s2 b3 l4 u5) k2 ++ qbi ((qag l u5).take k)).length) c4_)),(11,.v (.int .i64 ((qa4 W l (Tree.mk n1 s2 b3 l4 u5) k2 + k:Nat):Int))),(19,.p 1 0),(20,.v (.slice ar ((qaH aj).length) au)),(100,.v (.slice al ((qag l u5).length) am)),(101,.v (.int .i64 (((qag l u5).length:Nat):Int))),(102,.v (.int .i64 ((k:Nat):Int)))] dr iL fun ox iM=>?_
  refine qae (qab ?_)
  refine qaf [0,1,2,3,4,5,6,7,8,9,10,11,12,13] kz ?_
  refine qai [0,1,2,3] [4,5,6,7,8,9,10,11,12,13] [(9,.v (.slice A_ ((qa1 W l v (Tree.mk n1 s2 b3 l4 u5) 0).length) c_)),(11,.v (.int .i64 ((qa4 W l (Tree.mk n1 s2 b3 l4 u5) k2 + k:Nat):Int))),(20,.v (.slice ar ((qaH aj).length) au)),(100,.v (.slice al ((qag l u5).length) am)),(101,.v (.int .i64 (((qag l u5).length:Nat):Int))),(102,.v (.int .i64 ((k:Nat):Int))),(109,.v (.slice A4_ ((qaP W l (Tree.mk n1 s2 b3 l4 u5) k2 ++ qbi ((qag l u5).take k)).length) c4_)),(112,.v (.int .u64 (IntKind.u64.wrap ak)))] dr iM fun oy iN=>?_
  have iO:IntKind.u64.wrap ak = ((ak.toNat:Nat):Int):=by simp only [qaV,qaA,qbO,IntKind.wrap_i64,IntKind.wrap_i32]; omega
  have iP:=EnvOk.pick iN (ks:=[9,11,20,100,101,102,109,112]) (env':=[(9,.v (.slice A_ ((qa1 W l v (Tree.mk n1 s2 b3 l4 u5) 0).length) c_)),(11,.v (.int .i64 ((qa4 W l (Tree.mk n1 s2 b3 l4 u5) k2 + k:Nat):Int))),(20,.v (.slice ar ((qaH aj).length) au)),(100,.v (.slice al ((qag l u5).length) am)),(101,.v (.int .i64 (((qag l u5).length:Nat):Int))),(102,.v (.int .i64 ((k:Nat):Int))),(109,.v (.slice A4_ ((qaP W l (Tree.mk n1 s2 b3 l4 u5) k2 ++ qbi ((qag l u5).take k)).length) c4_)),(112,.v (.int .u64 (IntKind.u64.wrap ak)))]) kz
  have iQ:=iP
  rw [iO] at iQ
  refine qal (qak iQ (f:=64) (vs:=[.int .u64 ((ak.toNat:Nat):Int)]) (d:=113) kz Tryz.call64 (qd7 ak.toNat (by omega) _) ?_)
  rintro e_ oz ⟨bJ,bK,rfl,iR,iS⟩
  refine ⟨_,rfl,fun oA iT=>?_⟩
  obtain ⟨dt,bA⟩:=dr.frFresh iS (brow bJ bK 5 (uv ak.toNat)) (Nat.le_refl _) iR
  refine qal (qaR dt iT (k:=1) (d:=114) (t:=22) (e:=5) (size:=1) (bytes:=1) (A:=A4_) (As:=bJ) (m0:=((qaP W l (Tree.mk n1 s2 b3 l4 u5) k2 ++ qbi ((qag l u5).take k)).length)) (c:=c4_) (m:=((uv ak.toNat).length)) (cs:=bK) (xs:=(bc (qaP W l (Tree.mk n1 s2 b3 l4 u5) k2 ++ qbi ((qag l u5).take k)))) (news:=bc (uv ak.toNat)) kz kz rfl (qby (dt.own 2 _ rfl) (qdC _)) (qbE (dt.own 2 _ rfl)) (by have h_:=qgk (l:=(qag l u5)) (k + 1); rw [qd5 bx] at h_; simp only [List.length_append] at h_ ⊢; omega) fun aS aT oB oC bB iU iV=>?_)
  have iW:(⟨aS,aT,5,1,(qaP W l (Tree.mk n1 s2 b3 l4 u5) k2 ++ qbi ((qag l u5).take k)).length + (uv ak.toNat).length,bc (qaP W l (Tree.mk n1 s2 b3 l4 u5) k2 ++ qbi ((qag l u5).take k)) ++ bc (uv ak.toNat)⟩:Rw) = brow aS aT 5 (qaP W l (Tree.mk n1 s2 b3 l4 u5) k2 ++ qbi ((qag l u5).take k) ++ (uv ak.toNat)):=qcg (rfl) rfl
  obtain ⟨ee,bC⟩:=iU.rowEq 1 [brow A_ c_ 5 (qa1 W l v (Tree.mk n1 s2 b3 l4 u5) 0),brow aS aT 5 (qaP W l (Tree.mk n1 s2 b3 l4 u5) k2 ++ qbi ((qag l u5).take k) ++ (uv ak.toNat)),brow bJ bK 5 (uv ak.toNat)] iW
  have iX:=EnvOk.pick iV (ks:=[9,11,20,100,101,102,109,112,113,114]) (env':=[(9,.v (.slice A_ ((qa1 W l v (Tree.mk n1 s2 b3 l4 u5) 0).length) c_)),(11,.v (.int .i64 ((qa4 W l (Tree.mk n1 s2 b3 l4 u5) k2 + k:Nat):Int))),(20,.v (.slice ar ((qaH aj).length) au)),(100,.v (.slice al ((qag l u5).length) am)),(101,.v (.int .i64 (((qag l u5).length:Nat):Int))),(102,.v (.int .i64 ((k:Nat):Int))),(109,.v (.slice A4_ ((qaP W l (Tree.mk n1 s2 b3 l4 u5) k2 ++ qbi ((qag l u5).take k)).length) c4_)),(112,.v (.int .u64 ((ak.toNat:Nat):Int))),(113,.v (.slice bJ ((uv ak.toNat).length) bK)),(114,.v (.slice aS ((qaP W l (Tree.mk n1 s2 b3 l4 u5) k2 ++ qbi ((qag l u5).take k)).length + (uv ak.toNat).length) aT))]) kz
  have iY:=iX.cast (env':=[(9,.v (.slice A_ ((qa1 W l v (Tree.mk n1 s2 b3 l4 u5) 0).length) c_)),(11,.v (.int .i64 ((qa4 W l (Tree.mk n1 s2 b3 l4 u5) k2 + k:Nat):Int))),(20,.v (.slice ar ((qaH aj).length) au)),(100,.v (.slice al ((qag l u5).length) am)),(101,.v (.int .i64 (((qag l u5).length:Nat):Int))),(102,.v (.int .i64 ((k:Nat):Int))),(109,.v (.slice A4_ ((qaP W l (Tree.mk n1 s2 b3 l4 u5) k2 ++ qbi ((qag l u5).take k)).length) c4_)),(112,.v (.int .u64 ((ak.toNat:Nat):Int))),(113,.v (.slice bJ ((uv ak.toNat).length) bK)),(114,.v (.slice aS ((qaP W l (Tree.mk n1 s2 b3 l4 u5) k2 ++ qbi ((qag l u5).take k) ++ (uv ak.toNat)).length) aT))]) (by simp only [List.length_append,List.length_cons,List.length_nil,Nat.zero_add])
  refine qai [6,7,8] [9,10,11,12,13] [(9,.v (.slice A_ ((qa1 W l v (Tree.mk n1 s2 b3 l4 u5) 0).length) c_)),(11,.v (.int .i64 ((qa4 W l (Tree.mk n1 s2 b3 l4 u5) k2 + k:Nat):Int))),(20,.v (.slice ar ((qaH aj).length) au)),(100,.v (.slice al ((qag l u5).length) am)),(101,.v (.int .i64 (((qag l u5).length:Nat):Int))),(102,.v (.int .i64 ((k:Nat):Int))),(114,.v (.slice aS ((qaP W l (Tree.mk n1 s2 b3 l4 u5) k2 ++ qbi ((qag l u5).take k) ++ (uv ak.toNat)).length) aT)),(117,.v (.int .u64 (IntKind.u64.wrap (((qaH aj).length:Nat):Int))))] ee iY fun oD iZ=>?_
  have i6:IntKind.u64.wrap (((qaH aj).length:Nat):Int) = (((qaH aj).length:Nat):Int):=by simp only [qaV,qaA,qbO,IntKind.wrap_i64,IntKind.wrap_i32]; omega
  have i7:=EnvOk.pick iZ (ks:=[9,11,20,100,101,102,114,117]) (env':=[(9,.v (.slice A_ ((qa1 W l v (Tree.mk n1 s2 b3 l4 u5) 0).length) c_)),(11,.v (.int .i64 ((qa4 W l (Tree.mk n1 s2 b3 l4 u5) k2 + k:Nat):Int))),(20,.v (.slice ar ((qaH aj).length) au)),(100,.v (.slice al ((qag l u5).length) am)),(101,.v (.int .i64 (((qag l u5).length:Nat):Int))),(102,.v (.int .i64 ((k:Nat):Int))),(114,.v (.slice aS ((qaP W l (Tree.mk n1 s2 b3 l4 u5) k2 ++ qbi ((qag l u5).take k) ++ (uv ak.toNat)).length) aT)),(117,.v (.int .u64 (IntKind.u64.wrap (((qaH aj).length:Nat):Int))))]) kz
  have ja:=i7
  rw [i6] at ja
  refine qal (qak ja (f:=64) (vs:=[.int .u64 (((qaH aj).length:Nat):Int)]) (d:=118) kz Tryz.call64 (qd7 ((qaH aj).length) (by omega) _) ?_)
  rintro e_ oE ⟨cB,cC,rfl,jb,jc⟩
  refine ⟨_,rfl,fun oF jd=>?_⟩
  obtain ⟨du,bD⟩:=ee.frFresh jc (brow cB cC 5 (uv ((qaH aj).length))) (Nat.le_refl _) jb
  refine qal (qaR du jd (k:=1) (d:=119) (t:=22) (e:=5) (size:=1) (bytes:=1) (A:=aS) (As:=cB) (m0:=((qaP W l (Tree.mk n1 s2 b3 l4 u5) k2 ++ qbi ((qag l u5).take k) ++ (uv ak.toNat)).length)) (c:=aT) (m:=((uv ((qaH aj).length)).length)) (cs:=cC) (xs:=(bc (qaP W l (Tree.mk n1 s2 b3 l4 u5) k2 ++ qbi ((qag l u5).take k) ++ (uv ak.toNat)))) (news:=bc (uv ((qaH aj).length))) kz kz rfl (qby (du.own 3 _ rfl) (qdC _)) (qbE (du.own 3 _ rfl)) (by have h_:=qgk (l:=(qag l u5)) (k + 1); rw [qd5 bx] at h_; simp only [List.length_append] at h_ ⊢; omega) fun bd bf oG oH bE je jf=>?_)
  have jg:(⟨bd,bf,5,1,(qaP W l (Tree.mk n1 s2 b3 l4 u5) k2 ++ qbi ((qag l u5).take k) ++ (uv ak.toNat)).length + (uv ((qaH aj).length)).length,bc (qaP W l (Tree.mk n1 s2 b3 l4 u5) k2 ++ qbi ((qag l u5).take k) ++ (uv ak.toNat)) ++ bc (uv ((qaH aj).length))⟩:Rw) = brow bd bf 5 (qaP W l (Tree.mk n1 s2 b3 l4 u5) k2 ++ qbi ((qag l u5).take k) ++ (uv ak.toNat) ++ (uv ((qaH aj).length))):=qcg (rfl) rfl
  obtain ⟨ef,bF⟩:=je.rowEq 1 [brow A_ c_ 5 (qa1 W l v (Tree.mk n1 s2 b3 l4 u5) 0),brow bd bf 5 (qaP W l (Tree.mk n1 s2 b3 l4 u5) k2 ++ qbi ((qag l u5).take k) ++ (uv ak.toNat) ++ (uv ((qaH aj).length))),brow bJ bK 5 (uv ak.toNat),brow cB cC 5 (uv ((qaH aj).length))] jg
  have jh:=EnvOk.pick jf (ks:=[9,11,20,100,101,102,114,117,118,119]) (env':=[(9,.v (.slice A_ ((qa1 W l v (Tree.mk n1 s2 b3 l4 u5) 0).length) c_)),(11,.v (.int .i64 ((qa4 W l (Tree.mk n1 s2 b3 l4 u5) k2 + k:Nat):Int))),(20,.v (.slice ar ((qaH aj).length) au)),(100,.v (.slice al ((qag l u5).length) am)),(101,.v (.int .i64 (((qag l u5).length:Nat):Int))),(102,.v (.int .i64 ((k:Nat):Int))),(114,.v (.slice aS ((qaP W l (Tree.mk n1 s2 b3 l4 u5) k2 ++ qbi ((qag l u5).take k) ++ (uv ak.toNat)).length) aT)),(117,.v (.int .u64 (((qaH aj).length:Nat):Int))),(118,.v (.slice cB ((uv ((qaH aj).length)).length) cC)),(119,.v (.slice bd ((qaP W l (Tree.mk n1 s2 b3 l4 u5) k2 ++ qbi ((qag l u5).take k) ++ (uv ak.toNat)).length + (uv ((qaH aj).length)).length) bf))]) kz
  have ji:=jh.cast (env':=[(9,.v (.slice A_ ((qa1 W l v (Tree.mk n1 s2 b3 l4 u5) 0).length) c_)),(11,.v (.int .i64 ((qa4 W l (Tree.mk n1 s2 b3 l4 u5) k2 + k:Nat):Int))),(20,.v (.slice ar ((qaH aj).length) au)),(100,.v (.slice al ((qag l u5).length) am)),(101,.v (.int .i64 (((qag l u5).length:Nat):Int))),(102,.v (.int .i64 ((k:Nat):Int))),(114,.v (.slice aS ((qaP W l (Tree.mk n1 s2 b3 l4 u5) k2 ++ qbi ((qag l u5).take k) ++ (uv ak.toNat)).length) aT)),(117,.v (.int .u64 (((qaH aj).length:Nat):Int))),(118,.v (.slice cB ((uv ((qaH aj).length)).length) cC)),(119,.v (.slice bd ((qaP W l (Tree.mk n1 s2 b3 l4 u5) k2 ++ qbi ((qag l u5).take k) ++ (uv ak.toNat) ++ (uv ((qaH aj).length))).length) bf))]) (by simp only [List.length_append,List.length_cons,List.length_nil,Nat.zero_add])
  refine qai [11] [12,13] [(9,.v (.slice A_ ((qa1 W l v (Tree.mk n1 s2 b3 l4 u5) 0).length) c_)),(11,.v (.int .i64 ((qa4 W l (Tree.mk n1 s2 b3 l4 u5) k2 + k:Nat):Int))),(100,.v (.slice al ((qag l u5).length) am)),(101,.v (.int .i64 (((qag l u5).length:Nat):Int))),(102,.v (.int .i64 ((k:Nat):Int))),(119,.v (.slice bd ((qaP W l (Tree.mk n1 s2 b3 l4 u5) k2 ++ qbi ((qag l u5).take k) ++ (uv ak.toNat) ++ (uv ((qaH aj).length))).length) bf)),(120,.v (.slice ar ((qaH aj).length) au))] ef ji fun oI jj=>?_
  refine qal (qaR ef jj (k:=1) (d:=121) (t:=22) (e:=5) (size:=1) (bytes:=1) (A:=bd) (As:=ar) (m0:=((qaP W l (Tree.mk n1 s2 b3 l4 u5) k2 ++ qbi ((qag l u5).take k) ++ (uv ak.toNat) ++ (uv ((qaH aj).length))).length)) (c:=bf) (m:=((qaH aj).length)) (cs:=au) (xs:=(bc (qaP W l (Tree.mk n1 s2 b3 l4 u5) k2 ++ qbi ((qag l u5).take k) ++ (uv ak.toNat) ++ (uv ((qaH aj).length))))) (news:=bc (qaH aj)) kz kz rfl ((dp.take 32767).move ((((((((((aM.trans aH).trans aQ).trans aR).trans bz).trans bA).trans bB).trans bC).trans bD).trans bE).trans bF).step immM ((((((((((aM.trans aH).trans aQ).trans aR).trans bz).trans bA).trans bB).trans bC).trans bD).trans bE).trans bF).to').src ((dp.take 32767).move ((((((((((aM.trans aH).trans aQ).trans aR).trans bz).trans bA).trans bB).trans bC).trans bD).trans bE).trans bF).step immM ((((((((((aM.trans aH).trans aQ).trans aR).trans bz).trans bA).trans bB).trans bC).trans bD).trans bE).trans bF).to').cap (by have h_:=qgk (l:=(qag l u5)) (k + 1); rw [qd5 bx] at h_; simp only [List.length_append] at h_ ⊢; omega) fun aK aL oJ oK jk jl jm=>?_)
  have jn:(⟨aK,aL,5,1,(qaP W l (Tree.mk n1 s2 b3 l4 u5) k2 ++ qbi ((qag l u5).take k) ++ (uv ak.toNat) ++ (uv ((qaH aj).length))).length + (qaH aj).length,bc (qaP W l (Tree.mk n1 s2 b3 l4 u5) k2 ++ qbi ((qag l u5).take k) ++ (uv ak.toNat) ++ (uv ((qaH aj).length))) ++ bc (qaH aj)⟩:Rw) = brow aK aL 5 (qaP W l (Tree.mk n1 s2 b3 l4 u5) k2 ++ qbi ((qag l u5).take k) ++ (uv ak.toNat) ++ (uv ((qaH aj).length)) ++ (qaH aj)):=qcg (rfl) rfl
  obtain ⟨cq,jo⟩:=jl.rowEq 1 [brow A_ c_ 5 (qa1 W l v (Tree.mk n1 s2 b3 l4 u5) 0),brow aK aL 5 (qaP W l (Tree.mk n1 s2 b3 l4 u5) k2 ++ qbi ((qag l u5).take k) ++ (uv ak.toNat) ++ (uv ((qaH aj).length)) ++ (qaH aj)),brow bJ bK 5 (uv ak.toNat),brow cB cC 5 (uv ((qaH aj).length))] jn
  have jp:=EnvOk.pick jm (ks:=[9,11,100,101,102,119,120,121]) (env':=[(9,.v (.slice A_ ((qa1 W l v (Tree.mk n1 s2 b3 l4 u5) 0).length) c_)),(11,.v (.int .i64 ((qa4 W l (Tree.mk n1 s2 b3 l4 u5) k2 + k:Nat):Int))),(100,.v (.slice al ((qag l u5).length) am)),(101,.v (.int .i64 (((qag l u5).length:Nat):Int))),(102,.v (.int .i64 ((k:Nat):Int))),(119,.v (.slice bd ((qaP W l (Tree.mk n1 s2 b3 l4 u5) k2 ++ qbi ((qag l u5).take k) ++ (uv ak.toNat) ++ (uv ((qaH aj).length))).length) bf)),(120,.v (.slice ar ((qaH aj).length) au)),(121,.v (.slice aK ((qaP W l (Tree.mk n1 s2 b3 l4 u5) k2 ++ qbi ((qag l u5).take k) ++ (uv ak.toNat) ++ (uv ((qaH aj).length))).length + (qaH aj).length) aL))]) kz
  have jq:=jp.cast (env':=[(9,.v (.slice A_ ((qa1 W l v (Tree.mk n1 s2 b3 l4 u5) 0).length) c_)),(11,.v (.int .i64 ((qa4 W l (Tree.mk n1 s2 b3 l4 u5) k2 + k:Nat):Int))),(100,.v (.slice al ((qag l u5).length) am)),(101,.v (.int .i64 (((qag l u5).length:Nat):Int))),(102,.v (.int .i64 ((k:Nat):Int))),(119,.v (.slice bd ((qaP W l (Tree.mk n1 s2 b3 l4 u5) k2 ++ qbi ((qag l u5).take k) ++ (uv ak.toNat) ++ (uv ((qaH aj).length))).length) bf)),(120,.v (.slice ar ((qaH aj).length) au)),(121,.v (.slice aK ((qaP W l (Tree.mk n1 s2 b3 l4 u5) k2 ++ qbi ((qag l u5).take k) ++ (uv ak.toNat) ++ (uv ((qaH aj).length)) ++ (qaH aj)).length) aL))]) (by simp only [List.length_append,List.length_cons,List.length_nil,Nat.zero_add])
  refine qai [13] [] [(9,.v (.slice A_ ((qa1 W l v (Tree.mk n1 s2 b3 l4 u5) 0).length) c_)),(10,.v (.slice aK ((qaP W l (Tree.mk n1 s2 b3 l4 u5) k2 ++ qbi ((qag l u5).take k) ++ (uv ak.toNat) ++ (uv ((qaH aj).length)) ++ (qaH aj)).length) aL)),(11,.v (.int .i64 ((qa4 W l (Tree.mk n1 s2 b3 l4 u5) k2 + k:Nat):Int))),(100,.v (.slice al ((qag l u5).length) am)),(101,.v (.int .i64 (((qag l u5).length:Nat):Int))),(102,.v (.int .i64 ((k:Nat):Int)))] cq jq fun oL jr=>?_
  refine qae (qab ?_)
  refine qap [0,1,2] kz ?_
  refine qai [0,1,2] [] [(9,.v (.slice A_ ((qa1 W l v (Tree.mk n1 s2 b3 l4 u5) 0).length) c_)),(10,.v (.slice aK ((qaP W l (Tree.mk n1 s2 b3 l4 u5) k2 ++ qbi ((qag l u5).take k) ++ (uv ak.toNat) ++ (uv ((qaH aj).length)) ++ (qaH aj)).length) aL)),(11,.v (.int .i64 (IntKind.i64.wrap (((qa4 W l (Tree.mk n1 s2 b3 l4 u5) k2 + k:Nat):Int) + 1)))),(100,.v (.slice al ((qag l u5).length) am)),(101,.v (.int .i64 (((qag l u5).length:Nat):Int))),(102,.v (.int .i64 ((k:Nat):Int)))] cq jr fun oM js=>?_
  refine qae (qar (qab (qap [0,1] kz ?_)))
  refine qai [0,1] [] [(9,.v (.slice A_ ((qa1 W l v (Tree.mk n1 s2 b3 l4 u5) 0).length) c_)),(10,.v (.slice aK ((qaP W l (Tree.mk n1 s2 b3 l4 u5) k2 ++ qbi ((qag l u5).take k) ++ (uv ak.toNat) ++ (uv ((qaH aj).length)) ++ (qaH aj)).length) aL)),(11,.v (.int .i64 (IntKind.i64.wrap (((qa4 W l (Tree.mk n1 s2 b3 l4 u5) k2 + k:Nat):Int) + 1)))),(100,.v (.slice al ((qag l u5).length) am)),(101,.v (.int .i64 (((qag l u5).length:Nat):Int))),(102,.v (.int .i64 (IntKind.i64.wrap (((k:Nat):Int) + 1))))] cq js fun oN jt=>?_
  refine qae (qab ?_)
  obtain ⟨cr,ju,jv⟩:=cq.cutB jt 1 (z99 cG n1 A6 s2.length c7 b3 A8 l4.length c9 aU u5.length aV) [(9,.v (.slice A_ ((qa1 W l v (Tree.mk n1 s2 b3 l4 u5) 0).length) c_)),(10,.v (.slice aK ((qaP W l (Tree.mk n1 s2 b3 l4 u5) k2 ++ qbi ((qag l u5).take k) ++ (uv ak.toNat) ++ (uv ((qaH aj).length)) ++ (qaH aj)).length) aL)),(11,.v (.int .i64 (IntKind.i64.wrap (((qa4 W l (Tree.mk n1 s2 b3 l4 u5) k2 + k:Nat):Int) + 1)))),(100,.v (.slice al ((qag l u5).length) am)),(101,.v (.int .i64 (((qag l u5).length:Nat):Int))),(102,.v (.int .i64 (IntKind.i64.wrap (((k:Nat):Int) + 1))))]
  obtain ⟨jw,jx⟩:=ju.cutR 2 [brow A_ c_ 5 (qa1 W l v (Tree.mk n1 s2 b3 l4 u5) 0),brow aK aL 5 (qaP W l (Tree.mk n1 s2 b3 l4 u5) k2 ++ qbi ((qag l u5).take k) ++ (uv ak.toNat) ++ (uv ((qaH aj).length)) ++ (qaH aj))]
  have eg:(qaP W l (Tree.mk n1 s2 b3 l4 u5) k2 ++ qbi ((qag l u5).take k) ++ (uv ak.toNat) ++ (uv ((qaH aj).length)) ++ (qaH aj)) = (qaP W l (Tree.mk n1 s2 b3 l4 u5) k2 ++ qbi ((qag l u5).take (k + 1))):=by rw [qd5 bx]; simp only [List.append_assoc]
  have jy:=congrArg (brow aK aL 5) eg
  obtain ⟨jz,jA⟩:=jw.rowEq 1 [brow A_ c_ 5 (qa1 W l v (Tree.mk n1 s2 b3 l4 u5) 0),brow aK aL 5 (qaP W l (Tree.mk n1 s2 b3 l4 u5) k2 ++ qbi ((qag l u5).take (k + 1)))] jy
  rw [eg] at cr
  have jB:IntKind.i64.wrap (((k:Nat):Int) + 1) = ((k + 1:Nat):Int):=qaO (by omega)
  rw [jB] at cr
  have jC:IntKind.i64.wrap (((qa4 W l (Tree.mk n1 s2 b3 l4 u5) k2 + k:Nat):Int) + 1) = ((qa4 W l (Tree.mk n1 s2 b3 l4 u5) k2 + (k + 1):Nat):Int):=by rw [wrap_i64 (by omega) (by omega)]; omega
  rw [jC] at cr
  exact ⟨(qag l u5).length - (k + 1),by omega,k + 1,aK,aL,rfl,by omega,cr.pk,jz,((((((((((((((aH.trans aQ).trans aR).trans bz).trans bA).trans bB).trans bC).trans bD).trans bE).trans bF).trans jk).trans jo).trans jv).trans jx).trans jA)⟩
 have lQ:=of_decide_eq_false dj
 refine wp_exit (qau (qau (qaI (qab (qaf [0,1,2,3,4,5,6,7] kz ?_)))))
 refine qai [0,1,2] [3,4,5,6,7] [(10,.v (.slice A4_ ((qaP W l (Tree.mk n1 s2 b3 l4 u5) k2 ++ qbi ((qag l u5).take k)).length) c4_)),(125,.v (.slice A_ ((qa1 W l v (Tree.mk n1 s2 b3 l4 u5) 0).length) c_)),(127,.v (.int .u64 (IntKind.u64.wrap ((qa4 W l (Tree.mk n1 s2 b3 l4 u5) k2 + k:Nat):Int))))] cm di fun oO jD=>?_
 have jE:IntKind.u64.wrap ((qa4 W l (Tree.mk n1 s2 b3 l4 u5) k2 + k:Nat):Int) = ((qa4 W l (Tree.mk n1 s2 b3 l4 u5) k2 + k:Nat):Int):=by simp only [qaV,qaA,qbO,IntKind.wrap_i64,IntKind.wrap_i32]; omega
 have jF:=EnvOk.pick jD (ks:=[10,125,127]) (env':=[(10,.v (.slice A4_ ((qaP W l (Tree.mk n1 s2 b3 l4 u5) k2 ++ qbi ((qag l u5).take k)).length) c4_)),(125,.v (.slice A_ ((qa1 W l v (Tree.mk n1 s2 b3 l4 u5) 0).length) c_)),(127,.v (.int .u64 (IntKind.u64.wrap ((qa4 W l (Tree.mk n1 s2 b3 l4 u5) k2 + k:Nat):Int))))]) kz
 have jG:=jF
 rw [jE] at jG
 refine qal (qak jG (f:=64) (vs:=[.int .u64 ((qa4 W l (Tree.mk n1 s2 b3 l4 u5) k2 + k:Nat):Int)]) (d:=128) kz Tryz.call64 (qd7 (qa4 W l (Tree.mk n1 s2 b3 l4 u5) k2 + k) (by omega) _) ?_)
 rintro e_ oP ⟨cD,cE,rfl,jH,jI⟩
 refine ⟨_,rfl,fun oQ jJ=>?_⟩
 obtain ⟨dv,lR⟩:=cm.frFresh jI (brow cD cE 5 (uv (qa4 W l (Tree.mk n1 s2 b3 l4 u5) k2 + k))) (Nat.le_refl _) jH
 refine qal (qaR dv jJ (k:=0) (d:=129) (t:=22) (e:=5) (size:=1) (bytes:=1) (A:=A_) (As:=cD) (m0:=((qa1 W l v (Tree.mk n1 s2 b3 l4 u5) 0).length)) (c:=c_) (m:=((uv (qa4 W l (Tree.mk n1 s2 b3 l4 u5) k2 + k)).length)) (cs:=cE) (xs:=(bc (qa1 W l v (Tree.mk n1 s2 b3 l4 u5) 0))) (news:=bc (uv (qa4 W l (Tree.mk n1 s2 b3 l4 u5) k2 + k))) kz kz rfl (qby (dv.own 2 _ rfl) (qdC _)) (qbE (dv.own 2 _ rfl)) (by have hkk3:k = (qag l u5).length:=(by omega); subst hkk3; subst hkk2; simp only [List.length_append,List.take_length] at *; omega) fun bg bh oR oS lS jK jL=>?_)
 have jM:(⟨bg,bh,5,1,(qa1 W l v (Tree.mk n1 s2 b3 l4 u5) 0).length + (uv (qa4 W l (Tree.mk n1 s2 b3 l4 u5) k2 + k)).length,bc (qa1 W l v (Tree.mk n1 s2 b3 l4 u5) 0) ++ bc (uv (qa4 W l (Tree.mk n1 s2 b3 l4 u5) k2 + k))⟩:Rw) = brow bg bh 5 (qa1 W l v (Tree.mk n1 s2 b3 l4 u5) 0 ++ (uv (qa4 W l (Tree.mk n1 s2 b3 l4 u5) k2 + k))):=qcg (rfl) rfl
 obtain ⟨cu,lT⟩:=jK.rowEq 0 [brow bg bh 5 (qa1 W l v (Tree.mk n1 s2 b3 l4 u5) 0 ++ (uv (qa4 W l (Tree.mk n1 s2 b3 l4 u5) k2 + k))),brow A4_ c4_ 5 (qaP W l (Tree.mk n1 s2 b3 l4 u5) k2 ++ qbi ((qag l u5).take k)),brow cD cE 5 (uv (qa4 W l (Tree.mk n1 s2 b3 l4 u5) k2 + k))] jM
 have jN:=EnvOk.pick jL (ks:=[10,125,127,128,129]) (env':=[(10,.v (.slice A4_ ((qaP W l (Tree.mk n1 s2 b3 l4 u5) k2 ++ qbi ((qag l u5).take k)).length) c4_)),(125,.v (.slice A_ ((qa1 W l v (Tree.mk n1 s2 b3 l4 u5) 0).length) c_)),(127,.v (.int .u64 ((qa4 W l (Tree.mk n1 s2 b3 l4 u5) k2 + k:Nat):Int))),(128,.v (.slice cD ((uv (qa4 W l (Tree.mk n1 s2 b3 l4 u5) k2 + k)).length) cE)),(129,.v (.slice bg ((qa1 W l v (Tree.mk n1 s2 b3 l4 u5) 0).length + (uv (qa4 W l (Tree.mk n1 s2 b3 l4 u5) k2 + k)).length) bh))]) kz
 have jO:=jN.cast (env':=[(10,.v (.slice A4_ ((qaP W l (Tree.mk n1 s2 b3 l4 u5) k2 ++ qbi ((qag l u5).take k)).length) c4_)),(125,.v (.slice A_ ((qa1 W l v (Tree.mk n1 s2 b3 l4 u5) 0).length) c_)),(127,.v (.int .u64 ((qa4 W l (Tree.mk n1 s2 b3 l4 u5) k2 + k:Nat):Int))),(128,.v (.slice cD ((uv (qa4 W l (Tree.mk n1 s2 b3 l4 u5) k2 + k)).length) cE)),(129,.v (.slice bg ((qa1 W l v (Tree.mk n1 s2 b3 l4 u5) 0 ++ (uv (qa4 W l (Tree.mk n1 s2 b3 l4 u5) k2 + k))).length) bh))]) (by simp only [List.length_append,List.length_cons,List.length_nil,Nat.zero_add])
 refine qai [5] [6,7] [(129,.v (.slice bg ((qa1 W l v (Tree.mk n1 s2 b3 l4 u5) 0 ++ (uv (qa4 W l (Tree.mk n1 s2 b3 l4 u5) k2 + k))).length) bh)),(130,.v (.slice A4_ ((qaP W l (Tree.mk n1 s2 b3 l4 u5) k2 ++ qbi ((qag l u5).take k)).length) c4_))] cu jO fun oT jP=>?_
 refine qal (qaR cu jP (k:=0) (d:=131) (t:=22) (e:=5) (size:=1) (bytes:=1) (A:=bg) (As:=A4_) (m0:=((qa1 W l v (Tree.mk n1 s2 b3 l4 u5) 0 ++ (uv (qa4 W l (Tree.mk n1 s2 b3 l4 u5) k2 + k))).length)) (c:=bh) (m:=((qaP W l (Tree.mk n1 s2 b3 l4 u5) k2 ++ qbi ((qag l u5).take k)).length)) (cs:=c4_) (xs:=(bc (qa1 W l v (Tree.mk n1 s2 b3 l4 u5) 0 ++ (uv (qa4 W l (Tree.mk n1 s2 b3 l4 u5) k2 + k))))) (news:=bc (qaP W l (Tree.mk n1 s2 b3 l4 u5) k2 ++ qbi ((qag l u5).take k))) kz kz rfl (qby (cu.own 1 _ rfl) (qdC _)) (qbE (cu.own 1 _ rfl)) (by have hkk3:k = (qag l u5).length:=(by omega); subst hkk3; subst hkk2; simp only [List.length_append,List.take_length] at *; omega) fun bL bM oU oV lU jQ jR=>?_)
 have jS:(⟨bL,bM,5,1,(qa1 W l v (Tree.mk n1 s2 b3 l4 u5) 0 ++ (uv (qa4 W l (Tree.mk n1 s2 b3 l4 u5) k2 + k))).length + (qaP W l (Tree.mk n1 s2 b3 l4 u5) k2 ++ qbi ((qag l u5).take k)).length,bc (qa1 W l v (Tree.mk n1 s2 b3 l4 u5) 0 ++ (uv (qa4 W l (Tree.mk n1 s2 b3 l4 u5) k2 + k))) ++ bc (qaP W l (Tree.mk n1 s2 b3 l4 u5) k2 ++ qbi ((qag l u5).take k))⟩:Rw) = brow bL bM 5 (qa1 W l v (Tree.mk n1 s2 b3 l4 u5) 0 ++ (uv (qa4 W l (Tree.mk n1 s2 b3 l4 u5) k2 + k)) ++ (qaP W l (Tree.mk n1 s2 b3 l4 u5) k2 ++ qbi ((qag l u5).take k))):=qcg (rfl) rfl
 obtain ⟨dw,lV⟩:=jQ.rowEq 0 [brow bL bM 5 (qa1 W l v (Tree.mk n1 s2 b3 l4 u5) 0 ++ (uv (qa4 W l (Tree.mk n1 s2 b3 l4 u5) k2 + k)) ++ (qaP W l (Tree.mk n1 s2 b3 l4 u5) k2 ++ qbi ((qag l u5).take k))),brow A4_ c4_ 5 (qaP W l (Tree.mk n1 s2 b3 l4 u5) k2 ++ qbi ((qag l u5).take k)),brow cD cE 5 (uv (qa4 W l (Tree.mk n1 s2 b3 l4 u5) k2 + k))] jS
 have jT:=EnvOk.pick jR (ks:=[129,130,131]) (env':=[(129,.v (.slice bg ((qa1 W l v (Tree.mk n1 s2 b3 l4 u5) 0 ++ (uv (qa4 W l (Tree.mk n1 s2 b3 l4 u5) k2 + k))).length) bh)),(130,.v (.slice A4_ ((qaP W l (Tree.mk n1 s2 b3 l4 u5) k2 ++ qbi ((qag l u5).take k)).length) c4_)),(131,.v (.slice bL ((qa1 W l v (Tree.mk n1 s2 b3 l4 u5) 0 ++ (uv (qa4 W l (Tree.mk n1 s2 b3 l4 u5) k2 + k))).length + (qaP W l (Tree.mk n1 s2 b3 l4 u5) k2 ++ qbi ((qag l u5).take k)).length) bM))]) kz
 have jU:=jT.cast (env':=[(129,.v (.slice bg ((qa1 W l v (Tree.mk n1 s2 b3 l4 u5) 0 ++ (uv (qa4 W l (Tree.mk n1 s2 b3 l4 u5) k2 + k))).length) bh)),(130,.v (.slice A4_ ((qaP W l (Tree.mk n1 s2 b3 l4 u5) k2 ++ qbi ((qag l u5).take k)).length) c4_)),(131,.v (.slice bL ((qa1 W l v (Tree.mk n1 s2 b3 l4 u5) 0 ++ (uv (qa4 W l (Tree.mk n1 s2 b3 l4 u5) k2 + k)) ++ (qaP W l (Tree.mk n1 s2 b3 l4 u5) k2 ++ qbi ((qag l u5).take k))).length) bM))]) (by simp only [List.length_append,List.length_cons,List.length_nil,Nat.zero_add])
 refine qai [7] [] [(8,.v (.slice bL ((qa1 W l v (Tree.mk n1 s2 b3 l4 u5) 0 ++ (uv (qa4 W l (Tree.mk n1 s2 b3 l4 u5) k2 + k)) ++ (qaP W l (Tree.mk n1 s2 b3 l4 u5) k2 ++ qbi ((qag l u5).take k))).length) bM))] dw jU fun oW jV=>?_
 refine qae (qab ?_)
 refine wp_ret (qaM jV dw.cells (v:=.slice bL ((qa1 W l v (Tree.mk n1 s2 b3 l4 u5) 0 ++ (uv (qa4 W l (Tree.mk n1 s2 b3 l4 u5) k2 + k)) ++ (qaP W l (Tree.mk n1 s2 b3 l4 u5) k2 ++ qbi ((qag l u5).take k))).length) bM) kz ?_)
 have hkk3:k = (qag l u5).length:=by omega
 exact qbr dw (k:=0) rfl (by rw [show flex = true by simpa using bS,qf4,hkk3,hkk2,List.take_length])
theorem qhC:∀ d,qjz d
 | 0=>fun A c l v flex ct t w F hl hd ht hr=>qlA (fun _ _=>[]) A c l v flex ct t w F (fun cf f ct t w F hm hf ht hr=>by
   obtain ⟨i,hi⟩:=List.mem_iff_getElem?.1 hm
   have h:=qd3 hi
   obtain ⟨k,x1,x2,x3,x4,x5,x6,l,A,c,xs,rfl,_⟩:=hf.open_
   rw [qfl] at h; omega) hl ht hr
 | d + 1=>fun A c l v flex ct t w F hl hd ht hr=>qlA (fun f t=>qc4 d f v flex t) A c l v flex ct t w F (fun cf f ct t w F hm hf ht hr=>qlz (qhC d) cf f v flex ct t w F hf (by
   obtain ⟨i,hi⟩:=List.mem_iff_getElem?.1 hm
   have h:=qd3 hi
   obtain ⟨k,x1,x2,x3,x4,x5,x6,l,A,c,xs,rfl,_⟩:=hf.open_
   rw [qfl] at h
   show depths l ≤ d
   omega) ht hr) hl ht hr
theorem qlB {d:Nat} (A:Option Addr) (c:Nat) (l:List Fld) (x v:Int) (ct:List Value) (t:Tree) (w:World) (F:Nat → Nat → Prop) (hl:FldsR w F A c l) (hd:depths l ≤ d) (ht:TreeR w F ct t) (hroom:(qc5 d l x v t).length ≤ 1099511627776) :
  Calls Tryz.prog 11 #[.agg #[.slice A l.length c,.int .i64 x],.int .i64 v,.agg ct.toArray] w (qee w 5 (qc5 d l x v t)):=by
 obtain ⟨xfs,h1,h2⟩:=hl.ex
 have hsm:=h1.small
 obtain ⟨n1,s2,b3,l4,u5,A6,c7,A8,c9,af,ag,aI,rfl,rfl,aJ,aK,aV,aW⟩:=ht.open_
 have aG:=aJ.small
 have aH:=aK.small
 refine enter (n:=21) Tryz.func11 rfl Tryz.ntmps11 kz fun a hE=>?_
 have hW:=WOk.start w Nil
 refine qaf [0,1,2] kz ?_
 refine qal (qbq hW hE (d:=3) (cs:=[.slice A l.length c,.int .i64 x]) kz fun aX aY aZ aL aM aN ai aj=>?_)
 refine qal (qbq ai aj (d:=5) (cs:=(z1 n1 A6 s2.length c7 b3 A8 l4.length c9 af u5.length ag)) kz fun ba bd bf aO aP aQ aa ak=>?_)
 refine qai [2] [] [(1,.v (.int .i64 v)),(3,.p 0 0),(5,.p 1 0)] aa ak fun bg al=>?_
 refine qae (qab ?_)
 refine qaf [0,1,2,3,4,5,6,7,8,9,10,11,12,13,14] kz ?_
 refine qai [0,1,2,3,4,5,6] [7,8,9,10,11,12,13,14] [(1,.v (.int .i64 v)),(3,.p 0 0),(5,.p 1 0),(8,.v (.slice A l.length c)),(9,.v (.int .i64 v)),(13,.v (.bool (decide (x ≥ 0))))] aa al fun bh ah=>?_
 refine (zO (decide (x ≥ 0))).elim (fun ab=>?_) (fun ab=>?_)
 ·
  have aR:=zD ab
  have am:=ah
  rw [ab] at am
  refine qai [7,8,9,10,11,12] [13,14] [(8,.v (.slice A l.length c)),(9,.v (.int .i64 v)),(18,.v (.bool (decide (v ≥ x)))),(19,.v (.agg #[.int .i64 n1,.slice A6 s2.length c7,.bool b3,.slice A8 l4.length c9,.slice af u5.length ag]))] aa am fun bi ao=>?_
  refine qal (qak ao (f:=29) (vs:=[.slice A l.length c,.int .i64 v,.bool (decide (v ≥ x)),.agg #[.int .i64 n1,.slice A6 s2.length c7,.bool b3,.slice A8 l4.length c9,.slice af u5.length ag]]) (d:=20) kz Tryz.call29 (qhC _ _ _ l v (decide (v ≥ x)) _ (Tree.mk n1 s2 b3 l4 u5) _ _ ⟨xfs,(h1.move aa.step nilM aa.imm),(fun i_ x_ h_=>((h2 i_ x_ h_).move aa.step nilM aa.imm))⟩ hd (ht.move aa.step nilM aa.imm) (by simpa [qc5,ab] using hroom)) ?_)
  rintro e_ bj ⟨ap,ar,rfl,au,av⟩
  refine ⟨_,rfl,fun bk aw=>?_⟩
  obtain ⟨ac,aS⟩:=aa.frFresh av (brow ap ar 5 (qa8 d l v (decide (v ≥ x)) (Tree.mk n1 s2 b3 l4 u5))) (Nat.le_refl _) au
  refine qai [14] [] [(6,.v (.slice ap ((qa8 d l v (decide (v ≥ x)) (Tree.mk n1 s2 b3 l4 u5)).length) ar))] ac aw fun bn ax=>?_
  refine qae (qab ?_)
  refine wp_ret (qaM ax ac.cells (v:=.slice ap ((qa8 d l v (decide (v ≥ x)) (Tree.mk n1 s2 b3 l4 u5)).length) ar) kz ?_)
  exact qbr ac (k:=0) rfl (by simp [qc5,ab])
 have aT:=zF ab
 have ay:=ah
 rw [ab] at ay
 refine qai [7,8,9,10,11,12] [13,14] [(8,.v (.slice A l.length c)),(9,.v (.int .i64 v)),(18,.v (.bool false)),(19,.v (.agg #[.int .i64 n1,.slice A6 s2.length c7,.bool b3,.slice A8 l4.length c9,.slice af u5.length ag]))] aa ay fun bo az=>?_
 refine qal (qak az (f:=29) (vs:=[.slice A l.length c,.int .i64 v,.bool false,.agg #[.int .i64 n1,.slice A6 s2.length c7,.bool b3,.slice A8 l4.length c9,.slice af u5.length ag]]) (d:=20) kz Tryz.call29 (qhC _ _ _ l v false _ (Tree.mk n1 s2 b3 l4 u5) _ _ ⟨xfs,(h1.move aa.step nilM aa.imm),(fun i_ x_ h_=>((h2 i_ x_ h_).move aa.step nilM aa.imm))⟩ hd (ht.move aa.step nilM aa.imm) (by simpa [qc5,ab] using hroom)) ?_)
 rintro e_ bp ⟨aA,aB,rfl,aC,aD⟩
 refine ⟨_,rfl,fun bq aE=>?_⟩
 obtain ⟨ae,aU⟩:=aa.frFresh aD (brow aA aB 5 (qa8 d l v false (Tree.mk n1 s2 b3 l4 u5))) (Nat.le_refl _) aC
 refine qai [14] [] [(6,.v (.slice aA ((qa8 d l v false (Tree.mk n1 s2 b3 l4 u5)).length) aB))] ae aE fun bt aF=>?_
 refine qae (qab ?_)
 refine wp_ret (qaM aF ae.cells (v:=.slice aA ((qa8 d l v false (Tree.mk n1 s2 b3 l4 u5)).length) aB) kz ?_)
 exact qbr ae (k:=0) rfl (by simp [qc5,ab])
def sAddPartitionsToTxnRequestF:List Fld:=[(Fld.mk 8 0 3 (-1) (-1) 0 0 []),(Fld.mk 4 0 3 (-1) (-1) 0 0 []),(Fld.mk 2 0 3 (-1) (-1) 0 0 []),(Fld.mk 11 0 3 (-1) (-1) 0 10 [(Fld.mk 8 0 (-1) (-1) (-1) 0 0 []),(Fld.mk 11 0 (-1) (-1) (-1) 0 3 [])]),(Fld.mk 11 4 (-1) (-1) (-1) 0 10 [(Fld.mk 8 0 (-1) (-1) (-1) 0 0 []),(Fld.mk 4 0 (-1) (-1) (-1) 0 0 []),(Fld.mk 2 0 (-1) (-1) (-1) 0 0 []),(Fld.mk 0 0 (-1) (-1) (-1) 0 0 []),(Fld.mk 11 0 (-1) (-1) (-1) 0 10 [(Fld.mk 8 0 (-1) (-1) (-1) 0 0 []),(Fld.mk 11 0 (-1) (-1) (-1) 0 3 [])])])]
def qah:Int:=3
abbrev z18 :=([.int .i64 8,.int .i64 0,.int .i64 (-1),.int .i64 (-1),.int .i64 (-1),.int .i64 0,.int .i64 0,.slice none 0 0,.int .i64 11,.int .i64 0,.int .i64 (-1),.int .i64 (-1),.int .i64 (-1),.int .i64 0,.int .i64 3,.slice none 0 0]:List Value)
abbrev z22 (x0):=([.int .i64 8,.int .i64 0,.int .i64 (-1),.int .i64 (-1),.int .i64 (-1),.int .i64 0,.int .i64 0,.slice none 0 0,.int .i64 4,.int .i64 0,.int .i64 (-1),.int .i64 (-1),.int .i64 (-1),.int .i64 0,.int .i64 0,.slice none 0 0,.int .i64 2,.int .i64 0,.int .i64 (-1),.int .i64 (-1),.int .i64 (-1),.int .i64 0,.int .i64 0,.slice none 0 0,.int .i64 0,.int .i64 0,.int .i64 (-1),.int .i64 (-1),.int .i64 (-1),.int .i64 0,.int .i64 0,.slice none 0 0,.int .i64 11,.int .i64 0,.int .i64 (-1),.int .i64 (-1),.int .i64 (-1),.int .i64 0,.int .i64 10,.slice (some ⟨x0,0,none⟩) 2 2]:List Value)
abbrev z23 (x0) (x1):=([.int .i64 8,.int .i64 0,.int .i64 3,.int .i64 (-1),.int .i64 (-1),.int .i64 0,.int .i64 0,.slice none 0 0,.int .i64 4,.int .i64 0,.int .i64 3,.int .i64 (-1),.int .i64 (-1),.int .i64 0,.int .i64 0,.slice none 0 0,.int .i64 2,.int .i64 0,.int .i64 3,.int .i64 (-1),.int .i64 (-1),.int .i64 0,.int .i64 0,.slice none 0 0,.int .i64 11,.int .i64 0,.int .i64 3,.int .i64 (-1),.int .i64 (-1),.int .i64 0,.int .i64 10,.slice (some ⟨x0,0,none⟩) 2 2,.int .i64 11,.int .i64 4,.int .i64 (-1),.int .i64 (-1),.int .i64 (-1),.int .i64 0,.int .i64 10,.slice (some ⟨x1,0,none⟩) 5 5]:List Value)
abbrev z21 :=(Fld.mk 11 0 (-1) (-1) (-1) 0 10 [(Fld.mk 8 0 (-1) (-1) (-1) 0 0 []),(Fld.mk 11 0 (-1) (-1) (-1) 0 3 [])])
abbrev z40 :=([(1,.v (.agg #[.int .i64 8,.int .i64 0,.int .i64 (-1),.int .i64 (-1),.int .i64 (-1),.int .i64 0,.int .i64 0,.slice none 0 0])),(2,.v (.agg #[.int .i64 11,.int .i64 0,.int .i64 (-1),.int .i64 (-1),.int .i64 (-1),.int .i64 0,.int .i64 3,.slice none 0 0]))]:Env)
abbrev z53 :=([.int .i64 8,.int .i64 0,.int .i64 (-1),.int .i64 (-1),.int .i64 (-1),.int .i64 0,.int .i64 0,.slice none 0 0]:List Value)
abbrev z85 :=([.int .i64 11,.int .i64 0,.int .i64 (-1),.int .i64 (-1),.int .i64 (-1),.int .i64 0,.int .i64 3,.slice none 0 0]:List Value)
abbrev z93 :=([.slice none 0 0,.int .i64 0]:List Value)
theorem qde (w:World) (F:Nat → Nat → Prop):Calls Tryz.prog 8 #[] w (qlx w F sAddPartitionsToTxnRequestF qah):=by
 refine enter (n:=10) Tryz.func8 rfl Tryz.ntmps8 kz fun a hE=>?_
 have hW:=WOk.start w Nil
 refine qaf [0] kz ?_
 refine qal (qaQ hW hE (d:=0) (cs:=z93) kz fun b1 a2 w3 hb4 hz5 hF6 hW7 hE8=>?_)
 refine qae (qab ?_)
 refine qaf [0,1,2,3,4,5,6,7,8,9] kz ?_
 refine qai [0,1,2] [3,4,5,6,7,8,9] [(0,.p 0 0),(1,.v (.agg #[.int .i64 8,.int .i64 0,.int .i64 3,.int .i64 (-1),.int .i64 (-1),.int .i64 0,.int .i64 0,.slice none 0 0])),(2,.v (.agg #[.int .i64 4,.int .i64 0,.int .i64 3,.int .i64 (-1),.int .i64 (-1),.int .i64 0,.int .i64 0,.slice none 0 0])),(3,.v (.agg #[.int .i64 2,.int .i64 0,.int .i64 3,.int .i64 (-1),.int .i64 (-1),.int .i64 0,.int .i64 0,.slice none 0 0]))] hW7 hE8 fun a9 ap=>?_
 refine qal (qbR ap (f:=24) (vs:=[]) (d:=4) (n':=4) kz Tryz.call24 Tryz.func24 rfl Tryz.ntmps24 kz fun bn ar=>?_)
 refine qas [] hW7 ar fun bo au=>?_
 refine qaf [0,1,2,3] kz ?_
 refine qai [0,1] [2,3] z40 hW7 au fun bp av=>?_
 refine qal (qbu hW7 av (e:=51) (size:=8) (len:=2) (cs:=z18) (d:=3) kz kz fun ae bq bt aV aW aX ab aw=>?_)
 refine qai [3] [] [(0,.v (.slice (some ⟨ae,0,none⟩) 2 2))] ab aw fun bu ax=>?_
 refine qae (qab ?_)
 refine wp_ret (qaM ax ab.cells (v:=.slice (some ⟨ae,0,none⟩) 2 2) kz ?_)
 refine ⟨_,rfl,fun bw ay=>?_⟩
 have az:EnvOk 10 [⟨b1,0,z93,true⟩] [(4,.v (.slice (some ⟨ae,0,none⟩) 2 2)),(0,.p 0 0),(1,.v (.agg #[.int .i64 8,.int .i64 0,.int .i64 3,.int .i64 (-1),.int .i64 (-1),.int .i64 0,.int .i64 0,.slice none 0 0])),(2,.v (.agg #[.int .i64 4,.int .i64 0,.int .i64 3,.int .i64 (-1),.int .i64 (-1),.int .i64 0,.int .i64 0,.slice none 0 0])),(3,.v (.agg #[.int .i64 2,.int .i64 0,.int .i64 3,.int .i64 (-1),.int .i64 (-1),.int .i64 0,.int .i64 0,.slice none 0 0]))] _:=ay.places (⟨rfl,rfl,trivial⟩)
 refine qai [4] [5,6,7,8,9] [(0,.p 0 0),(1,.v (.agg #[.int .i64 8,.int .i64 0,.int .i64 3,.int .i64 (-1),.int .i64 (-1),.int .i64 0,.int .i64 0,.slice none 0 0])),(2,.v (.agg #[.int .i64 4,.int .i64 0,.int .i64 3,.int .i64 (-1),.int .i64 (-1),.int .i64 0,.int .i64 0,.slice none 0 0])),(3,.v (.agg #[.int .i64 2,.int .i64 0,.int .i64 3,.int .i64 (-1),.int .i64 (-1),.int .i64 0,.int .i64 0,.slice none 0 0])),(5,.v (.agg #[.int .i64 11,.int .i64 0,.int .i64 3,.int .i64 (-1),.int .i64 (-1),.int .i64 0,.int .i64 10,.slice (some ⟨ae,0,none⟩) 2 2]))] ab az fun bx aA=>?_
 refine qal (qbR aA (f:=25) (vs:=[]) (d:=6) (n':=8) kz Tryz.call25 Tryz.func25 rfl Tryz.ntmps25 kz fun bz aB=>?_)
 refine qas [] ab aB fun bA aC=>?_
 refine qaf [0,1,2,3,4,5,6,7] kz ?_
 refine qai [0,1,2,3] [4,5,6,7] [(1,.v (.agg #[.int .i64 8,.int .i64 0,.int .i64 (-1),.int .i64 (-1),.int .i64 (-1),.int .i64 0,.int .i64 0,.slice none 0 0])),(2,.v (.agg #[.int .i64 4,.int .i64 0,.int .i64 (-1),.int .i64 (-1),.int .i64 (-1),.int .i64 0,.int .i64 0,.slice none 0 0])),(3,.v (.agg #[.int .i64 2,.int .i64 0,.int .i64 (-1),.int .i64 (-1),.int .i64 (-1),.int .i64 0,.int .i64 0,.slice none 0 0])),(4,.v (.agg #[.int .i64 0,.int .i64 0,.int .i64 (-1),.int .i64 (-1),.int .i64 (-1),.int .i64 0,.int .i64 0,.slice none 0 0]))] ab aC fun bB aD=>?_
 refine qal (qbR aD (f:=55) (vs:=[]) (d:=5) (n':=4) kz Tryz.call55 Tryz.func55 rfl Tryz.ntmps55 kz fun bC aE=>?_)
 refine qas [] ab aE fun bD aF=>?_
 refine qaf [0,1,2,3] kz ?_
 refine qai [0,1] [2,3] z40 ab aF fun bE aG=>?_
 refine qal (qbu ab aG (e:=51) (size:=8) (len:=2) (cs:=z18) (d:=3) kz kz fun al bF bG aY aZ ba af aH=>?_)
 refine qai [3] [] [(0,.v (.slice (some ⟨al,0,none⟩) 2 2))] af aH fun bH aI=>?_
 refine qae (qab ?_)
 refine wp_ret (qaM aI af.cells (v:=.slice (some ⟨al,0,none⟩) 2 2) kz ?_)
 refine ⟨_,rfl,fun bI aJ=>?_⟩
 have aK:EnvOk 8 [⟨b1,0,z93,true⟩] [(5,.v (.slice (some ⟨al,0,none⟩) 2 2)),(1,.v (.agg #[.int .i64 8,.int .i64 0,.int .i64 (-1),.int .i64 (-1),.int .i64 (-1),.int .i64 0,.int .i64 0,.slice none 0 0])),(2,.v (.agg #[.int .i64 4,.int .i64 0,.int .i64 (-1),.int .i64 (-1),.int .i64 (-1),.int .i64 0,.int .i64 0,.slice none 0 0])),(3,.v (.agg #[.int .i64 2,.int .i64 0,.int .i64 (-1),.int .i64 (-1),.int .i64 (-1),.int .i64 0,.int .i64 0,.slice none 0 0])),(4,.v (.agg #[.int .i64 0,.int .i64 0,.int .i64 (-1),.int .i64 (-1),.int .i64 (-1),.int .i64 0,.int .i64 0,.slice none 0 0]))] _:=aJ.places (⟨rfl,rfl,trivial⟩)
 refine qai [5] [6,7] [(1,.v (.agg #[.int .i64 8,.int .i64 0,.int .i64 (-1),.int .i64 (-1),.int .i64 (-1),.int .i64 0,.int .i64 0,.slice none 0 0])),(2,.v (.agg #[.int .i64 4,.int .i64 0,.int .i64 (-1),.int .i64 (-1),.int .i64 (-1),.int .i64 0,.int .i64 0,.slice none 0 0])),(3,.v (.agg #[.int .i64 2,.int .i64 0,.int .i64 (-1),.int .i64 (-1),.int .i64 (-1),.int .i64 0,.int .i64 0,.slice none 0 0])),(4,.v (.agg #[.int .i64 0,.int .i64 0,.int .i64 (-1),.int .i64 (-1),.int .i64 (-1),.int .i64 0,.int .i64 0,.slice none 0 0])),(6,.v (.agg #[.int .i64 11,.int .i64 0,.int .i64 (-1),.int .i64 (-1),.int .i64 (-1),.int .i64 0,.int .i64 10,.slice (some ⟨al,0,none⟩) 2 2]))] af aK fun bJ aL=>?_
 refine qal (qbu af aL (e:=51) (size:=8) (len:=5) (cs:=(z22 al)) (d:=7) kz kz fun am bK bL bd bf bg ag aM=>?_)
 refine qai [7] [] [(0,.v (.slice (some ⟨am,0,none⟩) 5 5))] ag aM fun bM aN=>?_
 refine qae (qab ?_)
 refine wp_ret (qaM aN ag.cells (v:=.slice (some ⟨am,0,none⟩) 5 5) kz ?_)
 refine ⟨_,rfl,fun bN aO=>?_⟩
 have aP:EnvOk 10 [⟨b1,0,z93,true⟩] [(6,.v (.slice (some ⟨am,0,none⟩) 5 5)),(0,.p 0 0),(1,.v (.agg #[.int .i64 8,.int .i64 0,.int .i64 3,.int .i64 (-1),.int .i64 (-1),.int .i64 0,.int .i64 0,.slice none 0 0])),(2,.v (.agg #[.int .i64 4,.int .i64 0,.int .i64 3,.int .i64 (-1),.int .i64 (-1),.int .i64 0,.int .i64 0,.slice none 0 0])),(3,.v (.agg #[.int .i64 2,.int .i64 0,.int .i64 3,.int .i64 (-1),.int .i64 (-1),.int .i64 0,.int .i64 0,.slice none 0 0])),(5,.v (.agg #[.int .i64 11,.int .i64 0,.int .i64 3,.int .i64 (-1),.int .i64 (-1),.int .i64 0,.int .i64 10,.slice (some ⟨ae,0,none⟩) 2 2]))] _:=aO.places (⟨rfl,rfl,trivial⟩)
 refine qai [6] [7,8,9] [(0,.p 0 0),(1,.v (.agg #[.int .i64 8,.int .i64 0,.int .i64 3,.int .i64 (-1),.int .i64 (-1),.int .i64 0,.int .i64 0,.slice none 0 0])),(2,.v (.agg #[.int .i64 4,.int .i64 0,.int .i64 3,.int .i64 (-1),.int .i64 (-1),.int .i64 0,.int .i64 0,.slice none 0 0])),(3,.v (.agg #[.int .i64 2,.int .i64 0,.int .i64 3,.int .i64 (-1),.int .i64 (-1),.int .i64 0,.int .i64 0,.slice none 0 0])),(5,.v (.agg #[.int .i64 11,.int .i64 0,.int .i64 3,.int .i64 (-1),.int .i64 (-1),.int .i64 0,.int .i64 10,.slice (some ⟨ae,0,none⟩) 2 2])),(7,.v (.agg #[.int .i64 11,.int .i64 4,.int .i64 (-1),.int .i64 (-1),.int .i64 (-1),.int .i64 0,.int .i64 10,.slice (some ⟨am,0,none⟩) 5 5]))] ag aP fun bO aQ=>?_
 refine qal (qbu ag aQ (e:=51) (size:=8) (len:=5) (cs:=(z23 ae am)) (d:=8) kz kz fun aR bP bQ bh bi bj ao aS=>?_)
 refine qai [8] [9] [(0,.p 0 0),(9,.v (.agg #[.slice (some ⟨aR,0,none⟩) 5 5,.int .i64 3]))] ao aS fun bR aT=>?_
 refine qal (qao ao aT (oi:=0) (cs:=[.slice (some ⟨aR,0,none⟩) 5 5,.int .i64 3]) kz fun aa bk ac aU=>?_)
 refine qae (qab ?_)
 refine wp_ret (qaM aU ac.cells (v:=.agg #[.slice (some ⟨aR,0,none⟩) 5 5,.int .i64 3]) kz ?_)
 have ah:=Flds.slots (F:=F) ac (k:=0) (n:=2) (xs:=z18) rfl (Flds.snoc (Flds.snoc (Flds.nil _ _) (c:=z53) (x:=(Fld.mk 8 0 (-1) (-1) (-1) 0 0 [])) (FldR.mk (l:=[]) _ (qcq aa (Fp F w)).1 (qcq aa (Fp F w)).2)) (c:=z85) (x:=(Fld.mk 11 0 (-1) (-1) (-1) 0 3 [])) (FldR.mk (l:=[]) _ (qcq aa (Fp F w)).1 (qcq aa (Fp F w)).2)) rfl (by decide)
 have ai:=Flds.slots (F:=F) ac (k:=1) (n:=2) (xs:=z18) rfl (Flds.snoc (Flds.snoc (Flds.nil _ _) (c:=z53) (x:=(Fld.mk 8 0 (-1) (-1) (-1) 0 0 [])) (FldR.mk (l:=[]) _ (qcq aa (Fp F w)).1 (qcq aa (Fp F w)).2)) (c:=z85) (x:=(Fld.mk 11 0 (-1) (-1) (-1) 0 3 [])) (FldR.mk (l:=[]) _ (qcq aa (Fp F w)).1 (qcq aa (Fp F w)).2)) rfl (by decide)
 have aj:=Flds.slots (F:=F) ac (k:=2) (n:=5) (xs:=(z22 al)) rfl (Flds.snoc (Flds.snoc (Flds.snoc (Flds.snoc (Flds.snoc (Flds.nil _ _) (c:=z53) (x:=(Fld.mk 8 0 (-1) (-1) (-1) 0 0 [])) (FldR.mk (l:=[]) _ (qcq aa (Fp F w)).1 (qcq aa (Fp F w)).2)) (c:=[.int .i64 4,.int .i64 0,.int .i64 (-1),.int .i64 (-1),.int .i64 (-1),.int .i64 0,.int .i64 0,.slice none 0 0]) (x:=(Fld.mk 4 0 (-1) (-1) (-1) 0 0 [])) (FldR.mk (l:=[]) _ (qcq aa (Fp F w)).1 (qcq aa (Fp F w)).2)) (c:=[.int .i64 2,.int .i64 0,.int .i64 (-1),.int .i64 (-1),.int .i64 (-1),.int .i64 0,.int .i64 0,.slice none 0 0]) (x:=(Fld.mk 2 0 (-1) (-1) (-1) 0 0 [])) (FldR.mk (l:=[]) _ (qcq aa (Fp F w)).1 (qcq aa (Fp F w)).2)) (c:=[.int .i64 0,.int .i64 0,.int .i64 (-1),.int .i64 (-1),.int .i64 (-1),.int .i64 0,.int .i64 0,.slice none 0 0]) (x:=(Fld.mk 0 0 (-1) (-1) (-1) 0 0 [])) (FldR.mk (l:=[]) _ (qcq aa (Fp F w)).1 (qcq aa (Fp F w)).2)) (c:=[.int .i64 11,.int .i64 0,.int .i64 (-1),.int .i64 (-1),.int .i64 (-1),.int .i64 0,.int .i64 10,.slice (some ⟨al,0,none⟩) 2 2]) (x:=z21) (FldR.mk (l:=[(Fld.mk 8 0 (-1) (-1) (-1) 0 0 []),(Fld.mk 11 0 (-1) (-1) (-1) 0 3 [])]) _ ai.1 ai.2)) rfl (by decide)
 have ak:=Flds.slots (F:=F) ac (k:=3) (n:=5) (xs:=(z23 ae am)) rfl (Flds.snoc (Flds.snoc (Flds.snoc (Flds.snoc (Flds.snoc (Flds.nil _ _) (c:=[.int .i64 8,.int .i64 0,.int .i64 3,.int .i64 (-1),.int .i64 (-1),.int .i64 0,.int .i64 0,.slice none 0 0]) (x:=(Fld.mk 8 0 3 (-1) (-1) 0 0 [])) (FldR.mk (l:=[]) _ (qcq aa (Fp F w)).1 (qcq aa (Fp F w)).2)) (c:=[.int .i64 4,.int .i64 0,.int .i64 3,.int .i64 (-1),.int .i64 (-1),.int .i64 0,.int .i64 0,.slice none 0 0]) (x:=(Fld.mk 4 0 3 (-1) (-1) 0 0 [])) (FldR.mk (l:=[]) _ (qcq aa (Fp F w)).1 (qcq aa (Fp F w)).2)) (c:=[.int .i64 2,.int .i64 0,.int .i64 3,.int .i64 (-1),.int .i64 (-1),.int .i64 0,.int .i64 0,.slice none 0 0]) (x:=(Fld.mk 2 0 3 (-1) (-1) 0 0 [])) (FldR.mk (l:=[]) _ (qcq aa (Fp F w)).1 (qcq aa (Fp F w)).2)) (c:=[.int .i64 11,.int .i64 0,.int .i64 3,.int .i64 (-1),.int .i64 (-1),.int .i64 0,.int .i64 10,.slice (some ⟨ae,0,none⟩) 2 2]) (x:=(Fld.mk 11 0 3 (-1) (-1) 0 10 [(Fld.mk 8 0 (-1) (-1) (-1) 0 0 []),(Fld.mk 11 0 (-1) (-1) (-1) 0 3 [])])) (FldR.mk (l:=[(Fld.mk 8 0 (-1) (-1) (-1) 0 0 []),(Fld.mk 11 0 (-1) (-1) (-1) 0 3 [])]) _ ah.1 ah.2)) (c:=[.int .i64 11,.int .i64 4,.int .i64 (-1),.int .i64 (-1),.int .i64 (-1),.int .i64 0,.int .i64 10,.slice (some ⟨am,0,none⟩) 5 5]) (x:=(Fld.mk 11 4 (-1) (-1) (-1) 0 10 [(Fld.mk 8 0 (-1) (-1) (-1) 0 0 []),(Fld.mk 4 0 (-1) (-1) (-1) 0 0 []),(Fld.mk 2 0 (-1) (-1) (-1) 0 0 []),(Fld.mk 0 0 (-1) (-1) (-1) 0 0 []),z21])) (FldR.mk (l:=[(Fld.mk 8 0 (-1) (-1) (-1) 0 0 []),(Fld.mk 4 0 (-1) (-1) (-1) 0 0 []),(Fld.mk 2 0 (-1) (-1) (-1) 0 0 []),(Fld.mk 0 0 (-1) (-1) (-1) 0 0 []),z21]) _ aj.1 aj.2)) rfl (by decide)
 exact ⟨_,_,rfl,⟨_,ak.1,ak.2⟩,ac.step⟩
def qbs (T:Tree):Prop:=((T.at_ 0).S.length ≤ 32767) ∧ ((lst (T.at_ 1)).length ≤ 32767) ∧ canU T.U ∧ True
def qba (T:Tree):Prop:=((T.at_ 0).S.length ≤ 32767) ∧ ((lst (T.at_ 1)).length ≤ 32767) ∧ canU T.U ∧ True
def qbg (T:Tree):Prop:=((T.at_ 0).S.length ≤ 32767) ∧ (True) ∧ (True) ∧ (True) ∧ ((lst (T.at_ 4)).length ≤ 32767 ∧ ∀ x ∈ lst (T.at_ 4),qba x) ∧ canU T.U ∧ True
def qbc (T:Tree):Prop:=((T.at_ 0).S.length ≤ 32767) ∧ (True) ∧ (True) ∧ ((lst (T.at_ 3)).length ≤ 32767 ∧ ∀ x ∈ lst (T.at_ 3),qbs x) ∧ ((lst (T.at_ 4)).length ≤ 32767 ∧ ∀ x ∈ lst (T.at_ 4),qbg x) ∧ canU T.U ∧ True
abbrev z61 :=(Fld.mk 10 4 (-1) (-1) (-1) 0 10 [(Fld.mk 8 0 (-1) (-1) (-1) 0 0 []),(Fld.mk 4 0 (-1) (-1) (-1) 0 0 []),(Fld.mk 2 0 (-1) (-1) (-1) 0 0 []),(Fld.mk 0 0 (-1) (-1) (-1) 0 0 []),z21])
abbrev z90 :=(Fld.mk 10 0 3 (-1) (-1) 0 10 [(Fld.mk 8 0 (-1) (-1) (-1) 0 0 []),(Fld.mk 11 0 (-1) (-1) (-1) 0 3 [])])
abbrev z88 :=(Fld.mk 10 0 (-1) (-1) (-1) 0 10 [(Fld.mk 8 0 (-1) (-1) (-1) 0 0 []),(Fld.mk 11 0 (-1) (-1) (-1) 0 3 [])])
theorem qcM (v:Int) (t:Tree):qbc (fitT v 8 sAddPartitionsToTxnRequestF t):=by
 unfold qbc
 exact ⟨(by rw [qfg (d:=7) (show sAddPartitionsToTxnRequestF[0]? = _ from rfl) (by decide)]; exact Nat.le_trans (qbl _) (by decide)),(trivial),(trivial),(⟨qfI (d:=7) (show sAddPartitionsToTxnRequestF[3]? = _ from rfl),qhA (d:=7) (Q:=qbs) (show sAddPartitionsToTxnRequestF[3]? = _ from rfl) fun y=>by
   have h:=fit_10 (v:=v) (d:=7) (x1:=0) (x2:=3) (x5:=0) (x6:=10) (s:=[(Fld.mk 8 0 (-1) (-1) (-1) 0 0 []),(Fld.mk 11 0 (-1) (-1) (-1) 0 3 [])]) (b:=Fld.nul z90 v y) (x:=y)
   unfold qbs
   simp only [h.1,h.2]
   exact ⟨(by rw [qfg (d:=6) (show [(Fld.mk 8 0 (-1) (-1) (-1) 0 0 []),(Fld.mk 11 0 (-1) (-1) (-1) 0 3 [])][0]? = _ from rfl) (by decide)]; exact Nat.le_trans (qbl _) (by decide)),(qfI (d:=6) (show [(Fld.mk 8 0 (-1) (-1) (-1) 0 0 []),(Fld.mk 11 0 (-1) (-1) (-1) 0 3 [])][1]? = _ from rfl)),(qfo),(trivial)⟩⟩),(⟨qfI (d:=7) (show sAddPartitionsToTxnRequestF[4]? = _ from rfl),qhA (d:=7) (Q:=qbg) (show sAddPartitionsToTxnRequestF[4]? = _ from rfl) fun y=>by
   have h:=fit_10 (v:=v) (d:=7) (x1:=4) (x2:=-1) (x5:=0) (x6:=10) (s:=[(Fld.mk 8 0 (-1) (-1) (-1) 0 0 []),(Fld.mk 4 0 (-1) (-1) (-1) 0 0 []),(Fld.mk 2 0 (-1) (-1) (-1) 0 0 []),(Fld.mk 0 0 (-1) (-1) (-1) 0 0 []),z21]) (b:=Fld.nul z61 v y) (x:=y)
   unfold qbg
   simp only [h.1,h.2]
   exact ⟨(by rw [qfg (d:=6) (show [(Fld.mk 8 0 (-1) (-1) (-1) 0 0 []),(Fld.mk 4 0 (-1) (-1) (-1) 0 0 []),(Fld.mk 2 0 (-1) (-1) (-1) 0 0 []),(Fld.mk 0 0 (-1) (-1) (-1) 0 0 []),(Fld.mk 11 0 (-1) (-1) (-1) 0 10 [(Fld.mk 8 0 (-1) (-1) (-1) 0 0 []),(Fld.mk 11 0 (-1) (-1) (-1) 0 3 [])])][0]? = _ from rfl) (by decide)]; exact Nat.le_trans (qbl _) (by decide)),(trivial),(trivial),(trivial),(⟨qfI (d:=6) (show [(Fld.mk 8 0 (-1) (-1) (-1) 0 0 []),(Fld.mk 4 0 (-1) (-1) (-1) 0 0 []),(Fld.mk 2 0 (-1) (-1) (-1) 0 0 []),(Fld.mk 0 0 (-1) (-1) (-1) 0 0 []),(Fld.mk 11 0 (-1) (-1) (-1) 0 10 [(Fld.mk 8 0 (-1) (-1) (-1) 0 0 []),(Fld.mk 11 0 (-1) (-1) (-1) 0 3 [])])][4]? = _ from rfl),qhA (d:=6) (Q:=qba) (show [(Fld.mk 8 0 (-1) (-1) (-1) 0 0 []),(Fld.mk 4 0 (-1) (-1) (-1) 0 0 []),(Fld.mk 2 0 (-1) (-1) (-1) 0 0 []),(Fld.mk 0 0 (-1) (-1) (-1) 0 0 []),(Fld.mk 11 0 (-1) (-1) (-1) 0 10 [(Fld.mk 8 0 (-1) (-1) (-1) 0 0 []),(Fld.mk 11 0 (-1) (-1) (-1) 0 3 [])])][4]? = _ from rfl) fun y=>by
     have h:=fit_10 (v:=v) (d:=6) (x1:=0) (x2:=-1) (x5:=0) (x6:=10) (s:=[(Fld.mk 8 0 (-1) (-1) (-1) 0 0 []),(Fld.mk 11 0 (-1) (-1) (-1) 0 3 [])]) (b:=Fld.nul z88 v y) (x:=y)
     unfold qba
     simp only [h.1,h.2]
     exact ⟨(by rw [qfg (d:=5) (show [(Fld.mk 8 0 (-1) (-1) (-1) 0 0 []),(Fld.mk 11 0 (-1) (-1) (-1) 0 3 [])][0]? = _ from rfl) (by decide)]; exact Nat.le_trans (qbl _) (by decide)),(qfI (d:=5) (show [(Fld.mk 8 0 (-1) (-1) (-1) 0 0 []),(Fld.mk 11 0 (-1) (-1) (-1) 0 3 [])][1]? = _ from rfl)),(qfo),(trivial)⟩⟩),(qfo),(trivial)⟩⟩),(qfo),(trivial)⟩
set_option maxHeartbeats 4000000 in
theorem qcR (v:Int) (h0:0 ≤ v) (h1:v < 32768) (t:Tree):qaj v (fitT v 8 sAddPartitionsToTxnRequestF t) = qc5 8 sAddPartitionsToTxnRequestF qah v t:=by
 have aA:=qfg (v:=v) (d:=7) (t:=t) (l:=sAddPartitionsToTxnRequestF) (i:=0) (show sAddPartitionsToTxnRequestF[0]? = _ from rfl) (by decide)
 have aB:((fitT v 8 sAddPartitionsToTxnRequestF t).at_ 1).N = (t.at_ 1).N:=qfT (d:=7) (show sAddPartitionsToTxnRequestF[1]? = _ from rfl) (by decide)
 have aC:((fitT v 8 sAddPartitionsToTxnRequestF t).at_ 2).N = (t.at_ 2).N:=qfT (d:=7) (show sAddPartitionsToTxnRequestF[2]? = _ from rfl) (by decide)
 obtain ⟨f57n,aD⟩:=qdE (v:=v) (d:=7) (t:=t) (l:=sAddPartitionsToTxnRequestF) (i:=3) (show sAddPartitionsToTxnRequestF[3]? = _ from rfl)
 obtain ⟨f58n,aE⟩:=qdE (v:=v) (d:=7) (t:=t) (l:=sAddPartitionsToTxnRequestF) (i:=4) (show sAddPartitionsToTxnRequestF[4]? = _ from rfl)
 have al:∀ ag:Tree,(fun ac:Tree=>(if (decide (v ≥ 3)) = true then (uv ((ac.at_ 0).S.length + 1) ++ (ac.at_ 0).S) else (be 2 (ac.at_ 0).S.length ++ (ac.at_ 0).S)) ++ (((if (decide (v ≥ 3)) = true then (uv ((lst (ac.at_ 1)).length + 1)) else (be 4 (lst (ac.at_ 1)).length)) ++ ((lst (ac.at_ 1)).flatMap fun ai=>be 4 ((IntKind.i32.wrap ai.N)))) ++ (if (decide (v ≥ 3)) = true then (uv ac.U.length) ++ (qct ac.U) else []))) (qbT (fitT v 7) (Fld.mk 10 0 3 (-1) (-1) 0 10 [(Fld.mk 8 0 (-1) (-1) (-1) 0 0 []),(Fld.mk 11 0 (-1) (-1) (-1) 0 3 [])]) (Fld.nul (Fld.mk 10 0 3 (-1) (-1) 0 10 [(Fld.mk 8 0 (-1) (-1) (-1) 0 0 []),(Fld.mk 11 0 (-1) (-1) (-1) 0 3 [])]) v ag) ag) = qa8 7 [(Fld.mk 8 0 (-1) (-1) (-1) 0 0 []),(Fld.mk 11 0 (-1) (-1) (-1) 0 3 [])] v (decide (v ≥ 3)) ag:=by
  intro ag
  dsimp only
  obtain ⟨am,ao⟩:=fit_10 (v:=v) (d:=7) (x1:=0) (x2:=3) (x5:=0) (x6:=10) (s:=[(Fld.mk 8 0 (-1) (-1) (-1) 0 0 []),(Fld.mk 11 0 (-1) (-1) (-1) 0 3 [])]) (b:=Fld.nul z90 v ag) (x:=ag)
  simp only [am,ao]
  have aF:=qfg (v:=v) (d:=6) (t:=ag) (l:=[(Fld.mk 8 0 (-1) (-1) (-1) 0 0 []),(Fld.mk 11 0 (-1) (-1) (-1) 0 3 [])]) (i:=0) (show [(Fld.mk 8 0 (-1) (-1) (-1) 0 0 []),(Fld.mk 11 0 (-1) (-1) (-1) 0 3 [])][0]? = _ from rfl) (by decide)
  obtain ⟨f63n,aG⟩:=qdE (v:=v) (d:=6) (t:=ag) (l:=[(Fld.mk 8 0 (-1) (-1) (-1) 0 0 []),(Fld.mk 11 0 (-1) (-1) (-1) 0 3 [])]) (i:=1) (show [(Fld.mk 8 0 (-1) (-1) (-1) 0 0 []),(Fld.mk 11 0 (-1) (-1) (-1) 0 3 [])][1]? = _ from rfl)
  have ap:∀ aj:Tree,(fun ai:Tree=>be 4 ((IntKind.i32.wrap ai.N))) (qbT (fitT v 6) (Fld.mk 3 0 (-1) (-1) (-1) 0 3 []) (Fld.nul (Fld.mk 3 0 (-1) (-1) (-1) 0 3 []) v aj) aj) = be 4 aj.N:=by
   intro aj
   dsimp only
   cases aj; simp [qbT,Fld.kind,Tree.N,be4_i32',qeY,qe1,qf7]
  simp only [qgm,qdA,qcL,List.flatMap_map,List.length_map,aF,f63n,aG]
  simp only [ap]
  try simp only [be4_i32',qeY,qe1,qf7,qfk,qcU,qki,qgr]
  by_cases c0:v ≤ 3 <;> by_cases c1:v ≥ 3 <;> by_cases c2:v ≥ 4 <;> first | (exfalso; omega) | simp [qa8,qek,qa1,Fld.tag,Fld.has,qdg,Fld.kind,Fld.null,Fld.of,Fld.sub,qa2,qbH,qa4,qaP,qaC,qav,uv0,nul_no,c0,c1,c2,h0]
 have ar:∀ ae:Tree,(fun ab:Tree=>(if (decide (v ≥ 3)) = true then (uv ((ab.at_ 0).S.length + 1) ++ (ab.at_ 0).S) else (be 2 (ab.at_ 0).S.length ++ (ab.at_ 0).S)) ++ ((be 8 ((ab.at_ 1).N)) ++ ((be 2 ((IntKind.i16.wrap (ab.at_ 2).N))) ++ (([by8 (if (decide ((ab.at_ 3).N % 2 = 1)) then 1 else 0)]) ++ (((if (decide (v ≥ 3)) = true then (uv ((lst (ab.at_ 4)).length + 1)) else (be 4 (lst (ab.at_ 4)).length)) ++ ((lst (ab.at_ 4)).flatMap fun aa=>(if (decide (v ≥ 3)) = true then (uv ((aa.at_ 0).S.length + 1) ++ (aa.at_ 0).S) else (be 2 (aa.at_ 0).S.length ++ (aa.at_ 0).S)) ++ (((if (decide (v ≥ 3)) = true then (uv ((lst (aa.at_ 1)).length + 1)) else (be 4 (lst (aa.at_ 1)).length)) ++ ((lst (aa.at_ 1)).flatMap fun af=>be 4 ((IntKind.i32.wrap af.N)))) ++ (if (decide (v ≥ 3)) = true then (uv aa.U.length) ++ (qct aa.U) else [])))) ++ (if (decide (v ≥ 3)) = true then (uv ab.U.length) ++ (qct ab.U) else [])))))) (qbT (fitT v 7) (Fld.mk 10 4 (-1) (-1) (-1) 0 10 [(Fld.mk 8 0 (-1) (-1) (-1) 0 0 []),(Fld.mk 4 0 (-1) (-1) (-1) 0 0 []),(Fld.mk 2 0 (-1) (-1) (-1) 0 0 []),(Fld.mk 0 0 (-1) (-1) (-1) 0 0 []),(Fld.mk 11 0 (-1) (-1) (-1) 0 10 [(Fld.mk 8 0 (-1) (-1) (-1) 0 0 []),(Fld.mk 11 0 (-1) (-1) (-1) 0 3 [])])]) (Fld.nul (Fld.mk 10 4 (-1) (-1) (-1) 0 10 [(Fld.mk 8 0 (-1) (-1) (-1) 0 0 []),(Fld.mk 4 0 (-1) (-1) (-1) 0 0 []),(Fld.mk 2 0 (-1) (-1) (-1) 0 0 []),(Fld.mk 0 0 (-1) (-1) (-1) 0 0 []),(Fld.mk 11 0 (-1) (-1) (-1) 0 10 [(Fld.mk 8 0 (-1) (-1) (-1) 0 0 []),(Fld.mk 11 0 (-1) (-1) (-1) 0 3 [])])]) v ae) ae) = qa8 7 [(Fld.mk 8 0 (-1) (-1) (-1) 0 0 []),(Fld.mk 4 0 (-1) (-1) (-1) 0 0 []),(Fld.mk 2 0 (-1) (-1) (-1) 0 0 []),(Fld.mk 0 0 (-1) (-1) (-1) 0 0 []),(Fld.mk 11 0 (-1) (-1) (-1) 0 10 [(Fld.mk 8 0 (-1) (-1) (-1) 0 0 []),(Fld.mk 11 0 (-1) (-1) (-1) 0 3 [])])] v (decide (v ≥ 3)) ae:=by
  intro ae
  dsimp only
  obtain ⟨au,av⟩:=fit_10 (v:=v) (d:=7) (x1:=4) (x2:=-1) (x5:=0) (x6:=10) (s:=[(Fld.mk 8 0 (-1) (-1) (-1) 0 0 []),(Fld.mk 4 0 (-1) (-1) (-1) 0 0 []),(Fld.mk 2 0 (-1) (-1) (-1) 0 0 []),(Fld.mk 0 0 (-1) (-1) (-1) 0 0 []),z21]) (b:=Fld.nul z61 v ae) (x:=ae)
  simp only [au,av]
  have aH:=qfg (v:=v) (d:=6) (t:=ae) (l:=[(Fld.mk 8 0 (-1) (-1) (-1) 0 0 []),(Fld.mk 4 0 (-1) (-1) (-1) 0 0 []),(Fld.mk 2 0 (-1) (-1) (-1) 0 0 []),(Fld.mk 0 0 (-1) (-1) (-1) 0 0 []),(Fld.mk 11 0 (-1) (-1) (-1) 0 10 [(Fld.mk 8 0 (-1) (-1) (-1) 0 0 []),(Fld.mk 11 0 (-1) (-1) (-1) 0 3 [])])]) (i:=0) (show [(Fld.mk 8 0 (-1) (-1) (-1) 0 0 []),(Fld.mk 4 0 (-1) (-1) (-1) 0 0 []),(Fld.mk 2 0 (-1) (-1) (-1) 0 0 []),(Fld.mk 0 0 (-1) (-1) (-1) 0 0 []),(Fld.mk 11 0 (-1) (-1) (-1) 0 10 [(Fld.mk 8 0 (-1) (-1) (-1) 0 0 []),(Fld.mk 11 0 (-1) (-1) (-1) 0 3 [])])][0]? = _ from rfl) (by decide)
  have aI:((fitT v 7 [(Fld.mk 8 0 (-1) (-1) (-1) 0 0 []),(Fld.mk 4 0 (-1) (-1) (-1) 0 0 []),(Fld.mk 2 0 (-1) (-1) (-1) 0 0 []),(Fld.mk 0 0 (-1) (-1) (-1) 0 0 []),(Fld.mk 11 0 (-1) (-1) (-1) 0 10 [(Fld.mk 8 0 (-1) (-1) (-1) 0 0 []),(Fld.mk 11 0 (-1) (-1) (-1) 0 3 [])])] ae).at_ 1).N = (ae.at_ 1).N:=qfT (d:=6) (show [(Fld.mk 8 0 (-1) (-1) (-1) 0 0 []),(Fld.mk 4 0 (-1) (-1) (-1) 0 0 []),(Fld.mk 2 0 (-1) (-1) (-1) 0 0 []),(Fld.mk 0 0 (-1) (-1) (-1) 0 0 []),(Fld.mk 11 0 (-1) (-1) (-1) 0 10 [(Fld.mk 8 0 (-1) (-1) (-1) 0 0 []),(Fld.mk 11 0 (-1) (-1) (-1) 0 3 [])])][1]? = _ from rfl) (by decide)
  have aJ:((fitT v 7 [(Fld.mk 8 0 (-1) (-1) (-1) 0 0 []),(Fld.mk 4 0 (-1) (-1) (-1) 0 0 []),(Fld.mk 2 0 (-1) (-1) (-1) 0 0 []),(Fld.mk 0 0 (-1) (-1) (-1) 0 0 []),(Fld.mk 11 0 (-1) (-1) (-1) 0 10 [(Fld.mk 8 0 (-1) (-1) (-1) 0 0 []),(Fld.mk 11 0 (-1) (-1) (-1) 0 3 [])])] ae).at_ 2).N = (ae.at_ 2).N:=qfT (d:=6) (show [(Fld.mk 8 0 (-1) (-1) (-1) 0 0 []),(Fld.mk 4 0 (-1) (-1) (-1) 0 0 []),(Fld.mk 2 0 (-1) (-1) (-1) 0 0 []),(Fld.mk 0 0 (-1) (-1) (-1) 0 0 []),(Fld.mk 11 0 (-1) (-1) (-1) 0 10 [(Fld.mk 8 0 (-1) (-1) (-1) 0 0 []),(Fld.mk 11 0 (-1) (-1) (-1) 0 3 [])])][2]? = _ from rfl) (by decide)
  have aK:((fitT v 7 [(Fld.mk 8 0 (-1) (-1) (-1) 0 0 []),(Fld.mk 4 0 (-1) (-1) (-1) 0 0 []),(Fld.mk 2 0 (-1) (-1) (-1) 0 0 []),(Fld.mk 0 0 (-1) (-1) (-1) 0 0 []),(Fld.mk 11 0 (-1) (-1) (-1) 0 10 [(Fld.mk 8 0 (-1) (-1) (-1) 0 0 []),(Fld.mk 11 0 (-1) (-1) (-1) 0 3 [])])] ae).at_ 3).N = (ae.at_ 3).N:=qfT (d:=6) (show [(Fld.mk 8 0 (-1) (-1) (-1) 0 0 []),(Fld.mk 4 0 (-1) (-1) (-1) 0 0 []),(Fld.mk 2 0 (-1) (-1) (-1) 0 0 []),(Fld.mk 0 0 (-1) (-1) (-1) 0 0 []),(Fld.mk 11 0 (-1) (-1) (-1) 0 10 [(Fld.mk 8 0 (-1) (-1) (-1) 0 0 []),(Fld.mk 11 0 (-1) (-1) (-1) 0 3 [])])][3]? = _ from rfl) (by decide)
  obtain ⟨f73n,aL⟩:=qdE (v:=v) (d:=6) (t:=ae) (l:=[(Fld.mk 8 0 (-1) (-1) (-1) 0 0 []),(Fld.mk 4 0 (-1) (-1) (-1) 0 0 []),(Fld.mk 2 0 (-1) (-1) (-1) 0 0 []),(Fld.mk 0 0 (-1) (-1) (-1) 0 0 []),(Fld.mk 11 0 (-1) (-1) (-1) 0 10 [(Fld.mk 8 0 (-1) (-1) (-1) 0 0 []),(Fld.mk 11 0 (-1) (-1) (-1) 0 3 [])])]) (i:=4) (show [(Fld.mk 8 0 (-1) (-1) (-1) 0 0 []),(Fld.mk 4 0 (-1) (-1) (-1) 0 0 []),(Fld.mk 2 0 (-1) (-1) (-1) 0 0 []),(Fld.mk 0 0 (-1) (-1) (-1) 0 0 []),(Fld.mk 11 0 (-1) (-1) (-1) 0 10 [(Fld.mk 8 0 (-1) (-1) (-1) 0 0 []),(Fld.mk 11 0 (-1) (-1) (-1) 0 3 [])])][4]? = _ from rfl)
  have aw:∀ ah:Tree,(fun aa:Tree=>(if (decide (v ≥ 3)) = true then (uv ((aa.at_ 0).S.length + 1) ++ (aa.at_ 0).S) else (be 2 (aa.at_ 0).S.length ++ (aa.at_ 0).S)) ++ (((if (decide (v ≥ 3)) = true then (uv ((lst (aa.at_ 1)).length + 1)) else (be 4 (lst (aa.at_ 1)).length)) ++ ((lst (aa.at_ 1)).flatMap fun af=>be 4 ((IntKind.i32.wrap af.N)))) ++ (if (decide (v ≥ 3)) = true then (uv aa.U.length) ++ (qct aa.U) else []))) (qbT (fitT v 6) (Fld.mk 10 0 (-1) (-1) (-1) 0 10 [(Fld.mk 8 0 (-1) (-1) (-1) 0 0 []),(Fld.mk 11 0 (-1) (-1) (-1) 0 3 [])]) (Fld.nul (Fld.mk 10 0 (-1) (-1) (-1) 0 10 [(Fld.mk 8 0 (-1) (-1) (-1) 0 0 []),(Fld.mk 11 0 (-1) (-1) (-1) 0 3 [])]) v ah) ah) = qa8 6 [(Fld.mk 8 0 (-1) (-1) (-1) 0 0 []),(Fld.mk 11 0 (-1) (-1) (-1) 0 3 [])] v (decide (v ≥ 3)) ah:=by
   intro ah
   dsimp only
   obtain ⟨ax,ay⟩:=fit_10 (v:=v) (d:=6) (x1:=0) (x2:=-1) (x5:=0) (x6:=10) (s:=[(Fld.mk 8 0 (-1) (-1) (-1) 0 0 []),(Fld.mk 11 0 (-1) (-1) (-1) 0 3 [])]) (b:=Fld.nul z88 v ah) (x:=ah)
   simp only [ax,ay]
   have aM:=qfg (v:=v) (d:=5) (t:=ah) (l:=[(Fld.mk 8 0 (-1) (-1) (-1) 0 0 []),(Fld.mk 11 0 (-1) (-1) (-1) 0 3 [])]) (i:=0) (show [(Fld.mk 8 0 (-1) (-1) (-1) 0 0 []),(Fld.mk 11 0 (-1) (-1) (-1) 0 3 [])][0]? = _ from rfl) (by decide)
   obtain ⟨f78n,aN⟩:=qdE (v:=v) (d:=5) (t:=ah) (l:=[(Fld.mk 8 0 (-1) (-1) (-1) 0 0 []),(Fld.mk 11 0 (-1) (-1) (-1) 0 3 [])]) (i:=1) (show [(Fld.mk 8 0 (-1) (-1) (-1) 0 0 []),(Fld.mk 11 0 (-1) (-1) (-1) 0 3 [])][1]? = _ from rfl)
   have az:∀ ak:Tree,(fun af:Tree=>be 4 ((IntKind.i32.wrap af.N))) (qbT (fitT v 5) (Fld.mk 3 0 (-1) (-1) (-1) 0 3 []) (Fld.nul (Fld.mk 3 0 (-1) (-1) (-1) 0 3 []) v ak) ak) = be 4 ak.N:=by
    intro ak
    dsimp only
    cases ak; simp [qbT,Fld.kind,Tree.N,be4_i32',qeY,qe1,qf7]
   simp only [qgm,qdA,qcL,List.flatMap_map,List.length_map,aM,f78n,aN]
   simp only [az]
   try simp only [be4_i32',qeY,qe1,qf7,qfk,qcU,qki,qgr]
   by_cases c0:v ≤ 3 <;> by_cases c1:v ≥ 3 <;> by_cases c2:v ≥ 4 <;> first | (exfalso; omega) | simp [qa8,qek,qa1,Fld.tag,Fld.has,qdg,Fld.kind,Fld.null,Fld.of,Fld.sub,qa2,qbH,qa4,qaP,qaC,qav,uv0,nul_no,c0,c1,c2,h0]
  simp only [qgm,qdA,qcL,List.flatMap_map,List.length_map,aH,aI,aJ,aK,f73n,aL]
  simp only [aw]
  try simp only [be4_i32',qeY,qe1,qf7,qfk,qcU,qki,qgr]
  by_cases c0:v ≤ 3 <;> by_cases c1:v ≥ 3 <;> by_cases c2:v ≥ 4 <;> first | (exfalso; omega) | simp [qa8,qek,qa1,Fld.tag,Fld.has,qdg,Fld.kind,Fld.null,Fld.of,Fld.sub,qa2,qbH,qa4,qaP,qaC,qav,uv0,nul_no,c0,c1,c2,h0]
 unfold qaj
 simp only [qgm,qdA,qcL,List.flatMap_map,List.length_map,aA,aB,aC,f57n,aD,f58n,aE]
 simp only [al,ar]
 try simp only [be4_i32',qeY,qe1,qf7,qfk,qcU,qki,qgr]
 by_cases c0:v ≤ 3 <;> by_cases c1:v ≥ 3 <;> by_cases c2:v ≥ 4 <;> first | (exfalso; omega) | simp [qc5,qah,sAddPartitionsToTxnRequestF,qa8,qek,qa1,Fld.tag,Fld.has,qdg,Fld.kind,Fld.null,Fld.of,Fld.sub,qa2,qbH,qa4,qaP,qaC,qav,uv0,nul_no,c0,c1,c2,h0]
def dv0:DV:=.leaf
def qfU (ok:World → (Nat → Nat → Prop) → DV → Prop):Prop:=∀ {w w':World} {F F' M:Nat → Nat → Prop} (d:DV),Step w w' M → (∀ b o,F b o → b < w.heap.size → ¬ M b o) → (∀ b o,F b o → b < w.heap.size → F' b o) → ok w F d → ok w' F' d
def qhh (_:World) (_:Nat → Nat → Prop) (_:DV):Prop:=True
theorem qgb:qfU qhh:=fun _ _ _ _ _=>trivial
section
variable {w w' w0:World} {F F' M:Nat → Nat → Prop} {size:Nat} {cells:DV → List Value} {ok:World → (Nat → Nat → Prop) → DV → Prop} {rel:DV → Tree → Prop} {xs:List Value} {ds:List DV} {ts:List Tree} {A:Option Addr} {c:Nat} {f:Nat → DV} {tb:Tb} {rs rs':List Rw}
end
theorem qhD {P:Program} {c:Code} {Mid N:Act → World → Prop} {Q:Exit → Act → World → Prop} {a:Act} {w:World} (h1:c.wp P (Exit.then Mid Q) a w) (h2:∀ a' w',Mid a' w' → N a' w'):c.wp P (Exit.then N Q) a w :=
 wp_mono h1 fun e a' w' h=>by
  cases e <;> first | exact h2 a' w' h | exact h
def dvN (n:Int):DV:=.mk n false ByteArray.empty [] none 0 0 none [] (fun _=>.leaf)
def dvB (b:Bool):DV:=.mk 0 b ByteArray.empty [] none 0 0 none [] (fun _=>.leaf)
def dvS (s:ByteArray):DV:=.mk 0 false s [] none 0 0 none [] (fun _=>.leaf)
def dvL (A:Option Addr) (l c:Nat) (f:Nat → DV):DV:=.mk 0 false ByteArray.empty [] A l c none [] f
def dvP (m:Option Nat) (u:List (Int × Bs)) (fs:List DV):DV:=.mk 0 false ByteArray.empty [] none 0 0 m u (fun i=>fs.getD i .leaf)
theorem EnvOk.retable {n:Nat} {env:Env} {a:Act} (tb:Tb) (h:EnvOk n [] env a):EnvOk n tb env a:=h.table fun i hi=>absurd hi (Nat.not_lt_zero i)
def cutA (A:Option Addr) (cp j:Nat):Option Addr:=if cp = j then A else A.map (·.add j)
theorem qjC (s:Bs) (j i:Nat):(s.drop j).getD i 0 = s.getD (j + i) 0:=by
 rw [List.getD_eq_getElem?_getD,List.getD_eq_getElem?_getD,List.getElem?_drop]
theorem Octs.drop {w:World} {F:Nat → Nat → Prop} {A:Option Addr} {c:Nat} {s:Bs} (h:Octs w F A c s) {j:Nat} (hj:j ≤ s.length):Octs w F (cutA A c j) (c - j) (s.drop j):=by
 have hle:=h.le
 have hsm:=h.small
 unfold Octs
 rw [List.length_drop]
 refine ⟨by omega,by omega,fun hA=>?_,fun ad hA hn=>?_⟩
 ·have hn:A = none:=by
   unfold cutA at hA
   split at hA
   ·exact hA
   cases A with
   | none=>rfl
   | some _=>cases hA
  have:=h.none_ hn
  omega
 have hA':A.map (·.add j) = some ad:=by
  unfold cutA at hA
  rwa [if_neg (by omega)] at hA
 cases hq:A with
 | none=>rw [hq] at hA'; cases hA'
 | some ad0 =>
  rw [hq] at hA'
  obtain ⟨b,o,rfl,h2⟩:=h.some_ ad0 hq (by omega)
  simp only [Option.map_some,Option.some.injEq,qbV] at hA'
  subst hA'
  refine ⟨b,o + j,rfl,fun i hi=>?_⟩
  rw [qjC,show o + j + i * 1 = o + (j + i) * 1 by omega]
  exact h2 (j + i) (by omega)
theorem Octs.cutS {w:World} {F:Nat → Nat → Prop} {A:Option Addr} {c:Nat} {s:Bs} (h:Octs w F A c s) {j:Nat} (hj:j ≤ s.length):Octs w F A j (s.take j):=by
 have h1:=h.take j
 refine ⟨by rw [List.length_take]; omega,h1.small,fun hA=>?_,h1.some_⟩
 have:=h.none_ hA
 rw [List.length_take]; omega
section
variable {P:Program} {ops:Array Oper} {Q:Exit → Act → World → Prop} {n:Nat} {tb:Tb} {env:Env} {rs:List Rw} {w0:World} {M:Nat → Nat → Prop} {a:Act} {w:World}
theorem qiA {t e:TypeId} {bytes:Nat} (ht:qcT P t = some (e,1,bytes)) {A:Option Addr} {m cp:Nat} {k:IntKind} {q:Int} (h0:0 ≤ q) (h1:q ≤ m) :
  (Instr.sliceAt t (.slice A m cp) (some (.int k q)) none none).run P w = .ok (.slice (cutA A cp q.toNat) (m - q.toNat) (cp - q.toNat)) w:=by
 obtain ⟨ht',inf,z,hi,hz,hzs,hs1,rfl,hsz,hbp⟩:=qcz ht
 unfold Instr.sliceAt
 simp only [Sem.run_bind,run_underlying ht',Result.andThen_ok]
 unfold Instr.slice
 have hb:(0 ≤ q ∧ q ≤ (m:Int)):=⟨h0,h1⟩
 simp only [Sem.run_bind,run_underlying ht',Result.andThen_ok,Instr.sliceBounds,Instr.sliceBound,asIntOf,Sem.run_pure,if_pos hb,run_sizeOf' hi,hs1,Nat.mul_one]
 rfl
theorem qiB {t e:TypeId} {bytes:Nat} (ht:qcT P t = some (e,1,bytes)) {A:Option Addr} {m cp:Nat} {k:IntKind} {q:Int} (h0:0 ≤ q) (h1:q ≤ cp) :
  (Instr.sliceAt t (.slice A m cp) none (some (.int k q)) (some (.int k q))).run P w = .ok (.slice A q.toNat q.toNat) w:=by
 obtain ⟨ht',inf,z,hi,hz,hzs,hs1,rfl,hsz,hbp⟩:=qcz ht
 unfold Instr.sliceAt
 simp only [Sem.run_bind,run_underlying ht',Result.andThen_ok]
 unfold Instr.slice
 have hb:(0 ≤ q ∧ q ≤ (cp:Int)):=⟨h0,h1⟩
 have hb2:(0 ≤ q ∧ q ≤ ((q.toNat:Nat):Int)):=⟨h0,by omega⟩
 simp only [Sem.run_bind,run_underlying ht',Result.andThen_ok,Instr.sliceBounds,Instr.sliceBound,asIntOf,Sem.run_pure,if_pos hb,if_pos hb2,run_sizeOf' hi]
 cases A with
 | none=>simp
 | some ad=>simp [Addr.add]
theorem qcN {i d j:Nat} {N:Act → World → Prop} {t e:TypeId} {bytes m cp:Nat} {A:Option Addr} {q:Int} (hE:EnvOk n tb env a) (h:cutE tb env ops n i = some (t,.slice A m cp,some q,none,d)) (ht:qcT P t = some (e,1,bytes)) (hq:q = (j:Int)) (hj:j ≤ m)
  (K:∀ a',EnvOk n tb ((d,.v (.slice (cutA A cp j) (m - j) (cp - j))) :: env) a' → N a' w):wpOp P ops Q i N a w:=by
 have h0:0 ≤ q:=by omega
 have h1:q ≤ m:=by omega
 obtain rfl:j = q.toNat:=by omega
 unfold cutE at h
 split at h
 ·rename_i t' x lo hi d' ho
  have hd:d' < n:=(qbD hE ho).choose_spec.2.2.2.1
  split at h
  ·simp at h
  ·rename_i s l hs
   split at h
   ·rename_i k q' hs2
    simp only [Option.some.injEq,Prod.mk.injEq,true_and] at h
    obtain ⟨rfl,hsv,rfl,rfl⟩:=h
    have e1:=(qbb hE hs).1
    have e2:=(qbb hE hs2).1
    refine qbh hE ho (v:=.slice (cutA A cp q'.toNat) (m - q'.toNat) (cp - q'.toNat)) (w':=w) (fun o' hop=>?_) (K _ (hE.put hd (.v _) trivial))
    unfold execOp
    rw [hop]
    rw [hsv] at e1
    simp only [SV.val] at e2
    simp only [e1,e2,Option.map_none,Option.map_some,Sem.run_bind,qiA ht h0 h1,Result.andThen_ok,Sem.run_pure]
   cases h
  ·split at h <;> simp at h
  ·split at h <;> simp at h
  cases h
 cases h
def qlC (tb:Tb) (env:Env) (ops:Array Oper) (n i:Nat):Option (TypeId × Value × IntKind × Int × IntKind × Int × Nat) :=
 match opAt env ops n i with
 | some (.slice t x none (some h) (some m),d)=>match opd env x,opd env h,opd env m with
  | some s,some (.v (.int k p)),some (.v (.int k' q))=>some (t,s.val tb,k,p,k',q,d)
  | _,_,_=>none
 | _=>none
theorem qjD {i d j:Nat} {N:Act → World → Prop} {t e:TypeId} {bytes m cp:Nat} {A:Option Addr} {k:IntKind} {q:Int} (hE:EnvOk n tb env a) (h:qlC tb env ops n i = some (t,.slice A m cp,k,q,k,q,d)) (ht:qcT P t = some (e,1,bytes)) (hq:q = (j:Int)) (hj:j ≤ cp)
  (K:∀ a',EnvOk n tb ((d,.v (.slice A j j)) :: env) a' → N a' w):wpOp P ops Q i N a w:=by
 have h0:0 ≤ q:=by omega
 have h1:q ≤ cp:=by omega
 obtain rfl:j = q.toNat:=by omega
 unfold qlC at h
 split at h
 ·rename_i t' x hh mm d' ho
  have hd:d' < n:=(qbD hE ho).choose_spec.2.2.2.1
  split at h
  ·rename_i s k1 p1 k2 q2 g1 g2 g3
   simp only [Option.some.injEq,Prod.mk.injEq] at h
   obtain ⟨rfl,hsv,rfl,rfl,rfl,rfl,rfl⟩:=h
   have f1:=(qbb hE g1).1
   have f2:=(qbb hE g2).1
   have f3:=(qbb hE g3).1
   rw [hsv] at f1
   simp only [SV.val] at f2 f3
   refine qbh hE ho (v:=.slice A q2.toNat q2.toNat) (w':=w) (fun o' hop=>?_) (K _ (hE.put hd (.v _) trivial))
   unfold execOp
   rw [hop]
   simp only [f1,f2,f3,Option.map_none,Option.map_some,Sem.run_bind,qiB ht h0 h1,Result.andThen_ok,Sem.run_pure]
  cases h
 cases h
end
structure RdS (w:World) (F:Nat → Nat → Prop) (A:Option Addr) (n c:Nat) (s:Bs):Prop where
 len:n = s.length
 oct:Octs w F A c s
theorem RdS.move {w w':World} {F F' M:Nat → Nat → Prop} {A:Option Addr} {n c:Nat} {s:Bs} (h:RdS w F A n c s) (hs:Step w w' M) (hM:∀ b o,F b o → b < w.heap.size → ¬ M b o) (hF:∀ b o,F b o → b < w.heap.size → F' b o):RdS w' F' A n c s:=⟨h.len,Octs.move h.oct hs hM hF⟩
theorem RdS.cast {w:World} {F:Nat → Nat → Prop} {A:Option Addr} {n c:Nat} {s t:Bs} (h:RdS w F A n c s) (e:s = t):RdS w F A n c t:=e ▸ h
theorem RdS.drop {w:World} {F:Nat → Nat → Prop} {A:Option Addr} {n c j:Nat} {s t:Bs} (h:RdS w F A n c (s ++ t)) (hj:j = s.length):RdS w F (cutA A c j) (n - j) (c - j) t:=by
 subst hj
 have h1:=h.oct.drop (j:=s.length) (by rw [List.length_append]; omega)
 rw [List.drop_left] at h1
 exact ⟨by rw [h.len,List.length_append]; omega,h1⟩
theorem RdS.front {w:World} {F:Nat → Nat → Prop} {A:Option Addr} {n c j:Nat} {s t:Bs} (h:RdS w F A n c (s ++ t)) (hj:j = s.length):Octs w F A j s:=by
 subst hj
 have h1:=h.oct.cutS (j:=s.length) (by rw [List.length_append]; omega)
 rwa [List.take_left] at h1
def RdM (br:Nat):Nat → Nat → Prop:=fun b o=>b = br ∧ o < 2
def RdPost (w:World) (br:Nat) (F:Nat → Nat → Prop) (rest:Bs) (Q:Value → World → Prop):Ending → World → Prop:=fun e w' =>
 ∃ v A' n' c',e = .returned v ∧ Str w' br [.slice A' n' c',.bool false] ∧ RdS w' F A' n' c' rest ∧ Step w w' (RdM br) ∧ Q v w'
theorem WOk.startStr {w:World} {p:Nat} {cs:List Value} (h:Str w p cs) (hn:Nat.blt 0 cs.length = true:=by kernel_rfl):WOk w (fun b o=>b = p ∧ o < cs.length) w [⟨p,0,cs,true⟩] []:=by
 have hn':0 < cs.length:=by simpa [Nat.blt_eq] using hn
 exact (WOk.start w _).add ⟨p,0,cs,true⟩ (World.lt_of_cell (h.at_ 0 _ (List.getElem?_eq_getElem hn'))) (fun j v hj=>by rw [Nat.zero_add]; exact h.at_ j v hj) (fun _ j hj=>⟨.inr ⟨rfl,by rw [Nat.zero_add]; exact hj⟩,by rw [Nat.zero_add]; exact h.frz j hj⟩) (fun i o hi=>by simp at hi) (fun i r hi=>by simp at hi)
theorem WOk.wrote {w0 w w':World} {M:Nat → Nat → Prop} {tb:Tb} {rs:List Rw} {p:Nat} {cs cs':List Value} (hW:WOk w0 M w tb rs) (i:Nat) (tb':Tb) (hi:tb[i]? = some ⟨p,0,cs,true⟩) (hst:Step w w' (fun b o=>b = p ∧ o < cs.length)) (hs:Str w' p cs') (ht:tb.set i ⟨p,0,cs',true⟩ = tb':=by rfl) (hl:cs'.length = cs.length:=by rfl) :
  WOk w0 M w' tb' rs ∧ Fr w tb rs w' tb' rs ∧ ∀ {G:Nat → Nat → Prop} (b o:Nat),Fp (Imm G w0 w tb rs) w b o → b < w'.heap.size → Imm G w0 w' tb' rs b o:=by
 subst ht
 have key:∀ (j:Nat) (o:Ob),(tb.set i ⟨p,0,cs',true⟩)[j]? = some o → (j = i ∧ o = ⟨p,0,cs',true⟩) ∨ (j ≠ i ∧ tb[j]? = some o):=fun j o hj=>by
  rcases qdH hj with ⟨h1,h2,_⟩ | ⟨h1,h2⟩
  ·exact .inl ⟨h1,h2⟩
  exact .inr ⟨h1,h2⟩
 have far:∀ (j:Nat) (o:Ob),j ≠ i → tb[j]? = some o → ∀ q,q < o.cells.length → ¬ (o.blk = p ∧ o.off + q < cs.length):=fun j o hne hj q hq e=>by
  rcases hW.apart j i o _ hne hj hi (.inr rfl) with h1 | h1 | h1
  ·exact h1 e.1
  ·simp only [Nat.le_zero] at h1; omega
  simp only [Nat.zero_add] at h1; omega
 have act:∀ b o,Act_ (tb.set i ⟨p,0,cs',true⟩) rs b o → Act_ tb rs b o:=fun b o ha=>by
  rcases ha with ⟨j,ob,hj,h1,h2,h3,h4⟩ | ha
  ·rcases key j ob hj with ⟨rfl,rfl⟩ | ⟨_,hj⟩
   ·exact .inl ⟨j,_,hi,rfl,h2,h3,by simpa [hl] using h4⟩
   exact .inl ⟨j,ob,hj,h1,h2,h3,h4⟩
  exact .inr ha
 refine ⟨⟨hW.step.trans hst fun b o hb e=>?_,?_,?_,?_,?_,?_,hW.ownM,?_,hW.rr⟩,⟨fun b o _ hn ha=>hn (act b o ha),hst.mono fun b o _ e=>.inl ⟨i,_,hi,rfl,e.1.symm,Nat.zero_le _,by simpa using e.2⟩⟩,fun b o hf hb=>?_⟩
 rotate_right
 ·rcases hf with hf | hf
  ·exact ⟨hf.1,hb,fun ha=>hf.2.2 (act b o ha)⟩
  exact ⟨.inr (Nat.le_trans hW.step.size hf),hb,fun ha=>by have:=hW.act_live (act b o ha); omega⟩
 ·have h1:=(hW.rw_ i _ hi rfl o e.2).1
  simp only [Nat.zero_add] at h1
  rcases h1 with h1 | h1
  ·have:=e.1; omega
  rw [e.1]; exact h1
 ·intro j o hj q v hv
  rcases key j o hj with ⟨rfl,rfl⟩ | ⟨hne,hj⟩
  ·dsimp only
   rw [Nat.zero_add]
   exact hs.at_ q v hv
  exact hst.cell (far j o hne hj q (List.getElem?_eq_some_iff.1 hv).1) (hW.cells j o hj q v hv)
 ·intro j o hj
  rcases key j o hj with ⟨rfl,rfl⟩ | ⟨_,hj⟩
  ·have h1:=hW.live j _ hi
   exact Nat.lt_of_lt_of_le h1 hst.size
  exact Nat.lt_of_lt_of_le (hW.live j o hj) hst.size
 ·intro j o hj hr q hq
  rcases key j o hj with ⟨rfl,rfl⟩ | ⟨hne,hj⟩
  ·dsimp only at hq ⊢
   refine ⟨(hW.rw_ j _ hi rfl q (by simpa [hl] using hq)).1,?_⟩
   rw [Nat.zero_add]
   exact hs.frz q hq
  obtain ⟨h1,h2⟩:=hW.rw_ j o hj hr q hq
  exact ⟨h1,hst.frozen (far j o hne hj q hq) (hW.cells j o hj q _ (List.getElem?_eq_getElem hq)) h2⟩
 ·intro j k o o' hjk hj hk hw
  rcases key j o hj with ⟨rfl,rfl⟩ | ⟨hne,hj'⟩
  ·rcases key k o' hk with ⟨rfl,rfl⟩ | ⟨hne',hk'⟩
   ·exact absurd rfl hjk
   have:=hW.apart j k _ o' hjk hi hk' (.inl rfl)
   simpa [hl] using this
  rcases key k o' hk with ⟨rfl,rfl⟩ | ⟨hne',hk'⟩
  ·have:=hW.apart j k o _ hjk hj' hi (.inr rfl)
   simpa [hl] using this
  exact hW.apart j k o o' hjk hj' hk' hw
 ·intro j r hj
  refine qfi (hW.own j r hj) fun g hg=>(hst.keeps g (qcc (hW.own j r hj) hg)).1 fun o e=>?_
  exact hW.rtb j r hj g hg i _ hi e.1.symm
 intro j r hj g hg k o hk
 rcases key k o hk with ⟨rfl,rfl⟩ | ⟨_,hk⟩
 ·have h1:=hW.rtb j r hj g hg k _ hi
  exact h1
 exact hW.rtb j r hj g hg k o hk
theorem WOk.giveUp {G:Nat → Nat → Prop} {w0 w:World} {tb:Tb} {rs:List Rw} {A:Option Addr} {c e:Nat} {s:Bs} (hW:WOk w0 Nil w tb rs) (k:Nat) (rs':List Rw) (hk:rs[k]? = some (brow A c e s)) (hsm:s.length ≤ 1099511627776) (hr:rs.take k = rs':=by rfl):Octs w (Imm G w0 w tb rs') A c s:=by
 subst hr
 refine qcA (hW.own k _ hk) hsm fun g hg o=>?_
 have hb:=qcc (hW.own k _ hk) (r:=brow A c e s) hg
 refine ⟨?_,hb,fun ha=>?_⟩
 ·rcases hW.ownM k _ hk g hg with h2 | h2
  ·exact .inr h2
  exact (h2 0).elim
 rcases ha with ⟨i,ob,h2,_,h3,_⟩ | ⟨i,r,h2,h3⟩
 ·exact hW.rtb k _ hk g hg i ob h2 h3
 rw [List.getElem?_take] at h2
 split at h2
 ·rename_i hlt
  exact hW.rr k i _ r (by omega) hk h2 g hg h3
 cases h2
theorem qjE {G:Nat → Nat → Prop} {w0 w:World} {tb:Tb} {rs:List Rw} {p:Nat} {cs:List Value} (i:Nat) (hi:tb[i]? = some ⟨p,0,cs,true⟩):∀ b o,Imm G w0 w tb rs b o → ¬ (b = p ∧ o < cs.length):=fun b o h e=>by
 obtain ⟨rfl,h2⟩:=e
 exact h.2.2 (.inl ⟨i,_,hi,rfl,rfl,Nat.zero_le _,by simpa using h2⟩)
theorem qdO {Q:Exit → Act → World → Prop} {a:Act} {w:World} (h:Q .ret a w):Exit.noGoto Q .ret a w:=h
theorem qhE (k:IntKind) (n:Nat) (hn:n = k.bits) (hk:∀ z:Int,0 ≤ z → z < 2 ^ n → k.wrap z = z) (i:Nat) (y x:Int) (h0:0 ≤ y) (h1:y < 2 ^ i) (h2:y < 2 ^ n) (h3:0 ≤ x) (h4:x % 2 ^ i = 0) (h5:x < 2 ^ n) :
  k.wrap (BitVec.ofInt n y ||| BitVec.ofInt n x).toNat = y + x:=by
 subst hn
 exact bits_join_low k k.bits (Nat.le_refl _) hk i y x h0 h1 h2 h3 h4 h5
theorem or16 (i:Nat) (y x:Int) (h0:0 ≤ y) (h1:y < 2 ^ i) (h2:y < 2 ^ 16) (h3:0 ≤ x) (h4:x % 2 ^ i = 0) (h5:x < 2 ^ 16):IntKind.u16.wrap (BitVec.ofInt 16 y ||| BitVec.ofInt 16 x).toNat = y + x :=
 qhE .u16 16 rfl (fun z a b=>by rw [qbO]; omega) i y x h0 h1 h2 h3 h4 h5
theorem or32 (i:Nat) (y x:Int) (h0:0 ≤ y) (h1:y < 2 ^ i) (h2:y < 2 ^ 32) (h3:0 ≤ x) (h4:x % 2 ^ i = 0) (h5:x < 2 ^ 32):IntKind.u32.wrap (BitVec.ofInt 32 y ||| BitVec.ofInt 32 x).toNat = y + x :=
 qhE .u32 32 rfl (fun z a b=>by rw [qaA]; omega) i y x h0 h1 h2 h3 h4 h5
theorem or64 (i:Nat) (y x:Int) (h0:0 ≤ y) (h1:y < 2 ^ i) (h2:y < 2 ^ 64) (h3:0 ≤ x) (h4:x % 2 ^ i = 0) (h5:x < 2 ^ 64):IntKind.u64.wrap (BitVec.ofInt 64 y ||| BitVec.ofInt 64 x).toNat = y + x :=
 qhE .u64 64 rfl (fun z a b=>by rw [qaV]; omega) i y x h0 h1 h2 h3 h4 h5
theorem qdj (n:Nat) (h:n < 256):(IntKind.u8.wrap (BitVec.ofInt 8 ((n:Nat):Int) &&& BitVec.ofInt 8 128).toNat == 0) = decide (n < 128):=by
 have:∀ m:Fin 256,(IntKind.u8.wrap (BitVec.ofInt 8 ((m.val:Nat):Int) &&& BitVec.ofInt 8 128).toNat == 0) = decide (m.val < 128):=by decide +kernel
 exact this ⟨n,h⟩
theorem qcD (n:Nat) (h:n < 256):IntKind.u8.wrap (BitVec.ofInt 8 ((n:Nat):Int) &&& BitVec.ofInt 8 127).toNat = ((n % 128:Nat):Int):=by
 have:∀ m:Fin 256,IntKind.u8.wrap (BitVec.ofInt 8 ((m.val:Nat):Int) &&& BitVec.ofInt 8 127).toNat = ((m.val % 128:Nat):Int):=by decide +kernel
 exact this ⟨n,h⟩
def oc (s:Bs) (i:Nat):Nat:=(s.getD i 0).toNat
theorem qb1 (s:Bs) (i:Nat):oc s i < 256:=(s.getD i 0).toNat_lt
theorem qhF (b:UInt8) (s:Bs) (i:Nat):oc (b :: s) (i + 1) = oc s i:=rfl
theorem qk8 (b:UInt8) (s:Bs):oc (b :: s) 0 = b.toNat:=rfl
theorem qjF (x:Int) (s:Bs):((oc (by8 x :: s) 0:Nat):Int) = x % 256:=by rw [qk8,qgN]
def be16 (s:Bs):Int:=((oc s 0:Nat):Int) * 256 + oc s 1
def be32 (s:Bs):Int:=((oc s 0:Nat):Int) * 16777216 + oc s 1 * 65536 + oc s 2 * 256 + oc s 3
def be64 (s:Bs):Int:=((oc s 0:Nat):Int) * 72057594037927936 + oc s 1 * 281474976710656 + oc s 2 * 1099511627776 + oc s 3 * 4294967296 + oc s 4 * 16777216 + oc s 5 * 65536 + oc s 6 * 256 + oc s 7
theorem qk9 (x:Int) (s:Bs):be16 (be 2 x ++ s) = IntKind.u16.wrap x:=by
 rw [qbO]
 simp only [be,List.cons_append,List.nil_append,be16,qhF,qjF,Int.reducePow]
 omega
theorem qla (x:Int) (s:Bs):be32 (be 4 x ++ s) = IntKind.u32.wrap x:=by
 rw [qaA]
 simp only [be,List.cons_append,List.nil_append,be32,qhF,qjF,Int.reducePow]
 omega
theorem qlb (x:Int) (s:Bs):be64 (be 8 x ++ s) = IntKind.u64.wrap x:=by
 rw [qaV]
 simp only [be,List.cons_append,List.nil_append,be64,qhF,qjF,Int.reducePow]
 omega
theorem i16w (x:Int):IntKind.i16.wrap x = (x + 32768) % 65536 - 32768:=by simp [IntKind.wrap,IntKind.signed,IntKind.bits]; omega
theorem i32w (x:Int):IntKind.i32.wrap x = (x + 2147483648) % 4294967296 - 2147483648:=by simp [IntKind.wrap,IntKind.signed,IntKind.bits]; omega
theorem i64w (x:Int):IntKind.i64.wrap x = (x + 9223372036854775808) % 18446744073709551616 - 9223372036854775808:=by simp [IntKind.wrap,IntKind.signed,IntKind.bits]; omega
theorem qlc (x:Int):IntKind.i16.wrap (IntKind.u16.wrap x) = IntKind.i16.wrap x:=by rw [i16w,i16w,qbO]; omega
theorem qld (x:Int):IntKind.i32.wrap (IntKind.u32.wrap x) = IntKind.i32.wrap x:=by rw [i32w,i32w,qaA]; omega
theorem qle (x:Int):IntKind.i64.wrap (IntKind.u64.wrap x) = IntKind.i64.wrap x:=by rw [i64w,i64w,qaV]; omega
theorem ww16 (x:Int):IntKind.i16.wrap (IntKind.i16.wrap x) = IntKind.i16.wrap x:=by rw [i16w,i16w]; omega
theorem ww32 (x:Int):IntKind.i32.wrap (IntKind.i32.wrap x) = IntKind.i32.wrap x:=by rw [i32w,i32w]; omega
theorem qgv {x:Nat} (s:Bs):oc (uv x ++ s) 0 = if x < 128 then x else x % 128 + 128:=by
 by_cases h:x < 128
 ·rw [qcO h,if_pos h]
  show (UInt8.ofNat x).toNat = x
  rw [UInt8.toNat_ofNat']; omega
 rw [qef (by omega),if_neg h]
 show (UInt8.ofNat (x % 128 + 128)).toNat = _
 rw [UInt8.toNat_ofNat']; omega
theorem qei {x:Nat} (h:128 ≤ x) (s:Bs) (i:Nat):oc (uv x ++ s) (i + 1) = oc (uv (x / 128) ++ s) i:=by
 rw [qef h]; rfl
theorem qlD (b0 b1:Nat) (h0:b0 < 256) (h1:b1 < 256):IntKind.u16.wrap (BitVec.ofInt 16 (IntKind.u16.wrap (((b1:Nat):Int))) ||| BitVec.ofInt 16 (IntKind.u16.wrap (IntKind.u16.wrap (((b0:Nat):Int)) * 256))).toNat = ((b0:Nat):Int) * 256 + ((b1:Nat):Int):=by
 have e1:IntKind.u16.wrap (BitVec.ofInt 16 (IntKind.u16.wrap (((b1:Nat):Int))) ||| BitVec.ofInt 16 (IntKind.u16.wrap (IntKind.u16.wrap (((b0:Nat):Int)) * 256))).toNat = ((b1:Nat):Int) + ((b0:Nat):Int) * 256:=by
  rw [or16 8 _ _ (by first | omega | (simp only [qbO]; omega)) (by first | omega | (simp only [qbO]; omega)) (by first | omega | (simp only [qbO]; omega)) (by first | omega | (simp only [qbO]; omega)) (by first | omega | (simp only [qbO]; omega)) (by first | omega | (simp only [qbO]; omega))]; first | omega | (simp only [qbO]; omega)
 rw [e1]
 omega
theorem qlE (b0 b1 b2 b3:Nat) (h0:b0 < 256) (h1:b1 < 256) (h2:b2 < 256) (h3:b3 < 256):IntKind.u32.wrap (BitVec.ofInt 32 (IntKind.u32.wrap (BitVec.ofInt 32 (IntKind.u32.wrap (BitVec.ofInt 32 (IntKind.u32.wrap (((b3:Nat):Int))) ||| BitVec.ofInt 32 (IntKind.u32.wrap (IntKind.u32.wrap (((b2:Nat):Int)) * 256))).toNat) ||| BitVec.ofInt 32 (IntKind.u32.wrap (IntKind.u32.wrap (((b1:Nat):Int)) * 65536))).toNat) ||| BitVec.ofInt 32 (IntKind.u32.wrap (IntKind.u32.wrap (((b0:Nat):Int)) * 16777216))).toNat = ((b0:Nat):Int) * 16777216 + ((b1:Nat):Int) * 65536 + ((b2:Nat):Int) * 256 + ((b3:Nat):Int):=by
 have e1:IntKind.u32.wrap (BitVec.ofInt 32 (IntKind.u32.wrap (((b3:Nat):Int))) ||| BitVec.ofInt 32 (IntKind.u32.wrap (IntKind.u32.wrap (((b2:Nat):Int)) * 256))).toNat = ((b3:Nat):Int) + ((b2:Nat):Int) * 256:=by
  rw [or32 8 _ _ (by first | omega | (simp only [qaA]; omega)) (by first | omega | (simp only [qaA]; omega)) (by first | omega | (simp only [qaA]; omega)) (by first | omega | (simp only [qaA]; omega)) (by first | omega | (simp only [qaA]; omega)) (by first | omega | (simp only [qaA]; omega))]; first | omega | (simp only [qaA]; omega)
 have e2:IntKind.u32.wrap (BitVec.ofInt 32 (((b3:Nat):Int) + ((b2:Nat):Int) * 256) ||| BitVec.ofInt 32 (IntKind.u32.wrap (IntKind.u32.wrap (((b1:Nat):Int)) * 65536))).toNat = ((b3:Nat):Int) + ((b2:Nat):Int) * 256 + ((b1:Nat):Int) * 65536:=by
  rw [or32 16 _ _ (by first | omega | (simp only [qaA]; omega)) (by first | omega | (simp only [qaA]; omega)) (by first | omega | (simp only [qaA]; omega)) (by first | omega | (simp only [qaA]; omega)) (by first | omega | (simp only [qaA]; omega)) (by first | omega | (simp only [qaA]; omega))]; first | omega | (simp only [qaA]; omega)
 have e3:IntKind.u32.wrap (BitVec.ofInt 32 (((b3:Nat):Int) + ((b2:Nat):Int) * 256 + ((b1:Nat):Int) * 65536) ||| BitVec.ofInt 32 (IntKind.u32.wrap (IntKind.u32.wrap (((b0:Nat):Int)) * 16777216))).toNat = ((b3:Nat):Int) + ((b2:Nat):Int) * 256 + ((b1:Nat):Int) * 65536 + ((b0:Nat):Int) * 16777216:=by
  rw [or32 24 _ _ (by first | omega | (simp only [qaA]; omega)) (by first | omega | (simp only [qaA]; omega)) (by first | omega | (simp only [qaA]; omega)) (by first | omega | (simp only [qaA]; omega)) (by first | omega | (simp only [qaA]; omega)) (by first | omega | (simp only [qaA]; omega))]; first | omega | (simp only [qaA]; omega)
 rw [e1,e2,e3]
 omega
theorem qlF (b0 b1 b2 b3 b4 b5 b6 b7:Nat) (h0:b0 < 256) (h1:b1 < 256) (h2:b2 < 256) (h3:b3 < 256) (h4:b4 < 256) (h5:b5 < 256) (h6:b6 < 256) (h7:b7 < 256):IntKind.u64.wrap (BitVec.ofInt 64 (IntKind.u64.wrap (BitVec.ofInt 64 (IntKind.u64.wrap (BitVec.ofInt 64 (IntKind.u64.wrap (BitVec.ofInt 64 (IntKind.u64.wrap (BitVec.ofInt 64 (IntKind.u64.wrap (BitVec.ofInt 64 (IntKind.u64.wrap (BitVec.ofInt 64 (IntKind.u64.wrap (((b7:Nat):Int))) ||| BitVec.ofInt 64 (IntKind.u64.wrap (IntKind.u64.wrap (((b6:Nat):Int)) * 256))).toNat) ||| BitVec.ofInt 64 (IntKind.u64.wrap (IntKind.u64.wrap (((b5:Nat):Int)) * 65536))).toNat) ||| BitVec.ofInt 64 (IntKind.u64.wrap (IntKind.u64.wrap (((b4:Nat):Int)) * 16777216))).toNat) ||| BitVec.ofInt 64 (IntKind.u64.wrap (IntKind.u64.wrap (((b3:Nat):Int)) * 4294967296))).toNat) ||| BitVec.ofInt 64 (IntKind.u64.wrap (IntKind.u64.wrap (((b2:Nat):Int)) * 1099511627776))).toNat) ||| BitVec.ofInt 64 (IntKind.u64.wrap (IntKind.u64.wrap (((b1:Nat):Int)) * 281474976710656))).toNat) ||| BitVec.ofInt 64 (IntKind.u64.wrap (IntKind.u64.wrap (((b0:Nat):Int)) * 72057594037927936))).toNat = ((b0:Nat):Int) * 72057594037927936 + ((b1:Nat):Int) * 281474976710656 + ((b2:Nat):Int) * 1099511627776 + ((b3:Nat):Int) * 4294967296 + ((b4:Nat):Int) * 16777216 + ((b5:Nat):Int) * 65536 + ((b6:Nat):Int) * 256 + ((b7:Nat):Int):=by
 have e1:IntKind.u64.wrap (BitVec.ofInt 64 (IntKind.u64.wrap (((b7:Nat):Int))) ||| BitVec.ofInt 64 (IntKind.u64.wrap (IntKind.u64.wrap (((b6:Nat):Int)) * 256))).toNat = ((b7:Nat):Int) + ((b6:Nat):Int) * 256:=by
  rw [or64 8 _ _ (by first | omega | (simp only [qaV]; omega)) (by first | omega | (simp only [qaV]; omega)) (by first | omega | (simp only [qaV]; omega)) (by first | omega | (simp only [qaV]; omega)) (by first | omega | (simp only [qaV]; omega)) (by first | omega | (simp only [qaV]; omega))]; first | omega | (simp only [qaV]; omega)
 have e2:IntKind.u64.wrap (BitVec.ofInt 64 (((b7:Nat):Int) + ((b6:Nat):Int) * 256) ||| BitVec.ofInt 64 (IntKind.u64.wrap (IntKind.u64.wrap (((b5:Nat):Int)) * 65536))).toNat = ((b7:Nat):Int) + ((b6:Nat):Int) * 256 + ((b5:Nat):Int) * 65536:=by
  rw [or64 16 _ _ (by first | omega | (simp only [qaV]; omega)) (by first | omega | (simp only [qaV]; omega)) (by first | omega | (simp only [qaV]; omega)) (by first | omega | (simp only [qaV]; omega)) (by first | omega | (simp only [qaV]; omega)) (by first | omega | (simp only [qaV]; omega))]; first | omega | (simp only [qaV]; omega)
 have e3:IntKind.u64.wrap (BitVec.ofInt 64 (((b7:Nat):Int) + ((b6:Nat):Int) * 256 + ((b5:Nat):Int) * 65536) ||| BitVec.ofInt 64 (IntKind.u64.wrap (IntKind.u64.wrap (((b4:Nat):Int)) * 16777216))).toNat = ((b7:Nat):Int) + ((b6:Nat):Int) * 256 + ((b5:Nat):Int) * 65536 + ((b4:Nat):Int) * 16777216:=by
  rw [or64 24 _ _ (by first | omega | (simp only [qaV]; omega)) (by first | omega | (simp only [qaV]; omega)) (by first | omega | (simp only [qaV]; omega)) (by first | omega | (simp only [qaV]; omega)) (by first | omega | (simp only [qaV]; omega)) (by first | omega | (simp only [qaV]; omega))]; first | omega | (simp only [qaV]; omega)
 have e4:IntKind.u64.wrap (BitVec.ofInt 64 (((b7:Nat):Int) + ((b6:Nat):Int) * 256 + ((b5:Nat):Int) * 65536 + ((b4:Nat):Int) * 16777216) ||| BitVec.ofInt 64 (IntKind.u64.wrap (IntKind.u64.wrap (((b3:Nat):Int)) * 4294967296))).toNat = ((b7:Nat):Int) + ((b6:Nat):Int) * 256 + ((b5:Nat):Int) * 65536 + ((b4:Nat):Int) * 16777216 + ((b3:Nat):Int) * 4294967296:=by
  rw [or64 32 _ _ (by first | omega | (simp only [qaV]; omega)) (by first | omega | (simp only [qaV]; omega)) (by first | omega | (simp only [qaV]; omega)) (by first | omega | (simp only [qaV]; omega)) (by first | omega | (simp only [qaV]; omega)) (by first | omega | (simp only [qaV]; omega))]; first | omega | (simp only [qaV]; omega)
 have e5:IntKind.u64.wrap (BitVec.ofInt 64 (((b7:Nat):Int) + ((b6:Nat):Int) * 256 + ((b5:Nat):Int) * 65536 + ((b4:Nat):Int) * 16777216 + ((b3:Nat):Int) * 4294967296) ||| BitVec.ofInt 64 (IntKind.u64.wrap (IntKind.u64.wrap (((b2:Nat):Int)) * 1099511627776))).toNat = ((b7:Nat):Int) + ((b6:Nat):Int) * 256 + ((b5:Nat):Int) * 65536 + ((b4:Nat):Int) * 16777216 + ((b3:Nat):Int) * 4294967296 + ((b2:Nat):Int) * 1099511627776:=by
  rw [or64 40 _ _ (by first | omega | (simp only [qaV]; omega)) (by first | omega | (simp only [qaV]; omega)) (by first | omega | (simp only [qaV]; omega)) (by first | omega | (simp only [qaV]; omega)) (by first | omega | (simp only [qaV]; omega)) (by first | omega | (simp only [qaV]; omega))]; first | omega | (simp only [qaV]; omega)
 have e6:IntKind.u64.wrap (BitVec.ofInt 64 (((b7:Nat):Int) + ((b6:Nat):Int) * 256 + ((b5:Nat):Int) * 65536 + ((b4:Nat):Int) * 16777216 + ((b3:Nat):Int) * 4294967296 + ((b2:Nat):Int) * 1099511627776) ||| BitVec.ofInt 64 (IntKind.u64.wrap (IntKind.u64.wrap (((b1:Nat):Int)) * 281474976710656))).toNat = ((b7:Nat):Int) + ((b6:Nat):Int) * 256 + ((b5:Nat):Int) * 65536 + ((b4:Nat):Int) * 16777216 + ((b3:Nat):Int) * 4294967296 + ((b2:Nat):Int) * 1099511627776 + ((b1:Nat):Int) * 281474976710656:=by
  rw [or64 48 _ _ (by first | omega | (simp only [qaV]; omega)) (by first | omega | (simp only [qaV]; omega)) (by first | omega | (simp only [qaV]; omega)) (by first | omega | (simp only [qaV]; omega)) (by first | omega | (simp only [qaV]; omega)) (by first | omega | (simp only [qaV]; omega))]; first | omega | (simp only [qaV]; omega)
 have e7:IntKind.u64.wrap (BitVec.ofInt 64 (((b7:Nat):Int) + ((b6:Nat):Int) * 256 + ((b5:Nat):Int) * 65536 + ((b4:Nat):Int) * 16777216 + ((b3:Nat):Int) * 4294967296 + ((b2:Nat):Int) * 1099511627776 + ((b1:Nat):Int) * 281474976710656) ||| BitVec.ofInt 64 (IntKind.u64.wrap (IntKind.u64.wrap (((b0:Nat):Int)) * 72057594037927936))).toNat = ((b7:Nat):Int) + ((b6:Nat):Int) * 256 + ((b5:Nat):Int) * 65536 + ((b4:Nat):Int) * 16777216 + ((b3:Nat):Int) * 4294967296 + ((b2:Nat):Int) * 1099511627776 + ((b1:Nat):Int) * 281474976710656 + ((b0:Nat):Int) * 72057594037927936:=by
  rw [or64 56 _ _ (by first | omega | (simp only [qaV]; omega)) (by first | omega | (simp only [qaV]; omega)) (by first | omega | (simp only [qaV]; omega)) (by first | omega | (simp only [qaV]; omega)) (by first | omega | (simp only [qaV]; omega)) (by first | omega | (simp only [qaV]; omega))]; first | omega | (simp only [qaV]; omega)
 rw [e1,e2,e3,e4,e5,e6,e7]
 omega
theorem uv_1 (b0:Nat) (h0:b0 < 256):IntKind.u32.wrap (IntKind.u8.wrap (BitVec.ofInt 8 ((b0:Nat):Int) &&& BitVec.ofInt 8 127).toNat) = ((b0 % 128:Nat):Int):=by
 rw [qcD b0 h0,qaA]; omega
theorem uv_2 (b0 b1:Nat) (h0:b0 < 256) (h1:b1 < 256):IntKind.u32.wrap (BitVec.ofInt 32 (IntKind.u32.wrap (IntKind.u8.wrap (BitVec.ofInt 8 ((b0:Nat):Int) &&& BitVec.ofInt 8 127).toNat)) ||| BitVec.ofInt 32 (IntKind.u32.wrap (IntKind.u32.wrap (IntKind.u8.wrap (BitVec.ofInt 8 ((b1:Nat):Int) &&& BitVec.ofInt 8 127).toNat) * 128))).toNat = ((b0 % 128:Nat):Int) + ((b1 % 128:Nat):Int) * 128:=by
 have e1:IntKind.u32.wrap (BitVec.ofInt 32 (IntKind.u32.wrap (IntKind.u8.wrap (BitVec.ofInt 8 ((b0:Nat):Int) &&& BitVec.ofInt 8 127).toNat)) ||| BitVec.ofInt 32 (IntKind.u32.wrap (IntKind.u32.wrap (IntKind.u8.wrap (BitVec.ofInt 8 ((b1:Nat):Int) &&& BitVec.ofInt 8 127).toNat) * 128))).toNat = ((b0 % 128:Nat):Int) + ((b1 % 128:Nat):Int) * 128:=by
  rw [qcD b1 h1,qcD b0 h0]; rw [or32 7 _ _ (by first | omega | (simp only [qaA]; omega)) (by first | omega | (simp only [qaA]; omega)) (by first | omega | (simp only [qaA]; omega)) (by first | omega | (simp only [qaA]; omega)) (by first | omega | (simp only [qaA]; omega)) (by first | omega | (simp only [qaA]; omega))]; first | omega | (simp only [qaA]; omega)
 rw [e1]
theorem uv_3 (b0 b1 b2:Nat) (h0:b0 < 256) (h1:b1 < 256) (h2:b2 < 256):IntKind.u32.wrap (BitVec.ofInt 32 (IntKind.u32.wrap (BitVec.ofInt 32 (IntKind.u32.wrap (IntKind.u8.wrap (BitVec.ofInt 8 ((b0:Nat):Int) &&& BitVec.ofInt 8 127).toNat)) ||| BitVec.ofInt 32 (IntKind.u32.wrap (IntKind.u32.wrap (IntKind.u8.wrap (BitVec.ofInt 8 ((b1:Nat):Int) &&& BitVec.ofInt 8 127).toNat) * 128))).toNat) ||| BitVec.ofInt 32 (IntKind.u32.wrap (IntKind.u32.wrap (IntKind.u8.wrap (BitVec.ofInt 8 ((b2:Nat):Int) &&& BitVec.ofInt 8 127).toNat) * 16384))).toNat = ((b0 % 128:Nat):Int) + ((b1 % 128:Nat):Int) * 128 + ((b2 % 128:Nat):Int) * 16384:=by
 have e1:IntKind.u32.wrap (BitVec.ofInt 32 (IntKind.u32.wrap (IntKind.u8.wrap (BitVec.ofInt 8 ((b0:Nat):Int) &&& BitVec.ofInt 8 127).toNat)) ||| BitVec.ofInt 32 (IntKind.u32.wrap (IntKind.u32.wrap (IntKind.u8.wrap (BitVec.ofInt 8 ((b1:Nat):Int) &&& BitVec.ofInt 8 127).toNat) * 128))).toNat = ((b0 % 128:Nat):Int) + ((b1 % 128:Nat):Int) * 128:=by
  rw [qcD b1 h1,qcD b0 h0]; rw [or32 7 _ _ (by first | omega | (simp only [qaA]; omega)) (by first | omega | (simp only [qaA]; omega)) (by first | omega | (simp only [qaA]; omega)) (by first | omega | (simp only [qaA]; omega)) (by first | omega | (simp only [qaA]; omega)) (by first | omega | (simp only [qaA]; omega))]; first | omega | (simp only [qaA]; omega)
 have e2:IntKind.u32.wrap (BitVec.ofInt 32 (((b0 % 128:Nat):Int) + ((b1 % 128:Nat):Int) * 128) ||| BitVec.ofInt 32 (IntKind.u32.wrap (IntKind.u32.wrap (IntKind.u8.wrap (BitVec.ofInt 8 ((b2:Nat):Int) &&& BitVec.ofInt 8 127).toNat) * 16384))).toNat = ((b0 % 128:Nat):Int) + ((b1 % 128:Nat):Int) * 128 + ((b2 % 128:Nat):Int) * 16384:=by
  rw [qcD b2 h2]; rw [or32 14 _ _ (by first | omega | (simp only [qaA]; omega)) (by first | omega | (simp only [qaA]; omega)) (by first | omega | (simp only [qaA]; omega)) (by first | omega | (simp only [qaA]; omega)) (by first | omega | (simp only [qaA]; omega)) (by first | omega | (simp only [qaA]; omega))]; first | omega | (simp only [qaA]; omega)
 rw [e1,e2]
theorem uv_4 (b0 b1 b2 b3:Nat) (h0:b0 < 256) (h1:b1 < 256) (h2:b2 < 256) (h3:b3 < 256):IntKind.u32.wrap (BitVec.ofInt 32 (IntKind.u32.wrap (BitVec.ofInt 32 (IntKind.u32.wrap (BitVec.ofInt 32 (IntKind.u32.wrap (IntKind.u8.wrap (BitVec.ofInt 8 ((b0:Nat):Int) &&& BitVec.ofInt 8 127).toNat)) ||| BitVec.ofInt 32 (IntKind.u32.wrap (IntKind.u32.wrap (IntKind.u8.wrap (BitVec.ofInt 8 ((b1:Nat):Int) &&& BitVec.ofInt 8 127).toNat) * 128))).toNat) ||| BitVec.ofInt 32 (IntKind.u32.wrap (IntKind.u32.wrap (IntKind.u8.wrap (BitVec.ofInt 8 ((b2:Nat):Int) &&& BitVec.ofInt 8 127).toNat) * 16384))).toNat) ||| BitVec.ofInt 32 (IntKind.u32.wrap (IntKind.u32.wrap (IntKind.u8.wrap (BitVec.ofInt 8 ((b3:Nat):Int) &&& BitVec.ofInt 8 127).toNat) * 2097152))).toNat = ((b0 % 128:Nat):Int) + ((b1 % 128:Nat):Int) * 128 + ((b2 % 128:Nat):Int) * 16384 + ((b3 % 128:Nat):Int) * 2097152:=by
 have e1:IntKind.u32.wrap (BitVec.ofInt 32 (IntKind.u32.wrap (IntKind.u8.wrap (BitVec.ofInt 8 ((b0:Nat):Int) &&& BitVec.ofInt 8 127).toNat)) ||| BitVec.ofInt 32 (IntKind.u32.wrap (IntKind.u32.wrap (IntKind.u8.wrap (BitVec.ofInt 8 ((b1:Nat):Int) &&& BitVec.ofInt 8 127).toNat) * 128))).toNat = ((b0 % 128:Nat):Int) + ((b1 % 128:Nat):Int) * 128:=by
  rw [qcD b1 h1,qcD b0 h0]; rw [or32 7 _ _ (by first | omega | (simp only [qaA]; omega)) (by first | omega | (simp only [qaA]; omega)) (by first | omega | (simp only [qaA]; omega)) (by first | omega | (simp only [qaA]; omega)) (by first | omega | (simp only [qaA]; omega)) (by first | omega | (simp only [qaA]; omega))]; first | omega | (simp only [qaA]; omega)
 have e2:IntKind.u32.wrap (BitVec.ofInt 32 (((b0 % 128:Nat):Int) + ((b1 % 128:Nat):Int) * 128) ||| BitVec.ofInt 32 (IntKind.u32.wrap (IntKind.u32.wrap (IntKind.u8.wrap (BitVec.ofInt 8 ((b2:Nat):Int) &&& BitVec.ofInt 8 127).toNat) * 16384))).toNat = ((b0 % 128:Nat):Int) + ((b1 % 128:Nat):Int) * 128 + ((b2 % 128:Nat):Int) * 16384:=by
  rw [qcD b2 h2]; rw [or32 14 _ _ (by first | omega | (simp only [qaA]; omega)) (by first | omega | (simp only [qaA]; omega)) (by first | omega | (simp only [qaA]; omega)) (by first | omega | (simp only [qaA]; omega)) (by first | omega | (simp only [qaA]; omega)) (by first | omega | (simp only [qaA]; omega))]; first | omega | (simp only [qaA]; omega)
 have e3:IntKind.u32.wrap (BitVec.ofInt 32 (((b0 % 128:Nat):Int) + ((b1 % 128:Nat):Int) * 128 + ((b2 % 128:Nat):Int) * 16384) ||| BitVec.ofInt 32 (IntKind.u32.wrap (IntKind.u32.wrap (IntKind.u8.wrap (BitVec.ofInt 8 ((b3:Nat):Int) &&& BitVec.ofInt 8 127).toNat) * 2097152))).toNat = ((b0 % 128:Nat):Int) + ((b1 % 128:Nat):Int) * 128 + ((b2 % 128:Nat):Int) * 16384 + ((b3 % 128:Nat):Int) * 2097152:=by
  rw [qcD b3 h3]; rw [or32 21 _ _ (by first | omega | (simp only [qaA]; omega)) (by first | omega | (simp only [qaA]; omega)) (by first | omega | (simp only [qaA]; omega)) (by first | omega | (simp only [qaA]; omega)) (by first | omega | (simp only [qaA]; omega)) (by first | omega | (simp only [qaA]; omega))]; first | omega | (simp only [qaA]; omega)
 rw [e1,e2,e3]
theorem uv_5 (b0 b1 b2 b3 b4:Nat) (h0:b0 < 256) (h1:b1 < 256) (h2:b2 < 256) (h3:b3 < 256) (h4:b4 < 16):IntKind.u32.wrap (BitVec.ofInt 32 (IntKind.u32.wrap (BitVec.ofInt 32 (IntKind.u32.wrap (BitVec.ofInt 32 (IntKind.u32.wrap (BitVec.ofInt 32 (IntKind.u32.wrap (IntKind.u8.wrap (BitVec.ofInt 8 ((b0:Nat):Int) &&& BitVec.ofInt 8 127).toNat)) ||| BitVec.ofInt 32 (IntKind.u32.wrap (IntKind.u32.wrap (IntKind.u8.wrap (BitVec.ofInt 8 ((b1:Nat):Int) &&& BitVec.ofInt 8 127).toNat) * 128))).toNat) ||| BitVec.ofInt 32 (IntKind.u32.wrap (IntKind.u32.wrap (IntKind.u8.wrap (BitVec.ofInt 8 ((b2:Nat):Int) &&& BitVec.ofInt 8 127).toNat) * 16384))).toNat) ||| BitVec.ofInt 32 (IntKind.u32.wrap (IntKind.u32.wrap (IntKind.u8.wrap (BitVec.ofInt 8 ((b3:Nat):Int) &&& BitVec.ofInt 8 127).toNat) * 2097152))).toNat) ||| BitVec.ofInt 32 (IntKind.u32.wrap (IntKind.u32.wrap (((b4:Nat):Int)) * 268435456))).toNat = ((b0 % 128:Nat):Int) + ((b1 % 128:Nat):Int) * 128 + ((b2 % 128:Nat):Int) * 16384 + ((b3 % 128:Nat):Int) * 2097152 + ((b4:Nat):Int) * 268435456:=by
 have e1:IntKind.u32.wrap (BitVec.ofInt 32 (IntKind.u32.wrap (IntKind.u8.wrap (BitVec.ofInt 8 ((b0:Nat):Int) &&& BitVec.ofInt 8 127).toNat)) ||| BitVec.ofInt 32 (IntKind.u32.wrap (IntKind.u32.wrap (IntKind.u8.wrap (BitVec.ofInt 8 ((b1:Nat):Int) &&& BitVec.ofInt 8 127).toNat) * 128))).toNat = ((b0 % 128:Nat):Int) + ((b1 % 128:Nat):Int) * 128:=by
  rw [qcD b1 h1,qcD b0 h0]; rw [or32 7 _ _ (by first | omega | (simp only [qaA]; omega)) (by first | omega | (simp only [qaA]; omega)) (by first | omega | (simp only [qaA]; omega)) (by first | omega | (simp only [qaA]; omega)) (by first | omega | (simp only [qaA]; omega)) (by first | omega | (simp only [qaA]; omega))]; first | omega | (simp only [qaA]; omega)
 have e2:IntKind.u32.wrap (BitVec.ofInt 32 (((b0 % 128:Nat):Int) + ((b1 % 128:Nat):Int) * 128) ||| BitVec.ofInt 32 (IntKind.u32.wrap (IntKind.u32.wrap (IntKind.u8.wrap (BitVec.ofInt 8 ((b2:Nat):Int) &&& BitVec.ofInt 8 127).toNat) * 16384))).toNat = ((b0 % 128:Nat):Int) + ((b1 % 128:Nat):Int) * 128 + ((b2 % 128:Nat):Int) * 16384:=by
  rw [qcD b2 h2]; rw [or32 14 _ _ (by first | omega | (simp only [qaA]; omega)) (by first | omega | (simp only [qaA]; omega)) (by first | omega | (simp only [qaA]; omega)) (by first | omega | (simp only [qaA]; omega)) (by first | omega | (simp only [qaA]; omega)) (by first | omega | (simp only [qaA]; omega))]; first | omega | (simp only [qaA]; omega)
 have e3:IntKind.u32.wrap (BitVec.ofInt 32 (((b0 % 128:Nat):Int) + ((b1 % 128:Nat):Int) * 128 + ((b2 % 128:Nat):Int) * 16384) ||| BitVec.ofInt 32 (IntKind.u32.wrap (IntKind.u32.wrap (IntKind.u8.wrap (BitVec.ofInt 8 ((b3:Nat):Int) &&& BitVec.ofInt 8 127).toNat) * 2097152))).toNat = ((b0 % 128:Nat):Int) + ((b1 % 128:Nat):Int) * 128 + ((b2 % 128:Nat):Int) * 16384 + ((b3 % 128:Nat):Int) * 2097152:=by
  rw [qcD b3 h3]; rw [or32 21 _ _ (by first | omega | (simp only [qaA]; omega)) (by first | omega | (simp only [qaA]; omega)) (by first | omega | (simp only [qaA]; omega)) (by first | omega | (simp only [qaA]; omega)) (by first | omega | (simp only [qaA]; omega)) (by first | omega | (simp only [qaA]; omega))]; first | omega | (simp only [qaA]; omega)
 have e4:IntKind.u32.wrap (BitVec.ofInt 32 (((b0 % 128:Nat):Int) + ((b1 % 128:Nat):Int) * 128 + ((b2 % 128:Nat):Int) * 16384 + ((b3 % 128:Nat):Int) * 2097152) ||| BitVec.ofInt 32 (IntKind.u32.wrap (IntKind.u32.wrap (((b4:Nat):Int)) * 268435456))).toNat = ((b0 % 128:Nat):Int) + ((b1 % 128:Nat):Int) * 128 + ((b2 % 128:Nat):Int) * 16384 + ((b3 % 128:Nat):Int) * 2097152 + ((b4:Nat):Int) * 268435456:=by
  rw [or32 28 _ _ (by first | omega | (simp only [qaA]; omega)) (by first | omega | (simp only [qaA]; omega)) (by first | omega | (simp only [qaA]; omega)) (by first | omega | (simp only [qaA]; omega)) (by first | omega | (simp only [qaA]; omega)) (by first | omega | (simp only [qaA]; omega))]; first | omega | (simp only [qaA]; omega)
 rw [e1,e2,e3,e4]
theorem qjG {G:Nat → Nat → Prop} {w0 w:World} {tb:Tb} {rs:List Rw} {p n:Nat} {cs:List Value} (i:Nat) (hi:tb[i]? = some ⟨p,0,cs,true⟩) (hn:cs.length = n:=by rfl):∀ b o,Imm G w0 w tb rs b o → ¬ (b = p ∧ o < n):=by
 subst hn
 exact qjE i hi
theorem qeK {G:Nat → Nat → Prop} {w0 w:World} {tb:Tb} {rs:List Rw} {p:Nat} {x y:Value} (i:Nat) (hi:tb[i]? = some ⟨p,0,[x,y],true⟩):∀ b o,Imm G w0 w tb rs b o → ¬ RdM p b o:=qjE i hi
theorem WOk.immM {G:Nat → Nat → Prop} {w0 w:World} {M:Nat → Nat → Prop} {tb:Tb} {rs:List Rw} (h:WOk w0 M w tb rs) (hd:∀ b o,G b o → ¬ M b o):∀ b o,G b o → b < w0.heap.size → Imm G w0 w tb rs b o:=by
 refine fun b o hg hb=>⟨.inl hg,Nat.lt_of_lt_of_le hb h.step.size,fun ha=>hd b o hg ?_⟩
 rcases ha with ⟨i,ob,hi,hr,rfl,h1,h2⟩ | ⟨i,r,hi,hr⟩
 ·have:=(h.rw_ i ob hi hr (o - ob.off) (by omega)).1
  rw [show ob.off + (o - ob.off) = o by omega] at this
  rcases this with h3 | h3
  ·omega
  exact h3
 rcases h.ownM i r hi b hr with h3 | h3
 ·omega
 exact h3 o
section
variable {w0 w:World} {M:Nat → Nat → Prop} {tb:Tb} {rs:List Rw}
theorem WOk.layRowM {g c e size n k:Nat} {xs:List Value} (hW:WOk w0 M w tb rs) (hk:rs[k]? = some ⟨some ⟨g,0,none⟩,c,e,size,n,xs⟩) (hl:k + 1 = rs.length) (hm:w0.heap.size ≤ g) (rs':List Rw) (tb':Tb) (hr:rs.take k = rs':=by rfl) (ht:tb ++ [⟨g,0,xs,true⟩] = tb':=by rfl):WOk w0 M w tb' rs' ∧ Fr w tb rs w tb' rs':=by
 subst hr ht
 have ho:=hW.own k _ hk
 have hlive:=qcc ho (g:=g) rfl
 have hfz:∀ j,w.frozen? ⟨g,j,none⟩ = false:=fun j=>by
  rcases ho.2 with ⟨hv,_⟩ | ⟨g',cap,cur,hv,_,hg,_⟩
  ·cases hv
  simp only [Rw.v,Value.slice.injEq,Option.some.injEq,Addr.mk.injEq,and_true] at hv
  obtain ⟨rfl,_⟩:=hv
  unfold World.frozen?
  rw [hg]
  simp
 have hlt:∀ (j:Nat) (r:Rw),(rs.take k)[j]? = some r → j ≠ k ∧ rs[j]? = some r:=fun j r hj=>by
  rw [List.getElem?_take] at hj
  split at hj
  ·exact ⟨by omega,hj⟩
  cases hj
 refine ⟨(hW.rows k).add ⟨g,0,xs,true⟩ hlive (fun j v hj=>?_) (fun _ j _=>⟨.inl hm,by dsimp only; rw [Nat.zero_add]; exact hfz j⟩) (fun i q hi _=>.inl (hW.rtb k _ hk g rfl i q hi)) (fun i r hi he=>?_),⟨fun x y _ hn ha=>hn ?_,Step.refl _ _⟩⟩
 ·have:=ho.cells (g:=g) rfl j v hj
  rw [qbV] at this
  dsimp only
  exact this
 ·obtain ⟨h1,h2⟩:=hlt i r hi
  exact hW.rr k i _ r (fun e=>h1 e.symm) hk h2 g rfl he
 rcases ha with ⟨j,q,hj,h1,h2,h3,h4⟩ | ⟨j,r,hj,h1⟩
 ·by_cases hjt:j < tb.length
  ·rw [List.getElem?_append_left hjt] at hj
   exact .inl ⟨j,q,hj,h1,h2,h3,h4⟩
  rw [List.getElem?_append_right (Nat.not_lt.1 hjt)] at hj
  have hq:q = ⟨g,0,xs,true⟩:=by
   rcases Nat.eq_zero_or_pos (j - tb.length) with h | h
   ·rw [h] at hj; exact (Option.some.inj hj).symm
   rw [List.getElem?_eq_none (by simp only [List.length_cons,List.length_nil]; omega)] at hj; cases hj
  subst hq
  exact .inr ⟨k,_,hk,by rw [← h2]; rfl⟩
 exact .inr ⟨j,r,(hlt j r hj).2,h1⟩
def qcE (z:Value) (j:Nat):List Value:=(Builtin.zeroCells z.cells j).toList
variable {P:Program} {ops:Array Oper} {Q:Exit → Act → World → Prop} {n:Nat} {env:Env} {a:Act}
theorem qes {w:World} (size len cap:Nat) (A:Option Addr):(Builtin.firstCells size 0 (.slice A len cap)).run P w = .ok #[] w:=by
 cases A with
 | none=>exact run_firstCells_none w size 0 len cap
 | some b=>exact run_firstCells_some w size 0 b len cap [] (by simp) (fun j v h=>by simp at h)
theorem qe8 (w:World) (t tn ty e:TypeId) (A0:Option Addr) (i:TypeInfo) (z:Value) (k kn:IntKind) (ht:P.underlying t = some (.slice e)) (htn:P.underlying tn = some (.int kn)) (hi:P.info? e = some i) (hz:i.zero = some z)
  (n:Nat) (h0:0 < n) (hs:0 < i.size) (h63:(n:Int) ≤ 9223372036854775807) (h48:n * i.bytes ≤ 281474976710656) :
  (Builtin.append_ #[t,tn] ty #[.slice A0 0 0,.int k n]).run P w =
   .ok (.slice (some ⟨w.heap.size,0,none⟩) n (grownCap w n 0 e)) (w.drew.alloc (.cells (Builtin.zeroCells z.cells n ++ Builtin.zeroCells z.cells (grownCap w n 0 e - n)) e)):=by
 cases A0 with
 | none=>exact Lib.run_append_nil_zeros w t tn ty e i z k kn ht htn hi hz n h0 hs h63 h48
 | some b =>
  have hn:n ≠ 0:=by omega
  have hw:IntKind.i64.wrap (n:Int) = n:=by rw [IntKind.wrap_i64]; omega
  have h63':¬ (9223372036854775807 < (n:Int)):=by omega
  have h48':¬ (281474976710656 < Builtin.nextslicecap n 0 * i.bytes):=by rw [nextslicecap_zero h0]; omega
  have h48i:¬ (281474976710656 < (n:Int) * (i.bytes:Int)):=by
   rw [← Int.natCast_mul]
   omega
  have hneg:¬ ((n:Int) < 0):=by omega
  have hns:¬ (n * i.size = 0):=Nat.mul_ne_zero hn (by omega)
  simp [Builtin.append_,run_underlying ht,run_underlying htn,sizeOf,typeInfo,zeroValue,hi,hz,asInt,asIntOf,hw,hn,hneg,hns,h63',h48',h48i,Question.forced,qes,newRow,grownCap]
theorem qhi {i d j:Nat} {A0:Option Addr} {t tn e:TypeId} {size bytes:Nat} {k kn:IntKind} {q:Int} {z:Value} {N:Act → World → Prop} (hW:WOk w0 M w tb rs) (hE:EnvOk n tb env a)
  (h:appE tb env ops n i = some (t,tn,.slice A0 0 0,.int k q,d)) (ht:qcT P t = some (e,size,bytes)) (htn:P.underlying tn = some (.int kn)) (hz:(P.info? e).bind (·.zero) = some z)
  (hq:q = (j:Int)) (hj:0 < j) (hb:j * bytes ≤ 140737488355328)
  (K:∀ b c a' w',b = w.heap.size → w0.heap.size ≤ b → Fr w tb rs w' tb (rs ++ [⟨some ⟨b,0,none⟩,c,e,size,j,qcE z j⟩]) → WOk w0 M w' tb (rs ++ [⟨some ⟨b,0,none⟩,c,e,size,j,qcE z j⟩]) →
   EnvOk n tb ((d,.v (.slice (some ⟨b,0,none⟩) j c)) :: env) a' → N a' w'):wpOp P ops Q i N a w:=by
 subst hq
 obtain ⟨ht',inf,z',hi,hz',hzs,hs1,rfl,hsz,hbp⟩:=qcz ht
 have hzz:z' = z:=by rw [hi] at hz; simpa [hz'] using hz
 subst hzz
 obtain ⟨op,ho,hd,hrun⟩:=qiO (P:=P) (w:=w) hE h
 obtain ⟨o,h1,h2,h3,h4,h5⟩:=qbD hE ho
 have hjm:j ≤ maxLen:=by
  have:=Nat.le_mul_of_pos_right j hbp
  simp only [maxLen]; omega
 have hr:=qe8 (P:=P) w t tn o.type e A0 inf z' k kn ht' htn hi hz' j hj (by omega) (by simp only [maxLen] at hjm; omega) (by omega)
 have hge:=grownCap_ge w j 0 e
 have hcm:=grownCap_le_maxLen w j 0 e hjm
 have hst:Step w (w.drew.alloc (.cells (Builtin.zeroCells z'.cells j ++ Builtin.zeroCells z'.cells (grownCap w j 0 e - j)) e)) Nil:=(Step.drew w).trans (Step.alloc _ _) fun _ _ _ h=>h
 have hown:(w.drew.alloc (.cells (Builtin.zeroCells z'.cells j ++ Builtin.zeroCells z'.cells (grownCap w j 0 e - j)) e)).ownsRow w.heap.size e size (.slice (some ⟨w.heap.size,0,none⟩) j (grownCap w j 0 e)) j (qcE z' j):=by
  refine ⟨by unfold qcE; rw [Array.length_toList,size_zeroCells,hzs,hs1],.inr ⟨w.heap.size,grownCap w j 0 e,_,rfl,Nat.le_refl _,qdw w.drew _,hge,hcm,?_,?_⟩⟩
  ·rw [Array.size_append,size_zeroCells,size_zeroCells,hzs,hs1,← Nat.add_mul]
   congr 1
   omega
  unfold qcE
  rw [Array.toList_append]
  exact List.take_left' (by rw [Array.length_toList,size_zeroCells,hzs,hs1])
 simp only [wpOp,h1]
 have:Region.wanted o (yielded ops a.tmps) = true:=by first | exact h2 | simp [Region.wanted,h2]
 rw [this]
 simp only [if_true]
 refine .inl ?_
 unfold Oper.wp
 rw [hrun o _ _ h5 hr,Oper.upon,h3]
 exact K w.heap.size _ _ _ rfl hW.step.size (Fr.fresh tb rs hst ⟨some ⟨w.heap.size,0,none⟩,grownCap w j 0 e,e,size,j,qcE z' j⟩ (Nat.le_refl _) hown) (hW.fresh hst ⟨some ⟨w.heap.size,0,none⟩,grownCap w j 0 e,e,size,j,qcE z' j⟩ (Nat.le_refl _) hown) (hE.put hd (.v _) trivial)
theorem qhG (z:Value) (j:Nat):qcE z (j + 1) = z.cells.toList ++ qcE z j:=by
 refine List.ext_getElem? fun i=>?_
 unfold qcE Builtin.zeroCells
 rw [List.getElem?_append]
 simp only [Array.toList_map,Array.toList_range,List.getElem?_map,Array.length_toList,Array.getElem?_toList]
 by_cases h:i < z.cells.size
 ·have h2:i < (j + 1) * z.cells.size:=Nat.lt_of_lt_of_le h (Nat.le_mul_of_pos_left _ (Nat.succ_pos j))
  rw [if_pos h,List.getElem?_range h2,Option.map_some,Nat.mod_eq_of_lt h,getElem!_pos z.cells i h,Array.getElem?_eq_getElem h]
 rw [if_neg h]
 by_cases h2:i < (j + 1) * z.cells.size
 ·have h3:i - z.cells.size < j * z.cells.size:=by rw [Nat.succ_mul] at h2; omega
  rw [List.getElem?_range h2,List.getElem?_range h3,Option.map_some,Option.map_some,Nat.mod_eq_sub_mod (Nat.not_lt.1 h)]
 have h3:¬ i - z.cells.size < j * z.cells.size:=by rw [Nat.succ_mul] at h2; omega
 rw [List.getElem?_eq_none (by simpa using h2),List.getElem?_eq_none (by simpa using h3)]
end
abbrev qcr:=World → (Nat → Nat → Prop) → Prop
structure MvF (P:qcr):Prop where
 move:∀ {w w':World} {F F' M:Nat → Nat → Prop},Step w w' M → (∀ b o,F b o → b < w.heap.size → ¬ M b o) → (∀ b o,F b o → b < w.heap.size → F' b o) → P w F → P w' F'
def noF:qcr:=fun _ _=>True
def andF (P Q:qcr):qcr:=fun w F=>P w F ∧ Q w F
theorem MvF.no:MvF noF:=⟨fun _ _ _ _=>trivial⟩
theorem MvF.and {P Q:qcr} (h:MvF P) (h':MvF Q):MvF (andF P Q):=⟨fun hs hM hF g=>⟨h.move hs hM hF g.1,h'.move hs hM hF g.2⟩⟩
theorem MvF.mono {P:qcr} (h:MvF P) {w:World} {F F':Nat → Nat → Prop} (hF:∀ b o,F b o → b < w.heap.size → F' b o) (g:P w F):P w F':=h.move (Step.refl w Nil) nilM hF g
def qlG (m:Option Nat) (u:List (Int × Bs)):qcr:=fun w F=>MapR w F m u
theorem MvF.tags (m:Option Nat) (u:List (Int × Bs)):MvF (qlG m u):=⟨fun hs hM hF g=>MapR.move g hs hM hF⟩
def atF (b o:Nat) (cs:List Value):qcr:=fun w F=>AtF w F b o cs
theorem MvF.at_ (b o:Nat) (cs:List Value):MvF (atF b o cs):=⟨fun hs hM hF g=>AtF.move g hs hM hF⟩
abbrev rdo (br:Nat) (A:Option Addr) (m c:Nat):Ob:=⟨br,0,[.slice A m c,.bool false],true⟩
theorem qlf {br:Nat} {A A':Option Addr} {m c m' c':Nat} {tb:Tb} {rs:List Rw} {b o:Nat} (h:Act_ (rdo br A m c :: tb) rs b o):Act_ (rdo br A' m' c' :: tb) rs b o:=by
 rcases h with ⟨i,ob,hi,h1⟩ | h
 ·cases i with
  | zero =>
   simp only [List.getElem?_cons_zero,Option.some.injEq] at hi
   subst hi
   exact .inl ⟨0,_,rfl,h1⟩
  | succ i=>exact .inl ⟨i + 1,ob,hi,h1⟩
 exact .inr h
theorem qgw {G:Nat → Nat → Prop} {w0 w:World} {br:Nat} {A A':Option Addr} {m c m' c':Nat} {tb:Tb} {rs:List Rw} {b o:Nat} (h:Imm G w0 w (rdo br A m c :: tb) rs b o):Imm G w0 w (rdo br A' m' c' :: tb) rs b o :=
 ⟨h.1,h.2.1,fun ha=>h.2.2 (qlf ha)⟩
theorem EnvOk.rdo {n br:Nat} {A A':Option Addr} {m c m' c':Nat} {tb:Tb} {env:Env} {a:Act} (h:EnvOk n (rdo br A m c :: tb) env a):EnvOk n (rdo br A' m' c' :: tb) env a:=by
 refine h.table fun i hi=>?_
 cases i with
 | zero=>exact ⟨by simp,rfl,rfl⟩
 | succ i=>exact ⟨by simpa using hi,rfl,rfl⟩
structure RS (w0:World) (M F:Nat → Nat → Prop) (n br:Nat) (tb:Tb) (env:Env) (P:qcr) (s:Bs) (a:Act) (w:World):Prop where
 mv:MvF P
 ex:∃ A m c,WOk w0 M w (rdo br A m c :: tb) [] ∧ RdS w (Imm F w0 w (rdo br none 0 0 :: tb) []) A m c s
 env_:EnvOk n (rdo br none 0 0 :: tb) env a
 fact:P w (Imm F w0 w (rdo br none 0 0 :: tb) [])
section
variable {Pr:Program} {ops opsA opsB opsC:Array Oper} {Q:Exit → Act → World → Prop} {w0:World} {M F:Nat → Nat → Prop} {n br:Nat} {tb:Tb} {env:Env} {P:qcr} {s:Bs} {a:Act} {w:World}
theorem RS.mk' {A:Option Addr} {m c:Nat} (hW:WOk w0 M w (rdo br A m c :: tb) []) (hr:RdS w (Imm F w0 w (rdo br A m c :: tb) []) A m c s) (hE:EnvOk n (rdo br A m c :: tb) env a) (mv:MvF P) (hP:P w (Imm F w0 w (rdo br A m c :: tb) [])):RS w0 M F n br tb env P s a w :=
 ⟨mv,⟨A,m,c,hW,hr.move (Step.refl w Nil) nilM fun b o h _=>qgw h⟩,hE.rdo,mv.mono (fun b o h _=>qgw h) hP⟩
theorem RS.open_ (h:RS w0 M F n br tb env P s a w):∃ A m c,WOk w0 M w (rdo br A m c :: tb) [] ∧ RdS w (Imm F w0 w (rdo br A m c :: tb) []) A m c s ∧ EnvOk n (rdo br A m c :: tb) env a ∧ P w (Imm F w0 w (rdo br A m c :: tb) []):=by
 obtain ⟨A,m,c,hW,hr⟩:=h.ex
 exact ⟨A,m,c,hW,hr.move (Step.refl w Nil) nilM fun b o h _=>qgw h,h.env_.rdo,h.mv.mono (fun b o h _=>qgw h) h.fact⟩
theorem RS.cast {t:Bs} (h:RS w0 M F n br tb env P s a w) (e:s = t):RS w0 M F n br tb env P t a w:=e ▸ h
theorem RS.weak {P':qcr} (h:RS w0 M F n br tb env P s a w) (mv:MvF P') (hP:∀ w F,P w F → P' w F):RS w0 M F n br tb env P' s a w:=⟨mv,h.ex,h.env_,hP _ _ h.fact⟩
theorem RS.pk {env':Env} (h:RS w0 M F n br tb env P s a w) (e:ME.pick env (qce env') = some env':=by kernel_rfl):RS w0 M F n br tb env' P s a w:=⟨h.mv,h.ex,h.env_.pk e,h.fact⟩
theorem RS.envEq {env':Env} (h:RS w0 M F n br tb env P s a w) (e:env = env'):RS w0 M F n br tb env' P s a w:=e ▸ h
theorem RS.tbEq {tb':Tb} (h:RS w0 M F n br tb env P s a w) (e:tb = tb'):RS w0 M F n br tb' env P s a w:=e ▸ h
theorem RS.recast (h:RS w0 M F n br tb env P s a w) (k:Nat) (x y:SV) (hx:lk env k = some x) (hy:y.val (rdo br none 0 0 :: tb) = x.val (rdo br none 0 0 :: tb)) (ho:y.ok (rdo br none 0 0 :: tb)):RS w0 M F n br tb ((k,y) :: env) P s a w:=⟨h.mv,h.ex,h.env_.recast k x y hx hy ho,h.fact⟩
theorem qb2 {L:List Nat} (idxs rest:List Nat) (env':Env) (h:RS w0 M F n br tb env P s a w) (k:∀ a',RS w0 M F n br tb env' P s a' w → wpOps Pr ops Q rest a' w) (e:∀ A m c,qdr Pr ops n (rdo br A m c :: tb) idxs (qce env') env = some env':=by intro _ _ _; kernel_rfl) (hl:L = idxs ++ rest:=by rfl):wpOps Pr ops Q L a w:=by
 obtain ⟨A,m,c,hW,hr,hE,hP⟩:=h.open_
 exact qbZ idxs rest (qce env') hW hE (e A m c) hl fun a' hE'=>k a' (RS.mk' hW hr hE' h.mv hP)
theorem qbo {id:Nat} (env':Env) (h:RS w0 M F n br tb env P s a w) (k:∀ a',RS w0 M F n br tb env' P s a' w → Q .normal a' w) (e:∀ A m c,qdr Pr ops n (rdo br A m c :: tb) (List.range ops.size) (qce env') env = some env':=by intro _ _ _; kernel_rfl):(Code.region id ops false).wp Pr Q a w :=
 qap (List.range ops.size) rfl (qb2 (List.range ops.size) [] env' h (fun a' h'=>qae (k a' h')) e (List.append_nil _).symm)
theorem qlX {id:Nat} {y:Code} (env':Env) (h:RS w0 M F n br tb env P s a w) (k:∀ a',RS w0 M F n br tb env' P s a' w → y.wp Pr Q a' w) (e:∀ A m c,qdr Pr ops n (rdo br A m c :: tb) (List.range ops.size) (qce env') env = some env':=by intro _ _ _; kernel_rfl):(Code.seq (.region id ops false) y).wp Pr Q a w :=
 wp_seq (qbo env' h (fun a' h'=>qab (k a' h')) e)
def qlH (Pr:Program) (f:FuncId) {τ:Type} (X rest:Bs) (val:τ → Value) (fact:τ → qcr):Prop :=
 ∀ {br:Nat} {A:Option Addr} {m c:Nat} {w:World} {F:Nat → Nat → Prop},Str w br [.slice A m c,.bool false] → RdS w F A m c (X ++ rest) → (∀ b o,F b o → ¬ RdM br b o) →
  Calls Pr f #[.pointer (some ⟨br,0,none⟩)] w (RdPost w br (Fp F w) rest fun v w'=>∃ x,v = val x ∧ fact x w' (Fp F w))
def qdk (Pr:Program) (f:FuncId) (X rest:Bs) (v0:Value):Prop :=
 ∀ {br:Nat} {A:Option Addr} {m c:Nat} {w:World} {F:Nat → Nat → Prop},Str w br [.slice A m c,.bool false] → RdS w F A m c (X ++ rest) → (∀ b o,F b o → ¬ RdM br b o) →
  Calls Pr f #[.pointer (some ⟨br,0,none⟩)] w (RdPost w br (Fp F w) rest fun v w'=>v = v0)
theorem RdPost.fp {w:World} {br:Nat} {F:Nat → Nat → Prop} {rest:Bs} {Q Q':Value → World → Prop} {e:Ending} {w':World} (hq:∀ v w',Q v w' → Q' v w') (h:RdPost w br F rest Q e w'):RdPost w br (Fp F w) rest Q' e w':=by
 obtain ⟨v,A',n',c',h1,h2,h3,h4,h5⟩:=h
 exact ⟨v,A',n',c',h1,h2,h3.move (Step.refl _ Nil) nilM fun b o g _=>.inl g,h4,hq _ _ h5⟩
theorem RdPost.q {w:World} {br:Nat} {F:Nat → Nat → Prop} {rest:Bs} {Q Q':Value → World → Prop} {e:Ending} {w':World} (hq:∀ v w',Q v w' → Q' v w') (h:RdPost w br F rest Q e w'):RdPost w br F rest Q' e w':=by
 obtain ⟨v,A',n',c',h1,h2,h3,h4,h5⟩:=h
 exact ⟨v,A',n',c',h1,h2,h3,h4,hq _ _ h5⟩
theorem qgx {i d:Nat} {f:FuncId} {τ:Type} {X rest:Bs} {val:τ → Value} {fact:τ → qcr} {N:Act → World → Prop} (h:RS w0 M F n br tb env P (X ++ rest) a w) (hc:qlH Pr f X rest val fact) (hm:∀ x,MvF (fact x))
  (hf:∀ args w,(callFunc f args).run Pr w = .ok (.enter f args) w) (K:∀ x P' a' w',(∀ w F,P' w F → P w F ∧ fact x w F) → RS w0 M F n br tb ((d,.v (val x)) :: env) P' rest a' w' → N a' w')
  (he:∀ A m c,qfu (rdo br A m c :: tb) env ops n i = some (f,[.pointer (some ⟨br,0,none⟩)],d):=by intro _ _ _; kernel_rfl):wpOp Pr ops Q i N a w:=by
 obtain ⟨A,m,c,hW,hr,hE,hP⟩:=h.open_
 refine qak hE (he A m c) hf (hc (Str.of hW 0 rfl) hr (qeK 0 rfl)) ?_
 rintro e_ w1 ⟨_,A1,n1,c1,rfl,hs,hr1,hst,x,rfl,hx⟩
 refine ⟨_,rfl,fun a1 hE1=>?_⟩
 obtain ⟨hW2,hF2,hL⟩:=hW.wrote 0 (rdo br A1 n1 c1 :: tb) rfl hst hs
 exact K x (andF P (fact x)) a1 w1 (fun _ _ g=>g) (RS.mk' hW2 (hr1.move (Step.refl _ Nil) nilM hL) hE1.rdo (h.mv.and (hm x)) ⟨h.mv.move hF2.step immM hF2.to' hP,(hm x).mono hL hx⟩)
theorem qkj {i d:Nat} {f:FuncId} {X rest:Bs} {v0:Value} {N:Act → World → Prop} (h:RS w0 M F n br tb env P (X ++ rest) a w) (hc:qdk Pr f X rest v0)
  (hf:∀ args w,(callFunc f args).run Pr w = .ok (.enter f args) w) (K:∀ a' w',RS w0 M F n br tb ((d,.v v0) :: env) P rest a' w' → N a' w')
  (he:∀ A m c,qfu (rdo br A m c :: tb) env ops n i = some (f,[.pointer (some ⟨br,0,none⟩)],d):=by intro _ _ _; kernel_rfl):wpOp Pr ops Q i N a w:=by
 obtain ⟨A,m,c,hW,hr,hE,hP⟩:=h.open_
 refine qak hE (he A m c) hf (hc (Str.of hW 0 rfl) hr (qeK 0 rfl)) ?_
 rintro e_ w1 ⟨_,A1,n1,c1,rfl,hs,hr1,hst,rfl⟩
 refine ⟨_,rfl,fun a1 hE1=>?_⟩
 obtain ⟨hW2,hF2,hL⟩:=hW.wrote 0 (rdo br A1 n1 c1 :: tb) rfl hst hs
 exact K a1 w1 (RS.mk' hW2 (hr1.move (Step.refl _ Nil) nilM hL) hE1.rdo h.mv (h.mv.move hF2.step immM hF2.to' hP))
theorem qhH {i d:Nat} {f:FuncId} {v0:Value} {N:Act → World → Prop} (h:RS w0 M F n br tb env P s a w) (hc:∀ {br:Nat} {A:Option Addr} {m c:Nat} {w:World},Str w br [.slice A m c,.bool false] → Calls Pr f #[.pointer (some ⟨br,0,none⟩)] w (fun e w'=>e = .returned v0 ∧ w' = w))
  (hf:∀ args w,(callFunc f args).run Pr w = .ok (.enter f args) w) (K:∀ a',RS w0 M F n br tb ((d,.v v0) :: env) P s a' w → N a' w)
  (he:∀ A m c,qfu (rdo br A m c :: tb) env ops n i = some (f,[.pointer (some ⟨br,0,none⟩)],d):=by intro _ _ _; kernel_rfl):wpOp Pr ops Q i N a w:=by
 obtain ⟨A,m,c,hW,hr,hE,hP⟩:=h.open_
 refine qak hE (he A m c) hf (hc (Str.of hW 0 rfl)) ?_
 rintro e_ _ ⟨rfl,rfl⟩
 exact ⟨_,rfl,fun a1 hE1=>K a1 (RS.mk' hW hr hE1 h.mv hP)⟩
theorem qd9 {i:Nat} (tb':Tb) (j:Nat) {N:Act → World → Prop} (h:RS w0 M F n br tb env P s a w) (K:∀ w',RS w0 M F n br tb' env P s a w' → N a w')
  (he:∀ A m c,qhP Pr (rdo br A m c :: tb) env ops i = some (j + 1,(obAt tb' j).cells):=by intro _ _ _; kernel_rfl) (ht:Tb.put tb j (obAt tb' j).cells = tb':=by rfl):wpOp Pr ops Q i N a w:=by
 obtain ⟨A,m,c,hW,hr,hE,hP⟩:=h.open_
 refine qao hW hE (he A m c) fun w1 hF1 hW1 hE1=>K w1 ?_
 have e:Tb.put (rdo br A m c :: tb) (j + 1) (obAt tb' j).cells = rdo br A m c :: tb':=by
  show rdo br A m c :: Tb.put tb j (obAt tb' j).cells = _
  rw [ht]
 rw [e] at hF1 hW1 hE1
 exact RS.mk' hW1 (hr.move hF1.step immM hF1.to') hE1 h.mv (h.mv.move hF1.step immM hF1.to' hP)
theorem qiC {k:Nat} (h:Nat.blt 0 k = true):List.range k = [0] ++ (List.range k).drop 1:=by
 cases k with
 | zero=>cases h
 | succ k=>rw [List.range_succ_eq_map]; rfl
theorem qej {id d:Nat} {f:FuncId} {X rest:Bs} {v0:Value} (env':Env) (h:RS w0 M F n br tb env P (X ++ rest) a w) (hc:qdk Pr f X rest v0)
  (hf:∀ args w,(callFunc f args).run Pr w = .ok (.enter f args) w) (K:∀ a' w',RS w0 M F n br tb env' P rest a' w' → Q .normal a' w')
  (he:∀ A m c,qfu (rdo br A m c :: tb) env ops n 0 = some (f,[.pointer (some ⟨br,0,none⟩)],d):=by intro _ _ _; kernel_rfl)
  (e:∀ A m c,qdr Pr ops n (rdo br A m c :: tb) ((List.range ops.size).drop 1) (qce env') ((d,.v v0) :: env) = some env':=by intro _ _ _; kernel_rfl) (hs:Nat.blt 0 ops.size = true:=by kernel_rfl):(Code.region id ops false).wp Pr Q a w:=by
 refine qap _ (qiC hs) (qal (qkj h hc hf (fun a' w' hS=>?_) he))
 exact qb2 ((List.range ops.size).drop 1) [] env' hS (fun a2 h2=>qae (K a2 w' h2)) e (List.append_nil _).symm
theorem qdB {idA idB idC d1 d2:Nat} {o:Operand} {b:Bool} {f1 f2:FuncId} {X1 X2 rest:Bs} {v0:Value} (envA env':Env) (h:RS w0 M F n br tb env P ((if b = true then X1 else X2) ++ rest) a w)
  (hc1:qdk Pr f1 X1 rest v0) (hf1:∀ args w,(callFunc f1 args).run Pr w = .ok (.enter f1 args) w) (hc2:qdk Pr f2 X2 rest v0) (hf2:∀ args w,(callFunc f2 args).run Pr w = .ok (.enter f2 args) w)
  (K:∀ a' w',RS w0 M F n br tb env' P rest a' w' → Q .normal a' w')
  (eA:∀ A m c,qdr Pr opsA n (rdo br A m c :: tb) (List.range opsA.size) (qce envA) env = some envA:=by intro _ _ _; kernel_rfl) (ho:opd envA o = some (.v (.bool b)):=by kernel_rfl)
  (he1:∀ A m c,qfu (rdo br A m c :: tb) envA opsB n 0 = some (f1,[.pointer (some ⟨br,0,none⟩)],d1):=by intro _ _ _; kernel_rfl) (he2:∀ A m c,qfu (rdo br A m c :: tb) envA opsC n 0 = some (f2,[.pointer (some ⟨br,0,none⟩)],d2):=by intro _ _ _; kernel_rfl)
  (e1:∀ A m c,qdr Pr opsB n (rdo br A m c :: tb) ((List.range opsB.size).drop 1) (qce env') ((d1,.v v0) :: envA) = some env':=by intro _ _ _; kernel_rfl) (e2:∀ A m c,qdr Pr opsC n (rdo br A m c :: tb) ((List.range opsC.size).drop 1) (qce env') ((d2,.v v0) :: envA) = some env':=by intro _ _ _; kernel_rfl)
  (hs1:Nat.blt 0 opsB.size = true:=by kernel_rfl) (hs2:Nat.blt 0 opsC.size = true:=by kernel_rfl):(Code.seq (.region idA opsA false) (.cond o (.region idB opsB false) (.region idC opsC false))).wp Pr Q a w :=
 qlX envA h (fun a1 h1=>qaw h1.env_ ho (fun hb=>qej env' (h1.cast (by rw [if_pos hb])) hc1 hf1 K he1 e1 hs1) (fun hb=>qej env' (h1.cast (by rw [hb]; rfl)) hc2 hf2 K he2 e2 hs2)) eA
def stoE (P:Program) (ops:Array Oper) (n:Nat) (tb:Tb) (env:Env) (keys:List Nat):Option (Nat × List Value × Env) :=
 match runs P ops n tb (List.range (ops.size - 1)) env with
 | some e=>match qhP P tb e ops (ops.size - 1),pick e keys with
  | some (i,cs),some e'=>some (i,cs,e')
  | _,_=>none
 | none=>none
theorem qdl {id:Nat} (tb':Tb) (j:Nat) (env':Env) (h:RS w0 M F n br tb env P s a w) (K:∀ a' w',RS w0 M F n br tb' env' P s a' w' → Q .normal a' w')
  (he:∀ A m c,stoE Pr ops n (rdo br A m c :: tb) env (qce env') = some (j + 1,(obAt tb' j).cells,env'):=by intro _ _ _; kernel_rfl) (ht:Tb.put tb j (obAt tb' j).cells = tb':=by rfl) (hs:Nat.blt 0 ops.size = true:=by kernel_rfl):(Code.region id ops false).wp Pr Q a w:=by
 obtain ⟨A,m,c,hW,hr,hE,hP⟩:=h.open_
 have h1:=he A m c
 unfold stoE at h1
 split at h1
 ·rename_i e he'
  split at h1
  ·rename_i i cs e' g1 g2
   simp only [Option.some.injEq,Prod.mk.injEq] at h1
   obtain ⟨rfl,rfl,rfl⟩:=h1
   have hr0:List.range ops.size = List.range (ops.size - 1) ++ [ops.size - 1]:=by
    have:0 < ops.size:=by simpa [Nat.blt_eq] using hs
    rw [← List.range_succ]; congr 1; omega
   refine qap _ hr0 (qdU hW.cells hE he' fun a1 hE1=>qal (qao hW hE1 g1 fun w1 hF1 hW1 hE2=>qae (K a1 w1 ?_)))
   have e:Tb.put (rdo br A m c :: tb) (j + 1) (obAt tb' j).cells = rdo br A m c :: tb':=by
    show rdo br A m c :: Tb.put tb j (obAt tb' j).cells = _
    rw [ht]
   rw [e] at hF1 hW1 hE2
   exact RS.mk' hW1 (hr.move hF1.step immM hF1.to') (hE2.pick g2) h.mv (h.mv.move hF1.step immM hF1.to' hP)
  cases h1
 cases h1
theorem qdv {A0:Option Addr} {i d j:Nat} {t tn e:TypeId} {size bytes:Nat} {k kn:IntKind} {q:Int} (z:Value) {N:Act → World → Prop} (h:RS w0 M F n br tb env P s a w)
  (K:∀ g c a' w',w0.heap.size ≤ g → j ≤ c → RS w0 M F n br (tb ++ [⟨g,0,qcE z j,true⟩]) ((d,.v (.slice (some ⟨g,0,none⟩) j c)) :: env) P s a' w' → N a' w')
  (hq:q = (j:Int)) (hj:0 < j) (hb:j * bytes ≤ 140737488355328)
  (he:∀ A m c,appE (rdo br A m c :: tb) env ops n i = some (t,tn,.slice A0 0 0,.int k q,d):=by intro _ _ _; kernel_rfl) (ht:qcT Pr t = some (e,size,bytes):=by kernel_rfl) (htn:Pr.underlying tn = some (.int kn):=by kernel_rfl) (hz:(Pr.info? e).bind (·.zero) = some z:=by kernel_rfl):wpOp Pr ops Q i N a w:=by
 obtain ⟨A,m,c,hW,hr,hE,hP⟩:=h.open_
 refine qhi hW hE (he A m c) ht htn hz hq hj hb fun g c1 a1 w1 hg hg0 hF1 hW1 hE1=>?_
 have hP1:=h.mv.move hF1.step immM hF1.to' hP
 have hr1:=hr.move hF1.step immM hF1.to'
 have hcap:j ≤ c1:=by
  obtain ⟨A',c',hv,_,_,h4⟩:=qfj (hW1.own 0 _ rfl)
  simp only [Rw.v,Value.slice.injEq,true_and] at hv
  rw [hv.2]; exact h4
 obtain ⟨hW2,hF2⟩:=hW1.layRowM (k:=0) rfl rfl hg0 [] (rdo br A m c :: (tb ++ [⟨g,0,qcE z j,true⟩])) rfl rfl
 exact K g c1 a1 w1 hg0 hcap (RS.mk' hW2 (hr1.move hF2.step immM hF2.to') (hE1.grow ⟨g,0,qcE z j,true⟩) h.mv (h.mv.move hF2.step immM hF2.to' hP1))
end
def qhI:Env → Env
 | []=>[]
 | (k,.v x) :: r=>(k,.v x) :: qhI r
 | (k,.p i j) :: r=>(k,.p (match i with | 0=>1 | 1=>0 | i=>i) j) :: qhI r
theorem qlg {n:Nat} {o1 o2:Ob} {env:Env} {a:Act} (h:EnvOk n [o1,o2] env a):EnvOk n [o2,o1] (qhI env) a:=by
 have key:∀ (env:Env) (k:Nat) (x:SV),lk (qhI env) k = some x → ∃ y,lk env k = some y ∧ (y.ok [o1,o2] → x.val [o2,o1] = y.val [o1,o2] ∧ x.ok [o2,o1]):=by
  intro env
  induction env with
  | nil=>intro k x hx; cases hx
  | cons e r ih =>
   obtain ⟨k',sv⟩:=e
   intro k x hx
   cases sv with
   | v y =>
    simp only [qhI,lk] at hx ⊢
    split at hx
    ·rename_i hb
     simp only [Option.some.injEq] at hx
     subst hx
     exact ⟨_,rfl,fun _=>⟨rfl,trivial⟩⟩
    exact ih k x hx
   | p i j =>
    simp only [qhI,lk] at hx ⊢
    split at hx
    ·rename_i hb
     simp only [Option.some.injEq] at hx
     subst hx
     refine ⟨_,rfl,fun hok=>?_⟩
     have hok':i < 2:=hok
     match i,hok' with
     | 0,_=>exact ⟨rfl,show 1 < 2 by omega⟩
     | 1,_=>exact ⟨rfl,show 0 < 2 by omega⟩
    exact ih k x hx
 refine ⟨h.defers,h.size,fun k x hx=>?_⟩
 obtain ⟨y,hy,hv⟩:=key env k x hx
 obtain ⟨h1,h2⟩:=h.at_ k y hy
 obtain ⟨h3,h4⟩:=hv h2
 exact ⟨by rw [h3]; exact h1,h4⟩
theorem qdm {α:Type} {x y o:α} {i:Nat} (h:[y,x][i]? = some o):[x,y][1 - i]? = some o ∧ i < 2:=by
 match i,h with
 | 0,h=>exact ⟨h,by omega⟩
 | 1,h=>exact ⟨h,by omega⟩
 | i + 2,h=>simp at h
theorem WOk.swap2 {w0 w:World} {M:Nat → Nat → Prop} {o1 o2:Ob} (h:WOk w0 M w [o1,o2] []):WOk w0 M w [o2,o1] [] :=
 ⟨h.step,fun i o hi=>h.cells _ o (qdm hi).1,fun i o hi=>h.live _ o (qdm hi).1,fun i o hi=>h.rw_ _ o (qdm hi).1,fun i j o o' hij hi hj hw=>h.apart _ _ o o' (by have:=(qdm hi).2; have:=(qdm hj).2; omega) (qdm hi).1 (qdm hj).1 hw,h.own,h.ownM,fun i r hi=>by simp at hi,h.rr⟩
theorem qkk {o1 o2:Ob} {b o:Nat} (h:Act_ [o2,o1] [] b o):Act_ [o1,o2] [] b o:=by
 rcases h with ⟨i,ob,hi,h1⟩ | ⟨i,r,hi,_⟩
 ·exact .inl ⟨_,ob,(qdm hi).1,h1⟩
 simp at hi
theorem RS.start {w0 w:World} {M F:Nat → Nat → Prop} {n br c:Nat} {A:Option Addr} {o1:Ob} {env:Env} {s:Bs} {a:Act} (hW:WOk w0 M w [o1,rdo br A s.length c] []) (hE:EnvOk n [o1,rdo br A s.length c] env a) (ho:Octs w (Imm F w0 w [o1,rdo br A s.length c] []) A c s) (env':Env) (he:pick (qhI env) (qce env') = some env':=by kernel_rfl):RS w0 M F n br [o1] env' noF s a w :=
 RS.mk' hW.swap2 ⟨rfl,ho.move (Step.refl w Nil) nilM fun b o h _=>⟨h.1,h.2.1,fun ha=>h.2.2 (qkk ha)⟩⟩ ((qlg hE).pick he) MvF.no trivial
theorem qet {α:Type} {l:List α} {x y o:α} {i:Nat} (h:(l ++ [x,y])[i]? = some o):(i < l.length ∧ l[i]? = some o) ∨ (i = l.length ∧ o = x) ∨ (i = l.length + 1 ∧ o = y):=by
 rcases Nat.lt_or_ge i l.length with hl | hl
 ·rw [List.getElem?_append_left hl] at h; exact .inl ⟨hl,h⟩
 rw [List.getElem?_append_right hl] at h
 rcases hk:i - l.length with _ | _ | k
 ·rw [hk] at h; exact .inr (.inl ⟨by omega,(Option.some.inj h).symm⟩)
 ·rw [hk] at h; exact .inr (.inr ⟨by omega,(Option.some.inj h).symm⟩)
 rw [hk] at h; simp at h
theorem qfp {α:Type} {l:List α} {x:α}:(l ++ [x])[l.length]? = some x:=by simp
section
variable {w0 w:World} {M:Nat → Nat → Prop} {tb:Tb} {rs:List Rw}
theorem WOk.splitL {b o o2:Nat} {cs1 cs2:List Value} (hW:WOk w0 M w (tb ++ [⟨b,o,cs1 ++ cs2,true⟩]) rs) (ho:o2 = o + cs1.length) :
  WOk w0 M w (tb ++ [⟨b,o2,cs2,true⟩,⟨b,o,cs1,true⟩]) rs ∧ Fr w (tb ++ [⟨b,o,cs1 ++ cs2,true⟩]) rs w (tb ++ [⟨b,o2,cs2,true⟩,⟨b,o,cs1,true⟩]) rs:=by
 subst ho
 have hi:(tb ++ [(⟨b,o,cs1 ++ cs2,true⟩:Ob)])[tb.length]? = some ⟨b,o,cs1 ++ cs2,true⟩:=qfp
 have old:∀ {j:Nat} {q:Ob},j < tb.length → tb[j]? = some q → (tb ++ [(⟨b,o,cs1 ++ cs2,true⟩:Ob)])[j]? = some q:=fun {j q} hj h=>by rw [List.getElem?_append_left hj]; exact h
 have hlen:(cs1 ++ cs2).length = cs1.length + cs2.length:=List.length_append
 have act:∀ x y,Act_ (tb ++ [⟨b,o + cs1.length,cs2,true⟩,⟨b,o,cs1,true⟩]) rs x y → Act_ (tb ++ [⟨b,o,cs1 ++ cs2,true⟩]) rs x y:=fun x y ha=>by
  rcases ha with ⟨j,q,hj,h1,h2,h3,h4⟩ | ha
  ·rcases qet hj with ⟨hlt,hj⟩ | ⟨rfl,rfl⟩ | ⟨rfl,rfl⟩
   ·exact .inl ⟨j,q,old hlt hj,h1,h2,h3,h4⟩
   ·exact .inl ⟨_,_,hi,rfl,h2,by dsimp only at h3 ⊢; omega,by dsimp only at h4 ⊢; omega⟩
   exact .inl ⟨_,_,hi,rfl,h2,by dsimp only at h3 ⊢; omega,by dsimp only at h4 ⊢; omega⟩
  exact .inr ha
 refine ⟨⟨hW.step,?_,?_,?_,?_,hW.own,hW.ownM,?_,hW.rr⟩,⟨fun x y _ hn ha=>hn (act x y ha),Step.refl _ _⟩⟩
 ·intro j q hj p v hv
  rcases qet hj with ⟨hlt,hj⟩ | ⟨rfl,rfl⟩ | ⟨rfl,rfl⟩
  ·exact hW.cells j q (old hlt hj) p v hv
  ·have:=hW.cells _ _ hi (cs1.length + p) v (by dsimp only at hv ⊢; rw [List.getElem?_append_right (by omega),Nat.add_sub_cancel_left]; exact hv)
   dsimp only at this ⊢
   rwa [Nat.add_assoc]
  exact hW.cells _ _ hi p v (by dsimp only at hv ⊢; rw [List.getElem?_append_left (List.getElem?_eq_some_iff.1 hv).1]; exact hv)
 ·intro j q hj
  rcases qet hj with ⟨hlt,hj⟩ | ⟨rfl,rfl⟩ | ⟨rfl,rfl⟩
  ·exact hW.live j q (old hlt hj)
  ·have:=hW.live _ _ hi; exact this
  have:=hW.live _ _ hi; exact this
 ·intro j q hj hr p hp
  rcases qet hj with ⟨hlt,hj⟩ | ⟨rfl,rfl⟩ | ⟨rfl,rfl⟩
  ·exact hW.rw_ j q (old hlt hj) hr p hp
  ·have:=hW.rw_ _ _ hi rfl (cs1.length + p) (by dsimp only at hp ⊢; omega)
   dsimp only at this ⊢
   rwa [Nat.add_assoc]
  exact hW.rw_ _ _ hi rfl p (by dsimp only at hp ⊢; omega)
 ·intro j k q q' hjk hj hk hw
  rcases qet hj with ⟨hlj,hj⟩ | ⟨rfl,rfl⟩ | ⟨rfl,rfl⟩ <;> rcases qet hk with ⟨hlk,hk⟩ | ⟨rfl,rfl⟩ | ⟨rfl,rfl⟩
  ·exact hW.apart j k q q' hjk (old hlj hj) (old hlk hk) hw
  ·have:=hW.apart j _ q _ (by omega) (old hlj hj) hi (.inr rfl)
   dsimp only at this ⊢; omega
  ·have:=hW.apart j _ q _ (by omega) (old hlj hj) hi (.inr rfl)
   dsimp only at this ⊢; omega
  ·have:=hW.apart _ k _ q' (by omega) hi (old hlk hk) (.inl rfl)
   dsimp only at this ⊢; omega
  ·exact absurd rfl hjk
  ·exact .inr (.inr (Nat.le_refl _))
  ·have:=hW.apart _ k _ q' (by omega) hi (old hlk hk) (.inl rfl)
   dsimp only at this ⊢; omega
  ·exact .inr (.inl (Nat.le_refl _))
  exact absurd rfl hjk
 intro j r hj g hg k q hk
 rcases qet hk with ⟨hlk,hk⟩ | ⟨rfl,rfl⟩ | ⟨rfl,rfl⟩
 ·exact hW.rtb j r hj g hg k q (old hlk hk)
 ·have:=hW.rtb j r hj g hg _ _ hi; exact this
 have:=hW.rtb j r hj g hg _ _ hi; exact this
theorem WOk.atLast {G:Nat → Nat → Prop} {b o:Nat} {cs:List Value} (hW:WOk w0 M w (tb ++ [⟨b,o,cs,true⟩]) []) (hb:w0.heap.size ≤ b):AtF w (Imm G w0 w tb []) b o cs:=fun j v hj=>by
 have hlt:j < cs.length:=(List.getElem?_eq_some_iff.1 hj).1
 refine ⟨⟨.inr hb,?_,fun ha=>?_⟩,?_⟩
 ·have:=hW.live _ _ qfp; exact this
 ·rcases ha with ⟨i,q,hi,hr,h2,h3,h4⟩ | ⟨i,r,hi,_⟩
  ·have hil:i < tb.length:=(List.getElem?_eq_some_iff.1 hi).1
   have:=hW.apart i _ q _ (by omega) (by rw [List.getElem?_append_left hil]; exact hi) qfp (.inr rfl)
   dsimp only at this; omega
  simp at hi
 have:=hW.cells _ _ qfp j v hj; exact this
end
def qe9 (g size:Nat) (cl:DV → List Value) (ok:World → (Nat → Nat → Prop) → DV → Prop) (rel:DV → Tree → Prop) (L:List Tree) (k:Nat):qcr:=fun w F=>∃ ds:Nat → DV,∀ i,i < k → (cl (ds i)).length = size ∧ AtF w F g (0 + i * size) (cl (ds i)) ∧ ok w F (ds i) ∧ rel (ds i) (L.getD i .zero)
theorem MvF.done {g size:Nat} {cl:DV → List Value} {ok:World → (Nat → Nat → Prop) → DV → Prop} {rel:DV → Tree → Prop} {L:List Tree} {k:Nat} (mv:qfU ok):MvF (qe9 g size cl ok rel L k):=⟨fun hs hM hF h=>by
 obtain ⟨ds,h⟩:=h
 refine ⟨ds,fun i hi=>?_⟩
 obtain ⟨h1,h2,h3,h4⟩:=h i hi
 exact ⟨h1,h2.move hs hM hF,mv _ hs hM hF h3,h4⟩⟩
abbrev qbk (g size:Nat) (z:Value) (l k:Nat):Ob:=⟨g,k * size,qcE z (l - k),true⟩
def lstF (size:Nat) (cl:DV → List Value) (ok:World → (Nat → Nat → Prop) → DV → Prop) (rel:DV → Tree → Prop) (A:Option Addr) (c:Nat) (L:List Tree) (f:Nat → DV):qcr:=fun w F=>Slots w F size A c L.length (fun i=>cl (f i)) ∧ (∀ i,i < L.length → ok w F (f i)) ∧ ∀ i,i < L.length → rel (f i) (L.getD i .zero)
theorem MvF.lst {size:Nat} {cl:DV → List Value} {ok:World → (Nat → Nat → Prop) → DV → Prop} {rel:DV → Tree → Prop} {A:Option Addr} {c:Nat} {L:List Tree} {f:Nat → DV} (mv:qfU ok):MvF (lstF size cl ok rel A c L f):=⟨fun hs hM hF h =>
 ⟨h.1.move hs hM hF,fun i hi=>mv _ hs hM hF (h.2.1 i hi),h.2.2⟩⟩
section
variable {Pr:Program} {ops:Array Oper} {Q:Exit → Act → World → Prop} {w0:World} {M F:Nat → Nat → Prop} {n br:Nat} {tb:Tb} {env:Env} {P:qcr} {s:Bs} {a:Act} {w:World}
 {g size:Nat} {cl:DV → List Value} {ok:World → (Nat → Nat → Prop) → DV → Prop} {rel:DV → Tree → Prop} {L:List Tree} {z:Value}
theorem RS.pull {ι:Type} {Qf:ι → qcr} (h:RS w0 M F n br tb env (andF P (fun w F=>∃ x,Qf x w F)) s a w) (mP:MvF P) (mv:∀ x,MvF (Qf x)):∃ x,RS w0 M F n br tb env (andF P (Qf x)) s a w:=by
 obtain ⟨h1,x,hx⟩:=h.fact
 exact ⟨x,mP.and (mv x),h.ex,h.env_,h1,hx⟩
theorem RS.drop {b o:Nat} {cs:List Value} (h:RS w0 M F n br (tb ++ [⟨b,o,cs,true⟩]) env P s a w) (hb:w0.heap.size ≤ b) (hl:qeX (tb.length + 1) env = true):RS w0 M F n br tb env (andF P (atF b o cs)) s a w:=by
 obtain ⟨A,m,c,hW,hr,hE,hP⟩:=h.open_
 have hW':WOk w0 M w ((rdo br A m c :: tb) ++ [⟨b,o,cs,true⟩]) []:=hW
 have h1:=hW'.cutTb (tb.length + 1)
 have hF:=Fr.cutTb w ((rdo br A m c :: tb) ++ [⟨b,o,cs,true⟩]) [] (tb.length + 1)
 have e:((rdo br A m c :: tb) ++ [(⟨b,o,cs,true⟩:Ob)]).take (tb.length + 1) = rdo br A m c :: tb:=by
  show List.take ((rdo br A m c :: tb).length) _ = _
  exact List.take_left
 have hE1:=hE.cutTb (tb.length + 1) hl
 have e2:(rdo br A m c :: (tb ++ [(⟨b,o,cs,true⟩:Ob)])).take (tb.length + 1) = rdo br A m c :: tb:=e
 rw [e] at h1 hF
 rw [e2] at hE1
 exact RS.mk' h1 (hr.move hF.step immM hF.to') hE1 (h.mv.and (MvF.at_ _ _ _)) ⟨h.mv.move hF.step immM hF.to' hP,hW'.atLast hb⟩
theorem RS.next {l k:Nat} (h:RS w0 M F n br (tb ++ [qbk g size z l k]) env P s a w) (hk:k < l) (hz:z.cells.size = size) (hl:qeX (tb.length + 1) env = true):RS w0 M F n br (tb ++ [qbk g size z l (k + 1),⟨g,k * size,z.cells.toList,true⟩]) env P s a w:=by
 obtain ⟨A,m,c,hW,hr,hE,hP⟩:=h.open_
 have e:qcE z (l - k) = z.cells.toList ++ qcE z (l - (k + 1)):=by rw [show l - k = (l - (k + 1)) + 1 by omega,qhG]
 have hW':WOk w0 M w ((rdo br A m c :: tb) ++ [⟨g,k * size,z.cells.toList ++ qcE z (l - (k + 1)),true⟩]) []:=by rw [← e]; exact hW
 obtain ⟨h1,hF⟩:=hW'.splitL (o2:=(k + 1) * size) (by rw [Array.length_toList,hz,Nat.add_mul,Nat.one_mul])
 rw [← e] at hF
 have hE1:=hE.cutTb (tb.length + 1) hl
 have e2:(rdo br A m c :: (tb ++ [qbk g size z l k])).take (tb.length + 1) = rdo br A m c :: tb:=by
  show List.take ((rdo br A m c :: tb).length) ((rdo br A m c :: tb) ++ _) = _
  exact List.take_left
 rw [e2] at hE1
 have hE2:=(hE1.grow (qbk g size z l (k + 1))).grow ⟨g,k * size,z.cells.toList,true⟩
 have e3:((rdo br A m c :: tb) ++ [qbk g size z l (k + 1)]) ++ [(⟨g,k * size,z.cells.toList,true⟩:Ob)] = rdo br A m c :: (tb ++ [qbk g size z l (k + 1),⟨g,k * size,z.cells.toList,true⟩]):=by simp
 rw [e3] at hE2
 exact RS.mk' h1 (hr.move hF.step immM hF.to') hE2 h.mv (h.mv.move hF.step immM hF.to' hP)
theorem RS.thing {k:Nat} {D:DV} {X:qcr} (h:RS w0 M F n br (tb ++ [qbk g size z L.length (k + 1),⟨g,k * size,cl D,true⟩]) env X s a w) (hg:w0.heap.size ≤ g) {t:Tree} (ht:L[k]? = some t) (mv:qfU ok) (mP:MvF P) (hcl:(cl D).length = size)
  (hx:∀ w F,X w F → P w F ∧ qe9 g size cl ok rel L k w F ∧ ok w F D ∧ rel D t) (hl:qeX (tb.length + 2) env = true):RS w0 M F n br (tb ++ [qbk g size z L.length (k + 1)]) env (andF P (qe9 g size cl ok rel L (k + 1))) s a w:=by
 have h':RS w0 M F n br ((tb ++ [qbk g size z L.length (k + 1)]) ++ [⟨g,k * size,cl D,true⟩]) env X s a w:=by
  rw [List.append_assoc]; exact h
 refine (h'.drop hg (by simpa using hl)).weak (mP.and (MvF.done mv)) fun w F hf=>?_
 obtain ⟨hf,hat⟩:=hf
 obtain ⟨h1,⟨ds,h2⟩,h3,h4⟩:=hx w F hf
 refine ⟨h1,fun i=>if i = k then D else ds i,fun i hi=>?_⟩
 by_cases hik:i = k
 ·subst hik
  simp only [if_true]
  exact ⟨hcl,by rw [Nat.zero_add]; exact hat,h3,by rw [List.getD_eq_getElem?_getD,ht]; exact h4⟩
 simp only [if_neg hik]
 exact h2 i (by omega)
theorem RS.listEnd {c:Nat} (h:RS w0 M F n br (tb ++ [qbk g size z L.length L.length]) env (andF P (qe9 g size cl ok rel L L.length)) s a w) (hg:w0.heap.size ≤ g) (mv:qfU ok) (mP:MvF P) (hc:L.length ≤ c) (hsm:L.length ≤ 1099511627776) (h0:0 < L.length)
  (hl:qeX (tb.length + 1) env = true):∃ f:Nat → DV,RS w0 M F n br tb env (andF P (lstF size cl ok rel (some ⟨g,0,none⟩) c L f)) s a w:=by
 have mE:MvF (fun w F=>∃ f:Nat → DV,lstF size cl ok rel (some ⟨g,0,none⟩) c L f w F):=⟨fun hs hM hF hx=>by
  obtain ⟨f,hx⟩:=hx
  exact ⟨f,(MvF.lst mv).move hs hM hF hx⟩⟩
 refine RS.pull (Qf:=fun f=>lstF size cl ok rel (some ⟨g,0,none⟩) c L f) ((h.drop hg hl).weak (mP.and mE) fun w F hf=>?_) mP fun f=>MvF.lst mv
 obtain ⟨⟨h1,ds,h2⟩,_⟩:=hf
 refine ⟨h1,ds,⟨hc,hsm,fun h=>by (cases h),fun ad hA _=>?_⟩,fun i hi=>(h2 i hi).2.2.1,fun i hi=>(h2 i hi).2.2.2⟩
 obtain rfl:=Option.some.inj hA
 exact ⟨g,0,rfl,fun i hi=>⟨(h2 i hi).1,(h2 i hi).2.1⟩⟩
theorem qfM {c:Code} (gf:Tree → Bs) (rest:Bs) (envk:Nat → Env) (h:RS w0 M F n br (tb ++ [⟨g,0,qcE z L.length,true⟩]) (envk 0) P (L.flatMap gf ++ rest) a w) (mv:qfU ok)
  (body:∀ k t a w,L[k]? = some t → k < L.length → RS w0 M F n br (tb ++ [qbk g size z L.length k]) (envk k) (andF P (qe9 g size cl ok rel L k)) (gf t ++ ((L.drop (k + 1)).flatMap gf ++ rest)) a w →
   c.wp Pr (Exit.then (fun a' w'=>RS w0 M F n br (tb ++ [qbk g size z L.length (k + 1)]) (envk (k + 1)) (andF P (qe9 g size cl ok rel L (k + 1))) ((L.drop (k + 1)).flatMap gf ++ rest) a' w') Q) a w)
  (fin:∀ a w,RS w0 M F n br (tb ++ [qbk g size z L.length L.length]) (envk L.length) (andF P (qe9 g size cl ok rel L L.length)) rest a w → c.wp Pr (Exit.then (fun _ _=>False) Q) a w):(Code.loop c).wp Pr Q a w:=by
 refine wp_loop_ghost (fun q a_ w_=>∃ k,q = L.length - k ∧ k ≤ L.length ∧ RS w0 M F n br (tb ++ [qbk g size z L.length k]) (envk k) (andF P (qe9 g size cl ok rel L k)) ((L.drop k).flatMap gf ++ rest) a_ w_) L.length
  ⟨0,by omega,Nat.zero_le _,?_⟩ ?_
 ·have e:qbk g size z L.length 0 = ⟨g,0,qcE z L.length,true⟩:=by simp only [qbk,Nat.zero_mul,Nat.sub_zero]
  rw [e,List.drop_zero]
  exact h.weak (h.mv.and (MvF.done mv)) fun w F hP=>⟨hP,fun _=>dv0,fun i hi=>absurd hi (Nat.not_lt_zero i)⟩
 rintro q aq wq ⟨k,rfl,hk,hS⟩
 rcases Nat.lt_or_ge k L.length with hlt | hge
 ·obtain ⟨t,ht⟩:∃ t,L[k]? = some t:=⟨_,List.getElem?_eq_getElem hlt⟩
  have e:(L.drop k).flatMap gf ++ rest = gf t ++ ((L.drop (k + 1)).flatMap gf ++ rest):=by
   rw [qcw ht,List.flatMap_cons,List.append_assoc]
  refine wp_mono (body k t aq wq ht hlt (hS.cast e)) fun e a' w' hq=>?_
  cases e <;> first | exact hq | exact ⟨L.length - (k + 1),by omega,k + 1,rfl,hlt,hq⟩
 obtain rfl:k = L.length:=by omega
 rw [List.drop_length] at hS
 refine wp_mono (fin aq wq hS) fun e a' w' hq=>?_
 cases e <;> first | exact hq | exact hq.elim
theorem qea {c:Code} (h:c.wp Pr (Exit.then (fun _ _=>False) Q) a w):(Code.loop c).wp Pr Q a w:=by
 refine wp_loop_ghost (fun _ a_ w_=>a_ = a ∧ w_ = w) 0 ⟨rfl,rfl⟩ ?_
 rintro q _ _ ⟨rfl,rfl⟩
 refine wp_mono h fun e a' w' hq=>?_
 cases e <;> first | exact hq | exact hq.elim
theorem qeL {x y z:Code} {Mid:Act → World → Prop} (h1:x.wp Pr (Exit.then (fun a w=>y.wp Pr (Exit.then Mid Q) a w) Q) a w) (h2:∀ a' w',Mid a' w' → z.wp Pr Q a' w'):(Code.seq x (.seq y z)).wp Pr Q a w :=
 wp_seq (qhD h1 fun a' w' hy=>wp_seq (qhD hy h2))
end
end Go.Proofs.YtdlaobdadlmcdaaGreatDoor.ME