/- The texts of a claim, put together: the engine, the contracts, the law. Own work. -/
import Derived.Test.YtdlaobdadlmcdabGreatDoorWb0P2
import Derived.Lib.EndianBits
import Derived.Scope
import Derived.Lib.AppendZeros
import Derived.Deep.LoopGhost
namespace Go.Proofs.YtdlaobdadlmcdabGreatDoor.ME
open Go
open Go.RowKit
set_option linter.unusedVariables false
set_option linter.unusedSimpArgs false
set_option maxRecDepth 20000
theorem qlx (W:Fld → Tree → Bs) (A:Option Addr) (c:Nat) (l:List Fld) (v:Int) (flex:Bool) (ct:List Value) (t:Tree) (w:World) (F:Nat → Nat → Prop) (hW_:∀ cf f ct t w F,f ∈ l → FldR w F cf f → TreeR w F ct t → (W f t).length ≤ 1099511627776 → Calls Tryz.prog 34 #[.agg cf.toArray,.int .i64 v,.bool flex,.agg ct.toArray] w (qdJ w 5 (W f t))) (hl:FldsR w F A c l) (ht:TreeR w F ct t) (hroom:(qev W l v flex t).length ≤ 1099511627776) :
  Calls Tryz.prog 20 #[.slice A l.length c,.int .i64 v,.bool flex,.agg ct.toArray] w (qdJ w 5 (qev W l v flex t)):=by
 obtain ⟨xfs,h1,h2⟩:=hl.ex
 have hsm:=h1.small
 obtain ⟨n1,s2,b3,l4,u5,A6,c7,A8,c9,aU,aV,lU,rfl,rfl,lV,lW,oW,lX⟩:=ht.open_
 have k6:=lV.small
 have k7:=lW.small
 have hkr:=qdS l
 refine enter (n:=132) Tryz.func20 rfl Tryz.ntmps20 kz fun a hE=>?_
 have hW:=WOk.start w Nil
 refine qac [0,1] kz ?_
 refine qak (qbs hW hE (d:=7) (cs:=[.int .i64 n1,.slice A6 s2.length c7,.bool b3,.slice A8 l4.length c9,.slice aU u5.length aV]) kz fun cC oX oY lY lZ l0 cu jU=>?_)
 refine qaj [1] [] [(0,.v (.slice A l.length c)),(1,.v (.int .i64 v)),(2,.v (.bool flex)),(7,.p 0 0)] cu jU fun oZ jV=>?_
 refine qad (qaa ?_)
 refine qar [(0,.v (.slice A l.length c)),(1,.v (.int .i64 v)),(2,.v (.bool flex)),(7,.p 0 0),(9,.v (.slice none 0 0)),(10,.v (.slice none 0 0))] cu jV fun o5 jW=>?_
 refine qar [(0,.v (.slice A l.length c)),(1,.v (.int .i64 v)),(2,.v (.bool flex)),(7,.p 0 0),(9,.v (.slice none 0 0)),(10,.v (.slice none 0 0)),(11,.v (.int .i64 0))] cu jW fun o6 jX=>?_
 refine wp_seq ?_
 refine qar [(0,.v (.slice A l.length c)),(1,.v (.int .i64 v)),(2,.v (.bool flex)),(7,.p 0 0),(9,.v (.slice none 0 0)),(10,.v (.slice none 0 0)),(11,.v (.int .i64 0)),(21,.v (.slice A l.length c)),(22,.v (.int .i64 ((l.length:Nat):Int))),(23,.v (.int .i64 0))] cu jX fun o7 jY=>?_
 refine wp_block ?_
 have eH:=cu.addNil 5 1
 have l3:=cu.frNil 5 1
 have htot:(qaD W l v (Tree.mk n1 s2 b3 l4 u5) 0).length ≤ 1099511627776:=by have h_:=hroom; rw [qev,List.length_append] at h_; omega
 refine wp_loop_ghost (fun n_ a_ w_=>∃ (k:Nat) (A_:Option Addr) (c_:Nat) (dn:Bs),n_ = l.length - k ∧ k ≤ l.length ∧ (dn ++ qaD W (l.drop k) v (Tree.mk n1 s2 b3 l4 u5) k = qaD W l v (Tree.mk n1 s2 b3 l4 u5) 0) ∧ LInv eH 132 [⟨cC,0,[.int .i64 n1,.slice A6 s2.length c7,.bool b3,.slice A8 l4.length c9,.slice aU u5.length aV],true⟩] [brow A_ c_ 5 dn] [(0,.v (.slice A l.length c)),(1,.v (.int .i64 v)),(2,.v (.bool flex)),(7,.p 0 0),(9,.v (.slice A_ dn.length c_)),(10,.v (.slice none 0 0)),(11,.v (.int .i64 0)),(21,.v (.slice A l.length c)),(22,.v (.int .i64 ((l.length:Nat):Int))),(23,.v (.int .i64 ((k:Nat):Int)))] a_ w_) (l.length) ⟨0,none,0,[],by omega,by omega,rfl,jY.pk,eH,Fr.refl _ _ _⟩ ?_
 rintro o9 pa pb ⟨k,A_,c_,dn,l5,l6,hB,jZ,az,eh⟩
 refine qar [(0,.v (.slice A l.length c)),(1,.v (.int .i64 v)),(2,.v (.bool flex)),(7,.p 0 0),(9,.v (.slice A_ dn.length c_)),(10,.v (.slice none 0 0)),(11,.v (.int .i64 0)),(21,.v (.slice A l.length c)),(22,.v (.int .i64 ((l.length:Nat):Int))),(23,.v (.int .i64 ((k:Nat):Int))),(24,.v (.bool (decide (((k:Nat):Int) < ((l.length:Nat):Int)))))] az jZ fun pc ei=>?_
 refine wp_seq ?_
 refine qau ei (b:=decide (((k:Nat):Int) < ((l.length:Nat):Int))) kz (fun ej=>?_) (fun ej=>?_)
 ·
  have l7:=of_decide_eq_true ej
  refine wp_skip ?_
  refine qaa ?_
  refine wp_seq ?_
  refine wp_block ?_
  refine qac [0,1,2,3,4,5] kz ?_
  refine qaj [0] [1,2,3,4,5] [(0,.v (.slice A l.length c)),(1,.v (.int .i64 v)),(2,.v (.bool flex)),(7,.p 0 0),(9,.v (.slice A_ dn.length c_)),(10,.v (.slice none 0 0)),(11,.v (.int .i64 0)),(21,.v (.slice A l.length c)),(22,.v (.int .i64 ((l.length:Nat):Int))),(23,.v (.int .i64 ((k:Nat):Int))),(25,.v (.int .i64 ((k:Nat):Int)))] az ei fun pd j0=>?_
  obtain ⟨l9,ma,j1,mc,dy⟩:=Slots.get h1 (i:=k) (by omega)
  obtain ⟨md,bi⟩:∃ x,l[k]? = some x:=⟨_,List.getElem?_eq_getElem (by omega)⟩
  have ek:=h2 k md bi
  obtain ⟨aA,aB,aC,aD,ax,aE,aF,aG,dw,dx,me,rfl,dA,mf,pe⟩:=ek.open_
  rw [dA] at ek
  have k8:=mf.small
  rw [dA] at dy
  refine qak (qat j0 (t:=29) (A:=A) (m:=l.length) (q:=((k:Nat):Int)) (d:=26) kz (e:=46) (size:=8) (bytes:=80) kz j1 rfl (by omega) fun pf j2=>?_)
  refine qak (qaC j2 (t:=46) (b:=l9) (o:=ma + k * 8) (d:=27) kz (cs:=[.int .i64 aA,.int .i64 aB,.int .i64 aC,.int .i64 aD,.int .i64 ax,.int .i64 aE,.int .i64 aF,.slice dw aG.length dx]) (v:=.agg #[.int .i64 aA,.int .i64 aB,.int .i64 aC,.int .i64 aD,.int .i64 ax,.int .i64 aE,.int .i64 aF,.slice dw aG.length dx]) kz (AtF.move dy az.step nilM qa0).at_ fun pg j3=>?_)
  refine qak (qaY az j3 (d:=13) (cs:=[.int .i64 0,.int .i64 0,.int .i64 0,.int .i64 0,.int .i64 0,.int .i64 0,.int .i64 0,.slice none 0 0]) kz fun ph pi pj mg mh em eI j4=>?_)
  refine qaj [4] [5] [(0,.v (.slice A l.length c)),(1,.v (.int .i64 v)),(2,.v (.bool flex)),(7,.p 0 0),(9,.v (.slice A_ dn.length c_)),(10,.v (.slice none 0 0)),(11,.v (.int .i64 0)),(12,.v (.int .i64 ((k:Nat):Int))),(13,.p 1 0),(21,.v (.slice A l.length c)),(22,.v (.int .i64 ((l.length:Nat):Int))),(23,.v (.int .i64 ((k:Nat):Int))),(27,.v (.agg #[.int .i64 aA,.int .i64 aB,.int .i64 aC,.int .i64 aD,.int .i64 ax,.int .i64 aE,.int .i64 aF,.slice dw aG.length dx]))] eI j4 fun pl j5=>?_
  refine qak (qaH eI j5 (oi:=1) (cs:=[.int .i64 aA,.int .i64 aB,.int .i64 aC,.int .i64 aD,.int .i64 ax,.int .i64 aE,.int .i64 aF,.slice dw aG.length dx]) kz fun pm eo bG j6=>?_)
  refine qad (qaa ?_)
  refine qac [0,1,2,3,4,5,6,7] kz ?_
  refine qaj [0,1,2,3] [4,5,6,7] [(0,.v (.slice A l.length c)),(1,.v (.int .i64 v)),(2,.v (.bool flex)),(7,.p 0 0),(9,.v (.slice A_ dn.length c_)),(10,.v (.slice none 0 0)),(11,.v (.int .i64 0)),(12,.v (.int .i64 ((k:Nat):Int))),(13,.p 1 0),(21,.v (.slice A l.length c)),(22,.v (.int .i64 ((l.length:Nat):Int))),(23,.v (.int .i64 ((k:Nat):Int))),(31,.v (.bool (decide (ax < 0))))] bG j6 fun pn eJ=>?_
  refine (Bool.eq_false_or_eq_true (decide (ax < 0))).elim (fun cD=>?_) (fun cD=>?_)
  ·
   have mi:=of_decide_eq_true cD
   have j7:=eJ.cast (env':=[(0,.v (.slice A l.length c)),(1,.v (.int .i64 v)),(2,.v (.bool flex)),(7,.p 0 0),(9,.v (.slice A_ dn.length c_)),(10,.v (.slice none 0 0)),(11,.v (.int .i64 0)),(12,.v (.int .i64 ((k:Nat):Int))),(13,.p 1 0),(21,.v (.slice A l.length c)),(22,.v (.int .i64 ((l.length:Nat):Int))),(23,.v (.int .i64 ((k:Nat):Int))),(31,.v (.bool true))]) (by rw [cD])
   refine qaj [4,5] [6,7] [(0,.v (.slice A l.length c)),(1,.v (.int .i64 v)),(2,.v (.bool flex)),(7,.p 0 0),(9,.v (.slice A_ dn.length c_)),(10,.v (.slice none 0 0)),(11,.v (.int .i64 0)),(12,.v (.int .i64 ((k:Nat):Int))),(13,.p 1 0),(21,.v (.slice A l.length c)),(22,.v (.int .i64 ((l.length:Nat):Int))),(23,.v (.int .i64 ((k:Nat):Int))),(31,.v (.bool true)),(32,.v (.agg #[.int .i64 aA,.int .i64 aB,.int .i64 aC,.int .i64 aD,.int .i64 ax,.int .i64 aE,.int .i64 aF,.slice dw aG.length dx])),(33,.v (.int .i64 v))] bG j7 fun po eK=>?_
   refine qak (qal eK (f:=33) (vs:=[.agg #[.int .i64 aA,.int .i64 aB,.int .i64 aC,.int .i64 aD,.int .i64 ax,.int .i64 aE,.int .i64 aF,.slice dw aG.length dx],.int .i64 v]) (d:=34) kz Tryz.call33 (sHas aA aB aC aD ax aE aF aG _ _ v _) ?_)
   rintro e_ mj ⟨rfl,dB⟩
   refine ⟨_,rfl,fun ml eL=>?_⟩
   have bN:=bG.next_nil dB
   have dC:=bG.frN dB
   refine qaj [7] [] [(0,.v (.slice A l.length c)),(1,.v (.int .i64 v)),(2,.v (.bool flex)),(7,.p 0 0),(9,.v (.slice A_ dn.length c_)),(10,.v (.slice none 0 0)),(11,.v (.int .i64 0)),(12,.v (.int .i64 ((k:Nat):Int))),(13,.p 1 0),(21,.v (.slice A l.length c)),(22,.v (.int .i64 ((l.length:Nat):Int))),(23,.v (.int .i64 ((k:Nat):Int))),(35,.v (.bool (Fld.has (Fld.mk aA aB aC aD ax aE aF aG) v)))] bN eL fun mn cE=>?_
   refine qad (qaa ?_)
   refine qau cE (b:=Fld.has (Fld.mk aA aB aC aD ax aE aF aG) v) kz (fun eM=>?_) (fun eM=>?_)
   ·
    refine qhg 9 kz bN fun mo eN bj eO=>?_
    refine qa4 [0,1,2,3,4,5] [(0,.v (.slice A l.length c)),(1,.v (.int .i64 v)),(2,.v (.bool flex)),(7,.p 0 0),(9,.v (.slice A_ dn.length c_)),(10,.v (.slice none 0 0)),(11,.v (.int .i64 0)),(21,.v (.slice A l.length c)),(22,.v (.int .i64 ((l.length:Nat):Int))),(23,.v (.int .i64 ((k:Nat):Int))),(36,.v (.slice A_ dn.length c_)),(37,.v (.agg #[.int .i64 aA,.int .i64 aB,.int .i64 aC,.int .i64 aD,.int .i64 ax,.int .i64 aE,.int .i64 aF,.slice dw aG.length dx])),(38,.v (.int .i64 v)),(39,.v (.bool flex)),(40,.v (.agg #[.int .i64 n1,.slice A6 s2.length c7,.bool b3,.slice A8 l4.length c9,.slice aU u5.length aV])),(41,.v (.int .i64 ((k:Nat):Int)))] 4 (qae (qab (qab (qae (qab qah))))) (fun _ h=>h.cells) eO cE fun mp eP=>?_
    refine qa2 (i:=6) kz (qal eP (f:=35) (vs:=[.agg #[.int .i64 n1,.slice A6 s2.length c7,.bool b3,.slice A8 l4.length c9,.slice aU u5.length aV],.int .i64 ((k:Nat):Int)]) (d:=42) kz Tryz.call35 (sAt _ _ k _ _ (ht.move bj.step nilM bj.imm)) ?_)
    rintro e_ mq ⟨k9,rfl,eQ,bk⟩
    have cG:=eQ.move bk nilM (fun b o h_ hb_=>bj.laid (G:=F) bk b o (.inl h_) (Nat.lt_of_lt_of_le hb_ bk.size))
    obtain ⟨ep,eu,ev,ew,ey,ez,eB,eC,eD,eE,eF,la,lb,cH,j8,j9,mr,mt⟩:=cG.open_
    rw [cH] at cG
    have ka:=j8.small
    have kd:=j9.small
    rw [cH]
    refine ⟨_,rfl,fun mu eR=>?_⟩
    have bO:=bj.next_nil bk
    have bP:=bj.frN bk
    have eS:=TT.ofW bP bO
    refine ⟨fun _=>eS,?_⟩
    refine qa2 (i:=7) kz (qal eR (f:=34) (vs:=[.agg #[.int .i64 aA,.int .i64 aB,.int .i64 aC,.int .i64 aD,.int .i64 ax,.int .i64 aE,.int .i64 aF,.slice dw aG.length dx],.int .i64 v,.bool flex,.agg #[.int .i64 ep,.slice ez eu.length eB,.bool ev,.slice eC ew.length eD,.slice eE ey.length eF]]) (d:=43) kz Tryz.call34 ( hW_ _ _ _ _ _ _ (List.mem_of_getElem? bi) (ek.move bO.step nilM bO.imm) cG (by have h_:=congrArg List.length hB; rw [qej bi ‹_› ‹_›] at h_; simp only [List.length_append] at h_; omega)) ?_)
    rintro e_ mw ⟨cI,cJ,rfl,eT,eU⟩
    refine ⟨_,rfl,fun mx eV=>?_⟩
    obtain ⟨bQ,cK⟩:=bO.frFresh eU (brow cI cJ 5 (W (Fld.mk aA aB aC aD ax aE aF aG) (Tree.at_ (Tree.mk n1 s2 b3 l4 u5) k))) (Nat.le_refl _) eT
    have ke:(W (Fld.mk aA aB aC aD ax aE aF aG) (Tree.at_ (Tree.mk n1 s2 b3 l4 u5) k)).length ≤ 1099511627776:=by have h_:=congrArg List.length hB; rw [qej bi ‹_› ‹_›] at h_; simp only [List.length_append] at h_; omega
    have eW:=TT.ofW (bP.trans cK) bQ
    refine ⟨fun _=>eW,?_⟩
    refine qa2 (i:=8) kz (qaP bQ eV (k:=0) (d:=44) (t:=22) (e:=5) (size:=1) (bytes:=1) (A:=A_) (As:=cI) (m0:=dn.length) (c:=c_) (m:=((W (Fld.mk aA aB aC aD ax aE aF aG) (Tree.at_ (Tree.mk n1 s2 b3 l4 u5) k)).length)) (cs:=cJ) (xs:=(bc dn)) (news:=bc (W (Fld.mk aA aB aC aD ax aE aF aG) (Tree.at_ (Tree.mk n1 s2 b3 l4 u5) k))) kz kz rfl (qci (bQ.own 1 _ rfl) (qcQ _)) (qcy (bQ.own 1 _ rfl)) (by have h_:=congrArg List.length hB; rw [qej bi ‹_› ‹_›] at h_; simp only [List.length_append] at h_ ⊢; omega) fun aW aX my mz dD eX eY=>?_)
    have eZ:(⟨aW,aX,5,1,dn.length + (W (Fld.mk aA aB aC aD ax aE aF aG) (Tree.at_ (Tree.mk n1 s2 b3 l4 u5) k)).length,bc dn ++ bc (W (Fld.mk aA aB aC aD ax aE aF aG) (Tree.at_ (Tree.mk n1 s2 b3 l4 u5) k))⟩:Rw) = brow aW aX 5 (dn ++ (W (Fld.mk aA aB aC aD ax aE aF aG) (Tree.at_ (Tree.mk n1 s2 b3 l4 u5) k))):=qa8 (rfl) rfl
    obtain ⟨bR,dE⟩:=eX.rowEq 0 [brow aW aX 5 (dn ++ (W (Fld.mk aA aB aC aD ax aE aF aG) (Tree.at_ (Tree.mk n1 s2 b3 l4 u5) k))),brow cI cJ 5 (W (Fld.mk aA aB aC aD ax aE aF aG) (Tree.at_ (Tree.mk n1 s2 b3 l4 u5) k))] eZ
    have e9:=EnvOk.pick eY (ks:=[0,1,2,7,9,10,11,21,22,23,36,37,38,39,40,41,42,43,44]) (env':=[(0,.v (.slice A l.length c)),(1,.v (.int .i64 v)),(2,.v (.bool flex)),(7,.p 0 0),(9,.v (.slice A_ dn.length c_)),(10,.v (.slice none 0 0)),(11,.v (.int .i64 0)),(21,.v (.slice A l.length c)),(22,.v (.int .i64 ((l.length:Nat):Int))),(23,.v (.int .i64 ((k:Nat):Int))),(36,.v (.slice A_ dn.length c_)),(37,.v (.agg #[.int .i64 aA,.int .i64 aB,.int .i64 aC,.int .i64 aD,.int .i64 ax,.int .i64 aE,.int .i64 aF,.slice dw aG.length dx])),(38,.v (.int .i64 v)),(39,.v (.bool flex)),(40,.v (.agg #[.int .i64 n1,.slice A6 s2.length c7,.bool b3,.slice A8 l4.length c9,.slice aU u5.length aV])),(41,.v (.int .i64 ((k:Nat):Int))),(42,.v (.agg #[.int .i64 ep,.slice ez eu.length eB,.bool ev,.slice eC ew.length eD,.slice eE ey.length eF])),(43,.v (.slice cI ((W (Fld.mk aA aB aC aD ax aE aF aG) (Tree.at_ (Tree.mk n1 s2 b3 l4 u5) k)).length) cJ)),(44,.v (.slice aW (dn.length + (W (Fld.mk aA aB aC aD ax aE aF aG) (Tree.at_ (Tree.mk n1 s2 b3 l4 u5) k)).length) aX))]) kz
    have fa:=e9.cast (env':=[(0,.v (.slice A l.length c)),(1,.v (.int .i64 v)),(2,.v (.bool flex)),(7,.p 0 0),(9,.v (.slice A_ dn.length c_)),(10,.v (.slice none 0 0)),(11,.v (.int .i64 0)),(21,.v (.slice A l.length c)),(22,.v (.int .i64 ((l.length:Nat):Int))),(23,.v (.int .i64 ((k:Nat):Int))),(36,.v (.slice A_ dn.length c_)),(37,.v (.agg #[.int .i64 aA,.int .i64 aB,.int .i64 aC,.int .i64 aD,.int .i64 ax,.int .i64 aE,.int .i64 aF,.slice dw aG.length dx])),(38,.v (.int .i64 v)),(39,.v (.bool flex)),(40,.v (.agg #[.int .i64 n1,.slice A6 s2.length c7,.bool b3,.slice A8 l4.length c9,.slice aU u5.length aV])),(41,.v (.int .i64 ((k:Nat):Int))),(42,.v (.agg #[.int .i64 ep,.slice ez eu.length eB,.bool ev,.slice eC ew.length eD,.slice eE ey.length eF])),(43,.v (.slice cI ((W (Fld.mk aA aB aC aD ax aE aF aG) (Tree.at_ (Tree.mk n1 s2 b3 l4 u5) k)).length) cJ)),(44,.v (.slice aW ((dn ++ (W (Fld.mk aA aB aC aD ax aE aF aG) (Tree.at_ (Tree.mk n1 s2 b3 l4 u5) k))).length) aX))]) (by simp only [List.length_append,List.length_cons,List.length_nil,Nat.zero_add])
    have fb:=TT.ofW (((bP.trans cK).trans dD).trans dE) bR
    refine ⟨fun _=>fb,?_⟩
    refine qa2 (i:=9) kz (qco [0,1,2,7,9,10,11,21,22,23] bR.cells fa (env':=[(0,.v (.slice A l.length c)),(1,.v (.int .i64 v)),(2,.v (.bool flex)),(7,.p 0 0),(9,.v (.slice aW ((dn ++ (W (Fld.mk aA aB aC aD ax aE aF aG) (Tree.at_ (Tree.mk n1 s2 b3 l4 u5) k))).length) aX)),(10,.v (.slice none 0 0)),(11,.v (.int .i64 0)),(21,.v (.slice A l.length c)),(22,.v (.int .i64 ((l.length:Nat):Int))),(23,.v (.int .i64 ((k:Nat):Int)))]) kz fun mA fc=>?_)
    refine ⟨fun h=>absurd rfl h,?_⟩
    refine qa3 kz ?_ _
    refine qaz ?_
    refine qaa ?_
    refine qap [0,1] kz ?_
    refine qaj [0,1] [] [(0,.v (.slice A l.length c)),(1,.v (.int .i64 v)),(2,.v (.bool flex)),(7,.p 0 0),(9,.v (.slice aW ((dn ++ (W (Fld.mk aA aB aC aD ax aE aF aG) (Tree.at_ (Tree.mk n1 s2 b3 l4 u5) k))).length) aX)),(10,.v (.slice none 0 0)),(11,.v (.int .i64 0)),(21,.v (.slice A l.length c)),(22,.v (.int .i64 ((l.length:Nat):Int))),(23,.v (.int .i64 (IntKind.i64.wrap (((k:Nat):Int) + 1))))] bR fc fun mB fe=>?_
    refine qad (qaa ?_)
    obtain ⟨dF,ff,fg⟩:=bR.cutB fe 1 [⟨cC,0,[.int .i64 n1,.slice A6 s2.length c7,.bool b3,.slice A8 l4.length c9,.slice aU u5.length aV],true⟩] [(0,.v (.slice A l.length c)),(1,.v (.int .i64 v)),(2,.v (.bool flex)),(7,.p 0 0),(9,.v (.slice aW ((dn ++ (W (Fld.mk aA aB aC aD ax aE aF aG) (Tree.at_ (Tree.mk n1 s2 b3 l4 u5) k))).length) aX)),(10,.v (.slice none 0 0)),(11,.v (.int .i64 0)),(21,.v (.slice A l.length c)),(22,.v (.int .i64 ((l.length:Nat):Int))),(23,.v (.int .i64 (IntKind.i64.wrap (((k:Nat):Int) + 1))))]
    obtain ⟨fh,fi⟩:=ff.cutR 1 [brow aW aX 5 (dn ++ (W (Fld.mk aA aB aC aD ax aE aF aG) (Tree.at_ (Tree.mk n1 s2 b3 l4 u5) k)))]
    have fj:IntKind.i64.wrap (((k:Nat):Int) + 1) = ((k + 1:Nat):Int):=qaV (by omega)
    rw [fj] at dF
    exact ⟨l.length - (k + 1),by omega,k + 1,aW,aX,dn ++ (W (Fld.mk aA aB aC aD ax aE aF aG) (Tree.at_ (Tree.mk n1 s2 b3 l4 u5) k)),rfl,by omega,by rw [List.append_assoc,← qej bi ‹_› ‹_›]; exact hB,dF.pk,fh,((((((((((eh.trans em).trans eo).trans dC).trans eN).trans bP).trans cK).trans dD).trans dE).trans fg).trans fi)⟩
   refine wp_skip ?_
   refine qaz ?_
   refine qaa ?_
   refine qap [0,1] kz ?_
   refine qaj [0,1] [] [(0,.v (.slice A l.length c)),(1,.v (.int .i64 v)),(2,.v (.bool flex)),(7,.p 0 0),(9,.v (.slice A_ dn.length c_)),(10,.v (.slice none 0 0)),(11,.v (.int .i64 0)),(21,.v (.slice A l.length c)),(22,.v (.int .i64 ((l.length:Nat):Int))),(23,.v (.int .i64 (IntKind.i64.wrap (((k:Nat):Int) + 1))))] bN cE fun mC fk=>?_
   refine qad (qaa ?_)
   obtain ⟨dG,fl,fm⟩:=bN.cutB fk 1 [⟨cC,0,[.int .i64 n1,.slice A6 s2.length c7,.bool b3,.slice A8 l4.length c9,.slice aU u5.length aV],true⟩] [(0,.v (.slice A l.length c)),(1,.v (.int .i64 v)),(2,.v (.bool flex)),(7,.p 0 0),(9,.v (.slice A_ dn.length c_)),(10,.v (.slice none 0 0)),(11,.v (.int .i64 0)),(21,.v (.slice A l.length c)),(22,.v (.int .i64 ((l.length:Nat):Int))),(23,.v (.int .i64 (IntKind.i64.wrap (((k:Nat):Int) + 1))))]
   have fo:IntKind.i64.wrap (((k:Nat):Int) + 1) = ((k + 1:Nat):Int):=qaV (by omega)
   rw [fo] at dG
   exact ⟨l.length - (k + 1),by omega,k + 1,A_,c_,dn,rfl,by omega,by rw [← qh0 bi ‹_›]; exact hB,dG.pk,fl,((((eh.trans em).trans eo).trans dC).trans fm)⟩
  have lc:=of_decide_eq_false cD
  have fq:=eJ.cast (env':=[(0,.v (.slice A l.length c)),(1,.v (.int .i64 v)),(2,.v (.bool flex)),(7,.p 0 0),(9,.v (.slice A_ dn.length c_)),(10,.v (.slice none 0 0)),(11,.v (.int .i64 0)),(12,.v (.int .i64 ((k:Nat):Int))),(13,.p 1 0),(21,.v (.slice A l.length c)),(22,.v (.int .i64 ((l.length:Nat):Int))),(23,.v (.int .i64 ((k:Nat):Int))),(31,.v (.bool false))]) (by rw [cD])
  refine qaj [4,5,6,7] [] [(0,.v (.slice A l.length c)),(1,.v (.int .i64 v)),(2,.v (.bool flex)),(7,.p 0 0),(9,.v (.slice A_ dn.length c_)),(10,.v (.slice none 0 0)),(11,.v (.int .i64 0)),(12,.v (.int .i64 ((k:Nat):Int))),(13,.p 1 0),(21,.v (.slice A l.length c)),(22,.v (.int .i64 ((l.length:Nat):Int))),(23,.v (.int .i64 ((k:Nat):Int))),(35,.v (.bool false))] bG fq fun mD dH=>?_
  refine qad (qaa ?_)
  refine qaq dH (b:=false) kz rfl ?_
  refine wp_skip ?_
  refine qaz ?_
  refine qaa ?_
  refine qap [0,1] kz ?_
  refine qaj [0,1] [] [(0,.v (.slice A l.length c)),(1,.v (.int .i64 v)),(2,.v (.bool flex)),(7,.p 0 0),(9,.v (.slice A_ dn.length c_)),(10,.v (.slice none 0 0)),(11,.v (.int .i64 0)),(21,.v (.slice A l.length c)),(22,.v (.int .i64 ((l.length:Nat):Int))),(23,.v (.int .i64 (IntKind.i64.wrap (((k:Nat):Int) + 1))))] bG dH fun mF fr=>?_
  refine qad (qaa ?_)
  obtain ⟨dI,ft,fu⟩:=bG.cutB fr 1 [⟨cC,0,[.int .i64 n1,.slice A6 s2.length c7,.bool b3,.slice A8 l4.length c9,.slice aU u5.length aV],true⟩] [(0,.v (.slice A l.length c)),(1,.v (.int .i64 v)),(2,.v (.bool flex)),(7,.p 0 0),(9,.v (.slice A_ dn.length c_)),(10,.v (.slice none 0 0)),(11,.v (.int .i64 0)),(21,.v (.slice A l.length c)),(22,.v (.int .i64 ((l.length:Nat):Int))),(23,.v (.int .i64 (IntKind.i64.wrap (((k:Nat):Int) + 1))))]
  have fv:IntKind.i64.wrap (((k:Nat):Int) + 1) = ((k + 1:Nat):Int):=qaV (by omega)
  rw [fv] at dI
  exact ⟨l.length - (k + 1),by omega,k + 1,A_,c_,dn,rfl,by omega,by rw [← qhZ bi ‹_›]; exact hB,dI.pk,ft,(((eh.trans em).trans eo).trans fu)⟩
 have ld:=of_decide_eq_false ej
 refine wp_exit ?_
 refine qay ?_
 refine qay ?_
 refine qaM ?_
 refine qaa ?_
 refine wp_seq ?_
 refine qar [(0,.v (.slice A l.length c)),(1,.v (.int .i64 v)),(2,.v (.bool flex)),(7,.p 0 0),(9,.v (.slice A_ dn.length c_)),(10,.v (.slice none 0 0)),(11,.v (.int .i64 0)),(47,.v (.bool (!flex)))] az ei fun mG cL=>?_
 refine qau cL (b:=!flex) kz (fun bS=>?_) (fun bS=>?_)
 ·
  refine qar [(8,.v (.slice A_ dn.length c_))] az cL fun mH fw=>?_
  refine wp_ret ?_
  refine qax ?_
  refine qaG fw az.cells (v:=.slice A_ dn.length c_) kz ?_
  exact qaW az (k:=0) rfl (by rw [show flex = false by simpa using bS,qiW,← hB,qgo (by omega),List.append_nil])
 refine wp_skip ?_
 refine qaa ?_
 refine wp_seq ?_
 refine qac [0,1,2,3] kz ?_
 refine qaj [0] [1,2,3] [(0,.v (.slice A l.length c)),(1,.v (.int .i64 v)),(2,.v (.bool flex)),(7,.p 0 0),(9,.v (.slice A_ dn.length c_)),(10,.v (.slice none 0 0)),(11,.v (.int .i64 0)),(49,.v (.slice A l.length c))] az cL fun mI fx=>?_
 refine qak (qal fx (f:=36) (vs:=[.slice A l.length c]) (d:=50) kz Tryz.call36 (qkv _ _ l _ _ ⟨xfs,(h1.move az.step nilM az.imm),(fun i_ x_ h_=>((h2 i_ x_ h_).move az.step nilM az.imm))⟩) ?_)
 rintro e_ mJ ⟨rfl,dJ⟩
 refine ⟨_,rfl,fun mK fy=>?_⟩
 have dK:=az.next_nil dJ
 have lf:=az.frN dJ
 refine qaj [2,3] [] [(0,.v (.slice A l.length c)),(1,.v (.int .i64 v)),(2,.v (.bool flex)),(7,.p 0 0),(9,.v (.slice A_ dn.length c_)),(10,.v (.slice none 0 0)),(11,.v (.int .i64 0)),(51,.v (.int .i64 (IntKind.i64.wrap (qao l)))),(52,.v (.int .i64 0))] dK fy fun mL dL=>?_
 refine qad (qaa ?_)
 refine wp_block ?_
 have hdn:dn = qaD W l v (Tree.mk n1 s2 b3 l4 u5) 0:=by rw [← hB,qgo (by omega),List.append_nil]
 have dM:dn = (qaD W l v (Tree.mk n1 s2 b3 l4 u5) 0):=hdn
 have fz:=congrArg (brow A_ c_ 5) dM
 obtain ⟨dN,lg⟩:=dK.rowEq 0 [brow A_ c_ 5 (qaD W l v (Tree.mk n1 s2 b3 l4 u5) 0)] fz
 rw [dM] at dL
 have hfx:flex = true:=by simpa using bS
 have htot2:(qaD W l v (Tree.mk n1 s2 b3 l4 u5) 0).length + (uv (qaF W l (Tree.mk n1 s2 b3 l4 u5) (qao l).toNat + (qag l u5).length)).length + ((qav W l (Tree.mk n1 s2 b3 l4 u5) (qao l).toNat).length + (qaS (qag l u5)).length) ≤ 1099511627776:=by have h_:=hroom; rw [hfx,qfw] at h_; simpa only [List.length_append] using h_
 have hmono:=fun i (h_:i ≤ (qao l).toNat)=>qh1 W l (Tree.mk n1 s2 b3 l4 u5) h_
 have hcnt:=qhr W l (Tree.mk n1 s2 b3 l4 u5)
 have hknn:=qiX l
 have fA:=EnvOk.pick dL (ks:=[0,1,2,7,9,10,11,51,52]) (env':=[(0,.v (.slice A l.length c)),(1,.v (.int .i64 v)),(2,.v (.bool flex)),(7,.p 0 0),(9,.v (.slice A_ ((qaD W l v (Tree.mk n1 s2 b3 l4 u5) 0).length) c_)),(10,.v (.slice none 0 0)),(11,.v (.int .i64 0)),(51,.v (.int .i64 (IntKind.i64.wrap (qao l)))),(52,.v (.int .i64 0))]) kz
 have fB:=fA.cast (env':=[(0,.v (.slice A l.length c)),(1,.v (.int .i64 v)),(2,.v (.bool flex)),(7,.p 0 0),(9,.v (.slice A_ ((qaD W l v (Tree.mk n1 s2 b3 l4 u5) 0).length) c_)),(10,.v (.slice none 0 0)),(11,.v (.int .i64 0)),(51,.v (.int .i64 (((qao l).toNat:Nat):Int))),(52,.v (.int .i64 0))]) (by rw [hknn])
 have dO:=dN.addNil 5 1
 have lh:=dN.frNil 5 1
 refine wp_loop_ghost (fun n_ a_ w_=>∃ (k2:Nat) (A2_:Option Addr) (c2_:Nat),n_ = (qao l).toNat - k2 ∧ k2 ≤ (qao l).toNat ∧ LInv dO 132 [⟨cC,0,[.int .i64 n1,.slice A6 s2.length c7,.bool b3,.slice A8 l4.length c9,.slice aU u5.length aV],true⟩] [brow A_ c_ 5 (qaD W l v (Tree.mk n1 s2 b3 l4 u5) 0),brow A2_ c2_ 5 (qav W l (Tree.mk n1 s2 b3 l4 u5) k2)] [(0,.v (.slice A l.length c)),(1,.v (.int .i64 v)),(2,.v (.bool flex)),(7,.p 0 0),(9,.v (.slice A_ ((qaD W l v (Tree.mk n1 s2 b3 l4 u5) 0).length) c_)),(10,.v (.slice A2_ ((qav W l (Tree.mk n1 s2 b3 l4 u5) k2).length) c2_)),(11,.v (.int .i64 ((qaF W l (Tree.mk n1 s2 b3 l4 u5) k2:Nat):Int))),(51,.v (.int .i64 (((qao l).toNat:Nat):Int))),(52,.v (.int .i64 ((k2:Nat):Int)))] a_ w_) ((qao l).toNat) ⟨0,none,0,by omega,by omega,fB.pk,dO,Fr.refl _ _ _⟩ ?_
 rintro mM mN mO ⟨k2,A2_,c2_,li,lj,fC,ao,fD⟩
 refine qar [(0,.v (.slice A l.length c)),(1,.v (.int .i64 v)),(2,.v (.bool flex)),(7,.p 0 0),(9,.v (.slice A_ ((qaD W l v (Tree.mk n1 s2 b3 l4 u5) 0).length) c_)),(10,.v (.slice A2_ ((qav W l (Tree.mk n1 s2 b3 l4 u5) k2).length) c2_)),(11,.v (.int .i64 ((qaF W l (Tree.mk n1 s2 b3 l4 u5) k2:Nat):Int))),(51,.v (.int .i64 (((qao l).toNat:Nat):Int))),(52,.v (.int .i64 ((k2:Nat):Int))),(53,.v (.bool (decide (((k2:Nat):Int) < (((qao l).toNat:Nat):Int)))))] ao fC fun mQ cM=>?_
 refine wp_seq ?_
 refine qau cM (b:=decide (((k2:Nat):Int) < (((qao l).toNat:Nat):Int))) kz (fun cN=>?_) (fun cN=>?_)
 ·
  have lm:=of_decide_eq_true cN
  refine wp_skip ?_
  refine qaa ?_
  refine wp_seq ?_
  refine wp_block ?_
  refine qar [(0,.v (.slice A l.length c)),(1,.v (.int .i64 v)),(2,.v (.bool flex)),(7,.p 0 0),(9,.v (.slice A_ ((qaD W l v (Tree.mk n1 s2 b3 l4 u5) 0).length) c_)),(10,.v (.slice A2_ ((qav W l (Tree.mk n1 s2 b3 l4 u5) k2).length) c2_)),(11,.v (.int .i64 ((qaF W l (Tree.mk n1 s2 b3 l4 u5) k2:Nat):Int))),(14,.v (.int .i64 ((k2:Nat):Int))),(51,.v (.int .i64 (((qao l).toNat:Nat):Int))),(52,.v (.int .i64 ((k2:Nat):Int)))] ao cM fun mR fE=>?_
  refine qar [(0,.v (.slice A l.length c)),(1,.v (.int .i64 v)),(2,.v (.bool flex)),(7,.p 0 0),(9,.v (.slice A_ ((qaD W l v (Tree.mk n1 s2 b3 l4 u5) 0).length) c_)),(10,.v (.slice A2_ ((qav W l (Tree.mk n1 s2 b3 l4 u5) k2).length) c2_)),(11,.v (.int .i64 ((qaF W l (Tree.mk n1 s2 b3 l4 u5) k2:Nat):Int))),(14,.v (.int .i64 ((k2:Nat):Int))),(51,.v (.int .i64 (((qao l).toNat:Nat):Int))),(52,.v (.int .i64 ((k2:Nat):Int))),(55,.v (.slice A l.length c)),(56,.v (.int .i64 ((l.length:Nat):Int))),(57,.v (.int .i64 0))] ao fE fun mS dP=>?_
  refine wp_block ?_
  have dQ:(qav W l (Tree.mk n1 s2 b3 l4 u5) k2) = (qav W l (Tree.mk n1 s2 b3 l4 u5) k2 ++ []):=(List.append_nil _).symm
  have fF:=congrArg (brow A2_ c2_ 5) dQ
  obtain ⟨dR,fG⟩:=ao.rowEq 1 [brow A_ c_ 5 (qaD W l v (Tree.mk n1 s2 b3 l4 u5) 0),brow A2_ c2_ 5 (qav W l (Tree.mk n1 s2 b3 l4 u5) k2 ++ [])] fF
  rw [dQ] at dP
  have hm2:=hmono (k2 + 1) (by omega)
  rw [qav,List.length_append] at hm2
  have hc2:=hcnt (k2 + 1)
  rw [qaF,qav,List.length_append] at hc2
  have hc3:=qg0 W k2 (Tree.mk n1 s2 b3 l4 u5) l 0
  refine wp_loop_ghost (fun n_ a_ w_=>∃ (q:Nat) (A3_:Option Addr) (c3_:Nat) (dm:Bs) (cn:Nat),n_ = l.length - q ∧ q ≤ l.length ∧ (dm ++ tagB W (l.drop q) k2 (Tree.mk n1 s2 b3 l4 u5) q = tagB W l k2 (Tree.mk n1 s2 b3 l4 u5) 0) ∧ (cn + tagN W (l.drop q) k2 (Tree.mk n1 s2 b3 l4 u5) q = tagN W l k2 (Tree.mk n1 s2 b3 l4 u5) 0) ∧ LInv dR 132 [⟨cC,0,[.int .i64 n1,.slice A6 s2.length c7,.bool b3,.slice A8 l4.length c9,.slice aU u5.length aV],true⟩] [brow A_ c_ 5 (qaD W l v (Tree.mk n1 s2 b3 l4 u5) 0),brow A3_ c3_ 5 (qav W l (Tree.mk n1 s2 b3 l4 u5) k2 ++ dm)] [(0,.v (.slice A l.length c)),(1,.v (.int .i64 v)),(2,.v (.bool flex)),(7,.p 0 0),(9,.v (.slice A_ ((qaD W l v (Tree.mk n1 s2 b3 l4 u5) 0).length) c_)),(10,.v (.slice A3_ ((qav W l (Tree.mk n1 s2 b3 l4 u5) k2 ++ dm).length) c3_)),(11,.v (.int .i64 ((qaF W l (Tree.mk n1 s2 b3 l4 u5) k2 + cn:Nat):Int))),(14,.v (.int .i64 ((k2:Nat):Int))),(51,.v (.int .i64 (((qao l).toNat:Nat):Int))),(52,.v (.int .i64 ((k2:Nat):Int))),(55,.v (.slice A l.length c)),(56,.v (.int .i64 ((l.length:Nat):Int))),(57,.v (.int .i64 ((q:Nat):Int)))] a_ w_) (l.length) ⟨0,A2_,c2_,[],0,by omega,by omega,rfl,Nat.zero_add _,dP.pk,dR,Fr.refl _ _ _⟩ ?_
  rintro mT mU mV ⟨q,A3_,c3_,dm,cn,ln,lp,hB2,hN2,fH,aY,bT⟩
  refine qar [(0,.v (.slice A l.length c)),(1,.v (.int .i64 v)),(2,.v (.bool flex)),(7,.p 0 0),(9,.v (.slice A_ ((qaD W l v (Tree.mk n1 s2 b3 l4 u5) 0).length) c_)),(10,.v (.slice A3_ ((qav W l (Tree.mk n1 s2 b3 l4 u5) k2 ++ dm).length) c3_)),(11,.v (.int .i64 ((qaF W l (Tree.mk n1 s2 b3 l4 u5) k2 + cn:Nat):Int))),(14,.v (.int .i64 ((k2:Nat):Int))),(51,.v (.int .i64 (((qao l).toNat:Nat):Int))),(52,.v (.int .i64 ((k2:Nat):Int))),(55,.v (.slice A l.length c)),(56,.v (.int .i64 ((l.length:Nat):Int))),(57,.v (.int .i64 ((q:Nat):Int))),(58,.v (.bool (decide (((q:Nat):Int) < ((l.length:Nat):Int)))))] aY fH fun mW cO=>?_
  refine wp_seq ?_
  refine qau cO (b:=decide (((q:Nat):Int) < ((l.length:Nat):Int))) kz (fun cP=>?_) (fun cP=>?_)
  ·
   have lq:=of_decide_eq_true cP
   refine wp_skip ?_
   refine qaa ?_
   refine wp_seq ?_
   refine wp_block ?_
   refine qac [0,1,2,3,4,5] kz ?_
   refine qaj [0] [1,2,3,4,5] [(0,.v (.slice A l.length c)),(1,.v (.int .i64 v)),(2,.v (.bool flex)),(7,.p 0 0),(9,.v (.slice A_ ((qaD W l v (Tree.mk n1 s2 b3 l4 u5) 0).length) c_)),(10,.v (.slice A3_ ((qav W l (Tree.mk n1 s2 b3 l4 u5) k2 ++ dm).length) c3_)),(11,.v (.int .i64 ((qaF W l (Tree.mk n1 s2 b3 l4 u5) k2 + cn:Nat):Int))),(14,.v (.int .i64 ((k2:Nat):Int))),(51,.v (.int .i64 (((qao l).toNat:Nat):Int))),(52,.v (.int .i64 ((k2:Nat):Int))),(55,.v (.slice A l.length c)),(56,.v (.int .i64 ((l.length:Nat):Int))),(57,.v (.int .i64 ((q:Nat):Int))),(59,.v (.int .i64 ((q:Nat):Int)))] aY cO fun mX fI=>?_
   obtain ⟨kf,kg,fJ,lr,cQ⟩:=Slots.get h1 (i:=q) (by omega)
   obtain ⟨kh,ap⟩:∃ x,l[q]? = some x:=⟨_,List.getElem?_eq_getElem (by omega)⟩
   have bU:=h2 q kh ap
   obtain ⟨ab,ac,ae,af,aa,ag,ah,ai,bn,bo,ls,rfl,cR,ki,mY⟩:=bU.open_
   rw [cR] at bU
   have kj:=ki.small
   rw [cR] at cQ
   refine qak (qat fI (t:=29) (A:=A) (m:=l.length) (q:=((q:Nat):Int)) (d:=60) kz (e:=46) (size:=8) (bytes:=80) kz fJ rfl (by omega) fun mZ fK=>?_)
   refine qak (qaC fK (t:=46) (b:=kf) (o:=kg + q * 8) (d:=61) kz (cs:=[.int .i64 ab,.int .i64 ac,.int .i64 ae,.int .i64 af,.int .i64 aa,.int .i64 ag,.int .i64 ah,.slice bn ai.length bo]) (v:=.agg #[.int .i64 ab,.int .i64 ac,.int .i64 ae,.int .i64 af,.int .i64 aa,.int .i64 ag,.int .i64 ah,.slice bn ai.length bo]) kz (AtF.move cQ aY.step nilM qa0).at_ fun m4 fL=>?_)
   refine qak (qaY aY fL (d:=16) (cs:=[.int .i64 0,.int .i64 0,.int .i64 0,.int .i64 0,.int .i64 0,.int .i64 0,.int .i64 0,.slice none 0 0]) kz fun m5 m6 m7 lu lv cS dS fM=>?_)
   refine qaj [4] [5] [(0,.v (.slice A l.length c)),(1,.v (.int .i64 v)),(2,.v (.bool flex)),(7,.p 0 0),(9,.v (.slice A_ ((qaD W l v (Tree.mk n1 s2 b3 l4 u5) 0).length) c_)),(10,.v (.slice A3_ ((qav W l (Tree.mk n1 s2 b3 l4 u5) k2 ++ dm).length) c3_)),(11,.v (.int .i64 ((qaF W l (Tree.mk n1 s2 b3 l4 u5) k2 + cn:Nat):Int))),(14,.v (.int .i64 ((k2:Nat):Int))),(15,.v (.int .i64 ((q:Nat):Int))),(16,.p 1 0),(51,.v (.int .i64 (((qao l).toNat:Nat):Int))),(52,.v (.int .i64 ((k2:Nat):Int))),(55,.v (.slice A l.length c)),(56,.v (.int .i64 ((l.length:Nat):Int))),(57,.v (.int .i64 ((q:Nat):Int))),(61,.v (.agg #[.int .i64 ab,.int .i64 ac,.int .i64 ae,.int .i64 af,.int .i64 aa,.int .i64 ag,.int .i64 ah,.slice bn ai.length bo]))] dS fM fun m8 fN=>?_
   refine qak (qaH dS fN (oi:=1) (cs:=[.int .i64 ab,.int .i64 ac,.int .i64 ae,.int .i64 af,.int .i64 aa,.int .i64 ag,.int .i64 ah,.slice bn ai.length bo]) kz fun m9 cT fO fP=>?_)
   refine qad (qaa ?_)
   refine qbF 12 kz fO fun nf cU aN cV=>?_
   refine qa4 [0,1,2,3,4] [(0,.v (.slice A l.length c)),(1,.v (.int .i64 v)),(2,.v (.bool flex)),(7,.p 0 0),(9,.v (.slice A_ ((qaD W l v (Tree.mk n1 s2 b3 l4 u5) 0).length) c_)),(10,.v (.slice A3_ ((qav W l (Tree.mk n1 s2 b3 l4 u5) k2 ++ dm).length) c3_)),(11,.v (.int .i64 ((qaF W l (Tree.mk n1 s2 b3 l4 u5) k2 + cn:Nat):Int))),(14,.v (.int .i64 ((k2:Nat):Int))),(15,.v (.int .i64 ((q:Nat):Int))),(16,.p 1 0),(51,.v (.int .i64 (((qao l).toNat:Nat):Int))),(52,.v (.int .i64 ((k2:Nat):Int))),(55,.v (.slice A l.length c)),(56,.v (.int .i64 ((l.length:Nat):Int))),(57,.v (.int .i64 ((q:Nat):Int))),(66,.v (.bool (aa == ((k2:Nat):Int))))] 7 (qab (qae (qab (qab (qae (qae (qab (qab (qae (qab qah)))))))))) (fun _ h=>h.cells) cV fP fun ng dT=>?_
   refine (Bool.eq_false_or_eq_true (aa == ((k2:Nat):Int))).elim (fun bp=>?_) (fun bp=>?_)
   ·
    have lw:aa = ((k2:Nat):Int):=by simpa using bp
    have fQ:=dT.cast (env':=[(0,.v (.slice A l.length c)),(1,.v (.int .i64 v)),(2,.v (.bool flex)),(7,.p 0 0),(9,.v (.slice A_ ((qaD W l v (Tree.mk n1 s2 b3 l4 u5) 0).length) c_)),(10,.v (.slice A3_ ((qav W l (Tree.mk n1 s2 b3 l4 u5) k2 ++ dm).length) c3_)),(11,.v (.int .i64 ((qaF W l (Tree.mk n1 s2 b3 l4 u5) k2 + cn:Nat):Int))),(14,.v (.int .i64 ((k2:Nat):Int))),(15,.v (.int .i64 ((q:Nat):Int))),(16,.p 1 0),(51,.v (.int .i64 (((qao l).toNat:Nat):Int))),(52,.v (.int .i64 ((k2:Nat):Int))),(55,.v (.slice A l.length c)),(56,.v (.int .i64 ((l.length:Nat):Int))),(57,.v (.int .i64 ((q:Nat):Int))),(66,.v (.bool true))]) (by rw [bp])
    refine qa4 [5,6,7] [(0,.v (.slice A l.length c)),(1,.v (.int .i64 v)),(2,.v (.bool flex)),(7,.p 0 0),(9,.v (.slice A_ ((qaD W l v (Tree.mk n1 s2 b3 l4 u5) 0).length) c_)),(10,.v (.slice A3_ ((qav W l (Tree.mk n1 s2 b3 l4 u5) k2 ++ dm).length) c3_)),(11,.v (.int .i64 ((qaF W l (Tree.mk n1 s2 b3 l4 u5) k2 + cn:Nat):Int))),(14,.v (.int .i64 ((k2:Nat):Int))),(15,.v (.int .i64 ((q:Nat):Int))),(16,.p 1 0),(51,.v (.int .i64 (((qao l).toNat:Nat):Int))),(52,.v (.int .i64 ((k2:Nat):Int))),(55,.v (.slice A l.length c)),(56,.v (.int .i64 ((l.length:Nat):Int))),(57,.v (.int .i64 ((q:Nat):Int))),(66,.v (.bool true)),(67,.v (.agg #[.int .i64 ab,.int .i64 ac,.int .i64 ae,.int .i64 af,.int .i64 aa,.int .i64 ag,.int .i64 ah,.slice bn ai.length bo])),(68,.v (.agg #[.int .i64 n1,.slice A6 s2.length c7,.bool b3,.slice A8 l4.length c9,.slice aU u5.length aV])),(69,.v (.int .i64 ((q:Nat):Int)))] 4 (qab (qae (qab (qab (qae (qae (qab (qab (qae (qab qah)))))))))) (fun _ h=>h.cells) cV fQ fun nh fR=>?_
    refine qa2 (i:=8) kz (qal fR (f:=35) (vs:=[.agg #[.int .i64 n1,.slice A6 s2.length c7,.bool b3,.slice A8 l4.length c9,.slice aU u5.length aV],.int .i64 ((q:Nat):Int)]) (d:=70) kz Tryz.call35 (sAt _ _ q _ _ (ht.move aN.step nilM aN.imm)) ?_)
    rintro e_ ni ⟨lx,rfl,fS,bq⟩
    have cW:=fS.move bq nilM (fun b o h_ hb_=>aN.laid (G:=F) bq b o (.inl h_) (Nat.lt_of_lt_of_le hb_ bq.size))
    obtain ⟨km,ko,kp,kq,ku,kv,kw,kx,ky,kA,kB,ly,lz,cX,kC,kD,nj,nk⟩:=cW.open_
    rw [cX] at cW
    have kE:=kC.small
    have kF:=kD.small
    rw [cX]
    refine ⟨_,rfl,fun nl fT=>?_⟩
    have bt:=aN.next_nil bq
    have bV:=aN.frN bq
    have fU:=TT.ofW bV bt
    refine ⟨fun _=>fU,?_⟩
    refine qa2 (i:=9) kz (qal fT (f:=37) (vs:=[.agg #[.int .i64 ab,.int .i64 ac,.int .i64 ae,.int .i64 af,.int .i64 aa,.int .i64 ag,.int .i64 ah,.slice bn ai.length bo],.agg #[.int .i64 km,.slice kv ko.length kw,.bool kp,.slice kx kq.length ky,.slice kA ku.length kB]]) (d:=71) kz Tryz.call37 (qkw _ _ _ _ _ _ _ (bU.move bt.step nilM bt.imm) (Nat.le_refl _) cW) ?_)
    rintro e_ nm ⟨rfl,dU⟩
    refine ⟨_,rfl,fun np fV=>?_⟩
    have bW:=bt.next_nil dU
    have cY:=bt.frN dU
    have dV:=TT.ofW (bV.trans cY) bW
    refine ⟨fun _=>dV,?_⟩
    refine qa4 [10,11] [(0,.v (.slice A l.length c)),(1,.v (.int .i64 v)),(2,.v (.bool flex)),(7,.p 0 0),(9,.v (.slice A_ ((qaD W l v (Tree.mk n1 s2 b3 l4 u5) 0).length) c_)),(10,.v (.slice A3_ ((qav W l (Tree.mk n1 s2 b3 l4 u5) k2 ++ dm).length) c3_)),(11,.v (.int .i64 ((qaF W l (Tree.mk n1 s2 b3 l4 u5) k2 + cn:Nat):Int))),(14,.v (.int .i64 ((k2:Nat):Int))),(15,.v (.int .i64 ((q:Nat):Int))),(16,.p 1 0),(51,.v (.int .i64 (((qao l).toNat:Nat):Int))),(52,.v (.int .i64 ((k2:Nat):Int))),(55,.v (.slice A l.length c)),(56,.v (.int .i64 ((l.length:Nat):Int))),(57,.v (.int .i64 ((q:Nat):Int))),(73,.v (.bool (!(Fld.usual (Fld.mk ab ac ae af aa ag ah ai) (Tree.at_ (Tree.mk n1 s2 b3 l4 u5) q)))))] 0 (qab (qae (qab (qab (qae (qae (qab (qab (qae (qab qah)))))))))) (fun _ h=>h.cells) dV fV fun nr cZ=>?_
    refine qa3 kz ?_ _
    refine qaa ?_
    refine qau cZ (b:=!(Fld.usual (Fld.mk ab ac ae af aa ag ah ai) (Tree.at_ (Tree.mk n1 s2 b3 l4 u5) q))) kz (fun ay=>?_) (fun ay=>?_)
    ·
     refine qbF 7 kz bW fun ns fW bu fX=>?_
     refine qa4 [0,1,2,3,4] [(0,.v (.slice A l.length c)),(1,.v (.int .i64 v)),(2,.v (.bool flex)),(7,.p 0 0),(9,.v (.slice A_ ((qaD W l v (Tree.mk n1 s2 b3 l4 u5) 0).length) c_)),(10,.v (.slice A3_ ((qav W l (Tree.mk n1 s2 b3 l4 u5) k2 ++ dm).length) c3_)),(11,.v (.int .i64 ((qaF W l (Tree.mk n1 s2 b3 l4 u5) k2 + cn:Nat):Int))),(14,.v (.int .i64 ((k2:Nat):Int))),(51,.v (.int .i64 (((qao l).toNat:Nat):Int))),(52,.v (.int .i64 ((k2:Nat):Int))),(55,.v (.slice A l.length c)),(56,.v (.int .i64 ((l.length:Nat):Int))),(57,.v (.int .i64 ((q:Nat):Int))),(74,.v (.agg #[.int .i64 ab,.int .i64 ac,.int .i64 ae,.int .i64 af,.int .i64 aa,.int .i64 ag,.int .i64 ah,.slice bn ai.length bo])),(75,.v (.int .i64 v)),(76,.v (.bool flex)),(77,.v (.agg #[.int .i64 n1,.slice A6 s2.length c7,.bool b3,.slice A8 l4.length c9,.slice aU u5.length aV])),(78,.v (.int .i64 ((q:Nat):Int)))] 3 (qab (qae (qab (qab (qae (qae (qab (qab (qae (qab qah)))))))))) (fun _ h=>h.cells) fX cZ fun nt fY=>?_
     refine qa2 (i:=5) kz (qal fY (f:=35) (vs:=[.agg #[.int .i64 n1,.slice A6 s2.length c7,.bool b3,.slice A8 l4.length c9,.slice aU u5.length aV],.int .i64 ((q:Nat):Int)]) (d:=79) kz Tryz.call35 (sAt _ _ q _ _ (ht.move bu.step nilM bu.imm)) ?_)
     rintro e_ nu ⟨lA,rfl,fZ,bw⟩
     have da:=fZ.move bw nilM (fun b o h_ hb_=>bu.laid (G:=F) bw b o (.inl h_) (Nat.lt_of_lt_of_le hb_ bw.size))
     obtain ⟨kG,kH,kI,kJ,kK,kL,kM,kN,kO,kP,kQ,lB,lC,db,kR,kS,nv,nw⟩:=da.open_
     rw [db] at da
     have kT:=kR.small
     have kU:=kS.small
     rw [db]
     refine ⟨_,rfl,fun nx f5=>?_⟩
     have bX:=bu.next_nil bw
     have dc:=bu.frN bw
     have f7:=TT.ofW dc bX
     refine ⟨fun _=>f7,?_⟩
     refine qa2 (i:=6) kz (qal f5 (f:=34) (vs:=[.agg #[.int .i64 ab,.int .i64 ac,.int .i64 ae,.int .i64 af,.int .i64 aa,.int .i64 ag,.int .i64 ah,.slice bn ai.length bo],.int .i64 v,.bool flex,.agg #[.int .i64 kG,.slice kL kH.length kM,.bool kI,.slice kN kJ.length kO,.slice kP kK.length kQ]]) (d:=80) kz Tryz.call34 ( hW_ _ _ _ _ _ _ (List.mem_of_getElem? ap) (bU.move bX.step nilM bX.imm) da (by have h_:=congrArg List.length hB2; rw [qdB ap (by omega) (by simpa using ay)] at h_; simp only [List.length_append] at h_; omega)) ?_)
     rintro e_ ny ⟨av,aw,rfl,f8,f9⟩
     refine ⟨_,rfl,fun nz ga=>?_⟩
     obtain ⟨bY,dW⟩:=bX.frFresh f9 (brow av aw 5 (W (Fld.mk ab ac ae af aa ag ah ai) (Tree.at_ (Tree.mk n1 s2 b3 l4 u5) q))) (Nat.le_refl _) f8
     have kV:(W (Fld.mk ab ac ae af aa ag ah ai) (Tree.at_ (Tree.mk n1 s2 b3 l4 u5) q)).length ≤ 1099511627776:=by have h_:=congrArg List.length hB2; rw [qdB ap (by omega) (by simpa using ay)] at h_; simp only [List.length_append] at h_; omega
     have gb:=TT.ofW (dc.trans dW) bY
     refine ⟨fun _=>gb,?_⟩
     refine qa2 (i:=7) kz (qco [0,1,2,7,9,10,11,14,17,51,52,55,56,57] bY.cells ga (env':=[(0,.v (.slice A l.length c)),(1,.v (.int .i64 v)),(2,.v (.bool flex)),(7,.p 0 0),(9,.v (.slice A_ ((qaD W l v (Tree.mk n1 s2 b3 l4 u5) 0).length) c_)),(10,.v (.slice A3_ ((qav W l (Tree.mk n1 s2 b3 l4 u5) k2 ++ dm).length) c3_)),(11,.v (.int .i64 ((qaF W l (Tree.mk n1 s2 b3 l4 u5) k2 + cn:Nat):Int))),(14,.v (.int .i64 ((k2:Nat):Int))),(17,.v (.slice av ((W (Fld.mk ab ac ae af aa ag ah ai) (Tree.at_ (Tree.mk n1 s2 b3 l4 u5) q)).length) aw)),(51,.v (.int .i64 (((qao l).toNat:Nat):Int))),(52,.v (.int .i64 ((k2:Nat):Int))),(55,.v (.slice A l.length c)),(56,.v (.int .i64 ((l.length:Nat):Int))),(57,.v (.int .i64 ((q:Nat):Int)))]) kz fun nA gc=>?_)
     refine ⟨fun h=>absurd rfl h,?_⟩
     refine qa3 kz ?_ _
     refine qaa ?_
     refine qac [0,1,2,3,4,5,6,7,8,9,10,11,12] kz ?_
     refine qaj [0,1,2] [3,4,5,6,7,8,9,10,11,12] [(0,.v (.slice A l.length c)),(1,.v (.int .i64 v)),(2,.v (.bool flex)),(7,.p 0 0),(9,.v (.slice A_ ((qaD W l v (Tree.mk n1 s2 b3 l4 u5) 0).length) c_)),(11,.v (.int .i64 ((qaF W l (Tree.mk n1 s2 b3 l4 u5) k2 + cn:Nat):Int))),(14,.v (.int .i64 ((k2:Nat):Int))),(17,.v (.slice av ((W (Fld.mk ab ac ae af aa ag ah ai) (Tree.at_ (Tree.mk n1 s2 b3 l4 u5) q)).length) aw)),(51,.v (.int .i64 (((qao l).toNat:Nat):Int))),(52,.v (.int .i64 ((k2:Nat):Int))),(55,.v (.slice A l.length c)),(56,.v (.int .i64 ((l.length:Nat):Int))),(57,.v (.int .i64 ((q:Nat):Int))),(81,.v (.slice A3_ ((qav W l (Tree.mk n1 s2 b3 l4 u5) k2 ++ dm).length) c3_)),(83,.v (.int .u64 (IntKind.u64.wrap ((k2:Nat):Int))))] bY gc fun nB gd=>?_
     have ge:IntKind.u64.wrap ((k2:Nat):Int) = ((k2:Nat):Int):=by simp only [qcF,qan,qbv,IntKind.wrap_i64,IntKind.wrap_i32]; omega
     have gg:=EnvOk.pick gd (ks:=[0,1,2,7,9,11,14,17,51,52,55,56,57,81,83]) (env':=[(0,.v (.slice A l.length c)),(1,.v (.int .i64 v)),(2,.v (.bool flex)),(7,.p 0 0),(9,.v (.slice A_ ((qaD W l v (Tree.mk n1 s2 b3 l4 u5) 0).length) c_)),(11,.v (.int .i64 ((qaF W l (Tree.mk n1 s2 b3 l4 u5) k2 + cn:Nat):Int))),(14,.v (.int .i64 ((k2:Nat):Int))),(17,.v (.slice av ((W (Fld.mk ab ac ae af aa ag ah ai) (Tree.at_ (Tree.mk n1 s2 b3 l4 u5) q)).length) aw)),(51,.v (.int .i64 (((qao l).toNat:Nat):Int))),(52,.v (.int .i64 ((k2:Nat):Int))),(55,.v (.slice A l.length c)),(56,.v (.int .i64 ((l.length:Nat):Int))),(57,.v (.int .i64 ((q:Nat):Int))),(81,.v (.slice A3_ ((qav W l (Tree.mk n1 s2 b3 l4 u5) k2 ++ dm).length) c3_)),(83,.v (.int .u64 (IntKind.u64.wrap ((k2:Nat):Int))))]) kz
     have gh:=gg.cast (env':=[(0,.v (.slice A l.length c)),(1,.v (.int .i64 v)),(2,.v (.bool flex)),(7,.p 0 0),(9,.v (.slice A_ ((qaD W l v (Tree.mk n1 s2 b3 l4 u5) 0).length) c_)),(11,.v (.int .i64 ((qaF W l (Tree.mk n1 s2 b3 l4 u5) k2 + cn:Nat):Int))),(14,.v (.int .i64 ((k2:Nat):Int))),(17,.v (.slice av ((W (Fld.mk ab ac ae af aa ag ah ai) (Tree.at_ (Tree.mk n1 s2 b3 l4 u5) q)).length) aw)),(51,.v (.int .i64 (((qao l).toNat:Nat):Int))),(52,.v (.int .i64 ((k2:Nat):Int))),(55,.v (.slice A l.length c)),(56,.v (.int .i64 ((l.length:Nat):Int))),(57,.v (.int .i64 ((q:Nat):Int))),(81,.v (.slice A3_ ((qav W l (Tree.mk n1 s2 b3 l4 u5) k2 ++ dm).length) c3_)),(83,.v (.int .u64 ((k2:Nat):Int)))]) (by rw [ge])
     refine qak (qal gh (f:=38) (vs:=[.int .u64 ((k2:Nat):Int)]) (d:=84) kz Tryz.call38 (qdE k2 (by omega) _) ?_)
     rintro e_ nC ⟨bH,bI,rfl,gi,gj⟩
     refine ⟨_,rfl,fun nD gk=>?_⟩
     obtain ⟨de,gl⟩:=bY.frFresh gj (brow bH bI 5 (uv k2)) (Nat.le_refl _) gi
     refine qak (qaP de gk (k:=1) (d:=85) (t:=22) (e:=5) (size:=1) (bytes:=1) (A:=A3_) (As:=bH) (m0:=((qav W l (Tree.mk n1 s2 b3 l4 u5) k2 ++ dm).length)) (c:=c3_) (m:=((uv k2).length)) (cs:=bI) (xs:=(bc (qav W l (Tree.mk n1 s2 b3 l4 u5) k2 ++ dm))) (news:=bc (uv k2)) kz kz rfl (qci (de.own 3 _ rfl) (qcQ _)) (qcy (de.own 3 _ rfl)) (by have h_:=congrArg List.length hB2; rw [qdB ap (by omega) (by simpa using ay)] at h_; simp only [List.length_append] at h_ ⊢; omega) fun aO aP nE nF gm gn gp=>?_)
     have gq:(⟨aO,aP,5,1,(qav W l (Tree.mk n1 s2 b3 l4 u5) k2 ++ dm).length + (uv k2).length,bc (qav W l (Tree.mk n1 s2 b3 l4 u5) k2 ++ dm) ++ bc (uv k2)⟩:Rw) = brow aO aP 5 (qav W l (Tree.mk n1 s2 b3 l4 u5) k2 ++ dm ++ (uv k2)):=qa8 (rfl) rfl
     obtain ⟨dX,gt⟩:=gn.rowEq 1 [brow A_ c_ 5 (qaD W l v (Tree.mk n1 s2 b3 l4 u5) 0),brow aO aP 5 (qav W l (Tree.mk n1 s2 b3 l4 u5) k2 ++ dm ++ (uv k2)),brow av aw 5 (W (Fld.mk ab ac ae af aa ag ah ai) (Tree.at_ (Tree.mk n1 s2 b3 l4 u5) q)),brow bH bI 5 (uv k2)] gq
     have gu:=EnvOk.pick gp (ks:=[0,1,2,7,9,11,14,17,51,52,55,56,57,81,83,84,85]) (env':=[(0,.v (.slice A l.length c)),(1,.v (.int .i64 v)),(2,.v (.bool flex)),(7,.p 0 0),(9,.v (.slice A_ ((qaD W l v (Tree.mk n1 s2 b3 l4 u5) 0).length) c_)),(11,.v (.int .i64 ((qaF W l (Tree.mk n1 s2 b3 l4 u5) k2 + cn:Nat):Int))),(14,.v (.int .i64 ((k2:Nat):Int))),(17,.v (.slice av ((W (Fld.mk ab ac ae af aa ag ah ai) (Tree.at_ (Tree.mk n1 s2 b3 l4 u5) q)).length) aw)),(51,.v (.int .i64 (((qao l).toNat:Nat):Int))),(52,.v (.int .i64 ((k2:Nat):Int))),(55,.v (.slice A l.length c)),(56,.v (.int .i64 ((l.length:Nat):Int))),(57,.v (.int .i64 ((q:Nat):Int))),(81,.v (.slice A3_ ((qav W l (Tree.mk n1 s2 b3 l4 u5) k2 ++ dm).length) c3_)),(83,.v (.int .u64 ((k2:Nat):Int))),(84,.v (.slice bH ((uv k2).length) bI)),(85,.v (.slice aO ((qav W l (Tree.mk n1 s2 b3 l4 u5) k2 ++ dm).length + (uv k2).length) aP))]) kz
     have gv:=gu.cast (env':=[(0,.v (.slice A l.length c)),(1,.v (.int .i64 v)),(2,.v (.bool flex)),(7,.p 0 0),(9,.v (.slice A_ ((qaD W l v (Tree.mk n1 s2 b3 l4 u5) 0).length) c_)),(11,.v (.int .i64 ((qaF W l (Tree.mk n1 s2 b3 l4 u5) k2 + cn:Nat):Int))),(14,.v (.int .i64 ((k2:Nat):Int))),(17,.v (.slice av ((W (Fld.mk ab ac ae af aa ag ah ai) (Tree.at_ (Tree.mk n1 s2 b3 l4 u5) q)).length) aw)),(51,.v (.int .i64 (((qao l).toNat:Nat):Int))),(52,.v (.int .i64 ((k2:Nat):Int))),(55,.v (.slice A l.length c)),(56,.v (.int .i64 ((l.length:Nat):Int))),(57,.v (.int .i64 ((q:Nat):Int))),(81,.v (.slice A3_ ((qav W l (Tree.mk n1 s2 b3 l4 u5) k2 ++ dm).length) c3_)),(83,.v (.int .u64 ((k2:Nat):Int))),(84,.v (.slice bH ((uv k2).length) bI)),(85,.v (.slice aO ((qav W l (Tree.mk n1 s2 b3 l4 u5) k2 ++ dm ++ (uv k2)).length) aP))]) (by simp only [List.length_append,List.length_cons,List.length_nil,Nat.zero_add])
     refine qaj [5,6,7] [8,9,10,11,12] [(0,.v (.slice A l.length c)),(1,.v (.int .i64 v)),(2,.v (.bool flex)),(7,.p 0 0),(9,.v (.slice A_ ((qaD W l v (Tree.mk n1 s2 b3 l4 u5) 0).length) c_)),(11,.v (.int .i64 ((qaF W l (Tree.mk n1 s2 b3 l4 u5) k2 + cn:Nat):Int))),(14,.v (.int .i64 ((k2:Nat):Int))),(17,.v (.slice av ((W (Fld.mk ab ac ae af aa ag ah ai) (Tree.at_ (Tree.mk n1 s2 b3 l4 u5) q)).length) aw)),(51,.v (.int .i64 (((qao l).toNat:Nat):Int))),(52,.v (.int .i64 ((k2:Nat):Int))),(55,.v (.slice A l.length c)),(56,.v (.int .i64 ((l.length:Nat):Int))),(57,.v (.int .i64 ((q:Nat):Int))),(85,.v (.slice aO ((qav W l (Tree.mk n1 s2 b3 l4 u5) k2 ++ dm ++ (uv k2)).length) aP)),(88,.v (.int .u64 (IntKind.u64.wrap (((W (Fld.mk ab ac ae af aa ag ah ai) (Tree.at_ (Tree.mk n1 s2 b3 l4 u5) q)).length:Nat):Int))))] dX gv fun nG gw=>?_
     have gx:IntKind.u64.wrap (((W (Fld.mk ab ac ae af aa ag ah ai) (Tree.at_ (Tree.mk n1 s2 b3 l4 u5) q)).length:Nat):Int) = (((W (Fld.mk ab ac ae af aa ag ah ai) (Tree.at_ (Tree.mk n1 s2 b3 l4 u5) q)).length:Nat):Int):=by simp only [qcF,qan,qbv,IntKind.wrap_i64,IntKind.wrap_i32]; omega
     have gy:=EnvOk.pick gw (ks:=[0,1,2,7,9,11,14,17,51,52,55,56,57,85,88]) (env':=[(0,.v (.slice A l.length c)),(1,.v (.int .i64 v)),(2,.v (.bool flex)),(7,.p 0 0),(9,.v (.slice A_ ((qaD W l v (Tree.mk n1 s2 b3 l4 u5) 0).length) c_)),(11,.v (.int .i64 ((qaF W l (Tree.mk n1 s2 b3 l4 u5) k2 + cn:Nat):Int))),(14,.v (.int .i64 ((k2:Nat):Int))),(17,.v (.slice av ((W (Fld.mk ab ac ae af aa ag ah ai) (Tree.at_ (Tree.mk n1 s2 b3 l4 u5) q)).length) aw)),(51,.v (.int .i64 (((qao l).toNat:Nat):Int))),(52,.v (.int .i64 ((k2:Nat):Int))),(55,.v (.slice A l.length c)),(56,.v (.int .i64 ((l.length:Nat):Int))),(57,.v (.int .i64 ((q:Nat):Int))),(85,.v (.slice aO ((qav W l (Tree.mk n1 s2 b3 l4 u5) k2 ++ dm ++ (uv k2)).length) aP)),(88,.v (.int .u64 (IntKind.u64.wrap (((W (Fld.mk ab ac ae af aa ag ah ai) (Tree.at_ (Tree.mk n1 s2 b3 l4 u5) q)).length:Nat):Int))))]) kz
     have gz:=gy.cast (env':=[(0,.v (.slice A l.length c)),(1,.v (.int .i64 v)),(2,.v (.bool flex)),(7,.p 0 0),(9,.v (.slice A_ ((qaD W l v (Tree.mk n1 s2 b3 l4 u5) 0).length) c_)),(11,.v (.int .i64 ((qaF W l (Tree.mk n1 s2 b3 l4 u5) k2 + cn:Nat):Int))),(14,.v (.int .i64 ((k2:Nat):Int))),(17,.v (.slice av ((W (Fld.mk ab ac ae af aa ag ah ai) (Tree.at_ (Tree.mk n1 s2 b3 l4 u5) q)).length) aw)),(51,.v (.int .i64 (((qao l).toNat:Nat):Int))),(52,.v (.int .i64 ((k2:Nat):Int))),(55,.v (.slice A l.length c)),(56,.v (.int .i64 ((l.length:Nat):Int))),(57,.v (.int .i64 ((q:Nat):Int))),(85,.v (.slice aO ((qav W l (Tree.mk n1 s2 b3 l4 u5) k2 ++ dm ++ (uv k2)).length) aP)),(88,.v (.int .u64 (((W (Fld.mk ab ac ae af aa ag ah ai) (Tree.at_ (Tree.mk n1 s2 b3 l4 u5) q)).length:Nat):Int)))]) (by rw [gx])
     refine qak (qal gz (f:=38) (vs:=[.int .u64 (((W (Fld.mk ab ac ae af aa ag ah ai) (Tree.at_ (Tree.mk n1 s2 b3 l4 u5) q)).length:Nat):Int)]) (d:=89) kz Tryz.call38 (qdE ((W (Fld.mk ab ac ae af aa ag ah ai) (Tree.at_ (Tree.mk n1 s2 b3 l4 u5) q)).length) (by omega) _) ?_)
     rintro e_ nH ⟨cv,cw,rfl,gA,gB⟩
     refine ⟨_,rfl,fun nI gC=>?_⟩
     obtain ⟨df,gD⟩:=dX.frFresh gB (brow cv cw 5 (uv ((W (Fld.mk ab ac ae af aa ag ah ai) (Tree.at_ (Tree.mk n1 s2 b3 l4 u5) q)).length))) (Nat.le_refl _) gA
     refine qak (qaP df gC (k:=1) (d:=90) (t:=22) (e:=5) (size:=1) (bytes:=1) (A:=aO) (As:=cv) (m0:=((qav W l (Tree.mk n1 s2 b3 l4 u5) k2 ++ dm ++ (uv k2)).length)) (c:=aP) (m:=((uv ((W (Fld.mk ab ac ae af aa ag ah ai) (Tree.at_ (Tree.mk n1 s2 b3 l4 u5) q)).length)).length)) (cs:=cw) (xs:=(bc (qav W l (Tree.mk n1 s2 b3 l4 u5) k2 ++ dm ++ (uv k2)))) (news:=bc (uv ((W (Fld.mk ab ac ae af aa ag ah ai) (Tree.at_ (Tree.mk n1 s2 b3 l4 u5) q)).length))) kz kz rfl (qci (df.own 4 _ rfl) (qcQ _)) (qcy (df.own 4 _ rfl)) (by have h_:=congrArg List.length hB2; rw [qdB ap (by omega) (by simpa using ay)] at h_; simp only [List.length_append] at h_ ⊢; omega) fun aZ ba nJ nK gE gF gG=>?_)
     have gH:(⟨aZ,ba,5,1,(qav W l (Tree.mk n1 s2 b3 l4 u5) k2 ++ dm ++ (uv k2)).length + (uv ((W (Fld.mk ab ac ae af aa ag ah ai) (Tree.at_ (Tree.mk n1 s2 b3 l4 u5) q)).length)).length,bc (qav W l (Tree.mk n1 s2 b3 l4 u5) k2 ++ dm ++ (uv k2)) ++ bc (uv ((W (Fld.mk ab ac ae af aa ag ah ai) (Tree.at_ (Tree.mk n1 s2 b3 l4 u5) q)).length))⟩:Rw) = brow aZ ba 5 (qav W l (Tree.mk n1 s2 b3 l4 u5) k2 ++ dm ++ (uv k2) ++ (uv ((W (Fld.mk ab ac ae af aa ag ah ai) (Tree.at_ (Tree.mk n1 s2 b3 l4 u5) q)).length))):=qa8 (rfl) rfl
     obtain ⟨bZ,gI⟩:=gF.rowEq 1 [brow A_ c_ 5 (qaD W l v (Tree.mk n1 s2 b3 l4 u5) 0),brow aZ ba 5 (qav W l (Tree.mk n1 s2 b3 l4 u5) k2 ++ dm ++ (uv k2) ++ (uv ((W (Fld.mk ab ac ae af aa ag ah ai) (Tree.at_ (Tree.mk n1 s2 b3 l4 u5) q)).length))),brow av aw 5 (W (Fld.mk ab ac ae af aa ag ah ai) (Tree.at_ (Tree.mk n1 s2 b3 l4 u5) q)),brow bH bI 5 (uv k2),brow cv cw 5 (uv ((W (Fld.mk ab ac ae af aa ag ah ai) (Tree.at_ (Tree.mk n1 s2 b3 l4 u5) q)).length))] gH
     have gJ:=EnvOk.pick gG (ks:=[0,1,2,7,9,11,14,17,51,52,55,56,57,85,88,89,90]) (env':=[(0,.v (.slice A l.length c)),(1,.v (.int .i64 v)),(2,.v (.bool flex)),(7,.p 0 0),(9,.v (.slice A_ ((qaD W l v (Tree.mk n1 s2 b3 l4 u5) 0).length) c_)),(11,.v (.int .i64 ((qaF W l (Tree.mk n1 s2 b3 l4 u5) k2 + cn:Nat):Int))),(14,.v (.int .i64 ((k2:Nat):Int))),(17,.v (.slice av ((W (Fld.mk ab ac ae af aa ag ah ai) (Tree.at_ (Tree.mk n1 s2 b3 l4 u5) q)).length) aw)),(51,.v (.int .i64 (((qao l).toNat:Nat):Int))),(52,.v (.int .i64 ((k2:Nat):Int))),(55,.v (.slice A l.length c)),(56,.v (.int .i64 ((l.length:Nat):Int))),(57,.v (.int .i64 ((q:Nat):Int))),(85,.v (.slice aO ((qav W l (Tree.mk n1 s2 b3 l4 u5) k2 ++ dm ++ (uv k2)).length) aP)),(88,.v (.int .u64 (((W (Fld.mk ab ac ae af aa ag ah ai) (Tree.at_ (Tree.mk n1 s2 b3 l4 u5) q)).length:Nat):Int))),(89,.v (.slice cv ((uv ((W (Fld.mk ab ac ae af aa ag ah ai) (Tree.at_ (Tree.mk n1 s2 b3 l4 u5) q)).length)).length) cw)),(90,.v (.slice aZ ((qav W l (Tree.mk n1 s2 b3 l4 u5) k2 ++ dm ++ (uv k2)).length + (uv ((W (Fld.mk ab ac ae af aa ag ah ai) (Tree.at_ (Tree.mk n1 s2 b3 l4 u5) q)).length)).length) ba))]) kz
     have gK:=gJ.cast (env':=[(0,.v (.slice A l.length c)),(1,.v (.int .i64 v)),(2,.v (.bool flex)),(7,.p 0 0),(9,.v (.slice A_ ((qaD W l v (Tree.mk n1 s2 b3 l4 u5) 0).length) c_)),(11,.v (.int .i64 ((qaF W l (Tree.mk n1 s2 b3 l4 u5) k2 + cn:Nat):Int))),(14,.v (.int .i64 ((k2:Nat):Int))),(17,.v (.slice av ((W (Fld.mk ab ac ae af aa ag ah ai) (Tree.at_ (Tree.mk n1 s2 b3 l4 u5) q)).length) aw)),(51,.v (.int .i64 (((qao l).toNat:Nat):Int))),(52,.v (.int .i64 ((k2:Nat):Int))),(55,.v (.slice A l.length c)),(56,.v (.int .i64 ((l.length:Nat):Int))),(57,.v (.int .i64 ((q:Nat):Int))),(85,.v (.slice aO ((qav W l (Tree.mk n1 s2 b3 l4 u5) k2 ++ dm ++ (uv k2)).length) aP)),(88,.v (.int .u64 (((W (Fld.mk ab ac ae af aa ag ah ai) (Tree.at_ (Tree.mk n1 s2 b3 l4 u5) q)).length:Nat):Int))),(89,.v (.slice cv ((uv ((W (Fld.mk ab ac ae af aa ag ah ai) (Tree.at_ (Tree.mk n1 s2 b3 l4 u5) q)).length)).length) cw)),(90,.v (.slice aZ ((qav W l (Tree.mk n1 s2 b3 l4 u5) k2 ++ dm ++ (uv k2) ++ (uv ((W (Fld.mk ab ac ae af aa ag ah ai) (Tree.at_ (Tree.mk n1 s2 b3 l4 u5) q)).length))).length) ba))]) (by simp only [List.length_append,List.length_cons,List.length_nil,Nat.zero_add])
     refine qaj [10] [11,12] [(0,.v (.slice A l.length c)),(1,.v (.int .i64 v)),(2,.v (.bool flex)),(7,.p 0 0),(9,.v (.slice A_ ((qaD W l v (Tree.mk n1 s2 b3 l4 u5) 0).length) c_)),(11,.v (.int .i64 ((qaF W l (Tree.mk n1 s2 b3 l4 u5) k2 + cn:Nat):Int))),(14,.v (.int .i64 ((k2:Nat):Int))),(51,.v (.int .i64 (((qao l).toNat:Nat):Int))),(52,.v (.int .i64 ((k2:Nat):Int))),(55,.v (.slice A l.length c)),(56,.v (.int .i64 ((l.length:Nat):Int))),(57,.v (.int .i64 ((q:Nat):Int))),(90,.v (.slice aZ ((qav W l (Tree.mk n1 s2 b3 l4 u5) k2 ++ dm ++ (uv k2) ++ (uv ((W (Fld.mk ab ac ae af aa ag ah ai) (Tree.at_ (Tree.mk n1 s2 b3 l4 u5) q)).length))).length) ba)),(91,.v (.slice av ((W (Fld.mk ab ac ae af aa ag ah ai) (Tree.at_ (Tree.mk n1 s2 b3 l4 u5) q)).length) aw))] bZ gK fun nL gL=>?_
     refine qak (qaP bZ gL (k:=1) (d:=92) (t:=22) (e:=5) (size:=1) (bytes:=1) (A:=aZ) (As:=av) (m0:=((qav W l (Tree.mk n1 s2 b3 l4 u5) k2 ++ dm ++ (uv k2) ++ (uv ((W (Fld.mk ab ac ae af aa ag ah ai) (Tree.at_ (Tree.mk n1 s2 b3 l4 u5) q)).length))).length)) (c:=ba) (m:=((W (Fld.mk ab ac ae af aa ag ah ai) (Tree.at_ (Tree.mk n1 s2 b3 l4 u5) q)).length)) (cs:=aw) (xs:=(bc (qav W l (Tree.mk n1 s2 b3 l4 u5) k2 ++ dm ++ (uv k2) ++ (uv ((W (Fld.mk ab ac ae af aa ag ah ai) (Tree.at_ (Tree.mk n1 s2 b3 l4 u5) q)).length))))) (news:=bc (W (Fld.mk ab ac ae af aa ag ah ai) (Tree.at_ (Tree.mk n1 s2 b3 l4 u5) q))) kz kz rfl (qci (bZ.own 2 _ rfl) (qcQ _)) (qcy (bZ.own 2 _ rfl)) (by have h_:=congrArg List.length hB2; rw [qdB ap (by omega) (by simpa using ay)] at h_; simp only [List.length_append] at h_ ⊢; omega) fun aI aJ nM nN gM gN gO=>?_)
     have gP:(⟨aI,aJ,5,1,(qav W l (Tree.mk n1 s2 b3 l4 u5) k2 ++ dm ++ (uv k2) ++ (uv ((W (Fld.mk ab ac ae af aa ag ah ai) (Tree.at_ (Tree.mk n1 s2 b3 l4 u5) q)).length))).length + (W (Fld.mk ab ac ae af aa ag ah ai) (Tree.at_ (Tree.mk n1 s2 b3 l4 u5) q)).length,bc (qav W l (Tree.mk n1 s2 b3 l4 u5) k2 ++ dm ++ (uv k2) ++ (uv ((W (Fld.mk ab ac ae af aa ag ah ai) (Tree.at_ (Tree.mk n1 s2 b3 l4 u5) q)).length))) ++ bc (W (Fld.mk ab ac ae af aa ag ah ai) (Tree.at_ (Tree.mk n1 s2 b3 l4 u5) q))⟩:Rw) = brow aI aJ 5 (qav W l (Tree.mk n1 s2 b3 l4 u5) k2 ++ dm ++ (uv k2) ++ (uv ((W (Fld.mk ab ac ae af aa ag ah ai) (Tree.at_ (Tree.mk n1 s2 b3 l4 u5) q)).length)) ++ (W (Fld.mk ab ac ae af aa ag ah ai) (Tree.at_ (Tree.mk n1 s2 b3 l4 u5) q))):=qa8 (rfl) rfl
     obtain ⟨b8,gQ⟩:=gN.rowEq 1 [brow A_ c_ 5 (qaD W l v (Tree.mk n1 s2 b3 l4 u5) 0),brow aI aJ 5 (qav W l (Tree.mk n1 s2 b3 l4 u5) k2 ++ dm ++ (uv k2) ++ (uv ((W (Fld.mk ab ac ae af aa ag ah ai) (Tree.at_ (Tree.mk n1 s2 b3 l4 u5) q)).length)) ++ (W (Fld.mk ab ac ae af aa ag ah ai) (Tree.at_ (Tree.mk n1 s2 b3 l4 u5) q))),brow av aw 5 (W (Fld.mk ab ac ae af aa ag ah ai) (Tree.at_ (Tree.mk n1 s2 b3 l4 u5) q)),brow bH bI 5 (uv k2),brow cv cw 5 (uv ((W (Fld.mk ab ac ae af aa ag ah ai) (Tree.at_ (Tree.mk n1 s2 b3 l4 u5) q)).length))] gP
     have gR:=EnvOk.pick gO (ks:=[0,1,2,7,9,11,14,51,52,55,56,57,90,91,92]) (env':=[(0,.v (.slice A l.length c)),(1,.v (.int .i64 v)),(2,.v (.bool flex)),(7,.p 0 0),(9,.v (.slice A_ ((qaD W l v (Tree.mk n1 s2 b3 l4 u5) 0).length) c_)),(11,.v (.int .i64 ((qaF W l (Tree.mk n1 s2 b3 l4 u5) k2 + cn:Nat):Int))),(14,.v (.int .i64 ((k2:Nat):Int))),(51,.v (.int .i64 (((qao l).toNat:Nat):Int))),(52,.v (.int .i64 ((k2:Nat):Int))),(55,.v (.slice A l.length c)),(56,.v (.int .i64 ((l.length:Nat):Int))),(57,.v (.int .i64 ((q:Nat):Int))),(90,.v (.slice aZ ((qav W l (Tree.mk n1 s2 b3 l4 u5) k2 ++ dm ++ (uv k2) ++ (uv ((W (Fld.mk ab ac ae af aa ag ah ai) (Tree.at_ (Tree.mk n1 s2 b3 l4 u5) q)).length))).length) ba)),(91,.v (.slice av ((W (Fld.mk ab ac ae af aa ag ah ai) (Tree.at_ (Tree.mk n1 s2 b3 l4 u5) q)).length) aw)),(92,.v (.slice aI ((qav W l (Tree.mk n1 s2 b3 l4 u5) k2 ++ dm ++ (uv k2) ++ (uv ((W (Fld.mk ab ac ae af aa ag ah ai) (Tree.at_ (Tree.mk n1 s2 b3 l4 u5) q)).length))).length + (W (Fld.mk ab ac ae af aa ag ah ai) (Tree.at_ (Tree.mk n1 s2 b3 l4 u5) q)).length) aJ))]) kz
     have gS:=gR.cast (env':=[(0,.v (.slice A l.length c)),(1,.v (.int .i64 v)),(2,.v (.bool flex)),(7,.p 0 0),(9,.v (.slice A_ ((qaD W l v (Tree.mk n1 s2 b3 l4 u5) 0).length) c_)),(11,.v (.int .i64 ((qaF W l (Tree.mk n1 s2 b3 l4 u5) k2 + cn:Nat):Int))),(14,.v (.int .i64 ((k2:Nat):Int))),(51,.v (.int .i64 (((qao l).toNat:Nat):Int))),(52,.v (.int .i64 ((k2:Nat):Int))),(55,.v (.slice A l.length c)),(56,.v (.int .i64 ((l.length:Nat):Int))),(57,.v (.int .i64 ((q:Nat):Int))),(90,.v (.slice aZ ((qav W l (Tree.mk n1 s2 b3 l4 u5) k2 ++ dm ++ (uv k2) ++ (uv ((W (Fld.mk ab ac ae af aa ag ah ai) (Tree.at_ (Tree.mk n1 s2 b3 l4 u5) q)).length))).length) ba)),(91,.v (.slice av ((W (Fld.mk ab ac ae af aa ag ah ai) (Tree.at_ (Tree.mk n1 s2 b3 l4 u5) q)).length) aw)),(92,.v (.slice aI ((qav W l (Tree.mk n1 s2 b3 l4 u5) k2 ++ dm ++ (uv k2) ++ (uv ((W (Fld.mk ab ac ae af aa ag ah ai) (Tree.at_ (Tree.mk n1 s2 b3 l4 u5) q)).length)) ++ (W (Fld.mk ab ac ae af aa ag ah ai) (Tree.at_ (Tree.mk n1 s2 b3 l4 u5) q))).length) aJ))]) (by simp only [List.length_append,List.length_cons,List.length_nil,Nat.zero_add])
     refine qaj [12] [] [(0,.v (.slice A l.length c)),(1,.v (.int .i64 v)),(2,.v (.bool flex)),(7,.p 0 0),(9,.v (.slice A_ ((qaD W l v (Tree.mk n1 s2 b3 l4 u5) 0).length) c_)),(10,.v (.slice aI ((qav W l (Tree.mk n1 s2 b3 l4 u5) k2 ++ dm ++ (uv k2) ++ (uv ((W (Fld.mk ab ac ae af aa ag ah ai) (Tree.at_ (Tree.mk n1 s2 b3 l4 u5) q)).length)) ++ (W (Fld.mk ab ac ae af aa ag ah ai) (Tree.at_ (Tree.mk n1 s2 b3 l4 u5) q))).length) aJ)),(11,.v (.int .i64 ((qaF W l (Tree.mk n1 s2 b3 l4 u5) k2 + cn:Nat):Int))),(14,.v (.int .i64 ((k2:Nat):Int))),(51,.v (.int .i64 (((qao l).toNat:Nat):Int))),(52,.v (.int .i64 ((k2:Nat):Int))),(55,.v (.slice A l.length c)),(56,.v (.int .i64 ((l.length:Nat):Int))),(57,.v (.int .i64 ((q:Nat):Int)))] b8 gS fun nO gT=>?_
     refine qad (qaa ?_)
     refine qap [0,1,2] kz ?_
     refine qaj [0,1,2] [] [(0,.v (.slice A l.length c)),(1,.v (.int .i64 v)),(2,.v (.bool flex)),(7,.p 0 0),(9,.v (.slice A_ ((qaD W l v (Tree.mk n1 s2 b3 l4 u5) 0).length) c_)),(10,.v (.slice aI ((qav W l (Tree.mk n1 s2 b3 l4 u5) k2 ++ dm ++ (uv k2) ++ (uv ((W (Fld.mk ab ac ae af aa ag ah ai) (Tree.at_ (Tree.mk n1 s2 b3 l4 u5) q)).length)) ++ (W (Fld.mk ab ac ae af aa ag ah ai) (Tree.at_ (Tree.mk n1 s2 b3 l4 u5) q))).length) aJ)),(11,.v (.int .i64 (IntKind.i64.wrap (((qaF W l (Tree.mk n1 s2 b3 l4 u5) k2 + cn:Nat):Int) + 1)))),(14,.v (.int .i64 ((k2:Nat):Int))),(51,.v (.int .i64 (((qao l).toNat:Nat):Int))),(52,.v (.int .i64 ((k2:Nat):Int))),(55,.v (.slice A l.length c)),(56,.v (.int .i64 ((l.length:Nat):Int))),(57,.v (.int .i64 ((q:Nat):Int)))] b8 gT fun nP gU=>?_
     refine qad ?_
     refine qaz ?_
     refine qaa ?_
     refine qap [0,1] kz ?_
     refine qaj [0,1] [] [(0,.v (.slice A l.length c)),(1,.v (.int .i64 v)),(2,.v (.bool flex)),(7,.p 0 0),(9,.v (.slice A_ ((qaD W l v (Tree.mk n1 s2 b3 l4 u5) 0).length) c_)),(10,.v (.slice aI ((qav W l (Tree.mk n1 s2 b3 l4 u5) k2 ++ dm ++ (uv k2) ++ (uv ((W (Fld.mk ab ac ae af aa ag ah ai) (Tree.at_ (Tree.mk n1 s2 b3 l4 u5) q)).length)) ++ (W (Fld.mk ab ac ae af aa ag ah ai) (Tree.at_ (Tree.mk n1 s2 b3 l4 u5) q))).length) aJ)),(11,.v (.int .i64 (IntKind.i64.wrap (((qaF W l (Tree.mk n1 s2 b3 l4 u5) k2 + cn:Nat):Int) + 1)))),(14,.v (.int .i64 ((k2:Nat):Int))),(51,.v (.int .i64 (((qao l).toNat:Nat):Int))),(52,.v (.int .i64 ((k2:Nat):Int))),(55,.v (.slice A l.length c)),(56,.v (.int .i64 ((l.length:Nat):Int))),(57,.v (.int .i64 (IntKind.i64.wrap (((q:Nat):Int) + 1))))] b8 gU fun nQ gV=>?_
     refine qad (qaa ?_)
     obtain ⟨cd,gW,gX⟩:=b8.cutB gV 1 [⟨cC,0,[.int .i64 n1,.slice A6 s2.length c7,.bool b3,.slice A8 l4.length c9,.slice aU u5.length aV],true⟩] [(0,.v (.slice A l.length c)),(1,.v (.int .i64 v)),(2,.v (.bool flex)),(7,.p 0 0),(9,.v (.slice A_ ((qaD W l v (Tree.mk n1 s2 b3 l4 u5) 0).length) c_)),(10,.v (.slice aI ((qav W l (Tree.mk n1 s2 b3 l4 u5) k2 ++ dm ++ (uv k2) ++ (uv ((W (Fld.mk ab ac ae af aa ag ah ai) (Tree.at_ (Tree.mk n1 s2 b3 l4 u5) q)).length)) ++ (W (Fld.mk ab ac ae af aa ag ah ai) (Tree.at_ (Tree.mk n1 s2 b3 l4 u5) q))).length) aJ)),(11,.v (.int .i64 (IntKind.i64.wrap (((qaF W l (Tree.mk n1 s2 b3 l4 u5) k2 + cn:Nat):Int) + 1)))),(14,.v (.int .i64 ((k2:Nat):Int))),(51,.v (.int .i64 (((qao l).toNat:Nat):Int))),(52,.v (.int .i64 ((k2:Nat):Int))),(55,.v (.slice A l.length c)),(56,.v (.int .i64 ((l.length:Nat):Int))),(57,.v (.int .i64 (IntKind.i64.wrap (((q:Nat):Int) + 1))))]
     obtain ⟨gY,gZ⟩:=gW.cutR 2 [brow A_ c_ 5 (qaD W l v (Tree.mk n1 s2 b3 l4 u5) 0),brow aI aJ 5 (qav W l (Tree.mk n1 s2 b3 l4 u5) k2 ++ dm ++ (uv k2) ++ (uv ((W (Fld.mk ab ac ae af aa ag ah ai) (Tree.at_ (Tree.mk n1 s2 b3 l4 u5) q)).length)) ++ (W (Fld.mk ab ac ae af aa ag ah ai) (Tree.at_ (Tree.mk n1 s2 b3 l4 u5) q)))]
     have dY:(qav W l (Tree.mk n1 s2 b3 l4 u5) k2 ++ dm ++ (uv k2) ++ (uv ((W (Fld.mk ab ac ae af aa ag ah ai) (Tree.at_ (Tree.mk n1 s2 b3 l4 u5) q)).length)) ++ (W (Fld.mk ab ac ae af aa ag ah ai) (Tree.at_ (Tree.mk n1 s2 b3 l4 u5) q))) = (qav W l (Tree.mk n1 s2 b3 l4 u5) k2 ++ (dm ++ (uv k2 ++ uv (W (Fld.mk ab ac ae af aa ag ah ai) (Tree.at_ (Tree.mk n1 s2 b3 l4 u5) q)).length ++ W (Fld.mk ab ac ae af aa ag ah ai) (Tree.at_ (Tree.mk n1 s2 b3 l4 u5) q)))):=by simp only [List.append_assoc]
     have hC:=congrArg (brow aI aJ 5) dY
     obtain ⟨hJ,hK⟩:=gY.rowEq 1 [brow A_ c_ 5 (qaD W l v (Tree.mk n1 s2 b3 l4 u5) 0),brow aI aJ 5 (qav W l (Tree.mk n1 s2 b3 l4 u5) k2 ++ (dm ++ (uv k2 ++ uv (W (Fld.mk ab ac ae af aa ag ah ai) (Tree.at_ (Tree.mk n1 s2 b3 l4 u5) q)).length ++ W (Fld.mk ab ac ae af aa ag ah ai) (Tree.at_ (Tree.mk n1 s2 b3 l4 u5) q))))] hC
     rw [dY] at cd
     have hY:IntKind.i64.wrap (((q:Nat):Int) + 1) = ((q + 1:Nat):Int):=qaV (by omega)
     rw [hY] at cd
     have hZ:IntKind.i64.wrap (((qaF W l (Tree.mk n1 s2 b3 l4 u5) k2 + cn:Nat):Int) + 1) = ((qaF W l (Tree.mk n1 s2 b3 l4 u5) k2 + (cn + 1):Nat):Int):=by rw [wrap_i64 (by omega) (by omega)]; omega
     rw [hZ] at cd
     exact ⟨l.length - (q + 1),by omega,q + 1,aI,aJ,(dm ++ (uv k2 ++ uv (W (Fld.mk ab ac ae af aa ag ah ai) (Tree.at_ (Tree.mk n1 s2 b3 l4 u5) q)).length ++ W (Fld.mk ab ac ae af aa ag ah ai) (Tree.at_ (Tree.mk n1 s2 b3 l4 u5) q))),(cn + 1),rfl,by omega,by rw [List.append_assoc,← qdB ap (by omega) (by simpa using ay)]; exact hB2,by rw [Nat.add_assoc,← qjZ ap (by omega) (by simpa using ay)]; exact hN2,cd.pk,hJ,(((((((((((((((((((bT.trans cS).trans cT).trans cU).trans bV).trans cY).trans fW).trans dc).trans dW).trans gl).trans gm).trans gt).trans gD).trans gE).trans gI).trans gM).trans gQ).trans gX).trans gZ).trans hK)⟩
    refine wp_skip ?_
    refine qaz ?_
    refine qaa ?_
    refine qap [0,1] kz ?_
    refine qaj [0,1] [] [(0,.v (.slice A l.length c)),(1,.v (.int .i64 v)),(2,.v (.bool flex)),(7,.p 0 0),(9,.v (.slice A_ ((qaD W l v (Tree.mk n1 s2 b3 l4 u5) 0).length) c_)),(10,.v (.slice A3_ ((qav W l (Tree.mk n1 s2 b3 l4 u5) k2 ++ dm).length) c3_)),(11,.v (.int .i64 ((qaF W l (Tree.mk n1 s2 b3 l4 u5) k2 + cn:Nat):Int))),(14,.v (.int .i64 ((k2:Nat):Int))),(51,.v (.int .i64 (((qao l).toNat:Nat):Int))),(52,.v (.int .i64 ((k2:Nat):Int))),(55,.v (.slice A l.length c)),(56,.v (.int .i64 ((l.length:Nat):Int))),(57,.v (.int .i64 (IntKind.i64.wrap (((q:Nat):Int) + 1))))] bW cZ fun nR ia=>?_
    refine qad (qaa ?_)
    obtain ⟨dZ,ib,ic⟩:=bW.cutB ia 1 [⟨cC,0,[.int .i64 n1,.slice A6 s2.length c7,.bool b3,.slice A8 l4.length c9,.slice aU u5.length aV],true⟩] [(0,.v (.slice A l.length c)),(1,.v (.int .i64 v)),(2,.v (.bool flex)),(7,.p 0 0),(9,.v (.slice A_ ((qaD W l v (Tree.mk n1 s2 b3 l4 u5) 0).length) c_)),(10,.v (.slice A3_ ((qav W l (Tree.mk n1 s2 b3 l4 u5) k2 ++ dm).length) c3_)),(11,.v (.int .i64 ((qaF W l (Tree.mk n1 s2 b3 l4 u5) k2 + cn:Nat):Int))),(14,.v (.int .i64 ((k2:Nat):Int))),(51,.v (.int .i64 (((qao l).toNat:Nat):Int))),(52,.v (.int .i64 ((k2:Nat):Int))),(55,.v (.slice A l.length c)),(56,.v (.int .i64 ((l.length:Nat):Int))),(57,.v (.int .i64 (IntKind.i64.wrap (((q:Nat):Int) + 1))))]
    have ig:IntKind.i64.wrap (((q:Nat):Int) + 1) = ((q + 1:Nat):Int):=qaV (by omega)
    rw [ig] at dZ
    exact ⟨l.length - (q + 1),by omega,q + 1,A3_,c3_,dm,cn,rfl,by omega,by rw [← qiT ap (by simpa using ay)]; exact hB2,by rw [← qiV ap (by simpa using ay)]; exact hN2,dZ.pk,ib,((((((bT.trans cS).trans cT).trans cU).trans bV).trans cY).trans ic)⟩
   have lD:aa ≠ ((k2:Nat):Int):=by simpa using bp
   have ii:=dT.cast (env':=[(0,.v (.slice A l.length c)),(1,.v (.int .i64 v)),(2,.v (.bool flex)),(7,.p 0 0),(9,.v (.slice A_ ((qaD W l v (Tree.mk n1 s2 b3 l4 u5) 0).length) c_)),(10,.v (.slice A3_ ((qav W l (Tree.mk n1 s2 b3 l4 u5) k2 ++ dm).length) c3_)),(11,.v (.int .i64 ((qaF W l (Tree.mk n1 s2 b3 l4 u5) k2 + cn:Nat):Int))),(14,.v (.int .i64 ((k2:Nat):Int))),(15,.v (.int .i64 ((q:Nat):Int))),(16,.p 1 0),(51,.v (.int .i64 (((qao l).toNat:Nat):Int))),(52,.v (.int .i64 ((k2:Nat):Int))),(55,.v (.slice A l.length c)),(56,.v (.int .i64 ((l.length:Nat):Int))),(57,.v (.int .i64 ((q:Nat):Int))),(66,.v (.bool false))]) (by rw [bp])
   refine qa4 [5,6,7,8,9,10,11] [(0,.v (.slice A l.length c)),(1,.v (.int .i64 v)),(2,.v (.bool flex)),(7,.p 0 0),(9,.v (.slice A_ ((qaD W l v (Tree.mk n1 s2 b3 l4 u5) 0).length) c_)),(10,.v (.slice A3_ ((qav W l (Tree.mk n1 s2 b3 l4 u5) k2 ++ dm).length) c3_)),(11,.v (.int .i64 ((qaF W l (Tree.mk n1 s2 b3 l4 u5) k2 + cn:Nat):Int))),(14,.v (.int .i64 ((k2:Nat):Int))),(15,.v (.int .i64 ((q:Nat):Int))),(16,.p 1 0),(51,.v (.int .i64 (((qao l).toNat:Nat):Int))),(52,.v (.int .i64 ((k2:Nat):Int))),(55,.v (.slice A l.length c)),(56,.v (.int .i64 ((l.length:Nat):Int))),(57,.v (.int .i64 ((q:Nat):Int))),(73,.v (.bool false))] 0 (qab (qae (qab (qab (qae (qae (qab (qab (qae (qab qah)))))))))) (fun _ h=>h.cells) cV ii fun nS d5=>?_
   refine qa3 kz ?_ _
   refine qaa ?_
   refine qaq d5 (b:=false) kz rfl ?_
   refine wp_skip ?_
   refine qaz ?_
   refine qaa ?_
   refine qap [0,1] kz ?_
   refine qaj [0,1] [] [(0,.v (.slice A l.length c)),(1,.v (.int .i64 v)),(2,.v (.bool flex)),(7,.p 0 0),(9,.v (.slice A_ ((qaD W l v (Tree.mk n1 s2 b3 l4 u5) 0).length) c_)),(10,.v (.slice A3_ ((qav W l (Tree.mk n1 s2 b3 l4 u5) k2 ++ dm).length) c3_)),(11,.v (.int .i64 ((qaF W l (Tree.mk n1 s2 b3 l4 u5) k2 + cn:Nat):Int))),(14,.v (.int .i64 ((k2:Nat):Int))),(51,.v (.int .i64 (((qao l).toNat:Nat):Int))),(52,.v (.int .i64 ((k2:Nat):Int))),(55,.v (.slice A l.length c)),(56,.v (.int .i64 ((l.length:Nat):Int))),(57,.v (.int .i64 (IntKind.i64.wrap (((q:Nat):Int) + 1))))] aN d5 fun nT ij=>?_
   refine qad (qaa ?_)
   obtain ⟨d6,ik,il⟩:=aN.cutB ij 1 [⟨cC,0,[.int .i64 n1,.slice A6 s2.length c7,.bool b3,.slice A8 l4.length c9,.slice aU u5.length aV],true⟩] [(0,.v (.slice A l.length c)),(1,.v (.int .i64 v)),(2,.v (.bool flex)),(7,.p 0 0),(9,.v (.slice A_ ((qaD W l v (Tree.mk n1 s2 b3 l4 u5) 0).length) c_)),(10,.v (.slice A3_ ((qav W l (Tree.mk n1 s2 b3 l4 u5) k2 ++ dm).length) c3_)),(11,.v (.int .i64 ((qaF W l (Tree.mk n1 s2 b3 l4 u5) k2 + cn:Nat):Int))),(14,.v (.int .i64 ((k2:Nat):Int))),(51,.v (.int .i64 (((qao l).toNat:Nat):Int))),(52,.v (.int .i64 ((k2:Nat):Int))),(55,.v (.slice A l.length c)),(56,.v (.int .i64 ((l.length:Nat):Int))),(57,.v (.int .i64 (IntKind.i64.wrap (((q:Nat):Int) + 1))))]
   have im:IntKind.i64.wrap (((q:Nat):Int) + 1) = ((q + 1:Nat):Int):=qaV (by omega)
   rw [im] at d6
   exact ⟨l.length - (q + 1),by omega,q + 1,A3_,c3_,dm,cn,rfl,by omega,by rw [← qiS ap (by omega)]; exact hB2,by rw [← qiU ap (by omega)]; exact hN2,d6.pk,ik,((((bT.trans cS).trans cT).trans cU).trans il)⟩
  have lE:=of_decide_eq_false cP
  refine wp_exit ?_
  refine qay ?_
  refine qay ?_
  refine qaM ?_
  refine qaz ?_
  refine qaa ?_
  refine qap [0,1] kz ?_
  refine qaj [0,1] [] [(0,.v (.slice A l.length c)),(1,.v (.int .i64 v)),(2,.v (.bool flex)),(7,.p 0 0),(9,.v (.slice A_ ((qaD W l v (Tree.mk n1 s2 b3 l4 u5) 0).length) c_)),(10,.v (.slice A3_ ((qav W l (Tree.mk n1 s2 b3 l4 u5) k2 ++ dm).length) c3_)),(11,.v (.int .i64 ((qaF W l (Tree.mk n1 s2 b3 l4 u5) k2 + cn:Nat):Int))),(51,.v (.int .i64 (((qao l).toNat:Nat):Int))),(52,.v (.int .i64 (IntKind.i64.wrap (((k2:Nat):Int) + 1))))] aY cO fun nU ce=>?_
  refine qad (qaa ?_)
  have d7:(qav W l (Tree.mk n1 s2 b3 l4 u5) k2 ++ dm) = (qav W l (Tree.mk n1 s2 b3 l4 u5) (k2 + 1)):=by rw [qav,← hB2,qjY (by omega),List.append_nil]
  have io:=congrArg (brow A3_ c3_ 5) d7
  obtain ⟨ip,iq⟩:=aY.rowEq 1 [brow A_ c_ 5 (qaD W l v (Tree.mk n1 s2 b3 l4 u5) 0),brow A3_ c3_ 5 (qav W l (Tree.mk n1 s2 b3 l4 u5) (k2 + 1))] io
  rw [d7] at ce
  have ir:IntKind.i64.wrap (((k2:Nat):Int) + 1) = ((k2 + 1:Nat):Int):=qaV (by omega)
  rw [ir] at ce
  have iu:((qaF W l (Tree.mk n1 s2 b3 l4 u5) k2 + cn:Nat):Int) = ((qaF W l (Tree.mk n1 s2 b3 l4 u5) (k2 + 1):Nat):Int):=by rw [qaF,← hN2,qj0 (by omega),Nat.add_zero]
  rw [iu] at ce
  exact ⟨(qao l).toNat - (k2 + 1),by omega,k2 + 1,A3_,c3_,rfl,by omega,ce.pk,ip,(((fD.trans fG).trans bT).trans iq)⟩
 have lF:=of_decide_eq_false cN
 refine wp_exit ?_
 refine qay ?_
 refine qay ?_
 refine qaM ?_
 refine qaa ?_
 refine wp_seq ?_
 refine qac [0,1,2,3,4,5] kz ?_
 refine qaj [0,1,2] [3,4,5] [(9,.v (.slice A_ ((qaD W l v (Tree.mk n1 s2 b3 l4 u5) 0).length) c_)),(10,.v (.slice A2_ ((qav W l (Tree.mk n1 s2 b3 l4 u5) k2).length) c2_)),(11,.v (.int .i64 ((qaF W l (Tree.mk n1 s2 b3 l4 u5) k2:Nat):Int))),(97,.v (.slice A l.length c)),(99,.v (.slice aU u5.length aV))] ao cM fun nV iv=>?_
 refine qak (qal iv (f:=39) (vs:=[.slice A l.length c,.slice aU u5.length aV]) (d:=100) kz Tryz.call39 (qhE _ _ l _ _ u5 _ _ ⟨xfs,(h1.move ao.step nilM ao.imm),(fun i_ x_ h_=>((h2 i_ x_ h_).move ao.step nilM ao.imm))⟩ (lX.move ao.step nilM ao.imm)) ?_)
 rintro e_ nW ⟨al,am,rfl,iw,dg⟩
 have ix:=iw.move (Step.refl _ Nil) nilM (ao.laid (G:=F) dg)
 refine ⟨_,rfl,fun nX iy=>?_⟩
 have d8:=ao.next_nil dg
 have lG:=ao.frN dg
 refine qaj [4,5] [] [(9,.v (.slice A_ ((qaD W l v (Tree.mk n1 s2 b3 l4 u5) 0).length) c_)),(10,.v (.slice A2_ ((qav W l (Tree.mk n1 s2 b3 l4 u5) k2).length) c2_)),(11,.v (.int .i64 ((qaF W l (Tree.mk n1 s2 b3 l4 u5) k2:Nat):Int))),(100,.v (.slice al ((qag l u5).length) am)),(101,.v (.int .i64 (((qag l u5).length:Nat):Int))),(102,.v (.int .i64 0))] d8 iy fun nY d9=>?_
 refine qad (qaa ?_)
 refine wp_block ?_
 obtain ⟨lH,iz,kW⟩:=ix.ex
 have kX:=iz.small
 have hkk2:k2 = (qao l).toNat:=by omega
 have hc2:=hcnt k2
 have hm2:=hmono k2 (by omega)
 have ea:(qav W l (Tree.mk n1 s2 b3 l4 u5) k2) = (qav W l (Tree.mk n1 s2 b3 l4 u5) k2 ++ qaS ((qag l u5).take 0)):=(List.append_nil _).symm
 have iA:=congrArg (brow A2_ c2_ 5) ea
 obtain ⟨eb,aM⟩:=d8.rowEq 1 [brow A_ c_ 5 (qaD W l v (Tree.mk n1 s2 b3 l4 u5) 0),brow A2_ c2_ 5 (qav W l (Tree.mk n1 s2 b3 l4 u5) k2 ++ qaS ((qag l u5).take 0))] iA
 rw [ea] at d9
 refine wp_loop_ghost (fun n_ a_ w_=>∃ (k:Nat) (A4_:Option Addr) (c4_:Nat),n_ = (qag l u5).length - k ∧ k ≤ (qag l u5).length ∧ LInv eb 132 [⟨cC,0,[.int .i64 n1,.slice A6 s2.length c7,.bool b3,.slice A8 l4.length c9,.slice aU u5.length aV],true⟩] [brow A_ c_ 5 (qaD W l v (Tree.mk n1 s2 b3 l4 u5) 0),brow A4_ c4_ 5 (qav W l (Tree.mk n1 s2 b3 l4 u5) k2 ++ qaS ((qag l u5).take k))] [(9,.v (.slice A_ ((qaD W l v (Tree.mk n1 s2 b3 l4 u5) 0).length) c_)),(10,.v (.slice A4_ ((qav W l (Tree.mk n1 s2 b3 l4 u5) k2 ++ qaS ((qag l u5).take k)).length) c4_)),(11,.v (.int .i64 ((qaF W l (Tree.mk n1 s2 b3 l4 u5) k2 + k:Nat):Int))),(100,.v (.slice al ((qag l u5).length) am)),(101,.v (.int .i64 (((qag l u5).length:Nat):Int))),(102,.v (.int .i64 ((k:Nat):Int)))] a_ w_) ((qag l u5).length) ⟨0,A2_,c2_,by omega,by omega,d9.pk,eb,Fr.refl _ _ _⟩ ?_
 rintro nZ n4 n5 ⟨k,A4_,c4_,lI,lJ,iB,cg,aH⟩
 refine qar [(9,.v (.slice A_ ((qaD W l v (Tree.mk n1 s2 b3 l4 u5) 0).length) c_)),(10,.v (.slice A4_ ((qav W l (Tree.mk n1 s2 b3 l4 u5) k2 ++ qaS ((qag l u5).take k)).length) c4_)),(11,.v (.int .i64 ((qaF W l (Tree.mk n1 s2 b3 l4 u5) k2 + k:Nat):Int))),(100,.v (.slice al ((qag l u5).length) am)),(101,.v (.int .i64 (((qag l u5).length:Nat):Int))),(102,.v (.int .i64 ((k:Nat):Int))),(103,.v (.bool (decide (((k:Nat):Int) < (((qag l u5).length:Nat):Int)))))] cg iB fun n8 dh=>?_
 refine wp_seq ?_
 refine qau dh (b:=decide (((k:Nat):Int) < (((qag l u5).length:Nat):Int))) kz (fun di=>?_) (fun di=>?_)
 ·
  have lK:=of_decide_eq_true di
  refine wp_skip ?_
  refine qaa ?_
  refine wp_seq ?_
  refine wp_block ?_
  refine qac [0,1,2,3] kz ?_
  obtain ⟨kY,kZ,iC,lL,dj⟩:=Slots.get iz (i:=k) (by omega)
  obtain ⟨⟨ak,aj⟩,bx⟩:∃ x,(qag l u5)[k]? = some x:=⟨_,List.getElem?_eq_getElem (by omega)⟩
  obtain ⟨⟨ar,au,eG,dl⟩,oa,od⟩:=kW k ak aj bx
  rw [eG] at dj
  refine qak (qat dh (t:=24) (A:=al) (m:=((qag l u5).length)) (q:=((k:Nat):Int)) (d:=104) kz (e:=57) (size:=2) (bytes:=32) kz iC rfl (by omega) fun oe iD=>?_)
  refine qak (qaC iD (t:=57) (b:=kY) (o:=kZ + k * 2) (d:=105) kz (cs:=[.int .u32 ak,.slice ar aj.length au]) (v:=.agg #[.int .u32 ak,.slice ar aj.length au]) kz (AtF.move dj (aM.trans aH).step immM (aM.trans aH).to').at_ fun og iE=>?_)
  refine qak (qaY cg iE (d:=19) (cs:=[.int .u32 0,.slice none 0 0]) kz fun oh ol om lM lN aQ iF iG=>?_)
  refine qak (qaH iF iG (oi:=1) (cs:=[.int .u32 ak,.slice ar aj.length au]) kz fun oq aR dp iH=>?_)
  refine qad (qaa ?_)
  refine qac [0,1,2,3] kz ?_
  refine qaj [0,1] [2,3] [(9,.v (.slice A_ ((qaD W l v (Tree.mk n1 s2 b3 l4 u5) 0).length) c_)),(10,.v (.slice A4_ ((qav W l (Tree.mk n1 s2 b3 l4 u5) k2 ++ qaS ((qag l u5).take k)).length) c4_)),(11,.v (.int .i64 ((qaF W l (Tree.mk n1 s2 b3 l4 u5) k2 + k:Nat):Int))),(19,.p 1 0),(100,.v (.slice al ((qag l u5).length) am)),(101,.v (.int .i64 (((qag l u5).length:Nat):Int))),(102,.v (.int .i64 ((k:Nat):Int))),(107,.v (.slice ar aj.length au))] dp iH fun ot iI=>?_
  have k5:=qa5 aj
  refine qak (qal iI (f:=40) (vs:=[.slice ar aj.length au]) (d:=108) kz Tryz.call40 (qji _ _ aj (dl.move (((aM.trans aH).trans aQ).trans aR).step immM (((aM.trans aH).trans aQ).trans aR).to').le _) ?_)
  rintro e_ ou ⟨rfl,ec⟩
  refine ⟨_,rfl,fun ov iJ=>?_⟩
  have dq:=dp.next_nil ec
  have bz:=dp.frN ec
  refine qaj [3] [] [(9,.v (.slice A_ ((qaD W l v (Tree.mk n1 s2 b3 l4 u5) 0).length) c_)),(10,.v (.slice A4_ ((qav W l (Tree.mk n1 s2 b3 l4 u5) k2 ++ qaS ((qag l u5).take k)).length) c4_)),(11,.v (.int .i64 ((qaF W l (Tree.mk n1 s2 b3 l4 u5) k2 + k:Nat):Int))),(19,.p 1 0),(20,.v (.slice ar ((qaw aj).length) au)),(100,.v (.slice al ((qag l u5).length) am)),(101,.v (.int .i64 (((qag l u5).length:Nat):Int))),(102,.v (.int .i64 ((k:Nat):Int)))] dq iJ fun ow iK=>?_
  refine qad (qaa ?_)
  refine qac [0,1,2,3,4,5,6,7,8,9,10,11,12,13] kz ?_
  refine qaj [0,1,2,3] [4,5,6,7,8,9,10,11,12,13] [(9,.v (.slice A_ ((qaD W l v (Tree.mk n1 s2 b3 l4 u5) 0).length) c_)),(11,.v (.int .i64 ((qaF W l (Tree.mk n1 s2 b3 l4 u5) k2 + k:Nat):Int))),(20,.v (.slice ar ((qaw aj).length) au)),(100,.v (.slice al ((qag l u5).length) am)),(101,.v (.int .i64 (((qag l u5).length:Nat):Int))),(102,.v (.int .i64 ((k:Nat):Int))),(109,.v (.slice A4_ ((qav W l (Tree.mk n1 s2 b3 l4 u5) k2 ++ qaS ((qag l u5).take k)).length) c4_)),(112,.v (.int .u64 (IntKind.u64.wrap ak)))] dq iK fun ox iL=>?_
  have iM:IntKind.u64.wrap ak = ((ak.toNat:Nat):Int):=by simp only [qcF,qan,qbv,IntKind.wrap_i64,IntKind.wrap_i32]; omega
  have iN:=EnvOk.pick iL (ks:=[9,11,20,100,101,102,109,112]) (env':=[(9,.v (.slice A_ ((qaD W l v (Tree.mk n1 s2 b3 l4 u5) 0).length) c_)),(11,.v (.int .i64 ((qaF W l (Tree.mk n1 s2 b3 l4 u5) k2 + k:Nat):Int))),(20,.v (.slice ar ((qaw aj).length) au)),(100,.v (.slice al ((qag l u5).length) am)),(101,.v (.int .i64 (((qag l u5).length:Nat):Int))),(102,.v (.int .i64 ((k:Nat):Int))),(109,.v (.slice A4_ ((qav W l (Tree.mk n1 s2 b3 l4 u5) k2 ++ qaS ((qag l u5).take k)).length) c4_)),(112,.v (.int .u64 (IntKind.u64.wrap ak)))]) kz
  have iO:=iN.cast (env':=[(9,.v (.slice A_ ((qaD W l v (Tree.mk n1 s2 b3 l4 u5) 0).length) c_)),(11,.v (.int .i64 ((qaF W l (Tree.mk n1 s2 b3 l4 u5) k2 + k:Nat):Int))),(20,.v (.slice ar ((qaw aj).length) au)),(100,.v (.slice al ((qag l u5).length) am)),(101,.v (.int .i64 (((qag l u5).length:Nat):Int))),(102,.v (.int .i64 ((k:Nat):Int))),(109,.v (.slice A4_ ((qav W l (Tree.mk n1 s2 b3 l4 u5) k2 ++ qaS ((qag l u5).take k)).length) c4_)),(112,.v (.int .u64 ((ak.toNat:Nat):Int)))]) (by rw [iM])
  refine qak (qal iO (f:=38) (vs:=[.int .u64 ((ak.toNat:Nat):Int)]) (d:=113) kz Tryz.call38 (qdE ak.toNat (by omega) _) ?_)
  rintro e_ oy ⟨bJ,bK,rfl,iP,iQ⟩
  refine ⟨_,rfl,fun oz iR=>?_⟩
  obtain ⟨dr,bA⟩:=dq.frFresh iQ (brow bJ bK 5 (uv ak.toNat)) (Nat.le_refl _) iP
  refine qak (qaP dr iR (k:=1) (d:=114) (t:=22) (e:=5) (size:=1) (bytes:=1) (A:=A4_) (As:=bJ) (m0:=((qav W l (Tree.mk n1 s2 b3 l4 u5) k2 ++ qaS ((qag l u5).take k)).length)) (c:=c4_) (m:=((uv ak.toNat).length)) (cs:=bK) (xs:=(bc (qav W l (Tree.mk n1 s2 b3 l4 u5) k2 ++ qaS ((qag l u5).take k)))) (news:=bc (uv ak.toNat)) kz kz rfl (qci (dr.own 2 _ rfl) (qcQ _)) (qcy (dr.own 2 _ rfl)) (by have h_:=qfR (l:=(qag l u5)) (k + 1); rw [qdC bx] at h_; simp only [List.length_append] at h_ ⊢; omega) fun aS aT oA oB bB iS iT=>?_)
  have iU:(⟨aS,aT,5,1,(qav W l (Tree.mk n1 s2 b3 l4 u5) k2 ++ qaS ((qag l u5).take k)).length + (uv ak.toNat).length,bc (qav W l (Tree.mk n1 s2 b3 l4 u5) k2 ++ qaS ((qag l u5).take k)) ++ bc (uv ak.toNat)⟩:Rw) = brow aS aT 5 (qav W l (Tree.mk n1 s2 b3 l4 u5) k2 ++ qaS ((qag l u5).take k) ++ (uv ak.toNat)):=qa8 (rfl) rfl
  obtain ⟨ee,bC⟩:=iS.rowEq 1 [brow A_ c_ 5 (qaD W l v (Tree.mk n1 s2 b3 l4 u5) 0),brow aS aT 5 (qav W l (Tree.mk n1 s2 b3 l4 u5) k2 ++ qaS ((qag l u5).take k) ++ (uv ak.toNat)),brow bJ bK 5 (uv ak.toNat)] iU
  have iV:=EnvOk.pick iT (ks:=[9,11,20,100,101,102,109,112,113,114]) (env':=[(9,.v (.slice A_ ((qaD W l v (Tree.mk n1 s2 b3 l4 u5) 0).length) c_)),(11,.v (.int .i64 ((qaF W l (Tree.mk n1 s2 b3 l4 u5) k2 + k:Nat):Int))),(20,.v (.slice ar ((qaw aj).length) au)),(100,.v (.slice al ((qag l u5).length) am)),(101,.v (.int .i64 (((qag l u5).length:Nat):Int))),(102,.v (.int .i64 ((k:Nat):Int))),(109,.v (.slice A4_ ((qav W l (Tree.mk n1 s2 b3 l4 u5) k2 ++ qaS ((qag l u5).take k)).length) c4_)),(112,.v (.int .u64 ((ak.toNat:Nat):Int))),(113,.v (.slice bJ ((uv ak.toNat).length) bK)),(114,.v (.slice aS ((qav W l (Tree.mk n1 s2 b3 l4 u5) k2 ++ qaS ((qag l u5).take k)).length + (uv ak.toNat).length) aT))]) kz
  have iW:=iV.cast (env':=[(9,.v (.slice A_ ((qaD W l v (Tree.mk n1 s2 b3 l4 u5) 0).length) c_)),(11,.v (.int .i64 ((qaF W l (Tree.mk n1 s2 b3 l4 u5) k2 + k:Nat):Int))),(20,.v (.slice ar ((qaw aj).length) au)),(100,.v (.slice al ((qag l u5).length) am)),(101,.v (.int .i64 (((qag l u5).length:Nat):Int))),(102,.v (.int .i64 ((k:Nat):Int))),(109,.v (.slice A4_ ((qav W l (Tree.mk n1 s2 b3 l4 u5) k2 ++ qaS ((qag l u5).take k)).length) c4_)),(112,.v (.int .u64 ((ak.toNat:Nat):Int))),(113,.v (.slice bJ ((uv ak.toNat).length) bK)),(114,.v (.slice aS ((qav W l (Tree.mk n1 s2 b3 l4 u5) k2 ++ qaS ((qag l u5).take k) ++ (uv ak.toNat)).length) aT))]) (by simp only [List.length_append,List.length_cons,List.length_nil,Nat.zero_add])
  refine qaj [6,7,8] [9,10,11,12,13] [(9,.v (.slice A_ ((qaD W l v (Tree.mk n1 s2 b3 l4 u5) 0).length) c_)),(11,.v (.int .i64 ((qaF W l (Tree.mk n1 s2 b3 l4 u5) k2 + k:Nat):Int))),(20,.v (.slice ar ((qaw aj).length) au)),(100,.v (.slice al ((qag l u5).length) am)),(101,.v (.int .i64 (((qag l u5).length:Nat):Int))),(102,.v (.int .i64 ((k:Nat):Int))),(114,.v (.slice aS ((qav W l (Tree.mk n1 s2 b3 l4 u5) k2 ++ qaS ((qag l u5).take k) ++ (uv ak.toNat)).length) aT)),(117,.v (.int .u64 (IntKind.u64.wrap (((qaw aj).length:Nat):Int))))] ee iW fun oC iX=>?_
  have iY:IntKind.u64.wrap (((qaw aj).length:Nat):Int) = (((qaw aj).length:Nat):Int):=by simp only [qcF,qan,qbv,IntKind.wrap_i64,IntKind.wrap_i32]; omega
  have iZ:=EnvOk.pick iX (ks:=[9,11,20,100,101,102,114,117]) (env':=[(9,.v (.slice A_ ((qaD W l v (Tree.mk n1 s2 b3 l4 u5) 0).length) c_)),(11,.v (.int .i64 ((qaF W l (Tree.mk n1 s2 b3 l4 u5) k2 + k:Nat):Int))),(20,.v (.slice ar ((qaw aj).length) au)),(100,.v (.slice al ((qag l u5).length) am)),(101,.v (.int .i64 (((qag l u5).length:Nat):Int))),(102,.v (.int .i64 ((k:Nat):Int))),(114,.v (.slice aS ((qav W l (Tree.mk n1 s2 b3 l4 u5) k2 ++ qaS ((qag l u5).take k) ++ (uv ak.toNat)).length) aT)),(117,.v (.int .u64 (IntKind.u64.wrap (((qaw aj).length:Nat):Int))))]) kz
  have i6:=iZ.cast (env':=[(9,.v (.slice A_ ((qaD W l v (Tree.mk n1 s2 b3 l4 u5) 0).length) c_)),(11,.v (.int .i64 ((qaF W l (Tree.mk n1 s2 b3 l4 u5) k2 + k:Nat):Int))),(20,.v (.slice ar ((qaw aj).length) au)),(100,.v (.slice al ((qag l u5).length) am)),(101,.v (.int .i64 (((qag l u5).length:Nat):Int))),(102,.v (.int .i64 ((k:Nat):Int))),(114,.v (.slice aS ((qav W l (Tree.mk n1 s2 b3 l4 u5) k2 ++ qaS ((qag l u5).take k) ++ (uv ak.toNat)).length) aT)),(117,.v (.int .u64 (((qaw aj).length:Nat):Int)))]) (by rw [iY])
  refine qak (qal i6 (f:=38) (vs:=[.int .u64 (((qaw aj).length:Nat):Int)]) (d:=118) kz Tryz.call38 (qdE ((qaw aj).length) (by omega) _) ?_)
  rintro e_ oD ⟨cy,cz,rfl,i7,ja⟩
  refine ⟨_,rfl,fun oE jb=>?_⟩
  obtain ⟨dt,bD⟩:=ee.frFresh ja (brow cy cz 5 (uv ((qaw aj).length))) (Nat.le_refl _) i7
  refine qak (qaP dt jb (k:=1) (d:=119) (t:=22) (e:=5) (size:=1) (bytes:=1) (A:=aS) (As:=cy) (m0:=((qav W l (Tree.mk n1 s2 b3 l4 u5) k2 ++ qaS ((qag l u5).take k) ++ (uv ak.toNat)).length)) (c:=aT) (m:=((uv ((qaw aj).length)).length)) (cs:=cz) (xs:=(bc (qav W l (Tree.mk n1 s2 b3 l4 u5) k2 ++ qaS ((qag l u5).take k) ++ (uv ak.toNat)))) (news:=bc (uv ((qaw aj).length))) kz kz rfl (qci (dt.own 3 _ rfl) (qcQ _)) (qcy (dt.own 3 _ rfl)) (by have h_:=qfR (l:=(qag l u5)) (k + 1); rw [qdC bx] at h_; simp only [List.length_append] at h_ ⊢; omega) fun bd bf oF oG bE jc jd=>?_)
  have je:(⟨bd,bf,5,1,(qav W l (Tree.mk n1 s2 b3 l4 u5) k2 ++ qaS ((qag l u5).take k) ++ (uv ak.toNat)).length + (uv ((qaw aj).length)).length,bc (qav W l (Tree.mk n1 s2 b3 l4 u5) k2 ++ qaS ((qag l u5).take k) ++ (uv ak.toNat)) ++ bc (uv ((qaw aj).length))⟩:Rw) = brow bd bf 5 (qav W l (Tree.mk n1 s2 b3 l4 u5) k2 ++ qaS ((qag l u5).take k) ++ (uv ak.toNat) ++ (uv ((qaw aj).length))):=qa8 (rfl) rfl
  obtain ⟨ef,bF⟩:=jc.rowEq 1 [brow A_ c_ 5 (qaD W l v (Tree.mk n1 s2 b3 l4 u5) 0),brow bd bf 5 (qav W l (Tree.mk n1 s2 b3 l4 u5) k2 ++ qaS ((qag l u5).take k) ++ (uv ak.toNat) ++ (uv ((qaw aj).length))),brow bJ bK 5 (uv ak.toNat),brow cy cz 5 (uv ((qaw aj).length))] je
  have jf:=EnvOk.pick jd (ks:=[9,11,20,100,101,102,114,117,118,119]) (env':=[(9,.v (.slice A_ ((qaD W l v (Tree.mk n1 s2 b3 l4 u5) 0).length) c_)),(11,.v (.int .i64 ((qaF W l (Tree.mk n1 s2 b3 l4 u5) k2 + k:Nat):Int))),(20,.v (.slice ar ((qaw aj).length) au)),(100,.v (.slice al ((qag l u5).length) am)),(101,.v (.int .i64 (((qag l u5).length:Nat):Int))),(102,.v (.int .i64 ((k:Nat):Int))),(114,.v (.slice aS ((qav W l (Tree.mk n1 s2 b3 l4 u5) k2 ++ qaS ((qag l u5).take k) ++ (uv ak.toNat)).length) aT)),(117,.v (.int .u64 (((qaw aj).length:Nat):Int))),(118,.v (.slice cy ((uv ((qaw aj).length)).length) cz)),(119,.v (.slice bd ((qav W l (Tree.mk n1 s2 b3 l4 u5) k2 ++ qaS ((qag l u5).take k) ++ (uv ak.toNat)).length + (uv ((qaw aj).length)).length) bf))]) kz
  have jg:=jf.cast (env':=[(9,.v (.slice A_ ((qaD W l v (Tree.mk n1 s2 b3 l4 u5) 0).length) c_)),(11,.v (.int .i64 ((qaF W l (Tree.mk n1 s2 b3 l4 u5) k2 + k:Nat):Int))),(20,.v (.slice ar ((qaw aj).length) au)),(100,.v (.slice al ((qag l u5).length) am)),(101,.v (.int .i64 (((qag l u5).length:Nat):Int))),(102,.v (.int .i64 ((k:Nat):Int))),(114,.v (.slice aS ((qav W l (Tree.mk n1 s2 b3 l4 u5) k2 ++ qaS ((qag l u5).take k) ++ (uv ak.toNat)).length) aT)),(117,.v (.int .u64 (((qaw aj).length:Nat):Int))),(118,.v (.slice cy ((uv ((qaw aj).length)).length) cz)),(119,.v (.slice bd ((qav W l (Tree.mk n1 s2 b3 l4 u5) k2 ++ qaS ((qag l u5).take k) ++ (uv ak.toNat) ++ (uv ((qaw aj).length))).length) bf))]) (by simp only [List.length_append,List.length_cons,List.length_nil,Nat.zero_add])
  refine qaj [11] [12,13] [(9,.v (.slice A_ ((qaD W l v (Tree.mk n1 s2 b3 l4 u5) 0).length) c_)),(11,.v (.int .i64 ((qaF W l (Tree.mk n1 s2 b3 l4 u5) k2 + k:Nat):Int))),(100,.v (.slice al ((qag l u5).length) am)),(101,.v (.int .i64 (((qag l u5).length:Nat):Int))),(102,.v (.int .i64 ((k:Nat):Int))),(119,.v (.slice bd ((qav W l (Tree.mk n1 s2 b3 l4 u5) k2 ++ qaS ((qag l u5).take k) ++ (uv ak.toNat) ++ (uv ((qaw aj).length))).length) bf)),(120,.v (.slice ar ((qaw aj).length) au))] ef jg fun oH jh=>?_
  refine qak (qaP ef jh (k:=1) (d:=121) (t:=22) (e:=5) (size:=1) (bytes:=1) (A:=bd) (As:=ar) (m0:=((qav W l (Tree.mk n1 s2 b3 l4 u5) k2 ++ qaS ((qag l u5).take k) ++ (uv ak.toNat) ++ (uv ((qaw aj).length))).length)) (c:=bf) (m:=((qaw aj).length)) (cs:=au) (xs:=(bc (qav W l (Tree.mk n1 s2 b3 l4 u5) k2 ++ qaS ((qag l u5).take k) ++ (uv ak.toNat) ++ (uv ((qaw aj).length))))) (news:=bc (qaw aj)) kz kz rfl ((dl.take 32767).move ((((((((((aM.trans aH).trans aQ).trans aR).trans bz).trans bA).trans bB).trans bC).trans bD).trans bE).trans bF).step immM ((((((((((aM.trans aH).trans aQ).trans aR).trans bz).trans bA).trans bB).trans bC).trans bD).trans bE).trans bF).to').src ((dl.take 32767).move ((((((((((aM.trans aH).trans aQ).trans aR).trans bz).trans bA).trans bB).trans bC).trans bD).trans bE).trans bF).step immM ((((((((((aM.trans aH).trans aQ).trans aR).trans bz).trans bA).trans bB).trans bC).trans bD).trans bE).trans bF).to').cap (by have h_:=qfR (l:=(qag l u5)) (k + 1); rw [qdC bx] at h_; simp only [List.length_append] at h_ ⊢; omega) fun aK aL oI oJ ji jj jk=>?_)
  have jl:(⟨aK,aL,5,1,(qav W l (Tree.mk n1 s2 b3 l4 u5) k2 ++ qaS ((qag l u5).take k) ++ (uv ak.toNat) ++ (uv ((qaw aj).length))).length + (qaw aj).length,bc (qav W l (Tree.mk n1 s2 b3 l4 u5) k2 ++ qaS ((qag l u5).take k) ++ (uv ak.toNat) ++ (uv ((qaw aj).length))) ++ bc (qaw aj)⟩:Rw) = brow aK aL 5 (qav W l (Tree.mk n1 s2 b3 l4 u5) k2 ++ qaS ((qag l u5).take k) ++ (uv ak.toNat) ++ (uv ((qaw aj).length)) ++ (qaw aj)):=qa8 (rfl) rfl
  obtain ⟨cm,jm⟩:=jj.rowEq 1 [brow A_ c_ 5 (qaD W l v (Tree.mk n1 s2 b3 l4 u5) 0),brow aK aL 5 (qav W l (Tree.mk n1 s2 b3 l4 u5) k2 ++ qaS ((qag l u5).take k) ++ (uv ak.toNat) ++ (uv ((qaw aj).length)) ++ (qaw aj)),brow bJ bK 5 (uv ak.toNat),brow cy cz 5 (uv ((qaw aj).length))] jl
  have jn:=EnvOk.pick jk (ks:=[9,11,100,101,102,119,120,121]) (env':=[(9,.v (.slice A_ ((qaD W l v (Tree.mk n1 s2 b3 l4 u5) 0).length) c_)),(11,.v (.int .i64 ((qaF W l (Tree.mk n1 s2 b3 l4 u5) k2 + k:Nat):Int))),(100,.v (.slice al ((qag l u5).length) am)),(101,.v (.int .i64 (((qag l u5).length:Nat):Int))),(102,.v (.int .i64 ((k:Nat):Int))),(119,.v (.slice bd ((qav W l (Tree.mk n1 s2 b3 l4 u5) k2 ++ qaS ((qag l u5).take k) ++ (uv ak.toNat) ++ (uv ((qaw aj).length))).length) bf)),(120,.v (.slice ar ((qaw aj).length) au)),(121,.v (.slice aK ((qav W l (Tree.mk n1 s2 b3 l4 u5) k2 ++ qaS ((qag l u5).take k) ++ (uv ak.toNat) ++ (uv ((qaw aj).length))).length + (qaw aj).length) aL))]) kz
  have jo:=jn.cast (env':=[(9,.v (.slice A_ ((qaD W l v (Tree.mk n1 s2 b3 l4 u5) 0).length) c_)),(11,.v (.int .i64 ((qaF W l (Tree.mk n1 s2 b3 l4 u5) k2 + k:Nat):Int))),(100,.v (.slice al ((qag l u5).length) am)),(101,.v (.int .i64 (((qag l u5).length:Nat):Int))),(102,.v (.int .i64 ((k:Nat):Int))),(119,.v (.slice bd ((qav W l (Tree.mk n1 s2 b3 l4 u5) k2 ++ qaS ((qag l u5).take k) ++ (uv ak.toNat) ++ (uv ((qaw aj).length))).length) bf)),(120,.v (.slice ar ((qaw aj).length) au)),(121,.v (.slice aK ((qav W l (Tree.mk n1 s2 b3 l4 u5) k2 ++ qaS ((qag l u5).take k) ++ (uv ak.toNat) ++ (uv ((qaw aj).length)) ++ (qaw aj)).length) aL))]) (by simp only [List.length_append,List.length_cons,List.length_nil,Nat.zero_add])
  refine qaj [13] [] [(9,.v (.slice A_ ((qaD W l v (Tree.mk n1 s2 b3 l4 u5) 0).length) c_)),(10,.v (.slice aK ((qav W l (Tree.mk n1 s2 b3 l4 u5) k2 ++ qaS ((qag l u5).take k) ++ (uv ak.toNat) ++ (uv ((qaw aj).length)) ++ (qaw aj)).length) aL)),(11,.v (.int .i64 ((qaF W l (Tree.mk n1 s2 b3 l4 u5) k2 + k:Nat):Int))),(100,.v (.slice al ((qag l u5).length) am)),(101,.v (.int .i64 (((qag l u5).length:Nat):Int))),(102,.v (.int .i64 ((k:Nat):Int)))] cm jo fun oK jp=>?_
  refine qad (qaa ?_)
  refine qap [0,1,2] kz ?_
  refine qaj [0,1,2] [] [(9,.v (.slice A_ ((qaD W l v (Tree.mk n1 s2 b3 l4 u5) 0).length) c_)),(10,.v (.slice aK ((qav W l (Tree.mk n1 s2 b3 l4 u5) k2 ++ qaS ((qag l u5).take k) ++ (uv ak.toNat) ++ (uv ((qaw aj).length)) ++ (qaw aj)).length) aL)),(11,.v (.int .i64 (IntKind.i64.wrap (((qaF W l (Tree.mk n1 s2 b3 l4 u5) k2 + k:Nat):Int) + 1)))),(100,.v (.slice al ((qag l u5).length) am)),(101,.v (.int .i64 (((qag l u5).length:Nat):Int))),(102,.v (.int .i64 ((k:Nat):Int)))] cm jp fun oL jq=>?_
  refine qad ?_
  refine qaz ?_
  refine qaa ?_
  refine qap [0,1] kz ?_
  refine qaj [0,1] [] [(9,.v (.slice A_ ((qaD W l v (Tree.mk n1 s2 b3 l4 u5) 0).length) c_)),(10,.v (.slice aK ((qav W l (Tree.mk n1 s2 b3 l4 u5) k2 ++ qaS ((qag l u5).take k) ++ (uv ak.toNat) ++ (uv ((qaw aj).length)) ++ (qaw aj)).length) aL)),(11,.v (.int .i64 (IntKind.i64.wrap (((qaF W l (Tree.mk n1 s2 b3 l4 u5) k2 + k:Nat):Int) + 1)))),(100,.v (.slice al ((qag l u5).length) am)),(101,.v (.int .i64 (((qag l u5).length:Nat):Int))),(102,.v (.int .i64 (IntKind.i64.wrap (((k:Nat):Int) + 1))))] cm jq fun oM jr=>?_
  refine qad (qaa ?_)
  obtain ⟨cq,js,jt⟩:=cm.cutB jr 1 [⟨cC,0,[.int .i64 n1,.slice A6 s2.length c7,.bool b3,.slice A8 l4.length c9,.slice aU u5.length aV],true⟩] [(9,.v (.slice A_ ((qaD W l v (Tree.mk n1 s2 b3 l4 u5) 0).length) c_)),(10,.v (.slice aK ((qav W l (Tree.mk n1 s2 b3 l4 u5) k2 ++ qaS ((qag l u5).take k) ++ (uv ak.toNat) ++ (uv ((qaw aj).length)) ++ (qaw aj)).length) aL)),(11,.v (.int .i64 (IntKind.i64.wrap (((qaF W l (Tree.mk n1 s2 b3 l4 u5) k2 + k:Nat):Int) + 1)))),(100,.v (.slice al ((qag l u5).length) am)),(101,.v (.int .i64 (((qag l u5).length:Nat):Int))),(102,.v (.int .i64 (IntKind.i64.wrap (((k:Nat):Int) + 1))))]
  obtain ⟨ju,jv⟩:=js.cutR 2 [brow A_ c_ 5 (qaD W l v (Tree.mk n1 s2 b3 l4 u5) 0),brow aK aL 5 (qav W l (Tree.mk n1 s2 b3 l4 u5) k2 ++ qaS ((qag l u5).take k) ++ (uv ak.toNat) ++ (uv ((qaw aj).length)) ++ (qaw aj))]
  have eg:(qav W l (Tree.mk n1 s2 b3 l4 u5) k2 ++ qaS ((qag l u5).take k) ++ (uv ak.toNat) ++ (uv ((qaw aj).length)) ++ (qaw aj)) = (qav W l (Tree.mk n1 s2 b3 l4 u5) k2 ++ qaS ((qag l u5).take (k + 1))):=by rw [qdC bx]; simp only [List.append_assoc]
  have jw:=congrArg (brow aK aL 5) eg
  obtain ⟨jx,jy⟩:=ju.rowEq 1 [brow A_ c_ 5 (qaD W l v (Tree.mk n1 s2 b3 l4 u5) 0),brow aK aL 5 (qav W l (Tree.mk n1 s2 b3 l4 u5) k2 ++ qaS ((qag l u5).take (k + 1)))] jw
  rw [eg] at cq
  have jz:IntKind.i64.wrap (((k:Nat):Int) + 1) = ((k + 1:Nat):Int):=qaV (by omega)
  rw [jz] at cq
  have jA:IntKind.i64.wrap (((qaF W l (Tree.mk n1 s2 b3 l4 u5) k2 + k:Nat):Int) + 1) = ((qaF W l (Tree.mk n1 s2 b3 l4 u5) k2 + (k + 1):Nat):Int):=by rw [wrap_i64 (by omega) (by omega)]; omega
  rw [jA] at cq
  exact ⟨(qag l u5).length - (k + 1),by omega,k + 1,aK,aL,rfl,by omega,cq.pk,jx,((((((((((((((aH.trans aQ).trans aR).trans bz).trans bA).trans bB).trans bC).trans bD).trans bE).trans bF).trans ji).trans jm).trans jt).trans jv).trans jy)⟩
 have lO:=of_decide_eq_false di
 refine wp_exit ?_
 refine qay ?_
 refine qay ?_
 refine qaM ?_
 refine qaa ?_
 refine qac [0,1,2,3,4,5,6,7] kz ?_
 refine qaj [0,1,2] [3,4,5,6,7] [(10,.v (.slice A4_ ((qav W l (Tree.mk n1 s2 b3 l4 u5) k2 ++ qaS ((qag l u5).take k)).length) c4_)),(125,.v (.slice A_ ((qaD W l v (Tree.mk n1 s2 b3 l4 u5) 0).length) c_)),(127,.v (.int .u64 (IntKind.u64.wrap ((qaF W l (Tree.mk n1 s2 b3 l4 u5) k2 + k:Nat):Int))))] cg dh fun oN jB=>?_
 have jC:IntKind.u64.wrap ((qaF W l (Tree.mk n1 s2 b3 l4 u5) k2 + k:Nat):Int) = ((qaF W l (Tree.mk n1 s2 b3 l4 u5) k2 + k:Nat):Int):=by simp only [qcF,qan,qbv,IntKind.wrap_i64,IntKind.wrap_i32]; omega
 have jD:=EnvOk.pick jB (ks:=[10,125,127]) (env':=[(10,.v (.slice A4_ ((qav W l (Tree.mk n1 s2 b3 l4 u5) k2 ++ qaS ((qag l u5).take k)).length) c4_)),(125,.v (.slice A_ ((qaD W l v (Tree.mk n1 s2 b3 l4 u5) 0).length) c_)),(127,.v (.int .u64 (IntKind.u64.wrap ((qaF W l (Tree.mk n1 s2 b3 l4 u5) k2 + k:Nat):Int))))]) kz
 have jE:=jD.cast (env':=[(10,.v (.slice A4_ ((qav W l (Tree.mk n1 s2 b3 l4 u5) k2 ++ qaS ((qag l u5).take k)).length) c4_)),(125,.v (.slice A_ ((qaD W l v (Tree.mk n1 s2 b3 l4 u5) 0).length) c_)),(127,.v (.int .u64 ((qaF W l (Tree.mk n1 s2 b3 l4 u5) k2 + k:Nat):Int)))]) (by rw [jC])
 refine qak (qal jE (f:=38) (vs:=[.int .u64 ((qaF W l (Tree.mk n1 s2 b3 l4 u5) k2 + k:Nat):Int)]) (d:=128) kz Tryz.call38 (qdE (qaF W l (Tree.mk n1 s2 b3 l4 u5) k2 + k) (by omega) _) ?_)
 rintro e_ oO ⟨cA,cB,rfl,jF,jG⟩
 refine ⟨_,rfl,fun oP jH=>?_⟩
 obtain ⟨du,lP⟩:=cg.frFresh jG (brow cA cB 5 (uv (qaF W l (Tree.mk n1 s2 b3 l4 u5) k2 + k))) (Nat.le_refl _) jF
 refine qak (qaP du jH (k:=0) (d:=129) (t:=22) (e:=5) (size:=1) (bytes:=1) (A:=A_) (As:=cA) (m0:=((qaD W l v (Tree.mk n1 s2 b3 l4 u5) 0).length)) (c:=c_) (m:=((uv (qaF W l (Tree.mk n1 s2 b3 l4 u5) k2 + k)).length)) (cs:=cB) (xs:=(bc (qaD W l v (Tree.mk n1 s2 b3 l4 u5) 0))) (news:=bc (uv (qaF W l (Tree.mk n1 s2 b3 l4 u5) k2 + k))) kz kz rfl (qci (du.own 2 _ rfl) (qcQ _)) (qcy (du.own 2 _ rfl)) (by have hkk3:k = (qag l u5).length:=(by omega); subst hkk3; subst hkk2; simp only [List.length_append,List.take_length] at *; omega) fun bg bh oQ oR lQ jI jJ=>?_)
 have jK:(⟨bg,bh,5,1,(qaD W l v (Tree.mk n1 s2 b3 l4 u5) 0).length + (uv (qaF W l (Tree.mk n1 s2 b3 l4 u5) k2 + k)).length,bc (qaD W l v (Tree.mk n1 s2 b3 l4 u5) 0) ++ bc (uv (qaF W l (Tree.mk n1 s2 b3 l4 u5) k2 + k))⟩:Rw) = brow bg bh 5 (qaD W l v (Tree.mk n1 s2 b3 l4 u5) 0 ++ (uv (qaF W l (Tree.mk n1 s2 b3 l4 u5) k2 + k))):=qa8 (rfl) rfl
 obtain ⟨cr,lR⟩:=jI.rowEq 0 [brow bg bh 5 (qaD W l v (Tree.mk n1 s2 b3 l4 u5) 0 ++ (uv (qaF W l (Tree.mk n1 s2 b3 l4 u5) k2 + k))),brow A4_ c4_ 5 (qav W l (Tree.mk n1 s2 b3 l4 u5) k2 ++ qaS ((qag l u5).take k)),brow cA cB 5 (uv (qaF W l (Tree.mk n1 s2 b3 l4 u5) k2 + k))] jK
 have jL:=EnvOk.pick jJ (ks:=[10,125,127,128,129]) (env':=[(10,.v (.slice A4_ ((qav W l (Tree.mk n1 s2 b3 l4 u5) k2 ++ qaS ((qag l u5).take k)).length) c4_)),(125,.v (.slice A_ ((qaD W l v (Tree.mk n1 s2 b3 l4 u5) 0).length) c_)),(127,.v (.int .u64 ((qaF W l (Tree.mk n1 s2 b3 l4 u5) k2 + k:Nat):Int))),(128,.v (.slice cA ((uv (qaF W l (Tree.mk n1 s2 b3 l4 u5) k2 + k)).length) cB)),(129,.v (.slice bg ((qaD W l v (Tree.mk n1 s2 b3 l4 u5) 0).length + (uv (qaF W l (Tree.mk n1 s2 b3 l4 u5) k2 + k)).length) bh))]) kz
 have jM:=jL.cast (env':=[(10,.v (.slice A4_ ((qav W l (Tree.mk n1 s2 b3 l4 u5) k2 ++ qaS ((qag l u5).take k)).length) c4_)),(125,.v (.slice A_ ((qaD W l v (Tree.mk n1 s2 b3 l4 u5) 0).length) c_)),(127,.v (.int .u64 ((qaF W l (Tree.mk n1 s2 b3 l4 u5) k2 + k:Nat):Int))),(128,.v (.slice cA ((uv (qaF W l (Tree.mk n1 s2 b3 l4 u5) k2 + k)).length) cB)),(129,.v (.slice bg ((qaD W l v (Tree.mk n1 s2 b3 l4 u5) 0 ++ (uv (qaF W l (Tree.mk n1 s2 b3 l4 u5) k2 + k))).length) bh))]) (by simp only [List.length_append,List.length_cons,List.length_nil,Nat.zero_add])
 refine qaj [5] [6,7] [(129,.v (.slice bg ((qaD W l v (Tree.mk n1 s2 b3 l4 u5) 0 ++ (uv (qaF W l (Tree.mk n1 s2 b3 l4 u5) k2 + k))).length) bh)),(130,.v (.slice A4_ ((qav W l (Tree.mk n1 s2 b3 l4 u5) k2 ++ qaS ((qag l u5).take k)).length) c4_))] cr jM fun oS jN=>?_
 refine qak (qaP cr jN (k:=0) (d:=131) (t:=22) (e:=5) (size:=1) (bytes:=1) (A:=bg) (As:=A4_) (m0:=((qaD W l v (Tree.mk n1 s2 b3 l4 u5) 0 ++ (uv (qaF W l (Tree.mk n1 s2 b3 l4 u5) k2 + k))).length)) (c:=bh) (m:=((qav W l (Tree.mk n1 s2 b3 l4 u5) k2 ++ qaS ((qag l u5).take k)).length)) (cs:=c4_) (xs:=(bc (qaD W l v (Tree.mk n1 s2 b3 l4 u5) 0 ++ (uv (qaF W l (Tree.mk n1 s2 b3 l4 u5) k2 + k))))) (news:=bc (qav W l (Tree.mk n1 s2 b3 l4 u5) k2 ++ qaS ((qag l u5).take k))) kz kz rfl (qci (cr.own 1 _ rfl) (qcQ _)) (qcy (cr.own 1 _ rfl)) (by have hkk3:k = (qag l u5).length:=(by omega); subst hkk3; subst hkk2; simp only [List.length_append,List.take_length] at *; omega) fun bL bM oT oU lS jO jP=>?_)
 have jQ:(⟨bL,bM,5,1,(qaD W l v (Tree.mk n1 s2 b3 l4 u5) 0 ++ (uv (qaF W l (Tree.mk n1 s2 b3 l4 u5) k2 + k))).length + (qav W l (Tree.mk n1 s2 b3 l4 u5) k2 ++ qaS ((qag l u5).take k)).length,bc (qaD W l v (Tree.mk n1 s2 b3 l4 u5) 0 ++ (uv (qaF W l (Tree.mk n1 s2 b3 l4 u5) k2 + k))) ++ bc (qav W l (Tree.mk n1 s2 b3 l4 u5) k2 ++ qaS ((qag l u5).take k))⟩:Rw) = brow bL bM 5 (qaD W l v (Tree.mk n1 s2 b3 l4 u5) 0 ++ (uv (qaF W l (Tree.mk n1 s2 b3 l4 u5) k2 + k)) ++ (qav W l (Tree.mk n1 s2 b3 l4 u5) k2 ++ qaS ((qag l u5).take k))):=qa8 (rfl) rfl
 obtain ⟨dv,lT⟩:=jO.rowEq 0 [brow bL bM 5 (qaD W l v (Tree.mk n1 s2 b3 l4 u5) 0 ++ (uv (qaF W l (Tree.mk n1 s2 b3 l4 u5) k2 + k)) ++ (qav W l (Tree.mk n1 s2 b3 l4 u5) k2 ++ qaS ((qag l u5).take k))),brow A4_ c4_ 5 (qav W l (Tree.mk n1 s2 b3 l4 u5) k2 ++ qaS ((qag l u5).take k)),brow cA cB 5 (uv (qaF W l (Tree.mk n1 s2 b3 l4 u5) k2 + k))] jQ
 have jR:=EnvOk.pick jP (ks:=[129,130,131]) (env':=[(129,.v (.slice bg ((qaD W l v (Tree.mk n1 s2 b3 l4 u5) 0 ++ (uv (qaF W l (Tree.mk n1 s2 b3 l4 u5) k2 + k))).length) bh)),(130,.v (.slice A4_ ((qav W l (Tree.mk n1 s2 b3 l4 u5) k2 ++ qaS ((qag l u5).take k)).length) c4_)),(131,.v (.slice bL ((qaD W l v (Tree.mk n1 s2 b3 l4 u5) 0 ++ (uv (qaF W l (Tree.mk n1 s2 b3 l4 u5) k2 + k))).length + (qav W l (Tree.mk n1 s2 b3 l4 u5) k2 ++ qaS ((qag l u5).take k)).length) bM))]) kz
 have jS:=jR.cast (env':=[(129,.v (.slice bg ((qaD W l v (Tree.mk n1 s2 b3 l4 u5) 0 ++ (uv (qaF W l (Tree.mk n1 s2 b3 l4 u5) k2 + k))).length) bh)),(130,.v (.slice A4_ ((qav W l (Tree.mk n1 s2 b3 l4 u5) k2 ++ qaS ((qag l u5).take k)).length) c4_)),(131,.v (.slice bL ((qaD W l v (Tree.mk n1 s2 b3 l4 u5) 0 ++ (uv (qaF W l (Tree.mk n1 s2 b3 l4 u5) k2 + k)) ++ (qav W l (Tree.mk n1 s2 b3 l4 u5) k2 ++ qaS ((qag l u5).take k))).length) bM))]) (by simp only [List.length_append,List.length_cons,List.length_nil,Nat.zero_add])
 refine qaj [7] [] [(8,.v (.slice bL ((qaD W l v (Tree.mk n1 s2 b3 l4 u5) 0 ++ (uv (qaF W l (Tree.mk n1 s2 b3 l4 u5) k2 + k)) ++ (qav W l (Tree.mk n1 s2 b3 l4 u5) k2 ++ qaS ((qag l u5).take k))).length) bM))] dv jS fun oV jT=>?_
 refine qad (qaa ?_)
 refine wp_ret ?_
 refine qaG jT dv.cells (v:=.slice bL ((qaD W l v (Tree.mk n1 s2 b3 l4 u5) 0 ++ (uv (qaF W l (Tree.mk n1 s2 b3 l4 u5) k2 + k)) ++ (qav W l (Tree.mk n1 s2 b3 l4 u5) k2 ++ qaS ((qag l u5).take k))).length) bM) kz ?_
 have hkk3:k = (qag l u5).length:=by omega
 exact qaW dv (k:=0) rfl (by rw [show flex = true by simpa using bS,qfw,hkk3,hkk2,List.take_length])
theorem qg5:∀ d,qjj d
 | 0=>fun A c l v flex ct t w F hl hd ht hr=>qlx (fun _ _=>[]) A c l v flex ct t w F (fun cf f ct t w F hm hf ht hr=>by
   obtain ⟨i,hi⟩:=List.mem_iff_getElem?.1 hm
   have h:=qdA hi
   obtain ⟨k,x1,x2,x3,x4,x5,x6,l,A,c,xs,rfl,_⟩:=hf.open_
   rw [qeQ] at h; omega) hl ht hr
 | d + 1=>fun A c l v flex ct t w F hl hd ht hr=>qlx (fun f t=>qcw d f v flex t) A c l v flex ct t w F (fun cf f ct t w F hm hf ht hr=>qlw (qg5 d) cf f v flex ct t w F hf (by
   obtain ⟨i,hi⟩:=List.mem_iff_getElem?.1 hm
   have h:=qdA hi
   obtain ⟨k,x1,x2,x3,x4,x5,x6,l,A,c,xs,rfl,_⟩:=hf.open_
   rw [qeQ] at h
   show depths l ≤ d
   omega) ht hr) hl ht hr
theorem qly {d:Nat} (A:Option Addr) (c:Nat) (l:List Fld) (x v:Int) (ct:List Value) (t:Tree) (w:World) (F:Nat → Nat → Prop) (hl:FldsR w F A c l) (hd:depths l ≤ d) (ht:TreeR w F ct t) (hroom:(qaO d l x v t).length ≤ 1099511627776) :
  Calls Tryz.prog 9 #[.agg #[.slice A l.length c,.int .i64 x],.int .i64 v,.agg ct.toArray] w (qdJ w 5 (qaO d l x v t)):=by
 obtain ⟨xfs,h1,h2⟩:=hl.ex
 have hsm:=h1.small
 obtain ⟨n1,s2,b3,l4,u5,A6,c7,A8,c9,af,ag,aI,rfl,rfl,aJ,aK,aV,aW⟩:=ht.open_
 have aG:=aJ.small
 have aH:=aK.small
 refine enter (n:=21) Tryz.func9 rfl Tryz.ntmps9 kz fun a hE=>?_
 have hW:=WOk.start w Nil
 refine qac [0,1,2] kz ?_
 refine qak (qbs hW hE (d:=3) (cs:=[.slice A l.length c,.int .i64 x]) kz fun aX aY aZ aL aM aN ai aj=>?_)
 refine qak (qbs ai aj (d:=5) (cs:=[.int .i64 n1,.slice A6 s2.length c7,.bool b3,.slice A8 l4.length c9,.slice af u5.length ag]) kz fun ba bd bf aO aP aQ aa ak=>?_)
 refine qaj [2] [] [(1,.v (.int .i64 v)),(3,.p 0 0),(5,.p 1 0)] aa ak fun bg al=>?_
 refine qad (qaa ?_)
 refine qac [0,1,2,3,4,5,6,7,8,9,10,11,12,13,14] kz ?_
 refine qaj [0,1,2,3,4,5,6] [7,8,9,10,11,12,13,14] [(1,.v (.int .i64 v)),(3,.p 0 0),(5,.p 1 0),(8,.v (.slice A l.length c)),(9,.v (.int .i64 v)),(13,.v (.bool (decide (x ≥ 0))))] aa al fun bh ah=>?_
 refine (Bool.eq_false_or_eq_true (decide (x ≥ 0))).elim (fun ab=>?_) (fun ab=>?_)
 ·
  have aR:=of_decide_eq_true ab
  have am:=ah.cast (env':=[(1,.v (.int .i64 v)),(3,.p 0 0),(5,.p 1 0),(8,.v (.slice A l.length c)),(9,.v (.int .i64 v)),(13,.v (.bool true))]) (by rw [ab])
  refine qaj [7,8,9,10,11,12] [13,14] [(8,.v (.slice A l.length c)),(9,.v (.int .i64 v)),(18,.v (.bool (decide (v ≥ x)))),(19,.v (.agg #[.int .i64 n1,.slice A6 s2.length c7,.bool b3,.slice A8 l4.length c9,.slice af u5.length ag]))] aa am fun bi ao=>?_
  refine qak (qal ao (f:=20) (vs:=[.slice A l.length c,.int .i64 v,.bool (decide (v ≥ x)),.agg #[.int .i64 n1,.slice A6 s2.length c7,.bool b3,.slice A8 l4.length c9,.slice af u5.length ag]]) (d:=20) kz Tryz.call20 (qg5 _ _ _ l v (decide (v ≥ x)) _ (Tree.mk n1 s2 b3 l4 u5) _ _ ⟨xfs,(h1.move aa.step nilM aa.imm),(fun i_ x_ h_=>((h2 i_ x_ h_).move aa.step nilM aa.imm))⟩ hd (ht.move aa.step nilM aa.imm) (by simpa [qaO,ab] using hroom)) ?_)
  rintro e_ bj ⟨ap,ar,rfl,au,av⟩
  refine ⟨_,rfl,fun bk aw=>?_⟩
  obtain ⟨ac,aS⟩:=aa.frFresh av (brow ap ar 5 (qaK d l v (decide (v ≥ x)) (Tree.mk n1 s2 b3 l4 u5))) (Nat.le_refl _) au
  refine qaj [14] [] [(6,.v (.slice ap ((qaK d l v (decide (v ≥ x)) (Tree.mk n1 s2 b3 l4 u5)).length) ar))] ac aw fun bn ax=>?_
  refine qad (qaa ?_)
  refine wp_ret ?_
  refine qaG ax ac.cells (v:=.slice ap ((qaK d l v (decide (v ≥ x)) (Tree.mk n1 s2 b3 l4 u5)).length) ar) kz ?_
  exact qaW ac (k:=0) rfl (by simp [qaO,ab])
 have aT:=of_decide_eq_false ab
 have ay:=ah.cast (env':=[(1,.v (.int .i64 v)),(3,.p 0 0),(5,.p 1 0),(8,.v (.slice A l.length c)),(9,.v (.int .i64 v)),(13,.v (.bool false))]) (by rw [ab])
 refine qaj [7,8,9,10,11,12] [13,14] [(8,.v (.slice A l.length c)),(9,.v (.int .i64 v)),(18,.v (.bool false)),(19,.v (.agg #[.int .i64 n1,.slice A6 s2.length c7,.bool b3,.slice A8 l4.length c9,.slice af u5.length ag]))] aa ay fun bo az=>?_
 refine qak (qal az (f:=20) (vs:=[.slice A l.length c,.int .i64 v,.bool false,.agg #[.int .i64 n1,.slice A6 s2.length c7,.bool b3,.slice A8 l4.length c9,.slice af u5.length ag]]) (d:=20) kz Tryz.call20 (qg5 _ _ _ l v false _ (Tree.mk n1 s2 b3 l4 u5) _ _ ⟨xfs,(h1.move aa.step nilM aa.imm),(fun i_ x_ h_=>((h2 i_ x_ h_).move aa.step nilM aa.imm))⟩ hd (ht.move aa.step nilM aa.imm) (by simpa [qaO,ab] using hroom)) ?_)
 rintro e_ bp ⟨aA,aB,rfl,aC,aD⟩
 refine ⟨_,rfl,fun bq aE=>?_⟩
 obtain ⟨ae,aU⟩:=aa.frFresh aD (brow aA aB 5 (qaK d l v false (Tree.mk n1 s2 b3 l4 u5))) (Nat.le_refl _) aC
 refine qaj [14] [] [(6,.v (.slice aA ((qaK d l v false (Tree.mk n1 s2 b3 l4 u5)).length) aB))] ae aE fun bt aF=>?_
 refine qad (qaa ?_)
 refine wp_ret ?_
 refine qaG aF ae.cells (v:=.slice aA ((qaK d l v false (Tree.mk n1 s2 b3 l4 u5)).length) aB) kz ?_
 exact qaW ae (k:=0) rfl (by simp [qaO,ab])
def sJoinGroupResponseF:List Fld:=[(Fld.mk 3 2 (-1) (-1) (-1) 0 0 []),(Fld.mk 2 0 (-1) (-1) (-1) 0 0 []),(Fld.mk 3 0 (-1) (-1) (-1) (-1) 0 []),(Fld.mk 8 7 (-1) 7 (-1) 0 0 []),(Fld.mk 8 0 (-1) 7 (-1) 0 0 []),(Fld.mk 8 0 (-1) (-1) (-1) 0 0 []),(Fld.mk 0 9 (-1) (-1) (-1) 0 0 []),(Fld.mk 8 0 (-1) (-1) (-1) 0 0 []),(Fld.mk 11 0 (-1) (-1) (-1) 0 10 [(Fld.mk 8 0 (-1) (-1) (-1) 0 0 []),(Fld.mk 8 5 (-1) 5 (-1) 0 0 []),(Fld.mk 9 0 (-1) (-1) (-1) 0 0 [])])]
def qaf:Int:=6
theorem qep (w:World) (F:Nat → Nat → Prop):Calls Tryz.prog 13 #[] w (qlq w F sJoinGroupResponseF qaf):=by
 refine enter (n:=13) Tryz.func13 rfl Tryz.ntmps13 kz fun a hE=>?_
 have hW:=WOk.start w Nil
 refine qac [0] kz ?_
 refine qak (qaY hW hE (d:=0) (cs:=[.slice none 0 0,.int .i64 0]) kz fun b1 a2 w3 hb4 hz5 hF6 hW7 hE8=>?_)
 refine qad (qaa ?_)
 refine qac [0,1,2,3,4,5,6,7,8,9,10,11,12] kz ?_
 refine qaj [0,1,2,3,4,5,6,7] [8,9,10,11,12] [(0,.p 0 0),(1,.v (.agg #[.int .i64 3,.int .i64 2,.int .i64 (-1),.int .i64 (-1),.int .i64 (-1),.int .i64 0,.int .i64 0,.slice none 0 0])),(2,.v (.agg #[.int .i64 2,.int .i64 0,.int .i64 (-1),.int .i64 (-1),.int .i64 (-1),.int .i64 0,.int .i64 0,.slice none 0 0])),(3,.v (.agg #[.int .i64 3,.int .i64 0,.int .i64 (-1),.int .i64 (-1),.int .i64 (-1),.int .i64 (-1),.int .i64 0,.slice none 0 0])),(4,.v (.agg #[.int .i64 8,.int .i64 7,.int .i64 (-1),.int .i64 7,.int .i64 (-1),.int .i64 0,.int .i64 0,.slice none 0 0])),(5,.v (.agg #[.int .i64 8,.int .i64 0,.int .i64 (-1),.int .i64 7,.int .i64 (-1),.int .i64 0,.int .i64 0,.slice none 0 0])),(6,.v (.agg #[.int .i64 8,.int .i64 0,.int .i64 (-1),.int .i64 (-1),.int .i64 (-1),.int .i64 0,.int .i64 0,.slice none 0 0])),(7,.v (.agg #[.int .i64 0,.int .i64 9,.int .i64 (-1),.int .i64 (-1),.int .i64 (-1),.int .i64 0,.int .i64 0,.slice none 0 0])),(8,.v (.agg #[.int .i64 8,.int .i64 0,.int .i64 (-1),.int .i64 (-1),.int .i64 (-1),.int .i64 0,.int .i64 0,.slice none 0 0]))] hW7 hE8 fun a9 ai=>?_
 refine qak (qbI ai (f:=26) (vs:=[]) (d:=9) (n':=5) kz Tryz.call26 Tryz.func26 rfl Tryz.ntmps26 kz fun aG aj=>?_)
 refine qar [] hW7 aj fun aH ak=>?_
 refine qac [0,1,2,3,4] kz ?_
 refine qaj [0,1,2] [3,4] [(1,.v (.agg #[.int .i64 8,.int .i64 0,.int .i64 (-1),.int .i64 (-1),.int .i64 (-1),.int .i64 0,.int .i64 0,.slice none 0 0])),(2,.v (.agg #[.int .i64 8,.int .i64 5,.int .i64 (-1),.int .i64 5,.int .i64 (-1),.int .i64 0,.int .i64 0,.slice none 0 0])),(3,.v (.agg #[.int .i64 9,.int .i64 0,.int .i64 (-1),.int .i64 (-1),.int .i64 (-1),.int .i64 0,.int .i64 0,.slice none 0 0]))] hW7 ak fun aI al=>?_
 refine qak (qd7 hW7 al (e:=46) (size:=8) (len:=3) (cs:=[.int .i64 8,.int .i64 0,.int .i64 (-1),.int .i64 (-1),.int .i64 (-1),.int .i64 0,.int .i64 0,.slice none 0 0,.int .i64 8,.int .i64 5,.int .i64 (-1),.int .i64 5,.int .i64 (-1),.int .i64 0,.int .i64 0,.slice none 0 0,.int .i64 9,.int .i64 0,.int .i64 (-1),.int .i64 (-1),.int .i64 (-1),.int .i64 0,.int .i64 0,.slice none 0 0]) (d:=4) kz kz fun ag aJ aK az aA aB ab am=>?_)
 refine qaj [4] [] [(0,.v (.slice (some ⟨ag,0,none⟩) 3 3))] ab am fun aL ao=>?_
 refine qad (qaa ?_)
 refine wp_ret ?_
 refine qaG ao ab.cells (v:=.slice (some ⟨ag,0,none⟩) 3 3) kz ?_
 refine ⟨_,rfl,fun aM ap=>?_⟩
 have ar:EnvOk 13 [⟨b1,0,[.slice none 0 0,.int .i64 0],true⟩] [(9,.v (.slice (some ⟨ag,0,none⟩) 3 3)),(0,.p 0 0),(1,.v (.agg #[.int .i64 3,.int .i64 2,.int .i64 (-1),.int .i64 (-1),.int .i64 (-1),.int .i64 0,.int .i64 0,.slice none 0 0])),(2,.v (.agg #[.int .i64 2,.int .i64 0,.int .i64 (-1),.int .i64 (-1),.int .i64 (-1),.int .i64 0,.int .i64 0,.slice none 0 0])),(3,.v (.agg #[.int .i64 3,.int .i64 0,.int .i64 (-1),.int .i64 (-1),.int .i64 (-1),.int .i64 (-1),.int .i64 0,.slice none 0 0])),(4,.v (.agg #[.int .i64 8,.int .i64 7,.int .i64 (-1),.int .i64 7,.int .i64 (-1),.int .i64 0,.int .i64 0,.slice none 0 0])),(5,.v (.agg #[.int .i64 8,.int .i64 0,.int .i64 (-1),.int .i64 7,.int .i64 (-1),.int .i64 0,.int .i64 0,.slice none 0 0])),(6,.v (.agg #[.int .i64 8,.int .i64 0,.int .i64 (-1),.int .i64 (-1),.int .i64 (-1),.int .i64 0,.int .i64 0,.slice none 0 0])),(7,.v (.agg #[.int .i64 0,.int .i64 9,.int .i64 (-1),.int .i64 (-1),.int .i64 (-1),.int .i64 0,.int .i64 0,.slice none 0 0])),(8,.v (.agg #[.int .i64 8,.int .i64 0,.int .i64 (-1),.int .i64 (-1),.int .i64 (-1),.int .i64 0,.int .i64 0,.slice none 0 0]))] _:=ap.places (⟨rfl,rfl,trivial⟩)
 refine qaj [9] [10,11,12] [(0,.p 0 0),(1,.v (.agg #[.int .i64 3,.int .i64 2,.int .i64 (-1),.int .i64 (-1),.int .i64 (-1),.int .i64 0,.int .i64 0,.slice none 0 0])),(2,.v (.agg #[.int .i64 2,.int .i64 0,.int .i64 (-1),.int .i64 (-1),.int .i64 (-1),.int .i64 0,.int .i64 0,.slice none 0 0])),(3,.v (.agg #[.int .i64 3,.int .i64 0,.int .i64 (-1),.int .i64 (-1),.int .i64 (-1),.int .i64 (-1),.int .i64 0,.slice none 0 0])),(4,.v (.agg #[.int .i64 8,.int .i64 7,.int .i64 (-1),.int .i64 7,.int .i64 (-1),.int .i64 0,.int .i64 0,.slice none 0 0])),(5,.v (.agg #[.int .i64 8,.int .i64 0,.int .i64 (-1),.int .i64 7,.int .i64 (-1),.int .i64 0,.int .i64 0,.slice none 0 0])),(6,.v (.agg #[.int .i64 8,.int .i64 0,.int .i64 (-1),.int .i64 (-1),.int .i64 (-1),.int .i64 0,.int .i64 0,.slice none 0 0])),(7,.v (.agg #[.int .i64 0,.int .i64 9,.int .i64 (-1),.int .i64 (-1),.int .i64 (-1),.int .i64 0,.int .i64 0,.slice none 0 0])),(8,.v (.agg #[.int .i64 8,.int .i64 0,.int .i64 (-1),.int .i64 (-1),.int .i64 (-1),.int .i64 0,.int .i64 0,.slice none 0 0])),(10,.v (.agg #[.int .i64 11,.int .i64 0,.int .i64 (-1),.int .i64 (-1),.int .i64 (-1),.int .i64 0,.int .i64 10,.slice (some ⟨ag,0,none⟩) 3 3]))] ab ar fun aN au=>?_
 refine qak (qd7 ab au (e:=46) (size:=8) (len:=9) (cs:=[.int .i64 3,.int .i64 2,.int .i64 (-1),.int .i64 (-1),.int .i64 (-1),.int .i64 0,.int .i64 0,.slice none 0 0,.int .i64 2,.int .i64 0,.int .i64 (-1),.int .i64 (-1),.int .i64 (-1),.int .i64 0,.int .i64 0,.slice none 0 0,.int .i64 3,.int .i64 0,.int .i64 (-1),.int .i64 (-1),.int .i64 (-1),.int .i64 (-1),.int .i64 0,.slice none 0 0,.int .i64 8,.int .i64 7,.int .i64 (-1),.int .i64 7,.int .i64 (-1),.int .i64 0,.int .i64 0,.slice none 0 0,.int .i64 8,.int .i64 0,.int .i64 (-1),.int .i64 7,.int .i64 (-1),.int .i64 0,.int .i64 0,.slice none 0 0,.int .i64 8,.int .i64 0,.int .i64 (-1),.int .i64 (-1),.int .i64 (-1),.int .i64 0,.int .i64 0,.slice none 0 0,.int .i64 0,.int .i64 9,.int .i64 (-1),.int .i64 (-1),.int .i64 (-1),.int .i64 0,.int .i64 0,.slice none 0 0,.int .i64 8,.int .i64 0,.int .i64 (-1),.int .i64 (-1),.int .i64 (-1),.int .i64 0,.int .i64 0,.slice none 0 0,.int .i64 11,.int .i64 0,.int .i64 (-1),.int .i64 (-1),.int .i64 (-1),.int .i64 0,.int .i64 10,.slice (some ⟨ag,0,none⟩) 3 3]) (d:=11) kz kz fun av aO aP aC aD aE ah aw=>?_)
 refine qaj [11] [12] [(0,.p 0 0),(12,.v (.agg #[.slice (some ⟨av,0,none⟩) 9 9,.int .i64 6]))] ah aw fun aQ ax=>?_
 refine qak (qaH ah ax (oi:=0) (cs:=[.slice (some ⟨av,0,none⟩) 9 9,.int .i64 6]) kz fun aa aF ac ay=>?_)
 refine qad (qaa ?_)
 refine wp_ret ?_
 refine qaG ay ac.cells (v:=.agg #[.slice (some ⟨av,0,none⟩) 9 9,.int .i64 6]) kz ?_
 have ae:=Flds.slots (F:=F) ac (k:=0) (n:=3) (xs:=[.int .i64 8,.int .i64 0,.int .i64 (-1),.int .i64 (-1),.int .i64 (-1),.int .i64 0,.int .i64 0,.slice none 0 0,.int .i64 8,.int .i64 5,.int .i64 (-1),.int .i64 5,.int .i64 (-1),.int .i64 0,.int .i64 0,.slice none 0 0,.int .i64 9,.int .i64 0,.int .i64 (-1),.int .i64 (-1),.int .i64 (-1),.int .i64 0,.int .i64 0,.slice none 0 0]) rfl (Flds.snoc (Flds.snoc (Flds.snoc (Flds.nil _ _) (c:=[.int .i64 8,.int .i64 0,.int .i64 (-1),.int .i64 (-1),.int .i64 (-1),.int .i64 0,.int .i64 0,.slice none 0 0]) (x:=(Fld.mk 8 0 (-1) (-1) (-1) 0 0 [])) (FldR.mk (l:=[]) _ (qbY aa (Fp F w)).1 (qbY aa (Fp F w)).2)) (c:=[.int .i64 8,.int .i64 5,.int .i64 (-1),.int .i64 5,.int .i64 (-1),.int .i64 0,.int .i64 0,.slice none 0 0]) (x:=(Fld.mk 8 5 (-1) 5 (-1) 0 0 [])) (FldR.mk (l:=[]) _ (qbY aa (Fp F w)).1 (qbY aa (Fp F w)).2)) (c:=[.int .i64 9,.int .i64 0,.int .i64 (-1),.int .i64 (-1),.int .i64 (-1),.int .i64 0,.int .i64 0,.slice none 0 0]) (x:=(Fld.mk 9 0 (-1) (-1) (-1) 0 0 [])) (FldR.mk (l:=[]) _ (qbY aa (Fp F w)).1 (qbY aa (Fp F w)).2)) rfl (by decide)
 have af:=Flds.slots (F:=F) ac (k:=1) (n:=9) (xs:=[.int .i64 3,.int .i64 2,.int .i64 (-1),.int .i64 (-1),.int .i64 (-1),.int .i64 0,.int .i64 0,.slice none 0 0,.int .i64 2,.int .i64 0,.int .i64 (-1),.int .i64 (-1),.int .i64 (-1),.int .i64 0,.int .i64 0,.slice none 0 0,.int .i64 3,.int .i64 0,.int .i64 (-1),.int .i64 (-1),.int .i64 (-1),.int .i64 (-1),.int .i64 0,.slice none 0 0,.int .i64 8,.int .i64 7,.int .i64 (-1),.int .i64 7,.int .i64 (-1),.int .i64 0,.int .i64 0,.slice none 0 0,.int .i64 8,.int .i64 0,.int .i64 (-1),.int .i64 7,.int .i64 (-1),.int .i64 0,.int .i64 0,.slice none 0 0,.int .i64 8,.int .i64 0,.int .i64 (-1),.int .i64 (-1),.int .i64 (-1),.int .i64 0,.int .i64 0,.slice none 0 0,.int .i64 0,.int .i64 9,.int .i64 (-1),.int .i64 (-1),.int .i64 (-1),.int .i64 0,.int .i64 0,.slice none 0 0,.int .i64 8,.int .i64 0,.int .i64 (-1),.int .i64 (-1),.int .i64 (-1),.int .i64 0,.int .i64 0,.slice none 0 0,.int .i64 11,.int .i64 0,.int .i64 (-1),.int .i64 (-1),.int .i64 (-1),.int .i64 0,.int .i64 10,.slice (some ⟨ag,0,none⟩) 3 3]) rfl (Flds.snoc (Flds.snoc (Flds.snoc (Flds.snoc (Flds.snoc (Flds.snoc (Flds.snoc (Flds.snoc (Flds.snoc (Flds.nil _ _) (c:=[.int .i64 3,.int .i64 2,.int .i64 (-1),.int .i64 (-1),.int .i64 (-1),.int .i64 0,.int .i64 0,.slice none 0 0]) (x:=(Fld.mk 3 2 (-1) (-1) (-1) 0 0 [])) (FldR.mk (l:=[]) _ (qbY aa (Fp F w)).1 (qbY aa (Fp F w)).2)) (c:=[.int .i64 2,.int .i64 0,.int .i64 (-1),.int .i64 (-1),.int .i64 (-1),.int .i64 0,.int .i64 0,.slice none 0 0]) (x:=(Fld.mk 2 0 (-1) (-1) (-1) 0 0 [])) (FldR.mk (l:=[]) _ (qbY aa (Fp F w)).1 (qbY aa (Fp F w)).2)) (c:=[.int .i64 3,.int .i64 0,.int .i64 (-1),.int .i64 (-1),.int .i64 (-1),.int .i64 (-1),.int .i64 0,.slice none 0 0]) (x:=(Fld.mk 3 0 (-1) (-1) (-1) (-1) 0 [])) (FldR.mk (l:=[]) _ (qbY aa (Fp F w)).1 (qbY aa (Fp F w)).2)) (c:=[.int .i64 8,.int .i64 7,.int .i64 (-1),.int .i64 7,.int .i64 (-1),.int .i64 0,.int .i64 0,.slice none 0 0]) (x:=(Fld.mk 8 7 (-1) 7 (-1) 0 0 [])) (FldR.mk (l:=[]) _ (qbY aa (Fp F w)).1 (qbY aa (Fp F w)).2)) (c:=[.int .i64 8,.int .i64 0,.int .i64 (-1),.int .i64 7,.int .i64 (-1),.int .i64 0,.int .i64 0,.slice none 0 0]) (x:=(Fld.mk 8 0 (-1) 7 (-1) 0 0 [])) (FldR.mk (l:=[]) _ (qbY aa (Fp F w)).1 (qbY aa (Fp F w)).2)) (c:=[.int .i64 8,.int .i64 0,.int .i64 (-1),.int .i64 (-1),.int .i64 (-1),.int .i64 0,.int .i64 0,.slice none 0 0]) (x:=(Fld.mk 8 0 (-1) (-1) (-1) 0 0 [])) (FldR.mk (l:=[]) _ (qbY aa (Fp F w)).1 (qbY aa (Fp F w)).2)) (c:=[.int .i64 0,.int .i64 9,.int .i64 (-1),.int .i64 (-1),.int .i64 (-1),.int .i64 0,.int .i64 0,.slice none 0 0]) (x:=(Fld.mk 0 9 (-1) (-1) (-1) 0 0 [])) (FldR.mk (l:=[]) _ (qbY aa (Fp F w)).1 (qbY aa (Fp F w)).2)) (c:=[.int .i64 8,.int .i64 0,.int .i64 (-1),.int .i64 (-1),.int .i64 (-1),.int .i64 0,.int .i64 0,.slice none 0 0]) (x:=(Fld.mk 8 0 (-1) (-1) (-1) 0 0 [])) (FldR.mk (l:=[]) _ (qbY aa (Fp F w)).1 (qbY aa (Fp F w)).2)) (c:=[.int .i64 11,.int .i64 0,.int .i64 (-1),.int .i64 (-1),.int .i64 (-1),.int .i64 0,.int .i64 10,.slice (some ⟨ag,0,none⟩) 3 3]) (x:=(Fld.mk 11 0 (-1) (-1) (-1) 0 10 [(Fld.mk 8 0 (-1) (-1) (-1) 0 0 []),(Fld.mk 8 5 (-1) 5 (-1) 0 0 []),(Fld.mk 9 0 (-1) (-1) (-1) 0 0 [])])) (FldR.mk (l:=[(Fld.mk 8 0 (-1) (-1) (-1) 0 0 []),(Fld.mk 8 5 (-1) 5 (-1) 0 0 []),(Fld.mk 9 0 (-1) (-1) (-1) 0 0 [])]) _ ae.1 ae.2)) rfl (by decide)
 exact ⟨_,_,rfl,⟨_,af.1,af.2⟩,ac.step⟩
def qa9 (T:Tree):Prop:=((T.at_ 0).S.length ≤ 32767) ∧ ((qaB (T.at_ 1)).length ≤ 32767) ∧ ((qaB (T.at_ 2)).length ≤ 32767) ∧ canU T.U ∧ True
def qa1 (T:Tree):Prop:=(True) ∧ (True) ∧ (True) ∧ ((qaB (T.at_ 3)).length ≤ 32767) ∧ ((qaB (T.at_ 4)).length ≤ 32767) ∧ ((T.at_ 5).S.length ≤ 32767) ∧ (True) ∧ ((T.at_ 7).S.length ≤ 32767) ∧ ((lst (T.at_ 8)).length ≤ 32767 ∧ ∀ x ∈ lst (T.at_ 8),qa9 x) ∧ canU T.U ∧ True
theorem qcZ (v:Int) (t:Tree):qa1 (fitT v 8 sJoinGroupResponseF t):=by
 unfold qa1
 exact ⟨(trivial),(trivial),(trivial),(qeT (d:=7) (show sJoinGroupResponseF[3]? = _ from rfl) (by decide)),(qeT (d:=7) (show sJoinGroupResponseF[4]? = _ from rfl) (by decide)),(by rw [qh4 (d:=7) (show sJoinGroupResponseF[5]? = _ from rfl) (by decide)]; exact Nat.le_trans (qa5 _) (by decide)),(trivial),(by rw [qh4 (d:=7) (show sJoinGroupResponseF[7]? = _ from rfl) (by decide)]; exact Nat.le_trans (qa5 _) (by decide)),(⟨qkV (d:=7) (show sJoinGroupResponseF[8]? = _ from rfl),qkU (d:=7) (Q:=qa9) (show sJoinGroupResponseF[8]? = _ from rfl) fun y=>by
   have h:=qkt (v:=v) (d:=7) (x1:=0) (x2:=-1) (x5:=0) (x6:=10) (s:=[(Fld.mk 8 0 (-1) (-1) (-1) 0 0 []),(Fld.mk 8 5 (-1) 5 (-1) 0 0 []),(Fld.mk 9 0 (-1) (-1) (-1) 0 0 [])]) (b:=Fld.nul (Fld.mk 10 0 (-1) (-1) (-1) 0 10 [(Fld.mk 8 0 (-1) (-1) (-1) 0 0 []),(Fld.mk 8 5 (-1) 5 (-1) 0 0 []),(Fld.mk 9 0 (-1) (-1) (-1) 0 0 [])]) v y) (x:=y)
   unfold qa9
   simp only [h.1,h.2]
   exact ⟨(by rw [qh4 (d:=6) (show [(Fld.mk 8 0 (-1) (-1) (-1) 0 0 []),(Fld.mk 8 5 (-1) 5 (-1) 0 0 []),(Fld.mk 9 0 (-1) (-1) (-1) 0 0 [])][0]? = _ from rfl) (by decide)]; exact Nat.le_trans (qa5 _) (by decide)),(qeT (d:=6) (show [(Fld.mk 8 0 (-1) (-1) (-1) 0 0 []),(Fld.mk 8 5 (-1) 5 (-1) 0 0 []),(Fld.mk 9 0 (-1) (-1) (-1) 0 0 [])][1]? = _ from rfl) (by decide)),(qeT (d:=6) (show [(Fld.mk 8 0 (-1) (-1) (-1) 0 0 []),(Fld.mk 8 5 (-1) 5 (-1) 0 0 []),(Fld.mk 9 0 (-1) (-1) (-1) 0 0 [])][2]? = _ from rfl) (by decide)),(qhD),(trivial)⟩⟩),(qhD),(trivial)⟩
set_option maxHeartbeats 4000000 in
theorem qdl (v:Int) (h0:0 ≤ v) (h1:v < 32768) (t:Tree):qai v (fitT v 8 sJoinGroupResponseF t) = qaO 8 sJoinGroupResponseF qaf v t:=by
 have ak:((fitT v 8 sJoinGroupResponseF t).at_ 0).N = (t.at_ 0).N:=qj2 (d:=7) (show sJoinGroupResponseF[0]? = _ from rfl) (by decide)
 have al:((fitT v 8 sJoinGroupResponseF t).at_ 1).N = (t.at_ 1).N:=qj2 (d:=7) (show sJoinGroupResponseF[1]? = _ from rfl) (by decide)
 have am:((fitT v 8 sJoinGroupResponseF t).at_ 2).N = (t.at_ 2).N:=qj2 (d:=7) (show sJoinGroupResponseF[2]? = _ from rfl) (by decide)
 have ag:=qjc (v:=v) (d:=7) (t:=t) (l:=sJoinGroupResponseF) (i:=3) (show sJoinGroupResponseF[3]? = _ from rfl) (by decide)
 have ah:=qjc (v:=v) (d:=7) (t:=t) (l:=sJoinGroupResponseF) (i:=4) (show sJoinGroupResponseF[4]? = _ from rfl) (by decide)
 have ao:=qh4 (v:=v) (d:=7) (t:=t) (l:=sJoinGroupResponseF) (i:=5) (show sJoinGroupResponseF[5]? = _ from rfl) (by decide)
 have ap:((fitT v 8 sJoinGroupResponseF t).at_ 6).N = (t.at_ 6).N:=qj2 (d:=7) (show sJoinGroupResponseF[6]? = _ from rfl) (by decide)
 have ar:=qh4 (v:=v) (d:=7) (t:=t) (l:=sJoinGroupResponseF) (i:=7) (show sJoinGroupResponseF[7]? = _ from rfl) (by decide)
 obtain ⟨f30n,au⟩:=qje (v:=v) (d:=7) (t:=t) (l:=sJoinGroupResponseF) (i:=8) (show sJoinGroupResponseF[8]? = _ from rfl)
 have ac:∀ ab:Tree,(fun aa:Tree=>(if (decide (v ≥ 6)) = true then (uv ((aa.at_ 0).S.length + 1) ++ (aa.at_ 0).S) else (be 2 (aa.at_ 0).S.length ++ (aa.at_ 0).S)) ++ ((if (decide (v ≥ 5)) = true then if (decide (v ≥ 6)) = true then (if (aa.at_ 1).null = true then uv 0 else uv ((qaB (aa.at_ 1)).length + 1) ++ (qaB (aa.at_ 1))) else (if (aa.at_ 1).null = true then be 2 (-1) else be 2 (qaB (aa.at_ 1)).length ++ (qaB (aa.at_ 1))) else []) ++ ((if (decide (v ≥ 6)) = true then (uv ((qaB (aa.at_ 2)).length + 1) ++ (qaB (aa.at_ 2))) else (be 4 (qaB (aa.at_ 2)).length ++ (qaB (aa.at_ 2)))) ++ (if (decide (v ≥ 6)) = true then (uv aa.U.length) ++ (qbw aa.U) else [])))) (qb5 (fitT v 7) (Fld.mk 10 0 (-1) (-1) (-1) 0 10 [(Fld.mk 8 0 (-1) (-1) (-1) 0 0 []),(Fld.mk 8 5 (-1) 5 (-1) 0 0 []),(Fld.mk 9 0 (-1) (-1) (-1) 0 0 [])]) (Fld.nul (Fld.mk 10 0 (-1) (-1) (-1) 0 10 [(Fld.mk 8 0 (-1) (-1) (-1) 0 0 []),(Fld.mk 8 5 (-1) 5 (-1) 0 0 []),(Fld.mk 9 0 (-1) (-1) (-1) 0 0 [])]) v ab) ab) = qaK 7 [(Fld.mk 8 0 (-1) (-1) (-1) 0 0 []),(Fld.mk 8 5 (-1) 5 (-1) 0 0 []),(Fld.mk 9 0 (-1) (-1) (-1) 0 0 [])] v (decide (v ≥ 6)) ab:=by
  intro ab
  dsimp only
  obtain ⟨ae,af⟩:=qkt (v:=v) (d:=7) (x1:=0) (x2:=-1) (x5:=0) (x6:=10) (s:=[(Fld.mk 8 0 (-1) (-1) (-1) 0 0 []),(Fld.mk 8 5 (-1) 5 (-1) 0 0 []),(Fld.mk 9 0 (-1) (-1) (-1) 0 0 [])]) (b:=Fld.nul (Fld.mk 10 0 (-1) (-1) (-1) 0 10 [(Fld.mk 8 0 (-1) (-1) (-1) 0 0 []),(Fld.mk 8 5 (-1) 5 (-1) 0 0 []),(Fld.mk 9 0 (-1) (-1) (-1) 0 0 [])]) v ab) (x:=ab)
  simp only [ae,af]
  have av:=qh4 (v:=v) (d:=6) (t:=ab) (l:=[(Fld.mk 8 0 (-1) (-1) (-1) 0 0 []),(Fld.mk 8 5 (-1) 5 (-1) 0 0 []),(Fld.mk 9 0 (-1) (-1) (-1) 0 0 [])]) (i:=0) (show [(Fld.mk 8 0 (-1) (-1) (-1) 0 0 []),(Fld.mk 8 5 (-1) 5 (-1) 0 0 []),(Fld.mk 9 0 (-1) (-1) (-1) 0 0 [])][0]? = _ from rfl) (by decide)
  have ai:=qjc (v:=v) (d:=6) (t:=ab) (l:=[(Fld.mk 8 0 (-1) (-1) (-1) 0 0 []),(Fld.mk 8 5 (-1) 5 (-1) 0 0 []),(Fld.mk 9 0 (-1) (-1) (-1) 0 0 [])]) (i:=1) (show [(Fld.mk 8 0 (-1) (-1) (-1) 0 0 []),(Fld.mk 8 5 (-1) 5 (-1) 0 0 []),(Fld.mk 9 0 (-1) (-1) (-1) 0 0 [])][1]? = _ from rfl) (by decide)
  have aj:=qjc (v:=v) (d:=6) (t:=ab) (l:=[(Fld.mk 8 0 (-1) (-1) (-1) 0 0 []),(Fld.mk 8 5 (-1) 5 (-1) 0 0 []),(Fld.mk 9 0 (-1) (-1) (-1) 0 0 [])]) (i:=2) (show [(Fld.mk 8 0 (-1) (-1) (-1) 0 0 []),(Fld.mk 8 5 (-1) 5 (-1) 0 0 []),(Fld.mk 9 0 (-1) (-1) (-1) 0 0 [])][2]? = _ from rfl) (by decide)
  simp only [qkO,qfd,qey,List.flatMap_map,List.length_map,av,ai.1,ai.2,aj.1,aj.2]
  try simp only [be4_i32',qgO,qi0,qkq,qfH,qel,qlu,qjf]
  by_cases c0:v < 7 <;> by_cases c1:v ≥ 2 <;> by_cases c2:v ≥ 5 <;> by_cases c3:v ≥ 6 <;> by_cases c4:v ≥ 7 <;> by_cases c5:v ≥ 9 <;> by_cases n0:Fld.nul (Fld.mk 8 5 (-1) 5 (-1) 0 0 []) v (ab.at_ 1) = true <;> (try have m0:=qjg n0) <;> first | (exfalso; omega) | simp [qaK,qev,qaD,Fld.tag,Fld.has,qc3,Fld.kind,Fld.null,Fld.of,Fld.sub,qaE,qbf,qaF,qav,qao,qam,uv0,qku,c0,c1,c2,c3,c4,c5,n0,h0]
 unfold qai
 simp only [qkO,qfd,qey,List.flatMap_map,List.length_map,ak,al,am,ag.1,ag.2,ah.1,ah.2,ao,ap,ar,f30n,au]
 simp only [ac]
 try simp only [be4_i32',qgO,qi0,qkq,qfH,qel,qlu,qjf]
 by_cases c0:v < 7 <;> by_cases c1:v ≥ 2 <;> by_cases c2:v ≥ 5 <;> by_cases c3:v ≥ 6 <;> by_cases c4:v ≥ 7 <;> by_cases c5:v ≥ 9 <;> by_cases n0:Fld.nul (Fld.mk 8 7 (-1) 7 (-1) 0 0 []) v (t.at_ 3) = true <;> by_cases n1:Fld.nul (Fld.mk 8 0 (-1) 7 (-1) 0 0 []) v (t.at_ 4) = true <;> (try have m0:=qjg n0) <;> (try have m1:=qjg n1) <;> first | (exfalso; omega) | simp [qaO,qaf,sJoinGroupResponseF,qaK,qev,qaD,Fld.tag,Fld.has,qc3,Fld.kind,Fld.null,Fld.of,Fld.sub,qaE,qbf,qaF,qav,qao,qam,uv0,qku,c0,c1,c2,c3,c4,c5,n0,n1,h0]
def dv0:DV:=.leaf
def qg6 (ok:World → (Nat → Nat → Prop) → DV → Prop):Prop:=∀ {w w':World} {F F' M:Nat → Nat → Prop} (d:DV),Step w w' M → (∀ b o,F b o → b < w.heap.size → ¬ M b o) → (∀ b o,F b o → b < w.heap.size → F' b o) → ok w F d → ok w' F' d
section
variable {w w' w0:World} {F F' M:Nat → Nat → Prop} {size:Nat} {cells:DV → List Value} {ok:World → (Nat → Nat → Prop) → DV → Prop} {rel:DV → Tree → Prop} {xs:List Value} {ds:List DV} {ts:List Tree} {A:Option Addr} {c:Nat} {f:Nat → DV} {tb:Tb} {rs rs':List Rw}
end
theorem qjm {P:Program} {c:Code} {Mid N:Act → World → Prop} {Q:Exit → Act → World → Prop} {a:Act} {w:World} (h1:c.wp P (Exit.then Mid Q) a w) (h2:∀ a' w',Mid a' w' → N a' w'):c.wp P (Exit.then N Q) a w :=
 wp_mono h1 fun e a' w' h=>by
  cases e <;> first | exact h2 a' w' h | exact h
def dvN (n:Int):DV:=.mk n false ByteArray.empty [] none 0 0 none [] (fun _=>.leaf)
def dvB (b:Bool):DV:=.mk 0 b ByteArray.empty [] none 0 0 none [] (fun _=>.leaf)
def dvS (s:ByteArray):DV:=.mk 0 false s [] none 0 0 none [] (fun _=>.leaf)
def dvT (A:Option Addr) (s:ByteArray):DV:=.mk 0 false s [] A 0 0 none [] (fun _=>.leaf)
def dvO (A:Option Addr) (o:Bs) (c:Nat):DV:=.mk 0 false ByteArray.empty o A 0 c none [] (fun _=>.leaf)
def dvL (A:Option Addr) (l c:Nat) (f:Nat → DV):DV:=.mk 0 false ByteArray.empty [] A l c none [] f
def dvP (m:Option Nat) (u:List (Int × Bs)) (fs:List DV):DV:=.mk 0 false ByteArray.empty [] none 0 0 m u (fun i=>fs.getD i .leaf)
theorem EnvOk.retable {n:Nat} {env:Env} {a:Act} (tb:Tb) (h:EnvOk n [] env a):EnvOk n tb env a:=h.table fun i hi=>absurd hi (Nat.not_lt_zero i)
def cutA (A:Option Addr) (cp j:Nat):Option Addr:=if cp = j then A else A.map (·.add j)
theorem qjn (s:Bs) (j i:Nat):(s.drop j).getD i 0 = s.getD (j + i) 0:=by
 rw [List.getD_eq_getElem?_getD,List.getD_eq_getElem?_getD,List.getElem?_drop]
theorem Octs.drop {w:World} {F:Nat → Nat → Prop} {A:Option Addr} {c:Nat} {s:Bs} (h:Octs w F A c s) {j:Nat} (hj:j ≤ s.length):Octs w F (cutA A c j) (c - j) (s.drop j):=by
 have hle:=h.le
 have hsm:=h.small
 unfold Octs
 rw [List.length_drop]
 refine ⟨by omega,by omega,fun hA=>?_,fun ad hA hn=>?_⟩
 ·have hn:A = none:=by
   unfold cutA at hA
   split at hA
   ·exact hA
   cases A with
   | none=>rfl
   | some _=>cases hA
  have:=h.none_ hn
  omega
 have hA':A.map (·.add j) = some ad:=by
  unfold cutA at hA
  rwa [if_neg (by omega)] at hA
 cases hq:A with
 | none=>rw [hq] at hA'; cases hA'
 | some ad0 =>
  rw [hq] at hA'
  obtain ⟨b,o,rfl,h2⟩:=h.some_ ad0 hq (by omega)
  simp only [Option.map_some,Option.some.injEq,qbx] at hA'
  subst hA'
  refine ⟨b,o + j,rfl,fun i hi=>?_⟩
  rw [qjn,show o + j + i * 1 = o + (j + i) * 1 by omega]
  exact h2 (j + i) (by omega)
theorem Octs.cutS {w:World} {F:Nat → Nat → Prop} {A:Option Addr} {c:Nat} {s:Bs} (h:Octs w F A c s) {j:Nat} (hj:j ≤ s.length):Octs w F A j (s.take j):=by
 have h1:=h.take j
 refine ⟨by rw [List.length_take]; omega,h1.small,fun hA=>?_,h1.some_⟩
 have:=h.none_ hA
 rw [List.length_take]; omega
section
variable {P:Program} {ops:Array Oper} {Q:Exit → Act → World → Prop} {n:Nat} {tb:Tb} {env:Env} {rs:List Rw} {w0:World} {M:Nat → Nat → Prop} {a:Act} {w:World}
theorem qh7 {t e:TypeId} {bytes:Nat} (ht:qcg P t = some (e,1,bytes)) {A:Option Addr} {m cp:Nat} {k:IntKind} {q:Int} (h0:0 ≤ q) (h1:q ≤ m) :
  (Instr.sliceAt t (.slice A m cp) (some (.int k q)) none none).run P w = .ok (.slice (cutA A cp q.toNat) (m - q.toNat) (cp - q.toNat)) w:=by
 obtain ⟨ht',inf,z,hi,hz,hzs,hs1,rfl,hsz,hbp⟩:=qb9 ht
 unfold Instr.sliceAt
 simp only [Sem.run_bind,run_underlying ht',Result.andThen_ok]
 unfold Instr.slice
 have hb:(0 ≤ q ∧ q ≤ (m:Int)):=⟨h0,h1⟩
 simp only [Sem.run_bind,run_underlying ht',Result.andThen_ok,Instr.sliceBounds,Instr.sliceBound,asIntOf,Sem.run_pure,if_pos hb,run_sizeOf' hi,hs1,Nat.mul_one]
 rfl
theorem qh8 {t e:TypeId} {bytes:Nat} (ht:qcg P t = some (e,1,bytes)) {A:Option Addr} {m cp:Nat} {k:IntKind} {q:Int} (h0:0 ≤ q) (h1:q ≤ cp) :
  (Instr.sliceAt t (.slice A m cp) none (some (.int k q)) (some (.int k q))).run P w = .ok (.slice A q.toNat q.toNat) w:=by
 obtain ⟨ht',inf,z,hi,hz,hzs,hs1,rfl,hsz,hbp⟩:=qb9 ht
 unfold Instr.sliceAt
 simp only [Sem.run_bind,run_underlying ht',Result.andThen_ok]
 unfold Instr.slice
 have hb:(0 ≤ q ∧ q ≤ (cp:Int)):=⟨h0,h1⟩
 have hb2:(0 ≤ q ∧ q ≤ ((q.toNat:Nat):Int)):=⟨h0,by omega⟩
 simp only [Sem.run_bind,run_underlying ht',Result.andThen_ok,Instr.sliceBounds,Instr.sliceBound,asIntOf,Sem.run_pure,if_pos hb,if_pos hb2,run_sizeOf' hi]
 cases A with
 | none=>simp
 | some ad=>simp [Addr.add]
theorem qcC {i d j:Nat} {N:Act → World → Prop} {t e:TypeId} {bytes m cp:Nat} {A:Option Addr} {q:Int} (hE:EnvOk n tb env a) (h:cutE tb env ops n i = some (t,.slice A m cp,some q,none,d)) (ht:qcg P t = some (e,1,bytes)) (hq:q = (j:Int)) (hj:j ≤ m)
  (K:∀ a',EnvOk n tb ((d,.v (.slice (cutA A cp j) (m - j) (cp - j))) :: env) a' → N a' w):wpOp P ops Q i N a w:=by
 have h0:0 ≤ q:=by omega
 have h1:q ≤ m:=by omega
 obtain rfl:j = q.toNat:=by omega
 unfold cutE at h
 split at h
 ·rename_i t' x lo hi d' ho
  have hd:d' < n:=(qa7 hE ho).choose_spec.2.2.2.1
  split at h
  ·simp at h
  ·rename_i s l hs
   split at h
   ·rename_i k q' hs2
    simp only [Option.some.injEq,Prod.mk.injEq,true_and] at h
    obtain ⟨rfl,hsv,rfl,rfl⟩:=h
    have e1:=(qaJ hE hs).1
    have e2:=(qaJ hE hs2).1
    refine qaT hE ho (v:=.slice (cutA A cp q'.toNat) (m - q'.toNat) (cp - q'.toNat)) (w':=w) (fun o' hop=>?_) (K _ (hE.put hd (.v _) trivial))
    unfold execOp
    rw [hop]
    rw [hsv] at e1
    simp only [SV.val] at e2
    simp only [e1,e2,Option.map_none,Option.map_some,Sem.run_bind,qh7 ht h0 h1,Result.andThen_ok,Sem.run_pure]
   cases h
  ·split at h <;> simp at h
  ·split at h <;> simp at h
  cases h
 cases h
def qlz (tb:Tb) (env:Env) (ops:Array Oper) (n i:Nat):Option (TypeId × Value × IntKind × Int × IntKind × Int × Nat) :=
 match opAt env ops n i with
 | some (.slice t x none (some h) (some m),d)=>match opd env x,opd env h,opd env m with
  | some s,some (.v (.int k p)),some (.v (.int k' q))=>some (t,s.val tb,k,p,k',q,d)
  | _,_,_=>none
 | _=>none
theorem qjo {i d j:Nat} {N:Act → World → Prop} {t e:TypeId} {bytes m cp:Nat} {A:Option Addr} {k:IntKind} {q:Int} (hE:EnvOk n tb env a) (h:qlz tb env ops n i = some (t,.slice A m cp,k,q,k,q,d)) (ht:qcg P t = some (e,1,bytes)) (hq:q = (j:Int)) (hj:j ≤ cp)
  (K:∀ a',EnvOk n tb ((d,.v (.slice A j j)) :: env) a' → N a' w):wpOp P ops Q i N a w:=by
 have h0:0 ≤ q:=by omega
 have h1:q ≤ cp:=by omega
 obtain rfl:j = q.toNat:=by omega
 unfold qlz at h
 split at h
 ·rename_i t' x hh mm d' ho
  have hd:d' < n:=(qa7 hE ho).choose_spec.2.2.2.1
  split at h
  ·rename_i s k1 p1 k2 q2 g1 g2 g3
   simp only [Option.some.injEq,Prod.mk.injEq] at h
   obtain ⟨rfl,hsv,rfl,rfl,rfl,rfl,rfl⟩:=h
   have f1:=(qaJ hE g1).1
   have f2:=(qaJ hE g2).1
   have f3:=(qaJ hE g3).1
   rw [hsv] at f1
   simp only [SV.val] at f2 f3
   refine qaT hE ho (v:=.slice A q2.toNat q2.toNat) (w':=w) (fun o' hop=>?_) (K _ (hE.put hd (.v _) trivial))
   unfold execOp
   rw [hop]
   simp only [f1,f2,f3,Option.map_none,Option.map_some,Sem.run_bind,qh8 ht h0 h1,Result.andThen_ok,Sem.run_pure]
  cases h
 cases h
end
structure RdS (w:World) (F:Nat → Nat → Prop) (A:Option Addr) (n c:Nat) (s:Bs):Prop where
 len:n = s.length
 oct:Octs w F A c s
theorem RdS.move {w w':World} {F F' M:Nat → Nat → Prop} {A:Option Addr} {n c:Nat} {s:Bs} (h:RdS w F A n c s) (hs:Step w w' M) (hM:∀ b o,F b o → b < w.heap.size → ¬ M b o) (hF:∀ b o,F b o → b < w.heap.size → F' b o):RdS w' F' A n c s:=⟨h.len,Octs.move h.oct hs hM hF⟩
theorem RdS.cast {w:World} {F:Nat → Nat → Prop} {A:Option Addr} {n c:Nat} {s t:Bs} (h:RdS w F A n c s) (e:s = t):RdS w F A n c t:=e ▸ h
theorem RdS.drop {w:World} {F:Nat → Nat → Prop} {A:Option Addr} {n c j:Nat} {s t:Bs} (h:RdS w F A n c (s ++ t)) (hj:j = s.length):RdS w F (cutA A c j) (n - j) (c - j) t:=by
 subst hj
 have h1:=h.oct.drop (j:=s.length) (by rw [List.length_append]; omega)
 rw [List.drop_left] at h1
 exact ⟨by rw [h.len,List.length_append]; omega,h1⟩
theorem RdS.front {w:World} {F:Nat → Nat → Prop} {A:Option Addr} {n c j:Nat} {s t:Bs} (h:RdS w F A n c (s ++ t)) (hj:j = s.length):Octs w F A j s:=by
 subst hj
 have h1:=h.oct.cutS (j:=s.length) (by rw [List.length_append]; omega)
 rwa [List.take_left] at h1
def RdM (br:Nat):Nat → Nat → Prop:=fun b o=>b = br ∧ o < 2
def RdPost (w:World) (br:Nat) (F:Nat → Nat → Prop) (rest:Bs) (Q:Value → World → Prop):Ending → World → Prop:=fun e w' =>
 ∃ v A' n' c',e = .returned v ∧ Str w' br [.slice A' n' c',.bool false] ∧ RdS w' F A' n' c' rest ∧ Step w w' (RdM br) ∧ Q v w'
theorem WOk.startStr {w:World} {p:Nat} {cs:List Value} (h:Str w p cs) (hn:Nat.blt 0 cs.length = true:=by kernel_rfl):WOk w (fun b o=>b = p ∧ o < cs.length) w [⟨p,0,cs,true⟩] []:=by
 have hn':0 < cs.length:=by simpa [Nat.blt_eq] using hn
 exact (WOk.start w _).add ⟨p,0,cs,true⟩ (World.lt_of_cell (h.at_ 0 _ (List.getElem?_eq_getElem hn'))) (fun j v hj=>by rw [Nat.zero_add]; exact h.at_ j v hj) (fun _ j hj=>⟨.inr ⟨rfl,by rw [Nat.zero_add]; exact hj⟩,by rw [Nat.zero_add]; exact h.frz j hj⟩) (fun i o hi=>by simp at hi) (fun i r hi=>by simp at hi)
theorem WOk.wrote {w0 w w':World} {M:Nat → Nat → Prop} {tb:Tb} {rs:List Rw} {p:Nat} {cs cs':List Value} (hW:WOk w0 M w tb rs) (i:Nat) (tb':Tb) (hi:tb[i]? = some ⟨p,0,cs,true⟩) (hst:Step w w' (fun b o=>b = p ∧ o < cs.length)) (hs:Str w' p cs') (ht:tb.set i ⟨p,0,cs',true⟩ = tb':=by rfl) (hl:cs'.length = cs.length:=by rfl) :
  WOk w0 M w' tb' rs ∧ Fr w tb rs w' tb' rs ∧ ∀ {G:Nat → Nat → Prop} (b o:Nat),Fp (Imm G w0 w tb rs) w b o → b < w'.heap.size → Imm G w0 w' tb' rs b o:=by
 subst ht
 have key:∀ (j:Nat) (o:Ob),(tb.set i ⟨p,0,cs',true⟩)[j]? = some o → (j = i ∧ o = ⟨p,0,cs',true⟩) ∨ (j ≠ i ∧ tb[j]? = some o):=fun j o hj=>by
  rcases qda hj with ⟨h1,h2,_⟩ | ⟨h1,h2⟩
  ·exact .inl ⟨h1,h2⟩
  exact .inr ⟨h1,h2⟩
 have far:∀ (j:Nat) (o:Ob),j ≠ i → tb[j]? = some o → ∀ q,q < o.cells.length → ¬ (o.blk = p ∧ o.off + q < cs.length):=fun j o hne hj q hq e=>by
  rcases hW.apart j i o _ hne hj hi (.inr rfl) with h1 | h1 | h1
  ·exact h1 e.1
  ·simp only [Nat.le_zero] at h1; omega
  simp only [Nat.zero_add] at h1; omega
 have act:∀ b o,Act_ (tb.set i ⟨p,0,cs',true⟩) rs b o → Act_ tb rs b o:=fun b o ha=>by
  rcases ha with ⟨j,ob,hj,h1,h2,h3,h4⟩ | ha
  ·rcases key j ob hj with ⟨rfl,rfl⟩ | ⟨_,hj⟩
   ·exact .inl ⟨j,_,hi,rfl,h2,h3,by simpa [hl] using h4⟩
   exact .inl ⟨j,ob,hj,h1,h2,h3,h4⟩
  exact .inr ha
 refine ⟨⟨hW.step.trans hst fun b o hb e=>?_,?_,?_,?_,?_,?_,hW.ownM,?_,hW.rr⟩,⟨fun b o _ hn ha=>hn (act b o ha),hst.mono fun b o _ e=>.inl ⟨i,_,hi,rfl,e.1.symm,Nat.zero_le _,by simpa using e.2⟩⟩,fun b o hf hb=>?_⟩
 rotate_right
 ·rcases hf with hf | hf
  ·exact ⟨hf.1,hb,fun ha=>hf.2.2 (act b o ha)⟩
  exact ⟨.inr (Nat.le_trans hW.step.size hf),hb,fun ha=>by have:=hW.act_live (act b o ha); omega⟩
 ·have h1:=(hW.rw_ i _ hi rfl o e.2).1
  simp only [Nat.zero_add] at h1
  rcases h1 with h1 | h1
  ·have:=e.1; omega
  rw [e.1]; exact h1
 ·intro j o hj q v hv
  rcases key j o hj with ⟨rfl,rfl⟩ | ⟨hne,hj⟩
  ·dsimp only
   rw [Nat.zero_add]
   exact hs.at_ q v hv
  exact hst.cell (far j o hne hj q (List.getElem?_eq_some_iff.1 hv).1) (hW.cells j o hj q v hv)
 ·intro j o hj
  rcases key j o hj with ⟨rfl,rfl⟩ | ⟨_,hj⟩
  ·have h1:=hW.live j _ hi
   exact Nat.lt_of_lt_of_le h1 hst.size
  exact Nat.lt_of_lt_of_le (hW.live j o hj) hst.size
 ·intro j o hj hr q hq
  rcases key j o hj with ⟨rfl,rfl⟩ | ⟨hne,hj⟩
  ·dsimp only at hq ⊢
   refine ⟨(hW.rw_ j _ hi rfl q (by simpa [hl] using hq)).1,?_⟩
   rw [Nat.zero_add]
   exact hs.frz q hq
  obtain ⟨h1,h2⟩:=hW.rw_ j o hj hr q hq
  exact ⟨h1,hst.frozen (far j o hne hj q hq) (hW.cells j o hj q _ (List.getElem?_eq_getElem hq)) h2⟩
 ·intro j k o o' hjk hj hk hw
  rcases key j o hj with ⟨rfl,rfl⟩ | ⟨hne,hj'⟩
  ·rcases key k o' hk with ⟨rfl,rfl⟩ | ⟨hne',hk'⟩
   ·exact absurd rfl hjk
   have:=hW.apart j k _ o' hjk hi hk' (.inl rfl)
   simpa [hl] using this
  rcases key k o' hk with ⟨rfl,rfl⟩ | ⟨hne',hk'⟩
  ·have:=hW.apart j k o _ hjk hj' hi (.inr rfl)
   simpa [hl] using this
  exact hW.apart j k o o' hjk hj' hk' hw
 ·intro j r hj
  refine qdp (hW.own j r hj) fun g hg=>(hst.keeps g (qbl (hW.own j r hj) hg)).1 fun o e=>?_
  exact hW.rtb j r hj g hg i _ hi e.1.symm
 intro j r hj g hg k o hk
 rcases key k o hk with ⟨rfl,rfl⟩ | ⟨_,hk⟩
 ·have h1:=hW.rtb j r hj g hg k _ hi
  exact h1
 exact hW.rtb j r hj g hg k o hk
theorem WOk.giveUp {G:Nat → Nat → Prop} {w0 w:World} {tb:Tb} {rs:List Rw} {A:Option Addr} {c e:Nat} {s:Bs} (hW:WOk w0 Nil w tb rs) (k:Nat) (rs':List Rw) (hk:rs[k]? = some (brow A c e s)) (hsm:s.length ≤ 1099511627776) (hr:rs.take k = rs':=by rfl):Octs w (Imm G w0 w tb rs') A c s:=by
 subst hr
 refine qdq (hW.own k _ hk) hsm fun g hg o=>?_
 have hb:=qbl (hW.own k _ hk) (r:=brow A c e s) hg
 refine ⟨?_,hb,fun ha=>?_⟩
 ·rcases hW.ownM k _ hk g hg with h2 | h2
  ·exact .inr h2
  exact (h2 0).elim
 rcases ha with ⟨i,ob,h2,_,h3,_⟩ | ⟨i,r,h2,h3⟩
 ·exact hW.rtb k _ hk g hg i ob h2 h3
 rw [List.getElem?_take] at h2
 split at h2
 ·rename_i hlt
  exact hW.rr k i _ r (by omega) hk h2 g hg h3
 cases h2
theorem qkX {G:Nat → Nat → Prop} {w0 w:World} {tb:Tb} {rs:List Rw} {r:Rw} {A:Option Addr} (k:Nat) (hk:rs[k]? = some r) (hA:r.A = A:=by rfl):∀ b o,Imm G w0 w tb rs b o → ¬ Blk A b o:=fun b o h hB=>by
 subst hA
 exact h.2.2 (.inr ⟨k,r,hk,hB⟩)
theorem WOk.strImm {G:Nat → Nat → Prop} {w0 w:World} {tb:Tb} {rs:List Rw} {p:Nat} {cs:List Value} (hW:WOk w0 Nil w tb rs) (i:Nat) (hi:tb[i]? = some ⟨p,0,cs,true⟩):AtF w (Imm G w0 w [] rs) p 0 cs:=fun j v hj=>by
 have h1:=hW.cells i _ hi j v hj
 have hlt:j < cs.length:=(List.getElem?_eq_some_iff.1 hj).1
 refine ⟨⟨?_,hW.live i _ hi,fun ha=>?_⟩,h1⟩
 ·rcases (hW.rw_ i _ hi rfl j hlt).1 with h2 | h2
  ·exact .inr h2
  exact h2.elim
 rcases ha with ⟨k,ob,h2,_⟩ | ⟨k,r,h2,h3⟩
 ·simp at h2
 exact hW.rtb k r h2 p h3 i _ hi rfl
theorem qjp {G:Nat → Nat → Prop} {w0 w:World} {tb:Tb} {rs:List Rw} {p:Nat} {cs:List Value} (i:Nat) (hi:tb[i]? = some ⟨p,0,cs,true⟩):∀ b o,Imm G w0 w tb rs b o → ¬ (b = p ∧ o < cs.length):=fun b o h e=>by
 obtain ⟨rfl,h2⟩:=e
 exact h.2.2 (.inl ⟨i,_,hi,rfl,rfl,Nat.zero_le _,by simpa using h2⟩)
theorem qdm {Q:Exit → Act → World → Prop} {a:Act} {w:World} (h:Q .ret a w):Exit.noGoto Q .ret a w:=h
theorem qjq (k:IntKind) (n:Nat) (hn:n = k.bits) (hk:∀ z:Int,0 ≤ z → z < 2 ^ n → k.wrap z = z) (i:Nat) (y x:Int) (h0:0 ≤ y) (h1:y < 2 ^ i) (h2:y < 2 ^ n) (h3:0 ≤ x) (h4:x % 2 ^ i = 0) (h5:x < 2 ^ n) :
  k.wrap (BitVec.ofInt n y ||| BitVec.ofInt n x).toNat = y + x:=by
 subst hn
 exact bits_join_low k k.bits (Nat.le_refl _) hk i y x h0 h1 h2 h3 h4 h5
theorem or16 (i:Nat) (y x:Int) (h0:0 ≤ y) (h1:y < 2 ^ i) (h2:y < 2 ^ 16) (h3:0 ≤ x) (h4:x % 2 ^ i = 0) (h5:x < 2 ^ 16):IntKind.u16.wrap (BitVec.ofInt 16 y ||| BitVec.ofInt 16 x).toNat = y + x :=
 qjq .u16 16 rfl (fun z a b=>by rw [qbv]; omega) i y x h0 h1 h2 h3 h4 h5
theorem or32 (i:Nat) (y x:Int) (h0:0 ≤ y) (h1:y < 2 ^ i) (h2:y < 2 ^ 32) (h3:0 ≤ x) (h4:x % 2 ^ i = 0) (h5:x < 2 ^ 32):IntKind.u32.wrap (BitVec.ofInt 32 y ||| BitVec.ofInt 32 x).toNat = y + x :=
 qjq .u32 32 rfl (fun z a b=>by rw [qan]; omega) i y x h0 h1 h2 h3 h4 h5
theorem qcH (n:Nat) (h:n < 256):(IntKind.u8.wrap (BitVec.ofInt 8 ((n:Nat):Int) &&& BitVec.ofInt 8 128).toNat == 0) = decide (n < 128):=by
 have:∀ m:Fin 256,(IntKind.u8.wrap (BitVec.ofInt 8 ((m.val:Nat):Int) &&& BitVec.ofInt 8 128).toNat == 0) = decide (m.val < 128):=by decide +kernel
 exact this ⟨n,h⟩
theorem qce (n:Nat) (h:n < 256):IntKind.u8.wrap (BitVec.ofInt 8 ((n:Nat):Int) &&& BitVec.ofInt 8 127).toNat = ((n % 128:Nat):Int):=by
 have:∀ m:Fin 256,IntKind.u8.wrap (BitVec.ofInt 8 ((m.val:Nat):Int) &&& BitVec.ofInt 8 127).toNat = ((m.val % 128:Nat):Int):=by decide +kernel
 exact this ⟨n,h⟩
def oc (s:Bs) (i:Nat):Nat:=(s.getD i 0).toNat
theorem qbX (s:Bs) (i:Nat):oc s i < 256:=(s.getD i 0).toNat_lt
theorem qjr (b:UInt8) (s:Bs) (i:Nat):oc (b :: s) (i + 1) = oc s i:=rfl
theorem qkY (b:UInt8) (s:Bs):oc (b :: s) 0 = b.toNat:=rfl
theorem qkx (x:Int) (s:Bs):((oc (by8 x :: s) 0:Nat):Int) = x % 256:=by rw [qkY,qf9]
def be16 (s:Bs):Int:=((oc s 0:Nat):Int) * 256 + oc s 1
def be32 (s:Bs):Int:=((oc s 0:Nat):Int) * 16777216 + oc s 1 * 65536 + oc s 2 * 256 + oc s 3
theorem qkZ (x:Int) (s:Bs):be16 (be 2 x ++ s) = IntKind.u16.wrap x:=by
 rw [qbv]
 simp only [be,List.cons_append,List.nil_append,be16,qjr,qkx,Int.reducePow]
 omega
theorem qk0 (x:Int) (s:Bs):be32 (be 4 x ++ s) = IntKind.u32.wrap x:=by
 rw [qan]
 simp only [be,List.cons_append,List.nil_append,be32,qjr,qkx,Int.reducePow]
 omega
theorem i16w (x:Int):IntKind.i16.wrap x = (x + 32768) % 65536 - 32768:=by simp [IntKind.wrap,IntKind.signed,IntKind.bits]; omega
theorem i32w (x:Int):IntKind.i32.wrap x = (x + 2147483648) % 4294967296 - 2147483648:=by simp [IntKind.wrap,IntKind.signed,IntKind.bits]; omega
theorem i64w (x:Int):IntKind.i64.wrap x = (x + 9223372036854775808) % 18446744073709551616 - 9223372036854775808:=by simp [IntKind.wrap,IntKind.signed,IntKind.bits]; omega
theorem qk1 (x:Int):IntKind.i16.wrap (IntKind.u16.wrap x) = IntKind.i16.wrap x:=by rw [i16w,i16w,qbv]; omega
theorem qk2 (x:Int):IntKind.i32.wrap (IntKind.u32.wrap x) = IntKind.i32.wrap x:=by rw [i32w,i32w,qan]; omega
theorem ww16 (x:Int):IntKind.i16.wrap (IntKind.i16.wrap x) = IntKind.i16.wrap x:=by rw [i16w,i16w]; omega
theorem ww32 (x:Int):IntKind.i32.wrap (IntKind.i32.wrap x) = IntKind.i32.wrap x:=by rw [i32w,i32w]; omega
theorem qfY {x:Nat} (s:Bs):oc (uv x ++ s) 0 = if x < 128 then x else x % 128 + 128:=by
 by_cases h:x < 128
 ·rw [qbJ h,if_pos h]
  show (UInt8.ofNat x).toNat = x
  rw [UInt8.toNat_ofNat']; omega
 rw [qdf (by omega),if_neg h]
 show (UInt8.ofNat (x % 128 + 128)).toNat = _
 rw [UInt8.toNat_ofNat']; omega
theorem qdN {x:Nat} (h:128 ≤ x) (s:Bs) (i:Nat):oc (uv x ++ s) (i + 1) = oc (uv (x / 128) ++ s) i:=by
 rw [qdf h]; rfl
theorem qlA (b0 b1:Nat) (h0:b0 < 256) (h1:b1 < 256):IntKind.u16.wrap (BitVec.ofInt 16 (IntKind.u16.wrap (((b1:Nat):Int))) ||| BitVec.ofInt 16 (IntKind.u16.wrap (IntKind.u16.wrap (((b0:Nat):Int)) * 256))).toNat = ((b0:Nat):Int) * 256 + ((b1:Nat):Int):=by
 have e1:IntKind.u16.wrap (BitVec.ofInt 16 (IntKind.u16.wrap (((b1:Nat):Int))) ||| BitVec.ofInt 16 (IntKind.u16.wrap (IntKind.u16.wrap (((b0:Nat):Int)) * 256))).toNat = ((b1:Nat):Int) + ((b0:Nat):Int) * 256:=by
  rw [or16 8 _ _ (by first | omega | (simp only [qbv]; omega)) (by first | omega | (simp only [qbv]; omega)) (by first | omega | (simp only [qbv]; omega)) (by first | omega | (simp only [qbv]; omega)) (by first | omega | (simp only [qbv]; omega)) (by first | omega | (simp only [qbv]; omega))]; first | omega | (simp only [qbv]; omega)
 rw [e1]
 omega
theorem qlB (b0 b1 b2 b3:Nat) (h0:b0 < 256) (h1:b1 < 256) (h2:b2 < 256) (h3:b3 < 256):IntKind.u32.wrap (BitVec.ofInt 32 (IntKind.u32.wrap (BitVec.ofInt 32 (IntKind.u32.wrap (BitVec.ofInt 32 (IntKind.u32.wrap (((b3:Nat):Int))) ||| BitVec.ofInt 32 (IntKind.u32.wrap (IntKind.u32.wrap (((b2:Nat):Int)) * 256))).toNat) ||| BitVec.ofInt 32 (IntKind.u32.wrap (IntKind.u32.wrap (((b1:Nat):Int)) * 65536))).toNat) ||| BitVec.ofInt 32 (IntKind.u32.wrap (IntKind.u32.wrap (((b0:Nat):Int)) * 16777216))).toNat = ((b0:Nat):Int) * 16777216 + ((b1:Nat):Int) * 65536 + ((b2:Nat):Int) * 256 + ((b3:Nat):Int):=by
 have e1:IntKind.u32.wrap (BitVec.ofInt 32 (IntKind.u32.wrap (((b3:Nat):Int))) ||| BitVec.ofInt 32 (IntKind.u32.wrap (IntKind.u32.wrap (((b2:Nat):Int)) * 256))).toNat = ((b3:Nat):Int) + ((b2:Nat):Int) * 256:=by
  rw [or32 8 _ _ (by first | omega | (simp only [qan]; omega)) (by first | omega | (simp only [qan]; omega)) (by first | omega | (simp only [qan]; omega)) (by first | omega | (simp only [qan]; omega)) (by first | omega | (simp only [qan]; omega)) (by first | omega | (simp only [qan]; omega))]; first | omega | (simp only [qan]; omega)
 have e2:IntKind.u32.wrap (BitVec.ofInt 32 (((b3:Nat):Int) + ((b2:Nat):Int) * 256) ||| BitVec.ofInt 32 (IntKind.u32.wrap (IntKind.u32.wrap (((b1:Nat):Int)) * 65536))).toNat = ((b3:Nat):Int) + ((b2:Nat):Int) * 256 + ((b1:Nat):Int) * 65536:=by
  rw [or32 16 _ _ (by first | omega | (simp only [qan]; omega)) (by first | omega | (simp only [qan]; omega)) (by first | omega | (simp only [qan]; omega)) (by first | omega | (simp only [qan]; omega)) (by first | omega | (simp only [qan]; omega)) (by first | omega | (simp only [qan]; omega))]; first | omega | (simp only [qan]; omega)
 have e3:IntKind.u32.wrap (BitVec.ofInt 32 (((b3:Nat):Int) + ((b2:Nat):Int) * 256 + ((b1:Nat):Int) * 65536) ||| BitVec.ofInt 32 (IntKind.u32.wrap (IntKind.u32.wrap (((b0:Nat):Int)) * 16777216))).toNat = ((b3:Nat):Int) + ((b2:Nat):Int) * 256 + ((b1:Nat):Int) * 65536 + ((b0:Nat):Int) * 16777216:=by
  rw [or32 24 _ _ (by first | omega | (simp only [qan]; omega)) (by first | omega | (simp only [qan]; omega)) (by first | omega | (simp only [qan]; omega)) (by first | omega | (simp only [qan]; omega)) (by first | omega | (simp only [qan]; omega)) (by first | omega | (simp only [qan]; omega))]; first | omega | (simp only [qan]; omega)
 rw [e1,e2,e3]
 omega
theorem uv_1 (b0:Nat) (h0:b0 < 256):IntKind.u32.wrap (IntKind.u8.wrap (BitVec.ofInt 8 ((b0:Nat):Int) &&& BitVec.ofInt 8 127).toNat) = ((b0 % 128:Nat):Int):=by
 rw [qce b0 h0,qan]; omega
theorem uv_2 (b0 b1:Nat) (h0:b0 < 256) (h1:b1 < 256):IntKind.u32.wrap (BitVec.ofInt 32 (IntKind.u32.wrap (IntKind.u8.wrap (BitVec.ofInt 8 ((b0:Nat):Int) &&& BitVec.ofInt 8 127).toNat)) ||| BitVec.ofInt 32 (IntKind.u32.wrap (IntKind.u32.wrap (IntKind.u8.wrap (BitVec.ofInt 8 ((b1:Nat):Int) &&& BitVec.ofInt 8 127).toNat) * 128))).toNat = ((b0 % 128:Nat):Int) + ((b1 % 128:Nat):Int) * 128:=by
 have e1:IntKind.u32.wrap (BitVec.ofInt 32 (IntKind.u32.wrap (IntKind.u8.wrap (BitVec.ofInt 8 ((b0:Nat):Int) &&& BitVec.ofInt 8 127).toNat)) ||| BitVec.ofInt 32 (IntKind.u32.wrap (IntKind.u32.wrap (IntKind.u8.wrap (BitVec.ofInt 8 ((b1:Nat):Int) &&& BitVec.ofInt 8 127).toNat) * 128))).toNat = ((b0 % 128:Nat):Int) + ((b1 % 128:Nat):Int) * 128:=by
  rw [qce b1 h1,qce b0 h0]; rw [or32 7 _ _ (by first | omega | (simp only [qan]; omega)) (by first | omega | (simp only [qan]; omega)) (by first | omega | (simp only [qan]; omega)) (by first | omega | (simp only [qan]; omega)) (by first | omega | (simp only [qan]; omega)) (by first | omega | (simp only [qan]; omega))]; first | omega | (simp only [qan]; omega)
 rw [e1]
theorem uv_3 (b0 b1 b2:Nat) (h0:b0 < 256) (h1:b1 < 256) (h2:b2 < 256):IntKind.u32.wrap (BitVec.ofInt 32 (IntKind.u32.wrap (BitVec.ofInt 32 (IntKind.u32.wrap (IntKind.u8.wrap (BitVec.ofInt 8 ((b0:Nat):Int) &&& BitVec.ofInt 8 127).toNat)) ||| BitVec.ofInt 32 (IntKind.u32.wrap (IntKind.u32.wrap (IntKind.u8.wrap (BitVec.ofInt 8 ((b1:Nat):Int) &&& BitVec.ofInt 8 127).toNat) * 128))).toNat) ||| BitVec.ofInt 32 (IntKind.u32.wrap (IntKind.u32.wrap (IntKind.u8.wrap (BitVec.ofInt 8 ((b2:Nat):Int) &&& BitVec.ofInt 8 127).toNat) * 16384))).toNat = ((b0 % 128:Nat):Int) + ((b1 % 128:Nat):Int) * 128 + ((b2 % 128:Nat):Int) * 16384:=by
 have e1:IntKind.u32.wrap (BitVec.ofInt 32 (IntKind.u32.wrap (IntKind.u8.wrap (BitVec.ofInt 8 ((b0:Nat):Int) &&& BitVec.ofInt 8 127).toNat)) ||| BitVec.ofInt 32 (IntKind.u32.wrap (IntKind.u32.wrap (IntKind.u8.wrap (BitVec.ofInt 8 ((b1:Nat):Int) &&& BitVec.ofInt 8 127).toNat) * 128))).toNat = ((b0 % 128:Nat):Int) + ((b1 % 128:Nat):Int) * 128:=by
  rw [qce b1 h1,qce b0 h0]; rw [or32 7 _ _ (by first | omega | (simp only [qan]; omega)) (by first | omega | (simp only [qan]; omega)) (by first | omega | (simp only [qan]; omega)) (by first | omega | (simp only [qan]; omega)) (by first | omega | (simp only [qan]; omega)) (by first | omega | (simp only [qan]; omega))]; first | omega | (simp only [qan]; omega)
 have e2:IntKind.u32.wrap (BitVec.ofInt 32 (((b0 % 128:Nat):Int) + ((b1 % 128:Nat):Int) * 128) ||| BitVec.ofInt 32 (IntKind.u32.wrap (IntKind.u32.wrap (IntKind.u8.wrap (BitVec.ofInt 8 ((b2:Nat):Int) &&& BitVec.ofInt 8 127).toNat) * 16384))).toNat = ((b0 % 128:Nat):Int) + ((b1 % 128:Nat):Int) * 128 + ((b2 % 128:Nat):Int) * 16384:=by
  rw [qce b2 h2]; rw [or32 14 _ _ (by first | omega | (simp only [qan]; omega)) (by first | omega | (simp only [qan]; omega)) (by first | omega | (simp only [qan]; omega)) (by first | omega | (simp only [qan]; omega)) (by first | omega | (simp only [qan]; omega)) (by first | omega | (simp only [qan]; omega))]; first | omega | (simp only [qan]; omega)
 rw [e1,e2]
theorem uv_4 (b0 b1 b2 b3:Nat) (h0:b0 < 256) (h1:b1 < 256) (h2:b2 < 256) (h3:b3 < 256):IntKind.u32.wrap (BitVec.ofInt 32 (IntKind.u32.wrap (BitVec.ofInt 32 (IntKind.u32.wrap (BitVec.ofInt 32 (IntKind.u32.wrap (IntKind.u8.wrap (BitVec.ofInt 8 ((b0:Nat):Int) &&& BitVec.ofInt 8 127).toNat)) ||| BitVec.ofInt 32 (IntKind.u32.wrap (IntKind.u32.wrap (IntKind.u8.wrap (BitVec.ofInt 8 ((b1:Nat):Int) &&& BitVec.ofInt 8 127).toNat) * 128))).toNat) ||| BitVec.ofInt 32 (IntKind.u32.wrap (IntKind.u32.wrap (IntKind.u8.wrap (BitVec.ofInt 8 ((b2:Nat):Int) &&& BitVec.ofInt 8 127).toNat) * 16384))).toNat) ||| BitVec.ofInt 32 (IntKind.u32.wrap (IntKind.u32.wrap (IntKind.u8.wrap (BitVec.ofInt 8 ((b3:Nat):Int) &&& BitVec.ofInt 8 127).toNat) * 2097152))).toNat = ((b0 % 128:Nat):Int) + ((b1 % 128:Nat):Int) * 128 + ((b2 % 128:Nat):Int) * 16384 + ((b3 % 128:Nat):Int) * 2097152:=by
 have e1:IntKind.u32.wrap (BitVec.ofInt 32 (IntKind.u32.wrap (IntKind.u8.wrap (BitVec.ofInt 8 ((b0:Nat):Int) &&& BitVec.ofInt 8 127).toNat)) ||| BitVec.ofInt 32 (IntKind.u32.wrap (IntKind.u32.wrap (IntKind.u8.wrap (BitVec.ofInt 8 ((b1:Nat):Int) &&& BitVec.ofInt 8 127).toNat) * 128))).toNat = ((b0 % 128:Nat):Int) + ((b1 % 128:Nat):Int) * 128:=by
  rw [qce b1 h1,qce b0 h0]; rw [or32 7 _ _ (by first | omega | (simp only [qan]; omega)) (by first | omega | (simp only [qan]; omega)) (by first | omega | (simp only [qan]; omega)) (by first | omega | (simp only [qan]; omega)) (by first | omega | (simp only [qan]; omega)) (by first | omega | (simp only [qan]; omega))]; first | omega | (simp only [qan]; omega)
 have e2:IntKind.u32.wrap (BitVec.ofInt 32 (((b0 % 128:Nat):Int) + ((b1 % 128:Nat):Int) * 128) ||| BitVec.ofInt 32 (IntKind.u32.wrap (IntKind.u32.wrap (IntKind.u8.wrap (BitVec.ofInt 8 ((b2:Nat):Int) &&& BitVec.ofInt 8 127).toNat) * 16384))).toNat = ((b0 % 128:Nat):Int) + ((b1 % 128:Nat):Int) * 128 + ((b2 % 128:Nat):Int) * 16384:=by
  rw [qce b2 h2]; rw [or32 14 _ _ (by first | omega | (simp only [qan]; omega)) (by first | omega | (simp only [qan]; omega)) (by first | omega | (simp only [qan]; omega)) (by first | omega | (simp only [qan]; omega)) (by first | omega | (simp only [qan]; omega)) (by first | omega | (simp only [qan]; omega))]; first | omega | (simp only [qan]; omega)
 have e3:IntKind.u32.wrap (BitVec.ofInt 32 (((b0 % 128:Nat):Int) + ((b1 % 128:Nat):Int) * 128 + ((b2 % 128:Nat):Int) * 16384) ||| BitVec.ofInt 32 (IntKind.u32.wrap (IntKind.u32.wrap (IntKind.u8.wrap (BitVec.ofInt 8 ((b3:Nat):Int) &&& BitVec.ofInt 8 127).toNat) * 2097152))).toNat = ((b0 % 128:Nat):Int) + ((b1 % 128:Nat):Int) * 128 + ((b2 % 128:Nat):Int) * 16384 + ((b3 % 128:Nat):Int) * 2097152:=by
  rw [qce b3 h3]; rw [or32 21 _ _ (by first | omega | (simp only [qan]; omega)) (by first | omega | (simp only [qan]; omega)) (by first | omega | (simp only [qan]; omega)) (by first | omega | (simp only [qan]; omega)) (by first | omega | (simp only [qan]; omega)) (by first | omega | (simp only [qan]; omega))]; first | omega | (simp only [qan]; omega)
 rw [e1,e2,e3]
theorem uv_5 (b0 b1 b2 b3 b4:Nat) (h0:b0 < 256) (h1:b1 < 256) (h2:b2 < 256) (h3:b3 < 256) (h4:b4 < 16):IntKind.u32.wrap (BitVec.ofInt 32 (IntKind.u32.wrap (BitVec.ofInt 32 (IntKind.u32.wrap (BitVec.ofInt 32 (IntKind.u32.wrap (BitVec.ofInt 32 (IntKind.u32.wrap (IntKind.u8.wrap (BitVec.ofInt 8 ((b0:Nat):Int) &&& BitVec.ofInt 8 127).toNat)) ||| BitVec.ofInt 32 (IntKind.u32.wrap (IntKind.u32.wrap (IntKind.u8.wrap (BitVec.ofInt 8 ((b1:Nat):Int) &&& BitVec.ofInt 8 127).toNat) * 128))).toNat) ||| BitVec.ofInt 32 (IntKind.u32.wrap (IntKind.u32.wrap (IntKind.u8.wrap (BitVec.ofInt 8 ((b2:Nat):Int) &&& BitVec.ofInt 8 127).toNat) * 16384))).toNat) ||| BitVec.ofInt 32 (IntKind.u32.wrap (IntKind.u32.wrap (IntKind.u8.wrap (BitVec.ofInt 8 ((b3:Nat):Int) &&& BitVec.ofInt 8 127).toNat) * 2097152))).toNat) ||| BitVec.ofInt 32 (IntKind.u32.wrap (IntKind.u32.wrap (((b4:Nat):Int)) * 268435456))).toNat = ((b0 % 128:Nat):Int) + ((b1 % 128:Nat):Int) * 128 + ((b2 % 128:Nat):Int) * 16384 + ((b3 % 128:Nat):Int) * 2097152 + ((b4:Nat):Int) * 268435456:=by
 have e1:IntKind.u32.wrap (BitVec.ofInt 32 (IntKind.u32.wrap (IntKind.u8.wrap (BitVec.ofInt 8 ((b0:Nat):Int) &&& BitVec.ofInt 8 127).toNat)) ||| BitVec.ofInt 32 (IntKind.u32.wrap (IntKind.u32.wrap (IntKind.u8.wrap (BitVec.ofInt 8 ((b1:Nat):Int) &&& BitVec.ofInt 8 127).toNat) * 128))).toNat = ((b0 % 128:Nat):Int) + ((b1 % 128:Nat):Int) * 128:=by
  rw [qce b1 h1,qce b0 h0]; rw [or32 7 _ _ (by first | omega | (simp only [qan]; omega)) (by first | omega | (simp only [qan]; omega)) (by first | omega | (simp only [qan]; omega)) (by first | omega | (simp only [qan]; omega)) (by first | omega | (simp only [qan]; omega)) (by first | omega | (simp only [qan]; omega))]; first | omega | (simp only [qan]; omega)
 have e2:IntKind.u32.wrap (BitVec.ofInt 32 (((b0 % 128:Nat):Int) + ((b1 % 128:Nat):Int) * 128) ||| BitVec.ofInt 32 (IntKind.u32.wrap (IntKind.u32.wrap (IntKind.u8.wrap (BitVec.ofInt 8 ((b2:Nat):Int) &&& BitVec.ofInt 8 127).toNat) * 16384))).toNat = ((b0 % 128:Nat):Int) + ((b1 % 128:Nat):Int) * 128 + ((b2 % 128:Nat):Int) * 16384:=by
  rw [qce b2 h2]; rw [or32 14 _ _ (by first | omega | (simp only [qan]; omega)) (by first | omega | (simp only [qan]; omega)) (by first | omega | (simp only [qan]; omega)) (by first | omega | (simp only [qan]; omega)) (by first | omega | (simp only [qan]; omega)) (by first | omega | (simp only [qan]; omega))]; first | omega | (simp only [qan]; omega)
 have e3:IntKind.u32.wrap (BitVec.ofInt 32 (((b0 % 128:Nat):Int) + ((b1 % 128:Nat):Int) * 128 + ((b2 % 128:Nat):Int) * 16384) ||| BitVec.ofInt 32 (IntKind.u32.wrap (IntKind.u32.wrap (IntKind.u8.wrap (BitVec.ofInt 8 ((b3:Nat):Int) &&& BitVec.ofInt 8 127).toNat) * 2097152))).toNat = ((b0 % 128:Nat):Int) + ((b1 % 128:Nat):Int) * 128 + ((b2 % 128:Nat):Int) * 16384 + ((b3 % 128:Nat):Int) * 2097152:=by
  rw [qce b3 h3]; rw [or32 21 _ _ (by first | omega | (simp only [qan]; omega)) (by first | omega | (simp only [qan]; omega)) (by first | omega | (simp only [qan]; omega)) (by first | omega | (simp only [qan]; omega)) (by first | omega | (simp only [qan]; omega)) (by first | omega | (simp only [qan]; omega))]; first | omega | (simp only [qan]; omega)
 have e4:IntKind.u32.wrap (BitVec.ofInt 32 (((b0 % 128:Nat):Int) + ((b1 % 128:Nat):Int) * 128 + ((b2 % 128:Nat):Int) * 16384 + ((b3 % 128:Nat):Int) * 2097152) ||| BitVec.ofInt 32 (IntKind.u32.wrap (IntKind.u32.wrap (((b4:Nat):Int)) * 268435456))).toNat = ((b0 % 128:Nat):Int) + ((b1 % 128:Nat):Int) * 128 + ((b2 % 128:Nat):Int) * 16384 + ((b3 % 128:Nat):Int) * 2097152 + ((b4:Nat):Int) * 268435456:=by
  rw [or32 28 _ _ (by first | omega | (simp only [qan]; omega)) (by first | omega | (simp only [qan]; omega)) (by first | omega | (simp only [qan]; omega)) (by first | omega | (simp only [qan]; omega)) (by first | omega | (simp only [qan]; omega)) (by first | omega | (simp only [qan]; omega))]; first | omega | (simp only [qan]; omega)
 rw [e1,e2,e3,e4]
theorem qlT {G:Nat → Nat → Prop} {w0 w:World} {tb:Tb} {rs:List Rw} {p n:Nat} {cs:List Value} (i:Nat) (hi:tb[i]? = some ⟨p,0,cs,true⟩) (hn:cs.length = n:=by rfl):∀ b o,Imm G w0 w tb rs b o → ¬ (b = p ∧ o < n):=by
 subst hn
 exact qjp i hi
theorem qch {G:Nat → Nat → Prop} {w0 w:World} {tb:Tb} {rs:List Rw} {p:Nat} {x y:Value} (i:Nat) (hi:tb[i]? = some ⟨p,0,[x,y],true⟩):∀ b o,Imm G w0 w tb rs b o → ¬ RdM p b o:=qjp i hi
theorem qk3 {G:Nat → Nat → Prop} {w0 w:World} {tb:Tb} {rs:List Rw} {b o:Nat} (h:Imm G w0 w tb rs b o):Imm G w0 w [] rs b o:=by
 refine ⟨h.1,h.2.1,fun ha=>h.2.2 ?_⟩
 rcases ha with ⟨i,ob,hi,_⟩ | ha
 ·simp at hi
 exact .inr ha
theorem WOk.immM {G:Nat → Nat → Prop} {w0 w:World} {M:Nat → Nat → Prop} {tb:Tb} {rs:List Rw} (h:WOk w0 M w tb rs) (hd:∀ b o,G b o → ¬ M b o):∀ b o,G b o → b < w0.heap.size → Imm G w0 w tb rs b o:=by
 refine fun b o hg hb=>⟨.inl hg,Nat.lt_of_lt_of_le hb h.step.size,fun ha=>hd b o hg ?_⟩
 rcases ha with ⟨i,ob,hi,hr,rfl,h1,h2⟩ | ⟨i,r,hi,hr⟩
 ·have:=(h.rw_ i ob hi hr (o - ob.off) (by omega)).1
  rw [show ob.off + (o - ob.off) = o by omega] at this
  rcases this with h3 | h3
  ·omega
  exact h3
 rcases h.ownM i r hi b hr with h3 | h3
 ·omega
 exact h3 o
section
variable {w0 w:World} {M:Nat → Nat → Prop} {tb:Tb} {rs:List Rw}
theorem WOk.layRowM {g c e size n k:Nat} {xs:List Value} (hW:WOk w0 M w tb rs) (hk:rs[k]? = some ⟨some ⟨g,0,none⟩,c,e,size,n,xs⟩) (hl:k + 1 = rs.length) (hm:w0.heap.size ≤ g) (rs':List Rw) (tb':Tb) (hr:rs.take k = rs':=by rfl) (ht:tb ++ [⟨g,0,xs,true⟩] = tb':=by rfl):WOk w0 M w tb' rs' ∧ Fr w tb rs w tb' rs':=by
 subst hr ht
 have ho:=hW.own k _ hk
 have hlive:=qbl ho (g:=g) rfl
 have hfz:∀ j,w.frozen? ⟨g,j,none⟩ = false:=fun j=>by
  rcases ho.2 with ⟨hv,_⟩ | ⟨g',cap,cur,hv,_,hg,_⟩
  ·cases hv
  simp only [Rw.v,Value.slice.injEq,Option.some.injEq,Addr.mk.injEq,and_true] at hv
  obtain ⟨rfl,_⟩:=hv
  unfold World.frozen?
  rw [hg]
  simp
 have hlt:∀ (j:Nat) (r:Rw),(rs.take k)[j]? = some r → j ≠ k ∧ rs[j]? = some r:=fun j r hj=>by
  rw [List.getElem?_take] at hj
  split at hj
  ·exact ⟨by omega,hj⟩
  cases hj
 refine ⟨(hW.rows k).add ⟨g,0,xs,true⟩ hlive (fun j v hj=>?_) (fun _ j _=>⟨.inl hm,by dsimp only; rw [Nat.zero_add]; exact hfz j⟩) (fun i q hi _=>.inl (hW.rtb k _ hk g rfl i q hi)) (fun i r hi he=>?_),⟨fun x y _ hn ha=>hn ?_,Step.refl _ _⟩⟩
 ·have:=ho.cells (g:=g) rfl j v hj
  rw [qbx] at this
  dsimp only
  exact this
 ·obtain ⟨h1,h2⟩:=hlt i r hi
  exact hW.rr k i _ r (fun e=>h1 e.symm) hk h2 g rfl he
 rcases ha with ⟨j,q,hj,h1,h2,h3,h4⟩ | ⟨j,r,hj,h1⟩
 ·by_cases hjt:j < tb.length
  ·rw [List.getElem?_append_left hjt] at hj
   exact .inl ⟨j,q,hj,h1,h2,h3,h4⟩
  rw [List.getElem?_append_right (Nat.not_lt.1 hjt)] at hj
  have hq:q = ⟨g,0,xs,true⟩:=by
   rcases Nat.eq_zero_or_pos (j - tb.length) with h | h
   ·rw [h] at hj; exact (Option.some.inj hj).symm
   rw [List.getElem?_eq_none (by simp only [List.length_cons,List.length_nil]; omega)] at hj; cases hj
  subst hq
  exact .inr ⟨k,_,hk,by rw [← h2]; rfl⟩
 exact .inr ⟨j,r,(hlt j r hj).2,h1⟩
def qcf (z:Value) (j:Nat):List Value:=(Builtin.zeroCells z.cells j).toList
variable {P:Program} {ops:Array Oper} {Q:Exit → Act → World → Prop} {n:Nat} {env:Env} {a:Act}
theorem qdY {w:World} (size len cap:Nat) (A:Option Addr):(Builtin.firstCells size 0 (.slice A len cap)).run P w = .ok #[] w:=by
 cases A with
 | none=>exact run_firstCells_none w size 0 len cap
 | some b=>exact run_firstCells_some w size 0 b len cap [] (by simp) (fun j v h=>by simp at h)
theorem qeF (w:World) (t tn ty e:TypeId) (A0:Option Addr) (i:TypeInfo) (z:Value) (k kn:IntKind) (ht:P.underlying t = some (.slice e)) (htn:P.underlying tn = some (.int kn)) (hi:P.info? e = some i) (hz:i.zero = some z)
  (n:Nat) (h0:0 < n) (hs:0 < i.size) (h63:(n:Int) ≤ 9223372036854775807) (h48:n * i.bytes ≤ 281474976710656) :
  (Builtin.append_ #[t,tn] ty #[.slice A0 0 0,.int k n]).run P w =
   .ok (.slice (some ⟨w.heap.size,0,none⟩) n (grownCap w n 0 e)) (w.drew.alloc (.cells (Builtin.zeroCells z.cells n ++ Builtin.zeroCells z.cells (grownCap w n 0 e - n)) e)):=by
 cases A0 with
 | none=>exact Lib.run_append_nil_zeros w t tn ty e i z k kn ht htn hi hz n h0 hs h63 h48
 | some b =>
  have hn:n ≠ 0:=by omega
  have hw:IntKind.i64.wrap (n:Int) = n:=by rw [IntKind.wrap_i64]; omega
  have h63':¬ (9223372036854775807 < (n:Int)):=by omega
  have h48':¬ (281474976710656 < Builtin.nextslicecap n 0 * i.bytes):=by rw [nextslicecap_zero h0]; omega
  have h48i:¬ (281474976710656 < (n:Int) * (i.bytes:Int)):=by
   rw [← Int.natCast_mul]
   omega
  have hneg:¬ ((n:Int) < 0):=by omega
  have hns:¬ (n * i.size = 0):=Nat.mul_ne_zero hn (by omega)
  simp [Builtin.append_,run_underlying ht,run_underlying htn,sizeOf,typeInfo,zeroValue,hi,hz,asInt,asIntOf,hw,hn,hneg,hns,h63',h48',h48i,Question.forced,qdY,newRow,grownCap]
theorem qgB {i d j:Nat} {A0:Option Addr} {t tn e:TypeId} {size bytes:Nat} {k kn:IntKind} {q:Int} {z:Value} {N:Act → World → Prop} (hW:WOk w0 M w tb rs) (hE:EnvOk n tb env a)
  (h:appE tb env ops n i = some (t,tn,.slice A0 0 0,.int k q,d)) (ht:qcg P t = some (e,size,bytes)) (htn:P.underlying tn = some (.int kn)) (hz:(P.info? e).bind (·.zero) = some z)
  (hq:q = (j:Int)) (hj:0 < j) (hb:j * bytes ≤ 140737488355328)
  (K:∀ b c a' w',b = w.heap.size → w0.heap.size ≤ b → Fr w tb rs w' tb (rs ++ [⟨some ⟨b,0,none⟩,c,e,size,j,qcf z j⟩]) → WOk w0 M w' tb (rs ++ [⟨some ⟨b,0,none⟩,c,e,size,j,qcf z j⟩]) →
   EnvOk n tb ((d,.v (.slice (some ⟨b,0,none⟩) j c)) :: env) a' → N a' w'):wpOp P ops Q i N a w:=by
 subst hq
 obtain ⟨ht',inf,z',hi,hz',hzs,hs1,rfl,hsz,hbp⟩:=qb9 ht
 have hzz:z' = z:=by rw [hi] at hz; simpa [hz'] using hz
 subst hzz
 obtain ⟨op,ho,hd,hrun⟩:=qgE (P:=P) (w:=w) hE h
 obtain ⟨o,h1,h2,h3,h4,h5⟩:=qa7 hE ho
 have hjm:j ≤ maxLen:=by
  have:=Nat.le_mul_of_pos_right j hbp
  simp only [maxLen]; omega
 have hr:=qeF (P:=P) w t tn o.type e A0 inf z' k kn ht' htn hi hz' j hj (by omega) (by simp only [maxLen] at hjm; omega) (by omega)
 have hge:=grownCap_ge w j 0 e
 have hcm:=grownCap_le_maxLen w j 0 e hjm
 have hst:Step w (w.drew.alloc (.cells (Builtin.zeroCells z'.cells j ++ Builtin.zeroCells z'.cells (grownCap w j 0 e - j)) e)) Nil:=(Step.drew w).trans (Step.alloc _ _) fun _ _ _ h=>h
 have hown:(w.drew.alloc (.cells (Builtin.zeroCells z'.cells j ++ Builtin.zeroCells z'.cells (grownCap w j 0 e - j)) e)).ownsRow w.heap.size e size (.slice (some ⟨w.heap.size,0,none⟩) j (grownCap w j 0 e)) j (qcf z' j):=by
  refine ⟨by unfold qcf; rw [Array.length_toList,size_zeroCells,hzs,hs1],.inr ⟨w.heap.size,grownCap w j 0 e,_,rfl,Nat.le_refl _,qcU w.drew _,hge,hcm,?_,?_⟩⟩
  ·rw [Array.size_append,size_zeroCells,size_zeroCells,hzs,hs1,← Nat.add_mul]
   congr 1
   omega
  unfold qcf
  rw [Array.toList_append]
  exact List.take_left' (by rw [Array.length_toList,size_zeroCells,hzs,hs1])
 simp only [wpOp,h1]
 have:Region.wanted o (yielded ops a.tmps) = true:=by first | exact h2 | simp [Region.wanted,h2]
 rw [this]
 simp only [if_true]
 refine .inl ?_
 unfold Oper.wp
 rw [hrun o _ _ h5 hr,Oper.upon,h3]
 exact K w.heap.size _ _ _ rfl hW.step.size (Fr.fresh tb rs hst ⟨some ⟨w.heap.size,0,none⟩,grownCap w j 0 e,e,size,j,qcf z' j⟩ (Nat.le_refl _) hown) (hW.fresh hst ⟨some ⟨w.heap.size,0,none⟩,grownCap w j 0 e,e,size,j,qcf z' j⟩ (Nat.le_refl _) hown) (hE.put hd (.v _) trivial)
theorem qg7 (z:Value) (j:Nat):qcf z (j + 1) = z.cells.toList ++ qcf z j:=by
 refine List.ext_getElem? fun i=>?_
 unfold qcf Builtin.zeroCells
 rw [List.getElem?_append]
 simp only [Array.toList_map,Array.toList_range,List.getElem?_map,Array.length_toList,Array.getElem?_toList]
 by_cases h:i < z.cells.size
 ·have h2:i < (j + 1) * z.cells.size:=Nat.lt_of_lt_of_le h (Nat.le_mul_of_pos_left _ (Nat.succ_pos j))
  rw [if_pos h,List.getElem?_range h2,Option.map_some,Nat.mod_eq_of_lt h,getElem!_pos z.cells i h,Array.getElem?_eq_getElem h]
 rw [if_neg h]
 by_cases h2:i < (j + 1) * z.cells.size
 ·have h3:i - z.cells.size < j * z.cells.size:=by rw [Nat.succ_mul] at h2; omega
  rw [List.getElem?_range h2,List.getElem?_range h3,Option.map_some,Option.map_some,Nat.mod_eq_sub_mod (Nat.not_lt.1 h)]
 have h3:¬ i - z.cells.size < j * z.cells.size:=by rw [Nat.succ_mul] at h2; omega
 rw [List.getElem?_eq_none (by simpa using h2),List.getElem?_eq_none (by simpa using h3)]
end
abbrev qbT:=World → (Nat → Nat → Prop) → Prop
structure MvF (P:qbT):Prop where
 move:∀ {w w':World} {F F' M:Nat → Nat → Prop},Step w w' M → (∀ b o,F b o → b < w.heap.size → ¬ M b o) → (∀ b o,F b o → b < w.heap.size → F' b o) → P w F → P w' F'
def noF:qbT:=fun _ _=>True
def andF (P Q:qbT):qbT:=fun w F=>P w F ∧ Q w F
def isF (p:Prop):qbT:=fun _ _=>p
theorem MvF.no:MvF noF:=⟨fun _ _ _ _=>trivial⟩
theorem MvF.and {P Q:qbT} (h:MvF P) (h':MvF Q):MvF (andF P Q):=⟨fun hs hM hF g=>⟨h.move hs hM hF g.1,h'.move hs hM hF g.2⟩⟩
theorem MvF.is (p:Prop):MvF (isF p):=⟨fun _ _ _ g=>g⟩
theorem MvF.mono {P:qbT} (h:MvF P) {w:World} {F F':Nat → Nat → Prop} (hF:∀ b o,F b o → b < w.heap.size → F' b o) (g:P w F):P w F':=h.move (Step.refl w Nil) nilM hF g
def qg8 (A:Option Addr) (X:Bs):qbT:=fun w F=>∀ ad,A = some ad → ∃ b o,ad = ⟨b,o,none⟩ ∧ AtF w F b o [.string (bs X)]
theorem MvF.text (A:Option Addr) (X:Bs):MvF (qg8 A X):=⟨fun hs hM hF g ad hA=>by
 obtain ⟨b,o,h1,h2⟩:=g ad hA
 exact ⟨b,o,h1,h2.move hs hM hF⟩⟩
def qk4 (A:Option Addr) (c:Nat) (X:Bs):qbT:=fun w F=>Octs w F A c X
theorem MvF.octs (A:Option Addr) (c:Nat) (X:Bs):MvF (qk4 A c X):=⟨fun hs hM hF g=>Octs.move g hs hM hF⟩
def qlC (m:Option Nat) (u:List (Int × Bs)):qbT:=fun w F=>MapR w F m u
theorem MvF.tags (m:Option Nat) (u:List (Int × Bs)):MvF (qlC m u):=⟨fun hs hM hF g=>MapR.move g hs hM hF⟩
def atF (b o:Nat) (cs:List Value):qbT:=fun w F=>AtF w F b o cs
theorem MvF.at_ (b o:Nat) (cs:List Value):MvF (atF b o cs):=⟨fun hs hM hF g=>AtF.move g hs hM hF⟩
abbrev rdo (br:Nat) (A:Option Addr) (m c:Nat):Ob:=⟨br,0,[.slice A m c,.bool false],true⟩
theorem qk5 {br:Nat} {A A':Option Addr} {m c m' c':Nat} {tb:Tb} {rs:List Rw} {b o:Nat} (h:Act_ (rdo br A m c :: tb) rs b o):Act_ (rdo br A' m' c' :: tb) rs b o:=by
 rcases h with ⟨i,ob,hi,h1⟩ | h
 ·cases i with
  | zero =>
   simp only [List.getElem?_cons_zero,Option.some.injEq] at hi
   subst hi
   exact .inl ⟨0,_,rfl,h1⟩
  | succ i=>exact .inl ⟨i + 1,ob,hi,h1⟩
 exact .inr h
theorem qfZ {G:Nat → Nat → Prop} {w0 w:World} {br:Nat} {A A':Option Addr} {m c m' c':Nat} {tb:Tb} {rs:List Rw} {b o:Nat} (h:Imm G w0 w (rdo br A m c :: tb) rs b o):Imm G w0 w (rdo br A' m' c' :: tb) rs b o :=
 ⟨h.1,h.2.1,fun ha=>h.2.2 (qk5 ha)⟩
theorem EnvOk.rdo {n br:Nat} {A A':Option Addr} {m c m' c':Nat} {tb:Tb} {env:Env} {a:Act} (h:EnvOk n (rdo br A m c :: tb) env a):EnvOk n (rdo br A' m' c' :: tb) env a:=by
 refine h.table fun i hi=>?_
 cases i with
 | zero=>exact ⟨by simp,rfl,rfl⟩
 | succ i=>exact ⟨by simpa using hi,rfl,rfl⟩
structure RS (w0:World) (M F:Nat → Nat → Prop) (n br:Nat) (tb:Tb) (env:Env) (P:qbT) (s:Bs) (a:Act) (w:World):Prop where
 mv:MvF P
 ex:∃ A m c,WOk w0 M w (rdo br A m c :: tb) [] ∧ RdS w (Imm F w0 w (rdo br none 0 0 :: tb) []) A m c s
 env_:EnvOk n (rdo br none 0 0 :: tb) env a
 fact:P w (Imm F w0 w (rdo br none 0 0 :: tb) [])
section
variable {Pr:Program} {ops opsA opsB opsC:Array Oper} {Q:Exit → Act → World → Prop} {w0:World} {M F:Nat → Nat → Prop} {n br:Nat} {tb:Tb} {env:Env} {P:qbT} {s:Bs} {a:Act} {w:World}
theorem RS.mk' {A:Option Addr} {m c:Nat} (hW:WOk w0 M w (rdo br A m c :: tb) []) (hr:RdS w (Imm F w0 w (rdo br A m c :: tb) []) A m c s) (hE:EnvOk n (rdo br A m c :: tb) env a) (mv:MvF P) (hP:P w (Imm F w0 w (rdo br A m c :: tb) [])):RS w0 M F n br tb env P s a w :=
 ⟨mv,⟨A,m,c,hW,hr.move (Step.refl w Nil) nilM fun b o h _=>qfZ h⟩,hE.rdo,mv.mono (fun b o h _=>qfZ h) hP⟩
theorem RS.open_ (h:RS w0 M F n br tb env P s a w):∃ A m c,WOk w0 M w (rdo br A m c :: tb) [] ∧ RdS w (Imm F w0 w (rdo br A m c :: tb) []) A m c s ∧ EnvOk n (rdo br A m c :: tb) env a ∧ P w (Imm F w0 w (rdo br A m c :: tb) []):=by
 obtain ⟨A,m,c,hW,hr⟩:=h.ex
 exact ⟨A,m,c,hW,hr.move (Step.refl w Nil) nilM fun b o h _=>qfZ h,h.env_.rdo,h.mv.mono (fun b o h _=>qfZ h) h.fact⟩
theorem RS.cast {t:Bs} (h:RS w0 M F n br tb env P s a w) (e:s = t):RS w0 M F n br tb env P t a w:=e ▸ h
theorem RS.weak {P':qbT} (h:RS w0 M F n br tb env P s a w) (mv:MvF P') (hP:∀ w F,P w F → P' w F):RS w0 M F n br tb env P' s a w:=⟨mv,h.ex,h.env_,hP _ _ h.fact⟩
theorem RS.pk {env':Env} (h:RS w0 M F n br tb env P s a w) (e:ME.pick env (qbt env') = some env':=by kernel_rfl):RS w0 M F n br tb env' P s a w:=⟨h.mv,h.ex,h.env_.pk e,h.fact⟩
theorem RS.envEq {env':Env} (h:RS w0 M F n br tb env P s a w) (e:env = env'):RS w0 M F n br tb env' P s a w:=e ▸ h
theorem RS.tbEq {tb':Tb} (h:RS w0 M F n br tb env P s a w) (e:tb = tb'):RS w0 M F n br tb' env P s a w:=e ▸ h
theorem RS.recast (h:RS w0 M F n br tb env P s a w) (k:Nat) (x y:SV) (hx:lk env k = some x) (hy:y.val (rdo br none 0 0 :: tb) = x.val (rdo br none 0 0 :: tb)) (ho:y.ok (rdo br none 0 0 :: tb)):RS w0 M F n br tb ((k,y) :: env) P s a w:=⟨h.mv,h.ex,h.env_.recast k x y hx hy ho,h.fact⟩
theorem qdZ {L:List Nat} (idxs rest:List Nat) (env':Env) (h:RS w0 M F n br tb env P s a w) (k:∀ a',RS w0 M F n br tb env' P s a' w → wpOps Pr ops Q rest a' w) (e:∀ A m c,qbL Pr ops n (rdo br A m c :: tb) idxs (qbt env') env = some env':=by intro _ _ _; kernel_rfl) (hl:L = idxs ++ rest:=by rfl):wpOps Pr ops Q L a w:=by
 obtain ⟨A,m,c,hW,hr,hE,hP⟩:=h.open_
 exact qaN idxs rest (qbt env') hW hE (e A m c) hl fun a' hE'=>k a' (RS.mk' hW hr hE' h.mv hP)
theorem qbn {id:Nat} (env':Env) (h:RS w0 M F n br tb env P s a w) (k:∀ a',RS w0 M F n br tb env' P s a' w → Q .normal a' w) (e:∀ A m c,qbL Pr ops n (rdo br A m c :: tb) (List.range ops.size) (qbt env') env = some env':=by intro _ _ _; kernel_rfl):(Code.region id ops false).wp Pr Q a w :=
 qap (List.range ops.size) rfl (qdZ (List.range ops.size) [] env' h (fun a' h'=>qad (k a' h')) e (List.append_nil _).symm)
theorem qlD {id:Nat} {y:Code} (env':Env) (h:RS w0 M F n br tb env P s a w) (k:∀ a',RS w0 M F n br tb env' P s a' w → y.wp Pr Q a' w) (e:∀ A m c,qbL Pr ops n (rdo br A m c :: tb) (List.range ops.size) (qbt env') env = some env':=by intro _ _ _; kernel_rfl):(Code.seq (.region id ops false) y).wp Pr Q a w :=
 wp_seq (qbn env' h (fun a' h'=>qaa (k a' h')) e)
def qf0 (Pr:Program) (f:FuncId) {τ:Type} (X rest:Bs) (val:τ → Value) (fact:τ → qbT):Prop :=
 ∀ {br:Nat} {A:Option Addr} {m c:Nat} {w:World} {F:Nat → Nat → Prop},Str w br [.slice A m c,.bool false] → RdS w F A m c (X ++ rest) → (∀ b o,F b o → ¬ RdM br b o) →
  Calls Pr f #[.pointer (some ⟨br,0,none⟩)] w (RdPost w br (Fp F w) rest fun v w'=>∃ x,v = val x ∧ fact x w' (Fp F w))
def qcS (Pr:Program) (f:FuncId) (X rest:Bs) (v0:Value):Prop :=
 ∀ {br:Nat} {A:Option Addr} {m c:Nat} {w:World} {F:Nat → Nat → Prop},Str w br [.slice A m c,.bool false] → RdS w F A m c (X ++ rest) → (∀ b o,F b o → ¬ RdM br b o) →
  Calls Pr f #[.pointer (some ⟨br,0,none⟩)] w (RdPost w br (Fp F w) rest fun v w'=>v = v0)
theorem RdPost.fp {w:World} {br:Nat} {F:Nat → Nat → Prop} {rest:Bs} {Q Q':Value → World → Prop} {e:Ending} {w':World} (hq:∀ v w',Q v w' → Q' v w') (h:RdPost w br F rest Q e w'):RdPost w br (Fp F w) rest Q' e w':=by
 obtain ⟨v,A',n',c',h1,h2,h3,h4,h5⟩:=h
 exact ⟨v,A',n',c',h1,h2,h3.move (Step.refl _ Nil) nilM fun b o g _=>.inl g,h4,hq _ _ h5⟩
theorem RdPost.q {w:World} {br:Nat} {F:Nat → Nat → Prop} {rest:Bs} {Q Q':Value → World → Prop} {e:Ending} {w':World} (hq:∀ v w',Q v w' → Q' v w') (h:RdPost w br F rest Q e w'):RdPost w br F rest Q' e w':=by
 obtain ⟨v,A',n',c',h1,h2,h3,h4,h5⟩:=h
 exact ⟨v,A',n',c',h1,h2,h3,h4,hq _ _ h5⟩
theorem qg9 {i d:Nat} {f:FuncId} {τ:Type} {X rest:Bs} {val:τ → Value} {fact:τ → qbT} {N:Act → World → Prop} (h:RS w0 M F n br tb env P (X ++ rest) a w) (hc:qf0 Pr f X rest val fact) (hm:∀ x,MvF (fact x))
  (hf:∀ args w,(callFunc f args).run Pr w = .ok (.enter f args) w) (K:∀ x P' a' w',(∀ w F,P' w F → P w F ∧ fact x w F) → RS w0 M F n br tb ((d,.v (val x)) :: env) P' rest a' w' → N a' w')
  (he:∀ A m c,qcP (rdo br A m c :: tb) env ops n i = some (f,[.pointer (some ⟨br,0,none⟩)],d):=by intro _ _ _; kernel_rfl):wpOp Pr ops Q i N a w:=by
 obtain ⟨A,m,c,hW,hr,hE,hP⟩:=h.open_
 refine qal hE (he A m c) hf (hc (Str.of hW 0 rfl) hr (qch 0 rfl)) ?_
 rintro e_ w1 ⟨_,A1,n1,c1,rfl,hs,hr1,hst,x,rfl,hx⟩
 refine ⟨_,rfl,fun a1 hE1=>?_⟩
 obtain ⟨hW2,hF2,hL⟩:=hW.wrote 0 (rdo br A1 n1 c1 :: tb) rfl hst hs
 exact K x (andF P (fact x)) a1 w1 (fun _ _ g=>g) (RS.mk' hW2 (hr1.move (Step.refl _ Nil) nilM hL) hE1.rdo (h.mv.and (hm x)) ⟨h.mv.move hF2.step immM hF2.to' hP,(hm x).mono hL hx⟩)
theorem qf1 {i d:Nat} {f:FuncId} {X rest:Bs} {v0:Value} {N:Act → World → Prop} (h:RS w0 M F n br tb env P (X ++ rest) a w) (hc:qcS Pr f X rest v0)
  (hf:∀ args w,(callFunc f args).run Pr w = .ok (.enter f args) w) (K:∀ a' w',RS w0 M F n br tb ((d,.v v0) :: env) P rest a' w' → N a' w')
  (he:∀ A m c,qcP (rdo br A m c :: tb) env ops n i = some (f,[.pointer (some ⟨br,0,none⟩)],d):=by intro _ _ _; kernel_rfl):wpOp Pr ops Q i N a w:=by
 obtain ⟨A,m,c,hW,hr,hE,hP⟩:=h.open_
 refine qal hE (he A m c) hf (hc (Str.of hW 0 rfl) hr (qch 0 rfl)) ?_
 rintro e_ w1 ⟨_,A1,n1,c1,rfl,hs,hr1,hst,rfl⟩
 refine ⟨_,rfl,fun a1 hE1=>?_⟩
 obtain ⟨hW2,hF2,hL⟩:=hW.wrote 0 (rdo br A1 n1 c1 :: tb) rfl hst hs
 exact K a1 w1 (RS.mk' hW2 (hr1.move (Step.refl _ Nil) nilM hL) hE1.rdo h.mv (h.mv.move hF2.step immM hF2.to' hP))
theorem qha {i d:Nat} {f:FuncId} {v0:Value} {N:Act → World → Prop} (h:RS w0 M F n br tb env P s a w) (hc:∀ {br:Nat} {A:Option Addr} {m c:Nat} {w:World},Str w br [.slice A m c,.bool false] → Calls Pr f #[.pointer (some ⟨br,0,none⟩)] w (fun e w'=>e = .returned v0 ∧ w' = w))
  (hf:∀ args w,(callFunc f args).run Pr w = .ok (.enter f args) w) (K:∀ a',RS w0 M F n br tb ((d,.v v0) :: env) P s a' w → N a' w)
  (he:∀ A m c,qcP (rdo br A m c :: tb) env ops n i = some (f,[.pointer (some ⟨br,0,none⟩)],d):=by intro _ _ _; kernel_rfl):wpOp Pr ops Q i N a w:=by
 obtain ⟨A,m,c,hW,hr,hE,hP⟩:=h.open_
 refine qal hE (he A m c) hf (hc (Str.of hW 0 rfl)) ?_
 rintro e_ _ ⟨rfl,rfl⟩
 exact ⟨_,rfl,fun a1 hE1=>K a1 (RS.mk' hW hr hE1 h.mv hP)⟩
theorem qeU {i:Nat} (tb':Tb) (j:Nat) {N:Act → World → Prop} (h:RS w0 M F n br tb env P s a w) (K:∀ w',RS w0 M F n br tb' env P s a w' → N a w')
  (he:∀ A m c,qhf Pr (rdo br A m c :: tb) env ops i = some (j + 1,(obAt tb' j).cells):=by intro _ _ _; kernel_rfl) (ht:Tb.put tb j (obAt tb' j).cells = tb':=by rfl):wpOp Pr ops Q i N a w:=by
 obtain ⟨A,m,c,hW,hr,hE,hP⟩:=h.open_
 refine qaH hW hE (he A m c) fun w1 hF1 hW1 hE1=>K w1 ?_
 have e:Tb.put (rdo br A m c :: tb) (j + 1) (obAt tb' j).cells = rdo br A m c :: tb':=by
  show rdo br A m c :: Tb.put tb j (obAt tb' j).cells = _
  rw [ht]
 rw [e] at hF1 hW1 hE1
 exact RS.mk' hW1 (hr.move hF1.step immM hF1.to') hE1 h.mv (h.mv.move hF1.step immM hF1.to' hP)
theorem qj6 {i d:Nat} (cs:List Value) {N:Act → World → Prop} (h:RS w0 M F n br tb env P s a w)
  (K:∀ b a' w',w0.heap.size ≤ b → RS w0 M F n br (tb ++ [⟨b,0,cs,true⟩]) ((d,.p (tb.length + 1) 0) :: env) P s a' w' → N a' w')
  (he:qig Pr env ops n i = some (d,cs):=by kernel_rfl):wpOp Pr ops Q i N a w:=by
 obtain ⟨A,m,c,hW,hr,hE,hP⟩:=h.open_
 refine qaY hW hE he fun b a1 w1 hb hb0 hF1 hW1 hE1=>K b a1 w1 hb0 ?_
 exact RS.mk' hW1 (hr.move hF1.step immM hF1.to') hE1 h.mv (h.mv.move hF1.step immM hF1.to' hP)
theorem qfC {k:Nat} (h:Nat.blt 0 k = true):List.range k = [0] ++ (List.range k).drop 1:=by
 cases k with
 | zero=>cases h
 | succ k=>rw [List.range_succ_eq_map]; rfl
theorem qgC {id d:Nat} {f:FuncId} {τ:Type} {X rest:Bs} {val:τ → Value} {fact:τ → qbT} (env':τ → Env) (h:RS w0 M F n br tb env P (X ++ rest) a w) (hc:qf0 Pr f X rest val fact) (hm:∀ x,MvF (fact x))
  (hf:∀ args w,(callFunc f args).run Pr w = .ok (.enter f args) w) (K:∀ x P' a' w',(∀ w F,P' w F → P w F ∧ fact x w F) → RS w0 M F n br tb (env' x) P' rest a' w' → Q .normal a' w')
  (he:∀ A m c,qcP (rdo br A m c :: tb) env ops n 0 = some (f,[.pointer (some ⟨br,0,none⟩)],d):=by intro _ _ _; kernel_rfl)
  (e:∀ x A m c,qbL Pr ops n (rdo br A m c :: tb) ((List.range ops.size).drop 1) (qbt (env' x)) ((d,.v (val x)) :: env) = some (env' x):=by intro _ _ _ _; kernel_rfl) (hs:Nat.blt 0 ops.size = true:=by kernel_rfl):(Code.region id ops false).wp Pr Q a w:=by
 refine qap _ (qfC hs) (qak (qg9 h hc hm hf (fun x P' a' w' hP hS=>?_) he))
 exact qdZ ((List.range ops.size).drop 1) [] (env' x) hS (fun a2 h2=>qad (K x P' a2 w' hP h2)) (e x) (List.append_nil _).symm
theorem qfk {id d:Nat} {f:FuncId} {X rest:Bs} {v0:Value} (env':Env) (h:RS w0 M F n br tb env P (X ++ rest) a w) (hc:qcS Pr f X rest v0)
  (hf:∀ args w,(callFunc f args).run Pr w = .ok (.enter f args) w) (K:∀ a' w',RS w0 M F n br tb env' P rest a' w' → Q .normal a' w')
  (he:∀ A m c,qcP (rdo br A m c :: tb) env ops n 0 = some (f,[.pointer (some ⟨br,0,none⟩)],d):=by intro _ _ _; kernel_rfl)
  (e:∀ A m c,qbL Pr ops n (rdo br A m c :: tb) ((List.range ops.size).drop 1) (qbt env') ((d,.v v0) :: env) = some env':=by intro _ _ _; kernel_rfl) (hs:Nat.blt 0 ops.size = true:=by kernel_rfl):(Code.region id ops false).wp Pr Q a w:=by
 refine qap _ (qfC hs) (qak (qf1 h hc hf (fun a' w' hS=>?_) he))
 exact qdZ ((List.range ops.size).drop 1) [] env' hS (fun a2 h2=>qad (K a2 w' h2)) e (List.append_nil _).symm
theorem qlE {idA idB idC d1 d2:Nat} {o:Operand} {b:Bool} {f1 f2:FuncId} {τ:Type} {X1 X2 rest:Bs} {val:τ → Value} {fact:τ → qbT} (envA:Env) (env':τ → Env) (h:RS w0 M F n br tb env P ((if b = true then X1 else X2) ++ rest) a w)
  (hc1:qf0 Pr f1 X1 rest val fact) (hf1:∀ args w,(callFunc f1 args).run Pr w = .ok (.enter f1 args) w) (hc2:qf0 Pr f2 X2 rest val fact) (hf2:∀ args w,(callFunc f2 args).run Pr w = .ok (.enter f2 args) w) (hm:∀ x,MvF (fact x))
  (K:∀ x P' a' w',(∀ w F,P' w F → P w F ∧ fact x w F) → RS w0 M F n br tb (env' x) P' rest a' w' → Q .normal a' w')
  (eA:∀ A m c,qbL Pr opsA n (rdo br A m c :: tb) (List.range opsA.size) (qbt envA) env = some envA:=by intro _ _ _; kernel_rfl) (ho:opd envA o = some (.v (.bool b)):=by kernel_rfl)
  (he1:∀ A m c,qcP (rdo br A m c :: tb) envA opsB n 0 = some (f1,[.pointer (some ⟨br,0,none⟩)],d1):=by intro _ _ _; kernel_rfl) (he2:∀ A m c,qcP (rdo br A m c :: tb) envA opsC n 0 = some (f2,[.pointer (some ⟨br,0,none⟩)],d2):=by intro _ _ _; kernel_rfl)
  (e1:∀ x A m c,qbL Pr opsB n (rdo br A m c :: tb) ((List.range opsB.size).drop 1) (qbt (env' x)) ((d1,.v (val x)) :: envA) = some (env' x):=by intro _ _ _ _; kernel_rfl) (e2:∀ x A m c,qbL Pr opsC n (rdo br A m c :: tb) ((List.range opsC.size).drop 1) (qbt (env' x)) ((d2,.v (val x)) :: envA) = some (env' x):=by intro _ _ _ _; kernel_rfl)
  (hs1:Nat.blt 0 opsB.size = true:=by kernel_rfl) (hs2:Nat.blt 0 opsC.size = true:=by kernel_rfl):(Code.seq (.region idA opsA false) (.cond o (.region idB opsB false) (.region idC opsC false))).wp Pr Q a w :=
 qlD envA h (fun a1 h1=>qau h1.env_ ho (fun hb=>qgC env' (h1.cast (by rw [if_pos hb])) hc1 hm hf1 K he1 e1 hs1) (fun hb=>qgC env' (h1.cast (by rw [hb]; rfl)) hc2 hm hf2 K he2 e2 hs2)) eA
theorem qf2 {idA idB idC d1 d2:Nat} {o:Operand} {b:Bool} {f1 f2:FuncId} {X1 X2 rest:Bs} {v0:Value} (envA env':Env) (h:RS w0 M F n br tb env P ((if b = true then X1 else X2) ++ rest) a w)
  (hc1:qcS Pr f1 X1 rest v0) (hf1:∀ args w,(callFunc f1 args).run Pr w = .ok (.enter f1 args) w) (hc2:qcS Pr f2 X2 rest v0) (hf2:∀ args w,(callFunc f2 args).run Pr w = .ok (.enter f2 args) w)
  (K:∀ a' w',RS w0 M F n br tb env' P rest a' w' → Q .normal a' w')
  (eA:∀ A m c,qbL Pr opsA n (rdo br A m c :: tb) (List.range opsA.size) (qbt envA) env = some envA:=by intro _ _ _; kernel_rfl) (ho:opd envA o = some (.v (.bool b)):=by kernel_rfl)
  (he1:∀ A m c,qcP (rdo br A m c :: tb) envA opsB n 0 = some (f1,[.pointer (some ⟨br,0,none⟩)],d1):=by intro _ _ _; kernel_rfl) (he2:∀ A m c,qcP (rdo br A m c :: tb) envA opsC n 0 = some (f2,[.pointer (some ⟨br,0,none⟩)],d2):=by intro _ _ _; kernel_rfl)
  (e1:∀ A m c,qbL Pr opsB n (rdo br A m c :: tb) ((List.range opsB.size).drop 1) (qbt env') ((d1,.v v0) :: envA) = some env':=by intro _ _ _; kernel_rfl) (e2:∀ A m c,qbL Pr opsC n (rdo br A m c :: tb) ((List.range opsC.size).drop 1) (qbt env') ((d2,.v v0) :: envA) = some env':=by intro _ _ _; kernel_rfl)
  (hs1:Nat.blt 0 opsB.size = true:=by kernel_rfl) (hs2:Nat.blt 0 opsC.size = true:=by kernel_rfl):(Code.seq (.region idA opsA false) (.cond o (.region idB opsB false) (.region idC opsC false))).wp Pr Q a w :=
 qlD envA h (fun a1 h1=>qau h1.env_ ho (fun hb=>qfk env' (h1.cast (by rw [if_pos hb])) hc1 hf1 K he1 e1 hs1) (fun hb=>qfk env' (h1.cast (by rw [hb]; rfl)) hc2 hf2 K he2 e2 hs2)) eA
def stoE (P:Program) (ops:Array Oper) (n:Nat) (tb:Tb) (env:Env) (keys:List Nat):Option (Nat × List Value × Env) :=
 match runs P ops n tb (List.range (ops.size - 1)) env with
 | some e=>match qhf P tb e ops (ops.size - 1),pick e keys with
  | some (i,cs),some e'=>some (i,cs,e')
  | _,_=>none
 | none=>none
theorem qc4 {id:Nat} (tb':Tb) (j:Nat) (env':Env) (h:RS w0 M F n br tb env P s a w) (K:∀ a' w',RS w0 M F n br tb' env' P s a' w' → Q .normal a' w')
  (he:∀ A m c,stoE Pr ops n (rdo br A m c :: tb) env (qbt env') = some (j + 1,(obAt tb' j).cells,env'):=by intro _ _ _; kernel_rfl) (ht:Tb.put tb j (obAt tb' j).cells = tb':=by rfl) (hs:Nat.blt 0 ops.size = true:=by kernel_rfl):(Code.region id ops false).wp Pr Q a w:=by
 obtain ⟨A,m,c,hW,hr,hE,hP⟩:=h.open_
 have h1:=he A m c
 unfold stoE at h1
 split at h1
 ·rename_i e he'
  split at h1
  ·rename_i i cs e' g1 g2
   simp only [Option.some.injEq,Prod.mk.injEq] at h1
   obtain ⟨rfl,rfl,rfl⟩:=h1
   have hr0:List.range ops.size = List.range (ops.size - 1) ++ [ops.size - 1]:=by
    have:0 < ops.size:=by simpa [Nat.blt_eq] using hs
    rw [← List.range_succ]; congr 1; omega
   refine qap _ hr0 (qbe hW.cells hE he' fun a1 hE1=>qak (qaH hW hE1 g1 fun w1 hF1 hW1 hE2=>qad (K a1 w1 ?_)))
   have e:Tb.put (rdo br A m c :: tb) (j + 1) (obAt tb' j).cells = rdo br A m c :: tb':=by
    show rdo br A m c :: Tb.put tb j (obAt tb' j).cells = _
    rw [ht]
   rw [e] at hF1 hW1 hE2
   exact RS.mk' hW1 (hr.move hF1.step immM hF1.to') (hE2.pick g2) h.mv (h.mv.move hF1.step immM hF1.to' hP)
  cases h1
 cases h1
theorem qh9 {A0:Option Addr} {i d j:Nat} {t tn e:TypeId} {size bytes:Nat} {k kn:IntKind} {q:Int} (z:Value) {N:Act → World → Prop} (h:RS w0 M F n br tb env P s a w)
  (K:∀ g c a' w',w0.heap.size ≤ g → j ≤ c → RS w0 M F n br (tb ++ [⟨g,0,qcf z j,true⟩]) ((d,.v (.slice (some ⟨g,0,none⟩) j c)) :: env) P s a' w' → N a' w')
  (hq:q = (j:Int)) (hj:0 < j) (hb:j * bytes ≤ 140737488355328)
  (he:∀ A m c,appE (rdo br A m c :: tb) env ops n i = some (t,tn,.slice A0 0 0,.int k q,d):=by intro _ _ _; kernel_rfl) (ht:qcg Pr t = some (e,size,bytes):=by kernel_rfl) (htn:Pr.underlying tn = some (.int kn):=by kernel_rfl) (hz:(Pr.info? e).bind (·.zero) = some z:=by kernel_rfl):wpOp Pr ops Q i N a w:=by
 obtain ⟨A,m,c,hW,hr,hE,hP⟩:=h.open_
 refine qgB hW hE (he A m c) ht htn hz hq hj hb fun g c1 a1 w1 hg hg0 hF1 hW1 hE1=>?_
 have hP1:=h.mv.move hF1.step immM hF1.to' hP
 have hr1:=hr.move hF1.step immM hF1.to'
 have hcap:j ≤ c1:=by
  obtain ⟨A',c',hv,_,_,h4⟩:=qeP (hW1.own 0 _ rfl)
  simp only [Rw.v,Value.slice.injEq,true_and] at hv
  rw [hv.2]; exact h4
 obtain ⟨hW2,hF2⟩:=hW1.layRowM (k:=0) rfl rfl hg0 [] (rdo br A m c :: (tb ++ [⟨g,0,qcf z j,true⟩])) rfl rfl
 exact K g c1 a1 w1 hg0 hcap (RS.mk' hW2 (hr1.move hF2.step immM hF2.to') (hE1.grow ⟨g,0,qcf z j,true⟩) h.mv (h.mv.move hF2.step immM hF2.to' hP1))
end
def qhb:Env → Env
 | []=>[]
 | (k,.v x) :: r=>(k,.v x) :: qhb r
 | (k,.p i j) :: r=>(k,.p (match i with | 0=>1 | 1=>0 | i=>i) j) :: qhb r
theorem qk6 {n:Nat} {o1 o2:Ob} {env:Env} {a:Act} (h:EnvOk n [o1,o2] env a):EnvOk n [o2,o1] (qhb env) a:=by
 have key:∀ (env:Env) (k:Nat) (x:SV),lk (qhb env) k = some x → ∃ y,lk env k = some y ∧ (y.ok [o1,o2] → x.val [o2,o1] = y.val [o1,o2] ∧ x.ok [o2,o1]):=by
  intro env
  induction env with
  | nil=>intro k x hx; cases hx
  | cons e r ih =>
   obtain ⟨k',sv⟩:=e
   intro k x hx
   cases sv with
   | v y =>
    simp only [qhb,lk] at hx ⊢
    split at hx
    ·rename_i hb
     simp only [Option.some.injEq] at hx
     subst hx
     exact ⟨_,rfl,fun _=>⟨rfl,trivial⟩⟩
    exact ih k x hx
   | p i j =>
    simp only [qhb,lk] at hx ⊢
    split at hx
    ·rename_i hb
     simp only [Option.some.injEq] at hx
     subst hx
     refine ⟨_,rfl,fun hok=>?_⟩
     have hok':i < 2:=hok
     match i,hok' with
     | 0,_=>exact ⟨rfl,show 1 < 2 by omega⟩
     | 1,_=>exact ⟨rfl,show 0 < 2 by omega⟩
    exact ih k x hx
 refine ⟨h.defers,h.size,fun k x hx=>?_⟩
 obtain ⟨y,hy,hv⟩:=key env k x hx
 obtain ⟨h1,h2⟩:=h.at_ k y hy
 obtain ⟨h3,h4⟩:=hv h2
 exact ⟨by rw [h3]; exact h1,h4⟩
theorem qcI {α:Type} {x y o:α} {i:Nat} (h:[y,x][i]? = some o):[x,y][1 - i]? = some o ∧ i < 2:=by
 match i,h with
 | 0,h=>exact ⟨h,by omega⟩
 | 1,h=>exact ⟨h,by omega⟩
 | i + 2,h=>simp at h
theorem WOk.swap2 {w0 w:World} {M:Nat → Nat → Prop} {o1 o2:Ob} (h:WOk w0 M w [o1,o2] []):WOk w0 M w [o2,o1] [] :=
 ⟨h.step,fun i o hi=>h.cells _ o (qcI hi).1,fun i o hi=>h.live _ o (qcI hi).1,fun i o hi=>h.rw_ _ o (qcI hi).1,fun i j o o' hij hi hj hw=>h.apart _ _ o o' (by have:=(qcI hi).2; have:=(qcI hj).2; omega) (qcI hi).1 (qcI hj).1 hw,h.own,h.ownM,fun i r hi=>by simp at hi,h.rr⟩
theorem qj7 {o1 o2:Ob} {b o:Nat} (h:Act_ [o2,o1] [] b o):Act_ [o1,o2] [] b o:=by
 rcases h with ⟨i,ob,hi,h1⟩ | ⟨i,r,hi,_⟩
 ·exact .inl ⟨_,ob,(qcI hi).1,h1⟩
 simp at hi
theorem RS.start {w0 w:World} {M F:Nat → Nat → Prop} {n br c:Nat} {A:Option Addr} {o1:Ob} {env:Env} {s:Bs} {a:Act} (hW:WOk w0 M w [o1,rdo br A s.length c] []) (hE:EnvOk n [o1,rdo br A s.length c] env a) (ho:Octs w (Imm F w0 w [o1,rdo br A s.length c] []) A c s) (env':Env) (he:pick (qhb env) (qbt env') = some env':=by kernel_rfl):RS w0 M F n br [o1] env' noF s a w :=
 RS.mk' hW.swap2 ⟨rfl,ho.move (Step.refl w Nil) nilM fun b o h _=>⟨h.1,h.2.1,fun ha=>h.2.2 (qj7 ha)⟩⟩ ((qk6 hE).pick he) MvF.no trivial
theorem qd0 {α:Type} {l:List α} {x y o:α} {i:Nat} (h:(l ++ [x,y])[i]? = some o):(i < l.length ∧ l[i]? = some o) ∨ (i = l.length ∧ o = x) ∨ (i = l.length + 1 ∧ o = y):=by
 rcases Nat.lt_or_ge i l.length with hl | hl
 ·rw [List.getElem?_append_left hl] at h; exact .inl ⟨hl,h⟩
 rw [List.getElem?_append_right hl] at h
 rcases hk:i - l.length with _ | _ | k
 ·rw [hk] at h; exact .inr (.inl ⟨by omega,(Option.some.inj h).symm⟩)
 ·rw [hk] at h; exact .inr (.inr ⟨by omega,(Option.some.inj h).symm⟩)
 rw [hk] at h; simp at h
theorem qeV {α:Type} {l:List α} {x:α}:(l ++ [x])[l.length]? = some x:=by simp
section
variable {w0 w:World} {M:Nat → Nat → Prop} {tb:Tb} {rs:List Rw}
theorem WOk.splitL {b o o2:Nat} {cs1 cs2:List Value} (hW:WOk w0 M w (tb ++ [⟨b,o,cs1 ++ cs2,true⟩]) rs) (ho:o2 = o + cs1.length) :
  WOk w0 M w (tb ++ [⟨b,o2,cs2,true⟩,⟨b,o,cs1,true⟩]) rs ∧ Fr w (tb ++ [⟨b,o,cs1 ++ cs2,true⟩]) rs w (tb ++ [⟨b,o2,cs2,true⟩,⟨b,o,cs1,true⟩]) rs:=by
 subst ho
 have hi:(tb ++ [(⟨b,o,cs1 ++ cs2,true⟩:Ob)])[tb.length]? = some ⟨b,o,cs1 ++ cs2,true⟩:=qeV
 have old:∀ {j:Nat} {q:Ob},j < tb.length → tb[j]? = some q → (tb ++ [(⟨b,o,cs1 ++ cs2,true⟩:Ob)])[j]? = some q:=fun {j q} hj h=>by rw [List.getElem?_append_left hj]; exact h
 have hlen:(cs1 ++ cs2).length = cs1.length + cs2.length:=List.length_append
 have act:∀ x y,Act_ (tb ++ [⟨b,o + cs1.length,cs2,true⟩,⟨b,o,cs1,true⟩]) rs x y → Act_ (tb ++ [⟨b,o,cs1 ++ cs2,true⟩]) rs x y:=fun x y ha=>by
  rcases ha with ⟨j,q,hj,h1,h2,h3,h4⟩ | ha
  ·rcases qd0 hj with ⟨hlt,hj⟩ | ⟨rfl,rfl⟩ | ⟨rfl,rfl⟩
   ·exact .inl ⟨j,q,old hlt hj,h1,h2,h3,h4⟩
   ·exact .inl ⟨_,_,hi,rfl,h2,by dsimp only at h3 ⊢; omega,by dsimp only at h4 ⊢; omega⟩
   exact .inl ⟨_,_,hi,rfl,h2,by dsimp only at h3 ⊢; omega,by dsimp only at h4 ⊢; omega⟩
  exact .inr ha
 refine ⟨⟨hW.step,?_,?_,?_,?_,hW.own,hW.ownM,?_,hW.rr⟩,⟨fun x y _ hn ha=>hn (act x y ha),Step.refl _ _⟩⟩
 ·intro j q hj p v hv
  rcases qd0 hj with ⟨hlt,hj⟩ | ⟨rfl,rfl⟩ | ⟨rfl,rfl⟩
  ·exact hW.cells j q (old hlt hj) p v hv
  ·have:=hW.cells _ _ hi (cs1.length + p) v (by dsimp only at hv ⊢; rw [List.getElem?_append_right (by omega),Nat.add_sub_cancel_left]; exact hv)
   dsimp only at this ⊢
   rwa [Nat.add_assoc]
  exact hW.cells _ _ hi p v (by dsimp only at hv ⊢; rw [List.getElem?_append_left (List.getElem?_eq_some_iff.1 hv).1]; exact hv)
 ·intro j q hj
  rcases qd0 hj with ⟨hlt,hj⟩ | ⟨rfl,rfl⟩ | ⟨rfl,rfl⟩
  ·exact hW.live j q (old hlt hj)
  ·have:=hW.live _ _ hi; exact this
  have:=hW.live _ _ hi; exact this
 ·intro j q hj hr p hp
  rcases qd0 hj with ⟨hlt,hj⟩ | ⟨rfl,rfl⟩ | ⟨rfl,rfl⟩
  ·exact hW.rw_ j q (old hlt hj) hr p hp
  ·have:=hW.rw_ _ _ hi rfl (cs1.length + p) (by dsimp only at hp ⊢; omega)
   dsimp only at this ⊢
   rwa [Nat.add_assoc]
  exact hW.rw_ _ _ hi rfl p (by dsimp only at hp ⊢; omega)
 ·intro j k q q' hjk hj hk hw
  rcases qd0 hj with ⟨hlj,hj⟩ | ⟨rfl,rfl⟩ | ⟨rfl,rfl⟩ <;> rcases qd0 hk with ⟨hlk,hk⟩ | ⟨rfl,rfl⟩ | ⟨rfl,rfl⟩
  ·exact hW.apart j k q q' hjk (old hlj hj) (old hlk hk) hw
  ·have:=hW.apart j _ q _ (by omega) (old hlj hj) hi (.inr rfl)
   dsimp only at this ⊢; omega
  ·have:=hW.apart j _ q _ (by omega) (old hlj hj) hi (.inr rfl)
   dsimp only at this ⊢; omega
  ·have:=hW.apart _ k _ q' (by omega) hi (old hlk hk) (.inl rfl)
   dsimp only at this ⊢; omega
  ·exact absurd rfl hjk
  ·exact .inr (.inr (Nat.le_refl _))
  ·have:=hW.apart _ k _ q' (by omega) hi (old hlk hk) (.inl rfl)
   dsimp only at this ⊢; omega
  ·exact .inr (.inl (Nat.le_refl _))
  exact absurd rfl hjk
 intro j r hj g hg k q hk
 rcases qd0 hk with ⟨hlk,hk⟩ | ⟨rfl,rfl⟩ | ⟨rfl,rfl⟩
 ·exact hW.rtb j r hj g hg k q (old hlk hk)
 ·have:=hW.rtb j r hj g hg _ _ hi; exact this
 have:=hW.rtb j r hj g hg _ _ hi; exact this
theorem WOk.atLast {G:Nat → Nat → Prop} {b o:Nat} {cs:List Value} (hW:WOk w0 M w (tb ++ [⟨b,o,cs,true⟩]) []) (hb:w0.heap.size ≤ b):AtF w (Imm G w0 w tb []) b o cs:=fun j v hj=>by
 have hlt:j < cs.length:=(List.getElem?_eq_some_iff.1 hj).1
 refine ⟨⟨.inr hb,?_,fun ha=>?_⟩,?_⟩
 ·have:=hW.live _ _ qeV; exact this
 ·rcases ha with ⟨i,q,hi,hr,h2,h3,h4⟩ | ⟨i,r,hi,_⟩
  ·have hil:i < tb.length:=(List.getElem?_eq_some_iff.1 hi).1
   have:=hW.apart i _ q _ (by omega) (by rw [List.getElem?_append_left hil]; exact hi) qeV (.inr rfl)
   dsimp only at this; omega
  simp at hi
 have:=hW.cells _ _ qeV j v hj; exact this
end
def qf3 (g size:Nat) (cl:DV → List Value) (ok:World → (Nat → Nat → Prop) → DV → Prop) (rel:DV → Tree → Prop) (L:List Tree) (k:Nat):qbT:=fun w F=>∃ ds:Nat → DV,∀ i,i < k → (cl (ds i)).length = size ∧ AtF w F g (0 + i * size) (cl (ds i)) ∧ ok w F (ds i) ∧ rel (ds i) (L.getD i .zero)
theorem MvF.done {g size:Nat} {cl:DV → List Value} {ok:World → (Nat → Nat → Prop) → DV → Prop} {rel:DV → Tree → Prop} {L:List Tree} {k:Nat} (mv:qg6 ok):MvF (qf3 g size cl ok rel L k):=⟨fun hs hM hF h=>by
 obtain ⟨ds,h⟩:=h
 refine ⟨ds,fun i hi=>?_⟩
 obtain ⟨h1,h2,h3,h4⟩:=h i hi
 exact ⟨h1,h2.move hs hM hF,mv _ hs hM hF h3,h4⟩⟩
abbrev qbU (g size:Nat) (z:Value) (l k:Nat):Ob:=⟨g,k * size,qcf z (l - k),true⟩
def lstF (size:Nat) (cl:DV → List Value) (ok:World → (Nat → Nat → Prop) → DV → Prop) (rel:DV → Tree → Prop) (A:Option Addr) (c:Nat) (L:List Tree) (f:Nat → DV):qbT:=fun w F=>Slots w F size A c L.length (fun i=>cl (f i)) ∧ (∀ i,i < L.length → ok w F (f i)) ∧ ∀ i,i < L.length → rel (f i) (L.getD i .zero)
theorem MvF.lst {size:Nat} {cl:DV → List Value} {ok:World → (Nat → Nat → Prop) → DV → Prop} {rel:DV → Tree → Prop} {A:Option Addr} {c:Nat} {L:List Tree} {f:Nat → DV} (mv:qg6 ok):MvF (lstF size cl ok rel A c L f):=⟨fun hs hM hF h =>
 ⟨h.1.move hs hM hF,fun i hi=>mv _ hs hM hF (h.2.1 i hi),h.2.2⟩⟩
section
variable {Pr:Program} {ops:Array Oper} {Q:Exit → Act → World → Prop} {w0:World} {M F:Nat → Nat → Prop} {n br:Nat} {tb:Tb} {env:Env} {P:qbT} {s:Bs} {a:Act} {w:World}
 {g size:Nat} {cl:DV → List Value} {ok:World → (Nat → Nat → Prop) → DV → Prop} {rel:DV → Tree → Prop} {L:List Tree} {z:Value}
theorem RS.pull {ι:Type} {Qf:ι → qbT} (h:RS w0 M F n br tb env (andF P (fun w F=>∃ x,Qf x w F)) s a w) (mP:MvF P) (mv:∀ x,MvF (Qf x)):∃ x,RS w0 M F n br tb env (andF P (Qf x)) s a w:=by
 obtain ⟨h1,x,hx⟩:=h.fact
 exact ⟨x,mP.and (mv x),h.ex,h.env_,h1,hx⟩
theorem RS.drop {b o:Nat} {cs:List Value} (h:RS w0 M F n br (tb ++ [⟨b,o,cs,true⟩]) env P s a w) (hb:w0.heap.size ≤ b) (hl:qde (tb.length + 1) env = true):RS w0 M F n br tb env (andF P (atF b o cs)) s a w:=by
 obtain ⟨A,m,c,hW,hr,hE,hP⟩:=h.open_
 have hW':WOk w0 M w ((rdo br A m c :: tb) ++ [⟨b,o,cs,true⟩]) []:=hW
 have h1:=hW'.cutTb (tb.length + 1)
 have hF:=Fr.cutTb w ((rdo br A m c :: tb) ++ [⟨b,o,cs,true⟩]) [] (tb.length + 1)
 have e:((rdo br A m c :: tb) ++ [(⟨b,o,cs,true⟩:Ob)]).take (tb.length + 1) = rdo br A m c :: tb:=by
  show List.take ((rdo br A m c :: tb).length) _ = _
  exact List.take_left
 have hE1:=hE.cutTb (tb.length + 1) hl
 have e2:(rdo br A m c :: (tb ++ [(⟨b,o,cs,true⟩:Ob)])).take (tb.length + 1) = rdo br A m c :: tb:=e
 rw [e] at h1 hF
 rw [e2] at hE1
 exact RS.mk' h1 (hr.move hF.step immM hF.to') hE1 (h.mv.and (MvF.at_ _ _ _)) ⟨h.mv.move hF.step immM hF.to' hP,hW'.atLast hb⟩
theorem RS.next {l k:Nat} (h:RS w0 M F n br (tb ++ [qbU g size z l k]) env P s a w) (hk:k < l) (hz:z.cells.size = size) (hl:qde (tb.length + 1) env = true):RS w0 M F n br (tb ++ [qbU g size z l (k + 1),⟨g,k * size,z.cells.toList,true⟩]) env P s a w:=by
 obtain ⟨A,m,c,hW,hr,hE,hP⟩:=h.open_
 have e:qcf z (l - k) = z.cells.toList ++ qcf z (l - (k + 1)):=by rw [show l - k = (l - (k + 1)) + 1 by omega,qg7]
 have hW':WOk w0 M w ((rdo br A m c :: tb) ++ [⟨g,k * size,z.cells.toList ++ qcf z (l - (k + 1)),true⟩]) []:=by rw [← e]; exact hW
 obtain ⟨h1,hF⟩:=hW'.splitL (o2:=(k + 1) * size) (by rw [Array.length_toList,hz,Nat.add_mul,Nat.one_mul])
 rw [← e] at hF
 have hE1:=hE.cutTb (tb.length + 1) hl
 have e2:(rdo br A m c :: (tb ++ [qbU g size z l k])).take (tb.length + 1) = rdo br A m c :: tb:=by
  show List.take ((rdo br A m c :: tb).length) ((rdo br A m c :: tb) ++ _) = _
  exact List.take_left
 rw [e2] at hE1
 have hE2:=(hE1.grow (qbU g size z l (k + 1))).grow ⟨g,k * size,z.cells.toList,true⟩
 have e3:((rdo br A m c :: tb) ++ [qbU g size z l (k + 1)]) ++ [(⟨g,k * size,z.cells.toList,true⟩:Ob)] = rdo br A m c :: (tb ++ [qbU g size z l (k + 1),⟨g,k * size,z.cells.toList,true⟩]):=by simp
 rw [e3] at hE2
 exact RS.mk' h1 (hr.move hF.step immM hF.to') hE2 h.mv (h.mv.move hF.step immM hF.to' hP)
theorem RS.thing {k:Nat} {D:DV} {X:qbT} (h:RS w0 M F n br (tb ++ [qbU g size z L.length (k + 1),⟨g,k * size,cl D,true⟩]) env X s a w) (hg:w0.heap.size ≤ g) {t:Tree} (ht:L[k]? = some t) (mv:qg6 ok) (mP:MvF P) (hcl:(cl D).length = size)
  (hx:∀ w F,X w F → P w F ∧ qf3 g size cl ok rel L k w F ∧ ok w F D ∧ rel D t) (hl:qde (tb.length + 2) env = true):RS w0 M F n br (tb ++ [qbU g size z L.length (k + 1)]) env (andF P (qf3 g size cl ok rel L (k + 1))) s a w:=by
 have h':RS w0 M F n br ((tb ++ [qbU g size z L.length (k + 1)]) ++ [⟨g,k * size,cl D,true⟩]) env X s a w:=by
  rw [List.append_assoc]; exact h
 refine (h'.drop hg (by simpa using hl)).weak (mP.and (MvF.done mv)) fun w F hf=>?_
 obtain ⟨hf,hat⟩:=hf
 obtain ⟨h1,⟨ds,h2⟩,h3,h4⟩:=hx w F hf
 refine ⟨h1,fun i=>if i = k then D else ds i,fun i hi=>?_⟩
 by_cases hik:i = k
 ·subst hik
  simp only [if_true]
  exact ⟨hcl,by rw [Nat.zero_add]; exact hat,h3,by rw [List.getD_eq_getElem?_getD,ht]; exact h4⟩
 simp only [if_neg hik]
 exact h2 i (by omega)
theorem RS.listEnd {c:Nat} (h:RS w0 M F n br (tb ++ [qbU g size z L.length L.length]) env (andF P (qf3 g size cl ok rel L L.length)) s a w) (hg:w0.heap.size ≤ g) (mv:qg6 ok) (mP:MvF P) (hc:L.length ≤ c) (hsm:L.length ≤ 1099511627776) (h0:0 < L.length)
  (hl:qde (tb.length + 1) env = true):∃ f:Nat → DV,RS w0 M F n br tb env (andF P (lstF size cl ok rel (some ⟨g,0,none⟩) c L f)) s a w:=by
 have mE:MvF (fun w F=>∃ f:Nat → DV,lstF size cl ok rel (some ⟨g,0,none⟩) c L f w F):=⟨fun hs hM hF hx=>by
  obtain ⟨f,hx⟩:=hx
  exact ⟨f,(MvF.lst mv).move hs hM hF hx⟩⟩
 refine RS.pull (Qf:=fun f=>lstF size cl ok rel (some ⟨g,0,none⟩) c L f) ((h.drop hg hl).weak (mP.and mE) fun w F hf=>?_) mP fun f=>MvF.lst mv
 obtain ⟨⟨h1,ds,h2⟩,_⟩:=hf
 refine ⟨h1,ds,⟨hc,hsm,fun h=>by (cases h),fun ad hA _=>?_⟩,fun i hi=>(h2 i hi).2.2.1,fun i hi=>(h2 i hi).2.2.2⟩
 obtain rfl:=Option.some.inj hA
 exact ⟨g,0,rfl,fun i hi=>⟨(h2 i hi).1,(h2 i hi).2.1⟩⟩
theorem qk7 {c:Code} (gf:Tree → Bs) (rest:Bs) (envk:Nat → Env) (h:RS w0 M F n br (tb ++ [⟨g,0,qcf z L.length,true⟩]) (envk 0) P (L.flatMap gf ++ rest) a w) (mv:qg6 ok)
  (body:∀ k t a w,L[k]? = some t → k < L.length → RS w0 M F n br (tb ++ [qbU g size z L.length k]) (envk k) (andF P (qf3 g size cl ok rel L k)) (gf t ++ ((L.drop (k + 1)).flatMap gf ++ rest)) a w →
   c.wp Pr (Exit.then (fun a' w'=>RS w0 M F n br (tb ++ [qbU g size z L.length (k + 1)]) (envk (k + 1)) (andF P (qf3 g size cl ok rel L (k + 1))) ((L.drop (k + 1)).flatMap gf ++ rest) a' w') Q) a w)
  (fin:∀ a w,RS w0 M F n br (tb ++ [qbU g size z L.length L.length]) (envk L.length) (andF P (qf3 g size cl ok rel L L.length)) rest a w → c.wp Pr (Exit.then (fun _ _=>False) Q) a w):(Code.loop c).wp Pr Q a w:=by
 refine wp_loop_ghost (fun q a_ w_=>∃ k,q = L.length - k ∧ k ≤ L.length ∧ RS w0 M F n br (tb ++ [qbU g size z L.length k]) (envk k) (andF P (qf3 g size cl ok rel L k)) ((L.drop k).flatMap gf ++ rest) a_ w_) L.length
  ⟨0,by omega,Nat.zero_le _,?_⟩ ?_
 ·have e:qbU g size z L.length 0 = ⟨g,0,qcf z L.length,true⟩:=by simp only [qbU,Nat.zero_mul,Nat.sub_zero]
  rw [e,List.drop_zero]
  exact h.weak (h.mv.and (MvF.done mv)) fun w F hP=>⟨hP,fun _=>dv0,fun i hi=>absurd hi (Nat.not_lt_zero i)⟩
 rintro q aq wq ⟨k,rfl,hk,hS⟩
 rcases Nat.lt_or_ge k L.length with hlt | hge
 ·obtain ⟨t,ht⟩:∃ t,L[k]? = some t:=⟨_,List.getElem?_eq_getElem hlt⟩
  have e:(L.drop k).flatMap gf ++ rest = gf t ++ ((L.drop (k + 1)).flatMap gf ++ rest):=by
   rw [qb4 ht,List.flatMap_cons,List.append_assoc]
  refine wp_mono (body k t aq wq ht hlt (hS.cast e)) fun e a' w' hq=>?_
  cases e <;> first | exact hq | exact ⟨L.length - (k + 1),by omega,k + 1,rfl,hlt,hq⟩
 obtain rfl:k = L.length:=by omega
 rw [List.drop_length] at hS
 refine wp_mono (fin aq wq hS) fun e a' w' hq=>?_
 cases e <;> first | exact hq | exact hq.elim
theorem qj8 {c:Code} (h:c.wp Pr (Exit.then (fun _ _=>False) Q) a w):(Code.loop c).wp Pr Q a w:=by
 refine wp_loop_ghost (fun _ a_ w_=>a_ = a ∧ w_ = w) 0 ⟨rfl,rfl⟩ ?_
 rintro q _ _ ⟨rfl,rfl⟩
 refine wp_mono h fun e a' w' hq=>?_
 cases e <;> first | exact hq | exact hq.elim
theorem qj9 {x y z:Code} {Mid:Act → World → Prop} (h1:x.wp Pr (Exit.then (fun a w=>y.wp Pr (Exit.then Mid Q) a w) Q) a w) (h2:∀ a' w',Mid a' w' → z.wp Pr Q a' w'):(Code.seq x (.seq y z)).wp Pr Q a w :=
 wp_seq (qjm h1 fun a' w' hy=>wp_seq (qjm hy h2))
end
end Go.Proofs.YtdlaobdadlmcdabGreatDoor.ME