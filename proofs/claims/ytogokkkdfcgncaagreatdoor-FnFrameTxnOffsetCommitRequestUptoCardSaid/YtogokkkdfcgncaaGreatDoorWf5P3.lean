/- The texts of a claim, put together: the engine, the contracts, the law. Own work. -/
import Derived.Test.YtogokkkdfcgncaaGreatDoorWf5P2
import Derived.Lib.EndianBits
import Derived.Scope
import Derived.Lib.AppendZeros
import Derived.Deep.LoopGhost
namespace Go.Proofs.YtogokkkdfcgncaaGreatDoor.ME
open Go
open Go.RowKit
set_option linter.unusedVariables false
set_option linter.unusedSimpArgs false
set_option maxRecDepth 20000
theorem qmi (W:Fld → Tree → Bs) (A:Option Addr) (c:Nat) (l:List Fld) (v:Int) (flex:Bool) (ct:List Value) (t:Tree) (w:World) (F:Nat → Nat → Prop) (hW_:∀ cf f ct t w F,f ∈ l → FldR w F cf f → TreeR w F ct t → (W f t).length ≤ 1099511627776 → Calls Tryz.prog 81 #[.agg cf.toArray,.int .i64 v,.bool flex,.agg ct.toArray] w (qdV w 5 (W f t))) (hl:FldsR w F A c l) (ht:TreeR w F ct t) (hroom:(qeM W l v flex t).length ≤ 1099511627776) :
  Calls Tryz.prog 42 #[.slice A l.length c,.int .i64 v,.bool flex,.agg ct.toArray] w (qdV w 5 (qeM W l v flex t)):=by
 obtain ⟨xfs,h1,h2⟩:=hl.ex
 have hsm:=h1.small
 obtain ⟨n1,s2,b3,l4,u5,A6,c7,A8,c9,aU,aV,lU,rfl,rfl,lV,lW,oX,lX⟩:=ht.open_
 have k6:=lV.small
 have k7:=lW.small
 have hkr:=qez l
 refine enter (n:=132) Tryz.func42 rfl Tryz.ntmps42 kz fun a hE=>?_
 have hW:=WOk.start w Nil
 refine qae [0,1] kz ?_
 refine qam (qbk hW hE (d:=7) (cs:=(z9 n1 A6 s2.length c7 b3 A8 l4.length c9 aU u5.length aV)) kz fun cD oY oZ lY lZ l0 cu jU=>?_)
 refine qak [1] [] [(0,.v (.slice A l.length c)),(1,.v (.int .i64 v)),(2,.v (.bool flex)),(7,.p 0 0)] cu jU fun o5 jV=>?_
 refine qaf (qab ?_)
 refine qar [(0,.v (.slice A l.length c)),(1,.v (.int .i64 v)),(2,.v (.bool flex)),(7,.p 0 0),(9,.v (.slice none 0 0)),(10,.v (.slice none 0 0))] cu jV fun o6 jW=>?_
 refine qar [(0,.v (.slice A l.length c)),(1,.v (.int .i64 v)),(2,.v (.bool flex)),(7,.p 0 0),(9,.v (.slice none 0 0)),(10,.v (.slice none 0 0)),(11,.v (.int .i64 0))] cu jW fun o7 jX=>?_
 refine wp_seq (qar [(0,.v (.slice A l.length c)),(1,.v (.int .i64 v)),(2,.v (.bool flex)),(7,.p 0 0),(9,.v (.slice none 0 0)),(10,.v (.slice none 0 0)),(11,.v (.int .i64 0)),(21,.v (.slice A l.length c)),(22,.v (.int .i64 ((l.length:Nat):Int))),(23,.v (.int .i64 0))] cu jX fun o9 jY=>?_)
 refine wp_block ?_
 have eG:=cu.addNil 5 1
 have l3:=cu.frNil 5 1
 have htot:(qaK W l v (Tree.mk n1 s2 b3 l4 u5) 0).length ≤ 1099511627776:=by have h_:=hroom; rw [qeM,List.length_append] at h_; omega
 refine wp_loop_ghost (fun n_ a_ w_=>∃ (k:Nat) (A_:Option Addr) (c_:Nat) (dn:Bs),n_ = l.length - k ∧ k ≤ l.length ∧ (dn ++ qaK W (l.drop k) v (Tree.mk n1 s2 b3 l4 u5) k = qaK W l v (Tree.mk n1 s2 b3 l4 u5) 0) ∧ LInv eG 132 [⟨cD,0,[.int .i64 n1,.slice A6 s2.length c7,.bool b3,.slice A8 l4.length c9,.slice aU u5.length aV],true⟩] [brow A_ c_ 5 dn] [(0,.v (.slice A l.length c)),(1,.v (.int .i64 v)),(2,.v (.bool flex)),(7,.p 0 0),(9,.v (.slice A_ dn.length c_)),(10,.v (.slice none 0 0)),(11,.v (.int .i64 0)),(21,.v (.slice A l.length c)),(22,.v (.int .i64 ((l.length:Nat):Int))),(23,.v (.int .i64 ((k:Nat):Int)))] a_ w_) (l.length) ⟨0,none,0,[],by omega,by omega,rfl,jY.pk,eG,Fr.refl _ _ _⟩ ?_
 rintro pa pb pc ⟨k,A_,c_,dn,l5,l6,hB,jZ,az,eg⟩
 refine qar [(0,.v (.slice A l.length c)),(1,.v (.int .i64 v)),(2,.v (.bool flex)),(7,.p 0 0),(9,.v (.slice A_ dn.length c_)),(10,.v (.slice none 0 0)),(11,.v (.int .i64 0)),(21,.v (.slice A l.length c)),(22,.v (.int .i64 ((l.length:Nat):Int))),(23,.v (.int .i64 ((k:Nat):Int))),(24,.v (.bool (decide (((k:Nat):Int) < ((l.length:Nat):Int)))))] az jZ fun pd eh=>?_
 refine wp_seq (qay eh (b:=decide (((k:Nat):Int) < ((l.length:Nat):Int))) kz (fun ei=>?_) (fun ei=>?_))
 ·
  have l7:=of_decide_eq_true ei
  refine wp_skip (qab (wp_seq (wp_block (qae [0,1,2,3,4,5] kz ?_))))
  refine qak [0] [1,2,3,4,5] [(0,.v (.slice A l.length c)),(1,.v (.int .i64 v)),(2,.v (.bool flex)),(7,.p 0 0),(9,.v (.slice A_ dn.length c_)),(10,.v (.slice none 0 0)),(11,.v (.int .i64 0)),(21,.v (.slice A l.length c)),(22,.v (.int .i64 ((l.length:Nat):Int))),(23,.v (.int .i64 ((k:Nat):Int))),(25,.v (.int .i64 ((k:Nat):Int)))] az eh fun pe j0=>?_
  obtain ⟨l9,ma,j1,mc,dy⟩:=Slots.get h1 (i:=k) (by omega)
  obtain ⟨md,bi⟩:∃ x,l[k]? = some x:=⟨_,List.getElem?_eq_getElem (by omega)⟩
  have ej:=h2 k md bi
  obtain ⟨aA,aB,aC,aD,ax,aE,aF,aG,dw,dx,me,rfl,dz,mf,pf⟩:=ej.open_
  rw [dz] at ej
  have k8:=mf.small
  rw [dz] at dy
  refine qam (qax j0 (t:=32) (A:=A) (m:=l.length) (q:=((k:Nat):Int)) (d:=26) kz (e:=50) (size:=8) (bytes:=80) kz j1 rfl (by omega) fun pg j2=>?_)
  refine qam (qaH j2 (t:=50) (b:=l9) (o:=ma + k * 8) (d:=27) kz (cs:=(z7 aA aB aC aD ax aE aF dw aG.length dx)) (v:=.agg #[.int .i64 aA,.int .i64 aB,.int .i64 aC,.int .i64 aD,.int .i64 ax,.int .i64 aE,.int .i64 aF,.slice dw aG.length dx]) kz (AtF.move dy az.step nilM qbg).at_ fun ph j3=>?_)
  refine qam (qbc az j3 (d:=13) (cs:=z20) kz fun pi pj pl mg mh ek eH j4=>?_)
  refine qak [4] [5] [(0,.v (.slice A l.length c)),(1,.v (.int .i64 v)),(2,.v (.bool flex)),(7,.p 0 0),(9,.v (.slice A_ dn.length c_)),(10,.v (.slice none 0 0)),(11,.v (.int .i64 0)),(12,.v (.int .i64 ((k:Nat):Int))),(13,.p 1 0),(21,.v (.slice A l.length c)),(22,.v (.int .i64 ((l.length:Nat):Int))),(23,.v (.int .i64 ((k:Nat):Int))),(27,.v (.agg #[.int .i64 aA,.int .i64 aB,.int .i64 aC,.int .i64 aD,.int .i64 ax,.int .i64 aE,.int .i64 aF,.slice dw aG.length dx]))] eH j4 fun pm j5=>?_
  refine qam (qaM eH j5 (oi:=1) (cs:=(z7 aA aB aC aD ax aE aF dw aG.length dx)) kz fun pn em bG j6=>?_)
  refine qaf (qab ?_)
  refine qae [0,1,2,3,4,5,6,7] kz ?_
  refine qak [0,1,2,3] [4,5,6,7] [(0,.v (.slice A l.length c)),(1,.v (.int .i64 v)),(2,.v (.bool flex)),(7,.p 0 0),(9,.v (.slice A_ dn.length c_)),(10,.v (.slice none 0 0)),(11,.v (.int .i64 0)),(12,.v (.int .i64 ((k:Nat):Int))),(13,.p 1 0),(21,.v (.slice A l.length c)),(22,.v (.int .i64 ((l.length:Nat):Int))),(23,.v (.int .i64 ((k:Nat):Int))),(31,.v (.bool (decide (ax < 0))))] bG j6 fun po eI=>?_
  refine (Bool.eq_false_or_eq_true (decide (ax < 0))).elim (fun cE=>?_) (fun cE=>?_)
  ·
   have mi:=of_decide_eq_true cE
   have j7:=eI
   rw [cE] at j7
   refine qak [4,5] [6,7] [(0,.v (.slice A l.length c)),(1,.v (.int .i64 v)),(2,.v (.bool flex)),(7,.p 0 0),(9,.v (.slice A_ dn.length c_)),(10,.v (.slice none 0 0)),(11,.v (.int .i64 0)),(12,.v (.int .i64 ((k:Nat):Int))),(13,.p 1 0),(21,.v (.slice A l.length c)),(22,.v (.int .i64 ((l.length:Nat):Int))),(23,.v (.int .i64 ((k:Nat):Int))),(31,.v (.bool true)),(32,.v (.agg #[.int .i64 aA,.int .i64 aB,.int .i64 aC,.int .i64 aD,.int .i64 ax,.int .i64 aE,.int .i64 aF,.slice dw aG.length dx])),(33,.v (.int .i64 v))] bG j7 fun pp eJ=>?_
   refine qam (qal eJ (f:=80) (vs:=[.agg #[.int .i64 aA,.int .i64 aB,.int .i64 aC,.int .i64 aD,.int .i64 ax,.int .i64 aE,.int .i64 aF,.slice dw aG.length dx],.int .i64 v]) (d:=34) kz Tryz.call80 (sHas aA aB aC aD ax aE aF aG _ _ v _) ?_)
   rintro e_ mj ⟨rfl,dA⟩
   refine ⟨_,rfl,fun ml eK=>?_⟩
   have bN:=bG.next_nil dA
   have dB:=bG.frN dA
   refine qak [7] [] [(0,.v (.slice A l.length c)),(1,.v (.int .i64 v)),(2,.v (.bool flex)),(7,.p 0 0),(9,.v (.slice A_ dn.length c_)),(10,.v (.slice none 0 0)),(11,.v (.int .i64 0)),(12,.v (.int .i64 ((k:Nat):Int))),(13,.p 1 0),(21,.v (.slice A l.length c)),(22,.v (.int .i64 ((l.length:Nat):Int))),(23,.v (.int .i64 ((k:Nat):Int))),(35,.v (.bool (Fld.has (Fld.mk aA aB aC aD ax aE aF aG) v)))] bN eK fun mn cG=>?_
   refine qaf (qab ?_)
   refine qay cG (b:=Fld.has (Fld.mk aA aB aC aD ax aE aF aG) v) kz (fun eL=>?_) (fun eL=>?_)
   ·
    refine qhW 9 kz bN fun mo eM bj eN=>?_
    refine qa0 [0,1,2,3,4,5] [(0,.v (.slice A l.length c)),(1,.v (.int .i64 v)),(2,.v (.bool flex)),(7,.p 0 0),(9,.v (.slice A_ dn.length c_)),(10,.v (.slice none 0 0)),(11,.v (.int .i64 0)),(21,.v (.slice A l.length c)),(22,.v (.int .i64 ((l.length:Nat):Int))),(23,.v (.int .i64 ((k:Nat):Int))),(36,.v (.slice A_ dn.length c_)),(37,.v (.agg #[.int .i64 aA,.int .i64 aB,.int .i64 aC,.int .i64 aD,.int .i64 ax,.int .i64 aE,.int .i64 aF,.slice dw aG.length dx])),(38,.v (.int .i64 v)),(39,.v (.bool flex)),(40,.v (.agg #[.int .i64 n1,.slice A6 s2.length c7,.bool b3,.slice A8 l4.length c9,.slice aU u5.length aV])),(41,.v (.int .i64 ((k:Nat):Int)))] 4 (qai (qac (qac (qai (qac qah))))) (fun _ h=>h.cells) eN cG fun mp eO=>?_
    refine qaO (i:=6) kz (qal eO (f:=82) (vs:=[.agg #[.int .i64 n1,.slice A6 s2.length c7,.bool b3,.slice A8 l4.length c9,.slice aU u5.length aV],.int .i64 ((k:Nat):Int)]) (d:=42) kz Tryz.call82 (sAt _ _ k _ _ (ht.move bj.step nilM bj.imm)) ?_)
    rintro e_ mq ⟨k9,rfl,eP,bk⟩
    have cH:=eP.move bk nilM (fun b o h_ hb_=>bj.laid (G:=F) bk b o (.inl h_) (Nat.lt_of_lt_of_le hb_ bk.size))
    obtain ⟨eo,ep,eu,ev,ew,ey,ez,eB,eC,eD,eE,la,lb,cI,j8,j9,mr,mt⟩:=cH.open_
    rw [cI] at cH
    have ka:=j8.small
    have kd:=j9.small
    rw [cI]
    refine ⟨_,rfl,fun mu eQ=>?_⟩
    have bO:=bj.next_nil bk
    have bP:=bj.frN bk
    have eR:=TT.ofW bP bO
    refine ⟨fun _=>eR,?_⟩
    refine qaO (i:=7) kz (qal eQ (f:=81) (vs:=[.agg #[.int .i64 aA,.int .i64 aB,.int .i64 aC,.int .i64 aD,.int .i64 ax,.int .i64 aE,.int .i64 aF,.slice dw aG.length dx],.int .i64 v,.bool flex,.agg #[.int .i64 eo,.slice ey ep.length ez,.bool eu,.slice eB ev.length eC,.slice eD ew.length eE]]) (d:=43) kz Tryz.call81 ( hW_ _ _ _ _ _ _ (List.mem_of_getElem? bi) (ej.move bO.step nilM bO.imm) cH (by have h_:=congrArg List.length hB; rw [qeW bi ‹_› ‹_›] at h_; simp only [List.length_append] at h_; omega)) ?_)
    rintro e_ mw ⟨cJ,cK,rfl,eS,eT⟩
    refine ⟨_,rfl,fun mx eU=>?_⟩
    obtain ⟨bQ,cL⟩:=bO.frFresh eT (brow cJ cK 5 (W (Fld.mk aA aB aC aD ax aE aF aG) (Tree.at_ (Tree.mk n1 s2 b3 l4 u5) k))) (Nat.le_refl _) eS
    have ke:(W (Fld.mk aA aB aC aD ax aE aF aG) (Tree.at_ (Tree.mk n1 s2 b3 l4 u5) k)).length ≤ 1099511627776:=by have h_:=congrArg List.length hB; rw [qeW bi ‹_› ‹_›] at h_; simp only [List.length_append] at h_; omega
    have eV:=TT.ofW (bP.trans cL) bQ
    refine ⟨fun _=>eV,?_⟩
    refine qaO (i:=8) kz (qaJ bQ eU (k:=0) (d:=44) (t:=24) (e:=5) (size:=1) (bytes:=1) (A:=A_) (As:=cJ) (m0:=dn.length) (c:=c_) (m:=((W (Fld.mk aA aB aC aD ax aE aF aG) (Tree.at_ (Tree.mk n1 s2 b3 l4 u5) k)).length)) (cs:=cK) (xs:=(bc dn)) (news:=bc (W (Fld.mk aA aB aC aD ax aE aF aG) (Tree.at_ (Tree.mk n1 s2 b3 l4 u5) k))) kz kz rfl (qbZ (bQ.own 1 _ rfl) (qcq _)) (qcc (bQ.own 1 _ rfl)) (by have h_:=congrArg List.length hB; rw [qeW bi ‹_› ‹_›] at h_; simp only [List.length_append] at h_ ⊢; omega) fun aW aX my mz dC eW eX=>?_)
    have eY:(⟨aW,aX,5,1,dn.length + (W (Fld.mk aA aB aC aD ax aE aF aG) (Tree.at_ (Tree.mk n1 s2 b3 l4 u5) k)).length,bc dn ++ bc (W (Fld.mk aA aB aC aD ax aE aF aG) (Tree.at_ (Tree.mk n1 s2 b3 l4 u5) k))⟩:Rw) = brow aW aX 5 (dn ++ (W (Fld.mk aA aB aC aD ax aE aF aG) (Tree.at_ (Tree.mk n1 s2 b3 l4 u5) k))):=qa2 (rfl) rfl
    obtain ⟨bR,dD⟩:=eW.rowEq 0 [brow aW aX 5 (dn ++ (W (Fld.mk aA aB aC aD ax aE aF aG) (Tree.at_ (Tree.mk n1 s2 b3 l4 u5) k))),brow cJ cK 5 (W (Fld.mk aA aB aC aD ax aE aF aG) (Tree.at_ (Tree.mk n1 s2 b3 l4 u5) k))] eY
    have eZ:=EnvOk.pick eX (ks:=[0,1,2,7,9,10,11,21,22,23,36,37,38,39,40,41,42,43,44]) (env':=[(0,.v (.slice A l.length c)),(1,.v (.int .i64 v)),(2,.v (.bool flex)),(7,.p 0 0),(9,.v (.slice A_ dn.length c_)),(10,.v (.slice none 0 0)),(11,.v (.int .i64 0)),(21,.v (.slice A l.length c)),(22,.v (.int .i64 ((l.length:Nat):Int))),(23,.v (.int .i64 ((k:Nat):Int))),(36,.v (.slice A_ dn.length c_)),(37,.v (.agg #[.int .i64 aA,.int .i64 aB,.int .i64 aC,.int .i64 aD,.int .i64 ax,.int .i64 aE,.int .i64 aF,.slice dw aG.length dx])),(38,.v (.int .i64 v)),(39,.v (.bool flex)),(40,.v (.agg #[.int .i64 n1,.slice A6 s2.length c7,.bool b3,.slice A8 l4.length c9,.slice aU u5.length aV])),(41,.v (.int .i64 ((k:Nat):Int))),(42,.v (.agg #[.int .i64 eo,.slice ey ep.length ez,.bool eu,.slice eB ev.length eC,.slice eD ew.length eE])),(43,.v (.slice cJ ((W (Fld.mk aA aB aC aD ax aE aF aG) (Tree.at_ (Tree.mk n1 s2 b3 l4 u5) k)).length) cK)),(44,.v (.slice aW (dn.length + (W (Fld.mk aA aB aC aD ax aE aF aG) (Tree.at_ (Tree.mk n1 s2 b3 l4 u5) k)).length) aX))]) kz
    have e9:=eZ.cast (env':=[(0,.v (.slice A l.length c)),(1,.v (.int .i64 v)),(2,.v (.bool flex)),(7,.p 0 0),(9,.v (.slice A_ dn.length c_)),(10,.v (.slice none 0 0)),(11,.v (.int .i64 0)),(21,.v (.slice A l.length c)),(22,.v (.int .i64 ((l.length:Nat):Int))),(23,.v (.int .i64 ((k:Nat):Int))),(36,.v (.slice A_ dn.length c_)),(37,.v (.agg #[.int .i64 aA,.int .i64 aB,.int .i64 aC,.int .i64 aD,.int .i64 ax,.int .i64 aE,.int .i64 aF,.slice dw aG.length dx])),(38,.v (.int .i64 v)),(39,.v (.bool flex)),(40,.v (.agg #[.int .i64 n1,.slice A6 s2.length c7,.bool b3,.slice A8 l4.length c9,.slice aU u5.length aV])),(41,.v (.int .i64 ((k:Nat):Int))),(42,.v (.agg #[.int .i64 eo,.slice ey ep.length ez,.bool eu,.slice eB ev.length eC,.slice eD ew.length eE])),(43,.v (.slice cJ ((W (Fld.mk aA aB aC aD ax aE aF aG) (Tree.at_ (Tree.mk n1 s2 b3 l4 u5) k)).length) cK)),(44,.v (.slice aW ((dn ++ (W (Fld.mk aA aB aC aD ax aE aF aG) (Tree.at_ (Tree.mk n1 s2 b3 l4 u5) k))).length) aX))]) (by simp only [List.length_append,List.length_cons,List.length_nil,Nat.zero_add])
    have fa:=TT.ofW (((bP.trans cL).trans dC).trans dD) bR
    refine ⟨fun _=>fa,?_⟩
    refine qaO (i:=9) kz (qcf [0,1,2,7,9,10,11,21,22,23] bR.cells e9 (env':=[(0,.v (.slice A l.length c)),(1,.v (.int .i64 v)),(2,.v (.bool flex)),(7,.p 0 0),(9,.v (.slice aW ((dn ++ (W (Fld.mk aA aB aC aD ax aE aF aG) (Tree.at_ (Tree.mk n1 s2 b3 l4 u5) k))).length) aX)),(10,.v (.slice none 0 0)),(11,.v (.int .i64 0)),(21,.v (.slice A l.length c)),(22,.v (.int .i64 ((l.length:Nat):Int))),(23,.v (.int .i64 ((k:Nat):Int)))]) kz fun mA fb=>?_)
    refine ⟨fun h=>absurd rfl h,?_⟩
    refine qaZ kz ?_ _
    refine qaF (qab (qas [0,1] kz ?_))
    refine qak [0,1] [] [(0,.v (.slice A l.length c)),(1,.v (.int .i64 v)),(2,.v (.bool flex)),(7,.p 0 0),(9,.v (.slice aW ((dn ++ (W (Fld.mk aA aB aC aD ax aE aF aG) (Tree.at_ (Tree.mk n1 s2 b3 l4 u5) k))).length) aX)),(10,.v (.slice none 0 0)),(11,.v (.int .i64 0)),(21,.v (.slice A l.length c)),(22,.v (.int .i64 ((l.length:Nat):Int))),(23,.v (.int .i64 (IntKind.i64.wrap (((k:Nat):Int) + 1))))] bR fb fun mB fe=>?_
    refine qaf (qab ?_)
    obtain ⟨dE,ff,fg⟩:=bR.cutB fe 1 [⟨cD,0,(z9 n1 A6 s2.length c7 b3 A8 l4.length c9 aU u5.length aV),true⟩] [(0,.v (.slice A l.length c)),(1,.v (.int .i64 v)),(2,.v (.bool flex)),(7,.p 0 0),(9,.v (.slice aW ((dn ++ (W (Fld.mk aA aB aC aD ax aE aF aG) (Tree.at_ (Tree.mk n1 s2 b3 l4 u5) k))).length) aX)),(10,.v (.slice none 0 0)),(11,.v (.int .i64 0)),(21,.v (.slice A l.length c)),(22,.v (.int .i64 ((l.length:Nat):Int))),(23,.v (.int .i64 (IntKind.i64.wrap (((k:Nat):Int) + 1))))]
    obtain ⟨fh,fi⟩:=ff.cutR 1 [brow aW aX 5 (dn ++ (W (Fld.mk aA aB aC aD ax aE aF aG) (Tree.at_ (Tree.mk n1 s2 b3 l4 u5) k)))]
    have fj:IntKind.i64.wrap (((k:Nat):Int) + 1) = ((k + 1:Nat):Int):=qbh (by omega)
    rw [fj] at dE
    exact ⟨l.length - (k + 1),by omega,k + 1,aW,aX,dn ++ (W (Fld.mk aA aB aC aD ax aE aF aG) (Tree.at_ (Tree.mk n1 s2 b3 l4 u5) k)),rfl,by omega,by rw [List.append_assoc,← qeW bi ‹_› ‹_›]; exact hB,dE.pk,fh,((((((((((eg.trans ek).trans em).trans dB).trans eM).trans bP).trans cL).trans dC).trans dD).trans fg).trans fi)⟩
   refine wp_skip (qaF (qab (qas [0,1] kz ?_)))
   refine qak [0,1] [] [(0,.v (.slice A l.length c)),(1,.v (.int .i64 v)),(2,.v (.bool flex)),(7,.p 0 0),(9,.v (.slice A_ dn.length c_)),(10,.v (.slice none 0 0)),(11,.v (.int .i64 0)),(21,.v (.slice A l.length c)),(22,.v (.int .i64 ((l.length:Nat):Int))),(23,.v (.int .i64 (IntKind.i64.wrap (((k:Nat):Int) + 1))))] bN cG fun mC fk=>?_
   refine qaf (qab ?_)
   obtain ⟨dF,fl,fm⟩:=bN.cutB fk 1 [⟨cD,0,(z9 n1 A6 s2.length c7 b3 A8 l4.length c9 aU u5.length aV),true⟩] [(0,.v (.slice A l.length c)),(1,.v (.int .i64 v)),(2,.v (.bool flex)),(7,.p 0 0),(9,.v (.slice A_ dn.length c_)),(10,.v (.slice none 0 0)),(11,.v (.int .i64 0)),(21,.v (.slice A l.length c)),(22,.v (.int .i64 ((l.length:Nat):Int))),(23,.v (.int .i64 (IntKind.i64.wrap (((k:Nat):Int) + 1))))]
   have fo:IntKind.i64.wrap (((k:Nat):Int) + 1) = ((k + 1:Nat):Int):=qbh (by omega)
   rw [fo] at dF
   exact ⟨l.length - (k + 1),by omega,k + 1,A_,c_,dn,rfl,by omega,by rw [← qiI bi ‹_›]; exact hB,dF.pk,fl,((((eg.trans ek).trans em).trans dB).trans fm)⟩
  have lc:=of_decide_eq_false cE
  have fq:=eI.cast (env':=[(0,.v (.slice A l.length c)),(1,.v (.int .i64 v)),(2,.v (.bool flex)),(7,.p 0 0),(9,.v (.slice A_ dn.length c_)),(10,.v (.slice none 0 0)),(11,.v (.int .i64 0)),(12,.v (.int .i64 ((k:Nat):Int))),(13,.p 1 0),(21,.v (.slice A l.length c)),(22,.v (.int .i64 ((l.length:Nat):Int))),(23,.v (.int .i64 ((k:Nat):Int))),(31,.v (.bool false))]) (by rw [cE])
  refine qak [4,5,6,7] [] [(0,.v (.slice A l.length c)),(1,.v (.int .i64 v)),(2,.v (.bool flex)),(7,.p 0 0),(9,.v (.slice A_ dn.length c_)),(10,.v (.slice none 0 0)),(11,.v (.int .i64 0)),(12,.v (.int .i64 ((k:Nat):Int))),(13,.p 1 0),(21,.v (.slice A l.length c)),(22,.v (.int .i64 ((l.length:Nat):Int))),(23,.v (.int .i64 ((k:Nat):Int))),(35,.v (.bool false))] bG fq fun mD dG=>?_
  refine qaf (qab ?_)
  refine qau dG (b:=false) kz rfl ?_
  refine wp_skip (qaF (qab (qas [0,1] kz ?_)))
  refine qak [0,1] [] [(0,.v (.slice A l.length c)),(1,.v (.int .i64 v)),(2,.v (.bool flex)),(7,.p 0 0),(9,.v (.slice A_ dn.length c_)),(10,.v (.slice none 0 0)),(11,.v (.int .i64 0)),(21,.v (.slice A l.length c)),(22,.v (.int .i64 ((l.length:Nat):Int))),(23,.v (.int .i64 (IntKind.i64.wrap (((k:Nat):Int) + 1))))] bG dG fun mF fr=>?_
  refine qaf (qab ?_)
  obtain ⟨dH,ft,fu⟩:=bG.cutB fr 1 [⟨cD,0,(z9 n1 A6 s2.length c7 b3 A8 l4.length c9 aU u5.length aV),true⟩] [(0,.v (.slice A l.length c)),(1,.v (.int .i64 v)),(2,.v (.bool flex)),(7,.p 0 0),(9,.v (.slice A_ dn.length c_)),(10,.v (.slice none 0 0)),(11,.v (.int .i64 0)),(21,.v (.slice A l.length c)),(22,.v (.int .i64 ((l.length:Nat):Int))),(23,.v (.int .i64 (IntKind.i64.wrap (((k:Nat):Int) + 1))))]
  have fv:IntKind.i64.wrap (((k:Nat):Int) + 1) = ((k + 1:Nat):Int):=qbh (by omega)
  rw [fv] at dH
  exact ⟨l.length - (k + 1),by omega,k + 1,A_,c_,dn,rfl,by omega,by rw [← qiH bi ‹_›]; exact hB,dH.pk,ft,(((eg.trans ek).trans em).trans fu)⟩
 have ld:=of_decide_eq_false ei
 refine wp_exit (qaz (qaz (qaR (qab (wp_seq (qar [(0,.v (.slice A l.length c)),(1,.v (.int .i64 v)),(2,.v (.bool flex)),(7,.p 0 0),(9,.v (.slice A_ dn.length c_)),(10,.v (.slice none 0 0)),(11,.v (.int .i64 0)),(47,.v (.bool (!flex)))] az eh fun mG cM=>?_))))))
 refine qay cM (b:=!flex) kz (fun bS=>?_) (fun bS=>?_)
 ·
  refine qar [(8,.v (.slice A_ dn.length c_))] az cM fun mH fw=>?_
  refine wp_ret (qaD (qaE fw az.cells (v:=.slice A_ dn.length c_) kz ?_))
  exact qa8 az (k:=0) rfl (by rw [show flex = false by simpa using bS,qjF,← hB,qgX (by omega),List.append_nil])
 refine wp_skip (qab (wp_seq (qae [0,1,2,3] kz ?_)))
 refine qak [0] [1,2,3] [(0,.v (.slice A l.length c)),(1,.v (.int .i64 v)),(2,.v (.bool flex)),(7,.p 0 0),(9,.v (.slice A_ dn.length c_)),(10,.v (.slice none 0 0)),(11,.v (.int .i64 0)),(49,.v (.slice A l.length c))] az cM fun mI fx=>?_
 refine qam (qal fx (f:=83) (vs:=[.slice A l.length c]) (d:=50) kz Tryz.call83 (qlc _ _ l _ _ ⟨xfs,(h1.move az.step nilM az.imm),(fun i_ x_ h_=>((h2 i_ x_ h_).move az.step nilM az.imm))⟩) ?_)
 rintro e_ mJ ⟨rfl,dI⟩
 refine ⟨_,rfl,fun mK fy=>?_⟩
 have dJ:=az.next_nil dI
 have lf:=az.frN dI
 refine qak [2,3] [] [(0,.v (.slice A l.length c)),(1,.v (.int .i64 v)),(2,.v (.bool flex)),(7,.p 0 0),(9,.v (.slice A_ dn.length c_)),(10,.v (.slice none 0 0)),(11,.v (.int .i64 0)),(51,.v (.int .i64 (IntKind.i64.wrap (qat l)))),(52,.v (.int .i64 0))] dJ fy fun mL dK=>?_
 refine qaf (qab ?_)
 refine wp_block ?_
 have hdn:dn = qaK W l v (Tree.mk n1 s2 b3 l4 u5) 0:=by rw [← hB,qgX (by omega),List.append_nil]
 have dL:dn = (qaK W l v (Tree.mk n1 s2 b3 l4 u5) 0):=hdn
 have fz:=congrArg (brow A_ c_ 5) dL
 obtain ⟨dM,lg⟩:=dJ.rowEq 0 [brow A_ c_ 5 (qaK W l v (Tree.mk n1 s2 b3 l4 u5) 0)] fz
 rw [dL] at dK
 have hfx:flex = true:=by simpa using bS
 have htot2:(qaK W l v (Tree.mk n1 s2 b3 l4 u5) 0).length + (uv (qaQ W l (Tree.mk n1 s2 b3 l4 u5) (qat l).toNat + (qan l u5).length)).length + ((qaB W l (Tree.mk n1 s2 b3 l4 u5) (qat l).toNat).length + (qa7 (qan l u5)).length) ≤ 1099511627776:=by have h_:=hroom; rw [hfx,qf1] at h_; simpa only [List.length_append] using h_
 have hmono:=fun i (h_:i ≤ (qat l).toNat)=>qiJ W l (Tree.mk n1 s2 b3 l4 u5) h_
 have hcnt:=qh4 W l (Tree.mk n1 s2 b3 l4 u5)
 have hknn:=qjG l
 have fA:=EnvOk.pick dK (ks:=[0,1,2,7,9,10,11,51,52]) (env':=[(0,.v (.slice A l.length c)),(1,.v (.int .i64 v)),(2,.v (.bool flex)),(7,.p 0 0),(9,.v (.slice A_ ((qaK W l v (Tree.mk n1 s2 b3 l4 u5) 0).length) c_)),(10,.v (.slice none 0 0)),(11,.v (.int .i64 0)),(51,.v (.int .i64 (IntKind.i64.wrap (qat l)))),(52,.v (.int .i64 0))]) kz
 have fB:=fA.cast (env':=[(0,.v (.slice A l.length c)),(1,.v (.int .i64 v)),(2,.v (.bool flex)),(7,.p 0 0),(9,.v (.slice A_ ((qaK W l v (Tree.mk n1 s2 b3 l4 u5) 0).length) c_)),(10,.v (.slice none 0 0)),(11,.v (.int .i64 0)),(51,.v (.int .i64 (((qat l).toNat:Nat):Int))),(52,.v (.int .i64 0))]) (by rw [hknn])
 have dN:=dM.addNil 5 1
 have lh:=dM.frNil 5 1
 refine wp_loop_ghost (fun n_ a_ w_=>∃ (k2:Nat) (A2_:Option Addr) (c2_:Nat),n_ = (qat l).toNat - k2 ∧ k2 ≤ (qat l).toNat ∧ LInv dN 132 [⟨cD,0,[.int .i64 n1,.slice A6 s2.length c7,.bool b3,.slice A8 l4.length c9,.slice aU u5.length aV],true⟩] [brow A_ c_ 5 (qaK W l v (Tree.mk n1 s2 b3 l4 u5) 0),brow A2_ c2_ 5 (qaB W l (Tree.mk n1 s2 b3 l4 u5) k2)] [(0,.v (.slice A l.length c)),(1,.v (.int .i64 v)),(2,.v (.bool flex)),(7,.p 0 0),(9,.v (.slice A_ ((qaK W l v (Tree.mk n1 s2 b3 l4 u5) 0).length) c_)),(10,.v (.slice A2_ ((qaB W l (Tree.mk n1 s2 b3 l4 u5) k2).length) c2_)),(11,.v (.int .i64 ((qaQ W l (Tree.mk n1 s2 b3 l4 u5) k2:Nat):Int))),(51,.v (.int .i64 (((qat l).toNat:Nat):Int))),(52,.v (.int .i64 ((k2:Nat):Int)))] a_ w_) ((qat l).toNat) ⟨0,none,0,by omega,by omega,fB.pk,dN,Fr.refl _ _ _⟩ ?_
 rintro mM mN mO ⟨k2,A2_,c2_,li,lj,fC,ao,fD⟩
 refine qar [(0,.v (.slice A l.length c)),(1,.v (.int .i64 v)),(2,.v (.bool flex)),(7,.p 0 0),(9,.v (.slice A_ ((qaK W l v (Tree.mk n1 s2 b3 l4 u5) 0).length) c_)),(10,.v (.slice A2_ ((qaB W l (Tree.mk n1 s2 b3 l4 u5) k2).length) c2_)),(11,.v (.int .i64 ((qaQ W l (Tree.mk n1 s2 b3 l4 u5) k2:Nat):Int))),(51,.v (.int .i64 (((qat l).toNat:Nat):Int))),(52,.v (.int .i64 ((k2:Nat):Int))),(53,.v (.bool (decide (((k2:Nat):Int) < (((qat l).toNat:Nat):Int)))))] ao fC fun mQ cN=>?_
 refine wp_seq (qay cN (b:=decide (((k2:Nat):Int) < (((qat l).toNat:Nat):Int))) kz (fun cO=>?_) (fun cO=>?_))
 ·
  have lm:=of_decide_eq_true cO
  refine wp_skip (qab (wp_seq (wp_block (qar [(0,.v (.slice A l.length c)),(1,.v (.int .i64 v)),(2,.v (.bool flex)),(7,.p 0 0),(9,.v (.slice A_ ((qaK W l v (Tree.mk n1 s2 b3 l4 u5) 0).length) c_)),(10,.v (.slice A2_ ((qaB W l (Tree.mk n1 s2 b3 l4 u5) k2).length) c2_)),(11,.v (.int .i64 ((qaQ W l (Tree.mk n1 s2 b3 l4 u5) k2:Nat):Int))),(14,.v (.int .i64 ((k2:Nat):Int))),(51,.v (.int .i64 (((qat l).toNat:Nat):Int))),(52,.v (.int .i64 ((k2:Nat):Int)))] ao cN fun mR fE=>?_))))
  refine qar [(0,.v (.slice A l.length c)),(1,.v (.int .i64 v)),(2,.v (.bool flex)),(7,.p 0 0),(9,.v (.slice A_ ((qaK W l v (Tree.mk n1 s2 b3 l4 u5) 0).length) c_)),(10,.v (.slice A2_ ((qaB W l (Tree.mk n1 s2 b3 l4 u5) k2).length) c2_)),(11,.v (.int .i64 ((qaQ W l (Tree.mk n1 s2 b3 l4 u5) k2:Nat):Int))),(14,.v (.int .i64 ((k2:Nat):Int))),(51,.v (.int .i64 (((qat l).toNat:Nat):Int))),(52,.v (.int .i64 ((k2:Nat):Int))),(55,.v (.slice A l.length c)),(56,.v (.int .i64 ((l.length:Nat):Int))),(57,.v (.int .i64 0))] ao fE fun mS dO=>?_
  refine wp_block ?_
  have dP:(qaB W l (Tree.mk n1 s2 b3 l4 u5) k2) = (qaB W l (Tree.mk n1 s2 b3 l4 u5) k2 ++ []):=(List.append_nil _).symm
  have fF:=congrArg (brow A2_ c2_ 5) dP
  obtain ⟨dQ,fG⟩:=ao.rowEq 1 [brow A_ c_ 5 (qaK W l v (Tree.mk n1 s2 b3 l4 u5) 0),brow A2_ c2_ 5 (qaB W l (Tree.mk n1 s2 b3 l4 u5) k2 ++ [])] fF
  rw [dP] at dO
  have hm2:=hmono (k2 + 1) (by omega)
  rw [qaB,List.length_append] at hm2
  have hc2:=hcnt (k2 + 1)
  rw [qaQ,qaB,List.length_append] at hc2
  have hc3:=qhF W k2 (Tree.mk n1 s2 b3 l4 u5) l 0
  refine wp_loop_ghost (fun n_ a_ w_=>∃ (q:Nat) (A3_:Option Addr) (c3_:Nat) (dm:Bs) (cn:Nat),n_ = l.length - q ∧ q ≤ l.length ∧ (dm ++ tagB W (l.drop q) k2 (Tree.mk n1 s2 b3 l4 u5) q = tagB W l k2 (Tree.mk n1 s2 b3 l4 u5) 0) ∧ (cn + tagN W (l.drop q) k2 (Tree.mk n1 s2 b3 l4 u5) q = tagN W l k2 (Tree.mk n1 s2 b3 l4 u5) 0) ∧ LInv dQ 132 [⟨cD,0,[.int .i64 n1,.slice A6 s2.length c7,.bool b3,.slice A8 l4.length c9,.slice aU u5.length aV],true⟩] [brow A_ c_ 5 (qaK W l v (Tree.mk n1 s2 b3 l4 u5) 0),brow A3_ c3_ 5 (qaB W l (Tree.mk n1 s2 b3 l4 u5) k2 ++ dm)] [(0,.v (.slice A l.length c)),(1,.v (.int .i64 v)),(2,.v (.bool flex)),(7,.p 0 0),(9,.v (.slice A_ ((qaK W l v (Tree.mk n1 s2 b3 l4 u5) 0).length) c_)),(10,.v (.slice A3_ ((qaB W l (Tree.mk n1 s2 b3 l4 u5) k2 ++ dm).length) c3_)),(11,.v (.int .i64 ((qaQ W l (Tree.mk n1 s2 b3 l4 u5) k2 + cn:Nat):Int))),(14,.v (.int .i64 ((k2:Nat):Int))),(51,.v (.int .i64 (((qat l).toNat:Nat):Int))),(52,.v (.int .i64 ((k2:Nat):Int))),(55,.v (.slice A l.length c)),(56,.v (.int .i64 ((l.length:Nat):Int))),(57,.v (.int .i64 ((q:Nat):Int)))] a_ w_) (l.length) ⟨0,A2_,c2_,[],0,by omega,by omega,rfl,Nat.zero_add _,dO.pk,dQ,Fr.refl _ _ _⟩ ?_
  rintro mT mU mV ⟨q,A3_,c3_,dm,cn,ln,lp,hB2,hN2,fH,aY,bT⟩
  refine qar [(0,.v (.slice A l.length c)),(1,.v (.int .i64 v)),(2,.v (.bool flex)),(7,.p 0 0),(9,.v (.slice A_ ((qaK W l v (Tree.mk n1 s2 b3 l4 u5) 0).length) c_)),(10,.v (.slice A3_ ((qaB W l (Tree.mk n1 s2 b3 l4 u5) k2 ++ dm).length) c3_)),(11,.v (.int .i64 ((qaQ W l (Tree.mk n1 s2 b3 l4 u5) k2 + cn:Nat):Int))),(14,.v (.int .i64 ((k2:Nat):Int))),(51,.v (.int .i64 (((qat l).toNat:Nat):Int))),(52,.v (.int .i64 ((k2:Nat):Int))),(55,.v (.slice A l.length c)),(56,.v (.int .i64 ((l.length:Nat):Int))),(57,.v (.int .i64 ((q:Nat):Int))),(58,.v (.bool (decide (((q:Nat):Int) < ((l.length:Nat):Int)))))] aY fH fun mW cP=>?_
  refine wp_seq (qay cP (b:=decide (((q:Nat):Int) < ((l.length:Nat):Int))) kz (fun cQ=>?_) (fun cQ=>?_))
  ·
   have lq:=of_decide_eq_true cQ
   refine wp_skip (qab (wp_seq (wp_block (qae [0,1,2,3,4,5] kz ?_))))
   refine qak [0] [1,2,3,4,5] [(0,.v (.slice A l.length c)),(1,.v (.int .i64 v)),(2,.v (.bool flex)),(7,.p 0 0),(9,.v (.slice A_ ((qaK W l v (Tree.mk n1 s2 b3 l4 u5) 0).length) c_)),(10,.v (.slice A3_ ((qaB W l (Tree.mk n1 s2 b3 l4 u5) k2 ++ dm).length) c3_)),(11,.v (.int .i64 ((qaQ W l (Tree.mk n1 s2 b3 l4 u5) k2 + cn:Nat):Int))),(14,.v (.int .i64 ((k2:Nat):Int))),(51,.v (.int .i64 (((qat l).toNat:Nat):Int))),(52,.v (.int .i64 ((k2:Nat):Int))),(55,.v (.slice A l.length c)),(56,.v (.int .i64 ((l.length:Nat):Int))),(57,.v (.int .i64 ((q:Nat):Int))),(59,.v (.int .i64 ((q:Nat):Int)))] aY cP fun mX fI=>?_
   obtain ⟨kf,kg,fJ,lr,cR⟩:=Slots.get h1 (i:=q) (by omega)
   obtain ⟨kh,ap⟩:∃ x,l[q]? = some x:=⟨_,List.getElem?_eq_getElem (by omega)⟩
   have bU:=h2 q kh ap
   obtain ⟨ab,ac,ae,af,aa,ag,ah,ai,bn,bo,ls,rfl,cS,ki,mY⟩:=bU.open_
   rw [cS] at bU
   have kj:=ki.small
   rw [cS] at cR
   refine qam (qax fI (t:=32) (A:=A) (m:=l.length) (q:=((q:Nat):Int)) (d:=60) kz (e:=50) (size:=8) (bytes:=80) kz fJ rfl (by omega) fun mZ fK=>?_)
   refine qam (qaH fK (t:=50) (b:=kf) (o:=kg + q * 8) (d:=61) kz (cs:=(z7 ab ac ae af aa ag ah bn ai.length bo)) (v:=.agg #[.int .i64 ab,.int .i64 ac,.int .i64 ae,.int .i64 af,.int .i64 aa,.int .i64 ag,.int .i64 ah,.slice bn ai.length bo]) kz (AtF.move cR aY.step nilM qbg).at_ fun m4 fL=>?_)
   refine qam (qbc aY fL (d:=16) (cs:=z20) kz fun m5 m6 m7 lu lv cT dR fM=>?_)
   refine qak [4] [5] [(0,.v (.slice A l.length c)),(1,.v (.int .i64 v)),(2,.v (.bool flex)),(7,.p 0 0),(9,.v (.slice A_ ((qaK W l v (Tree.mk n1 s2 b3 l4 u5) 0).length) c_)),(10,.v (.slice A3_ ((qaB W l (Tree.mk n1 s2 b3 l4 u5) k2 ++ dm).length) c3_)),(11,.v (.int .i64 ((qaQ W l (Tree.mk n1 s2 b3 l4 u5) k2 + cn:Nat):Int))),(14,.v (.int .i64 ((k2:Nat):Int))),(15,.v (.int .i64 ((q:Nat):Int))),(16,.p 1 0),(51,.v (.int .i64 (((qat l).toNat:Nat):Int))),(52,.v (.int .i64 ((k2:Nat):Int))),(55,.v (.slice A l.length c)),(56,.v (.int .i64 ((l.length:Nat):Int))),(57,.v (.int .i64 ((q:Nat):Int))),(61,.v (.agg #[.int .i64 ab,.int .i64 ac,.int .i64 ae,.int .i64 af,.int .i64 aa,.int .i64 ag,.int .i64 ah,.slice bn ai.length bo]))] dR fM fun m8 fN=>?_
   refine qam (qaM dR fN (oi:=1) (cs:=(z7 ab ac ae af aa ag ah bn ai.length bo)) kz fun m9 cU fO fP=>?_)
   refine qaf (qab ?_)
   refine qbm 12 kz fO fun nf cV aN cW=>?_
   refine qa0 [0,1,2,3,4] [(0,.v (.slice A l.length c)),(1,.v (.int .i64 v)),(2,.v (.bool flex)),(7,.p 0 0),(9,.v (.slice A_ ((qaK W l v (Tree.mk n1 s2 b3 l4 u5) 0).length) c_)),(10,.v (.slice A3_ ((qaB W l (Tree.mk n1 s2 b3 l4 u5) k2 ++ dm).length) c3_)),(11,.v (.int .i64 ((qaQ W l (Tree.mk n1 s2 b3 l4 u5) k2 + cn:Nat):Int))),(14,.v (.int .i64 ((k2:Nat):Int))),(15,.v (.int .i64 ((q:Nat):Int))),(16,.p 1 0),(51,.v (.int .i64 (((qat l).toNat:Nat):Int))),(52,.v (.int .i64 ((k2:Nat):Int))),(55,.v (.slice A l.length c)),(56,.v (.int .i64 ((l.length:Nat):Int))),(57,.v (.int .i64 ((q:Nat):Int))),(66,.v (.bool (aa == ((k2:Nat):Int))))] 7 (qac (qai (qac (qac (qai (qai (qac (qac (qai (qac qah)))))))))) (fun _ h=>h.cells) cW fP fun ng dS=>?_
   refine (Bool.eq_false_or_eq_true (aa == ((k2:Nat):Int))).elim (fun bp=>?_) (fun bp=>?_)
   ·
    have lw:aa = ((k2:Nat):Int):=by simpa using bp
    have fQ:=dS
    rw [bp] at fQ
    refine qa0 [5,6,7] [(0,.v (.slice A l.length c)),(1,.v (.int .i64 v)),(2,.v (.bool flex)),(7,.p 0 0),(9,.v (.slice A_ ((qaK W l v (Tree.mk n1 s2 b3 l4 u5) 0).length) c_)),(10,.v (.slice A3_ ((qaB W l (Tree.mk n1 s2 b3 l4 u5) k2 ++ dm).length) c3_)),(11,.v (.int .i64 ((qaQ W l (Tree.mk n1 s2 b3 l4 u5) k2 + cn:Nat):Int))),(14,.v (.int .i64 ((k2:Nat):Int))),(15,.v (.int .i64 ((q:Nat):Int))),(16,.p 1 0),(51,.v (.int .i64 (((qat l).toNat:Nat):Int))),(52,.v (.int .i64 ((k2:Nat):Int))),(55,.v (.slice A l.length c)),(56,.v (.int .i64 ((l.length:Nat):Int))),(57,.v (.int .i64 ((q:Nat):Int))),(66,.v (.bool true)),(67,.v (.agg #[.int .i64 ab,.int .i64 ac,.int .i64 ae,.int .i64 af,.int .i64 aa,.int .i64 ag,.int .i64 ah,.slice bn ai.length bo])),(68,.v (.agg #[.int .i64 n1,.slice A6 s2.length c7,.bool b3,.slice A8 l4.length c9,.slice aU u5.length aV])),(69,.v (.int .i64 ((q:Nat):Int)))] 4 (qac (qai (qac (qac (qai (qai (qac (qac (qai (qac qah)))))))))) (fun _ h=>h.cells) cW fQ fun nh fR=>?_
    refine qaO (i:=8) kz (qal fR (f:=82) (vs:=[.agg #[.int .i64 n1,.slice A6 s2.length c7,.bool b3,.slice A8 l4.length c9,.slice aU u5.length aV],.int .i64 ((q:Nat):Int)]) (d:=70) kz Tryz.call82 (sAt _ _ q _ _ (ht.move aN.step nilM aN.imm)) ?_)
    rintro e_ ni ⟨lx,rfl,fS,bq⟩
    have cX:=fS.move bq nilM (fun b o h_ hb_=>aN.laid (G:=F) bq b o (.inl h_) (Nat.lt_of_lt_of_le hb_ bq.size))
    obtain ⟨km,ko,kp,kq,ku,kv,kw,kx,ky,kA,kB,ly,lz,cY,kC,kD,nj,nk⟩:=cX.open_
    rw [cY] at cX
    have kE:=kC.small
    have kF:=kD.small
    rw [cY]
    refine ⟨_,rfl,fun nl fT=>?_⟩
    have bt:=aN.next_nil bq
    have bV:=aN.frN bq
    have fU:=TT.ofW bV bt
    refine ⟨fun _=>fU,?_⟩
    refine qaO (i:=9) kz (qal fT (f:=84) (vs:=[.agg #[.int .i64 ab,.int .i64 ac,.int .i64 ae,.int .i64 af,.int .i64 aa,.int .i64 ag,.int .i64 ah,.slice bn ai.length bo],.agg #[.int .i64 km,.slice kv ko.length kw,.bool kp,.slice kx kq.length ky,.slice kA ku.length kB]]) (d:=71) kz Tryz.call84 (qld _ _ _ _ _ _ _ (bU.move bt.step nilM bt.imm) (Nat.le_refl _) cX) ?_)
    rintro e_ np ⟨rfl,dT⟩
    refine ⟨_,rfl,fun nr fV=>?_⟩
    have bW:=bt.next_nil dT
    have cZ:=bt.frN dT
    have dU:=TT.ofW (bV.trans cZ) bW
    refine ⟨fun _=>dU,?_⟩
    refine qa0 [10,11] [(0,.v (.slice A l.length c)),(1,.v (.int .i64 v)),(2,.v (.bool flex)),(7,.p 0 0),(9,.v (.slice A_ ((qaK W l v (Tree.mk n1 s2 b3 l4 u5) 0).length) c_)),(10,.v (.slice A3_ ((qaB W l (Tree.mk n1 s2 b3 l4 u5) k2 ++ dm).length) c3_)),(11,.v (.int .i64 ((qaQ W l (Tree.mk n1 s2 b3 l4 u5) k2 + cn:Nat):Int))),(14,.v (.int .i64 ((k2:Nat):Int))),(15,.v (.int .i64 ((q:Nat):Int))),(16,.p 1 0),(51,.v (.int .i64 (((qat l).toNat:Nat):Int))),(52,.v (.int .i64 ((k2:Nat):Int))),(55,.v (.slice A l.length c)),(56,.v (.int .i64 ((l.length:Nat):Int))),(57,.v (.int .i64 ((q:Nat):Int))),(73,.v (.bool (!(Fld.usual (Fld.mk ab ac ae af aa ag ah ai) (Tree.at_ (Tree.mk n1 s2 b3 l4 u5) q)))))] 0 (qac (qai (qac (qac (qai (qai (qac (qac (qai (qac qah)))))))))) (fun _ h=>h.cells) dU fV fun ns c5=>?_
    refine qaZ kz ?_ _
    refine qab (qay c5 (b:=!(Fld.usual (Fld.mk ab ac ae af aa ag ah ai) (Tree.at_ (Tree.mk n1 s2 b3 l4 u5) q))) kz (fun ay=>?_) (fun ay=>?_))
    ·
     refine qbm 7 kz bW fun nt fW bu fX=>?_
     refine qa0 [0,1,2,3,4] [(0,.v (.slice A l.length c)),(1,.v (.int .i64 v)),(2,.v (.bool flex)),(7,.p 0 0),(9,.v (.slice A_ ((qaK W l v (Tree.mk n1 s2 b3 l4 u5) 0).length) c_)),(10,.v (.slice A3_ ((qaB W l (Tree.mk n1 s2 b3 l4 u5) k2 ++ dm).length) c3_)),(11,.v (.int .i64 ((qaQ W l (Tree.mk n1 s2 b3 l4 u5) k2 + cn:Nat):Int))),(14,.v (.int .i64 ((k2:Nat):Int))),(51,.v (.int .i64 (((qat l).toNat:Nat):Int))),(52,.v (.int .i64 ((k2:Nat):Int))),(55,.v (.slice A l.length c)),(56,.v (.int .i64 ((l.length:Nat):Int))),(57,.v (.int .i64 ((q:Nat):Int))),(74,.v (.agg #[.int .i64 ab,.int .i64 ac,.int .i64 ae,.int .i64 af,.int .i64 aa,.int .i64 ag,.int .i64 ah,.slice bn ai.length bo])),(75,.v (.int .i64 v)),(76,.v (.bool flex)),(77,.v (.agg #[.int .i64 n1,.slice A6 s2.length c7,.bool b3,.slice A8 l4.length c9,.slice aU u5.length aV])),(78,.v (.int .i64 ((q:Nat):Int)))] 3 (qac (qai (qac (qac (qai (qai (qac (qac (qai (qac qah)))))))))) (fun _ h=>h.cells) fX c5 fun nu fY=>?_
     refine qaO (i:=5) kz (qal fY (f:=82) (vs:=[.agg #[.int .i64 n1,.slice A6 s2.length c7,.bool b3,.slice A8 l4.length c9,.slice aU u5.length aV],.int .i64 ((q:Nat):Int)]) (d:=79) kz Tryz.call82 (sAt _ _ q _ _ (ht.move bu.step nilM bu.imm)) ?_)
     rintro e_ nv ⟨lA,rfl,fZ,bw⟩
     have da:=fZ.move bw nilM (fun b o h_ hb_=>bu.laid (G:=F) bw b o (.inl h_) (Nat.lt_of_lt_of_le hb_ bw.size))
     obtain ⟨kG,kH,kI,kJ,kK,kL,kM,kN,kO,kP,kQ,lB,lC,db,kR,kS,nw,nx⟩:=da.open_
     rw [db] at da
     have kT:=kR.small
     have kU:=kS.small
     rw [db]
     refine ⟨_,rfl,fun ny f5=>?_⟩
     have bX:=bu.next_nil bw
     have dc:=bu.frN bw
     have f7:=TT.ofW dc bX
     refine ⟨fun _=>f7,?_⟩
     refine qaO (i:=6) kz (qal f5 (f:=81) (vs:=[.agg #[.int .i64 ab,.int .i64 ac,.int .i64 ae,.int .i64 af,.int .i64 aa,.int .i64 ag,.int .i64 ah,.slice bn ai.length bo],.int .i64 v,.bool flex,.agg #[.int .i64 kG,.slice kL kH.length kM,.bool kI,.slice kN kJ.length kO,.slice kP kK.length kQ]]) (d:=80) kz Tryz.call81 ( hW_ _ _ _ _ _ _ (List.mem_of_getElem? ap) (bU.move bX.step nilM bX.imm) da (by have h_:=congrArg List.length hB2; rw [qek ap (by omega) (by simpa using ay)] at h_; simp only [List.length_append] at h_; omega)) ?_)
     rintro e_ nz ⟨av,aw,rfl,f8,f9⟩
     refine ⟨_,rfl,fun nA ga=>?_⟩
     obtain ⟨bY,dV⟩:=bX.frFresh f9 (brow av aw 5 (W (Fld.mk ab ac ae af aa ag ah ai) (Tree.at_ (Tree.mk n1 s2 b3 l4 u5) q))) (Nat.le_refl _) f8
     have kV:(W (Fld.mk ab ac ae af aa ag ah ai) (Tree.at_ (Tree.mk n1 s2 b3 l4 u5) q)).length ≤ 1099511627776:=by have h_:=congrArg List.length hB2; rw [qek ap (by omega) (by simpa using ay)] at h_; simp only [List.length_append] at h_; omega
     have gb:=TT.ofW (dc.trans dV) bY
     refine ⟨fun _=>gb,?_⟩
     refine qaO (i:=7) kz (qcf [0,1,2,7,9,10,11,14,17,51,52,55,56,57] bY.cells ga (env':=[(0,.v (.slice A l.length c)),(1,.v (.int .i64 v)),(2,.v (.bool flex)),(7,.p 0 0),(9,.v (.slice A_ ((qaK W l v (Tree.mk n1 s2 b3 l4 u5) 0).length) c_)),(10,.v (.slice A3_ ((qaB W l (Tree.mk n1 s2 b3 l4 u5) k2 ++ dm).length) c3_)),(11,.v (.int .i64 ((qaQ W l (Tree.mk n1 s2 b3 l4 u5) k2 + cn:Nat):Int))),(14,.v (.int .i64 ((k2:Nat):Int))),(17,.v (.slice av ((W (Fld.mk ab ac ae af aa ag ah ai) (Tree.at_ (Tree.mk n1 s2 b3 l4 u5) q)).length) aw)),(51,.v (.int .i64 (((qat l).toNat:Nat):Int))),(52,.v (.int .i64 ((k2:Nat):Int))),(55,.v (.slice A l.length c)),(56,.v (.int .i64 ((l.length:Nat):Int))),(57,.v (.int .i64 ((q:Nat):Int)))]) kz fun nB gc=>?_)
     refine ⟨fun h=>absurd rfl h,?_⟩
     refine qaZ kz ?_ _
     refine qab (qae [0,1,2,3,4,5,6,7,8,9,10,11,12] kz ?_)
     refine qak [0,1,2] [3,4,5,6,7,8,9,10,11,12] [(0,.v (.slice A l.length c)),(1,.v (.int .i64 v)),(2,.v (.bool flex)),(7,.p 0 0),(9,.v (.slice A_ ((qaK W l v (Tree.mk n1 s2 b3 l4 u5) 0).length) c_)),(11,.v (.int .i64 ((qaQ W l (Tree.mk n1 s2 b3 l4 u5) k2 + cn:Nat):Int))),(14,.v (.int .i64 ((k2:Nat):Int))),(17,.v (.slice av ((W (Fld.mk ab ac ae af aa ag ah ai) (Tree.at_ (Tree.mk n1 s2 b3 l4 u5) q)).length) aw)),(51,.v (.int .i64 (((qat l).toNat:Nat):Int))),(52,.v (.int .i64 ((k2:Nat):Int))),(55,.v (.slice A l.length c)),(56,.v (.int .i64 ((l.length:Nat):Int))),(57,.v (.int .i64 ((q:Nat):Int))),(81,.v (.slice A3_ ((qaB W l (Tree.mk n1 s2 b3 l4 u5) k2 ++ dm).length) c3_)),(83,.v (.int .u64 (IntKind.u64.wrap ((k2:Nat):Int))))] bY gc fun nC gd=>?_
     have ge:IntKind.u64.wrap ((k2:Nat):Int) = ((k2:Nat):Int):=by simp only [qaG,qaq,qbV,IntKind.wrap_i64,IntKind.wrap_i32]; omega
     have gg:=EnvOk.pick gd (ks:=[0,1,2,7,9,11,14,17,51,52,55,56,57,81,83]) (env':=[(0,.v (.slice A l.length c)),(1,.v (.int .i64 v)),(2,.v (.bool flex)),(7,.p 0 0),(9,.v (.slice A_ ((qaK W l v (Tree.mk n1 s2 b3 l4 u5) 0).length) c_)),(11,.v (.int .i64 ((qaQ W l (Tree.mk n1 s2 b3 l4 u5) k2 + cn:Nat):Int))),(14,.v (.int .i64 ((k2:Nat):Int))),(17,.v (.slice av ((W (Fld.mk ab ac ae af aa ag ah ai) (Tree.at_ (Tree.mk n1 s2 b3 l4 u5) q)).length) aw)),(51,.v (.int .i64 (((qat l).toNat:Nat):Int))),(52,.v (.int .i64 ((k2:Nat):Int))),(55,.v (.slice A l.length c)),(56,.v (.int .i64 ((l.length:Nat):Int))),(57,.v (.int .i64 ((q:Nat):Int))),(81,.v (.slice A3_ ((qaB W l (Tree.mk n1 s2 b3 l4 u5) k2 ++ dm).length) c3_)),(83,.v (.int .u64 (IntKind.u64.wrap ((k2:Nat):Int))))]) kz
     have gh:=gg
     rw [ge] at gh
     refine qam (qal gh (f:=85) (vs:=[.int .u64 ((k2:Nat):Int)]) (d:=84) kz Tryz.call85 (qeo k2 (by omega) _) ?_)
     rintro e_ nD ⟨bH,bI,rfl,gi,gj⟩
     refine ⟨_,rfl,fun nE gk=>?_⟩
     obtain ⟨de,gl⟩:=bY.frFresh gj (brow bH bI 5 (uv k2)) (Nat.le_refl _) gi
     refine qam (qaJ de gk (k:=1) (d:=85) (t:=24) (e:=5) (size:=1) (bytes:=1) (A:=A3_) (As:=bH) (m0:=((qaB W l (Tree.mk n1 s2 b3 l4 u5) k2 ++ dm).length)) (c:=c3_) (m:=((uv k2).length)) (cs:=bI) (xs:=(bc (qaB W l (Tree.mk n1 s2 b3 l4 u5) k2 ++ dm))) (news:=bc (uv k2)) kz kz rfl (qbZ (de.own 3 _ rfl) (qcq _)) (qcc (de.own 3 _ rfl)) (by have h_:=congrArg List.length hB2; rw [qek ap (by omega) (by simpa using ay)] at h_; simp only [List.length_append] at h_ ⊢; omega) fun aO aP nF nG gm gn gp=>?_)
     have gq:(⟨aO,aP,5,1,(qaB W l (Tree.mk n1 s2 b3 l4 u5) k2 ++ dm).length + (uv k2).length,bc (qaB W l (Tree.mk n1 s2 b3 l4 u5) k2 ++ dm) ++ bc (uv k2)⟩:Rw) = brow aO aP 5 (qaB W l (Tree.mk n1 s2 b3 l4 u5) k2 ++ dm ++ (uv k2)):=qa2 (rfl) rfl
     obtain ⟨dW,gt⟩:=gn.rowEq 1 [brow A_ c_ 5 (qaK W l v (Tree.mk n1 s2 b3 l4 u5) 0),brow aO aP 5 (qaB W l (Tree.mk n1 s2 b3 l4 u5) k2 ++ dm ++ (uv k2)),brow av aw 5 (W (Fld.mk ab ac ae af aa ag ah ai) (Tree.at_ (Tree.mk n1 s2 b3 l4 u5) q)),brow bH bI 5 (uv k2)] gq
     have gv:=EnvOk.pick gp (ks:=[0,1,2,7,9,11,14,17,51,52,55,56,57,81,83,84,85]) (env':=[(0,.v (.slice A l.length c)),(1,.v (.int .i64 v)),(2,.v (.bool flex)),(7,.p 0 0),(9,.v (.slice A_ ((qaK W l v (Tree.mk n1 s2 b3 l4 u5) 0).length) c_)),(11,.v (.int .i64 ((qaQ W l (Tree.mk n1 s2 b3 l4 u5) k2 + cn:Nat):Int))),(14,.v (.int .i64 ((k2:Nat):Int))),(17,.v (.slice av ((W (Fld.mk ab ac ae af aa ag ah ai) (Tree.at_ (Tree.mk n1 s2 b3 l4 u5) q)).length) aw)),(51,.v (.int .i64 (((qat l).toNat:Nat):Int))),(52,.v (.int .i64 ((k2:Nat):Int))),(55,.v (.slice A l.length c)),(56,.v (.int .i64 ((l.length:Nat):Int))),(57,.v (.int .i64 ((q:Nat):Int))),(81,.v (.slice A3_ ((qaB W l (Tree.mk n1 s2 b3 l4 u5) k2 ++ dm).length) c3_)),(83,.v (.int .u64 ((k2:Nat):Int))),(84,.v (.slice bH ((uv k2).length) bI)),(85,.v (.slice aO ((qaB W l (Tree.mk n1 s2 b3 l4 u5) k2 ++ dm).length + (uv k2).length) aP))]) kz
     have gw:=gv.cast (env':=[(0,.v (.slice A l.length c)),(1,.v (.int .i64 v)),(2,.v (.bool flex)),(7,.p 0 0),(9,.v (.slice A_ ((qaK W l v (Tree.mk n1 s2 b3 l4 u5) 0).length) c_)),(11,.v (.int .i64 ((qaQ W l (Tree.mk n1 s2 b3 l4 u5) k2 + cn:Nat):Int))),(14,.v (.int .i64 ((k2:Nat):Int))),(17,.v (.slice av ((W (Fld.mk ab ac ae af aa ag ah ai) (Tree.at_ (Tree.mk n1 s2 b3 l4 u5) q)).length) aw)),(51,.v (.int .i64 (((qat l).toNat:Nat):Int))),(52,.v (.int .i64 ((k2:Nat):Int))),(55,.v (.slice A l.length c)),(56,.v (.int .i64 ((l.length:Nat):Int))),(57,.v (.int .i64 ((q:Nat):Int))),(81,.v (.slice A3_ ((qaB W l (Tree.mk n1 s2 b3 l4 u5) k2 ++ dm).length) c3_)),(83,.v (.int .u64 ((k2:Nat):Int))),(84,.v (.slice bH ((uv k2).length) bI)),(85,.v (.slice aO ((qaB W l (Tree.mk n1 s2 b3 l4 u5) k2 ++ dm ++ (uv k2)).length) aP))]) (by simp only [List.length_append,List.length_cons,List.length_nil,Nat.zero_add])
     refine qak [5,6,7] [8,9,10,11,12] [(0,.v (.slice A l.length c)),(1,.v (.int .i64 v)),(2,.v (.bool flex)),(7,.p 0 0),(9,.v (.slice A_ ((qaK W l v (Tree.mk n1 s2 b3 l4 u5) 0).length) c_)),(11,.v (.int .i64 ((qaQ W l (Tree.mk n1 s2 b3 l4 u5) k2 + cn:Nat):Int))),(14,.v (.int .i64 ((k2:Nat):Int))),(17,.v (.slice av ((W (Fld.mk ab ac ae af aa ag ah ai) (Tree.at_ (Tree.mk n1 s2 b3 l4 u5) q)).length) aw)),(51,.v (.int .i64 (((qat l).toNat:Nat):Int))),(52,.v (.int .i64 ((k2:Nat):Int))),(55,.v (.slice A l.length c)),(56,.v (.int .i64 ((l.length:Nat):Int))),(57,.v (.int .i64 ((q:Nat):Int))),(85,.v (.slice aO ((qaB W l (Tree.mk n1 s2 b3 l4 u5) k2 ++ dm ++ (uv k2)).length) aP)),(88,.v (.int .u64 (IntKind.u64.wrap (((W (Fld.mk ab ac ae af aa ag ah ai) (Tree.at_ (Tree.mk n1 s2 b3 l4 u5) q)).length:Nat):Int))))] dW gw fun nH gx=>?_
     have gy:IntKind.u64.wrap (((W (Fld.mk ab ac ae af aa ag ah ai) (Tree.at_ (Tree.mk n1 s2 b3 l4 u5) q)).length:Nat):Int) = (((W (Fld.mk ab ac ae af aa ag ah ai) (Tree.at_ (Tree.mk n1 s2 b3 l4 u5) q)).length:Nat):Int):=by simp only [qaG,qaq,qbV,IntKind.wrap_i64,IntKind.wrap_i32]; omega
     have gz:=EnvOk.pick gx (ks:=[0,1,2,7,9,11,14,17,51,52,55,56,57,85,88]) (env':=[(0,.v (.slice A l.length c)),(1,.v (.int .i64 v)),(2,.v (.bool flex)),(7,.p 0 0),(9,.v (.slice A_ ((qaK W l v (Tree.mk n1 s2 b3 l4 u5) 0).length) c_)),(11,.v (.int .i64 ((qaQ W l (Tree.mk n1 s2 b3 l4 u5) k2 + cn:Nat):Int))),(14,.v (.int .i64 ((k2:Nat):Int))),(17,.v (.slice av ((W (Fld.mk ab ac ae af aa ag ah ai) (Tree.at_ (Tree.mk n1 s2 b3 l4 u5) q)).length) aw)),(51,.v (.int .i64 (((qat l).toNat:Nat):Int))),(52,.v (.int .i64 ((k2:Nat):Int))),(55,.v (.slice A l.length c)),(56,.v (.int .i64 ((l.length:Nat):Int))),(57,.v (.int .i64 ((q:Nat):Int))),(85,.v (.slice aO ((qaB W l (Tree.mk n1 s2 b3 l4 u5) k2 ++ dm ++ (uv k2)).length) aP)),(88,.v (.int .u64 (IntKind.u64.wrap (((W (Fld.mk ab ac ae af aa ag ah ai) (Tree.at_ (Tree.mk n1 s2 b3 l4 u5) q)).length:Nat):Int))))]) kz
     have gA:=gz
     rw [gy] at gA
     refine qam (qal gA (f:=85) (vs:=[.int .u64 (((W (Fld.mk ab ac ae af aa ag ah ai) (Tree.at_ (Tree.mk n1 s2 b3 l4 u5) q)).length:Nat):Int)]) (d:=89) kz Tryz.call85 (qeo ((W (Fld.mk ab ac ae af aa ag ah ai) (Tree.at_ (Tree.mk n1 s2 b3 l4 u5) q)).length) (by omega) _) ?_)
     rintro e_ nI ⟨cv,cw,rfl,gB,gC⟩
     refine ⟨_,rfl,fun nJ gD=>?_⟩
     obtain ⟨df,gE⟩:=dW.frFresh gC (brow cv cw 5 (uv ((W (Fld.mk ab ac ae af aa ag ah ai) (Tree.at_ (Tree.mk n1 s2 b3 l4 u5) q)).length))) (Nat.le_refl _) gB
     refine qam (qaJ df gD (k:=1) (d:=90) (t:=24) (e:=5) (size:=1) (bytes:=1) (A:=aO) (As:=cv) (m0:=((qaB W l (Tree.mk n1 s2 b3 l4 u5) k2 ++ dm ++ (uv k2)).length)) (c:=aP) (m:=((uv ((W (Fld.mk ab ac ae af aa ag ah ai) (Tree.at_ (Tree.mk n1 s2 b3 l4 u5) q)).length)).length)) (cs:=cw) (xs:=(bc (qaB W l (Tree.mk n1 s2 b3 l4 u5) k2 ++ dm ++ (uv k2)))) (news:=bc (uv ((W (Fld.mk ab ac ae af aa ag ah ai) (Tree.at_ (Tree.mk n1 s2 b3 l4 u5) q)).length))) kz kz rfl (qbZ (df.own 4 _ rfl) (qcq _)) (qcc (df.own 4 _ rfl)) (by have h_:=congrArg List.length hB2; rw [qek ap (by omega) (by simpa using ay)] at h_; simp only [List.length_append] at h_ ⊢; omega) fun aZ ba nK nL gF gG gH=>?_)
     have gI:(⟨aZ,ba,5,1,(qaB W l (Tree.mk n1 s2 b3 l4 u5) k2 ++ dm ++ (uv k2)).length + (uv ((W (Fld.mk ab ac ae af aa ag ah ai) (Tree.at_ (Tree.mk n1 s2 b3 l4 u5) q)).length)).length,bc (qaB W l (Tree.mk n1 s2 b3 l4 u5) k2 ++ dm ++ (uv k2)) ++ bc (uv ((W (Fld.mk ab ac ae af aa ag ah ai) (Tree.at_ (Tree.mk n1 s2 b3 l4 u5) q)).length))⟩:Rw) = brow aZ ba 5 (qaB W l (Tree.mk n1 s2 b3 l4 u5) k2 ++ dm ++ (uv k2) ++ (uv ((W (Fld.mk ab ac ae af aa ag ah ai) (Tree.at_ (Tree.mk n1 s2 b3 l4 u5) q)).length))):=qa2 (rfl) rfl
     obtain ⟨bZ,gJ⟩:=gG.rowEq 1 [brow A_ c_ 5 (qaK W l v (Tree.mk n1 s2 b3 l4 u5) 0),brow aZ ba 5 (qaB W l (Tree.mk n1 s2 b3 l4 u5) k2 ++ dm ++ (uv k2) ++ (uv ((W (Fld.mk ab ac ae af aa ag ah ai) (Tree.at_ (Tree.mk n1 s2 b3 l4 u5) q)).length))),brow av aw 5 (W (Fld.mk ab ac ae af aa ag ah ai) (Tree.at_ (Tree.mk n1 s2 b3 l4 u5) q)),brow bH bI 5 (uv k2),brow cv cw 5 (uv ((W (Fld.mk ab ac ae af aa ag ah ai) (Tree.at_ (Tree.mk n1 s2 b3 l4 u5) q)).length))] gI
     have gK:=EnvOk.pick gH (ks:=[0,1,2,7,9,11,14,17,51,52,55,56,57,85,88,89,90]) (env':=[(0,.v (.slice A l.length c)),(1,.v (.int .i64 v)),(2,.v (.bool flex)),(7,.p 0 0),(9,.v (.slice A_ ((qaK W l v (Tree.mk n1 s2 b3 l4 u5) 0).length) c_)),(11,.v (.int .i64 ((qaQ W l (Tree.mk n1 s2 b3 l4 u5) k2 + cn:Nat):Int))),(14,.v (.int .i64 ((k2:Nat):Int))),(17,.v (.slice av ((W (Fld.mk ab ac ae af aa ag ah ai) (Tree.at_ (Tree.mk n1 s2 b3 l4 u5) q)).length) aw)),(51,.v (.int .i64 (((qat l).toNat:Nat):Int))),(52,.v (.int .i64 ((k2:Nat):Int))),(55,.v (.slice A l.length c)),(56,.v (.int .i64 ((l.length:Nat):Int))),(57,.v (.int .i64 ((q:Nat):Int))),(85,.v (.slice aO ((qaB W l (Tree.mk n1 s2 b3 l4 u5) k2 ++ dm ++ (uv k2)).length) aP)),(88,.v (.int .u64 (((W (Fld.mk ab ac ae af aa ag ah ai) (Tree.at_ (Tree.mk n1 s2 b3 l4 u5) q)).length:Nat):Int))),(89,.v (.slice cv ((uv ((W (Fld.mk ab ac ae af aa ag ah ai) (Tree.at_ (Tree.mk n1 s2 b3 l4 u5) q)).length)).length) cw)),(90,.v (.slice aZ ((qaB W l (Tree.mk n1 s2 b3 l4 u5) k2 ++ dm ++ (uv k2)).length + (uv ((W (Fld.mk ab ac ae af aa ag ah ai) (Tree.at_ (Tree.mk n1 s2 b3 l4 u5) q)).length)).length) ba))]) kz
     have gL:=gK.cast (env':=[(0,.v (.slice A l.length c)),(1,.v (.int .i64 v)),(2,.v (.bool flex)),(7,.p 0 0),(9,.v (.slice A_ ((qaK W l v (Tree.mk n1 s2 b3 l4 u5) 0).length) c_)),(11,.v (.int .i64 ((qaQ W l (Tree.mk n1 s2 b3 l4 u5) k2 + cn:Nat):Int))),(14,.v (.int .i64 ((k2:Nat):Int))),(17,.v (.slice av ((W (Fld.mk ab ac ae af aa ag ah ai) (Tree.at_ (Tree.mk n1 s2 b3 l4 u5) q)).length) aw)),(51,.v (.int .i64 (((qat l).toNat:Nat):Int))),(52,.v (.int .i64 ((k2:Nat):Int))),(55,.v (.slice A l.length c)),(56,.v (.int .i64 ((l.length:Nat):Int))),(57,.v (.int .i64 ((q:Nat):Int))),(85,.v (.slice aO ((qaB W l (Tree.mk n1 s2 b3 l4 u5) k2 ++ dm ++ (uv k2)).length) aP)),(88,.v (.int .u64 (((W (Fld.mk ab ac ae af aa ag ah ai) (Tree.at_ (Tree.mk n1 s2 b3 l4 u5) q)).length:Nat):Int))),(89,.v (.slice cv ((uv ((W (Fld.mk ab ac ae af aa ag ah ai) (Tree.at_ (Tree.mk n1 s2 b3 l4 u5) q)).length)).length) cw)),(90,.v (.slice aZ ((qaB W l (Tree.mk n1 s2 b3 l4 u5) k2 ++ dm ++ (uv k2) ++ (uv ((W (Fld.mk ab ac ae af aa ag ah ai) (Tree.at_ (Tree.mk n1 s2 b3 l4 u5) q)).length))).length) ba))]) (by simp only [List.length_append,List.length_cons,List.length_nil,Nat.zero_add])
     refine qak [10] [11,12] [(0,.v (.slice A l.length c)),(1,.v (.int .i64 v)),(2,.v (.bool flex)),(7,.p 0 0),(9,.v (.slice A_ ((qaK W l v (Tree.mk n1 s2 b3 l4 u5) 0).length) c_)),(11,.v (.int .i64 ((qaQ W l (Tree.mk n1 s2 b3 l4 u5) k2 + cn:Nat):Int))),(14,.v (.int .i64 ((k2:Nat):Int))),(51,.v (.int .i64 (((qat l).toNat:Nat):Int))),(52,.v (.int .i64 ((k2:Nat):Int))),(55,.v (.slice A l.length c)),(56,.v (.int .i64 ((l.length:Nat):Int))),(57,.v (.int .i64 ((q:Nat):Int))),(90,.v (.slice aZ ((qaB W l (Tree.mk n1 s2 b3 l4 u5) k2 ++ dm ++ (uv k2) ++ (uv ((W (Fld.mk ab ac ae af aa ag ah ai) (Tree.at_ (Tree.mk n1 s2 b3 l4 u5) q)).length))).length) ba)),(91,.v (.slice av ((W (Fld.mk ab ac ae af aa ag ah ai) (Tree.at_ (Tree.mk n1 s2 b3 l4 u5) q)).length) aw))] bZ gL fun nM gM=>?_
     refine qam (qaJ bZ gM (k:=1) (d:=92) (t:=24) (e:=5) (size:=1) (bytes:=1) (A:=aZ) (As:=av) (m0:=((qaB W l (Tree.mk n1 s2 b3 l4 u5) k2 ++ dm ++ (uv k2) ++ (uv ((W (Fld.mk ab ac ae af aa ag ah ai) (Tree.at_ (Tree.mk n1 s2 b3 l4 u5) q)).length))).length)) (c:=ba) (m:=((W (Fld.mk ab ac ae af aa ag ah ai) (Tree.at_ (Tree.mk n1 s2 b3 l4 u5) q)).length)) (cs:=aw) (xs:=(bc (qaB W l (Tree.mk n1 s2 b3 l4 u5) k2 ++ dm ++ (uv k2) ++ (uv ((W (Fld.mk ab ac ae af aa ag ah ai) (Tree.at_ (Tree.mk n1 s2 b3 l4 u5) q)).length))))) (news:=bc (W (Fld.mk ab ac ae af aa ag ah ai) (Tree.at_ (Tree.mk n1 s2 b3 l4 u5) q))) kz kz rfl (qbZ (bZ.own 2 _ rfl) (qcq _)) (qcc (bZ.own 2 _ rfl)) (by have h_:=congrArg List.length hB2; rw [qek ap (by omega) (by simpa using ay)] at h_; simp only [List.length_append] at h_ ⊢; omega) fun aI aJ nN nO gN gO gP=>?_)
     have gQ:(⟨aI,aJ,5,1,(qaB W l (Tree.mk n1 s2 b3 l4 u5) k2 ++ dm ++ (uv k2) ++ (uv ((W (Fld.mk ab ac ae af aa ag ah ai) (Tree.at_ (Tree.mk n1 s2 b3 l4 u5) q)).length))).length + (W (Fld.mk ab ac ae af aa ag ah ai) (Tree.at_ (Tree.mk n1 s2 b3 l4 u5) q)).length,bc (qaB W l (Tree.mk n1 s2 b3 l4 u5) k2 ++ dm ++ (uv k2) ++ (uv ((W (Fld.mk ab ac ae af aa ag ah ai) (Tree.at_ (Tree.mk n1 s2 b3 l4 u5) q)).length))) ++ bc (W (Fld.mk ab ac ae af aa ag ah ai) (Tree.at_ (Tree.mk n1 s2 b3 l4 u5) q))⟩:Rw) = brow aI aJ 5 (qaB W l (Tree.mk n1 s2 b3 l4 u5) k2 ++ dm ++ (uv k2) ++ (uv ((W (Fld.mk ab ac ae af aa ag ah ai) (Tree.at_ (Tree.mk n1 s2 b3 l4 u5) q)).length)) ++ (W (Fld.mk ab ac ae af aa ag ah ai) (Tree.at_ (Tree.mk n1 s2 b3 l4 u5) q))):=qa2 (rfl) rfl
     obtain ⟨b8,gR⟩:=gO.rowEq 1 [brow A_ c_ 5 (qaK W l v (Tree.mk n1 s2 b3 l4 u5) 0),brow aI aJ 5 (qaB W l (Tree.mk n1 s2 b3 l4 u5) k2 ++ dm ++ (uv k2) ++ (uv ((W (Fld.mk ab ac ae af aa ag ah ai) (Tree.at_ (Tree.mk n1 s2 b3 l4 u5) q)).length)) ++ (W (Fld.mk ab ac ae af aa ag ah ai) (Tree.at_ (Tree.mk n1 s2 b3 l4 u5) q))),brow av aw 5 (W (Fld.mk ab ac ae af aa ag ah ai) (Tree.at_ (Tree.mk n1 s2 b3 l4 u5) q)),brow bH bI 5 (uv k2),brow cv cw 5 (uv ((W (Fld.mk ab ac ae af aa ag ah ai) (Tree.at_ (Tree.mk n1 s2 b3 l4 u5) q)).length))] gQ
     have gS:=EnvOk.pick gP (ks:=[0,1,2,7,9,11,14,51,52,55,56,57,90,91,92]) (env':=[(0,.v (.slice A l.length c)),(1,.v (.int .i64 v)),(2,.v (.bool flex)),(7,.p 0 0),(9,.v (.slice A_ ((qaK W l v (Tree.mk n1 s2 b3 l4 u5) 0).length) c_)),(11,.v (.int .i64 ((qaQ W l (Tree.mk n1 s2 b3 l4 u5) k2 + cn:Nat):Int))),(14,.v (.int .i64 ((k2:Nat):Int))),(51,.v (.int .i64 (((qat l).toNat:Nat):Int))),(52,.v (.int .i64 ((k2:Nat):Int))),(55,.v (.slice A l.length c)),(56,.v (.int .i64 ((l.length:Nat):Int))),(57,.v (.int .i64 ((q:Nat):Int))),(90,.v (.slice aZ ((qaB W l (Tree.mk n1 s2 b3 l4 u5) k2 ++ dm ++ (uv k2) ++ (uv ((W (Fld.mk ab ac ae af aa ag ah ai) (Tree.at_ (Tree.mk n1 s2 b3 l4 u5) q)).length))).length) ba)),(91,.v (.slice av ((W (Fld.mk ab ac ae af aa ag ah ai) (Tree.at_ (Tree.mk n1 s2 b3 l4 u5) q)).length) aw)),(92,.v (.slice aI ((qaB W l (Tree.mk n1 s2 b3 l4 u5) k2 ++ dm ++ (uv k2) ++ (uv ((W (Fld.mk ab ac ae af aa ag ah ai) (Tree.at_ (Tree.mk n1 s2 b3 l4 u5) q)).length))).length + (W (Fld.mk ab ac ae af aa ag ah ai) (Tree.at_ (Tree.mk n1 s2 b3 l4 u5) q)).length) aJ))]) kz
     have gT:=gS.cast (env':=[(0,.v (.slice A l.length c)),(1,.v (.int .i64 v)),(2,.v (.bool flex)),(7,.p 0 0),(9,.v (.slice A_ ((qaK W l v (Tree.mk n1 s2 b3 l4 u5) 0).length) c_)),(11,.v (.int .i64 ((qaQ W l (Tree.mk n1 s2 b3 l4 u5) k2 + cn:Nat):Int))),(14,.v (.int .i64 ((k2:Nat):Int))),(51,.v (.int .i64 (((qat l).toNat:Nat):Int))),(52,.v (.int .i64 ((k2:Nat):Int))),(55,.v (.slice A l.length c)),(56,.v (.int .i64 ((l.length:Nat):Int))),(57,.v (.int .i64 ((q:Nat):Int))),(90,.v (.slice aZ ((qaB W l (Tree.mk n1 s2 b3 l4 u5) k2 ++ dm ++ (uv k2) ++ (uv ((W (Fld.mk ab ac ae af aa ag ah ai) (Tree.at_ (Tree.mk n1 s2 b3 l4 u5) q)).length))).length) ba)),(91,.v (.slice av ((W (Fld.mk ab ac ae af aa ag ah ai) (Tree.at_ (Tree.mk n1 s2 b3 l4 u5) q)).length) aw)),(92,.v (.slice aI ((qaB W l (Tree.mk n1 s2 b3 l4 u5) k2 ++ dm ++ (uv k2) ++ (uv ((W (Fld.mk ab ac ae af aa ag ah ai) (Tree.at_ (Tree.mk n1 s2 b3 l4 u5) q)).length)) ++ (W (Fld.mk ab ac ae af aa ag ah ai) (Tree.at_ (Tree.mk n1 s2 b3 l4 u5) q))).length) aJ))]) (by simp only [List.length_append,List.length_cons,List.length_nil,Nat.zero_add])
     refine qak [12] [] [(0,.v (.slice A l.length c)),(1,.v (.int .i64 v)),(2,.v (.bool flex)),(7,.p 0 0),(9,.v (.slice A_ ((qaK W l v (Tree.mk n1 s2 b3 l4 u5) 0).length) c_)),(10,.v (.slice aI ((qaB W l (Tree.mk n1 s2 b3 l4 u5) k2 ++ dm ++ (uv k2) ++ (uv ((W (Fld.mk ab ac ae af aa ag ah ai) (Tree.at_ (Tree.mk n1 s2 b3 l4 u5) q)).length)) ++ (W (Fld.mk ab ac ae af aa ag ah ai) (Tree.at_ (Tree.mk n1 s2 b3 l4 u5) q))).length) aJ)),(11,.v (.int .i64 ((qaQ W l (Tree.mk n1 s2 b3 l4 u5) k2 + cn:Nat):Int))),(14,.v (.int .i64 ((k2:Nat):Int))),(51,.v (.int .i64 (((qat l).toNat:Nat):Int))),(52,.v (.int .i64 ((k2:Nat):Int))),(55,.v (.slice A l.length c)),(56,.v (.int .i64 ((l.length:Nat):Int))),(57,.v (.int .i64 ((q:Nat):Int)))] b8 gT fun nP gU=>?_
     refine qaf (qab ?_)
     refine qas [0,1,2] kz ?_
     refine qak [0,1,2] [] [(0,.v (.slice A l.length c)),(1,.v (.int .i64 v)),(2,.v (.bool flex)),(7,.p 0 0),(9,.v (.slice A_ ((qaK W l v (Tree.mk n1 s2 b3 l4 u5) 0).length) c_)),(10,.v (.slice aI ((qaB W l (Tree.mk n1 s2 b3 l4 u5) k2 ++ dm ++ (uv k2) ++ (uv ((W (Fld.mk ab ac ae af aa ag ah ai) (Tree.at_ (Tree.mk n1 s2 b3 l4 u5) q)).length)) ++ (W (Fld.mk ab ac ae af aa ag ah ai) (Tree.at_ (Tree.mk n1 s2 b3 l4 u5) q))).length) aJ)),(11,.v (.int .i64 (IntKind.i64.wrap (((qaQ W l (Tree.mk n1 s2 b3 l4 u5) k2 + cn:Nat):Int) + 1)))),(14,.v (.int .i64 ((k2:Nat):Int))),(51,.v (.int .i64 (((qat l).toNat:Nat):Int))),(52,.v (.int .i64 ((k2:Nat):Int))),(55,.v (.slice A l.length c)),(56,.v (.int .i64 ((l.length:Nat):Int))),(57,.v (.int .i64 ((q:Nat):Int)))] b8 gU fun nQ gV=>?_
     refine qaf (qaF (qab (qas [0,1] kz ?_)))
     refine qak [0,1] [] [(0,.v (.slice A l.length c)),(1,.v (.int .i64 v)),(2,.v (.bool flex)),(7,.p 0 0),(9,.v (.slice A_ ((qaK W l v (Tree.mk n1 s2 b3 l4 u5) 0).length) c_)),(10,.v (.slice aI ((qaB W l (Tree.mk n1 s2 b3 l4 u5) k2 ++ dm ++ (uv k2) ++ (uv ((W (Fld.mk ab ac ae af aa ag ah ai) (Tree.at_ (Tree.mk n1 s2 b3 l4 u5) q)).length)) ++ (W (Fld.mk ab ac ae af aa ag ah ai) (Tree.at_ (Tree.mk n1 s2 b3 l4 u5) q))).length) aJ)),(11,.v (.int .i64 (IntKind.i64.wrap (((qaQ W l (Tree.mk n1 s2 b3 l4 u5) k2 + cn:Nat):Int) + 1)))),(14,.v (.int .i64 ((k2:Nat):Int))),(51,.v (.int .i64 (((qat l).toNat:Nat):Int))),(52,.v (.int .i64 ((k2:Nat):Int))),(55,.v (.slice A l.length c)),(56,.v (.int .i64 ((l.length:Nat):Int))),(57,.v (.int .i64 (IntKind.i64.wrap (((q:Nat):Int) + 1))))] b8 gV fun nR gW=>?_
     refine qaf (qab ?_)
     obtain ⟨cd,gX,gY⟩:=b8.cutB gW 1 [⟨cD,0,(z9 n1 A6 s2.length c7 b3 A8 l4.length c9 aU u5.length aV),true⟩] [(0,.v (.slice A l.length c)),(1,.v (.int .i64 v)),(2,.v (.bool flex)),(7,.p 0 0),(9,.v (.slice A_ ((qaK W l v (Tree.mk n1 s2 b3 l4 u5) 0).length) c_)),(10,.v (.slice aI ((qaB W l (Tree.mk n1 s2 b3 l4 u5) k2 ++ dm ++ (uv k2) ++ (uv ((W (Fld.mk ab ac ae af aa ag ah ai) (Tree.at_ (Tree.mk n1 s2 b3 l4 u5) q)).length)) ++ (W (Fld.mk ab ac ae af aa ag ah ai) (Tree.at_ (Tree.mk n1 s2 b3 l4 u5) q))).length) aJ)),(11,.v (.int .i64 (IntKind.i64.wrap (((qaQ W l (Tree.mk n1 s2 b3 l4 u5) k2 + cn:Nat):Int) + 1)))),(14,.v (.int .i64 ((k2:Nat):Int))),(51,.v (.int .i64 (((qat l).toNat:Nat):Int))),(52,.v (.int .i64 ((k2:Nat):Int))),(55,.v (.slice A l.length c)),(56,.v (.int .i64 ((l.length:Nat):Int))),(57,.v (.int .i64 (IntKind.i64.wrap (((q:Nat):Int) + 1))))]
     obtain ⟨gZ,g8⟩:=gX.cutR 2 [brow A_ c_ 5 (qaK W l v (Tree.mk n1 s2 b3 l4 u5) 0),brow aI aJ 5 (qaB W l (Tree.mk n1 s2 b3 l4 u5) k2 ++ dm ++ (uv k2) ++ (uv ((W (Fld.mk ab ac ae af aa ag ah ai) (Tree.at_ (Tree.mk n1 s2 b3 l4 u5) q)).length)) ++ (W (Fld.mk ab ac ae af aa ag ah ai) (Tree.at_ (Tree.mk n1 s2 b3 l4 u5) q)))]
     have dX:(qaB W l (Tree.mk n1 s2 b3 l4 u5) k2 ++ dm ++ (uv k2) ++ (uv ((W (Fld.mk ab ac ae af aa ag ah ai) (Tree.at_ (Tree.mk n1 s2 b3 l4 u5) q)).length)) ++ (W (Fld.mk ab ac ae af aa ag ah ai) (Tree.at_ (Tree.mk n1 s2 b3 l4 u5) q))) = (qaB W l (Tree.mk n1 s2 b3 l4 u5) k2 ++ (dm ++ (uv k2 ++ uv (W (Fld.mk ab ac ae af aa ag ah ai) (Tree.at_ (Tree.mk n1 s2 b3 l4 u5) q)).length ++ W (Fld.mk ab ac ae af aa ag ah ai) (Tree.at_ (Tree.mk n1 s2 b3 l4 u5) q)))):=by simp only [List.append_assoc]
     have g9:=congrArg (brow aI aJ 5) dX
     obtain ⟨hC,hJ⟩:=gZ.rowEq 1 [brow A_ c_ 5 (qaK W l v (Tree.mk n1 s2 b3 l4 u5) 0),brow aI aJ 5 (qaB W l (Tree.mk n1 s2 b3 l4 u5) k2 ++ (dm ++ (uv k2 ++ uv (W (Fld.mk ab ac ae af aa ag ah ai) (Tree.at_ (Tree.mk n1 s2 b3 l4 u5) q)).length ++ W (Fld.mk ab ac ae af aa ag ah ai) (Tree.at_ (Tree.mk n1 s2 b3 l4 u5) q))))] g9
     rw [dX] at cd
     have hK:IntKind.i64.wrap (((q:Nat):Int) + 1) = ((q + 1:Nat):Int):=qbh (by omega)
     rw [hK] at cd
     have hZ:IntKind.i64.wrap (((qaQ W l (Tree.mk n1 s2 b3 l4 u5) k2 + cn:Nat):Int) + 1) = ((qaQ W l (Tree.mk n1 s2 b3 l4 u5) k2 + (cn + 1):Nat):Int):=by rw [wrap_i64 (by omega) (by omega)]; omega
     rw [hZ] at cd
     exact ⟨l.length - (q + 1),by omega,q + 1,aI,aJ,(dm ++ (uv k2 ++ uv (W (Fld.mk ab ac ae af aa ag ah ai) (Tree.at_ (Tree.mk n1 s2 b3 l4 u5) q)).length ++ W (Fld.mk ab ac ae af aa ag ah ai) (Tree.at_ (Tree.mk n1 s2 b3 l4 u5) q))),(cn + 1),rfl,by omega,by rw [List.append_assoc,← qek ap (by omega) (by simpa using ay)]; exact hB2,by rw [Nat.add_assoc,← qkI ap (by omega) (by simpa using ay)]; exact hN2,cd.pk,hC,(((((((((((((((((((bT.trans cT).trans cU).trans cV).trans bV).trans cZ).trans fW).trans dc).trans dV).trans gl).trans gm).trans gt).trans gE).trans gF).trans gJ).trans gN).trans gR).trans gY).trans g8).trans hJ)⟩
    refine wp_skip (qaF (qab (qas [0,1] kz ?_)))
    refine qak [0,1] [] [(0,.v (.slice A l.length c)),(1,.v (.int .i64 v)),(2,.v (.bool flex)),(7,.p 0 0),(9,.v (.slice A_ ((qaK W l v (Tree.mk n1 s2 b3 l4 u5) 0).length) c_)),(10,.v (.slice A3_ ((qaB W l (Tree.mk n1 s2 b3 l4 u5) k2 ++ dm).length) c3_)),(11,.v (.int .i64 ((qaQ W l (Tree.mk n1 s2 b3 l4 u5) k2 + cn:Nat):Int))),(14,.v (.int .i64 ((k2:Nat):Int))),(51,.v (.int .i64 (((qat l).toNat:Nat):Int))),(52,.v (.int .i64 ((k2:Nat):Int))),(55,.v (.slice A l.length c)),(56,.v (.int .i64 ((l.length:Nat):Int))),(57,.v (.int .i64 (IntKind.i64.wrap (((q:Nat):Int) + 1))))] bW c5 fun nS ia=>?_
    refine qaf (qab ?_)
    obtain ⟨dY,ib,ic⟩:=bW.cutB ia 1 [⟨cD,0,(z9 n1 A6 s2.length c7 b3 A8 l4.length c9 aU u5.length aV),true⟩] [(0,.v (.slice A l.length c)),(1,.v (.int .i64 v)),(2,.v (.bool flex)),(7,.p 0 0),(9,.v (.slice A_ ((qaK W l v (Tree.mk n1 s2 b3 l4 u5) 0).length) c_)),(10,.v (.slice A3_ ((qaB W l (Tree.mk n1 s2 b3 l4 u5) k2 ++ dm).length) c3_)),(11,.v (.int .i64 ((qaQ W l (Tree.mk n1 s2 b3 l4 u5) k2 + cn:Nat):Int))),(14,.v (.int .i64 ((k2:Nat):Int))),(51,.v (.int .i64 (((qat l).toNat:Nat):Int))),(52,.v (.int .i64 ((k2:Nat):Int))),(55,.v (.slice A l.length c)),(56,.v (.int .i64 ((l.length:Nat):Int))),(57,.v (.int .i64 (IntKind.i64.wrap (((q:Nat):Int) + 1))))]
    have ig:IntKind.i64.wrap (((q:Nat):Int) + 1) = ((q + 1:Nat):Int):=qbh (by omega)
    rw [ig] at dY
    exact ⟨l.length - (q + 1),by omega,q + 1,A3_,c3_,dm,cn,rfl,by omega,by rw [← qjC ap (by simpa using ay)]; exact hB2,by rw [← qjE ap (by simpa using ay)]; exact hN2,dY.pk,ib,((((((bT.trans cT).trans cU).trans cV).trans bV).trans cZ).trans ic)⟩
   have lD:aa ≠ ((k2:Nat):Int):=by simpa using bp
   have ii:=dS.cast (env':=[(0,.v (.slice A l.length c)),(1,.v (.int .i64 v)),(2,.v (.bool flex)),(7,.p 0 0),(9,.v (.slice A_ ((qaK W l v (Tree.mk n1 s2 b3 l4 u5) 0).length) c_)),(10,.v (.slice A3_ ((qaB W l (Tree.mk n1 s2 b3 l4 u5) k2 ++ dm).length) c3_)),(11,.v (.int .i64 ((qaQ W l (Tree.mk n1 s2 b3 l4 u5) k2 + cn:Nat):Int))),(14,.v (.int .i64 ((k2:Nat):Int))),(15,.v (.int .i64 ((q:Nat):Int))),(16,.p 1 0),(51,.v (.int .i64 (((qat l).toNat:Nat):Int))),(52,.v (.int .i64 ((k2:Nat):Int))),(55,.v (.slice A l.length c)),(56,.v (.int .i64 ((l.length:Nat):Int))),(57,.v (.int .i64 ((q:Nat):Int))),(66,.v (.bool false))]) (by rw [bp])
   refine qa0 [5,6,7,8,9,10,11] [(0,.v (.slice A l.length c)),(1,.v (.int .i64 v)),(2,.v (.bool flex)),(7,.p 0 0),(9,.v (.slice A_ ((qaK W l v (Tree.mk n1 s2 b3 l4 u5) 0).length) c_)),(10,.v (.slice A3_ ((qaB W l (Tree.mk n1 s2 b3 l4 u5) k2 ++ dm).length) c3_)),(11,.v (.int .i64 ((qaQ W l (Tree.mk n1 s2 b3 l4 u5) k2 + cn:Nat):Int))),(14,.v (.int .i64 ((k2:Nat):Int))),(15,.v (.int .i64 ((q:Nat):Int))),(16,.p 1 0),(51,.v (.int .i64 (((qat l).toNat:Nat):Int))),(52,.v (.int .i64 ((k2:Nat):Int))),(55,.v (.slice A l.length c)),(56,.v (.int .i64 ((l.length:Nat):Int))),(57,.v (.int .i64 ((q:Nat):Int))),(73,.v (.bool false))] 0 (qac (qai (qac (qac (qai (qai (qac (qac (qai (qac qah)))))))))) (fun _ h=>h.cells) cW ii fun nT dZ=>?_
   refine qaZ kz ?_ _
   refine qab (qau dZ (b:=false) kz rfl ?_)
   refine wp_skip (qaF (qab (qas [0,1] kz ?_)))
   refine qak [0,1] [] [(0,.v (.slice A l.length c)),(1,.v (.int .i64 v)),(2,.v (.bool flex)),(7,.p 0 0),(9,.v (.slice A_ ((qaK W l v (Tree.mk n1 s2 b3 l4 u5) 0).length) c_)),(10,.v (.slice A3_ ((qaB W l (Tree.mk n1 s2 b3 l4 u5) k2 ++ dm).length) c3_)),(11,.v (.int .i64 ((qaQ W l (Tree.mk n1 s2 b3 l4 u5) k2 + cn:Nat):Int))),(14,.v (.int .i64 ((k2:Nat):Int))),(51,.v (.int .i64 (((qat l).toNat:Nat):Int))),(52,.v (.int .i64 ((k2:Nat):Int))),(55,.v (.slice A l.length c)),(56,.v (.int .i64 ((l.length:Nat):Int))),(57,.v (.int .i64 (IntKind.i64.wrap (((q:Nat):Int) + 1))))] aN dZ fun nU ij=>?_
   refine qaf (qab ?_)
   obtain ⟨d5,ik,il⟩:=aN.cutB ij 1 [⟨cD,0,(z9 n1 A6 s2.length c7 b3 A8 l4.length c9 aU u5.length aV),true⟩] [(0,.v (.slice A l.length c)),(1,.v (.int .i64 v)),(2,.v (.bool flex)),(7,.p 0 0),(9,.v (.slice A_ ((qaK W l v (Tree.mk n1 s2 b3 l4 u5) 0).length) c_)),(10,.v (.slice A3_ ((qaB W l (Tree.mk n1 s2 b3 l4 u5) k2 ++ dm).length) c3_)),(11,.v (.int .i64 ((qaQ W l (Tree.mk n1 s2 b3 l4 u5) k2 + cn:Nat):Int))),(14,.v (.int .i64 ((k2:Nat):Int))),(51,.v (.int .i64 (((qat l).toNat:Nat):Int))),(52,.v (.int .i64 ((k2:Nat):Int))),(55,.v (.slice A l.length c)),(56,.v (.int .i64 ((l.length:Nat):Int))),(57,.v (.int .i64 (IntKind.i64.wrap (((q:Nat):Int) + 1))))]
   have im:IntKind.i64.wrap (((q:Nat):Int) + 1) = ((q + 1:Nat):Int):=qbh (by omega)
   rw [im] at d5
   exact ⟨l.length - (q + 1),by omega,q + 1,A3_,c3_,dm,cn,rfl,by omega,by rw [← qjB ap (by omega)]; exact hB2,by rw [← qjD ap (by omega)]; exact hN2,d5.pk,ik,((((bT.trans cT).trans cU).trans cV).trans il)⟩
  have lE:=of_decide_eq_false cQ
  refine wp_exit (qaz (qaz (qaR (qaF (qab (qas [0,1] kz ?_))))))
  refine qak [0,1] [] [(0,.v (.slice A l.length c)),(1,.v (.int .i64 v)),(2,.v (.bool flex)),(7,.p 0 0),(9,.v (.slice A_ ((qaK W l v (Tree.mk n1 s2 b3 l4 u5) 0).length) c_)),(10,.v (.slice A3_ ((qaB W l (Tree.mk n1 s2 b3 l4 u5) k2 ++ dm).length) c3_)),(11,.v (.int .i64 ((qaQ W l (Tree.mk n1 s2 b3 l4 u5) k2 + cn:Nat):Int))),(51,.v (.int .i64 (((qat l).toNat:Nat):Int))),(52,.v (.int .i64 (IntKind.i64.wrap (((k2:Nat):Int) + 1))))] aY cP fun nV ce=>?_
  refine qaf (qab ?_)
  have d6:(qaB W l (Tree.mk n1 s2 b3 l4 u5) k2 ++ dm) = (qaB W l (Tree.mk n1 s2 b3 l4 u5) (k2 + 1)):=by rw [qaB,← hB2,qkH (by omega),List.append_nil]
  have io:=congrArg (brow A3_ c3_ 5) d6
  obtain ⟨ip,iq⟩:=aY.rowEq 1 [brow A_ c_ 5 (qaK W l v (Tree.mk n1 s2 b3 l4 u5) 0),brow A3_ c3_ 5 (qaB W l (Tree.mk n1 s2 b3 l4 u5) (k2 + 1))] io
  rw [d6] at ce
  have ir:IntKind.i64.wrap (((k2:Nat):Int) + 1) = ((k2 + 1:Nat):Int):=qbh (by omega)
  rw [ir] at ce
  have iu:((qaQ W l (Tree.mk n1 s2 b3 l4 u5) k2 + cn:Nat):Int) = ((qaQ W l (Tree.mk n1 s2 b3 l4 u5) (k2 + 1):Nat):Int):=by rw [qaQ,← hN2,qkJ (by omega),Nat.add_zero]
  rw [iu] at ce
  exact ⟨(qat l).toNat - (k2 + 1),by omega,k2 + 1,A3_,c3_,rfl,by omega,ce.pk,ip,(((fD.trans fG).trans bT).trans iq)⟩
 have lF:=of_decide_eq_false cO
 refine wp_exit (qaz (qaz (qaR (qab (wp_seq (qae [0,1,2,3,4,5] kz ?_))))))
 refine qak [0,1,2] [3,4,5] [(9,.v (.slice A_ ((qaK W l v (Tree.mk n1 s2 b3 l4 u5) 0).length) c_)),(10,.v (.slice A2_ ((qaB W l (Tree.mk n1 s2 b3 l4 u5) k2).length) c2_)),(11,.v (.int .i64 ((qaQ W l (Tree.mk n1 s2 b3 l4 u5) k2:Nat):Int))),(97,.v (.slice A l.length c)),(99,.v (.slice aU u5.length aV))] ao cN fun nW iv=>?_
 refine qam (qal iv (f:=86) (vs:=[.slice A l.length c,.slice aU u5.length aV]) (d:=100) kz Tryz.call86 (qii _ _ l _ _ u5 _ _ ⟨xfs,(h1.move ao.step nilM ao.imm),(fun i_ x_ h_=>((h2 i_ x_ h_).move ao.step nilM ao.imm))⟩ (lX.move ao.step nilM ao.imm)) ?_)
 rintro e_ nX ⟨al,am,rfl,iw,dg⟩
 have ix:=iw.move (Step.refl _ Nil) nilM (ao.laid (G:=F) dg)
 refine ⟨_,rfl,fun nY iy=>?_⟩
 have d7:=ao.next_nil dg
 have lG:=ao.frN dg
 refine qak [4,5] [] [(9,.v (.slice A_ ((qaK W l v (Tree.mk n1 s2 b3 l4 u5) 0).length) c_)),(10,.v (.slice A2_ ((qaB W l (Tree.mk n1 s2 b3 l4 u5) k2).length) c2_)),(11,.v (.int .i64 ((qaQ W l (Tree.mk n1 s2 b3 l4 u5) k2:Nat):Int))),(100,.v (.slice al ((qan l u5).length) am)),(101,.v (.int .i64 (((qan l u5).length:Nat):Int))),(102,.v (.int .i64 0))] d7 iy fun nZ d8=>?_
 refine qaf (qab ?_)
 refine wp_block ?_
 obtain ⟨lH,iz,kW⟩:=ix.ex
 have kX:=iz.small
 have hkk2:k2 = (qat l).toNat:=by omega
 have hc2:=hcnt k2
 have hm2:=hmono k2 (by omega)
 have d9:(qaB W l (Tree.mk n1 s2 b3 l4 u5) k2) = (qaB W l (Tree.mk n1 s2 b3 l4 u5) k2 ++ qa7 ((qan l u5).take 0)):=(List.append_nil _).symm
 have iA:=congrArg (brow A2_ c2_ 5) d9
 obtain ⟨ea,aM⟩:=d7.rowEq 1 [brow A_ c_ 5 (qaK W l v (Tree.mk n1 s2 b3 l4 u5) 0),brow A2_ c2_ 5 (qaB W l (Tree.mk n1 s2 b3 l4 u5) k2 ++ qa7 ((qan l u5).take 0))] iA
 rw [d9] at d8
 refine wp_loop_ghost (fun n_ a_ w_=>∃ (k:Nat) (A4_:Option Addr) (c4_:Nat),n_ = (qan l u5).length - k ∧ k ≤ (qan l u5).length ∧ LInv ea 132 [⟨cD,0,[.int .i64 n1,.slice A6 s2.length c7,.bool b3,.slice A8 l4.length c9,.slice aU u5.length aV],true⟩] [brow A_ c_ 5 (qaK W l v (Tree.mk n1 s2 b3 l4 u5) 0),brow A4_ c4_ 5 (qaB W l (Tree.mk n1 s2 b3 l4 u5) k2 ++ qa7 ((qan l u5).take k))] [(9,.v (.slice A_ ((qaK W l v (Tree.mk n1 s2 b3 l4 u5) 0).length) c_)),(10,.v (.slice A4_ ((qaB W l (Tree.mk n1 s2 b3 l4 u5) k2 ++ qa7 ((qan l u5).take k)).length) c4_)),(11,.v (.int .i64 ((qaQ W l (Tree.mk n1 s2 b3 l4 u5) k2 + k:Nat):Int))),(100,.v (.slice al ((qan l u5).length) am)),(101,.v (.int .i64 (((qan l u5).length:Nat):Int))),(102,.v (.int .i64 ((k:Nat):Int)))] a_ w_) ((qan l u5).length) ⟨0,A2_,c2_,by omega,by omega,d8.pk,ea,Fr.refl _ _ _⟩ ?_
 rintro n4 n5 n8 ⟨k,A4_,c4_,lI,lJ,iB,cg,aH⟩
 refine qar [(9,.v (.slice A_ ((qaK W l v (Tree.mk n1 s2 b3 l4 u5) 0).length) c_)),(10,.v (.slice A4_ ((qaB W l (Tree.mk n1 s2 b3 l4 u5) k2 ++ qa7 ((qan l u5).take k)).length) c4_)),(11,.v (.int .i64 ((qaQ W l (Tree.mk n1 s2 b3 l4 u5) k2 + k:Nat):Int))),(100,.v (.slice al ((qan l u5).length) am)),(101,.v (.int .i64 (((qan l u5).length:Nat):Int))),(102,.v (.int .i64 ((k:Nat):Int))),(103,.v (.bool (decide (((k:Nat):Int) < (((qan l u5).length:Nat):Int)))))] cg iB fun oa dh=>?_
 refine wp_seq (qay dh (b:=decide (((k:Nat):Int) < (((qan l u5).length:Nat):Int))) kz (fun di=>?_) (fun di=>?_))
 ·
  have lK:=of_decide_eq_true di
  refine wp_skip (qab (wp_seq (wp_block (qae [0,1,2,3] kz ?_))))
  obtain ⟨kY,kZ,iC,lL,dj⟩:=Slots.get iz (i:=k) (by omega)
  obtain ⟨⟨ak,aj⟩,bx⟩:∃ x,(qan l u5)[k]? = some x:=⟨_,List.getElem?_eq_getElem (by omega)⟩
  obtain ⟨⟨ar,au,eF,dl⟩,od,oe⟩:=kW k ak aj bx
  rw [eF] at dj
  refine qam (qax dh (t:=26) (A:=al) (m:=((qan l u5).length)) (q:=((k:Nat):Int)) (d:=104) kz (e:=73) (size:=2) (bytes:=32) kz iC rfl (by omega) fun og iD=>?_)
  refine qam (qaH iD (t:=73) (b:=kY) (o:=kZ + k * 2) (d:=105) kz (cs:=[.int .u32 ak,.slice ar aj.length au]) (v:=.agg #[.int .u32 ak,.slice ar aj.length au]) kz (AtF.move dj (aM.trans aH).step immM (aM.trans aH).to').at_ fun oh iE=>?_)
  refine qam (qbc cg iE (d:=19) (cs:=[.int .u32 0,.slice none 0 0]) kz fun ol om oq lM lN aQ iF iG=>?_)
  refine qam (qaM iF iG (oi:=1) (cs:=[.int .u32 ak,.slice ar aj.length au]) kz fun ot aR dp iH=>?_)
  refine qaf (qab ?_)
  refine qae [0,1,2,3] kz ?_
  refine qak [0,1] [2,3] [(9,.v (.slice A_ ((qaK W l v (Tree.mk n1 s2 b3 l4 u5) 0).length) c_)),(10,.v (.slice A4_ ((qaB W l (Tree.mk n1 s2 b3 l4 u5) k2 ++ qa7 ((qan l u5).take k)).length) c4_)),(11,.v (.int .i64 ((qaQ W l (Tree.mk n1 s2 b3 l4 u5) k2 + k:Nat):Int))),(19,.p 1 0),(100,.v (.slice al ((qan l u5).length) am)),(101,.v (.int .i64 (((qan l u5).length:Nat):Int))),(102,.v (.int .i64 ((k:Nat):Int))),(107,.v (.slice ar aj.length au))] dp iH fun ou iI=>?_
  have k5:=qbp aj
  refine qam (qal iI (f:=87) (vs:=[.slice ar aj.length au]) (d:=108) kz Tryz.call87 (qjY _ _ aj (dl.move (((aM.trans aH).trans aQ).trans aR).step immM (((aM.trans aH).trans aQ).trans aR).to').le _) ?_)
  rintro e_ ov ⟨rfl,eb⟩
  refine ⟨_,rfl,fun ow iJ=>?_⟩
  have dq:=dp.next_nil eb
  have bz:=dp.frN eb
  refine qak [3] [] [(9,.v (.slice A_ ((qaK W l v (Tree.mk n1 s2 b3 l4 u5) 0).length) c_)),(10,.v (.slice A4_ ((qaB W l (Tree.mk n1 s2 b3 l4 u5) k2 ++ qa7 ((qan l u5).take k)).length) c4_)),(11,.v (.int .i64 ((qaQ W l (Tree.mk n1 s2 b3 l4 u5) k2 + k:Nat):Int))),(19,.p 1 0),(20,.v (.slice ar ((qaC aj).length) au)),(100,.v (.slice al ((qan l u5).length) am)),(101,.v (.int .i64 (((qan l u5).length:Nat):Int))),(102,.v (.int .i64 ((k:Nat):Int)))] dq iJ fun ox iK=>?_
  refine qaf (qab ?_)
  refine qae [0,1,2,3,4,5,6,7,8,9,10,11,12,13] kz ?_
  refine qak [0,1,2,3] [4,5,6,7,8,9,10,11,12,13] [(9,.v (.slice A_ ((qaK W l v (Tree.mk n1 s2 b3 l4 u5) 0).length) c_)),(11,.v (.int .i64 ((qaQ W l (Tree.mk n1 s2 b3 l4 u5) k2 + k:Nat):Int))),(20,.v (.slice ar ((qaC aj).length) au)),(100,.v (.slice al ((qan l u5).length) am)),(101,.v (.int .i64 (((qan l u5).length:Nat):Int))),(102,.v (.int .i64 ((k:Nat):Int))),(109,.v (.slice A4_ ((qaB W l (Tree.mk n1 s2 b3 l4 u5) k2 ++ qa7 ((qan l u5).take k)).length) c4_)),(112,.v (.int .u64 (IntKind.u64.wrap ak)))] dq iK fun oy iL=>?_
  have iM:IntKind.u64.wrap ak = ((ak.toNat:Nat):Int):=by simp only [qaG,qaq,qbV,IntKind.wrap_i64,IntKind.wrap_i32]; omega
  have iN:=EnvOk.pick iL (ks:=[9,11,20,100,101,102,109,112]) (env':=[(9,.v (.slice A_ ((qaK W l v (Tree.mk n1 s2 b3 l4 u5) 0).length) c_)),(11,.v (.int .i64 ((qaQ W l (Tree.mk n1 s2 b3 l4 u5) k2 + k:Nat):Int))),(20,.v (.slice ar ((qaC aj).length) au)),(100,.v (.slice al ((qan l u5).length) am)),(101,.v (.int .i64 (((qan l u5).length:Nat):Int))),(102,.v (.int .i64 ((k:Nat):Int))),(109,.v (.slice A4_ ((qaB W l (Tree.mk n1 s2 b3 l4 u5) k2 ++ qa7 ((qan l u5).take k)).length) c4_)),(112,.v (.int .u64 (IntKind.u64.wrap ak)))]) kz
  have iO:=iN
  rw [iM] at iO
  refine qam (qal iO (f:=85) (vs:=[.int .u64 ((ak.toNat:Nat):Int)]) (d:=113) kz Tryz.call85 (qeo ak.toNat (by omega) _) ?_)
  rintro e_ oz ⟨bJ,bK,rfl,iP,iQ⟩
  refine ⟨_,rfl,fun oA iR=>?_⟩
  obtain ⟨dr,bA⟩:=dq.frFresh iQ (brow bJ bK 5 (uv ak.toNat)) (Nat.le_refl _) iP
  refine qam (qaJ dr iR (k:=1) (d:=114) (t:=24) (e:=5) (size:=1) (bytes:=1) (A:=A4_) (As:=bJ) (m0:=((qaB W l (Tree.mk n1 s2 b3 l4 u5) k2 ++ qa7 ((qan l u5).take k)).length)) (c:=c4_) (m:=((uv ak.toNat).length)) (cs:=bK) (xs:=(bc (qaB W l (Tree.mk n1 s2 b3 l4 u5) k2 ++ qa7 ((qan l u5).take k)))) (news:=bc (uv ak.toNat)) kz kz rfl (qbZ (dr.own 2 _ rfl) (qcq _)) (qcc (dr.own 2 _ rfl)) (by have h_:=qgt (l:=(qan l u5)) (k + 1); rw [qel bx] at h_; simp only [List.length_append] at h_ ⊢; omega) fun aS aT oB oC bB iS iT=>?_)
  have iU:(⟨aS,aT,5,1,(qaB W l (Tree.mk n1 s2 b3 l4 u5) k2 ++ qa7 ((qan l u5).take k)).length + (uv ak.toNat).length,bc (qaB W l (Tree.mk n1 s2 b3 l4 u5) k2 ++ qa7 ((qan l u5).take k)) ++ bc (uv ak.toNat)⟩:Rw) = brow aS aT 5 (qaB W l (Tree.mk n1 s2 b3 l4 u5) k2 ++ qa7 ((qan l u5).take k) ++ (uv ak.toNat)):=qa2 (rfl) rfl
  obtain ⟨ec,bC⟩:=iS.rowEq 1 [brow A_ c_ 5 (qaK W l v (Tree.mk n1 s2 b3 l4 u5) 0),brow aS aT 5 (qaB W l (Tree.mk n1 s2 b3 l4 u5) k2 ++ qa7 ((qan l u5).take k) ++ (uv ak.toNat)),brow bJ bK 5 (uv ak.toNat)] iU
  have iV:=EnvOk.pick iT (ks:=[9,11,20,100,101,102,109,112,113,114]) (env':=[(9,.v (.slice A_ ((qaK W l v (Tree.mk n1 s2 b3 l4 u5) 0).length) c_)),(11,.v (.int .i64 ((qaQ W l (Tree.mk n1 s2 b3 l4 u5) k2 + k:Nat):Int))),(20,.v (.slice ar ((qaC aj).length) au)),(100,.v (.slice al ((qan l u5).length) am)),(101,.v (.int .i64 (((qan l u5).length:Nat):Int))),(102,.v (.int .i64 ((k:Nat):Int))),(109,.v (.slice A4_ ((qaB W l (Tree.mk n1 s2 b3 l4 u5) k2 ++ qa7 ((qan l u5).take k)).length) c4_)),(112,.v (.int .u64 ((ak.toNat:Nat):Int))),(113,.v (.slice bJ ((uv ak.toNat).length) bK)),(114,.v (.slice aS ((qaB W l (Tree.mk n1 s2 b3 l4 u5) k2 ++ qa7 ((qan l u5).take k)).length + (uv ak.toNat).length) aT))]) kz
  have iW:=iV.cast (env':=[(9,.v (.slice A_ ((qaK W l v (Tree.mk n1 s2 b3 l4 u5) 0).length) c_)),(11,.v (.int .i64 ((qaQ W l (Tree.mk n1 s2 b3 l4 u5) k2 + k:Nat):Int))),(20,.v (.slice ar ((qaC aj).length) au)),(100,.v (.slice al ((qan l u5).length) am)),(101,.v (.int .i64 (((qan l u5).length:Nat):Int))),(102,.v (.int .i64 ((k:Nat):Int))),(109,.v (.slice A4_ ((qaB W l (Tree.mk n1 s2 b3 l4 u5) k2 ++ qa7 ((qan l u5).take k)).length) c4_)),(112,.v (.int .u64 ((ak.toNat:Nat):Int))),(113,.v (.slice bJ ((uv ak.toNat).length) bK)),(114,.v (.slice aS ((qaB W l (Tree.mk n1 s2 b3 l4 u5) k2 ++ qa7 ((qan l u5).take k) ++ (uv ak.toNat)).length) aT))]) (by simp only [List.length_append,List.length_cons,List.length_nil,Nat.zero_add])
  refine qak [6,7,8] [9,10,11,12,13] [(9,.v (.slice A_ ((qaK W l v (Tree.mk n1 s2 b3 l4 u5) 0).length) c_)),(11,.v (.int .i64 ((qaQ W l (Tree.mk n1 s2 b3 l4 u5) k2 + k:Nat):Int))),(20,.v (.slice ar ((qaC aj).length) au)),(100,.v (.slice al ((qan l u5).length) am)),(101,.v (.int .i64 (((qan l u5).length:Nat):Int))),(102,.v (.int .i64 ((k:Nat):Int))),(114,.v (.slice aS ((qaB W l (Tree.mk n1 s2 b3 l4 u5) k2 ++ qa7 ((qan l u5).take k) ++ (uv ak.toNat)).length) aT)),(117,.v (.int .u64 (IntKind.u64.wrap (((qaC aj).length:Nat):Int))))] ec iW fun oD iX=>?_
  have iY:IntKind.u64.wrap (((qaC aj).length:Nat):Int) = (((qaC aj).length:Nat):Int):=by simp only [qaG,qaq,qbV,IntKind.wrap_i64,IntKind.wrap_i32]; omega
  have iZ:=EnvOk.pick iX (ks:=[9,11,20,100,101,102,114,117]) (env':=[(9,.v (.slice A_ ((qaK W l v (Tree.mk n1 s2 b3 l4 u5) 0).length) c_)),(11,.v (.int .i64 ((qaQ W l (Tree.mk n1 s2 b3 l4 u5) k2 + k:Nat):Int))),(20,.v (.slice ar ((qaC aj).length) au)),(100,.v (.slice al ((qan l u5).length) am)),(101,.v (.int .i64 (((qan l u5).length:Nat):Int))),(102,.v (.int .i64 ((k:Nat):Int))),(114,.v (.slice aS ((qaB W l (Tree.mk n1 s2 b3 l4 u5) k2 ++ qa7 ((qan l u5).take k) ++ (uv ak.toNat)).length) aT)),(117,.v (.int .u64 (IntKind.u64.wrap (((qaC aj).length:Nat):Int))))]) kz
  have i6:=iZ
  rw [iY] at i6
  refine qam (qal i6 (f:=85) (vs:=[.int .u64 (((qaC aj).length:Nat):Int)]) (d:=118) kz Tryz.call85 (qeo ((qaC aj).length) (by omega) _) ?_)
  rintro e_ oE ⟨cz,cA,rfl,i7,ja⟩
  refine ⟨_,rfl,fun oF jb=>?_⟩
  obtain ⟨dt,bD⟩:=ec.frFresh ja (brow cz cA 5 (uv ((qaC aj).length))) (Nat.le_refl _) i7
  refine qam (qaJ dt jb (k:=1) (d:=119) (t:=24) (e:=5) (size:=1) (bytes:=1) (A:=aS) (As:=cz) (m0:=((qaB W l (Tree.mk n1 s2 b3 l4 u5) k2 ++ qa7 ((qan l u5).take k) ++ (uv ak.toNat)).length)) (c:=aT) (m:=((uv ((qaC aj).length)).length)) (cs:=cA) (xs:=(bc (qaB W l (Tree.mk n1 s2 b3 l4 u5) k2 ++ qa7 ((qan l u5).take k) ++ (uv ak.toNat)))) (news:=bc (uv ((qaC aj).length))) kz kz rfl (qbZ (dt.own 3 _ rfl) (qcq _)) (qcc (dt.own 3 _ rfl)) (by have h_:=qgt (l:=(qan l u5)) (k + 1); rw [qel bx] at h_; simp only [List.length_append] at h_ ⊢; omega) fun bd bf oG oH bE jc jd=>?_)
  have je:(⟨bd,bf,5,1,(qaB W l (Tree.mk n1 s2 b3 l4 u5) k2 ++ qa7 ((qan l u5).take k) ++ (uv ak.toNat)).length + (uv ((qaC aj).length)).length,bc (qaB W l (Tree.mk n1 s2 b3 l4 u5) k2 ++ qa7 ((qan l u5).take k) ++ (uv ak.toNat)) ++ bc (uv ((qaC aj).length))⟩:Rw) = brow bd bf 5 (qaB W l (Tree.mk n1 s2 b3 l4 u5) k2 ++ qa7 ((qan l u5).take k) ++ (uv ak.toNat) ++ (uv ((qaC aj).length))):=qa2 (rfl) rfl
  obtain ⟨ee,bF⟩:=jc.rowEq 1 [brow A_ c_ 5 (qaK W l v (Tree.mk n1 s2 b3 l4 u5) 0),brow bd bf 5 (qaB W l (Tree.mk n1 s2 b3 l4 u5) k2 ++ qa7 ((qan l u5).take k) ++ (uv ak.toNat) ++ (uv ((qaC aj).length))),brow bJ bK 5 (uv ak.toNat),brow cz cA 5 (uv ((qaC aj).length))] je
  have jf:=EnvOk.pick jd (ks:=[9,11,20,100,101,102,114,117,118,119]) (env':=[(9,.v (.slice A_ ((qaK W l v (Tree.mk n1 s2 b3 l4 u5) 0).length) c_)),(11,.v (.int .i64 ((qaQ W l (Tree.mk n1 s2 b3 l4 u5) k2 + k:Nat):Int))),(20,.v (.slice ar ((qaC aj).length) au)),(100,.v (.slice al ((qan l u5).length) am)),(101,.v (.int .i64 (((qan l u5).length:Nat):Int))),(102,.v (.int .i64 ((k:Nat):Int))),(114,.v (.slice aS ((qaB W l (Tree.mk n1 s2 b3 l4 u5) k2 ++ qa7 ((qan l u5).take k) ++ (uv ak.toNat)).length) aT)),(117,.v (.int .u64 (((qaC aj).length:Nat):Int))),(118,.v (.slice cz ((uv ((qaC aj).length)).length) cA)),(119,.v (.slice bd ((qaB W l (Tree.mk n1 s2 b3 l4 u5) k2 ++ qa7 ((qan l u5).take k) ++ (uv ak.toNat)).length + (uv ((qaC aj).length)).length) bf))]) kz
  have jg:=jf.cast (env':=[(9,.v (.slice A_ ((qaK W l v (Tree.mk n1 s2 b3 l4 u5) 0).length) c_)),(11,.v (.int .i64 ((qaQ W l (Tree.mk n1 s2 b3 l4 u5) k2 + k:Nat):Int))),(20,.v (.slice ar ((qaC aj).length) au)),(100,.v (.slice al ((qan l u5).length) am)),(101,.v (.int .i64 (((qan l u5).length:Nat):Int))),(102,.v (.int .i64 ((k:Nat):Int))),(114,.v (.slice aS ((qaB W l (Tree.mk n1 s2 b3 l4 u5) k2 ++ qa7 ((qan l u5).take k) ++ (uv ak.toNat)).length) aT)),(117,.v (.int .u64 (((qaC aj).length:Nat):Int))),(118,.v (.slice cz ((uv ((qaC aj).length)).length) cA)),(119,.v (.slice bd ((qaB W l (Tree.mk n1 s2 b3 l4 u5) k2 ++ qa7 ((qan l u5).take k) ++ (uv ak.toNat) ++ (uv ((qaC aj).length))).length) bf))]) (by simp only [List.length_append,List.length_cons,List.length_nil,Nat.zero_add])
  refine qak [11] [12,13] [(9,.v (.slice A_ ((qaK W l v (Tree.mk n1 s2 b3 l4 u5) 0).length) c_)),(11,.v (.int .i64 ((qaQ W l (Tree.mk n1 s2 b3 l4 u5) k2 + k:Nat):Int))),(100,.v (.slice al ((qan l u5).length) am)),(101,.v (.int .i64 (((qan l u5).length:Nat):Int))),(102,.v (.int .i64 ((k:Nat):Int))),(119,.v (.slice bd ((qaB W l (Tree.mk n1 s2 b3 l4 u5) k2 ++ qa7 ((qan l u5).take k) ++ (uv ak.toNat) ++ (uv ((qaC aj).length))).length) bf)),(120,.v (.slice ar ((qaC aj).length) au))] ee jg fun oI jh=>?_
  refine qam (qaJ ee jh (k:=1) (d:=121) (t:=24) (e:=5) (size:=1) (bytes:=1) (A:=bd) (As:=ar) (m0:=((qaB W l (Tree.mk n1 s2 b3 l4 u5) k2 ++ qa7 ((qan l u5).take k) ++ (uv ak.toNat) ++ (uv ((qaC aj).length))).length)) (c:=bf) (m:=((qaC aj).length)) (cs:=au) (xs:=(bc (qaB W l (Tree.mk n1 s2 b3 l4 u5) k2 ++ qa7 ((qan l u5).take k) ++ (uv ak.toNat) ++ (uv ((qaC aj).length))))) (news:=bc (qaC aj)) kz kz rfl ((dl.take 32767).move ((((((((((aM.trans aH).trans aQ).trans aR).trans bz).trans bA).trans bB).trans bC).trans bD).trans bE).trans bF).step immM ((((((((((aM.trans aH).trans aQ).trans aR).trans bz).trans bA).trans bB).trans bC).trans bD).trans bE).trans bF).to').src ((dl.take 32767).move ((((((((((aM.trans aH).trans aQ).trans aR).trans bz).trans bA).trans bB).trans bC).trans bD).trans bE).trans bF).step immM ((((((((((aM.trans aH).trans aQ).trans aR).trans bz).trans bA).trans bB).trans bC).trans bD).trans bE).trans bF).to').cap (by have h_:=qgt (l:=(qan l u5)) (k + 1); rw [qel bx] at h_; simp only [List.length_append] at h_ ⊢; omega) fun aK aL oJ oK ji jj jk=>?_)
  have jl:(⟨aK,aL,5,1,(qaB W l (Tree.mk n1 s2 b3 l4 u5) k2 ++ qa7 ((qan l u5).take k) ++ (uv ak.toNat) ++ (uv ((qaC aj).length))).length + (qaC aj).length,bc (qaB W l (Tree.mk n1 s2 b3 l4 u5) k2 ++ qa7 ((qan l u5).take k) ++ (uv ak.toNat) ++ (uv ((qaC aj).length))) ++ bc (qaC aj)⟩:Rw) = brow aK aL 5 (qaB W l (Tree.mk n1 s2 b3 l4 u5) k2 ++ qa7 ((qan l u5).take k) ++ (uv ak.toNat) ++ (uv ((qaC aj).length)) ++ (qaC aj)):=qa2 (rfl) rfl
  obtain ⟨cm,jm⟩:=jj.rowEq 1 [brow A_ c_ 5 (qaK W l v (Tree.mk n1 s2 b3 l4 u5) 0),brow aK aL 5 (qaB W l (Tree.mk n1 s2 b3 l4 u5) k2 ++ qa7 ((qan l u5).take k) ++ (uv ak.toNat) ++ (uv ((qaC aj).length)) ++ (qaC aj)),brow bJ bK 5 (uv ak.toNat),brow cz cA 5 (uv ((qaC aj).length))] jl
  have jn:=EnvOk.pick jk (ks:=[9,11,100,101,102,119,120,121]) (env':=[(9,.v (.slice A_ ((qaK W l v (Tree.mk n1 s2 b3 l4 u5) 0).length) c_)),(11,.v (.int .i64 ((qaQ W l (Tree.mk n1 s2 b3 l4 u5) k2 + k:Nat):Int))),(100,.v (.slice al ((qan l u5).length) am)),(101,.v (.int .i64 (((qan l u5).length:Nat):Int))),(102,.v (.int .i64 ((k:Nat):Int))),(119,.v (.slice bd ((qaB W l (Tree.mk n1 s2 b3 l4 u5) k2 ++ qa7 ((qan l u5).take k) ++ (uv ak.toNat) ++ (uv ((qaC aj).length))).length) bf)),(120,.v (.slice ar ((qaC aj).length) au)),(121,.v (.slice aK ((qaB W l (Tree.mk n1 s2 b3 l4 u5) k2 ++ qa7 ((qan l u5).take k) ++ (uv ak.toNat) ++ (uv ((qaC aj).length))).length + (qaC aj).length) aL))]) kz
  have jo:=jn.cast (env':=[(9,.v (.slice A_ ((qaK W l v (Tree.mk n1 s2 b3 l4 u5) 0).length) c_)),(11,.v (.int .i64 ((qaQ W l (Tree.mk n1 s2 b3 l4 u5) k2 + k:Nat):Int))),(100,.v (.slice al ((qan l u5).length) am)),(101,.v (.int .i64 (((qan l u5).length:Nat):Int))),(102,.v (.int .i64 ((k:Nat):Int))),(119,.v (.slice bd ((qaB W l (Tree.mk n1 s2 b3 l4 u5) k2 ++ qa7 ((qan l u5).take k) ++ (uv ak.toNat) ++ (uv ((qaC aj).length))).length) bf)),(120,.v (.slice ar ((qaC aj).length) au)),(121,.v (.slice aK ((qaB W l (Tree.mk n1 s2 b3 l4 u5) k2 ++ qa7 ((qan l u5).take k) ++ (uv ak.toNat) ++ (uv ((qaC aj).length)) ++ (qaC aj)).length) aL))]) (by simp only [List.length_append,List.length_cons,List.length_nil,Nat.zero_add])
  refine qak [13] [] [(9,.v (.slice A_ ((qaK W l v (Tree.mk n1 s2 b3 l4 u5) 0).length) c_)),(10,.v (.slice aK ((qaB W l (Tree.mk n1 s2 b3 l4 u5) k2 ++ qa7 ((qan l u5).take k) ++ (uv ak.toNat) ++ (uv ((qaC aj).length)) ++ (qaC aj)).length) aL)),(11,.v (.int .i64 ((qaQ W l (Tree.mk n1 s2 b3 l4 u5) k2 + k:Nat):Int))),(100,.v (.slice al ((qan l u5).length) am)),(101,.v (.int .i64 (((qan l u5).length:Nat):Int))),(102,.v (.int .i64 ((k:Nat):Int)))] cm jo fun oL jp=>?_
  refine qaf (qab ?_)
  refine qas [0,1,2] kz ?_
  refine qak [0,1,2] [] [(9,.v (.slice A_ ((qaK W l v (Tree.mk n1 s2 b3 l4 u5) 0).length) c_)),(10,.v (.slice aK ((qaB W l (Tree.mk n1 s2 b3 l4 u5) k2 ++ qa7 ((qan l u5).take k) ++ (uv ak.toNat) ++ (uv ((qaC aj).length)) ++ (qaC aj)).length) aL)),(11,.v (.int .i64 (IntKind.i64.wrap (((qaQ W l (Tree.mk n1 s2 b3 l4 u5) k2 + k:Nat):Int) + 1)))),(100,.v (.slice al ((qan l u5).length) am)),(101,.v (.int .i64 (((qan l u5).length:Nat):Int))),(102,.v (.int .i64 ((k:Nat):Int)))] cm jp fun oM jq=>?_
  refine qaf (qaF (qab (qas [0,1] kz ?_)))
  refine qak [0,1] [] [(9,.v (.slice A_ ((qaK W l v (Tree.mk n1 s2 b3 l4 u5) 0).length) c_)),(10,.v (.slice aK ((qaB W l (Tree.mk n1 s2 b3 l4 u5) k2 ++ qa7 ((qan l u5).take k) ++ (uv ak.toNat) ++ (uv ((qaC aj).length)) ++ (qaC aj)).length) aL)),(11,.v (.int .i64 (IntKind.i64.wrap (((qaQ W l (Tree.mk n1 s2 b3 l4 u5) k2 + k:Nat):Int) + 1)))),(100,.v (.slice al ((qan l u5).length) am)),(101,.v (.int .i64 (((qan l u5).length:Nat):Int))),(102,.v (.int .i64 (IntKind.i64.wrap (((k:Nat):Int) + 1))))] cm jq fun oN jr=>?_
  refine qaf (qab ?_)
  obtain ⟨cq,js,jt⟩:=cm.cutB jr 1 [⟨cD,0,(z9 n1 A6 s2.length c7 b3 A8 l4.length c9 aU u5.length aV),true⟩] [(9,.v (.slice A_ ((qaK W l v (Tree.mk n1 s2 b3 l4 u5) 0).length) c_)),(10,.v (.slice aK ((qaB W l (Tree.mk n1 s2 b3 l4 u5) k2 ++ qa7 ((qan l u5).take k) ++ (uv ak.toNat) ++ (uv ((qaC aj).length)) ++ (qaC aj)).length) aL)),(11,.v (.int .i64 (IntKind.i64.wrap (((qaQ W l (Tree.mk n1 s2 b3 l4 u5) k2 + k:Nat):Int) + 1)))),(100,.v (.slice al ((qan l u5).length) am)),(101,.v (.int .i64 (((qan l u5).length:Nat):Int))),(102,.v (.int .i64 (IntKind.i64.wrap (((k:Nat):Int) + 1))))]
  obtain ⟨ju,jv⟩:=js.cutR 2 [brow A_ c_ 5 (qaK W l v (Tree.mk n1 s2 b3 l4 u5) 0),brow aK aL 5 (qaB W l (Tree.mk n1 s2 b3 l4 u5) k2 ++ qa7 ((qan l u5).take k) ++ (uv ak.toNat) ++ (uv ((qaC aj).length)) ++ (qaC aj))]
  have ef:(qaB W l (Tree.mk n1 s2 b3 l4 u5) k2 ++ qa7 ((qan l u5).take k) ++ (uv ak.toNat) ++ (uv ((qaC aj).length)) ++ (qaC aj)) = (qaB W l (Tree.mk n1 s2 b3 l4 u5) k2 ++ qa7 ((qan l u5).take (k + 1))):=by rw [qel bx]; simp only [List.append_assoc]
  have jw:=congrArg (brow aK aL 5) ef
  obtain ⟨jx,jy⟩:=ju.rowEq 1 [brow A_ c_ 5 (qaK W l v (Tree.mk n1 s2 b3 l4 u5) 0),brow aK aL 5 (qaB W l (Tree.mk n1 s2 b3 l4 u5) k2 ++ qa7 ((qan l u5).take (k + 1)))] jw
  rw [ef] at cq
  have jz:IntKind.i64.wrap (((k:Nat):Int) + 1) = ((k + 1:Nat):Int):=qbh (by omega)
  rw [jz] at cq
  have jA:IntKind.i64.wrap (((qaQ W l (Tree.mk n1 s2 b3 l4 u5) k2 + k:Nat):Int) + 1) = ((qaQ W l (Tree.mk n1 s2 b3 l4 u5) k2 + (k + 1):Nat):Int):=by rw [wrap_i64 (by omega) (by omega)]; omega
  rw [jA] at cq
  exact ⟨(qan l u5).length - (k + 1),by omega,k + 1,aK,aL,rfl,by omega,cq.pk,jx,((((((((((((((aH.trans aQ).trans aR).trans bz).trans bA).trans bB).trans bC).trans bD).trans bE).trans bF).trans ji).trans jm).trans jt).trans jv).trans jy)⟩
 have lO:=of_decide_eq_false di
 refine wp_exit (qaz (qaz (qaR (qab (qae [0,1,2,3,4,5,6,7] kz ?_)))))
 refine qak [0,1,2] [3,4,5,6,7] [(10,.v (.slice A4_ ((qaB W l (Tree.mk n1 s2 b3 l4 u5) k2 ++ qa7 ((qan l u5).take k)).length) c4_)),(125,.v (.slice A_ ((qaK W l v (Tree.mk n1 s2 b3 l4 u5) 0).length) c_)),(127,.v (.int .u64 (IntKind.u64.wrap ((qaQ W l (Tree.mk n1 s2 b3 l4 u5) k2 + k:Nat):Int))))] cg dh fun oO jB=>?_
 have jC:IntKind.u64.wrap ((qaQ W l (Tree.mk n1 s2 b3 l4 u5) k2 + k:Nat):Int) = ((qaQ W l (Tree.mk n1 s2 b3 l4 u5) k2 + k:Nat):Int):=by simp only [qaG,qaq,qbV,IntKind.wrap_i64,IntKind.wrap_i32]; omega
 have jD:=EnvOk.pick jB (ks:=[10,125,127]) (env':=[(10,.v (.slice A4_ ((qaB W l (Tree.mk n1 s2 b3 l4 u5) k2 ++ qa7 ((qan l u5).take k)).length) c4_)),(125,.v (.slice A_ ((qaK W l v (Tree.mk n1 s2 b3 l4 u5) 0).length) c_)),(127,.v (.int .u64 (IntKind.u64.wrap ((qaQ W l (Tree.mk n1 s2 b3 l4 u5) k2 + k:Nat):Int))))]) kz
 have jE:=jD
 rw [jC] at jE
 refine qam (qal jE (f:=85) (vs:=[.int .u64 ((qaQ W l (Tree.mk n1 s2 b3 l4 u5) k2 + k:Nat):Int)]) (d:=128) kz Tryz.call85 (qeo (qaQ W l (Tree.mk n1 s2 b3 l4 u5) k2 + k) (by omega) _) ?_)
 rintro e_ oP ⟨cB,cC,rfl,jF,jG⟩
 refine ⟨_,rfl,fun oQ jH=>?_⟩
 obtain ⟨du,lP⟩:=cg.frFresh jG (brow cB cC 5 (uv (qaQ W l (Tree.mk n1 s2 b3 l4 u5) k2 + k))) (Nat.le_refl _) jF
 refine qam (qaJ du jH (k:=0) (d:=129) (t:=24) (e:=5) (size:=1) (bytes:=1) (A:=A_) (As:=cB) (m0:=((qaK W l v (Tree.mk n1 s2 b3 l4 u5) 0).length)) (c:=c_) (m:=((uv (qaQ W l (Tree.mk n1 s2 b3 l4 u5) k2 + k)).length)) (cs:=cC) (xs:=(bc (qaK W l v (Tree.mk n1 s2 b3 l4 u5) 0))) (news:=bc (uv (qaQ W l (Tree.mk n1 s2 b3 l4 u5) k2 + k))) kz kz rfl (qbZ (du.own 2 _ rfl) (qcq _)) (qcc (du.own 2 _ rfl)) (by have hkk3:k = (qan l u5).length:=(by omega); subst hkk3; subst hkk2; simp only [List.length_append,List.take_length] at *; omega) fun bg bh oR oS lQ jI jJ=>?_)
 have jK:(⟨bg,bh,5,1,(qaK W l v (Tree.mk n1 s2 b3 l4 u5) 0).length + (uv (qaQ W l (Tree.mk n1 s2 b3 l4 u5) k2 + k)).length,bc (qaK W l v (Tree.mk n1 s2 b3 l4 u5) 0) ++ bc (uv (qaQ W l (Tree.mk n1 s2 b3 l4 u5) k2 + k))⟩:Rw) = brow bg bh 5 (qaK W l v (Tree.mk n1 s2 b3 l4 u5) 0 ++ (uv (qaQ W l (Tree.mk n1 s2 b3 l4 u5) k2 + k))):=qa2 (rfl) rfl
 obtain ⟨cr,lR⟩:=jI.rowEq 0 [brow bg bh 5 (qaK W l v (Tree.mk n1 s2 b3 l4 u5) 0 ++ (uv (qaQ W l (Tree.mk n1 s2 b3 l4 u5) k2 + k))),brow A4_ c4_ 5 (qaB W l (Tree.mk n1 s2 b3 l4 u5) k2 ++ qa7 ((qan l u5).take k)),brow cB cC 5 (uv (qaQ W l (Tree.mk n1 s2 b3 l4 u5) k2 + k))] jK
 have jL:=EnvOk.pick jJ (ks:=[10,125,127,128,129]) (env':=[(10,.v (.slice A4_ ((qaB W l (Tree.mk n1 s2 b3 l4 u5) k2 ++ qa7 ((qan l u5).take k)).length) c4_)),(125,.v (.slice A_ ((qaK W l v (Tree.mk n1 s2 b3 l4 u5) 0).length) c_)),(127,.v (.int .u64 ((qaQ W l (Tree.mk n1 s2 b3 l4 u5) k2 + k:Nat):Int))),(128,.v (.slice cB ((uv (qaQ W l (Tree.mk n1 s2 b3 l4 u5) k2 + k)).length) cC)),(129,.v (.slice bg ((qaK W l v (Tree.mk n1 s2 b3 l4 u5) 0).length + (uv (qaQ W l (Tree.mk n1 s2 b3 l4 u5) k2 + k)).length) bh))]) kz
 have jM:=jL.cast (env':=[(10,.v (.slice A4_ ((qaB W l (Tree.mk n1 s2 b3 l4 u5) k2 ++ qa7 ((qan l u5).take k)).length) c4_)),(125,.v (.slice A_ ((qaK W l v (Tree.mk n1 s2 b3 l4 u5) 0).length) c_)),(127,.v (.int .u64 ((qaQ W l (Tree.mk n1 s2 b3 l4 u5) k2 + k:Nat):Int))),(128,.v (.slice cB ((uv (qaQ W l (Tree.mk n1 s2 b3 l4 u5) k2 + k)).length) cC)),(129,.v (.slice bg ((qaK W l v (Tree.mk n1 s2 b3 l4 u5) 0 ++ (uv (qaQ W l (Tree.mk n1 s2 b3 l4 u5) k2 + k))).length) bh))]) (by simp only [List.length_append,List.length_cons,List.length_nil,Nat.zero_add])
 refine qak [5] [6,7] [(129,.v (.slice bg ((qaK W l v (Tree.mk n1 s2 b3 l4 u5) 0 ++ (uv (qaQ W l (Tree.mk n1 s2 b3 l4 u5) k2 + k))).length) bh)),(130,.v (.slice A4_ ((qaB W l (Tree.mk n1 s2 b3 l4 u5) k2 ++ qa7 ((qan l u5).take k)).length) c4_))] cr jM fun oT jN=>?_
 refine qam (qaJ cr jN (k:=0) (d:=131) (t:=24) (e:=5) (size:=1) (bytes:=1) (A:=bg) (As:=A4_) (m0:=((qaK W l v (Tree.mk n1 s2 b3 l4 u5) 0 ++ (uv (qaQ W l (Tree.mk n1 s2 b3 l4 u5) k2 + k))).length)) (c:=bh) (m:=((qaB W l (Tree.mk n1 s2 b3 l4 u5) k2 ++ qa7 ((qan l u5).take k)).length)) (cs:=c4_) (xs:=(bc (qaK W l v (Tree.mk n1 s2 b3 l4 u5) 0 ++ (uv (qaQ W l (Tree.mk n1 s2 b3 l4 u5) k2 + k))))) (news:=bc (qaB W l (Tree.mk n1 s2 b3 l4 u5) k2 ++ qa7 ((qan l u5).take k))) kz kz rfl (qbZ (cr.own 1 _ rfl) (qcq _)) (qcc (cr.own 1 _ rfl)) (by have hkk3:k = (qan l u5).length:=(by omega); subst hkk3; subst hkk2; simp only [List.length_append,List.take_length] at *; omega) fun bL bM oU oV lS jO jP=>?_)
 have jQ:(⟨bL,bM,5,1,(qaK W l v (Tree.mk n1 s2 b3 l4 u5) 0 ++ (uv (qaQ W l (Tree.mk n1 s2 b3 l4 u5) k2 + k))).length + (qaB W l (Tree.mk n1 s2 b3 l4 u5) k2 ++ qa7 ((qan l u5).take k)).length,bc (qaK W l v (Tree.mk n1 s2 b3 l4 u5) 0 ++ (uv (qaQ W l (Tree.mk n1 s2 b3 l4 u5) k2 + k))) ++ bc (qaB W l (Tree.mk n1 s2 b3 l4 u5) k2 ++ qa7 ((qan l u5).take k))⟩:Rw) = brow bL bM 5 (qaK W l v (Tree.mk n1 s2 b3 l4 u5) 0 ++ (uv (qaQ W l (Tree.mk n1 s2 b3 l4 u5) k2 + k)) ++ (qaB W l (Tree.mk n1 s2 b3 l4 u5) k2 ++ qa7 ((qan l u5).take k))):=qa2 (rfl) rfl
 obtain ⟨dv,lT⟩:=jO.rowEq 0 [brow bL bM 5 (qaK W l v (Tree.mk n1 s2 b3 l4 u5) 0 ++ (uv (qaQ W l (Tree.mk n1 s2 b3 l4 u5) k2 + k)) ++ (qaB W l (Tree.mk n1 s2 b3 l4 u5) k2 ++ qa7 ((qan l u5).take k))),brow A4_ c4_ 5 (qaB W l (Tree.mk n1 s2 b3 l4 u5) k2 ++ qa7 ((qan l u5).take k)),brow cB cC 5 (uv (qaQ W l (Tree.mk n1 s2 b3 l4 u5) k2 + k))] jQ
 have jR:=EnvOk.pick jP (ks:=[129,130,131]) (env':=[(129,.v (.slice bg ((qaK W l v (Tree.mk n1 s2 b3 l4 u5) 0 ++ (uv (qaQ W l (Tree.mk n1 s2 b3 l4 u5) k2 + k))).length) bh)),(130,.v (.slice A4_ ((qaB W l (Tree.mk n1 s2 b3 l4 u5) k2 ++ qa7 ((qan l u5).take k)).length) c4_)),(131,.v (.slice bL ((qaK W l v (Tree.mk n1 s2 b3 l4 u5) 0 ++ (uv (qaQ W l (Tree.mk n1 s2 b3 l4 u5) k2 + k))).length + (qaB W l (Tree.mk n1 s2 b3 l4 u5) k2 ++ qa7 ((qan l u5).take k)).length) bM))]) kz
 have jS:=jR.cast (env':=[(129,.v (.slice bg ((qaK W l v (Tree.mk n1 s2 b3 l4 u5) 0 ++ (uv (qaQ W l (Tree.mk n1 s2 b3 l4 u5) k2 + k))).length) bh)),(130,.v (.slice A4_ ((qaB W l (Tree.mk n1 s2 b3 l4 u5) k2 ++ qa7 ((qan l u5).take k)).length) c4_)),(131,.v (.slice bL ((qaK W l v (Tree.mk n1 s2 b3 l4 u5) 0 ++ (uv (qaQ W l (Tree.mk n1 s2 b3 l4 u5) k2 + k)) ++ (qaB W l (Tree.mk n1 s2 b3 l4 u5) k2 ++ qa7 ((qan l u5).take k))).length) bM))]) (by simp only [List.length_append,List.length_cons,List.length_nil,Nat.zero_add])
 refine qak [7] [] [(8,.v (.slice bL ((qaK W l v (Tree.mk n1 s2 b3 l4 u5) 0 ++ (uv (qaQ W l (Tree.mk n1 s2 b3 l4 u5) k2 + k)) ++ (qaB W l (Tree.mk n1 s2 b3 l4 u5) k2 ++ qa7 ((qan l u5).take k))).length) bM))] dv jS fun oW jT=>?_
 refine qaf (qab ?_)
 refine wp_ret (qaE jT dv.cells (v:=.slice bL ((qaK W l v (Tree.mk n1 s2 b3 l4 u5) 0 ++ (uv (qaQ W l (Tree.mk n1 s2 b3 l4 u5) k2 + k)) ++ (qaB W l (Tree.mk n1 s2 b3 l4 u5) k2 ++ qa7 ((qan l u5).take k))).length) bM) kz ?_)
 have hkk3:k = (qan l u5).length:=by omega
 exact qa8 dv (k:=0) rfl (by rw [show flex = true by simpa using bS,qf1,hkk3,hkk2,List.take_length])
theorem qhL:∀ d,qjZ d
 | 0=>fun A c l v flex ct t w F hl hd ht hr=>qmi (fun _ _=>[]) A c l v flex ct t w F (fun cf f ct t w F hm hf ht hr=>by
   obtain ⟨i,hi⟩:=List.mem_iff_getElem?.1 hm
   have h:=qej hi
   obtain ⟨k,x1,x2,x3,x4,x5,x6,l,A,c,xs,rfl,_⟩:=hf.open_
   rw [qfo] at h; omega) hl ht hr
 | d + 1=>fun A c l v flex ct t w F hl hd ht hr=>qmi (fun f t=>qc3 d f v flex t) A c l v flex ct t w F (fun cf f ct t w F hm hf ht hr=>qmh (qhL d) cf f v flex ct t w F hf (by
   obtain ⟨i,hi⟩:=List.mem_iff_getElem?.1 hm
   have h:=qej hi
   obtain ⟨k,x1,x2,x3,x4,x5,x6,l,A,c,xs,rfl,_⟩:=hf.open_
   rw [qfo] at h
   show depths l ≤ d
   omega) ht hr) hl ht hr
theorem qmj {d:Nat} (A:Option Addr) (c:Nat) (l:List Fld) (x v:Int) (ct:List Value) (t:Tree) (w:World) (F:Nat → Nat → Prop) (hl:FldsR w F A c l) (hd:depths l ≤ d) (ht:TreeR w F ct t) (hroom:(qbf d l x v t).length ≤ 1099511627776) :
  Calls Tryz.prog 15 #[.agg #[.slice A l.length c,.int .i64 x],.int .i64 v,.agg ct.toArray] w (qdV w 5 (qbf d l x v t)):=by
 obtain ⟨xfs,h1,h2⟩:=hl.ex
 have hsm:=h1.small
 obtain ⟨n1,s2,b3,l4,u5,A6,c7,A8,c9,af,ag,aI,rfl,rfl,aJ,aK,aV,aW⟩:=ht.open_
 have aG:=aJ.small
 have aH:=aK.small
 refine enter (n:=21) Tryz.func15 rfl Tryz.ntmps15 kz fun a hE=>?_
 have hW:=WOk.start w Nil
 refine qae [0,1,2] kz ?_
 refine qam (qbk hW hE (d:=3) (cs:=[.slice A l.length c,.int .i64 x]) kz fun aX aY aZ aL aM aN ai aj=>?_)
 refine qam (qbk ai aj (d:=5) (cs:=(z9 n1 A6 s2.length c7 b3 A8 l4.length c9 af u5.length ag)) kz fun ba bd bf aO aP aQ aa ak=>?_)
 refine qak [2] [] [(1,.v (.int .i64 v)),(3,.p 0 0),(5,.p 1 0)] aa ak fun bg al=>?_
 refine qaf (qab ?_)
 refine qae [0,1,2,3,4,5,6,7,8,9,10,11,12,13,14] kz ?_
 refine qak [0,1,2,3,4,5,6] [7,8,9,10,11,12,13,14] [(1,.v (.int .i64 v)),(3,.p 0 0),(5,.p 1 0),(8,.v (.slice A l.length c)),(9,.v (.int .i64 v)),(13,.v (.bool (decide (x ≥ 0))))] aa al fun bh ah=>?_
 refine (Bool.eq_false_or_eq_true (decide (x ≥ 0))).elim (fun ab=>?_) (fun ab=>?_)
 ·
  have aR:=of_decide_eq_true ab
  have am:=ah
  rw [ab] at am
  refine qak [7,8,9,10,11,12] [13,14] [(8,.v (.slice A l.length c)),(9,.v (.int .i64 v)),(18,.v (.bool (decide (v ≥ x)))),(19,.v (.agg #[.int .i64 n1,.slice A6 s2.length c7,.bool b3,.slice A8 l4.length c9,.slice af u5.length ag]))] aa am fun bi ao=>?_
  refine qam (qal ao (f:=42) (vs:=[.slice A l.length c,.int .i64 v,.bool (decide (v ≥ x)),.agg #[.int .i64 n1,.slice A6 s2.length c7,.bool b3,.slice A8 l4.length c9,.slice af u5.length ag]]) (d:=20) kz Tryz.call42 (qhL _ _ _ l v (decide (v ≥ x)) _ (Tree.mk n1 s2 b3 l4 u5) _ _ ⟨xfs,(h1.move aa.step nilM aa.imm),(fun i_ x_ h_=>((h2 i_ x_ h_).move aa.step nilM aa.imm))⟩ hd (ht.move aa.step nilM aa.imm) (by simpa [qbf,ab] using hroom)) ?_)
  rintro e_ bj ⟨ap,ar,rfl,au,av⟩
  refine ⟨_,rfl,fun bk aw=>?_⟩
  obtain ⟨ac,aS⟩:=aa.frFresh av (brow ap ar 5 (qaV d l v (decide (v ≥ x)) (Tree.mk n1 s2 b3 l4 u5))) (Nat.le_refl _) au
  refine qak [14] [] [(6,.v (.slice ap ((qaV d l v (decide (v ≥ x)) (Tree.mk n1 s2 b3 l4 u5)).length) ar))] ac aw fun bn ax=>?_
  refine qaf (qab ?_)
  refine wp_ret (qaE ax ac.cells (v:=.slice ap ((qaV d l v (decide (v ≥ x)) (Tree.mk n1 s2 b3 l4 u5)).length) ar) kz ?_)
  exact qa8 ac (k:=0) rfl (by simp [qbf,ab])
 have aT:=of_decide_eq_false ab
 have ay:=ah
 rw [ab] at ay
 refine qak [7,8,9,10,11,12] [13,14] [(8,.v (.slice A l.length c)),(9,.v (.int .i64 v)),(18,.v (.bool false)),(19,.v (.agg #[.int .i64 n1,.slice A6 s2.length c7,.bool b3,.slice A8 l4.length c9,.slice af u5.length ag]))] aa ay fun bo az=>?_
 refine qam (qal az (f:=42) (vs:=[.slice A l.length c,.int .i64 v,.bool false,.agg #[.int .i64 n1,.slice A6 s2.length c7,.bool b3,.slice A8 l4.length c9,.slice af u5.length ag]]) (d:=20) kz Tryz.call42 (qhL _ _ _ l v false _ (Tree.mk n1 s2 b3 l4 u5) _ _ ⟨xfs,(h1.move aa.step nilM aa.imm),(fun i_ x_ h_=>((h2 i_ x_ h_).move aa.step nilM aa.imm))⟩ hd (ht.move aa.step nilM aa.imm) (by simpa [qbf,ab] using hroom)) ?_)
 rintro e_ bp ⟨aA,aB,rfl,aC,aD⟩
 refine ⟨_,rfl,fun bq aE=>?_⟩
 obtain ⟨ae,aU⟩:=aa.frFresh aD (brow aA aB 5 (qaV d l v false (Tree.mk n1 s2 b3 l4 u5))) (Nat.le_refl _) aC
 refine qak [14] [] [(6,.v (.slice aA ((qaV d l v false (Tree.mk n1 s2 b3 l4 u5)).length) aB))] ae aE fun bt aF=>?_
 refine qaf (qab ?_)
 refine wp_ret (qaE aF ae.cells (v:=.slice aA ((qaV d l v false (Tree.mk n1 s2 b3 l4 u5)).length) aB) kz ?_)
 exact qa8 ae (k:=0) rfl (by simp [qbf,ab])
def sTxnOffsetCommitRequestF:List Fld:=[(Fld.mk 8 0 (-1) (-1) (-1) 0 0 []),(Fld.mk 8 0 (-1) (-1) (-1) 0 0 []),(Fld.mk 4 0 (-1) (-1) (-1) 0 0 []),(Fld.mk 2 0 (-1) (-1) (-1) 0 0 []),(Fld.mk 3 3 (-1) (-1) (-1) (-1) 0 []),(Fld.mk 8 3 (-1) (-1) (-1) 0 0 []),(Fld.mk 8 3 (-1) 3 (-1) 0 0 []),(Fld.mk 11 0 (-1) (-1) (-1) 0 10 [(Fld.mk 8 0 5 (-1) (-1) 0 0 []),(Fld.mk 7 6 (-1) (-1) (-1) 0 0 []),(Fld.mk 11 0 (-1) (-1) (-1) 0 10 [(Fld.mk 3 0 (-1) (-1) (-1) 0 0 []),(Fld.mk 4 0 (-1) (-1) (-1) 0 0 []),(Fld.mk 3 2 (-1) (-1) (-1) (-1) 0 []),(Fld.mk 8 0 (-1) 0 (-1) 0 0 [])])])]
def qag:Int:=3
abbrev z6 (x0):=([.int .i64 8,.int .i64 0,.int .i64 (-1),.int .i64 (-1),.int .i64 (-1),.int .i64 0,.int .i64 0,.slice none 0 0,.int .i64 8,.int .i64 0,.int .i64 (-1),.int .i64 (-1),.int .i64 (-1),.int .i64 0,.int .i64 0,.slice none 0 0,.int .i64 4,.int .i64 0,.int .i64 (-1),.int .i64 (-1),.int .i64 (-1),.int .i64 0,.int .i64 0,.slice none 0 0,.int .i64 2,.int .i64 0,.int .i64 (-1),.int .i64 (-1),.int .i64 (-1),.int .i64 0,.int .i64 0,.slice none 0 0,.int .i64 3,.int .i64 3,.int .i64 (-1),.int .i64 (-1),.int .i64 (-1),.int .i64 (-1),.int .i64 0,.slice none 0 0,.int .i64 8,.int .i64 3,.int .i64 (-1),.int .i64 (-1),.int .i64 (-1),.int .i64 0,.int .i64 0,.slice none 0 0,.int .i64 8,.int .i64 3,.int .i64 (-1),.int .i64 3,.int .i64 (-1),.int .i64 0,.int .i64 0,.slice none 0 0,.int .i64 11,.int .i64 0,.int .i64 (-1),.int .i64 (-1),.int .i64 (-1),.int .i64 0,.int .i64 10,.slice (some ⟨x0,0,none⟩) 3 3]:List Value)
abbrev z3 :=(Fld.mk 11 0 (-1) (-1) (-1) 0 10 [(Fld.mk 3 0 (-1) (-1) (-1) 0 0 []),(Fld.mk 4 0 (-1) (-1) (-1) 0 0 []),(Fld.mk 3 2 (-1) (-1) (-1) (-1) 0 []),(Fld.mk 8 0 (-1) 0 (-1) 0 0 [])])
abbrev z12 :=([.int .i64 3,.int .i64 0,.int .i64 (-1),.int .i64 (-1),.int .i64 (-1),.int .i64 0,.int .i64 0,.slice none 0 0,.int .i64 4,.int .i64 0,.int .i64 (-1),.int .i64 (-1),.int .i64 (-1),.int .i64 0,.int .i64 0,.slice none 0 0,.int .i64 3,.int .i64 2,.int .i64 (-1),.int .i64 (-1),.int .i64 (-1),.int .i64 (-1),.int .i64 0,.slice none 0 0,.int .i64 8,.int .i64 0,.int .i64 (-1),.int .i64 0,.int .i64 (-1),.int .i64 0,.int .i64 0,.slice none 0 0]:List Value)
abbrev z18 (x0):=([.int .i64 8,.int .i64 0,.int .i64 5,.int .i64 (-1),.int .i64 (-1),.int .i64 0,.int .i64 0,.slice none 0 0,.int .i64 7,.int .i64 6,.int .i64 (-1),.int .i64 (-1),.int .i64 (-1),.int .i64 0,.int .i64 0,.slice none 0 0,.int .i64 11,.int .i64 0,.int .i64 (-1),.int .i64 (-1),.int .i64 (-1),.int .i64 0,.int .i64 10,.slice (some ⟨x0,0,none⟩) 4 4]:List Value)
theorem qdC (w:World) (F:Nat → Nat → Prop):Calls Tryz.prog 21 #[] w (qme w F sTxnOffsetCommitRequestF qag):=by
 refine enter (n:=12) Tryz.func21 rfl Tryz.ntmps21 kz fun a hE=>?_
 have hW:=WOk.start w Nil
 refine qae [0] kz ?_
 refine qam (qbc hW hE (d:=0) (cs:=[.slice none 0 0,.int .i64 0]) kz fun b1 a2 w3 hb4 hz5 hF6 hW7 hE8=>?_)
 refine qaf (qab ?_)
 refine qae [0,1,2,3,4,5,6,7,8,9,10,11] kz ?_
 refine qak [0,1,2,3,4,5,6] [7,8,9,10,11] [(0,.p 0 0),(1,.v (.agg #[.int .i64 8,.int .i64 0,.int .i64 (-1),.int .i64 (-1),.int .i64 (-1),.int .i64 0,.int .i64 0,.slice none 0 0])),(2,.v (.agg #[.int .i64 8,.int .i64 0,.int .i64 (-1),.int .i64 (-1),.int .i64 (-1),.int .i64 0,.int .i64 0,.slice none 0 0])),(3,.v (.agg #[.int .i64 4,.int .i64 0,.int .i64 (-1),.int .i64 (-1),.int .i64 (-1),.int .i64 0,.int .i64 0,.slice none 0 0])),(4,.v (.agg #[.int .i64 2,.int .i64 0,.int .i64 (-1),.int .i64 (-1),.int .i64 (-1),.int .i64 0,.int .i64 0,.slice none 0 0])),(5,.v (.agg #[.int .i64 3,.int .i64 3,.int .i64 (-1),.int .i64 (-1),.int .i64 (-1),.int .i64 (-1),.int .i64 0,.slice none 0 0])),(6,.v (.agg #[.int .i64 8,.int .i64 3,.int .i64 (-1),.int .i64 (-1),.int .i64 (-1),.int .i64 0,.int .i64 0,.slice none 0 0])),(7,.v (.agg #[.int .i64 8,.int .i64 3,.int .i64 (-1),.int .i64 3,.int .i64 (-1),.int .i64 0,.int .i64 0,.slice none 0 0]))] hW7 hE8 fun a9 al=>?_
 refine qam (qa9 al (f:=49) (vs:=[]) (d:=8) (n':=6) kz Tryz.call49 Tryz.func49 rfl Tryz.ntmps49 kz fun aU am=>?_)
 refine qar [] hW7 am fun aV ao=>?_
 refine qae [0,1,2,3,4,5] kz ?_
 refine qak [0,1] [2,3,4,5] [(1,.v (.agg #[.int .i64 8,.int .i64 0,.int .i64 5,.int .i64 (-1),.int .i64 (-1),.int .i64 0,.int .i64 0,.slice none 0 0])),(2,.v (.agg #[.int .i64 7,.int .i64 6,.int .i64 (-1),.int .i64 (-1),.int .i64 (-1),.int .i64 0,.int .i64 0,.slice none 0 0]))] hW7 ao fun aW ap=>?_
 refine qam (qa9 ap (f:=93) (vs:=[]) (d:=3) (n':=6) kz Tryz.call93 Tryz.func93 rfl Tryz.ntmps93 kz fun aX ar=>?_)
 refine qar [] hW7 ar fun aY au=>?_
 refine qae [0,1,2,3,4,5] kz ?_
 refine qak [0,1,2,3] [4,5] [(1,.v (.agg #[.int .i64 3,.int .i64 0,.int .i64 (-1),.int .i64 (-1),.int .i64 (-1),.int .i64 0,.int .i64 0,.slice none 0 0])),(2,.v (.agg #[.int .i64 4,.int .i64 0,.int .i64 (-1),.int .i64 (-1),.int .i64 (-1),.int .i64 0,.int .i64 0,.slice none 0 0])),(3,.v (.agg #[.int .i64 3,.int .i64 2,.int .i64 (-1),.int .i64 (-1),.int .i64 (-1),.int .i64 (-1),.int .i64 0,.slice none 0 0])),(4,.v (.agg #[.int .i64 8,.int .i64 0,.int .i64 (-1),.int .i64 0,.int .i64 (-1),.int .i64 0,.int .i64 0,.slice none 0 0]))] hW7 au fun aZ av=>?_
 refine qam (qd9 hW7 av (e:=50) (size:=8) (len:=4) (cs:=z12) (d:=5) kz kz fun ai ba bd aK aL aM ac aw=>?_)
 refine qak [5] [] [(0,.v (.slice (some ⟨ai,0,none⟩) 4 4))] ac aw fun bf ax=>?_
 refine qaf (qab ?_)
 refine wp_ret (qaE ax ac.cells (v:=.slice (some ⟨ai,0,none⟩) 4 4) kz ?_)
 refine ⟨_,rfl,fun bg ay=>?_⟩
 have az:EnvOk 6 [⟨b1,0,[.slice none 0 0,.int .i64 0],true⟩] [(3,.v (.slice (some ⟨ai,0,none⟩) 4 4)),(1,.v (.agg #[.int .i64 8,.int .i64 0,.int .i64 5,.int .i64 (-1),.int .i64 (-1),.int .i64 0,.int .i64 0,.slice none 0 0])),(2,.v (.agg #[.int .i64 7,.int .i64 6,.int .i64 (-1),.int .i64 (-1),.int .i64 (-1),.int .i64 0,.int .i64 0,.slice none 0 0]))] _:=ay.places (⟨rfl,rfl,trivial⟩)
 refine qak [3] [4,5] [(1,.v (.agg #[.int .i64 8,.int .i64 0,.int .i64 5,.int .i64 (-1),.int .i64 (-1),.int .i64 0,.int .i64 0,.slice none 0 0])),(2,.v (.agg #[.int .i64 7,.int .i64 6,.int .i64 (-1),.int .i64 (-1),.int .i64 (-1),.int .i64 0,.int .i64 0,.slice none 0 0])),(4,.v (.agg #[.int .i64 11,.int .i64 0,.int .i64 (-1),.int .i64 (-1),.int .i64 (-1),.int .i64 0,.int .i64 10,.slice (some ⟨ai,0,none⟩) 4 4]))] ac az fun bh aA=>?_
 refine qam (qd9 ac aA (e:=50) (size:=8) (len:=3) (cs:=(z18 ai)) (d:=5) kz kz fun aj bi bj aN aO aP ae aB=>?_)
 refine qak [5] [] [(0,.v (.slice (some ⟨aj,0,none⟩) 3 3))] ae aB fun bk aC=>?_
 refine qaf (qab ?_)
 refine wp_ret (qaE aC ae.cells (v:=.slice (some ⟨aj,0,none⟩) 3 3) kz ?_)
 refine ⟨_,rfl,fun bn aD=>?_⟩
 have aE:EnvOk 12 [⟨b1,0,[.slice none 0 0,.int .i64 0],true⟩] [(8,.v (.slice (some ⟨aj,0,none⟩) 3 3)),(0,.p 0 0),(1,.v (.agg #[.int .i64 8,.int .i64 0,.int .i64 (-1),.int .i64 (-1),.int .i64 (-1),.int .i64 0,.int .i64 0,.slice none 0 0])),(2,.v (.agg #[.int .i64 8,.int .i64 0,.int .i64 (-1),.int .i64 (-1),.int .i64 (-1),.int .i64 0,.int .i64 0,.slice none 0 0])),(3,.v (.agg #[.int .i64 4,.int .i64 0,.int .i64 (-1),.int .i64 (-1),.int .i64 (-1),.int .i64 0,.int .i64 0,.slice none 0 0])),(4,.v (.agg #[.int .i64 2,.int .i64 0,.int .i64 (-1),.int .i64 (-1),.int .i64 (-1),.int .i64 0,.int .i64 0,.slice none 0 0])),(5,.v (.agg #[.int .i64 3,.int .i64 3,.int .i64 (-1),.int .i64 (-1),.int .i64 (-1),.int .i64 (-1),.int .i64 0,.slice none 0 0])),(6,.v (.agg #[.int .i64 8,.int .i64 3,.int .i64 (-1),.int .i64 (-1),.int .i64 (-1),.int .i64 0,.int .i64 0,.slice none 0 0])),(7,.v (.agg #[.int .i64 8,.int .i64 3,.int .i64 (-1),.int .i64 3,.int .i64 (-1),.int .i64 0,.int .i64 0,.slice none 0 0]))] _:=aD.places (⟨rfl,rfl,trivial⟩)
 refine qak [8] [9,10,11] [(0,.p 0 0),(1,.v (.agg #[.int .i64 8,.int .i64 0,.int .i64 (-1),.int .i64 (-1),.int .i64 (-1),.int .i64 0,.int .i64 0,.slice none 0 0])),(2,.v (.agg #[.int .i64 8,.int .i64 0,.int .i64 (-1),.int .i64 (-1),.int .i64 (-1),.int .i64 0,.int .i64 0,.slice none 0 0])),(3,.v (.agg #[.int .i64 4,.int .i64 0,.int .i64 (-1),.int .i64 (-1),.int .i64 (-1),.int .i64 0,.int .i64 0,.slice none 0 0])),(4,.v (.agg #[.int .i64 2,.int .i64 0,.int .i64 (-1),.int .i64 (-1),.int .i64 (-1),.int .i64 0,.int .i64 0,.slice none 0 0])),(5,.v (.agg #[.int .i64 3,.int .i64 3,.int .i64 (-1),.int .i64 (-1),.int .i64 (-1),.int .i64 (-1),.int .i64 0,.slice none 0 0])),(6,.v (.agg #[.int .i64 8,.int .i64 3,.int .i64 (-1),.int .i64 (-1),.int .i64 (-1),.int .i64 0,.int .i64 0,.slice none 0 0])),(7,.v (.agg #[.int .i64 8,.int .i64 3,.int .i64 (-1),.int .i64 3,.int .i64 (-1),.int .i64 0,.int .i64 0,.slice none 0 0])),(9,.v (.agg #[.int .i64 11,.int .i64 0,.int .i64 (-1),.int .i64 (-1),.int .i64 (-1),.int .i64 0,.int .i64 10,.slice (some ⟨aj,0,none⟩) 3 3]))] ae aE fun bo aF=>?_
 refine qam (qd9 ae aF (e:=50) (size:=8) (len:=8) (cs:=(z6 aj)) (d:=10) kz kz fun aG bp bq aQ aR aS ak aH=>?_)
 refine qak [10] [11] [(0,.p 0 0),(11,.v (.agg #[.slice (some ⟨aG,0,none⟩) 8 8,.int .i64 3]))] ak aH fun bt aI=>?_
 refine qam (qaM ak aI (oi:=0) (cs:=[.slice (some ⟨aG,0,none⟩) 8 8,.int .i64 3]) kz fun aa aT ab aJ=>?_)
 refine qaf (qab ?_)
 refine wp_ret (qaE aJ ab.cells (v:=.agg #[.slice (some ⟨aG,0,none⟩) 8 8,.int .i64 3]) kz ?_)
 have af:=Flds.slots (F:=F) ab (k:=0) (n:=4) (xs:=z12) rfl (Flds.snoc (Flds.snoc (Flds.snoc (Flds.snoc (Flds.nil _ _) (c:=[.int .i64 3,.int .i64 0,.int .i64 (-1),.int .i64 (-1),.int .i64 (-1),.int .i64 0,.int .i64 0,.slice none 0 0]) (x:=(Fld.mk 3 0 (-1) (-1) (-1) 0 0 [])) (FldR.mk (l:=[]) _ (qb8 aa (Fp F w)).1 (qb8 aa (Fp F w)).2)) (c:=[.int .i64 4,.int .i64 0,.int .i64 (-1),.int .i64 (-1),.int .i64 (-1),.int .i64 0,.int .i64 0,.slice none 0 0]) (x:=(Fld.mk 4 0 (-1) (-1) (-1) 0 0 [])) (FldR.mk (l:=[]) _ (qb8 aa (Fp F w)).1 (qb8 aa (Fp F w)).2)) (c:=[.int .i64 3,.int .i64 2,.int .i64 (-1),.int .i64 (-1),.int .i64 (-1),.int .i64 (-1),.int .i64 0,.slice none 0 0]) (x:=(Fld.mk 3 2 (-1) (-1) (-1) (-1) 0 [])) (FldR.mk (l:=[]) _ (qb8 aa (Fp F w)).1 (qb8 aa (Fp F w)).2)) (c:=[.int .i64 8,.int .i64 0,.int .i64 (-1),.int .i64 0,.int .i64 (-1),.int .i64 0,.int .i64 0,.slice none 0 0]) (x:=(Fld.mk 8 0 (-1) 0 (-1) 0 0 [])) (FldR.mk (l:=[]) _ (qb8 aa (Fp F w)).1 (qb8 aa (Fp F w)).2)) rfl (by decide)
 have ag:=Flds.slots (F:=F) ab (k:=1) (n:=3) (xs:=(z18 ai)) rfl (Flds.snoc (Flds.snoc (Flds.snoc (Flds.nil _ _) (c:=[.int .i64 8,.int .i64 0,.int .i64 5,.int .i64 (-1),.int .i64 (-1),.int .i64 0,.int .i64 0,.slice none 0 0]) (x:=(Fld.mk 8 0 5 (-1) (-1) 0 0 [])) (FldR.mk (l:=[]) _ (qb8 aa (Fp F w)).1 (qb8 aa (Fp F w)).2)) (c:=[.int .i64 7,.int .i64 6,.int .i64 (-1),.int .i64 (-1),.int .i64 (-1),.int .i64 0,.int .i64 0,.slice none 0 0]) (x:=(Fld.mk 7 6 (-1) (-1) (-1) 0 0 [])) (FldR.mk (l:=[]) _ (qb8 aa (Fp F w)).1 (qb8 aa (Fp F w)).2)) (c:=[.int .i64 11,.int .i64 0,.int .i64 (-1),.int .i64 (-1),.int .i64 (-1),.int .i64 0,.int .i64 10,.slice (some ⟨ai,0,none⟩) 4 4]) (x:=z3) (FldR.mk (l:=[(Fld.mk 3 0 (-1) (-1) (-1) 0 0 []),(Fld.mk 4 0 (-1) (-1) (-1) 0 0 []),(Fld.mk 3 2 (-1) (-1) (-1) (-1) 0 []),(Fld.mk 8 0 (-1) 0 (-1) 0 0 [])]) _ af.1 af.2)) rfl (by decide)
 have ah:=Flds.slots (F:=F) ab (k:=2) (n:=8) (xs:=(z6 aj)) rfl (Flds.snoc (Flds.snoc (Flds.snoc (Flds.snoc (Flds.snoc (Flds.snoc (Flds.snoc (Flds.snoc (Flds.nil _ _) (c:=[.int .i64 8,.int .i64 0,.int .i64 (-1),.int .i64 (-1),.int .i64 (-1),.int .i64 0,.int .i64 0,.slice none 0 0]) (x:=(Fld.mk 8 0 (-1) (-1) (-1) 0 0 [])) (FldR.mk (l:=[]) _ (qb8 aa (Fp F w)).1 (qb8 aa (Fp F w)).2)) (c:=[.int .i64 8,.int .i64 0,.int .i64 (-1),.int .i64 (-1),.int .i64 (-1),.int .i64 0,.int .i64 0,.slice none 0 0]) (x:=(Fld.mk 8 0 (-1) (-1) (-1) 0 0 [])) (FldR.mk (l:=[]) _ (qb8 aa (Fp F w)).1 (qb8 aa (Fp F w)).2)) (c:=[.int .i64 4,.int .i64 0,.int .i64 (-1),.int .i64 (-1),.int .i64 (-1),.int .i64 0,.int .i64 0,.slice none 0 0]) (x:=(Fld.mk 4 0 (-1) (-1) (-1) 0 0 [])) (FldR.mk (l:=[]) _ (qb8 aa (Fp F w)).1 (qb8 aa (Fp F w)).2)) (c:=[.int .i64 2,.int .i64 0,.int .i64 (-1),.int .i64 (-1),.int .i64 (-1),.int .i64 0,.int .i64 0,.slice none 0 0]) (x:=(Fld.mk 2 0 (-1) (-1) (-1) 0 0 [])) (FldR.mk (l:=[]) _ (qb8 aa (Fp F w)).1 (qb8 aa (Fp F w)).2)) (c:=[.int .i64 3,.int .i64 3,.int .i64 (-1),.int .i64 (-1),.int .i64 (-1),.int .i64 (-1),.int .i64 0,.slice none 0 0]) (x:=(Fld.mk 3 3 (-1) (-1) (-1) (-1) 0 [])) (FldR.mk (l:=[]) _ (qb8 aa (Fp F w)).1 (qb8 aa (Fp F w)).2)) (c:=[.int .i64 8,.int .i64 3,.int .i64 (-1),.int .i64 (-1),.int .i64 (-1),.int .i64 0,.int .i64 0,.slice none 0 0]) (x:=(Fld.mk 8 3 (-1) (-1) (-1) 0 0 [])) (FldR.mk (l:=[]) _ (qb8 aa (Fp F w)).1 (qb8 aa (Fp F w)).2)) (c:=[.int .i64 8,.int .i64 3,.int .i64 (-1),.int .i64 3,.int .i64 (-1),.int .i64 0,.int .i64 0,.slice none 0 0]) (x:=(Fld.mk 8 3 (-1) 3 (-1) 0 0 [])) (FldR.mk (l:=[]) _ (qb8 aa (Fp F w)).1 (qb8 aa (Fp F w)).2)) (c:=[.int .i64 11,.int .i64 0,.int .i64 (-1),.int .i64 (-1),.int .i64 (-1),.int .i64 0,.int .i64 10,.slice (some ⟨aj,0,none⟩) 3 3]) (x:=(Fld.mk 11 0 (-1) (-1) (-1) 0 10 [(Fld.mk 8 0 5 (-1) (-1) 0 0 []),(Fld.mk 7 6 (-1) (-1) (-1) 0 0 []),z3])) (FldR.mk (l:=[(Fld.mk 8 0 5 (-1) (-1) 0 0 []),(Fld.mk 7 6 (-1) (-1) (-1) 0 0 []),z3]) _ ag.1 ag.2)) rfl (by decide)
 exact ⟨_,_,rfl,⟨_,ah.1,ah.2⟩,ab.step⟩
def qa4 (T:Tree):Prop:=(True) ∧ (True) ∧ (True) ∧ ((qby (T.at_ 3)).length ≤ 32767) ∧ canU T.U ∧ True
def qbn (T:Tree):Prop:=((T.at_ 0).S.length ≤ 32767) ∧ (True) ∧ ((lst (T.at_ 2)).length ≤ 32767 ∧ ∀ x ∈ lst (T.at_ 2),qa4 x) ∧ canU T.U ∧ True
def qa5 (T:Tree):Prop:=((T.at_ 0).S.length ≤ 32767) ∧ ((T.at_ 1).S.length ≤ 32767) ∧ (True) ∧ (True) ∧ (True) ∧ ((T.at_ 5).S.length ≤ 32767) ∧ ((qby (T.at_ 6)).length ≤ 32767) ∧ ((lst (T.at_ 7)).length ≤ 32767 ∧ ∀ x ∈ lst (T.at_ 7),qbn x) ∧ canU T.U ∧ True
abbrev z22 :=(Fld.mk 10 0 (-1) (-1) (-1) 0 10 [(Fld.mk 3 0 (-1) (-1) (-1) 0 0 []),(Fld.mk 4 0 (-1) (-1) (-1) 0 0 []),(Fld.mk 3 2 (-1) (-1) (-1) (-1) 0 []),(Fld.mk 8 0 (-1) 0 (-1) 0 0 [])])
theorem qcZ (v:Int) (t:Tree):qa5 (fitT v 8 sTxnOffsetCommitRequestF t):=by
 unfold qa5
 exact ⟨(by rw [qhd (d:=7) (show sTxnOffsetCommitRequestF[0]? = _ from rfl) (by decide)]; exact Nat.le_trans (qbp _) (by decide)),(by rw [qhd (d:=7) (show sTxnOffsetCommitRequestF[1]? = _ from rfl) (by decide)]; exact Nat.le_trans (qbp _) (by decide)),(trivial),(trivial),(trivial),(by rw [qhd (d:=7) (show sTxnOffsetCommitRequestF[5]? = _ from rfl) (by decide)]; exact Nat.le_trans (qbp _) (by decide)),(qih (d:=7) (show sTxnOffsetCommitRequestF[6]? = _ from rfl) (by decide)),(⟨qjW (d:=7) (show sTxnOffsetCommitRequestF[7]? = _ from rfl),qjV (d:=7) (Q:=qbn) (show sTxnOffsetCommitRequestF[7]? = _ from rfl) fun y=>by
   have h:=qig (v:=v) (d:=7) (x1:=0) (x2:=-1) (x5:=0) (x6:=10) (s:=[(Fld.mk 8 0 5 (-1) (-1) 0 0 []),(Fld.mk 7 6 (-1) (-1) (-1) 0 0 []),z3]) (b:=Fld.nul (Fld.mk 10 0 (-1) (-1) (-1) 0 10 [(Fld.mk 8 0 5 (-1) (-1) 0 0 []),(Fld.mk 7 6 (-1) (-1) (-1) 0 0 []),z3]) v y) (x:=y)
   unfold qbn
   simp only [h.1,h.2]
   exact ⟨(by rw [qhd (d:=6) (show [(Fld.mk 8 0 5 (-1) (-1) 0 0 []),(Fld.mk 7 6 (-1) (-1) (-1) 0 0 []),(Fld.mk 11 0 (-1) (-1) (-1) 0 10 [(Fld.mk 3 0 (-1) (-1) (-1) 0 0 []),(Fld.mk 4 0 (-1) (-1) (-1) 0 0 []),(Fld.mk 3 2 (-1) (-1) (-1) (-1) 0 []),(Fld.mk 8 0 (-1) 0 (-1) 0 0 [])])][0]? = _ from rfl) (by decide)]; exact Nat.le_trans (qbp _) (by decide)),(trivial),(⟨qjW (d:=6) (show [(Fld.mk 8 0 5 (-1) (-1) 0 0 []),(Fld.mk 7 6 (-1) (-1) (-1) 0 0 []),(Fld.mk 11 0 (-1) (-1) (-1) 0 10 [(Fld.mk 3 0 (-1) (-1) (-1) 0 0 []),(Fld.mk 4 0 (-1) (-1) (-1) 0 0 []),(Fld.mk 3 2 (-1) (-1) (-1) (-1) 0 []),(Fld.mk 8 0 (-1) 0 (-1) 0 0 [])])][2]? = _ from rfl),qjV (d:=6) (Q:=qa4) (show [(Fld.mk 8 0 5 (-1) (-1) 0 0 []),(Fld.mk 7 6 (-1) (-1) (-1) 0 0 []),(Fld.mk 11 0 (-1) (-1) (-1) 0 10 [(Fld.mk 3 0 (-1) (-1) (-1) 0 0 []),(Fld.mk 4 0 (-1) (-1) (-1) 0 0 []),(Fld.mk 3 2 (-1) (-1) (-1) (-1) 0 []),(Fld.mk 8 0 (-1) 0 (-1) 0 0 [])])][2]? = _ from rfl) fun y=>by
     have h:=qig (v:=v) (d:=6) (x1:=0) (x2:=-1) (x5:=0) (x6:=10) (s:=[(Fld.mk 3 0 (-1) (-1) (-1) 0 0 []),(Fld.mk 4 0 (-1) (-1) (-1) 0 0 []),(Fld.mk 3 2 (-1) (-1) (-1) (-1) 0 []),(Fld.mk 8 0 (-1) 0 (-1) 0 0 [])]) (b:=Fld.nul z22 v y) (x:=y)
     unfold qa4
     simp only [h.1,h.2]
     exact ⟨(trivial),(trivial),(trivial),(qih (d:=5) (show [(Fld.mk 3 0 (-1) (-1) (-1) 0 0 []),(Fld.mk 4 0 (-1) (-1) (-1) 0 0 []),(Fld.mk 3 2 (-1) (-1) (-1) (-1) 0 []),(Fld.mk 8 0 (-1) 0 (-1) 0 0 [])][3]? = _ from rfl) (by decide)),(qgy),(trivial)⟩⟩),(qgy),(trivial)⟩⟩),(qgy),(trivial)⟩
set_option maxHeartbeats 4000000 in
theorem qdb (v:Int) (h0:0 ≤ v) (h1:v < 32768) (t:Tree):qaj v (fitT v 8 sTxnOffsetCommitRequestF t) = qbf 8 sTxnOffsetCommitRequestF qag v t:=by
 have ao:=qhd (v:=v) (d:=7) (t:=t) (l:=sTxnOffsetCommitRequestF) (i:=0) (show sTxnOffsetCommitRequestF[0]? = _ from rfl) (by decide)
 have ap:=qhd (v:=v) (d:=7) (t:=t) (l:=sTxnOffsetCommitRequestF) (i:=1) (show sTxnOffsetCommitRequestF[1]? = _ from rfl) (by decide)
 have ar:((fitT v 8 sTxnOffsetCommitRequestF t).at_ 2).N = (t.at_ 2).N:=qiK (d:=7) (show sTxnOffsetCommitRequestF[2]? = _ from rfl) (by decide)
 have au:((fitT v 8 sTxnOffsetCommitRequestF t).at_ 3).N = (t.at_ 3).N:=qiK (d:=7) (show sTxnOffsetCommitRequestF[3]? = _ from rfl) (by decide)
 have av:((fitT v 8 sTxnOffsetCommitRequestF t).at_ 4).N = (t.at_ 4).N:=qiK (d:=7) (show sTxnOffsetCommitRequestF[4]? = _ from rfl) (by decide)
 have aw:=qhd (v:=v) (d:=7) (t:=t) (l:=sTxnOffsetCommitRequestF) (i:=5) (show sTxnOffsetCommitRequestF[5]? = _ from rfl) (by decide)
 have af:=qly (v:=v) (d:=7) (t:=t) (l:=sTxnOffsetCommitRequestF) (i:=6) (show sTxnOffsetCommitRequestF[6]? = _ from rfl) (by decide)
 obtain ⟨f276n,ax⟩:=qif (v:=v) (d:=7) (t:=t) (l:=sTxnOffsetCommitRequestF) (i:=7) (show sTxnOffsetCommitRequestF[7]? = _ from rfl)
 have ag:∀ ae:Tree,(fun ab:Tree=>(if ((if (decide (v ≥ 0)) = true then decide (v ≤ 5) else false)) = true then if (decide (v ≥ 3)) = true then (uv ((ab.at_ 0).S.length + 1) ++ (ab.at_ 0).S) else (be 2 (ab.at_ 0).S.length ++ (ab.at_ 0).S) else []) ++ ((if (decide (v ≥ 6)) = true then (qap (ab.at_ 1).S) else []) ++ (((if (decide (v ≥ 3)) = true then (uv ((lst (ab.at_ 2)).length + 1)) else (be 4 (lst (ab.at_ 2)).length)) ++ ((lst (ab.at_ 2)).flatMap fun aa=>(be 4 ((IntKind.i32.wrap (aa.at_ 0).N))) ++ ((be 8 ((aa.at_ 1).N)) ++ ((if (decide (v ≥ 2)) = true then be 4 ((IntKind.i32.wrap (aa.at_ 2).N)) else []) ++ ((if (decide (v ≥ 3)) = true then (if (aa.at_ 3).null = true then uv 0 else uv ((qby (aa.at_ 3)).length + 1) ++ (qby (aa.at_ 3))) else (if (aa.at_ 3).null = true then be 2 (-1) else be 2 (qby (aa.at_ 3)).length ++ (qby (aa.at_ 3)))) ++ (if (decide (v ≥ 3)) = true then (uv aa.U.length) ++ (qbx aa.U) else [])))))) ++ (if (decide (v ≥ 3)) = true then (uv ab.U.length) ++ (qbx ab.U) else [])))) (qcg (fitT v 7) (Fld.mk 10 0 (-1) (-1) (-1) 0 10 [(Fld.mk 8 0 5 (-1) (-1) 0 0 []),(Fld.mk 7 6 (-1) (-1) (-1) 0 0 []),(Fld.mk 11 0 (-1) (-1) (-1) 0 10 [(Fld.mk 3 0 (-1) (-1) (-1) 0 0 []),(Fld.mk 4 0 (-1) (-1) (-1) 0 0 []),(Fld.mk 3 2 (-1) (-1) (-1) (-1) 0 []),(Fld.mk 8 0 (-1) 0 (-1) 0 0 [])])]) (Fld.nul (Fld.mk 10 0 (-1) (-1) (-1) 0 10 [(Fld.mk 8 0 5 (-1) (-1) 0 0 []),(Fld.mk 7 6 (-1) (-1) (-1) 0 0 []),(Fld.mk 11 0 (-1) (-1) (-1) 0 10 [(Fld.mk 3 0 (-1) (-1) (-1) 0 0 []),(Fld.mk 4 0 (-1) (-1) (-1) 0 0 []),(Fld.mk 3 2 (-1) (-1) (-1) (-1) 0 []),(Fld.mk 8 0 (-1) 0 (-1) 0 0 [])])]) v ae) ae) = qaV 7 [(Fld.mk 8 0 5 (-1) (-1) 0 0 []),(Fld.mk 7 6 (-1) (-1) (-1) 0 0 []),(Fld.mk 11 0 (-1) (-1) (-1) 0 10 [(Fld.mk 3 0 (-1) (-1) (-1) 0 0 []),(Fld.mk 4 0 (-1) (-1) (-1) 0 0 []),(Fld.mk 3 2 (-1) (-1) (-1) (-1) 0 []),(Fld.mk 8 0 (-1) 0 (-1) 0 0 [])])] v (decide (v ≥ 3)) ae:=by
  intro ae
  dsimp only
  obtain ⟨ah,ai⟩:=qig (v:=v) (d:=7) (x1:=0) (x2:=-1) (x5:=0) (x6:=10) (s:=[(Fld.mk 8 0 5 (-1) (-1) 0 0 []),(Fld.mk 7 6 (-1) (-1) (-1) 0 0 []),z3]) (b:=Fld.nul (Fld.mk 10 0 (-1) (-1) (-1) 0 10 [(Fld.mk 8 0 5 (-1) (-1) 0 0 []),(Fld.mk 7 6 (-1) (-1) (-1) 0 0 []),z3]) v ae) (x:=ae)
  simp only [ah,ai]
  have ay:=qhd (v:=v) (d:=6) (t:=ae) (l:=[(Fld.mk 8 0 5 (-1) (-1) 0 0 []),(Fld.mk 7 6 (-1) (-1) (-1) 0 0 []),(Fld.mk 11 0 (-1) (-1) (-1) 0 10 [(Fld.mk 3 0 (-1) (-1) (-1) 0 0 []),(Fld.mk 4 0 (-1) (-1) (-1) 0 0 []),(Fld.mk 3 2 (-1) (-1) (-1) (-1) 0 []),(Fld.mk 8 0 (-1) 0 (-1) 0 0 [])])]) (i:=0) (show [(Fld.mk 8 0 5 (-1) (-1) 0 0 []),(Fld.mk 7 6 (-1) (-1) (-1) 0 0 []),(Fld.mk 11 0 (-1) (-1) (-1) 0 10 [(Fld.mk 3 0 (-1) (-1) (-1) 0 0 []),(Fld.mk 4 0 (-1) (-1) (-1) 0 0 []),(Fld.mk 3 2 (-1) (-1) (-1) (-1) 0 []),(Fld.mk 8 0 (-1) 0 (-1) 0 0 [])])][0]? = _ from rfl) (by decide)
  have az:((fitT v 7 [(Fld.mk 8 0 5 (-1) (-1) 0 0 []),(Fld.mk 7 6 (-1) (-1) (-1) 0 0 []),(Fld.mk 11 0 (-1) (-1) (-1) 0 10 [(Fld.mk 3 0 (-1) (-1) (-1) 0 0 []),(Fld.mk 4 0 (-1) (-1) (-1) 0 0 []),(Fld.mk 3 2 (-1) (-1) (-1) (-1) 0 []),(Fld.mk 8 0 (-1) 0 (-1) 0 0 [])])] ae).at_ 1).S = (ae.at_ 1).S:=qmf (d:=6) (show [(Fld.mk 8 0 5 (-1) (-1) 0 0 []),(Fld.mk 7 6 (-1) (-1) (-1) 0 0 []),(Fld.mk 11 0 (-1) (-1) (-1) 0 10 [(Fld.mk 3 0 (-1) (-1) (-1) 0 0 []),(Fld.mk 4 0 (-1) (-1) (-1) 0 0 []),(Fld.mk 3 2 (-1) (-1) (-1) (-1) 0 []),(Fld.mk 8 0 (-1) 0 (-1) 0 0 [])])][1]? = _ from rfl) (by decide)
  obtain ⟨f282n,aA⟩:=qif (v:=v) (d:=6) (t:=ae) (l:=[(Fld.mk 8 0 5 (-1) (-1) 0 0 []),(Fld.mk 7 6 (-1) (-1) (-1) 0 0 []),(Fld.mk 11 0 (-1) (-1) (-1) 0 10 [(Fld.mk 3 0 (-1) (-1) (-1) 0 0 []),(Fld.mk 4 0 (-1) (-1) (-1) 0 0 []),(Fld.mk 3 2 (-1) (-1) (-1) (-1) 0 []),(Fld.mk 8 0 (-1) 0 (-1) 0 0 [])])]) (i:=2) (show [(Fld.mk 8 0 5 (-1) (-1) 0 0 []),(Fld.mk 7 6 (-1) (-1) (-1) 0 0 []),(Fld.mk 11 0 (-1) (-1) (-1) 0 10 [(Fld.mk 3 0 (-1) (-1) (-1) 0 0 []),(Fld.mk 4 0 (-1) (-1) (-1) 0 0 []),(Fld.mk 3 2 (-1) (-1) (-1) (-1) 0 []),(Fld.mk 8 0 (-1) 0 (-1) 0 0 [])])][2]? = _ from rfl)
  have aj:∀ ac:Tree,(fun aa:Tree=>(be 4 ((IntKind.i32.wrap (aa.at_ 0).N))) ++ ((be 8 ((aa.at_ 1).N)) ++ ((if (decide (v ≥ 2)) = true then be 4 ((IntKind.i32.wrap (aa.at_ 2).N)) else []) ++ ((if (decide (v ≥ 3)) = true then (if (aa.at_ 3).null = true then uv 0 else uv ((qby (aa.at_ 3)).length + 1) ++ (qby (aa.at_ 3))) else (if (aa.at_ 3).null = true then be 2 (-1) else be 2 (qby (aa.at_ 3)).length ++ (qby (aa.at_ 3)))) ++ (if (decide (v ≥ 3)) = true then (uv aa.U.length) ++ (qbx aa.U) else []))))) (qcg (fitT v 6) (Fld.mk 10 0 (-1) (-1) (-1) 0 10 [(Fld.mk 3 0 (-1) (-1) (-1) 0 0 []),(Fld.mk 4 0 (-1) (-1) (-1) 0 0 []),(Fld.mk 3 2 (-1) (-1) (-1) (-1) 0 []),(Fld.mk 8 0 (-1) 0 (-1) 0 0 [])]) (Fld.nul (Fld.mk 10 0 (-1) (-1) (-1) 0 10 [(Fld.mk 3 0 (-1) (-1) (-1) 0 0 []),(Fld.mk 4 0 (-1) (-1) (-1) 0 0 []),(Fld.mk 3 2 (-1) (-1) (-1) (-1) 0 []),(Fld.mk 8 0 (-1) 0 (-1) 0 0 [])]) v ac) ac) = qaV 6 [(Fld.mk 3 0 (-1) (-1) (-1) 0 0 []),(Fld.mk 4 0 (-1) (-1) (-1) 0 0 []),(Fld.mk 3 2 (-1) (-1) (-1) (-1) 0 []),(Fld.mk 8 0 (-1) 0 (-1) 0 0 [])] v (decide (v ≥ 3)) ac:=by
   intro ac
   dsimp only
   obtain ⟨ak,al⟩:=qig (v:=v) (d:=6) (x1:=0) (x2:=-1) (x5:=0) (x6:=10) (s:=[(Fld.mk 3 0 (-1) (-1) (-1) 0 0 []),(Fld.mk 4 0 (-1) (-1) (-1) 0 0 []),(Fld.mk 3 2 (-1) (-1) (-1) (-1) 0 []),(Fld.mk 8 0 (-1) 0 (-1) 0 0 [])]) (b:=Fld.nul z22 v ac) (x:=ac)
   simp only [ak,al]
   have aB:((fitT v 6 [(Fld.mk 3 0 (-1) (-1) (-1) 0 0 []),(Fld.mk 4 0 (-1) (-1) (-1) 0 0 []),(Fld.mk 3 2 (-1) (-1) (-1) (-1) 0 []),(Fld.mk 8 0 (-1) 0 (-1) 0 0 [])] ac).at_ 0).N = (ac.at_ 0).N:=qiK (d:=5) (show [(Fld.mk 3 0 (-1) (-1) (-1) 0 0 []),(Fld.mk 4 0 (-1) (-1) (-1) 0 0 []),(Fld.mk 3 2 (-1) (-1) (-1) (-1) 0 []),(Fld.mk 8 0 (-1) 0 (-1) 0 0 [])][0]? = _ from rfl) (by decide)
   have aC:((fitT v 6 [(Fld.mk 3 0 (-1) (-1) (-1) 0 0 []),(Fld.mk 4 0 (-1) (-1) (-1) 0 0 []),(Fld.mk 3 2 (-1) (-1) (-1) (-1) 0 []),(Fld.mk 8 0 (-1) 0 (-1) 0 0 [])] ac).at_ 1).N = (ac.at_ 1).N:=qiK (d:=5) (show [(Fld.mk 3 0 (-1) (-1) (-1) 0 0 []),(Fld.mk 4 0 (-1) (-1) (-1) 0 0 []),(Fld.mk 3 2 (-1) (-1) (-1) (-1) 0 []),(Fld.mk 8 0 (-1) 0 (-1) 0 0 [])][1]? = _ from rfl) (by decide)
   have aD:((fitT v 6 [(Fld.mk 3 0 (-1) (-1) (-1) 0 0 []),(Fld.mk 4 0 (-1) (-1) (-1) 0 0 []),(Fld.mk 3 2 (-1) (-1) (-1) (-1) 0 []),(Fld.mk 8 0 (-1) 0 (-1) 0 0 [])] ac).at_ 2).N = (ac.at_ 2).N:=qiK (d:=5) (show [(Fld.mk 3 0 (-1) (-1) (-1) 0 0 []),(Fld.mk 4 0 (-1) (-1) (-1) 0 0 []),(Fld.mk 3 2 (-1) (-1) (-1) (-1) 0 []),(Fld.mk 8 0 (-1) 0 (-1) 0 0 [])][2]? = _ from rfl) (by decide)
   have am:=qly (v:=v) (d:=5) (t:=ac) (l:=[(Fld.mk 3 0 (-1) (-1) (-1) 0 0 []),(Fld.mk 4 0 (-1) (-1) (-1) 0 0 []),(Fld.mk 3 2 (-1) (-1) (-1) (-1) 0 []),(Fld.mk 8 0 (-1) 0 (-1) 0 0 [])]) (i:=3) (show [(Fld.mk 3 0 (-1) (-1) (-1) 0 0 []),(Fld.mk 4 0 (-1) (-1) (-1) 0 0 []),(Fld.mk 3 2 (-1) (-1) (-1) (-1) 0 []),(Fld.mk 8 0 (-1) 0 (-1) 0 0 [])][3]? = _ from rfl) (by decide)
   simp only [qkL,qeD,qem,List.flatMap_map,List.length_map,aB,aC,aD,am.1,am.2]
   try simp only [be4_i32',qgm,qfG,qjI,qfn,qdA,qlA,qhJ]
   by_cases c0:v ≤ 5 <;> by_cases c1:v ≥ 2 <;> by_cases c2:v ≥ 3 <;> by_cases c3:v ≥ 6 <;> by_cases n0:Fld.nul (Fld.mk 8 0 (-1) 0 (-1) 0 0 []) v (ac.at_ 3) = true <;> (try have m0:=qlb n0) <;> first | (exfalso; omega) | simp [qaV,qeM,qaK,Fld.tag,Fld.has,qdn,Fld.kind,Fld.null,Fld.of,Fld.sub,qaL,qbB,qaQ,qaB,qat,qao,uv0,qjU,c0,c1,c2,c3,n0,h0]
  simp only [qkL,qeD,qem,List.flatMap_map,List.length_map,ay,az,f282n,aA]
  simp only [aj]
  try simp only [be4_i32',qgm,qfG,qjI,qfn,qdA,qlA,qhJ]
  by_cases c0:v ≤ 5 <;> by_cases c1:v ≥ 2 <;> by_cases c2:v ≥ 3 <;> by_cases c3:v ≥ 6 <;> first | (exfalso; omega) | simp [qaV,qeM,qaK,Fld.tag,Fld.has,qdn,Fld.kind,Fld.null,Fld.of,Fld.sub,qaL,qbB,qaQ,qaB,qat,qao,uv0,qjU,c0,c1,c2,c3,h0]
 unfold qaj
 simp only [qkL,qeD,qem,List.flatMap_map,List.length_map,ao,ap,ar,au,av,aw,af.1,af.2,f276n,ax]
 simp only [ag]
 try simp only [be4_i32',qgm,qfG,qjI,qfn,qdA,qlA,qhJ]
 by_cases c0:v ≤ 5 <;> by_cases c1:v ≥ 2 <;> by_cases c2:v ≥ 3 <;> by_cases c3:v ≥ 6 <;> by_cases n0:Fld.nul (Fld.mk 8 3 (-1) 3 (-1) 0 0 []) v (t.at_ 6) = true <;> (try have m0:=qlb n0) <;> first | (exfalso; omega) | simp [qbf,qag,sTxnOffsetCommitRequestF,qaV,qeM,qaK,Fld.tag,Fld.has,qdn,Fld.kind,Fld.null,Fld.of,Fld.sub,qaL,qbB,qaQ,qaB,qat,qao,uv0,qjU,c0,c1,c2,c3,n0,h0]
def dv0:DV:=.leaf
def qhe (ok:World → (Nat → Nat → Prop) → DV → Prop):Prop:=∀ {w w':World} {F F' M:Nat → Nat → Prop} (d:DV),Step w w' M → (∀ b o,F b o → b < w.heap.size → ¬ M b o) → (∀ b o,F b o → b < w.heap.size → F' b o) → ok w F d → ok w' F' d
section
variable {w w' w0:World} {F F' M:Nat → Nat → Prop} {size:Nat} {cells:DV → List Value} {ok:World → (Nat → Nat → Prop) → DV → Prop} {rel:DV → Tree → Prop} {xs:List Value} {ds:List DV} {ts:List Tree} {A:Option Addr} {c:Nat} {f:Nat → DV} {tb:Tb} {rs rs':List Rw}
end
theorem qj2 {P:Program} {c:Code} {Mid N:Act → World → Prop} {Q:Exit → Act → World → Prop} {a:Act} {w:World} (h1:c.wp P (Exit.then Mid Q) a w) (h2:∀ a' w',Mid a' w' → N a' w'):c.wp P (Exit.then N Q) a w :=
 wp_mono h1 fun e a' w' h=>by
  cases e <;> first | exact h2 a' w' h | exact h
def dvN (n:Int):DV:=.mk n false ByteArray.empty [] none 0 0 none [] (fun _=>.leaf)
def dvS (s:ByteArray):DV:=.mk 0 false s [] none 0 0 none [] (fun _=>.leaf)
def dvT (A:Option Addr) (s:ByteArray):DV:=.mk 0 false s [] A 0 0 none [] (fun _=>.leaf)
def dvO (A:Option Addr) (o:Bs) (c:Nat):DV:=.mk 0 false ByteArray.empty o A 0 c none [] (fun _=>.leaf)
def dvL (A:Option Addr) (l c:Nat) (f:Nat → DV):DV:=.mk 0 false ByteArray.empty [] A l c none [] f
def dvP (m:Option Nat) (u:List (Int × Bs)) (fs:List DV):DV:=.mk 0 false ByteArray.empty [] none 0 0 m u (fun i=>fs.getD i .leaf)
theorem EnvOk.retable {n:Nat} {env:Env} {a:Act} (tb:Tb) (h:EnvOk n [] env a):EnvOk n tb env a:=h.table fun i hi=>absurd hi (Nat.not_lt_zero i)
def cutA (A:Option Addr) (cp j:Nat):Option Addr:=if cp = j then A else A.map (·.add j)
theorem qj3 (s:Bs) (j i:Nat):(s.drop j).getD i 0 = s.getD (j + i) 0:=by
 rw [List.getD_eq_getElem?_getD,List.getD_eq_getElem?_getD,List.getElem?_drop]
theorem Octs.drop {w:World} {F:Nat → Nat → Prop} {A:Option Addr} {c:Nat} {s:Bs} (h:Octs w F A c s) {j:Nat} (hj:j ≤ s.length):Octs w F (cutA A c j) (c - j) (s.drop j):=by
 have hle:=h.le
 have hsm:=h.small
 unfold Octs
 rw [List.length_drop]
 refine ⟨by omega,by omega,fun hA=>?_,fun ad hA hn=>?_⟩
 ·have hn:A = none:=by
   unfold cutA at hA
   split at hA
   ·exact hA
   cases A with
   | none=>rfl
   | some _=>cases hA
  have:=h.none_ hn
  omega
 have hA':A.map (·.add j) = some ad:=by
  unfold cutA at hA
  rwa [if_neg (by omega)] at hA
 cases hq:A with
 | none=>rw [hq] at hA'; cases hA'
 | some ad0 =>
  rw [hq] at hA'
  obtain ⟨b,o,rfl,h2⟩:=h.some_ ad0 hq (by omega)
  simp only [Option.map_some,Option.some.injEq,qbU] at hA'
  subst hA'
  refine ⟨b,o + j,rfl,fun i hi=>?_⟩
  rw [qj3,show o + j + i * 1 = o + (j + i) * 1 by omega]
  exact h2 (j + i) (by omega)
theorem Octs.cutS {w:World} {F:Nat → Nat → Prop} {A:Option Addr} {c:Nat} {s:Bs} (h:Octs w F A c s) {j:Nat} (hj:j ≤ s.length):Octs w F A j (s.take j):=by
 have h1:=h.take j
 refine ⟨by rw [List.length_take]; omega,h1.small,fun hA=>?_,h1.some_⟩
 have:=h.none_ hA
 rw [List.length_take]; omega
section
variable {P:Program} {ops:Array Oper} {Q:Exit → Act → World → Prop} {n:Nat} {tb:Tb} {env:Env} {rs:List Rw} {w0:World} {M:Nat → Nat → Prop} {a:Act} {w:World}
theorem qiP {t e:TypeId} {bytes:Nat} (ht:qcs P t = some (e,1,bytes)) {A:Option Addr} {m cp:Nat} {k:IntKind} {q:Int} (h0:0 ≤ q) (h1:q ≤ m) :
  (Instr.sliceAt t (.slice A m cp) (some (.int k q)) none none).run P w = .ok (.slice (cutA A cp q.toNat) (m - q.toNat) (cp - q.toNat)) w:=by
 obtain ⟨ht',inf,z,hi,hz,hzs,hs1,rfl,hsz,hbp⟩:=qcl ht
 unfold Instr.sliceAt
 simp only [Sem.run_bind,run_underlying ht',Result.andThen_ok]
 unfold Instr.slice
 have hb:(0 ≤ q ∧ q ≤ (m:Int)):=⟨h0,h1⟩
 simp only [Sem.run_bind,run_underlying ht',Result.andThen_ok,Instr.sliceBounds,Instr.sliceBound,asIntOf,Sem.run_pure,if_pos hb,run_sizeOf' hi,hs1,Nat.mul_one]
 rfl
theorem qiQ {t e:TypeId} {bytes:Nat} (ht:qcs P t = some (e,1,bytes)) {A:Option Addr} {m cp:Nat} {k:IntKind} {q:Int} (h0:0 ≤ q) (h1:q ≤ cp) :
  (Instr.sliceAt t (.slice A m cp) none (some (.int k q)) (some (.int k q))).run P w = .ok (.slice A q.toNat q.toNat) w:=by
 obtain ⟨ht',inf,z,hi,hz,hzs,hs1,rfl,hsz,hbp⟩:=qcl ht
 unfold Instr.sliceAt
 simp only [Sem.run_bind,run_underlying ht',Result.andThen_ok]
 unfold Instr.slice
 have hb:(0 ≤ q ∧ q ≤ (cp:Int)):=⟨h0,h1⟩
 have hb2:(0 ≤ q ∧ q ≤ ((q.toNat:Nat):Int)):=⟨h0,by omega⟩
 simp only [Sem.run_bind,run_underlying ht',Result.andThen_ok,Instr.sliceBounds,Instr.sliceBound,asIntOf,Sem.run_pure,if_pos hb,if_pos hb2,run_sizeOf' hi]
 cases A with
 | none=>simp
 | some ad=>simp [Addr.add]
theorem qbz {i d j:Nat} {N:Act → World → Prop} {t e:TypeId} {bytes m cp:Nat} {A:Option Addr} {q:Int} (hE:EnvOk n tb env a) (h:cutE tb env ops n i = some (t,.slice A m cp,some q,none,d)) (ht:qcs P t = some (e,1,bytes)) (hq:q = (j:Int)) (hj:j ≤ m)
  (K:∀ a',EnvOk n tb ((d,.v (.slice (cutA A cp j) (m - j) (cp - j))) :: env) a' → N a' w):wpOp P ops Q i N a w:=by
 have h0:0 ≤ q:=by omega
 have h1:q ≤ m:=by omega
 obtain rfl:j = q.toNat:=by omega
 unfold cutE at h
 split at h
 ·rename_i t' x lo hi d' ho
  have hd:d' < n:=(qbl hE ho).choose_spec.2.2.2.1
  split at h
  ·simp at h
  ·rename_i s l hs
   split at h
   ·rename_i k q' hs2
    simp only [Option.some.injEq,Prod.mk.injEq,true_and] at h
    obtain ⟨rfl,hsv,rfl,rfl⟩:=h
    have e1:=(qaU hE hs).1
    have e2:=(qaU hE hs2).1
    refine qa1 hE ho (v:=.slice (cutA A cp q'.toNat) (m - q'.toNat) (cp - q'.toNat)) (w':=w) (fun o' hop=>?_) (K _ (hE.put hd (.v _) trivial))
    unfold execOp
    rw [hop]
    rw [hsv] at e1
    simp only [SV.val] at e2
    simp only [e1,e2,Option.map_none,Option.map_some,Sem.run_bind,qiP ht h0 h1,Result.andThen_ok,Sem.run_pure]
   cases h
  ·split at h <;> simp at h
  ·split at h <;> simp at h
  cases h
 cases h
def qmk (tb:Tb) (env:Env) (ops:Array Oper) (n i:Nat):Option (TypeId × Value × IntKind × Int × IntKind × Int × Nat) :=
 match opAt env ops n i with
 | some (.slice t x none (some h) (some m),d)=>match opd env x,opd env h,opd env m with
  | some s,some (.v (.int k p)),some (.v (.int k' q))=>some (t,s.val tb,k,p,k',q,d)
  | _,_,_=>none
 | _=>none
theorem qj4 {i d j:Nat} {N:Act → World → Prop} {t e:TypeId} {bytes m cp:Nat} {A:Option Addr} {k:IntKind} {q:Int} (hE:EnvOk n tb env a) (h:qmk tb env ops n i = some (t,.slice A m cp,k,q,k,q,d)) (ht:qcs P t = some (e,1,bytes)) (hq:q = (j:Int)) (hj:j ≤ cp)
  (K:∀ a',EnvOk n tb ((d,.v (.slice A j j)) :: env) a' → N a' w):wpOp P ops Q i N a w:=by
 have h0:0 ≤ q:=by omega
 have h1:q ≤ cp:=by omega
 obtain rfl:j = q.toNat:=by omega
 unfold qmk at h
 split at h
 ·rename_i t' x hh mm d' ho
  have hd:d' < n:=(qbl hE ho).choose_spec.2.2.2.1
  split at h
  ·rename_i s k1 p1 k2 q2 g1 g2 g3
   simp only [Option.some.injEq,Prod.mk.injEq] at h
   obtain ⟨rfl,hsv,rfl,rfl,rfl,rfl,rfl⟩:=h
   have f1:=(qaU hE g1).1
   have f2:=(qaU hE g2).1
   have f3:=(qaU hE g3).1
   rw [hsv] at f1
   simp only [SV.val] at f2 f3
   refine qa1 hE ho (v:=.slice A q2.toNat q2.toNat) (w':=w) (fun o' hop=>?_) (K _ (hE.put hd (.v _) trivial))
   unfold execOp
   rw [hop]
   simp only [f1,f2,f3,Option.map_none,Option.map_some,Sem.run_bind,qiQ ht h0 h1,Result.andThen_ok,Sem.run_pure]
  cases h
 cases h
end
structure RdS (w:World) (F:Nat → Nat → Prop) (A:Option Addr) (n c:Nat) (s:Bs):Prop where
 len:n = s.length
 oct:Octs w F A c s
theorem RdS.move {w w':World} {F F' M:Nat → Nat → Prop} {A:Option Addr} {n c:Nat} {s:Bs} (h:RdS w F A n c s) (hs:Step w w' M) (hM:∀ b o,F b o → b < w.heap.size → ¬ M b o) (hF:∀ b o,F b o → b < w.heap.size → F' b o):RdS w' F' A n c s:=⟨h.len,Octs.move h.oct hs hM hF⟩
theorem RdS.cast {w:World} {F:Nat → Nat → Prop} {A:Option Addr} {n c:Nat} {s t:Bs} (h:RdS w F A n c s) (e:s = t):RdS w F A n c t:=e ▸ h
theorem RdS.drop {w:World} {F:Nat → Nat → Prop} {A:Option Addr} {n c j:Nat} {s t:Bs} (h:RdS w F A n c (s ++ t)) (hj:j = s.length):RdS w F (cutA A c j) (n - j) (c - j) t:=by
 subst hj
 have h1:=h.oct.drop (j:=s.length) (by rw [List.length_append]; omega)
 rw [List.drop_left] at h1
 exact ⟨by rw [h.len,List.length_append]; omega,h1⟩
theorem RdS.front {w:World} {F:Nat → Nat → Prop} {A:Option Addr} {n c j:Nat} {s t:Bs} (h:RdS w F A n c (s ++ t)) (hj:j = s.length):Octs w F A j s:=by
 subst hj
 have h1:=h.oct.cutS (j:=s.length) (by rw [List.length_append]; omega)
 rwa [List.take_left] at h1
def RdM (br:Nat):Nat → Nat → Prop:=fun b o=>b = br ∧ o < 2
def RdPost (w:World) (br:Nat) (F:Nat → Nat → Prop) (rest:Bs) (Q:Value → World → Prop):Ending → World → Prop:=fun e w' =>
 ∃ v A' n' c',e = .returned v ∧ Str w' br [.slice A' n' c',.bool false] ∧ RdS w' F A' n' c' rest ∧ Step w w' (RdM br) ∧ Q v w'
theorem WOk.startStr {w:World} {p:Nat} {cs:List Value} (h:Str w p cs) (hn:Nat.blt 0 cs.length = true:=by kernel_rfl):WOk w (fun b o=>b = p ∧ o < cs.length) w [⟨p,0,cs,true⟩] []:=by
 have hn':0 < cs.length:=by simpa [Nat.blt_eq] using hn
 exact (WOk.start w _).add ⟨p,0,cs,true⟩ (World.lt_of_cell (h.at_ 0 _ (List.getElem?_eq_getElem hn'))) (fun j v hj=>by rw [Nat.zero_add]; exact h.at_ j v hj) (fun _ j hj=>⟨.inr ⟨rfl,by rw [Nat.zero_add]; exact hj⟩,by rw [Nat.zero_add]; exact h.frz j hj⟩) (fun i o hi=>by simp at hi) (fun i r hi=>by simp at hi)
theorem WOk.wrote {w0 w w':World} {M:Nat → Nat → Prop} {tb:Tb} {rs:List Rw} {p:Nat} {cs cs':List Value} (hW:WOk w0 M w tb rs) (i:Nat) (tb':Tb) (hi:tb[i]? = some ⟨p,0,cs,true⟩) (hst:Step w w' (fun b o=>b = p ∧ o < cs.length)) (hs:Str w' p cs') (ht:tb.set i ⟨p,0,cs',true⟩ = tb':=by rfl) (hl:cs'.length = cs.length:=by rfl) :
  WOk w0 M w' tb' rs ∧ Fr w tb rs w' tb' rs ∧ ∀ {G:Nat → Nat → Prop} (b o:Nat),Fp (Imm G w0 w tb rs) w b o → b < w'.heap.size → Imm G w0 w' tb' rs b o:=by
 subst ht
 have key:∀ (j:Nat) (o:Ob),(tb.set i ⟨p,0,cs',true⟩)[j]? = some o → (j = i ∧ o = ⟨p,0,cs',true⟩) ∨ (j ≠ i ∧ tb[j]? = some o):=fun j o hj=>by
  rcases qdP hj with ⟨h1,h2,_⟩ | ⟨h1,h2⟩
  ·exact .inl ⟨h1,h2⟩
  exact .inr ⟨h1,h2⟩
 have far:∀ (j:Nat) (o:Ob),j ≠ i → tb[j]? = some o → ∀ q,q < o.cells.length → ¬ (o.blk = p ∧ o.off + q < cs.length):=fun j o hne hj q hq e=>by
  rcases hW.apart j i o _ hne hj hi (.inr rfl) with h1 | h1 | h1
  ·exact h1 e.1
  ·simp only [Nat.le_zero] at h1; omega
  simp only [Nat.zero_add] at h1; omega
 have act:∀ b o,Act_ (tb.set i ⟨p,0,cs',true⟩) rs b o → Act_ tb rs b o:=fun b o ha=>by
  rcases ha with ⟨j,ob,hj,h1,h2,h3,h4⟩ | ha
  ·rcases key j ob hj with ⟨rfl,rfl⟩ | ⟨_,hj⟩
   ·exact .inl ⟨j,_,hi,rfl,h2,h3,by simpa [hl] using h4⟩
   exact .inl ⟨j,ob,hj,h1,h2,h3,h4⟩
  exact .inr ha
 refine ⟨⟨hW.step.trans hst fun b o hb e=>?_,?_,?_,?_,?_,?_,hW.ownM,?_,hW.rr⟩,⟨fun b o _ hn ha=>hn (act b o ha),hst.mono fun b o _ e=>.inl ⟨i,_,hi,rfl,e.1.symm,Nat.zero_le _,by simpa using e.2⟩⟩,fun b o hf hb=>?_⟩
 rotate_right
 ·rcases hf with hf | hf
  ·exact ⟨hf.1,hb,fun ha=>hf.2.2 (act b o ha)⟩
  exact ⟨.inr (Nat.le_trans hW.step.size hf),hb,fun ha=>by have:=hW.act_live (act b o ha); omega⟩
 ·have h1:=(hW.rw_ i _ hi rfl o e.2).1
  simp only [Nat.zero_add] at h1
  rcases h1 with h1 | h1
  ·have:=e.1; omega
  rw [e.1]; exact h1
 ·intro j o hj q v hv
  rcases key j o hj with ⟨rfl,rfl⟩ | ⟨hne,hj⟩
  ·dsimp only
   rw [Nat.zero_add]
   exact hs.at_ q v hv
  exact hst.cell (far j o hne hj q (List.getElem?_eq_some_iff.1 hv).1) (hW.cells j o hj q v hv)
 ·intro j o hj
  rcases key j o hj with ⟨rfl,rfl⟩ | ⟨_,hj⟩
  ·have h1:=hW.live j _ hi
   exact Nat.lt_of_lt_of_le h1 hst.size
  exact Nat.lt_of_lt_of_le (hW.live j o hj) hst.size
 ·intro j o hj hr q hq
  rcases key j o hj with ⟨rfl,rfl⟩ | ⟨hne,hj⟩
  ·dsimp only at hq ⊢
   refine ⟨(hW.rw_ j _ hi rfl q (by simpa [hl] using hq)).1,?_⟩
   rw [Nat.zero_add]
   exact hs.frz q hq
  obtain ⟨h1,h2⟩:=hW.rw_ j o hj hr q hq
  exact ⟨h1,hst.frozen (far j o hne hj q hq) (hW.cells j o hj q _ (List.getElem?_eq_getElem hq)) h2⟩
 ·intro j k o o' hjk hj hk hw
  rcases key j o hj with ⟨rfl,rfl⟩ | ⟨hne,hj'⟩
  ·rcases key k o' hk with ⟨rfl,rfl⟩ | ⟨hne',hk'⟩
   ·exact absurd rfl hjk
   have:=hW.apart j k _ o' hjk hi hk' (.inl rfl)
   simpa [hl] using this
  rcases key k o' hk with ⟨rfl,rfl⟩ | ⟨hne',hk'⟩
  ·have:=hW.apart j k o _ hjk hj' hi (.inr rfl)
   simpa [hl] using this
  exact hW.apart j k o o' hjk hj' hk' hw
 ·intro j r hj
  refine qd8 (hW.own j r hj) fun g hg=>(hst.keeps g (qbM (hW.own j r hj) hg)).1 fun o e=>?_
  exact hW.rtb j r hj g hg i _ hi e.1.symm
 intro j r hj g hg k o hk
 rcases key k o hk with ⟨rfl,rfl⟩ | ⟨_,hk⟩
 ·have h1:=hW.rtb j r hj g hg k _ hi
  exact h1
 exact hW.rtb j r hj g hg k o hk
theorem WOk.giveUp {G:Nat → Nat → Prop} {w0 w:World} {tb:Tb} {rs:List Rw} {A:Option Addr} {c e:Nat} {s:Bs} (hW:WOk w0 Nil w tb rs) (k:Nat) (rs':List Rw) (hk:rs[k]? = some (brow A c e s)) (hsm:s.length ≤ 1099511627776) (hr:rs.take k = rs':=by rfl):Octs w (Imm G w0 w tb rs') A c s:=by
 subst hr
 refine qcK (hW.own k _ hk) hsm fun g hg o=>?_
 have hb:=qbM (hW.own k _ hk) (r:=brow A c e s) hg
 refine ⟨?_,hb,fun ha=>?_⟩
 ·rcases hW.ownM k _ hk g hg with h2 | h2
  ·exact .inr h2
  exact (h2 0).elim
 rcases ha with ⟨i,ob,h2,_,h3,_⟩ | ⟨i,r,h2,h3⟩
 ·exact hW.rtb k _ hk g hg i ob h2 h3
 rw [List.getElem?_take] at h2
 split at h2
 ·rename_i hlt
  exact hW.rr k i _ r (by omega) hk h2 g hg h3
 cases h2
theorem qgA {G:Nat → Nat → Prop} {w0 w:World} {tb:Tb} {rs:List Rw} {r:Rw} {A:Option Addr} (k:Nat) (hk:rs[k]? = some r) (hA:r.A = A:=by rfl):∀ b o,Imm G w0 w tb rs b o → ¬ Blk A b o:=fun b o h hB=>by
 subst hA
 exact h.2.2 (.inr ⟨k,r,hk,hB⟩)
theorem WOk.strImm {G:Nat → Nat → Prop} {w0 w:World} {tb:Tb} {rs:List Rw} {p:Nat} {cs:List Value} (hW:WOk w0 Nil w tb rs) (i:Nat) (hi:tb[i]? = some ⟨p,0,cs,true⟩):AtF w (Imm G w0 w [] rs) p 0 cs:=fun j v hj=>by
 have h1:=hW.cells i _ hi j v hj
 have hlt:j < cs.length:=(List.getElem?_eq_some_iff.1 hj).1
 refine ⟨⟨?_,hW.live i _ hi,fun ha=>?_⟩,h1⟩
 ·rcases (hW.rw_ i _ hi rfl j hlt).1 with h2 | h2
  ·exact .inr h2
  exact h2.elim
 rcases ha with ⟨k,ob,h2,_⟩ | ⟨k,r,h2,h3⟩
 ·simp at h2
 exact hW.rtb k r h2 p h3 i _ hi rfl
theorem qj5 {G:Nat → Nat → Prop} {w0 w:World} {tb:Tb} {rs:List Rw} {p:Nat} {cs:List Value} (i:Nat) (hi:tb[i]? = some ⟨p,0,cs,true⟩):∀ b o,Imm G w0 w tb rs b o → ¬ (b = p ∧ o < cs.length):=fun b o h e=>by
 obtain ⟨rfl,h2⟩:=e
 exact h.2.2 (.inl ⟨i,_,hi,rfl,rfl,Nat.zero_le _,by simpa using h2⟩)
theorem qd3 {Q:Exit → Act → World → Prop} {a:Act} {w:World} (h:Q .ret a w):Exit.noGoto Q .ret a w:=h
theorem qhM (k:IntKind) (n:Nat) (hn:n = k.bits) (hk:∀ z:Int,0 ≤ z → z < 2 ^ n → k.wrap z = z) (i:Nat) (y x:Int) (h0:0 ≤ y) (h1:y < 2 ^ i) (h2:y < 2 ^ n) (h3:0 ≤ x) (h4:x % 2 ^ i = 0) (h5:x < 2 ^ n) :
  k.wrap (BitVec.ofInt n y ||| BitVec.ofInt n x).toNat = y + x:=by
 subst hn
 exact bits_join_low k k.bits (Nat.le_refl _) hk i y x h0 h1 h2 h3 h4 h5
theorem or16 (i:Nat) (y x:Int) (h0:0 ≤ y) (h1:y < 2 ^ i) (h2:y < 2 ^ 16) (h3:0 ≤ x) (h4:x % 2 ^ i = 0) (h5:x < 2 ^ 16):IntKind.u16.wrap (BitVec.ofInt 16 y ||| BitVec.ofInt 16 x).toNat = y + x :=
 qhM .u16 16 rfl (fun z a b=>by rw [qbV]; omega) i y x h0 h1 h2 h3 h4 h5
theorem or32 (i:Nat) (y x:Int) (h0:0 ≤ y) (h1:y < 2 ^ i) (h2:y < 2 ^ 32) (h3:0 ≤ x) (h4:x % 2 ^ i = 0) (h5:x < 2 ^ 32):IntKind.u32.wrap (BitVec.ofInt 32 y ||| BitVec.ofInt 32 x).toNat = y + x :=
 qhM .u32 32 rfl (fun z a b=>by rw [qaq]; omega) i y x h0 h1 h2 h3 h4 h5
theorem or64 (i:Nat) (y x:Int) (h0:0 ≤ y) (h1:y < 2 ^ i) (h2:y < 2 ^ 64) (h3:0 ≤ x) (h4:x % 2 ^ i = 0) (h5:x < 2 ^ 64):IntKind.u64.wrap (BitVec.ofInt 64 y ||| BitVec.ofInt 64 x).toNat = y + x :=
 qhM .u64 64 rfl (fun z a b=>by rw [qaG]; omega) i y x h0 h1 h2 h3 h4 h5
theorem qdc (n:Nat) (h:n < 256):(IntKind.u8.wrap (BitVec.ofInt 8 ((n:Nat):Int) &&& BitVec.ofInt 8 128).toNat == 0) = decide (n < 128):=by
 have:∀ m:Fin 256,(IntKind.u8.wrap (BitVec.ofInt 8 ((m.val:Nat):Int) &&& BitVec.ofInt 8 128).toNat == 0) = decide (m.val < 128):=by decide +kernel
 exact this ⟨n,h⟩
theorem qcD (n:Nat) (h:n < 256):IntKind.u8.wrap (BitVec.ofInt 8 ((n:Nat):Int) &&& BitVec.ofInt 8 127).toNat = ((n % 128:Nat):Int):=by
 have:∀ m:Fin 256,IntKind.u8.wrap (BitVec.ofInt 8 ((m.val:Nat):Int) &&& BitVec.ofInt 8 127).toNat = ((m.val % 128:Nat):Int):=by decide +kernel
 exact this ⟨n,h⟩
def oc (s:Bs) (i:Nat):Nat:=(s.getD i 0).toNat
theorem qbY (s:Bs) (i:Nat):oc s i < 256:=(s.getD i 0).toNat_lt
theorem qhN (b:UInt8) (s:Bs) (i:Nat):oc (b :: s) (i + 1) = oc s i:=rfl
theorem qlD (b:UInt8) (s:Bs):oc (b :: s) 0 = b.toNat:=rfl
theorem qj6 (x:Int) (s:Bs):((oc (by8 x :: s) 0:Nat):Int) = x % 256:=by rw [qlD,qgI]
def be16 (s:Bs):Int:=((oc s 0:Nat):Int) * 256 + oc s 1
def be32 (s:Bs):Int:=((oc s 0:Nat):Int) * 16777216 + oc s 1 * 65536 + oc s 2 * 256 + oc s 3
def be64 (s:Bs):Int:=((oc s 0:Nat):Int) * 72057594037927936 + oc s 1 * 281474976710656 + oc s 2 * 1099511627776 + oc s 3 * 4294967296 + oc s 4 * 16777216 + oc s 5 * 65536 + oc s 6 * 256 + oc s 7
theorem qlE (x:Int) (s:Bs):be16 (be 2 x ++ s) = IntKind.u16.wrap x:=by
 rw [qbV]
 simp only [be,List.cons_append,List.nil_append,be16,qhN,qj6,Int.reducePow]
 omega
theorem qlF (x:Int) (s:Bs):be32 (be 4 x ++ s) = IntKind.u32.wrap x:=by
 rw [qaq]
 simp only [be,List.cons_append,List.nil_append,be32,qhN,qj6,Int.reducePow]
 omega
theorem qlG (x:Int) (s:Bs):be64 (be 8 x ++ s) = IntKind.u64.wrap x:=by
 rw [qaG]
 simp only [be,List.cons_append,List.nil_append,be64,qhN,qj6,Int.reducePow]
 omega
theorem i16w (x:Int):IntKind.i16.wrap x = (x + 32768) % 65536 - 32768:=by simp [IntKind.wrap,IntKind.signed,IntKind.bits]; omega
theorem i32w (x:Int):IntKind.i32.wrap x = (x + 2147483648) % 4294967296 - 2147483648:=by simp [IntKind.wrap,IntKind.signed,IntKind.bits]; omega
theorem i64w (x:Int):IntKind.i64.wrap x = (x + 9223372036854775808) % 18446744073709551616 - 9223372036854775808:=by simp [IntKind.wrap,IntKind.signed,IntKind.bits]; omega
theorem qlH (x:Int):IntKind.i16.wrap (IntKind.u16.wrap x) = IntKind.i16.wrap x:=by rw [i16w,i16w,qbV]; omega
theorem qlI (x:Int):IntKind.i32.wrap (IntKind.u32.wrap x) = IntKind.i32.wrap x:=by rw [i32w,i32w,qaq]; omega
theorem qlJ (x:Int):IntKind.i64.wrap (IntKind.u64.wrap x) = IntKind.i64.wrap x:=by rw [i64w,i64w,qaG]; omega
theorem ww16 (x:Int):IntKind.i16.wrap (IntKind.i16.wrap x) = IntKind.i16.wrap x:=by rw [i16w,i16w]; omega
theorem ww32 (x:Int):IntKind.i32.wrap (IntKind.i32.wrap x) = IntKind.i32.wrap x:=by rw [i32w,i32w]; omega
theorem qgB {x:Nat} (s:Bs):oc (uv x ++ s) 0 = if x < 128 then x else x % 128 + 128:=by
 by_cases h:x < 128
 ·rw [qca h,if_pos h]
  show (UInt8.ofNat x).toNat = x
  rw [UInt8.toNat_ofNat']; omega
 rw [qdW (by omega),if_neg h]
 show (UInt8.ofNat (x % 128 + 128)).toNat = _
 rw [UInt8.toNat_ofNat']; omega
theorem qet {x:Nat} (h:128 ≤ x) (s:Bs) (i:Nat):oc (uv x ++ s) (i + 1) = oc (uv (x / 128) ++ s) i:=by
 rw [qdW h]; rfl
theorem qml (b0 b1:Nat) (h0:b0 < 256) (h1:b1 < 256):IntKind.u16.wrap (BitVec.ofInt 16 (IntKind.u16.wrap (((b1:Nat):Int))) ||| BitVec.ofInt 16 (IntKind.u16.wrap (IntKind.u16.wrap (((b0:Nat):Int)) * 256))).toNat = ((b0:Nat):Int) * 256 + ((b1:Nat):Int):=by
 have e1:IntKind.u16.wrap (BitVec.ofInt 16 (IntKind.u16.wrap (((b1:Nat):Int))) ||| BitVec.ofInt 16 (IntKind.u16.wrap (IntKind.u16.wrap (((b0:Nat):Int)) * 256))).toNat = ((b1:Nat):Int) + ((b0:Nat):Int) * 256:=by
  rw [or16 8 _ _ (by first | omega | (simp only [qbV]; omega)) (by first | omega | (simp only [qbV]; omega)) (by first | omega | (simp only [qbV]; omega)) (by first | omega | (simp only [qbV]; omega)) (by first | omega | (simp only [qbV]; omega)) (by first | omega | (simp only [qbV]; omega))]; first | omega | (simp only [qbV]; omega)
 rw [e1]
 omega
theorem qmm (b0 b1 b2 b3:Nat) (h0:b0 < 256) (h1:b1 < 256) (h2:b2 < 256) (h3:b3 < 256):IntKind.u32.wrap (BitVec.ofInt 32 (IntKind.u32.wrap (BitVec.ofInt 32 (IntKind.u32.wrap (BitVec.ofInt 32 (IntKind.u32.wrap (((b3:Nat):Int))) ||| BitVec.ofInt 32 (IntKind.u32.wrap (IntKind.u32.wrap (((b2:Nat):Int)) * 256))).toNat) ||| BitVec.ofInt 32 (IntKind.u32.wrap (IntKind.u32.wrap (((b1:Nat):Int)) * 65536))).toNat) ||| BitVec.ofInt 32 (IntKind.u32.wrap (IntKind.u32.wrap (((b0:Nat):Int)) * 16777216))).toNat = ((b0:Nat):Int) * 16777216 + ((b1:Nat):Int) * 65536 + ((b2:Nat):Int) * 256 + ((b3:Nat):Int):=by
 have e1:IntKind.u32.wrap (BitVec.ofInt 32 (IntKind.u32.wrap (((b3:Nat):Int))) ||| BitVec.ofInt 32 (IntKind.u32.wrap (IntKind.u32.wrap (((b2:Nat):Int)) * 256))).toNat = ((b3:Nat):Int) + ((b2:Nat):Int) * 256:=by
  rw [or32 8 _ _ (by first | omega | (simp only [qaq]; omega)) (by first | omega | (simp only [qaq]; omega)) (by first | omega | (simp only [qaq]; omega)) (by first | omega | (simp only [qaq]; omega)) (by first | omega | (simp only [qaq]; omega)) (by first | omega | (simp only [qaq]; omega))]; first | omega | (simp only [qaq]; omega)
 have e2:IntKind.u32.wrap (BitVec.ofInt 32 (((b3:Nat):Int) + ((b2:Nat):Int) * 256) ||| BitVec.ofInt 32 (IntKind.u32.wrap (IntKind.u32.wrap (((b1:Nat):Int)) * 65536))).toNat = ((b3:Nat):Int) + ((b2:Nat):Int) * 256 + ((b1:Nat):Int) * 65536:=by
  rw [or32 16 _ _ (by first | omega | (simp only [qaq]; omega)) (by first | omega | (simp only [qaq]; omega)) (by first | omega | (simp only [qaq]; omega)) (by first | omega | (simp only [qaq]; omega)) (by first | omega | (simp only [qaq]; omega)) (by first | omega | (simp only [qaq]; omega))]; first | omega | (simp only [qaq]; omega)
 have e3:IntKind.u32.wrap (BitVec.ofInt 32 (((b3:Nat):Int) + ((b2:Nat):Int) * 256 + ((b1:Nat):Int) * 65536) ||| BitVec.ofInt 32 (IntKind.u32.wrap (IntKind.u32.wrap (((b0:Nat):Int)) * 16777216))).toNat = ((b3:Nat):Int) + ((b2:Nat):Int) * 256 + ((b1:Nat):Int) * 65536 + ((b0:Nat):Int) * 16777216:=by
  rw [or32 24 _ _ (by first | omega | (simp only [qaq]; omega)) (by first | omega | (simp only [qaq]; omega)) (by first | omega | (simp only [qaq]; omega)) (by first | omega | (simp only [qaq]; omega)) (by first | omega | (simp only [qaq]; omega)) (by first | omega | (simp only [qaq]; omega))]; first | omega | (simp only [qaq]; omega)
 rw [e1,e2,e3]
 omega
theorem qmn (b0 b1 b2 b3 b4 b5 b6 b7:Nat) (h0:b0 < 256) (h1:b1 < 256) (h2:b2 < 256) (h3:b3 < 256) (h4:b4 < 256) (h5:b5 < 256) (h6:b6 < 256) (h7:b7 < 256):IntKind.u64.wrap (BitVec.ofInt 64 (IntKind.u64.wrap (BitVec.ofInt 64 (IntKind.u64.wrap (BitVec.ofInt 64 (IntKind.u64.wrap (BitVec.ofInt 64 (IntKind.u64.wrap (BitVec.ofInt 64 (IntKind.u64.wrap (BitVec.ofInt 64 (IntKind.u64.wrap (BitVec.ofInt 64 (IntKind.u64.wrap (((b7:Nat):Int))) ||| BitVec.ofInt 64 (IntKind.u64.wrap (IntKind.u64.wrap (((b6:Nat):Int)) * 256))).toNat) ||| BitVec.ofInt 64 (IntKind.u64.wrap (IntKind.u64.wrap (((b5:Nat):Int)) * 65536))).toNat) ||| BitVec.ofInt 64 (IntKind.u64.wrap (IntKind.u64.wrap (((b4:Nat):Int)) * 16777216))).toNat) ||| BitVec.ofInt 64 (IntKind.u64.wrap (IntKind.u64.wrap (((b3:Nat):Int)) * 4294967296))).toNat) ||| BitVec.ofInt 64 (IntKind.u64.wrap (IntKind.u64.wrap (((b2:Nat):Int)) * 1099511627776))).toNat) ||| BitVec.ofInt 64 (IntKind.u64.wrap (IntKind.u64.wrap (((b1:Nat):Int)) * 281474976710656))).toNat) ||| BitVec.ofInt 64 (IntKind.u64.wrap (IntKind.u64.wrap (((b0:Nat):Int)) * 72057594037927936))).toNat = ((b0:Nat):Int) * 72057594037927936 + ((b1:Nat):Int) * 281474976710656 + ((b2:Nat):Int) * 1099511627776 + ((b3:Nat):Int) * 4294967296 + ((b4:Nat):Int) * 16777216 + ((b5:Nat):Int) * 65536 + ((b6:Nat):Int) * 256 + ((b7:Nat):Int):=by
 have e1:IntKind.u64.wrap (BitVec.ofInt 64 (IntKind.u64.wrap (((b7:Nat):Int))) ||| BitVec.ofInt 64 (IntKind.u64.wrap (IntKind.u64.wrap (((b6:Nat):Int)) * 256))).toNat = ((b7:Nat):Int) + ((b6:Nat):Int) * 256:=by
  rw [or64 8 _ _ (by first | omega | (simp only [qaG]; omega)) (by first | omega | (simp only [qaG]; omega)) (by first | omega | (simp only [qaG]; omega)) (by first | omega | (simp only [qaG]; omega)) (by first | omega | (simp only [qaG]; omega)) (by first | omega | (simp only [qaG]; omega))]; first | omega | (simp only [qaG]; omega)
 have e2:IntKind.u64.wrap (BitVec.ofInt 64 (((b7:Nat):Int) + ((b6:Nat):Int) * 256) ||| BitVec.ofInt 64 (IntKind.u64.wrap (IntKind.u64.wrap (((b5:Nat):Int)) * 65536))).toNat = ((b7:Nat):Int) + ((b6:Nat):Int) * 256 + ((b5:Nat):Int) * 65536:=by
  rw [or64 16 _ _ (by first | omega | (simp only [qaG]; omega)) (by first | omega | (simp only [qaG]; omega)) (by first | omega | (simp only [qaG]; omega)) (by first | omega | (simp only [qaG]; omega)) (by first | omega | (simp only [qaG]; omega)) (by first | omega | (simp only [qaG]; omega))]; first | omega | (simp only [qaG]; omega)
 have e3:IntKind.u64.wrap (BitVec.ofInt 64 (((b7:Nat):Int) + ((b6:Nat):Int) * 256 + ((b5:Nat):Int) * 65536) ||| BitVec.ofInt 64 (IntKind.u64.wrap (IntKind.u64.wrap (((b4:Nat):Int)) * 16777216))).toNat = ((b7:Nat):Int) + ((b6:Nat):Int) * 256 + ((b5:Nat):Int) * 65536 + ((b4:Nat):Int) * 16777216:=by
  rw [or64 24 _ _ (by first | omega | (simp only [qaG]; omega)) (by first | omega | (simp only [qaG]; omega)) (by first | omega | (simp only [qaG]; omega)) (by first | omega | (simp only [qaG]; omega)) (by first | omega | (simp only [qaG]; omega)) (by first | omega | (simp only [qaG]; omega))]; first | omega | (simp only [qaG]; omega)
 have e4:IntKind.u64.wrap (BitVec.ofInt 64 (((b7:Nat):Int) + ((b6:Nat):Int) * 256 + ((b5:Nat):Int) * 65536 + ((b4:Nat):Int) * 16777216) ||| BitVec.ofInt 64 (IntKind.u64.wrap (IntKind.u64.wrap (((b3:Nat):Int)) * 4294967296))).toNat = ((b7:Nat):Int) + ((b6:Nat):Int) * 256 + ((b5:Nat):Int) * 65536 + ((b4:Nat):Int) * 16777216 + ((b3:Nat):Int) * 4294967296:=by
  rw [or64 32 _ _ (by first | omega | (simp only [qaG]; omega)) (by first | omega | (simp only [qaG]; omega)) (by first | omega | (simp only [qaG]; omega)) (by first | omega | (simp only [qaG]; omega)) (by first | omega | (simp only [qaG]; omega)) (by first | omega | (simp only [qaG]; omega))]; first | omega | (simp only [qaG]; omega)
 have e5:IntKind.u64.wrap (BitVec.ofInt 64 (((b7:Nat):Int) + ((b6:Nat):Int) * 256 + ((b5:Nat):Int) * 65536 + ((b4:Nat):Int) * 16777216 + ((b3:Nat):Int) * 4294967296) ||| BitVec.ofInt 64 (IntKind.u64.wrap (IntKind.u64.wrap (((b2:Nat):Int)) * 1099511627776))).toNat = ((b7:Nat):Int) + ((b6:Nat):Int) * 256 + ((b5:Nat):Int) * 65536 + ((b4:Nat):Int) * 16777216 + ((b3:Nat):Int) * 4294967296 + ((b2:Nat):Int) * 1099511627776:=by
  rw [or64 40 _ _ (by first | omega | (simp only [qaG]; omega)) (by first | omega | (simp only [qaG]; omega)) (by first | omega | (simp only [qaG]; omega)) (by first | omega | (simp only [qaG]; omega)) (by first | omega | (simp only [qaG]; omega)) (by first | omega | (simp only [qaG]; omega))]; first | omega | (simp only [qaG]; omega)
 have e6:IntKind.u64.wrap (BitVec.ofInt 64 (((b7:Nat):Int) + ((b6:Nat):Int) * 256 + ((b5:Nat):Int) * 65536 + ((b4:Nat):Int) * 16777216 + ((b3:Nat):Int) * 4294967296 + ((b2:Nat):Int) * 1099511627776) ||| BitVec.ofInt 64 (IntKind.u64.wrap (IntKind.u64.wrap (((b1:Nat):Int)) * 281474976710656))).toNat = ((b7:Nat):Int) + ((b6:Nat):Int) * 256 + ((b5:Nat):Int) * 65536 + ((b4:Nat):Int) * 16777216 + ((b3:Nat):Int) * 4294967296 + ((b2:Nat):Int) * 1099511627776 + ((b1:Nat):Int) * 281474976710656:=by
  rw [or64 48 _ _ (by first | omega | (simp only [qaG]; omega)) (by first | omega | (simp only [qaG]; omega)) (by first | omega | (simp only [qaG]; omega)) (by first | omega | (simp only [qaG]; omega)) (by first | omega | (simp only [qaG]; omega)) (by first | omega | (simp only [qaG]; omega))]; first | omega | (simp only [qaG]; omega)
 have e7:IntKind.u64.wrap (BitVec.ofInt 64 (((b7:Nat):Int) + ((b6:Nat):Int) * 256 + ((b5:Nat):Int) * 65536 + ((b4:Nat):Int) * 16777216 + ((b3:Nat):Int) * 4294967296 + ((b2:Nat):Int) * 1099511627776 + ((b1:Nat):Int) * 281474976710656) ||| BitVec.ofInt 64 (IntKind.u64.wrap (IntKind.u64.wrap (((b0:Nat):Int)) * 72057594037927936))).toNat = ((b7:Nat):Int) + ((b6:Nat):Int) * 256 + ((b5:Nat):Int) * 65536 + ((b4:Nat):Int) * 16777216 + ((b3:Nat):Int) * 4294967296 + ((b2:Nat):Int) * 1099511627776 + ((b1:Nat):Int) * 281474976710656 + ((b0:Nat):Int) * 72057594037927936:=by
  rw [or64 56 _ _ (by first | omega | (simp only [qaG]; omega)) (by first | omega | (simp only [qaG]; omega)) (by first | omega | (simp only [qaG]; omega)) (by first | omega | (simp only [qaG]; omega)) (by first | omega | (simp only [qaG]; omega)) (by first | omega | (simp only [qaG]; omega))]; first | omega | (simp only [qaG]; omega)
 rw [e1,e2,e3,e4,e5,e6,e7]
 omega
theorem uv_1 (b0:Nat) (h0:b0 < 256):IntKind.u32.wrap (IntKind.u8.wrap (BitVec.ofInt 8 ((b0:Nat):Int) &&& BitVec.ofInt 8 127).toNat) = ((b0 % 128:Nat):Int):=by
 rw [qcD b0 h0,qaq]; omega
theorem uv_2 (b0 b1:Nat) (h0:b0 < 256) (h1:b1 < 256):IntKind.u32.wrap (BitVec.ofInt 32 (IntKind.u32.wrap (IntKind.u8.wrap (BitVec.ofInt 8 ((b0:Nat):Int) &&& BitVec.ofInt 8 127).toNat)) ||| BitVec.ofInt 32 (IntKind.u32.wrap (IntKind.u32.wrap (IntKind.u8.wrap (BitVec.ofInt 8 ((b1:Nat):Int) &&& BitVec.ofInt 8 127).toNat) * 128))).toNat = ((b0 % 128:Nat):Int) + ((b1 % 128:Nat):Int) * 128:=by
 have e1:IntKind.u32.wrap (BitVec.ofInt 32 (IntKind.u32.wrap (IntKind.u8.wrap (BitVec.ofInt 8 ((b0:Nat):Int) &&& BitVec.ofInt 8 127).toNat)) ||| BitVec.ofInt 32 (IntKind.u32.wrap (IntKind.u32.wrap (IntKind.u8.wrap (BitVec.ofInt 8 ((b1:Nat):Int) &&& BitVec.ofInt 8 127).toNat) * 128))).toNat = ((b0 % 128:Nat):Int) + ((b1 % 128:Nat):Int) * 128:=by
  rw [qcD b1 h1,qcD b0 h0]; rw [or32 7 _ _ (by first | omega | (simp only [qaq]; omega)) (by first | omega | (simp only [qaq]; omega)) (by first | omega | (simp only [qaq]; omega)) (by first | omega | (simp only [qaq]; omega)) (by first | omega | (simp only [qaq]; omega)) (by first | omega | (simp only [qaq]; omega))]; first | omega | (simp only [qaq]; omega)
 rw [e1]
theorem uv_3 (b0 b1 b2:Nat) (h0:b0 < 256) (h1:b1 < 256) (h2:b2 < 256):IntKind.u32.wrap (BitVec.ofInt 32 (IntKind.u32.wrap (BitVec.ofInt 32 (IntKind.u32.wrap (IntKind.u8.wrap (BitVec.ofInt 8 ((b0:Nat):Int) &&& BitVec.ofInt 8 127).toNat)) ||| BitVec.ofInt 32 (IntKind.u32.wrap (IntKind.u32.wrap (IntKind.u8.wrap (BitVec.ofInt 8 ((b1:Nat):Int) &&& BitVec.ofInt 8 127).toNat) * 128))).toNat) ||| BitVec.ofInt 32 (IntKind.u32.wrap (IntKind.u32.wrap (IntKind.u8.wrap (BitVec.ofInt 8 ((b2:Nat):Int) &&& BitVec.ofInt 8 127).toNat) * 16384))).toNat = ((b0 % 128:Nat):Int) + ((b1 % 128:Nat):Int) * 128 + ((b2 % 128:Nat):Int) * 16384:=by
 have e1:IntKind.u32.wrap (BitVec.ofInt 32 (IntKind.u32.wrap (IntKind.u8.wrap (BitVec.ofInt 8 ((b0:Nat):Int) &&& BitVec.ofInt 8 127).toNat)) ||| BitVec.ofInt 32 (IntKind.u32.wrap (IntKind.u32.wrap (IntKind.u8.wrap (BitVec.ofInt 8 ((b1:Nat):Int) &&& BitVec.ofInt 8 127).toNat) * 128))).toNat = ((b0 % 128:Nat):Int) + ((b1 % 128:Nat):Int) * 128:=by
  rw [qcD b1 h1,qcD b0 h0]; rw [or32 7 _ _ (by first | omega | (simp only [qaq]; omega)) (by first | omega | (simp only [qaq]; omega)) (by first | omega | (simp only [qaq]; omega)) (by first | omega | (simp only [qaq]; omega)) (by first | omega | (simp only [qaq]; omega)) (by first | omega | (simp only [qaq]; omega))]; first | omega | (simp only [qaq]; omega)
 have e2:IntKind.u32.wrap (BitVec.ofInt 32 (((b0 % 128:Nat):Int) + ((b1 % 128:Nat):Int) * 128) ||| BitVec.ofInt 32 (IntKind.u32.wrap (IntKind.u32.wrap (IntKind.u8.wrap (BitVec.ofInt 8 ((b2:Nat):Int) &&& BitVec.ofInt 8 127).toNat) * 16384))).toNat = ((b0 % 128:Nat):Int) + ((b1 % 128:Nat):Int) * 128 + ((b2 % 128:Nat):Int) * 16384:=by
  rw [qcD b2 h2]; rw [or32 14 _ _ (by first | omega | (simp only [qaq]; omega)) (by first | omega | (simp only [qaq]; omega)) (by first | omega | (simp only [qaq]; omega)) (by first | omega | (simp only [qaq]; omega)) (by first | omega | (simp only [qaq]; omega)) (by first | omega | (simp only [qaq]; omega))]; first | omega | (simp only [qaq]; omega)
 rw [e1,e2]
theorem uv_4 (b0 b1 b2 b3:Nat) (h0:b0 < 256) (h1:b1 < 256) (h2:b2 < 256) (h3:b3 < 256):IntKind.u32.wrap (BitVec.ofInt 32 (IntKind.u32.wrap (BitVec.ofInt 32 (IntKind.u32.wrap (BitVec.ofInt 32 (IntKind.u32.wrap (IntKind.u8.wrap (BitVec.ofInt 8 ((b0:Nat):Int) &&& BitVec.ofInt 8 127).toNat)) ||| BitVec.ofInt 32 (IntKind.u32.wrap (IntKind.u32.wrap (IntKind.u8.wrap (BitVec.ofInt 8 ((b1:Nat):Int) &&& BitVec.ofInt 8 127).toNat) * 128))).toNat) ||| BitVec.ofInt 32 (IntKind.u32.wrap (IntKind.u32.wrap (IntKind.u8.wrap (BitVec.ofInt 8 ((b2:Nat):Int) &&& BitVec.ofInt 8 127).toNat) * 16384))).toNat) ||| BitVec.ofInt 32 (IntKind.u32.wrap (IntKind.u32.wrap (IntKind.u8.wrap (BitVec.ofInt 8 ((b3:Nat):Int) &&& BitVec.ofInt 8 127).toNat) * 2097152))).toNat = ((b0 % 128:Nat):Int) + ((b1 % 128:Nat):Int) * 128 + ((b2 % 128:Nat):Int) * 16384 + ((b3 % 128:Nat):Int) * 2097152:=by
 have e1:IntKind.u32.wrap (BitVec.ofInt 32 (IntKind.u32.wrap (IntKind.u8.wrap (BitVec.ofInt 8 ((b0:Nat):Int) &&& BitVec.ofInt 8 127).toNat)) ||| BitVec.ofInt 32 (IntKind.u32.wrap (IntKind.u32.wrap (IntKind.u8.wrap (BitVec.ofInt 8 ((b1:Nat):Int) &&& BitVec.ofInt 8 127).toNat) * 128))).toNat = ((b0 % 128:Nat):Int) + ((b1 % 128:Nat):Int) * 128:=by
  rw [qcD b1 h1,qcD b0 h0]; rw [or32 7 _ _ (by first | omega | (simp only [qaq]; omega)) (by first | omega | (simp only [qaq]; omega)) (by first | omega | (simp only [qaq]; omega)) (by first | omega | (simp only [qaq]; omega)) (by first | omega | (simp only [qaq]; omega)) (by first | omega | (simp only [qaq]; omega))]; first | omega | (simp only [qaq]; omega)
 have e2:IntKind.u32.wrap (BitVec.ofInt 32 (((b0 % 128:Nat):Int) + ((b1 % 128:Nat):Int) * 128) ||| BitVec.ofInt 32 (IntKind.u32.wrap (IntKind.u32.wrap (IntKind.u8.wrap (BitVec.ofInt 8 ((b2:Nat):Int) &&& BitVec.ofInt 8 127).toNat) * 16384))).toNat = ((b0 % 128:Nat):Int) + ((b1 % 128:Nat):Int) * 128 + ((b2 % 128:Nat):Int) * 16384:=by
  rw [qcD b2 h2]; rw [or32 14 _ _ (by first | omega | (simp only [qaq]; omega)) (by first | omega | (simp only [qaq]; omega)) (by first | omega | (simp only [qaq]; omega)) (by first | omega | (simp only [qaq]; omega)) (by first | omega | (simp only [qaq]; omega)) (by first | omega | (simp only [qaq]; omega))]; first | omega | (simp only [qaq]; omega)
 have e3:IntKind.u32.wrap (BitVec.ofInt 32 (((b0 % 128:Nat):Int) + ((b1 % 128:Nat):Int) * 128 + ((b2 % 128:Nat):Int) * 16384) ||| BitVec.ofInt 32 (IntKind.u32.wrap (IntKind.u32.wrap (IntKind.u8.wrap (BitVec.ofInt 8 ((b3:Nat):Int) &&& BitVec.ofInt 8 127).toNat) * 2097152))).toNat = ((b0 % 128:Nat):Int) + ((b1 % 128:Nat):Int) * 128 + ((b2 % 128:Nat):Int) * 16384 + ((b3 % 128:Nat):Int) * 2097152:=by
  rw [qcD b3 h3]; rw [or32 21 _ _ (by first | omega | (simp only [qaq]; omega)) (by first | omega | (simp only [qaq]; omega)) (by first | omega | (simp only [qaq]; omega)) (by first | omega | (simp only [qaq]; omega)) (by first | omega | (simp only [qaq]; omega)) (by first | omega | (simp only [qaq]; omega))]; first | omega | (simp only [qaq]; omega)
 rw [e1,e2,e3]
theorem uv_5 (b0 b1 b2 b3 b4:Nat) (h0:b0 < 256) (h1:b1 < 256) (h2:b2 < 256) (h3:b3 < 256) (h4:b4 < 16):IntKind.u32.wrap (BitVec.ofInt 32 (IntKind.u32.wrap (BitVec.ofInt 32 (IntKind.u32.wrap (BitVec.ofInt 32 (IntKind.u32.wrap (BitVec.ofInt 32 (IntKind.u32.wrap (IntKind.u8.wrap (BitVec.ofInt 8 ((b0:Nat):Int) &&& BitVec.ofInt 8 127).toNat)) ||| BitVec.ofInt 32 (IntKind.u32.wrap (IntKind.u32.wrap (IntKind.u8.wrap (BitVec.ofInt 8 ((b1:Nat):Int) &&& BitVec.ofInt 8 127).toNat) * 128))).toNat) ||| BitVec.ofInt 32 (IntKind.u32.wrap (IntKind.u32.wrap (IntKind.u8.wrap (BitVec.ofInt 8 ((b2:Nat):Int) &&& BitVec.ofInt 8 127).toNat) * 16384))).toNat) ||| BitVec.ofInt 32 (IntKind.u32.wrap (IntKind.u32.wrap (IntKind.u8.wrap (BitVec.ofInt 8 ((b3:Nat):Int) &&& BitVec.ofInt 8 127).toNat) * 2097152))).toNat) ||| BitVec.ofInt 32 (IntKind.u32.wrap (IntKind.u32.wrap (((b4:Nat):Int)) * 268435456))).toNat = ((b0 % 128:Nat):Int) + ((b1 % 128:Nat):Int) * 128 + ((b2 % 128:Nat):Int) * 16384 + ((b3 % 128:Nat):Int) * 2097152 + ((b4:Nat):Int) * 268435456:=by
 have e1:IntKind.u32.wrap (BitVec.ofInt 32 (IntKind.u32.wrap (IntKind.u8.wrap (BitVec.ofInt 8 ((b0:Nat):Int) &&& BitVec.ofInt 8 127).toNat)) ||| BitVec.ofInt 32 (IntKind.u32.wrap (IntKind.u32.wrap (IntKind.u8.wrap (BitVec.ofInt 8 ((b1:Nat):Int) &&& BitVec.ofInt 8 127).toNat) * 128))).toNat = ((b0 % 128:Nat):Int) + ((b1 % 128:Nat):Int) * 128:=by
  rw [qcD b1 h1,qcD b0 h0]; rw [or32 7 _ _ (by first | omega | (simp only [qaq]; omega)) (by first | omega | (simp only [qaq]; omega)) (by first | omega | (simp only [qaq]; omega)) (by first | omega | (simp only [qaq]; omega)) (by first | omega | (simp only [qaq]; omega)) (by first | omega | (simp only [qaq]; omega))]; first | omega | (simp only [qaq]; omega)
 have e2:IntKind.u32.wrap (BitVec.ofInt 32 (((b0 % 128:Nat):Int) + ((b1 % 128:Nat):Int) * 128) ||| BitVec.ofInt 32 (IntKind.u32.wrap (IntKind.u32.wrap (IntKind.u8.wrap (BitVec.ofInt 8 ((b2:Nat):Int) &&& BitVec.ofInt 8 127).toNat) * 16384))).toNat = ((b0 % 128:Nat):Int) + ((b1 % 128:Nat):Int) * 128 + ((b2 % 128:Nat):Int) * 16384:=by
  rw [qcD b2 h2]; rw [or32 14 _ _ (by first | omega | (simp only [qaq]; omega)) (by first | omega | (simp only [qaq]; omega)) (by first | omega | (simp only [qaq]; omega)) (by first | omega | (simp only [qaq]; omega)) (by first | omega | (simp only [qaq]; omega)) (by first | omega | (simp only [qaq]; omega))]; first | omega | (simp only [qaq]; omega)
 have e3:IntKind.u32.wrap (BitVec.ofInt 32 (((b0 % 128:Nat):Int) + ((b1 % 128:Nat):Int) * 128 + ((b2 % 128:Nat):Int) * 16384) ||| BitVec.ofInt 32 (IntKind.u32.wrap (IntKind.u32.wrap (IntKind.u8.wrap (BitVec.ofInt 8 ((b3:Nat):Int) &&& BitVec.ofInt 8 127).toNat) * 2097152))).toNat = ((b0 % 128:Nat):Int) + ((b1 % 128:Nat):Int) * 128 + ((b2 % 128:Nat):Int) * 16384 + ((b3 % 128:Nat):Int) * 2097152:=by
  rw [qcD b3 h3]; rw [or32 21 _ _ (by first | omega | (simp only [qaq]; omega)) (by first | omega | (simp only [qaq]; omega)) (by first | omega | (simp only [qaq]; omega)) (by first | omega | (simp only [qaq]; omega)) (by first | omega | (simp only [qaq]; omega)) (by first | omega | (simp only [qaq]; omega))]; first | omega | (simp only [qaq]; omega)
 have e4:IntKind.u32.wrap (BitVec.ofInt 32 (((b0 % 128:Nat):Int) + ((b1 % 128:Nat):Int) * 128 + ((b2 % 128:Nat):Int) * 16384 + ((b3 % 128:Nat):Int) * 2097152) ||| BitVec.ofInt 32 (IntKind.u32.wrap (IntKind.u32.wrap (((b4:Nat):Int)) * 268435456))).toNat = ((b0 % 128:Nat):Int) + ((b1 % 128:Nat):Int) * 128 + ((b2 % 128:Nat):Int) * 16384 + ((b3 % 128:Nat):Int) * 2097152 + ((b4:Nat):Int) * 268435456:=by
  rw [or32 28 _ _ (by first | omega | (simp only [qaq]; omega)) (by first | omega | (simp only [qaq]; omega)) (by first | omega | (simp only [qaq]; omega)) (by first | omega | (simp only [qaq]; omega)) (by first | omega | (simp only [qaq]; omega)) (by first | omega | (simp only [qaq]; omega))]; first | omega | (simp only [qaq]; omega)
 rw [e1,e2,e3,e4]
theorem qmE {G:Nat → Nat → Prop} {w0 w:World} {tb:Tb} {rs:List Rw} {p n:Nat} {cs:List Value} (i:Nat) (hi:tb[i]? = some ⟨p,0,cs,true⟩) (hn:cs.length = n:=by rfl):∀ b o,Imm G w0 w tb rs b o → ¬ (b = p ∧ o < n):=by
 subst hn
 exact qj5 i hi
theorem qc7 {G:Nat → Nat → Prop} {w0 w:World} {tb:Tb} {rs:List Rw} {p:Nat} {x y:Value} (i:Nat) (hi:tb[i]? = some ⟨p,0,[x,y],true⟩):∀ b o,Imm G w0 w tb rs b o → ¬ RdM p b o:=qj5 i hi
theorem qgC {G:Nat → Nat → Prop} {w0 w:World} {tb:Tb} {rs:List Rw} {b o:Nat} (h:Imm G w0 w tb rs b o):Imm G w0 w [] rs b o:=by
 refine ⟨h.1,h.2.1,fun ha=>h.2.2 ?_⟩
 rcases ha with ⟨i,ob,hi,_⟩ | ha
 ·simp at hi
 exact .inr ha
theorem WOk.immM {G:Nat → Nat → Prop} {w0 w:World} {M:Nat → Nat → Prop} {tb:Tb} {rs:List Rw} (h:WOk w0 M w tb rs) (hd:∀ b o,G b o → ¬ M b o):∀ b o,G b o → b < w0.heap.size → Imm G w0 w tb rs b o:=by
 refine fun b o hg hb=>⟨.inl hg,Nat.lt_of_lt_of_le hb h.step.size,fun ha=>hd b o hg ?_⟩
 rcases ha with ⟨i,ob,hi,hr,rfl,h1,h2⟩ | ⟨i,r,hi,hr⟩
 ·have:=(h.rw_ i ob hi hr (o - ob.off) (by omega)).1
  rw [show ob.off + (o - ob.off) = o by omega] at this
  rcases this with h3 | h3
  ·omega
  exact h3
 rcases h.ownM i r hi b hr with h3 | h3
 ·omega
 exact h3 o
section
variable {w0 w:World} {M:Nat → Nat → Prop} {tb:Tb} {rs:List Rw}
theorem WOk.layRowM {g c e size n k:Nat} {xs:List Value} (hW:WOk w0 M w tb rs) (hk:rs[k]? = some ⟨some ⟨g,0,none⟩,c,e,size,n,xs⟩) (hl:k + 1 = rs.length) (hm:w0.heap.size ≤ g) (rs':List Rw) (tb':Tb) (hr:rs.take k = rs':=by rfl) (ht:tb ++ [⟨g,0,xs,true⟩] = tb':=by rfl):WOk w0 M w tb' rs' ∧ Fr w tb rs w tb' rs':=by
 subst hr ht
 have ho:=hW.own k _ hk
 have hlive:=qbM ho (g:=g) rfl
 have hfz:∀ j,w.frozen? ⟨g,j,none⟩ = false:=fun j=>by
  rcases ho.2 with ⟨hv,_⟩ | ⟨g',cap,cur,hv,_,hg,_⟩
  ·cases hv
  simp only [Rw.v,Value.slice.injEq,Option.some.injEq,Addr.mk.injEq,and_true] at hv
  obtain ⟨rfl,_⟩:=hv
  unfold World.frozen?
  rw [hg]
  simp
 have hlt:∀ (j:Nat) (r:Rw),(rs.take k)[j]? = some r → j ≠ k ∧ rs[j]? = some r:=fun j r hj=>by
  rw [List.getElem?_take] at hj
  split at hj
  ·exact ⟨by omega,hj⟩
  cases hj
 refine ⟨(hW.rows k).add ⟨g,0,xs,true⟩ hlive (fun j v hj=>?_) (fun _ j _=>⟨.inl hm,by dsimp only; rw [Nat.zero_add]; exact hfz j⟩) (fun i q hi _=>.inl (hW.rtb k _ hk g rfl i q hi)) (fun i r hi he=>?_),⟨fun x y _ hn ha=>hn ?_,Step.refl _ _⟩⟩
 ·have:=ho.cells (g:=g) rfl j v hj
  rw [qbU] at this
  dsimp only
  exact this
 ·obtain ⟨h1,h2⟩:=hlt i r hi
  exact hW.rr k i _ r (fun e=>h1 e.symm) hk h2 g rfl he
 rcases ha with ⟨j,q,hj,h1,h2,h3,h4⟩ | ⟨j,r,hj,h1⟩
 ·by_cases hjt:j < tb.length
  ·rw [List.getElem?_append_left hjt] at hj
   exact .inl ⟨j,q,hj,h1,h2,h3,h4⟩
  rw [List.getElem?_append_right (Nat.not_lt.1 hjt)] at hj
  have hq:q = ⟨g,0,xs,true⟩:=by
   rcases Nat.eq_zero_or_pos (j - tb.length) with h | h
   ·rw [h] at hj; exact (Option.some.inj hj).symm
   rw [List.getElem?_eq_none (by simp only [List.length_cons,List.length_nil]; omega)] at hj; cases hj
  subst hq
  exact .inr ⟨k,_,hk,by rw [← h2]; rfl⟩
 exact .inr ⟨j,r,(hlt j r hj).2,h1⟩
def qcE (z:Value) (j:Nat):List Value:=(Builtin.zeroCells z.cells j).toList
variable {P:Program} {ops:Array Oper} {Q:Exit → Act → World → Prop} {n:Nat} {env:Env} {a:Act}
theorem qeF {w:World} (size len cap:Nat) (A:Option Addr):(Builtin.firstCells size 0 (.slice A len cap)).run P w = .ok #[] w:=by
 cases A with
 | none=>exact run_firstCells_none w size 0 len cap
 | some b=>exact run_firstCells_some w size 0 b len cap [] (by simp) (fun j v h=>by simp at h)
theorem qfc (w:World) (t tn ty e:TypeId) (A0:Option Addr) (i:TypeInfo) (z:Value) (k kn:IntKind) (ht:P.underlying t = some (.slice e)) (htn:P.underlying tn = some (.int kn)) (hi:P.info? e = some i) (hz:i.zero = some z)
  (n:Nat) (h0:0 < n) (hs:0 < i.size) (h63:(n:Int) ≤ 9223372036854775807) (h48:n * i.bytes ≤ 281474976710656) :
  (Builtin.append_ #[t,tn] ty #[.slice A0 0 0,.int k n]).run P w =
   .ok (.slice (some ⟨w.heap.size,0,none⟩) n (grownCap w n 0 e)) (w.drew.alloc (.cells (Builtin.zeroCells z.cells n ++ Builtin.zeroCells z.cells (grownCap w n 0 e - n)) e)):=by
 cases A0 with
 | none=>exact Lib.run_append_nil_zeros w t tn ty e i z k kn ht htn hi hz n h0 hs h63 h48
 | some b =>
  have hn:n ≠ 0:=by omega
  have hw:IntKind.i64.wrap (n:Int) = n:=by rw [IntKind.wrap_i64]; omega
  have h63':¬ (9223372036854775807 < (n:Int)):=by omega
  have h48':¬ (281474976710656 < Builtin.nextslicecap n 0 * i.bytes):=by rw [nextslicecap_zero h0]; omega
  have h48i:¬ (281474976710656 < (n:Int) * (i.bytes:Int)):=by
   rw [← Int.natCast_mul]
   omega
  have hneg:¬ ((n:Int) < 0):=by omega
  have hns:¬ (n * i.size = 0):=Nat.mul_ne_zero hn (by omega)
  simp [Builtin.append_,run_underlying ht,run_underlying htn,sizeOf,typeInfo,zeroValue,hi,hz,asInt,asIntOf,hw,hn,hneg,hns,h63',h48',h48i,Question.forced,qeF,newRow,grownCap]
theorem qhf {i d j:Nat} {A0:Option Addr} {t tn e:TypeId} {size bytes:Nat} {k kn:IntKind} {q:Int} {z:Value} {N:Act → World → Prop} (hW:WOk w0 M w tb rs) (hE:EnvOk n tb env a)
  (h:appE tb env ops n i = some (t,tn,.slice A0 0 0,.int k q,d)) (ht:qcs P t = some (e,size,bytes)) (htn:P.underlying tn = some (.int kn)) (hz:(P.info? e).bind (·.zero) = some z)
  (hq:q = (j:Int)) (hj:0 < j) (hb:j * bytes ≤ 140737488355328)
  (K:∀ b c a' w',b = w.heap.size → w0.heap.size ≤ b → Fr w tb rs w' tb (rs ++ [⟨some ⟨b,0,none⟩,c,e,size,j,qcE z j⟩]) → WOk w0 M w' tb (rs ++ [⟨some ⟨b,0,none⟩,c,e,size,j,qcE z j⟩]) →
   EnvOk n tb ((d,.v (.slice (some ⟨b,0,none⟩) j c)) :: env) a' → N a' w'):wpOp P ops Q i N a w:=by
 subst hq
 obtain ⟨ht',inf,z',hi,hz',hzs,hs1,rfl,hsz,hbp⟩:=qcl ht
 have hzz:z' = z:=by rw [hi] at hz; simpa [hz'] using hz
 subst hzz
 obtain ⟨op,ho,hd,hrun⟩:=qgc (P:=P) (w:=w) hE h
 obtain ⟨o,h1,h2,h3,h4,h5⟩:=qbl hE ho
 have hjm:j ≤ maxLen:=by
  have:=Nat.le_mul_of_pos_right j hbp
  simp only [maxLen]; omega
 have hr:=qfc (P:=P) w t tn o.type e A0 inf z' k kn ht' htn hi hz' j hj (by omega) (by simp only [maxLen] at hjm; omega) (by omega)
 have hge:=grownCap_ge w j 0 e
 have hcm:=grownCap_le_maxLen w j 0 e hjm
 have hst:Step w (w.drew.alloc (.cells (Builtin.zeroCells z'.cells j ++ Builtin.zeroCells z'.cells (grownCap w j 0 e - j)) e)) Nil:=(Step.drew w).trans (Step.alloc _ _) fun _ _ _ h=>h
 have hown:(w.drew.alloc (.cells (Builtin.zeroCells z'.cells j ++ Builtin.zeroCells z'.cells (grownCap w j 0 e - j)) e)).ownsRow w.heap.size e size (.slice (some ⟨w.heap.size,0,none⟩) j (grownCap w j 0 e)) j (qcE z' j):=by
  refine ⟨by unfold qcE; rw [Array.length_toList,size_zeroCells,hzs,hs1],.inr ⟨w.heap.size,grownCap w j 0 e,_,rfl,Nat.le_refl _,qcX w.drew _,hge,hcm,?_,?_⟩⟩
  ·rw [Array.size_append,size_zeroCells,size_zeroCells,hzs,hs1,← Nat.add_mul]
   congr 1
   omega
  unfold qcE
  rw [Array.toList_append]
  exact List.take_left' (by rw [Array.length_toList,size_zeroCells,hzs,hs1])
 simp only [wpOp,h1]
 have:Region.wanted o (yielded ops a.tmps) = true:=by first | exact h2 | simp [Region.wanted,h2]
 rw [this]
 simp only [if_true]
 refine .inl ?_
 unfold Oper.wp
 rw [hrun o _ _ h5 hr,Oper.upon,h3]
 exact K w.heap.size _ _ _ rfl hW.step.size (Fr.fresh tb rs hst ⟨some ⟨w.heap.size,0,none⟩,grownCap w j 0 e,e,size,j,qcE z' j⟩ (Nat.le_refl _) hown) (hW.fresh hst ⟨some ⟨w.heap.size,0,none⟩,grownCap w j 0 e,e,size,j,qcE z' j⟩ (Nat.le_refl _) hown) (hE.put hd (.v _) trivial)
theorem qhO (z:Value) (j:Nat):qcE z (j + 1) = z.cells.toList ++ qcE z j:=by
 refine List.ext_getElem? fun i=>?_
 unfold qcE Builtin.zeroCells
 rw [List.getElem?_append]
 simp only [Array.toList_map,Array.toList_range,List.getElem?_map,Array.length_toList,Array.getElem?_toList]
 by_cases h:i < z.cells.size
 ·have h2:i < (j + 1) * z.cells.size:=Nat.lt_of_lt_of_le h (Nat.le_mul_of_pos_left _ (Nat.succ_pos j))
  rw [if_pos h,List.getElem?_range h2,Option.map_some,Nat.mod_eq_of_lt h,getElem!_pos z.cells i h,Array.getElem?_eq_getElem h]
 rw [if_neg h]
 by_cases h2:i < (j + 1) * z.cells.size
 ·have h3:i - z.cells.size < j * z.cells.size:=by rw [Nat.succ_mul] at h2; omega
  rw [List.getElem?_range h2,List.getElem?_range h3,Option.map_some,Option.map_some,Nat.mod_eq_sub_mod (Nat.not_lt.1 h)]
 have h3:¬ i - z.cells.size < j * z.cells.size:=by rw [Nat.succ_mul] at h2; omega
 rw [List.getElem?_eq_none (by simpa using h2),List.getElem?_eq_none (by simpa using h3)]
end
abbrev qco:=World → (Nat → Nat → Prop) → Prop
structure MvF (P:qco):Prop where
 move:∀ {w w':World} {F F' M:Nat → Nat → Prop},Step w w' M → (∀ b o,F b o → b < w.heap.size → ¬ M b o) → (∀ b o,F b o → b < w.heap.size → F' b o) → P w F → P w' F'
def noF:qco:=fun _ _=>True
def andF (P Q:qco):qco:=fun w F=>P w F ∧ Q w F
def isF (p:Prop):qco:=fun _ _=>p
theorem MvF.no:MvF noF:=⟨fun _ _ _ _=>trivial⟩
theorem MvF.and {P Q:qco} (h:MvF P) (h':MvF Q):MvF (andF P Q):=⟨fun hs hM hF g=>⟨h.move hs hM hF g.1,h'.move hs hM hF g.2⟩⟩
theorem MvF.is (p:Prop):MvF (isF p):=⟨fun _ _ _ g=>g⟩
theorem MvF.mono {P:qco} (h:MvF P) {w:World} {F F':Nat → Nat → Prop} (hF:∀ b o,F b o → b < w.heap.size → F' b o) (g:P w F):P w F':=h.move (Step.refl w Nil) nilM hF g
def qkQ (A:Option Addr) (X:Bs):qco:=fun w F=>∀ ad,A = some ad → ∃ b o,ad = ⟨b,o,none⟩ ∧ AtF w F b o [.string (bs X)]
theorem MvF.text (A:Option Addr) (X:Bs):MvF (qkQ A X):=⟨fun hs hM hF g ad hA=>by
 obtain ⟨b,o,h1,h2⟩:=g ad hA
 exact ⟨b,o,h1,h2.move hs hM hF⟩⟩
def qmo (m:Option Nat) (u:List (Int × Bs)):qco:=fun w F=>MapR w F m u
theorem MvF.tags (m:Option Nat) (u:List (Int × Bs)):MvF (qmo m u):=⟨fun hs hM hF g=>MapR.move g hs hM hF⟩
def atF (b o:Nat) (cs:List Value):qco:=fun w F=>AtF w F b o cs
theorem MvF.at_ (b o:Nat) (cs:List Value):MvF (atF b o cs):=⟨fun hs hM hF g=>AtF.move g hs hM hF⟩
abbrev rdo (br:Nat) (A:Option Addr) (m c:Nat):Ob:=⟨br,0,[.slice A m c,.bool false],true⟩
theorem qlK {br:Nat} {A A':Option Addr} {m c m' c':Nat} {tb:Tb} {rs:List Rw} {b o:Nat} (h:Act_ (rdo br A m c :: tb) rs b o):Act_ (rdo br A' m' c' :: tb) rs b o:=by
 rcases h with ⟨i,ob,hi,h1⟩ | h
 ·cases i with
  | zero =>
   simp only [List.getElem?_cons_zero,Option.some.injEq] at hi
   subst hi
   exact .inl ⟨0,_,rfl,h1⟩
  | succ i=>exact .inl ⟨i + 1,ob,hi,h1⟩
 exact .inr h
theorem qgD {G:Nat → Nat → Prop} {w0 w:World} {br:Nat} {A A':Option Addr} {m c m' c':Nat} {tb:Tb} {rs:List Rw} {b o:Nat} (h:Imm G w0 w (rdo br A m c :: tb) rs b o):Imm G w0 w (rdo br A' m' c' :: tb) rs b o :=
 ⟨h.1,h.2.1,fun ha=>h.2.2 (qlK ha)⟩
theorem EnvOk.rdo {n br:Nat} {A A':Option Addr} {m c m' c':Nat} {tb:Tb} {env:Env} {a:Act} (h:EnvOk n (rdo br A m c :: tb) env a):EnvOk n (rdo br A' m' c' :: tb) env a:=by
 refine h.table fun i hi=>?_
 cases i with
 | zero=>exact ⟨by simp,rfl,rfl⟩
 | succ i=>exact ⟨by simpa using hi,rfl,rfl⟩
structure RS (w0:World) (M F:Nat → Nat → Prop) (n br:Nat) (tb:Tb) (env:Env) (P:qco) (s:Bs) (a:Act) (w:World):Prop where
 mv:MvF P
 ex:∃ A m c,WOk w0 M w (rdo br A m c :: tb) [] ∧ RdS w (Imm F w0 w (rdo br none 0 0 :: tb) []) A m c s
 env_:EnvOk n (rdo br none 0 0 :: tb) env a
 fact:P w (Imm F w0 w (rdo br none 0 0 :: tb) [])
section
variable {Pr:Program} {ops opsA opsB opsC:Array Oper} {Q:Exit → Act → World → Prop} {w0:World} {M F:Nat → Nat → Prop} {n br:Nat} {tb:Tb} {env:Env} {P:qco} {s:Bs} {a:Act} {w:World}
theorem RS.mk' {A:Option Addr} {m c:Nat} (hW:WOk w0 M w (rdo br A m c :: tb) []) (hr:RdS w (Imm F w0 w (rdo br A m c :: tb) []) A m c s) (hE:EnvOk n (rdo br A m c :: tb) env a) (mv:MvF P) (hP:P w (Imm F w0 w (rdo br A m c :: tb) [])):RS w0 M F n br tb env P s a w :=
 ⟨mv,⟨A,m,c,hW,hr.move (Step.refl w Nil) nilM fun b o h _=>qgD h⟩,hE.rdo,mv.mono (fun b o h _=>qgD h) hP⟩
theorem RS.open_ (h:RS w0 M F n br tb env P s a w):∃ A m c,WOk w0 M w (rdo br A m c :: tb) [] ∧ RdS w (Imm F w0 w (rdo br A m c :: tb) []) A m c s ∧ EnvOk n (rdo br A m c :: tb) env a ∧ P w (Imm F w0 w (rdo br A m c :: tb) []):=by
 obtain ⟨A,m,c,hW,hr⟩:=h.ex
 exact ⟨A,m,c,hW,hr.move (Step.refl w Nil) nilM fun b o h _=>qgD h,h.env_.rdo,h.mv.mono (fun b o h _=>qgD h) h.fact⟩
theorem RS.cast {t:Bs} (h:RS w0 M F n br tb env P s a w) (e:s = t):RS w0 M F n br tb env P t a w:=e ▸ h
theorem RS.weak {P':qco} (h:RS w0 M F n br tb env P s a w) (mv:MvF P') (hP:∀ w F,P w F → P' w F):RS w0 M F n br tb env P' s a w:=⟨mv,h.ex,h.env_,hP _ _ h.fact⟩
theorem RS.pk {env':Env} (h:RS w0 M F n br tb env P s a w) (e:ME.pick env (qb6 env') = some env':=by kernel_rfl):RS w0 M F n br tb env' P s a w:=⟨h.mv,h.ex,h.env_.pk e,h.fact⟩
theorem RS.envEq {env':Env} (h:RS w0 M F n br tb env P s a w) (e:env = env'):RS w0 M F n br tb env' P s a w:=e ▸ h
theorem RS.tbEq {tb':Tb} (h:RS w0 M F n br tb env P s a w) (e:tb = tb'):RS w0 M F n br tb' env P s a w:=e ▸ h
theorem RS.recast (h:RS w0 M F n br tb env P s a w) (k:Nat) (x y:SV) (hx:lk env k = some x) (hy:y.val (rdo br none 0 0 :: tb) = x.val (rdo br none 0 0 :: tb)) (ho:y.ok (rdo br none 0 0 :: tb)):RS w0 M F n br tb ((k,y) :: env) P s a w:=⟨h.mv,h.ex,h.env_.recast k x y hx hy ho,h.fact⟩
theorem qc8 {L:List Nat} (idxs rest:List Nat) (env':Env) (h:RS w0 M F n br tb env P s a w) (k:∀ a',RS w0 M F n br tb env' P s a' w → wpOps Pr ops Q rest a' w) (e:∀ A m c,qb3 Pr ops n (rdo br A m c :: tb) idxs (qb6 env') env = some env':=by intro _ _ _; kernel_rfl) (hl:L = idxs ++ rest:=by rfl):wpOps Pr ops Q L a w:=by
 obtain ⟨A,m,c,hW,hr,hE,hP⟩:=h.open_
 exact qaP idxs rest (qb6 env') hW hE (e A m c) hl fun a' hE'=>k a' (RS.mk' hW hr hE' h.mv hP)
theorem qbA {id:Nat} (env':Env) (h:RS w0 M F n br tb env P s a w) (k:∀ a',RS w0 M F n br tb env' P s a' w → Q .normal a' w) (e:∀ A m c,qb3 Pr ops n (rdo br A m c :: tb) (List.range ops.size) (qb6 env') env = some env':=by intro _ _ _; kernel_rfl):(Code.region id ops false).wp Pr Q a w :=
 qas (List.range ops.size) rfl (qc8 (List.range ops.size) [] env' h (fun a' h'=>qaf (k a' h')) e (List.append_nil _).symm)
theorem qmF {id:Nat} {y:Code} (env':Env) (h:RS w0 M F n br tb env P s a w) (k:∀ a',RS w0 M F n br tb env' P s a' w → y.wp Pr Q a' w) (e:∀ A m c,qb3 Pr ops n (rdo br A m c :: tb) (List.range ops.size) (qb6 env') env = some env':=by intro _ _ _; kernel_rfl):(Code.seq (.region id ops false) y).wp Pr Q a w :=
 wp_seq (qbA env' h (fun a' h'=>qab (k a' h')) e)
def qj7 (Pr:Program) (f:FuncId) {τ:Type} (X rest:Bs) (val:τ → Value) (fact:τ → qco):Prop :=
 ∀ {br:Nat} {A:Option Addr} {m c:Nat} {w:World} {F:Nat → Nat → Prop},Str w br [.slice A m c,.bool false] → RdS w F A m c (X ++ rest) → (∀ b o,F b o → ¬ RdM br b o) →
  Calls Pr f #[.pointer (some ⟨br,0,none⟩)] w (RdPost w br (Fp F w) rest fun v w'=>∃ x,v = val x ∧ fact x w' (Fp F w))
def qdd (Pr:Program) (f:FuncId) (X rest:Bs) (v0:Value):Prop :=
 ∀ {br:Nat} {A:Option Addr} {m c:Nat} {w:World} {F:Nat → Nat → Prop},Str w br [.slice A m c,.bool false] → RdS w F A m c (X ++ rest) → (∀ b o,F b o → ¬ RdM br b o) →
  Calls Pr f #[.pointer (some ⟨br,0,none⟩)] w (RdPost w br (Fp F w) rest fun v w'=>v = v0)
theorem RdPost.fp {w:World} {br:Nat} {F:Nat → Nat → Prop} {rest:Bs} {Q Q':Value → World → Prop} {e:Ending} {w':World} (hq:∀ v w',Q v w' → Q' v w') (h:RdPost w br F rest Q e w'):RdPost w br (Fp F w) rest Q' e w':=by
 obtain ⟨v,A',n',c',h1,h2,h3,h4,h5⟩:=h
 exact ⟨v,A',n',c',h1,h2,h3.move (Step.refl _ Nil) nilM fun b o g _=>.inl g,h4,hq _ _ h5⟩
theorem RdPost.q {w:World} {br:Nat} {F:Nat → Nat → Prop} {rest:Bs} {Q Q':Value → World → Prop} {e:Ending} {w':World} (hq:∀ v w',Q v w' → Q' v w') (h:RdPost w br F rest Q e w'):RdPost w br F rest Q' e w':=by
 obtain ⟨v,A',n',c',h1,h2,h3,h4,h5⟩:=h
 exact ⟨v,A',n',c',h1,h2,h3,h4,hq _ _ h5⟩
theorem qgE {i d:Nat} {f:FuncId} {τ:Type} {X rest:Bs} {val:τ → Value} {fact:τ → qco} {N:Act → World → Prop} (h:RS w0 M F n br tb env P (X ++ rest) a w) (hc:qj7 Pr f X rest val fact) (hm:∀ x,MvF (fact x))
  (hf:∀ args w,(callFunc f args).run Pr w = .ok (.enter f args) w) (K:∀ x P' a' w',(∀ w F,P' w F → P w F ∧ fact x w F) → RS w0 M F n br tb ((d,.v (val x)) :: env) P' rest a' w' → N a' w')
  (he:∀ A m c,qdu (rdo br A m c :: tb) env ops n i = some (f,[.pointer (some ⟨br,0,none⟩)],d):=by intro _ _ _; kernel_rfl):wpOp Pr ops Q i N a w:=by
 obtain ⟨A,m,c,hW,hr,hE,hP⟩:=h.open_
 refine qal hE (he A m c) hf (hc (Str.of hW 0 rfl) hr (qc7 0 rfl)) ?_
 rintro e_ w1 ⟨_,A1,n1,c1,rfl,hs,hr1,hst,x,rfl,hx⟩
 refine ⟨_,rfl,fun a1 hE1=>?_⟩
 obtain ⟨hW2,hF2,hL⟩:=hW.wrote 0 (rdo br A1 n1 c1 :: tb) rfl hst hs
 exact K x (andF P (fact x)) a1 w1 (fun _ _ g=>g) (RS.mk' hW2 (hr1.move (Step.refl _ Nil) nilM hL) hE1.rdo (h.mv.and (hm x)) ⟨h.mv.move hF2.step immM hF2.to' hP,(hm x).mono hL hx⟩)
theorem qij {i d:Nat} {f:FuncId} {X rest:Bs} {v0:Value} {N:Act → World → Prop} (h:RS w0 M F n br tb env P (X ++ rest) a w) (hc:qdd Pr f X rest v0)
  (hf:∀ args w,(callFunc f args).run Pr w = .ok (.enter f args) w) (K:∀ a' w',RS w0 M F n br tb ((d,.v v0) :: env) P rest a' w' → N a' w')
  (he:∀ A m c,qdu (rdo br A m c :: tb) env ops n i = some (f,[.pointer (some ⟨br,0,none⟩)],d):=by intro _ _ _; kernel_rfl):wpOp Pr ops Q i N a w:=by
 obtain ⟨A,m,c,hW,hr,hE,hP⟩:=h.open_
 refine qal hE (he A m c) hf (hc (Str.of hW 0 rfl) hr (qc7 0 rfl)) ?_
 rintro e_ w1 ⟨_,A1,n1,c1,rfl,hs,hr1,hst,rfl⟩
 refine ⟨_,rfl,fun a1 hE1=>?_⟩
 obtain ⟨hW2,hF2,hL⟩:=hW.wrote 0 (rdo br A1 n1 c1 :: tb) rfl hst hs
 exact K a1 w1 (RS.mk' hW2 (hr1.move (Step.refl _ Nil) nilM hL) hE1.rdo h.mv (h.mv.move hF2.step immM hF2.to' hP))
theorem qhP {i d:Nat} {f:FuncId} {v0:Value} {N:Act → World → Prop} (h:RS w0 M F n br tb env P s a w) (hc:∀ {br:Nat} {A:Option Addr} {m c:Nat} {w:World},Str w br [.slice A m c,.bool false] → Calls Pr f #[.pointer (some ⟨br,0,none⟩)] w (fun e w'=>e = .returned v0 ∧ w' = w))
  (hf:∀ args w,(callFunc f args).run Pr w = .ok (.enter f args) w) (K:∀ a',RS w0 M F n br tb ((d,.v v0) :: env) P s a' w → N a' w)
  (he:∀ A m c,qdu (rdo br A m c :: tb) env ops n i = some (f,[.pointer (some ⟨br,0,none⟩)],d):=by intro _ _ _; kernel_rfl):wpOp Pr ops Q i N a w:=by
 obtain ⟨A,m,c,hW,hr,hE,hP⟩:=h.open_
 refine qal hE (he A m c) hf (hc (Str.of hW 0 rfl)) ?_
 rintro e_ _ ⟨rfl,rfl⟩
 exact ⟨_,rfl,fun a1 hE1=>K a1 (RS.mk' hW hr hE1 h.mv hP)⟩
theorem qfq {i:Nat} (tb':Tb) (j:Nat) {N:Act → World → Prop} (h:RS w0 M F n br tb env P s a w) (K:∀ w',RS w0 M F n br tb' env P s a w' → N a w')
  (he:∀ A m c,qfW Pr (rdo br A m c :: tb) env ops i = some (j + 1,(obAt tb' j).cells):=by intro _ _ _; kernel_rfl) (ht:Tb.put tb j (obAt tb' j).cells = tb':=by rfl):wpOp Pr ops Q i N a w:=by
 obtain ⟨A,m,c,hW,hr,hE,hP⟩:=h.open_
 refine qaM hW hE (he A m c) fun w1 hF1 hW1 hE1=>K w1 ?_
 have e:Tb.put (rdo br A m c :: tb) (j + 1) (obAt tb' j).cells = rdo br A m c :: tb':=by
  show rdo br A m c :: Tb.put tb j (obAt tb' j).cells = _
  rw [ht]
 rw [e] at hF1 hW1 hE1
 exact RS.mk' hW1 (hr.move hF1.step immM hF1.to') hE1 h.mv (h.mv.move hF1.step immM hF1.to' hP)
theorem qkR {i d:Nat} (cs:List Value) {N:Act → World → Prop} (h:RS w0 M F n br tb env P s a w)
  (K:∀ b a' w',w0.heap.size ≤ b → RS w0 M F n br (tb ++ [⟨b,0,cs,true⟩]) ((d,.p (tb.length + 1) 0) :: env) P s a' w' → N a' w')
  (he:qfv Pr env ops n i = some (d,cs):=by kernel_rfl):wpOp Pr ops Q i N a w:=by
 obtain ⟨A,m,c,hW,hr,hE,hP⟩:=h.open_
 refine qbc hW hE he fun b a1 w1 hb hb0 hF1 hW1 hE1=>K b a1 w1 hb0 ?_
 exact RS.mk' hW1 (hr.move hF1.step immM hF1.to') hE1 h.mv (h.mv.move hF1.step immM hF1.to' hP)
theorem qf8 {k:Nat} (h:Nat.blt 0 k = true):List.range k = [0] ++ (List.range k).drop 1:=by
 cases k with
 | zero=>cases h
 | succ k=>rw [List.range_succ_eq_map]; rfl
theorem qlL {id d:Nat} {f:FuncId} {τ:Type} {X rest:Bs} {val:τ → Value} {fact:τ → qco} (env':τ → Env) (h:RS w0 M F n br tb env P (X ++ rest) a w) (hc:qj7 Pr f X rest val fact) (hm:∀ x,MvF (fact x))
  (hf:∀ args w,(callFunc f args).run Pr w = .ok (.enter f args) w) (K:∀ x P' a' w',(∀ w F,P' w F → P w F ∧ fact x w F) → RS w0 M F n br tb (env' x) P' rest a' w' → Q .normal a' w')
  (he:∀ A m c,qdu (rdo br A m c :: tb) env ops n 0 = some (f,[.pointer (some ⟨br,0,none⟩)],d):=by intro _ _ _; kernel_rfl)
  (e:∀ x A m c,qb3 Pr ops n (rdo br A m c :: tb) ((List.range ops.size).drop 1) (qb6 (env' x)) ((d,.v (val x)) :: env) = some (env' x):=by intro _ _ _ _; kernel_rfl) (hs:Nat.blt 0 ops.size = true:=by kernel_rfl):(Code.region id ops false).wp Pr Q a w:=by
 refine qas _ (qf8 hs) (qam (qgE h hc hm hf (fun x P' a' w' hP hS=>?_) he))
 exact qc8 ((List.range ops.size).drop 1) [] (env' x) hS (fun a2 h2=>qaf (K x P' a2 w' hP h2)) (e x) (List.append_nil _).symm
theorem qeu {id d:Nat} {f:FuncId} {X rest:Bs} {v0:Value} (env':Env) (h:RS w0 M F n br tb env P (X ++ rest) a w) (hc:qdd Pr f X rest v0)
  (hf:∀ args w,(callFunc f args).run Pr w = .ok (.enter f args) w) (K:∀ a' w',RS w0 M F n br tb env' P rest a' w' → Q .normal a' w')
  (he:∀ A m c,qdu (rdo br A m c :: tb) env ops n 0 = some (f,[.pointer (some ⟨br,0,none⟩)],d):=by intro _ _ _; kernel_rfl)
  (e:∀ A m c,qb3 Pr ops n (rdo br A m c :: tb) ((List.range ops.size).drop 1) (qb6 env') ((d,.v v0) :: env) = some env':=by intro _ _ _; kernel_rfl) (hs:Nat.blt 0 ops.size = true:=by kernel_rfl):(Code.region id ops false).wp Pr Q a w:=by
 refine qas _ (qf8 hs) (qam (qij h hc hf (fun a' w' hS=>?_) he))
 exact qc8 ((List.range ops.size).drop 1) [] env' hS (fun a2 h2=>qaf (K a2 w' h2)) e (List.append_nil _).symm
theorem qfM {idA idB idC d1 d2:Nat} {o:Operand} {b:Bool} {f1 f2:FuncId} {X1 X2 rest:Bs} {v0:Value} (envA env':Env) (h:RS w0 M F n br tb env P ((if b = true then X1 else X2) ++ rest) a w)
  (hc1:qdd Pr f1 X1 rest v0) (hf1:∀ args w,(callFunc f1 args).run Pr w = .ok (.enter f1 args) w) (hc2:qdd Pr f2 X2 rest v0) (hf2:∀ args w,(callFunc f2 args).run Pr w = .ok (.enter f2 args) w)
  (K:∀ a' w',RS w0 M F n br tb env' P rest a' w' → Q .normal a' w')
  (eA:∀ A m c,qb3 Pr opsA n (rdo br A m c :: tb) (List.range opsA.size) (qb6 envA) env = some envA:=by intro _ _ _; kernel_rfl) (ho:opd envA o = some (.v (.bool b)):=by kernel_rfl)
  (he1:∀ A m c,qdu (rdo br A m c :: tb) envA opsB n 0 = some (f1,[.pointer (some ⟨br,0,none⟩)],d1):=by intro _ _ _; kernel_rfl) (he2:∀ A m c,qdu (rdo br A m c :: tb) envA opsC n 0 = some (f2,[.pointer (some ⟨br,0,none⟩)],d2):=by intro _ _ _; kernel_rfl)
  (e1:∀ A m c,qb3 Pr opsB n (rdo br A m c :: tb) ((List.range opsB.size).drop 1) (qb6 env') ((d1,.v v0) :: envA) = some env':=by intro _ _ _; kernel_rfl) (e2:∀ A m c,qb3 Pr opsC n (rdo br A m c :: tb) ((List.range opsC.size).drop 1) (qb6 env') ((d2,.v v0) :: envA) = some env':=by intro _ _ _; kernel_rfl)
  (hs1:Nat.blt 0 opsB.size = true:=by kernel_rfl) (hs2:Nat.blt 0 opsC.size = true:=by kernel_rfl):(Code.seq (.region idA opsA false) (.cond o (.region idB opsB false) (.region idC opsC false))).wp Pr Q a w :=
 qmF envA h (fun a1 h1=>qay h1.env_ ho (fun hb=>qeu env' (h1.cast (by rw [if_pos hb])) hc1 hf1 K he1 e1 hs1) (fun hb=>qeu env' (h1.cast (by rw [hb]; rfl)) hc2 hf2 K he2 e2 hs2)) eA
def stoE (P:Program) (ops:Array Oper) (n:Nat) (tb:Tb) (env:Env) (keys:List Nat):Option (Nat × List Value × Env) :=
 match runs P ops n tb (List.range (ops.size - 1)) env with
 | some e=>match qfW P tb e ops (ops.size - 1),pick e keys with
  | some (i,cs),some e'=>some (i,cs,e')
  | _,_=>none
 | none=>none
theorem qcW {id:Nat} (tb':Tb) (j:Nat) (env':Env) (h:RS w0 M F n br tb env P s a w) (K:∀ a' w',RS w0 M F n br tb' env' P s a' w' → Q .normal a' w')
  (he:∀ A m c,stoE Pr ops n (rdo br A m c :: tb) env (qb6 env') = some (j + 1,(obAt tb' j).cells,env'):=by intro _ _ _; kernel_rfl) (ht:Tb.put tb j (obAt tb' j).cells = tb':=by rfl) (hs:Nat.blt 0 ops.size = true:=by kernel_rfl):(Code.region id ops false).wp Pr Q a w:=by
 obtain ⟨A,m,c,hW,hr,hE,hP⟩:=h.open_
 have h1:=he A m c
 unfold stoE at h1
 split at h1
 ·rename_i e he'
  split at h1
  ·rename_i i cs e' g1 g2
   simp only [Option.some.injEq,Prod.mk.injEq] at h1
   obtain ⟨rfl,rfl,rfl⟩:=h1
   have hr0:List.range ops.size = List.range (ops.size - 1) ++ [ops.size - 1]:=by
    have:0 < ops.size:=by simpa [Nat.blt_eq] using hs
    rw [← List.range_succ]; congr 1; omega
   refine qas _ hr0 (qbs hW.cells hE he' fun a1 hE1=>qam (qaM hW hE1 g1 fun w1 hF1 hW1 hE2=>qaf (K a1 w1 ?_)))
   have e:Tb.put (rdo br A m c :: tb) (j + 1) (obAt tb' j).cells = rdo br A m c :: tb':=by
    show rdo br A m c :: Tb.put tb j (obAt tb' j).cells = _
    rw [ht]
   rw [e] at hF1 hW1 hE2
   exact RS.mk' hW1 (hr.move hF1.step immM hF1.to') (hE2.pick g2) h.mv (h.mv.move hF1.step immM hF1.to' hP)
  cases h1
 cases h1
theorem qf9 {A0:Option Addr} {i d j:Nat} {t tn e:TypeId} {size bytes:Nat} {k kn:IntKind} {q:Int} (z:Value) {N:Act → World → Prop} (h:RS w0 M F n br tb env P s a w)
  (K:∀ g c a' w',w0.heap.size ≤ g → j ≤ c → RS w0 M F n br (tb ++ [⟨g,0,qcE z j,true⟩]) ((d,.v (.slice (some ⟨g,0,none⟩) j c)) :: env) P s a' w' → N a' w')
  (hq:q = (j:Int)) (hj:0 < j) (hb:j * bytes ≤ 140737488355328)
  (he:∀ A m c,appE (rdo br A m c :: tb) env ops n i = some (t,tn,.slice A0 0 0,.int k q,d):=by intro _ _ _; kernel_rfl) (ht:qcs Pr t = some (e,size,bytes):=by kernel_rfl) (htn:Pr.underlying tn = some (.int kn):=by kernel_rfl) (hz:(Pr.info? e).bind (·.zero) = some z:=by kernel_rfl):wpOp Pr ops Q i N a w:=by
 obtain ⟨A,m,c,hW,hr,hE,hP⟩:=h.open_
 refine qhf hW hE (he A m c) ht htn hz hq hj hb fun g c1 a1 w1 hg hg0 hF1 hW1 hE1=>?_
 have hP1:=h.mv.move hF1.step immM hF1.to' hP
 have hr1:=hr.move hF1.step immM hF1.to'
 have hcap:j ≤ c1:=by
  obtain ⟨A',c',hv,_,_,h4⟩:=qfm (hW1.own 0 _ rfl)
  simp only [Rw.v,Value.slice.injEq,true_and] at hv
  rw [hv.2]; exact h4
 obtain ⟨hW2,hF2⟩:=hW1.layRowM (k:=0) rfl rfl hg0 [] (rdo br A m c :: (tb ++ [⟨g,0,qcE z j,true⟩])) rfl rfl
 exact K g c1 a1 w1 hg0 hcap (RS.mk' hW2 (hr1.move hF2.step immM hF2.to') (hE1.grow ⟨g,0,qcE z j,true⟩) h.mv (h.mv.move hF2.step immM hF2.to' hP1))
theorem qj8 {i d n':Nat} {f:FuncId} {fn:Func} {c:Code} {vs:List Value} {N:Act → World → Prop} (h:RS w0 M F n br tb env P s a w) (hf:∀ args w,(callFunc f args).run Pr w = .ok (.enter f args) w) (hfn:Pr.funcs[f]? = some fn) (hb:fn.body = some c) (hn:fn.ntmps = n')
  (K:∀ a2,RS w0 M F n' br tb (qdT 0 vs) P s a2 w → c.wp Pr (bodyPost Pr fn (fun e w'=>∃ v,e = .returned v ∧ ∀ a',EnvOk n (rdo br none 0 0 :: tb) ((d,.v v) :: env) a' → N a' w')) a2 w)
  (he:∀ A m c,qdu (rdo br A m c :: tb) env ops n i = some (f,vs,d):=by intro _ _ _; kernel_rfl) (hl:Nat.ble vs.length n' = true:=by kernel_rfl):wpOp Pr ops Q i N a w:=by
 obtain ⟨A,m,c,hW,hr,hE,hP⟩:=h.open_
 exact qa9 h.env_ (he none 0 0) hf hfn hb hn hl fun a2 hE2=>K a2 (RS.mk' hW hr hE2.rdo h.mv hP)
theorem qlM {n' d:Nat} {fn:Func} {tb0:Tb} {env0:Env} {v:Value} {N:Act → World → Prop} (h:RS w0 M F n' br tb env P s a w) (K:∀ a',RS w0 M F n br tb ((d,.v v) :: env0) P s a' w → N a' w) (hp:Pl (rdo br none 0 0 :: tb0) (rdo br none 0 0 :: tb))
  (hr:∀ A m c,resE Pr (rdo br A m c :: tb) env fn.results = some v:=by intro _ _ _; kernel_rfl):bodyPost Pr fn (fun e w'=>∃ v,e = .returned v ∧ ∀ a',EnvOk n (rdo br none 0 0 :: tb0) ((d,.v v) :: env0) a' → N a' w') .ret a w:=by
 obtain ⟨A,m,c,hW,hrd,hE,hP⟩:=h.open_
 exact qaE hE hW.cells (hr A m c) ⟨v,rfl,fun a' hE'=>K a' (RS.mk' hW hrd (hE'.places hp).rdo h.mv hP)⟩
theorem qkS {n' d:Nat} {fn:Func} {tb0:Tb} {env0:Env} {v:Value} {N:Act → World → Prop} (h:RS w0 M F n' br tb env P s a w) (K:∀ a',RS w0 M F n br tb ((d,.v v) :: env0) P s a' w → N a' w) (hp:Pl (rdo br none 0 0 :: tb0) (rdo br none 0 0 :: tb))
  (hr:∀ A m c,resE Pr (rdo br A m c :: tb) env fn.results = some v:=by intro _ _ _; kernel_rfl):bodyPost Pr fn (fun e w'=>∃ v,e = .returned v ∧ ∀ a',EnvOk n (rdo br none 0 0 :: tb0) ((d,.v v) :: env0) a' → N a' w') .normal a w :=
 qlM h K hp hr
end
def qhQ:Env → Env
 | []=>[]
 | (k,.v x) :: r=>(k,.v x) :: qhQ r
 | (k,.p i j) :: r=>(k,.p (match i with | 0=>1 | 1=>0 | i=>i) j) :: qhQ r
theorem qlN {n:Nat} {o1 o2:Ob} {env:Env} {a:Act} (h:EnvOk n [o1,o2] env a):EnvOk n [o2,o1] (qhQ env) a:=by
 have key:∀ (env:Env) (k:Nat) (x:SV),lk (qhQ env) k = some x → ∃ y,lk env k = some y ∧ (y.ok [o1,o2] → x.val [o2,o1] = y.val [o1,o2] ∧ x.ok [o2,o1]):=by
  intro env
  induction env with
  | nil=>intro k x hx; cases hx
  | cons e r ih =>
   obtain ⟨k',sv⟩:=e
   intro k x hx
   cases sv with
   | v y =>
    simp only [qhQ,lk] at hx ⊢
    split at hx
    ·rename_i hb
     simp only [Option.some.injEq] at hx
     subst hx
     exact ⟨_,rfl,fun _=>⟨rfl,trivial⟩⟩
    exact ih k x hx
   | p i j =>
    simp only [qhQ,lk] at hx ⊢
    split at hx
    ·rename_i hb
     simp only [Option.some.injEq] at hx
     subst hx
     refine ⟨_,rfl,fun hok=>?_⟩
     have hok':i < 2:=hok
     match i,hok' with
     | 0,_=>exact ⟨rfl,show 1 < 2 by omega⟩
     | 1,_=>exact ⟨rfl,show 0 < 2 by omega⟩
    exact ih k x hx
 refine ⟨h.defers,h.size,fun k x hx=>?_⟩
 obtain ⟨y,hy,hv⟩:=key env k x hx
 obtain ⟨h1,h2⟩:=h.at_ k y hy
 obtain ⟨h3,h4⟩:=hv h2
 exact ⟨by rw [h3]; exact h1,h4⟩
theorem qde {α:Type} {x y o:α} {i:Nat} (h:[y,x][i]? = some o):[x,y][1 - i]? = some o ∧ i < 2:=by
 match i,h with
 | 0,h=>exact ⟨h,by omega⟩
 | 1,h=>exact ⟨h,by omega⟩
 | i + 2,h=>simp at h
theorem WOk.swap2 {w0 w:World} {M:Nat → Nat → Prop} {o1 o2:Ob} (h:WOk w0 M w [o1,o2] []):WOk w0 M w [o2,o1] [] :=
 ⟨h.step,fun i o hi=>h.cells _ o (qde hi).1,fun i o hi=>h.live _ o (qde hi).1,fun i o hi=>h.rw_ _ o (qde hi).1,fun i j o o' hij hi hj hw=>h.apart _ _ o o' (by have:=(qde hi).2; have:=(qde hj).2; omega) (qde hi).1 (qde hj).1 hw,h.own,h.ownM,fun i r hi=>by simp at hi,h.rr⟩
theorem qkT {o1 o2:Ob} {b o:Nat} (h:Act_ [o2,o1] [] b o):Act_ [o1,o2] [] b o:=by
 rcases h with ⟨i,ob,hi,h1⟩ | ⟨i,r,hi,_⟩
 ·exact .inl ⟨_,ob,(qde hi).1,h1⟩
 simp at hi
theorem RS.start {w0 w:World} {M F:Nat → Nat → Prop} {n br c:Nat} {A:Option Addr} {o1:Ob} {env:Env} {s:Bs} {a:Act} (hW:WOk w0 M w [o1,rdo br A s.length c] []) (hE:EnvOk n [o1,rdo br A s.length c] env a) (ho:Octs w (Imm F w0 w [o1,rdo br A s.length c] []) A c s) (env':Env) (he:pick (qhQ env) (qb6 env') = some env':=by kernel_rfl):RS w0 M F n br [o1] env' noF s a w :=
 RS.mk' hW.swap2 ⟨rfl,ho.move (Step.refl w Nil) nilM fun b o h _=>⟨h.1,h.2.1,fun ha=>h.2.2 (qkT ha)⟩⟩ ((qlN hE).pick he) MvF.no trivial
theorem qeG {α:Type} {l:List α} {x y o:α} {i:Nat} (h:(l ++ [x,y])[i]? = some o):(i < l.length ∧ l[i]? = some o) ∨ (i = l.length ∧ o = x) ∨ (i = l.length + 1 ∧ o = y):=by
 rcases Nat.lt_or_ge i l.length with hl | hl
 ·rw [List.getElem?_append_left hl] at h; exact .inl ⟨hl,h⟩
 rw [List.getElem?_append_right hl] at h
 rcases hk:i - l.length with _ | _ | k
 ·rw [hk] at h; exact .inr (.inl ⟨by omega,(Option.some.inj h).symm⟩)
 ·rw [hk] at h; exact .inr (.inr ⟨by omega,(Option.some.inj h).symm⟩)
 rw [hk] at h; simp at h
theorem qfr {α:Type} {l:List α} {x:α}:(l ++ [x])[l.length]? = some x:=by simp
section
variable {w0 w:World} {M:Nat → Nat → Prop} {tb:Tb} {rs:List Rw}
theorem WOk.splitL {b o o2:Nat} {cs1 cs2:List Value} (hW:WOk w0 M w (tb ++ [⟨b,o,cs1 ++ cs2,true⟩]) rs) (ho:o2 = o + cs1.length) :
  WOk w0 M w (tb ++ [⟨b,o2,cs2,true⟩,⟨b,o,cs1,true⟩]) rs ∧ Fr w (tb ++ [⟨b,o,cs1 ++ cs2,true⟩]) rs w (tb ++ [⟨b,o2,cs2,true⟩,⟨b,o,cs1,true⟩]) rs:=by
 subst ho
 have hi:(tb ++ [(⟨b,o,cs1 ++ cs2,true⟩:Ob)])[tb.length]? = some ⟨b,o,cs1 ++ cs2,true⟩:=qfr
 have old:∀ {j:Nat} {q:Ob},j < tb.length → tb[j]? = some q → (tb ++ [(⟨b,o,cs1 ++ cs2,true⟩:Ob)])[j]? = some q:=fun {j q} hj h=>by rw [List.getElem?_append_left hj]; exact h
 have hlen:(cs1 ++ cs2).length = cs1.length + cs2.length:=List.length_append
 have act:∀ x y,Act_ (tb ++ [⟨b,o + cs1.length,cs2,true⟩,⟨b,o,cs1,true⟩]) rs x y → Act_ (tb ++ [⟨b,o,cs1 ++ cs2,true⟩]) rs x y:=fun x y ha=>by
  rcases ha with ⟨j,q,hj,h1,h2,h3,h4⟩ | ha
  ·rcases qeG hj with ⟨hlt,hj⟩ | ⟨rfl,rfl⟩ | ⟨rfl,rfl⟩
   ·exact .inl ⟨j,q,old hlt hj,h1,h2,h3,h4⟩
   ·exact .inl ⟨_,_,hi,rfl,h2,by dsimp only at h3 ⊢; omega,by dsimp only at h4 ⊢; omega⟩
   exact .inl ⟨_,_,hi,rfl,h2,by dsimp only at h3 ⊢; omega,by dsimp only at h4 ⊢; omega⟩
  exact .inr ha
 refine ⟨⟨hW.step,?_,?_,?_,?_,hW.own,hW.ownM,?_,hW.rr⟩,⟨fun x y _ hn ha=>hn (act x y ha),Step.refl _ _⟩⟩
 ·intro j q hj p v hv
  rcases qeG hj with ⟨hlt,hj⟩ | ⟨rfl,rfl⟩ | ⟨rfl,rfl⟩
  ·exact hW.cells j q (old hlt hj) p v hv
  ·have:=hW.cells _ _ hi (cs1.length + p) v (by dsimp only at hv ⊢; rw [List.getElem?_append_right (by omega),Nat.add_sub_cancel_left]; exact hv)
   dsimp only at this ⊢
   rwa [Nat.add_assoc]
  exact hW.cells _ _ hi p v (by dsimp only at hv ⊢; rw [List.getElem?_append_left (List.getElem?_eq_some_iff.1 hv).1]; exact hv)
 ·intro j q hj
  rcases qeG hj with ⟨hlt,hj⟩ | ⟨rfl,rfl⟩ | ⟨rfl,rfl⟩
  ·exact hW.live j q (old hlt hj)
  ·have:=hW.live _ _ hi; exact this
  have:=hW.live _ _ hi; exact this
 ·intro j q hj hr p hp
  rcases qeG hj with ⟨hlt,hj⟩ | ⟨rfl,rfl⟩ | ⟨rfl,rfl⟩
  ·exact hW.rw_ j q (old hlt hj) hr p hp
  ·have:=hW.rw_ _ _ hi rfl (cs1.length + p) (by dsimp only at hp ⊢; omega)
   dsimp only at this ⊢
   rwa [Nat.add_assoc]
  exact hW.rw_ _ _ hi rfl p (by dsimp only at hp ⊢; omega)
 ·intro j k q q' hjk hj hk hw
  rcases qeG hj with ⟨hlj,hj⟩ | ⟨rfl,rfl⟩ | ⟨rfl,rfl⟩ <;> rcases qeG hk with ⟨hlk,hk⟩ | ⟨rfl,rfl⟩ | ⟨rfl,rfl⟩
  ·exact hW.apart j k q q' hjk (old hlj hj) (old hlk hk) hw
  ·have:=hW.apart j _ q _ (by omega) (old hlj hj) hi (.inr rfl)
   dsimp only at this ⊢; omega
  ·have:=hW.apart j _ q _ (by omega) (old hlj hj) hi (.inr rfl)
   dsimp only at this ⊢; omega
  ·have:=hW.apart _ k _ q' (by omega) hi (old hlk hk) (.inl rfl)
   dsimp only at this ⊢; omega
  ·exact absurd rfl hjk
  ·exact .inr (.inr (Nat.le_refl _))
  ·have:=hW.apart _ k _ q' (by omega) hi (old hlk hk) (.inl rfl)
   dsimp only at this ⊢; omega
  ·exact .inr (.inl (Nat.le_refl _))
  exact absurd rfl hjk
 intro j r hj g hg k q hk
 rcases qeG hk with ⟨hlk,hk⟩ | ⟨rfl,rfl⟩ | ⟨rfl,rfl⟩
 ·exact hW.rtb j r hj g hg k q (old hlk hk)
 ·have:=hW.rtb j r hj g hg _ _ hi; exact this
 have:=hW.rtb j r hj g hg _ _ hi; exact this
theorem WOk.atLast {G:Nat → Nat → Prop} {b o:Nat} {cs:List Value} (hW:WOk w0 M w (tb ++ [⟨b,o,cs,true⟩]) []) (hb:w0.heap.size ≤ b):AtF w (Imm G w0 w tb []) b o cs:=fun j v hj=>by
 have hlt:j < cs.length:=(List.getElem?_eq_some_iff.1 hj).1
 refine ⟨⟨.inr hb,?_,fun ha=>?_⟩,?_⟩
 ·have:=hW.live _ _ qfr; exact this
 ·rcases ha with ⟨i,q,hi,hr,h2,h3,h4⟩ | ⟨i,r,hi,_⟩
  ·have hil:i < tb.length:=(List.getElem?_eq_some_iff.1 hi).1
   have:=hW.apart i _ q _ (by omega) (by rw [List.getElem?_append_left hil]; exact hi) qfr (.inr rfl)
   dsimp only at this; omega
  simp at hi
 have:=hW.cells _ _ qfr j v hj; exact this
end
def qfS (g size:Nat) (cl:DV → List Value) (ok:World → (Nat → Nat → Prop) → DV → Prop) (rel:DV → Tree → Prop) (L:List Tree) (k:Nat):qco:=fun w F=>∃ ds:Nat → DV,∀ i,i < k → (cl (ds i)).length = size ∧ AtF w F g (0 + i * size) (cl (ds i)) ∧ ok w F (ds i) ∧ rel (ds i) (L.getD i .zero)
theorem MvF.done {g size:Nat} {cl:DV → List Value} {ok:World → (Nat → Nat → Prop) → DV → Prop} {rel:DV → Tree → Prop} {L:List Tree} {k:Nat} (mv:qhe ok):MvF (qfS g size cl ok rel L k):=⟨fun hs hM hF h=>by
 obtain ⟨ds,h⟩:=h
 refine ⟨ds,fun i hi=>?_⟩
 obtain ⟨h1,h2,h3,h4⟩:=h i hi
 exact ⟨h1,h2.move hs hM hF,mv _ hs hM hF h3,h4⟩⟩
abbrev qbo (g size:Nat) (z:Value) (l k:Nat):Ob:=⟨g,k * size,qcE z (l - k),true⟩
def lstF (size:Nat) (cl:DV → List Value) (ok:World → (Nat → Nat → Prop) → DV → Prop) (rel:DV → Tree → Prop) (A:Option Addr) (c:Nat) (L:List Tree) (f:Nat → DV):qco:=fun w F=>Slots w F size A c L.length (fun i=>cl (f i)) ∧ (∀ i,i < L.length → ok w F (f i)) ∧ ∀ i,i < L.length → rel (f i) (L.getD i .zero)
theorem MvF.lst {size:Nat} {cl:DV → List Value} {ok:World → (Nat → Nat → Prop) → DV → Prop} {rel:DV → Tree → Prop} {A:Option Addr} {c:Nat} {L:List Tree} {f:Nat → DV} (mv:qhe ok):MvF (lstF size cl ok rel A c L f):=⟨fun hs hM hF h =>
 ⟨h.1.move hs hM hF,fun i hi=>mv _ hs hM hF (h.2.1 i hi),h.2.2⟩⟩
section
variable {Pr:Program} {ops:Array Oper} {Q:Exit → Act → World → Prop} {w0:World} {M F:Nat → Nat → Prop} {n br:Nat} {tb:Tb} {env:Env} {P:qco} {s:Bs} {a:Act} {w:World}
 {g size:Nat} {cl:DV → List Value} {ok:World → (Nat → Nat → Prop) → DV → Prop} {rel:DV → Tree → Prop} {L:List Tree} {z:Value}
theorem RS.pull {ι:Type} {Qf:ι → qco} (h:RS w0 M F n br tb env (andF P (fun w F=>∃ x,Qf x w F)) s a w) (mP:MvF P) (mv:∀ x,MvF (Qf x)):∃ x,RS w0 M F n br tb env (andF P (Qf x)) s a w:=by
 obtain ⟨h1,x,hx⟩:=h.fact
 exact ⟨x,mP.and (mv x),h.ex,h.env_,h1,hx⟩
theorem RS.drop {b o:Nat} {cs:List Value} (h:RS w0 M F n br (tb ++ [⟨b,o,cs,true⟩]) env P s a w) (hb:w0.heap.size ≤ b) (hl:qdK (tb.length + 1) env = true):RS w0 M F n br tb env (andF P (atF b o cs)) s a w:=by
 obtain ⟨A,m,c,hW,hr,hE,hP⟩:=h.open_
 have hW':WOk w0 M w ((rdo br A m c :: tb) ++ [⟨b,o,cs,true⟩]) []:=hW
 have h1:=hW'.cutTb (tb.length + 1)
 have hF:=Fr.cutTb w ((rdo br A m c :: tb) ++ [⟨b,o,cs,true⟩]) [] (tb.length + 1)
 have e:((rdo br A m c :: tb) ++ [(⟨b,o,cs,true⟩:Ob)]).take (tb.length + 1) = rdo br A m c :: tb:=by
  show List.take ((rdo br A m c :: tb).length) _ = _
  exact List.take_left
 have hE1:=hE.cutTb (tb.length + 1) hl
 have e2:(rdo br A m c :: (tb ++ [(⟨b,o,cs,true⟩:Ob)])).take (tb.length + 1) = rdo br A m c :: tb:=e
 rw [e] at h1 hF
 rw [e2] at hE1
 exact RS.mk' h1 (hr.move hF.step immM hF.to') hE1 (h.mv.and (MvF.at_ _ _ _)) ⟨h.mv.move hF.step immM hF.to' hP,hW'.atLast hb⟩
theorem RS.dropT {b o:Nat} {cs:List Value} (h:RS w0 M F n br (tb ++ [⟨b,o,cs,true⟩]) env P s a w) (hb:w0.heap.size ≤ b) (hl:qdK (tb.length + 1) env = true):RS w0 M F n br tb env P s a w :=
 (h.drop hb hl).weak h.mv fun _ _ g=>g.1
theorem RS.next {l k:Nat} (h:RS w0 M F n br (tb ++ [qbo g size z l k]) env P s a w) (hk:k < l) (hz:z.cells.size = size) (hl:qdK (tb.length + 1) env = true):RS w0 M F n br (tb ++ [qbo g size z l (k + 1),⟨g,k * size,z.cells.toList,true⟩]) env P s a w:=by
 obtain ⟨A,m,c,hW,hr,hE,hP⟩:=h.open_
 have e:qcE z (l - k) = z.cells.toList ++ qcE z (l - (k + 1)):=by rw [show l - k = (l - (k + 1)) + 1 by omega,qhO]
 have hW':WOk w0 M w ((rdo br A m c :: tb) ++ [⟨g,k * size,z.cells.toList ++ qcE z (l - (k + 1)),true⟩]) []:=by rw [← e]; exact hW
 obtain ⟨h1,hF⟩:=hW'.splitL (o2:=(k + 1) * size) (by rw [Array.length_toList,hz,Nat.add_mul,Nat.one_mul])
 rw [← e] at hF
 have hE1:=hE.cutTb (tb.length + 1) hl
 have e2:(rdo br A m c :: (tb ++ [qbo g size z l k])).take (tb.length + 1) = rdo br A m c :: tb:=by
  show List.take ((rdo br A m c :: tb).length) ((rdo br A m c :: tb) ++ _) = _
  exact List.take_left
 rw [e2] at hE1
 have hE2:=(hE1.grow (qbo g size z l (k + 1))).grow ⟨g,k * size,z.cells.toList,true⟩
 have e3:((rdo br A m c :: tb) ++ [qbo g size z l (k + 1)]) ++ [(⟨g,k * size,z.cells.toList,true⟩:Ob)] = rdo br A m c :: (tb ++ [qbo g size z l (k + 1),⟨g,k * size,z.cells.toList,true⟩]):=by simp
 rw [e3] at hE2
 exact RS.mk' h1 (hr.move hF.step immM hF.to') hE2 h.mv (h.mv.move hF.step immM hF.to' hP)
theorem RS.thing {k:Nat} {D:DV} {X:qco} (h:RS w0 M F n br (tb ++ [qbo g size z L.length (k + 1),⟨g,k * size,cl D,true⟩]) env X s a w) (hg:w0.heap.size ≤ g) {t:Tree} (ht:L[k]? = some t) (mv:qhe ok) (mP:MvF P) (hcl:(cl D).length = size)
  (hx:∀ w F,X w F → P w F ∧ qfS g size cl ok rel L k w F ∧ ok w F D ∧ rel D t) (hl:qdK (tb.length + 2) env = true):RS w0 M F n br (tb ++ [qbo g size z L.length (k + 1)]) env (andF P (qfS g size cl ok rel L (k + 1))) s a w:=by
 have h':RS w0 M F n br ((tb ++ [qbo g size z L.length (k + 1)]) ++ [⟨g,k * size,cl D,true⟩]) env X s a w:=by
  rw [List.append_assoc]; exact h
 refine (h'.drop hg (by simpa using hl)).weak (mP.and (MvF.done mv)) fun w F hf=>?_
 obtain ⟨hf,hat⟩:=hf
 obtain ⟨h1,⟨ds,h2⟩,h3,h4⟩:=hx w F hf
 refine ⟨h1,fun i=>if i = k then D else ds i,fun i hi=>?_⟩
 by_cases hik:i = k
 ·subst hik
  simp only [if_true]
  exact ⟨hcl,by rw [Nat.zero_add]; exact hat,h3,by rw [List.getD_eq_getElem?_getD,ht]; exact h4⟩
 simp only [if_neg hik]
 exact h2 i (by omega)
theorem RS.listEnd {c:Nat} (h:RS w0 M F n br (tb ++ [qbo g size z L.length L.length]) env (andF P (qfS g size cl ok rel L L.length)) s a w) (hg:w0.heap.size ≤ g) (mv:qhe ok) (mP:MvF P) (hc:L.length ≤ c) (hsm:L.length ≤ 1099511627776) (h0:0 < L.length)
  (hl:qdK (tb.length + 1) env = true):∃ f:Nat → DV,RS w0 M F n br tb env (andF P (lstF size cl ok rel (some ⟨g,0,none⟩) c L f)) s a w:=by
 have mE:MvF (fun w F=>∃ f:Nat → DV,lstF size cl ok rel (some ⟨g,0,none⟩) c L f w F):=⟨fun hs hM hF hx=>by
  obtain ⟨f,hx⟩:=hx
  exact ⟨f,(MvF.lst mv).move hs hM hF hx⟩⟩
 refine RS.pull (Qf:=fun f=>lstF size cl ok rel (some ⟨g,0,none⟩) c L f) ((h.drop hg hl).weak (mP.and mE) fun w F hf=>?_) mP fun f=>MvF.lst mv
 obtain ⟨⟨h1,ds,h2⟩,_⟩:=hf
 refine ⟨h1,ds,⟨hc,hsm,fun h=>by (cases h),fun ad hA _=>?_⟩,fun i hi=>(h2 i hi).2.2.1,fun i hi=>(h2 i hi).2.2.2⟩
 obtain rfl:=Option.some.inj hA
 exact ⟨g,0,rfl,fun i hi=>⟨(h2 i hi).1,(h2 i hi).2.1⟩⟩
theorem qj9 {c:Code} (gf:Tree → Bs) (rest:Bs) (envk:Nat → Env) (h:RS w0 M F n br (tb ++ [⟨g,0,qcE z L.length,true⟩]) (envk 0) P (L.flatMap gf ++ rest) a w) (mv:qhe ok)
  (body:∀ k t a w,L[k]? = some t → k < L.length → RS w0 M F n br (tb ++ [qbo g size z L.length k]) (envk k) (andF P (qfS g size cl ok rel L k)) (gf t ++ ((L.drop (k + 1)).flatMap gf ++ rest)) a w →
   c.wp Pr (Exit.then (fun a' w'=>RS w0 M F n br (tb ++ [qbo g size z L.length (k + 1)]) (envk (k + 1)) (andF P (qfS g size cl ok rel L (k + 1))) ((L.drop (k + 1)).flatMap gf ++ rest) a' w') Q) a w)
  (fin:∀ a w,RS w0 M F n br (tb ++ [qbo g size z L.length L.length]) (envk L.length) (andF P (qfS g size cl ok rel L L.length)) rest a w → c.wp Pr (Exit.then (fun _ _=>False) Q) a w):(Code.loop c).wp Pr Q a w:=by
 refine wp_loop_ghost (fun q a_ w_=>∃ k,q = L.length - k ∧ k ≤ L.length ∧ RS w0 M F n br (tb ++ [qbo g size z L.length k]) (envk k) (andF P (qfS g size cl ok rel L k)) ((L.drop k).flatMap gf ++ rest) a_ w_) L.length
  ⟨0,by omega,Nat.zero_le _,?_⟩ ?_
 ·have e:qbo g size z L.length 0 = ⟨g,0,qcE z L.length,true⟩:=by simp only [qbo,Nat.zero_mul,Nat.sub_zero]
  rw [e,List.drop_zero]
  exact h.weak (h.mv.and (MvF.done mv)) fun w F hP=>⟨hP,fun _=>dv0,fun i hi=>absurd hi (Nat.not_lt_zero i)⟩
 rintro q aq wq ⟨k,rfl,hk,hS⟩
 rcases Nat.lt_or_ge k L.length with hlt | hge
 ·obtain ⟨t,ht⟩:∃ t,L[k]? = some t:=⟨_,List.getElem?_eq_getElem hlt⟩
  have e:(L.drop k).flatMap gf ++ rest = gf t ++ ((L.drop (k + 1)).flatMap gf ++ rest):=by
   rw [qcv ht,List.flatMap_cons,List.append_assoc]
  refine wp_mono (body k t aq wq ht hlt (hS.cast e)) fun e a' w' hq=>?_
  cases e <;> first | exact hq | exact ⟨L.length - (k + 1),by omega,k + 1,rfl,hlt,hq⟩
 obtain rfl:k = L.length:=by omega
 rw [List.drop_length] at hS
 refine wp_mono (fin aq wq hS) fun e a' w' hq=>?_
 cases e <;> first | exact hq | exact hq.elim
theorem qik {c:Code} (h:c.wp Pr (Exit.then (fun _ _=>False) Q) a w):(Code.loop c).wp Pr Q a w:=by
 refine wp_loop_ghost (fun _ a_ w_=>a_ = a ∧ w_ = w) 0 ⟨rfl,rfl⟩ ?_
 rintro q _ _ ⟨rfl,rfl⟩
 refine wp_mono h fun e a' w' hq=>?_
 cases e <;> first | exact hq | exact hq.elim
theorem qil {x y z:Code} {Mid:Act → World → Prop} (h1:x.wp Pr (Exit.then (fun a w=>y.wp Pr (Exit.then Mid Q) a w) Q) a w) (h2:∀ a' w',Mid a' w' → z.wp Pr Q a' w'):(Code.seq x (.seq y z)).wp Pr Q a w :=
 wp_seq (qj2 h1 fun a' w' hy=>wp_seq (qj2 hy h2))
end
end Go.Proofs.YtogokkkdfcgncaaGreatDoor.ME