/- The texts of a claim, put together: the engine, the contracts, the law. Own work. -/
import Derived.Test.YtajibgahdkllkaaDoorRWu2P1
namespace Go.Proofs.YtajibgahdkllkaaDoorR.ME
open Go
open Go.RowKit
set_option linter.unusedVariables false
set_option linter.unusedSimpArgs false
set_option maxRecDepth 20000
theorem qhz (W:Fld → Tree → Bs) (A:Option Addr) (c:Nat) (l:List Fld) (v:Int) (flex:Bool) (ct:List Value) (t:Tree) (w:World) (F:Nat → Nat → Prop) (hW_:∀ cf f ct t w F,f ∈ l → FldR w F cf f → TreeR w F ct t → (W f t).length ≤ 1099511627776 → Calls Tryd.prog 82 #[.agg cf.toArray,.int .i64 v,.bool flex,.agg ct.toArray] w (qcl w 5 (W f t))) (hl:FldsR w F A c l) (ht:TreeR w F ct t) (hroom:(qdR W l v flex t).length ≤ 1099511627776) :
  Calls Tryd.prog 57 #[.slice A l.length c,.int .i64 v,.bool flex,.agg ct.toArray] w (qcl w 5 (qdR W l v flex t)):=by
 obtain ⟨xfs,h1,h2⟩:=hl.ex
 have hsm:=h1.small
 obtain ⟨n1,s2,b3,l4,u5,A6,c7,A8,c9,aV,aW,lX,rfl,rfl,lY,lZ,o6,l5⟩:=ht.open_
 have k9:=lY.small
 have la:=lZ.small
 have hkr:=qdo l
 refine enter (n:=132) Tryd.func57 rfl Tryd.ntmps57 kz fun a hE=>?_
 have hW:=WOk.start w Nil
 refine qad [0,1] kz ?_
 refine qal (qa5 hW hE (d:=7) (cs:=[.int .i64 n1,.slice A6 s2.length c7,.bool b3,.slice A8 l4.length c9,.slice aV u5.length aW]) kz fun cH o7 o9 l6 l7 l9 cz jX=>?_)
 refine qaj [1] [] [(0,.v (.slice A l.length c)),(1,.v (.int .i64 v)),(2,.v (.bool flex)),(7,.p 0 0)] cz jX fun pa jY=>?_
 refine qae (qab ?_)
 refine qaq [(0,.v (.slice A l.length c)),(1,.v (.int .i64 v)),(2,.v (.bool flex)),(7,.p 0 0),(9,.v (.slice none 0 0)),(10,.v (.slice none 0 0))] cz jY fun pb jZ=>?_
 refine qaq [(0,.v (.slice A l.length c)),(1,.v (.int .i64 v)),(2,.v (.bool flex)),(7,.p 0 0),(9,.v (.slice none 0 0)),(10,.v (.slice none 0 0)),(11,.v (.int .i64 0))] cz jZ fun pc j0=>?_
 refine wp_seq ?_
 refine qaq [(0,.v (.slice A l.length c)),(1,.v (.int .i64 v)),(2,.v (.bool flex)),(7,.p 0 0),(9,.v (.slice none 0 0)),(10,.v (.slice none 0 0)),(11,.v (.int .i64 0)),(21,.v (.slice A l.length c)),(22,.v (.int .i64 ((l.length:Nat):Int))),(23,.v (.int .i64 0))] cz j0 fun pd j1=>?_
 refine wp_block ?_
 have eK:=cz.addNil 5 1
 have ma:=cz.frNil 5 1
 have htot:(qay W l v (Tree.mk n1 s2 b3 l4 u5) 0).length ≤ 1099511627776:=by have h_:=hroom; rw [qdR,List.length_append] at h_; omega
 refine wp_loop_ghost (fun n_ a_ w_=>∃ (k:Nat) (A_:Option Addr) (c_:Nat) (dn:Bs),n_ = l.length - k ∧ k ≤ l.length ∧ (dn ++ qay W (l.drop k) v (Tree.mk n1 s2 b3 l4 u5) k = qay W l v (Tree.mk n1 s2 b3 l4 u5) 0) ∧ LInv eK 132 [⟨cH,0,[.int .i64 n1,.slice A6 s2.length c7,.bool b3,.slice A8 l4.length c9,.slice aV u5.length aW],true⟩] [brow A_ c_ 5 dn] [(0,.v (.slice A l.length c)),(1,.v (.int .i64 v)),(2,.v (.bool flex)),(7,.p 0 0),(9,.v (.slice A_ dn.length c_)),(10,.v (.slice none 0 0)),(11,.v (.int .i64 0)),(21,.v (.slice A l.length c)),(22,.v (.int .i64 ((l.length:Nat):Int))),(23,.v (.int .i64 ((k:Nat):Int)))] a_ w_) (l.length) ⟨0,none,0,[],by omega,by omega,rfl,j1.pk,eK,Fr.refl _ _ _⟩ ?_
 rintro pe pf pg ⟨k,A_,c_,dn,mc,md,hB,j2,az,ej⟩
 refine qaq [(0,.v (.slice A l.length c)),(1,.v (.int .i64 v)),(2,.v (.bool flex)),(7,.p 0 0),(9,.v (.slice A_ dn.length c_)),(10,.v (.slice none 0 0)),(11,.v (.int .i64 0)),(21,.v (.slice A l.length c)),(22,.v (.int .i64 ((l.length:Nat):Int))),(23,.v (.int .i64 ((k:Nat):Int))),(24,.v (.bool (decide (((k:Nat):Int) < ((l.length:Nat):Int)))))] az j2 fun ph ek=>?_
 refine wp_seq ?_
 refine qaA ek (b:=decide (((k:Nat):Int) < ((l.length:Nat):Int))) kz (fun em=>?_) (fun em=>?_)
 ·
  have me:=of_decide_eq_true em
  refine wp_skip ?_
  refine qab ?_
  refine wp_seq ?_
  refine wp_block ?_
  refine qad [0,1,2,3,4,5] kz ?_
  refine qaj [0] [1,2,3,4,5] [(0,.v (.slice A l.length c)),(1,.v (.int .i64 v)),(2,.v (.bool flex)),(7,.p 0 0),(9,.v (.slice A_ dn.length c_)),(10,.v (.slice none 0 0)),(11,.v (.int .i64 0)),(21,.v (.slice A l.length c)),(22,.v (.int .i64 ((l.length:Nat):Int))),(23,.v (.int .i64 ((k:Nat):Int))),(25,.v (.int .i64 ((k:Nat):Int)))] az ek fun pi j3=>?_
  obtain ⟨mf,mg,j4,mh,dB⟩:=Slots.get h1 (i:=k) (by omega)
  obtain ⟨mi,bk⟩:∃ x,l[k]? = some x:=⟨_,List.getElem?_eq_getElem (by omega)⟩
  have eo:=h2 k mi bk
  obtain ⟨aA,aB,aC,aD,ax,aE,aF,aG,dy,dA,mj,rfl,dC,ml,pj⟩:=eo.open_
  rw [dC] at eo
  have lb:=ml.small
  rw [dC] at dB
  refine qal (qaW j3 (t:=30) (A:=A) (m:=l.length) (q:=((k:Nat):Int)) (d:=26) kz (e:=60) (size:=8) (bytes:=80) kz j4 rfl (by omega) fun pl j5=>?_)
  refine qal (qa2 j5 (t:=60) (b:=mf) (o:=mg + k * 8) (d:=27) kz (cs:=[.int .i64 aA,.int .i64 aB,.int .i64 aC,.int .i64 aD,.int .i64 ax,.int .i64 aE,.int .i64 aF,.slice dy aG.length dA]) (v:=.agg #[.int .i64 aA,.int .i64 aB,.int .i64 aC,.int .i64 aD,.int .i64 ax,.int .i64 aE,.int .i64 aF,.slice dy aG.length dA]) kz (AtF.move dB az.step nilM qbw).at_ fun pm j6=>?_)
  refine qal (qat az j6 (d:=13) (cs:=[.int .i64 0,.int .i64 0,.int .i64 0,.int .i64 0,.int .i64 0,.int .i64 0,.int .i64 0,.slice none 0 0]) kz fun pn po pp mn mo ep eL j7=>?_)
  refine qaj [4] [5] [(0,.v (.slice A l.length c)),(1,.v (.int .i64 v)),(2,.v (.bool flex)),(7,.p 0 0),(9,.v (.slice A_ dn.length c_)),(10,.v (.slice none 0 0)),(11,.v (.int .i64 0)),(12,.v (.int .i64 ((k:Nat):Int))),(13,.p 1 0),(21,.v (.slice A l.length c)),(22,.v (.int .i64 ((l.length:Nat):Int))),(23,.v (.int .i64 ((k:Nat):Int))),(27,.v (.agg #[.int .i64 aA,.int .i64 aB,.int .i64 aC,.int .i64 aD,.int .i64 ax,.int .i64 aE,.int .i64 aF,.slice dy aG.length dA]))] eL j7 fun pq j8=>?_
  refine qal (qan eL j8 (oi:=1) (cs:=[.int .i64 aA,.int .i64 aB,.int .i64 aC,.int .i64 aD,.int .i64 ax,.int .i64 aE,.int .i64 aF,.slice dy aG.length dA]) kz fun pr eu bI j9=>?_)
  refine qae (qab ?_)
  refine qad [0,1,2,3,4,5,6,7] kz ?_
  refine qaj [0,1,2,3] [4,5,6,7] [(0,.v (.slice A l.length c)),(1,.v (.int .i64 v)),(2,.v (.bool flex)),(7,.p 0 0),(9,.v (.slice A_ dn.length c_)),(10,.v (.slice none 0 0)),(11,.v (.int .i64 0)),(12,.v (.int .i64 ((k:Nat):Int))),(13,.p 1 0),(21,.v (.slice A l.length c)),(22,.v (.int .i64 ((l.length:Nat):Int))),(23,.v (.int .i64 ((k:Nat):Int))),(31,.v (.bool (decide (ax < 0))))] bI j9 fun pt eM=>?_
  refine (Bool.eq_false_or_eq_true (decide (ax < 0))).elim (fun cI=>?_) (fun cI=>?_)
  ·
   have mp:=of_decide_eq_true cI
   have ka:=eM.cast (env':=[(0,.v (.slice A l.length c)),(1,.v (.int .i64 v)),(2,.v (.bool flex)),(7,.p 0 0),(9,.v (.slice A_ dn.length c_)),(10,.v (.slice none 0 0)),(11,.v (.int .i64 0)),(12,.v (.int .i64 ((k:Nat):Int))),(13,.p 1 0),(21,.v (.slice A l.length c)),(22,.v (.int .i64 ((l.length:Nat):Int))),(23,.v (.int .i64 ((k:Nat):Int))),(31,.v (.bool true))]) (by rw [cI])
   refine qaj [4,5] [6,7] [(0,.v (.slice A l.length c)),(1,.v (.int .i64 v)),(2,.v (.bool flex)),(7,.p 0 0),(9,.v (.slice A_ dn.length c_)),(10,.v (.slice none 0 0)),(11,.v (.int .i64 0)),(12,.v (.int .i64 ((k:Nat):Int))),(13,.p 1 0),(21,.v (.slice A l.length c)),(22,.v (.int .i64 ((l.length:Nat):Int))),(23,.v (.int .i64 ((k:Nat):Int))),(31,.v (.bool true)),(32,.v (.agg #[.int .i64 aA,.int .i64 aB,.int .i64 aC,.int .i64 aD,.int .i64 ax,.int .i64 aE,.int .i64 aF,.slice dy aG.length dA])),(33,.v (.int .i64 v))] bI ka fun pu eN=>?_
   refine qal (qak eN (f:=49) (vs:=[.agg #[.int .i64 aA,.int .i64 aB,.int .i64 aC,.int .i64 aD,.int .i64 ax,.int .i64 aE,.int .i64 aF,.slice dy aG.length dA],.int .i64 v]) (d:=34) kz Tryd.call49 (sHas aA aB aC aD ax aE aF aG _ _ v _) ?_)
   rintro e_ mq ⟨rfl,dD⟩
   refine ⟨_,rfl,fun mr eO=>?_⟩
   have bP:=bI.next_nil dD
   have dE:=bI.frN dD
   refine qaj [7] [] [(0,.v (.slice A l.length c)),(1,.v (.int .i64 v)),(2,.v (.bool flex)),(7,.p 0 0),(9,.v (.slice A_ dn.length c_)),(10,.v (.slice none 0 0)),(11,.v (.int .i64 0)),(12,.v (.int .i64 ((k:Nat):Int))),(13,.p 1 0),(21,.v (.slice A l.length c)),(22,.v (.int .i64 ((l.length:Nat):Int))),(23,.v (.int .i64 ((k:Nat):Int))),(35,.v (.bool (Fld.has (Fld.mk aA aB aC aD ax aE aF aG) v)))] bP eO fun mt cJ=>?_
   refine qae (qab ?_)
   refine qaA cJ (b:=Fld.has (Fld.mk aA aB aC aD ax aE aF aG) v) kz (fun eP=>?_) (fun eP=>?_)
   ·
    refine qdQ 9 kz bP fun mu eQ bn eR=>?_
    refine qaH [0,1,2,3,4,5] [(0,.v (.slice A l.length c)),(1,.v (.int .i64 v)),(2,.v (.bool flex)),(7,.p 0 0),(9,.v (.slice A_ dn.length c_)),(10,.v (.slice none 0 0)),(11,.v (.int .i64 0)),(21,.v (.slice A l.length c)),(22,.v (.int .i64 ((l.length:Nat):Int))),(23,.v (.int .i64 ((k:Nat):Int))),(36,.v (.slice A_ dn.length c_)),(37,.v (.agg #[.int .i64 aA,.int .i64 aB,.int .i64 aC,.int .i64 aD,.int .i64 ax,.int .i64 aE,.int .i64 aF,.slice dy aG.length dA])),(38,.v (.int .i64 v)),(39,.v (.bool flex)),(40,.v (.agg #[.int .i64 n1,.slice A6 s2.length c7,.bool b3,.slice A8 l4.length c9,.slice aV u5.length aW])),(41,.v (.int .i64 ((k:Nat):Int)))] 4 (qac (qaa (qaa (qac (qaa qaf))))) (fun _ h=>h.cells) eR cJ fun mw eS=>?_
    refine qaE (i:=6) kz (qak eS (f:=48) (vs:=[.agg #[.int .i64 n1,.slice A6 s2.length c7,.bool b3,.slice A8 l4.length c9,.slice aV u5.length aW],.int .i64 ((k:Nat):Int)]) (d:=42) kz Tryd.call48 (sAt _ _ k _ _ (ht.move bn.step nilM bn.imm)) ?_)
    rintro e_ mx ⟨lc,rfl,eU,bo⟩
    have cK:=eU.move bo nilM (fun b o h_ hb_=>bn.laid (G:=F) bo b o (.inl h_) (Nat.lt_of_lt_of_le hb_ bo.size))
    obtain ⟨ew,ey,ez,eB,eC,eD,eE,eF,eG,eH,eI,ld,lf,cL,kd,ke,my,mz⟩:=cK.open_
    rw [cL] at cK
    have kf:=kd.small
    have kg:=ke.small
    rw [cL]
    refine ⟨_,rfl,fun mA eV=>?_⟩
    have bQ:=bn.next_nil bo
    have bR:=bn.frN bo
    have eW:=TT.ofW bR bQ
    refine ⟨fun _=>eW,?_⟩
    refine qaE (i:=7) kz (qak eV (f:=82) (vs:=[.agg #[.int .i64 aA,.int .i64 aB,.int .i64 aC,.int .i64 aD,.int .i64 ax,.int .i64 aE,.int .i64 aF,.slice dy aG.length dA],.int .i64 v,.bool flex,.agg #[.int .i64 ew,.slice eD ey.length eE,.bool ez,.slice eF eB.length eG,.slice eH eC.length eI]]) (d:=43) kz Tryd.call82 ( hW_ _ _ _ _ _ _ (List.mem_of_getElem? bk) (eo.move bQ.step nilM bQ.imm) cK (by have h_:=congrArg List.length hB; rw [qc0 bk ‹_› ‹_›] at h_; simp only [List.length_append] at h_; omega)) ?_)
    rintro e_ mB ⟨cM,cN,rfl,eX,eY⟩
    refine ⟨_,rfl,fun mC eZ=>?_⟩
    obtain ⟨bS,cO⟩:=bQ.frFresh eY (brow cM cN 5 (W (Fld.mk aA aB aC aD ax aE aF aG) (Tree.at_ (Tree.mk n1 s2 b3 l4 u5) k))) (Nat.le_refl _) eX
    have kh:(W (Fld.mk aA aB aC aD ax aE aF aG) (Tree.at_ (Tree.mk n1 s2 b3 l4 u5) k)).length ≤ 1099511627776:=by have h_:=congrArg List.length hB; rw [qc0 bk ‹_› ‹_›] at h_; simp only [List.length_append] at h_; omega
    have e9:=TT.ofW (bR.trans cO) bS
    refine ⟨fun _=>e9,?_⟩
    refine qaE (i:=8) kz (qaJ bS eZ (k:=0) (d:=44) (t:=22) (e:=5) (size:=1) (bytes:=1) (A:=A_) (As:=cM) (m0:=dn.length) (c:=c_) (m:=((W (Fld.mk aA aB aC aD ax aE aF aG) (Tree.at_ (Tree.mk n1 s2 b3 l4 u5) k)).length)) (cs:=cN) (xs:=(bc dn)) (news:=bc (W (Fld.mk aA aB aC aD ax aE aF aG) (Tree.at_ (Tree.mk n1 s2 b3 l4 u5) k))) kz kz rfl (qbA (bS.own 1 _ rfl) (qb2 _)) (qbG (bS.own 1 _ rfl)) (by have h_:=congrArg List.length hB; rw [qc0 bk ‹_› ‹_›] at h_; simp only [List.length_append] at h_ ⊢; omega) fun aX aY mD mF dF fa fb=>?_)
    have fe:(⟨aX,aY,5,1,dn.length + (W (Fld.mk aA aB aC aD ax aE aF aG) (Tree.at_ (Tree.mk n1 s2 b3 l4 u5) k)).length,bc dn ++ bc (W (Fld.mk aA aB aC aD ax aE aF aG) (Tree.at_ (Tree.mk n1 s2 b3 l4 u5) k))⟩:Rw) = brow aX aY 5 (dn ++ (W (Fld.mk aA aB aC aD ax aE aF aG) (Tree.at_ (Tree.mk n1 s2 b3 l4 u5) k))):=qbj (rfl) rfl
    obtain ⟨bT,dG⟩:=fa.rowEq 0 [brow aX aY 5 (dn ++ (W (Fld.mk aA aB aC aD ax aE aF aG) (Tree.at_ (Tree.mk n1 s2 b3 l4 u5) k))),brow cM cN 5 (W (Fld.mk aA aB aC aD ax aE aF aG) (Tree.at_ (Tree.mk n1 s2 b3 l4 u5) k))] fe
    have ff:=EnvOk.pick fb (ks:=[0,1,2,7,9,10,11,21,22,23,36,37,38,39,40,41,42,43,44]) (env':=[(0,.v (.slice A l.length c)),(1,.v (.int .i64 v)),(2,.v (.bool flex)),(7,.p 0 0),(9,.v (.slice A_ dn.length c_)),(10,.v (.slice none 0 0)),(11,.v (.int .i64 0)),(21,.v (.slice A l.length c)),(22,.v (.int .i64 ((l.length:Nat):Int))),(23,.v (.int .i64 ((k:Nat):Int))),(36,.v (.slice A_ dn.length c_)),(37,.v (.agg #[.int .i64 aA,.int .i64 aB,.int .i64 aC,.int .i64 aD,.int .i64 ax,.int .i64 aE,.int .i64 aF,.slice dy aG.length dA])),(38,.v (.int .i64 v)),(39,.v (.bool flex)),(40,.v (.agg #[.int .i64 n1,.slice A6 s2.length c7,.bool b3,.slice A8 l4.length c9,.slice aV u5.length aW])),(41,.v (.int .i64 ((k:Nat):Int))),(42,.v (.agg #[.int .i64 ew,.slice eD ey.length eE,.bool ez,.slice eF eB.length eG,.slice eH eC.length eI])),(43,.v (.slice cM ((W (Fld.mk aA aB aC aD ax aE aF aG) (Tree.at_ (Tree.mk n1 s2 b3 l4 u5) k)).length) cN)),(44,.v (.slice aX (dn.length + (W (Fld.mk aA aB aC aD ax aE aF aG) (Tree.at_ (Tree.mk n1 s2 b3 l4 u5) k)).length) aY))]) kz
    have fg:=ff.cast (env':=[(0,.v (.slice A l.length c)),(1,.v (.int .i64 v)),(2,.v (.bool flex)),(7,.p 0 0),(9,.v (.slice A_ dn.length c_)),(10,.v (.slice none 0 0)),(11,.v (.int .i64 0)),(21,.v (.slice A l.length c)),(22,.v (.int .i64 ((l.length:Nat):Int))),(23,.v (.int .i64 ((k:Nat):Int))),(36,.v (.slice A_ dn.length c_)),(37,.v (.agg #[.int .i64 aA,.int .i64 aB,.int .i64 aC,.int .i64 aD,.int .i64 ax,.int .i64 aE,.int .i64 aF,.slice dy aG.length dA])),(38,.v (.int .i64 v)),(39,.v (.bool flex)),(40,.v (.agg #[.int .i64 n1,.slice A6 s2.length c7,.bool b3,.slice A8 l4.length c9,.slice aV u5.length aW])),(41,.v (.int .i64 ((k:Nat):Int))),(42,.v (.agg #[.int .i64 ew,.slice eD ey.length eE,.bool ez,.slice eF eB.length eG,.slice eH eC.length eI])),(43,.v (.slice cM ((W (Fld.mk aA aB aC aD ax aE aF aG) (Tree.at_ (Tree.mk n1 s2 b3 l4 u5) k)).length) cN)),(44,.v (.slice aX ((dn ++ (W (Fld.mk aA aB aC aD ax aE aF aG) (Tree.at_ (Tree.mk n1 s2 b3 l4 u5) k))).length) aY))]) (by simp only [List.length_append,List.length_cons,List.length_nil,Nat.zero_add])
    have fh:=TT.ofW (((bR.trans cO).trans dF).trans dG) bT
    refine ⟨fun _=>fh,?_⟩
    refine qaE (i:=9) kz (qbp [0,1,2,7,9,10,11,21,22,23] bT.cells fg (env':=[(0,.v (.slice A l.length c)),(1,.v (.int .i64 v)),(2,.v (.bool flex)),(7,.p 0 0),(9,.v (.slice aX ((dn ++ (W (Fld.mk aA aB aC aD ax aE aF aG) (Tree.at_ (Tree.mk n1 s2 b3 l4 u5) k))).length) aY)),(10,.v (.slice none 0 0)),(11,.v (.int .i64 0)),(21,.v (.slice A l.length c)),(22,.v (.int .i64 ((l.length:Nat):Int))),(23,.v (.int .i64 ((k:Nat):Int)))]) kz fun mG fi=>?_)
    refine ⟨fun h=>absurd rfl h,?_⟩
    refine qaL kz ?_ _
    refine qau ?_
    refine qab ?_
    refine qar [0,1] kz ?_
    refine qaj [0,1] [] [(0,.v (.slice A l.length c)),(1,.v (.int .i64 v)),(2,.v (.bool flex)),(7,.p 0 0),(9,.v (.slice aX ((dn ++ (W (Fld.mk aA aB aC aD ax aE aF aG) (Tree.at_ (Tree.mk n1 s2 b3 l4 u5) k))).length) aY)),(10,.v (.slice none 0 0)),(11,.v (.int .i64 0)),(21,.v (.slice A l.length c)),(22,.v (.int .i64 ((l.length:Nat):Int))),(23,.v (.int .i64 (IntKind.i64.wrap (((k:Nat):Int) + 1))))] bT fi fun mH fj=>?_
    refine qae (qab ?_)
    obtain ⟨dH,fk,fl⟩:=bT.cutB fj 1 [⟨cH,0,[.int .i64 n1,.slice A6 s2.length c7,.bool b3,.slice A8 l4.length c9,.slice aV u5.length aW],true⟩] [(0,.v (.slice A l.length c)),(1,.v (.int .i64 v)),(2,.v (.bool flex)),(7,.p 0 0),(9,.v (.slice aX ((dn ++ (W (Fld.mk aA aB aC aD ax aE aF aG) (Tree.at_ (Tree.mk n1 s2 b3 l4 u5) k))).length) aY)),(10,.v (.slice none 0 0)),(11,.v (.int .i64 0)),(21,.v (.slice A l.length c)),(22,.v (.int .i64 ((l.length:Nat):Int))),(23,.v (.int .i64 (IntKind.i64.wrap (((k:Nat):Int) + 1))))]
    obtain ⟨fm,fo⟩:=fk.cutR 1 [brow aX aY 5 (dn ++ (W (Fld.mk aA aB aC aD ax aE aF aG) (Tree.at_ (Tree.mk n1 s2 b3 l4 u5) k)))]
    have fq:IntKind.i64.wrap (((k:Nat):Int) + 1) = ((k + 1:Nat):Int):=qaR (by omega)
    rw [fq] at dH
    exact ⟨l.length - (k + 1),by omega,k + 1,aX,aY,dn ++ (W (Fld.mk aA aB aC aD ax aE aF aG) (Tree.at_ (Tree.mk n1 s2 b3 l4 u5) k)),rfl,by omega,by rw [List.append_assoc,← qc0 bk ‹_› ‹_›]; exact hB,dH.pk,fm,((((((((((ej.trans ep).trans eu).trans dE).trans eQ).trans bR).trans cO).trans dF).trans dG).trans fl).trans fo)⟩
   refine wp_skip ?_
   refine qau ?_
   refine qab ?_
   refine qar [0,1] kz ?_
   refine qaj [0,1] [] [(0,.v (.slice A l.length c)),(1,.v (.int .i64 v)),(2,.v (.bool flex)),(7,.p 0 0),(9,.v (.slice A_ dn.length c_)),(10,.v (.slice none 0 0)),(11,.v (.int .i64 0)),(21,.v (.slice A l.length c)),(22,.v (.int .i64 ((l.length:Nat):Int))),(23,.v (.int .i64 (IntKind.i64.wrap (((k:Nat):Int) + 1))))] bP cJ fun mI fr=>?_
   refine qae (qab ?_)
   obtain ⟨dI,ft,fu⟩:=bP.cutB fr 1 [⟨cH,0,[.int .i64 n1,.slice A6 s2.length c7,.bool b3,.slice A8 l4.length c9,.slice aV u5.length aW],true⟩] [(0,.v (.slice A l.length c)),(1,.v (.int .i64 v)),(2,.v (.bool flex)),(7,.p 0 0),(9,.v (.slice A_ dn.length c_)),(10,.v (.slice none 0 0)),(11,.v (.int .i64 0)),(21,.v (.slice A l.length c)),(22,.v (.int .i64 ((l.length:Nat):Int))),(23,.v (.int .i64 (IntKind.i64.wrap (((k:Nat):Int) + 1))))]
   have fv:IntKind.i64.wrap (((k:Nat):Int) + 1) = ((k + 1:Nat):Int):=qaR (by omega)
   rw [fv] at dI
   exact ⟨l.length - (k + 1),by omega,k + 1,A_,c_,dn,rfl,by omega,by rw [← qe5 bk ‹_›]; exact hB,dI.pk,ft,((((ej.trans ep).trans eu).trans dE).trans fu)⟩
  have lg:=of_decide_eq_false cI
  have fw:=eM.cast (env':=[(0,.v (.slice A l.length c)),(1,.v (.int .i64 v)),(2,.v (.bool flex)),(7,.p 0 0),(9,.v (.slice A_ dn.length c_)),(10,.v (.slice none 0 0)),(11,.v (.int .i64 0)),(12,.v (.int .i64 ((k:Nat):Int))),(13,.p 1 0),(21,.v (.slice A l.length c)),(22,.v (.int .i64 ((l.length:Nat):Int))),(23,.v (.int .i64 ((k:Nat):Int))),(31,.v (.bool false))]) (by rw [cI])
  refine qaj [4,5,6,7] [] [(0,.v (.slice A l.length c)),(1,.v (.int .i64 v)),(2,.v (.bool flex)),(7,.p 0 0),(9,.v (.slice A_ dn.length c_)),(10,.v (.slice none 0 0)),(11,.v (.int .i64 0)),(12,.v (.int .i64 ((k:Nat):Int))),(13,.p 1 0),(21,.v (.slice A l.length c)),(22,.v (.int .i64 ((l.length:Nat):Int))),(23,.v (.int .i64 ((k:Nat):Int))),(35,.v (.bool false))] bI fw fun mJ dJ=>?_
  refine qae (qab ?_)
  refine qaQ dJ (b:=false) kz rfl ?_
  refine wp_skip ?_
  refine qau ?_
  refine qab ?_
  refine qar [0,1] kz ?_
  refine qaj [0,1] [] [(0,.v (.slice A l.length c)),(1,.v (.int .i64 v)),(2,.v (.bool flex)),(7,.p 0 0),(9,.v (.slice A_ dn.length c_)),(10,.v (.slice none 0 0)),(11,.v (.int .i64 0)),(21,.v (.slice A l.length c)),(22,.v (.int .i64 ((l.length:Nat):Int))),(23,.v (.int .i64 (IntKind.i64.wrap (((k:Nat):Int) + 1))))] bI dJ fun mK fx=>?_
  refine qae (qab ?_)
  obtain ⟨dK,fy,fA⟩:=bI.cutB fx 1 [⟨cH,0,[.int .i64 n1,.slice A6 s2.length c7,.bool b3,.slice A8 l4.length c9,.slice aV u5.length aW],true⟩] [(0,.v (.slice A l.length c)),(1,.v (.int .i64 v)),(2,.v (.bool flex)),(7,.p 0 0),(9,.v (.slice A_ dn.length c_)),(10,.v (.slice none 0 0)),(11,.v (.int .i64 0)),(21,.v (.slice A l.length c)),(22,.v (.int .i64 ((l.length:Nat):Int))),(23,.v (.int .i64 (IntKind.i64.wrap (((k:Nat):Int) + 1))))]
  have fB:IntKind.i64.wrap (((k:Nat):Int) + 1) = ((k + 1:Nat):Int):=qaR (by omega)
  rw [fB] at dK
  exact ⟨l.length - (k + 1),by omega,k + 1,A_,c_,dn,rfl,by omega,by rw [← qe4 bk ‹_›]; exact hB,dK.pk,fy,(((ej.trans ep).trans eu).trans fA)⟩
 have lh:=of_decide_eq_false em
 refine wp_exit ?_
 refine qav ?_
 refine qav ?_
 refine qaM ?_
 refine qab ?_
 refine wp_seq ?_
 refine qaq [(0,.v (.slice A l.length c)),(1,.v (.int .i64 v)),(2,.v (.bool flex)),(7,.p 0 0),(9,.v (.slice A_ dn.length c_)),(10,.v (.slice none 0 0)),(11,.v (.int .i64 0)),(47,.v (.bool (!flex)))] az ek fun mL cP=>?_
 refine qaA cP (b:=!flex) kz (fun bU=>?_) (fun bU=>?_)
 ·
  refine qaq [(8,.v (.slice A_ dn.length c_))] az cP fun mM fC=>?_
  refine wp_ret ?_
  refine qax ?_
  refine qaG fC az.cells (v:=.slice A_ dn.length c_) kz ?_
  exact qaS az (k:=0) rfl (by rw [show flex = false by simpa using bU,qfM,← hB,qef (by omega),List.append_nil])
 refine wp_skip ?_
 refine qab ?_
 refine wp_seq ?_
 refine qad [0,1,2,3] kz ?_
 refine qaj [0] [1,2,3] [(0,.v (.slice A l.length c)),(1,.v (.int .i64 v)),(2,.v (.bool flex)),(7,.p 0 0),(9,.v (.slice A_ dn.length c_)),(10,.v (.slice none 0 0)),(11,.v (.int .i64 0)),(49,.v (.slice A l.length c))] az cP fun mN fD=>?_
 refine qal (qak fD (f:=76) (vs:=[.slice A l.length c]) (d:=50) kz Tryd.call76 (qgT _ _ l _ _ ⟨xfs,(h1.move az.step nilM az.imm),(fun i_ x_ h_=>((h2 i_ x_ h_).move az.step nilM az.imm))⟩) ?_)
 rintro e_ mO ⟨rfl,dL⟩
 refine ⟨_,rfl,fun mQ fE=>?_⟩
 have dM:=az.next_nil dL
 have li:=az.frN dL
 refine qaj [2,3] [] [(0,.v (.slice A l.length c)),(1,.v (.int .i64 v)),(2,.v (.bool flex)),(7,.p 0 0),(9,.v (.slice A_ dn.length c_)),(10,.v (.slice none 0 0)),(11,.v (.int .i64 0)),(51,.v (.int .i64 (IntKind.i64.wrap (qam l)))),(52,.v (.int .i64 0))] dM fE fun mR dN=>?_
 refine qae (qab ?_)
 refine wp_block ?_
 have hdn:dn = qay W l v (Tree.mk n1 s2 b3 l4 u5) 0:=by rw [← hB,qef (by omega),List.append_nil]
 have dO:dn = (qay W l v (Tree.mk n1 s2 b3 l4 u5) 0):=hdn
 have fF:=congrArg (brow A_ c_ 5) dO
 obtain ⟨dP,lj⟩:=dM.rowEq 0 [brow A_ c_ 5 (qay W l v (Tree.mk n1 s2 b3 l4 u5) 0)] fF
 rw [dO] at dN
 have hfx:flex = true:=by simpa using bU
 have htot2:(qay W l v (Tree.mk n1 s2 b3 l4 u5) 0).length + (uv (qaD W l (Tree.mk n1 s2 b3 l4 u5) (qam l).toNat + (qah l u5).length)).length + ((qap W l (Tree.mk n1 s2 b3 l4 u5) (qam l).toNat).length + (qaP (qah l u5)).length) ≤ 1099511627776:=by have h_:=hroom; rw [hfx,qdH] at h_; simpa only [List.length_append] using h_
 have hmono:=fun i (h_:i ≤ (qam l).toNat)=>qe6 W l (Tree.mk n1 s2 b3 l4 u5) h_
 have hcnt:=qeM W l (Tree.mk n1 s2 b3 l4 u5)
 have hknn:=qfN l
 have fG:=EnvOk.pick dN (ks:=[0,1,2,7,9,10,11,51,52]) (env':=[(0,.v (.slice A l.length c)),(1,.v (.int .i64 v)),(2,.v (.bool flex)),(7,.p 0 0),(9,.v (.slice A_ ((qay W l v (Tree.mk n1 s2 b3 l4 u5) 0).length) c_)),(10,.v (.slice none 0 0)),(11,.v (.int .i64 0)),(51,.v (.int .i64 (IntKind.i64.wrap (qam l)))),(52,.v (.int .i64 0))]) kz
 have fH:=fG.cast (env':=[(0,.v (.slice A l.length c)),(1,.v (.int .i64 v)),(2,.v (.bool flex)),(7,.p 0 0),(9,.v (.slice A_ ((qay W l v (Tree.mk n1 s2 b3 l4 u5) 0).length) c_)),(10,.v (.slice none 0 0)),(11,.v (.int .i64 0)),(51,.v (.int .i64 (((qam l).toNat:Nat):Int))),(52,.v (.int .i64 0))]) (by rw [hknn])
 have dQ:=dP.addNil 5 1
 have lm:=dP.frNil 5 1
 refine wp_loop_ghost (fun n_ a_ w_=>∃ (k2:Nat) (A2_:Option Addr) (c2_:Nat),n_ = (qam l).toNat - k2 ∧ k2 ≤ (qam l).toNat ∧ LInv dQ 132 [⟨cH,0,[.int .i64 n1,.slice A6 s2.length c7,.bool b3,.slice A8 l4.length c9,.slice aV u5.length aW],true⟩] [brow A_ c_ 5 (qay W l v (Tree.mk n1 s2 b3 l4 u5) 0),brow A2_ c2_ 5 (qap W l (Tree.mk n1 s2 b3 l4 u5) k2)] [(0,.v (.slice A l.length c)),(1,.v (.int .i64 v)),(2,.v (.bool flex)),(7,.p 0 0),(9,.v (.slice A_ ((qay W l v (Tree.mk n1 s2 b3 l4 u5) 0).length) c_)),(10,.v (.slice A2_ ((qap W l (Tree.mk n1 s2 b3 l4 u5) k2).length) c2_)),(11,.v (.int .i64 ((qaD W l (Tree.mk n1 s2 b3 l4 u5) k2:Nat):Int))),(51,.v (.int .i64 (((qam l).toNat:Nat):Int))),(52,.v (.int .i64 ((k2:Nat):Int)))] a_ w_) ((qam l).toNat) ⟨0,none,0,by omega,by omega,fH.pk,dQ,Fr.refl _ _ _⟩ ?_
 rintro mS mT mU ⟨k2,A2_,c2_,ln,lp,fI,ao,fJ⟩
 refine qaq [(0,.v (.slice A l.length c)),(1,.v (.int .i64 v)),(2,.v (.bool flex)),(7,.p 0 0),(9,.v (.slice A_ ((qay W l v (Tree.mk n1 s2 b3 l4 u5) 0).length) c_)),(10,.v (.slice A2_ ((qap W l (Tree.mk n1 s2 b3 l4 u5) k2).length) c2_)),(11,.v (.int .i64 ((qaD W l (Tree.mk n1 s2 b3 l4 u5) k2:Nat):Int))),(51,.v (.int .i64 (((qam l).toNat:Nat):Int))),(52,.v (.int .i64 ((k2:Nat):Int))),(53,.v (.bool (decide (((k2:Nat):Int) < (((qam l).toNat:Nat):Int)))))] ao fI fun mV cQ=>?_
 refine wp_seq ?_
 refine qaA cQ (b:=decide (((k2:Nat):Int) < (((qam l).toNat:Nat):Int))) kz (fun cR=>?_) (fun cR=>?_)
 ·
  have lq:=of_decide_eq_true cR
  refine wp_skip ?_
  refine qab ?_
  refine wp_seq ?_
  refine wp_block ?_
  refine qaq [(0,.v (.slice A l.length c)),(1,.v (.int .i64 v)),(2,.v (.bool flex)),(7,.p 0 0),(9,.v (.slice A_ ((qay W l v (Tree.mk n1 s2 b3 l4 u5) 0).length) c_)),(10,.v (.slice A2_ ((qap W l (Tree.mk n1 s2 b3 l4 u5) k2).length) c2_)),(11,.v (.int .i64 ((qaD W l (Tree.mk n1 s2 b3 l4 u5) k2:Nat):Int))),(14,.v (.int .i64 ((k2:Nat):Int))),(51,.v (.int .i64 (((qam l).toNat:Nat):Int))),(52,.v (.int .i64 ((k2:Nat):Int)))] ao cQ fun mW fK=>?_
  refine qaq [(0,.v (.slice A l.length c)),(1,.v (.int .i64 v)),(2,.v (.bool flex)),(7,.p 0 0),(9,.v (.slice A_ ((qay W l v (Tree.mk n1 s2 b3 l4 u5) 0).length) c_)),(10,.v (.slice A2_ ((qap W l (Tree.mk n1 s2 b3 l4 u5) k2).length) c2_)),(11,.v (.int .i64 ((qaD W l (Tree.mk n1 s2 b3 l4 u5) k2:Nat):Int))),(14,.v (.int .i64 ((k2:Nat):Int))),(51,.v (.int .i64 (((qam l).toNat:Nat):Int))),(52,.v (.int .i64 ((k2:Nat):Int))),(55,.v (.slice A l.length c)),(56,.v (.int .i64 ((l.length:Nat):Int))),(57,.v (.int .i64 0))] ao fK fun mX dR=>?_
  refine wp_block ?_
  have dS:(qap W l (Tree.mk n1 s2 b3 l4 u5) k2) = (qap W l (Tree.mk n1 s2 b3 l4 u5) k2 ++ []):=(List.append_nil _).symm
  have fL:=congrArg (brow A2_ c2_ 5) dS
  obtain ⟨dT,fM⟩:=ao.rowEq 1 [brow A_ c_ 5 (qay W l v (Tree.mk n1 s2 b3 l4 u5) 0),brow A2_ c2_ 5 (qap W l (Tree.mk n1 s2 b3 l4 u5) k2 ++ [])] fL
  rw [dS] at dR
  have hm2:=hmono (k2 + 1) (by omega)
  rw [qap,List.length_append] at hm2
  have hc2:=hcnt (k2 + 1)
  rw [qaD,qap,List.length_append] at hc2
  have hc3:=qex W k2 (Tree.mk n1 s2 b3 l4 u5) l 0
  refine wp_loop_ghost (fun n_ a_ w_=>∃ (q:Nat) (A3_:Option Addr) (c3_:Nat) (dm:Bs) (cn:Nat),n_ = l.length - q ∧ q ≤ l.length ∧ (dm ++ tagB W (l.drop q) k2 (Tree.mk n1 s2 b3 l4 u5) q = tagB W l k2 (Tree.mk n1 s2 b3 l4 u5) 0) ∧ (cn + tagN W (l.drop q) k2 (Tree.mk n1 s2 b3 l4 u5) q = tagN W l k2 (Tree.mk n1 s2 b3 l4 u5) 0) ∧ LInv dT 132 [⟨cH,0,[.int .i64 n1,.slice A6 s2.length c7,.bool b3,.slice A8 l4.length c9,.slice aV u5.length aW],true⟩] [brow A_ c_ 5 (qay W l v (Tree.mk n1 s2 b3 l4 u5) 0),brow A3_ c3_ 5 (qap W l (Tree.mk n1 s2 b3 l4 u5) k2 ++ dm)] [(0,.v (.slice A l.length c)),(1,.v (.int .i64 v)),(2,.v (.bool flex)),(7,.p 0 0),(9,.v (.slice A_ ((qay W l v (Tree.mk n1 s2 b3 l4 u5) 0).length) c_)),(10,.v (.slice A3_ ((qap W l (Tree.mk n1 s2 b3 l4 u5) k2 ++ dm).length) c3_)),(11,.v (.int .i64 ((qaD W l (Tree.mk n1 s2 b3 l4 u5) k2 + cn:Nat):Int))),(14,.v (.int .i64 ((k2:Nat):Int))),(51,.v (.int .i64 (((qam l).toNat:Nat):Int))),(52,.v (.int .i64 ((k2:Nat):Int))),(55,.v (.slice A l.length c)),(56,.v (.int .i64 ((l.length:Nat):Int))),(57,.v (.int .i64 ((q:Nat):Int)))] a_ w_) (l.length) ⟨0,A2_,c2_,[],0,by omega,by omega,rfl,Nat.zero_add _,dR.pk,dT,Fr.refl _ _ _⟩ ?_
  rintro mY mZ m4 ⟨q,A3_,c3_,dm,cn,lr,ls,hB2,hN2,fN,aZ,bV⟩
  refine qaq [(0,.v (.slice A l.length c)),(1,.v (.int .i64 v)),(2,.v (.bool flex)),(7,.p 0 0),(9,.v (.slice A_ ((qay W l v (Tree.mk n1 s2 b3 l4 u5) 0).length) c_)),(10,.v (.slice A3_ ((qap W l (Tree.mk n1 s2 b3 l4 u5) k2 ++ dm).length) c3_)),(11,.v (.int .i64 ((qaD W l (Tree.mk n1 s2 b3 l4 u5) k2 + cn:Nat):Int))),(14,.v (.int .i64 ((k2:Nat):Int))),(51,.v (.int .i64 (((qam l).toNat:Nat):Int))),(52,.v (.int .i64 ((k2:Nat):Int))),(55,.v (.slice A l.length c)),(56,.v (.int .i64 ((l.length:Nat):Int))),(57,.v (.int .i64 ((q:Nat):Int))),(58,.v (.bool (decide (((q:Nat):Int) < ((l.length:Nat):Int)))))] aZ fN fun m5 cS=>?_
  refine wp_seq ?_
  refine qaA cS (b:=decide (((q:Nat):Int) < ((l.length:Nat):Int))) kz (fun cT=>?_) (fun cT=>?_)
  ·
   have lu:=of_decide_eq_true cT
   refine wp_skip ?_
   refine qab ?_
   refine wp_seq ?_
   refine wp_block ?_
   refine qad [0,1,2,3,4,5] kz ?_
   refine qaj [0] [1,2,3,4,5] [(0,.v (.slice A l.length c)),(1,.v (.int .i64 v)),(2,.v (.bool flex)),(7,.p 0 0),(9,.v (.slice A_ ((qay W l v (Tree.mk n1 s2 b3 l4 u5) 0).length) c_)),(10,.v (.slice A3_ ((qap W l (Tree.mk n1 s2 b3 l4 u5) k2 ++ dm).length) c3_)),(11,.v (.int .i64 ((qaD W l (Tree.mk n1 s2 b3 l4 u5) k2 + cn:Nat):Int))),(14,.v (.int .i64 ((k2:Nat):Int))),(51,.v (.int .i64 (((qam l).toNat:Nat):Int))),(52,.v (.int .i64 ((k2:Nat):Int))),(55,.v (.slice A l.length c)),(56,.v (.int .i64 ((l.length:Nat):Int))),(57,.v (.int .i64 ((q:Nat):Int))),(59,.v (.int .i64 ((q:Nat):Int)))] aZ cS fun m6 fO=>?_
   obtain ⟨ki,kj,fP,lv,cU⟩:=Slots.get h1 (i:=q) (by omega)
   obtain ⟨km,ap⟩:∃ x,l[q]? = some x:=⟨_,List.getElem?_eq_getElem (by omega)⟩
   have bW:=h2 q km ap
   obtain ⟨ab,ac,ae,af,aa,ag,ah,ai,bp,bq,lw,rfl,cV,ko,m7⟩:=bW.open_
   rw [cV] at bW
   have kp:=ko.small
   rw [cV] at cU
   refine qal (qaW fO (t:=30) (A:=A) (m:=l.length) (q:=((q:Nat):Int)) (d:=60) kz (e:=60) (size:=8) (bytes:=80) kz fP rfl (by omega) fun m8 fQ=>?_)
   refine qal (qa2 fQ (t:=60) (b:=ki) (o:=kj + q * 8) (d:=61) kz (cs:=[.int .i64 ab,.int .i64 ac,.int .i64 ae,.int .i64 af,.int .i64 aa,.int .i64 ag,.int .i64 ah,.slice bp ai.length bq]) (v:=.agg #[.int .i64 ab,.int .i64 ac,.int .i64 ae,.int .i64 af,.int .i64 aa,.int .i64 ag,.int .i64 ah,.slice bp ai.length bq]) kz (AtF.move cU aZ.step nilM qbw).at_ fun m9 fR=>?_)
   refine qal (qat aZ fR (d:=16) (cs:=[.int .i64 0,.int .i64 0,.int .i64 0,.int .i64 0,.int .i64 0,.int .i64 0,.int .i64 0,.slice none 0 0]) kz fun nf ng nh lx ly cW dU fS=>?_)
   refine qaj [4] [5] [(0,.v (.slice A l.length c)),(1,.v (.int .i64 v)),(2,.v (.bool flex)),(7,.p 0 0),(9,.v (.slice A_ ((qay W l v (Tree.mk n1 s2 b3 l4 u5) 0).length) c_)),(10,.v (.slice A3_ ((qap W l (Tree.mk n1 s2 b3 l4 u5) k2 ++ dm).length) c3_)),(11,.v (.int .i64 ((qaD W l (Tree.mk n1 s2 b3 l4 u5) k2 + cn:Nat):Int))),(14,.v (.int .i64 ((k2:Nat):Int))),(15,.v (.int .i64 ((q:Nat):Int))),(16,.p 1 0),(51,.v (.int .i64 (((qam l).toNat:Nat):Int))),(52,.v (.int .i64 ((k2:Nat):Int))),(55,.v (.slice A l.length c)),(56,.v (.int .i64 ((l.length:Nat):Int))),(57,.v (.int .i64 ((q:Nat):Int))),(61,.v (.agg #[.int .i64 ab,.int .i64 ac,.int .i64 ae,.int .i64 af,.int .i64 aa,.int .i64 ag,.int .i64 ah,.slice bp ai.length bq]))] dU fS fun ni fT=>?_
   refine qal (qan dU fT (oi:=1) (cs:=[.int .i64 ab,.int .i64 ac,.int .i64 ae,.int .i64 af,.int .i64 aa,.int .i64 ag,.int .i64 ah,.slice bp ai.length bq]) kz fun nj cX fU fV=>?_)
   refine qae (qab ?_)
   refine qaT 12 kz fU fun nk cY aO cZ=>?_
   refine qaH [0,1,2,3,4] [(0,.v (.slice A l.length c)),(1,.v (.int .i64 v)),(2,.v (.bool flex)),(7,.p 0 0),(9,.v (.slice A_ ((qay W l v (Tree.mk n1 s2 b3 l4 u5) 0).length) c_)),(10,.v (.slice A3_ ((qap W l (Tree.mk n1 s2 b3 l4 u5) k2 ++ dm).length) c3_)),(11,.v (.int .i64 ((qaD W l (Tree.mk n1 s2 b3 l4 u5) k2 + cn:Nat):Int))),(14,.v (.int .i64 ((k2:Nat):Int))),(15,.v (.int .i64 ((q:Nat):Int))),(16,.p 1 0),(51,.v (.int .i64 (((qam l).toNat:Nat):Int))),(52,.v (.int .i64 ((k2:Nat):Int))),(55,.v (.slice A l.length c)),(56,.v (.int .i64 ((l.length:Nat):Int))),(57,.v (.int .i64 ((q:Nat):Int))),(66,.v (.bool (aa == ((k2:Nat):Int))))] 7 (qaa (qac (qaa (qaa (qac (qac (qaa (qaa (qac (qaa qaf)))))))))) (fun _ h=>h.cells) cZ fV fun nl dV=>?_
   refine (Bool.eq_false_or_eq_true (aa == ((k2:Nat):Int))).elim (fun bt=>?_) (fun bt=>?_)
   ·
    have lz:aa = ((k2:Nat):Int):=by simpa using bt
    have fW:=dV.cast (env':=[(0,.v (.slice A l.length c)),(1,.v (.int .i64 v)),(2,.v (.bool flex)),(7,.p 0 0),(9,.v (.slice A_ ((qay W l v (Tree.mk n1 s2 b3 l4 u5) 0).length) c_)),(10,.v (.slice A3_ ((qap W l (Tree.mk n1 s2 b3 l4 u5) k2 ++ dm).length) c3_)),(11,.v (.int .i64 ((qaD W l (Tree.mk n1 s2 b3 l4 u5) k2 + cn:Nat):Int))),(14,.v (.int .i64 ((k2:Nat):Int))),(15,.v (.int .i64 ((q:Nat):Int))),(16,.p 1 0),(51,.v (.int .i64 (((qam l).toNat:Nat):Int))),(52,.v (.int .i64 ((k2:Nat):Int))),(55,.v (.slice A l.length c)),(56,.v (.int .i64 ((l.length:Nat):Int))),(57,.v (.int .i64 ((q:Nat):Int))),(66,.v (.bool true))]) (by rw [bt])
    refine qaH [5,6,7] [(0,.v (.slice A l.length c)),(1,.v (.int .i64 v)),(2,.v (.bool flex)),(7,.p 0 0),(9,.v (.slice A_ ((qay W l v (Tree.mk n1 s2 b3 l4 u5) 0).length) c_)),(10,.v (.slice A3_ ((qap W l (Tree.mk n1 s2 b3 l4 u5) k2 ++ dm).length) c3_)),(11,.v (.int .i64 ((qaD W l (Tree.mk n1 s2 b3 l4 u5) k2 + cn:Nat):Int))),(14,.v (.int .i64 ((k2:Nat):Int))),(15,.v (.int .i64 ((q:Nat):Int))),(16,.p 1 0),(51,.v (.int .i64 (((qam l).toNat:Nat):Int))),(52,.v (.int .i64 ((k2:Nat):Int))),(55,.v (.slice A l.length c)),(56,.v (.int .i64 ((l.length:Nat):Int))),(57,.v (.int .i64 ((q:Nat):Int))),(66,.v (.bool true)),(67,.v (.agg #[.int .i64 ab,.int .i64 ac,.int .i64 ae,.int .i64 af,.int .i64 aa,.int .i64 ag,.int .i64 ah,.slice bp ai.length bq])),(68,.v (.agg #[.int .i64 n1,.slice A6 s2.length c7,.bool b3,.slice A8 l4.length c9,.slice aV u5.length aW])),(69,.v (.int .i64 ((q:Nat):Int)))] 4 (qaa (qac (qaa (qaa (qac (qac (qaa (qaa (qac (qaa qaf)))))))))) (fun _ h=>h.cells) cZ fW fun np fX=>?_
    refine qaE (i:=8) kz (qak fX (f:=48) (vs:=[.agg #[.int .i64 n1,.slice A6 s2.length c7,.bool b3,.slice A8 l4.length c9,.slice aV u5.length aW],.int .i64 ((q:Nat):Int)]) (d:=70) kz Tryd.call48 (sAt _ _ q _ _ (ht.move aO.step nilM aO.imm)) ?_)
    rintro e_ nr ⟨lA,rfl,fY,bu⟩
    have c5:=fY.move bu nilM (fun b o h_ hb_=>aO.laid (G:=F) bu b o (.inl h_) (Nat.lt_of_lt_of_le hb_ bu.size))
    obtain ⟨kq,ku,kv,kw,kx,ky,kA,kB,kC,kD,kE,lB,lC,c6,kF,kG,ns,nt⟩:=c5.open_
    rw [c6] at c5
    have kH:=kF.small
    have kI:=kG.small
    rw [c6]
    refine ⟨_,rfl,fun nu fZ=>?_⟩
    have bw:=aO.next_nil bu
    have bX:=aO.frN bu
    have f5:=TT.ofW bX bw
    refine ⟨fun _=>f5,?_⟩
    refine qaE (i:=9) kz (qak fZ (f:=50) (vs:=[.agg #[.int .i64 ab,.int .i64 ac,.int .i64 ae,.int .i64 af,.int .i64 aa,.int .i64 ag,.int .i64 ah,.slice bp ai.length bq],.agg #[.int .i64 kq,.slice ky ku.length kA,.bool kv,.slice kB kw.length kC,.slice kD kx.length kE]]) (d:=71) kz Tryd.call50 (qgU _ _ _ _ _ _ _ (bW.move bw.step nilM bw.imm) (Nat.le_refl _) c5) ?_)
    rintro e_ nv ⟨rfl,dW⟩
    refine ⟨_,rfl,fun nw f7=>?_⟩
    have bY:=bw.next_nil dW
    have da:=bw.frN dW
    have dX:=TT.ofW (bX.trans da) bY
    refine ⟨fun _=>dX,?_⟩
    refine qaH [10,11] [(0,.v (.slice A l.length c)),(1,.v (.int .i64 v)),(2,.v (.bool flex)),(7,.p 0 0),(9,.v (.slice A_ ((qay W l v (Tree.mk n1 s2 b3 l4 u5) 0).length) c_)),(10,.v (.slice A3_ ((qap W l (Tree.mk n1 s2 b3 l4 u5) k2 ++ dm).length) c3_)),(11,.v (.int .i64 ((qaD W l (Tree.mk n1 s2 b3 l4 u5) k2 + cn:Nat):Int))),(14,.v (.int .i64 ((k2:Nat):Int))),(15,.v (.int .i64 ((q:Nat):Int))),(16,.p 1 0),(51,.v (.int .i64 (((qam l).toNat:Nat):Int))),(52,.v (.int .i64 ((k2:Nat):Int))),(55,.v (.slice A l.length c)),(56,.v (.int .i64 ((l.length:Nat):Int))),(57,.v (.int .i64 ((q:Nat):Int))),(73,.v (.bool (!(Fld.usual (Fld.mk ab ac ae af aa ag ah ai) (Tree.at_ (Tree.mk n1 s2 b3 l4 u5) q)))))] 0 (qaa (qac (qaa (qaa (qac (qac (qaa (qaa (qac (qaa qaf)))))))))) (fun _ h=>h.cells) dX f7 fun nx db=>?_
    refine qaL kz ?_ _
    refine qab ?_
    refine qaA db (b:=!(Fld.usual (Fld.mk ab ac ae af aa ag ah ai) (Tree.at_ (Tree.mk n1 s2 b3 l4 u5) q))) kz (fun ay=>?_) (fun ay=>?_)
    ·
     refine qaT 7 kz bY fun ny f8 bx f9=>?_
     refine qaH [0,1,2,3,4] [(0,.v (.slice A l.length c)),(1,.v (.int .i64 v)),(2,.v (.bool flex)),(7,.p 0 0),(9,.v (.slice A_ ((qay W l v (Tree.mk n1 s2 b3 l4 u5) 0).length) c_)),(10,.v (.slice A3_ ((qap W l (Tree.mk n1 s2 b3 l4 u5) k2 ++ dm).length) c3_)),(11,.v (.int .i64 ((qaD W l (Tree.mk n1 s2 b3 l4 u5) k2 + cn:Nat):Int))),(14,.v (.int .i64 ((k2:Nat):Int))),(51,.v (.int .i64 (((qam l).toNat:Nat):Int))),(52,.v (.int .i64 ((k2:Nat):Int))),(55,.v (.slice A l.length c)),(56,.v (.int .i64 ((l.length:Nat):Int))),(57,.v (.int .i64 ((q:Nat):Int))),(74,.v (.agg #[.int .i64 ab,.int .i64 ac,.int .i64 ae,.int .i64 af,.int .i64 aa,.int .i64 ag,.int .i64 ah,.slice bp ai.length bq])),(75,.v (.int .i64 v)),(76,.v (.bool flex)),(77,.v (.agg #[.int .i64 n1,.slice A6 s2.length c7,.bool b3,.slice A8 l4.length c9,.slice aV u5.length aW])),(78,.v (.int .i64 ((q:Nat):Int)))] 3 (qaa (qac (qaa (qaa (qac (qac (qaa (qaa (qac (qaa qaf)))))))))) (fun _ h=>h.cells) f9 db fun nz ga=>?_
     refine qaE (i:=5) kz (qak ga (f:=48) (vs:=[.agg #[.int .i64 n1,.slice A6 s2.length c7,.bool b3,.slice A8 l4.length c9,.slice aV u5.length aW],.int .i64 ((q:Nat):Int)]) (d:=79) kz Tryd.call48 (sAt _ _ q _ _ (ht.move bx.step nilM bx.imm)) ?_)
     rintro e_ nA ⟨lD,rfl,gb,bz⟩
     have dc:=gb.move bz nilM (fun b o h_ hb_=>bx.laid (G:=F) bz b o (.inl h_) (Nat.lt_of_lt_of_le hb_ bz.size))
     obtain ⟨kJ,kK,kL,kM,kN,kO,kP,kQ,kR,kS,kT,lE,lF,de,kU,kV,nB,nC⟩:=dc.open_
     rw [de] at dc
     have kW:=kU.small
     have kX:=kV.small
     rw [de]
     refine ⟨_,rfl,fun nD gc=>?_⟩
     have bZ:=bx.next_nil bz
     have df:=bx.frN bz
     have gd:=TT.ofW df bZ
     refine ⟨fun _=>gd,?_⟩
     refine qaE (i:=6) kz (qak gc (f:=82) (vs:=[.agg #[.int .i64 ab,.int .i64 ac,.int .i64 ae,.int .i64 af,.int .i64 aa,.int .i64 ag,.int .i64 ah,.slice bp ai.length bq],.int .i64 v,.bool flex,.agg #[.int .i64 kJ,.slice kO kK.length kP,.bool kL,.slice kQ kM.length kR,.slice kS kN.length kT]]) (d:=80) kz Tryd.call82 ( hW_ _ _ _ _ _ _ (List.mem_of_getElem? ap) (bW.move bZ.step nilM bZ.imm) dc (by have h_:=congrArg List.length hB2; rw [qcA ap (by omega) (by simpa using ay)] at h_; simp only [List.length_append] at h_; omega)) ?_)
     rintro e_ nE ⟨av,aw,rfl,ge,gg⟩
     refine ⟨_,rfl,fun nF gh=>?_⟩
     obtain ⟨b8,dY⟩:=bZ.frFresh gg (brow av aw 5 (W (Fld.mk ab ac ae af aa ag ah ai) (Tree.at_ (Tree.mk n1 s2 b3 l4 u5) q))) (Nat.le_refl _) ge
     have kY:(W (Fld.mk ab ac ae af aa ag ah ai) (Tree.at_ (Tree.mk n1 s2 b3 l4 u5) q)).length ≤ 1099511627776:=by have h_:=congrArg List.length hB2; rw [qcA ap (by omega) (by simpa using ay)] at h_; simp only [List.length_append] at h_; omega
     have gi:=TT.ofW (df.trans dY) b8
     refine ⟨fun _=>gi,?_⟩
     refine qaE (i:=7) kz (qbp [0,1,2,7,9,10,11,14,17,51,52,55,56,57] b8.cells gh (env':=[(0,.v (.slice A l.length c)),(1,.v (.int .i64 v)),(2,.v (.bool flex)),(7,.p 0 0),(9,.v (.slice A_ ((qay W l v (Tree.mk n1 s2 b3 l4 u5) 0).length) c_)),(10,.v (.slice A3_ ((qap W l (Tree.mk n1 s2 b3 l4 u5) k2 ++ dm).length) c3_)),(11,.v (.int .i64 ((qaD W l (Tree.mk n1 s2 b3 l4 u5) k2 + cn:Nat):Int))),(14,.v (.int .i64 ((k2:Nat):Int))),(17,.v (.slice av ((W (Fld.mk ab ac ae af aa ag ah ai) (Tree.at_ (Tree.mk n1 s2 b3 l4 u5) q)).length) aw)),(51,.v (.int .i64 (((qam l).toNat:Nat):Int))),(52,.v (.int .i64 ((k2:Nat):Int))),(55,.v (.slice A l.length c)),(56,.v (.int .i64 ((l.length:Nat):Int))),(57,.v (.int .i64 ((q:Nat):Int)))]) kz fun nG gj=>?_)
     refine ⟨fun h=>absurd rfl h,?_⟩
     refine qaL kz ?_ _
     refine qab ?_
     refine qad [0,1,2,3,4,5,6,7,8,9,10,11,12] kz ?_
     refine qaj [0,1,2] [3,4,5,6,7,8,9,10,11,12] [(0,.v (.slice A l.length c)),(1,.v (.int .i64 v)),(2,.v (.bool flex)),(7,.p 0 0),(9,.v (.slice A_ ((qay W l v (Tree.mk n1 s2 b3 l4 u5) 0).length) c_)),(11,.v (.int .i64 ((qaD W l (Tree.mk n1 s2 b3 l4 u5) k2 + cn:Nat):Int))),(14,.v (.int .i64 ((k2:Nat):Int))),(17,.v (.slice av ((W (Fld.mk ab ac ae af aa ag ah ai) (Tree.at_ (Tree.mk n1 s2 b3 l4 u5) q)).length) aw)),(51,.v (.int .i64 (((qam l).toNat:Nat):Int))),(52,.v (.int .i64 ((k2:Nat):Int))),(55,.v (.slice A l.length c)),(56,.v (.int .i64 ((l.length:Nat):Int))),(57,.v (.int .i64 ((q:Nat):Int))),(81,.v (.slice A3_ ((qap W l (Tree.mk n1 s2 b3 l4 u5) k2 ++ dm).length) c3_)),(83,.v (.int .u64 (IntKind.u64.wrap ((k2:Nat):Int))))] b8 gj fun nH gk=>?_
     have gl:IntKind.u64.wrap ((k2:Nat):Int) = ((k2:Nat):Int):=by simp only [qct,qaU,qbn,IntKind.wrap_i64,IntKind.wrap_i32]; omega
     have gm:=EnvOk.pick gk (ks:=[0,1,2,7,9,11,14,17,51,52,55,56,57,81,83]) (env':=[(0,.v (.slice A l.length c)),(1,.v (.int .i64 v)),(2,.v (.bool flex)),(7,.p 0 0),(9,.v (.slice A_ ((qay W l v (Tree.mk n1 s2 b3 l4 u5) 0).length) c_)),(11,.v (.int .i64 ((qaD W l (Tree.mk n1 s2 b3 l4 u5) k2 + cn:Nat):Int))),(14,.v (.int .i64 ((k2:Nat):Int))),(17,.v (.slice av ((W (Fld.mk ab ac ae af aa ag ah ai) (Tree.at_ (Tree.mk n1 s2 b3 l4 u5) q)).length) aw)),(51,.v (.int .i64 (((qam l).toNat:Nat):Int))),(52,.v (.int .i64 ((k2:Nat):Int))),(55,.v (.slice A l.length c)),(56,.v (.int .i64 ((l.length:Nat):Int))),(57,.v (.int .i64 ((q:Nat):Int))),(81,.v (.slice A3_ ((qap W l (Tree.mk n1 s2 b3 l4 u5) k2 ++ dm).length) c3_)),(83,.v (.int .u64 (IntKind.u64.wrap ((k2:Nat):Int))))]) kz
     have gn:=gm.cast (env':=[(0,.v (.slice A l.length c)),(1,.v (.int .i64 v)),(2,.v (.bool flex)),(7,.p 0 0),(9,.v (.slice A_ ((qay W l v (Tree.mk n1 s2 b3 l4 u5) 0).length) c_)),(11,.v (.int .i64 ((qaD W l (Tree.mk n1 s2 b3 l4 u5) k2 + cn:Nat):Int))),(14,.v (.int .i64 ((k2:Nat):Int))),(17,.v (.slice av ((W (Fld.mk ab ac ae af aa ag ah ai) (Tree.at_ (Tree.mk n1 s2 b3 l4 u5) q)).length) aw)),(51,.v (.int .i64 (((qam l).toNat:Nat):Int))),(52,.v (.int .i64 ((k2:Nat):Int))),(55,.v (.slice A l.length c)),(56,.v (.int .i64 ((l.length:Nat):Int))),(57,.v (.int .i64 ((q:Nat):Int))),(81,.v (.slice A3_ ((qap W l (Tree.mk n1 s2 b3 l4 u5) k2 ++ dm).length) c3_)),(83,.v (.int .u64 ((k2:Nat):Int)))]) (by rw [gl])
     refine qal (qak gn (f:=83) (vs:=[.int .u64 ((k2:Nat):Int)]) (d:=84) kz Tryd.call83 (qcC k2 (by omega) _) ?_)
     rintro e_ nI ⟨bJ,bK,rfl,gp,gq⟩
     refine ⟨_,rfl,fun nJ gt=>?_⟩
     obtain ⟨dg,gv⟩:=b8.frFresh gq (brow bJ bK 5 (uv k2)) (Nat.le_refl _) gp
     refine qal (qaJ dg gt (k:=1) (d:=85) (t:=22) (e:=5) (size:=1) (bytes:=1) (A:=A3_) (As:=bJ) (m0:=((qap W l (Tree.mk n1 s2 b3 l4 u5) k2 ++ dm).length)) (c:=c3_) (m:=((uv k2).length)) (cs:=bK) (xs:=(bc (qap W l (Tree.mk n1 s2 b3 l4 u5) k2 ++ dm))) (news:=bc (uv k2)) kz kz rfl (qbA (dg.own 3 _ rfl) (qb2 _)) (qbG (dg.own 3 _ rfl)) (by have h_:=congrArg List.length hB2; rw [qcA ap (by omega) (by simpa using ay)] at h_; simp only [List.length_append] at h_ ⊢; omega) fun aP aQ nK nL gw gx gy=>?_)
     have gz:(⟨aP,aQ,5,1,(qap W l (Tree.mk n1 s2 b3 l4 u5) k2 ++ dm).length + (uv k2).length,bc (qap W l (Tree.mk n1 s2 b3 l4 u5) k2 ++ dm) ++ bc (uv k2)⟩:Rw) = brow aP aQ 5 (qap W l (Tree.mk n1 s2 b3 l4 u5) k2 ++ dm ++ (uv k2)):=qbj (rfl) rfl
     obtain ⟨dZ,gA⟩:=gx.rowEq 1 [brow A_ c_ 5 (qay W l v (Tree.mk n1 s2 b3 l4 u5) 0),brow aP aQ 5 (qap W l (Tree.mk n1 s2 b3 l4 u5) k2 ++ dm ++ (uv k2)),brow av aw 5 (W (Fld.mk ab ac ae af aa ag ah ai) (Tree.at_ (Tree.mk n1 s2 b3 l4 u5) q)),brow bJ bK 5 (uv k2)] gz
     have gB:=EnvOk.pick gy (ks:=[0,1,2,7,9,11,14,17,51,52,55,56,57,81,83,84,85]) (env':=[(0,.v (.slice A l.length c)),(1,.v (.int .i64 v)),(2,.v (.bool flex)),(7,.p 0 0),(9,.v (.slice A_ ((qay W l v (Tree.mk n1 s2 b3 l4 u5) 0).length) c_)),(11,.v (.int .i64 ((qaD W l (Tree.mk n1 s2 b3 l4 u5) k2 + cn:Nat):Int))),(14,.v (.int .i64 ((k2:Nat):Int))),(17,.v (.slice av ((W (Fld.mk ab ac ae af aa ag ah ai) (Tree.at_ (Tree.mk n1 s2 b3 l4 u5) q)).length) aw)),(51,.v (.int .i64 (((qam l).toNat:Nat):Int))),(52,.v (.int .i64 ((k2:Nat):Int))),(55,.v (.slice A l.length c)),(56,.v (.int .i64 ((l.length:Nat):Int))),(57,.v (.int .i64 ((q:Nat):Int))),(81,.v (.slice A3_ ((qap W l (Tree.mk n1 s2 b3 l4 u5) k2 ++ dm).length) c3_)),(83,.v (.int .u64 ((k2:Nat):Int))),(84,.v (.slice bJ ((uv k2).length) bK)),(85,.v (.slice aP ((qap W l (Tree.mk n1 s2 b3 l4 u5) k2 ++ dm).length + (uv k2).length) aQ))]) kz
     have gC:=gB.cast (env':=[(0,.v (.slice A l.length c)),(1,.v (.int .i64 v)),(2,.v (.bool flex)),(7,.p 0 0),(9,.v (.slice A_ ((qay W l v (Tree.mk n1 s2 b3 l4 u5) 0).length) c_)),(11,.v (.int .i64 ((qaD W l (Tree.mk n1 s2 b3 l4 u5) k2 + cn:Nat):Int))),(14,.v (.int .i64 ((k2:Nat):Int))),(17,.v (.slice av ((W (Fld.mk ab ac ae af aa ag ah ai) (Tree.at_ (Tree.mk n1 s2 b3 l4 u5) q)).length) aw)),(51,.v (.int .i64 (((qam l).toNat:Nat):Int))),(52,.v (.int .i64 ((k2:Nat):Int))),(55,.v (.slice A l.length c)),(56,.v (.int .i64 ((l.length:Nat):Int))),(57,.v (.int .i64 ((q:Nat):Int))),(81,.v (.slice A3_ ((qap W l (Tree.mk n1 s2 b3 l4 u5) k2 ++ dm).length) c3_)),(83,.v (.int .u64 ((k2:Nat):Int))),(84,.v (.slice bJ ((uv k2).length) bK)),(85,.v (.slice aP ((qap W l (Tree.mk n1 s2 b3 l4 u5) k2 ++ dm ++ (uv k2)).length) aQ))]) (by simp only [List.length_append,List.length_cons,List.length_nil,Nat.zero_add])
     refine qaj [5,6,7] [8,9,10,11,12] [(0,.v (.slice A l.length c)),(1,.v (.int .i64 v)),(2,.v (.bool flex)),(7,.p 0 0),(9,.v (.slice A_ ((qay W l v (Tree.mk n1 s2 b3 l4 u5) 0).length) c_)),(11,.v (.int .i64 ((qaD W l (Tree.mk n1 s2 b3 l4 u5) k2 + cn:Nat):Int))),(14,.v (.int .i64 ((k2:Nat):Int))),(17,.v (.slice av ((W (Fld.mk ab ac ae af aa ag ah ai) (Tree.at_ (Tree.mk n1 s2 b3 l4 u5) q)).length) aw)),(51,.v (.int .i64 (((qam l).toNat:Nat):Int))),(52,.v (.int .i64 ((k2:Nat):Int))),(55,.v (.slice A l.length c)),(56,.v (.int .i64 ((l.length:Nat):Int))),(57,.v (.int .i64 ((q:Nat):Int))),(85,.v (.slice aP ((qap W l (Tree.mk n1 s2 b3 l4 u5) k2 ++ dm ++ (uv k2)).length) aQ)),(88,.v (.int .u64 (IntKind.u64.wrap (((W (Fld.mk ab ac ae af aa ag ah ai) (Tree.at_ (Tree.mk n1 s2 b3 l4 u5) q)).length:Nat):Int))))] dZ gC fun nM gD=>?_
     have gE:IntKind.u64.wrap (((W (Fld.mk ab ac ae af aa ag ah ai) (Tree.at_ (Tree.mk n1 s2 b3 l4 u5) q)).length:Nat):Int) = (((W (Fld.mk ab ac ae af aa ag ah ai) (Tree.at_ (Tree.mk n1 s2 b3 l4 u5) q)).length:Nat):Int):=by simp only [qct,qaU,qbn,IntKind.wrap_i64,IntKind.wrap_i32]; omega
     have gF:=EnvOk.pick gD (ks:=[0,1,2,7,9,11,14,17,51,52,55,56,57,85,88]) (env':=[(0,.v (.slice A l.length c)),(1,.v (.int .i64 v)),(2,.v (.bool flex)),(7,.p 0 0),(9,.v (.slice A_ ((qay W l v (Tree.mk n1 s2 b3 l4 u5) 0).length) c_)),(11,.v (.int .i64 ((qaD W l (Tree.mk n1 s2 b3 l4 u5) k2 + cn:Nat):Int))),(14,.v (.int .i64 ((k2:Nat):Int))),(17,.v (.slice av ((W (Fld.mk ab ac ae af aa ag ah ai) (Tree.at_ (Tree.mk n1 s2 b3 l4 u5) q)).length) aw)),(51,.v (.int .i64 (((qam l).toNat:Nat):Int))),(52,.v (.int .i64 ((k2:Nat):Int))),(55,.v (.slice A l.length c)),(56,.v (.int .i64 ((l.length:Nat):Int))),(57,.v (.int .i64 ((q:Nat):Int))),(85,.v (.slice aP ((qap W l (Tree.mk n1 s2 b3 l4 u5) k2 ++ dm ++ (uv k2)).length) aQ)),(88,.v (.int .u64 (IntKind.u64.wrap (((W (Fld.mk ab ac ae af aa ag ah ai) (Tree.at_ (Tree.mk n1 s2 b3 l4 u5) q)).length:Nat):Int))))]) kz
     have gG:=gF.cast (env':=[(0,.v (.slice A l.length c)),(1,.v (.int .i64 v)),(2,.v (.bool flex)),(7,.p 0 0),(9,.v (.slice A_ ((qay W l v (Tree.mk n1 s2 b3 l4 u5) 0).length) c_)),(11,.v (.int .i64 ((qaD W l (Tree.mk n1 s2 b3 l4 u5) k2 + cn:Nat):Int))),(14,.v (.int .i64 ((k2:Nat):Int))),(17,.v (.slice av ((W (Fld.mk ab ac ae af aa ag ah ai) (Tree.at_ (Tree.mk n1 s2 b3 l4 u5) q)).length) aw)),(51,.v (.int .i64 (((qam l).toNat:Nat):Int))),(52,.v (.int .i64 ((k2:Nat):Int))),(55,.v (.slice A l.length c)),(56,.v (.int .i64 ((l.length:Nat):Int))),(57,.v (.int .i64 ((q:Nat):Int))),(85,.v (.slice aP ((qap W l (Tree.mk n1 s2 b3 l4 u5) k2 ++ dm ++ (uv k2)).length) aQ)),(88,.v (.int .u64 (((W (Fld.mk ab ac ae af aa ag ah ai) (Tree.at_ (Tree.mk n1 s2 b3 l4 u5) q)).length:Nat):Int)))]) (by rw [gE])
     refine qal (qak gG (f:=83) (vs:=[.int .u64 (((W (Fld.mk ab ac ae af aa ag ah ai) (Tree.at_ (Tree.mk n1 s2 b3 l4 u5) q)).length:Nat):Int)]) (d:=89) kz Tryd.call83 (qcC ((W (Fld.mk ab ac ae af aa ag ah ai) (Tree.at_ (Tree.mk n1 s2 b3 l4 u5) q)).length) (by omega) _) ?_)
     rintro e_ nN ⟨cA,cB,rfl,gH,gI⟩
     refine ⟨_,rfl,fun nO gJ=>?_⟩
     obtain ⟨dh,gK⟩:=dZ.frFresh gI (brow cA cB 5 (uv ((W (Fld.mk ab ac ae af aa ag ah ai) (Tree.at_ (Tree.mk n1 s2 b3 l4 u5) q)).length))) (Nat.le_refl _) gH
     refine qal (qaJ dh gJ (k:=1) (d:=90) (t:=22) (e:=5) (size:=1) (bytes:=1) (A:=aP) (As:=cA) (m0:=((qap W l (Tree.mk n1 s2 b3 l4 u5) k2 ++ dm ++ (uv k2)).length)) (c:=aQ) (m:=((uv ((W (Fld.mk ab ac ae af aa ag ah ai) (Tree.at_ (Tree.mk n1 s2 b3 l4 u5) q)).length)).length)) (cs:=cB) (xs:=(bc (qap W l (Tree.mk n1 s2 b3 l4 u5) k2 ++ dm ++ (uv k2)))) (news:=bc (uv ((W (Fld.mk ab ac ae af aa ag ah ai) (Tree.at_ (Tree.mk n1 s2 b3 l4 u5) q)).length))) kz kz rfl (qbA (dh.own 4 _ rfl) (qb2 _)) (qbG (dh.own 4 _ rfl)) (by have h_:=congrArg List.length hB2; rw [qcA ap (by omega) (by simpa using ay)] at h_; simp only [List.length_append] at h_ ⊢; omega) fun ba bf nP nQ gL gM gN=>?_)
     have gO:(⟨ba,bf,5,1,(qap W l (Tree.mk n1 s2 b3 l4 u5) k2 ++ dm ++ (uv k2)).length + (uv ((W (Fld.mk ab ac ae af aa ag ah ai) (Tree.at_ (Tree.mk n1 s2 b3 l4 u5) q)).length)).length,bc (qap W l (Tree.mk n1 s2 b3 l4 u5) k2 ++ dm ++ (uv k2)) ++ bc (uv ((W (Fld.mk ab ac ae af aa ag ah ai) (Tree.at_ (Tree.mk n1 s2 b3 l4 u5) q)).length))⟩:Rw) = brow ba bf 5 (qap W l (Tree.mk n1 s2 b3 l4 u5) k2 ++ dm ++ (uv k2) ++ (uv ((W (Fld.mk ab ac ae af aa ag ah ai) (Tree.at_ (Tree.mk n1 s2 b3 l4 u5) q)).length))):=qbj (rfl) rfl
     obtain ⟨cd,gP⟩:=gM.rowEq 1 [brow A_ c_ 5 (qay W l v (Tree.mk n1 s2 b3 l4 u5) 0),brow ba bf 5 (qap W l (Tree.mk n1 s2 b3 l4 u5) k2 ++ dm ++ (uv k2) ++ (uv ((W (Fld.mk ab ac ae af aa ag ah ai) (Tree.at_ (Tree.mk n1 s2 b3 l4 u5) q)).length))),brow av aw 5 (W (Fld.mk ab ac ae af aa ag ah ai) (Tree.at_ (Tree.mk n1 s2 b3 l4 u5) q)),brow bJ bK 5 (uv k2),brow cA cB 5 (uv ((W (Fld.mk ab ac ae af aa ag ah ai) (Tree.at_ (Tree.mk n1 s2 b3 l4 u5) q)).length))] gO
     have gQ:=EnvOk.pick gN (ks:=[0,1,2,7,9,11,14,17,51,52,55,56,57,85,88,89,90]) (env':=[(0,.v (.slice A l.length c)),(1,.v (.int .i64 v)),(2,.v (.bool flex)),(7,.p 0 0),(9,.v (.slice A_ ((qay W l v (Tree.mk n1 s2 b3 l4 u5) 0).length) c_)),(11,.v (.int .i64 ((qaD W l (Tree.mk n1 s2 b3 l4 u5) k2 + cn:Nat):Int))),(14,.v (.int .i64 ((k2:Nat):Int))),(17,.v (.slice av ((W (Fld.mk ab ac ae af aa ag ah ai) (Tree.at_ (Tree.mk n1 s2 b3 l4 u5) q)).length) aw)),(51,.v (.int .i64 (((qam l).toNat:Nat):Int))),(52,.v (.int .i64 ((k2:Nat):Int))),(55,.v (.slice A l.length c)),(56,.v (.int .i64 ((l.length:Nat):Int))),(57,.v (.int .i64 ((q:Nat):Int))),(85,.v (.slice aP ((qap W l (Tree.mk n1 s2 b3 l4 u5) k2 ++ dm ++ (uv k2)).length) aQ)),(88,.v (.int .u64 (((W (Fld.mk ab ac ae af aa ag ah ai) (Tree.at_ (Tree.mk n1 s2 b3 l4 u5) q)).length:Nat):Int))),(89,.v (.slice cA ((uv ((W (Fld.mk ab ac ae af aa ag ah ai) (Tree.at_ (Tree.mk n1 s2 b3 l4 u5) q)).length)).length) cB)),(90,.v (.slice ba ((qap W l (Tree.mk n1 s2 b3 l4 u5) k2 ++ dm ++ (uv k2)).length + (uv ((W (Fld.mk ab ac ae af aa ag ah ai) (Tree.at_ (Tree.mk n1 s2 b3 l4 u5) q)).length)).length) bf))]) kz
     have gR:=gQ.cast (env':=[(0,.v (.slice A l.length c)),(1,.v (.int .i64 v)),(2,.v (.bool flex)),(7,.p 0 0),(9,.v (.slice A_ ((qay W l v (Tree.mk n1 s2 b3 l4 u5) 0).length) c_)),(11,.v (.int .i64 ((qaD W l (Tree.mk n1 s2 b3 l4 u5) k2 + cn:Nat):Int))),(14,.v (.int .i64 ((k2:Nat):Int))),(17,.v (.slice av ((W (Fld.mk ab ac ae af aa ag ah ai) (Tree.at_ (Tree.mk n1 s2 b3 l4 u5) q)).length) aw)),(51,.v (.int .i64 (((qam l).toNat:Nat):Int))),(52,.v (.int .i64 ((k2:Nat):Int))),(55,.v (.slice A l.length c)),(56,.v (.int .i64 ((l.length:Nat):Int))),(57,.v (.int .i64 ((q:Nat):Int))),(85,.v (.slice aP ((qap W l (Tree.mk n1 s2 b3 l4 u5) k2 ++ dm ++ (uv k2)).length) aQ)),(88,.v (.int .u64 (((W (Fld.mk ab ac ae af aa ag ah ai) (Tree.at_ (Tree.mk n1 s2 b3 l4 u5) q)).length:Nat):Int))),(89,.v (.slice cA ((uv ((W (Fld.mk ab ac ae af aa ag ah ai) (Tree.at_ (Tree.mk n1 s2 b3 l4 u5) q)).length)).length) cB)),(90,.v (.slice ba ((qap W l (Tree.mk n1 s2 b3 l4 u5) k2 ++ dm ++ (uv k2) ++ (uv ((W (Fld.mk ab ac ae af aa ag ah ai) (Tree.at_ (Tree.mk n1 s2 b3 l4 u5) q)).length))).length) bf))]) (by simp only [List.length_append,List.length_cons,List.length_nil,Nat.zero_add])
     refine qaj [10] [11,12] [(0,.v (.slice A l.length c)),(1,.v (.int .i64 v)),(2,.v (.bool flex)),(7,.p 0 0),(9,.v (.slice A_ ((qay W l v (Tree.mk n1 s2 b3 l4 u5) 0).length) c_)),(11,.v (.int .i64 ((qaD W l (Tree.mk n1 s2 b3 l4 u5) k2 + cn:Nat):Int))),(14,.v (.int .i64 ((k2:Nat):Int))),(51,.v (.int .i64 (((qam l).toNat:Nat):Int))),(52,.v (.int .i64 ((k2:Nat):Int))),(55,.v (.slice A l.length c)),(56,.v (.int .i64 ((l.length:Nat):Int))),(57,.v (.int .i64 ((q:Nat):Int))),(90,.v (.slice ba ((qap W l (Tree.mk n1 s2 b3 l4 u5) k2 ++ dm ++ (uv k2) ++ (uv ((W (Fld.mk ab ac ae af aa ag ah ai) (Tree.at_ (Tree.mk n1 s2 b3 l4 u5) q)).length))).length) bf)),(91,.v (.slice av ((W (Fld.mk ab ac ae af aa ag ah ai) (Tree.at_ (Tree.mk n1 s2 b3 l4 u5) q)).length) aw))] cd gR fun nR gS=>?_
     refine qal (qaJ cd gS (k:=1) (d:=92) (t:=22) (e:=5) (size:=1) (bytes:=1) (A:=ba) (As:=av) (m0:=((qap W l (Tree.mk n1 s2 b3 l4 u5) k2 ++ dm ++ (uv k2) ++ (uv ((W (Fld.mk ab ac ae af aa ag ah ai) (Tree.at_ (Tree.mk n1 s2 b3 l4 u5) q)).length))).length)) (c:=bf) (m:=((W (Fld.mk ab ac ae af aa ag ah ai) (Tree.at_ (Tree.mk n1 s2 b3 l4 u5) q)).length)) (cs:=aw) (xs:=(bc (qap W l (Tree.mk n1 s2 b3 l4 u5) k2 ++ dm ++ (uv k2) ++ (uv ((W (Fld.mk ab ac ae af aa ag ah ai) (Tree.at_ (Tree.mk n1 s2 b3 l4 u5) q)).length))))) (news:=bc (W (Fld.mk ab ac ae af aa ag ah ai) (Tree.at_ (Tree.mk n1 s2 b3 l4 u5) q))) kz kz rfl (qbA (cd.own 2 _ rfl) (qb2 _)) (qbG (cd.own 2 _ rfl)) (by have h_:=congrArg List.length hB2; rw [qcA ap (by omega) (by simpa using ay)] at h_; simp only [List.length_append] at h_ ⊢; omega) fun aI aJ nS nT gT gU gV=>?_)
     have gW:(⟨aI,aJ,5,1,(qap W l (Tree.mk n1 s2 b3 l4 u5) k2 ++ dm ++ (uv k2) ++ (uv ((W (Fld.mk ab ac ae af aa ag ah ai) (Tree.at_ (Tree.mk n1 s2 b3 l4 u5) q)).length))).length + (W (Fld.mk ab ac ae af aa ag ah ai) (Tree.at_ (Tree.mk n1 s2 b3 l4 u5) q)).length,bc (qap W l (Tree.mk n1 s2 b3 l4 u5) k2 ++ dm ++ (uv k2) ++ (uv ((W (Fld.mk ab ac ae af aa ag ah ai) (Tree.at_ (Tree.mk n1 s2 b3 l4 u5) q)).length))) ++ bc (W (Fld.mk ab ac ae af aa ag ah ai) (Tree.at_ (Tree.mk n1 s2 b3 l4 u5) q))⟩:Rw) = brow aI aJ 5 (qap W l (Tree.mk n1 s2 b3 l4 u5) k2 ++ dm ++ (uv k2) ++ (uv ((W (Fld.mk ab ac ae af aa ag ah ai) (Tree.at_ (Tree.mk n1 s2 b3 l4 u5) q)).length)) ++ (W (Fld.mk ab ac ae af aa ag ah ai) (Tree.at_ (Tree.mk n1 s2 b3 l4 u5) q))):=qbj (rfl) rfl
     obtain ⟨ce,gX⟩:=gU.rowEq 1 [brow A_ c_ 5 (qay W l v (Tree.mk n1 s2 b3 l4 u5) 0),brow aI aJ 5 (qap W l (Tree.mk n1 s2 b3 l4 u5) k2 ++ dm ++ (uv k2) ++ (uv ((W (Fld.mk ab ac ae af aa ag ah ai) (Tree.at_ (Tree.mk n1 s2 b3 l4 u5) q)).length)) ++ (W (Fld.mk ab ac ae af aa ag ah ai) (Tree.at_ (Tree.mk n1 s2 b3 l4 u5) q))),brow av aw 5 (W (Fld.mk ab ac ae af aa ag ah ai) (Tree.at_ (Tree.mk n1 s2 b3 l4 u5) q)),brow bJ bK 5 (uv k2),brow cA cB 5 (uv ((W (Fld.mk ab ac ae af aa ag ah ai) (Tree.at_ (Tree.mk n1 s2 b3 l4 u5) q)).length))] gW
     have gY:=EnvOk.pick gV (ks:=[0,1,2,7,9,11,14,51,52,55,56,57,90,91,92]) (env':=[(0,.v (.slice A l.length c)),(1,.v (.int .i64 v)),(2,.v (.bool flex)),(7,.p 0 0),(9,.v (.slice A_ ((qay W l v (Tree.mk n1 s2 b3 l4 u5) 0).length) c_)),(11,.v (.int .i64 ((qaD W l (Tree.mk n1 s2 b3 l4 u5) k2 + cn:Nat):Int))),(14,.v (.int .i64 ((k2:Nat):Int))),(51,.v (.int .i64 (((qam l).toNat:Nat):Int))),(52,.v (.int .i64 ((k2:Nat):Int))),(55,.v (.slice A l.length c)),(56,.v (.int .i64 ((l.length:Nat):Int))),(57,.v (.int .i64 ((q:Nat):Int))),(90,.v (.slice ba ((qap W l (Tree.mk n1 s2 b3 l4 u5) k2 ++ dm ++ (uv k2) ++ (uv ((W (Fld.mk ab ac ae af aa ag ah ai) (Tree.at_ (Tree.mk n1 s2 b3 l4 u5) q)).length))).length) bf)),(91,.v (.slice av ((W (Fld.mk ab ac ae af aa ag ah ai) (Tree.at_ (Tree.mk n1 s2 b3 l4 u5) q)).length) aw)),(92,.v (.slice aI ((qap W l (Tree.mk n1 s2 b3 l4 u5) k2 ++ dm ++ (uv k2) ++ (uv ((W (Fld.mk ab ac ae af aa ag ah ai) (Tree.at_ (Tree.mk n1 s2 b3 l4 u5) q)).length))).length + (W (Fld.mk ab ac ae af aa ag ah ai) (Tree.at_ (Tree.mk n1 s2 b3 l4 u5) q)).length) aJ))]) kz
     have gZ:=gY.cast (env':=[(0,.v (.slice A l.length c)),(1,.v (.int .i64 v)),(2,.v (.bool flex)),(7,.p 0 0),(9,.v (.slice A_ ((qay W l v (Tree.mk n1 s2 b3 l4 u5) 0).length) c_)),(11,.v (.int .i64 ((qaD W l (Tree.mk n1 s2 b3 l4 u5) k2 + cn:Nat):Int))),(14,.v (.int .i64 ((k2:Nat):Int))),(51,.v (.int .i64 (((qam l).toNat:Nat):Int))),(52,.v (.int .i64 ((k2:Nat):Int))),(55,.v (.slice A l.length c)),(56,.v (.int .i64 ((l.length:Nat):Int))),(57,.v (.int .i64 ((q:Nat):Int))),(90,.v (.slice ba ((qap W l (Tree.mk n1 s2 b3 l4 u5) k2 ++ dm ++ (uv k2) ++ (uv ((W (Fld.mk ab ac ae af aa ag ah ai) (Tree.at_ (Tree.mk n1 s2 b3 l4 u5) q)).length))).length) bf)),(91,.v (.slice av ((W (Fld.mk ab ac ae af aa ag ah ai) (Tree.at_ (Tree.mk n1 s2 b3 l4 u5) q)).length) aw)),(92,.v (.slice aI ((qap W l (Tree.mk n1 s2 b3 l4 u5) k2 ++ dm ++ (uv k2) ++ (uv ((W (Fld.mk ab ac ae af aa ag ah ai) (Tree.at_ (Tree.mk n1 s2 b3 l4 u5) q)).length)) ++ (W (Fld.mk ab ac ae af aa ag ah ai) (Tree.at_ (Tree.mk n1 s2 b3 l4 u5) q))).length) aJ))]) (by simp only [List.length_append,List.length_cons,List.length_nil,Nat.zero_add])
     refine qaj [12] [] [(0,.v (.slice A l.length c)),(1,.v (.int .i64 v)),(2,.v (.bool flex)),(7,.p 0 0),(9,.v (.slice A_ ((qay W l v (Tree.mk n1 s2 b3 l4 u5) 0).length) c_)),(10,.v (.slice aI ((qap W l (Tree.mk n1 s2 b3 l4 u5) k2 ++ dm ++ (uv k2) ++ (uv ((W (Fld.mk ab ac ae af aa ag ah ai) (Tree.at_ (Tree.mk n1 s2 b3 l4 u5) q)).length)) ++ (W (Fld.mk ab ac ae af aa ag ah ai) (Tree.at_ (Tree.mk n1 s2 b3 l4 u5) q))).length) aJ)),(11,.v (.int .i64 ((qaD W l (Tree.mk n1 s2 b3 l4 u5) k2 + cn:Nat):Int))),(14,.v (.int .i64 ((k2:Nat):Int))),(51,.v (.int .i64 (((qam l).toNat:Nat):Int))),(52,.v (.int .i64 ((k2:Nat):Int))),(55,.v (.slice A l.length c)),(56,.v (.int .i64 ((l.length:Nat):Int))),(57,.v (.int .i64 ((q:Nat):Int)))] ce gZ fun nU g6=>?_
     refine qae (qab ?_)
     refine qar [0,1,2] kz ?_
     refine qaj [0,1,2] [] [(0,.v (.slice A l.length c)),(1,.v (.int .i64 v)),(2,.v (.bool flex)),(7,.p 0 0),(9,.v (.slice A_ ((qay W l v (Tree.mk n1 s2 b3 l4 u5) 0).length) c_)),(10,.v (.slice aI ((qap W l (Tree.mk n1 s2 b3 l4 u5) k2 ++ dm ++ (uv k2) ++ (uv ((W (Fld.mk ab ac ae af aa ag ah ai) (Tree.at_ (Tree.mk n1 s2 b3 l4 u5) q)).length)) ++ (W (Fld.mk ab ac ae af aa ag ah ai) (Tree.at_ (Tree.mk n1 s2 b3 l4 u5) q))).length) aJ)),(11,.v (.int .i64 (IntKind.i64.wrap (((qaD W l (Tree.mk n1 s2 b3 l4 u5) k2 + cn:Nat):Int) + 1)))),(14,.v (.int .i64 ((k2:Nat):Int))),(51,.v (.int .i64 (((qam l).toNat:Nat):Int))),(52,.v (.int .i64 ((k2:Nat):Int))),(55,.v (.slice A l.length c)),(56,.v (.int .i64 ((l.length:Nat):Int))),(57,.v (.int .i64 ((q:Nat):Int)))] ce g6 fun nV g7=>?_
     refine qae ?_
     refine qau ?_
     refine qab ?_
     refine qar [0,1] kz ?_
     refine qaj [0,1] [] [(0,.v (.slice A l.length c)),(1,.v (.int .i64 v)),(2,.v (.bool flex)),(7,.p 0 0),(9,.v (.slice A_ ((qay W l v (Tree.mk n1 s2 b3 l4 u5) 0).length) c_)),(10,.v (.slice aI ((qap W l (Tree.mk n1 s2 b3 l4 u5) k2 ++ dm ++ (uv k2) ++ (uv ((W (Fld.mk ab ac ae af aa ag ah ai) (Tree.at_ (Tree.mk n1 s2 b3 l4 u5) q)).length)) ++ (W (Fld.mk ab ac ae af aa ag ah ai) (Tree.at_ (Tree.mk n1 s2 b3 l4 u5) q))).length) aJ)),(11,.v (.int .i64 (IntKind.i64.wrap (((qaD W l (Tree.mk n1 s2 b3 l4 u5) k2 + cn:Nat):Int) + 1)))),(14,.v (.int .i64 ((k2:Nat):Int))),(51,.v (.int .i64 (((qam l).toNat:Nat):Int))),(52,.v (.int .i64 ((k2:Nat):Int))),(55,.v (.slice A l.length c)),(56,.v (.int .i64 ((l.length:Nat):Int))),(57,.v (.int .i64 (IntKind.i64.wrap (((q:Nat):Int) + 1))))] ce g7 fun nW g8=>?_
     refine qae (qab ?_)
     obtain ⟨cg,g9,hC⟩:=ce.cutB g8 1 [⟨cH,0,[.int .i64 n1,.slice A6 s2.length c7,.bool b3,.slice A8 l4.length c9,.slice aV u5.length aW],true⟩] [(0,.v (.slice A l.length c)),(1,.v (.int .i64 v)),(2,.v (.bool flex)),(7,.p 0 0),(9,.v (.slice A_ ((qay W l v (Tree.mk n1 s2 b3 l4 u5) 0).length) c_)),(10,.v (.slice aI ((qap W l (Tree.mk n1 s2 b3 l4 u5) k2 ++ dm ++ (uv k2) ++ (uv ((W (Fld.mk ab ac ae af aa ag ah ai) (Tree.at_ (Tree.mk n1 s2 b3 l4 u5) q)).length)) ++ (W (Fld.mk ab ac ae af aa ag ah ai) (Tree.at_ (Tree.mk n1 s2 b3 l4 u5) q))).length) aJ)),(11,.v (.int .i64 (IntKind.i64.wrap (((qaD W l (Tree.mk n1 s2 b3 l4 u5) k2 + cn:Nat):Int) + 1)))),(14,.v (.int .i64 ((k2:Nat):Int))),(51,.v (.int .i64 (((qam l).toNat:Nat):Int))),(52,.v (.int .i64 ((k2:Nat):Int))),(55,.v (.slice A l.length c)),(56,.v (.int .i64 ((l.length:Nat):Int))),(57,.v (.int .i64 (IntKind.i64.wrap (((q:Nat):Int) + 1))))]
     obtain ⟨hJ,hK⟩:=g9.cutR 2 [brow A_ c_ 5 (qay W l v (Tree.mk n1 s2 b3 l4 u5) 0),brow aI aJ 5 (qap W l (Tree.mk n1 s2 b3 l4 u5) k2 ++ dm ++ (uv k2) ++ (uv ((W (Fld.mk ab ac ae af aa ag ah ai) (Tree.at_ (Tree.mk n1 s2 b3 l4 u5) q)).length)) ++ (W (Fld.mk ab ac ae af aa ag ah ai) (Tree.at_ (Tree.mk n1 s2 b3 l4 u5) q)))]
     have d5:(qap W l (Tree.mk n1 s2 b3 l4 u5) k2 ++ dm ++ (uv k2) ++ (uv ((W (Fld.mk ab ac ae af aa ag ah ai) (Tree.at_ (Tree.mk n1 s2 b3 l4 u5) q)).length)) ++ (W (Fld.mk ab ac ae af aa ag ah ai) (Tree.at_ (Tree.mk n1 s2 b3 l4 u5) q))) = (qap W l (Tree.mk n1 s2 b3 l4 u5) k2 ++ (dm ++ (uv k2 ++ uv (W (Fld.mk ab ac ae af aa ag ah ai) (Tree.at_ (Tree.mk n1 s2 b3 l4 u5) q)).length ++ W (Fld.mk ab ac ae af aa ag ah ai) (Tree.at_ (Tree.mk n1 s2 b3 l4 u5) q)))):=by simp only [List.append_assoc]
     have hY:=congrArg (brow aI aJ 5) d5
     obtain ⟨hZ,ia⟩:=hJ.rowEq 1 [brow A_ c_ 5 (qay W l v (Tree.mk n1 s2 b3 l4 u5) 0),brow aI aJ 5 (qap W l (Tree.mk n1 s2 b3 l4 u5) k2 ++ (dm ++ (uv k2 ++ uv (W (Fld.mk ab ac ae af aa ag ah ai) (Tree.at_ (Tree.mk n1 s2 b3 l4 u5) q)).length ++ W (Fld.mk ab ac ae af aa ag ah ai) (Tree.at_ (Tree.mk n1 s2 b3 l4 u5) q))))] hY
     rw [d5] at cg
     have ib:IntKind.i64.wrap (((q:Nat):Int) + 1) = ((q + 1:Nat):Int):=qaR (by omega)
     rw [ib] at cg
     have ic:IntKind.i64.wrap (((qaD W l (Tree.mk n1 s2 b3 l4 u5) k2 + cn:Nat):Int) + 1) = ((qaD W l (Tree.mk n1 s2 b3 l4 u5) k2 + (cn + 1):Nat):Int):=by rw [wrap_i64 (by omega) (by omega)]; omega
     rw [ic] at cg
     exact ⟨l.length - (q + 1),by omega,q + 1,aI,aJ,(dm ++ (uv k2 ++ uv (W (Fld.mk ab ac ae af aa ag ah ai) (Tree.at_ (Tree.mk n1 s2 b3 l4 u5) q)).length ++ W (Fld.mk ab ac ae af aa ag ah ai) (Tree.at_ (Tree.mk n1 s2 b3 l4 u5) q))),(cn + 1),rfl,by omega,by rw [List.append_assoc,← qcA ap (by omega) (by simpa using ay)]; exact hB2,by rw [Nat.add_assoc,← qgq ap (by omega) (by simpa using ay)]; exact hN2,cg.pk,hZ,(((((((((((((((((((bV.trans cW).trans cX).trans cY).trans bX).trans da).trans f8).trans df).trans dY).trans gv).trans gw).trans gA).trans gK).trans gL).trans gP).trans gT).trans gX).trans hC).trans hK).trans ia)⟩
    refine wp_skip ?_
    refine qau ?_
    refine qab ?_
    refine qar [0,1] kz ?_
    refine qaj [0,1] [] [(0,.v (.slice A l.length c)),(1,.v (.int .i64 v)),(2,.v (.bool flex)),(7,.p 0 0),(9,.v (.slice A_ ((qay W l v (Tree.mk n1 s2 b3 l4 u5) 0).length) c_)),(10,.v (.slice A3_ ((qap W l (Tree.mk n1 s2 b3 l4 u5) k2 ++ dm).length) c3_)),(11,.v (.int .i64 ((qaD W l (Tree.mk n1 s2 b3 l4 u5) k2 + cn:Nat):Int))),(14,.v (.int .i64 ((k2:Nat):Int))),(51,.v (.int .i64 (((qam l).toNat:Nat):Int))),(52,.v (.int .i64 ((k2:Nat):Int))),(55,.v (.slice A l.length c)),(56,.v (.int .i64 ((l.length:Nat):Int))),(57,.v (.int .i64 (IntKind.i64.wrap (((q:Nat):Int) + 1))))] bY db fun nX ig=>?_
    refine qae (qab ?_)
    obtain ⟨d6,ii,ij⟩:=bY.cutB ig 1 [⟨cH,0,[.int .i64 n1,.slice A6 s2.length c7,.bool b3,.slice A8 l4.length c9,.slice aV u5.length aW],true⟩] [(0,.v (.slice A l.length c)),(1,.v (.int .i64 v)),(2,.v (.bool flex)),(7,.p 0 0),(9,.v (.slice A_ ((qay W l v (Tree.mk n1 s2 b3 l4 u5) 0).length) c_)),(10,.v (.slice A3_ ((qap W l (Tree.mk n1 s2 b3 l4 u5) k2 ++ dm).length) c3_)),(11,.v (.int .i64 ((qaD W l (Tree.mk n1 s2 b3 l4 u5) k2 + cn:Nat):Int))),(14,.v (.int .i64 ((k2:Nat):Int))),(51,.v (.int .i64 (((qam l).toNat:Nat):Int))),(52,.v (.int .i64 ((k2:Nat):Int))),(55,.v (.slice A l.length c)),(56,.v (.int .i64 ((l.length:Nat):Int))),(57,.v (.int .i64 (IntKind.i64.wrap (((q:Nat):Int) + 1))))]
    have ik:IntKind.i64.wrap (((q:Nat):Int) + 1) = ((q + 1:Nat):Int):=qaR (by omega)
    rw [ik] at d6
    exact ⟨l.length - (q + 1),by omega,q + 1,A3_,c3_,dm,cn,rfl,by omega,by rw [← qfJ ap (by simpa using ay)]; exact hB2,by rw [← qfL ap (by simpa using ay)]; exact hN2,d6.pk,ii,((((((bV.trans cW).trans cX).trans cY).trans bX).trans da).trans ij)⟩
   have lG:aa ≠ ((k2:Nat):Int):=by simpa using bt
   have il:=dV.cast (env':=[(0,.v (.slice A l.length c)),(1,.v (.int .i64 v)),(2,.v (.bool flex)),(7,.p 0 0),(9,.v (.slice A_ ((qay W l v (Tree.mk n1 s2 b3 l4 u5) 0).length) c_)),(10,.v (.slice A3_ ((qap W l (Tree.mk n1 s2 b3 l4 u5) k2 ++ dm).length) c3_)),(11,.v (.int .i64 ((qaD W l (Tree.mk n1 s2 b3 l4 u5) k2 + cn:Nat):Int))),(14,.v (.int .i64 ((k2:Nat):Int))),(15,.v (.int .i64 ((q:Nat):Int))),(16,.p 1 0),(51,.v (.int .i64 (((qam l).toNat:Nat):Int))),(52,.v (.int .i64 ((k2:Nat):Int))),(55,.v (.slice A l.length c)),(56,.v (.int .i64 ((l.length:Nat):Int))),(57,.v (.int .i64 ((q:Nat):Int))),(66,.v (.bool false))]) (by rw [bt])
   refine qaH [5,6,7,8,9,10,11] [(0,.v (.slice A l.length c)),(1,.v (.int .i64 v)),(2,.v (.bool flex)),(7,.p 0 0),(9,.v (.slice A_ ((qay W l v (Tree.mk n1 s2 b3 l4 u5) 0).length) c_)),(10,.v (.slice A3_ ((qap W l (Tree.mk n1 s2 b3 l4 u5) k2 ++ dm).length) c3_)),(11,.v (.int .i64 ((qaD W l (Tree.mk n1 s2 b3 l4 u5) k2 + cn:Nat):Int))),(14,.v (.int .i64 ((k2:Nat):Int))),(15,.v (.int .i64 ((q:Nat):Int))),(16,.p 1 0),(51,.v (.int .i64 (((qam l).toNat:Nat):Int))),(52,.v (.int .i64 ((k2:Nat):Int))),(55,.v (.slice A l.length c)),(56,.v (.int .i64 ((l.length:Nat):Int))),(57,.v (.int .i64 ((q:Nat):Int))),(73,.v (.bool false))] 0 (qaa (qac (qaa (qaa (qac (qac (qaa (qaa (qac (qaa qaf)))))))))) (fun _ h=>h.cells) cZ il fun nY d7=>?_
   refine qaL kz ?_ _
   refine qab ?_
   refine qaQ d7 (b:=false) kz rfl ?_
   refine wp_skip ?_
   refine qau ?_
   refine qab ?_
   refine qar [0,1] kz ?_
   refine qaj [0,1] [] [(0,.v (.slice A l.length c)),(1,.v (.int .i64 v)),(2,.v (.bool flex)),(7,.p 0 0),(9,.v (.slice A_ ((qay W l v (Tree.mk n1 s2 b3 l4 u5) 0).length) c_)),(10,.v (.slice A3_ ((qap W l (Tree.mk n1 s2 b3 l4 u5) k2 ++ dm).length) c3_)),(11,.v (.int .i64 ((qaD W l (Tree.mk n1 s2 b3 l4 u5) k2 + cn:Nat):Int))),(14,.v (.int .i64 ((k2:Nat):Int))),(51,.v (.int .i64 (((qam l).toNat:Nat):Int))),(52,.v (.int .i64 ((k2:Nat):Int))),(55,.v (.slice A l.length c)),(56,.v (.int .i64 ((l.length:Nat):Int))),(57,.v (.int .i64 (IntKind.i64.wrap (((q:Nat):Int) + 1))))] aO d7 fun nZ im=>?_
   refine qae (qab ?_)
   obtain ⟨d8,io,ip⟩:=aO.cutB im 1 [⟨cH,0,[.int .i64 n1,.slice A6 s2.length c7,.bool b3,.slice A8 l4.length c9,.slice aV u5.length aW],true⟩] [(0,.v (.slice A l.length c)),(1,.v (.int .i64 v)),(2,.v (.bool flex)),(7,.p 0 0),(9,.v (.slice A_ ((qay W l v (Tree.mk n1 s2 b3 l4 u5) 0).length) c_)),(10,.v (.slice A3_ ((qap W l (Tree.mk n1 s2 b3 l4 u5) k2 ++ dm).length) c3_)),(11,.v (.int .i64 ((qaD W l (Tree.mk n1 s2 b3 l4 u5) k2 + cn:Nat):Int))),(14,.v (.int .i64 ((k2:Nat):Int))),(51,.v (.int .i64 (((qam l).toNat:Nat):Int))),(52,.v (.int .i64 ((k2:Nat):Int))),(55,.v (.slice A l.length c)),(56,.v (.int .i64 ((l.length:Nat):Int))),(57,.v (.int .i64 (IntKind.i64.wrap (((q:Nat):Int) + 1))))]
   have iq:IntKind.i64.wrap (((q:Nat):Int) + 1) = ((q + 1:Nat):Int):=qaR (by omega)
   rw [iq] at d8
   exact ⟨l.length - (q + 1),by omega,q + 1,A3_,c3_,dm,cn,rfl,by omega,by rw [← qfI ap (by omega)]; exact hB2,by rw [← qfK ap (by omega)]; exact hN2,d8.pk,io,((((bV.trans cW).trans cX).trans cY).trans ip)⟩
  have lH:=of_decide_eq_false cT
  refine wp_exit ?_
  refine qav ?_
  refine qav ?_
  refine qaM ?_
  refine qau ?_
  refine qab ?_
  refine qar [0,1] kz ?_
  refine qaj [0,1] [] [(0,.v (.slice A l.length c)),(1,.v (.int .i64 v)),(2,.v (.bool flex)),(7,.p 0 0),(9,.v (.slice A_ ((qay W l v (Tree.mk n1 s2 b3 l4 u5) 0).length) c_)),(10,.v (.slice A3_ ((qap W l (Tree.mk n1 s2 b3 l4 u5) k2 ++ dm).length) c3_)),(11,.v (.int .i64 ((qaD W l (Tree.mk n1 s2 b3 l4 u5) k2 + cn:Nat):Int))),(51,.v (.int .i64 (((qam l).toNat:Nat):Int))),(52,.v (.int .i64 (IntKind.i64.wrap (((k2:Nat):Int) + 1))))] aZ cS fun n0 cm=>?_
  refine qae (qab ?_)
  have d9:(qap W l (Tree.mk n1 s2 b3 l4 u5) k2 ++ dm) = (qap W l (Tree.mk n1 s2 b3 l4 u5) (k2 + 1)):=by rw [qap,← hB2,qgp (by omega),List.append_nil]
  have ir:=congrArg (brow A3_ c3_ 5) d9
  obtain ⟨iu,iv⟩:=aZ.rowEq 1 [brow A_ c_ 5 (qay W l v (Tree.mk n1 s2 b3 l4 u5) 0),brow A3_ c3_ 5 (qap W l (Tree.mk n1 s2 b3 l4 u5) (k2 + 1))] ir
  rw [d9] at cm
  have iw:IntKind.i64.wrap (((k2:Nat):Int) + 1) = ((k2 + 1:Nat):Int):=qaR (by omega)
  rw [iw] at cm
  have ix:((qaD W l (Tree.mk n1 s2 b3 l4 u5) k2 + cn:Nat):Int) = ((qaD W l (Tree.mk n1 s2 b3 l4 u5) (k2 + 1):Nat):Int):=by rw [qaD,← hN2,qgr (by omega),Nat.add_zero]
  rw [ix] at cm
  exact ⟨(qam l).toNat - (k2 + 1),by omega,k2 + 1,A3_,c3_,rfl,by omega,cm.pk,iu,(((fJ.trans fM).trans bV).trans iv)⟩
 have lI:=of_decide_eq_false cR
 refine wp_exit ?_
 refine qav ?_
 refine qav ?_
 refine qaM ?_
 refine qab ?_
 refine wp_seq ?_
 refine qad [0,1,2,3,4,5] kz ?_
 refine qaj [0,1,2] [3,4,5] [(9,.v (.slice A_ ((qay W l v (Tree.mk n1 s2 b3 l4 u5) 0).length) c_)),(10,.v (.slice A2_ ((qap W l (Tree.mk n1 s2 b3 l4 u5) k2).length) c2_)),(11,.v (.int .i64 ((qaD W l (Tree.mk n1 s2 b3 l4 u5) k2:Nat):Int))),(97,.v (.slice A l.length c)),(99,.v (.slice aV u5.length aW))] ao cQ fun n4 iy=>?_
 refine qal (qak iy (f:=53) (vs:=[.slice A l.length c,.slice aV u5.length aW]) (d:=100) kz Tryd.call53 (qeS _ _ l _ _ u5 _ _ ⟨xfs,(h1.move ao.step nilM ao.imm),(fun i_ x_ h_=>((h2 i_ x_ h_).move ao.step nilM ao.imm))⟩ (l5.move ao.step nilM ao.imm)) ?_)
 rintro e_ n5 ⟨al,am,rfl,iz,di⟩
 have iA:=iz.move (Step.refl _ Nil) nilM (ao.laid (G:=F) di)
 refine ⟨_,rfl,fun n8 iB=>?_⟩
 have ea:=ao.next_nil di
 have lJ:=ao.frN di
 refine qaj [4,5] [] [(9,.v (.slice A_ ((qay W l v (Tree.mk n1 s2 b3 l4 u5) 0).length) c_)),(10,.v (.slice A2_ ((qap W l (Tree.mk n1 s2 b3 l4 u5) k2).length) c2_)),(11,.v (.int .i64 ((qaD W l (Tree.mk n1 s2 b3 l4 u5) k2:Nat):Int))),(100,.v (.slice al ((qah l u5).length) am)),(101,.v (.int .i64 (((qah l u5).length:Nat):Int))),(102,.v (.int .i64 0))] ea iB fun oa eb=>?_
 refine qae (qab ?_)
 refine wp_block ?_
 obtain ⟨lK,iC,kZ⟩:=iA.ex
 have k5:=iC.small
 have hkk2:k2 = (qam l).toNat:=by omega
 have hc2:=hcnt k2
 have hm2:=hmono k2 (by omega)
 have ec:(qap W l (Tree.mk n1 s2 b3 l4 u5) k2) = (qap W l (Tree.mk n1 s2 b3 l4 u5) k2 ++ qaP ((qah l u5).take 0)):=(List.append_nil _).symm
 have iD:=congrArg (brow A2_ c2_ 5) ec
 obtain ⟨ee,aM⟩:=ea.rowEq 1 [brow A_ c_ 5 (qay W l v (Tree.mk n1 s2 b3 l4 u5) 0),brow A2_ c2_ 5 (qap W l (Tree.mk n1 s2 b3 l4 u5) k2 ++ qaP ((qah l u5).take 0))] iD
 rw [ec] at eb
 refine wp_loop_ghost (fun n_ a_ w_=>∃ (k:Nat) (A4_:Option Addr) (c4_:Nat),n_ = (qah l u5).length - k ∧ k ≤ (qah l u5).length ∧ LInv ee 132 [⟨cH,0,[.int .i64 n1,.slice A6 s2.length c7,.bool b3,.slice A8 l4.length c9,.slice aV u5.length aW],true⟩] [brow A_ c_ 5 (qay W l v (Tree.mk n1 s2 b3 l4 u5) 0),brow A4_ c4_ 5 (qap W l (Tree.mk n1 s2 b3 l4 u5) k2 ++ qaP ((qah l u5).take k))] [(9,.v (.slice A_ ((qay W l v (Tree.mk n1 s2 b3 l4 u5) 0).length) c_)),(10,.v (.slice A4_ ((qap W l (Tree.mk n1 s2 b3 l4 u5) k2 ++ qaP ((qah l u5).take k)).length) c4_)),(11,.v (.int .i64 ((qaD W l (Tree.mk n1 s2 b3 l4 u5) k2 + k:Nat):Int))),(100,.v (.slice al ((qah l u5).length) am)),(101,.v (.int .i64 (((qah l u5).length:Nat):Int))),(102,.v (.int .i64 ((k:Nat):Int)))] a_ w_) ((qah l u5).length) ⟨0,A2_,c2_,by omega,by omega,eb.pk,ee,Fr.refl _ _ _⟩ ?_
 rintro od oe og ⟨k,A4_,c4_,lL,lM,iE,cq,aH⟩
 refine qaq [(9,.v (.slice A_ ((qay W l v (Tree.mk n1 s2 b3 l4 u5) 0).length) c_)),(10,.v (.slice A4_ ((qap W l (Tree.mk n1 s2 b3 l4 u5) k2 ++ qaP ((qah l u5).take k)).length) c4_)),(11,.v (.int .i64 ((qaD W l (Tree.mk n1 s2 b3 l4 u5) k2 + k:Nat):Int))),(100,.v (.slice al ((qah l u5).length) am)),(101,.v (.int .i64 (((qah l u5).length:Nat):Int))),(102,.v (.int .i64 ((k:Nat):Int))),(103,.v (.bool (decide (((k:Nat):Int) < (((qah l u5).length:Nat):Int)))))] cq iE fun oh dj=>?_
 refine wp_seq ?_
 refine qaA dj (b:=decide (((k:Nat):Int) < (((qah l u5).length:Nat):Int))) kz (fun dl=>?_) (fun dl=>?_)
 ·
  have lN:=of_decide_eq_true dl
  refine wp_skip ?_
  refine qab ?_
  refine wp_seq ?_
  refine wp_block ?_
  refine qad [0,1,2,3] kz ?_
  obtain ⟨k6,k7,iF,lO,dp⟩:=Slots.get iC (i:=k) (by omega)
  obtain ⟨⟨ak,aj⟩,bA⟩:∃ x,(qah l u5)[k]? = some x:=⟨_,List.getElem?_eq_getElem (by omega)⟩
  obtain ⟨⟨ar,au,eJ,dq⟩,ol,om⟩:=kZ k ak aj bA
  rw [eJ] at dp
  refine qal (qaW dj (t:=35) (A:=al) (m:=((qah l u5).length)) (q:=((k:Nat):Int)) (d:=104) kz (e:=64) (size:=2) (bytes:=32) kz iF rfl (by omega) fun oq iG=>?_)
  refine qal (qa2 iG (t:=64) (b:=k6) (o:=k7 + k * 2) (d:=105) kz (cs:=[.int .u32 ak,.slice ar aj.length au]) (v:=.agg #[.int .u32 ak,.slice ar aj.length au]) kz (AtF.move dp (aM.trans aH).step immM (aM.trans aH).to').at_ fun ot iH=>?_)
  refine qal (qat cq iH (d:=19) (cs:=[.int .u32 0,.slice none 0 0]) kz fun ou ov ow lP lQ aR iI iJ=>?_)
  refine qal (qan iI iJ (oi:=1) (cs:=[.int .u32 ak,.slice ar aj.length au]) kz fun ox aS dr iK=>?_)
  refine qae (qab ?_)
  refine qad [0,1,2,3] kz ?_
  refine qaj [0,1] [2,3] [(9,.v (.slice A_ ((qay W l v (Tree.mk n1 s2 b3 l4 u5) 0).length) c_)),(10,.v (.slice A4_ ((qap W l (Tree.mk n1 s2 b3 l4 u5) k2 ++ qaP ((qah l u5).take k)).length) c4_)),(11,.v (.int .i64 ((qaD W l (Tree.mk n1 s2 b3 l4 u5) k2 + k:Nat):Int))),(19,.p 1 0),(100,.v (.slice al ((qah l u5).length) am)),(101,.v (.int .i64 (((qah l u5).length:Nat):Int))),(102,.v (.int .i64 ((k:Nat):Int))),(107,.v (.slice ar aj.length au))] dr iK fun oy iL=>?_
  have k8:=qbc aj
  refine qal (qak iL (f:=54) (vs:=[.slice ar aj.length au]) (d:=108) kz Tryd.call54 (qf6 _ _ aj (dq.move (((aM.trans aH).trans aR).trans aS).step immM (((aM.trans aH).trans aR).trans aS).to').le _) ?_)
  rintro e_ oz ⟨rfl,ef⟩
  refine ⟨_,rfl,fun oA iM=>?_⟩
  have dt:=dr.next_nil ef
  have bB:=dr.frN ef
  refine qaj [3] [] [(9,.v (.slice A_ ((qay W l v (Tree.mk n1 s2 b3 l4 u5) 0).length) c_)),(10,.v (.slice A4_ ((qap W l (Tree.mk n1 s2 b3 l4 u5) k2 ++ qaP ((qah l u5).take k)).length) c4_)),(11,.v (.int .i64 ((qaD W l (Tree.mk n1 s2 b3 l4 u5) k2 + k:Nat):Int))),(19,.p 1 0),(20,.v (.slice ar ((qas aj).length) au)),(100,.v (.slice al ((qah l u5).length) am)),(101,.v (.int .i64 (((qah l u5).length:Nat):Int))),(102,.v (.int .i64 ((k:Nat):Int)))] dt iM fun oB iN=>?_
  refine qae (qab ?_)
  refine qad [0,1,2,3,4,5,6,7,8,9,10,11,12,13] kz ?_
  refine qaj [0,1,2,3] [4,5,6,7,8,9,10,11,12,13] [(9,.v (.slice A_ ((qay W l v (Tree.mk n1 s2 b3 l4 u5) 0).length) c_)),(11,.v (.int .i64 ((qaD W l (Tree.mk n1 s2 b3 l4 u5) k2 + k:Nat):Int))),(20,.v (.slice ar ((qas aj).length) au)),(100,.v (.slice al ((qah l u5).length) am)),(101,.v (.int .i64 (((qah l u5).length:Nat):Int))),(102,.v (.int .i64 ((k:Nat):Int))),(109,.v (.slice A4_ ((qap W l (Tree.mk n1 s2 b3 l4 u5) k2 ++ qaP ((qah l u5).take k)).length) c4_)),(112,.v (.int .u64 (IntKind.u64.wrap ak)))] dt iN fun oC iO=>?_
  have iP:IntKind.u64.wrap ak = ((ak.toNat:Nat):Int):=by simp only [qct,qaU,qbn,IntKind.wrap_i64,IntKind.wrap_i32]; omega
  have iQ:=EnvOk.pick iO (ks:=[9,11,20,100,101,102,109,112]) (env':=[(9,.v (.slice A_ ((qay W l v (Tree.mk n1 s2 b3 l4 u5) 0).length) c_)),(11,.v (.int .i64 ((qaD W l (Tree.mk n1 s2 b3 l4 u5) k2 + k:Nat):Int))),(20,.v (.slice ar ((qas aj).length) au)),(100,.v (.slice al ((qah l u5).length) am)),(101,.v (.int .i64 (((qah l u5).length:Nat):Int))),(102,.v (.int .i64 ((k:Nat):Int))),(109,.v (.slice A4_ ((qap W l (Tree.mk n1 s2 b3 l4 u5) k2 ++ qaP ((qah l u5).take k)).length) c4_)),(112,.v (.int .u64 (IntKind.u64.wrap ak)))]) kz
  have iR:=iQ.cast (env':=[(9,.v (.slice A_ ((qay W l v (Tree.mk n1 s2 b3 l4 u5) 0).length) c_)),(11,.v (.int .i64 ((qaD W l (Tree.mk n1 s2 b3 l4 u5) k2 + k:Nat):Int))),(20,.v (.slice ar ((qas aj).length) au)),(100,.v (.slice al ((qah l u5).length) am)),(101,.v (.int .i64 (((qah l u5).length:Nat):Int))),(102,.v (.int .i64 ((k:Nat):Int))),(109,.v (.slice A4_ ((qap W l (Tree.mk n1 s2 b3 l4 u5) k2 ++ qaP ((qah l u5).take k)).length) c4_)),(112,.v (.int .u64 ((ak.toNat:Nat):Int)))]) (by rw [iP])
  refine qal (qak iR (f:=83) (vs:=[.int .u64 ((ak.toNat:Nat):Int)]) (d:=113) kz Tryd.call83 (qcC ak.toNat (by omega) _) ?_)
  rintro e_ oD ⟨bL,bM,rfl,iS,iT⟩
  refine ⟨_,rfl,fun oE iU=>?_⟩
  obtain ⟨du,bC⟩:=dt.frFresh iT (brow bL bM 5 (uv ak.toNat)) (Nat.le_refl _) iS
  refine qal (qaJ du iU (k:=1) (d:=114) (t:=22) (e:=5) (size:=1) (bytes:=1) (A:=A4_) (As:=bL) (m0:=((qap W l (Tree.mk n1 s2 b3 l4 u5) k2 ++ qaP ((qah l u5).take k)).length)) (c:=c4_) (m:=((uv ak.toNat).length)) (cs:=bM) (xs:=(bc (qap W l (Tree.mk n1 s2 b3 l4 u5) k2 ++ qaP ((qah l u5).take k)))) (news:=bc (uv ak.toNat)) kz kz rfl (qbA (du.own 2 _ rfl) (qb2 _)) (qbG (du.own 2 _ rfl)) (by have h_:=qdW (l:=(qah l u5)) (k + 1); rw [qcB bA] at h_; simp only [List.length_append] at h_ ⊢; omega) fun aT aU oF oG bD iV iW=>?_)
  have iX:(⟨aT,aU,5,1,(qap W l (Tree.mk n1 s2 b3 l4 u5) k2 ++ qaP ((qah l u5).take k)).length + (uv ak.toNat).length,bc (qap W l (Tree.mk n1 s2 b3 l4 u5) k2 ++ qaP ((qah l u5).take k)) ++ bc (uv ak.toNat)⟩:Rw) = brow aT aU 5 (qap W l (Tree.mk n1 s2 b3 l4 u5) k2 ++ qaP ((qah l u5).take k) ++ (uv ak.toNat)):=qbj (rfl) rfl
  obtain ⟨eg,bE⟩:=iV.rowEq 1 [brow A_ c_ 5 (qay W l v (Tree.mk n1 s2 b3 l4 u5) 0),brow aT aU 5 (qap W l (Tree.mk n1 s2 b3 l4 u5) k2 ++ qaP ((qah l u5).take k) ++ (uv ak.toNat)),brow bL bM 5 (uv ak.toNat)] iX
  have iY:=EnvOk.pick iW (ks:=[9,11,20,100,101,102,109,112,113,114]) (env':=[(9,.v (.slice A_ ((qay W l v (Tree.mk n1 s2 b3 l4 u5) 0).length) c_)),(11,.v (.int .i64 ((qaD W l (Tree.mk n1 s2 b3 l4 u5) k2 + k:Nat):Int))),(20,.v (.slice ar ((qas aj).length) au)),(100,.v (.slice al ((qah l u5).length) am)),(101,.v (.int .i64 (((qah l u5).length:Nat):Int))),(102,.v (.int .i64 ((k:Nat):Int))),(109,.v (.slice A4_ ((qap W l (Tree.mk n1 s2 b3 l4 u5) k2 ++ qaP ((qah l u5).take k)).length) c4_)),(112,.v (.int .u64 ((ak.toNat:Nat):Int))),(113,.v (.slice bL ((uv ak.toNat).length) bM)),(114,.v (.slice aT ((qap W l (Tree.mk n1 s2 b3 l4 u5) k2 ++ qaP ((qah l u5).take k)).length + (uv ak.toNat).length) aU))]) kz
  have iZ:=iY.cast (env':=[(9,.v (.slice A_ ((qay W l v (Tree.mk n1 s2 b3 l4 u5) 0).length) c_)),(11,.v (.int .i64 ((qaD W l (Tree.mk n1 s2 b3 l4 u5) k2 + k:Nat):Int))),(20,.v (.slice ar ((qas aj).length) au)),(100,.v (.slice al ((qah l u5).length) am)),(101,.v (.int .i64 (((qah l u5).length:Nat):Int))),(102,.v (.int .i64 ((k:Nat):Int))),(109,.v (.slice A4_ ((qap W l (Tree.mk n1 s2 b3 l4 u5) k2 ++ qaP ((qah l u5).take k)).length) c4_)),(112,.v (.int .u64 ((ak.toNat:Nat):Int))),(113,.v (.slice bL ((uv ak.toNat).length) bM)),(114,.v (.slice aT ((qap W l (Tree.mk n1 s2 b3 l4 u5) k2 ++ qaP ((qah l u5).take k) ++ (uv ak.toNat)).length) aU))]) (by simp only [List.length_append,List.length_cons,List.length_nil,Nat.zero_add])
  refine qaj [6,7,8] [9,10,11,12,13] [(9,.v (.slice A_ ((qay W l v (Tree.mk n1 s2 b3 l4 u5) 0).length) c_)),(11,.v (.int .i64 ((qaD W l (Tree.mk n1 s2 b3 l4 u5) k2 + k:Nat):Int))),(20,.v (.slice ar ((qas aj).length) au)),(100,.v (.slice al ((qah l u5).length) am)),(101,.v (.int .i64 (((qah l u5).length:Nat):Int))),(102,.v (.int .i64 ((k:Nat):Int))),(114,.v (.slice aT ((qap W l (Tree.mk n1 s2 b3 l4 u5) k2 ++ qaP ((qah l u5).take k) ++ (uv ak.toNat)).length) aU)),(117,.v (.int .u64 (IntKind.u64.wrap (((qas aj).length:Nat):Int))))] eg iZ fun oH i6=>?_
  have i7:IntKind.u64.wrap (((qas aj).length:Nat):Int) = (((qas aj).length:Nat):Int):=by simp only [qct,qaU,qbn,IntKind.wrap_i64,IntKind.wrap_i32]; omega
  have ja:=EnvOk.pick i6 (ks:=[9,11,20,100,101,102,114,117]) (env':=[(9,.v (.slice A_ ((qay W l v (Tree.mk n1 s2 b3 l4 u5) 0).length) c_)),(11,.v (.int .i64 ((qaD W l (Tree.mk n1 s2 b3 l4 u5) k2 + k:Nat):Int))),(20,.v (.slice ar ((qas aj).length) au)),(100,.v (.slice al ((qah l u5).length) am)),(101,.v (.int .i64 (((qah l u5).length:Nat):Int))),(102,.v (.int .i64 ((k:Nat):Int))),(114,.v (.slice aT ((qap W l (Tree.mk n1 s2 b3 l4 u5) k2 ++ qaP ((qah l u5).take k) ++ (uv ak.toNat)).length) aU)),(117,.v (.int .u64 (IntKind.u64.wrap (((qas aj).length:Nat):Int))))]) kz
  have jb:=ja.cast (env':=[(9,.v (.slice A_ ((qay W l v (Tree.mk n1 s2 b3 l4 u5) 0).length) c_)),(11,.v (.int .i64 ((qaD W l (Tree.mk n1 s2 b3 l4 u5) k2 + k:Nat):Int))),(20,.v (.slice ar ((qas aj).length) au)),(100,.v (.slice al ((qah l u5).length) am)),(101,.v (.int .i64 (((qah l u5).length:Nat):Int))),(102,.v (.int .i64 ((k:Nat):Int))),(114,.v (.slice aT ((qap W l (Tree.mk n1 s2 b3 l4 u5) k2 ++ qaP ((qah l u5).take k) ++ (uv ak.toNat)).length) aU)),(117,.v (.int .u64 (((qas aj).length:Nat):Int)))]) (by rw [i7])
  refine qal (qak jb (f:=83) (vs:=[.int .u64 (((qas aj).length:Nat):Int)]) (d:=118) kz Tryd.call83 (qcC ((qas aj).length) (by omega) _) ?_)
  rintro e_ oI ⟨cC,cD,rfl,jc,jd⟩
  refine ⟨_,rfl,fun oJ je=>?_⟩
  obtain ⟨dv,bF⟩:=eg.frFresh jd (brow cC cD 5 (uv ((qas aj).length))) (Nat.le_refl _) jc
  refine qal (qaJ dv je (k:=1) (d:=119) (t:=22) (e:=5) (size:=1) (bytes:=1) (A:=aT) (As:=cC) (m0:=((qap W l (Tree.mk n1 s2 b3 l4 u5) k2 ++ qaP ((qah l u5).take k) ++ (uv ak.toNat)).length)) (c:=aU) (m:=((uv ((qas aj).length)).length)) (cs:=cD) (xs:=(bc (qap W l (Tree.mk n1 s2 b3 l4 u5) k2 ++ qaP ((qah l u5).take k) ++ (uv ak.toNat)))) (news:=bc (uv ((qas aj).length))) kz kz rfl (qbA (dv.own 3 _ rfl) (qb2 _)) (qbG (dv.own 3 _ rfl)) (by have h_:=qdW (l:=(qah l u5)) (k + 1); rw [qcB bA] at h_; simp only [List.length_append] at h_ ⊢; omega) fun bg bh oK oL bG jf jg=>?_)
  have jh:(⟨bg,bh,5,1,(qap W l (Tree.mk n1 s2 b3 l4 u5) k2 ++ qaP ((qah l u5).take k) ++ (uv ak.toNat)).length + (uv ((qas aj).length)).length,bc (qap W l (Tree.mk n1 s2 b3 l4 u5) k2 ++ qaP ((qah l u5).take k) ++ (uv ak.toNat)) ++ bc (uv ((qas aj).length))⟩:Rw) = brow bg bh 5 (qap W l (Tree.mk n1 s2 b3 l4 u5) k2 ++ qaP ((qah l u5).take k) ++ (uv ak.toNat) ++ (uv ((qas aj).length))):=qbj (rfl) rfl
  obtain ⟨eh,bH⟩:=jf.rowEq 1 [brow A_ c_ 5 (qay W l v (Tree.mk n1 s2 b3 l4 u5) 0),brow bg bh 5 (qap W l (Tree.mk n1 s2 b3 l4 u5) k2 ++ qaP ((qah l u5).take k) ++ (uv ak.toNat) ++ (uv ((qas aj).length))),brow bL bM 5 (uv ak.toNat),brow cC cD 5 (uv ((qas aj).length))] jh
  have ji:=EnvOk.pick jg (ks:=[9,11,20,100,101,102,114,117,118,119]) (env':=[(9,.v (.slice A_ ((qay W l v (Tree.mk n1 s2 b3 l4 u5) 0).length) c_)),(11,.v (.int .i64 ((qaD W l (Tree.mk n1 s2 b3 l4 u5) k2 + k:Nat):Int))),(20,.v (.slice ar ((qas aj).length) au)),(100,.v (.slice al ((qah l u5).length) am)),(101,.v (.int .i64 (((qah l u5).length:Nat):Int))),(102,.v (.int .i64 ((k:Nat):Int))),(114,.v (.slice aT ((qap W l (Tree.mk n1 s2 b3 l4 u5) k2 ++ qaP ((qah l u5).take k) ++ (uv ak.toNat)).length) aU)),(117,.v (.int .u64 (((qas aj).length:Nat):Int))),(118,.v (.slice cC ((uv ((qas aj).length)).length) cD)),(119,.v (.slice bg ((qap W l (Tree.mk n1 s2 b3 l4 u5) k2 ++ qaP ((qah l u5).take k) ++ (uv ak.toNat)).length + (uv ((qas aj).length)).length) bh))]) kz
  have jj:=ji.cast (env':=[(9,.v (.slice A_ ((qay W l v (Tree.mk n1 s2 b3 l4 u5) 0).length) c_)),(11,.v (.int .i64 ((qaD W l (Tree.mk n1 s2 b3 l4 u5) k2 + k:Nat):Int))),(20,.v (.slice ar ((qas aj).length) au)),(100,.v (.slice al ((qah l u5).length) am)),(101,.v (.int .i64 (((qah l u5).length:Nat):Int))),(102,.v (.int .i64 ((k:Nat):Int))),(114,.v (.slice aT ((qap W l (Tree.mk n1 s2 b3 l4 u5) k2 ++ qaP ((qah l u5).take k) ++ (uv ak.toNat)).length) aU)),(117,.v (.int .u64 (((qas aj).length:Nat):Int))),(118,.v (.slice cC ((uv ((qas aj).length)).length) cD)),(119,.v (.slice bg ((qap W l (Tree.mk n1 s2 b3 l4 u5) k2 ++ qaP ((qah l u5).take k) ++ (uv ak.toNat) ++ (uv ((qas aj).length))).length) bh))]) (by simp only [List.length_append,List.length_cons,List.length_nil,Nat.zero_add])
  refine qaj [11] [12,13] [(9,.v (.slice A_ ((qay W l v (Tree.mk n1 s2 b3 l4 u5) 0).length) c_)),(11,.v (.int .i64 ((qaD W l (Tree.mk n1 s2 b3 l4 u5) k2 + k:Nat):Int))),(100,.v (.slice al ((qah l u5).length) am)),(101,.v (.int .i64 (((qah l u5).length:Nat):Int))),(102,.v (.int .i64 ((k:Nat):Int))),(119,.v (.slice bg ((qap W l (Tree.mk n1 s2 b3 l4 u5) k2 ++ qaP ((qah l u5).take k) ++ (uv ak.toNat) ++ (uv ((qas aj).length))).length) bh)),(120,.v (.slice ar ((qas aj).length) au))] eh jj fun oM jk=>?_
  refine qal (qaJ eh jk (k:=1) (d:=121) (t:=22) (e:=5) (size:=1) (bytes:=1) (A:=bg) (As:=ar) (m0:=((qap W l (Tree.mk n1 s2 b3 l4 u5) k2 ++ qaP ((qah l u5).take k) ++ (uv ak.toNat) ++ (uv ((qas aj).length))).length)) (c:=bh) (m:=((qas aj).length)) (cs:=au) (xs:=(bc (qap W l (Tree.mk n1 s2 b3 l4 u5) k2 ++ qaP ((qah l u5).take k) ++ (uv ak.toNat) ++ (uv ((qas aj).length))))) (news:=bc (qas aj)) kz kz rfl ((dq.take 32767).move ((((((((((aM.trans aH).trans aR).trans aS).trans bB).trans bC).trans bD).trans bE).trans bF).trans bG).trans bH).step immM ((((((((((aM.trans aH).trans aR).trans aS).trans bB).trans bC).trans bD).trans bE).trans bF).trans bG).trans bH).to').src ((dq.take 32767).move ((((((((((aM.trans aH).trans aR).trans aS).trans bB).trans bC).trans bD).trans bE).trans bF).trans bG).trans bH).step immM ((((((((((aM.trans aH).trans aR).trans aS).trans bB).trans bC).trans bD).trans bE).trans bF).trans bG).trans bH).to').cap (by have h_:=qdW (l:=(qah l u5)) (k + 1); rw [qcB bA] at h_; simp only [List.length_append] at h_ ⊢; omega) fun aK aL oN oO jl jm jn=>?_)
  have jo:(⟨aK,aL,5,1,(qap W l (Tree.mk n1 s2 b3 l4 u5) k2 ++ qaP ((qah l u5).take k) ++ (uv ak.toNat) ++ (uv ((qas aj).length))).length + (qas aj).length,bc (qap W l (Tree.mk n1 s2 b3 l4 u5) k2 ++ qaP ((qah l u5).take k) ++ (uv ak.toNat) ++ (uv ((qas aj).length))) ++ bc (qas aj)⟩:Rw) = brow aK aL 5 (qap W l (Tree.mk n1 s2 b3 l4 u5) k2 ++ qaP ((qah l u5).take k) ++ (uv ak.toNat) ++ (uv ((qas aj).length)) ++ (qas aj)):=qbj (rfl) rfl
  obtain ⟨cr,jp⟩:=jm.rowEq 1 [brow A_ c_ 5 (qay W l v (Tree.mk n1 s2 b3 l4 u5) 0),brow aK aL 5 (qap W l (Tree.mk n1 s2 b3 l4 u5) k2 ++ qaP ((qah l u5).take k) ++ (uv ak.toNat) ++ (uv ((qas aj).length)) ++ (qas aj)),brow bL bM 5 (uv ak.toNat),brow cC cD 5 (uv ((qas aj).length))] jo
  have jq:=EnvOk.pick jn (ks:=[9,11,100,101,102,119,120,121]) (env':=[(9,.v (.slice A_ ((qay W l v (Tree.mk n1 s2 b3 l4 u5) 0).length) c_)),(11,.v (.int .i64 ((qaD W l (Tree.mk n1 s2 b3 l4 u5) k2 + k:Nat):Int))),(100,.v (.slice al ((qah l u5).length) am)),(101,.v (.int .i64 (((qah l u5).length:Nat):Int))),(102,.v (.int .i64 ((k:Nat):Int))),(119,.v (.slice bg ((qap W l (Tree.mk n1 s2 b3 l4 u5) k2 ++ qaP ((qah l u5).take k) ++ (uv ak.toNat) ++ (uv ((qas aj).length))).length) bh)),(120,.v (.slice ar ((qas aj).length) au)),(121,.v (.slice aK ((qap W l (Tree.mk n1 s2 b3 l4 u5) k2 ++ qaP ((qah l u5).take k) ++ (uv ak.toNat) ++ (uv ((qas aj).length))).length + (qas aj).length) aL))]) kz
  have jr:=jq.cast (env':=[(9,.v (.slice A_ ((qay W l v (Tree.mk n1 s2 b3 l4 u5) 0).length) c_)),(11,.v (.int .i64 ((qaD W l (Tree.mk n1 s2 b3 l4 u5) k2 + k:Nat):Int))),(100,.v (.slice al ((qah l u5).length) am)),(101,.v (.int .i64 (((qah l u5).length:Nat):Int))),(102,.v (.int .i64 ((k:Nat):Int))),(119,.v (.slice bg ((qap W l (Tree.mk n1 s2 b3 l4 u5) k2 ++ qaP ((qah l u5).take k) ++ (uv ak.toNat) ++ (uv ((qas aj).length))).length) bh)),(120,.v (.slice ar ((qas aj).length) au)),(121,.v (.slice aK ((qap W l (Tree.mk n1 s2 b3 l4 u5) k2 ++ qaP ((qah l u5).take k) ++ (uv ak.toNat) ++ (uv ((qas aj).length)) ++ (qas aj)).length) aL))]) (by simp only [List.length_append,List.length_cons,List.length_nil,Nat.zero_add])
  refine qaj [13] [] [(9,.v (.slice A_ ((qay W l v (Tree.mk n1 s2 b3 l4 u5) 0).length) c_)),(10,.v (.slice aK ((qap W l (Tree.mk n1 s2 b3 l4 u5) k2 ++ qaP ((qah l u5).take k) ++ (uv ak.toNat) ++ (uv ((qas aj).length)) ++ (qas aj)).length) aL)),(11,.v (.int .i64 ((qaD W l (Tree.mk n1 s2 b3 l4 u5) k2 + k:Nat):Int))),(100,.v (.slice al ((qah l u5).length) am)),(101,.v (.int .i64 (((qah l u5).length:Nat):Int))),(102,.v (.int .i64 ((k:Nat):Int)))] cr jr fun oP js=>?_
  refine qae (qab ?_)
  refine qar [0,1,2] kz ?_
  refine qaj [0,1,2] [] [(9,.v (.slice A_ ((qay W l v (Tree.mk n1 s2 b3 l4 u5) 0).length) c_)),(10,.v (.slice aK ((qap W l (Tree.mk n1 s2 b3 l4 u5) k2 ++ qaP ((qah l u5).take k) ++ (uv ak.toNat) ++ (uv ((qas aj).length)) ++ (qas aj)).length) aL)),(11,.v (.int .i64 (IntKind.i64.wrap (((qaD W l (Tree.mk n1 s2 b3 l4 u5) k2 + k:Nat):Int) + 1)))),(100,.v (.slice al ((qah l u5).length) am)),(101,.v (.int .i64 (((qah l u5).length:Nat):Int))),(102,.v (.int .i64 ((k:Nat):Int)))] cr js fun oQ jt=>?_
  refine qae ?_
  refine qau ?_
  refine qab ?_
  refine qar [0,1] kz ?_
  refine qaj [0,1] [] [(9,.v (.slice A_ ((qay W l v (Tree.mk n1 s2 b3 l4 u5) 0).length) c_)),(10,.v (.slice aK ((qap W l (Tree.mk n1 s2 b3 l4 u5) k2 ++ qaP ((qah l u5).take k) ++ (uv ak.toNat) ++ (uv ((qas aj).length)) ++ (qas aj)).length) aL)),(11,.v (.int .i64 (IntKind.i64.wrap (((qaD W l (Tree.mk n1 s2 b3 l4 u5) k2 + k:Nat):Int) + 1)))),(100,.v (.slice al ((qah l u5).length) am)),(101,.v (.int .i64 (((qah l u5).length:Nat):Int))),(102,.v (.int .i64 (IntKind.i64.wrap (((k:Nat):Int) + 1))))] cr jt fun oR ju=>?_
  refine qae (qab ?_)
  obtain ⟨cu,jv,jw⟩:=cr.cutB ju 1 [⟨cH,0,[.int .i64 n1,.slice A6 s2.length c7,.bool b3,.slice A8 l4.length c9,.slice aV u5.length aW],true⟩] [(9,.v (.slice A_ ((qay W l v (Tree.mk n1 s2 b3 l4 u5) 0).length) c_)),(10,.v (.slice aK ((qap W l (Tree.mk n1 s2 b3 l4 u5) k2 ++ qaP ((qah l u5).take k) ++ (uv ak.toNat) ++ (uv ((qas aj).length)) ++ (qas aj)).length) aL)),(11,.v (.int .i64 (IntKind.i64.wrap (((qaD W l (Tree.mk n1 s2 b3 l4 u5) k2 + k:Nat):Int) + 1)))),(100,.v (.slice al ((qah l u5).length) am)),(101,.v (.int .i64 (((qah l u5).length:Nat):Int))),(102,.v (.int .i64 (IntKind.i64.wrap (((k:Nat):Int) + 1))))]
  obtain ⟨jx,jy⟩:=jv.cutR 2 [brow A_ c_ 5 (qay W l v (Tree.mk n1 s2 b3 l4 u5) 0),brow aK aL 5 (qap W l (Tree.mk n1 s2 b3 l4 u5) k2 ++ qaP ((qah l u5).take k) ++ (uv ak.toNat) ++ (uv ((qas aj).length)) ++ (qas aj))]
  have ei:(qap W l (Tree.mk n1 s2 b3 l4 u5) k2 ++ qaP ((qah l u5).take k) ++ (uv ak.toNat) ++ (uv ((qas aj).length)) ++ (qas aj)) = (qap W l (Tree.mk n1 s2 b3 l4 u5) k2 ++ qaP ((qah l u5).take (k + 1))):=by rw [qcB bA]; simp only [List.append_assoc]
  have jz:=congrArg (brow aK aL 5) ei
  obtain ⟨jA,jB⟩:=jx.rowEq 1 [brow A_ c_ 5 (qay W l v (Tree.mk n1 s2 b3 l4 u5) 0),brow aK aL 5 (qap W l (Tree.mk n1 s2 b3 l4 u5) k2 ++ qaP ((qah l u5).take (k + 1)))] jz
  rw [ei] at cu
  have jC:IntKind.i64.wrap (((k:Nat):Int) + 1) = ((k + 1:Nat):Int):=qaR (by omega)
  rw [jC] at cu
  have jD:IntKind.i64.wrap (((qaD W l (Tree.mk n1 s2 b3 l4 u5) k2 + k:Nat):Int) + 1) = ((qaD W l (Tree.mk n1 s2 b3 l4 u5) k2 + (k + 1):Nat):Int):=by rw [wrap_i64 (by omega) (by omega)]; omega
  rw [jD] at cu
  exact ⟨(qah l u5).length - (k + 1),by omega,k + 1,aK,aL,rfl,by omega,cu.pk,jA,((((((((((((((aH.trans aR).trans aS).trans bB).trans bC).trans bD).trans bE).trans bF).trans bG).trans bH).trans jl).trans jp).trans jw).trans jy).trans jB)⟩
 have lR:=of_decide_eq_false dl
 refine wp_exit ?_
 refine qav ?_
 refine qav ?_
 refine qaM ?_
 refine qab ?_
 refine qad [0,1,2,3,4,5,6,7] kz ?_
 refine qaj [0,1,2] [3,4,5,6,7] [(10,.v (.slice A4_ ((qap W l (Tree.mk n1 s2 b3 l4 u5) k2 ++ qaP ((qah l u5).take k)).length) c4_)),(125,.v (.slice A_ ((qay W l v (Tree.mk n1 s2 b3 l4 u5) 0).length) c_)),(127,.v (.int .u64 (IntKind.u64.wrap ((qaD W l (Tree.mk n1 s2 b3 l4 u5) k2 + k:Nat):Int))))] cq dj fun oS jE=>?_
 have jF:IntKind.u64.wrap ((qaD W l (Tree.mk n1 s2 b3 l4 u5) k2 + k:Nat):Int) = ((qaD W l (Tree.mk n1 s2 b3 l4 u5) k2 + k:Nat):Int):=by simp only [qct,qaU,qbn,IntKind.wrap_i64,IntKind.wrap_i32]; omega
 have jG:=EnvOk.pick jE (ks:=[10,125,127]) (env':=[(10,.v (.slice A4_ ((qap W l (Tree.mk n1 s2 b3 l4 u5) k2 ++ qaP ((qah l u5).take k)).length) c4_)),(125,.v (.slice A_ ((qay W l v (Tree.mk n1 s2 b3 l4 u5) 0).length) c_)),(127,.v (.int .u64 (IntKind.u64.wrap ((qaD W l (Tree.mk n1 s2 b3 l4 u5) k2 + k:Nat):Int))))]) kz
 have jH:=jG.cast (env':=[(10,.v (.slice A4_ ((qap W l (Tree.mk n1 s2 b3 l4 u5) k2 ++ qaP ((qah l u5).take k)).length) c4_)),(125,.v (.slice A_ ((qay W l v (Tree.mk n1 s2 b3 l4 u5) 0).length) c_)),(127,.v (.int .u64 ((qaD W l (Tree.mk n1 s2 b3 l4 u5) k2 + k:Nat):Int)))]) (by rw [jF])
 refine qal (qak jH (f:=83) (vs:=[.int .u64 ((qaD W l (Tree.mk n1 s2 b3 l4 u5) k2 + k:Nat):Int)]) (d:=128) kz Tryd.call83 (qcC (qaD W l (Tree.mk n1 s2 b3 l4 u5) k2 + k) (by omega) _) ?_)
 rintro e_ oT ⟨cE,cG,rfl,jI,jJ⟩
 refine ⟨_,rfl,fun oU jK=>?_⟩
 obtain ⟨dw,lS⟩:=cq.frFresh jJ (brow cE cG 5 (uv (qaD W l (Tree.mk n1 s2 b3 l4 u5) k2 + k))) (Nat.le_refl _) jI
 refine qal (qaJ dw jK (k:=0) (d:=129) (t:=22) (e:=5) (size:=1) (bytes:=1) (A:=A_) (As:=cE) (m0:=((qay W l v (Tree.mk n1 s2 b3 l4 u5) 0).length)) (c:=c_) (m:=((uv (qaD W l (Tree.mk n1 s2 b3 l4 u5) k2 + k)).length)) (cs:=cG) (xs:=(bc (qay W l v (Tree.mk n1 s2 b3 l4 u5) 0))) (news:=bc (uv (qaD W l (Tree.mk n1 s2 b3 l4 u5) k2 + k))) kz kz rfl (qbA (dw.own 2 _ rfl) (qb2 _)) (qbG (dw.own 2 _ rfl)) (by have hkk3:k = (qah l u5).length:=(by omega); subst hkk3; subst hkk2; simp only [List.length_append,List.take_length] at *; omega) fun bi bj oV oW lT jL jM=>?_)
 have jN:(⟨bi,bj,5,1,(qay W l v (Tree.mk n1 s2 b3 l4 u5) 0).length + (uv (qaD W l (Tree.mk n1 s2 b3 l4 u5) k2 + k)).length,bc (qay W l v (Tree.mk n1 s2 b3 l4 u5) 0) ++ bc (uv (qaD W l (Tree.mk n1 s2 b3 l4 u5) k2 + k))⟩:Rw) = brow bi bj 5 (qay W l v (Tree.mk n1 s2 b3 l4 u5) 0 ++ (uv (qaD W l (Tree.mk n1 s2 b3 l4 u5) k2 + k))):=qbj (rfl) rfl
 obtain ⟨cw,lU⟩:=jL.rowEq 0 [brow bi bj 5 (qay W l v (Tree.mk n1 s2 b3 l4 u5) 0 ++ (uv (qaD W l (Tree.mk n1 s2 b3 l4 u5) k2 + k))),brow A4_ c4_ 5 (qap W l (Tree.mk n1 s2 b3 l4 u5) k2 ++ qaP ((qah l u5).take k)),brow cE cG 5 (uv (qaD W l (Tree.mk n1 s2 b3 l4 u5) k2 + k))] jN
 have jO:=EnvOk.pick jM (ks:=[10,125,127,128,129]) (env':=[(10,.v (.slice A4_ ((qap W l (Tree.mk n1 s2 b3 l4 u5) k2 ++ qaP ((qah l u5).take k)).length) c4_)),(125,.v (.slice A_ ((qay W l v (Tree.mk n1 s2 b3 l4 u5) 0).length) c_)),(127,.v (.int .u64 ((qaD W l (Tree.mk n1 s2 b3 l4 u5) k2 + k:Nat):Int))),(128,.v (.slice cE ((uv (qaD W l (Tree.mk n1 s2 b3 l4 u5) k2 + k)).length) cG)),(129,.v (.slice bi ((qay W l v (Tree.mk n1 s2 b3 l4 u5) 0).length + (uv (qaD W l (Tree.mk n1 s2 b3 l4 u5) k2 + k)).length) bj))]) kz
 have jP:=jO.cast (env':=[(10,.v (.slice A4_ ((qap W l (Tree.mk n1 s2 b3 l4 u5) k2 ++ qaP ((qah l u5).take k)).length) c4_)),(125,.v (.slice A_ ((qay W l v (Tree.mk n1 s2 b3 l4 u5) 0).length) c_)),(127,.v (.int .u64 ((qaD W l (Tree.mk n1 s2 b3 l4 u5) k2 + k:Nat):Int))),(128,.v (.slice cE ((uv (qaD W l (Tree.mk n1 s2 b3 l4 u5) k2 + k)).length) cG)),(129,.v (.slice bi ((qay W l v (Tree.mk n1 s2 b3 l4 u5) 0 ++ (uv (qaD W l (Tree.mk n1 s2 b3 l4 u5) k2 + k))).length) bj))]) (by simp only [List.length_append,List.length_cons,List.length_nil,Nat.zero_add])
 refine qaj [5] [6,7] [(129,.v (.slice bi ((qay W l v (Tree.mk n1 s2 b3 l4 u5) 0 ++ (uv (qaD W l (Tree.mk n1 s2 b3 l4 u5) k2 + k))).length) bj)),(130,.v (.slice A4_ ((qap W l (Tree.mk n1 s2 b3 l4 u5) k2 ++ qaP ((qah l u5).take k)).length) c4_))] cw jP fun oX jQ=>?_
 refine qal (qaJ cw jQ (k:=0) (d:=131) (t:=22) (e:=5) (size:=1) (bytes:=1) (A:=bi) (As:=A4_) (m0:=((qay W l v (Tree.mk n1 s2 b3 l4 u5) 0 ++ (uv (qaD W l (Tree.mk n1 s2 b3 l4 u5) k2 + k))).length)) (c:=bj) (m:=((qap W l (Tree.mk n1 s2 b3 l4 u5) k2 ++ qaP ((qah l u5).take k)).length)) (cs:=c4_) (xs:=(bc (qay W l v (Tree.mk n1 s2 b3 l4 u5) 0 ++ (uv (qaD W l (Tree.mk n1 s2 b3 l4 u5) k2 + k))))) (news:=bc (qap W l (Tree.mk n1 s2 b3 l4 u5) k2 ++ qaP ((qah l u5).take k))) kz kz rfl (qbA (cw.own 1 _ rfl) (qb2 _)) (qbG (cw.own 1 _ rfl)) (by have hkk3:k = (qah l u5).length:=(by omega); subst hkk3; subst hkk2; simp only [List.length_append,List.take_length] at *; omega) fun bN bO oY oZ lV jR jS=>?_)
 have jT:(⟨bN,bO,5,1,(qay W l v (Tree.mk n1 s2 b3 l4 u5) 0 ++ (uv (qaD W l (Tree.mk n1 s2 b3 l4 u5) k2 + k))).length + (qap W l (Tree.mk n1 s2 b3 l4 u5) k2 ++ qaP ((qah l u5).take k)).length,bc (qay W l v (Tree.mk n1 s2 b3 l4 u5) 0 ++ (uv (qaD W l (Tree.mk n1 s2 b3 l4 u5) k2 + k))) ++ bc (qap W l (Tree.mk n1 s2 b3 l4 u5) k2 ++ qaP ((qah l u5).take k))⟩:Rw) = brow bN bO 5 (qay W l v (Tree.mk n1 s2 b3 l4 u5) 0 ++ (uv (qaD W l (Tree.mk n1 s2 b3 l4 u5) k2 + k)) ++ (qap W l (Tree.mk n1 s2 b3 l4 u5) k2 ++ qaP ((qah l u5).take k))):=qbj (rfl) rfl
 obtain ⟨dx,lW⟩:=jR.rowEq 0 [brow bN bO 5 (qay W l v (Tree.mk n1 s2 b3 l4 u5) 0 ++ (uv (qaD W l (Tree.mk n1 s2 b3 l4 u5) k2 + k)) ++ (qap W l (Tree.mk n1 s2 b3 l4 u5) k2 ++ qaP ((qah l u5).take k))),brow A4_ c4_ 5 (qap W l (Tree.mk n1 s2 b3 l4 u5) k2 ++ qaP ((qah l u5).take k)),brow cE cG 5 (uv (qaD W l (Tree.mk n1 s2 b3 l4 u5) k2 + k))] jT
 have jU:=EnvOk.pick jS (ks:=[129,130,131]) (env':=[(129,.v (.slice bi ((qay W l v (Tree.mk n1 s2 b3 l4 u5) 0 ++ (uv (qaD W l (Tree.mk n1 s2 b3 l4 u5) k2 + k))).length) bj)),(130,.v (.slice A4_ ((qap W l (Tree.mk n1 s2 b3 l4 u5) k2 ++ qaP ((qah l u5).take k)).length) c4_)),(131,.v (.slice bN ((qay W l v (Tree.mk n1 s2 b3 l4 u5) 0 ++ (uv (qaD W l (Tree.mk n1 s2 b3 l4 u5) k2 + k))).length + (qap W l (Tree.mk n1 s2 b3 l4 u5) k2 ++ qaP ((qah l u5).take k)).length) bO))]) kz
 have jV:=jU.cast (env':=[(129,.v (.slice bi ((qay W l v (Tree.mk n1 s2 b3 l4 u5) 0 ++ (uv (qaD W l (Tree.mk n1 s2 b3 l4 u5) k2 + k))).length) bj)),(130,.v (.slice A4_ ((qap W l (Tree.mk n1 s2 b3 l4 u5) k2 ++ qaP ((qah l u5).take k)).length) c4_)),(131,.v (.slice bN ((qay W l v (Tree.mk n1 s2 b3 l4 u5) 0 ++ (uv (qaD W l (Tree.mk n1 s2 b3 l4 u5) k2 + k)) ++ (qap W l (Tree.mk n1 s2 b3 l4 u5) k2 ++ qaP ((qah l u5).take k))).length) bO))]) (by simp only [List.length_append,List.length_cons,List.length_nil,Nat.zero_add])
 refine qaj [7] [] [(8,.v (.slice bN ((qay W l v (Tree.mk n1 s2 b3 l4 u5) 0 ++ (uv (qaD W l (Tree.mk n1 s2 b3 l4 u5) k2 + k)) ++ (qap W l (Tree.mk n1 s2 b3 l4 u5) k2 ++ qaP ((qah l u5).take k))).length) bO))] dx jV fun o5 jW=>?_
 refine qae (qab ?_)
 refine wp_ret ?_
 refine qaG jW dx.cells (v:=.slice bN ((qay W l v (Tree.mk n1 s2 b3 l4 u5) 0 ++ (uv (qaD W l (Tree.mk n1 s2 b3 l4 u5) k2 + k)) ++ (qap W l (Tree.mk n1 s2 b3 l4 u5) k2 ++ qaP ((qah l u5).take k))).length) bO) kz ?_
 have hkk3:k = (qah l u5).length:=by omega
 exact qaS dx (k:=0) rfl (by rw [show flex = true by simpa using bU,qdH,hkk3,hkk2,List.take_length])
theorem qeC:∀ d,qf7 d
 | 0=>fun A c l v flex ct t w F hl hd ht hr=>qhz (fun _ _=>[]) A c l v flex ct t w F (fun cf f ct t w F hm hf ht hr=>by
   obtain ⟨i,hi⟩:=List.mem_iff_getElem?.1 hm
   have h:=qcz hi
   obtain ⟨k,x1,x2,x3,x4,x5,x6,l,A,c,xs,rfl,_⟩:=hf.open_
   rw [qde] at h; omega) hl ht hr
 | d + 1=>fun A c l v flex ct t w F hl hd ht hr=>qhz (fun f t=>qbN d f v flex t) A c l v flex ct t w F (fun cf f ct t w F hm hf ht hr=>qhy (qeC d) cf f v flex ct t w F hf (by
   obtain ⟨i,hi⟩:=List.mem_iff_getElem?.1 hm
   have h:=qcz hi
   obtain ⟨k,x1,x2,x3,x4,x5,x6,l,A,c,xs,rfl,_⟩:=hf.open_
   rw [qde] at h
   show depths l ≤ d
   omega) ht hr) hl ht hr
theorem qhA {d:Nat} (A:Option Addr) (c:Nat) (l:List Fld) (x v:Int) (ct:List Value) (t:Tree) (w:World) (F:Nat → Nat → Prop) (hl:FldsR w F A c l) (hd:depths l ≤ d) (ht:TreeR w F ct t) (hroom:(qbt d l x v t).length ≤ 1099511627776) :
  Calls Tryd.prog 29 #[.agg #[.slice A l.length c,.int .i64 x],.int .i64 v,.agg ct.toArray] w (qcl w 5 (qbt d l x v t)):=by
 obtain ⟨xfs,h1,h2⟩:=hl.ex
 have hsm:=h1.small
 obtain ⟨n1,s2,b3,l4,u5,A6,c7,A8,c9,af,ag,aI,rfl,rfl,aJ,aK,aW,aX⟩:=ht.open_
 have aG:=aJ.small
 have aH:=aK.small
 refine enter (n:=21) Tryd.func29 rfl Tryd.ntmps29 kz fun a hE=>?_
 have hW:=WOk.start w Nil
 refine qad [0,1,2] kz ?_
 refine qal (qa5 hW hE (d:=3) (cs:=[.slice A l.length c,.int .i64 x]) kz fun aY aZ ba aL aM aO ai aj=>?_)
 refine qal (qa5 ai aj (d:=5) (cs:=[.int .i64 n1,.slice A6 s2.length c7,.bool b3,.slice A8 l4.length c9,.slice af u5.length ag]) kz fun bf bg bh aP aQ aR aa ak=>?_)
 refine qaj [2] [] [(1,.v (.int .i64 v)),(3,.p 0 0),(5,.p 1 0)] aa ak fun bi al=>?_
 refine qae (qab ?_)
 refine qad [0,1,2,3,4,5,6,7,8,9,10,11,12,13,14] kz ?_
 refine qaj [0,1,2,3,4,5,6] [7,8,9,10,11,12,13,14] [(1,.v (.int .i64 v)),(3,.p 0 0),(5,.p 1 0),(8,.v (.slice A l.length c)),(9,.v (.int .i64 v)),(13,.v (.bool (decide (x ≥ 0))))] aa al fun bj ah=>?_
 refine (Bool.eq_false_or_eq_true (decide (x ≥ 0))).elim (fun ab=>?_) (fun ab=>?_)
 ·
  have aS:=of_decide_eq_true ab
  have am:=ah.cast (env':=[(1,.v (.int .i64 v)),(3,.p 0 0),(5,.p 1 0),(8,.v (.slice A l.length c)),(9,.v (.int .i64 v)),(13,.v (.bool true))]) (by rw [ab])
  refine qaj [7,8,9,10,11,12] [13,14] [(8,.v (.slice A l.length c)),(9,.v (.int .i64 v)),(18,.v (.bool (decide (v ≥ x)))),(19,.v (.agg #[.int .i64 n1,.slice A6 s2.length c7,.bool b3,.slice A8 l4.length c9,.slice af u5.length ag]))] aa am fun bk ao=>?_
  refine qal (qak ao (f:=57) (vs:=[.slice A l.length c,.int .i64 v,.bool (decide (v ≥ x)),.agg #[.int .i64 n1,.slice A6 s2.length c7,.bool b3,.slice A8 l4.length c9,.slice af u5.length ag]]) (d:=20) kz Tryd.call57 (qeC _ _ _ l v (decide (v ≥ x)) _ (Tree.mk n1 s2 b3 l4 u5) _ _ ⟨xfs,(h1.move aa.step nilM aa.imm),(fun i_ x_ h_=>((h2 i_ x_ h_).move aa.step nilM aa.imm))⟩ hd (ht.move aa.step nilM aa.imm) (by simpa [qbt,ab] using hroom)) ?_)
  rintro e_ bn ⟨ap,ar,rfl,au,av⟩
  refine ⟨_,rfl,fun bo aw=>?_⟩
  obtain ⟨ac,aT⟩:=aa.frFresh av (brow ap ar 5 (qaF d l v (decide (v ≥ x)) (Tree.mk n1 s2 b3 l4 u5))) (Nat.le_refl _) au
  refine qaj [14] [] [(6,.v (.slice ap ((qaF d l v (decide (v ≥ x)) (Tree.mk n1 s2 b3 l4 u5)).length) ar))] ac aw fun bp ax=>?_
  refine qae (qab ?_)
  refine wp_ret ?_
  refine qaG ax ac.cells (v:=.slice ap ((qaF d l v (decide (v ≥ x)) (Tree.mk n1 s2 b3 l4 u5)).length) ar) kz ?_
  exact qaS ac (k:=0) rfl (by simp [qbt,ab])
 have aU:=of_decide_eq_false ab
 have ay:=ah.cast (env':=[(1,.v (.int .i64 v)),(3,.p 0 0),(5,.p 1 0),(8,.v (.slice A l.length c)),(9,.v (.int .i64 v)),(13,.v (.bool false))]) (by rw [ab])
 refine qaj [7,8,9,10,11,12] [13,14] [(8,.v (.slice A l.length c)),(9,.v (.int .i64 v)),(18,.v (.bool false)),(19,.v (.agg #[.int .i64 n1,.slice A6 s2.length c7,.bool b3,.slice A8 l4.length c9,.slice af u5.length ag]))] aa ay fun bq az=>?_
 refine qal (qak az (f:=57) (vs:=[.slice A l.length c,.int .i64 v,.bool false,.agg #[.int .i64 n1,.slice A6 s2.length c7,.bool b3,.slice A8 l4.length c9,.slice af u5.length ag]]) (d:=20) kz Tryd.call57 (qeC _ _ _ l v false _ (Tree.mk n1 s2 b3 l4 u5) _ _ ⟨xfs,(h1.move aa.step nilM aa.imm),(fun i_ x_ h_=>((h2 i_ x_ h_).move aa.step nilM aa.imm))⟩ hd (ht.move aa.step nilM aa.imm) (by simpa [qbt,ab] using hroom)) ?_)
 rintro e_ bt ⟨aA,aB,rfl,aC,aD⟩
 refine ⟨_,rfl,fun bu aE=>?_⟩
 obtain ⟨ae,aV⟩:=aa.frFresh aD (brow aA aB 5 (qaF d l v false (Tree.mk n1 s2 b3 l4 u5))) (Nat.le_refl _) aC
 refine qaj [14] [] [(6,.v (.slice aA ((qaF d l v false (Tree.mk n1 s2 b3 l4 u5)).length) aB))] ae aE fun bw aF=>?_
 refine qae (qab ?_)
 refine wp_ret ?_
 refine qaG aF ae.cells (v:=.slice aA ((qaF d l v false (Tree.mk n1 s2 b3 l4 u5)).length) aB) kz ?_
 exact qaS ae (k:=0) rfl (by simp [qbt,ab])
theorem qhB {d:Nat} (A:Option Addr) (c:Nat) (l:List Fld) (x v:Int) (ct:List Value) (t:Tree) (w:World) (F:Nat → Nat → Prop) (hl:FldsR w F A c l) (hd:depths l ≤ d) (ht:TreeR w F ct t) (hroom:(qc4 d l x v t).length ≤ 1099511627776) :
  Calls Tryd.prog 8 #[.agg #[.slice A l.length c,.int .i64 x],.int .i64 v,.agg ct.toArray] w (qcl w 5 (qc4 d l x v t)):=by
 obtain ⟨xfs,h1,h2⟩:=hl.ex
 have hsm:=h1.small
 obtain ⟨n1,s2,b3,l4,u5,A6,c7,A8,c9,ah,ai,aU,rfl,rfl,aV,aW,bi,bj⟩:=ht.open_
 have aS:=aV.small
 have aT:=aW.small
 refine enter (n:=14) Tryd.func8 rfl Tryd.ntmps8 kz fun a hE=>?_
 have hW:=WOk.start w Nil
 refine qad [0,1,2] kz ?_
 refine qal (qa5 hW hE (d:=3) (cs:=[.slice A l.length c,.int .i64 x]) kz fun bk bn bo aX aY aZ ar au=>?_)
 refine qal (qa5 ar au (d:=5) (cs:=[.int .i64 n1,.slice A6 s2.length c7,.bool b3,.slice A8 l4.length c9,.slice ah u5.length ai]) kz fun bp bq bt ba bf bg aj av=>?_)
 refine qaj [2] [] [(1,.v (.int .i64 v)),(3,.p 0 0),(5,.p 1 0)] aj av fun bu aw=>?_
 refine qae (qab ?_)
 refine qaT 7 kz aj fun bw bh ax ay=>?_
 refine qaH [0,2,3,4] [(7,.v (.int .i64 v)),(9,.v (.agg #[.slice A l.length c,.int .i64 x])),(10,.v (.int .i64 v)),(11,.v (.agg #[.int .i64 n1,.slice A6 s2.length c7,.bool b3,.slice A8 l4.length c9,.slice ah u5.length ai]))] 4 (qaa qaf) (fun _ h=>h.cells) ay aw fun bx az=>?_
 refine qaE (i:=1) kz (qak az (f:=28) (vs:=[.int .i64 v,.int .i64 2]) (d:=8) kz Tryd.call28 (qc8 v 2 (by first | decide | exact qbu _ | omega) _) ?_)
 rintro e_ bz ⟨ao,ap,rfl,aA,aB⟩
 refine ⟨_,rfl,fun bA aC=>?_⟩
 obtain ⟨aa,ae⟩:=ax.frFresh aB (brow ao ap 5 (be 2 v)) (Nat.le_refl _) aA
 have aD:=TT.ofW ae aa
 refine ⟨fun _=>aD,?_⟩
 refine qaE (i:=5) kz (qak aC (f:=29) (vs:=[.agg #[.slice A l.length c,.int .i64 x],.int .i64 v,.agg #[.int .i64 n1,.slice A6 s2.length c7,.bool b3,.slice A8 l4.length c9,.slice ah u5.length ai]]) (d:=12) kz Tryd.call29 (qhA _ _ l x v _ (Tree.mk n1 s2 b3 l4 u5) _ _ ⟨xfs,(h1.move aa.step nilM aa.imm),(fun i_ x_ h_=>((h2 i_ x_ h_).move aa.step nilM aa.imm))⟩ hd (ht.move aa.step nilM aa.imm) (by have h_:=hroom; rw [qc4,List.length_append] at h_; omega)) ?_)
 rintro e_ bB ⟨ak,al,rfl,aE,aF⟩
 refine ⟨_,rfl,fun bC aG=>?_⟩
 obtain ⟨ab,am⟩:=aa.frFresh aF (brow ak al 5 (qbt d l x v (Tree.mk n1 s2 b3 l4 u5))) (Nat.le_refl _) aE
 have aH:=TT.ofW (ae.trans am) ab
 refine ⟨fun _=>aH,?_⟩
 refine qaE (i:=6) kz (qaJ ab aG (k:=0) (d:=13) (t:=22) (e:=5) (size:=1) (bytes:=1) (A:=ao) (As:=ak) (m0:=((be 2 v).length)) (c:=ap) (m:=((qbt d l x v (Tree.mk n1 s2 b3 l4 u5)).length)) (cs:=al) (xs:=(bc (be 2 v))) (news:=bc (qbt d l x v (Tree.mk n1 s2 b3 l4 u5))) kz kz rfl (qbA (ab.own 1 _ rfl) (qb2 _)) (qbG (ab.own 1 _ rfl)) (by have h_:=hroom; rw [qc4,List.length_append] at h_; omega) fun af ag bD bE aI aJ aK=>?_)
 have aL:(⟨af,ag,5,1,(be 2 v).length + (qbt d l x v (Tree.mk n1 s2 b3 l4 u5)).length,bc (be 2 v) ++ bc (qbt d l x v (Tree.mk n1 s2 b3 l4 u5))⟩:Rw) = brow af ag 5 (be 2 v ++ (qbt d l x v (Tree.mk n1 s2 b3 l4 u5))):=qbj (rfl) rfl
 obtain ⟨ac,aM⟩:=aJ.rowEq 0 [brow af ag 5 (be 2 v ++ (qbt d l x v (Tree.mk n1 s2 b3 l4 u5))),brow ak al 5 (qbt d l x v (Tree.mk n1 s2 b3 l4 u5))] aL
 have aO:=EnvOk.pick aK (ks:=[7,9,10,11,8,12,13]) (env':=[(7,.v (.int .i64 v)),(9,.v (.agg #[.slice A l.length c,.int .i64 x])),(10,.v (.int .i64 v)),(11,.v (.agg #[.int .i64 n1,.slice A6 s2.length c7,.bool b3,.slice A8 l4.length c9,.slice ah u5.length ai])),(8,.v (.slice ao ((be 2 v).length) ap)),(12,.v (.slice ak ((qbt d l x v (Tree.mk n1 s2 b3 l4 u5)).length) al)),(13,.v (.slice af ((be 2 v).length + (qbt d l x v (Tree.mk n1 s2 b3 l4 u5)).length) ag))]) kz
 have aP:=aO.cast (env':=[(7,.v (.int .i64 v)),(9,.v (.agg #[.slice A l.length c,.int .i64 x])),(10,.v (.int .i64 v)),(11,.v (.agg #[.int .i64 n1,.slice A6 s2.length c7,.bool b3,.slice A8 l4.length c9,.slice ah u5.length ai])),(8,.v (.slice ao ((be 2 v).length) ap)),(12,.v (.slice ak ((qbt d l x v (Tree.mk n1 s2 b3 l4 u5)).length) al)),(13,.v (.slice af ((be 2 v ++ (qbt d l x v (Tree.mk n1 s2 b3 l4 u5))).length) ag))]) (by simp only [List.length_append,List.length_cons,List.length_nil,Nat.zero_add])
 have aQ:=TT.ofW (((ae.trans am).trans aI).trans aM) ac
 refine ⟨fun _=>aQ,?_⟩
 refine qaE (i:=7) kz (qbp [6] ac.cells aP (env':=[(6,.v (.slice af ((be 2 v ++ (qbt d l x v (Tree.mk n1 s2 b3 l4 u5))).length) ag))]) kz fun bF aR=>?_)
 refine ⟨fun h=>absurd rfl h,?_⟩
 refine qaL kz ?_ _
 refine qab ?_
 refine wp_ret ?_
 refine qaG aR ac.cells (v:=.slice af ((be 2 v ++ (qbt d l x v (Tree.mk n1 s2 b3 l4 u5))).length) ag) kz ?_
 exact qaS ac (k:=0) rfl (rfl)
def qhC (m:Nat):Prop:=∀ (ct:List Value) (t:Tree) (w:World) (F:Nat → Nat → Prop),TreeR w F ct t → t.depth ≤ m →
  Calls Tryd.prog 12 #[.agg ct.toArray] w (qd5 w F t)
theorem qga {m:Nat} (hg:qhC m) (ct:List Value) (t:Tree) (w:World) (F:Nat → Nat → Prop) (ht:TreeR w F ct t) (hd:t.depth ≤ m + 1) :
  Calls Tryd.prog 12 #[.agg ct.toArray] w (qd5 w F t):=by
 obtain ⟨n1,s2,b3,l4,u5,A6,c7,A8,c9,ap,ar,dV,rfl,rfl,dx,dy,dW,dX⟩:=ht.open_
 have dA:=dx.small
 have dB:=dy.small
 obtain ⟨dY,dC,dZ⟩:=dX.ex
 have dD:=dC.small
 refine enter (n:=49) Tryd.func12 rfl Tryd.ntmps12 kz fun a hE=>?_
 have hW:=WOk.start w Nil
 refine qad [0,1] kz ?_
 refine qal (qa5 hW hE (d:=1) (cs:=[.int .i64 n1,.slice A6 s2.length c7,.bool b3,.slice A8 l4.length c9,.slice ap u5.length ar]) kz fun bH fo fq d5 d6 d7 cZ c5=>?_)
 refine qal (qat cZ c5 (d:=2) (cs:=[.int .i64 0,.slice none 0 0,.bool false,.slice none 0 0,.slice none 0 0]) kz fun bI fr ft d8 d9 ea bK c6=>?_)
 refine qae (qab ?_)
 refine qad [0,1,2,3,4,5,6,7,8] kz ?_
 refine qaj [0,1,2,3,4,5,6] [7,8] [(1,.p 0 0),(2,.p 1 0),(14,.v (.agg #[.int .i64 n1,.slice A6 s2.length c7,.bool b3,.slice none 0 0,.slice none 0 0]))] bK c6 fun fu da=>?_
 refine qal (qat bK da (d:=3) (cs:=[.int .i64 0,.slice none 0 0,.bool false,.slice none 0 0,.slice none 0 0]) kz fun bJ fv fw eb ec ee db dc=>?_)
 refine qal (qan db dc (oi:=2) (cs:=[.int .i64 n1,.slice A6 s2.length c7,.bool b3,.slice none 0 0,.slice none 0 0]) kz fun fx ef bB de=>?_)
 refine qae (qab ?_)
 refine wp_seq ?_
 refine qaq [(1,.p 0 0),(2,.p 1 0),(3,.p 2 0),(16,.v (.slice A8 l4.length c9)),(17,.v (.int .i64 ((l4.length:Nat):Int))),(18,.v (.int .i64 0))] bB de fun fy df=>?_
 refine wp_block ?_
 have bL:=bB.addNil 37 5
 have eg:=bB.frNil 37 5
 refine wp_loop_ghost (fun n_ a_ w_=>∃ (k:Nat) (A_:Option Addr) (c_:Nat) (xs:List Value) (css:List (List Value)),n_ = l4.length - k ∧ k ≤ l4.length ∧ (Trees w_ (Imm F w w_ [⟨bH,0,[.int .i64 n1,.slice A6 s2.length c7,.bool b3,.slice A8 l4.length c9,.slice ap u5.length ar],true⟩,⟨bI,0,[.int .i64 0,.slice none 0 0,.bool false,.slice none 0 0,.slice none 0 0],true⟩,⟨bJ,0,[.int .i64 n1,.slice A6 s2.length c7,.bool b3,.slice A_ k c_,.slice none 0 0],true⟩] [⟨A_,c_,37,5,k,xs⟩]) xs (l4.take k) css) ∧ LInv bL 49 [⟨bH,0,[.int .i64 n1,.slice A6 s2.length c7,.bool b3,.slice A8 l4.length c9,.slice ap u5.length ar],true⟩,⟨bI,0,[.int .i64 0,.slice none 0 0,.bool false,.slice none 0 0,.slice none 0 0],true⟩,⟨bJ,0,[.int .i64 n1,.slice A6 s2.length c7,.bool b3,.slice A_ k c_,.slice none 0 0],true⟩] [⟨A_,c_,37,5,k,xs⟩] [(1,.p 0 0),(2,.p 1 0),(3,.p 2 0),(16,.v (.slice A8 l4.length c9)),(17,.v (.int .i64 ((l4.length:Nat):Int))),(18,.v (.int .i64 ((k:Nat):Int)))] a_ w_) (l4.length) ⟨0,none,0,[],[],by omega,by omega,Trees.nil _ _,df.pk,bL,Fr.refl _ _ _⟩ ?_
 rintro fA fB fC ⟨k,A_,c_,xs,css,eh,ei,hT,dg,aw,dh⟩
 refine qaq [(1,.p 0 0),(2,.p 1 0),(3,.p 2 0),(16,.v (.slice A8 l4.length c9)),(17,.v (.int .i64 ((l4.length:Nat):Int))),(18,.v (.int .i64 ((k:Nat):Int))),(19,.v (.bool (decide (((k:Nat):Int) < ((l4.length:Nat):Int)))))] aw dg fun fD bC=>?_
 refine wp_seq ?_
 refine qaA bC (b:=decide (((k:Nat):Int) < ((l4.length:Nat):Int))) kz (fun bD=>?_) (fun bD=>?_)
 ·
  have ej:=of_decide_eq_true bD
  refine wp_skip ?_
  refine qab ?_
  refine wp_seq ?_
  refine wp_block ?_
  refine qad [0,1,2,3] kz ?_
  obtain ⟨ek,em,di,eo,bh⟩:=Slots.get dy (i:=k) (by omega)
  obtain ⟨ep,bE⟩:∃ x,l4[k]? = some x:=⟨_,List.getElem?_eq_getElem (by omega)⟩
  have bF:=dW k ep bE
  obtain ⟨bM,bN,bO,bP,bQ,bR,bS,bT,bU,bV,bW,eu,rfl,bi,ew,ey,fE,fF⟩:=bF.open_
  rw [bi] at bF
  have dE:=ew.small
  have dF:=ey.small
  rw [bi] at bh
  refine qal (qaW bC (t:=23) (A:=A8) (m:=l4.length) (q:=((k:Nat):Int)) (d:=20) kz (e:=26) (size:=5) (bytes:=88) kz di rfl (by omega) fun fG bX=>?_)
  refine qal (qa2 bX (t:=26) (b:=ek) (o:=em + k * 5) (d:=21) kz (cs:=[.int .i64 bM,.slice bR bN.length bS,.bool bO,.slice bT bP.length bU,.slice bV bQ.length bW]) (v:=.agg #[.int .i64 bM,.slice bR bN.length bS,.bool bO,.slice bT bP.length bU,.slice bV bQ.length bW]) kz (AtF.move bh aw.step nilM qbw).at_ fun ez bY=>?_)
  refine qal (qat aw bY (d:=5) (cs:=[.int .i64 0,.slice none 0 0,.bool false,.slice none 0 0,.slice none 0 0]) kz fun eB eC eD dG dH ax bZ b8=>?_)
  refine qal (qan bZ b8 (oi:=3) (cs:=[.int .i64 bM,.slice bR bN.length bS,.bool bO,.slice bT bP.length bU,.slice bV bQ.length bW]) kz fun eE ay cd ce=>?_)
  refine qae (qab ?_)
  refine qdQ 7 kz cd fun eF az ag cg=>?_
  refine qaH [0,1,2] [(1,.p 0 0),(2,.p 1 0),(3,.p 2 0),(16,.v (.slice A8 l4.length c9)),(17,.v (.int .i64 ((l4.length:Nat):Int))),(18,.v (.int .i64 ((k:Nat):Int))),(23,.v (.slice A_ k c_)),(24,.v (.agg #[.int .i64 bM,.slice bR bN.length bS,.bool bO,.slice bT bP.length bU,.slice bV bQ.length bW]))] 5 (qac (qaa (qaa (qac (qaa qaf))))) (fun _ h=>h.cells) cg ce fun eG cm=>?_
  refine qaE (i:=3) kz (qak cm (f:=12) (vs:=[.agg #[.int .i64 bM,.slice bR bN.length bS,.bool bO,.slice bT bP.length bU,.slice bV bQ.length bW]]) (d:=25) kz Tryd.call12 ( hg _ _ _ _ (bF.move ag.step nilM ag.imm) (by have h_:=qdX bE; rw [qc1] at hd; omega)) ?_)
  rintro e_ eH ⟨dI,rfl,cq,aA⟩
  have aB:=cq.move (Step.refl _ Nil) nilM (ag.laid (G:=F) aA)
  obtain ⟨aC,aD,aE,aF,aG,aH,aI,aJ,aK,aL,aM,dJ,dK,aO,dj,dl,eI,eJ⟩:=aB.open_
  rw [aO] at aB
  have dp:=dj.small
  have dq:=dl.small
  rw [aO]
  refine ⟨_,rfl,fun eK cr=>?_⟩
  have bj:=ag.next_nil aA
  have ae:=ag.frN aA
  have cu:=TT.ofW ae bj
  refine ⟨fun _=>cu,?_⟩
  refine qaE (i:=4) kz (qdd bj cr (e:=37) (size:=5) (len:=1) (cs:=[.int .i64 aC,.slice aH aD.length aI,.bool aE,.slice aJ aF.length aK,.slice aL aG.length aM]) (d:=26) kz kz fun dr eL eM dL dM aa au cw=>?_)
  have cz:=TT.ofW (ae.trans aa) au
  refine ⟨fun _=>cz,?_⟩
  refine qaE (i:=5) kz (qaJ au cw (k:=0) (d:=27) (t:=34) (e:=37) (size:=5) (bytes:=88) (A:=A_) (As:=(some ⟨dr,0,none⟩)) (m0:=k) (c:=c_) (m:=1) (cs:=1) (xs:=xs) (news:=[.int .i64 aC,.slice aH aD.length aI,.bool aE,.slice aJ aF.length aK,.slice aL aG.length aM]) kz kz rfl (qbA (au.own 1 _ rfl) (qcj kz)) (qbG (au.own 1 _ rfl)) (by omega) fun aP aQ eN eO af bk cA=>?_)
  have bn:=TT.ofW ((ae.trans aa).trans af) bk
  refine ⟨fun _=>bn,?_⟩
  refine qaH [6] [(1,.p 0 0),(2,.p 1 0),(3,.p 2 0),(16,.v (.slice A8 l4.length c9)),(17,.v (.int .i64 ((l4.length:Nat):Int))),(18,.v (.int .i64 ((k:Nat):Int))),(27,.v (.slice aP (k + 1) aQ)),(28,.p 2 3)] 1 (qac (qaa (qaa (qac (qaa qaf))))) (fun _ h=>h.cells) bn cA fun eP cB=>?_
  refine qaE (i:=7) kz (qan bk cB (oi:=2) (cs:=[.int .i64 n1,.slice A6 s2.length c7,.bool b3,.slice aP (k + 1) aQ,.slice none 0 0]) kz fun eQ ah bo cC=>?_)
  refine ⟨fun h=>absurd rfl h,?_⟩
  refine qaL kz ?_ _
  refine qau ?_
  refine qab ?_
  refine qar [0,1] kz ?_
  refine qaj [0,1] [] [(1,.p 0 0),(2,.p 1 0),(3,.p 2 0),(16,.v (.slice A8 l4.length c9)),(17,.v (.int .i64 ((l4.length:Nat):Int))),(18,.v (.int .i64 (IntKind.i64.wrap (((k:Nat):Int) + 1))))] bo cC fun eR cD=>?_
  refine qae (qab ?_)
  obtain ⟨bp,cE,ai⟩:=bo.cutB cD 3 [⟨bH,0,[.int .i64 n1,.slice A6 s2.length c7,.bool b3,.slice A8 l4.length c9,.slice ap u5.length ar],true⟩,⟨bI,0,[.int .i64 0,.slice none 0 0,.bool false,.slice none 0 0,.slice none 0 0],true⟩,⟨bJ,0,[.int .i64 n1,.slice A6 s2.length c7,.bool b3,.slice aP (k + 1) aQ,.slice none 0 0],true⟩] [(1,.p 0 0),(2,.p 1 0),(3,.p 2 0),(16,.v (.slice A8 l4.length c9)),(17,.v (.int .i64 ((l4.length:Nat):Int))),(18,.v (.int .i64 (IntKind.i64.wrap (((k:Nat):Int) + 1))))]
  obtain ⟨cG,aj⟩:=cE.cutR 1 [⟨aP,aQ,37,5,k + 1,xs ++ [.int .i64 aC,.slice aH aD.length aI,.bool aE,.slice aJ aF.length aK,.slice aL aG.length aM]⟩]
  have cH:IntKind.i64.wrap (((k:Nat):Int) + 1) = ((k + 1:Nat):Int):=qaR (by omega)
  rw [cH] at bp
  exact ⟨l4.length - (k + 1),by omega,k + 1,aP,aQ,xs ++ [Value.int .i64 aC,.slice aH aD.length aI,.bool aE,.slice aJ aF.length aK,.slice aL aG.length aM],(css ++ [[Value.int .i64 aC,.slice aH aD.length aI,.bool aE,.slice aJ aF.length aK,.slice aL aG.length aM]]),rfl,by omega,by rw [qc7 bE]; exact (hT.move ((((((((ax.trans ay).trans az).trans ae).trans aa).trans af).trans ah).trans ai).trans aj).step immM ((((((((ax.trans ay).trans az).trans ae).trans aa).trans af).trans ah).trans ai).trans aj).to').snoc (aB.move ((((aa.trans af).trans ah).trans ai).trans aj).step immM ((((aa.trans af).trans ah).trans ai).trans aj).to'),bp.pk,cG,(((((((((dh.trans ax).trans ay).trans az).trans ae).trans aa).trans af).trans ah).trans ai).trans aj)⟩
 have dN:=of_decide_eq_false bD
 refine wp_exit ?_
 refine qav ?_
 refine qav ?_
 refine qaM ?_
 refine qab ?_
 refine wp_seq ?_
 refine qaq [(2,.p 1 0),(3,.p 2 0),(31,.v (.slice ap u5.length ar)),(32,.v (.int .i64 ((u5.length:Nat):Int))),(33,.v (.int .i64 0))] aw bC fun eS cI=>?_
 refine wp_block ?_
 have hk0:k = l4.length:=by omega
 have bq:=aw.addNil 64 2
 have bt:=aw.frNil 64 2
 refine wp_loop_ghost (fun n_ a_ w_=>∃ (q:Nat) (A5_:Option Addr) (c5_:Nat) (ys:List Value) (dss:List (List Value)),n_ = u5.length - q ∧ q ≤ u5.length ∧ (Tags w_ (Imm F w w_ [⟨bH,0,[.int .i64 n1,.slice A6 s2.length c7,.bool b3,.slice A8 l4.length c9,.slice ap u5.length ar],true⟩,⟨bI,0,[.int .i64 0,.slice none 0 0,.bool false,.slice none 0 0,.slice none 0 0],true⟩,⟨bJ,0,[.int .i64 n1,.slice A6 s2.length c7,.bool b3,.slice A_ k c_,.slice A5_ q c5_],true⟩] [⟨A_,c_,37,5,k,xs⟩,⟨A5_,c5_,64,2,q,ys⟩]) ys (u5.take q) dss) ∧ LInv bq 49 [⟨bH,0,[.int .i64 n1,.slice A6 s2.length c7,.bool b3,.slice A8 l4.length c9,.slice ap u5.length ar],true⟩,⟨bI,0,[.int .i64 0,.slice none 0 0,.bool false,.slice none 0 0,.slice none 0 0],true⟩,⟨bJ,0,[.int .i64 n1,.slice A6 s2.length c7,.bool b3,.slice A_ k c_,.slice A5_ q c5_],true⟩] [⟨A_,c_,37,5,k,xs⟩,⟨A5_,c5_,64,2,q,ys⟩] [(2,.p 1 0),(3,.p 2 0),(31,.v (.slice ap u5.length ar)),(32,.v (.int .i64 ((u5.length:Nat):Int))),(33,.v (.int .i64 ((q:Nat):Int)))] a_ w_) (u5.length) ⟨0,none,0,[],[],by omega,by omega,Tags.nil _ _,cI.pk,bq,Fr.refl _ _ _⟩ ?_
 rintro eU eV eW ⟨q,A5_,c5_,ys,dss,dO,dP,hU,cJ,ak,aR⟩
 refine qaq [(2,.p 1 0),(3,.p 2 0),(31,.v (.slice ap u5.length ar)),(32,.v (.int .i64 ((u5.length:Nat):Int))),(33,.v (.int .i64 ((q:Nat):Int))),(34,.v (.bool (decide (((q:Nat):Int) < ((u5.length:Nat):Int)))))] ak cJ fun eX aS=>?_
 refine wp_seq ?_
 refine qaA aS (b:=decide (((q:Nat):Int) < ((u5.length:Nat):Int))) kz (fun aT=>?_) (fun aT=>?_)
 ·
  have dQ:=of_decide_eq_true aT
  refine wp_skip ?_
  refine qab ?_
  refine wp_seq ?_
  refine wp_block ?_
  refine qad [0,1,2,3] kz ?_
  obtain ⟨dt,du,cK,dR,aU⟩:=Slots.get dC (i:=q) (by omega)
  obtain ⟨⟨ab,ac⟩,bu⟩:∃ x,u5[q]? = some x:=⟨_,List.getElem?_eq_getElem (by omega)⟩
  obtain ⟨⟨al,am,bG,cL⟩,dv,dw⟩:=dZ q ab ac bu
  rw [bG] at aU
  refine qal (qaW aS (t:=24) (A:=ap) (m:=u5.length) (q:=((q:Nat):Int)) (d:=35) kz (e:=65) (size:=2) (bytes:=32) kz cK rfl (by omega) fun eY cM=>?_)
  refine qal (qa2 cM (t:=65) (b:=dt) (o:=du + q * 2) (d:=36) kz (cs:=[.int .u32 ab,.slice al ac.length am]) (v:=.agg #[.int .u32 ab,.slice al ac.length am]) kz (AtF.move aU ak.step nilM qbw).at_ fun eZ cN=>?_)
  refine qal (qat ak cN (d:=7) (cs:=[.int .u32 0,.slice none 0 0]) kz fun e9 fa fb dS dT aV cO cP=>?_)
  refine qal (qan cO cP (oi:=3) (cs:=[.int .u32 ab,.slice al ac.length am]) kz fun fe aW bw cQ=>?_)
  refine qae (qab ?_)
  refine qar [0,1,2,3,4,5,6,7,8,9,10] kz ?_
  refine qaj [0,1,2,3,4,5,6] [7,8,9,10] [(2,.p 1 0),(3,.p 2 0),(31,.v (.slice ap u5.length ar)),(32,.v (.int .i64 ((u5.length:Nat):Int))),(33,.v (.int .i64 ((q:Nat):Int))),(38,.v (.slice A5_ q c5_)),(43,.v (.agg #[.int .u32 ab,.slice al ac.length am]))] bw cQ fun ff cR=>?_
  refine qbK bw cR (k:=1) (e:=64) (size:=2) (len:=1) (cs:=[.int .u32 ab,.slice al ac.length am]) (d1:=44) (d:=45) kz (t:=35) (bytes:=32) kz (fun _=>by kernel_rfl) rfl kz (by omega) fun bf bg fg fh aX bx ⟨_,cS⟩=>?_
  refine qaj [9] [10] [(2,.p 1 0),(3,.p 2 0),(31,.v (.slice ap u5.length ar)),(32,.v (.int .i64 ((u5.length:Nat):Int))),(33,.v (.int .i64 ((q:Nat):Int))),(45,.v (.slice bf (q + 1) bg)),(46,.p 2 4)] bx cS fun fi cT=>?_
  refine qal (qan bx cT (oi:=2) (cs:=[.int .i64 n1,.slice A6 s2.length c7,.bool b3,.slice A_ k c_,.slice bf (q + 1) bg]) kz fun fj aY bz cU=>?_)
  refine qae ?_
  refine qau ?_
  refine qab ?_
  refine qar [0,1] kz ?_
  refine qaj [0,1] [] [(2,.p 1 0),(3,.p 2 0),(31,.v (.slice ap u5.length ar)),(32,.v (.int .i64 ((u5.length:Nat):Int))),(33,.v (.int .i64 (IntKind.i64.wrap (((q:Nat):Int) + 1))))] bz cU fun fk cV=>?_
  refine qae (qab ?_)
  obtain ⟨bA,aZ,ba⟩:=bz.cutB cV 3 [⟨bH,0,[.int .i64 n1,.slice A6 s2.length c7,.bool b3,.slice A8 l4.length c9,.slice ap u5.length ar],true⟩,⟨bI,0,[.int .i64 0,.slice none 0 0,.bool false,.slice none 0 0,.slice none 0 0],true⟩,⟨bJ,0,[.int .i64 n1,.slice A6 s2.length c7,.bool b3,.slice A_ k c_,.slice bf (q + 1) bg],true⟩] [(2,.p 1 0),(3,.p 2 0),(31,.v (.slice ap u5.length ar)),(32,.v (.int .i64 ((u5.length:Nat):Int))),(33,.v (.int .i64 (IntKind.i64.wrap (((q:Nat):Int) + 1))))]
  have cW:IntKind.i64.wrap (((q:Nat):Int) + 1) = ((q + 1:Nat):Int):=qaR (by omega)
  rw [cW] at bA
  exact ⟨u5.length - (q + 1),by omega,q + 1,bf,bg,ys ++ [Value.int .u32 ab,.slice al ac.length am],(dss ++ [[Value.int .u32 ab,.slice al ac.length am]]),rfl,by omega,by rw [qc7 bu]; exact (hU.move ((((aV.trans aW).trans aX).trans aY).trans ba).step immM ((((aV.trans aW).trans aX).trans aY).trans ba).to').snoc (c:=[.int .u32 ab,.slice al ac.length am]) (x:=(ab,ac)) ⟨⟨_,_,rfl,(cL.move aZ.step nilM aZ.imm)⟩,dv,dw⟩,bA.pk,aZ,(((((aR.trans aV).trans aW).trans aX).trans aY).trans ba)⟩
 have dU:=of_decide_eq_false aT
 refine wp_exit ?_
 refine qav ?_
 refine qav ?_
 refine qaM ?_
 refine qab ?_
 refine qad [0,1] kz ?_
 refine qaj [0] [1] [(2,.p 1 0),(48,.v (.agg #[.int .i64 n1,.slice A6 s2.length c7,.bool b3,.slice A_ k c_,.slice A5_ q c5_]))] ak aS fun fl cX=>?_
 refine qal (qan ak cX (oi:=1) (cs:=[.int .i64 n1,.slice A6 s2.length c7,.bool b3,.slice A_ k c_,.slice A5_ q c5_]) kz fun fm av ao cY=>?_)
 refine qae (qab ?_)
 refine wp_ret ?_
 refine qaG cY ao.cells (v:=.agg #[.int .i64 n1,.slice A6 s2.length c7,.bool b3,.slice A_ k c_,.slice A5_ q c5_]) kz ?_
 have hq0:q = u5.length:=by omega
 have hT':=(hT.move ((bt.trans aR).trans av).step immM ((bt.trans aR).trans av).to')
 have hU':=(hU.move av.step immM av.to')
 rw [show l4.take k = l4 by rw [hk0,List.take_length]] at hT'
 rw [show u5.take q = u5 by rw [hq0,List.take_length]] at hU'
 exact qgt ao rfl (dx.move ao.step nilM qhb) hk0 (qgs ao (k:=0) rfl hT' hk0 (by omega)) hq0 (qha ao (k:=1) rfl hU' hq0 (by omega)) rfl
theorem lGot:∀ m,qhC m
 | 0=>fun ct t w F ht hd=>by
  obtain ⟨n,s,b,l,u,A1,c1,A2,c2,A3,c3,xs,rfl,_⟩:=ht.open_
  rw [qc1] at hd; omega
 | m + 1=>qga (lGot m)
end Go.Proofs.YtajibgahdkllkaaDoorR.ME
namespace Go.Proofs.YtajibgahdkllkaaDoorR.ME
open Go
open Go.RowKit
set_option linter.unusedVariables false
set_option linter.unusedSimpArgs false
set_option maxRecDepth 20000
set_option maxHeartbeats 4000000 in
theorem qb6 (v:Int) (D:DV) (b o:Nat) (w:World) (F:Nat → Nat → Prop) (hat:AtF w F b o [.int .i16 v,.string ((D.f 0).s),.string ((D.f 1).s),.int .i32 ((D.f 2).n)]) (hok:qa1 w F D):Calls Tryd.prog 27 #[.pointer (some ⟨b,o,none⟩)] w (qd5 w F (qbF D)):=by
 refine enter (n:=34) Tryd.func27 rfl Tryd.ntmps27 kz fun a hE=>?_
 have hW:WOk w Nil w [⟨b,o,[.int .i16 v,.string ((D.f 0).s),.string ((D.f 1).s),.int .i32 ((D.f 2).n)],false⟩] []:=(WOk.start w Nil).start1 hat rfl rfl
 unfold qa1 at hok
 obtain ⟨g1,g2,g3,_⟩:=hok
 have hE0:=(EnvOk.ptr0 (cs:=[.int .i16 v,.string ((D.f 0).s),.string ((D.f 1).s),.int .i32 ((D.f 2).n)]) (r:=false) hE).pk (env':=[(0,.p 0 0)])
 refine qad [0] kz ?_
 refine qal (qat hW hE0 (d:=2) (cs:=[.int .i64 0,.slice none 0 0,.bool false,.slice none 0 0,.slice none 0 0]) kz fun b4 a5 w6 hb7 hz8 hF9 hW10 hE11=>?_)
 refine qae (qab ?_)
 refine qad [0,1,2,3] kz ?_
 refine qal (qff (t:=23) (e:=26) (size:=5) (bytes:=88) (d:=4) (j:=3) (.agg #[.int .i64 0,.slice none 0 0,.bool false,.slice none 0 0,.slice none 0 0]) [.int .i64 0,.slice none 0 0,.bool false,.slice none 0 0,.slice none 0 0,.int .i64 0,.slice none 0 0,.bool false,.slice none 0 0,.slice none 0 0,.int .i64 0,.slice none 0 0,.bool false,.slice none 0 0,.slice none 0 0] hW10 hE11 fun b12 a13 w14 hb15 hz16 hF17 hW18 hE19=>?_)
 refine qaj [1] [2,3] [(0,.p 0 0),(2,.p 1 0),(5,.v (.agg #[.int .i64 0,.slice none 0 0,.bool false,.slice (some ⟨b12,0,none⟩) 3 3,.slice none 0 0]))] hW18 hE19 fun a20 hE21=>?_
 refine qal (qat hW18 hE21 (d:=3) (cs:=[.int .i64 0,.slice none 0 0,.bool false,.slice none 0 0,.slice none 0 0]) kz fun b22 a23 w24 hb25 hz26 hF27 hW28 hE29=>?_)
 refine qal (qan hW28 hE29 (oi:=3) (cs:=[.int .i64 0,.slice none 0 0,.bool false,.slice (some ⟨b12,0,none⟩) 3 3,.slice none 0 0]) kz fun w30 hF31 hW32 hE33=>?_)
 refine qae (qab ?_)
 refine qaT 9 kz hW32 fun w34 hF35 hW36 hT37=>?_
 refine qaH [0,1,2,3,4,5] [(0,.p 0 0),(2,.p 1 0),(3,.p 3 0),(7,.v (.slice (some ⟨b12,0,none⟩) 3 3)),(11,.v (.string ((D.f 0).s)))] 4 (qaa qaf) (fun _ h=>h.cells) hT37 hE33 fun a38 hE39=>?_
 refine qaE (i:=6) kz (qdL (d:=12) (src:=9) (dst:=22) (e:=5) (s:=((D.f 0).s)) hW36 hE39 (by omega) fun b40 c41 a42 w43 hF44 hW45 hO46 hE47=>?_)
 have hO48:=hO46 F
 have hT49:=TT.ofW hF44 hW45
 refine ⟨fun _=>hT49,?_⟩
 refine qaH [7] [(0,.p 0 0),(2,.p 1 0),(3,.p 3 0),(7,.v (.slice (some ⟨b12,0,none⟩) 3 3)),(13,.v (.agg #[.int .i64 0,.slice (some ⟨b40,0,none⟩) ((sb ((D.f 0).s)).length) c41,.bool false,.slice none 0 0,.slice none 0 0]))] 2 (qaa qaf) (fun _ h=>h.cells) hT49 hE47 fun a50 hE51=>?_
 refine qaO hE51 (i:=8) (t:=23) (A:=(some ⟨b12,0,none⟩)) (m:=3) (q:=0) (d:=14) kz (e:=26) (size:=5) (bytes:=88) (j:=0) kz (b:=b12) (o:=0) rfl rfl (by decide) kz kz (qaa qaf) hT49 fun a52 hE53=>?_
 have hE54:=hE53.recast 14 (.v (.pointer (some ⟨b12,0 + 0 * 5,none⟩))) (.p 2 0) rfl rfl (Nat.le_of_ble_eq_true (n:=3) rfl)
 have hE55:=hE54.pk (env':=[(0,.p 0 0),(2,.p 1 0),(3,.p 3 0),(7,.v (.slice (some ⟨b12,0,none⟩) 3 3)),(13,.v (.agg #[.int .i64 0,.slice (some ⟨b40,0,none⟩) ((sb ((D.f 0).s)).length) c41,.bool false,.slice none 0 0,.slice none 0 0])),(14,.p 2 0)])
 refine qaE (i:=9) kz (qan hW45 hE55 (oi:=2) (cs:=[.int .i64 0,.slice (some ⟨b40,0,none⟩) ((sb ((D.f 0).s)).length) c41,.bool false,.slice none 0 0,.slice none 0 0,.int .i64 0,.slice none 0 0,.bool false,.slice none 0 0,.slice none 0 0,.int .i64 0,.slice none 0 0,.bool false,.slice none 0 0,.slice none 0 0]) kz fun w56 hF57 hW58 hE59=>?_)
 refine ⟨fun h=>absurd rfl h,?_⟩
 refine qaL kz ?_ _
 refine qab ?_
 refine qaT 9 kz hW58 fun w60 hF61 hW62 hT63=>?_
 refine qaH [0,1,2,3,4,5] [(0,.p 0 0),(2,.p 1 0),(3,.p 3 0),(16,.v (.slice (some ⟨b12,0,none⟩) 3 3)),(20,.v (.string ((D.f 1).s)))] 4 (qaa qaf) (fun _ h=>h.cells) hT63 hE59 fun a64 hE65=>?_
 refine qaE (i:=6) kz (qdL (d:=21) (src:=9) (dst:=22) (e:=5) (s:=((D.f 1).s)) hW62 hE65 (by omega) fun b66 c67 a68 w69 hF70 hW71 hO72 hE73=>?_)
 have hO74:=hO72 F
 have hT75:=TT.ofW hF70 hW71
 refine ⟨fun _=>hT75,?_⟩
 refine qaH [7] [(0,.p 0 0),(2,.p 1 0),(3,.p 3 0),(16,.v (.slice (some ⟨b12,0,none⟩) 3 3)),(22,.v (.agg #[.int .i64 0,.slice (some ⟨b66,0,none⟩) ((sb ((D.f 1).s)).length) c67,.bool false,.slice none 0 0,.slice none 0 0]))] 2 (qaa qaf) (fun _ h=>h.cells) hT75 hE73 fun a76 hE77=>?_
 refine qaO hE77 (i:=8) (t:=23) (A:=(some ⟨b12,0,none⟩)) (m:=3) (q:=1) (d:=23) kz (e:=26) (size:=5) (bytes:=88) (j:=1) kz (b:=b12) (o:=0) rfl rfl (by decide) kz kz (qaa qaf) hT75 fun a78 hE79=>?_
 have hE80:=hE79.recast 23 (.v (.pointer (some ⟨b12,0 + 1 * 5,none⟩))) (.p 2 5) rfl rfl (Nat.le_of_ble_eq_true (n:=3) rfl)
 have hE81:=hE80.pk (env':=[(0,.p 0 0),(2,.p 1 0),(3,.p 3 0),(16,.v (.slice (some ⟨b12,0,none⟩) 3 3)),(22,.v (.agg #[.int .i64 0,.slice (some ⟨b66,0,none⟩) ((sb ((D.f 1).s)).length) c67,.bool false,.slice none 0 0,.slice none 0 0])),(23,.p 2 5)])
 refine qaE (i:=9) kz (qan hW71 hE81 (oi:=2) (cs:=[.int .i64 0,.slice (some ⟨b40,0,none⟩) ((sb ((D.f 0).s)).length) c41,.bool false,.slice none 0 0,.slice none 0 0,.int .i64 0,.slice (some ⟨b66,0,none⟩) ((sb ((D.f 1).s)).length) c67,.bool false,.slice none 0 0,.slice none 0 0,.int .i64 0,.slice none 0 0,.bool false,.slice none 0 0,.slice none 0 0]) kz fun w82 hF83 hW84 hE85=>?_)
 refine ⟨fun h=>absurd rfl h,?_⟩
 refine qaL kz ?_ _
 refine qab ?_
 refine qaT 9 kz hW84 fun w86 hF87 hW88 hT89=>?_
 refine qaH [0,1,2,3,4,5,6,7] [(2,.p 1 0),(3,.p 3 0),(25,.v (.slice (some ⟨b12,0,none⟩) 3 3)),(31,.v (.agg #[.int .i64 (IntKind.i64.wrap ((D.f 2).n)),.slice none 0 0,.bool false,.slice none 0 0,.slice none 0 0]))] 2 (qaa qaf) (fun _ h=>h.cells) hT89 hE85 fun a90 hE91=>?_
 refine qaO hE91 (i:=8) (t:=23) (A:=(some ⟨b12,0,none⟩)) (m:=3) (q:=2) (d:=32) kz (e:=26) (size:=5) (bytes:=88) (j:=2) kz (b:=b12) (o:=0) rfl rfl (by decide) kz kz (qaa qaf) hT89 fun a92 hE93=>?_
 have hE94:=hE93.recast 32 (.v (.pointer (some ⟨b12,0 + 2 * 5,none⟩))) (.p 2 10) rfl rfl (Nat.le_of_ble_eq_true (n:=3) rfl)
 have hE95:=hE94.pk (env':=[(2,.p 1 0),(3,.p 3 0),(25,.v (.slice (some ⟨b12,0,none⟩) 3 3)),(31,.v (.agg #[.int .i64 (IntKind.i64.wrap ((D.f 2).n)),.slice none 0 0,.bool false,.slice none 0 0,.slice none 0 0])),(32,.p 2 10)])
 refine qaE (i:=9) kz (qan hW88 hE95 (oi:=2) (cs:=[.int .i64 0,.slice (some ⟨b40,0,none⟩) ((sb ((D.f 0).s)).length) c41,.bool false,.slice none 0 0,.slice none 0 0,.int .i64 0,.slice (some ⟨b66,0,none⟩) ((sb ((D.f 1).s)).length) c67,.bool false,.slice none 0 0,.slice none 0 0,.int .i64 (IntKind.i64.wrap ((D.f 2).n)),.slice none 0 0,.bool false,.slice none 0 0,.slice none 0 0]) kz fun w96 hF97 hW98 hE99=>?_)
 refine ⟨fun h=>absurd rfl h,?_⟩
 refine qaL kz ?_ _
 refine qab ?_
 refine qad [0,1] kz ?_
 refine qaj [0] [1] [(2,.p 1 0),(33,.v (.agg #[.int .i64 0,.slice none 0 0,.bool false,.slice (some ⟨b12,0,none⟩) 3 3,.slice none 0 0]))] hW98 hE99 fun a100 hE101=>?_
 refine qal (qan hW98 hE101 (oi:=1) (cs:=[.int .i64 0,.slice none 0 0,.bool false,.slice (some ⟨b12,0,none⟩) 3 3,.slice none 0 0]) kz fun w102 hF103 hW104 hE105=>?_)
 refine qae (qab ?_)
 refine wp_ret ?_
 refine qaG hE105 hW104.cells (v:=.agg #[.int .i64 0,.slice none 0 0,.bool false,.slice (some ⟨b12,0,none⟩) 3 3,.slice none 0 0]) kz ?_
 exact qgE (u:=[]) (l:=[.mk 0 (sb (D.f 0).s) false [] [],.mk 0 (sb (D.f 1).s) false [] [],.mk (IntKind.i64.wrap (D.f 2).n) [] false [] []]) (css:=[[.int .i64 0,.slice (some ⟨b40,0,none⟩) ((sb ((D.f 0).s)).length) c41,.bool false,.slice none 0 0,.slice none 0 0],[.int .i64 0,.slice (some ⟨b66,0,none⟩) ((sb ((D.f 1).s)).length) c67,.bool false,.slice none 0 0,.slice none 0 0],[.int .i64 (IntKind.i64.wrap ((D.f 2).n)),.slice none 0 0,.bool false,.slice none 0 0,.slice none 0 0]]) hW104 2 rfl ⟨(show TreeR _ (Imm F w w102 [⟨b,o,[.int .i16 v,.string ((D.f 0).s),.string ((D.f 1).s),.int .i32 ((D.f 2).n)],false⟩,⟨b4,0,[.int .i64 0,.slice none 0 0,.bool false,.slice (some ⟨b12,0,none⟩) 3 3,.slice none 0 0],true⟩,⟨b12,0,[.int .i64 0,.slice (some ⟨b40,0,none⟩) ((sb ((D.f 0).s)).length) c41,.bool false,.slice none 0 0,.slice none 0 0,.int .i64 0,.slice (some ⟨b66,0,none⟩) ((sb ((D.f 1).s)).length) c67,.bool false,.slice none 0 0,.slice none 0 0,.int .i64 (IntKind.i64.wrap ((D.f 2).n)),.slice none 0 0,.bool false,.slice none 0 0,.slice none 0 0],true⟩,⟨b22,0,[.int .i64 0,.slice none 0 0,.bool false,.slice (some ⟨b12,0,none⟩) 3 3,.slice none 0 0],true⟩] []) _ _ from (TreeR.mk (n:=0) (b:=false) (s:=(sb ((D.f 0).s))) (l:=[]) (u:=[]) (fun _=>[]) (hO48.move ((((((hF57.trans hF61).trans hF70).trans hF83).trans hF87).trans hF97).trans hF103).step immM ((((((hF57.trans hF61).trans hF70).trans hF83).trans hF87).trans hF97).trans hF103).to') (Slots.nil _ _ _ _) (fun i_ x_ h_=>by simp at h_) (TagsR.nil _ _))).move (Step.refl _ Nil) nilM qcm,(show TreeR _ (Imm F w w102 [⟨b,o,[.int .i16 v,.string ((D.f 0).s),.string ((D.f 1).s),.int .i32 ((D.f 2).n)],false⟩,⟨b4,0,[.int .i64 0,.slice none 0 0,.bool false,.slice (some ⟨b12,0,none⟩) 3 3,.slice none 0 0],true⟩,⟨b12,0,[.int .i64 0,.slice (some ⟨b40,0,none⟩) ((sb ((D.f 0).s)).length) c41,.bool false,.slice none 0 0,.slice none 0 0,.int .i64 0,.slice (some ⟨b66,0,none⟩) ((sb ((D.f 1).s)).length) c67,.bool false,.slice none 0 0,.slice none 0 0,.int .i64 (IntKind.i64.wrap ((D.f 2).n)),.slice none 0 0,.bool false,.slice none 0 0,.slice none 0 0],true⟩,⟨b22,0,[.int .i64 0,.slice none 0 0,.bool false,.slice (some ⟨b12,0,none⟩) 3 3,.slice none 0 0],true⟩] []) _ _ from (TreeR.mk (n:=0) (b:=false) (s:=(sb ((D.f 1).s))) (l:=[]) (u:=[]) (fun _=>[]) (hO74.move (((hF83.trans hF87).trans hF97).trans hF103).step immM (((hF83.trans hF87).trans hF97).trans hF103).to') (Slots.nil _ _ _ _) (fun i_ x_ h_=>by simp at h_) (TagsR.nil _ _))).move (Step.refl _ Nil) nilM qcm,(show TreeR _ (Imm F w w102 [⟨b,o,[.int .i16 v,.string ((D.f 0).s),.string ((D.f 1).s),.int .i32 ((D.f 2).n)],false⟩,⟨b4,0,[.int .i64 0,.slice none 0 0,.bool false,.slice (some ⟨b12,0,none⟩) 3 3,.slice none 0 0],true⟩,⟨b12,0,[.int .i64 0,.slice (some ⟨b40,0,none⟩) ((sb ((D.f 0).s)).length) c41,.bool false,.slice none 0 0,.slice none 0 0,.int .i64 0,.slice (some ⟨b66,0,none⟩) ((sb ((D.f 1).s)).length) c67,.bool false,.slice none 0 0,.slice none 0 0,.int .i64 (IntKind.i64.wrap ((D.f 2).n)),.slice none 0 0,.bool false,.slice none 0 0,.slice none 0 0],true⟩,⟨b22,0,[.int .i64 0,.slice none 0 0,.bool false,.slice (some ⟨b12,0,none⟩) 3 3,.slice none 0 0],true⟩] []) _ _ from (TreeR.mk (n:=IntKind.i64.wrap ((D.f 2).n)) (b:=false) (s:=[]) (l:=[]) (u:=[]) (fun _=>[]) (Octs.nil _ _) (Slots.nil _ _ _ _) (fun i_ x_ h_=>by simp at h_) (TagsR.nil _ _))).move (Step.refl _ Nil) nilM qcm,trivial⟩ (TagsR.nil _ _)
end Go.Proofs.YtajibgahdkllkaaDoorR.ME
namespace Go.Proofs.YtajibgahdkllkaaDoorR.ME
open Go
open Go.RowKit
set_option linter.unusedVariables false
set_option linter.unusedSimpArgs false
set_option maxRecDepth 20000
def qgF:Tree → Int → Tree
 | .mk _ s b l u,n=>.mk n s b l u
theorem trc {l l':List Tree} {u u':List (Int × Bs)} (h:l = l') (h':u = u'):Tree.mk 0 [] false l u = Tree.mk 0 [] false l' u':=by rw [h,h']
theorem tlc {a b:Tree} {l l':List Tree} (h:a = b) (h':l = l'):a :: l = b :: l':=by rw [h,h']
theorem qgV {f:Bool} {σ:Sg} (h:f = false):aTxt f σ = aStr σ:=by unfold aTxt; exact if_neg (by rw [h]; decide)
theorem qgW {f:Bool} {σ:Sg} (h:f = false):uTxt f σ = uStr σ:=by unfold uTxt; exact if_neg (by rw [h]; decide)
section
variable {f:Bool}
theorem qgb (h:f = false) (σ:Sg):RPrim0U Tryd.prog 79 σ (aTxt f σ) (.string (bs (uTxt f σ))):=by rw [qgV h,qgW h]; exact qhf σ
theorem qc3 (h:f = false) (σ:Sg):RPrim0U Tryd.prog 78 σ (aTxt f σ) (.string (bs (uTxt f σ))):=by rw [qgV h,qgW h]; exact qd0 σ
end
section
variable {Pr:Program} {ops:Array Oper} {Q:Exit → Act → World → Prop} {w0:World} {M F:Nat → Nat → Prop} {n br:Nat} {tb:Tb} {env:Env} {P:qey} {σ:Sg} {a:Act} {w:World}
theorem qd1 {i d g:Nat} {f:FuncId} {ev:Value} {N:Act → World → Prop} (h:RSU w0 M F n br tb env P σ a w) (hb:σ.1 = true) (hg:∀ w F,P w F → AtF w F g 0 [ev])
  (hc:∀ {br:Nat} {A:Option Addr} {m c:Nat} {w:World} {F:Nat → Nat → Prop},Str w br [.slice A m c,.bool true] → AtF w F g 0 [ev] → (∀ b o,F b o → ¬ RdM br b o) → Calls Pr f #[.pointer (some ⟨br,0,none⟩)] w (fun e w'=>e = .returned ev ∧ w' = w))
  (hf:∀ args w,(callFunc f args).run Pr w = .ok (.enter f args) w) (K:∀ a',RSU w0 M F n br tb ((d,.v ev) :: env) P σ a' w → N a' w)
  (he:∀ bd A m c,qel (rdoU br bd A m c :: tb) env ops n i = some (f,[.pointer (some ⟨br,0,none⟩)],d):=by intro _ _ _ _; kernel_rfl):wpOp Pr ops Q i N a w:=by
 obtain ⟨A,m,c,hW,hr,hE,hP⟩:=h.open_
 have hs:=Str.of hW 0 rfl
 rw [hb] at hs
 refine qak hE (he _ A m c) hf (hc hs (hg _ _ hP) (qdJ 0 rfl)) ?_
 rintro e_ _ ⟨rfl,rfl⟩
 exact ⟨_,rfl,fun a1 hE1=>K a1 (RSU.mk' hW hr hE1 h.mv hP h.lim)⟩
end
theorem RSU.startG {w0 w:World} {M F:Nat → Nat → Prop} {n br c g:Nat} {ev:Value} {A:Option Addr} {o1:Ob} {env:Env} {s:Bs} {a:Act} (hW:WOk w0 M w [o1,rdoU br false A s.length c] []) (hE:EnvOk n [o1,rdoU br false A s.length c] env a) (ho:Octs w (Imm F w0 w [o1,rdoU br false A s.length c] []) A c s) (hg:AtF w (Imm F w0 w [o1,rdoU br false A s.length c] []) g 0 [ev]) (hl:s.length ≤ 1000) (env':Env) (he:pick (qez env) (qbH env') = some env':=by kernel_rfl):RSU w0 M F n br [o1] env' (atF g 0 [ev]) (false,s) a w :=
 RSU.mk' hW.swap2 ⟨rfl,ho.move (Step.refl w Nil) nilM fun b o h _=>⟨h.1,h.2.1,fun ha=>h.2.2 (qeP ha)⟩⟩ ((qhc hE).pick he) (MvF.at_ _ _ _) (hg.move (Step.refl w Nil) nilM fun b o h _=>⟨h.1,h.2.1,fun ha=>h.2.2 (qeP ha)⟩) hl
def qag (v:Int) (σ:Sg):Sg:=σ
def qcJ (v:Int) (σ:Sg):Sg:=(aN 2 σ)
def qaw (v:Int) (σ:Sg):Sg:=qcJ v (qag v σ)
def qcK (v:Int) (σ:Sg):Sg:=(aTxt false σ)
def qaB (v:Int) (σ:Sg):Sg:=qcK v (qaw v σ)
def qcL (v:Int) (σ:Sg):Tree:=.mk 0 (sb (bs (uTxt false σ))) false [] []
def qcM (v:Int) (σ:Sg):Tree:=qcL v (qaw v σ)
def qcN (v:Int) (σ:Sg):Sg:=(aTxt false σ)
def qaX (v:Int) (σ:Sg):Sg:=qcN v (qaB v σ)
def qcO (v:Int) (σ:Sg):Tree:=.mk 0 (sb (bs (uTxt false σ))) false [] []
def qcP (v:Int) (σ:Sg):Tree:=qcO v (qaB v σ)
def qcQ (v:Int) (σ:Sg):Sg:=(aN 4 σ)
def qbx (v:Int) (σ:Sg):Sg:=qcQ v (qaX v σ)
def qcR (v:Int) (σ:Sg):Tree:=.mk (IntKind.i64.wrap (uI32 σ)) [] false [] []
def qcS (v:Int) (σ:Sg):Tree:=qcR v (qaX v σ)
def qaK (v:Int) (σ:Sg):Sg:=qbx v σ
def qa7 (v:Int) (σ:Sg):Tree:=.mk 0 [] false [qcM v σ,qcP v σ,qcS v σ] ([])
set_option maxHeartbeats 4000000 in
theorem qb7 (v:Int) (un:Bool) (s:Bs) (hl:s.length ≤ 1000) {ev:Value} {bv:Nat} {A:Option Addr} {c:Nat} {w:World} {F:Nat → Nat → Prop} (hst:Str w bv [.int .i16 v,.string ByteArray.empty,.string ByteArray.empty,.int .i32 0]) (ho:Octs w F A c s) (hgl:AtF w F 1 0 [ev]) (hFd:∀ b o,F b o → ¬ (b = bv ∧ o < 4)) :
  Calls Tryd.prog 56 #[.pointer (some ⟨bv,0,none⟩),.slice A s.length c,.bool un] w (fun e w'=>((qaK v (false,s)).1 = true ∧ e = .returned ev ∧ (∃ cs,Str w' bv cs ∧ cs.length = 4) ∧ Step w w' (fun b o=>b = bv ∧ o < 4)) ∨ ((qaK v (false,s)).1 = false ∧ ∃ D:DV,e = .returned .nilIface ∧ Str w' bv [.int .i16 (uI16 (qag v (false,s))),.string ((D.f 0).s),.string ((D.f 1).s),.int .i32 ((D.f 2).n)] ∧ qa1 w' (Fp F w) D ∧ qbF D = qa7 v (false,s) ∧ Step w w' (fun b o=>b = bv ∧ o < 4))):=by
 refine enter (n:=47) Tryd.func56 rfl Tryd.ntmps56 kz fun a hE=>?_
 have hW:=WOk.startStr hst
 have hE1:=(hE.grow ⟨bv,0,[.int .i16 v,.string ByteArray.empty,.string ByteArray.empty,.int .i32 0],true⟩).recast 0 (.v (.pointer (some ⟨bv,0,none⟩))) (.p 0 0) rfl rfl (Nat.le_of_ble_eq_true (n:=1) rfl)
 refine qaq [(0,.p 0 0),(1,.v (.slice A s.length c)),(2,.v (.bool un))] hW hE1 fun a1 hE2=>?_
 refine qad [0,1] kz ?_
 refine qaj [0] [1] [(0,.p 0 0),(1,.v (.slice A s.length c)),(2,.v (.bool un)),(13,.p 0 0)] hW hE2 fun a3 hE4=>?_
 refine qal (qa0 hE4 (f:=55) (vs:=[.pointer (some ⟨bv,0,none⟩)]) (d:=14) (n':=2) kz Tryd.call55 Tryd.func55 rfl Tryd.ntmps55 kz fun a5 hE6=>?_)
 have hE7:=hE6.recast 0 (.v (.pointer (some ⟨bv,0,none⟩))) (.p 0 0) rfl rfl (Nat.le_of_ble_eq_true (n:=1) rfl)
 refine wp_skip ?_
 refine qck hE7 hW.cells (v:=.tuple #[]) kz ?_
 refine ⟨_,rfl,fun a8 hE9=>?_⟩
 have hE10:=(EnvOk.places (tb':=[⟨bv,0,[.int .i16 v,.string ByteArray.empty,.string ByteArray.empty,.int .i32 0],true⟩]) hE9 (show Pl [⟨bv,0,[.int .i16 v,.string ByteArray.empty,.string ByteArray.empty,.int .i32 0],true⟩] [⟨bv,0,[.int .i16 v,.string ByteArray.empty,.string ByteArray.empty,.int .i32 0],true⟩] from ⟨rfl,rfl,trivial⟩)).pk (env':=[(14,.v (.tuple #[])),(0,.p 0 0),(1,.v (.slice A s.length c)),(2,.v (.bool un)),(13,.p 0 0)])
 refine qae (qab ?_)
 refine qad [0,1,2,3] kz ?_
 refine qaj [0,1] [2,3] [(0,.p 0 0),(2,.v (.bool un)),(16,.v (.agg #[.slice A s.length c,.bool false]))] hW hE10 fun a11 hE12=>?_
 refine qal (qat hW hE12 (d:=7) (cs:=[.slice none 0 0,.bool false]) kz fun b13 a14 w15 hb16 hz17 hF18 hW19 hE20=>?_)
 refine qal (qan hW19 hE20 (oi:=1) (cs:=[.slice A s.length c,.bool false]) kz fun w21 hF22 hW23 hE24=>?_)
 refine qae (qab ?_)
 have hS25:=RSU.startG (F:=F) (s:=s) hW23 hE24 (ho.move hW23.step (fun b_ o_ h_ _=>hFd b_ o_ h_) (hW23.immM hFd)) (hgl.move hW23.step (fun b_ o_ h_ _=>hFd b_ o_ h_) (hW23.immM hFd)) hl [(0,.p 1 0),(2,.v (.bool un)),(7,.p 0 0)]
 have hS27:=hS25.cast (σ':=(qag v (false,s))) rfl
 clear hS25
 refine wp_seq ?_
 refine qar [0,1,2,3,4] kz ?_
 refine qdK [0] [1,2,3,4] [(0,.p 1 0),(2,.v (.bool un)),(7,.p 0 0),(17,.p 1 0)] hS27 fun _ hS28=>?_
 clear hS27
 have l29:=hS28.lim
 refine qal (qei (d:=18) hS28 (qf4 (qag v (false,s))) Tryd.call77 fun _ _ hS31=>?_)
 clear hS28
 refine qdK [2,3] [4] [(0,.p 1 0),(2,.v (.bool un)),(7,.p 0 0),(18,.v (.int .i16 (uI16 (qag v (false,s))))),(20,.p 1 0)] hS31 fun _ hS32=>?_
 clear hS31
 refine qal (qfX [⟨bv,0,[.int .i16 (uI16 (qag v (false,s))),.string ByteArray.empty,.string ByteArray.empty,.int .i32 0],true⟩] 0 hS32 fun _ hS33=>?_)
 clear hS32
 refine qae ?_
 have hS34:=hS33.pk (env':=[(0,.p 1 0),(2,.v (.bool un)),(7,.p 0 0)])
 clear hS33
 have hS35:=hS34.cast (σ':=(qaw v (false,s))) rfl
 clear hS34
 refine qab ?_
 refine wp_seq ?_
 refine qds [(0,.p 1 0),(2,.v (.bool un)),(7,.p 0 0),(8,.v (.int .i16 (uI16 (qag v (false,s)))))] hS35 fun _ hS36=>?_
 clear hS35
 refine qab ?_
 refine wp_seq ?_
 refine qds [(0,.p 1 0),(2,.v (.bool un)),(7,.p 0 0)] hS36 fun _ hS37=>?_
 clear hS36
 refine qab ?_
 refine wp_seq ?_
 refine qds [(2,.v (.bool un)),(7,.p 0 0),(9,.p 1 0)] hS37 fun _ hS38=>?_
 clear hS37
 refine qab ?_
 refine wp_seq ?_
 refine wp_seq ?_
 refine qds [(2,.v (.bool un)),(7,.p 0 0),(9,.p 1 0)] hS38 fun _ hS39=>?_
 clear hS38
 refine qab ?_
 refine wp_seq ?_
 have l40:=hS39.lim
 refine qeQ (Mid:=fun a_ w_=>RSU w (fun b o=>b = bv ∧ o < 4) F 47 b13 [⟨bv,0,[.int .i16 (uI16 (qag v (false,s))),.string ByteArray.empty,.string ByteArray.empty,.int .i32 0],true⟩] [(2,.v (.bool un)),(7,.p 0 0),(9,.p 1 0),(10,.v (.string (bs (uTxt false (qaw v (false,s))))))] (atF 1 0 [ev]) (aTxt false (qaw v (false,s))) a_ w_) ?_ ?_
 ·
  refine wp_seq ?_
  refine qds [(2,.v (.bool un)),(7,.p 0 0),(9,.p 1 0),(27,.v (.bool un))] hS39 fun _ hS45=>qab ?_
  clear hS39
  refine qaA hS45.env_ (b:=un) kz (fun hc46=>?_) (fun hc46=>?_)
  ·
   refine qdt (d:=28) [(2,.v (.bool un)),(7,.p 0 0),(9,.p 1 0),(10,.v (.string (bs (uTxt false (qaw v (false,s))))))] hS45 (qc3 (f:=false) (rfl) (qaw v (false,s))) Tryd.call78 fun _ _ hS48=>?_
   clear hS45
   refine qab ?_
   exact hS48.pk (env':=[(2,.v (.bool un)),(7,.p 0 0),(9,.p 1 0),(10,.v (.string (bs (uTxt false (qaw v (false,s))))))])
  refine qdt (d:=29) [(2,.v (.bool un)),(7,.p 0 0),(9,.p 1 0),(10,.v (.string (bs (uTxt false (qaw v (false,s))))))] hS45 (qgb (f:=false) (rfl) (qaw v (false,s))) Tryd.call79 fun _ _ hS50=>?_
  clear hS45
  refine qab ?_
  exact hS50.pk (env':=[(2,.v (.bool un)),(7,.p 0 0),(9,.p 1 0),(10,.v (.string (bs (uTxt false (qaw v (false,s))))))])
 rintro _ _ hS44
 refine qab ?_
 refine qeA [⟨bv,0,[.int .i16 (uI16 (qag v (false,s))),.string (bs (uTxt false (qaw v (false,s)))),.string ByteArray.empty,.int .i32 0],true⟩] 0 [(2,.v (.bool un)),(7,.p 0 0),(9,.p 1 0)] hS44 fun _ _ hS51=>?_
 clear hS44
 have hS52:=hS51.cast (σ':=(qaB v (false,s))) rfl
 clear hS51
 refine qab ?_
 refine wp_seq ?_
 refine wp_seq ?_
 refine qds [(2,.v (.bool un)),(7,.p 0 0),(9,.p 1 0)] hS52 fun _ hS53=>?_
 clear hS52
 refine qab ?_
 refine wp_seq ?_
 have l54:=hS53.lim
 refine qeQ (Mid:=fun a_ w_=>RSU w (fun b o=>b = bv ∧ o < 4) F 47 b13 [⟨bv,0,[.int .i16 (uI16 (qag v (false,s))),.string (bs (uTxt false (qaw v (false,s)))),.string ByteArray.empty,.int .i32 0],true⟩] [(7,.p 0 0),(9,.p 1 0),(11,.v (.string (bs (uTxt false (qaB v (false,s))))))] (atF 1 0 [ev]) (aTxt false (qaB v (false,s))) a_ w_) ?_ ?_
 ·
  refine wp_seq ?_
  refine qds [(7,.p 0 0),(9,.p 1 0),(34,.v (.bool un))] hS53 fun _ hS59=>qab ?_
  clear hS53
  refine qaA hS59.env_ (b:=un) kz (fun hc60=>?_) (fun hc60=>?_)
  ·
   refine qdt (d:=35) [(7,.p 0 0),(9,.p 1 0),(11,.v (.string (bs (uTxt false (qaB v (false,s))))))] hS59 (qc3 (f:=false) (rfl) (qaB v (false,s))) Tryd.call78 fun _ _ hS62=>?_
   clear hS59
   refine qab ?_
   exact hS62.pk (env':=[(7,.p 0 0),(9,.p 1 0),(11,.v (.string (bs (uTxt false (qaB v (false,s))))))])
  refine qdt (d:=36) [(7,.p 0 0),(9,.p 1 0),(11,.v (.string (bs (uTxt false (qaB v (false,s))))))] hS59 (qgb (f:=false) (rfl) (qaB v (false,s))) Tryd.call79 fun _ _ hS64=>?_
  clear hS59
  refine qab ?_
  exact hS64.pk (env':=[(7,.p 0 0),(9,.p 1 0),(11,.v (.string (bs (uTxt false (qaB v (false,s))))))])
 rintro _ _ hS58
 refine qab ?_
 refine qeA [⟨bv,0,[.int .i16 (uI16 (qag v (false,s))),.string (bs (uTxt false (qaw v (false,s)))),.string (bs (uTxt false (qaB v (false,s)))),.int .i32 0],true⟩] 0 [(7,.p 0 0),(9,.p 1 0)] hS58 fun _ _ hS65=>?_
 clear hS58
 have hS66:=hS65.cast (σ':=(qaX v (false,s))) rfl
 clear hS65
 refine qab ?_
 refine wp_seq ?_
 refine wp_seq ?_
 have l67:=hS66.lim
 refine qdt (d:=41) [(7,.p 0 0),(9,.p 1 0),(12,.v (.int .i32 (uI32 (qaX v (false,s)))))] hS66 (qhv (qaX v (false,s))) Tryd.call80 fun _ _ hS69=>?_
 clear hS66
 refine qab ?_
 refine qeA [⟨bv,0,[.int .i16 (uI16 (qag v (false,s))),.string (bs (uTxt false (qaw v (false,s)))),.string (bs (uTxt false (qaB v (false,s)))),.int .i32 (uI32 (qaX v (false,s)))],true⟩] 0 [(7,.p 0 0)] hS69 fun _ _ hS70=>?_
 clear hS69
 have hS71:=hS70.cast (σ':=(qbx v (false,s))) rfl
 clear hS70
 refine qab ?_
 refine wp_seq ?_
 refine (Bool.eq_false_or_eq_true ((qbx v (false,s))).1).elim (fun hb72=>?_) (fun hb72=>?_)
 ·
  refine qar [0,1] kz (qal (qd1 (d:=46) (ev:=ev) hS71 (hb72) (fun w F h_=>h_) (fun hs_ hg_ hf_=>qfe hs_ hg_ hf_) Tryd.call81 fun _ hS73=>?_))
  clear hS71
  refine qdK [1] [] [(6,.v (ev))] hS73 fun _ hS74=>qae ?_
  clear hS73
  refine qab ?_
  refine wp_ret ?_
  obtain ⟨A_,m_,c_,hW_,hr_,hE_,hP_⟩:=hS74.open_
  refine qaG hE_ hW_.cells (v:=ev) kz (.inl ⟨(hb72),rfl,⟨_,Str.of hW_ 1 rfl,rfl⟩,hW_.step⟩)
 refine qar [0,1] kz (qal (qej (d:=46) hS71 (fun hs_=>qfW (by rw [hb72] at hs_; exact hs_)) Tryd.call81 fun _ hS75=>?_))
 clear hS71
 refine qdK [1] [] [(6,.v (.nilIface))] hS75 fun _ hS76=>qae ?_
 clear hS75
 refine qab ?_
 refine wp_ret ?_
 obtain ⟨A_,m_,c_,hW_,hr_,hE_,hP_⟩:=hS76.open_
 refine qaG hE_ hW_.cells (v:=.nilIface) kz ?_
 have h_:=hS76.mv.mono qcm hP_
 refine .inr ⟨hb72,(dvP none [] [dvS (bs (uTxt false (qaw v (false,s)))),dvS (bs (uTxt false (qaB v (false,s)))),dvN (uI32 (qaX v (false,s)))]),rfl,Str.of hW_ 1 rfl,?_,(trc (tlc (rfl) (tlc (rfl) (tlc (rfl) rfl))) rfl),hW_.step⟩
 unfold qa1
 exact ⟨(by show ByteArray.size (bs _) ≤ 1000000; rw [qfR]; exact Nat.le_trans (qeR _ _) (Nat.le_trans l40 (by decide))),(by show ByteArray.size (bs _) ≤ 1000000; rw [qfR]; exact Nat.le_trans (qeR _ _) (Nat.le_trans l54 (by decide))),(trivial),trivial⟩
theorem qbQ (v:Int) (un:Bool) (s:Bs) (hl:s.length ≤ 1000) {ev:Value} {bv:Nat} {A:Option Addr} {c:Nat} {w:World} {F:Nat → Nat → Prop} (hst:Str w bv [.int .i16 v,.string ByteArray.empty,.string ByteArray.empty,.int .i32 0]) (ho:Octs w F A c s) (hgl:AtF w F 1 0 [ev]) (hFd:∀ b o,F b o → ¬ (b = bv ∧ o < 4)) (hb:(qaK v (false,s)).1 = true) :
  Calls Tryd.prog 56 #[.pointer (some ⟨bv,0,none⟩),.slice A s.length c,.bool un] w (fun e w'=>e = .returned ev ∧ (∃ cs,Str w' bv cs ∧ cs.length = 4) ∧ Step w w' (fun b o=>b = bv ∧ o < 4)):=(qb7 v un s hl hst ho hgl hFd).mono fun e w' h=>by
 rcases h with ⟨_,h⟩ | ⟨h,_⟩
 ·exact h
 rw [hb] at h; cases h
theorem qbR (v:Int) (un:Bool) (s:Bs) (hl:s.length ≤ 1000) {ev:Value} {bv:Nat} {A:Option Addr} {c:Nat} {w:World} {F:Nat → Nat → Prop} (hst:Str w bv [.int .i16 v,.string ByteArray.empty,.string ByteArray.empty,.int .i32 0]) (ho:Octs w F A c s) (hgl:AtF w F 1 0 [ev]) (hFd:∀ b o,F b o → ¬ (b = bv ∧ o < 4)) (hb:(qaK v (false,s)).1 = false) :
  Calls Tryd.prog 56 #[.pointer (some ⟨bv,0,none⟩),.slice A s.length c,.bool un] w (fun e w'=>∃ D:DV,e = .returned .nilIface ∧ Str w' bv [.int .i16 (uI16 (qag v (false,s))),.string ((D.f 0).s),.string ((D.f 1).s),.int .i32 ((D.f 2).n)] ∧ qa1 w' (Fp F w) D ∧ qbF D = qa7 v (false,s) ∧ Step w w' (fun b o=>b = bv ∧ o < 4)):=(qb7 v un s hl hst ho hgl hFd).mono fun e w' h=>by
 rcases h with ⟨h,_⟩ | ⟨_,h⟩
 ·rw [hb] at h; cases h
 exact h
end Go.Proofs.YtajibgahdkllkaaDoorR.ME
namespace Go.Proofs.YtajibgahdkllkaaDoorR.ME
open Go
open Go.RowKit
set_option linter.unusedVariables false
set_option linter.unusedSimpArgs false
set_option maxRecDepth 20000
set_option maxHeartbeats 4000000 in
theorem qb8 (s:Bs) (hl:s.length ≤ 1000) {ue:TypeId} {ve:Value} {A2:Option Addr} {c2:Nat} {w:World} {F:Nat → Nat → Prop} (hs_:Octs w F A2 c2 s) (hgl:AtF w F 1 0 [.iface ue ve]) (hb:(qaK 0 (false,s)).1 = true) :
  Calls Tryd.prog 7 #[.slice A2 s.length c2] w (fun e w'=>∃ cs,e = .returned (.tuple #[.agg cs.toArray,.bool false]) ∧ TreeR w' (Fp F w) cs (.zero) ∧ Step w w' Nil):=by
 refine enter (n:=18) Tryd.func7 rfl Tryd.ntmps7 kz fun a hE=>?_
 have hW:=WOk.start w Nil
 have hsm2:=Slots.small hs_
 refine qad [0,1] kz ?_
 refine qal (qat hW hE (d:=2) (cs:=[.int .i64 0,.slice none 0 0,.bool false,.slice none 0 0,.slice none 0 0]) kz fun b1 a2 w3 hb4 hz5 hF6 hW7 hE8=>?_)
 refine qaj [1] [] [(0,.v (.slice A2 s.length c2)),(2,.p 0 0)] hW7 hE8 fun a9 hE10=>?_
 refine qae (qab ?_)
 refine qad [0,1,2] kz ?_
 refine qal (qa0 hE10 (f:=25) (vs:=[]) (d:=6) (n':=4) kz Tryd.call25 Tryd.func25 rfl Tryd.ntmps25 kz fun a11 hE12=>?_)
 refine qad [0] kz ?_
 refine qal (qat hW7 hE12 (d:=0) (cs:=[.int .i16 0,.string ByteArray.empty,.string ByteArray.empty,.int .i32 0]) kz fun b13 a14 w15 hb16 hz17 hF18 hW19 hE20=>?_)
 refine qae (qab ?_)
 refine qad [0] kz ?_
 refine qal (qat hW19 hE20 (d:=1) (cs:=[.int .i16 0,.string ByteArray.empty,.string ByteArray.empty,.int .i32 0]) kz fun b21 a22 w23 hb24 hz25 hF26 hW27 hE28=>?_)
 refine qae (qab ?_)
 refine qad [0] kz ?_
 refine qal (qa0 hE28 (f:=55) (vs:=[.pointer (some ⟨b21,0,none⟩)]) (d:=2) (n':=2) kz Tryd.call55 Tryd.func55 rfl Tryd.ntmps55 kz fun a29 hE30=>?_)
 have hE31:=hE30.recast 0 (.v (.pointer (some ⟨b21,0,none⟩))) (.p 2 0) rfl rfl (Nat.le_of_ble_eq_true (n:=3) rfl)
 refine wp_skip ?_
 refine qck hE31 hW27.cells (v:=.tuple #[]) kz ?_
 refine ⟨_,rfl,fun a32 hE33=>?_⟩
 have hE34:=(EnvOk.places (tb':=[⟨b1,0,[.int .i64 0,.slice none 0 0,.bool false,.slice none 0 0,.slice none 0 0],true⟩,⟨b13,0,[.int .i16 0,.string ByteArray.empty,.string ByteArray.empty,.int .i32 0],true⟩,⟨b21,0,[.int .i16 0,.string ByteArray.empty,.string ByteArray.empty,.int .i32 0],true⟩]) hE33 (show Pl [⟨b1,0,[.int .i64 0,.slice none 0 0,.bool false,.slice none 0 0,.slice none 0 0],true⟩,⟨b13,0,[.int .i16 0,.string ByteArray.empty,.string ByteArray.empty,.int .i32 0],true⟩,⟨b21,0,[.int .i16 0,.string ByteArray.empty,.string ByteArray.empty,.int .i32 0],true⟩] [⟨b1,0,[.int .i64 0,.slice none 0 0,.bool false,.slice none 0 0,.slice none 0 0],true⟩,⟨b13,0,[.int .i16 0,.string ByteArray.empty,.string ByteArray.empty,.int .i32 0],true⟩,⟨b21,0,[.int .i16 0,.string ByteArray.empty,.string ByteArray.empty,.int .i32 0],true⟩] from ⟨rfl,rfl,⟨rfl,rfl,⟨rfl,rfl,trivial⟩⟩⟩)).pk (env':=[(2,.v (.tuple #[])),(0,.p 1 0),(1,.p 2 0)])
 refine qae (qab ?_)
 refine qad [0,1] kz ?_
 refine qaj [0] [1] [(0,.p 1 0),(3,.v (.agg #[.int .i16 0,.string ByteArray.empty,.string ByteArray.empty,.int .i32 0]))] hW27 hE34 fun a35 hE36=>?_
 refine qal (qan hW27 hE36 (oi:=1) (cs:=[.int .i16 0,.string ByteArray.empty,.string ByteArray.empty,.int .i32 0]) kz fun w37 hF38 hW39 hE40=>?_)
 refine qae (qab ?_)
 refine wp_ret ?_
 refine qaG hE40 hW39.cells (v:=.agg #[.int .i16 0,.string ByteArray.empty,.string ByteArray.empty,.int .i32 0]) kz ?_
 refine ⟨_,rfl,fun a41 hE42=>?_⟩
 have hE43:=(EnvOk.places (tb':=[⟨b1,0,[.int .i64 0,.slice none 0 0,.bool false,.slice none 0 0,.slice none 0 0],true⟩,⟨b13,0,[.int .i16 0,.string ByteArray.empty,.string ByteArray.empty,.int .i32 0],true⟩,⟨b21,0,[.int .i16 0,.string ByteArray.empty,.string ByteArray.empty,.int .i32 0],true⟩]) hE42 (show Pl [⟨b1,0,[.int .i64 0,.slice none 0 0,.bool false,.slice none 0 0,.slice none 0 0],true⟩] [⟨b1,0,[.int .i64 0,.slice none 0 0,.bool false,.slice none 0 0,.slice none 0 0],true⟩,⟨b13,0,[.int .i16 0,.string ByteArray.empty,.string ByteArray.empty,.int .i32 0],true⟩,⟨b21,0,[.int .i16 0,.string ByteArray.empty,.string ByteArray.empty,.int .i32 0],true⟩] from ⟨rfl,rfl,trivial⟩)).pk (env':=[(6,.v (.agg #[.int .i16 0,.string ByteArray.empty,.string ByteArray.empty,.int .i32 0])),(0,.v (.slice A2 s.length c2)),(2,.p 0 0)])
 refine qal (qat hW39 hE43 (d:=4) (cs:=[.int .i16 0,.string ByteArray.empty,.string ByteArray.empty,.int .i32 0]) kz fun b44 a45 w46 hb47 hz48 hF49 hW50 hE51=>?_)
 refine qal (qan hW50 hE51 (oi:=3) (cs:=[.int .i16 0,.string ByteArray.empty,.string ByteArray.empty,.int .i32 0]) kz fun w52 hF53 hW54 hE55=>?_)
 refine qae (qab ?_)
 refine wp_seq ?_
 refine qad [0,1,2,3] kz ?_
 refine qaj [0] [1,2,3] [(2,.p 0 0),(4,.p 3 0),(7,.v (.slice A2 s.length c2))] hW54 hE55 fun a56 hE57=>?_
 have hW58:=hW54.addNil 5 1
 have hF59:=hW54.frNil 5 1
 refine qal (qaJ hW58 hE57 (k:=0) (d:=8) (t:=22) (e:=5) (size:=1) (bytes:=1) (A:=none) (As:=A2) (m0:=0) (c:=0) (m:=s.length) (cs:=c2) (xs:=[]) (news:=bc s) kz kz rfl (hs_.move hW58.step nilM hW58.imm).src (hs_.move hW58.step nilM hW58.imm).cap (by first | omega | (simp only [List.length_nil]; omega) | (simp; omega)) fun A60 c61 a62 w63 hF64 hW65 hE66=>?_)
 have er67:(⟨A60,c61,5,1,0 + s.length,[] ++ bc s⟩:Rw) = brow A60 c61 5 s:=by rw [List.nil_append,Nat.zero_add]
 obtain ⟨hW68,hF70⟩:=hW65.rowEq 0 [brow A60 c61 5 s] er67
 have hE71:=EnvOk.pick hE66 (ks:=[2,4,7,8]) (env':=[(2,.p 0 0),(4,.p 3 0),(7,.v (.slice A2 s.length c2)),(8,.v (.slice A60 (0 + s.length) c61))]) kz
 have hE69:=hE71.cast (env':=[(2,.p 0 0),(4,.p 3 0),(7,.v (.slice A2 s.length c2)),(8,.v (.slice A60 s.length c61))]) (by simp only [List.length_append,List.length_cons,List.length_nil,Nat.zero_add])
 refine qal (qa0 hE69 (f:=26) (vs:=[.pointer (some ⟨b44,0,none⟩),.slice A60 s.length c61]) (d:=9) (n':=8) kz Tryd.call26 Tryd.func26 rfl Tryd.ntmps26 kz fun a72 hE73=>?_)
 have hE74:=hE73.recast 0 (.v (.pointer (some ⟨b44,0,none⟩))) (.p 3 0) rfl rfl (Nat.le_of_ble_eq_true (n:=4) rfl)
 refine qaq [(0,.p 3 0),(1,.v (.slice A60 s.length c61))] hW68 hE74 fun a75 hE76=>?_
 refine qad [0,1,2,3] kz ?_
 refine qaj [0,1] [2,3] [(5,.p 3 0),(6,.v (.slice A60 s.length c61))] hW68 hE76 fun a77 hE78=>?_
 have ho79:=hW68.giveUp (G:=F) 0 [] (show _ = some (brow A60 c61 5 s) from rfl) (by omega)
 obtain ⟨hW80,hF81⟩:=hW68.cutR 0 []
 refine qal (qak hE78 (f:=56) (vs:=[.pointer (some ⟨b44,0,none⟩),.slice A60 s.length c61,.bool false]) (d:=7) kz Tryd.call56 (qbQ 0 false s hl (Str.of hW80 3 rfl) ho79 (hgl.move hW80.step nilM hW80.imm) (qgy 3 rfl) hb) ?_)
 rintro e_ w82 ⟨rfl,⟨D83,hs84,hn95⟩,hst87⟩
 obtain ⟨hW88,hF89,hl90⟩:=hW80.wrote 3 [⟨b1,0,[.int .i64 0,.slice none 0 0,.bool false,.slice none 0 0,.slice none 0 0],true⟩,⟨b13,0,[.int .i16 0,.string ByteArray.empty,.string ByteArray.empty,.int .i32 0],true⟩,⟨b21,0,[.int .i16 0,.string ByteArray.empty,.string ByteArray.empty,.int .i32 0],true⟩,⟨b44,0,D83,true⟩] rfl hst87 hs84 rfl hn95
 refine ⟨_,rfl,fun a91 hE92=>?_⟩
 have hE93:=(EnvOk.places (tb':=[⟨b1,0,[.int .i64 0,.slice none 0 0,.bool false,.slice none 0 0,.slice none 0 0],true⟩,⟨b13,0,[.int .i16 0,.string ByteArray.empty,.string ByteArray.empty,.int .i32 0],true⟩,⟨b21,0,[.int .i16 0,.string ByteArray.empty,.string ByteArray.empty,.int .i32 0],true⟩,⟨b44,0,D83,true⟩]) hE92 (show Pl [⟨b1,0,[.int .i64 0,.slice none 0 0,.bool false,.slice none 0 0,.slice none 0 0],true⟩,⟨b13,0,[.int .i16 0,.string ByteArray.empty,.string ByteArray.empty,.int .i32 0],true⟩,⟨b21,0,[.int .i16 0,.string ByteArray.empty,.string ByteArray.empty,.int .i32 0],true⟩,⟨b44,0,[.int .i16 0,.string ByteArray.empty,.string ByteArray.empty,.int .i32 0],true⟩] [⟨b1,0,[.int .i64 0,.slice none 0 0,.bool false,.slice none 0 0,.slice none 0 0],true⟩,⟨b13,0,[.int .i16 0,.string ByteArray.empty,.string ByteArray.empty,.int .i32 0],true⟩,⟨b21,0,[.int .i16 0,.string ByteArray.empty,.string ByteArray.empty,.int .i32 0],true⟩,⟨b44,0,D83,true⟩] from ⟨rfl,rfl,⟨rfl,rfl,⟨rfl,rfl,⟨rfl,rfl,trivial⟩⟩⟩⟩)).pk (env':=[(7,.v (.iface ue ve)),(5,.p 3 0),(6,.v (.slice A60 s.length c61))])
 refine qaj [3] [] [(4,.v (.iface ue ve))] hW88 hE93 fun a96 hE97=>?_
 refine qae (qab ?_)
 refine wp_ret ?_
 refine qaG hE97 hW88.cells (v:=.iface ue ve) kz ?_
 refine ⟨_,rfl,fun a98 hE99=>?_⟩
 have hE100:=(EnvOk.places (tb':=[⟨b1,0,[.int .i64 0,.slice none 0 0,.bool false,.slice none 0 0,.slice none 0 0],true⟩,⟨b13,0,[.int .i16 0,.string ByteArray.empty,.string ByteArray.empty,.int .i32 0],true⟩,⟨b21,0,[.int .i16 0,.string ByteArray.empty,.string ByteArray.empty,.int .i32 0],true⟩,⟨b44,0,D83,true⟩]) hE99 (show Pl [⟨b1,0,[.int .i64 0,.slice none 0 0,.bool false,.slice none 0 0,.slice none 0 0],true⟩,⟨b13,0,[.int .i16 0,.string ByteArray.empty,.string ByteArray.empty,.int .i32 0],true⟩,⟨b21,0,[.int .i16 0,.string ByteArray.empty,.string ByteArray.empty,.int .i32 0],true⟩,⟨b44,0,[.int .i16 0,.string ByteArray.empty,.string ByteArray.empty,.int .i32 0],true⟩] [⟨b1,0,[.int .i64 0,.slice none 0 0,.bool false,.slice none 0 0,.slice none 0 0],true⟩,⟨b13,0,[.int .i16 0,.string ByteArray.empty,.string ByteArray.empty,.int .i32 0],true⟩,⟨b21,0,[.int .i16 0,.string ByteArray.empty,.string ByteArray.empty,.int .i32 0],true⟩,⟨b44,0,D83,true⟩] from ⟨rfl,rfl,⟨rfl,rfl,⟨rfl,rfl,⟨rfl,rfl,trivial⟩⟩⟩⟩)).pk (env':=[(9,.v (.iface ue ve)),(2,.p 0 0),(4,.p 3 0),(7,.v (.slice A2 s.length c2)),(8,.v (.slice A60 s.length c61))])
 refine qaj [3] [] [(2,.p 0 0),(4,.p 3 0),(10,.v (.bool true))] hW88 hE100 fun a101 hE102=>?_
 refine qae (qab ?_)
 refine qbb hE102 (b:=true) kz rfl ?_
 refine qad [0,1,2] kz ?_
 refine qaj [0] [1,2] [(2,.p 0 0),(11,.v (.agg #[.int .i64 0,.slice none 0 0,.bool false,.slice none 0 0,.slice none 0 0]))] hW88 hE102 fun a103 hE104=>?_
 refine qal (qan hW88 hE104 (oi:=0) (cs:=[.int .i64 0,.slice none 0 0,.bool false,.slice none 0 0,.slice none 0 0]) kz fun w105 hF106 hW107 hE108=>?_)
 refine qaj [2] [] [(2,.p 0 0),(3,.v (.bool false))] hW107 hE108 fun a109 hE110=>?_
 refine qae (qab ?_)
 refine wp_ret ?_
 refine qax ?_
 refine qaG hE110 hW107.cells (v:=.tuple #[.agg #[.int .i64 0,.slice none 0 0,.bool false,.slice none 0 0,.slice none 0 0],.bool false]) kz ?_
 exact ⟨_,rfl,TreeR.zero _ _,hW107.step⟩
set_option maxHeartbeats 4000000 in
theorem qbf (s:Bs) (hl:s.length ≤ 1000) {ue:TypeId} {ve:Value} {A2:Option Addr} {c2:Nat} {w:World} {F:Nat → Nat → Prop} (hs_:Octs w F A2 c2 s) (hgl:AtF w F 1 0 [.iface ue ve]) (hb:(qaK 0 (false,s)).1 = false) :
  Calls Tryd.prog 7 #[.slice A2 s.length c2] w (fun e w'=>∃ cs,e = .returned (.tuple #[.agg cs.toArray,.bool true]) ∧ TreeR w' (Fp F w) cs (qgF (qa7 0 (false,s)) (IntKind.i64.wrap (uI16 (qag 0 (false,s))))) ∧ Step w w' Nil):=by
 refine enter (n:=18) Tryd.func7 rfl Tryd.ntmps7 kz fun a hE=>?_
 have hW:=WOk.start w Nil
 have hsm2:=Slots.small hs_
 refine qad [0,1] kz ?_
 refine qal (qat hW hE (d:=2) (cs:=[.int .i64 0,.slice none 0 0,.bool false,.slice none 0 0,.slice none 0 0]) kz fun b1 a2 w3 hb4 hz5 hF6 hW7 hE8=>?_)
 refine qaj [1] [] [(0,.v (.slice A2 s.length c2)),(2,.p 0 0)] hW7 hE8 fun a9 hE10=>?_
 refine qae (qab ?_)
 refine qad [0,1,2] kz ?_
 refine qal (qa0 hE10 (f:=25) (vs:=[]) (d:=6) (n':=4) kz Tryd.call25 Tryd.func25 rfl Tryd.ntmps25 kz fun a11 hE12=>?_)
 refine qad [0] kz ?_
 refine qal (qat hW7 hE12 (d:=0) (cs:=[.int .i16 0,.string ByteArray.empty,.string ByteArray.empty,.int .i32 0]) kz fun b13 a14 w15 hb16 hz17 hF18 hW19 hE20=>?_)
 refine qae (qab ?_)
 refine qad [0] kz ?_
 refine qal (qat hW19 hE20 (d:=1) (cs:=[.int .i16 0,.string ByteArray.empty,.string ByteArray.empty,.int .i32 0]) kz fun b21 a22 w23 hb24 hz25 hF26 hW27 hE28=>?_)
 refine qae (qab ?_)
 refine qad [0] kz ?_
 refine qal (qa0 hE28 (f:=55) (vs:=[.pointer (some ⟨b21,0,none⟩)]) (d:=2) (n':=2) kz Tryd.call55 Tryd.func55 rfl Tryd.ntmps55 kz fun a29 hE30=>?_)
 have hE31:=hE30.recast 0 (.v (.pointer (some ⟨b21,0,none⟩))) (.p 2 0) rfl rfl (Nat.le_of_ble_eq_true (n:=3) rfl)
 refine wp_skip ?_
 refine qck hE31 hW27.cells (v:=.tuple #[]) kz ?_
 refine ⟨_,rfl,fun a32 hE33=>?_⟩
 have hE34:=(EnvOk.places (tb':=[⟨b1,0,[.int .i64 0,.slice none 0 0,.bool false,.slice none 0 0,.slice none 0 0],true⟩,⟨b13,0,[.int .i16 0,.string ByteArray.empty,.string ByteArray.empty,.int .i32 0],true⟩,⟨b21,0,[.int .i16 0,.string ByteArray.empty,.string ByteArray.empty,.int .i32 0],true⟩]) hE33 (show Pl [⟨b1,0,[.int .i64 0,.slice none 0 0,.bool false,.slice none 0 0,.slice none 0 0],true⟩,⟨b13,0,[.int .i16 0,.string ByteArray.empty,.string ByteArray.empty,.int .i32 0],true⟩,⟨b21,0,[.int .i16 0,.string ByteArray.empty,.string ByteArray.empty,.int .i32 0],true⟩] [⟨b1,0,[.int .i64 0,.slice none 0 0,.bool false,.slice none 0 0,.slice none 0 0],true⟩,⟨b13,0,[.int .i16 0,.string ByteArray.empty,.string ByteArray.empty,.int .i32 0],true⟩,⟨b21,0,[.int .i16 0,.string ByteArray.empty,.string ByteArray.empty,.int .i32 0],true⟩] from ⟨rfl,rfl,⟨rfl,rfl,⟨rfl,rfl,trivial⟩⟩⟩)).pk (env':=[(2,.v (.tuple #[])),(0,.p 1 0),(1,.p 2 0)])
 refine qae (qab ?_)
 refine qad [0,1] kz ?_
 refine qaj [0] [1] [(0,.p 1 0),(3,.v (.agg #[.int .i16 0,.string ByteArray.empty,.string ByteArray.empty,.int .i32 0]))] hW27 hE34 fun a35 hE36=>?_
 refine qal (qan hW27 hE36 (oi:=1) (cs:=[.int .i16 0,.string ByteArray.empty,.string ByteArray.empty,.int .i32 0]) kz fun w37 hF38 hW39 hE40=>?_)
 refine qae (qab ?_)
 refine wp_ret ?_
 refine qaG hE40 hW39.cells (v:=.agg #[.int .i16 0,.string ByteArray.empty,.string ByteArray.empty,.int .i32 0]) kz ?_
 refine ⟨_,rfl,fun a41 hE42=>?_⟩
 have hE43:=(EnvOk.places (tb':=[⟨b1,0,[.int .i64 0,.slice none 0 0,.bool false,.slice none 0 0,.slice none 0 0],true⟩,⟨b13,0,[.int .i16 0,.string ByteArray.empty,.string ByteArray.empty,.int .i32 0],true⟩,⟨b21,0,[.int .i16 0,.string ByteArray.empty,.string ByteArray.empty,.int .i32 0],true⟩]) hE42 (show Pl [⟨b1,0,[.int .i64 0,.slice none 0 0,.bool false,.slice none 0 0,.slice none 0 0],true⟩] [⟨b1,0,[.int .i64 0,.slice none 0 0,.bool false,.slice none 0 0,.slice none 0 0],true⟩,⟨b13,0,[.int .i16 0,.string ByteArray.empty,.string ByteArray.empty,.int .i32 0],true⟩,⟨b21,0,[.int .i16 0,.string ByteArray.empty,.string ByteArray.empty,.int .i32 0],true⟩] from ⟨rfl,rfl,trivial⟩)).pk (env':=[(6,.v (.agg #[.int .i16 0,.string ByteArray.empty,.string ByteArray.empty,.int .i32 0])),(0,.v (.slice A2 s.length c2)),(2,.p 0 0)])
 refine qal (qat hW39 hE43 (d:=4) (cs:=[.int .i16 0,.string ByteArray.empty,.string ByteArray.empty,.int .i32 0]) kz fun b44 a45 w46 hb47 hz48 hF49 hW50 hE51=>?_)
 refine qal (qan hW50 hE51 (oi:=3) (cs:=[.int .i16 0,.string ByteArray.empty,.string ByteArray.empty,.int .i32 0]) kz fun w52 hF53 hW54 hE55=>?_)
 refine qae (qab ?_)
 refine wp_seq ?_
 refine qad [0,1,2,3] kz ?_
 refine qaj [0] [1,2,3] [(2,.p 0 0),(4,.p 3 0),(7,.v (.slice A2 s.length c2))] hW54 hE55 fun a56 hE57=>?_
 have hW58:=hW54.addNil 5 1
 have hF59:=hW54.frNil 5 1
 refine qal (qaJ hW58 hE57 (k:=0) (d:=8) (t:=22) (e:=5) (size:=1) (bytes:=1) (A:=none) (As:=A2) (m0:=0) (c:=0) (m:=s.length) (cs:=c2) (xs:=[]) (news:=bc s) kz kz rfl (hs_.move hW58.step nilM hW58.imm).src (hs_.move hW58.step nilM hW58.imm).cap (by first | omega | (simp only [List.length_nil]; omega) | (simp; omega)) fun A60 c61 a62 w63 hF64 hW65 hE66=>?_)
 have er67:(⟨A60,c61,5,1,0 + s.length,[] ++ bc s⟩:Rw) = brow A60 c61 5 s:=by rw [List.nil_append,Nat.zero_add]
 obtain ⟨hW68,hF70⟩:=hW65.rowEq 0 [brow A60 c61 5 s] er67
 have hE71:=EnvOk.pick hE66 (ks:=[2,4,7,8]) (env':=[(2,.p 0 0),(4,.p 3 0),(7,.v (.slice A2 s.length c2)),(8,.v (.slice A60 (0 + s.length) c61))]) kz
 have hE69:=hE71.cast (env':=[(2,.p 0 0),(4,.p 3 0),(7,.v (.slice A2 s.length c2)),(8,.v (.slice A60 s.length c61))]) (by simp only [List.length_append,List.length_cons,List.length_nil,Nat.zero_add])
 refine qal (qa0 hE69 (f:=26) (vs:=[.pointer (some ⟨b44,0,none⟩),.slice A60 s.length c61]) (d:=9) (n':=8) kz Tryd.call26 Tryd.func26 rfl Tryd.ntmps26 kz fun a72 hE73=>?_)
 have hE74:=hE73.recast 0 (.v (.pointer (some ⟨b44,0,none⟩))) (.p 3 0) rfl rfl (Nat.le_of_ble_eq_true (n:=4) rfl)
 refine qaq [(0,.p 3 0),(1,.v (.slice A60 s.length c61))] hW68 hE74 fun a75 hE76=>?_
 refine qad [0,1,2,3] kz ?_
 refine qaj [0,1] [2,3] [(5,.p 3 0),(6,.v (.slice A60 s.length c61))] hW68 hE76 fun a77 hE78=>?_
 have ho79:=hW68.giveUp (G:=F) 0 [] (show _ = some (brow A60 c61 5 s) from rfl) (by omega)
 obtain ⟨hW80,hF81⟩:=hW68.cutR 0 []
 refine qal (qak hE78 (f:=56) (vs:=[.pointer (some ⟨b44,0,none⟩),.slice A60 s.length c61,.bool false]) (d:=7) kz Tryd.call56 (qbR 0 false s hl (Str.of hW80 3 rfl) ho79 (hgl.move hW80.step nilM hW80.imm) (qgy 3 rfl) hb) ?_)
 rintro e_ w82 ⟨D83,rfl,hs84,hk85,hv86,hst87⟩
 obtain ⟨hW88,hF89,hl90⟩:=hW80.wrote 3 [⟨b1,0,[.int .i64 0,.slice none 0 0,.bool false,.slice none 0 0,.slice none 0 0],true⟩,⟨b13,0,[.int .i16 0,.string ByteArray.empty,.string ByteArray.empty,.int .i32 0],true⟩,⟨b21,0,[.int .i16 0,.string ByteArray.empty,.string ByteArray.empty,.int .i32 0],true⟩,⟨b44,0,[.int .i16 (uI16 (qag 0 (false,s))),.string ((D83.f 0).s),.string ((D83.f 1).s),.int .i32 ((D83.f 2).n)],true⟩] rfl hst87 hs84
 have hk94:=qbs _ (Step.refl _ Nil) nilM hl90 hk85
 refine ⟨_,rfl,fun a91 hE92=>?_⟩
 have hE93:=(EnvOk.places (tb':=[⟨b1,0,[.int .i64 0,.slice none 0 0,.bool false,.slice none 0 0,.slice none 0 0],true⟩,⟨b13,0,[.int .i16 0,.string ByteArray.empty,.string ByteArray.empty,.int .i32 0],true⟩,⟨b21,0,[.int .i16 0,.string ByteArray.empty,.string ByteArray.empty,.int .i32 0],true⟩,⟨b44,0,[.int .i16 (uI16 (qag 0 (false,s))),.string ((D83.f 0).s),.string ((D83.f 1).s),.int .i32 ((D83.f 2).n)],true⟩]) hE92 (show Pl [⟨b1,0,[.int .i64 0,.slice none 0 0,.bool false,.slice none 0 0,.slice none 0 0],true⟩,⟨b13,0,[.int .i16 0,.string ByteArray.empty,.string ByteArray.empty,.int .i32 0],true⟩,⟨b21,0,[.int .i16 0,.string ByteArray.empty,.string ByteArray.empty,.int .i32 0],true⟩,⟨b44,0,[.int .i16 0,.string ByteArray.empty,.string ByteArray.empty,.int .i32 0],true⟩] [⟨b1,0,[.int .i64 0,.slice none 0 0,.bool false,.slice none 0 0,.slice none 0 0],true⟩,⟨b13,0,[.int .i16 0,.string ByteArray.empty,.string ByteArray.empty,.int .i32 0],true⟩,⟨b21,0,[.int .i16 0,.string ByteArray.empty,.string ByteArray.empty,.int .i32 0],true⟩,⟨b44,0,[.int .i16 (uI16 (qag 0 (false,s))),.string ((D83.f 0).s),.string ((D83.f 1).s),.int .i32 ((D83.f 2).n)],true⟩] from ⟨rfl,rfl,⟨rfl,rfl,⟨rfl,rfl,⟨rfl,rfl,trivial⟩⟩⟩⟩)).pk (env':=[(7,.v (.nilIface)),(5,.p 3 0),(6,.v (.slice A60 s.length c61))])
 refine qaj [3] [] [(4,.v (.nilIface))] hW88 hE93 fun a96 hE97=>?_
 refine qae (qab ?_)
 refine wp_ret ?_
 refine qaG hE97 hW88.cells (v:=.nilIface) kz ?_
 refine ⟨_,rfl,fun a98 hE99=>?_⟩
 have hE100:=(EnvOk.places (tb':=[⟨b1,0,[.int .i64 0,.slice none 0 0,.bool false,.slice none 0 0,.slice none 0 0],true⟩,⟨b13,0,[.int .i16 0,.string ByteArray.empty,.string ByteArray.empty,.int .i32 0],true⟩,⟨b21,0,[.int .i16 0,.string ByteArray.empty,.string ByteArray.empty,.int .i32 0],true⟩,⟨b44,0,[.int .i16 (uI16 (qag 0 (false,s))),.string ((D83.f 0).s),.string ((D83.f 1).s),.int .i32 ((D83.f 2).n)],true⟩]) hE99 (show Pl [⟨b1,0,[.int .i64 0,.slice none 0 0,.bool false,.slice none 0 0,.slice none 0 0],true⟩,⟨b13,0,[.int .i16 0,.string ByteArray.empty,.string ByteArray.empty,.int .i32 0],true⟩,⟨b21,0,[.int .i16 0,.string ByteArray.empty,.string ByteArray.empty,.int .i32 0],true⟩,⟨b44,0,[.int .i16 0,.string ByteArray.empty,.string ByteArray.empty,.int .i32 0],true⟩] [⟨b1,0,[.int .i64 0,.slice none 0 0,.bool false,.slice none 0 0,.slice none 0 0],true⟩,⟨b13,0,[.int .i16 0,.string ByteArray.empty,.string ByteArray.empty,.int .i32 0],true⟩,⟨b21,0,[.int .i16 0,.string ByteArray.empty,.string ByteArray.empty,.int .i32 0],true⟩,⟨b44,0,[.int .i16 (uI16 (qag 0 (false,s))),.string ((D83.f 0).s),.string ((D83.f 1).s),.int .i32 ((D83.f 2).n)],true⟩] from ⟨rfl,rfl,⟨rfl,rfl,⟨rfl,rfl,⟨rfl,rfl,trivial⟩⟩⟩⟩)).pk (env':=[(9,.v (.nilIface)),(2,.p 0 0),(4,.p 3 0),(7,.v (.slice A2 s.length c2)),(8,.v (.slice A60 s.length c61))])
 refine qaj [3] [] [(2,.p 0 0),(4,.p 3 0),(10,.v (.bool false))] hW88 hE100 fun a101 hE102=>?_
 refine qae (qab ?_)
 refine qaQ hE102 (b:=false) kz rfl ?_
 refine wp_skip ?_
 refine qab ?_
 refine qad [0,1,2] kz ?_
 have hE103:=hE102.recast 4 (.p 3 0) (.v (.pointer (some ⟨b44,0,none⟩))) rfl rfl trivial
 have hE104:=hE103.pk (env':=[(2,.p 0 0),(4,.v (.pointer (some ⟨b44,0,none⟩))),(10,.v (.bool false))])
 have hat105:=WOk.strOut (G:=F) [⟨b1,0,[.int .i64 0,.slice none 0 0,.bool false,.slice none 0 0,.slice none 0 0],true⟩,⟨b13,0,[.int .i16 0,.string ByteArray.empty,.string ByteArray.empty,.int .i32 0],true⟩,⟨b21,0,[.int .i16 0,.string ByteArray.empty,.string ByteArray.empty,.int .i32 0],true⟩] hW88
 obtain ⟨hE106,hW107,hF108⟩:=hW88.cutB hE104 3 [⟨b1,0,[.int .i64 0,.slice none 0 0,.bool false,.slice none 0 0,.slice none 0 0],true⟩,⟨b13,0,[.int .i16 0,.string ByteArray.empty,.string ByteArray.empty,.int .i32 0],true⟩,⟨b21,0,[.int .i16 0,.string ByteArray.empty,.string ByteArray.empty,.int .i32 0],true⟩] [(2,.p 0 0),(4,.v (.pointer (some ⟨b44,0,none⟩))),(10,.v (.bool false))]
 have hk109:=qbs _ hF108.step immM hF108.to' hk94
 refine qal (qak hE106 (f:=27) (vs:=[.pointer (some ⟨b44,0,none⟩)]) (d:=12) kz Tryd.call27 (qb6 (uI16 (qag 0 (false,s))) D83 b44 0 _ _ hat105 hk109) ?_)
 rintro e_ w113 ⟨cs112,rfl,hr111,hs110⟩
 have hr114:=hr111.move (Step.refl _ Nil) nilM (hW107.laid (G:=F) hs110)
 obtain ⟨n115,s116,b117,l118,u119,A120,c121,A122,c123,A124,c125,xs126,ht132,hcs127,h128,h129,h130,h131⟩:=hr114.open_
 rw [hcs127] at hr114
 have hsm133:=h128.small
 have hsm134:=h129.small
 rw [hcs127]
 refine ⟨_,rfl,fun a135 hE136=>?_⟩
 have hW137:=hW107.next_nil hs110
 have hF138:=hW107.frN hs110
 refine qal (qat hW137 hE136 (d:=5) (cs:=[.int .i64 0,.slice none 0 0,.bool false,.slice none 0 0,.slice none 0 0]) kz fun b139 a140 w141 hb142 hz143 hF144 hW145 hE146=>?_)
 refine qal (qan hW145 hE146 (oi:=3) (cs:=[.int .i64 n115,.slice A120 s116.length c121,.bool b117,.slice A122 l118.length c123,.slice A124 u119.length c125]) kz fun w147 hF148 hW149 hE150=>?_)
 refine qae (qab ?_)
 refine qad [0,1,2,3,4] kz ?_
 refine qaj [0] [1,2,3,4] [(2,.p 0 0),(5,.p 3 0),(13,.v (.pointer (some ⟨b44,0,none⟩)))] hW149 hE150 fun a151 hE152=>?_
 refine qal (qa2 hE152 (t:=49) (b:=b44) (o:=0) (d:=14) kz (cs:=[.int .i16 (uI16 (qag 0 (false,s)))]) (v:=.int .i16 (uI16 (qag 0 (false,s)))) kz (At.drop (AtF.move hat105 ((hF138.trans hF144).trans hF148).step immM ((hF138.trans hF144).trans hF148).to').at_ 0 1) fun a153 hE154=>?_)
 refine qaj [2,3] [4] [(2,.p 0 0),(5,.p 3 0),(15,.v (.int .i64 (IntKind.i64.wrap (uI16 (qag 0 (false,s)))))),(16,.p 3 0)] hW149 hE154 fun a155 hE156=>?_
 refine qal (qan hW149 hE156 (oi:=3) (cs:=[.int .i64 (IntKind.i64.wrap (uI16 (qag 0 (false,s)))),.slice A120 s116.length c121,.bool b117,.slice A122 l118.length c123,.slice A124 u119.length c125]) kz fun w157 hF158 hW159 hE160=>?_)
 refine qae (qab ?_)
 refine qad [0,1,2] kz ?_
 refine qaj [0] [1,2] [(2,.p 0 0),(17,.v (.agg #[.int .i64 (IntKind.i64.wrap (uI16 (qag 0 (false,s)))),.slice A120 s116.length c121,.bool b117,.slice A122 l118.length c123,.slice A124 u119.length c125]))] hW159 hE160 fun a161 hE162=>?_
 refine qal (qan hW159 hE162 (oi:=0) (cs:=[.int .i64 (IntKind.i64.wrap (uI16 (qag 0 (false,s)))),.slice A120 s116.length c121,.bool b117,.slice A122 l118.length c123,.slice A124 u119.length c125]) kz fun w163 hF164 hW165 hE166=>?_)
 refine qaj [2] [] [(2,.p 0 0),(3,.v (.bool true))] hW165 hE166 fun a167 hE168=>?_
 refine qae (qab ?_)
 refine wp_ret ?_
 refine qaG hE168 hW165.cells (v:=.tuple #[.agg #[.int .i64 (IntKind.i64.wrap (uI16 (qag 0 (false,s)))),.slice A120 s116.length c121,.bool b117,.slice A122 l118.length c123,.slice A124 u119.length c125],.bool true]) kz ?_
 rw [show qgF (qa7 0 (false,s)) _ = (Tree.mk (IntKind.i64.wrap (uI16 (qag 0 (false,s)))) s116 b117 l118 u119) by rw [← hv86,ht132]; rfl]
 exact ⟨_,rfl,(show TreeR _ (Imm F w w163 [⟨b1,0,[.int .i64 (IntKind.i64.wrap (uI16 (qag 0 (false,s)))),.slice A120 s116.length c121,.bool b117,.slice A122 l118.length c123,.slice A124 u119.length c125],true⟩,⟨b13,0,[.int .i16 0,.string ByteArray.empty,.string ByteArray.empty,.int .i32 0],true⟩,⟨b21,0,[.int .i16 0,.string ByteArray.empty,.string ByteArray.empty,.int .i32 0],true⟩,⟨b139,0,[.int .i64 (IntKind.i64.wrap (uI16 (qag 0 (false,s)))),.slice A120 s116.length c121,.bool b117,.slice A122 l118.length c123,.slice A124 u119.length c125],true⟩] []) _ (Tree.mk (IntKind.i64.wrap (uI16 (qag 0 (false,s)))) s116 b117 l118 u119) from (TreeR.mk (n:=IntKind.i64.wrap (uI16 (qag 0 (false,s)))) (b:=b117) (s:=s116) (l:=l118) (u:=u119) xs126 (h128.move (((hF144.trans hF148).trans hF158).trans hF164).step immM (((hF144.trans hF148).trans hF158).trans hF164).to') (h129.move (((hF144.trans hF148).trans hF158).trans hF164).step immM (((hF144.trans hF148).trans hF158).trans hF164).to') (fun i_ x_ h_=>((h130 i_ x_ h_).move (((hF144.trans hF148).trans hF158).trans hF164).step immM (((hF144.trans hF148).trans hF158).trans hF164).to')) (h131.move (((hF144.trans hF148).trans hF158).trans hF164).step immM (((hF144.trans hF148).trans hF158).trans hF164).to'))).move (Step.refl _ Nil) nilM qcm,hW165.step⟩
set_option maxHeartbeats 4000000 in
theorem qbU (s:Bs) (hl:s.length ≤ 1000) {ue:TypeId} {ve:Value} {A2:Option Addr} {c2:Nat} {w:World} {F:Nat → Nat → Prop} (hs_:Octs w F A2 c2 s) (hgl:AtF w F 1 0 [.iface ue ve]) (hb:(qaK 0 (false,s)).1 = true) :
  Calls Tryd.prog 10 #[.slice A2 s.length c2] w (fun e w'=>∃ cs,e = .returned (.tuple #[.agg cs.toArray,.bool false]) ∧ TreeR w' (Fp F w) cs (.zero) ∧ Step w w' Nil):=by
 refine enter (n:=18) Tryd.func10 rfl Tryd.ntmps10 kz fun a hE=>?_
 have hW:=WOk.start w Nil
 have hsm2:=Slots.small hs_
 refine qad [0,1] kz ?_
 refine qal (qat hW hE (d:=2) (cs:=[.int .i64 0,.slice none 0 0,.bool false,.slice none 0 0,.slice none 0 0]) kz fun b1 a2 w3 hb4 hz5 hF6 hW7 hE8=>?_)
 refine qaj [1] [] [(0,.v (.slice A2 s.length c2)),(2,.p 0 0)] hW7 hE8 fun a9 hE10=>?_
 refine qae (qab ?_)
 refine qad [0,1,2] kz ?_
 refine qal (qa0 hE10 (f:=25) (vs:=[]) (d:=6) (n':=4) kz Tryd.call25 Tryd.func25 rfl Tryd.ntmps25 kz fun a11 hE12=>?_)
 refine qad [0] kz ?_
 refine qal (qat hW7 hE12 (d:=0) (cs:=[.int .i16 0,.string ByteArray.empty,.string ByteArray.empty,.int .i32 0]) kz fun b13 a14 w15 hb16 hz17 hF18 hW19 hE20=>?_)
 refine qae (qab ?_)
 refine qad [0] kz ?_
 refine qal (qat hW19 hE20 (d:=1) (cs:=[.int .i16 0,.string ByteArray.empty,.string ByteArray.empty,.int .i32 0]) kz fun b21 a22 w23 hb24 hz25 hF26 hW27 hE28=>?_)
 refine qae (qab ?_)
 refine qad [0] kz ?_
 refine qal (qa0 hE28 (f:=55) (vs:=[.pointer (some ⟨b21,0,none⟩)]) (d:=2) (n':=2) kz Tryd.call55 Tryd.func55 rfl Tryd.ntmps55 kz fun a29 hE30=>?_)
 have hE31:=hE30.recast 0 (.v (.pointer (some ⟨b21,0,none⟩))) (.p 2 0) rfl rfl (Nat.le_of_ble_eq_true (n:=3) rfl)
 refine wp_skip ?_
 refine qck hE31 hW27.cells (v:=.tuple #[]) kz ?_
 refine ⟨_,rfl,fun a32 hE33=>?_⟩
 have hE34:=(EnvOk.places (tb':=[⟨b1,0,[.int .i64 0,.slice none 0 0,.bool false,.slice none 0 0,.slice none 0 0],true⟩,⟨b13,0,[.int .i16 0,.string ByteArray.empty,.string ByteArray.empty,.int .i32 0],true⟩,⟨b21,0,[.int .i16 0,.string ByteArray.empty,.string ByteArray.empty,.int .i32 0],true⟩]) hE33 (show Pl [⟨b1,0,[.int .i64 0,.slice none 0 0,.bool false,.slice none 0 0,.slice none 0 0],true⟩,⟨b13,0,[.int .i16 0,.string ByteArray.empty,.string ByteArray.empty,.int .i32 0],true⟩,⟨b21,0,[.int .i16 0,.string ByteArray.empty,.string ByteArray.empty,.int .i32 0],true⟩] [⟨b1,0,[.int .i64 0,.slice none 0 0,.bool false,.slice none 0 0,.slice none 0 0],true⟩,⟨b13,0,[.int .i16 0,.string ByteArray.empty,.string ByteArray.empty,.int .i32 0],true⟩,⟨b21,0,[.int .i16 0,.string ByteArray.empty,.string ByteArray.empty,.int .i32 0],true⟩] from ⟨rfl,rfl,⟨rfl,rfl,⟨rfl,rfl,trivial⟩⟩⟩)).pk (env':=[(2,.v (.tuple #[])),(0,.p 1 0),(1,.p 2 0)])
 refine qae (qab ?_)
 refine qad [0,1] kz ?_
 refine qaj [0] [1] [(0,.p 1 0),(3,.v (.agg #[.int .i16 0,.string ByteArray.empty,.string ByteArray.empty,.int .i32 0]))] hW27 hE34 fun a35 hE36=>?_
 refine qal (qan hW27 hE36 (oi:=1) (cs:=[.int .i16 0,.string ByteArray.empty,.string ByteArray.empty,.int .i32 0]) kz fun w37 hF38 hW39 hE40=>?_)
 refine qae (qab ?_)
 refine wp_ret ?_
 refine qaG hE40 hW39.cells (v:=.agg #[.int .i16 0,.string ByteArray.empty,.string ByteArray.empty,.int .i32 0]) kz ?_
 refine ⟨_,rfl,fun a41 hE42=>?_⟩
 have hE43:=(EnvOk.places (tb':=[⟨b1,0,[.int .i64 0,.slice none 0 0,.bool false,.slice none 0 0,.slice none 0 0],true⟩,⟨b13,0,[.int .i16 0,.string ByteArray.empty,.string ByteArray.empty,.int .i32 0],true⟩,⟨b21,0,[.int .i16 0,.string ByteArray.empty,.string ByteArray.empty,.int .i32 0],true⟩]) hE42 (show Pl [⟨b1,0,[.int .i64 0,.slice none 0 0,.bool false,.slice none 0 0,.slice none 0 0],true⟩] [⟨b1,0,[.int .i64 0,.slice none 0 0,.bool false,.slice none 0 0,.slice none 0 0],true⟩,⟨b13,0,[.int .i16 0,.string ByteArray.empty,.string ByteArray.empty,.int .i32 0],true⟩,⟨b21,0,[.int .i16 0,.string ByteArray.empty,.string ByteArray.empty,.int .i32 0],true⟩] from ⟨rfl,rfl,trivial⟩)).pk (env':=[(6,.v (.agg #[.int .i16 0,.string ByteArray.empty,.string ByteArray.empty,.int .i32 0])),(0,.v (.slice A2 s.length c2)),(2,.p 0 0)])
 refine qal (qat hW39 hE43 (d:=4) (cs:=[.int .i16 0,.string ByteArray.empty,.string ByteArray.empty,.int .i32 0]) kz fun b44 a45 w46 hb47 hz48 hF49 hW50 hE51=>?_)
 refine qal (qan hW50 hE51 (oi:=3) (cs:=[.int .i16 0,.string ByteArray.empty,.string ByteArray.empty,.int .i32 0]) kz fun w52 hF53 hW54 hE55=>?_)
 refine qae (qab ?_)
 refine wp_seq ?_
 refine qad [0,1,2,3] kz ?_
 refine qaj [0] [1,2,3] [(2,.p 0 0),(4,.p 3 0),(7,.v (.slice A2 s.length c2))] hW54 hE55 fun a56 hE57=>?_
 have hW58:=hW54.addNil 5 1
 have hF59:=hW54.frNil 5 1
 refine qal (qaJ hW58 hE57 (k:=0) (d:=8) (t:=22) (e:=5) (size:=1) (bytes:=1) (A:=none) (As:=A2) (m0:=0) (c:=0) (m:=s.length) (cs:=c2) (xs:=[]) (news:=bc s) kz kz rfl (hs_.move hW58.step nilM hW58.imm).src (hs_.move hW58.step nilM hW58.imm).cap (by first | omega | (simp only [List.length_nil]; omega) | (simp; omega)) fun A60 c61 a62 w63 hF64 hW65 hE66=>?_)
 have er67:(⟨A60,c61,5,1,0 + s.length,[] ++ bc s⟩:Rw) = brow A60 c61 5 s:=by rw [List.nil_append,Nat.zero_add]
 obtain ⟨hW68,hF70⟩:=hW65.rowEq 0 [brow A60 c61 5 s] er67
 have hE71:=EnvOk.pick hE66 (ks:=[2,4,7,8]) (env':=[(2,.p 0 0),(4,.p 3 0),(7,.v (.slice A2 s.length c2)),(8,.v (.slice A60 (0 + s.length) c61))]) kz
 have hE69:=hE71.cast (env':=[(2,.p 0 0),(4,.p 3 0),(7,.v (.slice A2 s.length c2)),(8,.v (.slice A60 s.length c61))]) (by simp only [List.length_append,List.length_cons,List.length_nil,Nat.zero_add])
 refine qal (qa0 hE69 (f:=30) (vs:=[.pointer (some ⟨b44,0,none⟩),.slice A60 s.length c61]) (d:=9) (n':=8) kz Tryd.call30 Tryd.func30 rfl Tryd.ntmps30 kz fun a72 hE73=>?_)
 have hE74:=hE73.recast 0 (.v (.pointer (some ⟨b44,0,none⟩))) (.p 3 0) rfl rfl (Nat.le_of_ble_eq_true (n:=4) rfl)
 refine qaq [(0,.p 3 0),(1,.v (.slice A60 s.length c61))] hW68 hE74 fun a75 hE76=>?_
 refine qad [0,1,2,3] kz ?_
 refine qaj [0,1] [2,3] [(5,.p 3 0),(6,.v (.slice A60 s.length c61))] hW68 hE76 fun a77 hE78=>?_
 have ho79:=hW68.giveUp (G:=F) 0 [] (show _ = some (brow A60 c61 5 s) from rfl) (by omega)
 obtain ⟨hW80,hF81⟩:=hW68.cutR 0 []
 refine qal (qak hE78 (f:=56) (vs:=[.pointer (some ⟨b44,0,none⟩),.slice A60 s.length c61,.bool true]) (d:=7) kz Tryd.call56 (qbQ 0 true s hl (Str.of hW80 3 rfl) ho79 (hgl.move hW80.step nilM hW80.imm) (qgy 3 rfl) hb) ?_)
 rintro e_ w82 ⟨rfl,⟨D83,hs84,hn95⟩,hst87⟩
 obtain ⟨hW88,hF89,hl90⟩:=hW80.wrote 3 [⟨b1,0,[.int .i64 0,.slice none 0 0,.bool false,.slice none 0 0,.slice none 0 0],true⟩,⟨b13,0,[.int .i16 0,.string ByteArray.empty,.string ByteArray.empty,.int .i32 0],true⟩,⟨b21,0,[.int .i16 0,.string ByteArray.empty,.string ByteArray.empty,.int .i32 0],true⟩,⟨b44,0,D83,true⟩] rfl hst87 hs84 rfl hn95
 refine ⟨_,rfl,fun a91 hE92=>?_⟩
 have hE93:=(EnvOk.places (tb':=[⟨b1,0,[.int .i64 0,.slice none 0 0,.bool false,.slice none 0 0,.slice none 0 0],true⟩,⟨b13,0,[.int .i16 0,.string ByteArray.empty,.string ByteArray.empty,.int .i32 0],true⟩,⟨b21,0,[.int .i16 0,.string ByteArray.empty,.string ByteArray.empty,.int .i32 0],true⟩,⟨b44,0,D83,true⟩]) hE92 (show Pl [⟨b1,0,[.int .i64 0,.slice none 0 0,.bool false,.slice none 0 0,.slice none 0 0],true⟩,⟨b13,0,[.int .i16 0,.string ByteArray.empty,.string ByteArray.empty,.int .i32 0],true⟩,⟨b21,0,[.int .i16 0,.string ByteArray.empty,.string ByteArray.empty,.int .i32 0],true⟩,⟨b44,0,[.int .i16 0,.string ByteArray.empty,.string ByteArray.empty,.int .i32 0],true⟩] [⟨b1,0,[.int .i64 0,.slice none 0 0,.bool false,.slice none 0 0,.slice none 0 0],true⟩,⟨b13,0,[.int .i16 0,.string ByteArray.empty,.string ByteArray.empty,.int .i32 0],true⟩,⟨b21,0,[.int .i16 0,.string ByteArray.empty,.string ByteArray.empty,.int .i32 0],true⟩,⟨b44,0,D83,true⟩] from ⟨rfl,rfl,⟨rfl,rfl,⟨rfl,rfl,⟨rfl,rfl,trivial⟩⟩⟩⟩)).pk (env':=[(7,.v (.iface ue ve)),(5,.p 3 0),(6,.v (.slice A60 s.length c61))])
 refine qaj [3] [] [(4,.v (.iface ue ve))] hW88 hE93 fun a96 hE97=>?_
 refine qae (qab ?_)
 refine wp_ret ?_
 refine qaG hE97 hW88.cells (v:=.iface ue ve) kz ?_
 refine ⟨_,rfl,fun a98 hE99=>?_⟩
 have hE100:=(EnvOk.places (tb':=[⟨b1,0,[.int .i64 0,.slice none 0 0,.bool false,.slice none 0 0,.slice none 0 0],true⟩,⟨b13,0,[.int .i16 0,.string ByteArray.empty,.string ByteArray.empty,.int .i32 0],true⟩,⟨b21,0,[.int .i16 0,.string ByteArray.empty,.string ByteArray.empty,.int .i32 0],true⟩,⟨b44,0,D83,true⟩]) hE99 (show Pl [⟨b1,0,[.int .i64 0,.slice none 0 0,.bool false,.slice none 0 0,.slice none 0 0],true⟩,⟨b13,0,[.int .i16 0,.string ByteArray.empty,.string ByteArray.empty,.int .i32 0],true⟩,⟨b21,0,[.int .i16 0,.string ByteArray.empty,.string ByteArray.empty,.int .i32 0],true⟩,⟨b44,0,[.int .i16 0,.string ByteArray.empty,.string ByteArray.empty,.int .i32 0],true⟩] [⟨b1,0,[.int .i64 0,.slice none 0 0,.bool false,.slice none 0 0,.slice none 0 0],true⟩,⟨b13,0,[.int .i16 0,.string ByteArray.empty,.string ByteArray.empty,.int .i32 0],true⟩,⟨b21,0,[.int .i16 0,.string ByteArray.empty,.string ByteArray.empty,.int .i32 0],true⟩,⟨b44,0,D83,true⟩] from ⟨rfl,rfl,⟨rfl,rfl,⟨rfl,rfl,⟨rfl,rfl,trivial⟩⟩⟩⟩)).pk (env':=[(9,.v (.iface ue ve)),(2,.p 0 0),(4,.p 3 0),(7,.v (.slice A2 s.length c2)),(8,.v (.slice A60 s.length c61))])
 refine qaj [3] [] [(2,.p 0 0),(4,.p 3 0),(10,.v (.bool true))] hW88 hE100 fun a101 hE102=>?_
 refine qae (qab ?_)
 refine qbb hE102 (b:=true) kz rfl ?_
 refine qad [0,1,2] kz ?_
 refine qaj [0] [1,2] [(2,.p 0 0),(11,.v (.agg #[.int .i64 0,.slice none 0 0,.bool false,.slice none 0 0,.slice none 0 0]))] hW88 hE102 fun a103 hE104=>?_
 refine qal (qan hW88 hE104 (oi:=0) (cs:=[.int .i64 0,.slice none 0 0,.bool false,.slice none 0 0,.slice none 0 0]) kz fun w105 hF106 hW107 hE108=>?_)
 refine qaj [2] [] [(2,.p 0 0),(3,.v (.bool false))] hW107 hE108 fun a109 hE110=>?_
 refine qae (qab ?_)
 refine wp_ret ?_
 refine qax ?_
 refine qaG hE110 hW107.cells (v:=.tuple #[.agg #[.int .i64 0,.slice none 0 0,.bool false,.slice none 0 0,.slice none 0 0],.bool false]) kz ?_
 exact ⟨_,rfl,TreeR.zero _ _,hW107.step⟩
set_option maxHeartbeats 4000000 in
theorem qbV (s:Bs) (hl:s.length ≤ 1000) {ue:TypeId} {ve:Value} {A2:Option Addr} {c2:Nat} {w:World} {F:Nat → Nat → Prop} (hs_:Octs w F A2 c2 s) (hgl:AtF w F 1 0 [.iface ue ve]) (hb:(qaK 0 (false,s)).1 = false) :
  Calls Tryd.prog 10 #[.slice A2 s.length c2] w (fun e w'=>∃ cs,e = .returned (.tuple #[.agg cs.toArray,.bool true]) ∧ TreeR w' (Fp F w) cs (qgF (qa7 0 (false,s)) (IntKind.i64.wrap (uI16 (qag 0 (false,s))))) ∧ Step w w' Nil):=by
 refine enter (n:=18) Tryd.func10 rfl Tryd.ntmps10 kz fun a hE=>?_
 have hW:=WOk.start w Nil
 have hsm2:=Slots.small hs_
 refine qad [0,1] kz ?_
 refine qal (qat hW hE (d:=2) (cs:=[.int .i64 0,.slice none 0 0,.bool false,.slice none 0 0,.slice none 0 0]) kz fun b1 a2 w3 hb4 hz5 hF6 hW7 hE8=>?_)
 refine qaj [1] [] [(0,.v (.slice A2 s.length c2)),(2,.p 0 0)] hW7 hE8 fun a9 hE10=>?_
 refine qae (qab ?_)
 refine qad [0,1,2] kz ?_
 refine qal (qa0 hE10 (f:=25) (vs:=[]) (d:=6) (n':=4) kz Tryd.call25 Tryd.func25 rfl Tryd.ntmps25 kz fun a11 hE12=>?_)
 refine qad [0] kz ?_
 refine qal (qat hW7 hE12 (d:=0) (cs:=[.int .i16 0,.string ByteArray.empty,.string ByteArray.empty,.int .i32 0]) kz fun b13 a14 w15 hb16 hz17 hF18 hW19 hE20=>?_)
 refine qae (qab ?_)
 refine qad [0] kz ?_
 refine qal (qat hW19 hE20 (d:=1) (cs:=[.int .i16 0,.string ByteArray.empty,.string ByteArray.empty,.int .i32 0]) kz fun b21 a22 w23 hb24 hz25 hF26 hW27 hE28=>?_)
 refine qae (qab ?_)
 refine qad [0] kz ?_
 refine qal (qa0 hE28 (f:=55) (vs:=[.pointer (some ⟨b21,0,none⟩)]) (d:=2) (n':=2) kz Tryd.call55 Tryd.func55 rfl Tryd.ntmps55 kz fun a29 hE30=>?_)
 have hE31:=hE30.recast 0 (.v (.pointer (some ⟨b21,0,none⟩))) (.p 2 0) rfl rfl (Nat.le_of_ble_eq_true (n:=3) rfl)
 refine wp_skip ?_
 refine qck hE31 hW27.cells (v:=.tuple #[]) kz ?_
 refine ⟨_,rfl,fun a32 hE33=>?_⟩
 have hE34:=(EnvOk.places (tb':=[⟨b1,0,[.int .i64 0,.slice none 0 0,.bool false,.slice none 0 0,.slice none 0 0],true⟩,⟨b13,0,[.int .i16 0,.string ByteArray.empty,.string ByteArray.empty,.int .i32 0],true⟩,⟨b21,0,[.int .i16 0,.string ByteArray.empty,.string ByteArray.empty,.int .i32 0],true⟩]) hE33 (show Pl [⟨b1,0,[.int .i64 0,.slice none 0 0,.bool false,.slice none 0 0,.slice none 0 0],true⟩,⟨b13,0,[.int .i16 0,.string ByteArray.empty,.string ByteArray.empty,.int .i32 0],true⟩,⟨b21,0,[.int .i16 0,.string ByteArray.empty,.string ByteArray.empty,.int .i32 0],true⟩] [⟨b1,0,[.int .i64 0,.slice none 0 0,.bool false,.slice none 0 0,.slice none 0 0],true⟩,⟨b13,0,[.int .i16 0,.string ByteArray.empty,.string ByteArray.empty,.int .i32 0],true⟩,⟨b21,0,[.int .i16 0,.string ByteArray.empty,.string ByteArray.empty,.int .i32 0],true⟩] from ⟨rfl,rfl,⟨rfl,rfl,⟨rfl,rfl,trivial⟩⟩⟩)).pk (env':=[(2,.v (.tuple #[])),(0,.p 1 0),(1,.p 2 0)])
 refine qae (qab ?_)
 refine qad [0,1] kz ?_
 refine qaj [0] [1] [(0,.p 1 0),(3,.v (.agg #[.int .i16 0,.string ByteArray.empty,.string ByteArray.empty,.int .i32 0]))] hW27 hE34 fun a35 hE36=>?_
 refine qal (qan hW27 hE36 (oi:=1) (cs:=[.int .i16 0,.string ByteArray.empty,.string ByteArray.empty,.int .i32 0]) kz fun w37 hF38 hW39 hE40=>?_)
 refine qae (qab ?_)
 refine wp_ret ?_
 refine qaG hE40 hW39.cells (v:=.agg #[.int .i16 0,.string ByteArray.empty,.string ByteArray.empty,.int .i32 0]) kz ?_
 refine ⟨_,rfl,fun a41 hE42=>?_⟩
 have hE43:=(EnvOk.places (tb':=[⟨b1,0,[.int .i64 0,.slice none 0 0,.bool false,.slice none 0 0,.slice none 0 0],true⟩,⟨b13,0,[.int .i16 0,.string ByteArray.empty,.string ByteArray.empty,.int .i32 0],true⟩,⟨b21,0,[.int .i16 0,.string ByteArray.empty,.string ByteArray.empty,.int .i32 0],true⟩]) hE42 (show Pl [⟨b1,0,[.int .i64 0,.slice none 0 0,.bool false,.slice none 0 0,.slice none 0 0],true⟩] [⟨b1,0,[.int .i64 0,.slice none 0 0,.bool false,.slice none 0 0,.slice none 0 0],true⟩,⟨b13,0,[.int .i16 0,.string ByteArray.empty,.string ByteArray.empty,.int .i32 0],true⟩,⟨b21,0,[.int .i16 0,.string ByteArray.empty,.string ByteArray.empty,.int .i32 0],true⟩] from ⟨rfl,rfl,trivial⟩)).pk (env':=[(6,.v (.agg #[.int .i16 0,.string ByteArray.empty,.string ByteArray.empty,.int .i32 0])),(0,.v (.slice A2 s.length c2)),(2,.p 0 0)])
 refine qal (qat hW39 hE43 (d:=4) (cs:=[.int .i16 0,.string ByteArray.empty,.string ByteArray.empty,.int .i32 0]) kz fun b44 a45 w46 hb47 hz48 hF49 hW50 hE51=>?_)
 refine qal (qan hW50 hE51 (oi:=3) (cs:=[.int .i16 0,.string ByteArray.empty,.string ByteArray.empty,.int .i32 0]) kz fun w52 hF53 hW54 hE55=>?_)
 refine qae (qab ?_)
 refine wp_seq ?_
 refine qad [0,1,2,3] kz ?_
 refine qaj [0] [1,2,3] [(2,.p 0 0),(4,.p 3 0),(7,.v (.slice A2 s.length c2))] hW54 hE55 fun a56 hE57=>?_
 have hW58:=hW54.addNil 5 1
 have hF59:=hW54.frNil 5 1
 refine qal (qaJ hW58 hE57 (k:=0) (d:=8) (t:=22) (e:=5) (size:=1) (bytes:=1) (A:=none) (As:=A2) (m0:=0) (c:=0) (m:=s.length) (cs:=c2) (xs:=[]) (news:=bc s) kz kz rfl (hs_.move hW58.step nilM hW58.imm).src (hs_.move hW58.step nilM hW58.imm).cap (by first | omega | (simp only [List.length_nil]; omega) | (simp; omega)) fun A60 c61 a62 w63 hF64 hW65 hE66=>?_)
 have er67:(⟨A60,c61,5,1,0 + s.length,[] ++ bc s⟩:Rw) = brow A60 c61 5 s:=by rw [List.nil_append,Nat.zero_add]
 obtain ⟨hW68,hF70⟩:=hW65.rowEq 0 [brow A60 c61 5 s] er67
 have hE71:=EnvOk.pick hE66 (ks:=[2,4,7,8]) (env':=[(2,.p 0 0),(4,.p 3 0),(7,.v (.slice A2 s.length c2)),(8,.v (.slice A60 (0 + s.length) c61))]) kz
 have hE69:=hE71.cast (env':=[(2,.p 0 0),(4,.p 3 0),(7,.v (.slice A2 s.length c2)),(8,.v (.slice A60 s.length c61))]) (by simp only [List.length_append,List.length_cons,List.length_nil,Nat.zero_add])
 refine qal (qa0 hE69 (f:=30) (vs:=[.pointer (some ⟨b44,0,none⟩),.slice A60 s.length c61]) (d:=9) (n':=8) kz Tryd.call30 Tryd.func30 rfl Tryd.ntmps30 kz fun a72 hE73=>?_)
 have hE74:=hE73.recast 0 (.v (.pointer (some ⟨b44,0,none⟩))) (.p 3 0) rfl rfl (Nat.le_of_ble_eq_true (n:=4) rfl)
 refine qaq [(0,.p 3 0),(1,.v (.slice A60 s.length c61))] hW68 hE74 fun a75 hE76=>?_
 refine qad [0,1,2,3] kz ?_
 refine qaj [0,1] [2,3] [(5,.p 3 0),(6,.v (.slice A60 s.length c61))] hW68 hE76 fun a77 hE78=>?_
 have ho79:=hW68.giveUp (G:=F) 0 [] (show _ = some (brow A60 c61 5 s) from rfl) (by omega)
 obtain ⟨hW80,hF81⟩:=hW68.cutR 0 []
 refine qal (qak hE78 (f:=56) (vs:=[.pointer (some ⟨b44,0,none⟩),.slice A60 s.length c61,.bool true]) (d:=7) kz Tryd.call56 (qbR 0 true s hl (Str.of hW80 3 rfl) ho79 (hgl.move hW80.step nilM hW80.imm) (qgy 3 rfl) hb) ?_)
 rintro e_ w82 ⟨D83,rfl,hs84,hk85,hv86,hst87⟩
 obtain ⟨hW88,hF89,hl90⟩:=hW80.wrote 3 [⟨b1,0,[.int .i64 0,.slice none 0 0,.bool false,.slice none 0 0,.slice none 0 0],true⟩,⟨b13,0,[.int .i16 0,.string ByteArray.empty,.string ByteArray.empty,.int .i32 0],true⟩,⟨b21,0,[.int .i16 0,.string ByteArray.empty,.string ByteArray.empty,.int .i32 0],true⟩,⟨b44,0,[.int .i16 (uI16 (qag 0 (false,s))),.string ((D83.f 0).s),.string ((D83.f 1).s),.int .i32 ((D83.f 2).n)],true⟩] rfl hst87 hs84
 have hk94:=qbs _ (Step.refl _ Nil) nilM hl90 hk85
 refine ⟨_,rfl,fun a91 hE92=>?_⟩
 have hE93:=(EnvOk.places (tb':=[⟨b1,0,[.int .i64 0,.slice none 0 0,.bool false,.slice none 0 0,.slice none 0 0],true⟩,⟨b13,0,[.int .i16 0,.string ByteArray.empty,.string ByteArray.empty,.int .i32 0],true⟩,⟨b21,0,[.int .i16 0,.string ByteArray.empty,.string ByteArray.empty,.int .i32 0],true⟩,⟨b44,0,[.int .i16 (uI16 (qag 0 (false,s))),.string ((D83.f 0).s),.string ((D83.f 1).s),.int .i32 ((D83.f 2).n)],true⟩]) hE92 (show Pl [⟨b1,0,[.int .i64 0,.slice none 0 0,.bool false,.slice none 0 0,.slice none 0 0],true⟩,⟨b13,0,[.int .i16 0,.string ByteArray.empty,.string ByteArray.empty,.int .i32 0],true⟩,⟨b21,0,[.int .i16 0,.string ByteArray.empty,.string ByteArray.empty,.int .i32 0],true⟩,⟨b44,0,[.int .i16 0,.string ByteArray.empty,.string ByteArray.empty,.int .i32 0],true⟩] [⟨b1,0,[.int .i64 0,.slice none 0 0,.bool false,.slice none 0 0,.slice none 0 0],true⟩,⟨b13,0,[.int .i16 0,.string ByteArray.empty,.string ByteArray.empty,.int .i32 0],true⟩,⟨b21,0,[.int .i16 0,.string ByteArray.empty,.string ByteArray.empty,.int .i32 0],true⟩,⟨b44,0,[.int .i16 (uI16 (qag 0 (false,s))),.string ((D83.f 0).s),.string ((D83.f 1).s),.int .i32 ((D83.f 2).n)],true⟩] from ⟨rfl,rfl,⟨rfl,rfl,⟨rfl,rfl,⟨rfl,rfl,trivial⟩⟩⟩⟩)).pk (env':=[(7,.v (.nilIface)),(5,.p 3 0),(6,.v (.slice A60 s.length c61))])
 refine qaj [3] [] [(4,.v (.nilIface))] hW88 hE93 fun a96 hE97=>?_
 refine qae (qab ?_)
 refine wp_ret ?_
 refine qaG hE97 hW88.cells (v:=.nilIface) kz ?_
 refine ⟨_,rfl,fun a98 hE99=>?_⟩
 have hE100:=(EnvOk.places (tb':=[⟨b1,0,[.int .i64 0,.slice none 0 0,.bool false,.slice none 0 0,.slice none 0 0],true⟩,⟨b13,0,[.int .i16 0,.string ByteArray.empty,.string ByteArray.empty,.int .i32 0],true⟩,⟨b21,0,[.int .i16 0,.string ByteArray.empty,.string ByteArray.empty,.int .i32 0],true⟩,⟨b44,0,[.int .i16 (uI16 (qag 0 (false,s))),.string ((D83.f 0).s),.string ((D83.f 1).s),.int .i32 ((D83.f 2).n)],true⟩]) hE99 (show Pl [⟨b1,0,[.int .i64 0,.slice none 0 0,.bool false,.slice none 0 0,.slice none 0 0],true⟩,⟨b13,0,[.int .i16 0,.string ByteArray.empty,.string ByteArray.empty,.int .i32 0],true⟩,⟨b21,0,[.int .i16 0,.string ByteArray.empty,.string ByteArray.empty,.int .i32 0],true⟩,⟨b44,0,[.int .i16 0,.string ByteArray.empty,.string ByteArray.empty,.int .i32 0],true⟩] [⟨b1,0,[.int .i64 0,.slice none 0 0,.bool false,.slice none 0 0,.slice none 0 0],true⟩,⟨b13,0,[.int .i16 0,.string ByteArray.empty,.string ByteArray.empty,.int .i32 0],true⟩,⟨b21,0,[.int .i16 0,.string ByteArray.empty,.string ByteArray.empty,.int .i32 0],true⟩,⟨b44,0,[.int .i16 (uI16 (qag 0 (false,s))),.string ((D83.f 0).s),.string ((D83.f 1).s),.int .i32 ((D83.f 2).n)],true⟩] from ⟨rfl,rfl,⟨rfl,rfl,⟨rfl,rfl,⟨rfl,rfl,trivial⟩⟩⟩⟩)).pk (env':=[(9,.v (.nilIface)),(2,.p 0 0),(4,.p 3 0),(7,.v (.slice A2 s.length c2)),(8,.v (.slice A60 s.length c61))])
 refine qaj [3] [] [(2,.p 0 0),(4,.p 3 0),(10,.v (.bool false))] hW88 hE100 fun a101 hE102=>?_
 refine qae (qab ?_)
 refine qaQ hE102 (b:=false) kz rfl ?_
 refine wp_skip ?_
 refine qab ?_
 refine qad [0,1,2] kz ?_
 have hE103:=hE102.recast 4 (.p 3 0) (.v (.pointer (some ⟨b44,0,none⟩))) rfl rfl trivial
 have hE104:=hE103.pk (env':=[(2,.p 0 0),(4,.v (.pointer (some ⟨b44,0,none⟩))),(10,.v (.bool false))])
 have hat105:=WOk.strOut (G:=F) [⟨b1,0,[.int .i64 0,.slice none 0 0,.bool false,.slice none 0 0,.slice none 0 0],true⟩,⟨b13,0,[.int .i16 0,.string ByteArray.empty,.string ByteArray.empty,.int .i32 0],true⟩,⟨b21,0,[.int .i16 0,.string ByteArray.empty,.string ByteArray.empty,.int .i32 0],true⟩] hW88
 obtain ⟨hE106,hW107,hF108⟩:=hW88.cutB hE104 3 [⟨b1,0,[.int .i64 0,.slice none 0 0,.bool false,.slice none 0 0,.slice none 0 0],true⟩,⟨b13,0,[.int .i16 0,.string ByteArray.empty,.string ByteArray.empty,.int .i32 0],true⟩,⟨b21,0,[.int .i16 0,.string ByteArray.empty,.string ByteArray.empty,.int .i32 0],true⟩] [(2,.p 0 0),(4,.v (.pointer (some ⟨b44,0,none⟩))),(10,.v (.bool false))]
 have hk109:=qbs _ hF108.step immM hF108.to' hk94
 refine qal (qak hE106 (f:=27) (vs:=[.pointer (some ⟨b44,0,none⟩)]) (d:=12) kz Tryd.call27 (qb6 (uI16 (qag 0 (false,s))) D83 b44 0 _ _ hat105 hk109) ?_)
 rintro e_ w113 ⟨cs112,rfl,hr111,hs110⟩
 have hr114:=hr111.move (Step.refl _ Nil) nilM (hW107.laid (G:=F) hs110)
 obtain ⟨n115,s116,b117,l118,u119,A120,c121,A122,c123,A124,c125,xs126,ht132,hcs127,h128,h129,h130,h131⟩:=hr114.open_
 rw [hcs127] at hr114
 have hsm133:=h128.small
 have hsm134:=h129.small
 rw [hcs127]
 refine ⟨_,rfl,fun a135 hE136=>?_⟩
 have hW137:=hW107.next_nil hs110
 have hF138:=hW107.frN hs110
 refine qal (qat hW137 hE136 (d:=5) (cs:=[.int .i64 0,.slice none 0 0,.bool false,.slice none 0 0,.slice none 0 0]) kz fun b139 a140 w141 hb142 hz143 hF144 hW145 hE146=>?_)
 refine qal (qan hW145 hE146 (oi:=3) (cs:=[.int .i64 n115,.slice A120 s116.length c121,.bool b117,.slice A122 l118.length c123,.slice A124 u119.length c125]) kz fun w147 hF148 hW149 hE150=>?_)
 refine qae (qab ?_)
 refine qad [0,1,2,3,4] kz ?_
 refine qaj [0] [1,2,3,4] [(2,.p 0 0),(5,.p 3 0),(13,.v (.pointer (some ⟨b44,0,none⟩)))] hW149 hE150 fun a151 hE152=>?_
 refine qal (qa2 hE152 (t:=49) (b:=b44) (o:=0) (d:=14) kz (cs:=[.int .i16 (uI16 (qag 0 (false,s)))]) (v:=.int .i16 (uI16 (qag 0 (false,s)))) kz (At.drop (AtF.move hat105 ((hF138.trans hF144).trans hF148).step immM ((hF138.trans hF144).trans hF148).to').at_ 0 1) fun a153 hE154=>?_)
 refine qaj [2,3] [4] [(2,.p 0 0),(5,.p 3 0),(15,.v (.int .i64 (IntKind.i64.wrap (uI16 (qag 0 (false,s)))))),(16,.p 3 0)] hW149 hE154 fun a155 hE156=>?_
 refine qal (qan hW149 hE156 (oi:=3) (cs:=[.int .i64 (IntKind.i64.wrap (uI16 (qag 0 (false,s)))),.slice A120 s116.length c121,.bool b117,.slice A122 l118.length c123,.slice A124 u119.length c125]) kz fun w157 hF158 hW159 hE160=>?_)
 refine qae (qab ?_)
 refine qad [0,1,2] kz ?_
 refine qaj [0] [1,2] [(2,.p 0 0),(17,.v (.agg #[.int .i64 (IntKind.i64.wrap (uI16 (qag 0 (false,s)))),.slice A120 s116.length c121,.bool b117,.slice A122 l118.length c123,.slice A124 u119.length c125]))] hW159 hE160 fun a161 hE162=>?_
 refine qal (qan hW159 hE162 (oi:=0) (cs:=[.int .i64 (IntKind.i64.wrap (uI16 (qag 0 (false,s)))),.slice A120 s116.length c121,.bool b117,.slice A122 l118.length c123,.slice A124 u119.length c125]) kz fun w163 hF164 hW165 hE166=>?_)
 refine qaj [2] [] [(2,.p 0 0),(3,.v (.bool true))] hW165 hE166 fun a167 hE168=>?_
 refine qae (qab ?_)
 refine wp_ret ?_
 refine qaG hE168 hW165.cells (v:=.tuple #[.agg #[.int .i64 (IntKind.i64.wrap (uI16 (qag 0 (false,s)))),.slice A120 s116.length c121,.bool b117,.slice A122 l118.length c123,.slice A124 u119.length c125],.bool true]) kz ?_
 rw [show qgF (qa7 0 (false,s)) _ = (Tree.mk (IntKind.i64.wrap (uI16 (qag 0 (false,s)))) s116 b117 l118 u119) by rw [← hv86,ht132]; rfl]
 exact ⟨_,rfl,(show TreeR _ (Imm F w w163 [⟨b1,0,[.int .i64 (IntKind.i64.wrap (uI16 (qag 0 (false,s)))),.slice A120 s116.length c121,.bool b117,.slice A122 l118.length c123,.slice A124 u119.length c125],true⟩,⟨b13,0,[.int .i16 0,.string ByteArray.empty,.string ByteArray.empty,.int .i32 0],true⟩,⟨b21,0,[.int .i16 0,.string ByteArray.empty,.string ByteArray.empty,.int .i32 0],true⟩,⟨b139,0,[.int .i64 (IntKind.i64.wrap (uI16 (qag 0 (false,s)))),.slice A120 s116.length c121,.bool b117,.slice A122 l118.length c123,.slice A124 u119.length c125],true⟩] []) _ (Tree.mk (IntKind.i64.wrap (uI16 (qag 0 (false,s)))) s116 b117 l118 u119) from (TreeR.mk (n:=IntKind.i64.wrap (uI16 (qag 0 (false,s)))) (b:=b117) (s:=s116) (l:=l118) (u:=u119) xs126 (h128.move (((hF144.trans hF148).trans hF158).trans hF164).step immM (((hF144.trans hF148).trans hF158).trans hF164).to') (h129.move (((hF144.trans hF148).trans hF158).trans hF164).step immM (((hF144.trans hF148).trans hF158).trans hF164).to') (fun i_ x_ h_=>((h130 i_ x_ h_).move (((hF144.trans hF148).trans hF158).trans hF164).step immM (((hF144.trans hF148).trans hF158).trans hF164).to')) (h131.move (((hF144.trans hF148).trans hF158).trans hF164).step immM (((hF144.trans hF148).trans hF158).trans hF164).to'))).move (Step.refl _ Nil) nilM qcm,hW165.step⟩
end Go.Proofs.YtajibgahdkllkaaDoorR.ME
namespace Go.Proofs.YtajibgahdkllkaaDoorR.ME
open Go
open Go.RowKit
set_option linter.unusedVariables false
set_option linter.unusedSimpArgs false
set_option maxRecDepth 20000
def qgX (m:Nat):Prop:=∀ (ct1 ct2:List Value) (t:Tree) (w:World) (F:Nat → Nat → Prop),TreeR w F ct1 t → TreeR w F ct2 t → t.depth ≤ m →
  Calls Tryd.prog 11 #[.agg ct1.toArray,.agg ct2.toArray] w (qcd w (.bool true))
set_option maxHeartbeats 4000000 in
theorem qeD {m:Nat} (hg:qgX m) (ct1 ct2:List Value) (t:Tree) (w:World) (F:Nat → Nat → Prop) (h1:TreeR w F ct1 t) (h2:TreeR w F ct2 t) (hd:t.depth ≤ m + 1) :
  Calls Tryd.prog 11 #[.agg ct1.toArray,.agg ct2.toArray] w (qcd w (.bool true)):=by
 obtain ⟨n1,s2,b3,l4,u5,A6,c7,A8,c9,A10,c11,xs12,rfl,rfl,h14,h15,h16,h17⟩:=h1.open_
 have hsm19:=h14.small
 have hsm20:=h15.small
 obtain ⟨n',s',b',l',u',A1',c1',A2',c2',A3',c3',xs',e',rfl,g1,g2,g3,g4⟩:=h2.open_
 obtain ⟨q1,q2,q3,q4,q5⟩:=Tree.mk.inj e'
 subst q1 q2 q3 q4 q5
 obtain ⟨cs21,h22,h23⟩:=h17.ex
 have hsm24:=h22.small
 obtain ⟨cs25,h26,h27⟩:=g4.ex
 have hsm28:=h26.small
 refine enter (n:=100) Tryd.func11 rfl Tryd.ntmps11 kz fun a hE=>?_
 have hW:=WOk.start w Nil
 refine qad [0,1,2] kz ?_
 refine qal (qa5 hW hE (d:=2) (cs:=[.int .i64 n1,.slice A6 s2.length c7,.bool b3,.slice A8 l4.length c9,.slice A10 u5.length c11]) kz fun b29 a30 w31 hb32 hz33 hF34 hW35 hE36=>?_)
 refine qal (qa5 hW35 hE36 (d:=3) (cs:=[.int .i64 n1,.slice A1' s2.length c1',.bool b3,.slice A2' l4.length c2',.slice A3' u5.length c3']) kz fun b37 a38 w39 hb40 hz41 hF42 hW43 hE44=>?_)
 refine qaj [2] [] [(2,.p 0 0),(3,.p 1 0)] hW43 hE44 fun a45 hE46=>?_
 refine qae (qab ?_)
 refine wp_seq ?_
 refine qad [0,1,2,3,4,5,6,7,8,9,10,11,12,13,14,15,16,17,18,19,20,21,22,23,24,25,26,27,28,29,30,31,32,33,34,35,36,37] kz ?_
 refine qaj [0,1,2,3,4,5] [6,7,8,9,10,11,12,13,14,15,16,17,18,19,20,21,22,23,24,25,26,27,28,29,30,31,32,33,34,35,36,37] [(2,.p 0 0),(3,.p 1 0),(12,.v (.bool (n1 != n1)))] hW43 hE46 fun a47 hE48=>?_
 have hc49:(n1 != n1) = false:=by simp
 have hE50:=hE48.cast (env':=[(2,.p 0 0),(3,.p 1 0),(12,.v (.bool false))]) (by rw [hc49])
 refine qaj [6,7,8,9,10,11,12] [13,14,15,16,17,18,19,20,21,22,23,24,25,26,27,28,29,30,31,32,33,34,35,36,37] [(2,.p 0 0),(3,.p 1 0),(19,.v (.bool (!(b3 == b3))))] hW43 hE50 fun a51 hE52=>?_
 have hc53:(!(b3 == b3)) = false:=by simp
 have hE54:=hE52.cast (env':=[(2,.p 0 0),(3,.p 1 0),(19,.v (.bool false))]) (by rw [hc53])
 refine qaj [13,14,15,16] [17,18,19,20,21,22,23,24,25,26,27,28,29,30,31,32,33,34,35,36,37] [(2,.p 0 0),(3,.p 1 0),(19,.v (.bool false)),(21,.v (.slice A6 s2.length c7)),(23,.v (.slice A1' s2.length c1'))] hW43 hE54 fun a55 hE56=>?_
 refine qal (qak hE56 (f:=31) (vs:=[.slice A6 s2.length c7,.slice A1' s2.length c1']) (d:=24) kz Tryd.call31 (qhh _ _ _ _ s2 s2 _ _ (h14.move hW43.step nilM hW43.imm) (g1.move hW43.step nilM hW43.imm)) ?_)
 rintro e_ w58 ⟨rfl,hs57⟩
 refine ⟨_,rfl,fun a59 hE60=>?_⟩
 have hW61:=hW43.next_nil hs57
 have hF62:=hW43.frN hs57
 refine qaj [18,19,20] [21,22,23,24,25,26,27,28,29,30,31,32,33,34,35,36,37] [(2,.p 0 0),(3,.p 1 0),(27,.v (.bool (!(decide (s2 = s2)))))] hW61 hE60 fun a63 hE64=>?_
 refine (Bool.eq_false_or_eq_true (!(decide (s2 = s2)))).elim (fun hc65=>?_) (fun hc65=>?_)
 ·
  have hE67:=hE64.cast (env':=[(2,.p 0 0),(3,.p 1 0),(27,.v (.bool true))]) (by rw [hc65])
  refine qaj [21,22,23,24,25,26,27,28,29,30,31,32,33,34,35,36,37] [] [(2,.p 0 0),(3,.p 1 0),(44,.v (.bool true))] hW61 hE67 fun a68 hE69=>?_
  refine qae (qab ?_)
  refine qbb hE69 (b:=true) kz rfl ?_
  refine qaq [(4,.v (.bool false))] hW61 hE69 fun a70 hE71=>?_
  refine wp_ret ?_
  refine qax ?_
  refine qaG hE71 hW61.cells (v:=.bool false) kz ?_
  exfalso; simp_all
 have hE73:=hE64.cast (env':=[(2,.p 0 0),(3,.p 1 0),(27,.v (.bool false))]) (by rw [hc65])
 refine qaj [21,22,23,24,25,26,27,28,29] [30,31,32,33,34,35,36,37] [(2,.p 0 0),(3,.p 1 0),(36,.v (.bool (((l4.length:Nat):Int) != ((l4.length:Nat):Int))))] hW61 hE73 fun a74 hE75=>?_
 have hc76:(((l4.length:Nat):Int) != ((l4.length:Nat):Int)) = false:=by simp
 have hE77:=hE75.cast (env':=[(2,.p 0 0),(3,.p 1 0),(36,.v (.bool false))]) (by rw [hc76])
 refine qaj [30,31,32,33,34,35,36,37] [] [(2,.p 0 0),(3,.p 1 0),(44,.v (.bool (((u5.length:Nat):Int) != ((u5.length:Nat):Int))))] hW61 hE77 fun a78 hE79=>?_
 refine qae (qab ?_)
 refine qaQ hE79 (b:=((u5.length:Nat):Int) != ((u5.length:Nat):Int)) kz (by simp) ?_
 refine wp_skip ?_
 refine qab ?_
 refine wp_seq ?_
 refine qaq [(2,.p 0 0),(3,.p 1 0),(47,.v (.int .i64 ((l4.length:Nat):Int))),(48,.v (.int .i64 0))] hW61 hE79 fun a80 hE81=>?_
 refine wp_block ?_
 refine wp_loop_ghost (fun n_ a_ w_=>∃ (k:Nat),n_ = l4.length - k ∧ k ≤ l4.length ∧ LInv hW61 100 [⟨b29,0,[.int .i64 n1,.slice A6 s2.length c7,.bool b3,.slice A8 l4.length c9,.slice A10 u5.length c11],true⟩,⟨b37,0,[.int .i64 n1,.slice A1' s2.length c1',.bool b3,.slice A2' l4.length c2',.slice A3' u5.length c3'],true⟩] [] [(2,.p 0 0),(3,.p 1 0),(47,.v (.int .i64 ((l4.length:Nat):Int))),(48,.v (.int .i64 ((k:Nat):Int)))] a_ w_) (l4.length) ⟨0,by omega,by omega,hE81.pk,hW61,Fr.refl _ _ _⟩ ?_
 rintro n82 a83 w84 ⟨k,hn87,hk88,hE85,hW86,hF89⟩
 refine qaq [(2,.p 0 0),(3,.p 1 0),(47,.v (.int .i64 ((l4.length:Nat):Int))),(48,.v (.int .i64 ((k:Nat):Int))),(49,.v (.bool (decide (((k:Nat):Int) < ((l4.length:Nat):Int)))))] hW86 hE85 fun a90 hE91=>?_
 refine wp_seq ?_
 refine qaA hE91 (b:=decide (((k:Nat):Int) < ((l4.length:Nat):Int))) kz (fun hc92=>?_) (fun hc92=>?_)
 ·
  have hf93:=of_decide_eq_true hc92
  refine wp_skip ?_
  refine qab ?_
  refine wp_seq ?_
  refine wp_block ?_
  refine qaq [(2,.p 0 0),(3,.p 1 0),(5,.v (.int .i64 ((k:Nat):Int))),(47,.v (.int .i64 ((l4.length:Nat):Int))),(48,.v (.int .i64 ((k:Nat):Int)))] hW86 hE91 fun a94 hE95=>?_
  refine qaT 12 kz hW86 fun w96 hF97 hW98 hT99=>?_
  refine qaH [0,1,2,5,6,7] [(2,.p 0 0),(3,.p 1 0),(47,.v (.int .i64 ((l4.length:Nat):Int))),(48,.v (.int .i64 ((k:Nat):Int))),(52,.v (.slice A8 l4.length c9)),(53,.v (.int .i64 ((k:Nat):Int))),(57,.v (.slice A2' l4.length c2')),(58,.v (.int .i64 ((k:Nat):Int)))] 6 (qaa (qac (qaa (qaa (qac (qaa qaf)))))) (fun _ h=>h.cells) hT99 hE95 fun a100 hE101=>?_
  obtain ⟨b102,o103,hA104,hl105,hat106⟩:=Slots.get h15 (i:=k) (by omega)
  obtain ⟨x107,he108⟩:∃ x,l4[k]? = some x:=⟨_,List.getElem?_eq_getElem (by omega)⟩
  have hr109:=h16 k x107 he108
  obtain ⟨n110,s111,b112,l113,u114,A115,c116,A117,c118,A119,c120,xs121,rfl,hcs122,h123,h124,h125,h126⟩:=hr109.open_
  rw [hcs122] at hr109
  have hsm128:=h123.small
  have hsm129:=h124.small
  rw [hcs122] at hat106
  refine qaO hE101 (i:=3) (t:=34) (A:=A8) (m:=l4.length) (q:=((k:Nat):Int)) (d:=54) kz (e:=37) (size:=5) (bytes:=88) kz hA104 rfl (by omega) kz kz (qaa (qac (qaa (qaa (qac (qaa qaf)))))) hT99 fun a130 hE131=>?_
  refine qaV hE131 (i:=4) (t:=37) (b:=b102) (o:=o103 + k * 5) (d:=55) kz (cs:=[.int .i64 n110,.slice A115 s111.length c116,.bool b112,.slice A117 l113.length c118,.slice A119 u114.length c120]) (v:=.agg #[.int .i64 n110,.slice A115 s111.length c116,.bool b112,.slice A117 l113.length c118,.slice A119 u114.length c120]) kz (fun w' h'=>(AtF.move hat106 (TT.step0 hW98 h') nilM qbw).at_) kz kz (qaa (qac (qaa (qaa (qac (qaa qaf)))))) hT99 fun a132 hE133=>?_
  obtain ⟨b134,o135,hA136,hl137,hat138⟩:=Slots.get g2 (i:=k) (by omega)
  obtain ⟨x139,he140⟩:∃ x,l4[k]? = some x:=⟨_,List.getElem?_eq_getElem (by omega)⟩
  have hr141:=g3 k x139 he140
  obtain ⟨n142,s143,b144,l145,u146,A147,c148,A149,c150,A151,c152,xs153,rfl,hcs154,h155,h156,h157,h158⟩:=hr141.open_
  rw [hcs154] at hr141
  have hsm160:=h155.small
  have hsm161:=h156.small
  rw [hcs154] at hat138
  refine qaO hE133 (i:=8) (t:=34) (A:=A2') (m:=l4.length) (q:=((k:Nat):Int)) (d:=59) kz (e:=37) (size:=5) (bytes:=88) kz hA136 rfl (by omega) kz kz (qaa (qac (qaa (qaa (qac (qaa qaf)))))) hT99 fun a162 hE163=>?_
  refine qaV hE163 (i:=9) (t:=37) (b:=b134) (o:=o135 + k * 5) (d:=60) kz (cs:=[.int .i64 n142,.slice A147 s143.length c148,.bool b144,.slice A149 l145.length c150,.slice A151 u146.length c152]) (v:=.agg #[.int .i64 n142,.slice A147 s143.length c148,.bool b144,.slice A149 l145.length c150,.slice A151 u146.length c152]) kz (fun w' h'=>(AtF.move hat138 (TT.step0 hW98 h') nilM qbw).at_) kz kz (qaa (qac (qaa (qaa (qac (qaa qaf)))))) hT99 fun a164 hE165=>?_
  refine qaE (i:=10) kz (qak hE165 (f:=11) (vs:=[.agg #[.int .i64 n110,.slice A115 s111.length c116,.bool b112,.slice A117 l113.length c118,.slice A119 u114.length c120],.agg #[.int .i64 n142,.slice A147 s143.length c148,.bool b144,.slice A149 l145.length c150,.slice A151 u146.length c152]]) (d:=61) kz Tryd.call11 (hg _ _ _ _ _ (hr109.move hW98.step nilM hW98.imm) (by rw [Option.some.inj (he108.symm.trans he140)]; exact (hr141.move hW98.step nilM hW98.imm)) (by have h_:=qdX he108; rw [qc1] at hd; omega)) ?_)
  rintro e_ w167 ⟨rfl,hs166⟩
  refine ⟨_,rfl,fun a168 hE169=>?_⟩
  have hW170:=hW98.next_nil hs166
  have hF171:=hW98.frN hs166
  have hT172:=TT.ofW hF171 hW170
  refine ⟨fun _=>hT172,?_⟩
  refine qaH [11] [(2,.p 0 0),(3,.p 1 0),(47,.v (.int .i64 ((l4.length:Nat):Int))),(48,.v (.int .i64 ((k:Nat):Int))),(62,.v (.bool false))] 0 (qaa (qac (qaa (qaa (qac (qaa qaf)))))) (fun _ h=>h.cells) hT172 hE169 fun a173 hE174=>?_
  refine qaL kz ?_ _
  refine qab ?_
  refine qaQ hE174 (b:=false) kz rfl ?_
  refine wp_skip ?_
  refine qau ?_
  refine qab ?_
  refine qar [0,1] kz ?_
  refine qaj [0,1] [] [(2,.p 0 0),(3,.p 1 0),(47,.v (.int .i64 ((l4.length:Nat):Int))),(48,.v (.int .i64 (IntKind.i64.wrap (((k:Nat):Int) + 1))))] hW170 hE174 fun a175 hE176=>?_
  refine qae (qab ?_)
  have he177:IntKind.i64.wrap (((k:Nat):Int) + 1) = ((k + 1:Nat):Int):=qaR (by omega)
  rw [he177] at hE176
  exact ⟨l4.length - (k + 1),by omega,k + 1,rfl,by omega,hE176.pk,hW170,((hF89.trans hF97).trans hF171)⟩
 have hf178:=of_decide_eq_false hc92
 refine wp_exit ?_
 refine qav ?_
 refine qav ?_
 refine qaM ?_
 refine qab ?_
 refine wp_seq ?_
 refine qaq [(2,.p 0 0),(3,.p 1 0),(66,.v (.int .i64 ((u5.length:Nat):Int))),(67,.v (.int .i64 0))] hW86 hE91 fun a179 hE180=>?_
 refine wp_block ?_
 refine wp_loop_ghost (fun n_ a_ w_=>∃ (q:Nat),n_ = u5.length - q ∧ q ≤ u5.length ∧ LInv hW86 100 [⟨b29,0,[.int .i64 n1,.slice A6 s2.length c7,.bool b3,.slice A8 l4.length c9,.slice A10 u5.length c11],true⟩,⟨b37,0,[.int .i64 n1,.slice A1' s2.length c1',.bool b3,.slice A2' l4.length c2',.slice A3' u5.length c3'],true⟩] [] [(2,.p 0 0),(3,.p 1 0),(66,.v (.int .i64 ((u5.length:Nat):Int))),(67,.v (.int .i64 ((q:Nat):Int)))] a_ w_) (u5.length) ⟨0,by omega,by omega,hE180.pk,hW86,Fr.refl _ _ _⟩ ?_
 rintro n181 a182 w183 ⟨q,hn186,hk187,hE184,hW185,hF188⟩
 refine qaq [(2,.p 0 0),(3,.p 1 0),(66,.v (.int .i64 ((u5.length:Nat):Int))),(67,.v (.int .i64 ((q:Nat):Int))),(68,.v (.bool (decide (((q:Nat):Int) < ((u5.length:Nat):Int)))))] hW185 hE184 fun a189 hE190=>?_
 refine wp_seq ?_
 refine qaA hE190 (b:=decide (((q:Nat):Int) < ((u5.length:Nat):Int))) kz (fun hc191=>?_) (fun hc191=>?_)
 ·
  have hf192:=of_decide_eq_true hc191
  refine wp_skip ?_
  refine qab ?_
  refine wp_seq ?_
  refine wp_block ?_
  refine qaq [(2,.p 0 0),(3,.p 1 0),(6,.v (.int .i64 ((q:Nat):Int))),(66,.v (.int .i64 ((u5.length:Nat):Int))),(67,.v (.int .i64 ((q:Nat):Int)))] hW185 hE190 fun a193 hE194=>?_
  refine qaT 29 kz hW185 fun w195 hF196 hW197 hT198=>?_
  refine qaH [0,1,2,6,7,8] [(2,.p 0 0),(3,.p 1 0),(6,.v (.int .i64 ((q:Nat):Int))),(66,.v (.int .i64 ((u5.length:Nat):Int))),(67,.v (.int .i64 ((q:Nat):Int))),(71,.v (.slice A10 u5.length c11)),(72,.v (.int .i64 ((q:Nat):Int))),(77,.v (.slice A3' u5.length c3')),(78,.v (.int .i64 ((q:Nat):Int)))] 23 (qaa (qac (qaa (qaa (qac (qaa qaf)))))) (fun _ h=>h.cells) hT198 hE194 fun a199 hE200=>?_
  obtain ⟨b201,o202,hA203,hl204,hat205⟩:=Slots.get h22 (i:=q) (by omega)
  obtain ⟨⟨k206,s207⟩,he208⟩:∃ x,u5[q]? = some x:=⟨_,List.getElem?_eq_getElem (by omega)⟩
  obtain ⟨⟨A209,c210,hcs211,hb212⟩,h213,h214⟩:=h23 q k206 s207 he208
  rw [hcs211] at hat205
  refine qaO hE200 (i:=3) (t:=35) (A:=A10) (m:=u5.length) (q:=((q:Nat):Int)) (d:=73) kz (e:=64) (size:=2) (bytes:=32) kz hA203 rfl (by omega) kz kz (qaa (qac (qaa (qaa (qac (qaa qaf)))))) hT198 fun a215 hE216=>?_
  refine qaH [4] [(2,.p 0 0),(3,.p 1 0),(6,.v (.int .i64 ((q:Nat):Int))),(66,.v (.int .i64 ((u5.length:Nat):Int))),(67,.v (.int .i64 ((q:Nat):Int))),(74,.v (.pointer (some ⟨b201,o202 + q * 2,none⟩))),(77,.v (.slice A3' u5.length c3')),(78,.v (.int .i64 ((q:Nat):Int)))] 21 (qaa (qac (qaa (qaa (qac (qaa qaf)))))) (fun _ h=>h.cells) hT198 hE216 fun a217 hE218=>?_
  refine qaV hE218 (i:=5) (t:=62) (b:=b201) (o:=o202 + q * 2) (d:=75) kz (cs:=[.int .u32 k206]) (v:=.int .u32 k206) kz (fun w' h'=>(At.drop (AtF.move hat205 (TT.step0 hW197 h') nilM qbw).at_ 0 1)) kz kz (qaa (qac (qaa (qaa (qac (qaa qaf)))))) hT198 fun a219 hE220=>?_
  obtain ⟨b221,o222,hA223,hl224,hat225⟩:=Slots.get h26 (i:=q) (by omega)
  obtain ⟨⟨k226,s227⟩,he228⟩:∃ x,u5[q]? = some x:=⟨_,List.getElem?_eq_getElem (by omega)⟩
  obtain ⟨⟨A229,c230,hcs231,hb232⟩,h233,h234⟩:=h27 q k226 s227 he228
  rw [hcs231] at hat225
  refine qaO hE220 (i:=9) (t:=35) (A:=A3') (m:=u5.length) (q:=((q:Nat):Int)) (d:=79) kz (e:=64) (size:=2) (bytes:=32) kz hA223 rfl (by omega) kz kz (qaa (qac (qaa (qaa (qac (qaa qaf)))))) hT198 fun a235 hE236=>?_
  refine qaH [10] [(2,.p 0 0),(3,.p 1 0),(6,.v (.int .i64 ((q:Nat):Int))),(66,.v (.int .i64 ((u5.length:Nat):Int))),(67,.v (.int .i64 ((q:Nat):Int))),(75,.v (.int .u32 k206)),(80,.v (.pointer (some ⟨b221,o222 + q * 2,none⟩)))] 18 (qaa (qac (qaa (qaa (qac (qaa qaf)))))) (fun _ h=>h.cells) hT198 hE236 fun a237 hE238=>?_
  refine qaV hE238 (i:=11) (t:=62) (b:=b221) (o:=o222 + q * 2) (d:=81) kz (cs:=[.int .u32 k226]) (v:=.int .u32 k226) kz (fun w' h'=>(At.drop (AtF.move hat225 (TT.step0 hW197 h') nilM qbw).at_ 0 1)) kz kz (qaa (qac (qaa (qaa (qac (qaa qaf)))))) hT198 fun a239 hE240=>?_
  refine qaH [12,13] [(2,.p 0 0),(3,.p 1 0),(6,.v (.int .i64 ((q:Nat):Int))),(66,.v (.int .i64 ((u5.length:Nat):Int))),(67,.v (.int .i64 ((q:Nat):Int))),(83,.v (.bool (k206 != k226)))] 15 (qaa (qac (qaa (qaa (qac (qaa qaf)))))) (fun _ h=>h.cells) hT198 hE240 fun a241 hE242=>?_
  have hc243:(k206 != k226) = false:=by obtain ⟨e1_,e2_⟩:=Prod.mk.inj (Option.some.inj (he208.symm.trans he228)); simp [e1_,e2_]
  have hE244:=hE242.cast (env':=[(2,.p 0 0),(3,.p 1 0),(6,.v (.int .i64 ((q:Nat):Int))),(66,.v (.int .i64 ((u5.length:Nat):Int))),(67,.v (.int .i64 ((q:Nat):Int))),(83,.v (.bool false))]) (by rw [hc243])
  refine qaH [14,15,16,20,21,22] [(2,.p 0 0),(3,.p 1 0),(66,.v (.int .i64 ((u5.length:Nat):Int))),(67,.v (.int .i64 ((q:Nat):Int))),(83,.v (.bool false)),(85,.v (.slice A10 u5.length c11)),(86,.v (.int .i64 ((q:Nat):Int))),(91,.v (.slice A3' u5.length c3')),(92,.v (.int .i64 ((q:Nat):Int)))] 9 (qaa (qac (qaa (qaa (qac (qaa qaf)))))) (fun _ h=>h.cells) hT198 hE244 fun a245 hE246=>?_
  refine qaO hE246 (i:=17) (t:=35) (A:=A10) (m:=u5.length) (q:=((q:Nat):Int)) (d:=87) kz (e:=64) (size:=2) (bytes:=32) kz hA203 rfl (by omega) kz kz (qaa (qac (qaa (qaa (qac (qaa qaf)))))) hT198 fun a247 hE248=>?_
  refine qaH [18] [(2,.p 0 0),(3,.p 1 0),(66,.v (.int .i64 ((u5.length:Nat):Int))),(67,.v (.int .i64 ((q:Nat):Int))),(83,.v (.bool false)),(88,.v (.pointer (some ⟨b201,o202 + q * 2 + 1,none⟩))),(91,.v (.slice A3' u5.length c3')),(92,.v (.int .i64 ((q:Nat):Int)))] 7 (qaa (qac (qaa (qaa (qac (qaa qaf)))))) (fun _ h=>h.cells) hT198 hE248 fun a249 hE250=>?_
  refine qaV hE250 (i:=19) (t:=22) (b:=b201) (o:=o202 + q * 2 + 1) (d:=89) kz (cs:=[.slice A209 s207.length c210]) (v:=.slice A209 s207.length c210) kz (fun w' h'=>(At.drop (AtF.move hat205 (TT.step0 hW197 h') nilM qbw).at_ 1 1)) kz kz (qaa (qac (qaa (qaa (qac (qaa qaf)))))) hT198 fun a251 hE252=>?_
  refine qaO hE252 (i:=23) (t:=35) (A:=A3') (m:=u5.length) (q:=((q:Nat):Int)) (d:=93) kz (e:=64) (size:=2) (bytes:=32) kz hA223 rfl (by omega) kz kz (qaa (qac (qaa (qaa (qac (qaa qaf)))))) hT198 fun a253 hE254=>?_
  refine qaH [24] [(2,.p 0 0),(3,.p 1 0),(66,.v (.int .i64 ((u5.length:Nat):Int))),(67,.v (.int .i64 ((q:Nat):Int))),(83,.v (.bool false)),(89,.v (.slice A209 s207.length c210)),(94,.v (.pointer (some ⟨b221,o222 + q * 2 + 1,none⟩)))] 4 (qaa (qac (qaa (qaa (qac (qaa qaf)))))) (fun _ h=>h.cells) hT198 hE254 fun a255 hE256=>?_
  refine qaV hE256 (i:=25) (t:=22) (b:=b221) (o:=o222 + q * 2 + 1) (d:=95) kz (cs:=[.slice A229 s227.length c230]) (v:=.slice A229 s227.length c230) kz (fun w' h'=>(At.drop (AtF.move hat225 (TT.step0 hW197 h') nilM qbw).at_ 1 1)) kz kz (qaa (qac (qaa (qaa (qac (qaa qaf)))))) hT198 fun a257 hE258=>?_
  refine qaE (i:=26) kz (qak hE258 (f:=31) (vs:=[.slice A209 s207.length c210,.slice A229 s227.length c230]) (d:=96) kz Tryd.call31 (qhh _ _ _ _ s207 s227 _ _ (hb212.move hW197.step nilM hW197.imm) (hb232.move hW197.step nilM hW197.imm)) ?_)
  rintro e_ w260 ⟨rfl,hs259⟩
  refine ⟨_,rfl,fun a261 hE262=>?_⟩
  have hW263:=hW197.next_nil hs259
  have hF264:=hW197.frN hs259
  have hT265:=TT.ofW hF264 hW263
  refine ⟨fun _=>hT265,?_⟩
  refine qaH [27,28] [(2,.p 0 0),(3,.p 1 0),(66,.v (.int .i64 ((u5.length:Nat):Int))),(67,.v (.int .i64 ((q:Nat):Int))),(98,.v (.bool (!(decide (s207 = s227)))))] 0 (qaa (qac (qaa (qaa (qac (qaa qaf)))))) (fun _ h=>h.cells) hT265 hE262 fun a266 hE267=>?_
  refine qaL kz ?_ _
  refine qab ?_
  refine qaQ hE267 (b:=!(decide (s207 = s227))) kz (by obtain ⟨e1_,e2_⟩:=Prod.mk.inj (Option.some.inj (he208.symm.trans he228)); simp [e1_,e2_]) ?_
  refine wp_skip ?_
  refine qau ?_
  refine qab ?_
  refine qar [0,1] kz ?_
  refine qaj [0,1] [] [(2,.p 0 0),(3,.p 1 0),(66,.v (.int .i64 ((u5.length:Nat):Int))),(67,.v (.int .i64 (IntKind.i64.wrap (((q:Nat):Int) + 1))))] hW263 hE267 fun a268 hE269=>?_
  refine qae (qab ?_)
  have he270:IntKind.i64.wrap (((q:Nat):Int) + 1) = ((q + 1:Nat):Int):=qaR (by omega)
  rw [he270] at hE269
  exact ⟨u5.length - (q + 1),by omega,q + 1,rfl,by omega,hE269.pk,hW263,((hF188.trans hF196).trans hF264)⟩
 have hf271:=of_decide_eq_false hc191
 refine wp_exit ?_
 refine qav ?_
 refine qav ?_
 refine qaM ?_
 refine qab ?_
 refine qaq [(4,.v (.bool true))] hW185 hE190 fun a272 hE273=>?_
 refine wp_ret ?_
 refine qaG hE273 hW185.cells (v:=.bool true) kz ?_
 exact ⟨rfl,hW185.step⟩
theorem qgY:∀ m,qgX m
 | 0=>fun ct1 ct2 t w F h1 h2 hd=>by
  obtain ⟨n,s,b,l,u,A1,c1,A2,c2,A3,c3,xs,rfl,_⟩:=h1.open_
  rw [qc1] at hd; omega
 | m + 1=>qeD (qgY m)
def sOffsetCommitKeyF:List Fld:=[(Fld.mk 8 0 (-1) (-1) (-1) 0 0 []),(Fld.mk 8 0 (-1) (-1) (-1) 0 0 []),(Fld.mk 3 0 (-1) (-1) (-1) 0 0 [])]
def qaC:Int:=-1
theorem qcb (w:World) (F:Nat → Nat → Prop):Calls Tryd.prog 9 #[] w (qhp w F sOffsetCommitKeyF qaC):=by
 refine enter (n:=6) Tryd.func9 rfl Tryd.ntmps9 kz fun a hE=>?_
 have hW:=WOk.start w Nil
 refine qad [0] kz ?_
 refine qal (qat hW hE (d:=0) (cs:=[.slice none 0 0,.int .i64 0]) kz fun b1 a2 w3 hb4 hz5 hF6 hW7 hE8=>?_)
 refine qae (qab ?_)
 refine qad [0,1,2,3,4,5] kz ?_
 refine qaj [0,1,2] [3,4,5] [(0,.p 0 0),(1,.v (.agg #[.int .i64 8,.int .i64 0,.int .i64 (-1),.int .i64 (-1),.int .i64 (-1),.int .i64 0,.int .i64 0,.slice none 0 0])),(2,.v (.agg #[.int .i64 8,.int .i64 0,.int .i64 (-1),.int .i64 (-1),.int .i64 (-1),.int .i64 0,.int .i64 0,.slice none 0 0])),(3,.v (.agg #[.int .i64 3,.int .i64 0,.int .i64 (-1),.int .i64 (-1),.int .i64 (-1),.int .i64 0,.int .i64 0,.slice none 0 0]))] hW7 hE8 fun a9 af=>?_
 refine qal (qdd hW7 af (e:=60) (size:=8) (len:=3) (cs:=[.int .i64 8,.int .i64 0,.int .i64 (-1),.int .i64 (-1),.int .i64 (-1),.int .i64 0,.int .i64 0,.slice none 0 0,.int .i64 8,.int .i64 0,.int .i64 (-1),.int .i64 (-1),.int .i64 (-1),.int .i64 0,.int .i64 0,.slice none 0 0,.int .i64 3,.int .i64 0,.int .i64 (-1),.int .i64 (-1),.int .i64 (-1),.int .i64 0,.int .i64 0,.slice none 0 0]) (d:=4) kz kz fun ag ap ar ak al am ae ah=>?_)
 refine qaj [4] [5] [(0,.p 0 0),(5,.v (.agg #[.slice (some ⟨ag,0,none⟩) 3 3,.int .i64 (-1)]))] ae ah fun au ai=>?_
 refine qal (qan ae ai (oi:=0) (cs:=[.slice (some ⟨ag,0,none⟩) 3 3,.int .i64 (-1)]) kz fun ac ao ab aj=>?_)
 refine qae (qab ?_)
 refine wp_ret ?_
 refine qaG aj ab.cells (v:=.agg #[.slice (some ⟨ag,0,none⟩) 3 3,.int .i64 (-1)]) kz ?_
 have aa:=Flds.slots (F:=F) ab (k:=0) (n:=3) (xs:=[.int .i64 8,.int .i64 0,.int .i64 (-1),.int .i64 (-1),.int .i64 (-1),.int .i64 0,.int .i64 0,.slice none 0 0,.int .i64 8,.int .i64 0,.int .i64 (-1),.int .i64 (-1),.int .i64 (-1),.int .i64 0,.int .i64 0,.slice none 0 0,.int .i64 3,.int .i64 0,.int .i64 (-1),.int .i64 (-1),.int .i64 (-1),.int .i64 0,.int .i64 0,.slice none 0 0]) rfl (Flds.snoc (Flds.snoc (Flds.snoc (Flds.nil _ _) (c:=[.int .i64 8,.int .i64 0,.int .i64 (-1),.int .i64 (-1),.int .i64 (-1),.int .i64 0,.int .i64 0,.slice none 0 0]) (x:=(Fld.mk 8 0 (-1) (-1) (-1) 0 0 [])) (FldR.mk (l:=[]) _ (qdI ac (Fp F w)).1 (qdI ac (Fp F w)).2)) (c:=[.int .i64 8,.int .i64 0,.int .i64 (-1),.int .i64 (-1),.int .i64 (-1),.int .i64 0,.int .i64 0,.slice none 0 0]) (x:=(Fld.mk 8 0 (-1) (-1) (-1) 0 0 [])) (FldR.mk (l:=[]) _ (qdI ac (Fp F w)).1 (qdI ac (Fp F w)).2)) (c:=[.int .i64 3,.int .i64 0,.int .i64 (-1),.int .i64 (-1),.int .i64 (-1),.int .i64 0,.int .i64 0,.slice none 0 0]) (x:=(Fld.mk 3 0 (-1) (-1) (-1) 0 0 [])) (FldR.mk (l:=[]) _ (qdI ac (Fp F w)).1 (qdI ac (Fp F w)).2)) rfl (by decide)
 exact ⟨_,_,rfl,⟨_,aa.1,aa.2⟩,ab.step⟩
theorem qbE:depths sOffsetCommitKeyF ≤ 8:=by simp [sOffsetCommitKeyF,Fld.depth.depths,Fld.depth]
theorem qbl:(qc4 8 sOffsetCommitKeyF qaC 0 (Tree.mk 0 [] false [] [])).length ≤ 1099511627776:=by decide +kernel
theorem qbS:(qc4 8 sOffsetCommitKeyF qaC 0 (Tree.mk 0 [] false [] [])).length ≤ 1000:=by decide +kernel
theorem qbT:(qaK 0 (false,qc4 8 sOffsetCommitKeyF qaC 0 (Tree.mk 0 [] false [] []))).1 = false:=by decide +kernel
set_option maxHeartbeats 4000000 in
theorem qco (s:Bs) (hl:s.length ≤ 1000) {ue:TypeId} {ve:Value} {A2:Option Addr} {c2:Nat} (w:World) (F:Nat → Nat → Prop) (hs_:Octs w F A2 c2 s) (hgl:AtF w F 1 0 [.iface ue ve]) (hb:(qaK 0 (false,s)).1 = true) :
  Calls Tryd.prog 3 #[.slice A2 s.length c2] w (qcd w (.bool true)):=by
 refine enter (n:=49) Tryd.func3 rfl Tryd.ntmps3 kz fun a hE=>?_
 have hW:=WOk.start w Nil
 have hsm2:=Slots.small hs_
 refine qaq [(0,.v (.slice A2 s.length c2))] hW hE fun a1 hE2=>?_
 refine wp_seq ?_
 refine qaq [(0,.v (.slice A2 s.length c2)),(11,.v (.bool (decide (((s.length:Nat):Int) > 2147483647))))] hW hE2 fun a3 hE4=>?_
 refine qaQ hE4 (b:=decide (((s.length:Nat):Int) > 2147483647)) kz (decide_eq_false (by omega)) ?_
 refine wp_skip ?_
 refine qab ?_
 refine wp_seq ?_
 refine qaq [(0,.v (.slice A2 s.length c2)),(14,.v (.bool (decide (((s.length:Nat):Int) > 1000))))] hW hE4 fun a5 hE6=>?_
 refine qaQ hE6 (b:=decide (((s.length:Nat):Int) > 1000)) kz (decide_eq_false (by omega)) ?_
 refine wp_skip ?_
 refine qab ?_
 refine qad [0,1,2,3,4,5,6,7,8,9] kz ?_
 refine qal (qak hE6 (f:=9) (vs:=[]) (d:=16) kz Tryd.call9 (qcb _ (Imm F w w [] [])) ?_)
 rintro e_ w11 ⟨A9,c10,rfl,hr8,hs7⟩
 obtain ⟨xs12,h13,h14⟩:=hr8.move (Step.refl _ Nil) nilM (hW.laid (G:=F) hs7)
 refine ⟨_,rfl,fun a15 hE16=>?_⟩
 have hW17:=hW.next_nil hs7
 have hF18:=hW.frN hs7
 refine qaj [1] [2,3,4,5,6,7,8,9] [(0,.v (.slice A2 s.length c2)),(16,.v (.agg #[.slice A9 sOffsetCommitKeyF.length c10,.int .i64 qaC])),(17,.v (.agg #[.int .i64 0,.slice none 0 0,.bool false,.slice none 0 0,.slice none 0 0]))] hW17 hE16 fun a19 hE20=>?_
 refine qal (qak hE20 (f:=8) (vs:=[.agg #[.slice A9 sOffsetCommitKeyF.length c10,.int .i64 qaC],.int .i64 0,.agg #[.int .i64 0,.slice none 0 0,.bool false,.slice none 0 0,.slice none 0 0]]) (d:=18) kz Tryd.call8 (qhB _ _ sOffsetCommitKeyF qaC 0 _ (Tree.mk 0 [] false [] []) _ _ ⟨xs12,h13,h14⟩ qbE (TreeR.mk (n:=0) (b:=false) (s:=[]) (l:=[]) (u:=[]) (fun _=>[]) (Octs.nil _ _) (Slots.nil _ _ _ _) (fun i_ x_ h_=>by simp at h_) (TagsR.nil _ _)) qbl) ?_)
 rintro e_ w25 ⟨A23,c24,rfl,ho22,hs21⟩
 refine ⟨_,rfl,fun a26 hE27=>?_⟩
 obtain ⟨hW28,hF29⟩:=hW17.frFresh hs21 (brow A23 c24 5 (qc4 8 sOffsetCommitKeyF qaC 0 (Tree.mk 0 [] false [] []))) (Nat.le_refl _) ho22
 refine qal (qak hE27 (f:=7) (vs:=[.slice A23 ((qc4 8 sOffsetCommitKeyF qaC 0 (Tree.mk 0 [] false [] [])).length) c24]) (d:=19) kz Tryd.call7 (qbf (qc4 8 sOffsetCommitKeyF qaC 0 (Tree.mk 0 [] false [] [])) qbS (qcY (hW28.own 0 _ rfl) qbl (F:=fun _ _=>True) (fun _ _ _=>trivial)) ((hgl.move hW28.step nilM hW28.imm).move (Step.refl _ Nil) nilM allF) qbT) ?_)
 rintro e_ w30 ⟨cs31,rfl,hr32,hs33⟩
 obtain ⟨n34,s35,b36,l37,u38,A39,c40,A41,c42,A43,c44,xs45,ht51,hcs46,h47,h48,h49,h50⟩:=hr32.open_
 rw [hcs46] at hr32
 have hsm52:=h47.small
 have hsm53:=h48.small
 rw [hcs46]
 refine ⟨_,rfl,fun a54 hE55=>?_⟩
 have hW56:=hW28.next_nil hs33
 have hF57:=hW28.frN hs33
 refine qaj [4,5,6] [7,8,9] [(0,.v (.slice A2 s.length c2)),(20,.v (.agg #[.int .i64 n34,.slice A39 s35.length c40,.bool b36,.slice A41 l37.length c42,.slice A43 u38.length c44])),(21,.v (.bool true))] hW56 hE55 fun a58 hE59=>?_
 refine qal (qat hW56 hE59 (d:=3) (cs:=[.int .i64 0,.slice none 0 0,.bool false,.slice none 0 0,.slice none 0 0]) kz fun b60 a61 w62 hb63 hz64 hF65 hW66 hE67=>?_)
 refine qal (qan hW66 hE67 (oi:=0) (cs:=[.int .i64 n34,.slice A39 s35.length c40,.bool b36,.slice A41 l37.length c42,.slice A43 u38.length c44]) kz fun w68 hF69 hW70 hE71=>?_)
 refine qaj [9] [] [(0,.v (.slice A2 s.length c2)),(4,.v (.bool true))] hW70 hE71 fun a72 hE73=>?_
 refine qae (qab ?_)
 refine qad [0,1,2,3,4,5,6,7] kz ?_
 refine qaj [0] [1,2,3,4,5,6,7] [(0,.v (.slice A2 s.length c2)),(4,.v (.bool true)),(23,.v (.slice A2 s.length c2))] hW70 hE73 fun a74 hE75=>?_
 refine qal (qak hE75 (f:=7) (vs:=[.slice A2 s.length c2]) (d:=24) kz Tryd.call7 (qb8 s hl (hs_.move hW70.step nilM hW70.imm) (hgl.move hW70.step nilM hW70.imm) hb) ?_)
 rintro e_ w76 ⟨cs77,rfl,hr78,hs79⟩
 have hr80:=hr78.move (Step.refl _ Nil) nilM (hW70.laid (G:=F) hs79)
 obtain ⟨n81,s82,b83,l84,u85,A86,c87,A88,c89,A90,c91,xs92,ht98,hcs93,h94,h95,h96,h97⟩:=hr80.open_
 rw [hcs93] at hr80
 have hsm99:=h94.small
 have hsm100:=h95.small
 rw [hcs93]
 refine ⟨_,rfl,fun a101 hE102=>?_⟩
 have hW103:=hW70.next_nil hs79
 have hF104:=hW70.frN hs79
 refine qaj [2,3,4] [5,6,7] [(0,.v (.slice A2 s.length c2)),(4,.v (.bool true)),(25,.v (.agg #[.int .i64 n81,.slice A86 s82.length c87,.bool b83,.slice A88 l84.length c89,.slice A90 u85.length c91])),(26,.v (.bool false))] hW103 hE102 fun a105 hE106=>?_
 refine qal (qat hW103 hE106 (d:=5) (cs:=[.int .i64 0,.slice none 0 0,.bool false,.slice none 0 0,.slice none 0 0]) kz fun b107 a108 w109 hb110 hz111 hF112 hW113 hE114=>?_)
 refine qal (qan hW113 hE114 (oi:=1) (cs:=[.int .i64 n81,.slice A86 s82.length c87,.bool b83,.slice A88 l84.length c89,.slice A90 u85.length c91]) kz fun w115 hF116 hW117 hE118=>?_)
 refine qaj [7] [] [(0,.v (.slice A2 s.length c2)),(4,.v (.bool true)),(5,.p 1 0),(6,.v (.bool false))] hW117 hE118 fun a119 hE120=>?_
 refine qae (qab ?_)
 refine qad [0,1,2,3,4,5,6,7] kz ?_
 refine qaj [0] [1,2,3,4,5,6,7] [(4,.v (.bool true)),(5,.p 1 0),(6,.v (.bool false)),(28,.v (.slice A2 s.length c2))] hW117 hE120 fun a121 hE122=>?_
 refine qal (qak hE122 (f:=10) (vs:=[.slice A2 s.length c2]) (d:=29) kz Tryd.call10 (qbU s hl (hs_.move hW117.step nilM hW117.imm) (hgl.move hW117.step nilM hW117.imm) hb) ?_)
 rintro e_ w123 ⟨cs124,rfl,hr125,hs126⟩
 have hr127:=hr125.move (Step.refl _ Nil) nilM (hW117.laid (G:=F) hs126)
 obtain ⟨n128,s129,b130,l131,u132,A133,c134,A135,c136,A137,c138,xs139,ht145,hcs140,h141,h142,h143,h144⟩:=hr127.open_
 rw [hcs140] at hr127
 have hsm146:=h141.small
 have hsm147:=h142.small
 rw [hcs140]
 refine ⟨_,rfl,fun a148 hE149=>?_⟩
 have hW150:=hW117.next_nil hs126
 have hF151:=hW117.frN hs126
 refine qaj [2,3,4] [5,6,7] [(4,.v (.bool true)),(5,.p 1 0),(6,.v (.bool false)),(30,.v (.agg #[.int .i64 n128,.slice A133 s129.length c134,.bool b130,.slice A135 l131.length c136,.slice A137 u132.length c138])),(31,.v (.bool false))] hW150 hE149 fun a152 hE153=>?_
 refine qal (qat hW150 hE153 (d:=7) (cs:=[.int .i64 0,.slice none 0 0,.bool false,.slice none 0 0,.slice none 0 0]) kz fun b154 a155 w156 hb157 hz158 hF159 hW160 hE161=>?_)
 refine qal (qan hW160 hE161 (oi:=2) (cs:=[.int .i64 n128,.slice A133 s129.length c134,.bool b130,.slice A135 l131.length c136,.slice A137 u132.length c138]) kz fun w162 hF163 hW164 hE165=>?_)
 refine qaj [7] [] [(4,.v (.bool true)),(5,.p 1 0),(6,.v (.bool false)),(7,.p 2 0),(8,.v (.bool false))] hW164 hE165 fun a166 hE167=>?_
 refine qae (qab ?_)
 refine qaT 17 kz hW164 fun w168 hF169 hW170 hT171=>?_
 refine qaH [0,1,2,3,4,5,6,7,8,9,10,11,12,13,14,15,16] [(48,.v (.bool true))] 1 (qaa qaf) (fun _ h=>h.cells) hT171 hE167 fun a172 hE173=>?_
 refine qaE (i:=17) kz (qbp [2] hW170.cells hE173 (env':=[(2,.v (.bool true))]) kz fun a174 hE175=>?_)
 refine ⟨fun h=>absurd rfl h,?_⟩
 refine qaL kz ?_ _
 refine qab ?_
 refine wp_ret ?_
 refine qaG hE175 hW170.cells (v:=.bool true) kz ?_
 exact ⟨rfl,hW170.step⟩
set_option maxHeartbeats 4000000 in
theorem qcp (s:Bs) (hl:s.length ≤ 1000) {ue:TypeId} {ve:Value} {A2:Option Addr} {c2:Nat} (w:World) (F:Nat → Nat → Prop) (hs_:Octs w F A2 c2 s) (hgl:AtF w F 1 0 [.iface ue ve]) (hb:(qaK 0 (false,s)).1 = false) :
  Calls Tryd.prog 3 #[.slice A2 s.length c2] w (qcd w (.bool true)):=by
 refine enter (n:=49) Tryd.func3 rfl Tryd.ntmps3 kz fun a hE=>?_
 have hW:=WOk.start w Nil
 have hsm2:=Slots.small hs_
 refine qaq [(0,.v (.slice A2 s.length c2))] hW hE fun a1 hE2=>?_
 refine wp_seq ?_
 refine qaq [(0,.v (.slice A2 s.length c2)),(11,.v (.bool (decide (((s.length:Nat):Int) > 2147483647))))] hW hE2 fun a3 hE4=>?_
 refine qaQ hE4 (b:=decide (((s.length:Nat):Int) > 2147483647)) kz (decide_eq_false (by omega)) ?_
 refine wp_skip ?_
 refine qab ?_
 refine wp_seq ?_
 refine qaq [(0,.v (.slice A2 s.length c2)),(14,.v (.bool (decide (((s.length:Nat):Int) > 1000))))] hW hE4 fun a5 hE6=>?_
 refine qaQ hE6 (b:=decide (((s.length:Nat):Int) > 1000)) kz (decide_eq_false (by omega)) ?_
 refine wp_skip ?_
 refine qab ?_
 refine qad [0,1,2,3,4,5,6,7,8,9] kz ?_
 refine qal (qak hE6 (f:=9) (vs:=[]) (d:=16) kz Tryd.call9 (qcb _ (Imm F w w [] [])) ?_)
 rintro e_ w11 ⟨A9,c10,rfl,hr8,hs7⟩
 obtain ⟨xs12,h13,h14⟩:=hr8.move (Step.refl _ Nil) nilM (hW.laid (G:=F) hs7)
 refine ⟨_,rfl,fun a15 hE16=>?_⟩
 have hW17:=hW.next_nil hs7
 have hF18:=hW.frN hs7
 refine qaj [1] [2,3,4,5,6,7,8,9] [(0,.v (.slice A2 s.length c2)),(16,.v (.agg #[.slice A9 sOffsetCommitKeyF.length c10,.int .i64 qaC])),(17,.v (.agg #[.int .i64 0,.slice none 0 0,.bool false,.slice none 0 0,.slice none 0 0]))] hW17 hE16 fun a19 hE20=>?_
 refine qal (qak hE20 (f:=8) (vs:=[.agg #[.slice A9 sOffsetCommitKeyF.length c10,.int .i64 qaC],.int .i64 0,.agg #[.int .i64 0,.slice none 0 0,.bool false,.slice none 0 0,.slice none 0 0]]) (d:=18) kz Tryd.call8 (qhB _ _ sOffsetCommitKeyF qaC 0 _ (Tree.mk 0 [] false [] []) _ _ ⟨xs12,h13,h14⟩ qbE (TreeR.mk (n:=0) (b:=false) (s:=[]) (l:=[]) (u:=[]) (fun _=>[]) (Octs.nil _ _) (Slots.nil _ _ _ _) (fun i_ x_ h_=>by simp at h_) (TagsR.nil _ _)) qbl) ?_)
 rintro e_ w25 ⟨A23,c24,rfl,ho22,hs21⟩
 refine ⟨_,rfl,fun a26 hE27=>?_⟩
 obtain ⟨hW28,hF29⟩:=hW17.frFresh hs21 (brow A23 c24 5 (qc4 8 sOffsetCommitKeyF qaC 0 (Tree.mk 0 [] false [] []))) (Nat.le_refl _) ho22
 refine qal (qak hE27 (f:=7) (vs:=[.slice A23 ((qc4 8 sOffsetCommitKeyF qaC 0 (Tree.mk 0 [] false [] [])).length) c24]) (d:=19) kz Tryd.call7 (qbf (qc4 8 sOffsetCommitKeyF qaC 0 (Tree.mk 0 [] false [] [])) qbS (qcY (hW28.own 0 _ rfl) qbl (F:=fun _ _=>True) (fun _ _ _=>trivial)) ((hgl.move hW28.step nilM hW28.imm).move (Step.refl _ Nil) nilM allF) qbT) ?_)
 rintro e_ w30 ⟨cs31,rfl,hr32,hs33⟩
 obtain ⟨n34,s35,b36,l37,u38,A39,c40,A41,c42,A43,c44,xs45,ht51,hcs46,h47,h48,h49,h50⟩:=hr32.open_
 rw [hcs46] at hr32
 have hsm52:=h47.small
 have hsm53:=h48.small
 rw [hcs46]
 refine ⟨_,rfl,fun a54 hE55=>?_⟩
 have hW56:=hW28.next_nil hs33
 have hF57:=hW28.frN hs33
 refine qaj [4,5,6] [7,8,9] [(0,.v (.slice A2 s.length c2)),(20,.v (.agg #[.int .i64 n34,.slice A39 s35.length c40,.bool b36,.slice A41 l37.length c42,.slice A43 u38.length c44])),(21,.v (.bool true))] hW56 hE55 fun a58 hE59=>?_
 refine qal (qat hW56 hE59 (d:=3) (cs:=[.int .i64 0,.slice none 0 0,.bool false,.slice none 0 0,.slice none 0 0]) kz fun b60 a61 w62 hb63 hz64 hF65 hW66 hE67=>?_)
 refine qal (qan hW66 hE67 (oi:=0) (cs:=[.int .i64 n34,.slice A39 s35.length c40,.bool b36,.slice A41 l37.length c42,.slice A43 u38.length c44]) kz fun w68 hF69 hW70 hE71=>?_)
 refine qaj [9] [] [(0,.v (.slice A2 s.length c2)),(4,.v (.bool true))] hW70 hE71 fun a72 hE73=>?_
 refine qae (qab ?_)
 refine qad [0,1,2,3,4,5,6,7] kz ?_
 refine qaj [0] [1,2,3,4,5,6,7] [(0,.v (.slice A2 s.length c2)),(4,.v (.bool true)),(23,.v (.slice A2 s.length c2))] hW70 hE73 fun a74 hE75=>?_
 refine qal (qak hE75 (f:=7) (vs:=[.slice A2 s.length c2]) (d:=24) kz Tryd.call7 (qbf s hl (hs_.move hW70.step nilM hW70.imm) (hgl.move hW70.step nilM hW70.imm) hb) ?_)
 rintro e_ w76 ⟨cs77,rfl,hr78,hs79⟩
 have hr80:=hr78.move (Step.refl _ Nil) nilM (hW70.laid (G:=F) hs79)
 obtain ⟨n81,s82,b83,l84,u85,A86,c87,A88,c89,A90,c91,xs92,ht98,hcs93,h94,h95,h96,h97⟩:=hr80.open_
 rw [hcs93] at hr80
 have hsm99:=h94.small
 have hsm100:=h95.small
 rw [hcs93]
 refine ⟨_,rfl,fun a101 hE102=>?_⟩
 have hW103:=hW70.next_nil hs79
 have hF104:=hW70.frN hs79
 refine qaj [2,3,4] [5,6,7] [(0,.v (.slice A2 s.length c2)),(4,.v (.bool true)),(25,.v (.agg #[.int .i64 n81,.slice A86 s82.length c87,.bool b83,.slice A88 l84.length c89,.slice A90 u85.length c91])),(26,.v (.bool true))] hW103 hE102 fun a105 hE106=>?_
 refine qal (qat hW103 hE106 (d:=5) (cs:=[.int .i64 0,.slice none 0 0,.bool false,.slice none 0 0,.slice none 0 0]) kz fun b107 a108 w109 hb110 hz111 hF112 hW113 hE114=>?_)
 refine qal (qan hW113 hE114 (oi:=1) (cs:=[.int .i64 n81,.slice A86 s82.length c87,.bool b83,.slice A88 l84.length c89,.slice A90 u85.length c91]) kz fun w115 hF116 hW117 hE118=>?_)
 refine qaj [7] [] [(0,.v (.slice A2 s.length c2)),(4,.v (.bool true)),(5,.p 1 0),(6,.v (.bool true))] hW117 hE118 fun a119 hE120=>?_
 refine qae (qab ?_)
 refine qad [0,1,2,3,4,5,6,7] kz ?_
 refine qaj [0] [1,2,3,4,5,6,7] [(4,.v (.bool true)),(5,.p 1 0),(6,.v (.bool true)),(28,.v (.slice A2 s.length c2))] hW117 hE120 fun a121 hE122=>?_
 refine qal (qak hE122 (f:=10) (vs:=[.slice A2 s.length c2]) (d:=29) kz Tryd.call10 (qbV s hl (hs_.move hW117.step nilM hW117.imm) (hgl.move hW117.step nilM hW117.imm) hb) ?_)
 rintro e_ w123 ⟨cs124,rfl,hr125,hs126⟩
 have hr127:=hr125.move (Step.refl _ Nil) nilM (hW117.laid (G:=F) hs126)
 obtain ⟨n128,s129,b130,l131,u132,A133,c134,A135,c136,A137,c138,xs139,ht145,hcs140,h141,h142,h143,h144⟩:=hr127.open_
 rw [hcs140] at hr127
 have hsm146:=h141.small
 have hsm147:=h142.small
 rw [hcs140]
 refine ⟨_,rfl,fun a148 hE149=>?_⟩
 have hW150:=hW117.next_nil hs126
 have hF151:=hW117.frN hs126
 refine qaj [2,3,4] [5,6,7] [(4,.v (.bool true)),(5,.p 1 0),(6,.v (.bool true)),(30,.v (.agg #[.int .i64 n128,.slice A133 s129.length c134,.bool b130,.slice A135 l131.length c136,.slice A137 u132.length c138])),(31,.v (.bool true))] hW150 hE149 fun a152 hE153=>?_
 refine qal (qat hW150 hE153 (d:=7) (cs:=[.int .i64 0,.slice none 0 0,.bool false,.slice none 0 0,.slice none 0 0]) kz fun b154 a155 w156 hb157 hz158 hF159 hW160 hE161=>?_)
 refine qal (qan hW160 hE161 (oi:=2) (cs:=[.int .i64 n128,.slice A133 s129.length c134,.bool b130,.slice A135 l131.length c136,.slice A137 u132.length c138]) kz fun w162 hF163 hW164 hE165=>?_)
 refine qaj [7] [] [(4,.v (.bool true)),(5,.p 1 0),(6,.v (.bool true)),(7,.p 2 0),(8,.v (.bool true))] hW164 hE165 fun a166 hE167=>?_
 refine qae (qab ?_)
 refine qaT 17 kz hW164 fun w168 hF169 hW170 hT171=>?_
 refine qaH [0,1,2,3,4,5,6,7,8,9,10,12] [(38,.v (.bool true)),(41,.v (.bool false)),(42,.v (.agg #[.int .i64 n81,.slice A86 s82.length c87,.bool b83,.slice A88 l84.length c89,.slice A90 u85.length c91])),(44,.v (.agg #[.int .i64 n128,.slice A133 s129.length c134,.bool b130,.slice A135 l131.length c136,.slice A137 u132.length c138]))] 6 (qaa qaf) (fun _ h=>h.cells) hT171 hE167 fun a172 hE173=>?_
 refine qaE (i:=11) kz (qak hE173 (f:=12) (vs:=[.agg #[.int .i64 n81,.slice A86 s82.length c87,.bool b83,.slice A88 l84.length c89,.slice A90 u85.length c91]]) (d:=43) kz Tryd.call12 (lGot _ _ _ _ _ (hr80.move (((((hF112.trans hF116).trans hF151).trans hF159).trans hF163).trans hF169).step immM (((((hF112.trans hF116).trans hF151).trans hF159).trans hF163).trans hF169).to') (Nat.le_refl _)) ?_)
 rintro e_ w177 ⟨cs176,rfl,hr175,hs174⟩
 have hr178:=hr175.move (Step.refl _ Nil) nilM (hW170.laid (G:=F) hs174)
 obtain ⟨n179,s180,b181,l182,u183,A184,c185,A186,c187,A188,c189,xs190,ht196,hcs191,h192,h193,h194,h195⟩:=hr178.open_
 rw [hcs191] at hr178
 have hsm197:=h192.small
 have hsm198:=h193.small
 rw [hcs191]
 refine ⟨_,rfl,fun a199 hE200=>?_⟩
 have hW201:=hW170.next_nil hs174
 have hF202:=hW170.frN hs174
 have hT203:=TT.ofW hF202 hW201
 refine ⟨fun _=>hT203,?_⟩
 refine qaE (i:=13) kz (qak hE200 (f:=12) (vs:=[.agg #[.int .i64 n128,.slice A133 s129.length c134,.bool b130,.slice A135 l131.length c136,.slice A137 u132.length c138]]) (d:=45) kz Tryd.call12 (lGot _ _ _ _ _ (hr127.move (((hF159.trans hF163).trans hF169).trans hF202).step immM (((hF159.trans hF163).trans hF169).trans hF202).to') (Nat.le_refl _)) ?_)
 rintro e_ w207 ⟨cs206,rfl,hr205,hs204⟩
 have hr208:=hr205.move (Step.refl _ Nil) nilM (hW201.laid (G:=F) hs204)
 obtain ⟨n209,s210,b211,l212,u213,A214,c215,A216,c217,A218,c219,xs220,ht226,hcs221,h222,h223,h224,h225⟩:=hr208.open_
 rw [hcs221] at hr208
 have hsm227:=h222.small
 have hsm228:=h223.small
 rw [hcs221]
 refine ⟨_,rfl,fun a229 hE230=>?_⟩
 have hW231:=hW201.next_nil hs204
 have hF232:=hW201.frN hs204
 have hT233:=TT.ofW (hF202.trans hF232) hW231
 refine ⟨fun _=>hT233,?_⟩
 refine qaE (i:=14) kz (qak hE230 (f:=11) (vs:=[.agg #[.int .i64 n179,.slice A184 s180.length c185,.bool b181,.slice A186 l182.length c187,.slice A188 u183.length c189],.agg #[.int .i64 n209,.slice A214 s210.length c215,.bool b211,.slice A216 l212.length c217,.slice A218 u213.length c219]]) (d:=46) kz Tryd.call11 (qgY _ _ _ _ _ _ (hr178.move hF232.step immM hF232.to') hr208 (Nat.le_refl _)) ?_)
 rintro e_ w235 ⟨rfl,hs234⟩
 refine ⟨_,rfl,fun a236 hE237=>?_⟩
 have hW238:=hW231.next_nil hs234
 have hF239:=hW231.frN hs234
 have hT240:=TT.ofW ((hF202.trans hF232).trans hF239) hW238
 refine ⟨fun _=>hT240,?_⟩
 refine qaH [15,16] [(48,.v (.bool true))] 1 (qaa qaf) (fun _ h=>h.cells) hT240 hE237 fun a241 hE242=>?_
 refine qaE (i:=17) kz (qbp [2] hW238.cells hE242 (env':=[(2,.v (.bool true))]) kz fun a243 hE244=>?_)
 refine ⟨fun h=>absurd rfl h,?_⟩
 refine qaL kz ?_ _
 refine qab ?_
 refine wp_ret ?_
 refine qaG hE244 hW238.cells (v:=.bool true) kz ?_
 exact ⟨rfl,hW238.step⟩
theorem qcq (s:Bs) (hl:¬ s.length ≤ 1000) {A2:Option Addr} {c2:Nat} (w:World) (F:Nat → Nat → Prop) (hs_:Octs w F A2 c2 s) :
  Calls Tryd.prog 3 #[.slice A2 s.length c2] w (qcd w (.bool true)):=by
 refine enter (n:=49) Tryd.func3 rfl Tryd.ntmps3 kz fun a hE=>?_
 have hW:=WOk.start w Nil
 have hsm2:=Slots.small hs_
 refine qaq [(0,.v (.slice A2 s.length c2))] hW hE fun a1 hE2=>?_
 refine wp_seq ?_
 refine qaq [(0,.v (.slice A2 s.length c2)),(11,.v (.bool (decide (((s.length:Nat):Int) > 2147483647))))] hW hE2 fun a3 hE4=>?_
 refine qaA hE4 (b:=decide (((s.length:Nat):Int) > 2147483647)) kz (fun hc5=>?_) (fun hc5=>?_)
 ·
  have hf6:=of_decide_eq_true hc5
  refine qaq [(2,.v (.bool true))] hW hE4 fun a7 hE8=>?_
  refine wp_ret ?_
  refine qax ?_
  refine qaG hE8 hW.cells (v:=.bool true) kz ?_
  exact ⟨rfl,hW.step⟩
 have hf9:=of_decide_eq_false hc5
 refine wp_skip ?_
 refine qab ?_
 refine wp_seq ?_
 refine qaq [(0,.v (.slice A2 s.length c2)),(14,.v (.bool (decide (((s.length:Nat):Int) > 1000))))] hW hE4 fun a10 hE11=>?_
 refine qbb hE11 (b:=decide (((s.length:Nat):Int) > 1000)) kz (decide_eq_true (by omega)) ?_
 refine qaq [(2,.v (.bool true))] hW hE11 fun a12 hE13=>?_
 refine wp_ret ?_
 refine qax ?_
 refine qaG hE13 hW.cells (v:=.bool true) kz ?_
 exact ⟨rfl,hW.step⟩
theorem qcE (s:Bs) {ue:TypeId} {ve:Value} {A2:Option Addr} {c2:Nat} (w:World) (F:Nat → Nat → Prop) (hs_:Octs w F A2 c2 s) (hgl:AtF w F 1 0 [.iface ue ve]):Calls Tryd.prog 3 #[.slice A2 s.length c2] w (qcd w (.bool true)):=by
 by_cases hl:s.length ≤ 1000
 ·cases hb:(qaK 0 (false,s)).1 with
  | true=>exact qco s hl w F hs_ hgl hb
  | false=>exact qcp s hl w F hs_ hgl hb
 exact qcq s hl w F hs_
end Go.Proofs.YtajibgahdkllkaaDoorR.ME