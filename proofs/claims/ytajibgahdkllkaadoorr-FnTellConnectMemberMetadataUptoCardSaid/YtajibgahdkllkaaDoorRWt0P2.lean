/- The texts of a claim, put together: the engine, the contracts, the law. Own work. -/
import Derived.Test.YtajibgahdkllkaaDoorRWt0P1
import Derived.Lib.EndianBits
import Derived.Scope
namespace Go.Proofs.YtajibgahdkllkaaDoorR.ME
open Go
open Go.RowKit
set_option linter.unusedVariables false
set_option linter.unusedSimpArgs false
set_option maxRecDepth 20000
theorem qjo (W:Fld → Tree → Bs) (A:Option Addr) (c:Nat) (l:List Fld) (v:Int) (flex:Bool) (ct:List Value) (t:Tree) (w:World) (F:Nat → Nat → Prop) (hW_:∀ cf f ct t w F,f ∈ l → FldR w F cf f → TreeR w F ct t → (W f t).length ≤ 1099511627776 → Calls Tryd.prog 82 #[.agg cf.toArray,.int .i64 v,.bool flex,.agg ct.toArray] w (qcF w 5 (W f t))) (hl:FldsR w F A c l) (ht:TreeR w F ct t) (hroom:(qdD W l v flex t).length ≤ 1099511627776) :
  Calls Tryd.prog 57 #[.slice A l.length c,.int .i64 v,.bool flex,.agg ct.toArray] w (qcF w 5 (qdD W l v flex t)):=by
 obtain ⟨xfs,h1,h2⟩:=hl.ex
 have hsm:=h1.small
 obtain ⟨n1,s2,b3,l4,u5,A6,c7,A8,c9,aV,aW,lY,rfl,rfl,lZ,l5,o6,l6⟩:=ht.open_
 have la:=lZ.small
 have lb:=l5.small
 have hkr:=qc6 l
 refine enter (n:=132) Tryd.func57 rfl Tryd.ntmps57 kz fun a hE=>?_
 have hW:=WOk.start w Nil
 refine qad [0,1] kz ?_
 refine qam (qaY hW hE (d:=7) (cs:=[.int .i64 n1,.slice A6 s2.length c7,.bool b3,.slice A8 l4.length c9,.slice aV u5.length aW]) kz fun cI o7 o9 l7 l9 ma cA jY=>?_)
 refine qah [1] [] [(0,.v (.slice A l.length c)),(1,.v (.int .i64 v)),(2,.v (.bool flex)),(7,.p 0 0)] cA jY fun pa jZ=>?_
 refine qae (qab ?_)
 refine qan [(0,.v (.slice A l.length c)),(1,.v (.int .i64 v)),(2,.v (.bool flex)),(7,.p 0 0),(9,.v (.slice none 0 0)),(10,.v (.slice none 0 0))] cA jZ fun pb j0=>?_
 refine qan [(0,.v (.slice A l.length c)),(1,.v (.int .i64 v)),(2,.v (.bool flex)),(7,.p 0 0),(9,.v (.slice none 0 0)),(10,.v (.slice none 0 0)),(11,.v (.int .i64 0))] cA j0 fun pc j1=>?_
 refine wp_seq ?_
 refine qan [(0,.v (.slice A l.length c)),(1,.v (.int .i64 v)),(2,.v (.bool flex)),(7,.p 0 0),(9,.v (.slice none 0 0)),(10,.v (.slice none 0 0)),(11,.v (.int .i64 0)),(21,.v (.slice A l.length c)),(22,.v (.int .i64 ((l.length:Nat):Int))),(23,.v (.int .i64 0))] cA j1 fun pd j2=>?_
 refine wp_block ?_
 have eL:=cA.addNil 5 1
 have mc:=cA.frNil 5 1
 have htot:(qaK W l v (Tree.mk n1 s2 b3 l4 u5) 0).length ≤ 1099511627776:=by have h_:=hroom; rw [qdD,List.length_append] at h_; omega
 refine wp_loop_ghost (fun n_ a_ w_=>∃ (k:Nat) (A_:Option Addr) (c_:Nat) (dn:Bs),n_ = l.length - k ∧ k ≤ l.length ∧ (dn ++ qaK W (l.drop k) v (Tree.mk n1 s2 b3 l4 u5) k = qaK W l v (Tree.mk n1 s2 b3 l4 u5) 0) ∧ LInv eL 132 [⟨cI,0,[.int .i64 n1,.slice A6 s2.length c7,.bool b3,.slice A8 l4.length c9,.slice aV u5.length aW],true⟩] [brow A_ c_ 5 dn] [(0,.v (.slice A l.length c)),(1,.v (.int .i64 v)),(2,.v (.bool flex)),(7,.p 0 0),(9,.v (.slice A_ dn.length c_)),(10,.v (.slice none 0 0)),(11,.v (.int .i64 0)),(21,.v (.slice A l.length c)),(22,.v (.int .i64 ((l.length:Nat):Int))),(23,.v (.int .i64 ((k:Nat):Int)))] a_ w_) (l.length) ⟨0,none,0,[],by omega,by omega,rfl,j2.pk,eL,Fr.refl _ _ _⟩ ?_
 rintro pe pf pg ⟨k,A_,c_,dn,md,me,hB,j3,az,ek⟩
 refine qan [(0,.v (.slice A l.length c)),(1,.v (.int .i64 v)),(2,.v (.bool flex)),(7,.p 0 0),(9,.v (.slice A_ dn.length c_)),(10,.v (.slice none 0 0)),(11,.v (.int .i64 0)),(21,.v (.slice A l.length c)),(22,.v (.int .i64 ((l.length:Nat):Int))),(23,.v (.int .i64 ((k:Nat):Int))),(24,.v (.bool (decide (((k:Nat):Int) < ((l.length:Nat):Int)))))] az j3 fun ph em=>?_
 refine wp_seq ?_
 refine qau em (b:=decide (((k:Nat):Int) < ((l.length:Nat):Int))) kz (fun eo=>?_) (fun eo=>?_)
 ·
  have mf:=of_decide_eq_true eo
  refine wp_skip ?_
  refine qab ?_
  refine wp_seq ?_
  refine wp_block ?_
  refine qad [0,1,2,3,4,5] kz ?_
  refine qah [0] [1,2,3,4,5] [(0,.v (.slice A l.length c)),(1,.v (.int .i64 v)),(2,.v (.bool flex)),(7,.p 0 0),(9,.v (.slice A_ dn.length c_)),(10,.v (.slice none 0 0)),(11,.v (.int .i64 0)),(21,.v (.slice A l.length c)),(22,.v (.int .i64 ((l.length:Nat):Int))),(23,.v (.int .i64 ((k:Nat):Int))),(25,.v (.int .i64 ((k:Nat):Int)))] az em fun pi j4=>?_
  obtain ⟨mg,mh,j5,mi,dC⟩:=Slots.get h1 (i:=k) (by omega)
  obtain ⟨mj,bk⟩:∃ x,l[k]? = some x:=⟨_,List.getElem?_eq_getElem (by omega)⟩
  have ep:=h2 k mj bk
  obtain ⟨aA,aB,aC,aD,ax,aE,aF,aG,dA,dB,ml,rfl,dD,mn,pj⟩:=ep.open_
  rw [dD] at ep
  have lc:=mn.small
  rw [dD] at dC
  refine qam (qaz j4 (t:=30) (A:=A) (m:=l.length) (q:=((k:Nat):Int)) (d:=26) kz (e:=60) (size:=8) (bytes:=80) kz j5 rfl (by omega) fun pl j6=>?_)
  refine qam (qaE j6 (t:=60) (b:=mg) (o:=mh + k * 8) (d:=27) kz (cs:=[.int .i64 aA,.int .i64 aB,.int .i64 aC,.int .i64 aD,.int .i64 ax,.int .i64 aE,.int .i64 aF,.slice dA aG.length dB]) (v:=.agg #[.int .i64 aA,.int .i64 aB,.int .i64 aC,.int .i64 aD,.int .i64 ax,.int .i64 aE,.int .i64 aF,.slice dA aG.length dB]) kz (AtF.move dC az.step nilM qaZ).at_ fun pm j7=>?_)
  refine qam (qaO az j7 (d:=13) (cs:=[.int .i64 0,.int .i64 0,.int .i64 0,.int .i64 0,.int .i64 0,.int .i64 0,.int .i64 0,.slice none 0 0]) kz fun pn po pp mo mp eu eM j8=>?_)
  refine qah [4] [5] [(0,.v (.slice A l.length c)),(1,.v (.int .i64 v)),(2,.v (.bool flex)),(7,.p 0 0),(9,.v (.slice A_ dn.length c_)),(10,.v (.slice none 0 0)),(11,.v (.int .i64 0)),(12,.v (.int .i64 ((k:Nat):Int))),(13,.p 1 0),(21,.v (.slice A l.length c)),(22,.v (.int .i64 ((l.length:Nat):Int))),(23,.v (.int .i64 ((k:Nat):Int))),(27,.v (.agg #[.int .i64 aA,.int .i64 aB,.int .i64 aC,.int .i64 aD,.int .i64 ax,.int .i64 aE,.int .i64 aF,.slice dA aG.length dB]))] eM j8 fun pq j9=>?_
  refine qam (qay eM j9 (oi:=1) (cs:=[.int .i64 aA,.int .i64 aB,.int .i64 aC,.int .i64 aD,.int .i64 ax,.int .i64 aE,.int .i64 aF,.slice dA aG.length dB]) kz fun pr ew bI ka=>?_)
  refine qae (qab ?_)
  refine qad [0,1,2,3,4,5,6,7] kz ?_
  refine qah [0,1,2,3] [4,5,6,7] [(0,.v (.slice A l.length c)),(1,.v (.int .i64 v)),(2,.v (.bool flex)),(7,.p 0 0),(9,.v (.slice A_ dn.length c_)),(10,.v (.slice none 0 0)),(11,.v (.int .i64 0)),(12,.v (.int .i64 ((k:Nat):Int))),(13,.p 1 0),(21,.v (.slice A l.length c)),(22,.v (.int .i64 ((l.length:Nat):Int))),(23,.v (.int .i64 ((k:Nat):Int))),(31,.v (.bool (decide (ax < 0))))] bI ka fun pt eN=>?_
  refine (Bool.eq_false_or_eq_true (decide (ax < 0))).elim (fun cJ=>?_) (fun cJ=>?_)
  ·
   have mq:=of_decide_eq_true cJ
   have kd:=eN.cast (env':=[(0,.v (.slice A l.length c)),(1,.v (.int .i64 v)),(2,.v (.bool flex)),(7,.p 0 0),(9,.v (.slice A_ dn.length c_)),(10,.v (.slice none 0 0)),(11,.v (.int .i64 0)),(12,.v (.int .i64 ((k:Nat):Int))),(13,.p 1 0),(21,.v (.slice A l.length c)),(22,.v (.int .i64 ((l.length:Nat):Int))),(23,.v (.int .i64 ((k:Nat):Int))),(31,.v (.bool true))]) (by rw [cJ])
   refine qah [4,5] [6,7] [(0,.v (.slice A l.length c)),(1,.v (.int .i64 v)),(2,.v (.bool flex)),(7,.p 0 0),(9,.v (.slice A_ dn.length c_)),(10,.v (.slice none 0 0)),(11,.v (.int .i64 0)),(12,.v (.int .i64 ((k:Nat):Int))),(13,.p 1 0),(21,.v (.slice A l.length c)),(22,.v (.int .i64 ((l.length:Nat):Int))),(23,.v (.int .i64 ((k:Nat):Int))),(31,.v (.bool true)),(32,.v (.agg #[.int .i64 aA,.int .i64 aB,.int .i64 aC,.int .i64 aD,.int .i64 ax,.int .i64 aE,.int .i64 aF,.slice dA aG.length dB])),(33,.v (.int .i64 v))] bI kd fun pu eO=>?_
   refine qam (qai eO (f:=49) (vs:=[.agg #[.int .i64 aA,.int .i64 aB,.int .i64 aC,.int .i64 aD,.int .i64 ax,.int .i64 aE,.int .i64 aF,.slice dA aG.length dB],.int .i64 v]) (d:=34) kz Tryd.call49 (sHas aA aB aC aD ax aE aF aG _ _ v _) ?_)
   rintro e_ mr ⟨rfl,dE⟩
   refine ⟨_,rfl,fun mt eP=>?_⟩
   have bP:=bI.next_nil dE
   have dF:=bI.frN dE
   refine qah [7] [] [(0,.v (.slice A l.length c)),(1,.v (.int .i64 v)),(2,.v (.bool flex)),(7,.p 0 0),(9,.v (.slice A_ dn.length c_)),(10,.v (.slice none 0 0)),(11,.v (.int .i64 0)),(12,.v (.int .i64 ((k:Nat):Int))),(13,.p 1 0),(21,.v (.slice A l.length c)),(22,.v (.int .i64 ((l.length:Nat):Int))),(23,.v (.int .i64 ((k:Nat):Int))),(35,.v (.bool (Fld.has (Fld.mk aA aB aC aD ax aE aF aG) v)))] bP eP fun mu cK=>?_
   refine qae (qab ?_)
   refine qau cK (b:=Fld.has (Fld.mk aA aB aC aD ax aE aF aG) v) kz (fun eQ=>?_) (fun eQ=>?_)
   ·
    refine qet 9 kz bP fun mw eR bn eS=>?_
    refine qaH [0,1,2,3,4,5] [(0,.v (.slice A l.length c)),(1,.v (.int .i64 v)),(2,.v (.bool flex)),(7,.p 0 0),(9,.v (.slice A_ dn.length c_)),(10,.v (.slice none 0 0)),(11,.v (.int .i64 0)),(21,.v (.slice A l.length c)),(22,.v (.int .i64 ((l.length:Nat):Int))),(23,.v (.int .i64 ((k:Nat):Int))),(36,.v (.slice A_ dn.length c_)),(37,.v (.agg #[.int .i64 aA,.int .i64 aB,.int .i64 aC,.int .i64 aD,.int .i64 ax,.int .i64 aE,.int .i64 aF,.slice dA aG.length dB])),(38,.v (.int .i64 v)),(39,.v (.bool flex)),(40,.v (.agg #[.int .i64 n1,.slice A6 s2.length c7,.bool b3,.slice A8 l4.length c9,.slice aV u5.length aW])),(41,.v (.int .i64 ((k:Nat):Int)))] 4 (qac (qaa (qaa (qac (qaa qaf))))) (fun _ h=>h.cells) eS cK fun mx eU=>?_
    refine qaA (i:=6) kz (qai eU (f:=48) (vs:=[.agg #[.int .i64 n1,.slice A6 s2.length c7,.bool b3,.slice A8 l4.length c9,.slice aV u5.length aW],.int .i64 ((k:Nat):Int)]) (d:=42) kz Tryd.call48 (sAt _ _ k _ _ (ht.move bn.step nilM bn.imm)) ?_)
    rintro e_ my ⟨ld,rfl,eV,bo⟩
    have cL:=eV.move bo nilM (fun b o h_ hb_=>bn.laid (G:=F) bo b o (.inl h_) (Nat.lt_of_lt_of_le hb_ bo.size))
    obtain ⟨ey,ez,eB,eC,eD,eE,eF,eG,eH,eI,eJ,lf,lg,cM,ke,kf,mz,mA⟩:=cL.open_
    rw [cM] at cL
    have kg:=ke.small
    have kh:=kf.small
    rw [cM]
    refine ⟨_,rfl,fun mB eW=>?_⟩
    have bQ:=bn.next_nil bo
    have bR:=bn.frN bo
    have eX:=TT.ofW bR bQ
    refine ⟨fun _=>eX,?_⟩
    refine qaA (i:=7) kz (qai eW (f:=82) (vs:=[.agg #[.int .i64 aA,.int .i64 aB,.int .i64 aC,.int .i64 aD,.int .i64 ax,.int .i64 aE,.int .i64 aF,.slice dA aG.length dB],.int .i64 v,.bool flex,.agg #[.int .i64 ey,.slice eE ez.length eF,.bool eB,.slice eG eC.length eH,.slice eI eD.length eJ]]) (d:=43) kz Tryd.call82 ( hW_ _ _ _ _ _ _ (List.mem_of_getElem? bk) (ep.move bQ.step nilM bQ.imm) cL (by have h_:=congrArg List.length hB; rw [qdi bk ‹_› ‹_›] at h_; simp only [List.length_append] at h_; omega)) ?_)
    rintro e_ mC ⟨cN,cO,rfl,eY,eZ⟩
    refine ⟨_,rfl,fun mD e9=>?_⟩
    obtain ⟨bS,cP⟩:=bQ.frFresh eZ (brow cN cO 5 (W (Fld.mk aA aB aC aD ax aE aF aG) (Tree.at_ (Tree.mk n1 s2 b3 l4 u5) k))) (Nat.le_refl _) eY
    have ki:(W (Fld.mk aA aB aC aD ax aE aF aG) (Tree.at_ (Tree.mk n1 s2 b3 l4 u5) k)).length ≤ 1099511627776:=by have h_:=congrArg List.length hB; rw [qdi bk ‹_› ‹_›] at h_; simp only [List.length_append] at h_; omega
    have fa:=TT.ofW (bR.trans cP) bS
    refine ⟨fun _=>fa,?_⟩
    refine qaA (i:=8) kz (qaW bS e9 (k:=0) (d:=44) (t:=22) (e:=5) (size:=1) (bytes:=1) (A:=A_) (As:=cN) (m0:=dn.length) (c:=c_) (m:=((W (Fld.mk aA aB aC aD ax aE aF aG) (Tree.at_ (Tree.mk n1 s2 b3 l4 u5) k)).length)) (cs:=cO) (xs:=(bc dn)) (news:=bc (W (Fld.mk aA aB aC aD ax aE aF aG) (Tree.at_ (Tree.mk n1 s2 b3 l4 u5) k))) kz kz rfl (qbB (bS.own 1 _ rfl) (qch _)) (qbN (bS.own 1 _ rfl)) (by have h_:=congrArg List.length hB; rw [qdi bk ‹_› ‹_›] at h_; simp only [List.length_append] at h_ ⊢; omega) fun aX aY mF mG dG fb fe=>?_)
    have ff:(⟨aX,aY,5,1,dn.length + (W (Fld.mk aA aB aC aD ax aE aF aG) (Tree.at_ (Tree.mk n1 s2 b3 l4 u5) k)).length,bc dn ++ bc (W (Fld.mk aA aB aC aD ax aE aF aG) (Tree.at_ (Tree.mk n1 s2 b3 l4 u5) k))⟩:Rw) = brow aX aY 5 (dn ++ (W (Fld.mk aA aB aC aD ax aE aF aG) (Tree.at_ (Tree.mk n1 s2 b3 l4 u5) k))):=qbq (rfl) rfl
    obtain ⟨bT,dH⟩:=fb.rowEq 0 [brow aX aY 5 (dn ++ (W (Fld.mk aA aB aC aD ax aE aF aG) (Tree.at_ (Tree.mk n1 s2 b3 l4 u5) k))),brow cN cO 5 (W (Fld.mk aA aB aC aD ax aE aF aG) (Tree.at_ (Tree.mk n1 s2 b3 l4 u5) k))] ff
    have fg:=EnvOk.pick fe (ks:=[0,1,2,7,9,10,11,21,22,23,36,37,38,39,40,41,42,43,44]) (env':=[(0,.v (.slice A l.length c)),(1,.v (.int .i64 v)),(2,.v (.bool flex)),(7,.p 0 0),(9,.v (.slice A_ dn.length c_)),(10,.v (.slice none 0 0)),(11,.v (.int .i64 0)),(21,.v (.slice A l.length c)),(22,.v (.int .i64 ((l.length:Nat):Int))),(23,.v (.int .i64 ((k:Nat):Int))),(36,.v (.slice A_ dn.length c_)),(37,.v (.agg #[.int .i64 aA,.int .i64 aB,.int .i64 aC,.int .i64 aD,.int .i64 ax,.int .i64 aE,.int .i64 aF,.slice dA aG.length dB])),(38,.v (.int .i64 v)),(39,.v (.bool flex)),(40,.v (.agg #[.int .i64 n1,.slice A6 s2.length c7,.bool b3,.slice A8 l4.length c9,.slice aV u5.length aW])),(41,.v (.int .i64 ((k:Nat):Int))),(42,.v (.agg #[.int .i64 ey,.slice eE ez.length eF,.bool eB,.slice eG eC.length eH,.slice eI eD.length eJ])),(43,.v (.slice cN ((W (Fld.mk aA aB aC aD ax aE aF aG) (Tree.at_ (Tree.mk n1 s2 b3 l4 u5) k)).length) cO)),(44,.v (.slice aX (dn.length + (W (Fld.mk aA aB aC aD ax aE aF aG) (Tree.at_ (Tree.mk n1 s2 b3 l4 u5) k)).length) aY))]) kz
    have fh:=fg.cast (env':=[(0,.v (.slice A l.length c)),(1,.v (.int .i64 v)),(2,.v (.bool flex)),(7,.p 0 0),(9,.v (.slice A_ dn.length c_)),(10,.v (.slice none 0 0)),(11,.v (.int .i64 0)),(21,.v (.slice A l.length c)),(22,.v (.int .i64 ((l.length:Nat):Int))),(23,.v (.int .i64 ((k:Nat):Int))),(36,.v (.slice A_ dn.length c_)),(37,.v (.agg #[.int .i64 aA,.int .i64 aB,.int .i64 aC,.int .i64 aD,.int .i64 ax,.int .i64 aE,.int .i64 aF,.slice dA aG.length dB])),(38,.v (.int .i64 v)),(39,.v (.bool flex)),(40,.v (.agg #[.int .i64 n1,.slice A6 s2.length c7,.bool b3,.slice A8 l4.length c9,.slice aV u5.length aW])),(41,.v (.int .i64 ((k:Nat):Int))),(42,.v (.agg #[.int .i64 ey,.slice eE ez.length eF,.bool eB,.slice eG eC.length eH,.slice eI eD.length eJ])),(43,.v (.slice cN ((W (Fld.mk aA aB aC aD ax aE aF aG) (Tree.at_ (Tree.mk n1 s2 b3 l4 u5) k)).length) cO)),(44,.v (.slice aX ((dn ++ (W (Fld.mk aA aB aC aD ax aE aF aG) (Tree.at_ (Tree.mk n1 s2 b3 l4 u5) k))).length) aY))]) (by simp only [List.length_append,List.length_cons,List.length_nil,Nat.zero_add])
    have fi:=TT.ofW (((bR.trans cP).trans dG).trans dH) bT
    refine ⟨fun _=>fi,?_⟩
    refine qaA (i:=9) kz (qa6 [0,1,2,7,9,10,11,21,22,23] bT.cells fh (env':=[(0,.v (.slice A l.length c)),(1,.v (.int .i64 v)),(2,.v (.bool flex)),(7,.p 0 0),(9,.v (.slice aX ((dn ++ (W (Fld.mk aA aB aC aD ax aE aF aG) (Tree.at_ (Tree.mk n1 s2 b3 l4 u5) k))).length) aY)),(10,.v (.slice none 0 0)),(11,.v (.int .i64 0)),(21,.v (.slice A l.length c)),(22,.v (.int .i64 ((l.length:Nat):Int))),(23,.v (.int .i64 ((k:Nat):Int)))]) kz fun mH fj=>?_)
    refine ⟨fun h=>absurd rfl h,?_⟩
    refine qaG kz ?_ _
    refine qar ?_
    refine qab ?_
    refine qaw [0,1] kz ?_
    refine qah [0,1] [] [(0,.v (.slice A l.length c)),(1,.v (.int .i64 v)),(2,.v (.bool flex)),(7,.p 0 0),(9,.v (.slice aX ((dn ++ (W (Fld.mk aA aB aC aD ax aE aF aG) (Tree.at_ (Tree.mk n1 s2 b3 l4 u5) k))).length) aY)),(10,.v (.slice none 0 0)),(11,.v (.int .i64 0)),(21,.v (.slice A l.length c)),(22,.v (.int .i64 ((l.length:Nat):Int))),(23,.v (.int .i64 (IntKind.i64.wrap (((k:Nat):Int) + 1))))] bT fj fun mI fk=>?_
    refine qae (qab ?_)
    obtain ⟨dI,fl,fm⟩:=bT.cutB fk 1 [⟨cI,0,[.int .i64 n1,.slice A6 s2.length c7,.bool b3,.slice A8 l4.length c9,.slice aV u5.length aW],true⟩] [(0,.v (.slice A l.length c)),(1,.v (.int .i64 v)),(2,.v (.bool flex)),(7,.p 0 0),(9,.v (.slice aX ((dn ++ (W (Fld.mk aA aB aC aD ax aE aF aG) (Tree.at_ (Tree.mk n1 s2 b3 l4 u5) k))).length) aY)),(10,.v (.slice none 0 0)),(11,.v (.int .i64 0)),(21,.v (.slice A l.length c)),(22,.v (.int .i64 ((l.length:Nat):Int))),(23,.v (.int .i64 (IntKind.i64.wrap (((k:Nat):Int) + 1))))]
    obtain ⟨fo,fq⟩:=fl.cutR 1 [brow aX aY 5 (dn ++ (W (Fld.mk aA aB aC aD ax aE aF aG) (Tree.at_ (Tree.mk n1 s2 b3 l4 u5) k)))]
    have fr:IntKind.i64.wrap (((k:Nat):Int) + 1) = ((k + 1:Nat):Int):=qaM (by omega)
    rw [fr] at dI
    exact ⟨l.length - (k + 1),by omega,k + 1,aX,aY,dn ++ (W (Fld.mk aA aB aC aD ax aE aF aG) (Tree.at_ (Tree.mk n1 s2 b3 l4 u5) k)),rfl,by omega,by rw [List.append_assoc,← qdi bk ‹_› ‹_›]; exact hB,dI.pk,fo,((((((((((ek.trans eu).trans ew).trans dF).trans eR).trans bR).trans cP).trans dG).trans dH).trans fm).trans fq)⟩
   refine wp_skip ?_
   refine qar ?_
   refine qab ?_
   refine qaw [0,1] kz ?_
   refine qah [0,1] [] [(0,.v (.slice A l.length c)),(1,.v (.int .i64 v)),(2,.v (.bool flex)),(7,.p 0 0),(9,.v (.slice A_ dn.length c_)),(10,.v (.slice none 0 0)),(11,.v (.int .i64 0)),(21,.v (.slice A l.length c)),(22,.v (.int .i64 ((l.length:Nat):Int))),(23,.v (.int .i64 (IntKind.i64.wrap (((k:Nat):Int) + 1))))] bP cK fun mJ ft=>?_
   refine qae (qab ?_)
   obtain ⟨dJ,fu,fv⟩:=bP.cutB ft 1 [⟨cI,0,[.int .i64 n1,.slice A6 s2.length c7,.bool b3,.slice A8 l4.length c9,.slice aV u5.length aW],true⟩] [(0,.v (.slice A l.length c)),(1,.v (.int .i64 v)),(2,.v (.bool flex)),(7,.p 0 0),(9,.v (.slice A_ dn.length c_)),(10,.v (.slice none 0 0)),(11,.v (.int .i64 0)),(21,.v (.slice A l.length c)),(22,.v (.int .i64 ((l.length:Nat):Int))),(23,.v (.int .i64 (IntKind.i64.wrap (((k:Nat):Int) + 1))))]
   have fw:IntKind.i64.wrap (((k:Nat):Int) + 1) = ((k + 1:Nat):Int):=qaM (by omega)
   rw [fw] at dJ
   exact ⟨l.length - (k + 1),by omega,k + 1,A_,c_,dn,rfl,by omega,by rw [← qgi bk ‹_›]; exact hB,dJ.pk,fu,((((ek.trans eu).trans ew).trans dF).trans fv)⟩
  have lh:=of_decide_eq_false cJ
  have fx:=eN.cast (env':=[(0,.v (.slice A l.length c)),(1,.v (.int .i64 v)),(2,.v (.bool flex)),(7,.p 0 0),(9,.v (.slice A_ dn.length c_)),(10,.v (.slice none 0 0)),(11,.v (.int .i64 0)),(12,.v (.int .i64 ((k:Nat):Int))),(13,.p 1 0),(21,.v (.slice A l.length c)),(22,.v (.int .i64 ((l.length:Nat):Int))),(23,.v (.int .i64 ((k:Nat):Int))),(31,.v (.bool false))]) (by rw [cJ])
  refine qah [4,5,6,7] [] [(0,.v (.slice A l.length c)),(1,.v (.int .i64 v)),(2,.v (.bool flex)),(7,.p 0 0),(9,.v (.slice A_ dn.length c_)),(10,.v (.slice none 0 0)),(11,.v (.int .i64 0)),(12,.v (.int .i64 ((k:Nat):Int))),(13,.p 1 0),(21,.v (.slice A l.length c)),(22,.v (.int .i64 ((l.length:Nat):Int))),(23,.v (.int .i64 ((k:Nat):Int))),(35,.v (.bool false))] bI fx fun mK dK=>?_
  refine qae (qab ?_)
  refine qap dK (b:=false) kz rfl ?_
  refine wp_skip ?_
  refine qar ?_
  refine qab ?_
  refine qaw [0,1] kz ?_
  refine qah [0,1] [] [(0,.v (.slice A l.length c)),(1,.v (.int .i64 v)),(2,.v (.bool flex)),(7,.p 0 0),(9,.v (.slice A_ dn.length c_)),(10,.v (.slice none 0 0)),(11,.v (.int .i64 0)),(21,.v (.slice A l.length c)),(22,.v (.int .i64 ((l.length:Nat):Int))),(23,.v (.int .i64 (IntKind.i64.wrap (((k:Nat):Int) + 1))))] bI dK fun mL fy=>?_
  refine qae (qab ?_)
  obtain ⟨dL,fz,fA⟩:=bI.cutB fy 1 [⟨cI,0,[.int .i64 n1,.slice A6 s2.length c7,.bool b3,.slice A8 l4.length c9,.slice aV u5.length aW],true⟩] [(0,.v (.slice A l.length c)),(1,.v (.int .i64 v)),(2,.v (.bool flex)),(7,.p 0 0),(9,.v (.slice A_ dn.length c_)),(10,.v (.slice none 0 0)),(11,.v (.int .i64 0)),(21,.v (.slice A l.length c)),(22,.v (.int .i64 ((l.length:Nat):Int))),(23,.v (.int .i64 (IntKind.i64.wrap (((k:Nat):Int) + 1))))]
  have fB:IntKind.i64.wrap (((k:Nat):Int) + 1) = ((k + 1:Nat):Int):=qaM (by omega)
  rw [fB] at dL
  exact ⟨l.length - (k + 1),by omega,k + 1,A_,c_,dn,rfl,by omega,by rw [← qgh bk ‹_›]; exact hB,dL.pk,fz,(((ek.trans eu).trans ew).trans fA)⟩
 have li:=of_decide_eq_false eo
 refine wp_exit ?_
 refine qaB ?_
 refine qaB ?_
 refine qaQ ?_
 refine qab ?_
 refine wp_seq ?_
 refine qan [(0,.v (.slice A l.length c)),(1,.v (.int .i64 v)),(2,.v (.bool flex)),(7,.p 0 0),(9,.v (.slice A_ dn.length c_)),(10,.v (.slice none 0 0)),(11,.v (.int .i64 0)),(47,.v (.bool (!flex)))] az em fun mM cQ=>?_
 refine qau cQ (b:=!flex) kz (fun bU=>?_) (fun bU=>?_)
 ·
  refine qan [(8,.v (.slice A_ dn.length c_))] az cQ fun mN fC=>?_
  refine wp_ret ?_
  refine qal ?_
  refine qaD fC az.cells (v:=.slice A_ dn.length c_) kz ?_
  exact qa2 az (k:=0) rfl (by rw [show flex = false by simpa using bU,qg2,← hB,qe2 (by omega),List.append_nil])
 refine wp_skip ?_
 refine qab ?_
 refine wp_seq ?_
 refine qad [0,1,2,3] kz ?_
 refine qah [0] [1,2,3] [(0,.v (.slice A l.length c)),(1,.v (.int .i64 v)),(2,.v (.bool flex)),(7,.p 0 0),(9,.v (.slice A_ dn.length c_)),(10,.v (.slice none 0 0)),(11,.v (.int .i64 0)),(49,.v (.slice A l.length c))] az cQ fun mO fD=>?_
 refine qam (qai fD (f:=76) (vs:=[.slice A l.length c]) (d:=50) kz Tryd.call76 (qik _ _ l _ _ ⟨xfs,(h1.move az.step nilM az.imm),(fun i_ x_ h_=>((h2 i_ x_ h_).move az.step nilM az.imm))⟩) ?_)
 rintro e_ mQ ⟨rfl,dM⟩
 refine ⟨_,rfl,fun mR fE=>?_⟩
 have dN:=az.next_nil dM
 have lj:=az.frN dM
 refine qah [2,3] [] [(0,.v (.slice A l.length c)),(1,.v (.int .i64 v)),(2,.v (.bool flex)),(7,.p 0 0),(9,.v (.slice A_ dn.length c_)),(10,.v (.slice none 0 0)),(11,.v (.int .i64 0)),(51,.v (.int .i64 (IntKind.i64.wrap (qat l)))),(52,.v (.int .i64 0))] dN fE fun mS dO=>?_
 refine qae (qab ?_)
 refine wp_block ?_
 have hdn:dn = qaK W l v (Tree.mk n1 s2 b3 l4 u5) 0:=by rw [← hB,qe2 (by omega),List.append_nil]
 have dP:dn = (qaK W l v (Tree.mk n1 s2 b3 l4 u5) 0):=hdn
 have fF:=congrArg (brow A_ c_ 5) dP
 obtain ⟨dQ,lm⟩:=dN.rowEq 0 [brow A_ c_ 5 (qaK W l v (Tree.mk n1 s2 b3 l4 u5) 0)] fF
 rw [dP] at dO
 have hfx:flex = true:=by simpa using bU
 have htot2:(qaK W l v (Tree.mk n1 s2 b3 l4 u5) 0).length + (uv (qaN W l (Tree.mk n1 s2 b3 l4 u5) (qat l).toNat + (qag l u5).length)).length + ((qaC W l (Tree.mk n1 s2 b3 l4 u5) (qat l).toNat).length + (qaU (qag l u5)).length) ≤ 1099511627776:=by have h_:=hroom; rw [hfx,qee] at h_; simpa only [List.length_append] using h_
 have hmono:=fun i (h_:i ≤ (qat l).toNat)=>qgj W l (Tree.mk n1 s2 b3 l4 u5) h_
 have hcnt:=qfJ W l (Tree.mk n1 s2 b3 l4 u5)
 have hknn:=qg3 l
 have fG:=EnvOk.pick dO (ks:=[0,1,2,7,9,10,11,51,52]) (env':=[(0,.v (.slice A l.length c)),(1,.v (.int .i64 v)),(2,.v (.bool flex)),(7,.p 0 0),(9,.v (.slice A_ ((qaK W l v (Tree.mk n1 s2 b3 l4 u5) 0).length) c_)),(10,.v (.slice none 0 0)),(11,.v (.int .i64 0)),(51,.v (.int .i64 (IntKind.i64.wrap (qat l)))),(52,.v (.int .i64 0))]) kz
 have fH:=fG.cast (env':=[(0,.v (.slice A l.length c)),(1,.v (.int .i64 v)),(2,.v (.bool flex)),(7,.p 0 0),(9,.v (.slice A_ ((qaK W l v (Tree.mk n1 s2 b3 l4 u5) 0).length) c_)),(10,.v (.slice none 0 0)),(11,.v (.int .i64 0)),(51,.v (.int .i64 (((qat l).toNat:Nat):Int))),(52,.v (.int .i64 0))]) (by rw [hknn])
 have dR:=dQ.addNil 5 1
 have ln:=dQ.frNil 5 1
 refine wp_loop_ghost (fun n_ a_ w_=>∃ (k2:Nat) (A2_:Option Addr) (c2_:Nat),n_ = (qat l).toNat - k2 ∧ k2 ≤ (qat l).toNat ∧ LInv dR 132 [⟨cI,0,[.int .i64 n1,.slice A6 s2.length c7,.bool b3,.slice A8 l4.length c9,.slice aV u5.length aW],true⟩] [brow A_ c_ 5 (qaK W l v (Tree.mk n1 s2 b3 l4 u5) 0),brow A2_ c2_ 5 (qaC W l (Tree.mk n1 s2 b3 l4 u5) k2)] [(0,.v (.slice A l.length c)),(1,.v (.int .i64 v)),(2,.v (.bool flex)),(7,.p 0 0),(9,.v (.slice A_ ((qaK W l v (Tree.mk n1 s2 b3 l4 u5) 0).length) c_)),(10,.v (.slice A2_ ((qaC W l (Tree.mk n1 s2 b3 l4 u5) k2).length) c2_)),(11,.v (.int .i64 ((qaN W l (Tree.mk n1 s2 b3 l4 u5) k2:Nat):Int))),(51,.v (.int .i64 (((qat l).toNat:Nat):Int))),(52,.v (.int .i64 ((k2:Nat):Int)))] a_ w_) ((qat l).toNat) ⟨0,none,0,by omega,by omega,fH.pk,dR,Fr.refl _ _ _⟩ ?_
 rintro mT mU mV ⟨k2,A2_,c2_,lp,lq,fI,ao,fJ⟩
 refine qan [(0,.v (.slice A l.length c)),(1,.v (.int .i64 v)),(2,.v (.bool flex)),(7,.p 0 0),(9,.v (.slice A_ ((qaK W l v (Tree.mk n1 s2 b3 l4 u5) 0).length) c_)),(10,.v (.slice A2_ ((qaC W l (Tree.mk n1 s2 b3 l4 u5) k2).length) c2_)),(11,.v (.int .i64 ((qaN W l (Tree.mk n1 s2 b3 l4 u5) k2:Nat):Int))),(51,.v (.int .i64 (((qat l).toNat:Nat):Int))),(52,.v (.int .i64 ((k2:Nat):Int))),(53,.v (.bool (decide (((k2:Nat):Int) < (((qat l).toNat:Nat):Int)))))] ao fI fun mW cR=>?_
 refine wp_seq ?_
 refine qau cR (b:=decide (((k2:Nat):Int) < (((qat l).toNat:Nat):Int))) kz (fun cS=>?_) (fun cS=>?_)
 ·
  have lr:=of_decide_eq_true cS
  refine wp_skip ?_
  refine qab ?_
  refine wp_seq ?_
  refine wp_block ?_
  refine qan [(0,.v (.slice A l.length c)),(1,.v (.int .i64 v)),(2,.v (.bool flex)),(7,.p 0 0),(9,.v (.slice A_ ((qaK W l v (Tree.mk n1 s2 b3 l4 u5) 0).length) c_)),(10,.v (.slice A2_ ((qaC W l (Tree.mk n1 s2 b3 l4 u5) k2).length) c2_)),(11,.v (.int .i64 ((qaN W l (Tree.mk n1 s2 b3 l4 u5) k2:Nat):Int))),(14,.v (.int .i64 ((k2:Nat):Int))),(51,.v (.int .i64 (((qat l).toNat:Nat):Int))),(52,.v (.int .i64 ((k2:Nat):Int)))] ao cR fun mX fK=>?_
  refine qan [(0,.v (.slice A l.length c)),(1,.v (.int .i64 v)),(2,.v (.bool flex)),(7,.p 0 0),(9,.v (.slice A_ ((qaK W l v (Tree.mk n1 s2 b3 l4 u5) 0).length) c_)),(10,.v (.slice A2_ ((qaC W l (Tree.mk n1 s2 b3 l4 u5) k2).length) c2_)),(11,.v (.int .i64 ((qaN W l (Tree.mk n1 s2 b3 l4 u5) k2:Nat):Int))),(14,.v (.int .i64 ((k2:Nat):Int))),(51,.v (.int .i64 (((qat l).toNat:Nat):Int))),(52,.v (.int .i64 ((k2:Nat):Int))),(55,.v (.slice A l.length c)),(56,.v (.int .i64 ((l.length:Nat):Int))),(57,.v (.int .i64 0))] ao fK fun mY dS=>?_
  refine wp_block ?_
  have dT:(qaC W l (Tree.mk n1 s2 b3 l4 u5) k2) = (qaC W l (Tree.mk n1 s2 b3 l4 u5) k2 ++ []):=(List.append_nil _).symm
  have fL:=congrArg (brow A2_ c2_ 5) dT
  obtain ⟨dU,fM⟩:=ao.rowEq 1 [brow A_ c_ 5 (qaK W l v (Tree.mk n1 s2 b3 l4 u5) 0),brow A2_ c2_ 5 (qaC W l (Tree.mk n1 s2 b3 l4 u5) k2 ++ [])] fL
  rw [dT] at dS
  have hm2:=hmono (k2 + 1) (by omega)
  rw [qaC,List.length_append] at hm2
  have hc2:=hcnt (k2 + 1)
  rw [qaN,qaC,List.length_append] at hc2
  have hc3:=qfs W k2 (Tree.mk n1 s2 b3 l4 u5) l 0
  refine wp_loop_ghost (fun n_ a_ w_=>∃ (q:Nat) (A3_:Option Addr) (c3_:Nat) (dm:Bs) (cn:Nat),n_ = l.length - q ∧ q ≤ l.length ∧ (dm ++ tagB W (l.drop q) k2 (Tree.mk n1 s2 b3 l4 u5) q = tagB W l k2 (Tree.mk n1 s2 b3 l4 u5) 0) ∧ (cn + tagN W (l.drop q) k2 (Tree.mk n1 s2 b3 l4 u5) q = tagN W l k2 (Tree.mk n1 s2 b3 l4 u5) 0) ∧ LInv dU 132 [⟨cI,0,[.int .i64 n1,.slice A6 s2.length c7,.bool b3,.slice A8 l4.length c9,.slice aV u5.length aW],true⟩] [brow A_ c_ 5 (qaK W l v (Tree.mk n1 s2 b3 l4 u5) 0),brow A3_ c3_ 5 (qaC W l (Tree.mk n1 s2 b3 l4 u5) k2 ++ dm)] [(0,.v (.slice A l.length c)),(1,.v (.int .i64 v)),(2,.v (.bool flex)),(7,.p 0 0),(9,.v (.slice A_ ((qaK W l v (Tree.mk n1 s2 b3 l4 u5) 0).length) c_)),(10,.v (.slice A3_ ((qaC W l (Tree.mk n1 s2 b3 l4 u5) k2 ++ dm).length) c3_)),(11,.v (.int .i64 ((qaN W l (Tree.mk n1 s2 b3 l4 u5) k2 + cn:Nat):Int))),(14,.v (.int .i64 ((k2:Nat):Int))),(51,.v (.int .i64 (((qat l).toNat:Nat):Int))),(52,.v (.int .i64 ((k2:Nat):Int))),(55,.v (.slice A l.length c)),(56,.v (.int .i64 ((l.length:Nat):Int))),(57,.v (.int .i64 ((q:Nat):Int)))] a_ w_) (l.length) ⟨0,A2_,c2_,[],0,by omega,by omega,rfl,Nat.zero_add _,dS.pk,dU,Fr.refl _ _ _⟩ ?_
  rintro mZ m4 m5 ⟨q,A3_,c3_,dm,cn,ls,lu,hB2,hN2,fN,aZ,bV⟩
  refine qan [(0,.v (.slice A l.length c)),(1,.v (.int .i64 v)),(2,.v (.bool flex)),(7,.p 0 0),(9,.v (.slice A_ ((qaK W l v (Tree.mk n1 s2 b3 l4 u5) 0).length) c_)),(10,.v (.slice A3_ ((qaC W l (Tree.mk n1 s2 b3 l4 u5) k2 ++ dm).length) c3_)),(11,.v (.int .i64 ((qaN W l (Tree.mk n1 s2 b3 l4 u5) k2 + cn:Nat):Int))),(14,.v (.int .i64 ((k2:Nat):Int))),(51,.v (.int .i64 (((qat l).toNat:Nat):Int))),(52,.v (.int .i64 ((k2:Nat):Int))),(55,.v (.slice A l.length c)),(56,.v (.int .i64 ((l.length:Nat):Int))),(57,.v (.int .i64 ((q:Nat):Int))),(58,.v (.bool (decide (((q:Nat):Int) < ((l.length:Nat):Int)))))] aZ fN fun m6 cT=>?_
  refine wp_seq ?_
  refine qau cT (b:=decide (((q:Nat):Int) < ((l.length:Nat):Int))) kz (fun cU=>?_) (fun cU=>?_)
  ·
   have lv:=of_decide_eq_true cU
   refine wp_skip ?_
   refine qab ?_
   refine wp_seq ?_
   refine wp_block ?_
   refine qad [0,1,2,3,4,5] kz ?_
   refine qah [0] [1,2,3,4,5] [(0,.v (.slice A l.length c)),(1,.v (.int .i64 v)),(2,.v (.bool flex)),(7,.p 0 0),(9,.v (.slice A_ ((qaK W l v (Tree.mk n1 s2 b3 l4 u5) 0).length) c_)),(10,.v (.slice A3_ ((qaC W l (Tree.mk n1 s2 b3 l4 u5) k2 ++ dm).length) c3_)),(11,.v (.int .i64 ((qaN W l (Tree.mk n1 s2 b3 l4 u5) k2 + cn:Nat):Int))),(14,.v (.int .i64 ((k2:Nat):Int))),(51,.v (.int .i64 (((qat l).toNat:Nat):Int))),(52,.v (.int .i64 ((k2:Nat):Int))),(55,.v (.slice A l.length c)),(56,.v (.int .i64 ((l.length:Nat):Int))),(57,.v (.int .i64 ((q:Nat):Int))),(59,.v (.int .i64 ((q:Nat):Int)))] aZ cT fun m7 fO=>?_
   obtain ⟨kj,km,fP,lw,cV⟩:=Slots.get h1 (i:=q) (by omega)
   obtain ⟨ko,ap⟩:∃ x,l[q]? = some x:=⟨_,List.getElem?_eq_getElem (by omega)⟩
   have bW:=h2 q ko ap
   obtain ⟨ab,ac,ae,af,aa,ag,ah,ai,bp,bq,lx,rfl,cW,kp,m8⟩:=bW.open_
   rw [cW] at bW
   have kq:=kp.small
   rw [cW] at cV
   refine qam (qaz fO (t:=30) (A:=A) (m:=l.length) (q:=((q:Nat):Int)) (d:=60) kz (e:=60) (size:=8) (bytes:=80) kz fP rfl (by omega) fun m9 fQ=>?_)
   refine qam (qaE fQ (t:=60) (b:=kj) (o:=km + q * 8) (d:=61) kz (cs:=[.int .i64 ab,.int .i64 ac,.int .i64 ae,.int .i64 af,.int .i64 aa,.int .i64 ag,.int .i64 ah,.slice bp ai.length bq]) (v:=.agg #[.int .i64 ab,.int .i64 ac,.int .i64 ae,.int .i64 af,.int .i64 aa,.int .i64 ag,.int .i64 ah,.slice bp ai.length bq]) kz (AtF.move cV aZ.step nilM qaZ).at_ fun nf fR=>?_)
   refine qam (qaO aZ fR (d:=16) (cs:=[.int .i64 0,.int .i64 0,.int .i64 0,.int .i64 0,.int .i64 0,.int .i64 0,.int .i64 0,.slice none 0 0]) kz fun ng nh ni ly lz cX dV fS=>?_)
   refine qah [4] [5] [(0,.v (.slice A l.length c)),(1,.v (.int .i64 v)),(2,.v (.bool flex)),(7,.p 0 0),(9,.v (.slice A_ ((qaK W l v (Tree.mk n1 s2 b3 l4 u5) 0).length) c_)),(10,.v (.slice A3_ ((qaC W l (Tree.mk n1 s2 b3 l4 u5) k2 ++ dm).length) c3_)),(11,.v (.int .i64 ((qaN W l (Tree.mk n1 s2 b3 l4 u5) k2 + cn:Nat):Int))),(14,.v (.int .i64 ((k2:Nat):Int))),(15,.v (.int .i64 ((q:Nat):Int))),(16,.p 1 0),(51,.v (.int .i64 (((qat l).toNat:Nat):Int))),(52,.v (.int .i64 ((k2:Nat):Int))),(55,.v (.slice A l.length c)),(56,.v (.int .i64 ((l.length:Nat):Int))),(57,.v (.int .i64 ((q:Nat):Int))),(61,.v (.agg #[.int .i64 ab,.int .i64 ac,.int .i64 ae,.int .i64 af,.int .i64 aa,.int .i64 ag,.int .i64 ah,.slice bp ai.length bq]))] dV fS fun nj fT=>?_
   refine qam (qay dV fT (oi:=1) (cs:=[.int .i64 ab,.int .i64 ac,.int .i64 ae,.int .i64 af,.int .i64 aa,.int .i64 ag,.int .i64 ah,.slice bp ai.length bq]) kz fun nk cY fU fV=>?_)
   refine qae (qab ?_)
   refine qaI 12 kz fU fun nl cZ aO c5=>?_
   refine qaH [0,1,2,3,4] [(0,.v (.slice A l.length c)),(1,.v (.int .i64 v)),(2,.v (.bool flex)),(7,.p 0 0),(9,.v (.slice A_ ((qaK W l v (Tree.mk n1 s2 b3 l4 u5) 0).length) c_)),(10,.v (.slice A3_ ((qaC W l (Tree.mk n1 s2 b3 l4 u5) k2 ++ dm).length) c3_)),(11,.v (.int .i64 ((qaN W l (Tree.mk n1 s2 b3 l4 u5) k2 + cn:Nat):Int))),(14,.v (.int .i64 ((k2:Nat):Int))),(15,.v (.int .i64 ((q:Nat):Int))),(16,.p 1 0),(51,.v (.int .i64 (((qat l).toNat:Nat):Int))),(52,.v (.int .i64 ((k2:Nat):Int))),(55,.v (.slice A l.length c)),(56,.v (.int .i64 ((l.length:Nat):Int))),(57,.v (.int .i64 ((q:Nat):Int))),(66,.v (.bool (aa == ((k2:Nat):Int))))] 7 (qaa (qac (qaa (qaa (qac (qac (qaa (qaa (qac (qaa qaf)))))))))) (fun _ h=>h.cells) c5 fV fun nm dW=>?_
   refine (Bool.eq_false_or_eq_true (aa == ((k2:Nat):Int))).elim (fun bt=>?_) (fun bt=>?_)
   ·
    have lA:aa = ((k2:Nat):Int):=by simpa using bt
    have fW:=dW.cast (env':=[(0,.v (.slice A l.length c)),(1,.v (.int .i64 v)),(2,.v (.bool flex)),(7,.p 0 0),(9,.v (.slice A_ ((qaK W l v (Tree.mk n1 s2 b3 l4 u5) 0).length) c_)),(10,.v (.slice A3_ ((qaC W l (Tree.mk n1 s2 b3 l4 u5) k2 ++ dm).length) c3_)),(11,.v (.int .i64 ((qaN W l (Tree.mk n1 s2 b3 l4 u5) k2 + cn:Nat):Int))),(14,.v (.int .i64 ((k2:Nat):Int))),(15,.v (.int .i64 ((q:Nat):Int))),(16,.p 1 0),(51,.v (.int .i64 (((qat l).toNat:Nat):Int))),(52,.v (.int .i64 ((k2:Nat):Int))),(55,.v (.slice A l.length c)),(56,.v (.int .i64 ((l.length:Nat):Int))),(57,.v (.int .i64 ((q:Nat):Int))),(66,.v (.bool true))]) (by rw [bt])
    refine qaH [5,6,7] [(0,.v (.slice A l.length c)),(1,.v (.int .i64 v)),(2,.v (.bool flex)),(7,.p 0 0),(9,.v (.slice A_ ((qaK W l v (Tree.mk n1 s2 b3 l4 u5) 0).length) c_)),(10,.v (.slice A3_ ((qaC W l (Tree.mk n1 s2 b3 l4 u5) k2 ++ dm).length) c3_)),(11,.v (.int .i64 ((qaN W l (Tree.mk n1 s2 b3 l4 u5) k2 + cn:Nat):Int))),(14,.v (.int .i64 ((k2:Nat):Int))),(15,.v (.int .i64 ((q:Nat):Int))),(16,.p 1 0),(51,.v (.int .i64 (((qat l).toNat:Nat):Int))),(52,.v (.int .i64 ((k2:Nat):Int))),(55,.v (.slice A l.length c)),(56,.v (.int .i64 ((l.length:Nat):Int))),(57,.v (.int .i64 ((q:Nat):Int))),(66,.v (.bool true)),(67,.v (.agg #[.int .i64 ab,.int .i64 ac,.int .i64 ae,.int .i64 af,.int .i64 aa,.int .i64 ag,.int .i64 ah,.slice bp ai.length bq])),(68,.v (.agg #[.int .i64 n1,.slice A6 s2.length c7,.bool b3,.slice A8 l4.length c9,.slice aV u5.length aW])),(69,.v (.int .i64 ((q:Nat):Int)))] 4 (qaa (qac (qaa (qaa (qac (qac (qaa (qaa (qac (qaa qaf)))))))))) (fun _ h=>h.cells) c5 fW fun np fX=>?_
    refine qaA (i:=8) kz (qai fX (f:=48) (vs:=[.agg #[.int .i64 n1,.slice A6 s2.length c7,.bool b3,.slice A8 l4.length c9,.slice aV u5.length aW],.int .i64 ((q:Nat):Int)]) (d:=70) kz Tryd.call48 (sAt _ _ q _ _ (ht.move aO.step nilM aO.imm)) ?_)
    rintro e_ nr ⟨lB,rfl,fY,bu⟩
    have c6:=fY.move bu nilM (fun b o h_ hb_=>aO.laid (G:=F) bu b o (.inl h_) (Nat.lt_of_lt_of_le hb_ bu.size))
    obtain ⟨ku,kv,kw,kx,ky,kA,kB,kC,kD,kE,kF,lC,lD,da,kG,kH,ns,nt⟩:=c6.open_
    rw [da] at c6
    have kI:=kG.small
    have kJ:=kH.small
    rw [da]
    refine ⟨_,rfl,fun nu fZ=>?_⟩
    have bw:=aO.next_nil bu
    have bX:=aO.frN bu
    have f5:=TT.ofW bX bw
    refine ⟨fun _=>f5,?_⟩
    refine qaA (i:=9) kz (qai fZ (f:=50) (vs:=[.agg #[.int .i64 ab,.int .i64 ac,.int .i64 ae,.int .i64 af,.int .i64 aa,.int .i64 ag,.int .i64 ah,.slice bp ai.length bq],.agg #[.int .i64 ku,.slice kA kv.length kB,.bool kw,.slice kC kx.length kD,.slice kE ky.length kF]]) (d:=71) kz Tryd.call50 (qfX _ _ _ _ _ _ _ (bW.move bw.step nilM bw.imm) (Nat.le_refl _) c6) ?_)
    rintro e_ nv ⟨rfl,dX⟩
    refine ⟨_,rfl,fun nw f7=>?_⟩
    have bY:=bw.next_nil dX
    have db:=bw.frN dX
    have dY:=TT.ofW (bX.trans db) bY
    refine ⟨fun _=>dY,?_⟩
    refine qaH [10,11] [(0,.v (.slice A l.length c)),(1,.v (.int .i64 v)),(2,.v (.bool flex)),(7,.p 0 0),(9,.v (.slice A_ ((qaK W l v (Tree.mk n1 s2 b3 l4 u5) 0).length) c_)),(10,.v (.slice A3_ ((qaC W l (Tree.mk n1 s2 b3 l4 u5) k2 ++ dm).length) c3_)),(11,.v (.int .i64 ((qaN W l (Tree.mk n1 s2 b3 l4 u5) k2 + cn:Nat):Int))),(14,.v (.int .i64 ((k2:Nat):Int))),(15,.v (.int .i64 ((q:Nat):Int))),(16,.p 1 0),(51,.v (.int .i64 (((qat l).toNat:Nat):Int))),(52,.v (.int .i64 ((k2:Nat):Int))),(55,.v (.slice A l.length c)),(56,.v (.int .i64 ((l.length:Nat):Int))),(57,.v (.int .i64 ((q:Nat):Int))),(73,.v (.bool (!(Fld.usual (Fld.mk ab ac ae af aa ag ah ai) (Tree.at_ (Tree.mk n1 s2 b3 l4 u5) q)))))] 0 (qaa (qac (qaa (qaa (qac (qac (qaa (qaa (qac (qaa qaf)))))))))) (fun _ h=>h.cells) dY f7 fun nx dc=>?_
    refine qaG kz ?_ _
    refine qab ?_
    refine qau dc (b:=!(Fld.usual (Fld.mk ab ac ae af aa ag ah ai) (Tree.at_ (Tree.mk n1 s2 b3 l4 u5) q))) kz (fun ay=>?_) (fun ay=>?_)
    ·
     refine qaI 7 kz bY fun ny f8 bx f9=>?_
     refine qaH [0,1,2,3,4] [(0,.v (.slice A l.length c)),(1,.v (.int .i64 v)),(2,.v (.bool flex)),(7,.p 0 0),(9,.v (.slice A_ ((qaK W l v (Tree.mk n1 s2 b3 l4 u5) 0).length) c_)),(10,.v (.slice A3_ ((qaC W l (Tree.mk n1 s2 b3 l4 u5) k2 ++ dm).length) c3_)),(11,.v (.int .i64 ((qaN W l (Tree.mk n1 s2 b3 l4 u5) k2 + cn:Nat):Int))),(14,.v (.int .i64 ((k2:Nat):Int))),(51,.v (.int .i64 (((qat l).toNat:Nat):Int))),(52,.v (.int .i64 ((k2:Nat):Int))),(55,.v (.slice A l.length c)),(56,.v (.int .i64 ((l.length:Nat):Int))),(57,.v (.int .i64 ((q:Nat):Int))),(74,.v (.agg #[.int .i64 ab,.int .i64 ac,.int .i64 ae,.int .i64 af,.int .i64 aa,.int .i64 ag,.int .i64 ah,.slice bp ai.length bq])),(75,.v (.int .i64 v)),(76,.v (.bool flex)),(77,.v (.agg #[.int .i64 n1,.slice A6 s2.length c7,.bool b3,.slice A8 l4.length c9,.slice aV u5.length aW])),(78,.v (.int .i64 ((q:Nat):Int)))] 3 (qaa (qac (qaa (qaa (qac (qac (qaa (qaa (qac (qaa qaf)))))))))) (fun _ h=>h.cells) f9 dc fun nz ga=>?_
     refine qaA (i:=5) kz (qai ga (f:=48) (vs:=[.agg #[.int .i64 n1,.slice A6 s2.length c7,.bool b3,.slice A8 l4.length c9,.slice aV u5.length aW],.int .i64 ((q:Nat):Int)]) (d:=79) kz Tryd.call48 (sAt _ _ q _ _ (ht.move bx.step nilM bx.imm)) ?_)
     rintro e_ nA ⟨lE,rfl,gb,bz⟩
     have de:=gb.move bz nilM (fun b o h_ hb_=>bx.laid (G:=F) bz b o (.inl h_) (Nat.lt_of_lt_of_le hb_ bz.size))
     obtain ⟨kK,kL,kM,kN,kO,kP,kQ,kR,kS,kT,kU,lF,lG,df,kV,kW,nB,nC⟩:=de.open_
     rw [df] at de
     have kX:=kV.small
     have kY:=kW.small
     rw [df]
     refine ⟨_,rfl,fun nD gc=>?_⟩
     have bZ:=bx.next_nil bz
     have dg:=bx.frN bz
     have gd:=TT.ofW dg bZ
     refine ⟨fun _=>gd,?_⟩
     refine qaA (i:=6) kz (qai gc (f:=82) (vs:=[.agg #[.int .i64 ab,.int .i64 ac,.int .i64 ae,.int .i64 af,.int .i64 aa,.int .i64 ag,.int .i64 ah,.slice bp ai.length bq],.int .i64 v,.bool flex,.agg #[.int .i64 kK,.slice kP kL.length kQ,.bool kM,.slice kR kN.length kS,.slice kT kO.length kU]]) (d:=80) kz Tryd.call82 ( hW_ _ _ _ _ _ _ (List.mem_of_getElem? ap) (bW.move bZ.step nilM bZ.imm) de (by have h_:=congrArg List.length hB2; rw [qcU ap (by omega) (by simpa using ay)] at h_; simp only [List.length_append] at h_; omega)) ?_)
     rintro e_ nE ⟨av,aw,rfl,ge,gg⟩
     refine ⟨_,rfl,fun nF gh=>?_⟩
     obtain ⟨b8,dZ⟩:=bZ.frFresh gg (brow av aw 5 (W (Fld.mk ab ac ae af aa ag ah ai) (Tree.at_ (Tree.mk n1 s2 b3 l4 u5) q))) (Nat.le_refl _) ge
     have kZ:(W (Fld.mk ab ac ae af aa ag ah ai) (Tree.at_ (Tree.mk n1 s2 b3 l4 u5) q)).length ≤ 1099511627776:=by have h_:=congrArg List.length hB2; rw [qcU ap (by omega) (by simpa using ay)] at h_; simp only [List.length_append] at h_; omega
     have gi:=TT.ofW (dg.trans dZ) b8
     refine ⟨fun _=>gi,?_⟩
     refine qaA (i:=7) kz (qa6 [0,1,2,7,9,10,11,14,17,51,52,55,56,57] b8.cells gh (env':=[(0,.v (.slice A l.length c)),(1,.v (.int .i64 v)),(2,.v (.bool flex)),(7,.p 0 0),(9,.v (.slice A_ ((qaK W l v (Tree.mk n1 s2 b3 l4 u5) 0).length) c_)),(10,.v (.slice A3_ ((qaC W l (Tree.mk n1 s2 b3 l4 u5) k2 ++ dm).length) c3_)),(11,.v (.int .i64 ((qaN W l (Tree.mk n1 s2 b3 l4 u5) k2 + cn:Nat):Int))),(14,.v (.int .i64 ((k2:Nat):Int))),(17,.v (.slice av ((W (Fld.mk ab ac ae af aa ag ah ai) (Tree.at_ (Tree.mk n1 s2 b3 l4 u5) q)).length) aw)),(51,.v (.int .i64 (((qat l).toNat:Nat):Int))),(52,.v (.int .i64 ((k2:Nat):Int))),(55,.v (.slice A l.length c)),(56,.v (.int .i64 ((l.length:Nat):Int))),(57,.v (.int .i64 ((q:Nat):Int)))]) kz fun nG gj=>?_)
     refine ⟨fun h=>absurd rfl h,?_⟩
     refine qaG kz ?_ _
     refine qab ?_
     refine qad [0,1,2,3,4,5,6,7,8,9,10,11,12] kz ?_
     refine qah [0,1,2] [3,4,5,6,7,8,9,10,11,12] [(0,.v (.slice A l.length c)),(1,.v (.int .i64 v)),(2,.v (.bool flex)),(7,.p 0 0),(9,.v (.slice A_ ((qaK W l v (Tree.mk n1 s2 b3 l4 u5) 0).length) c_)),(11,.v (.int .i64 ((qaN W l (Tree.mk n1 s2 b3 l4 u5) k2 + cn:Nat):Int))),(14,.v (.int .i64 ((k2:Nat):Int))),(17,.v (.slice av ((W (Fld.mk ab ac ae af aa ag ah ai) (Tree.at_ (Tree.mk n1 s2 b3 l4 u5) q)).length) aw)),(51,.v (.int .i64 (((qat l).toNat:Nat):Int))),(52,.v (.int .i64 ((k2:Nat):Int))),(55,.v (.slice A l.length c)),(56,.v (.int .i64 ((l.length:Nat):Int))),(57,.v (.int .i64 ((q:Nat):Int))),(81,.v (.slice A3_ ((qaC W l (Tree.mk n1 s2 b3 l4 u5) k2 ++ dm).length) c3_)),(83,.v (.int .u64 (IntKind.u64.wrap ((k2:Nat):Int))))] b8 gj fun nH gk=>?_
     have gl:IntKind.u64.wrap ((k2:Nat):Int) = ((k2:Nat):Int):=by simp only [qaF,qas,qbg,IntKind.wrap_i64,IntKind.wrap_i32]; omega
     have gm:=EnvOk.pick gk (ks:=[0,1,2,7,9,11,14,17,51,52,55,56,57,81,83]) (env':=[(0,.v (.slice A l.length c)),(1,.v (.int .i64 v)),(2,.v (.bool flex)),(7,.p 0 0),(9,.v (.slice A_ ((qaK W l v (Tree.mk n1 s2 b3 l4 u5) 0).length) c_)),(11,.v (.int .i64 ((qaN W l (Tree.mk n1 s2 b3 l4 u5) k2 + cn:Nat):Int))),(14,.v (.int .i64 ((k2:Nat):Int))),(17,.v (.slice av ((W (Fld.mk ab ac ae af aa ag ah ai) (Tree.at_ (Tree.mk n1 s2 b3 l4 u5) q)).length) aw)),(51,.v (.int .i64 (((qat l).toNat:Nat):Int))),(52,.v (.int .i64 ((k2:Nat):Int))),(55,.v (.slice A l.length c)),(56,.v (.int .i64 ((l.length:Nat):Int))),(57,.v (.int .i64 ((q:Nat):Int))),(81,.v (.slice A3_ ((qaC W l (Tree.mk n1 s2 b3 l4 u5) k2 ++ dm).length) c3_)),(83,.v (.int .u64 (IntKind.u64.wrap ((k2:Nat):Int))))]) kz
     have gn:=gm.cast (env':=[(0,.v (.slice A l.length c)),(1,.v (.int .i64 v)),(2,.v (.bool flex)),(7,.p 0 0),(9,.v (.slice A_ ((qaK W l v (Tree.mk n1 s2 b3 l4 u5) 0).length) c_)),(11,.v (.int .i64 ((qaN W l (Tree.mk n1 s2 b3 l4 u5) k2 + cn:Nat):Int))),(14,.v (.int .i64 ((k2:Nat):Int))),(17,.v (.slice av ((W (Fld.mk ab ac ae af aa ag ah ai) (Tree.at_ (Tree.mk n1 s2 b3 l4 u5) q)).length) aw)),(51,.v (.int .i64 (((qat l).toNat:Nat):Int))),(52,.v (.int .i64 ((k2:Nat):Int))),(55,.v (.slice A l.length c)),(56,.v (.int .i64 ((l.length:Nat):Int))),(57,.v (.int .i64 ((q:Nat):Int))),(81,.v (.slice A3_ ((qaC W l (Tree.mk n1 s2 b3 l4 u5) k2 ++ dm).length) c3_)),(83,.v (.int .u64 ((k2:Nat):Int)))]) (by rw [gl])
     refine qam (qai gn (f:=83) (vs:=[.int .u64 ((k2:Nat):Int)]) (d:=84) kz Tryd.call83 (qcX k2 (by omega) _) ?_)
     rintro e_ nI ⟨bJ,bK,rfl,gp,gq⟩
     refine ⟨_,rfl,fun nJ gt=>?_⟩
     obtain ⟨dh,gv⟩:=b8.frFresh gq (brow bJ bK 5 (uv k2)) (Nat.le_refl _) gp
     refine qam (qaW dh gt (k:=1) (d:=85) (t:=22) (e:=5) (size:=1) (bytes:=1) (A:=A3_) (As:=bJ) (m0:=((qaC W l (Tree.mk n1 s2 b3 l4 u5) k2 ++ dm).length)) (c:=c3_) (m:=((uv k2).length)) (cs:=bK) (xs:=(bc (qaC W l (Tree.mk n1 s2 b3 l4 u5) k2 ++ dm))) (news:=bc (uv k2)) kz kz rfl (qbB (dh.own 3 _ rfl) (qch _)) (qbN (dh.own 3 _ rfl)) (by have h_:=congrArg List.length hB2; rw [qcU ap (by omega) (by simpa using ay)] at h_; simp only [List.length_append] at h_ ⊢; omega) fun aP aQ nK nL gw gx gy=>?_)
     have gz:(⟨aP,aQ,5,1,(qaC W l (Tree.mk n1 s2 b3 l4 u5) k2 ++ dm).length + (uv k2).length,bc (qaC W l (Tree.mk n1 s2 b3 l4 u5) k2 ++ dm) ++ bc (uv k2)⟩:Rw) = brow aP aQ 5 (qaC W l (Tree.mk n1 s2 b3 l4 u5) k2 ++ dm ++ (uv k2)):=qbq (rfl) rfl
     obtain ⟨d5,gA⟩:=gx.rowEq 1 [brow A_ c_ 5 (qaK W l v (Tree.mk n1 s2 b3 l4 u5) 0),brow aP aQ 5 (qaC W l (Tree.mk n1 s2 b3 l4 u5) k2 ++ dm ++ (uv k2)),brow av aw 5 (W (Fld.mk ab ac ae af aa ag ah ai) (Tree.at_ (Tree.mk n1 s2 b3 l4 u5) q)),brow bJ bK 5 (uv k2)] gz
     have gB:=EnvOk.pick gy (ks:=[0,1,2,7,9,11,14,17,51,52,55,56,57,81,83,84,85]) (env':=[(0,.v (.slice A l.length c)),(1,.v (.int .i64 v)),(2,.v (.bool flex)),(7,.p 0 0),(9,.v (.slice A_ ((qaK W l v (Tree.mk n1 s2 b3 l4 u5) 0).length) c_)),(11,.v (.int .i64 ((qaN W l (Tree.mk n1 s2 b3 l4 u5) k2 + cn:Nat):Int))),(14,.v (.int .i64 ((k2:Nat):Int))),(17,.v (.slice av ((W (Fld.mk ab ac ae af aa ag ah ai) (Tree.at_ (Tree.mk n1 s2 b3 l4 u5) q)).length) aw)),(51,.v (.int .i64 (((qat l).toNat:Nat):Int))),(52,.v (.int .i64 ((k2:Nat):Int))),(55,.v (.slice A l.length c)),(56,.v (.int .i64 ((l.length:Nat):Int))),(57,.v (.int .i64 ((q:Nat):Int))),(81,.v (.slice A3_ ((qaC W l (Tree.mk n1 s2 b3 l4 u5) k2 ++ dm).length) c3_)),(83,.v (.int .u64 ((k2:Nat):Int))),(84,.v (.slice bJ ((uv k2).length) bK)),(85,.v (.slice aP ((qaC W l (Tree.mk n1 s2 b3 l4 u5) k2 ++ dm).length + (uv k2).length) aQ))]) kz
     have gC:=gB.cast (env':=[(0,.v (.slice A l.length c)),(1,.v (.int .i64 v)),(2,.v (.bool flex)),(7,.p 0 0),(9,.v (.slice A_ ((qaK W l v (Tree.mk n1 s2 b3 l4 u5) 0).length) c_)),(11,.v (.int .i64 ((qaN W l (Tree.mk n1 s2 b3 l4 u5) k2 + cn:Nat):Int))),(14,.v (.int .i64 ((k2:Nat):Int))),(17,.v (.slice av ((W (Fld.mk ab ac ae af aa ag ah ai) (Tree.at_ (Tree.mk n1 s2 b3 l4 u5) q)).length) aw)),(51,.v (.int .i64 (((qat l).toNat:Nat):Int))),(52,.v (.int .i64 ((k2:Nat):Int))),(55,.v (.slice A l.length c)),(56,.v (.int .i64 ((l.length:Nat):Int))),(57,.v (.int .i64 ((q:Nat):Int))),(81,.v (.slice A3_ ((qaC W l (Tree.mk n1 s2 b3 l4 u5) k2 ++ dm).length) c3_)),(83,.v (.int .u64 ((k2:Nat):Int))),(84,.v (.slice bJ ((uv k2).length) bK)),(85,.v (.slice aP ((qaC W l (Tree.mk n1 s2 b3 l4 u5) k2 ++ dm ++ (uv k2)).length) aQ))]) (by simp only [List.length_append,List.length_cons,List.length_nil,Nat.zero_add])
     refine qah [5,6,7] [8,9,10,11,12] [(0,.v (.slice A l.length c)),(1,.v (.int .i64 v)),(2,.v (.bool flex)),(7,.p 0 0),(9,.v (.slice A_ ((qaK W l v (Tree.mk n1 s2 b3 l4 u5) 0).length) c_)),(11,.v (.int .i64 ((qaN W l (Tree.mk n1 s2 b3 l4 u5) k2 + cn:Nat):Int))),(14,.v (.int .i64 ((k2:Nat):Int))),(17,.v (.slice av ((W (Fld.mk ab ac ae af aa ag ah ai) (Tree.at_ (Tree.mk n1 s2 b3 l4 u5) q)).length) aw)),(51,.v (.int .i64 (((qat l).toNat:Nat):Int))),(52,.v (.int .i64 ((k2:Nat):Int))),(55,.v (.slice A l.length c)),(56,.v (.int .i64 ((l.length:Nat):Int))),(57,.v (.int .i64 ((q:Nat):Int))),(85,.v (.slice aP ((qaC W l (Tree.mk n1 s2 b3 l4 u5) k2 ++ dm ++ (uv k2)).length) aQ)),(88,.v (.int .u64 (IntKind.u64.wrap (((W (Fld.mk ab ac ae af aa ag ah ai) (Tree.at_ (Tree.mk n1 s2 b3 l4 u5) q)).length:Nat):Int))))] d5 gC fun nM gD=>?_
     have gE:IntKind.u64.wrap (((W (Fld.mk ab ac ae af aa ag ah ai) (Tree.at_ (Tree.mk n1 s2 b3 l4 u5) q)).length:Nat):Int) = (((W (Fld.mk ab ac ae af aa ag ah ai) (Tree.at_ (Tree.mk n1 s2 b3 l4 u5) q)).length:Nat):Int):=by simp only [qaF,qas,qbg,IntKind.wrap_i64,IntKind.wrap_i32]; omega
     have gF:=EnvOk.pick gD (ks:=[0,1,2,7,9,11,14,17,51,52,55,56,57,85,88]) (env':=[(0,.v (.slice A l.length c)),(1,.v (.int .i64 v)),(2,.v (.bool flex)),(7,.p 0 0),(9,.v (.slice A_ ((qaK W l v (Tree.mk n1 s2 b3 l4 u5) 0).length) c_)),(11,.v (.int .i64 ((qaN W l (Tree.mk n1 s2 b3 l4 u5) k2 + cn:Nat):Int))),(14,.v (.int .i64 ((k2:Nat):Int))),(17,.v (.slice av ((W (Fld.mk ab ac ae af aa ag ah ai) (Tree.at_ (Tree.mk n1 s2 b3 l4 u5) q)).length) aw)),(51,.v (.int .i64 (((qat l).toNat:Nat):Int))),(52,.v (.int .i64 ((k2:Nat):Int))),(55,.v (.slice A l.length c)),(56,.v (.int .i64 ((l.length:Nat):Int))),(57,.v (.int .i64 ((q:Nat):Int))),(85,.v (.slice aP ((qaC W l (Tree.mk n1 s2 b3 l4 u5) k2 ++ dm ++ (uv k2)).length) aQ)),(88,.v (.int .u64 (IntKind.u64.wrap (((W (Fld.mk ab ac ae af aa ag ah ai) (Tree.at_ (Tree.mk n1 s2 b3 l4 u5) q)).length:Nat):Int))))]) kz
     have gG:=gF.cast (env':=[(0,.v (.slice A l.length c)),(1,.v (.int .i64 v)),(2,.v (.bool flex)),(7,.p 0 0),(9,.v (.slice A_ ((qaK W l v (Tree.mk n1 s2 b3 l4 u5) 0).length) c_)),(11,.v (.int .i64 ((qaN W l (Tree.mk n1 s2 b3 l4 u5) k2 + cn:Nat):Int))),(14,.v (.int .i64 ((k2:Nat):Int))),(17,.v (.slice av ((W (Fld.mk ab ac ae af aa ag ah ai) (Tree.at_ (Tree.mk n1 s2 b3 l4 u5) q)).length) aw)),(51,.v (.int .i64 (((qat l).toNat:Nat):Int))),(52,.v (.int .i64 ((k2:Nat):Int))),(55,.v (.slice A l.length c)),(56,.v (.int .i64 ((l.length:Nat):Int))),(57,.v (.int .i64 ((q:Nat):Int))),(85,.v (.slice aP ((qaC W l (Tree.mk n1 s2 b3 l4 u5) k2 ++ dm ++ (uv k2)).length) aQ)),(88,.v (.int .u64 (((W (Fld.mk ab ac ae af aa ag ah ai) (Tree.at_ (Tree.mk n1 s2 b3 l4 u5) q)).length:Nat):Int)))]) (by rw [gE])
     refine qam (qai gG (f:=83) (vs:=[.int .u64 (((W (Fld.mk ab ac ae af aa ag ah ai) (Tree.at_ (Tree.mk n1 s2 b3 l4 u5) q)).length:Nat):Int)]) (d:=89) kz Tryd.call83 (qcX ((W (Fld.mk ab ac ae af aa ag ah ai) (Tree.at_ (Tree.mk n1 s2 b3 l4 u5) q)).length) (by omega) _) ?_)
     rintro e_ nN ⟨cB,cC,rfl,gH,gI⟩
     refine ⟨_,rfl,fun nO gJ=>?_⟩
     obtain ⟨di,gK⟩:=d5.frFresh gI (brow cB cC 5 (uv ((W (Fld.mk ab ac ae af aa ag ah ai) (Tree.at_ (Tree.mk n1 s2 b3 l4 u5) q)).length))) (Nat.le_refl _) gH
     refine qam (qaW di gJ (k:=1) (d:=90) (t:=22) (e:=5) (size:=1) (bytes:=1) (A:=aP) (As:=cB) (m0:=((qaC W l (Tree.mk n1 s2 b3 l4 u5) k2 ++ dm ++ (uv k2)).length)) (c:=aQ) (m:=((uv ((W (Fld.mk ab ac ae af aa ag ah ai) (Tree.at_ (Tree.mk n1 s2 b3 l4 u5) q)).length)).length)) (cs:=cC) (xs:=(bc (qaC W l (Tree.mk n1 s2 b3 l4 u5) k2 ++ dm ++ (uv k2)))) (news:=bc (uv ((W (Fld.mk ab ac ae af aa ag ah ai) (Tree.at_ (Tree.mk n1 s2 b3 l4 u5) q)).length))) kz kz rfl (qbB (di.own 4 _ rfl) (qch _)) (qbN (di.own 4 _ rfl)) (by have h_:=congrArg List.length hB2; rw [qcU ap (by omega) (by simpa using ay)] at h_; simp only [List.length_append] at h_ ⊢; omega) fun ba bf nP nQ gL gM gN=>?_)
     have gO:(⟨ba,bf,5,1,(qaC W l (Tree.mk n1 s2 b3 l4 u5) k2 ++ dm ++ (uv k2)).length + (uv ((W (Fld.mk ab ac ae af aa ag ah ai) (Tree.at_ (Tree.mk n1 s2 b3 l4 u5) q)).length)).length,bc (qaC W l (Tree.mk n1 s2 b3 l4 u5) k2 ++ dm ++ (uv k2)) ++ bc (uv ((W (Fld.mk ab ac ae af aa ag ah ai) (Tree.at_ (Tree.mk n1 s2 b3 l4 u5) q)).length))⟩:Rw) = brow ba bf 5 (qaC W l (Tree.mk n1 s2 b3 l4 u5) k2 ++ dm ++ (uv k2) ++ (uv ((W (Fld.mk ab ac ae af aa ag ah ai) (Tree.at_ (Tree.mk n1 s2 b3 l4 u5) q)).length))):=qbq (rfl) rfl
     obtain ⟨cd,gP⟩:=gM.rowEq 1 [brow A_ c_ 5 (qaK W l v (Tree.mk n1 s2 b3 l4 u5) 0),brow ba bf 5 (qaC W l (Tree.mk n1 s2 b3 l4 u5) k2 ++ dm ++ (uv k2) ++ (uv ((W (Fld.mk ab ac ae af aa ag ah ai) (Tree.at_ (Tree.mk n1 s2 b3 l4 u5) q)).length))),brow av aw 5 (W (Fld.mk ab ac ae af aa ag ah ai) (Tree.at_ (Tree.mk n1 s2 b3 l4 u5) q)),brow bJ bK 5 (uv k2),brow cB cC 5 (uv ((W (Fld.mk ab ac ae af aa ag ah ai) (Tree.at_ (Tree.mk n1 s2 b3 l4 u5) q)).length))] gO
     have gQ:=EnvOk.pick gN (ks:=[0,1,2,7,9,11,14,17,51,52,55,56,57,85,88,89,90]) (env':=[(0,.v (.slice A l.length c)),(1,.v (.int .i64 v)),(2,.v (.bool flex)),(7,.p 0 0),(9,.v (.slice A_ ((qaK W l v (Tree.mk n1 s2 b3 l4 u5) 0).length) c_)),(11,.v (.int .i64 ((qaN W l (Tree.mk n1 s2 b3 l4 u5) k2 + cn:Nat):Int))),(14,.v (.int .i64 ((k2:Nat):Int))),(17,.v (.slice av ((W (Fld.mk ab ac ae af aa ag ah ai) (Tree.at_ (Tree.mk n1 s2 b3 l4 u5) q)).length) aw)),(51,.v (.int .i64 (((qat l).toNat:Nat):Int))),(52,.v (.int .i64 ((k2:Nat):Int))),(55,.v (.slice A l.length c)),(56,.v (.int .i64 ((l.length:Nat):Int))),(57,.v (.int .i64 ((q:Nat):Int))),(85,.v (.slice aP ((qaC W l (Tree.mk n1 s2 b3 l4 u5) k2 ++ dm ++ (uv k2)).length) aQ)),(88,.v (.int .u64 (((W (Fld.mk ab ac ae af aa ag ah ai) (Tree.at_ (Tree.mk n1 s2 b3 l4 u5) q)).length:Nat):Int))),(89,.v (.slice cB ((uv ((W (Fld.mk ab ac ae af aa ag ah ai) (Tree.at_ (Tree.mk n1 s2 b3 l4 u5) q)).length)).length) cC)),(90,.v (.slice ba ((qaC W l (Tree.mk n1 s2 b3 l4 u5) k2 ++ dm ++ (uv k2)).length + (uv ((W (Fld.mk ab ac ae af aa ag ah ai) (Tree.at_ (Tree.mk n1 s2 b3 l4 u5) q)).length)).length) bf))]) kz
     have gR:=gQ.cast (env':=[(0,.v (.slice A l.length c)),(1,.v (.int .i64 v)),(2,.v (.bool flex)),(7,.p 0 0),(9,.v (.slice A_ ((qaK W l v (Tree.mk n1 s2 b3 l4 u5) 0).length) c_)),(11,.v (.int .i64 ((qaN W l (Tree.mk n1 s2 b3 l4 u5) k2 + cn:Nat):Int))),(14,.v (.int .i64 ((k2:Nat):Int))),(17,.v (.slice av ((W (Fld.mk ab ac ae af aa ag ah ai) (Tree.at_ (Tree.mk n1 s2 b3 l4 u5) q)).length) aw)),(51,.v (.int .i64 (((qat l).toNat:Nat):Int))),(52,.v (.int .i64 ((k2:Nat):Int))),(55,.v (.slice A l.length c)),(56,.v (.int .i64 ((l.length:Nat):Int))),(57,.v (.int .i64 ((q:Nat):Int))),(85,.v (.slice aP ((qaC W l (Tree.mk n1 s2 b3 l4 u5) k2 ++ dm ++ (uv k2)).length) aQ)),(88,.v (.int .u64 (((W (Fld.mk ab ac ae af aa ag ah ai) (Tree.at_ (Tree.mk n1 s2 b3 l4 u5) q)).length:Nat):Int))),(89,.v (.slice cB ((uv ((W (Fld.mk ab ac ae af aa ag ah ai) (Tree.at_ (Tree.mk n1 s2 b3 l4 u5) q)).length)).length) cC)),(90,.v (.slice ba ((qaC W l (Tree.mk n1 s2 b3 l4 u5) k2 ++ dm ++ (uv k2) ++ (uv ((W (Fld.mk ab ac ae af aa ag ah ai) (Tree.at_ (Tree.mk n1 s2 b3 l4 u5) q)).length))).length) bf))]) (by simp only [List.length_append,List.length_cons,List.length_nil,Nat.zero_add])
     refine qah [10] [11,12] [(0,.v (.slice A l.length c)),(1,.v (.int .i64 v)),(2,.v (.bool flex)),(7,.p 0 0),(9,.v (.slice A_ ((qaK W l v (Tree.mk n1 s2 b3 l4 u5) 0).length) c_)),(11,.v (.int .i64 ((qaN W l (Tree.mk n1 s2 b3 l4 u5) k2 + cn:Nat):Int))),(14,.v (.int .i64 ((k2:Nat):Int))),(51,.v (.int .i64 (((qat l).toNat:Nat):Int))),(52,.v (.int .i64 ((k2:Nat):Int))),(55,.v (.slice A l.length c)),(56,.v (.int .i64 ((l.length:Nat):Int))),(57,.v (.int .i64 ((q:Nat):Int))),(90,.v (.slice ba ((qaC W l (Tree.mk n1 s2 b3 l4 u5) k2 ++ dm ++ (uv k2) ++ (uv ((W (Fld.mk ab ac ae af aa ag ah ai) (Tree.at_ (Tree.mk n1 s2 b3 l4 u5) q)).length))).length) bf)),(91,.v (.slice av ((W (Fld.mk ab ac ae af aa ag ah ai) (Tree.at_ (Tree.mk n1 s2 b3 l4 u5) q)).length) aw))] cd gR fun nR gS=>?_
     refine qam (qaW cd gS (k:=1) (d:=92) (t:=22) (e:=5) (size:=1) (bytes:=1) (A:=ba) (As:=av) (m0:=((qaC W l (Tree.mk n1 s2 b3 l4 u5) k2 ++ dm ++ (uv k2) ++ (uv ((W (Fld.mk ab ac ae af aa ag ah ai) (Tree.at_ (Tree.mk n1 s2 b3 l4 u5) q)).length))).length)) (c:=bf) (m:=((W (Fld.mk ab ac ae af aa ag ah ai) (Tree.at_ (Tree.mk n1 s2 b3 l4 u5) q)).length)) (cs:=aw) (xs:=(bc (qaC W l (Tree.mk n1 s2 b3 l4 u5) k2 ++ dm ++ (uv k2) ++ (uv ((W (Fld.mk ab ac ae af aa ag ah ai) (Tree.at_ (Tree.mk n1 s2 b3 l4 u5) q)).length))))) (news:=bc (W (Fld.mk ab ac ae af aa ag ah ai) (Tree.at_ (Tree.mk n1 s2 b3 l4 u5) q))) kz kz rfl (qbB (cd.own 2 _ rfl) (qch _)) (qbN (cd.own 2 _ rfl)) (by have h_:=congrArg List.length hB2; rw [qcU ap (by omega) (by simpa using ay)] at h_; simp only [List.length_append] at h_ ⊢; omega) fun aI aJ nS nT gT gU gV=>?_)
     have gW:(⟨aI,aJ,5,1,(qaC W l (Tree.mk n1 s2 b3 l4 u5) k2 ++ dm ++ (uv k2) ++ (uv ((W (Fld.mk ab ac ae af aa ag ah ai) (Tree.at_ (Tree.mk n1 s2 b3 l4 u5) q)).length))).length + (W (Fld.mk ab ac ae af aa ag ah ai) (Tree.at_ (Tree.mk n1 s2 b3 l4 u5) q)).length,bc (qaC W l (Tree.mk n1 s2 b3 l4 u5) k2 ++ dm ++ (uv k2) ++ (uv ((W (Fld.mk ab ac ae af aa ag ah ai) (Tree.at_ (Tree.mk n1 s2 b3 l4 u5) q)).length))) ++ bc (W (Fld.mk ab ac ae af aa ag ah ai) (Tree.at_ (Tree.mk n1 s2 b3 l4 u5) q))⟩:Rw) = brow aI aJ 5 (qaC W l (Tree.mk n1 s2 b3 l4 u5) k2 ++ dm ++ (uv k2) ++ (uv ((W (Fld.mk ab ac ae af aa ag ah ai) (Tree.at_ (Tree.mk n1 s2 b3 l4 u5) q)).length)) ++ (W (Fld.mk ab ac ae af aa ag ah ai) (Tree.at_ (Tree.mk n1 s2 b3 l4 u5) q))):=qbq (rfl) rfl
     obtain ⟨ce,gX⟩:=gU.rowEq 1 [brow A_ c_ 5 (qaK W l v (Tree.mk n1 s2 b3 l4 u5) 0),brow aI aJ 5 (qaC W l (Tree.mk n1 s2 b3 l4 u5) k2 ++ dm ++ (uv k2) ++ (uv ((W (Fld.mk ab ac ae af aa ag ah ai) (Tree.at_ (Tree.mk n1 s2 b3 l4 u5) q)).length)) ++ (W (Fld.mk ab ac ae af aa ag ah ai) (Tree.at_ (Tree.mk n1 s2 b3 l4 u5) q))),brow av aw 5 (W (Fld.mk ab ac ae af aa ag ah ai) (Tree.at_ (Tree.mk n1 s2 b3 l4 u5) q)),brow bJ bK 5 (uv k2),brow cB cC 5 (uv ((W (Fld.mk ab ac ae af aa ag ah ai) (Tree.at_ (Tree.mk n1 s2 b3 l4 u5) q)).length))] gW
     have gY:=EnvOk.pick gV (ks:=[0,1,2,7,9,11,14,51,52,55,56,57,90,91,92]) (env':=[(0,.v (.slice A l.length c)),(1,.v (.int .i64 v)),(2,.v (.bool flex)),(7,.p 0 0),(9,.v (.slice A_ ((qaK W l v (Tree.mk n1 s2 b3 l4 u5) 0).length) c_)),(11,.v (.int .i64 ((qaN W l (Tree.mk n1 s2 b3 l4 u5) k2 + cn:Nat):Int))),(14,.v (.int .i64 ((k2:Nat):Int))),(51,.v (.int .i64 (((qat l).toNat:Nat):Int))),(52,.v (.int .i64 ((k2:Nat):Int))),(55,.v (.slice A l.length c)),(56,.v (.int .i64 ((l.length:Nat):Int))),(57,.v (.int .i64 ((q:Nat):Int))),(90,.v (.slice ba ((qaC W l (Tree.mk n1 s2 b3 l4 u5) k2 ++ dm ++ (uv k2) ++ (uv ((W (Fld.mk ab ac ae af aa ag ah ai) (Tree.at_ (Tree.mk n1 s2 b3 l4 u5) q)).length))).length) bf)),(91,.v (.slice av ((W (Fld.mk ab ac ae af aa ag ah ai) (Tree.at_ (Tree.mk n1 s2 b3 l4 u5) q)).length) aw)),(92,.v (.slice aI ((qaC W l (Tree.mk n1 s2 b3 l4 u5) k2 ++ dm ++ (uv k2) ++ (uv ((W (Fld.mk ab ac ae af aa ag ah ai) (Tree.at_ (Tree.mk n1 s2 b3 l4 u5) q)).length))).length + (W (Fld.mk ab ac ae af aa ag ah ai) (Tree.at_ (Tree.mk n1 s2 b3 l4 u5) q)).length) aJ))]) kz
     have gZ:=gY.cast (env':=[(0,.v (.slice A l.length c)),(1,.v (.int .i64 v)),(2,.v (.bool flex)),(7,.p 0 0),(9,.v (.slice A_ ((qaK W l v (Tree.mk n1 s2 b3 l4 u5) 0).length) c_)),(11,.v (.int .i64 ((qaN W l (Tree.mk n1 s2 b3 l4 u5) k2 + cn:Nat):Int))),(14,.v (.int .i64 ((k2:Nat):Int))),(51,.v (.int .i64 (((qat l).toNat:Nat):Int))),(52,.v (.int .i64 ((k2:Nat):Int))),(55,.v (.slice A l.length c)),(56,.v (.int .i64 ((l.length:Nat):Int))),(57,.v (.int .i64 ((q:Nat):Int))),(90,.v (.slice ba ((qaC W l (Tree.mk n1 s2 b3 l4 u5) k2 ++ dm ++ (uv k2) ++ (uv ((W (Fld.mk ab ac ae af aa ag ah ai) (Tree.at_ (Tree.mk n1 s2 b3 l4 u5) q)).length))).length) bf)),(91,.v (.slice av ((W (Fld.mk ab ac ae af aa ag ah ai) (Tree.at_ (Tree.mk n1 s2 b3 l4 u5) q)).length) aw)),(92,.v (.slice aI ((qaC W l (Tree.mk n1 s2 b3 l4 u5) k2 ++ dm ++ (uv k2) ++ (uv ((W (Fld.mk ab ac ae af aa ag ah ai) (Tree.at_ (Tree.mk n1 s2 b3 l4 u5) q)).length)) ++ (W (Fld.mk ab ac ae af aa ag ah ai) (Tree.at_ (Tree.mk n1 s2 b3 l4 u5) q))).length) aJ))]) (by simp only [List.length_append,List.length_cons,List.length_nil,Nat.zero_add])
     refine qah [12] [] [(0,.v (.slice A l.length c)),(1,.v (.int .i64 v)),(2,.v (.bool flex)),(7,.p 0 0),(9,.v (.slice A_ ((qaK W l v (Tree.mk n1 s2 b3 l4 u5) 0).length) c_)),(10,.v (.slice aI ((qaC W l (Tree.mk n1 s2 b3 l4 u5) k2 ++ dm ++ (uv k2) ++ (uv ((W (Fld.mk ab ac ae af aa ag ah ai) (Tree.at_ (Tree.mk n1 s2 b3 l4 u5) q)).length)) ++ (W (Fld.mk ab ac ae af aa ag ah ai) (Tree.at_ (Tree.mk n1 s2 b3 l4 u5) q))).length) aJ)),(11,.v (.int .i64 ((qaN W l (Tree.mk n1 s2 b3 l4 u5) k2 + cn:Nat):Int))),(14,.v (.int .i64 ((k2:Nat):Int))),(51,.v (.int .i64 (((qat l).toNat:Nat):Int))),(52,.v (.int .i64 ((k2:Nat):Int))),(55,.v (.slice A l.length c)),(56,.v (.int .i64 ((l.length:Nat):Int))),(57,.v (.int .i64 ((q:Nat):Int)))] ce gZ fun nU g6=>?_
     refine qae (qab ?_)
     refine qaw [0,1,2] kz ?_
     refine qah [0,1,2] [] [(0,.v (.slice A l.length c)),(1,.v (.int .i64 v)),(2,.v (.bool flex)),(7,.p 0 0),(9,.v (.slice A_ ((qaK W l v (Tree.mk n1 s2 b3 l4 u5) 0).length) c_)),(10,.v (.slice aI ((qaC W l (Tree.mk n1 s2 b3 l4 u5) k2 ++ dm ++ (uv k2) ++ (uv ((W (Fld.mk ab ac ae af aa ag ah ai) (Tree.at_ (Tree.mk n1 s2 b3 l4 u5) q)).length)) ++ (W (Fld.mk ab ac ae af aa ag ah ai) (Tree.at_ (Tree.mk n1 s2 b3 l4 u5) q))).length) aJ)),(11,.v (.int .i64 (IntKind.i64.wrap (((qaN W l (Tree.mk n1 s2 b3 l4 u5) k2 + cn:Nat):Int) + 1)))),(14,.v (.int .i64 ((k2:Nat):Int))),(51,.v (.int .i64 (((qat l).toNat:Nat):Int))),(52,.v (.int .i64 ((k2:Nat):Int))),(55,.v (.slice A l.length c)),(56,.v (.int .i64 ((l.length:Nat):Int))),(57,.v (.int .i64 ((q:Nat):Int)))] ce g6 fun nV g7=>?_
     refine qae ?_
     refine qar ?_
     refine qab ?_
     refine qaw [0,1] kz ?_
     refine qah [0,1] [] [(0,.v (.slice A l.length c)),(1,.v (.int .i64 v)),(2,.v (.bool flex)),(7,.p 0 0),(9,.v (.slice A_ ((qaK W l v (Tree.mk n1 s2 b3 l4 u5) 0).length) c_)),(10,.v (.slice aI ((qaC W l (Tree.mk n1 s2 b3 l4 u5) k2 ++ dm ++ (uv k2) ++ (uv ((W (Fld.mk ab ac ae af aa ag ah ai) (Tree.at_ (Tree.mk n1 s2 b3 l4 u5) q)).length)) ++ (W (Fld.mk ab ac ae af aa ag ah ai) (Tree.at_ (Tree.mk n1 s2 b3 l4 u5) q))).length) aJ)),(11,.v (.int .i64 (IntKind.i64.wrap (((qaN W l (Tree.mk n1 s2 b3 l4 u5) k2 + cn:Nat):Int) + 1)))),(14,.v (.int .i64 ((k2:Nat):Int))),(51,.v (.int .i64 (((qat l).toNat:Nat):Int))),(52,.v (.int .i64 ((k2:Nat):Int))),(55,.v (.slice A l.length c)),(56,.v (.int .i64 ((l.length:Nat):Int))),(57,.v (.int .i64 (IntKind.i64.wrap (((q:Nat):Int) + 1))))] ce g7 fun nW g8=>?_
     refine qae (qab ?_)
     obtain ⟨cm,g9,hC⟩:=ce.cutB g8 1 [⟨cI,0,[.int .i64 n1,.slice A6 s2.length c7,.bool b3,.slice A8 l4.length c9,.slice aV u5.length aW],true⟩] [(0,.v (.slice A l.length c)),(1,.v (.int .i64 v)),(2,.v (.bool flex)),(7,.p 0 0),(9,.v (.slice A_ ((qaK W l v (Tree.mk n1 s2 b3 l4 u5) 0).length) c_)),(10,.v (.slice aI ((qaC W l (Tree.mk n1 s2 b3 l4 u5) k2 ++ dm ++ (uv k2) ++ (uv ((W (Fld.mk ab ac ae af aa ag ah ai) (Tree.at_ (Tree.mk n1 s2 b3 l4 u5) q)).length)) ++ (W (Fld.mk ab ac ae af aa ag ah ai) (Tree.at_ (Tree.mk n1 s2 b3 l4 u5) q))).length) aJ)),(11,.v (.int .i64 (IntKind.i64.wrap (((qaN W l (Tree.mk n1 s2 b3 l4 u5) k2 + cn:Nat):Int) + 1)))),(14,.v (.int .i64 ((k2:Nat):Int))),(51,.v (.int .i64 (((qat l).toNat:Nat):Int))),(52,.v (.int .i64 ((k2:Nat):Int))),(55,.v (.slice A l.length c)),(56,.v (.int .i64 ((l.length:Nat):Int))),(57,.v (.int .i64 (IntKind.i64.wrap (((q:Nat):Int) + 1))))]
     obtain ⟨hJ,hK⟩:=g9.cutR 2 [brow A_ c_ 5 (qaK W l v (Tree.mk n1 s2 b3 l4 u5) 0),brow aI aJ 5 (qaC W l (Tree.mk n1 s2 b3 l4 u5) k2 ++ dm ++ (uv k2) ++ (uv ((W (Fld.mk ab ac ae af aa ag ah ai) (Tree.at_ (Tree.mk n1 s2 b3 l4 u5) q)).length)) ++ (W (Fld.mk ab ac ae af aa ag ah ai) (Tree.at_ (Tree.mk n1 s2 b3 l4 u5) q)))]
     have d6:(qaC W l (Tree.mk n1 s2 b3 l4 u5) k2 ++ dm ++ (uv k2) ++ (uv ((W (Fld.mk ab ac ae af aa ag ah ai) (Tree.at_ (Tree.mk n1 s2 b3 l4 u5) q)).length)) ++ (W (Fld.mk ab ac ae af aa ag ah ai) (Tree.at_ (Tree.mk n1 s2 b3 l4 u5) q))) = (qaC W l (Tree.mk n1 s2 b3 l4 u5) k2 ++ (dm ++ (uv k2 ++ uv (W (Fld.mk ab ac ae af aa ag ah ai) (Tree.at_ (Tree.mk n1 s2 b3 l4 u5) q)).length ++ W (Fld.mk ab ac ae af aa ag ah ai) (Tree.at_ (Tree.mk n1 s2 b3 l4 u5) q)))):=by simp only [List.append_assoc]
     have hZ:=congrArg (brow aI aJ 5) d6
     obtain ⟨ia,ib⟩:=hJ.rowEq 1 [brow A_ c_ 5 (qaK W l v (Tree.mk n1 s2 b3 l4 u5) 0),brow aI aJ 5 (qaC W l (Tree.mk n1 s2 b3 l4 u5) k2 ++ (dm ++ (uv k2 ++ uv (W (Fld.mk ab ac ae af aa ag ah ai) (Tree.at_ (Tree.mk n1 s2 b3 l4 u5) q)).length ++ W (Fld.mk ab ac ae af aa ag ah ai) (Tree.at_ (Tree.mk n1 s2 b3 l4 u5) q))))] hZ
     rw [d6] at cm
     have ic:IntKind.i64.wrap (((q:Nat):Int) + 1) = ((q + 1:Nat):Int):=qaM (by omega)
     rw [ic] at cm
     have ig:IntKind.i64.wrap (((qaN W l (Tree.mk n1 s2 b3 l4 u5) k2 + cn:Nat):Int) + 1) = ((qaN W l (Tree.mk n1 s2 b3 l4 u5) k2 + (cn + 1):Nat):Int):=by rw [wrap_i64 (by omega) (by omega)]; omega
     rw [ig] at cm
     exact ⟨l.length - (q + 1),by omega,q + 1,aI,aJ,(dm ++ (uv k2 ++ uv (W (Fld.mk ab ac ae af aa ag ah ai) (Tree.at_ (Tree.mk n1 s2 b3 l4 u5) q)).length ++ W (Fld.mk ab ac ae af aa ag ah ai) (Tree.at_ (Tree.mk n1 s2 b3 l4 u5) q))),(cn + 1),rfl,by omega,by rw [List.append_assoc,← qcU ap (by omega) (by simpa using ay)]; exact hB2,by rw [Nat.add_assoc,← qhR ap (by omega) (by simpa using ay)]; exact hN2,cm.pk,ia,(((((((((((((((((((bV.trans cX).trans cY).trans cZ).trans bX).trans db).trans f8).trans dg).trans dZ).trans gv).trans gw).trans gA).trans gK).trans gL).trans gP).trans gT).trans gX).trans hC).trans hK).trans ib)⟩
    refine wp_skip ?_
    refine qar ?_
    refine qab ?_
    refine qaw [0,1] kz ?_
    refine qah [0,1] [] [(0,.v (.slice A l.length c)),(1,.v (.int .i64 v)),(2,.v (.bool flex)),(7,.p 0 0),(9,.v (.slice A_ ((qaK W l v (Tree.mk n1 s2 b3 l4 u5) 0).length) c_)),(10,.v (.slice A3_ ((qaC W l (Tree.mk n1 s2 b3 l4 u5) k2 ++ dm).length) c3_)),(11,.v (.int .i64 ((qaN W l (Tree.mk n1 s2 b3 l4 u5) k2 + cn:Nat):Int))),(14,.v (.int .i64 ((k2:Nat):Int))),(51,.v (.int .i64 (((qat l).toNat:Nat):Int))),(52,.v (.int .i64 ((k2:Nat):Int))),(55,.v (.slice A l.length c)),(56,.v (.int .i64 ((l.length:Nat):Int))),(57,.v (.int .i64 (IntKind.i64.wrap (((q:Nat):Int) + 1))))] bY dc fun nX ii=>?_
    refine qae (qab ?_)
    obtain ⟨d7,ij,ik⟩:=bY.cutB ii 1 [⟨cI,0,[.int .i64 n1,.slice A6 s2.length c7,.bool b3,.slice A8 l4.length c9,.slice aV u5.length aW],true⟩] [(0,.v (.slice A l.length c)),(1,.v (.int .i64 v)),(2,.v (.bool flex)),(7,.p 0 0),(9,.v (.slice A_ ((qaK W l v (Tree.mk n1 s2 b3 l4 u5) 0).length) c_)),(10,.v (.slice A3_ ((qaC W l (Tree.mk n1 s2 b3 l4 u5) k2 ++ dm).length) c3_)),(11,.v (.int .i64 ((qaN W l (Tree.mk n1 s2 b3 l4 u5) k2 + cn:Nat):Int))),(14,.v (.int .i64 ((k2:Nat):Int))),(51,.v (.int .i64 (((qat l).toNat:Nat):Int))),(52,.v (.int .i64 ((k2:Nat):Int))),(55,.v (.slice A l.length c)),(56,.v (.int .i64 ((l.length:Nat):Int))),(57,.v (.int .i64 (IntKind.i64.wrap (((q:Nat):Int) + 1))))]
    have il:IntKind.i64.wrap (((q:Nat):Int) + 1) = ((q + 1:Nat):Int):=qaM (by omega)
    rw [il] at d7
    exact ⟨l.length - (q + 1),by omega,q + 1,A3_,c3_,dm,cn,rfl,by omega,by rw [← qgZ ap (by simpa using ay)]; exact hB2,by rw [← qg1 ap (by simpa using ay)]; exact hN2,d7.pk,ij,((((((bV.trans cX).trans cY).trans cZ).trans bX).trans db).trans ik)⟩
   have lH:aa ≠ ((k2:Nat):Int):=by simpa using bt
   have im:=dW.cast (env':=[(0,.v (.slice A l.length c)),(1,.v (.int .i64 v)),(2,.v (.bool flex)),(7,.p 0 0),(9,.v (.slice A_ ((qaK W l v (Tree.mk n1 s2 b3 l4 u5) 0).length) c_)),(10,.v (.slice A3_ ((qaC W l (Tree.mk n1 s2 b3 l4 u5) k2 ++ dm).length) c3_)),(11,.v (.int .i64 ((qaN W l (Tree.mk n1 s2 b3 l4 u5) k2 + cn:Nat):Int))),(14,.v (.int .i64 ((k2:Nat):Int))),(15,.v (.int .i64 ((q:Nat):Int))),(16,.p 1 0),(51,.v (.int .i64 (((qat l).toNat:Nat):Int))),(52,.v (.int .i64 ((k2:Nat):Int))),(55,.v (.slice A l.length c)),(56,.v (.int .i64 ((l.length:Nat):Int))),(57,.v (.int .i64 ((q:Nat):Int))),(66,.v (.bool false))]) (by rw [bt])
   refine qaH [5,6,7,8,9,10,11] [(0,.v (.slice A l.length c)),(1,.v (.int .i64 v)),(2,.v (.bool flex)),(7,.p 0 0),(9,.v (.slice A_ ((qaK W l v (Tree.mk n1 s2 b3 l4 u5) 0).length) c_)),(10,.v (.slice A3_ ((qaC W l (Tree.mk n1 s2 b3 l4 u5) k2 ++ dm).length) c3_)),(11,.v (.int .i64 ((qaN W l (Tree.mk n1 s2 b3 l4 u5) k2 + cn:Nat):Int))),(14,.v (.int .i64 ((k2:Nat):Int))),(15,.v (.int .i64 ((q:Nat):Int))),(16,.p 1 0),(51,.v (.int .i64 (((qat l).toNat:Nat):Int))),(52,.v (.int .i64 ((k2:Nat):Int))),(55,.v (.slice A l.length c)),(56,.v (.int .i64 ((l.length:Nat):Int))),(57,.v (.int .i64 ((q:Nat):Int))),(73,.v (.bool false))] 0 (qaa (qac (qaa (qaa (qac (qac (qaa (qaa (qac (qaa qaf)))))))))) (fun _ h=>h.cells) c5 im fun nY d8=>?_
   refine qaG kz ?_ _
   refine qab ?_
   refine qap d8 (b:=false) kz rfl ?_
   refine wp_skip ?_
   refine qar ?_
   refine qab ?_
   refine qaw [0,1] kz ?_
   refine qah [0,1] [] [(0,.v (.slice A l.length c)),(1,.v (.int .i64 v)),(2,.v (.bool flex)),(7,.p 0 0),(9,.v (.slice A_ ((qaK W l v (Tree.mk n1 s2 b3 l4 u5) 0).length) c_)),(10,.v (.slice A3_ ((qaC W l (Tree.mk n1 s2 b3 l4 u5) k2 ++ dm).length) c3_)),(11,.v (.int .i64 ((qaN W l (Tree.mk n1 s2 b3 l4 u5) k2 + cn:Nat):Int))),(14,.v (.int .i64 ((k2:Nat):Int))),(51,.v (.int .i64 (((qat l).toNat:Nat):Int))),(52,.v (.int .i64 ((k2:Nat):Int))),(55,.v (.slice A l.length c)),(56,.v (.int .i64 ((l.length:Nat):Int))),(57,.v (.int .i64 (IntKind.i64.wrap (((q:Nat):Int) + 1))))] aO d8 fun nZ io=>?_
   refine qae (qab ?_)
   obtain ⟨d9,ip,iq⟩:=aO.cutB io 1 [⟨cI,0,[.int .i64 n1,.slice A6 s2.length c7,.bool b3,.slice A8 l4.length c9,.slice aV u5.length aW],true⟩] [(0,.v (.slice A l.length c)),(1,.v (.int .i64 v)),(2,.v (.bool flex)),(7,.p 0 0),(9,.v (.slice A_ ((qaK W l v (Tree.mk n1 s2 b3 l4 u5) 0).length) c_)),(10,.v (.slice A3_ ((qaC W l (Tree.mk n1 s2 b3 l4 u5) k2 ++ dm).length) c3_)),(11,.v (.int .i64 ((qaN W l (Tree.mk n1 s2 b3 l4 u5) k2 + cn:Nat):Int))),(14,.v (.int .i64 ((k2:Nat):Int))),(51,.v (.int .i64 (((qat l).toNat:Nat):Int))),(52,.v (.int .i64 ((k2:Nat):Int))),(55,.v (.slice A l.length c)),(56,.v (.int .i64 ((l.length:Nat):Int))),(57,.v (.int .i64 (IntKind.i64.wrap (((q:Nat):Int) + 1))))]
   have ir:IntKind.i64.wrap (((q:Nat):Int) + 1) = ((q + 1:Nat):Int):=qaM (by omega)
   rw [ir] at d9
   exact ⟨l.length - (q + 1),by omega,q + 1,A3_,c3_,dm,cn,rfl,by omega,by rw [← qgY ap (by omega)]; exact hB2,by rw [← qg0 ap (by omega)]; exact hN2,d9.pk,ip,((((bV.trans cX).trans cY).trans cZ).trans iq)⟩
  have lI:=of_decide_eq_false cU
  refine wp_exit ?_
  refine qaB ?_
  refine qaB ?_
  refine qaQ ?_
  refine qar ?_
  refine qab ?_
  refine qaw [0,1] kz ?_
  refine qah [0,1] [] [(0,.v (.slice A l.length c)),(1,.v (.int .i64 v)),(2,.v (.bool flex)),(7,.p 0 0),(9,.v (.slice A_ ((qaK W l v (Tree.mk n1 s2 b3 l4 u5) 0).length) c_)),(10,.v (.slice A3_ ((qaC W l (Tree.mk n1 s2 b3 l4 u5) k2 ++ dm).length) c3_)),(11,.v (.int .i64 ((qaN W l (Tree.mk n1 s2 b3 l4 u5) k2 + cn:Nat):Int))),(51,.v (.int .i64 (((qat l).toNat:Nat):Int))),(52,.v (.int .i64 (IntKind.i64.wrap (((k2:Nat):Int) + 1))))] aZ cT fun n0 cq=>?_
  refine qae (qab ?_)
  have ea:(qaC W l (Tree.mk n1 s2 b3 l4 u5) k2 ++ dm) = (qaC W l (Tree.mk n1 s2 b3 l4 u5) (k2 + 1)):=by rw [qaC,← hB2,qhQ (by omega),List.append_nil]
  have iu:=congrArg (brow A3_ c3_ 5) ea
  obtain ⟨iv,iw⟩:=aZ.rowEq 1 [brow A_ c_ 5 (qaK W l v (Tree.mk n1 s2 b3 l4 u5) 0),brow A3_ c3_ 5 (qaC W l (Tree.mk n1 s2 b3 l4 u5) (k2 + 1))] iu
  rw [ea] at cq
  have ix:IntKind.i64.wrap (((k2:Nat):Int) + 1) = ((k2 + 1:Nat):Int):=qaM (by omega)
  rw [ix] at cq
  have iy:((qaN W l (Tree.mk n1 s2 b3 l4 u5) k2 + cn:Nat):Int) = ((qaN W l (Tree.mk n1 s2 b3 l4 u5) (k2 + 1):Nat):Int):=by rw [qaN,← hN2,qhS (by omega),Nat.add_zero]
  rw [iy] at cq
  exact ⟨(qat l).toNat - (k2 + 1),by omega,k2 + 1,A3_,c3_,rfl,by omega,cq.pk,iv,(((fJ.trans fM).trans bV).trans iw)⟩
 have lJ:=of_decide_eq_false cS
 refine wp_exit ?_
 refine qaB ?_
 refine qaB ?_
 refine qaQ ?_
 refine qab ?_
 refine wp_seq ?_
 refine qad [0,1,2,3,4,5] kz ?_
 refine qah [0,1,2] [3,4,5] [(9,.v (.slice A_ ((qaK W l v (Tree.mk n1 s2 b3 l4 u5) 0).length) c_)),(10,.v (.slice A2_ ((qaC W l (Tree.mk n1 s2 b3 l4 u5) k2).length) c2_)),(11,.v (.int .i64 ((qaN W l (Tree.mk n1 s2 b3 l4 u5) k2:Nat):Int))),(97,.v (.slice A l.length c)),(99,.v (.slice aV u5.length aW))] ao cR fun n4 iz=>?_
 refine qam (qai iz (f:=53) (vs:=[.slice A l.length c,.slice aV u5.length aW]) (d:=100) kz Tryd.call53 (qeD _ _ l _ _ u5 _ _ ⟨xfs,(h1.move ao.step nilM ao.imm),(fun i_ x_ h_=>((h2 i_ x_ h_).move ao.step nilM ao.imm))⟩ (l6.move ao.step nilM ao.imm)) ?_)
 rintro e_ n5 ⟨al,am,rfl,iA,dj⟩
 have iB:=iA.move (Step.refl _ Nil) nilM (ao.laid (G:=F) dj)
 refine ⟨_,rfl,fun n8 iC=>?_⟩
 have eb:=ao.next_nil dj
 have lK:=ao.frN dj
 refine qah [4,5] [] [(9,.v (.slice A_ ((qaK W l v (Tree.mk n1 s2 b3 l4 u5) 0).length) c_)),(10,.v (.slice A2_ ((qaC W l (Tree.mk n1 s2 b3 l4 u5) k2).length) c2_)),(11,.v (.int .i64 ((qaN W l (Tree.mk n1 s2 b3 l4 u5) k2:Nat):Int))),(100,.v (.slice al ((qag l u5).length) am)),(101,.v (.int .i64 (((qag l u5).length:Nat):Int))),(102,.v (.int .i64 0))] eb iC fun oa ec=>?_
 refine qae (qab ?_)
 refine wp_block ?_
 obtain ⟨lL,iD,k5⟩:=iB.ex
 have k6:=iD.small
 have hkk2:k2 = (qat l).toNat:=by omega
 have hc2:=hcnt k2
 have hm2:=hmono k2 (by omega)
 have ee:(qaC W l (Tree.mk n1 s2 b3 l4 u5) k2) = (qaC W l (Tree.mk n1 s2 b3 l4 u5) k2 ++ qaU ((qag l u5).take 0)):=(List.append_nil _).symm
 have iE:=congrArg (brow A2_ c2_ 5) ee
 obtain ⟨ef,aM⟩:=eb.rowEq 1 [brow A_ c_ 5 (qaK W l v (Tree.mk n1 s2 b3 l4 u5) 0),brow A2_ c2_ 5 (qaC W l (Tree.mk n1 s2 b3 l4 u5) k2 ++ qaU ((qag l u5).take 0))] iE
 rw [ee] at ec
 refine wp_loop_ghost (fun n_ a_ w_=>∃ (k:Nat) (A4_:Option Addr) (c4_:Nat),n_ = (qag l u5).length - k ∧ k ≤ (qag l u5).length ∧ LInv ef 132 [⟨cI,0,[.int .i64 n1,.slice A6 s2.length c7,.bool b3,.slice A8 l4.length c9,.slice aV u5.length aW],true⟩] [brow A_ c_ 5 (qaK W l v (Tree.mk n1 s2 b3 l4 u5) 0),brow A4_ c4_ 5 (qaC W l (Tree.mk n1 s2 b3 l4 u5) k2 ++ qaU ((qag l u5).take k))] [(9,.v (.slice A_ ((qaK W l v (Tree.mk n1 s2 b3 l4 u5) 0).length) c_)),(10,.v (.slice A4_ ((qaC W l (Tree.mk n1 s2 b3 l4 u5) k2 ++ qaU ((qag l u5).take k)).length) c4_)),(11,.v (.int .i64 ((qaN W l (Tree.mk n1 s2 b3 l4 u5) k2 + k:Nat):Int))),(100,.v (.slice al ((qag l u5).length) am)),(101,.v (.int .i64 (((qag l u5).length:Nat):Int))),(102,.v (.int .i64 ((k:Nat):Int)))] a_ w_) ((qag l u5).length) ⟨0,A2_,c2_,by omega,by omega,ec.pk,ef,Fr.refl _ _ _⟩ ?_
 rintro od oe og ⟨k,A4_,c4_,lM,lN,iF,cr,aH⟩
 refine qan [(9,.v (.slice A_ ((qaK W l v (Tree.mk n1 s2 b3 l4 u5) 0).length) c_)),(10,.v (.slice A4_ ((qaC W l (Tree.mk n1 s2 b3 l4 u5) k2 ++ qaU ((qag l u5).take k)).length) c4_)),(11,.v (.int .i64 ((qaN W l (Tree.mk n1 s2 b3 l4 u5) k2 + k:Nat):Int))),(100,.v (.slice al ((qag l u5).length) am)),(101,.v (.int .i64 (((qag l u5).length:Nat):Int))),(102,.v (.int .i64 ((k:Nat):Int))),(103,.v (.bool (decide (((k:Nat):Int) < (((qag l u5).length:Nat):Int)))))] cr iF fun oh dl=>?_
 refine wp_seq ?_
 refine qau dl (b:=decide (((k:Nat):Int) < (((qag l u5).length:Nat):Int))) kz (fun dp=>?_) (fun dp=>?_)
 ·
  have lO:=of_decide_eq_true dp
  refine wp_skip ?_
  refine qab ?_
  refine wp_seq ?_
  refine wp_block ?_
  refine qad [0,1,2,3] kz ?_
  obtain ⟨k7,k8,iG,lP,dq⟩:=Slots.get iD (i:=k) (by omega)
  obtain ⟨⟨ak,aj⟩,bA⟩:∃ x,(qag l u5)[k]? = some x:=⟨_,List.getElem?_eq_getElem (by omega)⟩
  obtain ⟨⟨ar,au,eK,dr⟩,ol,om⟩:=k5 k ak aj bA
  rw [eK] at dq
  refine qam (qaz dl (t:=35) (A:=al) (m:=((qag l u5).length)) (q:=((k:Nat):Int)) (d:=104) kz (e:=64) (size:=2) (bytes:=32) kz iG rfl (by omega) fun oq iH=>?_)
  refine qam (qaE iH (t:=64) (b:=k7) (o:=k8 + k * 2) (d:=105) kz (cs:=[.int .u32 ak,.slice ar aj.length au]) (v:=.agg #[.int .u32 ak,.slice ar aj.length au]) kz (AtF.move dq (aM.trans aH).step immM (aM.trans aH).to').at_ fun ot iI=>?_)
  refine qam (qaO cr iI (d:=19) (cs:=[.int .u32 0,.slice none 0 0]) kz fun ou ov ow lQ lR aR iJ iK=>?_)
  refine qam (qay iJ iK (oi:=1) (cs:=[.int .u32 ak,.slice ar aj.length au]) kz fun ox aS dt iL=>?_)
  refine qae (qab ?_)
  refine qad [0,1,2,3] kz ?_
  refine qah [0,1] [2,3] [(9,.v (.slice A_ ((qaK W l v (Tree.mk n1 s2 b3 l4 u5) 0).length) c_)),(10,.v (.slice A4_ ((qaC W l (Tree.mk n1 s2 b3 l4 u5) k2 ++ qaU ((qag l u5).take k)).length) c4_)),(11,.v (.int .i64 ((qaN W l (Tree.mk n1 s2 b3 l4 u5) k2 + k:Nat):Int))),(19,.p 1 0),(100,.v (.slice al ((qag l u5).length) am)),(101,.v (.int .i64 (((qag l u5).length:Nat):Int))),(102,.v (.int .i64 ((k:Nat):Int))),(107,.v (.slice ar aj.length au))] dt iL fun oy iM=>?_
  have k9:=qa4 aj
  refine qam (qai iM (f:=54) (vs:=[.slice ar aj.length au]) (d:=108) kz Tryd.call54 (qcI _ _ aj (dr.move (((aM.trans aH).trans aR).trans aS).step immM (((aM.trans aH).trans aR).trans aS).to').le _) ?_)
  rintro e_ oz ⟨rfl,eg⟩
  refine ⟨_,rfl,fun oA iN=>?_⟩
  have du:=dt.next_nil eg
  have bB:=dt.frN eg
  refine qah [3] [] [(9,.v (.slice A_ ((qaK W l v (Tree.mk n1 s2 b3 l4 u5) 0).length) c_)),(10,.v (.slice A4_ ((qaC W l (Tree.mk n1 s2 b3 l4 u5) k2 ++ qaU ((qag l u5).take k)).length) c4_)),(11,.v (.int .i64 ((qaN W l (Tree.mk n1 s2 b3 l4 u5) k2 + k:Nat):Int))),(19,.p 1 0),(20,.v (.slice ar ((qax aj).length) au)),(100,.v (.slice al ((qag l u5).length) am)),(101,.v (.int .i64 (((qag l u5).length:Nat):Int))),(102,.v (.int .i64 ((k:Nat):Int)))] du iN fun oB iO=>?_
  refine qae (qab ?_)
  refine qad [0,1,2,3,4,5,6,7,8,9,10,11,12,13] kz ?_
  refine qah [0,1,2,3] [4,5,6,7,8,9,10,11,12,13] [(9,.v (.slice A_ ((qaK W l v (Tree.mk n1 s2 b3 l4 u5) 0).length) c_)),(11,.v (.int .i64 ((qaN W l (Tree.mk n1 s2 b3 l4 u5) k2 + k:Nat):Int))),(20,.v (.slice ar ((qax aj).length) au)),(100,.v (.slice al ((qag l u5).length) am)),(101,.v (.int .i64 (((qag l u5).length:Nat):Int))),(102,.v (.int .i64 ((k:Nat):Int))),(109,.v (.slice A4_ ((qaC W l (Tree.mk n1 s2 b3 l4 u5) k2 ++ qaU ((qag l u5).take k)).length) c4_)),(112,.v (.int .u64 (IntKind.u64.wrap ak)))] du iO fun oC iP=>?_
  have iQ:IntKind.u64.wrap ak = ((ak.toNat:Nat):Int):=by simp only [qaF,qas,qbg,IntKind.wrap_i64,IntKind.wrap_i32]; omega
  have iR:=EnvOk.pick iP (ks:=[9,11,20,100,101,102,109,112]) (env':=[(9,.v (.slice A_ ((qaK W l v (Tree.mk n1 s2 b3 l4 u5) 0).length) c_)),(11,.v (.int .i64 ((qaN W l (Tree.mk n1 s2 b3 l4 u5) k2 + k:Nat):Int))),(20,.v (.slice ar ((qax aj).length) au)),(100,.v (.slice al ((qag l u5).length) am)),(101,.v (.int .i64 (((qag l u5).length:Nat):Int))),(102,.v (.int .i64 ((k:Nat):Int))),(109,.v (.slice A4_ ((qaC W l (Tree.mk n1 s2 b3 l4 u5) k2 ++ qaU ((qag l u5).take k)).length) c4_)),(112,.v (.int .u64 (IntKind.u64.wrap ak)))]) kz
  have iS:=iR.cast (env':=[(9,.v (.slice A_ ((qaK W l v (Tree.mk n1 s2 b3 l4 u5) 0).length) c_)),(11,.v (.int .i64 ((qaN W l (Tree.mk n1 s2 b3 l4 u5) k2 + k:Nat):Int))),(20,.v (.slice ar ((qax aj).length) au)),(100,.v (.slice al ((qag l u5).length) am)),(101,.v (.int .i64 (((qag l u5).length:Nat):Int))),(102,.v (.int .i64 ((k:Nat):Int))),(109,.v (.slice A4_ ((qaC W l (Tree.mk n1 s2 b3 l4 u5) k2 ++ qaU ((qag l u5).take k)).length) c4_)),(112,.v (.int .u64 ((ak.toNat:Nat):Int)))]) (by rw [iQ])
  refine qam (qai iS (f:=83) (vs:=[.int .u64 ((ak.toNat:Nat):Int)]) (d:=113) kz Tryd.call83 (qcX ak.toNat (by omega) _) ?_)
  rintro e_ oD ⟨bL,bM,rfl,iT,iU⟩
  refine ⟨_,rfl,fun oE iV=>?_⟩
  obtain ⟨dv,bC⟩:=du.frFresh iU (brow bL bM 5 (uv ak.toNat)) (Nat.le_refl _) iT
  refine qam (qaW dv iV (k:=1) (d:=114) (t:=22) (e:=5) (size:=1) (bytes:=1) (A:=A4_) (As:=bL) (m0:=((qaC W l (Tree.mk n1 s2 b3 l4 u5) k2 ++ qaU ((qag l u5).take k)).length)) (c:=c4_) (m:=((uv ak.toNat).length)) (cs:=bM) (xs:=(bc (qaC W l (Tree.mk n1 s2 b3 l4 u5) k2 ++ qaU ((qag l u5).take k)))) (news:=bc (uv ak.toNat)) kz kz rfl (qbB (dv.own 2 _ rfl) (qch _)) (qbN (dv.own 2 _ rfl)) (by have h_:=qex (l:=(qag l u5)) (k + 1); rw [qcV bA] at h_; simp only [List.length_append] at h_ ⊢; omega) fun aT aU oF oG bD iW iX=>?_)
  have iY:(⟨aT,aU,5,1,(qaC W l (Tree.mk n1 s2 b3 l4 u5) k2 ++ qaU ((qag l u5).take k)).length + (uv ak.toNat).length,bc (qaC W l (Tree.mk n1 s2 b3 l4 u5) k2 ++ qaU ((qag l u5).take k)) ++ bc (uv ak.toNat)⟩:Rw) = brow aT aU 5 (qaC W l (Tree.mk n1 s2 b3 l4 u5) k2 ++ qaU ((qag l u5).take k) ++ (uv ak.toNat)):=qbq (rfl) rfl
  obtain ⟨eh,bE⟩:=iW.rowEq 1 [brow A_ c_ 5 (qaK W l v (Tree.mk n1 s2 b3 l4 u5) 0),brow aT aU 5 (qaC W l (Tree.mk n1 s2 b3 l4 u5) k2 ++ qaU ((qag l u5).take k) ++ (uv ak.toNat)),brow bL bM 5 (uv ak.toNat)] iY
  have iZ:=EnvOk.pick iX (ks:=[9,11,20,100,101,102,109,112,113,114]) (env':=[(9,.v (.slice A_ ((qaK W l v (Tree.mk n1 s2 b3 l4 u5) 0).length) c_)),(11,.v (.int .i64 ((qaN W l (Tree.mk n1 s2 b3 l4 u5) k2 + k:Nat):Int))),(20,.v (.slice ar ((qax aj).length) au)),(100,.v (.slice al ((qag l u5).length) am)),(101,.v (.int .i64 (((qag l u5).length:Nat):Int))),(102,.v (.int .i64 ((k:Nat):Int))),(109,.v (.slice A4_ ((qaC W l (Tree.mk n1 s2 b3 l4 u5) k2 ++ qaU ((qag l u5).take k)).length) c4_)),(112,.v (.int .u64 ((ak.toNat:Nat):Int))),(113,.v (.slice bL ((uv ak.toNat).length) bM)),(114,.v (.slice aT ((qaC W l (Tree.mk n1 s2 b3 l4 u5) k2 ++ qaU ((qag l u5).take k)).length + (uv ak.toNat).length) aU))]) kz
  have i6:=iZ.cast (env':=[(9,.v (.slice A_ ((qaK W l v (Tree.mk n1 s2 b3 l4 u5) 0).length) c_)),(11,.v (.int .i64 ((qaN W l (Tree.mk n1 s2 b3 l4 u5) k2 + k:Nat):Int))),(20,.v (.slice ar ((qax aj).length) au)),(100,.v (.slice al ((qag l u5).length) am)),(101,.v (.int .i64 (((qag l u5).length:Nat):Int))),(102,.v (.int .i64 ((k:Nat):Int))),(109,.v (.slice A4_ ((qaC W l (Tree.mk n1 s2 b3 l4 u5) k2 ++ qaU ((qag l u5).take k)).length) c4_)),(112,.v (.int .u64 ((ak.toNat:Nat):Int))),(113,.v (.slice bL ((uv ak.toNat).length) bM)),(114,.v (.slice aT ((qaC W l (Tree.mk n1 s2 b3 l4 u5) k2 ++ qaU ((qag l u5).take k) ++ (uv ak.toNat)).length) aU))]) (by simp only [List.length_append,List.length_cons,List.length_nil,Nat.zero_add])
  refine qah [6,7,8] [9,10,11,12,13] [(9,.v (.slice A_ ((qaK W l v (Tree.mk n1 s2 b3 l4 u5) 0).length) c_)),(11,.v (.int .i64 ((qaN W l (Tree.mk n1 s2 b3 l4 u5) k2 + k:Nat):Int))),(20,.v (.slice ar ((qax aj).length) au)),(100,.v (.slice al ((qag l u5).length) am)),(101,.v (.int .i64 (((qag l u5).length:Nat):Int))),(102,.v (.int .i64 ((k:Nat):Int))),(114,.v (.slice aT ((qaC W l (Tree.mk n1 s2 b3 l4 u5) k2 ++ qaU ((qag l u5).take k) ++ (uv ak.toNat)).length) aU)),(117,.v (.int .u64 (IntKind.u64.wrap (((qax aj).length:Nat):Int))))] eh i6 fun oH i7=>?_
  have ja:IntKind.u64.wrap (((qax aj).length:Nat):Int) = (((qax aj).length:Nat):Int):=by simp only [qaF,qas,qbg,IntKind.wrap_i64,IntKind.wrap_i32]; omega
  have jb:=EnvOk.pick i7 (ks:=[9,11,20,100,101,102,114,117]) (env':=[(9,.v (.slice A_ ((qaK W l v (Tree.mk n1 s2 b3 l4 u5) 0).length) c_)),(11,.v (.int .i64 ((qaN W l (Tree.mk n1 s2 b3 l4 u5) k2 + k:Nat):Int))),(20,.v (.slice ar ((qax aj).length) au)),(100,.v (.slice al ((qag l u5).length) am)),(101,.v (.int .i64 (((qag l u5).length:Nat):Int))),(102,.v (.int .i64 ((k:Nat):Int))),(114,.v (.slice aT ((qaC W l (Tree.mk n1 s2 b3 l4 u5) k2 ++ qaU ((qag l u5).take k) ++ (uv ak.toNat)).length) aU)),(117,.v (.int .u64 (IntKind.u64.wrap (((qax aj).length:Nat):Int))))]) kz
  have jc:=jb.cast (env':=[(9,.v (.slice A_ ((qaK W l v (Tree.mk n1 s2 b3 l4 u5) 0).length) c_)),(11,.v (.int .i64 ((qaN W l (Tree.mk n1 s2 b3 l4 u5) k2 + k:Nat):Int))),(20,.v (.slice ar ((qax aj).length) au)),(100,.v (.slice al ((qag l u5).length) am)),(101,.v (.int .i64 (((qag l u5).length:Nat):Int))),(102,.v (.int .i64 ((k:Nat):Int))),(114,.v (.slice aT ((qaC W l (Tree.mk n1 s2 b3 l4 u5) k2 ++ qaU ((qag l u5).take k) ++ (uv ak.toNat)).length) aU)),(117,.v (.int .u64 (((qax aj).length:Nat):Int)))]) (by rw [ja])
  refine qam (qai jc (f:=83) (vs:=[.int .u64 (((qax aj).length:Nat):Int)]) (d:=118) kz Tryd.call83 (qcX ((qax aj).length) (by omega) _) ?_)
  rintro e_ oI ⟨cD,cE,rfl,jd,je⟩
  refine ⟨_,rfl,fun oJ jf=>?_⟩
  obtain ⟨dw,bF⟩:=eh.frFresh je (brow cD cE 5 (uv ((qax aj).length))) (Nat.le_refl _) jd
  refine qam (qaW dw jf (k:=1) (d:=119) (t:=22) (e:=5) (size:=1) (bytes:=1) (A:=aT) (As:=cD) (m0:=((qaC W l (Tree.mk n1 s2 b3 l4 u5) k2 ++ qaU ((qag l u5).take k) ++ (uv ak.toNat)).length)) (c:=aU) (m:=((uv ((qax aj).length)).length)) (cs:=cE) (xs:=(bc (qaC W l (Tree.mk n1 s2 b3 l4 u5) k2 ++ qaU ((qag l u5).take k) ++ (uv ak.toNat)))) (news:=bc (uv ((qax aj).length))) kz kz rfl (qbB (dw.own 3 _ rfl) (qch _)) (qbN (dw.own 3 _ rfl)) (by have h_:=qex (l:=(qag l u5)) (k + 1); rw [qcV bA] at h_; simp only [List.length_append] at h_ ⊢; omega) fun bg bh oK oL bG jg jh=>?_)
  have ji:(⟨bg,bh,5,1,(qaC W l (Tree.mk n1 s2 b3 l4 u5) k2 ++ qaU ((qag l u5).take k) ++ (uv ak.toNat)).length + (uv ((qax aj).length)).length,bc (qaC W l (Tree.mk n1 s2 b3 l4 u5) k2 ++ qaU ((qag l u5).take k) ++ (uv ak.toNat)) ++ bc (uv ((qax aj).length))⟩:Rw) = brow bg bh 5 (qaC W l (Tree.mk n1 s2 b3 l4 u5) k2 ++ qaU ((qag l u5).take k) ++ (uv ak.toNat) ++ (uv ((qax aj).length))):=qbq (rfl) rfl
  obtain ⟨ei,bH⟩:=jg.rowEq 1 [brow A_ c_ 5 (qaK W l v (Tree.mk n1 s2 b3 l4 u5) 0),brow bg bh 5 (qaC W l (Tree.mk n1 s2 b3 l4 u5) k2 ++ qaU ((qag l u5).take k) ++ (uv ak.toNat) ++ (uv ((qax aj).length))),brow bL bM 5 (uv ak.toNat),brow cD cE 5 (uv ((qax aj).length))] ji
  have jj:=EnvOk.pick jh (ks:=[9,11,20,100,101,102,114,117,118,119]) (env':=[(9,.v (.slice A_ ((qaK W l v (Tree.mk n1 s2 b3 l4 u5) 0).length) c_)),(11,.v (.int .i64 ((qaN W l (Tree.mk n1 s2 b3 l4 u5) k2 + k:Nat):Int))),(20,.v (.slice ar ((qax aj).length) au)),(100,.v (.slice al ((qag l u5).length) am)),(101,.v (.int .i64 (((qag l u5).length:Nat):Int))),(102,.v (.int .i64 ((k:Nat):Int))),(114,.v (.slice aT ((qaC W l (Tree.mk n1 s2 b3 l4 u5) k2 ++ qaU ((qag l u5).take k) ++ (uv ak.toNat)).length) aU)),(117,.v (.int .u64 (((qax aj).length:Nat):Int))),(118,.v (.slice cD ((uv ((qax aj).length)).length) cE)),(119,.v (.slice bg ((qaC W l (Tree.mk n1 s2 b3 l4 u5) k2 ++ qaU ((qag l u5).take k) ++ (uv ak.toNat)).length + (uv ((qax aj).length)).length) bh))]) kz
  have jk:=jj.cast (env':=[(9,.v (.slice A_ ((qaK W l v (Tree.mk n1 s2 b3 l4 u5) 0).length) c_)),(11,.v (.int .i64 ((qaN W l (Tree.mk n1 s2 b3 l4 u5) k2 + k:Nat):Int))),(20,.v (.slice ar ((qax aj).length) au)),(100,.v (.slice al ((qag l u5).length) am)),(101,.v (.int .i64 (((qag l u5).length:Nat):Int))),(102,.v (.int .i64 ((k:Nat):Int))),(114,.v (.slice aT ((qaC W l (Tree.mk n1 s2 b3 l4 u5) k2 ++ qaU ((qag l u5).take k) ++ (uv ak.toNat)).length) aU)),(117,.v (.int .u64 (((qax aj).length:Nat):Int))),(118,.v (.slice cD ((uv ((qax aj).length)).length) cE)),(119,.v (.slice bg ((qaC W l (Tree.mk n1 s2 b3 l4 u5) k2 ++ qaU ((qag l u5).take k) ++ (uv ak.toNat) ++ (uv ((qax aj).length))).length) bh))]) (by simp only [List.length_append,List.length_cons,List.length_nil,Nat.zero_add])
  refine qah [11] [12,13] [(9,.v (.slice A_ ((qaK W l v (Tree.mk n1 s2 b3 l4 u5) 0).length) c_)),(11,.v (.int .i64 ((qaN W l (Tree.mk n1 s2 b3 l4 u5) k2 + k:Nat):Int))),(100,.v (.slice al ((qag l u5).length) am)),(101,.v (.int .i64 (((qag l u5).length:Nat):Int))),(102,.v (.int .i64 ((k:Nat):Int))),(119,.v (.slice bg ((qaC W l (Tree.mk n1 s2 b3 l4 u5) k2 ++ qaU ((qag l u5).take k) ++ (uv ak.toNat) ++ (uv ((qax aj).length))).length) bh)),(120,.v (.slice ar ((qax aj).length) au))] ei jk fun oM jl=>?_
  refine qam (qaW ei jl (k:=1) (d:=121) (t:=22) (e:=5) (size:=1) (bytes:=1) (A:=bg) (As:=ar) (m0:=((qaC W l (Tree.mk n1 s2 b3 l4 u5) k2 ++ qaU ((qag l u5).take k) ++ (uv ak.toNat) ++ (uv ((qax aj).length))).length)) (c:=bh) (m:=((qax aj).length)) (cs:=au) (xs:=(bc (qaC W l (Tree.mk n1 s2 b3 l4 u5) k2 ++ qaU ((qag l u5).take k) ++ (uv ak.toNat) ++ (uv ((qax aj).length))))) (news:=bc (qax aj)) kz kz rfl ((dr.take 32767).move ((((((((((aM.trans aH).trans aR).trans aS).trans bB).trans bC).trans bD).trans bE).trans bF).trans bG).trans bH).step immM ((((((((((aM.trans aH).trans aR).trans aS).trans bB).trans bC).trans bD).trans bE).trans bF).trans bG).trans bH).to').src ((dr.take 32767).move ((((((((((aM.trans aH).trans aR).trans aS).trans bB).trans bC).trans bD).trans bE).trans bF).trans bG).trans bH).step immM ((((((((((aM.trans aH).trans aR).trans aS).trans bB).trans bC).trans bD).trans bE).trans bF).trans bG).trans bH).to').cap (by have h_:=qex (l:=(qag l u5)) (k + 1); rw [qcV bA] at h_; simp only [List.length_append] at h_ ⊢; omega) fun aK aL oN oO jm jn jo=>?_)
  have jp:(⟨aK,aL,5,1,(qaC W l (Tree.mk n1 s2 b3 l4 u5) k2 ++ qaU ((qag l u5).take k) ++ (uv ak.toNat) ++ (uv ((qax aj).length))).length + (qax aj).length,bc (qaC W l (Tree.mk n1 s2 b3 l4 u5) k2 ++ qaU ((qag l u5).take k) ++ (uv ak.toNat) ++ (uv ((qax aj).length))) ++ bc (qax aj)⟩:Rw) = brow aK aL 5 (qaC W l (Tree.mk n1 s2 b3 l4 u5) k2 ++ qaU ((qag l u5).take k) ++ (uv ak.toNat) ++ (uv ((qax aj).length)) ++ (qax aj)):=qbq (rfl) rfl
  obtain ⟨cu,jq⟩:=jn.rowEq 1 [brow A_ c_ 5 (qaK W l v (Tree.mk n1 s2 b3 l4 u5) 0),brow aK aL 5 (qaC W l (Tree.mk n1 s2 b3 l4 u5) k2 ++ qaU ((qag l u5).take k) ++ (uv ak.toNat) ++ (uv ((qax aj).length)) ++ (qax aj)),brow bL bM 5 (uv ak.toNat),brow cD cE 5 (uv ((qax aj).length))] jp
  have jr:=EnvOk.pick jo (ks:=[9,11,100,101,102,119,120,121]) (env':=[(9,.v (.slice A_ ((qaK W l v (Tree.mk n1 s2 b3 l4 u5) 0).length) c_)),(11,.v (.int .i64 ((qaN W l (Tree.mk n1 s2 b3 l4 u5) k2 + k:Nat):Int))),(100,.v (.slice al ((qag l u5).length) am)),(101,.v (.int .i64 (((qag l u5).length:Nat):Int))),(102,.v (.int .i64 ((k:Nat):Int))),(119,.v (.slice bg ((qaC W l (Tree.mk n1 s2 b3 l4 u5) k2 ++ qaU ((qag l u5).take k) ++ (uv ak.toNat) ++ (uv ((qax aj).length))).length) bh)),(120,.v (.slice ar ((qax aj).length) au)),(121,.v (.slice aK ((qaC W l (Tree.mk n1 s2 b3 l4 u5) k2 ++ qaU ((qag l u5).take k) ++ (uv ak.toNat) ++ (uv ((qax aj).length))).length + (qax aj).length) aL))]) kz
  have js:=jr.cast (env':=[(9,.v (.slice A_ ((qaK W l v (Tree.mk n1 s2 b3 l4 u5) 0).length) c_)),(11,.v (.int .i64 ((qaN W l (Tree.mk n1 s2 b3 l4 u5) k2 + k:Nat):Int))),(100,.v (.slice al ((qag l u5).length) am)),(101,.v (.int .i64 (((qag l u5).length:Nat):Int))),(102,.v (.int .i64 ((k:Nat):Int))),(119,.v (.slice bg ((qaC W l (Tree.mk n1 s2 b3 l4 u5) k2 ++ qaU ((qag l u5).take k) ++ (uv ak.toNat) ++ (uv ((qax aj).length))).length) bh)),(120,.v (.slice ar ((qax aj).length) au)),(121,.v (.slice aK ((qaC W l (Tree.mk n1 s2 b3 l4 u5) k2 ++ qaU ((qag l u5).take k) ++ (uv ak.toNat) ++ (uv ((qax aj).length)) ++ (qax aj)).length) aL))]) (by simp only [List.length_append,List.length_cons,List.length_nil,Nat.zero_add])
  refine qah [13] [] [(9,.v (.slice A_ ((qaK W l v (Tree.mk n1 s2 b3 l4 u5) 0).length) c_)),(10,.v (.slice aK ((qaC W l (Tree.mk n1 s2 b3 l4 u5) k2 ++ qaU ((qag l u5).take k) ++ (uv ak.toNat) ++ (uv ((qax aj).length)) ++ (qax aj)).length) aL)),(11,.v (.int .i64 ((qaN W l (Tree.mk n1 s2 b3 l4 u5) k2 + k:Nat):Int))),(100,.v (.slice al ((qag l u5).length) am)),(101,.v (.int .i64 (((qag l u5).length:Nat):Int))),(102,.v (.int .i64 ((k:Nat):Int)))] cu js fun oP jt=>?_
  refine qae (qab ?_)
  refine qaw [0,1,2] kz ?_
  refine qah [0,1,2] [] [(9,.v (.slice A_ ((qaK W l v (Tree.mk n1 s2 b3 l4 u5) 0).length) c_)),(10,.v (.slice aK ((qaC W l (Tree.mk n1 s2 b3 l4 u5) k2 ++ qaU ((qag l u5).take k) ++ (uv ak.toNat) ++ (uv ((qax aj).length)) ++ (qax aj)).length) aL)),(11,.v (.int .i64 (IntKind.i64.wrap (((qaN W l (Tree.mk n1 s2 b3 l4 u5) k2 + k:Nat):Int) + 1)))),(100,.v (.slice al ((qag l u5).length) am)),(101,.v (.int .i64 (((qag l u5).length:Nat):Int))),(102,.v (.int .i64 ((k:Nat):Int)))] cu jt fun oQ ju=>?_
  refine qae ?_
  refine qar ?_
  refine qab ?_
  refine qaw [0,1] kz ?_
  refine qah [0,1] [] [(9,.v (.slice A_ ((qaK W l v (Tree.mk n1 s2 b3 l4 u5) 0).length) c_)),(10,.v (.slice aK ((qaC W l (Tree.mk n1 s2 b3 l4 u5) k2 ++ qaU ((qag l u5).take k) ++ (uv ak.toNat) ++ (uv ((qax aj).length)) ++ (qax aj)).length) aL)),(11,.v (.int .i64 (IntKind.i64.wrap (((qaN W l (Tree.mk n1 s2 b3 l4 u5) k2 + k:Nat):Int) + 1)))),(100,.v (.slice al ((qag l u5).length) am)),(101,.v (.int .i64 (((qag l u5).length:Nat):Int))),(102,.v (.int .i64 (IntKind.i64.wrap (((k:Nat):Int) + 1))))] cu ju fun oR jv=>?_
  refine qae (qab ?_)
  obtain ⟨cw,jw,jx⟩:=cu.cutB jv 1 [⟨cI,0,[.int .i64 n1,.slice A6 s2.length c7,.bool b3,.slice A8 l4.length c9,.slice aV u5.length aW],true⟩] [(9,.v (.slice A_ ((qaK W l v (Tree.mk n1 s2 b3 l4 u5) 0).length) c_)),(10,.v (.slice aK ((qaC W l (Tree.mk n1 s2 b3 l4 u5) k2 ++ qaU ((qag l u5).take k) ++ (uv ak.toNat) ++ (uv ((qax aj).length)) ++ (qax aj)).length) aL)),(11,.v (.int .i64 (IntKind.i64.wrap (((qaN W l (Tree.mk n1 s2 b3 l4 u5) k2 + k:Nat):Int) + 1)))),(100,.v (.slice al ((qag l u5).length) am)),(101,.v (.int .i64 (((qag l u5).length:Nat):Int))),(102,.v (.int .i64 (IntKind.i64.wrap (((k:Nat):Int) + 1))))]
  obtain ⟨jy,jz⟩:=jw.cutR 2 [brow A_ c_ 5 (qaK W l v (Tree.mk n1 s2 b3 l4 u5) 0),brow aK aL 5 (qaC W l (Tree.mk n1 s2 b3 l4 u5) k2 ++ qaU ((qag l u5).take k) ++ (uv ak.toNat) ++ (uv ((qax aj).length)) ++ (qax aj))]
  have ej:(qaC W l (Tree.mk n1 s2 b3 l4 u5) k2 ++ qaU ((qag l u5).take k) ++ (uv ak.toNat) ++ (uv ((qax aj).length)) ++ (qax aj)) = (qaC W l (Tree.mk n1 s2 b3 l4 u5) k2 ++ qaU ((qag l u5).take (k + 1))):=by rw [qcV bA]; simp only [List.append_assoc]
  have jA:=congrArg (brow aK aL 5) ej
  obtain ⟨jB,jC⟩:=jy.rowEq 1 [brow A_ c_ 5 (qaK W l v (Tree.mk n1 s2 b3 l4 u5) 0),brow aK aL 5 (qaC W l (Tree.mk n1 s2 b3 l4 u5) k2 ++ qaU ((qag l u5).take (k + 1)))] jA
  rw [ej] at cw
  have jD:IntKind.i64.wrap (((k:Nat):Int) + 1) = ((k + 1:Nat):Int):=qaM (by omega)
  rw [jD] at cw
  have jE:IntKind.i64.wrap (((qaN W l (Tree.mk n1 s2 b3 l4 u5) k2 + k:Nat):Int) + 1) = ((qaN W l (Tree.mk n1 s2 b3 l4 u5) k2 + (k + 1):Nat):Int):=by rw [wrap_i64 (by omega) (by omega)]; omega
  rw [jE] at cw
  exact ⟨(qag l u5).length - (k + 1),by omega,k + 1,aK,aL,rfl,by omega,cw.pk,jB,((((((((((((((aH.trans aR).trans aS).trans bB).trans bC).trans bD).trans bE).trans bF).trans bG).trans bH).trans jm).trans jq).trans jx).trans jz).trans jC)⟩
 have lS:=of_decide_eq_false dp
 refine wp_exit ?_
 refine qaB ?_
 refine qaB ?_
 refine qaQ ?_
 refine qab ?_
 refine qad [0,1,2,3,4,5,6,7] kz ?_
 refine qah [0,1,2] [3,4,5,6,7] [(10,.v (.slice A4_ ((qaC W l (Tree.mk n1 s2 b3 l4 u5) k2 ++ qaU ((qag l u5).take k)).length) c4_)),(125,.v (.slice A_ ((qaK W l v (Tree.mk n1 s2 b3 l4 u5) 0).length) c_)),(127,.v (.int .u64 (IntKind.u64.wrap ((qaN W l (Tree.mk n1 s2 b3 l4 u5) k2 + k:Nat):Int))))] cr dl fun oS jF=>?_
 have jG:IntKind.u64.wrap ((qaN W l (Tree.mk n1 s2 b3 l4 u5) k2 + k:Nat):Int) = ((qaN W l (Tree.mk n1 s2 b3 l4 u5) k2 + k:Nat):Int):=by simp only [qaF,qas,qbg,IntKind.wrap_i64,IntKind.wrap_i32]; omega
 have jH:=EnvOk.pick jF (ks:=[10,125,127]) (env':=[(10,.v (.slice A4_ ((qaC W l (Tree.mk n1 s2 b3 l4 u5) k2 ++ qaU ((qag l u5).take k)).length) c4_)),(125,.v (.slice A_ ((qaK W l v (Tree.mk n1 s2 b3 l4 u5) 0).length) c_)),(127,.v (.int .u64 (IntKind.u64.wrap ((qaN W l (Tree.mk n1 s2 b3 l4 u5) k2 + k:Nat):Int))))]) kz
 have jI:=jH.cast (env':=[(10,.v (.slice A4_ ((qaC W l (Tree.mk n1 s2 b3 l4 u5) k2 ++ qaU ((qag l u5).take k)).length) c4_)),(125,.v (.slice A_ ((qaK W l v (Tree.mk n1 s2 b3 l4 u5) 0).length) c_)),(127,.v (.int .u64 ((qaN W l (Tree.mk n1 s2 b3 l4 u5) k2 + k:Nat):Int)))]) (by rw [jG])
 refine qam (qai jI (f:=83) (vs:=[.int .u64 ((qaN W l (Tree.mk n1 s2 b3 l4 u5) k2 + k:Nat):Int)]) (d:=128) kz Tryd.call83 (qcX (qaN W l (Tree.mk n1 s2 b3 l4 u5) k2 + k) (by omega) _) ?_)
 rintro e_ oT ⟨cG,cH,rfl,jJ,jK⟩
 refine ⟨_,rfl,fun oU jL=>?_⟩
 obtain ⟨dx,lT⟩:=cr.frFresh jK (brow cG cH 5 (uv (qaN W l (Tree.mk n1 s2 b3 l4 u5) k2 + k))) (Nat.le_refl _) jJ
 refine qam (qaW dx jL (k:=0) (d:=129) (t:=22) (e:=5) (size:=1) (bytes:=1) (A:=A_) (As:=cG) (m0:=((qaK W l v (Tree.mk n1 s2 b3 l4 u5) 0).length)) (c:=c_) (m:=((uv (qaN W l (Tree.mk n1 s2 b3 l4 u5) k2 + k)).length)) (cs:=cH) (xs:=(bc (qaK W l v (Tree.mk n1 s2 b3 l4 u5) 0))) (news:=bc (uv (qaN W l (Tree.mk n1 s2 b3 l4 u5) k2 + k))) kz kz rfl (qbB (dx.own 2 _ rfl) (qch _)) (qbN (dx.own 2 _ rfl)) (by have hkk3:k = (qag l u5).length:=(by omega); subst hkk3; subst hkk2; simp only [List.length_append,List.take_length] at *; omega) fun bi bj oV oW lU jM jN=>?_)
 have jO:(⟨bi,bj,5,1,(qaK W l v (Tree.mk n1 s2 b3 l4 u5) 0).length + (uv (qaN W l (Tree.mk n1 s2 b3 l4 u5) k2 + k)).length,bc (qaK W l v (Tree.mk n1 s2 b3 l4 u5) 0) ++ bc (uv (qaN W l (Tree.mk n1 s2 b3 l4 u5) k2 + k))⟩:Rw) = brow bi bj 5 (qaK W l v (Tree.mk n1 s2 b3 l4 u5) 0 ++ (uv (qaN W l (Tree.mk n1 s2 b3 l4 u5) k2 + k))):=qbq (rfl) rfl
 obtain ⟨cz,lV⟩:=jM.rowEq 0 [brow bi bj 5 (qaK W l v (Tree.mk n1 s2 b3 l4 u5) 0 ++ (uv (qaN W l (Tree.mk n1 s2 b3 l4 u5) k2 + k))),brow A4_ c4_ 5 (qaC W l (Tree.mk n1 s2 b3 l4 u5) k2 ++ qaU ((qag l u5).take k)),brow cG cH 5 (uv (qaN W l (Tree.mk n1 s2 b3 l4 u5) k2 + k))] jO
 have jP:=EnvOk.pick jN (ks:=[10,125,127,128,129]) (env':=[(10,.v (.slice A4_ ((qaC W l (Tree.mk n1 s2 b3 l4 u5) k2 ++ qaU ((qag l u5).take k)).length) c4_)),(125,.v (.slice A_ ((qaK W l v (Tree.mk n1 s2 b3 l4 u5) 0).length) c_)),(127,.v (.int .u64 ((qaN W l (Tree.mk n1 s2 b3 l4 u5) k2 + k:Nat):Int))),(128,.v (.slice cG ((uv (qaN W l (Tree.mk n1 s2 b3 l4 u5) k2 + k)).length) cH)),(129,.v (.slice bi ((qaK W l v (Tree.mk n1 s2 b3 l4 u5) 0).length + (uv (qaN W l (Tree.mk n1 s2 b3 l4 u5) k2 + k)).length) bj))]) kz
 have jQ:=jP.cast (env':=[(10,.v (.slice A4_ ((qaC W l (Tree.mk n1 s2 b3 l4 u5) k2 ++ qaU ((qag l u5).take k)).length) c4_)),(125,.v (.slice A_ ((qaK W l v (Tree.mk n1 s2 b3 l4 u5) 0).length) c_)),(127,.v (.int .u64 ((qaN W l (Tree.mk n1 s2 b3 l4 u5) k2 + k:Nat):Int))),(128,.v (.slice cG ((uv (qaN W l (Tree.mk n1 s2 b3 l4 u5) k2 + k)).length) cH)),(129,.v (.slice bi ((qaK W l v (Tree.mk n1 s2 b3 l4 u5) 0 ++ (uv (qaN W l (Tree.mk n1 s2 b3 l4 u5) k2 + k))).length) bj))]) (by simp only [List.length_append,List.length_cons,List.length_nil,Nat.zero_add])
 refine qah [5] [6,7] [(129,.v (.slice bi ((qaK W l v (Tree.mk n1 s2 b3 l4 u5) 0 ++ (uv (qaN W l (Tree.mk n1 s2 b3 l4 u5) k2 + k))).length) bj)),(130,.v (.slice A4_ ((qaC W l (Tree.mk n1 s2 b3 l4 u5) k2 ++ qaU ((qag l u5).take k)).length) c4_))] cz jQ fun oX jR=>?_
 refine qam (qaW cz jR (k:=0) (d:=131) (t:=22) (e:=5) (size:=1) (bytes:=1) (A:=bi) (As:=A4_) (m0:=((qaK W l v (Tree.mk n1 s2 b3 l4 u5) 0 ++ (uv (qaN W l (Tree.mk n1 s2 b3 l4 u5) k2 + k))).length)) (c:=bj) (m:=((qaC W l (Tree.mk n1 s2 b3 l4 u5) k2 ++ qaU ((qag l u5).take k)).length)) (cs:=c4_) (xs:=(bc (qaK W l v (Tree.mk n1 s2 b3 l4 u5) 0 ++ (uv (qaN W l (Tree.mk n1 s2 b3 l4 u5) k2 + k))))) (news:=bc (qaC W l (Tree.mk n1 s2 b3 l4 u5) k2 ++ qaU ((qag l u5).take k))) kz kz rfl (qbB (cz.own 1 _ rfl) (qch _)) (qbN (cz.own 1 _ rfl)) (by have hkk3:k = (qag l u5).length:=(by omega); subst hkk3; subst hkk2; simp only [List.length_append,List.take_length] at *; omega) fun bN bO oY oZ lW jS jT=>?_)
 have jU:(⟨bN,bO,5,1,(qaK W l v (Tree.mk n1 s2 b3 l4 u5) 0 ++ (uv (qaN W l (Tree.mk n1 s2 b3 l4 u5) k2 + k))).length + (qaC W l (Tree.mk n1 s2 b3 l4 u5) k2 ++ qaU ((qag l u5).take k)).length,bc (qaK W l v (Tree.mk n1 s2 b3 l4 u5) 0 ++ (uv (qaN W l (Tree.mk n1 s2 b3 l4 u5) k2 + k))) ++ bc (qaC W l (Tree.mk n1 s2 b3 l4 u5) k2 ++ qaU ((qag l u5).take k))⟩:Rw) = brow bN bO 5 (qaK W l v (Tree.mk n1 s2 b3 l4 u5) 0 ++ (uv (qaN W l (Tree.mk n1 s2 b3 l4 u5) k2 + k)) ++ (qaC W l (Tree.mk n1 s2 b3 l4 u5) k2 ++ qaU ((qag l u5).take k))):=qbq (rfl) rfl
 obtain ⟨dy,lX⟩:=jS.rowEq 0 [brow bN bO 5 (qaK W l v (Tree.mk n1 s2 b3 l4 u5) 0 ++ (uv (qaN W l (Tree.mk n1 s2 b3 l4 u5) k2 + k)) ++ (qaC W l (Tree.mk n1 s2 b3 l4 u5) k2 ++ qaU ((qag l u5).take k))),brow A4_ c4_ 5 (qaC W l (Tree.mk n1 s2 b3 l4 u5) k2 ++ qaU ((qag l u5).take k)),brow cG cH 5 (uv (qaN W l (Tree.mk n1 s2 b3 l4 u5) k2 + k))] jU
 have jV:=EnvOk.pick jT (ks:=[129,130,131]) (env':=[(129,.v (.slice bi ((qaK W l v (Tree.mk n1 s2 b3 l4 u5) 0 ++ (uv (qaN W l (Tree.mk n1 s2 b3 l4 u5) k2 + k))).length) bj)),(130,.v (.slice A4_ ((qaC W l (Tree.mk n1 s2 b3 l4 u5) k2 ++ qaU ((qag l u5).take k)).length) c4_)),(131,.v (.slice bN ((qaK W l v (Tree.mk n1 s2 b3 l4 u5) 0 ++ (uv (qaN W l (Tree.mk n1 s2 b3 l4 u5) k2 + k))).length + (qaC W l (Tree.mk n1 s2 b3 l4 u5) k2 ++ qaU ((qag l u5).take k)).length) bO))]) kz
 have jW:=jV.cast (env':=[(129,.v (.slice bi ((qaK W l v (Tree.mk n1 s2 b3 l4 u5) 0 ++ (uv (qaN W l (Tree.mk n1 s2 b3 l4 u5) k2 + k))).length) bj)),(130,.v (.slice A4_ ((qaC W l (Tree.mk n1 s2 b3 l4 u5) k2 ++ qaU ((qag l u5).take k)).length) c4_)),(131,.v (.slice bN ((qaK W l v (Tree.mk n1 s2 b3 l4 u5) 0 ++ (uv (qaN W l (Tree.mk n1 s2 b3 l4 u5) k2 + k)) ++ (qaC W l (Tree.mk n1 s2 b3 l4 u5) k2 ++ qaU ((qag l u5).take k))).length) bO))]) (by simp only [List.length_append,List.length_cons,List.length_nil,Nat.zero_add])
 refine qah [7] [] [(8,.v (.slice bN ((qaK W l v (Tree.mk n1 s2 b3 l4 u5) 0 ++ (uv (qaN W l (Tree.mk n1 s2 b3 l4 u5) k2 + k)) ++ (qaC W l (Tree.mk n1 s2 b3 l4 u5) k2 ++ qaU ((qag l u5).take k))).length) bO))] dy jW fun o5 jX=>?_
 refine qae (qab ?_)
 refine wp_ret ?_
 refine qaD jX dy.cells (v:=.slice bN ((qaK W l v (Tree.mk n1 s2 b3 l4 u5) 0 ++ (uv (qaN W l (Tree.mk n1 s2 b3 l4 u5) k2 + k)) ++ (qaC W l (Tree.mk n1 s2 b3 l4 u5) k2 ++ qaU ((qag l u5).take k))).length) bO) kz ?_
 have hkk3:k = (qag l u5).length:=by omega
 exact qa2 dy (k:=0) rfl (by rw [show flex = true by simpa using bU,qee,hkk3,hkk2,List.take_length])
theorem qfx:∀ d,qhk d
 | 0=>fun A c l v flex ct t w F hl hd ht hr=>qjo (fun _ _=>[]) A c l v flex ct t w F (fun cf f ct t w F hm hf ht hr=>by
   obtain ⟨i,hi⟩:=List.mem_iff_getElem?.1 hm
   have h:=qcT hi
   obtain ⟨k,x1,x2,x3,x4,x5,x6,l,A,c,xs,rfl,_⟩:=hf.open_
   rw [qdG] at h; omega) hl ht hr
 | d + 1=>fun A c l v flex ct t w F hl hd ht hr=>qjo (fun f t=>qbX d f v flex t) A c l v flex ct t w F (fun cf f ct t w F hm hf ht hr=>qjn (qfx d) cf f v flex ct t w F hf (by
   obtain ⟨i,hi⟩:=List.mem_iff_getElem?.1 hm
   have h:=qcT hi
   obtain ⟨k,x1,x2,x3,x4,x5,x6,l,A,c,xs,rfl,_⟩:=hf.open_
   rw [qdG] at h
   show depths l ≤ d
   omega) ht hr) hl ht hr
theorem qjp {d:Nat} (A:Option Addr) (c:Nat) (l:List Fld) (x v:Int) (ct:List Value) (t:Tree) (w:World) (F:Nat → Nat → Prop) (hl:FldsR w F A c l) (hd:depths l ≤ d) (ht:TreeR w F ct t) (hroom:(qbs d l x v t).length ≤ 1099511627776) :
  Calls Tryd.prog 29 #[.agg #[.slice A l.length c,.int .i64 x],.int .i64 v,.agg ct.toArray] w (qcF w 5 (qbs d l x v t)):=by
 obtain ⟨xfs,h1,h2⟩:=hl.ex
 have hsm:=h1.small
 obtain ⟨n1,s2,b3,l4,u5,A6,c7,A8,c9,af,ag,aI,rfl,rfl,aJ,aK,aW,aX⟩:=ht.open_
 have aG:=aJ.small
 have aH:=aK.small
 refine enter (n:=21) Tryd.func29 rfl Tryd.ntmps29 kz fun a hE=>?_
 have hW:=WOk.start w Nil
 refine qad [0,1,2] kz ?_
 refine qam (qaY hW hE (d:=3) (cs:=[.slice A l.length c,.int .i64 x]) kz fun aY aZ ba aL aM aO ai aj=>?_)
 refine qam (qaY ai aj (d:=5) (cs:=[.int .i64 n1,.slice A6 s2.length c7,.bool b3,.slice A8 l4.length c9,.slice af u5.length ag]) kz fun bf bg bh aP aQ aR aa ak=>?_)
 refine qah [2] [] [(1,.v (.int .i64 v)),(3,.p 0 0),(5,.p 1 0)] aa ak fun bi al=>?_
 refine qae (qab ?_)
 refine qad [0,1,2,3,4,5,6,7,8,9,10,11,12,13,14] kz ?_
 refine qah [0,1,2,3,4,5,6] [7,8,9,10,11,12,13,14] [(1,.v (.int .i64 v)),(3,.p 0 0),(5,.p 1 0),(8,.v (.slice A l.length c)),(9,.v (.int .i64 v)),(13,.v (.bool (decide (x ≥ 0))))] aa al fun bj ah=>?_
 refine (Bool.eq_false_or_eq_true (decide (x ≥ 0))).elim (fun ab=>?_) (fun ab=>?_)
 ·
  have aS:=of_decide_eq_true ab
  have am:=ah.cast (env':=[(1,.v (.int .i64 v)),(3,.p 0 0),(5,.p 1 0),(8,.v (.slice A l.length c)),(9,.v (.int .i64 v)),(13,.v (.bool true))]) (by rw [ab])
  refine qah [7,8,9,10,11,12] [13,14] [(8,.v (.slice A l.length c)),(9,.v (.int .i64 v)),(18,.v (.bool (decide (v ≥ x)))),(19,.v (.agg #[.int .i64 n1,.slice A6 s2.length c7,.bool b3,.slice A8 l4.length c9,.slice af u5.length ag]))] aa am fun bk ao=>?_
  refine qam (qai ao (f:=57) (vs:=[.slice A l.length c,.int .i64 v,.bool (decide (v ≥ x)),.agg #[.int .i64 n1,.slice A6 s2.length c7,.bool b3,.slice A8 l4.length c9,.slice af u5.length ag]]) (d:=20) kz Tryd.call57 (qfx _ _ _ l v (decide (v ≥ x)) _ (Tree.mk n1 s2 b3 l4 u5) _ _ ⟨xfs,(h1.move aa.step nilM aa.imm),(fun i_ x_ h_=>((h2 i_ x_ h_).move aa.step nilM aa.imm))⟩ hd (ht.move aa.step nilM aa.imm) (by simpa [qbs,ab] using hroom)) ?_)
  rintro e_ bn ⟨ap,ar,rfl,au,av⟩
  refine ⟨_,rfl,fun bo aw=>?_⟩
  obtain ⟨ac,aT⟩:=aa.frFresh av (brow ap ar 5 (qaR d l v (decide (v ≥ x)) (Tree.mk n1 s2 b3 l4 u5))) (Nat.le_refl _) au
  refine qah [14] [] [(6,.v (.slice ap ((qaR d l v (decide (v ≥ x)) (Tree.mk n1 s2 b3 l4 u5)).length) ar))] ac aw fun bp ax=>?_
  refine qae (qab ?_)
  refine wp_ret ?_
  refine qaD ax ac.cells (v:=.slice ap ((qaR d l v (decide (v ≥ x)) (Tree.mk n1 s2 b3 l4 u5)).length) ar) kz ?_
  exact qa2 ac (k:=0) rfl (by simp [qbs,ab])
 have aU:=of_decide_eq_false ab
 have ay:=ah.cast (env':=[(1,.v (.int .i64 v)),(3,.p 0 0),(5,.p 1 0),(8,.v (.slice A l.length c)),(9,.v (.int .i64 v)),(13,.v (.bool false))]) (by rw [ab])
 refine qah [7,8,9,10,11,12] [13,14] [(8,.v (.slice A l.length c)),(9,.v (.int .i64 v)),(18,.v (.bool false)),(19,.v (.agg #[.int .i64 n1,.slice A6 s2.length c7,.bool b3,.slice A8 l4.length c9,.slice af u5.length ag]))] aa ay fun bq az=>?_
 refine qam (qai az (f:=57) (vs:=[.slice A l.length c,.int .i64 v,.bool false,.agg #[.int .i64 n1,.slice A6 s2.length c7,.bool b3,.slice A8 l4.length c9,.slice af u5.length ag]]) (d:=20) kz Tryd.call57 (qfx _ _ _ l v false _ (Tree.mk n1 s2 b3 l4 u5) _ _ ⟨xfs,(h1.move aa.step nilM aa.imm),(fun i_ x_ h_=>((h2 i_ x_ h_).move aa.step nilM aa.imm))⟩ hd (ht.move aa.step nilM aa.imm) (by simpa [qbs,ab] using hroom)) ?_)
 rintro e_ bt ⟨aA,aB,rfl,aC,aD⟩
 refine ⟨_,rfl,fun bu aE=>?_⟩
 obtain ⟨ae,aV⟩:=aa.frFresh aD (brow aA aB 5 (qaR d l v false (Tree.mk n1 s2 b3 l4 u5))) (Nat.le_refl _) aC
 refine qah [14] [] [(6,.v (.slice aA ((qaR d l v false (Tree.mk n1 s2 b3 l4 u5)).length) aB))] ae aE fun bw aF=>?_
 refine qae (qab ?_)
 refine wp_ret ?_
 refine qaD aF ae.cells (v:=.slice aA ((qaR d l v false (Tree.mk n1 s2 b3 l4 u5)).length) aB) kz ?_
 exact qa2 ae (k:=0) rfl (by simp [qbs,ab])
theorem qjR {d:Nat} (A:Option Addr) (c:Nat) (l:List Fld) (x v:Int) (ct:List Value) (t:Tree) (w:World) (F:Nat → Nat → Prop) (hl:FldsR w F A c l) (hd:depths l ≤ d) (ht:TreeR w F ct t) (hroom:(qdq d l x v t).length ≤ 1099511627776) :
  Calls Tryd.prog 8 #[.agg #[.slice A l.length c,.int .i64 x],.int .i64 v,.agg ct.toArray] w (qcF w 5 (qdq d l x v t)):=by
 obtain ⟨xfs,h1,h2⟩:=hl.ex
 have hsm:=h1.small
 obtain ⟨n1,s2,b3,l4,u5,A6,c7,A8,c9,ah,ai,aU,rfl,rfl,aV,aW,bi,bj⟩:=ht.open_
 have aS:=aV.small
 have aT:=aW.small
 refine enter (n:=14) Tryd.func8 rfl Tryd.ntmps8 kz fun a hE=>?_
 have hW:=WOk.start w Nil
 refine qad [0,1,2] kz ?_
 refine qam (qaY hW hE (d:=3) (cs:=[.slice A l.length c,.int .i64 x]) kz fun bk bn bo aX aY aZ ar au=>?_)
 refine qam (qaY ar au (d:=5) (cs:=[.int .i64 n1,.slice A6 s2.length c7,.bool b3,.slice A8 l4.length c9,.slice ah u5.length ai]) kz fun bp bq bt ba bf bg aj av=>?_)
 refine qah [2] [] [(1,.v (.int .i64 v)),(3,.p 0 0),(5,.p 1 0)] aj av fun bu aw=>?_
 refine qae (qab ?_)
 refine qaI 7 kz aj fun bw bh ax ay=>?_
 refine qaH [0,2,3,4] [(7,.v (.int .i64 v)),(9,.v (.agg #[.slice A l.length c,.int .i64 x])),(10,.v (.int .i64 v)),(11,.v (.agg #[.int .i64 n1,.slice A6 s2.length c7,.bool b3,.slice A8 l4.length c9,.slice ah u5.length ai]))] 4 (qaa qaf) (fun _ h=>h.cells) ay aw fun bx az=>?_
 refine qaA (i:=1) kz (qai az (f:=28) (vs:=[.int .i64 v,.int .i64 2]) (d:=8) kz Tryd.call28 (qdA v 2 (by first | decide | exact qbb _ | omega) _) ?_)
 rintro e_ bz ⟨ao,ap,rfl,aA,aB⟩
 refine ⟨_,rfl,fun bA aC=>?_⟩
 obtain ⟨aa,ae⟩:=ax.frFresh aB (brow ao ap 5 (be 2 v)) (Nat.le_refl _) aA
 have aD:=TT.ofW ae aa
 refine ⟨fun _=>aD,?_⟩
 refine qaA (i:=5) kz (qai aC (f:=29) (vs:=[.agg #[.slice A l.length c,.int .i64 x],.int .i64 v,.agg #[.int .i64 n1,.slice A6 s2.length c7,.bool b3,.slice A8 l4.length c9,.slice ah u5.length ai]]) (d:=12) kz Tryd.call29 (qjp _ _ l x v _ (Tree.mk n1 s2 b3 l4 u5) _ _ ⟨xfs,(h1.move aa.step nilM aa.imm),(fun i_ x_ h_=>((h2 i_ x_ h_).move aa.step nilM aa.imm))⟩ hd (ht.move aa.step nilM aa.imm) (by have h_:=hroom; rw [qdq,List.length_append] at h_; omega)) ?_)
 rintro e_ bB ⟨ak,al,rfl,aE,aF⟩
 refine ⟨_,rfl,fun bC aG=>?_⟩
 obtain ⟨ab,am⟩:=aa.frFresh aF (brow ak al 5 (qbs d l x v (Tree.mk n1 s2 b3 l4 u5))) (Nat.le_refl _) aE
 have aH:=TT.ofW (ae.trans am) ab
 refine ⟨fun _=>aH,?_⟩
 refine qaA (i:=6) kz (qaW ab aG (k:=0) (d:=13) (t:=22) (e:=5) (size:=1) (bytes:=1) (A:=ao) (As:=ak) (m0:=((be 2 v).length)) (c:=ap) (m:=((qbs d l x v (Tree.mk n1 s2 b3 l4 u5)).length)) (cs:=al) (xs:=(bc (be 2 v))) (news:=bc (qbs d l x v (Tree.mk n1 s2 b3 l4 u5))) kz kz rfl (qbB (ab.own 1 _ rfl) (qch _)) (qbN (ab.own 1 _ rfl)) (by have h_:=hroom; rw [qdq,List.length_append] at h_; omega) fun af ag bD bE aI aJ aK=>?_)
 have aL:(⟨af,ag,5,1,(be 2 v).length + (qbs d l x v (Tree.mk n1 s2 b3 l4 u5)).length,bc (be 2 v) ++ bc (qbs d l x v (Tree.mk n1 s2 b3 l4 u5))⟩:Rw) = brow af ag 5 (be 2 v ++ (qbs d l x v (Tree.mk n1 s2 b3 l4 u5))):=qbq (rfl) rfl
 obtain ⟨ac,aM⟩:=aJ.rowEq 0 [brow af ag 5 (be 2 v ++ (qbs d l x v (Tree.mk n1 s2 b3 l4 u5))),brow ak al 5 (qbs d l x v (Tree.mk n1 s2 b3 l4 u5))] aL
 have aO:=EnvOk.pick aK (ks:=[7,9,10,11,8,12,13]) (env':=[(7,.v (.int .i64 v)),(9,.v (.agg #[.slice A l.length c,.int .i64 x])),(10,.v (.int .i64 v)),(11,.v (.agg #[.int .i64 n1,.slice A6 s2.length c7,.bool b3,.slice A8 l4.length c9,.slice ah u5.length ai])),(8,.v (.slice ao ((be 2 v).length) ap)),(12,.v (.slice ak ((qbs d l x v (Tree.mk n1 s2 b3 l4 u5)).length) al)),(13,.v (.slice af ((be 2 v).length + (qbs d l x v (Tree.mk n1 s2 b3 l4 u5)).length) ag))]) kz
 have aP:=aO.cast (env':=[(7,.v (.int .i64 v)),(9,.v (.agg #[.slice A l.length c,.int .i64 x])),(10,.v (.int .i64 v)),(11,.v (.agg #[.int .i64 n1,.slice A6 s2.length c7,.bool b3,.slice A8 l4.length c9,.slice ah u5.length ai])),(8,.v (.slice ao ((be 2 v).length) ap)),(12,.v (.slice ak ((qbs d l x v (Tree.mk n1 s2 b3 l4 u5)).length) al)),(13,.v (.slice af ((be 2 v ++ (qbs d l x v (Tree.mk n1 s2 b3 l4 u5))).length) ag))]) (by simp only [List.length_append,List.length_cons,List.length_nil,Nat.zero_add])
 have aQ:=TT.ofW (((ae.trans am).trans aI).trans aM) ac
 refine ⟨fun _=>aQ,?_⟩
 refine qaA (i:=7) kz (qa6 [6] ac.cells aP (env':=[(6,.v (.slice af ((be 2 v ++ (qbs d l x v (Tree.mk n1 s2 b3 l4 u5))).length) ag))]) kz fun bF aR=>?_)
 refine ⟨fun h=>absurd rfl h,?_⟩
 refine qaG kz ?_ _
 refine qab ?_
 refine wp_ret ?_
 refine qaD aR ac.cells (v:=.slice af ((be 2 v ++ (qbs d l x v (Tree.mk n1 s2 b3 l4 u5))).length) ag) kz ?_
 exact qa2 ac (k:=0) rfl (rfl)
def sConnectMemberMetadataF:List Fld:=[(Fld.mk 8 0 (-1) (-1) (-1) 0 0 []),(Fld.mk 4 0 (-1) (-1) (-1) 0 0 []),(Fld.mk 9 1 (-1) (-1) (-1) 0 0 [])]
def qav:Int:=-1
theorem qcy (w:World) (F:Nat → Nat → Prop):Calls Tryd.prog 21 #[] w (qjj w F sConnectMemberMetadataF qav):=by
 refine enter (n:=6) Tryd.func21 rfl Tryd.ntmps21 kz fun a hE=>?_
 have hW:=WOk.start w Nil
 refine qad [0] kz ?_
 refine qam (qaO hW hE (d:=0) (cs:=[.slice none 0 0,.int .i64 0]) kz fun b1 a2 w3 hb4 hz5 hF6 hW7 hE8=>?_)
 refine qae (qab ?_)
 refine qad [0,1,2,3,4,5] kz ?_
 refine qah [0,1,2] [3,4,5] [(0,.p 0 0),(1,.v (.agg #[.int .i64 8,.int .i64 0,.int .i64 (-1),.int .i64 (-1),.int .i64 (-1),.int .i64 0,.int .i64 0,.slice none 0 0])),(2,.v (.agg #[.int .i64 4,.int .i64 0,.int .i64 (-1),.int .i64 (-1),.int .i64 (-1),.int .i64 0,.int .i64 0,.slice none 0 0])),(3,.v (.agg #[.int .i64 9,.int .i64 1,.int .i64 (-1),.int .i64 (-1),.int .i64 (-1),.int .i64 0,.int .i64 0,.slice none 0 0]))] hW7 hE8 fun a9 af=>?_
 refine qam (qb6 hW7 af (e:=60) (size:=8) (len:=3) (cs:=[.int .i64 8,.int .i64 0,.int .i64 (-1),.int .i64 (-1),.int .i64 (-1),.int .i64 0,.int .i64 0,.slice none 0 0,.int .i64 4,.int .i64 0,.int .i64 (-1),.int .i64 (-1),.int .i64 (-1),.int .i64 0,.int .i64 0,.slice none 0 0,.int .i64 9,.int .i64 1,.int .i64 (-1),.int .i64 (-1),.int .i64 (-1),.int .i64 0,.int .i64 0,.slice none 0 0]) (d:=4) kz kz fun ag ap ar ak al am ae ah=>?_)
 refine qah [4] [5] [(0,.p 0 0),(5,.v (.agg #[.slice (some ⟨ag,0,none⟩) 3 3,.int .i64 (-1)]))] ae ah fun au ai=>?_
 refine qam (qay ae ai (oi:=0) (cs:=[.slice (some ⟨ag,0,none⟩) 3 3,.int .i64 (-1)]) kz fun ac ao ab aj=>?_)
 refine qae (qab ?_)
 refine wp_ret ?_
 refine qaD aj ab.cells (v:=.agg #[.slice (some ⟨ag,0,none⟩) 3 3,.int .i64 (-1)]) kz ?_
 have aa:=Flds.slots (F:=F) ab (k:=0) (n:=3) (xs:=[.int .i64 8,.int .i64 0,.int .i64 (-1),.int .i64 (-1),.int .i64 (-1),.int .i64 0,.int .i64 0,.slice none 0 0,.int .i64 4,.int .i64 0,.int .i64 (-1),.int .i64 (-1),.int .i64 (-1),.int .i64 0,.int .i64 0,.slice none 0 0,.int .i64 9,.int .i64 1,.int .i64 (-1),.int .i64 (-1),.int .i64 (-1),.int .i64 0,.int .i64 0,.slice none 0 0]) rfl (Flds.snoc (Flds.snoc (Flds.snoc (Flds.nil _ _) (c:=[.int .i64 8,.int .i64 0,.int .i64 (-1),.int .i64 (-1),.int .i64 (-1),.int .i64 0,.int .i64 0,.slice none 0 0]) (x:=(Fld.mk 8 0 (-1) (-1) (-1) 0 0 [])) (FldR.mk (l:=[]) _ (qeg ac (Fp F w)).1 (qeg ac (Fp F w)).2)) (c:=[.int .i64 4,.int .i64 0,.int .i64 (-1),.int .i64 (-1),.int .i64 (-1),.int .i64 0,.int .i64 0,.slice none 0 0]) (x:=(Fld.mk 4 0 (-1) (-1) (-1) 0 0 [])) (FldR.mk (l:=[]) _ (qeg ac (Fp F w)).1 (qeg ac (Fp F w)).2)) (c:=[.int .i64 9,.int .i64 1,.int .i64 (-1),.int .i64 (-1),.int .i64 (-1),.int .i64 0,.int .i64 0,.slice none 0 0]) (x:=(Fld.mk 9 1 (-1) (-1) (-1) 0 0 [])) (FldR.mk (l:=[]) _ (qeg ac (Fp F w)).1 (qeg ac (Fp F w)).2)) rfl (by decide)
 exact ⟨_,_,rfl,⟨_,aa.1,aa.2⟩,ab.step⟩
def qaX (T:Tree):Prop:=((T.at_ 0).S.length ≤ 32767) ∧ (True) ∧ ((qbP (T.at_ 2)).length ≤ 32767) ∧ True
theorem qb2 (v:Int) (t:Tree):qaX (fitT v 8 sConnectMemberMetadataF t):=by
 unfold qaX
 exact ⟨(by rw [qiN (d:=7) (show sConnectMemberMetadataF[0]? = _ from rfl) (by decide)]; exact Nat.le_trans (qa4 _) (by decide)),(trivial),(qhY (d:=7) (show sConnectMemberMetadataF[2]? = _ from rfl) (by decide)),(trivial)⟩
set_option maxHeartbeats 4000000 in
theorem qcd (v:Int) (h0:0 ≤ v) (h1:v < 32768) (t:Tree):qaj v (fitT v 8 sConnectMemberMetadataF t) = qbs 8 sConnectMemberMetadataF qav v t:=by
 have ab:=qiN (v:=v) (d:=7) (t:=t) (l:=sConnectMemberMetadataF) (i:=0) (show sConnectMemberMetadataF[0]? = _ from rfl) (by decide)
 have ac:((fitT v 8 sConnectMemberMetadataF t).at_ 1).N = (t.at_ 1).N:=qjk (d:=7) (show sConnectMemberMetadataF[1]? = _ from rfl) (by decide)
 have aa:=qiM (v:=v) (d:=7) (t:=t) (l:=sConnectMemberMetadataF) (i:=2) (show sConnectMemberMetadataF[2]? = _ from rfl) (by decide)
 unfold qaj
 simp only [qjO,qft,qdr,List.flatMap_map,List.length_map,ab,ac,aa.1,aa.2]
 try simp only [be4_i32',qiF,qiI,qjl,qhJ,qey,qjQ,qiO]
 by_cases c0:v ≥ 1 <;> first | (exfalso; omega) | simp [qbs,qav,sConnectMemberMetadataF,qaR,qdD,qaK,Fld.tag,Fld.has,qcG,Fld.kind,Fld.null,Fld.of,Fld.sub,qaL,qbe,qaN,qaC,qat,qao,uv0,nul_no,c0,h0]
def qjS (ok:World → (Nat → Nat → Prop) → DV → Prop):Prop:=∀ {w w':World} {F F' M:Nat → Nat → Prop} (d:DV),Step w w' M → (∀ b o,F b o → b < w.heap.size → ¬ M b o) → (∀ b o,F b o → b < w.heap.size → F' b o) → ok w F d → ok w' F' d
theorem qiQ {P:Program} {c:Code} {Mid N:Act → World → Prop} {Q:Exit → Act → World → Prop} {a:Act} {w:World} (h1:c.wp P (Exit.then Mid Q) a w) (h2:∀ a' w',Mid a' w' → N a' w'):c.wp P (Exit.then N Q) a w :=
 wp_mono h1 fun e a' w' h=>by
  cases e <;> first | exact h2 a' w' h | exact h
def dvN (n:Int):DV:=.mk n false ByteArray.empty [] none 0 0 none [] (fun _=>.leaf)
def dvS (s:ByteArray):DV:=.mk 0 false s [] none 0 0 none [] (fun _=>.leaf)
def dvO (A:Option Addr) (o:Bs) (c:Nat):DV:=.mk 0 false ByteArray.empty o A 0 c none [] (fun _=>.leaf)
def dvP (m:Option Nat) (u:List (Int × Bs)) (fs:List DV):DV:=.mk 0 false ByteArray.empty [] none 0 0 m u (fun i=>fs.getD i .leaf)
def cutA (A:Option Addr) (cp j:Nat):Option Addr:=if cp = j then A else A.map (·.add j)
theorem qhn (s:Bs) (j i:Nat):(s.drop j).getD i 0 = s.getD (j + i) 0:=by
 rw [List.getD_eq_getElem?_getD,List.getD_eq_getElem?_getD,List.getElem?_drop]
theorem Octs.drop {w:World} {F:Nat → Nat → Prop} {A:Option Addr} {c:Nat} {s:Bs} (h:Octs w F A c s) {j:Nat} (hj:j ≤ s.length):Octs w F (cutA A c j) (c - j) (s.drop j):=by
 have hle:=h.le
 have hsm:=h.small
 unfold Octs
 rw [List.length_drop]
 refine ⟨by omega,by omega,fun hA=>?_,fun ad hA hn=>?_⟩
 ·have hn:A = none:=by
   unfold cutA at hA
   split at hA
   ·exact hA
   cases A with
   | none=>rfl
   | some _=>cases hA
  have:=h.none_ hn
  omega
 have hA':A.map (·.add j) = some ad:=by
  unfold cutA at hA
  rwa [if_neg (by omega)] at hA
 cases hq:A with
 | none=>rw [hq] at hA'; cases hA'
 | some ad0 =>
  rw [hq] at hA'
  obtain ⟨b,o,rfl,h2⟩:=h.some_ ad0 hq (by omega)
  simp only [Option.map_some,Option.some.injEq,qbk] at hA'
  subst hA'
  refine ⟨b,o + j,rfl,fun i hi=>?_⟩
  rw [qhn,show o + j + i * 1 = o + (j + i) * 1 by omega]
  exact h2 (j + i) (by omega)
theorem Octs.cutS {w:World} {F:Nat → Nat → Prop} {A:Option Addr} {c:Nat} {s:Bs} (h:Octs w F A c s) {j:Nat} (hj:j ≤ s.length):Octs w F A j (s.take j):=by
 have h1:=h.take j
 refine ⟨by rw [List.length_take]; omega,h1.small,fun hA=>?_,h1.some_⟩
 have:=h.none_ hA
 rw [List.length_take]; omega
section
variable {P:Program} {ops:Array Oper} {Q:Exit → Act → World → Prop} {n:Nat} {tb:Tb} {env:Env} {rs:List Rw} {w0:World} {M:Nat → Nat → Prop} {a:Act} {w:World}
theorem qgp {t e:TypeId} {bytes:Nat} (ht:qcx P t = some (e,1,bytes)) {A:Option Addr} {m cp:Nat} {k:IntKind} {q:Int} (h0:0 ≤ q) (h1:q ≤ m) :
  (Instr.sliceAt t (.slice A m cp) (some (.int k q)) none none).run P w = .ok (.slice (cutA A cp q.toNat) (m - q.toNat) (cp - q.toNat)) w:=by
 obtain ⟨ht',inf,z,hi,hz,hzs,hs1,rfl,hsz,hbp⟩:=qbO ht
 unfold Instr.sliceAt
 simp only [Sem.run_bind,run_underlying ht',Result.andThen_ok]
 unfold Instr.slice
 have hb:(0 ≤ q ∧ q ≤ (m:Int)):=⟨h0,h1⟩
 simp only [Sem.run_bind,run_underlying ht',Result.andThen_ok,Instr.sliceBounds,Instr.sliceBound,asIntOf,Sem.run_pure,if_pos hb,run_sizeOf' hi,hs1,Nat.mul_one]
 rfl
theorem qgq {t e:TypeId} {bytes:Nat} (ht:qcx P t = some (e,1,bytes)) {A:Option Addr} {m cp:Nat} {k:IntKind} {q:Int} (h0:0 ≤ q) (h1:q ≤ cp) :
  (Instr.sliceAt t (.slice A m cp) none (some (.int k q)) (some (.int k q))).run P w = .ok (.slice A q.toNat q.toNat) w:=by
 obtain ⟨ht',inf,z,hi,hz,hzs,hs1,rfl,hsz,hbp⟩:=qbO ht
 unfold Instr.sliceAt
 simp only [Sem.run_bind,run_underlying ht',Result.andThen_ok]
 unfold Instr.slice
 have hb:(0 ≤ q ∧ q ≤ (cp:Int)):=⟨h0,h1⟩
 have hb2:(0 ≤ q ∧ q ≤ ((q.toNat:Nat):Int)):=⟨h0,by omega⟩
 simp only [Sem.run_bind,run_underlying ht',Result.andThen_ok,Instr.sliceBounds,Instr.sliceBound,asIntOf,Sem.run_pure,if_pos hb,if_pos hb2,run_sizeOf' hi]
 cases A with
 | none=>simp
 | some ad=>simp [Addr.add]
theorem qb3 {i d j:Nat} {N:Act → World → Prop} {t e:TypeId} {bytes m cp:Nat} {A:Option Addr} {q:Int} (hE:EnvOk n tb env a) (h:cutE tb env ops n i = some (t,.slice A m cp,some q,none,d)) (ht:qcx P t = some (e,1,bytes)) (hq:q = (j:Int)) (hj:j ≤ m)
  (K:∀ a',EnvOk n tb ((d,.v (.slice (cutA A cp j) (m - j) (cp - j))) :: env) a' → N a' w):wpOp P ops Q i N a w:=by
 have h0:0 ≤ q:=by omega
 have h1:q ≤ m:=by omega
 obtain rfl:j = q.toNat:=by omega
 unfold cutE at h
 split at h
 ·rename_i t' x lo hi d' ho
  have hd:d' < n:=(qbp hE ho).choose_spec.2.2.2.1
  split at h
  ·simp at h
  ·rename_i s l hs
   split at h
   ·rename_i k q' hs2
    simp only [Option.some.injEq,Prod.mk.injEq,true_and] at h
    obtain ⟨rfl,hsv,rfl,rfl⟩:=h
    have e1:=(qaV hE hs).1
    have e2:=(qaV hE hs2).1
    refine qa9 hE ho (v:=.slice (cutA A cp q'.toNat) (m - q'.toNat) (cp - q'.toNat)) (w':=w) (fun o' hop=>?_) (K _ (hE.put hd (.v _) trivial))
    unfold execOp
    rw [hop]
    rw [hsv] at e1
    simp only [SV.val] at e2
    simp only [e1,e2,Option.map_none,Option.map_some,Sem.run_bind,qgp ht h0 h1,Result.andThen_ok,Sem.run_pure]
   cases h
  ·split at h <;> simp at h
  ·split at h <;> simp at h
  cases h
 cases h
def qjq (tb:Tb) (env:Env) (ops:Array Oper) (n i:Nat):Option (TypeId × Value × IntKind × Int × IntKind × Int × Nat) :=
 match opAt env ops n i with
 | some (.slice t x none (some h) (some m),d)=>match opd env x,opd env h,opd env m with
  | some s,some (.v (.int k p)),some (.v (.int k' q))=>some (t,s.val tb,k,p,k',q,d)
  | _,_,_=>none
 | _=>none
theorem qho {i d j:Nat} {N:Act → World → Prop} {t e:TypeId} {bytes m cp:Nat} {A:Option Addr} {k:IntKind} {q:Int} (hE:EnvOk n tb env a) (h:qjq tb env ops n i = some (t,.slice A m cp,k,q,k,q,d)) (ht:qcx P t = some (e,1,bytes)) (hq:q = (j:Int)) (hj:j ≤ cp)
  (K:∀ a',EnvOk n tb ((d,.v (.slice A j j)) :: env) a' → N a' w):wpOp P ops Q i N a w:=by
 have h0:0 ≤ q:=by omega
 have h1:q ≤ cp:=by omega
 obtain rfl:j = q.toNat:=by omega
 unfold qjq at h
 split at h
 ·rename_i t' x hh mm d' ho
  have hd:d' < n:=(qbp hE ho).choose_spec.2.2.2.1
  split at h
  ·rename_i s k1 p1 k2 q2 g1 g2 g3
   simp only [Option.some.injEq,Prod.mk.injEq] at h
   obtain ⟨rfl,hsv,rfl,rfl,rfl,rfl,rfl⟩:=h
   have f1:=(qaV hE g1).1
   have f2:=(qaV hE g2).1
   have f3:=(qaV hE g3).1
   rw [hsv] at f1
   simp only [SV.val] at f2 f3
   refine qa9 hE ho (v:=.slice A q2.toNat q2.toNat) (w':=w) (fun o' hop=>?_) (K _ (hE.put hd (.v _) trivial))
   unfold execOp
   rw [hop]
   simp only [f1,f2,f3,Option.map_none,Option.map_some,Sem.run_bind,qgq ht h0 h1,Result.andThen_ok,Sem.run_pure]
  cases h
 cases h
end
structure RdS (w:World) (F:Nat → Nat → Prop) (A:Option Addr) (n c:Nat) (s:Bs):Prop where
 len:n = s.length
 oct:Octs w F A c s
theorem RdS.move {w w':World} {F F' M:Nat → Nat → Prop} {A:Option Addr} {n c:Nat} {s:Bs} (h:RdS w F A n c s) (hs:Step w w' M) (hM:∀ b o,F b o → b < w.heap.size → ¬ M b o) (hF:∀ b o,F b o → b < w.heap.size → F' b o):RdS w' F' A n c s:=⟨h.len,Octs.move h.oct hs hM hF⟩
theorem RdS.cast {w:World} {F:Nat → Nat → Prop} {A:Option Addr} {n c:Nat} {s t:Bs} (h:RdS w F A n c s) (e:s = t):RdS w F A n c t:=e ▸ h
theorem RdS.drop {w:World} {F:Nat → Nat → Prop} {A:Option Addr} {n c j:Nat} {s t:Bs} (h:RdS w F A n c (s ++ t)) (hj:j = s.length):RdS w F (cutA A c j) (n - j) (c - j) t:=by
 subst hj
 have h1:=h.oct.drop (j:=s.length) (by rw [List.length_append]; omega)
 rw [List.drop_left] at h1
 exact ⟨by rw [h.len,List.length_append]; omega,h1⟩
theorem RdS.front {w:World} {F:Nat → Nat → Prop} {A:Option Addr} {n c j:Nat} {s t:Bs} (h:RdS w F A n c (s ++ t)) (hj:j = s.length):Octs w F A j s:=by
 subst hj
 have h1:=h.oct.cutS (j:=s.length) (by rw [List.length_append]; omega)
 rwa [List.take_left] at h1
def RdM (br:Nat):Nat → Nat → Prop:=fun b o=>b = br ∧ o < 2
def RdPost (w:World) (br:Nat) (F:Nat → Nat → Prop) (rest:Bs) (Q:Value → World → Prop):Ending → World → Prop:=fun e w' =>
 ∃ v A' n' c',e = .returned v ∧ Str w' br [.slice A' n' c',.bool false] ∧ RdS w' F A' n' c' rest ∧ Step w w' (RdM br) ∧ Q v w'
theorem WOk.startStr {w:World} {p:Nat} {cs:List Value} (h:Str w p cs) (hn:Nat.blt 0 cs.length = true:=by kernel_rfl):WOk w (fun b o=>b = p ∧ o < cs.length) w [⟨p,0,cs,true⟩] []:=by
 have hn':0 < cs.length:=by simpa [Nat.blt_eq] using hn
 exact (WOk.start w _).add ⟨p,0,cs,true⟩ (World.lt_of_cell (h.at_ 0 _ (List.getElem?_eq_getElem hn'))) (fun j v hj=>by rw [Nat.zero_add]; exact h.at_ j v hj) (fun _ j hj=>⟨.inr ⟨rfl,by rw [Nat.zero_add]; exact hj⟩,by rw [Nat.zero_add]; exact h.frz j hj⟩) (fun i o hi=>by simp at hi) (fun i r hi=>by simp at hi)
theorem WOk.wrote {w0 w w':World} {M:Nat → Nat → Prop} {tb:Tb} {rs:List Rw} {p:Nat} {cs cs':List Value} (hW:WOk w0 M w tb rs) (i:Nat) (tb':Tb) (hi:tb[i]? = some ⟨p,0,cs,true⟩) (hst:Step w w' (fun b o=>b = p ∧ o < cs.length)) (hs:Str w' p cs') (ht:tb.set i ⟨p,0,cs',true⟩ = tb':=by rfl) (hl:cs'.length = cs.length:=by rfl) :
  WOk w0 M w' tb' rs ∧ Fr w tb rs w' tb' rs ∧ ∀ {G:Nat → Nat → Prop} (b o:Nat),Fp (Imm G w0 w tb rs) w b o → b < w'.heap.size → Imm G w0 w' tb' rs b o:=by
 subst ht
 have key:∀ (j:Nat) (o:Ob),(tb.set i ⟨p,0,cs',true⟩)[j]? = some o → (j = i ∧ o = ⟨p,0,cs',true⟩) ∨ (j ≠ i ∧ tb[j]? = some o):=fun j o hj=>by
  rcases qcB hj with ⟨h1,h2,_⟩ | ⟨h1,h2⟩
  ·exact .inl ⟨h1,h2⟩
  exact .inr ⟨h1,h2⟩
 have far:∀ (j:Nat) (o:Ob),j ≠ i → tb[j]? = some o → ∀ q,q < o.cells.length → ¬ (o.blk = p ∧ o.off + q < cs.length):=fun j o hne hj q hq e=>by
  rcases hW.apart j i o _ hne hj hi (.inr rfl) with h1 | h1 | h1
  ·exact h1 e.1
  ·simp only [Nat.le_zero] at h1; omega
  simp only [Nat.zero_add] at h1; omega
 have act:∀ b o,Act_ (tb.set i ⟨p,0,cs',true⟩) rs b o → Act_ tb rs b o:=fun b o ha=>by
  rcases ha with ⟨j,ob,hj,h1,h2,h3,h4⟩ | ha
  ·rcases key j ob hj with ⟨rfl,rfl⟩ | ⟨_,hj⟩
   ·exact .inl ⟨j,_,hi,rfl,h2,h3,by simpa [hl] using h4⟩
   exact .inl ⟨j,ob,hj,h1,h2,h3,h4⟩
  exact .inr ha
 refine ⟨⟨hW.step.trans hst fun b o hb e=>?_,?_,?_,?_,?_,?_,hW.ownM,?_,hW.rr⟩,⟨fun b o _ hn ha=>hn (act b o ha),hst.mono fun b o _ e=>.inl ⟨i,_,hi,rfl,e.1.symm,Nat.zero_le _,by simpa using e.2⟩⟩,fun b o hf hb=>?_⟩
 rotate_right
 ·rcases hf with hf | hf
  ·exact ⟨hf.1,hb,fun ha=>hf.2.2 (act b o ha)⟩
  exact ⟨.inr (Nat.le_trans hW.step.size hf),hb,fun ha=>by have:=hW.act_live (act b o ha); omega⟩
 ·have h1:=(hW.rw_ i _ hi rfl o e.2).1
  simp only [Nat.zero_add] at h1
  rcases h1 with h1 | h1
  ·have:=e.1; omega
  rw [e.1]; exact h1
 ·intro j o hj q v hv
  rcases key j o hj with ⟨rfl,rfl⟩ | ⟨hne,hj⟩
  ·dsimp only
   rw [Nat.zero_add]
   exact hs.at_ q v hv
  exact hst.cell (far j o hne hj q (List.getElem?_eq_some_iff.1 hv).1) (hW.cells j o hj q v hv)
 ·intro j o hj
  rcases key j o hj with ⟨rfl,rfl⟩ | ⟨_,hj⟩
  ·have h1:=hW.live j _ hi
   exact Nat.lt_of_lt_of_le h1 hst.size
  exact Nat.lt_of_lt_of_le (hW.live j o hj) hst.size
 ·intro j o hj hr q hq
  rcases key j o hj with ⟨rfl,rfl⟩ | ⟨hne,hj⟩
  ·dsimp only at hq ⊢
   refine ⟨(hW.rw_ j _ hi rfl q (by simpa [hl] using hq)).1,?_⟩
   rw [Nat.zero_add]
   exact hs.frz q hq
  obtain ⟨h1,h2⟩:=hW.rw_ j o hj hr q hq
  exact ⟨h1,hst.frozen (far j o hne hj q hq) (hW.cells j o hj q _ (List.getElem?_eq_getElem hq)) h2⟩
 ·intro j k o o' hjk hj hk hw
  rcases key j o hj with ⟨rfl,rfl⟩ | ⟨hne,hj'⟩
  ·rcases key k o' hk with ⟨rfl,rfl⟩ | ⟨hne',hk'⟩
   ·exact absurd rfl hjk
   have:=hW.apart j k _ o' hjk hi hk' (.inl rfl)
   simpa [hl] using this
  rcases key k o' hk with ⟨rfl,rfl⟩ | ⟨hne',hk'⟩
  ·have:=hW.apart j k o _ hjk hj' hi (.inr rfl)
   simpa [hl] using this
  exact hW.apart j k o o' hjk hj' hk' hw
 ·intro j r hj
  refine qdF (hW.own j r hj) fun g hg=>(hst.keeps g (qbA (hW.own j r hj) hg)).1 fun o e=>?_
  exact hW.rtb j r hj g hg i _ hi e.1.symm
 intro j r hj g hg k o hk
 rcases key k o hk with ⟨rfl,rfl⟩ | ⟨_,hk⟩
 ·have h1:=hW.rtb j r hj g hg k _ hi
  exact h1
 exact hW.rtb j r hj g hg k o hk
theorem WOk.giveUp {G:Nat → Nat → Prop} {w0 w:World} {tb:Tb} {rs:List Rw} {A:Option Addr} {c e:Nat} {s:Bs} (hW:WOk w0 Nil w tb rs) (k:Nat) (rs':List Rw) (hk:rs[k]? = some (brow A c e s)) (hsm:s.length ≤ 1099511627776) (hr:rs.take k = rs':=by rfl):Octs w (Imm G w0 w tb rs') A c s:=by
 subst hr
 refine qbC (hW.own k _ hk) hsm fun g hg o=>?_
 have hb:=qbA (hW.own k _ hk) (r:=brow A c e s) hg
 refine ⟨?_,hb,fun ha=>?_⟩
 ·rcases hW.ownM k _ hk g hg with h2 | h2
  ·exact .inr h2
  exact (h2 0).elim
 rcases ha with ⟨i,ob,h2,_,h3,_⟩ | ⟨i,r,h2,h3⟩
 ·exact hW.rtb k _ hk g hg i ob h2 h3
 rw [List.getElem?_take] at h2
 split at h2
 ·rename_i hlt
  exact hW.rr k i _ r (by omega) hk h2 g hg h3
 cases h2
theorem qhp {G:Nat → Nat → Prop} {w0 w:World} {tb:Tb} {rs:List Rw} {p:Nat} {cs:List Value} (i:Nat) (hi:tb[i]? = some ⟨p,0,cs,true⟩):∀ b o,Imm G w0 w tb rs b o → ¬ (b = p ∧ o < cs.length):=fun b o h e=>by
 obtain ⟨rfl,h2⟩:=e
 exact h.2.2 (.inl ⟨i,_,hi,rfl,rfl,Nat.zero_le _,by simpa using h2⟩)
theorem qcJ {Q:Exit → Act → World → Prop} {a:Act} {w:World} (h:Q .ret a w):Exit.noGoto Q .ret a w:=h
theorem qfy (k:IntKind) (n:Nat) (hn:n = k.bits) (hk:∀ z:Int,0 ≤ z → z < 2 ^ n → k.wrap z = z) (i:Nat) (y x:Int) (h0:0 ≤ y) (h1:y < 2 ^ i) (h2:y < 2 ^ n) (h3:0 ≤ x) (h4:x % 2 ^ i = 0) (h5:x < 2 ^ n) :
  k.wrap (BitVec.ofInt n y ||| BitVec.ofInt n x).toNat = y + x:=by
 subst hn
 exact bits_join_low k k.bits (Nat.le_refl _) hk i y x h0 h1 h2 h3 h4 h5
theorem or16 (i:Nat) (y x:Int) (h0:0 ≤ y) (h1:y < 2 ^ i) (h2:y < 2 ^ 16) (h3:0 ≤ x) (h4:x % 2 ^ i = 0) (h5:x < 2 ^ 16):IntKind.u16.wrap (BitVec.ofInt 16 y ||| BitVec.ofInt 16 x).toNat = y + x :=
 qfy .u16 16 rfl (fun z a b=>by rw [qbg]; omega) i y x h0 h1 h2 h3 h4 h5
theorem or32 (i:Nat) (y x:Int) (h0:0 ≤ y) (h1:y < 2 ^ i) (h2:y < 2 ^ 32) (h3:0 ≤ x) (h4:x % 2 ^ i = 0) (h5:x < 2 ^ 32):IntKind.u32.wrap (BitVec.ofInt 32 y ||| BitVec.ofInt 32 x).toNat = y + x :=
 qfy .u32 32 rfl (fun z a b=>by rw [qas]; omega) i y x h0 h1 h2 h3 h4 h5
theorem or64 (i:Nat) (y x:Int) (h0:0 ≤ y) (h1:y < 2 ^ i) (h2:y < 2 ^ 64) (h3:0 ≤ x) (h4:x % 2 ^ i = 0) (h5:x < 2 ^ 64):IntKind.u64.wrap (BitVec.ofInt 64 y ||| BitVec.ofInt 64 x).toNat = y + x :=
 qfy .u64 64 rfl (fun z a b=>by rw [qaF]; omega) i y x h0 h1 h2 h3 h4 h5
theorem qb9 (n:Nat) (h:n < 256):(IntKind.u8.wrap (BitVec.ofInt 8 ((n:Nat):Int) &&& BitVec.ofInt 8 128).toNat == 0) = decide (n < 128):=by
 have:∀ m:Fin 256,(IntKind.u8.wrap (BitVec.ofInt 8 ((m.val:Nat):Int) &&& BitVec.ofInt 8 128).toNat == 0) = decide (m.val < 128):=by decide +kernel
 exact this ⟨n,h⟩
theorem qbH (n:Nat) (h:n < 256):IntKind.u8.wrap (BitVec.ofInt 8 ((n:Nat):Int) &&& BitVec.ofInt 8 127).toNat = ((n % 128:Nat):Int):=by
 have:∀ m:Fin 256,IntKind.u8.wrap (BitVec.ofInt 8 ((m.val:Nat):Int) &&& BitVec.ofInt 8 127).toNat = ((m.val % 128:Nat):Int):=by decide +kernel
 exact this ⟨n,h⟩
def oc (s:Bs) (i:Nat):Nat:=(s.getD i 0).toNat
theorem qbj (s:Bs) (i:Nat):oc s i < 256:=(s.getD i 0).toNat_lt
theorem qfz (b:UInt8) (s:Bs) (i:Nat):oc (b :: s) (i + 1) = oc s i:=rfl
theorem qiR (b:UInt8) (s:Bs):oc (b :: s) 0 = b.toNat:=rfl
theorem qhq (x:Int) (s:Bs):((oc (by8 x :: s) 0:Nat):Int) = x % 256:=by rw [qiR,qeR]
def be16 (s:Bs):Int:=((oc s 0:Nat):Int) * 256 + oc s 1
def be32 (s:Bs):Int:=((oc s 0:Nat):Int) * 16777216 + oc s 1 * 65536 + oc s 2 * 256 + oc s 3
def be64 (s:Bs):Int:=((oc s 0:Nat):Int) * 72057594037927936 + oc s 1 * 281474976710656 + oc s 2 * 1099511627776 + oc s 3 * 4294967296 + oc s 4 * 16777216 + oc s 5 * 65536 + oc s 6 * 256 + oc s 7
theorem qiS (x:Int) (s:Bs):be16 (be 2 x ++ s) = IntKind.u16.wrap x:=by
 rw [qbg]
 simp only [be,List.cons_append,List.nil_append,be16,qfz,qhq,Int.reducePow]
 omega
theorem qiT (x:Int) (s:Bs):be32 (be 4 x ++ s) = IntKind.u32.wrap x:=by
 rw [qas]
 simp only [be,List.cons_append,List.nil_append,be32,qfz,qhq,Int.reducePow]
 omega
theorem qiU (x:Int) (s:Bs):be64 (be 8 x ++ s) = IntKind.u64.wrap x:=by
 rw [qaF]
 simp only [be,List.cons_append,List.nil_append,be64,qfz,qhq,Int.reducePow]
 omega
theorem i16w (x:Int):IntKind.i16.wrap x = (x + 32768) % 65536 - 32768:=by simp [IntKind.wrap,IntKind.signed,IntKind.bits]; omega
theorem i32w (x:Int):IntKind.i32.wrap x = (x + 2147483648) % 4294967296 - 2147483648:=by simp [IntKind.wrap,IntKind.signed,IntKind.bits]; omega
theorem i64w (x:Int):IntKind.i64.wrap x = (x + 9223372036854775808) % 18446744073709551616 - 9223372036854775808:=by simp [IntKind.wrap,IntKind.signed,IntKind.bits]; omega
theorem qiV (x:Int):IntKind.i16.wrap (IntKind.u16.wrap x) = IntKind.i16.wrap x:=by rw [i16w,i16w,qbg]; omega
theorem qiW (x:Int):IntKind.i32.wrap (IntKind.u32.wrap x) = IntKind.i32.wrap x:=by rw [i32w,i32w,qas]; omega
theorem qiX (x:Int):IntKind.i64.wrap (IntKind.u64.wrap x) = IntKind.i64.wrap x:=by rw [i64w,i64w,qaF]; omega
theorem ww16 (x:Int):IntKind.i16.wrap (IntKind.i16.wrap x) = IntKind.i16.wrap x:=by rw [i16w,i16w]; omega
theorem qeE {x:Nat} (s:Bs):oc (uv x ++ s) 0 = if x < 128 then x else x % 128 + 128:=by
 by_cases h:x < 128
 ·rw [qbL h,if_pos h]
  show (UInt8.ofNat x).toNat = x
  rw [UInt8.toNat_ofNat']; omega
 rw [qc0 (by omega),if_neg h]
 show (UInt8.ofNat (x % 128 + 128)).toNat = _
 rw [UInt8.toNat_ofNat']; omega
theorem qc1 {x:Nat} (h:128 ≤ x) (s:Bs) (i:Nat):oc (uv x ++ s) (i + 1) = oc (uv (x / 128) ++ s) i:=by
 rw [qc0 h]; rfl
theorem qjr (b0 b1:Nat) (h0:b0 < 256) (h1:b1 < 256):IntKind.u16.wrap (BitVec.ofInt 16 (IntKind.u16.wrap (((b1:Nat):Int))) ||| BitVec.ofInt 16 (IntKind.u16.wrap (IntKind.u16.wrap (((b0:Nat):Int)) * 256))).toNat = ((b0:Nat):Int) * 256 + ((b1:Nat):Int):=by
 have e1:IntKind.u16.wrap (BitVec.ofInt 16 (IntKind.u16.wrap (((b1:Nat):Int))) ||| BitVec.ofInt 16 (IntKind.u16.wrap (IntKind.u16.wrap (((b0:Nat):Int)) * 256))).toNat = ((b1:Nat):Int) + ((b0:Nat):Int) * 256:=by
  rw [or16 8 _ _ (by first | omega | (simp only [qbg]; omega)) (by first | omega | (simp only [qbg]; omega)) (by first | omega | (simp only [qbg]; omega)) (by first | omega | (simp only [qbg]; omega)) (by first | omega | (simp only [qbg]; omega)) (by first | omega | (simp only [qbg]; omega))]; first | omega | (simp only [qbg]; omega)
 rw [e1]
 omega
theorem qjs (b0 b1 b2 b3:Nat) (h0:b0 < 256) (h1:b1 < 256) (h2:b2 < 256) (h3:b3 < 256):IntKind.u32.wrap (BitVec.ofInt 32 (IntKind.u32.wrap (BitVec.ofInt 32 (IntKind.u32.wrap (BitVec.ofInt 32 (IntKind.u32.wrap (((b3:Nat):Int))) ||| BitVec.ofInt 32 (IntKind.u32.wrap (IntKind.u32.wrap (((b2:Nat):Int)) * 256))).toNat) ||| BitVec.ofInt 32 (IntKind.u32.wrap (IntKind.u32.wrap (((b1:Nat):Int)) * 65536))).toNat) ||| BitVec.ofInt 32 (IntKind.u32.wrap (IntKind.u32.wrap (((b0:Nat):Int)) * 16777216))).toNat = ((b0:Nat):Int) * 16777216 + ((b1:Nat):Int) * 65536 + ((b2:Nat):Int) * 256 + ((b3:Nat):Int):=by
 have e1:IntKind.u32.wrap (BitVec.ofInt 32 (IntKind.u32.wrap (((b3:Nat):Int))) ||| BitVec.ofInt 32 (IntKind.u32.wrap (IntKind.u32.wrap (((b2:Nat):Int)) * 256))).toNat = ((b3:Nat):Int) + ((b2:Nat):Int) * 256:=by
  rw [or32 8 _ _ (by first | omega | (simp only [qas]; omega)) (by first | omega | (simp only [qas]; omega)) (by first | omega | (simp only [qas]; omega)) (by first | omega | (simp only [qas]; omega)) (by first | omega | (simp only [qas]; omega)) (by first | omega | (simp only [qas]; omega))]; first | omega | (simp only [qas]; omega)
 have e2:IntKind.u32.wrap (BitVec.ofInt 32 (((b3:Nat):Int) + ((b2:Nat):Int) * 256) ||| BitVec.ofInt 32 (IntKind.u32.wrap (IntKind.u32.wrap (((b1:Nat):Int)) * 65536))).toNat = ((b3:Nat):Int) + ((b2:Nat):Int) * 256 + ((b1:Nat):Int) * 65536:=by
  rw [or32 16 _ _ (by first | omega | (simp only [qas]; omega)) (by first | omega | (simp only [qas]; omega)) (by first | omega | (simp only [qas]; omega)) (by first | omega | (simp only [qas]; omega)) (by first | omega | (simp only [qas]; omega)) (by first | omega | (simp only [qas]; omega))]; first | omega | (simp only [qas]; omega)
 have e3:IntKind.u32.wrap (BitVec.ofInt 32 (((b3:Nat):Int) + ((b2:Nat):Int) * 256 + ((b1:Nat):Int) * 65536) ||| BitVec.ofInt 32 (IntKind.u32.wrap (IntKind.u32.wrap (((b0:Nat):Int)) * 16777216))).toNat = ((b3:Nat):Int) + ((b2:Nat):Int) * 256 + ((b1:Nat):Int) * 65536 + ((b0:Nat):Int) * 16777216:=by
  rw [or32 24 _ _ (by first | omega | (simp only [qas]; omega)) (by first | omega | (simp only [qas]; omega)) (by first | omega | (simp only [qas]; omega)) (by first | omega | (simp only [qas]; omega)) (by first | omega | (simp only [qas]; omega)) (by first | omega | (simp only [qas]; omega))]; first | omega | (simp only [qas]; omega)
 rw [e1,e2,e3]
 omega
theorem qjt (b0 b1 b2 b3 b4 b5 b6 b7:Nat) (h0:b0 < 256) (h1:b1 < 256) (h2:b2 < 256) (h3:b3 < 256) (h4:b4 < 256) (h5:b5 < 256) (h6:b6 < 256) (h7:b7 < 256):IntKind.u64.wrap (BitVec.ofInt 64 (IntKind.u64.wrap (BitVec.ofInt 64 (IntKind.u64.wrap (BitVec.ofInt 64 (IntKind.u64.wrap (BitVec.ofInt 64 (IntKind.u64.wrap (BitVec.ofInt 64 (IntKind.u64.wrap (BitVec.ofInt 64 (IntKind.u64.wrap (BitVec.ofInt 64 (IntKind.u64.wrap (((b7:Nat):Int))) ||| BitVec.ofInt 64 (IntKind.u64.wrap (IntKind.u64.wrap (((b6:Nat):Int)) * 256))).toNat) ||| BitVec.ofInt 64 (IntKind.u64.wrap (IntKind.u64.wrap (((b5:Nat):Int)) * 65536))).toNat) ||| BitVec.ofInt 64 (IntKind.u64.wrap (IntKind.u64.wrap (((b4:Nat):Int)) * 16777216))).toNat) ||| BitVec.ofInt 64 (IntKind.u64.wrap (IntKind.u64.wrap (((b3:Nat):Int)) * 4294967296))).toNat) ||| BitVec.ofInt 64 (IntKind.u64.wrap (IntKind.u64.wrap (((b2:Nat):Int)) * 1099511627776))).toNat) ||| BitVec.ofInt 64 (IntKind.u64.wrap (IntKind.u64.wrap (((b1:Nat):Int)) * 281474976710656))).toNat) ||| BitVec.ofInt 64 (IntKind.u64.wrap (IntKind.u64.wrap (((b0:Nat):Int)) * 72057594037927936))).toNat = ((b0:Nat):Int) * 72057594037927936 + ((b1:Nat):Int) * 281474976710656 + ((b2:Nat):Int) * 1099511627776 + ((b3:Nat):Int) * 4294967296 + ((b4:Nat):Int) * 16777216 + ((b5:Nat):Int) * 65536 + ((b6:Nat):Int) * 256 + ((b7:Nat):Int):=by
 have e1:IntKind.u64.wrap (BitVec.ofInt 64 (IntKind.u64.wrap (((b7:Nat):Int))) ||| BitVec.ofInt 64 (IntKind.u64.wrap (IntKind.u64.wrap (((b6:Nat):Int)) * 256))).toNat = ((b7:Nat):Int) + ((b6:Nat):Int) * 256:=by
  rw [or64 8 _ _ (by first | omega | (simp only [qaF]; omega)) (by first | omega | (simp only [qaF]; omega)) (by first | omega | (simp only [qaF]; omega)) (by first | omega | (simp only [qaF]; omega)) (by first | omega | (simp only [qaF]; omega)) (by first | omega | (simp only [qaF]; omega))]; first | omega | (simp only [qaF]; omega)
 have e2:IntKind.u64.wrap (BitVec.ofInt 64 (((b7:Nat):Int) + ((b6:Nat):Int) * 256) ||| BitVec.ofInt 64 (IntKind.u64.wrap (IntKind.u64.wrap (((b5:Nat):Int)) * 65536))).toNat = ((b7:Nat):Int) + ((b6:Nat):Int) * 256 + ((b5:Nat):Int) * 65536:=by
  rw [or64 16 _ _ (by first | omega | (simp only [qaF]; omega)) (by first | omega | (simp only [qaF]; omega)) (by first | omega | (simp only [qaF]; omega)) (by first | omega | (simp only [qaF]; omega)) (by first | omega | (simp only [qaF]; omega)) (by first | omega | (simp only [qaF]; omega))]; first | omega | (simp only [qaF]; omega)
 have e3:IntKind.u64.wrap (BitVec.ofInt 64 (((b7:Nat):Int) + ((b6:Nat):Int) * 256 + ((b5:Nat):Int) * 65536) ||| BitVec.ofInt 64 (IntKind.u64.wrap (IntKind.u64.wrap (((b4:Nat):Int)) * 16777216))).toNat = ((b7:Nat):Int) + ((b6:Nat):Int) * 256 + ((b5:Nat):Int) * 65536 + ((b4:Nat):Int) * 16777216:=by
  rw [or64 24 _ _ (by first | omega | (simp only [qaF]; omega)) (by first | omega | (simp only [qaF]; omega)) (by first | omega | (simp only [qaF]; omega)) (by first | omega | (simp only [qaF]; omega)) (by first | omega | (simp only [qaF]; omega)) (by first | omega | (simp only [qaF]; omega))]; first | omega | (simp only [qaF]; omega)
 have e4:IntKind.u64.wrap (BitVec.ofInt 64 (((b7:Nat):Int) + ((b6:Nat):Int) * 256 + ((b5:Nat):Int) * 65536 + ((b4:Nat):Int) * 16777216) ||| BitVec.ofInt 64 (IntKind.u64.wrap (IntKind.u64.wrap (((b3:Nat):Int)) * 4294967296))).toNat = ((b7:Nat):Int) + ((b6:Nat):Int) * 256 + ((b5:Nat):Int) * 65536 + ((b4:Nat):Int) * 16777216 + ((b3:Nat):Int) * 4294967296:=by
  rw [or64 32 _ _ (by first | omega | (simp only [qaF]; omega)) (by first | omega | (simp only [qaF]; omega)) (by first | omega | (simp only [qaF]; omega)) (by first | omega | (simp only [qaF]; omega)) (by first | omega | (simp only [qaF]; omega)) (by first | omega | (simp only [qaF]; omega))]; first | omega | (simp only [qaF]; omega)
 have e5:IntKind.u64.wrap (BitVec.ofInt 64 (((b7:Nat):Int) + ((b6:Nat):Int) * 256 + ((b5:Nat):Int) * 65536 + ((b4:Nat):Int) * 16777216 + ((b3:Nat):Int) * 4294967296) ||| BitVec.ofInt 64 (IntKind.u64.wrap (IntKind.u64.wrap (((b2:Nat):Int)) * 1099511627776))).toNat = ((b7:Nat):Int) + ((b6:Nat):Int) * 256 + ((b5:Nat):Int) * 65536 + ((b4:Nat):Int) * 16777216 + ((b3:Nat):Int) * 4294967296 + ((b2:Nat):Int) * 1099511627776:=by
  rw [or64 40 _ _ (by first | omega | (simp only [qaF]; omega)) (by first | omega | (simp only [qaF]; omega)) (by first | omega | (simp only [qaF]; omega)) (by first | omega | (simp only [qaF]; omega)) (by first | omega | (simp only [qaF]; omega)) (by first | omega | (simp only [qaF]; omega))]; first | omega | (simp only [qaF]; omega)
 have e6:IntKind.u64.wrap (BitVec.ofInt 64 (((b7:Nat):Int) + ((b6:Nat):Int) * 256 + ((b5:Nat):Int) * 65536 + ((b4:Nat):Int) * 16777216 + ((b3:Nat):Int) * 4294967296 + ((b2:Nat):Int) * 1099511627776) ||| BitVec.ofInt 64 (IntKind.u64.wrap (IntKind.u64.wrap (((b1:Nat):Int)) * 281474976710656))).toNat = ((b7:Nat):Int) + ((b6:Nat):Int) * 256 + ((b5:Nat):Int) * 65536 + ((b4:Nat):Int) * 16777216 + ((b3:Nat):Int) * 4294967296 + ((b2:Nat):Int) * 1099511627776 + ((b1:Nat):Int) * 281474976710656:=by
  rw [or64 48 _ _ (by first | omega | (simp only [qaF]; omega)) (by first | omega | (simp only [qaF]; omega)) (by first | omega | (simp only [qaF]; omega)) (by first | omega | (simp only [qaF]; omega)) (by first | omega | (simp only [qaF]; omega)) (by first | omega | (simp only [qaF]; omega))]; first | omega | (simp only [qaF]; omega)
 have e7:IntKind.u64.wrap (BitVec.ofInt 64 (((b7:Nat):Int) + ((b6:Nat):Int) * 256 + ((b5:Nat):Int) * 65536 + ((b4:Nat):Int) * 16777216 + ((b3:Nat):Int) * 4294967296 + ((b2:Nat):Int) * 1099511627776 + ((b1:Nat):Int) * 281474976710656) ||| BitVec.ofInt 64 (IntKind.u64.wrap (IntKind.u64.wrap (((b0:Nat):Int)) * 72057594037927936))).toNat = ((b7:Nat):Int) + ((b6:Nat):Int) * 256 + ((b5:Nat):Int) * 65536 + ((b4:Nat):Int) * 16777216 + ((b3:Nat):Int) * 4294967296 + ((b2:Nat):Int) * 1099511627776 + ((b1:Nat):Int) * 281474976710656 + ((b0:Nat):Int) * 72057594037927936:=by
  rw [or64 56 _ _ (by first | omega | (simp only [qaF]; omega)) (by first | omega | (simp only [qaF]; omega)) (by first | omega | (simp only [qaF]; omega)) (by first | omega | (simp only [qaF]; omega)) (by first | omega | (simp only [qaF]; omega)) (by first | omega | (simp only [qaF]; omega))]; first | omega | (simp only [qaF]; omega)
 rw [e1,e2,e3,e4,e5,e6,e7]
 omega
theorem uv_1 (b0:Nat) (h0:b0 < 256):IntKind.u32.wrap (IntKind.u8.wrap (BitVec.ofInt 8 ((b0:Nat):Int) &&& BitVec.ofInt 8 127).toNat) = ((b0 % 128:Nat):Int):=by
 rw [qbH b0 h0,qas]; omega
theorem uv_2 (b0 b1:Nat) (h0:b0 < 256) (h1:b1 < 256):IntKind.u32.wrap (BitVec.ofInt 32 (IntKind.u32.wrap (IntKind.u8.wrap (BitVec.ofInt 8 ((b0:Nat):Int) &&& BitVec.ofInt 8 127).toNat)) ||| BitVec.ofInt 32 (IntKind.u32.wrap (IntKind.u32.wrap (IntKind.u8.wrap (BitVec.ofInt 8 ((b1:Nat):Int) &&& BitVec.ofInt 8 127).toNat) * 128))).toNat = ((b0 % 128:Nat):Int) + ((b1 % 128:Nat):Int) * 128:=by
 have e1:IntKind.u32.wrap (BitVec.ofInt 32 (IntKind.u32.wrap (IntKind.u8.wrap (BitVec.ofInt 8 ((b0:Nat):Int) &&& BitVec.ofInt 8 127).toNat)) ||| BitVec.ofInt 32 (IntKind.u32.wrap (IntKind.u32.wrap (IntKind.u8.wrap (BitVec.ofInt 8 ((b1:Nat):Int) &&& BitVec.ofInt 8 127).toNat) * 128))).toNat = ((b0 % 128:Nat):Int) + ((b1 % 128:Nat):Int) * 128:=by
  rw [qbH b1 h1,qbH b0 h0]; rw [or32 7 _ _ (by first | omega | (simp only [qas]; omega)) (by first | omega | (simp only [qas]; omega)) (by first | omega | (simp only [qas]; omega)) (by first | omega | (simp only [qas]; omega)) (by first | omega | (simp only [qas]; omega)) (by first | omega | (simp only [qas]; omega))]; first | omega | (simp only [qas]; omega)
 rw [e1]
theorem uv_3 (b0 b1 b2:Nat) (h0:b0 < 256) (h1:b1 < 256) (h2:b2 < 256):IntKind.u32.wrap (BitVec.ofInt 32 (IntKind.u32.wrap (BitVec.ofInt 32 (IntKind.u32.wrap (IntKind.u8.wrap (BitVec.ofInt 8 ((b0:Nat):Int) &&& BitVec.ofInt 8 127).toNat)) ||| BitVec.ofInt 32 (IntKind.u32.wrap (IntKind.u32.wrap (IntKind.u8.wrap (BitVec.ofInt 8 ((b1:Nat):Int) &&& BitVec.ofInt 8 127).toNat) * 128))).toNat) ||| BitVec.ofInt 32 (IntKind.u32.wrap (IntKind.u32.wrap (IntKind.u8.wrap (BitVec.ofInt 8 ((b2:Nat):Int) &&& BitVec.ofInt 8 127).toNat) * 16384))).toNat = ((b0 % 128:Nat):Int) + ((b1 % 128:Nat):Int) * 128 + ((b2 % 128:Nat):Int) * 16384:=by
 have e1:IntKind.u32.wrap (BitVec.ofInt 32 (IntKind.u32.wrap (IntKind.u8.wrap (BitVec.ofInt 8 ((b0:Nat):Int) &&& BitVec.ofInt 8 127).toNat)) ||| BitVec.ofInt 32 (IntKind.u32.wrap (IntKind.u32.wrap (IntKind.u8.wrap (BitVec.ofInt 8 ((b1:Nat):Int) &&& BitVec.ofInt 8 127).toNat) * 128))).toNat = ((b0 % 128:Nat):Int) + ((b1 % 128:Nat):Int) * 128:=by
  rw [qbH b1 h1,qbH b0 h0]; rw [or32 7 _ _ (by first | omega | (simp only [qas]; omega)) (by first | omega | (simp only [qas]; omega)) (by first | omega | (simp only [qas]; omega)) (by first | omega | (simp only [qas]; omega)) (by first | omega | (simp only [qas]; omega)) (by first | omega | (simp only [qas]; omega))]; first | omega | (simp only [qas]; omega)
 have e2:IntKind.u32.wrap (BitVec.ofInt 32 (((b0 % 128:Nat):Int) + ((b1 % 128:Nat):Int) * 128) ||| BitVec.ofInt 32 (IntKind.u32.wrap (IntKind.u32.wrap (IntKind.u8.wrap (BitVec.ofInt 8 ((b2:Nat):Int) &&& BitVec.ofInt 8 127).toNat) * 16384))).toNat = ((b0 % 128:Nat):Int) + ((b1 % 128:Nat):Int) * 128 + ((b2 % 128:Nat):Int) * 16384:=by
  rw [qbH b2 h2]; rw [or32 14 _ _ (by first | omega | (simp only [qas]; omega)) (by first | omega | (simp only [qas]; omega)) (by first | omega | (simp only [qas]; omega)) (by first | omega | (simp only [qas]; omega)) (by first | omega | (simp only [qas]; omega)) (by first | omega | (simp only [qas]; omega))]; first | omega | (simp only [qas]; omega)
 rw [e1,e2]
theorem uv_4 (b0 b1 b2 b3:Nat) (h0:b0 < 256) (h1:b1 < 256) (h2:b2 < 256) (h3:b3 < 256):IntKind.u32.wrap (BitVec.ofInt 32 (IntKind.u32.wrap (BitVec.ofInt 32 (IntKind.u32.wrap (BitVec.ofInt 32 (IntKind.u32.wrap (IntKind.u8.wrap (BitVec.ofInt 8 ((b0:Nat):Int) &&& BitVec.ofInt 8 127).toNat)) ||| BitVec.ofInt 32 (IntKind.u32.wrap (IntKind.u32.wrap (IntKind.u8.wrap (BitVec.ofInt 8 ((b1:Nat):Int) &&& BitVec.ofInt 8 127).toNat) * 128))).toNat) ||| BitVec.ofInt 32 (IntKind.u32.wrap (IntKind.u32.wrap (IntKind.u8.wrap (BitVec.ofInt 8 ((b2:Nat):Int) &&& BitVec.ofInt 8 127).toNat) * 16384))).toNat) ||| BitVec.ofInt 32 (IntKind.u32.wrap (IntKind.u32.wrap (IntKind.u8.wrap (BitVec.ofInt 8 ((b3:Nat):Int) &&& BitVec.ofInt 8 127).toNat) * 2097152))).toNat = ((b0 % 128:Nat):Int) + ((b1 % 128:Nat):Int) * 128 + ((b2 % 128:Nat):Int) * 16384 + ((b3 % 128:Nat):Int) * 2097152:=by
 have e1:IntKind.u32.wrap (BitVec.ofInt 32 (IntKind.u32.wrap (IntKind.u8.wrap (BitVec.ofInt 8 ((b0:Nat):Int) &&& BitVec.ofInt 8 127).toNat)) ||| BitVec.ofInt 32 (IntKind.u32.wrap (IntKind.u32.wrap (IntKind.u8.wrap (BitVec.ofInt 8 ((b1:Nat):Int) &&& BitVec.ofInt 8 127).toNat) * 128))).toNat = ((b0 % 128:Nat):Int) + ((b1 % 128:Nat):Int) * 128:=by
  rw [qbH b1 h1,qbH b0 h0]; rw [or32 7 _ _ (by first | omega | (simp only [qas]; omega)) (by first | omega | (simp only [qas]; omega)) (by first | omega | (simp only [qas]; omega)) (by first | omega | (simp only [qas]; omega)) (by first | omega | (simp only [qas]; omega)) (by first | omega | (simp only [qas]; omega))]; first | omega | (simp only [qas]; omega)
 have e2:IntKind.u32.wrap (BitVec.ofInt 32 (((b0 % 128:Nat):Int) + ((b1 % 128:Nat):Int) * 128) ||| BitVec.ofInt 32 (IntKind.u32.wrap (IntKind.u32.wrap (IntKind.u8.wrap (BitVec.ofInt 8 ((b2:Nat):Int) &&& BitVec.ofInt 8 127).toNat) * 16384))).toNat = ((b0 % 128:Nat):Int) + ((b1 % 128:Nat):Int) * 128 + ((b2 % 128:Nat):Int) * 16384:=by
  rw [qbH b2 h2]; rw [or32 14 _ _ (by first | omega | (simp only [qas]; omega)) (by first | omega | (simp only [qas]; omega)) (by first | omega | (simp only [qas]; omega)) (by first | omega | (simp only [qas]; omega)) (by first | omega | (simp only [qas]; omega)) (by first | omega | (simp only [qas]; omega))]; first | omega | (simp only [qas]; omega)
 have e3:IntKind.u32.wrap (BitVec.ofInt 32 (((b0 % 128:Nat):Int) + ((b1 % 128:Nat):Int) * 128 + ((b2 % 128:Nat):Int) * 16384) ||| BitVec.ofInt 32 (IntKind.u32.wrap (IntKind.u32.wrap (IntKind.u8.wrap (BitVec.ofInt 8 ((b3:Nat):Int) &&& BitVec.ofInt 8 127).toNat) * 2097152))).toNat = ((b0 % 128:Nat):Int) + ((b1 % 128:Nat):Int) * 128 + ((b2 % 128:Nat):Int) * 16384 + ((b3 % 128:Nat):Int) * 2097152:=by
  rw [qbH b3 h3]; rw [or32 21 _ _ (by first | omega | (simp only [qas]; omega)) (by first | omega | (simp only [qas]; omega)) (by first | omega | (simp only [qas]; omega)) (by first | omega | (simp only [qas]; omega)) (by first | omega | (simp only [qas]; omega)) (by first | omega | (simp only [qas]; omega))]; first | omega | (simp only [qas]; omega)
 rw [e1,e2,e3]
theorem uv_5 (b0 b1 b2 b3 b4:Nat) (h0:b0 < 256) (h1:b1 < 256) (h2:b2 < 256) (h3:b3 < 256) (h4:b4 < 16):IntKind.u32.wrap (BitVec.ofInt 32 (IntKind.u32.wrap (BitVec.ofInt 32 (IntKind.u32.wrap (BitVec.ofInt 32 (IntKind.u32.wrap (BitVec.ofInt 32 (IntKind.u32.wrap (IntKind.u8.wrap (BitVec.ofInt 8 ((b0:Nat):Int) &&& BitVec.ofInt 8 127).toNat)) ||| BitVec.ofInt 32 (IntKind.u32.wrap (IntKind.u32.wrap (IntKind.u8.wrap (BitVec.ofInt 8 ((b1:Nat):Int) &&& BitVec.ofInt 8 127).toNat) * 128))).toNat) ||| BitVec.ofInt 32 (IntKind.u32.wrap (IntKind.u32.wrap (IntKind.u8.wrap (BitVec.ofInt 8 ((b2:Nat):Int) &&& BitVec.ofInt 8 127).toNat) * 16384))).toNat) ||| BitVec.ofInt 32 (IntKind.u32.wrap (IntKind.u32.wrap (IntKind.u8.wrap (BitVec.ofInt 8 ((b3:Nat):Int) &&& BitVec.ofInt 8 127).toNat) * 2097152))).toNat) ||| BitVec.ofInt 32 (IntKind.u32.wrap (IntKind.u32.wrap (((b4:Nat):Int)) * 268435456))).toNat = ((b0 % 128:Nat):Int) + ((b1 % 128:Nat):Int) * 128 + ((b2 % 128:Nat):Int) * 16384 + ((b3 % 128:Nat):Int) * 2097152 + ((b4:Nat):Int) * 268435456:=by
 have e1:IntKind.u32.wrap (BitVec.ofInt 32 (IntKind.u32.wrap (IntKind.u8.wrap (BitVec.ofInt 8 ((b0:Nat):Int) &&& BitVec.ofInt 8 127).toNat)) ||| BitVec.ofInt 32 (IntKind.u32.wrap (IntKind.u32.wrap (IntKind.u8.wrap (BitVec.ofInt 8 ((b1:Nat):Int) &&& BitVec.ofInt 8 127).toNat) * 128))).toNat = ((b0 % 128:Nat):Int) + ((b1 % 128:Nat):Int) * 128:=by
  rw [qbH b1 h1,qbH b0 h0]; rw [or32 7 _ _ (by first | omega | (simp only [qas]; omega)) (by first | omega | (simp only [qas]; omega)) (by first | omega | (simp only [qas]; omega)) (by first | omega | (simp only [qas]; omega)) (by first | omega | (simp only [qas]; omega)) (by first | omega | (simp only [qas]; omega))]; first | omega | (simp only [qas]; omega)
 have e2:IntKind.u32.wrap (BitVec.ofInt 32 (((b0 % 128:Nat):Int) + ((b1 % 128:Nat):Int) * 128) ||| BitVec.ofInt 32 (IntKind.u32.wrap (IntKind.u32.wrap (IntKind.u8.wrap (BitVec.ofInt 8 ((b2:Nat):Int) &&& BitVec.ofInt 8 127).toNat) * 16384))).toNat = ((b0 % 128:Nat):Int) + ((b1 % 128:Nat):Int) * 128 + ((b2 % 128:Nat):Int) * 16384:=by
  rw [qbH b2 h2]; rw [or32 14 _ _ (by first | omega | (simp only [qas]; omega)) (by first | omega | (simp only [qas]; omega)) (by first | omega | (simp only [qas]; omega)) (by first | omega | (simp only [qas]; omega)) (by first | omega | (simp only [qas]; omega)) (by first | omega | (simp only [qas]; omega))]; first | omega | (simp only [qas]; omega)
 have e3:IntKind.u32.wrap (BitVec.ofInt 32 (((b0 % 128:Nat):Int) + ((b1 % 128:Nat):Int) * 128 + ((b2 % 128:Nat):Int) * 16384) ||| BitVec.ofInt 32 (IntKind.u32.wrap (IntKind.u32.wrap (IntKind.u8.wrap (BitVec.ofInt 8 ((b3:Nat):Int) &&& BitVec.ofInt 8 127).toNat) * 2097152))).toNat = ((b0 % 128:Nat):Int) + ((b1 % 128:Nat):Int) * 128 + ((b2 % 128:Nat):Int) * 16384 + ((b3 % 128:Nat):Int) * 2097152:=by
  rw [qbH b3 h3]; rw [or32 21 _ _ (by first | omega | (simp only [qas]; omega)) (by first | omega | (simp only [qas]; omega)) (by first | omega | (simp only [qas]; omega)) (by first | omega | (simp only [qas]; omega)) (by first | omega | (simp only [qas]; omega)) (by first | omega | (simp only [qas]; omega))]; first | omega | (simp only [qas]; omega)
 have e4:IntKind.u32.wrap (BitVec.ofInt 32 (((b0 % 128:Nat):Int) + ((b1 % 128:Nat):Int) * 128 + ((b2 % 128:Nat):Int) * 16384 + ((b3 % 128:Nat):Int) * 2097152) ||| BitVec.ofInt 32 (IntKind.u32.wrap (IntKind.u32.wrap (((b4:Nat):Int)) * 268435456))).toNat = ((b0 % 128:Nat):Int) + ((b1 % 128:Nat):Int) * 128 + ((b2 % 128:Nat):Int) * 16384 + ((b3 % 128:Nat):Int) * 2097152 + ((b4:Nat):Int) * 268435456:=by
  rw [or32 28 _ _ (by first | omega | (simp only [qas]; omega)) (by first | omega | (simp only [qas]; omega)) (by first | omega | (simp only [qas]; omega)) (by first | omega | (simp only [qas]; omega)) (by first | omega | (simp only [qas]; omega)) (by first | omega | (simp only [qas]; omega))]; first | omega | (simp only [qas]; omega)
 rw [e1,e2,e3,e4]
theorem qjT {G:Nat → Nat → Prop} {w0 w:World} {tb:Tb} {rs:List Rw} {p n:Nat} {cs:List Value} (i:Nat) (hi:tb[i]? = some ⟨p,0,cs,true⟩) (hn:cs.length = n:=by rfl):∀ b o,Imm G w0 w tb rs b o → ¬ (b = p ∧ o < n):=by
 subst hn
 exact qhp i hi
theorem qdk {G:Nat → Nat → Prop} {w0 w:World} {tb:Tb} {rs:List Rw} {p:Nat} {x y:Value} (i:Nat) (hi:tb[i]? = some ⟨p,0,[x,y],true⟩):∀ b o,Imm G w0 w tb rs b o → ¬ RdM p b o:=qhp i hi
theorem WOk.immM {G:Nat → Nat → Prop} {w0 w:World} {M:Nat → Nat → Prop} {tb:Tb} {rs:List Rw} (h:WOk w0 M w tb rs) (hd:∀ b o,G b o → ¬ M b o):∀ b o,G b o → b < w0.heap.size → Imm G w0 w tb rs b o:=by
 refine fun b o hg hb=>⟨.inl hg,Nat.lt_of_lt_of_le hb h.step.size,fun ha=>hd b o hg ?_⟩
 rcases ha with ⟨i,ob,hi,hr,rfl,h1,h2⟩ | ⟨i,r,hi,hr⟩
 ·have:=(h.rw_ i ob hi hr (o - ob.off) (by omega)).1
  rw [show ob.off + (o - ob.off) = o by omega] at this
  rcases this with h3 | h3
  ·omega
  exact h3
 rcases h.ownM i r hi b hr with h3 | h3
 ·omega
 exact h3 o
abbrev qdx:=World → (Nat → Nat → Prop) → Prop
structure MvF (P:qdx):Prop where
 move:∀ {w w':World} {F F' M:Nat → Nat → Prop},Step w w' M → (∀ b o,F b o → b < w.heap.size → ¬ M b o) → (∀ b o,F b o → b < w.heap.size → F' b o) → P w F → P w' F'
def noF:qdx:=fun _ _=>True
def andF (P Q:qdx):qdx:=fun w F=>P w F ∧ Q w F
theorem MvF.no:MvF noF:=⟨fun _ _ _ _=>trivial⟩
theorem MvF.and {P Q:qdx} (h:MvF P) (h':MvF Q):MvF (andF P Q):=⟨fun hs hM hF g=>⟨h.move hs hM hF g.1,h'.move hs hM hF g.2⟩⟩
theorem MvF.mono {P:qdx} (h:MvF P) {w:World} {F F':Nat → Nat → Prop} (hF:∀ b o,F b o → b < w.heap.size → F' b o) (g:P w F):P w F':=h.move (Step.refl w Nil) nilM hF g
def qju (A:Option Addr) (c:Nat) (X:Bs):qdx:=fun w F=>Octs w F A c X
theorem MvF.octs (A:Option Addr) (c:Nat) (X:Bs):MvF (qju A c X):=⟨fun hs hM hF g=>Octs.move g hs hM hF⟩
abbrev rdo (br:Nat) (A:Option Addr) (m c:Nat):Ob:=⟨br,0,[.slice A m c,.bool false],true⟩
theorem qiY {br:Nat} {A A':Option Addr} {m c m' c':Nat} {tb:Tb} {rs:List Rw} {b o:Nat} (h:Act_ (rdo br A m c :: tb) rs b o):Act_ (rdo br A' m' c' :: tb) rs b o:=by
 rcases h with ⟨i,ob,hi,h1⟩ | h
 ·cases i with
  | zero =>
   simp only [List.getElem?_cons_zero,Option.some.injEq] at hi
   subst hi
   exact .inl ⟨0,_,rfl,h1⟩
  | succ i=>exact .inl ⟨i + 1,ob,hi,h1⟩
 exact .inr h
theorem qeF {G:Nat → Nat → Prop} {w0 w:World} {br:Nat} {A A':Option Addr} {m c m' c':Nat} {tb:Tb} {rs:List Rw} {b o:Nat} (h:Imm G w0 w (rdo br A m c :: tb) rs b o):Imm G w0 w (rdo br A' m' c' :: tb) rs b o :=
 ⟨h.1,h.2.1,fun ha=>h.2.2 (qiY ha)⟩
theorem EnvOk.rdo {n br:Nat} {A A':Option Addr} {m c m' c':Nat} {tb:Tb} {env:Env} {a:Act} (h:EnvOk n (rdo br A m c :: tb) env a):EnvOk n (rdo br A' m' c' :: tb) env a:=by
 refine h.table fun i hi=>?_
 cases i with
 | zero=>exact ⟨by simp,rfl,rfl⟩
 | succ i=>exact ⟨by simpa using hi,rfl,rfl⟩
structure RS (w0:World) (M F:Nat → Nat → Prop) (n br:Nat) (tb:Tb) (env:Env) (P:qdx) (s:Bs) (a:Act) (w:World):Prop where
 mv:MvF P
 ex:∃ A m c,WOk w0 M w (rdo br A m c :: tb) [] ∧ RdS w (Imm F w0 w (rdo br none 0 0 :: tb) []) A m c s
 env_:EnvOk n (rdo br none 0 0 :: tb) env a
 fact:P w (Imm F w0 w (rdo br none 0 0 :: tb) [])
section
variable {Pr:Program} {ops opsA opsB opsC:Array Oper} {Q:Exit → Act → World → Prop} {w0:World} {M F:Nat → Nat → Prop} {n br:Nat} {tb:Tb} {env:Env} {P:qdx} {s:Bs} {a:Act} {w:World}
theorem RS.mk' {A:Option Addr} {m c:Nat} (hW:WOk w0 M w (rdo br A m c :: tb) []) (hr:RdS w (Imm F w0 w (rdo br A m c :: tb) []) A m c s) (hE:EnvOk n (rdo br A m c :: tb) env a) (mv:MvF P) (hP:P w (Imm F w0 w (rdo br A m c :: tb) [])):RS w0 M F n br tb env P s a w :=
 ⟨mv,⟨A,m,c,hW,hr.move (Step.refl w Nil) nilM fun b o h _=>qeF h⟩,hE.rdo,mv.mono (fun b o h _=>qeF h) hP⟩
theorem RS.open_ (h:RS w0 M F n br tb env P s a w):∃ A m c,WOk w0 M w (rdo br A m c :: tb) [] ∧ RdS w (Imm F w0 w (rdo br A m c :: tb) []) A m c s ∧ EnvOk n (rdo br A m c :: tb) env a ∧ P w (Imm F w0 w (rdo br A m c :: tb) []):=by
 obtain ⟨A,m,c,hW,hr⟩:=h.ex
 exact ⟨A,m,c,hW,hr.move (Step.refl w Nil) nilM fun b o h _=>qeF h,h.env_.rdo,h.mv.mono (fun b o h _=>qeF h) h.fact⟩
theorem RS.cast {t:Bs} (h:RS w0 M F n br tb env P s a w) (e:s = t):RS w0 M F n br tb env P t a w:=e ▸ h
theorem RS.pk {env':Env} (h:RS w0 M F n br tb env P s a w) (e:ME.pick env (qbM env') = some env':=by kernel_rfl):RS w0 M F n br tb env' P s a w:=⟨h.mv,h.ex,h.env_.pk e,h.fact⟩
theorem qgr {L:List Nat} (idxs rest:List Nat) (env':Env) (h:RS w0 M F n br tb env P s a w) (k:∀ a',RS w0 M F n br tb env' P s a' w → wpOps Pr ops Q rest a' w) (e:∀ A m c,qdC Pr ops n (rdo br A m c :: tb) idxs (qbM env') env = some env':=by intro _ _ _; kernel_rfl) (hl:L = idxs ++ rest:=by rfl):wpOps Pr ops Q L a w:=by
 obtain ⟨A,m,c,hW,hr,hE,hP⟩:=h.open_
 exact qfj idxs rest (qbM env') hW hE (e A m c) hl fun a' hE'=>k a' (RS.mk' hW hr hE' h.mv hP)
theorem qgs {id:Nat} (env':Env) (h:RS w0 M F n br tb env P s a w) (k:∀ a',RS w0 M F n br tb env' P s a' w → Q .normal a' w) (e:∀ A m c,qdC Pr ops n (rdo br A m c :: tb) (List.range ops.size) (qbM env') env = some env':=by intro _ _ _; kernel_rfl):(Code.region id ops false).wp Pr Q a w :=
 qaw (List.range ops.size) rfl (qgr (List.range ops.size) [] env' h (fun a' h'=>qae (k a' h')) e (List.append_nil _).symm)
def qiZ (Pr:Program) (f:FuncId) {τ:Type} (X rest:Bs) (val:τ → Value) (fact:τ → qdx):Prop :=
 ∀ {br:Nat} {A:Option Addr} {m c:Nat} {w:World} {F:Nat → Nat → Prop},Str w br [.slice A m c,.bool false] → RdS w F A m c (X ++ rest) → (∀ b o,F b o → ¬ RdM br b o) →
  Calls Pr f #[.pointer (some ⟨br,0,none⟩)] w (RdPost w br (Fp F w) rest fun v w'=>∃ x,v = val x ∧ fact x w' (Fp F w))
def qel (Pr:Program) (f:FuncId) (X rest:Bs) (v0:Value):Prop :=
 ∀ {br:Nat} {A:Option Addr} {m c:Nat} {w:World} {F:Nat → Nat → Prop},Str w br [.slice A m c,.bool false] → RdS w F A m c (X ++ rest) → (∀ b o,F b o → ¬ RdM br b o) →
  Calls Pr f #[.pointer (some ⟨br,0,none⟩)] w (RdPost w br (Fp F w) rest fun v w'=>v = v0)
theorem RdPost.fp {w:World} {br:Nat} {F:Nat → Nat → Prop} {rest:Bs} {Q Q':Value → World → Prop} {e:Ending} {w':World} (hq:∀ v w',Q v w' → Q' v w') (h:RdPost w br F rest Q e w'):RdPost w br (Fp F w) rest Q' e w':=by
 obtain ⟨v,A',n',c',h1,h2,h3,h4,h5⟩:=h
 exact ⟨v,A',n',c',h1,h2,h3.move (Step.refl _ Nil) nilM fun b o g _=>.inl g,h4,hq _ _ h5⟩
theorem RdPost.q {w:World} {br:Nat} {F:Nat → Nat → Prop} {rest:Bs} {Q Q':Value → World → Prop} {e:Ending} {w':World} (hq:∀ v w',Q v w' → Q' v w') (h:RdPost w br F rest Q e w'):RdPost w br F rest Q' e w':=by
 obtain ⟨v,A',n',c',h1,h2,h3,h4,h5⟩:=h
 exact ⟨v,A',n',c',h1,h2,h3,h4,hq _ _ h5⟩
theorem qi0 {i d:Nat} {f:FuncId} {τ:Type} {X rest:Bs} {val:τ → Value} {fact:τ → qdx} {N:Act → World → Prop} (h:RS w0 M F n br tb env P (X ++ rest) a w) (hc:qiZ Pr f X rest val fact) (hm:∀ x,MvF (fact x))
  (hf:∀ args w,(callFunc f args).run Pr w = .ok (.enter f args) w) (K:∀ x P' a' w',(∀ w F,P' w F → P w F ∧ fact x w F) → RS w0 M F n br tb ((d,.v (val x)) :: env) P' rest a' w' → N a' w')
  (he:∀ A m c,qeO (rdo br A m c :: tb) env ops n i = some (f,[.pointer (some ⟨br,0,none⟩)],d):=by intro _ _ _; kernel_rfl):wpOp Pr ops Q i N a w:=by
 obtain ⟨A,m,c,hW,hr,hE,hP⟩:=h.open_
 refine qai hE (he A m c) hf (hc (Str.of hW 0 rfl) hr (qdk 0 rfl)) ?_
 rintro e_ w1 ⟨_,A1,n1,c1,rfl,hs,hr1,hst,x,rfl,hx⟩
 refine ⟨_,rfl,fun a1 hE1=>?_⟩
 obtain ⟨hW2,hF2,hL⟩:=hW.wrote 0 (rdo br A1 n1 c1 :: tb) rfl hst hs
 exact K x (andF P (fact x)) a1 w1 (fun _ _ g=>g) (RS.mk' hW2 (hr1.move (Step.refl _ Nil) nilM hL) hE1.rdo (h.mv.and (hm x)) ⟨h.mv.move hF2.step immM hF2.to' hP,(hm x).mono hL hx⟩)
theorem qfY {i d:Nat} {f:FuncId} {X rest:Bs} {v0:Value} {N:Act → World → Prop} (h:RS w0 M F n br tb env P (X ++ rest) a w) (hc:qel Pr f X rest v0)
  (hf:∀ args w,(callFunc f args).run Pr w = .ok (.enter f args) w) (K:∀ a' w',RS w0 M F n br tb ((d,.v v0) :: env) P rest a' w' → N a' w')
  (he:∀ A m c,qeO (rdo br A m c :: tb) env ops n i = some (f,[.pointer (some ⟨br,0,none⟩)],d):=by intro _ _ _; kernel_rfl):wpOp Pr ops Q i N a w:=by
 obtain ⟨A,m,c,hW,hr,hE,hP⟩:=h.open_
 refine qai hE (he A m c) hf (hc (Str.of hW 0 rfl) hr (qdk 0 rfl)) ?_
 rintro e_ w1 ⟨_,A1,n1,c1,rfl,hs,hr1,hst,rfl⟩
 refine ⟨_,rfl,fun a1 hE1=>?_⟩
 obtain ⟨hW2,hF2,hL⟩:=hW.wrote 0 (rdo br A1 n1 c1 :: tb) rfl hst hs
 exact K a1 w1 (RS.mk' hW2 (hr1.move (Step.refl _ Nil) nilM hL) hE1.rdo h.mv (h.mv.move hF2.step immM hF2.to' hP))
theorem qfA {i d:Nat} {f:FuncId} {v0:Value} {N:Act → World → Prop} (h:RS w0 M F n br tb env P s a w) (hc:∀ {br:Nat} {A:Option Addr} {m c:Nat} {w:World},Str w br [.slice A m c,.bool false] → Calls Pr f #[.pointer (some ⟨br,0,none⟩)] w (fun e w'=>e = .returned v0 ∧ w' = w))
  (hf:∀ args w,(callFunc f args).run Pr w = .ok (.enter f args) w) (K:∀ a',RS w0 M F n br tb ((d,.v v0) :: env) P s a' w → N a' w)
  (he:∀ A m c,qeO (rdo br A m c :: tb) env ops n i = some (f,[.pointer (some ⟨br,0,none⟩)],d):=by intro _ _ _; kernel_rfl):wpOp Pr ops Q i N a w:=by
 obtain ⟨A,m,c,hW,hr,hE,hP⟩:=h.open_
 refine qai hE (he A m c) hf (hc (Str.of hW 0 rfl)) ?_
 rintro e_ _ ⟨rfl,rfl⟩
 exact ⟨_,rfl,fun a1 hE1=>K a1 (RS.mk' hW hr hE1 h.mv hP)⟩
theorem qh0 {i:Nat} (tb':Tb) (j:Nat) {N:Act → World → Prop} (h:RS w0 M F n br tb env P s a w) (K:∀ w',RS w0 M F n br tb' env P s a w' → N a w')
  (he:∀ A m c,qfE Pr (rdo br A m c :: tb) env ops i = some (j + 1,(obAt tb' j).cells):=by intro _ _ _; kernel_rfl) (ht:Tb.put tb j (obAt tb' j).cells = tb':=by rfl):wpOp Pr ops Q i N a w:=by
 obtain ⟨A,m,c,hW,hr,hE,hP⟩:=h.open_
 refine qay hW hE (he A m c) fun w1 hF1 hW1 hE1=>K w1 ?_
 have e:Tb.put (rdo br A m c :: tb) (j + 1) (obAt tb' j).cells = rdo br A m c :: tb':=by
  show rdo br A m c :: Tb.put tb j (obAt tb' j).cells = _
  rw [ht]
 rw [e] at hF1 hW1 hE1
 exact RS.mk' hW1 (hr.move hF1.step immM hF1.to') hE1 h.mv (h.mv.move hF1.step immM hF1.to' hP)
theorem qem {k:Nat} (h:Nat.blt 0 k = true):List.range k = [0] ++ (List.range k).drop 1:=by
 cases k with
 | zero=>cases h
 | succ k=>rw [List.range_succ_eq_map]; rfl
theorem qjU {id d:Nat} {f:FuncId} {τ:Type} {X rest:Bs} {val:τ → Value} {fact:τ → qdx} (env':τ → Env) (h:RS w0 M F n br tb env P (X ++ rest) a w) (hc:qiZ Pr f X rest val fact) (hm:∀ x,MvF (fact x))
  (hf:∀ args w,(callFunc f args).run Pr w = .ok (.enter f args) w) (K:∀ x P' a' w',(∀ w F,P' w F → P w F ∧ fact x w F) → RS w0 M F n br tb (env' x) P' rest a' w' → Q .normal a' w')
  (he:∀ A m c,qeO (rdo br A m c :: tb) env ops n 0 = some (f,[.pointer (some ⟨br,0,none⟩)],d):=by intro _ _ _; kernel_rfl)
  (e:∀ x A m c,qdC Pr ops n (rdo br A m c :: tb) ((List.range ops.size).drop 1) (qbM (env' x)) ((d,.v (val x)) :: env) = some (env' x):=by intro _ _ _ _; kernel_rfl) (hs:Nat.blt 0 ops.size = true:=by kernel_rfl):(Code.region id ops false).wp Pr Q a w:=by
 refine qaw _ (qem hs) (qam (qi0 h hc hm hf (fun x P' a' w' hP hS=>?_) he))
 exact qgr ((List.range ops.size).drop 1) [] (env' x) hS (fun a2 h2=>qae (K x P' a2 w' hP h2)) (e x) (List.append_nil _).symm
theorem qil {id d:Nat} {f:FuncId} {X rest:Bs} {v0:Value} (env':Env) (h:RS w0 M F n br tb env P (X ++ rest) a w) (hc:qel Pr f X rest v0)
  (hf:∀ args w,(callFunc f args).run Pr w = .ok (.enter f args) w) (K:∀ a' w',RS w0 M F n br tb env' P rest a' w' → Q .normal a' w')
  (he:∀ A m c,qeO (rdo br A m c :: tb) env ops n 0 = some (f,[.pointer (some ⟨br,0,none⟩)],d):=by intro _ _ _; kernel_rfl)
  (e:∀ A m c,qdC Pr ops n (rdo br A m c :: tb) ((List.range ops.size).drop 1) (qbM env') ((d,.v v0) :: env) = some env':=by intro _ _ _; kernel_rfl) (hs:Nat.blt 0 ops.size = true:=by kernel_rfl):(Code.region id ops false).wp Pr Q a w:=by
 refine qaw _ (qem hs) (qam (qfY h hc hf (fun a' w' hS=>?_) he))
 exact qgr ((List.range ops.size).drop 1) [] env' hS (fun a2 h2=>qae (K a2 w' h2)) e (List.append_nil _).symm
def stoE (P:Program) (ops:Array Oper) (n:Nat) (tb:Tb) (env:Env) (keys:List Nat):Option (Nat × List Value × Env) :=
 match runs P ops n tb (List.range (ops.size - 1)) env with
 | some e=>match qfE P tb e ops (ops.size - 1),pick e keys with
  | some (i,cs),some e'=>some (i,cs,e')
  | _,_=>none
 | none=>none
theorem qhr {id:Nat} (tb':Tb) (j:Nat) (env':Env) (h:RS w0 M F n br tb env P s a w) (K:∀ a' w',RS w0 M F n br tb' env' P s a' w' → Q .normal a' w')
  (he:∀ A m c,stoE Pr ops n (rdo br A m c :: tb) env (qbM env') = some (j + 1,(obAt tb' j).cells,env'):=by intro _ _ _; kernel_rfl) (ht:Tb.put tb j (obAt tb' j).cells = tb':=by rfl) (hs:Nat.blt 0 ops.size = true:=by kernel_rfl):(Code.region id ops false).wp Pr Q a w:=by
 obtain ⟨A,m,c,hW,hr,hE,hP⟩:=h.open_
 have h1:=he A m c
 unfold stoE at h1
 split at h1
 ·rename_i e he'
  split at h1
  ·rename_i i cs e' g1 g2
   simp only [Option.some.injEq,Prod.mk.injEq] at h1
   obtain ⟨rfl,rfl,rfl⟩:=h1
   have hr0:List.range ops.size = List.range (ops.size - 1) ++ [ops.size - 1]:=by
    have:0 < ops.size:=by simpa [Nat.blt_eq] using hs
    rw [← List.range_succ]; congr 1; omega
   refine qaw _ hr0 (qcM hW.cells hE he' fun a1 hE1=>qam (qay hW hE1 g1 fun w1 hF1 hW1 hE2=>qae (K a1 w1 ?_)))
   have e:Tb.put (rdo br A m c :: tb) (j + 1) (obAt tb' j).cells = rdo br A m c :: tb':=by
    show rdo br A m c :: Tb.put tb j (obAt tb' j).cells = _
    rw [ht]
   rw [e] at hF1 hW1 hE2
   exact RS.mk' hW1 (hr.move hF1.step immM hF1.to') (hE2.pick g2) h.mv (h.mv.move hF1.step immM hF1.to' hP)
  cases h1
 cases h1
end
def qfB:Env → Env
 | []=>[]
 | (k,.v x) :: r=>(k,.v x) :: qfB r
 | (k,.p i j) :: r=>(k,.p (match i with | 0=>1 | 1=>0 | i=>i) j) :: qfB r
theorem qi1 {n:Nat} {o1 o2:Ob} {env:Env} {a:Act} (h:EnvOk n [o1,o2] env a):EnvOk n [o2,o1] (qfB env) a:=by
 have key:∀ (env:Env) (k:Nat) (x:SV),lk (qfB env) k = some x → ∃ y,lk env k = some y ∧ (y.ok [o1,o2] → x.val [o2,o1] = y.val [o1,o2] ∧ x.ok [o2,o1]):=by
  intro env
  induction env with
  | nil=>intro k x hx; cases hx
  | cons e r ih =>
   obtain ⟨k',sv⟩:=e
   intro k x hx
   cases sv with
   | v y =>
    simp only [qfB,lk] at hx ⊢
    split at hx
    ·rename_i hb
     simp only [Option.some.injEq] at hx
     subst hx
     exact ⟨_,rfl,fun _=>⟨rfl,trivial⟩⟩
    exact ih k x hx
   | p i j =>
    simp only [qfB,lk] at hx ⊢
    split at hx
    ·rename_i hb
     simp only [Option.some.injEq] at hx
     subst hx
     refine ⟨_,rfl,fun hok=>?_⟩
     have hok':i < 2:=hok
     match i,hok' with
     | 0,_=>exact ⟨rfl,show 1 < 2 by omega⟩
     | 1,_=>exact ⟨rfl,show 0 < 2 by omega⟩
    exact ih k x hx
 refine ⟨h.defers,h.size,fun k x hx=>?_⟩
 obtain ⟨y,hy,hv⟩:=key env k x hx
 obtain ⟨h1,h2⟩:=h.at_ k y hy
 obtain ⟨h3,h4⟩:=hv h2
 exact ⟨by rw [h3]; exact h1,h4⟩
theorem qca {α:Type} {x y o:α} {i:Nat} (h:[y,x][i]? = some o):[x,y][1 - i]? = some o ∧ i < 2:=by
 match i,h with
 | 0,h=>exact ⟨h,by omega⟩
 | 1,h=>exact ⟨h,by omega⟩
 | i + 2,h=>simp at h
theorem WOk.swap2 {w0 w:World} {M:Nat → Nat → Prop} {o1 o2:Ob} (h:WOk w0 M w [o1,o2] []):WOk w0 M w [o2,o1] [] :=
 ⟨h.step,fun i o hi=>h.cells _ o (qca hi).1,fun i o hi=>h.live _ o (qca hi).1,fun i o hi=>h.rw_ _ o (qca hi).1,fun i j o o' hij hi hj hw=>h.apart _ _ o o' (by have:=(qca hi).2; have:=(qca hj).2; omega) (qca hi).1 (qca hj).1 hw,h.own,h.ownM,fun i r hi=>by simp at hi,h.rr⟩
theorem qh1 {o1 o2:Ob} {b o:Nat} (h:Act_ [o2,o1] [] b o):Act_ [o1,o2] [] b o:=by
 rcases h with ⟨i,ob,hi,h1⟩ | ⟨i,r,hi,_⟩
 ·exact .inl ⟨_,ob,(qca hi).1,h1⟩
 simp at hi
theorem RS.start {w0 w:World} {M F:Nat → Nat → Prop} {n br c:Nat} {A:Option Addr} {o1:Ob} {env:Env} {s:Bs} {a:Act} (hW:WOk w0 M w [o1,rdo br A s.length c] []) (hE:EnvOk n [o1,rdo br A s.length c] env a) (ho:Octs w (Imm F w0 w [o1,rdo br A s.length c] []) A c s) (env':Env) (he:pick (qfB env) (qbM env') = some env':=by kernel_rfl):RS w0 M F n br [o1] env' noF s a w :=
 RS.mk' hW.swap2 ⟨rfl,ho.move (Step.refl w Nil) nilM fun b o h _=>⟨h.1,h.2.1,fun ha=>h.2.2 (qh1 ha)⟩⟩ ((qi1 hE).pick he) MvF.no trivial
end Go.Proofs.YtajibgahdkllkaaDoorR.ME