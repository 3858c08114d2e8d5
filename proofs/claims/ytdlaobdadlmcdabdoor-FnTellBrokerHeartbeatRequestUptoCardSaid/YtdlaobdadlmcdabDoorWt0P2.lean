/- The texts of a claim, put together: the engine, the contracts, the law. Own work. -/
import Derived.Test.YtdlaobdadlmcdabDoorWt0P1
import Derived.Lib.EndianBits
import Derived.Scope
import Derived.Lib.AppendZeros
import Derived.Deep.LoopGhost
namespace Go.Proofs.YtdlaobdadlmcdabDoor.ME
open Go
open Go.RowKit
set_option linter.unusedVariables false
set_option linter.unusedSimpArgs false
set_option maxRecDepth 20000
theorem qkY (W:Fld → Tree → Bs) (A:Option Addr) (c:Nat) (l:List Fld) (v:Int) (flex:Bool) (ct:List Value) (t:Tree) (w:World) (F:Nat → Nat → Prop) (hW_:∀ cf f ct t w F,f ∈ l → FldR w F cf f → TreeR w F ct t → (W f t).length ≤ 1099511627776 → Calls Tryd.prog 35 #[.agg cf.toArray,.int .i64 v,.bool flex,.agg ct.toArray] w (qdy w 5 (W f t))) (hl:FldsR w F A c l) (ht:TreeR w F ct t) (hroom:(qes W l v flex t).length ≤ 1099511627776) :
  Calls Tryd.prog 19 #[.slice A l.length c,.int .i64 v,.bool flex,.agg ct.toArray] w (qdy w 5 (qes W l v flex t)):=by
 obtain ⟨xfs,h1,h2⟩:=hl.ex
 have hsm:=h1.small
 obtain ⟨n1,s2,b3,l4,u5,A6,c7,A8,c9,aU,aV,lX,rfl,rfl,lY,lZ,oW,l0⟩:=ht.open_
 have k9:=lY.small
 have la:=lZ.small
 have hkr:=qdI l
 refine enter (n:=132) Tryd.func19 rfl Tryd.ntmps19 kz fun a hE=>?_
 have hW:=WOk.start w Nil
 refine qag [0,1] kz ?_
 refine qam (qa7 hW hE (d:=7) (cs:=[.int .i64 n1,.slice A6 s2.length c7,.bool b3,.slice A8 l4.length c9,.slice aU u5.length aV]) kz fun cD oX oY l3 l5 l6 cr jX=>?_)
 refine qaj [1] [] [(0,.v (.slice A l.length c)),(1,.v (.int .i64 v)),(2,.v (.bool flex)),(7,.p 0 0)] cr jX fun oZ jY=>?_
 refine qaf (qab ?_)
 refine qar [(0,.v (.slice A l.length c)),(1,.v (.int .i64 v)),(2,.v (.bool flex)),(7,.p 0 0),(9,.v (.slice none 0 0)),(10,.v (.slice none 0 0))] cr jY fun o5 jZ=>?_
 refine qar [(0,.v (.slice A l.length c)),(1,.v (.int .i64 v)),(2,.v (.bool flex)),(7,.p 0 0),(9,.v (.slice none 0 0)),(10,.v (.slice none 0 0)),(11,.v (.int .i64 0))] cr jZ fun o6 j0=>?_
 refine wp_seq ?_
 refine qar [(0,.v (.slice A l.length c)),(1,.v (.int .i64 v)),(2,.v (.bool flex)),(7,.p 0 0),(9,.v (.slice none 0 0)),(10,.v (.slice none 0 0)),(11,.v (.int .i64 0)),(21,.v (.slice A l.length c)),(22,.v (.int .i64 ((l.length:Nat):Int))),(23,.v (.int .i64 0))] cr j0 fun o7 j1=>?_
 refine wp_block ?_
 have eG:=cr.addNil 5 1
 have l7:=cr.frNil 5 1
 have htot:(qaP W l v (Tree.mk n1 s2 b3 l4 u5) 0).length ≤ 1099511627776:=by have h_:=hroom; rw [qes,List.length_append] at h_; omega
 refine wp_loop_ghost (fun n_ a_ w_=>∃ (k:Nat) (A_:Option Addr) (c_:Nat) (dn:Bs),n_ = l.length - k ∧ k ≤ l.length ∧ (dn ++ qaP W (l.drop k) v (Tree.mk n1 s2 b3 l4 u5) k = qaP W l v (Tree.mk n1 s2 b3 l4 u5) 0) ∧ LInv eG 132 [⟨cD,0,[.int .i64 n1,.slice A6 s2.length c7,.bool b3,.slice A8 l4.length c9,.slice aU u5.length aV],true⟩] [brow A_ c_ 5 dn] [(0,.v (.slice A l.length c)),(1,.v (.int .i64 v)),(2,.v (.bool flex)),(7,.p 0 0),(9,.v (.slice A_ dn.length c_)),(10,.v (.slice none 0 0)),(11,.v (.int .i64 0)),(21,.v (.slice A l.length c)),(22,.v (.int .i64 ((l.length:Nat):Int))),(23,.v (.int .i64 ((k:Nat):Int)))] a_ w_) (l.length) ⟨0,none,0,[],by omega,by omega,rfl,j1.pk,eG,Fr.refl _ _ _⟩ ?_
 rintro o9 pa pb ⟨k,A_,c_,dn,l9,ma,hB,j2,az,eg⟩
 refine qar [(0,.v (.slice A l.length c)),(1,.v (.int .i64 v)),(2,.v (.bool flex)),(7,.p 0 0),(9,.v (.slice A_ dn.length c_)),(10,.v (.slice none 0 0)),(11,.v (.int .i64 0)),(21,.v (.slice A l.length c)),(22,.v (.int .i64 ((l.length:Nat):Int))),(23,.v (.int .i64 ((k:Nat):Int))),(24,.v (.bool (decide (((k:Nat):Int) < ((l.length:Nat):Int)))))] az j2 fun pc eh=>?_
 refine wp_seq ?_
 refine qay eh (b:=decide (((k:Nat):Int) < ((l.length:Nat):Int))) kz (fun ei=>?_) (fun ei=>?_)
 ·
  have mc:=of_decide_eq_true ei
  refine wp_skip ?_
  refine qab ?_
  refine wp_seq ?_
  refine wp_block ?_
  refine qag [0,1,2,3,4,5] kz ?_
  refine qaj [0] [1,2,3,4,5] [(0,.v (.slice A l.length c)),(1,.v (.int .i64 v)),(2,.v (.bool flex)),(7,.p 0 0),(9,.v (.slice A_ dn.length c_)),(10,.v (.slice none 0 0)),(11,.v (.int .i64 0)),(21,.v (.slice A l.length c)),(22,.v (.int .i64 ((l.length:Nat):Int))),(23,.v (.int .i64 ((k:Nat):Int))),(25,.v (.int .i64 ((k:Nat):Int)))] az eh fun pd j3=>?_
  obtain ⟨md,me,j4,mf,dx⟩:=Slots.get h1 (i:=k) (by omega)
  obtain ⟨mg,bj⟩:∃ x,l[k]? = some x:=⟨_,List.getElem?_eq_getElem (by omega)⟩
  have ej:=h2 k mg bj
  obtain ⟨aA,aB,aC,aD,ax,aE,aF,aG,dv,dw,mh,rfl,dy,mj,pe⟩:=ej.open_
  rw [dy] at ej
  have lb:=mj.small
  rw [dy] at dx
  refine qam (qaC j3 (t:=29) (A:=A) (m:=l.length) (q:=((k:Nat):Int)) (d:=26) kz (e:=51) (size:=8) (bytes:=80) kz j4 rfl (by omega) fun pf j5=>?_)
  refine qam (qaM j5 (t:=51) (b:=md) (o:=me + k * 8) (d:=27) kz (cs:=[.int .i64 aA,.int .i64 aB,.int .i64 aC,.int .i64 aD,.int .i64 ax,.int .i64 aE,.int .i64 aF,.slice dv aG.length dw]) (v:=.agg #[.int .i64 aA,.int .i64 aB,.int .i64 aC,.int .i64 aD,.int .i64 ax,.int .i64 aE,.int .i64 aF,.slice dv aG.length dw]) kz (AtF.move dx az.step nilM qaX).at_ fun pg j6=>?_)
  refine qam (qaR az j6 (d:=13) (cs:=[.int .i64 0,.int .i64 0,.int .i64 0,.int .i64 0,.int .i64 0,.int .i64 0,.int .i64 0,.slice none 0 0]) kz fun ph pi pj ml mn ek eH j7=>?_)
  refine qaj [4] [5] [(0,.v (.slice A l.length c)),(1,.v (.int .i64 v)),(2,.v (.bool flex)),(7,.p 0 0),(9,.v (.slice A_ dn.length c_)),(10,.v (.slice none 0 0)),(11,.v (.int .i64 0)),(12,.v (.int .i64 ((k:Nat):Int))),(13,.p 1 0),(21,.v (.slice A l.length c)),(22,.v (.int .i64 ((l.length:Nat):Int))),(23,.v (.int .i64 ((k:Nat):Int))),(27,.v (.agg #[.int .i64 aA,.int .i64 aB,.int .i64 aC,.int .i64 aD,.int .i64 ax,.int .i64 aE,.int .i64 aF,.slice dv aG.length dw]))] eH j7 fun pl j8=>?_
  refine qam (qav eH j8 (oi:=1) (cs:=[.int .i64 aA,.int .i64 aB,.int .i64 aC,.int .i64 aD,.int .i64 ax,.int .i64 aE,.int .i64 aF,.slice dv aG.length dw]) kz fun pm em bH j9=>?_)
  refine qaf (qab ?_)
  refine qag [0,1,2,3,4,5,6,7] kz ?_
  refine qaj [0,1,2,3] [4,5,6,7] [(0,.v (.slice A l.length c)),(1,.v (.int .i64 v)),(2,.v (.bool flex)),(7,.p 0 0),(9,.v (.slice A_ dn.length c_)),(10,.v (.slice none 0 0)),(11,.v (.int .i64 0)),(12,.v (.int .i64 ((k:Nat):Int))),(13,.p 1 0),(21,.v (.slice A l.length c)),(22,.v (.int .i64 ((l.length:Nat):Int))),(23,.v (.int .i64 ((k:Nat):Int))),(31,.v (.bool (decide (ax < 0))))] bH j9 fun pn eI=>?_
  refine (Bool.eq_false_or_eq_true (decide (ax < 0))).elim (fun cE=>?_) (fun cE=>?_)
  ·
   have mo:=of_decide_eq_true cE
   have ka:=eI.cast (env':=[(0,.v (.slice A l.length c)),(1,.v (.int .i64 v)),(2,.v (.bool flex)),(7,.p 0 0),(9,.v (.slice A_ dn.length c_)),(10,.v (.slice none 0 0)),(11,.v (.int .i64 0)),(12,.v (.int .i64 ((k:Nat):Int))),(13,.p 1 0),(21,.v (.slice A l.length c)),(22,.v (.int .i64 ((l.length:Nat):Int))),(23,.v (.int .i64 ((k:Nat):Int))),(31,.v (.bool true))]) (by rw [cE])
   refine qaj [4,5] [6,7] [(0,.v (.slice A l.length c)),(1,.v (.int .i64 v)),(2,.v (.bool flex)),(7,.p 0 0),(9,.v (.slice A_ dn.length c_)),(10,.v (.slice none 0 0)),(11,.v (.int .i64 0)),(12,.v (.int .i64 ((k:Nat):Int))),(13,.p 1 0),(21,.v (.slice A l.length c)),(22,.v (.int .i64 ((l.length:Nat):Int))),(23,.v (.int .i64 ((k:Nat):Int))),(31,.v (.bool true)),(32,.v (.agg #[.int .i64 aA,.int .i64 aB,.int .i64 aC,.int .i64 aD,.int .i64 ax,.int .i64 aE,.int .i64 aF,.slice dv aG.length dw])),(33,.v (.int .i64 v))] bH ka fun po eJ=>?_
   refine qam (qal eJ (f:=21) (vs:=[.agg #[.int .i64 aA,.int .i64 aB,.int .i64 aC,.int .i64 aD,.int .i64 ax,.int .i64 aE,.int .i64 aF,.slice dv aG.length dw],.int .i64 v]) (d:=34) kz Tryd.call21 (sHas aA aB aC aD ax aE aF aG _ _ v _) ?_)
   rintro e_ mp ⟨rfl,dA⟩
   refine ⟨_,rfl,fun mq eK=>?_⟩
   have bO:=bH.next_nil dA
   have dB:=bH.frN dA
   refine qaj [7] [] [(0,.v (.slice A l.length c)),(1,.v (.int .i64 v)),(2,.v (.bool flex)),(7,.p 0 0),(9,.v (.slice A_ dn.length c_)),(10,.v (.slice none 0 0)),(11,.v (.int .i64 0)),(12,.v (.int .i64 ((k:Nat):Int))),(13,.p 1 0),(21,.v (.slice A l.length c)),(22,.v (.int .i64 ((l.length:Nat):Int))),(23,.v (.int .i64 ((k:Nat):Int))),(35,.v (.bool (Fld.has (Fld.mk aA aB aC aD ax aE aF aG) v)))] bO eK fun mr cG=>?_
   refine qaf (qab ?_)
   refine qay cG (b:=Fld.has (Fld.mk aA aB aC aD ax aE aF aG) v) kz (fun eL=>?_) (fun eL=>?_)
   ·
    refine qdd 9 kz bO fun mt eM bk eN=>?_
    refine qaD [0,1,2,3,4,5] [(0,.v (.slice A l.length c)),(1,.v (.int .i64 v)),(2,.v (.bool flex)),(7,.p 0 0),(9,.v (.slice A_ dn.length c_)),(10,.v (.slice none 0 0)),(11,.v (.int .i64 0)),(21,.v (.slice A l.length c)),(22,.v (.int .i64 ((l.length:Nat):Int))),(23,.v (.int .i64 ((k:Nat):Int))),(36,.v (.slice A_ dn.length c_)),(37,.v (.agg #[.int .i64 aA,.int .i64 aB,.int .i64 aC,.int .i64 aD,.int .i64 ax,.int .i64 aE,.int .i64 aF,.slice dv aG.length dw])),(38,.v (.int .i64 v)),(39,.v (.bool flex)),(40,.v (.agg #[.int .i64 n1,.slice A6 s2.length c7,.bool b3,.slice A8 l4.length c9,.slice aU u5.length aV])),(41,.v (.int .i64 ((k:Nat):Int)))] 4 (qac (qaa (qaa (qac (qaa qad))))) (fun _ h=>h.cells) eN cG fun mu eO=>?_
    refine qaw (i:=6) kz (qal eO (f:=20) (vs:=[.agg #[.int .i64 n1,.slice A6 s2.length c7,.bool b3,.slice A8 l4.length c9,.slice aU u5.length aV],.int .i64 ((k:Nat):Int)]) (d:=42) kz Tryd.call20 (sAt _ _ k _ _ (ht.move bk.step nilM bk.imm)) ?_)
    rintro e_ mw ⟨lc,rfl,eP,bn⟩
    have cH:=eP.move bn nilM (fun b o h_ hb_=>bk.laid (G:=F) bn b o (.inl h_) (Nat.lt_of_lt_of_le hb_ bn.size))
    obtain ⟨eo,ep,eu,ev,ew,ey,ez,eB,eC,eD,eE,ld,lf,cI,kd,ke,mx,my⟩:=cH.open_
    rw [cI] at cH
    have kf:=kd.small
    have kg:=ke.small
    rw [cI]
    refine ⟨_,rfl,fun mz eQ=>?_⟩
    have bP:=bk.next_nil bn
    have bQ:=bk.frN bn
    have eR:=TT.ofW bQ bP
    refine ⟨fun _=>eR,?_⟩
    refine qaw (i:=7) kz (qal eQ (f:=35) (vs:=[.agg #[.int .i64 aA,.int .i64 aB,.int .i64 aC,.int .i64 aD,.int .i64 ax,.int .i64 aE,.int .i64 aF,.slice dv aG.length dw],.int .i64 v,.bool flex,.agg #[.int .i64 eo,.slice ey ep.length ez,.bool eu,.slice eB ev.length eC,.slice eD ew.length eE]]) (d:=43) kz Tryd.call35 ( hW_ _ _ _ _ _ _ (List.mem_of_getElem? bj) (ej.move bP.step nilM bP.imm) cH (by have h_:=congrArg List.length hB; rw [qd1 bj ‹_› ‹_›] at h_; simp only [List.length_append] at h_; omega)) ?_)
    rintro e_ mA ⟨cJ,cK,rfl,eS,eU⟩
    refine ⟨_,rfl,fun mB eV=>?_⟩
    obtain ⟨bR,cL⟩:=bP.frFresh eU (brow cJ cK 5 (W (Fld.mk aA aB aC aD ax aE aF aG) (Tree.at_ (Tree.mk n1 s2 b3 l4 u5) k))) (Nat.le_refl _) eS
    have kh:(W (Fld.mk aA aB aC aD ax aE aF aG) (Tree.at_ (Tree.mk n1 s2 b3 l4 u5) k)).length ≤ 1099511627776:=by have h_:=congrArg List.length hB; rw [qd1 bj ‹_› ‹_›] at h_; simp only [List.length_append] at h_; omega
    have eW:=TT.ofW (bQ.trans cL) bR
    refine ⟨fun _=>eW,?_⟩
    refine qaw (i:=8) kz (qaO bR eV (k:=0) (d:=44) (t:=22) (e:=5) (size:=1) (bytes:=1) (A:=A_) (As:=cJ) (m0:=dn.length) (c:=c_) (m:=((W (Fld.mk aA aB aC aD ax aE aF aG) (Tree.at_ (Tree.mk n1 s2 b3 l4 u5) k)).length)) (cs:=cK) (xs:=(bc dn)) (news:=bc (W (Fld.mk aA aB aC aD ax aE aF aG) (Tree.at_ (Tree.mk n1 s2 b3 l4 u5) k))) kz kz rfl (qbo (bR.own 1 _ rfl) (qcH _)) (qbA (bR.own 1 _ rfl)) (by have h_:=congrArg List.length hB; rw [qd1 bj ‹_› ‹_›] at h_; simp only [List.length_append] at h_ ⊢; omega) fun aW aX mC mD dC eX eY=>?_)
    have eZ:(⟨aW,aX,5,1,dn.length + (W (Fld.mk aA aB aC aD ax aE aF aG) (Tree.at_ (Tree.mk n1 s2 b3 l4 u5) k)).length,bc dn ++ bc (W (Fld.mk aA aB aC aD ax aE aF aG) (Tree.at_ (Tree.mk n1 s2 b3 l4 u5) k))⟩:Rw) = brow aW aX 5 (dn ++ (W (Fld.mk aA aB aC aD ax aE aF aG) (Tree.at_ (Tree.mk n1 s2 b3 l4 u5) k))):=qbz (rfl) rfl
    obtain ⟨bS,dD⟩:=eX.rowEq 0 [brow aW aX 5 (dn ++ (W (Fld.mk aA aB aC aD ax aE aF aG) (Tree.at_ (Tree.mk n1 s2 b3 l4 u5) k))),brow cJ cK 5 (W (Fld.mk aA aB aC aD ax aE aF aG) (Tree.at_ (Tree.mk n1 s2 b3 l4 u5) k))] eZ
    have e9:=EnvOk.pick eY (ks:=[0,1,2,7,9,10,11,21,22,23,36,37,38,39,40,41,42,43,44]) (env':=[(0,.v (.slice A l.length c)),(1,.v (.int .i64 v)),(2,.v (.bool flex)),(7,.p 0 0),(9,.v (.slice A_ dn.length c_)),(10,.v (.slice none 0 0)),(11,.v (.int .i64 0)),(21,.v (.slice A l.length c)),(22,.v (.int .i64 ((l.length:Nat):Int))),(23,.v (.int .i64 ((k:Nat):Int))),(36,.v (.slice A_ dn.length c_)),(37,.v (.agg #[.int .i64 aA,.int .i64 aB,.int .i64 aC,.int .i64 aD,.int .i64 ax,.int .i64 aE,.int .i64 aF,.slice dv aG.length dw])),(38,.v (.int .i64 v)),(39,.v (.bool flex)),(40,.v (.agg #[.int .i64 n1,.slice A6 s2.length c7,.bool b3,.slice A8 l4.length c9,.slice aU u5.length aV])),(41,.v (.int .i64 ((k:Nat):Int))),(42,.v (.agg #[.int .i64 eo,.slice ey ep.length ez,.bool eu,.slice eB ev.length eC,.slice eD ew.length eE])),(43,.v (.slice cJ ((W (Fld.mk aA aB aC aD ax aE aF aG) (Tree.at_ (Tree.mk n1 s2 b3 l4 u5) k)).length) cK)),(44,.v (.slice aW (dn.length + (W (Fld.mk aA aB aC aD ax aE aF aG) (Tree.at_ (Tree.mk n1 s2 b3 l4 u5) k)).length) aX))]) kz
    have fa:=e9.cast (env':=[(0,.v (.slice A l.length c)),(1,.v (.int .i64 v)),(2,.v (.bool flex)),(7,.p 0 0),(9,.v (.slice A_ dn.length c_)),(10,.v (.slice none 0 0)),(11,.v (.int .i64 0)),(21,.v (.slice A l.length c)),(22,.v (.int .i64 ((l.length:Nat):Int))),(23,.v (.int .i64 ((k:Nat):Int))),(36,.v (.slice A_ dn.length c_)),(37,.v (.agg #[.int .i64 aA,.int .i64 aB,.int .i64 aC,.int .i64 aD,.int .i64 ax,.int .i64 aE,.int .i64 aF,.slice dv aG.length dw])),(38,.v (.int .i64 v)),(39,.v (.bool flex)),(40,.v (.agg #[.int .i64 n1,.slice A6 s2.length c7,.bool b3,.slice A8 l4.length c9,.slice aU u5.length aV])),(41,.v (.int .i64 ((k:Nat):Int))),(42,.v (.agg #[.int .i64 eo,.slice ey ep.length ez,.bool eu,.slice eB ev.length eC,.slice eD ew.length eE])),(43,.v (.slice cJ ((W (Fld.mk aA aB aC aD ax aE aF aG) (Tree.at_ (Tree.mk n1 s2 b3 l4 u5) k)).length) cK)),(44,.v (.slice aW ((dn ++ (W (Fld.mk aA aB aC aD ax aE aF aG) (Tree.at_ (Tree.mk n1 s2 b3 l4 u5) k))).length) aX))]) (by simp only [List.length_append,List.length_cons,List.length_nil,Nat.zero_add])
    have fb:=TT.ofW (((bQ.trans cL).trans dC).trans dD) bS
    refine ⟨fun _=>fb,?_⟩
    refine qaw (i:=9) kz (qa9 [0,1,2,7,9,10,11,21,22,23] bS.cells fa (env':=[(0,.v (.slice A l.length c)),(1,.v (.int .i64 v)),(2,.v (.bool flex)),(7,.p 0 0),(9,.v (.slice aW ((dn ++ (W (Fld.mk aA aB aC aD ax aE aF aG) (Tree.at_ (Tree.mk n1 s2 b3 l4 u5) k))).length) aX)),(10,.v (.slice none 0 0)),(11,.v (.int .i64 0)),(21,.v (.slice A l.length c)),(22,.v (.int .i64 ((l.length:Nat):Int))),(23,.v (.int .i64 ((k:Nat):Int)))]) kz fun mF fe=>?_)
    refine ⟨fun h=>absurd rfl h,?_⟩
    refine qaF kz ?_ _
    refine qaq ?_
    refine qab ?_
    refine qat [0,1] kz ?_
    refine qaj [0,1] [] [(0,.v (.slice A l.length c)),(1,.v (.int .i64 v)),(2,.v (.bool flex)),(7,.p 0 0),(9,.v (.slice aW ((dn ++ (W (Fld.mk aA aB aC aD ax aE aF aG) (Tree.at_ (Tree.mk n1 s2 b3 l4 u5) k))).length) aX)),(10,.v (.slice none 0 0)),(11,.v (.int .i64 0)),(21,.v (.slice A l.length c)),(22,.v (.int .i64 ((l.length:Nat):Int))),(23,.v (.int .i64 (IntKind.i64.wrap (((k:Nat):Int) + 1))))] bS fe fun mG ff=>?_
    refine qaf (qab ?_)
    obtain ⟨dE,fg,fh⟩:=bS.cutB ff 1 [⟨cD,0,[.int .i64 n1,.slice A6 s2.length c7,.bool b3,.slice A8 l4.length c9,.slice aU u5.length aV],true⟩] [(0,.v (.slice A l.length c)),(1,.v (.int .i64 v)),(2,.v (.bool flex)),(7,.p 0 0),(9,.v (.slice aW ((dn ++ (W (Fld.mk aA aB aC aD ax aE aF aG) (Tree.at_ (Tree.mk n1 s2 b3 l4 u5) k))).length) aX)),(10,.v (.slice none 0 0)),(11,.v (.int .i64 0)),(21,.v (.slice A l.length c)),(22,.v (.int .i64 ((l.length:Nat):Int))),(23,.v (.int .i64 (IntKind.i64.wrap (((k:Nat):Int) + 1))))]
    obtain ⟨fi,fj⟩:=fg.cutR 1 [brow aW aX 5 (dn ++ (W (Fld.mk aA aB aC aD ax aE aF aG) (Tree.at_ (Tree.mk n1 s2 b3 l4 u5) k)))]
    have fk:IntKind.i64.wrap (((k:Nat):Int) + 1) = ((k + 1:Nat):Int):=qaN (by omega)
    rw [fk] at dE
    exact ⟨l.length - (k + 1),by omega,k + 1,aW,aX,dn ++ (W (Fld.mk aA aB aC aD ax aE aF aG) (Tree.at_ (Tree.mk n1 s2 b3 l4 u5) k)),rfl,by omega,by rw [List.append_assoc,← qd1 bj ‹_› ‹_›]; exact hB,dE.pk,fi,((((((((((eg.trans ek).trans em).trans dB).trans eM).trans bQ).trans cL).trans dC).trans dD).trans fh).trans fj)⟩
   refine wp_skip ?_
   refine qaq ?_
   refine qab ?_
   refine qat [0,1] kz ?_
   refine qaj [0,1] [] [(0,.v (.slice A l.length c)),(1,.v (.int .i64 v)),(2,.v (.bool flex)),(7,.p 0 0),(9,.v (.slice A_ dn.length c_)),(10,.v (.slice none 0 0)),(11,.v (.int .i64 0)),(21,.v (.slice A l.length c)),(22,.v (.int .i64 ((l.length:Nat):Int))),(23,.v (.int .i64 (IntKind.i64.wrap (((k:Nat):Int) + 1))))] bO cG fun mH fm=>?_
   refine qaf (qab ?_)
   obtain ⟨dF,fo,fq⟩:=bO.cutB fm 1 [⟨cD,0,[.int .i64 n1,.slice A6 s2.length c7,.bool b3,.slice A8 l4.length c9,.slice aU u5.length aV],true⟩] [(0,.v (.slice A l.length c)),(1,.v (.int .i64 v)),(2,.v (.bool flex)),(7,.p 0 0),(9,.v (.slice A_ dn.length c_)),(10,.v (.slice none 0 0)),(11,.v (.int .i64 0)),(21,.v (.slice A l.length c)),(22,.v (.int .i64 ((l.length:Nat):Int))),(23,.v (.int .i64 (IntKind.i64.wrap (((k:Nat):Int) + 1))))]
   have fr:IntKind.i64.wrap (((k:Nat):Int) + 1) = ((k + 1:Nat):Int):=qaN (by omega)
   rw [fr] at dF
   exact ⟨l.length - (k + 1),by omega,k + 1,A_,c_,dn,rfl,by omega,by rw [← qhC bj ‹_›]; exact hB,dF.pk,fo,((((eg.trans ek).trans em).trans dB).trans fq)⟩
  have lg:=of_decide_eq_false cE
  have ft:=eI.cast (env':=[(0,.v (.slice A l.length c)),(1,.v (.int .i64 v)),(2,.v (.bool flex)),(7,.p 0 0),(9,.v (.slice A_ dn.length c_)),(10,.v (.slice none 0 0)),(11,.v (.int .i64 0)),(12,.v (.int .i64 ((k:Nat):Int))),(13,.p 1 0),(21,.v (.slice A l.length c)),(22,.v (.int .i64 ((l.length:Nat):Int))),(23,.v (.int .i64 ((k:Nat):Int))),(31,.v (.bool false))]) (by rw [cE])
  refine qaj [4,5,6,7] [] [(0,.v (.slice A l.length c)),(1,.v (.int .i64 v)),(2,.v (.bool flex)),(7,.p 0 0),(9,.v (.slice A_ dn.length c_)),(10,.v (.slice none 0 0)),(11,.v (.int .i64 0)),(12,.v (.int .i64 ((k:Nat):Int))),(13,.p 1 0),(21,.v (.slice A l.length c)),(22,.v (.int .i64 ((l.length:Nat):Int))),(23,.v (.int .i64 ((k:Nat):Int))),(35,.v (.bool false))] bH ft fun mI dG=>?_
  refine qaf (qab ?_)
  refine qap dG (b:=false) kz rfl ?_
  refine wp_skip ?_
  refine qaq ?_
  refine qab ?_
  refine qat [0,1] kz ?_
  refine qaj [0,1] [] [(0,.v (.slice A l.length c)),(1,.v (.int .i64 v)),(2,.v (.bool flex)),(7,.p 0 0),(9,.v (.slice A_ dn.length c_)),(10,.v (.slice none 0 0)),(11,.v (.int .i64 0)),(21,.v (.slice A l.length c)),(22,.v (.int .i64 ((l.length:Nat):Int))),(23,.v (.int .i64 (IntKind.i64.wrap (((k:Nat):Int) + 1))))] bH dG fun mJ fu=>?_
  refine qaf (qab ?_)
  obtain ⟨dH,fv,fw⟩:=bH.cutB fu 1 [⟨cD,0,[.int .i64 n1,.slice A6 s2.length c7,.bool b3,.slice A8 l4.length c9,.slice aU u5.length aV],true⟩] [(0,.v (.slice A l.length c)),(1,.v (.int .i64 v)),(2,.v (.bool flex)),(7,.p 0 0),(9,.v (.slice A_ dn.length c_)),(10,.v (.slice none 0 0)),(11,.v (.int .i64 0)),(21,.v (.slice A l.length c)),(22,.v (.int .i64 ((l.length:Nat):Int))),(23,.v (.int .i64 (IntKind.i64.wrap (((k:Nat):Int) + 1))))]
  have fx:IntKind.i64.wrap (((k:Nat):Int) + 1) = ((k + 1:Nat):Int):=qaN (by omega)
  rw [fx] at dH
  exact ⟨l.length - (k + 1),by omega,k + 1,A_,c_,dn,rfl,by omega,by rw [← qhB bj ‹_›]; exact hB,dH.pk,fv,(((eg.trans ek).trans em).trans fw)⟩
 have lh:=of_decide_eq_false ei
 refine wp_exit ?_
 refine qaB ?_
 refine qaB ?_
 refine qaL ?_
 refine qab ?_
 refine wp_seq ?_
 refine qar [(0,.v (.slice A l.length c)),(1,.v (.int .i64 v)),(2,.v (.bool flex)),(7,.p 0 0),(9,.v (.slice A_ dn.length c_)),(10,.v (.slice none 0 0)),(11,.v (.int .i64 0)),(47,.v (.bool (!flex)))] az eh fun mK cM=>?_
 refine qay cM (b:=!flex) kz (fun bT=>?_) (fun bT=>?_)
 ·
  refine qar [(8,.v (.slice A_ dn.length c_))] az cM fun mL fy=>?_
  refine wp_ret ?_
  refine qao ?_
  refine qaJ fy az.cells (v:=.slice A_ dn.length c_) kz ?_
  exact qa5 az (k:=0) rfl (by rw [show flex = false by simpa using bT,qis,← hB,qfY (by omega),List.append_nil])
 refine wp_skip ?_
 refine qab ?_
 refine wp_seq ?_
 refine qag [0,1,2,3] kz ?_
 refine qaj [0] [1,2,3] [(0,.v (.slice A l.length c)),(1,.v (.int .i64 v)),(2,.v (.bool flex)),(7,.p 0 0),(9,.v (.slice A_ dn.length c_)),(10,.v (.slice none 0 0)),(11,.v (.int .i64 0)),(49,.v (.slice A l.length c))] az cM fun mM fz=>?_
 refine qam (qal fz (f:=36) (vs:=[.slice A l.length c]) (d:=50) kz Tryd.call36 (qjZ _ _ l _ _ ⟨xfs,(h1.move az.step nilM az.imm),(fun i_ x_ h_=>((h2 i_ x_ h_).move az.step nilM az.imm))⟩) ?_)
 rintro e_ mN ⟨rfl,dI⟩
 refine ⟨_,rfl,fun mO fA=>?_⟩
 have dJ:=az.next_nil dI
 have li:=az.frN dI
 refine qaj [2,3] [] [(0,.v (.slice A l.length c)),(1,.v (.int .i64 v)),(2,.v (.bool flex)),(7,.p 0 0),(9,.v (.slice A_ dn.length c_)),(10,.v (.slice none 0 0)),(11,.v (.int .i64 0)),(51,.v (.int .i64 (IntKind.i64.wrap (qaz l)))),(52,.v (.int .i64 0))] dJ fA fun mQ dK=>?_
 refine qaf (qab ?_)
 refine wp_block ?_
 have hdn:dn = qaP W l v (Tree.mk n1 s2 b3 l4 u5) 0:=by rw [← hB,qfY (by omega),List.append_nil]
 have dL:dn = (qaP W l v (Tree.mk n1 s2 b3 l4 u5) 0):=hdn
 have fB:=congrArg (brow A_ c_ 5) dL
 obtain ⟨dM,lj⟩:=dJ.rowEq 0 [brow A_ c_ 5 (qaP W l v (Tree.mk n1 s2 b3 l4 u5) 0)] fB
 rw [dL] at dK
 have hfx:flex = true:=by simpa using bT
 have htot2:(qaP W l v (Tree.mk n1 s2 b3 l4 u5) 0).length + (uv (qaS W l (Tree.mk n1 s2 b3 l4 u5) (qaz l).toNat + (qai l u5).length)).length + ((qaI W l (Tree.mk n1 s2 b3 l4 u5) (qaz l).toNat).length + (qa0 (qai l u5)).length) ≤ 1099511627776:=by have h_:=hroom; rw [hfx,qe8] at h_; simpa only [List.length_append] using h_
 have hmono:=fun i (h_:i ≤ (qaz l).toNat)=>qhD W l (Tree.mk n1 s2 b3 l4 u5) h_
 have hcnt:=qgO W l (Tree.mk n1 s2 b3 l4 u5)
 have hknn:=qit l
 have fC:=EnvOk.pick dK (ks:=[0,1,2,7,9,10,11,51,52]) (env':=[(0,.v (.slice A l.length c)),(1,.v (.int .i64 v)),(2,.v (.bool flex)),(7,.p 0 0),(9,.v (.slice A_ ((qaP W l v (Tree.mk n1 s2 b3 l4 u5) 0).length) c_)),(10,.v (.slice none 0 0)),(11,.v (.int .i64 0)),(51,.v (.int .i64 (IntKind.i64.wrap (qaz l)))),(52,.v (.int .i64 0))]) kz
 have fD:=fC.cast (env':=[(0,.v (.slice A l.length c)),(1,.v (.int .i64 v)),(2,.v (.bool flex)),(7,.p 0 0),(9,.v (.slice A_ ((qaP W l v (Tree.mk n1 s2 b3 l4 u5) 0).length) c_)),(10,.v (.slice none 0 0)),(11,.v (.int .i64 0)),(51,.v (.int .i64 (((qaz l).toNat:Nat):Int))),(52,.v (.int .i64 0))]) (by rw [hknn])
 have dN:=dM.addNil 5 1
 have lm:=dM.frNil 5 1
 refine wp_loop_ghost (fun n_ a_ w_=>∃ (k2:Nat) (A2_:Option Addr) (c2_:Nat),n_ = (qaz l).toNat - k2 ∧ k2 ≤ (qaz l).toNat ∧ LInv dN 132 [⟨cD,0,[.int .i64 n1,.slice A6 s2.length c7,.bool b3,.slice A8 l4.length c9,.slice aU u5.length aV],true⟩] [brow A_ c_ 5 (qaP W l v (Tree.mk n1 s2 b3 l4 u5) 0),brow A2_ c2_ 5 (qaI W l (Tree.mk n1 s2 b3 l4 u5) k2)] [(0,.v (.slice A l.length c)),(1,.v (.int .i64 v)),(2,.v (.bool flex)),(7,.p 0 0),(9,.v (.slice A_ ((qaP W l v (Tree.mk n1 s2 b3 l4 u5) 0).length) c_)),(10,.v (.slice A2_ ((qaI W l (Tree.mk n1 s2 b3 l4 u5) k2).length) c2_)),(11,.v (.int .i64 ((qaS W l (Tree.mk n1 s2 b3 l4 u5) k2:Nat):Int))),(51,.v (.int .i64 (((qaz l).toNat:Nat):Int))),(52,.v (.int .i64 ((k2:Nat):Int)))] a_ w_) ((qaz l).toNat) ⟨0,none,0,by omega,by omega,fD.pk,dN,Fr.refl _ _ _⟩ ?_
 rintro mR mS mT ⟨k2,A2_,c2_,ln,lp,fE,ao,fF⟩
 refine qar [(0,.v (.slice A l.length c)),(1,.v (.int .i64 v)),(2,.v (.bool flex)),(7,.p 0 0),(9,.v (.slice A_ ((qaP W l v (Tree.mk n1 s2 b3 l4 u5) 0).length) c_)),(10,.v (.slice A2_ ((qaI W l (Tree.mk n1 s2 b3 l4 u5) k2).length) c2_)),(11,.v (.int .i64 ((qaS W l (Tree.mk n1 s2 b3 l4 u5) k2:Nat):Int))),(51,.v (.int .i64 (((qaz l).toNat:Nat):Int))),(52,.v (.int .i64 ((k2:Nat):Int))),(53,.v (.bool (decide (((k2:Nat):Int) < (((qaz l).toNat:Nat):Int)))))] ao fE fun mU cN=>?_
 refine wp_seq ?_
 refine qay cN (b:=decide (((k2:Nat):Int) < (((qaz l).toNat:Nat):Int))) kz (fun cO=>?_) (fun cO=>?_)
 ·
  have lq:=of_decide_eq_true cO
  refine wp_skip ?_
  refine qab ?_
  refine wp_seq ?_
  refine wp_block ?_
  refine qar [(0,.v (.slice A l.length c)),(1,.v (.int .i64 v)),(2,.v (.bool flex)),(7,.p 0 0),(9,.v (.slice A_ ((qaP W l v (Tree.mk n1 s2 b3 l4 u5) 0).length) c_)),(10,.v (.slice A2_ ((qaI W l (Tree.mk n1 s2 b3 l4 u5) k2).length) c2_)),(11,.v (.int .i64 ((qaS W l (Tree.mk n1 s2 b3 l4 u5) k2:Nat):Int))),(14,.v (.int .i64 ((k2:Nat):Int))),(51,.v (.int .i64 (((qaz l).toNat:Nat):Int))),(52,.v (.int .i64 ((k2:Nat):Int)))] ao cN fun mV fG=>?_
  refine qar [(0,.v (.slice A l.length c)),(1,.v (.int .i64 v)),(2,.v (.bool flex)),(7,.p 0 0),(9,.v (.slice A_ ((qaP W l v (Tree.mk n1 s2 b3 l4 u5) 0).length) c_)),(10,.v (.slice A2_ ((qaI W l (Tree.mk n1 s2 b3 l4 u5) k2).length) c2_)),(11,.v (.int .i64 ((qaS W l (Tree.mk n1 s2 b3 l4 u5) k2:Nat):Int))),(14,.v (.int .i64 ((k2:Nat):Int))),(51,.v (.int .i64 (((qaz l).toNat:Nat):Int))),(52,.v (.int .i64 ((k2:Nat):Int))),(55,.v (.slice A l.length c)),(56,.v (.int .i64 ((l.length:Nat):Int))),(57,.v (.int .i64 0))] ao fG fun mW dO=>?_
  refine wp_block ?_
  have dP:(qaI W l (Tree.mk n1 s2 b3 l4 u5) k2) = (qaI W l (Tree.mk n1 s2 b3 l4 u5) k2 ++ []):=(List.append_nil _).symm
  have fH:=congrArg (brow A2_ c2_ 5) dP
  obtain ⟨dQ,fI⟩:=ao.rowEq 1 [brow A_ c_ 5 (qaP W l v (Tree.mk n1 s2 b3 l4 u5) 0),brow A2_ c2_ 5 (qaI W l (Tree.mk n1 s2 b3 l4 u5) k2 ++ [])] fH
  rw [dP] at dO
  have hm2:=hmono (k2 + 1) (by omega)
  rw [qaI,List.length_append] at hm2
  have hc2:=hcnt (k2 + 1)
  rw [qaS,qaI,List.length_append] at hc2
  have hc3:=qgu W k2 (Tree.mk n1 s2 b3 l4 u5) l 0
  refine wp_loop_ghost (fun n_ a_ w_=>∃ (q:Nat) (A3_:Option Addr) (c3_:Nat) (dm:Bs) (cn:Nat),n_ = l.length - q ∧ q ≤ l.length ∧ (dm ++ tagB W (l.drop q) k2 (Tree.mk n1 s2 b3 l4 u5) q = tagB W l k2 (Tree.mk n1 s2 b3 l4 u5) 0) ∧ (cn + tagN W (l.drop q) k2 (Tree.mk n1 s2 b3 l4 u5) q = tagN W l k2 (Tree.mk n1 s2 b3 l4 u5) 0) ∧ LInv dQ 132 [⟨cD,0,[.int .i64 n1,.slice A6 s2.length c7,.bool b3,.slice A8 l4.length c9,.slice aU u5.length aV],true⟩] [brow A_ c_ 5 (qaP W l v (Tree.mk n1 s2 b3 l4 u5) 0),brow A3_ c3_ 5 (qaI W l (Tree.mk n1 s2 b3 l4 u5) k2 ++ dm)] [(0,.v (.slice A l.length c)),(1,.v (.int .i64 v)),(2,.v (.bool flex)),(7,.p 0 0),(9,.v (.slice A_ ((qaP W l v (Tree.mk n1 s2 b3 l4 u5) 0).length) c_)),(10,.v (.slice A3_ ((qaI W l (Tree.mk n1 s2 b3 l4 u5) k2 ++ dm).length) c3_)),(11,.v (.int .i64 ((qaS W l (Tree.mk n1 s2 b3 l4 u5) k2 + cn:Nat):Int))),(14,.v (.int .i64 ((k2:Nat):Int))),(51,.v (.int .i64 (((qaz l).toNat:Nat):Int))),(52,.v (.int .i64 ((k2:Nat):Int))),(55,.v (.slice A l.length c)),(56,.v (.int .i64 ((l.length:Nat):Int))),(57,.v (.int .i64 ((q:Nat):Int)))] a_ w_) (l.length) ⟨0,A2_,c2_,[],0,by omega,by omega,rfl,Nat.zero_add _,dO.pk,dQ,Fr.refl _ _ _⟩ ?_
  rintro mX mY mZ ⟨q,A3_,c3_,dm,cn,lr,ls,hB2,hN2,fJ,aY,bU⟩
  refine qar [(0,.v (.slice A l.length c)),(1,.v (.int .i64 v)),(2,.v (.bool flex)),(7,.p 0 0),(9,.v (.slice A_ ((qaP W l v (Tree.mk n1 s2 b3 l4 u5) 0).length) c_)),(10,.v (.slice A3_ ((qaI W l (Tree.mk n1 s2 b3 l4 u5) k2 ++ dm).length) c3_)),(11,.v (.int .i64 ((qaS W l (Tree.mk n1 s2 b3 l4 u5) k2 + cn:Nat):Int))),(14,.v (.int .i64 ((k2:Nat):Int))),(51,.v (.int .i64 (((qaz l).toNat:Nat):Int))),(52,.v (.int .i64 ((k2:Nat):Int))),(55,.v (.slice A l.length c)),(56,.v (.int .i64 ((l.length:Nat):Int))),(57,.v (.int .i64 ((q:Nat):Int))),(58,.v (.bool (decide (((q:Nat):Int) < ((l.length:Nat):Int)))))] aY fJ fun m4 cP=>?_
  refine wp_seq ?_
  refine qay cP (b:=decide (((q:Nat):Int) < ((l.length:Nat):Int))) kz (fun cQ=>?_) (fun cQ=>?_)
  ·
   have lu:=of_decide_eq_true cQ
   refine wp_skip ?_
   refine qab ?_
   refine wp_seq ?_
   refine wp_block ?_
   refine qag [0,1,2,3,4,5] kz ?_
   refine qaj [0] [1,2,3,4,5] [(0,.v (.slice A l.length c)),(1,.v (.int .i64 v)),(2,.v (.bool flex)),(7,.p 0 0),(9,.v (.slice A_ ((qaP W l v (Tree.mk n1 s2 b3 l4 u5) 0).length) c_)),(10,.v (.slice A3_ ((qaI W l (Tree.mk n1 s2 b3 l4 u5) k2 ++ dm).length) c3_)),(11,.v (.int .i64 ((qaS W l (Tree.mk n1 s2 b3 l4 u5) k2 + cn:Nat):Int))),(14,.v (.int .i64 ((k2:Nat):Int))),(51,.v (.int .i64 (((qaz l).toNat:Nat):Int))),(52,.v (.int .i64 ((k2:Nat):Int))),(55,.v (.slice A l.length c)),(56,.v (.int .i64 ((l.length:Nat):Int))),(57,.v (.int .i64 ((q:Nat):Int))),(59,.v (.int .i64 ((q:Nat):Int)))] aY cP fun m5 fK=>?_
   obtain ⟨ki,kj,fL,lv,cR⟩:=Slots.get h1 (i:=q) (by omega)
   obtain ⟨km,ap⟩:∃ x,l[q]? = some x:=⟨_,List.getElem?_eq_getElem (by omega)⟩
   have bV:=h2 q km ap
   obtain ⟨ab,ac,ae,af,aa,ag,ah,ai,bo,bp,lw,rfl,cS,ko,m6⟩:=bV.open_
   rw [cS] at bV
   have kp:=ko.small
   rw [cS] at cR
   refine qam (qaC fK (t:=29) (A:=A) (m:=l.length) (q:=((q:Nat):Int)) (d:=60) kz (e:=51) (size:=8) (bytes:=80) kz fL rfl (by omega) fun m7 fM=>?_)
   refine qam (qaM fM (t:=51) (b:=ki) (o:=kj + q * 8) (d:=61) kz (cs:=[.int .i64 ab,.int .i64 ac,.int .i64 ae,.int .i64 af,.int .i64 aa,.int .i64 ag,.int .i64 ah,.slice bo ai.length bp]) (v:=.agg #[.int .i64 ab,.int .i64 ac,.int .i64 ae,.int .i64 af,.int .i64 aa,.int .i64 ag,.int .i64 ah,.slice bo ai.length bp]) kz (AtF.move cR aY.step nilM qaX).at_ fun m8 fN=>?_)
   refine qam (qaR aY fN (d:=16) (cs:=[.int .i64 0,.int .i64 0,.int .i64 0,.int .i64 0,.int .i64 0,.int .i64 0,.int .i64 0,.slice none 0 0]) kz fun m9 na nb lx ly cT dR fO=>?_)
   refine qaj [4] [5] [(0,.v (.slice A l.length c)),(1,.v (.int .i64 v)),(2,.v (.bool flex)),(7,.p 0 0),(9,.v (.slice A_ ((qaP W l v (Tree.mk n1 s2 b3 l4 u5) 0).length) c_)),(10,.v (.slice A3_ ((qaI W l (Tree.mk n1 s2 b3 l4 u5) k2 ++ dm).length) c3_)),(11,.v (.int .i64 ((qaS W l (Tree.mk n1 s2 b3 l4 u5) k2 + cn:Nat):Int))),(14,.v (.int .i64 ((k2:Nat):Int))),(15,.v (.int .i64 ((q:Nat):Int))),(16,.p 1 0),(51,.v (.int .i64 (((qaz l).toNat:Nat):Int))),(52,.v (.int .i64 ((k2:Nat):Int))),(55,.v (.slice A l.length c)),(56,.v (.int .i64 ((l.length:Nat):Int))),(57,.v (.int .i64 ((q:Nat):Int))),(61,.v (.agg #[.int .i64 ab,.int .i64 ac,.int .i64 ae,.int .i64 af,.int .i64 aa,.int .i64 ag,.int .i64 ah,.slice bo ai.length bp]))] dR fO fun nc fP=>?_
   refine qam (qav dR fP (oi:=1) (cs:=[.int .i64 ab,.int .i64 ac,.int .i64 ae,.int .i64 af,.int .i64 aa,.int .i64 ag,.int .i64 ah,.slice bo ai.length bp]) kz fun nf cU fQ fR=>?_)
   refine qaf (qab ?_)
   refine qaG 12 kz fQ fun ng cV aN cW=>?_
   refine qaD [0,1,2,3,4] [(0,.v (.slice A l.length c)),(1,.v (.int .i64 v)),(2,.v (.bool flex)),(7,.p 0 0),(9,.v (.slice A_ ((qaP W l v (Tree.mk n1 s2 b3 l4 u5) 0).length) c_)),(10,.v (.slice A3_ ((qaI W l (Tree.mk n1 s2 b3 l4 u5) k2 ++ dm).length) c3_)),(11,.v (.int .i64 ((qaS W l (Tree.mk n1 s2 b3 l4 u5) k2 + cn:Nat):Int))),(14,.v (.int .i64 ((k2:Nat):Int))),(15,.v (.int .i64 ((q:Nat):Int))),(16,.p 1 0),(51,.v (.int .i64 (((qaz l).toNat:Nat):Int))),(52,.v (.int .i64 ((k2:Nat):Int))),(55,.v (.slice A l.length c)),(56,.v (.int .i64 ((l.length:Nat):Int))),(57,.v (.int .i64 ((q:Nat):Int))),(66,.v (.bool (aa == ((k2:Nat):Int))))] 7 (qaa (qac (qaa (qaa (qac (qac (qaa (qaa (qac (qaa qad)))))))))) (fun _ h=>h.cells) cW fR fun nh dS=>?_
   refine (Bool.eq_false_or_eq_true (aa == ((k2:Nat):Int))).elim (fun bq=>?_) (fun bq=>?_)
   ·
    have lz:aa = ((k2:Nat):Int):=by simpa using bq
    have fS:=dS.cast (env':=[(0,.v (.slice A l.length c)),(1,.v (.int .i64 v)),(2,.v (.bool flex)),(7,.p 0 0),(9,.v (.slice A_ ((qaP W l v (Tree.mk n1 s2 b3 l4 u5) 0).length) c_)),(10,.v (.slice A3_ ((qaI W l (Tree.mk n1 s2 b3 l4 u5) k2 ++ dm).length) c3_)),(11,.v (.int .i64 ((qaS W l (Tree.mk n1 s2 b3 l4 u5) k2 + cn:Nat):Int))),(14,.v (.int .i64 ((k2:Nat):Int))),(15,.v (.int .i64 ((q:Nat):Int))),(16,.p 1 0),(51,.v (.int .i64 (((qaz l).toNat:Nat):Int))),(52,.v (.int .i64 ((k2:Nat):Int))),(55,.v (.slice A l.length c)),(56,.v (.int .i64 ((l.length:Nat):Int))),(57,.v (.int .i64 ((q:Nat):Int))),(66,.v (.bool true))]) (by rw [bq])
    refine qaD [5,6,7] [(0,.v (.slice A l.length c)),(1,.v (.int .i64 v)),(2,.v (.bool flex)),(7,.p 0 0),(9,.v (.slice A_ ((qaP W l v (Tree.mk n1 s2 b3 l4 u5) 0).length) c_)),(10,.v (.slice A3_ ((qaI W l (Tree.mk n1 s2 b3 l4 u5) k2 ++ dm).length) c3_)),(11,.v (.int .i64 ((qaS W l (Tree.mk n1 s2 b3 l4 u5) k2 + cn:Nat):Int))),(14,.v (.int .i64 ((k2:Nat):Int))),(15,.v (.int .i64 ((q:Nat):Int))),(16,.p 1 0),(51,.v (.int .i64 (((qaz l).toNat:Nat):Int))),(52,.v (.int .i64 ((k2:Nat):Int))),(55,.v (.slice A l.length c)),(56,.v (.int .i64 ((l.length:Nat):Int))),(57,.v (.int .i64 ((q:Nat):Int))),(66,.v (.bool true)),(67,.v (.agg #[.int .i64 ab,.int .i64 ac,.int .i64 ae,.int .i64 af,.int .i64 aa,.int .i64 ag,.int .i64 ah,.slice bo ai.length bp])),(68,.v (.agg #[.int .i64 n1,.slice A6 s2.length c7,.bool b3,.slice A8 l4.length c9,.slice aU u5.length aV])),(69,.v (.int .i64 ((q:Nat):Int)))] 4 (qaa (qac (qaa (qaa (qac (qac (qaa (qaa (qac (qaa qad)))))))))) (fun _ h=>h.cells) cW fS fun ni fT=>?_
    refine qaw (i:=8) kz (qal fT (f:=20) (vs:=[.agg #[.int .i64 n1,.slice A6 s2.length c7,.bool b3,.slice A8 l4.length c9,.slice aU u5.length aV],.int .i64 ((q:Nat):Int)]) (d:=70) kz Tryd.call20 (sAt _ _ q _ _ (ht.move aN.step nilM aN.imm)) ?_)
    rintro e_ nj ⟨lA,rfl,fU,bt⟩
    have cX:=fU.move bt nilM (fun b o h_ hb_=>aN.laid (G:=F) bt b o (.inl h_) (Nat.lt_of_lt_of_le hb_ bt.size))
    obtain ⟨kq,ku,kv,kw,kx,ky,kA,kB,kC,kD,kE,lB,lC,cY,kF,kG,nk,nl⟩:=cX.open_
    rw [cY] at cX
    have kH:=kF.small
    have kI:=kG.small
    rw [cY]
    refine ⟨_,rfl,fun nm fV=>?_⟩
    have bu:=aN.next_nil bt
    have bW:=aN.frN bt
    have fW:=TT.ofW bW bu
    refine ⟨fun _=>fW,?_⟩
    refine qaw (i:=9) kz (qal fV (f:=22) (vs:=[.agg #[.int .i64 ab,.int .i64 ac,.int .i64 ae,.int .i64 af,.int .i64 aa,.int .i64 ag,.int .i64 ah,.slice bo ai.length bp],.agg #[.int .i64 kq,.slice ky ku.length kA,.bool kv,.slice kB kw.length kC,.slice kD kx.length kE]]) (d:=71) kz Tryd.call22 (qg3 _ _ _ _ _ _ _ (bV.move bu.step nilM bu.imm) (Nat.le_refl _) cX) ?_)
    rintro e_ np ⟨rfl,dT⟩
    refine ⟨_,rfl,fun nr fX=>?_⟩
    have bX:=bu.next_nil dT
    have cZ:=bu.frN dT
    have dU:=TT.ofW (bW.trans cZ) bX
    refine ⟨fun _=>dU,?_⟩
    refine qaD [10,11] [(0,.v (.slice A l.length c)),(1,.v (.int .i64 v)),(2,.v (.bool flex)),(7,.p 0 0),(9,.v (.slice A_ ((qaP W l v (Tree.mk n1 s2 b3 l4 u5) 0).length) c_)),(10,.v (.slice A3_ ((qaI W l (Tree.mk n1 s2 b3 l4 u5) k2 ++ dm).length) c3_)),(11,.v (.int .i64 ((qaS W l (Tree.mk n1 s2 b3 l4 u5) k2 + cn:Nat):Int))),(14,.v (.int .i64 ((k2:Nat):Int))),(15,.v (.int .i64 ((q:Nat):Int))),(16,.p 1 0),(51,.v (.int .i64 (((qaz l).toNat:Nat):Int))),(52,.v (.int .i64 ((k2:Nat):Int))),(55,.v (.slice A l.length c)),(56,.v (.int .i64 ((l.length:Nat):Int))),(57,.v (.int .i64 ((q:Nat):Int))),(73,.v (.bool (!(Fld.usual (Fld.mk ab ac ae af aa ag ah ai) (Tree.at_ (Tree.mk n1 s2 b3 l4 u5) q)))))] 0 (qaa (qac (qaa (qaa (qac (qac (qaa (qaa (qac (qaa qad)))))))))) (fun _ h=>h.cells) dU fX fun ns c5=>?_
    refine qaF kz ?_ _
    refine qab ?_
    refine qay c5 (b:=!(Fld.usual (Fld.mk ab ac ae af aa ag ah ai) (Tree.at_ (Tree.mk n1 s2 b3 l4 u5) q))) kz (fun ay=>?_) (fun ay=>?_)
    ·
     refine qaG 7 kz bX fun nt fY bw fZ=>?_
     refine qaD [0,1,2,3,4] [(0,.v (.slice A l.length c)),(1,.v (.int .i64 v)),(2,.v (.bool flex)),(7,.p 0 0),(9,.v (.slice A_ ((qaP W l v (Tree.mk n1 s2 b3 l4 u5) 0).length) c_)),(10,.v (.slice A3_ ((qaI W l (Tree.mk n1 s2 b3 l4 u5) k2 ++ dm).length) c3_)),(11,.v (.int .i64 ((qaS W l (Tree.mk n1 s2 b3 l4 u5) k2 + cn:Nat):Int))),(14,.v (.int .i64 ((k2:Nat):Int))),(51,.v (.int .i64 (((qaz l).toNat:Nat):Int))),(52,.v (.int .i64 ((k2:Nat):Int))),(55,.v (.slice A l.length c)),(56,.v (.int .i64 ((l.length:Nat):Int))),(57,.v (.int .i64 ((q:Nat):Int))),(74,.v (.agg #[.int .i64 ab,.int .i64 ac,.int .i64 ae,.int .i64 af,.int .i64 aa,.int .i64 ag,.int .i64 ah,.slice bo ai.length bp])),(75,.v (.int .i64 v)),(76,.v (.bool flex)),(77,.v (.agg #[.int .i64 n1,.slice A6 s2.length c7,.bool b3,.slice A8 l4.length c9,.slice aU u5.length aV])),(78,.v (.int .i64 ((q:Nat):Int)))] 3 (qaa (qac (qaa (qaa (qac (qac (qaa (qaa (qac (qaa qad)))))))))) (fun _ h=>h.cells) fZ c5 fun nu f5=>?_
     refine qaw (i:=5) kz (qal f5 (f:=20) (vs:=[.agg #[.int .i64 n1,.slice A6 s2.length c7,.bool b3,.slice A8 l4.length c9,.slice aU u5.length aV],.int .i64 ((q:Nat):Int)]) (d:=79) kz Tryd.call20 (sAt _ _ q _ _ (ht.move bw.step nilM bw.imm)) ?_)
     rintro e_ nv ⟨lD,rfl,f7,bx⟩
     have c6:=f7.move bx nilM (fun b o h_ hb_=>bw.laid (G:=F) bx b o (.inl h_) (Nat.lt_of_lt_of_le hb_ bx.size))
     obtain ⟨kJ,kK,kL,kM,kN,kO,kP,kQ,kR,kS,kT,lE,lF,da,kU,kV,nw,nx⟩:=c6.open_
     rw [da] at c6
     have kW:=kU.small
     have kX:=kV.small
     rw [da]
     refine ⟨_,rfl,fun ny f8=>?_⟩
     have bY:=bw.next_nil bx
     have db:=bw.frN bx
     have f9:=TT.ofW db bY
     refine ⟨fun _=>f9,?_⟩
     refine qaw (i:=6) kz (qal f8 (f:=35) (vs:=[.agg #[.int .i64 ab,.int .i64 ac,.int .i64 ae,.int .i64 af,.int .i64 aa,.int .i64 ag,.int .i64 ah,.slice bo ai.length bp],.int .i64 v,.bool flex,.agg #[.int .i64 kJ,.slice kO kK.length kP,.bool kL,.slice kQ kM.length kR,.slice kS kN.length kT]]) (d:=80) kz Tryd.call35 ( hW_ _ _ _ _ _ _ (List.mem_of_getElem? ap) (bV.move bY.step nilM bY.imm) c6 (by have h_:=congrArg List.length hB2; rw [qdo ap (by omega) (by simpa using ay)] at h_; simp only [List.length_append] at h_; omega)) ?_)
     rintro e_ nz ⟨av,aw,rfl,ga,gb⟩
     refine ⟨_,rfl,fun nA gc=>?_⟩
     obtain ⟨bZ,dV⟩:=bY.frFresh gb (brow av aw 5 (W (Fld.mk ab ac ae af aa ag ah ai) (Tree.at_ (Tree.mk n1 s2 b3 l4 u5) q))) (Nat.le_refl _) ga
     have kY:(W (Fld.mk ab ac ae af aa ag ah ai) (Tree.at_ (Tree.mk n1 s2 b3 l4 u5) q)).length ≤ 1099511627776:=by have h_:=congrArg List.length hB2; rw [qdo ap (by omega) (by simpa using ay)] at h_; simp only [List.length_append] at h_; omega
     have gd:=TT.ofW (db.trans dV) bZ
     refine ⟨fun _=>gd,?_⟩
     refine qaw (i:=7) kz (qa9 [0,1,2,7,9,10,11,14,17,51,52,55,56,57] bZ.cells gc (env':=[(0,.v (.slice A l.length c)),(1,.v (.int .i64 v)),(2,.v (.bool flex)),(7,.p 0 0),(9,.v (.slice A_ ((qaP W l v (Tree.mk n1 s2 b3 l4 u5) 0).length) c_)),(10,.v (.slice A3_ ((qaI W l (Tree.mk n1 s2 b3 l4 u5) k2 ++ dm).length) c3_)),(11,.v (.int .i64 ((qaS W l (Tree.mk n1 s2 b3 l4 u5) k2 + cn:Nat):Int))),(14,.v (.int .i64 ((k2:Nat):Int))),(17,.v (.slice av ((W (Fld.mk ab ac ae af aa ag ah ai) (Tree.at_ (Tree.mk n1 s2 b3 l4 u5) q)).length) aw)),(51,.v (.int .i64 (((qaz l).toNat:Nat):Int))),(52,.v (.int .i64 ((k2:Nat):Int))),(55,.v (.slice A l.length c)),(56,.v (.int .i64 ((l.length:Nat):Int))),(57,.v (.int .i64 ((q:Nat):Int)))]) kz fun nB ge=>?_)
     refine ⟨fun h=>absurd rfl h,?_⟩
     refine qaF kz ?_ _
     refine qab ?_
     refine qag [0,1,2,3,4,5,6,7,8,9,10,11,12] kz ?_
     refine qaj [0,1,2] [3,4,5,6,7,8,9,10,11,12] [(0,.v (.slice A l.length c)),(1,.v (.int .i64 v)),(2,.v (.bool flex)),(7,.p 0 0),(9,.v (.slice A_ ((qaP W l v (Tree.mk n1 s2 b3 l4 u5) 0).length) c_)),(11,.v (.int .i64 ((qaS W l (Tree.mk n1 s2 b3 l4 u5) k2 + cn:Nat):Int))),(14,.v (.int .i64 ((k2:Nat):Int))),(17,.v (.slice av ((W (Fld.mk ab ac ae af aa ag ah ai) (Tree.at_ (Tree.mk n1 s2 b3 l4 u5) q)).length) aw)),(51,.v (.int .i64 (((qaz l).toNat:Nat):Int))),(52,.v (.int .i64 ((k2:Nat):Int))),(55,.v (.slice A l.length c)),(56,.v (.int .i64 ((l.length:Nat):Int))),(57,.v (.int .i64 ((q:Nat):Int))),(81,.v (.slice A3_ ((qaI W l (Tree.mk n1 s2 b3 l4 u5) k2 ++ dm).length) c3_)),(83,.v (.int .u64 (IntKind.u64.wrap ((k2:Nat):Int))))] bZ ge fun nC gg=>?_
     have gh:IntKind.u64.wrap ((k2:Nat):Int) = ((k2:Nat):Int):=by simp only [qaK,qaA,qcc,IntKind.wrap_i64,IntKind.wrap_i32]; omega
     have gi:=EnvOk.pick gg (ks:=[0,1,2,7,9,11,14,17,51,52,55,56,57,81,83]) (env':=[(0,.v (.slice A l.length c)),(1,.v (.int .i64 v)),(2,.v (.bool flex)),(7,.p 0 0),(9,.v (.slice A_ ((qaP W l v (Tree.mk n1 s2 b3 l4 u5) 0).length) c_)),(11,.v (.int .i64 ((qaS W l (Tree.mk n1 s2 b3 l4 u5) k2 + cn:Nat):Int))),(14,.v (.int .i64 ((k2:Nat):Int))),(17,.v (.slice av ((W (Fld.mk ab ac ae af aa ag ah ai) (Tree.at_ (Tree.mk n1 s2 b3 l4 u5) q)).length) aw)),(51,.v (.int .i64 (((qaz l).toNat:Nat):Int))),(52,.v (.int .i64 ((k2:Nat):Int))),(55,.v (.slice A l.length c)),(56,.v (.int .i64 ((l.length:Nat):Int))),(57,.v (.int .i64 ((q:Nat):Int))),(81,.v (.slice A3_ ((qaI W l (Tree.mk n1 s2 b3 l4 u5) k2 ++ dm).length) c3_)),(83,.v (.int .u64 (IntKind.u64.wrap ((k2:Nat):Int))))]) kz
     have gj:=gi.cast (env':=[(0,.v (.slice A l.length c)),(1,.v (.int .i64 v)),(2,.v (.bool flex)),(7,.p 0 0),(9,.v (.slice A_ ((qaP W l v (Tree.mk n1 s2 b3 l4 u5) 0).length) c_)),(11,.v (.int .i64 ((qaS W l (Tree.mk n1 s2 b3 l4 u5) k2 + cn:Nat):Int))),(14,.v (.int .i64 ((k2:Nat):Int))),(17,.v (.slice av ((W (Fld.mk ab ac ae af aa ag ah ai) (Tree.at_ (Tree.mk n1 s2 b3 l4 u5) q)).length) aw)),(51,.v (.int .i64 (((qaz l).toNat:Nat):Int))),(52,.v (.int .i64 ((k2:Nat):Int))),(55,.v (.slice A l.length c)),(56,.v (.int .i64 ((l.length:Nat):Int))),(57,.v (.int .i64 ((q:Nat):Int))),(81,.v (.slice A3_ ((qaI W l (Tree.mk n1 s2 b3 l4 u5) k2 ++ dm).length) c3_)),(83,.v (.int .u64 ((k2:Nat):Int)))]) (by rw [gh])
     refine qam (qal gj (f:=37) (vs:=[.int .u64 ((k2:Nat):Int)]) (d:=84) kz Tryd.call37 (qdt k2 (by omega) _) ?_)
     rintro e_ nD ⟨bI,bJ,rfl,gk,gl⟩
     refine ⟨_,rfl,fun nE gm=>?_⟩
     obtain ⟨dc,gn⟩:=bZ.frFresh gl (brow bI bJ 5 (uv k2)) (Nat.le_refl _) gk
     refine qam (qaO dc gm (k:=1) (d:=85) (t:=22) (e:=5) (size:=1) (bytes:=1) (A:=A3_) (As:=bI) (m0:=((qaI W l (Tree.mk n1 s2 b3 l4 u5) k2 ++ dm).length)) (c:=c3_) (m:=((uv k2).length)) (cs:=bJ) (xs:=(bc (qaI W l (Tree.mk n1 s2 b3 l4 u5) k2 ++ dm))) (news:=bc (uv k2)) kz kz rfl (qbo (dc.own 3 _ rfl) (qcH _)) (qbA (dc.own 3 _ rfl)) (by have h_:=congrArg List.length hB2; rw [qdo ap (by omega) (by simpa using ay)] at h_; simp only [List.length_append] at h_ ⊢; omega) fun aO aP nF nG gp gq gt=>?_)
     have gv:(⟨aO,aP,5,1,(qaI W l (Tree.mk n1 s2 b3 l4 u5) k2 ++ dm).length + (uv k2).length,bc (qaI W l (Tree.mk n1 s2 b3 l4 u5) k2 ++ dm) ++ bc (uv k2)⟩:Rw) = brow aO aP 5 (qaI W l (Tree.mk n1 s2 b3 l4 u5) k2 ++ dm ++ (uv k2)):=qbz (rfl) rfl
     obtain ⟨dW,gw⟩:=gq.rowEq 1 [brow A_ c_ 5 (qaP W l v (Tree.mk n1 s2 b3 l4 u5) 0),brow aO aP 5 (qaI W l (Tree.mk n1 s2 b3 l4 u5) k2 ++ dm ++ (uv k2)),brow av aw 5 (W (Fld.mk ab ac ae af aa ag ah ai) (Tree.at_ (Tree.mk n1 s2 b3 l4 u5) q)),brow bI bJ 5 (uv k2)] gv
     have gx:=EnvOk.pick gt (ks:=[0,1,2,7,9,11,14,17,51,52,55,56,57,81,83,84,85]) (env':=[(0,.v (.slice A l.length c)),(1,.v (.int .i64 v)),(2,.v (.bool flex)),(7,.p 0 0),(9,.v (.slice A_ ((qaP W l v (Tree.mk n1 s2 b3 l4 u5) 0).length) c_)),(11,.v (.int .i64 ((qaS W l (Tree.mk n1 s2 b3 l4 u5) k2 + cn:Nat):Int))),(14,.v (.int .i64 ((k2:Nat):Int))),(17,.v (.slice av ((W (Fld.mk ab ac ae af aa ag ah ai) (Tree.at_ (Tree.mk n1 s2 b3 l4 u5) q)).length) aw)),(51,.v (.int .i64 (((qaz l).toNat:Nat):Int))),(52,.v (.int .i64 ((k2:Nat):Int))),(55,.v (.slice A l.length c)),(56,.v (.int .i64 ((l.length:Nat):Int))),(57,.v (.int .i64 ((q:Nat):Int))),(81,.v (.slice A3_ ((qaI W l (Tree.mk n1 s2 b3 l4 u5) k2 ++ dm).length) c3_)),(83,.v (.int .u64 ((k2:Nat):Int))),(84,.v (.slice bI ((uv k2).length) bJ)),(85,.v (.slice aO ((qaI W l (Tree.mk n1 s2 b3 l4 u5) k2 ++ dm).length + (uv k2).length) aP))]) kz
     have gy:=gx.cast (env':=[(0,.v (.slice A l.length c)),(1,.v (.int .i64 v)),(2,.v (.bool flex)),(7,.p 0 0),(9,.v (.slice A_ ((qaP W l v (Tree.mk n1 s2 b3 l4 u5) 0).length) c_)),(11,.v (.int .i64 ((qaS W l (Tree.mk n1 s2 b3 l4 u5) k2 + cn:Nat):Int))),(14,.v (.int .i64 ((k2:Nat):Int))),(17,.v (.slice av ((W (Fld.mk ab ac ae af aa ag ah ai) (Tree.at_ (Tree.mk n1 s2 b3 l4 u5) q)).length) aw)),(51,.v (.int .i64 (((qaz l).toNat:Nat):Int))),(52,.v (.int .i64 ((k2:Nat):Int))),(55,.v (.slice A l.length c)),(56,.v (.int .i64 ((l.length:Nat):Int))),(57,.v (.int .i64 ((q:Nat):Int))),(81,.v (.slice A3_ ((qaI W l (Tree.mk n1 s2 b3 l4 u5) k2 ++ dm).length) c3_)),(83,.v (.int .u64 ((k2:Nat):Int))),(84,.v (.slice bI ((uv k2).length) bJ)),(85,.v (.slice aO ((qaI W l (Tree.mk n1 s2 b3 l4 u5) k2 ++ dm ++ (uv k2)).length) aP))]) (by simp only [List.length_append,List.length_cons,List.length_nil,Nat.zero_add])
     refine qaj [5,6,7] [8,9,10,11,12] [(0,.v (.slice A l.length c)),(1,.v (.int .i64 v)),(2,.v (.bool flex)),(7,.p 0 0),(9,.v (.slice A_ ((qaP W l v (Tree.mk n1 s2 b3 l4 u5) 0).length) c_)),(11,.v (.int .i64 ((qaS W l (Tree.mk n1 s2 b3 l4 u5) k2 + cn:Nat):Int))),(14,.v (.int .i64 ((k2:Nat):Int))),(17,.v (.slice av ((W (Fld.mk ab ac ae af aa ag ah ai) (Tree.at_ (Tree.mk n1 s2 b3 l4 u5) q)).length) aw)),(51,.v (.int .i64 (((qaz l).toNat:Nat):Int))),(52,.v (.int .i64 ((k2:Nat):Int))),(55,.v (.slice A l.length c)),(56,.v (.int .i64 ((l.length:Nat):Int))),(57,.v (.int .i64 ((q:Nat):Int))),(85,.v (.slice aO ((qaI W l (Tree.mk n1 s2 b3 l4 u5) k2 ++ dm ++ (uv k2)).length) aP)),(88,.v (.int .u64 (IntKind.u64.wrap (((W (Fld.mk ab ac ae af aa ag ah ai) (Tree.at_ (Tree.mk n1 s2 b3 l4 u5) q)).length:Nat):Int))))] dW gy fun nH gz=>?_
     have gA:IntKind.u64.wrap (((W (Fld.mk ab ac ae af aa ag ah ai) (Tree.at_ (Tree.mk n1 s2 b3 l4 u5) q)).length:Nat):Int) = (((W (Fld.mk ab ac ae af aa ag ah ai) (Tree.at_ (Tree.mk n1 s2 b3 l4 u5) q)).length:Nat):Int):=by simp only [qaK,qaA,qcc,IntKind.wrap_i64,IntKind.wrap_i32]; omega
     have gB:=EnvOk.pick gz (ks:=[0,1,2,7,9,11,14,17,51,52,55,56,57,85,88]) (env':=[(0,.v (.slice A l.length c)),(1,.v (.int .i64 v)),(2,.v (.bool flex)),(7,.p 0 0),(9,.v (.slice A_ ((qaP W l v (Tree.mk n1 s2 b3 l4 u5) 0).length) c_)),(11,.v (.int .i64 ((qaS W l (Tree.mk n1 s2 b3 l4 u5) k2 + cn:Nat):Int))),(14,.v (.int .i64 ((k2:Nat):Int))),(17,.v (.slice av ((W (Fld.mk ab ac ae af aa ag ah ai) (Tree.at_ (Tree.mk n1 s2 b3 l4 u5) q)).length) aw)),(51,.v (.int .i64 (((qaz l).toNat:Nat):Int))),(52,.v (.int .i64 ((k2:Nat):Int))),(55,.v (.slice A l.length c)),(56,.v (.int .i64 ((l.length:Nat):Int))),(57,.v (.int .i64 ((q:Nat):Int))),(85,.v (.slice aO ((qaI W l (Tree.mk n1 s2 b3 l4 u5) k2 ++ dm ++ (uv k2)).length) aP)),(88,.v (.int .u64 (IntKind.u64.wrap (((W (Fld.mk ab ac ae af aa ag ah ai) (Tree.at_ (Tree.mk n1 s2 b3 l4 u5) q)).length:Nat):Int))))]) kz
     have gC:=gB.cast (env':=[(0,.v (.slice A l.length c)),(1,.v (.int .i64 v)),(2,.v (.bool flex)),(7,.p 0 0),(9,.v (.slice A_ ((qaP W l v (Tree.mk n1 s2 b3 l4 u5) 0).length) c_)),(11,.v (.int .i64 ((qaS W l (Tree.mk n1 s2 b3 l4 u5) k2 + cn:Nat):Int))),(14,.v (.int .i64 ((k2:Nat):Int))),(17,.v (.slice av ((W (Fld.mk ab ac ae af aa ag ah ai) (Tree.at_ (Tree.mk n1 s2 b3 l4 u5) q)).length) aw)),(51,.v (.int .i64 (((qaz l).toNat:Nat):Int))),(52,.v (.int .i64 ((k2:Nat):Int))),(55,.v (.slice A l.length c)),(56,.v (.int .i64 ((l.length:Nat):Int))),(57,.v (.int .i64 ((q:Nat):Int))),(85,.v (.slice aO ((qaI W l (Tree.mk n1 s2 b3 l4 u5) k2 ++ dm ++ (uv k2)).length) aP)),(88,.v (.int .u64 (((W (Fld.mk ab ac ae af aa ag ah ai) (Tree.at_ (Tree.mk n1 s2 b3 l4 u5) q)).length:Nat):Int)))]) (by rw [gA])
     refine qam (qal gC (f:=37) (vs:=[.int .u64 (((W (Fld.mk ab ac ae af aa ag ah ai) (Tree.at_ (Tree.mk n1 s2 b3 l4 u5) q)).length:Nat):Int)]) (d:=89) kz Tryd.call37 (qdt ((W (Fld.mk ab ac ae af aa ag ah ai) (Tree.at_ (Tree.mk n1 s2 b3 l4 u5) q)).length) (by omega) _) ?_)
     rintro e_ nI ⟨cu,cw,rfl,gD,gE⟩
     refine ⟨_,rfl,fun nJ gF=>?_⟩
     obtain ⟨de,gG⟩:=dW.frFresh gE (brow cu cw 5 (uv ((W (Fld.mk ab ac ae af aa ag ah ai) (Tree.at_ (Tree.mk n1 s2 b3 l4 u5) q)).length))) (Nat.le_refl _) gD
     refine qam (qaO de gF (k:=1) (d:=90) (t:=22) (e:=5) (size:=1) (bytes:=1) (A:=aO) (As:=cu) (m0:=((qaI W l (Tree.mk n1 s2 b3 l4 u5) k2 ++ dm ++ (uv k2)).length)) (c:=aP) (m:=((uv ((W (Fld.mk ab ac ae af aa ag ah ai) (Tree.at_ (Tree.mk n1 s2 b3 l4 u5) q)).length)).length)) (cs:=cw) (xs:=(bc (qaI W l (Tree.mk n1 s2 b3 l4 u5) k2 ++ dm ++ (uv k2)))) (news:=bc (uv ((W (Fld.mk ab ac ae af aa ag ah ai) (Tree.at_ (Tree.mk n1 s2 b3 l4 u5) q)).length))) kz kz rfl (qbo (de.own 4 _ rfl) (qcH _)) (qbA (de.own 4 _ rfl)) (by have h_:=congrArg List.length hB2; rw [qdo ap (by omega) (by simpa using ay)] at h_; simp only [List.length_append] at h_ ⊢; omega) fun aZ ba nK nL gH gI gJ=>?_)
     have gK:(⟨aZ,ba,5,1,(qaI W l (Tree.mk n1 s2 b3 l4 u5) k2 ++ dm ++ (uv k2)).length + (uv ((W (Fld.mk ab ac ae af aa ag ah ai) (Tree.at_ (Tree.mk n1 s2 b3 l4 u5) q)).length)).length,bc (qaI W l (Tree.mk n1 s2 b3 l4 u5) k2 ++ dm ++ (uv k2)) ++ bc (uv ((W (Fld.mk ab ac ae af aa ag ah ai) (Tree.at_ (Tree.mk n1 s2 b3 l4 u5) q)).length))⟩:Rw) = brow aZ ba 5 (qaI W l (Tree.mk n1 s2 b3 l4 u5) k2 ++ dm ++ (uv k2) ++ (uv ((W (Fld.mk ab ac ae af aa ag ah ai) (Tree.at_ (Tree.mk n1 s2 b3 l4 u5) q)).length))):=qbz (rfl) rfl
     obtain ⟨b8,gL⟩:=gI.rowEq 1 [brow A_ c_ 5 (qaP W l v (Tree.mk n1 s2 b3 l4 u5) 0),brow aZ ba 5 (qaI W l (Tree.mk n1 s2 b3 l4 u5) k2 ++ dm ++ (uv k2) ++ (uv ((W (Fld.mk ab ac ae af aa ag ah ai) (Tree.at_ (Tree.mk n1 s2 b3 l4 u5) q)).length))),brow av aw 5 (W (Fld.mk ab ac ae af aa ag ah ai) (Tree.at_ (Tree.mk n1 s2 b3 l4 u5) q)),brow bI bJ 5 (uv k2),brow cu cw 5 (uv ((W (Fld.mk ab ac ae af aa ag ah ai) (Tree.at_ (Tree.mk n1 s2 b3 l4 u5) q)).length))] gK
     have gM:=EnvOk.pick gJ (ks:=[0,1,2,7,9,11,14,17,51,52,55,56,57,85,88,89,90]) (env':=[(0,.v (.slice A l.length c)),(1,.v (.int .i64 v)),(2,.v (.bool flex)),(7,.p 0 0),(9,.v (.slice A_ ((qaP W l v (Tree.mk n1 s2 b3 l4 u5) 0).length) c_)),(11,.v (.int .i64 ((qaS W l (Tree.mk n1 s2 b3 l4 u5) k2 + cn:Nat):Int))),(14,.v (.int .i64 ((k2:Nat):Int))),(17,.v (.slice av ((W (Fld.mk ab ac ae af aa ag ah ai) (Tree.at_ (Tree.mk n1 s2 b3 l4 u5) q)).length) aw)),(51,.v (.int .i64 (((qaz l).toNat:Nat):Int))),(52,.v (.int .i64 ((k2:Nat):Int))),(55,.v (.slice A l.length c)),(56,.v (.int .i64 ((l.length:Nat):Int))),(57,.v (.int .i64 ((q:Nat):Int))),(85,.v (.slice aO ((qaI W l (Tree.mk n1 s2 b3 l4 u5) k2 ++ dm ++ (uv k2)).length) aP)),(88,.v (.int .u64 (((W (Fld.mk ab ac ae af aa ag ah ai) (Tree.at_ (Tree.mk n1 s2 b3 l4 u5) q)).length:Nat):Int))),(89,.v (.slice cu ((uv ((W (Fld.mk ab ac ae af aa ag ah ai) (Tree.at_ (Tree.mk n1 s2 b3 l4 u5) q)).length)).length) cw)),(90,.v (.slice aZ ((qaI W l (Tree.mk n1 s2 b3 l4 u5) k2 ++ dm ++ (uv k2)).length + (uv ((W (Fld.mk ab ac ae af aa ag ah ai) (Tree.at_ (Tree.mk n1 s2 b3 l4 u5) q)).length)).length) ba))]) kz
     have gN:=gM.cast (env':=[(0,.v (.slice A l.length c)),(1,.v (.int .i64 v)),(2,.v (.bool flex)),(7,.p 0 0),(9,.v (.slice A_ ((qaP W l v (Tree.mk n1 s2 b3 l4 u5) 0).length) c_)),(11,.v (.int .i64 ((qaS W l (Tree.mk n1 s2 b3 l4 u5) k2 + cn:Nat):Int))),(14,.v (.int .i64 ((k2:Nat):Int))),(17,.v (.slice av ((W (Fld.mk ab ac ae af aa ag ah ai) (Tree.at_ (Tree.mk n1 s2 b3 l4 u5) q)).length) aw)),(51,.v (.int .i64 (((qaz l).toNat:Nat):Int))),(52,.v (.int .i64 ((k2:Nat):Int))),(55,.v (.slice A l.length c)),(56,.v (.int .i64 ((l.length:Nat):Int))),(57,.v (.int .i64 ((q:Nat):Int))),(85,.v (.slice aO ((qaI W l (Tree.mk n1 s2 b3 l4 u5) k2 ++ dm ++ (uv k2)).length) aP)),(88,.v (.int .u64 (((W (Fld.mk ab ac ae af aa ag ah ai) (Tree.at_ (Tree.mk n1 s2 b3 l4 u5) q)).length:Nat):Int))),(89,.v (.slice cu ((uv ((W (Fld.mk ab ac ae af aa ag ah ai) (Tree.at_ (Tree.mk n1 s2 b3 l4 u5) q)).length)).length) cw)),(90,.v (.slice aZ ((qaI W l (Tree.mk n1 s2 b3 l4 u5) k2 ++ dm ++ (uv k2) ++ (uv ((W (Fld.mk ab ac ae af aa ag ah ai) (Tree.at_ (Tree.mk n1 s2 b3 l4 u5) q)).length))).length) ba))]) (by simp only [List.length_append,List.length_cons,List.length_nil,Nat.zero_add])
     refine qaj [10] [11,12] [(0,.v (.slice A l.length c)),(1,.v (.int .i64 v)),(2,.v (.bool flex)),(7,.p 0 0),(9,.v (.slice A_ ((qaP W l v (Tree.mk n1 s2 b3 l4 u5) 0).length) c_)),(11,.v (.int .i64 ((qaS W l (Tree.mk n1 s2 b3 l4 u5) k2 + cn:Nat):Int))),(14,.v (.int .i64 ((k2:Nat):Int))),(51,.v (.int .i64 (((qaz l).toNat:Nat):Int))),(52,.v (.int .i64 ((k2:Nat):Int))),(55,.v (.slice A l.length c)),(56,.v (.int .i64 ((l.length:Nat):Int))),(57,.v (.int .i64 ((q:Nat):Int))),(90,.v (.slice aZ ((qaI W l (Tree.mk n1 s2 b3 l4 u5) k2 ++ dm ++ (uv k2) ++ (uv ((W (Fld.mk ab ac ae af aa ag ah ai) (Tree.at_ (Tree.mk n1 s2 b3 l4 u5) q)).length))).length) ba)),(91,.v (.slice av ((W (Fld.mk ab ac ae af aa ag ah ai) (Tree.at_ (Tree.mk n1 s2 b3 l4 u5) q)).length) aw))] b8 gN fun nM gO=>?_
     refine qam (qaO b8 gO (k:=1) (d:=92) (t:=22) (e:=5) (size:=1) (bytes:=1) (A:=aZ) (As:=av) (m0:=((qaI W l (Tree.mk n1 s2 b3 l4 u5) k2 ++ dm ++ (uv k2) ++ (uv ((W (Fld.mk ab ac ae af aa ag ah ai) (Tree.at_ (Tree.mk n1 s2 b3 l4 u5) q)).length))).length)) (c:=ba) (m:=((W (Fld.mk ab ac ae af aa ag ah ai) (Tree.at_ (Tree.mk n1 s2 b3 l4 u5) q)).length)) (cs:=aw) (xs:=(bc (qaI W l (Tree.mk n1 s2 b3 l4 u5) k2 ++ dm ++ (uv k2) ++ (uv ((W (Fld.mk ab ac ae af aa ag ah ai) (Tree.at_ (Tree.mk n1 s2 b3 l4 u5) q)).length))))) (news:=bc (W (Fld.mk ab ac ae af aa ag ah ai) (Tree.at_ (Tree.mk n1 s2 b3 l4 u5) q))) kz kz rfl (qbo (b8.own 2 _ rfl) (qcH _)) (qbA (b8.own 2 _ rfl)) (by have h_:=congrArg List.length hB2; rw [qdo ap (by omega) (by simpa using ay)] at h_; simp only [List.length_append] at h_ ⊢; omega) fun aI aJ nN nO gP gQ gR=>?_)
     have gS:(⟨aI,aJ,5,1,(qaI W l (Tree.mk n1 s2 b3 l4 u5) k2 ++ dm ++ (uv k2) ++ (uv ((W (Fld.mk ab ac ae af aa ag ah ai) (Tree.at_ (Tree.mk n1 s2 b3 l4 u5) q)).length))).length + (W (Fld.mk ab ac ae af aa ag ah ai) (Tree.at_ (Tree.mk n1 s2 b3 l4 u5) q)).length,bc (qaI W l (Tree.mk n1 s2 b3 l4 u5) k2 ++ dm ++ (uv k2) ++ (uv ((W (Fld.mk ab ac ae af aa ag ah ai) (Tree.at_ (Tree.mk n1 s2 b3 l4 u5) q)).length))) ++ bc (W (Fld.mk ab ac ae af aa ag ah ai) (Tree.at_ (Tree.mk n1 s2 b3 l4 u5) q))⟩:Rw) = brow aI aJ 5 (qaI W l (Tree.mk n1 s2 b3 l4 u5) k2 ++ dm ++ (uv k2) ++ (uv ((W (Fld.mk ab ac ae af aa ag ah ai) (Tree.at_ (Tree.mk n1 s2 b3 l4 u5) q)).length)) ++ (W (Fld.mk ab ac ae af aa ag ah ai) (Tree.at_ (Tree.mk n1 s2 b3 l4 u5) q))):=qbz (rfl) rfl
     obtain ⟨ca,gT⟩:=gQ.rowEq 1 [brow A_ c_ 5 (qaP W l v (Tree.mk n1 s2 b3 l4 u5) 0),brow aI aJ 5 (qaI W l (Tree.mk n1 s2 b3 l4 u5) k2 ++ dm ++ (uv k2) ++ (uv ((W (Fld.mk ab ac ae af aa ag ah ai) (Tree.at_ (Tree.mk n1 s2 b3 l4 u5) q)).length)) ++ (W (Fld.mk ab ac ae af aa ag ah ai) (Tree.at_ (Tree.mk n1 s2 b3 l4 u5) q))),brow av aw 5 (W (Fld.mk ab ac ae af aa ag ah ai) (Tree.at_ (Tree.mk n1 s2 b3 l4 u5) q)),brow bI bJ 5 (uv k2),brow cu cw 5 (uv ((W (Fld.mk ab ac ae af aa ag ah ai) (Tree.at_ (Tree.mk n1 s2 b3 l4 u5) q)).length))] gS
     have gU:=EnvOk.pick gR (ks:=[0,1,2,7,9,11,14,51,52,55,56,57,90,91,92]) (env':=[(0,.v (.slice A l.length c)),(1,.v (.int .i64 v)),(2,.v (.bool flex)),(7,.p 0 0),(9,.v (.slice A_ ((qaP W l v (Tree.mk n1 s2 b3 l4 u5) 0).length) c_)),(11,.v (.int .i64 ((qaS W l (Tree.mk n1 s2 b3 l4 u5) k2 + cn:Nat):Int))),(14,.v (.int .i64 ((k2:Nat):Int))),(51,.v (.int .i64 (((qaz l).toNat:Nat):Int))),(52,.v (.int .i64 ((k2:Nat):Int))),(55,.v (.slice A l.length c)),(56,.v (.int .i64 ((l.length:Nat):Int))),(57,.v (.int .i64 ((q:Nat):Int))),(90,.v (.slice aZ ((qaI W l (Tree.mk n1 s2 b3 l4 u5) k2 ++ dm ++ (uv k2) ++ (uv ((W (Fld.mk ab ac ae af aa ag ah ai) (Tree.at_ (Tree.mk n1 s2 b3 l4 u5) q)).length))).length) ba)),(91,.v (.slice av ((W (Fld.mk ab ac ae af aa ag ah ai) (Tree.at_ (Tree.mk n1 s2 b3 l4 u5) q)).length) aw)),(92,.v (.slice aI ((qaI W l (Tree.mk n1 s2 b3 l4 u5) k2 ++ dm ++ (uv k2) ++ (uv ((W (Fld.mk ab ac ae af aa ag ah ai) (Tree.at_ (Tree.mk n1 s2 b3 l4 u5) q)).length))).length + (W (Fld.mk ab ac ae af aa ag ah ai) (Tree.at_ (Tree.mk n1 s2 b3 l4 u5) q)).length) aJ))]) kz
     have gV:=gU.cast (env':=[(0,.v (.slice A l.length c)),(1,.v (.int .i64 v)),(2,.v (.bool flex)),(7,.p 0 0),(9,.v (.slice A_ ((qaP W l v (Tree.mk n1 s2 b3 l4 u5) 0).length) c_)),(11,.v (.int .i64 ((qaS W l (Tree.mk n1 s2 b3 l4 u5) k2 + cn:Nat):Int))),(14,.v (.int .i64 ((k2:Nat):Int))),(51,.v (.int .i64 (((qaz l).toNat:Nat):Int))),(52,.v (.int .i64 ((k2:Nat):Int))),(55,.v (.slice A l.length c)),(56,.v (.int .i64 ((l.length:Nat):Int))),(57,.v (.int .i64 ((q:Nat):Int))),(90,.v (.slice aZ ((qaI W l (Tree.mk n1 s2 b3 l4 u5) k2 ++ dm ++ (uv k2) ++ (uv ((W (Fld.mk ab ac ae af aa ag ah ai) (Tree.at_ (Tree.mk n1 s2 b3 l4 u5) q)).length))).length) ba)),(91,.v (.slice av ((W (Fld.mk ab ac ae af aa ag ah ai) (Tree.at_ (Tree.mk n1 s2 b3 l4 u5) q)).length) aw)),(92,.v (.slice aI ((qaI W l (Tree.mk n1 s2 b3 l4 u5) k2 ++ dm ++ (uv k2) ++ (uv ((W (Fld.mk ab ac ae af aa ag ah ai) (Tree.at_ (Tree.mk n1 s2 b3 l4 u5) q)).length)) ++ (W (Fld.mk ab ac ae af aa ag ah ai) (Tree.at_ (Tree.mk n1 s2 b3 l4 u5) q))).length) aJ))]) (by simp only [List.length_append,List.length_cons,List.length_nil,Nat.zero_add])
     refine qaj [12] [] [(0,.v (.slice A l.length c)),(1,.v (.int .i64 v)),(2,.v (.bool flex)),(7,.p 0 0),(9,.v (.slice A_ ((qaP W l v (Tree.mk n1 s2 b3 l4 u5) 0).length) c_)),(10,.v (.slice aI ((qaI W l (Tree.mk n1 s2 b3 l4 u5) k2 ++ dm ++ (uv k2) ++ (uv ((W (Fld.mk ab ac ae af aa ag ah ai) (Tree.at_ (Tree.mk n1 s2 b3 l4 u5) q)).length)) ++ (W (Fld.mk ab ac ae af aa ag ah ai) (Tree.at_ (Tree.mk n1 s2 b3 l4 u5) q))).length) aJ)),(11,.v (.int .i64 ((qaS W l (Tree.mk n1 s2 b3 l4 u5) k2 + cn:Nat):Int))),(14,.v (.int .i64 ((k2:Nat):Int))),(51,.v (.int .i64 (((qaz l).toNat:Nat):Int))),(52,.v (.int .i64 ((k2:Nat):Int))),(55,.v (.slice A l.length c)),(56,.v (.int .i64 ((l.length:Nat):Int))),(57,.v (.int .i64 ((q:Nat):Int)))] ca gV fun nP gW=>?_
     refine qaf (qab ?_)
     refine qat [0,1,2] kz ?_
     refine qaj [0,1,2] [] [(0,.v (.slice A l.length c)),(1,.v (.int .i64 v)),(2,.v (.bool flex)),(7,.p 0 0),(9,.v (.slice A_ ((qaP W l v (Tree.mk n1 s2 b3 l4 u5) 0).length) c_)),(10,.v (.slice aI ((qaI W l (Tree.mk n1 s2 b3 l4 u5) k2 ++ dm ++ (uv k2) ++ (uv ((W (Fld.mk ab ac ae af aa ag ah ai) (Tree.at_ (Tree.mk n1 s2 b3 l4 u5) q)).length)) ++ (W (Fld.mk ab ac ae af aa ag ah ai) (Tree.at_ (Tree.mk n1 s2 b3 l4 u5) q))).length) aJ)),(11,.v (.int .i64 (IntKind.i64.wrap (((qaS W l (Tree.mk n1 s2 b3 l4 u5) k2 + cn:Nat):Int) + 1)))),(14,.v (.int .i64 ((k2:Nat):Int))),(51,.v (.int .i64 (((qaz l).toNat:Nat):Int))),(52,.v (.int .i64 ((k2:Nat):Int))),(55,.v (.slice A l.length c)),(56,.v (.int .i64 ((l.length:Nat):Int))),(57,.v (.int .i64 ((q:Nat):Int)))] ca gW fun nQ gX=>?_
     refine qaf ?_
     refine qaq ?_
     refine qab ?_
     refine qat [0,1] kz ?_
     refine qaj [0,1] [] [(0,.v (.slice A l.length c)),(1,.v (.int .i64 v)),(2,.v (.bool flex)),(7,.p 0 0),(9,.v (.slice A_ ((qaP W l v (Tree.mk n1 s2 b3 l4 u5) 0).length) c_)),(10,.v (.slice aI ((qaI W l (Tree.mk n1 s2 b3 l4 u5) k2 ++ dm ++ (uv k2) ++ (uv ((W (Fld.mk ab ac ae af aa ag ah ai) (Tree.at_ (Tree.mk n1 s2 b3 l4 u5) q)).length)) ++ (W (Fld.mk ab ac ae af aa ag ah ai) (Tree.at_ (Tree.mk n1 s2 b3 l4 u5) q))).length) aJ)),(11,.v (.int .i64 (IntKind.i64.wrap (((qaS W l (Tree.mk n1 s2 b3 l4 u5) k2 + cn:Nat):Int) + 1)))),(14,.v (.int .i64 ((k2:Nat):Int))),(51,.v (.int .i64 (((qaz l).toNat:Nat):Int))),(52,.v (.int .i64 ((k2:Nat):Int))),(55,.v (.slice A l.length c)),(56,.v (.int .i64 ((l.length:Nat):Int))),(57,.v (.int .i64 (IntKind.i64.wrap (((q:Nat):Int) + 1))))] ca gX fun nR gY=>?_
     refine qaf (qab ?_)
     obtain ⟨cb,gZ,g9⟩:=ca.cutB gY 1 [⟨cD,0,[.int .i64 n1,.slice A6 s2.length c7,.bool b3,.slice A8 l4.length c9,.slice aU u5.length aV],true⟩] [(0,.v (.slice A l.length c)),(1,.v (.int .i64 v)),(2,.v (.bool flex)),(7,.p 0 0),(9,.v (.slice A_ ((qaP W l v (Tree.mk n1 s2 b3 l4 u5) 0).length) c_)),(10,.v (.slice aI ((qaI W l (Tree.mk n1 s2 b3 l4 u5) k2 ++ dm ++ (uv k2) ++ (uv ((W (Fld.mk ab ac ae af aa ag ah ai) (Tree.at_ (Tree.mk n1 s2 b3 l4 u5) q)).length)) ++ (W (Fld.mk ab ac ae af aa ag ah ai) (Tree.at_ (Tree.mk n1 s2 b3 l4 u5) q))).length) aJ)),(11,.v (.int .i64 (IntKind.i64.wrap (((qaS W l (Tree.mk n1 s2 b3 l4 u5) k2 + cn:Nat):Int) + 1)))),(14,.v (.int .i64 ((k2:Nat):Int))),(51,.v (.int .i64 (((qaz l).toNat:Nat):Int))),(52,.v (.int .i64 ((k2:Nat):Int))),(55,.v (.slice A l.length c)),(56,.v (.int .i64 ((l.length:Nat):Int))),(57,.v (.int .i64 (IntKind.i64.wrap (((q:Nat):Int) + 1))))]
     obtain ⟨hC,hJ⟩:=gZ.cutR 2 [brow A_ c_ 5 (qaP W l v (Tree.mk n1 s2 b3 l4 u5) 0),brow aI aJ 5 (qaI W l (Tree.mk n1 s2 b3 l4 u5) k2 ++ dm ++ (uv k2) ++ (uv ((W (Fld.mk ab ac ae af aa ag ah ai) (Tree.at_ (Tree.mk n1 s2 b3 l4 u5) q)).length)) ++ (W (Fld.mk ab ac ae af aa ag ah ai) (Tree.at_ (Tree.mk n1 s2 b3 l4 u5) q)))]
     have dX:(qaI W l (Tree.mk n1 s2 b3 l4 u5) k2 ++ dm ++ (uv k2) ++ (uv ((W (Fld.mk ab ac ae af aa ag ah ai) (Tree.at_ (Tree.mk n1 s2 b3 l4 u5) q)).length)) ++ (W (Fld.mk ab ac ae af aa ag ah ai) (Tree.at_ (Tree.mk n1 s2 b3 l4 u5) q))) = (qaI W l (Tree.mk n1 s2 b3 l4 u5) k2 ++ (dm ++ (uv k2 ++ uv (W (Fld.mk ab ac ae af aa ag ah ai) (Tree.at_ (Tree.mk n1 s2 b3 l4 u5) q)).length ++ W (Fld.mk ab ac ae af aa ag ah ai) (Tree.at_ (Tree.mk n1 s2 b3 l4 u5) q)))):=by simp only [List.append_assoc]
     have hK:=congrArg (brow aI aJ 5) dX
     obtain ⟨hZ,ia⟩:=hC.rowEq 1 [brow A_ c_ 5 (qaP W l v (Tree.mk n1 s2 b3 l4 u5) 0),brow aI aJ 5 (qaI W l (Tree.mk n1 s2 b3 l4 u5) k2 ++ (dm ++ (uv k2 ++ uv (W (Fld.mk ab ac ae af aa ag ah ai) (Tree.at_ (Tree.mk n1 s2 b3 l4 u5) q)).length ++ W (Fld.mk ab ac ae af aa ag ah ai) (Tree.at_ (Tree.mk n1 s2 b3 l4 u5) q))))] hK
     rw [dX] at cb
     have ib:IntKind.i64.wrap (((q:Nat):Int) + 1) = ((q + 1:Nat):Int):=qaN (by omega)
     rw [ib] at cb
     have ic:IntKind.i64.wrap (((qaS W l (Tree.mk n1 s2 b3 l4 u5) k2 + cn:Nat):Int) + 1) = ((qaS W l (Tree.mk n1 s2 b3 l4 u5) k2 + (cn + 1):Nat):Int):=by rw [wrap_i64 (by omega) (by omega)]; omega
     rw [ic] at cb
     exact ⟨l.length - (q + 1),by omega,q + 1,aI,aJ,(dm ++ (uv k2 ++ uv (W (Fld.mk ab ac ae af aa ag ah ai) (Tree.at_ (Tree.mk n1 s2 b3 l4 u5) q)).length ++ W (Fld.mk ab ac ae af aa ag ah ai) (Tree.at_ (Tree.mk n1 s2 b3 l4 u5) q))),(cn + 1),rfl,by omega,by rw [List.append_assoc,← qdo ap (by omega) (by simpa using ay)]; exact hB2,by rw [Nat.add_assoc,← qjx ap (by omega) (by simpa using ay)]; exact hN2,cb.pk,hZ,(((((((((((((((((((bU.trans cT).trans cU).trans cV).trans bW).trans cZ).trans fY).trans db).trans dV).trans gn).trans gp).trans gw).trans gG).trans gH).trans gL).trans gP).trans gT).trans g9).trans hJ).trans ia)⟩
    refine wp_skip ?_
    refine qaq ?_
    refine qab ?_
    refine qat [0,1] kz ?_
    refine qaj [0,1] [] [(0,.v (.slice A l.length c)),(1,.v (.int .i64 v)),(2,.v (.bool flex)),(7,.p 0 0),(9,.v (.slice A_ ((qaP W l v (Tree.mk n1 s2 b3 l4 u5) 0).length) c_)),(10,.v (.slice A3_ ((qaI W l (Tree.mk n1 s2 b3 l4 u5) k2 ++ dm).length) c3_)),(11,.v (.int .i64 ((qaS W l (Tree.mk n1 s2 b3 l4 u5) k2 + cn:Nat):Int))),(14,.v (.int .i64 ((k2:Nat):Int))),(51,.v (.int .i64 (((qaz l).toNat:Nat):Int))),(52,.v (.int .i64 ((k2:Nat):Int))),(55,.v (.slice A l.length c)),(56,.v (.int .i64 ((l.length:Nat):Int))),(57,.v (.int .i64 (IntKind.i64.wrap (((q:Nat):Int) + 1))))] bX c5 fun nS ig=>?_
    refine qaf (qab ?_)
    obtain ⟨dY,ii,ij⟩:=bX.cutB ig 1 [⟨cD,0,[.int .i64 n1,.slice A6 s2.length c7,.bool b3,.slice A8 l4.length c9,.slice aU u5.length aV],true⟩] [(0,.v (.slice A l.length c)),(1,.v (.int .i64 v)),(2,.v (.bool flex)),(7,.p 0 0),(9,.v (.slice A_ ((qaP W l v (Tree.mk n1 s2 b3 l4 u5) 0).length) c_)),(10,.v (.slice A3_ ((qaI W l (Tree.mk n1 s2 b3 l4 u5) k2 ++ dm).length) c3_)),(11,.v (.int .i64 ((qaS W l (Tree.mk n1 s2 b3 l4 u5) k2 + cn:Nat):Int))),(14,.v (.int .i64 ((k2:Nat):Int))),(51,.v (.int .i64 (((qaz l).toNat:Nat):Int))),(52,.v (.int .i64 ((k2:Nat):Int))),(55,.v (.slice A l.length c)),(56,.v (.int .i64 ((l.length:Nat):Int))),(57,.v (.int .i64 (IntKind.i64.wrap (((q:Nat):Int) + 1))))]
    have ik:IntKind.i64.wrap (((q:Nat):Int) + 1) = ((q + 1:Nat):Int):=qaN (by omega)
    rw [ik] at dY
    exact ⟨l.length - (q + 1),by omega,q + 1,A3_,c3_,dm,cn,rfl,by omega,by rw [← qip ap (by simpa using ay)]; exact hB2,by rw [← qir ap (by simpa using ay)]; exact hN2,dY.pk,ii,((((((bU.trans cT).trans cU).trans cV).trans bW).trans cZ).trans ij)⟩
   have lG:aa ≠ ((k2:Nat):Int):=by simpa using bq
   have il:=dS.cast (env':=[(0,.v (.slice A l.length c)),(1,.v (.int .i64 v)),(2,.v (.bool flex)),(7,.p 0 0),(9,.v (.slice A_ ((qaP W l v (Tree.mk n1 s2 b3 l4 u5) 0).length) c_)),(10,.v (.slice A3_ ((qaI W l (Tree.mk n1 s2 b3 l4 u5) k2 ++ dm).length) c3_)),(11,.v (.int .i64 ((qaS W l (Tree.mk n1 s2 b3 l4 u5) k2 + cn:Nat):Int))),(14,.v (.int .i64 ((k2:Nat):Int))),(15,.v (.int .i64 ((q:Nat):Int))),(16,.p 1 0),(51,.v (.int .i64 (((qaz l).toNat:Nat):Int))),(52,.v (.int .i64 ((k2:Nat):Int))),(55,.v (.slice A l.length c)),(56,.v (.int .i64 ((l.length:Nat):Int))),(57,.v (.int .i64 ((q:Nat):Int))),(66,.v (.bool false))]) (by rw [bq])
   refine qaD [5,6,7,8,9,10,11] [(0,.v (.slice A l.length c)),(1,.v (.int .i64 v)),(2,.v (.bool flex)),(7,.p 0 0),(9,.v (.slice A_ ((qaP W l v (Tree.mk n1 s2 b3 l4 u5) 0).length) c_)),(10,.v (.slice A3_ ((qaI W l (Tree.mk n1 s2 b3 l4 u5) k2 ++ dm).length) c3_)),(11,.v (.int .i64 ((qaS W l (Tree.mk n1 s2 b3 l4 u5) k2 + cn:Nat):Int))),(14,.v (.int .i64 ((k2:Nat):Int))),(15,.v (.int .i64 ((q:Nat):Int))),(16,.p 1 0),(51,.v (.int .i64 (((qaz l).toNat:Nat):Int))),(52,.v (.int .i64 ((k2:Nat):Int))),(55,.v (.slice A l.length c)),(56,.v (.int .i64 ((l.length:Nat):Int))),(57,.v (.int .i64 ((q:Nat):Int))),(73,.v (.bool false))] 0 (qaa (qac (qaa (qaa (qac (qac (qaa (qaa (qac (qaa qad)))))))))) (fun _ h=>h.cells) cW il fun nT dZ=>?_
   refine qaF kz ?_ _
   refine qab ?_
   refine qap dZ (b:=false) kz rfl ?_
   refine wp_skip ?_
   refine qaq ?_
   refine qab ?_
   refine qat [0,1] kz ?_
   refine qaj [0,1] [] [(0,.v (.slice A l.length c)),(1,.v (.int .i64 v)),(2,.v (.bool flex)),(7,.p 0 0),(9,.v (.slice A_ ((qaP W l v (Tree.mk n1 s2 b3 l4 u5) 0).length) c_)),(10,.v (.slice A3_ ((qaI W l (Tree.mk n1 s2 b3 l4 u5) k2 ++ dm).length) c3_)),(11,.v (.int .i64 ((qaS W l (Tree.mk n1 s2 b3 l4 u5) k2 + cn:Nat):Int))),(14,.v (.int .i64 ((k2:Nat):Int))),(51,.v (.int .i64 (((qaz l).toNat:Nat):Int))),(52,.v (.int .i64 ((k2:Nat):Int))),(55,.v (.slice A l.length c)),(56,.v (.int .i64 ((l.length:Nat):Int))),(57,.v (.int .i64 (IntKind.i64.wrap (((q:Nat):Int) + 1))))] aN dZ fun nU im=>?_
   refine qaf (qab ?_)
   obtain ⟨d5,io,ip⟩:=aN.cutB im 1 [⟨cD,0,[.int .i64 n1,.slice A6 s2.length c7,.bool b3,.slice A8 l4.length c9,.slice aU u5.length aV],true⟩] [(0,.v (.slice A l.length c)),(1,.v (.int .i64 v)),(2,.v (.bool flex)),(7,.p 0 0),(9,.v (.slice A_ ((qaP W l v (Tree.mk n1 s2 b3 l4 u5) 0).length) c_)),(10,.v (.slice A3_ ((qaI W l (Tree.mk n1 s2 b3 l4 u5) k2 ++ dm).length) c3_)),(11,.v (.int .i64 ((qaS W l (Tree.mk n1 s2 b3 l4 u5) k2 + cn:Nat):Int))),(14,.v (.int .i64 ((k2:Nat):Int))),(51,.v (.int .i64 (((qaz l).toNat:Nat):Int))),(52,.v (.int .i64 ((k2:Nat):Int))),(55,.v (.slice A l.length c)),(56,.v (.int .i64 ((l.length:Nat):Int))),(57,.v (.int .i64 (IntKind.i64.wrap (((q:Nat):Int) + 1))))]
   have iq:IntKind.i64.wrap (((q:Nat):Int) + 1) = ((q + 1:Nat):Int):=qaN (by omega)
   rw [iq] at d5
   exact ⟨l.length - (q + 1),by omega,q + 1,A3_,c3_,dm,cn,rfl,by omega,by rw [← qio ap (by omega)]; exact hB2,by rw [← qiq ap (by omega)]; exact hN2,d5.pk,io,((((bU.trans cT).trans cU).trans cV).trans ip)⟩
  have lH:=of_decide_eq_false cQ
  refine wp_exit ?_
  refine qaB ?_
  refine qaB ?_
  refine qaL ?_
  refine qaq ?_
  refine qab ?_
  refine qat [0,1] kz ?_
  refine qaj [0,1] [] [(0,.v (.slice A l.length c)),(1,.v (.int .i64 v)),(2,.v (.bool flex)),(7,.p 0 0),(9,.v (.slice A_ ((qaP W l v (Tree.mk n1 s2 b3 l4 u5) 0).length) c_)),(10,.v (.slice A3_ ((qaI W l (Tree.mk n1 s2 b3 l4 u5) k2 ++ dm).length) c3_)),(11,.v (.int .i64 ((qaS W l (Tree.mk n1 s2 b3 l4 u5) k2 + cn:Nat):Int))),(51,.v (.int .i64 (((qaz l).toNat:Nat):Int))),(52,.v (.int .i64 (IntKind.i64.wrap (((k2:Nat):Int) + 1))))] aY cP fun nV cc=>?_
  refine qaf (qab ?_)
  have d6:(qaI W l (Tree.mk n1 s2 b3 l4 u5) k2 ++ dm) = (qaI W l (Tree.mk n1 s2 b3 l4 u5) (k2 + 1)):=by rw [qaI,← hB2,qjw (by omega),List.append_nil]
  have ir:=congrArg (brow A3_ c3_ 5) d6
  obtain ⟨iu,iv⟩:=aY.rowEq 1 [brow A_ c_ 5 (qaP W l v (Tree.mk n1 s2 b3 l4 u5) 0),brow A3_ c3_ 5 (qaI W l (Tree.mk n1 s2 b3 l4 u5) (k2 + 1))] ir
  rw [d6] at cc
  have iw:IntKind.i64.wrap (((k2:Nat):Int) + 1) = ((k2 + 1:Nat):Int):=qaN (by omega)
  rw [iw] at cc
  have ix:((qaS W l (Tree.mk n1 s2 b3 l4 u5) k2 + cn:Nat):Int) = ((qaS W l (Tree.mk n1 s2 b3 l4 u5) (k2 + 1):Nat):Int):=by rw [qaS,← hN2,qjy (by omega),Nat.add_zero]
  rw [ix] at cc
  exact ⟨(qaz l).toNat - (k2 + 1),by omega,k2 + 1,A3_,c3_,rfl,by omega,cc.pk,iu,(((fF.trans fI).trans bU).trans iv)⟩
 have lI:=of_decide_eq_false cO
 refine wp_exit ?_
 refine qaB ?_
 refine qaB ?_
 refine qaL ?_
 refine qab ?_
 refine wp_seq ?_
 refine qag [0,1,2,3,4,5] kz ?_
 refine qaj [0,1,2] [3,4,5] [(9,.v (.slice A_ ((qaP W l v (Tree.mk n1 s2 b3 l4 u5) 0).length) c_)),(10,.v (.slice A2_ ((qaI W l (Tree.mk n1 s2 b3 l4 u5) k2).length) c2_)),(11,.v (.int .i64 ((qaS W l (Tree.mk n1 s2 b3 l4 u5) k2:Nat):Int))),(97,.v (.slice A l.length c)),(99,.v (.slice aU u5.length aV))] ao cN fun nW iy=>?_
 refine qam (qal iy (f:=25) (vs:=[.slice A l.length c,.slice aU u5.length aV]) (d:=100) kz Tryd.call25 (qfw _ _ l _ _ u5 _ _ ⟨xfs,(h1.move ao.step nilM ao.imm),(fun i_ x_ h_=>((h2 i_ x_ h_).move ao.step nilM ao.imm))⟩ (l0.move ao.step nilM ao.imm)) ?_)
 rintro e_ nX ⟨al,am,rfl,iz,df⟩
 have iA:=iz.move (Step.refl _ Nil) nilM (ao.laid (G:=F) df)
 refine ⟨_,rfl,fun nY iB=>?_⟩
 have d7:=ao.next_nil df
 have lJ:=ao.frN df
 refine qaj [4,5] [] [(9,.v (.slice A_ ((qaP W l v (Tree.mk n1 s2 b3 l4 u5) 0).length) c_)),(10,.v (.slice A2_ ((qaI W l (Tree.mk n1 s2 b3 l4 u5) k2).length) c2_)),(11,.v (.int .i64 ((qaS W l (Tree.mk n1 s2 b3 l4 u5) k2:Nat):Int))),(100,.v (.slice al ((qai l u5).length) am)),(101,.v (.int .i64 (((qai l u5).length:Nat):Int))),(102,.v (.int .i64 0))] d7 iB fun nZ d8=>?_
 refine qaf (qab ?_)
 refine wp_block ?_
 obtain ⟨lK,iC,kZ⟩:=iA.ex
 have k5:=iC.small
 have hkk2:k2 = (qaz l).toNat:=by omega
 have hc2:=hcnt k2
 have hm2:=hmono k2 (by omega)
 have d9:(qaI W l (Tree.mk n1 s2 b3 l4 u5) k2) = (qaI W l (Tree.mk n1 s2 b3 l4 u5) k2 ++ qa0 ((qai l u5).take 0)):=(List.append_nil _).symm
 have iD:=congrArg (brow A2_ c2_ 5) d9
 obtain ⟨ea,aM⟩:=d7.rowEq 1 [brow A_ c_ 5 (qaP W l v (Tree.mk n1 s2 b3 l4 u5) 0),brow A2_ c2_ 5 (qaI W l (Tree.mk n1 s2 b3 l4 u5) k2 ++ qa0 ((qai l u5).take 0))] iD
 rw [d9] at d8
 refine wp_loop_ghost (fun n_ a_ w_=>∃ (k:Nat) (A4_:Option Addr) (c4_:Nat),n_ = (qai l u5).length - k ∧ k ≤ (qai l u5).length ∧ LInv ea 132 [⟨cD,0,[.int .i64 n1,.slice A6 s2.length c7,.bool b3,.slice A8 l4.length c9,.slice aU u5.length aV],true⟩] [brow A_ c_ 5 (qaP W l v (Tree.mk n1 s2 b3 l4 u5) 0),brow A4_ c4_ 5 (qaI W l (Tree.mk n1 s2 b3 l4 u5) k2 ++ qa0 ((qai l u5).take k))] [(9,.v (.slice A_ ((qaP W l v (Tree.mk n1 s2 b3 l4 u5) 0).length) c_)),(10,.v (.slice A4_ ((qaI W l (Tree.mk n1 s2 b3 l4 u5) k2 ++ qa0 ((qai l u5).take k)).length) c4_)),(11,.v (.int .i64 ((qaS W l (Tree.mk n1 s2 b3 l4 u5) k2 + k:Nat):Int))),(100,.v (.slice al ((qai l u5).length) am)),(101,.v (.int .i64 (((qai l u5).length:Nat):Int))),(102,.v (.int .i64 ((k:Nat):Int)))] a_ w_) ((qai l u5).length) ⟨0,A2_,c2_,by omega,by omega,d8.pk,ea,Fr.refl _ _ _⟩ ?_
 rintro n0 n4 n5 ⟨k,A4_,c4_,lL,lM,iE,cd,aH⟩
 refine qar [(9,.v (.slice A_ ((qaP W l v (Tree.mk n1 s2 b3 l4 u5) 0).length) c_)),(10,.v (.slice A4_ ((qaI W l (Tree.mk n1 s2 b3 l4 u5) k2 ++ qa0 ((qai l u5).take k)).length) c4_)),(11,.v (.int .i64 ((qaS W l (Tree.mk n1 s2 b3 l4 u5) k2 + k:Nat):Int))),(100,.v (.slice al ((qai l u5).length) am)),(101,.v (.int .i64 (((qai l u5).length:Nat):Int))),(102,.v (.int .i64 ((k:Nat):Int))),(103,.v (.bool (decide (((k:Nat):Int) < (((qai l u5).length:Nat):Int)))))] cd iE fun n8 dg=>?_
 refine wp_seq ?_
 refine qay dg (b:=decide (((k:Nat):Int) < (((qai l u5).length:Nat):Int))) kz (fun dh=>?_) (fun dh=>?_)
 ·
  have lN:=of_decide_eq_true dh
  refine wp_skip ?_
  refine qab ?_
  refine wp_seq ?_
  refine wp_block ?_
  refine qag [0,1,2,3] kz ?_
  obtain ⟨k6,k7,iF,lO,di⟩:=Slots.get iC (i:=k) (by omega)
  obtain ⟨⟨ak,aj⟩,bz⟩:∃ x,(qai l u5)[k]? = some x:=⟨_,List.getElem?_eq_getElem (by omega)⟩
  obtain ⟨⟨ar,au,eF,dj⟩,oa,od⟩:=kZ k ak aj bz
  rw [eF] at di
  refine qam (qaC dg (t:=24) (A:=al) (m:=((qai l u5).length)) (q:=((k:Nat):Int)) (d:=104) kz (e:=65) (size:=2) (bytes:=32) kz iF rfl (by omega) fun oe iG=>?_)
  refine qam (qaM iG (t:=65) (b:=k6) (o:=k7 + k * 2) (d:=105) kz (cs:=[.int .u32 ak,.slice ar aj.length au]) (v:=.agg #[.int .u32 ak,.slice ar aj.length au]) kz (AtF.move di (aM.trans aH).step immM (aM.trans aH).to').at_ fun og iH=>?_)
  refine qam (qaR cd iH (d:=19) (cs:=[.int .u32 0,.slice none 0 0]) kz fun oh ol om lP lQ aQ iI iJ=>?_)
  refine qam (qav iI iJ (oi:=1) (cs:=[.int .u32 ak,.slice ar aj.length au]) kz fun oq aR dl iK=>?_)
  refine qaf (qab ?_)
  refine qag [0,1,2,3] kz ?_
  refine qaj [0,1] [2,3] [(9,.v (.slice A_ ((qaP W l v (Tree.mk n1 s2 b3 l4 u5) 0).length) c_)),(10,.v (.slice A4_ ((qaI W l (Tree.mk n1 s2 b3 l4 u5) k2 ++ qa0 ((qai l u5).take k)).length) c4_)),(11,.v (.int .i64 ((qaS W l (Tree.mk n1 s2 b3 l4 u5) k2 + k:Nat):Int))),(19,.p 1 0),(100,.v (.slice al ((qai l u5).length) am)),(101,.v (.int .i64 (((qai l u5).length:Nat):Int))),(102,.v (.int .i64 ((k:Nat):Int))),(107,.v (.slice ar aj.length au))] dl iK fun ot iL=>?_
  have k8:=qa8 aj
  refine qam (qal iL (f:=27) (vs:=[.slice ar aj.length au]) (d:=108) kz Tryd.call27 (qc6 _ _ aj (dj.move (((aM.trans aH).trans aQ).trans aR).step immM (((aM.trans aH).trans aQ).trans aR).to').le _) ?_)
  rintro e_ ou ⟨rfl,eb⟩
  refine ⟨_,rfl,fun ov iM=>?_⟩
  have dp:=dl.next_nil eb
  have bA:=dl.frN eb
  refine qaj [3] [] [(9,.v (.slice A_ ((qaP W l v (Tree.mk n1 s2 b3 l4 u5) 0).length) c_)),(10,.v (.slice A4_ ((qaI W l (Tree.mk n1 s2 b3 l4 u5) k2 ++ qa0 ((qai l u5).take k)).length) c4_)),(11,.v (.int .i64 ((qaS W l (Tree.mk n1 s2 b3 l4 u5) k2 + k:Nat):Int))),(19,.p 1 0),(20,.v (.slice ar ((qaE aj).length) au)),(100,.v (.slice al ((qai l u5).length) am)),(101,.v (.int .i64 (((qai l u5).length:Nat):Int))),(102,.v (.int .i64 ((k:Nat):Int)))] dp iM fun ow iN=>?_
  refine qaf (qab ?_)
  refine qag [0,1,2,3,4,5,6,7,8,9,10,11,12,13] kz ?_
  refine qaj [0,1,2,3] [4,5,6,7,8,9,10,11,12,13] [(9,.v (.slice A_ ((qaP W l v (Tree.mk n1 s2 b3 l4 u5) 0).length) c_)),(11,.v (.int .i64 ((qaS W l (Tree.mk n1 s2 b3 l4 u5) k2 + k:Nat):Int))),(20,.v (.slice ar ((qaE aj).length) au)),(100,.v (.slice al ((qai l u5).length) am)),(101,.v (.int .i64 (((qai l u5).length:Nat):Int))),(102,.v (.int .i64 ((k:Nat):Int))),(109,.v (.slice A4_ ((qaI W l (Tree.mk n1 s2 b3 l4 u5) k2 ++ qa0 ((qai l u5).take k)).length) c4_)),(112,.v (.int .u64 (IntKind.u64.wrap ak)))] dp iN fun ox iO=>?_
  have iP:IntKind.u64.wrap ak = ((ak.toNat:Nat):Int):=by simp only [qaK,qaA,qcc,IntKind.wrap_i64,IntKind.wrap_i32]; omega
  have iQ:=EnvOk.pick iO (ks:=[9,11,20,100,101,102,109,112]) (env':=[(9,.v (.slice A_ ((qaP W l v (Tree.mk n1 s2 b3 l4 u5) 0).length) c_)),(11,.v (.int .i64 ((qaS W l (Tree.mk n1 s2 b3 l4 u5) k2 + k:Nat):Int))),(20,.v (.slice ar ((qaE aj).length) au)),(100,.v (.slice al ((qai l u5).length) am)),(101,.v (.int .i64 (((qai l u5).length:Nat):Int))),(102,.v (.int .i64 ((k:Nat):Int))),(109,.v (.slice A4_ ((qaI W l (Tree.mk n1 s2 b3 l4 u5) k2 ++ qa0 ((qai l u5).take k)).length) c4_)),(112,.v (.int .u64 (IntKind.u64.wrap ak)))]) kz
  have iR:=iQ.cast (env':=[(9,.v (.slice A_ ((qaP W l v (Tree.mk n1 s2 b3 l4 u5) 0).length) c_)),(11,.v (.int .i64 ((qaS W l (Tree.mk n1 s2 b3 l4 u5) k2 + k:Nat):Int))),(20,.v (.slice ar ((qaE aj).length) au)),(100,.v (.slice al ((qai l u5).length) am)),(101,.v (.int .i64 (((qai l u5).length:Nat):Int))),(102,.v (.int .i64 ((k:Nat):Int))),(109,.v (.slice A4_ ((qaI W l (Tree.mk n1 s2 b3 l4 u5) k2 ++ qa0 ((qai l u5).take k)).length) c4_)),(112,.v (.int .u64 ((ak.toNat:Nat):Int)))]) (by rw [iP])
  refine qam (qal iR (f:=37) (vs:=[.int .u64 ((ak.toNat:Nat):Int)]) (d:=113) kz Tryd.call37 (qdt ak.toNat (by omega) _) ?_)
  rintro e_ oy ⟨bK,bL,rfl,iS,iT⟩
  refine ⟨_,rfl,fun oz iU=>?_⟩
  obtain ⟨dq,bB⟩:=dp.frFresh iT (brow bK bL 5 (uv ak.toNat)) (Nat.le_refl _) iS
  refine qam (qaO dq iU (k:=1) (d:=114) (t:=22) (e:=5) (size:=1) (bytes:=1) (A:=A4_) (As:=bK) (m0:=((qaI W l (Tree.mk n1 s2 b3 l4 u5) k2 ++ qa0 ((qai l u5).take k)).length)) (c:=c4_) (m:=((uv ak.toNat).length)) (cs:=bL) (xs:=(bc (qaI W l (Tree.mk n1 s2 b3 l4 u5) k2 ++ qa0 ((qai l u5).take k)))) (news:=bc (uv ak.toNat)) kz kz rfl (qbo (dq.own 2 _ rfl) (qcH _)) (qbA (dq.own 2 _ rfl)) (by have h_:=qfp (l:=(qai l u5)) (k + 1); rw [qdp bz] at h_; simp only [List.length_append] at h_ ⊢; omega) fun aS aT oA oB bC iV iW=>?_)
  have iX:(⟨aS,aT,5,1,(qaI W l (Tree.mk n1 s2 b3 l4 u5) k2 ++ qa0 ((qai l u5).take k)).length + (uv ak.toNat).length,bc (qaI W l (Tree.mk n1 s2 b3 l4 u5) k2 ++ qa0 ((qai l u5).take k)) ++ bc (uv ak.toNat)⟩:Rw) = brow aS aT 5 (qaI W l (Tree.mk n1 s2 b3 l4 u5) k2 ++ qa0 ((qai l u5).take k) ++ (uv ak.toNat)):=qbz (rfl) rfl
  obtain ⟨ec,bD⟩:=iV.rowEq 1 [brow A_ c_ 5 (qaP W l v (Tree.mk n1 s2 b3 l4 u5) 0),brow aS aT 5 (qaI W l (Tree.mk n1 s2 b3 l4 u5) k2 ++ qa0 ((qai l u5).take k) ++ (uv ak.toNat)),brow bK bL 5 (uv ak.toNat)] iX
  have iY:=EnvOk.pick iW (ks:=[9,11,20,100,101,102,109,112,113,114]) (env':=[(9,.v (.slice A_ ((qaP W l v (Tree.mk n1 s2 b3 l4 u5) 0).length) c_)),(11,.v (.int .i64 ((qaS W l (Tree.mk n1 s2 b3 l4 u5) k2 + k:Nat):Int))),(20,.v (.slice ar ((qaE aj).length) au)),(100,.v (.slice al ((qai l u5).length) am)),(101,.v (.int .i64 (((qai l u5).length:Nat):Int))),(102,.v (.int .i64 ((k:Nat):Int))),(109,.v (.slice A4_ ((qaI W l (Tree.mk n1 s2 b3 l4 u5) k2 ++ qa0 ((qai l u5).take k)).length) c4_)),(112,.v (.int .u64 ((ak.toNat:Nat):Int))),(113,.v (.slice bK ((uv ak.toNat).length) bL)),(114,.v (.slice aS ((qaI W l (Tree.mk n1 s2 b3 l4 u5) k2 ++ qa0 ((qai l u5).take k)).length + (uv ak.toNat).length) aT))]) kz
  have iZ:=iY.cast (env':=[(9,.v (.slice A_ ((qaP W l v (Tree.mk n1 s2 b3 l4 u5) 0).length) c_)),(11,.v (.int .i64 ((qaS W l (Tree.mk n1 s2 b3 l4 u5) k2 + k:Nat):Int))),(20,.v (.slice ar ((qaE aj).length) au)),(100,.v (.slice al ((qai l u5).length) am)),(101,.v (.int .i64 (((qai l u5).length:Nat):Int))),(102,.v (.int .i64 ((k:Nat):Int))),(109,.v (.slice A4_ ((qaI W l (Tree.mk n1 s2 b3 l4 u5) k2 ++ qa0 ((qai l u5).take k)).length) c4_)),(112,.v (.int .u64 ((ak.toNat:Nat):Int))),(113,.v (.slice bK ((uv ak.toNat).length) bL)),(114,.v (.slice aS ((qaI W l (Tree.mk n1 s2 b3 l4 u5) k2 ++ qa0 ((qai l u5).take k) ++ (uv ak.toNat)).length) aT))]) (by simp only [List.length_append,List.length_cons,List.length_nil,Nat.zero_add])
  refine qaj [6,7,8] [9,10,11,12,13] [(9,.v (.slice A_ ((qaP W l v (Tree.mk n1 s2 b3 l4 u5) 0).length) c_)),(11,.v (.int .i64 ((qaS W l (Tree.mk n1 s2 b3 l4 u5) k2 + k:Nat):Int))),(20,.v (.slice ar ((qaE aj).length) au)),(100,.v (.slice al ((qai l u5).length) am)),(101,.v (.int .i64 (((qai l u5).length:Nat):Int))),(102,.v (.int .i64 ((k:Nat):Int))),(114,.v (.slice aS ((qaI W l (Tree.mk n1 s2 b3 l4 u5) k2 ++ qa0 ((qai l u5).take k) ++ (uv ak.toNat)).length) aT)),(117,.v (.int .u64 (IntKind.u64.wrap (((qaE aj).length:Nat):Int))))] ec iZ fun oC i6=>?_
  have i7:IntKind.u64.wrap (((qaE aj).length:Nat):Int) = (((qaE aj).length:Nat):Int):=by simp only [qaK,qaA,qcc,IntKind.wrap_i64,IntKind.wrap_i32]; omega
  have ja:=EnvOk.pick i6 (ks:=[9,11,20,100,101,102,114,117]) (env':=[(9,.v (.slice A_ ((qaP W l v (Tree.mk n1 s2 b3 l4 u5) 0).length) c_)),(11,.v (.int .i64 ((qaS W l (Tree.mk n1 s2 b3 l4 u5) k2 + k:Nat):Int))),(20,.v (.slice ar ((qaE aj).length) au)),(100,.v (.slice al ((qai l u5).length) am)),(101,.v (.int .i64 (((qai l u5).length:Nat):Int))),(102,.v (.int .i64 ((k:Nat):Int))),(114,.v (.slice aS ((qaI W l (Tree.mk n1 s2 b3 l4 u5) k2 ++ qa0 ((qai l u5).take k) ++ (uv ak.toNat)).length) aT)),(117,.v (.int .u64 (IntKind.u64.wrap (((qaE aj).length:Nat):Int))))]) kz
  have jb:=ja.cast (env':=[(9,.v (.slice A_ ((qaP W l v (Tree.mk n1 s2 b3 l4 u5) 0).length) c_)),(11,.v (.int .i64 ((qaS W l (Tree.mk n1 s2 b3 l4 u5) k2 + k:Nat):Int))),(20,.v (.slice ar ((qaE aj).length) au)),(100,.v (.slice al ((qai l u5).length) am)),(101,.v (.int .i64 (((qai l u5).length:Nat):Int))),(102,.v (.int .i64 ((k:Nat):Int))),(114,.v (.slice aS ((qaI W l (Tree.mk n1 s2 b3 l4 u5) k2 ++ qa0 ((qai l u5).take k) ++ (uv ak.toNat)).length) aT)),(117,.v (.int .u64 (((qaE aj).length:Nat):Int)))]) (by rw [i7])
  refine qam (qal jb (f:=37) (vs:=[.int .u64 (((qaE aj).length:Nat):Int)]) (d:=118) kz Tryd.call37 (qdt ((qaE aj).length) (by omega) _) ?_)
  rintro e_ oD ⟨cz,cA,rfl,jc,jd⟩
  refine ⟨_,rfl,fun oE je=>?_⟩
  obtain ⟨dr,bE⟩:=ec.frFresh jd (brow cz cA 5 (uv ((qaE aj).length))) (Nat.le_refl _) jc
  refine qam (qaO dr je (k:=1) (d:=119) (t:=22) (e:=5) (size:=1) (bytes:=1) (A:=aS) (As:=cz) (m0:=((qaI W l (Tree.mk n1 s2 b3 l4 u5) k2 ++ qa0 ((qai l u5).take k) ++ (uv ak.toNat)).length)) (c:=aT) (m:=((uv ((qaE aj).length)).length)) (cs:=cA) (xs:=(bc (qaI W l (Tree.mk n1 s2 b3 l4 u5) k2 ++ qa0 ((qai l u5).take k) ++ (uv ak.toNat)))) (news:=bc (uv ((qaE aj).length))) kz kz rfl (qbo (dr.own 3 _ rfl) (qcH _)) (qbA (dr.own 3 _ rfl)) (by have h_:=qfp (l:=(qai l u5)) (k + 1); rw [qdp bz] at h_; simp only [List.length_append] at h_ ⊢; omega) fun bd bf oF oG bF jf jg=>?_)
  have jh:(⟨bd,bf,5,1,(qaI W l (Tree.mk n1 s2 b3 l4 u5) k2 ++ qa0 ((qai l u5).take k) ++ (uv ak.toNat)).length + (uv ((qaE aj).length)).length,bc (qaI W l (Tree.mk n1 s2 b3 l4 u5) k2 ++ qa0 ((qai l u5).take k) ++ (uv ak.toNat)) ++ bc (uv ((qaE aj).length))⟩:Rw) = brow bd bf 5 (qaI W l (Tree.mk n1 s2 b3 l4 u5) k2 ++ qa0 ((qai l u5).take k) ++ (uv ak.toNat) ++ (uv ((qaE aj).length))):=qbz (rfl) rfl
  obtain ⟨ee,bG⟩:=jf.rowEq 1 [brow A_ c_ 5 (qaP W l v (Tree.mk n1 s2 b3 l4 u5) 0),brow bd bf 5 (qaI W l (Tree.mk n1 s2 b3 l4 u5) k2 ++ qa0 ((qai l u5).take k) ++ (uv ak.toNat) ++ (uv ((qaE aj).length))),brow bK bL 5 (uv ak.toNat),brow cz cA 5 (uv ((qaE aj).length))] jh
  have ji:=EnvOk.pick jg (ks:=[9,11,20,100,101,102,114,117,118,119]) (env':=[(9,.v (.slice A_ ((qaP W l v (Tree.mk n1 s2 b3 l4 u5) 0).length) c_)),(11,.v (.int .i64 ((qaS W l (Tree.mk n1 s2 b3 l4 u5) k2 + k:Nat):Int))),(20,.v (.slice ar ((qaE aj).length) au)),(100,.v (.slice al ((qai l u5).length) am)),(101,.v (.int .i64 (((qai l u5).length:Nat):Int))),(102,.v (.int .i64 ((k:Nat):Int))),(114,.v (.slice aS ((qaI W l (Tree.mk n1 s2 b3 l4 u5) k2 ++ qa0 ((qai l u5).take k) ++ (uv ak.toNat)).length) aT)),(117,.v (.int .u64 (((qaE aj).length:Nat):Int))),(118,.v (.slice cz ((uv ((qaE aj).length)).length) cA)),(119,.v (.slice bd ((qaI W l (Tree.mk n1 s2 b3 l4 u5) k2 ++ qa0 ((qai l u5).take k) ++ (uv ak.toNat)).length + (uv ((qaE aj).length)).length) bf))]) kz
  have jj:=ji.cast (env':=[(9,.v (.slice A_ ((qaP W l v (Tree.mk n1 s2 b3 l4 u5) 0).length) c_)),(11,.v (.int .i64 ((qaS W l (Tree.mk n1 s2 b3 l4 u5) k2 + k:Nat):Int))),(20,.v (.slice ar ((qaE aj).length) au)),(100,.v (.slice al ((qai l u5).length) am)),(101,.v (.int .i64 (((qai l u5).length:Nat):Int))),(102,.v (.int .i64 ((k:Nat):Int))),(114,.v (.slice aS ((qaI W l (Tree.mk n1 s2 b3 l4 u5) k2 ++ qa0 ((qai l u5).take k) ++ (uv ak.toNat)).length) aT)),(117,.v (.int .u64 (((qaE aj).length:Nat):Int))),(118,.v (.slice cz ((uv ((qaE aj).length)).length) cA)),(119,.v (.slice bd ((qaI W l (Tree.mk n1 s2 b3 l4 u5) k2 ++ qa0 ((qai l u5).take k) ++ (uv ak.toNat) ++ (uv ((qaE aj).length))).length) bf))]) (by simp only [List.length_append,List.length_cons,List.length_nil,Nat.zero_add])
  refine qaj [11] [12,13] [(9,.v (.slice A_ ((qaP W l v (Tree.mk n1 s2 b3 l4 u5) 0).length) c_)),(11,.v (.int .i64 ((qaS W l (Tree.mk n1 s2 b3 l4 u5) k2 + k:Nat):Int))),(100,.v (.slice al ((qai l u5).length) am)),(101,.v (.int .i64 (((qai l u5).length:Nat):Int))),(102,.v (.int .i64 ((k:Nat):Int))),(119,.v (.slice bd ((qaI W l (Tree.mk n1 s2 b3 l4 u5) k2 ++ qa0 ((qai l u5).take k) ++ (uv ak.toNat) ++ (uv ((qaE aj).length))).length) bf)),(120,.v (.slice ar ((qaE aj).length) au))] ee jj fun oH jk=>?_
  refine qam (qaO ee jk (k:=1) (d:=121) (t:=22) (e:=5) (size:=1) (bytes:=1) (A:=bd) (As:=ar) (m0:=((qaI W l (Tree.mk n1 s2 b3 l4 u5) k2 ++ qa0 ((qai l u5).take k) ++ (uv ak.toNat) ++ (uv ((qaE aj).length))).length)) (c:=bf) (m:=((qaE aj).length)) (cs:=au) (xs:=(bc (qaI W l (Tree.mk n1 s2 b3 l4 u5) k2 ++ qa0 ((qai l u5).take k) ++ (uv ak.toNat) ++ (uv ((qaE aj).length))))) (news:=bc (qaE aj)) kz kz rfl ((dj.take 32767).move ((((((((((aM.trans aH).trans aQ).trans aR).trans bA).trans bB).trans bC).trans bD).trans bE).trans bF).trans bG).step immM ((((((((((aM.trans aH).trans aQ).trans aR).trans bA).trans bB).trans bC).trans bD).trans bE).trans bF).trans bG).to').src ((dj.take 32767).move ((((((((((aM.trans aH).trans aQ).trans aR).trans bA).trans bB).trans bC).trans bD).trans bE).trans bF).trans bG).step immM ((((((((((aM.trans aH).trans aQ).trans aR).trans bA).trans bB).trans bC).trans bD).trans bE).trans bF).trans bG).to').cap (by have h_:=qfp (l:=(qai l u5)) (k + 1); rw [qdp bz] at h_; simp only [List.length_append] at h_ ⊢; omega) fun aK aL oI oJ jl jm jn=>?_)
  have jo:(⟨aK,aL,5,1,(qaI W l (Tree.mk n1 s2 b3 l4 u5) k2 ++ qa0 ((qai l u5).take k) ++ (uv ak.toNat) ++ (uv ((qaE aj).length))).length + (qaE aj).length,bc (qaI W l (Tree.mk n1 s2 b3 l4 u5) k2 ++ qa0 ((qai l u5).take k) ++ (uv ak.toNat) ++ (uv ((qaE aj).length))) ++ bc (qaE aj)⟩:Rw) = brow aK aL 5 (qaI W l (Tree.mk n1 s2 b3 l4 u5) k2 ++ qa0 ((qai l u5).take k) ++ (uv ak.toNat) ++ (uv ((qaE aj).length)) ++ (qaE aj)):=qbz (rfl) rfl
  obtain ⟨ce,jp⟩:=jm.rowEq 1 [brow A_ c_ 5 (qaP W l v (Tree.mk n1 s2 b3 l4 u5) 0),brow aK aL 5 (qaI W l (Tree.mk n1 s2 b3 l4 u5) k2 ++ qa0 ((qai l u5).take k) ++ (uv ak.toNat) ++ (uv ((qaE aj).length)) ++ (qaE aj)),brow bK bL 5 (uv ak.toNat),brow cz cA 5 (uv ((qaE aj).length))] jo
  have jq:=EnvOk.pick jn (ks:=[9,11,100,101,102,119,120,121]) (env':=[(9,.v (.slice A_ ((qaP W l v (Tree.mk n1 s2 b3 l4 u5) 0).length) c_)),(11,.v (.int .i64 ((qaS W l (Tree.mk n1 s2 b3 l4 u5) k2 + k:Nat):Int))),(100,.v (.slice al ((qai l u5).length) am)),(101,.v (.int .i64 (((qai l u5).length:Nat):Int))),(102,.v (.int .i64 ((k:Nat):Int))),(119,.v (.slice bd ((qaI W l (Tree.mk n1 s2 b3 l4 u5) k2 ++ qa0 ((qai l u5).take k) ++ (uv ak.toNat) ++ (uv ((qaE aj).length))).length) bf)),(120,.v (.slice ar ((qaE aj).length) au)),(121,.v (.slice aK ((qaI W l (Tree.mk n1 s2 b3 l4 u5) k2 ++ qa0 ((qai l u5).take k) ++ (uv ak.toNat) ++ (uv ((qaE aj).length))).length + (qaE aj).length) aL))]) kz
  have jr:=jq.cast (env':=[(9,.v (.slice A_ ((qaP W l v (Tree.mk n1 s2 b3 l4 u5) 0).length) c_)),(11,.v (.int .i64 ((qaS W l (Tree.mk n1 s2 b3 l4 u5) k2 + k:Nat):Int))),(100,.v (.slice al ((qai l u5).length) am)),(101,.v (.int .i64 (((qai l u5).length:Nat):Int))),(102,.v (.int .i64 ((k:Nat):Int))),(119,.v (.slice bd ((qaI W l (Tree.mk n1 s2 b3 l4 u5) k2 ++ qa0 ((qai l u5).take k) ++ (uv ak.toNat) ++ (uv ((qaE aj).length))).length) bf)),(120,.v (.slice ar ((qaE aj).length) au)),(121,.v (.slice aK ((qaI W l (Tree.mk n1 s2 b3 l4 u5) k2 ++ qa0 ((qai l u5).take k) ++ (uv ak.toNat) ++ (uv ((qaE aj).length)) ++ (qaE aj)).length) aL))]) (by simp only [List.length_append,List.length_cons,List.length_nil,Nat.zero_add])
  refine qaj [13] [] [(9,.v (.slice A_ ((qaP W l v (Tree.mk n1 s2 b3 l4 u5) 0).length) c_)),(10,.v (.slice aK ((qaI W l (Tree.mk n1 s2 b3 l4 u5) k2 ++ qa0 ((qai l u5).take k) ++ (uv ak.toNat) ++ (uv ((qaE aj).length)) ++ (qaE aj)).length) aL)),(11,.v (.int .i64 ((qaS W l (Tree.mk n1 s2 b3 l4 u5) k2 + k:Nat):Int))),(100,.v (.slice al ((qai l u5).length) am)),(101,.v (.int .i64 (((qai l u5).length:Nat):Int))),(102,.v (.int .i64 ((k:Nat):Int)))] ce jr fun oK js=>?_
  refine qaf (qab ?_)
  refine qat [0,1,2] kz ?_
  refine qaj [0,1,2] [] [(9,.v (.slice A_ ((qaP W l v (Tree.mk n1 s2 b3 l4 u5) 0).length) c_)),(10,.v (.slice aK ((qaI W l (Tree.mk n1 s2 b3 l4 u5) k2 ++ qa0 ((qai l u5).take k) ++ (uv ak.toNat) ++ (uv ((qaE aj).length)) ++ (qaE aj)).length) aL)),(11,.v (.int .i64 (IntKind.i64.wrap (((qaS W l (Tree.mk n1 s2 b3 l4 u5) k2 + k:Nat):Int) + 1)))),(100,.v (.slice al ((qai l u5).length) am)),(101,.v (.int .i64 (((qai l u5).length:Nat):Int))),(102,.v (.int .i64 ((k:Nat):Int)))] ce js fun oL jt=>?_
  refine qaf ?_
  refine qaq ?_
  refine qab ?_
  refine qat [0,1] kz ?_
  refine qaj [0,1] [] [(9,.v (.slice A_ ((qaP W l v (Tree.mk n1 s2 b3 l4 u5) 0).length) c_)),(10,.v (.slice aK ((qaI W l (Tree.mk n1 s2 b3 l4 u5) k2 ++ qa0 ((qai l u5).take k) ++ (uv ak.toNat) ++ (uv ((qaE aj).length)) ++ (qaE aj)).length) aL)),(11,.v (.int .i64 (IntKind.i64.wrap (((qaS W l (Tree.mk n1 s2 b3 l4 u5) k2 + k:Nat):Int) + 1)))),(100,.v (.slice al ((qai l u5).length) am)),(101,.v (.int .i64 (((qai l u5).length:Nat):Int))),(102,.v (.int .i64 (IntKind.i64.wrap (((k:Nat):Int) + 1))))] ce jt fun oM ju=>?_
  refine qaf (qab ?_)
  obtain ⟨cm,jv,jw⟩:=ce.cutB ju 1 [⟨cD,0,[.int .i64 n1,.slice A6 s2.length c7,.bool b3,.slice A8 l4.length c9,.slice aU u5.length aV],true⟩] [(9,.v (.slice A_ ((qaP W l v (Tree.mk n1 s2 b3 l4 u5) 0).length) c_)),(10,.v (.slice aK ((qaI W l (Tree.mk n1 s2 b3 l4 u5) k2 ++ qa0 ((qai l u5).take k) ++ (uv ak.toNat) ++ (uv ((qaE aj).length)) ++ (qaE aj)).length) aL)),(11,.v (.int .i64 (IntKind.i64.wrap (((qaS W l (Tree.mk n1 s2 b3 l4 u5) k2 + k:Nat):Int) + 1)))),(100,.v (.slice al ((qai l u5).length) am)),(101,.v (.int .i64 (((qai l u5).length:Nat):Int))),(102,.v (.int .i64 (IntKind.i64.wrap (((k:Nat):Int) + 1))))]
  obtain ⟨jx,jy⟩:=jv.cutR 2 [brow A_ c_ 5 (qaP W l v (Tree.mk n1 s2 b3 l4 u5) 0),brow aK aL 5 (qaI W l (Tree.mk n1 s2 b3 l4 u5) k2 ++ qa0 ((qai l u5).take k) ++ (uv ak.toNat) ++ (uv ((qaE aj).length)) ++ (qaE aj))]
  have ef:(qaI W l (Tree.mk n1 s2 b3 l4 u5) k2 ++ qa0 ((qai l u5).take k) ++ (uv ak.toNat) ++ (uv ((qaE aj).length)) ++ (qaE aj)) = (qaI W l (Tree.mk n1 s2 b3 l4 u5) k2 ++ qa0 ((qai l u5).take (k + 1))):=by rw [qdp bz]; simp only [List.append_assoc]
  have jz:=congrArg (brow aK aL 5) ef
  obtain ⟨jA,jB⟩:=jx.rowEq 1 [brow A_ c_ 5 (qaP W l v (Tree.mk n1 s2 b3 l4 u5) 0),brow aK aL 5 (qaI W l (Tree.mk n1 s2 b3 l4 u5) k2 ++ qa0 ((qai l u5).take (k + 1)))] jz
  rw [ef] at cm
  have jC:IntKind.i64.wrap (((k:Nat):Int) + 1) = ((k + 1:Nat):Int):=qaN (by omega)
  rw [jC] at cm
  have jD:IntKind.i64.wrap (((qaS W l (Tree.mk n1 s2 b3 l4 u5) k2 + k:Nat):Int) + 1) = ((qaS W l (Tree.mk n1 s2 b3 l4 u5) k2 + (k + 1):Nat):Int):=by rw [wrap_i64 (by omega) (by omega)]; omega
  rw [jD] at cm
  exact ⟨(qai l u5).length - (k + 1),by omega,k + 1,aK,aL,rfl,by omega,cm.pk,jA,((((((((((((((aH.trans aQ).trans aR).trans bA).trans bB).trans bC).trans bD).trans bE).trans bF).trans bG).trans jl).trans jp).trans jw).trans jy).trans jB)⟩
 have lR:=of_decide_eq_false dh
 refine wp_exit ?_
 refine qaB ?_
 refine qaB ?_
 refine qaL ?_
 refine qab ?_
 refine qag [0,1,2,3,4,5,6,7] kz ?_
 refine qaj [0,1,2] [3,4,5,6,7] [(10,.v (.slice A4_ ((qaI W l (Tree.mk n1 s2 b3 l4 u5) k2 ++ qa0 ((qai l u5).take k)).length) c4_)),(125,.v (.slice A_ ((qaP W l v (Tree.mk n1 s2 b3 l4 u5) 0).length) c_)),(127,.v (.int .u64 (IntKind.u64.wrap ((qaS W l (Tree.mk n1 s2 b3 l4 u5) k2 + k:Nat):Int))))] cd dg fun oN jE=>?_
 have jF:IntKind.u64.wrap ((qaS W l (Tree.mk n1 s2 b3 l4 u5) k2 + k:Nat):Int) = ((qaS W l (Tree.mk n1 s2 b3 l4 u5) k2 + k:Nat):Int):=by simp only [qaK,qaA,qcc,IntKind.wrap_i64,IntKind.wrap_i32]; omega
 have jG:=EnvOk.pick jE (ks:=[10,125,127]) (env':=[(10,.v (.slice A4_ ((qaI W l (Tree.mk n1 s2 b3 l4 u5) k2 ++ qa0 ((qai l u5).take k)).length) c4_)),(125,.v (.slice A_ ((qaP W l v (Tree.mk n1 s2 b3 l4 u5) 0).length) c_)),(127,.v (.int .u64 (IntKind.u64.wrap ((qaS W l (Tree.mk n1 s2 b3 l4 u5) k2 + k:Nat):Int))))]) kz
 have jH:=jG.cast (env':=[(10,.v (.slice A4_ ((qaI W l (Tree.mk n1 s2 b3 l4 u5) k2 ++ qa0 ((qai l u5).take k)).length) c4_)),(125,.v (.slice A_ ((qaP W l v (Tree.mk n1 s2 b3 l4 u5) 0).length) c_)),(127,.v (.int .u64 ((qaS W l (Tree.mk n1 s2 b3 l4 u5) k2 + k:Nat):Int)))]) (by rw [jF])
 refine qam (qal jH (f:=37) (vs:=[.int .u64 ((qaS W l (Tree.mk n1 s2 b3 l4 u5) k2 + k:Nat):Int)]) (d:=128) kz Tryd.call37 (qdt (qaS W l (Tree.mk n1 s2 b3 l4 u5) k2 + k) (by omega) _) ?_)
 rintro e_ oO ⟨cB,cC,rfl,jI,jJ⟩
 refine ⟨_,rfl,fun oP jK=>?_⟩
 obtain ⟨dt,lS⟩:=cd.frFresh jJ (brow cB cC 5 (uv (qaS W l (Tree.mk n1 s2 b3 l4 u5) k2 + k))) (Nat.le_refl _) jI
 refine qam (qaO dt jK (k:=0) (d:=129) (t:=22) (e:=5) (size:=1) (bytes:=1) (A:=A_) (As:=cB) (m0:=((qaP W l v (Tree.mk n1 s2 b3 l4 u5) 0).length)) (c:=c_) (m:=((uv (qaS W l (Tree.mk n1 s2 b3 l4 u5) k2 + k)).length)) (cs:=cC) (xs:=(bc (qaP W l v (Tree.mk n1 s2 b3 l4 u5) 0))) (news:=bc (uv (qaS W l (Tree.mk n1 s2 b3 l4 u5) k2 + k))) kz kz rfl (qbo (dt.own 2 _ rfl) (qcH _)) (qbA (dt.own 2 _ rfl)) (by have hkk3:k = (qai l u5).length:=(by omega); subst hkk3; subst hkk2; simp only [List.length_append,List.take_length] at *; omega) fun bg bh oQ oR lT jL jM=>?_)
 have jN:(⟨bg,bh,5,1,(qaP W l v (Tree.mk n1 s2 b3 l4 u5) 0).length + (uv (qaS W l (Tree.mk n1 s2 b3 l4 u5) k2 + k)).length,bc (qaP W l v (Tree.mk n1 s2 b3 l4 u5) 0) ++ bc (uv (qaS W l (Tree.mk n1 s2 b3 l4 u5) k2 + k))⟩:Rw) = brow bg bh 5 (qaP W l v (Tree.mk n1 s2 b3 l4 u5) 0 ++ (uv (qaS W l (Tree.mk n1 s2 b3 l4 u5) k2 + k))):=qbz (rfl) rfl
 obtain ⟨cq,lU⟩:=jL.rowEq 0 [brow bg bh 5 (qaP W l v (Tree.mk n1 s2 b3 l4 u5) 0 ++ (uv (qaS W l (Tree.mk n1 s2 b3 l4 u5) k2 + k))),brow A4_ c4_ 5 (qaI W l (Tree.mk n1 s2 b3 l4 u5) k2 ++ qa0 ((qai l u5).take k)),brow cB cC 5 (uv (qaS W l (Tree.mk n1 s2 b3 l4 u5) k2 + k))] jN
 have jO:=EnvOk.pick jM (ks:=[10,125,127,128,129]) (env':=[(10,.v (.slice A4_ ((qaI W l (Tree.mk n1 s2 b3 l4 u5) k2 ++ qa0 ((qai l u5).take k)).length) c4_)),(125,.v (.slice A_ ((qaP W l v (Tree.mk n1 s2 b3 l4 u5) 0).length) c_)),(127,.v (.int .u64 ((qaS W l (Tree.mk n1 s2 b3 l4 u5) k2 + k:Nat):Int))),(128,.v (.slice cB ((uv (qaS W l (Tree.mk n1 s2 b3 l4 u5) k2 + k)).length) cC)),(129,.v (.slice bg ((qaP W l v (Tree.mk n1 s2 b3 l4 u5) 0).length + (uv (qaS W l (Tree.mk n1 s2 b3 l4 u5) k2 + k)).length) bh))]) kz
 have jP:=jO.cast (env':=[(10,.v (.slice A4_ ((qaI W l (Tree.mk n1 s2 b3 l4 u5) k2 ++ qa0 ((qai l u5).take k)).length) c4_)),(125,.v (.slice A_ ((qaP W l v (Tree.mk n1 s2 b3 l4 u5) 0).length) c_)),(127,.v (.int .u64 ((qaS W l (Tree.mk n1 s2 b3 l4 u5) k2 + k:Nat):Int))),(128,.v (.slice cB ((uv (qaS W l (Tree.mk n1 s2 b3 l4 u5) k2 + k)).length) cC)),(129,.v (.slice bg ((qaP W l v (Tree.mk n1 s2 b3 l4 u5) 0 ++ (uv (qaS W l (Tree.mk n1 s2 b3 l4 u5) k2 + k))).length) bh))]) (by simp only [List.length_append,List.length_cons,List.length_nil,Nat.zero_add])
 refine qaj [5] [6,7] [(129,.v (.slice bg ((qaP W l v (Tree.mk n1 s2 b3 l4 u5) 0 ++ (uv (qaS W l (Tree.mk n1 s2 b3 l4 u5) k2 + k))).length) bh)),(130,.v (.slice A4_ ((qaI W l (Tree.mk n1 s2 b3 l4 u5) k2 ++ qa0 ((qai l u5).take k)).length) c4_))] cq jP fun oS jQ=>?_
 refine qam (qaO cq jQ (k:=0) (d:=131) (t:=22) (e:=5) (size:=1) (bytes:=1) (A:=bg) (As:=A4_) (m0:=((qaP W l v (Tree.mk n1 s2 b3 l4 u5) 0 ++ (uv (qaS W l (Tree.mk n1 s2 b3 l4 u5) k2 + k))).length)) (c:=bh) (m:=((qaI W l (Tree.mk n1 s2 b3 l4 u5) k2 ++ qa0 ((qai l u5).take k)).length)) (cs:=c4_) (xs:=(bc (qaP W l v (Tree.mk n1 s2 b3 l4 u5) 0 ++ (uv (qaS W l (Tree.mk n1 s2 b3 l4 u5) k2 + k))))) (news:=bc (qaI W l (Tree.mk n1 s2 b3 l4 u5) k2 ++ qa0 ((qai l u5).take k))) kz kz rfl (qbo (cq.own 1 _ rfl) (qcH _)) (qbA (cq.own 1 _ rfl)) (by have hkk3:k = (qai l u5).length:=(by omega); subst hkk3; subst hkk2; simp only [List.length_append,List.take_length] at *; omega) fun bM bN oT oU lV jR jS=>?_)
 have jT:(⟨bM,bN,5,1,(qaP W l v (Tree.mk n1 s2 b3 l4 u5) 0 ++ (uv (qaS W l (Tree.mk n1 s2 b3 l4 u5) k2 + k))).length + (qaI W l (Tree.mk n1 s2 b3 l4 u5) k2 ++ qa0 ((qai l u5).take k)).length,bc (qaP W l v (Tree.mk n1 s2 b3 l4 u5) 0 ++ (uv (qaS W l (Tree.mk n1 s2 b3 l4 u5) k2 + k))) ++ bc (qaI W l (Tree.mk n1 s2 b3 l4 u5) k2 ++ qa0 ((qai l u5).take k))⟩:Rw) = brow bM bN 5 (qaP W l v (Tree.mk n1 s2 b3 l4 u5) 0 ++ (uv (qaS W l (Tree.mk n1 s2 b3 l4 u5) k2 + k)) ++ (qaI W l (Tree.mk n1 s2 b3 l4 u5) k2 ++ qa0 ((qai l u5).take k))):=qbz (rfl) rfl
 obtain ⟨du,lW⟩:=jR.rowEq 0 [brow bM bN 5 (qaP W l v (Tree.mk n1 s2 b3 l4 u5) 0 ++ (uv (qaS W l (Tree.mk n1 s2 b3 l4 u5) k2 + k)) ++ (qaI W l (Tree.mk n1 s2 b3 l4 u5) k2 ++ qa0 ((qai l u5).take k))),brow A4_ c4_ 5 (qaI W l (Tree.mk n1 s2 b3 l4 u5) k2 ++ qa0 ((qai l u5).take k)),brow cB cC 5 (uv (qaS W l (Tree.mk n1 s2 b3 l4 u5) k2 + k))] jT
 have jU:=EnvOk.pick jS (ks:=[129,130,131]) (env':=[(129,.v (.slice bg ((qaP W l v (Tree.mk n1 s2 b3 l4 u5) 0 ++ (uv (qaS W l (Tree.mk n1 s2 b3 l4 u5) k2 + k))).length) bh)),(130,.v (.slice A4_ ((qaI W l (Tree.mk n1 s2 b3 l4 u5) k2 ++ qa0 ((qai l u5).take k)).length) c4_)),(131,.v (.slice bM ((qaP W l v (Tree.mk n1 s2 b3 l4 u5) 0 ++ (uv (qaS W l (Tree.mk n1 s2 b3 l4 u5) k2 + k))).length + (qaI W l (Tree.mk n1 s2 b3 l4 u5) k2 ++ qa0 ((qai l u5).take k)).length) bN))]) kz
 have jV:=jU.cast (env':=[(129,.v (.slice bg ((qaP W l v (Tree.mk n1 s2 b3 l4 u5) 0 ++ (uv (qaS W l (Tree.mk n1 s2 b3 l4 u5) k2 + k))).length) bh)),(130,.v (.slice A4_ ((qaI W l (Tree.mk n1 s2 b3 l4 u5) k2 ++ qa0 ((qai l u5).take k)).length) c4_)),(131,.v (.slice bM ((qaP W l v (Tree.mk n1 s2 b3 l4 u5) 0 ++ (uv (qaS W l (Tree.mk n1 s2 b3 l4 u5) k2 + k)) ++ (qaI W l (Tree.mk n1 s2 b3 l4 u5) k2 ++ qa0 ((qai l u5).take k))).length) bN))]) (by simp only [List.length_append,List.length_cons,List.length_nil,Nat.zero_add])
 refine qaj [7] [] [(8,.v (.slice bM ((qaP W l v (Tree.mk n1 s2 b3 l4 u5) 0 ++ (uv (qaS W l (Tree.mk n1 s2 b3 l4 u5) k2 + k)) ++ (qaI W l (Tree.mk n1 s2 b3 l4 u5) k2 ++ qa0 ((qai l u5).take k))).length) bN))] du jV fun oV jW=>?_
 refine qaf (qab ?_)
 refine wp_ret ?_
 refine qaJ jW du.cells (v:=.slice bM ((qaP W l v (Tree.mk n1 s2 b3 l4 u5) 0 ++ (uv (qaS W l (Tree.mk n1 s2 b3 l4 u5) k2 + k)) ++ (qaI W l (Tree.mk n1 s2 b3 l4 u5) k2 ++ qa0 ((qai l u5).take k))).length) bN) kz ?_
 have hkk3:k = (qai l u5).length:=by omega
 exact qa5 du (k:=0) rfl (by rw [show flex = true by simpa using bT,qe8,hkk3,hkk2,List.take_length])
theorem qgA:∀ d,qiO d
 | 0=>fun A c l v flex ct t w F hl hd ht hr=>qkY (fun _ _=>[]) A c l v flex ct t w F (fun cf f ct t w F hm hf ht hr=>by
   obtain ⟨i,hi⟩:=List.mem_iff_getElem?.1 hm
   have h:=qdn hi
   obtain ⟨k,x1,x2,x3,x4,x5,x6,l,A,c,xs,rfl,_⟩:=hf.open_
   rw [qew] at h; omega) hl ht hr
 | d + 1=>fun A c l v flex ct t w F hl hd ht hr=>qkY (fun f t=>qck d f v flex t) A c l v flex ct t w F (fun cf f ct t w F hm hf ht hr=>qkX (qgA d) cf f v flex ct t w F hf (by
   obtain ⟨i,hi⟩:=List.mem_iff_getElem?.1 hm
   have h:=qdn hi
   obtain ⟨k,x1,x2,x3,x4,x5,x6,l,A,c,xs,rfl,_⟩:=hf.open_
   rw [qew] at h
   show depths l ≤ d
   omega) ht hr) hl ht hr
theorem qkZ {d:Nat} (A:Option Addr) (c:Nat) (l:List Fld) (x v:Int) (ct:List Value) (t:Tree) (w:World) (F:Nat → Nat → Prop) (hl:FldsR w F A c l) (hd:depths l ≤ d) (ht:TreeR w F ct t) (hroom:(qcl d l x v t).length ≤ 1099511627776) :
  Calls Tryd.prog 9 #[.agg #[.slice A l.length c,.int .i64 x],.int .i64 v,.agg ct.toArray] w (qdy w 5 (qcl d l x v t)):=by
 obtain ⟨xfs,h1,h2⟩:=hl.ex
 have hsm:=h1.small
 obtain ⟨n1,s2,b3,l4,u5,A6,c7,A8,c9,af,ag,aI,rfl,rfl,aJ,aK,aV,aW⟩:=ht.open_
 have aG:=aJ.small
 have aH:=aK.small
 refine enter (n:=21) Tryd.func9 rfl Tryd.ntmps9 kz fun a hE=>?_
 have hW:=WOk.start w Nil
 refine qag [0,1,2] kz ?_
 refine qam (qa7 hW hE (d:=3) (cs:=[.slice A l.length c,.int .i64 x]) kz fun aX aY aZ aL aM aN ai aj=>?_)
 refine qam (qa7 ai aj (d:=5) (cs:=[.int .i64 n1,.slice A6 s2.length c7,.bool b3,.slice A8 l4.length c9,.slice af u5.length ag]) kz fun ba bd bf aO aP aQ aa ak=>?_)
 refine qaj [2] [] [(1,.v (.int .i64 v)),(3,.p 0 0),(5,.p 1 0)] aa ak fun bg al=>?_
 refine qaf (qab ?_)
 refine qag [0,1,2,3,4,5,6,7,8,9,10,11,12,13,14] kz ?_
 refine qaj [0,1,2,3,4,5,6] [7,8,9,10,11,12,13,14] [(1,.v (.int .i64 v)),(3,.p 0 0),(5,.p 1 0),(8,.v (.slice A l.length c)),(9,.v (.int .i64 v)),(13,.v (.bool (decide (x ≥ 0))))] aa al fun bh ah=>?_
 refine (Bool.eq_false_or_eq_true (decide (x ≥ 0))).elim (fun ab=>?_) (fun ab=>?_)
 ·
  have aR:=of_decide_eq_true ab
  have am:=ah.cast (env':=[(1,.v (.int .i64 v)),(3,.p 0 0),(5,.p 1 0),(8,.v (.slice A l.length c)),(9,.v (.int .i64 v)),(13,.v (.bool true))]) (by rw [ab])
  refine qaj [7,8,9,10,11,12] [13,14] [(8,.v (.slice A l.length c)),(9,.v (.int .i64 v)),(18,.v (.bool (decide (v ≥ x)))),(19,.v (.agg #[.int .i64 n1,.slice A6 s2.length c7,.bool b3,.slice A8 l4.length c9,.slice af u5.length ag]))] aa am fun bj ao=>?_
  refine qam (qal ao (f:=19) (vs:=[.slice A l.length c,.int .i64 v,.bool (decide (v ≥ x)),.agg #[.int .i64 n1,.slice A6 s2.length c7,.bool b3,.slice A8 l4.length c9,.slice af u5.length ag]]) (d:=20) kz Tryd.call19 (qgA _ _ _ l v (decide (v ≥ x)) _ (Tree.mk n1 s2 b3 l4 u5) _ _ ⟨xfs,(h1.move aa.step nilM aa.imm),(fun i_ x_ h_=>((h2 i_ x_ h_).move aa.step nilM aa.imm))⟩ hd (ht.move aa.step nilM aa.imm) (by simpa [qcl,ab] using hroom)) ?_)
  rintro e_ bk ⟨ap,ar,rfl,au,av⟩
  refine ⟨_,rfl,fun bn aw=>?_⟩
  obtain ⟨ac,aS⟩:=aa.frFresh av (brow ap ar 5 (qaV d l v (decide (v ≥ x)) (Tree.mk n1 s2 b3 l4 u5))) (Nat.le_refl _) au
  refine qaj [14] [] [(6,.v (.slice ap ((qaV d l v (decide (v ≥ x)) (Tree.mk n1 s2 b3 l4 u5)).length) ar))] ac aw fun bo ax=>?_
  refine qaf (qab ?_)
  refine wp_ret ?_
  refine qaJ ax ac.cells (v:=.slice ap ((qaV d l v (decide (v ≥ x)) (Tree.mk n1 s2 b3 l4 u5)).length) ar) kz ?_
  exact qa5 ac (k:=0) rfl (by simp [qcl,ab])
 have aT:=of_decide_eq_false ab
 have ay:=ah.cast (env':=[(1,.v (.int .i64 v)),(3,.p 0 0),(5,.p 1 0),(8,.v (.slice A l.length c)),(9,.v (.int .i64 v)),(13,.v (.bool false))]) (by rw [ab])
 refine qaj [7,8,9,10,11,12] [13,14] [(8,.v (.slice A l.length c)),(9,.v (.int .i64 v)),(18,.v (.bool false)),(19,.v (.agg #[.int .i64 n1,.slice A6 s2.length c7,.bool b3,.slice A8 l4.length c9,.slice af u5.length ag]))] aa ay fun bp az=>?_
 refine qam (qal az (f:=19) (vs:=[.slice A l.length c,.int .i64 v,.bool false,.agg #[.int .i64 n1,.slice A6 s2.length c7,.bool b3,.slice A8 l4.length c9,.slice af u5.length ag]]) (d:=20) kz Tryd.call19 (qgA _ _ _ l v false _ (Tree.mk n1 s2 b3 l4 u5) _ _ ⟨xfs,(h1.move aa.step nilM aa.imm),(fun i_ x_ h_=>((h2 i_ x_ h_).move aa.step nilM aa.imm))⟩ hd (ht.move aa.step nilM aa.imm) (by simpa [qcl,ab] using hroom)) ?_)
 rintro e_ bq ⟨aA,aB,rfl,aC,aD⟩
 refine ⟨_,rfl,fun bt aE=>?_⟩
 obtain ⟨ae,aU⟩:=aa.frFresh aD (brow aA aB 5 (qaV d l v false (Tree.mk n1 s2 b3 l4 u5))) (Nat.le_refl _) aC
 refine qaj [14] [] [(6,.v (.slice aA ((qaV d l v false (Tree.mk n1 s2 b3 l4 u5)).length) aB))] ae aE fun bu aF=>?_
 refine qaf (qab ?_)
 refine wp_ret ?_
 refine qaJ aF ae.cells (v:=.slice aA ((qaV d l v false (Tree.mk n1 s2 b3 l4 u5)).length) aB) kz ?_
 exact qa5 ae (k:=0) rfl (by simp [qcl,ab])
def sBrokerHeartbeatRequestF:List Fld:=[(Fld.mk 3 0 (-1) (-1) (-1) 0 0 []),(Fld.mk 4 0 (-1) (-1) (-1) (-1) 0 []),(Fld.mk 4 0 (-1) (-1) (-1) 0 0 []),(Fld.mk 0 0 (-1) (-1) (-1) 0 0 []),(Fld.mk 0 0 (-1) (-1) (-1) 0 0 []),(Fld.mk 11 0 (-1) (-1) 0 0 7 []),(Fld.mk 11 0 (-1) (-1) 1 0 7 [])]
def qas:Int:=0
theorem qcS (w:World) (F:Nat → Nat → Prop):Calls Tryd.prog 6 #[] w (qkT w F sBrokerHeartbeatRequestF qas):=by
 refine enter (n:=10) Tryd.func6 rfl Tryd.ntmps6 kz fun a hE=>?_
 have hW:=WOk.start w Nil
 refine qag [0] kz ?_
 refine qam (qaR hW hE (d:=0) (cs:=[.slice none 0 0,.int .i64 0]) kz fun b1 a2 w3 hb4 hz5 hF6 hW7 hE8=>?_)
 refine qaf (qab ?_)
 refine qag [0,1,2,3,4,5,6,7,8,9] kz ?_
 refine qaj [0,1,2,3,4,5,6] [7,8,9] [(0,.p 0 0),(1,.v (.agg #[.int .i64 3,.int .i64 0,.int .i64 (-1),.int .i64 (-1),.int .i64 (-1),.int .i64 0,.int .i64 0,.slice none 0 0])),(2,.v (.agg #[.int .i64 4,.int .i64 0,.int .i64 (-1),.int .i64 (-1),.int .i64 (-1),.int .i64 (-1),.int .i64 0,.slice none 0 0])),(3,.v (.agg #[.int .i64 4,.int .i64 0,.int .i64 (-1),.int .i64 (-1),.int .i64 (-1),.int .i64 0,.int .i64 0,.slice none 0 0])),(4,.v (.agg #[.int .i64 0,.int .i64 0,.int .i64 (-1),.int .i64 (-1),.int .i64 (-1),.int .i64 0,.int .i64 0,.slice none 0 0])),(5,.v (.agg #[.int .i64 0,.int .i64 0,.int .i64 (-1),.int .i64 (-1),.int .i64 (-1),.int .i64 0,.int .i64 0,.slice none 0 0])),(6,.v (.agg #[.int .i64 11,.int .i64 0,.int .i64 (-1),.int .i64 (-1),.int .i64 0,.int .i64 0,.int .i64 7,.slice none 0 0])),(7,.v (.agg #[.int .i64 11,.int .i64 0,.int .i64 (-1),.int .i64 (-1),.int .i64 1,.int .i64 0,.int .i64 7,.slice none 0 0]))] hW7 hE8 fun a9 af=>?_
 refine qam (qbw hW7 af (e:=51) (size:=8) (len:=7) (cs:=[.int .i64 3,.int .i64 0,.int .i64 (-1),.int .i64 (-1),.int .i64 (-1),.int .i64 0,.int .i64 0,.slice none 0 0,.int .i64 4,.int .i64 0,.int .i64 (-1),.int .i64 (-1),.int .i64 (-1),.int .i64 (-1),.int .i64 0,.slice none 0 0,.int .i64 4,.int .i64 0,.int .i64 (-1),.int .i64 (-1),.int .i64 (-1),.int .i64 0,.int .i64 0,.slice none 0 0,.int .i64 0,.int .i64 0,.int .i64 (-1),.int .i64 (-1),.int .i64 (-1),.int .i64 0,.int .i64 0,.slice none 0 0,.int .i64 0,.int .i64 0,.int .i64 (-1),.int .i64 (-1),.int .i64 (-1),.int .i64 0,.int .i64 0,.slice none 0 0,.int .i64 11,.int .i64 0,.int .i64 (-1),.int .i64 (-1),.int .i64 0,.int .i64 0,.int .i64 7,.slice none 0 0,.int .i64 11,.int .i64 0,.int .i64 (-1),.int .i64 (-1),.int .i64 1,.int .i64 0,.int .i64 7,.slice none 0 0]) (d:=8) kz kz fun ag ap ar ak al am ae ah=>?_)
 refine qaj [8] [9] [(0,.p 0 0),(9,.v (.agg #[.slice (some ⟨ag,0,none⟩) 7 7,.int .i64 0]))] ae ah fun au ai=>?_
 refine qam (qav ae ai (oi:=0) (cs:=[.slice (some ⟨ag,0,none⟩) 7 7,.int .i64 0]) kz fun aa ao ac aj=>?_)
 refine qaf (qab ?_)
 refine wp_ret ?_
 refine qaJ aj ac.cells (v:=.agg #[.slice (some ⟨ag,0,none⟩) 7 7,.int .i64 0]) kz ?_
 have ab:=Flds.slots (F:=F) ac (k:=0) (n:=7) (xs:=[.int .i64 3,.int .i64 0,.int .i64 (-1),.int .i64 (-1),.int .i64 (-1),.int .i64 0,.int .i64 0,.slice none 0 0,.int .i64 4,.int .i64 0,.int .i64 (-1),.int .i64 (-1),.int .i64 (-1),.int .i64 (-1),.int .i64 0,.slice none 0 0,.int .i64 4,.int .i64 0,.int .i64 (-1),.int .i64 (-1),.int .i64 (-1),.int .i64 0,.int .i64 0,.slice none 0 0,.int .i64 0,.int .i64 0,.int .i64 (-1),.int .i64 (-1),.int .i64 (-1),.int .i64 0,.int .i64 0,.slice none 0 0,.int .i64 0,.int .i64 0,.int .i64 (-1),.int .i64 (-1),.int .i64 (-1),.int .i64 0,.int .i64 0,.slice none 0 0,.int .i64 11,.int .i64 0,.int .i64 (-1),.int .i64 (-1),.int .i64 0,.int .i64 0,.int .i64 7,.slice none 0 0,.int .i64 11,.int .i64 0,.int .i64 (-1),.int .i64 (-1),.int .i64 1,.int .i64 0,.int .i64 7,.slice none 0 0]) rfl (Flds.snoc (Flds.snoc (Flds.snoc (Flds.snoc (Flds.snoc (Flds.snoc (Flds.snoc (Flds.nil _ _) (c:=[.int .i64 3,.int .i64 0,.int .i64 (-1),.int .i64 (-1),.int .i64 (-1),.int .i64 0,.int .i64 0,.slice none 0 0]) (x:=(Fld.mk 3 0 (-1) (-1) (-1) 0 0 [])) (FldR.mk (l:=[]) _ (qcw aa (Fp F w)).1 (qcw aa (Fp F w)).2)) (c:=[.int .i64 4,.int .i64 0,.int .i64 (-1),.int .i64 (-1),.int .i64 (-1),.int .i64 (-1),.int .i64 0,.slice none 0 0]) (x:=(Fld.mk 4 0 (-1) (-1) (-1) (-1) 0 [])) (FldR.mk (l:=[]) _ (qcw aa (Fp F w)).1 (qcw aa (Fp F w)).2)) (c:=[.int .i64 4,.int .i64 0,.int .i64 (-1),.int .i64 (-1),.int .i64 (-1),.int .i64 0,.int .i64 0,.slice none 0 0]) (x:=(Fld.mk 4 0 (-1) (-1) (-1) 0 0 [])) (FldR.mk (l:=[]) _ (qcw aa (Fp F w)).1 (qcw aa (Fp F w)).2)) (c:=[.int .i64 0,.int .i64 0,.int .i64 (-1),.int .i64 (-1),.int .i64 (-1),.int .i64 0,.int .i64 0,.slice none 0 0]) (x:=(Fld.mk 0 0 (-1) (-1) (-1) 0 0 [])) (FldR.mk (l:=[]) _ (qcw aa (Fp F w)).1 (qcw aa (Fp F w)).2)) (c:=[.int .i64 0,.int .i64 0,.int .i64 (-1),.int .i64 (-1),.int .i64 (-1),.int .i64 0,.int .i64 0,.slice none 0 0]) (x:=(Fld.mk 0 0 (-1) (-1) (-1) 0 0 [])) (FldR.mk (l:=[]) _ (qcw aa (Fp F w)).1 (qcw aa (Fp F w)).2)) (c:=[.int .i64 11,.int .i64 0,.int .i64 (-1),.int .i64 (-1),.int .i64 0,.int .i64 0,.int .i64 7,.slice none 0 0]) (x:=(Fld.mk 11 0 (-1) (-1) 0 0 7 [])) (FldR.mk (l:=[]) _ (qcw aa (Fp F w)).1 (qcw aa (Fp F w)).2)) (c:=[.int .i64 11,.int .i64 0,.int .i64 (-1),.int .i64 (-1),.int .i64 1,.int .i64 0,.int .i64 7,.slice none 0 0]) (x:=(Fld.mk 11 0 (-1) (-1) 1 0 7 [])) (FldR.mk (l:=[]) _ (qcw aa (Fp F w)).1 (qcw aa (Fp F w)).2)) rfl (by decide)
 exact ⟨_,_,rfl,⟨_,ab.1,ab.2⟩,ac.step⟩
def qaZ (T:Tree):Prop:=(True) ∧ (True) ∧ (True) ∧ (True) ∧ (True) ∧ ((lst (T.at_ 5)).length ≤ 32767) ∧ ((lst (T.at_ 6)).length ≤ 32767) ∧ canU T.U ∧ (∀ x ∈ T.U,2 ≤ x.1) ∧ True
theorem qcd (v:Int) (t:Tree):qaZ (fitT v 8 sBrokerHeartbeatRequestF t):=by
 unfold qaZ
 exact ⟨(trivial),(trivial),(trivial),(trivial),(trivial),(qg1 (d:=7) (show sBrokerHeartbeatRequestF[5]? = _ from rfl)),(qg1 (d:=7) (show sBrokerHeartbeatRequestF[6]? = _ from rfl)),(qjD),(qiL (by decide +kernel)),(trivial)⟩
set_option maxHeartbeats 4000000 in
theorem qcr (v:Int) (h0:0 ≤ v) (h1:v < 32768) (t:Tree):qak v (fitT v 8 sBrokerHeartbeatRequestF t) = qcl 8 sBrokerHeartbeatRequestF qas v t:=by
 have ah:((fitT v 8 sBrokerHeartbeatRequestF t).at_ 0).N = (t.at_ 0).N:=qeY (d:=7) (show sBrokerHeartbeatRequestF[0]? = _ from rfl) (by decide)
 have ai:((fitT v 8 sBrokerHeartbeatRequestF t).at_ 1).N = (t.at_ 1).N:=qeY (d:=7) (show sBrokerHeartbeatRequestF[1]? = _ from rfl) (by decide)
 have aj:((fitT v 8 sBrokerHeartbeatRequestF t).at_ 2).N = (t.at_ 2).N:=qeY (d:=7) (show sBrokerHeartbeatRequestF[2]? = _ from rfl) (by decide)
 have ak:((fitT v 8 sBrokerHeartbeatRequestF t).at_ 3).N = (t.at_ 3).N:=qeY (d:=7) (show sBrokerHeartbeatRequestF[3]? = _ from rfl) (by decide)
 have al:((fitT v 8 sBrokerHeartbeatRequestF t).at_ 4).N = (t.at_ 4).N:=qeY (d:=7) (show sBrokerHeartbeatRequestF[4]? = _ from rfl) (by decide)
 obtain ⟨f56n,am⟩:=qeQ (v:=v) (d:=7) (t:=t) (l:=sBrokerHeartbeatRequestF) (i:=5) (show sBrokerHeartbeatRequestF[5]? = _ from rfl)
 obtain ⟨f57n,ao⟩:=qeQ (v:=v) (d:=7) (t:=t) (l:=sBrokerHeartbeatRequestF) (i:=6) (show sBrokerHeartbeatRequestF[6]? = _ from rfl)
 have ac:∀ aa:Tree,(fun ae:Tree=>(qah ae.S)) (qbP (fitT v 7) (Fld.mk 7 0 (-1) (-1) (-1) 0 7 []) (Fld.nul (Fld.mk 7 0 (-1) (-1) (-1) 0 7 []) v aa) aa) = qbb aa.S:=by
  intro aa
  dsimp only
  cases aa; simp [qbP,Fld.kind,Tree.S,qbX]
 have af:∀ ab:Tree,(fun ag:Tree=>(qah ag.S)) (qbP (fitT v 7) (Fld.mk 7 0 (-1) (-1) (-1) 0 7 []) (Fld.nul (Fld.mk 7 0 (-1) (-1) (-1) 0 7 []) v ab) ab) = qbb ab.S:=by
  intro ab
  dsimp only
  cases ab; simp [qbP,Fld.kind,Tree.S,qbX]
 unfold qak
 simp only [qjB,qgv,qdq,List.flatMap_map,List.length_map,ah,ai,aj,ak,al,f56n,am,f57n,ao]
 simp only [ac,af]
 try simp only [be4_i32',qkl,qkp,qkU,qjn,qbX,qlu,qks]
 have hkn:(qaz [(Fld.mk 3 0 (-1) (-1) (-1) 0 0 []),(Fld.mk 4 0 (-1) (-1) (-1) (-1) 0 []),(Fld.mk 4 0 (-1) (-1) (-1) 0 0 []),(Fld.mk 0 0 (-1) (-1) (-1) 0 0 []),(Fld.mk 0 0 (-1) (-1) (-1) 0 0 []),(Fld.mk 11 0 (-1) (-1) 0 0 7 []),(Fld.mk 11 0 (-1) (-1) 1 0 7 [])]).toNat = 2:=by decide +kernel
 rcases hL0:(t.at_ 5).L with _ | ⟨yL0,lL0⟩ <;> rcases hL1:(t.at_ 6).L with _ | ⟨yL1,lL1⟩ <;> first | (exfalso; omega) | (simp [qcl,qas,sBrokerHeartbeatRequestF,qaV,qes,qaP,Fld.tag,Fld.has,qc3,Fld.kind,Fld.null,Fld.of,Fld.sub,qaQ,qbg,qaS,qaI,hkn,qau,uv0,qge,hL0,hL1,tagN,tagB,Fld.usual,tagC,tagP,qan,h0] <;> (congr 1; omega))
def dv0:DV:=.leaf
def qhJ (ok:World → (Nat → Nat → Prop) → DV → Prop):Prop:=∀ {w w':World} {F F' M:Nat → Nat → Prop} (d:DV),Step w w' M → (∀ b o,F b o → b < w.heap.size → ¬ M b o) → (∀ b o,F b o → b < w.heap.size → F' b o) → ok w F d → ok w' F' d
theorem qgB {P:Program} {c:Code} {Mid N:Act → World → Prop} {Q:Exit → Act → World → Prop} {a:Act} {w:World} (h1:c.wp P (Exit.then Mid Q) a w) (h2:∀ a' w',Mid a' w' → N a' w'):c.wp P (Exit.then N Q) a w :=
 wp_mono h1 fun e a' w' h=>by
  cases e <;> first | exact h2 a' w' h | exact h
def dvN (n:Int):DV:=.mk n false ByteArray.empty [] none 0 0 none [] (fun _=>.leaf)
def dvB (b:Bool):DV:=.mk 0 b ByteArray.empty [] none 0 0 none [] (fun _=>.leaf)
def dvO (A:Option Addr) (o:Bs) (c:Nat):DV:=.mk 0 false ByteArray.empty o A 0 c none [] (fun _=>.leaf)
def dvL (A:Option Addr) (l c:Nat) (f:Nat → DV):DV:=.mk 0 false ByteArray.empty [] A l c none [] f
def dvP (m:Option Nat) (u:List (Int × Bs)) (fs:List DV):DV:=.mk 0 false ByteArray.empty [] none 0 0 m u (fun i=>fs.getD i .leaf)
theorem EnvOk.retable {n:Nat} {env:Env} {a:Act} (tb:Tb) (h:EnvOk n [] env a):EnvOk n tb env a:=h.table fun i hi=>absurd hi (Nat.not_lt_zero i)
def cutA (A:Option Addr) (cp j:Nat):Option Addr:=if cp = j then A else A.map (·.add j)
theorem qiR (s:Bs) (j i:Nat):(s.drop j).getD i 0 = s.getD (j + i) 0:=by
 rw [List.getD_eq_getElem?_getD,List.getD_eq_getElem?_getD,List.getElem?_drop]
theorem Octs.drop {w:World} {F:Nat → Nat → Prop} {A:Option Addr} {c:Nat} {s:Bs} (h:Octs w F A c s) {j:Nat} (hj:j ≤ s.length):Octs w F (cutA A c j) (c - j) (s.drop j):=by
 have hle:=h.le
 have hsm:=h.small
 unfold Octs
 rw [List.length_drop]
 refine ⟨by omega,by omega,fun hA=>?_,fun ad hA hn=>?_⟩
 ·have hn:A = none:=by
   unfold cutA at hA
   split at hA
   ·exact hA
   cases A with
   | none=>rfl
   | some _=>cases hA
  have:=h.none_ hn
  omega
 have hA':A.map (·.add j) = some ad:=by
  unfold cutA at hA
  rwa [if_neg (by omega)] at hA
 cases hq:A with
 | none=>rw [hq] at hA'; cases hA'
 | some ad0 =>
  rw [hq] at hA'
  obtain ⟨b,o,rfl,h2⟩:=h.some_ ad0 hq (by omega)
  simp only [Option.map_some,Option.some.injEq,qbm] at hA'
  subst hA'
  refine ⟨b,o + j,rfl,fun i hi=>?_⟩
  rw [qiR,show o + j + i * 1 = o + (j + i) * 1 by omega]
  exact h2 (j + i) (by omega)
theorem Octs.cutS {w:World} {F:Nat → Nat → Prop} {A:Option Addr} {c:Nat} {s:Bs} (h:Octs w F A c s) {j:Nat} (hj:j ≤ s.length):Octs w F A j (s.take j):=by
 have h1:=h.take j
 refine ⟨by rw [List.length_take]; omega,h1.small,fun hA=>?_,h1.some_⟩
 have:=h.none_ hA
 rw [List.length_take]; omega
section
variable {P:Program} {ops:Array Oper} {Q:Exit → Act → World → Prop} {n:Nat} {tb:Tb} {env:Env} {rs:List Rw} {w0:World} {M:Nat → Nat → Prop} {a:Act} {w:World}
theorem qhK {t e:TypeId} {bytes:Nat} (ht:qcb P t = some (e,1,bytes)) {A:Option Addr} {m cp:Nat} {k:IntKind} {q:Int} (h0:0 ≤ q) (h1:q ≤ m) :
  (Instr.sliceAt t (.slice A m cp) (some (.int k q)) none none).run P w = .ok (.slice (cutA A cp q.toNat) (m - q.toNat) (cp - q.toNat)) w:=by
 obtain ⟨ht',inf,z,hi,hz,hzs,hs1,rfl,hsz,hbp⟩:=qbL ht
 unfold Instr.sliceAt
 simp only [Sem.run_bind,run_underlying ht',Result.andThen_ok]
 unfold Instr.slice
 have hb:(0 ≤ q ∧ q ≤ (m:Int)):=⟨h0,h1⟩
 simp only [Sem.run_bind,run_underlying ht',Result.andThen_ok,Instr.sliceBounds,Instr.sliceBound,asIntOf,Sem.run_pure,if_pos hb,run_sizeOf' hi,hs1,Nat.mul_one]
 rfl
theorem qhL {t e:TypeId} {bytes:Nat} (ht:qcb P t = some (e,1,bytes)) {A:Option Addr} {m cp:Nat} {k:IntKind} {q:Int} (h0:0 ≤ q) (h1:q ≤ cp) :
  (Instr.sliceAt t (.slice A m cp) none (some (.int k q)) (some (.int k q))).run P w = .ok (.slice A q.toNat q.toNat) w:=by
 obtain ⟨ht',inf,z,hi,hz,hzs,hs1,rfl,hsz,hbp⟩:=qbL ht
 unfold Instr.sliceAt
 simp only [Sem.run_bind,run_underlying ht',Result.andThen_ok]
 unfold Instr.slice
 have hb:(0 ≤ q ∧ q ≤ (cp:Int)):=⟨h0,h1⟩
 have hb2:(0 ≤ q ∧ q ≤ ((q.toNat:Nat):Int)):=⟨h0,by omega⟩
 simp only [Sem.run_bind,run_underlying ht',Result.andThen_ok,Instr.sliceBounds,Instr.sliceBound,asIntOf,Sem.run_pure,if_pos hb,if_pos hb2,run_sizeOf' hi]
 cases A with
 | none=>simp
 | some ad=>simp [Addr.add]
theorem qcp {i d j:Nat} {N:Act → World → Prop} {t e:TypeId} {bytes m cp:Nat} {A:Option Addr} {q:Int} (hE:EnvOk n tb env a) (h:cutE tb env ops n i = some (t,.slice A m cp,some q,none,d)) (ht:qcb P t = some (e,1,bytes)) (hq:q = (j:Int)) (hj:j ≤ m)
  (K:∀ a',EnvOk n tb ((d,.v (.slice (cutA A cp j) (m - j) (cp - j))) :: env) a' → N a' w):wpOp P ops Q i N a w:=by
 have h0:0 ≤ q:=by omega
 have h1:q ≤ m:=by omega
 obtain rfl:j = q.toNat:=by omega
 unfold cutE at h
 split at h
 ·rename_i t' x lo hi d' ho
  have hd:d' < n:=(qbe hE ho).choose_spec.2.2.2.1
  split at h
  ·simp at h
  ·rename_i s l hs
   split at h
   ·rename_i k q' hs2
    simp only [Option.some.injEq,Prod.mk.injEq,true_and] at h
    obtain ⟨rfl,hsv,rfl,rfl⟩:=h
    have e1:=(qaW hE hs).1
    have e2:=(qaW hE hs2).1
    refine qaY hE ho (v:=.slice (cutA A cp q'.toNat) (m - q'.toNat) (cp - q'.toNat)) (w':=w) (fun o' hop=>?_) (K _ (hE.put hd (.v _) trivial))
    unfold execOp
    rw [hop]
    rw [hsv] at e1
    simp only [SV.val] at e2
    simp only [e1,e2,Option.map_none,Option.map_some,Sem.run_bind,qhK ht h0 h1,Result.andThen_ok,Sem.run_pure]
   cases h
  ·split at h <;> simp at h
  ·split at h <;> simp at h
  cases h
 cases h
def qk0 (tb:Tb) (env:Env) (ops:Array Oper) (n i:Nat):Option (TypeId × Value × IntKind × Int × IntKind × Int × Nat) :=
 match opAt env ops n i with
 | some (.slice t x none (some h) (some m),d)=>match opd env x,opd env h,opd env m with
  | some s,some (.v (.int k p)),some (.v (.int k' q))=>some (t,s.val tb,k,p,k',q,d)
  | _,_,_=>none
 | _=>none
theorem qiS {i d j:Nat} {N:Act → World → Prop} {t e:TypeId} {bytes m cp:Nat} {A:Option Addr} {k:IntKind} {q:Int} (hE:EnvOk n tb env a) (h:qk0 tb env ops n i = some (t,.slice A m cp,k,q,k,q,d)) (ht:qcb P t = some (e,1,bytes)) (hq:q = (j:Int)) (hj:j ≤ cp)
  (K:∀ a',EnvOk n tb ((d,.v (.slice A j j)) :: env) a' → N a' w):wpOp P ops Q i N a w:=by
 have h0:0 ≤ q:=by omega
 have h1:q ≤ cp:=by omega
 obtain rfl:j = q.toNat:=by omega
 unfold qk0 at h
 split at h
 ·rename_i t' x hh mm d' ho
  have hd:d' < n:=(qbe hE ho).choose_spec.2.2.2.1
  split at h
  ·rename_i s k1 p1 k2 q2 g1 g2 g3
   simp only [Option.some.injEq,Prod.mk.injEq] at h
   obtain ⟨rfl,hsv,rfl,rfl,rfl,rfl,rfl⟩:=h
   have f1:=(qaW hE g1).1
   have f2:=(qaW hE g2).1
   have f3:=(qaW hE g3).1
   rw [hsv] at f1
   simp only [SV.val] at f2 f3
   refine qaY hE ho (v:=.slice A q2.toNat q2.toNat) (w':=w) (fun o' hop=>?_) (K _ (hE.put hd (.v _) trivial))
   unfold execOp
   rw [hop]
   simp only [f1,f2,f3,Option.map_none,Option.map_some,Sem.run_bind,qhL ht h0 h1,Result.andThen_ok,Sem.run_pure]
  cases h
 cases h
end
structure RdS (w:World) (F:Nat → Nat → Prop) (A:Option Addr) (n c:Nat) (s:Bs):Prop where
 len:n = s.length
 oct:Octs w F A c s
theorem RdS.move {w w':World} {F F' M:Nat → Nat → Prop} {A:Option Addr} {n c:Nat} {s:Bs} (h:RdS w F A n c s) (hs:Step w w' M) (hM:∀ b o,F b o → b < w.heap.size → ¬ M b o) (hF:∀ b o,F b o → b < w.heap.size → F' b o):RdS w' F' A n c s:=⟨h.len,Octs.move h.oct hs hM hF⟩
theorem RdS.drop {w:World} {F:Nat → Nat → Prop} {A:Option Addr} {n c j:Nat} {s t:Bs} (h:RdS w F A n c (s ++ t)) (hj:j = s.length):RdS w F (cutA A c j) (n - j) (c - j) t:=by
 subst hj
 have h1:=h.oct.drop (j:=s.length) (by rw [List.length_append]; omega)
 rw [List.drop_left] at h1
 exact ⟨by rw [h.len,List.length_append]; omega,h1⟩
theorem RdS.front {w:World} {F:Nat → Nat → Prop} {A:Option Addr} {n c j:Nat} {s t:Bs} (h:RdS w F A n c (s ++ t)) (hj:j = s.length):Octs w F A j s:=by
 subst hj
 have h1:=h.oct.cutS (j:=s.length) (by rw [List.length_append]; omega)
 rwa [List.take_left] at h1
def RdM (br:Nat):Nat → Nat → Prop:=fun b o=>b = br ∧ o < 2
def RdPost (w:World) (br:Nat) (F:Nat → Nat → Prop) (rest:Bs) (Q:Value → World → Prop):Ending → World → Prop:=fun e w' =>
 ∃ v A' n' c',e = .returned v ∧ Str w' br [.slice A' n' c',.bool false] ∧ RdS w' F A' n' c' rest ∧ Step w w' (RdM br) ∧ Q v w'
theorem WOk.startStr {w:World} {p:Nat} {cs:List Value} (h:Str w p cs) (hn:Nat.blt 0 cs.length = true:=by kernel_rfl):WOk w (fun b o=>b = p ∧ o < cs.length) w [⟨p,0,cs,true⟩] []:=by
 have hn':0 < cs.length:=by simpa [Nat.blt_eq] using hn
 exact (WOk.start w _).add ⟨p,0,cs,true⟩ (World.lt_of_cell (h.at_ 0 _ (List.getElem?_eq_getElem hn'))) (fun j v hj=>by rw [Nat.zero_add]; exact h.at_ j v hj) (fun _ j hj=>⟨.inr ⟨rfl,by rw [Nat.zero_add]; exact hj⟩,by rw [Nat.zero_add]; exact h.frz j hj⟩) (fun i o hi=>by simp at hi) (fun i r hi=>by simp at hi)
theorem WOk.wrote {w0 w w':World} {M:Nat → Nat → Prop} {tb:Tb} {rs:List Rw} {p:Nat} {cs cs':List Value} (hW:WOk w0 M w tb rs) (i:Nat) (tb':Tb) (hi:tb[i]? = some ⟨p,0,cs,true⟩) (hst:Step w w' (fun b o=>b = p ∧ o < cs.length)) (hs:Str w' p cs') (ht:tb.set i ⟨p,0,cs',true⟩ = tb':=by rfl) (hl:cs'.length = cs.length:=by rfl) :
  WOk w0 M w' tb' rs ∧ Fr w tb rs w' tb' rs ∧ ∀ {G:Nat → Nat → Prop} (b o:Nat),Fp (Imm G w0 w tb rs) w b o → b < w'.heap.size → Imm G w0 w' tb' rs b o:=by
 subst ht
 have key:∀ (j:Nat) (o:Ob),(tb.set i ⟨p,0,cs',true⟩)[j]? = some o → (j = i ∧ o = ⟨p,0,cs',true⟩) ∨ (j ≠ i ∧ tb[j]? = some o):=fun j o hj=>by
  rcases qcj hj with ⟨h1,h2,_⟩ | ⟨h1,h2⟩
  ·exact .inl ⟨h1,h2⟩
  exact .inr ⟨h1,h2⟩
 have far:∀ (j:Nat) (o:Ob),j ≠ i → tb[j]? = some o → ∀ q,q < o.cells.length → ¬ (o.blk = p ∧ o.off + q < cs.length):=fun j o hne hj q hq e=>by
  rcases hW.apart j i o _ hne hj hi (.inr rfl) with h1 | h1 | h1
  ·exact h1 e.1
  ·simp only [Nat.le_zero] at h1; omega
  simp only [Nat.zero_add] at h1; omega
 have act:∀ b o,Act_ (tb.set i ⟨p,0,cs',true⟩) rs b o → Act_ tb rs b o:=fun b o ha=>by
  rcases ha with ⟨j,ob,hj,h1,h2,h3,h4⟩ | ha
  ·rcases key j ob hj with ⟨rfl,rfl⟩ | ⟨_,hj⟩
   ·exact .inl ⟨j,_,hi,rfl,h2,h3,by simpa [hl] using h4⟩
   exact .inl ⟨j,ob,hj,h1,h2,h3,h4⟩
  exact .inr ha
 refine ⟨⟨hW.step.trans hst fun b o hb e=>?_,?_,?_,?_,?_,?_,hW.ownM,?_,hW.rr⟩,⟨fun b o _ hn ha=>hn (act b o ha),hst.mono fun b o _ e=>.inl ⟨i,_,hi,rfl,e.1.symm,Nat.zero_le _,by simpa using e.2⟩⟩,fun b o hf hb=>?_⟩
 rotate_right
 ·rcases hf with hf | hf
  ·exact ⟨hf.1,hb,fun ha=>hf.2.2 (act b o ha)⟩
  exact ⟨.inr (Nat.le_trans hW.step.size hf),hb,fun ha=>by have:=hW.act_live (act b o ha); omega⟩
 ·have h1:=(hW.rw_ i _ hi rfl o e.2).1
  simp only [Nat.zero_add] at h1
  rcases h1 with h1 | h1
  ·have:=e.1; omega
  rw [e.1]; exact h1
 ·intro j o hj q v hv
  rcases key j o hj with ⟨rfl,rfl⟩ | ⟨hne,hj⟩
  ·dsimp only
   rw [Nat.zero_add]
   exact hs.at_ q v hv
  exact hst.cell (far j o hne hj q (List.getElem?_eq_some_iff.1 hv).1) (hW.cells j o hj q v hv)
 ·intro j o hj
  rcases key j o hj with ⟨rfl,rfl⟩ | ⟨_,hj⟩
  ·have h1:=hW.live j _ hi
   exact Nat.lt_of_lt_of_le h1 hst.size
  exact Nat.lt_of_lt_of_le (hW.live j o hj) hst.size
 ·intro j o hj hr q hq
  rcases key j o hj with ⟨rfl,rfl⟩ | ⟨hne,hj⟩
  ·dsimp only at hq ⊢
   refine ⟨(hW.rw_ j _ hi rfl q (by simpa [hl] using hq)).1,?_⟩
   rw [Nat.zero_add]
   exact hs.frz q hq
  obtain ⟨h1,h2⟩:=hW.rw_ j o hj hr q hq
  exact ⟨h1,hst.frozen (far j o hne hj q hq) (hW.cells j o hj q _ (List.getElem?_eq_getElem hq)) h2⟩
 ·intro j k o o' hjk hj hk hw
  rcases key j o hj with ⟨rfl,rfl⟩ | ⟨hne,hj'⟩
  ·rcases key k o' hk with ⟨rfl,rfl⟩ | ⟨hne',hk'⟩
   ·exact absurd rfl hjk
   have:=hW.apart j k _ o' hjk hi hk' (.inl rfl)
   simpa [hl] using this
  rcases key k o' hk with ⟨rfl,rfl⟩ | ⟨hne',hk'⟩
  ·have:=hW.apart j k o _ hjk hj' hi (.inr rfl)
   simpa [hl] using this
  exact hW.apart j k o o' hjk hj' hk' hw
 ·intro j r hj
  refine qeu (hW.own j r hj) fun g hg=>(hst.keeps g (qbv (hW.own j r hj) hg)).1 fun o e=>?_
  exact hW.rtb j r hj g hg i _ hi e.1.symm
 intro j r hj g hg k o hk
 rcases key k o hk with ⟨rfl,rfl⟩ | ⟨_,hk⟩
 ·have h1:=hW.rtb j r hj g hg k _ hi
  exact h1
 exact hW.rtb j r hj g hg k o hk
theorem WOk.giveUp {G:Nat → Nat → Prop} {w0 w:World} {tb:Tb} {rs:List Rw} {A:Option Addr} {c e:Nat} {s:Bs} (hW:WOk w0 Nil w tb rs) (k:Nat) (rs':List Rw) (hk:rs[k]? = some (brow A c e s)) (hsm:s.length ≤ 1099511627776) (hr:rs.take k = rs':=by rfl):Octs w (Imm G w0 w tb rs') A c s:=by
 subst hr
 refine qbU (hW.own k _ hk) hsm fun g hg o=>?_
 have hb:=qbv (hW.own k _ hk) (r:=brow A c e s) hg
 refine ⟨?_,hb,fun ha=>?_⟩
 ·rcases hW.ownM k _ hk g hg with h2 | h2
  ·exact .inr h2
  exact (h2 0).elim
 rcases ha with ⟨i,ob,h2,_,h3,_⟩ | ⟨i,r,h2,h3⟩
 ·exact hW.rtb k _ hk g hg i ob h2 h3
 rw [List.getElem?_take] at h2
 split at h2
 ·rename_i hlt
  exact hW.rr k i _ r (by omega) hk h2 g hg h3
 cases h2
theorem qiT {G:Nat → Nat → Prop} {w0 w:World} {tb:Tb} {rs:List Rw} {p:Nat} {cs:List Value} (i:Nat) (hi:tb[i]? = some ⟨p,0,cs,true⟩):∀ b o,Imm G w0 w tb rs b o → ¬ (b = p ∧ o < cs.length):=fun b o h e=>by
 obtain ⟨rfl,h2⟩:=e
 exact h.2.2 (.inl ⟨i,_,hi,rfl,rfl,Nat.zero_le _,by simpa using h2⟩)
theorem qc7 {Q:Exit → Act → World → Prop} {a:Act} {w:World} (h:Q .ret a w):Exit.noGoto Q .ret a w:=h
theorem qiU (k:IntKind) (n:Nat) (hn:n = k.bits) (hk:∀ z:Int,0 ≤ z → z < 2 ^ n → k.wrap z = z) (i:Nat) (y x:Int) (h0:0 ≤ y) (h1:y < 2 ^ i) (h2:y < 2 ^ n) (h3:0 ≤ x) (h4:x % 2 ^ i = 0) (h5:x < 2 ^ n) :
  k.wrap (BitVec.ofInt n y ||| BitVec.ofInt n x).toNat = y + x:=by
 subst hn
 exact bits_join_low k k.bits (Nat.le_refl _) hk i y x h0 h1 h2 h3 h4 h5
theorem or32 (i:Nat) (y x:Int) (h0:0 ≤ y) (h1:y < 2 ^ i) (h2:y < 2 ^ 32) (h3:0 ≤ x) (h4:x % 2 ^ i = 0) (h5:x < 2 ^ 32):IntKind.u32.wrap (BitVec.ofInt 32 y ||| BitVec.ofInt 32 x).toNat = y + x :=
 qiU .u32 32 rfl (fun z a b=>by rw [qaA]; omega) i y x h0 h1 h2 h3 h4 h5
theorem or64 (i:Nat) (y x:Int) (h0:0 ≤ y) (h1:y < 2 ^ i) (h2:y < 2 ^ 64) (h3:0 ≤ x) (h4:x % 2 ^ i = 0) (h5:x < 2 ^ 64):IntKind.u64.wrap (BitVec.ofInt 64 y ||| BitVec.ofInt 64 x).toNat = y + x :=
 qiU .u64 64 rfl (fun z a b=>by rw [qaK]; omega) i y x h0 h1 h2 h3 h4 h5
theorem qcx (n:Nat) (h:n < 256):(IntKind.u8.wrap (BitVec.ofInt 8 ((n:Nat):Int) &&& BitVec.ofInt 8 128).toNat == 0) = decide (n < 128):=by
 have:∀ m:Fin 256,(IntKind.u8.wrap (BitVec.ofInt 8 ((m.val:Nat):Int) &&& BitVec.ofInt 8 128).toNat == 0) = decide (m.val < 128):=by decide +kernel
 exact this ⟨n,h⟩
theorem qbY (n:Nat) (h:n < 256):IntKind.u8.wrap (BitVec.ofInt 8 ((n:Nat):Int) &&& BitVec.ofInt 8 127).toNat = ((n % 128:Nat):Int):=by
 have:∀ m:Fin 256,IntKind.u8.wrap (BitVec.ofInt 8 ((m.val:Nat):Int) &&& BitVec.ofInt 8 127).toNat = ((m.val % 128:Nat):Int):=by decide +kernel
 exact this ⟨n,h⟩
def oc (s:Bs) (i:Nat):Nat:=(s.getD i 0).toNat
theorem qbu (s:Bs) (i:Nat):oc s i < 256:=(s.getD i 0).toNat_lt
theorem qiV (b:UInt8) (s:Bs) (i:Nat):oc (b :: s) (i + 1) = oc s i:=rfl
theorem qku (b:UInt8) (s:Bs):oc (b :: s) 0 = b.toNat:=rfl
theorem qj0 (x:Int) (s:Bs):((oc (by8 x :: s) 0:Nat):Int) = x % 256:=by rw [qku,qfJ]
def be32 (s:Bs):Int:=((oc s 0:Nat):Int) * 16777216 + oc s 1 * 65536 + oc s 2 * 256 + oc s 3
def be64 (s:Bs):Int:=((oc s 0:Nat):Int) * 72057594037927936 + oc s 1 * 281474976710656 + oc s 2 * 1099511627776 + oc s 3 * 4294967296 + oc s 4 * 16777216 + oc s 5 * 65536 + oc s 6 * 256 + oc s 7
theorem qkv (x:Int) (s:Bs):be32 (be 4 x ++ s) = IntKind.u32.wrap x:=by
 rw [qaA]
 simp only [be,List.cons_append,List.nil_append,be32,qiV,qj0,Int.reducePow]
 omega
theorem qkw (x:Int) (s:Bs):be64 (be 8 x ++ s) = IntKind.u64.wrap x:=by
 rw [qaK]
 simp only [be,List.cons_append,List.nil_append,be64,qiV,qj0,Int.reducePow]
 omega
theorem i32w (x:Int):IntKind.i32.wrap x = (x + 2147483648) % 4294967296 - 2147483648:=by simp [IntKind.wrap,IntKind.signed,IntKind.bits]; omega
theorem i64w (x:Int):IntKind.i64.wrap x = (x + 9223372036854775808) % 18446744073709551616 - 9223372036854775808:=by simp [IntKind.wrap,IntKind.signed,IntKind.bits]; omega
theorem qkx (x:Int):IntKind.i32.wrap (IntKind.u32.wrap x) = IntKind.i32.wrap x:=by rw [i32w,i32w,qaA]; omega
theorem qky (x:Int):IntKind.i64.wrap (IntKind.u64.wrap x) = IntKind.i64.wrap x:=by rw [i64w,i64w,qaK]; omega
theorem ww32 (x:Int):IntKind.i32.wrap (IntKind.i32.wrap x) = IntKind.i32.wrap x:=by rw [i32w,i32w]; omega
theorem qfx {x:Nat} (s:Bs):oc (uv x ++ s) 0 = if x < 128 then x else x % 128 + 128:=by
 by_cases h:x < 128
 ·rw [qb3 h,if_pos h]
  show (UInt8.ofNat x).toNat = x
  rw [UInt8.toNat_ofNat']; omega
 rw [qdz (by omega),if_neg h]
 show (UInt8.ofNat (x % 128 + 128)).toNat = _
 rw [UInt8.toNat_ofNat']; omega
theorem qdC {x:Nat} (h:128 ≤ x) (s:Bs) (i:Nat):oc (uv x ++ s) (i + 1) = oc (uv (x / 128) ++ s) i:=by
 rw [qdz h]; rfl
theorem qk1 (b0 b1 b2 b3:Nat) (h0:b0 < 256) (h1:b1 < 256) (h2:b2 < 256) (h3:b3 < 256):IntKind.u32.wrap (BitVec.ofInt 32 (IntKind.u32.wrap (BitVec.ofInt 32 (IntKind.u32.wrap (BitVec.ofInt 32 (IntKind.u32.wrap (((b3:Nat):Int))) ||| BitVec.ofInt 32 (IntKind.u32.wrap (IntKind.u32.wrap (((b2:Nat):Int)) * 256))).toNat) ||| BitVec.ofInt 32 (IntKind.u32.wrap (IntKind.u32.wrap (((b1:Nat):Int)) * 65536))).toNat) ||| BitVec.ofInt 32 (IntKind.u32.wrap (IntKind.u32.wrap (((b0:Nat):Int)) * 16777216))).toNat = ((b0:Nat):Int) * 16777216 + ((b1:Nat):Int) * 65536 + ((b2:Nat):Int) * 256 + ((b3:Nat):Int):=by
 have e1:IntKind.u32.wrap (BitVec.ofInt 32 (IntKind.u32.wrap (((b3:Nat):Int))) ||| BitVec.ofInt 32 (IntKind.u32.wrap (IntKind.u32.wrap (((b2:Nat):Int)) * 256))).toNat = ((b3:Nat):Int) + ((b2:Nat):Int) * 256:=by
  rw [or32 8 _ _ (by first | omega | (simp only [qaA]; omega)) (by first | omega | (simp only [qaA]; omega)) (by first | omega | (simp only [qaA]; omega)) (by first | omega | (simp only [qaA]; omega)) (by first | omega | (simp only [qaA]; omega)) (by first | omega | (simp only [qaA]; omega))]; first | omega | (simp only [qaA]; omega)
 have e2:IntKind.u32.wrap (BitVec.ofInt 32 (((b3:Nat):Int) + ((b2:Nat):Int) * 256) ||| BitVec.ofInt 32 (IntKind.u32.wrap (IntKind.u32.wrap (((b1:Nat):Int)) * 65536))).toNat = ((b3:Nat):Int) + ((b2:Nat):Int) * 256 + ((b1:Nat):Int) * 65536:=by
  rw [or32 16 _ _ (by first | omega | (simp only [qaA]; omega)) (by first | omega | (simp only [qaA]; omega)) (by first | omega | (simp only [qaA]; omega)) (by first | omega | (simp only [qaA]; omega)) (by first | omega | (simp only [qaA]; omega)) (by first | omega | (simp only [qaA]; omega))]; first | omega | (simp only [qaA]; omega)
 have e3:IntKind.u32.wrap (BitVec.ofInt 32 (((b3:Nat):Int) + ((b2:Nat):Int) * 256 + ((b1:Nat):Int) * 65536) ||| BitVec.ofInt 32 (IntKind.u32.wrap (IntKind.u32.wrap (((b0:Nat):Int)) * 16777216))).toNat = ((b3:Nat):Int) + ((b2:Nat):Int) * 256 + ((b1:Nat):Int) * 65536 + ((b0:Nat):Int) * 16777216:=by
  rw [or32 24 _ _ (by first | omega | (simp only [qaA]; omega)) (by first | omega | (simp only [qaA]; omega)) (by first | omega | (simp only [qaA]; omega)) (by first | omega | (simp only [qaA]; omega)) (by first | omega | (simp only [qaA]; omega)) (by first | omega | (simp only [qaA]; omega))]; first | omega | (simp only [qaA]; omega)
 rw [e1,e2,e3]
 omega
theorem qk2 (b0 b1 b2 b3 b4 b5 b6 b7:Nat) (h0:b0 < 256) (h1:b1 < 256) (h2:b2 < 256) (h3:b3 < 256) (h4:b4 < 256) (h5:b5 < 256) (h6:b6 < 256) (h7:b7 < 256):IntKind.u64.wrap (BitVec.ofInt 64 (IntKind.u64.wrap (BitVec.ofInt 64 (IntKind.u64.wrap (BitVec.ofInt 64 (IntKind.u64.wrap (BitVec.ofInt 64 (IntKind.u64.wrap (BitVec.ofInt 64 (IntKind.u64.wrap (BitVec.ofInt 64 (IntKind.u64.wrap (BitVec.ofInt 64 (IntKind.u64.wrap (((b7:Nat):Int))) ||| BitVec.ofInt 64 (IntKind.u64.wrap (IntKind.u64.wrap (((b6:Nat):Int)) * 256))).toNat) ||| BitVec.ofInt 64 (IntKind.u64.wrap (IntKind.u64.wrap (((b5:Nat):Int)) * 65536))).toNat) ||| BitVec.ofInt 64 (IntKind.u64.wrap (IntKind.u64.wrap (((b4:Nat):Int)) * 16777216))).toNat) ||| BitVec.ofInt 64 (IntKind.u64.wrap (IntKind.u64.wrap (((b3:Nat):Int)) * 4294967296))).toNat) ||| BitVec.ofInt 64 (IntKind.u64.wrap (IntKind.u64.wrap (((b2:Nat):Int)) * 1099511627776))).toNat) ||| BitVec.ofInt 64 (IntKind.u64.wrap (IntKind.u64.wrap (((b1:Nat):Int)) * 281474976710656))).toNat) ||| BitVec.ofInt 64 (IntKind.u64.wrap (IntKind.u64.wrap (((b0:Nat):Int)) * 72057594037927936))).toNat = ((b0:Nat):Int) * 72057594037927936 + ((b1:Nat):Int) * 281474976710656 + ((b2:Nat):Int) * 1099511627776 + ((b3:Nat):Int) * 4294967296 + ((b4:Nat):Int) * 16777216 + ((b5:Nat):Int) * 65536 + ((b6:Nat):Int) * 256 + ((b7:Nat):Int):=by
 have e1:IntKind.u64.wrap (BitVec.ofInt 64 (IntKind.u64.wrap (((b7:Nat):Int))) ||| BitVec.ofInt 64 (IntKind.u64.wrap (IntKind.u64.wrap (((b6:Nat):Int)) * 256))).toNat = ((b7:Nat):Int) + ((b6:Nat):Int) * 256:=by
  rw [or64 8 _ _ (by first | omega | (simp only [qaK]; omega)) (by first | omega | (simp only [qaK]; omega)) (by first | omega | (simp only [qaK]; omega)) (by first | omega | (simp only [qaK]; omega)) (by first | omega | (simp only [qaK]; omega)) (by first | omega | (simp only [qaK]; omega))]; first | omega | (simp only [qaK]; omega)
 have e2:IntKind.u64.wrap (BitVec.ofInt 64 (((b7:Nat):Int) + ((b6:Nat):Int) * 256) ||| BitVec.ofInt 64 (IntKind.u64.wrap (IntKind.u64.wrap (((b5:Nat):Int)) * 65536))).toNat = ((b7:Nat):Int) + ((b6:Nat):Int) * 256 + ((b5:Nat):Int) * 65536:=by
  rw [or64 16 _ _ (by first | omega | (simp only [qaK]; omega)) (by first | omega | (simp only [qaK]; omega)) (by first | omega | (simp only [qaK]; omega)) (by first | omega | (simp only [qaK]; omega)) (by first | omega | (simp only [qaK]; omega)) (by first | omega | (simp only [qaK]; omega))]; first | omega | (simp only [qaK]; omega)
 have e3:IntKind.u64.wrap (BitVec.ofInt 64 (((b7:Nat):Int) + ((b6:Nat):Int) * 256 + ((b5:Nat):Int) * 65536) ||| BitVec.ofInt 64 (IntKind.u64.wrap (IntKind.u64.wrap (((b4:Nat):Int)) * 16777216))).toNat = ((b7:Nat):Int) + ((b6:Nat):Int) * 256 + ((b5:Nat):Int) * 65536 + ((b4:Nat):Int) * 16777216:=by
  rw [or64 24 _ _ (by first | omega | (simp only [qaK]; omega)) (by first | omega | (simp only [qaK]; omega)) (by first | omega | (simp only [qaK]; omega)) (by first | omega | (simp only [qaK]; omega)) (by first | omega | (simp only [qaK]; omega)) (by first | omega | (simp only [qaK]; omega))]; first | omega | (simp only [qaK]; omega)
 have e4:IntKind.u64.wrap (BitVec.ofInt 64 (((b7:Nat):Int) + ((b6:Nat):Int) * 256 + ((b5:Nat):Int) * 65536 + ((b4:Nat):Int) * 16777216) ||| BitVec.ofInt 64 (IntKind.u64.wrap (IntKind.u64.wrap (((b3:Nat):Int)) * 4294967296))).toNat = ((b7:Nat):Int) + ((b6:Nat):Int) * 256 + ((b5:Nat):Int) * 65536 + ((b4:Nat):Int) * 16777216 + ((b3:Nat):Int) * 4294967296:=by
  rw [or64 32 _ _ (by first | omega | (simp only [qaK]; omega)) (by first | omega | (simp only [qaK]; omega)) (by first | omega | (simp only [qaK]; omega)) (by first | omega | (simp only [qaK]; omega)) (by first | omega | (simp only [qaK]; omega)) (by first | omega | (simp only [qaK]; omega))]; first | omega | (simp only [qaK]; omega)
 have e5:IntKind.u64.wrap (BitVec.ofInt 64 (((b7:Nat):Int) + ((b6:Nat):Int) * 256 + ((b5:Nat):Int) * 65536 + ((b4:Nat):Int) * 16777216 + ((b3:Nat):Int) * 4294967296) ||| BitVec.ofInt 64 (IntKind.u64.wrap (IntKind.u64.wrap (((b2:Nat):Int)) * 1099511627776))).toNat = ((b7:Nat):Int) + ((b6:Nat):Int) * 256 + ((b5:Nat):Int) * 65536 + ((b4:Nat):Int) * 16777216 + ((b3:Nat):Int) * 4294967296 + ((b2:Nat):Int) * 1099511627776:=by
  rw [or64 40 _ _ (by first | omega | (simp only [qaK]; omega)) (by first | omega | (simp only [qaK]; omega)) (by first | omega | (simp only [qaK]; omega)) (by first | omega | (simp only [qaK]; omega)) (by first | omega | (simp only [qaK]; omega)) (by first | omega | (simp only [qaK]; omega))]; first | omega | (simp only [qaK]; omega)
 have e6:IntKind.u64.wrap (BitVec.ofInt 64 (((b7:Nat):Int) + ((b6:Nat):Int) * 256 + ((b5:Nat):Int) * 65536 + ((b4:Nat):Int) * 16777216 + ((b3:Nat):Int) * 4294967296 + ((b2:Nat):Int) * 1099511627776) ||| BitVec.ofInt 64 (IntKind.u64.wrap (IntKind.u64.wrap (((b1:Nat):Int)) * 281474976710656))).toNat = ((b7:Nat):Int) + ((b6:Nat):Int) * 256 + ((b5:Nat):Int) * 65536 + ((b4:Nat):Int) * 16777216 + ((b3:Nat):Int) * 4294967296 + ((b2:Nat):Int) * 1099511627776 + ((b1:Nat):Int) * 281474976710656:=by
  rw [or64 48 _ _ (by first | omega | (simp only [qaK]; omega)) (by first | omega | (simp only [qaK]; omega)) (by first | omega | (simp only [qaK]; omega)) (by first | omega | (simp only [qaK]; omega)) (by first | omega | (simp only [qaK]; omega)) (by first | omega | (simp only [qaK]; omega))]; first | omega | (simp only [qaK]; omega)
 have e7:IntKind.u64.wrap (BitVec.ofInt 64 (((b7:Nat):Int) + ((b6:Nat):Int) * 256 + ((b5:Nat):Int) * 65536 + ((b4:Nat):Int) * 16777216 + ((b3:Nat):Int) * 4294967296 + ((b2:Nat):Int) * 1099511627776 + ((b1:Nat):Int) * 281474976710656) ||| BitVec.ofInt 64 (IntKind.u64.wrap (IntKind.u64.wrap (((b0:Nat):Int)) * 72057594037927936))).toNat = ((b7:Nat):Int) + ((b6:Nat):Int) * 256 + ((b5:Nat):Int) * 65536 + ((b4:Nat):Int) * 16777216 + ((b3:Nat):Int) * 4294967296 + ((b2:Nat):Int) * 1099511627776 + ((b1:Nat):Int) * 281474976710656 + ((b0:Nat):Int) * 72057594037927936:=by
  rw [or64 56 _ _ (by first | omega | (simp only [qaK]; omega)) (by first | omega | (simp only [qaK]; omega)) (by first | omega | (simp only [qaK]; omega)) (by first | omega | (simp only [qaK]; omega)) (by first | omega | (simp only [qaK]; omega)) (by first | omega | (simp only [qaK]; omega))]; first | omega | (simp only [qaK]; omega)
 rw [e1,e2,e3,e4,e5,e6,e7]
 omega
theorem uv_1 (b0:Nat) (h0:b0 < 256):IntKind.u32.wrap (IntKind.u8.wrap (BitVec.ofInt 8 ((b0:Nat):Int) &&& BitVec.ofInt 8 127).toNat) = ((b0 % 128:Nat):Int):=by
 rw [qbY b0 h0,qaA]; omega
theorem uv_2 (b0 b1:Nat) (h0:b0 < 256) (h1:b1 < 256):IntKind.u32.wrap (BitVec.ofInt 32 (IntKind.u32.wrap (IntKind.u8.wrap (BitVec.ofInt 8 ((b0:Nat):Int) &&& BitVec.ofInt 8 127).toNat)) ||| BitVec.ofInt 32 (IntKind.u32.wrap (IntKind.u32.wrap (IntKind.u8.wrap (BitVec.ofInt 8 ((b1:Nat):Int) &&& BitVec.ofInt 8 127).toNat) * 128))).toNat = ((b0 % 128:Nat):Int) + ((b1 % 128:Nat):Int) * 128:=by
 have e1:IntKind.u32.wrap (BitVec.ofInt 32 (IntKind.u32.wrap (IntKind.u8.wrap (BitVec.ofInt 8 ((b0:Nat):Int) &&& BitVec.ofInt 8 127).toNat)) ||| BitVec.ofInt 32 (IntKind.u32.wrap (IntKind.u32.wrap (IntKind.u8.wrap (BitVec.ofInt 8 ((b1:Nat):Int) &&& BitVec.ofInt 8 127).toNat) * 128))).toNat = ((b0 % 128:Nat):Int) + ((b1 % 128:Nat):Int) * 128:=by
  rw [qbY b1 h1,qbY b0 h0]; rw [or32 7 _ _ (by first | omega | (simp only [qaA]; omega)) (by first | omega | (simp only [qaA]; omega)) (by first | omega | (simp only [qaA]; omega)) (by first | omega | (simp only [qaA]; omega)) (by first | omega | (simp only [qaA]; omega)) (by first | omega | (simp only [qaA]; omega))]; first | omega | (simp only [qaA]; omega)
 rw [e1]
theorem uv_3 (b0 b1 b2:Nat) (h0:b0 < 256) (h1:b1 < 256) (h2:b2 < 256):IntKind.u32.wrap (BitVec.ofInt 32 (IntKind.u32.wrap (BitVec.ofInt 32 (IntKind.u32.wrap (IntKind.u8.wrap (BitVec.ofInt 8 ((b0:Nat):Int) &&& BitVec.ofInt 8 127).toNat)) ||| BitVec.ofInt 32 (IntKind.u32.wrap (IntKind.u32.wrap (IntKind.u8.wrap (BitVec.ofInt 8 ((b1:Nat):Int) &&& BitVec.ofInt 8 127).toNat) * 128))).toNat) ||| BitVec.ofInt 32 (IntKind.u32.wrap (IntKind.u32.wrap (IntKind.u8.wrap (BitVec.ofInt 8 ((b2:Nat):Int) &&& BitVec.ofInt 8 127).toNat) * 16384))).toNat = ((b0 % 128:Nat):Int) + ((b1 % 128:Nat):Int) * 128 + ((b2 % 128:Nat):Int) * 16384:=by
 have e1:IntKind.u32.wrap (BitVec.ofInt 32 (IntKind.u32.wrap (IntKind.u8.wrap (BitVec.ofInt 8 ((b0:Nat):Int) &&& BitVec.ofInt 8 127).toNat)) ||| BitVec.ofInt 32 (IntKind.u32.wrap (IntKind.u32.wrap (IntKind.u8.wrap (BitVec.ofInt 8 ((b1:Nat):Int) &&& BitVec.ofInt 8 127).toNat) * 128))).toNat = ((b0 % 128:Nat):Int) + ((b1 % 128:Nat):Int) * 128:=by
  rw [qbY b1 h1,qbY b0 h0]; rw [or32 7 _ _ (by first | omega | (simp only [qaA]; omega)) (by first | omega | (simp only [qaA]; omega)) (by first | omega | (simp only [qaA]; omega)) (by first | omega | (simp only [qaA]; omega)) (by first | omega | (simp only [qaA]; omega)) (by first | omega | (simp only [qaA]; omega))]; first | omega | (simp only [qaA]; omega)
 have e2:IntKind.u32.wrap (BitVec.ofInt 32 (((b0 % 128:Nat):Int) + ((b1 % 128:Nat):Int) * 128) ||| BitVec.ofInt 32 (IntKind.u32.wrap (IntKind.u32.wrap (IntKind.u8.wrap (BitVec.ofInt 8 ((b2:Nat):Int) &&& BitVec.ofInt 8 127).toNat) * 16384))).toNat = ((b0 % 128:Nat):Int) + ((b1 % 128:Nat):Int) * 128 + ((b2 % 128:Nat):Int) * 16384:=by
  rw [qbY b2 h2]; rw [or32 14 _ _ (by first | omega | (simp only [qaA]; omega)) (by first | omega | (simp only [qaA]; omega)) (by first | omega | (simp only [qaA]; omega)) (by first | omega | (simp only [qaA]; omega)) (by first | omega | (simp only [qaA]; omega)) (by first | omega | (simp only [qaA]; omega))]; first | omega | (simp only [qaA]; omega)
 rw [e1,e2]
theorem uv_4 (b0 b1 b2 b3:Nat) (h0:b0 < 256) (h1:b1 < 256) (h2:b2 < 256) (h3:b3 < 256):IntKind.u32.wrap (BitVec.ofInt 32 (IntKind.u32.wrap (BitVec.ofInt 32 (IntKind.u32.wrap (BitVec.ofInt 32 (IntKind.u32.wrap (IntKind.u8.wrap (BitVec.ofInt 8 ((b0:Nat):Int) &&& BitVec.ofInt 8 127).toNat)) ||| BitVec.ofInt 32 (IntKind.u32.wrap (IntKind.u32.wrap (IntKind.u8.wrap (BitVec.ofInt 8 ((b1:Nat):Int) &&& BitVec.ofInt 8 127).toNat) * 128))).toNat) ||| BitVec.ofInt 32 (IntKind.u32.wrap (IntKind.u32.wrap (IntKind.u8.wrap (BitVec.ofInt 8 ((b2:Nat):Int) &&& BitVec.ofInt 8 127).toNat) * 16384))).toNat) ||| BitVec.ofInt 32 (IntKind.u32.wrap (IntKind.u32.wrap (IntKind.u8.wrap (BitVec.ofInt 8 ((b3:Nat):Int) &&& BitVec.ofInt 8 127).toNat) * 2097152))).toNat = ((b0 % 128:Nat):Int) + ((b1 % 128:Nat):Int) * 128 + ((b2 % 128:Nat):Int) * 16384 + ((b3 % 128:Nat):Int) * 2097152:=by
 have e1:IntKind.u32.wrap (BitVec.ofInt 32 (IntKind.u32.wrap (IntKind.u8.wrap (BitVec.ofInt 8 ((b0:Nat):Int) &&& BitVec.ofInt 8 127).toNat)) ||| BitVec.ofInt 32 (IntKind.u32.wrap (IntKind.u32.wrap (IntKind.u8.wrap (BitVec.ofInt 8 ((b1:Nat):Int) &&& BitVec.ofInt 8 127).toNat) * 128))).toNat = ((b0 % 128:Nat):Int) + ((b1 % 128:Nat):Int) * 128:=by
  rw [qbY b1 h1,qbY b0 h0]; rw [or32 7 _ _ (by first | omega | (simp only [qaA]; omega)) (by first | omega | (simp only [qaA]; omega)) (by first | omega | (simp only [qaA]; omega)) (by first | omega | (simp only [qaA]; omega)) (by first | omega | (simp only [qaA]; omega)) (by first | omega | (simp only [qaA]; omega))]; first | omega | (simp only [qaA]; omega)
 have e2:IntKind.u32.wrap (BitVec.ofInt 32 (((b0 % 128:Nat):Int) + ((b1 % 128:Nat):Int) * 128) ||| BitVec.ofInt 32 (IntKind.u32.wrap (IntKind.u32.wrap (IntKind.u8.wrap (BitVec.ofInt 8 ((b2:Nat):Int) &&& BitVec.ofInt 8 127).toNat) * 16384))).toNat = ((b0 % 128:Nat):Int) + ((b1 % 128:Nat):Int) * 128 + ((b2 % 128:Nat):Int) * 16384:=by
  rw [qbY b2 h2]; rw [or32 14 _ _ (by first | omega | (simp only [qaA]; omega)) (by first | omega | (simp only [qaA]; omega)) (by first | omega | (simp only [qaA]; omega)) (by first | omega | (simp only [qaA]; omega)) (by first | omega | (simp only [qaA]; omega)) (by first | omega | (simp only [qaA]; omega))]; first | omega | (simp only [qaA]; omega)
 have e3:IntKind.u32.wrap (BitVec.ofInt 32 (((b0 % 128:Nat):Int) + ((b1 % 128:Nat):Int) * 128 + ((b2 % 128:Nat):Int) * 16384) ||| BitVec.ofInt 32 (IntKind.u32.wrap (IntKind.u32.wrap (IntKind.u8.wrap (BitVec.ofInt 8 ((b3:Nat):Int) &&& BitVec.ofInt 8 127).toNat) * 2097152))).toNat = ((b0 % 128:Nat):Int) + ((b1 % 128:Nat):Int) * 128 + ((b2 % 128:Nat):Int) * 16384 + ((b3 % 128:Nat):Int) * 2097152:=by
  rw [qbY b3 h3]; rw [or32 21 _ _ (by first | omega | (simp only [qaA]; omega)) (by first | omega | (simp only [qaA]; omega)) (by first | omega | (simp only [qaA]; omega)) (by first | omega | (simp only [qaA]; omega)) (by first | omega | (simp only [qaA]; omega)) (by first | omega | (simp only [qaA]; omega))]; first | omega | (simp only [qaA]; omega)
 rw [e1,e2,e3]
theorem uv_5 (b0 b1 b2 b3 b4:Nat) (h0:b0 < 256) (h1:b1 < 256) (h2:b2 < 256) (h3:b3 < 256) (h4:b4 < 16):IntKind.u32.wrap (BitVec.ofInt 32 (IntKind.u32.wrap (BitVec.ofInt 32 (IntKind.u32.wrap (BitVec.ofInt 32 (IntKind.u32.wrap (BitVec.ofInt 32 (IntKind.u32.wrap (IntKind.u8.wrap (BitVec.ofInt 8 ((b0:Nat):Int) &&& BitVec.ofInt 8 127).toNat)) ||| BitVec.ofInt 32 (IntKind.u32.wrap (IntKind.u32.wrap (IntKind.u8.wrap (BitVec.ofInt 8 ((b1:Nat):Int) &&& BitVec.ofInt 8 127).toNat) * 128))).toNat) ||| BitVec.ofInt 32 (IntKind.u32.wrap (IntKind.u32.wrap (IntKind.u8.wrap (BitVec.ofInt 8 ((b2:Nat):Int) &&& BitVec.ofInt 8 127).toNat) * 16384))).toNat) ||| BitVec.ofInt 32 (IntKind.u32.wrap (IntKind.u32.wrap (IntKind.u8.wrap (BitVec.ofInt 8 ((b3:Nat):Int) &&& BitVec.ofInt 8 127).toNat) * 2097152))).toNat) ||| BitVec.ofInt 32 (IntKind.u32.wrap (IntKind.u32.wrap (((b4:Nat):Int)) * 268435456))).toNat = ((b0 % 128:Nat):Int) + ((b1 % 128:Nat):Int) * 128 + ((b2 % 128:Nat):Int) * 16384 + ((b3 % 128:Nat):Int) * 2097152 + ((b4:Nat):Int) * 268435456:=by
 have e1:IntKind.u32.wrap (BitVec.ofInt 32 (IntKind.u32.wrap (IntKind.u8.wrap (BitVec.ofInt 8 ((b0:Nat):Int) &&& BitVec.ofInt 8 127).toNat)) ||| BitVec.ofInt 32 (IntKind.u32.wrap (IntKind.u32.wrap (IntKind.u8.wrap (BitVec.ofInt 8 ((b1:Nat):Int) &&& BitVec.ofInt 8 127).toNat) * 128))).toNat = ((b0 % 128:Nat):Int) + ((b1 % 128:Nat):Int) * 128:=by
  rw [qbY b1 h1,qbY b0 h0]; rw [or32 7 _ _ (by first | omega | (simp only [qaA]; omega)) (by first | omega | (simp only [qaA]; omega)) (by first | omega | (simp only [qaA]; omega)) (by first | omega | (simp only [qaA]; omega)) (by first | omega | (simp only [qaA]; omega)) (by first | omega | (simp only [qaA]; omega))]; first | omega | (simp only [qaA]; omega)
 have e2:IntKind.u32.wrap (BitVec.ofInt 32 (((b0 % 128:Nat):Int) + ((b1 % 128:Nat):Int) * 128) ||| BitVec.ofInt 32 (IntKind.u32.wrap (IntKind.u32.wrap (IntKind.u8.wrap (BitVec.ofInt 8 ((b2:Nat):Int) &&& BitVec.ofInt 8 127).toNat) * 16384))).toNat = ((b0 % 128:Nat):Int) + ((b1 % 128:Nat):Int) * 128 + ((b2 % 128:Nat):Int) * 16384:=by
  rw [qbY b2 h2]; rw [or32 14 _ _ (by first | omega | (simp only [qaA]; omega)) (by first | omega | (simp only [qaA]; omega)) (by first | omega | (simp only [qaA]; omega)) (by first | omega | (simp only [qaA]; omega)) (by first | omega | (simp only [qaA]; omega)) (by first | omega | (simp only [qaA]; omega))]; first | omega | (simp only [qaA]; omega)
 have e3:IntKind.u32.wrap (BitVec.ofInt 32 (((b0 % 128:Nat):Int) + ((b1 % 128:Nat):Int) * 128 + ((b2 % 128:Nat):Int) * 16384) ||| BitVec.ofInt 32 (IntKind.u32.wrap (IntKind.u32.wrap (IntKind.u8.wrap (BitVec.ofInt 8 ((b3:Nat):Int) &&& BitVec.ofInt 8 127).toNat) * 2097152))).toNat = ((b0 % 128:Nat):Int) + ((b1 % 128:Nat):Int) * 128 + ((b2 % 128:Nat):Int) * 16384 + ((b3 % 128:Nat):Int) * 2097152:=by
  rw [qbY b3 h3]; rw [or32 21 _ _ (by first | omega | (simp only [qaA]; omega)) (by first | omega | (simp only [qaA]; omega)) (by first | omega | (simp only [qaA]; omega)) (by first | omega | (simp only [qaA]; omega)) (by first | omega | (simp only [qaA]; omega)) (by first | omega | (simp only [qaA]; omega))]; first | omega | (simp only [qaA]; omega)
 have e4:IntKind.u32.wrap (BitVec.ofInt 32 (((b0 % 128:Nat):Int) + ((b1 % 128:Nat):Int) * 128 + ((b2 % 128:Nat):Int) * 16384 + ((b3 % 128:Nat):Int) * 2097152) ||| BitVec.ofInt 32 (IntKind.u32.wrap (IntKind.u32.wrap (((b4:Nat):Int)) * 268435456))).toNat = ((b0 % 128:Nat):Int) + ((b1 % 128:Nat):Int) * 128 + ((b2 % 128:Nat):Int) * 16384 + ((b3 % 128:Nat):Int) * 2097152 + ((b4:Nat):Int) * 268435456:=by
  rw [or32 28 _ _ (by first | omega | (simp only [qaA]; omega)) (by first | omega | (simp only [qaA]; omega)) (by first | omega | (simp only [qaA]; omega)) (by first | omega | (simp only [qaA]; omega)) (by first | omega | (simp only [qaA]; omega)) (by first | omega | (simp only [qaA]; omega))]; first | omega | (simp only [qaA]; omega)
 rw [e1,e2,e3,e4]
theorem qk3 {G:Nat → Nat → Prop} {w0 w:World} {tb:Tb} {rs:List Rw} {p n:Nat} {cs:List Value} (i:Nat) (hi:tb[i]? = some ⟨p,0,cs,true⟩) (hn:cs.length = n:=by rfl):∀ b o,Imm G w0 w tb rs b o → ¬ (b = p ∧ o < n):=by
 subst hn
 exact qiT i hi
theorem qfe {G:Nat → Nat → Prop} {w0 w:World} {tb:Tb} {rs:List Rw} {p:Nat} {x y:Value} (i:Nat) (hi:tb[i]? = some ⟨p,0,[x,y],true⟩):∀ b o,Imm G w0 w tb rs b o → ¬ RdM p b o:=qiT i hi
theorem WOk.immM {G:Nat → Nat → Prop} {w0 w:World} {M:Nat → Nat → Prop} {tb:Tb} {rs:List Rw} (h:WOk w0 M w tb rs) (hd:∀ b o,G b o → ¬ M b o):∀ b o,G b o → b < w0.heap.size → Imm G w0 w tb rs b o:=by
 refine fun b o hg hb=>⟨.inl hg,Nat.lt_of_lt_of_le hb h.step.size,fun ha=>hd b o hg ?_⟩
 rcases ha with ⟨i,ob,hi,hr,rfl,h1,h2⟩ | ⟨i,r,hi,hr⟩
 ·have:=(h.rw_ i ob hi hr (o - ob.off) (by omega)).1
  rw [show ob.off + (o - ob.off) = o by omega] at this
  rcases this with h3 | h3
  ·omega
  exact h3
 rcases h.ownM i r hi b hr with h3 | h3
 ·omega
 exact h3 o
section
variable {w0 w:World} {M:Nat → Nat → Prop} {tb:Tb} {rs:List Rw}
theorem WOk.layRowM {g c e size n k:Nat} {xs:List Value} (hW:WOk w0 M w tb rs) (hk:rs[k]? = some ⟨some ⟨g,0,none⟩,c,e,size,n,xs⟩) (hl:k + 1 = rs.length) (hm:w0.heap.size ≤ g) (rs':List Rw) (tb':Tb) (hr:rs.take k = rs':=by rfl) (ht:tb ++ [⟨g,0,xs,true⟩] = tb':=by rfl):WOk w0 M w tb' rs' ∧ Fr w tb rs w tb' rs':=by
 subst hr ht
 have ho:=hW.own k _ hk
 have hlive:=qbv ho (g:=g) rfl
 have hfz:∀ j,w.frozen? ⟨g,j,none⟩ = false:=fun j=>by
  rcases ho.2 with ⟨hv,_⟩ | ⟨g',cap,cur,hv,_,hg,_⟩
  ·cases hv
  simp only [Rw.v,Value.slice.injEq,Option.some.injEq,Addr.mk.injEq,and_true] at hv
  obtain ⟨rfl,_⟩:=hv
  unfold World.frozen?
  rw [hg]
  simp
 have hlt:∀ (j:Nat) (r:Rw),(rs.take k)[j]? = some r → j ≠ k ∧ rs[j]? = some r:=fun j r hj=>by
  rw [List.getElem?_take] at hj
  split at hj
  ·exact ⟨by omega,hj⟩
  cases hj
 refine ⟨(hW.rows k).add ⟨g,0,xs,true⟩ hlive (fun j v hj=>?_) (fun _ j _=>⟨.inl hm,by dsimp only; rw [Nat.zero_add]; exact hfz j⟩) (fun i q hi _=>.inl (hW.rtb k _ hk g rfl i q hi)) (fun i r hi he=>?_),⟨fun x y _ hn ha=>hn ?_,Step.refl _ _⟩⟩
 ·have:=ho.cells (g:=g) rfl j v hj
  rw [qbm] at this
  dsimp only
  exact this
 ·obtain ⟨h1,h2⟩:=hlt i r hi
  exact hW.rr k i _ r (fun e=>h1 e.symm) hk h2 g rfl he
 rcases ha with ⟨j,q,hj,h1,h2,h3,h4⟩ | ⟨j,r,hj,h1⟩
 ·by_cases hjt:j < tb.length
  ·rw [List.getElem?_append_left hjt] at hj
   exact .inl ⟨j,q,hj,h1,h2,h3,h4⟩
  rw [List.getElem?_append_right (Nat.not_lt.1 hjt)] at hj
  have hq:q = ⟨g,0,xs,true⟩:=by
   rcases Nat.eq_zero_or_pos (j - tb.length) with h | h
   ·rw [h] at hj; exact (Option.some.inj hj).symm
   rw [List.getElem?_eq_none (by simp only [List.length_cons,List.length_nil]; omega)] at hj; cases hj
  subst hq
  exact .inr ⟨k,_,hk,by rw [← h2]; rfl⟩
 exact .inr ⟨j,r,(hlt j r hj).2,h1⟩
def qbZ (z:Value) (j:Nat):List Value:=(Builtin.zeroCells z.cells j).toList
variable {P:Program} {ops:Array Oper} {Q:Exit → Act → World → Prop} {n:Nat} {env:Env} {a:Act}
theorem qdN {w:World} (size len cap:Nat) (A:Option Addr):(Builtin.firstCells size 0 (.slice A len cap)).run P w = .ok #[] w:=by
 cases A with
 | none=>exact run_firstCells_none w size 0 len cap
 | some b=>exact run_firstCells_some w size 0 b len cap [] (by simp) (fun j v h=>by simp at h)
theorem qek (w:World) (t tn ty e:TypeId) (A0:Option Addr) (i:TypeInfo) (z:Value) (k kn:IntKind) (ht:P.underlying t = some (.slice e)) (htn:P.underlying tn = some (.int kn)) (hi:P.info? e = some i) (hz:i.zero = some z)
  (n:Nat) (h0:0 < n) (hs:0 < i.size) (h63:(n:Int) ≤ 9223372036854775807) (h48:n * i.bytes ≤ 281474976710656) :
  (Builtin.append_ #[t,tn] ty #[.slice A0 0 0,.int k n]).run P w =
   .ok (.slice (some ⟨w.heap.size,0,none⟩) n (grownCap w n 0 e)) (w.drew.alloc (.cells (Builtin.zeroCells z.cells n ++ Builtin.zeroCells z.cells (grownCap w n 0 e - n)) e)):=by
 cases A0 with
 | none=>exact Lib.run_append_nil_zeros w t tn ty e i z k kn ht htn hi hz n h0 hs h63 h48
 | some b =>
  have hn:n ≠ 0:=by omega
  have hw:IntKind.i64.wrap (n:Int) = n:=by rw [IntKind.wrap_i64]; omega
  have h63':¬ (9223372036854775807 < (n:Int)):=by omega
  have h48':¬ (281474976710656 < Builtin.nextslicecap n 0 * i.bytes):=by rw [nextslicecap_zero h0]; omega
  have h48i:¬ (281474976710656 < (n:Int) * (i.bytes:Int)):=by
   rw [← Int.natCast_mul]
   omega
  have hneg:¬ ((n:Int) < 0):=by omega
  have hns:¬ (n * i.size = 0):=Nat.mul_ne_zero hn (by omega)
  simp [Builtin.append_,run_underlying ht,run_underlying htn,sizeOf,typeInfo,zeroValue,hi,hz,asInt,asIntOf,hw,hn,hneg,hns,h63',h48',h48i,Question.forced,qdN,newRow,grownCap]
theorem qgf {i d j:Nat} {A0:Option Addr} {t tn e:TypeId} {size bytes:Nat} {k kn:IntKind} {q:Int} {z:Value} {N:Act → World → Prop} (hW:WOk w0 M w tb rs) (hE:EnvOk n tb env a)
  (h:appE tb env ops n i = some (t,tn,.slice A0 0 0,.int k q,d)) (ht:qcb P t = some (e,size,bytes)) (htn:P.underlying tn = some (.int kn)) (hz:(P.info? e).bind (·.zero) = some z)
  (hq:q = (j:Int)) (hj:0 < j) (hb:j * bytes ≤ 140737488355328)
  (K:∀ b c a' w',b = w.heap.size → w0.heap.size ≤ b → Fr w tb rs w' tb (rs ++ [⟨some ⟨b,0,none⟩,c,e,size,j,qbZ z j⟩]) → WOk w0 M w' tb (rs ++ [⟨some ⟨b,0,none⟩,c,e,size,j,qbZ z j⟩]) →
   EnvOk n tb ((d,.v (.slice (some ⟨b,0,none⟩) j c)) :: env) a' → N a' w'):wpOp P ops Q i N a w:=by
 subst hq
 obtain ⟨ht',inf,z',hi,hz',hzs,hs1,rfl,hsz,hbp⟩:=qbL ht
 have hzz:z' = z:=by rw [hi] at hz; simpa [hz'] using hz
 subst hzz
 obtain ⟨op,ho,hd,hrun⟩:=qh0 (P:=P) (w:=w) hE h
 obtain ⟨o,h1,h2,h3,h4,h5⟩:=qbe hE ho
 have hjm:j ≤ maxLen:=by
  have:=Nat.le_mul_of_pos_right j hbp
  simp only [maxLen]; omega
 have hr:=qek (P:=P) w t tn o.type e A0 inf z' k kn ht' htn hi hz' j hj (by omega) (by simp only [maxLen] at hjm; omega) (by omega)
 have hge:=grownCap_ge w j 0 e
 have hcm:=grownCap_le_maxLen w j 0 e hjm
 have hst:Step w (w.drew.alloc (.cells (Builtin.zeroCells z'.cells j ++ Builtin.zeroCells z'.cells (grownCap w j 0 e - j)) e)) Nil:=(Step.drew w).trans (Step.alloc _ _) fun _ _ _ h=>h
 have hown:(w.drew.alloc (.cells (Builtin.zeroCells z'.cells j ++ Builtin.zeroCells z'.cells (grownCap w j 0 e - j)) e)).ownsRow w.heap.size e size (.slice (some ⟨w.heap.size,0,none⟩) j (grownCap w j 0 e)) j (qbZ z' j):=by
  refine ⟨by unfold qbZ; rw [Array.length_toList,size_zeroCells,hzs,hs1],.inr ⟨w.heap.size,grownCap w j 0 e,_,rfl,Nat.le_refl _,qca w.drew _,hge,hcm,?_,?_⟩⟩
  ·rw [Array.size_append,size_zeroCells,size_zeroCells,hzs,hs1,← Nat.add_mul]
   congr 1
   omega
  unfold qbZ
  rw [Array.toList_append]
  exact List.take_left' (by rw [Array.length_toList,size_zeroCells,hzs,hs1])
 simp only [wpOp,h1]
 have:Region.wanted o (yielded ops a.tmps) = true:=by first | exact h2 | simp [Region.wanted,h2]
 rw [this]
 simp only [if_true]
 refine .inl ?_
 unfold Oper.wp
 rw [hrun o _ _ h5 hr,Oper.upon,h3]
 exact K w.heap.size _ _ _ rfl hW.step.size (Fr.fresh tb rs hst ⟨some ⟨w.heap.size,0,none⟩,grownCap w j 0 e,e,size,j,qbZ z' j⟩ (Nat.le_refl _) hown) (hW.fresh hst ⟨some ⟨w.heap.size,0,none⟩,grownCap w j 0 e,e,size,j,qbZ z' j⟩ (Nat.le_refl _) hown) (hE.put hd (.v _) trivial)
theorem qgC (z:Value) (j:Nat):qbZ z (j + 1) = z.cells.toList ++ qbZ z j:=by
 refine List.ext_getElem? fun i=>?_
 unfold qbZ Builtin.zeroCells
 rw [List.getElem?_append]
 simp only [Array.toList_map,Array.toList_range,List.getElem?_map,Array.length_toList,Array.getElem?_toList]
 by_cases h:i < z.cells.size
 ·have h2:i < (j + 1) * z.cells.size:=Nat.lt_of_lt_of_le h (Nat.le_mul_of_pos_left _ (Nat.succ_pos j))
  rw [if_pos h,List.getElem?_range h2,Option.map_some,Nat.mod_eq_of_lt h,getElem!_pos z.cells i h,Array.getElem?_eq_getElem h]
 rw [if_neg h]
 by_cases h2:i < (j + 1) * z.cells.size
 ·have h3:i - z.cells.size < j * z.cells.size:=by rw [Nat.succ_mul] at h2; omega
  rw [List.getElem?_range h2,List.getElem?_range h3,Option.map_some,Option.map_some,Nat.mod_eq_sub_mod (Nat.not_lt.1 h)]
 have h3:¬ i - z.cells.size < j * z.cells.size:=by rw [Nat.succ_mul] at h2; omega
 rw [List.getElem?_eq_none (by simpa using h2),List.getElem?_eq_none (by simpa using h3)]
end
abbrev qbQ:=World → (Nat → Nat → Prop) → Prop
structure MvF (P:qbQ):Prop where
 move:∀ {w w':World} {F F' M:Nat → Nat → Prop},Step w w' M → (∀ b o,F b o → b < w.heap.size → ¬ M b o) → (∀ b o,F b o → b < w.heap.size → F' b o) → P w F → P w' F'
def noF:qbQ:=fun _ _=>True
def andF (P Q:qbQ):qbQ:=fun w F=>P w F ∧ Q w F
theorem MvF.no:MvF noF:=⟨fun _ _ _ _=>trivial⟩
theorem MvF.and {P Q:qbQ} (h:MvF P) (h':MvF Q):MvF (andF P Q):=⟨fun hs hM hF g=>⟨h.move hs hM hF g.1,h'.move hs hM hF g.2⟩⟩
theorem MvF.mono {P:qbQ} (h:MvF P) {w:World} {F F':Nat → Nat → Prop} (hF:∀ b o,F b o → b < w.heap.size → F' b o) (g:P w F):P w F':=h.move (Step.refl w Nil) nilM hF g
def qk4 (A:Option Addr) (c:Nat) (X:Bs):qbQ:=fun w F=>Octs w F A c X
theorem MvF.octs (A:Option Addr) (c:Nat) (X:Bs):MvF (qk4 A c X):=⟨fun hs hM hF g=>Octs.move g hs hM hF⟩
def qk5 (m:Option Nat) (u:List (Int × Bs)):qbQ:=fun w F=>MapR w F m u
theorem MvF.tags (m:Option Nat) (u:List (Int × Bs)):MvF (qk5 m u):=⟨fun hs hM hF g=>MapR.move g hs hM hF⟩
def atF (b o:Nat) (cs:List Value):qbQ:=fun w F=>AtF w F b o cs
theorem MvF.at_ (b o:Nat) (cs:List Value):MvF (atF b o cs):=⟨fun hs hM hF g=>AtF.move g hs hM hF⟩
abbrev rdo (br:Nat) (A:Option Addr) (m c:Nat):Ob:=⟨br,0,[.slice A m c,.bool false],true⟩
theorem qkz {br:Nat} {A A':Option Addr} {m c m' c':Nat} {tb:Tb} {rs:List Rw} {b o:Nat} (h:Act_ (rdo br A m c :: tb) rs b o):Act_ (rdo br A' m' c' :: tb) rs b o:=by
 rcases h with ⟨i,ob,hi,h1⟩ | h
 ·cases i with
  | zero =>
   simp only [List.getElem?_cons_zero,Option.some.injEq] at hi
   subst hi
   exact .inl ⟨0,_,rfl,h1⟩
  | succ i=>exact .inl ⟨i + 1,ob,hi,h1⟩
 exact .inr h
theorem qfy {G:Nat → Nat → Prop} {w0 w:World} {br:Nat} {A A':Option Addr} {m c m' c':Nat} {tb:Tb} {rs:List Rw} {b o:Nat} (h:Imm G w0 w (rdo br A m c :: tb) rs b o):Imm G w0 w (rdo br A' m' c' :: tb) rs b o :=
 ⟨h.1,h.2.1,fun ha=>h.2.2 (qkz ha)⟩
theorem EnvOk.rdo {n br:Nat} {A A':Option Addr} {m c m' c':Nat} {tb:Tb} {env:Env} {a:Act} (h:EnvOk n (rdo br A m c :: tb) env a):EnvOk n (rdo br A' m' c' :: tb) env a:=by
 refine h.table fun i hi=>?_
 cases i with
 | zero=>exact ⟨by simp,rfl,rfl⟩
 | succ i=>exact ⟨by simpa using hi,rfl,rfl⟩
structure RS (w0:World) (M F:Nat → Nat → Prop) (n br:Nat) (tb:Tb) (env:Env) (P:qbQ) (s:Bs) (a:Act) (w:World):Prop where
 mv:MvF P
 ex:∃ A m c,WOk w0 M w (rdo br A m c :: tb) [] ∧ RdS w (Imm F w0 w (rdo br none 0 0 :: tb) []) A m c s
 env_:EnvOk n (rdo br none 0 0 :: tb) env a
 fact:P w (Imm F w0 w (rdo br none 0 0 :: tb) [])
section
variable {Pr:Program} {ops opsA opsB opsC:Array Oper} {Q:Exit → Act → World → Prop} {w0:World} {M F:Nat → Nat → Prop} {n br:Nat} {tb:Tb} {env:Env} {P:qbQ} {s:Bs} {a:Act} {w:World}
theorem RS.mk' {A:Option Addr} {m c:Nat} (hW:WOk w0 M w (rdo br A m c :: tb) []) (hr:RdS w (Imm F w0 w (rdo br A m c :: tb) []) A m c s) (hE:EnvOk n (rdo br A m c :: tb) env a) (mv:MvF P) (hP:P w (Imm F w0 w (rdo br A m c :: tb) [])):RS w0 M F n br tb env P s a w :=
 ⟨mv,⟨A,m,c,hW,hr.move (Step.refl w Nil) nilM fun b o h _=>qfy h⟩,hE.rdo,mv.mono (fun b o h _=>qfy h) hP⟩
theorem RS.open_ (h:RS w0 M F n br tb env P s a w):∃ A m c,WOk w0 M w (rdo br A m c :: tb) [] ∧ RdS w (Imm F w0 w (rdo br A m c :: tb) []) A m c s ∧ EnvOk n (rdo br A m c :: tb) env a ∧ P w (Imm F w0 w (rdo br A m c :: tb) []):=by
 obtain ⟨A,m,c,hW,hr⟩:=h.ex
 exact ⟨A,m,c,hW,hr.move (Step.refl w Nil) nilM fun b o h _=>qfy h,h.env_.rdo,h.mv.mono (fun b o h _=>qfy h) h.fact⟩
theorem RS.cast {t:Bs} (h:RS w0 M F n br tb env P s a w) (e:s = t):RS w0 M F n br tb env P t a w:=e ▸ h
theorem RS.weak {P':qbQ} (h:RS w0 M F n br tb env P s a w) (mv:MvF P') (hP:∀ w F,P w F → P' w F):RS w0 M F n br tb env P' s a w:=⟨mv,h.ex,h.env_,hP _ _ h.fact⟩
theorem RS.pk {env':Env} (h:RS w0 M F n br tb env P s a w) (e:ME.pick env (qbJ env') = some env':=by kernel_rfl):RS w0 M F n br tb env' P s a w:=⟨h.mv,h.ex,h.env_.pk e,h.fact⟩
theorem RS.envEq {env':Env} (h:RS w0 M F n br tb env P s a w) (e:env = env'):RS w0 M F n br tb env' P s a w:=e ▸ h
theorem RS.tbEq {tb':Tb} (h:RS w0 M F n br tb env P s a w) (e:tb = tb'):RS w0 M F n br tb' env P s a w:=e ▸ h
theorem RS.recast (h:RS w0 M F n br tb env P s a w) (k:Nat) (x y:SV) (hx:lk env k = some x) (hy:y.val (rdo br none 0 0 :: tb) = x.val (rdo br none 0 0 :: tb)) (ho:y.ok (rdo br none 0 0 :: tb)):RS w0 M F n br tb ((k,y) :: env) P s a w:=⟨h.mv,h.ex,h.env_.recast k x y hx hy ho,h.fact⟩
theorem qcT {L:List Nat} (idxs rest:List Nat) (env':Env) (h:RS w0 M F n br tb env P s a w) (k:∀ a',RS w0 M F n br tb env' P s a' w → wpOps Pr ops Q rest a' w) (e:∀ A m c,qdw Pr ops n (rdo br A m c :: tb) idxs (qbJ env') env = some env':=by intro _ _ _; kernel_rfl) (hl:L = idxs ++ rest:=by rfl):wpOps Pr ops Q L a w:=by
 obtain ⟨A,m,c,hW,hr,hE,hP⟩:=h.open_
 exact qbk idxs rest (qbJ env') hW hE (e A m c) hl fun a' hE'=>k a' (RS.mk' hW hr hE' h.mv hP)
theorem qbs {id:Nat} (env':Env) (h:RS w0 M F n br tb env P s a w) (k:∀ a',RS w0 M F n br tb env' P s a' w → Q .normal a' w) (e:∀ A m c,qdw Pr ops n (rdo br A m c :: tb) (List.range ops.size) (qbJ env') env = some env':=by intro _ _ _; kernel_rfl):(Code.region id ops false).wp Pr Q a w :=
 qat (List.range ops.size) rfl (qcT (List.range ops.size) [] env' h (fun a' h'=>qaf (k a' h')) e (List.append_nil _).symm)
def qcX (Pr:Program) (f:FuncId) (X rest:Bs) (v0:Value):Prop :=
 ∀ {br:Nat} {A:Option Addr} {m c:Nat} {w:World} {F:Nat → Nat → Prop},Str w br [.slice A m c,.bool false] → RdS w F A m c (X ++ rest) → (∀ b o,F b o → ¬ RdM br b o) →
  Calls Pr f #[.pointer (some ⟨br,0,none⟩)] w (RdPost w br (Fp F w) rest fun v w'=>v = v0)
theorem RdPost.fp {w:World} {br:Nat} {F:Nat → Nat → Prop} {rest:Bs} {Q Q':Value → World → Prop} {e:Ending} {w':World} (hq:∀ v w',Q v w' → Q' v w') (h:RdPost w br F rest Q e w'):RdPost w br (Fp F w) rest Q' e w':=by
 obtain ⟨v,A',n',c',h1,h2,h3,h4,h5⟩:=h
 exact ⟨v,A',n',c',h1,h2,h3.move (Step.refl _ Nil) nilM fun b o g _=>.inl g,h4,hq _ _ h5⟩
theorem RdPost.q {w:World} {br:Nat} {F:Nat → Nat → Prop} {rest:Bs} {Q Q':Value → World → Prop} {e:Ending} {w':World} (hq:∀ v w',Q v w' → Q' v w') (h:RdPost w br F rest Q e w'):RdPost w br F rest Q' e w':=by
 obtain ⟨v,A',n',c',h1,h2,h3,h4,h5⟩:=h
 exact ⟨v,A',n',c',h1,h2,h3,h4,hq _ _ h5⟩
theorem qd4 {i d:Nat} {f:FuncId} {X rest:Bs} {v0:Value} {N:Act → World → Prop} (h:RS w0 M F n br tb env P (X ++ rest) a w) (hc:qcX Pr f X rest v0)
  (hf:∀ args w,(callFunc f args).run Pr w = .ok (.enter f args) w) (K:∀ a' w',RS w0 M F n br tb ((d,.v v0) :: env) P rest a' w' → N a' w')
  (he:∀ A m c,qer (rdo br A m c :: tb) env ops n i = some (f,[.pointer (some ⟨br,0,none⟩)],d):=by intro _ _ _; kernel_rfl):wpOp Pr ops Q i N a w:=by
 obtain ⟨A,m,c,hW,hr,hE,hP⟩:=h.open_
 refine qal hE (he A m c) hf (hc (Str.of hW 0 rfl) hr (qfe 0 rfl)) ?_
 rintro e_ w1 ⟨_,A1,n1,c1,rfl,hs,hr1,hst,rfl⟩
 refine ⟨_,rfl,fun a1 hE1=>?_⟩
 obtain ⟨hW2,hF2,hL⟩:=hW.wrote 0 (rdo br A1 n1 c1 :: tb) rfl hst hs
 exact K a1 w1 (RS.mk' hW2 (hr1.move (Step.refl _ Nil) nilM hL) hE1.rdo h.mv (h.mv.move hF2.step immM hF2.to' hP))
theorem qdO {i d:Nat} {f:FuncId} {v0:Value} {N:Act → World → Prop} (h:RS w0 M F n br tb env P s a w) (hc:∀ {br:Nat} {A:Option Addr} {m c:Nat} {w:World},Str w br [.slice A m c,.bool false] → Calls Pr f #[.pointer (some ⟨br,0,none⟩)] w (fun e w'=>e = .returned v0 ∧ w' = w))
  (hf:∀ args w,(callFunc f args).run Pr w = .ok (.enter f args) w) (K:∀ a',RS w0 M F n br tb ((d,.v v0) :: env) P s a' w → N a' w)
  (he:∀ A m c,qer (rdo br A m c :: tb) env ops n i = some (f,[.pointer (some ⟨br,0,none⟩)],d):=by intro _ _ _; kernel_rfl):wpOp Pr ops Q i N a w:=by
 obtain ⟨A,m,c,hW,hr,hE,hP⟩:=h.open_
 refine qal hE (he A m c) hf (hc (Str.of hW 0 rfl)) ?_
 rintro e_ _ ⟨rfl,rfl⟩
 exact ⟨_,rfl,fun a1 hE1=>K a1 (RS.mk' hW hr hE1 h.mv hP)⟩
theorem qdv {i:Nat} (tb':Tb) (j:Nat) {N:Act → World → Prop} (h:RS w0 M F n br tb env P s a w) (K:∀ w',RS w0 M F n br tb' env P s a w' → N a w')
  (he:∀ A m c,qgI Pr (rdo br A m c :: tb) env ops i = some (j + 1,(obAt tb' j).cells):=by intro _ _ _; kernel_rfl) (ht:Tb.put tb j (obAt tb' j).cells = tb':=by rfl):wpOp Pr ops Q i N a w:=by
 obtain ⟨A,m,c,hW,hr,hE,hP⟩:=h.open_
 refine qav hW hE (he A m c) fun w1 hF1 hW1 hE1=>K w1 ?_
 have e:Tb.put (rdo br A m c :: tb) (j + 1) (obAt tb' j).cells = rdo br A m c :: tb':=by
  show rdo br A m c :: Tb.put tb j (obAt tb' j).cells = _
  rw [ht]
 rw [e] at hF1 hW1 hE1
 exact RS.mk' hW1 (hr.move hF1.step immM hF1.to') hE1 h.mv (h.mv.move hF1.step immM hF1.to' hP)
theorem qez {i d:Nat} (cs:List Value) {N:Act → World → Prop} (h:RS w0 M F n br tb env P s a w)
  (K:∀ b a' w',w0.heap.size ≤ b → RS w0 M F n br (tb ++ [⟨b,0,cs,true⟩]) ((d,.p (tb.length + 1) 0) :: env) P s a' w' → N a' w')
  (he:qfH Pr env ops n i = some (d,cs):=by kernel_rfl):wpOp Pr ops Q i N a w:=by
 obtain ⟨A,m,c,hW,hr,hE,hP⟩:=h.open_
 refine qaR hW hE he fun b a1 w1 hb hb0 hF1 hW1 hE1=>K b a1 w1 hb0 ?_
 exact RS.mk' hW1 (hr.move hF1.step immM hF1.to') hE1 h.mv (h.mv.move hF1.step immM hF1.to' hP)
theorem qhM {k:Nat} (h:Nat.blt 0 k = true):List.range k = [0] ++ (List.range k).drop 1:=by
 cases k with
 | zero=>cases h
 | succ k=>rw [List.range_succ_eq_map]; rfl
theorem qc8 {id d:Nat} {f:FuncId} {X rest:Bs} {v0:Value} (env':Env) (h:RS w0 M F n br tb env P (X ++ rest) a w) (hc:qcX Pr f X rest v0)
  (hf:∀ args w,(callFunc f args).run Pr w = .ok (.enter f args) w) (K:∀ a' w',RS w0 M F n br tb env' P rest a' w' → Q .normal a' w')
  (he:∀ A m c,qer (rdo br A m c :: tb) env ops n 0 = some (f,[.pointer (some ⟨br,0,none⟩)],d):=by intro _ _ _; kernel_rfl)
  (e:∀ A m c,qdw Pr ops n (rdo br A m c :: tb) ((List.range ops.size).drop 1) (qbJ env') ((d,.v v0) :: env) = some env':=by intro _ _ _; kernel_rfl) (hs:Nat.blt 0 ops.size = true:=by kernel_rfl):(Code.region id ops false).wp Pr Q a w:=by
 refine qat _ (qhM hs) (qam (qd4 h hc hf (fun a' w' hS=>?_) he))
 exact qcT ((List.range ops.size).drop 1) [] env' hS (fun a2 h2=>qaf (K a2 w' h2)) e (List.append_nil _).symm
def stoE (P:Program) (ops:Array Oper) (n:Nat) (tb:Tb) (env:Env) (keys:List Nat):Option (Nat × List Value × Env) :=
 match runs P ops n tb (List.range (ops.size - 1)) env with
 | some e=>match qgI P tb e ops (ops.size - 1),pick e keys with
  | some (i,cs),some e'=>some (i,cs,e')
  | _,_=>none
 | none=>none
theorem qeU {id:Nat} (tb':Tb) (j:Nat) (env':Env) (h:RS w0 M F n br tb env P s a w) (K:∀ a' w',RS w0 M F n br tb' env' P s a' w' → Q .normal a' w')
  (he:∀ A m c,stoE Pr ops n (rdo br A m c :: tb) env (qbJ env') = some (j + 1,(obAt tb' j).cells,env'):=by intro _ _ _; kernel_rfl) (ht:Tb.put tb j (obAt tb' j).cells = tb':=by rfl) (hs:Nat.blt 0 ops.size = true:=by kernel_rfl):(Code.region id ops false).wp Pr Q a w:=by
 obtain ⟨A,m,c,hW,hr,hE,hP⟩:=h.open_
 have h1:=he A m c
 unfold stoE at h1
 split at h1
 ·rename_i e he'
  split at h1
  ·rename_i i cs e' g1 g2
   simp only [Option.some.injEq,Prod.mk.injEq] at h1
   obtain ⟨rfl,rfl,rfl⟩:=h1
   have hr0:List.range ops.size = List.range (ops.size - 1) ++ [ops.size - 1]:=by
    have:0 < ops.size:=by simpa [Nat.blt_eq] using hs
    rw [← List.range_succ]; congr 1; omega
   refine qat _ hr0 (qdc hW.cells hE he' fun a1 hE1=>qam (qav hW hE1 g1 fun w1 hF1 hW1 hE2=>qaf (K a1 w1 ?_)))
   have e:Tb.put (rdo br A m c :: tb) (j + 1) (obAt tb' j).cells = rdo br A m c :: tb':=by
    show rdo br A m c :: Tb.put tb j (obAt tb' j).cells = _
    rw [ht]
   rw [e] at hF1 hW1 hE2
   exact RS.mk' hW1 (hr.move hF1.step immM hF1.to') (hE2.pick g2) h.mv (h.mv.move hF1.step immM hF1.to' hP)
  cases h1
 cases h1
theorem qff {A0:Option Addr} {i d j:Nat} {t tn e:TypeId} {size bytes:Nat} {k kn:IntKind} {q:Int} (z:Value) {N:Act → World → Prop} (h:RS w0 M F n br tb env P s a w)
  (K:∀ g c a' w',w0.heap.size ≤ g → j ≤ c → RS w0 M F n br (tb ++ [⟨g,0,qbZ z j,true⟩]) ((d,.v (.slice (some ⟨g,0,none⟩) j c)) :: env) P s a' w' → N a' w')
  (hq:q = (j:Int)) (hj:0 < j) (hb:j * bytes ≤ 140737488355328)
  (he:∀ A m c,appE (rdo br A m c :: tb) env ops n i = some (t,tn,.slice A0 0 0,.int k q,d):=by intro _ _ _; kernel_rfl) (ht:qcb Pr t = some (e,size,bytes):=by kernel_rfl) (htn:Pr.underlying tn = some (.int kn):=by kernel_rfl) (hz:(Pr.info? e).bind (·.zero) = some z:=by kernel_rfl):wpOp Pr ops Q i N a w:=by
 obtain ⟨A,m,c,hW,hr,hE,hP⟩:=h.open_
 refine qgf hW hE (he A m c) ht htn hz hq hj hb fun g c1 a1 w1 hg hg0 hF1 hW1 hE1=>?_
 have hP1:=h.mv.move hF1.step immM hF1.to' hP
 have hr1:=hr.move hF1.step immM hF1.to'
 have hcap:j ≤ c1:=by
  obtain ⟨A',c',hv,_,_,h4⟩:=qev (hW1.own 0 _ rfl)
  simp only [Rw.v,Value.slice.injEq,true_and] at hv
  rw [hv.2]; exact h4
 obtain ⟨hW2,hF2⟩:=hW1.layRowM (k:=0) rfl rfl hg0 [] (rdo br A m c :: (tb ++ [⟨g,0,qbZ z j,true⟩])) rfl rfl
 exact K g c1 a1 w1 hg0 hcap (RS.mk' hW2 (hr1.move hF2.step immM hF2.to') (hE1.grow ⟨g,0,qbZ z j,true⟩) h.mv (h.mv.move hF2.step immM hF2.to' hP1))
end
def qgD:Env → Env
 | []=>[]
 | (k,.v x) :: r=>(k,.v x) :: qgD r
 | (k,.p i j) :: r=>(k,.p (match i with | 0=>1 | 1=>0 | i=>i) j) :: qgD r
theorem qkA {n:Nat} {o1 o2:Ob} {env:Env} {a:Act} (h:EnvOk n [o1,o2] env a):EnvOk n [o2,o1] (qgD env) a:=by
 have key:∀ (env:Env) (k:Nat) (x:SV),lk (qgD env) k = some x → ∃ y,lk env k = some y ∧ (y.ok [o1,o2] → x.val [o2,o1] = y.val [o1,o2] ∧ x.ok [o2,o1]):=by
  intro env
  induction env with
  | nil=>intro k x hx; cases hx
  | cons e r ih =>
   obtain ⟨k',sv⟩:=e
   intro k x hx
   cases sv with
   | v y =>
    simp only [qgD,lk] at hx ⊢
    split at hx
    ·rename_i hb
     simp only [Option.some.injEq] at hx
     subst hx
     exact ⟨_,rfl,fun _=>⟨rfl,trivial⟩⟩
    exact ih k x hx
   | p i j =>
    simp only [qgD,lk] at hx ⊢
    split at hx
    ·rename_i hb
     simp only [Option.some.injEq] at hx
     subst hx
     refine ⟨_,rfl,fun hok=>?_⟩
     have hok':i < 2:=hok
     match i,hok' with
     | 0,_=>exact ⟨rfl,show 1 < 2 by omega⟩
     | 1,_=>exact ⟨rfl,show 0 < 2 by omega⟩
    exact ih k x hx
 refine ⟨h.defers,h.size,fun k x hx=>?_⟩
 obtain ⟨y,hy,hv⟩:=key env k x hx
 obtain ⟨h1,h2⟩:=h.at_ k y hy
 obtain ⟨h3,h4⟩:=hv h2
 exact ⟨by rw [h3]; exact h1,h4⟩
theorem qcy {α:Type} {x y o:α} {i:Nat} (h:[y,x][i]? = some o):[x,y][1 - i]? = some o ∧ i < 2:=by
 match i,h with
 | 0,h=>exact ⟨h,by omega⟩
 | 1,h=>exact ⟨h,by omega⟩
 | i + 2,h=>simp at h
theorem WOk.swap2 {w0 w:World} {M:Nat → Nat → Prop} {o1 o2:Ob} (h:WOk w0 M w [o1,o2] []):WOk w0 M w [o2,o1] [] :=
 ⟨h.step,fun i o hi=>h.cells _ o (qcy hi).1,fun i o hi=>h.live _ o (qcy hi).1,fun i o hi=>h.rw_ _ o (qcy hi).1,fun i j o o' hij hi hj hw=>h.apart _ _ o o' (by have:=(qcy hi).2; have:=(qcy hj).2; omega) (qcy hi).1 (qcy hj).1 hw,h.own,h.ownM,fun i r hi=>by simp at hi,h.rr⟩
theorem qjE {o1 o2:Ob} {b o:Nat} (h:Act_ [o2,o1] [] b o):Act_ [o1,o2] [] b o:=by
 rcases h with ⟨i,ob,hi,h1⟩ | ⟨i,r,hi,_⟩
 ·exact .inl ⟨_,ob,(qcy hi).1,h1⟩
 simp at hi
theorem RS.start {w0 w:World} {M F:Nat → Nat → Prop} {n br c:Nat} {A:Option Addr} {o1:Ob} {env:Env} {s:Bs} {a:Act} (hW:WOk w0 M w [o1,rdo br A s.length c] []) (hE:EnvOk n [o1,rdo br A s.length c] env a) (ho:Octs w (Imm F w0 w [o1,rdo br A s.length c] []) A c s) (env':Env) (he:pick (qgD env) (qbJ env') = some env':=by kernel_rfl):RS w0 M F n br [o1] env' noF s a w :=
 RS.mk' hW.swap2 ⟨rfl,ho.move (Step.refl w Nil) nilM fun b o h _=>⟨h.1,h.2.1,fun ha=>h.2.2 (qjE ha)⟩⟩ ((qkA hE).pick he) MvF.no trivial
theorem qdP {α:Type} {l:List α} {x y o:α} {i:Nat} (h:(l ++ [x,y])[i]? = some o):(i < l.length ∧ l[i]? = some o) ∨ (i = l.length ∧ o = x) ∨ (i = l.length + 1 ∧ o = y):=by
 rcases Nat.lt_or_ge i l.length with hl | hl
 ·rw [List.getElem?_append_left hl] at h; exact .inl ⟨hl,h⟩
 rw [List.getElem?_append_right hl] at h
 rcases hk:i - l.length with _ | _ | k
 ·rw [hk] at h; exact .inr (.inl ⟨by omega,(Option.some.inj h).symm⟩)
 ·rw [hk] at h; exact .inr (.inr ⟨by omega,(Option.some.inj h).symm⟩)
 rw [hk] at h; simp at h
theorem qeA {α:Type} {l:List α} {x:α}:(l ++ [x])[l.length]? = some x:=by simp
section
variable {w0 w:World} {M:Nat → Nat → Prop} {tb:Tb} {rs:List Rw}
theorem WOk.splitL {b o o2:Nat} {cs1 cs2:List Value} (hW:WOk w0 M w (tb ++ [⟨b,o,cs1 ++ cs2,true⟩]) rs) (ho:o2 = o + cs1.length) :
  WOk w0 M w (tb ++ [⟨b,o2,cs2,true⟩,⟨b,o,cs1,true⟩]) rs ∧ Fr w (tb ++ [⟨b,o,cs1 ++ cs2,true⟩]) rs w (tb ++ [⟨b,o2,cs2,true⟩,⟨b,o,cs1,true⟩]) rs:=by
 subst ho
 have hi:(tb ++ [(⟨b,o,cs1 ++ cs2,true⟩:Ob)])[tb.length]? = some ⟨b,o,cs1 ++ cs2,true⟩:=qeA
 have old:∀ {j:Nat} {q:Ob},j < tb.length → tb[j]? = some q → (tb ++ [(⟨b,o,cs1 ++ cs2,true⟩:Ob)])[j]? = some q:=fun {j q} hj h=>by rw [List.getElem?_append_left hj]; exact h
 have hlen:(cs1 ++ cs2).length = cs1.length + cs2.length:=List.length_append
 have act:∀ x y,Act_ (tb ++ [⟨b,o + cs1.length,cs2,true⟩,⟨b,o,cs1,true⟩]) rs x y → Act_ (tb ++ [⟨b,o,cs1 ++ cs2,true⟩]) rs x y:=fun x y ha=>by
  rcases ha with ⟨j,q,hj,h1,h2,h3,h4⟩ | ha
  ·rcases qdP hj with ⟨hlt,hj⟩ | ⟨rfl,rfl⟩ | ⟨rfl,rfl⟩
   ·exact .inl ⟨j,q,old hlt hj,h1,h2,h3,h4⟩
   ·exact .inl ⟨_,_,hi,rfl,h2,by dsimp only at h3 ⊢; omega,by dsimp only at h4 ⊢; omega⟩
   exact .inl ⟨_,_,hi,rfl,h2,by dsimp only at h3 ⊢; omega,by dsimp only at h4 ⊢; omega⟩
  exact .inr ha
 refine ⟨⟨hW.step,?_,?_,?_,?_,hW.own,hW.ownM,?_,hW.rr⟩,⟨fun x y _ hn ha=>hn (act x y ha),Step.refl _ _⟩⟩
 ·intro j q hj p v hv
  rcases qdP hj with ⟨hlt,hj⟩ | ⟨rfl,rfl⟩ | ⟨rfl,rfl⟩
  ·exact hW.cells j q (old hlt hj) p v hv
  ·have:=hW.cells _ _ hi (cs1.length + p) v (by dsimp only at hv ⊢; rw [List.getElem?_append_right (by omega),Nat.add_sub_cancel_left]; exact hv)
   dsimp only at this ⊢
   rwa [Nat.add_assoc]
  exact hW.cells _ _ hi p v (by dsimp only at hv ⊢; rw [List.getElem?_append_left (List.getElem?_eq_some_iff.1 hv).1]; exact hv)
 ·intro j q hj
  rcases qdP hj with ⟨hlt,hj⟩ | ⟨rfl,rfl⟩ | ⟨rfl,rfl⟩
  ·exact hW.live j q (old hlt hj)
  ·have:=hW.live _ _ hi; exact this
  have:=hW.live _ _ hi; exact this
 ·intro j q hj hr p hp
  rcases qdP hj with ⟨hlt,hj⟩ | ⟨rfl,rfl⟩ | ⟨rfl,rfl⟩
  ·exact hW.rw_ j q (old hlt hj) hr p hp
  ·have:=hW.rw_ _ _ hi rfl (cs1.length + p) (by dsimp only at hp ⊢; omega)
   dsimp only at this ⊢
   rwa [Nat.add_assoc]
  exact hW.rw_ _ _ hi rfl p (by dsimp only at hp ⊢; omega)
 ·intro j k q q' hjk hj hk hw
  rcases qdP hj with ⟨hlj,hj⟩ | ⟨rfl,rfl⟩ | ⟨rfl,rfl⟩ <;> rcases qdP hk with ⟨hlk,hk⟩ | ⟨rfl,rfl⟩ | ⟨rfl,rfl⟩
  ·exact hW.apart j k q q' hjk (old hlj hj) (old hlk hk) hw
  ·have:=hW.apart j _ q _ (by omega) (old hlj hj) hi (.inr rfl)
   dsimp only at this ⊢; omega
  ·have:=hW.apart j _ q _ (by omega) (old hlj hj) hi (.inr rfl)
   dsimp only at this ⊢; omega
  ·have:=hW.apart _ k _ q' (by omega) hi (old hlk hk) (.inl rfl)
   dsimp only at this ⊢; omega
  ·exact absurd rfl hjk
  ·exact .inr (.inr (Nat.le_refl _))
  ·have:=hW.apart _ k _ q' (by omega) hi (old hlk hk) (.inl rfl)
   dsimp only at this ⊢; omega
  ·exact .inr (.inl (Nat.le_refl _))
  exact absurd rfl hjk
 intro j r hj g hg k q hk
 rcases qdP hk with ⟨hlk,hk⟩ | ⟨rfl,rfl⟩ | ⟨rfl,rfl⟩
 ·exact hW.rtb j r hj g hg k q (old hlk hk)
 ·have:=hW.rtb j r hj g hg _ _ hi; exact this
 have:=hW.rtb j r hj g hg _ _ hi; exact this
theorem WOk.atLast {G:Nat → Nat → Prop} {b o:Nat} {cs:List Value} (hW:WOk w0 M w (tb ++ [⟨b,o,cs,true⟩]) []) (hb:w0.heap.size ≤ b):AtF w (Imm G w0 w tb []) b o cs:=fun j v hj=>by
 have hlt:j < cs.length:=(List.getElem?_eq_some_iff.1 hj).1
 refine ⟨⟨.inr hb,?_,fun ha=>?_⟩,?_⟩
 ·have:=hW.live _ _ qeA; exact this
 ·rcases ha with ⟨i,q,hi,hr,h2,h3,h4⟩ | ⟨i,r,hi,_⟩
  ·have hil:i < tb.length:=(List.getElem?_eq_some_iff.1 hi).1
   have:=hW.apart i _ q _ (by omega) (by rw [List.getElem?_append_left hil]; exact hi) qeA (.inr rfl)
   dsimp only at this; omega
  simp at hi
 have:=hW.cells _ _ qeA j v hj; exact this
end
def qeZ (g size:Nat) (cl:DV → List Value) (ok:World → (Nat → Nat → Prop) → DV → Prop) (rel:DV → Tree → Prop) (L:List Tree) (k:Nat):qbQ:=fun w F=>∃ ds:Nat → DV,∀ i,i < k → (cl (ds i)).length = size ∧ AtF w F g (0 + i * size) (cl (ds i)) ∧ ok w F (ds i) ∧ rel (ds i) (L.getD i .zero)
theorem MvF.done {g size:Nat} {cl:DV → List Value} {ok:World → (Nat → Nat → Prop) → DV → Prop} {rel:DV → Tree → Prop} {L:List Tree} {k:Nat} (mv:qhJ ok):MvF (qeZ g size cl ok rel L k):=⟨fun hs hM hF h=>by
 obtain ⟨ds,h⟩:=h
 refine ⟨ds,fun i hi=>?_⟩
 obtain ⟨h1,h2,h3,h4⟩:=h i hi
 exact ⟨h1,h2.move hs hM hF,mv _ hs hM hF h3,h4⟩⟩
abbrev qbR (g size:Nat) (z:Value) (l k:Nat):Ob:=⟨g,k * size,qbZ z (l - k),true⟩
def lstF (size:Nat) (cl:DV → List Value) (ok:World → (Nat → Nat → Prop) → DV → Prop) (rel:DV → Tree → Prop) (A:Option Addr) (c:Nat) (L:List Tree) (f:Nat → DV):qbQ:=fun w F=>Slots w F size A c L.length (fun i=>cl (f i)) ∧ (∀ i,i < L.length → ok w F (f i)) ∧ ∀ i,i < L.length → rel (f i) (L.getD i .zero)
theorem MvF.lst {size:Nat} {cl:DV → List Value} {ok:World → (Nat → Nat → Prop) → DV → Prop} {rel:DV → Tree → Prop} {A:Option Addr} {c:Nat} {L:List Tree} {f:Nat → DV} (mv:qhJ ok):MvF (lstF size cl ok rel A c L f):=⟨fun hs hM hF h =>
 ⟨h.1.move hs hM hF,fun i hi=>mv _ hs hM hF (h.2.1 i hi),h.2.2⟩⟩
section
variable {Pr:Program} {ops:Array Oper} {Q:Exit → Act → World → Prop} {w0:World} {M F:Nat → Nat → Prop} {n br:Nat} {tb:Tb} {env:Env} {P:qbQ} {s:Bs} {a:Act} {w:World}
 {g size:Nat} {cl:DV → List Value} {ok:World → (Nat → Nat → Prop) → DV → Prop} {rel:DV → Tree → Prop} {L:List Tree} {z:Value}
theorem RS.pull {ι:Type} {Qf:ι → qbQ} (h:RS w0 M F n br tb env (andF P (fun w F=>∃ x,Qf x w F)) s a w) (mP:MvF P) (mv:∀ x,MvF (Qf x)):∃ x,RS w0 M F n br tb env (andF P (Qf x)) s a w:=by
 obtain ⟨h1,x,hx⟩:=h.fact
 exact ⟨x,mP.and (mv x),h.ex,h.env_,h1,hx⟩
theorem RS.drop {b o:Nat} {cs:List Value} (h:RS w0 M F n br (tb ++ [⟨b,o,cs,true⟩]) env P s a w) (hb:w0.heap.size ≤ b) (hl:qdW (tb.length + 1) env = true):RS w0 M F n br tb env (andF P (atF b o cs)) s a w:=by
 obtain ⟨A,m,c,hW,hr,hE,hP⟩:=h.open_
 have hW':WOk w0 M w ((rdo br A m c :: tb) ++ [⟨b,o,cs,true⟩]) []:=hW
 have h1:=hW'.cutTb (tb.length + 1)
 have hF:=Fr.cutTb w ((rdo br A m c :: tb) ++ [⟨b,o,cs,true⟩]) [] (tb.length + 1)
 have e:((rdo br A m c :: tb) ++ [(⟨b,o,cs,true⟩:Ob)]).take (tb.length + 1) = rdo br A m c :: tb:=by
  show List.take ((rdo br A m c :: tb).length) _ = _
  exact List.take_left
 have hE1:=hE.cutTb (tb.length + 1) hl
 have e2:(rdo br A m c :: (tb ++ [(⟨b,o,cs,true⟩:Ob)])).take (tb.length + 1) = rdo br A m c :: tb:=e
 rw [e] at h1 hF
 rw [e2] at hE1
 exact RS.mk' h1 (hr.move hF.step immM hF.to') hE1 (h.mv.and (MvF.at_ _ _ _)) ⟨h.mv.move hF.step immM hF.to' hP,hW'.atLast hb⟩
theorem RS.dropT {b o:Nat} {cs:List Value} (h:RS w0 M F n br (tb ++ [⟨b,o,cs,true⟩]) env P s a w) (hb:w0.heap.size ≤ b) (hl:qdW (tb.length + 1) env = true):RS w0 M F n br tb env P s a w :=
 (h.drop hb hl).weak h.mv fun _ _ g=>g.1
theorem RS.next {l k:Nat} (h:RS w0 M F n br (tb ++ [qbR g size z l k]) env P s a w) (hk:k < l) (hz:z.cells.size = size) (hl:qdW (tb.length + 1) env = true):RS w0 M F n br (tb ++ [qbR g size z l (k + 1),⟨g,k * size,z.cells.toList,true⟩]) env P s a w:=by
 obtain ⟨A,m,c,hW,hr,hE,hP⟩:=h.open_
 have e:qbZ z (l - k) = z.cells.toList ++ qbZ z (l - (k + 1)):=by rw [show l - k = (l - (k + 1)) + 1 by omega,qgC]
 have hW':WOk w0 M w ((rdo br A m c :: tb) ++ [⟨g,k * size,z.cells.toList ++ qbZ z (l - (k + 1)),true⟩]) []:=by rw [← e]; exact hW
 obtain ⟨h1,hF⟩:=hW'.splitL (o2:=(k + 1) * size) (by rw [Array.length_toList,hz,Nat.add_mul,Nat.one_mul])
 rw [← e] at hF
 have hE1:=hE.cutTb (tb.length + 1) hl
 have e2:(rdo br A m c :: (tb ++ [qbR g size z l k])).take (tb.length + 1) = rdo br A m c :: tb:=by
  show List.take ((rdo br A m c :: tb).length) ((rdo br A m c :: tb) ++ _) = _
  exact List.take_left
 rw [e2] at hE1
 have hE2:=(hE1.grow (qbR g size z l (k + 1))).grow ⟨g,k * size,z.cells.toList,true⟩
 have e3:((rdo br A m c :: tb) ++ [qbR g size z l (k + 1)]) ++ [(⟨g,k * size,z.cells.toList,true⟩:Ob)] = rdo br A m c :: (tb ++ [qbR g size z l (k + 1),⟨g,k * size,z.cells.toList,true⟩]):=by simp
 rw [e3] at hE2
 exact RS.mk' h1 (hr.move hF.step immM hF.to') hE2 h.mv (h.mv.move hF.step immM hF.to' hP)
theorem RS.thing {k:Nat} {D:DV} {X:qbQ} (h:RS w0 M F n br (tb ++ [qbR g size z L.length (k + 1),⟨g,k * size,cl D,true⟩]) env X s a w) (hg:w0.heap.size ≤ g) {t:Tree} (ht:L[k]? = some t) (mv:qhJ ok) (mP:MvF P) (hcl:(cl D).length = size)
  (hx:∀ w F,X w F → P w F ∧ qeZ g size cl ok rel L k w F ∧ ok w F D ∧ rel D t) (hl:qdW (tb.length + 2) env = true):RS w0 M F n br (tb ++ [qbR g size z L.length (k + 1)]) env (andF P (qeZ g size cl ok rel L (k + 1))) s a w:=by
 have h':RS w0 M F n br ((tb ++ [qbR g size z L.length (k + 1)]) ++ [⟨g,k * size,cl D,true⟩]) env X s a w:=by
  rw [List.append_assoc]; exact h
 refine (h'.drop hg (by simpa using hl)).weak (mP.and (MvF.done mv)) fun w F hf=>?_
 obtain ⟨hf,hat⟩:=hf
 obtain ⟨h1,⟨ds,h2⟩,h3,h4⟩:=hx w F hf
 refine ⟨h1,fun i=>if i = k then D else ds i,fun i hi=>?_⟩
 by_cases hik:i = k
 ·subst hik
  simp only [if_true]
  exact ⟨hcl,by rw [Nat.zero_add]; exact hat,h3,by rw [List.getD_eq_getElem?_getD,ht]; exact h4⟩
 simp only [if_neg hik]
 exact h2 i (by omega)
theorem RS.listEnd {c:Nat} (h:RS w0 M F n br (tb ++ [qbR g size z L.length L.length]) env (andF P (qeZ g size cl ok rel L L.length)) s a w) (hg:w0.heap.size ≤ g) (mv:qhJ ok) (mP:MvF P) (hc:L.length ≤ c) (hsm:L.length ≤ 1099511627776) (h0:0 < L.length)
  (hl:qdW (tb.length + 1) env = true):∃ f:Nat → DV,RS w0 M F n br tb env (andF P (lstF size cl ok rel (some ⟨g,0,none⟩) c L f)) s a w:=by
 have mE:MvF (fun w F=>∃ f:Nat → DV,lstF size cl ok rel (some ⟨g,0,none⟩) c L f w F):=⟨fun hs hM hF hx=>by
  obtain ⟨f,hx⟩:=hx
  exact ⟨f,(MvF.lst mv).move hs hM hF hx⟩⟩
 refine RS.pull (Qf:=fun f=>lstF size cl ok rel (some ⟨g,0,none⟩) c L f) ((h.drop hg hl).weak (mP.and mE) fun w F hf=>?_) mP fun f=>MvF.lst mv
 obtain ⟨⟨h1,ds,h2⟩,_⟩:=hf
 refine ⟨h1,ds,⟨hc,hsm,fun h=>by (cases h),fun ad hA _=>?_⟩,fun i hi=>(h2 i hi).2.2.1,fun i hi=>(h2 i hi).2.2.2⟩
 obtain rfl:=Option.some.inj hA
 exact ⟨g,0,rfl,fun i hi=>⟨(h2 i hi).1,(h2 i hi).2.1⟩⟩
theorem qiW {c:Code} (gf:Tree → Bs) (rest:Bs) (envk:Nat → Env) (h:RS w0 M F n br (tb ++ [⟨g,0,qbZ z L.length,true⟩]) (envk 0) P (L.flatMap gf ++ rest) a w) (mv:qhJ ok)
  (body:∀ k t a w,L[k]? = some t → k < L.length → RS w0 M F n br (tb ++ [qbR g size z L.length k]) (envk k) (andF P (qeZ g size cl ok rel L k)) (gf t ++ ((L.drop (k + 1)).flatMap gf ++ rest)) a w →
   c.wp Pr (Exit.then (fun a' w'=>RS w0 M F n br (tb ++ [qbR g size z L.length (k + 1)]) (envk (k + 1)) (andF P (qeZ g size cl ok rel L (k + 1))) ((L.drop (k + 1)).flatMap gf ++ rest) a' w') Q) a w)
  (fin:∀ a w,RS w0 M F n br (tb ++ [qbR g size z L.length L.length]) (envk L.length) (andF P (qeZ g size cl ok rel L L.length)) rest a w → c.wp Pr (Exit.then (fun _ _=>False) Q) a w):(Code.loop c).wp Pr Q a w:=by
 refine wp_loop_ghost (fun q a_ w_=>∃ k,q = L.length - k ∧ k ≤ L.length ∧ RS w0 M F n br (tb ++ [qbR g size z L.length k]) (envk k) (andF P (qeZ g size cl ok rel L k)) ((L.drop k).flatMap gf ++ rest) a_ w_) L.length
  ⟨0,by omega,Nat.zero_le _,?_⟩ ?_
 ·have e:qbR g size z L.length 0 = ⟨g,0,qbZ z L.length,true⟩:=by simp only [qbR,Nat.zero_mul,Nat.sub_zero]
  rw [e,List.drop_zero]
  exact h.weak (h.mv.and (MvF.done mv)) fun w F hP=>⟨hP,fun _=>dv0,fun i hi=>absurd hi (Nat.not_lt_zero i)⟩
 rintro q aq wq ⟨k,rfl,hk,hS⟩
 rcases Nat.lt_or_ge k L.length with hlt | hge
 ·obtain ⟨t,ht⟩:∃ t,L[k]? = some t:=⟨_,List.getElem?_eq_getElem hlt⟩
  have e:(L.drop k).flatMap gf ++ rest = gf t ++ ((L.drop (k + 1)).flatMap gf ++ rest):=by
   rw [qbN ht,List.flatMap_cons,List.append_assoc]
  refine wp_mono (body k t aq wq ht hlt (hS.cast e)) fun e a' w' hq=>?_
  cases e <;> first | exact hq | exact ⟨L.length - (k + 1),by omega,k + 1,rfl,hlt,hq⟩
 obtain rfl:k = L.length:=by omega
 rw [List.drop_length] at hS
 refine wp_mono (fin aq wq hS) fun e a' w' hq=>?_
 cases e <;> first | exact hq | exact hq.elim
theorem qfz {c:Code} (h:c.wp Pr (Exit.then (fun _ _=>False) Q) a w):(Code.loop c).wp Pr Q a w:=by
 refine wp_loop_ghost (fun _ a_ w_=>a_ = a ∧ w_ = w) 0 ⟨rfl,rfl⟩ ?_
 rintro q _ _ ⟨rfl,rfl⟩
 refine wp_mono h fun e a' w' hq=>?_
 cases e <;> first | exact hq | exact hq.elim
theorem qg4 {x y z:Code} {Mid:Act → World → Prop} (h1:x.wp Pr (Exit.then (fun a w=>y.wp Pr (Exit.then Mid Q) a w) Q) a w) (h2:∀ a' w',Mid a' w' → z.wp Pr Q a' w'):(Code.seq x (.seq y z)).wp Pr Q a w :=
 wp_seq (qgB h1 fun a' w' hy=>wp_seq (qgB hy h2))
end
end Go.Proofs.YtdlaobdadlmcdabDoor.ME