/- The texts of a claim, put together: the engine, the contracts, the law. Own work. -/
import Derived.Test.YtcbpjflgkefidaaGreatDoorWd2P3
namespace Go.Proofs.YtcbpjflgkefidaaGreatDoor.ME
open Go
open Go.RowKit
set_option linter.unusedVariables false
set_option linter.unusedSimpArgs false
set_option maxRecDepth 20000
def qkJ (m:Nat):Prop:=∀ (ct:List Value) (t:Tree) (w:World) (F:Nat → Nat → Prop),TreeR w F ct t → t.depth ≤ m →
  Calls Tryz.prog 17 #[.agg ct.toArray] w (qc1 w F t)
theorem qiH {m:Nat} (hg:qkJ m) (ct:List Value) (t:Tree) (w:World) (F:Nat → Nat → Prop) (ht:TreeR w F ct t) (hd:t.depth ≤ m + 1) :
  Calls Tryz.prog 17 #[.agg ct.toArray] w (qc1 w F t):=by
 obtain ⟨n1,s2,b3,l4,u5,A6,c7,A8,c9,ap,ar,dT,rfl,rfl,dw,dx,dU,dV⟩:=ht.open_
 have dy:=dw.small
 have dz:=dx.small
 obtain ⟨dW,dA,dX⟩:=dV.ex
 have dB:=dA.small
 refine enter (n:=49) Tryz.func17 rfl Tryz.ntmps17 kz fun a hE=>?_
 have hW:=WOk.start w Nil
 refine qac [0,1] kz ?_
 refine qaj (qbi hW hE (d:=1) (cs:=[.int .i64 n1,.slice A6 s2.length c7,.bool b3,.slice A8 l4.length c9,.slice ap u5.length ar]) kz fun bF fk fl dY dZ d5 cX cY=>?_)
 refine qaj (qaJ cX cY (d:=2) (cs:=[.int .i64 0,.slice none 0 0,.bool false,.slice none 0 0,.slice none 0 0]) kz fun bG fm fo d6 d7 d8 bI cZ=>?_)
 refine qae (qaa ?_)
 refine qac [0,1,2,3,4,5,6,7,8] kz ?_
 refine qai [0,1,2,3,4,5,6] [7,8] [(1,.p 0 0),(2,.p 1 0),(14,.v (.agg #[.int .i64 n1,.slice A6 s2.length c7,.bool b3,.slice none 0 0,.slice none 0 0]))] bI cZ fun fq c5=>?_
 refine qaj (qaJ bI c5 (d:=3) (cs:=[.int .i64 0,.slice none 0 0,.bool false,.slice none 0 0,.slice none 0 0]) kz fun bH fr ft d9 ea eb c6 da=>?_)
 refine qaj (qam c6 da (oi:=2) (cs:=[.int .i64 n1,.slice A6 s2.length c7,.bool b3,.slice none 0 0,.slice none 0 0]) kz fun fu ec bz db=>?_)
 refine qae (qaa ?_)
 refine wp_seq ?_
 refine qap [(1,.p 0 0),(2,.p 1 0),(3,.p 2 0),(16,.v (.slice A8 l4.length c9)),(17,.v (.int .i64 ((l4.length:Nat):Int))),(18,.v (.int .i64 0))] bz db fun fv dc=>?_
 refine wp_block ?_
 have bJ:=bz.addNil 26 5
 have ee:=bz.frNil 26 5
 refine wp_loop_ghost (fun n_ a_ w_=>∃ (k:Nat) (A_:Option Addr) (c_:Nat) (xs:List Value) (css:List (List Value)),n_ = l4.length - k ∧ k ≤ l4.length ∧ (Trees w_ (Imm F w w_ [⟨bF,0,[.int .i64 n1,.slice A6 s2.length c7,.bool b3,.slice A8 l4.length c9,.slice ap u5.length ar],true⟩,⟨bG,0,[.int .i64 0,.slice none 0 0,.bool false,.slice none 0 0,.slice none 0 0],true⟩,⟨bH,0,[.int .i64 n1,.slice A6 s2.length c7,.bool b3,.slice A_ k c_,.slice none 0 0],true⟩] [⟨A_,c_,26,5,k,xs⟩]) xs (l4.take k) css) ∧ LInv bJ 49 [⟨bF,0,[.int .i64 n1,.slice A6 s2.length c7,.bool b3,.slice A8 l4.length c9,.slice ap u5.length ar],true⟩,⟨bG,0,[.int .i64 0,.slice none 0 0,.bool false,.slice none 0 0,.slice none 0 0],true⟩,⟨bH,0,[.int .i64 n1,.slice A6 s2.length c7,.bool b3,.slice A_ k c_,.slice none 0 0],true⟩] [⟨A_,c_,26,5,k,xs⟩] [(1,.p 0 0),(2,.p 1 0),(3,.p 2 0),(16,.v (.slice A8 l4.length c9)),(17,.v (.int .i64 ((l4.length:Nat):Int))),(18,.v (.int .i64 ((k:Nat):Int)))] a_ w_) (l4.length) ⟨0,none,0,[],[],by omega,by omega,Trees.nil _ _,dc.pk,bJ,Fr.refl _ _ _⟩ ?_
 rintro fw fx fy ⟨k,A_,c_,xs,css,ef,eg,hT,de,aw,dg⟩
 refine qap [(1,.p 0 0),(2,.p 1 0),(3,.p 2 0),(16,.v (.slice A8 l4.length c9)),(17,.v (.int .i64 ((l4.length:Nat):Int))),(18,.v (.int .i64 ((k:Nat):Int))),(19,.v (.bool (decide (((k:Nat):Int) < ((l4.length:Nat):Int)))))] aw de fun fz bA=>?_
 refine wp_seq ?_
 refine qaz bA (b:=decide (((k:Nat):Int) < ((l4.length:Nat):Int))) kz (fun bB=>?_) (fun bB=>?_)
 ·
  have eh:=of_decide_eq_true bB
  refine wp_skip ?_
  refine qaa ?_
  refine wp_seq ?_
  refine wp_block ?_
  refine qac [0,1,2,3] kz ?_
  obtain ⟨ei,ej,dh,ek,bf⟩:=Slots.get dx (i:=k) (by omega)
  obtain ⟨em,bC⟩:∃ x,l4[k]? = some x:=⟨_,List.getElem?_eq_getElem (by omega)⟩
  have bD:=dU k em bC
  obtain ⟨bK,bL,bM,bN,bO,bP,bQ,bR,bS,bT,bU,eo,rfl,bg,ep,eu,fA,fB⟩:=bD.open_
  rw [bg] at bD
  have dC:=ep.small
  have dD:=eu.small
  rw [bg] at bf
  refine qaj (qas bA (t:=34) (A:=A8) (m:=l4.length) (q:=((k:Nat):Int)) (d:=20) kz (e:=37) (size:=5) (bytes:=88) kz dh rfl (by omega) fun fC bV=>?_)
  refine qaj (qaD bV (t:=37) (b:=ei) (o:=ej + k * 5) (d:=21) kz (cs:=[.int .i64 bK,.slice bP bL.length bQ,.bool bM,.slice bR bN.length bS,.slice bT bO.length bU]) (v:=.agg #[.int .i64 bK,.slice bP bL.length bQ,.bool bM,.slice bR bN.length bS,.slice bT bO.length bU]) kz (AtF.move bf aw.step nilM qa1).at_ fun ev bW=>?_)
  refine qaj (qaJ aw bW (d:=5) (cs:=[.int .i64 0,.slice none 0 0,.bool false,.slice none 0 0,.slice none 0 0]) kz fun ew ey ez dE dF ax bX bY=>?_)
  refine qaj (qam bX bY (oi:=3) (cs:=[.int .i64 bK,.slice bP bL.length bQ,.bool bM,.slice bR bN.length bS,.slice bT bO.length bU]) kz fun eB ay bZ b8=>?_)
  refine qae (qaa ?_)
  refine qcU 7 kz bZ fun eC az ag cd=>?_
  refine qaF [0,1,2] [(1,.p 0 0),(2,.p 1 0),(3,.p 2 0),(16,.v (.slice A8 l4.length c9)),(17,.v (.int .i64 ((l4.length:Nat):Int))),(18,.v (.int .i64 ((k:Nat):Int))),(23,.v (.slice A_ k c_)),(24,.v (.agg #[.int .i64 bK,.slice bP bL.length bQ,.bool bM,.slice bR bN.length bS,.slice bT bO.length bU]))] 5 (qad (qab (qab (qad (qab qaf))))) (fun _ h=>h.cells) cd b8 fun eD ce=>?_
  refine qaw (i:=3) kz (qak ce (f:=17) (vs:=[.agg #[.int .i64 bK,.slice bP bL.length bQ,.bool bM,.slice bR bN.length bS,.slice bT bO.length bU]]) (d:=25) kz Tryz.call17 ( hg _ _ _ _ (bD.move ag.step nilM ag.imm) (by have h_:=qgA bC; rw [qfM] at hd; omega)) ?_)
  rintro e_ eE ⟨dG,rfl,cg,aA⟩
  have aB:=cg.move (Step.refl _ Nil) nilM (ag.laid (G:=F) aA)
  obtain ⟨aC,aD,aE,aF,aG,aH,aI,aJ,aK,aL,aM,dH,dI,aN,di,dj,eF,eG⟩:=aB.open_
  rw [aN] at aB
  have dl:=di.small
  have dp:=dj.small
  rw [aN]
  refine ⟨_,rfl,fun eH cm=>?_⟩
  have bh:=ag.next_nil aA
  have ae:=ag.frN aA
  have cq:=TT.ofW ae bh
  refine ⟨fun _=>cq,?_⟩
  refine qaw (i:=4) kz (qbZ bh cm (e:=26) (size:=5) (len:=1) (cs:=[.int .i64 aC,.slice aH aD.length aI,.bool aE,.slice aJ aF.length aK,.slice aL aG.length aM]) (d:=26) kz kz fun dq eI eJ dJ dK aa au cr=>?_)
  have cu:=TT.ofW (ae.trans aa) au
  refine ⟨fun _=>cu,?_⟩
  refine qaw (i:=5) kz (qaQ au cr (k:=0) (d:=27) (t:=23) (e:=26) (size:=5) (bytes:=88) (A:=A_) (As:=(some ⟨dq,0,none⟩)) (m0:=k) (c:=c_) (m:=1) (cs:=1) (xs:=xs) (news:=[.int .i64 aC,.slice aH aD.length aI,.bool aE,.slice aJ aF.length aK,.slice aL aG.length aM]) kz kz rfl (qbz (au.own 1 _ rfl) (qbF kz)) (qbJ (au.own 1 _ rfl)) (by omega) fun aO aP eK eL af bi cw=>?_)
  have bj:=TT.ofW ((ae.trans aa).trans af) bi
  refine ⟨fun _=>bj,?_⟩
  refine qaF [6] [(1,.p 0 0),(2,.p 1 0),(3,.p 2 0),(16,.v (.slice A8 l4.length c9)),(17,.v (.int .i64 ((l4.length:Nat):Int))),(18,.v (.int .i64 ((k:Nat):Int))),(27,.v (.slice aO (k + 1) aP)),(28,.p 2 3)] 1 (qad (qab (qab (qad (qab qaf))))) (fun _ h=>h.cells) bj cw fun eM cz=>?_
  refine qaw (i:=7) kz (qam bi cz (oi:=2) (cs:=[.int .i64 n1,.slice A6 s2.length c7,.bool b3,.slice aO (k + 1) aP,.slice none 0 0]) kz fun eN ah bk cA=>?_)
  refine ⟨fun h=>absurd rfl h,?_⟩
  refine qaE kz ?_ _
  refine qav ?_
  refine qaa ?_
  refine qaq [0,1] kz ?_
  refine qai [0,1] [] [(1,.p 0 0),(2,.p 1 0),(3,.p 2 0),(16,.v (.slice A8 l4.length c9)),(17,.v (.int .i64 ((l4.length:Nat):Int))),(18,.v (.int .i64 (IntKind.i64.wrap (((k:Nat):Int) + 1))))] bk cA fun eO cB=>?_
  refine qae (qaa ?_)
  obtain ⟨bn,cC,ai⟩:=bk.cutB cB 3 [⟨bF,0,[.int .i64 n1,.slice A6 s2.length c7,.bool b3,.slice A8 l4.length c9,.slice ap u5.length ar],true⟩,⟨bG,0,[.int .i64 0,.slice none 0 0,.bool false,.slice none 0 0,.slice none 0 0],true⟩,⟨bH,0,[.int .i64 n1,.slice A6 s2.length c7,.bool b3,.slice aO (k + 1) aP,.slice none 0 0],true⟩] [(1,.p 0 0),(2,.p 1 0),(3,.p 2 0),(16,.v (.slice A8 l4.length c9)),(17,.v (.int .i64 ((l4.length:Nat):Int))),(18,.v (.int .i64 (IntKind.i64.wrap (((k:Nat):Int) + 1))))]
  obtain ⟨cD,aj⟩:=cC.cutR 1 [⟨aO,aP,26,5,k + 1,xs ++ [.int .i64 aC,.slice aH aD.length aI,.bool aE,.slice aJ aF.length aK,.slice aL aG.length aM]⟩]
  have cE:IntKind.i64.wrap (((k:Nat):Int) + 1) = ((k + 1:Nat):Int):=qaW (by omega)
  rw [cE] at bn
  exact ⟨l4.length - (k + 1),by omega,k + 1,aO,aP,xs ++ [Value.int .i64 aC,.slice aH aD.length aI,.bool aE,.slice aJ aF.length aK,.slice aL aG.length aM],(css ++ [[Value.int .i64 aC,.slice aH aD.length aI,.bool aE,.slice aJ aF.length aK,.slice aL aG.length aM]]),rfl,by omega,by rw [qcx bC]; exact (hT.move ((((((((ax.trans ay).trans az).trans ae).trans aa).trans af).trans ah).trans ai).trans aj).step immM ((((((((ax.trans ay).trans az).trans ae).trans aa).trans af).trans ah).trans ai).trans aj).to').snoc (aB.move ((((aa.trans af).trans ah).trans ai).trans aj).step immM ((((aa.trans af).trans ah).trans ai).trans aj).to'),bn.pk,cD,(((((((((dg.trans ax).trans ay).trans az).trans ae).trans aa).trans af).trans ah).trans ai).trans aj)⟩
 have dL:=of_decide_eq_false bB
 refine wp_exit ?_
 refine qau ?_
 refine qau ?_
 refine qaM ?_
 refine qaa ?_
 refine wp_seq ?_
 refine qap [(2,.p 1 0),(3,.p 2 0),(31,.v (.slice ap u5.length ar)),(32,.v (.int .i64 ((u5.length:Nat):Int))),(33,.v (.int .i64 0))] aw bA fun eP cG=>?_
 refine wp_block ?_
 have hk0:k = l4.length:=by omega
 have bo:=aw.addNil 65 2
 have bp:=aw.frNil 65 2
 refine wp_loop_ghost (fun n_ a_ w_=>∃ (q:Nat) (A5_:Option Addr) (c5_:Nat) (ys:List Value) (dss:List (List Value)),n_ = u5.length - q ∧ q ≤ u5.length ∧ (Tags w_ (Imm F w w_ [⟨bF,0,[.int .i64 n1,.slice A6 s2.length c7,.bool b3,.slice A8 l4.length c9,.slice ap u5.length ar],true⟩,⟨bG,0,[.int .i64 0,.slice none 0 0,.bool false,.slice none 0 0,.slice none 0 0],true⟩,⟨bH,0,[.int .i64 n1,.slice A6 s2.length c7,.bool b3,.slice A_ k c_,.slice A5_ q c5_],true⟩] [⟨A_,c_,26,5,k,xs⟩,⟨A5_,c5_,65,2,q,ys⟩]) ys (u5.take q) dss) ∧ LInv bo 49 [⟨bF,0,[.int .i64 n1,.slice A6 s2.length c7,.bool b3,.slice A8 l4.length c9,.slice ap u5.length ar],true⟩,⟨bG,0,[.int .i64 0,.slice none 0 0,.bool false,.slice none 0 0,.slice none 0 0],true⟩,⟨bH,0,[.int .i64 n1,.slice A6 s2.length c7,.bool b3,.slice A_ k c_,.slice A5_ q c5_],true⟩] [⟨A_,c_,26,5,k,xs⟩,⟨A5_,c5_,65,2,q,ys⟩] [(2,.p 1 0),(3,.p 2 0),(31,.v (.slice ap u5.length ar)),(32,.v (.int .i64 ((u5.length:Nat):Int))),(33,.v (.int .i64 ((q:Nat):Int)))] a_ w_) (u5.length) ⟨0,none,0,[],[],by omega,by omega,Tags.nil _ _,cG.pk,bo,Fr.refl _ _ _⟩ ?_
 rintro eQ eR eS ⟨q,A5_,c5_,ys,dss,dM,dN,hU,cH,ak,aQ⟩
 refine qap [(2,.p 1 0),(3,.p 2 0),(31,.v (.slice ap u5.length ar)),(32,.v (.int .i64 ((u5.length:Nat):Int))),(33,.v (.int .i64 ((q:Nat):Int))),(34,.v (.bool (decide (((q:Nat):Int) < ((u5.length:Nat):Int)))))] ak cH fun eU aR=>?_
 refine wp_seq ?_
 refine qaz aR (b:=decide (((q:Nat):Int) < ((u5.length:Nat):Int))) kz (fun aS=>?_) (fun aS=>?_)
 ·
  have dO:=of_decide_eq_true aS
  refine wp_skip ?_
  refine qaa ?_
  refine wp_seq ?_
  refine wp_block ?_
  refine qac [0,1,2,3] kz ?_
  obtain ⟨dr,dt,cI,dP,aT⟩:=Slots.get dA (i:=q) (by omega)
  obtain ⟨⟨ab,ac⟩,bq⟩:∃ x,u5[q]? = some x:=⟨_,List.getElem?_eq_getElem (by omega)⟩
  obtain ⟨⟨al,am,bE,cJ⟩,du,dv⟩:=dX q ab ac bq
  rw [bE] at aT
  refine qaj (qas aR (t:=35) (A:=ap) (m:=u5.length) (q:=((q:Nat):Int)) (d:=35) kz (e:=64) (size:=2) (bytes:=32) kz cI rfl (by omega) fun eV cK=>?_)
  refine qaj (qaD cK (t:=64) (b:=dr) (o:=dt + q * 2) (d:=36) kz (cs:=[.int .u32 ab,.slice al ac.length am]) (v:=.agg #[.int .u32 ab,.slice al ac.length am]) kz (AtF.move aT ak.step nilM qa1).at_ fun eW cL=>?_)
  refine qaj (qaJ ak cL (d:=7) (cs:=[.int .u32 0,.slice none 0 0]) kz fun eX eY eZ dQ dR aU cM cN=>?_)
  refine qaj (qam cM cN (oi:=3) (cs:=[.int .u32 ab,.slice al ac.length am]) kz fun e9 aV bt cO=>?_)
  refine qae (qaa ?_)
  refine qaq [0,1,2,3,4,5,6,7,8,9,10] kz ?_
  refine qai [0,1,2,3,4,5,6] [7,8,9,10] [(2,.p 1 0),(3,.p 2 0),(31,.v (.slice ap u5.length ar)),(32,.v (.int .i64 ((u5.length:Nat):Int))),(33,.v (.int .i64 ((q:Nat):Int))),(38,.v (.slice A5_ q c5_)),(43,.v (.agg #[.int .u32 ab,.slice al ac.length am]))] bt cO fun fa cP=>?_
  refine qb8 bt cP (k:=1) (e:=65) (size:=2) (len:=1) (cs:=[.int .u32 ab,.slice al ac.length am]) (d1:=44) (d:=45) kz (t:=24) (bytes:=32) kz (fun _=>by kernel_rfl) rfl kz (by omega) fun ba bd fb fe aW bu ⟨_,cQ⟩=>?_
  refine qai [9] [10] [(2,.p 1 0),(3,.p 2 0),(31,.v (.slice ap u5.length ar)),(32,.v (.int .i64 ((u5.length:Nat):Int))),(33,.v (.int .i64 ((q:Nat):Int))),(45,.v (.slice ba (q + 1) bd)),(46,.p 2 4)] bu cQ fun ff cR=>?_
  refine qaj (qam bu cR (oi:=2) (cs:=[.int .i64 n1,.slice A6 s2.length c7,.bool b3,.slice A_ k c_,.slice ba (q + 1) bd]) kz fun fg aX bw cS=>?_)
  refine qae ?_
  refine qav ?_
  refine qaa ?_
  refine qaq [0,1] kz ?_
  refine qai [0,1] [] [(2,.p 1 0),(3,.p 2 0),(31,.v (.slice ap u5.length ar)),(32,.v (.int .i64 ((u5.length:Nat):Int))),(33,.v (.int .i64 (IntKind.i64.wrap (((q:Nat):Int) + 1))))] bw cS fun fh cT=>?_
  refine qae (qaa ?_)
  obtain ⟨bx,aY,aZ⟩:=bw.cutB cT 3 [⟨bF,0,[.int .i64 n1,.slice A6 s2.length c7,.bool b3,.slice A8 l4.length c9,.slice ap u5.length ar],true⟩,⟨bG,0,[.int .i64 0,.slice none 0 0,.bool false,.slice none 0 0,.slice none 0 0],true⟩,⟨bH,0,[.int .i64 n1,.slice A6 s2.length c7,.bool b3,.slice A_ k c_,.slice ba (q + 1) bd],true⟩] [(2,.p 1 0),(3,.p 2 0),(31,.v (.slice ap u5.length ar)),(32,.v (.int .i64 ((u5.length:Nat):Int))),(33,.v (.int .i64 (IntKind.i64.wrap (((q:Nat):Int) + 1))))]
  have cU:IntKind.i64.wrap (((q:Nat):Int) + 1) = ((q + 1:Nat):Int):=qaW (by omega)
  rw [cU] at bx
  exact ⟨u5.length - (q + 1),by omega,q + 1,ba,bd,ys ++ [Value.int .u32 ab,.slice al ac.length am],(dss ++ [[Value.int .u32 ab,.slice al ac.length am]]),rfl,by omega,by rw [qcx bq]; exact (hU.move ((((aU.trans aV).trans aW).trans aX).trans aZ).step immM ((((aU.trans aV).trans aW).trans aX).trans aZ).to').snoc (c:=[.int .u32 ab,.slice al ac.length am]) (x:=(ab,ac)) ⟨⟨_,_,rfl,(cJ.move aY.step nilM aY.imm)⟩,du,dv⟩,bx.pk,aY,(((((aQ.trans aU).trans aV).trans aW).trans aX).trans aZ)⟩
 have dS:=of_decide_eq_false aS
 refine wp_exit ?_
 refine qau ?_
 refine qau ?_
 refine qaM ?_
 refine qaa ?_
 refine qac [0,1] kz ?_
 refine qai [0] [1] [(2,.p 1 0),(48,.v (.agg #[.int .i64 n1,.slice A6 s2.length c7,.bool b3,.slice A_ k c_,.slice A5_ q c5_]))] ak aR fun fi cV=>?_
 refine qaj (qam ak cV (oi:=1) (cs:=[.int .i64 n1,.slice A6 s2.length c7,.bool b3,.slice A_ k c_,.slice A5_ q c5_]) kz fun fj av ao cW=>?_)
 refine qae (qaa ?_)
 refine wp_ret ?_
 refine qaN cW ao.cells (v:=.agg #[.int .i64 n1,.slice A6 s2.length c7,.bool b3,.slice A_ k c_,.slice A5_ q c5_]) kz ?_
 have hq0:q = u5.length:=by omega
 have hT':=(hT.move ((bp.trans aQ).trans av).step immM ((bp.trans aQ).trans av).to')
 have hU':=(hU.move av.step immM av.to')
 rw [show l4.take k = l4 by rw [hk0,List.take_length]] at hT'
 rw [show u5.take q = u5 by rw [hq0,List.take_length]] at hU'
 exact qi4 ao rfl (dw.move ao.step nilM qjQ) hk0 (qgB ao (k:=0) rfl hT' hk0 (by omega)) hq0 (qjP ao (k:=1) rfl hU' hq0 (by omega)) rfl
theorem lGot:∀ m,qkJ m
 | 0=>fun ct t w F ht hd=>by
  obtain ⟨n,s,b,l,u,A1,c1,A2,c2,A3,c3,xs,rfl,_⟩:=ht.open_
  rw [qfM] at hd; omega
 | m + 1=>qiH (lGot m)
theorem qiI {u:List (Int × Bs)} {A:Option Addr} {c:Nat} {w:World} {F:Nat → Nat → Prop} (hu:TagsR w F A c u) (hsrt:qcN u):Calls Tryz.prog 105 #[.slice A u.length c] w (qch w (.tuple #[])):=by
 obtain ⟨cs1,h2,h3⟩:=hu.ex
 have hsm4:=h2.small
 refine enter (n:=45) Tryz.func105 rfl Tryz.ntmps105 kz fun a hE=>?_
 have hW:=WOk.start w Nil
 refine qap [(0,.v (.slice A u.length c)),(5,.v (.int .i64 ((u.length:Nat):Int))),(6,.v (.int .i64 0))] hW hE fun a5 hE6=>?_
 refine wp_block ?_
 refine wp_loop_ghost (fun n_ a_ w_=>∃ (k:Nat),n_ = u.length - k ∧ k ≤ u.length ∧ LInv hW 45 [] [] [(0,.v (.slice A u.length c)),(5,.v (.int .i64 ((u.length:Nat):Int))),(6,.v (.int .i64 ((k:Nat):Int)))] a_ w_) (u.length) ⟨0,by omega,by omega,hE6.pk,hW,Fr.refl _ _ _⟩ ?_
 rintro n7 a8 w9 ⟨k,aW,aX,aB,ab,aj⟩
 refine qap [(0,.v (.slice A u.length c)),(5,.v (.int .i64 ((u.length:Nat):Int))),(6,.v (.int .i64 ((k:Nat):Int))),(7,.v (.bool (decide (((k:Nat):Int) < ((u.length:Nat):Int)))))] ab aB fun bn ah=>?_
 refine wp_seq ?_
 refine qaz ah (b:=decide (((k:Nat):Int) < ((u.length:Nat):Int))) kz (fun ai=>?_) (fun ai=>?_)
 ·
  have aY:=of_decide_eq_true ai
  refine wp_skip ?_
  refine qaa ?_
  refine wp_seq ?_
  refine wp_block ?_
  refine qap [(0,.v (.slice A u.length c)),(2,.v (.int .i64 ((k:Nat):Int))),(5,.v (.int .i64 ((u.length:Nat):Int))),(6,.v (.int .i64 ((k:Nat):Int)))] ab ah fun bo aC=>?_
  refine qap [(0,.v (.slice A u.length c)),(3,.v (.int .i64 ((k:Nat):Int))),(5,.v (.int .i64 ((u.length:Nat):Int))),(6,.v (.int .i64 ((k:Nat):Int)))] ab aC fun bp aD=>?_
  refine wp_block ?_
  refine qgR ?_
  refine wp_seq ?_
  refine qbK kz ab fun bq ak aa=>?_
  refine qaF [0,1,2] [(0,.v (.slice A u.length c)),(3,.v (.int .i64 ((k:Nat):Int))),(5,.v (.int .i64 ((u.length:Nat):Int))),(6,.v (.int .i64 ((k:Nat):Int))),(12,.v (.bool (decide (((k:Nat):Int) > 0))))] 13 (qab (qab (qab (qad (qad (qab (qab (qad qaf)))))))) (fun _ h=>h ▸ aa.cells) rfl aD fun bt al=>?_
  refine (Bool.eq_false_or_eq_true (decide (((k:Nat):Int) > 0))).elim (fun ac=>?_) (fun ac=>?_)
  ·
   have aZ:=of_decide_eq_true ac
   have aE:=al.cast (env':=[(0,.v (.slice A u.length c)),(3,.v (.int .i64 ((k:Nat):Int))),(5,.v (.int .i64 ((u.length:Nat):Int))),(6,.v (.int .i64 ((k:Nat):Int))),(12,.v (.bool true))]) (by rw [ac])
   refine qaF [3,4,8,9,10] [(0,.v (.slice A u.length c)),(3,.v (.int .i64 ((k:Nat):Int))),(5,.v (.int .i64 ((u.length:Nat):Int))),(6,.v (.int .i64 ((k:Nat):Int))),(12,.v (.bool true)),(13,.v (.slice A u.length c)),(14,.v (.int .i64 ((k:Nat):Int))),(18,.v (.slice A u.length c)),(20,.v (.int .i64 (IntKind.i64.wrap (((k:Nat):Int) - 1))))] 8 (qab (qab (qab (qad (qad (qab (qab (qad qaf)))))))) (fun _ h=>h ▸ aa.cells) rfl aE fun bu aF=>?_
   obtain ⟨az,aA,aG,ba,ae⟩:=Slots.get h2 (i:=k) (by omega)
   obtain ⟨⟨af,bd⟩,am⟩:∃ x,u[k]? = some x:=⟨_,List.getElem?_eq_getElem (by omega)⟩
   obtain ⟨⟨bw,bx,ao,bf⟩,bz,bA⟩:=h3 k af bd am
   rw [ao] at ae
   refine qaL aF (i:=5) (t:=35) (A:=A) (m:=u.length) (q:=((k:Nat):Int)) (d:=15) kz (e:=64) (size:=2) (bytes:=32) kz aG rfl (by omega) kz kz (qab (qab (qab (qad (qad (qab (qab (qad qaf)))))))) rfl fun bB aH=>?_
   refine qaF [6] [(0,.v (.slice A u.length c)),(3,.v (.int .i64 ((k:Nat):Int))),(5,.v (.int .i64 ((u.length:Nat):Int))),(6,.v (.int .i64 ((k:Nat):Int))),(12,.v (.bool true)),(16,.v (.pointer (some ⟨az,aA + k * 2,none⟩))),(18,.v (.slice A u.length c)),(20,.v (.int .i64 (IntKind.i64.wrap (((k:Nat):Int) - 1))))] 6 (qab (qab (qab (qad (qad (qab (qab (qad qaf)))))))) (fun _ h=>h ▸ aa.cells) rfl aH fun bC aI=>?_
   refine qbb aI (i:=7) (t:=62) (b:=az) (o:=aA + k * 2) (d:=17) kz (cs:=[.int .u32 af]) (v:=.int .u32 af) kz (fun w' h'=>h' ▸ (At.drop (AtF.move ae aa.step nilM qa1).at_ 0 1)) kz kz (qab (qab (qab (qad (qad (qab (qab (qad qaf)))))))) rfl fun bD aJ=>?_
   have aK:IntKind.i64.wrap (((k:Nat):Int) - 1) = (((k - 1):Nat):Int):=by simp only [qcg,qan,qbj,IntKind.wrap_i64,IntKind.wrap_i32]; omega
   have aL:=EnvOk.pick aJ (ks:=[0,3,5,6,12,16,18,20,17]) (env':=[(0,.v (.slice A u.length c)),(3,.v (.int .i64 ((k:Nat):Int))),(5,.v (.int .i64 ((u.length:Nat):Int))),(6,.v (.int .i64 ((k:Nat):Int))),(12,.v (.bool true)),(16,.v (.pointer (some ⟨az,aA + k * 2,none⟩))),(18,.v (.slice A u.length c)),(20,.v (.int .i64 (IntKind.i64.wrap (((k:Nat):Int) - 1)))),(17,.v (.int .u32 af))]) kz
   have aM:=aL.cast (env':=[(0,.v (.slice A u.length c)),(3,.v (.int .i64 ((k:Nat):Int))),(5,.v (.int .i64 ((u.length:Nat):Int))),(6,.v (.int .i64 ((k:Nat):Int))),(12,.v (.bool true)),(16,.v (.pointer (some ⟨az,aA + k * 2,none⟩))),(18,.v (.slice A u.length c)),(20,.v (.int .i64 (((k - 1):Nat):Int))),(17,.v (.int .u32 af))]) (by rw [aK])
   obtain ⟨aU,aV,aN,bg,ag⟩:=Slots.get h2 (i:=(k - 1)) (by omega)
   obtain ⟨⟨ap,bh⟩,ar⟩:∃ x,u[(k - 1)]? = some x:=⟨_,List.getElem?_eq_getElem (by omega)⟩
   obtain ⟨⟨bE,bF,au,bi⟩,bG,bH⟩:=h3 (k - 1) ap bh ar
   rw [au] at ag
   refine qaL aM (i:=11) (t:=35) (A:=A) (m:=u.length) (q:=(((k - 1):Nat):Int)) (d:=21) kz (e:=64) (size:=2) (bytes:=32) kz aN rfl (by omega) kz kz (qab (qab (qab (qad (qad (qab (qab (qad qaf)))))))) rfl fun bI aO=>?_
   refine qaF [12] [(0,.v (.slice A u.length c)),(3,.v (.int .i64 ((k:Nat):Int))),(5,.v (.int .i64 ((u.length:Nat):Int))),(6,.v (.int .i64 ((k:Nat):Int))),(12,.v (.bool true)),(17,.v (.int .u32 af)),(22,.v (.pointer (some ⟨aU,aV + (k - 1) * 2,none⟩)))] 3 (qab (qab (qab (qad (qad (qab (qab (qad qaf)))))))) (fun _ h=>h ▸ aa.cells) rfl aO fun bJ aP=>?_
   refine qbb aP (i:=13) (t:=62) (b:=aU) (o:=aV + (k - 1) * 2) (d:=23) kz (cs:=[.int .u32 ap]) (v:=.int .u32 ap) kz (fun w' h'=>h' ▸ (At.drop (AtF.move ag aa.step nilM qa1).at_ 0 1)) kz kz (qab (qab (qab (qad (qad (qab (qab (qad qaf)))))))) rfl fun bK aQ=>?_
   refine qaF [14,15] [(0,.v (.slice A u.length c)),(3,.v (.int .i64 ((k:Nat):Int))),(5,.v (.int .i64 ((u.length:Nat):Int))),(6,.v (.int .i64 ((k:Nat):Int))),(25,.v (.bool (decide (af < ap))))] 0 (qab (qab (qab (qad (qad (qab (qab (qad qaf)))))))) (fun _ h=>h ▸ aa.cells) rfl aQ fun bL av=>?_
   refine qaE kz ?_ _
   refine qaa ?_
   refine qar av (b:=decide (af < ap)) kz (decide_eq_false (qhp hsrt am ar (by omega))) ?_
   refine wp_exit ?_
   refine qau ?_
   refine qau ?_
   refine qaM ?_
   refine qav ?_
   refine qaa ?_
   refine qaq [0,1] kz ?_
   refine qai [0,1] [] [(0,.v (.slice A u.length c)),(5,.v (.int .i64 ((u.length:Nat):Int))),(6,.v (.int .i64 (IntKind.i64.wrap (((k:Nat):Int) + 1))))] aa av fun bM aw=>?_
   refine qae (qaa ?_)
   have aR:IntKind.i64.wrap (((k:Nat):Int) + 1) = ((k + 1:Nat):Int):=qaW (by omega)
   rw [aR] at aw
   exact ⟨u.length - (k + 1),by omega,k + 1,rfl,by omega,aw.pk,aa,(aj.trans ak)⟩
  have bj:=of_decide_eq_false ac
  have aS:=al.cast (env':=[(0,.v (.slice A u.length c)),(3,.v (.int .i64 ((k:Nat):Int))),(5,.v (.int .i64 ((u.length:Nat):Int))),(6,.v (.int .i64 ((k:Nat):Int))),(12,.v (.bool false))]) (by rw [ac])
  refine qaF [3,4,5,6,7,8,9,10,11,12,13,14,15] [(0,.v (.slice A u.length c)),(3,.v (.int .i64 ((k:Nat):Int))),(5,.v (.int .i64 ((u.length:Nat):Int))),(6,.v (.int .i64 ((k:Nat):Int))),(25,.v (.bool false))] 0 (qab (qab (qab (qad (qad (qab (qab (qad qaf)))))))) (fun _ h=>h ▸ aa.cells) rfl aS fun bN ax=>?_
  refine qaE kz ?_ _
  refine qaa ?_
  refine qar ax (b:=false) kz rfl ?_
  refine wp_exit ?_
  refine qau ?_
  refine qau ?_
  refine qaM ?_
  refine qav ?_
  refine qaa ?_
  refine qaq [0,1] kz ?_
  refine qai [0,1] [] [(0,.v (.slice A u.length c)),(5,.v (.int .i64 ((u.length:Nat):Int))),(6,.v (.int .i64 (IntKind.i64.wrap (((k:Nat):Int) + 1))))] aa ax fun bO ay=>?_
  refine qae (qaa ?_)
  have aT:IntKind.i64.wrap (((k:Nat):Int) + 1) = ((k + 1:Nat):Int):=qaW (by omega)
  rw [aT] at ay
  exact ⟨u.length - (k + 1),by omega,k + 1,rfl,by omega,ay.pk,aa,(aj.trans ak)⟩
 have bk:=of_decide_eq_false ai
 refine wp_exit ?_
 refine qau ?_
 refine qau ?_
 refine qaM ?_
 refine qbB ah ab.cells (v:=.tuple #[]) kz ?_
 exact ⟨rfl,ab.step⟩
theorem qkK (s:ByteArray) (w:World) (F:Nat → Nat → Prop):Calls Tryz.prog 101 #[.pointer none] w (qc1 w F (.mk 0 [] true [] [])):=by
 refine enter (n:=11) Tryz.func101 rfl Tryz.ntmps101 kz fun a hE=>?_
 have hW:=WOk.start w Nil
 refine qac [0] kz ?_
 refine qaj (qaJ hW hE (d:=2) (cs:=[.int .i64 0,.slice none 0 0,.bool false,.slice none 0 0,.slice none 0 0]) kz fun b1 a2 w3 hb4 hz5 hF6 hW7 hE8=>?_)
 refine qae (qaa ?_)
 refine wp_seq ?_
 refine qap [(0,.v (.pointer none)),(2,.p 0 0),(4,.v (.bool true))] hW7 hE8 fun a9 aa=>?_
 refine qbf aa (b:=true) kz rfl ?_
 refine qac [0,1] kz ?_
 refine qai [0] [1] [(2,.p 0 0),(5,.v (.agg #[.int .i64 0,.slice none 0 0,.bool true,.slice none 0 0,.slice none 0 0]))] hW7 aa fun ah ac=>?_
 refine qaj (qam hW7 ac (oi:=0) (cs:=[.int .i64 0,.slice none 0 0,.bool true,.slice none 0 0,.slice none 0 0]) kz fun af ag ab ae=>?_)
 refine qae (qaa ?_)
 refine wp_ret ?_
 refine qax ?_
 refine qaN ae ab.cells (v:=.agg #[.int .i64 0,.slice none 0 0,.bool true,.slice none 0 0,.slice none 0 0]) kz ?_
 exact ⟨_,rfl,(show TreeR _ (Imm F w af [⟨b1,0,[.int .i64 0,.slice none 0 0,.bool true,.slice none 0 0,.slice none 0 0],true⟩] []) _ (Tree.mk 0 [] true [] []) from (TreeR.mk (n:=0) (b:=true) (s:=[]) (l:=[]) (u:=[]) (fun _=>[]) (Octs.nil _ _) (Slots.nil _ _ _ _) (fun i_ x_ h_=>by simp at h_) (TagsR.nil _ _))).move (Step.refl _ Nil) nilM qbk,ab.step⟩
theorem qkL (b o:Nat) (s:ByteArray) (w:World) (F:Nat → Nat → Prop) (hat:AtF w F b o [.string s]) (hs:s.size ≤ 1000000):Calls Tryz.prog 101 #[.pointer (some ⟨b,o,none⟩)] w (qc1 w F (.mk 0 (sb s) false [] [])):=by
 refine enter (n:=11) Tryz.func101 rfl Tryz.ntmps101 kz fun a hE=>?_
 have hW:=WOk.start w Nil
 refine qac [0] kz ?_
 refine qaj (qaJ hW hE (d:=2) (cs:=[.int .i64 0,.slice none 0 0,.bool false,.slice none 0 0,.slice none 0 0]) kz fun b1 a2 w3 hb4 hz5 hF6 hW7 hE8=>?_)
 refine qae (qaa ?_)
 refine wp_seq ?_
 refine qap [(0,.v (.pointer (some ⟨b,o,none⟩))),(2,.p 0 0),(4,.v (.bool false))] hW7 hE8 fun a9 aa=>?_
 refine qar aa (b:=false) kz rfl ?_
 refine wp_skip ?_
 refine qaa ?_
 refine qac [0,1,2,3,4,5] kz ?_
 refine qai [0,1] [2,3,4,5] [(2,.p 0 0),(7,.v (.pointer (some ⟨b,o,none⟩)))] hW7 aa fun au ah=>?_
 refine qaj (qaD ah (t:=9) (b:=b) (o:=o) (d:=8) kz (cs:=[.string s]) (v:=.string s) kz (AtF.move hat hW7.step nilM qa1).at_ fun av ai=>?_)
 refine qaj (qec (d:=9) (src:=9) (dst:=22) (e:=5) (s:=s) hW7 ai (by omega) fun af ag aw ax ap ab aj ak=>?_)
 have al:=aj F
 refine qai [4] [5] [(2,.p 0 0),(10,.v (.agg #[.int .i64 0,.slice (some ⟨af,0,none⟩) ((sb s).length) ag,.bool false,.slice none 0 0,.slice none 0 0]))] ab ak fun ay am=>?_
 refine qaj (qam ab am (oi:=0) (cs:=[.int .i64 0,.slice (some ⟨af,0,none⟩) ((sb s).length) ag,.bool false,.slice none 0 0,.slice none 0 0]) kz fun ar ac ae ao=>?_)
 refine qae (qaa ?_)
 refine wp_ret ?_
 refine qaN ao ae.cells (v:=.agg #[.int .i64 0,.slice (some ⟨af,0,none⟩) ((sb s).length) ag,.bool false,.slice none 0 0,.slice none 0 0]) kz ?_
 exact ⟨_,rfl,(show TreeR _ (Imm F w ar [⟨b1,0,[.int .i64 0,.slice (some ⟨af,0,none⟩) ((sb s).length) ag,.bool false,.slice none 0 0,.slice none 0 0],true⟩] []) _ (Tree.mk 0 (sb s) false [] []) from (TreeR.mk (n:=0) (b:=false) (s:=(sb s)) (l:=[]) (u:=[]) (fun _=>[]) (al.move ac.step immM ac.to') (Slots.nil _ _ _ _) (fun i_ x_ h_=>by simp at h_) (TagsR.nil _ _))).move (Step.refl _ Nil) nilM qbk,ae.step⟩
theorem qkM (A:Option Addr) (s:ByteArray) (w:World) (F:Nat → Nat → Prop) (hO:∀ ad,A = some ad → ∃ b o,ad = ⟨b,o,none⟩ ∧ AtF w F b o [.string s]) (hs:s.size ≤ 1000000):Calls Tryz.prog 101 #[.pointer A] w (qc1 w F (qiF A s)):=by
 cases A with
 | none=>exact qkK s w F
 | some ad =>
  obtain ⟨b,o,rfl,h⟩:=hO ad rfl
  exact qkL b o s w F h hs
theorem qhr (w:World) (F:Nat → Nat → Prop):Calls Tryz.prog 100 #[.bool true] w (qc1 w F (.mk 1 [] false [] [])):=by
 refine enter (n:=6) Tryz.func100 rfl Tryz.ntmps100 kz fun a hE=>?_
 have hW:=WOk.start w Nil
 refine qac [0] kz ?_
 refine qaj (qaJ hW hE (d:=2) (cs:=[.int .i64 0,.slice none 0 0,.bool false,.slice none 0 0,.slice none 0 0]) kz fun b1 a2 w3 hb4 hz5 hF6 hW7 hE8=>?_)
 refine qae (qaa ?_)
 refine wp_seq ?_
 refine qap [(2,.p 0 0),(3,.v (.bool true))] hW7 hE8 fun a9 aa=>?_
 refine qbf aa (b:=true) kz rfl ?_
 refine qac [0,1] kz ?_
 refine qai [0] [1] [(2,.p 0 0),(4,.v (.agg #[.int .i64 1,.slice none 0 0,.bool false,.slice none 0 0,.slice none 0 0]))] hW7 aa fun ah ac=>?_
 refine qaj (qam hW7 ac (oi:=0) (cs:=[.int .i64 1,.slice none 0 0,.bool false,.slice none 0 0,.slice none 0 0]) kz fun af ag ab ae=>?_)
 refine qae (qaa ?_)
 refine wp_ret ?_
 refine qax ?_
 refine qaN ae ab.cells (v:=.agg #[.int .i64 1,.slice none 0 0,.bool false,.slice none 0 0,.slice none 0 0]) kz ?_
 exact ⟨_,rfl,(show TreeR _ (Imm F w af [⟨b1,0,[.int .i64 1,.slice none 0 0,.bool false,.slice none 0 0,.slice none 0 0],true⟩] []) _ (Tree.mk 1 [] false [] []) from (TreeR.mk (n:=1) (b:=false) (s:=[]) (l:=[]) (u:=[]) (fun _=>[]) (Octs.nil _ _) (Slots.nil _ _ _ _) (fun i_ x_ h_=>by simp at h_) (TagsR.nil _ _))).move (Step.refl _ Nil) nilM qbk,ab.step⟩
theorem qgs (w:World) (F:Nat → Nat → Prop):Calls Tryz.prog 100 #[.bool false] w (qc1 w F (.mk 0 [] false [] [])):=by
 refine enter (n:=6) Tryz.func100 rfl Tryz.ntmps100 kz fun a hE=>?_
 have hW:=WOk.start w Nil
 refine qac [0] kz ?_
 refine qaj (qaJ hW hE (d:=2) (cs:=[.int .i64 0,.slice none 0 0,.bool false,.slice none 0 0,.slice none 0 0]) kz fun b1 a2 w3 hb4 hz5 hF6 hW7 hE8=>?_)
 refine qae (qaa ?_)
 refine wp_seq ?_
 refine qap [(2,.p 0 0),(3,.v (.bool false))] hW7 hE8 fun a9 aa=>?_
 refine qar aa (b:=false) kz rfl ?_
 refine wp_skip ?_
 refine qaa ?_
 refine qac [0,1] kz ?_
 refine qai [0] [1] [(2,.p 0 0),(5,.v (.agg #[.int .i64 0,.slice none 0 0,.bool false,.slice none 0 0,.slice none 0 0]))] hW7 aa fun ah ac=>?_
 refine qaj (qam hW7 ac (oi:=0) (cs:=[.int .i64 0,.slice none 0 0,.bool false,.slice none 0 0,.slice none 0 0]) kz fun af ag ab ae=>?_)
 refine qae (qaa ?_)
 refine wp_ret ?_
 refine qaN ae ab.cells (v:=.agg #[.int .i64 0,.slice none 0 0,.bool false,.slice none 0 0,.slice none 0 0]) kz ?_
 exact ⟨_,rfl,(show TreeR _ (Imm F w af [⟨b1,0,[.int .i64 0,.slice none 0 0,.bool false,.slice none 0 0,.slice none 0 0],true⟩] []) _ (Tree.mk 0 [] false [] []) from (TreeR.mk (n:=0) (b:=false) (s:=[]) (l:=[]) (u:=[]) (fun _=>[]) (Octs.nil _ _) (Slots.nil _ _ _ _) (fun i_ x_ h_=>by simp at h_) (TagsR.nil _ _))).move (Step.refl _ Nil) nilM qbk,ab.step⟩
theorem qk3 (b:Bool) (w:World) (F:Nat → Nat → Prop):Calls Tryz.prog 100 #[.bool b] w (qc1 w F (qka b)):=by
 cases b
 ·exact qgs w F
 exact qhr w F
theorem qet:qfu Tryz.prog 133 64:=by
 intro w B cp c n k A Av x x0 x1 x2 x3 xs G hbx ho hG hn
 refine enter (n:=14) Tryz.func133 rfl Tryz.ntmps133 kz fun a hE=>?_
 have hW:=hbx.wok
 have hE0:=(hE.grow ⟨B,0,[x0,x1,x2,x3,.slice A n cp],true⟩).recast 2 (.v (.pointer (some ⟨B,0,none⟩))) (.p 0 0) rfl rfl (by simp [SV.ok])
 have hsm:=Slots.small ho
 have ap:=hE0.pk (env':=[(0,.v (.int .u32 k)),(1,.v (.slice Av x.length c)),(2,.p 0 0)])
 refine qcU 9 kz hW fun w1 hF2 hW3 hT4=>?_
 refine qaF [0,1,2,3] [(2,.p 0 0),(6,.v (.slice A n cp)),(7,.v (.int .u32 k)),(8,.v (.slice Av x.length c))] 6 qaf (fun _ h=>h.cells) hT4 ap fun a5 hE6=>?_
 have hW7:=hW3.addNil 5 1
 have hF8:=hW3.frNil 5 1
 refine qaw (i:=4) kz (qaQ hW7 hE6 (k:=1) (d:=9) (t:=22) (e:=5) (size:=1) (bytes:=1) (A:=none) (As:=Av) (m0:=0) (c:=0) (m:=x.length) (cs:=c) (xs:=[]) (news:=bc x) kz kz rfl (ho.move hW7.step (fun b o h _=>hG b o h) qa1).src (ho.move hW7.step (fun b o h _=>hG b o h) qa1).cap (by first | omega | (simp only [List.length_nil]; omega) | (simp; omega)) fun A9 aa aK aL ac ar au=>?_)
 have av:(⟨A9,aa,5,1,0 + x.length,[] ++ bc x⟩:Rw) = brow A9 aa 5 x:=by rw [List.nil_append,Nat.zero_add]
 obtain ⟨af,ae⟩:=ar.rowEq 1 [⟨A,cp,64,2,n,xs⟩,brow A9 aa 5 x] av
 have aw:=EnvOk.pick au (ks:=[2,6,7,8,9]) (env':=[(2,.p 0 0),(6,.v (.slice A n cp)),(7,.v (.int .u32 k)),(8,.v (.slice Av x.length c)),(9,.v (.slice A9 (0 + x.length) aa))]) kz
 have ax:=aw.cast (env':=[(2,.p 0 0),(6,.v (.slice A n cp)),(7,.v (.int .u32 k)),(8,.v (.slice Av x.length c)),(9,.v (.slice A9 x.length aa))]) (by simp only [List.length_append,List.length_cons,List.length_nil,Nat.zero_add])
 have ag:=TT.ofW ((hF8.trans ac).trans ae) af
 refine ⟨fun _=>ag,?_⟩
 refine qaF [5] [(2,.p 0 0),(6,.v (.slice A n cp)),(10,.v (.agg #[.int .u32 k,.slice A9 x.length aa]))] 4 qaf (fun _ h=>h.cells) ag ax fun aM ay=>?_
 refine qaw (i:=6) kz (qbZ af ay (e:=64) (size:=2) (len:=1) (cs:=[.int .u32 k,.slice A9 x.length aa]) (d:=11) kz kz fun aF aN aO aG aH ah ab az=>?_)
 have aA:=TT.ofW (((hF8.trans ac).trans ae).trans ah) ab
 refine ⟨fun _=>aA,?_⟩
 refine qaw (i:=7) kz (qaQ ab az (k:=0) (d:=12) (t:=35) (e:=64) (size:=2) (bytes:=32) (A:=A) (As:=(some ⟨aF,0,none⟩)) (m0:=n) (c:=cp) (m:=1) (cs:=1) (xs:=xs) (news:=[.int .u32 k,.slice A9 x.length aa]) kz kz rfl (qbz (ab.own 2 _ rfl) (qbF kz)) (qbJ (ab.own 2 _ rfl)) (by first | omega | (simp only [List.length_nil]; omega) | (simp; omega)) fun am ao aP aQ aB ai aC=>?_)
 have aj:=TT.ofW ((((hF8.trans ac).trans ae).trans ah).trans aB) ai
 refine ⟨fun _=>aj,?_⟩
 refine qaF [8] [(12,.v (.slice am (n + 1) ao)),(13,.p 0 4)] 1 qaf (fun _ h=>h.cells) aj aC fun aR aD=>?_
 refine qaw (i:=9) kz (qam ai aD (oi:=0) (cs:=[x0,x1,x2,x3,.slice am (n + 1) ao]) kz fun aS aI ak aE=>?_)
 refine ⟨fun h=>absurd rfl h,?_⟩
 refine qaE kz ?_ _
 refine qbB aE ak.cells (v:=.tuple #[]) kz ?_
 obtain ⟨al,aJ⟩:=ak.cutR 2 [⟨am,ao,64,2,n + 1,xs ++ [.int .u32 k,.slice A9 x.length aa]⟩,brow A9 aa 5 x]
 have hoo:=qeO (s:=x) (Av:=A9) (c:=aa) (e8:=5) rfl al (by omega)
 obtain ⟨hb1,hb2,hb3⟩:=qgr al (World.lt_of_cell (hbx.str.at_ 0 _ rfl))
 exact ⟨rfl,am,ao,A9,aa,hb1,hoo,hb2,hb3⟩
theorem qcs:qfu Tryz.prog 111 64:=by
 intro w B cp c n k A Av x x0 x1 x2 x3 xs G hbx ho hG hn
 refine enter (n:=14) Tryz.func111 rfl Tryz.ntmps111 kz fun a hE=>?_
 have hW:=hbx.wok
 have hE0:=(hE.grow ⟨B,0,[x0,x1,x2,x3,.slice A n cp],true⟩).recast 2 (.v (.pointer (some ⟨B,0,none⟩))) (.p 0 0) rfl rfl (by simp [SV.ok])
 have hsm:=Slots.small ho
 have ap:=hE0.pk (env':=[(0,.v (.int .u32 k)),(1,.v (.slice Av x.length c)),(2,.p 0 0)])
 refine qcU 9 kz hW fun w1 hF2 hW3 hT4=>?_
 refine qaF [0,1,2,3] [(2,.p 0 0),(6,.v (.slice A n cp)),(7,.v (.int .u32 k)),(8,.v (.slice Av x.length c))] 6 qaf (fun _ h=>h.cells) hT4 ap fun a5 hE6=>?_
 have hW7:=hW3.addNil 5 1
 have hF8:=hW3.frNil 5 1
 refine qaw (i:=4) kz (qaQ hW7 hE6 (k:=1) (d:=9) (t:=22) (e:=5) (size:=1) (bytes:=1) (A:=none) (As:=Av) (m0:=0) (c:=0) (m:=x.length) (cs:=c) (xs:=[]) (news:=bc x) kz kz rfl (ho.move hW7.step (fun b o h _=>hG b o h) qa1).src (ho.move hW7.step (fun b o h _=>hG b o h) qa1).cap (by first | omega | (simp only [List.length_nil]; omega) | (simp; omega)) fun A9 aa aK aL ac ar au=>?_)
 have av:(⟨A9,aa,5,1,0 + x.length,[] ++ bc x⟩:Rw) = brow A9 aa 5 x:=by rw [List.nil_append,Nat.zero_add]
 obtain ⟨af,ae⟩:=ar.rowEq 1 [⟨A,cp,64,2,n,xs⟩,brow A9 aa 5 x] av
 have aw:=EnvOk.pick au (ks:=[2,6,7,8,9]) (env':=[(2,.p 0 0),(6,.v (.slice A n cp)),(7,.v (.int .u32 k)),(8,.v (.slice Av x.length c)),(9,.v (.slice A9 (0 + x.length) aa))]) kz
 have ax:=aw.cast (env':=[(2,.p 0 0),(6,.v (.slice A n cp)),(7,.v (.int .u32 k)),(8,.v (.slice Av x.length c)),(9,.v (.slice A9 x.length aa))]) (by simp only [List.length_append,List.length_cons,List.length_nil,Nat.zero_add])
 have ag:=TT.ofW ((hF8.trans ac).trans ae) af
 refine ⟨fun _=>ag,?_⟩
 refine qaF [5] [(2,.p 0 0),(6,.v (.slice A n cp)),(10,.v (.agg #[.int .u32 k,.slice A9 x.length aa]))] 4 qaf (fun _ h=>h.cells) ag ax fun aM ay=>?_
 refine qaw (i:=6) kz (qbZ af ay (e:=64) (size:=2) (len:=1) (cs:=[.int .u32 k,.slice A9 x.length aa]) (d:=11) kz kz fun aF aN aO aG aH ah ab az=>?_)
 have aA:=TT.ofW (((hF8.trans ac).trans ae).trans ah) ab
 refine ⟨fun _=>aA,?_⟩
 refine qaw (i:=7) kz (qaQ ab az (k:=0) (d:=12) (t:=35) (e:=64) (size:=2) (bytes:=32) (A:=A) (As:=(some ⟨aF,0,none⟩)) (m0:=n) (c:=cp) (m:=1) (cs:=1) (xs:=xs) (news:=[.int .u32 k,.slice A9 x.length aa]) kz kz rfl (qbz (ab.own 2 _ rfl) (qbF kz)) (qbJ (ab.own 2 _ rfl)) (by first | omega | (simp only [List.length_nil]; omega) | (simp; omega)) fun am ao aP aQ aB ai aC=>?_)
 have aj:=TT.ofW ((((hF8.trans ac).trans ae).trans ah).trans aB) ai
 refine ⟨fun _=>aj,?_⟩
 refine qaF [8] [(12,.v (.slice am (n + 1) ao)),(13,.p 0 4)] 1 qaf (fun _ h=>h.cells) aj aC fun aR aD=>?_
 refine qaw (i:=9) kz (qam ai aD (oi:=0) (cs:=[x0,x1,x2,x3,.slice am (n + 1) ao]) kz fun aS aI ak aE=>?_)
 refine ⟨fun h=>absurd rfl h,?_⟩
 refine qaE kz ?_ _
 refine qbB aE ak.cells (v:=.tuple #[]) kz ?_
 obtain ⟨al,aJ⟩:=ak.cutR 2 [⟨am,ao,64,2,n + 1,xs ++ [.int .u32 k,.slice A9 x.length aa]⟩,brow A9 aa 5 x]
 have hoo:=qeO (s:=x) (Av:=A9) (c:=aa) (e8:=5) rfl al (by omega)
 obtain ⟨hb1,hb2,hb3⟩:=qgr al (World.lt_of_cell (hbx.str.at_ 0 _ rfl))
 exact ⟨rfl,am,ao,A9,aa,hb1,hoo,hb2,hb3⟩
theorem qb6:qfu Tryz.prog 165 64:=by
 intro w B cp c n k A Av x x0 x1 x2 x3 xs G hbx ho hG hn
 refine enter (n:=14) Tryz.func165 rfl Tryz.ntmps165 kz fun a hE=>?_
 have hW:=hbx.wok
 have hE0:=(hE.grow ⟨B,0,[x0,x1,x2,x3,.slice A n cp],true⟩).recast 2 (.v (.pointer (some ⟨B,0,none⟩))) (.p 0 0) rfl rfl (by simp [SV.ok])
 have hsm:=Slots.small ho
 have ap:=hE0.pk (env':=[(0,.v (.int .u32 k)),(1,.v (.slice Av x.length c)),(2,.p 0 0)])
 refine qcU 9 kz hW fun w1 hF2 hW3 hT4=>?_
 refine qaF [0,1,2,3] [(2,.p 0 0),(6,.v (.slice A n cp)),(7,.v (.int .u32 k)),(8,.v (.slice Av x.length c))] 6 qaf (fun _ h=>h.cells) hT4 ap fun a5 hE6=>?_
 have hW7:=hW3.addNil 5 1
 have hF8:=hW3.frNil 5 1
 refine qaw (i:=4) kz (qaQ hW7 hE6 (k:=1) (d:=9) (t:=22) (e:=5) (size:=1) (bytes:=1) (A:=none) (As:=Av) (m0:=0) (c:=0) (m:=x.length) (cs:=c) (xs:=[]) (news:=bc x) kz kz rfl (ho.move hW7.step (fun b o h _=>hG b o h) qa1).src (ho.move hW7.step (fun b o h _=>hG b o h) qa1).cap (by first | omega | (simp only [List.length_nil]; omega) | (simp; omega)) fun A9 aa aK aL ac ar au=>?_)
 have av:(⟨A9,aa,5,1,0 + x.length,[] ++ bc x⟩:Rw) = brow A9 aa 5 x:=by rw [List.nil_append,Nat.zero_add]
 obtain ⟨af,ae⟩:=ar.rowEq 1 [⟨A,cp,64,2,n,xs⟩,brow A9 aa 5 x] av
 have aw:=EnvOk.pick au (ks:=[2,6,7,8,9]) (env':=[(2,.p 0 0),(6,.v (.slice A n cp)),(7,.v (.int .u32 k)),(8,.v (.slice Av x.length c)),(9,.v (.slice A9 (0 + x.length) aa))]) kz
 have ax:=aw.cast (env':=[(2,.p 0 0),(6,.v (.slice A n cp)),(7,.v (.int .u32 k)),(8,.v (.slice Av x.length c)),(9,.v (.slice A9 x.length aa))]) (by simp only [List.length_append,List.length_cons,List.length_nil,Nat.zero_add])
 have ag:=TT.ofW ((hF8.trans ac).trans ae) af
 refine ⟨fun _=>ag,?_⟩
 refine qaF [5] [(2,.p 0 0),(6,.v (.slice A n cp)),(10,.v (.agg #[.int .u32 k,.slice A9 x.length aa]))] 4 qaf (fun _ h=>h.cells) ag ax fun aM ay=>?_
 refine qaw (i:=6) kz (qbZ af ay (e:=64) (size:=2) (len:=1) (cs:=[.int .u32 k,.slice A9 x.length aa]) (d:=11) kz kz fun aF aN aO aG aH ah ab az=>?_)
 have aA:=TT.ofW (((hF8.trans ac).trans ae).trans ah) ab
 refine ⟨fun _=>aA,?_⟩
 refine qaw (i:=7) kz (qaQ ab az (k:=0) (d:=12) (t:=35) (e:=64) (size:=2) (bytes:=32) (A:=A) (As:=(some ⟨aF,0,none⟩)) (m0:=n) (c:=cp) (m:=1) (cs:=1) (xs:=xs) (news:=[.int .u32 k,.slice A9 x.length aa]) kz kz rfl (qbz (ab.own 2 _ rfl) (qbF kz)) (qbJ (ab.own 2 _ rfl)) (by first | omega | (simp only [List.length_nil]; omega) | (simp; omega)) fun am ao aP aQ aB ai aC=>?_)
 have aj:=TT.ofW ((((hF8.trans ac).trans ae).trans ah).trans aB) ai
 refine ⟨fun _=>aj,?_⟩
 refine qaF [8] [(12,.v (.slice am (n + 1) ao)),(13,.p 0 4)] 1 qaf (fun _ h=>h.cells) aj aC fun aR aD=>?_
 refine qaw (i:=9) kz (qam ai aD (oi:=0) (cs:=[x0,x1,x2,x3,.slice am (n + 1) ao]) kz fun aS aI ak aE=>?_)
 refine ⟨fun h=>absurd rfl h,?_⟩
 refine qaE kz ?_ _
 refine qbB aE ak.cells (v:=.tuple #[]) kz ?_
 obtain ⟨al,aJ⟩:=ak.cutR 2 [⟨am,ao,64,2,n + 1,xs ++ [.int .u32 k,.slice A9 x.length aa]⟩,brow A9 aa 5 x]
 have hoo:=qeO (s:=x) (Av:=A9) (c:=aa) (e8:=5) rfl al (by omega)
 obtain ⟨hb1,hb2,hb3⟩:=qgr al (World.lt_of_cell (hbx.str.at_ 0 _ rfl))
 exact ⟨rfl,am,ao,A9,aa,hb1,hoo,hb2,hb3⟩
theorem n8w (x:Int):IntKind.i8.wrap x = (x + 128) % 256 - 128:=by simp [IntKind.wrap,IntKind.signed,IntKind.bits]; omega
theorem n16w (x:Int):IntKind.i16.wrap x = (x + 32768) % 65536 - 32768:=by simp [IntKind.wrap,IntKind.signed,IntKind.bits]; omega
theorem n32w (x:Int):IntKind.i32.wrap x = (x + 2147483648) % 4294967296 - 2147483648:=by simp [IntKind.wrap,IntKind.signed,IntKind.bits]; omega
theorem n64w (x:Int):IntKind.i64.wrap x = (x + 9223372036854775808) % 18446744073709551616 - 9223372036854775808:=by simp [IntKind.wrap,IntKind.signed,IntKind.bits]; omega
theorem qhs (x:Int):IntKind.i64.wrap (IntKind.i8.wrap x) = IntKind.i8.wrap x:=by rw [n64w,n8w]; omega
theorem qe8 (x:Int):IntKind.i64.wrap (IntKind.i16.wrap x) = IntKind.i16.wrap x:=by rw [n64w,n16w]; omega
theorem qe9 (x:Int):IntKind.i64.wrap (IntKind.i32.wrap x) = IntKind.i32.wrap x:=by rw [n64w,n32w]; omega
theorem qee (x:Int):IntKind.i64.wrap (IntKind.u16.wrap x) = IntKind.u16.wrap x:=by rw [n64w,qbj]; omega
def qbN (k n:Int):Int:=if k = 0 then n % 2 else if k = 1 then IntKind.i8.wrap n else if k = 2 then IntKind.i16.wrap n else if k = 3 then IntKind.i32.wrap n else if k = 5 then IntKind.u16.wrap n else n
section
variable {U:List Fld → Tree → Prop} {k x1 x2 x3 x4 x5 x6 n:Int} {sub:List Fld} {s:Bs} {b:Bool} {l:List Tree} {u:List (Int × Bs)}
end
section
variable {T:List Fld → Tree → Tree → Prop} {v k x1 x2 x3 x4 x5 x6 tn n:Int} {sub:List Fld} {ts s:Bs} {tb b:Bool} {tl l:List Tree} {tu u:List (Int × Bs)}
end
theorem qgU {P:Program} {ops:Array Oper} {Q:Exit → Act → World → Prop} {a:Act} {w:World} {T:World → Prop} {c i j fuel:Nat} {listed:Array Bool} (hr:Region.ready .any ops listed = [i,j]) (h:wpOp P ops Q i (fun a' w'=>(i ≠ c → T w') ∧ qbr P ops Q T c fuel (listed.setIfInBounds i true) a' w') a w)
  (h':wpOp P ops Q j (fun a' w'=>(j ≠ c → T w') ∧ qbr P ops Q T c fuel (listed.setIfInBounds j true) a' w') a w):qbr P ops Q T c (fuel + 1) listed a w:=by
 refine ⟨fun h0=>(by rw [hr] at h0; cases h0),fun q hq=>?_⟩
 rw [hr] at hq
 simp only [List.mem_cons,List.not_mem_nil,or_false] at hq
 rcases hq with rfl | rfl
 ·exact h
 exact h'
section
variable {w:World} {F:Nat → Nat → Prop}
end
section
variable {gu tu:List (Int × Bs)} {l:List Fld} {flex:Bool} {i:Nat} {k k':Int} {s s':Bs}
end
def qaS (D:DV):Tree:=.mk 0 [] false [.mk (IntKind.i64.wrap (D.f 0).n) [] false [] [],.mk 0 (sb (D.f 1).s) false [] [],.mk (IntKind.i64.wrap (D.f 2).n) [] false [] [],qiF (D.f 3).A (D.f 3).s,qka (D.f 4).b] D.u
def qa3 (D:DV):Tree:=.mk 0 [] false [.mk (IntKind.i64.wrap (D.f 0).n) [] false [] [],.mk (IntKind.i64.wrap (D.f 1).n) [] false [] [],qiF (D.f 2).A (D.f 2).s,.mk (IntKind.i64.wrap (D.f 3).n) [] false [] [],.mk 0 (sb (D.f 4).s) false [] [],.mk (IntKind.i64.wrap (D.f 5).n) [] false [] [],.mk 0 [] (D.f 6).A.isNone ((List.range (D.f 6).l).map fun i=>qaS ((D.f 6).f i)) [],.mk (IntKind.i64.wrap (D.f 7).n) [] false [] []] D.u
set_option maxHeartbeats 4000000 in
theorem qbc (v:Int) (D:DV) (b o:Nat) (w:World) (F:Nat → Nat → Prop) (hat:AtF w F b o [.int .i32 ((D.f 0).n),.string ((D.f 1).s),.int .i32 ((D.f 2).n),.pointer ((D.f 3).A),.bool ((D.f 4).b),.map D.m]) (hok:qaI w F D):Calls Tryz.prog 110 #[.pointer (some ⟨b,o,none⟩)] w (qc1 w F (qaS D)):=by
 refine enter (n:=58) Tryz.func110 rfl Tryz.ntmps110 kz fun a hE=>?_
 have hW:WOk w Nil w [⟨b,o,[.int .i32 ((D.f 0).n),.string ((D.f 1).s),.int .i32 ((D.f 2).n),.pointer ((D.f 3).A),.bool ((D.f 4).b),.map D.m],false⟩] []:=(WOk.start w Nil).start1 hat rfl rfl
 unfold qaI at hok
 obtain ⟨g1,g2,g3,⟨g4,g4l⟩,g5,g6,g6l,g6x,_⟩:=hok
 have hE0:=(EnvOk.ptr0 (cs:=[.int .i32 ((D.f 0).n),.string ((D.f 1).s),.int .i32 ((D.f 2).n),.pointer ((D.f 3).A),.bool ((D.f 4).b),.map D.m]) (r:=false) hE).pk (env':=[(0,.p 0 0)])
 refine qac [0] kz ?_
 refine qaj (qaJ hW hE0 (d:=2) (cs:=[.int .i64 0,.slice none 0 0,.bool false,.slice none 0 0,.slice none 0 0]) kz fun b7 a8 w9 dx dy dz b8 cd=>?_)
 refine qae (qaa ?_)
 refine qac [0,1,2,3] kz ?_
 refine qaj (qe7 (t:=34) (e:=37) (size:=5) (bytes:=88) (d:=4) (j:=5) (.agg #[.int .i64 0,.slice none 0 0,.bool false,.slice none 0 0,.slice none 0 0]) [.int .i64 0,.slice none 0 0,.bool false,.slice none 0 0,.slice none 0 0,.int .i64 0,.slice none 0 0,.bool false,.slice none 0 0,.slice none 0 0,.int .i64 0,.slice none 0 0,.bool false,.slice none 0 0,.slice none 0 0,.int .i64 0,.slice none 0 0,.bool false,.slice none 0 0,.slice none 0 0,.int .i64 0,.slice none 0 0,.bool false,.slice none 0 0,.slice none 0 0] b8 cd fun aa eb ec dA dB dC bp ce=>?_)
 refine qai [1] [2,3] [(0,.p 0 0),(2,.p 1 0),(5,.v (.agg #[.int .i64 0,.slice none 0 0,.bool false,.slice (some ⟨aa,0,none⟩) 5 5,.slice none 0 0]))] bp ce fun ee cg=>?_
 refine qaj (qaJ bp cg (d:=3) (cs:=[.int .i64 0,.slice none 0 0,.bool false,.slice none 0 0,.slice none 0 0]) kz fun aM ef eg dD dE dF cm cq=>?_)
 refine qaj (qam cm cq (oi:=3) (cs:=[.int .i64 0,.slice none 0 0,.bool false,.slice (some ⟨aa,0,none⟩) 5 5,.slice none 0 0]) kz fun eh dG cr cu=>?_)
 refine qae (qaa ?_)
 refine qaO 9 kz cr fun ei dH cw bq=>?_
 refine qaF [0,1,2,3,4,5,6,7] [(0,.p 0 0),(2,.p 1 0),(3,.p 3 0),(7,.v (.slice (some ⟨aa,0,none⟩) 5 5)),(13,.v (.agg #[.int .i64 (IntKind.i64.wrap ((D.f 0).n)),.slice none 0 0,.bool false,.slice none 0 0,.slice none 0 0]))] 2 (qab qaf) (fun _ h=>h.cells) bq cu fun ej cz=>?_
 refine qaL cz (i:=8) (t:=34) (A:=(some ⟨aa,0,none⟩)) (m:=5) (q:=0) (d:=14) kz (e:=37) (size:=5) (bytes:=88) (j:=0) kz (b:=aa) (o:=0) rfl rfl (by decide) kz kz (qab qaf) bq fun ek cA=>?_
 have cB:=cA.recast 14 (.v (.pointer (some ⟨aa,0 + 0 * 5,none⟩))) (.p 2 0) rfl rfl (Nat.le_of_ble_eq_true (n:=3) rfl)
 have cC:=cB.pk (env':=[(0,.p 0 0),(2,.p 1 0),(3,.p 3 0),(7,.v (.slice (some ⟨aa,0,none⟩) 5 5)),(13,.v (.agg #[.int .i64 (IntKind.i64.wrap ((D.f 0).n)),.slice none 0 0,.bool false,.slice none 0 0,.slice none 0 0])),(14,.p 2 0)])
 refine qaw (i:=9) kz (qam cw cC (oi:=2) (cs:=[.int .i64 (IntKind.i64.wrap ((D.f 0).n)),.slice none 0 0,.bool false,.slice none 0 0,.slice none 0 0,.int .i64 0,.slice none 0 0,.bool false,.slice none 0 0,.slice none 0 0,.int .i64 0,.slice none 0 0,.bool false,.slice none 0 0,.slice none 0 0,.int .i64 0,.slice none 0 0,.bool false,.slice none 0 0,.slice none 0 0,.int .i64 0,.slice none 0 0,.bool false,.slice none 0 0,.slice none 0 0]) kz fun em dI cD cE=>?_)
 refine ⟨fun h=>absurd rfl h,?_⟩
 refine qaE kz ?_ _
 refine qaa ?_
 refine qaO 9 kz cD fun eo dJ cG cH=>?_
 refine qaF [0,1,2,3,4,5] [(0,.p 0 0),(2,.p 1 0),(3,.p 3 0),(16,.v (.slice (some ⟨aa,0,none⟩) 5 5)),(20,.v (.string ((D.f 1).s)))] 4 (qab qaf) (fun _ h=>h.cells) cH cE fun ep cI=>?_
 refine qaw (i:=6) kz (qec (d:=21) (src:=9) (dst:=22) (e:=5) (s:=((D.f 1).s)) cG cI (by omega) fun aH aI eu ev cJ bt cK cL=>?_)
 have cM:=cK F
 have bk:=TT.ofW cJ bt
 refine ⟨fun _=>bk,?_⟩
 refine qaF [7] [(0,.p 0 0),(2,.p 1 0),(3,.p 3 0),(16,.v (.slice (some ⟨aa,0,none⟩) 5 5)),(22,.v (.agg #[.int .i64 0,.slice (some ⟨aH,0,none⟩) ((sb ((D.f 1).s)).length) aI,.bool false,.slice none 0 0,.slice none 0 0]))] 2 (qab qaf) (fun _ h=>h.cells) bk cL fun ew cN=>?_
 refine qaL cN (i:=8) (t:=34) (A:=(some ⟨aa,0,none⟩)) (m:=5) (q:=1) (d:=23) kz (e:=37) (size:=5) (bytes:=88) (j:=1) kz (b:=aa) (o:=0) rfl rfl (by decide) kz kz (qab qaf) bk fun ey cO=>?_
 have cP:=cO.recast 23 (.v (.pointer (some ⟨aa,0 + 1 * 5,none⟩))) (.p 2 5) rfl rfl (Nat.le_of_ble_eq_true (n:=3) rfl)
 have cQ:=cP.pk (env':=[(0,.p 0 0),(2,.p 1 0),(3,.p 3 0),(16,.v (.slice (some ⟨aa,0,none⟩) 5 5)),(22,.v (.agg #[.int .i64 0,.slice (some ⟨aH,0,none⟩) ((sb ((D.f 1).s)).length) aI,.bool false,.slice none 0 0,.slice none 0 0])),(23,.p 2 5)])
 refine qaw (i:=9) kz (qam bt cQ (oi:=2) (cs:=[.int .i64 (IntKind.i64.wrap ((D.f 0).n)),.slice none 0 0,.bool false,.slice none 0 0,.slice none 0 0,.int .i64 0,.slice (some ⟨aH,0,none⟩) ((sb ((D.f 1).s)).length) aI,.bool false,.slice none 0 0,.slice none 0 0,.int .i64 0,.slice none 0 0,.bool false,.slice none 0 0,.slice none 0 0,.int .i64 0,.slice none 0 0,.bool false,.slice none 0 0,.slice none 0 0,.int .i64 0,.slice none 0 0,.bool false,.slice none 0 0,.slice none 0 0]) kz fun ez bu cR cS=>?_)
 refine ⟨fun h=>absurd rfl h,?_⟩
 refine qaE kz ?_ _
 refine qaa ?_
 refine qaO 9 kz cR fun eB bw cT bx=>?_
 refine qaF [0,1,2,3,4,5,6,7] [(0,.p 0 0),(2,.p 1 0),(3,.p 3 0),(25,.v (.slice (some ⟨aa,0,none⟩) 5 5)),(31,.v (.agg #[.int .i64 (IntKind.i64.wrap ((D.f 2).n)),.slice none 0 0,.bool false,.slice none 0 0,.slice none 0 0]))] 2 (qab qaf) (fun _ h=>h.cells) bx cS fun eC cU=>?_
 refine qaL cU (i:=8) (t:=34) (A:=(some ⟨aa,0,none⟩)) (m:=5) (q:=2) (d:=32) kz (e:=37) (size:=5) (bytes:=88) (j:=2) kz (b:=aa) (o:=0) rfl rfl (by decide) kz kz (qab qaf) bx fun eD cV=>?_
 have cW:=cV.recast 32 (.v (.pointer (some ⟨aa,0 + 2 * 5,none⟩))) (.p 2 10) rfl rfl (Nat.le_of_ble_eq_true (n:=3) rfl)
 have cX:=cW.pk (env':=[(0,.p 0 0),(2,.p 1 0),(3,.p 3 0),(25,.v (.slice (some ⟨aa,0,none⟩) 5 5)),(31,.v (.agg #[.int .i64 (IntKind.i64.wrap ((D.f 2).n)),.slice none 0 0,.bool false,.slice none 0 0,.slice none 0 0])),(32,.p 2 10)])
 refine qaw (i:=9) kz (qam cT cX (oi:=2) (cs:=[.int .i64 (IntKind.i64.wrap ((D.f 0).n)),.slice none 0 0,.bool false,.slice none 0 0,.slice none 0 0,.int .i64 0,.slice (some ⟨aH,0,none⟩) ((sb ((D.f 1).s)).length) aI,.bool false,.slice none 0 0,.slice none 0 0,.int .i64 (IntKind.i64.wrap ((D.f 2).n)),.slice none 0 0,.bool false,.slice none 0 0,.slice none 0 0,.int .i64 0,.slice none 0 0,.bool false,.slice none 0 0,.slice none 0 0,.int .i64 0,.slice none 0 0,.bool false,.slice none 0 0,.slice none 0 0]) kz fun eE bz cY cZ=>?_)
 refine ⟨fun h=>absurd rfl h,?_⟩
 refine qaE kz ?_ _
 refine qaa ?_
 refine qaO 8 kz cY fun dK bA aQ c5=>?_
 refine qaF [0,1,2,3,4,5] [(0,.p 0 0),(2,.p 1 0),(3,.p 3 0),(34,.v (.slice (some ⟨aa,0,none⟩) 5 5)),(38,.v (.pointer ((D.f 3).A)))] 3 (qab qaf) (fun _ h=>h.cells) c5 cZ fun eF c6=>?_
 refine qaw (i:=6) kz (qak c6 (f:=101) (vs:=[.pointer ((D.f 3).A)]) (d:=39) kz Tryz.call101 (qkM _ (D.f 3).s _ (Imm F w dK [⟨b,o,[.int .i32 ((D.f 0).n),.string ((D.f 1).s),.int .i32 ((D.f 2).n),.pointer ((D.f 3).A),.bool ((D.f 4).b),.map D.m],false⟩,⟨b7,0,[.int .i64 0,.slice none 0 0,.bool false,.slice none 0 0,.slice none 0 0],true⟩,⟨aa,0,[.int .i64 (IntKind.i64.wrap ((D.f 0).n)),.slice none 0 0,.bool false,.slice none 0 0,.slice none 0 0,.int .i64 0,.slice (some ⟨aH,0,none⟩) ((sb ((D.f 1).s)).length) aI,.bool false,.slice none 0 0,.slice none 0 0,.int .i64 (IntKind.i64.wrap ((D.f 2).n)),.slice none 0 0,.bool false,.slice none 0 0,.slice none 0 0,.int .i64 0,.slice none 0 0,.bool false,.slice none 0 0,.slice none 0 0,.int .i64 0,.slice none 0 0,.bool false,.slice none 0 0,.slice none 0 0],true⟩,⟨aM,0,[.int .i64 0,.slice none 0 0,.bool false,.slice (some ⟨aa,0,none⟩) 5 5,.slice none 0 0],true⟩] []) (fun ad h_=>by obtain ⟨b',o',g1,g2⟩:=g4 ad h_; exact ⟨b',o',g1,g2.move aQ.step nilM aQ.imm⟩) g4l) ?_)
 rintro e_ dL ⟨dM,rfl,da,bn⟩
 have aR:=da.move (Step.refl _ Nil) nilM (aQ.laid (G:=F) bn)
 obtain ⟨ae,af,ag,ah,ai,aj,ak,al,am,ao,ap,dr,dt,aS,db,dc,dN,dO⟩:=aR.open_
 rw [aS] at aR
 have de:=db.small
 have dg:=dc.small
 rw [aS]
 refine ⟨_,rfl,fun dP bB=>?_⟩
 have aZ:=aQ.next_nil bn
 have aT:=aQ.frN bn
 have ba:=TT.ofW aT aZ
 refine ⟨fun _=>ba,?_⟩
 refine qaL bB (i:=7) (t:=34) (A:=(some ⟨aa,0,none⟩)) (m:=5) (q:=3) (d:=40) kz (e:=37) (size:=5) (bytes:=88) (j:=3) kz (b:=aa) (o:=0) rfl rfl (by decide) kz kz (qab qaf) ba fun dQ bC=>?_
 have bD:=bC.recast 40 (.v (.pointer (some ⟨aa,0 + 3 * 5,none⟩))) (.p 2 15) rfl rfl (Nat.le_of_ble_eq_true (n:=3) rfl)
 have bE:=bD.pk (env':=[(0,.p 0 0),(2,.p 1 0),(3,.p 3 0),(34,.v (.slice (some ⟨aa,0,none⟩) 5 5)),(38,.v (.pointer ((D.f 3).A))),(39,.v (.agg #[.int .i64 ae,.slice aj af.length ak,.bool ag,.slice al ah.length am,.slice ao ai.length ap])),(40,.p 2 15)])
 refine qaw (i:=8) kz (qam aZ bE (oi:=2) (cs:=[.int .i64 (IntKind.i64.wrap ((D.f 0).n)),.slice none 0 0,.bool false,.slice none 0 0,.slice none 0 0,.int .i64 0,.slice (some ⟨aH,0,none⟩) ((sb ((D.f 1).s)).length) aI,.bool false,.slice none 0 0,.slice none 0 0,.int .i64 (IntKind.i64.wrap ((D.f 2).n)),.slice none 0 0,.bool false,.slice none 0 0,.slice none 0 0,.int .i64 ae,.slice aj af.length ak,.bool ag,.slice al ah.length am,.slice ao ai.length ap,.int .i64 0,.slice none 0 0,.bool false,.slice none 0 0,.slice none 0 0]) kz fun dR aN bF bG=>?_)
 refine ⟨fun h=>absurd rfl h,?_⟩
 refine qaE kz ?_ _
 refine qaa ?_
 refine qaO 8 kz bF fun dh aO aU bH=>?_
 refine qaF [0,1,2,3,4,5] [(0,.p 0 0),(2,.p 1 0),(3,.p 3 0),(42,.v (.slice (some ⟨aa,0,none⟩) 5 5)),(46,.v (.bool ((D.f 4).b)))] 3 (qab qaf) (fun _ h=>h.cells) bH bG fun dS bI=>?_
 refine qaw (i:=6) kz (qak bI (f:=100) (vs:=[.bool ((D.f 4).b)]) (d:=47) kz Tryz.call100 (qk3 _ _ (Imm F w dh [⟨b,o,[.int .i32 ((D.f 0).n),.string ((D.f 1).s),.int .i32 ((D.f 2).n),.pointer ((D.f 3).A),.bool ((D.f 4).b),.map D.m],false⟩,⟨b7,0,[.int .i64 0,.slice none 0 0,.bool false,.slice none 0 0,.slice none 0 0],true⟩,⟨aa,0,[.int .i64 (IntKind.i64.wrap ((D.f 0).n)),.slice none 0 0,.bool false,.slice none 0 0,.slice none 0 0,.int .i64 0,.slice (some ⟨aH,0,none⟩) ((sb ((D.f 1).s)).length) aI,.bool false,.slice none 0 0,.slice none 0 0,.int .i64 (IntKind.i64.wrap ((D.f 2).n)),.slice none 0 0,.bool false,.slice none 0 0,.slice none 0 0,.int .i64 ae,.slice aj af.length ak,.bool ag,.slice al ah.length am,.slice ao ai.length ap,.int .i64 0,.slice none 0 0,.bool false,.slice none 0 0,.slice none 0 0],true⟩,⟨aM,0,[.int .i64 0,.slice none 0 0,.bool false,.slice (some ⟨aa,0,none⟩) 5 5,.slice none 0 0],true⟩] [])) ?_)
 rintro e_ dT ⟨du,rfl,bJ,aV⟩
 have aW:=bJ.move (Step.refl _ Nil) nilM (aU.laid (G:=F) aV)
 obtain ⟨ar,au,av,aw,ax,ay,az,aA,aB,aC,aD,dv,dw,aX,di,dj,dU,dV⟩:=aW.open_
 rw [aX] at aW
 have dl:=di.small
 have dp:=dj.small
 rw [aX]
 refine ⟨_,rfl,fun dW bK=>?_⟩
 have bd:=aU.next_nil aV
 have aL:=aU.frN aV
 have bf:=TT.ofW aL bd
 refine ⟨fun _=>bf,?_⟩
 refine qaL bK (i:=7) (t:=34) (A:=(some ⟨aa,0,none⟩)) (m:=5) (q:=4) (d:=48) kz (e:=37) (size:=5) (bytes:=88) (j:=4) kz (b:=aa) (o:=0) rfl rfl (by decide) kz kz (qab qaf) bf fun dX bL=>?_
 have bM:=bL.recast 48 (.v (.pointer (some ⟨aa,0 + 4 * 5,none⟩))) (.p 2 20) rfl rfl (Nat.le_of_ble_eq_true (n:=3) rfl)
 have bN:=bM.pk (env':=[(0,.p 0 0),(2,.p 1 0),(3,.p 3 0),(42,.v (.slice (some ⟨aa,0,none⟩) 5 5)),(46,.v (.bool ((D.f 4).b))),(47,.v (.agg #[.int .i64 ar,.slice ay au.length az,.bool av,.slice aA aw.length aB,.slice aC ax.length aD])),(48,.p 2 20)])
 refine qaw (i:=8) kz (qam bd bN (oi:=2) (cs:=[.int .i64 (IntKind.i64.wrap ((D.f 0).n)),.slice none 0 0,.bool false,.slice none 0 0,.slice none 0 0,.int .i64 0,.slice (some ⟨aH,0,none⟩) ((sb ((D.f 1).s)).length) aI,.bool false,.slice none 0 0,.slice none 0 0,.int .i64 (IntKind.i64.wrap ((D.f 2).n)),.slice none 0 0,.bool false,.slice none 0 0,.slice none 0 0,.int .i64 ae,.slice aj af.length ak,.bool ag,.slice al ah.length am,.slice ao ai.length ap,.int .i64 ar,.slice ay au.length az,.bool av,.slice aA aw.length aB,.slice aC ax.length aD]) kz fun dq aJ aG bO=>?_)
 refine ⟨fun h=>absurd rfl h,?_⟩
 refine qaE kz ?_ _
 refine qaa ?_
 refine qac [0,1,2,3,4] kz ?_
 refine qai [0,1,2] [3,4] [(2,.p 1 0),(3,.p 3 0),(51,.p 0 5)] aG bO fun dY bP=>?_
 refine qaj (qfi bP (v:=.func (.func 165) #[] #[.pointer (some ⟨aM,0,none⟩)]) (d:=52) kz fun dZ bQ=>?_)
 refine qaj (qak bQ (f:=103) (vs:=[.pointer (some ⟨b,o + 5,none⟩),.func (.func 165) #[] #[.pointer (some ⟨aM,0,none⟩)]]) (d:=53) kz Tryz.call103 (qf3 (F:=(Imm F w dq [⟨b,o,[.int .i32 ((D.f 0).n),.string ((D.f 1).s),.int .i32 ((D.f 2).n),.pointer ((D.f 3).A),.bool ((D.f 4).b),.map D.m],false⟩,⟨b7,0,[.int .i64 0,.slice none 0 0,.bool false,.slice none 0 0,.slice none 0 0],true⟩,⟨aa,0,[.int .i64 (IntKind.i64.wrap ((D.f 0).n)),.slice none 0 0,.bool false,.slice none 0 0,.slice none 0 0,.int .i64 0,.slice (some ⟨aH,0,none⟩) ((sb ((D.f 1).s)).length) aI,.bool false,.slice none 0 0,.slice none 0 0,.int .i64 (IntKind.i64.wrap ((D.f 2).n)),.slice none 0 0,.bool false,.slice none 0 0,.slice none 0 0,.int .i64 ae,.slice aj af.length ak,.bool ag,.slice al ah.length am,.slice ao ai.length ap,.int .i64 ar,.slice ay au.length az,.bool av,.slice aA aw.length aB,.slice aC ax.length aD],true⟩,⟨aM,0,[.int .i64 0,.slice none 0 0,.bool false,.slice (some ⟨aa,0,none⟩) 5 5,.slice none 0 0],true⟩] [])) Tryz.call165 qb6 ((hat.one 5 rfl).move aG.step nilM aG.imm) (g6.move aG.step nilM aG.imm) (Str.of aG 3 rfl) (qj3 3 rfl) g6l) ?_)
 rintro e_ d5 ⟨rfl,ab,ac,bo,bR,bS⟩
 obtain ⟨aY,aK,bT⟩:=aG.wrote 3 [⟨b,o,[.int .i32 ((D.f 0).n),.string ((D.f 1).s),.int .i32 ((D.f 2).n),.pointer ((D.f 3).A),.bool ((D.f 4).b),.map D.m],false⟩,⟨b7,0,[.int .i64 0,.slice none 0 0,.bool false,.slice none 0 0,.slice none 0 0],true⟩,⟨aa,0,[.int .i64 (IntKind.i64.wrap ((D.f 0).n)),.slice none 0 0,.bool false,.slice none 0 0,.slice none 0 0,.int .i64 0,.slice (some ⟨aH,0,none⟩) ((sb ((D.f 1).s)).length) aI,.bool false,.slice none 0 0,.slice none 0 0,.int .i64 (IntKind.i64.wrap ((D.f 2).n)),.slice none 0 0,.bool false,.slice none 0 0,.slice none 0 0,.int .i64 ae,.slice aj af.length ak,.bool ag,.slice al ah.length am,.slice ao ai.length ap,.int .i64 ar,.slice ay au.length az,.bool av,.slice aA aw.length aB,.slice aC ax.length aD],true⟩,⟨aM,0,[.int .i64 0,.slice none 0 0,.bool false,.slice (some ⟨aa,0,none⟩) 5 5,.slice ab D.u.length ac],true⟩] rfl bS bo
 have bg:=bR.move (Step.refl _ Nil) nilM (fun b_ o_ h_ hb_=>bT (G:=F) b_ o_ (.inr h_) hb_)
 refine ⟨_,rfl,fun d6 bU=>?_⟩
 have bV:=(EnvOk.places (tb':=[⟨b,o,[.int .i32 ((D.f 0).n),.string ((D.f 1).s),.int .i32 ((D.f 2).n),.pointer ((D.f 3).A),.bool ((D.f 4).b),.map D.m],false⟩,⟨b7,0,[.int .i64 0,.slice none 0 0,.bool false,.slice none 0 0,.slice none 0 0],true⟩,⟨aa,0,[.int .i64 (IntKind.i64.wrap ((D.f 0).n)),.slice none 0 0,.bool false,.slice none 0 0,.slice none 0 0,.int .i64 0,.slice (some ⟨aH,0,none⟩) ((sb ((D.f 1).s)).length) aI,.bool false,.slice none 0 0,.slice none 0 0,.int .i64 (IntKind.i64.wrap ((D.f 2).n)),.slice none 0 0,.bool false,.slice none 0 0,.slice none 0 0,.int .i64 ae,.slice aj af.length ak,.bool ag,.slice al ah.length am,.slice ao ai.length ap,.int .i64 ar,.slice ay au.length az,.bool av,.slice aA aw.length aB,.slice aC ax.length aD],true⟩,⟨aM,0,[.int .i64 0,.slice none 0 0,.bool false,.slice (some ⟨aa,0,none⟩) 5 5,.slice ab D.u.length ac],true⟩]) bU (show Pl [⟨b,o,[.int .i32 ((D.f 0).n),.string ((D.f 1).s),.int .i32 ((D.f 2).n),.pointer ((D.f 3).A),.bool ((D.f 4).b),.map D.m],false⟩,⟨b7,0,[.int .i64 0,.slice none 0 0,.bool false,.slice none 0 0,.slice none 0 0],true⟩,⟨aa,0,[.int .i64 (IntKind.i64.wrap ((D.f 0).n)),.slice none 0 0,.bool false,.slice none 0 0,.slice none 0 0,.int .i64 0,.slice (some ⟨aH,0,none⟩) ((sb ((D.f 1).s)).length) aI,.bool false,.slice none 0 0,.slice none 0 0,.int .i64 (IntKind.i64.wrap ((D.f 2).n)),.slice none 0 0,.bool false,.slice none 0 0,.slice none 0 0,.int .i64 ae,.slice aj af.length ak,.bool ag,.slice al ah.length am,.slice ao ai.length ap,.int .i64 ar,.slice ay au.length az,.bool av,.slice aA aw.length aB,.slice aC ax.length aD],true⟩,⟨aM,0,[.int .i64 0,.slice none 0 0,.bool false,.slice (some ⟨aa,0,none⟩) 5 5,.slice none 0 0],true⟩] [⟨b,o,[.int .i32 ((D.f 0).n),.string ((D.f 1).s),.int .i32 ((D.f 2).n),.pointer ((D.f 3).A),.bool ((D.f 4).b),.map D.m],false⟩,⟨b7,0,[.int .i64 0,.slice none 0 0,.bool false,.slice none 0 0,.slice none 0 0],true⟩,⟨aa,0,[.int .i64 (IntKind.i64.wrap ((D.f 0).n)),.slice none 0 0,.bool false,.slice none 0 0,.slice none 0 0,.int .i64 0,.slice (some ⟨aH,0,none⟩) ((sb ((D.f 1).s)).length) aI,.bool false,.slice none 0 0,.slice none 0 0,.int .i64 (IntKind.i64.wrap ((D.f 2).n)),.slice none 0 0,.bool false,.slice none 0 0,.slice none 0 0,.int .i64 ae,.slice aj af.length ak,.bool ag,.slice al ah.length am,.slice ao ai.length ap,.int .i64 ar,.slice ay au.length az,.bool av,.slice aA aw.length aB,.slice aC ax.length aD],true⟩,⟨aM,0,[.int .i64 0,.slice none 0 0,.bool false,.slice (some ⟨aa,0,none⟩) 5 5,.slice ab D.u.length ac],true⟩] from ⟨rfl,rfl,⟨rfl,rfl,⟨rfl,rfl,⟨rfl,rfl,trivial⟩⟩⟩⟩)).pk (env':=[(53,.v (.tuple #[])),(2,.p 1 0),(3,.p 3 0),(51,.p 0 5),(52,.v (.func (.func 165) #[] #[.pointer (some ⟨aM,0,none⟩)]))])
 refine qae (qaa ?_)
 refine qac [0,1,2] kz ?_
 refine qai [0,1] [2] [(2,.p 1 0),(3,.p 3 0),(55,.v (.slice ab D.u.length ac))] aY bV fun d7 bW=>?_
 refine qaj (qak bW (f:=105) (vs:=[.slice ab D.u.length ac]) (d:=56) kz Tryz.call105 (qiI bg g6.sorted) ?_)
 rintro e_ d8 ⟨rfl,bh⟩
 refine ⟨_,rfl,fun d9 bX=>?_⟩
 have bi:=aY.next_nil bh
 have aE:=aY.frN bh
 refine qae (qaa ?_)
 refine qac [0,1] kz ?_
 refine qai [0] [1] [(2,.p 1 0),(57,.v (.agg #[.int .i64 0,.slice none 0 0,.bool false,.slice (some ⟨aa,0,none⟩) 5 5,.slice ab D.u.length ac]))] bi bX fun ea bY=>?_
 refine qaj (qam bi bY (oi:=1) (cs:=[.int .i64 0,.slice none 0 0,.bool false,.slice (some ⟨aa,0,none⟩) 5 5,.slice ab D.u.length ac]) kz fun aP aF bj bZ=>?_)
 refine qae (qaa ?_)
 refine wp_ret ?_
 refine qaN bZ bj.cells (v:=.agg #[.int .i64 0,.slice none 0 0,.bool false,.slice (some ⟨aa,0,none⟩) 5 5,.slice ab D.u.length ac]) kz ?_
 exact qgT (u:=D.u) (l:=[.mk (IntKind.i64.wrap (D.f 0).n) [] false [] [],.mk 0 (sb (D.f 1).s) false [] [],.mk (IntKind.i64.wrap (D.f 2).n) [] false [] [],qiF (D.f 3).A (D.f 3).s,qka (D.f 4).b]) (css:=[[.int .i64 (IntKind.i64.wrap ((D.f 0).n)),.slice none 0 0,.bool false,.slice none 0 0,.slice none 0 0],[.int .i64 0,.slice (some ⟨aH,0,none⟩) ((sb ((D.f 1).s)).length) aI,.bool false,.slice none 0 0,.slice none 0 0],[.int .i64 (IntKind.i64.wrap ((D.f 2).n)),.slice none 0 0,.bool false,.slice none 0 0,.slice none 0 0],[.int .i64 ae,.slice aj af.length ak,.bool ag,.slice al ah.length am,.slice ao ai.length ap],[.int .i64 ar,.slice ay au.length az,.bool av,.slice aA aw.length aB,.slice aC ax.length aD]]) bj 2 rfl ⟨(show TreeR _ (Imm F w aP [⟨b,o,[.int .i32 ((D.f 0).n),.string ((D.f 1).s),.int .i32 ((D.f 2).n),.pointer ((D.f 3).A),.bool ((D.f 4).b),.map D.m],false⟩,⟨b7,0,[.int .i64 0,.slice none 0 0,.bool false,.slice (some ⟨aa,0,none⟩) 5 5,.slice ab D.u.length ac],true⟩,⟨aa,0,[.int .i64 (IntKind.i64.wrap ((D.f 0).n)),.slice none 0 0,.bool false,.slice none 0 0,.slice none 0 0,.int .i64 0,.slice (some ⟨aH,0,none⟩) ((sb ((D.f 1).s)).length) aI,.bool false,.slice none 0 0,.slice none 0 0,.int .i64 (IntKind.i64.wrap ((D.f 2).n)),.slice none 0 0,.bool false,.slice none 0 0,.slice none 0 0,.int .i64 ae,.slice aj af.length ak,.bool ag,.slice al ah.length am,.slice ao ai.length ap,.int .i64 ar,.slice ay au.length az,.bool av,.slice aA aw.length aB,.slice aC ax.length aD],true⟩,⟨aM,0,[.int .i64 0,.slice none 0 0,.bool false,.slice (some ⟨aa,0,none⟩) 5 5,.slice ab D.u.length ac],true⟩] []) _ _ from (TreeR.mk (n:=IntKind.i64.wrap ((D.f 0).n)) (b:=false) (s:=[]) (l:=[]) (u:=[]) (fun _=>[]) (Octs.nil _ _) (Slots.nil _ _ _ _) (fun i_ x_ h_=>by simp at h_) (TagsR.nil _ _))).move (Step.refl _ Nil) nilM qbk,(show TreeR _ (Imm F w aP [⟨b,o,[.int .i32 ((D.f 0).n),.string ((D.f 1).s),.int .i32 ((D.f 2).n),.pointer ((D.f 3).A),.bool ((D.f 4).b),.map D.m],false⟩,⟨b7,0,[.int .i64 0,.slice none 0 0,.bool false,.slice (some ⟨aa,0,none⟩) 5 5,.slice ab D.u.length ac],true⟩,⟨aa,0,[.int .i64 (IntKind.i64.wrap ((D.f 0).n)),.slice none 0 0,.bool false,.slice none 0 0,.slice none 0 0,.int .i64 0,.slice (some ⟨aH,0,none⟩) ((sb ((D.f 1).s)).length) aI,.bool false,.slice none 0 0,.slice none 0 0,.int .i64 (IntKind.i64.wrap ((D.f 2).n)),.slice none 0 0,.bool false,.slice none 0 0,.slice none 0 0,.int .i64 ae,.slice aj af.length ak,.bool ag,.slice al ah.length am,.slice ao ai.length ap,.int .i64 ar,.slice ay au.length az,.bool av,.slice aA aw.length aB,.slice aC ax.length aD],true⟩,⟨aM,0,[.int .i64 0,.slice none 0 0,.bool false,.slice (some ⟨aa,0,none⟩) 5 5,.slice ab D.u.length ac],true⟩] []) _ _ from (TreeR.mk (n:=0) (b:=false) (s:=(sb ((D.f 1).s))) (l:=[]) (u:=[]) (fun _=>[]) (cM.move (((((((((((bu.trans bw).trans bz).trans bA).trans aT).trans aN).trans aO).trans aL).trans aJ).trans aK).trans aE).trans aF).step immM (((((((((((bu.trans bw).trans bz).trans bA).trans aT).trans aN).trans aO).trans aL).trans aJ).trans aK).trans aE).trans aF).to') (Slots.nil _ _ _ _) (fun i_ x_ h_=>by simp at h_) (TagsR.nil _ _))).move (Step.refl _ Nil) nilM qbk,(show TreeR _ (Imm F w aP [⟨b,o,[.int .i32 ((D.f 0).n),.string ((D.f 1).s),.int .i32 ((D.f 2).n),.pointer ((D.f 3).A),.bool ((D.f 4).b),.map D.m],false⟩,⟨b7,0,[.int .i64 0,.slice none 0 0,.bool false,.slice (some ⟨aa,0,none⟩) 5 5,.slice ab D.u.length ac],true⟩,⟨aa,0,[.int .i64 (IntKind.i64.wrap ((D.f 0).n)),.slice none 0 0,.bool false,.slice none 0 0,.slice none 0 0,.int .i64 0,.slice (some ⟨aH,0,none⟩) ((sb ((D.f 1).s)).length) aI,.bool false,.slice none 0 0,.slice none 0 0,.int .i64 (IntKind.i64.wrap ((D.f 2).n)),.slice none 0 0,.bool false,.slice none 0 0,.slice none 0 0,.int .i64 ae,.slice aj af.length ak,.bool ag,.slice al ah.length am,.slice ao ai.length ap,.int .i64 ar,.slice ay au.length az,.bool av,.slice aA aw.length aB,.slice aC ax.length aD],true⟩,⟨aM,0,[.int .i64 0,.slice none 0 0,.bool false,.slice (some ⟨aa,0,none⟩) 5 5,.slice ab D.u.length ac],true⟩] []) _ _ from (TreeR.mk (n:=IntKind.i64.wrap ((D.f 2).n)) (b:=false) (s:=[]) (l:=[]) (u:=[]) (fun _=>[]) (Octs.nil _ _) (Slots.nil _ _ _ _) (fun i_ x_ h_=>by simp at h_) (TagsR.nil _ _))).move (Step.refl _ Nil) nilM qbk,(show TreeR _ (Imm F w aP [⟨b,o,[.int .i32 ((D.f 0).n),.string ((D.f 1).s),.int .i32 ((D.f 2).n),.pointer ((D.f 3).A),.bool ((D.f 4).b),.map D.m],false⟩,⟨b7,0,[.int .i64 0,.slice none 0 0,.bool false,.slice (some ⟨aa,0,none⟩) 5 5,.slice ab D.u.length ac],true⟩,⟨aa,0,[.int .i64 (IntKind.i64.wrap ((D.f 0).n)),.slice none 0 0,.bool false,.slice none 0 0,.slice none 0 0,.int .i64 0,.slice (some ⟨aH,0,none⟩) ((sb ((D.f 1).s)).length) aI,.bool false,.slice none 0 0,.slice none 0 0,.int .i64 (IntKind.i64.wrap ((D.f 2).n)),.slice none 0 0,.bool false,.slice none 0 0,.slice none 0 0,.int .i64 ae,.slice aj af.length ak,.bool ag,.slice al ah.length am,.slice ao ai.length ap,.int .i64 ar,.slice ay au.length az,.bool av,.slice aA aw.length aB,.slice aC ax.length aD],true⟩,⟨aM,0,[.int .i64 0,.slice none 0 0,.bool false,.slice (some ⟨aa,0,none⟩) 5 5,.slice ab D.u.length ac],true⟩] []) _ _ from (aR.move ((((((aN.trans aO).trans aL).trans aJ).trans aK).trans aE).trans aF).step immM ((((((aN.trans aO).trans aL).trans aJ).trans aK).trans aE).trans aF).to')).move (Step.refl _ Nil) nilM qbk,(show TreeR _ (Imm F w aP [⟨b,o,[.int .i32 ((D.f 0).n),.string ((D.f 1).s),.int .i32 ((D.f 2).n),.pointer ((D.f 3).A),.bool ((D.f 4).b),.map D.m],false⟩,⟨b7,0,[.int .i64 0,.slice none 0 0,.bool false,.slice (some ⟨aa,0,none⟩) 5 5,.slice ab D.u.length ac],true⟩,⟨aa,0,[.int .i64 (IntKind.i64.wrap ((D.f 0).n)),.slice none 0 0,.bool false,.slice none 0 0,.slice none 0 0,.int .i64 0,.slice (some ⟨aH,0,none⟩) ((sb ((D.f 1).s)).length) aI,.bool false,.slice none 0 0,.slice none 0 0,.int .i64 (IntKind.i64.wrap ((D.f 2).n)),.slice none 0 0,.bool false,.slice none 0 0,.slice none 0 0,.int .i64 ae,.slice aj af.length ak,.bool ag,.slice al ah.length am,.slice ao ai.length ap,.int .i64 ar,.slice ay au.length az,.bool av,.slice aA aw.length aB,.slice aC ax.length aD],true⟩,⟨aM,0,[.int .i64 0,.slice none 0 0,.bool false,.slice (some ⟨aa,0,none⟩) 5 5,.slice ab D.u.length ac],true⟩] []) _ _ from (aW.move (((aJ.trans aK).trans aE).trans aF).step immM (((aJ.trans aK).trans aE).trans aF).to')).move (Step.refl _ Nil) nilM qbk,trivial⟩ ((show TagsR _ (Imm F w aP [⟨b,o,[.int .i32 ((D.f 0).n),.string ((D.f 1).s),.int .i32 ((D.f 2).n),.pointer ((D.f 3).A),.bool ((D.f 4).b),.map D.m],false⟩,⟨b7,0,[.int .i64 0,.slice none 0 0,.bool false,.slice (some ⟨aa,0,none⟩) 5 5,.slice ab D.u.length ac],true⟩,⟨aa,0,[.int .i64 (IntKind.i64.wrap ((D.f 0).n)),.slice none 0 0,.bool false,.slice none 0 0,.slice none 0 0,.int .i64 0,.slice (some ⟨aH,0,none⟩) ((sb ((D.f 1).s)).length) aI,.bool false,.slice none 0 0,.slice none 0 0,.int .i64 (IntKind.i64.wrap ((D.f 2).n)),.slice none 0 0,.bool false,.slice none 0 0,.slice none 0 0,.int .i64 ae,.slice aj af.length ak,.bool ag,.slice al ah.length am,.slice ao ai.length ap,.int .i64 ar,.slice ay au.length az,.bool av,.slice aA aw.length aB,.slice aC ax.length aD],true⟩,⟨aM,0,[.int .i64 0,.slice none 0 0,.bool false,.slice (some ⟨aa,0,none⟩) 5 5,.slice ab D.u.length ac],true⟩] []) _ _ _ from (bg.move (aE.trans aF).step immM (aE.trans aF).to')).move (Step.refl _ Nil) nilM qbk)
set_option maxHeartbeats 4000000 in
theorem qcH (v:Int) (D:DV) (b o:Nat) (w:World) (F:Nat → Nat → Prop) (hat:AtF w F b o [.int .i16 v,.int .i32 ((D.f 0).n),.int .i16 ((D.f 1).n),.pointer ((D.f 2).A),.int .i8 ((D.f 3).n),.string ((D.f 4).s),.int .i32 ((D.f 5).n),.slice ((D.f 6).A) ((D.f 6).l) ((D.f 6).c),.int .i32 ((D.f 7).n),.map D.m]) (hok:qaT w F D):Calls Tryz.prog 55 #[.pointer (some ⟨b,o,none⟩)] w (qc1 w F (qa3 D)):=by
 refine enter (n:=134) Tryz.func55 rfl Tryz.ntmps55 kz fun a hE=>?_
 have hW:WOk w Nil w [⟨b,o,[.int .i16 v,.int .i32 ((D.f 0).n),.int .i16 ((D.f 1).n),.pointer ((D.f 2).A),.int .i8 ((D.f 3).n),.string ((D.f 4).s),.int .i32 ((D.f 5).n),.slice ((D.f 6).A) ((D.f 6).l) ((D.f 6).c),.int .i32 ((D.f 7).n),.map D.m],false⟩] []:=(WOk.start w Nil).start1 hat rfl rfl
 unfold qaT at hok
 obtain ⟨g1,g2,⟨g3,g3l⟩,g4,g5,g6,⟨g7,g7l,g7e⟩,g8,g9,g9l,g9x,_⟩:=hok
 have hE0:=(EnvOk.ptr0 (cs:=[.int .i16 v,.int .i32 ((D.f 0).n),.int .i16 ((D.f 1).n),.pointer ((D.f 2).A),.int .i8 ((D.f 3).n),.string ((D.f 4).s),.int .i32 ((D.f 5).n),.slice ((D.f 6).A) ((D.f 6).l) ((D.f 6).c),.int .i32 ((D.f 7).n),.map D.m]) (r:=false) hE).pk (env':=[(0,.p 0 0)])
 refine qac [0] kz ?_
 refine qaj (qaJ hW hE0 (d:=2) (cs:=[.int .i64 0,.slice none 0 0,.bool false,.slice none 0 0,.slice none 0 0]) kz fun aZ lO lP jB jC jD im io=>?_)
 refine qae (qaa ?_)
 refine qac [0,1,2,3] kz ?_
 refine qaj (qe7 (t:=34) (e:=37) (size:=5) (bytes:=88) (d:=5) (j:=8) (.agg #[.int .i64 0,.slice none 0 0,.bool false,.slice none 0 0,.slice none 0 0]) (.int .i64 0 :: .slice none 0 0 :: .bool false :: .slice none 0 0 :: .slice none 0 0 :: .int .i64 0 :: .slice none 0 0 :: .bool false :: .slice none 0 0 :: .slice none 0 0 :: .int .i64 0 :: .slice none 0 0 :: .bool false :: .slice none 0 0 :: .slice none 0 0 :: .int .i64 0 :: .slice none 0 0 :: .bool false :: .slice none 0 0 :: .slice none 0 0 :: .int .i64 0 :: .slice none 0 0 :: .bool false :: .slice none 0 0 :: .slice none 0 0 :: .int .i64 0 :: .slice none 0 0 :: .bool false :: .slice none 0 0 :: .slice none 0 0 :: .int .i64 0 :: .slice none 0 0 :: .bool false :: .slice none 0 0 :: .slice none 0 0 :: .int .i64 0 :: .slice none 0 0 :: .bool false :: .slice none 0 0 :: .slice none 0 0 :: []) im io fun aa lQ lR jE jF jG ee ip=>?_)
 refine qai [1] [2,3] [(0,.p 0 0),(2,.p 1 0),(6,.v (.agg #[.int .i64 0,.slice none 0 0,.bool false,.slice (some ⟨aa,0,none⟩) 8 8,.slice none 0 0]))] ee ip fun lS iq=>?_
 refine qaj (qaJ ee iq (d:=3) (cs:=[.int .i64 0,.slice none 0 0,.bool false,.slice none 0 0,.slice none 0 0]) kz fun aS lT lU jH jI jJ ir iu=>?_)
 refine qaj (qam ir iu (oi:=3) (cs:=[.int .i64 0,.slice none 0 0,.bool false,.slice (some ⟨aa,0,none⟩) 8 8,.slice none 0 0]) kz fun lV jK iv iw=>?_)
 refine qae (qaa ?_)
 refine qaO 9 kz iv fun lW jL ix ef=>?_
 refine qaF [0,1,2,3,4,5,6,7] [(0,.p 0 0),(2,.p 1 0),(3,.p 3 0),(8,.v (.slice (some ⟨aa,0,none⟩) 8 8)),(14,.v (.agg #[.int .i64 (IntKind.i64.wrap ((D.f 0).n)),.slice none 0 0,.bool false,.slice none 0 0,.slice none 0 0]))] 2 (qab qaf) (fun _ h=>h.cells) ef iw fun lX iy=>?_
 refine qaL iy (i:=8) (t:=34) (A:=(some ⟨aa,0,none⟩)) (m:=8) (q:=0) (d:=15) kz (e:=37) (size:=5) (bytes:=88) (j:=0) kz (b:=aa) (o:=0) rfl rfl (by decide) kz kz (qab qaf) ef fun lY iz=>?_
 have iA:=iz.recast 15 (.v (.pointer (some ⟨aa,0 + 0 * 5,none⟩))) (.p 2 0) rfl rfl (Nat.le_of_ble_eq_true (n:=3) rfl)
 have iB:=iA.pk (env':=[(0,.p 0 0),(2,.p 1 0),(3,.p 3 0),(8,.v (.slice (some ⟨aa,0,none⟩) 8 8)),(14,.v (.agg #[.int .i64 (IntKind.i64.wrap ((D.f 0).n)),.slice none 0 0,.bool false,.slice none 0 0,.slice none 0 0])),(15,.p 2 0)])
 refine qaw (i:=9) kz (qam ix iB (oi:=2) (cs:=(.int .i64 (IntKind.i64.wrap ((D.f 0).n)) :: .slice none 0 0 :: .bool false :: .slice none 0 0 :: .slice none 0 0 :: .int .i64 0 :: .slice none 0 0 :: .bool false :: .slice none 0 0 :: .slice none 0 0 :: .int .i64 0 :: .slice none 0 0 :: .bool false :: .slice none 0 0 :: .slice none 0 0 :: .int .i64 0 :: .slice none 0 0 :: .bool false :: .slice none 0 0 :: .slice none 0 0 :: .int .i64 0 :: .slice none 0 0 :: .bool false :: .slice none 0 0 :: .slice none 0 0 :: .int .i64 0 :: .slice none 0 0 :: .bool false :: .slice none 0 0 :: .slice none 0 0 :: .int .i64 0 :: .slice none 0 0 :: .bool false :: .slice none 0 0 :: .slice none 0 0 :: .int .i64 0 :: .slice none 0 0 :: .bool false :: .slice none 0 0 :: .slice none 0 0 :: [])) kz fun lZ jM iC iD=>?_)
 refine ⟨fun h=>absurd rfl h,?_⟩
 refine qaE kz ?_ _
 refine qaa ?_
 refine qaO 9 kz iC fun l0 jN iE eg=>?_
 refine qaF [0,1,2,3,4,5,6,7] [(0,.p 0 0),(2,.p 1 0),(3,.p 3 0),(17,.v (.slice (some ⟨aa,0,none⟩) 8 8)),(23,.v (.agg #[.int .i64 (IntKind.i64.wrap ((D.f 1).n)),.slice none 0 0,.bool false,.slice none 0 0,.slice none 0 0]))] 2 (qab qaf) (fun _ h=>h.cells) eg iD fun l3 iF=>?_
 refine qaL iF (i:=8) (t:=34) (A:=(some ⟨aa,0,none⟩)) (m:=8) (q:=1) (d:=24) kz (e:=37) (size:=5) (bytes:=88) (j:=1) kz (b:=aa) (o:=0) rfl rfl (by decide) kz kz (qab qaf) eg fun l5 iG=>?_
 have iH:=iG.recast 24 (.v (.pointer (some ⟨aa,0 + 1 * 5,none⟩))) (.p 2 5) rfl rfl (Nat.le_of_ble_eq_true (n:=3) rfl)
 have iI:=iH.pk (env':=[(0,.p 0 0),(2,.p 1 0),(3,.p 3 0),(17,.v (.slice (some ⟨aa,0,none⟩) 8 8)),(23,.v (.agg #[.int .i64 (IntKind.i64.wrap ((D.f 1).n)),.slice none 0 0,.bool false,.slice none 0 0,.slice none 0 0])),(24,.p 2 5)])
 refine qaw (i:=9) kz (qam iE iI (oi:=2) (cs:=(.int .i64 (IntKind.i64.wrap ((D.f 0).n)) :: .slice none 0 0 :: .bool false :: .slice none 0 0 :: .slice none 0 0 :: .int .i64 (IntKind.i64.wrap ((D.f 1).n)) :: .slice none 0 0 :: .bool false :: .slice none 0 0 :: .slice none 0 0 :: .int .i64 0 :: .slice none 0 0 :: .bool false :: .slice none 0 0 :: .slice none 0 0 :: .int .i64 0 :: .slice none 0 0 :: .bool false :: .slice none 0 0 :: .slice none 0 0 :: .int .i64 0 :: .slice none 0 0 :: .bool false :: .slice none 0 0 :: .slice none 0 0 :: .int .i64 0 :: .slice none 0 0 :: .bool false :: .slice none 0 0 :: .slice none 0 0 :: .int .i64 0 :: .slice none 0 0 :: .bool false :: .slice none 0 0 :: .slice none 0 0 :: .int .i64 0 :: .slice none 0 0 :: .bool false :: .slice none 0 0 :: .slice none 0 0 :: [])) kz fun l6 jO iJ iK=>?_)
 refine ⟨fun h=>absurd rfl h,?_⟩
 refine qaE kz ?_ _
 refine qaa ?_
 refine qaO 8 kz iJ fun jP jQ cM iL=>?_
 refine qaF [0,1,2,3,4,5] [(0,.p 0 0),(2,.p 1 0),(3,.p 3 0),(26,.v (.slice (some ⟨aa,0,none⟩) 8 8)),(30,.v (.pointer ((D.f 2).A)))] 3 (qab qaf) (fun _ h=>h.cells) iL iK fun l7 iM=>?_
 refine qaw (i:=6) kz (qak iM (f:=101) (vs:=[.pointer ((D.f 2).A)]) (d:=31) kz Tryz.call101 (qkM _ (D.f 2).s _ (Imm F w jP [⟨b,o,[.int .i16 v,.int .i32 ((D.f 0).n),.int .i16 ((D.f 1).n),.pointer ((D.f 2).A),.int .i8 ((D.f 3).n),.string ((D.f 4).s),.int .i32 ((D.f 5).n),.slice ((D.f 6).A) ((D.f 6).l) ((D.f 6).c),.int .i32 ((D.f 7).n),.map D.m],false⟩,⟨aZ,0,[.int .i64 0,.slice none 0 0,.bool false,.slice none 0 0,.slice none 0 0],true⟩,⟨aa,0,(.int .i64 (IntKind.i64.wrap ((D.f 0).n)) :: .slice none 0 0 :: .bool false :: .slice none 0 0 :: .slice none 0 0 :: .int .i64 (IntKind.i64.wrap ((D.f 1).n)) :: .slice none 0 0 :: .bool false :: .slice none 0 0 :: .slice none 0 0 :: .int .i64 0 :: .slice none 0 0 :: .bool false :: .slice none 0 0 :: .slice none 0 0 :: .int .i64 0 :: .slice none 0 0 :: .bool false :: .slice none 0 0 :: .slice none 0 0 :: .int .i64 0 :: .slice none 0 0 :: .bool false :: .slice none 0 0 :: .slice none 0 0 :: .int .i64 0 :: .slice none 0 0 :: .bool false :: .slice none 0 0 :: .slice none 0 0 :: .int .i64 0 :: .slice none 0 0 :: .bool false :: .slice none 0 0 :: .slice none 0 0 :: .int .i64 0 :: .slice none 0 0 :: .bool false :: .slice none 0 0 :: .slice none 0 0 :: []),true⟩,⟨aS,0,[.int .i64 0,.slice none 0 0,.bool false,.slice (some ⟨aa,0,none⟩) 8 8,.slice none 0 0],true⟩] []) (fun ad h_=>by obtain ⟨b',o',g1,g2⟩:=g3 ad h_; exact ⟨b',o',g1,g2.move cM.step nilM cM.imm⟩) g3l) ?_)
 rintro e_ l9 ⟨jR,rfl,iN,d7⟩
 have d8:=iN.move (Step.refl _ Nil) nilM (cM.laid (G:=F) d7)
 obtain ⟨ah,ai,aj,ak,al,am,ao,ap,ar,au,av,jS,jT,dq,jU,jV,ma,mc⟩:=d8.open_
 rw [dq] at d8
 have jb:=jU.small
 have jc:=jV.small
 rw [dq]
 refine ⟨_,rfl,fun md eh=>?_⟩
 have dr:=cM.next_nil d7
 have ei:=cM.frN d7
 have dt:=TT.ofW ei dr
 refine ⟨fun _=>dt,?_⟩
 refine qaL eh (i:=7) (t:=34) (A:=(some ⟨aa,0,none⟩)) (m:=8) (q:=2) (d:=32) kz (e:=37) (size:=5) (bytes:=88) (j:=2) kz (b:=aa) (o:=0) rfl rfl (by decide) kz kz (qab qaf) dt fun jW ej=>?_
 have ek:=ej.recast 32 (.v (.pointer (some ⟨aa,0 + 2 * 5,none⟩))) (.p 2 10) rfl rfl (Nat.le_of_ble_eq_true (n:=3) rfl)
 have em:=ek.pk (env':=[(0,.p 0 0),(2,.p 1 0),(3,.p 3 0),(26,.v (.slice (some ⟨aa,0,none⟩) 8 8)),(30,.v (.pointer ((D.f 2).A))),(31,.v (.agg #[.int .i64 ah,.slice am ai.length ao,.bool aj,.slice ap ak.length ar,.slice au al.length av])),(32,.p 2 10)])
 refine qaw (i:=8) kz (qam dr em (oi:=2) (cs:=(.int .i64 (IntKind.i64.wrap ((D.f 0).n)) :: .slice none 0 0 :: .bool false :: .slice none 0 0 :: .slice none 0 0 :: .int .i64 (IntKind.i64.wrap ((D.f 1).n)) :: .slice none 0 0 :: .bool false :: .slice none 0 0 :: .slice none 0 0 :: .int .i64 ah :: .slice am ai.length ao :: .bool aj :: .slice ap ak.length ar :: .slice au al.length av :: .int .i64 0 :: .slice none 0 0 :: .bool false :: .slice none 0 0 :: .slice none 0 0 :: .int .i64 0 :: .slice none 0 0 :: .bool false :: .slice none 0 0 :: .slice none 0 0 :: .int .i64 0 :: .slice none 0 0 :: .bool false :: .slice none 0 0 :: .slice none 0 0 :: .int .i64 0 :: .slice none 0 0 :: .bool false :: .slice none 0 0 :: .slice none 0 0 :: .int .i64 0 :: .slice none 0 0 :: .bool false :: .slice none 0 0 :: .slice none 0 0 :: [])) kz fun jX du eo ep=>?_)
 refine ⟨fun h=>absurd rfl h,?_⟩
 refine qaE kz ?_ _
 refine qaa ?_
 refine qaO 9 kz eo fun jY dv eu dw=>?_
 refine qaF [0,1,2,3,4,5,6,7] [(0,.p 0 0),(2,.p 1 0),(3,.p 3 0),(34,.v (.slice (some ⟨aa,0,none⟩) 8 8)),(40,.v (.agg #[.int .i64 (IntKind.i64.wrap ((D.f 3).n)),.slice none 0 0,.bool false,.slice none 0 0,.slice none 0 0]))] 2 (qab qaf) (fun _ h=>h.cells) dw ep fun jZ ev=>?_
 refine qaL ev (i:=8) (t:=34) (A:=(some ⟨aa,0,none⟩)) (m:=8) (q:=3) (d:=41) kz (e:=37) (size:=5) (bytes:=88) (j:=3) kz (b:=aa) (o:=0) rfl rfl (by decide) kz kz (qab qaf) dw fun j0 ew=>?_
 have ey:=ew.recast 41 (.v (.pointer (some ⟨aa,0 + 3 * 5,none⟩))) (.p 2 15) rfl rfl (Nat.le_of_ble_eq_true (n:=3) rfl)
 have ez:=ey.pk (env':=[(0,.p 0 0),(2,.p 1 0),(3,.p 3 0),(34,.v (.slice (some ⟨aa,0,none⟩) 8 8)),(40,.v (.agg #[.int .i64 (IntKind.i64.wrap ((D.f 3).n)),.slice none 0 0,.bool false,.slice none 0 0,.slice none 0 0])),(41,.p 2 15)])
 refine qaw (i:=9) kz (qam eu ez (oi:=2) (cs:=(.int .i64 (IntKind.i64.wrap ((D.f 0).n)) :: .slice none 0 0 :: .bool false :: .slice none 0 0 :: .slice none 0 0 :: .int .i64 (IntKind.i64.wrap ((D.f 1).n)) :: .slice none 0 0 :: .bool false :: .slice none 0 0 :: .slice none 0 0 :: .int .i64 ah :: .slice am ai.length ao :: .bool aj :: .slice ap ak.length ar :: .slice au al.length av :: .int .i64 (IntKind.i64.wrap ((D.f 3).n)) :: .slice none 0 0 :: .bool false :: .slice none 0 0 :: .slice none 0 0 :: .int .i64 0 :: .slice none 0 0 :: .bool false :: .slice none 0 0 :: .slice none 0 0 :: .int .i64 0 :: .slice none 0 0 :: .bool false :: .slice none 0 0 :: .slice none 0 0 :: .int .i64 0 :: .slice none 0 0 :: .bool false :: .slice none 0 0 :: .slice none 0 0 :: .int .i64 0 :: .slice none 0 0 :: .bool false :: .slice none 0 0 :: .slice none 0 0 :: [])) kz fun j1 dx eB eC=>?_)
 refine ⟨fun h=>absurd rfl h,?_⟩
 refine qaE kz ?_ _
 refine qaa ?_
 refine qaO 9 kz eB fun j2 dy eD eE=>?_
 refine qaF [0,1,2,3,4,5] [(0,.p 0 0),(2,.p 1 0),(3,.p 3 0),(43,.v (.slice (some ⟨aa,0,none⟩) 8 8)),(47,.v (.string ((D.f 4).s)))] 4 (qab qaf) (fun _ h=>h.cells) eE eC fun j3 eF=>?_
 refine qaw (i:=6) kz (qec (d:=48) (src:=9) (dst:=22) (e:=5) (s:=((D.f 4).s)) eD eF (by omega) fun ab ac j4 j5 cN dz eG eH=>?_)
 have eI:=eG F
 have cO:=TT.ofW cN dz
 refine ⟨fun _=>cO,?_⟩
 refine qaF [7] [(0,.p 0 0),(2,.p 1 0),(3,.p 3 0),(43,.v (.slice (some ⟨aa,0,none⟩) 8 8)),(49,.v (.agg #[.int .i64 0,.slice (some ⟨ab,0,none⟩) ((sb ((D.f 4).s)).length) ac,.bool false,.slice none 0 0,.slice none 0 0]))] 2 (qab qaf) (fun _ h=>h.cells) cO eH fun j6 eJ=>?_
 refine qaL eJ (i:=8) (t:=34) (A:=(some ⟨aa,0,none⟩)) (m:=8) (q:=4) (d:=50) kz (e:=37) (size:=5) (bytes:=88) (j:=4) kz (b:=aa) (o:=0) rfl rfl (by decide) kz kz (qab qaf) cO fun j7 eK=>?_
 have eL:=eK.recast 50 (.v (.pointer (some ⟨aa,0 + 4 * 5,none⟩))) (.p 2 20) rfl rfl (Nat.le_of_ble_eq_true (n:=3) rfl)
 have eM:=eL.pk (env':=[(0,.p 0 0),(2,.p 1 0),(3,.p 3 0),(43,.v (.slice (some ⟨aa,0,none⟩) 8 8)),(49,.v (.agg #[.int .i64 0,.slice (some ⟨ab,0,none⟩) ((sb ((D.f 4).s)).length) ac,.bool false,.slice none 0 0,.slice none 0 0])),(50,.p 2 20)])
 refine qaw (i:=9) kz (qam dz eM (oi:=2) (cs:=(.int .i64 (IntKind.i64.wrap ((D.f 0).n)) :: .slice none 0 0 :: .bool false :: .slice none 0 0 :: .slice none 0 0 :: .int .i64 (IntKind.i64.wrap ((D.f 1).n)) :: .slice none 0 0 :: .bool false :: .slice none 0 0 :: .slice none 0 0 :: .int .i64 ah :: .slice am ai.length ao :: .bool aj :: .slice ap ak.length ar :: .slice au al.length av :: .int .i64 (IntKind.i64.wrap ((D.f 3).n)) :: .slice none 0 0 :: .bool false :: .slice none 0 0 :: .slice none 0 0 :: .int .i64 0 :: .slice (some ⟨ab,0,none⟩) ((sb ((D.f 4).s)).length) ac :: .bool false :: .slice none 0 0 :: .slice none 0 0 :: .int .i64 0 :: .slice none 0 0 :: .bool false :: .slice none 0 0 :: .slice none 0 0 :: .int .i64 0 :: .slice none 0 0 :: .bool false :: .slice none 0 0 :: .slice none 0 0 :: .int .i64 0 :: .slice none 0 0 :: .bool false :: .slice none 0 0 :: .slice none 0 0 :: [])) kz fun j8 bU eN eO=>?_)
 refine ⟨fun h=>absurd rfl h,?_⟩
 refine qaE kz ?_ _
 refine qaa ?_
 refine qaO 9 kz eN fun j9 bV eP dA=>?_
 refine qaF [0,1,2,3,4,5,6,7] [(0,.p 0 0),(2,.p 1 0),(3,.p 3 0),(52,.v (.slice (some ⟨aa,0,none⟩) 8 8)),(58,.v (.agg #[.int .i64 (IntKind.i64.wrap ((D.f 5).n)),.slice none 0 0,.bool false,.slice none 0 0,.slice none 0 0]))] 2 (qab qaf) (fun _ h=>h.cells) dA eO fun ka eQ=>?_
 refine qaL eQ (i:=8) (t:=34) (A:=(some ⟨aa,0,none⟩)) (m:=8) (q:=5) (d:=59) kz (e:=37) (size:=5) (bytes:=88) (j:=5) kz (b:=aa) (o:=0) rfl rfl (by decide) kz kz (qab qaf) dA fun kd eR=>?_
 have eS:=eR.recast 59 (.v (.pointer (some ⟨aa,0 + 5 * 5,none⟩))) (.p 2 25) rfl rfl (Nat.le_of_ble_eq_true (n:=3) rfl)
 have eU:=eS.pk (env':=[(0,.p 0 0),(2,.p 1 0),(3,.p 3 0),(52,.v (.slice (some ⟨aa,0,none⟩) 8 8)),(58,.v (.agg #[.int .i64 (IntKind.i64.wrap ((D.f 5).n)),.slice none 0 0,.bool false,.slice none 0 0,.slice none 0 0])),(59,.p 2 25)])
 refine qaw (i:=9) kz (qam eP eU (oi:=2) (cs:=(.int .i64 (IntKind.i64.wrap ((D.f 0).n)) :: .slice none 0 0 :: .bool false :: .slice none 0 0 :: .slice none 0 0 :: .int .i64 (IntKind.i64.wrap ((D.f 1).n)) :: .slice none 0 0 :: .bool false :: .slice none 0 0 :: .slice none 0 0 :: .int .i64 ah :: .slice am ai.length ao :: .bool aj :: .slice ap ak.length ar :: .slice au al.length av :: .int .i64 (IntKind.i64.wrap ((D.f 3).n)) :: .slice none 0 0 :: .bool false :: .slice none 0 0 :: .slice none 0 0 :: .int .i64 0 :: .slice (some ⟨ab,0,none⟩) ((sb ((D.f 4).s)).length) ac :: .bool false :: .slice none 0 0 :: .slice none 0 0 :: .int .i64 (IntKind.i64.wrap ((D.f 5).n)) :: .slice none 0 0 :: .bool false :: .slice none 0 0 :: .slice none 0 0 :: .int .i64 0 :: .slice none 0 0 :: .bool false :: .slice none 0 0 :: .slice none 0 0 :: .int .i64 0 :: .slice none 0 0 :: .bool false :: .slice none 0 0 :: .slice none 0 0 :: [])) kz fun ke bW eV eW=>?_)
 refine ⟨fun h=>absurd rfl h,?_⟩
 refine qaE kz ?_ _
 refine qaa ?_
 refine qaO 9 kz eV fun kf bX eX cP=>?_
 refine qaF [0,1,2,3,4,5,6] [(0,.p 0 0),(2,.p 1 0),(3,.p 3 0),(61,.v (.slice (some ⟨aa,0,none⟩) 8 8)),(66,.v (.bool (((D.f 6).A).isNone)))] 3 (qab qaf) (fun _ h=>h.cells) cP eW fun kg eY=>?_
 refine qaw (i:=7) kz (qas eY (t:=34) (A:=(some ⟨aa,0,none⟩)) (m:=8) (q:=6) (d:=67) kz (e:=37) (size:=5) (bytes:=88) (j:=6) kz (b:=aa) (o:=0) rfl rfl (by decide) fun kh eZ=>?_)
 have e9:=eZ.recast 67 (.v (.pointer (some ⟨aa,0 + 6 * 5,none⟩))) (.p 2 30) rfl rfl (Nat.le_of_ble_eq_true (n:=3) rfl)
 have fa:=e9.pk (env':=[(0,.p 0 0),(2,.p 1 0),(3,.p 3 0),(61,.v (.slice (some ⟨aa,0,none⟩) 8 8)),(66,.v (.bool (((D.f 6).A).isNone))),(67,.p 2 30)])
 refine ⟨fun _=>cP,?_⟩
 refine qaF [8] [(0,.p 0 0),(2,.p 1 0),(3,.p 3 0),(66,.v (.bool (((D.f 6).A).isNone))),(68,.p 2 32)] 1 (qab qaf) (fun _ h=>h.cells) cP fa fun ki fb=>?_
 refine qaw (i:=9) kz (qam eX fb (oi:=2) (cs:=(.int .i64 (IntKind.i64.wrap ((D.f 0).n)) :: .slice none 0 0 :: .bool false :: .slice none 0 0 :: .slice none 0 0 :: .int .i64 (IntKind.i64.wrap ((D.f 1).n)) :: .slice none 0 0 :: .bool false :: .slice none 0 0 :: .slice none 0 0 :: .int .i64 ah :: .slice am ai.length ao :: .bool aj :: .slice ap ak.length ar :: .slice au al.length av :: .int .i64 (IntKind.i64.wrap ((D.f 3).n)) :: .slice none 0 0 :: .bool false :: .slice none 0 0 :: .slice none 0 0 :: .int .i64 0 :: .slice (some ⟨ab,0,none⟩) ((sb ((D.f 4).s)).length) ac :: .bool false :: .slice none 0 0 :: .slice none 0 0 :: .int .i64 (IntKind.i64.wrap ((D.f 5).n)) :: .slice none 0 0 :: .bool false :: .slice none 0 0 :: .slice none 0 0 :: .int .i64 0 :: .slice none 0 0 :: .bool (((D.f 6).A).isNone) :: .slice none 0 0 :: .slice none 0 0 :: .int .i64 0 :: .slice none 0 0 :: .bool false :: .slice none 0 0 :: .slice none 0 0 :: [])) kz fun kj bY cQ fe=>?_)
 refine ⟨fun h=>absurd rfl h,?_⟩
 refine qaE kz ?_ _
 refine qaa ?_
 refine wp_seq ?_
 refine qap [(0,.p 0 0),(2,.p 1 0),(3,.p 3 0),(73,.v (.int .i64 (((D.f 6).l:Nat):Int))),(74,.v (.int .i64 0))] cQ fe fun km ff=>?_
 refine wp_block ?_
 have dB:=cQ.addNil 37 5
 have bZ:=cQ.frNil 37 5
 refine wp_loop_ghost (fun n_ a_ w_=>∃ (k6_:Nat) (A6_:Option Addr) (c6_:Nat) (xs6_:List Value) (css6_:List (List Value)),n_ = (D.f 6).l - k6_ ∧ k6_ ≤ (D.f 6).l ∧ (Trees w_ (Imm F w w_ [⟨b,o,[.int .i16 v,.int .i32 ((D.f 0).n),.int .i16 ((D.f 1).n),.pointer ((D.f 2).A),.int .i8 ((D.f 3).n),.string ((D.f 4).s),.int .i32 ((D.f 5).n),.slice ((D.f 6).A) ((D.f 6).l) ((D.f 6).c),.int .i32 ((D.f 7).n),.map D.m],false⟩,⟨aZ,0,[.int .i64 0,.slice none 0 0,.bool false,.slice none 0 0,.slice none 0 0],true⟩,⟨aa,0,(.int .i64 (IntKind.i64.wrap ((D.f 0).n)) :: .slice none 0 0 :: .bool false :: .slice none 0 0 :: .slice none 0 0 :: .int .i64 (IntKind.i64.wrap ((D.f 1).n)) :: .slice none 0 0 :: .bool false :: .slice none 0 0 :: .slice none 0 0 :: .int .i64 ah :: .slice am ai.length ao :: .bool aj :: .slice ap ak.length ar :: .slice au al.length av :: .int .i64 (IntKind.i64.wrap ((D.f 3).n)) :: .slice none 0 0 :: .bool false :: .slice none 0 0 :: .slice none 0 0 :: .int .i64 0 :: .slice (some ⟨ab,0,none⟩) ((sb ((D.f 4).s)).length) ac :: .bool false :: .slice none 0 0 :: .slice none 0 0 :: .int .i64 (IntKind.i64.wrap ((D.f 5).n)) :: .slice none 0 0 :: .bool false :: .slice none 0 0 :: .slice none 0 0 :: .int .i64 0 :: .slice none 0 0 :: .bool (((D.f 6).A).isNone) :: .slice A6_ k6_ c6_ :: .slice none 0 0 :: .int .i64 0 :: .slice none 0 0 :: .bool false :: .slice none 0 0 :: .slice none 0 0 :: []),true⟩,⟨aS,0,[.int .i64 0,.slice none 0 0,.bool false,.slice (some ⟨aa,0,none⟩) 8 8,.slice none 0 0],true⟩] [⟨A6_,c6_,37,5,k6_,xs6_⟩]) xs6_ (((List.range (D.f 6).l).map (fun i=>qaS ((D.f 6).f i))).take k6_) css6_) ∧ LInv dB 134 [⟨b,o,[.int .i16 v,.int .i32 ((D.f 0).n),.int .i16 ((D.f 1).n),.pointer ((D.f 2).A),.int .i8 ((D.f 3).n),.string ((D.f 4).s),.int .i32 ((D.f 5).n),.slice ((D.f 6).A) ((D.f 6).l) ((D.f 6).c),.int .i32 ((D.f 7).n),.map D.m],false⟩,⟨aZ,0,[.int .i64 0,.slice none 0 0,.bool false,.slice none 0 0,.slice none 0 0],true⟩,⟨aa,0,(.int .i64 (IntKind.i64.wrap ((D.f 0).n)) :: .slice none 0 0 :: .bool false :: .slice none 0 0 :: .slice none 0 0 :: .int .i64 (IntKind.i64.wrap ((D.f 1).n)) :: .slice none 0 0 :: .bool false :: .slice none 0 0 :: .slice none 0 0 :: .int .i64 ah :: .slice am ai.length ao :: .bool aj :: .slice ap ak.length ar :: .slice au al.length av :: .int .i64 (IntKind.i64.wrap ((D.f 3).n)) :: .slice none 0 0 :: .bool false :: .slice none 0 0 :: .slice none 0 0 :: .int .i64 0 :: .slice (some ⟨ab,0,none⟩) ((sb ((D.f 4).s)).length) ac :: .bool false :: .slice none 0 0 :: .slice none 0 0 :: .int .i64 (IntKind.i64.wrap ((D.f 5).n)) :: .slice none 0 0 :: .bool false :: .slice none 0 0 :: .slice none 0 0 :: .int .i64 0 :: .slice none 0 0 :: .bool (((D.f 6).A).isNone) :: .slice A6_ k6_ c6_ :: .slice none 0 0 :: .int .i64 0 :: .slice none 0 0 :: .bool false :: .slice none 0 0 :: .slice none 0 0 :: []),true⟩,⟨aS,0,[.int .i64 0,.slice none 0 0,.bool false,.slice (some ⟨aa,0,none⟩) 8 8,.slice none 0 0],true⟩] [⟨A6_,c6_,37,5,k6_,xs6_⟩] [(0,.p 0 0),(2,.p 1 0),(3,.p 3 0),(73,.v (.int .i64 (((D.f 6).l:Nat):Int))),(74,.v (.int .i64 ((k6_:Nat):Int)))] a_ w_) ((D.f 6).l) ⟨0,none,0,[],[],by omega,by omega,Trees.nil _ _,ff.pk,dB,Fr.refl _ _ _⟩ ?_
 rintro ko kp kq ⟨k6_,A6_,c6_,xs6_,css6_,jd,je,hT6_,fg,b8,aH⟩
 refine qap [(0,.p 0 0),(2,.p 1 0),(3,.p 3 0),(73,.v (.int .i64 (((D.f 6).l:Nat):Int))),(74,.v (.int .i64 ((k6_:Nat):Int))),(75,.v (.bool (decide (((k6_:Nat):Int) < (((D.f 6).l:Nat):Int)))))] b8 fg fun ku cR=>?_
 refine wp_seq ?_
 refine qaz cR (b:=decide (((k6_:Nat):Int) < (((D.f 6).l:Nat):Int))) kz (fun cS=>?_) (fun cS=>?_)
 ·
  have jf:=of_decide_eq_true cS
  refine wp_skip ?_
  refine qaa ?_
  refine wp_seq ?_
  refine wp_block ?_
  refine qap [(0,.p 0 0),(2,.p 1 0),(3,.p 3 0),(4,.v (.int .i64 ((k6_:Nat):Int))),(73,.v (.int .i64 (((D.f 6).l:Nat):Int))),(74,.v (.int .i64 ((k6_:Nat):Int)))] b8 cR fun kv fh=>?_
  refine qaO 4 kz b8 fun kw aw fi jg=>?_
  refine qaw (i:=0) kz (qaJ fi fh (d:=77) (cs:=[.bool false]) kz fun kx ky kA jh ji ae cT dC=>?_)
  have fj:=TT.ofW ae cT
  refine ⟨fun _=>fj,?_⟩
  refine qgU (i:=1) (j:=2) kz ?_ ?_
  ·
   refine (qam cT dC (oi:=4) (cs:=[.bool true]) kz fun kB aT dD fk=>?_)
   have fl:=TT.ofW (ae.trans aT) dD
   refine ⟨fun _=>fl,?_⟩
   refine qaw (i:=2) kz (qam dD fk (oi:=4) (cs:=[.bool false]) kz fun kC bF cd fm=>?_)
   have fo:=TT.ofW ((ae.trans aT).trans bF) cd
   refine ⟨fun _=>fo,?_⟩
   refine qaw (i:=3) kz (qbH [0,2,3,4,73,74,78] cd.cells fm (env':=[(0,.p 0 0),(2,.p 1 0),(3,.p 3 0),(4,.v (.int .i64 ((k6_:Nat):Int))),(73,.v (.int .i64 (((D.f 6).l:Nat):Int))),(74,.v (.int .i64 ((k6_:Nat):Int))),(78,.v (.bool false))]) kz fun kD dE=>?_)
   have fq:=TT.ofW ((ae.trans aT).trans bF) cd
   refine ⟨fun _=>fq,?_⟩
   refine qaE kz ?_ _
   refine qaa ?_
   refine qar dE (b:=false) kz rfl ?_
   refine qcU 18 kz cd fun kE cU aI ce=>?_
   refine qaF [0,1,2,3,7,8,9,10,11] [(0,.p 0 0),(2,.p 1 0),(3,.p 3 0),(73,.v (.int .i64 (((D.f 6).l:Nat):Int))),(74,.v (.int .i64 ((k6_:Nat):Int))),(98,.v (.slice (some ⟨aa,0,none⟩) 8 8)),(100,.v (.slice (some ⟨aa,0,none⟩) 8 8)),(107,.v (.slice ((D.f 6).A) ((D.f 6).l) ((D.f 6).c))),(108,.v (.int .i64 ((k6_:Nat):Int)))] 10 (qad (qab (qab (qad (qab qaf))))) (fun _ h=>h.cells) ce dE fun kF fr=>?_
   refine qaL fr (i:=4) (t:=34) (A:=(some ⟨aa,0,none⟩)) (m:=8) (q:=6) (d:=101) kz (e:=37) (size:=5) (bytes:=88) (j:=6) kz (b:=aa) (o:=0) rfl rfl (by decide) kz kz (qad (qab (qab (qad (qab qaf))))) ce fun kG ft=>?_
   have fu:=ft.recast 101 (.v (.pointer (some ⟨aa,0 + 6 * 5,none⟩))) (.p 2 30) rfl rfl (Nat.le_of_ble_eq_true (n:=3) rfl)
   have fv:=fu.pk (env':=[(0,.p 0 0),(2,.p 1 0),(3,.p 3 0),(73,.v (.int .i64 (((D.f 6).l:Nat):Int))),(74,.v (.int .i64 ((k6_:Nat):Int))),(98,.v (.slice (some ⟨aa,0,none⟩) 8 8)),(100,.v (.slice (some ⟨aa,0,none⟩) 8 8)),(107,.v (.slice ((D.f 6).A) ((D.f 6).l) ((D.f 6).c))),(108,.v (.int .i64 ((k6_:Nat):Int))),(101,.p 2 30)])
   refine qaF [5,6] [(0,.p 0 0),(2,.p 1 0),(3,.p 3 0),(73,.v (.int .i64 (((D.f 6).l:Nat):Int))),(74,.v (.int .i64 ((k6_:Nat):Int))),(98,.v (.slice (some ⟨aa,0,none⟩) 8 8)),(103,.v (.slice A6_ k6_ c6_)),(107,.v (.slice ((D.f 6).A) ((D.f 6).l) ((D.f 6).c))),(108,.v (.int .i64 ((k6_:Nat):Int)))] 7 (qad (qab (qab (qad (qab qaf))))) (fun _ h=>h.cells) ce fv fun kH fw=>?_
   obtain ⟨fx,fy,fz,jj,d9⟩:=Slots.get g7 (i:=k6_) (by omega)
   refine qaL fw (i:=12) (t:=114) (A:=(D.f 6).A) (m:=((D.f 6).l)) (q:=((k6_:Nat):Int)) (d:=109) kz (e:=120) (size:=6) (bytes:=56) kz fz rfl (by omega) kz kz (qad (qab (qab (qad (qab qaf))))) ce fun kI fA=>?_
   refine qaw (i:=13) kz (qak fA (f:=110) (vs:=[.pointer (some ⟨fx,fy + k6_ * 6,none⟩)]) (d:=110) kz Tryz.call110 (qbc 0 ((D.f 6).f k6_) _ _ _ _ (d9.move aI.step nilM aI.imm) (qaR _ aI.step nilM aI.imm (g7e k6_ (by omega)))) ?_)
   rintro e_ kJ ⟨jk,rfl,fB,cV⟩
   have cW:=fB.move (Step.refl _ Nil) nilM (aI.laid (G:=F) cV)
   obtain ⟨cw,cz,cA,cB,cC,cD,cE,cG,cH,cI,cJ,jl,jm,cX,iO,iP,kK,kL⟩:=cW.open_
   rw [cX] at cW
   have iQ:=iO.small
   have iR:=iP.small
   rw [cX]
   refine ⟨_,rfl,fun kM fC=>?_⟩
   have dF:=aI.next_nil cV
   have aJ:=aI.frN cV
   have fD:=TT.ofW aJ dF
   refine ⟨fun _=>fD,?_⟩
   refine qaw (i:=14) kz (qbZ dF fC (e:=37) (size:=5) (len:=1) (cs:=[.int .i64 cw,.slice cD cz.length cE,.bool cA,.slice cG cB.length cH,.slice cI cC.length cJ]) (d:=111) kz kz fun fE kN kO jn jo ay cg fF=>?_)
   have fG:=TT.ofW (aJ.trans ay) cg
   refine ⟨fun _=>fG,?_⟩
   refine qaw (i:=15) kz (qaQ cg fF (k:=0) (d:=112) (t:=34) (e:=37) (size:=5) (bytes:=88) (A:=A6_) (As:=(some ⟨fE,0,none⟩)) (m0:=k6_) (c:=c6_) (m:=1) (cs:=1) (xs:=xs6_) (news:=[.int .i64 cw,.slice cD cz.length cE,.bool cA,.slice cG cB.length cH,.slice cI cC.length cJ]) kz kz rfl (qbz (cg.own 1 _ rfl) (qbF kz)) (qbJ (cg.own 1 _ rfl)) (by omega) fun cK cL kP kQ aK cY fH=>?_)
   have fI:=TT.ofW ((aJ.trans ay).trans aK) cY
   refine ⟨fun _=>fI,?_⟩
   refine qaw (i:=16) kz (qas fH (t:=34) (A:=(some ⟨aa,0,none⟩)) (m:=8) (q:=6) (d:=113) kz (e:=37) (size:=5) (bytes:=88) (j:=6) kz (b:=aa) (o:=0) rfl rfl (by decide) fun kR fJ=>?_)
   have fK:=fJ.recast 113 (.v (.pointer (some ⟨aa,0 + 6 * 5,none⟩))) (.p 2 30) rfl rfl (Nat.le_of_ble_eq_true (n:=3) rfl)
   have fL:=fK.pk (env':=[(0,.p 0 0),(2,.p 1 0),(3,.p 3 0),(73,.v (.int .i64 (((D.f 6).l:Nat):Int))),(74,.v (.int .i64 ((k6_:Nat):Int))),(98,.v (.slice (some ⟨aa,0,none⟩) 8 8)),(103,.v (.slice A6_ k6_ c6_)),(107,.v (.slice ((D.f 6).A) ((D.f 6).l) ((D.f 6).c))),(108,.v (.int .i64 ((k6_:Nat):Int))),(109,.v (.pointer (some ⟨fx,fy + k6_ * 6,none⟩))),(110,.v (.agg #[.int .i64 cw,.slice cD cz.length cE,.bool cA,.slice cG cB.length cH,.slice cI cC.length cJ])),(111,.v (.slice (some ⟨fE,0,none⟩) 1 1)),(112,.v (.slice cK (k6_ + 1) cL)),(113,.p 2 30)])
   have dG:=TT.ofW ((aJ.trans ay).trans aK) cY
   refine ⟨fun _=>dG,?_⟩
   refine qaF [17] [(0,.p 0 0),(2,.p 1 0),(3,.p 3 0),(73,.v (.int .i64 (((D.f 6).l:Nat):Int))),(74,.v (.int .i64 ((k6_:Nat):Int))),(112,.v (.slice cK (k6_ + 1) cL)),(114,.p 2 33)] 1 (qad (qab (qab (qad (qab qaf))))) (fun _ h=>h.cells) dG fL fun kS fM=>?_
   refine qaw (i:=18) kz (qam cY fM (oi:=2) (cs:=(.int .i64 (IntKind.i64.wrap ((D.f 0).n)) :: .slice none 0 0 :: .bool false :: .slice none 0 0 :: .slice none 0 0 :: .int .i64 (IntKind.i64.wrap ((D.f 1).n)) :: .slice none 0 0 :: .bool false :: .slice none 0 0 :: .slice none 0 0 :: .int .i64 ah :: .slice am ai.length ao :: .bool aj :: .slice ap ak.length ar :: .slice au al.length av :: .int .i64 (IntKind.i64.wrap ((D.f 3).n)) :: .slice none 0 0 :: .bool false :: .slice none 0 0 :: .slice none 0 0 :: .int .i64 0 :: .slice (some ⟨ab,0,none⟩) ((sb ((D.f 4).s)).length) ac :: .bool false :: .slice none 0 0 :: .slice none 0 0 :: .int .i64 (IntKind.i64.wrap ((D.f 5).n)) :: .slice none 0 0 :: .bool false :: .slice none 0 0 :: .slice none 0 0 :: .int .i64 0 :: .slice none 0 0 :: .bool (((D.f 6).A).isNone) :: .slice cK (k6_ + 1) cL :: .slice none 0 0 :: .int .i64 0 :: .slice none 0 0 :: .bool false :: .slice none 0 0 :: .slice none 0 0 :: [])) kz fun kT bG dH fN=>?_)
   refine ⟨fun h=>absurd rfl h,?_⟩
   refine qaE kz ?_ _
   refine qav ?_
   refine qaa ?_
   refine qaq [0,1] kz ?_
   refine qai [0,1] [] [(0,.p 0 0),(2,.p 1 0),(3,.p 3 0),(73,.v (.int .i64 (((D.f 6).l:Nat):Int))),(74,.v (.int .i64 (IntKind.i64.wrap (((k6_:Nat):Int) + 1))))] dH fN fun kU fO=>?_
   refine qae (qaa ?_)
   obtain ⟨dI,fP,bH⟩:=dH.cutB fO 4 [⟨b,o,[.int .i16 v,.int .i32 ((D.f 0).n),.int .i16 ((D.f 1).n),.pointer ((D.f 2).A),.int .i8 ((D.f 3).n),.string ((D.f 4).s),.int .i32 ((D.f 5).n),.slice ((D.f 6).A) ((D.f 6).l) ((D.f 6).c),.int .i32 ((D.f 7).n),.map D.m],false⟩,⟨aZ,0,[.int .i64 0,.slice none 0 0,.bool false,.slice none 0 0,.slice none 0 0],true⟩,⟨aa,0,(.int .i64 (IntKind.i64.wrap ((D.f 0).n)) :: .slice none 0 0 :: .bool false :: .slice none 0 0 :: .slice none 0 0 :: .int .i64 (IntKind.i64.wrap ((D.f 1).n)) :: .slice none 0 0 :: .bool false :: .slice none 0 0 :: .slice none 0 0 :: .int .i64 ah :: .slice am ai.length ao :: .bool aj :: .slice ap ak.length ar :: .slice au al.length av :: .int .i64 (IntKind.i64.wrap ((D.f 3).n)) :: .slice none 0 0 :: .bool false :: .slice none 0 0 :: .slice none 0 0 :: .int .i64 0 :: .slice (some ⟨ab,0,none⟩) ((sb ((D.f 4).s)).length) ac :: .bool false :: .slice none 0 0 :: .slice none 0 0 :: .int .i64 (IntKind.i64.wrap ((D.f 5).n)) :: .slice none 0 0 :: .bool false :: .slice none 0 0 :: .slice none 0 0 :: .int .i64 0 :: .slice none 0 0 :: .bool (((D.f 6).A).isNone) :: .slice cK (k6_ + 1) cL :: .slice none 0 0 :: .int .i64 0 :: .slice none 0 0 :: .bool false :: .slice none 0 0 :: .slice none 0 0 :: []),true⟩,⟨aS,0,[.int .i64 0,.slice none 0 0,.bool false,.slice (some ⟨aa,0,none⟩) 8 8,.slice none 0 0],true⟩] [(0,.p 0 0),(2,.p 1 0),(3,.p 3 0),(73,.v (.int .i64 (((D.f 6).l:Nat):Int))),(74,.v (.int .i64 (IntKind.i64.wrap (((k6_:Nat):Int) + 1))))]
   obtain ⟨fQ,bI⟩:=fP.cutR 1 [⟨cK,cL,37,5,k6_ + 1,xs6_ ++ [.int .i64 cw,.slice cD cz.length cE,.bool cA,.slice cG cB.length cH,.slice cI cC.length cJ]⟩]
   have fR:IntKind.i64.wrap (((k6_:Nat):Int) + 1) = ((k6_ + 1:Nat):Int):=qaW (by omega)
   rw [fR] at dI
   exact ⟨(D.f 6).l - (k6_ + 1),by omega,k6_ + 1,cK,cL,xs6_ ++ [Value.int .i64 cw,.slice cD cz.length cE,.bool cA,.slice cG cB.length cH,.slice cI cC.length cJ],(css6_ ++ [[Value.int .i64 cw,.slice cD cz.length cE,.bool cA,.slice cG cB.length cH,.slice cI cC.length cJ]]),rfl,by omega,by rw [qed (by omega)]; exact (hT6_.move ((((((((((aw.trans ae).trans aT).trans bF).trans cU).trans aJ).trans ay).trans aK).trans bG).trans bH).trans bI).step immM ((((((((((aw.trans ae).trans aT).trans bF).trans cU).trans aJ).trans ay).trans aK).trans bG).trans bH).trans bI).to').snoc (x:=(fun i=>qaS ((D.f 6).f i)) k6_) (cW.move ((((ay.trans aK).trans bG).trans bH).trans bI).step immM ((((ay.trans aK).trans bG).trans bH).trans bI).to'),dI.pk,fQ,(((((((((((aH.trans aw).trans ae).trans aT).trans bF).trans cU).trans aJ).trans ay).trans aK).trans bG).trans bH).trans bI)⟩
  refine (qam cT dC (oi:=4) (cs:=[.bool false]) kz fun kV ax dJ fS=>?_)
  have fT:=TT.ofW (ae.trans ax) dJ
  refine ⟨fun _=>fT,?_⟩
  refine qaw (i:=1) kz (qam dJ fS (oi:=4) (cs:=[.bool true]) kz fun kW az cm fU=>?_)
  have fV:=TT.ofW ((ae.trans ax).trans az) cm
  refine ⟨fun _=>fV,?_⟩
  refine qaw (i:=3) kz (qbH [0,2,3,4,73,74,78] cm.cells fU (env':=[(0,.p 0 0),(2,.p 1 0),(3,.p 3 0),(4,.v (.int .i64 ((k6_:Nat):Int))),(73,.v (.int .i64 (((D.f 6).l:Nat):Int))),(74,.v (.int .i64 ((k6_:Nat):Int))),(78,.v (.bool true))]) kz fun kX dK=>?_)
  have fW:=TT.ofW ((ae.trans ax).trans az) cm
  refine ⟨fun _=>fW,?_⟩
  refine qaE kz ?_ _
  refine qaa ?_
  refine qbf dK (b:=true) kz rfl ?_
  refine qaO 17 kz cm fun kY aU aA cq=>?_
  refine qaF [0,1,5,6,7,8,9] [(0,.p 0 0),(2,.p 1 0),(3,.p 3 0),(73,.v (.int .i64 (((D.f 6).l:Nat):Int))),(74,.v (.int .i64 ((k6_:Nat):Int))),(80,.v (.slice (some ⟨aa,0,none⟩) 8 8)),(87,.v (.slice ((D.f 6).A) ((D.f 6).l) ((D.f 6).c))),(88,.v (.int .i64 ((k6_:Nat):Int)))] 11 (qab (qad (qab (qab (qad (qab qaf)))))) (fun _ h=>h.cells) cq dK fun kZ fX=>?_
  refine qaL fX (i:=2) (t:=34) (A:=(some ⟨aa,0,none⟩)) (m:=8) (q:=6) (d:=81) kz (e:=37) (size:=5) (bytes:=88) (j:=6) kz (b:=aa) (o:=0) rfl rfl (by decide) kz kz (qab (qad (qab (qab (qad (qab qaf)))))) cq fun k5 fY=>?_
  have fZ:=fY.recast 81 (.v (.pointer (some ⟨aa,0 + 6 * 5,none⟩))) (.p 2 30) rfl rfl (Nat.le_of_ble_eq_true (n:=3) rfl)
  have f5:=fZ.pk (env':=[(0,.p 0 0),(2,.p 1 0),(3,.p 3 0),(73,.v (.int .i64 (((D.f 6).l:Nat):Int))),(74,.v (.int .i64 ((k6_:Nat):Int))),(80,.v (.slice (some ⟨aa,0,none⟩) 8 8)),(87,.v (.slice ((D.f 6).A) ((D.f 6).l) ((D.f 6).c))),(88,.v (.int .i64 ((k6_:Nat):Int))),(81,.p 2 30)])
  refine qaF [3,4,12] [(0,.p 0 0),(2,.p 1 0),(3,.p 3 0),(73,.v (.int .i64 (((D.f 6).l:Nat):Int))),(74,.v (.int .i64 ((k6_:Nat):Int))),(80,.v (.slice (some ⟨aa,0,none⟩) 8 8)),(83,.v (.slice A6_ k6_ c6_)),(87,.v (.slice ((D.f 6).A) ((D.f 6).l) ((D.f 6).c))),(88,.v (.int .i64 ((k6_:Nat):Int))),(91,.v (.int .i64 ((k6_:Nat):Int)))] 7 (qab (qad (qab (qab (qad (qab qaf)))))) (fun _ h=>h.cells) cq f5 fun k6 f7=>?_
  obtain ⟨dl,dp,f8,jp,cZ⟩:=Slots.get g7 (i:=k6_) (by omega)
  refine qaL f7 (i:=10) (t:=114) (A:=(D.f 6).A) (m:=((D.f 6).l)) (q:=((k6_:Nat):Int)) (d:=89) kz (e:=120) (size:=6) (bytes:=56) kz f8 rfl (by omega) kz kz (qab (qad (qab (qab (qad (qab qaf)))))) cq fun k7 dL=>?_
  refine qgU (i:=11) (j:=13) kz ?_ ?_
  ·
   refine (qak dL (f:=110) (vs:=[.pointer (some ⟨dl,dp + k6_ * 6,none⟩)]) (d:=90) kz Tryz.call110 (qbc 0 ((D.f 6).f k6_) _ _ _ _ (cZ.move aA.step nilM aA.imm) (qaR _ aA.step nilM aA.imm (g7e k6_ (by omega)))) ?_)
   rintro e_ k8 ⟨jq,rfl,f9,c5⟩
   have c6:=f9.move (Step.refl _ Nil) nilM (aA.laid (G:=F) c5)
   obtain ⟨ba,bd,bf,bg,bh,bi,bj,bk,bn,bo,bp,jr,js,da,iS,iT,k9,la⟩:=c6.open_
   rw [da] at c6
   have iU:=iS.small
   have iV:=iT.small
   rw [da]
   refine ⟨_,rfl,fun lb ga=>?_⟩
   have dM:=aA.next_nil c5
   have aL:=aA.frN c5
   have gb:=TT.ofW aL dM
   refine ⟨fun _=>gb,?_⟩
   refine qaw (i:=13) kz (qbZ dM ga (e:=37) (size:=5) (len:=1) (cs:=[.int .i64 0,.slice none 0 0,.bool false,.slice none 0 0,.slice none 0 0]) (d:=92) kz kz fun ea lc ld jt ju aB cr gc=>?_)
   have gd:=TT.ofW (aL.trans aB) cr
   refine ⟨fun _=>gd,?_⟩
   refine qaw (i:=14) kz (qaQ cr gc (k:=0) (d:=93) (t:=34) (e:=37) (size:=5) (bytes:=88) (A:=A6_) (As:=(some ⟨ea,0,none⟩)) (m0:=k6_) (c:=c6_) (m:=1) (cs:=1) (xs:=xs6_) (news:=[.int .i64 0,.slice none 0 0,.bool false,.slice none 0 0,.slice none 0 0]) kz kz rfl (qbz (cr.own 1 _ rfl) (qbF kz)) (qbJ (cr.own 1 _ rfl)) (by omega) fun aF aM lf lg aN db ge=>?_)
   have gg:=TT.ofW ((aL.trans aB).trans aN) db
   refine ⟨fun _=>gg,?_⟩
   refine qaw (i:=15) kz (qas ge (t:=34) (A:=(some ⟨aa,0,none⟩)) (m:=8) (q:=6) (d:=94) kz (e:=37) (size:=5) (bytes:=88) (j:=6) kz (b:=aa) (o:=0) rfl rfl (by decide) fun lh gh=>?_)
   have gi:=gh.recast 94 (.v (.pointer (some ⟨aa,0 + 6 * 5,none⟩))) (.p 2 30) rfl rfl (Nat.le_of_ble_eq_true (n:=3) rfl)
   have gj:=gi.pk (env':=[(0,.p 0 0),(2,.p 1 0),(3,.p 3 0),(73,.v (.int .i64 (((D.f 6).l:Nat):Int))),(74,.v (.int .i64 ((k6_:Nat):Int))),(80,.v (.slice (some ⟨aa,0,none⟩) 8 8)),(83,.v (.slice A6_ k6_ c6_)),(87,.v (.slice ((D.f 6).A) ((D.f 6).l) ((D.f 6).c))),(88,.v (.int .i64 ((k6_:Nat):Int))),(91,.v (.int .i64 ((k6_:Nat):Int))),(89,.v (.pointer (some ⟨dl,dp + k6_ * 6,none⟩))),(90,.v (.agg #[.int .i64 ba,.slice bi bd.length bj,.bool bf,.slice bk bg.length bn,.slice bo bh.length bp])),(92,.v (.slice (some ⟨ea,0,none⟩) 1 1)),(93,.v (.slice aF (k6_ + 1) aM)),(94,.p 2 30)])
   have dN:=TT.ofW ((aL.trans aB).trans aN) db
   refine ⟨fun _=>dN,?_⟩
   refine qaF [16] [(0,.p 0 0),(2,.p 1 0),(3,.p 3 0),(73,.v (.int .i64 (((D.f 6).l:Nat):Int))),(74,.v (.int .i64 ((k6_:Nat):Int))),(90,.v (.agg #[.int .i64 ba,.slice bi bd.length bj,.bool bf,.slice bk bg.length bn,.slice bo bh.length bp])),(91,.v (.int .i64 ((k6_:Nat):Int))),(93,.v (.slice aF (k6_ + 1) aM)),(95,.p 2 33)] 1 (qab (qad (qab (qab (qad (qab qaf)))))) (fun _ h=>h.cells) dN gj fun li gk=>?_
   refine qaw (i:=17) kz (qam db gk (oi:=2) (cs:=(.int .i64 (IntKind.i64.wrap ((D.f 0).n)) :: .slice none 0 0 :: .bool false :: .slice none 0 0 :: .slice none 0 0 :: .int .i64 (IntKind.i64.wrap ((D.f 1).n)) :: .slice none 0 0 :: .bool false :: .slice none 0 0 :: .slice none 0 0 :: .int .i64 ah :: .slice am ai.length ao :: .bool aj :: .slice ap ak.length ar :: .slice au al.length av :: .int .i64 (IntKind.i64.wrap ((D.f 3).n)) :: .slice none 0 0 :: .bool false :: .slice none 0 0 :: .slice none 0 0 :: .int .i64 0 :: .slice (some ⟨ab,0,none⟩) ((sb ((D.f 4).s)).length) ac :: .bool false :: .slice none 0 0 :: .slice none 0 0 :: .int .i64 (IntKind.i64.wrap ((D.f 5).n)) :: .slice none 0 0 :: .bool false :: .slice none 0 0 :: .slice none 0 0 :: .int .i64 0 :: .slice none 0 0 :: .bool (((D.f 6).A).isNone) :: .slice aF (k6_ + 1) aM :: .slice none 0 0 :: .int .i64 0 :: .slice none 0 0 :: .bool false :: .slice none 0 0 :: .slice none 0 0 :: [])) kz fun iW bJ dO gl=>?_)
   refine ⟨fun h=>absurd rfl h,?_⟩
   refine qaE kz ?_ _
   refine qaa ?_
   refine qaq [0,1] kz ?_
   have gm:World.ownsRow iW 0 37 5 (.slice aF (k6_ + 1) aM) (k6_ + 1) (xs6_ ++ [.int .i64 0,.slice none 0 0,.bool false,.slice none 0 0,.slice none 0 0]):=dO.own 0 _ rfl
   obtain ⟨gn,dP⟩:=qb0 gm (by omega)
   refine qaj (qas gl (t:=34) (A:=aF) (m:=(k6_ + 1)) (q:=((k6_:Nat):Int)) (d:=96) kz (e:=37) (size:=5) (bytes:=88) kz (b:=gn) (o:=0) (j:=k6_) dP (rfl) (by omega) fun lj gp=>?_)
   refine qaj (qb9 dO gp (k:=0) (g:=gn) (o:=k6_ * 5) (c:=aM) (m:=(k6_ + 1)) (size:=5) (e:=37) (A:=aF) (xs:=(xs6_ ++ [.int .i64 0,.slice none 0 0,.bool false,.slice none 0 0,.slice none 0 0])) (vs:=[.int .i64 ba,.slice bi bd.length bj,.bool bf,.slice bk bg.length bn,.slice bo bh.length bp]) kz rfl dP (by simp only [List.length_cons,List.length_nil]; omega) fun lm bK gq gt=>?_)
   have gv:(⟨aF,aM,37,5,k6_ + 1,qba (xs6_ ++ [.int .i64 0,.slice none 0 0,.bool false,.slice none 0 0,.slice none 0 0]) (k6_ * 5) [.int .i64 ba,.slice bi bd.length bj,.bool bf,.slice bk bg.length bn,.slice bo bh.length bp]⟩:Rw) = ⟨aF,aM,37,5,k6_ + 1,xs6_ ++ [.int .i64 ba,.slice bi bd.length bj,.bool bf,.slice bk bg.length bn,.slice bo bh.length bp]⟩:=by rw [qeP (by rw [hT6_.xslen,List.length_take,qdZ]; omega)]
   obtain ⟨dQ,bL⟩:=gq.rowEq 0 [⟨aF,aM,37,5,k6_ + 1,xs6_ ++ [.int .i64 ba,.slice bi bd.length bj,.bool bf,.slice bk bg.length bn,.slice bo bh.length bp]⟩,⟨some ⟨ea,0,none⟩,1,37,5,1,[.int .i64 0,.slice none 0 0,.bool false,.slice none 0 0,.slice none 0 0]⟩] gv
   refine qae ?_
   refine qav ?_
   refine qaa ?_
   refine qaq [0,1] kz ?_
   refine qai [0,1] [] [(0,.p 0 0),(2,.p 1 0),(3,.p 3 0),(73,.v (.int .i64 (((D.f 6).l:Nat):Int))),(74,.v (.int .i64 (IntKind.i64.wrap (((k6_:Nat):Int) + 1))))] dQ gt fun ln gw=>?_
   refine qae (qaa ?_)
   obtain ⟨dR,gx,bM⟩:=dQ.cutB gw 4 [⟨b,o,[.int .i16 v,.int .i32 ((D.f 0).n),.int .i16 ((D.f 1).n),.pointer ((D.f 2).A),.int .i8 ((D.f 3).n),.string ((D.f 4).s),.int .i32 ((D.f 5).n),.slice ((D.f 6).A) ((D.f 6).l) ((D.f 6).c),.int .i32 ((D.f 7).n),.map D.m],false⟩,⟨aZ,0,[.int .i64 0,.slice none 0 0,.bool false,.slice none 0 0,.slice none 0 0],true⟩,⟨aa,0,(.int .i64 (IntKind.i64.wrap ((D.f 0).n)) :: .slice none 0 0 :: .bool false :: .slice none 0 0 :: .slice none 0 0 :: .int .i64 (IntKind.i64.wrap ((D.f 1).n)) :: .slice none 0 0 :: .bool false :: .slice none 0 0 :: .slice none 0 0 :: .int .i64 ah :: .slice am ai.length ao :: .bool aj :: .slice ap ak.length ar :: .slice au al.length av :: .int .i64 (IntKind.i64.wrap ((D.f 3).n)) :: .slice none 0 0 :: .bool false :: .slice none 0 0 :: .slice none 0 0 :: .int .i64 0 :: .slice (some ⟨ab,0,none⟩) ((sb ((D.f 4).s)).length) ac :: .bool false :: .slice none 0 0 :: .slice none 0 0 :: .int .i64 (IntKind.i64.wrap ((D.f 5).n)) :: .slice none 0 0 :: .bool false :: .slice none 0 0 :: .slice none 0 0 :: .int .i64 0 :: .slice none 0 0 :: .bool (((D.f 6).A).isNone) :: .slice aF (k6_ + 1) aM :: .slice none 0 0 :: .int .i64 0 :: .slice none 0 0 :: .bool false :: .slice none 0 0 :: .slice none 0 0 :: []),true⟩,⟨aS,0,[.int .i64 0,.slice none 0 0,.bool false,.slice (some ⟨aa,0,none⟩) 8 8,.slice none 0 0],true⟩] [(0,.p 0 0),(2,.p 1 0),(3,.p 3 0),(73,.v (.int .i64 (((D.f 6).l:Nat):Int))),(74,.v (.int .i64 (IntKind.i64.wrap (((k6_:Nat):Int) + 1))))]
   obtain ⟨gy,bN⟩:=gx.cutR 1 [⟨aF,aM,37,5,k6_ + 1,xs6_ ++ [.int .i64 ba,.slice bi bd.length bj,.bool bf,.slice bk bg.length bn,.slice bo bh.length bp]⟩]
   have gz:IntKind.i64.wrap (((k6_:Nat):Int) + 1) = ((k6_ + 1:Nat):Int):=qaW (by omega)
   rw [gz] at dR
   exact ⟨(D.f 6).l - (k6_ + 1),by omega,k6_ + 1,aF,aM,xs6_ ++ [Value.int .i64 ba,.slice bi bd.length bj,.bool bf,.slice bk bg.length bn,.slice bo bh.length bp],(css6_ ++ [[Value.int .i64 ba,.slice bi bd.length bj,.bool bf,.slice bk bg.length bn,.slice bo bh.length bp]]),rfl,by omega,by rw [qed (by omega)]; exact (hT6_.move ((((((((((((aw.trans ae).trans ax).trans az).trans aU).trans aL).trans aB).trans aN).trans bJ).trans bK).trans bL).trans bM).trans bN).step immM ((((((((((((aw.trans ae).trans ax).trans az).trans aU).trans aL).trans aB).trans aN).trans bJ).trans bK).trans bL).trans bM).trans bN).to').snoc (x:=(fun i=>qaS ((D.f 6).f i)) k6_) (c6.move ((((((aB.trans aN).trans bJ).trans bK).trans bL).trans bM).trans bN).step immM ((((((aB.trans aN).trans bJ).trans bK).trans bL).trans bM).trans bN).to'),dR.pk,gy,(((((((((((((aH.trans aw).trans ae).trans ax).trans az).trans aU).trans aL).trans aB).trans aN).trans bJ).trans bK).trans bL).trans bM).trans bN)⟩
  refine (qbZ aA dL (e:=37) (size:=5) (len:=1) (cs:=[.int .i64 0,.slice none 0 0,.bool false,.slice none 0 0,.slice none 0 0]) (d:=92) kz kz fun eb lp lq jv jw aO aC gA=>?_)
  have gB:=TT.ofW aO aC
  refine ⟨fun _=>gB,?_⟩
  refine qaw (i:=11) kz (qak gA (f:=110) (vs:=[.pointer (some ⟨dl,dp + k6_ * 6,none⟩)]) (d:=90) kz Tryz.call110 (qbc 0 ((D.f 6).f k6_) _ _ _ _ (cZ.move aC.step nilM aC.imm) (qaR _ aC.step nilM aC.imm (g7e k6_ (by omega)))) ?_)
  rintro e_ lr ⟨jx,rfl,gC,dc⟩
  have de:=gC.move (Step.refl _ Nil) nilM (aC.laid (G:=F) dc)
  obtain ⟨bq,bt,bu,bw,bx,bz,bA,bB,bC,bD,bE,jy,jz,dg,iX,iY,ls,lu⟩:=de.open_
  rw [dg] at de
  have iZ:=iX.small
  have i6:=iY.small
  rw [dg]
  refine ⟨_,rfl,fun lv gD=>?_⟩
  have cu:=aC.next_nil dc
  have aV:=aC.frN dc
  have gE:=TT.ofW (aO.trans aV) cu
  refine ⟨fun _=>gE,?_⟩
  refine qaw (i:=14) kz (qaQ cu gD (k:=0) (d:=93) (t:=34) (e:=37) (size:=5) (bytes:=88) (A:=A6_) (As:=(some ⟨eb,0,none⟩)) (m0:=k6_) (c:=c6_) (m:=1) (cs:=1) (xs:=xs6_) (news:=[.int .i64 0,.slice none 0 0,.bool false,.slice none 0 0,.slice none 0 0]) kz kz rfl (qbz (cu.own 1 _ rfl) (qbF kz)) (qbJ (cu.own 1 _ rfl)) (by omega) fun aG aP lw lx aQ dh gF=>?_)
  have gG:=TT.ofW ((aO.trans aV).trans aQ) dh
  refine ⟨fun _=>gG,?_⟩
  refine qaw (i:=15) kz (qas gF (t:=34) (A:=(some ⟨aa,0,none⟩)) (m:=8) (q:=6) (d:=94) kz (e:=37) (size:=5) (bytes:=88) (j:=6) kz (b:=aa) (o:=0) rfl rfl (by decide) fun ly gH=>?_)
  have gI:=gH.recast 94 (.v (.pointer (some ⟨aa,0 + 6 * 5,none⟩))) (.p 2 30) rfl rfl (Nat.le_of_ble_eq_true (n:=3) rfl)
  have gJ:=gI.pk (env':=[(0,.p 0 0),(2,.p 1 0),(3,.p 3 0),(73,.v (.int .i64 (((D.f 6).l:Nat):Int))),(74,.v (.int .i64 ((k6_:Nat):Int))),(80,.v (.slice (some ⟨aa,0,none⟩) 8 8)),(83,.v (.slice A6_ k6_ c6_)),(87,.v (.slice ((D.f 6).A) ((D.f 6).l) ((D.f 6).c))),(88,.v (.int .i64 ((k6_:Nat):Int))),(91,.v (.int .i64 ((k6_:Nat):Int))),(89,.v (.pointer (some ⟨dl,dp + k6_ * 6,none⟩))),(92,.v (.slice (some ⟨eb,0,none⟩) 1 1)),(90,.v (.agg #[.int .i64 bq,.slice bz bt.length bA,.bool bu,.slice bB bw.length bC,.slice bD bx.length bE])),(93,.v (.slice aG (k6_ + 1) aP)),(94,.p 2 30)])
  have dS:=TT.ofW ((aO.trans aV).trans aQ) dh
  refine ⟨fun _=>dS,?_⟩
  refine qaF [16] [(0,.p 0 0),(2,.p 1 0),(3,.p 3 0),(73,.v (.int .i64 (((D.f 6).l:Nat):Int))),(74,.v (.int .i64 ((k6_:Nat):Int))),(90,.v (.agg #[.int .i64 bq,.slice bz bt.length bA,.bool bu,.slice bB bw.length bC,.slice bD bx.length bE])),(91,.v (.int .i64 ((k6_:Nat):Int))),(93,.v (.slice aG (k6_ + 1) aP)),(95,.p 2 33)] 1 (qab (qad (qab (qab (qad (qab qaf)))))) (fun _ h=>h.cells) dS gJ fun lz gK=>?_
  refine qaw (i:=17) kz (qam dh gK (oi:=2) (cs:=(.int .i64 (IntKind.i64.wrap ((D.f 0).n)) :: .slice none 0 0 :: .bool false :: .slice none 0 0 :: .slice none 0 0 :: .int .i64 (IntKind.i64.wrap ((D.f 1).n)) :: .slice none 0 0 :: .bool false :: .slice none 0 0 :: .slice none 0 0 :: .int .i64 ah :: .slice am ai.length ao :: .bool aj :: .slice ap ak.length ar :: .slice au al.length av :: .int .i64 (IntKind.i64.wrap ((D.f 3).n)) :: .slice none 0 0 :: .bool false :: .slice none 0 0 :: .slice none 0 0 :: .int .i64 0 :: .slice (some ⟨ab,0,none⟩) ((sb ((D.f 4).s)).length) ac :: .bool false :: .slice none 0 0 :: .slice none 0 0 :: .int .i64 (IntKind.i64.wrap ((D.f 5).n)) :: .slice none 0 0 :: .bool false :: .slice none 0 0 :: .slice none 0 0 :: .int .i64 0 :: .slice none 0 0 :: .bool (((D.f 6).A).isNone) :: .slice aG (k6_ + 1) aP :: .slice none 0 0 :: .int .i64 0 :: .slice none 0 0 :: .bool false :: .slice none 0 0 :: .slice none 0 0 :: [])) kz fun i7 bO dT gL=>?_)
  refine ⟨fun h=>absurd rfl h,?_⟩
  refine qaE kz ?_ _
  refine qaa ?_
  refine qaq [0,1] kz ?_
  have gM:World.ownsRow i7 0 37 5 (.slice aG (k6_ + 1) aP) (k6_ + 1) (xs6_ ++ [.int .i64 0,.slice none 0 0,.bool false,.slice none 0 0,.slice none 0 0]):=dT.own 0 _ rfl
  obtain ⟨gN,dU⟩:=qb0 gM (by omega)
  refine qaj (qas gL (t:=34) (A:=aG) (m:=(k6_ + 1)) (q:=((k6_:Nat):Int)) (d:=96) kz (e:=37) (size:=5) (bytes:=88) kz (b:=gN) (o:=0) (j:=k6_) dU (rfl) (by omega) fun lA gO=>?_)
  refine qaj (qb9 dT gO (k:=0) (g:=gN) (o:=k6_ * 5) (c:=aP) (m:=(k6_ + 1)) (size:=5) (e:=37) (A:=aG) (xs:=(xs6_ ++ [.int .i64 0,.slice none 0 0,.bool false,.slice none 0 0,.slice none 0 0])) (vs:=[.int .i64 bq,.slice bz bt.length bA,.bool bu,.slice bB bw.length bC,.slice bD bx.length bE]) kz rfl dU (by simp only [List.length_cons,List.length_nil]; omega) fun lB bP gP gQ=>?_)
  have gR:(⟨aG,aP,37,5,k6_ + 1,qba (xs6_ ++ [.int .i64 0,.slice none 0 0,.bool false,.slice none 0 0,.slice none 0 0]) (k6_ * 5) [.int .i64 bq,.slice bz bt.length bA,.bool bu,.slice bB bw.length bC,.slice bD bx.length bE]⟩:Rw) = ⟨aG,aP,37,5,k6_ + 1,xs6_ ++ [.int .i64 bq,.slice bz bt.length bA,.bool bu,.slice bB bw.length bC,.slice bD bx.length bE]⟩:=by rw [qeP (by rw [hT6_.xslen,List.length_take,qdZ]; omega)]
  obtain ⟨dV,bQ⟩:=gP.rowEq 0 [⟨aG,aP,37,5,k6_ + 1,xs6_ ++ [.int .i64 bq,.slice bz bt.length bA,.bool bu,.slice bB bw.length bC,.slice bD bx.length bE]⟩,⟨some ⟨eb,0,none⟩,1,37,5,1,[.int .i64 0,.slice none 0 0,.bool false,.slice none 0 0,.slice none 0 0]⟩] gR
  refine qae ?_
  refine qav ?_
  refine qaa ?_
  refine qaq [0,1] kz ?_
  refine qai [0,1] [] [(0,.p 0 0),(2,.p 1 0),(3,.p 3 0),(73,.v (.int .i64 (((D.f 6).l:Nat):Int))),(74,.v (.int .i64 (IntKind.i64.wrap (((k6_:Nat):Int) + 1))))] dV gQ fun lC gS=>?_
  refine qae (qaa ?_)
  obtain ⟨dW,gT,bR⟩:=dV.cutB gS 4 [⟨b,o,[.int .i16 v,.int .i32 ((D.f 0).n),.int .i16 ((D.f 1).n),.pointer ((D.f 2).A),.int .i8 ((D.f 3).n),.string ((D.f 4).s),.int .i32 ((D.f 5).n),.slice ((D.f 6).A) ((D.f 6).l) ((D.f 6).c),.int .i32 ((D.f 7).n),.map D.m],false⟩,⟨aZ,0,[.int .i64 0,.slice none 0 0,.bool false,.slice none 0 0,.slice none 0 0],true⟩,⟨aa,0,(.int .i64 (IntKind.i64.wrap ((D.f 0).n)) :: .slice none 0 0 :: .bool false :: .slice none 0 0 :: .slice none 0 0 :: .int .i64 (IntKind.i64.wrap ((D.f 1).n)) :: .slice none 0 0 :: .bool false :: .slice none 0 0 :: .slice none 0 0 :: .int .i64 ah :: .slice am ai.length ao :: .bool aj :: .slice ap ak.length ar :: .slice au al.length av :: .int .i64 (IntKind.i64.wrap ((D.f 3).n)) :: .slice none 0 0 :: .bool false :: .slice none 0 0 :: .slice none 0 0 :: .int .i64 0 :: .slice (some ⟨ab,0,none⟩) ((sb ((D.f 4).s)).length) ac :: .bool false :: .slice none 0 0 :: .slice none 0 0 :: .int .i64 (IntKind.i64.wrap ((D.f 5).n)) :: .slice none 0 0 :: .bool false :: .slice none 0 0 :: .slice none 0 0 :: .int .i64 0 :: .slice none 0 0 :: .bool (((D.f 6).A).isNone) :: .slice aG (k6_ + 1) aP :: .slice none 0 0 :: .int .i64 0 :: .slice none 0 0 :: .bool false :: .slice none 0 0 :: .slice none 0 0 :: []),true⟩,⟨aS,0,[.int .i64 0,.slice none 0 0,.bool false,.slice (some ⟨aa,0,none⟩) 8 8,.slice none 0 0],true⟩] [(0,.p 0 0),(2,.p 1 0),(3,.p 3 0),(73,.v (.int .i64 (((D.f 6).l:Nat):Int))),(74,.v (.int .i64 (IntKind.i64.wrap (((k6_:Nat):Int) + 1))))]
  obtain ⟨gU,bS⟩:=gT.cutR 1 [⟨aG,aP,37,5,k6_ + 1,xs6_ ++ [.int .i64 bq,.slice bz bt.length bA,.bool bu,.slice bB bw.length bC,.slice bD bx.length bE]⟩]
  have gV:IntKind.i64.wrap (((k6_:Nat):Int) + 1) = ((k6_ + 1:Nat):Int):=qaW (by omega)
  rw [gV] at dW
  exact ⟨(D.f 6).l - (k6_ + 1),by omega,k6_ + 1,aG,aP,xs6_ ++ [Value.int .i64 bq,.slice bz bt.length bA,.bool bu,.slice bB bw.length bC,.slice bD bx.length bE],(css6_ ++ [[Value.int .i64 bq,.slice bz bt.length bA,.bool bu,.slice bB bw.length bC,.slice bD bx.length bE]]),rfl,by omega,by rw [qed (by omega)]; exact (hT6_.move ((((((((((((aw.trans ae).trans ax).trans az).trans aU).trans aO).trans aV).trans aQ).trans bO).trans bP).trans bQ).trans bR).trans bS).step immM ((((((((((((aw.trans ae).trans ax).trans az).trans aU).trans aO).trans aV).trans aQ).trans bO).trans bP).trans bQ).trans bR).trans bS).to').snoc (x:=(fun i=>qaS ((D.f 6).f i)) k6_) (de.move (((((aQ.trans bO).trans bP).trans bQ).trans bR).trans bS).step immM (((((aQ.trans bO).trans bP).trans bQ).trans bR).trans bS).to'),dW.pk,gU,(((((((((((((aH.trans aw).trans ae).trans ax).trans az).trans aU).trans aO).trans aV).trans aQ).trans bO).trans bP).trans bQ).trans bR).trans bS)⟩
 have jA:=of_decide_eq_false cS
 refine wp_exit ?_
 refine qau ?_
 refine qau ?_
 refine qaM ?_
 refine qaa ?_
 refine qaO 9 kz b8 fun lD aW gW dX=>?_
 refine qaF [0,1,2,3,4,5,6,7] [(0,.p 0 0),(2,.p 1 0),(3,.p 3 0),(117,.v (.slice (some ⟨aa,0,none⟩) 8 8)),(123,.v (.agg #[.int .i64 (IntKind.i64.wrap ((D.f 7).n)),.slice none 0 0,.bool false,.slice none 0 0,.slice none 0 0]))] 2 (qab qaf) (fun _ h=>h.cells) dX cR fun lE gX=>?_
 refine qaL gX (i:=8) (t:=34) (A:=(some ⟨aa,0,none⟩)) (m:=8) (q:=7) (d:=124) kz (e:=37) (size:=5) (bytes:=88) (j:=7) kz (b:=aa) (o:=0) rfl rfl (by decide) kz kz (qab qaf) dX fun lF gY=>?_
 have gZ:=gY.recast 124 (.v (.pointer (some ⟨aa,0 + 7 * 5,none⟩))) (.p 2 35) rfl rfl (Nat.le_of_ble_eq_true (n:=3) rfl)
 have hC:=gZ.pk (env':=[(0,.p 0 0),(2,.p 1 0),(3,.p 3 0),(117,.v (.slice (some ⟨aa,0,none⟩) 8 8)),(123,.v (.agg #[.int .i64 (IntKind.i64.wrap ((D.f 7).n)),.slice none 0 0,.bool false,.slice none 0 0,.slice none 0 0])),(124,.p 2 35)])
 refine qaw (i:=9) kz (qam gW hC (oi:=2) (cs:=(.int .i64 (IntKind.i64.wrap ((D.f 0).n)) :: .slice none 0 0 :: .bool false :: .slice none 0 0 :: .slice none 0 0 :: .int .i64 (IntKind.i64.wrap ((D.f 1).n)) :: .slice none 0 0 :: .bool false :: .slice none 0 0 :: .slice none 0 0 :: .int .i64 ah :: .slice am ai.length ao :: .bool aj :: .slice ap ak.length ar :: .slice au al.length av :: .int .i64 (IntKind.i64.wrap ((D.f 3).n)) :: .slice none 0 0 :: .bool false :: .slice none 0 0 :: .slice none 0 0 :: .int .i64 0 :: .slice (some ⟨ab,0,none⟩) ((sb ((D.f 4).s)).length) ac :: .bool false :: .slice none 0 0 :: .slice none 0 0 :: .int .i64 (IntKind.i64.wrap ((D.f 5).n)) :: .slice none 0 0 :: .bool false :: .slice none 0 0 :: .slice none 0 0 :: .int .i64 0 :: .slice none 0 0 :: .bool (((D.f 6).A).isNone) :: .slice A6_ k6_ c6_ :: .slice none 0 0 :: .int .i64 (IntKind.i64.wrap ((D.f 7).n)) :: .slice none 0 0 :: .bool false :: .slice none 0 0 :: .slice none 0 0 :: [])) kz fun ja aX aR hJ=>?_)
 refine ⟨fun h=>absurd rfl h,?_⟩
 refine qaE kz ?_ _
 refine qaa ?_
 refine qac [0,1,2,3,4] kz ?_
 refine qai [0,1,2] [3,4] [(2,.p 1 0),(3,.p 3 0),(127,.p 0 9)] aR hJ fun lG hK=>?_
 refine qaj (qfi hK (v:=.func (.func 111) #[] #[.pointer (some ⟨aS,0,none⟩)]) (d:=128) kz fun lH hY=>?_)
 refine qaj (qak hY (f:=103) (vs:=[.pointer (some ⟨b,o + 9,none⟩),.func (.func 111) #[] #[.pointer (some ⟨aS,0,none⟩)]]) (d:=129) kz Tryz.call103 (qf3 (F:=(Imm F w ja [⟨b,o,[.int .i16 v,.int .i32 ((D.f 0).n),.int .i16 ((D.f 1).n),.pointer ((D.f 2).A),.int .i8 ((D.f 3).n),.string ((D.f 4).s),.int .i32 ((D.f 5).n),.slice ((D.f 6).A) ((D.f 6).l) ((D.f 6).c),.int .i32 ((D.f 7).n),.map D.m],false⟩,⟨aZ,0,[.int .i64 0,.slice none 0 0,.bool false,.slice none 0 0,.slice none 0 0],true⟩,⟨aa,0,(.int .i64 (IntKind.i64.wrap ((D.f 0).n)) :: .slice none 0 0 :: .bool false :: .slice none 0 0 :: .slice none 0 0 :: .int .i64 (IntKind.i64.wrap ((D.f 1).n)) :: .slice none 0 0 :: .bool false :: .slice none 0 0 :: .slice none 0 0 :: .int .i64 ah :: .slice am ai.length ao :: .bool aj :: .slice ap ak.length ar :: .slice au al.length av :: .int .i64 (IntKind.i64.wrap ((D.f 3).n)) :: .slice none 0 0 :: .bool false :: .slice none 0 0 :: .slice none 0 0 :: .int .i64 0 :: .slice (some ⟨ab,0,none⟩) ((sb ((D.f 4).s)).length) ac :: .bool false :: .slice none 0 0 :: .slice none 0 0 :: .int .i64 (IntKind.i64.wrap ((D.f 5).n)) :: .slice none 0 0 :: .bool false :: .slice none 0 0 :: .slice none 0 0 :: .int .i64 0 :: .slice none 0 0 :: .bool (((D.f 6).A).isNone) :: .slice A6_ k6_ c6_ :: .slice none 0 0 :: .int .i64 (IntKind.i64.wrap ((D.f 7).n)) :: .slice none 0 0 :: .bool false :: .slice none 0 0 :: .slice none 0 0 :: []),true⟩,⟨aS,0,[.int .i64 0,.slice none 0 0,.bool false,.slice (some ⟨aa,0,none⟩) 8 8,.slice none 0 0],true⟩] [⟨A6_,c6_,37,5,k6_,xs6_⟩])) Tryz.call111 qcs ((hat.one 9 rfl).move aR.step nilM aR.imm) (g9.move aR.step nilM aR.imm) (Str.of aR 3 rfl) (qj3 3 rfl) g9l) ?_)
 rintro e_ lI ⟨rfl,af,ag,ec,hZ,ia⟩
 obtain ⟨di,aY,ib⟩:=aR.wrote 3 [⟨b,o,[.int .i16 v,.int .i32 ((D.f 0).n),.int .i16 ((D.f 1).n),.pointer ((D.f 2).A),.int .i8 ((D.f 3).n),.string ((D.f 4).s),.int .i32 ((D.f 5).n),.slice ((D.f 6).A) ((D.f 6).l) ((D.f 6).c),.int .i32 ((D.f 7).n),.map D.m],false⟩,⟨aZ,0,[.int .i64 0,.slice none 0 0,.bool false,.slice none 0 0,.slice none 0 0],true⟩,⟨aa,0,(.int .i64 (IntKind.i64.wrap ((D.f 0).n)) :: .slice none 0 0 :: .bool false :: .slice none 0 0 :: .slice none 0 0 :: .int .i64 (IntKind.i64.wrap ((D.f 1).n)) :: .slice none 0 0 :: .bool false :: .slice none 0 0 :: .slice none 0 0 :: .int .i64 ah :: .slice am ai.length ao :: .bool aj :: .slice ap ak.length ar :: .slice au al.length av :: .int .i64 (IntKind.i64.wrap ((D.f 3).n)) :: .slice none 0 0 :: .bool false :: .slice none 0 0 :: .slice none 0 0 :: .int .i64 0 :: .slice (some ⟨ab,0,none⟩) ((sb ((D.f 4).s)).length) ac :: .bool false :: .slice none 0 0 :: .slice none 0 0 :: .int .i64 (IntKind.i64.wrap ((D.f 5).n)) :: .slice none 0 0 :: .bool false :: .slice none 0 0 :: .slice none 0 0 :: .int .i64 0 :: .slice none 0 0 :: .bool (((D.f 6).A).isNone) :: .slice A6_ k6_ c6_ :: .slice none 0 0 :: .int .i64 (IntKind.i64.wrap ((D.f 7).n)) :: .slice none 0 0 :: .bool false :: .slice none 0 0 :: .slice none 0 0 :: []),true⟩,⟨aS,0,[.int .i64 0,.slice none 0 0,.bool false,.slice (some ⟨aa,0,none⟩) 8 8,.slice af D.u.length ag],true⟩] rfl ia ec
 have dY:=hZ.move (Step.refl _ Nil) nilM (fun b_ o_ h_ hb_=>ib (G:=F) b_ o_ (.inr h_) hb_)
 refine ⟨_,rfl,fun lJ ic=>?_⟩
 have ig:=(EnvOk.places (tb':=[⟨b,o,[.int .i16 v,.int .i32 ((D.f 0).n),.int .i16 ((D.f 1).n),.pointer ((D.f 2).A),.int .i8 ((D.f 3).n),.string ((D.f 4).s),.int .i32 ((D.f 5).n),.slice ((D.f 6).A) ((D.f 6).l) ((D.f 6).c),.int .i32 ((D.f 7).n),.map D.m],false⟩,⟨aZ,0,[.int .i64 0,.slice none 0 0,.bool false,.slice none 0 0,.slice none 0 0],true⟩,⟨aa,0,(.int .i64 (IntKind.i64.wrap ((D.f 0).n)) :: .slice none 0 0 :: .bool false :: .slice none 0 0 :: .slice none 0 0 :: .int .i64 (IntKind.i64.wrap ((D.f 1).n)) :: .slice none 0 0 :: .bool false :: .slice none 0 0 :: .slice none 0 0 :: .int .i64 ah :: .slice am ai.length ao :: .bool aj :: .slice ap ak.length ar :: .slice au al.length av :: .int .i64 (IntKind.i64.wrap ((D.f 3).n)) :: .slice none 0 0 :: .bool false :: .slice none 0 0 :: .slice none 0 0 :: .int .i64 0 :: .slice (some ⟨ab,0,none⟩) ((sb ((D.f 4).s)).length) ac :: .bool false :: .slice none 0 0 :: .slice none 0 0 :: .int .i64 (IntKind.i64.wrap ((D.f 5).n)) :: .slice none 0 0 :: .bool false :: .slice none 0 0 :: .slice none 0 0 :: .int .i64 0 :: .slice none 0 0 :: .bool (((D.f 6).A).isNone) :: .slice A6_ k6_ c6_ :: .slice none 0 0 :: .int .i64 (IntKind.i64.wrap ((D.f 7).n)) :: .slice none 0 0 :: .bool false :: .slice none 0 0 :: .slice none 0 0 :: []),true⟩,⟨aS,0,[.int .i64 0,.slice none 0 0,.bool false,.slice (some ⟨aa,0,none⟩) 8 8,.slice af D.u.length ag],true⟩]) ic (show Pl [⟨b,o,[.int .i16 v,.int .i32 ((D.f 0).n),.int .i16 ((D.f 1).n),.pointer ((D.f 2).A),.int .i8 ((D.f 3).n),.string ((D.f 4).s),.int .i32 ((D.f 5).n),.slice ((D.f 6).A) ((D.f 6).l) ((D.f 6).c),.int .i32 ((D.f 7).n),.map D.m],false⟩,⟨aZ,0,[.int .i64 0,.slice none 0 0,.bool false,.slice none 0 0,.slice none 0 0],true⟩,⟨aa,0,(.int .i64 (IntKind.i64.wrap ((D.f 0).n)) :: .slice none 0 0 :: .bool false :: .slice none 0 0 :: .slice none 0 0 :: .int .i64 (IntKind.i64.wrap ((D.f 1).n)) :: .slice none 0 0 :: .bool false :: .slice none 0 0 :: .slice none 0 0 :: .int .i64 ah :: .slice am ai.length ao :: .bool aj :: .slice ap ak.length ar :: .slice au al.length av :: .int .i64 (IntKind.i64.wrap ((D.f 3).n)) :: .slice none 0 0 :: .bool false :: .slice none 0 0 :: .slice none 0 0 :: .int .i64 0 :: .slice (some ⟨ab,0,none⟩) ((sb ((D.f 4).s)).length) ac :: .bool false :: .slice none 0 0 :: .slice none 0 0 :: .int .i64 (IntKind.i64.wrap ((D.f 5).n)) :: .slice none 0 0 :: .bool false :: .slice none 0 0 :: .slice none 0 0 :: .int .i64 0 :: .slice none 0 0 :: .bool (((D.f 6).A).isNone) :: .slice A6_ k6_ c6_ :: .slice none 0 0 :: .int .i64 (IntKind.i64.wrap ((D.f 7).n)) :: .slice none 0 0 :: .bool false :: .slice none 0 0 :: .slice none 0 0 :: []),true⟩,⟨aS,0,[.int .i64 0,.slice none 0 0,.bool false,.slice (some ⟨aa,0,none⟩) 8 8,.slice none 0 0],true⟩] [⟨b,o,[.int .i16 v,.int .i32 ((D.f 0).n),.int .i16 ((D.f 1).n),.pointer ((D.f 2).A),.int .i8 ((D.f 3).n),.string ((D.f 4).s),.int .i32 ((D.f 5).n),.slice ((D.f 6).A) ((D.f 6).l) ((D.f 6).c),.int .i32 ((D.f 7).n),.map D.m],false⟩,⟨aZ,0,[.int .i64 0,.slice none 0 0,.bool false,.slice none 0 0,.slice none 0 0],true⟩,⟨aa,0,(.int .i64 (IntKind.i64.wrap ((D.f 0).n)) :: .slice none 0 0 :: .bool false :: .slice none 0 0 :: .slice none 0 0 :: .int .i64 (IntKind.i64.wrap ((D.f 1).n)) :: .slice none 0 0 :: .bool false :: .slice none 0 0 :: .slice none 0 0 :: .int .i64 ah :: .slice am ai.length ao :: .bool aj :: .slice ap ak.length ar :: .slice au al.length av :: .int .i64 (IntKind.i64.wrap ((D.f 3).n)) :: .slice none 0 0 :: .bool false :: .slice none 0 0 :: .slice none 0 0 :: .int .i64 0 :: .slice (some ⟨ab,0,none⟩) ((sb ((D.f 4).s)).length) ac :: .bool false :: .slice none 0 0 :: .slice none 0 0 :: .int .i64 (IntKind.i64.wrap ((D.f 5).n)) :: .slice none 0 0 :: .bool false :: .slice none 0 0 :: .slice none 0 0 :: .int .i64 0 :: .slice none 0 0 :: .bool (((D.f 6).A).isNone) :: .slice A6_ k6_ c6_ :: .slice none 0 0 :: .int .i64 (IntKind.i64.wrap ((D.f 7).n)) :: .slice none 0 0 :: .bool false :: .slice none 0 0 :: .slice none 0 0 :: []),true⟩,⟨aS,0,[.int .i64 0,.slice none 0 0,.bool false,.slice (some ⟨aa,0,none⟩) 8 8,.slice af D.u.length ag],true⟩] from ⟨rfl,rfl,⟨rfl,rfl,⟨rfl,rfl,⟨rfl,rfl,trivial⟩⟩⟩⟩)).pk (env':=[(129,.v (.tuple #[])),(2,.p 1 0),(3,.p 3 0),(127,.p 0 9),(128,.v (.func (.func 111) #[] #[.pointer (some ⟨aS,0,none⟩)]))])
 refine qae (qaa ?_)
 refine qac [0,1,2] kz ?_
 refine qai [0,1] [2] [(2,.p 1 0),(3,.p 3 0),(131,.v (.slice af D.u.length ag))] di ig fun lK ii=>?_
 refine qaj (qak ii (f:=105) (vs:=[.slice af D.u.length ag]) (d:=132) kz Tryz.call105 (qiI dY g9.sorted) ?_)
 rintro e_ lL ⟨rfl,dZ⟩
 refine ⟨_,rfl,fun lM ij=>?_⟩
 have d5:=di.next_nil dZ
 have aD:=di.frN dZ
 refine qae (qaa ?_)
 refine qac [0,1] kz ?_
 refine qai [0] [1] [(2,.p 1 0),(133,.v (.agg #[.int .i64 0,.slice none 0 0,.bool false,.slice (some ⟨aa,0,none⟩) 8 8,.slice af D.u.length ag]))] d5 ij fun lN ik=>?_
 refine qaj (qam d5 ik (oi:=1) (cs:=[.int .i64 0,.slice none 0 0,.bool false,.slice (some ⟨aa,0,none⟩) 8 8,.slice af D.u.length ag]) kz fun bT aE dj il=>?_)
 refine qae (qaa ?_)
 refine wp_ret ?_
 refine qaN il dj.cells (v:=.agg #[.int .i64 0,.slice none 0 0,.bool false,.slice (some ⟨aa,0,none⟩) 8 8,.slice af D.u.length ag]) kz ?_
 have d6:=(hT6_.move ((((aW.trans aX).trans aY).trans aD).trans aE).step immM ((((aW.trans aX).trans aY).trans aD).trans aE).to')
 rw [qjh (by omega)] at d6
 exact qgT (u:=D.u) (l:=[.mk (IntKind.i64.wrap (D.f 0).n) [] false [] [],.mk (IntKind.i64.wrap (D.f 1).n) [] false [] [],qiF (D.f 2).A (D.f 2).s,.mk (IntKind.i64.wrap (D.f 3).n) [] false [] [],.mk 0 (sb (D.f 4).s) false [] [],.mk (IntKind.i64.wrap (D.f 5).n) [] false [] [],.mk 0 [] (D.f 6).A.isNone ((List.range (D.f 6).l).map fun i=>qaS ((D.f 6).f i)) [],.mk (IntKind.i64.wrap (D.f 7).n) [] false [] []]) (css:=[[.int .i64 (IntKind.i64.wrap ((D.f 0).n)),.slice none 0 0,.bool false,.slice none 0 0,.slice none 0 0],[.int .i64 (IntKind.i64.wrap ((D.f 1).n)),.slice none 0 0,.bool false,.slice none 0 0,.slice none 0 0],[.int .i64 ah,.slice am ai.length ao,.bool aj,.slice ap ak.length ar,.slice au al.length av],[.int .i64 (IntKind.i64.wrap ((D.f 3).n)),.slice none 0 0,.bool false,.slice none 0 0,.slice none 0 0],[.int .i64 0,.slice (some ⟨ab,0,none⟩) ((sb ((D.f 4).s)).length) ac,.bool false,.slice none 0 0,.slice none 0 0],[.int .i64 (IntKind.i64.wrap ((D.f 5).n)),.slice none 0 0,.bool false,.slice none 0 0,.slice none 0 0],[.int .i64 0,.slice none 0 0,.bool (((D.f 6).A).isNone),.slice A6_ k6_ c6_,.slice none 0 0],[.int .i64 (IntKind.i64.wrap ((D.f 7).n)),.slice none 0 0,.bool false,.slice none 0 0,.slice none 0 0]]) dj 2 rfl ⟨(show TreeR _ (Imm F w bT [⟨b,o,[.int .i16 v,.int .i32 ((D.f 0).n),.int .i16 ((D.f 1).n),.pointer ((D.f 2).A),.int .i8 ((D.f 3).n),.string ((D.f 4).s),.int .i32 ((D.f 5).n),.slice ((D.f 6).A) ((D.f 6).l) ((D.f 6).c),.int .i32 ((D.f 7).n),.map D.m],false⟩,⟨aZ,0,[.int .i64 0,.slice none 0 0,.bool false,.slice (some ⟨aa,0,none⟩) 8 8,.slice af D.u.length ag],true⟩,⟨aa,0,(.int .i64 (IntKind.i64.wrap ((D.f 0).n)) :: .slice none 0 0 :: .bool false :: .slice none 0 0 :: .slice none 0 0 :: .int .i64 (IntKind.i64.wrap ((D.f 1).n)) :: .slice none 0 0 :: .bool false :: .slice none 0 0 :: .slice none 0 0 :: .int .i64 ah :: .slice am ai.length ao :: .bool aj :: .slice ap ak.length ar :: .slice au al.length av :: .int .i64 (IntKind.i64.wrap ((D.f 3).n)) :: .slice none 0 0 :: .bool false :: .slice none 0 0 :: .slice none 0 0 :: .int .i64 0 :: .slice (some ⟨ab,0,none⟩) ((sb ((D.f 4).s)).length) ac :: .bool false :: .slice none 0 0 :: .slice none 0 0 :: .int .i64 (IntKind.i64.wrap ((D.f 5).n)) :: .slice none 0 0 :: .bool false :: .slice none 0 0 :: .slice none 0 0 :: .int .i64 0 :: .slice none 0 0 :: .bool (((D.f 6).A).isNone) :: .slice A6_ k6_ c6_ :: .slice none 0 0 :: .int .i64 (IntKind.i64.wrap ((D.f 7).n)) :: .slice none 0 0 :: .bool false :: .slice none 0 0 :: .slice none 0 0 :: []),true⟩,⟨aS,0,[.int .i64 0,.slice none 0 0,.bool false,.slice (some ⟨aa,0,none⟩) 8 8,.slice af D.u.length ag],true⟩] [⟨A6_,c6_,37,5,k6_,xs6_⟩]) _ _ from (TreeR.mk (n:=IntKind.i64.wrap ((D.f 0).n)) (b:=false) (s:=[]) (l:=[]) (u:=[]) (fun _=>[]) (Octs.nil _ _) (Slots.nil _ _ _ _) (fun i_ x_ h_=>by simp at h_) (TagsR.nil _ _))).move (Step.refl _ Nil) nilM qbk,(show TreeR _ (Imm F w bT [⟨b,o,[.int .i16 v,.int .i32 ((D.f 0).n),.int .i16 ((D.f 1).n),.pointer ((D.f 2).A),.int .i8 ((D.f 3).n),.string ((D.f 4).s),.int .i32 ((D.f 5).n),.slice ((D.f 6).A) ((D.f 6).l) ((D.f 6).c),.int .i32 ((D.f 7).n),.map D.m],false⟩,⟨aZ,0,[.int .i64 0,.slice none 0 0,.bool false,.slice (some ⟨aa,0,none⟩) 8 8,.slice af D.u.length ag],true⟩,⟨aa,0,(.int .i64 (IntKind.i64.wrap ((D.f 0).n)) :: .slice none 0 0 :: .bool false :: .slice none 0 0 :: .slice none 0 0 :: .int .i64 (IntKind.i64.wrap ((D.f 1).n)) :: .slice none 0 0 :: .bool false :: .slice none 0 0 :: .slice none 0 0 :: .int .i64 ah :: .slice am ai.length ao :: .bool aj :: .slice ap ak.length ar :: .slice au al.length av :: .int .i64 (IntKind.i64.wrap ((D.f 3).n)) :: .slice none 0 0 :: .bool false :: .slice none 0 0 :: .slice none 0 0 :: .int .i64 0 :: .slice (some ⟨ab,0,none⟩) ((sb ((D.f 4).s)).length) ac :: .bool false :: .slice none 0 0 :: .slice none 0 0 :: .int .i64 (IntKind.i64.wrap ((D.f 5).n)) :: .slice none 0 0 :: .bool false :: .slice none 0 0 :: .slice none 0 0 :: .int .i64 0 :: .slice none 0 0 :: .bool (((D.f 6).A).isNone) :: .slice A6_ k6_ c6_ :: .slice none 0 0 :: .int .i64 (IntKind.i64.wrap ((D.f 7).n)) :: .slice none 0 0 :: .bool false :: .slice none 0 0 :: .slice none 0 0 :: []),true⟩,⟨aS,0,[.int .i64 0,.slice none 0 0,.bool false,.slice (some ⟨aa,0,none⟩) 8 8,.slice af D.u.length ag],true⟩] [⟨A6_,c6_,37,5,k6_,xs6_⟩]) _ _ from (TreeR.mk (n:=IntKind.i64.wrap ((D.f 1).n)) (b:=false) (s:=[]) (l:=[]) (u:=[]) (fun _=>[]) (Octs.nil _ _) (Slots.nil _ _ _ _) (fun i_ x_ h_=>by simp at h_) (TagsR.nil _ _))).move (Step.refl _ Nil) nilM qbk,(show TreeR _ (Imm F w bT [⟨b,o,[.int .i16 v,.int .i32 ((D.f 0).n),.int .i16 ((D.f 1).n),.pointer ((D.f 2).A),.int .i8 ((D.f 3).n),.string ((D.f 4).s),.int .i32 ((D.f 5).n),.slice ((D.f 6).A) ((D.f 6).l) ((D.f 6).c),.int .i32 ((D.f 7).n),.map D.m],false⟩,⟨aZ,0,[.int .i64 0,.slice none 0 0,.bool false,.slice (some ⟨aa,0,none⟩) 8 8,.slice af D.u.length ag],true⟩,⟨aa,0,(.int .i64 (IntKind.i64.wrap ((D.f 0).n)) :: .slice none 0 0 :: .bool false :: .slice none 0 0 :: .slice none 0 0 :: .int .i64 (IntKind.i64.wrap ((D.f 1).n)) :: .slice none 0 0 :: .bool false :: .slice none 0 0 :: .slice none 0 0 :: .int .i64 ah :: .slice am ai.length ao :: .bool aj :: .slice ap ak.length ar :: .slice au al.length av :: .int .i64 (IntKind.i64.wrap ((D.f 3).n)) :: .slice none 0 0 :: .bool false :: .slice none 0 0 :: .slice none 0 0 :: .int .i64 0 :: .slice (some ⟨ab,0,none⟩) ((sb ((D.f 4).s)).length) ac :: .bool false :: .slice none 0 0 :: .slice none 0 0 :: .int .i64 (IntKind.i64.wrap ((D.f 5).n)) :: .slice none 0 0 :: .bool false :: .slice none 0 0 :: .slice none 0 0 :: .int .i64 0 :: .slice none 0 0 :: .bool (((D.f 6).A).isNone) :: .slice A6_ k6_ c6_ :: .slice none 0 0 :: .int .i64 (IntKind.i64.wrap ((D.f 7).n)) :: .slice none 0 0 :: .bool false :: .slice none 0 0 :: .slice none 0 0 :: []),true⟩,⟨aS,0,[.int .i64 0,.slice none 0 0,.bool false,.slice (some ⟨aa,0,none⟩) 8 8,.slice af D.u.length ag],true⟩] [⟨A6_,c6_,37,5,k6_,xs6_⟩]) _ _ from (d8.move ((((((((((((((((du.trans dv).trans dx).trans dy).trans cN).trans bU).trans bV).trans bW).trans bX).trans bY).trans bZ).trans aH).trans aW).trans aX).trans aY).trans aD).trans aE).step immM ((((((((((((((((du.trans dv).trans dx).trans dy).trans cN).trans bU).trans bV).trans bW).trans bX).trans bY).trans bZ).trans aH).trans aW).trans aX).trans aY).trans aD).trans aE).to')).move (Step.refl _ Nil) nilM qbk,(show TreeR _ (Imm F w bT [⟨b,o,[.int .i16 v,.int .i32 ((D.f 0).n),.int .i16 ((D.f 1).n),.pointer ((D.f 2).A),.int .i8 ((D.f 3).n),.string ((D.f 4).s),.int .i32 ((D.f 5).n),.slice ((D.f 6).A) ((D.f 6).l) ((D.f 6).c),.int .i32 ((D.f 7).n),.map D.m],false⟩,⟨aZ,0,[.int .i64 0,.slice none 0 0,.bool false,.slice (some ⟨aa,0,none⟩) 8 8,.slice af D.u.length ag],true⟩,⟨aa,0,(.int .i64 (IntKind.i64.wrap ((D.f 0).n)) :: .slice none 0 0 :: .bool false :: .slice none 0 0 :: .slice none 0 0 :: .int .i64 (IntKind.i64.wrap ((D.f 1).n)) :: .slice none 0 0 :: .bool false :: .slice none 0 0 :: .slice none 0 0 :: .int .i64 ah :: .slice am ai.length ao :: .bool aj :: .slice ap ak.length ar :: .slice au al.length av :: .int .i64 (IntKind.i64.wrap ((D.f 3).n)) :: .slice none 0 0 :: .bool false :: .slice none 0 0 :: .slice none 0 0 :: .int .i64 0 :: .slice (some ⟨ab,0,none⟩) ((sb ((D.f 4).s)).length) ac :: .bool false :: .slice none 0 0 :: .slice none 0 0 :: .int .i64 (IntKind.i64.wrap ((D.f 5).n)) :: .slice none 0 0 :: .bool false :: .slice none 0 0 :: .slice none 0 0 :: .int .i64 0 :: .slice none 0 0 :: .bool (((D.f 6).A).isNone) :: .slice A6_ k6_ c6_ :: .slice none 0 0 :: .int .i64 (IntKind.i64.wrap ((D.f 7).n)) :: .slice none 0 0 :: .bool false :: .slice none 0 0 :: .slice none 0 0 :: []),true⟩,⟨aS,0,[.int .i64 0,.slice none 0 0,.bool false,.slice (some ⟨aa,0,none⟩) 8 8,.slice af D.u.length ag],true⟩] [⟨A6_,c6_,37,5,k6_,xs6_⟩]) _ _ from (TreeR.mk (n:=IntKind.i64.wrap ((D.f 3).n)) (b:=false) (s:=[]) (l:=[]) (u:=[]) (fun _=>[]) (Octs.nil _ _) (Slots.nil _ _ _ _) (fun i_ x_ h_=>by simp at h_) (TagsR.nil _ _))).move (Step.refl _ Nil) nilM qbk,(show TreeR _ (Imm F w bT [⟨b,o,[.int .i16 v,.int .i32 ((D.f 0).n),.int .i16 ((D.f 1).n),.pointer ((D.f 2).A),.int .i8 ((D.f 3).n),.string ((D.f 4).s),.int .i32 ((D.f 5).n),.slice ((D.f 6).A) ((D.f 6).l) ((D.f 6).c),.int .i32 ((D.f 7).n),.map D.m],false⟩,⟨aZ,0,[.int .i64 0,.slice none 0 0,.bool false,.slice (some ⟨aa,0,none⟩) 8 8,.slice af D.u.length ag],true⟩,⟨aa,0,(.int .i64 (IntKind.i64.wrap ((D.f 0).n)) :: .slice none 0 0 :: .bool false :: .slice none 0 0 :: .slice none 0 0 :: .int .i64 (IntKind.i64.wrap ((D.f 1).n)) :: .slice none 0 0 :: .bool false :: .slice none 0 0 :: .slice none 0 0 :: .int .i64 ah :: .slice am ai.length ao :: .bool aj :: .slice ap ak.length ar :: .slice au al.length av :: .int .i64 (IntKind.i64.wrap ((D.f 3).n)) :: .slice none 0 0 :: .bool false :: .slice none 0 0 :: .slice none 0 0 :: .int .i64 0 :: .slice (some ⟨ab,0,none⟩) ((sb ((D.f 4).s)).length) ac :: .bool false :: .slice none 0 0 :: .slice none 0 0 :: .int .i64 (IntKind.i64.wrap ((D.f 5).n)) :: .slice none 0 0 :: .bool false :: .slice none 0 0 :: .slice none 0 0 :: .int .i64 0 :: .slice none 0 0 :: .bool (((D.f 6).A).isNone) :: .slice A6_ k6_ c6_ :: .slice none 0 0 :: .int .i64 (IntKind.i64.wrap ((D.f 7).n)) :: .slice none 0 0 :: .bool false :: .slice none 0 0 :: .slice none 0 0 :: []),true⟩,⟨aS,0,[.int .i64 0,.slice none 0 0,.bool false,.slice (some ⟨aa,0,none⟩) 8 8,.slice af D.u.length ag],true⟩] [⟨A6_,c6_,37,5,k6_,xs6_⟩]) _ _ from (TreeR.mk (n:=0) (b:=false) (s:=(sb ((D.f 4).s))) (l:=[]) (u:=[]) (fun _=>[]) (eI.move (((((((((((bU.trans bV).trans bW).trans bX).trans bY).trans bZ).trans aH).trans aW).trans aX).trans aY).trans aD).trans aE).step immM (((((((((((bU.trans bV).trans bW).trans bX).trans bY).trans bZ).trans aH).trans aW).trans aX).trans aY).trans aD).trans aE).to') (Slots.nil _ _ _ _) (fun i_ x_ h_=>by simp at h_) (TagsR.nil _ _))).move (Step.refl _ Nil) nilM qbk,(show TreeR _ (Imm F w bT [⟨b,o,[.int .i16 v,.int .i32 ((D.f 0).n),.int .i16 ((D.f 1).n),.pointer ((D.f 2).A),.int .i8 ((D.f 3).n),.string ((D.f 4).s),.int .i32 ((D.f 5).n),.slice ((D.f 6).A) ((D.f 6).l) ((D.f 6).c),.int .i32 ((D.f 7).n),.map D.m],false⟩,⟨aZ,0,[.int .i64 0,.slice none 0 0,.bool false,.slice (some ⟨aa,0,none⟩) 8 8,.slice af D.u.length ag],true⟩,⟨aa,0,(.int .i64 (IntKind.i64.wrap ((D.f 0).n)) :: .slice none 0 0 :: .bool false :: .slice none 0 0 :: .slice none 0 0 :: .int .i64 (IntKind.i64.wrap ((D.f 1).n)) :: .slice none 0 0 :: .bool false :: .slice none 0 0 :: .slice none 0 0 :: .int .i64 ah :: .slice am ai.length ao :: .bool aj :: .slice ap ak.length ar :: .slice au al.length av :: .int .i64 (IntKind.i64.wrap ((D.f 3).n)) :: .slice none 0 0 :: .bool false :: .slice none 0 0 :: .slice none 0 0 :: .int .i64 0 :: .slice (some ⟨ab,0,none⟩) ((sb ((D.f 4).s)).length) ac :: .bool false :: .slice none 0 0 :: .slice none 0 0 :: .int .i64 (IntKind.i64.wrap ((D.f 5).n)) :: .slice none 0 0 :: .bool false :: .slice none 0 0 :: .slice none 0 0 :: .int .i64 0 :: .slice none 0 0 :: .bool (((D.f 6).A).isNone) :: .slice A6_ k6_ c6_ :: .slice none 0 0 :: .int .i64 (IntKind.i64.wrap ((D.f 7).n)) :: .slice none 0 0 :: .bool false :: .slice none 0 0 :: .slice none 0 0 :: []),true⟩,⟨aS,0,[.int .i64 0,.slice none 0 0,.bool false,.slice (some ⟨aa,0,none⟩) 8 8,.slice af D.u.length ag],true⟩] [⟨A6_,c6_,37,5,k6_,xs6_⟩]) _ _ from (TreeR.mk (n:=IntKind.i64.wrap ((D.f 5).n)) (b:=false) (s:=[]) (l:=[]) (u:=[]) (fun _=>[]) (Octs.nil _ _) (Slots.nil _ _ _ _) (fun i_ x_ h_=>by simp at h_) (TagsR.nil _ _))).move (Step.refl _ Nil) nilM qbk,qiG dj (k:=0) rfl d6 (by rw [qdZ]; omega) (by rw [qdZ]; omega),(show TreeR _ (Imm F w bT [⟨b,o,[.int .i16 v,.int .i32 ((D.f 0).n),.int .i16 ((D.f 1).n),.pointer ((D.f 2).A),.int .i8 ((D.f 3).n),.string ((D.f 4).s),.int .i32 ((D.f 5).n),.slice ((D.f 6).A) ((D.f 6).l) ((D.f 6).c),.int .i32 ((D.f 7).n),.map D.m],false⟩,⟨aZ,0,[.int .i64 0,.slice none 0 0,.bool false,.slice (some ⟨aa,0,none⟩) 8 8,.slice af D.u.length ag],true⟩,⟨aa,0,(.int .i64 (IntKind.i64.wrap ((D.f 0).n)) :: .slice none 0 0 :: .bool false :: .slice none 0 0 :: .slice none 0 0 :: .int .i64 (IntKind.i64.wrap ((D.f 1).n)) :: .slice none 0 0 :: .bool false :: .slice none 0 0 :: .slice none 0 0 :: .int .i64 ah :: .slice am ai.length ao :: .bool aj :: .slice ap ak.length ar :: .slice au al.length av :: .int .i64 (IntKind.i64.wrap ((D.f 3).n)) :: .slice none 0 0 :: .bool false :: .slice none 0 0 :: .slice none 0 0 :: .int .i64 0 :: .slice (some ⟨ab,0,none⟩) ((sb ((D.f 4).s)).length) ac :: .bool false :: .slice none 0 0 :: .slice none 0 0 :: .int .i64 (IntKind.i64.wrap ((D.f 5).n)) :: .slice none 0 0 :: .bool false :: .slice none 0 0 :: .slice none 0 0 :: .int .i64 0 :: .slice none 0 0 :: .bool (((D.f 6).A).isNone) :: .slice A6_ k6_ c6_ :: .slice none 0 0 :: .int .i64 (IntKind.i64.wrap ((D.f 7).n)) :: .slice none 0 0 :: .bool false :: .slice none 0 0 :: .slice none 0 0 :: []),true⟩,⟨aS,0,[.int .i64 0,.slice none 0 0,.bool false,.slice (some ⟨aa,0,none⟩) 8 8,.slice af D.u.length ag],true⟩] [⟨A6_,c6_,37,5,k6_,xs6_⟩]) _ _ from (TreeR.mk (n:=IntKind.i64.wrap ((D.f 7).n)) (b:=false) (s:=[]) (l:=[]) (u:=[]) (fun _=>[]) (Octs.nil _ _) (Slots.nil _ _ _ _) (fun i_ x_ h_=>by simp at h_) (TagsR.nil _ _))).move (Step.refl _ Nil) nilM qbk,trivial⟩ ((show TagsR _ (Imm F w bT [⟨b,o,[.int .i16 v,.int .i32 ((D.f 0).n),.int .i16 ((D.f 1).n),.pointer ((D.f 2).A),.int .i8 ((D.f 3).n),.string ((D.f 4).s),.int .i32 ((D.f 5).n),.slice ((D.f 6).A) ((D.f 6).l) ((D.f 6).c),.int .i32 ((D.f 7).n),.map D.m],false⟩,⟨aZ,0,[.int .i64 0,.slice none 0 0,.bool false,.slice (some ⟨aa,0,none⟩) 8 8,.slice af D.u.length ag],true⟩,⟨aa,0,(.int .i64 (IntKind.i64.wrap ((D.f 0).n)) :: .slice none 0 0 :: .bool false :: .slice none 0 0 :: .slice none 0 0 :: .int .i64 (IntKind.i64.wrap ((D.f 1).n)) :: .slice none 0 0 :: .bool false :: .slice none 0 0 :: .slice none 0 0 :: .int .i64 ah :: .slice am ai.length ao :: .bool aj :: .slice ap ak.length ar :: .slice au al.length av :: .int .i64 (IntKind.i64.wrap ((D.f 3).n)) :: .slice none 0 0 :: .bool false :: .slice none 0 0 :: .slice none 0 0 :: .int .i64 0 :: .slice (some ⟨ab,0,none⟩) ((sb ((D.f 4).s)).length) ac :: .bool false :: .slice none 0 0 :: .slice none 0 0 :: .int .i64 (IntKind.i64.wrap ((D.f 5).n)) :: .slice none 0 0 :: .bool false :: .slice none 0 0 :: .slice none 0 0 :: .int .i64 0 :: .slice none 0 0 :: .bool (((D.f 6).A).isNone) :: .slice A6_ k6_ c6_ :: .slice none 0 0 :: .int .i64 (IntKind.i64.wrap ((D.f 7).n)) :: .slice none 0 0 :: .bool false :: .slice none 0 0 :: .slice none 0 0 :: []),true⟩,⟨aS,0,[.int .i64 0,.slice none 0 0,.bool false,.slice (some ⟨aa,0,none⟩) 8 8,.slice af D.u.length ag],true⟩] [⟨A6_,c6_,37,5,k6_,xs6_⟩]) _ _ _ from (dY.move (aD.trans aE).step immM (aD.trans aE).to')).move (Step.refl _ Nil) nilM qbk)
def DefF:Fld → Tree → Prop
 | .mk k _ _ _ _ x5 _ _,g=>x5 = 0 ∨ g.N = qbN k x5
def DefP (l:List Fld) (g:Tree):Prop:=∀ (i:Nat) (f:Fld),l[i]? = some f → DefF f (g.at_ i)
theorem qk4 {k x1 x2 x3 x4 x5 x6 n:Int} {s:List Fld} {b:Bs} {c:Bool} {l:List Tree} {u:List (Int × Bs)} (h:DefF (.mk k x1 x2 x3 x4 x5 x6 s) (.mk n b c l u)) (h1:(x5 != 0) = true) (h2:(n != qbN k x5) = true):False:=by
 have h':x5 = 0 ∨ n = qbN k x5:=h
 rcases h' with h' | h'
 ·rw [h'] at h1; simp at h1
 rw [h'] at h2; simp at h2
theorem qkb (k n:Int) (w:World):Calls Tryz.prog 48 #[.int .i64 k,.int .i64 n] w (qch w (.int .i64 (qbN k n))):=by
 refine enter (n:=31) Tryz.func48 rfl Tryz.ntmps48 kz fun a hE=>?_
 have hW:=WOk.start w Nil
 refine qap [(0,.v (.int .i64 k)),(1,.v (.int .i64 n))] hW hE fun a1 hE2=>?_
 refine wp_seq ?_
 refine qap [(1,.v (.int .i64 n)),(5,.v (.int .i64 k))] hW hE2 fun a3 hE4=>?_
 refine wp_block ?_
 refine qap [(1,.v (.int .i64 n)),(5,.v (.int .i64 k)),(6,.v (.bool (k == 0)))] hW hE4 fun a5 hE6=>?_
 refine qaz hE6 (b:=k == 0) kz (fun hc7=>?_) (fun hc7=>?_)
 ·
  have hf8:k = 0:=by simpa using hc7
  refine qap [(4,.v (.int .i64 (IntKind.i64.wrap (BitVec.ofInt 64 n &&& BitVec.ofInt 64 1).toNat)))] hW hE6 fun a9 aj=>?_
  refine wp_ret ?_
  refine qaK ?_
  refine qax ?_
  refine qaN aj hW.cells (v:=.int .i64 (IntKind.i64.wrap (BitVec.ofInt 64 n &&& BitVec.ofInt 64 1).toNat)) kz ?_
  exact ⟨by (try simp only [and1]); simp_all [qbN,qhs,qe8,qe9,qee],hW.step⟩
 have ar:k ≠ 0:=by simpa using hc7
 refine qap [(1,.v (.int .i64 n)),(5,.v (.int .i64 k)),(10,.v (.bool (k == 1)))] hW hE6 fun aC aa=>?_
 refine qaz aa (b:=k == 1) kz (fun ab=>?_) (fun ab=>?_)
 ·
  have au:k = 1:=by simpa using ab
  refine qap [(4,.v (.int .i64 (IntKind.i64.wrap (IntKind.i8.wrap n))))] hW aa fun aD ak=>?_
  refine wp_ret ?_
  refine qaK ?_
  refine qax ?_
  refine qaN ak hW.cells (v:=.int .i64 (IntKind.i64.wrap (IntKind.i8.wrap n))) kz ?_
  exact ⟨by (try simp only [and1]); simp_all [qbN,qhs,qe8,qe9,qee],hW.step⟩
 have av:k ≠ 1:=by simpa using ab
 refine qap [(1,.v (.int .i64 n)),(5,.v (.int .i64 k)),(15,.v (.bool (k == 2)))] hW aa fun aE ac=>?_
 refine qaz ac (b:=k == 2) kz (fun ae=>?_) (fun ae=>?_)
 ·
  have aw:k = 2:=by simpa using ae
  refine qap [(4,.v (.int .i64 (IntKind.i64.wrap (IntKind.i16.wrap n))))] hW ac fun aF al=>?_
  refine wp_ret ?_
  refine qaK ?_
  refine qax ?_
  refine qaN al hW.cells (v:=.int .i64 (IntKind.i64.wrap (IntKind.i16.wrap n))) kz ?_
  exact ⟨by (try simp only [and1]); simp_all [qbN,qhs,qe8,qe9,qee],hW.step⟩
 have ax:k ≠ 2:=by simpa using ae
 refine qap [(1,.v (.int .i64 n)),(5,.v (.int .i64 k)),(20,.v (.bool (k == 3)))] hW ac fun aG af=>?_
 refine qaz af (b:=k == 3) kz (fun ag=>?_) (fun ag=>?_)
 ·
  have ay:k = 3:=by simpa using ag
  refine qap [(4,.v (.int .i64 (IntKind.i64.wrap (IntKind.i32.wrap n))))] hW af fun aH am=>?_
  refine wp_ret ?_
  refine qaK ?_
  refine qax ?_
  refine qaN am hW.cells (v:=.int .i64 (IntKind.i64.wrap (IntKind.i32.wrap n))) kz ?_
  exact ⟨by (try simp only [and1]); simp_all [qbN,qhs,qe8,qe9,qee],hW.step⟩
 have az:k ≠ 3:=by simpa using ag
 refine qap [(1,.v (.int .i64 n)),(25,.v (.bool (k == 5)))] hW af fun aI ah=>?_
 refine qaz ah (b:=k == 5) kz (fun ai=>?_) (fun ai=>?_)
 ·
  have aA:k = 5:=by simpa using ai
  refine qap [(4,.v (.int .i64 (IntKind.i64.wrap (IntKind.u16.wrap n))))] hW ah fun aJ ao=>?_
  refine wp_ret ?_
  refine qaK ?_
  refine qax ?_
  refine qaN ao hW.cells (v:=.int .i64 (IntKind.i64.wrap (IntKind.u16.wrap n))) kz ?_
  exact ⟨by (try simp only [and1]); simp_all [qbN,qhs,qe8,qe9,qee],hW.step⟩
 have aB:k ≠ 5:=by simpa using ai
 refine wp_skip ?_
 refine qav ?_
 refine qaa ?_
 refine qap [(4,.v (.int .i64 n))] hW ah fun aK ap=>?_
 refine wp_ret ?_
 refine qaN ap hW.cells (v:=.int .i64 n) kz ?_
 exact ⟨by (try simp only [and1]); simp_all [qbN,qhs,qe8,qe9,qee],hW.step⟩
theorem qiJ (A:Option Addr) (c:Nat) (l:List Fld) (ct:List Value) (g:Tree) (w:World) (F:Nat → Nat → Prop) (hl:FldsR w F A c l) (ht:TreeR w F ct g) (hD:DefP l g) :
  Calls Tryz.prog 16 #[.slice A l.length c,.agg ct.toArray] w (qch w (.bool true)):=by
 obtain ⟨xfs,h1,h2⟩:=hl.ex
 have hsm:=h1.small
 obtain ⟨n1,s2,b3,l4,u5,A6,c7,A8,c9,aG,aH,bZ,rfl,rfl,b8,cd,de,dg⟩:=ht.open_
 have bQ:=b8.small
 have bR:=cd.small
 refine enter (n:=30) Tryz.func16 rfl Tryz.ntmps16 kz fun a hE=>?_
 have hW:=WOk.start w Nil
 refine qac [0,1] kz ?_
 refine qaj (qbi hW hE (d:=3) (cs:=[.int .i64 n1,.slice A6 s2.length c7,.bool b3,.slice A8 l4.length c9,.slice aG u5.length aH]) kz fun bw dh di ce cg cm ap bx=>?_)
 refine qai [1] [] [(0,.v (.slice A l.length c)),(3,.p 0 0)] ap bx fun dj bz=>?_
 refine qae (qaa ?_)
 refine wp_seq ?_
 refine qap [(3,.p 0 0),(7,.v (.slice A l.length c)),(8,.v (.int .i64 ((l.length:Nat):Int))),(9,.v (.int .i64 0))] ap bz fun dl bA=>?_
 refine wp_block ?_
 refine wp_loop_ghost (fun n_ a_ w_=>∃ (k:Nat),n_ = l.length - k ∧ k ≤ l.length ∧ LInv ap 30 [⟨bw,0,[.int .i64 n1,.slice A6 s2.length c7,.bool b3,.slice A8 l4.length c9,.slice aG u5.length aH],true⟩] [] [(3,.p 0 0),(7,.v (.slice A l.length c)),(8,.v (.int .i64 ((l.length:Nat):Int))),(9,.v (.int .i64 ((k:Nat):Int)))] a_ w_) (l.length) ⟨0,by omega,by omega,bA.pk,ap,Fr.refl _ _ _⟩ ?_
 rintro dp dq dr ⟨k,cq,cr,bB,ac,aI⟩
 refine qap [(3,.p 0 0),(7,.v (.slice A l.length c)),(8,.v (.int .i64 ((l.length:Nat):Int))),(9,.v (.int .i64 ((k:Nat):Int))),(10,.v (.bool (decide (((k:Nat):Int) < ((l.length:Nat):Int)))))] ac bB fun dt aD=>?_
 refine wp_seq ?_
 refine qaz aD (b:=decide (((k:Nat):Int) < ((l.length:Nat):Int))) kz (fun aE=>?_) (fun aE=>?_)
 ·
  have cu:=of_decide_eq_true aE
  refine wp_skip ?_
  refine qaa ?_
  refine wp_seq ?_
  refine wp_block ?_
  refine qac [0,1,2,3,4,5] kz ?_
  refine qai [0] [1,2,3,4,5] [(3,.p 0 0),(7,.v (.slice A l.length c)),(8,.v (.int .i64 ((l.length:Nat):Int))),(9,.v (.int .i64 ((k:Nat):Int))),(11,.v (.int .i64 ((k:Nat):Int)))] ac aD fun du bC=>?_
  obtain ⟨cw,cz,bD,cA,ar⟩:=Slots.get h1 (i:=k) (by omega)
  obtain ⟨cB,aJ⟩:∃ x,l[k]? = some x:=⟨_,List.getElem?_eq_getElem (by omega)⟩
  have aK:=h2 k cB aJ
  obtain ⟨af,bj,bk,bn,bo,ab,bp,bq,bt,bu,cC,rfl,au,cD,dv⟩:=aK.open_
  rw [au] at aK
  have bS:=cD.small
  rw [au] at ar
  refine qaj (qas bC (t:=29) (A:=A) (m:=l.length) (q:=((k:Nat):Int)) (d:=12) kz (e:=52) (size:=8) (bytes:=80) kz bD rfl (by omega) fun dw bE=>?_)
  refine qaj (qaD bE (t:=52) (b:=cw) (o:=cz + k * 8) (d:=13) kz (cs:=[.int .i64 af,.int .i64 bj,.int .i64 bk,.int .i64 bn,.int .i64 bo,.int .i64 ab,.int .i64 bp,.slice bt bq.length bu]) (v:=.agg #[.int .i64 af,.int .i64 bj,.int .i64 bk,.int .i64 bn,.int .i64 bo,.int .i64 ab,.int .i64 bp,.slice bt bq.length bu]) kz (AtF.move ar ac.step nilM qa1).at_ fun dx bF=>?_)
  refine qaj (qaJ ac bF (d:=6) (cs:=[.int .i64 0,.int .i64 0,.int .i64 0,.int .i64 0,.int .i64 0,.int .i64 0,.int .i64 0,.slice none 0 0]) kz fun dy dz dA cE cG aL aM bG=>?_)
  refine qai [4] [5] [(3,.p 0 0),(5,.v (.int .i64 ((k:Nat):Int))),(6,.p 1 0),(7,.v (.slice A l.length c)),(8,.v (.int .i64 ((l.length:Nat):Int))),(9,.v (.int .i64 ((k:Nat):Int))),(13,.v (.agg #[.int .i64 af,.int .i64 bj,.int .i64 bk,.int .i64 bn,.int .i64 bo,.int .i64 ab,.int .i64 bp,.slice bt bq.length bu]))] aM bG fun dB bH=>?_
  refine qaj (qam aM bH (oi:=1) (cs:=[.int .i64 af,.int .i64 bj,.int .i64 bk,.int .i64 bn,.int .i64 bo,.int .i64 ab,.int .i64 bp,.slice bt bq.length bu]) kz fun dC aN bI bJ=>?_)
  refine qae (qaa ?_)
  refine qaO 15 kz bI fun dD aO ae aF=>?_
  refine qaF [0,1,2,3] [(3,.p 0 0),(5,.v (.int .i64 ((k:Nat):Int))),(6,.p 1 0),(7,.v (.slice A l.length c)),(8,.v (.int .i64 ((l.length:Nat):Int))),(9,.v (.int .i64 ((k:Nat):Int))),(17,.v (.bool (ab != 0)))] 11 (qab (qad (qab (qab (qad (qab qaf)))))) (fun _ h=>h.cells) aF bJ fun dE aP=>?_
  refine (Bool.eq_false_or_eq_true (ab != 0)).elim (fun ag=>?_) (fun ag=>?_)
  ·
   have cH:ab ≠ 0:=by simpa using ag
   have bK:=aP.cast (env':=[(3,.p 0 0),(5,.v (.int .i64 ((k:Nat):Int))),(6,.p 1 0),(7,.v (.slice A l.length c)),(8,.v (.int .i64 ((l.length:Nat):Int))),(9,.v (.int .i64 ((k:Nat):Int))),(17,.v (.bool true))]) (by rw [ag])
   refine qaF [4,5,8,9,10,11] [(3,.p 0 0),(7,.v (.slice A l.length c)),(8,.v (.int .i64 ((l.length:Nat):Int))),(9,.v (.int .i64 ((k:Nat):Int))),(17,.v (.bool true)),(18,.v (.agg #[.int .i64 n1,.slice A6 s2.length c7,.bool b3,.slice A8 l4.length c9,.slice aG u5.length aH])),(19,.v (.int .i64 ((k:Nat):Int))),(23,.v (.int .i64 af)),(25,.v (.int .i64 ab))] 5 (qab (qad (qab (qab (qad (qab qaf)))))) (fun _ h=>h.cells) aF bK fun dF bL=>?_
   refine qaw (i:=6) kz (qak bL (f:=47) (vs:=[.agg #[.int .i64 n1,.slice A6 s2.length c7,.bool b3,.slice A8 l4.length c9,.slice aG u5.length aH],.int .i64 ((k:Nat):Int)]) (d:=20) kz Tryz.call47 (sAt _ _ k _ _ (ht.move ae.step nilM ae.imm)) ?_)
   rintro e_ cI ⟨bT,rfl,aQ,ah⟩
   have av:=aQ.move ah nilM (fun b o h_ hb_=>ae.laid (G:=F) ah b o (.inl h_) (Nat.lt_of_lt_of_le hb_ ah.size))
   obtain ⟨ai,cJ,cK,cL,cM,cN,cO,cP,cQ,cR,cS,bU,aR,aj,bM,bN,cT,cU⟩:=av.open_
   rw [aj] at av
   have bO:=bM.small
   have bP:=bN.small
   rw [aj]
   refine ⟨_,rfl,fun cV aS=>?_⟩
   have ak:=ae.next_nil ah
   have al:=ae.frN ah
   have hq_:=hD k _ aJ
   rw [aR] at hq_
   have aw:=TT.ofW al ak
   refine ⟨fun _=>aw,?_⟩
   refine qaF [7] [(3,.p 0 0),(7,.v (.slice A l.length c)),(8,.v (.int .i64 ((l.length:Nat):Int))),(9,.v (.int .i64 ((k:Nat):Int))),(17,.v (.bool true)),(21,.v (.int .i64 ai)),(23,.v (.int .i64 af)),(25,.v (.int .i64 ab))] 3 (qab (qad (qab (qab (qad (qab qaf)))))) (fun _ h=>h.cells) aw aS fun cW aT=>?_
   refine qaw (i:=12) kz (qak aT (f:=48) (vs:=[.int .i64 af,.int .i64 ab]) (d:=26) kz Tryz.call48 (qkb af ab _) ?_)
   rintro e_ cX ⟨rfl,ax⟩
   refine ⟨_,rfl,fun cY aU=>?_⟩
   have aa:=ak.next_nil ax
   have ay:=ak.frN ax
   have az:=TT.ofW (al.trans ay) aa
   refine ⟨fun _=>az,?_⟩
   refine qaF [13,14] [(3,.p 0 0),(7,.v (.slice A l.length c)),(8,.v (.int .i64 ((l.length:Nat):Int))),(9,.v (.int .i64 ((k:Nat):Int))),(28,.v (.bool (ai != (qbN af ab))))] 0 (qab (qad (qab (qab (qad (qab qaf)))))) (fun _ h=>h.cells) az aU fun cZ am=>?_
   refine qaE kz ?_ _
   refine qaa ?_
   refine qaz am (b:=ai != (qbN af ab)) kz (fun ao=>?_) (fun ao=>?_)
   ·
    have bV:ai ≠ (qbN af ab):=by simpa using ao
    refine qap [(4,.v (.bool false))] aa am fun c5 aV=>?_
    refine wp_ret ?_
    refine qaK ?_
    refine qax ?_
    refine qax ?_
    refine qaK ?_
    refine qax ?_
    refine qaN aV aa.cells (v:=.bool false) kz ?_
    exact (qk4 hq_ ‹_› ‹_›).elim
   have bW:ai = (qbN af ab):=by simpa using ao
   refine wp_skip ?_
   refine qav ?_
   refine qaa ?_
   refine qaq [0,1] kz ?_
   refine qai [0,1] [] [(3,.p 0 0),(7,.v (.slice A l.length c)),(8,.v (.int .i64 ((l.length:Nat):Int))),(9,.v (.int .i64 (IntKind.i64.wrap (((k:Nat):Int) + 1))))] aa am fun c6 aW=>?_
   refine qae (qaa ?_)
   obtain ⟨aA,aX,aY⟩:=aa.cutB aW 1 [⟨bw,0,[.int .i64 n1,.slice A6 s2.length c7,.bool b3,.slice A8 l4.length c9,.slice aG u5.length aH],true⟩] [(3,.p 0 0),(7,.v (.slice A l.length c)),(8,.v (.int .i64 ((l.length:Nat):Int))),(9,.v (.int .i64 (IntKind.i64.wrap (((k:Nat):Int) + 1))))]
   have aZ:IntKind.i64.wrap (((k:Nat):Int) + 1) = ((k + 1:Nat):Int):=qaW (by omega)
   rw [aZ] at aA
   exact ⟨l.length - (k + 1),by omega,k + 1,rfl,by omega,aA.pk,aX,((((((aI.trans aL).trans aN).trans aO).trans al).trans ay).trans aY)⟩
  have bX:ab = 0:=by simpa using ag
  have ba:=aP.cast (env':=[(3,.p 0 0),(5,.v (.int .i64 ((k:Nat):Int))),(6,.p 1 0),(7,.v (.slice A l.length c)),(8,.v (.int .i64 ((l.length:Nat):Int))),(9,.v (.int .i64 ((k:Nat):Int))),(17,.v (.bool false))]) (by rw [ag])
  refine qaF [4,5,6,7,8,9,10,11,12,13,14] [(3,.p 0 0),(7,.v (.slice A l.length c)),(8,.v (.int .i64 ((l.length:Nat):Int))),(9,.v (.int .i64 ((k:Nat):Int))),(28,.v (.bool false))] 0 (qab (qad (qab (qab (qad (qab qaf)))))) (fun _ h=>h.cells) aF ba fun da aB=>?_
  refine qaE kz ?_ _
  refine qaa ?_
  refine qar aB (b:=false) kz rfl ?_
  refine wp_skip ?_
  refine qav ?_
  refine qaa ?_
  refine qaq [0,1] kz ?_
  refine qai [0,1] [] [(3,.p 0 0),(7,.v (.slice A l.length c)),(8,.v (.int .i64 ((l.length:Nat):Int))),(9,.v (.int .i64 (IntKind.i64.wrap (((k:Nat):Int) + 1))))] ae aB fun db bd=>?_
  refine qae (qaa ?_)
  obtain ⟨aC,bf,bg⟩:=ae.cutB bd 1 [⟨bw,0,[.int .i64 n1,.slice A6 s2.length c7,.bool b3,.slice A8 l4.length c9,.slice aG u5.length aH],true⟩] [(3,.p 0 0),(7,.v (.slice A l.length c)),(8,.v (.int .i64 ((l.length:Nat):Int))),(9,.v (.int .i64 (IntKind.i64.wrap (((k:Nat):Int) + 1))))]
  have bh:IntKind.i64.wrap (((k:Nat):Int) + 1) = ((k + 1:Nat):Int):=qaW (by omega)
  rw [bh] at aC
  exact ⟨l.length - (k + 1),by omega,k + 1,rfl,by omega,aC.pk,bf,((((aI.trans aL).trans aN).trans aO).trans bg)⟩
 have bY:=of_decide_eq_false aE
 refine wp_exit ?_
 refine qau ?_
 refine qau ?_
 refine qaM ?_
 refine qaa ?_
 refine qap [(4,.v (.bool true))] ac aD fun dc bi=>?_
 refine wp_ret ?_
 refine qaN bi ac.cells (v:=.bool true) kz ?_
 exact ⟨rfl,ac.step⟩
def qaY (D:DV):DV:=dvP D.m D.u [D.f 0,D.f 1,D.f 2,dvN (1),D.f 4,dvN (-1),D.f 6,dvN (-2147483648)]
theorem qct {v:World} {F:Nat → Nat → Prop} {D:DV} (h:qaT v F D):qaT v F (qaY D):=by
 unfold qaT at h
 obtain ⟨g0,g1,g2,g3,g4,g5,g6,g7,t1,t2,t3,_⟩:=h
 exact ⟨g0,g1,g2,g3,g4,g5,g6,g7,t1,t2,t3,trivial⟩
theorem qcu (D:DV):DefP sDescribeClusterResponseF (qa3 (qaY D)):=by
 intro i f hf
 match i,hf with
 | 0,hf =>
  obtain rfl:=Option.some.inj hf
  exact .inl rfl
 | 1,hf =>
  obtain rfl:=Option.some.inj hf
  exact .inl rfl
 | 2,hf =>
  obtain rfl:=Option.some.inj hf
  exact .inl rfl
 | 3,hf =>
  obtain rfl:=Option.some.inj hf
  exact .inr (show IntKind.i64.wrap (1) = qbN 1 (1) from by decide)
 | 4,hf =>
  obtain rfl:=Option.some.inj hf
  exact .inl rfl
 | 5,hf =>
  obtain rfl:=Option.some.inj hf
  exact .inr (show IntKind.i64.wrap (-1) = qbN 3 (-1) from by decide)
 | 6,hf =>
  obtain rfl:=Option.some.inj hf
  exact .inl rfl
 | 7,hf =>
  obtain rfl:=Option.some.inj hf
  exact .inr (show IntKind.i64.wrap (-2147483648) = qbN 3 (-2147483648) from by decide)
 | n_ + 8,hf=>exact absurd (List.getElem?_eq_some_iff.1 hf).1 (by show ¬ n_ + 8 < 8; omega)
set_option maxHeartbeats 4000000 in
theorem qcI (v:Int) (T:Tree) {A2:Option Addr} {c2:Nat} {w:World} {F:Nat → Nat → Prop} (hs_:Octs w F A2 c2 (qag (IntKind.i16.wrap v) T)) (hc:qaX T) (hkey:T.ranged) (hroom:(qag (IntKind.i16.wrap v) T).length + 16 ≤ 1099511627776) :
  Calls Tryz.prog 20 #[.int .i64 v,.slice A2 (qag (IntKind.i16.wrap v) T).length c2] w (fun e w'=>∃ D cs,e = .returned (.tuple #[.agg cs.toArray,.bool true]) ∧ TreeR w' (Fp NoF w) cs (qa3 (qaY D)) ∧ Step w w' Nil):=by
 refine enter (n:=22) Tryz.func20 rfl Tryz.ntmps20 kz fun a hE=>?_
 have hW:=WOk.start w Nil
 have hsm2:=Slots.small hs_
 refine qac [0,1] kz ?_
 refine qaj (qaJ hW hE (d:=4) (cs:=[.int .i64 0,.slice none 0 0,.bool false,.slice none 0 0,.slice none 0 0]) kz fun b1 a2 w3 hb4 hz5 hF6 hW7 hE8=>?_)
 refine qai [1] [] [(0,.v (.int .i64 v)),(1,.v (.slice A2 ((qag (IntKind.i16.wrap v) T).length) c2)),(4,.p 0 0)] hW7 hE8 fun a9 bE=>?_
 refine qae (qaa ?_)
 refine qac [0,1] kz ?_
 refine qaj (qbo bE (f:=49) (vs:=[]) (d:=7) (n':=3) kz Tryz.call49 Tryz.func49 rfl Tryz.ntmps49 kz fun dD bF=>?_)
 refine qap [] hW7 bF fun dE bG=>?_
 refine qac [0] kz ?_
 refine qaj (qaJ hW7 bG (d:=1) (cs:=[.int .i16 0,.int .i32 0,.int .i16 0,.pointer none,.int .i8 0,.string ByteArray.empty,.int .i32 0,.slice none 0 0,.int .i32 0,.map none]) kz fun ab dF dG cU cV cW aP bH=>?_)
 refine qae (qaa ?_)
 refine qac [0] kz ?_
 refine qaj (qbo bH (f:=54) (vs:=[.pointer (some ⟨ab,0,none⟩)]) (d:=2) (n':=11) kz Tryz.call54 Tryz.func54 rfl Tryz.ntmps54 kz fun dH bI=>?_)
 have bJ:=bI.recast 0 (.v (.pointer (some ⟨ab,0,none⟩))) (.p 1 0) rfl rfl (Nat.le_of_ble_eq_true (n:=2) rfl)
 refine qac [0,1,2,3] kz ?_
 refine qai [0,1,2] [3] [(0,.p 1 0),(4,.p 1 4)] aP bJ fun dI bK=>?_
 refine qaj (qam aP bK (oi:=1) (cs:=[.int .i16 0,.int .i32 0,.int .i16 0,.pointer none,.int .i8 1,.string ByteArray.empty,.int .i32 0,.slice none 0 0,.int .i32 0,.map none]) kz fun dJ cX aQ bL=>?_)
 refine qae (qaa ?_)
 refine qac [0,1,2,3] kz ?_
 refine qai [0,1,2] [3] [(0,.p 1 0),(7,.p 1 6)] aQ bL fun dK bM=>?_
 refine qaj (qam aQ bM (oi:=1) (cs:=[.int .i16 0,.int .i32 0,.int .i16 0,.pointer none,.int .i8 1,.string ByteArray.empty,.int .i32 (-1),.slice none 0 0,.int .i32 0,.map none]) kz fun dL cY aR bN=>?_)
 refine qae (qaa ?_)
 refine qaq [0,1,2,3] kz ?_
 refine qai [0,1,2] [3] [(10,.p 1 8)] aR bN fun dM bO=>?_
 refine qaj (qam aR bO (oi:=1) (cs:=[.int .i16 0,.int .i32 0,.int .i16 0,.pointer none,.int .i8 1,.string ByteArray.empty,.int .i32 (-1),.slice none 0 0,.int .i32 (-2147483648),.map none]) kz fun dN cZ ae bP=>?_)
 refine qae ?_
 refine qbB bP ae.cells (v:=.tuple #[]) kz ?_
 refine ⟨_,rfl,fun dO bQ=>?_⟩
 have bR:EnvOk 3 [⟨b1,0,[.int .i64 0,.slice none 0 0,.bool false,.slice none 0 0,.slice none 0 0],true⟩,⟨ab,0,[.int .i16 0,.int .i32 0,.int .i16 0,.pointer none,.int .i8 1,.string ByteArray.empty,.int .i32 (-1),.slice none 0 0,.int .i32 (-2147483648),.map none],true⟩] [(2,.v (.tuple #[])),(1,.p 1 0)] _:=bQ.places (⟨rfl,rfl,⟨rfl,rfl,trivial⟩⟩)
 refine qae (qaa ?_)
 refine qap [(0,.p 1 0)] ae bR fun dP bS=>?_
 refine wp_ret ?_
 refine qaN bS ae.cells (v:=.pointer (some ⟨ab,0,none⟩)) kz ?_
 refine ⟨_,rfl,fun dQ bT=>?_⟩
 have bU:EnvOk 22 [⟨b1,0,[.int .i64 0,.slice none 0 0,.bool false,.slice none 0 0,.slice none 0 0],true⟩,⟨ab,0,[.int .i16 0,.int .i32 0,.int .i16 0,.pointer none,.int .i8 1,.string ByteArray.empty,.int .i32 (-1),.slice none 0 0,.int .i32 (-2147483648),.map none],true⟩] [(7,.v (.pointer (some ⟨ab,0,none⟩))),(0,.v (.int .i64 v)),(1,.v (.slice A2 ((qag (IntKind.i16.wrap v) T).length) c2)),(4,.p 0 0)] _:=bT.places (⟨rfl,rfl,trivial⟩)
 have bV:=bU.recast 7 (.v (.pointer (some ⟨ab,0,none⟩))) (.p 1 0) rfl rfl (Nat.le_of_ble_eq_true (n:=2) rfl)
 have bW:=bV.pick (ks:=[0,1,4,7]) (env':=[(0,.v (.int .i64 v)),(1,.v (.slice A2 ((qag (IntKind.i16.wrap v) T).length) c2)),(4,.p 0 0),(7,.p 1 0)]) kz
 refine qai [1] [] [(0,.v (.int .i64 v)),(1,.v (.slice A2 ((qag (IntKind.i16.wrap v) T).length) c2)),(4,.p 0 0),(6,.p 1 0)] ae bW fun dR bX=>?_
 refine qae (qaa ?_)
 refine qac [0,1,2,3] kz ?_
 refine qai [0,1,2] [3] [(1,.v (.slice A2 ((qag (IntKind.i16.wrap v) T).length) c2)),(4,.p 0 0),(6,.p 1 0),(8,.p 1 0),(10,.v (.int .i16 (IntKind.i16.wrap v)))] ae bX fun dS bY=>?_
 refine qaj (qbo bY (f:=52) (vs:=[.pointer (some ⟨ab,0,none⟩),.int .i16 (IntKind.i16.wrap v)]) (d:=11) (n':=8) kz Tryz.call52 Tryz.func52 rfl Tryz.ntmps52 kz fun dT bZ=>?_)
 have b8:=bZ.recast 0 (.v (.pointer (some ⟨ab,0,none⟩))) (.p 1 0) rfl rfl (Nat.le_of_ble_eq_true (n:=2) rfl)
 refine qaq [0,1,2,3,4] kz ?_
 refine qai [0,1,2,3] [4] [(5,.v (.int .i16 (IntKind.i16.wrap v))),(7,.p 1 0)] ae b8 fun dU cd=>?_
 refine qaj (qam ae cd (oi:=1) (cs:=[.int .i16 (IntKind.i16.wrap v),.int .i32 0,.int .i16 0,.pointer none,.int .i8 1,.string ByteArray.empty,.int .i32 (-1),.slice none 0 0,.int .i32 (-2147483648),.map none]) kz fun dV c5 ap ce=>?_)
 refine qae ?_
 refine qbB ce ap.cells (v:=.tuple #[]) kz ?_
 refine ⟨_,rfl,fun dW cg=>?_⟩
 have cm:EnvOk 22 [⟨b1,0,[.int .i64 0,.slice none 0 0,.bool false,.slice none 0 0,.slice none 0 0],true⟩,⟨ab,0,[.int .i16 (IntKind.i16.wrap v),.int .i32 0,.int .i16 0,.pointer none,.int .i8 1,.string ByteArray.empty,.int .i32 (-1),.slice none 0 0,.int .i32 (-2147483648),.map none],true⟩] [(11,.v (.tuple #[])),(1,.v (.slice A2 ((qag (IntKind.i16.wrap v) T).length) c2)),(4,.p 0 0),(6,.p 1 0),(8,.p 1 0),(10,.v (.int .i16 (IntKind.i16.wrap v)))] _:=cg.places (⟨rfl,rfl,⟨rfl,rfl,trivial⟩⟩)
 refine qae (qaa ?_)
 refine wp_seq ?_
 refine qac [0,1,2,3,4] kz ?_
 refine qai [0,1] [2,3,4] [(4,.p 0 0),(6,.p 1 0),(12,.p 1 0),(13,.v (.slice A2 ((qag (IntKind.i16.wrap v) T).length) c2))] ap cm fun dX cq=>?_
 have ai:=ap.addNil 5 1
 have c6:=ap.frNil 5 1
 refine qaj (qaQ ai cq (k:=0) (d:=14) (t:=22) (e:=5) (size:=1) (bytes:=1) (A:=none) (As:=A2) (m0:=0) (c:=0) (m:=((qag (IntKind.i16.wrap v) T).length)) (cs:=c2) (xs:=[]) (news:=bc (qag (IntKind.i16.wrap v) T)) kz kz rfl (hs_.move ai.step nilM ai.imm).src (hs_.move ai.step nilM ai.imm).cap (by first | omega | (simp only [List.length_nil]; omega) | (simp; omega)) fun ag ah dY dZ da cr cu=>?_)
 have cw:(⟨ag,ah,5,1,0 + (qag (IntKind.i16.wrap v) T).length,[] ++ bc (qag (IntKind.i16.wrap v) T)⟩:Rw) = brow ag ah 5 (qag (IntKind.i16.wrap v) T):=by rw [List.nil_append,Nat.zero_add]
 obtain ⟨ar,db⟩:=cr.rowEq 0 [brow ag ah 5 (qag (IntKind.i16.wrap v) T)] cw
 have cz:=EnvOk.pick cu (ks:=[4,6,12,13,14]) (env':=[(4,.p 0 0),(6,.p 1 0),(12,.p 1 0),(13,.v (.slice A2 ((qag (IntKind.i16.wrap v) T).length) c2)),(14,.v (.slice ag (0 + (qag (IntKind.i16.wrap v) T).length) ah))]) kz
 have cA:=cz.cast (env':=[(4,.p 0 0),(6,.p 1 0),(12,.p 1 0),(13,.v (.slice A2 ((qag (IntKind.i16.wrap v) T).length) c2)),(14,.v (.slice ag ((qag (IntKind.i16.wrap v) T).length) ah))]) (by simp only [List.length_append,List.length_cons,List.length_nil,Nat.zero_add])
 refine qaj (qbo cA (f:=53) (vs:=[.pointer (some ⟨ab,0,none⟩),.slice ag ((qag (IntKind.i16.wrap v) T).length) ah]) (d:=15) (n':=8) kz Tryz.call53 Tryz.func53 rfl Tryz.ntmps53 kz fun d5 cB=>?_)
 have cC:=cB.recast 0 (.v (.pointer (some ⟨ab,0,none⟩))) (.p 1 0) rfl rfl (Nat.le_of_ble_eq_true (n:=2) rfl)
 refine qap [(0,.p 1 0),(1,.v (.slice ag ((qag (IntKind.i16.wrap v) T).length) ah))] ar cC fun d6 cD=>?_
 refine qac [0,1,2,3] kz ?_
 refine qai [0,1] [2,3] [(5,.p 1 0),(6,.v (.slice ag ((qag (IntKind.i16.wrap v) T).length) ah))] ar cD fun d7 cE=>?_
 have cG:=ar.giveUp (G:=NoF) 0 [] (show _ = some (brow ag ah 5 (qag (IntKind.i16.wrap v) T)) from rfl) (by omega)
 obtain ⟨aS,dc⟩:=ar.cutR 0 []
 refine qaj (qak cE (f:=109) (vs:=[.pointer (some ⟨ab,0,none⟩),.slice ag ((qag (IntKind.i16.wrap v) T).length) ah,.bool false]) (d:=7) kz Tryz.call109 (qcG (IntKind.i16.wrap v) T (Str.of aS 1 rfl) cG (qj3 1 rfl) hc hkey) ?_)
 rintro e_ d8 ⟨aa,rfl,cH,cI,cO,aC⟩
 obtain ⟨ac,cP,aT⟩:=aS.wrote 1 [⟨b1,0,[.int .i64 0,.slice none 0 0,.bool false,.slice none 0 0,.slice none 0 0],true⟩,⟨ab,0,[.int .i16 (IntKind.i16.wrap v),.int .i32 ((aa.f 0).n),.int .i16 ((aa.f 1).n),.pointer ((aa.f 2).A),.int .i8 ((aa.f 3).n),.string ((aa.f 4).s),.int .i32 ((aa.f 5).n),.slice ((aa.f 6).A) ((aa.f 6).l) ((aa.f 6).c),.int .i32 ((aa.f 7).n),.map aa.m],true⟩] rfl aC cH
 have aU:=qbT _ (Step.refl _ Nil) nilM aT cI
 refine ⟨_,rfl,fun de aV=>?_⟩
 have aW:=(EnvOk.places (tb':=[⟨b1,0,[.int .i64 0,.slice none 0 0,.bool false,.slice none 0 0,.slice none 0 0],true⟩,⟨ab,0,[.int .i16 (IntKind.i16.wrap v),.int .i32 ((aa.f 0).n),.int .i16 ((aa.f 1).n),.pointer ((aa.f 2).A),.int .i8 ((aa.f 3).n),.string ((aa.f 4).s),.int .i32 ((aa.f 5).n),.slice ((aa.f 6).A) ((aa.f 6).l) ((aa.f 6).c),.int .i32 ((aa.f 7).n),.map aa.m],true⟩]) aV (show Pl [⟨b1,0,[.int .i64 0,.slice none 0 0,.bool false,.slice none 0 0,.slice none 0 0],true⟩,⟨ab,0,[.int .i16 (IntKind.i16.wrap v),.int .i32 0,.int .i16 0,.pointer none,.int .i8 1,.string ByteArray.empty,.int .i32 (-1),.slice none 0 0,.int .i32 (-2147483648),.map none],true⟩] [⟨b1,0,[.int .i64 0,.slice none 0 0,.bool false,.slice none 0 0,.slice none 0 0],true⟩,⟨ab,0,[.int .i16 (IntKind.i16.wrap v),.int .i32 ((aa.f 0).n),.int .i16 ((aa.f 1).n),.pointer ((aa.f 2).A),.int .i8 ((aa.f 3).n),.string ((aa.f 4).s),.int .i32 ((aa.f 5).n),.slice ((aa.f 6).A) ((aa.f 6).l) ((aa.f 6).c),.int .i32 ((aa.f 7).n),.map aa.m],true⟩] from ⟨rfl,rfl,⟨rfl,rfl,trivial⟩⟩)).pk (env':=[(7,.v (.nilIface)),(5,.p 1 0),(6,.v (.slice ag ((qag (IntKind.i16.wrap v) T).length) ah))])
 refine qai [3] [] [(4,.v (.nilIface))] ac aW fun dg aX=>?_
 refine qae (qaa ?_)
 refine wp_ret ?_
 refine qaN aX ac.cells (v:=.nilIface) kz ?_
 refine ⟨_,rfl,fun dh aY=>?_⟩
 have aZ:EnvOk 22 [⟨b1,0,[.int .i64 0,.slice none 0 0,.bool false,.slice none 0 0,.slice none 0 0],true⟩,⟨ab,0,[.int .i16 (IntKind.i16.wrap v),.int .i32 ((aa.f 0).n),.int .i16 ((aa.f 1).n),.pointer ((aa.f 2).A),.int .i8 ((aa.f 3).n),.string ((aa.f 4).s),.int .i32 ((aa.f 5).n),.slice ((aa.f 6).A) ((aa.f 6).l) ((aa.f 6).c),.int .i32 ((aa.f 7).n),.map aa.m],true⟩] [(15,.v (.nilIface)),(4,.p 0 0),(6,.p 1 0),(12,.p 1 0),(13,.v (.slice A2 ((qag (IntKind.i16.wrap v) T).length) c2)),(14,.v (.slice ag ((qag (IntKind.i16.wrap v) T).length) ah))] _:=aY.places (⟨rfl,rfl,⟨rfl,rfl,trivial⟩⟩)
 refine qai [4] [] [(4,.p 0 0),(6,.p 1 0),(16,.v (.bool false))] ac aZ fun di au=>?_
 refine qae (qaa ?_)
 refine qar au (b:=false) kz rfl ?_
 refine wp_skip ?_
 refine qaa ?_
 refine qac [0,1] kz ?_
 refine qai [0] [1] [(4,.p 0 0),(6,.p 1 0),(18,.p 1 0)] ac au fun dj ba=>?_
 refine qaj (qbo ba (f:=54) (vs:=[.pointer (some ⟨ab,0,none⟩)]) (d:=19) (n':=11) kz Tryz.call54 Tryz.func54 rfl Tryz.ntmps54 kz fun dl bd=>?_)
 have bf:=bd.recast 0 (.v (.pointer (some ⟨ab,0,none⟩))) (.p 1 0) rfl rfl (Nat.le_of_ble_eq_true (n:=2) rfl)
 refine qac [0,1,2,3] kz ?_
 refine qai [0,1,2] [3] [(0,.p 1 0),(4,.p 1 4)] ac bf fun dp bg=>?_
 refine qaj (qam ac bg (oi:=1) (cs:=[.int .i16 (IntKind.i16.wrap v),.int .i32 ((aa.f 0).n),.int .i16 ((aa.f 1).n),.pointer ((aa.f 2).A),.int .i8 1,.string ((aa.f 4).s),.int .i32 ((aa.f 5).n),.slice ((aa.f 6).A) ((aa.f 6).l) ((aa.f 6).c),.int .i32 ((aa.f 7).n),.map aa.m]) kz fun dq av aw bh=>?_)
 refine qae (qaa ?_)
 refine qac [0,1,2,3] kz ?_
 refine qai [0,1,2] [3] [(0,.p 1 0),(7,.p 1 6)] aw bh fun dr bi=>?_
 refine qaj (qam aw bi (oi:=1) (cs:=[.int .i16 (IntKind.i16.wrap v),.int .i32 ((aa.f 0).n),.int .i16 ((aa.f 1).n),.pointer ((aa.f 2).A),.int .i8 1,.string ((aa.f 4).s),.int .i32 (-1),.slice ((aa.f 6).A) ((aa.f 6).l) ((aa.f 6).c),.int .i32 ((aa.f 7).n),.map aa.m]) kz fun dt ax ay bj=>?_)
 refine qae (qaa ?_)
 refine qaq [0,1,2,3] kz ?_
 refine qai [0,1,2] [3] [(10,.p 1 8)] ay bj fun du bk=>?_
 refine qaj (qam ay bk (oi:=1) (cs:=[.int .i16 (IntKind.i16.wrap v),.int .i32 ((aa.f 0).n),.int .i16 ((aa.f 1).n),.pointer ((aa.f 2).A),.int .i8 1,.string ((aa.f 4).s),.int .i32 (-1),.slice ((aa.f 6).A) ((aa.f 6).l) ((aa.f 6).c),.int .i32 (-2147483648),.map aa.m]) kz fun dv az af bn=>?_)
 refine qae ?_
 refine qbB bn af.cells (v:=.tuple #[]) kz ?_
 refine ⟨_,rfl,fun dw bo=>?_⟩
 have bp:EnvOk 22 [⟨b1,0,[.int .i64 0,.slice none 0 0,.bool false,.slice none 0 0,.slice none 0 0],true⟩,⟨ab,0,[.int .i16 (IntKind.i16.wrap v),.int .i32 ((aa.f 0).n),.int .i16 ((aa.f 1).n),.pointer ((aa.f 2).A),.int .i8 1,.string ((aa.f 4).s),.int .i32 (-1),.slice ((aa.f 6).A) ((aa.f 6).l) ((aa.f 6).c),.int .i32 (-2147483648),.map aa.m],true⟩] [(19,.v (.tuple #[])),(4,.p 0 0),(6,.p 1 0),(18,.p 1 0)] _:=bo.places (⟨rfl,rfl,⟨rfl,rfl,trivial⟩⟩)
 refine qae (qaa ?_)
 refine qac [0,1,2,3] kz ?_
 refine qai [0] [1,2,3] [(4,.p 0 0),(20,.p 1 0)] af bp fun dx bq=>?_
 have bt:=bq.recast 20 (.p 1 0) (.v (.pointer (some ⟨ab,0,none⟩))) rfl rfl trivial
 have bu:=bt.pk (env':=[(4,.p 0 0),(20,.v (.pointer (some ⟨ab,0,none⟩)))])
 have aD:=WOk.strOut (G:=NoF) [⟨b1,0,[.int .i64 0,.slice none 0 0,.bool false,.slice none 0 0,.slice none 0 0],true⟩] af
 obtain ⟨bw,aj,aA⟩:=af.cutB bu 1 [⟨b1,0,[.int .i64 0,.slice none 0 0,.bool false,.slice none 0 0,.slice none 0 0],true⟩] [(4,.p 0 0),(20,.v (.pointer (some ⟨ab,0,none⟩)))]
 have bx:=qct (qbT _ (((av.trans ax).trans az).trans aA).step immM (((av.trans ax).trans az).trans aA).to' aU)
 refine qaj (qak bw (f:=55) (vs:=[.pointer (some ⟨ab,0,none⟩)]) (d:=21) kz Tryz.call55 (qcH (IntKind.i16.wrap v) (qaY aa) ab 0 _ _ aD bx) ?_)
 rintro e_ dy ⟨cQ,rfl,bz,ak⟩
 have al:=bz.move (Step.refl _ Nil) nilM (aj.laid (G:=NoF) ak)
 obtain ⟨aE,aF,aG,aH,aI,aJ,aK,aL,aM,aN,aO,cR,cS,am,cJ,cK,dz,dA⟩:=al.open_
 rw [am] at al
 have cL:=cJ.small
 have cM:=cK.small
 rw [am]
 refine ⟨_,rfl,fun dB bA=>?_⟩
 have bB:=aj.next_nil ak
 have cT:=aj.frN ak
 refine qaj (qam bB bA (oi:=0) (cs:=[.int .i64 aE,.slice aJ aF.length aK,.bool aG,.slice aL aH.length aM,.slice aN aI.length aO]) kz fun cN aB ao bC=>?_)
 refine qai [3] [] [(4,.p 0 0),(5,.v (.bool true))] ao bC fun dC bD=>?_
 refine qae (qaa ?_)
 refine wp_ret ?_
 refine qaN bD ao.cells (v:=.tuple #[.agg #[.int .i64 aE,.slice aJ aF.length aK,.bool aG,.slice aL aH.length aM,.slice aN aI.length aO],.bool true]) kz ?_
 exact ⟨aa,_,rfl,(show TreeR _ (Imm NoF w cN [⟨b1,0,[.int .i64 aE,.slice aJ aF.length aK,.bool aG,.slice aL aH.length aM,.slice aN aI.length aO],true⟩] []) _ (qa3 (qaY aa)) from (al.move aB.step immM aB.to')).move (Step.refl _ Nil) nilM qbk,ao.step⟩
theorem qcv (v:Int) (T:Tree) (B:Bs) {A2:Option Addr} {c2:Nat} {w:World} {F:Nat → Nat → Prop} (hB:qag (IntKind.i16.wrap v) T = B) (hs_:Octs w F A2 c2 B) (hc:qaX T) (hkey:T.ranged) (hroom:B.length + 16 ≤ 1099511627776) :
  Calls Tryz.prog 20 #[.int .i64 v,.slice A2 B.length c2] w (fun e w'=>∃ D cs,e = .returned (.tuple #[.agg cs.toArray,.bool true]) ∧ TreeR w' (Fp NoF w) cs (qa3 (qaY D)) ∧ Step w w' Nil):=by
 subst hB
 exact qcI v T hs_ hc hkey hroom
theorem qcQ (w:World):Calls Tryz.prog 18 #[] w (qch w (.int .i64 2)):=by
 refine enter (n:=4) Tryz.func18 rfl Tryz.ntmps18 kz fun a hE=>?_
 have hW:=WOk.start w Nil
 refine qap [] hW hE fun a1 hE2=>?_
 refine qac [0,1,2,3] kz ?_
 refine qaj (qbo hE2 (f:=49) (vs:=[]) (d:=1) (n':=3) kz Tryz.call49 Tryz.func49 rfl Tryz.ntmps49 kz fun a3 hE4=>?_)
 refine qap [] hW hE4 fun a5 hE6=>?_
 refine qac [0] kz ?_
 refine qaj (qaJ hW hE6 (d:=1) (cs:=[.int .i16 0,.int .i32 0,.int .i16 0,.pointer none,.int .i8 0,.string ByteArray.empty,.int .i32 0,.slice none 0 0,.int .i32 0,.map none]) kz fun b7 a8 w9 aG aH aI ab af=>?_)
 refine qae (qaa ?_)
 refine qac [0] kz ?_
 refine qaj (qbo af (f:=54) (vs:=[.pointer (some ⟨b7,0,none⟩)]) (d:=2) (n':=11) kz Tryz.call54 Tryz.func54 rfl Tryz.ntmps54 kz fun aM ag=>?_)
 have ah:=ag.recast 0 (.v (.pointer (some ⟨b7,0,none⟩))) (.p 0 0) rfl rfl (Nat.le_of_ble_eq_true (n:=1) rfl)
 refine qac [0,1,2,3] kz ?_
 refine qai [0,1,2] [3] [(0,.p 0 0),(4,.p 0 4)] ab ah fun aN ai=>?_
 refine qaj (qam ab ai (oi:=0) (cs:=[.int .i16 0,.int .i32 0,.int .i16 0,.pointer none,.int .i8 1,.string ByteArray.empty,.int .i32 0,.slice none 0 0,.int .i32 0,.map none]) kz fun aO aJ ac aj=>?_)
 refine qae (qaa ?_)
 refine qac [0,1,2,3] kz ?_
 refine qai [0,1,2] [3] [(0,.p 0 0),(7,.p 0 6)] ac aj fun aP ak=>?_
 refine qaj (qam ac ak (oi:=0) (cs:=[.int .i16 0,.int .i32 0,.int .i16 0,.pointer none,.int .i8 1,.string ByteArray.empty,.int .i32 (-1),.slice none 0 0,.int .i32 0,.map none]) kz fun aQ aK ae al=>?_)
 refine qae (qaa ?_)
 refine qaq [0,1,2,3] kz ?_
 refine qai [0,1,2] [3] [(10,.p 0 8)] ae al fun aR am=>?_
 refine qaj (qam ae am (oi:=0) (cs:=[.int .i16 0,.int .i32 0,.int .i16 0,.pointer none,.int .i8 1,.string ByteArray.empty,.int .i32 (-1),.slice none 0 0,.int .i32 (-2147483648),.map none]) kz fun aS aL aa ao=>?_)
 refine qae ?_
 refine qbB ao aa.cells (v:=.tuple #[]) kz ?_
 refine ⟨_,rfl,fun aT ap=>?_⟩
 have ar:EnvOk 3 [⟨b7,0,[.int .i16 0,.int .i32 0,.int .i16 0,.pointer none,.int .i8 1,.string ByteArray.empty,.int .i32 (-1),.slice none 0 0,.int .i32 (-2147483648),.map none],true⟩] [(2,.v (.tuple #[])),(1,.p 0 0)] _:=ap.places (⟨rfl,rfl,trivial⟩)
 refine qae (qaa ?_)
 refine qap [(0,.p 0 0)] aa ar fun aU au=>?_
 refine wp_ret ?_
 refine qaN au aa.cells (v:=.pointer (some ⟨b7,0,none⟩)) kz ?_
 refine ⟨_,rfl,fun aV av=>?_⟩
 have aw:EnvOk 4 [⟨b7,0,[.int .i16 0,.int .i32 0,.int .i16 0,.pointer none,.int .i8 1,.string ByteArray.empty,.int .i32 (-1),.slice none 0 0,.int .i32 (-2147483648),.map none],true⟩] [(1,.v (.pointer (some ⟨b7,0,none⟩)))] _:=av.places (trivial)
 have ax:=aw.recast 1 (.v (.pointer (some ⟨b7,0,none⟩))) (.p 0 0) rfl rfl (Nat.le_of_ble_eq_true (n:=1) rfl)
 have ay:=ax.pick (ks:=[1]) (env':=[(1,.p 0 0)]) kz
 refine qaj (qbo ay (f:=50) (vs:=[.pointer (some ⟨b7,0,none⟩)]) (d:=2) (n':=3) kz Tryz.call50 Tryz.func50 rfl Tryz.ntmps50 kz fun aW az=>?_)
 have aA:=az.recast 0 (.v (.pointer (some ⟨b7,0,none⟩))) (.p 0 0) rfl rfl (Nat.le_of_ble_eq_true (n:=1) rfl)
 refine qap [] aa aA fun aX aB=>?_
 refine qap [(2,.v (.int .i16 2))] aa aB fun aY aC=>?_
 refine wp_ret ?_
 refine qaN aC aa.cells (v:=.int .i16 2) kz ?_
 refine ⟨_,rfl,fun aZ aD=>?_⟩
 have aE:EnvOk 4 [⟨b7,0,[.int .i16 0,.int .i32 0,.int .i16 0,.pointer none,.int .i8 1,.string ByteArray.empty,.int .i32 (-1),.slice none 0 0,.int .i32 (-2147483648),.map none],true⟩] [(2,.v (.int .i16 2)),(1,.p 0 0)] _:=aD.places (⟨rfl,rfl,trivial⟩)
 refine qai [2,3] [] [(0,.v (.int .i64 2))] aa aE fun ba aF=>?_
 refine qae (qaa ?_)
 refine wp_ret ?_
 refine qaN aF aa.cells (v:=.int .i64 2) kz ?_
 exact ⟨rfl,aa.step⟩
theorem qcc:depths sDescribeClusterResponseF ≤ 8:=by simp [sDescribeClusterResponseF,Fld.depth.depths,Fld.depth]
set_option maxHeartbeats 4000000 in
theorem qcw (x:Int) (hx:0 ≤ x) (hx':x < 256) (ct:List Value) (t:Tree) (w:World) (F:Nat → Nat → Prop) (ht:TreeR w F ct t) (hroom1:(qcn 8 sDescribeClusterResponseF qay (Int.tmod x (2 + 1)) t).length + 16 ≤ 1099511627776) (hcan:qaX (fitT (Int.tmod x (2 + 1)) 8 sDescribeClusterResponseF t)) (hkey:Tree.ranged (fitT (Int.tmod x (2 + 1)) 8 sDescribeClusterResponseF t)) (hpure:qag (IntKind.i16.wrap (Int.tmod x (2 + 1))) (fitT (Int.tmod x (2 + 1)) 8 sDescribeClusterResponseF t) = qcn 8 sDescribeClusterResponseF qay (Int.tmod x (2 + 1)) t) :
  Calls Tryz.prog 4 #[.int .u8 x,.agg ct.toArray] w (qch w (.bool true)):=by
 obtain ⟨n1,s2,b3,l4,u5,A6,c7,A8,c9,aU,aV,cX,rfl,rfl,cY,cZ,dJ,dK⟩:=ht.open_
 have cI:=cY.small
 have cJ:=cZ.small
 refine enter (n:=37) Tryz.func4 rfl Tryz.ntmps4 kz fun a hE=>?_
 have hW:=WOk.start w Nil
 refine qac [0,1] kz ?_
 refine qaj (qbi hW hE (d:=3) (cs:=[.int .i64 n1,.slice A6 s2.length c7,.bool b3,.slice A8 l4.length c9,.slice aU u5.length aV]) kz fun c5 dL dM c6 da db am bD=>?_)
 refine qai [1] [] [(0,.v (.int .u8 x)),(3,.p 0 0)] am bD fun dN bE=>?_
 refine qae (qaa ?_)
 refine wp_seq ?_
 refine qac [0,1,2] kz ?_
 refine qai [0] [1,2] [(0,.v (.int .u8 x)),(3,.p 0 0),(10,.v (.agg #[.int .i64 n1,.slice A6 s2.length c7,.bool b3,.slice A8 l4.length c9,.slice aU u5.length aV]))] am bE fun dO bF=>?_
 refine qaj (qak bF (f:=10) (vs:=[.agg #[.int .i64 n1,.slice A6 s2.length c7,.bool b3,.slice A8 l4.length c9,.slice aU u5.length aV]]) (d:=11) kz Tryz.call10 (qkF _ _ _ _ (ht.move am.step nilM am.imm)) ?_)
 rintro e_ dP ⟨cK,rfl,aY⟩
 refine ⟨_,rfl,fun dQ bG=>?_⟩
 have ao:=am.next_nil aY
 have dc:=am.frN aY
 refine qai [2] [] [(0,.v (.int .u8 x)),(3,.p 0 0),(12,.v (.bool (!cK)))] ao bG fun dR aR=>?_
 refine qae (qaa ?_)
 refine qaz aR (b:=!cK) kz (fun bH=>?_) (fun bH=>?_)
 ·
  refine qap [(4,.v (.bool true))] ao aR fun dS bI=>?_
  refine wp_ret ?_
  refine qax ?_
  refine qaN bI ao.cells (v:=.bool true) kz ?_
  exact ⟨rfl,ao.step⟩
 refine wp_skip ?_
 refine qaa ?_
 refine qac [0,1] kz ?_
 refine qaj (qak aR (f:=18) (vs:=[]) (d:=13) kz Tryz.call18 (qcQ _) ?_)
 rintro e_ de ⟨rfl,aZ⟩
 refine ⟨_,rfl,fun dT bJ=>?_⟩
 have ap:=ao.next_nil aZ
 have dg:=ao.frN aZ
 refine qai [1] [] [(0,.v (.int .u8 x)),(3,.p 0 0),(5,.v (.int .i64 2))] ap bJ fun dU bK=>?_
 refine qae (qaa ?_)
 refine wp_seq ?_
 refine qap [(0,.v (.int .u8 x)),(3,.p 0 0),(5,.v (.int .i64 2)),(15,.v (.bool false))] ap bK fun dV ba=>?_
 refine qar ba (b:=false) kz rfl ?_
 refine wp_skip ?_
 refine qaa ?_
 refine qac [0,1,2,3,4,5,6] kz ?_
 refine qaj (qak ba (f:=19) (vs:=[]) (d:=16) kz Tryz.call19 (qcO _ (Imm F w de [⟨c5,0,[.int .i64 n1,.slice A6 s2.length c7,.bool b3,.slice A8 l4.length c9,.slice aU u5.length aV],true⟩] [])) ?_)
 rintro e_ dW ⟨aW,aX,rfl,bL,aS⟩
 obtain ⟨bd,cL,cM⟩:=bL.move (Step.refl _ Nil) nilM (ap.laid (G:=F) aS)
 refine ⟨_,rfl,fun dX bM=>?_⟩
 have aT:=ap.next_nil aS
 have dh:=ap.frN aS
 refine qai [1,2] [3,4,5,6] [(3,.p 0 0),(16,.v (.agg #[.slice aW sDescribeClusterResponseF.length aX,.int .i64 qay])),(17,.v (.int .u8 x)),(18,.v (.int .i64 2))] aT bM fun dY bN=>?_
 refine qaj (qak bN (f:=13) (vs:=[.int .u8 x,.int .i64 2]) (d:=19) kz Tryz.call13 (qjf x 2 hx hx' (by decide) (by decide) _) ?_)
 rintro e_ dZ ⟨rfl,bf⟩
 refine ⟨_,rfl,fun d5 bO=>?_⟩
 have bP:=aT.next_nil bf
 have af:=aT.frN bf
 refine qaj (qaJ bP bO (d:=6) (cs:=[.slice none 0 0,.int .i64 0]) kz fun d6 d7 d8 di dj ag bQ bR=>?_)
 refine qaj (qam bQ bR (oi:=1) (cs:=[.slice aW sDescribeClusterResponseF.length aX,.int .i64 qay]) kz fun d9 ah ar bS=>?_)
 refine qai [6] [] [(3,.p 0 0),(6,.p 1 0),(7,.v (.int .i64 (Int.tmod x (2 + 1))))] ar bS fun ea bT=>?_
 refine qae (qaa ?_)
 refine qac [0,1,2,3,4,5,6,7,8,9,10,11] kz ?_
 refine qai [0,1,2,3] [4,5,6,7,8,9,10,11] [(6,.p 1 0),(21,.v (.int .i64 (Int.tmod x (2 + 1)))),(22,.v (.agg #[.slice aW sDescribeClusterResponseF.length aX,.int .i64 qay])),(23,.v (.int .i64 (Int.tmod x (2 + 1)))),(24,.v (.agg #[.int .i64 n1,.slice A6 s2.length c7,.bool b3,.slice A8 l4.length c9,.slice aU u5.length aV]))] ar bT fun eb bU=>?_
 refine qaj (qak bU (f:=15) (vs:=[.agg #[.slice aW sDescribeClusterResponseF.length aX,.int .i64 qay],.int .i64 (Int.tmod x (2 + 1)),.agg #[.int .i64 n1,.slice A6 s2.length c7,.bool b3,.slice A8 l4.length c9,.slice aU u5.length aV]]) (d:=25) kz Tryz.call15 (qks _ _ sDescribeClusterResponseF qay (Int.tmod x (2 + 1)) _ (Tree.mk n1 s2 b3 l4 u5) _ _ ⟨bd,(cL.move ((af.trans ag).trans ah).step immM ((af.trans ag).trans ah).to'),(fun i_ x_ h_=>((cM i_ x_ h_).move ((af.trans ag).trans ah).step immM ((af.trans ag).trans ah).to'))⟩ qcc (ht.move ar.step nilM ar.imm) (Nat.le_trans (Nat.le_add_right _ _) hroom1)) ?_)
 rintro e_ ec ⟨cN,cO,rfl,bV,bW⟩
 refine ⟨_,rfl,fun ee bX=>?_⟩
 obtain ⟨ai,aj⟩:=ar.frFresh bW (brow cN cO 5 (qcn 8 sDescribeClusterResponseF qay (Int.tmod x (2 + 1)) (Tree.mk n1 s2 b3 l4 u5))) (Nat.le_refl _) bV
 refine qaj (qak bX (f:=20) (vs:=[.int .i64 (Int.tmod x (2 + 1)),.slice cN ((qcn 8 sDescribeClusterResponseF qay (Int.tmod x (2 + 1)) (Tree.mk n1 s2 b3 l4 u5)).length) cO]) (d:=26) kz Tryz.call20 (qcv (Int.tmod x (2 + 1)) _ (qcn 8 sDescribeClusterResponseF qay (Int.tmod x (2 + 1)) (Tree.mk n1 s2 b3 l4 u5)) hpure (qdP (ai.own 0 _ rfl) (by first | omega | (rw [qbX]; decide) | (simp only [be_length]; exact Nat.le_trans (qbI _) (by decide)) | (have:=hroom; omega) | (have:=hmade; omega) | (simp only [List.length_append,List.length_nil]; omega)) (F:=fun _ _=>True) (fun _ _ _=>trivial)) hcan hkey (by first | omega | (have:=hroom1; omega))) ?_)
 rintro e_ dl ⟨bg,cP,rfl,bh,au⟩
 have av:=bh.move (Step.refl _ Nil) nilM (fun b_ o_ h_ hb_=>ai.laid (G:=F) au b_ o_ (.inr (h_.resolve_left id)) hb_)
 obtain ⟨aC,aD,aE,aF,aG,aH,aI,aJ,aK,aL,aM,cQ,cR,aw,bY,bZ,dp,dq⟩:=av.open_
 rw [aw] at av
 have b8:=bY.small
 have cd:=bZ.small
 rw [aw]
 refine ⟨_,rfl,fun dr bi=>?_⟩
 have aN:=ai.next_nil au
 have ak:=ai.frN au
 refine qai [6,7,8] [9,10,11] [(6,.p 1 0),(27,.v (.agg #[.int .i64 aC,.slice aH aD.length aI,.bool aE,.slice aJ aF.length aK,.slice aL aG.length aM])),(28,.v (.bool true))] aN bi fun dt bj=>?_
 refine qaj (qaJ aN bj (d:=8) (cs:=[.int .i64 0,.slice none 0 0,.bool false,.slice none 0 0,.slice none 0 0]) kz fun du dv dw cS cT aa bk bn=>?_)
 refine qaj (qam bk bn (oi:=2) (cs:=[.int .i64 aC,.slice aH aD.length aI,.bool aE,.slice aJ aF.length aK,.slice aL aG.length aM]) kz fun dx ab aO bo=>?_)
 refine qai [11] [] [(6,.p 1 0),(8,.p 2 0),(9,.v (.bool true))] aO bo fun dy bp=>?_
 refine qae (qaa ?_)
 refine qaO 8 kz aO fun dz ac ax bq=>?_
 refine qaF [0,1,2,3,4] [(30,.v (.bool true)),(32,.v (.slice aW sDescribeClusterResponseF.length aX)),(33,.v (.agg #[.int .i64 aC,.slice aH aD.length aI,.bool aE,.slice aJ aF.length aK,.slice aL aG.length aM]))] 4 (qab qaf) (fun _ h=>h.cells) bq bp fun dA bt=>?_
 refine qaw (i:=5) kz (qak bt (f:=17) (vs:=[.agg #[.int .i64 aC,.slice aH aD.length aI,.bool aE,.slice aJ aF.length aK,.slice aL aG.length aM]]) (d:=34) kz Tryz.call17 (lGot _ _ _ _ _ (av.move ((aa.trans ab).trans ac).step immM ((aa.trans ab).trans ac).to') (Nat.le_refl _)) ?_)
 rintro e_ dB ⟨cU,rfl,bu,ay⟩
 have az:=bu.move (Step.refl _ Nil) nilM (ax.laid (G:=F) ay)
 obtain ⟨ce,cg,cm,cq,cr,cu,cw,cz,cA,cB,cC,cV,cW,aA,cD,cE,dC,dD⟩:=az.open_
 rw [aA] at az
 have cG:=cD.small
 have cH:=cE.small
 rw [aA]
 refine ⟨_,rfl,fun dE bw=>?_⟩
 have aB:=ax.next_nil ay
 have ae:=ax.frN ay
 have bx:=TT.ofW ae aB
 refine ⟨fun _=>bx,?_⟩
 refine qaw (i:=6) kz (qak bw (f:=16) (vs:=[.slice aW sDescribeClusterResponseF.length aX,.agg #[.int .i64 ce,.slice cu cg.length cw,.bool cm,.slice cz cq.length cA,.slice cB cr.length cC]]) (d:=35) kz Tryz.call16 (qiJ _ _ sDescribeClusterResponseF _ (qa3 (qaY bg)) _ _ ⟨bd,(cL.move ((((((((af.trans ag).trans ah).trans aj).trans ak).trans aa).trans ab).trans ac).trans ae).step immM ((((((((af.trans ag).trans ah).trans aj).trans ak).trans aa).trans ab).trans ac).trans ae).to'),(fun i_ x_ h_=>((cM i_ x_ h_).move ((((((((af.trans ag).trans ah).trans aj).trans ak).trans aa).trans ab).trans ac).trans ae).step immM ((((((((af.trans ag).trans ah).trans aj).trans ak).trans aa).trans ab).trans ac).trans ae).to'))⟩ az (qcu bg)) ?_)
 rintro e_ dF ⟨rfl,aP⟩
 refine ⟨_,rfl,fun dG bz=>?_⟩
 have al:=aB.next_nil aP
 have bA:=aB.frN aP
 have aQ:=TT.ofW (ae.trans bA) al
 refine ⟨fun _=>aQ,?_⟩
 refine qaF [7] [(36,.v (.bool true))] 1 (qab qaf) (fun _ h=>h.cells) aQ bz fun dH bB=>?_
 refine qaw (i:=8) kz (qbH [4] al.cells bB (env':=[(4,.v (.bool true))]) kz fun dI bC=>?_)
 refine ⟨fun h=>absurd rfl h,?_⟩
 refine qaE kz ?_ _
 refine qaa ?_
 refine wp_ret ?_
 refine qaN bC al.cells (v:=.bool true) kz ?_
 exact ⟨rfl,al.step⟩
theorem qci (x:Int) (hx:0 ≤ x ∧ x ≤ 255) (ct:List Value) (t:Tree) (w:World) (F:Nat → Nat → Prop) (ht:TreeR w F ct t) (hi:t.i64s) (hsz:t.size ≤ 8388608):Calls Tryz.prog 4 #[.int .u8 x,.agg ct.toArray] w (qch w (.bool true)):=by
 obtain ⟨g0,g1⟩:=qko (m:=2 + 1) hx.1 hx.2 (by decide) (by decide)
 have hp:qag (IntKind.i16.wrap (Int.tmod x (2 + 1))) (fitT (Int.tmod x (2 + 1)) 8 sDescribeClusterResponseF t) = qcn 8 sDescribeClusterResponseF qay (Int.tmod x (2 + 1)) t:=by rw [qh7 g0 g1]; exact qcr (Int.tmod x (2 + 1)) g0 g1 t
 have h1:=qif 8 sDescribeClusterResponseF qay (Int.tmod x (2 + 1)) t
 have h2:qgi sDescribeClusterResponseF ≤ 131000:=by decide +kernel
 have h3:=Nat.mul_le_mul h2 hsz
 exact qcw x hx.1 (by omega) ct t w F ht (by omega) (qce (Int.tmod x (2 + 1)) t) (qhj _ _ _ _ ht.ranged) hp
end Go.Proofs.YtcbpjflgkefidaaGreatDoor.ME