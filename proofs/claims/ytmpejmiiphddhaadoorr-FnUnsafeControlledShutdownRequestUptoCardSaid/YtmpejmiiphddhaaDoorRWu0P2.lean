/- The texts of a claim, put together: the engine, the contracts, the law. Own work. -/
import Derived.Test.YtmpejmiiphddhaaDoorRWu0P1
import Derived.Deep.LoopGhost
namespace Go.Proofs.YtmpejmiiphddhaaDoorR.ME
open Go
open Go.RowKit
set_option linter.unusedVariables false
set_option linter.unusedSimpArgs false
set_option maxRecDepth 20000
def qfM (m:Nat):Prop:=∀ (ct:List Value) (t:Tree) (w:World) (F:Nat → Nat → Prop),TreeR w F ct t → t.depth ≤ m →
  Calls Tryd.prog 10 #[.agg ct.toArray] w (qc1 w F t)
theorem qes {m:Nat} (hg:qfM m) (ct:List Value) (t:Tree) (w:World) (F:Nat → Nat → Prop) (ht:TreeR w F ct t) (hd:t.depth ≤ m + 1) :
  Calls Tryd.prog 10 #[.agg ct.toArray] w (qc1 w F t):=by
 obtain ⟨n1,s2,b3,l4,u5,A6,c7,A8,c9,ap,ar,dQ,rfl,rfl,dr,dt,dR,dS⟩:=ht.open_
 have du:=dr.small
 have dv:=dt.small
 obtain ⟨dT,dw,dU⟩:=dS.ex
 have dx:=dw.small
 refine enter (n:=49) Tryd.func10 rfl Tryd.ntmps10 kz fun a hE=>?_
 have hW:=WOk.start w Nil
 refine qac [0,1] kz ?_
 refine qag (qb2 hW hE (d:=1) (cs:=[.int .i64 n1,.slice A6 s2.length c7,.bool b3,.slice A8 l4.length c9,.slice ap u5.length ar]) kz fun bH fi fj dV dW dX cW cX=>?_)
 refine qag (qaB cW cX (d:=2) (cs:=[.int .i64 0,.slice none 0 0,.bool false,.slice none 0 0,.slice none 0 0]) kz fun bI fk fl dY dZ d5 bK cY=>?_)
 refine qad (qab ?_)
 refine qac [0,1,2,3,4,5,6,7,8] kz ?_
 refine qai [0,1,2,3,4,5,6] [7,8] [(1,.p 0 0),(2,.p 1 0),(14,.v (.agg #[.int .i64 n1,.slice A6 s2.length c7,.bool b3,.slice none 0 0,.slice none 0 0]))] bK cY fun fm cZ=>?_
 refine qag (qaB bK cZ (d:=3) (cs:=[.int .i64 0,.slice none 0 0,.bool false,.slice none 0 0,.slice none 0 0]) kz fun bJ fo fq d6 d7 d8 c5 c6=>?_)
 refine qag (qam c5 c6 (oi:=2) (cs:=[.int .i64 n1,.slice A6 s2.length c7,.bool b3,.slice none 0 0,.slice none 0 0]) kz fun fr d9 bB da=>?_)
 refine qad (qab ?_)
 refine wp_seq ?_
 refine qan [(1,.p 0 0),(2,.p 1 0),(3,.p 2 0),(16,.v (.slice A8 l4.length c9)),(17,.v (.int .i64 ((l4.length:Nat):Int))),(18,.v (.int .i64 0))] bB da fun ft db=>?_
 refine wp_block ?_
 have bL:=bB.addNil 35 5
 have ea:=bB.frNil 35 5
 refine wp_loop_ghost (fun n_ a_ w_=>∃ (k:Nat) (A_:Option Addr) (c_:Nat) (xs:List Value) (css:List (List Value)),n_ = l4.length - k ∧ k ≤ l4.length ∧ (Trees w_ (Imm F w w_ [⟨bH,0,[.int .i64 n1,.slice A6 s2.length c7,.bool b3,.slice A8 l4.length c9,.slice ap u5.length ar],true⟩,⟨bI,0,[.int .i64 0,.slice none 0 0,.bool false,.slice none 0 0,.slice none 0 0],true⟩,⟨bJ,0,[.int .i64 n1,.slice A6 s2.length c7,.bool b3,.slice A_ k c_,.slice none 0 0],true⟩] [⟨A_,c_,35,5,k,xs⟩]) xs (l4.take k) css) ∧ LInv bL 49 [⟨bH,0,[.int .i64 n1,.slice A6 s2.length c7,.bool b3,.slice A8 l4.length c9,.slice ap u5.length ar],true⟩,⟨bI,0,[.int .i64 0,.slice none 0 0,.bool false,.slice none 0 0,.slice none 0 0],true⟩,⟨bJ,0,[.int .i64 n1,.slice A6 s2.length c7,.bool b3,.slice A_ k c_,.slice none 0 0],true⟩] [⟨A_,c_,35,5,k,xs⟩] [(1,.p 0 0),(2,.p 1 0),(3,.p 2 0),(16,.v (.slice A8 l4.length c9)),(17,.v (.int .i64 ((l4.length:Nat):Int))),(18,.v (.int .i64 ((k:Nat):Int)))] a_ w_) (l4.length) ⟨0,none,0,[],[],by omega,by omega,Trees.nil _ _,db.pk,bL,Fr.refl _ _ _⟩ ?_
 rintro fu fv fw ⟨k,A_,c_,xs,css,eb,ec,hT,dc,aw,de⟩
 refine qan [(1,.p 0 0),(2,.p 1 0),(3,.p 2 0),(16,.v (.slice A8 l4.length c9)),(17,.v (.int .i64 ((l4.length:Nat):Int))),(18,.v (.int .i64 ((k:Nat):Int))),(19,.v (.bool (decide (((k:Nat):Int) < ((l4.length:Nat):Int)))))] aw dc fun fx bC=>?_
 refine wp_seq ?_
 refine qa6 bC (b:=decide (((k:Nat):Int) < ((l4.length:Nat):Int))) kz (fun bD=>?_) (fun bD=>?_)
 ·
  have ee:=of_decide_eq_true bD
  refine wp_skip ?_
  refine qab ?_
  refine wp_seq ?_
  refine wp_block ?_
  refine qac [0,1,2,3] kz ?_
  obtain ⟨ef,eg,df,eh,bh⟩:=Slots.get dt (i:=k) (by omega)
  obtain ⟨ei,bE⟩:∃ x,l4[k]? = some x:=⟨_,List.getElem?_eq_getElem (by omega)⟩
  have bF:=dR k ei bE
  obtain ⟨bM,bN,bO,bP,bQ,bR,bS,bT,bU,bV,bW,ej,rfl,bi,ek,em,fy,fA⟩:=bF.open_
  rw [bi] at bF
  have dy:=ek.small
  have dA:=em.small
  rw [bi] at bh
  refine qag (qak bC (t:=24) (A:=A8) (m:=l4.length) (q:=((k:Nat):Int)) (d:=20) kz (e:=27) (size:=5) (bytes:=88) kz df rfl (by omega) fun fB bX=>?_)
  refine qag (qal bX (t:=27) (b:=ef) (o:=eg + k * 5) (d:=21) kz (cs:=[.int .i64 bM,.slice bR bN.length bS,.bool bO,.slice bT bP.length bU,.slice bV bQ.length bW]) (v:=.agg #[.int .i64 bM,.slice bR bN.length bS,.bool bO,.slice bT bP.length bU,.slice bV bQ.length bW]) kz (AtF.move bh aw.step nilM qat).at_ fun eo bY=>?_)
  refine qag (qaB aw bY (d:=5) (cs:=[.int .i64 0,.slice none 0 0,.bool false,.slice none 0 0,.slice none 0 0]) kz fun ep eu ew dB dC ax bZ b8=>?_)
  refine qag (qam bZ b8 (oi:=3) (cs:=[.int .i64 bM,.slice bR bN.length bS,.bool bO,.slice bT bP.length bU,.slice bV bQ.length bW]) kz fun ey ay b9 cd=>?_)
  refine qad (qab ?_)
  refine qdj 7 kz b9 fun ez az ag ce=>?_
  refine qaF [0,1,2] [(1,.p 0 0),(2,.p 1 0),(3,.p 2 0),(16,.v (.slice A8 l4.length c9)),(17,.v (.int .i64 ((l4.length:Nat):Int))),(18,.v (.int .i64 ((k:Nat):Int))),(23,.v (.slice A_ k c_)),(24,.v (.agg #[.int .i64 bM,.slice bR bN.length bS,.bool bO,.slice bT bP.length bU,.slice bV bQ.length bW]))] 5 (qae (qaa (qaa (qae (qaa qaf))))) (fun _ h=>h.cells) ce cd fun eB cg=>?_
  refine qa1 (i:=3) kz (qaq cg (f:=10) (vs:=[.agg #[.int .i64 bM,.slice bR bN.length bS,.bool bO,.slice bT bP.length bU,.slice bV bQ.length bW]]) (d:=25) kz Tryd.call10 ( hg _ _ _ _ (bF.move ag.step nilM ag.imm) (by have h_:=qcT bE; rw [qca] at hd; omega)) ?_)
  rintro e_ eC ⟨dD,rfl,cm,aA⟩
  have aB:=cm.move (Step.refl _ Nil) nilM (ag.laid (G:=F) aA)
  obtain ⟨aC,aD,aE,aF,aG,aH,aI,aJ,aK,aL,aM,dE,dF,aO,dg,dh,eD,eE⟩:=aB.open_
  rw [aO] at aB
  have di:=dg.small
  have dj:=dh.small
  rw [aO]
  refine ⟨_,rfl,fun eF cn=>?_⟩
  have bj:=ag.next_nil aA
  have ae:=ag.frN aA
  have cq:=TT.ofW ae bj
  refine ⟨fun _=>cq,?_⟩
  refine qa1 (i:=4) kz (qdi bj cn (e:=35) (size:=5) (len:=1) (cs:=[.int .i64 aC,.slice aH aD.length aI,.bool aE,.slice aJ aF.length aK,.slice aL aG.length aM]) (d:=26) kz kz fun dl eG eH dG dH aa au cr=>?_)
  have cu:=TT.ofW (ae.trans aa) au
  refine ⟨fun _=>cu,?_⟩
  refine qa1 (i:=5) kz (qbc au cr (k:=0) (d:=27) (t:=32) (e:=35) (size:=5) (bytes:=88) (A:=A_) (As:=(some ⟨dl,0,none⟩)) (m0:=k) (c:=c_) (m:=1) (cs:=1) (xs:=xs) (news:=[.int .i64 aC,.slice aH aD.length aI,.bool aE,.slice aJ aF.length aK,.slice aL aG.length aM]) kz kz rfl (qcN (au.own 1 _ rfl) (qbL kz)) (qd6 (au.own 1 _ rfl)) (by omega) fun aP aQ eI eJ af bk cw=>?_)
  have bn:=TT.ofW ((ae.trans aa).trans af) bk
  refine ⟨fun _=>bn,?_⟩
  refine qaF [6] [(1,.p 0 0),(2,.p 1 0),(3,.p 2 0),(16,.v (.slice A8 l4.length c9)),(17,.v (.int .i64 ((l4.length:Nat):Int))),(18,.v (.int .i64 ((k:Nat):Int))),(27,.v (.slice aP (k + 1) aQ)),(28,.p 2 3)] 1 (qae (qaa (qaa (qae (qaa qaf))))) (fun _ h=>h.cells) bn cw fun eK cz=>?_
  refine qa1 (i:=7) kz (qam bk cz (oi:=2) (cs:=[.int .i64 n1,.slice A6 s2.length c7,.bool b3,.slice aP (k + 1) aQ,.slice none 0 0]) kz fun eL ah bo cA=>?_)
  refine ⟨fun h=>absurd rfl h,?_⟩
  refine qaV kz ?_ _
  refine qaU ?_
  refine qab ?_
  refine qaw [0,1] kz ?_
  refine qai [0,1] [] [(1,.p 0 0),(2,.p 1 0),(3,.p 2 0),(16,.v (.slice A8 l4.length c9)),(17,.v (.int .i64 ((l4.length:Nat):Int))),(18,.v (.int .i64 (IntKind.i64.wrap (((k:Nat):Int) + 1))))] bo cA fun eM cB=>?_
  refine qad (qab ?_)
  obtain ⟨bp,cC,ai⟩:=bo.cutB cB 3 [⟨bH,0,[.int .i64 n1,.slice A6 s2.length c7,.bool b3,.slice A8 l4.length c9,.slice ap u5.length ar],true⟩,⟨bI,0,[.int .i64 0,.slice none 0 0,.bool false,.slice none 0 0,.slice none 0 0],true⟩,⟨bJ,0,[.int .i64 n1,.slice A6 s2.length c7,.bool b3,.slice aP (k + 1) aQ,.slice none 0 0],true⟩] [(1,.p 0 0),(2,.p 1 0),(3,.p 2 0),(16,.v (.slice A8 l4.length c9)),(17,.v (.int .i64 ((l4.length:Nat):Int))),(18,.v (.int .i64 (IntKind.i64.wrap (((k:Nat):Int) + 1))))]
  obtain ⟨cD,aj⟩:=cC.cutR 1 [⟨aP,aQ,35,5,k + 1,xs ++ [.int .i64 aC,.slice aH aD.length aI,.bool aE,.slice aJ aF.length aK,.slice aL aG.length aM]⟩]
  have cE:IntKind.i64.wrap (((k:Nat):Int) + 1) = ((k + 1:Nat):Int):=qbp (by omega)
  rw [cE] at bp
  exact ⟨l4.length - (k + 1),by omega,k + 1,aP,aQ,xs ++ [Value.int .i64 aC,.slice aH aD.length aI,.bool aE,.slice aJ aF.length aK,.slice aL aG.length aM],(css ++ [[Value.int .i64 aC,.slice aH aD.length aI,.bool aE,.slice aJ aF.length aK,.slice aL aG.length aM]]),rfl,by omega,by rw [qbN bE]; exact (hT.move ((((((((ax.trans ay).trans az).trans ae).trans aa).trans af).trans ah).trans ai).trans aj).step immM ((((((((ax.trans ay).trans az).trans ae).trans aa).trans af).trans ah).trans ai).trans aj).to').snoc (aB.move ((((aa.trans af).trans ah).trans ai).trans aj).step immM ((((aa.trans af).trans ah).trans ai).trans aj).to'),bp.pk,cD,(((((((((de.trans ax).trans ay).trans az).trans ae).trans aa).trans af).trans ah).trans ai).trans aj)⟩
 have dI:=of_decide_eq_false bD
 refine wp_exit ?_
 refine qaE ?_
 refine qaE ?_
 refine qa4 ?_
 refine qab ?_
 refine wp_seq ?_
 refine qan [(2,.p 1 0),(3,.p 2 0),(31,.v (.slice ap u5.length ar)),(32,.v (.int .i64 ((u5.length:Nat):Int))),(33,.v (.int .i64 0))] aw bC fun eN cF=>?_
 refine wp_block ?_
 have hk0:k = l4.length:=by omega
 have bq:=aw.addNil 50 2
 have bt:=aw.frNil 50 2
 refine wp_loop_ghost (fun n_ a_ w_=>∃ (q:Nat) (A5_:Option Addr) (c5_:Nat) (ys:List Value) (dss:List (List Value)),n_ = u5.length - q ∧ q ≤ u5.length ∧ (Tags w_ (Imm F w w_ [⟨bH,0,[.int .i64 n1,.slice A6 s2.length c7,.bool b3,.slice A8 l4.length c9,.slice ap u5.length ar],true⟩,⟨bI,0,[.int .i64 0,.slice none 0 0,.bool false,.slice none 0 0,.slice none 0 0],true⟩,⟨bJ,0,[.int .i64 n1,.slice A6 s2.length c7,.bool b3,.slice A_ k c_,.slice A5_ q c5_],true⟩] [⟨A_,c_,35,5,k,xs⟩,⟨A5_,c5_,50,2,q,ys⟩]) ys (u5.take q) dss) ∧ LInv bq 49 [⟨bH,0,[.int .i64 n1,.slice A6 s2.length c7,.bool b3,.slice A8 l4.length c9,.slice ap u5.length ar],true⟩,⟨bI,0,[.int .i64 0,.slice none 0 0,.bool false,.slice none 0 0,.slice none 0 0],true⟩,⟨bJ,0,[.int .i64 n1,.slice A6 s2.length c7,.bool b3,.slice A_ k c_,.slice A5_ q c5_],true⟩] [⟨A_,c_,35,5,k,xs⟩,⟨A5_,c5_,50,2,q,ys⟩] [(2,.p 1 0),(3,.p 2 0),(31,.v (.slice ap u5.length ar)),(32,.v (.int .i64 ((u5.length:Nat):Int))),(33,.v (.int .i64 ((q:Nat):Int)))] a_ w_) (u5.length) ⟨0,none,0,[],[],by omega,by omega,Tags.nil _ _,cF.pk,bq,Fr.refl _ _ _⟩ ?_
 rintro eO eP eQ ⟨q,A5_,c5_,ys,dss,dJ,dK,hU,cG,ak,aR⟩
 refine qan [(2,.p 1 0),(3,.p 2 0),(31,.v (.slice ap u5.length ar)),(32,.v (.int .i64 ((u5.length:Nat):Int))),(33,.v (.int .i64 ((q:Nat):Int))),(34,.v (.bool (decide (((q:Nat):Int) < ((u5.length:Nat):Int)))))] ak cG fun eR aS=>?_
 refine wp_seq ?_
 refine qa6 aS (b:=decide (((q:Nat):Int) < ((u5.length:Nat):Int))) kz (fun aT=>?_) (fun aT=>?_)
 ·
  have dL:=of_decide_eq_true aT
  refine wp_skip ?_
  refine qab ?_
  refine wp_seq ?_
  refine wp_block ?_
  refine qac [0,1,2,3] kz ?_
  obtain ⟨dm,dn,cH,dM,aU⟩:=Slots.get dw (i:=q) (by omega)
  obtain ⟨⟨ab,ac⟩,bu⟩:∃ x,u5[q]? = some x:=⟨_,List.getElem?_eq_getElem (by omega)⟩
  obtain ⟨⟨al,am,bG,cI⟩,dp,dq⟩:=dU q ab ac bu
  rw [bG] at aU
  refine qag (qak aS (t:=25) (A:=ap) (m:=u5.length) (q:=((q:Nat):Int)) (d:=35) kz (e:=51) (size:=2) (bytes:=32) kz cH rfl (by omega) fun eS cJ=>?_)
  refine qag (qal cJ (t:=51) (b:=dm) (o:=dn + q * 2) (d:=36) kz (cs:=[.int .u32 ab,.slice al ac.length am]) (v:=.agg #[.int .u32 ab,.slice al ac.length am]) kz (AtF.move aU ak.step nilM qat).at_ fun eU cK=>?_)
  refine qag (qaB ak cK (d:=7) (cs:=[.int .u32 0,.slice none 0 0]) kz fun eV eW eX dN dO aV cL cM=>?_)
  refine qag (qam cL cM (oi:=3) (cs:=[.int .u32 ab,.slice al ac.length am]) kz fun eY aW bw cN=>?_)
  refine qad (qab ?_)
  refine qaw [0,1,2,3,4,5,6,7,8,9,10] kz ?_
  refine qai [0,1,2,3,4,5,6] [7,8,9,10] [(2,.p 1 0),(3,.p 2 0),(31,.v (.slice ap u5.length ar)),(32,.v (.int .i64 ((u5.length:Nat):Int))),(33,.v (.int .i64 ((q:Nat):Int))),(38,.v (.slice A5_ q c5_)),(43,.v (.agg #[.int .u32 ab,.slice al ac.length am]))] bw cN fun eZ cO=>?_
  refine qcI bw cO (k:=1) (e:=50) (size:=2) (len:=1) (cs:=[.int .u32 ab,.slice al ac.length am]) (d1:=44) (d:=45) kz (t:=33) (bytes:=32) kz (fun _=>by kernel_rfl) rfl kz (by omega) fun bf bg e9 fa aX bx ⟨_,cP⟩=>?_
  refine qai [9] [10] [(2,.p 1 0),(3,.p 2 0),(31,.v (.slice ap u5.length ar)),(32,.v (.int .i64 ((u5.length:Nat):Int))),(33,.v (.int .i64 ((q:Nat):Int))),(45,.v (.slice bf (q + 1) bg)),(46,.p 2 4)] bx cP fun fb cQ=>?_
  refine qag (qam bx cQ (oi:=2) (cs:=[.int .i64 n1,.slice A6 s2.length c7,.bool b3,.slice A_ k c_,.slice bf (q + 1) bg]) kz fun fe aY bz cR=>?_)
  refine qad ?_
  refine qaU ?_
  refine qab ?_
  refine qaw [0,1] kz ?_
  refine qai [0,1] [] [(2,.p 1 0),(3,.p 2 0),(31,.v (.slice ap u5.length ar)),(32,.v (.int .i64 ((u5.length:Nat):Int))),(33,.v (.int .i64 (IntKind.i64.wrap (((q:Nat):Int) + 1))))] bz cR fun ff cS=>?_
  refine qad (qab ?_)
  obtain ⟨bA,aZ,ba⟩:=bz.cutB cS 3 [⟨bH,0,[.int .i64 n1,.slice A6 s2.length c7,.bool b3,.slice A8 l4.length c9,.slice ap u5.length ar],true⟩,⟨bI,0,[.int .i64 0,.slice none 0 0,.bool false,.slice none 0 0,.slice none 0 0],true⟩,⟨bJ,0,[.int .i64 n1,.slice A6 s2.length c7,.bool b3,.slice A_ k c_,.slice bf (q + 1) bg],true⟩] [(2,.p 1 0),(3,.p 2 0),(31,.v (.slice ap u5.length ar)),(32,.v (.int .i64 ((u5.length:Nat):Int))),(33,.v (.int .i64 (IntKind.i64.wrap (((q:Nat):Int) + 1))))]
  have cT:IntKind.i64.wrap (((q:Nat):Int) + 1) = ((q + 1:Nat):Int):=qbp (by omega)
  rw [cT] at bA
  exact ⟨u5.length - (q + 1),by omega,q + 1,bf,bg,ys ++ [Value.int .u32 ab,.slice al ac.length am],(dss ++ [[Value.int .u32 ab,.slice al ac.length am]]),rfl,by omega,by rw [qbN bu]; exact (hU.move ((((aV.trans aW).trans aX).trans aY).trans ba).step immM ((((aV.trans aW).trans aX).trans aY).trans ba).to').snoc (c:=[.int .u32 ab,.slice al ac.length am]) (x:=(ab,ac)) ⟨⟨_,_,rfl,(cI.move aZ.step nilM aZ.imm)⟩,dp,dq⟩,bA.pk,aZ,(((((aR.trans aV).trans aW).trans aX).trans aY).trans ba)⟩
 have dP:=of_decide_eq_false aT
 refine wp_exit ?_
 refine qaE ?_
 refine qaE ?_
 refine qa4 ?_
 refine qab ?_
 refine qac [0,1] kz ?_
 refine qai [0] [1] [(2,.p 1 0),(48,.v (.agg #[.int .i64 n1,.slice A6 s2.length c7,.bool b3,.slice A_ k c_,.slice A5_ q c5_]))] ak aS fun fg cU=>?_
 refine qag (qam ak cU (oi:=1) (cs:=[.int .i64 n1,.slice A6 s2.length c7,.bool b3,.slice A_ k c_,.slice A5_ q c5_]) kz fun fh av ao cV=>?_)
 refine qad (qab ?_)
 refine wp_ret ?_
 refine qaO cV ao.cells (v:=.agg #[.int .i64 n1,.slice A6 s2.length c7,.bool b3,.slice A_ k c_,.slice A5_ q c5_]) kz ?_
 have hq0:q = u5.length:=by omega
 have hT':=(hT.move ((bt.trans aR).trans av).step immM ((bt.trans aR).trans av).to')
 have hU':=(hU.move av.step immM av.to')
 rw [show l4.take k = l4 by rw [hk0,List.take_length]] at hT'
 rw [show u5.take q = u5 by rw [hq0,List.take_length]] at hU'
 exact qeK ao rfl (dr.move ao.step nilM qfo) hk0 (qeJ ao (k:=0) rfl hT' hk0 (by omega)) hq0 (qfn ao (k:=1) rfl hU' hq0 (by omega)) rfl
theorem lGot:∀ m,qfM m
 | 0=>fun ct t w F ht hd=>by
  obtain ⟨n,s,b,l,u,A1,c1,A2,c2,A3,c3,xs,rfl,_⟩:=ht.open_
  rw [qca] at hd; omega
 | m + 1=>qes (lGot m)
theorem qfu {u:List (Int × Bs)} {A:Option Addr} {c:Nat} {w:World} {F:Nat → Nat → Prop} (hu:TagsR w F A c u) (hsrt:qbV u):Calls Tryd.prog 33 #[.slice A u.length c] w (qbv w (.tuple #[])):=by
 obtain ⟨cs1,h2,h3⟩:=hu.ex
 have hsm4:=h2.small
 refine enter (n:=45) Tryd.func33 rfl Tryd.ntmps33 kz fun a hE=>?_
 have hW:=WOk.start w Nil
 refine qan [(0,.v (.slice A u.length c)),(5,.v (.int .i64 ((u.length:Nat):Int))),(6,.v (.int .i64 0))] hW hE fun a5 hE6=>?_
 refine wp_block ?_
 refine wp_loop_ghost (fun n_ a_ w_=>∃ (k:Nat),n_ = u.length - k ∧ k ≤ u.length ∧ LInv hW 45 [] [] [(0,.v (.slice A u.length c)),(5,.v (.int .i64 ((u.length:Nat):Int))),(6,.v (.int .i64 ((k:Nat):Int)))] a_ w_) (u.length) ⟨0,by omega,by omega,hE6.pk,hW,Fr.refl _ _ _⟩ ?_
 rintro n7 a8 w9 ⟨k,aX,aY,aB,ab,aj⟩
 refine qan [(0,.v (.slice A u.length c)),(5,.v (.int .i64 ((u.length:Nat):Int))),(6,.v (.int .i64 ((k:Nat):Int))),(7,.v (.bool (decide (((k:Nat):Int) < ((u.length:Nat):Int)))))] ab aB fun bp ah=>?_
 refine wp_seq ?_
 refine qa6 ah (b:=decide (((k:Nat):Int) < ((u.length:Nat):Int))) kz (fun ai=>?_) (fun ai=>?_)
 ·
  have aZ:=of_decide_eq_true ai
  refine wp_skip ?_
  refine qab ?_
  refine wp_seq ?_
  refine wp_block ?_
  refine qan [(0,.v (.slice A u.length c)),(2,.v (.int .i64 ((k:Nat):Int))),(5,.v (.int .i64 ((u.length:Nat):Int))),(6,.v (.int .i64 ((k:Nat):Int)))] ab ah fun bq aC=>?_
  refine qan [(0,.v (.slice A u.length c)),(3,.v (.int .i64 ((k:Nat):Int))),(5,.v (.int .i64 ((u.length:Nat):Int))),(6,.v (.int .i64 ((k:Nat):Int)))] ab aC fun bt aD=>?_
  refine wp_block ?_
  refine qeO ?_
  refine wp_seq ?_
  refine qbz kz ab fun bu ak aa=>?_
  refine qaF [0,1,2] [(0,.v (.slice A u.length c)),(3,.v (.int .i64 ((k:Nat):Int))),(5,.v (.int .i64 ((u.length:Nat):Int))),(6,.v (.int .i64 ((k:Nat):Int))),(12,.v (.bool (decide (((k:Nat):Int) > 0))))] 13 (qaa (qaa (qaa (qae (qae (qaa (qaa (qae qaf)))))))) (fun _ h=>h ▸ aa.cells) rfl aD fun bw al=>?_
  refine (Bool.eq_false_or_eq_true (decide (((k:Nat):Int) > 0))).elim (fun ac=>?_) (fun ac=>?_)
  ·
   have ba:=of_decide_eq_true ac
   have aE:=al.cast (env':=[(0,.v (.slice A u.length c)),(3,.v (.int .i64 ((k:Nat):Int))),(5,.v (.int .i64 ((u.length:Nat):Int))),(6,.v (.int .i64 ((k:Nat):Int))),(12,.v (.bool true))]) (by rw [ac])
   refine qaF [3,4,8,9,10] [(0,.v (.slice A u.length c)),(3,.v (.int .i64 ((k:Nat):Int))),(5,.v (.int .i64 ((u.length:Nat):Int))),(6,.v (.int .i64 ((k:Nat):Int))),(12,.v (.bool true)),(13,.v (.slice A u.length c)),(14,.v (.int .i64 ((k:Nat):Int))),(18,.v (.slice A u.length c)),(20,.v (.int .i64 (IntKind.i64.wrap (((k:Nat):Int) - 1))))] 8 (qaa (qaa (qaa (qae (qae (qaa (qaa (qae qaf)))))))) (fun _ h=>h ▸ aa.cells) rfl aE fun bx aF=>?_
   obtain ⟨az,aA,aG,bf,ae⟩:=Slots.get h2 (i:=k) (by omega)
   obtain ⟨⟨af,bg⟩,am⟩:∃ x,u[k]? = some x:=⟨_,List.getElem?_eq_getElem (by omega)⟩
   obtain ⟨⟨bz,bA,ao,bh⟩,bB,bC⟩:=h3 k af bg am
   rw [ao] at ae
   refine qax aF (i:=5) (t:=25) (A:=A) (m:=u.length) (q:=((k:Nat):Int)) (d:=15) kz (e:=51) (size:=2) (bytes:=32) kz aG rfl (by omega) kz kz (qaa (qaa (qaa (qae (qae (qaa (qaa (qae qaf)))))))) rfl fun bD aH=>?_
   refine qaF [6] [(0,.v (.slice A u.length c)),(3,.v (.int .i64 ((k:Nat):Int))),(5,.v (.int .i64 ((u.length:Nat):Int))),(6,.v (.int .i64 ((k:Nat):Int))),(12,.v (.bool true)),(16,.v (.pointer (some ⟨az,aA + k * 2,none⟩))),(18,.v (.slice A u.length c)),(20,.v (.int .i64 (IntKind.i64.wrap (((k:Nat):Int) - 1))))] 6 (qaa (qaa (qaa (qae (qae (qaa (qaa (qae qaf)))))))) (fun _ h=>h ▸ aa.cells) rfl aH fun bE aI=>?_
   refine qaz aI (i:=7) (t:=48) (b:=az) (o:=aA + k * 2) (d:=17) kz (cs:=[.int .u32 af]) (v:=.int .u32 af) kz (fun w' h'=>h' ▸ (At.drop (AtF.move ae aa.step nilM qat).at_ 0 1)) kz kz (qaa (qaa (qaa (qae (qae (qaa (qaa (qae qaf)))))))) rfl fun bF aJ=>?_
   have aK:IntKind.i64.wrap (((k:Nat):Int) - 1) = (((k - 1):Nat):Int):=by simp only [qar,qaj,qeB,IntKind.wrap_i64,IntKind.wrap_i32]; omega
   have aL:=EnvOk.pick aJ (ks:=[0,3,5,6,12,16,18,20,17]) (env':=[(0,.v (.slice A u.length c)),(3,.v (.int .i64 ((k:Nat):Int))),(5,.v (.int .i64 ((u.length:Nat):Int))),(6,.v (.int .i64 ((k:Nat):Int))),(12,.v (.bool true)),(16,.v (.pointer (some ⟨az,aA + k * 2,none⟩))),(18,.v (.slice A u.length c)),(20,.v (.int .i64 (IntKind.i64.wrap (((k:Nat):Int) - 1)))),(17,.v (.int .u32 af))]) kz
   have aM:=aL.cast (env':=[(0,.v (.slice A u.length c)),(3,.v (.int .i64 ((k:Nat):Int))),(5,.v (.int .i64 ((u.length:Nat):Int))),(6,.v (.int .i64 ((k:Nat):Int))),(12,.v (.bool true)),(16,.v (.pointer (some ⟨az,aA + k * 2,none⟩))),(18,.v (.slice A u.length c)),(20,.v (.int .i64 (((k - 1):Nat):Int))),(17,.v (.int .u32 af))]) (by rw [aK])
   obtain ⟨aV,aW,aO,bi,ag⟩:=Slots.get h2 (i:=(k - 1)) (by omega)
   obtain ⟨⟨ap,bj⟩,ar⟩:∃ x,u[(k - 1)]? = some x:=⟨_,List.getElem?_eq_getElem (by omega)⟩
   obtain ⟨⟨bG,bH,au,bk⟩,bI,bJ⟩:=h3 (k - 1) ap bj ar
   rw [au] at ag
   refine qax aM (i:=11) (t:=25) (A:=A) (m:=u.length) (q:=(((k - 1):Nat):Int)) (d:=21) kz (e:=51) (size:=2) (bytes:=32) kz aO rfl (by omega) kz kz (qaa (qaa (qaa (qae (qae (qaa (qaa (qae qaf)))))))) rfl fun bK aP=>?_
   refine qaF [12] [(0,.v (.slice A u.length c)),(3,.v (.int .i64 ((k:Nat):Int))),(5,.v (.int .i64 ((u.length:Nat):Int))),(6,.v (.int .i64 ((k:Nat):Int))),(12,.v (.bool true)),(17,.v (.int .u32 af)),(22,.v (.pointer (some ⟨aV,aW + (k - 1) * 2,none⟩)))] 3 (qaa (qaa (qaa (qae (qae (qaa (qaa (qae qaf)))))))) (fun _ h=>h ▸ aa.cells) rfl aP fun bL aQ=>?_
   refine qaz aQ (i:=13) (t:=48) (b:=aV) (o:=aW + (k - 1) * 2) (d:=23) kz (cs:=[.int .u32 ap]) (v:=.int .u32 ap) kz (fun w' h'=>h' ▸ (At.drop (AtF.move ag aa.step nilM qat).at_ 0 1)) kz kz (qaa (qaa (qaa (qae (qae (qaa (qaa (qae qaf)))))))) rfl fun bM aR=>?_
   refine qaF [14,15] [(0,.v (.slice A u.length c)),(3,.v (.int .i64 ((k:Nat):Int))),(5,.v (.int .i64 ((u.length:Nat):Int))),(6,.v (.int .i64 ((k:Nat):Int))),(25,.v (.bool (decide (af < ap))))] 0 (qaa (qaa (qaa (qae (qae (qaa (qaa (qae qaf)))))))) (fun _ h=>h ▸ aa.cells) rfl aR fun bN av=>?_
   refine qaV kz ?_ _
   refine qab ?_
   refine qah av (b:=decide (af < ap)) kz (decide_eq_false (qdS hsrt am ar (by omega))) ?_
   refine wp_exit ?_
   refine qaE ?_
   refine qaE ?_
   refine qa4 ?_
   refine qaU ?_
   refine qab ?_
   refine qaw [0,1] kz ?_
   refine qai [0,1] [] [(0,.v (.slice A u.length c)),(5,.v (.int .i64 ((u.length:Nat):Int))),(6,.v (.int .i64 (IntKind.i64.wrap (((k:Nat):Int) + 1))))] aa av fun bO aw=>?_
   refine qad (qab ?_)
   have aS:IntKind.i64.wrap (((k:Nat):Int) + 1) = ((k + 1:Nat):Int):=qbp (by omega)
   rw [aS] at aw
   exact ⟨u.length - (k + 1),by omega,k + 1,rfl,by omega,aw.pk,aa,(aj.trans ak)⟩
  have bn:=of_decide_eq_false ac
  have aT:=al.cast (env':=[(0,.v (.slice A u.length c)),(3,.v (.int .i64 ((k:Nat):Int))),(5,.v (.int .i64 ((u.length:Nat):Int))),(6,.v (.int .i64 ((k:Nat):Int))),(12,.v (.bool false))]) (by rw [ac])
  refine qaF [3,4,5,6,7,8,9,10,11,12,13,14,15] [(0,.v (.slice A u.length c)),(3,.v (.int .i64 ((k:Nat):Int))),(5,.v (.int .i64 ((u.length:Nat):Int))),(6,.v (.int .i64 ((k:Nat):Int))),(25,.v (.bool false))] 0 (qaa (qaa (qaa (qae (qae (qaa (qaa (qae qaf)))))))) (fun _ h=>h ▸ aa.cells) rfl aT fun bP ax=>?_
  refine qaV kz ?_ _
  refine qab ?_
  refine qah ax (b:=false) kz rfl ?_
  refine wp_exit ?_
  refine qaE ?_
  refine qaE ?_
  refine qa4 ?_
  refine qaU ?_
  refine qab ?_
  refine qaw [0,1] kz ?_
  refine qai [0,1] [] [(0,.v (.slice A u.length c)),(5,.v (.int .i64 ((u.length:Nat):Int))),(6,.v (.int .i64 (IntKind.i64.wrap (((k:Nat):Int) + 1))))] aa ax fun bQ ay=>?_
  refine qad (qab ?_)
  have aU:IntKind.i64.wrap (((k:Nat):Int) + 1) = ((k + 1:Nat):Int):=qbp (by omega)
  rw [aU] at ay
  exact ⟨u.length - (k + 1),by omega,k + 1,rfl,by omega,ay.pk,aa,(aj.trans ak)⟩
 have bo:=of_decide_eq_false ai
 refine wp_exit ?_
 refine qaE ?_
 refine qaE ?_
 refine qa4 ?_
 refine qa0 ah ab.cells (v:=.tuple #[]) kz ?_
 exact ⟨rfl,ab.step⟩
theorem qbw:qep Tryd.prog 36 51:=by
 intro w B cp c n k A Av x x0 x1 x2 x3 xs G hbx ho hG hn
 refine enter (n:=14) Tryd.func36 rfl Tryd.ntmps36 kz fun a hE=>?_
 have hW:=hbx.wok
 have hE0:=(hE.grow ⟨B,0,[x0,x1,x2,x3,.slice A n cp],true⟩).recast 2 (.v (.pointer (some ⟨B,0,none⟩))) (.p 0 0) rfl rfl (by simp [SV.ok])
 have hsm:=Slots.small ho
 have ap:=hE0.pk (env':=[(0,.v (.int .u32 k)),(1,.v (.slice Av x.length c)),(2,.p 0 0)])
 refine qdj 9 kz hW fun w1 hF2 hW3 hT4=>?_
 refine qaF [0,1,2,3] [(2,.p 0 0),(6,.v (.slice A n cp)),(7,.v (.int .u32 k)),(8,.v (.slice Av x.length c))] 6 qaf (fun _ h=>h.cells) hT4 ap fun a5 hE6=>?_
 have hW7:=hW3.addNil 5 1
 have hF8:=hW3.frNil 5 1
 refine qa1 (i:=4) kz (qbc hW7 hE6 (k:=1) (d:=9) (t:=22) (e:=5) (size:=1) (bytes:=1) (A:=none) (As:=Av) (m0:=0) (c:=0) (m:=x.length) (cs:=c) (xs:=[]) (news:=bc x) kz kz rfl (ho.move hW7.step (fun b o h _=>hG b o h) qat).src (ho.move hW7.step (fun b o h _=>hG b o h) qat).cap (by first | omega | (simp only [List.length_nil]; omega) | (simp; omega)) fun A9 aa aK aL ac ar au=>?_)
 have av:(⟨A9,aa,5,1,0 + x.length,[] ++ bc x⟩:Rw) = brow A9 aa 5 x:=by rw [List.nil_append,Nat.zero_add]
 obtain ⟨af,ae⟩:=ar.rowEq 1 [⟨A,cp,51,2,n,xs⟩,brow A9 aa 5 x] av
 have aw:=EnvOk.pick au (ks:=[2,6,7,8,9]) (env':=[(2,.p 0 0),(6,.v (.slice A n cp)),(7,.v (.int .u32 k)),(8,.v (.slice Av x.length c)),(9,.v (.slice A9 (0 + x.length) aa))]) kz
 have ax:=aw.cast (env':=[(2,.p 0 0),(6,.v (.slice A n cp)),(7,.v (.int .u32 k)),(8,.v (.slice Av x.length c)),(9,.v (.slice A9 x.length aa))]) (by simp only [List.length_append,List.length_cons,List.length_nil,Nat.zero_add])
 have ag:=TT.ofW ((hF8.trans ac).trans ae) af
 refine ⟨fun _=>ag,?_⟩
 refine qaF [5] [(2,.p 0 0),(6,.v (.slice A n cp)),(10,.v (.agg #[.int .u32 k,.slice A9 x.length aa]))] 4 qaf (fun _ h=>h.cells) ag ax fun aM ay=>?_
 refine qa1 (i:=6) kz (qdi af ay (e:=51) (size:=2) (len:=1) (cs:=[.int .u32 k,.slice A9 x.length aa]) (d:=11) kz kz fun aF aO aP aG aH ah ab az=>?_)
 have aA:=TT.ofW (((hF8.trans ac).trans ae).trans ah) ab
 refine ⟨fun _=>aA,?_⟩
 refine qa1 (i:=7) kz (qbc ab az (k:=0) (d:=12) (t:=25) (e:=51) (size:=2) (bytes:=32) (A:=A) (As:=(some ⟨aF,0,none⟩)) (m0:=n) (c:=cp) (m:=1) (cs:=1) (xs:=xs) (news:=[.int .u32 k,.slice A9 x.length aa]) kz kz rfl (qcN (ab.own 2 _ rfl) (qbL kz)) (qd6 (ab.own 2 _ rfl)) (by first | omega | (simp only [List.length_nil]; omega) | (simp; omega)) fun am ao aQ aR aB ai aC=>?_)
 have aj:=TT.ofW ((((hF8.trans ac).trans ae).trans ah).trans aB) ai
 refine ⟨fun _=>aj,?_⟩
 refine qaF [8] [(12,.v (.slice am (n + 1) ao)),(13,.p 0 4)] 1 qaf (fun _ h=>h.cells) aj aC fun aS aD=>?_
 refine qa1 (i:=9) kz (qam ai aD (oi:=0) (cs:=[x0,x1,x2,x3,.slice am (n + 1) ao]) kz fun aT aI ak aE=>?_)
 refine ⟨fun h=>absurd rfl h,?_⟩
 refine qaV kz ?_ _
 refine qa0 aE ak.cells (v:=.tuple #[]) kz ?_
 obtain ⟨al,aJ⟩:=ak.cutR 2 [⟨am,ao,51,2,n + 1,xs ++ [.int .u32 k,.slice A9 x.length aa]⟩,brow A9 aa 5 x]
 have hoo:=qeq (s:=x) (Av:=A9) (c:=aa) (e8:=5) rfl al (by omega)
 obtain ⟨hb1,hb2,hb3⟩:=qft al (World.lt_of_cell (hbx.str.at_ 0 _ rfl))
 exact ⟨rfl,am,ao,A9,aa,hb1,hoo,hb2,hb3⟩
end Go.Proofs.YtmpejmiiphddhaaDoorR.ME
namespace Go.Proofs.YtmpejmiiphddhaaDoorR.ME
open Go
open Go.RowKit
set_option linter.unusedVariables false
set_option linter.unusedSimpArgs false
set_option maxRecDepth 20000
set_option maxHeartbeats 4000000 in
theorem qbe (v:Int) (D:DV) (b o:Nat) (w:World) (F:Nat → Nat → Prop) (hat:AtF w F b o [.int .i16 v,.int .i32 ((D.f 0).n),.int .i64 ((D.f 1).n),.map D.m]) (hok:qay w F D):Calls Tryd.prog 25 #[.pointer (some ⟨b,o,none⟩)] w (qc1 w F (qaD D)):=by
 refine enter (n:=32) Tryd.func25 rfl Tryd.ntmps25 kz fun a hE=>?_
 have hW:WOk w Nil w [⟨b,o,[.int .i16 v,.int .i32 ((D.f 0).n),.int .i64 ((D.f 1).n),.map D.m],false⟩] []:=(WOk.start w Nil).start1 hat rfl rfl
 unfold qay at hok
 obtain ⟨g1,g2,g3,g3l,g3x,_⟩:=hok
 have hE0:=(EnvOk.ptr0 (cs:=[.int .i16 v,.int .i32 ((D.f 0).n),.int .i64 ((D.f 1).n),.map D.m]) (r:=false) hE).pk (env':=[(0,.p 0 0)])
 refine qac [0] kz ?_
 refine qag (qaB hW hE0 (d:=2) (cs:=[.int .i64 0,.slice none 0 0,.bool false,.slice none 0 0,.slice none 0 0]) kz fun b4 a5 w6 hb7 hz8 hF9 hW10 hE11=>?_)
 refine qad (qab ?_)
 refine qac [0,1,2,3] kz ?_
 refine qag (qdR (t:=24) (e:=27) (size:=5) (bytes:=88) (d:=4) (j:=2) (.agg #[.int .i64 0,.slice none 0 0,.bool false,.slice none 0 0,.slice none 0 0]) [.int .i64 0,.slice none 0 0,.bool false,.slice none 0 0,.slice none 0 0,.int .i64 0,.slice none 0 0,.bool false,.slice none 0 0,.slice none 0 0] hW10 hE11 fun b12 a13 w14 hb15 hz16 hF17 hW18 hE19=>?_)
 refine qai [1] [2,3] [(0,.p 0 0),(2,.p 1 0),(5,.v (.agg #[.int .i64 0,.slice none 0 0,.bool false,.slice (some ⟨b12,0,none⟩) 2 2,.slice none 0 0]))] hW18 hE19 fun a20 hE21=>?_
 refine qag (qaB hW18 hE21 (d:=3) (cs:=[.int .i64 0,.slice none 0 0,.bool false,.slice none 0 0,.slice none 0 0]) kz fun b22 a23 w24 hb25 hz26 hF27 hW28 hE29=>?_)
 refine qag (qam hW28 hE29 (oi:=3) (cs:=[.int .i64 0,.slice none 0 0,.bool false,.slice (some ⟨b12,0,none⟩) 2 2,.slice none 0 0]) kz fun w30 hF31 hW32 hE33=>?_)
 refine qad (qab ?_)
 refine qa5 9 kz hW32 fun w34 hF35 hW36 hT37=>?_
 refine qaF [0,1,2,3,4,5,6,7] [(0,.p 0 0),(2,.p 1 0),(3,.p 3 0),(7,.v (.slice (some ⟨b12,0,none⟩) 2 2)),(13,.v (.agg #[.int .i64 (IntKind.i64.wrap ((D.f 0).n)),.slice none 0 0,.bool false,.slice none 0 0,.slice none 0 0]))] 2 (qaa qaf) (fun _ h=>h.cells) hT37 hE33 fun a38 hE39=>?_
 refine qax hE39 (i:=8) (t:=24) (A:=(some ⟨b12,0,none⟩)) (m:=2) (q:=0) (d:=14) kz (e:=27) (size:=5) (bytes:=88) (j:=0) kz (b:=b12) (o:=0) rfl rfl (by decide) kz kz (qaa qaf) hT37 fun a40 hE41=>?_
 have hE42:=hE41.recast 14 (.v (.pointer (some ⟨b12,0 + 0 * 5,none⟩))) (.p 2 0) rfl rfl (Nat.le_of_ble_eq_true (n:=3) rfl)
 have hE43:=hE42.pk (env':=[(0,.p 0 0),(2,.p 1 0),(3,.p 3 0),(7,.v (.slice (some ⟨b12,0,none⟩) 2 2)),(13,.v (.agg #[.int .i64 (IntKind.i64.wrap ((D.f 0).n)),.slice none 0 0,.bool false,.slice none 0 0,.slice none 0 0])),(14,.p 2 0)])
 refine qa1 (i:=9) kz (qam hW36 hE43 (oi:=2) (cs:=[.int .i64 (IntKind.i64.wrap ((D.f 0).n)),.slice none 0 0,.bool false,.slice none 0 0,.slice none 0 0,.int .i64 0,.slice none 0 0,.bool false,.slice none 0 0,.slice none 0 0]) kz fun w44 hF45 hW46 hE47=>?_)
 refine ⟨fun h=>absurd rfl h,?_⟩
 refine qaV kz ?_ _
 refine qab ?_
 refine qa5 8 kz hW46 fun w48 hF49 hW50 hT51=>?_
 refine qaF [0,1,2,3,4,5,6] [(0,.p 0 0),(2,.p 1 0),(3,.p 3 0),(16,.v (.slice (some ⟨b12,0,none⟩) 2 2)),(21,.v (.agg #[.int .i64 ((D.f 1).n),.slice none 0 0,.bool false,.slice none 0 0,.slice none 0 0]))] 2 (qaa qaf) (fun _ h=>h.cells) hT51 hE47 fun a52 hE53=>?_
 refine qax hE53 (i:=7) (t:=24) (A:=(some ⟨b12,0,none⟩)) (m:=2) (q:=1) (d:=22) kz (e:=27) (size:=5) (bytes:=88) (j:=1) kz (b:=b12) (o:=0) rfl rfl (by decide) kz kz (qaa qaf) hT51 fun a54 hE55=>?_
 have hE56:=hE55.recast 22 (.v (.pointer (some ⟨b12,0 + 1 * 5,none⟩))) (.p 2 5) rfl rfl (Nat.le_of_ble_eq_true (n:=3) rfl)
 have hE57:=hE56.pk (env':=[(0,.p 0 0),(2,.p 1 0),(3,.p 3 0),(16,.v (.slice (some ⟨b12,0,none⟩) 2 2)),(21,.v (.agg #[.int .i64 ((D.f 1).n),.slice none 0 0,.bool false,.slice none 0 0,.slice none 0 0])),(22,.p 2 5)])
 refine qa1 (i:=8) kz (qam hW50 hE57 (oi:=2) (cs:=[.int .i64 (IntKind.i64.wrap ((D.f 0).n)),.slice none 0 0,.bool false,.slice none 0 0,.slice none 0 0,.int .i64 ((D.f 1).n),.slice none 0 0,.bool false,.slice none 0 0,.slice none 0 0]) kz fun w58 hF59 hW60 hE61=>?_)
 refine ⟨fun h=>absurd rfl h,?_⟩
 refine qaV kz ?_ _
 refine qab ?_
 refine qac [0,1,2,3,4] kz ?_
 refine qai [0,1,2] [3,4] [(2,.p 1 0),(3,.p 3 0),(25,.p 0 3)] hW60 hE61 fun a62 hE63=>?_
 refine qag (qdm hE63 (v:=.func (.func 36) #[] #[.pointer (some ⟨b22,0,none⟩)]) (d:=26) kz fun a64 hE65=>?_)
 refine qag (qaq hE65 (f:=31) (vs:=[.pointer (some ⟨b,o + 3,none⟩),.func (.func 36) #[] #[.pointer (some ⟨b22,0,none⟩)]]) (d:=27) kz Tryd.call31 (qer (F:=(Imm F w w58 [⟨b,o,[.int .i16 v,.int .i32 ((D.f 0).n),.int .i64 ((D.f 1).n),.map D.m],false⟩,⟨b4,0,[.int .i64 0,.slice none 0 0,.bool false,.slice none 0 0,.slice none 0 0],true⟩,⟨b12,0,[.int .i64 (IntKind.i64.wrap ((D.f 0).n)),.slice none 0 0,.bool false,.slice none 0 0,.slice none 0 0,.int .i64 ((D.f 1).n),.slice none 0 0,.bool false,.slice none 0 0,.slice none 0 0],true⟩,⟨b22,0,[.int .i64 0,.slice none 0 0,.bool false,.slice (some ⟨b12,0,none⟩) 2 2,.slice none 0 0],true⟩] [])) Tryd.call36 qbw ((hat.one 3 rfl).move hW60.step nilM hW60.imm) (g3.move hW60.step nilM hW60.imm) (Str.of hW60 3 rfl) (qeh 3 rfl) g3l) ?_)
 rintro e_ w66 ⟨rfl,A67,c68,hst69,hU70,hs71⟩
 obtain ⟨hW72,hF73,hl74⟩:=hW60.wrote 3 [⟨b,o,[.int .i16 v,.int .i32 ((D.f 0).n),.int .i64 ((D.f 1).n),.map D.m],false⟩,⟨b4,0,[.int .i64 0,.slice none 0 0,.bool false,.slice none 0 0,.slice none 0 0],true⟩,⟨b12,0,[.int .i64 (IntKind.i64.wrap ((D.f 0).n)),.slice none 0 0,.bool false,.slice none 0 0,.slice none 0 0,.int .i64 ((D.f 1).n),.slice none 0 0,.bool false,.slice none 0 0,.slice none 0 0],true⟩,⟨b22,0,[.int .i64 0,.slice none 0 0,.bool false,.slice (some ⟨b12,0,none⟩) 2 2,.slice A67 D.u.length c68],true⟩] rfl hs71 hst69
 have hU78:=hU70.move (Step.refl _ Nil) nilM (fun b_ o_ h_ hb_=>hl74 (G:=F) b_ o_ (.inr h_) hb_)
 refine ⟨_,rfl,fun a75 hE76=>?_⟩
 have hE77:=(EnvOk.places (tb':=[⟨b,o,[.int .i16 v,.int .i32 ((D.f 0).n),.int .i64 ((D.f 1).n),.map D.m],false⟩,⟨b4,0,[.int .i64 0,.slice none 0 0,.bool false,.slice none 0 0,.slice none 0 0],true⟩,⟨b12,0,[.int .i64 (IntKind.i64.wrap ((D.f 0).n)),.slice none 0 0,.bool false,.slice none 0 0,.slice none 0 0,.int .i64 ((D.f 1).n),.slice none 0 0,.bool false,.slice none 0 0,.slice none 0 0],true⟩,⟨b22,0,[.int .i64 0,.slice none 0 0,.bool false,.slice (some ⟨b12,0,none⟩) 2 2,.slice A67 D.u.length c68],true⟩]) hE76 (show Pl [⟨b,o,[.int .i16 v,.int .i32 ((D.f 0).n),.int .i64 ((D.f 1).n),.map D.m],false⟩,⟨b4,0,[.int .i64 0,.slice none 0 0,.bool false,.slice none 0 0,.slice none 0 0],true⟩,⟨b12,0,[.int .i64 (IntKind.i64.wrap ((D.f 0).n)),.slice none 0 0,.bool false,.slice none 0 0,.slice none 0 0,.int .i64 ((D.f 1).n),.slice none 0 0,.bool false,.slice none 0 0,.slice none 0 0],true⟩,⟨b22,0,[.int .i64 0,.slice none 0 0,.bool false,.slice (some ⟨b12,0,none⟩) 2 2,.slice none 0 0],true⟩] [⟨b,o,[.int .i16 v,.int .i32 ((D.f 0).n),.int .i64 ((D.f 1).n),.map D.m],false⟩,⟨b4,0,[.int .i64 0,.slice none 0 0,.bool false,.slice none 0 0,.slice none 0 0],true⟩,⟨b12,0,[.int .i64 (IntKind.i64.wrap ((D.f 0).n)),.slice none 0 0,.bool false,.slice none 0 0,.slice none 0 0,.int .i64 ((D.f 1).n),.slice none 0 0,.bool false,.slice none 0 0,.slice none 0 0],true⟩,⟨b22,0,[.int .i64 0,.slice none 0 0,.bool false,.slice (some ⟨b12,0,none⟩) 2 2,.slice A67 D.u.length c68],true⟩] from ⟨rfl,rfl,⟨rfl,rfl,⟨rfl,rfl,⟨rfl,rfl,trivial⟩⟩⟩⟩)).pk (env':=[(27,.v (.tuple #[])),(2,.p 1 0),(3,.p 3 0),(25,.p 0 3),(26,.v (.func (.func 36) #[] #[.pointer (some ⟨b22,0,none⟩)]))])
 refine qad (qab ?_)
 refine qac [0,1,2] kz ?_
 refine qai [0,1] [2] [(2,.p 1 0),(3,.p 3 0),(29,.v (.slice A67 D.u.length c68))] hW72 hE77 fun a79 hE80=>?_
 refine qag (qaq hE80 (f:=33) (vs:=[.slice A67 D.u.length c68]) (d:=30) kz Tryd.call33 (qfu hU78 g3.sorted) ?_)
 rintro e_ w82 ⟨rfl,hs81⟩
 refine ⟨_,rfl,fun a83 hE84=>?_⟩
 have hW85:=hW72.next_nil hs81
 have hF86:=hW72.frN hs81
 refine qad (qab ?_)
 refine qac [0,1] kz ?_
 refine qai [0] [1] [(2,.p 1 0),(31,.v (.agg #[.int .i64 0,.slice none 0 0,.bool false,.slice (some ⟨b12,0,none⟩) 2 2,.slice A67 D.u.length c68]))] hW85 hE84 fun a87 hE88=>?_
 refine qag (qam hW85 hE88 (oi:=1) (cs:=[.int .i64 0,.slice none 0 0,.bool false,.slice (some ⟨b12,0,none⟩) 2 2,.slice A67 D.u.length c68]) kz fun w89 hF90 hW91 hE92=>?_)
 refine qad (qab ?_)
 refine wp_ret ?_
 refine qaO hE92 hW91.cells (v:=.agg #[.int .i64 0,.slice none 0 0,.bool false,.slice (some ⟨b12,0,none⟩) 2 2,.slice A67 D.u.length c68]) kz ?_
 exact qeV (u:=D.u) (l:=[.mk (IntKind.i64.wrap (D.f 0).n) [] false [] [],.mk ((D.f 1).n) [] false [] []]) (css:=[[.int .i64 (IntKind.i64.wrap ((D.f 0).n)),.slice none 0 0,.bool false,.slice none 0 0,.slice none 0 0],[.int .i64 ((D.f 1).n),.slice none 0 0,.bool false,.slice none 0 0,.slice none 0 0]]) hW91 2 rfl ⟨(show TreeR _ (Imm F w w89 [⟨b,o,[.int .i16 v,.int .i32 ((D.f 0).n),.int .i64 ((D.f 1).n),.map D.m],false⟩,⟨b4,0,[.int .i64 0,.slice none 0 0,.bool false,.slice (some ⟨b12,0,none⟩) 2 2,.slice A67 D.u.length c68],true⟩,⟨b12,0,[.int .i64 (IntKind.i64.wrap ((D.f 0).n)),.slice none 0 0,.bool false,.slice none 0 0,.slice none 0 0,.int .i64 ((D.f 1).n),.slice none 0 0,.bool false,.slice none 0 0,.slice none 0 0],true⟩,⟨b22,0,[.int .i64 0,.slice none 0 0,.bool false,.slice (some ⟨b12,0,none⟩) 2 2,.slice A67 D.u.length c68],true⟩] []) _ _ from (TreeR.mk (n:=IntKind.i64.wrap ((D.f 0).n)) (b:=false) (s:=[]) (l:=[]) (u:=[]) (fun _=>[]) (Octs.nil _ _) (Slots.nil _ _ _ _) (fun i_ x_ h_=>by simp at h_) (TagsR.nil _ _))).move (Step.refl _ Nil) nilM qb8,(show TreeR _ (Imm F w w89 [⟨b,o,[.int .i16 v,.int .i32 ((D.f 0).n),.int .i64 ((D.f 1).n),.map D.m],false⟩,⟨b4,0,[.int .i64 0,.slice none 0 0,.bool false,.slice (some ⟨b12,0,none⟩) 2 2,.slice A67 D.u.length c68],true⟩,⟨b12,0,[.int .i64 (IntKind.i64.wrap ((D.f 0).n)),.slice none 0 0,.bool false,.slice none 0 0,.slice none 0 0,.int .i64 ((D.f 1).n),.slice none 0 0,.bool false,.slice none 0 0,.slice none 0 0],true⟩,⟨b22,0,[.int .i64 0,.slice none 0 0,.bool false,.slice (some ⟨b12,0,none⟩) 2 2,.slice A67 D.u.length c68],true⟩] []) _ _ from (TreeR.mk (n:=(D.f 1).n) (b:=false) (s:=[]) (l:=[]) (u:=[]) (fun _=>[]) (Octs.nil _ _) (Slots.nil _ _ _ _) (fun i_ x_ h_=>by simp at h_) (TagsR.nil _ _))).move (Step.refl _ Nil) nilM qb8,trivial⟩ ((show TagsR _ (Imm F w w89 [⟨b,o,[.int .i16 v,.int .i32 ((D.f 0).n),.int .i64 ((D.f 1).n),.map D.m],false⟩,⟨b4,0,[.int .i64 0,.slice none 0 0,.bool false,.slice (some ⟨b12,0,none⟩) 2 2,.slice A67 D.u.length c68],true⟩,⟨b12,0,[.int .i64 (IntKind.i64.wrap ((D.f 0).n)),.slice none 0 0,.bool false,.slice none 0 0,.slice none 0 0,.int .i64 ((D.f 1).n),.slice none 0 0,.bool false,.slice none 0 0,.slice none 0 0],true⟩,⟨b22,0,[.int .i64 0,.slice none 0 0,.bool false,.slice (some ⟨b12,0,none⟩) 2 2,.slice A67 D.u.length c68],true⟩] []) _ _ _ from (hU78.move (hF86.trans hF90).step immM (hF86.trans hF90).to')).move (Step.refl _ Nil) nilM qb8)
end Go.Proofs.YtmpejmiiphddhaaDoorR.ME
namespace Go.Proofs.YtmpejmiiphddhaaDoorR.ME
open Go
open Go.RowKit
set_option linter.unusedVariables false
set_option linter.unusedSimpArgs false
set_option maxRecDepth 20000
structure UTR (w w':World) (br p2 p3:Nat) (F:Nat → Nat → Prop) (A:Option Addr) (n c:Nat) (σ:Sg) (m:Option Nat) (u:List (Int × Bs)):Prop where
 step:Step w w' (RdM br)
 old:br < w.heap.size
 new2:w.heap.size ≤ p2
 new3:w.heap.size ≤ p3
 ne:p2 ≠ p3
 rd:Str w' br [.slice A n c,.bool σ.1]
 s2:Str w' p2 [.map none]
 s3:Str w' p3 [.map m]
 oct:RdS w' (fun b o=>F b o ∧ b < w.heap.size) A n c σ.2
 own:OwnM w' (fun b o=>F b o ∧ b < w.heap.size) m u
 new:∀ r,m = some r → w.heap.size ≤ r
theorem UTR.mne {w w':World} {br p2 p3:Nat} {F:Nat → Nat → Prop} {A:Option Addr} {n c:Nat} {s:Sg} {m:Option Nat} {u:List (Int × Bs)} (h:UTR w w' br p2 p3 F A n c s m u):m ≠ some p2 ∧ m ≠ some p3:=by
 refine ⟨fun e=>?_,fun e=>?_⟩
 ·obtain ⟨es,clk,h1,_⟩:=h.own.some_ p2 e
  exact qce (h.s2.at_ 0 _ rfl) h1 rfl
 obtain ⟨es,clk,h1,_⟩:=h.own.some_ p3 e
 exact qce (h.s3.at_ 0 _ rfl) h1 rfl
theorem UTR.read {w w' w1:World} {br p2 p3:Nat} {F:Nat → Nat → Prop} {A A':Option Addr} {n c n' c':Nat} {s s':Sg} {m:Option Nat} {u:List (Int × Bs)} (h:UTR w w' br p2 p3 F A n c s m u) (hFd:∀ b o,F b o → ¬ RdM br b o) (hs:Str w1 br [.slice A' n' c',.bool s'.1]) (hr:RdS w1 (fun b o=>F b o ∧ b < w.heap.size) A' n' c' s'.2) (hst:Step w' w1 (RdM br)):UTR w w1 br p2 p3 F A' n' c' s' m u:=by
 have ho:=h.old
 have h2:=h.new2
 have h3:=h.new3
 refine ⟨h.step.trans hst fun _ _ _ e=>e,ho,h2,h3,h.ne,hs,h.s2.move hst fun o e=>?_,h.s3.move hst fun o e=>?_,hr,h.own.move hst (fun b o hg _=>hFd b o hg.1) qat (fun r o e he=>?_),h.new⟩
 ·have:=e.1; omega
 ·have:=e.1; omega
 have:=h.new r e; have:=he.1; omega
theorem UTR.set {w w':World} {br p2 p3:Nat} {F:Nat → Nat → Prop} {A A1:Option Addr} {n c c1:Nat} {s:Sg} {x:Bs} {k:Int} {m:Option Nat} {u:List (Int × Bs)} (h:UTR w w' br p2 p3 F A n c s m u) (hx:Octs w' (fun b o=>F b o ∧ b < w.heap.size) A1 c1 x) (hk:0 ≤ k ∧ k < 4294967296) :
  Calls Tryd.prog 60 [.pointer (some ⟨p3,0,none⟩),.int .u32 k,.slice A1 x.length c1].toArray w' (fun e w1=>e = .returned (.tuple #[]) ∧ ∃ r,UTR w w1 br p2 p3 F A n c s (some r) (setT u k x)):=by
 have hcell:w'.cell? ⟨p3,0,none⟩ = some (.map m):=h.s3.at_ 0 _ rfl
 have hfz:w'.frozen? ⟨p3,0,none⟩ = false:=h.s3.frz 0 (by simp)
 have hnew:=h.new
 have h2:=h.new2
 have h3:=h.new3
 have ho:=h.old
 have hsz:=h.step.size
 obtain ⟨m2,m3⟩:=h.mne
 refine (qeH hcell hfz h.own hx hk (fun b' o' hg=>⟨fun e=>?_,fun e=>?_⟩) (fun b' o' hg=>Nat.lt_of_lt_of_le hg.2 hsz)).mono ?_
 ·have:=hg.2; omega
 ·have:=hnew b' e; have:=hg.2; omega
 rintro e w1 ⟨rfl,r,g1,g2,g3,g4,g5⟩
 refine ⟨rfl,r,h.step.trans g5 fun b o hl e=>?_,ho,h2,h3,h.ne,h.rd.move g5 fun o e=>?_,h.s2.move g5 fun o e=>?_,⟨fun i v hi=>?_,fun i hi=>?_⟩,⟨h.oct.len,Octs.move h.oct.oct g5 (fun b o hg _ e=>?_) qat⟩,g3,fun r' hr'=>?_⟩
 ·rcases e with ⟨e1,_⟩ | e1
  ·omega
  have:=hnew b e1; omega
 ·rcases e with ⟨e1,_⟩ | e1
  ·omega
  have:=hnew br e1; omega
 ·rcases e with ⟨e1,_⟩ | e1
  ·exact h.ne e1
  exact m2 e1
 ·cases i with
  | zero =>
   simp only [List.getElem?_cons_zero,Option.some.injEq] at hi
   subst hi
   exact g1
  | succ i=>simp at hi
 ·have:i = 0:=by simp at hi; omega
  subst this
  exact g2
 ·have:=hg.2
  rcases e with ⟨e1,_⟩ | e1
  ·omega
  have:=hnew b e1; omega
 obtain rfl:=Option.some.inj hr'
 rcases g4 with g4 | g4
 ·exact hnew _ g4
 exact Nat.le_trans hsz g4
theorem qeW (σ:Sg) {br:Nat} {A:Option Addr} {m c:Nat} {w:World} {F:Nat → Nat → Prop} (hst:Str w br [.slice A m c,.bool σ.1]) (hr:RdS w F A m c σ.2) (hFd:∀ b o,F b o → ¬ RdM br b o) :
  Calls Tryd.prog 50 #[.pointer (some ⟨br,0,none⟩)] w (RdPostT w br (Fp F w) (qdP σ) fun v w'=>∃ mm,v = .agg #[.map mm] ∧ MapR w' (Fp F w) mm (qcy σ)):=by
 have hbr:br < w.heap.size:=World.lt_of_cell (hst.at_ 0 _ rfl)
 refine enter (n:=24) (vs:=[.pointer (some ⟨br,0,none⟩)]) Tryd.func50 rfl Tryd.ntmps50 kz fun a hE=>?_
 have hW:=WOk.start w Nil
 refine qac [0] kz ?_
 refine qag (qaB hW hE (d:=2) (cs:=[.map none]) kz fun p2 a1 w1 hp2 hz2 hF1 hW1 hE1=>qad (qab ?_))
 refine qac [0] kz ?_
 refine qag (qaB hW1 hE1 (d:=3) (cs:=[.map none]) kz fun p3 a2 w2 hp3 hz3 hF2 hW2 hE2=>qad (qab ?_))
 have hne:p2 ≠ p3:=by
  have h1:=hW1.live 0 _ rfl
  simp only at h1
  omega
 have hS:Step w w2 Nil:=hW2.step
 have hT0:UTR w w2 br p2 p3 F A m c σ none []:=by
  refine ⟨hS.mono fun _ _ _ h=>h.elim,hbr,hz2,hz3,hne,hst.move hS (fun _ h=>h),Str.of hW2 0 rfl,Str.of hW2 1 rfl,hr.move hS nilM (fun b o h hb=>⟨h,hb⟩),?_,fun _ h=>by cases h⟩
  exact OwnM.nil _ _
 refine wp_seq ?_
 have hE3:=(((hE2.recast 2 (.p 0 0) (.v (.pointer (some ⟨p2,0,none⟩))) rfl rfl trivial).recast 3 (.p 1 0) (.v (.pointer (some ⟨p3,0,none⟩))) rfl rfl trivial).pick (ks:=[0,2,3]) (env':=[(0,.v (.pointer (some ⟨br,0,none⟩))),(2,.v (.pointer (some ⟨p2,0,none⟩))),(3,.v (.pointer (some ⟨p3,0,none⟩)))]) kz).cutTb 0 kz
 have hWz:=WOk.start w2 Nil
 refine qac [0,1,2] kz ?_
 refine qai [0] [1,2] [(0,.v (.pointer (some ⟨br,0,none⟩))),(2,.v (.pointer (some ⟨p2,0,none⟩))),(3,.v (.pointer (some ⟨p3,0,none⟩))),(7,.v (.pointer (some ⟨br,0,none⟩)))] hWz hE3 fun a3 hE4=>?_
 have hFd':∀ b o,(F b o ∧ b < w.heap.size) → ¬ RdM br b o:=fun b o h=>hFd b o h.1
 refine qag (qaq hE4 (f:=56) (vs:=[.pointer (some ⟨br,0,none⟩)]) (d:=8) kz Tryd.call56 (qcz σ hT0.rd hT0.oct hFd') ?_)
 rintro e_ w3 ⟨_,A3,n3,c3,rfl,hs3,hr3,hst3,rfl⟩
 have hT1:=hT0.read hFd hs3 hr3 hst3
 refine ⟨_,rfl,fun a4 hE5=>?_⟩
 refine qai [2] [] [(0,.v (.pointer (some ⟨br,0,none⟩))),(2,.v (.pointer (some ⟨p2,0,none⟩))),(3,.v (.pointer (some ⟨p3,0,none⟩))),(4,.v (.int .u32 ((uUv σ:Nat):Int)))] (WOk.start w3 Nil) hE5 fun a5 hE6=>qad (qab ?_)
 refine wp_block ?_
 refine wp_loop_ghost (fun q a_ w_=>∃ (p:Nat) (u_:List (Int × Bs)) (σ_:Sg) (m_:Option Nat) (A_:Option Addr) (n_ c_:Nat),q = p ∧ p < 4294967296 ∧ qcA p u_ σ_ = qcA (uUv σ) [] (aUv σ) ∧ qbV u_ ∧ (∀ x ∈ u_,0 ≤ x.1 ∧ x.1 < 4294967296) ∧ EnvOk 24 [] [(0,.v (.pointer (some ⟨br,0,none⟩))),(2,.v (.pointer (some ⟨p2,0,none⟩))),(3,.v (.pointer (some ⟨p3,0,none⟩))),(4,.v (.int .u32 ((p:Nat):Int)))] a_ ∧ UTR w w_ br p2 p3 F A_ n_ c_ σ_ m_ u_) (uUv σ)
  ⟨uUv σ,[],aUv σ,none,A3,n3,c3,rfl,qds σ,rfl,List.Pairwise.nil,(fun x hx=>by cases hx),hE6,hT1⟩ ?_
 rintro q aq wq ⟨p,u,σ_,m_,A_,n_,c_,rfl,hplt,htg,hsort,hk,hEq,hT⟩
 have hWq:=WOk.start wq Nil
 refine wp_seq (qan [(0,.v (.pointer (some ⟨br,0,none⟩))),(2,.v (.pointer (some ⟨p2,0,none⟩))),(3,.v (.pointer (some ⟨p3,0,none⟩))),(4,.v (.int .u32 ((q:Nat):Int))),(10,.v (.bool (decide (((q:Nat):Int) > 0))))] hWq hEq fun aq1 hE7=>?_)
 refine qa6 hE7 (b:=decide (((q:Nat):Int) > 0)) kz (fun hc=>?_) (fun hc=>?_)
 ·obtain ⟨p,rfl⟩:∃ p,q = p + 1:=⟨q - 1,by have:=of_decide_eq_true hc; omega⟩
  have hka:=qds σ_
  have hkb:=qds (aUv σ_)
  refine wp_skip (qab (wp_seq (wp_block ?_)))
  refine qac [0,1,2,3,4,5] kz ?_
  refine qai [0] [1,2,3,4,5] [(0,.v (.pointer (some ⟨br,0,none⟩))),(2,.v (.pointer (some ⟨p2,0,none⟩))),(3,.v (.pointer (some ⟨p3,0,none⟩))),(4,.v (.int .u32 ((p + 1:Nat):Int))),(13,.v (.pointer (some ⟨br,0,none⟩)))] hWq hE7 fun aq2 hE8=>?_
  refine qag (qaq hE8 (f:=56) (vs:=[.pointer (some ⟨br,0,none⟩)]) (d:=14) kz Tryd.call56 (qcz σ_ hT.rd hT.oct hFd') ?_)
  rintro e_ wa ⟨_,Aa,na,ca,rfl,hsa,hra,hsta,rfl⟩
  have hTa:=hT.read hFd hsa hra hsta
  refine ⟨_,rfl,fun aq3 hE9=>?_⟩
  refine qai [2] [3,4,5] [(0,.v (.pointer (some ⟨br,0,none⟩))),(2,.v (.pointer (some ⟨p2,0,none⟩))),(3,.v (.pointer (some ⟨p3,0,none⟩))),(4,.v (.int .u32 ((p + 1:Nat):Int))),(14,.v (.int .u32 ((uUv σ_:Nat):Int))),(15,.v (.pointer (some ⟨br,0,none⟩)))] (WOk.start wa Nil) hE9 fun aq4 hE10=>?_
  refine qag (qaq hE10 (f:=56) (vs:=[.pointer (some ⟨br,0,none⟩)]) (d:=16) kz Tryd.call56 (qcz (aUv σ_) hTa.rd hTa.oct hFd') ?_)
  rintro e_ wb ⟨_,Ab,nb,cb,rfl,hsb,hrb,hstb,rfl⟩
  have hTb:=hTa.read hFd hsb hrb hstb
  refine ⟨_,rfl,fun aq5 hE11=>?_⟩
  refine qai [4,5] [] [(0,.v (.pointer (some ⟨br,0,none⟩))),(2,.v (.pointer (some ⟨p2,0,none⟩))),(3,.v (.pointer (some ⟨p3,0,none⟩))),(4,.v (.int .u32 ((p + 1:Nat):Int))),(5,.v (.int .u32 ((uUv σ_:Nat):Int))),(6,.v (.int .u32 ((uUv (aUv σ_):Nat):Int)))] (WOk.start wb Nil) hE11 fun aq6 hE12=>qad (qab ?_)
  refine qaw [0,1,2,3,4,5] kz ?_
  refine qai [0,1,2,3] [4,5] [(0,.v (.pointer (some ⟨br,0,none⟩))),(2,.v (.pointer (some ⟨p2,0,none⟩))),(3,.v (.pointer (some ⟨p3,0,none⟩))),(4,.v (.int .u32 ((p + 1:Nat):Int))),(17,.v (.int .u32 ((uUv σ_:Nat):Int))),(18,.v (.pointer (some ⟨br,0,none⟩))),(20,.v (.int .i64 (IntKind.i64.wrap ((uUv (aUv σ_):Nat):Int))))] (WOk.start wb Nil) hE12 fun aq7 hE13=>?_
  rw [show IntKind.i64.wrap ((uUv (aUv σ_):Nat):Int) = ((uUv (aUv σ_):Nat):Int) by rw [i64w]; omega] at hE13
  refine qag (qaq hE13 (f:=58) (vs:=[.pointer (some ⟨br,0,none⟩),.int .i64 ((uUv (aUv σ_):Nat):Int)]) (d:=21) kz Tryd.call58 (qfX ((uUv (aUv σ_):Nat):Int) (aUv (aUv σ_)) hTb.rd hTb.oct hFd') ?_)
  rintro e_ wc ⟨_,Ac,nc,cc,rfl,hsc,hrc,hstc,Ax,cx,rfl,hox⟩
  have hTc:=hTb.read hFd hsc hrc hstc
  refine ⟨_,rfl,fun aq8 hE14=>?_⟩
  refine qag (qaq hE14 (f:=60) (vs:=[.pointer (some ⟨p3,0,none⟩),.int .u32 ((uUv σ_:Nat):Int),.slice Ax (uSp ((uUv (aUv σ_):Nat):Int) (aUv (aUv σ_))).length cx]) (d:=22) kz Tryd.call60 (hTc.set hox ⟨by omega,by omega⟩) ?_)
  rintro e_ wd ⟨rfl,r,hTd⟩
  refine ⟨_,rfl,fun aq9 hE15=>qad (qaU (qab ?_))⟩
  refine qaw [0,1,2] kz (qai [0,1,2] [] [(0,.v (.pointer (some ⟨br,0,none⟩))),(2,.v (.pointer (some ⟨p2,0,none⟩))),(3,.v (.pointer (some ⟨p3,0,none⟩))),(4,.v (.int .u32 (IntKind.u32.wrap (((p + 1:Nat):Int) - 1))))] (WOk.start wd Nil) hE15 fun aqa hE16=>qad (qab ?_))
  rw [show IntKind.u32.wrap (((p + 1:Nat):Int) - 1) = ((p:Nat):Int) by rw [qaj]; omega] at hE16
  exact ⟨p,by omega,p,_,_,some r,Ac,nc,cc,rfl,by omega,htg,qbE hsort,(fun x hx=>by
   rcases (qaW hsort x).1 hx with rfl | ⟨h,_⟩
   ·exact ⟨by dsimp only; omega,by dsimp only; omega⟩
   exact hk x h),hE16,hTd⟩
 obtain rfl:q = 0:=by have:=of_decide_eq_false hc; omega
 have hu:u = qcy σ:=congrArg Prod.fst htg
 have hs_:σ_ = qdP σ:=congrArg Prod.snd htg
 subst hu
 subst hs_
 refine wp_exit (qaE (qaE (qa4 (qab ?_))))
 have hT':UTR w wq br p2 p3 F A_ n_ c_ (qdP σ) m_ (qcy σ):=hT
 have h2:=hT'.new2
 have h3:=hT'.new3
 have hW9:WOk w (RdM br) wq ([] ++ [⟨p3,0,[.map m_],true⟩] ++ [⟨p2,0,[.map none],true⟩]) []:=by
  have hb:WOk w (RdM br) wq [] []:=⟨hT'.step,fun i o hi=>by simp at hi,fun i o hi=>by simp at hi,fun i o hi=>by simp at hi,fun i j o o' _ hi=>by simp at hi,fun i r hi=>by simp at hi,fun i r hi=>by simp at hi,fun i r hi=>by simp at hi,fun i j r r' _ hi=>by simp at hi⟩
  have h4:=hb.add ⟨p3,0,[.map m_],true⟩ (World.lt_of_cell (hT'.s3.at_ 0 _ rfl)) (fun j v hj=>by rw [Nat.zero_add]; exact hT'.s3.at_ j v hj) (fun _ j hj=>⟨.inl h3,by rw [Nat.zero_add]; exact hT'.s3.frz j hj⟩) (fun i o hi=>by simp at hi) (fun i r hi=>by simp at hi)
  refine h4.add ⟨p2,0,[.map none],true⟩ (World.lt_of_cell (hT'.s2.at_ 0 _ rfl)) (fun j v hj=>by rw [Nat.zero_add]; exact hT'.s2.at_ j v hj) (fun _ j hj=>⟨.inl h2,by rw [Nat.zero_add]; exact hT'.s2.frz j hj⟩) (fun i o hi _=>.inl ?_) (fun i r hi=>by simp at hi)
  have:o = ⟨p3,0,[.map m_],true⟩:=by
   have hm:=List.mem_of_getElem? hi
   simpa using hm
  rw [this]
  exact fun e=>hT'.ne e.symm
 have hE17:=(((hE7.retable [⟨p3,0,[.map m_],true⟩,⟨p2,0,[.map none],true⟩]).recast 3 (.v (.pointer (some ⟨p3,0,none⟩))) (.p 0 0) rfl rfl (Nat.le_of_ble_eq_true (n:=1) rfl)).recast 2 (.v (.pointer (some ⟨p2,0,none⟩))) (.p 1 0) rfl rfl (Nat.le_of_ble_eq_true (n:=2) rfl))
 have hE18:EnvOk 24 [⟨p3,0,[.map m_],true⟩,⟨p2,0,[.map none],true⟩] [(2,.p 1 0),(3,.p 0 0)] _:=hE17.pk
 refine qac [0,1] kz ?_
 refine qai [0] [1] [(2,.p 1 0),(23,.v (.agg #[.map m_]))] hW9 hE18 fun aqb hE19=>?_
 refine qag (qam hW9 hE19 (oi:=1) (cs:=[.map m_]) kz fun wz hFz hWz hEz=>qad (qab (wp_ret ?_)))
 have hsz:=hT'.step.size
 have hstz:Step wq wz (fun b o=>b = p2 ∨ b = p3):=hFz.step.mono fun b o _ ha=>by
  rcases ha with ⟨i,ob,hi,_,rfl,_⟩ | ⟨i,r,hi,_⟩
  ·have hm:=List.mem_of_getElem? hi
   simp only [List.nil_append,List.cons_append,List.mem_cons,List.not_mem_nil,or_false] at hm
   rcases hm with rfl | rfl
   ·exact .inr rfl
   exact .inl rfl
  simp at hi
 obtain ⟨m2,m3⟩:=hT'.mne
 refine qaO hEz hWz.cells (v:=.agg #[.map m_]) kz ⟨_,A_,n_,c_,rfl,hT'.rd.move hstz (fun o e=>?_),hT'.oct.move hstz (fun b o hg _ e=>?_) (fun b o hg _=>.inl hg.1),hWz.step,m_,rfl,?_⟩
 ·have:=hT'.old; rcases e with e | e <;> omega
 ·have:=hg.2; rcases e with e | e <;> omega
 refine (hT'.own.move hstz (fun b o hg _ e=>?_) qat (fun r o e he=>?_)).map (fun b o h=>.inl h.1) (fun r o e=>.inr (hT'.new r e)) hsort hk
 ·have:=hg.2; rcases e with e | e <;> omega
 rcases he with he | he
 ·exact m2 (by rw [e,he])
 exact m3 (by rw [e,he])
theorem qfY (σ:Sg):RPrimU Tryd.prog 50 σ (qdP σ) (fun m:Option Nat=>.agg #[.map m]) (fun m=>qfG m (qcy σ)):=⟨mn_Tags.len σ,fun hst hr hF=>(qeW σ hst hr hF).mono fun e w' hp=>hp.q fun v w' h=>h⟩
theorem trc {l l':List Tree} {u u':List (Int × Bs)} (h:l = l') (h':u = u'):Tree.mk 0 [] false l u = Tree.mk 0 [] false l' u':=by rw [h,h']
theorem tlc {a b:Tree} {l l':List Tree} (h:a = b) (h':l = l'):a :: l = b :: l':=by rw [h,h']
theorem qdt {u:List (Int × Bs)} {k:Int} {s:Bs}:(setT u k s).length ≤ u.length + 1:=by
 induction u with
 | nil=>exact Nat.le_refl _
 | cons x r ih =>
  unfold setT
  repeat' split
  all_goals simp only [List.length_cons]
  all_goals omega
theorem qeX {u:List (Int × Bs)} {k:Int} {s:Bs} (hs:qbV u) (h:∃ x ∈ u,x.1 = k):(setT u k s).length ≤ u.length:=by
 induction u with
 | nil=>obtain ⟨x,hx,_⟩:=h; cases hx
 | cons x r ih =>
  have h1:=@List.rel_of_pairwise_cons _ _ _ _ hs
  unfold setT
  by_cases hk:k < x.1
  ·exfalso
   obtain ⟨y,hy,rfl⟩:=h
   rcases List.mem_cons.1 hy with rfl | hy
   ·omega
   have:=h1 hy; omega
  rw [if_neg hk]
  by_cases he:k = x.1
  ·rw [if_pos he]; exact Nat.le_refl _
  rw [if_neg he,List.length_cons,List.length_cons]
  refine Nat.succ_le_succ (ih (List.Pairwise.of_cons hs) ?_)
  obtain ⟨y,hy,rfl⟩:=h
  rcases List.mem_cons.1 hy with rfl | hy
  ·exact absurd rfl he
  exact ⟨y,hy,rfl⟩
def zkey (u:List (Int × Bs)):Nat:=if ∃ x ∈ u,x.1 = 0 then 0 else 1
theorem qeY {u:List (Int × Bs)} (hs:qbV u) (k:Int) (s:Bs):zkey (setT u k s) ≤ zkey u:=by
 unfold zkey
 by_cases h:∃ x ∈ u,x.1 = 0
 ·rw [if_pos h,if_pos ?_]; exact Nat.le_refl _
  obtain ⟨x,hx,h0⟩:=h
  by_cases hk:k = 0
  ·exact ⟨(k,s),(qaW hs _).2 (.inl rfl),hk⟩
  exact ⟨x,(qaW hs _).2 (.inr ⟨hx,by omega⟩),h0⟩
 rw [if_neg h]
 split <;> omega
theorem qet {u:List (Int × Bs)} (hs:qbV u) (s:Bs):zkey (setT u 0 s) = 0:=if_pos ⟨(0,s),(qaW hs _).2 (.inl rfl),rfl⟩
theorem qeu (σ:Sg):(uUv σ = 0 ∧ (aUv σ).2 = []) ∨ (aUv σ).2.length + 1 ≤ σ.2.length:=by
 have h:=(qcV σ.2).1
 unfold uUv aUv
 by_cases hp:(uvG σ.2).2 ≤ 0
 ·rw [if_pos hp,if_pos hp]; exact .inl ⟨rfl,rfl⟩
 rw [if_neg hp,if_neg hp]
 right
 dsimp only
 rw [List.length_drop]; omega
theorem qdu:∀ (n:Nat) (u:List (Int × Bs)) (σ:Sg) (L:Nat),qbV u → (∀ x ∈ u,0 ≤ x.1 ∧ x.1 < 4294967296 ∧ x.2.length ≤ L) → σ.2.length ≤ L →
  qbV (qcA n u σ).1 ∧ (qcA n u σ).1.length ≤ u.length + σ.2.length + zkey u ∧ ∀ x ∈ (qcA n u σ).1,0 ≤ x.1 ∧ x.1 < 4294967296 ∧ x.2.length ≤ L
 | 0,u,σ,L,hs,hu,hL=>⟨hs,by show u.length ≤ _; omega,hu⟩
 | n + 1,u,σ,L,hs,hu,hL=>by
  have hlt:=qds σ
  have hs1:qbV (tag1 u σ):=qbE hs
  have hx:=qfr (uUv (aUv σ):Int) (aUv (aUv σ))
  have h1:=mn_Uv.len σ
  have h2:=mn_Uv.len (aUv σ)
  have h3:=(qfq (uUv (aUv σ):Int)).len (aUv (aUv σ))
  have hu1:∀ x ∈ tag1 u σ,0 ≤ x.1 ∧ x.1 < 4294967296 ∧ x.2.length ≤ L:=fun x hx_=>by
   rcases (qaW hs x).1 hx_ with rfl | ⟨h,_⟩
   ·exact ⟨by dsimp only; omega,by dsimp only; omega,by dsimp only; omega⟩
   exact hu x h
  have ih:=qdu n (tag1 u σ) (aTag σ) L hs1 hu1 (by unfold aTag; omega)
  unfold qcA
  refine ⟨ih.1,Nat.le_trans ih.2.1 ?_,ih.2.2⟩
  rcases qeu σ with ⟨h0,hn⟩ | hlen
  ·have e1:(tag1 u σ) = setT u 0 (uSp (uUv (aUv σ):Int) (aUv (aUv σ))):=by unfold tag1; rw [h0]; rfl
   have hz:=qet hs (uSp (uUv (aUv σ):Int) (aUv (aUv σ)))
   have hl0:(aUv σ).2.length = 0:=by rw [hn]; rfl
   have hA:(aTag σ).2.length = 0:=by unfold aTag; omega
   rw [e1,hz,hA]
   by_cases hk:∃ x ∈ u,x.1 = 0
   ·have:=qeX (s:=uSp (uUv (aUv σ):Int) (aUv (aUv σ))) hs hk; omega
   have:=qdt (u:=u) (k:=0) (s:=uSp (uUv (aUv σ):Int) (aUv (aUv σ)))
   have hz1:zkey u = 1:=if_neg hk
   omega
  have hk:=qeY hs (uUv σ:Int) (uSp (uUv (aUv σ):Int) (aUv (aUv σ)))
  have hl:=qdt (u:=u) (k:=(uUv σ:Int)) (s:=uSp (uUv (aUv σ):Int) (aUv (aUv σ)))
  have e1:(tag1 u σ) = setT u (uUv σ:Int) (uSp (uUv (aUv σ):Int) (aUv (aUv σ))):=rfl
  have e2:(aTag σ).2.length ≤ (aUv σ).2.length:=by unfold aTag; omega
  rw [e1]; omega
theorem qc6 (σ:Sg):qbV (qcy σ) ∧ (qcy σ).length ≤ σ.2.length + 1 ∧ ∀ x ∈ qcy σ,0 ≤ x.1 ∧ x.1 < 4294967296 ∧ x.2.length ≤ σ.2.length:=by
 have h:=qdu (uUv σ) [] (aUv σ) σ.2.length List.Pairwise.nil (fun x hx=>by cases hx) (mn_Uv.len σ)
 have h1:=mn_Uv.len σ
 refine ⟨h.1,Nat.le_trans h.2.1 ?_,h.2.2⟩
 have:zkey [] ≤ 1:=by unfold zkey; split <;> omega
 simp only [List.length_nil]; omega
theorem qdv (σ:Sg):(qcy σ).length ≤ σ.2.length + 1 ∧ ∀ x ∈ qcy σ,x.2.length ≤ σ.2.length:=⟨(qc6 σ).2.1,fun x hx=>((qc6 σ).2.2 x hx).2.2⟩
section
variable {Pr:Program} {ops:Array Oper} {Q:Exit → Act → World → Prop} {w0:World} {M F:Nat → Nat → Prop} {n br:Nat} {tb:Tb} {env:Env} {P:qbT} {σ:Sg} {a:Act} {w:World}
theorem qcW {i d g:Nat} {f:FuncId} {ev:Value} {N:Act → World → Prop} (h:RSU w0 M F n br tb env P σ a w) (hb:σ.1 = true) (hg:∀ w F,P w F → AtF w F g 0 [ev])
  (hc:∀ {br:Nat} {A:Option Addr} {m c:Nat} {w:World} {F:Nat → Nat → Prop},Str w br [.slice A m c,.bool true] → AtF w F g 0 [ev] → (∀ b o,F b o → ¬ RdM br b o) → Calls Pr f #[.pointer (some ⟨br,0,none⟩)] w (fun e w'=>e = .returned ev ∧ w' = w))
  (hf:∀ args w,(callFunc f args).run Pr w = .ok (.enter f args) w) (K:∀ a',RSU w0 M F n br tb ((d,.v ev) :: env) P σ a' w → N a' w)
  (he:∀ bd A m c,qcY (rdoU br bd A m c :: tb) env ops n i = some (f,[.pointer (some ⟨br,0,none⟩)],d):=by intro _ _ _ _; kernel_rfl):wpOp Pr ops Q i N a w:=by
 obtain ⟨A,m,c,hW,hr,hE,hP⟩:=h.open_
 have hs:=Str.of hW 0 rfl
 rw [hb] at hs
 refine qaq hE (he _ A m c) hf (hc hs (hg _ _ hP) (qdp 0 rfl)) ?_
 rintro e_ _ ⟨rfl,rfl⟩
 exact ⟨_,rfl,fun a1 hE1=>K a1 (RSU.mk' hW hr hE1 h.mv hP h.lim)⟩
end
theorem RSU.startG {w0 w:World} {M F:Nat → Nat → Prop} {n br c g:Nat} {ev:Value} {A:Option Addr} {o1:Ob} {env:Env} {s:Bs} {a:Act} (hW:WOk w0 M w [o1,rdoU br false A s.length c] []) (hE:EnvOk n [o1,rdoU br false A s.length c] env a) (ho:Octs w (Imm F w0 w [o1,rdoU br false A s.length c] []) A c s) (hg:AtF w (Imm F w0 w [o1,rdoU br false A s.length c] []) g 0 [ev]) (hl:s.length ≤ 1000) (env':Env) (he:pick (qdb env) (qbu env') = some env':=by kernel_rfl):RSU w0 M F n br [o1] env' (atF g 0 [ev]) (false,s) a w :=
 RSU.mk' hW.swap2 ⟨rfl,ho.move (Step.refl w Nil) nilM fun b o h _=>⟨h.1,h.2.1,fun ha=>h.2.2 (qdq ha)⟩⟩ ((qfp hE).pick he) (MvF.at_ _ _ _) (hg.move (Step.refl w Nil) nilM fun b o h _=>⟨h.1,h.2.1,fun ha=>h.2.2 (qdq ha)⟩) hl
def qao (v:Int) (σ:Sg):Sg:=σ
def qbr (v:Int) (σ:Sg):Sg:=(aN 4 σ)
def qau (v:Int) (σ:Sg):Sg:=qbr v (qao v σ)
def qbs (v:Int) (σ:Sg):Tree:=.mk (IntKind.i64.wrap (uI32 σ)) [] false [] []
def qbt (v:Int) (σ:Sg):Tree:=qbs v (qao v σ)
def qaQ (v:Int) (σ:Sg):Sg:=if decide (v ≥ 2) = true then (aN 8 σ) else σ
def qas (v:Int) (σ:Sg):Sg:=qaQ v (qau v σ)
def qaR (v:Int) (σ:Sg):Tree:=if decide (v ≥ 2) = true then .mk (uI64 σ) [] false [] [] else .mk (-1) [] false [] []
def qaH (v:Int) (σ:Sg):Tree:=qaR v (qau v σ)
def qaS (v:Int) (σ:Sg):Sg:=if decide (v ≥ 3) = true then (qdP σ) else σ
def qav (v:Int) (σ:Sg):Sg:=qaS v (qas v σ)
def qaT (v:Int) (σ:Sg):List (Int × Bs):=if decide (v ≥ 3) = true then qcy σ else []
def qaI (v:Int) (σ:Sg):List (Int × Bs):=qaT v (qas v σ)
def qap (v:Int) (σ:Sg):Sg:=qav v σ
def qaN (v:Int) (σ:Sg):Tree:=.mk 0 [] false [qbt v σ,qaH v σ] (qaI v σ)
set_option maxHeartbeats 4000000 in
theorem qbf (v:Int) (un:Bool) (s:Bs) (hl:s.length ≤ 1000) {ev:Value} {bv:Nat} {A:Option Addr} {c:Nat} {w:World} {F:Nat → Nat → Prop} (hst:Str w bv [.int .i16 v,.int .i32 0,.int .i64 (-1),.map none]) (ho:Octs w F A c s) (hgl:AtF w F 0 0 [ev]) (hFd:∀ b o,F b o → ¬ (b = bv ∧ o < 4)) :
  Calls Tryd.prog 35 #[.pointer (some ⟨bv,0,none⟩),.slice A s.length c,.bool un] w (fun e w'=>((qap v (false,s)).1 = true ∧ e = .returned ev ∧ (∃ cs,Str w' bv cs ∧ cs.length = 4) ∧ Step w w' (fun b o=>b = bv ∧ o < 4)) ∨ ((qap v (false,s)).1 = false ∧ ∃ D:DV,e = .returned .nilIface ∧ Str w' bv [.int .i16 v,.int .i32 ((D.f 0).n),.int .i64 ((D.f 1).n),.map D.m] ∧ qay w' (Fp F w) D ∧ qaD D = qaN v (false,s) ∧ Step w w' (fun b o=>b = bv ∧ o < 4))):=by
 refine enter (n:=44) Tryd.func35 rfl Tryd.ntmps35 kz fun a hE=>?_
 have hW:=WOk.startStr hst
 have hE1:=(hE.grow ⟨bv,0,[.int .i16 v,.int .i32 0,.int .i64 (-1),.map none],true⟩).recast 0 (.v (.pointer (some ⟨bv,0,none⟩))) (.p 0 0) rfl rfl (Nat.le_of_ble_eq_true (n:=1) rfl)
 refine qan [(0,.p 0 0),(1,.v (.slice A s.length c))] hW hE1 fun a1 hE2=>?_
 refine qac [0,1] kz ?_
 refine qai [0] [1] [(0,.p 0 0),(1,.v (.slice A s.length c)),(13,.p 0 0)] hW hE2 fun a3 hE4=>?_
 refine qag (qaC hE4 (f:=34) (vs:=[.pointer (some ⟨bv,0,none⟩)]) (d:=14) (n':=5) kz Tryd.call34 Tryd.func34 rfl Tryd.ntmps34 kz fun a5 hE6=>?_)
 have hE7:=hE6.recast 0 (.v (.pointer (some ⟨bv,0,none⟩))) (.p 0 0) rfl rfl (Nat.le_of_ble_eq_true (n:=1) rfl)
 refine qaw [0,1,2,3] kz ?_
 refine qai [0,1,2] [3] [(4,.p 0 2)] hW hE7 fun a8 hE9=>?_
 refine qag (qam hW hE9 (oi:=0) (cs:=[.int .i16 v,.int .i32 0,.int .i64 (-1),.map none]) kz fun w10 hF11 hW12 hE13=>?_)
 refine qad ?_
 refine qa0 hE13 hW12.cells (v:=.tuple #[]) kz ?_
 refine ⟨_,rfl,fun a14 hE15=>?_⟩
 have hE16:EnvOk 44 [⟨bv,0,[.int .i16 v,.int .i32 0,.int .i64 (-1),.map none],true⟩] [(14,.v (.tuple #[])),(0,.p 0 0),(1,.v (.slice A s.length c)),(13,.p 0 0)] _:=hE15.places (⟨rfl,rfl,trivial⟩)
 refine qad (qab ?_)
 refine qac [0,1,2,3] kz ?_
 refine qai [0,1] [2,3] [(0,.p 0 0),(16,.v (.agg #[.slice A s.length c,.bool false]))] hW12 hE16 fun a17 hE18=>?_
 refine qag (qaB hW12 hE18 (d:=7) (cs:=[.slice none 0 0,.bool false]) kz fun b19 a20 w21 hb22 hz23 hF24 hW25 hE26=>?_)
 refine qag (qam hW25 hE26 (oi:=1) (cs:=[.slice A s.length c,.bool false]) kz fun w27 hF28 hW29 hE30=>?_)
 refine qad (qab ?_)
 have hS31:=RSU.startG (F:=F) (s:=s) hW29 hE30 (ho.move hW29.step (fun b_ o_ h_ _=>hFd b_ o_ h_) (hW29.immM hFd)) (hgl.move hW29.step (fun b_ o_ h_ _=>hFd b_ o_ h_) (hW29.immM hFd)) hl [(0,.p 1 0),(7,.p 0 0)]
 have hS33:=hS31.cast (σ':=(qao v (false,s))) rfl
 clear hS31
 refine wp_seq ?_
 refine qcx [(0,.p 1 0),(7,.p 0 0),(8,.v (.int .i16 v))] hS33 fun _ hS34=>?_
 clear hS33
 refine qab ?_
 refine wp_seq ?_
 refine qcx [(0,.p 1 0),(7,.p 0 0),(8,.v (.int .i16 v))] hS34 fun _ hS35=>?_
 clear hS34
 refine qab ?_
 refine wp_seq ?_
 refine qcx [(0,.p 1 0),(7,.p 0 0),(8,.v (.int .i16 v)),(9,.v (.bool (decide (v ≥ 3))))] hS35 fun _ hS36=>?_
 clear hS35
 refine qab ?_
 refine wp_seq ?_
 refine qcx [(0,.p 1 0),(7,.p 0 0),(8,.v (.int .i16 v)),(9,.v (.bool (decide (v ≥ 3))))] hS36 fun _ hS37=>?_
 clear hS36
 refine qab ?_
 refine wp_seq ?_
 refine qcx [(7,.p 0 0),(8,.v (.int .i16 v)),(9,.v (.bool (decide (v ≥ 3)))),(10,.p 1 0)] hS37 fun _ hS38=>?_
 clear hS37
 refine qab ?_
 refine wp_seq ?_
 refine wp_seq ?_
 have l39:=hS38.lim
 refine qel (d:=26) [(7,.p 0 0),(8,.v (.int .i16 v)),(9,.v (.bool (decide (v ≥ 3)))),(10,.p 1 0),(11,.v (.int .i32 (uI32 (qao v (false,s)))))] hS38 (qfH (qao v (false,s))) Tryd.call55 fun _ _ hS41=>?_
 clear hS38
 refine qab ?_
 refine qem [⟨bv,0,[.int .i16 v,.int .i32 (uI32 (qao v (false,s))),.int .i64 (-1),.map none],true⟩] 0 [(7,.p 0 0),(8,.v (.int .i16 v)),(9,.v (.bool (decide (v ≥ 3)))),(10,.p 1 0)] hS41 fun _ _ hS42=>?_
 clear hS41
 have hS43:=hS42.cast (σ':=(qau v (false,s))) rfl
 clear hS42
 refine qab ?_
 refine wp_seq ?_
 have l44:=hS43.lim
 refine qdr (Mid:=fun a_ w_=>∃ (D45:DV) (P':qbT),(∀ w F,P' w F → (atF 0 0 [ev]) w F ∧ (True) ∧ (.mk (D45.n) [] false [] []:Tree) = qaH v (false,s)) ∧ RSU w (fun b o=>b = bv ∧ o < 4) F 44 b19 [⟨bv,0,[.int .i16 v,.int .i32 (uI32 (qao v (false,s))),.int .i64 D45.n,.map none],true⟩] [(7,.p 0 0),(9,.v (.bool (decide (v ≥ 3)))),(10,.p 1 0)] P' (qas v (false,s)) a_ w_) ?_ ?_
 ·
  refine wp_seq ?_
  refine qcx [(7,.p 0 0),(9,.v (.bool (decide (v ≥ 3)))),(10,.p 1 0),(32,.v (.bool (decide (v ≥ 2))))] hS43 fun _ hS49=>qab ?_
  clear hS43
  refine qa6 hS49.env_ (b:=decide (v ≥ 2)) kz (fun hc50=>?_) (fun hc50=>?_)
  ·
   refine wp_seq ?_
   refine qel (d:=33) [(7,.p 0 0),(9,.v (.bool (decide (v ≥ 3)))),(10,.p 1 0),(12,.v (.int .i64 (uI64 (qau v (false,s)))))] hS49 (qfI (qau v (false,s))) Tryd.call51 fun _ _ hS52=>?_
   clear hS49
   refine qab ?_
   refine qem [⟨bv,0,[.int .i16 v,.int .i32 (uI32 (qao v (false,s))),.int .i64 (uI64 (qau v (false,s))),.map none],true⟩] 0 [(7,.p 0 0),(9,.v (.bool (decide (v ≥ 3)))),(10,.p 1 0)] hS52 fun _ _ hS53=>?_
   clear hS52
   refine qab ?_
   have hS54:=hS53.cast (σ':=(qas v (false,s))) (by unfold qas qaQ; rw [if_pos hc50])
   exact ⟨dvN (uI64 (qau v (false,s))),_,fun w F h_=>⟨h_,trivial,by unfold qaH qaR; rw [if_pos hc50] <;> exact rfl⟩,hS54.pk (env':=[(7,.p 0 0),(9,.v (.bool (decide (v ≥ 3)))),(10,.p 1 0)])⟩
  refine wp_skip (qab ?_)
  have hS55:=hS49.cast (σ':=(qas v (false,s))) (by unfold qas qaQ; rw [if_neg (by rw [hc50]; decide)])
  exact ⟨dvN (-1),_,fun w F h_=>⟨h_,trivial,by unfold qaH qaR; rw [if_neg (by rw [hc50]; decide)] <;> exact rfl⟩,hS55.pk (env':=[(7,.p 0 0),(9,.v (.bool (decide (v ≥ 3)))),(10,.p 1 0)])⟩
 rintro _ _ ⟨D45,P46,hP47,hS48⟩
 refine qab ?_
 refine wp_seq ?_
 have l56:=hS48.lim
 refine qdr (Mid:=fun a_ w_=>∃ (m58:Option Nat) (u59:List (Int × Bs)) (P':qbT),(∀ w F,P' w F → P46 w F ∧ (MapR w F m58 u59 ∧ u59.length ≤ 1000000 ∧ ∀ x ∈ u59,x.2.length < 4294967296) ∧ u59 = qaI v (false,s)) ∧ RSU w (fun b o=>b = bv ∧ o < 4) F 44 b19 [⟨bv,0,[.int .i16 v,.int .i32 (uI32 (qao v (false,s))),.int .i64 D45.n,.map m58],true⟩] [(7,.p 0 0)] P' (qav v (false,s)) a_ w_) ?_ ?_
 ·
  refine wp_seq ?_
  refine qcx [(7,.p 0 0),(10,.p 1 0),(38,.v (.bool (decide (v ≥ 3))))] hS48 fun _ hS63=>qab ?_
  clear hS48
  refine qa6 hS63.env_ (b:=decide (v ≥ 3)) kz (fun hc64=>?_) (fun hc64=>?_)
  ·
   refine qaw [0,1,2,3,4] kz ?_
   refine qcJ [0] [1,2,3,4] [(7,.p 0 0),(39,.p 1 0)] hS63 fun _ hS65=>?_
   clear hS63
   refine qag (qeQ (d:=40) hS65 (qfY (qas v (false,s))) (fun _=>MvF.tags _ _) Tryd.call50 fun m66 P67 _ _ hP68 hS69=>?_)
   clear hS65
   refine qcJ [2,3] [4] [(7,.p 0 0),(40,.v (.agg #[.map m66])),(42,.p 1 3)] hS69 fun _ hS70=>?_
   clear hS69
   refine qag (qek [⟨bv,0,[.int .i16 v,.int .i32 (uI32 (qao v (false,s))),.int .i64 D45.n,.map m66],true⟩] 0 hS70 fun _ hS71=>?_)
   clear hS70
   refine qad ?_
   have hS72:=hS71.pk (env':=[(7,.p 0 0)])
   clear hS71
   refine qab ?_
   have hS73:=hS72.cast (σ':=(qav v (false,s))) (by unfold qav qaS; rw [if_pos hc64])
   exact ⟨m66,qcy (qas v (false,s)),_,fun w F h_=>⟨(hP68 _ _ h_).1,⟨(hP68 _ _ h_).2,Nat.le_trans (qdv _).1 (by have:=l56; omega),fun x_ hx_=>Nat.lt_of_le_of_lt ((qdv _).2 x_ hx_) (by have:=l56; omega)⟩,by unfold qaI qaT; rw [if_pos hc64] <;> exact rfl⟩,hS73.pk (env':=[(7,.p 0 0)])⟩
  refine wp_skip (qab ?_)
  have hS74:=hS63.cast (σ':=(qav v (false,s))) (by unfold qav qaS; rw [if_neg (by rw [hc64]; decide)])
  exact ⟨none,[],_,fun w F h_=>⟨h_,⟨MapR.nil _ _,Nat.zero_le _,fun _ h=>by cases h⟩,by unfold qaI qaT; rw [if_neg (by rw [hc64]; decide)] <;> exact rfl⟩,hS74.pk (env':=[(7,.p 0 0)])⟩
 rintro _ _ ⟨m58,u59,P60,hP61,hS62⟩
 refine qab ?_
 refine wp_seq ?_
 refine (Bool.eq_false_or_eq_true ((qav v (false,s))).1).elim (fun hb75=>?_) (fun hb75=>?_)
 ·
  refine qaw [0,1] kz (qag (qcW (d:=43) (ev:=ev) hS62 (hb75) (fun w F h_=>(hP47 _ _ (hP61 _ _ h_).1).1) (fun hs_ hg_ hf_=>qdQ hs_ hg_ hf_) Tryd.call44 fun _ hS76=>?_))
  clear hS62
  refine qcJ [1] [] [(6,.v (ev))] hS76 fun _ hS77=>qad ?_
  clear hS76
  refine qab ?_
  refine wp_ret ?_
  obtain ⟨A_,m_,c_,hW_,hr_,hE_,hP_⟩:=hS77.open_
  refine qaO hE_ hW_.cells (v:=ev) kz (.inl ⟨(hb75),rfl,⟨_,Str.of hW_ 1 rfl,rfl⟩,hW_.step⟩)
 refine qaw [0,1] kz (qag (qc5 (d:=43) hS62 (fun hs_=>qei (by rw [hb75] at hs_; exact hs_)) Tryd.call44 fun _ hS78=>?_))
 clear hS62
 refine qcJ [1] [] [(6,.v (.nilIface))] hS78 fun _ hS79=>qad ?_
 clear hS78
 refine qab ?_
 refine wp_ret ?_
 obtain ⟨A_,m_,c_,hW_,hr_,hE_,hP_⟩:=hS79.open_
 refine qaO hE_ hW_.cells (v:=.nilIface) kz ?_
 have h_:=hS79.mv.mono qb8 hP_
 refine .inr ⟨hb75,(dvP m58 u59 [dvN (uI32 (qao v (false,s))),D45]),rfl,Str.of hW_ 1 rfl,?_,(trc (tlc (rfl) (tlc ((hP47 _ _ (hP61 _ _ h_).1).2.2) rfl)) (hP61 _ _ h_).2.2),hW_.step⟩
 unfold qay
 exact ⟨(trivial),((hP47 _ _ (hP61 _ _ h_).1).2.1),(hP61 _ _ h_).2.1.1,(hP61 _ _ h_).2.1.2.1,(hP61 _ _ h_).2.1.2.2,trivial⟩
theorem qa7 (v:Int) (un:Bool) (s:Bs) (hl:s.length ≤ 1000) {ev:Value} {bv:Nat} {A:Option Addr} {c:Nat} {w:World} {F:Nat → Nat → Prop} (hst:Str w bv [.int .i16 v,.int .i32 0,.int .i64 (-1),.map none]) (ho:Octs w F A c s) (hgl:AtF w F 0 0 [ev]) (hFd:∀ b o,F b o → ¬ (b = bv ∧ o < 4)) (hb:(qap v (false,s)).1 = true) :
  Calls Tryd.prog 35 #[.pointer (some ⟨bv,0,none⟩),.slice A s.length c,.bool un] w (fun e w'=>e = .returned ev ∧ (∃ cs,Str w' bv cs ∧ cs.length = 4) ∧ Step w w' (fun b o=>b = bv ∧ o < 4)):=(qbf v un s hl hst ho hgl hFd).mono fun e w' h=>by
 rcases h with ⟨_,h⟩ | ⟨h,_⟩
 ·exact h
 rw [hb] at h; cases h
theorem qa8 (v:Int) (un:Bool) (s:Bs) (hl:s.length ≤ 1000) {ev:Value} {bv:Nat} {A:Option Addr} {c:Nat} {w:World} {F:Nat → Nat → Prop} (hst:Str w bv [.int .i16 v,.int .i32 0,.int .i64 (-1),.map none]) (ho:Octs w F A c s) (hgl:AtF w F 0 0 [ev]) (hFd:∀ b o,F b o → ¬ (b = bv ∧ o < 4)) (hb:(qap v (false,s)).1 = false) :
  Calls Tryd.prog 35 #[.pointer (some ⟨bv,0,none⟩),.slice A s.length c,.bool un] w (fun e w'=>∃ D:DV,e = .returned .nilIface ∧ Str w' bv [.int .i16 v,.int .i32 ((D.f 0).n),.int .i64 ((D.f 1).n),.map D.m] ∧ qay w' (Fp F w) D ∧ qaD D = qaN v (false,s) ∧ Step w w' (fun b o=>b = bv ∧ o < 4)):=(qbf v un s hl hst ho hgl hFd).mono fun e w' h=>by
 rcases h with ⟨h,_⟩ | ⟨_,h⟩
 ·rw [hb] at h; cases h
 exact h
end Go.Proofs.YtmpejmiiphddhaaDoorR.ME
namespace Go.Proofs.YtmpejmiiphddhaaDoorR.ME
open Go
open Go.RowKit
set_option linter.unusedVariables false
set_option linter.unusedSimpArgs false
set_option maxRecDepth 20000
set_option maxHeartbeats 4000000 in
theorem qbi (v:Int) (s:Bs) (hl:s.length ≤ 1000) {ue:TypeId} {ve:Value} {A2:Option Addr} {c2:Nat} {w:World} {F:Nat → Nat → Prop} (hs_:Octs w F A2 c2 s) (hgl:AtF w F 0 0 [.iface ue ve]) (hb:(qap (IntKind.i16.wrap v) (false,s)).1 = true) :
  Calls Tryd.prog 12 #[.int .i64 v,.slice A2 s.length c2] w (fun e w'=>∃ cs,e = .returned (.tuple #[.agg cs.toArray,.bool false]) ∧ TreeR w' (Fp F w) cs (.zero) ∧ Step w w' Nil):=by
 refine enter (n:=20) Tryd.func12 rfl Tryd.ntmps12 kz fun a hE=>?_
 have hW:=WOk.start w Nil
 have hsm2:=Slots.small hs_
 refine qac [0,1] kz ?_
 refine qag (qaB hW hE (d:=4) (cs:=[.int .i64 0,.slice none 0 0,.bool false,.slice none 0 0,.slice none 0 0]) kz fun b1 a2 w3 hb4 hz5 hF6 hW7 hE8=>?_)
 refine qai [1] [] [(0,.v (.int .i64 v)),(1,.v (.slice A2 s.length c2)),(4,.p 0 0)] hW7 hE8 fun a9 hE10=>?_
 refine qad (qab ?_)
 refine qac [0,1] kz ?_
 refine qag (qaC hE10 (f:=21) (vs:=[]) (d:=7) (n':=3) kz Tryd.call21 Tryd.func21 rfl Tryd.ntmps21 kz fun a11 hE12=>?_)
 refine qan [] hW7 hE12 fun a13 hE14=>?_
 refine qac [0] kz ?_
 refine qag (qaB hW7 hE14 (d:=1) (cs:=[.int .i16 0,.int .i32 0,.int .i64 0,.map none]) kz fun b15 a16 w17 hb18 hz19 hF20 hW21 hE22=>?_)
 refine qad (qab ?_)
 refine qac [0] kz ?_
 refine qag (qaC hE22 (f:=34) (vs:=[.pointer (some ⟨b15,0,none⟩)]) (d:=2) (n':=5) kz Tryd.call34 Tryd.func34 rfl Tryd.ntmps34 kz fun a23 hE24=>?_)
 have hE25:=hE24.recast 0 (.v (.pointer (some ⟨b15,0,none⟩))) (.p 1 0) rfl rfl (Nat.le_of_ble_eq_true (n:=2) rfl)
 refine qaw [0,1,2,3] kz ?_
 refine qai [0,1,2] [3] [(4,.p 1 2)] hW21 hE25 fun a26 hE27=>?_
 refine qag (qam hW21 hE27 (oi:=1) (cs:=[.int .i16 0,.int .i32 0,.int .i64 (-1),.map none]) kz fun w28 hF29 hW30 hE31=>?_)
 refine qad ?_
 refine qa0 hE31 hW30.cells (v:=.tuple #[]) kz ?_
 refine ⟨_,rfl,fun a32 hE33=>?_⟩
 have hE34:=(EnvOk.places (tb':=[⟨b1,0,[.int .i64 0,.slice none 0 0,.bool false,.slice none 0 0,.slice none 0 0],true⟩,⟨b15,0,[.int .i16 0,.int .i32 0,.int .i64 (-1),.map none],true⟩]) hE33 (show Pl [⟨b1,0,[.int .i64 0,.slice none 0 0,.bool false,.slice none 0 0,.slice none 0 0],true⟩,⟨b15,0,[.int .i16 0,.int .i32 0,.int .i64 0,.map none],true⟩] [⟨b1,0,[.int .i64 0,.slice none 0 0,.bool false,.slice none 0 0,.slice none 0 0],true⟩,⟨b15,0,[.int .i16 0,.int .i32 0,.int .i64 (-1),.map none],true⟩] from ⟨rfl,rfl,⟨rfl,rfl,trivial⟩⟩)).pk (env':=[(2,.v (.tuple #[])),(1,.p 1 0)])
 refine qad (qab ?_)
 refine qan [(0,.p 1 0)] hW30 hE34 fun a35 hE36=>?_
 refine wp_ret ?_
 refine qaO hE36 hW30.cells (v:=.pointer (some ⟨b15,0,none⟩)) kz ?_
 refine ⟨_,rfl,fun a37 hE38=>?_⟩
 have hE39:=(EnvOk.places (tb':=[⟨b1,0,[.int .i64 0,.slice none 0 0,.bool false,.slice none 0 0,.slice none 0 0],true⟩,⟨b15,0,[.int .i16 0,.int .i32 0,.int .i64 (-1),.map none],true⟩]) hE38 (show Pl [⟨b1,0,[.int .i64 0,.slice none 0 0,.bool false,.slice none 0 0,.slice none 0 0],true⟩] [⟨b1,0,[.int .i64 0,.slice none 0 0,.bool false,.slice none 0 0,.slice none 0 0],true⟩,⟨b15,0,[.int .i16 0,.int .i32 0,.int .i64 (-1),.map none],true⟩] from ⟨rfl,rfl,trivial⟩)).pk (env':=[(7,.v (.pointer (some ⟨b15,0,none⟩))),(0,.v (.int .i64 v)),(1,.v (.slice A2 s.length c2)),(4,.p 0 0)])
 have hE40:=hE39.recast 7 (.v (.pointer (some ⟨b15,0,none⟩))) (.p 1 0) rfl rfl (Nat.le_of_ble_eq_true (n:=2) rfl)
 have hE41:=hE40.pick (ks:=[0,1,4,7]) (env':=[(0,.v (.int .i64 v)),(1,.v (.slice A2 s.length c2)),(4,.p 0 0),(7,.p 1 0)]) kz
 refine qai [1] [] [(0,.v (.int .i64 v)),(1,.v (.slice A2 s.length c2)),(4,.p 0 0),(6,.p 1 0)] hW30 hE41 fun a42 hE43=>?_
 refine qad (qab ?_)
 refine qac [0,1,2,3] kz ?_
 refine qai [0,1,2] [3] [(1,.v (.slice A2 s.length c2)),(4,.p 0 0),(6,.p 1 0),(8,.p 1 0),(10,.v (.int .i16 (IntKind.i16.wrap v)))] hW30 hE43 fun a44 hE45=>?_
 refine qag (qaC hE45 (f:=23) (vs:=[.pointer (some ⟨b15,0,none⟩),.int .i16 (IntKind.i16.wrap v)]) (d:=11) (n':=8) kz Tryd.call23 Tryd.func23 rfl Tryd.ntmps23 kz fun a46 hE47=>?_)
 have hE48:=hE47.recast 0 (.v (.pointer (some ⟨b15,0,none⟩))) (.p 1 0) rfl rfl (Nat.le_of_ble_eq_true (n:=2) rfl)
 refine qaw [0,1,2,3,4] kz ?_
 refine qai [0,1,2,3] [4] [(5,.v (.int .i16 (IntKind.i16.wrap v))),(7,.p 1 0)] hW30 hE48 fun a49 hE50=>?_
 refine qag (qam hW30 hE50 (oi:=1) (cs:=[.int .i16 (IntKind.i16.wrap v),.int .i32 0,.int .i64 (-1),.map none]) kz fun w51 hF52 hW53 hE54=>?_)
 refine qad ?_
 refine qa0 hE54 hW53.cells (v:=.tuple #[]) kz ?_
 refine ⟨_,rfl,fun a55 hE56=>?_⟩
 have hE57:=(EnvOk.places (tb':=[⟨b1,0,[.int .i64 0,.slice none 0 0,.bool false,.slice none 0 0,.slice none 0 0],true⟩,⟨b15,0,[.int .i16 (IntKind.i16.wrap v),.int .i32 0,.int .i64 (-1),.map none],true⟩]) hE56 (show Pl [⟨b1,0,[.int .i64 0,.slice none 0 0,.bool false,.slice none 0 0,.slice none 0 0],true⟩,⟨b15,0,[.int .i16 0,.int .i32 0,.int .i64 (-1),.map none],true⟩] [⟨b1,0,[.int .i64 0,.slice none 0 0,.bool false,.slice none 0 0,.slice none 0 0],true⟩,⟨b15,0,[.int .i16 (IntKind.i16.wrap v),.int .i32 0,.int .i64 (-1),.map none],true⟩] from ⟨rfl,rfl,⟨rfl,rfl,trivial⟩⟩)).pk (env':=[(11,.v (.tuple #[])),(1,.v (.slice A2 s.length c2)),(4,.p 0 0),(6,.p 1 0),(8,.p 1 0),(10,.v (.int .i16 (IntKind.i16.wrap v)))])
 refine qad (qab ?_)
 refine wp_seq ?_
 refine qac [0,1,2,3,4] kz ?_
 refine qai [0,1] [2,3,4] [(4,.p 0 0),(6,.p 1 0),(12,.p 1 0),(13,.v (.slice A2 s.length c2))] hW53 hE57 fun a58 hE59=>?_
 have hW60:=hW53.addNil 5 1
 have hF61:=hW53.frNil 5 1
 refine qag (qbc hW60 hE59 (k:=0) (d:=14) (t:=22) (e:=5) (size:=1) (bytes:=1) (A:=none) (As:=A2) (m0:=0) (c:=0) (m:=s.length) (cs:=c2) (xs:=[]) (news:=bc s) kz kz rfl (hs_.move hW60.step nilM hW60.imm).src (hs_.move hW60.step nilM hW60.imm).cap (by first | omega | (simp only [List.length_nil]; omega) | (simp; omega)) fun A62 c63 a64 w65 hF66 hW67 hE68=>?_)
 have er69:(⟨A62,c63,5,1,0 + s.length,[] ++ bc s⟩:Rw) = brow A62 c63 5 s:=by rw [List.nil_append,Nat.zero_add]
 obtain ⟨hW70,hF72⟩:=hW67.rowEq 0 [brow A62 c63 5 s] er69
 have hE73:=EnvOk.pick hE68 (ks:=[4,6,12,13,14]) (env':=[(4,.p 0 0),(6,.p 1 0),(12,.p 1 0),(13,.v (.slice A2 s.length c2)),(14,.v (.slice A62 (0 + s.length) c63))]) kz
 have hE71:=hE73.cast (env':=[(4,.p 0 0),(6,.p 1 0),(12,.p 1 0),(13,.v (.slice A2 s.length c2)),(14,.v (.slice A62 s.length c63))]) (by simp only [List.length_append,List.length_cons,List.length_nil,Nat.zero_add])
 refine qag (qaC hE71 (f:=24) (vs:=[.pointer (some ⟨b15,0,none⟩),.slice A62 s.length c63]) (d:=15) (n':=8) kz Tryd.call24 Tryd.func24 rfl Tryd.ntmps24 kz fun a74 hE75=>?_)
 have hE76:=hE75.recast 0 (.v (.pointer (some ⟨b15,0,none⟩))) (.p 1 0) rfl rfl (Nat.le_of_ble_eq_true (n:=2) rfl)
 refine qan [(0,.p 1 0),(1,.v (.slice A62 s.length c63))] hW70 hE76 fun a77 hE78=>?_
 refine qac [0,1,2,3] kz ?_
 refine qai [0,1] [2,3] [(5,.p 1 0),(6,.v (.slice A62 s.length c63))] hW70 hE78 fun a79 hE80=>?_
 have ho81:=hW70.giveUp (G:=F) 0 [] (show _ = some (brow A62 c63 5 s) from rfl) (by omega)
 obtain ⟨hW82,hF83⟩:=hW70.cutR 0 []
 refine qag (qaq hE80 (f:=35) (vs:=[.pointer (some ⟨b15,0,none⟩),.slice A62 s.length c63,.bool false]) (d:=7) kz Tryd.call35 (qa7 (IntKind.i16.wrap v) false s hl (Str.of hW82 1 rfl) ho81 (hgl.move hW82.step nilM hW82.imm) (qeh 1 rfl) hb) ?_)
 rintro e_ w84 ⟨rfl,⟨D85,hs86,hn97⟩,hst89⟩
 obtain ⟨hW90,hF91,hl92⟩:=hW82.wrote 1 [⟨b1,0,[.int .i64 0,.slice none 0 0,.bool false,.slice none 0 0,.slice none 0 0],true⟩,⟨b15,0,D85,true⟩] rfl hst89 hs86 rfl hn97
 refine ⟨_,rfl,fun a93 hE94=>?_⟩
 have hE95:=(EnvOk.places (tb':=[⟨b1,0,[.int .i64 0,.slice none 0 0,.bool false,.slice none 0 0,.slice none 0 0],true⟩,⟨b15,0,D85,true⟩]) hE94 (show Pl [⟨b1,0,[.int .i64 0,.slice none 0 0,.bool false,.slice none 0 0,.slice none 0 0],true⟩,⟨b15,0,[.int .i16 (IntKind.i16.wrap v),.int .i32 0,.int .i64 (-1),.map none],true⟩] [⟨b1,0,[.int .i64 0,.slice none 0 0,.bool false,.slice none 0 0,.slice none 0 0],true⟩,⟨b15,0,D85,true⟩] from ⟨rfl,rfl,⟨rfl,rfl,trivial⟩⟩)).pk (env':=[(7,.v (.iface ue ve)),(5,.p 1 0),(6,.v (.slice A62 s.length c63))])
 refine qai [3] [] [(4,.v (.iface ue ve))] hW90 hE95 fun a98 hE99=>?_
 refine qad (qab ?_)
 refine wp_ret ?_
 refine qaO hE99 hW90.cells (v:=.iface ue ve) kz ?_
 refine ⟨_,rfl,fun a100 hE101=>?_⟩
 have hE102:=(EnvOk.places (tb':=[⟨b1,0,[.int .i64 0,.slice none 0 0,.bool false,.slice none 0 0,.slice none 0 0],true⟩,⟨b15,0,D85,true⟩]) hE101 (show Pl [⟨b1,0,[.int .i64 0,.slice none 0 0,.bool false,.slice none 0 0,.slice none 0 0],true⟩,⟨b15,0,[.int .i16 (IntKind.i16.wrap v),.int .i32 0,.int .i64 (-1),.map none],true⟩] [⟨b1,0,[.int .i64 0,.slice none 0 0,.bool false,.slice none 0 0,.slice none 0 0],true⟩,⟨b15,0,D85,true⟩] from ⟨rfl,rfl,⟨rfl,rfl,trivial⟩⟩)).pk (env':=[(15,.v (.iface ue ve)),(4,.p 0 0),(6,.p 1 0),(12,.p 1 0),(13,.v (.slice A2 s.length c2)),(14,.v (.slice A62 s.length c63))])
 refine qai [4] [] [(4,.p 0 0),(6,.p 1 0),(16,.v (.bool true))] hW90 hE102 fun a103 hE104=>?_
 refine qad (qab ?_)
 refine qaK hE104 (b:=true) kz rfl ?_
 refine qac [0,1,2] kz ?_
 refine qai [0] [1,2] [(4,.p 0 0),(17,.v (.agg #[.int .i64 0,.slice none 0 0,.bool false,.slice none 0 0,.slice none 0 0]))] hW90 hE104 fun a105 hE106=>?_
 refine qag (qam hW90 hE106 (oi:=0) (cs:=[.int .i64 0,.slice none 0 0,.bool false,.slice none 0 0,.slice none 0 0]) kz fun w107 hF108 hW109 hE110=>?_)
 refine qai [2] [] [(4,.p 0 0),(5,.v (.bool false))] hW109 hE110 fun a111 hE112=>?_
 refine qad (qab ?_)
 refine wp_ret ?_
 refine qaP ?_
 refine qaO hE112 hW109.cells (v:=.tuple #[.agg #[.int .i64 0,.slice none 0 0,.bool false,.slice none 0 0,.slice none 0 0],.bool false]) kz ?_
 exact ⟨_,rfl,TreeR.zero _ _,hW109.step⟩
set_option maxHeartbeats 4000000 in
theorem qbj (v:Int) (s:Bs) (hl:s.length ≤ 1000) {ue:TypeId} {ve:Value} {A2:Option Addr} {c2:Nat} {w:World} {F:Nat → Nat → Prop} (hs_:Octs w F A2 c2 s) (hgl:AtF w F 0 0 [.iface ue ve]) (hb:(qap (IntKind.i16.wrap v) (false,s)).1 = false) :
  Calls Tryd.prog 12 #[.int .i64 v,.slice A2 s.length c2] w (fun e w'=>∃ cs,e = .returned (.tuple #[.agg cs.toArray,.bool true]) ∧ TreeR w' (Fp F w) cs (qaN (IntKind.i16.wrap v) (false,s)) ∧ Step w w' Nil):=by
 refine enter (n:=20) Tryd.func12 rfl Tryd.ntmps12 kz fun a hE=>?_
 have hW:=WOk.start w Nil
 have hsm2:=Slots.small hs_
 refine qac [0,1] kz ?_
 refine qag (qaB hW hE (d:=4) (cs:=[.int .i64 0,.slice none 0 0,.bool false,.slice none 0 0,.slice none 0 0]) kz fun b1 a2 w3 hb4 hz5 hF6 hW7 hE8=>?_)
 refine qai [1] [] [(0,.v (.int .i64 v)),(1,.v (.slice A2 s.length c2)),(4,.p 0 0)] hW7 hE8 fun a9 hE10=>?_
 refine qad (qab ?_)
 refine qac [0,1] kz ?_
 refine qag (qaC hE10 (f:=21) (vs:=[]) (d:=7) (n':=3) kz Tryd.call21 Tryd.func21 rfl Tryd.ntmps21 kz fun a11 hE12=>?_)
 refine qan [] hW7 hE12 fun a13 hE14=>?_
 refine qac [0] kz ?_
 refine qag (qaB hW7 hE14 (d:=1) (cs:=[.int .i16 0,.int .i32 0,.int .i64 0,.map none]) kz fun b15 a16 w17 hb18 hz19 hF20 hW21 hE22=>?_)
 refine qad (qab ?_)
 refine qac [0] kz ?_
 refine qag (qaC hE22 (f:=34) (vs:=[.pointer (some ⟨b15,0,none⟩)]) (d:=2) (n':=5) kz Tryd.call34 Tryd.func34 rfl Tryd.ntmps34 kz fun a23 hE24=>?_)
 have hE25:=hE24.recast 0 (.v (.pointer (some ⟨b15,0,none⟩))) (.p 1 0) rfl rfl (Nat.le_of_ble_eq_true (n:=2) rfl)
 refine qaw [0,1,2,3] kz ?_
 refine qai [0,1,2] [3] [(4,.p 1 2)] hW21 hE25 fun a26 hE27=>?_
 refine qag (qam hW21 hE27 (oi:=1) (cs:=[.int .i16 0,.int .i32 0,.int .i64 (-1),.map none]) kz fun w28 hF29 hW30 hE31=>?_)
 refine qad ?_
 refine qa0 hE31 hW30.cells (v:=.tuple #[]) kz ?_
 refine ⟨_,rfl,fun a32 hE33=>?_⟩
 have hE34:=(EnvOk.places (tb':=[⟨b1,0,[.int .i64 0,.slice none 0 0,.bool false,.slice none 0 0,.slice none 0 0],true⟩,⟨b15,0,[.int .i16 0,.int .i32 0,.int .i64 (-1),.map none],true⟩]) hE33 (show Pl [⟨b1,0,[.int .i64 0,.slice none 0 0,.bool false,.slice none 0 0,.slice none 0 0],true⟩,⟨b15,0,[.int .i16 0,.int .i32 0,.int .i64 0,.map none],true⟩] [⟨b1,0,[.int .i64 0,.slice none 0 0,.bool false,.slice none 0 0,.slice none 0 0],true⟩,⟨b15,0,[.int .i16 0,.int .i32 0,.int .i64 (-1),.map none],true⟩] from ⟨rfl,rfl,⟨rfl,rfl,trivial⟩⟩)).pk (env':=[(2,.v (.tuple #[])),(1,.p 1 0)])
 refine qad (qab ?_)
 refine qan [(0,.p 1 0)] hW30 hE34 fun a35 hE36=>?_
 refine wp_ret ?_
 refine qaO hE36 hW30.cells (v:=.pointer (some ⟨b15,0,none⟩)) kz ?_
 refine ⟨_,rfl,fun a37 hE38=>?_⟩
 have hE39:=(EnvOk.places (tb':=[⟨b1,0,[.int .i64 0,.slice none 0 0,.bool false,.slice none 0 0,.slice none 0 0],true⟩,⟨b15,0,[.int .i16 0,.int .i32 0,.int .i64 (-1),.map none],true⟩]) hE38 (show Pl [⟨b1,0,[.int .i64 0,.slice none 0 0,.bool false,.slice none 0 0,.slice none 0 0],true⟩] [⟨b1,0,[.int .i64 0,.slice none 0 0,.bool false,.slice none 0 0,.slice none 0 0],true⟩,⟨b15,0,[.int .i16 0,.int .i32 0,.int .i64 (-1),.map none],true⟩] from ⟨rfl,rfl,trivial⟩)).pk (env':=[(7,.v (.pointer (some ⟨b15,0,none⟩))),(0,.v (.int .i64 v)),(1,.v (.slice A2 s.length c2)),(4,.p 0 0)])
 have hE40:=hE39.recast 7 (.v (.pointer (some ⟨b15,0,none⟩))) (.p 1 0) rfl rfl (Nat.le_of_ble_eq_true (n:=2) rfl)
 have hE41:=hE40.pick (ks:=[0,1,4,7]) (env':=[(0,.v (.int .i64 v)),(1,.v (.slice A2 s.length c2)),(4,.p 0 0),(7,.p 1 0)]) kz
 refine qai [1] [] [(0,.v (.int .i64 v)),(1,.v (.slice A2 s.length c2)),(4,.p 0 0),(6,.p 1 0)] hW30 hE41 fun a42 hE43=>?_
 refine qad (qab ?_)
 refine qac [0,1,2,3] kz ?_
 refine qai [0,1,2] [3] [(1,.v (.slice A2 s.length c2)),(4,.p 0 0),(6,.p 1 0),(8,.p 1 0),(10,.v (.int .i16 (IntKind.i16.wrap v)))] hW30 hE43 fun a44 hE45=>?_
 refine qag (qaC hE45 (f:=23) (vs:=[.pointer (some ⟨b15,0,none⟩),.int .i16 (IntKind.i16.wrap v)]) (d:=11) (n':=8) kz Tryd.call23 Tryd.func23 rfl Tryd.ntmps23 kz fun a46 hE47=>?_)
 have hE48:=hE47.recast 0 (.v (.pointer (some ⟨b15,0,none⟩))) (.p 1 0) rfl rfl (Nat.le_of_ble_eq_true (n:=2) rfl)
 refine qaw [0,1,2,3,4] kz ?_
 refine qai [0,1,2,3] [4] [(5,.v (.int .i16 (IntKind.i16.wrap v))),(7,.p 1 0)] hW30 hE48 fun a49 hE50=>?_
 refine qag (qam hW30 hE50 (oi:=1) (cs:=[.int .i16 (IntKind.i16.wrap v),.int .i32 0,.int .i64 (-1),.map none]) kz fun w51 hF52 hW53 hE54=>?_)
 refine qad ?_
 refine qa0 hE54 hW53.cells (v:=.tuple #[]) kz ?_
 refine ⟨_,rfl,fun a55 hE56=>?_⟩
 have hE57:=(EnvOk.places (tb':=[⟨b1,0,[.int .i64 0,.slice none 0 0,.bool false,.slice none 0 0,.slice none 0 0],true⟩,⟨b15,0,[.int .i16 (IntKind.i16.wrap v),.int .i32 0,.int .i64 (-1),.map none],true⟩]) hE56 (show Pl [⟨b1,0,[.int .i64 0,.slice none 0 0,.bool false,.slice none 0 0,.slice none 0 0],true⟩,⟨b15,0,[.int .i16 0,.int .i32 0,.int .i64 (-1),.map none],true⟩] [⟨b1,0,[.int .i64 0,.slice none 0 0,.bool false,.slice none 0 0,.slice none 0 0],true⟩,⟨b15,0,[.int .i16 (IntKind.i16.wrap v),.int .i32 0,.int .i64 (-1),.map none],true⟩] from ⟨rfl,rfl,⟨rfl,rfl,trivial⟩⟩)).pk (env':=[(11,.v (.tuple #[])),(1,.v (.slice A2 s.length c2)),(4,.p 0 0),(6,.p 1 0),(8,.p 1 0),(10,.v (.int .i16 (IntKind.i16.wrap v)))])
 refine qad (qab ?_)
 refine wp_seq ?_
 refine qac [0,1,2,3,4] kz ?_
 refine qai [0,1] [2,3,4] [(4,.p 0 0),(6,.p 1 0),(12,.p 1 0),(13,.v (.slice A2 s.length c2))] hW53 hE57 fun a58 hE59=>?_
 have hW60:=hW53.addNil 5 1
 have hF61:=hW53.frNil 5 1
 refine qag (qbc hW60 hE59 (k:=0) (d:=14) (t:=22) (e:=5) (size:=1) (bytes:=1) (A:=none) (As:=A2) (m0:=0) (c:=0) (m:=s.length) (cs:=c2) (xs:=[]) (news:=bc s) kz kz rfl (hs_.move hW60.step nilM hW60.imm).src (hs_.move hW60.step nilM hW60.imm).cap (by first | omega | (simp only [List.length_nil]; omega) | (simp; omega)) fun A62 c63 a64 w65 hF66 hW67 hE68=>?_)
 have er69:(⟨A62,c63,5,1,0 + s.length,[] ++ bc s⟩:Rw) = brow A62 c63 5 s:=by rw [List.nil_append,Nat.zero_add]
 obtain ⟨hW70,hF72⟩:=hW67.rowEq 0 [brow A62 c63 5 s] er69
 have hE73:=EnvOk.pick hE68 (ks:=[4,6,12,13,14]) (env':=[(4,.p 0 0),(6,.p 1 0),(12,.p 1 0),(13,.v (.slice A2 s.length c2)),(14,.v (.slice A62 (0 + s.length) c63))]) kz
 have hE71:=hE73.cast (env':=[(4,.p 0 0),(6,.p 1 0),(12,.p 1 0),(13,.v (.slice A2 s.length c2)),(14,.v (.slice A62 s.length c63))]) (by simp only [List.length_append,List.length_cons,List.length_nil,Nat.zero_add])
 refine qag (qaC hE71 (f:=24) (vs:=[.pointer (some ⟨b15,0,none⟩),.slice A62 s.length c63]) (d:=15) (n':=8) kz Tryd.call24 Tryd.func24 rfl Tryd.ntmps24 kz fun a74 hE75=>?_)
 have hE76:=hE75.recast 0 (.v (.pointer (some ⟨b15,0,none⟩))) (.p 1 0) rfl rfl (Nat.le_of_ble_eq_true (n:=2) rfl)
 refine qan [(0,.p 1 0),(1,.v (.slice A62 s.length c63))] hW70 hE76 fun a77 hE78=>?_
 refine qac [0,1,2,3] kz ?_
 refine qai [0,1] [2,3] [(5,.p 1 0),(6,.v (.slice A62 s.length c63))] hW70 hE78 fun a79 hE80=>?_
 have ho81:=hW70.giveUp (G:=F) 0 [] (show _ = some (brow A62 c63 5 s) from rfl) (by omega)
 obtain ⟨hW82,hF83⟩:=hW70.cutR 0 []
 refine qag (qaq hE80 (f:=35) (vs:=[.pointer (some ⟨b15,0,none⟩),.slice A62 s.length c63,.bool false]) (d:=7) kz Tryd.call35 (qa8 (IntKind.i16.wrap v) false s hl (Str.of hW82 1 rfl) ho81 (hgl.move hW82.step nilM hW82.imm) (qeh 1 rfl) hb) ?_)
 rintro e_ w84 ⟨D85,rfl,hs86,hk87,hv88,hst89⟩
 obtain ⟨hW90,hF91,hl92⟩:=hW82.wrote 1 [⟨b1,0,[.int .i64 0,.slice none 0 0,.bool false,.slice none 0 0,.slice none 0 0],true⟩,⟨b15,0,[.int .i16 (IntKind.i16.wrap v),.int .i32 ((D85.f 0).n),.int .i64 ((D85.f 1).n),.map D85.m],true⟩] rfl hst89 hs86
 have hk96:=qaM _ (Step.refl _ Nil) nilM hl92 hk87
 refine ⟨_,rfl,fun a93 hE94=>?_⟩
 have hE95:=(EnvOk.places (tb':=[⟨b1,0,[.int .i64 0,.slice none 0 0,.bool false,.slice none 0 0,.slice none 0 0],true⟩,⟨b15,0,[.int .i16 (IntKind.i16.wrap v),.int .i32 ((D85.f 0).n),.int .i64 ((D85.f 1).n),.map D85.m],true⟩]) hE94 (show Pl [⟨b1,0,[.int .i64 0,.slice none 0 0,.bool false,.slice none 0 0,.slice none 0 0],true⟩,⟨b15,0,[.int .i16 (IntKind.i16.wrap v),.int .i32 0,.int .i64 (-1),.map none],true⟩] [⟨b1,0,[.int .i64 0,.slice none 0 0,.bool false,.slice none 0 0,.slice none 0 0],true⟩,⟨b15,0,[.int .i16 (IntKind.i16.wrap v),.int .i32 ((D85.f 0).n),.int .i64 ((D85.f 1).n),.map D85.m],true⟩] from ⟨rfl,rfl,⟨rfl,rfl,trivial⟩⟩)).pk (env':=[(7,.v (.nilIface)),(5,.p 1 0),(6,.v (.slice A62 s.length c63))])
 refine qai [3] [] [(4,.v (.nilIface))] hW90 hE95 fun a98 hE99=>?_
 refine qad (qab ?_)
 refine wp_ret ?_
 refine qaO hE99 hW90.cells (v:=.nilIface) kz ?_
 refine ⟨_,rfl,fun a100 hE101=>?_⟩
 have hE102:=(EnvOk.places (tb':=[⟨b1,0,[.int .i64 0,.slice none 0 0,.bool false,.slice none 0 0,.slice none 0 0],true⟩,⟨b15,0,[.int .i16 (IntKind.i16.wrap v),.int .i32 ((D85.f 0).n),.int .i64 ((D85.f 1).n),.map D85.m],true⟩]) hE101 (show Pl [⟨b1,0,[.int .i64 0,.slice none 0 0,.bool false,.slice none 0 0,.slice none 0 0],true⟩,⟨b15,0,[.int .i16 (IntKind.i16.wrap v),.int .i32 0,.int .i64 (-1),.map none],true⟩] [⟨b1,0,[.int .i64 0,.slice none 0 0,.bool false,.slice none 0 0,.slice none 0 0],true⟩,⟨b15,0,[.int .i16 (IntKind.i16.wrap v),.int .i32 ((D85.f 0).n),.int .i64 ((D85.f 1).n),.map D85.m],true⟩] from ⟨rfl,rfl,⟨rfl,rfl,trivial⟩⟩)).pk (env':=[(15,.v (.nilIface)),(4,.p 0 0),(6,.p 1 0),(12,.p 1 0),(13,.v (.slice A2 s.length c2)),(14,.v (.slice A62 s.length c63))])
 refine qai [4] [] [(4,.p 0 0),(6,.p 1 0),(16,.v (.bool false))] hW90 hE102 fun a103 hE104=>?_
 refine qad (qab ?_)
 refine qah hE104 (b:=false) kz rfl ?_
 refine wp_skip ?_
 refine qab ?_
 refine qac [0,1,2,3] kz ?_
 refine qai [0] [1,2,3] [(4,.p 0 0),(18,.p 1 0)] hW90 hE104 fun a105 hE106=>?_
 have hE107:=hE106.recast 18 (.p 1 0) (.v (.pointer (some ⟨b15,0,none⟩))) rfl rfl trivial
 have hE108:=hE107.pk (env':=[(4,.p 0 0),(18,.v (.pointer (some ⟨b15,0,none⟩)))])
 have hat109:=WOk.strOut (G:=F) [⟨b1,0,[.int .i64 0,.slice none 0 0,.bool false,.slice none 0 0,.slice none 0 0],true⟩] hW90
 obtain ⟨hE110,hW111,hF112⟩:=hW90.cutB hE108 1 [⟨b1,0,[.int .i64 0,.slice none 0 0,.bool false,.slice none 0 0,.slice none 0 0],true⟩] [(4,.p 0 0),(18,.v (.pointer (some ⟨b15,0,none⟩)))]
 have hk113:=qaM _ hF112.step immM hF112.to' hk96
 refine qag (qaq hE110 (f:=25) (vs:=[.pointer (some ⟨b15,0,none⟩)]) (d:=19) kz Tryd.call25 (qbe (IntKind.i16.wrap v) D85 b15 0 _ _ hat109 hk113) ?_)
 rintro e_ w117 ⟨cs116,rfl,hr115,hs114⟩
 have hr118:=hr115.move (Step.refl _ Nil) nilM (hW111.laid (G:=F) hs114)
 obtain ⟨n119,s120,b121,l122,u123,A124,c125,A126,c127,A128,c129,xs130,ht136,hcs131,h132,h133,h134,h135⟩:=hr118.open_
 rw [hcs131] at hr118
 have hsm137:=h132.small
 have hsm138:=h133.small
 rw [hcs131]
 refine ⟨_,rfl,fun a139 hE140=>?_⟩
 have hW141:=hW111.next_nil hs114
 have hF142:=hW111.frN hs114
 refine qag (qam hW141 hE140 (oi:=0) (cs:=[.int .i64 n119,.slice A124 s120.length c125,.bool b121,.slice A126 l122.length c127,.slice A128 u123.length c129]) kz fun w143 hF144 hW145 hE146=>?_)
 refine qai [3] [] [(4,.p 0 0),(5,.v (.bool true))] hW145 hE146 fun a147 hE148=>?_
 refine qad (qab ?_)
 refine wp_ret ?_
 refine qaO hE148 hW145.cells (v:=.tuple #[.agg #[.int .i64 n119,.slice A124 s120.length c125,.bool b121,.slice A126 l122.length c127,.slice A128 u123.length c129],.bool true]) kz ?_
 rw [← hv88]
 exact ⟨_,rfl,(show TreeR _ (Imm F w w143 [⟨b1,0,[.int .i64 n119,.slice A124 s120.length c125,.bool b121,.slice A126 l122.length c127,.slice A128 u123.length c129],true⟩] []) _ (qaD D85) from (hr118.move hF144.step immM hF144.to')).move (Step.refl _ Nil) nilM qb8,hW145.step⟩
set_option maxHeartbeats 4000000 in
theorem qbg (v:Int) (s:Bs) (hl:s.length ≤ 1000) {ue:TypeId} {ve:Value} {A2:Option Addr} {c2:Nat} {w:World} {F:Nat → Nat → Prop} (hs_:Octs w F A2 c2 s) (hgl:AtF w F 0 0 [.iface ue ve]) (hb:(qap (IntKind.i16.wrap v) (false,s)).1 = true) :
  Calls Tryd.prog 13 #[.int .i64 v,.slice A2 s.length c2] w (fun e w'=>∃ cs,e = .returned (.tuple #[.agg cs.toArray,.bool false]) ∧ TreeR w' (Fp F w) cs (.zero) ∧ Step w w' Nil):=by
 refine enter (n:=20) Tryd.func13 rfl Tryd.ntmps13 kz fun a hE=>?_
 have hW:=WOk.start w Nil
 have hsm2:=Slots.small hs_
 refine qac [0,1] kz ?_
 refine qag (qaB hW hE (d:=4) (cs:=[.int .i64 0,.slice none 0 0,.bool false,.slice none 0 0,.slice none 0 0]) kz fun b1 a2 w3 hb4 hz5 hF6 hW7 hE8=>?_)
 refine qai [1] [] [(0,.v (.int .i64 v)),(1,.v (.slice A2 s.length c2)),(4,.p 0 0)] hW7 hE8 fun a9 hE10=>?_
 refine qad (qab ?_)
 refine qac [0,1] kz ?_
 refine qag (qaC hE10 (f:=21) (vs:=[]) (d:=7) (n':=3) kz Tryd.call21 Tryd.func21 rfl Tryd.ntmps21 kz fun a11 hE12=>?_)
 refine qan [] hW7 hE12 fun a13 hE14=>?_
 refine qac [0] kz ?_
 refine qag (qaB hW7 hE14 (d:=1) (cs:=[.int .i16 0,.int .i32 0,.int .i64 0,.map none]) kz fun b15 a16 w17 hb18 hz19 hF20 hW21 hE22=>?_)
 refine qad (qab ?_)
 refine qac [0] kz ?_
 refine qag (qaC hE22 (f:=34) (vs:=[.pointer (some ⟨b15,0,none⟩)]) (d:=2) (n':=5) kz Tryd.call34 Tryd.func34 rfl Tryd.ntmps34 kz fun a23 hE24=>?_)
 have hE25:=hE24.recast 0 (.v (.pointer (some ⟨b15,0,none⟩))) (.p 1 0) rfl rfl (Nat.le_of_ble_eq_true (n:=2) rfl)
 refine qaw [0,1,2,3] kz ?_
 refine qai [0,1,2] [3] [(4,.p 1 2)] hW21 hE25 fun a26 hE27=>?_
 refine qag (qam hW21 hE27 (oi:=1) (cs:=[.int .i16 0,.int .i32 0,.int .i64 (-1),.map none]) kz fun w28 hF29 hW30 hE31=>?_)
 refine qad ?_
 refine qa0 hE31 hW30.cells (v:=.tuple #[]) kz ?_
 refine ⟨_,rfl,fun a32 hE33=>?_⟩
 have hE34:=(EnvOk.places (tb':=[⟨b1,0,[.int .i64 0,.slice none 0 0,.bool false,.slice none 0 0,.slice none 0 0],true⟩,⟨b15,0,[.int .i16 0,.int .i32 0,.int .i64 (-1),.map none],true⟩]) hE33 (show Pl [⟨b1,0,[.int .i64 0,.slice none 0 0,.bool false,.slice none 0 0,.slice none 0 0],true⟩,⟨b15,0,[.int .i16 0,.int .i32 0,.int .i64 0,.map none],true⟩] [⟨b1,0,[.int .i64 0,.slice none 0 0,.bool false,.slice none 0 0,.slice none 0 0],true⟩,⟨b15,0,[.int .i16 0,.int .i32 0,.int .i64 (-1),.map none],true⟩] from ⟨rfl,rfl,⟨rfl,rfl,trivial⟩⟩)).pk (env':=[(2,.v (.tuple #[])),(1,.p 1 0)])
 refine qad (qab ?_)
 refine qan [(0,.p 1 0)] hW30 hE34 fun a35 hE36=>?_
 refine wp_ret ?_
 refine qaO hE36 hW30.cells (v:=.pointer (some ⟨b15,0,none⟩)) kz ?_
 refine ⟨_,rfl,fun a37 hE38=>?_⟩
 have hE39:=(EnvOk.places (tb':=[⟨b1,0,[.int .i64 0,.slice none 0 0,.bool false,.slice none 0 0,.slice none 0 0],true⟩,⟨b15,0,[.int .i16 0,.int .i32 0,.int .i64 (-1),.map none],true⟩]) hE38 (show Pl [⟨b1,0,[.int .i64 0,.slice none 0 0,.bool false,.slice none 0 0,.slice none 0 0],true⟩] [⟨b1,0,[.int .i64 0,.slice none 0 0,.bool false,.slice none 0 0,.slice none 0 0],true⟩,⟨b15,0,[.int .i16 0,.int .i32 0,.int .i64 (-1),.map none],true⟩] from ⟨rfl,rfl,trivial⟩)).pk (env':=[(7,.v (.pointer (some ⟨b15,0,none⟩))),(0,.v (.int .i64 v)),(1,.v (.slice A2 s.length c2)),(4,.p 0 0)])
 have hE40:=hE39.recast 7 (.v (.pointer (some ⟨b15,0,none⟩))) (.p 1 0) rfl rfl (Nat.le_of_ble_eq_true (n:=2) rfl)
 have hE41:=hE40.pick (ks:=[0,1,4,7]) (env':=[(0,.v (.int .i64 v)),(1,.v (.slice A2 s.length c2)),(4,.p 0 0),(7,.p 1 0)]) kz
 refine qai [1] [] [(0,.v (.int .i64 v)),(1,.v (.slice A2 s.length c2)),(4,.p 0 0),(6,.p 1 0)] hW30 hE41 fun a42 hE43=>?_
 refine qad (qab ?_)
 refine qac [0,1,2,3] kz ?_
 refine qai [0,1,2] [3] [(1,.v (.slice A2 s.length c2)),(4,.p 0 0),(6,.p 1 0),(8,.p 1 0),(10,.v (.int .i16 (IntKind.i16.wrap v)))] hW30 hE43 fun a44 hE45=>?_
 refine qag (qaC hE45 (f:=23) (vs:=[.pointer (some ⟨b15,0,none⟩),.int .i16 (IntKind.i16.wrap v)]) (d:=11) (n':=8) kz Tryd.call23 Tryd.func23 rfl Tryd.ntmps23 kz fun a46 hE47=>?_)
 have hE48:=hE47.recast 0 (.v (.pointer (some ⟨b15,0,none⟩))) (.p 1 0) rfl rfl (Nat.le_of_ble_eq_true (n:=2) rfl)
 refine qaw [0,1,2,3,4] kz ?_
 refine qai [0,1,2,3] [4] [(5,.v (.int .i16 (IntKind.i16.wrap v))),(7,.p 1 0)] hW30 hE48 fun a49 hE50=>?_
 refine qag (qam hW30 hE50 (oi:=1) (cs:=[.int .i16 (IntKind.i16.wrap v),.int .i32 0,.int .i64 (-1),.map none]) kz fun w51 hF52 hW53 hE54=>?_)
 refine qad ?_
 refine qa0 hE54 hW53.cells (v:=.tuple #[]) kz ?_
 refine ⟨_,rfl,fun a55 hE56=>?_⟩
 have hE57:=(EnvOk.places (tb':=[⟨b1,0,[.int .i64 0,.slice none 0 0,.bool false,.slice none 0 0,.slice none 0 0],true⟩,⟨b15,0,[.int .i16 (IntKind.i16.wrap v),.int .i32 0,.int .i64 (-1),.map none],true⟩]) hE56 (show Pl [⟨b1,0,[.int .i64 0,.slice none 0 0,.bool false,.slice none 0 0,.slice none 0 0],true⟩,⟨b15,0,[.int .i16 0,.int .i32 0,.int .i64 (-1),.map none],true⟩] [⟨b1,0,[.int .i64 0,.slice none 0 0,.bool false,.slice none 0 0,.slice none 0 0],true⟩,⟨b15,0,[.int .i16 (IntKind.i16.wrap v),.int .i32 0,.int .i64 (-1),.map none],true⟩] from ⟨rfl,rfl,⟨rfl,rfl,trivial⟩⟩)).pk (env':=[(11,.v (.tuple #[])),(1,.v (.slice A2 s.length c2)),(4,.p 0 0),(6,.p 1 0),(8,.p 1 0),(10,.v (.int .i16 (IntKind.i16.wrap v)))])
 refine qad (qab ?_)
 refine wp_seq ?_
 refine qac [0,1,2,3,4] kz ?_
 refine qai [0,1] [2,3,4] [(4,.p 0 0),(6,.p 1 0),(12,.p 1 0),(13,.v (.slice A2 s.length c2))] hW53 hE57 fun a58 hE59=>?_
 have hW60:=hW53.addNil 5 1
 have hF61:=hW53.frNil 5 1
 refine qag (qbc hW60 hE59 (k:=0) (d:=14) (t:=22) (e:=5) (size:=1) (bytes:=1) (A:=none) (As:=A2) (m0:=0) (c:=0) (m:=s.length) (cs:=c2) (xs:=[]) (news:=bc s) kz kz rfl (hs_.move hW60.step nilM hW60.imm).src (hs_.move hW60.step nilM hW60.imm).cap (by first | omega | (simp only [List.length_nil]; omega) | (simp; omega)) fun A62 c63 a64 w65 hF66 hW67 hE68=>?_)
 have er69:(⟨A62,c63,5,1,0 + s.length,[] ++ bc s⟩:Rw) = brow A62 c63 5 s:=by rw [List.nil_append,Nat.zero_add]
 obtain ⟨hW70,hF72⟩:=hW67.rowEq 0 [brow A62 c63 5 s] er69
 have hE73:=EnvOk.pick hE68 (ks:=[4,6,12,13,14]) (env':=[(4,.p 0 0),(6,.p 1 0),(12,.p 1 0),(13,.v (.slice A2 s.length c2)),(14,.v (.slice A62 (0 + s.length) c63))]) kz
 have hE71:=hE73.cast (env':=[(4,.p 0 0),(6,.p 1 0),(12,.p 1 0),(13,.v (.slice A2 s.length c2)),(14,.v (.slice A62 s.length c63))]) (by simp only [List.length_append,List.length_cons,List.length_nil,Nat.zero_add])
 refine qag (qaC hE71 (f:=26) (vs:=[.pointer (some ⟨b15,0,none⟩),.slice A62 s.length c63]) (d:=15) (n':=8) kz Tryd.call26 Tryd.func26 rfl Tryd.ntmps26 kz fun a74 hE75=>?_)
 have hE76:=hE75.recast 0 (.v (.pointer (some ⟨b15,0,none⟩))) (.p 1 0) rfl rfl (Nat.le_of_ble_eq_true (n:=2) rfl)
 refine qan [(0,.p 1 0),(1,.v (.slice A62 s.length c63))] hW70 hE76 fun a77 hE78=>?_
 refine qac [0,1,2,3] kz ?_
 refine qai [0,1] [2,3] [(5,.p 1 0),(6,.v (.slice A62 s.length c63))] hW70 hE78 fun a79 hE80=>?_
 have ho81:=hW70.giveUp (G:=F) 0 [] (show _ = some (brow A62 c63 5 s) from rfl) (by omega)
 obtain ⟨hW82,hF83⟩:=hW70.cutR 0 []
 refine qag (qaq hE80 (f:=35) (vs:=[.pointer (some ⟨b15,0,none⟩),.slice A62 s.length c63,.bool true]) (d:=7) kz Tryd.call35 (qa7 (IntKind.i16.wrap v) true s hl (Str.of hW82 1 rfl) ho81 (hgl.move hW82.step nilM hW82.imm) (qeh 1 rfl) hb) ?_)
 rintro e_ w84 ⟨rfl,⟨D85,hs86,hn97⟩,hst89⟩
 obtain ⟨hW90,hF91,hl92⟩:=hW82.wrote 1 [⟨b1,0,[.int .i64 0,.slice none 0 0,.bool false,.slice none 0 0,.slice none 0 0],true⟩,⟨b15,0,D85,true⟩] rfl hst89 hs86 rfl hn97
 refine ⟨_,rfl,fun a93 hE94=>?_⟩
 have hE95:=(EnvOk.places (tb':=[⟨b1,0,[.int .i64 0,.slice none 0 0,.bool false,.slice none 0 0,.slice none 0 0],true⟩,⟨b15,0,D85,true⟩]) hE94 (show Pl [⟨b1,0,[.int .i64 0,.slice none 0 0,.bool false,.slice none 0 0,.slice none 0 0],true⟩,⟨b15,0,[.int .i16 (IntKind.i16.wrap v),.int .i32 0,.int .i64 (-1),.map none],true⟩] [⟨b1,0,[.int .i64 0,.slice none 0 0,.bool false,.slice none 0 0,.slice none 0 0],true⟩,⟨b15,0,D85,true⟩] from ⟨rfl,rfl,⟨rfl,rfl,trivial⟩⟩)).pk (env':=[(7,.v (.iface ue ve)),(5,.p 1 0),(6,.v (.slice A62 s.length c63))])
 refine qai [3] [] [(4,.v (.iface ue ve))] hW90 hE95 fun a98 hE99=>?_
 refine qad (qab ?_)
 refine wp_ret ?_
 refine qaO hE99 hW90.cells (v:=.iface ue ve) kz ?_
 refine ⟨_,rfl,fun a100 hE101=>?_⟩
 have hE102:=(EnvOk.places (tb':=[⟨b1,0,[.int .i64 0,.slice none 0 0,.bool false,.slice none 0 0,.slice none 0 0],true⟩,⟨b15,0,D85,true⟩]) hE101 (show Pl [⟨b1,0,[.int .i64 0,.slice none 0 0,.bool false,.slice none 0 0,.slice none 0 0],true⟩,⟨b15,0,[.int .i16 (IntKind.i16.wrap v),.int .i32 0,.int .i64 (-1),.map none],true⟩] [⟨b1,0,[.int .i64 0,.slice none 0 0,.bool false,.slice none 0 0,.slice none 0 0],true⟩,⟨b15,0,D85,true⟩] from ⟨rfl,rfl,⟨rfl,rfl,trivial⟩⟩)).pk (env':=[(15,.v (.iface ue ve)),(4,.p 0 0),(6,.p 1 0),(12,.p 1 0),(13,.v (.slice A2 s.length c2)),(14,.v (.slice A62 s.length c63))])
 refine qai [4] [] [(4,.p 0 0),(6,.p 1 0),(16,.v (.bool true))] hW90 hE102 fun a103 hE104=>?_
 refine qad (qab ?_)
 refine qaK hE104 (b:=true) kz rfl ?_
 refine qac [0,1,2] kz ?_
 refine qai [0] [1,2] [(4,.p 0 0),(17,.v (.agg #[.int .i64 0,.slice none 0 0,.bool false,.slice none 0 0,.slice none 0 0]))] hW90 hE104 fun a105 hE106=>?_
 refine qag (qam hW90 hE106 (oi:=0) (cs:=[.int .i64 0,.slice none 0 0,.bool false,.slice none 0 0,.slice none 0 0]) kz fun w107 hF108 hW109 hE110=>?_)
 refine qai [2] [] [(4,.p 0 0),(5,.v (.bool false))] hW109 hE110 fun a111 hE112=>?_
 refine qad (qab ?_)
 refine wp_ret ?_
 refine qaP ?_
 refine qaO hE112 hW109.cells (v:=.tuple #[.agg #[.int .i64 0,.slice none 0 0,.bool false,.slice none 0 0,.slice none 0 0],.bool false]) kz ?_
 exact ⟨_,rfl,TreeR.zero _ _,hW109.step⟩
set_option maxHeartbeats 4000000 in
theorem qbh (v:Int) (s:Bs) (hl:s.length ≤ 1000) {ue:TypeId} {ve:Value} {A2:Option Addr} {c2:Nat} {w:World} {F:Nat → Nat → Prop} (hs_:Octs w F A2 c2 s) (hgl:AtF w F 0 0 [.iface ue ve]) (hb:(qap (IntKind.i16.wrap v) (false,s)).1 = false) :
  Calls Tryd.prog 13 #[.int .i64 v,.slice A2 s.length c2] w (fun e w'=>∃ cs,e = .returned (.tuple #[.agg cs.toArray,.bool true]) ∧ TreeR w' (Fp F w) cs (qaN (IntKind.i16.wrap v) (false,s)) ∧ Step w w' Nil):=by
 refine enter (n:=20) Tryd.func13 rfl Tryd.ntmps13 kz fun a hE=>?_
 have hW:=WOk.start w Nil
 have hsm2:=Slots.small hs_
 refine qac [0,1] kz ?_
 refine qag (qaB hW hE (d:=4) (cs:=[.int .i64 0,.slice none 0 0,.bool false,.slice none 0 0,.slice none 0 0]) kz fun b1 a2 w3 hb4 hz5 hF6 hW7 hE8=>?_)
 refine qai [1] [] [(0,.v (.int .i64 v)),(1,.v (.slice A2 s.length c2)),(4,.p 0 0)] hW7 hE8 fun a9 hE10=>?_
 refine qad (qab ?_)
 refine qac [0,1] kz ?_
 refine qag (qaC hE10 (f:=21) (vs:=[]) (d:=7) (n':=3) kz Tryd.call21 Tryd.func21 rfl Tryd.ntmps21 kz fun a11 hE12=>?_)
 refine qan [] hW7 hE12 fun a13 hE14=>?_
 refine qac [0] kz ?_
 refine qag (qaB hW7 hE14 (d:=1) (cs:=[.int .i16 0,.int .i32 0,.int .i64 0,.map none]) kz fun b15 a16 w17 hb18 hz19 hF20 hW21 hE22=>?_)
 refine qad (qab ?_)
 refine qac [0] kz ?_
 refine qag (qaC hE22 (f:=34) (vs:=[.pointer (some ⟨b15,0,none⟩)]) (d:=2) (n':=5) kz Tryd.call34 Tryd.func34 rfl Tryd.ntmps34 kz fun a23 hE24=>?_)
 have hE25:=hE24.recast 0 (.v (.pointer (some ⟨b15,0,none⟩))) (.p 1 0) rfl rfl (Nat.le_of_ble_eq_true (n:=2) rfl)
 refine qaw [0,1,2,3] kz ?_
 refine qai [0,1,2] [3] [(4,.p 1 2)] hW21 hE25 fun a26 hE27=>?_
 refine qag (qam hW21 hE27 (oi:=1) (cs:=[.int .i16 0,.int .i32 0,.int .i64 (-1),.map none]) kz fun w28 hF29 hW30 hE31=>?_)
 refine qad ?_
 refine qa0 hE31 hW30.cells (v:=.tuple #[]) kz ?_
 refine ⟨_,rfl,fun a32 hE33=>?_⟩
 have hE34:=(EnvOk.places (tb':=[⟨b1,0,[.int .i64 0,.slice none 0 0,.bool false,.slice none 0 0,.slice none 0 0],true⟩,⟨b15,0,[.int .i16 0,.int .i32 0,.int .i64 (-1),.map none],true⟩]) hE33 (show Pl [⟨b1,0,[.int .i64 0,.slice none 0 0,.bool false,.slice none 0 0,.slice none 0 0],true⟩,⟨b15,0,[.int .i16 0,.int .i32 0,.int .i64 0,.map none],true⟩] [⟨b1,0,[.int .i64 0,.slice none 0 0,.bool false,.slice none 0 0,.slice none 0 0],true⟩,⟨b15,0,[.int .i16 0,.int .i32 0,.int .i64 (-1),.map none],true⟩] from ⟨rfl,rfl,⟨rfl,rfl,trivial⟩⟩)).pk (env':=[(2,.v (.tuple #[])),(1,.p 1 0)])
 refine qad (qab ?_)
 refine qan [(0,.p 1 0)] hW30 hE34 fun a35 hE36=>?_
 refine wp_ret ?_
 refine qaO hE36 hW30.cells (v:=.pointer (some ⟨b15,0,none⟩)) kz ?_
 refine ⟨_,rfl,fun a37 hE38=>?_⟩
 have hE39:=(EnvOk.places (tb':=[⟨b1,0,[.int .i64 0,.slice none 0 0,.bool false,.slice none 0 0,.slice none 0 0],true⟩,⟨b15,0,[.int .i16 0,.int .i32 0,.int .i64 (-1),.map none],true⟩]) hE38 (show Pl [⟨b1,0,[.int .i64 0,.slice none 0 0,.bool false,.slice none 0 0,.slice none 0 0],true⟩] [⟨b1,0,[.int .i64 0,.slice none 0 0,.bool false,.slice none 0 0,.slice none 0 0],true⟩,⟨b15,0,[.int .i16 0,.int .i32 0,.int .i64 (-1),.map none],true⟩] from ⟨rfl,rfl,trivial⟩)).pk (env':=[(7,.v (.pointer (some ⟨b15,0,none⟩))),(0,.v (.int .i64 v)),(1,.v (.slice A2 s.length c2)),(4,.p 0 0)])
 have hE40:=hE39.recast 7 (.v (.pointer (some ⟨b15,0,none⟩))) (.p 1 0) rfl rfl (Nat.le_of_ble_eq_true (n:=2) rfl)
 have hE41:=hE40.pick (ks:=[0,1,4,7]) (env':=[(0,.v (.int .i64 v)),(1,.v (.slice A2 s.length c2)),(4,.p 0 0),(7,.p 1 0)]) kz
 refine qai [1] [] [(0,.v (.int .i64 v)),(1,.v (.slice A2 s.length c2)),(4,.p 0 0),(6,.p 1 0)] hW30 hE41 fun a42 hE43=>?_
 refine qad (qab ?_)
 refine qac [0,1,2,3] kz ?_
 refine qai [0,1,2] [3] [(1,.v (.slice A2 s.length c2)),(4,.p 0 0),(6,.p 1 0),(8,.p 1 0),(10,.v (.int .i16 (IntKind.i16.wrap v)))] hW30 hE43 fun a44 hE45=>?_
 refine qag (qaC hE45 (f:=23) (vs:=[.pointer (some ⟨b15,0,none⟩),.int .i16 (IntKind.i16.wrap v)]) (d:=11) (n':=8) kz Tryd.call23 Tryd.func23 rfl Tryd.ntmps23 kz fun a46 hE47=>?_)
 have hE48:=hE47.recast 0 (.v (.pointer (some ⟨b15,0,none⟩))) (.p 1 0) rfl rfl (Nat.le_of_ble_eq_true (n:=2) rfl)
 refine qaw [0,1,2,3,4] kz ?_
 refine qai [0,1,2,3] [4] [(5,.v (.int .i16 (IntKind.i16.wrap v))),(7,.p 1 0)] hW30 hE48 fun a49 hE50=>?_
 refine qag (qam hW30 hE50 (oi:=1) (cs:=[.int .i16 (IntKind.i16.wrap v),.int .i32 0,.int .i64 (-1),.map none]) kz fun w51 hF52 hW53 hE54=>?_)
 refine qad ?_
 refine qa0 hE54 hW53.cells (v:=.tuple #[]) kz ?_
 refine ⟨_,rfl,fun a55 hE56=>?_⟩
 have hE57:=(EnvOk.places (tb':=[⟨b1,0,[.int .i64 0,.slice none 0 0,.bool false,.slice none 0 0,.slice none 0 0],true⟩,⟨b15,0,[.int .i16 (IntKind.i16.wrap v),.int .i32 0,.int .i64 (-1),.map none],true⟩]) hE56 (show Pl [⟨b1,0,[.int .i64 0,.slice none 0 0,.bool false,.slice none 0 0,.slice none 0 0],true⟩,⟨b15,0,[.int .i16 0,.int .i32 0,.int .i64 (-1),.map none],true⟩] [⟨b1,0,[.int .i64 0,.slice none 0 0,.bool false,.slice none 0 0,.slice none 0 0],true⟩,⟨b15,0,[.int .i16 (IntKind.i16.wrap v),.int .i32 0,.int .i64 (-1),.map none],true⟩] from ⟨rfl,rfl,⟨rfl,rfl,trivial⟩⟩)).pk (env':=[(11,.v (.tuple #[])),(1,.v (.slice A2 s.length c2)),(4,.p 0 0),(6,.p 1 0),(8,.p 1 0),(10,.v (.int .i16 (IntKind.i16.wrap v)))])
 refine qad (qab ?_)
 refine wp_seq ?_
 refine qac [0,1,2,3,4] kz ?_
 refine qai [0,1] [2,3,4] [(4,.p 0 0),(6,.p 1 0),(12,.p 1 0),(13,.v (.slice A2 s.length c2))] hW53 hE57 fun a58 hE59=>?_
 have hW60:=hW53.addNil 5 1
 have hF61:=hW53.frNil 5 1
 refine qag (qbc hW60 hE59 (k:=0) (d:=14) (t:=22) (e:=5) (size:=1) (bytes:=1) (A:=none) (As:=A2) (m0:=0) (c:=0) (m:=s.length) (cs:=c2) (xs:=[]) (news:=bc s) kz kz rfl (hs_.move hW60.step nilM hW60.imm).src (hs_.move hW60.step nilM hW60.imm).cap (by first | omega | (simp only [List.length_nil]; omega) | (simp; omega)) fun A62 c63 a64 w65 hF66 hW67 hE68=>?_)
 have er69:(⟨A62,c63,5,1,0 + s.length,[] ++ bc s⟩:Rw) = brow A62 c63 5 s:=by rw [List.nil_append,Nat.zero_add]
 obtain ⟨hW70,hF72⟩:=hW67.rowEq 0 [brow A62 c63 5 s] er69
 have hE73:=EnvOk.pick hE68 (ks:=[4,6,12,13,14]) (env':=[(4,.p 0 0),(6,.p 1 0),(12,.p 1 0),(13,.v (.slice A2 s.length c2)),(14,.v (.slice A62 (0 + s.length) c63))]) kz
 have hE71:=hE73.cast (env':=[(4,.p 0 0),(6,.p 1 0),(12,.p 1 0),(13,.v (.slice A2 s.length c2)),(14,.v (.slice A62 s.length c63))]) (by simp only [List.length_append,List.length_cons,List.length_nil,Nat.zero_add])
 refine qag (qaC hE71 (f:=26) (vs:=[.pointer (some ⟨b15,0,none⟩),.slice A62 s.length c63]) (d:=15) (n':=8) kz Tryd.call26 Tryd.func26 rfl Tryd.ntmps26 kz fun a74 hE75=>?_)
 have hE76:=hE75.recast 0 (.v (.pointer (some ⟨b15,0,none⟩))) (.p 1 0) rfl rfl (Nat.le_of_ble_eq_true (n:=2) rfl)
 refine qan [(0,.p 1 0),(1,.v (.slice A62 s.length c63))] hW70 hE76 fun a77 hE78=>?_
 refine qac [0,1,2,3] kz ?_
 refine qai [0,1] [2,3] [(5,.p 1 0),(6,.v (.slice A62 s.length c63))] hW70 hE78 fun a79 hE80=>?_
 have ho81:=hW70.giveUp (G:=F) 0 [] (show _ = some (brow A62 c63 5 s) from rfl) (by omega)
 obtain ⟨hW82,hF83⟩:=hW70.cutR 0 []
 refine qag (qaq hE80 (f:=35) (vs:=[.pointer (some ⟨b15,0,none⟩),.slice A62 s.length c63,.bool true]) (d:=7) kz Tryd.call35 (qa8 (IntKind.i16.wrap v) true s hl (Str.of hW82 1 rfl) ho81 (hgl.move hW82.step nilM hW82.imm) (qeh 1 rfl) hb) ?_)
 rintro e_ w84 ⟨D85,rfl,hs86,hk87,hv88,hst89⟩
 obtain ⟨hW90,hF91,hl92⟩:=hW82.wrote 1 [⟨b1,0,[.int .i64 0,.slice none 0 0,.bool false,.slice none 0 0,.slice none 0 0],true⟩,⟨b15,0,[.int .i16 (IntKind.i16.wrap v),.int .i32 ((D85.f 0).n),.int .i64 ((D85.f 1).n),.map D85.m],true⟩] rfl hst89 hs86
 have hk96:=qaM _ (Step.refl _ Nil) nilM hl92 hk87
 refine ⟨_,rfl,fun a93 hE94=>?_⟩
 have hE95:=(EnvOk.places (tb':=[⟨b1,0,[.int .i64 0,.slice none 0 0,.bool false,.slice none 0 0,.slice none 0 0],true⟩,⟨b15,0,[.int .i16 (IntKind.i16.wrap v),.int .i32 ((D85.f 0).n),.int .i64 ((D85.f 1).n),.map D85.m],true⟩]) hE94 (show Pl [⟨b1,0,[.int .i64 0,.slice none 0 0,.bool false,.slice none 0 0,.slice none 0 0],true⟩,⟨b15,0,[.int .i16 (IntKind.i16.wrap v),.int .i32 0,.int .i64 (-1),.map none],true⟩] [⟨b1,0,[.int .i64 0,.slice none 0 0,.bool false,.slice none 0 0,.slice none 0 0],true⟩,⟨b15,0,[.int .i16 (IntKind.i16.wrap v),.int .i32 ((D85.f 0).n),.int .i64 ((D85.f 1).n),.map D85.m],true⟩] from ⟨rfl,rfl,⟨rfl,rfl,trivial⟩⟩)).pk (env':=[(7,.v (.nilIface)),(5,.p 1 0),(6,.v (.slice A62 s.length c63))])
 refine qai [3] [] [(4,.v (.nilIface))] hW90 hE95 fun a98 hE99=>?_
 refine qad (qab ?_)
 refine wp_ret ?_
 refine qaO hE99 hW90.cells (v:=.nilIface) kz ?_
 refine ⟨_,rfl,fun a100 hE101=>?_⟩
 have hE102:=(EnvOk.places (tb':=[⟨b1,0,[.int .i64 0,.slice none 0 0,.bool false,.slice none 0 0,.slice none 0 0],true⟩,⟨b15,0,[.int .i16 (IntKind.i16.wrap v),.int .i32 ((D85.f 0).n),.int .i64 ((D85.f 1).n),.map D85.m],true⟩]) hE101 (show Pl [⟨b1,0,[.int .i64 0,.slice none 0 0,.bool false,.slice none 0 0,.slice none 0 0],true⟩,⟨b15,0,[.int .i16 (IntKind.i16.wrap v),.int .i32 0,.int .i64 (-1),.map none],true⟩] [⟨b1,0,[.int .i64 0,.slice none 0 0,.bool false,.slice none 0 0,.slice none 0 0],true⟩,⟨b15,0,[.int .i16 (IntKind.i16.wrap v),.int .i32 ((D85.f 0).n),.int .i64 ((D85.f 1).n),.map D85.m],true⟩] from ⟨rfl,rfl,⟨rfl,rfl,trivial⟩⟩)).pk (env':=[(15,.v (.nilIface)),(4,.p 0 0),(6,.p 1 0),(12,.p 1 0),(13,.v (.slice A2 s.length c2)),(14,.v (.slice A62 s.length c63))])
 refine qai [4] [] [(4,.p 0 0),(6,.p 1 0),(16,.v (.bool false))] hW90 hE102 fun a103 hE104=>?_
 refine qad (qab ?_)
 refine qah hE104 (b:=false) kz rfl ?_
 refine wp_skip ?_
 refine qab ?_
 refine qac [0,1,2,3] kz ?_
 refine qai [0] [1,2,3] [(4,.p 0 0),(18,.p 1 0)] hW90 hE104 fun a105 hE106=>?_
 have hE107:=hE106.recast 18 (.p 1 0) (.v (.pointer (some ⟨b15,0,none⟩))) rfl rfl trivial
 have hE108:=hE107.pk (env':=[(4,.p 0 0),(18,.v (.pointer (some ⟨b15,0,none⟩)))])
 have hat109:=WOk.strOut (G:=F) [⟨b1,0,[.int .i64 0,.slice none 0 0,.bool false,.slice none 0 0,.slice none 0 0],true⟩] hW90
 obtain ⟨hE110,hW111,hF112⟩:=hW90.cutB hE108 1 [⟨b1,0,[.int .i64 0,.slice none 0 0,.bool false,.slice none 0 0,.slice none 0 0],true⟩] [(4,.p 0 0),(18,.v (.pointer (some ⟨b15,0,none⟩)))]
 have hk113:=qaM _ hF112.step immM hF112.to' hk96
 refine qag (qaq hE110 (f:=25) (vs:=[.pointer (some ⟨b15,0,none⟩)]) (d:=19) kz Tryd.call25 (qbe (IntKind.i16.wrap v) D85 b15 0 _ _ hat109 hk113) ?_)
 rintro e_ w117 ⟨cs116,rfl,hr115,hs114⟩
 have hr118:=hr115.move (Step.refl _ Nil) nilM (hW111.laid (G:=F) hs114)
 obtain ⟨n119,s120,b121,l122,u123,A124,c125,A126,c127,A128,c129,xs130,ht136,hcs131,h132,h133,h134,h135⟩:=hr118.open_
 rw [hcs131] at hr118
 have hsm137:=h132.small
 have hsm138:=h133.small
 rw [hcs131]
 refine ⟨_,rfl,fun a139 hE140=>?_⟩
 have hW141:=hW111.next_nil hs114
 have hF142:=hW111.frN hs114
 refine qag (qam hW141 hE140 (oi:=0) (cs:=[.int .i64 n119,.slice A124 s120.length c125,.bool b121,.slice A126 l122.length c127,.slice A128 u123.length c129]) kz fun w143 hF144 hW145 hE146=>?_)
 refine qai [3] [] [(4,.p 0 0),(5,.v (.bool true))] hW145 hE146 fun a147 hE148=>?_
 refine qad (qab ?_)
 refine wp_ret ?_
 refine qaO hE148 hW145.cells (v:=.tuple #[.agg #[.int .i64 n119,.slice A124 s120.length c125,.bool b121,.slice A126 l122.length c127,.slice A128 u123.length c129],.bool true]) kz ?_
 rw [← hv88]
 exact ⟨_,rfl,(show TreeR _ (Imm F w w143 [⟨b1,0,[.int .i64 n119,.slice A124 s120.length c125,.bool b121,.slice A126 l122.length c127,.slice A128 u123.length c129],true⟩] []) _ (qaD D85) from (hr118.move hF144.step immM hF144.to')).move (Step.refl _ Nil) nilM qb8,hW145.step⟩
end Go.Proofs.YtmpejmiiphddhaaDoorR.ME
namespace Go.Proofs.YtmpejmiiphddhaaDoorR.ME
open Go
open Go.RowKit
set_option linter.unusedVariables false
set_option linter.unusedSimpArgs false
set_option maxRecDepth 20000
def qfe (m:Nat):Prop:=∀ (ct1 ct2:List Value) (t:Tree) (w:World) (F:Nat → Nat → Prop),TreeR w F ct1 t → TreeR w F ct2 t → t.depth ≤ m →
  Calls Tryd.prog 9 #[.agg ct1.toArray,.agg ct2.toArray] w (qbv w (.bool true))
set_option maxHeartbeats 4000000 in
theorem qde {m:Nat} (hg:qfe m) (ct1 ct2:List Value) (t:Tree) (w:World) (F:Nat → Nat → Prop) (h1:TreeR w F ct1 t) (h2:TreeR w F ct2 t) (hd:t.depth ≤ m + 1) :
  Calls Tryd.prog 9 #[.agg ct1.toArray,.agg ct2.toArray] w (qbv w (.bool true)):=by
 obtain ⟨n1,s2,b3,l4,u5,A6,c7,A8,c9,A10,c11,xs12,rfl,rfl,h14,h15,h16,h17⟩:=h1.open_
 have hsm19:=h14.small
 have hsm20:=h15.small
 obtain ⟨n',s',b',l',u',A1',c1',A2',c2',A3',c3',xs',e',rfl,g1,g2,g3,g4⟩:=h2.open_
 obtain ⟨q1,q2,q3,q4,q5⟩:=Tree.mk.inj e'
 subst q1 q2 q3 q4 q5
 obtain ⟨cs21,h22,h23⟩:=h17.ex
 have hsm24:=h22.small
 obtain ⟨cs25,h26,h27⟩:=g4.ex
 have hsm28:=h26.small
 refine enter (n:=100) Tryd.func9 rfl Tryd.ntmps9 kz fun a hE=>?_
 have hW:=WOk.start w Nil
 refine qac [0,1,2] kz ?_
 refine qag (qb2 hW hE (d:=2) (cs:=[.int .i64 n1,.slice A6 s2.length c7,.bool b3,.slice A8 l4.length c9,.slice A10 u5.length c11]) kz fun b29 a30 w31 hb32 hz33 hF34 hW35 hE36=>?_)
 refine qag (qb2 hW35 hE36 (d:=3) (cs:=[.int .i64 n1,.slice A1' s2.length c1',.bool b3,.slice A2' l4.length c2',.slice A3' u5.length c3']) kz fun b37 a38 w39 hb40 hz41 hF42 hW43 hE44=>?_)
 refine qai [2] [] [(2,.p 0 0),(3,.p 1 0)] hW43 hE44 fun a45 hE46=>?_
 refine qad (qab ?_)
 refine wp_seq ?_
 refine qac [0,1,2,3,4,5,6,7,8,9,10,11,12,13,14,15,16,17,18,19,20,21,22,23,24,25,26,27,28,29,30,31,32,33,34,35,36,37] kz ?_
 refine qai [0,1,2,3,4,5] [6,7,8,9,10,11,12,13,14,15,16,17,18,19,20,21,22,23,24,25,26,27,28,29,30,31,32,33,34,35,36,37] [(2,.p 0 0),(3,.p 1 0),(12,.v (.bool (n1 != n1)))] hW43 hE46 fun a47 hE48=>?_
 have hc49:(n1 != n1) = false:=by simp
 have hE50:=hE48.cast (env':=[(2,.p 0 0),(3,.p 1 0),(12,.v (.bool false))]) (by rw [hc49])
 refine qai [6,7,8,9,10,11,12] [13,14,15,16,17,18,19,20,21,22,23,24,25,26,27,28,29,30,31,32,33,34,35,36,37] [(2,.p 0 0),(3,.p 1 0),(19,.v (.bool (!(b3 == b3))))] hW43 hE50 fun a51 hE52=>?_
 have hc53:(!(b3 == b3)) = false:=by simp
 have hE54:=hE52.cast (env':=[(2,.p 0 0),(3,.p 1 0),(19,.v (.bool false))]) (by rw [hc53])
 refine qai [13,14,15,16] [17,18,19,20,21,22,23,24,25,26,27,28,29,30,31,32,33,34,35,36,37] [(2,.p 0 0),(3,.p 1 0),(19,.v (.bool false)),(21,.v (.slice A6 s2.length c7)),(23,.v (.slice A1' s2.length c1'))] hW43 hE54 fun a55 hE56=>?_
 refine qag (qaq hE56 (f:=20) (vs:=[.slice A6 s2.length c7,.slice A1' s2.length c1']) (d:=24) kz Tryd.call20 (qfL _ _ _ _ s2 s2 _ _ (h14.move hW43.step nilM hW43.imm) (g1.move hW43.step nilM hW43.imm)) ?_)
 rintro e_ w58 ⟨rfl,hs57⟩
 refine ⟨_,rfl,fun a59 hE60=>?_⟩
 have hW61:=hW43.next_nil hs57
 have hF62:=hW43.frN hs57
 refine qai [18,19,20] [21,22,23,24,25,26,27,28,29,30,31,32,33,34,35,36,37] [(2,.p 0 0),(3,.p 1 0),(27,.v (.bool (!(decide (s2 = s2)))))] hW61 hE60 fun a63 hE64=>?_
 refine (Bool.eq_false_or_eq_true (!(decide (s2 = s2)))).elim (fun hc65=>?_) (fun hc65=>?_)
 ·
  have hE67:=hE64.cast (env':=[(2,.p 0 0),(3,.p 1 0),(27,.v (.bool true))]) (by rw [hc65])
  refine qai [21,22,23,24,25,26,27,28,29,30,31,32,33,34,35,36,37] [] [(2,.p 0 0),(3,.p 1 0),(44,.v (.bool true))] hW61 hE67 fun a68 hE69=>?_
  refine qad (qab ?_)
  refine qaK hE69 (b:=true) kz rfl ?_
  refine qan [(4,.v (.bool false))] hW61 hE69 fun a70 hE71=>?_
  refine wp_ret ?_
  refine qaP ?_
  refine qaO hE71 hW61.cells (v:=.bool false) kz ?_
  exfalso; simp_all
 have hE73:=hE64.cast (env':=[(2,.p 0 0),(3,.p 1 0),(27,.v (.bool false))]) (by rw [hc65])
 refine qai [21,22,23,24,25,26,27,28,29] [30,31,32,33,34,35,36,37] [(2,.p 0 0),(3,.p 1 0),(36,.v (.bool (((l4.length:Nat):Int) != ((l4.length:Nat):Int))))] hW61 hE73 fun a74 hE75=>?_
 have hc76:(((l4.length:Nat):Int) != ((l4.length:Nat):Int)) = false:=by simp
 have hE77:=hE75.cast (env':=[(2,.p 0 0),(3,.p 1 0),(36,.v (.bool false))]) (by rw [hc76])
 refine qai [30,31,32,33,34,35,36,37] [] [(2,.p 0 0),(3,.p 1 0),(44,.v (.bool (((u5.length:Nat):Int) != ((u5.length:Nat):Int))))] hW61 hE77 fun a78 hE79=>?_
 refine qad (qab ?_)
 refine qah hE79 (b:=((u5.length:Nat):Int) != ((u5.length:Nat):Int)) kz (by simp) ?_
 refine wp_skip ?_
 refine qab ?_
 refine wp_seq ?_
 refine qan [(2,.p 0 0),(3,.p 1 0),(47,.v (.int .i64 ((l4.length:Nat):Int))),(48,.v (.int .i64 0))] hW61 hE79 fun a80 hE81=>?_
 refine wp_block ?_
 refine wp_loop_ghost (fun n_ a_ w_=>∃ (k:Nat),n_ = l4.length - k ∧ k ≤ l4.length ∧ LInv hW61 100 [⟨b29,0,[.int .i64 n1,.slice A6 s2.length c7,.bool b3,.slice A8 l4.length c9,.slice A10 u5.length c11],true⟩,⟨b37,0,[.int .i64 n1,.slice A1' s2.length c1',.bool b3,.slice A2' l4.length c2',.slice A3' u5.length c3'],true⟩] [] [(2,.p 0 0),(3,.p 1 0),(47,.v (.int .i64 ((l4.length:Nat):Int))),(48,.v (.int .i64 ((k:Nat):Int)))] a_ w_) (l4.length) ⟨0,by omega,by omega,hE81.pk,hW61,Fr.refl _ _ _⟩ ?_
 rintro n82 a83 w84 ⟨k,hn87,hk88,hE85,hW86,hF89⟩
 refine qan [(2,.p 0 0),(3,.p 1 0),(47,.v (.int .i64 ((l4.length:Nat):Int))),(48,.v (.int .i64 ((k:Nat):Int))),(49,.v (.bool (decide (((k:Nat):Int) < ((l4.length:Nat):Int)))))] hW86 hE85 fun a90 hE91=>?_
 refine wp_seq ?_
 refine qa6 hE91 (b:=decide (((k:Nat):Int) < ((l4.length:Nat):Int))) kz (fun hc92=>?_) (fun hc92=>?_)
 ·
  have hf93:=of_decide_eq_true hc92
  refine wp_skip ?_
  refine qab ?_
  refine wp_seq ?_
  refine wp_block ?_
  refine qan [(2,.p 0 0),(3,.p 1 0),(5,.v (.int .i64 ((k:Nat):Int))),(47,.v (.int .i64 ((l4.length:Nat):Int))),(48,.v (.int .i64 ((k:Nat):Int)))] hW86 hE91 fun a94 hE95=>?_
  refine qa5 12 kz hW86 fun w96 hF97 hW98 hT99=>?_
  refine qaF [0,1,2,5,6,7] [(2,.p 0 0),(3,.p 1 0),(47,.v (.int .i64 ((l4.length:Nat):Int))),(48,.v (.int .i64 ((k:Nat):Int))),(52,.v (.slice A8 l4.length c9)),(53,.v (.int .i64 ((k:Nat):Int))),(57,.v (.slice A2' l4.length c2')),(58,.v (.int .i64 ((k:Nat):Int)))] 6 (qaa (qae (qaa (qaa (qae (qaa qaf)))))) (fun _ h=>h.cells) hT99 hE95 fun a100 hE101=>?_
  obtain ⟨b102,o103,hA104,hl105,hat106⟩:=Slots.get h15 (i:=k) (by omega)
  obtain ⟨x107,he108⟩:∃ x,l4[k]? = some x:=⟨_,List.getElem?_eq_getElem (by omega)⟩
  have hr109:=h16 k x107 he108
  obtain ⟨n110,s111,b112,l113,u114,A115,c116,A117,c118,A119,c120,xs121,rfl,hcs122,h123,h124,h125,h126⟩:=hr109.open_
  rw [hcs122] at hr109
  have hsm128:=h123.small
  have hsm129:=h124.small
  rw [hcs122] at hat106
  refine qax hE101 (i:=3) (t:=32) (A:=A8) (m:=l4.length) (q:=((k:Nat):Int)) (d:=54) kz (e:=35) (size:=5) (bytes:=88) kz hA104 rfl (by omega) kz kz (qaa (qae (qaa (qaa (qae (qaa qaf)))))) hT99 fun a130 hE131=>?_
  refine qaz hE131 (i:=4) (t:=35) (b:=b102) (o:=o103 + k * 5) (d:=55) kz (cs:=[.int .i64 n110,.slice A115 s111.length c116,.bool b112,.slice A117 l113.length c118,.slice A119 u114.length c120]) (v:=.agg #[.int .i64 n110,.slice A115 s111.length c116,.bool b112,.slice A117 l113.length c118,.slice A119 u114.length c120]) kz (fun w' h'=>(AtF.move hat106 (TT.step0 hW98 h') nilM qat).at_) kz kz (qaa (qae (qaa (qaa (qae (qaa qaf)))))) hT99 fun a132 hE133=>?_
  obtain ⟨b134,o135,hA136,hl137,hat138⟩:=Slots.get g2 (i:=k) (by omega)
  obtain ⟨x139,he140⟩:∃ x,l4[k]? = some x:=⟨_,List.getElem?_eq_getElem (by omega)⟩
  have hr141:=g3 k x139 he140
  obtain ⟨n142,s143,b144,l145,u146,A147,c148,A149,c150,A151,c152,xs153,rfl,hcs154,h155,h156,h157,h158⟩:=hr141.open_
  rw [hcs154] at hr141
  have hsm160:=h155.small
  have hsm161:=h156.small
  rw [hcs154] at hat138
  refine qax hE133 (i:=8) (t:=32) (A:=A2') (m:=l4.length) (q:=((k:Nat):Int)) (d:=59) kz (e:=35) (size:=5) (bytes:=88) kz hA136 rfl (by omega) kz kz (qaa (qae (qaa (qaa (qae (qaa qaf)))))) hT99 fun a162 hE163=>?_
  refine qaz hE163 (i:=9) (t:=35) (b:=b134) (o:=o135 + k * 5) (d:=60) kz (cs:=[.int .i64 n142,.slice A147 s143.length c148,.bool b144,.slice A149 l145.length c150,.slice A151 u146.length c152]) (v:=.agg #[.int .i64 n142,.slice A147 s143.length c148,.bool b144,.slice A149 l145.length c150,.slice A151 u146.length c152]) kz (fun w' h'=>(AtF.move hat138 (TT.step0 hW98 h') nilM qat).at_) kz kz (qaa (qae (qaa (qaa (qae (qaa qaf)))))) hT99 fun a164 hE165=>?_
  refine qa1 (i:=10) kz (qaq hE165 (f:=9) (vs:=[.agg #[.int .i64 n110,.slice A115 s111.length c116,.bool b112,.slice A117 l113.length c118,.slice A119 u114.length c120],.agg #[.int .i64 n142,.slice A147 s143.length c148,.bool b144,.slice A149 l145.length c150,.slice A151 u146.length c152]]) (d:=61) kz Tryd.call9 (hg _ _ _ _ _ (hr109.move hW98.step nilM hW98.imm) (by rw [Option.some.inj (he108.symm.trans he140)]; exact (hr141.move hW98.step nilM hW98.imm)) (by have h_:=qcT he108; rw [qca] at hd; omega)) ?_)
  rintro e_ w167 ⟨rfl,hs166⟩
  refine ⟨_,rfl,fun a168 hE169=>?_⟩
  have hW170:=hW98.next_nil hs166
  have hF171:=hW98.frN hs166
  have hT172:=TT.ofW hF171 hW170
  refine ⟨fun _=>hT172,?_⟩
  refine qaF [11] [(2,.p 0 0),(3,.p 1 0),(47,.v (.int .i64 ((l4.length:Nat):Int))),(48,.v (.int .i64 ((k:Nat):Int))),(62,.v (.bool false))] 0 (qaa (qae (qaa (qaa (qae (qaa qaf)))))) (fun _ h=>h.cells) hT172 hE169 fun a173 hE174=>?_
  refine qaV kz ?_ _
  refine qab ?_
  refine qah hE174 (b:=false) kz rfl ?_
  refine wp_skip ?_
  refine qaU ?_
  refine qab ?_
  refine qaw [0,1] kz ?_
  refine qai [0,1] [] [(2,.p 0 0),(3,.p 1 0),(47,.v (.int .i64 ((l4.length:Nat):Int))),(48,.v (.int .i64 (IntKind.i64.wrap (((k:Nat):Int) + 1))))] hW170 hE174 fun a175 hE176=>?_
  refine qad (qab ?_)
  have he177:IntKind.i64.wrap (((k:Nat):Int) + 1) = ((k + 1:Nat):Int):=qbp (by omega)
  rw [he177] at hE176
  exact ⟨l4.length - (k + 1),by omega,k + 1,rfl,by omega,hE176.pk,hW170,((hF89.trans hF97).trans hF171)⟩
 have hf178:=of_decide_eq_false hc92
 refine wp_exit ?_
 refine qaE ?_
 refine qaE ?_
 refine qa4 ?_
 refine qab ?_
 refine wp_seq ?_
 refine qan [(2,.p 0 0),(3,.p 1 0),(66,.v (.int .i64 ((u5.length:Nat):Int))),(67,.v (.int .i64 0))] hW86 hE91 fun a179 hE180=>?_
 refine wp_block ?_
 refine wp_loop_ghost (fun n_ a_ w_=>∃ (q:Nat),n_ = u5.length - q ∧ q ≤ u5.length ∧ LInv hW86 100 [⟨b29,0,[.int .i64 n1,.slice A6 s2.length c7,.bool b3,.slice A8 l4.length c9,.slice A10 u5.length c11],true⟩,⟨b37,0,[.int .i64 n1,.slice A1' s2.length c1',.bool b3,.slice A2' l4.length c2',.slice A3' u5.length c3'],true⟩] [] [(2,.p 0 0),(3,.p 1 0),(66,.v (.int .i64 ((u5.length:Nat):Int))),(67,.v (.int .i64 ((q:Nat):Int)))] a_ w_) (u5.length) ⟨0,by omega,by omega,hE180.pk,hW86,Fr.refl _ _ _⟩ ?_
 rintro n181 a182 w183 ⟨q,hn186,hk187,hE184,hW185,hF188⟩
 refine qan [(2,.p 0 0),(3,.p 1 0),(66,.v (.int .i64 ((u5.length:Nat):Int))),(67,.v (.int .i64 ((q:Nat):Int))),(68,.v (.bool (decide (((q:Nat):Int) < ((u5.length:Nat):Int)))))] hW185 hE184 fun a189 hE190=>?_
 refine wp_seq ?_
 refine qa6 hE190 (b:=decide (((q:Nat):Int) < ((u5.length:Nat):Int))) kz (fun hc191=>?_) (fun hc191=>?_)
 ·
  have hf192:=of_decide_eq_true hc191
  refine wp_skip ?_
  refine qab ?_
  refine wp_seq ?_
  refine wp_block ?_
  refine qan [(2,.p 0 0),(3,.p 1 0),(6,.v (.int .i64 ((q:Nat):Int))),(66,.v (.int .i64 ((u5.length:Nat):Int))),(67,.v (.int .i64 ((q:Nat):Int)))] hW185 hE190 fun a193 hE194=>?_
  refine qa5 29 kz hW185 fun w195 hF196 hW197 hT198=>?_
  refine qaF [0,1,2,6,7,8] [(2,.p 0 0),(3,.p 1 0),(6,.v (.int .i64 ((q:Nat):Int))),(66,.v (.int .i64 ((u5.length:Nat):Int))),(67,.v (.int .i64 ((q:Nat):Int))),(71,.v (.slice A10 u5.length c11)),(72,.v (.int .i64 ((q:Nat):Int))),(77,.v (.slice A3' u5.length c3')),(78,.v (.int .i64 ((q:Nat):Int)))] 23 (qaa (qae (qaa (qaa (qae (qaa qaf)))))) (fun _ h=>h.cells) hT198 hE194 fun a199 hE200=>?_
  obtain ⟨b201,o202,hA203,hl204,hat205⟩:=Slots.get h22 (i:=q) (by omega)
  obtain ⟨⟨k206,s207⟩,he208⟩:∃ x,u5[q]? = some x:=⟨_,List.getElem?_eq_getElem (by omega)⟩
  obtain ⟨⟨A209,c210,hcs211,hb212⟩,h213,h214⟩:=h23 q k206 s207 he208
  rw [hcs211] at hat205
  refine qax hE200 (i:=3) (t:=33) (A:=A10) (m:=u5.length) (q:=((q:Nat):Int)) (d:=73) kz (e:=50) (size:=2) (bytes:=32) kz hA203 rfl (by omega) kz kz (qaa (qae (qaa (qaa (qae (qaa qaf)))))) hT198 fun a215 hE216=>?_
  refine qaF [4] [(2,.p 0 0),(3,.p 1 0),(6,.v (.int .i64 ((q:Nat):Int))),(66,.v (.int .i64 ((u5.length:Nat):Int))),(67,.v (.int .i64 ((q:Nat):Int))),(74,.v (.pointer (some ⟨b201,o202 + q * 2,none⟩))),(77,.v (.slice A3' u5.length c3')),(78,.v (.int .i64 ((q:Nat):Int)))] 21 (qaa (qae (qaa (qaa (qae (qaa qaf)))))) (fun _ h=>h.cells) hT198 hE216 fun a217 hE218=>?_
  refine qaz hE218 (i:=5) (t:=48) (b:=b201) (o:=o202 + q * 2) (d:=75) kz (cs:=[.int .u32 k206]) (v:=.int .u32 k206) kz (fun w' h'=>(At.drop (AtF.move hat205 (TT.step0 hW197 h') nilM qat).at_ 0 1)) kz kz (qaa (qae (qaa (qaa (qae (qaa qaf)))))) hT198 fun a219 hE220=>?_
  obtain ⟨b221,o222,hA223,hl224,hat225⟩:=Slots.get h26 (i:=q) (by omega)
  obtain ⟨⟨k226,s227⟩,he228⟩:∃ x,u5[q]? = some x:=⟨_,List.getElem?_eq_getElem (by omega)⟩
  obtain ⟨⟨A229,c230,hcs231,hb232⟩,h233,h234⟩:=h27 q k226 s227 he228
  rw [hcs231] at hat225
  refine qax hE220 (i:=9) (t:=33) (A:=A3') (m:=u5.length) (q:=((q:Nat):Int)) (d:=79) kz (e:=50) (size:=2) (bytes:=32) kz hA223 rfl (by omega) kz kz (qaa (qae (qaa (qaa (qae (qaa qaf)))))) hT198 fun a235 hE236=>?_
  refine qaF [10] [(2,.p 0 0),(3,.p 1 0),(6,.v (.int .i64 ((q:Nat):Int))),(66,.v (.int .i64 ((u5.length:Nat):Int))),(67,.v (.int .i64 ((q:Nat):Int))),(75,.v (.int .u32 k206)),(80,.v (.pointer (some ⟨b221,o222 + q * 2,none⟩)))] 18 (qaa (qae (qaa (qaa (qae (qaa qaf)))))) (fun _ h=>h.cells) hT198 hE236 fun a237 hE238=>?_
  refine qaz hE238 (i:=11) (t:=48) (b:=b221) (o:=o222 + q * 2) (d:=81) kz (cs:=[.int .u32 k226]) (v:=.int .u32 k226) kz (fun w' h'=>(At.drop (AtF.move hat225 (TT.step0 hW197 h') nilM qat).at_ 0 1)) kz kz (qaa (qae (qaa (qaa (qae (qaa qaf)))))) hT198 fun a239 hE240=>?_
  refine qaF [12,13] [(2,.p 0 0),(3,.p 1 0),(6,.v (.int .i64 ((q:Nat):Int))),(66,.v (.int .i64 ((u5.length:Nat):Int))),(67,.v (.int .i64 ((q:Nat):Int))),(83,.v (.bool (k206 != k226)))] 15 (qaa (qae (qaa (qaa (qae (qaa qaf)))))) (fun _ h=>h.cells) hT198 hE240 fun a241 hE242=>?_
  have hc243:(k206 != k226) = false:=by obtain ⟨e1_,e2_⟩:=Prod.mk.inj (Option.some.inj (he208.symm.trans he228)); simp [e1_,e2_]
  have hE244:=hE242.cast (env':=[(2,.p 0 0),(3,.p 1 0),(6,.v (.int .i64 ((q:Nat):Int))),(66,.v (.int .i64 ((u5.length:Nat):Int))),(67,.v (.int .i64 ((q:Nat):Int))),(83,.v (.bool false))]) (by rw [hc243])
  refine qaF [14,15,16,20,21,22] [(2,.p 0 0),(3,.p 1 0),(66,.v (.int .i64 ((u5.length:Nat):Int))),(67,.v (.int .i64 ((q:Nat):Int))),(83,.v (.bool false)),(85,.v (.slice A10 u5.length c11)),(86,.v (.int .i64 ((q:Nat):Int))),(91,.v (.slice A3' u5.length c3')),(92,.v (.int .i64 ((q:Nat):Int)))] 9 (qaa (qae (qaa (qaa (qae (qaa qaf)))))) (fun _ h=>h.cells) hT198 hE244 fun a245 hE246=>?_
  refine qax hE246 (i:=17) (t:=33) (A:=A10) (m:=u5.length) (q:=((q:Nat):Int)) (d:=87) kz (e:=50) (size:=2) (bytes:=32) kz hA203 rfl (by omega) kz kz (qaa (qae (qaa (qaa (qae (qaa qaf)))))) hT198 fun a247 hE248=>?_
  refine qaF [18] [(2,.p 0 0),(3,.p 1 0),(66,.v (.int .i64 ((u5.length:Nat):Int))),(67,.v (.int .i64 ((q:Nat):Int))),(83,.v (.bool false)),(88,.v (.pointer (some ⟨b201,o202 + q * 2 + 1,none⟩))),(91,.v (.slice A3' u5.length c3')),(92,.v (.int .i64 ((q:Nat):Int)))] 7 (qaa (qae (qaa (qaa (qae (qaa qaf)))))) (fun _ h=>h.cells) hT198 hE248 fun a249 hE250=>?_
  refine qaz hE250 (i:=19) (t:=22) (b:=b201) (o:=o202 + q * 2 + 1) (d:=89) kz (cs:=[.slice A209 s207.length c210]) (v:=.slice A209 s207.length c210) kz (fun w' h'=>(At.drop (AtF.move hat205 (TT.step0 hW197 h') nilM qat).at_ 1 1)) kz kz (qaa (qae (qaa (qaa (qae (qaa qaf)))))) hT198 fun a251 hE252=>?_
  refine qax hE252 (i:=23) (t:=33) (A:=A3') (m:=u5.length) (q:=((q:Nat):Int)) (d:=93) kz (e:=50) (size:=2) (bytes:=32) kz hA223 rfl (by omega) kz kz (qaa (qae (qaa (qaa (qae (qaa qaf)))))) hT198 fun a253 hE254=>?_
  refine qaF [24] [(2,.p 0 0),(3,.p 1 0),(66,.v (.int .i64 ((u5.length:Nat):Int))),(67,.v (.int .i64 ((q:Nat):Int))),(83,.v (.bool false)),(89,.v (.slice A209 s207.length c210)),(94,.v (.pointer (some ⟨b221,o222 + q * 2 + 1,none⟩)))] 4 (qaa (qae (qaa (qaa (qae (qaa qaf)))))) (fun _ h=>h.cells) hT198 hE254 fun a255 hE256=>?_
  refine qaz hE256 (i:=25) (t:=22) (b:=b221) (o:=o222 + q * 2 + 1) (d:=95) kz (cs:=[.slice A229 s227.length c230]) (v:=.slice A229 s227.length c230) kz (fun w' h'=>(At.drop (AtF.move hat225 (TT.step0 hW197 h') nilM qat).at_ 1 1)) kz kz (qaa (qae (qaa (qaa (qae (qaa qaf)))))) hT198 fun a257 hE258=>?_
  refine qa1 (i:=26) kz (qaq hE258 (f:=20) (vs:=[.slice A209 s207.length c210,.slice A229 s227.length c230]) (d:=96) kz Tryd.call20 (qfL _ _ _ _ s207 s227 _ _ (hb212.move hW197.step nilM hW197.imm) (hb232.move hW197.step nilM hW197.imm)) ?_)
  rintro e_ w260 ⟨rfl,hs259⟩
  refine ⟨_,rfl,fun a261 hE262=>?_⟩
  have hW263:=hW197.next_nil hs259
  have hF264:=hW197.frN hs259
  have hT265:=TT.ofW hF264 hW263
  refine ⟨fun _=>hT265,?_⟩
  refine qaF [27,28] [(2,.p 0 0),(3,.p 1 0),(66,.v (.int .i64 ((u5.length:Nat):Int))),(67,.v (.int .i64 ((q:Nat):Int))),(98,.v (.bool (!(decide (s207 = s227)))))] 0 (qaa (qae (qaa (qaa (qae (qaa qaf)))))) (fun _ h=>h.cells) hT265 hE262 fun a266 hE267=>?_
  refine qaV kz ?_ _
  refine qab ?_
  refine qah hE267 (b:=!(decide (s207 = s227))) kz (by obtain ⟨e1_,e2_⟩:=Prod.mk.inj (Option.some.inj (he208.symm.trans he228)); simp [e1_,e2_]) ?_
  refine wp_skip ?_
  refine qaU ?_
  refine qab ?_
  refine qaw [0,1] kz ?_
  refine qai [0,1] [] [(2,.p 0 0),(3,.p 1 0),(66,.v (.int .i64 ((u5.length:Nat):Int))),(67,.v (.int .i64 (IntKind.i64.wrap (((q:Nat):Int) + 1))))] hW263 hE267 fun a268 hE269=>?_
  refine qad (qab ?_)
  have he270:IntKind.i64.wrap (((q:Nat):Int) + 1) = ((q + 1:Nat):Int):=qbp (by omega)
  rw [he270] at hE269
  exact ⟨u5.length - (q + 1),by omega,q + 1,rfl,by omega,hE269.pk,hW263,((hF188.trans hF196).trans hF264)⟩
 have hf271:=of_decide_eq_false hc191
 refine wp_exit ?_
 refine qaE ?_
 refine qaE ?_
 refine qa4 ?_
 refine qab ?_
 refine qan [(4,.v (.bool true))] hW185 hE190 fun a272 hE273=>?_
 refine wp_ret ?_
 refine qaO hE273 hW185.cells (v:=.bool true) kz ?_
 exact ⟨rfl,hW185.step⟩
theorem qff:∀ m,qfe m
 | 0=>fun ct1 ct2 t w F h1 h2 hd=>by
  obtain ⟨n,s,b,l,u,A1,c1,A2,c2,A3,c3,xs,rfl,_⟩:=h1.open_
  rw [qca] at hd; omega
 | m + 1=>qde (qff m)
theorem qaY (w:World):Calls Tryd.prog 11 #[] w (qbv w (.int .i64 3)):=by
 refine enter (n:=4) Tryd.func11 rfl Tryd.ntmps11 kz fun a hE=>?_
 have hW:=WOk.start w Nil
 refine qan [] hW hE fun a1 hE2=>?_
 refine qac [0,1,2,3] kz ?_
 refine qag (qaC hE2 (f:=21) (vs:=[]) (d:=1) (n':=3) kz Tryd.call21 Tryd.func21 rfl Tryd.ntmps21 kz fun a3 hE4=>?_)
 refine qan [] hW hE4 fun a5 hE6=>?_
 refine qac [0] kz ?_
 refine qag (qaB hW hE6 (d:=1) (cs:=[.int .i16 0,.int .i32 0,.int .i64 0,.map none]) kz fun b7 a8 w9 hb10 hz11 hF12 hW13 hE14=>?_)
 refine qad (qab ?_)
 refine qac [0] kz ?_
 refine qag (qaC hE14 (f:=34) (vs:=[.pointer (some ⟨b7,0,none⟩)]) (d:=2) (n':=5) kz Tryd.call34 Tryd.func34 rfl Tryd.ntmps34 kz fun a15 hE16=>?_)
 have hE17:=hE16.recast 0 (.v (.pointer (some ⟨b7,0,none⟩))) (.p 0 0) rfl rfl (Nat.le_of_ble_eq_true (n:=1) rfl)
 refine qaw [0,1,2,3] kz ?_
 refine qai [0,1,2] [3] [(4,.p 0 2)] hW13 hE17 fun a18 hE19=>?_
 refine qag (qam hW13 hE19 (oi:=0) (cs:=[.int .i16 0,.int .i32 0,.int .i64 (-1),.map none]) kz fun w20 hF21 hW22 hE23=>?_)
 refine qad ?_
 refine qa0 hE23 hW22.cells (v:=.tuple #[]) kz ?_
 refine ⟨_,rfl,fun a24 hE25=>?_⟩
 have hE26:=(EnvOk.places (tb':=[⟨b7,0,[.int .i16 0,.int .i32 0,.int .i64 (-1),.map none],true⟩]) hE25 (show Pl [⟨b7,0,[.int .i16 0,.int .i32 0,.int .i64 0,.map none],true⟩] [⟨b7,0,[.int .i16 0,.int .i32 0,.int .i64 (-1),.map none],true⟩] from ⟨rfl,rfl,trivial⟩)).pk (env':=[(2,.v (.tuple #[])),(1,.p 0 0)])
 refine qad (qab ?_)
 refine qan [(0,.p 0 0)] hW22 hE26 fun a27 hE28=>?_
 refine wp_ret ?_
 refine qaO hE28 hW22.cells (v:=.pointer (some ⟨b7,0,none⟩)) kz ?_
 refine ⟨_,rfl,fun a29 hE30=>?_⟩
 have hE31:=(EnvOk.places (tb':=[⟨b7,0,[.int .i16 0,.int .i32 0,.int .i64 (-1),.map none],true⟩]) hE30 (show Pl [] [⟨b7,0,[.int .i16 0,.int .i32 0,.int .i64 (-1),.map none],true⟩] from trivial)).pk (env':=[(1,.v (.pointer (some ⟨b7,0,none⟩)))])
 have hE32:=hE31.recast 1 (.v (.pointer (some ⟨b7,0,none⟩))) (.p 0 0) rfl rfl (Nat.le_of_ble_eq_true (n:=1) rfl)
 have hE33:=hE32.pick (ks:=[1]) (env':=[(1,.p 0 0)]) kz
 refine qag (qaC hE33 (f:=22) (vs:=[.pointer (some ⟨b7,0,none⟩)]) (d:=2) (n':=3) kz Tryd.call22 Tryd.func22 rfl Tryd.ntmps22 kz fun a34 hE35=>?_)
 have hE36:=hE35.recast 0 (.v (.pointer (some ⟨b7,0,none⟩))) (.p 0 0) rfl rfl (Nat.le_of_ble_eq_true (n:=1) rfl)
 refine qan [] hW22 hE36 fun a37 hE38=>?_
 refine qan [(2,.v (.int .i16 3))] hW22 hE38 fun a39 hE40=>?_
 refine wp_ret ?_
 refine qaO hE40 hW22.cells (v:=.int .i16 3) kz ?_
 refine ⟨_,rfl,fun a41 hE42=>?_⟩
 have hE43:=(EnvOk.places (tb':=[⟨b7,0,[.int .i16 0,.int .i32 0,.int .i64 (-1),.map none],true⟩]) hE42 (show Pl [⟨b7,0,[.int .i16 0,.int .i32 0,.int .i64 (-1),.map none],true⟩] [⟨b7,0,[.int .i16 0,.int .i32 0,.int .i64 (-1),.map none],true⟩] from ⟨rfl,rfl,trivial⟩)).pk (env':=[(2,.v (.int .i16 3)),(1,.p 0 0)])
 refine qai [2,3] [] [(0,.v (.int .i64 3))] hW22 hE43 fun a44 hE45=>?_
 refine qad (qab ?_)
 refine wp_ret ?_
 refine qaO hE45 hW22.cells (v:=.int .i64 3) kz ?_
 exact ⟨rfl,hW22.step⟩
set_option maxHeartbeats 4000000 in
theorem qbm (x:Int) (hx:0 ≤ x) (hx':x < 256) (s:Bs) (hl:s.length ≤ 1000) {ue:TypeId} {ve:Value} {A2:Option Addr} {c2:Nat} (w:World) (F:Nat → Nat → Prop) (hs_:Octs w F A2 c2 s) (hgl:AtF w F 0 0 [.iface ue ve]) (hb:(qap (IntKind.i16.wrap (Int.tmod x (3 + 1))) (false,s)).1 = true) :
  Calls Tryd.prog 4 #[.int .u8 x,.slice A2 s.length c2] w (qbv w (.bool true)):=by
 refine enter (n:=49) Tryd.func4 rfl Tryd.ntmps4 kz fun a hE=>?_
 have hW:=WOk.start w Nil
 have hsm2:=Slots.small hs_
 refine qan [(0,.v (.int .u8 x)),(1,.v (.slice A2 s.length c2))] hW hE fun a1 hE2=>?_
 refine wp_seq ?_
 refine qan [(0,.v (.int .u8 x)),(1,.v (.slice A2 s.length c2)),(12,.v (.bool (decide (((s.length:Nat):Int) > 2147483647))))] hW hE2 fun a3 hE4=>?_
 refine qah hE4 (b:=decide (((s.length:Nat):Int) > 2147483647)) kz (decide_eq_false (by omega)) ?_
 refine wp_skip ?_
 refine qab ?_
 refine qac [0,1] kz ?_
 refine qag (qaq hE4 (f:=11) (vs:=[]) (d:=13) kz Tryd.call11 (qaY _) ?_)
 rintro e_ w6 ⟨rfl,hs5⟩
 refine ⟨_,rfl,fun a7 hE8=>?_⟩
 have hW9:=hW.next_nil hs5
 have hF10:=hW.frN hs5
 refine qai [1] [] [(0,.v (.int .u8 x)),(1,.v (.slice A2 s.length c2)),(5,.v (.int .i64 3))] hW9 hE8 fun a11 hE12=>?_
 refine qad (qab ?_)
 refine wp_seq ?_
 refine qan [(0,.v (.int .u8 x)),(1,.v (.slice A2 s.length c2)),(5,.v (.int .i64 3)),(15,.v (.bool false))] hW9 hE12 fun a13 hE14=>?_
 refine qah hE14 (b:=false) kz rfl ?_
 refine wp_skip ?_
 refine qab ?_
 refine wp_seq ?_
 refine qan [(0,.v (.int .u8 x)),(1,.v (.slice A2 s.length c2)),(5,.v (.int .i64 3)),(18,.v (.bool (decide (((s.length:Nat):Int) > 1000))))] hW9 hE14 fun a15 hE16=>?_
 refine qah hE16 (b:=decide (((s.length:Nat):Int) > 1000)) kz (decide_eq_false (by omega)) ?_
 refine wp_skip ?_
 refine qab ?_
 refine qac [0,1,2,3,4,5,6,7,8,9,10] kz ?_
 refine qai [0,1] [2,3,4,5,6,7,8,9,10] [(0,.v (.int .u8 x)),(1,.v (.slice A2 s.length c2)),(5,.v (.int .i64 3)),(20,.v (.int .u8 x)),(21,.v (.int .i64 3))] hW9 hE16 fun a17 hE18=>?_
 refine qag (qaq hE18 (f:=7) (vs:=[.int .u8 x,.int .i64 3]) (d:=22) kz Tryd.call7 (qcl x 3 hx hx' (by decide) (by decide) _) ?_)
 rintro e_ w20 ⟨rfl,hs19⟩
 refine ⟨_,rfl,fun a21 hE22=>?_⟩
 have hW23:=hW9.next_nil hs19
 have hF24:=hW9.frN hs19
 refine qai [3] [4,5,6,7,8,9,10] [(0,.v (.int .u8 x)),(1,.v (.slice A2 s.length c2)),(5,.v (.int .i64 3)),(22,.v (.int .i64 (Int.tmod x (3 + 1)))),(23,.v (.slice A2 s.length c2))] hW23 hE22 fun a25 hE26=>?_
 refine qag (qaq hE26 (f:=12) (vs:=[.int .i64 (Int.tmod x (3 + 1)),.slice A2 s.length c2]) (d:=24) kz Tryd.call12 (qbi (Int.tmod x (3 + 1)) s hl (hs_.move hW23.step nilM hW23.imm) (hgl.move hW23.step nilM hW23.imm) hb) ?_)
 rintro e_ w27 ⟨cs28,rfl,hr29,hs30⟩
 have hr31:=hr29.move (Step.refl _ Nil) nilM (hW23.laid (G:=F) hs30)
 obtain ⟨n32,s33,b34,l35,u36,A37,c38,A39,c40,A41,c42,xs43,ht49,hcs44,h45,h46,h47,h48⟩:=hr31.open_
 rw [hcs44] at hr31
 have hsm50:=h45.small
 have hsm51:=h46.small
 rw [hcs44]
 refine ⟨_,rfl,fun a52 hE53=>?_⟩
 have hW54:=hW23.next_nil hs30
 have hF55:=hW23.frN hs30
 refine qai [5,6,7] [8,9,10] [(0,.v (.int .u8 x)),(1,.v (.slice A2 s.length c2)),(5,.v (.int .i64 3)),(25,.v (.agg #[.int .i64 n32,.slice A37 s33.length c38,.bool b34,.slice A39 l35.length c40,.slice A41 u36.length c42])),(26,.v (.bool false))] hW54 hE53 fun a56 hE57=>?_
 refine qag (qaB hW54 hE57 (d:=6) (cs:=[.int .i64 0,.slice none 0 0,.bool false,.slice none 0 0,.slice none 0 0]) kz fun b58 a59 w60 hb61 hz62 hF63 hW64 hE65=>?_)
 refine qag (qam hW64 hE65 (oi:=0) (cs:=[.int .i64 n32,.slice A37 s33.length c38,.bool b34,.slice A39 l35.length c40,.slice A41 u36.length c42]) kz fun w66 hF67 hW68 hE69=>?_)
 refine qai [10] [] [(0,.v (.int .u8 x)),(1,.v (.slice A2 s.length c2)),(5,.v (.int .i64 3)),(6,.p 0 0),(7,.v (.bool false))] hW68 hE69 fun a70 hE71=>?_
 refine qad (qab ?_)
 refine qac [0,1,2,3,4,5,6,7,8,9,10] kz ?_
 refine qai [0,1] [2,3,4,5,6,7,8,9,10] [(1,.v (.slice A2 s.length c2)),(6,.p 0 0),(7,.v (.bool false)),(28,.v (.int .u8 x)),(29,.v (.int .i64 3))] hW68 hE71 fun a72 hE73=>?_
 refine qag (qaq hE73 (f:=7) (vs:=[.int .u8 x,.int .i64 3]) (d:=30) kz Tryd.call7 (qcl x 3 hx hx' (by decide) (by decide) _) ?_)
 rintro e_ w75 ⟨rfl,hs74⟩
 refine ⟨_,rfl,fun a76 hE77=>?_⟩
 have hW78:=hW68.next_nil hs74
 have hF79:=hW68.frN hs74
 refine qai [3] [4,5,6,7,8,9,10] [(6,.p 0 0),(7,.v (.bool false)),(30,.v (.int .i64 (Int.tmod x (3 + 1)))),(31,.v (.slice A2 s.length c2))] hW78 hE77 fun a80 hE81=>?_
 refine qag (qaq hE81 (f:=13) (vs:=[.int .i64 (Int.tmod x (3 + 1)),.slice A2 s.length c2]) (d:=32) kz Tryd.call13 (qbg (Int.tmod x (3 + 1)) s hl (hs_.move hW78.step nilM hW78.imm) (hgl.move hW78.step nilM hW78.imm) hb) ?_)
 rintro e_ w82 ⟨cs83,rfl,hr84,hs85⟩
 have hr86:=hr84.move (Step.refl _ Nil) nilM (hW78.laid (G:=F) hs85)
 obtain ⟨n87,s88,b89,l90,u91,A92,c93,A94,c95,A96,c97,xs98,ht104,hcs99,h100,h101,h102,h103⟩:=hr86.open_
 rw [hcs99] at hr86
 have hsm105:=h100.small
 have hsm106:=h101.small
 rw [hcs99]
 refine ⟨_,rfl,fun a107 hE108=>?_⟩
 have hW109:=hW78.next_nil hs85
 have hF110:=hW78.frN hs85
 refine qai [5,6,7] [8,9,10] [(6,.p 0 0),(7,.v (.bool false)),(33,.v (.agg #[.int .i64 n87,.slice A92 s88.length c93,.bool b89,.slice A94 l90.length c95,.slice A96 u91.length c97])),(34,.v (.bool false))] hW109 hE108 fun a111 hE112=>?_
 refine qag (qaB hW109 hE112 (d:=8) (cs:=[.int .i64 0,.slice none 0 0,.bool false,.slice none 0 0,.slice none 0 0]) kz fun b113 a114 w115 hb116 hz117 hF118 hW119 hE120=>?_)
 refine qag (qam hW119 hE120 (oi:=1) (cs:=[.int .i64 n87,.slice A92 s88.length c93,.bool b89,.slice A94 l90.length c95,.slice A96 u91.length c97]) kz fun w121 hF122 hW123 hE124=>?_)
 refine qai [10] [] [(6,.p 0 0),(7,.v (.bool false)),(8,.p 1 0),(9,.v (.bool false))] hW123 hE124 fun a125 hE126=>?_
 refine qad (qab ?_)
 refine qa5 14 kz hW123 fun w127 hF128 hW129 hT130=>?_
 refine qaF [0,1,2,3,4,5,6,7,8,9,10,11,12,13] [(48,.v (.bool true))] 1 (qaa qaf) (fun _ h=>h.cells) hT130 hE126 fun a131 hE132=>?_
 refine qa1 (i:=14) kz (qb6 [4] hW129.cells hE132 (env':=[(4,.v (.bool true))]) kz fun a133 hE134=>?_)
 refine ⟨fun h=>absurd rfl h,?_⟩
 refine qaV kz ?_ _
 refine qab ?_
 refine wp_ret ?_
 refine qaO hE134 hW129.cells (v:=.bool true) kz ?_
 exact ⟨rfl,hW129.step⟩
set_option maxHeartbeats 4000000 in
theorem qbn (x:Int) (hx:0 ≤ x) (hx':x < 256) (s:Bs) (hl:s.length ≤ 1000) {ue:TypeId} {ve:Value} {A2:Option Addr} {c2:Nat} (w:World) (F:Nat → Nat → Prop) (hs_:Octs w F A2 c2 s) (hgl:AtF w F 0 0 [.iface ue ve]) (hb:(qap (IntKind.i16.wrap (Int.tmod x (3 + 1))) (false,s)).1 = false) :
  Calls Tryd.prog 4 #[.int .u8 x,.slice A2 s.length c2] w (qbv w (.bool true)):=by
 refine enter (n:=49) Tryd.func4 rfl Tryd.ntmps4 kz fun a hE=>?_
 have hW:=WOk.start w Nil
 have hsm2:=Slots.small hs_
 refine qan [(0,.v (.int .u8 x)),(1,.v (.slice A2 s.length c2))] hW hE fun a1 hE2=>?_
 refine wp_seq ?_
 refine qan [(0,.v (.int .u8 x)),(1,.v (.slice A2 s.length c2)),(12,.v (.bool (decide (((s.length:Nat):Int) > 2147483647))))] hW hE2 fun a3 hE4=>?_
 refine qah hE4 (b:=decide (((s.length:Nat):Int) > 2147483647)) kz (decide_eq_false (by omega)) ?_
 refine wp_skip ?_
 refine qab ?_
 refine qac [0,1] kz ?_
 refine qag (qaq hE4 (f:=11) (vs:=[]) (d:=13) kz Tryd.call11 (qaY _) ?_)
 rintro e_ w6 ⟨rfl,hs5⟩
 refine ⟨_,rfl,fun a7 hE8=>?_⟩
 have hW9:=hW.next_nil hs5
 have hF10:=hW.frN hs5
 refine qai [1] [] [(0,.v (.int .u8 x)),(1,.v (.slice A2 s.length c2)),(5,.v (.int .i64 3))] hW9 hE8 fun a11 hE12=>?_
 refine qad (qab ?_)
 refine wp_seq ?_
 refine qan [(0,.v (.int .u8 x)),(1,.v (.slice A2 s.length c2)),(5,.v (.int .i64 3)),(15,.v (.bool false))] hW9 hE12 fun a13 hE14=>?_
 refine qah hE14 (b:=false) kz rfl ?_
 refine wp_skip ?_
 refine qab ?_
 refine wp_seq ?_
 refine qan [(0,.v (.int .u8 x)),(1,.v (.slice A2 s.length c2)),(5,.v (.int .i64 3)),(18,.v (.bool (decide (((s.length:Nat):Int) > 1000))))] hW9 hE14 fun a15 hE16=>?_
 refine qah hE16 (b:=decide (((s.length:Nat):Int) > 1000)) kz (decide_eq_false (by omega)) ?_
 refine wp_skip ?_
 refine qab ?_
 refine qac [0,1,2,3,4,5,6,7,8,9,10] kz ?_
 refine qai [0,1] [2,3,4,5,6,7,8,9,10] [(0,.v (.int .u8 x)),(1,.v (.slice A2 s.length c2)),(5,.v (.int .i64 3)),(20,.v (.int .u8 x)),(21,.v (.int .i64 3))] hW9 hE16 fun a17 hE18=>?_
 refine qag (qaq hE18 (f:=7) (vs:=[.int .u8 x,.int .i64 3]) (d:=22) kz Tryd.call7 (qcl x 3 hx hx' (by decide) (by decide) _) ?_)
 rintro e_ w20 ⟨rfl,hs19⟩
 refine ⟨_,rfl,fun a21 hE22=>?_⟩
 have hW23:=hW9.next_nil hs19
 have hF24:=hW9.frN hs19
 refine qai [3] [4,5,6,7,8,9,10] [(0,.v (.int .u8 x)),(1,.v (.slice A2 s.length c2)),(5,.v (.int .i64 3)),(22,.v (.int .i64 (Int.tmod x (3 + 1)))),(23,.v (.slice A2 s.length c2))] hW23 hE22 fun a25 hE26=>?_
 refine qag (qaq hE26 (f:=12) (vs:=[.int .i64 (Int.tmod x (3 + 1)),.slice A2 s.length c2]) (d:=24) kz Tryd.call12 (qbj (Int.tmod x (3 + 1)) s hl (hs_.move hW23.step nilM hW23.imm) (hgl.move hW23.step nilM hW23.imm) hb) ?_)
 rintro e_ w27 ⟨cs28,rfl,hr29,hs30⟩
 have hr31:=hr29.move (Step.refl _ Nil) nilM (hW23.laid (G:=F) hs30)
 obtain ⟨n32,s33,b34,l35,u36,A37,c38,A39,c40,A41,c42,xs43,ht49,hcs44,h45,h46,h47,h48⟩:=hr31.open_
 rw [hcs44] at hr31
 have hsm50:=h45.small
 have hsm51:=h46.small
 rw [hcs44]
 refine ⟨_,rfl,fun a52 hE53=>?_⟩
 have hW54:=hW23.next_nil hs30
 have hF55:=hW23.frN hs30
 refine qai [5,6,7] [8,9,10] [(0,.v (.int .u8 x)),(1,.v (.slice A2 s.length c2)),(5,.v (.int .i64 3)),(25,.v (.agg #[.int .i64 n32,.slice A37 s33.length c38,.bool b34,.slice A39 l35.length c40,.slice A41 u36.length c42])),(26,.v (.bool true))] hW54 hE53 fun a56 hE57=>?_
 refine qag (qaB hW54 hE57 (d:=6) (cs:=[.int .i64 0,.slice none 0 0,.bool false,.slice none 0 0,.slice none 0 0]) kz fun b58 a59 w60 hb61 hz62 hF63 hW64 hE65=>?_)
 refine qag (qam hW64 hE65 (oi:=0) (cs:=[.int .i64 n32,.slice A37 s33.length c38,.bool b34,.slice A39 l35.length c40,.slice A41 u36.length c42]) kz fun w66 hF67 hW68 hE69=>?_)
 refine qai [10] [] [(0,.v (.int .u8 x)),(1,.v (.slice A2 s.length c2)),(5,.v (.int .i64 3)),(6,.p 0 0),(7,.v (.bool true))] hW68 hE69 fun a70 hE71=>?_
 refine qad (qab ?_)
 refine qac [0,1,2,3,4,5,6,7,8,9,10] kz ?_
 refine qai [0,1] [2,3,4,5,6,7,8,9,10] [(1,.v (.slice A2 s.length c2)),(6,.p 0 0),(7,.v (.bool true)),(28,.v (.int .u8 x)),(29,.v (.int .i64 3))] hW68 hE71 fun a72 hE73=>?_
 refine qag (qaq hE73 (f:=7) (vs:=[.int .u8 x,.int .i64 3]) (d:=30) kz Tryd.call7 (qcl x 3 hx hx' (by decide) (by decide) _) ?_)
 rintro e_ w75 ⟨rfl,hs74⟩
 refine ⟨_,rfl,fun a76 hE77=>?_⟩
 have hW78:=hW68.next_nil hs74
 have hF79:=hW68.frN hs74
 refine qai [3] [4,5,6,7,8,9,10] [(6,.p 0 0),(7,.v (.bool true)),(30,.v (.int .i64 (Int.tmod x (3 + 1)))),(31,.v (.slice A2 s.length c2))] hW78 hE77 fun a80 hE81=>?_
 refine qag (qaq hE81 (f:=13) (vs:=[.int .i64 (Int.tmod x (3 + 1)),.slice A2 s.length c2]) (d:=32) kz Tryd.call13 (qbh (Int.tmod x (3 + 1)) s hl (hs_.move hW78.step nilM hW78.imm) (hgl.move hW78.step nilM hW78.imm) hb) ?_)
 rintro e_ w82 ⟨cs83,rfl,hr84,hs85⟩
 have hr86:=hr84.move (Step.refl _ Nil) nilM (hW78.laid (G:=F) hs85)
 obtain ⟨n87,s88,b89,l90,u91,A92,c93,A94,c95,A96,c97,xs98,ht104,hcs99,h100,h101,h102,h103⟩:=hr86.open_
 rw [hcs99] at hr86
 have hsm105:=h100.small
 have hsm106:=h101.small
 rw [hcs99]
 refine ⟨_,rfl,fun a107 hE108=>?_⟩
 have hW109:=hW78.next_nil hs85
 have hF110:=hW78.frN hs85
 refine qai [5,6,7] [8,9,10] [(6,.p 0 0),(7,.v (.bool true)),(33,.v (.agg #[.int .i64 n87,.slice A92 s88.length c93,.bool b89,.slice A94 l90.length c95,.slice A96 u91.length c97])),(34,.v (.bool true))] hW109 hE108 fun a111 hE112=>?_
 refine qag (qaB hW109 hE112 (d:=8) (cs:=[.int .i64 0,.slice none 0 0,.bool false,.slice none 0 0,.slice none 0 0]) kz fun b113 a114 w115 hb116 hz117 hF118 hW119 hE120=>?_)
 refine qag (qam hW119 hE120 (oi:=1) (cs:=[.int .i64 n87,.slice A92 s88.length c93,.bool b89,.slice A94 l90.length c95,.slice A96 u91.length c97]) kz fun w121 hF122 hW123 hE124=>?_)
 refine qai [10] [] [(6,.p 0 0),(7,.v (.bool true)),(8,.p 1 0),(9,.v (.bool true))] hW123 hE124 fun a125 hE126=>?_
 refine qad (qab ?_)
 refine qa5 14 kz hW123 fun w127 hF128 hW129 hT130=>?_
 refine qaF [0,1,2,3,4,5,6,7,9] [(38,.v (.bool true)),(41,.v (.bool false)),(42,.v (.agg #[.int .i64 n32,.slice A37 s33.length c38,.bool b34,.slice A39 l35.length c40,.slice A41 u36.length c42])),(44,.v (.agg #[.int .i64 n87,.slice A92 s88.length c93,.bool b89,.slice A94 l90.length c95,.slice A96 u91.length c97]))] 6 (qaa qaf) (fun _ h=>h.cells) hT130 hE126 fun a131 hE132=>?_
 refine qa1 (i:=8) kz (qaq hE132 (f:=10) (vs:=[.agg #[.int .i64 n32,.slice A37 s33.length c38,.bool b34,.slice A39 l35.length c40,.slice A41 u36.length c42]]) (d:=43) kz Tryd.call10 (lGot _ _ _ _ _ (hr31.move ((((((hF63.trans hF67).trans hF79).trans hF110).trans hF118).trans hF122).trans hF128).step immM ((((((hF63.trans hF67).trans hF79).trans hF110).trans hF118).trans hF122).trans hF128).to') (Nat.le_refl _)) ?_)
 rintro e_ w136 ⟨cs135,rfl,hr134,hs133⟩
 have hr137:=hr134.move (Step.refl _ Nil) nilM (hW129.laid (G:=F) hs133)
 obtain ⟨n138,s139,b140,l141,u142,A143,c144,A145,c146,A147,c148,xs149,ht155,hcs150,h151,h152,h153,h154⟩:=hr137.open_
 rw [hcs150] at hr137
 have hsm156:=h151.small
 have hsm157:=h152.small
 rw [hcs150]
 refine ⟨_,rfl,fun a158 hE159=>?_⟩
 have hW160:=hW129.next_nil hs133
 have hF161:=hW129.frN hs133
 have hT162:=TT.ofW hF161 hW160
 refine ⟨fun _=>hT162,?_⟩
 refine qa1 (i:=10) kz (qaq hE159 (f:=10) (vs:=[.agg #[.int .i64 n87,.slice A92 s88.length c93,.bool b89,.slice A94 l90.length c95,.slice A96 u91.length c97]]) (d:=45) kz Tryd.call10 (lGot _ _ _ _ _ (hr86.move (((hF118.trans hF122).trans hF128).trans hF161).step immM (((hF118.trans hF122).trans hF128).trans hF161).to') (Nat.le_refl _)) ?_)
 rintro e_ w166 ⟨cs165,rfl,hr164,hs163⟩
 have hr167:=hr164.move (Step.refl _ Nil) nilM (hW160.laid (G:=F) hs163)
 obtain ⟨n168,s169,b170,l171,u172,A173,c174,A175,c176,A177,c178,xs179,ht185,hcs180,h181,h182,h183,h184⟩:=hr167.open_
 rw [hcs180] at hr167
 have hsm186:=h181.small
 have hsm187:=h182.small
 rw [hcs180]
 refine ⟨_,rfl,fun a188 hE189=>?_⟩
 have hW190:=hW160.next_nil hs163
 have hF191:=hW160.frN hs163
 have hT192:=TT.ofW (hF161.trans hF191) hW190
 refine ⟨fun _=>hT192,?_⟩
 refine qa1 (i:=11) kz (qaq hE189 (f:=9) (vs:=[.agg #[.int .i64 n138,.slice A143 s139.length c144,.bool b140,.slice A145 l141.length c146,.slice A147 u142.length c148],.agg #[.int .i64 n168,.slice A173 s169.length c174,.bool b170,.slice A175 l171.length c176,.slice A177 u172.length c178]]) (d:=46) kz Tryd.call9 (qff _ _ _ _ _ _ (hr137.move hF191.step immM hF191.to') hr167 (Nat.le_refl _)) ?_)
 rintro e_ w194 ⟨rfl,hs193⟩
 refine ⟨_,rfl,fun a195 hE196=>?_⟩
 have hW197:=hW190.next_nil hs193
 have hF198:=hW190.frN hs193
 have hT199:=TT.ofW ((hF161.trans hF191).trans hF198) hW197
 refine ⟨fun _=>hT199,?_⟩
 refine qaF [12,13] [(48,.v (.bool true))] 1 (qaa qaf) (fun _ h=>h.cells) hT199 hE196 fun a200 hE201=>?_
 refine qa1 (i:=14) kz (qb6 [4] hW197.cells hE201 (env':=[(4,.v (.bool true))]) kz fun a202 hE203=>?_)
 refine ⟨fun h=>absurd rfl h,?_⟩
 refine qaV kz ?_ _
 refine qab ?_
 refine wp_ret ?_
 refine qaO hE203 hW197.cells (v:=.bool true) kz ?_
 exact ⟨rfl,hW197.step⟩
theorem qbo (x:Int) (hx:0 ≤ x) (hx':x < 256) (s:Bs) (hl:¬ s.length ≤ 1000) {A2:Option Addr} {c2:Nat} (w:World) (F:Nat → Nat → Prop) (hs_:Octs w F A2 c2 s) :
  Calls Tryd.prog 4 #[.int .u8 x,.slice A2 s.length c2] w (qbv w (.bool true)):=by
 refine enter (n:=49) Tryd.func4 rfl Tryd.ntmps4 kz fun a hE=>?_
 have hW:=WOk.start w Nil
 have hsm2:=Slots.small hs_
 refine qan [(0,.v (.int .u8 x)),(1,.v (.slice A2 s.length c2))] hW hE fun a1 hE2=>?_
 refine wp_seq ?_
 refine qan [(0,.v (.int .u8 x)),(1,.v (.slice A2 s.length c2)),(12,.v (.bool (decide (((s.length:Nat):Int) > 2147483647))))] hW hE2 fun a3 hE4=>?_
 refine qa6 hE4 (b:=decide (((s.length:Nat):Int) > 2147483647)) kz (fun hc5=>?_) (fun hc5=>?_)
 ·
  have hf6:=of_decide_eq_true hc5
  refine qan [(4,.v (.bool true))] hW hE4 fun a7 hE8=>?_
  refine wp_ret ?_
  refine qaP ?_
  refine qaO hE8 hW.cells (v:=.bool true) kz ?_
  exact ⟨rfl,hW.step⟩
 have hf9:=of_decide_eq_false hc5
 refine wp_skip ?_
 refine qab ?_
 refine qac [0,1] kz ?_
 refine qag (qaq hE4 (f:=11) (vs:=[]) (d:=13) kz Tryd.call11 (qaY _) ?_)
 rintro e_ w11 ⟨rfl,hs10⟩
 refine ⟨_,rfl,fun a12 hE13=>?_⟩
 have hW14:=hW.next_nil hs10
 have hF15:=hW.frN hs10
 refine qai [1] [] [(0,.v (.int .u8 x)),(1,.v (.slice A2 s.length c2)),(5,.v (.int .i64 3))] hW14 hE13 fun a16 hE17=>?_
 refine qad (qab ?_)
 refine wp_seq ?_
 refine qan [(0,.v (.int .u8 x)),(1,.v (.slice A2 s.length c2)),(5,.v (.int .i64 3)),(15,.v (.bool false))] hW14 hE17 fun a18 hE19=>?_
 refine qah hE19 (b:=false) kz rfl ?_
 refine wp_skip ?_
 refine qab ?_
 refine wp_seq ?_
 refine qan [(0,.v (.int .u8 x)),(1,.v (.slice A2 s.length c2)),(5,.v (.int .i64 3)),(18,.v (.bool (decide (((s.length:Nat):Int) > 1000))))] hW14 hE19 fun a20 hE21=>?_
 refine qaK hE21 (b:=decide (((s.length:Nat):Int) > 1000)) kz (decide_eq_true (by omega)) ?_
 refine qan [(4,.v (.bool true))] hW14 hE21 fun a22 hE23=>?_
 refine wp_ret ?_
 refine qaP ?_
 refine qaO hE23 hW14.cells (v:=.bool true) kz ?_
 exact ⟨rfl,hW14.step⟩
theorem qbq (x:Int) (hx:0 ≤ x ∧ x ≤ 255) (s:Bs) {ue:TypeId} {ve:Value} {A2:Option Addr} {c2:Nat} (w:World) (F:Nat → Nat → Prop) (hs_:Octs w F A2 c2 s) (hgl:AtF w F 0 0 [.iface ue ve]):Calls Tryd.prog 4 #[.int .u8 x,.slice A2 s.length c2] w (qbv w (.bool true)):=by
 by_cases hl:s.length ≤ 1000
 ·cases hb:(qap (IntKind.i16.wrap (Int.tmod x (3 + 1))) (false,s)).1 with
  | true=>exact qbm x hx.1 (by omega) s hl w F hs_ hgl hb
  | false=>exact qbn x hx.1 (by omega) s hl w F hs_ hgl hb
 exact qbo x hx.1 (by omega) s hl w F hs_
end Go.Proofs.YtmpejmiiphddhaaDoorR.ME