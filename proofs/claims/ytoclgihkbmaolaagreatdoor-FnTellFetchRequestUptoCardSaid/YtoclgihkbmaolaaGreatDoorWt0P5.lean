/- Packed. Own work. -/
import Derived.Test.YtoclgihkbmaolaaGreatDoorWt0P4
namespace Go.Proofs.YtoclgihkbmaolaaGreatDoor.ME
open Go
open Go.RowKit
set_option linter.unusedVariables false
set_option linter.unusedSimpArgs false
set_option maxRecDepth 20000
def JS (m:Nat):Prop:=∀ (ct:List Value) (t:Tree) (w:World) (F:Nat → Nat → Prop),TreeR w F ct t → t.depth ≤ m →
  Calls Tryz.prog 12 #[.agg ct.toArray] w (T0 w F t)
theorem NE {m:Nat} (hg:JS m) (ct:List Value) (t:Tree) (w:World) (F:Nat → Nat → Prop) (ht:TreeR w F ct t) (hd:t.depth ≤ m + 1) :
  Calls Tryz.prog 12 #[.agg ct.toArray] w (T0 w F t):=by
 obtain ⟨n1,s2,b3,l4,u5,A6,c7,A8,c9,dp,dq,ew,rfl,rfl,dN,dO,ey,ez⟩:=ht.open_
 have dP:=dN.small
 have dQ:=dO.small
 obtain ⟨eB,dR,eC⟩:=ez.ex
 have dS:=dR.small
 refine enter (n:=49) Tryz.func12 rfl Tryz.ntmps12 kz fun a hE=>?_
 have hW:=WOk.start w C1
 refine C0 [0,1] kz ?_
 let ac:Value:=.int .i64 n1
 let ae:Value:=.slice A6 s2.length c7
 let af:Value:=.bool b3
 refine B2 (K9 hW hE (d:=1) (cs:=[ac,ae,af,.slice A8 l4.length c9,.slice dp u5.length dq]) kz fun eD fT fU eE eF eG dr dt=>?_)
 let aa:Value:=.slice none 0 0
 refine B2 (H4 dr dt (d:=2) (cs:=[.int .i64 0,aa,.bool false,aa,aa]) kz fun eH fV fW eI eJ eK cr du=>?_)
 refine B5 (A4 ?_)
 refine C0 [0,1,2,3,4,5,6,7,8] kz ?_
 let ah:Nat × SV:=(1,.p 0 0)
 let ab:Nat × SV:=(2,.p 1 0)
 refine B1 [0,1,2,3,4,5,6] [7,8] [ah,ab,(14,.v (.agg #[ac,ae,af,aa,aa]))] cr du fun fX dv=>?_
 refine B2 (H4 cr dv (d:=3) (cs:=[.int .i64 0,aa,.bool false,aa,aa]) kz fun cm fY fZ eL eM eN dw dx=>?_)
 refine B2 (D5 dw dx (oi:=2) (cs:=[ac,ae,af,aa,aa]) kz fun f5 eO bM dy=>?_)
 refine B5 (A4 ?_)
 refine wp_seq ?_
 let ag:Nat × SV:=(3,.p 2 0)
 let ai:Nat × SV:=(16,.v (.slice A8 l4.length c9))
 let aj:Nat × SV:=(17,.v (.int .i64 ((l4.length:Nat):Int)))
 refine B7 [ah,ab,ag,ai,aj,(18,.v (.int .i64 0))] bM dy fun f7 dA=>?_
 refine wp_block ?_
 have cu:=bM.addNil 26 5
 have eP:=bM.frNil 26 5
 let ap:Ob:=⟨eD,0,[ac,ae,af,.slice A8 l4.length c9,.slice dp u5.length dq],true⟩
 let ar:Ob:=⟨eH,0,[.int .i64 0,aa,.bool false,aa,aa],true⟩
 refine wp_loop_ghost (fun n_ a_ w_=>∃ (k:Nat) (A_:Option Addr) (c_:Nat) (xs:List Value) (css:List (List Value)),n_ = l4.length - k ∧ k ≤ l4.length ∧ (Trees w_ (E9 F w w_ [ap,ar,⟨cm,0,[ac,ae,af,.slice A_ k c_,aa],true⟩] [⟨A_,c_,26,5,k,xs⟩]) xs (l4.take k) css) ∧ F9 cu 49 [ap,ar,⟨cm,0,[ac,ae,af,.slice A_ k c_,aa],true⟩] [⟨A_,c_,26,5,k,xs⟩] [ah,ab,ag,ai,aj,(18,.v (.int .i64 ((k:Nat):Int)))] a_ w_) (l4.length) ⟨0,none,0,[],[],by omega,by omega,Trees.nil _ _,dA.pk,cu,Fr.refl _ _ _⟩ ?_
 rintro f8 f9 ga ⟨k,A_,c_,xs,css,eQ,eR,hT,dB,aK,dC⟩
 let aL:Nat × SV:=(18,.v (.int .i64 ((k:Nat):Int)))
 refine B7 [ah,ab,ag,ai,aj,aL,(19,.v (.bool (decide (((k:Nat):Int) < ((l4.length:Nat):Int)))))] aK dB fun gb bN=>?_
 refine wp_seq (D4 bN (b:=decide (((k:Nat):Int) < ((l4.length:Nat):Int))) kz (fun bO=>?_) (fun bO=>?_))
 ·
  have eS:=of_decide_eq_true bO
  refine wp_skip (A4 (wp_seq (wp_block (C0 [0,1,2,3] kz ?_))))
  obtain ⟨eU,eV,dD,eW,bx⟩:=Slots.get dO (i:=k) (by omega)
  obtain ⟨eX,bP⟩:∃ x,l4[k]? = some x:=⟨_,List.getElem?_eq_getElem (by omega)⟩
  have bQ:=ey k eX bP
  obtain ⟨dT,dU,cq,dV,dW,dX,dY,dZ,d4,d5,d6,eY,rfl,bz,eZ,e9,gc,gd⟩:=bQ.open_
  rw [bz] at bQ
  have d7:=eZ.small
  have d8:=e9.small
  rw [bz] at bx
  refine B2 (G6 bN (t:=34) (A:=A8) (m:=l4.length) (q:=((k:Nat):Int)) (d:=20) kz (e:=37) (size:=5) (bytes:=88) kz dD rfl (by omega) fun ge cw=>?_)
  let ay:Value:=.int .i64 dT
  let az:Value:=.slice dX dU.length dY
  let aA:Value:=.slice dZ dV.length d4
  let aB:Value:=.slice d5 dW.length d6
  let d9:Value:=.agg #[.int .i64 dT,.slice dX dU.length dY,.bool cq,.slice dZ dV.length d4,.slice d5 dW.length d6]
  refine B2 (K3 cw (t:=37) (b:=eU) (o:=eV + k * 5) (d:=21) kz (cs:=[ay,az,.bool cq,aA,aB]) (v:=.agg #[ay,az,.bool cq,aA,aB]) kz (AtF.move bx aK.step A7 E8).at_ fun fb cz=>?_)
  refine B2 (H4 aK cz (d:=5) (cs:=[.int .i64 0,aa,.bool false,aa,aa]) kz fun fe ff fg ea eb aM cA cB=>?_)
  refine B2 (D5 cA cB (oi:=3) (cs:=[ay,az,.bool cq,aA,aB]) kz fun fh aN cC cD=>?_)
  refine B5 (A4 ?_)
  refine S8 7 kz cC fun fi aO aC cE=>?_
  refine C7 [0,1,2] [ah,ab,ag,ai,aj,aL,(23,.v (.slice A_ k c_)),(24,.v (.agg #[ay,az,.bool cq,aA,aB]))] 5 (B6 (A5 (A5 (B6 (A5 B8))))) (fun _ h=>h.cells) cE cD fun fj cG=>?_
  refine C2 (i:=3) kz (D3 cG (f:=12) (vs:=[.agg #[ay,az,.bool cq,aA,aB]]) (d:=25) kz Tryz.call12 ( hg _ _ _ _ (bQ.move aC.step A7 aC.imm) (by have h_:=Ik bP; rw [Il] at hd; omega)) ?_)
  rintro e_ fk ⟨ec,rfl,cH,aP⟩
  have aQ:=cH.move (Step.refl _ C1) A7 (aC.laid (G:=F) aP)
  obtain ⟨aR,bR,aS,bS,bT,bU,bV,bW,bX,bY,bZ,ee,ef,aT,dE,dF,fm,fo⟩:=aQ.open_
  rw [aT] at aQ
  have dG:=dE.small
  have dH:=dF.small
  rw [aT]
  refine ⟨_,rfl,fun fq cI=>?_⟩
  have bA:=aC.next_nil aP
  have au:=aC.frN aP
  have cJ:=TT.ofW au bA
  refine ⟨fun _=>cJ,?_⟩
  let aU:Value:=.slice bU bR.length bV
  let aV:Value:=.slice bW bS.length bX
  let aW:Value:=.slice bY bT.length bZ
  refine C2 (i:=4) kz (L3 bA cI (e:=26) (size:=5) (len:=1) (cs:=[.int .i64 aR,aU,.bool aS,aV,aW]) (d:=26) kz kz fun dI fr ft eg eh ak aI cK=>?_)
  have cL:=TT.ofW (au.trans ak) aI
  refine ⟨fun _=>cL,?_⟩
  refine C2 (i:=5) kz (I4 aI cK (k:=0) (d:=27) (t:=23) (e:=26) (size:=5) (bytes:=88) (A:=A_) (As:=(some ⟨dI,0,none⟩)) (m0:=k) (c:=c_) (m:=1) (cs:=1) (xs:=xs) (news:=[.int .i64 aR,aU,.bool aS,aV,aW]) kz kz rfl (L0 (aI.own 1 _ rfl) (N4 kz)) (M1 (aI.own 1 _ rfl)) (by omega) fun aX aY fv fw av bB cM=>?_)
  have bC:=TT.ofW ((au.trans ak).trans av) bB
  refine ⟨fun _=>bC,?_⟩
  refine C7 [6] [ah,ab,ag,ai,aj,aL,(27,.v (.slice aX (k + 1) aY)),(28,.p 2 3)] 1 (B6 (A5 (A5 (B6 (A5 B8))))) (fun _ h=>h.cells) bC cM fun fx cN=>?_
  refine C2 (i:=7) kz (D5 bB cN (oi:=2) (cs:=[ac,ae,af,.slice aX (k + 1) aY,aa]) kz fun fy aD bD cO=>?_)
  refine ⟨fun h=>absurd rfl h,?_⟩
  refine E5 kz ?_ _
  refine F2 (A4 (D7 [0,1] kz ?_))
  refine B1 [0,1] [] [ah,ab,ag,ai,aj,(18,.v (.int .i64 (IntKind.i64.wrap (((k:Nat):Int) + 1))))] bD cO fun fz cP=>?_
  refine B5 (A4 ?_)
  obtain ⟨bE,cQ,aE⟩:=bD.cutB cP 3 [ap,ar,⟨cm,0,[ac,ae,af,.slice aX (k + 1) aY,aa],true⟩] [ah,ab,ag,ai,aj,(18,.v (.int .i64 (IntKind.i64.wrap (((k:Nat):Int) + 1))))]
  obtain ⟨cR,aF⟩:=cQ.cutR 1 [⟨aX,aY,26,5,k + 1,xs ++ [.int .i64 aR,aU,.bool aS,aV,aW]⟩]
  have cS:IntKind.i64.wrap (((k:Nat):Int) + 1) = ((k + 1:Nat):Int):=G8 (by omega)
  rw [cS] at bE
  exact ⟨l4.length - (k + 1),by omega,k + 1,aX,aY,xs ++ [Value.int .i64 aR,.slice bU bR.length bV,.bool aS,.slice bW bS.length bX,.slice bY bT.length bZ],(css ++ [[Value.int .i64 aR,.slice bU bR.length bV,.bool aS,.slice bW bS.length bX,.slice bY bT.length bZ]]),rfl,by omega,by rw [Ek bP]; exact (hT.move ((((((((aM.trans aN).trans aO).trans au).trans ak).trans av).trans aD).trans aE).trans aF).step immM ((((((((aM.trans aN).trans aO).trans au).trans ak).trans av).trans aD).trans aE).trans aF).to').snoc (aQ.move ((((ak.trans av).trans aD).trans aE).trans aF).step immM ((((ak.trans av).trans aD).trans aE).trans aF).to'),bE.pk,cR,(((((((((dC.trans aM).trans aN).trans aO).trans au).trans ak).trans av).trans aD).trans aE).trans aF)⟩
 have ei:=of_decide_eq_false bO
 refine wp_exit (E7 (E7 (G9 (A4 (wp_seq ?_)))))
 let al:Nat × SV:=(31,.v (.slice dp u5.length dq))
 let am:Nat × SV:=(32,.v (.int .i64 ((u5.length:Nat):Int)))
 refine B7 [ab,ag,al,am,(33,.v (.int .i64 0))] aK bN fun fA cT=>?_
 refine wp_block ?_
 have hk0:k = l4.length:=by omega
 have bF:=aK.addNil 66 2
 have bG:=aK.frNil 66 2
 let ao:Value:=.slice A_ k c_
 refine wp_loop_ghost (fun n_ a_ w_=>∃ (q:Nat) (A5_:Option Addr) (c5_:Nat) (ys:List Value) (dss:List (List Value)),n_ = u5.length - q ∧ q ≤ u5.length ∧ (Tags w_ (E9 F w w_ [ap,ar,⟨cm,0,[ac,ae,af,ao,.slice A5_ q c5_],true⟩] [⟨A_,c_,26,5,k,xs⟩,⟨A5_,c5_,66,2,q,ys⟩]) ys (u5.take q) dss) ∧ F9 bF 49 [ap,ar,⟨cm,0,[ac,ae,af,ao,.slice A5_ q c5_],true⟩] [⟨A_,c_,26,5,k,xs⟩,⟨A5_,c5_,66,2,q,ys⟩] [ab,ag,al,am,(33,.v (.int .i64 ((q:Nat):Int)))] a_ w_) (u5.length) ⟨0,none,0,[],[],by omega,by omega,Tags.nil _ _,cT.pk,bF,Fr.refl _ _ _⟩ ?_
 rintro fB fC fD ⟨q,A5_,c5_,ys,dss,ej,ek,hU,cU,aG,aZ⟩
 let ba:Nat × SV:=(33,.v (.int .i64 ((q:Nat):Int)))
 refine B7 [ab,ag,al,am,ba,(34,.v (.bool (decide (((q:Nat):Int) < ((u5.length:Nat):Int)))))] aG cU fun fE bd=>?_
 refine wp_seq (D4 bd (b:=decide (((q:Nat):Int) < ((u5.length:Nat):Int))) kz (fun bf=>?_) (fun bf=>?_))
 ·
  have em:=of_decide_eq_true bf
  refine wp_skip (A4 (wp_seq (wp_block (C0 [0,1,2,3] kz ?_))))
  obtain ⟨dJ,dK,cV,eo,bg⟩:=Slots.get dR (i:=q) (by omega)
  obtain ⟨⟨bh,bj⟩,bH⟩:∃ x,u5[q]? = some x:=⟨_,List.getElem?_eq_getElem (by omega)⟩
  obtain ⟨⟨b8,cd,ce,cW⟩,dL,dM⟩:=eC q bh bj bH
  rw [ce] at bg
  refine B2 (G6 bd (t:=35) (A:=dp) (m:=u5.length) (q:=((q:Nat):Int)) (d:=35) kz (e:=69) (size:=2) (bytes:=32) kz cV rfl (by omega) fun fF cX=>?_)
  let aw:Value:=.int .u32 bh
  let ax:Value:=.slice b8 bj.length cd
  refine B2 (K3 cX (t:=69) (b:=dJ) (o:=dK + q * 2) (d:=36) kz (cs:=[aw,ax]) (v:=.agg #[aw,ax]) kz (AtF.move bg aG.step A7 E8).at_ fun fG cY=>?_)
  refine B2 (H4 aG cY (d:=7) (cs:=[.int .u32 0,aa]) kz fun fH fI fJ ep eu bk cZ da=>?_)
  refine B2 (D5 cZ da (oi:=3) (cs:=[aw,ax]) kz fun fK bn bI db=>?_)
  refine B5 (A4 ?_)
  refine D7 [0,1,2,3,4,5,6,7,8,9,10] kz ?_
  refine B1 [0,1,2,3,4,5,6] [7,8,9,10] [ab,ag,al,am,ba,(38,.v (.slice A5_ q c5_)),(43,.v (.agg #[aw,ax]))] bI db fun fL dc=>?_
  refine Bz bI dc (k:=1) (e:=66) (size:=2) (len:=1) (cs:=[aw,ax]) (d1:=44) (d:=45) kz (t:=24) (bytes:=32) kz (fun _=>by kernel_rfl) rfl kz (by omega) fun bu bw fM fN bo bJ ⟨_,de⟩=>?_
  refine B1 [9] [10] [ab,ag,al,am,ba,(45,.v (.slice bu (q + 1) bw)),(46,.p 2 4)] bJ de fun fO df=>?_
  refine B2 (D5 bJ df (oi:=2) (cs:=[ac,ae,af,ao,.slice bu (q + 1) bw]) kz fun fP bp bK dg=>?_)
  refine B5 (F2 (A4 (D7 [0,1] kz ?_)))
  refine B1 [0,1] [] [ab,ag,al,am,(33,.v (.int .i64 (IntKind.i64.wrap (((q:Nat):Int) + 1))))] bK dg fun fQ dh=>?_
  refine B5 (A4 ?_)
  obtain ⟨bL,bq,bt⟩:=bK.cutB dh 3 [ap,ar,⟨cm,0,[ac,ae,af,ao,.slice bu (q + 1) bw],true⟩] [ab,ag,al,am,(33,.v (.int .i64 (IntKind.i64.wrap (((q:Nat):Int) + 1))))]
  have di:IntKind.i64.wrap (((q:Nat):Int) + 1) = ((q + 1:Nat):Int):=G8 (by omega)
  rw [di] at bL
  exact ⟨u5.length - (q + 1),by omega,q + 1,bu,bw,ys ++ [Value.int .u32 bh,.slice b8 bj.length cd],(dss ++ [[Value.int .u32 bh,.slice b8 bj.length cd]]),rfl,by omega,by rw [Ek bH]; exact (hU.move ((((bk.trans bn).trans bo).trans bp).trans bt).step immM ((((bk.trans bn).trans bo).trans bp).trans bt).to').snoc (c:=[aw,ax]) (x:=(bh,bj)) ⟨⟨_,_,rfl,(cW.move bq.step A7 bq.imm)⟩,dL,dM⟩,bL.pk,bq,(((((aZ.trans bk).trans bn).trans bo).trans bp).trans bt)⟩
 have ev:=of_decide_eq_false bf
 refine wp_exit (E7 (E7 (G9 (A4 (C0 [0,1] kz ?_)))))
 refine B1 [0] [1] [ab,(48,.v (.agg #[ac,ae,af,ao,.slice A5_ q c5_]))] aG bd fun fR dj=>?_
 refine B2 (D5 aG dj (oi:=1) (cs:=[ac,ae,af,ao,.slice A5_ q c5_]) kz fun fS aJ aH dl=>?_)
 refine B5 (A4 ?_)
 refine wp_ret (C8 dl aH.cells (v:=.agg #[ac,ae,af,ao,.slice A5_ q c5_]) kz ?_)
 have hq0:q = u5.length:=by omega
 have hT':=(hT.move ((bG.trans aZ).trans aJ).step immM ((bG.trans aZ).trans aJ).to')
 have hU':=(hU.move aJ.step immM aJ.to')
 rw [show l4.take k = l4 by rw [hk0,List.take_length]] at hT'
 rw [show u5.take q = u5 by rw [hq0,List.take_length]] at hU'
 exact LF aH rfl (dN.move aH.step A7 LG) hk0 (Im aH (k:=0) rfl hT' hk0 (by omega)) hq0 (LE aH (k:=1) rfl hU' hq0 (by omega)) rfl
theorem DA:∀ m,JS m
 | 0=>fun ct t w F ht hd=>by
  obtain ⟨n,s,b,l,u,A1,c1,A2,c2,A3,c3,xs,rfl,_⟩:=ht.open_
  rw [Il] at hd; omega
 | m + 1=>NE (DA m)
theorem DB {u:List (Int × Bs)} {A:Option Addr} {c:Nat} {w:World} {F:Nat → Nat → Prop} (hu:TagsR w F A c u) (hsrt:Q0 u):Calls Tryz.prog 41 #[.slice A u.length c] w (L5 w (.tuple #[])):=by
 obtain ⟨cs1,h2,h3⟩:=hu.ex
 have hsm4:=h2.small
 refine enter (n:=45) Tryz.func41 rfl Tryz.ntmps41 kz fun a hE=>?_
 have hW:=WOk.start w C1
 let aa:Nat × SV:=(0,.v (.slice A u.length c))
 let ab:Nat × SV:=(5,.v (.int .i64 ((u.length:Nat):Int)))
 refine B7 [aa,ab,(6,.v (.int .i64 0))] hW hE fun a5 hE6=>?_
 refine wp_block (wp_loop_ghost (fun n_ a_ w_=>∃ (k:Nat),n_ = u.length - k ∧ k ≤ u.length ∧ F9 hW 45 [] [] [aa,ab,(6,.v (.int .i64 ((k:Nat):Int)))] a_ w_) (u.length) ⟨0,by omega,by omega,hE6.pk,hW,Fr.refl _ _ _⟩ ?_)
 rintro n7 a8 w9 ⟨k,bh,bj,aH,ai,av⟩
 let ac:Nat × SV:=(6,.v (.int .i64 ((k:Nat):Int)))
 refine B7 [aa,ab,ac,(7,.v (.bool (decide (((k:Nat):Int) < ((u.length:Nat):Int)))))] ai aH fun bA ap=>?_
 refine wp_seq (D4 ap (b:=decide (((k:Nat):Int) < ((u.length:Nat):Int))) kz (fun ar=>?_) (fun ar=>?_))
 ·
  have bk:=of_decide_eq_true ar
  refine wp_skip (A4 (wp_seq (wp_block (B7 [aa,(2,.v (.int .i64 ((k:Nat):Int))),ab,ac] ai ap fun bB aI=>?_))))
  let ae:Nat × SV:=(3,.v (.int .i64 ((k:Nat):Int)))
  refine B7 [aa,ae,ab,ac] ai aI fun bC aJ=>?_
  refine wp_block (Dr (wp_seq (Bc kz ai fun bD aw af=>?_)))
  refine C7 [0,1,2] [aa,ae,ab,ac,(12,.v (.bool (decide (((k:Nat):Int) > 0))))] 13 (A5 (A5 (A5 (B6 (B6 (A5 (A5 (B6 B8)))))))) (fun _ h=>h ▸ af.cells) rfl aJ fun bE ax=>?_
  refine (Bool.eq_false_or_eq_true (decide (((k:Nat):Int) > 0))).elim (fun aj=>?_) (fun aj=>?_)
  ·
   have bn:=of_decide_eq_true aj
   let ag:Nat × SV:=(12,.v (.bool true))
   have aK:=ax
   rw [aj] at aK
   let ah:Nat × SV:=(18,.v (.slice A u.length c))
   refine C7 [3,4,8,9,10] [aa,ae,ab,ac,ag,(13,.v (.slice A u.length c)),(14,.v (.int .i64 ((k:Nat):Int))),ah,(20,.v (.int .i64 (IntKind.i64.wrap (((k:Nat):Int) - 1))))] 8 (A5 (A5 (A5 (B6 (B6 (A5 (A5 (B6 B8)))))))) (fun _ h=>h ▸ af.cells) rfl aK fun bF aL=>?_
   obtain ⟨ba,bd,aM,bo,am⟩:=Slots.get h2 (i:=k) (by omega)
   obtain ⟨⟨au,bp⟩,ay⟩:∃ x,u[k]? = some x:=⟨_,List.getElem?_eq_getElem (by omega)⟩
   obtain ⟨⟨bG,bH,az,bq⟩,bI,bJ⟩:=h3 k au bp ay
   rw [az] at am
   refine F6 aL (i:=5) (t:=35) (A:=A) (m:=u.length) (q:=((k:Nat):Int)) (d:=15) kz (e:=69) (size:=2) (bytes:=32) kz aM rfl (by omega) kz kz (A5 (A5 (A5 (B6 (B6 (A5 (A5 (B6 B8)))))))) rfl fun bK aN=>?_
   let ak:Nat × SV:=(16,.v (.pointer (some ⟨ba,bd + k * 2,none⟩)))
   refine C7 [6] [aa,ae,ab,ac,ag,ak,ah,(20,.v (.int .i64 (IntKind.i64.wrap (((k:Nat):Int) - 1))))] 6 (A5 (A5 (A5 (B6 (B6 (A5 (A5 (B6 B8)))))))) (fun _ h=>h ▸ af.cells) rfl aN fun bL aO=>?_
   refine J4 aO (i:=7) (t:=64) (b:=ba) (o:=bd + k * 2) (d:=17) kz (cs:=[.int .u32 au]) (v:=.int .u32 au) kz (fun w' h'=>h' ▸ (At.drop (AtF.move am af.step A7 E8).at_ 0 1)) kz kz (A5 (A5 (A5 (B6 (B6 (A5 (A5 (B6 B8)))))))) rfl fun bM aP=>?_
   have aQ:IntKind.i64.wrap (((k:Nat):Int) - 1) = (((k - 1):Nat):Int):=by simp only [G3,E3,N8,IntKind.wrap_i64,IntKind.wrap_i32]; omega
   let al:Nat × SV:=(17,.v (.int .u32 au))
   have aR:=EnvOk.pick aP (ks:=[0,3,5,6,12,16,18,20,17]) (env':=[aa,ae,ab,ac,ag,ak,ah,(20,.v (.int .i64 (IntKind.i64.wrap (((k:Nat):Int) - 1)))),al]) kz
   have aS:=aR
   rw [aQ] at aS
   obtain ⟨bf,bg,aT,bt,ao⟩:=Slots.get h2 (i:=(k - 1)) (by omega)
   obtain ⟨⟨aA,bu⟩,aB⟩:∃ x,u[(k - 1)]? = some x:=⟨_,List.getElem?_eq_getElem (by omega)⟩
   obtain ⟨⟨bN,bO,aC,bw⟩,bP,bQ⟩:=h3 (k - 1) aA bu aB
   rw [aC] at ao
   refine F6 aS (i:=11) (t:=35) (A:=A) (m:=u.length) (q:=(((k - 1):Nat):Int)) (d:=21) kz (e:=69) (size:=2) (bytes:=32) kz aT rfl (by omega) kz kz (A5 (A5 (A5 (B6 (B6 (A5 (A5 (B6 B8)))))))) rfl fun bR aU=>?_
   refine C7 [12] [aa,ae,ab,ac,ag,al,(22,.v (.pointer (some ⟨bf,bg + (k - 1) * 2,none⟩)))] 3 (A5 (A5 (A5 (B6 (B6 (A5 (A5 (B6 B8)))))))) (fun _ h=>h ▸ af.cells) rfl aU fun bS aV=>?_
   refine J4 aV (i:=13) (t:=64) (b:=bf) (o:=bg + (k - 1) * 2) (d:=23) kz (cs:=[.int .u32 aA]) (v:=.int .u32 aA) kz (fun w' h'=>h' ▸ (At.drop (AtF.move ao af.step A7 E8).at_ 0 1)) kz kz (A5 (A5 (A5 (B6 (B6 (A5 (A5 (B6 B8)))))))) rfl fun bT aW=>?_
   refine C7 [14,15] [aa,ae,ab,ac,(25,.v (.bool (decide (au < aA))))] 0 (A5 (A5 (A5 (B6 (B6 (A5 (A5 (B6 B8)))))))) (fun _ h=>h ▸ af.cells) rfl aW fun bU aD=>?_
   refine E5 kz ?_ _
   refine A4 (E6 aD (b:=decide (au < aA)) kz (decide_eq_false (NC hsrt ay aB (by omega))) ?_)
   refine wp_exit (E7 (E7 (G9 (F2 (A4 (D7 [0,1] kz ?_))))))
   refine B1 [0,1] [] [aa,ab,(6,.v (.int .i64 (IntKind.i64.wrap (((k:Nat):Int) + 1))))] af aD fun bV aE=>?_
   refine B5 (A4 ?_)
   have aX:IntKind.i64.wrap (((k:Nat):Int) + 1) = ((k + 1:Nat):Int):=G8 (by omega)
   rw [aX] at aE
   exact ⟨u.length - (k + 1),by omega,k + 1,rfl,by omega,aE.pk,af,(av.trans aw)⟩
  have bx:=of_decide_eq_false aj
  have aY:=ax
  rw [aj] at aY
  refine C7 [3,4,5,6,7,8,9,10,11,12,13,14,15] [aa,ae,ab,ac,(25,.v (.bool false))] 0 (A5 (A5 (A5 (B6 (B6 (A5 (A5 (B6 B8)))))))) (fun _ h=>h ▸ af.cells) rfl aY fun bW aF=>?_
  refine E5 kz ?_ _
  refine A4 (E6 aF (b:=false) kz rfl ?_)
  refine wp_exit (E7 (E7 (G9 (F2 (A4 (D7 [0,1] kz ?_))))))
  refine B1 [0,1] [] [aa,ab,(6,.v (.int .i64 (IntKind.i64.wrap (((k:Nat):Int) + 1))))] af aF fun bX aG=>?_
  refine B5 (A4 ?_)
  have aZ:IntKind.i64.wrap (((k:Nat):Int) + 1) = ((k + 1:Nat):Int):=G8 (by omega)
  rw [aZ] at aG
  exact ⟨u.length - (k + 1),by omega,k + 1,rfl,by omega,aG.pk,af,(av.trans aw)⟩
 have bz:=of_decide_eq_false ar
 refine wp_exit (E7 (E7 (G9 (R6 ap ai.cells (v:=.tuple #[]) kz ?_))))
 exact ⟨rfl,ai.step⟩
theorem NF (s:ByteArray) (w:World) (F:Nat → Nat → Prop):Calls Tryz.prog 35 #[.pointer none] w (T0 w F (.mk 0 [] true [] [])):=by
 refine enter (n:=11) Tryz.func35 rfl Tryz.ntmps35 kz fun a hE=>?_
 have hW:=WOk.start w C1
 refine C0 [0] kz ?_
 refine B2 (H4 hW hE (d:=2) (cs:=[.int .i64 0,.slice none 0 0,.bool false,.slice none 0 0,.slice none 0 0]) kz fun b1 a2 w3 hb4 hz5 hF6 hW7 hE8=>?_)
 refine B5 (A4 ?_)
 refine wp_seq (B7 [(0,.v (.pointer none)),(2,.p 0 0),(4,.v (.bool true))] hW7 hE8 fun a9 aa=>?_)
 refine I7 aa (b:=true) kz rfl ?_
 refine C0 [0,1] kz ?_
 refine B1 [0] [1] [(2,.p 0 0),(5,.v (.agg #[.int .i64 0,.slice none 0 0,.bool true,.slice none 0 0,.slice none 0 0]))] hW7 aa fun ah ac=>?_
 refine B2 (D5 hW7 ac (oi:=0) (cs:=[.int .i64 0,.slice none 0 0,.bool true,.slice none 0 0,.slice none 0 0]) kz fun af ag ab ae=>?_)
 refine B5 (A4 ?_)
 refine wp_ret (D6 (C8 ae ab.cells (v:=.agg #[.int .i64 0,.slice none 0 0,.bool true,.slice none 0 0,.slice none 0 0]) kz ?_))
 exact ⟨_,rfl,(show TreeR _ (E9 F w af [⟨b1,0,[.int .i64 0,.slice none 0 0,.bool true,.slice none 0 0,.slice none 0 0],true⟩] []) _ (Tree.mk 0 [] true [] []) from (TreeR.mk (n:=0) (b:=true) (s:=[]) (l:=[]) (u:=[]) (fun _=>[]) (Octs.nil _ _) (Slots.nil _ _ _ _) (fun i_ x_ h_=>by simp at h_) (TagsR.nil _ _))).move (Step.refl _ C1) A7 I8,ab.step⟩
theorem NG (b o:Nat) (s:ByteArray) (w:World) (F:Nat → Nat → Prop) (hat:AtF w F b o [.string s]) (hs:s.size ≤ 1000000):Calls Tryz.prog 35 #[.pointer (some ⟨b,o,none⟩)] w (T0 w F (.mk 0 (sb s) false [] [])):=by
 refine enter (n:=11) Tryz.func35 rfl Tryz.ntmps35 kz fun a hE=>?_
 have hW:=WOk.start w C1
 refine C0 [0] kz ?_
 refine B2 (H4 hW hE (d:=2) (cs:=[.int .i64 0,.slice none 0 0,.bool false,.slice none 0 0,.slice none 0 0]) kz fun b1 a2 w3 hb4 hz5 hF6 hW7 hE8=>?_)
 refine B5 (A4 ?_)
 refine wp_seq (B7 [(0,.v (.pointer (some ⟨b,o,none⟩))),(2,.p 0 0),(4,.v (.bool false))] hW7 hE8 fun a9 aa=>?_)
 refine E6 aa (b:=false) kz rfl ?_
 refine wp_skip (A4 (C0 [0,1,2,3,4,5] kz ?_))
 refine B1 [0,1] [2,3,4,5] [(2,.p 0 0),(7,.v (.pointer (some ⟨b,o,none⟩)))] hW7 aa fun au ah=>?_
 refine B2 (K3 ah (t:=9) (b:=b) (o:=o) (d:=8) kz (cs:=[.string s]) (v:=.string s) kz (AtF.move hat hW7.step A7 E8).at_ fun av ai=>?_)
 refine B2 (Fa (d:=9) (src:=9) (dst:=22) (e:=5) (s:=s) hW7 ai (by omega) fun af ag aw ax ap ab aj ak=>?_)
 have al:=aj F
 refine B1 [4] [5] [(2,.p 0 0),(10,.v (.agg #[.int .i64 0,.slice (some ⟨af,0,none⟩) ((sb s).length) ag,.bool false,.slice none 0 0,.slice none 0 0]))] ab ak fun ay am=>?_
 refine B2 (D5 ab am (oi:=0) (cs:=[.int .i64 0,.slice (some ⟨af,0,none⟩) ((sb s).length) ag,.bool false,.slice none 0 0,.slice none 0 0]) kz fun ar ac ae ao=>?_)
 refine B5 (A4 ?_)
 refine wp_ret (C8 ao ae.cells (v:=.agg #[.int .i64 0,.slice (some ⟨af,0,none⟩) ((sb s).length) ag,.bool false,.slice none 0 0,.slice none 0 0]) kz ?_)
 exact ⟨_,rfl,(show TreeR _ (E9 F w ar [⟨b1,0,[.int .i64 0,.slice (some ⟨af,0,none⟩) ((sb s).length) ag,.bool false,.slice none 0 0,.slice none 0 0],true⟩] []) _ (Tree.mk 0 (sb s) false [] []) from (TreeR.mk (n:=0) (b:=false) (s:=(sb s)) (l:=[]) (u:=[]) (fun _=>[]) (al.move ac.step immM ac.to') (Slots.nil _ _ _ _) (fun i_ x_ h_=>by simp at h_) (TagsR.nil _ _))).move (Step.refl _ C1) A7 I8,ae.step⟩
theorem NH (A:Option Addr) (s:ByteArray) (w:World) (F:Nat → Nat → Prop) (hO:∀ ad,A = some ad → ∃ b o,ad = ⟨b,o,none⟩ ∧ AtF w F b o [.string s]) (hs:s.size ≤ 1000000):Calls Tryz.prog 35 #[.pointer A] w (T0 w F (BW A s)):=by
 cases A with
 | none=>exact NF s w F
 | some ad =>
  obtain ⟨b,o,rfl,h⟩:=hO ad rfl
  exact NG b o s w F h hs
abbrev z6 (x0) (x1) (x2) (x3):=([(0,.v (.int .u32 x0)),(1,.v (.slice x1 x2 x3)),(2,.p 0 0)]:C6)
theorem NI:CH Tryz.prog 40 69:=by
 intro w B cp c n k A Av x x0 x1 x2 x3 xs G hbx ho hG hn
 refine enter (n:=14) Tryz.func40 rfl Tryz.ntmps40 kz fun a hE=>?_
 have hW:=hbx.wok
 have hE0:=(hE.grow ⟨B,0,[x0,x1,x2,x3,.slice A n cp],true⟩).recast 2 (.v (.pointer (some ⟨B,0,none⟩))) (.p 0 0) rfl rfl (by simp [SV.ok])
 have hsm:=Slots.small ho
 have aw:=hE0.pk (env':=(z6 k Av x.length c))
 refine S8 9 kz hW fun w1 hF2 hW3 hT4=>?_
 let aa:Nat × SV:=(6,.v (.slice A n cp))
 let ac:Nat × SV:=(7,.v (.int .u32 k))
 let ae:Nat × SV:=(8,.v (.slice Av x.length c))
 refine C7 [0,1,2,3] [(2,.p 0 0),aa,ac,ae] 6 B8 (fun _ h=>h.cells) hT4 aw fun a5 hE6=>?_
 have hW7:=hW3.addNil 5 1
 have hF8:=hW3.frNil 5 1
 refine C2 (i:=4) kz (I4 hW7 hE6 (k:=1) (d:=9) (t:=22) (e:=5) (size:=1) (bytes:=1) (A:=none) (As:=Av) (m0:=0) (c:=0) (m:=x.length) (cs:=c) (xs:=[]) (news:=bc x) kz kz rfl (ho.move hW7.step (fun b o h _=>hG b o h) E8).src (ho.move hW7.step (fun b o h _=>hG b o h) E8).cap (by first | omega | (simp only [List.length_nil]; omega) | (simp; omega)) fun A9 af aO aP ah ax ay=>?_)
 have az:(⟨A9,af,5,1,0 + x.length,[] ++ bc x⟩:Rw) = B4 A9 af 5 x:=by rw [List.nil_append,Nat.zero_add]
 obtain ⟨aj,ai⟩:=ax.rowEq 1 [⟨A,cp,69,2,n,xs⟩,B4 A9 af 5 x] az
 have aA:=EnvOk.pick ay (ks:=[2,6,7,8,9]) (env':=[(2,.p 0 0),aa,ac,ae,(9,.v (.slice A9 (0 + x.length) af))]) kz
 have aB:=aA.cast (env':=[(2,.p 0 0),aa,ac,ae,(9,.v (.slice A9 x.length af))]) (by simp only [List.length_append,List.length_cons,List.length_nil,Nat.zero_add])
 have ak:=TT.ofW ((hF8.trans ah).trans ai) aj
 refine ⟨fun _=>ak,?_⟩
 let ab:Value:=.slice A9 x.length af
 refine C7 [5] [(2,.p 0 0),aa,(10,.v (.agg #[.int .u32 k,ab]))] 4 B8 (fun _ h=>h.cells) ak aB fun aQ aC=>?_
 refine C2 (i:=6) kz (L3 aj aC (e:=69) (size:=2) (len:=1) (cs:=[.int .u32 k,ab]) (d:=11) kz kz fun aJ aR aS aK aL al ag aD=>?_)
 have aE:=TT.ofW (((hF8.trans ah).trans ai).trans al) ag
 refine ⟨fun _=>aE,?_⟩
 refine C2 (i:=7) kz (I4 ag aD (k:=0) (d:=12) (t:=35) (e:=69) (size:=2) (bytes:=32) (A:=A) (As:=(some ⟨aJ,0,none⟩)) (m0:=n) (c:=cp) (m:=1) (cs:=1) (xs:=xs) (news:=[.int .u32 k,ab]) kz kz rfl (L0 (ag.own 2 _ rfl) (N4 kz)) (M1 (ag.own 2 _ rfl)) (by first | omega | (simp only [List.length_nil]; omega) | (simp; omega)) fun au av aT aU aF am aG=>?_)
 have ao:=TT.ofW ((((hF8.trans ah).trans ai).trans al).trans aF) am
 refine ⟨fun _=>ao,?_⟩
 refine C7 [8] [(12,.v (.slice au (n + 1) av)),(13,.p 0 4)] 1 B8 (fun _ h=>h.cells) ao aG fun aV aH=>?_
 refine C2 (i:=9) kz (D5 am aH (oi:=0) (cs:=[x0,x1,x2,x3,.slice au (n + 1) av]) kz fun aW aM ap aI=>?_)
 refine ⟨fun h=>absurd rfl h,?_⟩
 refine E5 kz ?_ _
 refine R6 aI ap.cells (v:=.tuple #[]) kz ?_
 obtain ⟨ar,aN⟩:=ap.cutR 2 [⟨au,av,69,2,n + 1,xs ++ [.int .u32 k,ab]⟩,B4 A9 af 5 x]
 have hoo:=Dx (s:=x) (Av:=A9) (c:=af) (e8:=5) rfl ar (by omega)
 obtain ⟨hb1,hb2,hb3⟩:=Dw ar (World.lt_of_cell (hbx.str.at_ 0 _ rfl))
 exact ⟨rfl,au,av,A9,af,hb1,hoo,hb2,hb3⟩
theorem NJ:CH Tryz.prog 77 69:=by
 intro w B cp c n k A Av x x0 x1 x2 x3 xs G hbx ho hG hn
 refine enter (n:=14) Tryz.func77 rfl Tryz.ntmps77 kz fun a hE=>?_
 have hW:=hbx.wok
 have hE0:=(hE.grow ⟨B,0,[x0,x1,x2,x3,.slice A n cp],true⟩).recast 2 (.v (.pointer (some ⟨B,0,none⟩))) (.p 0 0) rfl rfl (by simp [SV.ok])
 have hsm:=Slots.small ho
 have aw:=hE0.pk (env':=(z6 k Av x.length c))
 refine S8 9 kz hW fun w1 hF2 hW3 hT4=>?_
 let aa:Nat × SV:=(6,.v (.slice A n cp))
 let ac:Nat × SV:=(7,.v (.int .u32 k))
 let ae:Nat × SV:=(8,.v (.slice Av x.length c))
 refine C7 [0,1,2,3] [(2,.p 0 0),aa,ac,ae] 6 B8 (fun _ h=>h.cells) hT4 aw fun a5 hE6=>?_
 have hW7:=hW3.addNil 5 1
 have hF8:=hW3.frNil 5 1
 refine C2 (i:=4) kz (I4 hW7 hE6 (k:=1) (d:=9) (t:=22) (e:=5) (size:=1) (bytes:=1) (A:=none) (As:=Av) (m0:=0) (c:=0) (m:=x.length) (cs:=c) (xs:=[]) (news:=bc x) kz kz rfl (ho.move hW7.step (fun b o h _=>hG b o h) E8).src (ho.move hW7.step (fun b o h _=>hG b o h) E8).cap (by first | omega | (simp only [List.length_nil]; omega) | (simp; omega)) fun A9 af aO aP ah ax ay=>?_)
 have az:(⟨A9,af,5,1,0 + x.length,[] ++ bc x⟩:Rw) = B4 A9 af 5 x:=by rw [List.nil_append,Nat.zero_add]
 obtain ⟨aj,ai⟩:=ax.rowEq 1 [⟨A,cp,69,2,n,xs⟩,B4 A9 af 5 x] az
 have aA:=EnvOk.pick ay (ks:=[2,6,7,8,9]) (env':=[(2,.p 0 0),aa,ac,ae,(9,.v (.slice A9 (0 + x.length) af))]) kz
 have aB:=aA.cast (env':=[(2,.p 0 0),aa,ac,ae,(9,.v (.slice A9 x.length af))]) (by simp only [List.length_append,List.length_cons,List.length_nil,Nat.zero_add])
 have ak:=TT.ofW ((hF8.trans ah).trans ai) aj
 refine ⟨fun _=>ak,?_⟩
 let ab:Value:=.slice A9 x.length af
 refine C7 [5] [(2,.p 0 0),aa,(10,.v (.agg #[.int .u32 k,ab]))] 4 B8 (fun _ h=>h.cells) ak aB fun aQ aC=>?_
 refine C2 (i:=6) kz (L3 aj aC (e:=69) (size:=2) (len:=1) (cs:=[.int .u32 k,ab]) (d:=11) kz kz fun aJ aR aS aK aL al ag aD=>?_)
 have aE:=TT.ofW (((hF8.trans ah).trans ai).trans al) ag
 refine ⟨fun _=>aE,?_⟩
 refine C2 (i:=7) kz (I4 ag aD (k:=0) (d:=12) (t:=35) (e:=69) (size:=2) (bytes:=32) (A:=A) (As:=(some ⟨aJ,0,none⟩)) (m0:=n) (c:=cp) (m:=1) (cs:=1) (xs:=xs) (news:=[.int .u32 k,ab]) kz kz rfl (L0 (ag.own 2 _ rfl) (N4 kz)) (M1 (ag.own 2 _ rfl)) (by first | omega | (simp only [List.length_nil]; omega) | (simp; omega)) fun au av aT aU aF am aG=>?_)
 have ao:=TT.ofW ((((hF8.trans ah).trans ai).trans al).trans aF) am
 refine ⟨fun _=>ao,?_⟩
 refine C7 [8] [(12,.v (.slice au (n + 1) av)),(13,.p 0 4)] 1 B8 (fun _ h=>h.cells) ao aG fun aV aH=>?_
 refine C2 (i:=9) kz (D5 am aH (oi:=0) (cs:=[x0,x1,x2,x3,.slice au (n + 1) av]) kz fun aW aM ap aI=>?_)
 refine ⟨fun h=>absurd rfl h,?_⟩
 refine E5 kz ?_ _
 refine R6 aI ap.cells (v:=.tuple #[]) kz ?_
 obtain ⟨ar,aN⟩:=ap.cutR 2 [⟨au,av,69,2,n + 1,xs ++ [.int .u32 k,ab]⟩,B4 A9 af 5 x]
 have hoo:=Dx (s:=x) (Av:=A9) (c:=af) (e8:=5) rfl ar (by omega)
 obtain ⟨hb1,hb2,hb3⟩:=Dw ar (World.lt_of_cell (hbx.str.at_ 0 _ rfl))
 exact ⟨rfl,au,av,A9,af,hb1,hoo,hb2,hb3⟩
theorem NK:CH Tryz.prog 74 69:=by
 intro w B cp c n k A Av x x0 x1 x2 x3 xs G hbx ho hG hn
 refine enter (n:=14) Tryz.func74 rfl Tryz.ntmps74 kz fun a hE=>?_
 have hW:=hbx.wok
 have hE0:=(hE.grow ⟨B,0,[x0,x1,x2,x3,.slice A n cp],true⟩).recast 2 (.v (.pointer (some ⟨B,0,none⟩))) (.p 0 0) rfl rfl (by simp [SV.ok])
 have hsm:=Slots.small ho
 have aw:=hE0.pk (env':=(z6 k Av x.length c))
 refine S8 9 kz hW fun w1 hF2 hW3 hT4=>?_
 let aa:Nat × SV:=(6,.v (.slice A n cp))
 let ac:Nat × SV:=(7,.v (.int .u32 k))
 let ae:Nat × SV:=(8,.v (.slice Av x.length c))
 refine C7 [0,1,2,3] [(2,.p 0 0),aa,ac,ae] 6 B8 (fun _ h=>h.cells) hT4 aw fun a5 hE6=>?_
 have hW7:=hW3.addNil 5 1
 have hF8:=hW3.frNil 5 1
 refine C2 (i:=4) kz (I4 hW7 hE6 (k:=1) (d:=9) (t:=22) (e:=5) (size:=1) (bytes:=1) (A:=none) (As:=Av) (m0:=0) (c:=0) (m:=x.length) (cs:=c) (xs:=[]) (news:=bc x) kz kz rfl (ho.move hW7.step (fun b o h _=>hG b o h) E8).src (ho.move hW7.step (fun b o h _=>hG b o h) E8).cap (by first | omega | (simp only [List.length_nil]; omega) | (simp; omega)) fun A9 af aO aP ah ax ay=>?_)
 have az:(⟨A9,af,5,1,0 + x.length,[] ++ bc x⟩:Rw) = B4 A9 af 5 x:=by rw [List.nil_append,Nat.zero_add]
 obtain ⟨aj,ai⟩:=ax.rowEq 1 [⟨A,cp,69,2,n,xs⟩,B4 A9 af 5 x] az
 have aA:=EnvOk.pick ay (ks:=[2,6,7,8,9]) (env':=[(2,.p 0 0),aa,ac,ae,(9,.v (.slice A9 (0 + x.length) af))]) kz
 have aB:=aA.cast (env':=[(2,.p 0 0),aa,ac,ae,(9,.v (.slice A9 x.length af))]) (by simp only [List.length_append,List.length_cons,List.length_nil,Nat.zero_add])
 have ak:=TT.ofW ((hF8.trans ah).trans ai) aj
 refine ⟨fun _=>ak,?_⟩
 let ab:Value:=.slice A9 x.length af
 refine C7 [5] [(2,.p 0 0),aa,(10,.v (.agg #[.int .u32 k,ab]))] 4 B8 (fun _ h=>h.cells) ak aB fun aQ aC=>?_
 refine C2 (i:=6) kz (L3 aj aC (e:=69) (size:=2) (len:=1) (cs:=[.int .u32 k,ab]) (d:=11) kz kz fun aJ aR aS aK aL al ag aD=>?_)
 have aE:=TT.ofW (((hF8.trans ah).trans ai).trans al) ag
 refine ⟨fun _=>aE,?_⟩
 refine C2 (i:=7) kz (I4 ag aD (k:=0) (d:=12) (t:=35) (e:=69) (size:=2) (bytes:=32) (A:=A) (As:=(some ⟨aJ,0,none⟩)) (m0:=n) (c:=cp) (m:=1) (cs:=1) (xs:=xs) (news:=[.int .u32 k,ab]) kz kz rfl (L0 (ag.own 2 _ rfl) (N4 kz)) (M1 (ag.own 2 _ rfl)) (by first | omega | (simp only [List.length_nil]; omega) | (simp; omega)) fun au av aT aU aF am aG=>?_)
 have ao:=TT.ofW ((((hF8.trans ah).trans ai).trans al).trans aF) am
 refine ⟨fun _=>ao,?_⟩
 refine C7 [8] [(12,.v (.slice au (n + 1) av)),(13,.p 0 4)] 1 B8 (fun _ h=>h.cells) ao aG fun aV aH=>?_
 refine C2 (i:=9) kz (D5 am aH (oi:=0) (cs:=[x0,x1,x2,x3,.slice au (n + 1) av]) kz fun aW aM ap aI=>?_)
 refine ⟨fun h=>absurd rfl h,?_⟩
 refine E5 kz ?_ _
 refine R6 aI ap.cells (v:=.tuple #[]) kz ?_
 obtain ⟨ar,aN⟩:=ap.cutR 2 [⟨au,av,69,2,n + 1,xs ++ [.int .u32 k,ab]⟩,B4 A9 af 5 x]
 have hoo:=Dx (s:=x) (Av:=A9) (c:=af) (e8:=5) rfl ar (by omega)
 obtain ⟨hb1,hb2,hb3⟩:=Dw ar (World.lt_of_cell (hbx.str.at_ 0 _ rfl))
 exact ⟨rfl,au,av,A9,af,hb1,hoo,hb2,hb3⟩
theorem NL:CH Tryz.prog 76 69:=by
 intro w B cp c n k A Av x x0 x1 x2 x3 xs G hbx ho hG hn
 refine enter (n:=14) Tryz.func76 rfl Tryz.ntmps76 kz fun a hE=>?_
 have hW:=hbx.wok
 have hE0:=(hE.grow ⟨B,0,[x0,x1,x2,x3,.slice A n cp],true⟩).recast 2 (.v (.pointer (some ⟨B,0,none⟩))) (.p 0 0) rfl rfl (by simp [SV.ok])
 have hsm:=Slots.small ho
 have aw:=hE0.pk (env':=(z6 k Av x.length c))
 refine S8 9 kz hW fun w1 hF2 hW3 hT4=>?_
 let aa:Nat × SV:=(6,.v (.slice A n cp))
 let ac:Nat × SV:=(7,.v (.int .u32 k))
 let ae:Nat × SV:=(8,.v (.slice Av x.length c))
 refine C7 [0,1,2,3] [(2,.p 0 0),aa,ac,ae] 6 B8 (fun _ h=>h.cells) hT4 aw fun a5 hE6=>?_
 have hW7:=hW3.addNil 5 1
 have hF8:=hW3.frNil 5 1
 refine C2 (i:=4) kz (I4 hW7 hE6 (k:=1) (d:=9) (t:=22) (e:=5) (size:=1) (bytes:=1) (A:=none) (As:=Av) (m0:=0) (c:=0) (m:=x.length) (cs:=c) (xs:=[]) (news:=bc x) kz kz rfl (ho.move hW7.step (fun b o h _=>hG b o h) E8).src (ho.move hW7.step (fun b o h _=>hG b o h) E8).cap (by first | omega | (simp only [List.length_nil]; omega) | (simp; omega)) fun A9 af aO aP ah ax ay=>?_)
 have az:(⟨A9,af,5,1,0 + x.length,[] ++ bc x⟩:Rw) = B4 A9 af 5 x:=by rw [List.nil_append,Nat.zero_add]
 obtain ⟨aj,ai⟩:=ax.rowEq 1 [⟨A,cp,69,2,n,xs⟩,B4 A9 af 5 x] az
 have aA:=EnvOk.pick ay (ks:=[2,6,7,8,9]) (env':=[(2,.p 0 0),aa,ac,ae,(9,.v (.slice A9 (0 + x.length) af))]) kz
 have aB:=aA.cast (env':=[(2,.p 0 0),aa,ac,ae,(9,.v (.slice A9 x.length af))]) (by simp only [List.length_append,List.length_cons,List.length_nil,Nat.zero_add])
 have ak:=TT.ofW ((hF8.trans ah).trans ai) aj
 refine ⟨fun _=>ak,?_⟩
 let ab:Value:=.slice A9 x.length af
 refine C7 [5] [(2,.p 0 0),aa,(10,.v (.agg #[.int .u32 k,ab]))] 4 B8 (fun _ h=>h.cells) ak aB fun aQ aC=>?_
 refine C2 (i:=6) kz (L3 aj aC (e:=69) (size:=2) (len:=1) (cs:=[.int .u32 k,ab]) (d:=11) kz kz fun aJ aR aS aK aL al ag aD=>?_)
 have aE:=TT.ofW (((hF8.trans ah).trans ai).trans al) ag
 refine ⟨fun _=>aE,?_⟩
 refine C2 (i:=7) kz (I4 ag aD (k:=0) (d:=12) (t:=35) (e:=69) (size:=2) (bytes:=32) (A:=A) (As:=(some ⟨aJ,0,none⟩)) (m0:=n) (c:=cp) (m:=1) (cs:=1) (xs:=xs) (news:=[.int .u32 k,ab]) kz kz rfl (L0 (ag.own 2 _ rfl) (N4 kz)) (M1 (ag.own 2 _ rfl)) (by first | omega | (simp only [List.length_nil]; omega) | (simp; omega)) fun au av aT aU aF am aG=>?_)
 have ao:=TT.ofW ((((hF8.trans ah).trans ai).trans al).trans aF) am
 refine ⟨fun _=>ao,?_⟩
 refine C7 [8] [(12,.v (.slice au (n + 1) av)),(13,.p 0 4)] 1 B8 (fun _ h=>h.cells) ao aG fun aV aH=>?_
 refine C2 (i:=9) kz (D5 am aH (oi:=0) (cs:=[x0,x1,x2,x3,.slice au (n + 1) av]) kz fun aW aM ap aI=>?_)
 refine ⟨fun h=>absurd rfl h,?_⟩
 refine E5 kz ?_ _
 refine R6 aI ap.cells (v:=.tuple #[]) kz ?_
 obtain ⟨ar,aN⟩:=ap.cutR 2 [⟨au,av,69,2,n + 1,xs ++ [.int .u32 k,ab]⟩,B4 A9 af 5 x]
 have hoo:=Dx (s:=x) (Av:=A9) (c:=af) (e8:=5) rfl ar (by omega)
 obtain ⟨hb1,hb2,hb3⟩:=Dw ar (World.lt_of_cell (hbx.str.at_ 0 _ rfl))
 exact ⟨rfl,au,av,A9,af,hb1,hoo,hb2,hb3⟩
theorem NM:CH Tryz.prog 87 69:=by
 intro w B cp c n k A Av x x0 x1 x2 x3 xs G hbx ho hG hn
 refine enter (n:=14) Tryz.func87 rfl Tryz.ntmps87 kz fun a hE=>?_
 have hW:=hbx.wok
 have hE0:=(hE.grow ⟨B,0,[x0,x1,x2,x3,.slice A n cp],true⟩).recast 2 (.v (.pointer (some ⟨B,0,none⟩))) (.p 0 0) rfl rfl (by simp [SV.ok])
 have hsm:=Slots.small ho
 have aw:=hE0.pk (env':=(z6 k Av x.length c))
 refine S8 9 kz hW fun w1 hF2 hW3 hT4=>?_
 let aa:Nat × SV:=(6,.v (.slice A n cp))
 let ac:Nat × SV:=(7,.v (.int .u32 k))
 let ae:Nat × SV:=(8,.v (.slice Av x.length c))
 refine C7 [0,1,2,3] [(2,.p 0 0),aa,ac,ae] 6 B8 (fun _ h=>h.cells) hT4 aw fun a5 hE6=>?_
 have hW7:=hW3.addNil 5 1
 have hF8:=hW3.frNil 5 1
 refine C2 (i:=4) kz (I4 hW7 hE6 (k:=1) (d:=9) (t:=22) (e:=5) (size:=1) (bytes:=1) (A:=none) (As:=Av) (m0:=0) (c:=0) (m:=x.length) (cs:=c) (xs:=[]) (news:=bc x) kz kz rfl (ho.move hW7.step (fun b o h _=>hG b o h) E8).src (ho.move hW7.step (fun b o h _=>hG b o h) E8).cap (by first | omega | (simp only [List.length_nil]; omega) | (simp; omega)) fun A9 af aO aP ah ax ay=>?_)
 have az:(⟨A9,af,5,1,0 + x.length,[] ++ bc x⟩:Rw) = B4 A9 af 5 x:=by rw [List.nil_append,Nat.zero_add]
 obtain ⟨aj,ai⟩:=ax.rowEq 1 [⟨A,cp,69,2,n,xs⟩,B4 A9 af 5 x] az
 have aA:=EnvOk.pick ay (ks:=[2,6,7,8,9]) (env':=[(2,.p 0 0),aa,ac,ae,(9,.v (.slice A9 (0 + x.length) af))]) kz
 have aB:=aA.cast (env':=[(2,.p 0 0),aa,ac,ae,(9,.v (.slice A9 x.length af))]) (by simp only [List.length_append,List.length_cons,List.length_nil,Nat.zero_add])
 have ak:=TT.ofW ((hF8.trans ah).trans ai) aj
 refine ⟨fun _=>ak,?_⟩
 let ab:Value:=.slice A9 x.length af
 refine C7 [5] [(2,.p 0 0),aa,(10,.v (.agg #[.int .u32 k,ab]))] 4 B8 (fun _ h=>h.cells) ak aB fun aQ aC=>?_
 refine C2 (i:=6) kz (L3 aj aC (e:=69) (size:=2) (len:=1) (cs:=[.int .u32 k,ab]) (d:=11) kz kz fun aJ aR aS aK aL al ag aD=>?_)
 have aE:=TT.ofW (((hF8.trans ah).trans ai).trans al) ag
 refine ⟨fun _=>aE,?_⟩
 refine C2 (i:=7) kz (I4 ag aD (k:=0) (d:=12) (t:=35) (e:=69) (size:=2) (bytes:=32) (A:=A) (As:=(some ⟨aJ,0,none⟩)) (m0:=n) (c:=cp) (m:=1) (cs:=1) (xs:=xs) (news:=[.int .u32 k,ab]) kz kz rfl (L0 (ag.own 2 _ rfl) (N4 kz)) (M1 (ag.own 2 _ rfl)) (by first | omega | (simp only [List.length_nil]; omega) | (simp; omega)) fun au av aT aU aF am aG=>?_)
 have ao:=TT.ofW ((((hF8.trans ah).trans ai).trans al).trans aF) am
 refine ⟨fun _=>ao,?_⟩
 refine C7 [8] [(12,.v (.slice au (n + 1) av)),(13,.p 0 4)] 1 B8 (fun _ h=>h.cells) ao aG fun aV aH=>?_
 refine C2 (i:=9) kz (D5 am aH (oi:=0) (cs:=[x0,x1,x2,x3,.slice au (n + 1) av]) kz fun aW aM ap aI=>?_)
 refine ⟨fun h=>absurd rfl h,?_⟩
 refine E5 kz ?_ _
 refine R6 aI ap.cells (v:=.tuple #[]) kz ?_
 obtain ⟨ar,aN⟩:=ap.cutR 2 [⟨au,av,69,2,n + 1,xs ++ [.int .u32 k,ab]⟩,B4 A9 af 5 x]
 have hoo:=Dx (s:=x) (Av:=A9) (c:=af) (e8:=5) rfl ar (by omega)
 obtain ⟨hb1,hb2,hb3⟩:=Dw ar (World.lt_of_cell (hbx.str.at_ 0 _ rfl))
 exact ⟨rfl,au,av,A9,af,hb1,hoo,hb2,hb3⟩
theorem NN (x:Int):IntKind.i8.wrap x = (x + 128) % 256 - 128:=by simp [IntKind.wrap,IntKind.signed,IntKind.bits]; omega
theorem GT (x:Int):IntKind.i16.wrap x = (x + 32768) % 65536 - 32768:=by simp [IntKind.wrap,IntKind.signed,IntKind.bits]; omega
theorem GU (x:Int):IntKind.i32.wrap x = (x + 2147483648) % 4294967296 - 2147483648:=by simp [IntKind.wrap,IntKind.signed,IntKind.bits]; omega
theorem V8 (x:Int):IntKind.i64.wrap x = (x + 9223372036854775808) % 18446744073709551616 - 9223372036854775808:=by simp [IntKind.wrap,IntKind.signed,IntKind.bits]; omega
theorem BY (x:Int):IntKind.i64.wrap (IntKind.i8.wrap x) = IntKind.i8.wrap x:=by rw [V8,NN]; omega
theorem CJ (x:Int):IntKind.i64.wrap (IntKind.i16.wrap x) = IntKind.i16.wrap x:=by rw [V8,GT]; omega
theorem P1 (x:Int):IntKind.i64.wrap (IntKind.i32.wrap x) = IntKind.i32.wrap x:=by rw [V8,GU]; omega
theorem CK (x:Int):IntKind.i64.wrap (IntKind.u16.wrap x) = IntKind.u16.wrap x:=by rw [V8,N8]; omega
def L8 (k n:Int):Int:=if k = 0 then n % 2 else if k = 1 then IntKind.i8.wrap n else if k = 2 then IntKind.i16.wrap n else if k = 3 then IntKind.i32.wrap n else if k = 5 then IntKind.u16.wrap n else n
structure UsQ (U:List Fld → Tree → Prop) (k x1 x2 x3 x4 x5 x6:Int) (sub:List Fld) (n:Int) (s:Bs) (b:Bool) (l:List Tree) (u:List (Int × Bs)):Prop where
 text:k = 8 → b = decide (x3 ≥ 0) ∧ s = []
 uuid:k = 7 → s = List.replicate 16 0
 octs:k = 9 ∨ k = 11 → s = [] ∧ l = []
 part:k = 10 → (x3 ≥ 0 → b = true) ∧ (x3 < 0 → U sub (.mk n s b l u))
 num:k ≠ 7 → k ≠ 8 → k ≠ 9 → k ≠ 10 → k ≠ 11 → n = L8 k x5
def X6 (U:List Fld → Tree → Prop):Fld → Tree → Prop
 | .mk k x1 x2 x3 x4 x5 x6 sub,.mk n s b l u=>UsQ U k x1 x2 x3 x4 x5 x6 sub n s b l u
def Fd (U:List Fld → Tree → Prop) (l:List Fld) (g:Tree):Prop:=g.U = [] ∧ ∀ (i:Nat) (f:Fld),l[i]? = some f → X6 U f (g.at_ i)
def GV:Nat → List Fld → Tree → Prop
 | 0=>Fd fun _ _=>False
 | d + 1=>Fd (GV d)
structure ToQ (T:List Fld → Tree → Tree → Prop) (v:Int) (f:Fld) (k x3:Int) (sub:List Fld) (t:Tree) (tn:Int) (ts:Bs) (n:Int) (s:Bs) (b:Bool) (g:Tree):Prop where
 null:k = 8 ∨ k = 10 ∨ (x3 ≥ 0 ∧ v ≥ x3) → b = f.nul v t
 text:f.nul v t = false → k = 8 ∨ k = 9 → s = C5 ts
 uuid:f.nul v t = false → k = 7 → s = G1 ts
 part:f.nul v t = false → k = 10 → T sub t g
 num:f.nul v t = false → k ≠ 7 → k ≠ 8 → k ≠ 9 → k ≠ 10 → k ≠ 11 → n = L8 k tn
def O4 (T:List Fld → Tree → Tree → Prop) (v:Int):Fld → Tree → Tree → Prop
 | .mk k x1 x2 x3 x4 x5 x6 sub,.mk tn ts tb tl tu,.mk n s b l u=>ToQ T v (.mk k x1 x2 x3 x4 x5 x6 sub) k x3 sub (.mk tn ts tb tl tu) tn ts n s b (.mk n s b l u)
def Bn (T:List Fld → Tree → Tree → Prop) (v:Int) (f:Fld) (t g:Tree):Prop :=
 O4 T v f t g ∧ (f.kind = 11 → f.nul v t = false → g.L.length = (B9 t.L).length ∧ ∀ (i:Nat) (x y:Tree),(B9 t.L)[i]? = some x → g.L[i]? = some y → O4 T v f.elem x y)
def Fld.pres (f:Fld) (v:Int) (flex:Bool) (x:Tree):Bool:=(decide (f.tag < 0) && f.has v) || (decide (f.tag ≥ 0) && (flex && !f.usual x))
def GW (T:List Fld → Tree → Tree → Prop) (U:List Fld → Tree → Prop) (l:List Fld) (v:Int) (flex:Bool) (t g:Tree):Prop :=
 g.L.length = l.length ∧ (∀ (i:Nat) (f:Fld) (y:Tree),l[i]? = some f → g.L[i]? = some y → (f.pres v flex (t.at_ i) = true → Bn T v f (t.at_ i) y) ∧ (f.pres v flex (t.at_ i) = false → X6 U f y)) ∧
  g.U = (if flex = true then N5 (C4 l t.U) else [])
def Bo (v:Int) (flex:Bool):Nat → List Fld → Tree → Tree → Prop
 | 0=>fun l t g=>GW (fun _ _ _=>False) (fun _ _=>False) l v flex t g
 | d + 1=>fun l t g=>GW (Bo v flex d) (GV d) l v flex t g
theorem JT {U:List Fld → Tree → Prop} {f:Fld} {y:Tree} (h:X6 U f y):Fd U [f] (.mk 0 [] false [y] []):=by
 refine ⟨rfl,fun i g hg=>?_⟩
 cases i with
 | zero =>
  simp only [List.getElem?_cons_zero,Option.some.injEq] at hg
  subst hg
  exact h
 | succ i=>simp at hg
theorem NO {w:World} {e:Nat} {A:Option Addr} {c:Nat} {F:Nat → Nat → Prop} (h:w.ownsRow 0 e 1 (.slice A 16 c) 16 (List.replicate 16 (.int .u8 0))) (hF:∀ g,A.map (·.block) = some g → ∀ o,F g o):Octs w F A c (List.replicate 16 0) :=
 R7 (s:=List.replicate 16 0) h (by decide) hF
section
variable {U:List Fld → Tree → Prop} {k x1 x2 x3 x4 x5 x6 n:Int} {sub:List Fld} {s:Bs} {b:Bool} {l:List Tree} {u:List (Int × Bs)}
abbrev V9 (U:List Fld → Tree → Prop) (k x1 x2 x3 x4 x5 x6:Int) (sub:List Fld) (n:Int) (s:Bs) (b:Bool) (l:List Tree) (u:List (Int × Bs)):Prop:=X6 U (.mk k x1 x2 x3 x4 x5 x6 sub) (.mk n s b l u)
theorem N7 (h:V9 U k x1 x2 x3 x4 x5 x6 sub n s b l u):UsQ U k x1 x2 x3 x4 x5 x6 sub n s b l u:=h
theorem Z1 (h:V9 U k x1 x2 x3 x4 x5 x6 sub n s b l u) (hk:k = 8) (hc:(b != decide (x3 ≥ 0)) = true):False:=by
 have:=((N7 h).text hk).1
 rw [this] at hc; simp at hc
theorem Z2 (h:V9 U k x1 x2 x3 x4 x5 x6 sub n s b l u) (hk:k = 8) (hc:((s.length:Nat):Int) > 0):False:=by
 have:=((N7 h).text hk).2
 rw [this] at hc; simp at hc
theorem O5 (h:V9 U k x1 x2 x3 x4 x5 x6 sub n s b l u) (hk:k = 7) (hc:(!decide (s = (List.replicate 16 0:Bs))) = true):False:=by
 have:=(N7 h).uuid hk
 rw [this] at hc; simp at hc
theorem Z3 (h:V9 U k x1 x2 x3 x4 x5 x6 sub n s b l u) (hk:k = 9) (hc:((s.length:Nat):Int) > 0):False:=by
 have:=((N7 h).octs (.inl hk)).1
 rw [this] at hc; simp at hc
theorem Z4 (h:V9 U k x1 x2 x3 x4 x5 x6 sub n s b l u) (hk:k = 9) (hc:((l.length:Nat):Int) > 0):False:=by
 have:=((N7 h).octs (.inl hk)).2
 rw [this] at hc; simp at hc
theorem Z5 (h:V9 U k x1 x2 x3 x4 x5 x6 sub n s b l u) (hk:k = 11) (hc:((s.length:Nat):Int) > 0):False:=by
 have:=((N7 h).octs (.inr hk)).1
 rw [this] at hc; simp at hc
theorem Z6 (h:V9 U k x1 x2 x3 x4 x5 x6 sub n s b l u) (hk:k = 11) (hc:((l.length:Nat):Int) > 0):False:=by
 have:=((N7 h).octs (.inr hk)).2
 rw [this] at hc; simp at hc
theorem Z7 (h:V9 U k x1 x2 x3 x4 x5 x6 sub n s b l u) (hk:k = 10) (h3:x3 ≥ 0) (hc:(!b) = true):False:=by
 have:=((N7 h).part hk).1 h3
 rw [this] at hc; simp at hc
theorem JU (h:V9 U k x1 x2 x3 x4 x5 x6 sub n s b l u) (hk:k = 10) (h3:x3 < 0):U sub (.mk n s b l u):=((N7 h).part hk).2 h3
theorem O6 (h:V9 U k x1 x2 x3 x4 x5 x6 sub n s b l u) (h7:k ≠ 7) (h8:k ≠ 8) (h9:k ≠ 9) (h10:k ≠ 10) (h11:k ≠ 11) (hc:n ≠ L8 k x5):False:=hc ((N7 h).num h7 h8 h9 h10 h11)
theorem GX {g:Tree} (h:g.U = []) {u:List (Int × Bs)} (e:g.U = u) (hc:((u.length:Nat):Int) > 0):False:=by
 rw [← e,h] at hc; simp at hc
end
section
variable {T:List Fld → Tree → Tree → Prop} {v k x1 x2 x3 x4 x5 x6 tn n:Int} {sub:List Fld} {ts s:Bs} {tb b:Bool} {tl l:List Tree} {tu u:List (Int × Bs)}
abbrev Z8 (T:List Fld → Tree → Tree → Prop) (v k x1 x2 x3 x4 x5 x6:Int) (sub:List Fld) (tn:Int) (ts:Bs) (tb:Bool) (tl:List Tree) (tu:List (Int × Bs)) (n:Int) (s:Bs) (b:Bool) (l:List Tree) (u:List (Int × Bs)):Prop:=O4 T v (.mk k x1 x2 x3 x4 x5 x6 sub) (.mk tn ts tb tl tu) (.mk n s b l u)
abbrev P4 (v k x1 x2 x3 x4 x5 x6:Int) (sub:List Fld) (tn:Int) (ts:Bs) (tb:Bool) (tl:List Tree) (tu:List (Int × Bs)):Bool:=Fld.nul (.mk k x1 x2 x3 x4 x5 x6 sub) v (.mk tn ts tb tl tu)
theorem P5 (h:Z8 T v k x1 x2 x3 x4 x5 x6 sub tn ts tb tl tu n s b l u):ToQ T v (.mk k x1 x2 x3 x4 x5 x6 sub) k x3 sub (.mk tn ts tb tl tu) tn ts n s b (.mk n s b l u):=h
theorem DC (h:Z8 T v k x1 x2 x3 x4 x5 x6 sub tn ts tb tl tu n s b l u) (hk:k = 8) (hc:(b != P4 v k x1 x2 x3 x4 x5 x6 sub tn ts tb tl tu) = true):False:=by
 rw [(P5 h).null (.inl hk)] at hc; simp at hc
theorem DD (h:Z8 T v k x1 x2 x3 x4 x5 x6 sub tn ts tb tl tu n s b l u) (hk:k = 10) (hc:(b != P4 v k x1 x2 x3 x4 x5 x6 sub tn ts tb tl tu) = true):False:=by
 rw [(P5 h).null (.inr (.inl hk))] at hc; simp at hc
theorem Z9 (h:Z8 T v k x1 x2 x3 x4 x5 x6 sub tn ts tb tl tu n s b l u) (h1:x3 ≥ 0) (h2:v ≥ x3) (hc:(b != P4 v k x1 x2 x3 x4 x5 x6 sub tn ts tb tl tu) = true):False:=by
 rw [(P5 h).null (.inr (.inr ⟨h1,h2⟩))] at hc; simp at hc
theorem JV (h:Z8 T v k x1 x2 x3 x4 x5 x6 sub tn ts tb tl tu n s b l u) (hn:P4 v k x1 x2 x3 x4 x5 x6 sub tn ts tb tl tu = false) (hk:k = 10):T sub (.mk tn ts tb tl tu) (.mk n s b l u):=(P5 h).part hn hk
theorem R4 (h:Z8 T v k x1 x2 x3 x4 x5 x6 sub tn ts tb tl tu n s b l u) (hn:P4 v k x1 x2 x3 x4 x5 x6 sub tn ts tb tl tu = false) (hk:k = 8):decide (s = C5 ts) = true:=decide_eq_true ((P5 h).text hn (.inl hk))
theorem R5 (h:Z8 T v k x1 x2 x3 x4 x5 x6 sub tn ts tb tl tu n s b l u) (hn:P4 v k x1 x2 x3 x4 x5 x6 sub tn ts tb tl tu = false) (hk:k = 9):decide (s = C5 ts) = true:=decide_eq_true ((P5 h).text hn (.inr hk))
theorem K6 (h:Z8 T v k x1 x2 x3 x4 x5 x6 sub tn ts tb tl tu n s b l u) (hn:P4 v k x1 x2 x3 x4 x5 x6 sub tn ts tb tl tu = false) (hk:k = 7):decide (s = G1 ts) = true:=decide_eq_true ((P5 h).uuid hn hk)
theorem K7 (h:Z8 T v k x1 x2 x3 x4 x5 x6 sub tn ts tb tl tu n s b l u) (hn:P4 v k x1 x2 x3 x4 x5 x6 sub tn ts tb tl tu = false) (h8:k ≠ 8) (h9:k ≠ 9) (h7:k ≠ 7) (h10:k ≠ 10) (h11:k ≠ 11):(n == L8 k tn) = true:=by
 rw [(P5 h).num hn h7 h8 h9 h10 h11]; simp
theorem Fe {a c:Nat} (h:a = c) (hc:((a:Nat):Int) ≠ ((c:Nat):Int)):False:=hc (by rw [h])
end
theorem Bp {P:Program} {ops:Array Oper} {Q:Exit → Act → World → Prop} {a:Act} {w:World} {T:World → Prop} {c i j fuel:Nat} {listed:Array Bool} (hr:Region.ready .any ops listed = [i,j]) (h:wpOp P ops Q i (fun a' w'=>(i ≠ c → T w') ∧ M0 P ops Q T c fuel (listed.setIfInBounds i true) a' w') a w)
  (h':wpOp P ops Q j (fun a' w'=>(j ≠ c → T w') ∧ M0 P ops Q T c fuel (listed.setIfInBounds j true) a' w') a w):M0 P ops Q T c (fuel + 1) listed a w:=by
 refine ⟨fun h0=>(by rw [hr] at h0; cases h0),fun q hq=>?_⟩
 rw [hr] at hq
 simp only [List.mem_cons,List.not_mem_nil,or_false] at hq
 rcases hq with rfl | rfl
 ·exact h
 exact h'
theorem NP {k x1 x2 x3 x4 x5 x6 v:Int} {sub:List Fld} {flex:Bool} {x:Tree} (h:x4 < 0) (h2:Fld.has (.mk k x1 x2 x3 x4 x5 x6 sub) v = true):Fld.pres (.mk k x1 x2 x3 x4 x5 x6 sub) v flex x = true:=by
 simp [Fld.pres,Fld.tag,h,h2]
theorem NQ {k x1 x2 x3 x4 x5 x6 v:Int} {sub:List Fld} {flex:Bool} {x:Tree} (h:x4 ≥ 0) (h2:flex = true) (h3:(!Fld.usual (.mk k x1 x2 x3 x4 x5 x6 sub) x) = true):Fld.pres (.mk k x1 x2 x3 x4 x5 x6 sub) v flex x = true:=by
 subst h2
 simp only [Bool.not_eq_true'] at h3
 simp [Fld.pres,Fld.tag,h,h3]
theorem Ff {k x1 x2 x3 x4 x5 x6 v:Int} {sub:List Fld} {flex:Bool} {x:Tree} (h:x4 < 0) (h2:Fld.has (.mk k x1 x2 x3 x4 x5 x6 sub) v = false):Fld.pres (.mk k x1 x2 x3 x4 x5 x6 sub) v flex x = false:=by
 have:¬ x4 ≥ 0:=by omega
 simp [Fld.pres,Fld.tag,h2,this]
theorem Fg {k x1 x2 x3 x4 x5 x6 v:Int} {sub:List Fld} {flex:Bool} {x:Tree} (h:¬ x4 < 0) (h2:flex = false):Fld.pres (.mk k x1 x2 x3 x4 x5 x6 sub) v flex x = false:=by
 subst h2
 simp [Fld.pres,Fld.tag,h]
theorem Fh {k x1 x2 x3 x4 x5 x6 v:Int} {sub:List Fld} {flex:Bool} {x:Tree} (h:¬ x4 < 0) (h3:(!Fld.usual (.mk k x1 x2 x3 x4 x5 x6 sub) x) = false):Fld.pres (.mk k x1 x2 x3 x4 x5 x6 sub) v flex x = false:=by
 simp only [Bool.not_eq_false'] at h3
 simp [Fld.pres,Fld.tag,h,h3]
theorem JW {k x1 x2 x3 x4 x5 x6 v:Int} {sub:List Fld} {flex:Bool} {x:Tree} (h:¬ x4 < 0) (h2:flex = true):Fld.pres (.mk k x1 x2 x3 x4 x5 x6 sub) v flex x = !Fld.usual (.mk k x1 x2 x3 x4 x5 x6 sub) x:=by
 subst h2
 have:x4 ≥ 0:=by omega
 simp [Fld.pres,Fld.tag,h,this]
theorem JX {k x1 x2 x3 x4 x5 x6 v:Int} {sub:List Fld} {flex:Bool} {x:Tree} (h:x4 < 0):Fld.pres (.mk k x1 x2 x3 x4 x5 x6 sub) v flex x = Fld.has (.mk k x1 x2 x3 x4 x5 x6 sub) v:=by
 have:¬ x4 ≥ 0:=by omega
 simp [Fld.pres,Fld.tag,h,this]
section
variable {w:World} {F:Nat → Nat → Prop}
theorem JY {e size b c:Nat} {xs:List Value} {n:Nat} (h:w.ownsRow 0 e size (.slice (some ⟨b,0,none⟩) n c) n xs):AtF w (fun _ _=>True) b 0 xs:=fun j v hj=>⟨trivial,by
 have:=h.cells (g:=b) rfl j v hj
 rw [P2] at this
 exact this⟩
theorem JZ {e b c:Nat} {cf:List Value} {f:Fld} (h:w.ownsRow 0 e 8 (.slice (some ⟨b,0,none⟩) 1 c) 1 cf) (hf:FldR w F cf f) (hc:1 ≤ c):FldsR w (fun _ _=>True) (some ⟨b,0,none⟩) c [f]:=by
 refine ⟨fun _=>cf,⟨hc,(by show 1 ≤ 1099511627776; decide),fun h=>(by cases h),fun ad hA _=>?_⟩,fun i x hx=>?_⟩
 ·obtain rfl:=Option.some.inj hA
  refine ⟨b,0,rfl,fun i hi=>⟨hf.eight,?_⟩⟩
  have:i = 0:=by simp at hi; omega
  subst this
  simpa using JY h
 cases i with
 | zero =>
  simp only [List.getElem?_cons_zero,Option.some.injEq] at hx
  subst hx
  exact hf.move (Step.refl _ C1) A7 fun _ _ _ _=>trivial
 | succ i=>simp at hx
theorem Ka {e b c:Nat} {cy:List Value} {y:Tree} (h:w.ownsRow 0 e 5 (.slice (some ⟨b,0,none⟩) 1 c) 1 cy) (hy:TreeR w F cy y) (hc:1 ≤ c):TreeR w (fun _ _=>True) [.int .i64 0,.slice none 0 0,.bool false,.slice (some ⟨b,0,none⟩) 1 c,.slice none 0 0] (.mk 0 [] false [y] []):=by
 refine TreeR.mk (l:=[y]) (s:=[]) (u:=[]) (fun _=>cy) (Octs.nil _ _) ⟨hc,(by show 1 ≤ 1099511627776; decide),fun h=>(by cases h),fun ad hA _=>?_⟩ (fun i x hx=>?_) (TagsR.nil _ _)
 ·obtain rfl:=Option.some.inj hA
  refine ⟨b,0,rfl,fun i hi=>⟨hy.five,?_⟩⟩
  have:i = 0:=by simp at hi; omega
  subst this
  simpa using JY h
 cases i with
 | zero =>
  simp only [List.getElem?_cons_zero,Option.some.injEq] at hx
  subst hx
  exact hy.move (Step.refl _ C1) A7 fun _ _ _ _=>trivial
 | succ i=>simp at hx
end
section
variable {gu tu:List (Int × Bs)} {l:List Fld} {flex:Bool} {i:Nat} {k k':Int} {s s':Bs}
theorem DE (h:gu = if flex = true then N5 (C4 l tu) else []) (hf:(!flex) = false) (hc:((gu.length:Nat):Int) ≠ (((C4 l tu).length:Nat):Int)):False:=by
 cases flex
 ·cases hf
 rw [if_pos rfl] at h
 rw [h,Y3] at hc
 exact hc rfl
theorem DF (h:gu = if flex = true then N5 (C4 l tu) else []) (hf:(!flex) = true) (hc:((gu.length:Nat):Int) ≠ 0):False:=by
 cases flex
 ·rw [if_neg (by decide)] at h
  rw [h] at hc
  exact hc rfl
 cases hf
theorem Kb (h:gu = if flex = true then N5 (C4 l tu) else []) (hf:(!flex) = false) (hu:(C4 l tu)[i]? = some (k,s)) (hg:gu[i]? = some (k',s')):k' = k ∧ s' = C5 s:=by
 cases flex
 ·cases hf
 rw [if_pos rfl] at h
 rw [h,LI hu] at hg
 have:=Option.some.inj hg
 exact ⟨(Prod.mk.injEq .. ▸ this).1.symm,(Prod.mk.injEq .. ▸ this).2.symm⟩
theorem DG (h:gu = if flex = true then N5 (C4 l tu) else []) (hf:(!flex) = false) (hu:(C4 l tu)[i]? = some (k,s)) (hg:gu[i]? = some (k',s')) (hc:k' ≠ k):False:=hc (Kb h hf hu hg).1
theorem DH (h:gu = if flex = true then N5 (C4 l tu) else []) (hf:(!flex) = false) (hu:(C4 l tu)[i]? = some (k,s)) (hg:gu[i]? = some (k',s')) (hc:(!decide (s' = C5 s)) = true):False:=by
 rw [(Kb h hf hu hg).2] at hc; simp at hc
theorem W0 (h:gu = if flex = true then N5 (C4 l tu) else []) (hf:(!flex) = false):gu.length = (C4 l tu).length:=by
 cases flex
 ·cases hf
 rw [if_pos rfl] at h
 rw [h,Y3]
end
def Fi (D:DV):Tree:=.mk 0 [] false [.mk (IntKind.i64.wrap (D.f 0).n) [] false [] [],.mk ((D.f 1).n) [] false [] []] D.u
def Bq (D:DV):Tree:=.mk 0 [] false [.mk (IntKind.i64.wrap (D.f 0).n) [] false [] [],.mk (IntKind.i64.wrap (D.f 1).n) [] false [] [],.mk ((D.f 2).n) [] false [] [],.mk (IntKind.i64.wrap (D.f 3).n) [] false [] [],.mk ((D.f 4).n) [] false [] [],.mk (IntKind.i64.wrap (D.f 5).n) [] false [] [],.mk 0 (D.f 6).o false [] [],.mk ((D.f 7).n) [] false [] []] D.u
def Br (D:DV):Tree:=.mk 0 [] false [.mk 0 (sb (D.f 0).s) false [] [],.mk 0 (D.f 1).o false [] [],.mk 0 [] (D.f 2).A.isNone ((List.range (D.f 2).l).map fun i=>Bq ((D.f 2).f i)) []] D.u
def Bt (D:DV):Tree:=.mk 0 [] false [.mk 0 (sb (D.f 0).s) false [] [],.mk 0 (D.f 1).o false [] [],.mk 0 [] (D.f 2).A.isNone ((List.range (D.f 2).l).map fun i=>.mk (IntKind.i64.wrap ((D.f 2).f i).n) [] false [] []) []] D.u
def BZ (D:DV):Tree:=.mk 0 [] false [BW (D.f 0).A (D.f 0).s,.mk (IntKind.i64.wrap (D.f 1).n) [] false [] [],Fi (D.f 2),.mk (IntKind.i64.wrap (D.f 3).n) [] false [] [],.mk (IntKind.i64.wrap (D.f 4).n) [] false [] [],.mk (IntKind.i64.wrap (D.f 5).n) [] false [] [],.mk (IntKind.i64.wrap (D.f 6).n) [] false [] [],.mk (IntKind.i64.wrap (D.f 7).n) [] false [] [],.mk (IntKind.i64.wrap (D.f 8).n) [] false [] [],.mk 0 [] (D.f 9).A.isNone ((List.range (D.f 9).l).map fun i=>Br ((D.f 9).f i)) [],.mk 0 [] (D.f 10).A.isNone ((List.range (D.f 10).l).map fun i=>Bt ((D.f 10).f i)) [],.mk 0 (sb (D.f 11).s) false [] []] D.u
set_option maxHeartbeats 4000000 in
theorem NR (v:Int) (D:DV) (b o:Nat) (w:World) (F:Nat → Nat → Prop) (hat:AtF w F b o [.int .i32 ((D.f 0).n),.int .i64 ((D.f 1).n),.map D.m]) (hok:Y4 w F D):Calls Tryz.prog 36 #[.pointer (some ⟨b,o,none⟩)] w (T0 w F (Fi D)):=by
 refine enter (n:=32) Tryz.func36 rfl Tryz.ntmps36 kz fun a hE=>?_
 let aj:Value:=.int .i64 ((D.f 1).n)
 let ae:Ob:=⟨b,o,[.int .i32 ((D.f 0).n),aj,.map D.m],false⟩
 have hW:WOk w C1 w [ae] []:=(WOk.start w C1).start1 hat rfl rfl
 unfold Y4 at hok
 obtain ⟨g1,g2,g3,g3l,g3x,_⟩:=hok
 let ak:Nat × SV:=(0,.p 0 0)
 have hE0:=(EnvOk.ptr0 (cs:=[.int .i32 ((D.f 0).n),aj,.map D.m]) (r:=false) hE).pk (env':=[ak])
 refine C0 [0] kz ?_
 let ac:Value:=.int .i64 0
 let aa:Value:=.slice none 0 0
 let ab:Value:=.bool false
 refine B2 (H4 hW hE0 (d:=2) (cs:=[ac,aa,ab,aa,aa]) kz fun b4 a5 w6 hb7 hz8 hF9 aM aN=>?_)
 refine B5 (A4 ?_)
 refine C0 [0,1,2,3] kz ?_
 refine B2 (Dv (t:=34) (e:=37) (size:=5) (bytes:=88) (d:=4) (j:=2) (.agg #[ac,aa,ab,aa,aa]) [ac,aa,ab,aa,aa,ac,aa,ab,aa,aa] aM aN fun aw bU bV bH bI bJ aC aO=>?_)
 let af:Nat × SV:=(2,.p 1 0)
 let ag:Value:=.slice (some ⟨aw,0,none⟩) 2 2
 refine B1 [1] [2,3] [ak,af,(5,.v (.agg #[ac,aa,ab,ag,aa]))] aC aO fun bW aP=>?_
 refine B2 (H4 aC aP (d:=3) (cs:=[ac,aa,ab,aa,aa]) kz fun aQ bX bY bK bL bM aR aS=>?_)
 refine B2 (D5 aR aS (oi:=3) (cs:=[ac,aa,ab,ag,aa]) kz fun bZ bN aT aU=>?_)
 refine B5 (A4 ?_)
 refine G0 9 kz aT fun b8 bO aV aD=>?_
 let ai:Nat × SV:=(3,.p 3 0)
 let ax:Nat × SV:=(7,.v (.slice (some ⟨aw,0,none⟩) 2 2))
 let al:Value:=.int .i64 (IntKind.i64.wrap ((D.f 0).n))
 let bE:Value:=(.agg #[.int .i64 (IntKind.i64.wrap ((D.f 0).n)),.slice none 0 0,.bool false,.slice none 0 0,.slice none 0 0])
 refine C7 [0,1,2,3,4,5,6,7] [ak,af,ai,ax,(13,.v (.agg #[al,aa,ab,aa,aa]))] 2 (A5 B8) (fun _ h=>h.cells) aD aU fun cd aW=>?_
 refine F6 aW (i:=8) (t:=34) (A:=(some ⟨aw,0,none⟩)) (m:=2) (q:=0) (d:=14) kz (e:=37) (size:=5) (bytes:=88) (j:=0) kz (b:=aw) (o:=0) rfl rfl (by decide) kz kz (A5 B8) aD fun ce aX=>?_
 have aY:=aX.recast 14 (.v (.pointer (some ⟨aw,0 + 0 * 5,none⟩))) (.p 2 0) rfl rfl (Nat.le_of_ble_eq_true (n:=3) rfl)
 have aZ:=aY.pk (env':=[ak,af,ai,ax,(13,.v (.agg #[al,aa,ab,aa,aa])),(14,.p 2 0)])
 refine C2 (i:=9) kz (D5 aV aZ (oi:=2) (cs:=[al,aa,ab,aa,aa,ac,aa,ab,aa,aa]) kz fun cm bP ba bd=>?_)
 refine ⟨fun h=>absurd rfl h,?_⟩
 refine E5 kz ?_ _
 refine A4 (G0 8 kz ba fun cq bQ bf aE=>?_)
 let ay:Nat × SV:=(16,.v (.slice (some ⟨aw,0,none⟩) 2 2))
 let az:Nat × SV:=(21,.v (.agg #[aj,aa,ab,aa,aa]))
 refine C7 [0,1,2,3,4,5,6] [ak,af,ai,ay,az] 2 (A5 B8) (fun _ h=>h.cells) aE bd fun cr bg=>?_
 refine F6 bg (i:=7) (t:=34) (A:=(some ⟨aw,0,none⟩)) (m:=2) (q:=1) (d:=22) kz (e:=37) (size:=5) (bytes:=88) (j:=1) kz (b:=aw) (o:=0) rfl rfl (by decide) kz kz (A5 B8) aE fun cu bh=>?_
 have bj:=bh.recast 22 (.v (.pointer (some ⟨aw,0 + 1 * 5,none⟩))) (.p 2 5) rfl rfl (Nat.le_of_ble_eq_true (n:=3) rfl)
 have bk:=bj.pk (env':=[ak,af,ai,ay,az,(22,.p 2 5)])
 refine C2 (i:=8) kz (D5 bf bk (oi:=2) (cs:=[al,aa,ab,aa,aa,aj,aa,ab,aa,aa]) kz fun bR bS ar bn=>?_)
 refine ⟨fun h=>absurd rfl h,?_⟩
 refine E5 kz ?_ _
 refine A4 (C0 [0,1,2,3,4] kz ?_)
 refine B1 [0,1,2] [3,4] [af,ai,(25,.p 0 2)] ar bn fun cw bo=>?_
 let au:Value:=.pointer (some ⟨aQ,0,none⟩)
 refine B2 (Cq bo (v:=.func (.func 74) #[] #[au]) (d:=26) kz fun cz bp=>?_)
 let ap:Ob:=⟨b4,0,[ac,aa,ab,aa,aa],true⟩
 let ah:Ob:=⟨aw,0,[al,aa,ab,aa,aa,aj,aa,ab,aa,aa],true⟩
 let aA:Ob:=⟨aQ,0,[ac,aa,ab,ag,aa],true⟩
 refine B2 (D3 bp (f:=39) (vs:=[.pointer (some ⟨b,o + 2,none⟩),.func (.func 74) #[] #[au]]) (d:=27) kz Tryz.call39 (Dy (F:=(E9 F w bR [ae,ap,ah,aA] [])) Tryz.call74 NK ((hat.one 2 rfl).move ar.step A7 ar.imm) (g3.move ar.step A7 ar.imm) (Str.of ar 3 rfl) (CC 3 rfl) g3l) ?_)
 rintro e_ cA ⟨rfl,bF,bG,aF,bq,bt⟩
 let am:Value:=.slice bF D.u.length bG
 let ao:Ob:=⟨aQ,0,[ac,aa,ab,ag,am],true⟩
 obtain ⟨aB,bT,bu⟩:=ar.wrote 3 [ae,ap,ah,ao] rfl bt aF
 have aG:=bq.move (Step.refl _ C1) A7 (fun b_ o_ h_ hb_=>bu (G:=F) b_ o_ (.inr h_) hb_)
 refine ⟨_,rfl,fun cB bw=>?_⟩
 have bx:=(EnvOk.places (tb':=[ae,ap,ah,ao]) bw (show Pl [ae,ap,ah,aA] [ae,ap,ah,ao] from ⟨rfl,rfl,⟨rfl,rfl,⟨rfl,rfl,⟨rfl,rfl,trivial⟩⟩⟩⟩)).pk (env':=[(27,.v (.tuple #[])),af,ai,(25,.p 0 2),(26,.v (.func (.func 74) #[] #[au]))])
 refine B5 (A4 ?_)
 refine C0 [0,1,2] kz ?_
 refine B1 [0,1] [2] [af,ai,(29,.v (.slice bF D.u.length bG))] aB bx fun cC bz=>?_
 refine B2 (D3 bz (f:=41) (vs:=[am]) (d:=30) kz Tryz.call41 (DB aG g3.sorted) ?_)
 rintro e_ cD ⟨rfl,aH⟩
 refine ⟨_,rfl,fun cE bA=>?_⟩
 have aI:=aB.next_nil aH
 have aJ:=aB.frN aH
 refine B5 (A4 ?_)
 refine C0 [0,1] kz ?_
 refine B1 [0] [1] [af,(31,.v (.agg #[ac,aa,ab,ag,am]))] aI bA fun cG bB=>?_
 refine B2 (D5 aI bB (oi:=1) (cs:=[ac,aa,ab,ag,am]) kz fun bC aK aL bD=>?_)
 refine B5 (A4 ?_)
 refine wp_ret (C8 bD aL.cells (v:=.agg #[ac,aa,ab,ag,am]) kz ?_)
 let av:Ob:=⟨b4,0,[ac,aa,ab,ag,am],true⟩
 exact Dz (u:=D.u) (l:=[.mk (IntKind.i64.wrap (D.f 0).n) [] false [] [],.mk ((D.f 1).n) [] false [] []]) (css:=[[al,aa,ab,aa,aa],[aj,aa,ab,aa,aa]]) aL 2 rfl ⟨(show TreeR _ (E9 F w bC [ae,av,ah,ao] []) _ _ from (TreeR.mk (n:=IntKind.i64.wrap ((D.f 0).n)) (b:=false) (s:=[]) (l:=[]) (u:=[]) (fun _=>[]) (Octs.nil _ _) (Slots.nil _ _ _ _) (fun i_ x_ h_=>by simp at h_) (TagsR.nil _ _))).move (Step.refl _ C1) A7 I8,(show TreeR _ (E9 F w bC [ae,av,ah,ao] []) _ _ from (TreeR.mk (n:=(D.f 1).n) (b:=false) (s:=[]) (l:=[]) (u:=[]) (fun _=>[]) (Octs.nil _ _) (Slots.nil _ _ _ _) (fun i_ x_ h_=>by simp at h_) (TagsR.nil _ _))).move (Step.refl _ C1) A7 I8,trivial⟩ ((show TagsR _ (E9 F w bC [ae,av,ah,ao] []) _ _ _ from (aG.move (aJ.trans aK).step immM (aJ.trans aK).to')).move (Step.refl _ C1) A7 I8)
abbrev z4 (x0:DV) (x1) (x2) (x3):=([.int .i32 ((x0.f 0).n),.int .i32 ((x0.f 1).n),x1,.int .i32 ((x0.f 3).n),x2,.int .i32 ((x0.f 5).n),B0 ((x0.f 6).o.getD 0 0),B0 ((x0.f 6).o.getD 1 0),B0 ((x0.f 6).o.getD 2 0),B0 ((x0.f 6).o.getD 3 0),B0 ((x0.f 6).o.getD 4 0),B0 ((x0.f 6).o.getD 5 0),B0 ((x0.f 6).o.getD 6 0),B0 ((x0.f 6).o.getD 7 0),B0 ((x0.f 6).o.getD 8 0),B0 ((x0.f 6).o.getD 9 0),B0 ((x0.f 6).o.getD 10 0),B0 ((x0.f 6).o.getD 11 0),B0 ((x0.f 6).o.getD 12 0),B0 ((x0.f 6).o.getD 13 0),B0 ((x0.f 6).o.getD 14 0),B0 ((x0.f 6).o.getD 15 0),x3,.map x0.m]:List Value)
set_option maxHeartbeats 4000000 in
theorem GY (v:Int) (D:DV) (b o:Nat) (w:World) (F:Nat → Nat → Prop) (hat:AtF w F b o [.int .i32 ((D.f 0).n),.int .i32 ((D.f 1).n),.int .i64 ((D.f 2).n),.int .i32 ((D.f 3).n),.int .i64 ((D.f 4).n),.int .i32 ((D.f 5).n),B0 ((D.f 6).o.getD 0 0),B0 ((D.f 6).o.getD 1 0),B0 ((D.f 6).o.getD 2 0),B0 ((D.f 6).o.getD 3 0),B0 ((D.f 6).o.getD 4 0),B0 ((D.f 6).o.getD 5 0),B0 ((D.f 6).o.getD 6 0),B0 ((D.f 6).o.getD 7 0),B0 ((D.f 6).o.getD 8 0),B0 ((D.f 6).o.getD 9 0),B0 ((D.f 6).o.getD 10 0),B0 ((D.f 6).o.getD 11 0),B0 ((D.f 6).o.getD 12 0),B0 ((D.f 6).o.getD 13 0),B0 ((D.f 6).o.getD 14 0),B0 ((D.f 6).o.getD 15 0),.int .i64 ((D.f 7).n),.map D.m]) (hok:Bg w F D):Calls Tryz.prog 75 #[.pointer (some ⟨b,o,none⟩)] w (T0 w F (Bq D)):=by
 refine enter (n:=84) Tryz.func75 rfl Tryz.ntmps75 kz fun a hE=>?_
 let ag:Value:=.int .i64 ((D.f 2).n)
 let aj:Value:=.int .i64 ((D.f 4).n)
 let ao:Value:=.int .i64 ((D.f 7).n)
 let au:Ob:=⟨b,o,(z4 D ag aj ao),false⟩
 have hW:WOk w C1 w [au] []:=(WOk.start w C1).start1 hat rfl rfl
 unfold Bg at hok
 obtain ⟨g1,g2,g3,g4,g5,g6,g7,g8,g9,g9l,g9x,_⟩:=hok
 let ak:Nat × SV:=(0,.p 0 0)
 have hE0:=(EnvOk.ptr0 (cs:=(z4 D ag aj ao)) (r:=false) hE).pk (env':=[ak])
 have bo:=GS (k:=6) (s:=(D.f 6).o) hat g7 (fun j hj=>by match j,hj with | 0,_=>rfl | 1,_=>rfl | 2,_=>rfl | 3,_=>rfl | 4,_=>rfl | 5,_=>rfl | 6,_=>rfl | 7,_=>rfl | 8,_=>rfl | 9,_=>rfl | 10,_=>rfl | 11,_=>rfl | 12,_=>rfl | 13,_=>rfl | 14,_=>rfl | 15,_=>rfl | n_ + 16,h_=>exact absurd h_ (by omega))
 refine C0 [0] kz ?_
 let ac:Value:=.int .i64 0
 let aa:Value:=.slice none 0 0
 let ab:Value:=.bool false
 refine B2 (H4 hW hE0 (d:=2) (cs:=[ac,aa,ab,aa,aa]) kz fun dG eO eP dT dU dV cM cN=>?_)
 refine B5 (A4 ?_)
 refine C0 [0,1,2,3] kz ?_
 refine B2 (Dv (t:=34) (e:=37) (size:=5) (bytes:=88) (d:=4) (j:=8) (.agg #[ac,aa,ab,aa,aa]) (ac :: aa :: ab :: aa :: aa :: ac :: aa :: ab :: aa :: aa :: ac :: aa :: ab :: aa :: aa :: ac :: aa :: ab :: aa :: aa :: ac :: aa :: ab :: aa :: aa :: ac :: aa :: ab :: aa :: aa :: ac :: aa :: ab :: aa :: aa :: ac :: aa :: ab :: aa :: aa :: []) cM cN fun ar eQ eR dW dX dY bp cO=>?_)
 let ae:Nat × SV:=(2,.p 1 0)
 let ay:Value:=.slice (some ⟨ar,0,none⟩) 8 8
 refine B1 [1] [2,3] [ak,ae,(5,.v (.agg #[ac,aa,ab,ay,aa]))] bp cO fun eS cP=>?_
 refine B2 (H4 bp cP (d:=3) (cs:=[ac,aa,ab,aa,aa]) kz fun cQ eU eV dZ d4 d5 cR cS=>?_)
 refine B2 (D5 cR cS (oi:=3) (cs:=[ac,aa,ab,ay,aa]) kz fun eW d6 cT cU=>?_)
 refine B5 (A4 ?_)
 refine G0 9 kz cT fun eX d7 cV bq=>?_
 let ai:Nat × SV:=(3,.p 3 0)
 let aL:Nat × SV:=(7,.v (.slice (some ⟨ar,0,none⟩) 8 8))
 let af:Value:=.int .i64 (IntKind.i64.wrap ((D.f 0).n))
 let dH:Value:=(.agg #[.int .i64 (IntKind.i64.wrap ((D.f 0).n)),.slice none 0 0,.bool false,.slice none 0 0,.slice none 0 0])
 refine C7 [0,1,2,3,4,5,6,7] [ak,ae,ai,aL,(13,.v (.agg #[af,aa,ab,aa,aa]))] 2 (A5 B8) (fun _ h=>h.cells) bq cU fun eY cW=>?_
 refine F6 cW (i:=8) (t:=34) (A:=(some ⟨ar,0,none⟩)) (m:=8) (q:=0) (d:=14) kz (e:=37) (size:=5) (bytes:=88) (j:=0) kz (b:=ar) (o:=0) rfl rfl (by decide) kz kz (A5 B8) bq fun eZ cX=>?_
 have cY:=cX.recast 14 (.v (.pointer (some ⟨ar,0 + 0 * 5,none⟩))) (.p 2 0) rfl rfl (Nat.le_of_ble_eq_true (n:=3) rfl)
 have cZ:=cY.pk (env':=[ak,ae,ai,aL,(13,.v (.agg #[af,aa,ab,aa,aa])),(14,.p 2 0)])
 refine C2 (i:=9) kz (D5 cV cZ (oi:=2) (cs:=(af :: aa :: ab :: aa :: aa :: ac :: aa :: ab :: aa :: aa :: ac :: aa :: ab :: aa :: aa :: ac :: aa :: ab :: aa :: aa :: ac :: aa :: ab :: aa :: aa :: ac :: aa :: ab :: aa :: aa :: ac :: aa :: ab :: aa :: aa :: ac :: aa :: ab :: aa :: aa :: [])) kz fun e9 d8 da db=>?_)
 refine ⟨fun h=>absurd rfl h,?_⟩
 refine E5 kz ?_ _
 refine A4 (G0 9 kz da fun fb d9 dc bt=>?_)
 let aM:Nat × SV:=(16,.v (.slice (some ⟨ar,0,none⟩) 8 8))
 let ah:Value:=.int .i64 (IntKind.i64.wrap ((D.f 1).n))
 let dI:Value:=(.agg #[.int .i64 (IntKind.i64.wrap ((D.f 1).n)),.slice none 0 0,.bool false,.slice none 0 0,.slice none 0 0])
 refine C7 [0,1,2,3,4,5,6,7] [ak,ae,ai,aM,(22,.v (.agg #[ah,aa,ab,aa,aa]))] 2 (A5 B8) (fun _ h=>h.cells) bt db fun fe de=>?_
 refine F6 de (i:=8) (t:=34) (A:=(some ⟨ar,0,none⟩)) (m:=8) (q:=1) (d:=23) kz (e:=37) (size:=5) (bytes:=88) (j:=1) kz (b:=ar) (o:=0) rfl rfl (by decide) kz kz (A5 B8) bt fun ff df=>?_
 have dg:=df.recast 23 (.v (.pointer (some ⟨ar,0 + 1 * 5,none⟩))) (.p 2 5) rfl rfl (Nat.le_of_ble_eq_true (n:=3) rfl)
 have dh:=dg.pk (env':=[ak,ae,ai,aM,(22,.v (.agg #[ah,aa,ab,aa,aa])),(23,.p 2 5)])
 refine C2 (i:=9) kz (D5 dc dh (oi:=2) (cs:=(af :: aa :: ab :: aa :: aa :: ah :: aa :: ab :: aa :: aa :: ac :: aa :: ab :: aa :: aa :: ac :: aa :: ab :: aa :: aa :: ac :: aa :: ab :: aa :: aa :: ac :: aa :: ab :: aa :: aa :: ac :: aa :: ab :: aa :: aa :: ac :: aa :: ab :: aa :: aa :: [])) kz fun fg ea di dj=>?_)
 refine ⟨fun h=>absurd rfl h,?_⟩
 refine E5 kz ?_ _
 refine A4 (G0 8 kz di fun fh eb dl bu=>?_)
 let aN:Nat × SV:=(25,.v (.slice (some ⟨ar,0,none⟩) 8 8))
 let aO:Nat × SV:=(30,.v (.agg #[ag,aa,ab,aa,aa]))
 refine C7 [0,1,2,3,4,5,6] [ak,ae,ai,aN,aO] 2 (A5 B8) (fun _ h=>h.cells) bu dj fun fi dp=>?_
 refine F6 dp (i:=7) (t:=34) (A:=(some ⟨ar,0,none⟩)) (m:=8) (q:=2) (d:=31) kz (e:=37) (size:=5) (bytes:=88) (j:=2) kz (b:=ar) (o:=0) rfl rfl (by decide) kz kz (A5 B8) bu fun fj dq=>?_
 have dr:=dq.recast 31 (.v (.pointer (some ⟨ar,0 + 2 * 5,none⟩))) (.p 2 10) rfl rfl (Nat.le_of_ble_eq_true (n:=3) rfl)
 have dt:=dr.pk (env':=[ak,ae,ai,aN,aO,(31,.p 2 10)])
 refine C2 (i:=8) kz (D5 dl dt (oi:=2) (cs:=(af :: aa :: ab :: aa :: aa :: ah :: aa :: ab :: aa :: aa :: ag :: aa :: ab :: aa :: aa :: ac :: aa :: ab :: aa :: aa :: ac :: aa :: ab :: aa :: aa :: ac :: aa :: ab :: aa :: aa :: ac :: aa :: ab :: aa :: aa :: ac :: aa :: ab :: aa :: aa :: [])) kz fun fk ec du dv=>?_)
 refine ⟨fun h=>absurd rfl h,?_⟩
 refine E5 kz ?_ _
 refine A4 (G0 9 kz du fun fm ee dw bw=>?_)
 let aP:Nat × SV:=(33,.v (.slice (some ⟨ar,0,none⟩) 8 8))
 let al:Value:=.int .i64 (IntKind.i64.wrap ((D.f 3).n))
 let dJ:Value:=(.agg #[.int .i64 (IntKind.i64.wrap ((D.f 3).n)),.slice none 0 0,.bool false,.slice none 0 0,.slice none 0 0])
 refine C7 [0,1,2,3,4,5,6,7] [ak,ae,ai,aP,(39,.v (.agg #[al,aa,ab,aa,aa]))] 2 (A5 B8) (fun _ h=>h.cells) bw dv fun fo dx=>?_
 refine F6 dx (i:=8) (t:=34) (A:=(some ⟨ar,0,none⟩)) (m:=8) (q:=3) (d:=40) kz (e:=37) (size:=5) (bytes:=88) (j:=3) kz (b:=ar) (o:=0) rfl rfl (by decide) kz kz (A5 B8) bw fun fq dy=>?_
 have dA:=dy.recast 40 (.v (.pointer (some ⟨ar,0 + 3 * 5,none⟩))) (.p 2 15) rfl rfl (Nat.le_of_ble_eq_true (n:=3) rfl)
 have dB:=dA.pk (env':=[ak,ae,ai,aP,(39,.v (.agg #[al,aa,ab,aa,aa])),(40,.p 2 15)])
 refine C2 (i:=9) kz (D5 dw dB (oi:=2) (cs:=(af :: aa :: ab :: aa :: aa :: ah :: aa :: ab :: aa :: aa :: ag :: aa :: ab :: aa :: aa :: al :: aa :: ab :: aa :: aa :: ac :: aa :: ab :: aa :: aa :: ac :: aa :: ab :: aa :: aa :: ac :: aa :: ab :: aa :: aa :: ac :: aa :: ab :: aa :: aa :: [])) kz fun fr ef dC dD=>?_)
 refine ⟨fun h=>absurd rfl h,?_⟩
 refine E5 kz ?_ _
 refine A4 (G0 8 kz dC fun ft eg dE aQ=>?_)
 let aR:Nat × SV:=(42,.v (.slice (some ⟨ar,0,none⟩) 8 8))
 let aS:Nat × SV:=(47,.v (.agg #[aj,aa,ab,aa,aa]))
 refine C7 [0,1,2,3,4,5,6] [ak,ae,ai,aR,aS] 2 (A5 B8) (fun _ h=>h.cells) aQ dD fun eh bx=>?_
 refine F6 bx (i:=7) (t:=34) (A:=(some ⟨ar,0,none⟩)) (m:=8) (q:=4) (d:=48) kz (e:=37) (size:=5) (bytes:=88) (j:=4) kz (b:=ar) (o:=0) rfl rfl (by decide) kz kz (A5 B8) aQ fun ei bz=>?_
 have bA:=bz.recast 48 (.v (.pointer (some ⟨ar,0 + 4 * 5,none⟩))) (.p 2 20) rfl rfl (Nat.le_of_ble_eq_true (n:=3) rfl)
 have bB:=bA.pk (env':=[ak,ae,ai,aR,aS,(48,.p 2 20)])
 refine C2 (i:=8) kz (D5 dE bB (oi:=2) (cs:=(af :: aa :: ab :: aa :: aa :: ah :: aa :: ab :: aa :: aa :: ag :: aa :: ab :: aa :: aa :: al :: aa :: ab :: aa :: aa :: aj :: aa :: ab :: aa :: aa :: ac :: aa :: ab :: aa :: aa :: ac :: aa :: ab :: aa :: aa :: ac :: aa :: ab :: aa :: aa :: [])) kz fun ej dK bC bD=>?_)
 refine ⟨fun h=>absurd rfl h,?_⟩
 refine E5 kz ?_ _
 refine A4 (G0 9 kz bC fun ek dL bE aT=>?_)
 let aU:Nat × SV:=(50,.v (.slice (some ⟨ar,0,none⟩) 8 8))
 let am:Value:=.int .i64 (IntKind.i64.wrap ((D.f 5).n))
 let dM:Value:=(.agg #[.int .i64 (IntKind.i64.wrap ((D.f 5).n)),.slice none 0 0,.bool false,.slice none 0 0,.slice none 0 0])
 refine C7 [0,1,2,3,4,5,6,7] [ak,ae,ai,aU,(56,.v (.agg #[am,aa,ab,aa,aa]))] 2 (A5 B8) (fun _ h=>h.cells) aT bD fun em bF=>?_
 refine F6 bF (i:=8) (t:=34) (A:=(some ⟨ar,0,none⟩)) (m:=8) (q:=5) (d:=57) kz (e:=37) (size:=5) (bytes:=88) (j:=5) kz (b:=ar) (o:=0) rfl rfl (by decide) kz kz (A5 B8) aT fun eo bG=>?_
 have bH:=bG.recast 57 (.v (.pointer (some ⟨ar,0 + 5 * 5,none⟩))) (.p 2 25) rfl rfl (Nat.le_of_ble_eq_true (n:=3) rfl)
 have bI:=bH.pk (env':=[ak,ae,ai,aU,(56,.v (.agg #[am,aa,ab,aa,aa])),(57,.p 2 25)])
 refine C2 (i:=9) kz (D5 bE bI (oi:=2) (cs:=(af :: aa :: ab :: aa :: aa :: ah :: aa :: ab :: aa :: aa :: ag :: aa :: ab :: aa :: aa :: al :: aa :: ab :: aa :: aa :: aj :: aa :: ab :: aa :: aa :: am :: aa :: ab :: aa :: aa :: ac :: aa :: ab :: aa :: aa :: ac :: aa :: ab :: aa :: aa :: [])) kz fun ep dN bJ bK=>?_)
 refine ⟨fun h=>absurd rfl h,?_⟩
 refine E5 kz ?_ _
 refine A4 (G0 9 kz bJ fun eu dO aV bL=>?_)
 let aC:Nat × SV:=(59,.v (.slice (some ⟨ar,0,none⟩) 8 8))
 let aH:Nat × SV:=(63,.v (.slice (some ⟨b,o + 6,none⟩) 16 16))
 refine C7 [0,1,2,3,4,5] [ak,ae,ai,aC,aH] 4 (A5 B8) (fun _ h=>h.cells) bL bK fun ev bM=>?_
 have aD:=aV.addNil 5 1
 have bN:=aV.frNil 5 1
 refine C2 (i:=6) kz (I4 aD bM (k:=0) (d:=64) (t:=22) (e:=5) (size:=1) (bytes:=1) (A:=none) (As:=(some ⟨b,o + 6,none⟩)) (m0:=0) (c:=0) (m:=16) (cs:=16) (xs:=[]) (news:=bc ((D.f 6).o)) kz kz rfl (bo.move aD.step A7 aD.imm).src (bo.move aD.step A7 aD.imm).cap (by omega) fun aw ax ew ey bO bP bQ=>?_)
 have bR:(⟨aw,ax,5,1,0 + 16,[] ++ bc ((D.f 6).o)⟩:Rw) = B4 aw ax 5 ((D.f 6).o):=by rw [List.nil_append]; unfold B4; rw [g7]
 obtain ⟨aW,bS⟩:=bP.rowEq 0 [B4 aw ax 5 ((D.f 6).o)] bR
 have bT:=EnvOk.pick bQ (ks:=[0,2,3,59,63,64]) (env':=[ak,ae,ai,aC,aH,(64,.v (.slice aw (0 + 16) ax))]) kz
 have bU:=bT.cast (env':=[ak,ae,ai,aC,aH,(64,.v (.slice aw (((D.f 6).o).length) ax))]) (by rw [g7])
 have aI:=TT.ofW ((bN.trans bO).trans bS) aW
 refine ⟨fun _=>aI,?_⟩
 let ap:Value:=.slice aw (((D.f 6).o).length) ax
 let aX:Nat × SV:=(65,.v (.agg #[ac,ap,ab,aa,aa]))
 refine C7 [7] [ak,ae,ai,aC,aX] 2 (A5 B8) (fun _ h=>h.cells) aI bU fun ez bV=>?_
 refine F6 bV (i:=8) (t:=34) (A:=(some ⟨ar,0,none⟩)) (m:=8) (q:=6) (d:=66) kz (e:=37) (size:=5) (bytes:=88) (j:=6) kz (b:=ar) (o:=0) rfl rfl (by decide) kz kz (A5 B8) aI fun eB bW=>?_
 have bX:=bW.recast 66 (.v (.pointer (some ⟨ar,0 + 6 * 5,none⟩))) (.p 2 30) rfl rfl (Nat.le_of_ble_eq_true (n:=3) rfl)
 have bY:=bX.pk (env':=[ak,ae,ai,aC,aX,(66,.p 2 30)])
 refine C2 (i:=9) kz (D5 aW bY (oi:=2) (cs:=(af :: aa :: ab :: aa :: aa :: ah :: aa :: ab :: aa :: aa :: ag :: aa :: ab :: aa :: aa :: al :: aa :: ab :: aa :: aa :: aj :: aa :: ab :: aa :: aa :: am :: aa :: ab :: aa :: aa :: ac :: ap :: ab :: aa :: aa :: ac :: aa :: ab :: aa :: aa :: [])) kz fun eC dP bZ b8=>?_)
 refine ⟨fun h=>absurd rfl h,?_⟩
 refine E5 kz ?_ _
 refine A4 (G0 8 kz bZ fun eD dQ cd aY=>?_)
 let aZ:Nat × SV:=(68,.v (.slice (some ⟨ar,0,none⟩) 8 8))
 let ba:Nat × SV:=(73,.v (.agg #[ao,aa,ab,aa,aa]))
 refine C7 [0,1,2,3,4,5,6] [ak,ae,ai,aZ,ba] 2 (A5 B8) (fun _ h=>h.cells) aY b8 fun eE ce=>?_
 refine F6 ce (i:=7) (t:=34) (A:=(some ⟨ar,0,none⟩)) (m:=8) (q:=7) (d:=74) kz (e:=37) (size:=5) (bytes:=88) (j:=7) kz (b:=ar) (o:=0) rfl rfl (by decide) kz kz (A5 B8) aY fun eF cm=>?_
 have cq:=cm.recast 74 (.v (.pointer (some ⟨ar,0 + 7 * 5,none⟩))) (.p 2 35) rfl rfl (Nat.le_of_ble_eq_true (n:=3) rfl)
 have cr:=cq.pk (env':=[ak,ae,ai,aZ,ba,(74,.p 2 35)])
 refine C2 (i:=8) kz (D5 cd cr (oi:=2) (cs:=(af :: aa :: ab :: aa :: aa :: ah :: aa :: ab :: aa :: aa :: ag :: aa :: ab :: aa :: aa :: al :: aa :: ab :: aa :: aa :: aj :: aa :: ab :: aa :: aa :: am :: aa :: ab :: aa :: aa :: ac :: ap :: ab :: aa :: aa :: ao :: aa :: ab :: aa :: aa :: [])) kz fun dF dR aA cu=>?_)
 refine ⟨fun h=>absurd rfl h,?_⟩
 refine E5 kz ?_ _
 refine A4 (C0 [0,1,2,3,4] kz ?_)
 refine B1 [0,1,2] [3,4] [ae,ai,(77,.p 0 23)] aA cu fun eG cw=>?_
 let aJ:Value:=.pointer (some ⟨cQ,0,none⟩)
 refine B2 (Cq cw (v:=.func (.func 87) #[] #[aJ]) (d:=78) kz fun eH cz=>?_)
 let aE:Ob:=⟨dG,0,[ac,aa,ab,aa,aa],true⟩
 let bd:Ob:=⟨cQ,0,[ac,aa,ab,ay,aa],true⟩
 refine B2 (D3 cz (f:=39) (vs:=[.pointer (some ⟨b,o + 23,none⟩),.func (.func 87) #[] #[aJ]]) (d:=79) kz Tryz.call39 (Dy (F:=(E9 F w dF [au,aE,⟨ar,0,(af :: aa :: ab :: aa :: aa :: ah :: aa :: ab :: aa :: aa :: ag :: aa :: ab :: aa :: aa :: al :: aa :: ab :: aa :: aa :: aj :: aa :: ab :: aa :: aa :: am :: aa :: ab :: aa :: aa :: ac :: ap :: ab :: aa :: aa :: ao :: aa :: ab :: aa :: aa :: []),true⟩,bd] [B4 aw ax 5 ((D.f 6).o)])) Tryz.call87 NM ((hat.one 23 rfl).move aA.step A7 aA.imm) (g9.move aA.step A7 aA.imm) (Str.of aA 3 rfl) (CC 3 rfl) g9l) ?_)
 rintro e_ eI ⟨rfl,cA,cB,bn,cC,cD⟩
 let aB:Value:=.slice cA D.u.length cB
 let av:Ob:=⟨cQ,0,[ac,aa,ab,ay,aB],true⟩
 obtain ⟨aK,dS,cE⟩:=aA.wrote 3 [au,aE,⟨ar,0,(af :: aa :: ab :: aa :: aa :: ah :: aa :: ab :: aa :: aa :: ag :: aa :: ab :: aa :: aa :: al :: aa :: ab :: aa :: aa :: aj :: aa :: ab :: aa :: aa :: am :: aa :: ab :: aa :: aa :: ac :: ap :: ab :: aa :: aa :: ao :: aa :: ab :: aa :: aa :: []),true⟩,av] rfl cD bn
 have bf:=cC.move (Step.refl _ C1) A7 (fun b_ o_ h_ hb_=>cE (G:=F) b_ o_ (.inr h_) hb_)
 refine ⟨_,rfl,fun eJ cG=>?_⟩
 have cH:=(EnvOk.places (tb':=[au,aE,⟨ar,0,(af :: aa :: ab :: aa :: aa :: ah :: aa :: ab :: aa :: aa :: ag :: aa :: ab :: aa :: aa :: al :: aa :: ab :: aa :: aa :: aj :: aa :: ab :: aa :: aa :: am :: aa :: ab :: aa :: aa :: ac :: ap :: ab :: aa :: aa :: ao :: aa :: ab :: aa :: aa :: []),true⟩,av]) cG (show Pl [au,aE,⟨ar,0,(af :: aa :: ab :: aa :: aa :: ah :: aa :: ab :: aa :: aa :: ag :: aa :: ab :: aa :: aa :: al :: aa :: ab :: aa :: aa :: aj :: aa :: ab :: aa :: aa :: am :: aa :: ab :: aa :: aa :: ac :: ap :: ab :: aa :: aa :: ao :: aa :: ab :: aa :: aa :: []),true⟩,bd] [au,aE,⟨ar,0,(af :: aa :: ab :: aa :: aa :: ah :: aa :: ab :: aa :: aa :: ag :: aa :: ab :: aa :: aa :: al :: aa :: ab :: aa :: aa :: aj :: aa :: ab :: aa :: aa :: am :: aa :: ab :: aa :: aa :: ac :: ap :: ab :: aa :: aa :: ao :: aa :: ab :: aa :: aa :: []),true⟩,av] from ⟨rfl,rfl,⟨rfl,rfl,⟨rfl,rfl,⟨rfl,rfl,trivial⟩⟩⟩⟩)).pk (env':=[(79,.v (.tuple #[])),ae,ai,(77,.p 0 23),(78,.v (.func (.func 87) #[] #[aJ]))])
 refine B5 (A4 ?_)
 refine C0 [0,1,2] kz ?_
 refine B1 [0,1] [2] [ae,ai,(81,.v (.slice cA D.u.length cB))] aK cH fun eK cI=>?_
 refine B2 (D3 cI (f:=41) (vs:=[aB]) (d:=82) kz Tryz.call41 (DB bf g9.sorted) ?_)
 rintro e_ eL ⟨rfl,bg⟩
 refine ⟨_,rfl,fun eM cJ=>?_⟩
 have bh:=aK.next_nil bg
 have bj:=aK.frN bg
 refine B5 (A4 ?_)
 refine C0 [0,1] kz ?_
 refine B1 [0] [1] [ae,(83,.v (.agg #[ac,aa,ab,ay,aB]))] bh cJ fun eN cK=>?_
 refine B2 (D5 bh cK (oi:=1) (cs:=[ac,aa,ab,ay,aB]) kz fun aF bk aG cL=>?_)
 refine B5 (A4 ?_)
 refine wp_ret (C8 cL aG.cells (v:=.agg #[ac,aa,ab,ay,aB]) kz ?_)
 let az:Ob:=⟨dG,0,[ac,aa,ab,ay,aB],true⟩
 exact Dz (u:=D.u) (l:=[.mk (IntKind.i64.wrap (D.f 0).n) [] false [] [],.mk (IntKind.i64.wrap (D.f 1).n) [] false [] [],.mk ((D.f 2).n) [] false [] [],.mk (IntKind.i64.wrap (D.f 3).n) [] false [] [],.mk ((D.f 4).n) [] false [] [],.mk (IntKind.i64.wrap (D.f 5).n) [] false [] [],.mk 0 (D.f 6).o false [] [],.mk ((D.f 7).n) [] false [] []]) (css:=[[af,aa,ab,aa,aa],[ah,aa,ab,aa,aa],[ag,aa,ab,aa,aa],[al,aa,ab,aa,aa],[aj,aa,ab,aa,aa],[am,aa,ab,aa,aa],[ac,ap,ab,aa,aa],[ao,aa,ab,aa,aa]]) aG 2 rfl ⟨(show TreeR _ (E9 F w aF [au,az,⟨ar,0,(af :: aa :: ab :: aa :: aa :: ah :: aa :: ab :: aa :: aa :: ag :: aa :: ab :: aa :: aa :: al :: aa :: ab :: aa :: aa :: aj :: aa :: ab :: aa :: aa :: am :: aa :: ab :: aa :: aa :: ac :: ap :: ab :: aa :: aa :: ao :: aa :: ab :: aa :: aa :: []),true⟩,av] [B4 aw ax 5 ((D.f 6).o)]) _ _ from (TreeR.mk (n:=IntKind.i64.wrap ((D.f 0).n)) (b:=false) (s:=[]) (l:=[]) (u:=[]) (fun _=>[]) (Octs.nil _ _) (Slots.nil _ _ _ _) (fun i_ x_ h_=>by simp at h_) (TagsR.nil _ _))).move (Step.refl _ C1) A7 I8,(show TreeR _ (E9 F w aF [au,az,⟨ar,0,(af :: aa :: ab :: aa :: aa :: ah :: aa :: ab :: aa :: aa :: ag :: aa :: ab :: aa :: aa :: al :: aa :: ab :: aa :: aa :: aj :: aa :: ab :: aa :: aa :: am :: aa :: ab :: aa :: aa :: ac :: ap :: ab :: aa :: aa :: ao :: aa :: ab :: aa :: aa :: []),true⟩,av] [B4 aw ax 5 ((D.f 6).o)]) _ _ from (TreeR.mk (n:=IntKind.i64.wrap ((D.f 1).n)) (b:=false) (s:=[]) (l:=[]) (u:=[]) (fun _=>[]) (Octs.nil _ _) (Slots.nil _ _ _ _) (fun i_ x_ h_=>by simp at h_) (TagsR.nil _ _))).move (Step.refl _ C1) A7 I8,(show TreeR _ (E9 F w aF [au,az,⟨ar,0,(af :: aa :: ab :: aa :: aa :: ah :: aa :: ab :: aa :: aa :: ag :: aa :: ab :: aa :: aa :: al :: aa :: ab :: aa :: aa :: aj :: aa :: ab :: aa :: aa :: am :: aa :: ab :: aa :: aa :: ac :: ap :: ab :: aa :: aa :: ao :: aa :: ab :: aa :: aa :: []),true⟩,av] [B4 aw ax 5 ((D.f 6).o)]) _ _ from (TreeR.mk (n:=(D.f 2).n) (b:=false) (s:=[]) (l:=[]) (u:=[]) (fun _=>[]) (Octs.nil _ _) (Slots.nil _ _ _ _) (fun i_ x_ h_=>by simp at h_) (TagsR.nil _ _))).move (Step.refl _ C1) A7 I8,(show TreeR _ (E9 F w aF [au,az,⟨ar,0,(af :: aa :: ab :: aa :: aa :: ah :: aa :: ab :: aa :: aa :: ag :: aa :: ab :: aa :: aa :: al :: aa :: ab :: aa :: aa :: aj :: aa :: ab :: aa :: aa :: am :: aa :: ab :: aa :: aa :: ac :: ap :: ab :: aa :: aa :: ao :: aa :: ab :: aa :: aa :: []),true⟩,av] [B4 aw ax 5 ((D.f 6).o)]) _ _ from (TreeR.mk (n:=IntKind.i64.wrap ((D.f 3).n)) (b:=false) (s:=[]) (l:=[]) (u:=[]) (fun _=>[]) (Octs.nil _ _) (Slots.nil _ _ _ _) (fun i_ x_ h_=>by simp at h_) (TagsR.nil _ _))).move (Step.refl _ C1) A7 I8,(show TreeR _ (E9 F w aF [au,az,⟨ar,0,(af :: aa :: ab :: aa :: aa :: ah :: aa :: ab :: aa :: aa :: ag :: aa :: ab :: aa :: aa :: al :: aa :: ab :: aa :: aa :: aj :: aa :: ab :: aa :: aa :: am :: aa :: ab :: aa :: aa :: ac :: ap :: ab :: aa :: aa :: ao :: aa :: ab :: aa :: aa :: []),true⟩,av] [B4 aw ax 5 ((D.f 6).o)]) _ _ from (TreeR.mk (n:=(D.f 4).n) (b:=false) (s:=[]) (l:=[]) (u:=[]) (fun _=>[]) (Octs.nil _ _) (Slots.nil _ _ _ _) (fun i_ x_ h_=>by simp at h_) (TagsR.nil _ _))).move (Step.refl _ C1) A7 I8,(show TreeR _ (E9 F w aF [au,az,⟨ar,0,(af :: aa :: ab :: aa :: aa :: ah :: aa :: ab :: aa :: aa :: ag :: aa :: ab :: aa :: aa :: al :: aa :: ab :: aa :: aa :: aj :: aa :: ab :: aa :: aa :: am :: aa :: ab :: aa :: aa :: ac :: ap :: ab :: aa :: aa :: ao :: aa :: ab :: aa :: aa :: []),true⟩,av] [B4 aw ax 5 ((D.f 6).o)]) _ _ from (TreeR.mk (n:=IntKind.i64.wrap ((D.f 5).n)) (b:=false) (s:=[]) (l:=[]) (u:=[]) (fun _=>[]) (Octs.nil _ _) (Slots.nil _ _ _ _) (fun i_ x_ h_=>by simp at h_) (TagsR.nil _ _))).move (Step.refl _ C1) A7 I8,TreeR.mk (n:=0) (b:=false) (l:=[]) (u:=[]) (fun _=>[]) (R7 (aG.own 0 _ rfl) (by rw [g7]; decide) (Cu (F:=F) aG (k:=0) rfl)) (Slots.nil _ _ 5 _) (fun _ _ h_=>by simp at h_) (TagsR.nil _ _),(show TreeR _ (E9 F w aF [au,az,⟨ar,0,(af :: aa :: ab :: aa :: aa :: ah :: aa :: ab :: aa :: aa :: ag :: aa :: ab :: aa :: aa :: al :: aa :: ab :: aa :: aa :: aj :: aa :: ab :: aa :: aa :: am :: aa :: ab :: aa :: aa :: ac :: ap :: ab :: aa :: aa :: ao :: aa :: ab :: aa :: aa :: []),true⟩,av] [B4 aw ax 5 ((D.f 6).o)]) _ _ from (TreeR.mk (n:=(D.f 7).n) (b:=false) (s:=[]) (l:=[]) (u:=[]) (fun _=>[]) (Octs.nil _ _) (Slots.nil _ _ _ _) (fun i_ x_ h_=>by simp at h_) (TagsR.nil _ _))).move (Step.refl _ C1) A7 I8,trivial⟩ ((show TagsR _ (E9 F w aF [au,az,⟨ar,0,(af :: aa :: ab :: aa :: aa :: ah :: aa :: ab :: aa :: aa :: ag :: aa :: ab :: aa :: aa :: al :: aa :: ab :: aa :: aa :: aj :: aa :: ab :: aa :: aa :: am :: aa :: ab :: aa :: aa :: ac :: ap :: ab :: aa :: aa :: ao :: aa :: ab :: aa :: aa :: []),true⟩,av] [B4 aw ax 5 ((D.f 6).o)]) _ _ _ from (bf.move (bj.trans bk).step immM (bj.trans bk).to')).move (Step.refl _ C1) A7 I8)
abbrev z1 (x0:DV) (x1):=([.string ((x0.f 0).s),B0 ((x0.f 1).o.getD 0 0),B0 ((x0.f 1).o.getD 1 0),B0 ((x0.f 1).o.getD 2 0),B0 ((x0.f 1).o.getD 3 0),B0 ((x0.f 1).o.getD 4 0),B0 ((x0.f 1).o.getD 5 0),B0 ((x0.f 1).o.getD 6 0),B0 ((x0.f 1).o.getD 7 0),B0 ((x0.f 1).o.getD 8 0),B0 ((x0.f 1).o.getD 9 0),B0 ((x0.f 1).o.getD 10 0),B0 ((x0.f 1).o.getD 11 0),B0 ((x0.f 1).o.getD 12 0),B0 ((x0.f 1).o.getD 13 0),B0 ((x0.f 1).o.getD 14 0),B0 ((x0.f 1).o.getD 15 0),x1,.map x0.m]:List Value)
set_option maxHeartbeats 4000000 in
theorem GZ (v:Int) (D:DV) (b o:Nat) (w:World) (F:Nat → Nat → Prop) (hat:AtF w F b o [.string ((D.f 0).s),B0 ((D.f 1).o.getD 0 0),B0 ((D.f 1).o.getD 1 0),B0 ((D.f 1).o.getD 2 0),B0 ((D.f 1).o.getD 3 0),B0 ((D.f 1).o.getD 4 0),B0 ((D.f 1).o.getD 5 0),B0 ((D.f 1).o.getD 6 0),B0 ((D.f 1).o.getD 7 0),B0 ((D.f 1).o.getD 8 0),B0 ((D.f 1).o.getD 9 0),B0 ((D.f 1).o.getD 10 0),B0 ((D.f 1).o.getD 11 0),B0 ((D.f 1).o.getD 12 0),B0 ((D.f 1).o.getD 13 0),B0 ((D.f 1).o.getD 14 0),B0 ((D.f 1).o.getD 15 0),.slice ((D.f 2).A) ((D.f 2).l) ((D.f 2).c),.map D.m]) (hok:Bh w F D):Calls Tryz.prog 37 #[.pointer (some ⟨b,o,none⟩)] w (T0 w F (Br D)):=by
 refine enter (n:=90) Tryz.func37 rfl Tryz.ntmps37 kz fun a hE=>?_
 let dy:Value:=.slice ((D.f 2).A) ((D.f 2).l) ((D.f 2).c)
 let al:Ob:=⟨b,o,(z1 D dy),false⟩
 have hW:WOk w C1 w [al] []:=(WOk.start w C1).start1 hat rfl rfl
 unfold Bh at hok
 obtain ⟨g1,g2,⟨g3,g3l,g3e⟩,g4,g4l,g4x,_⟩:=hok
 let ag:Nat × SV:=(0,.p 0 0)
 have hE0:=(EnvOk.ptr0 (cs:=(z1 D dy)) (r:=false) hE).pk (env':=[ag])
 have hu5:=GS (k:=1) (s:=(D.f 1).o) hat g2 (fun j hj=>by match j,hj with | 0,_=>rfl | 1,_=>rfl | 2,_=>rfl | 3,_=>rfl | 4,_=>rfl | 5,_=>rfl | 6,_=>rfl | 7,_=>rfl | 8,_=>rfl | 9,_=>rfl | 10,_=>rfl | 11,_=>rfl | 12,_=>rfl | 13,_=>rfl | 14,_=>rfl | 15,_=>rfl | n_ + 16,h_=>exact absurd h_ (by omega))
 refine C0 [0] kz ?_
 let ab:Value:=.int .i64 0
 let aa:Value:=.slice none 0 0
 let ac:Value:=.bool false
 refine B2 (H4 hW hE0 (d:=2) (cs:=[ab,aa,ac,aa,aa]) kz fun b6 a7 w8 hb9 jG jH ig ii=>?_)
 refine B5 (A4 ?_)
 refine C0 [0,1,2,3] kz ?_
 refine B2 (Dv (t:=34) (e:=37) (size:=5) (bytes:=88) (d:=5) (j:=3) (.agg #[ab,aa,ac,aa,aa]) [ab,aa,ac,aa,aa,ab,aa,ac,aa,aa,ab,aa,ac,aa,aa] ig ii fun ao li lj jI jJ jK eI ij=>?_)
 let ae:Nat × SV:=(2,.p 1 0)
 let ax:Value:=.slice (some ⟨ao,0,none⟩) 3 3
 refine B1 [1] [2,3] [ag,ae,(6,.v (.agg #[ab,aa,ac,ax,aa]))] eI ij fun lm ik=>?_
 refine B2 (H4 eI ik (d:=3) (cs:=[ab,aa,ac,aa,aa]) kz fun il ln lp jL jM jN im io=>?_)
 refine B2 (D5 im io (oi:=3) (cs:=[ab,aa,ac,ax,aa]) kz fun lq jO ip iq=>?_)
 refine B5 (A4 ?_)
 refine G0 9 kz ip fun lr jP ir iu=>?_
 let af:Nat × SV:=(3,.p 3 0)
 let cu:Nat × SV:=(8,.v (.slice (some ⟨ao,0,none⟩) 3 3))
 refine C7 [0,1,2,3,4,5] [ag,ae,af,cu,(12,.v (.string ((D.f 0).s)))] 4 (A5 B8) (fun _ h=>h.cells) iu iq fun ls iv=>?_
 refine C2 (i:=6) kz (Fa (d:=13) (src:=9) (dst:=22) (e:=5) (s:=((D.f 0).s)) ir iv (by omega) fun jQ jR lu lv iw eJ ix iy=>?_)
 have iz:=ix F
 have eg:=TT.ofW iw eJ
 refine ⟨fun _=>eg,?_⟩
 let ak:Value:=.slice (some ⟨jQ,0,none⟩) ((sb ((D.f 0).s)).length) jR
 let dA:Nat × SV:=(14,.v (.agg #[ab,ak,ac,aa,aa]))
 refine C7 [7] [ag,ae,af,cu,dA] 2 (A5 B8) (fun _ h=>h.cells) eg iy fun lw iA=>?_
 refine F6 iA (i:=8) (t:=34) (A:=(some ⟨ao,0,none⟩)) (m:=3) (q:=0) (d:=15) kz (e:=37) (size:=5) (bytes:=88) (j:=0) kz (b:=ao) (o:=0) rfl rfl (by decide) kz kz (A5 B8) eg fun lx iB=>?_
 have iC:=iB.recast 15 (.v (.pointer (some ⟨ao,0 + 0 * 5,none⟩))) (.p 2 0) rfl rfl (Nat.le_of_ble_eq_true (n:=3) rfl)
 have iD:=iC.pk (env':=[ag,ae,af,cu,dA,(15,.p 2 0)])
 refine C2 (i:=9) kz (D5 eJ iD (oi:=2) (cs:=[ab,ak,ac,aa,aa,ab,aa,ac,aa,aa,ab,aa,ac,aa,aa]) kz fun ly eK iE iF=>?_)
 refine ⟨fun h=>absurd rfl h,?_⟩
 refine E5 kz ?_ _
 refine A4 (G0 9 kz iE fun lz eL eM iG=>?_)
 let aW:Nat × SV:=(17,.v (.slice (some ⟨ao,0,none⟩) 3 3))
 let cw:Nat × SV:=(21,.v (.slice (some ⟨b,o + 1,none⟩) 16 16))
 refine C7 [0,1,2,3,4,5] [ag,ae,af,aW,cw] 4 (A5 B8) (fun _ h=>h.cells) iG iF fun lA iH=>?_
 have cz:=eM.addNil 5 1
 have eh:=eM.frNil 5 1
 refine C2 (i:=6) kz (I4 cz iH (k:=0) (d:=22) (t:=22) (e:=5) (size:=1) (bytes:=1) (A:=none) (As:=(some ⟨b,o + 1,none⟩)) (m0:=0) (c:=0) (m:=16) (cs:=16) (xs:=[]) (news:=bc ((D.f 1).o)) kz kz rfl (hu5.move cz.step A7 cz.imm).src (hu5.move cz.step A7 cz.imm).cap (by omega) fun bE bF lB lC ei iI iJ=>?_)
 have iK:(⟨bE,bF,5,1,0 + 16,[] ++ bc ((D.f 1).o)⟩:Rw) = B4 bE bF 5 ((D.f 1).o):=by rw [List.nil_append]; unfold B4; rw [g2]
 obtain ⟨eN,ej⟩:=iI.rowEq 0 [B4 bE bF 5 ((D.f 1).o)] iK
 have iL:=EnvOk.pick iJ (ks:=[0,2,3,17,21,22]) (env':=[ag,ae,af,aW,cw,(22,.v (.slice bE (0 + 16) bF))]) kz
 have iM:=iL.cast (env':=[ag,ae,af,aW,cw,(22,.v (.slice bE (((D.f 1).o).length) bF))]) (by rw [g2])
 have ek:=TT.ofW ((eh.trans ei).trans ej) eN
 refine ⟨fun _=>ek,?_⟩
 let am:Value:=.slice bE (((D.f 1).o).length) bF
 let dB:Nat × SV:=(23,.v (.agg #[ab,am,ac,aa,aa]))
 refine C7 [7] [ag,ae,af,aW,dB] 2 (A5 B8) (fun _ h=>h.cells) ek iM fun lD iN=>?_
 refine F6 iN (i:=8) (t:=34) (A:=(some ⟨ao,0,none⟩)) (m:=3) (q:=1) (d:=24) kz (e:=37) (size:=5) (bytes:=88) (j:=1) kz (b:=ao) (o:=0) rfl rfl (by decide) kz kz (A5 B8) ek fun lE iO=>?_
 have iP:=iO.recast 24 (.v (.pointer (some ⟨ao,0 + 1 * 5,none⟩))) (.p 2 5) rfl rfl (Nat.le_of_ble_eq_true (n:=3) rfl)
 have iQ:=iP.pk (env':=[ag,ae,af,aW,dB,(24,.p 2 5)])
 refine C2 (i:=9) kz (D5 eN iQ (oi:=2) (cs:=[ab,ak,ac,aa,aa,ab,am,ac,aa,aa,ab,aa,ac,aa,aa]) kz fun lF eO iR iS=>?_)
 refine ⟨fun h=>absurd rfl h,?_⟩
 refine E5 kz ?_ _
 refine A4 (G0 9 kz iR fun lG eP iT em=>?_)
 let dC:Nat × SV:=(26,.v (.slice (some ⟨ao,0,none⟩) 3 3))
 let cA:Nat × SV:=(31,.v (.bool (((D.f 2).A).isNone)))
 refine C7 [0,1,2,3,4,5,6] [ag,ae,af,dC,cA] 3 (A5 B8) (fun _ h=>h.cells) em iS fun lH iU=>?_
 refine C2 (i:=7) kz (G6 iU (t:=34) (A:=(some ⟨ao,0,none⟩)) (m:=3) (q:=2) (d:=32) kz (e:=37) (size:=5) (bytes:=88) (j:=2) kz (b:=ao) (o:=0) rfl rfl (by decide) fun lI eQ=>?_)
 have eR:=eQ.recast 32 (.v (.pointer (some ⟨ao,0 + 2 * 5,none⟩))) (.p 2 10) rfl rfl (Nat.le_of_ble_eq_true (n:=3) rfl)
 have eS:=eR.pk (env':=[ag,ae,af,dC,cA,(32,.p 2 10)])
 refine ⟨fun _=>em,?_⟩
 refine C7 [8] [ag,ae,af,cA,(33,.p 2 12)] 1 (A5 B8) (fun _ h=>h.cells) em eS fun jS eU=>?_
 let ap:Value:=.bool (((D.f 2).A).isNone)
 refine C2 (i:=9) kz (D5 iT eU (oi:=2) (cs:=[ab,ak,ac,aa,aa,ab,am,ac,aa,aa,ab,aa,ap,aa,aa]) kz fun jT dD cB eV=>?_)
 refine ⟨fun h=>absurd rfl h,?_⟩
 refine E5 kz ?_ _
 refine A4 (wp_seq ?_)
 let ah:Nat × SV:=(38,.v (.int .i64 (((D.f 2).l:Nat):Int)))
 refine B7 [ag,ae,af,ah,(39,.v (.int .i64 0))] cB eV fun jU eW=>?_
 refine wp_block ?_
 have dE:=cB.addNil 37 5
 have dF:=cB.frNil 37 5
 let ar:Ob:=⟨b6,0,[ab,aa,ac,aa,aa],true⟩
 let aF:Ob:=⟨il,0,[ab,aa,ac,ax,aa],true⟩
 refine wp_loop_ghost (fun n_ a_ w_=>∃ (k2_:Nat) (A2_:Option Addr) (c2_:Nat) (xs2_:List Value) (css2_:List (List Value)),n_ = (D.f 2).l - k2_ ∧ k2_ ≤ (D.f 2).l ∧ (Trees w_ (E9 F w w_ [al,ar,⟨ao,0,[ab,ak,ac,aa,aa,ab,am,ac,aa,aa,ab,aa,ap,.slice A2_ k2_ c2_,aa],true⟩,aF] [B4 bE bF 5 ((D.f 1).o),⟨A2_,c2_,37,5,k2_,xs2_⟩]) xs2_ (((List.range (D.f 2).l).map (fun i=>Bq ((D.f 2).f i))).take k2_) css2_) ∧ F9 dE 90 [al,ar,⟨ao,0,[ab,ak,ac,aa,aa,ab,am,ac,aa,aa,ab,aa,ap,.slice A2_ k2_ c2_,aa],true⟩,aF] [B4 bE bF 5 ((D.f 1).o),⟨A2_,c2_,37,5,k2_,xs2_⟩] [ag,ae,af,ah,(39,.v (.int .i64 ((k2_:Nat):Int)))] a_ w_) ((D.f 2).l) ⟨0,none,0,[],[],by omega,by omega,Trees.nil _ _,eW.pk,dE,Fr.refl _ _ _⟩ ?_
 rintro jV jW iV ⟨k2_,A2_,c2_,xs2_,css2_,ji,jj,hT2_,eX,au,aX⟩
 let ai:Nat × SV:=(39,.v (.int .i64 ((k2_:Nat):Int)))
 refine B7 [ag,ae,af,ah,ai,(40,.v (.bool (decide (((k2_:Nat):Int) < (((D.f 2).l:Nat):Int)))))] au eX fun jX cC=>?_
 refine wp_seq (D4 cC (b:=decide (((k2_:Nat):Int) < (((D.f 2).l:Nat):Int))) kz (fun cD=>?_) (fun cD=>?_))
 ·
  have jk:=of_decide_eq_true cD
  refine wp_skip (A4 (wp_seq (wp_block ?_)))
  let cE:Nat × SV:=(4,.v (.int .i64 ((k2_:Nat):Int)))
  refine B7 [ag,ae,af,cE,ah,ai] au cC fun jY eY=>?_
  refine G0 4 kz au fun jZ av eZ jl=>?_
  refine C2 (i:=0) kz (H4 eZ eY (d:=42) (cs:=[ac]) kz fun j0 j1 j2 jm jn aj cG dG=>?_)
  have e9:=TT.ofW aj cG
  refine ⟨fun _=>e9,?_⟩
  refine Bp (i:=1) (j:=2) kz ?_ ?_
  ·
   refine (D5 cG dG (oi:=4) (cs:=[.bool true]) kz fun j3 aQ dH fb=>?_)
   have fe:=TT.ofW (aj.trans aQ) dH
   refine ⟨fun _=>fe,?_⟩
   refine C2 (i:=2) kz (D5 dH fb (oi:=4) (cs:=[ac]) kz fun j4 aY bG ff=>?_)
   have fg:=TT.ofW ((aj.trans aQ).trans aY) bG
   refine ⟨fun _=>fg,?_⟩
   refine C2 (i:=3) kz (L4 [0,2,3,4,38,39,43] bG.cells ff (env':=[ag,ae,af,cE,ah,ai,(43,.v (.bool false))]) kz fun j5 dI=>?_)
   have fh:=TT.ofW ((aj.trans aQ).trans aY) bG
   refine ⟨fun _=>fh,?_⟩
   refine E5 kz ?_ _
   refine A4 (E6 dI (b:=false) kz rfl ?_)
   refine S8 18 kz bG fun j6 cH aG bH=>?_
   let bI:Nat × SV:=(63,.v (.slice (some ⟨ao,0,none⟩) 3 3))
   let dJ:Nat × SV:=(65,.v (.slice (some ⟨ao,0,none⟩) 3 3))
   let bJ:Nat × SV:=(72,.v (.slice ((D.f 2).A) ((D.f 2).l) ((D.f 2).c)))
   let bK:Nat × SV:=(73,.v (.int .i64 ((k2_:Nat):Int)))
   refine C7 [0,1,2,3,7,8,9,10,11] [ag,ae,af,ah,ai,bI,dJ,bJ,bK] 10 (B6 (A5 (A5 (B6 (A5 B8))))) (fun _ h=>h.cells) bH dI fun j7 fi=>?_
   refine F6 fi (i:=4) (t:=34) (A:=(some ⟨ao,0,none⟩)) (m:=3) (q:=2) (d:=66) kz (e:=37) (size:=5) (bytes:=88) (j:=2) kz (b:=ao) (o:=0) rfl rfl (by decide) kz kz (B6 (A5 (A5 (B6 (A5 B8))))) bH fun j8 fj=>?_
   have fk:=fj.recast 66 (.v (.pointer (some ⟨ao,0 + 2 * 5,none⟩))) (.p 2 10) rfl rfl (Nat.le_of_ble_eq_true (n:=3) rfl)
   have fm:=fk.pk (env':=[ag,ae,af,ah,ai,bI,dJ,bJ,bK,(66,.p 2 10)])
   refine C7 [5,6] [ag,ae,af,ah,ai,bI,(68,.v (.slice A2_ k2_ c2_)),bJ,bK] 7 (B6 (A5 (A5 (B6 (A5 B8))))) (fun _ h=>h.cells) bH fm fun j9 fo=>?_
   obtain ⟨fq,fr,ft,jo,eo⟩:=Slots.get g3 (i:=k2_) (by omega)
   refine F6 fo (i:=12) (t:=89) (A:=(D.f 2).A) (m:=((D.f 2).l)) (q:=((k2_:Nat):Int)) (d:=74) kz (e:=119) (size:=24) (bytes:=72) kz ft rfl (by omega) kz kz (B6 (A5 (A5 (B6 (A5 B8))))) bH fun ka fv=>?_
   refine C2 (i:=13) kz (D3 fv (f:=75) (vs:=[.pointer (some ⟨fq,fr + k2_ * 24,none⟩)]) (d:=75) kz Tryz.call75 (GY 0 ((D.f 2).f k2_) _ _ _ _ (eo.move aG.step A7 aG.imm) (BR _ aG.step A7 aG.imm (g3e k2_ (by omega)))) ?_)
   rintro e_ kd ⟨jp,rfl,fw,cI⟩
   have cJ:=fw.move (Step.refl _ C1) A7 (aG.laid (G:=F) cI)
   obtain ⟨ep,eu,cm,ev,ew,ey,ez,eB,eC,eD,eE,jq,jr,cK,iW,iX,ke,kf⟩:=cJ.open_
   rw [cK] at cJ
   have iY:=iW.small
   have iZ:=iX.small
   rw [cK]
   refine ⟨_,rfl,fun kg fx=>?_⟩
   have dK:=aG.next_nil cI
   have aH:=aG.frN cI
   have fy:=TT.ofW aH dK
   refine ⟨fun _=>fy,?_⟩
   let bL:Value:=.int .i64 ep
   let bM:Value:=.slice ey eu.length ez
   let bN:Value:=.slice eB ev.length eC
   let bO:Value:=.slice eD ew.length eE
   refine C2 (i:=14) kz (L3 dK fx (e:=37) (size:=5) (len:=1) (cs:=[bL,bM,.bool cm,bN,bO]) (d:=76) kz kz fun fz kh ki js jt ay bP fA=>?_)
   have fB:=TT.ofW (aH.trans ay) bP
   refine ⟨fun _=>fB,?_⟩
   refine C2 (i:=15) kz (I4 bP fA (k:=1) (d:=77) (t:=34) (e:=37) (size:=5) (bytes:=88) (A:=A2_) (As:=(some ⟨fz,0,none⟩)) (m0:=k2_) (c:=c2_) (m:=1) (cs:=1) (xs:=xs2_) (news:=[bL,bM,.bool cm,bN,bO]) kz kz rfl (L0 (bP.own 2 _ rfl) (N4 kz)) (M1 (bP.own 2 _ rfl)) (by omega) fun cq cr kj km aI cL fC=>?_)
   have fD:=TT.ofW ((aH.trans ay).trans aI) cL
   refine ⟨fun _=>fD,?_⟩
   refine C2 (i:=16) kz (G6 fC (t:=34) (A:=(some ⟨ao,0,none⟩)) (m:=3) (q:=2) (d:=78) kz (e:=37) (size:=5) (bytes:=88) (j:=2) kz (b:=ao) (o:=0) rfl rfl (by decide) fun ko fE=>?_)
   have fF:=fE.recast 78 (.v (.pointer (some ⟨ao,0 + 2 * 5,none⟩))) (.p 2 10) rfl rfl (Nat.le_of_ble_eq_true (n:=3) rfl)
   have fG:=fF.pk (env':=[ag,ae,af,ah,ai,bI,(68,.v (.slice A2_ k2_ c2_)),bJ,bK,(74,.v (.pointer (some ⟨fq,fr + k2_ * 24,none⟩))),(75,.v (.agg #[bL,bM,.bool cm,bN,bO])),(76,.v (.slice (some ⟨fz,0,none⟩) 1 1)),(77,.v (.slice cq (k2_ + 1) cr)),(78,.p 2 10)])
   have dL:=TT.ofW ((aH.trans ay).trans aI) cL
   refine ⟨fun _=>dL,?_⟩
   refine C7 [17] [ag,ae,af,ah,ai,(77,.v (.slice cq (k2_ + 1) cr)),(79,.p 2 13)] 1 (B6 (A5 (A5 (B6 (A5 B8))))) (fun _ h=>h.cells) dL fG fun kp fH=>?_
   refine C2 (i:=18) kz (D5 cL fH (oi:=2) (cs:=[ab,ak,ac,aa,aa,ab,am,ac,aa,aa,ab,aa,ap,.slice cq (k2_ + 1) cr,aa]) kz fun kq aZ dM fI=>?_)
   refine ⟨fun h=>absurd rfl h,?_⟩
   refine E5 kz ?_ _
   refine F2 (A4 (D7 [0,1] kz ?_))
   refine B1 [0,1] [] [ag,ae,af,ah,(39,.v (.int .i64 (IntKind.i64.wrap (((k2_:Nat):Int) + 1))))] dM fI fun ku fJ=>?_
   refine B5 (A4 ?_)
   obtain ⟨dN,fK,ba⟩:=dM.cutB fJ 4 [al,ar,⟨ao,0,[ab,ak,ac,aa,aa,ab,am,ac,aa,aa,ab,aa,ap,.slice cq (k2_ + 1) cr,aa],true⟩,aF] [ag,ae,af,ah,(39,.v (.int .i64 (IntKind.i64.wrap (((k2_:Nat):Int) + 1))))]
   obtain ⟨fL,bd⟩:=fK.cutR 2 [B4 bE bF 5 ((D.f 1).o),⟨cq,cr,37,5,k2_ + 1,xs2_ ++ [bL,bM,.bool cm,bN,bO]⟩]
   have fM:IntKind.i64.wrap (((k2_:Nat):Int) + 1) = ((k2_ + 1:Nat):Int):=G8 (by omega)
   rw [fM] at dN
   exact ⟨(D.f 2).l - (k2_ + 1),by omega,k2_ + 1,cq,cr,xs2_ ++ [Value.int .i64 ep,.slice ey eu.length ez,.bool cm,.slice eB ev.length eC,.slice eD ew.length eE],(css2_ ++ [[Value.int .i64 ep,.slice ey eu.length ez,.bool cm,.slice eB ev.length eC,.slice eD ew.length eE]]),rfl,by omega,by rw [V7 (by omega)]; exact (hT2_.move ((((((((((av.trans aj).trans aQ).trans aY).trans cH).trans aH).trans ay).trans aI).trans aZ).trans ba).trans bd).step immM ((((((((((av.trans aj).trans aQ).trans aY).trans cH).trans aH).trans ay).trans aI).trans aZ).trans ba).trans bd).to').snoc (x:=(fun i=>Bq ((D.f 2).f i)) k2_) (cJ.move ((((ay.trans aI).trans aZ).trans ba).trans bd).step immM ((((ay.trans aI).trans aZ).trans ba).trans bd).to'),dN.pk,fL,(((((((((((aX.trans av).trans aj).trans aQ).trans aY).trans cH).trans aH).trans ay).trans aI).trans aZ).trans ba).trans bd)⟩
  refine (D5 cG dG (oi:=4) (cs:=[ac]) kz fun kv aw dO fN=>?_)
  have fO:=TT.ofW (aj.trans aw) dO
  refine ⟨fun _=>fO,?_⟩
  refine C2 (i:=1) kz (D5 dO fN (oi:=4) (cs:=[.bool true]) kz fun kw az bQ fP=>?_)
  have fQ:=TT.ofW ((aj.trans aw).trans az) bQ
  refine ⟨fun _=>fQ,?_⟩
  refine C2 (i:=3) kz (L4 [0,2,3,4,38,39,43] bQ.cells fP (env':=[ag,ae,af,cE,ah,ai,(43,.v (.bool true))]) kz fun kx dP=>?_)
  have fR:=TT.ofW ((aj.trans aw).trans az) bQ
  refine ⟨fun _=>fR,?_⟩
  refine E5 kz ?_ _
  refine A4 (I7 dP (b:=true) kz rfl ?_)
  refine G0 17 kz bQ fun ky aR aA bR=>?_
  let bf:Nat × SV:=(45,.v (.slice (some ⟨ao,0,none⟩) 3 3))
  let bg:Nat × SV:=(52,.v (.slice ((D.f 2).A) ((D.f 2).l) ((D.f 2).c)))
  let bh:Nat × SV:=(53,.v (.int .i64 ((k2_:Nat):Int)))
  refine C7 [0,1,5,6,7,8,9] [ag,ae,af,ah,ai,bf,bg,bh] 11 (A5 (B6 (A5 (A5 (B6 (A5 B8)))))) (fun _ h=>h.cells) bR dP fun kA fS=>?_
  refine F6 fS (i:=2) (t:=34) (A:=(some ⟨ao,0,none⟩)) (m:=3) (q:=2) (d:=46) kz (e:=37) (size:=5) (bytes:=88) (j:=2) kz (b:=ao) (o:=0) rfl rfl (by decide) kz kz (A5 (B6 (A5 (A5 (B6 (A5 B8)))))) bR fun kB fT=>?_
  have fU:=fT.recast 46 (.v (.pointer (some ⟨ao,0 + 2 * 5,none⟩))) (.p 2 10) rfl rfl (Nat.le_of_ble_eq_true (n:=3) rfl)
  have fV:=fU.pk (env':=[ag,ae,af,ah,ai,bf,bg,bh,(46,.p 2 10)])
  let cM:Nat × SV:=(48,.v (.slice A2_ k2_ c2_))
  let bj:Nat × SV:=(56,.v (.int .i64 ((k2_:Nat):Int)))
  refine C7 [3,4,12] [ag,ae,af,ah,ai,bf,cM,bg,bh,bj] 7 (A5 (B6 (A5 (A5 (B6 (A5 B8)))))) (fun _ h=>h.cells) bR fV fun kC fW=>?_
  obtain ⟨fX,fY,fZ,ju,cN⟩:=Slots.get g3 (i:=k2_) (by omega)
  refine F6 fW (i:=10) (t:=89) (A:=(D.f 2).A) (m:=((D.f 2).l)) (q:=((k2_:Nat):Int)) (d:=54) kz (e:=119) (size:=24) (bytes:=72) kz fZ rfl (by omega) kz kz (A5 (B6 (A5 (A5 (B6 (A5 B8)))))) bR fun kD dQ=>?_
  let dR:Nat × SV:=(54,.v (.pointer (some ⟨fX,fY + k2_ * 24,none⟩)))
  let dS:Value:=.pointer (some ⟨fX,fY + k2_ * 24,none⟩)
  refine Bp (i:=11) (j:=13) kz ?_ ?_
  ·
   refine (D3 dQ (f:=75) (vs:=[dS]) (d:=55) kz Tryz.call75 (GY 0 ((D.f 2).f k2_) _ _ _ _ (cN.move aA.step A7 aA.imm) (BR _ aA.step A7 aA.imm (g3e k2_ (by omega)))) ?_)
   rintro e_ kE ⟨jv,rfl,f5,cO⟩
   have cP:=f5.move (Step.refl _ C1) A7 (aA.laid (G:=F) cO)
   obtain ⟨cQ,cR,bk,cS,cT,cU,cV,cW,cX,cY,cZ,jw,jx,da,i6,i7,kF,kG⟩:=cP.open_
   rw [da] at cP
   have ja:=i6.small
   have jb:=i7.small
   rw [da]
   refine ⟨_,rfl,fun kH f7=>?_⟩
   have dT:=aA.next_nil cO
   have aJ:=aA.frN cO
   have f8:=TT.ofW aJ dT
   refine ⟨fun _=>f8,?_⟩
   refine C2 (i:=13) kz (L3 dT f7 (e:=37) (size:=5) (len:=1) (cs:=[ab,aa,ac,aa,aa]) (d:=57) kz kz fun eF kI kJ jy jz aB bS f9=>?_)
   have ga:=TT.ofW (aJ.trans aB) bS
   refine ⟨fun _=>ga,?_⟩
   refine C2 (i:=14) kz (I4 bS f9 (k:=1) (d:=58) (t:=34) (e:=37) (size:=5) (bytes:=88) (A:=A2_) (As:=(some ⟨eF,0,none⟩)) (m0:=k2_) (c:=c2_) (m:=1) (cs:=1) (xs:=xs2_) (news:=[ab,aa,ac,aa,aa]) kz kz rfl (L0 (bS.own 2 _ rfl) (N4 kz)) (M1 (bS.own 2 _ rfl)) (by omega) fun aD aK kK kL aL db gb=>?_)
   have gc:=TT.ofW ((aJ.trans aB).trans aL) db
   refine ⟨fun _=>gc,?_⟩
   refine C2 (i:=15) kz (G6 gb (t:=34) (A:=(some ⟨ao,0,none⟩)) (m:=3) (q:=2) (d:=59) kz (e:=37) (size:=5) (bytes:=88) (j:=2) kz (b:=ao) (o:=0) rfl rfl (by decide) fun kM gd=>?_)
   have ge:=gd.recast 59 (.v (.pointer (some ⟨ao,0 + 2 * 5,none⟩))) (.p 2 10) rfl rfl (Nat.le_of_ble_eq_true (n:=3) rfl)
   let bT:Value:=.int .i64 cQ
   let bU:Value:=.slice cU cR.length cV
   let bV:Value:=.slice cW cS.length cX
   let bW:Value:=.slice cY cT.length cZ
   let dU:Nat × SV:=(55,.v (.agg #[bT,bU,.bool bk,bV,bW]))
   have gg:=ge.pk (env':=[ag,ae,af,ah,ai,bf,cM,bg,bh,bj,dR,dU,(57,.v (.slice (some ⟨eF,0,none⟩) 1 1)),(58,.v (.slice aD (k2_ + 1) aK)),(59,.p 2 10)])
   have dV:=TT.ofW ((aJ.trans aB).trans aL) db
   refine ⟨fun _=>dV,?_⟩
   refine C7 [16] [ag,ae,af,ah,ai,dU,bj,(58,.v (.slice aD (k2_ + 1) aK)),(60,.p 2 13)] 1 (A5 (B6 (A5 (A5 (B6 (A5 B8)))))) (fun _ h=>h.cells) dV gg fun kN gh=>?_
   refine C2 (i:=17) kz (D5 db gh (oi:=2) (cs:=[ab,ak,ac,aa,aa,ab,am,ac,aa,aa,ab,aa,ap,.slice aD (k2_ + 1) aK,aa]) kz fun jc bn dW gi=>?_)
   refine ⟨fun h=>absurd rfl h,?_⟩
   refine E5 kz ?_ _
   refine A4 (D7 [0,1] kz ?_)
   have gj:World.ownsRow jc 0 37 5 (.slice aD (k2_ + 1) aK) (k2_ + 1) (xs2_ ++ [ab,aa,ac,aa,aa]):=dW.own 1 _ rfl
   obtain ⟨gk,dX⟩:=P8 gj (by omega)
   refine B2 (G6 gi (t:=34) (A:=aD) (m:=(k2_ + 1)) (q:=((k2_:Nat):Int)) (d:=61) kz (e:=37) (size:=5) (bytes:=88) kz (b:=gk) (o:=0) (j:=k2_) dX (rfl) (by omega) fun kO gl=>?_)
   refine B2 (U3 dW gl (k:=1) (g:=gk) (o:=k2_ * 5) (c:=aK) (m:=(k2_ + 1)) (size:=5) (e:=37) (A:=aD) (xs:=(xs2_ ++ [ab,aa,ac,aa,aa])) (vs:=[bT,bU,.bool bk,bV,bW]) kz rfl dX (by simp only [List.length_cons,List.length_nil]; omega) fun kP bo gm gn=>?_)
   have gp:(⟨aD,aK,37,5,k2_ + 1,H8 (xs2_ ++ [.int .i64 0,.slice none 0 0,.bool false,.slice none 0 0,.slice none 0 0]) (k2_ * 5) [.int .i64 cQ,.slice cU cR.length cV,.bool bk,.slice cW cS.length cX,.slice cY cT.length cZ]⟩:Rw) = ⟨aD,aK,37,5,k2_ + 1,xs2_ ++ [.int .i64 cQ,.slice cU cR.length cV,.bool bk,.slice cW cS.length cX,.slice cY cT.length cZ]⟩:=by rw [BX (by rw [hT2_.xslen,List.length_take,R3]; omega)]
   obtain ⟨dY,bp⟩:=gm.rowEq 1 [B4 bE bF 5 ((D.f 1).o),⟨aD,aK,37,5,k2_ + 1,xs2_ ++ [bT,bU,.bool bk,bV,bW]⟩,⟨some ⟨eF,0,none⟩,1,37,5,1,[ab,aa,ac,aa,aa]⟩] gp
   refine B5 (F2 (A4 (D7 [0,1] kz ?_)))
   refine B1 [0,1] [] [ag,ae,af,ah,(39,.v (.int .i64 (IntKind.i64.wrap (((k2_:Nat):Int) + 1))))] dY gn fun kQ gq=>?_
   refine B5 (A4 ?_)
   obtain ⟨dZ,gt,bq⟩:=dY.cutB gq 4 [al,ar,⟨ao,0,[ab,ak,ac,aa,aa,ab,am,ac,aa,aa,ab,aa,ap,.slice aD (k2_ + 1) aK,aa],true⟩,aF] [ag,ae,af,ah,(39,.v (.int .i64 (IntKind.i64.wrap (((k2_:Nat):Int) + 1))))]
   obtain ⟨gv,bt⟩:=gt.cutR 2 [B4 bE bF 5 ((D.f 1).o),⟨aD,aK,37,5,k2_ + 1,xs2_ ++ [bT,bU,.bool bk,bV,bW]⟩]
   have gw:IntKind.i64.wrap (((k2_:Nat):Int) + 1) = ((k2_ + 1:Nat):Int):=G8 (by omega)
   rw [gw] at dZ
   exact ⟨(D.f 2).l - (k2_ + 1),by omega,k2_ + 1,aD,aK,xs2_ ++ [Value.int .i64 cQ,.slice cU cR.length cV,.bool bk,.slice cW cS.length cX,.slice cY cT.length cZ],(css2_ ++ [[Value.int .i64 cQ,.slice cU cR.length cV,.bool bk,.slice cW cS.length cX,.slice cY cT.length cZ]]),rfl,by omega,by rw [V7 (by omega)]; exact (hT2_.move ((((((((((((av.trans aj).trans aw).trans az).trans aR).trans aJ).trans aB).trans aL).trans bn).trans bo).trans bp).trans bq).trans bt).step immM ((((((((((((av.trans aj).trans aw).trans az).trans aR).trans aJ).trans aB).trans aL).trans bn).trans bo).trans bp).trans bq).trans bt).to').snoc (x:=(fun i=>Bq ((D.f 2).f i)) k2_) (cP.move ((((((aB.trans aL).trans bn).trans bo).trans bp).trans bq).trans bt).step immM ((((((aB.trans aL).trans bn).trans bo).trans bp).trans bq).trans bt).to'),dZ.pk,gv,(((((((((((((aX.trans av).trans aj).trans aw).trans az).trans aR).trans aJ).trans aB).trans aL).trans bn).trans bo).trans bp).trans bq).trans bt)⟩
  refine (L3 aA dQ (e:=37) (size:=5) (len:=1) (cs:=[ab,aa,ac,aa,aa]) (d:=57) kz kz fun eG kR kS jA jB aM aC gx=>?_)
  have gy:=TT.ofW aM aC
  refine ⟨fun _=>gy,?_⟩
  refine C2 (i:=11) kz (D3 gx (f:=75) (vs:=[dS]) (d:=55) kz Tryz.call75 (GY 0 ((D.f 2).f k2_) _ _ _ _ (cN.move aC.step A7 aC.imm) (BR _ aC.step A7 aC.imm (g3e k2_ (by omega)))) ?_)
  rintro e_ kT ⟨jC,rfl,gz,dc⟩
  have de:=gz.move (Step.refl _ C1) A7 (aC.laid (G:=F) dc)
  obtain ⟨df,dg,bu,dh,di,dj,dl,dp,dq,dr,dt,jD,jE,du,jd,je,kU,kV⟩:=de.open_
  rw [du] at de
  have jf:=jd.small
  have jg:=je.small
  rw [du]
  refine ⟨_,rfl,fun kW gA=>?_⟩
  have bX:=aC.next_nil dc
  have aS:=aC.frN dc
  have gB:=TT.ofW (aM.trans aS) bX
  refine ⟨fun _=>gB,?_⟩
  refine C2 (i:=14) kz (I4 bX gA (k:=1) (d:=58) (t:=34) (e:=37) (size:=5) (bytes:=88) (A:=A2_) (As:=(some ⟨eG,0,none⟩)) (m0:=k2_) (c:=c2_) (m:=1) (cs:=1) (xs:=xs2_) (news:=[ab,aa,ac,aa,aa]) kz kz rfl (L0 (bX.own 2 _ rfl) (N4 kz)) (M1 (bX.own 2 _ rfl)) (by omega) fun aE aN kX kY aO dv gC=>?_)
  have gD:=TT.ofW ((aM.trans aS).trans aO) dv
  refine ⟨fun _=>gD,?_⟩
  refine C2 (i:=15) kz (G6 gC (t:=34) (A:=(some ⟨ao,0,none⟩)) (m:=3) (q:=2) (d:=59) kz (e:=37) (size:=5) (bytes:=88) (j:=2) kz (b:=ao) (o:=0) rfl rfl (by decide) fun kZ gE=>?_)
  have gF:=gE.recast 59 (.v (.pointer (some ⟨ao,0 + 2 * 5,none⟩))) (.p 2 10) rfl rfl (Nat.le_of_ble_eq_true (n:=3) rfl)
  let bY:Value:=.int .i64 df
  let bZ:Value:=.slice dj dg.length dl
  let b8:Value:=.slice dp dh.length dq
  let cd:Value:=.slice dr di.length dt
  let d4:Nat × SV:=(55,.v (.agg #[bY,bZ,.bool bu,b8,cd]))
  have gG:=gF.pk (env':=[ag,ae,af,ah,ai,bf,cM,bg,bh,bj,dR,(57,.v (.slice (some ⟨eG,0,none⟩) 1 1)),d4,(58,.v (.slice aE (k2_ + 1) aN)),(59,.p 2 10)])
  have d5:=TT.ofW ((aM.trans aS).trans aO) dv
  refine ⟨fun _=>d5,?_⟩
  refine C7 [16] [ag,ae,af,ah,ai,d4,bj,(58,.v (.slice aE (k2_ + 1) aN)),(60,.p 2 13)] 1 (A5 (B6 (A5 (A5 (B6 (A5 B8)))))) (fun _ h=>h.cells) d5 gG fun k5 gH=>?_
  refine C2 (i:=17) kz (D5 dv gH (oi:=2) (cs:=[ab,ak,ac,aa,aa,ab,am,ac,aa,aa,ab,aa,ap,.slice aE (k2_ + 1) aN,aa]) kz fun jh bw d6 gI=>?_)
  refine ⟨fun h=>absurd rfl h,?_⟩
  refine E5 kz ?_ _
  refine A4 (D7 [0,1] kz ?_)
  have gJ:World.ownsRow jh 0 37 5 (.slice aE (k2_ + 1) aN) (k2_ + 1) (xs2_ ++ [ab,aa,ac,aa,aa]):=d6.own 1 _ rfl
  obtain ⟨gK,d7⟩:=P8 gJ (by omega)
  refine B2 (G6 gI (t:=34) (A:=aE) (m:=(k2_ + 1)) (q:=((k2_:Nat):Int)) (d:=61) kz (e:=37) (size:=5) (bytes:=88) kz (b:=gK) (o:=0) (j:=k2_) d7 (rfl) (by omega) fun k6 gL=>?_)
  refine B2 (U3 d6 gL (k:=1) (g:=gK) (o:=k2_ * 5) (c:=aN) (m:=(k2_ + 1)) (size:=5) (e:=37) (A:=aE) (xs:=(xs2_ ++ [ab,aa,ac,aa,aa])) (vs:=[bY,bZ,.bool bu,b8,cd]) kz rfl d7 (by simp only [List.length_cons,List.length_nil]; omega) fun k7 bx gM gN=>?_)
  have gO:(⟨aE,aN,37,5,k2_ + 1,H8 (xs2_ ++ [.int .i64 0,.slice none 0 0,.bool false,.slice none 0 0,.slice none 0 0]) (k2_ * 5) [.int .i64 df,.slice dj dg.length dl,.bool bu,.slice dp dh.length dq,.slice dr di.length dt]⟩:Rw) = ⟨aE,aN,37,5,k2_ + 1,xs2_ ++ [.int .i64 df,.slice dj dg.length dl,.bool bu,.slice dp dh.length dq,.slice dr di.length dt]⟩:=by rw [BX (by rw [hT2_.xslen,List.length_take,R3]; omega)]
  obtain ⟨d8,bz⟩:=gM.rowEq 1 [B4 bE bF 5 ((D.f 1).o),⟨aE,aN,37,5,k2_ + 1,xs2_ ++ [bY,bZ,.bool bu,b8,cd]⟩,⟨some ⟨eG,0,none⟩,1,37,5,1,[ab,aa,ac,aa,aa]⟩] gO
  refine B5 (F2 (A4 (D7 [0,1] kz ?_)))
  refine B1 [0,1] [] [ag,ae,af,ah,(39,.v (.int .i64 (IntKind.i64.wrap (((k2_:Nat):Int) + 1))))] d8 gN fun k8 gP=>?_
  refine B5 (A4 ?_)
  obtain ⟨d9,gQ,bA⟩:=d8.cutB gP 4 [al,ar,⟨ao,0,[ab,ak,ac,aa,aa,ab,am,ac,aa,aa,ab,aa,ap,.slice aE (k2_ + 1) aN,aa],true⟩,aF] [ag,ae,af,ah,(39,.v (.int .i64 (IntKind.i64.wrap (((k2_:Nat):Int) + 1))))]
  obtain ⟨gR,bB⟩:=gQ.cutR 2 [B4 bE bF 5 ((D.f 1).o),⟨aE,aN,37,5,k2_ + 1,xs2_ ++ [bY,bZ,.bool bu,b8,cd]⟩]
  have gS:IntKind.i64.wrap (((k2_:Nat):Int) + 1) = ((k2_ + 1:Nat):Int):=G8 (by omega)
  rw [gS] at d9
  exact ⟨(D.f 2).l - (k2_ + 1),by omega,k2_ + 1,aE,aN,xs2_ ++ [Value.int .i64 df,.slice dj dg.length dl,.bool bu,.slice dp dh.length dq,.slice dr di.length dt],(css2_ ++ [[Value.int .i64 df,.slice dj dg.length dl,.bool bu,.slice dp dh.length dq,.slice dr di.length dt]]),rfl,by omega,by rw [V7 (by omega)]; exact (hT2_.move ((((((((((((av.trans aj).trans aw).trans az).trans aR).trans aM).trans aS).trans aO).trans bw).trans bx).trans bz).trans bA).trans bB).step immM ((((((((((((av.trans aj).trans aw).trans az).trans aR).trans aM).trans aS).trans aO).trans bw).trans bx).trans bz).trans bA).trans bB).to').snoc (x:=(fun i=>Bq ((D.f 2).f i)) k2_) (de.move (((((aO.trans bw).trans bx).trans bz).trans bA).trans bB).step immM (((((aO.trans bw).trans bx).trans bz).trans bA).trans bB).to'),d9.pk,gR,(((((((((((((aX.trans av).trans aj).trans aw).trans az).trans aR).trans aM).trans aS).trans aO).trans bw).trans bx).trans bz).trans bA).trans bB)⟩
 have jF:=of_decide_eq_false cD
 refine wp_exit (E7 (E7 (G9 (A4 (C0 [0,1,2,3,4] kz ?_)))))
 refine B1 [0,1,2] [3,4] [ae,af,(83,.p 0 18)] au cC fun k9 gT=>?_
 let dw:Value:=.pointer (some ⟨il,0,none⟩)
 refine B2 (Cq gT (v:=.func (.func 76) #[] #[dw]) (d:=84) kz fun la gU=>?_)
 let aP:Ob:=⟨ao,0,[ab,ak,ac,aa,aa,ab,am,ac,aa,aa,ab,aa,ap,.slice A2_ k2_ c2_,aa],true⟩
 refine B2 (D3 gU (f:=39) (vs:=[.pointer (some ⟨b,o + 18,none⟩),.func (.func 76) #[] #[dw]]) (d:=85) kz Tryz.call39 (Dy (F:=(E9 F w iV [al,ar,aP,aF] [B4 bE bF 5 ((D.f 1).o),⟨A2_,c2_,37,5,k2_,xs2_⟩])) Tryz.call76 NL ((hat.one 18 rfl).move au.step A7 au.imm) (g4.move au.step A7 au.imm) (Str.of au 3 rfl) (CC 3 rfl) g4l) ?_)
 rintro e_ lb ⟨rfl,gV,gW,eH,gX,gY⟩
 let aT:Value:=.slice gV D.u.length gW
 let bC:Ob:=⟨il,0,[ab,aa,ac,ax,aT],true⟩
 obtain ⟨dx,ce,gZ⟩:=au.wrote 3 [al,ar,aP,bC] rfl gY eH
 have ea:=gX.move (Step.refl _ C1) A7 (fun b_ o_ h_ hb_=>gZ (G:=F) b_ o_ (.inr h_) hb_)
 refine ⟨_,rfl,fun lc hC=>?_⟩
 have hJ:=(EnvOk.places (tb':=[al,ar,aP,bC]) hC (show Pl [al,ar,aP,aF] [al,ar,aP,bC] from ⟨rfl,rfl,⟨rfl,rfl,⟨rfl,rfl,⟨rfl,rfl,trivial⟩⟩⟩⟩)).pk (env':=[(85,.v (.tuple #[])),ae,af,(83,.p 0 18),(84,.v (.func (.func 76) #[] #[dw]))])
 refine B5 (A4 ?_)
 refine C0 [0,1,2] kz ?_
 refine B1 [0,1] [2] [ae,af,(87,.v (.slice gV D.u.length gW))] dx hJ fun ld hK=>?_
 refine B2 (D3 hK (f:=41) (vs:=[aT]) (d:=88) kz Tryz.call41 (DB ea g4.sorted) ?_)
 rintro e_ lf ⟨rfl,eb⟩
 refine ⟨_,rfl,fun lg hZ=>?_⟩
 have ec:=dx.next_nil eb
 have aU:=dx.frN eb
 refine B5 (A4 ?_)
 refine C0 [0,1] kz ?_
 refine B1 [0] [1] [ae,(89,.v (.agg #[ab,aa,ac,ax,aT]))] ec hZ fun lh ia=>?_
 refine B2 (D5 ec ia (oi:=1) (cs:=[ab,aa,ac,ax,aT]) kz fun ib aV bD ic=>?_)
 refine B5 (A4 ?_)
 refine wp_ret (C8 ic bD.cells (v:=.agg #[ab,aa,ac,ax,aT]) kz ?_)
 have ee:=(hT2_.move ((ce.trans aU).trans aV).step immM ((ce.trans aU).trans aV).to')
 rw [Fc (by omega)] at ee
 let ef:Ob:=⟨b6,0,[ab,aa,ac,ax,aT],true⟩
 exact Dz (u:=D.u) (l:=[.mk 0 (sb (D.f 0).s) false [] [],.mk 0 (D.f 1).o false [] [],.mk 0 [] (D.f 2).A.isNone ((List.range (D.f 2).l).map fun i=>Bq ((D.f 2).f i)) []]) (css:=[[ab,ak,ac,aa,aa],[ab,am,ac,aa,aa],[ab,aa,ap,.slice A2_ k2_ c2_,aa]]) bD 2 rfl ⟨(show TreeR _ (E9 F w ib [al,ef,aP,bC] [B4 bE bF 5 ((D.f 1).o),⟨A2_,c2_,37,5,k2_,xs2_⟩]) _ _ from (TreeR.mk (n:=0) (b:=false) (s:=(sb ((D.f 0).s))) (l:=[]) (u:=[]) (fun _=>[]) (iz.move ((((((((((((eK.trans eL).trans eh).trans ei).trans ej).trans eO).trans eP).trans dD).trans dF).trans aX).trans ce).trans aU).trans aV).step immM ((((((((((((eK.trans eL).trans eh).trans ei).trans ej).trans eO).trans eP).trans dD).trans dF).trans aX).trans ce).trans aU).trans aV).to') (Slots.nil _ _ _ _) (fun i_ x_ h_=>by simp at h_) (TagsR.nil _ _))).move (Step.refl _ C1) A7 I8,TreeR.mk (n:=0) (b:=false) (l:=[]) (u:=[]) (fun _=>[]) (R7 (bD.own 0 _ rfl) (by rw [g2]; decide) (Cu (F:=F) bD (k:=0) rfl)) (Slots.nil _ _ 5 _) (fun _ _ h_=>by simp at h_) (TagsR.nil _ _),Fb bD (k:=1) rfl ee (by rw [R3]; omega) (by rw [R3]; omega),trivial⟩ ((show TagsR _ (E9 F w ib [al,ef,aP,bC] [B4 bE bF 5 ((D.f 1).o),⟨A2_,c2_,37,5,k2_,xs2_⟩]) _ _ _ from (ea.move (aU.trans aV).step immM (aU.trans aV).to')).move (Step.refl _ C1) A7 I8)
set_option maxHeartbeats 4000000 in
theorem Ha (v:Int) (D:DV) (b o:Nat) (w:World) (F:Nat → Nat → Prop) (hat:AtF w F b o [.string ((D.f 0).s),B0 ((D.f 1).o.getD 0 0),B0 ((D.f 1).o.getD 1 0),B0 ((D.f 1).o.getD 2 0),B0 ((D.f 1).o.getD 3 0),B0 ((D.f 1).o.getD 4 0),B0 ((D.f 1).o.getD 5 0),B0 ((D.f 1).o.getD 6 0),B0 ((D.f 1).o.getD 7 0),B0 ((D.f 1).o.getD 8 0),B0 ((D.f 1).o.getD 9 0),B0 ((D.f 1).o.getD 10 0),B0 ((D.f 1).o.getD 11 0),B0 ((D.f 1).o.getD 12 0),B0 ((D.f 1).o.getD 13 0),B0 ((D.f 1).o.getD 14 0),B0 ((D.f 1).o.getD 15 0),.slice ((D.f 2).A) ((D.f 2).l) ((D.f 2).c),.map D.m]) (hok:Y5 w F D):Calls Tryz.prog 38 #[.pointer (some ⟨b,o,none⟩)] w (T0 w F (Bt D)):=by
 refine enter (n:=94) Tryz.func38 rfl Tryz.ntmps38 kz fun a hE=>?_
 let bS:Value:=.slice ((D.f 2).A) ((D.f 2).l) ((D.f 2).c)
 let ak:Ob:=⟨b,o,(z1 D bS),false⟩
 have hW:WOk w C1 w [ak] []:=(WOk.start w C1).start1 hat rfl rfl
 unfold Y5 at hok
 obtain ⟨g1,g2,⟨g3,g3l,g3e⟩,g4,g4l,g4x,_⟩:=hok
 let ag:Nat × SV:=(0,.p 0 0)
 have hE0:=(EnvOk.ptr0 (cs:=(z1 D bS)) (r:=false) hE).pk (env':=[ag])
 have hu5:=GS (k:=1) (s:=(D.f 1).o) hat g2 (fun j hj=>by match j,hj with | 0,_=>rfl | 1,_=>rfl | 2,_=>rfl | 3,_=>rfl | 4,_=>rfl | 5,_=>rfl | 6,_=>rfl | 7,_=>rfl | 8,_=>rfl | 9,_=>rfl | 10,_=>rfl | 11,_=>rfl | 12,_=>rfl | 13,_=>rfl | 14,_=>rfl | 15,_=>rfl | n_ + 16,h_=>exact absurd h_ (by omega))
 refine C0 [0] kz ?_
 let ac:Value:=.int .i64 0
 let aa:Value:=.slice none 0 0
 let ab:Value:=.bool false
 refine B2 (H4 hW hE0 (d:=2) (cs:=[ac,aa,ab,aa,aa]) kz fun b6 a7 w8 hb9 ge gg eW eX=>?_)
 refine B5 (A4 ?_)
 refine C0 [0,1,2,3] kz ?_
 refine B2 (Dv (t:=34) (e:=37) (size:=5) (bytes:=88) (d:=5) (j:=3) (.agg #[ac,aa,ab,aa,aa]) [ac,aa,ab,aa,aa,ac,aa,ab,aa,aa,ac,aa,ab,aa,aa] eW eX fun ap iC iD gh gi gj cW eY=>?_)
 let ae:Nat × SV:=(2,.p 1 0)
 let aw:Value:=.slice (some ⟨ap,0,none⟩) 3 3
 refine B1 [1] [2,3] [ag,ae,(6,.v (.agg #[ac,aa,ab,aw,aa]))] cW eY fun iE eZ=>?_
 refine B2 (H4 cW eZ (d:=3) (cs:=[ac,aa,ab,aa,aa]) kz fun e9 iF iG gk gl gm fb fe=>?_)
 refine B2 (D5 fb fe (oi:=3) (cs:=[ac,aa,ab,aw,aa]) kz fun iH gn ff fg=>?_)
 refine B5 (A4 ?_)
 refine G0 9 kz ff fun iI gp fh fi=>?_
 let af:Nat × SV:=(3,.p 3 0)
 let bj:Nat × SV:=(8,.v (.slice (some ⟨ap,0,none⟩) 3 3))
 refine C7 [0,1,2,3,4,5] [ag,ae,af,bj,(12,.v (.string ((D.f 0).s)))] 4 (A5 B8) (fun _ h=>h.cells) fi fg fun iJ fj=>?_
 refine C2 (i:=6) kz (Fa (d:=13) (src:=9) (dst:=22) (e:=5) (s:=((D.f 0).s)) fh fj (by omega) fun gq gt iK iL fk cX fm fo=>?_)
 have fq:=fm F
 have cM:=TT.ofW fk cX
 refine ⟨fun _=>cM,?_⟩
 let al:Value:=.slice (some ⟨gq,0,none⟩) ((sb ((D.f 0).s)).length) gt
 let bT:Nat × SV:=(14,.v (.agg #[ac,al,ab,aa,aa]))
 refine C7 [7] [ag,ae,af,bj,bT] 2 (A5 B8) (fun _ h=>h.cells) cM fo fun iM fr=>?_
 refine F6 fr (i:=8) (t:=34) (A:=(some ⟨ap,0,none⟩)) (m:=3) (q:=0) (d:=15) kz (e:=37) (size:=5) (bytes:=88) (j:=0) kz (b:=ap) (o:=0) rfl rfl (by decide) kz kz (A5 B8) cM fun iN ft=>?_
 have fv:=ft.recast 15 (.v (.pointer (some ⟨ap,0 + 0 * 5,none⟩))) (.p 2 0) rfl rfl (Nat.le_of_ble_eq_true (n:=3) rfl)
 have fw:=fv.pk (env':=[ag,ae,af,bj,bT,(15,.p 2 0)])
 refine C2 (i:=9) kz (D5 cX fw (oi:=2) (cs:=[ac,al,ab,aa,aa,ac,aa,ab,aa,aa,ac,aa,ab,aa,aa]) kz fun iO cY fx fy=>?_)
 refine ⟨fun h=>absurd rfl h,?_⟩
 refine E5 kz ?_ _
 refine A4 (G0 9 kz fx fun iP cZ da fz=>?_)
 let aL:Nat × SV:=(17,.v (.slice (some ⟨ap,0,none⟩) 3 3))
 let bk:Nat × SV:=(21,.v (.slice (some ⟨b,o + 1,none⟩) 16 16))
 refine C7 [0,1,2,3,4,5] [ag,ae,af,aL,bk] 4 (A5 B8) (fun _ h=>h.cells) fz fy fun iQ fA=>?_
 have bn:=da.addNil 5 1
 have cN:=da.frNil 5 1
 refine C2 (i:=6) kz (I4 bn fA (k:=0) (d:=22) (t:=22) (e:=5) (size:=1) (bytes:=1) (A:=none) (As:=(some ⟨b,o + 1,none⟩)) (m0:=0) (c:=0) (m:=16) (cs:=16) (xs:=[]) (news:=bc ((D.f 1).o)) kz kz rfl (hu5.move bn.step A7 bn.imm).src (hu5.move bn.step A7 bn.imm).cap (by omega) fun aU aV iR iS cO fB fC=>?_)
 have fD:(⟨aU,aV,5,1,0 + 16,[] ++ bc ((D.f 1).o)⟩:Rw) = B4 aU aV 5 ((D.f 1).o):=by rw [List.nil_append]; unfold B4; rw [g2]
 obtain ⟨db,cP⟩:=fB.rowEq 0 [B4 aU aV 5 ((D.f 1).o)] fD
 have fE:=EnvOk.pick fC (ks:=[0,2,3,17,21,22]) (env':=[ag,ae,af,aL,bk,(22,.v (.slice aU (0 + 16) aV))]) kz
 have fF:=fE.cast (env':=[ag,ae,af,aL,bk,(22,.v (.slice aU (((D.f 1).o).length) aV))]) (by rw [g2])
 have cQ:=TT.ofW ((cN.trans cO).trans cP) db
 refine ⟨fun _=>cQ,?_⟩
 let am:Value:=.slice aU (((D.f 1).o).length) aV
 let bU:Nat × SV:=(23,.v (.agg #[ac,am,ab,aa,aa]))
 refine C7 [7] [ag,ae,af,aL,bU] 2 (A5 B8) (fun _ h=>h.cells) cQ fF fun iT fG=>?_
 refine F6 fG (i:=8) (t:=34) (A:=(some ⟨ap,0,none⟩)) (m:=3) (q:=1) (d:=24) kz (e:=37) (size:=5) (bytes:=88) (j:=1) kz (b:=ap) (o:=0) rfl rfl (by decide) kz kz (A5 B8) cQ fun iU fH=>?_
 have fI:=fH.recast 24 (.v (.pointer (some ⟨ap,0 + 1 * 5,none⟩))) (.p 2 5) rfl rfl (Nat.le_of_ble_eq_true (n:=3) rfl)
 have fJ:=fI.pk (env':=[ag,ae,af,aL,bU,(24,.p 2 5)])
 refine C2 (i:=9) kz (D5 db fJ (oi:=2) (cs:=[ac,al,ab,aa,aa,ac,am,ab,aa,aa,ac,aa,ab,aa,aa]) kz fun iV dc fK fL=>?_)
 refine ⟨fun h=>absurd rfl h,?_⟩
 refine E5 kz ?_ _
 refine A4 (G0 9 kz fK fun iW de fM cR=>?_)
 let bV:Nat × SV:=(26,.v (.slice (some ⟨ap,0,none⟩) 3 3))
 let bo:Nat × SV:=(31,.v (.bool (((D.f 2).A).isNone)))
 refine C7 [0,1,2,3,4,5,6] [ag,ae,af,bV,bo] 3 (A5 B8) (fun _ h=>h.cells) cR fL fun iX fN=>?_
 refine C2 (i:=7) kz (G6 fN (t:=34) (A:=(some ⟨ap,0,none⟩)) (m:=3) (q:=2) (d:=32) kz (e:=37) (size:=5) (bytes:=88) (j:=2) kz (b:=ap) (o:=0) rfl rfl (by decide) fun iY df=>?_)
 have dg:=df.recast 32 (.v (.pointer (some ⟨ap,0 + 2 * 5,none⟩))) (.p 2 10) rfl rfl (Nat.le_of_ble_eq_true (n:=3) rfl)
 have dh:=dg.pk (env':=[ag,ae,af,bV,bo,(32,.p 2 10)])
 refine ⟨fun _=>cR,?_⟩
 refine C7 [8] [ag,ae,af,bo,(33,.p 2 12)] 1 (A5 B8) (fun _ h=>h.cells) cR dh fun gv di=>?_
 let au:Value:=.bool (((D.f 2).A).isNone)
 refine C2 (i:=9) kz (D5 fM di (oi:=2) (cs:=[ac,al,ab,aa,aa,ac,am,ab,aa,aa,ac,aa,au,aa,aa]) kz fun gw bW bp dj=>?_)
 refine ⟨fun h=>absurd rfl h,?_⟩
 refine E5 kz ?_ _
 refine A4 (wp_seq ?_)
 let ah:Nat × SV:=(38,.v (.int .i64 (((D.f 2).l:Nat):Int)))
 refine B7 [ag,ae,af,ah,(39,.v (.int .i64 0))] bp dj fun gx dl=>?_
 refine wp_block ?_
 have bX:=bp.addNil 37 5
 have bY:=bp.frNil 37 5
 let av:Ob:=⟨b6,0,[ac,aa,ab,aa,aa],true⟩
 let aA:Ob:=⟨e9,0,[ac,aa,ab,aw,aa],true⟩
 refine wp_loop_ghost (fun n_ a_ w_=>∃ (k2_:Nat) (A2_:Option Addr) (c2_:Nat) (xs2_:List Value) (css2_:List (List Value)),n_ = (D.f 2).l - k2_ ∧ k2_ ≤ (D.f 2).l ∧ (Trees w_ (E9 F w w_ [ak,av,⟨ap,0,[ac,al,ab,aa,aa,ac,am,ab,aa,aa,ac,aa,au,.slice A2_ k2_ c2_,aa],true⟩,aA] [B4 aU aV 5 ((D.f 1).o),⟨A2_,c2_,37,5,k2_,xs2_⟩]) xs2_ (((List.range (D.f 2).l).map (fun i=>Tree.mk (IntKind.i64.wrap ((D.f 2).f i).n) [] false [] [])).take k2_) css2_) ∧ F9 bX 94 [ak,av,⟨ap,0,[ac,al,ab,aa,aa,ac,am,ab,aa,aa,ac,aa,au,.slice A2_ k2_ c2_,aa],true⟩,aA] [B4 aU aV 5 ((D.f 1).o),⟨A2_,c2_,37,5,k2_,xs2_⟩] [ag,ae,af,ah,(39,.v (.int .i64 ((k2_:Nat):Int)))] a_ w_) ((D.f 2).l) ⟨0,none,0,[],[],by omega,by omega,Trees.nil _ _,dl.pk,bX,Fr.refl _ _ _⟩ ?_
 rintro gy gz fO ⟨k2_,A2_,c2_,xs2_,css2_,fU,fV,hT2_,dp,ar,aW⟩
 let ai:Nat × SV:=(39,.v (.int .i64 ((k2_:Nat):Int)))
 refine B7 [ag,ae,af,ah,ai,(40,.v (.bool (decide (((k2_:Nat):Int) < (((D.f 2).l:Nat):Int)))))] ar dp fun gA bq=>?_
 refine wp_seq (D4 bq (b:=decide (((k2_:Nat):Int) < (((D.f 2).l:Nat):Int))) kz (fun bt=>?_) (fun bt=>?_))
 ·
  have fW:=of_decide_eq_true bt
  refine wp_skip (A4 (wp_seq (wp_block ?_)))
  let bu:Nat × SV:=(4,.v (.int .i64 ((k2_:Nat):Int)))
  refine B7 [ag,ae,af,bu,ah,ai] ar bq fun gB dq=>?_
  refine G0 4 kz ar fun gC aB dr fX=>?_
  refine C2 (i:=0) kz (H4 dr dq (d:=42) (cs:=[ab]) kz fun gD gE gF fY fZ aj bw bZ=>?_)
  have dt:=TT.ofW aj bw
  refine ⟨fun _=>dt,?_⟩
  let ao:Value:=.int .i64 (IntKind.i64.wrap (((D.f 2).f k2_).n))
  let f5:Value:=(.agg #[.int .i64 (IntKind.i64.wrap (((D.f 2).f k2_).n)),.slice none 0 0,.bool false,.slice none 0 0,.slice none 0 0])
  refine Bp (i:=1) (j:=2) kz ?_ ?_
  ·
   refine (D5 bw bZ (oi:=4) (cs:=[.bool true]) kz fun gG aC b8 du=>?_)
   have dv:=TT.ofW (aj.trans aC) b8
   refine ⟨fun _=>dv,?_⟩
   refine C2 (i:=2) kz (D5 b8 du (oi:=4) (cs:=[ab]) kz fun gH aM aX dw=>?_)
   have dx:=TT.ofW ((aj.trans aC).trans aM) aX
   refine ⟨fun _=>dx,?_⟩
   refine C2 (i:=3) kz (L4 [0,2,3,4,38,39,43] aX.cells dw (env':=[ag,ae,af,bu,ah,ai,(43,.v (.bool false))]) kz fun gI cd=>?_)
   have dy:=TT.ofW ((aj.trans aC).trans aM) aX
   refine ⟨fun _=>dy,?_⟩
   refine E5 kz ?_ _
   refine A4 (E6 cd (b:=false) kz rfl ?_)
   refine S8 20 kz aX fun gJ bx ce aD=>?_
   let aN:Nat × SV:=(65,.v (.slice (some ⟨ap,0,none⟩) 3 3))
   let cm:Nat × SV:=(67,.v (.slice (some ⟨ap,0,none⟩) 3 3))
   let bz:Nat × SV:=(74,.v (.slice ((D.f 2).A) ((D.f 2).l) ((D.f 2).c)))
   let bA:Nat × SV:=(75,.v (.int .i64 ((k2_:Nat):Int)))
   refine C7 [0,1,2,3,7,8,9,10,11] [ag,ae,af,ah,ai,aN,cm,bz,bA] 12 (B6 (A5 (A5 (B6 (A5 B8))))) (fun _ h=>h.cells) aD cd fun gK dA=>?_
   refine F6 dA (i:=4) (t:=34) (A:=(some ⟨ap,0,none⟩)) (m:=3) (q:=2) (d:=68) kz (e:=37) (size:=5) (bytes:=88) (j:=2) kz (b:=ap) (o:=0) rfl rfl (by decide) kz kz (B6 (A5 (A5 (B6 (A5 B8))))) aD fun gL dB=>?_
   have dC:=dB.recast 68 (.v (.pointer (some ⟨ap,0 + 2 * 5,none⟩))) (.p 2 10) rfl rfl (Nat.le_of_ble_eq_true (n:=3) rfl)
   have dD:=dC.pk (env':=[ag,ae,af,ah,ai,aN,cm,bz,bA,(68,.p 2 10)])
   let bB:Nat × SV:=(70,.v (.slice A2_ k2_ c2_))
   refine C7 [5,6] [ag,ae,af,ah,ai,aN,bB,bz,bA] 9 (B6 (A5 (A5 (B6 (A5 B8))))) (fun _ h=>h.cells) aD dD fun gM dE=>?_
   obtain ⟨fP,fQ,dF,f7,cS⟩:=Slots.get g3 (i:=k2_) (by omega)
   refine F6 dE (i:=12) (t:=94) (A:=(D.f 2).A) (m:=((D.f 2).l)) (q:=((k2_:Nat):Int)) (d:=76) kz (e:=21) (size:=1) (bytes:=4) kz dF rfl (by omega) kz kz (B6 (A5 (A5 (B6 (A5 B8))))) aD fun gN dG=>?_
   refine J4 dG (i:=13) (t:=21) (b:=fP) (o:=fQ + k2_ * 1) (d:=77) kz (cs:=[.int .i32 (((D.f 2).f k2_).n)]) (v:=.int .i32 (((D.f 2).f k2_).n)) kz (fun w' h'=>(AtF.move cS (TT.step0 ce h') A7 E8).at_) kz kz (B6 (A5 (A5 (B6 (A5 B8))))) aD fun gO dH=>?_
   refine C7 [14,15] [ag,ae,af,ah,ai,aN,bB,(79,.v (.agg #[ao,aa,ab,aa,aa]))] 5 (B6 (A5 (A5 (B6 (A5 B8))))) (fun _ h=>h.cells) aD dH fun gP dI=>?_
   refine C2 (i:=16) kz (L3 ce dI (e:=37) (size:=5) (len:=1) (cs:=[ao,aa,ab,aa,aa]) (d:=80) kz kz fun dJ gQ gR f8 f9 aE aY dK=>?_)
   have dL:=TT.ofW aE aY
   refine ⟨fun _=>dL,?_⟩
   refine C2 (i:=17) kz (I4 aY dK (k:=1) (d:=81) (t:=34) (e:=37) (size:=5) (bytes:=88) (A:=A2_) (As:=(some ⟨dJ,0,none⟩)) (m0:=k2_) (c:=c2_) (m:=1) (cs:=1) (xs:=xs2_) (news:=[ao,aa,ab,aa,aa]) kz kz rfl (L0 (aY.own 2 _ rfl) (N4 kz)) (M1 (aY.own 2 _ rfl)) (by omega) fun bg bh gS gT aO bC dM=>?_)
   have dN:=TT.ofW (aE.trans aO) bC
   refine ⟨fun _=>dN,?_⟩
   refine C2 (i:=18) kz (G6 dM (t:=34) (A:=(some ⟨ap,0,none⟩)) (m:=3) (q:=2) (d:=82) kz (e:=37) (size:=5) (bytes:=88) (j:=2) kz (b:=ap) (o:=0) rfl rfl (by decide) fun gU dO=>?_)
   have dP:=dO.recast 82 (.v (.pointer (some ⟨ap,0 + 2 * 5,none⟩))) (.p 2 10) rfl rfl (Nat.le_of_ble_eq_true (n:=3) rfl)
   have dQ:=dP.pk (env':=[ag,ae,af,ah,ai,aN,bB,(79,.v (.agg #[ao,aa,ab,aa,aa])),(80,.v (.slice (some ⟨dJ,0,none⟩) 1 1)),(81,.v (.slice bg (k2_ + 1) bh)),(82,.p 2 10)])
   have cq:=TT.ofW (aE.trans aO) bC
   refine ⟨fun _=>cq,?_⟩
   refine C7 [19] [ag,ae,af,ah,ai,(81,.v (.slice bg (k2_ + 1) bh)),(83,.p 2 13)] 1 (B6 (A5 (A5 (B6 (A5 B8))))) (fun _ h=>h.cells) cq dQ fun gV dR=>?_
   refine C2 (i:=20) kz (D5 bC dR (oi:=2) (cs:=[ac,al,ab,aa,aa,ac,am,ab,aa,aa,ac,aa,au,.slice bg (k2_ + 1) bh,aa]) kz fun gW bD cr dS=>?_)
   refine ⟨fun h=>absurd rfl h,?_⟩
   refine E5 kz ?_ _
   refine F2 (A4 (D7 [0,1] kz ?_))
   refine B1 [0,1] [] [ag,ae,af,ah,(39,.v (.int .i64 (IntKind.i64.wrap (((k2_:Nat):Int) + 1))))] cr dS fun gX dT=>?_
   refine B5 (A4 ?_)
   obtain ⟨cu,dU,bE⟩:=cr.cutB dT 4 [ak,av,⟨ap,0,[ac,al,ab,aa,aa,ac,am,ab,aa,aa,ac,aa,au,.slice bg (k2_ + 1) bh,aa],true⟩,aA] [ag,ae,af,ah,(39,.v (.int .i64 (IntKind.i64.wrap (((k2_:Nat):Int) + 1))))]
   obtain ⟨dV,bF⟩:=dU.cutR 2 [B4 aU aV 5 ((D.f 1).o),⟨bg,bh,37,5,k2_ + 1,xs2_ ++ [ao,aa,ab,aa,aa]⟩]
   have dW:IntKind.i64.wrap (((k2_:Nat):Int) + 1) = ((k2_ + 1:Nat):Int):=G8 (by omega)
   rw [dW] at cu
   exact ⟨(D.f 2).l - (k2_ + 1),by omega,k2_ + 1,bg,bh,xs2_ ++ [Value.int .i64 (IntKind.i64.wrap (((D.f 2).f k2_).n)),.slice none 0 0,.bool false,.slice none 0 0,.slice none 0 0],(css2_ ++ [[Value.int .i64 (IntKind.i64.wrap (((D.f 2).f k2_).n)),.slice none 0 0,.bool false,.slice none 0 0,.slice none 0 0]]),rfl,by omega,by rw [V7 (by omega)]; exact (hT2_.move (((((((((aB.trans aj).trans aC).trans aM).trans bx).trans aE).trans aO).trans bD).trans bE).trans bF).step immM (((((((((aB.trans aj).trans aC).trans aM).trans bx).trans aE).trans aO).trans bD).trans bE).trans bF).to').snoc (x:=(fun i=>Tree.mk (IntKind.i64.wrap ((D.f 2).f i).n) [] false [] []) k2_) (TreeR.mk (n:=IntKind.i64.wrap (((D.f 2).f k2_).n)) (b:=false) (s:=[]) (l:=[]) (u:=[]) (fun _=>[]) (Octs.nil _ _) (Slots.nil _ _ _ _) (fun i_ x_ h_=>by simp at h_) (TagsR.nil _ _)),cu.pk,dV,((((((((((aW.trans aB).trans aj).trans aC).trans aM).trans bx).trans aE).trans aO).trans bD).trans bE).trans bF)⟩
  refine (D5 bw bZ (oi:=4) (cs:=[ab]) kz fun gY aF cw dX=>?_)
  have dY:=TT.ofW (aj.trans aF) cw
  refine ⟨fun _=>dY,?_⟩
  refine C2 (i:=1) kz (D5 cw dX (oi:=4) (cs:=[.bool true]) kz fun gZ aP aZ dZ=>?_)
  have d4:=TT.ofW ((aj.trans aF).trans aP) aZ
  refine ⟨fun _=>d4,?_⟩
  refine C2 (i:=3) kz (L4 [0,2,3,4,38,39,43] aZ.cells dZ (env':=[ag,ae,af,bu,ah,ai,(43,.v (.bool true))]) kz fun hC cz=>?_)
  have d5:=TT.ofW ((aj.trans aF).trans aP) aZ
  refine ⟨fun _=>d5,?_⟩
  refine E5 kz ?_ _
  refine A4 (I7 cz (b:=true) kz rfl ?_)
  refine G0 19 kz aZ fun hJ bG cA aG=>?_
  let aQ:Nat × SV:=(45,.v (.slice (some ⟨ap,0,none⟩) 3 3))
  let bH:Nat × SV:=(52,.v (.slice ((D.f 2).A) ((D.f 2).l) ((D.f 2).c)))
  let bI:Nat × SV:=(53,.v (.int .i64 ((k2_:Nat):Int)))
  refine C7 [0,1,5,6,7,8,9] [ag,ae,af,ah,ai,aQ,bH,bI] 13 (A5 (B6 (A5 (A5 (B6 (A5 B8)))))) (fun _ h=>h.cells) aG cz fun hK d6=>?_
  refine F6 d6 (i:=2) (t:=34) (A:=(some ⟨ap,0,none⟩)) (m:=3) (q:=2) (d:=46) kz (e:=37) (size:=5) (bytes:=88) (j:=2) kz (b:=ap) (o:=0) rfl rfl (by decide) kz kz (A5 (B6 (A5 (A5 (B6 (A5 B8)))))) aG fun hZ d7=>?_
  have d8:=d7.recast 46 (.v (.pointer (some ⟨ap,0 + 2 * 5,none⟩))) (.p 2 10) rfl rfl (Nat.le_of_ble_eq_true (n:=3) rfl)
  have d9:=d8.pk (env':=[ag,ae,af,ah,ai,aQ,bH,bI,(46,.p 2 10)])
  let bJ:Nat × SV:=(48,.v (.slice A2_ k2_ c2_))
  let ba:Nat × SV:=(58,.v (.int .i64 ((k2_:Nat):Int)))
  refine C7 [3,4,14] [ag,ae,af,ah,ai,aQ,bJ,bH,bI,ba] 9 (A5 (B6 (A5 (A5 (B6 (A5 B8)))))) (fun _ h=>h.cells) aG d9 fun ia ea=>?_
  obtain ⟨fR,fS,eb,ga,cT⟩:=Slots.get g3 (i:=k2_) (by omega)
  refine F6 ea (i:=10) (t:=94) (A:=(D.f 2).A) (m:=((D.f 2).l)) (q:=((k2_:Nat):Int)) (d:=54) kz (e:=21) (size:=1) (bytes:=4) kz eb rfl (by omega) kz kz (A5 (B6 (A5 (A5 (B6 (A5 B8)))))) aG fun ib ec=>?_
  refine J4 ec (i:=11) (t:=21) (b:=fR) (o:=fS + k2_ * 1) (d:=55) kz (cs:=[.int .i32 (((D.f 2).f k2_).n)]) (v:=.int .i32 (((D.f 2).f k2_).n)) kz (fun w' h'=>(AtF.move cT (TT.step0 cA h') A7 E8).at_) kz kz (A5 (B6 (A5 (A5 (B6 (A5 B8)))))) aG fun ic ee=>?_
  refine C7 [12,13] [ag,ae,af,ah,ai,aQ,bJ,(57,.v (.agg #[ao,aa,ab,aa,aa])),ba] 5 (A5 (B6 (A5 (A5 (B6 (A5 B8)))))) (fun _ h=>h.cells) aG ee fun ig ef=>?_
  refine C2 (i:=15) kz (L3 cA ef (e:=37) (size:=5) (len:=1) (cs:=[ac,aa,ab,aa,aa]) (d:=59) kz kz fun cU ii ij gb gc aH bd eg=>?_)
  have eh:=TT.ofW aH bd
  refine ⟨fun _=>eh,?_⟩
  refine C2 (i:=16) kz (I4 bd eg (k:=1) (d:=60) (t:=34) (e:=37) (size:=5) (bytes:=88) (A:=A2_) (As:=(some ⟨cU,0,none⟩)) (m0:=k2_) (c:=c2_) (m:=1) (cs:=1) (xs:=xs2_) (news:=[ac,aa,ab,aa,aa]) kz kz rfl (L0 (bd.own 2 _ rfl) (N4 kz)) (M1 (bd.own 2 _ rfl)) (by omega) fun ax ay ik il aR bK ei=>?_)
  have ej:=TT.ofW (aH.trans aR) bK
  refine ⟨fun _=>ej,?_⟩
  refine C2 (i:=17) kz (G6 ei (t:=34) (A:=(some ⟨ap,0,none⟩)) (m:=3) (q:=2) (d:=61) kz (e:=37) (size:=5) (bytes:=88) (j:=2) kz (b:=ap) (o:=0) rfl rfl (by decide) fun im ek=>?_)
  have em:=ek.recast 61 (.v (.pointer (some ⟨ap,0 + 2 * 5,none⟩))) (.p 2 10) rfl rfl (Nat.le_of_ble_eq_true (n:=3) rfl)
  have eo:=em.pk (env':=[ag,ae,af,ah,ai,aQ,bJ,(57,.v (.agg #[ao,aa,ab,aa,aa])),ba,(59,.v (.slice (some ⟨cU,0,none⟩) 1 1)),(60,.v (.slice ax (k2_ + 1) ay)),(61,.p 2 10)])
  have cB:=TT.ofW (aH.trans aR) bK
  refine ⟨fun _=>cB,?_⟩
  refine C7 [18] [ag,ae,af,ah,ai,(57,.v (.agg #[ao,aa,ab,aa,aa])),ba,(60,.v (.slice ax (k2_ + 1) ay)),(62,.p 2 13)] 1 (A5 (B6 (A5 (A5 (B6 (A5 B8)))))) (fun _ h=>h.cells) cB eo fun io ep=>?_
  refine C2 (i:=19) kz (D5 bK ep (oi:=2) (cs:=[ac,al,ab,aa,aa,ac,am,ab,aa,aa,ac,aa,au,.slice ax (k2_ + 1) ay,aa]) kz fun fT bL cC eu=>?_)
  refine ⟨fun h=>absurd rfl h,?_⟩
  refine E5 kz ?_ _
  refine A4 (D7 [0,1] kz ?_)
  have ev:World.ownsRow fT 0 37 5 (.slice ax (k2_ + 1) ay) (k2_ + 1) (xs2_ ++ [ac,aa,ab,aa,aa]):=cC.own 1 _ rfl
  obtain ⟨ew,cD⟩:=P8 ev (by omega)
  refine B2 (G6 eu (t:=34) (A:=ax) (m:=(k2_ + 1)) (q:=((k2_:Nat):Int)) (d:=63) kz (e:=37) (size:=5) (bytes:=88) kz (b:=ew) (o:=0) (j:=k2_) cD (rfl) (by omega) fun ip ey=>?_)
  refine B2 (U3 cC ey (k:=1) (g:=ew) (o:=k2_ * 5) (c:=ay) (m:=(k2_ + 1)) (size:=5) (e:=37) (A:=ax) (xs:=(xs2_ ++ [ac,aa,ab,aa,aa])) (vs:=[ao,aa,ab,aa,aa]) kz rfl cD (by simp only [List.length_cons,List.length_nil]; omega) fun iq bM ez eB=>?_)
  have eC:(⟨ax,ay,37,5,k2_ + 1,H8 (xs2_ ++ [.int .i64 0,.slice none 0 0,.bool false,.slice none 0 0,.slice none 0 0]) (k2_ * 5) [.int .i64 (IntKind.i64.wrap (((D.f 2).f k2_).n)),.slice none 0 0,.bool false,.slice none 0 0,.slice none 0 0]⟩:Rw) = ⟨ax,ay,37,5,k2_ + 1,xs2_ ++ [.int .i64 (IntKind.i64.wrap (((D.f 2).f k2_).n)),.slice none 0 0,.bool false,.slice none 0 0,.slice none 0 0]⟩:=by rw [BX (by rw [hT2_.xslen,List.length_take,R3]; omega)]
  obtain ⟨cE,bN⟩:=ez.rowEq 1 [B4 aU aV 5 ((D.f 1).o),⟨ax,ay,37,5,k2_ + 1,xs2_ ++ [ao,aa,ab,aa,aa]⟩,⟨some ⟨cU,0,none⟩,1,37,5,1,[ac,aa,ab,aa,aa]⟩] eC
  refine B5 (F2 (A4 (D7 [0,1] kz ?_)))
  refine B1 [0,1] [] [ag,ae,af,ah,(39,.v (.int .i64 (IntKind.i64.wrap (((k2_:Nat):Int) + 1))))] cE eB fun ir eD=>?_
  refine B5 (A4 ?_)
  obtain ⟨cG,eE,bO⟩:=cE.cutB eD 4 [ak,av,⟨ap,0,[ac,al,ab,aa,aa,ac,am,ab,aa,aa,ac,aa,au,.slice ax (k2_ + 1) ay,aa],true⟩,aA] [ag,ae,af,ah,(39,.v (.int .i64 (IntKind.i64.wrap (((k2_:Nat):Int) + 1))))]
  obtain ⟨eF,bP⟩:=eE.cutR 2 [B4 aU aV 5 ((D.f 1).o),⟨ax,ay,37,5,k2_ + 1,xs2_ ++ [ao,aa,ab,aa,aa]⟩]
  have eG:IntKind.i64.wrap (((k2_:Nat):Int) + 1) = ((k2_ + 1:Nat):Int):=G8 (by omega)
  rw [eG] at cG
  exact ⟨(D.f 2).l - (k2_ + 1),by omega,k2_ + 1,ax,ay,xs2_ ++ [Value.int .i64 (IntKind.i64.wrap (((D.f 2).f k2_).n)),.slice none 0 0,.bool false,.slice none 0 0,.slice none 0 0],(css2_ ++ [[Value.int .i64 (IntKind.i64.wrap (((D.f 2).f k2_).n)),.slice none 0 0,.bool false,.slice none 0 0,.slice none 0 0]]),rfl,by omega,by rw [V7 (by omega)]; exact (hT2_.move (((((((((((aB.trans aj).trans aF).trans aP).trans bG).trans aH).trans aR).trans bL).trans bM).trans bN).trans bO).trans bP).step immM (((((((((((aB.trans aj).trans aF).trans aP).trans bG).trans aH).trans aR).trans bL).trans bM).trans bN).trans bO).trans bP).to').snoc (x:=(fun i=>Tree.mk (IntKind.i64.wrap ((D.f 2).f i).n) [] false [] []) k2_) (TreeR.mk (n:=IntKind.i64.wrap (((D.f 2).f k2_).n)) (b:=false) (s:=[]) (l:=[]) (u:=[]) (fun _=>[]) (Octs.nil _ _) (Slots.nil _ _ _ _) (fun i_ x_ h_=>by simp at h_) (TagsR.nil _ _)),cG.pk,eF,((((((((((((aW.trans aB).trans aj).trans aF).trans aP).trans bG).trans aH).trans aR).trans bL).trans bM).trans bN).trans bO).trans bP)⟩
 have gd:=of_decide_eq_false bt
 refine wp_exit (E7 (E7 (G9 (A4 (C0 [0,1,2,3,4] kz ?_)))))
 refine B1 [0,1,2] [3,4] [ae,af,(87,.p 0 18)] ar bq fun iu eH=>?_
 let bQ:Value:=.pointer (some ⟨e9,0,none⟩)
 refine B2 (Cq eH (v:=.func (.func 77) #[] #[bQ]) (d:=88) kz fun iv eI=>?_)
 let az:Ob:=⟨ap,0,[ac,al,ab,aa,aa,ac,am,ab,aa,aa,ac,aa,au,.slice A2_ k2_ c2_,aa],true⟩
 refine B2 (D3 eI (f:=39) (vs:=[.pointer (some ⟨b,o + 18,none⟩),.func (.func 77) #[] #[bQ]]) (d:=89) kz Tryz.call39 (Dy (F:=(E9 F w fO [ak,av,az,aA] [B4 aU aV 5 ((D.f 1).o),⟨A2_,c2_,37,5,k2_,xs2_⟩])) Tryz.call77 NJ ((hat.one 18 rfl).move ar.step A7 ar.imm) (g4.move ar.step A7 ar.imm) (Str.of ar 3 rfl) (CC 3 rfl) g4l) ?_)
 rintro e_ iw ⟨rfl,eJ,eK,cV,eL,eM⟩
 let aI:Value:=.slice eJ D.u.length eK
 let aS:Ob:=⟨e9,0,[ac,aa,ab,aw,aI],true⟩
 obtain ⟨bR,bf,eN⟩:=ar.wrote 3 [ak,av,az,aS] rfl eM cV
 have cH:=eL.move (Step.refl _ C1) A7 (fun b_ o_ h_ hb_=>eN (G:=F) b_ o_ (.inr h_) hb_)
 refine ⟨_,rfl,fun ix eO=>?_⟩
 have eP:=(EnvOk.places (tb':=[ak,av,az,aS]) eO (show Pl [ak,av,az,aA] [ak,av,az,aS] from ⟨rfl,rfl,⟨rfl,rfl,⟨rfl,rfl,⟨rfl,rfl,trivial⟩⟩⟩⟩)).pk (env':=[(89,.v (.tuple #[])),ae,af,(87,.p 0 18),(88,.v (.func (.func 77) #[] #[bQ]))])
 refine B5 (A4 ?_)
 refine C0 [0,1,2] kz ?_
 refine B1 [0,1] [2] [ae,af,(91,.v (.slice eJ D.u.length eK))] bR eP fun iy eQ=>?_
 refine B2 (D3 eQ (f:=41) (vs:=[aI]) (d:=92) kz Tryz.call41 (DB cH g4.sorted) ?_)
 rintro e_ iz ⟨rfl,cI⟩
 refine ⟨_,rfl,fun iA eR=>?_⟩
 have cJ:=bR.next_nil cI
 have aJ:=bR.frN cI
 refine B5 (A4 ?_)
 refine C0 [0,1] kz ?_
 refine B1 [0] [1] [ae,(93,.v (.agg #[ac,aa,ab,aw,aI]))] cJ eR fun iB eS=>?_
 refine B2 (D5 cJ eS (oi:=1) (cs:=[ac,aa,ab,aw,aI]) kz fun eU aK aT eV=>?_)
 refine B5 (A4 ?_)
 refine wp_ret (C8 eV aT.cells (v:=.agg #[ac,aa,ab,aw,aI]) kz ?_)
 have cK:=(hT2_.move ((bf.trans aJ).trans aK).step immM ((bf.trans aJ).trans aK).to')
 rw [Fc (by omega)] at cK
 let cL:Ob:=⟨b6,0,[ac,aa,ab,aw,aI],true⟩
 exact Dz (u:=D.u) (l:=[.mk 0 (sb (D.f 0).s) false [] [],.mk 0 (D.f 1).o false [] [],.mk 0 [] (D.f 2).A.isNone ((List.range (D.f 2).l).map fun i=>.mk (IntKind.i64.wrap ((D.f 2).f i).n) [] false [] []) []]) (css:=[[ac,al,ab,aa,aa],[ac,am,ab,aa,aa],[ac,aa,au,.slice A2_ k2_ c2_,aa]]) aT 2 rfl ⟨(show TreeR _ (E9 F w eU [ak,cL,az,aS] [B4 aU aV 5 ((D.f 1).o),⟨A2_,c2_,37,5,k2_,xs2_⟩]) _ _ from (TreeR.mk (n:=0) (b:=false) (s:=(sb ((D.f 0).s))) (l:=[]) (u:=[]) (fun _=>[]) (fq.move ((((((((((((cY.trans cZ).trans cN).trans cO).trans cP).trans dc).trans de).trans bW).trans bY).trans aW).trans bf).trans aJ).trans aK).step immM ((((((((((((cY.trans cZ).trans cN).trans cO).trans cP).trans dc).trans de).trans bW).trans bY).trans aW).trans bf).trans aJ).trans aK).to') (Slots.nil _ _ _ _) (fun i_ x_ h_=>by simp at h_) (TagsR.nil _ _))).move (Step.refl _ C1) A7 I8,TreeR.mk (n:=0) (b:=false) (l:=[]) (u:=[]) (fun _=>[]) (R7 (aT.own 0 _ rfl) (by rw [g2]; decide) (Cu (F:=F) aT (k:=0) rfl)) (Slots.nil _ _ 5 _) (fun _ _ h_=>by simp at h_) (TagsR.nil _ _),Fb aT (k:=1) rfl cK (by rw [R3]; omega) (by rw [R3]; omega),trivial⟩ ((show TagsR _ (E9 F w eU [ak,cL,az,aS] [B4 aU aV 5 ((D.f 1).o),⟨A2_,c2_,37,5,k2_,xs2_⟩]) _ _ _ from (cH.move (aJ.trans aK).step immM (aJ.trans aK).to')).move (Step.refl _ C1) A7 I8)
abbrev z5 (x0) (x1) (x2:DV) (x3) (x4):=([.int .i16 x0,x1,.int .i32 ((x2.f 1).n),.int .i32 (((x2.f 2).f 0).n),.int .i64 (((x2.f 2).f 1).n),.map ((x2.f 2).m),.int .i32 ((x2.f 3).n),.int .i32 ((x2.f 4).n),.int .i32 ((x2.f 5).n),.int .i8 ((x2.f 6).n),.int .i32 ((x2.f 7).n),.int .i32 ((x2.f 8).n),x3,x4,.string ((x2.f 11).s),.map x2.m]:List Value)
set_option maxHeartbeats 4000000 in
theorem NS (v:Int) (D:DV) (b o:Nat) (w:World) (F:Nat → Nat → Prop) (hat:AtF w F b o [.int .i16 v,.pointer ((D.f 0).A),.int .i32 ((D.f 1).n),.int .i32 (((D.f 2).f 0).n),.int .i64 (((D.f 2).f 1).n),.map ((D.f 2).m),.int .i32 ((D.f 3).n),.int .i32 ((D.f 4).n),.int .i32 ((D.f 5).n),.int .i8 ((D.f 6).n),.int .i32 ((D.f 7).n),.int .i32 ((D.f 8).n),.slice ((D.f 9).A) ((D.f 9).l) ((D.f 9).c),.slice ((D.f 10).A) ((D.f 10).l) ((D.f 10).c),.string ((D.f 11).s),.map D.m]) (hok:Cw w F D):Calls Tryz.prog 21 #[.pointer (some ⟨b,o,none⟩)] w (T0 w F (BZ D)):=by
 refine enter (n:=216) Tryz.func21 rfl Tryz.ntmps21 kz fun a hE=>?_
 let eM:Value:=.pointer ((D.f 0).A)
 let gN:Value:=.slice ((D.f 9).A) ((D.f 9).l) ((D.f 9).c)
 let gO:Value:=.slice ((D.f 10).A) ((D.f 10).l) ((D.f 10).c)
 let aE:Ob:=⟨b,o,(z5 v eM D gN gO),false⟩
 have hW:WOk w C1 w [aE] []:=(WOk.start w C1).start1 hat rfl rfl
 unfold Cw at hok
 obtain ⟨⟨g1,g1l⟩,g2,g3,g4,g5,g6,g7,g8,g9,⟨qT,g10l,g10e⟩,⟨qU,g11l,g11e⟩,wt,qV,g13l,g13x,_⟩:=hok
 have g3k:=g3
 unfold Y4 at g3
 obtain ⟨wv,ww,wx,g16l,g16x,_⟩:=g3
 let ag:Nat × SV:=(0,.p 0 0)
 have hE0:=(EnvOk.ptr0 (cs:=(z5 v eM D gN gO)) (r:=false) hE).pk (env':=[ag])
 refine C0 [0] kz ?_
 let ac:Value:=.int .i64 0
 let aa:Value:=.slice none 0 0
 let ab:Value:=.bool false
 refine B2 (H4 hW hE0 (d:=2) (cs:=[ac,aa,ab,aa,aa]) kz fun qW wy wA sg sh sj pH pI=>?_)
 refine B5 (A4 ?_)
 refine C0 [0,1,2,3] kz ?_
 refine B2 (Dv (t:=34) (e:=37) (size:=5) (bytes:=88) (d:=6) (j:=12) (.agg #[ac,aa,ab,aa,aa]) (ac :: aa :: ab :: aa :: aa :: ac :: aa :: ab :: aa :: aa :: ac :: aa :: ab :: aa :: aa :: ac :: aa :: ab :: aa :: aa :: ac :: aa :: ab :: aa :: aa :: ac :: aa :: ab :: aa :: aa :: ac :: aa :: ab :: aa :: aa :: ac :: aa :: ab :: aa :: aa :: ac :: aa :: ab :: aa :: aa :: ac :: aa :: ab :: aa :: aa :: ac :: aa :: ab :: aa :: aa :: ac :: aa :: ab :: aa :: aa :: []) pH pI fun aC wB wC sk sl sm j0 pJ=>?_)
 let ae:Nat × SV:=(2,.p 1 0)
 let bg:Value:=.slice (some ⟨aC,0,none⟩) 12 12
 refine B1 [1] [2,3] [ag,ae,(7,.v (.agg #[ac,aa,ab,bg,aa]))] j0 pJ fun wD pK=>?_
 refine B2 (H4 j0 pK (d:=3) (cs:=[ac,aa,ab,aa,aa]) kz fun pL wE wF sn sq sr pM pN=>?_)
 refine B2 (D5 pM pN (oi:=3) (cs:=[ac,aa,ab,bg,aa]) kz fun wG ss pO pP=>?_)
 refine B5 (A4 ?_)
 refine G0 8 kz pO fun su sw eN pQ=>?_
 let af:Nat × SV:=(3,.p 3 0)
 let gP:Nat × SV:=(9,.v (.slice (some ⟨aC,0,none⟩) 12 12))
 refine C7 [0,1,2,3,4,5] [ag,ae,af,gP,(13,.v (.pointer ((D.f 0).A)))] 3 (A5 B8) (fun _ h=>h.cells) pQ pP fun wH pR=>?_
 let aL:Ob:=⟨qW,0,[ac,aa,ab,aa,aa],true⟩
 let aQ:Ob:=⟨pL,0,[ac,aa,ab,bg,aa],true⟩
 refine C2 (i:=6) kz (D3 pR (f:=35) (vs:=[eM]) (d:=14) kz Tryz.call35 (NH _ (D.f 0).s _ (E9 F w su [aE,aL,⟨aC,0,(ac :: aa :: ab :: aa :: aa :: ac :: aa :: ab :: aa :: aa :: ac :: aa :: ab :: aa :: aa :: ac :: aa :: ab :: aa :: aa :: ac :: aa :: ab :: aa :: aa :: ac :: aa :: ab :: aa :: aa :: ac :: aa :: ab :: aa :: aa :: ac :: aa :: ab :: aa :: aa :: ac :: aa :: ab :: aa :: aa :: ac :: aa :: ab :: aa :: aa :: ac :: aa :: ab :: aa :: aa :: ac :: aa :: ab :: aa :: aa :: []),true⟩,aQ] []) (fun ad h_=>by obtain ⟨b',o',g1,g2⟩:=g1 ad h_; exact ⟨b',o',g1,g2.move eN.step A7 eN.imm⟩) g1l) ?_)
 rintro e_ wI ⟨sy,rfl,pS,jx⟩
 have jy:=pS.move (Step.refl _ C1) A7 (eN.laid (G:=F) jx)
 obtain ⟨sA,sB,sC,sD,sE,sF,sG,sH,sI,sJ,sK,sL,sM,gQ,sN,sO,wJ,wK⟩:=jy.open_
 rw [gQ] at jy
 have qX:=sN.small
 have qY:=sO.small
 rw [gQ]
 refine ⟨_,rfl,fun wM pT=>?_⟩
 have j1:=eN.next_nil jx
 have pU:=eN.frN jx
 have j2:=TT.ofW pU j1
 refine ⟨fun _=>j2,?_⟩
 refine F6 pT (i:=7) (t:=34) (A:=(some ⟨aC,0,none⟩)) (m:=12) (q:=0) (d:=15) kz (e:=37) (size:=5) (bytes:=88) (j:=0) kz (b:=aC) (o:=0) rfl rfl (by decide) kz kz (A5 B8) j2 fun wN pV=>?_
 have pW:=pV.recast 15 (.v (.pointer (some ⟨aC,0 + 0 * 5,none⟩))) (.p 2 0) rfl rfl (Nat.le_of_ble_eq_true (n:=3) rfl)
 let ah:Value:=.int .i64 sA
 let ai:Value:=.slice sF sB.length sG
 let aj:Value:=.bool sC
 let ak:Value:=.slice sH sD.length sI
 let al:Value:=.slice sJ sE.length sK
 have pX:=pW.pk (env':=[ag,ae,af,gP,(13,.v (.pointer ((D.f 0).A))),(14,.v (.agg #[ah,ai,aj,ak,al])),(15,.p 2 0)])
 refine C2 (i:=8) kz (D5 j1 pX (oi:=2) (cs:=(ah :: ai :: aj :: ak :: al :: ac :: aa :: ab :: aa :: aa :: ac :: aa :: ab :: aa :: aa :: ac :: aa :: ab :: aa :: aa :: ac :: aa :: ab :: aa :: aa :: ac :: aa :: ab :: aa :: aa :: ac :: aa :: ab :: aa :: aa :: ac :: aa :: ab :: aa :: aa :: ac :: aa :: ab :: aa :: aa :: ac :: aa :: ab :: aa :: aa :: ac :: aa :: ab :: aa :: aa :: ac :: aa :: ab :: aa :: aa :: [])) kz fun wO j3 pY pZ=>?_)
 refine ⟨fun h=>absurd rfl h,?_⟩
 refine E5 kz ?_ _
 refine A4 (G0 9 kz pY fun wP j4 p4 j5=>?_)
 let gR:Nat × SV:=(17,.v (.slice (some ⟨aC,0,none⟩) 12 12))
 let am:Value:=.int .i64 (IntKind.i64.wrap ((D.f 1).n))
 let qZ:Value:=(.agg #[.int .i64 (IntKind.i64.wrap ((D.f 1).n)),.slice none 0 0,.bool false,.slice none 0 0,.slice none 0 0])
 refine C7 [0,1,2,3,4,5,6,7] [ag,ae,af,gR,(23,.v (.agg #[am,aa,ab,aa,aa]))] 2 (A5 B8) (fun _ h=>h.cells) j5 pZ fun wQ p5=>?_
 refine F6 p5 (i:=8) (t:=34) (A:=(some ⟨aC,0,none⟩)) (m:=12) (q:=1) (d:=24) kz (e:=37) (size:=5) (bytes:=88) (j:=1) kz (b:=aC) (o:=0) rfl rfl (by decide) kz kz (A5 B8) j5 fun wR p6=>?_
 have p7:=p6.recast 24 (.v (.pointer (some ⟨aC,0 + 1 * 5,none⟩))) (.p 2 5) rfl rfl (Nat.le_of_ble_eq_true (n:=3) rfl)
 have j6:=p7.pk (env':=[ag,ae,af,gR,(23,.v (.agg #[am,aa,ab,aa,aa])),(24,.p 2 5)])
 refine C2 (i:=9) kz (D5 p4 j6 (oi:=2) (cs:=(ah :: ai :: aj :: ak :: al :: am :: aa :: ab :: aa :: aa :: ac :: aa :: ab :: aa :: aa :: ac :: aa :: ab :: aa :: aa :: ac :: aa :: ab :: aa :: aa :: ac :: aa :: ab :: aa :: aa :: ac :: aa :: ab :: aa :: aa :: ac :: aa :: ab :: aa :: aa :: ac :: aa :: ab :: aa :: aa :: ac :: aa :: ab :: aa :: aa :: ac :: aa :: ab :: aa :: aa :: ac :: aa :: ab :: aa :: aa :: [])) kz fun sP gS j7 j8=>?_)
 refine ⟨fun h=>absurd rfl h,?_⟩
 refine E5 kz ?_ _
 refine A4 (G0 7 kz j7 fun p8 gT bD j9=>?_)
 let gU:Nat × SV:=(26,.v (.slice (some ⟨aC,0,none⟩) 12 12))
 refine C7 [0,1,2,3,4] [ag,ae,af,gU,(29,.p 0 3)] 3 (A5 B8) (fun _ h=>h.cells) j9 j8 fun sQ ka=>?_
 refine C2 (i:=5) kz (D3 ka (f:=36) (vs:=[.pointer (some ⟨b,o + 3,none⟩)]) (d:=30) kz Tryz.call36 (NR 0 (D.f 2) b (o + 3) _ (E9 F w p8 [aE,aL,⟨aC,0,(ah :: ai :: aj :: ak :: al :: am :: aa :: ab :: aa :: aa :: ac :: aa :: ab :: aa :: aa :: ac :: aa :: ab :: aa :: aa :: ac :: aa :: ab :: aa :: aa :: ac :: aa :: ab :: aa :: aa :: ac :: aa :: ab :: aa :: aa :: ac :: aa :: ab :: aa :: aa :: ac :: aa :: ab :: aa :: aa :: ac :: aa :: ab :: aa :: aa :: ac :: aa :: ab :: aa :: aa :: ac :: aa :: ab :: aa :: aa :: []),true⟩,aQ] []) ((AtF.part 3 3 hat rfl).move bD.step A7 bD.imm) (JM _ bD.step A7 bD.imm g3k)) ?_)
 rintro e_ sR ⟨q4,rfl,kd,eO⟩
 have eP:=kd.move (Step.refl _ C1) A7 (bD.laid (G:=F) eO)
 obtain ⟨p9,qa,qb,qc,qd,qe,qf,qg,qh,qi,qj,q5,q6,eQ,qk,ql,sS,sT⟩:=eP.open_
 rw [eQ] at eP
 have qm:=qk.small
 have qn:=ql.small
 rw [eQ]
 refine ⟨_,rfl,fun sU ke=>?_⟩
 have gV:=bD.next_nil eO
 have eR:=bD.frN eO
 have gW:=TT.ofW eR gV
 refine ⟨fun _=>gW,?_⟩
 refine F6 ke (i:=6) (t:=34) (A:=(some ⟨aC,0,none⟩)) (m:=12) (q:=2) (d:=31) kz (e:=37) (size:=5) (bytes:=88) (j:=2) kz (b:=aC) (o:=0) rfl rfl (by decide) kz kz (A5 B8) gW fun sV kf=>?_
 have kg:=kf.recast 31 (.v (.pointer (some ⟨aC,0 + 2 * 5,none⟩))) (.p 2 10) rfl rfl (Nat.le_of_ble_eq_true (n:=3) rfl)
 let ao:Value:=.int .i64 p9
 let ap:Value:=.slice qe qa.length qf
 let ar:Value:=.bool qb
 let au:Value:=.slice qg qc.length qh
 let av:Value:=.slice qi qd.length qj
 have kh:=kg.pk (env':=[ag,ae,af,gU,(29,.p 0 3),(30,.v (.agg #[ao,ap,ar,au,av])),(31,.p 2 10)])
 refine C2 (i:=7) kz (D5 gV kh (oi:=2) (cs:=(ah :: ai :: aj :: ak :: al :: am :: aa :: ab :: aa :: aa :: ao :: ap :: ar :: au :: av :: ac :: aa :: ab :: aa :: aa :: ac :: aa :: ab :: aa :: aa :: ac :: aa :: ab :: aa :: aa :: ac :: aa :: ab :: aa :: aa :: ac :: aa :: ab :: aa :: aa :: ac :: aa :: ab :: aa :: aa :: ac :: aa :: ab :: aa :: aa :: ac :: aa :: ab :: aa :: aa :: ac :: aa :: ab :: aa :: aa :: [])) kz fun sW dx ki kj=>?_)
 refine ⟨fun h=>absurd rfl h,?_⟩
 refine E5 kz ?_ _
 refine A4 (G0 9 kz ki fun sX dy km gX=>?_)
 let gY:Nat × SV:=(33,.v (.slice (some ⟨aC,0,none⟩) 12 12))
 let aw:Value:=.int .i64 (IntKind.i64.wrap ((D.f 3).n))
 let q7:Value:=(.agg #[.int .i64 (IntKind.i64.wrap ((D.f 3).n)),.slice none 0 0,.bool false,.slice none 0 0,.slice none 0 0])
 refine C7 [0,1,2,3,4,5,6,7] [ag,ae,af,gY,(39,.v (.agg #[aw,aa,ab,aa,aa]))] 2 (A5 B8) (fun _ h=>h.cells) gX kj fun sY ko=>?_
 refine F6 ko (i:=8) (t:=34) (A:=(some ⟨aC,0,none⟩)) (m:=12) (q:=3) (d:=40) kz (e:=37) (size:=5) (bytes:=88) (j:=3) kz (b:=aC) (o:=0) rfl rfl (by decide) kz kz (A5 B8) gX fun sZ kp=>?_
 have kq:=kp.recast 40 (.v (.pointer (some ⟨aC,0 + 3 * 5,none⟩))) (.p 2 15) rfl rfl (Nat.le_of_ble_eq_true (n:=3) rfl)
 have ku:=kq.pk (env':=[ag,ae,af,gY,(39,.v (.agg #[aw,aa,ab,aa,aa])),(40,.p 2 15)])
 refine C2 (i:=9) kz (D5 km ku (oi:=2) (cs:=(ah :: ai :: aj :: ak :: al :: am :: aa :: ab :: aa :: aa :: ao :: ap :: ar :: au :: av :: aw :: aa :: ab :: aa :: aa :: ac :: aa :: ab :: aa :: aa :: ac :: aa :: ab :: aa :: aa :: ac :: aa :: ab :: aa :: aa :: ac :: aa :: ab :: aa :: aa :: ac :: aa :: ab :: aa :: aa :: ac :: aa :: ab :: aa :: aa :: ac :: aa :: ab :: aa :: aa :: ac :: aa :: ab :: aa :: aa :: [])) kz fun s0 dA kv kw=>?_)
 refine ⟨fun h=>absurd rfl h,?_⟩
 refine E5 kz ?_ _
 refine A4 (G0 9 kz kv fun s4 dB kx gZ=>?_)
 let hC:Nat × SV:=(42,.v (.slice (some ⟨aC,0,none⟩) 12 12))
 let ax:Value:=.int .i64 (IntKind.i64.wrap ((D.f 4).n))
 let q8:Value:=(.agg #[.int .i64 (IntKind.i64.wrap ((D.f 4).n)),.slice none 0 0,.bool false,.slice none 0 0,.slice none 0 0])
 refine C7 [0,1,2,3,4,5,6,7] [ag,ae,af,hC,(48,.v (.agg #[ax,aa,ab,aa,aa]))] 2 (A5 B8) (fun _ h=>h.cells) gZ kw fun s5 ky=>?_
 refine F6 ky (i:=8) (t:=34) (A:=(some ⟨aC,0,none⟩)) (m:=12) (q:=4) (d:=49) kz (e:=37) (size:=5) (bytes:=88) (j:=4) kz (b:=aC) (o:=0) rfl rfl (by decide) kz kz (A5 B8) gZ fun s6 kA=>?_
 have kB:=kA.recast 49 (.v (.pointer (some ⟨aC,0 + 4 * 5,none⟩))) (.p 2 20) rfl rfl (Nat.le_of_ble_eq_true (n:=3) rfl)
 have kC:=kB.pk (env':=[ag,ae,af,hC,(48,.v (.agg #[ax,aa,ab,aa,aa])),(49,.p 2 20)])
 refine C2 (i:=9) kz (D5 kx kC (oi:=2) (cs:=(ah :: ai :: aj :: ak :: al :: am :: aa :: ab :: aa :: aa :: ao :: ap :: ar :: au :: av :: aw :: aa :: ab :: aa :: aa :: ax :: aa :: ab :: aa :: aa :: ac :: aa :: ab :: aa :: aa :: ac :: aa :: ab :: aa :: aa :: ac :: aa :: ab :: aa :: aa :: ac :: aa :: ab :: aa :: aa :: ac :: aa :: ab :: aa :: aa :: ac :: aa :: ab :: aa :: aa :: ac :: aa :: ab :: aa :: aa :: [])) kz fun s7 dC kD kE=>?_)
 refine ⟨fun h=>absurd rfl h,?_⟩
 refine E5 kz ?_ _
 refine A4 (G0 9 kz kD fun s8 dD kF hJ=>?_)
 let hK:Nat × SV:=(51,.v (.slice (some ⟨aC,0,none⟩) 12 12))
 let ay:Value:=.int .i64 (IntKind.i64.wrap ((D.f 5).n))
 let q9:Value:=(.agg #[.int .i64 (IntKind.i64.wrap ((D.f 5).n)),.slice none 0 0,.bool false,.slice none 0 0,.slice none 0 0])
 refine C7 [0,1,2,3,4,5,6,7] [ag,ae,af,hK,(57,.v (.agg #[ay,aa,ab,aa,aa]))] 2 (A5 B8) (fun _ h=>h.cells) hJ kE fun s9 kG=>?_
 refine F6 kG (i:=8) (t:=34) (A:=(some ⟨aC,0,none⟩)) (m:=12) (q:=5) (d:=58) kz (e:=37) (size:=5) (bytes:=88) (j:=5) kz (b:=aC) (o:=0) rfl rfl (by decide) kz kz (A5 B8) hJ fun ta kH=>?_
 have kI:=kH.recast 58 (.v (.pointer (some ⟨aC,0 + 5 * 5,none⟩))) (.p 2 25) rfl rfl (Nat.le_of_ble_eq_true (n:=3) rfl)
 have kJ:=kI.pk (env':=[ag,ae,af,hK,(57,.v (.agg #[ay,aa,ab,aa,aa])),(58,.p 2 25)])
 refine C2 (i:=9) kz (D5 kF kJ (oi:=2) (cs:=(ah :: ai :: aj :: ak :: al :: am :: aa :: ab :: aa :: aa :: ao :: ap :: ar :: au :: av :: aw :: aa :: ab :: aa :: aa :: ax :: aa :: ab :: aa :: aa :: ay :: aa :: ab :: aa :: aa :: ac :: aa :: ab :: aa :: aa :: ac :: aa :: ab :: aa :: aa :: ac :: aa :: ab :: aa :: aa :: ac :: aa :: ab :: aa :: aa :: ac :: aa :: ab :: aa :: aa :: ac :: aa :: ab :: aa :: aa :: [])) kz fun td dE kK kL=>?_)
 refine ⟨fun h=>absurd rfl h,?_⟩
 refine E5 kz ?_ _
 refine A4 (G0 9 kz kK fun te dF kM hZ=>?_)
 let ia:Nat × SV:=(60,.v (.slice (some ⟨aC,0,none⟩) 12 12))
 let az:Value:=.int .i64 (IntKind.i64.wrap ((D.f 6).n))
 let ra:Value:=(.agg #[.int .i64 (IntKind.i64.wrap ((D.f 6).n)),.slice none 0 0,.bool false,.slice none 0 0,.slice none 0 0])
 refine C7 [0,1,2,3,4,5,6,7] [ag,ae,af,ia,(66,.v (.agg #[az,aa,ab,aa,aa]))] 2 (A5 B8) (fun _ h=>h.cells) hZ kL fun tf kN=>?_
 refine F6 kN (i:=8) (t:=34) (A:=(some ⟨aC,0,none⟩)) (m:=12) (q:=6) (d:=67) kz (e:=37) (size:=5) (bytes:=88) (j:=6) kz (b:=aC) (o:=0) rfl rfl (by decide) kz kz (A5 B8) hZ fun tg kO=>?_
 have kP:=kO.recast 67 (.v (.pointer (some ⟨aC,0 + 6 * 5,none⟩))) (.p 2 30) rfl rfl (Nat.le_of_ble_eq_true (n:=3) rfl)
 have kQ:=kP.pk (env':=[ag,ae,af,ia,(66,.v (.agg #[az,aa,ab,aa,aa])),(67,.p 2 30)])
 refine C2 (i:=9) kz (D5 kM kQ (oi:=2) (cs:=(ah :: ai :: aj :: ak :: al :: am :: aa :: ab :: aa :: aa :: ao :: ap :: ar :: au :: av :: aw :: aa :: ab :: aa :: aa :: ax :: aa :: ab :: aa :: aa :: ay :: aa :: ab :: aa :: aa :: az :: aa :: ab :: aa :: aa :: ac :: aa :: ab :: aa :: aa :: ac :: aa :: ab :: aa :: aa :: ac :: aa :: ab :: aa :: aa :: ac :: aa :: ab :: aa :: aa :: ac :: aa :: ab :: aa :: aa :: [])) kz fun th dG kR kS=>?_)
 refine ⟨fun h=>absurd rfl h,?_⟩
 refine E5 kz ?_ _
 refine A4 (G0 9 kz kR fun tj dH kT ib=>?_)
 let ic:Nat × SV:=(69,.v (.slice (some ⟨aC,0,none⟩) 12 12))
 let aA:Value:=.int .i64 (IntKind.i64.wrap ((D.f 7).n))
 let rb:Value:=(.agg #[.int .i64 (IntKind.i64.wrap ((D.f 7).n)),.slice none 0 0,.bool false,.slice none 0 0,.slice none 0 0])
 refine C7 [0,1,2,3,4,5,6,7] [ag,ae,af,ic,(75,.v (.agg #[aA,aa,ab,aa,aa]))] 2 (A5 B8) (fun _ h=>h.cells) ib kS fun tm kU=>?_
 refine F6 kU (i:=8) (t:=34) (A:=(some ⟨aC,0,none⟩)) (m:=12) (q:=7) (d:=76) kz (e:=37) (size:=5) (bytes:=88) (j:=7) kz (b:=aC) (o:=0) rfl rfl (by decide) kz kz (A5 B8) ib fun tp kV=>?_
 have kW:=kV.recast 76 (.v (.pointer (some ⟨aC,0 + 7 * 5,none⟩))) (.p 2 35) rfl rfl (Nat.le_of_ble_eq_true (n:=3) rfl)
 have kX:=kW.pk (env':=[ag,ae,af,ic,(75,.v (.agg #[aA,aa,ab,aa,aa])),(76,.p 2 35)])
 refine C2 (i:=9) kz (D5 kT kX (oi:=2) (cs:=(ah :: ai :: aj :: ak :: al :: am :: aa :: ab :: aa :: aa :: ao :: ap :: ar :: au :: av :: aw :: aa :: ab :: aa :: aa :: ax :: aa :: ab :: aa :: aa :: ay :: aa :: ab :: aa :: aa :: az :: aa :: ab :: aa :: aa :: aA :: aa :: ab :: aa :: aa :: ac :: aa :: ab :: aa :: aa :: ac :: aa :: ab :: aa :: aa :: ac :: aa :: ab :: aa :: aa :: ac :: aa :: ab :: aa :: aa :: [])) kz fun tq dI kY kZ=>?_)
 refine ⟨fun h=>absurd rfl h,?_⟩
 refine E5 kz ?_ _
 refine A4 (G0 9 kz kY fun tv dJ k5 ig=>?_)
 let ii:Nat × SV:=(78,.v (.slice (some ⟨aC,0,none⟩) 12 12))
 let aB:Value:=.int .i64 (IntKind.i64.wrap ((D.f 8).n))
 let rc:Value:=(.agg #[.int .i64 (IntKind.i64.wrap ((D.f 8).n)),.slice none 0 0,.bool false,.slice none 0 0,.slice none 0 0])
 refine C7 [0,1,2,3,4,5,6,7] [ag,ae,af,ii,(84,.v (.agg #[aB,aa,ab,aa,aa]))] 2 (A5 B8) (fun _ h=>h.cells) ig kZ fun tw k6=>?_
 refine F6 k6 (i:=8) (t:=34) (A:=(some ⟨aC,0,none⟩)) (m:=12) (q:=8) (d:=85) kz (e:=37) (size:=5) (bytes:=88) (j:=8) kz (b:=aC) (o:=0) rfl rfl (by decide) kz kz (A5 B8) ig fun tx k7=>?_
 have k8:=k7.recast 85 (.v (.pointer (some ⟨aC,0 + 8 * 5,none⟩))) (.p 2 40) rfl rfl (Nat.le_of_ble_eq_true (n:=3) rfl)
 have k9:=k8.pk (env':=[ag,ae,af,ii,(84,.v (.agg #[aB,aa,ab,aa,aa])),(85,.p 2 40)])
 refine C2 (i:=9) kz (D5 k5 k9 (oi:=2) (cs:=(ah :: ai :: aj :: ak :: al :: am :: aa :: ab :: aa :: aa :: ao :: ap :: ar :: au :: av :: aw :: aa :: ab :: aa :: aa :: ax :: aa :: ab :: aa :: aa :: ay :: aa :: ab :: aa :: aa :: az :: aa :: ab :: aa :: aa :: aA :: aa :: ab :: aa :: aa :: aB :: aa :: ab :: aa :: aa :: ac :: aa :: ab :: aa :: aa :: ac :: aa :: ab :: aa :: aa :: ac :: aa :: ab :: aa :: aa :: [])) kz fun tz dK la lb=>?_)
 refine ⟨fun h=>absurd rfl h,?_⟩
 refine E5 kz ?_ _
 refine A4 (G0 9 kz la fun tA dL lc eS=>?_)
 let ij:Nat × SV:=(87,.v (.slice (some ⟨aC,0,none⟩) 12 12))
 let eU:Nat × SV:=(92,.v (.bool (((D.f 9).A).isNone)))
 refine C7 [0,1,2,3,4,5,6] [ag,ae,af,ij,eU] 3 (A5 B8) (fun _ h=>h.cells) eS lb fun tB ld=>?_
 refine C2 (i:=7) kz (G6 ld (t:=34) (A:=(some ⟨aC,0,none⟩)) (m:=12) (q:=9) (d:=93) kz (e:=37) (size:=5) (bytes:=88) (j:=9) kz (b:=aC) (o:=0) rfl rfl (by decide) fun tC lf=>?_)
 have lg:=lf.recast 93 (.v (.pointer (some ⟨aC,0 + 9 * 5,none⟩))) (.p 2 45) rfl rfl (Nat.le_of_ble_eq_true (n:=3) rfl)
 have lh:=lg.pk (env':=[ag,ae,af,ij,eU,(93,.p 2 45)])
 refine ⟨fun _=>eS,?_⟩
 refine C7 [8] [ag,ae,af,eU,(94,.p 2 47)] 1 (A5 B8) (fun _ h=>h.cells) eS lh fun tD li=>?_
 let aD:Value:=.bool (((D.f 9).A).isNone)
 refine C2 (i:=9) kz (D5 lc li (oi:=2) (cs:=(ah :: ai :: aj :: ak :: al :: am :: aa :: ab :: aa :: aa :: ao :: ap :: ar :: au :: av :: aw :: aa :: ab :: aa :: aa :: ax :: aa :: ab :: aa :: aa :: ay :: aa :: ab :: aa :: aa :: az :: aa :: ab :: aa :: aa :: aA :: aa :: ab :: aa :: aa :: aB :: aa :: ab :: aa :: aa :: ac :: aa :: aD :: aa :: aa :: ac :: aa :: ab :: aa :: aa :: ac :: aa :: ab :: aa :: aa :: [])) kz fun tE dM eV lj=>?_)
 refine ⟨fun h=>absurd rfl h,?_⟩
 refine E5 kz ?_ _
 refine A4 (wp_seq ?_)
 let aH:Nat × SV:=(99,.v (.int .i64 (((D.f 9).l:Nat):Int)))
 refine B7 [ag,ae,af,aH,(100,.v (.int .i64 0))] eV lj fun tF lm=>?_
 refine wp_block ?_
 have ik:=eV.addNil 37 5
 have dN:=eV.frNil 37 5
 refine wp_loop_ghost (fun n_ a_ w_=>∃ (k9_:Nat) (A9_:Option Addr) (c9_:Nat) (xs9_:List Value) (css9_:List (List Value)),n_ = (D.f 9).l - k9_ ∧ k9_ ≤ (D.f 9).l ∧ (Trees w_ (E9 F w w_ [aE,aL,⟨aC,0,(ah :: ai :: aj :: ak :: al :: am :: aa :: ab :: aa :: aa :: ao :: ap :: ar :: au :: av :: aw :: aa :: ab :: aa :: aa :: ax :: aa :: ab :: aa :: aa :: ay :: aa :: ab :: aa :: aa :: az :: aa :: ab :: aa :: aa :: aA :: aa :: ab :: aa :: aa :: aB :: aa :: ab :: aa :: aa :: ac :: aa :: aD :: .slice A9_ k9_ c9_ :: aa :: ac :: aa :: ab :: aa :: aa :: ac :: aa :: ab :: aa :: aa :: []),true⟩,aQ] [⟨A9_,c9_,37,5,k9_,xs9_⟩]) xs9_ (((List.range (D.f 9).l).map (fun i=>Br ((D.f 9).f i))).take k9_) css9_) ∧ F9 ik 216 [aE,aL,⟨aC,0,(ah :: ai :: aj :: ak :: al :: am :: aa :: ab :: aa :: aa :: ao :: ap :: ar :: au :: av :: aw :: aa :: ab :: aa :: aa :: ax :: aa :: ab :: aa :: aa :: ay :: aa :: ab :: aa :: aa :: az :: aa :: ab :: aa :: aa :: aA :: aa :: ab :: aa :: aa :: aB :: aa :: ab :: aa :: aa :: ac :: aa :: aD :: .slice A9_ k9_ c9_ :: aa :: ac :: aa :: ab :: aa :: aa :: ac :: aa :: ab :: aa :: aa :: []),true⟩,aQ] [⟨A9_,c9_,37,5,k9_,xs9_⟩] [ag,ae,af,aH,(100,.v (.int .i64 ((k9_:Nat):Int)))] a_ w_) ((D.f 9).l) ⟨0,none,0,[],[],by omega,by omega,Trees.nil _ _,lm.pk,ik,Fr.refl _ _ _⟩ ?_
 rintro tG tH tI ⟨k9_,A9_,c9_,xs9_,css9_,re,rf,hT9_,ln,dO,bE⟩
 let aM:Nat × SV:=(100,.v (.int .i64 ((k9_:Nat):Int)))
 refine B7 [ag,ae,af,aH,aM,(101,.v (.bool (decide (((k9_:Nat):Int) < (((D.f 9).l:Nat):Int)))))] dO ln fun tJ eW=>?_
 refine wp_seq (D4 eW (b:=decide (((k9_:Nat):Int) < (((D.f 9).l:Nat):Int))) kz (fun eX=>?_) (fun eX=>?_))
 ·
  have rg:=of_decide_eq_true eX
  refine wp_skip (A4 (wp_seq (wp_block ?_)))
  let eY:Nat × SV:=(4,.v (.int .i64 ((k9_:Nat):Int)))
  refine B7 [ag,ae,af,eY,aH,aM] dO eW fun tK lp=>?_
  refine G0 4 kz dO fun tL aX lq rh=>?_
  refine C2 (i:=0) kz (H4 lq lp (d:=103) (cs:=[ab]) kz fun tM tN tO ri rj aN eZ il=>?_)
  have lr:=TT.ofW aN eZ
  refine ⟨fun _=>lr,?_⟩
  refine Bp (i:=1) (j:=2) kz ?_ ?_
  ·
   refine (D5 eZ il (oi:=4) (cs:=[.bool true]) kz fun tP bZ im ls=>?_)
   have lu:=TT.ofW (aN.trans bZ) im
   refine ⟨fun _=>lu,?_⟩
   refine C2 (i:=2) kz (D5 im ls (oi:=4) (cs:=[ab]) kz fun tQ cA dP lv=>?_)
   have lw:=TT.ofW ((aN.trans bZ).trans cA) dP
   refine ⟨fun _=>lw,?_⟩
   refine C2 (i:=3) kz (L4 [0,2,3,4,99,100,104] dP.cells lv (env':=[ag,ae,af,eY,aH,aM,(104,.v (.bool false))]) kz fun tR io=>?_)
   have lx:=TT.ofW ((aN.trans bZ).trans cA) dP
   refine ⟨fun _=>lx,?_⟩
   refine E5 kz ?_ _
   refine A4 (E6 io (b:=false) kz rfl ?_)
   refine S8 18 kz dP fun tS e9 bF dQ=>?_
   let dR:Nat × SV:=(124,.v (.slice (some ⟨aC,0,none⟩) 12 12))
   let ip:Nat × SV:=(126,.v (.slice (some ⟨aC,0,none⟩) 12 12))
   let dS:Nat × SV:=(133,.v (.slice ((D.f 9).A) ((D.f 9).l) ((D.f 9).c)))
   let dT:Nat × SV:=(134,.v (.int .i64 ((k9_:Nat):Int)))
   refine C7 [0,1,2,3,7,8,9,10,11] [ag,ae,af,aH,aM,dR,ip,dS,dT] 10 (B6 (A5 (A5 (B6 (A5 B8))))) (fun _ h=>h.cells) dQ io fun tT ly=>?_
   refine F6 ly (i:=4) (t:=34) (A:=(some ⟨aC,0,none⟩)) (m:=12) (q:=9) (d:=127) kz (e:=37) (size:=5) (bytes:=88) (j:=9) kz (b:=aC) (o:=0) rfl rfl (by decide) kz kz (B6 (A5 (A5 (B6 (A5 B8))))) dQ fun tU lz=>?_
   have lA:=lz.recast 127 (.v (.pointer (some ⟨aC,0 + 9 * 5,none⟩))) (.p 2 45) rfl rfl (Nat.le_of_ble_eq_true (n:=3) rfl)
   have lB:=lA.pk (env':=[ag,ae,af,aH,aM,dR,ip,dS,dT,(127,.p 2 45)])
   refine C7 [5,6] [ag,ae,af,aH,aM,dR,(129,.v (.slice A9_ k9_ c9_)),dS,dT] 7 (B6 (A5 (A5 (B6 (A5 B8))))) (fun _ h=>h.cells) dQ lB fun tV lC=>?_
   obtain ⟨lD,lE,lF,rl,jz⟩:=Slots.get qT (i:=k9_) (by omega)
   refine F6 lC (i:=12) (t:=78) (A:=(D.f 9).A) (m:=((D.f 9).l)) (q:=((k9_:Nat):Int)) (d:=135) kz (e:=91) (size:=19) (bytes:=64) kz lF rfl (by omega) kz kz (B6 (A5 (A5 (B6 (A5 B8))))) dQ fun tW lG=>?_
   refine C2 (i:=13) kz (D3 lG (f:=37) (vs:=[.pointer (some ⟨lD,lE + k9_ * 19,none⟩)]) (d:=136) kz Tryz.call37 (GZ 0 ((D.f 9).f k9_) _ _ _ _ (jz.move bF.step A7 bF.imm) (BS _ bF.step A7 bF.imm (g10e k9_ (by omega)))) ?_)
   rintro e_ tX ⟨rm,rfl,lH,fb⟩
   have fe:=lH.move (Step.refl _ C1) A7 (bF.laid (G:=F) fb)
   obtain ⟨jA,jB,eK,jC,jD,jE,jF,jG,jH,jI,jJ,rn,ro,ff,qo,qp,tY,tZ⟩:=fe.open_
   rw [ff] at fe
   have qq:=qo.small
   have qr:=qp.small
   rw [ff]
   refine ⟨_,rfl,fun t6 lI=>?_⟩
   have iq:=bF.next_nil fb
   have bG:=bF.frN fb
   have lJ:=TT.ofW bG iq
   refine ⟨fun _=>lJ,?_⟩
   let dU:Value:=.int .i64 jA
   let dV:Value:=.slice jE jB.length jF
   let dW:Value:=.slice jG jC.length jH
   let dX:Value:=.slice jI jD.length jJ
   refine C2 (i:=14) kz (L3 iq lI (e:=37) (size:=5) (len:=1) (cs:=[dU,dV,.bool eK,dW,dX]) (d:=137) kz kz fun lK t7 t8 rp rq bh dY lL=>?_)
   have lM:=TT.ofW (bG.trans bh) dY
   refine ⟨fun _=>lM,?_⟩
   refine C2 (i:=15) kz (I4 dY lL (k:=0) (d:=138) (t:=34) (e:=37) (size:=5) (bytes:=88) (A:=A9_) (As:=(some ⟨lK,0,none⟩)) (m0:=k9_) (c:=c9_) (m:=1) (cs:=1) (xs:=xs9_) (news:=[dU,dV,.bool eK,dW,dX]) kz kz rfl (L0 (dY.own 1 _ rfl) (N4 kz)) (M1 (dY.own 1 _ rfl)) (by omega) fun fg fh ua ub bH fi lN=>?_)
   have lO:=TT.ofW ((bG.trans bh).trans bH) fi
   refine ⟨fun _=>lO,?_⟩
   refine C2 (i:=16) kz (G6 lN (t:=34) (A:=(some ⟨aC,0,none⟩)) (m:=12) (q:=9) (d:=139) kz (e:=37) (size:=5) (bytes:=88) (j:=9) kz (b:=aC) (o:=0) rfl rfl (by decide) fun uc lP=>?_)
   have lQ:=lP.recast 139 (.v (.pointer (some ⟨aC,0 + 9 * 5,none⟩))) (.p 2 45) rfl rfl (Nat.le_of_ble_eq_true (n:=3) rfl)
   let ir:Nat × SV:=(138,.v (.slice fg (k9_ + 1) fh))
   have lR:=lQ.pk (env':=[ag,ae,af,aH,aM,dR,(129,.v (.slice A9_ k9_ c9_)),dS,dT,(135,.v (.pointer (some ⟨lD,lE + k9_ * 19,none⟩))),(136,.v (.agg #[dU,dV,.bool eK,dW,dX])),(137,.v (.slice (some ⟨lK,0,none⟩) 1 1)),ir,(139,.p 2 45)])
   have iu:=TT.ofW ((bG.trans bh).trans bH) fi
   refine ⟨fun _=>iu,?_⟩
   refine C7 [17] [ag,ae,af,aH,aM,ir,(140,.p 2 48)] 1 (B6 (A5 (A5 (B6 (A5 B8))))) (fun _ h=>h.cells) iu lR fun ud lS=>?_
   refine C2 (i:=18) kz (D5 fi lS (oi:=2) (cs:=(ah :: ai :: aj :: ak :: al :: am :: aa :: ab :: aa :: aa :: ao :: ap :: ar :: au :: av :: aw :: aa :: ab :: aa :: aa :: ax :: aa :: ab :: aa :: aa :: ay :: aa :: ab :: aa :: aa :: az :: aa :: ab :: aa :: aa :: aA :: aa :: ab :: aa :: aa :: aB :: aa :: ab :: aa :: aa :: ac :: aa :: aD :: .slice fg (k9_ + 1) fh :: aa :: ac :: aa :: ab :: aa :: aa :: ac :: aa :: ab :: aa :: aa :: [])) kz fun ue cB iv lT=>?_)
   refine ⟨fun h=>absurd rfl h,?_⟩
   refine E5 kz ?_ _
   refine F2 (A4 (D7 [0,1] kz ?_))
   refine B1 [0,1] [] [ag,ae,af,aH,(100,.v (.int .i64 (IntKind.i64.wrap (((k9_:Nat):Int) + 1))))] iv lT fun uf lU=>?_
   refine B5 (A4 ?_)
   obtain ⟨iw,lV,cC⟩:=iv.cutB lU 4 [aE,aL,⟨aC,0,(ah :: ai :: aj :: ak :: al :: am :: aa :: ab :: aa :: aa :: ao :: ap :: ar :: au :: av :: aw :: aa :: ab :: aa :: aa :: ax :: aa :: ab :: aa :: aa :: ay :: aa :: ab :: aa :: aa :: az :: aa :: ab :: aa :: aa :: aA :: aa :: ab :: aa :: aa :: aB :: aa :: ab :: aa :: aa :: ac :: aa :: aD :: .slice fg (k9_ + 1) fh :: aa :: ac :: aa :: ab :: aa :: aa :: ac :: aa :: ab :: aa :: aa :: []),true⟩,aQ] [ag,ae,af,aH,(100,.v (.int .i64 (IntKind.i64.wrap (((k9_:Nat):Int) + 1))))]
   obtain ⟨lW,cD⟩:=lV.cutR 1 [⟨fg,fh,37,5,k9_ + 1,xs9_ ++ [dU,dV,.bool eK,dW,dX]⟩]
   have lX:IntKind.i64.wrap (((k9_:Nat):Int) + 1) = ((k9_ + 1:Nat):Int):=G8 (by omega)
   rw [lX] at iw
   exact ⟨(D.f 9).l - (k9_ + 1),by omega,k9_ + 1,fg,fh,xs9_ ++ [Value.int .i64 jA,.slice jE jB.length jF,.bool eK,.slice jG jC.length jH,.slice jI jD.length jJ],(css9_ ++ [[Value.int .i64 jA,.slice jE jB.length jF,.bool eK,.slice jG jC.length jH,.slice jI jD.length jJ]]),rfl,by omega,by rw [V7 (by omega)]; exact (hT9_.move ((((((((((aX.trans aN).trans bZ).trans cA).trans e9).trans bG).trans bh).trans bH).trans cB).trans cC).trans cD).step immM ((((((((((aX.trans aN).trans bZ).trans cA).trans e9).trans bG).trans bh).trans bH).trans cB).trans cC).trans cD).to').snoc (x:=(fun i=>Br ((D.f 9).f i)) k9_) (fe.move ((((bh.trans bH).trans cB).trans cC).trans cD).step immM ((((bh.trans bH).trans cB).trans cC).trans cD).to'),iw.pk,lW,(((((((((((bE.trans aX).trans aN).trans bZ).trans cA).trans e9).trans bG).trans bh).trans bH).trans cB).trans cC).trans cD)⟩
  refine (D5 eZ il (oi:=4) (cs:=[ab]) kz fun ug aY ix lY=>?_)
  have lZ:=TT.ofW (aN.trans aY) ix
  refine ⟨fun _=>lZ,?_⟩
  refine C2 (i:=1) kz (D5 ix lY (oi:=4) (cs:=[.bool true]) kz fun uh bj dZ l0=>?_)
  have l3:=TT.ofW ((aN.trans aY).trans bj) dZ
  refine ⟨fun _=>l3,?_⟩
  refine C2 (i:=3) kz (L4 [0,2,3,4,99,100,104] dZ.cells l0 (env':=[ag,ae,af,eY,aH,aM,(104,.v (.bool true))]) kz fun ui iy=>?_)
  have l5:=TT.ofW ((aN.trans aY).trans bj) dZ
  refine ⟨fun _=>l5,?_⟩
  refine E5 kz ?_ _
  refine A4 (I7 iy (b:=true) kz rfl ?_)
  refine G0 17 kz dZ fun uj b8 bk d4=>?_
  let cE:Nat × SV:=(106,.v (.slice (some ⟨aC,0,none⟩) 12 12))
  let cG:Nat × SV:=(113,.v (.slice ((D.f 9).A) ((D.f 9).l) ((D.f 9).c)))
  let cH:Nat × SV:=(114,.v (.int .i64 ((k9_:Nat):Int)))
  refine C7 [0,1,5,6,7,8,9] [ag,ae,af,aH,aM,cE,cG,cH] 11 (A5 (B6 (A5 (A5 (B6 (A5 B8)))))) (fun _ h=>h.cells) d4 iy fun uk l6=>?_
  refine F6 l6 (i:=2) (t:=34) (A:=(some ⟨aC,0,none⟩)) (m:=12) (q:=9) (d:=107) kz (e:=37) (size:=5) (bytes:=88) (j:=9) kz (b:=aC) (o:=0) rfl rfl (by decide) kz kz (A5 (B6 (A5 (A5 (B6 (A5 B8)))))) d4 fun ul l7=>?_
  have l9:=l7.recast 107 (.v (.pointer (some ⟨aC,0 + 9 * 5,none⟩))) (.p 2 45) rfl rfl (Nat.le_of_ble_eq_true (n:=3) rfl)
  have ma:=l9.pk (env':=[ag,ae,af,aH,aM,cE,cG,cH,(107,.p 2 45)])
  let fj:Nat × SV:=(109,.v (.slice A9_ k9_ c9_))
  let cI:Nat × SV:=(117,.v (.int .i64 ((k9_:Nat):Int)))
  refine C7 [3,4,12] [ag,ae,af,aH,aM,cE,fj,cG,cH,cI] 7 (A5 (B6 (A5 (A5 (B6 (A5 B8)))))) (fun _ h=>h.cells) d4 ma fun um mc=>?_
  obtain ⟨md,me,mf,rt,fk⟩:=Slots.get qT (i:=k9_) (by omega)
  refine F6 mc (i:=10) (t:=78) (A:=(D.f 9).A) (m:=((D.f 9).l)) (q:=((k9_:Nat):Int)) (d:=115) kz (e:=91) (size:=19) (bytes:=64) kz mf rfl (by omega) kz kz (A5 (B6 (A5 (A5 (B6 (A5 B8)))))) d4 fun un iz=>?_
  let iA:Nat × SV:=(115,.v (.pointer (some ⟨md,me + k9_ * 19,none⟩)))
  let iB:Value:=.pointer (some ⟨md,me + k9_ * 19,none⟩)
  refine Bp (i:=11) (j:=13) kz ?_ ?_
  ·
   refine (D3 iz (f:=37) (vs:=[iB]) (d:=116) kz Tryz.call37 (GZ 0 ((D.f 9).f k9_) _ _ _ _ (fk.move bk.step A7 bk.imm) (BS _ bk.step A7 bk.imm (g10e k9_ (by omega)))) ?_)
   rintro e_ uo ⟨ru,rfl,mg,fm⟩
   have fo:=mg.move (Step.refl _ C1) A7 (bk.laid (G:=F) fm)
   obtain ⟨fq,fr,cJ,ft,fv,fw,fx,fy,fz,fA,fB,rv,rx,fC,qs,qt,uq,ur⟩:=fo.open_
   rw [fC] at fo
   have qu:=qs.small
   have qv:=qt.small
   rw [fC]
   refine ⟨_,rfl,fun ut mh=>?_⟩
   have iC:=bk.next_nil fm
   have bI:=bk.frN fm
   have mj:=TT.ofW bI iC
   refine ⟨fun _=>mj,?_⟩
   refine C2 (i:=13) kz (L3 iC mh (e:=37) (size:=5) (len:=1) (cs:=[ac,aa,ab,aa,aa]) (d:=118) kz kz fun jK uu uw ry rz bn d5 ml=>?_)
   have mn:=TT.ofW (bI.trans bn) d5
   refine ⟨fun _=>mn,?_⟩
   refine C2 (i:=14) kz (I4 d5 ml (k:=0) (d:=119) (t:=34) (e:=37) (size:=5) (bytes:=88) (A:=A9_) (As:=(some ⟨jK,0,none⟩)) (m0:=k9_) (c:=c9_) (m:=1) (cs:=1) (xs:=xs9_) (news:=[ac,aa,ab,aa,aa]) kz kz rfl (L0 (d5.own 1 _ rfl) (N4 kz)) (M1 (d5.own 1 _ rfl)) (by omega) fun bz bJ ux uy bK fD mo=>?_)
   have mp:=TT.ofW ((bI.trans bn).trans bK) fD
   refine ⟨fun _=>mp,?_⟩
   refine C2 (i:=15) kz (G6 mo (t:=34) (A:=(some ⟨aC,0,none⟩)) (m:=12) (q:=9) (d:=120) kz (e:=37) (size:=5) (bytes:=88) (j:=9) kz (b:=aC) (o:=0) rfl rfl (by decide) fun uz mq=>?_)
   have mr:=mq.recast 120 (.v (.pointer (some ⟨aC,0 + 9 * 5,none⟩))) (.p 2 45) rfl rfl (Nat.le_of_ble_eq_true (n:=3) rfl)
   let d6:Value:=.int .i64 fq
   let d7:Value:=.slice fw fr.length fx
   let d8:Value:=.slice fy ft.length fz
   let d9:Value:=.slice fA fv.length fB
   let iD:Nat × SV:=(116,.v (.agg #[d6,d7,.bool cJ,d8,d9]))
   have mt:=mr.pk (env':=[ag,ae,af,aH,aM,cE,fj,cG,cH,cI,iA,iD,(118,.v (.slice (some ⟨jK,0,none⟩) 1 1)),(119,.v (.slice bz (k9_ + 1) bJ)),(120,.p 2 45)])
   have iE:=TT.ofW ((bI.trans bn).trans bK) fD
   refine ⟨fun _=>iE,?_⟩
   refine C7 [16] [ag,ae,af,aH,aM,iD,cI,(119,.v (.slice bz (k9_ + 1) bJ)),(121,.p 2 48)] 1 (A5 (B6 (A5 (A5 (B6 (A5 B8)))))) (fun _ h=>h.cells) iE mt fun uA mu=>?_
   refine C2 (i:=17) kz (D5 fD mu (oi:=2) (cs:=(ah :: ai :: aj :: ak :: al :: am :: aa :: ab :: aa :: aa :: ao :: ap :: ar :: au :: av :: aw :: aa :: ab :: aa :: aa :: ax :: aa :: ab :: aa :: aa :: ay :: aa :: ab :: aa :: aa :: az :: aa :: ab :: aa :: aa :: aA :: aa :: ab :: aa :: aa :: aB :: aa :: ab :: aa :: aa :: ac :: aa :: aD :: .slice bz (k9_ + 1) bJ :: aa :: ac :: aa :: ab :: aa :: aa :: ac :: aa :: ab :: aa :: aa :: [])) kz fun qw cK iF mw=>?_)
   refine ⟨fun h=>absurd rfl h,?_⟩
   refine E5 kz ?_ _
   refine A4 (D7 [0,1] kz ?_)
   have mx:World.ownsRow qw 0 37 5 (.slice bz (k9_ + 1) bJ) (k9_ + 1) (xs9_ ++ [ac,aa,ab,aa,aa]):=iF.own 0 _ rfl
   obtain ⟨my,iG⟩:=P8 mx (by omega)
   refine B2 (G6 mw (t:=34) (A:=bz) (m:=(k9_ + 1)) (q:=((k9_:Nat):Int)) (d:=122) kz (e:=37) (size:=5) (bytes:=88) kz (b:=my) (o:=0) (j:=k9_) iG (rfl) (by omega) fun uB mz=>?_)
   refine B2 (U3 iF mz (k:=0) (g:=my) (o:=k9_ * 5) (c:=bJ) (m:=(k9_ + 1)) (size:=5) (e:=37) (A:=bz) (xs:=(xs9_ ++ [ac,aa,ab,aa,aa])) (vs:=[d6,d7,.bool cJ,d8,d9]) kz rfl iG (by simp only [List.length_cons,List.length_nil]; omega) fun uC cL mA mB=>?_)
   have mC:(⟨bz,bJ,37,5,k9_ + 1,H8 (xs9_ ++ [.int .i64 0,.slice none 0 0,.bool false,.slice none 0 0,.slice none 0 0]) (k9_ * 5) [.int .i64 fq,.slice fw fr.length fx,.bool cJ,.slice fy ft.length fz,.slice fA fv.length fB]⟩:Rw) = ⟨bz,bJ,37,5,k9_ + 1,xs9_ ++ [.int .i64 fq,.slice fw fr.length fx,.bool cJ,.slice fy ft.length fz,.slice fA fv.length fB]⟩:=by rw [BX (by rw [hT9_.xslen,List.length_take,R3]; omega)]
   obtain ⟨iH,cM⟩:=mA.rowEq 0 [⟨bz,bJ,37,5,k9_ + 1,xs9_ ++ [d6,d7,.bool cJ,d8,d9]⟩,⟨some ⟨jK,0,none⟩,1,37,5,1,[ac,aa,ab,aa,aa]⟩] mC
   refine B5 (F2 (A4 (D7 [0,1] kz ?_)))
   refine B1 [0,1] [] [ag,ae,af,aH,(100,.v (.int .i64 (IntKind.i64.wrap (((k9_:Nat):Int) + 1))))] iH mB fun uD mD=>?_
   refine B5 (A4 ?_)
   obtain ⟨iI,mF,cN⟩:=iH.cutB mD 4 [aE,aL,⟨aC,0,(ah :: ai :: aj :: ak :: al :: am :: aa :: ab :: aa :: aa :: ao :: ap :: ar :: au :: av :: aw :: aa :: ab :: aa :: aa :: ax :: aa :: ab :: aa :: aa :: ay :: aa :: ab :: aa :: aa :: az :: aa :: ab :: aa :: aa :: aA :: aa :: ab :: aa :: aa :: aB :: aa :: ab :: aa :: aa :: ac :: aa :: aD :: .slice bz (k9_ + 1) bJ :: aa :: ac :: aa :: ab :: aa :: aa :: ac :: aa :: ab :: aa :: aa :: []),true⟩,aQ] [ag,ae,af,aH,(100,.v (.int .i64 (IntKind.i64.wrap (((k9_:Nat):Int) + 1))))]
   obtain ⟨mG,cO⟩:=mF.cutR 1 [⟨bz,bJ,37,5,k9_ + 1,xs9_ ++ [d6,d7,.bool cJ,d8,d9]⟩]
   have mH:IntKind.i64.wrap (((k9_:Nat):Int) + 1) = ((k9_ + 1:Nat):Int):=G8 (by omega)
   rw [mH] at iI
   exact ⟨(D.f 9).l - (k9_ + 1),by omega,k9_ + 1,bz,bJ,xs9_ ++ [Value.int .i64 fq,.slice fw fr.length fx,.bool cJ,.slice fy ft.length fz,.slice fA fv.length fB],(css9_ ++ [[Value.int .i64 fq,.slice fw fr.length fx,.bool cJ,.slice fy ft.length fz,.slice fA fv.length fB]]),rfl,by omega,by rw [V7 (by omega)]; exact (hT9_.move ((((((((((((aX.trans aN).trans aY).trans bj).trans b8).trans bI).trans bn).trans bK).trans cK).trans cL).trans cM).trans cN).trans cO).step immM ((((((((((((aX.trans aN).trans aY).trans bj).trans b8).trans bI).trans bn).trans bK).trans cK).trans cL).trans cM).trans cN).trans cO).to').snoc (x:=(fun i=>Br ((D.f 9).f i)) k9_) (fo.move ((((((bn.trans bK).trans cK).trans cL).trans cM).trans cN).trans cO).step immM ((((((bn.trans bK).trans cK).trans cL).trans cM).trans cN).trans cO).to'),iI.pk,mG,(((((((((((((bE.trans aX).trans aN).trans aY).trans bj).trans b8).trans bI).trans bn).trans bK).trans cK).trans cL).trans cM).trans cN).trans cO)⟩
  refine (L3 bk iz (e:=37) (size:=5) (len:=1) (cs:=[ac,aa,ab,aa,aa]) (d:=118) kz kz fun jL uE uF rA rB bL bo mI=>?_)
  have mJ:=TT.ofW bL bo
  refine ⟨fun _=>mJ,?_⟩
  refine C2 (i:=11) kz (D3 mI (f:=37) (vs:=[iB]) (d:=116) kz Tryz.call37 (GZ 0 ((D.f 9).f k9_) _ _ _ _ (fk.move bo.step A7 bo.imm) (BS _ bo.step A7 bo.imm (g10e k9_ (by omega)))) ?_)
  rintro e_ uG ⟨rC,rfl,mK,fE⟩
  have fF:=mK.move (Step.refl _ C1) A7 (bo.laid (G:=F) fE)
  obtain ⟨fG,fH,cP,fI,fJ,fK,fL,fM,fN,fO,fP,rD,rE,fQ,qx,qy,uH,uI⟩:=fF.open_
  rw [fQ] at fF
  have qz:=qx.small
  have qA:=qy.small
  rw [fQ]
  refine ⟨_,rfl,fun uJ mL=>?_⟩
  have ea:=bo.next_nil fE
  have cd:=bo.frN fE
  have mM:=TT.ofW (bL.trans cd) ea
  refine ⟨fun _=>mM,?_⟩
  refine C2 (i:=14) kz (I4 ea mL (k:=0) (d:=119) (t:=34) (e:=37) (size:=5) (bytes:=88) (A:=A9_) (As:=(some ⟨jL,0,none⟩)) (m0:=k9_) (c:=c9_) (m:=1) (cs:=1) (xs:=xs9_) (news:=[ac,aa,ab,aa,aa]) kz kz rfl (L0 (ea.own 1 _ rfl) (N4 kz)) (M1 (ea.own 1 _ rfl)) (by omega) fun bA bM uK uL bN fR mN=>?_)
  have mO:=TT.ofW ((bL.trans cd).trans bN) fR
  refine ⟨fun _=>mO,?_⟩
  refine C2 (i:=15) kz (G6 mN (t:=34) (A:=(some ⟨aC,0,none⟩)) (m:=12) (q:=9) (d:=120) kz (e:=37) (size:=5) (bytes:=88) (j:=9) kz (b:=aC) (o:=0) rfl rfl (by decide) fun uM mQ=>?_)
  have mR:=mQ.recast 120 (.v (.pointer (some ⟨aC,0 + 9 * 5,none⟩))) (.p 2 45) rfl rfl (Nat.le_of_ble_eq_true (n:=3) rfl)
  let eb:Value:=.int .i64 fG
  let ec:Value:=.slice fK fH.length fL
  let ee:Value:=.slice fM fI.length fN
  let ef:Value:=.slice fO fJ.length fP
  let iJ:Nat × SV:=(116,.v (.agg #[eb,ec,.bool cP,ee,ef]))
  have mS:=mR.pk (env':=[ag,ae,af,aH,aM,cE,fj,cG,cH,cI,iA,(118,.v (.slice (some ⟨jL,0,none⟩) 1 1)),iJ,(119,.v (.slice bA (k9_ + 1) bM)),(120,.p 2 45)])
  have iK:=TT.ofW ((bL.trans cd).trans bN) fR
  refine ⟨fun _=>iK,?_⟩
  refine C7 [16] [ag,ae,af,aH,aM,iJ,cI,(119,.v (.slice bA (k9_ + 1) bM)),(121,.p 2 48)] 1 (A5 (B6 (A5 (A5 (B6 (A5 B8)))))) (fun _ h=>h.cells) iK mS fun uN mT=>?_
  refine C2 (i:=17) kz (D5 fR mT (oi:=2) (cs:=(ah :: ai :: aj :: ak :: al :: am :: aa :: ab :: aa :: aa :: ao :: ap :: ar :: au :: av :: aw :: aa :: ab :: aa :: aa :: ax :: aa :: ab :: aa :: aa :: ay :: aa :: ab :: aa :: aa :: az :: aa :: ab :: aa :: aa :: aA :: aa :: ab :: aa :: aa :: aB :: aa :: ab :: aa :: aa :: ac :: aa :: aD :: .slice bA (k9_ + 1) bM :: aa :: ac :: aa :: ab :: aa :: aa :: ac :: aa :: ab :: aa :: aa :: [])) kz fun qB cQ iL mU=>?_)
  refine ⟨fun h=>absurd rfl h,?_⟩
  refine E5 kz ?_ _
  refine A4 (D7 [0,1] kz ?_)
  have mV:World.ownsRow qB 0 37 5 (.slice bA (k9_ + 1) bM) (k9_ + 1) (xs9_ ++ [ac,aa,ab,aa,aa]):=iL.own 0 _ rfl
  obtain ⟨mW,iM⟩:=P8 mV (by omega)
  refine B2 (G6 mU (t:=34) (A:=bA) (m:=(k9_ + 1)) (q:=((k9_:Nat):Int)) (d:=122) kz (e:=37) (size:=5) (bytes:=88) kz (b:=mW) (o:=0) (j:=k9_) iM (rfl) (by omega) fun uO mX=>?_)
  refine B2 (U3 iL mX (k:=0) (g:=mW) (o:=k9_ * 5) (c:=bM) (m:=(k9_ + 1)) (size:=5) (e:=37) (A:=bA) (xs:=(xs9_ ++ [ac,aa,ab,aa,aa])) (vs:=[eb,ec,.bool cP,ee,ef]) kz rfl iM (by simp only [List.length_cons,List.length_nil]; omega) fun uP cR mY mZ=>?_)
  have m4:(⟨bA,bM,37,5,k9_ + 1,H8 (xs9_ ++ [.int .i64 0,.slice none 0 0,.bool false,.slice none 0 0,.slice none 0 0]) (k9_ * 5) [.int .i64 fG,.slice fK fH.length fL,.bool cP,.slice fM fI.length fN,.slice fO fJ.length fP]⟩:Rw) = ⟨bA,bM,37,5,k9_ + 1,xs9_ ++ [.int .i64 fG,.slice fK fH.length fL,.bool cP,.slice fM fI.length fN,.slice fO fJ.length fP]⟩:=by rw [BX (by rw [hT9_.xslen,List.length_take,R3]; omega)]
  obtain ⟨iN,cS⟩:=mY.rowEq 0 [⟨bA,bM,37,5,k9_ + 1,xs9_ ++ [eb,ec,.bool cP,ee,ef]⟩,⟨some ⟨jL,0,none⟩,1,37,5,1,[ac,aa,ab,aa,aa]⟩] m4
  refine B5 (F2 (A4 (D7 [0,1] kz ?_)))
  refine B1 [0,1] [] [ag,ae,af,aH,(100,.v (.int .i64 (IntKind.i64.wrap (((k9_:Nat):Int) + 1))))] iN mZ fun uQ m5=>?_
  refine B5 (A4 ?_)
  obtain ⟨iO,m6,cT⟩:=iN.cutB m5 4 [aE,aL,⟨aC,0,(ah :: ai :: aj :: ak :: al :: am :: aa :: ab :: aa :: aa :: ao :: ap :: ar :: au :: av :: aw :: aa :: ab :: aa :: aa :: ax :: aa :: ab :: aa :: aa :: ay :: aa :: ab :: aa :: aa :: az :: aa :: ab :: aa :: aa :: aA :: aa :: ab :: aa :: aa :: aB :: aa :: ab :: aa :: aa :: ac :: aa :: aD :: .slice bA (k9_ + 1) bM :: aa :: ac :: aa :: ab :: aa :: aa :: ac :: aa :: ab :: aa :: aa :: []),true⟩,aQ] [ag,ae,af,aH,(100,.v (.int .i64 (IntKind.i64.wrap (((k9_:Nat):Int) + 1))))]
  obtain ⟨m7,cU⟩:=m6.cutR 1 [⟨bA,bM,37,5,k9_ + 1,xs9_ ++ [eb,ec,.bool cP,ee,ef]⟩]
  have m8:IntKind.i64.wrap (((k9_:Nat):Int) + 1) = ((k9_ + 1:Nat):Int):=G8 (by omega)
  rw [m8] at iO
  exact ⟨(D.f 9).l - (k9_ + 1),by omega,k9_ + 1,bA,bM,xs9_ ++ [Value.int .i64 fG,.slice fK fH.length fL,.bool cP,.slice fM fI.length fN,.slice fO fJ.length fP],(css9_ ++ [[Value.int .i64 fG,.slice fK fH.length fL,.bool cP,.slice fM fI.length fN,.slice fO fJ.length fP]]),rfl,by omega,by rw [V7 (by omega)]; exact (hT9_.move ((((((((((((aX.trans aN).trans aY).trans bj).trans b8).trans bL).trans cd).trans bN).trans cQ).trans cR).trans cS).trans cT).trans cU).step immM ((((((((((((aX.trans aN).trans aY).trans bj).trans b8).trans bL).trans cd).trans bN).trans cQ).trans cR).trans cS).trans cT).trans cU).to').snoc (x:=(fun i=>Br ((D.f 9).f i)) k9_) (fF.move (((((bN.trans cQ).trans cR).trans cS).trans cT).trans cU).step immM (((((bN.trans cQ).trans cR).trans cS).trans cT).trans cU).to'),iO.pk,m7,(((((((((((((bE.trans aX).trans aN).trans aY).trans bj).trans b8).trans bL).trans cd).trans bN).trans cQ).trans cR).trans cS).trans cT).trans cU)⟩
 have rF:=of_decide_eq_false eX
 refine wp_exit (E7 (E7 (G9 (A4 (G0 9 kz dO fun uR ce m9 fS=>?_)))))
 let iP:Nat × SV:=(143,.v (.slice (some ⟨aC,0,none⟩) 12 12))
 let fT:Nat × SV:=(148,.v (.bool (((D.f 10).A).isNone)))
 refine C7 [0,1,2,3,4,5,6] [ag,ae,af,iP,fT] 3 (A5 B8) (fun _ h=>h.cells) fS eW fun uS nf=>?_
 refine C2 (i:=7) kz (G6 nf (t:=34) (A:=(some ⟨aC,0,none⟩)) (m:=12) (q:=10) (d:=149) kz (e:=37) (size:=5) (bytes:=88) (j:=10) kz (b:=aC) (o:=0) rfl rfl (by decide) fun uT ng=>?_)
 have nh:=ng.recast 149 (.v (.pointer (some ⟨aC,0 + 10 * 5,none⟩))) (.p 2 50) rfl rfl (Nat.le_of_ble_eq_true (n:=3) rfl)
 have ni:=nh.pk (env':=[ag,ae,af,iP,fT,(149,.p 2 50)])
 refine ⟨fun _=>fS,?_⟩
 refine C7 [8] [ag,ae,af,fT,(150,.p 2 52)] 1 (A5 B8) (fun _ h=>h.cells) fS ni fun uU nj=>?_
 let aF:Value:=.slice A9_ k9_ c9_
 let aG:Value:=.bool (((D.f 10).A).isNone)
 refine C2 (i:=9) kz (D5 m9 nj (oi:=2) (cs:=(ah :: ai :: aj :: ak :: al :: am :: aa :: ab :: aa :: aa :: ao :: ap :: ar :: au :: av :: aw :: aa :: ab :: aa :: aa :: ax :: aa :: ab :: aa :: aa :: ay :: aa :: ab :: aa :: aa :: az :: aa :: ab :: aa :: aa :: aA :: aa :: ab :: aa :: aa :: aB :: aa :: ab :: aa :: aa :: ac :: aa :: aD :: aF :: aa :: ac :: aa :: aG :: aa :: aa :: ac :: aa :: ab :: aa :: aa :: [])) kz fun uV cm fU nk=>?_)
 refine ⟨fun h=>absurd rfl h,?_⟩
 refine E5 kz ?_ _
 refine A4 (wp_seq ?_)
 let aI:Nat × SV:=(155,.v (.int .i64 (((D.f 10).l:Nat):Int)))
 refine B7 [ag,ae,af,aI,(156,.v (.int .i64 0))] fU nk fun uW nl=>?_
 refine wp_block ?_
 have iQ:=fU.addNil 37 5
 have cq:=fU.frNil 37 5
 refine wp_loop_ghost (fun n_ a_ w_=>∃ (k10_:Nat) (A10_:Option Addr) (c10_:Nat) (xs10_:List Value) (css10_:List (List Value)),n_ = (D.f 10).l - k10_ ∧ k10_ ≤ (D.f 10).l ∧ (Trees w_ (E9 F w w_ [aE,aL,⟨aC,0,(ah :: ai :: aj :: ak :: al :: am :: aa :: ab :: aa :: aa :: ao :: ap :: ar :: au :: av :: aw :: aa :: ab :: aa :: aa :: ax :: aa :: ab :: aa :: aa :: ay :: aa :: ab :: aa :: aa :: az :: aa :: ab :: aa :: aa :: aA :: aa :: ab :: aa :: aa :: aB :: aa :: ab :: aa :: aa :: ac :: aa :: aD :: aF :: aa :: ac :: aa :: aG :: .slice A10_ k10_ c10_ :: aa :: ac :: aa :: ab :: aa :: aa :: []),true⟩,aQ] [⟨A9_,c9_,37,5,k9_,xs9_⟩,⟨A10_,c10_,37,5,k10_,xs10_⟩]) xs10_ (((List.range (D.f 10).l).map (fun i=>Bt ((D.f 10).f i))).take k10_) css10_) ∧ F9 iQ 216 [aE,aL,⟨aC,0,(ah :: ai :: aj :: ak :: al :: am :: aa :: ab :: aa :: aa :: ao :: ap :: ar :: au :: av :: aw :: aa :: ab :: aa :: aa :: ax :: aa :: ab :: aa :: aa :: ay :: aa :: ab :: aa :: aa :: az :: aa :: ab :: aa :: aa :: aA :: aa :: ab :: aa :: aa :: aB :: aa :: ab :: aa :: aa :: ac :: aa :: aD :: aF :: aa :: ac :: aa :: aG :: .slice A10_ k10_ c10_ :: aa :: ac :: aa :: ab :: aa :: aa :: []),true⟩,aQ] [⟨A9_,c9_,37,5,k9_,xs9_⟩,⟨A10_,c10_,37,5,k10_,xs10_⟩] [ag,ae,af,aI,(156,.v (.int .i64 ((k10_:Nat):Int)))] a_ w_) ((D.f 10).l) ⟨0,none,0,[],[],by omega,by omega,Trees.nil _ _,nl.pk,iQ,Fr.refl _ _ _⟩ ?_
 rintro uX uY uZ ⟨k10_,A10_,c10_,xs10_,css10_,rG,rH,hT10_,nm,eg,aZ⟩
 let aO:Nat × SV:=(156,.v (.int .i64 ((k10_:Nat):Int)))
 refine B7 [ag,ae,af,aI,aO,(157,.v (.bool (decide (((k10_:Nat):Int) < (((D.f 10).l:Nat):Int)))))] eg nm fun u0 fV=>?_
 refine wp_seq (D4 fV (b:=decide (((k10_:Nat):Int) < (((D.f 10).l:Nat):Int))) kz (fun fW=>?_) (fun fW=>?_))
 ·
  have rI:=of_decide_eq_true fW
  refine wp_skip (A4 (wp_seq (wp_block ?_)))
  let fX:Nat × SV:=(5,.v (.int .i64 ((k10_:Nat):Int)))
  refine B7 [ag,ae,af,fX,aI,aO] eg fV fun u1 np=>?_
  refine G0 4 kz eg fun u2 ba nr rJ=>?_
  refine C2 (i:=0) kz (H4 nr np (d:=159) (cs:=[ab]) kz fun u3 u4 u6 rK rL aP fY iR=>?_)
  have ns:=TT.ofW aP fY
  refine ⟨fun _=>ns,?_⟩
  refine Bp (i:=1) (j:=2) kz ?_ ?_
  ·
   refine (D5 fY iR (oi:=4) (cs:=[.bool true]) kz fun u7 cr iS nt=>?_)
   have nu:=TT.ofW (aP.trans cr) iS
   refine ⟨fun _=>nu,?_⟩
   refine C2 (i:=2) kz (D5 iS nt (oi:=4) (cs:=[ab]) kz fun u9 cV eh nv=>?_)
   have nw:=TT.ofW ((aP.trans cr).trans cV) eh
   refine ⟨fun _=>nw,?_⟩
   refine C2 (i:=3) kz (L4 [0,2,3,5,155,156,160] eh.cells nv (env':=[ag,ae,af,fX,aI,aO,(160,.v (.bool false))]) kz fun va iT=>?_)
   have nx:=TT.ofW ((aP.trans cr).trans cV) eh
   refine ⟨fun _=>nx,?_⟩
   refine E5 kz ?_ _
   refine A4 (E6 iT (b:=false) kz rfl ?_)
   refine S8 18 kz eh fun vb fZ bO ei=>?_
   let ej:Nat × SV:=(180,.v (.slice (some ⟨aC,0,none⟩) 12 12))
   let iU:Nat × SV:=(182,.v (.slice (some ⟨aC,0,none⟩) 12 12))
   let ek:Nat × SV:=(189,.v (.slice ((D.f 10).A) ((D.f 10).l) ((D.f 10).c)))
   let em:Nat × SV:=(190,.v (.int .i64 ((k10_:Nat):Int)))
   refine C7 [0,1,2,3,7,8,9,10,11] [ag,ae,af,aI,aO,ej,iU,ek,em] 10 (B6 (A5 (A5 (B6 (A5 B8))))) (fun _ h=>h.cells) ei iT fun vc ny=>?_
   refine F6 ny (i:=4) (t:=34) (A:=(some ⟨aC,0,none⟩)) (m:=12) (q:=10) (d:=183) kz (e:=37) (size:=5) (bytes:=88) (j:=10) kz (b:=aC) (o:=0) rfl rfl (by decide) kz kz (B6 (A5 (A5 (B6 (A5 B8))))) ei fun vd nz=>?_
   have nA:=nz.recast 183 (.v (.pointer (some ⟨aC,0 + 10 * 5,none⟩))) (.p 2 50) rfl rfl (Nat.le_of_ble_eq_true (n:=3) rfl)
   have nB:=nA.pk (env':=[ag,ae,af,aI,aO,ej,iU,ek,em,(183,.p 2 50)])
   refine C7 [5,6] [ag,ae,af,aI,aO,ej,(185,.v (.slice A10_ k10_ c10_)),ek,em] 7 (B6 (A5 (A5 (B6 (A5 B8))))) (fun _ h=>h.cells) ei nB fun ve nC=>?_
   obtain ⟨nD,nE,nF,rM,jM⟩:=Slots.get qU (i:=k10_) (by omega)
   refine F6 nC (i:=12) (t:=79) (A:=(D.f 10).A) (m:=((D.f 10).l)) (q:=((k10_:Nat):Int)) (d:=191) kz (e:=96) (size:=19) (bytes:=64) kz nF rfl (by omega) kz kz (B6 (A5 (A5 (B6 (A5 B8))))) ei fun vf nG=>?_
   refine C2 (i:=13) kz (D3 nG (f:=38) (vs:=[.pointer (some ⟨nD,nE + k10_ * 19,none⟩)]) (d:=192) kz Tryz.call38 (Ha 0 ((D.f 10).f k10_) _ _ _ _ (jM.move bO.step A7 bO.imm) (BT _ bO.step A7 bO.imm (g11e k10_ (by omega)))) ?_)
   rintro e_ vg ⟨rN,rfl,nH,f5⟩
   have f7:=nH.move (Step.refl _ C1) A7 (bO.laid (G:=F) f5)
   obtain ⟨jN,jO,eL,jP,jQ,jR,jS,jT,jU,jV,jW,rO,rP,f8,qC,qD,vh,vj⟩:=f7.open_
   rw [f8] at f7
   have qE:=qC.small
   have qF:=qD.small
   rw [f8]
   refine ⟨_,rfl,fun vk nI=>?_⟩
   have iV:=bO.next_nil f5
   have bP:=bO.frN f5
   have nJ:=TT.ofW bP iV
   refine ⟨fun _=>nJ,?_⟩
   let eo:Value:=.int .i64 jN
   let ep:Value:=.slice jR jO.length jS
   let eu:Value:=.slice jT jP.length jU
   let ev:Value:=.slice jV jQ.length jW
   refine C2 (i:=14) kz (L3 iV nI (e:=37) (size:=5) (len:=1) (cs:=[eo,ep,.bool eL,eu,ev]) (d:=193) kz kz fun nK vl vm rQ rR bp ew nL=>?_)
   have nM:=TT.ofW (bP.trans bp) ew
   refine ⟨fun _=>nM,?_⟩
   refine C2 (i:=15) kz (I4 ew nL (k:=1) (d:=194) (t:=34) (e:=37) (size:=5) (bytes:=88) (A:=A10_) (As:=(some ⟨nK,0,none⟩)) (m0:=k10_) (c:=c10_) (m:=1) (cs:=1) (xs:=xs10_) (news:=[eo,ep,.bool eL,eu,ev]) kz kz rfl (L0 (ew.own 2 _ rfl) (N4 kz)) (M1 (ew.own 2 _ rfl)) (by omega) fun f9 ga vn vo bQ gb nN=>?_)
   have nO:=TT.ofW ((bP.trans bp).trans bQ) gb
   refine ⟨fun _=>nO,?_⟩
   refine C2 (i:=16) kz (G6 nN (t:=34) (A:=(some ⟨aC,0,none⟩)) (m:=12) (q:=10) (d:=195) kz (e:=37) (size:=5) (bytes:=88) (j:=10) kz (b:=aC) (o:=0) rfl rfl (by decide) fun vp nP=>?_)
   have nQ:=nP.recast 195 (.v (.pointer (some ⟨aC,0 + 10 * 5,none⟩))) (.p 2 50) rfl rfl (Nat.le_of_ble_eq_true (n:=3) rfl)
   let iW:Nat × SV:=(194,.v (.slice f9 (k10_ + 1) ga))
   have nR:=nQ.pk (env':=[ag,ae,af,aI,aO,ej,(185,.v (.slice A10_ k10_ c10_)),ek,em,(191,.v (.pointer (some ⟨nD,nE + k10_ * 19,none⟩))),(192,.v (.agg #[eo,ep,.bool eL,eu,ev])),(193,.v (.slice (some ⟨nK,0,none⟩) 1 1)),iW,(195,.p 2 50)])
   have iX:=TT.ofW ((bP.trans bp).trans bQ) gb
   refine ⟨fun _=>iX,?_⟩
   refine C7 [17] [ag,ae,af,aI,aO,iW,(196,.p 2 53)] 1 (B6 (A5 (A5 (B6 (A5 B8))))) (fun _ h=>h.cells) iX nR fun vq nS=>?_
   refine C2 (i:=18) kz (D5 gb nS (oi:=2) (cs:=(ah :: ai :: aj :: ak :: al :: am :: aa :: ab :: aa :: aa :: ao :: ap :: ar :: au :: av :: aw :: aa :: ab :: aa :: aa :: ax :: aa :: ab :: aa :: aa :: ay :: aa :: ab :: aa :: aa :: az :: aa :: ab :: aa :: aa :: aA :: aa :: ab :: aa :: aa :: aB :: aa :: ab :: aa :: aa :: ac :: aa :: aD :: aF :: aa :: ac :: aa :: aG :: .slice f9 (k10_ + 1) ga :: aa :: ac :: aa :: ab :: aa :: aa :: [])) kz fun vr cW iY nT=>?_)
   refine ⟨fun h=>absurd rfl h,?_⟩
   refine E5 kz ?_ _
   refine F2 (A4 (D7 [0,1] kz ?_))
   refine B1 [0,1] [] [ag,ae,af,aI,(156,.v (.int .i64 (IntKind.i64.wrap (((k10_:Nat):Int) + 1))))] iY nT fun vt nU=>?_
   refine B5 (A4 ?_)
   obtain ⟨iZ,nV,cX⟩:=iY.cutB nU 4 [aE,aL,⟨aC,0,(ah :: ai :: aj :: ak :: al :: am :: aa :: ab :: aa :: aa :: ao :: ap :: ar :: au :: av :: aw :: aa :: ab :: aa :: aa :: ax :: aa :: ab :: aa :: aa :: ay :: aa :: ab :: aa :: aa :: az :: aa :: ab :: aa :: aa :: aA :: aa :: ab :: aa :: aa :: aB :: aa :: ab :: aa :: aa :: ac :: aa :: aD :: aF :: aa :: ac :: aa :: aG :: .slice f9 (k10_ + 1) ga :: aa :: ac :: aa :: ab :: aa :: aa :: []),true⟩,aQ] [ag,ae,af,aI,(156,.v (.int .i64 (IntKind.i64.wrap (((k10_:Nat):Int) + 1))))]
   obtain ⟨nW,cY⟩:=nV.cutR 2 [⟨A9_,c9_,37,5,k9_,xs9_⟩,⟨f9,ga,37,5,k10_ + 1,xs10_ ++ [eo,ep,.bool eL,eu,ev]⟩]
   have nX:IntKind.i64.wrap (((k10_:Nat):Int) + 1) = ((k10_ + 1:Nat):Int):=G8 (by omega)
   rw [nX] at iZ
   exact ⟨(D.f 10).l - (k10_ + 1),by omega,k10_ + 1,f9,ga,xs10_ ++ [Value.int .i64 jN,.slice jR jO.length jS,.bool eL,.slice jT jP.length jU,.slice jV jQ.length jW],(css10_ ++ [[Value.int .i64 jN,.slice jR jO.length jS,.bool eL,.slice jT jP.length jU,.slice jV jQ.length jW]]),rfl,by omega,by rw [V7 (by omega)]; exact (hT10_.move ((((((((((ba.trans aP).trans cr).trans cV).trans fZ).trans bP).trans bp).trans bQ).trans cW).trans cX).trans cY).step immM ((((((((((ba.trans aP).trans cr).trans cV).trans fZ).trans bP).trans bp).trans bQ).trans cW).trans cX).trans cY).to').snoc (x:=(fun i=>Bt ((D.f 10).f i)) k10_) (f7.move ((((bp.trans bQ).trans cW).trans cX).trans cY).step immM ((((bp.trans bQ).trans cW).trans cX).trans cY).to'),iZ.pk,nW,(((((((((((aZ.trans ba).trans aP).trans cr).trans cV).trans fZ).trans bP).trans bp).trans bQ).trans cW).trans cX).trans cY)⟩
  refine (D5 fY iR (oi:=4) (cs:=[ab]) kz fun vu bd i6 nY=>?_)
  have nZ:=TT.ofW (aP.trans bd) i6
  refine ⟨fun _=>nZ,?_⟩
  refine C2 (i:=1) kz (D5 i6 nY (oi:=4) (cs:=[.bool true]) kz fun vv bq ey n0=>?_)
  have n4:=TT.ofW ((aP.trans bd).trans bq) ey
  refine ⟨fun _=>n4,?_⟩
  refine C2 (i:=3) kz (L4 [0,2,3,5,155,156,160] ey.cells n0 (env':=[ag,ae,af,fX,aI,aO,(160,.v (.bool true))]) kz fun vw i7=>?_)
  have n5:=TT.ofW ((aP.trans bd).trans bq) ey
  refine ⟨fun _=>n5,?_⟩
  refine E5 kz ?_ _
  refine A4 (I7 i7 (b:=true) kz rfl ?_)
  refine G0 17 kz ey fun vx cu bt ez=>?_
  let cZ:Nat × SV:=(162,.v (.slice (some ⟨aC,0,none⟩) 12 12))
  let da:Nat × SV:=(169,.v (.slice ((D.f 10).A) ((D.f 10).l) ((D.f 10).c)))
  let db:Nat × SV:=(170,.v (.int .i64 ((k10_:Nat):Int)))
  refine C7 [0,1,5,6,7,8,9] [ag,ae,af,aI,aO,cZ,da,db] 11 (A5 (B6 (A5 (A5 (B6 (A5 B8)))))) (fun _ h=>h.cells) ez i7 fun vy n8=>?_
  refine F6 n8 (i:=2) (t:=34) (A:=(some ⟨aC,0,none⟩)) (m:=12) (q:=10) (d:=163) kz (e:=37) (size:=5) (bytes:=88) (j:=10) kz (b:=aC) (o:=0) rfl rfl (by decide) kz kz (A5 (B6 (A5 (A5 (B6 (A5 B8)))))) ez fun vz oa=>?_
  have od:=oa.recast 163 (.v (.pointer (some ⟨aC,0 + 10 * 5,none⟩))) (.p 2 50) rfl rfl (Nat.le_of_ble_eq_true (n:=3) rfl)
  have oe:=od.pk (env':=[ag,ae,af,aI,aO,cZ,da,db,(163,.p 2 50)])
  let gc:Nat × SV:=(165,.v (.slice A10_ k10_ c10_))
  let dc:Nat × SV:=(173,.v (.int .i64 ((k10_:Nat):Int)))
  refine C7 [3,4,12] [ag,ae,af,aI,aO,cZ,gc,da,db,dc] 7 (A5 (B6 (A5 (A5 (B6 (A5 B8)))))) (fun _ h=>h.cells) ez oe fun vA og=>?_
  obtain ⟨oh,ol,om,rS,gd⟩:=Slots.get qU (i:=k10_) (by omega)
  refine F6 og (i:=10) (t:=79) (A:=(D.f 10).A) (m:=((D.f 10).l)) (q:=((k10_:Nat):Int)) (d:=171) kz (e:=96) (size:=19) (bytes:=64) kz om rfl (by omega) kz kz (A5 (B6 (A5 (A5 (B6 (A5 B8)))))) ez fun vB ja=>?_
  let jb:Nat × SV:=(171,.v (.pointer (some ⟨oh,ol + k10_ * 19,none⟩)))
  let jc:Value:=.pointer (some ⟨oh,ol + k10_ * 19,none⟩)
  refine Bp (i:=11) (j:=13) kz ?_ ?_
  ·
   refine (D3 ja (f:=38) (vs:=[jc]) (d:=172) kz Tryz.call38 (Ha 0 ((D.f 10).f k10_) _ _ _ _ (gd.move bt.step A7 bt.imm) (BT _ bt.step A7 bt.imm (g11e k10_ (by omega)))) ?_)
   rintro e_ vC ⟨rT,rfl,oq,ge⟩
   have gg:=oq.move (Step.refl _ C1) A7 (bt.laid (G:=F) ge)
   obtain ⟨de,gh,df,gi,gj,gk,gl,gm,gn,gp,gq,rV,rW,gt,qG,qH,vD,vE⟩:=gg.open_
   rw [gt] at gg
   have qI:=qG.small
   have qJ:=qH.small
   rw [gt]
   refine ⟨_,rfl,fun vF ot=>?_⟩
   have jd:=bt.next_nil ge
   have bR:=bt.frN ge
   have ou:=TT.ofW bR jd
   refine ⟨fun _=>ou,?_⟩
   refine C2 (i:=13) kz (L3 jd ot (e:=37) (size:=5) (len:=1) (cs:=[ac,aa,ab,aa,aa]) (d:=174) kz kz fun jX vG vH rX rY bu eB ov=>?_)
   have ow:=TT.ofW (bR.trans bu) eB
   refine ⟨fun _=>ow,?_⟩
   refine C2 (i:=14) kz (I4 eB ov (k:=1) (d:=175) (t:=34) (e:=37) (size:=5) (bytes:=88) (A:=A10_) (As:=(some ⟨jX,0,none⟩)) (m0:=k10_) (c:=c10_) (m:=1) (cs:=1) (xs:=xs10_) (news:=[ac,aa,ab,aa,aa]) kz kz rfl (L0 (eB.own 2 _ rfl) (N4 kz)) (M1 (eB.own 2 _ rfl)) (by omega) fun bB bS vI vJ bT gv ox=>?_)
   have oy:=TT.ofW ((bR.trans bu).trans bT) gv
   refine ⟨fun _=>oy,?_⟩
   refine C2 (i:=15) kz (G6 ox (t:=34) (A:=(some ⟨aC,0,none⟩)) (m:=12) (q:=10) (d:=176) kz (e:=37) (size:=5) (bytes:=88) (j:=10) kz (b:=aC) (o:=0) rfl rfl (by decide) fun vK oz=>?_)
   have oA:=oz.recast 176 (.v (.pointer (some ⟨aC,0 + 10 * 5,none⟩))) (.p 2 50) rfl rfl (Nat.le_of_ble_eq_true (n:=3) rfl)
   let eC:Value:=.slice gk gh.length gl
   let eD:Value:=.slice gm gi.length gn
   let eE:Value:=.slice gp gj.length gq
   let je:Nat × SV:=(172,.v (.agg #[.int .i64 de,eC,.bool df,eD,eE]))
   have oB:=oA.pk (env':=[ag,ae,af,aI,aO,cZ,gc,da,db,dc,jb,je,(174,.v (.slice (some ⟨jX,0,none⟩) 1 1)),(175,.v (.slice bB (k10_ + 1) bS)),(176,.p 2 50)])
   have jf:=TT.ofW ((bR.trans bu).trans bT) gv
   refine ⟨fun _=>jf,?_⟩
   refine C7 [16] [ag,ae,af,aI,aO,je,dc,(175,.v (.slice bB (k10_ + 1) bS)),(177,.p 2 53)] 1 (A5 (B6 (A5 (A5 (B6 (A5 B8)))))) (fun _ h=>h.cells) jf oB fun vL oC=>?_
   refine C2 (i:=17) kz (D5 gv oC (oi:=2) (cs:=(ah :: ai :: aj :: ak :: al :: am :: aa :: ab :: aa :: aa :: ao :: ap :: ar :: au :: av :: aw :: aa :: ab :: aa :: aa :: ax :: aa :: ab :: aa :: aa :: ay :: aa :: ab :: aa :: aa :: az :: aa :: ab :: aa :: aa :: aA :: aa :: ab :: aa :: aa :: aB :: aa :: ab :: aa :: aa :: ac :: aa :: aD :: aF :: aa :: ac :: aa :: aG :: .slice bB (k10_ + 1) bS :: aa :: ac :: aa :: ab :: aa :: aa :: [])) kz fun qK dg jg oD=>?_)
   refine ⟨fun h=>absurd rfl h,?_⟩
   refine E5 kz ?_ _
   refine A4 (D7 [0,1] kz ?_)
   have oE:World.ownsRow qK 0 37 5 (.slice bB (k10_ + 1) bS) (k10_ + 1) (xs10_ ++ [ac,aa,ab,aa,aa]):=jg.own 1 _ rfl
   obtain ⟨oF,jh⟩:=P8 oE (by omega)
   refine B2 (G6 oD (t:=34) (A:=bB) (m:=(k10_ + 1)) (q:=((k10_:Nat):Int)) (d:=178) kz (e:=37) (size:=5) (bytes:=88) kz (b:=oF) (o:=0) (j:=k10_) jh (rfl) (by omega) fun vM oG=>?_)
   refine B2 (U3 jg oG (k:=1) (g:=oF) (o:=k10_ * 5) (c:=bS) (m:=(k10_ + 1)) (size:=5) (e:=37) (A:=bB) (xs:=(xs10_ ++ [ac,aa,ab,aa,aa])) (vs:=[.int .i64 de,eC,.bool df,eD,eE]) kz rfl jh (by simp only [List.length_cons,List.length_nil]; omega) fun vN dh oH oI=>?_)
   have oJ:(⟨bB,bS,37,5,k10_ + 1,H8 (xs10_ ++ [.int .i64 0,.slice none 0 0,.bool false,.slice none 0 0,.slice none 0 0]) (k10_ * 5) [.int .i64 de,.slice gk gh.length gl,.bool df,.slice gm gi.length gn,.slice gp gj.length gq]⟩:Rw) = ⟨bB,bS,37,5,k10_ + 1,xs10_ ++ [.int .i64 de,.slice gk gh.length gl,.bool df,.slice gm gi.length gn,.slice gp gj.length gq]⟩:=by rw [BX (by rw [hT10_.xslen,List.length_take,R3]; omega)]
   obtain ⟨ji,di⟩:=oH.rowEq 1 [⟨A9_,c9_,37,5,k9_,xs9_⟩,⟨bB,bS,37,5,k10_ + 1,xs10_ ++ [.int .i64 de,eC,.bool df,eD,eE]⟩,⟨some ⟨jX,0,none⟩,1,37,5,1,[ac,aa,ab,aa,aa]⟩] oJ
   refine B5 (F2 (A4 (D7 [0,1] kz ?_)))
   refine B1 [0,1] [] [ag,ae,af,aI,(156,.v (.int .i64 (IntKind.i64.wrap (((k10_:Nat):Int) + 1))))] ji oI fun vO oK=>?_
   refine B5 (A4 ?_)
   obtain ⟨jj,oL,dj⟩:=ji.cutB oK 4 [aE,aL,⟨aC,0,(ah :: ai :: aj :: ak :: al :: am :: aa :: ab :: aa :: aa :: ao :: ap :: ar :: au :: av :: aw :: aa :: ab :: aa :: aa :: ax :: aa :: ab :: aa :: aa :: ay :: aa :: ab :: aa :: aa :: az :: aa :: ab :: aa :: aa :: aA :: aa :: ab :: aa :: aa :: aB :: aa :: ab :: aa :: aa :: ac :: aa :: aD :: aF :: aa :: ac :: aa :: aG :: .slice bB (k10_ + 1) bS :: aa :: ac :: aa :: ab :: aa :: aa :: []),true⟩,aQ] [ag,ae,af,aI,(156,.v (.int .i64 (IntKind.i64.wrap (((k10_:Nat):Int) + 1))))]
   obtain ⟨oM,dl⟩:=oL.cutR 2 [⟨A9_,c9_,37,5,k9_,xs9_⟩,⟨bB,bS,37,5,k10_ + 1,xs10_ ++ [.int .i64 de,eC,.bool df,eD,eE]⟩]
   have oN:IntKind.i64.wrap (((k10_:Nat):Int) + 1) = ((k10_ + 1:Nat):Int):=G8 (by omega)
   rw [oN] at jj
   exact ⟨(D.f 10).l - (k10_ + 1),by omega,k10_ + 1,bB,bS,xs10_ ++ [Value.int .i64 de,.slice gk gh.length gl,.bool df,.slice gm gi.length gn,.slice gp gj.length gq],(css10_ ++ [[Value.int .i64 de,.slice gk gh.length gl,.bool df,.slice gm gi.length gn,.slice gp gj.length gq]]),rfl,by omega,by rw [V7 (by omega)]; exact (hT10_.move ((((((((((((ba.trans aP).trans bd).trans bq).trans cu).trans bR).trans bu).trans bT).trans dg).trans dh).trans di).trans dj).trans dl).step immM ((((((((((((ba.trans aP).trans bd).trans bq).trans cu).trans bR).trans bu).trans bT).trans dg).trans dh).trans di).trans dj).trans dl).to').snoc (x:=(fun i=>Bt ((D.f 10).f i)) k10_) (gg.move ((((((bu.trans bT).trans dg).trans dh).trans di).trans dj).trans dl).step immM ((((((bu.trans bT).trans dg).trans dh).trans di).trans dj).trans dl).to'),jj.pk,oM,(((((((((((((aZ.trans ba).trans aP).trans bd).trans bq).trans cu).trans bR).trans bu).trans bT).trans dg).trans dh).trans di).trans dj).trans dl)⟩
  refine (L3 bt ja (e:=37) (size:=5) (len:=1) (cs:=[ac,aa,ab,aa,aa]) (d:=174) kz kz fun jY vP vQ rZ sa bU bw oO=>?_)
  have oP:=TT.ofW bU bw
  refine ⟨fun _=>oP,?_⟩
  refine C2 (i:=11) kz (D3 oO (f:=38) (vs:=[jc]) (d:=172) kz Tryz.call38 (Ha 0 ((D.f 10).f k10_) _ _ _ _ (gd.move bw.step A7 bw.imm) (BT _ bw.step A7 bw.imm (g11e k10_ (by omega)))) ?_)
  rintro e_ vR ⟨sc,rfl,oQ,gw⟩
  have gx:=oQ.move (Step.refl _ C1) A7 (bw.laid (G:=F) gw)
  obtain ⟨dp,gy,dq,gz,gA,gB,gC,gD,gE,gF,gG,sd,se,gH,qL,qM,vS,vT⟩:=gx.open_
  rw [gH] at gx
  have qN:=qL.small
  have qO:=qM.small
  rw [gH]
  refine ⟨_,rfl,fun vU oR=>?_⟩
  have eF:=bw.next_nil gw
  have cw:=bw.frN gw
  have oS:=TT.ofW (bU.trans cw) eF
  refine ⟨fun _=>oS,?_⟩
  refine C2 (i:=14) kz (I4 eF oR (k:=1) (d:=175) (t:=34) (e:=37) (size:=5) (bytes:=88) (A:=A10_) (As:=(some ⟨jY,0,none⟩)) (m0:=k10_) (c:=c10_) (m:=1) (cs:=1) (xs:=xs10_) (news:=[ac,aa,ab,aa,aa]) kz kz rfl (L0 (eF.own 2 _ rfl) (N4 kz)) (M1 (eF.own 2 _ rfl)) (by omega) fun bC bV vV vW bW gI oT=>?_)
  have oU:=TT.ofW ((bU.trans cw).trans bW) gI
  refine ⟨fun _=>oU,?_⟩
  refine C2 (i:=15) kz (G6 oT (t:=34) (A:=(some ⟨aC,0,none⟩)) (m:=12) (q:=10) (d:=176) kz (e:=37) (size:=5) (bytes:=88) (j:=10) kz (b:=aC) (o:=0) rfl rfl (by decide) fun vX oV=>?_)
  have oW:=oV.recast 176 (.v (.pointer (some ⟨aC,0 + 10 * 5,none⟩))) (.p 2 50) rfl rfl (Nat.le_of_ble_eq_true (n:=3) rfl)
  let eG:Value:=.slice gB gy.length gC
  let eH:Value:=.slice gD gz.length gE
  let eI:Value:=.slice gF gA.length gG
  let jk:Nat × SV:=(172,.v (.agg #[.int .i64 dp,eG,.bool dq,eH,eI]))
  have oX:=oW.pk (env':=[ag,ae,af,aI,aO,cZ,gc,da,db,dc,jb,(174,.v (.slice (some ⟨jY,0,none⟩) 1 1)),jk,(175,.v (.slice bC (k10_ + 1) bV)),(176,.p 2 50)])
  have jl:=TT.ofW ((bU.trans cw).trans bW) gI
  refine ⟨fun _=>jl,?_⟩
  refine C7 [16] [ag,ae,af,aI,aO,jk,dc,(175,.v (.slice bC (k10_ + 1) bV)),(177,.p 2 53)] 1 (A5 (B6 (A5 (A5 (B6 (A5 B8)))))) (fun _ h=>h.cells) jl oX fun vY oY=>?_
  refine C2 (i:=17) kz (D5 gI oY (oi:=2) (cs:=(ah :: ai :: aj :: ak :: al :: am :: aa :: ab :: aa :: aa :: ao :: ap :: ar :: au :: av :: aw :: aa :: ab :: aa :: aa :: ax :: aa :: ab :: aa :: aa :: ay :: aa :: ab :: aa :: aa :: az :: aa :: ab :: aa :: aa :: aA :: aa :: ab :: aa :: aa :: aB :: aa :: ab :: aa :: aa :: ac :: aa :: aD :: aF :: aa :: ac :: aa :: aG :: .slice bC (k10_ + 1) bV :: aa :: ac :: aa :: ab :: aa :: aa :: [])) kz fun qP dr jm oZ=>?_)
  refine ⟨fun h=>absurd rfl h,?_⟩
  refine E5 kz ?_ _
  refine A4 (D7 [0,1] kz ?_)
  have o5:World.ownsRow qP 0 37 5 (.slice bC (k10_ + 1) bV) (k10_ + 1) (xs10_ ++ [ac,aa,ab,aa,aa]):=jm.own 1 _ rfl
  obtain ⟨o6,jn⟩:=P8 o5 (by omega)
  refine B2 (G6 oZ (t:=34) (A:=bC) (m:=(k10_ + 1)) (q:=((k10_:Nat):Int)) (d:=178) kz (e:=37) (size:=5) (bytes:=88) kz (b:=o6) (o:=0) (j:=k10_) jn (rfl) (by omega) fun vZ o7=>?_)
  refine B2 (U3 jm o7 (k:=1) (g:=o6) (o:=k10_ * 5) (c:=bV) (m:=(k10_ + 1)) (size:=5) (e:=37) (A:=bC) (xs:=(xs10_ ++ [ac,aa,ab,aa,aa])) (vs:=[.int .i64 dp,eG,.bool dq,eH,eI]) kz rfl jn (by simp only [List.length_cons,List.length_nil]; omega) fun v2 dt o9 pa=>?_)
  have pb:(⟨bC,bV,37,5,k10_ + 1,H8 (xs10_ ++ [.int .i64 0,.slice none 0 0,.bool false,.slice none 0 0,.slice none 0 0]) (k10_ * 5) [.int .i64 dp,.slice gB gy.length gC,.bool dq,.slice gD gz.length gE,.slice gF gA.length gG]⟩:Rw) = ⟨bC,bV,37,5,k10_ + 1,xs10_ ++ [.int .i64 dp,.slice gB gy.length gC,.bool dq,.slice gD gz.length gE,.slice gF gA.length gG]⟩:=by rw [BX (by rw [hT10_.xslen,List.length_take,R3]; omega)]
  obtain ⟨jo,du⟩:=o9.rowEq 1 [⟨A9_,c9_,37,5,k9_,xs9_⟩,⟨bC,bV,37,5,k10_ + 1,xs10_ ++ [.int .i64 dp,eG,.bool dq,eH,eI]⟩,⟨some ⟨jY,0,none⟩,1,37,5,1,[ac,aa,ab,aa,aa]⟩] pb
  refine B5 (F2 (A4 (D7 [0,1] kz ?_)))
  refine B1 [0,1] [] [ag,ae,af,aI,(156,.v (.int .i64 (IntKind.i64.wrap (((k10_:Nat):Int) + 1))))] jo pa fun v6 pc=>?_
  refine B5 (A4 ?_)
  obtain ⟨jp,pd,dv⟩:=jo.cutB pc 4 [aE,aL,⟨aC,0,(ah :: ai :: aj :: ak :: al :: am :: aa :: ab :: aa :: aa :: ao :: ap :: ar :: au :: av :: aw :: aa :: ab :: aa :: aa :: ax :: aa :: ab :: aa :: aa :: ay :: aa :: ab :: aa :: aa :: az :: aa :: ab :: aa :: aa :: aA :: aa :: ab :: aa :: aa :: aB :: aa :: ab :: aa :: aa :: ac :: aa :: aD :: aF :: aa :: ac :: aa :: aG :: .slice bC (k10_ + 1) bV :: aa :: ac :: aa :: ab :: aa :: aa :: []),true⟩,aQ] [ag,ae,af,aI,(156,.v (.int .i64 (IntKind.i64.wrap (((k10_:Nat):Int) + 1))))]
  obtain ⟨pe,dw⟩:=pd.cutR 2 [⟨A9_,c9_,37,5,k9_,xs9_⟩,⟨bC,bV,37,5,k10_ + 1,xs10_ ++ [.int .i64 dp,eG,.bool dq,eH,eI]⟩]
  have pf:IntKind.i64.wrap (((k10_:Nat):Int) + 1) = ((k10_ + 1:Nat):Int):=G8 (by omega)
  rw [pf] at jp
  exact ⟨(D.f 10).l - (k10_ + 1),by omega,k10_ + 1,bC,bV,xs10_ ++ [Value.int .i64 dp,.slice gB gy.length gC,.bool dq,.slice gD gz.length gE,.slice gF gA.length gG],(css10_ ++ [[Value.int .i64 dp,.slice gB gy.length gC,.bool dq,.slice gD gz.length gE,.slice gF gA.length gG]]),rfl,by omega,by rw [V7 (by omega)]; exact (hT10_.move ((((((((((((ba.trans aP).trans bd).trans bq).trans cu).trans bU).trans cw).trans bW).trans dr).trans dt).trans du).trans dv).trans dw).step immM ((((((((((((ba.trans aP).trans bd).trans bq).trans cu).trans bU).trans cw).trans bW).trans dr).trans dt).trans du).trans dv).trans dw).to').snoc (x:=(fun i=>Bt ((D.f 10).f i)) k10_) (gx.move (((((bW.trans dr).trans dt).trans du).trans dv).trans dw).step immM (((((bW.trans dr).trans dt).trans du).trans dv).trans dw).to'),jp.pk,pe,(((((((((((((aZ.trans ba).trans aP).trans bd).trans bq).trans cu).trans bU).trans cw).trans bW).trans dr).trans dt).trans du).trans dv).trans dw)⟩
 have sf:=of_decide_eq_false fW
 refine wp_exit (E7 (E7 (G9 (A4 (G0 9 kz eg fun v7 bx pg ph=>?_)))))
 let gJ:Nat × SV:=(199,.v (.slice (some ⟨aC,0,none⟩) 12 12))
 refine C7 [0,1,2,3,4,5] [ag,ae,af,gJ,(203,.v (.string ((D.f 11).s)))] 4 (A5 B8) (fun _ h=>h.cells) ph fV fun v8 pi=>?_
 refine C2 (i:=6) kz (Fa (d:=204) (src:=9) (dst:=22) (e:=5) (s:=((D.f 11).s)) pg pi (by omega) fun qQ qR we wg bf jq pj pl=>?_)
 have pm:=pj F
 have gK:=TT.ofW bf jq
 refine ⟨fun _=>gK,?_⟩
 let aJ:Value:=.slice (some ⟨qQ,0,none⟩) ((sb ((D.f 11).s)).length) qR
 let jr:Nat × SV:=(205,.v (.agg #[ac,aJ,ab,aa,aa]))
 refine C7 [7] [ag,ae,af,gJ,jr] 2 (A5 B8) (fun _ h=>h.cells) gK pl fun wh pn=>?_
 refine F6 pn (i:=8) (t:=34) (A:=(some ⟨aC,0,none⟩)) (m:=12) (q:=11) (d:=206) kz (e:=37) (size:=5) (bytes:=88) (j:=11) kz (b:=aC) (o:=0) rfl rfl (by decide) kz kz (A5 B8) gK fun wi po=>?_
 have pp:=po.recast 206 (.v (.pointer (some ⟨aC,0 + 11 * 5,none⟩))) (.p 2 55) rfl rfl (Nat.le_of_ble_eq_true (n:=3) rfl)
 have pq:=pp.pk (env':=[ag,ae,af,gJ,jr,(206,.p 2 55)])
 let aK:Value:=.slice A10_ k10_ c10_
 refine C2 (i:=9) kz (D5 jq pq (oi:=2) (cs:=(ah :: ai :: aj :: ak :: al :: am :: aa :: ab :: aa :: aa :: ao :: ap :: ar :: au :: av :: aw :: aa :: ab :: aa :: aa :: ax :: aa :: ab :: aa :: aa :: ay :: aa :: ab :: aa :: aa :: az :: aa :: ab :: aa :: aa :: aA :: aa :: ab :: aa :: aa :: aB :: aa :: ab :: aa :: aa :: ac :: aa :: aD :: aF :: aa :: ac :: aa :: aG :: aK :: aa :: ac :: aJ :: ab :: aa :: aa :: [])) kz fun qS aV bX pr=>?_)
 refine ⟨fun h=>absurd rfl h,?_⟩
 refine E5 kz ?_ _
 refine A4 (C0 [0,1,2,3,4] kz ?_)
 refine B1 [0,1,2] [3,4] [ae,af,(209,.p 0 15)] bX pr fun wj pt=>?_
 let gL:Value:=.pointer (some ⟨pL,0,none⟩)
 refine B2 (Cq pt (v:=.func (.func 40) #[] #[gL]) (d:=210) kz fun wk pu=>?_)
 refine B2 (D3 pu (f:=39) (vs:=[.pointer (some ⟨b,o + 15,none⟩),.func (.func 40) #[] #[gL]]) (d:=211) kz Tryz.call39 (Dy (F:=(E9 F w qS [aE,aL,⟨aC,0,(ah :: ai :: aj :: ak :: al :: am :: aa :: ab :: aa :: aa :: ao :: ap :: ar :: au :: av :: aw :: aa :: ab :: aa :: aa :: ax :: aa :: ab :: aa :: aa :: ay :: aa :: ab :: aa :: aa :: az :: aa :: ab :: aa :: aa :: aA :: aa :: ab :: aa :: aa :: aB :: aa :: ab :: aa :: aa :: ac :: aa :: aD :: aF :: aa :: ac :: aa :: aG :: aK :: aa :: ac :: aJ :: ab :: aa :: aa :: []),true⟩,aQ] [⟨A9_,c9_,37,5,k9_,xs9_⟩,⟨A10_,c10_,37,5,k10_,xs10_⟩])) Tryz.call40 NI ((hat.one 15 rfl).move bX.step A7 bX.imm) (qV.move bX.step A7 bX.imm) (Str.of bX 3 rfl) (CC 3 rfl) g13l) ?_)
 rintro e_ wl ⟨rfl,pv,pw,jZ,px,pz⟩
 let cz:Value:=.slice pv D.u.length pw
 let aR:Ob:=⟨pL,0,[ac,aa,ab,bg,cz],true⟩
 obtain ⟨gM,aW,pA⟩:=bX.wrote 3 [aE,aL,⟨aC,0,(ah :: ai :: aj :: ak :: al :: am :: aa :: ab :: aa :: aa :: ao :: ap :: ar :: au :: av :: aw :: aa :: ab :: aa :: aa :: ax :: aa :: ab :: aa :: aa :: ay :: aa :: ab :: aa :: aa :: az :: aa :: ab :: aa :: aa :: aA :: aa :: ab :: aa :: aa :: aB :: aa :: ab :: aa :: aa :: ac :: aa :: aD :: aF :: aa :: ac :: aa :: aG :: aK :: aa :: ac :: aJ :: ab :: aa :: aa :: []),true⟩,aR] rfl pz jZ
 have js:=px.move (Step.refl _ C1) A7 (fun b_ o_ h_ hb_=>pA (G:=F) b_ o_ (.inr h_) hb_)
 refine ⟨_,rfl,fun wm pB=>?_⟩
 have pC:=(EnvOk.places (tb':=[aE,aL,⟨aC,0,(ah :: ai :: aj :: ak :: al :: am :: aa :: ab :: aa :: aa :: ao :: ap :: ar :: au :: av :: aw :: aa :: ab :: aa :: aa :: ax :: aa :: ab :: aa :: aa :: ay :: aa :: ab :: aa :: aa :: az :: aa :: ab :: aa :: aa :: aA :: aa :: ab :: aa :: aa :: aB :: aa :: ab :: aa :: aa :: ac :: aa :: aD :: aF :: aa :: ac :: aa :: aG :: aK :: aa :: ac :: aJ :: ab :: aa :: aa :: []),true⟩,aR]) pB (show Pl [aE,aL,⟨aC,0,(ah :: ai :: aj :: ak :: al :: am :: aa :: ab :: aa :: aa :: ao :: ap :: ar :: au :: av :: aw :: aa :: ab :: aa :: aa :: ax :: aa :: ab :: aa :: aa :: ay :: aa :: ab :: aa :: aa :: az :: aa :: ab :: aa :: aa :: aA :: aa :: ab :: aa :: aa :: aB :: aa :: ab :: aa :: aa :: ac :: aa :: aD :: aF :: aa :: ac :: aa :: aG :: aK :: aa :: ac :: aJ :: ab :: aa :: aa :: []),true⟩,aQ] [aE,aL,⟨aC,0,(ah :: ai :: aj :: ak :: al :: am :: aa :: ab :: aa :: aa :: ao :: ap :: ar :: au :: av :: aw :: aa :: ab :: aa :: aa :: ax :: aa :: ab :: aa :: aa :: ay :: aa :: ab :: aa :: aa :: az :: aa :: ab :: aa :: aa :: aA :: aa :: ab :: aa :: aa :: aB :: aa :: ab :: aa :: aa :: ac :: aa :: aD :: aF :: aa :: ac :: aa :: aG :: aK :: aa :: ac :: aJ :: ab :: aa :: aa :: []),true⟩,aR] from ⟨rfl,rfl,⟨rfl,rfl,⟨rfl,rfl,⟨rfl,rfl,trivial⟩⟩⟩⟩)).pk (env':=[(211,.v (.tuple #[])),ae,af,(209,.p 0 15),(210,.v (.func (.func 40) #[] #[gL]))])
 refine B5 (A4 ?_)
 refine C0 [0,1,2] kz ?_
 refine B1 [0,1] [2] [ae,af,(213,.v (.slice pv D.u.length pw))] gM pC fun wn pD=>?_
 refine B2 (D3 pD (f:=41) (vs:=[cz]) (d:=214) kz Tryz.call41 (DB js qV.sorted) ?_)
 rintro e_ wo ⟨rfl,jt⟩
 refine ⟨_,rfl,fun wr pE=>?_⟩
 have ju:=gM.next_nil jt
 have aS:=gM.frN jt
 refine B5 (A4 ?_)
 refine C0 [0,1] kz ?_
 refine B1 [0] [1] [ae,(215,.v (.agg #[ac,aa,ab,bg,cz]))] ju pE fun ws pF=>?_
 refine B2 (D5 ju pF (oi:=1) (cs:=[ac,aa,ab,bg,cz]) kz fun bY aT eJ pG=>?_)
 refine B5 (A4 ?_)
 refine wp_ret (C8 pG eJ.cells (v:=.agg #[ac,aa,ab,bg,cz]) kz ?_)
 have jv:=(hT9_.move (((((((((ce.trans cm).trans cq).trans aZ).trans bx).trans bf).trans aV).trans aW).trans aS).trans aT).step immM (((((((((ce.trans cm).trans cq).trans aZ).trans bx).trans bf).trans aV).trans aW).trans aS).trans aT).to')
 rw [Fc (by omega)] at jv
 have jw:=(hT10_.move (((((bx.trans bf).trans aV).trans aW).trans aS).trans aT).step immM (((((bx.trans bf).trans aV).trans aW).trans aS).trans aT).to')
 rw [Fc (by omega)] at jw
 let aU:Ob:=⟨qW,0,[ac,aa,ab,bg,cz],true⟩
 exact Dz (u:=D.u) (l:=[BW (D.f 0).A (D.f 0).s,.mk (IntKind.i64.wrap (D.f 1).n) [] false [] [],Fi (D.f 2),.mk (IntKind.i64.wrap (D.f 3).n) [] false [] [],.mk (IntKind.i64.wrap (D.f 4).n) [] false [] [],.mk (IntKind.i64.wrap (D.f 5).n) [] false [] [],.mk (IntKind.i64.wrap (D.f 6).n) [] false [] [],.mk (IntKind.i64.wrap (D.f 7).n) [] false [] [],.mk (IntKind.i64.wrap (D.f 8).n) [] false [] [],.mk 0 [] (D.f 9).A.isNone ((List.range (D.f 9).l).map fun i=>Br ((D.f 9).f i)) [],.mk 0 [] (D.f 10).A.isNone ((List.range (D.f 10).l).map fun i=>Bt ((D.f 10).f i)) [],.mk 0 (sb (D.f 11).s) false [] []]) (css:=[[ah,ai,aj,ak,al],[am,aa,ab,aa,aa],[ao,ap,ar,au,av],[aw,aa,ab,aa,aa],[ax,aa,ab,aa,aa],[ay,aa,ab,aa,aa],[az,aa,ab,aa,aa],[aA,aa,ab,aa,aa],[aB,aa,ab,aa,aa],[ac,aa,aD,aF,aa],[ac,aa,aG,aK,aa],[ac,aJ,ab,aa,aa]]) eJ 2 rfl ⟨(show TreeR _ (E9 F w bY [aE,aU,⟨aC,0,(ah :: ai :: aj :: ak :: al :: am :: aa :: ab :: aa :: aa :: ao :: ap :: ar :: au :: av :: aw :: aa :: ab :: aa :: aa :: ax :: aa :: ab :: aa :: aa :: ay :: aa :: ab :: aa :: aa :: az :: aa :: ab :: aa :: aa :: aA :: aa :: ab :: aa :: aa :: aB :: aa :: ab :: aa :: aa :: ac :: aa :: aD :: aF :: aa :: ac :: aa :: aG :: aK :: aa :: ac :: aJ :: ab :: aa :: aa :: []),true⟩,aR] [⟨A9_,c9_,37,5,k9_,xs9_⟩,⟨A10_,c10_,37,5,k10_,xs10_⟩]) _ _ from (jy.move (((((((((((((((((((((((((((((((j3.trans j4).trans gS).trans gT).trans eR).trans dx).trans dy).trans dA).trans dB).trans dC).trans dD).trans dE).trans dF).trans dG).trans dH).trans dI).trans dJ).trans dK).trans dL).trans dM).trans dN).trans bE).trans ce).trans cm).trans cq).trans aZ).trans bx).trans bf).trans aV).trans aW).trans aS).trans aT).step immM (((((((((((((((((((((((((((((((j3.trans j4).trans gS).trans gT).trans eR).trans dx).trans dy).trans dA).trans dB).trans dC).trans dD).trans dE).trans dF).trans dG).trans dH).trans dI).trans dJ).trans dK).trans dL).trans dM).trans dN).trans bE).trans ce).trans cm).trans cq).trans aZ).trans bx).trans bf).trans aV).trans aW).trans aS).trans aT).to')).move (Step.refl _ C1) A7 I8,(show TreeR _ (E9 F w bY [aE,aU,⟨aC,0,(ah :: ai :: aj :: ak :: al :: am :: aa :: ab :: aa :: aa :: ao :: ap :: ar :: au :: av :: aw :: aa :: ab :: aa :: aa :: ax :: aa :: ab :: aa :: aa :: ay :: aa :: ab :: aa :: aa :: az :: aa :: ab :: aa :: aa :: aA :: aa :: ab :: aa :: aa :: aB :: aa :: ab :: aa :: aa :: ac :: aa :: aD :: aF :: aa :: ac :: aa :: aG :: aK :: aa :: ac :: aJ :: ab :: aa :: aa :: []),true⟩,aR] [⟨A9_,c9_,37,5,k9_,xs9_⟩,⟨A10_,c10_,37,5,k10_,xs10_⟩]) _ _ from (TreeR.mk (n:=IntKind.i64.wrap ((D.f 1).n)) (b:=false) (s:=[]) (l:=[]) (u:=[]) (fun _=>[]) (Octs.nil _ _) (Slots.nil _ _ _ _) (fun i_ x_ h_=>by simp at h_) (TagsR.nil _ _))).move (Step.refl _ C1) A7 I8,(show TreeR _ (E9 F w bY [aE,aU,⟨aC,0,(ah :: ai :: aj :: ak :: al :: am :: aa :: ab :: aa :: aa :: ao :: ap :: ar :: au :: av :: aw :: aa :: ab :: aa :: aa :: ax :: aa :: ab :: aa :: aa :: ay :: aa :: ab :: aa :: aa :: az :: aa :: ab :: aa :: aa :: aA :: aa :: ab :: aa :: aa :: aB :: aa :: ab :: aa :: aa :: ac :: aa :: aD :: aF :: aa :: ac :: aa :: aG :: aK :: aa :: ac :: aJ :: ab :: aa :: aa :: []),true⟩,aR] [⟨A9_,c9_,37,5,k9_,xs9_⟩,⟨A10_,c10_,37,5,k10_,xs10_⟩]) _ _ from (eP.move ((((((((((((((((((((((((((dx.trans dy).trans dA).trans dB).trans dC).trans dD).trans dE).trans dF).trans dG).trans dH).trans dI).trans dJ).trans dK).trans dL).trans dM).trans dN).trans bE).trans ce).trans cm).trans cq).trans aZ).trans bx).trans bf).trans aV).trans aW).trans aS).trans aT).step immM ((((((((((((((((((((((((((dx.trans dy).trans dA).trans dB).trans dC).trans dD).trans dE).trans dF).trans dG).trans dH).trans dI).trans dJ).trans dK).trans dL).trans dM).trans dN).trans bE).trans ce).trans cm).trans cq).trans aZ).trans bx).trans bf).trans aV).trans aW).trans aS).trans aT).to')).move (Step.refl _ C1) A7 I8,(show TreeR _ (E9 F w bY [aE,aU,⟨aC,0,(ah :: ai :: aj :: ak :: al :: am :: aa :: ab :: aa :: aa :: ao :: ap :: ar :: au :: av :: aw :: aa :: ab :: aa :: aa :: ax :: aa :: ab :: aa :: aa :: ay :: aa :: ab :: aa :: aa :: az :: aa :: ab :: aa :: aa :: aA :: aa :: ab :: aa :: aa :: aB :: aa :: ab :: aa :: aa :: ac :: aa :: aD :: aF :: aa :: ac :: aa :: aG :: aK :: aa :: ac :: aJ :: ab :: aa :: aa :: []),true⟩,aR] [⟨A9_,c9_,37,5,k9_,xs9_⟩,⟨A10_,c10_,37,5,k10_,xs10_⟩]) _ _ from (TreeR.mk (n:=IntKind.i64.wrap ((D.f 3).n)) (b:=false) (s:=[]) (l:=[]) (u:=[]) (fun _=>[]) (Octs.nil _ _) (Slots.nil _ _ _ _) (fun i_ x_ h_=>by simp at h_) (TagsR.nil _ _))).move (Step.refl _ C1) A7 I8,(show TreeR _ (E9 F w bY [aE,aU,⟨aC,0,(ah :: ai :: aj :: ak :: al :: am :: aa :: ab :: aa :: aa :: ao :: ap :: ar :: au :: av :: aw :: aa :: ab :: aa :: aa :: ax :: aa :: ab :: aa :: aa :: ay :: aa :: ab :: aa :: aa :: az :: aa :: ab :: aa :: aa :: aA :: aa :: ab :: aa :: aa :: aB :: aa :: ab :: aa :: aa :: ac :: aa :: aD :: aF :: aa :: ac :: aa :: aG :: aK :: aa :: ac :: aJ :: ab :: aa :: aa :: []),true⟩,aR] [⟨A9_,c9_,37,5,k9_,xs9_⟩,⟨A10_,c10_,37,5,k10_,xs10_⟩]) _ _ from (TreeR.mk (n:=IntKind.i64.wrap ((D.f 4).n)) (b:=false) (s:=[]) (l:=[]) (u:=[]) (fun _=>[]) (Octs.nil _ _) (Slots.nil _ _ _ _) (fun i_ x_ h_=>by simp at h_) (TagsR.nil _ _))).move (Step.refl _ C1) A7 I8,(show TreeR _ (E9 F w bY [aE,aU,⟨aC,0,(ah :: ai :: aj :: ak :: al :: am :: aa :: ab :: aa :: aa :: ao :: ap :: ar :: au :: av :: aw :: aa :: ab :: aa :: aa :: ax :: aa :: ab :: aa :: aa :: ay :: aa :: ab :: aa :: aa :: az :: aa :: ab :: aa :: aa :: aA :: aa :: ab :: aa :: aa :: aB :: aa :: ab :: aa :: aa :: ac :: aa :: aD :: aF :: aa :: ac :: aa :: aG :: aK :: aa :: ac :: aJ :: ab :: aa :: aa :: []),true⟩,aR] [⟨A9_,c9_,37,5,k9_,xs9_⟩,⟨A10_,c10_,37,5,k10_,xs10_⟩]) _ _ from (TreeR.mk (n:=IntKind.i64.wrap ((D.f 5).n)) (b:=false) (s:=[]) (l:=[]) (u:=[]) (fun _=>[]) (Octs.nil _ _) (Slots.nil _ _ _ _) (fun i_ x_ h_=>by simp at h_) (TagsR.nil _ _))).move (Step.refl _ C1) A7 I8,(show TreeR _ (E9 F w bY [aE,aU,⟨aC,0,(ah :: ai :: aj :: ak :: al :: am :: aa :: ab :: aa :: aa :: ao :: ap :: ar :: au :: av :: aw :: aa :: ab :: aa :: aa :: ax :: aa :: ab :: aa :: aa :: ay :: aa :: ab :: aa :: aa :: az :: aa :: ab :: aa :: aa :: aA :: aa :: ab :: aa :: aa :: aB :: aa :: ab :: aa :: aa :: ac :: aa :: aD :: aF :: aa :: ac :: aa :: aG :: aK :: aa :: ac :: aJ :: ab :: aa :: aa :: []),true⟩,aR] [⟨A9_,c9_,37,5,k9_,xs9_⟩,⟨A10_,c10_,37,5,k10_,xs10_⟩]) _ _ from (TreeR.mk (n:=IntKind.i64.wrap ((D.f 6).n)) (b:=false) (s:=[]) (l:=[]) (u:=[]) (fun _=>[]) (Octs.nil _ _) (Slots.nil _ _ _ _) (fun i_ x_ h_=>by simp at h_) (TagsR.nil _ _))).move (Step.refl _ C1) A7 I8,(show TreeR _ (E9 F w bY [aE,aU,⟨aC,0,(ah :: ai :: aj :: ak :: al :: am :: aa :: ab :: aa :: aa :: ao :: ap :: ar :: au :: av :: aw :: aa :: ab :: aa :: aa :: ax :: aa :: ab :: aa :: aa :: ay :: aa :: ab :: aa :: aa :: az :: aa :: ab :: aa :: aa :: aA :: aa :: ab :: aa :: aa :: aB :: aa :: ab :: aa :: aa :: ac :: aa :: aD :: aF :: aa :: ac :: aa :: aG :: aK :: aa :: ac :: aJ :: ab :: aa :: aa :: []),true⟩,aR] [⟨A9_,c9_,37,5,k9_,xs9_⟩,⟨A10_,c10_,37,5,k10_,xs10_⟩]) _ _ from (TreeR.mk (n:=IntKind.i64.wrap ((D.f 7).n)) (b:=false) (s:=[]) (l:=[]) (u:=[]) (fun _=>[]) (Octs.nil _ _) (Slots.nil _ _ _ _) (fun i_ x_ h_=>by simp at h_) (TagsR.nil _ _))).move (Step.refl _ C1) A7 I8,(show TreeR _ (E9 F w bY [aE,aU,⟨aC,0,(ah :: ai :: aj :: ak :: al :: am :: aa :: ab :: aa :: aa :: ao :: ap :: ar :: au :: av :: aw :: aa :: ab :: aa :: aa :: ax :: aa :: ab :: aa :: aa :: ay :: aa :: ab :: aa :: aa :: az :: aa :: ab :: aa :: aa :: aA :: aa :: ab :: aa :: aa :: aB :: aa :: ab :: aa :: aa :: ac :: aa :: aD :: aF :: aa :: ac :: aa :: aG :: aK :: aa :: ac :: aJ :: ab :: aa :: aa :: []),true⟩,aR] [⟨A9_,c9_,37,5,k9_,xs9_⟩,⟨A10_,c10_,37,5,k10_,xs10_⟩]) _ _ from (TreeR.mk (n:=IntKind.i64.wrap ((D.f 8).n)) (b:=false) (s:=[]) (l:=[]) (u:=[]) (fun _=>[]) (Octs.nil _ _) (Slots.nil _ _ _ _) (fun i_ x_ h_=>by simp at h_) (TagsR.nil _ _))).move (Step.refl _ C1) A7 I8,Fb eJ (k:=0) rfl jv (by rw [R3]; omega) (by rw [R3]; omega),Fb eJ (k:=1) rfl jw (by rw [R3]; omega) (by rw [R3]; omega),(show TreeR _ (E9 F w bY [aE,aU,⟨aC,0,(ah :: ai :: aj :: ak :: al :: am :: aa :: ab :: aa :: aa :: ao :: ap :: ar :: au :: av :: aw :: aa :: ab :: aa :: aa :: ax :: aa :: ab :: aa :: aa :: ay :: aa :: ab :: aa :: aa :: az :: aa :: ab :: aa :: aa :: aA :: aa :: ab :: aa :: aa :: aB :: aa :: ab :: aa :: aa :: ac :: aa :: aD :: aF :: aa :: ac :: aa :: aG :: aK :: aa :: ac :: aJ :: ab :: aa :: aa :: []),true⟩,aR] [⟨A9_,c9_,37,5,k9_,xs9_⟩,⟨A10_,c10_,37,5,k10_,xs10_⟩]) _ _ from (TreeR.mk (n:=0) (b:=false) (s:=(sb ((D.f 11).s))) (l:=[]) (u:=[]) (fun _=>[]) (pm.move (((aV.trans aW).trans aS).trans aT).step immM (((aV.trans aW).trans aS).trans aT).to') (Slots.nil _ _ _ _) (fun i_ x_ h_=>by simp at h_) (TagsR.nil _ _))).move (Step.refl _ C1) A7 I8,trivial⟩ ((show TagsR _ (E9 F w bY [aE,aU,⟨aC,0,(ah :: ai :: aj :: ak :: al :: am :: aa :: ab :: aa :: aa :: ao :: ap :: ar :: au :: av :: aw :: aa :: ab :: aa :: aa :: ax :: aa :: ab :: aa :: aa :: ay :: aa :: ab :: aa :: aa :: az :: aa :: ab :: aa :: aa :: aA :: aa :: ab :: aa :: aa :: aB :: aa :: ab :: aa :: aa :: ac :: aa :: aD :: aF :: aa :: ac :: aa :: aG :: aK :: aa :: ac :: aJ :: ab :: aa :: aa :: []),true⟩,aR] [⟨A9_,c9_,37,5,k9_,xs9_⟩,⟨A10_,c10_,37,5,k10_,xs10_⟩]) _ _ _ from (js.move (aS.trans aT).step immM (aS.trans aT).to')).move (Step.refl _ C1) A7 I8)
theorem NT {x:Int} (h:-9223372036854775808 ≤ x ∧ x ≤ 9223372036854775807):IntKind.i64.wrap x = x:=by rw [V8]; omega
theorem Fj {t:Tree} (h:t.i64s):IntKind.i64.wrap t.N = t.N:=by
 cases t
 exact NT h.1
theorem Bu {t:Tree} (h:t.i64s) (i:Nat):(t.at_ i).i64s:=by
 cases t with
 | mk n s b l u =>
  have h1:∀ x ∈ l,x.i64s:=Gb h.2
  show (l.getD i .zero).i64s
  rw [List.getD_eq_getElem?_getD]
  cases hx:l[i]? with
  | none=>exact ⟨by decide,trivial⟩
  | some x=>exact h1 x (List.mem_of_getElem? hx)
theorem Hb {t x:Tree} (h:t.i64s) {i:Nat} (hx:(B9 t.L)[i]? = some x):x.i64s:=by
 cases t with
 | mk n s b l u =>
  have h1:∀ x ∈ l,x.i64s:=Gb h.2
  exact h1 x (List.mem_of_mem_take (List.mem_of_getElem? hx))
theorem J3 {k x1 x2 x3 x5 x6 v:Int} {s:List Fld} {flex:Bool} {x:Tree}:Fld.pres (.mk k x1 x2 x3 (-1) x5 x6 s) v flex x = (decide (x1 ≤ v) && (decide (x2 < 0) || decide (v ≤ x2))):=by simp [Fld.pres,Fld.tag,Fld.has]
theorem PK {x1 x2 x3 x4 x5 x6 v:Int} {s:List Fld} {flex:Bool} {x:Tree} (h:0 ≤ x4):Fld.pres (.mk 11 x1 x2 x3 x4 x5 x6 s) v flex x = (flex && !decide (x.L.length = 0)):=by
 have h1:decide (x4 < 0) = false:=decide_eq_false (by omega)
 have h2:decide (x4 ≥ 0) = true:=decide_eq_true h
 unfold Fld.pres
 rw [show Fld.tag (.mk 11 x1 x2 x3 x4 x5 x6 s) = x4 from rfl,h1,h2]
 simp [Fld.usual]
theorem Bv {k x1 x2 x3 x4 x5 x6 v:Int} {s:List Fld} {flex:Bool} {x:Tree} (h:0 ≤ x4):Fld.pres (.mk k x1 x2 x3 x4 x5 x6 s) v flex x = (flex && !Fld.usual (.mk k x1 x2 x3 x4 x5 x6 s) x):=by
 have h1:decide (x4 < 0) = false:=decide_eq_false (by omega)
 have h2:decide (x4 ≥ 0) = true:=decide_eq_true h
 unfold Fld.pres
 rw [show Fld.tag (.mk k x1 x2 x3 x4 x5 x6 s) = x4 from rfl,h1,h2]
 simp
theorem Fk {flex c u:Bool} (h:c = !u) (hp:(flex && !u) = true):(if flex = true then c else false) = true:=by
 subst h; cases flex <;> cases u <;> simp_all
theorem Fl {flex c u:Bool} (h:c = !u) (hp:(flex && !u) = false):(if flex = true then c else false) = false:=by
 subst h; cases flex <;> cases u <;> simp_all
section
variable {T:List Fld → Tree → Tree → Prop} {U:List Fld → Tree → Prop} {v k x1 x2 x3 x4 x5 x6 n:Int} {sub:List Fld} {x T':Tree} {A:Option Addr} {s:ByteArray} {o:Bs} {b:Bool}
theorem Kc (hn:n = L8 k x.N) (hk:k < 7:=by decide):O4 T v (.mk k x1 x2 (-1) x4 x5 x6 sub) x (.mk n [] false [] []):=by
 cases x
 exact ⟨fun h=>by omega,fun _ h=>by omega,fun _ h=>by omega,fun _ h=>by omega,fun _ _ _ _ _ _=>hn⟩
theorem Q1 (hn:n = L8 k x.N) (hk:k < 7:=by decide):Bn T v (.mk k x1 x2 (-1) x4 x5 x6 sub) x (.mk n [] false [] []):=⟨Kc hn hk,fun h=>absurd (show k = 11 from h) (by omega)⟩
theorem NU (hs:o = C5 x.S):O4 T v (.mk 8 x1 x2 (-1) x4 x5 x6 sub) x (.mk 0 o false [] []):=by
 cases x with
 | mk a1 a2 a3 a4 a5 =>
  exact ⟨fun _=>nul_no.symm,fun _ _=>hs,fun _ h=>by omega,fun _ h=>by omega,fun _ _ h=>absurd rfl h⟩
theorem Hc (h:s = bs T'.S) (h1:T'.S = C5 x.S):Bn T v (.mk 8 x1 x2 (-1) x4 x5 x6 sub) x (.mk 0 (sb s) false [] []) :=
 ⟨NU (by rw [h,Jd,h1]),fun h=>absurd (show (8:Int) = 11 from h) (by decide)⟩
theorem NV (h:s = bs (E1 T') ∧ A.isNone = T'.null) (h1:E1 T' = (if Fld.nul (.mk 8 x1 x2 x3 x4 x5 x6 sub) v x = true then [] else C5 x.S) ∧ T'.null = Fld.nul (.mk 8 x1 x2 x3 x4 x5 x6 sub) v x):Bn T v (.mk 8 x1 x2 x3 x4 x5 x6 sub) x (BW A s):=by
 refine ⟨?_,fun h=>absurd (show (8:Int) = 11 from h) (by decide)⟩
 have e:BW A s = .mk 0 (if Fld.nul (.mk 8 x1 x2 x3 x4 x5 x6 sub) v x = true then [] else C5 x.S) (Fld.nul (.mk 8 x1 x2 x3 x4 x5 x6 sub) v x) [] []:=by
  unfold BW
  rw [h.2,h1.2,h.1,Jd,h1.1]
  split <;> rfl
 rw [e]
 cases x with
 | mk a1 a2 a3 a4 a5 =>
  exact ⟨fun _=>rfl,fun hn _=>by rw [if_neg (by rw [hn]; decide)]; rfl,fun _ h=>by omega,fun _ h=>by omega,fun _ _ h=>absurd rfl h⟩
theorem NW (hs:o = G1 x.S):O4 T v (.mk 7 x1 x2 (-1) x4 x5 x6 sub) x (.mk 0 o false [] []):=by
 cases x with
 | mk a1 a2 a3 a4 a5 =>
  exact ⟨fun h=>by omega,fun _ h=>by omega,fun _ _=>hs,fun _ h=>by omega,fun _ h=>absurd rfl h⟩
theorem Hd (h:o = C3 T'.S) (h1:T'.S = x.S):Bn T v (.mk 7 x1 x2 (-1) x4 x5 x6 sub) x (.mk 0 o false [] []) :=
 ⟨NW (by rw [h,Dj,h1]),fun h=>absurd (show (7:Int) = 11 from h) (by decide)⟩
theorem Fm {g:Tree} (hg:g.null = false) (h:T sub x g):O4 T v (.mk 10 x1 x2 (-1) x4 x5 x6 sub) x g:=by
 cases x with
 | mk a1 a2 a3 a4 a5 =>
  cases g with
  | mk g1 g2 g3 g4 g5 =>
   exact ⟨fun _=>by rw [nul_no]; exact hg,fun _ h=>by omega,fun _ h=>by omega,fun _ _=>h,fun _ _ _ _ h=>absurd rfl h⟩
theorem Fn {l:Nat} {g:Nat → Tree} {W:Tree → Tree} (hb:x3 ≥ 0 ∧ v ≥ x3 → b = Fld.nul (.mk 11 x1 x2 x3 x4 x5 x6 sub) v x) (hl:l = (lst T').length) (hlst:lst T' = (if Fld.nul (.mk 11 x1 x2 x3 (-1) x5 x6 sub) v x = true then [] else B9 x.L).map W)
  (he:∀ i y,i < l → (lst T').getD i .zero = W y → (B9 x.L)[i]? = some y → O4 T v (.mk x6 x1 x2 (-1) (-1) x5 x6 sub) y (g i)):Bn T v (.mk 11 x1 x2 x3 x4 x5 x6 sub) x (.mk 0 [] b ((List.range l).map g) []):=by
 have hn:Fld.nul (.mk 11 x1 x2 x3 (-1) x5 x6 sub) v x = Fld.nul (.mk 11 x1 x2 x3 x4 x5 x6 sub) v x:=by cases x; rfl
 refine ⟨?_,fun _ hnn=>?_⟩
 ·cases x with
  | mk a1 a2 a3 a4 a5 =>
   refine ⟨fun h=>hb ?_,fun _ h=>by omega,fun _ h=>by omega,fun _ h=>by omega,fun _ _ _ _ _ h=>absurd rfl h⟩
   rcases h with h | h | h
   ·omega
   ·omega
   exact h
 rw [hn,hnn,if_neg (by decide)] at hlst
 have hll:l = (B9 x.L).length:=by rw [hl,hlst,List.length_map]
 refine ⟨by show ((List.range l).map g).length = _; rw [List.length_map,List.length_range,hll],fun i y z hy hz=>?_⟩
 have hi:i < l:=by rw [hll]; exact (List.getElem?_eq_some_iff.1 hy).1
 have hz':((List.range l).map g)[i]? = some z:=hz
 rw [List.getElem?_map,List.getElem?_range hi] at hz'
 obtain rfl:=Option.some.inj hz'
 refine he i y hi ?_ hy
 rw [hlst,List.getD_eq_getElem?_getD,List.getElem?_map,hy]
 rfl
theorem us_num' (hn:n = L8 k x5) (hk:k < 7:=by decide):X6 U (.mk k x1 x2 x3 x4 x5 x6 sub) (.mk n [] false [] []):=⟨fun h=>by omega,fun h=>by omega,fun h=>by omega,fun h=>by omega,fun _ _ _ _ _=>hn⟩
theorem us_text' (h:s = ByteArray.empty) (h3:decide (x3 ≥ 0) = false:=by decide):X6 U (.mk 8 x1 x2 x3 x4 x5 x6 sub) (.mk 0 (sb s) false [] []):=by
 subst h
 exact ⟨fun _=>⟨h3.symm,rfl⟩,fun h=>by omega,fun h=>by omega,fun h=>by omega,fun _ h=>absurd rfl h⟩
theorem us_textN' (h:s = ByteArray.empty ∧ A = none) (h3:decide (x3 ≥ 0) = true:=by decide):X6 U (.mk 8 x1 x2 x3 x4 x5 x6 sub) (BW A s):=by
 obtain ⟨rfl,rfl⟩:=h
 exact ⟨fun _=>⟨h3.symm,rfl⟩,fun h=>by omega,fun h=>by omega,fun h=>by omega,fun _ h=>absurd rfl h⟩
theorem us_part' {g:Tree} (h:U sub g) (h3:x3 < 0:=by decide):X6 U (.mk 10 x1 x2 x3 x4 x5 x6 sub) g:=by
 cases g
 exact ⟨fun h=>by omega,fun h=>by omega,fun h=>by omega,fun _=>⟨fun h=>by omega,fun _=>h⟩,fun _ _ _ h=>absurd rfl h⟩
theorem us_uuid' (h:o = List.replicate 16 0):X6 U (.mk 7 x1 x2 x3 x4 x5 x6 sub) (.mk 0 o false [] []):=⟨fun h=>by omega,fun _=>h,fun h=>by omega,fun h=>by omega,fun h=>absurd rfl h⟩
theorem us_list' {l:Nat} {g:Nat → Tree} (h:l = 0):X6 U (.mk 11 x1 x2 x3 x4 x5 x6 sub) (.mk 0 [] b ((List.range l).map g) []):=by
 subst h
 exact ⟨fun h=>by omega,fun h=>by omega,fun _=>⟨rfl,rfl⟩,fun h=>by omega,fun _ _ _ _ h=>absurd rfl h⟩
end
end Go.Proofs.YtoclgihkbmaolaaGreatDoor.ME