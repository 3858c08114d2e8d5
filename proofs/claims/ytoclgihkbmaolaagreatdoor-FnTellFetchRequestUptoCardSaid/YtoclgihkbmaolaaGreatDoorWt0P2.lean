/- Packed. Own work. -/
import Derived.Test.YtoclgihkbmaolaaGreatDoorWt0P1
import Derived.Lib.EndianBits
import Derived.Scope
import Derived.Lib.AppendZeros
import Derived.Deep.LoopGhost
namespace Go.Proofs.YtoclgihkbmaolaaGreatDoor.ME
open Go
open Go.RowKit
set_option linter.unusedVariables false
set_option linter.unusedSimpArgs false
set_option maxRecDepth 20000
theorem Jj (W:Fld → Tree → Bs) (A:Option Addr) (c:Nat) (l:List Fld) (v:Int) (flex:Bool) (ct:List Value) (t:Tree) (w:World) (F:Nat → Nat → Prop) (hW_:∀ cf f ct t w F,f ∈ l → FldR w F cf f → TreeR w F ct t → (W f t).length ≤ 1099511627776 → Calls Tryz.prog 42 #[.agg cf.toArray,.int .i64 v,.bool flex,.agg ct.toArray] w (W3 w 5 (W f t))) (hl:FldsR w F A c l) (ht:TreeR w F ct t) (hroom:(N9 W l v flex t).length ≤ 1099511627776) :
  Calls Tryz.prog 22 #[.slice A l.length c,.int .i64 v,.bool flex,.agg ct.toArray] w (W3 w 5 (N9 W l v flex t)):=by
 obtain ⟨xfs,h1,h2⟩:=hl.ex
 have hsm:=h1.small
 obtain ⟨n1,s2,b3,l4,u5,A6,c7,A8,c9,lf,lg,ny,rfl,rfl,nz,nA,qq,nB⟩:=ht.open_
 have mu:=nz.small
 have mw:=nA.small
 have hkr:=FM l
 refine enter (n:=132) Tryz.func22 rfl Tryz.ntmps22 kz fun a hE=>?_
 have hW:=WOk.start w C1
 refine C0 [0,1] kz ?_
 let aW:Value:=.int .i64 n1
 let aX:Value:=.slice A6 s2.length c7
 let aY:Value:=.bool b3
 let aZ:Value:=.slice A8 l4.length c9
 let aQ:Value:=.slice lf u5.length lg
 refine B2 (K9 hW hE (d:=7) (cs:=[aW,aX,aY,aZ,aQ]) kz fun nC qr qs nD nE nF du lh=>?_)
 let aa:Nat × SV:=(0,.v (.slice A l.length c))
 let ab:Nat × SV:=(1,.v (.int .i64 v))
 let ac:Nat × SV:=(2,.v (.bool flex))
 let ae:Nat × SV:=(7,.p 0 0)
 refine B1 [1] [] [aa,ab,ac,ae] du lh fun qt li=>?_
 refine B5 (A4 ?_)
 let dE:Nat × SV:=(9,.v (.slice none 0 0))
 let ax:Nat × SV:=(10,.v (.slice none 0 0))
 refine B7 [aa,ab,ac,ae,dE,ax] du li fun qu lj=>?_
 let ay:Nat × SV:=(11,.v (.int .i64 0))
 refine B7 [aa,ab,ac,ae,dE,ax,ay] du lj fun qv lm=>?_
 refine wp_seq ?_
 let aA:Nat × SV:=(21,.v (.slice A l.length c))
 let aB:Nat × SV:=(22,.v (.int .i64 ((l.length:Nat):Int)))
 refine B7 [aa,ab,ac,ae,dE,ax,ay,aA,aB,(23,.v (.int .i64 0))] du lm fun qw ln=>?_
 refine wp_block ?_
 have fN:=du.addNil 5 1
 have nG:=du.frNil 5 1
 have htot:(D8 W l v (Tree.mk n1 s2 b3 l4 u5) 0).length ≤ 1099511627776:=by have h_:=hroom; rw [N9,List.length_append] at h_; omega
 let aK:Ob:=⟨nC,0,[aW,aX,aY,aZ,aQ],true⟩
 refine wp_loop_ghost (fun n_ a_ w_=>∃ (k:Nat) (A_:Option Addr) (c_:Nat) (dn:Bs),n_ = l.length - k ∧ k ≤ l.length ∧ (dn ++ D8 W (l.drop k) v (Tree.mk n1 s2 b3 l4 u5) k = D8 W l v (Tree.mk n1 s2 b3 l4 u5) 0) ∧ F9 fN 132 [aK] [B4 A_ c_ 5 dn] [aa,ab,ac,ae,(9,.v (.slice A_ dn.length c_)),ax,ay,aA,aB,(23,.v (.int .i64 ((k:Nat):Int)))] a_ w_) (l.length) ⟨0,none,0,[],by omega,by omega,rfl,ln.pk,fN,Fr.refl _ _ _⟩ ?_
 rintro qx qy qz ⟨k,A_,c_,dn,nH,nI,hB,lp,aP,fE⟩
 let aC:Nat × SV:=(9,.v (.slice A_ dn.length c_))
 let aI:Nat × SV:=(23,.v (.int .i64 ((k:Nat):Int)))
 refine B7 [aa,ab,ac,ae,aC,ax,ay,aA,aB,aI,(24,.v (.bool (decide (((k:Nat):Int) < ((l.length:Nat):Int)))))] aP lp fun qA fF=>?_
 refine wp_seq ?_
 let aG:Value:=.int .i64 0
 let mx:Value:=(.agg #[.int .i64 n1,.slice A6 s2.length c7,.bool b3,.slice A8 l4.length c9,.slice lf u5.length lg])
 let my:Value:=.agg #[.int .i64 n1,.slice A6 s2.length c7,.bool b3,.slice A8 l4.length c9,.slice lf u5.length lg]
 refine D4 fF (b:=decide (((k:Nat):Int) < ((l.length:Nat):Int))) kz (fun fG=>?_) (fun fG=>?_)
 ·
  have nJ:=of_decide_eq_true fG
  refine wp_skip (A4 (wp_seq (wp_block (C0 [0,1,2,3,4,5] kz ?_))))
  refine B1 [0] [1,2,3,4,5] [aa,ab,ac,ae,aC,ax,ay,aA,aB,aI,(25,.v (.int .i64 ((k:Nat):Int)))] aP fF fun qB lq=>?_
  obtain ⟨nK,nL,lr,nM,eF⟩:=Slots.get h1 (i:=k) (by omega)
  obtain ⟨nN,cd⟩:∃ x,l[k]? = some x:=⟨_,List.getElem?_eq_getElem (by omega)⟩
  have fH:=h2 k nN cd
  obtain ⟨bN,bO,bP,bQ,bB,bR,bS,bT,ls,lu,nO,rfl,eG,nP,qC⟩:=fH.open_
  rw [eG] at fH
  have mz:=nP.small
  rw [eG] at eF
  refine B2 (G6 lq (t:=29) (A:=A) (m:=l.length) (q:=((k:Nat):Int)) (d:=26) kz (e:=51) (size:=8) (bytes:=80) kz lr rfl (by omega) fun qD lv=>?_)
  let ba:Value:=.int .i64 bN
  let bd:Value:=.int .i64 bO
  let bf:Value:=.int .i64 bP
  let bg:Value:=.int .i64 bQ
  let bh:Value:=.int .i64 bB
  let bj:Value:=.int .i64 bR
  let bk:Value:=.int .i64 bS
  let bn:Value:=.slice ls bT.length lu
  let mA:Value:=.agg #[.int .i64 bN,.int .i64 bO,.int .i64 bP,.int .i64 bQ,.int .i64 bB,.int .i64 bR,.int .i64 bS,.slice ls bT.length lu]
  refine B2 (K3 lv (t:=51) (b:=nK) (o:=nL + k * 8) (d:=27) kz (cs:=[ba,bd,bf,bg,bh,bj,bk,bn]) (v:=.agg #[ba,bd,bf,bg,bh,bj,bk,bn]) kz (AtF.move eF aP.step A7 E8).at_ fun qE lw=>?_)
  refine B2 (H4 aP lw (d:=13) (cs:=[aG,aG,aG,aG,aG,aG,aG,.slice none 0 0]) kz fun qF qG qH nQ nR fI fO lx=>?_)
  let bC:Nat × SV:=(12,.v (.int .i64 ((k:Nat):Int)))
  let bD:Nat × SV:=(13,.p 1 0)
  let mB:Value:=(.agg #[.int .i64 bN,.int .i64 bO,.int .i64 bP,.int .i64 bQ,.int .i64 bB,.int .i64 bR,.int .i64 bS,.slice ls bT.length lu])
  refine B1 [4] [5] [aa,ab,ac,ae,aC,ax,ay,bC,bD,aA,aB,aI,(27,.v (.agg #[ba,bd,bf,bg,bh,bj,bk,bn]))] fO lx fun qI ly=>?_
  refine B2 (D5 fO ly (oi:=1) (cs:=[ba,bd,bf,bg,bh,bj,bk,bn]) kz fun qJ fJ cL lz=>?_)
  refine B5 (A4 ?_)
  refine C0 [0,1,2,3,4,5,6,7] kz ?_
  refine B1 [0,1,2,3] [4,5,6,7] [aa,ab,ac,ae,aC,ax,ay,bC,bD,aA,aB,aI,(31,.v (.bool (decide (bB < 0))))] cL lz fun qK fP=>?_
  refine (Bool.eq_false_or_eq_true (decide (bB < 0))).elim (fun dF=>?_) (fun dF=>?_)
  ·
   have nS:=of_decide_eq_true dF
   have lA:=fP
   rw [dF] at lA
   refine B1 [4,5] [6,7] [aa,ab,ac,ae,aC,ax,ay,bC,bD,aA,aB,aI,(31,.v (.bool true)),(32,.v (.agg #[ba,bd,bf,bg,bh,bj,bk,bn])),(33,.v (.int .i64 v))] cL lA fun qL fQ=>?_
   refine B2 (D3 fQ (f:=24) (vs:=[.agg #[ba,bd,bf,bg,bh,bj,bk,bn],.int .i64 v]) (d:=34) kz Tryz.call24 (Dn bN bO bP bQ bB bR bS bT _ _ v _) ?_)
   rintro e_ nT ⟨rfl,eH⟩
   refine ⟨_,rfl,fun nU fR=>?_⟩
   have cQ:=cL.next_nil eH
   have eI:=cL.frN eH
   refine B1 [7] [] [aa,ab,ac,ae,aC,ax,ay,bC,bD,aA,aB,aI,(35,.v (.bool (Fld.has (Fld.mk bN bO bP bQ bB bR bS bT) v)))] cQ fR fun nV dG=>?_
   refine B5 (A4 ?_)
   refine D4 dG (b:=Fld.has (Fld.mk bN bO bP bQ bB bR bS bT) v) kz (fun fS=>?_) (fun fS=>?_)
   ·
    refine S8 9 kz cQ fun nW fT ce fU=>?_
    let dH:Nat × SV:=(36,.v (.slice A_ dn.length c_))
    let dI:Nat × SV:=(37,.v (.agg #[ba,bd,bf,bg,bh,bj,bk,bn]))
    let dJ:Nat × SV:=(38,.v (.int .i64 v))
    let dK:Nat × SV:=(39,.v (.bool flex))
    let dL:Nat × SV:=(40,.v (.agg #[aW,aX,aY,aZ,aQ]))
    let dM:Nat × SV:=(41,.v (.int .i64 ((k:Nat):Int)))
    refine C7 [0,1,2,3,4,5] [aa,ab,ac,ae,aC,ax,ay,aA,aB,aI,dH,dI,dJ,dK,dL,dM] 4 (B6 (A5 (A5 (B6 (A5 B8))))) (fun _ h=>h.cells) fU dG fun nX fV=>?_
    refine C2 (i:=6) kz (D3 fV (f:=23) (vs:=[.agg #[aW,aX,aY,aZ,aQ],.int .i64 ((k:Nat):Int)]) (d:=42) kz Tryz.call23 (Cx _ _ k _ _ (ht.move ce.step A7 ce.imm)) ?_)
    rintro e_ nY ⟨mC,rfl,fW,cm⟩
    have dN:=fW.move cm A7 (fun b o h_ hb_=>ce.laid (G:=F) cm b o (.inl h_) (Nat.lt_of_lt_of_le hb_ cm.size))
    obtain ⟨fX,fY,fZ,f5,f7,f8,f9,ga,gb,gc,gd,mD,mF,dO,lB,lC,nZ,n0⟩:=dN.open_
    rw [dO] at dN
    have lD:=lB.small
    have lE:=lC.small
    rw [dO]
    refine ⟨_,rfl,fun n4 ge=>?_⟩
    have cR:=ce.next_nil cm
    have cS:=ce.frN cm
    have gg:=TT.ofW cS cR
    refine ⟨fun _=>gg,?_⟩
    refine C2 (i:=7) kz (D3 ge (f:=42) (vs:=[.agg #[ba,bd,bf,bg,bh,bj,bk,bn],.int .i64 v,.bool flex,.agg #[.int .i64 fX,.slice f8 fY.length f9,.bool fZ,.slice ga f5.length gb,.slice gc f7.length gd]]) (d:=43) kz Tryz.call42 ( hW_ _ _ _ _ _ _ (List.mem_of_getElem? cd) (fH.move cR.step A7 cR.imm) dN (by have h_:=congrArg List.length hB; rw [Ei cd ‹_› ‹_›] at h_; simp only [List.length_append] at h_; omega)) ?_)
    rintro e_ n5 ⟨eD,eE,rfl,gh,gi⟩
    refine ⟨_,rfl,fun n8 gj=>?_⟩
    obtain ⟨cT,dP⟩:=cR.frFresh gi (B4 eD eE 5 (W (Fld.mk bN bO bP bQ bB bR bS bT) (Tree.at_ (Tree.mk n1 s2 b3 l4 u5) k))) (Nat.le_refl _) gh
    have lF:(W (Fld.mk bN bO bP bQ bB bR bS bT) (Tree.at_ (Tree.mk n1 s2 b3 l4 u5) k)).length ≤ 1099511627776:=by have h_:=congrArg List.length hB; rw [Ei cd ‹_› ‹_›] at h_; simp only [List.length_append] at h_; omega
    have gk:=TT.ofW (cS.trans dP) cT
    refine ⟨fun _=>gk,?_⟩
    refine C2 (i:=8) kz (I4 cT gj (k:=0) (d:=44) (t:=22) (e:=5) (size:=1) (bytes:=1) (A:=A_) (As:=eD) (m0:=dn.length) (c:=c_) (m:=((W (Fld.mk bN bO bP bQ bB bR bS bT) (Tree.at_ (Tree.mk n1 s2 b3 l4 u5) k)).length)) (cs:=eE) (xs:=(bc dn)) (news:=bc (W (Fld.mk bN bO bP bQ bB bR bS bT) (Tree.at_ (Tree.mk n1 s2 b3 l4 u5) k))) kz kz rfl (L0 (cT.own 1 _ rfl) (S2 _)) (M1 (cT.own 1 _ rfl)) (by have h_:=congrArg List.length hB; rw [Ei cd ‹_› ‹_›] at h_; simp only [List.length_append] at h_ ⊢; omega) fun cq cr oa od eJ gl gm=>?_)
    have gn:(⟨cq,cr,5,1,dn.length + (W (Fld.mk bN bO bP bQ bB bR bS bT) (Tree.at_ (Tree.mk n1 s2 b3 l4 u5) k)).length,bc dn ++ bc (W (Fld.mk bN bO bP bQ bB bR bS bT) (Tree.at_ (Tree.mk n1 s2 b3 l4 u5) k))⟩:Rw) = B4 cq cr 5 (dn ++ (W (Fld.mk bN bO bP bQ bB bR bS bT) (Tree.at_ (Tree.mk n1 s2 b3 l4 u5) k))):=O8 (rfl) rfl
    obtain ⟨cU,eK⟩:=gl.rowEq 0 [B4 cq cr 5 (dn ++ (W (Fld.mk bN bO bP bQ bB bR bS bT) (Tree.at_ (Tree.mk n1 s2 b3 l4 u5) k))),B4 eD eE 5 (W (Fld.mk bN bO bP bQ bB bR bS bT) (Tree.at_ (Tree.mk n1 s2 b3 l4 u5) k))] gn
    let eL:Nat × SV:=(42,.v (.agg #[.int .i64 fX,.slice f8 fY.length f9,.bool fZ,.slice ga f5.length gb,.slice gc f7.length gd]))
    let eM:Nat × SV:=(43,.v (.slice eD ((W (Fld.mk bN bO bP bQ bB bR bS bT) (Tree.at_ (Tree.mk n1 s2 b3 l4 u5) k)).length) eE))
    have gp:=EnvOk.pick gm (ks:=[0,1,2,7,9,10,11,21,22,23,36,37,38,39,40,41,42,43,44]) (env':=[aa,ab,ac,ae,aC,ax,ay,aA,aB,aI,dH,dI,dJ,dK,dL,dM,eL,eM,(44,.v (.slice cq (dn.length + (W (Fld.mk bN bO bP bQ bB bR bS bT) (Tree.at_ (Tree.mk n1 s2 b3 l4 u5) k)).length) cr))]) kz
    have gq:=gp.cast (env':=[aa,ab,ac,ae,aC,ax,ay,aA,aB,aI,dH,dI,dJ,dK,dL,dM,eL,eM,(44,.v (.slice cq ((dn ++ (W (Fld.mk bN bO bP bQ bB bR bS bT) (Tree.at_ (Tree.mk n1 s2 b3 l4 u5) k))).length) cr))]) (by simp only [List.length_append,List.length_cons,List.length_nil,Nat.zero_add])
    have gt:=TT.ofW (((cS.trans dP).trans eJ).trans eK) cU
    refine ⟨fun _=>gt,?_⟩
    let dQ:Nat × SV:=(9,.v (.slice cq ((dn ++ (W (Fld.mk bN bO bP bQ bB bR bS bT) (Tree.at_ (Tree.mk n1 s2 b3 l4 u5) k))).length) cr))
    refine C2 (i:=9) kz (L4 [0,1,2,7,9,10,11,21,22,23] cU.cells gq (env':=[aa,ab,ac,ae,dQ,ax,ay,aA,aB,aI]) kz fun oe gv=>?_)
    refine ⟨fun h=>absurd rfl h,?_⟩
    refine E5 kz ?_ _
    refine F2 (A4 (D7 [0,1] kz ?_))
    refine B1 [0,1] [] [aa,ab,ac,ae,dQ,ax,ay,aA,aB,(23,.v (.int .i64 (IntKind.i64.wrap (((k:Nat):Int) + 1))))] cU gv fun og gw=>?_
    refine B5 (A4 ?_)
    obtain ⟨eN,gx,gy⟩:=cU.cutB gw 1 [aK] [aa,ab,ac,ae,dQ,ax,ay,aA,aB,(23,.v (.int .i64 (IntKind.i64.wrap (((k:Nat):Int) + 1))))]
    obtain ⟨gz,gA⟩:=gx.cutR 1 [B4 cq cr 5 (dn ++ (W (Fld.mk bN bO bP bQ bB bR bS bT) (Tree.at_ (Tree.mk n1 s2 b3 l4 u5) k)))]
    have gB:IntKind.i64.wrap (((k:Nat):Int) + 1) = ((k + 1:Nat):Int):=G8 (by omega)
    rw [gB] at eN
    exact ⟨l.length - (k + 1),by omega,k + 1,cq,cr,dn ++ (W (Fld.mk bN bO bP bQ bB bR bS bT) (Tree.at_ (Tree.mk n1 s2 b3 l4 u5) k)),rfl,by omega,by rw [List.append_assoc,← Ei cd ‹_› ‹_›]; exact hB,eN.pk,gz,((((((((((fE.trans fI).trans fJ).trans eI).trans fT).trans cS).trans dP).trans eJ).trans eK).trans gy).trans gA)⟩
   refine wp_skip (F2 (A4 (D7 [0,1] kz ?_)))
   refine B1 [0,1] [] [aa,ab,ac,ae,aC,ax,ay,aA,aB,(23,.v (.int .i64 (IntKind.i64.wrap (((k:Nat):Int) + 1))))] cQ dG fun oh gC=>?_
   refine B5 (A4 ?_)
   obtain ⟨eO,gD,gE⟩:=cQ.cutB gC 1 [aK] [aa,ab,ac,ae,aC,ax,ay,aA,aB,(23,.v (.int .i64 (IntKind.i64.wrap (((k:Nat):Int) + 1))))]
   have gF:IntKind.i64.wrap (((k:Nat):Int) + 1) = ((k + 1:Nat):Int):=G8 (by omega)
   rw [gF] at eO
   exact ⟨l.length - (k + 1),by omega,k + 1,A_,c_,dn,rfl,by omega,by rw [← Lt cd ‹_›]; exact hB,eO.pk,gD,((((fE.trans fI).trans fJ).trans eI).trans gE)⟩
  have mG:=of_decide_eq_false dF
  have gG:=fP.cast (env':=[aa,ab,ac,ae,aC,ax,ay,bC,bD,aA,aB,aI,(31,.v (.bool false))]) (by rw [dF])
  refine B1 [4,5,6,7] [] [aa,ab,ac,ae,aC,ax,ay,bC,bD,aA,aB,aI,(35,.v (.bool false))] cL gG fun ol eP=>?_
  refine B5 (A4 ?_)
  refine E6 eP (b:=false) kz rfl ?_
  refine wp_skip (F2 (A4 (D7 [0,1] kz ?_)))
  refine B1 [0,1] [] [aa,ab,ac,ae,aC,ax,ay,aA,aB,(23,.v (.int .i64 (IntKind.i64.wrap (((k:Nat):Int) + 1))))] cL eP fun om gH=>?_
  refine B5 (A4 ?_)
  obtain ⟨eQ,gI,gJ⟩:=cL.cutB gH 1 [aK] [aa,ab,ac,ae,aC,ax,ay,aA,aB,(23,.v (.int .i64 (IntKind.i64.wrap (((k:Nat):Int) + 1))))]
  have gK:IntKind.i64.wrap (((k:Nat):Int) + 1) = ((k + 1:Nat):Int):=G8 (by omega)
  rw [gK] at eQ
  exact ⟨l.length - (k + 1),by omega,k + 1,A_,c_,dn,rfl,by omega,by rw [← Ls cd ‹_›]; exact hB,eQ.pk,gI,(((fE.trans fI).trans fJ).trans gJ)⟩
 have mH:=of_decide_eq_false fG
 refine wp_exit (E7 (E7 (G9 (A4 (wp_seq (B7 [aa,ab,ac,ae,aC,ax,ay,(47,.v (.bool (!flex)))] aP fF fun oq dR=>?_))))))
 refine D4 dR (b:=!flex) kz (fun cV=>?_) (fun cV=>?_)
 ·
  refine B7 [(8,.v (.slice A_ dn.length c_))] aP dR fun ot gL=>?_
  refine wp_ret (D6 (C8 gL aP.cells (v:=.slice A_ dn.length c_) kz ?_))
  exact M8 aP (k:=0) rfl (by rw [show flex = false by simpa using cV,LC,← hB,Ih (by omega),List.append_nil])
 refine wp_skip (A4 (wp_seq (C0 [0,1,2,3] kz ?_)))
 refine B1 [0] [1,2,3] [aa,ab,ac,ae,aC,ax,ay,(49,.v (.slice A l.length c))] aP dR fun ou gM=>?_
 refine B2 (D3 gM (f:=43) (vs:=[.slice A l.length c]) (d:=50) kz Tryz.call43 (Jh _ _ l _ _ ⟨xfs,(h1.move aP.step A7 aP.imm),(fun i_ x_ h_=>((h2 i_ x_ h_).move aP.step A7 aP.imm))⟩) ?_)
 rintro e_ ov ⟨rfl,eR⟩
 refine ⟨_,rfl,fun ow gN=>?_⟩
 have eS:=aP.next_nil eR
 have mI:=aP.frN eR
 let dS:Nat × SV:=(52,.v (.int .i64 0))
 refine B1 [2,3] [] [aa,ab,ac,ae,aC,ax,ay,(51,.v (.int .i64 (IntKind.i64.wrap (D0 l)))),dS] eS gN fun ox eU=>?_
 refine B5 (A4 ?_)
 refine wp_block ?_
 have hdn:dn = D8 W l v (Tree.mk n1 s2 b3 l4 u5) 0:=by rw [← hB,Ih (by omega),List.append_nil]
 have eV:dn = (D8 W l v (Tree.mk n1 s2 b3 l4 u5) 0):=hdn
 have gO:=congrArg (B4 A_ c_ 5) eV
 obtain ⟨eW,mJ⟩:=eS.rowEq 0 [B4 A_ c_ 5 (D8 W l v (Tree.mk n1 s2 b3 l4 u5) 0)] gO
 simp only [aC,eV] at eU
 have hfx:flex = true:=by simpa using cV
 have htot2:(D8 W l v (Tree.mk n1 s2 b3 l4 u5) 0).length + (uv (E0 W l (Tree.mk n1 s2 b3 l4 u5) (D0 l).toNat + (C4 l u5).length)).length + ((D1 W l (Tree.mk n1 s2 b3 l4 u5) (D0 l).toNat).length + (F4 (C4 l u5)).length) ≤ 1099511627776:=by have h_:=hroom; rw [hfx,Ij] at h_; simpa only [List.length_append] using h_
 have hmono:=fun i (h_:i ≤ (D0 l).toNat)=>LB W l (Tree.mk n1 s2 b3 l4 u5) h_
 have hcnt:=Ii W l (Tree.mk n1 s2 b3 l4 u5)
 have hknn:=LD l
 have gP:=EnvOk.pick eU (ks:=[0,1,2,7,9,10,11,51,52]) (env':=[aa,ab,ac,ae,(9,.v (.slice A_ ((D8 W l v (Tree.mk n1 s2 b3 l4 u5) 0).length) c_)),ax,ay,(51,.v (.int .i64 (IntKind.i64.wrap (D0 l)))),dS]) kz
 have gQ:=gP.cast (env':=[aa,ab,ac,ae,(9,.v (.slice A_ ((D8 W l v (Tree.mk n1 s2 b3 l4 u5) 0).length) c_)),ax,ay,(51,.v (.int .i64 (((D0 l).toNat:Nat):Int))),dS]) (by rw [hknn])
 have eX:=eW.addNil 5 1
 have mK:=eW.frNil 5 1
 refine wp_loop_ghost (fun n_ a_ w_=>∃ (k2:Nat) (A2_:Option Addr) (c2_:Nat),n_ = (D0 l).toNat - k2 ∧ k2 ≤ (D0 l).toNat ∧ F9 eX 132 [aK] [B4 A_ c_ 5 (D8 W l v (Tree.mk n1 s2 b3 l4 u5) 0),B4 A2_ c2_ 5 (D1 W l (Tree.mk n1 s2 b3 l4 u5) k2)] [aa,ab,ac,ae,(9,.v (.slice A_ ((D8 W l v (Tree.mk n1 s2 b3 l4 u5) 0).length) c_)),(10,.v (.slice A2_ ((D1 W l (Tree.mk n1 s2 b3 l4 u5) k2).length) c2_)),(11,.v (.int .i64 ((E0 W l (Tree.mk n1 s2 b3 l4 u5) k2:Nat):Int))),(51,.v (.int .i64 (((D0 l).toNat:Nat):Int))),(52,.v (.int .i64 ((k2:Nat):Int)))] a_ w_) ((D0 l).toNat) ⟨0,none,0,by omega,by omega,gQ.pk,eX,Fr.refl _ _ _⟩ ?_
 rintro oy oz oA ⟨k2,A2_,c2_,mL,mM,gR,aH,gS⟩
 let ap:Nat × SV:=(52,.v (.int .i64 ((k2:Nat):Int)))
 refine B7 [aa,ab,ac,ae,(9,.v (.slice A_ ((D8 W l v (Tree.mk n1 s2 b3 l4 u5) 0).length) c_)),(10,.v (.slice A2_ ((D1 W l (Tree.mk n1 s2 b3 l4 u5) k2).length) c2_)),(11,.v (.int .i64 ((E0 W l (Tree.mk n1 s2 b3 l4 u5) k2:Nat):Int))),(51,.v (.int .i64 (((D0 l).toNat:Nat):Int))),ap,(53,.v (.bool (decide (((k2:Nat):Int) < (((D0 l).toNat:Nat):Int)))))] aH gR fun oB dT=>?_
 refine wp_seq (D4 dT (b:=decide (((k2:Nat):Int) < (((D0 l).toNat:Nat):Int))) kz (fun dU=>?_) (fun dU=>?_))
 ·
  have mN:=of_decide_eq_true dU
  refine wp_skip (A4 (wp_seq (wp_block ?_)))
  let ar:Nat × SV:=(14,.v (.int .i64 ((k2:Nat):Int)))
  refine B7 [aa,ab,ac,ae,(9,.v (.slice A_ ((D8 W l v (Tree.mk n1 s2 b3 l4 u5) 0).length) c_)),(10,.v (.slice A2_ ((D1 W l (Tree.mk n1 s2 b3 l4 u5) k2).length) c2_)),(11,.v (.int .i64 ((E0 W l (Tree.mk n1 s2 b3 l4 u5) k2:Nat):Int))),ar,(51,.v (.int .i64 (((D0 l).toNat:Nat):Int))),ap] aH dT fun oC gT=>?_
  let av:Nat × SV:=(55,.v (.slice A l.length c))
  let aw:Nat × SV:=(56,.v (.int .i64 ((l.length:Nat):Int)))
  refine B7 [aa,ab,ac,ae,(9,.v (.slice A_ ((D8 W l v (Tree.mk n1 s2 b3 l4 u5) 0).length) c_)),(10,.v (.slice A2_ ((D1 W l (Tree.mk n1 s2 b3 l4 u5) k2).length) c2_)),(11,.v (.int .i64 ((E0 W l (Tree.mk n1 s2 b3 l4 u5) k2:Nat):Int))),ar,(51,.v (.int .i64 (((D0 l).toNat:Nat):Int))),ap,av,aw,(57,.v (.int .i64 0))] aH gT fun oD eY=>?_
  refine wp_block ?_
  have eZ:(D1 W l (Tree.mk n1 s2 b3 l4 u5) k2) = (D1 W l (Tree.mk n1 s2 b3 l4 u5) k2 ++ []):=(List.append_nil _).symm
  have gU:=congrArg (B4 A2_ c2_ 5) eZ
  obtain ⟨e9,gV⟩:=aH.rowEq 1 [B4 A_ c_ 5 (D8 W l v (Tree.mk n1 s2 b3 l4 u5) 0),B4 A2_ c2_ 5 (D1 W l (Tree.mk n1 s2 b3 l4 u5) k2 ++ [])] gU
  rw [eZ] at eY
  have hm2:=hmono (k2 + 1) (by omega)
  rw [D1,List.length_append] at hm2
  have hc2:=hcnt (k2 + 1)
  rw [E0,D1,List.length_append] at hc2
  have hc3:=FV W k2 (Tree.mk n1 s2 b3 l4 u5) l 0
  refine wp_loop_ghost (fun n_ a_ w_=>∃ (q:Nat) (A3_:Option Addr) (c3_:Nat) (dm:Bs) (cn:Nat),n_ = l.length - q ∧ q ≤ l.length ∧ (dm ++ I0 W (l.drop q) k2 (Tree.mk n1 s2 b3 l4 u5) q = I0 W l k2 (Tree.mk n1 s2 b3 l4 u5) 0) ∧ (cn + H9 W (l.drop q) k2 (Tree.mk n1 s2 b3 l4 u5) q = H9 W l k2 (Tree.mk n1 s2 b3 l4 u5) 0) ∧ F9 e9 132 [aK] [B4 A_ c_ 5 (D8 W l v (Tree.mk n1 s2 b3 l4 u5) 0),B4 A3_ c3_ 5 (D1 W l (Tree.mk n1 s2 b3 l4 u5) k2 ++ dm)] [aa,ab,ac,ae,(9,.v (.slice A_ ((D8 W l v (Tree.mk n1 s2 b3 l4 u5) 0).length) c_)),(10,.v (.slice A3_ ((D1 W l (Tree.mk n1 s2 b3 l4 u5) k2 ++ dm).length) c3_)),(11,.v (.int .i64 ((E0 W l (Tree.mk n1 s2 b3 l4 u5) k2 + cn:Nat):Int))),ar,(51,.v (.int .i64 (((D0 l).toNat:Nat):Int))),ap,av,aw,(57,.v (.int .i64 ((q:Nat):Int)))] a_ w_) (l.length) ⟨0,A2_,c2_,[],0,by omega,by omega,rfl,Nat.zero_add _,eY.pk,e9,Fr.refl _ _ _⟩ ?_
  rintro oE oF oG ⟨q,A3_,c3_,dm,cn,mO,mQ,hB2,hN2,gW,bU,cW⟩
  let az:Nat × SV:=(57,.v (.int .i64 ((q:Nat):Int)))
  refine B7 [aa,ab,ac,ae,(9,.v (.slice A_ ((D8 W l v (Tree.mk n1 s2 b3 l4 u5) 0).length) c_)),(10,.v (.slice A3_ ((D1 W l (Tree.mk n1 s2 b3 l4 u5) k2 ++ dm).length) c3_)),(11,.v (.int .i64 ((E0 W l (Tree.mk n1 s2 b3 l4 u5) k2 + cn:Nat):Int))),ar,(51,.v (.int .i64 (((D0 l).toNat:Nat):Int))),ap,av,aw,az,(58,.v (.bool (decide (((q:Nat):Int) < ((l.length:Nat):Int)))))] bU gW fun oH dV=>?_
  refine wp_seq (D4 dV (b:=decide (((q:Nat):Int) < ((l.length:Nat):Int))) kz (fun dW=>?_) (fun dW=>?_))
  ·
   have mR:=of_decide_eq_true dW
   refine wp_skip (A4 (wp_seq (wp_block (C0 [0,1,2,3,4,5] kz ?_))))
   refine B1 [0] [1,2,3,4,5] [aa,ab,ac,ae,(9,.v (.slice A_ ((D8 W l v (Tree.mk n1 s2 b3 l4 u5) 0).length) c_)),(10,.v (.slice A3_ ((D1 W l (Tree.mk n1 s2 b3 l4 u5) k2 ++ dm).length) c3_)),(11,.v (.int .i64 ((E0 W l (Tree.mk n1 s2 b3 l4 u5) k2 + cn:Nat):Int))),ar,(51,.v (.int .i64 (((D0 l).toNat:Nat):Int))),ap,av,aw,az,(59,.v (.int .i64 ((q:Nat):Int)))] bU dV fun oI gX=>?_
   obtain ⟨lG,lH,gY,mS,dX⟩:=Slots.get h1 (i:=q) (by omega)
   obtain ⟨lI,aJ⟩:∃ x,l[q]? = some x:=⟨_,List.getElem?_eq_getElem (by omega)⟩
   have cX:=h2 q lI aJ
   obtain ⟨ah,ai,aj,ak,af,al,am,ao,fK,fL,mT,rfl,dY,lJ,oJ⟩:=cX.open_
   rw [dY] at cX
   have lK:=lJ.small
   rw [dY] at dX
   refine B2 (G6 gX (t:=29) (A:=A) (m:=l.length) (q:=((q:Nat):Int)) (d:=60) kz (e:=51) (size:=8) (bytes:=80) kz gY rfl (by omega) fun oK gZ=>?_)
   let bo:Value:=.int .i64 ah
   let bp:Value:=.int .i64 ai
   let bq:Value:=.int .i64 aj
   let bt:Value:=.int .i64 ak
   let bu:Value:=.int .i64 af
   let bw:Value:=.int .i64 al
   let bx:Value:=.int .i64 am
   let bz:Value:=.slice fK ao.length fL
   let mU:Value:=.agg #[.int .i64 ah,.int .i64 ai,.int .i64 aj,.int .i64 ak,.int .i64 af,.int .i64 al,.int .i64 am,.slice fK ao.length fL]
   refine B2 (K3 gZ (t:=51) (b:=lG) (o:=lH + q * 8) (d:=61) kz (cs:=[bo,bp,bq,bt,bu,bw,bx,bz]) (v:=.agg #[bo,bp,bq,bt,bu,bw,bx,bz]) kz (AtF.move dX bU.step A7 E8).at_ fun oL hC=>?_)
   refine B2 (H4 bU hC (d:=16) (cs:=[aG,aG,aG,aG,aG,aG,aG,.slice none 0 0]) kz fun oM oN oO mV mW dZ fb hJ=>?_)
   let bE:Nat × SV:=(15,.v (.int .i64 ((q:Nat):Int)))
   let bF:Nat × SV:=(16,.p 1 0)
   let mX:Value:=(.agg #[.int .i64 ah,.int .i64 ai,.int .i64 aj,.int .i64 ak,.int .i64 af,.int .i64 al,.int .i64 am,.slice fK ao.length fL])
   refine B1 [4] [5] [aa,ab,ac,ae,(9,.v (.slice A_ ((D8 W l v (Tree.mk n1 s2 b3 l4 u5) 0).length) c_)),(10,.v (.slice A3_ ((D1 W l (Tree.mk n1 s2 b3 l4 u5) k2 ++ dm).length) c3_)),(11,.v (.int .i64 ((E0 W l (Tree.mk n1 s2 b3 l4 u5) k2 + cn:Nat):Int))),ar,bE,bF,(51,.v (.int .i64 (((D0 l).toNat:Nat):Int))),ap,av,aw,az,(61,.v (.agg #[bo,bp,bq,bt,bu,bw,bx,bz]))] fb hJ fun oP hK=>?_
   refine B2 (D5 fb hK (oi:=1) (cs:=[bo,bp,bq,bt,bu,bw,bx,bz]) kz fun oQ d4 hZ ia=>?_)
   refine B5 (A4 ?_)
   refine G0 12 kz hZ fun oR d5 bG d6=>?_
   refine C7 [0,1,2,3,4] [aa,ab,ac,ae,(9,.v (.slice A_ ((D8 W l v (Tree.mk n1 s2 b3 l4 u5) 0).length) c_)),(10,.v (.slice A3_ ((D1 W l (Tree.mk n1 s2 b3 l4 u5) k2 ++ dm).length) c3_)),(11,.v (.int .i64 ((E0 W l (Tree.mk n1 s2 b3 l4 u5) k2 + cn:Nat):Int))),ar,bE,bF,(51,.v (.int .i64 (((D0 l).toNat:Nat):Int))),ap,av,aw,az,(66,.v (.bool (af == ((k2:Nat):Int))))] 7 (A5 (B6 (A5 (A5 (B6 (B6 (A5 (A5 (B6 (A5 B8)))))))))) (fun _ h=>h.cells) d6 ia fun oS fe=>?_
   refine (Bool.eq_false_or_eq_true (af == ((k2:Nat):Int))).elim (fun cu=>?_) (fun cu=>?_)
   ·
    have mY:af = ((k2:Nat):Int):=by simpa using cu
    have ib:=fe
    rw [cu] at ib
    refine C7 [5,6,7] [aa,ab,ac,ae,(9,.v (.slice A_ ((D8 W l v (Tree.mk n1 s2 b3 l4 u5) 0).length) c_)),(10,.v (.slice A3_ ((D1 W l (Tree.mk n1 s2 b3 l4 u5) k2 ++ dm).length) c3_)),(11,.v (.int .i64 ((E0 W l (Tree.mk n1 s2 b3 l4 u5) k2 + cn:Nat):Int))),ar,bE,bF,(51,.v (.int .i64 (((D0 l).toNat:Nat):Int))),ap,av,aw,az,(66,.v (.bool true)),(67,.v (.agg #[bo,bp,bq,bt,bu,bw,bx,bz])),(68,.v (.agg #[aW,aX,aY,aZ,aQ])),(69,.v (.int .i64 ((q:Nat):Int)))] 4 (A5 (B6 (A5 (A5 (B6 (B6 (A5 (A5 (B6 (A5 B8)))))))))) (fun _ h=>h.cells) d6 ib fun oT ic=>?_
    refine C2 (i:=8) kz (D3 ic (f:=23) (vs:=[.agg #[aW,aX,aY,aZ,aQ],.int .i64 ((q:Nat):Int)]) (d:=70) kz Tryz.call23 (Cx _ _ q _ _ (ht.move bG.step A7 bG.imm)) ?_)
    rintro e_ oU ⟨mZ,rfl,ig,cw⟩
    have d7:=ig.move cw A7 (fun b o h_ hb_=>bG.laid (G:=F) cw b o (.inl h_) (Nat.lt_of_lt_of_le hb_ cw.size))
    obtain ⟨lL,lM,lN,lO,lP,lQ,lR,lS,lT,lU,lV,m4,m5,d8,lW,lX,oV,oW⟩:=d7.open_
    rw [d8] at d7
    have lY:=lW.small
    have lZ:=lX.small
    rw [d8]
    refine ⟨_,rfl,fun oX ii=>?_⟩
    have cz:=bG.next_nil cw
    have cY:=bG.frN cw
    have ij:=TT.ofW cY cz
    refine ⟨fun _=>ij,?_⟩
    refine C2 (i:=9) kz (D3 ii (f:=25) (vs:=[.agg #[bo,bp,bq,bt,bu,bw,bx,bz],.agg #[.int .i64 lL,.slice lQ lM.length lR,.bool lN,.slice lS lO.length lT,.slice lU lP.length lV]]) (d:=71) kz Tryz.call25 (EB _ _ _ _ _ _ _ (cX.move cz.step A7 cz.imm) (Nat.le_refl _) d7) ?_)
    rintro e_ oY ⟨rfl,ff⟩
    refine ⟨_,rfl,fun oZ ik=>?_⟩
    have cZ:=cz.next_nil ff
    have d9:=cz.frN ff
    have fg:=TT.ofW (cY.trans d9) cZ
    refine ⟨fun _=>fg,?_⟩
    refine C7 [10,11] [aa,ab,ac,ae,(9,.v (.slice A_ ((D8 W l v (Tree.mk n1 s2 b3 l4 u5) 0).length) c_)),(10,.v (.slice A3_ ((D1 W l (Tree.mk n1 s2 b3 l4 u5) k2 ++ dm).length) c3_)),(11,.v (.int .i64 ((E0 W l (Tree.mk n1 s2 b3 l4 u5) k2 + cn:Nat):Int))),ar,bE,bF,(51,.v (.int .i64 (((D0 l).toNat:Nat):Int))),ap,av,aw,az,(73,.v (.bool (!(Fld.usual (Fld.mk ah ai aj ak af al am ao) (Tree.at_ (Tree.mk n1 s2 b3 l4 u5) q)))))] 0 (A5 (B6 (A5 (A5 (B6 (B6 (A5 (A5 (B6 (A5 B8)))))))))) (fun _ h=>h.cells) fg ik fun o5 ea=>?_
    refine E5 kz ?_ _
    refine A4 (D4 ea (b:=!(Fld.usual (Fld.mk ah ai aj ak af al am ao) (Tree.at_ (Tree.mk n1 s2 b3 l4 u5) q))) kz (fun aO=>?_) (fun aO=>?_))
    ·
     refine G0 7 kz cZ fun o6 il cA im=>?_
     refine C7 [0,1,2,3,4] [aa,ab,ac,ae,(9,.v (.slice A_ ((D8 W l v (Tree.mk n1 s2 b3 l4 u5) 0).length) c_)),(10,.v (.slice A3_ ((D1 W l (Tree.mk n1 s2 b3 l4 u5) k2 ++ dm).length) c3_)),(11,.v (.int .i64 ((E0 W l (Tree.mk n1 s2 b3 l4 u5) k2 + cn:Nat):Int))),ar,(51,.v (.int .i64 (((D0 l).toNat:Nat):Int))),ap,av,aw,az,(74,.v (.agg #[bo,bp,bq,bt,bu,bw,bx,bz])),(75,.v (.int .i64 v)),(76,.v (.bool flex)),(77,.v (.agg #[aW,aX,aY,aZ,aQ])),(78,.v (.int .i64 ((q:Nat):Int)))] 3 (A5 (B6 (A5 (A5 (B6 (B6 (A5 (A5 (B6 (A5 B8)))))))))) (fun _ h=>h.cells) im ea fun o7 io=>?_
     refine C2 (i:=5) kz (D3 io (f:=23) (vs:=[.agg #[aW,aX,aY,aZ,aQ],.int .i64 ((q:Nat):Int)]) (d:=79) kz Tryz.call23 (Cx _ _ q _ _ (ht.move cA.step A7 cA.imm)) ?_)
     rintro e_ o9 ⟨m6,rfl,ip,cB⟩
     have eb:=ip.move cB A7 (fun b o h_ hb_=>cA.laid (G:=F) cB b o (.inl h_) (Nat.lt_of_lt_of_le hb_ cB.size))
     obtain ⟨l0,l3,l5,l6,l7,l9,ma,mc,md,me,mf,m7,m8,ec,mg,mh,pa,pb⟩:=eb.open_
     rw [ec] at eb
     have mj:=mg.small
     have ml:=mh.small
     rw [ec]
     refine ⟨_,rfl,fun pc iq=>?_⟩
     have da:=cA.next_nil cB
     have ee:=cA.frN cB
     have ir:=TT.ofW ee da
     refine ⟨fun _=>ir,?_⟩
     refine C2 (i:=6) kz (D3 iq (f:=42) (vs:=[.agg #[bo,bp,bq,bt,bu,bw,bx,bz],.int .i64 v,.bool flex,.agg #[.int .i64 l0,.slice l9 l3.length ma,.bool l5,.slice mc l6.length md,.slice me l7.length mf]]) (d:=80) kz Tryz.call42 ( hW_ _ _ _ _ _ _ (List.mem_of_getElem? aJ) (cX.move da.step A7 da.imm) eb (by have h_:=congrArg List.length hB2; rw [Ct aJ (by omega) (by simpa using aO)] at h_; simp only [List.length_append] at h_; omega)) ?_)
     rintro e_ pd ⟨cM,cN,rfl,iu,iv⟩
     refine ⟨_,rfl,fun pe iw=>?_⟩
     obtain ⟨db,fh⟩:=da.frFresh iv (B4 cM cN 5 (W (Fld.mk ah ai aj ak af al am ao) (Tree.at_ (Tree.mk n1 s2 b3 l4 u5) q))) (Nat.le_refl _) iu
     have mn:(W (Fld.mk ah ai aj ak af al am ao) (Tree.at_ (Tree.mk n1 s2 b3 l4 u5) q)).length ≤ 1099511627776:=by have h_:=congrArg List.length hB2; rw [Ct aJ (by omega) (by simpa using aO)] at h_; simp only [List.length_append] at h_; omega
     have ix:=TT.ofW (ee.trans fh) db
     refine ⟨fun _=>ix,?_⟩
     let aL:Nat × SV:=(17,.v (.slice cM ((W (Fld.mk ah ai aj ak af al am ao) (Tree.at_ (Tree.mk n1 s2 b3 l4 u5) q)).length) cN))
     refine C2 (i:=7) kz (L4 [0,1,2,7,9,10,11,14,17,51,52,55,56,57] db.cells iw (env':=[aa,ab,ac,ae,(9,.v (.slice A_ ((D8 W l v (Tree.mk n1 s2 b3 l4 u5) 0).length) c_)),(10,.v (.slice A3_ ((D1 W l (Tree.mk n1 s2 b3 l4 u5) k2 ++ dm).length) c3_)),(11,.v (.int .i64 ((E0 W l (Tree.mk n1 s2 b3 l4 u5) k2 + cn:Nat):Int))),ar,aL,(51,.v (.int .i64 (((D0 l).toNat:Nat):Int))),ap,av,aw,az]) kz fun pf iy=>?_)
     refine ⟨fun h=>absurd rfl h,?_⟩
     refine E5 kz ?_ _
     refine A4 (C0 [0,1,2,3,4,5,6,7,8,9,10,11,12] kz ?_)
     refine B1 [0,1,2] [3,4,5,6,7,8,9,10,11,12] [aa,ab,ac,ae,(9,.v (.slice A_ ((D8 W l v (Tree.mk n1 s2 b3 l4 u5) 0).length) c_)),(11,.v (.int .i64 ((E0 W l (Tree.mk n1 s2 b3 l4 u5) k2 + cn:Nat):Int))),ar,aL,(51,.v (.int .i64 (((D0 l).toNat:Nat):Int))),ap,av,aw,az,(81,.v (.slice A3_ ((D1 W l (Tree.mk n1 s2 b3 l4 u5) k2 ++ dm).length) c3_)),(83,.v (.int .u64 (IntKind.u64.wrap ((k2:Nat):Int))))] db iy fun pg iz=>?_
     have iA:IntKind.u64.wrap ((k2:Nat):Int) = ((k2:Nat):Int):=by simp only [G3,E3,N8,IntKind.wrap_i64,IntKind.wrap_i32]; omega
     have iB:=EnvOk.pick iz (ks:=[0,1,2,7,9,11,14,17,51,52,55,56,57,81,83]) (env':=[aa,ab,ac,ae,(9,.v (.slice A_ ((D8 W l v (Tree.mk n1 s2 b3 l4 u5) 0).length) c_)),(11,.v (.int .i64 ((E0 W l (Tree.mk n1 s2 b3 l4 u5) k2 + cn:Nat):Int))),ar,aL,(51,.v (.int .i64 (((D0 l).toNat:Nat):Int))),ap,av,aw,az,(81,.v (.slice A3_ ((D1 W l (Tree.mk n1 s2 b3 l4 u5) k2 ++ dm).length) c3_)),(83,.v (.int .u64 (IntKind.u64.wrap ((k2:Nat):Int))))]) kz
     let dc:Nat × SV:=(83,.v (.int .u64 ((k2:Nat):Int)))
     have iC:=iB.cast (env':=[aa,ab,ac,ae,(9,.v (.slice A_ ((D8 W l v (Tree.mk n1 s2 b3 l4 u5) 0).length) c_)),(11,.v (.int .i64 ((E0 W l (Tree.mk n1 s2 b3 l4 u5) k2 + cn:Nat):Int))),ar,aL,(51,.v (.int .i64 (((D0 l).toNat:Nat):Int))),ap,av,aw,az,(81,.v (.slice A3_ ((D1 W l (Tree.mk n1 s2 b3 l4 u5) k2 ++ dm).length) c3_)),dc]) (by simp only [ap,ar,dc,iA]; try rfl)
     refine B2 (D3 iC (f:=44) (vs:=[.int .u64 ((k2:Nat):Int)]) (d:=84) kz Tryz.call44 (Cy k2 (by omega) _) ?_)
     rintro e_ ph ⟨dv,dw,rfl,iD,iE⟩
     refine ⟨_,rfl,fun pi iF=>?_⟩
     obtain ⟨ef,iG⟩:=db.frFresh iE (B4 dv dw 5 (uv k2)) (Nat.le_refl _) iD
     refine B2 (I4 ef iF (k:=1) (d:=85) (t:=22) (e:=5) (size:=1) (bytes:=1) (A:=A3_) (As:=dv) (m0:=((D1 W l (Tree.mk n1 s2 b3 l4 u5) k2 ++ dm).length)) (c:=c3_) (m:=((uv k2).length)) (cs:=dw) (xs:=(bc (D1 W l (Tree.mk n1 s2 b3 l4 u5) k2 ++ dm))) (news:=bc (uv k2)) kz kz rfl (L0 (ef.own 3 _ rfl) (S2 _)) (M1 (ef.own 3 _ rfl)) (by have h_:=congrArg List.length hB2; rw [Ct aJ (by omega) (by simpa using aO)] at h_; simp only [List.length_append] at h_ ⊢; omega) fun bH bI pj pl iH iI iJ=>?_)
     have iK:(⟨bH,bI,5,1,(D1 W l (Tree.mk n1 s2 b3 l4 u5) k2 ++ dm).length + (uv k2).length,bc (D1 W l (Tree.mk n1 s2 b3 l4 u5) k2 ++ dm) ++ bc (uv k2)⟩:Rw) = B4 bH bI 5 (D1 W l (Tree.mk n1 s2 b3 l4 u5) k2 ++ dm ++ (uv k2)):=O8 (rfl) rfl
     obtain ⟨fi,iL⟩:=iI.rowEq 1 [B4 A_ c_ 5 (D8 W l v (Tree.mk n1 s2 b3 l4 u5) 0),B4 bH bI 5 (D1 W l (Tree.mk n1 s2 b3 l4 u5) k2 ++ dm ++ (uv k2)),B4 cM cN 5 (W (Fld.mk ah ai aj ak af al am ao) (Tree.at_ (Tree.mk n1 s2 b3 l4 u5) q)),B4 dv dw 5 (uv k2)] iK
     let fj:Nat × SV:=(84,.v (.slice dv ((uv k2).length) dw))
     have iM:=EnvOk.pick iJ (ks:=[0,1,2,7,9,11,14,17,51,52,55,56,57,81,83,84,85]) (env':=[aa,ab,ac,ae,(9,.v (.slice A_ ((D8 W l v (Tree.mk n1 s2 b3 l4 u5) 0).length) c_)),(11,.v (.int .i64 ((E0 W l (Tree.mk n1 s2 b3 l4 u5) k2 + cn:Nat):Int))),ar,aL,(51,.v (.int .i64 (((D0 l).toNat:Nat):Int))),ap,av,aw,az,(81,.v (.slice A3_ ((D1 W l (Tree.mk n1 s2 b3 l4 u5) k2 ++ dm).length) c3_)),dc,fj,(85,.v (.slice bH ((D1 W l (Tree.mk n1 s2 b3 l4 u5) k2 ++ dm).length + (uv k2).length) bI))]) kz
     have iN:=iM.cast (env':=[aa,ab,ac,ae,(9,.v (.slice A_ ((D8 W l v (Tree.mk n1 s2 b3 l4 u5) 0).length) c_)),(11,.v (.int .i64 ((E0 W l (Tree.mk n1 s2 b3 l4 u5) k2 + cn:Nat):Int))),ar,aL,(51,.v (.int .i64 (((D0 l).toNat:Nat):Int))),ap,av,aw,az,(81,.v (.slice A3_ ((D1 W l (Tree.mk n1 s2 b3 l4 u5) k2 ++ dm).length) c3_)),dc,fj,(85,.v (.slice bH ((D1 W l (Tree.mk n1 s2 b3 l4 u5) k2 ++ dm ++ (uv k2)).length) bI))]) (by simp only [List.length_append,List.length_cons,List.length_nil,Nat.zero_add])
     refine B1 [5,6,7] [8,9,10,11,12] [aa,ab,ac,ae,(9,.v (.slice A_ ((D8 W l v (Tree.mk n1 s2 b3 l4 u5) 0).length) c_)),(11,.v (.int .i64 ((E0 W l (Tree.mk n1 s2 b3 l4 u5) k2 + cn:Nat):Int))),ar,aL,(51,.v (.int .i64 (((D0 l).toNat:Nat):Int))),ap,av,aw,az,(85,.v (.slice bH ((D1 W l (Tree.mk n1 s2 b3 l4 u5) k2 ++ dm ++ (uv k2)).length) bI)),(88,.v (.int .u64 (IntKind.u64.wrap (((W (Fld.mk ah ai aj ak af al am ao) (Tree.at_ (Tree.mk n1 s2 b3 l4 u5) q)).length:Nat):Int))))] fi iN fun pm iO=>?_
     have iP:IntKind.u64.wrap (((W (Fld.mk ah ai aj ak af al am ao) (Tree.at_ (Tree.mk n1 s2 b3 l4 u5) q)).length:Nat):Int) = (((W (Fld.mk ah ai aj ak af al am ao) (Tree.at_ (Tree.mk n1 s2 b3 l4 u5) q)).length:Nat):Int):=by simp only [G3,E3,N8,IntKind.wrap_i64,IntKind.wrap_i32]; omega
     have iQ:=EnvOk.pick iO (ks:=[0,1,2,7,9,11,14,17,51,52,55,56,57,85,88]) (env':=[aa,ab,ac,ae,(9,.v (.slice A_ ((D8 W l v (Tree.mk n1 s2 b3 l4 u5) 0).length) c_)),(11,.v (.int .i64 ((E0 W l (Tree.mk n1 s2 b3 l4 u5) k2 + cn:Nat):Int))),ar,aL,(51,.v (.int .i64 (((D0 l).toNat:Nat):Int))),ap,av,aw,az,(85,.v (.slice bH ((D1 W l (Tree.mk n1 s2 b3 l4 u5) k2 ++ dm ++ (uv k2)).length) bI)),(88,.v (.int .u64 (IntKind.u64.wrap (((W (Fld.mk ah ai aj ak af al am ao) (Tree.at_ (Tree.mk n1 s2 b3 l4 u5) q)).length:Nat):Int))))]) kz
     let de:Nat × SV:=(88,.v (.int .u64 (((W (Fld.mk ah ai aj ak af al am ao) (Tree.at_ (Tree.mk n1 s2 b3 l4 u5) q)).length:Nat):Int)))
     have iR:=iQ.cast (env':=[aa,ab,ac,ae,(9,.v (.slice A_ ((D8 W l v (Tree.mk n1 s2 b3 l4 u5) 0).length) c_)),(11,.v (.int .i64 ((E0 W l (Tree.mk n1 s2 b3 l4 u5) k2 + cn:Nat):Int))),ar,aL,(51,.v (.int .i64 (((D0 l).toNat:Nat):Int))),ap,av,aw,az,(85,.v (.slice bH ((D1 W l (Tree.mk n1 s2 b3 l4 u5) k2 ++ dm ++ (uv k2)).length) bI)),de]) (by simp only [de,iP]; try rfl)
     refine B2 (D3 iR (f:=44) (vs:=[.int .u64 (((W (Fld.mk ah ai aj ak af al am ao) (Tree.at_ (Tree.mk n1 s2 b3 l4 u5) q)).length:Nat):Int)]) (d:=89) kz Tryz.call44 (Cy ((W (Fld.mk ah ai aj ak af al am ao) (Tree.at_ (Tree.mk n1 s2 b3 l4 u5) q)).length) (by omega) _) ?_)
     rintro e_ pn ⟨eg,eh,rfl,iS,iT⟩
     refine ⟨_,rfl,fun po iU=>?_⟩
     obtain ⟨ei,iV⟩:=fi.frFresh iT (B4 eg eh 5 (uv ((W (Fld.mk ah ai aj ak af al am ao) (Tree.at_ (Tree.mk n1 s2 b3 l4 u5) q)).length))) (Nat.le_refl _) iS
     refine B2 (I4 ei iU (k:=1) (d:=90) (t:=22) (e:=5) (size:=1) (bytes:=1) (A:=bH) (As:=eg) (m0:=((D1 W l (Tree.mk n1 s2 b3 l4 u5) k2 ++ dm ++ (uv k2)).length)) (c:=bI) (m:=((uv ((W (Fld.mk ah ai aj ak af al am ao) (Tree.at_ (Tree.mk n1 s2 b3 l4 u5) q)).length)).length)) (cs:=eh) (xs:=(bc (D1 W l (Tree.mk n1 s2 b3 l4 u5) k2 ++ dm ++ (uv k2)))) (news:=bc (uv ((W (Fld.mk ah ai aj ak af al am ao) (Tree.at_ (Tree.mk n1 s2 b3 l4 u5) q)).length))) kz kz rfl (L0 (ei.own 4 _ rfl) (S2 _)) (M1 (ei.own 4 _ rfl)) (by have h_:=congrArg List.length hB2; rw [Ct aJ (by omega) (by simpa using aO)] at h_; simp only [List.length_append] at h_ ⊢; omega) fun bV bW pp pq iW iX iY=>?_)
     have iZ:(⟨bV,bW,5,1,(D1 W l (Tree.mk n1 s2 b3 l4 u5) k2 ++ dm ++ (uv k2)).length + (uv ((W (Fld.mk ah ai aj ak af al am ao) (Tree.at_ (Tree.mk n1 s2 b3 l4 u5) q)).length)).length,bc (D1 W l (Tree.mk n1 s2 b3 l4 u5) k2 ++ dm ++ (uv k2)) ++ bc (uv ((W (Fld.mk ah ai aj ak af al am ao) (Tree.at_ (Tree.mk n1 s2 b3 l4 u5) q)).length))⟩:Rw) = B4 bV bW 5 (D1 W l (Tree.mk n1 s2 b3 l4 u5) k2 ++ dm ++ (uv k2) ++ (uv ((W (Fld.mk ah ai aj ak af al am ao) (Tree.at_ (Tree.mk n1 s2 b3 l4 u5) q)).length))):=O8 (rfl) rfl
     obtain ⟨df,i6⟩:=iX.rowEq 1 [B4 A_ c_ 5 (D8 W l v (Tree.mk n1 s2 b3 l4 u5) 0),B4 bV bW 5 (D1 W l (Tree.mk n1 s2 b3 l4 u5) k2 ++ dm ++ (uv k2) ++ (uv ((W (Fld.mk ah ai aj ak af al am ao) (Tree.at_ (Tree.mk n1 s2 b3 l4 u5) q)).length))),B4 cM cN 5 (W (Fld.mk ah ai aj ak af al am ao) (Tree.at_ (Tree.mk n1 s2 b3 l4 u5) q)),B4 dv dw 5 (uv k2),B4 eg eh 5 (uv ((W (Fld.mk ah ai aj ak af al am ao) (Tree.at_ (Tree.mk n1 s2 b3 l4 u5) q)).length))] iZ
     let fk:Nat × SV:=(89,.v (.slice eg ((uv ((W (Fld.mk ah ai aj ak af al am ao) (Tree.at_ (Tree.mk n1 s2 b3 l4 u5) q)).length)).length) eh))
     have i7:=EnvOk.pick iY (ks:=[0,1,2,7,9,11,14,17,51,52,55,56,57,85,88,89,90]) (env':=[aa,ab,ac,ae,(9,.v (.slice A_ ((D8 W l v (Tree.mk n1 s2 b3 l4 u5) 0).length) c_)),(11,.v (.int .i64 ((E0 W l (Tree.mk n1 s2 b3 l4 u5) k2 + cn:Nat):Int))),ar,aL,(51,.v (.int .i64 (((D0 l).toNat:Nat):Int))),ap,av,aw,az,(85,.v (.slice bH ((D1 W l (Tree.mk n1 s2 b3 l4 u5) k2 ++ dm ++ (uv k2)).length) bI)),de,fk,(90,.v (.slice bV ((D1 W l (Tree.mk n1 s2 b3 l4 u5) k2 ++ dm ++ (uv k2)).length + (uv ((W (Fld.mk ah ai aj ak af al am ao) (Tree.at_ (Tree.mk n1 s2 b3 l4 u5) q)).length)).length) bW))]) kz
     have ja:=i7.cast (env':=[aa,ab,ac,ae,(9,.v (.slice A_ ((D8 W l v (Tree.mk n1 s2 b3 l4 u5) 0).length) c_)),(11,.v (.int .i64 ((E0 W l (Tree.mk n1 s2 b3 l4 u5) k2 + cn:Nat):Int))),ar,aL,(51,.v (.int .i64 (((D0 l).toNat:Nat):Int))),ap,av,aw,az,(85,.v (.slice bH ((D1 W l (Tree.mk n1 s2 b3 l4 u5) k2 ++ dm ++ (uv k2)).length) bI)),de,fk,(90,.v (.slice bV ((D1 W l (Tree.mk n1 s2 b3 l4 u5) k2 ++ dm ++ (uv k2) ++ (uv ((W (Fld.mk ah ai aj ak af al am ao) (Tree.at_ (Tree.mk n1 s2 b3 l4 u5) q)).length))).length) bW))]) (by simp only [List.length_append,List.length_cons,List.length_nil,Nat.zero_add])
     let ej:Nat × SV:=(91,.v (.slice cM ((W (Fld.mk ah ai aj ak af al am ao) (Tree.at_ (Tree.mk n1 s2 b3 l4 u5) q)).length) cN))
     refine B1 [10] [11,12] [aa,ab,ac,ae,(9,.v (.slice A_ ((D8 W l v (Tree.mk n1 s2 b3 l4 u5) 0).length) c_)),(11,.v (.int .i64 ((E0 W l (Tree.mk n1 s2 b3 l4 u5) k2 + cn:Nat):Int))),ar,(51,.v (.int .i64 (((D0 l).toNat:Nat):Int))),ap,av,aw,az,(90,.v (.slice bV ((D1 W l (Tree.mk n1 s2 b3 l4 u5) k2 ++ dm ++ (uv k2) ++ (uv ((W (Fld.mk ah ai aj ak af al am ao) (Tree.at_ (Tree.mk n1 s2 b3 l4 u5) q)).length))).length) bW)),ej] df ja fun pr jb=>?_
     refine B2 (I4 df jb (k:=1) (d:=92) (t:=22) (e:=5) (size:=1) (bytes:=1) (A:=bV) (As:=cM) (m0:=((D1 W l (Tree.mk n1 s2 b3 l4 u5) k2 ++ dm ++ (uv k2) ++ (uv ((W (Fld.mk ah ai aj ak af al am ao) (Tree.at_ (Tree.mk n1 s2 b3 l4 u5) q)).length))).length)) (c:=bW) (m:=((W (Fld.mk ah ai aj ak af al am ao) (Tree.at_ (Tree.mk n1 s2 b3 l4 u5) q)).length)) (cs:=cN) (xs:=(bc (D1 W l (Tree.mk n1 s2 b3 l4 u5) k2 ++ dm ++ (uv k2) ++ (uv ((W (Fld.mk ah ai aj ak af al am ao) (Tree.at_ (Tree.mk n1 s2 b3 l4 u5) q)).length))))) (news:=bc (W (Fld.mk ah ai aj ak af al am ao) (Tree.at_ (Tree.mk n1 s2 b3 l4 u5) q))) kz kz rfl (L0 (df.own 2 _ rfl) (S2 _)) (M1 (df.own 2 _ rfl)) (by have h_:=congrArg List.length hB2; rw [Ct aJ (by omega) (by simpa using aO)] at h_; simp only [List.length_append] at h_ ⊢; omega) fun aS aT pt pu jc jd je=>?_)
     have jf:(⟨aS,aT,5,1,(D1 W l (Tree.mk n1 s2 b3 l4 u5) k2 ++ dm ++ (uv k2) ++ (uv ((W (Fld.mk ah ai aj ak af al am ao) (Tree.at_ (Tree.mk n1 s2 b3 l4 u5) q)).length))).length + (W (Fld.mk ah ai aj ak af al am ao) (Tree.at_ (Tree.mk n1 s2 b3 l4 u5) q)).length,bc (D1 W l (Tree.mk n1 s2 b3 l4 u5) k2 ++ dm ++ (uv k2) ++ (uv ((W (Fld.mk ah ai aj ak af al am ao) (Tree.at_ (Tree.mk n1 s2 b3 l4 u5) q)).length))) ++ bc (W (Fld.mk ah ai aj ak af al am ao) (Tree.at_ (Tree.mk n1 s2 b3 l4 u5) q))⟩:Rw) = B4 aS aT 5 (D1 W l (Tree.mk n1 s2 b3 l4 u5) k2 ++ dm ++ (uv k2) ++ (uv ((W (Fld.mk ah ai aj ak af al am ao) (Tree.at_ (Tree.mk n1 s2 b3 l4 u5) q)).length)) ++ (W (Fld.mk ah ai aj ak af al am ao) (Tree.at_ (Tree.mk n1 s2 b3 l4 u5) q))):=O8 (rfl) rfl
     obtain ⟨dg,jg⟩:=jd.rowEq 1 [B4 A_ c_ 5 (D8 W l v (Tree.mk n1 s2 b3 l4 u5) 0),B4 aS aT 5 (D1 W l (Tree.mk n1 s2 b3 l4 u5) k2 ++ dm ++ (uv k2) ++ (uv ((W (Fld.mk ah ai aj ak af al am ao) (Tree.at_ (Tree.mk n1 s2 b3 l4 u5) q)).length)) ++ (W (Fld.mk ah ai aj ak af al am ao) (Tree.at_ (Tree.mk n1 s2 b3 l4 u5) q))),B4 cM cN 5 (W (Fld.mk ah ai aj ak af al am ao) (Tree.at_ (Tree.mk n1 s2 b3 l4 u5) q)),B4 dv dw 5 (uv k2),B4 eg eh 5 (uv ((W (Fld.mk ah ai aj ak af al am ao) (Tree.at_ (Tree.mk n1 s2 b3 l4 u5) q)).length))] jf
     have jh:=EnvOk.pick je (ks:=[0,1,2,7,9,11,14,51,52,55,56,57,90,91,92]) (env':=[aa,ab,ac,ae,(9,.v (.slice A_ ((D8 W l v (Tree.mk n1 s2 b3 l4 u5) 0).length) c_)),(11,.v (.int .i64 ((E0 W l (Tree.mk n1 s2 b3 l4 u5) k2 + cn:Nat):Int))),ar,(51,.v (.int .i64 (((D0 l).toNat:Nat):Int))),ap,av,aw,az,(90,.v (.slice bV ((D1 W l (Tree.mk n1 s2 b3 l4 u5) k2 ++ dm ++ (uv k2) ++ (uv ((W (Fld.mk ah ai aj ak af al am ao) (Tree.at_ (Tree.mk n1 s2 b3 l4 u5) q)).length))).length) bW)),ej,(92,.v (.slice aS ((D1 W l (Tree.mk n1 s2 b3 l4 u5) k2 ++ dm ++ (uv k2) ++ (uv ((W (Fld.mk ah ai aj ak af al am ao) (Tree.at_ (Tree.mk n1 s2 b3 l4 u5) q)).length))).length + (W (Fld.mk ah ai aj ak af al am ao) (Tree.at_ (Tree.mk n1 s2 b3 l4 u5) q)).length) aT))]) kz
     have ji:=jh.cast (env':=[aa,ab,ac,ae,(9,.v (.slice A_ ((D8 W l v (Tree.mk n1 s2 b3 l4 u5) 0).length) c_)),(11,.v (.int .i64 ((E0 W l (Tree.mk n1 s2 b3 l4 u5) k2 + cn:Nat):Int))),ar,(51,.v (.int .i64 (((D0 l).toNat:Nat):Int))),ap,av,aw,az,(90,.v (.slice bV ((D1 W l (Tree.mk n1 s2 b3 l4 u5) k2 ++ dm ++ (uv k2) ++ (uv ((W (Fld.mk ah ai aj ak af al am ao) (Tree.at_ (Tree.mk n1 s2 b3 l4 u5) q)).length))).length) bW)),ej,(92,.v (.slice aS ((D1 W l (Tree.mk n1 s2 b3 l4 u5) k2 ++ dm ++ (uv k2) ++ (uv ((W (Fld.mk ah ai aj ak af al am ao) (Tree.at_ (Tree.mk n1 s2 b3 l4 u5) q)).length)) ++ (W (Fld.mk ah ai aj ak af al am ao) (Tree.at_ (Tree.mk n1 s2 b3 l4 u5) q))).length) aT))]) (by simp only [List.length_append,List.length_cons,List.length_nil,Nat.zero_add])
     refine B1 [12] [] [aa,ab,ac,ae,(9,.v (.slice A_ ((D8 W l v (Tree.mk n1 s2 b3 l4 u5) 0).length) c_)),(10,.v (.slice aS ((D1 W l (Tree.mk n1 s2 b3 l4 u5) k2 ++ dm ++ (uv k2) ++ (uv ((W (Fld.mk ah ai aj ak af al am ao) (Tree.at_ (Tree.mk n1 s2 b3 l4 u5) q)).length)) ++ (W (Fld.mk ah ai aj ak af al am ao) (Tree.at_ (Tree.mk n1 s2 b3 l4 u5) q))).length) aT)),(11,.v (.int .i64 ((E0 W l (Tree.mk n1 s2 b3 l4 u5) k2 + cn:Nat):Int))),ar,(51,.v (.int .i64 (((D0 l).toNat:Nat):Int))),ap,av,aw,az] dg ji fun pv jj=>?_
     refine B5 (A4 ?_)
     refine D7 [0,1,2] kz ?_
     refine B1 [0,1,2] [] [aa,ab,ac,ae,(9,.v (.slice A_ ((D8 W l v (Tree.mk n1 s2 b3 l4 u5) 0).length) c_)),(10,.v (.slice aS ((D1 W l (Tree.mk n1 s2 b3 l4 u5) k2 ++ dm ++ (uv k2) ++ (uv ((W (Fld.mk ah ai aj ak af al am ao) (Tree.at_ (Tree.mk n1 s2 b3 l4 u5) q)).length)) ++ (W (Fld.mk ah ai aj ak af al am ao) (Tree.at_ (Tree.mk n1 s2 b3 l4 u5) q))).length) aT)),(11,.v (.int .i64 (IntKind.i64.wrap (((E0 W l (Tree.mk n1 s2 b3 l4 u5) k2 + cn:Nat):Int) + 1)))),ar,(51,.v (.int .i64 (((D0 l).toNat:Nat):Int))),ap,av,aw,az] dg jj fun pw jk=>?_
     refine B5 (F2 (A4 (D7 [0,1] kz ?_)))
     refine B1 [0,1] [] [aa,ab,ac,ae,(9,.v (.slice A_ ((D8 W l v (Tree.mk n1 s2 b3 l4 u5) 0).length) c_)),(10,.v (.slice aS ((D1 W l (Tree.mk n1 s2 b3 l4 u5) k2 ++ dm ++ (uv k2) ++ (uv ((W (Fld.mk ah ai aj ak af al am ao) (Tree.at_ (Tree.mk n1 s2 b3 l4 u5) q)).length)) ++ (W (Fld.mk ah ai aj ak af al am ao) (Tree.at_ (Tree.mk n1 s2 b3 l4 u5) q))).length) aT)),(11,.v (.int .i64 (IntKind.i64.wrap (((E0 W l (Tree.mk n1 s2 b3 l4 u5) k2 + cn:Nat):Int) + 1)))),ar,(51,.v (.int .i64 (((D0 l).toNat:Nat):Int))),ap,av,aw,(57,.v (.int .i64 (IntKind.i64.wrap (((q:Nat):Int) + 1))))] dg jk fun px jl=>?_
     refine B5 (A4 ?_)
     obtain ⟨dh,jm,jn⟩:=dg.cutB jl 1 [aK] [aa,ab,ac,ae,(9,.v (.slice A_ ((D8 W l v (Tree.mk n1 s2 b3 l4 u5) 0).length) c_)),(10,.v (.slice aS ((D1 W l (Tree.mk n1 s2 b3 l4 u5) k2 ++ dm ++ (uv k2) ++ (uv ((W (Fld.mk ah ai aj ak af al am ao) (Tree.at_ (Tree.mk n1 s2 b3 l4 u5) q)).length)) ++ (W (Fld.mk ah ai aj ak af al am ao) (Tree.at_ (Tree.mk n1 s2 b3 l4 u5) q))).length) aT)),(11,.v (.int .i64 (IntKind.i64.wrap (((E0 W l (Tree.mk n1 s2 b3 l4 u5) k2 + cn:Nat):Int) + 1)))),ar,(51,.v (.int .i64 (((D0 l).toNat:Nat):Int))),ap,av,aw,(57,.v (.int .i64 (IntKind.i64.wrap (((q:Nat):Int) + 1))))]
     obtain ⟨jo,jp⟩:=jm.cutR 2 [B4 A_ c_ 5 (D8 W l v (Tree.mk n1 s2 b3 l4 u5) 0),B4 aS aT 5 (D1 W l (Tree.mk n1 s2 b3 l4 u5) k2 ++ dm ++ (uv k2) ++ (uv ((W (Fld.mk ah ai aj ak af al am ao) (Tree.at_ (Tree.mk n1 s2 b3 l4 u5) q)).length)) ++ (W (Fld.mk ah ai aj ak af al am ao) (Tree.at_ (Tree.mk n1 s2 b3 l4 u5) q)))]
     have fm:(D1 W l (Tree.mk n1 s2 b3 l4 u5) k2 ++ dm ++ (uv k2) ++ (uv ((W (Fld.mk ah ai aj ak af al am ao) (Tree.at_ (Tree.mk n1 s2 b3 l4 u5) q)).length)) ++ (W (Fld.mk ah ai aj ak af al am ao) (Tree.at_ (Tree.mk n1 s2 b3 l4 u5) q))) = (D1 W l (Tree.mk n1 s2 b3 l4 u5) k2 ++ (dm ++ (uv k2 ++ uv (W (Fld.mk ah ai aj ak af al am ao) (Tree.at_ (Tree.mk n1 s2 b3 l4 u5) q)).length ++ W (Fld.mk ah ai aj ak af al am ao) (Tree.at_ (Tree.mk n1 s2 b3 l4 u5) q)))):=by simp only [List.append_assoc]
     have jq:=congrArg (B4 aS aT 5) fm
     obtain ⟨jr,js⟩:=jo.rowEq 1 [B4 A_ c_ 5 (D8 W l v (Tree.mk n1 s2 b3 l4 u5) 0),B4 aS aT 5 (D1 W l (Tree.mk n1 s2 b3 l4 u5) k2 ++ (dm ++ (uv k2 ++ uv (W (Fld.mk ah ai aj ak af al am ao) (Tree.at_ (Tree.mk n1 s2 b3 l4 u5) q)).length ++ W (Fld.mk ah ai aj ak af al am ao) (Tree.at_ (Tree.mk n1 s2 b3 l4 u5) q))))] jq
     rw [fm] at dh
     have jt:IntKind.i64.wrap (((q:Nat):Int) + 1) = ((q + 1:Nat):Int):=G8 (by omega)
     rw [jt] at dh
     have ju:IntKind.i64.wrap (((E0 W l (Tree.mk n1 s2 b3 l4 u5) k2 + cn:Nat):Int) + 1) = ((E0 W l (Tree.mk n1 s2 b3 l4 u5) k2 + (cn + 1):Nat):Int):=by rw [wrap_i64 (by omega) (by omega)]; omega
     rw [ju] at dh
     exact ⟨l.length - (q + 1),by omega,q + 1,aS,aT,(dm ++ (uv k2 ++ uv (W (Fld.mk ah ai aj ak af al am ao) (Tree.at_ (Tree.mk n1 s2 b3 l4 u5) q)).length ++ W (Fld.mk ah ai aj ak af al am ao) (Tree.at_ (Tree.mk n1 s2 b3 l4 u5) q))),(cn + 1),rfl,by omega,by rw [List.append_assoc,← Ct aJ (by omega) (by simpa using aO)]; exact hB2,by rw [Nat.add_assoc,← Lx aJ (by omega) (by simpa using aO)]; exact hN2,dh.pk,jr,(((((((((((((((((((cW.trans dZ).trans d4).trans d5).trans cY).trans d9).trans il).trans ee).trans fh).trans iG).trans iH).trans iL).trans iV).trans iW).trans i6).trans jc).trans jg).trans jn).trans jp).trans js)⟩
    refine wp_skip (F2 (A4 (D7 [0,1] kz ?_)))
    refine B1 [0,1] [] [aa,ab,ac,ae,(9,.v (.slice A_ ((D8 W l v (Tree.mk n1 s2 b3 l4 u5) 0).length) c_)),(10,.v (.slice A3_ ((D1 W l (Tree.mk n1 s2 b3 l4 u5) k2 ++ dm).length) c3_)),(11,.v (.int .i64 ((E0 W l (Tree.mk n1 s2 b3 l4 u5) k2 + cn:Nat):Int))),ar,(51,.v (.int .i64 (((D0 l).toNat:Nat):Int))),ap,av,aw,(57,.v (.int .i64 (IntKind.i64.wrap (((q:Nat):Int) + 1))))] cZ ea fun pz jv=>?_
    refine B5 (A4 ?_)
    obtain ⟨fo,jw,jx⟩:=cZ.cutB jv 1 [aK] [aa,ab,ac,ae,(9,.v (.slice A_ ((D8 W l v (Tree.mk n1 s2 b3 l4 u5) 0).length) c_)),(10,.v (.slice A3_ ((D1 W l (Tree.mk n1 s2 b3 l4 u5) k2 ++ dm).length) c3_)),(11,.v (.int .i64 ((E0 W l (Tree.mk n1 s2 b3 l4 u5) k2 + cn:Nat):Int))),ar,(51,.v (.int .i64 (((D0 l).toNat:Nat):Int))),ap,av,aw,(57,.v (.int .i64 (IntKind.i64.wrap (((q:Nat):Int) + 1))))]
    have jy:IntKind.i64.wrap (((q:Nat):Int) + 1) = ((q + 1:Nat):Int):=G8 (by omega)
    rw [jy] at fo
    exact ⟨l.length - (q + 1),by omega,q + 1,A3_,c3_,dm,cn,rfl,by omega,by rw [← Lv aJ (by simpa using aO)]; exact hB2,by rw [← Lz aJ (by simpa using aO)]; exact hN2,fo.pk,jw,((((((cW.trans dZ).trans d4).trans d5).trans cY).trans d9).trans jx)⟩
   have m9:af ≠ ((k2:Nat):Int):=by simpa using cu
   have jz:=fe.cast (env':=[aa,ab,ac,ae,(9,.v (.slice A_ ((D8 W l v (Tree.mk n1 s2 b3 l4 u5) 0).length) c_)),(10,.v (.slice A3_ ((D1 W l (Tree.mk n1 s2 b3 l4 u5) k2 ++ dm).length) c3_)),(11,.v (.int .i64 ((E0 W l (Tree.mk n1 s2 b3 l4 u5) k2 + cn:Nat):Int))),ar,bE,bF,(51,.v (.int .i64 (((D0 l).toNat:Nat):Int))),ap,av,aw,az,(66,.v (.bool false))]) (by rw [cu])
   refine C7 [5,6,7,8,9,10,11] [aa,ab,ac,ae,(9,.v (.slice A_ ((D8 W l v (Tree.mk n1 s2 b3 l4 u5) 0).length) c_)),(10,.v (.slice A3_ ((D1 W l (Tree.mk n1 s2 b3 l4 u5) k2 ++ dm).length) c3_)),(11,.v (.int .i64 ((E0 W l (Tree.mk n1 s2 b3 l4 u5) k2 + cn:Nat):Int))),ar,bE,bF,(51,.v (.int .i64 (((D0 l).toNat:Nat):Int))),ap,av,aw,az,(73,.v (.bool false))] 0 (A5 (B6 (A5 (A5 (B6 (B6 (A5 (A5 (B6 (A5 B8)))))))))) (fun _ h=>h.cells) d6 jz fun pA fq=>?_
   refine E5 kz ?_ _
   refine A4 (E6 fq (b:=false) kz rfl ?_)
   refine wp_skip (F2 (A4 (D7 [0,1] kz ?_)))
   refine B1 [0,1] [] [aa,ab,ac,ae,(9,.v (.slice A_ ((D8 W l v (Tree.mk n1 s2 b3 l4 u5) 0).length) c_)),(10,.v (.slice A3_ ((D1 W l (Tree.mk n1 s2 b3 l4 u5) k2 ++ dm).length) c3_)),(11,.v (.int .i64 ((E0 W l (Tree.mk n1 s2 b3 l4 u5) k2 + cn:Nat):Int))),ar,(51,.v (.int .i64 (((D0 l).toNat:Nat):Int))),ap,av,aw,(57,.v (.int .i64 (IntKind.i64.wrap (((q:Nat):Int) + 1))))] bG fq fun pB jA=>?_
   refine B5 (A4 ?_)
   obtain ⟨fr,jB,jC⟩:=bG.cutB jA 1 [aK] [aa,ab,ac,ae,(9,.v (.slice A_ ((D8 W l v (Tree.mk n1 s2 b3 l4 u5) 0).length) c_)),(10,.v (.slice A3_ ((D1 W l (Tree.mk n1 s2 b3 l4 u5) k2 ++ dm).length) c3_)),(11,.v (.int .i64 ((E0 W l (Tree.mk n1 s2 b3 l4 u5) k2 + cn:Nat):Int))),ar,(51,.v (.int .i64 (((D0 l).toNat:Nat):Int))),ap,av,aw,(57,.v (.int .i64 (IntKind.i64.wrap (((q:Nat):Int) + 1))))]
   have jD:IntKind.i64.wrap (((q:Nat):Int) + 1) = ((q + 1:Nat):Int):=G8 (by omega)
   rw [jD] at fr
   exact ⟨l.length - (q + 1),by omega,q + 1,A3_,c3_,dm,cn,rfl,by omega,by rw [← Lu aJ (by omega)]; exact hB2,by rw [← Ly aJ (by omega)]; exact hN2,fr.pk,jB,((((cW.trans dZ).trans d4).trans d5).trans jC)⟩
  have nf:=of_decide_eq_false dW
  refine wp_exit (E7 (E7 (G9 (F2 (A4 (D7 [0,1] kz ?_))))))
  refine B1 [0,1] [] [aa,ab,ac,ae,(9,.v (.slice A_ ((D8 W l v (Tree.mk n1 s2 b3 l4 u5) 0).length) c_)),(10,.v (.slice A3_ ((D1 W l (Tree.mk n1 s2 b3 l4 u5) k2 ++ dm).length) c3_)),(11,.v (.int .i64 ((E0 W l (Tree.mk n1 s2 b3 l4 u5) k2 + cn:Nat):Int))),(51,.v (.int .i64 (((D0 l).toNat:Nat):Int))),(52,.v (.int .i64 (IntKind.i64.wrap (((k2:Nat):Int) + 1))))] bU dV fun pC di=>?_
  refine B5 (A4 ?_)
  have ft:(D1 W l (Tree.mk n1 s2 b3 l4 u5) k2 ++ dm) = (D1 W l (Tree.mk n1 s2 b3 l4 u5) (k2 + 1)):=by rw [D1,← hB2,Lw (by omega),List.append_nil]
  have jE:=congrArg (B4 A3_ c3_ 5) ft
  obtain ⟨jF,jG⟩:=bU.rowEq 1 [B4 A_ c_ 5 (D8 W l v (Tree.mk n1 s2 b3 l4 u5) 0),B4 A3_ c3_ 5 (D1 W l (Tree.mk n1 s2 b3 l4 u5) (k2 + 1))] jE
  rw [ft] at di
  have jH:IntKind.i64.wrap (((k2:Nat):Int) + 1) = ((k2 + 1:Nat):Int):=G8 (by omega)
  rw [jH] at di
  have jI:((E0 W l (Tree.mk n1 s2 b3 l4 u5) k2 + cn:Nat):Int) = ((E0 W l (Tree.mk n1 s2 b3 l4 u5) (k2 + 1):Nat):Int):=by rw [E0,← hN2,LA (by omega),Nat.add_zero]
  rw [jI] at di
  exact ⟨(D0 l).toNat - (k2 + 1),by omega,k2 + 1,A3_,c3_,rfl,by omega,di.pk,jF,(((gS.trans gV).trans cW).trans jG)⟩
 have ng:=of_decide_eq_false dU
 refine wp_exit (E7 (E7 (G9 (A4 (wp_seq (C0 [0,1,2,3,4,5] kz ?_))))))
 refine B1 [0,1,2] [3,4,5] [(9,.v (.slice A_ ((D8 W l v (Tree.mk n1 s2 b3 l4 u5) 0).length) c_)),(10,.v (.slice A2_ ((D1 W l (Tree.mk n1 s2 b3 l4 u5) k2).length) c2_)),(11,.v (.int .i64 ((E0 W l (Tree.mk n1 s2 b3 l4 u5) k2:Nat):Int))),(97,.v (.slice A l.length c)),(99,.v (.slice lf u5.length lg))] aH dT fun pD jJ=>?_
 refine B2 (D3 jJ (f:=28) (vs:=[.slice A l.length c,aQ]) (d:=100) kz Tryz.call28 (Gs _ _ l _ _ u5 _ _ ⟨xfs,(h1.move aH.step A7 aH.imm),(fun i_ x_ h_=>((h2 i_ x_ h_).move aH.step A7 aH.imm))⟩ (nB.move aH.step A7 aH.imm)) ?_)
 rintro e_ pE ⟨aE,aF,rfl,jK,ek⟩
 have jL:=jK.move (Step.refl _ C1) A7 (aH.laid (G:=F) ek)
 refine ⟨_,rfl,fun pF jM=>?_⟩
 have fv:=aH.next_nil ek
 have nh:=aH.frN ek
 refine B1 [4,5] [] [(9,.v (.slice A_ ((D8 W l v (Tree.mk n1 s2 b3 l4 u5) 0).length) c_)),(10,.v (.slice A2_ ((D1 W l (Tree.mk n1 s2 b3 l4 u5) k2).length) c2_)),(11,.v (.int .i64 ((E0 W l (Tree.mk n1 s2 b3 l4 u5) k2:Nat):Int))),(100,.v (.slice aE ((C4 l u5).length) aF)),(101,.v (.int .i64 (((C4 l u5).length:Nat):Int))),(102,.v (.int .i64 0))] fv jM fun pG fw=>?_
 refine B5 (A4 ?_)
 refine wp_block ?_
 obtain ⟨ni,jN,mo⟩:=jL.ex
 have mp:=jN.small
 have hkk2:k2 = (D0 l).toNat:=by omega
 have hc2:=hcnt k2
 have hm2:=hmono k2 (by omega)
 have fx:(D1 W l (Tree.mk n1 s2 b3 l4 u5) k2) = (D1 W l (Tree.mk n1 s2 b3 l4 u5) k2 ++ F4 ((C4 l u5).take 0)):=(List.append_nil _).symm
 have jO:=congrArg (B4 A2_ c2_ 5) fx
 obtain ⟨fy,bA⟩:=fv.rowEq 1 [B4 A_ c_ 5 (D8 W l v (Tree.mk n1 s2 b3 l4 u5) 0),B4 A2_ c2_ 5 (D1 W l (Tree.mk n1 s2 b3 l4 u5) k2 ++ F4 ((C4 l u5).take 0))] jO
 rw [fx] at fw
 refine wp_loop_ghost (fun n_ a_ w_=>∃ (k:Nat) (A4_:Option Addr) (c4_:Nat),n_ = (C4 l u5).length - k ∧ k ≤ (C4 l u5).length ∧ F9 fy 132 [aK] [B4 A_ c_ 5 (D8 W l v (Tree.mk n1 s2 b3 l4 u5) 0),B4 A4_ c4_ 5 (D1 W l (Tree.mk n1 s2 b3 l4 u5) k2 ++ F4 ((C4 l u5).take k))] [(9,.v (.slice A_ ((D8 W l v (Tree.mk n1 s2 b3 l4 u5) 0).length) c_)),(10,.v (.slice A4_ ((D1 W l (Tree.mk n1 s2 b3 l4 u5) k2 ++ F4 ((C4 l u5).take k)).length) c4_)),(11,.v (.int .i64 ((E0 W l (Tree.mk n1 s2 b3 l4 u5) k2 + k:Nat):Int))),(100,.v (.slice aE ((C4 l u5).length) aF)),(101,.v (.int .i64 (((C4 l u5).length:Nat):Int))),(102,.v (.int .i64 ((k:Nat):Int)))] a_ w_) ((C4 l u5).length) ⟨0,A2_,c2_,by omega,by omega,fw.pk,fy,Fr.refl _ _ _⟩ ?_
 rintro pH pI pJ ⟨k,A4_,c4_,nj,nk,jP,dj,aR⟩
 let aD:Nat × SV:=(102,.v (.int .i64 ((k:Nat):Int)))
 refine B7 [(9,.v (.slice A_ ((D8 W l v (Tree.mk n1 s2 b3 l4 u5) 0).length) c_)),(10,.v (.slice A4_ ((D1 W l (Tree.mk n1 s2 b3 l4 u5) k2 ++ F4 ((C4 l u5).take k)).length) c4_)),(11,.v (.int .i64 ((E0 W l (Tree.mk n1 s2 b3 l4 u5) k2 + k:Nat):Int))),(100,.v (.slice aE ((C4 l u5).length) aF)),(101,.v (.int .i64 (((C4 l u5).length:Nat):Int))),aD,(103,.v (.bool (decide (((k:Nat):Int) < (((C4 l u5).length:Nat):Int)))))] dj jP fun pK em=>?_
 refine wp_seq (D4 em (b:=decide (((k:Nat):Int) < (((C4 l u5).length:Nat):Int))) kz (fun eo=>?_) (fun eo=>?_))
 ·
  have nl:=of_decide_eq_true eo
  refine wp_skip (A4 (wp_seq (wp_block (C0 [0,1,2,3] kz ?_))))
  obtain ⟨mq,mr,jQ,nm,ep⟩:=Slots.get jN (i:=k) (by omega)
  obtain ⟨⟨au,ag⟩,cC⟩:∃ x,(C4 l u5)[k]? = some x:=⟨_,List.getElem?_eq_getElem (by omega)⟩
  obtain ⟨⟨aM,aN,fM,eu⟩,pL,pM⟩:=mo k au ag cC
  rw [fM] at ep
  refine B2 (G6 em (t:=24) (A:=aE) (m:=((C4 l u5).length)) (q:=((k:Nat):Int)) (d:=104) kz (e:=66) (size:=2) (bytes:=32) kz jQ rfl (by omega) fun pN jR=>?_)
  let dl:Value:=.slice aM ag.length aN
  refine B2 (K3 jR (t:=66) (b:=mq) (o:=mr + k * 2) (d:=105) kz (cs:=[.int .u32 au,dl]) (v:=.agg #[.int .u32 au,dl]) kz (AtF.move ep (bA.trans aR).step immM (bA.trans aR).to').at_ fun pO jS=>?_)
  refine B2 (H4 dj jS (d:=19) (cs:=[.int .u32 0,.slice none 0 0]) kz fun pP pQ pR np nr bJ jT jU=>?_)
  refine B2 (D5 jT jU (oi:=1) (cs:=[.int .u32 au,dl]) kz fun pS bK ev jV=>?_)
  refine B5 (A4 ?_)
  refine C0 [0,1,2,3] kz ?_
  refine B1 [0,1] [2,3] [(9,.v (.slice A_ ((D8 W l v (Tree.mk n1 s2 b3 l4 u5) 0).length) c_)),(10,.v (.slice A4_ ((D1 W l (Tree.mk n1 s2 b3 l4 u5) k2 ++ F4 ((C4 l u5).take k)).length) c4_)),(11,.v (.int .i64 ((E0 W l (Tree.mk n1 s2 b3 l4 u5) k2 + k:Nat):Int))),(19,.p 1 0),(100,.v (.slice aE ((C4 l u5).length) aF)),(101,.v (.int .i64 (((C4 l u5).length:Nat):Int))),aD,(107,.v (.slice aM ag.length aN))] ev jV fun pT jW=>?_
  have mt:=J7 ag
  refine B2 (D3 jW (f:=30) (vs:=[dl]) (d:=108) kz Tryz.call30 (V2 _ _ ag (eu.move (((bA.trans aR).trans bJ).trans bK).step immM (((bA.trans aR).trans bJ).trans bK).to').le _) ?_)
  rintro e_ pU ⟨rfl,fz⟩
  refine ⟨_,rfl,fun pV jX=>?_⟩
  have ew:=ev.next_nil fz
  have cD:=ev.frN fz
  refine B1 [3] [] [(9,.v (.slice A_ ((D8 W l v (Tree.mk n1 s2 b3 l4 u5) 0).length) c_)),(10,.v (.slice A4_ ((D1 W l (Tree.mk n1 s2 b3 l4 u5) k2 ++ F4 ((C4 l u5).take k)).length) c4_)),(11,.v (.int .i64 ((E0 W l (Tree.mk n1 s2 b3 l4 u5) k2 + k:Nat):Int))),(19,.p 1 0),(20,.v (.slice aM ((C5 ag).length) aN)),(100,.v (.slice aE ((C4 l u5).length) aF)),(101,.v (.int .i64 (((C4 l u5).length:Nat):Int))),aD] ew jX fun pW jY=>?_
  refine B5 (A4 ?_)
  refine C0 [0,1,2,3,4,5,6,7,8,9,10,11,12,13] kz ?_
  refine B1 [0,1,2,3] [4,5,6,7,8,9,10,11,12,13] [(9,.v (.slice A_ ((D8 W l v (Tree.mk n1 s2 b3 l4 u5) 0).length) c_)),(11,.v (.int .i64 ((E0 W l (Tree.mk n1 s2 b3 l4 u5) k2 + k:Nat):Int))),(20,.v (.slice aM ((C5 ag).length) aN)),(100,.v (.slice aE ((C4 l u5).length) aF)),(101,.v (.int .i64 (((C4 l u5).length:Nat):Int))),aD,(109,.v (.slice A4_ ((D1 W l (Tree.mk n1 s2 b3 l4 u5) k2 ++ F4 ((C4 l u5).take k)).length) c4_)),(112,.v (.int .u64 (IntKind.u64.wrap au)))] ew jY fun pX jZ=>?_
  have j0:IntKind.u64.wrap au = ((au.toNat:Nat):Int):=by simp only [G3,E3,N8,IntKind.wrap_i64,IntKind.wrap_i32]; omega
  have j1:=EnvOk.pick jZ (ks:=[9,11,20,100,101,102,109,112]) (env':=[(9,.v (.slice A_ ((D8 W l v (Tree.mk n1 s2 b3 l4 u5) 0).length) c_)),(11,.v (.int .i64 ((E0 W l (Tree.mk n1 s2 b3 l4 u5) k2 + k:Nat):Int))),(20,.v (.slice aM ((C5 ag).length) aN)),(100,.v (.slice aE ((C4 l u5).length) aF)),(101,.v (.int .i64 (((C4 l u5).length:Nat):Int))),aD,(109,.v (.slice A4_ ((D1 W l (Tree.mk n1 s2 b3 l4 u5) k2 ++ F4 ((C4 l u5).take k)).length) c4_)),(112,.v (.int .u64 (IntKind.u64.wrap au)))]) kz
  let dp:Nat × SV:=(112,.v (.int .u64 ((au.toNat:Nat):Int)))
  have j2:=j1.cast (env':=[(9,.v (.slice A_ ((D8 W l v (Tree.mk n1 s2 b3 l4 u5) 0).length) c_)),(11,.v (.int .i64 ((E0 W l (Tree.mk n1 s2 b3 l4 u5) k2 + k:Nat):Int))),(20,.v (.slice aM ((C5 ag).length) aN)),(100,.v (.slice aE ((C4 l u5).length) aF)),(101,.v (.int .i64 (((C4 l u5).length:Nat):Int))),aD,(109,.v (.slice A4_ ((D1 W l (Tree.mk n1 s2 b3 l4 u5) k2 ++ F4 ((C4 l u5).take k)).length) c4_)),dp]) (by simp only [dp,j0]; try rfl)
  refine B2 (D3 j2 (f:=44) (vs:=[.int .u64 ((au.toNat:Nat):Int)]) (d:=113) kz Tryz.call44 (Cy au.toNat (by omega) _) ?_)
  rintro e_ pY ⟨dx,dy,rfl,j3,j4⟩
  refine ⟨_,rfl,fun pZ j5=>?_⟩
  obtain ⟨ey,cE⟩:=ew.frFresh j4 (B4 dx dy 5 (uv au.toNat)) (Nat.le_refl _) j3
  refine B2 (I4 ey j5 (k:=1) (d:=114) (t:=22) (e:=5) (size:=1) (bytes:=1) (A:=A4_) (As:=dx) (m0:=((D1 W l (Tree.mk n1 s2 b3 l4 u5) k2 ++ F4 ((C4 l u5).take k)).length)) (c:=c4_) (m:=((uv au.toNat).length)) (cs:=dy) (xs:=(bc (D1 W l (Tree.mk n1 s2 b3 l4 u5) k2 ++ F4 ((C4 l u5).take k)))) (news:=bc (uv au.toNat)) kz kz rfl (L0 (ey.own 2 _ rfl) (S2 _)) (M1 (ey.own 2 _ rfl)) (by have h_:=FW (l:=(C4 l u5)) (k + 1); rw [Ej cC] at h_; simp only [List.length_append] at h_ ⊢; omega) fun bL bM p4 p5 cG j6 j7=>?_)
  have j8:(⟨bL,bM,5,1,(D1 W l (Tree.mk n1 s2 b3 l4 u5) k2 ++ F4 ((C4 l u5).take k)).length + (uv au.toNat).length,bc (D1 W l (Tree.mk n1 s2 b3 l4 u5) k2 ++ F4 ((C4 l u5).take k)) ++ bc (uv au.toNat)⟩:Rw) = B4 bL bM 5 (D1 W l (Tree.mk n1 s2 b3 l4 u5) k2 ++ F4 ((C4 l u5).take k) ++ (uv au.toNat)):=O8 (rfl) rfl
  obtain ⟨fA,cH⟩:=j6.rowEq 1 [B4 A_ c_ 5 (D8 W l v (Tree.mk n1 s2 b3 l4 u5) 0),B4 bL bM 5 (D1 W l (Tree.mk n1 s2 b3 l4 u5) k2 ++ F4 ((C4 l u5).take k) ++ (uv au.toNat)),B4 dx dy 5 (uv au.toNat)] j8
  let fB:Nat × SV:=(113,.v (.slice dx ((uv au.toNat).length) dy))
  have j9:=EnvOk.pick j7 (ks:=[9,11,20,100,101,102,109,112,113,114]) (env':=[(9,.v (.slice A_ ((D8 W l v (Tree.mk n1 s2 b3 l4 u5) 0).length) c_)),(11,.v (.int .i64 ((E0 W l (Tree.mk n1 s2 b3 l4 u5) k2 + k:Nat):Int))),(20,.v (.slice aM ((C5 ag).length) aN)),(100,.v (.slice aE ((C4 l u5).length) aF)),(101,.v (.int .i64 (((C4 l u5).length:Nat):Int))),aD,(109,.v (.slice A4_ ((D1 W l (Tree.mk n1 s2 b3 l4 u5) k2 ++ F4 ((C4 l u5).take k)).length) c4_)),dp,fB,(114,.v (.slice bL ((D1 W l (Tree.mk n1 s2 b3 l4 u5) k2 ++ F4 ((C4 l u5).take k)).length + (uv au.toNat).length) bM))]) kz
  have ka:=j9.cast (env':=[(9,.v (.slice A_ ((D8 W l v (Tree.mk n1 s2 b3 l4 u5) 0).length) c_)),(11,.v (.int .i64 ((E0 W l (Tree.mk n1 s2 b3 l4 u5) k2 + k:Nat):Int))),(20,.v (.slice aM ((C5 ag).length) aN)),(100,.v (.slice aE ((C4 l u5).length) aF)),(101,.v (.int .i64 (((C4 l u5).length:Nat):Int))),aD,(109,.v (.slice A4_ ((D1 W l (Tree.mk n1 s2 b3 l4 u5) k2 ++ F4 ((C4 l u5).take k)).length) c4_)),dp,fB,(114,.v (.slice bL ((D1 W l (Tree.mk n1 s2 b3 l4 u5) k2 ++ F4 ((C4 l u5).take k) ++ (uv au.toNat)).length) bM))]) (by simp only [List.length_append,List.length_cons,List.length_nil,Nat.zero_add])
  refine B1 [6,7,8] [9,10,11,12,13] [(9,.v (.slice A_ ((D8 W l v (Tree.mk n1 s2 b3 l4 u5) 0).length) c_)),(11,.v (.int .i64 ((E0 W l (Tree.mk n1 s2 b3 l4 u5) k2 + k:Nat):Int))),(20,.v (.slice aM ((C5 ag).length) aN)),(100,.v (.slice aE ((C4 l u5).length) aF)),(101,.v (.int .i64 (((C4 l u5).length:Nat):Int))),aD,(114,.v (.slice bL ((D1 W l (Tree.mk n1 s2 b3 l4 u5) k2 ++ F4 ((C4 l u5).take k) ++ (uv au.toNat)).length) bM)),(117,.v (.int .u64 (IntKind.u64.wrap (((C5 ag).length:Nat):Int))))] fA ka fun p6 kd=>?_
  have ke:IntKind.u64.wrap (((C5 ag).length:Nat):Int) = (((C5 ag).length:Nat):Int):=by simp only [G3,E3,N8,IntKind.wrap_i64,IntKind.wrap_i32]; omega
  have kf:=EnvOk.pick kd (ks:=[9,11,20,100,101,102,114,117]) (env':=[(9,.v (.slice A_ ((D8 W l v (Tree.mk n1 s2 b3 l4 u5) 0).length) c_)),(11,.v (.int .i64 ((E0 W l (Tree.mk n1 s2 b3 l4 u5) k2 + k:Nat):Int))),(20,.v (.slice aM ((C5 ag).length) aN)),(100,.v (.slice aE ((C4 l u5).length) aF)),(101,.v (.int .i64 (((C4 l u5).length:Nat):Int))),aD,(114,.v (.slice bL ((D1 W l (Tree.mk n1 s2 b3 l4 u5) k2 ++ F4 ((C4 l u5).take k) ++ (uv au.toNat)).length) bM)),(117,.v (.int .u64 (IntKind.u64.wrap (((C5 ag).length:Nat):Int))))]) kz
  have kg:=kf
  rw [ke] at kg
  refine B2 (D3 kg (f:=44) (vs:=[.int .u64 (((C5 ag).length:Nat):Int)]) (d:=118) kz Tryz.call44 (Cy ((C5 ag).length) (by omega) _) ?_)
  rintro e_ p7 ⟨dA,dB,rfl,kh,ki⟩
  refine ⟨_,rfl,fun p8 kj=>?_⟩
  obtain ⟨ez,cI⟩:=fA.frFresh ki (B4 dA dB 5 (uv ((C5 ag).length))) (Nat.le_refl _) kh
  refine B2 (I4 ez kj (k:=1) (d:=119) (t:=22) (e:=5) (size:=1) (bytes:=1) (A:=bL) (As:=dA) (m0:=((D1 W l (Tree.mk n1 s2 b3 l4 u5) k2 ++ F4 ((C4 l u5).take k) ++ (uv au.toNat)).length)) (c:=bM) (m:=((uv ((C5 ag).length)).length)) (cs:=dB) (xs:=(bc (D1 W l (Tree.mk n1 s2 b3 l4 u5) k2 ++ F4 ((C4 l u5).take k) ++ (uv au.toNat)))) (news:=bc (uv ((C5 ag).length))) kz kz rfl (L0 (ez.own 3 _ rfl) (S2 _)) (M1 (ez.own 3 _ rfl)) (by have h_:=FW (l:=(C4 l u5)) (k + 1); rw [Ej cC] at h_; simp only [List.length_append] at h_ ⊢; omega) fun bX bY p9 qa cJ km ko=>?_)
  have kp:(⟨bX,bY,5,1,(D1 W l (Tree.mk n1 s2 b3 l4 u5) k2 ++ F4 ((C4 l u5).take k) ++ (uv au.toNat)).length + (uv ((C5 ag).length)).length,bc (D1 W l (Tree.mk n1 s2 b3 l4 u5) k2 ++ F4 ((C4 l u5).take k) ++ (uv au.toNat)) ++ bc (uv ((C5 ag).length))⟩:Rw) = B4 bX bY 5 (D1 W l (Tree.mk n1 s2 b3 l4 u5) k2 ++ F4 ((C4 l u5).take k) ++ (uv au.toNat) ++ (uv ((C5 ag).length))):=O8 (rfl) rfl
  obtain ⟨fC,cK⟩:=km.rowEq 1 [B4 A_ c_ 5 (D8 W l v (Tree.mk n1 s2 b3 l4 u5) 0),B4 bX bY 5 (D1 W l (Tree.mk n1 s2 b3 l4 u5) k2 ++ F4 ((C4 l u5).take k) ++ (uv au.toNat) ++ (uv ((C5 ag).length))),B4 dx dy 5 (uv au.toNat),B4 dA dB 5 (uv ((C5 ag).length))] kp
  have kq:=EnvOk.pick ko (ks:=[9,11,20,100,101,102,114,117,118,119]) (env':=[(9,.v (.slice A_ ((D8 W l v (Tree.mk n1 s2 b3 l4 u5) 0).length) c_)),(11,.v (.int .i64 ((E0 W l (Tree.mk n1 s2 b3 l4 u5) k2 + k:Nat):Int))),(20,.v (.slice aM ((C5 ag).length) aN)),(100,.v (.slice aE ((C4 l u5).length) aF)),(101,.v (.int .i64 (((C4 l u5).length:Nat):Int))),aD,(114,.v (.slice bL ((D1 W l (Tree.mk n1 s2 b3 l4 u5) k2 ++ F4 ((C4 l u5).take k) ++ (uv au.toNat)).length) bM)),(117,.v (.int .u64 (((C5 ag).length:Nat):Int))),(118,.v (.slice dA ((uv ((C5 ag).length)).length) dB)),(119,.v (.slice bX ((D1 W l (Tree.mk n1 s2 b3 l4 u5) k2 ++ F4 ((C4 l u5).take k) ++ (uv au.toNat)).length + (uv ((C5 ag).length)).length) bY))]) kz
  have ku:=kq.cast (env':=[(9,.v (.slice A_ ((D8 W l v (Tree.mk n1 s2 b3 l4 u5) 0).length) c_)),(11,.v (.int .i64 ((E0 W l (Tree.mk n1 s2 b3 l4 u5) k2 + k:Nat):Int))),(20,.v (.slice aM ((C5 ag).length) aN)),(100,.v (.slice aE ((C4 l u5).length) aF)),(101,.v (.int .i64 (((C4 l u5).length:Nat):Int))),aD,(114,.v (.slice bL ((D1 W l (Tree.mk n1 s2 b3 l4 u5) k2 ++ F4 ((C4 l u5).take k) ++ (uv au.toNat)).length) bM)),(117,.v (.int .u64 (((C5 ag).length:Nat):Int))),(118,.v (.slice dA ((uv ((C5 ag).length)).length) dB)),(119,.v (.slice bX ((D1 W l (Tree.mk n1 s2 b3 l4 u5) k2 ++ F4 ((C4 l u5).take k) ++ (uv au.toNat) ++ (uv ((C5 ag).length))).length) bY))]) (by simp only [List.length_append,List.length_cons,List.length_nil,Nat.zero_add])
  refine B1 [11] [12,13] [(9,.v (.slice A_ ((D8 W l v (Tree.mk n1 s2 b3 l4 u5) 0).length) c_)),(11,.v (.int .i64 ((E0 W l (Tree.mk n1 s2 b3 l4 u5) k2 + k:Nat):Int))),(100,.v (.slice aE ((C4 l u5).length) aF)),(101,.v (.int .i64 (((C4 l u5).length:Nat):Int))),aD,(119,.v (.slice bX ((D1 W l (Tree.mk n1 s2 b3 l4 u5) k2 ++ F4 ((C4 l u5).take k) ++ (uv au.toNat) ++ (uv ((C5 ag).length))).length) bY)),(120,.v (.slice aM ((C5 ag).length) aN))] fC ku fun qb kv=>?_
  refine B2 (I4 fC kv (k:=1) (d:=121) (t:=22) (e:=5) (size:=1) (bytes:=1) (A:=bX) (As:=aM) (m0:=((D1 W l (Tree.mk n1 s2 b3 l4 u5) k2 ++ F4 ((C4 l u5).take k) ++ (uv au.toNat) ++ (uv ((C5 ag).length))).length)) (c:=bY) (m:=((C5 ag).length)) (cs:=aN) (xs:=(bc (D1 W l (Tree.mk n1 s2 b3 l4 u5) k2 ++ F4 ((C4 l u5).take k) ++ (uv au.toNat) ++ (uv ((C5 ag).length))))) (news:=bc (C5 ag)) kz kz rfl ((eu.take 32767).move ((((((((((bA.trans aR).trans bJ).trans bK).trans cD).trans cE).trans cG).trans cH).trans cI).trans cJ).trans cK).step immM ((((((((((bA.trans aR).trans bJ).trans bK).trans cD).trans cE).trans cG).trans cH).trans cI).trans cJ).trans cK).to').src ((eu.take 32767).move ((((((((((bA.trans aR).trans bJ).trans bK).trans cD).trans cE).trans cG).trans cH).trans cI).trans cJ).trans cK).step immM ((((((((((bA.trans aR).trans bJ).trans bK).trans cD).trans cE).trans cG).trans cH).trans cI).trans cJ).trans cK).to').cap (by have h_:=FW (l:=(C4 l u5)) (k + 1); rw [Ej cC] at h_; simp only [List.length_append] at h_ ⊢; omega) fun aU aV qc qd kw kx ky=>?_)
  have kA:(⟨aU,aV,5,1,(D1 W l (Tree.mk n1 s2 b3 l4 u5) k2 ++ F4 ((C4 l u5).take k) ++ (uv au.toNat) ++ (uv ((C5 ag).length))).length + (C5 ag).length,bc (D1 W l (Tree.mk n1 s2 b3 l4 u5) k2 ++ F4 ((C4 l u5).take k) ++ (uv au.toNat) ++ (uv ((C5 ag).length))) ++ bc (C5 ag)⟩:Rw) = B4 aU aV 5 (D1 W l (Tree.mk n1 s2 b3 l4 u5) k2 ++ F4 ((C4 l u5).take k) ++ (uv au.toNat) ++ (uv ((C5 ag).length)) ++ (C5 ag)):=O8 (rfl) rfl
  obtain ⟨dq,kB⟩:=kx.rowEq 1 [B4 A_ c_ 5 (D8 W l v (Tree.mk n1 s2 b3 l4 u5) 0),B4 aU aV 5 (D1 W l (Tree.mk n1 s2 b3 l4 u5) k2 ++ F4 ((C4 l u5).take k) ++ (uv au.toNat) ++ (uv ((C5 ag).length)) ++ (C5 ag)),B4 dx dy 5 (uv au.toNat),B4 dA dB 5 (uv ((C5 ag).length))] kA
  have kC:=EnvOk.pick ky (ks:=[9,11,100,101,102,119,120,121]) (env':=[(9,.v (.slice A_ ((D8 W l v (Tree.mk n1 s2 b3 l4 u5) 0).length) c_)),(11,.v (.int .i64 ((E0 W l (Tree.mk n1 s2 b3 l4 u5) k2 + k:Nat):Int))),(100,.v (.slice aE ((C4 l u5).length) aF)),(101,.v (.int .i64 (((C4 l u5).length:Nat):Int))),aD,(119,.v (.slice bX ((D1 W l (Tree.mk n1 s2 b3 l4 u5) k2 ++ F4 ((C4 l u5).take k) ++ (uv au.toNat) ++ (uv ((C5 ag).length))).length) bY)),(120,.v (.slice aM ((C5 ag).length) aN)),(121,.v (.slice aU ((D1 W l (Tree.mk n1 s2 b3 l4 u5) k2 ++ F4 ((C4 l u5).take k) ++ (uv au.toNat) ++ (uv ((C5 ag).length))).length + (C5 ag).length) aV))]) kz
  have kD:=kC.cast (env':=[(9,.v (.slice A_ ((D8 W l v (Tree.mk n1 s2 b3 l4 u5) 0).length) c_)),(11,.v (.int .i64 ((E0 W l (Tree.mk n1 s2 b3 l4 u5) k2 + k:Nat):Int))),(100,.v (.slice aE ((C4 l u5).length) aF)),(101,.v (.int .i64 (((C4 l u5).length:Nat):Int))),aD,(119,.v (.slice bX ((D1 W l (Tree.mk n1 s2 b3 l4 u5) k2 ++ F4 ((C4 l u5).take k) ++ (uv au.toNat) ++ (uv ((C5 ag).length))).length) bY)),(120,.v (.slice aM ((C5 ag).length) aN)),(121,.v (.slice aU ((D1 W l (Tree.mk n1 s2 b3 l4 u5) k2 ++ F4 ((C4 l u5).take k) ++ (uv au.toNat) ++ (uv ((C5 ag).length)) ++ (C5 ag)).length) aV))]) (by simp only [List.length_append,List.length_cons,List.length_nil,Nat.zero_add])
  refine B1 [13] [] [(9,.v (.slice A_ ((D8 W l v (Tree.mk n1 s2 b3 l4 u5) 0).length) c_)),(10,.v (.slice aU ((D1 W l (Tree.mk n1 s2 b3 l4 u5) k2 ++ F4 ((C4 l u5).take k) ++ (uv au.toNat) ++ (uv ((C5 ag).length)) ++ (C5 ag)).length) aV)),(11,.v (.int .i64 ((E0 W l (Tree.mk n1 s2 b3 l4 u5) k2 + k:Nat):Int))),(100,.v (.slice aE ((C4 l u5).length) aF)),(101,.v (.int .i64 (((C4 l u5).length:Nat):Int))),aD] dq kD fun qe kE=>?_
  refine B5 (A4 ?_)
  refine D7 [0,1,2] kz ?_
  refine B1 [0,1,2] [] [(9,.v (.slice A_ ((D8 W l v (Tree.mk n1 s2 b3 l4 u5) 0).length) c_)),(10,.v (.slice aU ((D1 W l (Tree.mk n1 s2 b3 l4 u5) k2 ++ F4 ((C4 l u5).take k) ++ (uv au.toNat) ++ (uv ((C5 ag).length)) ++ (C5 ag)).length) aV)),(11,.v (.int .i64 (IntKind.i64.wrap (((E0 W l (Tree.mk n1 s2 b3 l4 u5) k2 + k:Nat):Int) + 1)))),(100,.v (.slice aE ((C4 l u5).length) aF)),(101,.v (.int .i64 (((C4 l u5).length:Nat):Int))),aD] dq kE fun qf kF=>?_
  refine B5 (F2 (A4 (D7 [0,1] kz ?_)))
  refine B1 [0,1] [] [(9,.v (.slice A_ ((D8 W l v (Tree.mk n1 s2 b3 l4 u5) 0).length) c_)),(10,.v (.slice aU ((D1 W l (Tree.mk n1 s2 b3 l4 u5) k2 ++ F4 ((C4 l u5).take k) ++ (uv au.toNat) ++ (uv ((C5 ag).length)) ++ (C5 ag)).length) aV)),(11,.v (.int .i64 (IntKind.i64.wrap (((E0 W l (Tree.mk n1 s2 b3 l4 u5) k2 + k:Nat):Int) + 1)))),(100,.v (.slice aE ((C4 l u5).length) aF)),(101,.v (.int .i64 (((C4 l u5).length:Nat):Int))),(102,.v (.int .i64 (IntKind.i64.wrap (((k:Nat):Int) + 1))))] dq kF fun qg kG=>?_
  refine B5 (A4 ?_)
  obtain ⟨dr,kH,kI⟩:=dq.cutB kG 1 [aK] [(9,.v (.slice A_ ((D8 W l v (Tree.mk n1 s2 b3 l4 u5) 0).length) c_)),(10,.v (.slice aU ((D1 W l (Tree.mk n1 s2 b3 l4 u5) k2 ++ F4 ((C4 l u5).take k) ++ (uv au.toNat) ++ (uv ((C5 ag).length)) ++ (C5 ag)).length) aV)),(11,.v (.int .i64 (IntKind.i64.wrap (((E0 W l (Tree.mk n1 s2 b3 l4 u5) k2 + k:Nat):Int) + 1)))),(100,.v (.slice aE ((C4 l u5).length) aF)),(101,.v (.int .i64 (((C4 l u5).length:Nat):Int))),(102,.v (.int .i64 (IntKind.i64.wrap (((k:Nat):Int) + 1))))]
  obtain ⟨kJ,kK⟩:=kH.cutR 2 [B4 A_ c_ 5 (D8 W l v (Tree.mk n1 s2 b3 l4 u5) 0),B4 aU aV 5 (D1 W l (Tree.mk n1 s2 b3 l4 u5) k2 ++ F4 ((C4 l u5).take k) ++ (uv au.toNat) ++ (uv ((C5 ag).length)) ++ (C5 ag))]
  have fD:(D1 W l (Tree.mk n1 s2 b3 l4 u5) k2 ++ F4 ((C4 l u5).take k) ++ (uv au.toNat) ++ (uv ((C5 ag).length)) ++ (C5 ag)) = (D1 W l (Tree.mk n1 s2 b3 l4 u5) k2 ++ F4 ((C4 l u5).take (k + 1))):=by rw [Ej cC]; simp only [List.append_assoc]
  have kL:=congrArg (B4 aU aV 5) fD
  obtain ⟨kM,kN⟩:=kJ.rowEq 1 [B4 A_ c_ 5 (D8 W l v (Tree.mk n1 s2 b3 l4 u5) 0),B4 aU aV 5 (D1 W l (Tree.mk n1 s2 b3 l4 u5) k2 ++ F4 ((C4 l u5).take (k + 1)))] kL
  rw [fD] at dr
  have kO:IntKind.i64.wrap (((k:Nat):Int) + 1) = ((k + 1:Nat):Int):=G8 (by omega)
  rw [kO] at dr
  have kP:IntKind.i64.wrap (((E0 W l (Tree.mk n1 s2 b3 l4 u5) k2 + k:Nat):Int) + 1) = ((E0 W l (Tree.mk n1 s2 b3 l4 u5) k2 + (k + 1):Nat):Int):=by rw [wrap_i64 (by omega) (by omega)]; omega
  rw [kP] at dr
  exact ⟨(C4 l u5).length - (k + 1),by omega,k + 1,aU,aV,rfl,by omega,dr.pk,kM,((((((((((((((aR.trans bJ).trans bK).trans cD).trans cE).trans cG).trans cH).trans cI).trans cJ).trans cK).trans kw).trans kB).trans kI).trans kK).trans kN)⟩
 have ns:=of_decide_eq_false eo
 refine wp_exit (E7 (E7 (G9 (A4 (C0 [0,1,2,3,4,5,6,7] kz ?_)))))
 refine B1 [0,1,2] [3,4,5,6,7] [(10,.v (.slice A4_ ((D1 W l (Tree.mk n1 s2 b3 l4 u5) k2 ++ F4 ((C4 l u5).take k)).length) c4_)),(125,.v (.slice A_ ((D8 W l v (Tree.mk n1 s2 b3 l4 u5) 0).length) c_)),(127,.v (.int .u64 (IntKind.u64.wrap ((E0 W l (Tree.mk n1 s2 b3 l4 u5) k2 + k:Nat):Int))))] dj em fun qh kQ=>?_
 have kR:IntKind.u64.wrap ((E0 W l (Tree.mk n1 s2 b3 l4 u5) k2 + k:Nat):Int) = ((E0 W l (Tree.mk n1 s2 b3 l4 u5) k2 + k:Nat):Int):=by simp only [G3,E3,N8,IntKind.wrap_i64,IntKind.wrap_i32]; omega
 have kS:=EnvOk.pick kQ (ks:=[10,125,127]) (env':=[(10,.v (.slice A4_ ((D1 W l (Tree.mk n1 s2 b3 l4 u5) k2 ++ F4 ((C4 l u5).take k)).length) c4_)),(125,.v (.slice A_ ((D8 W l v (Tree.mk n1 s2 b3 l4 u5) 0).length) c_)),(127,.v (.int .u64 (IntKind.u64.wrap ((E0 W l (Tree.mk n1 s2 b3 l4 u5) k2 + k:Nat):Int))))]) kz
 have kT:=kS
 rw [kR] at kT
 refine B2 (D3 kT (f:=44) (vs:=[.int .u64 ((E0 W l (Tree.mk n1 s2 b3 l4 u5) k2 + k:Nat):Int)]) (d:=128) kz Tryz.call44 (Cy (E0 W l (Tree.mk n1 s2 b3 l4 u5) k2 + k) (by omega) _) ?_)
 rintro e_ qi ⟨dC,dD,rfl,kU,kV⟩
 refine ⟨_,rfl,fun qj kW=>?_⟩
 obtain ⟨eB,nt⟩:=dj.frFresh kV (B4 dC dD 5 (uv (E0 W l (Tree.mk n1 s2 b3 l4 u5) k2 + k))) (Nat.le_refl _) kU
 refine B2 (I4 eB kW (k:=0) (d:=129) (t:=22) (e:=5) (size:=1) (bytes:=1) (A:=A_) (As:=dC) (m0:=((D8 W l v (Tree.mk n1 s2 b3 l4 u5) 0).length)) (c:=c_) (m:=((uv (E0 W l (Tree.mk n1 s2 b3 l4 u5) k2 + k)).length)) (cs:=dD) (xs:=(bc (D8 W l v (Tree.mk n1 s2 b3 l4 u5) 0))) (news:=bc (uv (E0 W l (Tree.mk n1 s2 b3 l4 u5) k2 + k))) kz kz rfl (L0 (eB.own 2 _ rfl) (S2 _)) (M1 (eB.own 2 _ rfl)) (by have hkk3:k = (C4 l u5).length:=(by omega); subst hkk3; subst hkk2; simp only [List.length_append,List.take_length] at *; omega) fun bZ b8 qk ql nu kX kY=>?_)
 have kZ:(⟨bZ,b8,5,1,(D8 W l v (Tree.mk n1 s2 b3 l4 u5) 0).length + (uv (E0 W l (Tree.mk n1 s2 b3 l4 u5) k2 + k)).length,bc (D8 W l v (Tree.mk n1 s2 b3 l4 u5) 0) ++ bc (uv (E0 W l (Tree.mk n1 s2 b3 l4 u5) k2 + k))⟩:Rw) = B4 bZ b8 5 (D8 W l v (Tree.mk n1 s2 b3 l4 u5) 0 ++ (uv (E0 W l (Tree.mk n1 s2 b3 l4 u5) k2 + k))):=O8 (rfl) rfl
 obtain ⟨dt,nv⟩:=kX.rowEq 0 [B4 bZ b8 5 (D8 W l v (Tree.mk n1 s2 b3 l4 u5) 0 ++ (uv (E0 W l (Tree.mk n1 s2 b3 l4 u5) k2 + k))),B4 A4_ c4_ 5 (D1 W l (Tree.mk n1 s2 b3 l4 u5) k2 ++ F4 ((C4 l u5).take k)),B4 dC dD 5 (uv (E0 W l (Tree.mk n1 s2 b3 l4 u5) k2 + k))] kZ
 have k5:=EnvOk.pick kY (ks:=[10,125,127,128,129]) (env':=[(10,.v (.slice A4_ ((D1 W l (Tree.mk n1 s2 b3 l4 u5) k2 ++ F4 ((C4 l u5).take k)).length) c4_)),(125,.v (.slice A_ ((D8 W l v (Tree.mk n1 s2 b3 l4 u5) 0).length) c_)),(127,.v (.int .u64 ((E0 W l (Tree.mk n1 s2 b3 l4 u5) k2 + k:Nat):Int))),(128,.v (.slice dC ((uv (E0 W l (Tree.mk n1 s2 b3 l4 u5) k2 + k)).length) dD)),(129,.v (.slice bZ ((D8 W l v (Tree.mk n1 s2 b3 l4 u5) 0).length + (uv (E0 W l (Tree.mk n1 s2 b3 l4 u5) k2 + k)).length) b8))]) kz
 have k6:=k5.cast (env':=[(10,.v (.slice A4_ ((D1 W l (Tree.mk n1 s2 b3 l4 u5) k2 ++ F4 ((C4 l u5).take k)).length) c4_)),(125,.v (.slice A_ ((D8 W l v (Tree.mk n1 s2 b3 l4 u5) 0).length) c_)),(127,.v (.int .u64 ((E0 W l (Tree.mk n1 s2 b3 l4 u5) k2 + k:Nat):Int))),(128,.v (.slice dC ((uv (E0 W l (Tree.mk n1 s2 b3 l4 u5) k2 + k)).length) dD)),(129,.v (.slice bZ ((D8 W l v (Tree.mk n1 s2 b3 l4 u5) 0 ++ (uv (E0 W l (Tree.mk n1 s2 b3 l4 u5) k2 + k))).length) b8))]) (by simp only [List.length_append,List.length_cons,List.length_nil,Nat.zero_add])
 refine B1 [5] [6,7] [(129,.v (.slice bZ ((D8 W l v (Tree.mk n1 s2 b3 l4 u5) 0 ++ (uv (E0 W l (Tree.mk n1 s2 b3 l4 u5) k2 + k))).length) b8)),(130,.v (.slice A4_ ((D1 W l (Tree.mk n1 s2 b3 l4 u5) k2 ++ F4 ((C4 l u5).take k)).length) c4_))] dt k6 fun qm k7=>?_
 refine B2 (I4 dt k7 (k:=0) (d:=131) (t:=22) (e:=5) (size:=1) (bytes:=1) (A:=bZ) (As:=A4_) (m0:=((D8 W l v (Tree.mk n1 s2 b3 l4 u5) 0 ++ (uv (E0 W l (Tree.mk n1 s2 b3 l4 u5) k2 + k))).length)) (c:=b8) (m:=((D1 W l (Tree.mk n1 s2 b3 l4 u5) k2 ++ F4 ((C4 l u5).take k)).length)) (cs:=c4_) (xs:=(bc (D8 W l v (Tree.mk n1 s2 b3 l4 u5) 0 ++ (uv (E0 W l (Tree.mk n1 s2 b3 l4 u5) k2 + k))))) (news:=bc (D1 W l (Tree.mk n1 s2 b3 l4 u5) k2 ++ F4 ((C4 l u5).take k))) kz kz rfl (L0 (dt.own 1 _ rfl) (S2 _)) (M1 (dt.own 1 _ rfl)) (by have hkk3:k = (C4 l u5).length:=(by omega); subst hkk3; subst hkk2; simp only [List.length_append,List.take_length] at *; omega) fun cO cP qn qo nw k8 k9=>?_)
 have la:(⟨cO,cP,5,1,(D8 W l v (Tree.mk n1 s2 b3 l4 u5) 0 ++ (uv (E0 W l (Tree.mk n1 s2 b3 l4 u5) k2 + k))).length + (D1 W l (Tree.mk n1 s2 b3 l4 u5) k2 ++ F4 ((C4 l u5).take k)).length,bc (D8 W l v (Tree.mk n1 s2 b3 l4 u5) 0 ++ (uv (E0 W l (Tree.mk n1 s2 b3 l4 u5) k2 + k))) ++ bc (D1 W l (Tree.mk n1 s2 b3 l4 u5) k2 ++ F4 ((C4 l u5).take k))⟩:Rw) = B4 cO cP 5 (D8 W l v (Tree.mk n1 s2 b3 l4 u5) 0 ++ (uv (E0 W l (Tree.mk n1 s2 b3 l4 u5) k2 + k)) ++ (D1 W l (Tree.mk n1 s2 b3 l4 u5) k2 ++ F4 ((C4 l u5).take k))):=O8 (rfl) rfl
 obtain ⟨eC,nx⟩:=k8.rowEq 0 [B4 cO cP 5 (D8 W l v (Tree.mk n1 s2 b3 l4 u5) 0 ++ (uv (E0 W l (Tree.mk n1 s2 b3 l4 u5) k2 + k)) ++ (D1 W l (Tree.mk n1 s2 b3 l4 u5) k2 ++ F4 ((C4 l u5).take k))),B4 A4_ c4_ 5 (D1 W l (Tree.mk n1 s2 b3 l4 u5) k2 ++ F4 ((C4 l u5).take k)),B4 dC dD 5 (uv (E0 W l (Tree.mk n1 s2 b3 l4 u5) k2 + k))] la
 have lb:=EnvOk.pick k9 (ks:=[129,130,131]) (env':=[(129,.v (.slice bZ ((D8 W l v (Tree.mk n1 s2 b3 l4 u5) 0 ++ (uv (E0 W l (Tree.mk n1 s2 b3 l4 u5) k2 + k))).length) b8)),(130,.v (.slice A4_ ((D1 W l (Tree.mk n1 s2 b3 l4 u5) k2 ++ F4 ((C4 l u5).take k)).length) c4_)),(131,.v (.slice cO ((D8 W l v (Tree.mk n1 s2 b3 l4 u5) 0 ++ (uv (E0 W l (Tree.mk n1 s2 b3 l4 u5) k2 + k))).length + (D1 W l (Tree.mk n1 s2 b3 l4 u5) k2 ++ F4 ((C4 l u5).take k)).length) cP))]) kz
 have lc:=lb.cast (env':=[(129,.v (.slice bZ ((D8 W l v (Tree.mk n1 s2 b3 l4 u5) 0 ++ (uv (E0 W l (Tree.mk n1 s2 b3 l4 u5) k2 + k))).length) b8)),(130,.v (.slice A4_ ((D1 W l (Tree.mk n1 s2 b3 l4 u5) k2 ++ F4 ((C4 l u5).take k)).length) c4_)),(131,.v (.slice cO ((D8 W l v (Tree.mk n1 s2 b3 l4 u5) 0 ++ (uv (E0 W l (Tree.mk n1 s2 b3 l4 u5) k2 + k)) ++ (D1 W l (Tree.mk n1 s2 b3 l4 u5) k2 ++ F4 ((C4 l u5).take k))).length) cP))]) (by simp only [List.length_append,List.length_cons,List.length_nil,Nat.zero_add])
 refine B1 [7] [] [(8,.v (.slice cO ((D8 W l v (Tree.mk n1 s2 b3 l4 u5) 0 ++ (uv (E0 W l (Tree.mk n1 s2 b3 l4 u5) k2 + k)) ++ (D1 W l (Tree.mk n1 s2 b3 l4 u5) k2 ++ F4 ((C4 l u5).take k))).length) cP))] eC lc fun qp ld=>?_
 refine B5 (A4 ?_)
 refine wp_ret (C8 ld eC.cells (v:=.slice cO ((D8 W l v (Tree.mk n1 s2 b3 l4 u5) 0 ++ (uv (E0 W l (Tree.mk n1 s2 b3 l4 u5) k2 + k)) ++ (D1 W l (Tree.mk n1 s2 b3 l4 u5) k2 ++ F4 ((C4 l u5).take k))).length) cP) kz ?_)
 have hkk3:k = (C4 l u5).length:=by omega
 exact M8 eC (k:=0) rfl (by rw [show flex = true by simpa using cV,Ij,hkk3,hkk2,List.take_length])
theorem Gt:∀ d,Gq d
 | 0=>fun A c l v flex ct t w F hl hd ht hr=>Jj (fun _ _=>[]) A c l v flex ct t w F (fun cf f ct t w F hm hf ht hr=>by
   obtain ⟨i,hi⟩:=List.mem_iff_getElem?.1 hm
   have h:=Eg hi
   obtain ⟨k,x1,x2,x3,x4,x5,x6,l,A,c,xs,rfl,_⟩:=hf.open_
   rw [Eh] at h; omega) hl ht hr
 | d + 1=>fun A c l v flex ct t w F hl hd ht hr=>Jj (fun f t=>Q5 d f v flex t) A c l v flex ct t w F (fun cf f ct t w F hm hf ht hr=>Mh (Gt d) cf f v flex ct t w F hf (by
   obtain ⟨i,hi⟩:=List.mem_iff_getElem?.1 hm
   have h:=Eg hi
   obtain ⟨k,x1,x2,x3,x4,x5,x6,l,A,c,xs,rfl,_⟩:=hf.open_
   rw [Eh] at h
   show depths l ≤ d
   omega) ht hr) hl ht hr
theorem Mj {d:Nat} (A:Option Addr) (c:Nat) (l:List Fld) (x v:Int) (ct:List Value) (t:Tree) (w:World) (F:Nat → Nat → Prop) (hl:FldsR w F A c l) (hd:depths l ≤ d) (ht:TreeR w F ct t) (hroom:(P6 d l x v t).length ≤ 1099511627776) :
  Calls Tryz.prog 9 #[.agg #[.slice A l.length c,.int .i64 x],.int .i64 v,.agg ct.toArray] w (W3 w 5 (P6 d l x v t)):=by
 obtain ⟨xfs,h1,h2⟩:=hl.ex
 have hsm:=h1.small
 obtain ⟨n1,s2,b3,l4,u5,A6,c7,A8,c9,aM,aN,aR,rfl,rfl,aS,aT,bh,bj⟩:=ht.open_
 have aO:=aS.small
 have aP:=aT.small
 refine enter (n:=21) Tryz.func9 rfl Tryz.ntmps9 kz fun a hE=>?_
 have hW:=WOk.start w C1
 refine C0 [0,1,2] kz ?_
 let aj:Value:=.slice A l.length c
 refine B2 (K9 hW hE (d:=3) (cs:=[aj,.int .i64 x]) kz fun bk bn bo aU aV aW ap ar=>?_)
 let af:Value:=.slice A6 s2.length c7
 let ag:Value:=.slice A8 l4.length c9
 let ah:Value:=.slice aM u5.length aN
 refine B2 (K9 ap ar (d:=5) (cs:=[.int .i64 n1,af,.bool b3,ag,ah]) kz fun bp bq bt aX aY aZ aa au=>?_)
 let ai:Nat × SV:=(1,.v (.int .i64 v))
 refine B1 [2] [] [ai,(3,.p 0 0),(5,.p 1 0)] aa au fun bu av=>?_
 refine B5 (A4 ?_)
 refine C0 [0,1,2,3,4,5,6,7,8,9,10,11,12,13,14] kz ?_
 let ac:Nat × SV:=(8,.v (.slice A l.length c))
 let ae:Nat × SV:=(9,.v (.int .i64 v))
 refine B1 [0,1,2,3,4,5,6] [7,8,9,10,11,12,13,14] [ai,(3,.p 0 0),(5,.p 1 0),ac,ae,(13,.v (.bool (decide (x ≥ 0))))] aa av fun bw ao=>?_
 let ak:Nat × SV:=(19,.v (.agg #[.int .i64 n1,af,.bool b3,ag,ah]))
 let aQ:Value:=.agg #[.int .i64 n1,.slice A6 s2.length c7,.bool b3,.slice A8 l4.length c9,.slice aM u5.length aN]
 refine (Bool.eq_false_or_eq_true (decide (x ≥ 0))).elim (fun ab=>?_) (fun ab=>?_)
 ·
  have ba:=of_decide_eq_true ab
  have aw:=ao
  rw [ab] at aw
  refine B1 [7,8,9,10,11,12] [13,14] [ac,ae,(18,.v (.bool (decide (v ≥ x)))),ak] aa aw fun bx ax=>?_
  refine B2 (D3 ax (f:=22) (vs:=[aj,.int .i64 v,.bool (decide (v ≥ x)),.agg #[.int .i64 n1,af,.bool b3,ag,ah]]) (d:=20) kz Tryz.call22 (Gt _ _ _ l v (decide (v ≥ x)) _ (Tree.mk n1 s2 b3 l4 u5) _ _ ⟨xfs,(h1.move aa.step A7 aa.imm),(fun i_ x_ h_=>((h2 i_ x_ h_).move aa.step A7 aa.imm))⟩ hd (ht.move aa.step A7 aa.imm) (by simpa [P6,ab] using hroom)) ?_)
  rintro e_ bz ⟨ay,az,rfl,aA,aB⟩
  refine ⟨_,rfl,fun bA aC=>?_⟩
  obtain ⟨al,bd⟩:=aa.frFresh aB (B4 ay az 5 (E2 d l v (decide (v ≥ x)) (Tree.mk n1 s2 b3 l4 u5))) (Nat.le_refl _) aA
  refine B1 [14] [] [(6,.v (.slice ay ((E2 d l v (decide (v ≥ x)) (Tree.mk n1 s2 b3 l4 u5)).length) az))] al aC fun bB aD=>?_
  refine B5 (A4 ?_)
  refine wp_ret (C8 aD al.cells (v:=.slice ay ((E2 d l v (decide (v ≥ x)) (Tree.mk n1 s2 b3 l4 u5)).length) az) kz ?_)
  exact M8 al (k:=0) rfl (by simp [P6,ab])
 have bf:=of_decide_eq_false ab
 have aE:=ao
 rw [ab] at aE
 refine B1 [7,8,9,10,11,12] [13,14] [ac,ae,(18,.v (.bool false)),ak] aa aE fun bC aF=>?_
 refine B2 (D3 aF (f:=22) (vs:=[aj,.int .i64 v,.bool false,.agg #[.int .i64 n1,af,.bool b3,ag,ah]]) (d:=20) kz Tryz.call22 (Gt _ _ _ l v false _ (Tree.mk n1 s2 b3 l4 u5) _ _ ⟨xfs,(h1.move aa.step A7 aa.imm),(fun i_ x_ h_=>((h2 i_ x_ h_).move aa.step A7 aa.imm))⟩ hd (ht.move aa.step A7 aa.imm) (by simpa [P6,ab] using hroom)) ?_)
 rintro e_ bD ⟨aG,aH,rfl,aI,aJ⟩
 refine ⟨_,rfl,fun bE aK=>?_⟩
 obtain ⟨am,bg⟩:=aa.frFresh aJ (B4 aG aH 5 (E2 d l v false (Tree.mk n1 s2 b3 l4 u5))) (Nat.le_refl _) aI
 refine B1 [14] [] [(6,.v (.slice aG ((E2 d l v false (Tree.mk n1 s2 b3 l4 u5)).length) aH))] am aK fun bF aL=>?_
 refine B5 (A4 ?_)
 refine wp_ret (C8 aL am.cells (v:=.slice aG ((E2 d l v false (Tree.mk n1 s2 b3 l4 u5)).length) aH) kz ?_)
 exact M8 am (k:=0) rfl (by simp [P6,ab])
def sFetchRequestF:List Fld:=[(Fld.mk 8 0 (-1) 0 0 0 0 []),(Fld.mk 3 0 14 (-1) (-1) (-1) 0 []),(Fld.mk 10 0 (-1) (-1) 1 0 0 [(Fld.mk 3 0 (-1) (-1) (-1) (-1) 0 []),(Fld.mk 4 0 (-1) (-1) (-1) (-1) 0 [])]),(Fld.mk 3 0 (-1) (-1) (-1) 0 0 []),(Fld.mk 3 0 (-1) (-1) (-1) 0 0 []),(Fld.mk 3 3 (-1) (-1) (-1) 2147483647 0 []),(Fld.mk 1 4 (-1) (-1) (-1) 0 0 []),(Fld.mk 3 7 (-1) (-1) (-1) 0 0 []),(Fld.mk 3 7 (-1) (-1) (-1) (-1) 0 []),(Fld.mk 11 0 (-1) (-1) (-1) 0 10 [(Fld.mk 8 0 12 (-1) (-1) 0 0 []),(Fld.mk 7 13 (-1) (-1) (-1) 0 0 []),(Fld.mk 11 0 (-1) (-1) (-1) 0 10 [(Fld.mk 3 0 (-1) (-1) (-1) 0 0 []),(Fld.mk 3 9 (-1) (-1) (-1) (-1) 0 []),(Fld.mk 4 0 (-1) (-1) (-1) 0 0 []),(Fld.mk 3 12 (-1) (-1) (-1) (-1) 0 []),(Fld.mk 4 5 (-1) (-1) (-1) (-1) 0 []),(Fld.mk 3 0 (-1) (-1) (-1) 0 0 []),(Fld.mk 7 0 (-1) (-1) 0 0 0 []),(Fld.mk 4 0 (-1) (-1) 1 9223372036854775807 0 [])])]),(Fld.mk 11 7 (-1) (-1) (-1) 0 10 [(Fld.mk 8 7 12 (-1) (-1) 0 0 []),(Fld.mk 7 13 (-1) (-1) (-1) 0 0 []),(Fld.mk 11 0 (-1) (-1) (-1) 0 3 [])]),(Fld.mk 8 11 (-1) (-1) (-1) 0 0 [])]
def H6:Int:=12
abbrev z0 :=(Fld.mk 11 0 (-1) (-1) (-1) 0 10 [(Fld.mk 3 0 (-1) (-1) (-1) 0 0 []),(Fld.mk 3 9 (-1) (-1) (-1) (-1) 0 []),(Fld.mk 4 0 (-1) (-1) (-1) 0 0 []),(Fld.mk 3 12 (-1) (-1) (-1) (-1) 0 []),(Fld.mk 4 5 (-1) (-1) (-1) (-1) 0 []),(Fld.mk 3 0 (-1) (-1) (-1) 0 0 []),(Fld.mk 7 0 (-1) (-1) 0 0 0 []),(Fld.mk 4 0 (-1) (-1) 1 9223372036854775807 0 [])])
abbrev z8 :=(Fld.mk 4 0 (-1) (-1) 1 9223372036854775807 0 [])
theorem Mk (w:World) (F:Nat → Nat → Prop):Calls Tryz.prog 6 #[] w (LK w F sFetchRequestF H6):=by
 refine enter (n:=18) Tryz.func6 rfl Tryz.ntmps6 kz fun a hE=>?_
 have hW:=WOk.start w C1
 refine C0 [0] kz ?_
 let ac:Value:=.slice none 0 0
 let ab:Value:=.int .i64 0
 refine B2 (H4 hW hE (d:=0) (cs:=[ac,ab]) kz fun b1 a2 w3 hb4 hz5 hF6 hW7 hE8=>?_)
 refine B5 (A4 ?_)
 refine C0 [0,1,2,3,4,5,6,7,8,9,10,11,12,13,14,15,16,17] kz ?_
 let ao:Nat × SV:=(0,.p 0 0)
 let aj:Value:=.int .i64 8
 let aa:Value:=.int .i64 (-1)
 let ap:Nat × SV:=(1,.v (.agg #[aj,ab,aa,ab,ab,ab,ab,ac]))
 let ae:Value:=.int .i64 3
 let ar:Nat × SV:=(2,.v (.agg #[ae,ab,.int .i64 14,aa,aa,aa,ab,ac]))
 refine B1 [0,1] [2,3,4,5,6,7,8,9,10,11,12,13,14,15,16,17] [ao,ap,ar] hW7 hE8 fun a9 bj=>?_
 refine B2 (S3 bj (f:=16) (vs:=[]) (d:=3) (n':=4) kz Tryz.call16 Tryz.func16 rfl Tryz.ntmps16 kz fun cH bk=>?_)
 refine B7 [] hW7 bk fun cI bn=>?_
 refine C0 [0,1,2,3] kz ?_
 let ah:Value:=.int .i64 4
 refine B1 [0,1] [2,3] [(1,.v (.agg #[ae,ab,aa,aa,aa,aa,ab,ac])),(2,.v (.agg #[ah,ab,aa,aa,aa,aa,ab,ac]))] hW7 bn fun cJ bo=>?_
 refine B2 (L3 hW7 bo (e:=51) (size:=8) (len:=2) (cs:=[ae,ab,aa,aa,aa,aa,ab,ac,ah,ab,aa,aa,aa,aa,ab,ac]) (d:=3) kz kz fun bd cK cL bZ b8 cd ax bp=>?_)
 refine B1 [3] [] [(0,.v (.slice (some ⟨bd,0,none⟩) 2 2))] ax bp fun cM bq=>?_
 refine B5 (A4 ?_)
 refine wp_ret (C8 bq ax.cells (v:=.slice (some ⟨bd,0,none⟩) 2 2) kz ?_)
 refine ⟨_,rfl,fun cN bt=>?_⟩
 let aE:Ob:=⟨b1,0,[ac,ab],true⟩
 have bu:EnvOk 18 [aE] [(3,.v (.slice (some ⟨bd,0,none⟩) 2 2)),ao,ap,ar] _:=bt.places (⟨rfl,rfl,trivial⟩)
 let ak:Value:=.int .i64 10
 let am:Value:=.int .i64 1
 let aF:Value:=.slice (some ⟨bd,0,none⟩) 2 2
 let ay:Nat × SV:=(4,.v (.agg #[ak,ab,aa,aa,am,ab,ab,aF]))
 let bW:Value:=(.agg #[.int .i64 3,.int .i64 0,.int .i64 (-1),.int .i64 (-1),.int .i64 (-1),.int .i64 0,.int .i64 0,.slice none 0 0])
 let az:Nat × SV:=(5,.v (.agg #[ae,ab,aa,aa,aa,ab,ab,ac]))
 let aw:Nat × SV:=(6,.v (.agg #[ae,ab,aa,aa,aa,ab,ab,ac]))
 let aG:Value:=.int .i64 2147483647
 let aA:Nat × SV:=(7,.v (.agg #[ae,ae,aa,aa,aa,aG,ab,ac]))
 let aB:Nat × SV:=(8,.v (.agg #[am,ah,aa,aa,aa,ab,ab,ac]))
 let ag:Value:=.int .i64 7
 let aC:Nat × SV:=(9,.v (.agg #[ae,ag,aa,aa,aa,ab,ab,ac]))
 let aD:Nat × SV:=(10,.v (.agg #[ae,ag,aa,aa,aa,aa,ab,ac]))
 refine B1 [3,4,5,6,7,8,9] [10,11,12,13,14,15,16,17] [ao,ap,ar,ay,az,aw,aA,aB,aC,aD] ax bu fun cO bw=>?_
 refine B2 (S3 bw (f:=17) (vs:=[]) (d:=11) (n':=6) kz Tryz.call17 Tryz.func17 rfl Tryz.ntmps17 kz fun cP bx=>?_)
 refine B7 [] ax bx fun cQ bz=>?_
 refine C0 [0,1,2,3,4,5] kz ?_
 let al:Value:=.int .i64 12
 let aN:Nat × SV:=(1,.v (.agg #[aj,ab,al,aa,aa,ab,ab,ac]))
 let au:Value:=.int .i64 13
 let aH:Nat × SV:=(2,.v (.agg #[ag,au,aa,aa,aa,ab,ab,ac]))
 refine B1 [0,1] [2,3,4,5] [aN,aH] ax bz fun cR bA=>?_
 refine B2 (S3 bA (f:=33) (vs:=[]) (d:=3) (n':=10) kz Tryz.call33 Tryz.func33 rfl Tryz.ntmps33 kz fun cS bB=>?_)
 refine B7 [] ax bB fun cT bC=>?_
 refine C0 [0,1,2,3,4,5,6,7,8,9] kz ?_
 let aI:Value:=.int .i64 9223372036854775807
 refine B1 [0,1,2,3,4,5,6,7] [8,9] [(1,.v (.agg #[ae,ab,aa,aa,aa,ab,ab,ac])),(2,.v (.agg #[ae,.int .i64 9,aa,aa,aa,aa,ab,ac])),(3,.v (.agg #[ah,ab,aa,aa,aa,ab,ab,ac])),(4,.v (.agg #[ae,al,aa,aa,aa,aa,ab,ac])),(5,.v (.agg #[ah,.int .i64 5,aa,aa,aa,aa,ab,ac])),aw,(7,.v (.agg #[ag,ab,aa,aa,ab,ab,ab,ac])),(8,.v (.agg #[ah,ab,aa,aa,am,aI,ab,ac]))] ax bC fun cU bD=>?_
 refine B2 (L3 ax bD (e:=51) (size:=8) (len:=8) (cs:=[ae,ab,aa,aa,aa,ab,ab,ac,ae,.int .i64 9,aa,aa,aa,aa,ab,ac,ah,ab,aa,aa,aa,ab,ab,ac,ae,al,aa,aa,aa,aa,ab,ac,ah,.int .i64 5,aa,aa,aa,aa,ab,ac,ae,ab,aa,aa,aa,ab,ab,ac,ag,ab,aa,aa,ab,ab,ab,ac,ah,ab,aa,aa,am,aI,ab,ac]) (d:=9) kz kz fun bf cV cW ce cm cq aV bE=>?_)
 refine B1 [9] [] [(0,.v (.slice (some ⟨bf,0,none⟩) 8 8))] aV bE fun cX bF=>?_
 refine B5 (A4 ?_)
 refine wp_ret (C8 bF aV.cells (v:=.slice (some ⟨bf,0,none⟩) 8 8) kz ?_)
 refine ⟨_,rfl,fun cY bG=>?_⟩
 have bH:EnvOk 6 [aE] [(3,.v (.slice (some ⟨bf,0,none⟩) 8 8)),aN,aH] _:=bG.places (⟨rfl,rfl,trivial⟩)
 let ai:Value:=.int .i64 11
 let aJ:Value:=.slice (some ⟨bf,0,none⟩) 8 8
 refine B1 [3] [4,5] [aN,aH,(4,.v (.agg #[ai,ab,aa,aa,aa,ab,ak,aJ]))] aV bH fun cZ bI=>?_
 refine B2 (L3 aV bI (e:=51) (size:=8) (len:=3) (cs:=[aj,ab,al,aa,aa,ab,ab,ac,ag,au,aa,aa,aa,ab,ab,ac,ai,ab,aa,aa,aa,ab,ak,aJ]) (d:=5) kz kz fun bg da db cr cu cw aM bJ=>?_)
 refine B1 [5] [] [(0,.v (.slice (some ⟨bg,0,none⟩) 3 3))] aM bJ fun dc bK=>?_
 refine B5 (A4 ?_)
 refine wp_ret (C8 bK aM.cells (v:=.slice (some ⟨bg,0,none⟩) 3 3) kz ?_)
 refine ⟨_,rfl,fun de bL=>?_⟩
 have bM:EnvOk 18 [aE] [(11,.v (.slice (some ⟨bg,0,none⟩) 3 3)),ao,ap,ar,ay,az,aw,aA,aB,aC,aD] _:=bL.places (⟨rfl,rfl,trivial⟩)
 let aK:Value:=.slice (some ⟨bg,0,none⟩) 3 3
 let aO:Nat × SV:=(12,.v (.agg #[ai,ab,aa,aa,aa,ab,ak,aK]))
 refine B1 [11] [12,13,14,15,16,17] [ao,ap,ar,ay,az,aw,aA,aB,aC,aD,aO] aM bM fun df bN=>?_
 refine B2 (S3 bN (f:=18) (vs:=[]) (d:=13) (n':=5) kz Tryz.call18 Tryz.func18 rfl Tryz.ntmps18 kz fun dg bO=>?_)
 refine B7 [] aM bO fun dh bP=>?_
 refine C0 [0,1,2,3,4] kz ?_
 refine B1 [0,1,2] [3,4] [(1,.v (.agg #[aj,ag,al,aa,aa,ab,ab,ac])),aH,(3,.v (.agg #[ai,ab,aa,aa,aa,ab,ae,ac]))] aM bP fun di bQ=>?_
 refine B2 (L3 aM bQ (e:=51) (size:=8) (len:=3) (cs:=[aj,ag,al,aa,aa,ab,ab,ac,ag,au,aa,aa,aa,ab,ab,ac,ai,ab,aa,aa,aa,ab,ae,ac]) (d:=4) kz kz fun bh dj dl cz cA cB aW bR=>?_)
 refine B1 [4] [] [(0,.v (.slice (some ⟨bh,0,none⟩) 3 3))] aW bR fun dp bS=>?_
 refine B5 (A4 ?_)
 refine wp_ret (C8 bS aW.cells (v:=.slice (some ⟨bh,0,none⟩) 3 3) kz ?_)
 refine ⟨_,rfl,fun dq bT=>?_⟩
 have bU:EnvOk 18 [aE] [(13,.v (.slice (some ⟨bh,0,none⟩) 3 3)),ao,ap,ar,ay,az,aw,aA,aB,aC,aD,aO] _:=bT.places (⟨rfl,rfl,trivial⟩)
 let aL:Value:=.slice (some ⟨bh,0,none⟩) 3 3
 refine B1 [13,14] [15,16,17] [ao,ap,ar,ay,az,aw,aA,aB,aC,aD,aO,(14,.v (.agg #[ai,ag,aa,aa,aa,ab,ak,aL])),(15,.v (.agg #[aj,ai,aa,aa,aa,ab,ab,ac]))] aW bU fun dr bV=>?_
 refine B2 (L3 aW bV (e:=51) (size:=8) (len:=12) (cs:=[aj,ab,aa,ab,ab,ab,ab,ac,ae,ab,.int .i64 14,aa,aa,aa,ab,ac,ak,ab,aa,aa,am,ab,ab,aF,ae,ab,aa,aa,aa,ab,ab,ac,ae,ab,aa,aa,aa,ab,ab,ac,ae,ae,aa,aa,aa,aG,ab,ac,am,ah,aa,aa,aa,ab,ab,ac,ae,ag,aa,aa,aa,ab,ab,ac,ae,ag,aa,aa,aa,aa,ab,ac,ai,ab,aa,aa,aa,ab,ak,aK,ai,ag,aa,aa,aa,ab,ak,aL,aj,ai,aa,aa,aa,ab,ab,ac]) (d:=16) kz kz fun cC dt du cD cE bX aX aY=>?_)
 let aP:Value:=.slice (some ⟨cC,0,none⟩) 12 12
 refine B1 [16] [17] [ao,(17,.v (.agg #[aP,al]))] aX aY fun cG aZ=>?_
 refine B2 (D5 aX aZ (oi:=0) (cs:=[aP,al]) kz fun af bY av ba=>?_)
 refine B5 (A4 ?_)
 refine wp_ret (C8 ba av.cells (v:=.agg #[aP,al]) kz ?_)
 have aQ:=Flds.slots (F:=F) av (k:=0) (n:=2) (xs:=[ae,ab,aa,aa,aa,aa,ab,ac,ah,ab,aa,aa,aa,aa,ab,ac]) rfl (Flds.snoc (Flds.snoc (Flds.nil _ _) (c:=[ae,ab,aa,aa,aa,aa,ab,ac]) (x:=(Fld.mk 3 0 (-1) (-1) (-1) (-1) 0 [])) (FldR.mk (l:=[]) _ (H5 af (Fp F w)).1 (H5 af (Fp F w)).2)) (c:=[ah,ab,aa,aa,aa,aa,ab,ac]) (x:=(Fld.mk 4 0 (-1) (-1) (-1) (-1) 0 [])) (FldR.mk (l:=[]) _ (H5 af (Fp F w)).1 (H5 af (Fp F w)).2)) rfl (by decide)
 have aR:=Flds.slots (F:=F) av (k:=1) (n:=8) (xs:=[ae,ab,aa,aa,aa,ab,ab,ac,ae,.int .i64 9,aa,aa,aa,aa,ab,ac,ah,ab,aa,aa,aa,ab,ab,ac,ae,al,aa,aa,aa,aa,ab,ac,ah,.int .i64 5,aa,aa,aa,aa,ab,ac,ae,ab,aa,aa,aa,ab,ab,ac,ag,ab,aa,aa,ab,ab,ab,ac,ah,ab,aa,aa,am,aI,ab,ac]) rfl (Flds.snoc (Flds.snoc (Flds.snoc (Flds.snoc (Flds.snoc (Flds.snoc (Flds.snoc (Flds.snoc (Flds.nil _ _) (c:=[ae,ab,aa,aa,aa,ab,ab,ac]) (x:=(Fld.mk 3 0 (-1) (-1) (-1) 0 0 [])) (FldR.mk (l:=[]) _ (H5 af (Fp F w)).1 (H5 af (Fp F w)).2)) (c:=[ae,.int .i64 9,aa,aa,aa,aa,ab,ac]) (x:=(Fld.mk 3 9 (-1) (-1) (-1) (-1) 0 [])) (FldR.mk (l:=[]) _ (H5 af (Fp F w)).1 (H5 af (Fp F w)).2)) (c:=[ah,ab,aa,aa,aa,ab,ab,ac]) (x:=(Fld.mk 4 0 (-1) (-1) (-1) 0 0 [])) (FldR.mk (l:=[]) _ (H5 af (Fp F w)).1 (H5 af (Fp F w)).2)) (c:=[ae,al,aa,aa,aa,aa,ab,ac]) (x:=(Fld.mk 3 12 (-1) (-1) (-1) (-1) 0 [])) (FldR.mk (l:=[]) _ (H5 af (Fp F w)).1 (H5 af (Fp F w)).2)) (c:=[ah,.int .i64 5,aa,aa,aa,aa,ab,ac]) (x:=(Fld.mk 4 5 (-1) (-1) (-1) (-1) 0 [])) (FldR.mk (l:=[]) _ (H5 af (Fp F w)).1 (H5 af (Fp F w)).2)) (c:=[ae,ab,aa,aa,aa,ab,ab,ac]) (x:=(Fld.mk 3 0 (-1) (-1) (-1) 0 0 [])) (FldR.mk (l:=[]) _ (H5 af (Fp F w)).1 (H5 af (Fp F w)).2)) (c:=[ag,ab,aa,aa,ab,ab,ab,ac]) (x:=(Fld.mk 7 0 (-1) (-1) 0 0 0 [])) (FldR.mk (l:=[]) _ (H5 af (Fp F w)).1 (H5 af (Fp F w)).2)) (c:=[ah,ab,aa,aa,am,aI,ab,ac]) (x:=z8) (FldR.mk (l:=[]) _ (H5 af (Fp F w)).1 (H5 af (Fp F w)).2)) rfl (by decide)
 have aS:=Flds.slots (F:=F) av (k:=2) (n:=3) (xs:=[aj,ab,al,aa,aa,ab,ab,ac,ag,au,aa,aa,aa,ab,ab,ac,ai,ab,aa,aa,aa,ab,ak,aJ]) rfl (Flds.snoc (Flds.snoc (Flds.snoc (Flds.nil _ _) (c:=[aj,ab,al,aa,aa,ab,ab,ac]) (x:=(Fld.mk 8 0 12 (-1) (-1) 0 0 [])) (FldR.mk (l:=[]) _ (H5 af (Fp F w)).1 (H5 af (Fp F w)).2)) (c:=[ag,au,aa,aa,aa,ab,ab,ac]) (x:=(Fld.mk 7 13 (-1) (-1) (-1) 0 0 [])) (FldR.mk (l:=[]) _ (H5 af (Fp F w)).1 (H5 af (Fp F w)).2)) (c:=[ai,ab,aa,aa,aa,ab,ak,aJ]) (x:=z0) (FldR.mk (l:=[(Fld.mk 3 0 (-1) (-1) (-1) 0 0 []),(Fld.mk 3 9 (-1) (-1) (-1) (-1) 0 []),(Fld.mk 4 0 (-1) (-1) (-1) 0 0 []),(Fld.mk 3 12 (-1) (-1) (-1) (-1) 0 []),(Fld.mk 4 5 (-1) (-1) (-1) (-1) 0 []),(Fld.mk 3 0 (-1) (-1) (-1) 0 0 []),(Fld.mk 7 0 (-1) (-1) 0 0 0 []),z8]) _ aR.1 aR.2)) rfl (by decide)
 have aT:=Flds.slots (F:=F) av (k:=3) (n:=3) (xs:=[aj,ag,al,aa,aa,ab,ab,ac,ag,au,aa,aa,aa,ab,ab,ac,ai,ab,aa,aa,aa,ab,ae,ac]) rfl (Flds.snoc (Flds.snoc (Flds.snoc (Flds.nil _ _) (c:=[aj,ag,al,aa,aa,ab,ab,ac]) (x:=(Fld.mk 8 7 12 (-1) (-1) 0 0 [])) (FldR.mk (l:=[]) _ (H5 af (Fp F w)).1 (H5 af (Fp F w)).2)) (c:=[ag,au,aa,aa,aa,ab,ab,ac]) (x:=(Fld.mk 7 13 (-1) (-1) (-1) 0 0 [])) (FldR.mk (l:=[]) _ (H5 af (Fp F w)).1 (H5 af (Fp F w)).2)) (c:=[ai,ab,aa,aa,aa,ab,ae,ac]) (x:=(Fld.mk 11 0 (-1) (-1) (-1) 0 3 [])) (FldR.mk (l:=[]) _ (H5 af (Fp F w)).1 (H5 af (Fp F w)).2)) rfl (by decide)
 have aU:=Flds.slots (F:=F) av (k:=4) (n:=12) (xs:=[aj,ab,aa,ab,ab,ab,ab,ac,ae,ab,.int .i64 14,aa,aa,aa,ab,ac,ak,ab,aa,aa,am,ab,ab,aF,ae,ab,aa,aa,aa,ab,ab,ac,ae,ab,aa,aa,aa,ab,ab,ac,ae,ae,aa,aa,aa,aG,ab,ac,am,ah,aa,aa,aa,ab,ab,ac,ae,ag,aa,aa,aa,ab,ab,ac,ae,ag,aa,aa,aa,aa,ab,ac,ai,ab,aa,aa,aa,ab,ak,aK,ai,ag,aa,aa,aa,ab,ak,aL,aj,ai,aa,aa,aa,ab,ab,ac]) rfl (Flds.snoc (Flds.snoc (Flds.snoc (Flds.snoc (Flds.snoc (Flds.snoc (Flds.snoc (Flds.snoc (Flds.snoc (Flds.snoc (Flds.snoc (Flds.snoc (Flds.nil _ _) (c:=[aj,ab,aa,ab,ab,ab,ab,ac]) (x:=(Fld.mk 8 0 (-1) 0 0 0 0 [])) (FldR.mk (l:=[]) _ (H5 af (Fp F w)).1 (H5 af (Fp F w)).2)) (c:=[ae,ab,.int .i64 14,aa,aa,aa,ab,ac]) (x:=(Fld.mk 3 0 14 (-1) (-1) (-1) 0 [])) (FldR.mk (l:=[]) _ (H5 af (Fp F w)).1 (H5 af (Fp F w)).2)) (c:=[ak,ab,aa,aa,am,ab,ab,aF]) (x:=(Fld.mk 10 0 (-1) (-1) 1 0 0 [(Fld.mk 3 0 (-1) (-1) (-1) (-1) 0 []),(Fld.mk 4 0 (-1) (-1) (-1) (-1) 0 [])])) (FldR.mk (l:=[(Fld.mk 3 0 (-1) (-1) (-1) (-1) 0 []),(Fld.mk 4 0 (-1) (-1) (-1) (-1) 0 [])]) _ aQ.1 aQ.2)) (c:=[ae,ab,aa,aa,aa,ab,ab,ac]) (x:=(Fld.mk 3 0 (-1) (-1) (-1) 0 0 [])) (FldR.mk (l:=[]) _ (H5 af (Fp F w)).1 (H5 af (Fp F w)).2)) (c:=[ae,ab,aa,aa,aa,ab,ab,ac]) (x:=(Fld.mk 3 0 (-1) (-1) (-1) 0 0 [])) (FldR.mk (l:=[]) _ (H5 af (Fp F w)).1 (H5 af (Fp F w)).2)) (c:=[ae,ae,aa,aa,aa,aG,ab,ac]) (x:=(Fld.mk 3 3 (-1) (-1) (-1) 2147483647 0 [])) (FldR.mk (l:=[]) _ (H5 af (Fp F w)).1 (H5 af (Fp F w)).2)) (c:=[am,ah,aa,aa,aa,ab,ab,ac]) (x:=(Fld.mk 1 4 (-1) (-1) (-1) 0 0 [])) (FldR.mk (l:=[]) _ (H5 af (Fp F w)).1 (H5 af (Fp F w)).2)) (c:=[ae,ag,aa,aa,aa,ab,ab,ac]) (x:=(Fld.mk 3 7 (-1) (-1) (-1) 0 0 [])) (FldR.mk (l:=[]) _ (H5 af (Fp F w)).1 (H5 af (Fp F w)).2)) (c:=[ae,ag,aa,aa,aa,aa,ab,ac]) (x:=(Fld.mk 3 7 (-1) (-1) (-1) (-1) 0 [])) (FldR.mk (l:=[]) _ (H5 af (Fp F w)).1 (H5 af (Fp F w)).2)) (c:=[ai,ab,aa,aa,aa,ab,ak,aK]) (x:=(Fld.mk 11 0 (-1) (-1) (-1) 0 10 [(Fld.mk 8 0 12 (-1) (-1) 0 0 []),(Fld.mk 7 13 (-1) (-1) (-1) 0 0 []),z0])) (FldR.mk (l:=[(Fld.mk 8 0 12 (-1) (-1) 0 0 []),(Fld.mk 7 13 (-1) (-1) (-1) 0 0 []),z0]) _ aS.1 aS.2)) (c:=[ai,ag,aa,aa,aa,ab,ak,aL]) (x:=(Fld.mk 11 7 (-1) (-1) (-1) 0 10 [(Fld.mk 8 7 12 (-1) (-1) 0 0 []),(Fld.mk 7 13 (-1) (-1) (-1) 0 0 []),(Fld.mk 11 0 (-1) (-1) (-1) 0 3 [])])) (FldR.mk (l:=[(Fld.mk 8 7 12 (-1) (-1) 0 0 []),(Fld.mk 7 13 (-1) (-1) (-1) 0 0 []),(Fld.mk 11 0 (-1) (-1) (-1) 0 3 [])]) _ aT.1 aT.2)) (c:=[aj,ai,aa,aa,aa,ab,ab,ac]) (x:=(Fld.mk 8 11 (-1) (-1) (-1) 0 0 [])) (FldR.mk (l:=[]) _ (H5 af (Fp F w)).1 (H5 af (Fp F w)).2)) rfl (by decide)
 exact ⟨_,_,rfl,⟨_,aU.1,aU.2⟩,av.step⟩
def Gu (T:Tree):Prop:=(True) ∧ (True) ∧ Q8 T.U ∧ True
def EC (T:Tree):Prop:=(True) ∧ (True) ∧ (True) ∧ (True) ∧ (True) ∧ (True) ∧ (True) ∧ (True) ∧ Q8 T.U ∧ (∀ x ∈ T.U,2 ≤ x.1) ∧ True
def ED (T:Tree):Prop:=((T.at_ 0).S.length ≤ 32767) ∧ (True) ∧ ((lst (T.at_ 2)).length ≤ 32767 ∧ ∀ x ∈ lst (T.at_ 2),EC x) ∧ Q8 T.U ∧ True
def EE (T:Tree):Prop:=((T.at_ 0).S.length ≤ 32767) ∧ (True) ∧ ((lst (T.at_ 2)).length ≤ 32767) ∧ Q8 T.U ∧ True
def BK (T:Tree):Prop:=((E1 (T.at_ 0)).length ≤ 32767) ∧ (True) ∧ (Gu (T.at_ 2) ∧ Y7 (T.at_ 2).U) ∧ (True) ∧ (True) ∧ (True) ∧ (True) ∧ (True) ∧ (True) ∧ ((lst (T.at_ 9)).length ≤ 32767 ∧ ∀ x ∈ lst (T.at_ 9),ED x) ∧ ((lst (T.at_ 10)).length ≤ 32767 ∧ ∀ x ∈ lst (T.at_ 10),EE x) ∧ ((T.at_ 11).S.length ≤ 32767) ∧ Q8 T.U ∧ (∀ x ∈ T.U,2 ≤ x.1) ∧ True
theorem Ml (v:Int) (t:Tree):BK (D2 v 8 sFetchRequestF t):=by
 unfold BK
 exact ⟨(Mc (d:=7) (show sFetchRequestF[0]? = _ from rfl) (by decide)),(trivial),(⟨(by
   have h:=Dl (v:=v) (d:=7) (t:=t) (show sFetchRequestF[2]? = _ from rfl)
   unfold Gu
   simp only [h.1,h.2.1]
   exact ⟨(trivial),(trivial),(Dm),(trivial)⟩),by rw [(Dl (v:=v) (d:=7) (t:=t) (show sFetchRequestF[2]? = _ from rfl)).2.1]; exact Me⟩),(trivial),(trivial),(trivial),(trivial),(trivial),(trivial),(⟨Ey (d:=7) (show sFetchRequestF[9]? = _ from rfl),Gj (d:=7) (Q:=ED) (show sFetchRequestF[9]? = _ from rfl) fun y=>by
   have h:=fit_10 (v:=v) (d:=7) (x1:=0) (x2:=-1) (x5:=0) (x6:=10) (s:=[(Fld.mk 8 0 12 (-1) (-1) 0 0 []),(Fld.mk 7 13 (-1) (-1) (-1) 0 0 []),z0]) (b:=Fld.nul (Fld.mk 10 0 (-1) (-1) (-1) 0 10 [(Fld.mk 8 0 12 (-1) (-1) 0 0 []),(Fld.mk 7 13 (-1) (-1) (-1) 0 0 []),z0]) v y) (x:=y)
   unfold ED
   simp only [h.1,h.2]
   exact ⟨(by rw [Y6 (d:=6) (show [(Fld.mk 8 0 12 (-1) (-1) 0 0 []),(Fld.mk 7 13 (-1) (-1) (-1) 0 0 []),(Fld.mk 11 0 (-1) (-1) (-1) 0 10 [(Fld.mk 3 0 (-1) (-1) (-1) 0 0 []),(Fld.mk 3 9 (-1) (-1) (-1) (-1) 0 []),(Fld.mk 4 0 (-1) (-1) (-1) 0 0 []),(Fld.mk 3 12 (-1) (-1) (-1) (-1) 0 []),(Fld.mk 4 5 (-1) (-1) (-1) (-1) 0 []),(Fld.mk 3 0 (-1) (-1) (-1) 0 0 []),(Fld.mk 7 0 (-1) (-1) 0 0 0 []),(Fld.mk 4 0 (-1) (-1) 1 9223372036854775807 0 [])])][0]? = _ from rfl) (by decide)]; exact Nat.le_trans (J7 _) (by decide)),(trivial),(⟨Ey (d:=6) (show [(Fld.mk 8 0 12 (-1) (-1) 0 0 []),(Fld.mk 7 13 (-1) (-1) (-1) 0 0 []),(Fld.mk 11 0 (-1) (-1) (-1) 0 10 [(Fld.mk 3 0 (-1) (-1) (-1) 0 0 []),(Fld.mk 3 9 (-1) (-1) (-1) (-1) 0 []),(Fld.mk 4 0 (-1) (-1) (-1) 0 0 []),(Fld.mk 3 12 (-1) (-1) (-1) (-1) 0 []),(Fld.mk 4 5 (-1) (-1) (-1) (-1) 0 []),(Fld.mk 3 0 (-1) (-1) (-1) 0 0 []),(Fld.mk 7 0 (-1) (-1) 0 0 0 []),(Fld.mk 4 0 (-1) (-1) 1 9223372036854775807 0 [])])][2]? = _ from rfl),Gj (d:=6) (Q:=EC) (show [(Fld.mk 8 0 12 (-1) (-1) 0 0 []),(Fld.mk 7 13 (-1) (-1) (-1) 0 0 []),(Fld.mk 11 0 (-1) (-1) (-1) 0 10 [(Fld.mk 3 0 (-1) (-1) (-1) 0 0 []),(Fld.mk 3 9 (-1) (-1) (-1) (-1) 0 []),(Fld.mk 4 0 (-1) (-1) (-1) 0 0 []),(Fld.mk 3 12 (-1) (-1) (-1) (-1) 0 []),(Fld.mk 4 5 (-1) (-1) (-1) (-1) 0 []),(Fld.mk 3 0 (-1) (-1) (-1) 0 0 []),(Fld.mk 7 0 (-1) (-1) 0 0 0 []),(Fld.mk 4 0 (-1) (-1) 1 9223372036854775807 0 [])])][2]? = _ from rfl) fun y=>by
     have h:=fit_10 (v:=v) (d:=6) (x1:=0) (x2:=-1) (x5:=0) (x6:=10) (s:=[(Fld.mk 3 0 (-1) (-1) (-1) 0 0 []),(Fld.mk 3 9 (-1) (-1) (-1) (-1) 0 []),(Fld.mk 4 0 (-1) (-1) (-1) 0 0 []),(Fld.mk 3 12 (-1) (-1) (-1) (-1) 0 []),(Fld.mk 4 5 (-1) (-1) (-1) (-1) 0 []),(Fld.mk 3 0 (-1) (-1) (-1) 0 0 []),(Fld.mk 7 0 (-1) (-1) 0 0 0 []),z8]) (b:=Fld.nul (Fld.mk 10 0 (-1) (-1) (-1) 0 10 [(Fld.mk 3 0 (-1) (-1) (-1) 0 0 []),(Fld.mk 3 9 (-1) (-1) (-1) (-1) 0 []),(Fld.mk 4 0 (-1) (-1) (-1) 0 0 []),(Fld.mk 3 12 (-1) (-1) (-1) (-1) 0 []),(Fld.mk 4 5 (-1) (-1) (-1) (-1) 0 []),(Fld.mk 3 0 (-1) (-1) (-1) 0 0 []),(Fld.mk 7 0 (-1) (-1) 0 0 0 []),z8]) v y) (x:=y)
     unfold EC
     simp only [h.1,h.2]
     exact ⟨(trivial),(trivial),(trivial),(trivial),(trivial),(trivial),(trivial),(trivial),(Dm),(Je (by decide +kernel)),(trivial)⟩⟩),(Dm),(trivial)⟩⟩),(⟨Ey (d:=7) (show sFetchRequestF[10]? = _ from rfl),Gj (d:=7) (Q:=EE) (show sFetchRequestF[10]? = _ from rfl) fun y=>by
   have h:=fit_10 (v:=v) (d:=7) (x1:=7) (x2:=-1) (x5:=0) (x6:=10) (s:=[(Fld.mk 8 7 12 (-1) (-1) 0 0 []),(Fld.mk 7 13 (-1) (-1) (-1) 0 0 []),(Fld.mk 11 0 (-1) (-1) (-1) 0 3 [])]) (b:=Fld.nul (Fld.mk 10 7 (-1) (-1) (-1) 0 10 [(Fld.mk 8 7 12 (-1) (-1) 0 0 []),(Fld.mk 7 13 (-1) (-1) (-1) 0 0 []),(Fld.mk 11 0 (-1) (-1) (-1) 0 3 [])]) v y) (x:=y)
   unfold EE
   simp only [h.1,h.2]
   exact ⟨(by rw [Y6 (d:=6) (show [(Fld.mk 8 7 12 (-1) (-1) 0 0 []),(Fld.mk 7 13 (-1) (-1) (-1) 0 0 []),(Fld.mk 11 0 (-1) (-1) (-1) 0 3 [])][0]? = _ from rfl) (by decide)]; exact Nat.le_trans (J7 _) (by decide)),(trivial),(Ey (d:=6) (show [(Fld.mk 8 7 12 (-1) (-1) 0 0 []),(Fld.mk 7 13 (-1) (-1) (-1) 0 0 []),(Fld.mk 11 0 (-1) (-1) (-1) 0 3 [])][2]? = _ from rfl)),(Dm),(trivial)⟩⟩),(by rw [Y6 (d:=7) (show sFetchRequestF[11]? = _ from rfl) (by decide)]; exact Nat.le_trans (J7 _) (by decide)),(Dm),(Je (by decide +kernel)),(trivial)⟩
set_option maxHeartbeats 4000000 in
theorem Mm (v:Int) (h0:0 ≤ v) (h1:v < 32768) (t:Tree):I6 v (D2 v 8 sFetchRequestF t) = P6 8 sFetchRequestF H6 v t:=by
 have ay:=Er (v:=v) (d:=7) (t:=t) (l:=sFetchRequestF) (i:=0) (show sFetchRequestF[0]? = _ from rfl) (by decide)
 have az:((D2 v 8 sFetchRequestF t).at_ 1).N = (t.at_ 1).N:=J6 (d:=7) (show sFetchRequestF[1]? = _ from rfl) (by decide)
 have ah:(D0 [(Fld.mk 3 0 (-1) (-1) (-1) (-1) 0 []),(Fld.mk 4 0 (-1) (-1) (-1) (-1) 0 [])]).toNat = 0:=by decide +kernel
 obtain ⟨aA,f56u,f56n⟩:=Dl (v:=v) (d:=7) (t:=t) (l:=sFetchRequestF) (i:=2) (show sFetchRequestF[2]? = _ from rfl)
 have aB:((D2 v 7 [(Fld.mk 3 0 (-1) (-1) (-1) (-1) 0 []),(Fld.mk 4 0 (-1) (-1) (-1) (-1) 0 [])] (t.at_ 2)).at_ 0).N = ((t.at_ 2).at_ 0).N:=J6 (d:=6) (show [(Fld.mk 3 0 (-1) (-1) (-1) (-1) 0 []),(Fld.mk 4 0 (-1) (-1) (-1) (-1) 0 [])][0]? = _ from rfl) (by decide)
 have aC:((D2 v 7 [(Fld.mk 3 0 (-1) (-1) (-1) (-1) 0 []),(Fld.mk 4 0 (-1) (-1) (-1) (-1) 0 [])] (t.at_ 2)).at_ 1).N = ((t.at_ 2).at_ 1).N:=J6 (d:=6) (show [(Fld.mk 3 0 (-1) (-1) (-1) (-1) 0 []),(Fld.mk 4 0 (-1) (-1) (-1) (-1) 0 [])][1]? = _ from rfl) (by decide)
 have aD:((D2 v 8 sFetchRequestF t).at_ 3).N = (t.at_ 3).N:=J6 (d:=7) (show sFetchRequestF[3]? = _ from rfl) (by decide)
 have aE:((D2 v 8 sFetchRequestF t).at_ 4).N = (t.at_ 4).N:=J6 (d:=7) (show sFetchRequestF[4]? = _ from rfl) (by decide)
 have aF:((D2 v 8 sFetchRequestF t).at_ 5).N = (t.at_ 5).N:=J6 (d:=7) (show sFetchRequestF[5]? = _ from rfl) (by decide)
 have aG:((D2 v 8 sFetchRequestF t).at_ 6).N = (t.at_ 6).N:=J6 (d:=7) (show sFetchRequestF[6]? = _ from rfl) (by decide)
 have aH:((D2 v 8 sFetchRequestF t).at_ 7).N = (t.at_ 7).N:=J6 (d:=7) (show sFetchRequestF[7]? = _ from rfl) (by decide)
 have aI:((D2 v 8 sFetchRequestF t).at_ 8).N = (t.at_ 8).N:=J6 (d:=7) (show sFetchRequestF[8]? = _ from rfl) (by decide)
 obtain ⟨f66n,aJ⟩:=W6 (v:=v) (d:=7) (t:=t) (l:=sFetchRequestF) (i:=9) (show sFetchRequestF[9]? = _ from rfl)
 obtain ⟨f67n,aK⟩:=W6 (v:=v) (d:=7) (t:=t) (l:=sFetchRequestF) (i:=10) (show sFetchRequestF[10]? = _ from rfl)
 have aL:=Y6 (v:=v) (d:=7) (t:=t) (l:=sFetchRequestF) (i:=11) (show sFetchRequestF[11]? = _ from rfl) (by decide)
 have ak:∀ af:Tree,(fun ac:Tree=>(if ((if (decide (v ≥ 0)) = true then decide (v ≤ 12) else false)) = true then if (decide (v ≥ 12)) = true then (uv ((ac.at_ 0).S.length + 1) ++ (ac.at_ 0).S) else (be 2 (ac.at_ 0).S.length ++ (ac.at_ 0).S) else []) ++ ((if (decide (v ≥ 13)) = true then (C3 (ac.at_ 1).S) else []) ++ (((if (decide (v ≥ 12)) = true then (uv ((lst (ac.at_ 2)).length + 1)) else (be 4 (lst (ac.at_ 2)).length)) ++ ((lst (ac.at_ 2)).flatMap fun aa=>(be 4 ((IntKind.i32.wrap (aa.at_ 0).N))) ++ ((if (decide (v ≥ 9)) = true then be 4 ((IntKind.i32.wrap (aa.at_ 1).N)) else []) ++ ((be 8 ((aa.at_ 2).N)) ++ ((if (decide (v ≥ 12)) = true then be 4 ((IntKind.i32.wrap (aa.at_ 3).N)) else []) ++ ((if (decide (v ≥ 5)) = true then be 8 ((aa.at_ 4).N) else []) ++ ((be 4 ((IntKind.i32.wrap (aa.at_ 5).N))) ++ (if (decide (v ≥ 12)) = true then (uv (B3 (!((aa.at_ 6).S.take 16).all (fun b_=>b_ == 0)) + (B3 (!decide (be 8 (aa.at_ 7).N = be 8 9223372036854775807)) + aa.U.length))) ++ ((G4 (!((aa.at_ 6).S.take 16).all (fun b_=>b_ == 0)) 0 ((C3 (aa.at_ 6).S))) ++ ((G4 (!decide (be 8 (aa.at_ 7).N = be 8 9223372036854775807)) 1 (be 8 ((aa.at_ 7).N))) ++ (I1 aa.U))) else [])))))))) ++ (if (decide (v ≥ 12)) = true then (uv ac.U.length) ++ (I1 ac.U) else [])))) (N2 (D2 v 7) (Fld.mk 10 0 (-1) (-1) (-1) 0 10 [(Fld.mk 8 0 12 (-1) (-1) 0 0 []),(Fld.mk 7 13 (-1) (-1) (-1) 0 0 []),(Fld.mk 11 0 (-1) (-1) (-1) 0 10 [(Fld.mk 3 0 (-1) (-1) (-1) 0 0 []),(Fld.mk 3 9 (-1) (-1) (-1) (-1) 0 []),(Fld.mk 4 0 (-1) (-1) (-1) 0 0 []),(Fld.mk 3 12 (-1) (-1) (-1) (-1) 0 []),(Fld.mk 4 5 (-1) (-1) (-1) (-1) 0 []),(Fld.mk 3 0 (-1) (-1) (-1) 0 0 []),(Fld.mk 7 0 (-1) (-1) 0 0 0 []),(Fld.mk 4 0 (-1) (-1) 1 9223372036854775807 0 [])])]) (Fld.nul (Fld.mk 10 0 (-1) (-1) (-1) 0 10 [(Fld.mk 8 0 12 (-1) (-1) 0 0 []),(Fld.mk 7 13 (-1) (-1) (-1) 0 0 []),(Fld.mk 11 0 (-1) (-1) (-1) 0 10 [(Fld.mk 3 0 (-1) (-1) (-1) 0 0 []),(Fld.mk 3 9 (-1) (-1) (-1) (-1) 0 []),(Fld.mk 4 0 (-1) (-1) (-1) 0 0 []),(Fld.mk 3 12 (-1) (-1) (-1) (-1) 0 []),(Fld.mk 4 5 (-1) (-1) (-1) (-1) 0 []),(Fld.mk 3 0 (-1) (-1) (-1) 0 0 []),(Fld.mk 7 0 (-1) (-1) 0 0 0 []),(Fld.mk 4 0 (-1) (-1) 1 9223372036854775807 0 [])])]) v af) af) = E2 7 [(Fld.mk 8 0 12 (-1) (-1) 0 0 []),(Fld.mk 7 13 (-1) (-1) (-1) 0 0 []),(Fld.mk 11 0 (-1) (-1) (-1) 0 10 [(Fld.mk 3 0 (-1) (-1) (-1) 0 0 []),(Fld.mk 3 9 (-1) (-1) (-1) (-1) 0 []),(Fld.mk 4 0 (-1) (-1) (-1) 0 0 []),(Fld.mk 3 12 (-1) (-1) (-1) (-1) 0 []),(Fld.mk 4 5 (-1) (-1) (-1) (-1) 0 []),(Fld.mk 3 0 (-1) (-1) (-1) 0 0 []),(Fld.mk 7 0 (-1) (-1) 0 0 0 []),(Fld.mk 4 0 (-1) (-1) 1 9223372036854775807 0 [])])] v (decide (v ≥ 12)) af:=by
  intro af
  dsimp only
  obtain ⟨al,am⟩:=fit_10 (v:=v) (d:=7) (x1:=0) (x2:=-1) (x5:=0) (x6:=10) (s:=[(Fld.mk 8 0 12 (-1) (-1) 0 0 []),(Fld.mk 7 13 (-1) (-1) (-1) 0 0 []),(Fld.mk 11 0 (-1) (-1) (-1) 0 10 [(Fld.mk 3 0 (-1) (-1) (-1) 0 0 []),(Fld.mk 3 9 (-1) (-1) (-1) (-1) 0 []),(Fld.mk 4 0 (-1) (-1) (-1) 0 0 []),(Fld.mk 3 12 (-1) (-1) (-1) (-1) 0 []),(Fld.mk 4 5 (-1) (-1) (-1) (-1) 0 []),(Fld.mk 3 0 (-1) (-1) (-1) 0 0 []),(Fld.mk 7 0 (-1) (-1) 0 0 0 []),(Fld.mk 4 0 (-1) (-1) 1 9223372036854775807 0 [])])]) (b:=Fld.nul (Fld.mk 10 0 (-1) (-1) (-1) 0 10 [(Fld.mk 8 0 12 (-1) (-1) 0 0 []),(Fld.mk 7 13 (-1) (-1) (-1) 0 0 []),(Fld.mk 11 0 (-1) (-1) (-1) 0 10 [(Fld.mk 3 0 (-1) (-1) (-1) 0 0 []),(Fld.mk 3 9 (-1) (-1) (-1) (-1) 0 []),(Fld.mk 4 0 (-1) (-1) (-1) 0 0 []),(Fld.mk 3 12 (-1) (-1) (-1) (-1) 0 []),(Fld.mk 4 5 (-1) (-1) (-1) (-1) 0 []),(Fld.mk 3 0 (-1) (-1) (-1) 0 0 []),(Fld.mk 7 0 (-1) (-1) 0 0 0 []),(Fld.mk 4 0 (-1) (-1) 1 9223372036854775807 0 [])])]) v af) (x:=af)
  simp only [al,am]
  have aM:=Y6 (v:=v) (d:=6) (t:=af) (l:=[(Fld.mk 8 0 12 (-1) (-1) 0 0 []),(Fld.mk 7 13 (-1) (-1) (-1) 0 0 []),(Fld.mk 11 0 (-1) (-1) (-1) 0 10 [(Fld.mk 3 0 (-1) (-1) (-1) 0 0 []),(Fld.mk 3 9 (-1) (-1) (-1) (-1) 0 []),(Fld.mk 4 0 (-1) (-1) (-1) 0 0 []),(Fld.mk 3 12 (-1) (-1) (-1) (-1) 0 []),(Fld.mk 4 5 (-1) (-1) (-1) (-1) 0 []),(Fld.mk 3 0 (-1) (-1) (-1) 0 0 []),(Fld.mk 7 0 (-1) (-1) 0 0 0 []),(Fld.mk 4 0 (-1) (-1) 1 9223372036854775807 0 [])])]) (i:=0) (show [(Fld.mk 8 0 12 (-1) (-1) 0 0 []),(Fld.mk 7 13 (-1) (-1) (-1) 0 0 []),(Fld.mk 11 0 (-1) (-1) (-1) 0 10 [(Fld.mk 3 0 (-1) (-1) (-1) 0 0 []),(Fld.mk 3 9 (-1) (-1) (-1) (-1) 0 []),(Fld.mk 4 0 (-1) (-1) (-1) 0 0 []),(Fld.mk 3 12 (-1) (-1) (-1) (-1) 0 []),(Fld.mk 4 5 (-1) (-1) (-1) (-1) 0 []),(Fld.mk 3 0 (-1) (-1) (-1) 0 0 []),(Fld.mk 7 0 (-1) (-1) 0 0 0 []),(Fld.mk 4 0 (-1) (-1) 1 9223372036854775807 0 [])])][0]? = _ from rfl) (by decide)
  have aN:((D2 v 7 [(Fld.mk 8 0 12 (-1) (-1) 0 0 []),(Fld.mk 7 13 (-1) (-1) (-1) 0 0 []),(Fld.mk 11 0 (-1) (-1) (-1) 0 10 [(Fld.mk 3 0 (-1) (-1) (-1) 0 0 []),(Fld.mk 3 9 (-1) (-1) (-1) (-1) 0 []),(Fld.mk 4 0 (-1) (-1) (-1) 0 0 []),(Fld.mk 3 12 (-1) (-1) (-1) (-1) 0 []),(Fld.mk 4 5 (-1) (-1) (-1) (-1) 0 []),(Fld.mk 3 0 (-1) (-1) (-1) 0 0 []),(Fld.mk 7 0 (-1) (-1) 0 0 0 []),(Fld.mk 4 0 (-1) (-1) 1 9223372036854775807 0 [])])] af).at_ 1).S = (af.at_ 1).S:=BF (d:=6) (show [(Fld.mk 8 0 12 (-1) (-1) 0 0 []),(Fld.mk 7 13 (-1) (-1) (-1) 0 0 []),(Fld.mk 11 0 (-1) (-1) (-1) 0 10 [(Fld.mk 3 0 (-1) (-1) (-1) 0 0 []),(Fld.mk 3 9 (-1) (-1) (-1) (-1) 0 []),(Fld.mk 4 0 (-1) (-1) (-1) 0 0 []),(Fld.mk 3 12 (-1) (-1) (-1) (-1) 0 []),(Fld.mk 4 5 (-1) (-1) (-1) (-1) 0 []),(Fld.mk 3 0 (-1) (-1) (-1) 0 0 []),(Fld.mk 7 0 (-1) (-1) 0 0 0 []),(Fld.mk 4 0 (-1) (-1) 1 9223372036854775807 0 [])])][1]? = _ from rfl) (by decide)
  obtain ⟨f74n,aO⟩:=W6 (v:=v) (d:=6) (t:=af) (l:=[(Fld.mk 8 0 12 (-1) (-1) 0 0 []),(Fld.mk 7 13 (-1) (-1) (-1) 0 0 []),(Fld.mk 11 0 (-1) (-1) (-1) 0 10 [(Fld.mk 3 0 (-1) (-1) (-1) 0 0 []),(Fld.mk 3 9 (-1) (-1) (-1) (-1) 0 []),(Fld.mk 4 0 (-1) (-1) (-1) 0 0 []),(Fld.mk 3 12 (-1) (-1) (-1) (-1) 0 []),(Fld.mk 4 5 (-1) (-1) (-1) (-1) 0 []),(Fld.mk 3 0 (-1) (-1) (-1) 0 0 []),(Fld.mk 7 0 (-1) (-1) 0 0 0 []),(Fld.mk 4 0 (-1) (-1) 1 9223372036854775807 0 [])])]) (i:=2) (show [(Fld.mk 8 0 12 (-1) (-1) 0 0 []),(Fld.mk 7 13 (-1) (-1) (-1) 0 0 []),(Fld.mk 11 0 (-1) (-1) (-1) 0 10 [(Fld.mk 3 0 (-1) (-1) (-1) 0 0 []),(Fld.mk 3 9 (-1) (-1) (-1) (-1) 0 []),(Fld.mk 4 0 (-1) (-1) (-1) 0 0 []),(Fld.mk 3 12 (-1) (-1) (-1) (-1) 0 []),(Fld.mk 4 5 (-1) (-1) (-1) (-1) 0 []),(Fld.mk 3 0 (-1) (-1) (-1) 0 0 []),(Fld.mk 7 0 (-1) (-1) 0 0 0 []),(Fld.mk 4 0 (-1) (-1) 1 9223372036854775807 0 [])])][2]? = _ from rfl)
  have ao:∀ ab:Tree,(fun aa:Tree=>(be 4 ((IntKind.i32.wrap (aa.at_ 0).N))) ++ ((if (decide (v ≥ 9)) = true then be 4 ((IntKind.i32.wrap (aa.at_ 1).N)) else []) ++ ((be 8 ((aa.at_ 2).N)) ++ ((if (decide (v ≥ 12)) = true then be 4 ((IntKind.i32.wrap (aa.at_ 3).N)) else []) ++ ((if (decide (v ≥ 5)) = true then be 8 ((aa.at_ 4).N) else []) ++ ((be 4 ((IntKind.i32.wrap (aa.at_ 5).N))) ++ (if (decide (v ≥ 12)) = true then (uv (B3 (!((aa.at_ 6).S.take 16).all (fun b_=>b_ == 0)) + (B3 (!decide (be 8 (aa.at_ 7).N = be 8 9223372036854775807)) + aa.U.length))) ++ ((G4 (!((aa.at_ 6).S.take 16).all (fun b_=>b_ == 0)) 0 ((C3 (aa.at_ 6).S))) ++ ((G4 (!decide (be 8 (aa.at_ 7).N = be 8 9223372036854775807)) 1 (be 8 ((aa.at_ 7).N))) ++ (I1 aa.U))) else []))))))) (N2 (D2 v 6) (Fld.mk 10 0 (-1) (-1) (-1) 0 10 [(Fld.mk 3 0 (-1) (-1) (-1) 0 0 []),(Fld.mk 3 9 (-1) (-1) (-1) (-1) 0 []),(Fld.mk 4 0 (-1) (-1) (-1) 0 0 []),(Fld.mk 3 12 (-1) (-1) (-1) (-1) 0 []),(Fld.mk 4 5 (-1) (-1) (-1) (-1) 0 []),(Fld.mk 3 0 (-1) (-1) (-1) 0 0 []),(Fld.mk 7 0 (-1) (-1) 0 0 0 []),(Fld.mk 4 0 (-1) (-1) 1 9223372036854775807 0 [])]) (Fld.nul (Fld.mk 10 0 (-1) (-1) (-1) 0 10 [(Fld.mk 3 0 (-1) (-1) (-1) 0 0 []),(Fld.mk 3 9 (-1) (-1) (-1) (-1) 0 []),(Fld.mk 4 0 (-1) (-1) (-1) 0 0 []),(Fld.mk 3 12 (-1) (-1) (-1) (-1) 0 []),(Fld.mk 4 5 (-1) (-1) (-1) (-1) 0 []),(Fld.mk 3 0 (-1) (-1) (-1) 0 0 []),(Fld.mk 7 0 (-1) (-1) 0 0 0 []),(Fld.mk 4 0 (-1) (-1) 1 9223372036854775807 0 [])]) v ab) ab) = E2 6 [(Fld.mk 3 0 (-1) (-1) (-1) 0 0 []),(Fld.mk 3 9 (-1) (-1) (-1) (-1) 0 []),(Fld.mk 4 0 (-1) (-1) (-1) 0 0 []),(Fld.mk 3 12 (-1) (-1) (-1) (-1) 0 []),(Fld.mk 4 5 (-1) (-1) (-1) (-1) 0 []),(Fld.mk 3 0 (-1) (-1) (-1) 0 0 []),(Fld.mk 7 0 (-1) (-1) 0 0 0 []),(Fld.mk 4 0 (-1) (-1) 1 9223372036854775807 0 [])] v (decide (v ≥ 12)) ab:=by
   intro ab
   dsimp only
   obtain ⟨ap,ar⟩:=fit_10 (v:=v) (d:=6) (x1:=0) (x2:=-1) (x5:=0) (x6:=10) (s:=[(Fld.mk 3 0 (-1) (-1) (-1) 0 0 []),(Fld.mk 3 9 (-1) (-1) (-1) (-1) 0 []),(Fld.mk 4 0 (-1) (-1) (-1) 0 0 []),(Fld.mk 3 12 (-1) (-1) (-1) (-1) 0 []),(Fld.mk 4 5 (-1) (-1) (-1) (-1) 0 []),(Fld.mk 3 0 (-1) (-1) (-1) 0 0 []),(Fld.mk 7 0 (-1) (-1) 0 0 0 []),(Fld.mk 4 0 (-1) (-1) 1 9223372036854775807 0 [])]) (b:=Fld.nul (Fld.mk 10 0 (-1) (-1) (-1) 0 10 [(Fld.mk 3 0 (-1) (-1) (-1) 0 0 []),(Fld.mk 3 9 (-1) (-1) (-1) (-1) 0 []),(Fld.mk 4 0 (-1) (-1) (-1) 0 0 []),(Fld.mk 3 12 (-1) (-1) (-1) (-1) 0 []),(Fld.mk 4 5 (-1) (-1) (-1) (-1) 0 []),(Fld.mk 3 0 (-1) (-1) (-1) 0 0 []),(Fld.mk 7 0 (-1) (-1) 0 0 0 []),(Fld.mk 4 0 (-1) (-1) 1 9223372036854775807 0 [])]) v ab) (x:=ab)
   simp only [ap,ar]
   have aP:((D2 v 6 [(Fld.mk 3 0 (-1) (-1) (-1) 0 0 []),(Fld.mk 3 9 (-1) (-1) (-1) (-1) 0 []),(Fld.mk 4 0 (-1) (-1) (-1) 0 0 []),(Fld.mk 3 12 (-1) (-1) (-1) (-1) 0 []),(Fld.mk 4 5 (-1) (-1) (-1) (-1) 0 []),(Fld.mk 3 0 (-1) (-1) (-1) 0 0 []),(Fld.mk 7 0 (-1) (-1) 0 0 0 []),(Fld.mk 4 0 (-1) (-1) 1 9223372036854775807 0 [])] ab).at_ 0).N = (ab.at_ 0).N:=J6 (d:=5) (show [(Fld.mk 3 0 (-1) (-1) (-1) 0 0 []),(Fld.mk 3 9 (-1) (-1) (-1) (-1) 0 []),(Fld.mk 4 0 (-1) (-1) (-1) 0 0 []),(Fld.mk 3 12 (-1) (-1) (-1) (-1) 0 []),(Fld.mk 4 5 (-1) (-1) (-1) (-1) 0 []),(Fld.mk 3 0 (-1) (-1) (-1) 0 0 []),(Fld.mk 7 0 (-1) (-1) 0 0 0 []),(Fld.mk 4 0 (-1) (-1) 1 9223372036854775807 0 [])][0]? = _ from rfl) (by decide)
   have aQ:((D2 v 6 [(Fld.mk 3 0 (-1) (-1) (-1) 0 0 []),(Fld.mk 3 9 (-1) (-1) (-1) (-1) 0 []),(Fld.mk 4 0 (-1) (-1) (-1) 0 0 []),(Fld.mk 3 12 (-1) (-1) (-1) (-1) 0 []),(Fld.mk 4 5 (-1) (-1) (-1) (-1) 0 []),(Fld.mk 3 0 (-1) (-1) (-1) 0 0 []),(Fld.mk 7 0 (-1) (-1) 0 0 0 []),(Fld.mk 4 0 (-1) (-1) 1 9223372036854775807 0 [])] ab).at_ 1).N = (ab.at_ 1).N:=J6 (d:=5) (show [(Fld.mk 3 0 (-1) (-1) (-1) 0 0 []),(Fld.mk 3 9 (-1) (-1) (-1) (-1) 0 []),(Fld.mk 4 0 (-1) (-1) (-1) 0 0 []),(Fld.mk 3 12 (-1) (-1) (-1) (-1) 0 []),(Fld.mk 4 5 (-1) (-1) (-1) (-1) 0 []),(Fld.mk 3 0 (-1) (-1) (-1) 0 0 []),(Fld.mk 7 0 (-1) (-1) 0 0 0 []),(Fld.mk 4 0 (-1) (-1) 1 9223372036854775807 0 [])][1]? = _ from rfl) (by decide)
   have aR:((D2 v 6 [(Fld.mk 3 0 (-1) (-1) (-1) 0 0 []),(Fld.mk 3 9 (-1) (-1) (-1) (-1) 0 []),(Fld.mk 4 0 (-1) (-1) (-1) 0 0 []),(Fld.mk 3 12 (-1) (-1) (-1) (-1) 0 []),(Fld.mk 4 5 (-1) (-1) (-1) (-1) 0 []),(Fld.mk 3 0 (-1) (-1) (-1) 0 0 []),(Fld.mk 7 0 (-1) (-1) 0 0 0 []),(Fld.mk 4 0 (-1) (-1) 1 9223372036854775807 0 [])] ab).at_ 2).N = (ab.at_ 2).N:=J6 (d:=5) (show [(Fld.mk 3 0 (-1) (-1) (-1) 0 0 []),(Fld.mk 3 9 (-1) (-1) (-1) (-1) 0 []),(Fld.mk 4 0 (-1) (-1) (-1) 0 0 []),(Fld.mk 3 12 (-1) (-1) (-1) (-1) 0 []),(Fld.mk 4 5 (-1) (-1) (-1) (-1) 0 []),(Fld.mk 3 0 (-1) (-1) (-1) 0 0 []),(Fld.mk 7 0 (-1) (-1) 0 0 0 []),(Fld.mk 4 0 (-1) (-1) 1 9223372036854775807 0 [])][2]? = _ from rfl) (by decide)
   have aS:((D2 v 6 [(Fld.mk 3 0 (-1) (-1) (-1) 0 0 []),(Fld.mk 3 9 (-1) (-1) (-1) (-1) 0 []),(Fld.mk 4 0 (-1) (-1) (-1) 0 0 []),(Fld.mk 3 12 (-1) (-1) (-1) (-1) 0 []),(Fld.mk 4 5 (-1) (-1) (-1) (-1) 0 []),(Fld.mk 3 0 (-1) (-1) (-1) 0 0 []),(Fld.mk 7 0 (-1) (-1) 0 0 0 []),(Fld.mk 4 0 (-1) (-1) 1 9223372036854775807 0 [])] ab).at_ 3).N = (ab.at_ 3).N:=J6 (d:=5) (show [(Fld.mk 3 0 (-1) (-1) (-1) 0 0 []),(Fld.mk 3 9 (-1) (-1) (-1) (-1) 0 []),(Fld.mk 4 0 (-1) (-1) (-1) 0 0 []),(Fld.mk 3 12 (-1) (-1) (-1) (-1) 0 []),(Fld.mk 4 5 (-1) (-1) (-1) (-1) 0 []),(Fld.mk 3 0 (-1) (-1) (-1) 0 0 []),(Fld.mk 7 0 (-1) (-1) 0 0 0 []),(Fld.mk 4 0 (-1) (-1) 1 9223372036854775807 0 [])][3]? = _ from rfl) (by decide)
   have aT:((D2 v 6 [(Fld.mk 3 0 (-1) (-1) (-1) 0 0 []),(Fld.mk 3 9 (-1) (-1) (-1) (-1) 0 []),(Fld.mk 4 0 (-1) (-1) (-1) 0 0 []),(Fld.mk 3 12 (-1) (-1) (-1) (-1) 0 []),(Fld.mk 4 5 (-1) (-1) (-1) (-1) 0 []),(Fld.mk 3 0 (-1) (-1) (-1) 0 0 []),(Fld.mk 7 0 (-1) (-1) 0 0 0 []),(Fld.mk 4 0 (-1) (-1) 1 9223372036854775807 0 [])] ab).at_ 4).N = (ab.at_ 4).N:=J6 (d:=5) (show [(Fld.mk 3 0 (-1) (-1) (-1) 0 0 []),(Fld.mk 3 9 (-1) (-1) (-1) (-1) 0 []),(Fld.mk 4 0 (-1) (-1) (-1) 0 0 []),(Fld.mk 3 12 (-1) (-1) (-1) (-1) 0 []),(Fld.mk 4 5 (-1) (-1) (-1) (-1) 0 []),(Fld.mk 3 0 (-1) (-1) (-1) 0 0 []),(Fld.mk 7 0 (-1) (-1) 0 0 0 []),(Fld.mk 4 0 (-1) (-1) 1 9223372036854775807 0 [])][4]? = _ from rfl) (by decide)
   have aU:((D2 v 6 [(Fld.mk 3 0 (-1) (-1) (-1) 0 0 []),(Fld.mk 3 9 (-1) (-1) (-1) (-1) 0 []),(Fld.mk 4 0 (-1) (-1) (-1) 0 0 []),(Fld.mk 3 12 (-1) (-1) (-1) (-1) 0 []),(Fld.mk 4 5 (-1) (-1) (-1) (-1) 0 []),(Fld.mk 3 0 (-1) (-1) (-1) 0 0 []),(Fld.mk 7 0 (-1) (-1) 0 0 0 []),(Fld.mk 4 0 (-1) (-1) 1 9223372036854775807 0 [])] ab).at_ 5).N = (ab.at_ 5).N:=J6 (d:=5) (show [(Fld.mk 3 0 (-1) (-1) (-1) 0 0 []),(Fld.mk 3 9 (-1) (-1) (-1) (-1) 0 []),(Fld.mk 4 0 (-1) (-1) (-1) 0 0 []),(Fld.mk 3 12 (-1) (-1) (-1) (-1) 0 []),(Fld.mk 4 5 (-1) (-1) (-1) (-1) 0 []),(Fld.mk 3 0 (-1) (-1) (-1) 0 0 []),(Fld.mk 7 0 (-1) (-1) 0 0 0 []),(Fld.mk 4 0 (-1) (-1) 1 9223372036854775807 0 [])][5]? = _ from rfl) (by decide)
   have aV:((D2 v 6 [(Fld.mk 3 0 (-1) (-1) (-1) 0 0 []),(Fld.mk 3 9 (-1) (-1) (-1) (-1) 0 []),(Fld.mk 4 0 (-1) (-1) (-1) 0 0 []),(Fld.mk 3 12 (-1) (-1) (-1) (-1) 0 []),(Fld.mk 4 5 (-1) (-1) (-1) (-1) 0 []),(Fld.mk 3 0 (-1) (-1) (-1) 0 0 []),(Fld.mk 7 0 (-1) (-1) 0 0 0 []),(Fld.mk 4 0 (-1) (-1) 1 9223372036854775807 0 [])] ab).at_ 6).S = (ab.at_ 6).S:=BF (d:=5) (show [(Fld.mk 3 0 (-1) (-1) (-1) 0 0 []),(Fld.mk 3 9 (-1) (-1) (-1) (-1) 0 []),(Fld.mk 4 0 (-1) (-1) (-1) 0 0 []),(Fld.mk 3 12 (-1) (-1) (-1) (-1) 0 []),(Fld.mk 4 5 (-1) (-1) (-1) (-1) 0 []),(Fld.mk 3 0 (-1) (-1) (-1) 0 0 []),(Fld.mk 7 0 (-1) (-1) 0 0 0 []),(Fld.mk 4 0 (-1) (-1) 1 9223372036854775807 0 [])][6]? = _ from rfl) (by decide)
   have aW:((D2 v 6 [(Fld.mk 3 0 (-1) (-1) (-1) 0 0 []),(Fld.mk 3 9 (-1) (-1) (-1) (-1) 0 []),(Fld.mk 4 0 (-1) (-1) (-1) 0 0 []),(Fld.mk 3 12 (-1) (-1) (-1) (-1) 0 []),(Fld.mk 4 5 (-1) (-1) (-1) (-1) 0 []),(Fld.mk 3 0 (-1) (-1) (-1) 0 0 []),(Fld.mk 7 0 (-1) (-1) 0 0 0 []),(Fld.mk 4 0 (-1) (-1) 1 9223372036854775807 0 [])] ab).at_ 7).N = (ab.at_ 7).N:=J6 (d:=5) (show [(Fld.mk 3 0 (-1) (-1) (-1) 0 0 []),(Fld.mk 3 9 (-1) (-1) (-1) (-1) 0 []),(Fld.mk 4 0 (-1) (-1) (-1) 0 0 []),(Fld.mk 3 12 (-1) (-1) (-1) (-1) 0 []),(Fld.mk 4 5 (-1) (-1) (-1) (-1) 0 []),(Fld.mk 3 0 (-1) (-1) (-1) 0 0 []),(Fld.mk 7 0 (-1) (-1) 0 0 0 []),(Fld.mk 4 0 (-1) (-1) 1 9223372036854775807 0 [])][7]? = _ from rfl) (by decide)
   simp only [S6,El,Y3,List.flatMap_map,List.length_map,aP,aQ,aR,aS,aT,aU,aV,aW]
   try simp only [be4_i32',Dc,Dg,Dh,DW,Dj,Ew,Ev]
   have hkn:(D0 [(Fld.mk 3 0 (-1) (-1) (-1) 0 0 []),(Fld.mk 3 9 (-1) (-1) (-1) (-1) 0 []),(Fld.mk 4 0 (-1) (-1) (-1) 0 0 []),(Fld.mk 3 12 (-1) (-1) (-1) (-1) 0 []),(Fld.mk 4 5 (-1) (-1) (-1) (-1) 0 []),(Fld.mk 3 0 (-1) (-1) (-1) 0 0 []),(Fld.mk 7 0 (-1) (-1) 0 0 0 []),(Fld.mk 4 0 (-1) (-1) 1 9223372036854775807 0 [])]).toNat = 2:=by decide +kernel
   have rg_:v < 3 ∨ (3 ≤ v ∧ v < 4) ∨ (4 ≤ v ∧ v < 5) ∨ (5 ≤ v ∧ v < 7) ∨ (7 ≤ v ∧ v < 9) ∨ (9 ≤ v ∧ v < 11) ∨ (11 ≤ v ∧ v < 12) ∨ (12 ≤ v ∧ v < 13) ∨ (13 ≤ v ∧ v < 15) ∨ 15 ≤ v:=by omega
   rcases rg_ with g_ | g_ | g_ | g_ | g_ | g_ | g_ | g_ | g_ | g_ <;>
    ((first | have c0:v ≤ 12:=by omega | have c0:¬ v ≤ 12:=by omega); (first | have c1:v ≤ 14:=by omega | have c1:¬ v ≤ 14:=by omega); (first | have c2:v ≥ 3:=by omega | have c2:¬ v ≥ 3:=by omega); (first | have c3:v ≥ 4:=by omega | have c3:¬ v ≥ 4:=by omega); (first | have c4:v ≥ 5:=by omega | have c4:¬ v ≥ 5:=by omega); (first | have c5:v ≥ 7:=by omega | have c5:¬ v ≥ 7:=by omega); (first | have c6:v ≥ 9:=by omega | have c6:¬ v ≥ 9:=by omega); (first | have c7:v ≥ 11:=by omega | have c7:¬ v ≥ 11:=by omega); (first | have c8:v ≥ 12:=by omega | have c8:¬ v ≥ 12:=by omega); (first | have c9:v ≥ 13:=by omega | have c9:¬ v ≥ 13:=by omega); first | (simp [E2,N9,D8,Fld.tag,Fld.has,O9,Fld.kind,Fld.null,Fld.of,Fld.sub,F1,I5,E0,D1,hkn,D9,Bf,nul_no,H9,I0,Fld.usual,Fld.usual.usuals,B3,G4,B9,c0,c1,c2,c3,c4,c5,c6,c7,c8,c9,h0]; done) | (by_cases bL0:((ab.at_ 6).S.take 16).all (fun b_=>b_ == 0) = true <;> by_cases bL1:be 8 (ab.at_ 7).N = be 8 (9223372036854775807) <;> (simp [E2,N9,D8,Fld.tag,Fld.has,O9,Fld.kind,Fld.null,Fld.of,Fld.sub,F1,I5,E0,D1,hkn,D9,Bf,nul_no,c0,c1,c2,c3,c4,c5,c6,c7,c8,c9,bL0,bL1,H9,I0,Fld.usual,Fld.usual.usuals,B3,G4,B9,h0] <;> (congr 1; omega))))
  simp only [S6,El,Y3,List.flatMap_map,List.length_map,aM,aN,f74n,aO]
  simp only [ao]
  try simp only [be4_i32',Dc,Dg,Dh,DW,Dj,Ew,Ev]
  have rg_:v < 3 ∨ (3 ≤ v ∧ v < 4) ∨ (4 ≤ v ∧ v < 5) ∨ (5 ≤ v ∧ v < 7) ∨ (7 ≤ v ∧ v < 9) ∨ (9 ≤ v ∧ v < 11) ∨ (11 ≤ v ∧ v < 12) ∨ (12 ≤ v ∧ v < 13) ∨ (13 ≤ v ∧ v < 15) ∨ 15 ≤ v:=by omega
  rcases rg_ with g_ | g_ | g_ | g_ | g_ | g_ | g_ | g_ | g_ | g_ <;>
   ((first | have c0:v ≤ 12:=by omega | have c0:¬ v ≤ 12:=by omega); (first | have c1:v ≤ 14:=by omega | have c1:¬ v ≤ 14:=by omega); (first | have c2:v ≥ 3:=by omega | have c2:¬ v ≥ 3:=by omega); (first | have c3:v ≥ 4:=by omega | have c3:¬ v ≥ 4:=by omega); (first | have c4:v ≥ 5:=by omega | have c4:¬ v ≥ 5:=by omega); (first | have c5:v ≥ 7:=by omega | have c5:¬ v ≥ 7:=by omega); (first | have c6:v ≥ 9:=by omega | have c6:¬ v ≥ 9:=by omega); (first | have c7:v ≥ 11:=by omega | have c7:¬ v ≥ 11:=by omega); (first | have c8:v ≥ 12:=by omega | have c8:¬ v ≥ 12:=by omega); (first | have c9:v ≥ 13:=by omega | have c9:¬ v ≥ 13:=by omega); first | (simp [E2,N9,D8,Fld.tag,Fld.has,O9,Fld.kind,Fld.null,Fld.of,Fld.sub,F1,I5,E0,D1,D0,D9,Bf,nul_no,c0,c1,c2,c3,c4,c5,c6,c7,c8,c9,h0]; done) | ((simp [E2,N9,D8,Fld.tag,Fld.has,O9,Fld.kind,Fld.null,Fld.of,Fld.sub,F1,I5,E0,D1,D0,D9,Bf,nul_no,c0,c1,c2,c3,c4,c5,c6,c7,c8,c9,h0])))
 have au:∀ ag:Tree,(fun ae:Tree=>(if ((if (decide (v ≥ 7)) = true then decide (v ≤ 12) else false)) = true then if (decide (v ≥ 12)) = true then (uv ((ae.at_ 0).S.length + 1) ++ (ae.at_ 0).S) else (be 2 (ae.at_ 0).S.length ++ (ae.at_ 0).S) else []) ++ ((if (decide (v ≥ 13)) = true then (C3 (ae.at_ 1).S) else []) ++ (((if (decide (v ≥ 12)) = true then (uv ((lst (ae.at_ 2)).length + 1)) else (be 4 (lst (ae.at_ 2)).length)) ++ ((lst (ae.at_ 2)).flatMap fun ai=>be 4 ((IntKind.i32.wrap ai.N)))) ++ (if (decide (v ≥ 12)) = true then (uv ae.U.length) ++ (I1 ae.U) else [])))) (N2 (D2 v 7) (Fld.mk 10 7 (-1) (-1) (-1) 0 10 [(Fld.mk 8 7 12 (-1) (-1) 0 0 []),(Fld.mk 7 13 (-1) (-1) (-1) 0 0 []),(Fld.mk 11 0 (-1) (-1) (-1) 0 3 [])]) (Fld.nul (Fld.mk 10 7 (-1) (-1) (-1) 0 10 [(Fld.mk 8 7 12 (-1) (-1) 0 0 []),(Fld.mk 7 13 (-1) (-1) (-1) 0 0 []),(Fld.mk 11 0 (-1) (-1) (-1) 0 3 [])]) v ag) ag) = E2 7 [(Fld.mk 8 7 12 (-1) (-1) 0 0 []),(Fld.mk 7 13 (-1) (-1) (-1) 0 0 []),(Fld.mk 11 0 (-1) (-1) (-1) 0 3 [])] v (decide (v ≥ 12)) ag:=by
  intro ag
  dsimp only
  obtain ⟨av,aw⟩:=fit_10 (v:=v) (d:=7) (x1:=7) (x2:=-1) (x5:=0) (x6:=10) (s:=[(Fld.mk 8 7 12 (-1) (-1) 0 0 []),(Fld.mk 7 13 (-1) (-1) (-1) 0 0 []),(Fld.mk 11 0 (-1) (-1) (-1) 0 3 [])]) (b:=Fld.nul (Fld.mk 10 7 (-1) (-1) (-1) 0 10 [(Fld.mk 8 7 12 (-1) (-1) 0 0 []),(Fld.mk 7 13 (-1) (-1) (-1) 0 0 []),(Fld.mk 11 0 (-1) (-1) (-1) 0 3 [])]) v ag) (x:=ag)
  simp only [av,aw]
  have aX:=Y6 (v:=v) (d:=6) (t:=ag) (l:=[(Fld.mk 8 7 12 (-1) (-1) 0 0 []),(Fld.mk 7 13 (-1) (-1) (-1) 0 0 []),(Fld.mk 11 0 (-1) (-1) (-1) 0 3 [])]) (i:=0) (show [(Fld.mk 8 7 12 (-1) (-1) 0 0 []),(Fld.mk 7 13 (-1) (-1) (-1) 0 0 []),(Fld.mk 11 0 (-1) (-1) (-1) 0 3 [])][0]? = _ from rfl) (by decide)
  have aY:((D2 v 7 [(Fld.mk 8 7 12 (-1) (-1) 0 0 []),(Fld.mk 7 13 (-1) (-1) (-1) 0 0 []),(Fld.mk 11 0 (-1) (-1) (-1) 0 3 [])] ag).at_ 1).S = (ag.at_ 1).S:=BF (d:=6) (show [(Fld.mk 8 7 12 (-1) (-1) 0 0 []),(Fld.mk 7 13 (-1) (-1) (-1) 0 0 []),(Fld.mk 11 0 (-1) (-1) (-1) 0 3 [])][1]? = _ from rfl) (by decide)
  obtain ⟨f91n,aZ⟩:=W6 (v:=v) (d:=6) (t:=ag) (l:=[(Fld.mk 8 7 12 (-1) (-1) 0 0 []),(Fld.mk 7 13 (-1) (-1) (-1) 0 0 []),(Fld.mk 11 0 (-1) (-1) (-1) 0 3 [])]) (i:=2) (show [(Fld.mk 8 7 12 (-1) (-1) 0 0 []),(Fld.mk 7 13 (-1) (-1) (-1) 0 0 []),(Fld.mk 11 0 (-1) (-1) (-1) 0 3 [])][2]? = _ from rfl)
  have ax:∀ aj:Tree,(fun ai:Tree=>be 4 ((IntKind.i32.wrap ai.N))) (N2 (D2 v 6) (Fld.mk 3 0 (-1) (-1) (-1) 0 3 []) (Fld.nul (Fld.mk 3 0 (-1) (-1) (-1) 0 3 []) v aj) aj) = be 4 aj.N:=by
   intro aj
   dsimp only
   cases aj; simp [N2,Fld.kind,Tree.N,be4_i32',Dc,Dg,Dh]
  simp only [S6,El,Y3,List.flatMap_map,List.length_map,aX,aY,f91n,aZ]
  simp only [ax]
  try simp only [be4_i32',Dc,Dg,Dh,DW,Dj,Ew,Ev]
  have rg_:v < 3 ∨ (3 ≤ v ∧ v < 4) ∨ (4 ≤ v ∧ v < 5) ∨ (5 ≤ v ∧ v < 7) ∨ (7 ≤ v ∧ v < 9) ∨ (9 ≤ v ∧ v < 11) ∨ (11 ≤ v ∧ v < 12) ∨ (12 ≤ v ∧ v < 13) ∨ (13 ≤ v ∧ v < 15) ∨ 15 ≤ v:=by omega
  rcases rg_ with g_ | g_ | g_ | g_ | g_ | g_ | g_ | g_ | g_ | g_ <;>
   ((first | have c0:v ≤ 12:=by omega | have c0:¬ v ≤ 12:=by omega); (first | have c1:v ≤ 14:=by omega | have c1:¬ v ≤ 14:=by omega); (first | have c2:v ≥ 3:=by omega | have c2:¬ v ≥ 3:=by omega); (first | have c3:v ≥ 4:=by omega | have c3:¬ v ≥ 4:=by omega); (first | have c4:v ≥ 5:=by omega | have c4:¬ v ≥ 5:=by omega); (first | have c5:v ≥ 7:=by omega | have c5:¬ v ≥ 7:=by omega); (first | have c6:v ≥ 9:=by omega | have c6:¬ v ≥ 9:=by omega); (first | have c7:v ≥ 11:=by omega | have c7:¬ v ≥ 11:=by omega); (first | have c8:v ≥ 12:=by omega | have c8:¬ v ≥ 12:=by omega); (first | have c9:v ≥ 13:=by omega | have c9:¬ v ≥ 13:=by omega); first | (simp [E2,N9,D8,Fld.tag,Fld.has,O9,Fld.kind,Fld.null,Fld.of,Fld.sub,F1,I5,E0,D1,D0,D9,Bf,nul_no,c0,c1,c2,c3,c4,c5,c6,c7,c8,c9,h0]; done) | ((simp [E2,N9,D8,Fld.tag,Fld.has,O9,Fld.kind,Fld.null,Fld.of,Fld.sub,F1,I5,E0,D1,D0,D9,Bf,nul_no,c0,c1,c2,c3,c4,c5,c6,c7,c8,c9,h0])))
 unfold I6
 simp only [S6,El,Y3,List.flatMap_map,List.length_map,ay.1,ay.2,az,aA,f56u,aB,aC,aD,aE,aF,aG,aH,aI,f66n,aJ,f67n,aK,aL]
 simp only [ak,au]
 try simp only [be4_i32',Dc,Dg,Dh,DW,Dj,Ew,Ev]
 have hkn:(D0 [(Fld.mk 8 0 (-1) 0 0 0 0 []),(Fld.mk 3 0 14 (-1) (-1) (-1) 0 []),(Fld.mk 10 0 (-1) (-1) 1 0 0 [(Fld.mk 3 0 (-1) (-1) (-1) (-1) 0 []),(Fld.mk 4 0 (-1) (-1) (-1) (-1) 0 [])]),(Fld.mk 3 0 (-1) (-1) (-1) 0 0 []),(Fld.mk 3 0 (-1) (-1) (-1) 0 0 []),(Fld.mk 3 3 (-1) (-1) (-1) 2147483647 0 []),(Fld.mk 1 4 (-1) (-1) (-1) 0 0 []),(Fld.mk 3 7 (-1) (-1) (-1) 0 0 []),(Fld.mk 3 7 (-1) (-1) (-1) (-1) 0 []),(Fld.mk 11 0 (-1) (-1) (-1) 0 10 [(Fld.mk 8 0 12 (-1) (-1) 0 0 []),(Fld.mk 7 13 (-1) (-1) (-1) 0 0 []),(Fld.mk 11 0 (-1) (-1) (-1) 0 10 [(Fld.mk 3 0 (-1) (-1) (-1) 0 0 []),(Fld.mk 3 9 (-1) (-1) (-1) (-1) 0 []),(Fld.mk 4 0 (-1) (-1) (-1) 0 0 []),(Fld.mk 3 12 (-1) (-1) (-1) (-1) 0 []),(Fld.mk 4 5 (-1) (-1) (-1) (-1) 0 []),(Fld.mk 3 0 (-1) (-1) (-1) 0 0 []),(Fld.mk 7 0 (-1) (-1) 0 0 0 []),(Fld.mk 4 0 (-1) (-1) 1 9223372036854775807 0 [])])]),(Fld.mk 11 7 (-1) (-1) (-1) 0 10 [(Fld.mk 8 7 12 (-1) (-1) 0 0 []),(Fld.mk 7 13 (-1) (-1) (-1) 0 0 []),(Fld.mk 11 0 (-1) (-1) (-1) 0 3 [])]),(Fld.mk 8 11 (-1) (-1) (-1) 0 0 [])]).toNat = 2:=by decide +kernel
 have rg_:v < 3 ∨ (3 ≤ v ∧ v < 4) ∨ (4 ≤ v ∧ v < 5) ∨ (5 ≤ v ∧ v < 7) ∨ (7 ≤ v ∧ v < 9) ∨ (9 ≤ v ∧ v < 11) ∨ (11 ≤ v ∧ v < 12) ∨ (12 ≤ v ∧ v < 13) ∨ (13 ≤ v ∧ v < 15) ∨ 15 ≤ v:=by omega
 rcases rg_ with g_ | g_ | g_ | g_ | g_ | g_ | g_ | g_ | g_ | g_ <;>
  ((first | have c0:v ≤ 12:=by omega | have c0:¬ v ≤ 12:=by omega); (first | have c1:v ≤ 14:=by omega | have c1:¬ v ≤ 14:=by omega); (first | have c2:v ≥ 3:=by omega | have c2:¬ v ≥ 3:=by omega); (first | have c3:v ≥ 4:=by omega | have c3:¬ v ≥ 4:=by omega); (first | have c4:v ≥ 5:=by omega | have c4:¬ v ≥ 5:=by omega); (first | have c5:v ≥ 7:=by omega | have c5:¬ v ≥ 7:=by omega); (first | have c6:v ≥ 9:=by omega | have c6:¬ v ≥ 9:=by omega); (first | have c7:v ≥ 11:=by omega | have c7:¬ v ≥ 11:=by omega); (first | have c8:v ≥ 12:=by omega | have c8:¬ v ≥ 12:=by omega); (first | have c9:v ≥ 13:=by omega | have c9:¬ v ≥ 13:=by omega); first | (simp [P6,H6,sFetchRequestF,E2,N9,D8,Fld.tag,Fld.has,O9,Fld.kind,Fld.null,Fld.of,Fld.sub,F1,I5,E0,D1,hkn,ah,Gk h0,D9,Bf,nul_no,H9,I0,Fld.usual,Fld.usual.usuals,B3,G4,B9,c0,c1,c2,c3,c4,c5,c6,c7,c8,c9,h0]; done) | (by_cases bL0:(t.at_ 0).null = true <;> by_cases bL1:be 4 ((t.at_ 2).at_ 0).N = be 4 (-1) <;> by_cases bL2:be 8 ((t.at_ 2).at_ 1).N = be 8 (-1) <;> by_cases bL3:(C4 [(Fld.mk 3 0 (-1) (-1) (-1) (-1) 0 []),(Fld.mk 4 0 (-1) (-1) (-1) (-1) 0 [])] (t.at_ 2).U).length = 0 <;> (simp [P6,H6,sFetchRequestF,E2,N9,D8,Fld.tag,Fld.has,O9,Fld.kind,Fld.null,Fld.of,Fld.sub,F1,I5,E0,D1,hkn,ah,Gk h0,D9,Bf,nul_no,c0,c1,c2,c3,c4,c5,c6,c7,c8,c9,bL0,bL1,bL2,bL3,H9,I0,Fld.usual,Fld.usual.usuals,B3,G4,B9,h0] <;> (congr 1; omega))))
def CA:DV:=.leaf
def V3 (ok:World → (Nat → Nat → Prop) → DV → Prop):Prop:=∀ {w w':World} {F F' M:Nat → Nat → Prop} (d:DV),Step w w' M → (∀ b o,F b o → b < w.heap.size → ¬ M b o) → (∀ b o,F b o → b < w.heap.size → F' b o) → ok w F d → ok w' F' d
def Gv (_:World) (_:Nat → Nat → Prop) (_:DV):Prop:=True
theorem Gw:V3 Gv:=fun _ _ _ _ _=>trivial
theorem Gx {P:Program} {c:Code} {Mid N:Act → World → Prop} {Q:Exit → Act → World → Prop} {a:Act} {w:World} (h1:c.wp P (Exit.then Mid Q) a w) (h2:∀ a' w',Mid a' w' → N a' w'):c.wp P (Exit.then N Q) a w :=
 wp_mono h1 fun e a' w' h=>by
  cases e <;> first | exact h2 a' w' h | exact h
def K4 (n:Int):DV:=.mk n false ByteArray.empty [] none 0 0 none [] (fun _=>.leaf)
def Bi (s:ByteArray):DV:=.mk 0 false s [] none 0 0 none [] (fun _=>.leaf)
def Gy (A:Option Addr) (s:ByteArray):DV:=.mk 0 false s [] A 0 0 none [] (fun _=>.leaf)
def BL (A:Option Addr) (o:Bs) (c:Nat):DV:=.mk 0 false ByteArray.empty o A 0 c none [] (fun _=>.leaf)
def Y8 (A:Option Addr) (l c:Nat) (f:Nat → DV):DV:=.mk 0 false ByteArray.empty [] A l c none [] f
def BM (m:Option Nat) (u:List (Int × Bs)) (fs:List DV):DV:=.mk 0 false ByteArray.empty [] none 0 0 m u (fun i=>fs.getD i .leaf)
theorem EnvOk.retable {n:Nat} {env:C6} {a:Act} (tb:Tb) (h:EnvOk n [] env a):EnvOk n tb env a:=h.table fun i hi=>absurd hi (Nat.not_lt_zero i)
def J2 (A:Option Addr) (cp j:Nat):Option Addr:=if cp = j then A else A.map (·.add j)
theorem Mn (s:Bs) (j i:Nat):(s.drop j).getD i 0 = s.getD (j + i) 0:=by
 rw [List.getD_eq_getElem?_getD,List.getD_eq_getElem?_getD,List.getElem?_drop]
theorem Octs.drop {w:World} {F:Nat → Nat → Prop} {A:Option Addr} {c:Nat} {s:Bs} (h:Octs w F A c s) {j:Nat} (hj:j ≤ s.length):Octs w F (J2 A c j) (c - j) (s.drop j):=by
 have hle:=h.le
 have hsm:=h.small
 unfold Octs
 rw [List.length_drop]
 refine ⟨by omega,by omega,fun hA=>?_,fun ad hA hn=>?_⟩
 ·have hn:A = none:=by
   unfold J2 at hA
   split at hA
   ·exact hA
   cases A with
   | none=>rfl
   | some _=>cases hA
  have:=h.none_ hn
  omega
 have hA':A.map (·.add j) = some ad:=by
  unfold J2 at hA
  rwa [if_neg (by omega)] at hA
 cases hq:A with
 | none=>rw [hq] at hA'; cases hA'
 | some ad0 =>
  rw [hq] at hA'
  obtain ⟨b,o,rfl,h2⟩:=h.some_ ad0 hq (by omega)
  simp only [Option.map_some,Option.some.injEq,P2] at hA'
  subst hA'
  refine ⟨b,o + j,rfl,fun i hi=>?_⟩
  rw [Mn,show o + j + i * 1 = o + (j + i) * 1 by omega]
  exact h2 (j + i) (by omega)
theorem Octs.cutS {w:World} {F:Nat → Nat → Prop} {A:Option Addr} {c:Nat} {s:Bs} (h:Octs w F A c s) {j:Nat} (hj:j ≤ s.length):Octs w F A j (s.take j):=by
 have h1:=h.take j
 refine ⟨by rw [List.length_take]; omega,h1.small,fun hA=>?_,h1.some_⟩
 have:=h.none_ hA
 rw [List.length_take]; omega
section
variable {P:Program} {ops:Array Oper} {Q:Exit → Act → World → Prop} {n:Nat} {tb:Tb} {env:C6} {rs:List Rw} {w0:World} {M:Nat → Nat → Prop} {a:Act} {w:World}
theorem Mo {t e:TypeId} {bytes:Nat} (ht:M6 P t = some (e,1,bytes)) {A:Option Addr} {m cp:Nat} {k:IntKind} {q:Int} (h0:0 ≤ q) (h1:q ≤ m) :
  (Instr.sliceAt t (.slice A m cp) (some (.int k q)) none none).run P w = .ok (.slice (J2 A cp q.toNat) (m - q.toNat) (cp - q.toNat)) w:=by
 obtain ⟨ht',inf,z,hi,hz,hzs,hs1,rfl,hsz,hbp⟩:=S7 ht
 unfold Instr.sliceAt
 simp only [Sem.run_bind,run_underlying ht',Result.andThen_ok]
 unfold Instr.slice
 have hb:(0 ≤ q ∧ q ≤ (m:Int)):=⟨h0,h1⟩
 simp only [Sem.run_bind,run_underlying ht',Result.andThen_ok,Instr.sliceBounds,Instr.sliceBound,asIntOf,Sem.run_pure,if_pos hb,run_sizeOf' hi,hs1,Nat.mul_one]
 rfl
theorem Mp {t e:TypeId} {bytes:Nat} (ht:M6 P t = some (e,1,bytes)) {A:Option Addr} {m cp:Nat} {k:IntKind} {q:Int} (h0:0 ≤ q) (h1:q ≤ cp) :
  (Instr.sliceAt t (.slice A m cp) none (some (.int k q)) (some (.int k q))).run P w = .ok (.slice A q.toNat q.toNat) w:=by
 obtain ⟨ht',inf,z,hi,hz,hzs,hs1,rfl,hsz,hbp⟩:=S7 ht
 unfold Instr.sliceAt
 simp only [Sem.run_bind,run_underlying ht',Result.andThen_ok]
 unfold Instr.slice
 have hb:(0 ≤ q ∧ q ≤ (cp:Int)):=⟨h0,h1⟩
 have hb2:(0 ≤ q ∧ q ≤ ((q.toNat:Nat):Int)):=⟨h0,by omega⟩
 simp only [Sem.run_bind,run_underlying ht',Result.andThen_ok,Instr.sliceBounds,Instr.sliceBound,asIntOf,Sem.run_pure,if_pos hb,if_pos hb2,run_sizeOf' hi]
 cases A with
 | none=>simp
 | some ad=>simp [Addr.add]
theorem CB {i d j:Nat} {N:Act → World → Prop} {t e:TypeId} {bytes m cp:Nat} {A:Option Addr} {q:Int} (hE:EnvOk n tb env a) (h:U2 tb env ops n i = some (t,.slice A m cp,some q,none,d)) (ht:M6 P t = some (e,1,bytes)) (hq:q = (j:Int)) (hj:j ≤ m)
  (K:∀ a',EnvOk n tb ((d,.v (.slice (J2 A cp j) (m - j) (cp - j))) :: env) a' → N a' w):wpOp P ops Q i N a w:=by
 have h0:0 ≤ q:=by omega
 have h1:q ≤ m:=by omega
 obtain rfl:j = q.toNat:=by omega
 unfold U2 at h
 split at h
 ·rename_i t' x lo hi d' ho
  have hd:d' < n:=(K8 hE ho).choose_spec.2.2.2.1
  split at h
  ·simp at h
  ·rename_i s l hs
   split at h
   ·rename_i k q' hs2
    simp only [Option.some.injEq,Prod.mk.injEq,true_and] at h
    obtain ⟨rfl,hsv,rfl,rfl⟩:=h
    have e1:=(F8 hE hs).1
    have e2:=(F8 hE hs2).1
    refine L9 hE ho (v:=.slice (J2 A cp q'.toNat) (m - q'.toNat) (cp - q'.toNat)) (w':=w) (fun o' hop=>?_) (K _ (hE.put hd (.v _) trivial))
    unfold execOp
    rw [hop]
    rw [hsv] at e1
    simp only [SV.val] at e2
    simp only [e1,e2,Option.map_none,Option.map_some,Sem.run_bind,Mo ht h0 h1,Result.andThen_ok,Sem.run_pure]
   cases h
  ·split at h <;> simp at h
  ·split at h <;> simp at h
  cases h
 cases h
def Jk (tb:Tb) (env:C6) (ops:Array Oper) (n i:Nat):Option (TypeId × Value × IntKind × Int × IntKind × Int × Nat) :=
 match G2 env ops n i with
 | some (.slice t x none (some h) (some m),d)=>match F7 env x,F7 env h,F7 env m with
  | some s,some (.v (.int k p)),some (.v (.int k' q))=>some (t,s.val tb,k,p,k',q,d)
  | _,_,_=>none
 | _=>none
theorem Mq {i d j:Nat} {N:Act → World → Prop} {t e:TypeId} {bytes m cp:Nat} {A:Option Addr} {k:IntKind} {q:Int} (hE:EnvOk n tb env a) (h:Jk tb env ops n i = some (t,.slice A m cp,k,q,k,q,d)) (ht:M6 P t = some (e,1,bytes)) (hq:q = (j:Int)) (hj:j ≤ cp)
  (K:∀ a',EnvOk n tb ((d,.v (.slice A j j)) :: env) a' → N a' w):wpOp P ops Q i N a w:=by
 have h0:0 ≤ q:=by omega
 have h1:q ≤ cp:=by omega
 obtain rfl:j = q.toNat:=by omega
 unfold Jk at h
 split at h
 ·rename_i t' x hh mm d' ho
  have hd:d' < n:=(K8 hE ho).choose_spec.2.2.2.1
  split at h
  ·rename_i s k1 p1 k2 q2 g1 g2 g3
   simp only [Option.some.injEq,Prod.mk.injEq] at h
   obtain ⟨rfl,hsv,rfl,rfl,rfl,rfl,rfl⟩:=h
   have f1:=(F8 hE g1).1
   have f2:=(F8 hE g2).1
   have f3:=(F8 hE g3).1
   rw [hsv] at f1
   simp only [SV.val] at f2 f3
   refine L9 hE ho (v:=.slice A q2.toNat q2.toNat) (w':=w) (fun o' hop=>?_) (K _ (hE.put hd (.v _) trivial))
   unfold execOp
   rw [hop]
   simp only [f1,f2,f3,Option.map_none,Option.map_some,Sem.run_bind,Mp ht h0 h1,Result.andThen_ok,Sem.run_pure]
  cases h
 cases h
end
structure RdS (w:World) (F:Nat → Nat → Prop) (A:Option Addr) (n c:Nat) (s:Bs):Prop where
 len:n = s.length
 oct:Octs w F A c s
theorem RdS.move {w w':World} {F F' M:Nat → Nat → Prop} {A:Option Addr} {n c:Nat} {s:Bs} (h:RdS w F A n c s) (hs:Step w w' M) (hM:∀ b o,F b o → b < w.heap.size → ¬ M b o) (hF:∀ b o,F b o → b < w.heap.size → F' b o):RdS w' F' A n c s:=⟨h.len,Octs.move h.oct hs hM hF⟩
theorem RdS.cast {w:World} {F:Nat → Nat → Prop} {A:Option Addr} {n c:Nat} {s t:Bs} (h:RdS w F A n c s) (e:s = t):RdS w F A n c t:=e ▸ h
theorem RdS.drop {w:World} {F:Nat → Nat → Prop} {A:Option Addr} {n c j:Nat} {s t:Bs} (h:RdS w F A n c (s ++ t)) (hj:j = s.length):RdS w F (J2 A c j) (n - j) (c - j) t:=by
 subst hj
 have h1:=h.oct.drop (j:=s.length) (by rw [List.length_append]; omega)
 rw [List.drop_left] at h1
 exact ⟨by rw [h.len,List.length_append]; omega,h1⟩
theorem RdS.front {w:World} {F:Nat → Nat → Prop} {A:Option Addr} {n c j:Nat} {s t:Bs} (h:RdS w F A n c (s ++ t)) (hj:j = s.length):Octs w F A j s:=by
 subst hj
 have h1:=h.oct.cutS (j:=s.length) (by rw [List.length_append]; omega)
 rwa [List.take_left] at h1
def H1 (br:Nat):Nat → Nat → Prop:=fun b o=>b = br ∧ o < 2
def RdPost (w:World) (br:Nat) (F:Nat → Nat → Prop) (rest:Bs) (Q:Value → World → Prop):Ending → World → Prop:=fun e w' =>
 ∃ v A' n' c',e = .returned v ∧ Str w' br [.slice A' n' c',.bool false] ∧ RdS w' F A' n' c' rest ∧ Step w w' (H1 br) ∧ Q v w'
theorem WOk.startStr {w:World} {p:Nat} {cs:List Value} (h:Str w p cs) (hn:Nat.blt 0 cs.length = true:=by kernel_rfl):WOk w (fun b o=>b = p ∧ o < cs.length) w [⟨p,0,cs,true⟩] []:=by
 have hn':0 < cs.length:=by simpa [Nat.blt_eq] using hn
 exact (WOk.start w _).add ⟨p,0,cs,true⟩ (World.lt_of_cell (h.at_ 0 _ (List.getElem?_eq_getElem hn'))) (fun j v hj=>by rw [Nat.zero_add]; exact h.at_ j v hj) (fun _ j hj=>⟨.inr ⟨rfl,by rw [Nat.zero_add]; exact hj⟩,by rw [Nat.zero_add]; exact h.frz j hj⟩) (fun i o hi=>by simp at hi) (fun i r hi=>by simp at hi)
theorem WOk.wrote {w0 w w':World} {M:Nat → Nat → Prop} {tb:Tb} {rs:List Rw} {p:Nat} {cs cs':List Value} (hW:WOk w0 M w tb rs) (i:Nat) (tb':Tb) (hi:tb[i]? = some ⟨p,0,cs,true⟩) (hst:Step w w' (fun b o=>b = p ∧ o < cs.length)) (hs:Str w' p cs') (ht:tb.set i ⟨p,0,cs',true⟩ = tb':=by rfl) (hl:cs'.length = cs.length:=by rfl) :
  WOk w0 M w' tb' rs ∧ Fr w tb rs w' tb' rs ∧ ∀ {G:Nat → Nat → Prop} (b o:Nat),Fp (E9 G w0 w tb rs) w b o → b < w'.heap.size → E9 G w0 w' tb' rs b o:=by
 subst ht
 have key:∀ (j:Nat) (o:Ob),(tb.set i ⟨p,0,cs',true⟩)[j]? = some o → (j = i ∧ o = ⟨p,0,cs',true⟩) ∨ (j ≠ i ∧ tb[j]? = some o):=fun j o hj=>by
  rcases T9 hj with ⟨h1,h2,_⟩ | ⟨h1,h2⟩
  ·exact .inl ⟨h1,h2⟩
  exact .inr ⟨h1,h2⟩
 have far:∀ (j:Nat) (o:Ob),j ≠ i → tb[j]? = some o → ∀ q,q < o.cells.length → ¬ (o.blk = p ∧ o.off + q < cs.length):=fun j o hne hj q hq e=>by
  rcases hW.apart j i o _ hne hj hi (.inr rfl) with h1 | h1 | h1
  ·exact h1 e.1
  ·simp only [Nat.le_zero] at h1; omega
  simp only [Nat.zero_add] at h1; omega
 have act:∀ b o,H3 (tb.set i ⟨p,0,cs',true⟩) rs b o → H3 tb rs b o:=fun b o ha=>by
  rcases ha with ⟨j,ob,hj,h1,h2,h3,h4⟩ | ha
  ·rcases key j ob hj with ⟨rfl,rfl⟩ | ⟨_,hj⟩
   ·exact .inl ⟨j,_,hi,rfl,h2,h3,by simpa [hl] using h4⟩
   exact .inl ⟨j,ob,hj,h1,h2,h3,h4⟩
  exact .inr ha
 refine ⟨⟨hW.step.trans hst fun b o hb e=>?_,?_,?_,?_,?_,?_,hW.ownM,?_,hW.rr⟩,⟨fun b o _ hn ha=>hn (act b o ha),hst.mono fun b o _ e=>.inl ⟨i,_,hi,rfl,e.1.symm,Nat.zero_le _,by simpa using e.2⟩⟩,fun b o hf hb=>?_⟩
 rotate_right
 ·rcases hf with hf | hf
  ·exact ⟨hf.1,hb,fun ha=>hf.2.2 (act b o ha)⟩
  exact ⟨.inr (Nat.le_trans hW.step.size hf),hb,fun ha=>by have:=hW.act_live (act b o ha); omega⟩
 ·have h1:=(hW.rw_ i _ hi rfl o e.2).1
  simp only [Nat.zero_add] at h1
  rcases h1 with h1 | h1
  ·have:=e.1; omega
  rw [e.1]; exact h1
 ·intro j o hj q v hv
  rcases key j o hj with ⟨rfl,rfl⟩ | ⟨hne,hj⟩
  ·dsimp only
   rw [Nat.zero_add]
   exact hs.at_ q v hv
  exact hst.cell (far j o hne hj q (List.getElem?_eq_some_iff.1 hv).1) (hW.cells j o hj q v hv)
 ·intro j o hj
  rcases key j o hj with ⟨rfl,rfl⟩ | ⟨_,hj⟩
  ·have h1:=hW.live j _ hi
   exact Nat.lt_of_lt_of_le h1 hst.size
  exact Nat.lt_of_lt_of_le (hW.live j o hj) hst.size
 ·intro j o hj hr q hq
  rcases key j o hj with ⟨rfl,rfl⟩ | ⟨hne,hj⟩
  ·dsimp only at hq ⊢
   refine ⟨(hW.rw_ j _ hi rfl q (by simpa [hl] using hq)).1,?_⟩
   rw [Nat.zero_add]
   exact hs.frz q hq
  obtain ⟨h1,h2⟩:=hW.rw_ j o hj hr q hq
  exact ⟨h1,hst.frozen (far j o hne hj q hq) (hW.cells j o hj q _ (List.getElem?_eq_getElem hq)) h2⟩
 ·intro j k o o' hjk hj hk hw
  rcases key j o hj with ⟨rfl,rfl⟩ | ⟨hne,hj'⟩
  ·rcases key k o' hk with ⟨rfl,rfl⟩ | ⟨hne',hk'⟩
   ·exact absurd rfl hjk
   have:=hW.apart j k _ o' hjk hi hk' (.inl rfl)
   simpa [hl] using this
  rcases key k o' hk with ⟨rfl,rfl⟩ | ⟨hne',hk'⟩
  ·have:=hW.apart j k o _ hjk hj' hi (.inr rfl)
   simpa [hl] using this
  exact hW.apart j k o o' hjk hj' hk' hw
 ·intro j r hj
  refine DO (hW.own j r hj) fun g hg=>(hst.keeps g (Q2 (hW.own j r hj) hg)).1 fun o e=>?_
  exact hW.rtb j r hj g hg i _ hi e.1.symm
 intro j r hj g hg k o hk
 rcases key k o hk with ⟨rfl,rfl⟩ | ⟨_,hk⟩
 ·have h1:=hW.rtb j r hj g hg k _ hi
  exact h1
 exact hW.rtb j r hj g hg k o hk
theorem WOk.giveUp {G:Nat → Nat → Prop} {w0 w:World} {tb:Tb} {rs:List Rw} {A:Option Addr} {c e:Nat} {s:Bs} (hW:WOk w0 C1 w tb rs) (k:Nat) (rs':List Rw) (hk:rs[k]? = some (B4 A c e s)) (hsm:s.length ≤ 1099511627776) (hr:rs.take k = rs':=by rfl):Octs w (E9 G w0 w tb rs') A c s:=by
 subst hr
 refine R7 (hW.own k _ hk) hsm fun g hg o=>?_
 have hb:=Q2 (hW.own k _ hk) (r:=B4 A c e s) hg
 refine ⟨?_,hb,fun ha=>?_⟩
 ·rcases hW.ownM k _ hk g hg with h2 | h2
  ·exact .inr h2
  exact (h2 0).elim
 rcases ha with ⟨i,ob,h2,_,h3,_⟩ | ⟨i,r,h2,h3⟩
 ·exact hW.rtb k _ hk g hg i ob h2 h3
 rw [List.getElem?_take] at h2
 split at h2
 ·rename_i hlt
  exact hW.rr k i _ r (by omega) hk h2 g hg h3
 cases h2
theorem Jl {G:Nat → Nat → Prop} {w0 w:World} {tb:Tb} {rs:List Rw} {p:Nat} {cs:List Value} (i:Nat) (hi:tb[i]? = some ⟨p,0,cs,true⟩):∀ b o,E9 G w0 w tb rs b o → ¬ (b = p ∧ o < cs.length):=fun b o h e=>by
 obtain ⟨rfl,h2⟩:=e
 exact h.2.2 (.inl ⟨i,_,hi,rfl,rfl,Nat.zero_le _,by simpa using h2⟩)
theorem Do {Q:Exit → Act → World → Prop} {a:Act} {w:World} (h:Q .ret a w):Exit.noGoto Q .ret a w:=h
theorem Gz (k:IntKind) (n:Nat) (hn:n = k.bits) (hk:∀ z:Int,0 ≤ z → z < 2 ^ n → k.wrap z = z) (i:Nat) (y x:Int) (h0:0 ≤ y) (h1:y < 2 ^ i) (h2:y < 2 ^ n) (h3:0 ≤ x) (h4:x % 2 ^ i = 0) (h5:x < 2 ^ n) :
  k.wrap (BitVec.ofInt n y ||| BitVec.ofInt n x).toNat = y + x:=by
 subst hn
 exact bits_join_low k k.bits (Nat.le_refl _) hk i y x h0 h1 h2 h3 h4 h5
theorem GA (i:Nat) (y x:Int) (h0:0 ≤ y) (h1:y < 2 ^ i) (h2:y < 2 ^ 16) (h3:0 ≤ x) (h4:x % 2 ^ i = 0) (h5:x < 2 ^ 16):IntKind.u16.wrap (BitVec.ofInt 16 y ||| BitVec.ofInt 16 x).toNat = y + x :=
 Gz .u16 16 rfl (fun z a b=>by rw [N8]; omega) i y x h0 h1 h2 h3 h4 h5
theorem M2 (i:Nat) (y x:Int) (h0:0 ≤ y) (h1:y < 2 ^ i) (h2:y < 2 ^ 32) (h3:0 ≤ x) (h4:x % 2 ^ i = 0) (h5:x < 2 ^ 32):IntKind.u32.wrap (BitVec.ofInt 32 y ||| BitVec.ofInt 32 x).toNat = y + x :=
 Gz .u32 32 rfl (fun z a b=>by rw [E3]; omega) i y x h0 h1 h2 h3 h4 h5
theorem R0 (i:Nat) (y x:Int) (h0:0 ≤ y) (h1:y < 2 ^ i) (h2:y < 2 ^ 64) (h3:0 ≤ x) (h4:x % 2 ^ i = 0) (h5:x < 2 ^ 64):IntKind.u64.wrap (BitVec.ofInt 64 y ||| BitVec.ofInt 64 x).toNat = y + x :=
 Gz .u64 64 rfl (fun z a b=>by rw [G3]; omega) i y x h0 h1 h2 h3 h4 h5
theorem Bj (n:Nat) (h:n < 256):(IntKind.u8.wrap (BitVec.ofInt 8 ((n:Nat):Int) &&& BitVec.ofInt 8 128).toNat == 0) = decide (n < 128):=by
 have:∀ m:Fin 256,(IntKind.u8.wrap (BitVec.ofInt 8 ((m.val:Nat):Int) &&& BitVec.ofInt 8 128).toNat == 0) = decide (m.val < 128):=by decide +kernel
 exact this ⟨n,h⟩
theorem R8 (n:Nat) (h:n < 256):IntKind.u8.wrap (BitVec.ofInt 8 ((n:Nat):Int) &&& BitVec.ofInt 8 127).toNat = ((n % 128:Nat):Int):=by
 have:∀ m:Fin 256,IntKind.u8.wrap (BitVec.ofInt 8 ((m.val:Nat):Int) &&& BitVec.ofInt 8 127).toNat = ((m.val % 128:Nat):Int):=by decide +kernel
 exact this ⟨n,h⟩
def oc (s:Bs) (i:Nat):Nat:=(s.getD i 0).toNat
theorem H2 (s:Bs) (i:Nat):oc s i < 256:=(s.getD i 0).toNat_lt
theorem GB (b:UInt8) (s:Bs) (i:Nat):oc (b :: s) (i + 1) = oc s i:=rfl
theorem Mr (b:UInt8) (s:Bs):oc (b :: s) 0 = b.toNat:=rfl
theorem EF (x:Int) (s:Bs):((oc (I3 x :: s) 0:Nat):Int) = x % 256:=by rw [Mr,Hx]
def O0 (s:Bs):Int:=((oc s 0:Nat):Int) * 256 + oc s 1
def O1 (s:Bs):Int:=((oc s 0:Nat):Int) * 16777216 + oc s 1 * 65536 + oc s 2 * 256 + oc s 3
def P3 (s:Bs):Int:=((oc s 0:Nat):Int) * 72057594037927936 + oc s 1 * 281474976710656 + oc s 2 * 1099511627776 + oc s 3 * 4294967296 + oc s 4 * 16777216 + oc s 5 * 65536 + oc s 6 * 256 + oc s 7
theorem Ms (x:Int) (s:Bs):O0 (be 2 x ++ s) = IntKind.u16.wrap x:=by
 rw [N8]
 simp only [be,List.cons_append,List.nil_append,O0,GB,EF,Int.reducePow]
 omega
theorem Mt (x:Int) (s:Bs):O1 (be 4 x ++ s) = IntKind.u32.wrap x:=by
 rw [E3]
 simp only [be,List.cons_append,List.nil_append,O1,GB,EF,Int.reducePow]
 omega
theorem Mu (x:Int) (s:Bs):P3 (be 8 x ++ s) = IntKind.u64.wrap x:=by
 rw [G3]
 simp only [be,List.cons_append,List.nil_append,P3,GB,EF,Int.reducePow]
 omega
theorem Mv (x:Int) (s:Bs):(((be 1 x ++ s).getD 0 0).toNat:Int) = x % 256:=by
 have e:be 1 x = [I3 x]:=by simp [be]
 rw [e]
 exact EF x s
theorem EG (x:Int):IntKind.i8.wrap x = (x + 128) % 256 - 128:=by simp [IntKind.wrap,IntKind.signed,IntKind.bits]; omega
theorem R1 (x:Int):IntKind.i16.wrap x = (x + 32768) % 65536 - 32768:=by simp [IntKind.wrap,IntKind.signed,IntKind.bits]; omega
theorem L2 (x:Int):IntKind.i32.wrap x = (x + 2147483648) % 4294967296 - 2147483648:=by simp [IntKind.wrap,IntKind.signed,IntKind.bits]; omega
theorem N6 (x:Int):IntKind.i64.wrap x = (x + 9223372036854775808) % 18446744073709551616 - 9223372036854775808:=by simp [IntKind.wrap,IntKind.signed,IntKind.bits]; omega
theorem Mw (x:Int):IntKind.i16.wrap (IntKind.u16.wrap x) = IntKind.i16.wrap x:=by rw [R1,R1,N8]; omega
theorem Mx (x:Int):IntKind.i32.wrap (IntKind.u32.wrap x) = IntKind.i32.wrap x:=by rw [L2,L2,E3]; omega
theorem My (x:Int):IntKind.i64.wrap (IntKind.u64.wrap x) = IntKind.i64.wrap x:=by rw [N6,N6,G3]; omega
theorem Mz (x:Int):IntKind.i8.wrap (x % 256) = IntKind.i8.wrap x:=by rw [EG,EG]; omega
theorem MA (x:Int):IntKind.i8.wrap (IntKind.i8.wrap x) = IntKind.i8.wrap x:=by rw [EG,EG]; omega
theorem GC (x:Int):IntKind.i32.wrap (IntKind.i32.wrap x) = IntKind.i32.wrap x:=by rw [L2,L2]; omega
theorem Y9 {x:Nat} (s:Bs):oc (uv x ++ s) 0 = if x < 128 then x else x % 128 + 128:=by
 by_cases h:x < 128
 ·rw [W4 h,if_pos h]
  show (UInt8.ofNat x).toNat = x
  rw [UInt8.toNat_ofNat']; omega
 rw [W5 (by omega),if_neg h]
 show (UInt8.ofNat (x % 128 + 128)).toNat = _
 rw [UInt8.toNat_ofNat']; omega
theorem W8 {x:Nat} (h:128 ≤ x) (s:Bs) (i:Nat):oc (uv x ++ s) (i + 1) = oc (uv (x / 128) ++ s) i:=by
 rw [W5 h]; rfl
theorem MB (b0 b1:Nat) (h0:b0 < 256) (h1:b1 < 256):IntKind.u16.wrap (BitVec.ofInt 16 (IntKind.u16.wrap (((b1:Nat):Int))) ||| BitVec.ofInt 16 (IntKind.u16.wrap (IntKind.u16.wrap (((b0:Nat):Int)) * 256))).toNat = ((b0:Nat):Int) * 256 + ((b1:Nat):Int):=by
 have e1:IntKind.u16.wrap (BitVec.ofInt 16 (IntKind.u16.wrap (((b1:Nat):Int))) ||| BitVec.ofInt 16 (IntKind.u16.wrap (IntKind.u16.wrap (((b0:Nat):Int)) * 256))).toNat = ((b1:Nat):Int) + ((b0:Nat):Int) * 256:=by
  rw [GA 8 _ _ (by first | omega | (simp only [N8]; omega)) (by first | omega | (simp only [N8]; omega)) (by first | omega | (simp only [N8]; omega)) (by first | omega | (simp only [N8]; omega)) (by first | omega | (simp only [N8]; omega)) (by first | omega | (simp only [N8]; omega))]; first | omega | (simp only [N8]; omega)
 rw [e1]
 omega
theorem MC (b0 b1 b2 b3:Nat) (h0:b0 < 256) (h1:b1 < 256) (h2:b2 < 256) (h3:b3 < 256):IntKind.u32.wrap (BitVec.ofInt 32 (IntKind.u32.wrap (BitVec.ofInt 32 (IntKind.u32.wrap (BitVec.ofInt 32 (IntKind.u32.wrap (((b3:Nat):Int))) ||| BitVec.ofInt 32 (IntKind.u32.wrap (IntKind.u32.wrap (((b2:Nat):Int)) * 256))).toNat) ||| BitVec.ofInt 32 (IntKind.u32.wrap (IntKind.u32.wrap (((b1:Nat):Int)) * 65536))).toNat) ||| BitVec.ofInt 32 (IntKind.u32.wrap (IntKind.u32.wrap (((b0:Nat):Int)) * 16777216))).toNat = ((b0:Nat):Int) * 16777216 + ((b1:Nat):Int) * 65536 + ((b2:Nat):Int) * 256 + ((b3:Nat):Int):=by
 have e1:IntKind.u32.wrap (BitVec.ofInt 32 (IntKind.u32.wrap (((b3:Nat):Int))) ||| BitVec.ofInt 32 (IntKind.u32.wrap (IntKind.u32.wrap (((b2:Nat):Int)) * 256))).toNat = ((b3:Nat):Int) + ((b2:Nat):Int) * 256:=by
  rw [M2 8 _ _ (by first | omega | (simp only [E3]; omega)) (by first | omega | (simp only [E3]; omega)) (by first | omega | (simp only [E3]; omega)) (by first | omega | (simp only [E3]; omega)) (by first | omega | (simp only [E3]; omega)) (by first | omega | (simp only [E3]; omega))]; first | omega | (simp only [E3]; omega)
 have e2:IntKind.u32.wrap (BitVec.ofInt 32 (((b3:Nat):Int) + ((b2:Nat):Int) * 256) ||| BitVec.ofInt 32 (IntKind.u32.wrap (IntKind.u32.wrap (((b1:Nat):Int)) * 65536))).toNat = ((b3:Nat):Int) + ((b2:Nat):Int) * 256 + ((b1:Nat):Int) * 65536:=by
  rw [M2 16 _ _ (by first | omega | (simp only [E3]; omega)) (by first | omega | (simp only [E3]; omega)) (by first | omega | (simp only [E3]; omega)) (by first | omega | (simp only [E3]; omega)) (by first | omega | (simp only [E3]; omega)) (by first | omega | (simp only [E3]; omega))]; first | omega | (simp only [E3]; omega)
 have e3:IntKind.u32.wrap (BitVec.ofInt 32 (((b3:Nat):Int) + ((b2:Nat):Int) * 256 + ((b1:Nat):Int) * 65536) ||| BitVec.ofInt 32 (IntKind.u32.wrap (IntKind.u32.wrap (((b0:Nat):Int)) * 16777216))).toNat = ((b3:Nat):Int) + ((b2:Nat):Int) * 256 + ((b1:Nat):Int) * 65536 + ((b0:Nat):Int) * 16777216:=by
  rw [M2 24 _ _ (by first | omega | (simp only [E3]; omega)) (by first | omega | (simp only [E3]; omega)) (by first | omega | (simp only [E3]; omega)) (by first | omega | (simp only [E3]; omega)) (by first | omega | (simp only [E3]; omega)) (by first | omega | (simp only [E3]; omega))]; first | omega | (simp only [E3]; omega)
 rw [e1,e2,e3]
 omega
theorem MD (b0 b1 b2 b3 b4 b5 b6 b7:Nat) (h0:b0 < 256) (h1:b1 < 256) (h2:b2 < 256) (h3:b3 < 256) (h4:b4 < 256) (h5:b5 < 256) (h6:b6 < 256) (h7:b7 < 256):IntKind.u64.wrap (BitVec.ofInt 64 (IntKind.u64.wrap (BitVec.ofInt 64 (IntKind.u64.wrap (BitVec.ofInt 64 (IntKind.u64.wrap (BitVec.ofInt 64 (IntKind.u64.wrap (BitVec.ofInt 64 (IntKind.u64.wrap (BitVec.ofInt 64 (IntKind.u64.wrap (BitVec.ofInt 64 (IntKind.u64.wrap (((b7:Nat):Int))) ||| BitVec.ofInt 64 (IntKind.u64.wrap (IntKind.u64.wrap (((b6:Nat):Int)) * 256))).toNat) ||| BitVec.ofInt 64 (IntKind.u64.wrap (IntKind.u64.wrap (((b5:Nat):Int)) * 65536))).toNat) ||| BitVec.ofInt 64 (IntKind.u64.wrap (IntKind.u64.wrap (((b4:Nat):Int)) * 16777216))).toNat) ||| BitVec.ofInt 64 (IntKind.u64.wrap (IntKind.u64.wrap (((b3:Nat):Int)) * 4294967296))).toNat) ||| BitVec.ofInt 64 (IntKind.u64.wrap (IntKind.u64.wrap (((b2:Nat):Int)) * 1099511627776))).toNat) ||| BitVec.ofInt 64 (IntKind.u64.wrap (IntKind.u64.wrap (((b1:Nat):Int)) * 281474976710656))).toNat) ||| BitVec.ofInt 64 (IntKind.u64.wrap (IntKind.u64.wrap (((b0:Nat):Int)) * 72057594037927936))).toNat = ((b0:Nat):Int) * 72057594037927936 + ((b1:Nat):Int) * 281474976710656 + ((b2:Nat):Int) * 1099511627776 + ((b3:Nat):Int) * 4294967296 + ((b4:Nat):Int) * 16777216 + ((b5:Nat):Int) * 65536 + ((b6:Nat):Int) * 256 + ((b7:Nat):Int):=by
 have e1:IntKind.u64.wrap (BitVec.ofInt 64 (IntKind.u64.wrap (((b7:Nat):Int))) ||| BitVec.ofInt 64 (IntKind.u64.wrap (IntKind.u64.wrap (((b6:Nat):Int)) * 256))).toNat = ((b7:Nat):Int) + ((b6:Nat):Int) * 256:=by
  rw [R0 8 _ _ (by first | omega | (simp only [G3]; omega)) (by first | omega | (simp only [G3]; omega)) (by first | omega | (simp only [G3]; omega)) (by first | omega | (simp only [G3]; omega)) (by first | omega | (simp only [G3]; omega)) (by first | omega | (simp only [G3]; omega))]; first | omega | (simp only [G3]; omega)
 have e2:IntKind.u64.wrap (BitVec.ofInt 64 (((b7:Nat):Int) + ((b6:Nat):Int) * 256) ||| BitVec.ofInt 64 (IntKind.u64.wrap (IntKind.u64.wrap (((b5:Nat):Int)) * 65536))).toNat = ((b7:Nat):Int) + ((b6:Nat):Int) * 256 + ((b5:Nat):Int) * 65536:=by
  rw [R0 16 _ _ (by first | omega | (simp only [G3]; omega)) (by first | omega | (simp only [G3]; omega)) (by first | omega | (simp only [G3]; omega)) (by first | omega | (simp only [G3]; omega)) (by first | omega | (simp only [G3]; omega)) (by first | omega | (simp only [G3]; omega))]; first | omega | (simp only [G3]; omega)
 have e3:IntKind.u64.wrap (BitVec.ofInt 64 (((b7:Nat):Int) + ((b6:Nat):Int) * 256 + ((b5:Nat):Int) * 65536) ||| BitVec.ofInt 64 (IntKind.u64.wrap (IntKind.u64.wrap (((b4:Nat):Int)) * 16777216))).toNat = ((b7:Nat):Int) + ((b6:Nat):Int) * 256 + ((b5:Nat):Int) * 65536 + ((b4:Nat):Int) * 16777216:=by
  rw [R0 24 _ _ (by first | omega | (simp only [G3]; omega)) (by first | omega | (simp only [G3]; omega)) (by first | omega | (simp only [G3]; omega)) (by first | omega | (simp only [G3]; omega)) (by first | omega | (simp only [G3]; omega)) (by first | omega | (simp only [G3]; omega))]; first | omega | (simp only [G3]; omega)
 have e4:IntKind.u64.wrap (BitVec.ofInt 64 (((b7:Nat):Int) + ((b6:Nat):Int) * 256 + ((b5:Nat):Int) * 65536 + ((b4:Nat):Int) * 16777216) ||| BitVec.ofInt 64 (IntKind.u64.wrap (IntKind.u64.wrap (((b3:Nat):Int)) * 4294967296))).toNat = ((b7:Nat):Int) + ((b6:Nat):Int) * 256 + ((b5:Nat):Int) * 65536 + ((b4:Nat):Int) * 16777216 + ((b3:Nat):Int) * 4294967296:=by
  rw [R0 32 _ _ (by first | omega | (simp only [G3]; omega)) (by first | omega | (simp only [G3]; omega)) (by first | omega | (simp only [G3]; omega)) (by first | omega | (simp only [G3]; omega)) (by first | omega | (simp only [G3]; omega)) (by first | omega | (simp only [G3]; omega))]; first | omega | (simp only [G3]; omega)
 have e5:IntKind.u64.wrap (BitVec.ofInt 64 (((b7:Nat):Int) + ((b6:Nat):Int) * 256 + ((b5:Nat):Int) * 65536 + ((b4:Nat):Int) * 16777216 + ((b3:Nat):Int) * 4294967296) ||| BitVec.ofInt 64 (IntKind.u64.wrap (IntKind.u64.wrap (((b2:Nat):Int)) * 1099511627776))).toNat = ((b7:Nat):Int) + ((b6:Nat):Int) * 256 + ((b5:Nat):Int) * 65536 + ((b4:Nat):Int) * 16777216 + ((b3:Nat):Int) * 4294967296 + ((b2:Nat):Int) * 1099511627776:=by
  rw [R0 40 _ _ (by first | omega | (simp only [G3]; omega)) (by first | omega | (simp only [G3]; omega)) (by first | omega | (simp only [G3]; omega)) (by first | omega | (simp only [G3]; omega)) (by first | omega | (simp only [G3]; omega)) (by first | omega | (simp only [G3]; omega))]; first | omega | (simp only [G3]; omega)
 have e6:IntKind.u64.wrap (BitVec.ofInt 64 (((b7:Nat):Int) + ((b6:Nat):Int) * 256 + ((b5:Nat):Int) * 65536 + ((b4:Nat):Int) * 16777216 + ((b3:Nat):Int) * 4294967296 + ((b2:Nat):Int) * 1099511627776) ||| BitVec.ofInt 64 (IntKind.u64.wrap (IntKind.u64.wrap (((b1:Nat):Int)) * 281474976710656))).toNat = ((b7:Nat):Int) + ((b6:Nat):Int) * 256 + ((b5:Nat):Int) * 65536 + ((b4:Nat):Int) * 16777216 + ((b3:Nat):Int) * 4294967296 + ((b2:Nat):Int) * 1099511627776 + ((b1:Nat):Int) * 281474976710656:=by
  rw [R0 48 _ _ (by first | omega | (simp only [G3]; omega)) (by first | omega | (simp only [G3]; omega)) (by first | omega | (simp only [G3]; omega)) (by first | omega | (simp only [G3]; omega)) (by first | omega | (simp only [G3]; omega)) (by first | omega | (simp only [G3]; omega))]; first | omega | (simp only [G3]; omega)
 have e7:IntKind.u64.wrap (BitVec.ofInt 64 (((b7:Nat):Int) + ((b6:Nat):Int) * 256 + ((b5:Nat):Int) * 65536 + ((b4:Nat):Int) * 16777216 + ((b3:Nat):Int) * 4294967296 + ((b2:Nat):Int) * 1099511627776 + ((b1:Nat):Int) * 281474976710656) ||| BitVec.ofInt 64 (IntKind.u64.wrap (IntKind.u64.wrap (((b0:Nat):Int)) * 72057594037927936))).toNat = ((b7:Nat):Int) + ((b6:Nat):Int) * 256 + ((b5:Nat):Int) * 65536 + ((b4:Nat):Int) * 16777216 + ((b3:Nat):Int) * 4294967296 + ((b2:Nat):Int) * 1099511627776 + ((b1:Nat):Int) * 281474976710656 + ((b0:Nat):Int) * 72057594037927936:=by
  rw [R0 56 _ _ (by first | omega | (simp only [G3]; omega)) (by first | omega | (simp only [G3]; omega)) (by first | omega | (simp only [G3]; omega)) (by first | omega | (simp only [G3]; omega)) (by first | omega | (simp only [G3]; omega)) (by first | omega | (simp only [G3]; omega))]; first | omega | (simp only [G3]; omega)
 rw [e1,e2,e3,e4,e5,e6,e7]
 omega
theorem GD (b0:Nat) (h0:b0 < 256):IntKind.u32.wrap (IntKind.u8.wrap (BitVec.ofInt 8 ((b0:Nat):Int) &&& BitVec.ofInt 8 127).toNat) = ((b0 % 128:Nat):Int):=by
 rw [R8 b0 h0,E3]; omega
theorem GE (b0 b1:Nat) (h0:b0 < 256) (h1:b1 < 256):IntKind.u32.wrap (BitVec.ofInt 32 (IntKind.u32.wrap (IntKind.u8.wrap (BitVec.ofInt 8 ((b0:Nat):Int) &&& BitVec.ofInt 8 127).toNat)) ||| BitVec.ofInt 32 (IntKind.u32.wrap (IntKind.u32.wrap (IntKind.u8.wrap (BitVec.ofInt 8 ((b1:Nat):Int) &&& BitVec.ofInt 8 127).toNat) * 128))).toNat = ((b0 % 128:Nat):Int) + ((b1 % 128:Nat):Int) * 128:=by
 have e1:IntKind.u32.wrap (BitVec.ofInt 32 (IntKind.u32.wrap (IntKind.u8.wrap (BitVec.ofInt 8 ((b0:Nat):Int) &&& BitVec.ofInt 8 127).toNat)) ||| BitVec.ofInt 32 (IntKind.u32.wrap (IntKind.u32.wrap (IntKind.u8.wrap (BitVec.ofInt 8 ((b1:Nat):Int) &&& BitVec.ofInt 8 127).toNat) * 128))).toNat = ((b0 % 128:Nat):Int) + ((b1 % 128:Nat):Int) * 128:=by
  rw [R8 b1 h1,R8 b0 h0]; rw [M2 7 _ _ (by first | omega | (simp only [E3]; omega)) (by first | omega | (simp only [E3]; omega)) (by first | omega | (simp only [E3]; omega)) (by first | omega | (simp only [E3]; omega)) (by first | omega | (simp only [E3]; omega)) (by first | omega | (simp only [E3]; omega))]; first | omega | (simp only [E3]; omega)
 rw [e1]
theorem GF (b0 b1 b2:Nat) (h0:b0 < 256) (h1:b1 < 256) (h2:b2 < 256):IntKind.u32.wrap (BitVec.ofInt 32 (IntKind.u32.wrap (BitVec.ofInt 32 (IntKind.u32.wrap (IntKind.u8.wrap (BitVec.ofInt 8 ((b0:Nat):Int) &&& BitVec.ofInt 8 127).toNat)) ||| BitVec.ofInt 32 (IntKind.u32.wrap (IntKind.u32.wrap (IntKind.u8.wrap (BitVec.ofInt 8 ((b1:Nat):Int) &&& BitVec.ofInt 8 127).toNat) * 128))).toNat) ||| BitVec.ofInt 32 (IntKind.u32.wrap (IntKind.u32.wrap (IntKind.u8.wrap (BitVec.ofInt 8 ((b2:Nat):Int) &&& BitVec.ofInt 8 127).toNat) * 16384))).toNat = ((b0 % 128:Nat):Int) + ((b1 % 128:Nat):Int) * 128 + ((b2 % 128:Nat):Int) * 16384:=by
 have e1:IntKind.u32.wrap (BitVec.ofInt 32 (IntKind.u32.wrap (IntKind.u8.wrap (BitVec.ofInt 8 ((b0:Nat):Int) &&& BitVec.ofInt 8 127).toNat)) ||| BitVec.ofInt 32 (IntKind.u32.wrap (IntKind.u32.wrap (IntKind.u8.wrap (BitVec.ofInt 8 ((b1:Nat):Int) &&& BitVec.ofInt 8 127).toNat) * 128))).toNat = ((b0 % 128:Nat):Int) + ((b1 % 128:Nat):Int) * 128:=by
  rw [R8 b1 h1,R8 b0 h0]; rw [M2 7 _ _ (by first | omega | (simp only [E3]; omega)) (by first | omega | (simp only [E3]; omega)) (by first | omega | (simp only [E3]; omega)) (by first | omega | (simp only [E3]; omega)) (by first | omega | (simp only [E3]; omega)) (by first | omega | (simp only [E3]; omega))]; first | omega | (simp only [E3]; omega)
 have e2:IntKind.u32.wrap (BitVec.ofInt 32 (((b0 % 128:Nat):Int) + ((b1 % 128:Nat):Int) * 128) ||| BitVec.ofInt 32 (IntKind.u32.wrap (IntKind.u32.wrap (IntKind.u8.wrap (BitVec.ofInt 8 ((b2:Nat):Int) &&& BitVec.ofInt 8 127).toNat) * 16384))).toNat = ((b0 % 128:Nat):Int) + ((b1 % 128:Nat):Int) * 128 + ((b2 % 128:Nat):Int) * 16384:=by
  rw [R8 b2 h2]; rw [M2 14 _ _ (by first | omega | (simp only [E3]; omega)) (by first | omega | (simp only [E3]; omega)) (by first | omega | (simp only [E3]; omega)) (by first | omega | (simp only [E3]; omega)) (by first | omega | (simp only [E3]; omega)) (by first | omega | (simp only [E3]; omega))]; first | omega | (simp only [E3]; omega)
 rw [e1,e2]
theorem GG (b0 b1 b2 b3:Nat) (h0:b0 < 256) (h1:b1 < 256) (h2:b2 < 256) (h3:b3 < 256):IntKind.u32.wrap (BitVec.ofInt 32 (IntKind.u32.wrap (BitVec.ofInt 32 (IntKind.u32.wrap (BitVec.ofInt 32 (IntKind.u32.wrap (IntKind.u8.wrap (BitVec.ofInt 8 ((b0:Nat):Int) &&& BitVec.ofInt 8 127).toNat)) ||| BitVec.ofInt 32 (IntKind.u32.wrap (IntKind.u32.wrap (IntKind.u8.wrap (BitVec.ofInt 8 ((b1:Nat):Int) &&& BitVec.ofInt 8 127).toNat) * 128))).toNat) ||| BitVec.ofInt 32 (IntKind.u32.wrap (IntKind.u32.wrap (IntKind.u8.wrap (BitVec.ofInt 8 ((b2:Nat):Int) &&& BitVec.ofInt 8 127).toNat) * 16384))).toNat) ||| BitVec.ofInt 32 (IntKind.u32.wrap (IntKind.u32.wrap (IntKind.u8.wrap (BitVec.ofInt 8 ((b3:Nat):Int) &&& BitVec.ofInt 8 127).toNat) * 2097152))).toNat = ((b0 % 128:Nat):Int) + ((b1 % 128:Nat):Int) * 128 + ((b2 % 128:Nat):Int) * 16384 + ((b3 % 128:Nat):Int) * 2097152:=by
 have e1:IntKind.u32.wrap (BitVec.ofInt 32 (IntKind.u32.wrap (IntKind.u8.wrap (BitVec.ofInt 8 ((b0:Nat):Int) &&& BitVec.ofInt 8 127).toNat)) ||| BitVec.ofInt 32 (IntKind.u32.wrap (IntKind.u32.wrap (IntKind.u8.wrap (BitVec.ofInt 8 ((b1:Nat):Int) &&& BitVec.ofInt 8 127).toNat) * 128))).toNat = ((b0 % 128:Nat):Int) + ((b1 % 128:Nat):Int) * 128:=by
  rw [R8 b1 h1,R8 b0 h0]; rw [M2 7 _ _ (by first | omega | (simp only [E3]; omega)) (by first | omega | (simp only [E3]; omega)) (by first | omega | (simp only [E3]; omega)) (by first | omega | (simp only [E3]; omega)) (by first | omega | (simp only [E3]; omega)) (by first | omega | (simp only [E3]; omega))]; first | omega | (simp only [E3]; omega)
 have e2:IntKind.u32.wrap (BitVec.ofInt 32 (((b0 % 128:Nat):Int) + ((b1 % 128:Nat):Int) * 128) ||| BitVec.ofInt 32 (IntKind.u32.wrap (IntKind.u32.wrap (IntKind.u8.wrap (BitVec.ofInt 8 ((b2:Nat):Int) &&& BitVec.ofInt 8 127).toNat) * 16384))).toNat = ((b0 % 128:Nat):Int) + ((b1 % 128:Nat):Int) * 128 + ((b2 % 128:Nat):Int) * 16384:=by
  rw [R8 b2 h2]; rw [M2 14 _ _ (by first | omega | (simp only [E3]; omega)) (by first | omega | (simp only [E3]; omega)) (by first | omega | (simp only [E3]; omega)) (by first | omega | (simp only [E3]; omega)) (by first | omega | (simp only [E3]; omega)) (by first | omega | (simp only [E3]; omega))]; first | omega | (simp only [E3]; omega)
 have e3:IntKind.u32.wrap (BitVec.ofInt 32 (((b0 % 128:Nat):Int) + ((b1 % 128:Nat):Int) * 128 + ((b2 % 128:Nat):Int) * 16384) ||| BitVec.ofInt 32 (IntKind.u32.wrap (IntKind.u32.wrap (IntKind.u8.wrap (BitVec.ofInt 8 ((b3:Nat):Int) &&& BitVec.ofInt 8 127).toNat) * 2097152))).toNat = ((b0 % 128:Nat):Int) + ((b1 % 128:Nat):Int) * 128 + ((b2 % 128:Nat):Int) * 16384 + ((b3 % 128:Nat):Int) * 2097152:=by
  rw [R8 b3 h3]; rw [M2 21 _ _ (by first | omega | (simp only [E3]; omega)) (by first | omega | (simp only [E3]; omega)) (by first | omega | (simp only [E3]; omega)) (by first | omega | (simp only [E3]; omega)) (by first | omega | (simp only [E3]; omega)) (by first | omega | (simp only [E3]; omega))]; first | omega | (simp only [E3]; omega)
 rw [e1,e2,e3]
theorem GH (b0 b1 b2 b3 b4:Nat) (h0:b0 < 256) (h1:b1 < 256) (h2:b2 < 256) (h3:b3 < 256) (h4:b4 < 16):IntKind.u32.wrap (BitVec.ofInt 32 (IntKind.u32.wrap (BitVec.ofInt 32 (IntKind.u32.wrap (BitVec.ofInt 32 (IntKind.u32.wrap (BitVec.ofInt 32 (IntKind.u32.wrap (IntKind.u8.wrap (BitVec.ofInt 8 ((b0:Nat):Int) &&& BitVec.ofInt 8 127).toNat)) ||| BitVec.ofInt 32 (IntKind.u32.wrap (IntKind.u32.wrap (IntKind.u8.wrap (BitVec.ofInt 8 ((b1:Nat):Int) &&& BitVec.ofInt 8 127).toNat) * 128))).toNat) ||| BitVec.ofInt 32 (IntKind.u32.wrap (IntKind.u32.wrap (IntKind.u8.wrap (BitVec.ofInt 8 ((b2:Nat):Int) &&& BitVec.ofInt 8 127).toNat) * 16384))).toNat) ||| BitVec.ofInt 32 (IntKind.u32.wrap (IntKind.u32.wrap (IntKind.u8.wrap (BitVec.ofInt 8 ((b3:Nat):Int) &&& BitVec.ofInt 8 127).toNat) * 2097152))).toNat) ||| BitVec.ofInt 32 (IntKind.u32.wrap (IntKind.u32.wrap (((b4:Nat):Int)) * 268435456))).toNat = ((b0 % 128:Nat):Int) + ((b1 % 128:Nat):Int) * 128 + ((b2 % 128:Nat):Int) * 16384 + ((b3 % 128:Nat):Int) * 2097152 + ((b4:Nat):Int) * 268435456:=by
 have e1:IntKind.u32.wrap (BitVec.ofInt 32 (IntKind.u32.wrap (IntKind.u8.wrap (BitVec.ofInt 8 ((b0:Nat):Int) &&& BitVec.ofInt 8 127).toNat)) ||| BitVec.ofInt 32 (IntKind.u32.wrap (IntKind.u32.wrap (IntKind.u8.wrap (BitVec.ofInt 8 ((b1:Nat):Int) &&& BitVec.ofInt 8 127).toNat) * 128))).toNat = ((b0 % 128:Nat):Int) + ((b1 % 128:Nat):Int) * 128:=by
  rw [R8 b1 h1,R8 b0 h0]; rw [M2 7 _ _ (by first | omega | (simp only [E3]; omega)) (by first | omega | (simp only [E3]; omega)) (by first | omega | (simp only [E3]; omega)) (by first | omega | (simp only [E3]; omega)) (by first | omega | (simp only [E3]; omega)) (by first | omega | (simp only [E3]; omega))]; first | omega | (simp only [E3]; omega)
 have e2:IntKind.u32.wrap (BitVec.ofInt 32 (((b0 % 128:Nat):Int) + ((b1 % 128:Nat):Int) * 128) ||| BitVec.ofInt 32 (IntKind.u32.wrap (IntKind.u32.wrap (IntKind.u8.wrap (BitVec.ofInt 8 ((b2:Nat):Int) &&& BitVec.ofInt 8 127).toNat) * 16384))).toNat = ((b0 % 128:Nat):Int) + ((b1 % 128:Nat):Int) * 128 + ((b2 % 128:Nat):Int) * 16384:=by
  rw [R8 b2 h2]; rw [M2 14 _ _ (by first | omega | (simp only [E3]; omega)) (by first | omega | (simp only [E3]; omega)) (by first | omega | (simp only [E3]; omega)) (by first | omega | (simp only [E3]; omega)) (by first | omega | (simp only [E3]; omega)) (by first | omega | (simp only [E3]; omega))]; first | omega | (simp only [E3]; omega)
 have e3:IntKind.u32.wrap (BitVec.ofInt 32 (((b0 % 128:Nat):Int) + ((b1 % 128:Nat):Int) * 128 + ((b2 % 128:Nat):Int) * 16384) ||| BitVec.ofInt 32 (IntKind.u32.wrap (IntKind.u32.wrap (IntKind.u8.wrap (BitVec.ofInt 8 ((b3:Nat):Int) &&& BitVec.ofInt 8 127).toNat) * 2097152))).toNat = ((b0 % 128:Nat):Int) + ((b1 % 128:Nat):Int) * 128 + ((b2 % 128:Nat):Int) * 16384 + ((b3 % 128:Nat):Int) * 2097152:=by
  rw [R8 b3 h3]; rw [M2 21 _ _ (by first | omega | (simp only [E3]; omega)) (by first | omega | (simp only [E3]; omega)) (by first | omega | (simp only [E3]; omega)) (by first | omega | (simp only [E3]; omega)) (by first | omega | (simp only [E3]; omega)) (by first | omega | (simp only [E3]; omega))]; first | omega | (simp only [E3]; omega)
 have e4:IntKind.u32.wrap (BitVec.ofInt 32 (((b0 % 128:Nat):Int) + ((b1 % 128:Nat):Int) * 128 + ((b2 % 128:Nat):Int) * 16384 + ((b3 % 128:Nat):Int) * 2097152) ||| BitVec.ofInt 32 (IntKind.u32.wrap (IntKind.u32.wrap (((b4:Nat):Int)) * 268435456))).toNat = ((b0 % 128:Nat):Int) + ((b1 % 128:Nat):Int) * 128 + ((b2 % 128:Nat):Int) * 16384 + ((b3 % 128:Nat):Int) * 2097152 + ((b4:Nat):Int) * 268435456:=by
  rw [M2 28 _ _ (by first | omega | (simp only [E3]; omega)) (by first | omega | (simp only [E3]; omega)) (by first | omega | (simp only [E3]; omega)) (by first | omega | (simp only [E3]; omega)) (by first | omega | (simp only [E3]; omega)) (by first | omega | (simp only [E3]; omega))]; first | omega | (simp only [E3]; omega)
 rw [e1,e2,e3,e4]
theorem CC {G:Nat → Nat → Prop} {w0 w:World} {tb:Tb} {rs:List Rw} {p n:Nat} {cs:List Value} (i:Nat) (hi:tb[i]? = some ⟨p,0,cs,true⟩) (hn:cs.length = n:=by rfl):∀ b o,E9 G w0 w tb rs b o → ¬ (b = p ∧ o < n):=by
 subst hn
 exact Jl i hi
theorem R2 {G:Nat → Nat → Prop} {w0 w:World} {tb:Tb} {rs:List Rw} {p:Nat} {x y:Value} (i:Nat) (hi:tb[i]? = some ⟨p,0,[x,y],true⟩):∀ b o,E9 G w0 w tb rs b o → ¬ H1 p b o:=Jl i hi
theorem WOk.immM {G:Nat → Nat → Prop} {w0 w:World} {M:Nat → Nat → Prop} {tb:Tb} {rs:List Rw} (h:WOk w0 M w tb rs) (hd:∀ b o,G b o → ¬ M b o):∀ b o,G b o → b < w0.heap.size → E9 G w0 w tb rs b o:=by
 refine fun b o hg hb=>⟨.inl hg,Nat.lt_of_lt_of_le hb h.step.size,fun ha=>hd b o hg ?_⟩
 rcases ha with ⟨i,ob,hi,hr,rfl,h1,h2⟩ | ⟨i,r,hi,hr⟩
 ·have:=(h.rw_ i ob hi hr (o - ob.off) (by omega)).1
  rw [show ob.off + (o - ob.off) = o by omega] at this
  rcases this with h3 | h3
  ·omega
  exact h3
 rcases h.ownM i r hi b hr with h3 | h3
 ·omega
 exact h3 o
section
variable {w0 w:World} {M:Nat → Nat → Prop} {tb:Tb} {rs:List Rw}
theorem WOk.layRowM {g c e size n k:Nat} {xs:List Value} (hW:WOk w0 M w tb rs) (hk:rs[k]? = some ⟨some ⟨g,0,none⟩,c,e,size,n,xs⟩) (hl:k + 1 = rs.length) (hm:w0.heap.size ≤ g) (rs':List Rw) (tb':Tb) (hr:rs.take k = rs':=by rfl) (ht:tb ++ [⟨g,0,xs,true⟩] = tb':=by rfl):WOk w0 M w tb' rs' ∧ Fr w tb rs w tb' rs':=by
 subst hr ht
 have ho:=hW.own k _ hk
 have hlive:=Q2 ho (g:=g) rfl
 have hfz:∀ j,w.frozen? ⟨g,j,none⟩ = false:=fun j=>by
  rcases ho.2 with ⟨hv,_⟩ | ⟨g',cap,cur,hv,_,hg,_⟩
  ·cases hv
  simp only [Rw.v,Value.slice.injEq,Option.some.injEq,Addr.mk.injEq,and_true] at hv
  obtain ⟨rfl,_⟩:=hv
  unfold World.frozen?
  rw [hg]
  simp
 have hlt:∀ (j:Nat) (r:Rw),(rs.take k)[j]? = some r → j ≠ k ∧ rs[j]? = some r:=fun j r hj=>by
  rw [List.getElem?_take] at hj
  split at hj
  ·exact ⟨by omega,hj⟩
  cases hj
 refine ⟨(hW.rows k).add ⟨g,0,xs,true⟩ hlive (fun j v hj=>?_) (fun _ j _=>⟨.inl hm,by dsimp only; rw [Nat.zero_add]; exact hfz j⟩) (fun i q hi _=>.inl (hW.rtb k _ hk g rfl i q hi)) (fun i r hi he=>?_),⟨fun x y _ hn ha=>hn ?_,Step.refl _ _⟩⟩
 ·have:=ho.cells (g:=g) rfl j v hj
  rw [P2] at this
  dsimp only
  exact this
 ·obtain ⟨h1,h2⟩:=hlt i r hi
  exact hW.rr k i _ r (fun e=>h1 e.symm) hk h2 g rfl he
 rcases ha with ⟨j,q,hj,h1,h2,h3,h4⟩ | ⟨j,r,hj,h1⟩
 ·by_cases hjt:j < tb.length
  ·rw [List.getElem?_append_left hjt] at hj
   exact .inl ⟨j,q,hj,h1,h2,h3,h4⟩
  rw [List.getElem?_append_right (Nat.not_lt.1 hjt)] at hj
  have hq:q = ⟨g,0,xs,true⟩:=by
   rcases Nat.eq_zero_or_pos (j - tb.length) with h | h
   ·rw [h] at hj; exact (Option.some.inj hj).symm
   rw [List.getElem?_eq_none (by simp only [List.length_cons,List.length_nil]; omega)] at hj; cases hj
  subst hq
  exact .inr ⟨k,_,hk,by rw [← h2]; rfl⟩
 exact .inr ⟨j,r,(hlt j r hj).2,h1⟩
def O2 (z:Value) (j:Nat):List Value:=(Builtin.zeroCells z.cells j).toList
variable {P:Program} {ops:Array Oper} {Q:Exit → Act → World → Prop} {n:Nat} {env:C6} {a:Act}
theorem MF {w:World} (size len cap:Nat) (A:Option Addr):(Builtin.firstCells size 0 (.slice A len cap)).run P w = .ok #[] w:=by
 cases A with
 | none=>exact run_firstCells_none w size 0 len cap
 | some b=>exact run_firstCells_some w size 0 b len cap [] (by simp) (fun j v h=>by simp at h)
theorem MG (w:World) (t tn ty e:TypeId) (A0:Option Addr) (i:TypeInfo) (z:Value) (k kn:IntKind) (ht:P.underlying t = some (.slice e)) (htn:P.underlying tn = some (.int kn)) (hi:P.info? e = some i) (hz:i.zero = some z)
  (n:Nat) (h0:0 < n) (hs:0 < i.size) (h63:(n:Int) ≤ 9223372036854775807) (h48:n * i.bytes ≤ 281474976710656) :
  (Builtin.append_ #[t,tn] ty #[.slice A0 0 0,.int k n]).run P w =
   .ok (.slice (some ⟨w.heap.size,0,none⟩) n (grownCap w n 0 e)) (w.drew.alloc (.cells (Builtin.zeroCells z.cells n ++ Builtin.zeroCells z.cells (grownCap w n 0 e - n)) e)):=by
 cases A0 with
 | none=>exact Lib.run_append_nil_zeros w t tn ty e i z k kn ht htn hi hz n h0 hs h63 h48
 | some b =>
  have hn:n ≠ 0:=by omega
  have hw:IntKind.i64.wrap (n:Int) = n:=by rw [IntKind.wrap_i64]; omega
  have h63':¬ (9223372036854775807 < (n:Int)):=by omega
  have h48':¬ (281474976710656 < Builtin.nextslicecap n 0 * i.bytes):=by rw [nextslicecap_zero h0]; omega
  have h48i:¬ (281474976710656 < (n:Int) * (i.bytes:Int)):=by
   rw [← Int.natCast_mul]
   omega
  have hneg:¬ ((n:Int) < 0):=by omega
  have hns:¬ (n * i.size = 0):=Nat.mul_ne_zero hn (by omega)
  simp [Builtin.append_,run_underlying ht,run_underlying htn,sizeOf,typeInfo,zeroValue,hi,hz,asInt,asIntOf,hw,hn,hneg,hns,h63',h48',h48i,Question.forced,MF,newRow,grownCap]
theorem MH {i d j:Nat} {A0:Option Addr} {t tn e:TypeId} {size bytes:Nat} {k kn:IntKind} {q:Int} {z:Value} {N:Act → World → Prop} (hW:WOk w0 M w tb rs) (hE:EnvOk n tb env a)
  (h:S0 tb env ops n i = some (t,tn,.slice A0 0 0,.int k q,d)) (ht:M6 P t = some (e,size,bytes)) (htn:P.underlying tn = some (.int kn)) (hz:(P.info? e).bind (·.zero) = some z)
  (hq:q = (j:Int)) (hj:0 < j) (hb:j * bytes ≤ 140737488355328)
  (K:∀ b c a' w',b = w.heap.size → w0.heap.size ≤ b → Fr w tb rs w' tb (rs ++ [⟨some ⟨b,0,none⟩,c,e,size,j,O2 z j⟩]) → WOk w0 M w' tb (rs ++ [⟨some ⟨b,0,none⟩,c,e,size,j,O2 z j⟩]) →
   EnvOk n tb ((d,.v (.slice (some ⟨b,0,none⟩) j c)) :: env) a' → N a' w'):wpOp P ops Q i N a w:=by
 subst hq
 obtain ⟨ht',inf,z',hi,hz',hzs,hs1,rfl,hsz,hbp⟩:=S7 ht
 have hzz:z' = z:=by rw [hi] at hz; simpa [hz'] using hz
 subst hzz
 obtain ⟨op,ho,hd,hrun⟩:=Hs (P:=P) (w:=w) hE h
 obtain ⟨o,h1,h2,h3,h4,h5⟩:=K8 hE ho
 have hjm:j ≤ maxLen:=by
  have:=Nat.le_mul_of_pos_right j hbp
  simp only [maxLen]; omega
 have hr:=MG (P:=P) w t tn o.type e A0 inf z' k kn ht' htn hi hz' j hj (by omega) (by simp only [maxLen] at hjm; omega) (by omega)
 have hge:=grownCap_ge w j 0 e
 have hcm:=grownCap_le_maxLen w j 0 e hjm
 have hst:Step w (w.drew.alloc (.cells (Builtin.zeroCells z'.cells j ++ Builtin.zeroCells z'.cells (grownCap w j 0 e - j)) e)) C1:=(Step.drew w).trans (Step.alloc _ _) fun _ _ _ h=>h
 have hown:(w.drew.alloc (.cells (Builtin.zeroCells z'.cells j ++ Builtin.zeroCells z'.cells (grownCap w j 0 e - j)) e)).ownsRow w.heap.size e size (.slice (some ⟨w.heap.size,0,none⟩) j (grownCap w j 0 e)) j (O2 z' j):=by
  refine ⟨by unfold O2; rw [Array.length_toList,size_zeroCells,hzs,hs1],.inr ⟨w.heap.size,grownCap w j 0 e,_,rfl,Nat.le_refl _,X8 w.drew _,hge,hcm,?_,?_⟩⟩
  ·rw [Array.size_append,size_zeroCells,size_zeroCells,hzs,hs1,← Nat.add_mul]
   congr 1
   omega
  unfold O2
  rw [Array.toList_append]
  exact List.take_left' (by rw [Array.length_toList,size_zeroCells,hzs,hs1])
 simp only [wpOp,h1]
 have:Region.wanted o (yielded ops a.tmps) = true:=by first | exact h2 | simp [Region.wanted,h2]
 rw [this]
 simp only [if_true]
 refine .inl ?_
 unfold Oper.wp
 rw [hrun o _ _ h5 hr,Oper.upon,h3]
 exact K w.heap.size _ _ _ rfl hW.step.size (Fr.fresh tb rs hst ⟨some ⟨w.heap.size,0,none⟩,grownCap w j 0 e,e,size,j,O2 z' j⟩ (Nat.le_refl _) hown) (hW.fresh hst ⟨some ⟨w.heap.size,0,none⟩,grownCap w j 0 e,e,size,j,O2 z' j⟩ (Nat.le_refl _) hown) (hE.put hd (.v _) trivial)
theorem MI (z:Value) (j:Nat):O2 z (j + 1) = z.cells.toList ++ O2 z j:=by
 refine List.ext_getElem? fun i=>?_
 unfold O2 Builtin.zeroCells
 rw [List.getElem?_append]
 simp only [Array.toList_map,Array.toList_range,List.getElem?_map,Array.length_toList,Array.getElem?_toList]
 by_cases h:i < z.cells.size
 ·have h2:i < (j + 1) * z.cells.size:=Nat.lt_of_lt_of_le h (Nat.le_mul_of_pos_left _ (Nat.succ_pos j))
  rw [if_pos h,List.getElem?_range h2,Option.map_some,Nat.mod_eq_of_lt h,getElem!_pos z.cells i h,Array.getElem?_eq_getElem h]
 rw [if_neg h]
 by_cases h2:i < (j + 1) * z.cells.size
 ·have h3:i - z.cells.size < j * z.cells.size:=by rw [Nat.succ_mul] at h2; omega
  rw [List.getElem?_range h2,List.getElem?_range h3,Option.map_some,Option.map_some,Nat.mod_eq_sub_mod (Nat.not_lt.1 h)]
 have h3:¬ i - z.cells.size < j * z.cells.size:=by rw [Nat.succ_mul] at h2; omega
 rw [List.getElem?_eq_none (by simpa using h2),List.getElem?_eq_none (by simpa using h3)]
end
abbrev G5:=World → (Nat → Nat → Prop) → Prop
structure MvF (P:G5):Prop where
 move:∀ {w w':World} {F F' M:Nat → Nat → Prop},Step w w' M → (∀ b o,F b o → b < w.heap.size → ¬ M b o) → (∀ b o,F b o → b < w.heap.size → F' b o) → P w F → P w' F'
def GI:G5:=fun _ _=>True
def J8 (P Q:G5):G5:=fun w F=>P w F ∧ Q w F
def Jm (p:Prop):G5:=fun _ _=>p
theorem MvF.no:MvF GI:=⟨fun _ _ _ _=>trivial⟩
theorem MvF.and {P Q:G5} (h:MvF P) (h':MvF Q):MvF (J8 P Q):=⟨fun hs hM hF g=>⟨h.move hs hM hF g.1,h'.move hs hM hF g.2⟩⟩
theorem MvF.is (p:Prop):MvF (Jm p):=⟨fun _ _ _ g=>g⟩
theorem MvF.mono {P:G5} (h:MvF P) {w:World} {F F':Nat → Nat → Prop} (hF:∀ b o,F b o → b < w.heap.size → F' b o) (g:P w F):P w F':=h.move (Step.refl w C1) A7 hF g
def Jn (A:Option Addr) (X:Bs):G5:=fun w F=>∀ ad,A = some ad → ∃ b o,ad = ⟨b,o,none⟩ ∧ AtF w F b o [.string (bs X)]
theorem MvF.text (A:Option Addr) (X:Bs):MvF (Jn A X):=⟨fun hs hM hF g ad hA=>by
 obtain ⟨b,o,h1,h2⟩:=g ad hA
 exact ⟨b,o,h1,h2.move hs hM hF⟩⟩
def Jo (A:Option Addr) (c:Nat) (X:Bs):G5:=fun w F=>Octs w F A c X
theorem MvF.octs (A:Option Addr) (c:Nat) (X:Bs):MvF (Jo A c X):=⟨fun hs hM hF g=>Octs.move g hs hM hF⟩
def GJ (m:Option Nat) (u:List (Int × Bs)):G5:=fun w F=>MapR w F m u
theorem MvF.tags (m:Option Nat) (u:List (Int × Bs)):MvF (GJ m u):=⟨fun hs hM hF g=>MapR.move g hs hM hF⟩
def Jp (b o:Nat) (cs:List Value):G5:=fun w F=>AtF w F b o cs
theorem MvF.at_ (b o:Nat) (cs:List Value):MvF (Jp b o cs):=⟨fun hs hM hF g=>AtF.move g hs hM hF⟩
abbrev rdo (br:Nat) (A:Option Addr) (m c:Nat):Ob:=⟨br,0,[.slice A m c,.bool false],true⟩
theorem MJ {br:Nat} {A A':Option Addr} {m c m' c':Nat} {tb:Tb} {rs:List Rw} {b o:Nat} (h:H3 (rdo br A m c :: tb) rs b o):H3 (rdo br A' m' c' :: tb) rs b o:=by
 rcases h with ⟨i,ob,hi,h1⟩ | h
 ·cases i with
  | zero =>
   simp only [List.getElem?_cons_zero,Option.some.injEq] at hi
   subst hi
   exact .inl ⟨0,_,rfl,h1⟩
  | succ i=>exact .inl ⟨i + 1,ob,hi,h1⟩
 exact .inr h
theorem EH {G:Nat → Nat → Prop} {w0 w:World} {br:Nat} {A A':Option Addr} {m c m' c':Nat} {tb:Tb} {rs:List Rw} {b o:Nat} (h:E9 G w0 w (rdo br A m c :: tb) rs b o):E9 G w0 w (rdo br A' m' c' :: tb) rs b o :=
 ⟨h.1,h.2.1,fun ha=>h.2.2 (MJ ha)⟩
theorem EnvOk.rdo {n br:Nat} {A A':Option Addr} {m c m' c':Nat} {tb:Tb} {env:C6} {a:Act} (h:EnvOk n (rdo br A m c :: tb) env a):EnvOk n (rdo br A' m' c' :: tb) env a:=by
 refine h.table fun i hi=>?_
 cases i with
 | zero=>exact ⟨by simp,rfl,rfl⟩
 | succ i=>exact ⟨by simpa using hi,rfl,rfl⟩
structure RS (w0:World) (M F:Nat → Nat → Prop) (n br:Nat) (tb:Tb) (env:C6) (P:G5) (s:Bs) (a:Act) (w:World):Prop where
 mv:MvF P
 ex:∃ A m c,WOk w0 M w (rdo br A m c :: tb) [] ∧ RdS w (E9 F w0 w (rdo br none 0 0 :: tb) []) A m c s
 env_:EnvOk n (rdo br none 0 0 :: tb) env a
 fact:P w (E9 F w0 w (rdo br none 0 0 :: tb) [])
section
variable {Pr:Program} {ops opsA opsB opsC:Array Oper} {Q:Exit → Act → World → Prop} {w0:World} {M F:Nat → Nat → Prop} {n br:Nat} {tb:Tb} {env:C6} {P:G5} {s:Bs} {a:Act} {w:World}
theorem RS.mk' {A:Option Addr} {m c:Nat} (hW:WOk w0 M w (rdo br A m c :: tb) []) (hr:RdS w (E9 F w0 w (rdo br A m c :: tb) []) A m c s) (hE:EnvOk n (rdo br A m c :: tb) env a) (mv:MvF P) (hP:P w (E9 F w0 w (rdo br A m c :: tb) [])):RS w0 M F n br tb env P s a w :=
 ⟨mv,⟨A,m,c,hW,hr.move (Step.refl w C1) A7 fun b o h _=>EH h⟩,hE.rdo,mv.mono (fun b o h _=>EH h) hP⟩
theorem RS.open_ (h:RS w0 M F n br tb env P s a w):∃ A m c,WOk w0 M w (rdo br A m c :: tb) [] ∧ RdS w (E9 F w0 w (rdo br A m c :: tb) []) A m c s ∧ EnvOk n (rdo br A m c :: tb) env a ∧ P w (E9 F w0 w (rdo br A m c :: tb) []):=by
 obtain ⟨A,m,c,hW,hr⟩:=h.ex
 exact ⟨A,m,c,hW,hr.move (Step.refl w C1) A7 fun b o h _=>EH h,h.env_.rdo,h.mv.mono (fun b o h _=>EH h) h.fact⟩
theorem RS.cast {t:Bs} (h:RS w0 M F n br tb env P s a w) (e:s = t):RS w0 M F n br tb env P t a w:=e ▸ h
theorem RS.weak {P':G5} (h:RS w0 M F n br tb env P s a w) (mv:MvF P') (hP:∀ w F,P w F → P' w F):RS w0 M F n br tb env P' s a w:=⟨mv,h.ex,h.env_,hP _ _ h.fact⟩
theorem RS.pk {env':C6} (h:RS w0 M F n br tb env P s a w) (e:ME.pick env (L1 env') = some env':=by kernel_rfl):RS w0 M F n br tb env' P s a w:=⟨h.mv,h.ex,h.env_.pk e,h.fact⟩
theorem RS.envEq {env':C6} (h:RS w0 M F n br tb env P s a w) (e:env = env'):RS w0 M F n br tb env' P s a w:=e ▸ h
theorem RS.tbEq {tb':Tb} (h:RS w0 M F n br tb env P s a w) (e:tb = tb'):RS w0 M F n br tb' env P s a w:=e ▸ h
theorem RS.recast (h:RS w0 M F n br tb env P s a w) (k:Nat) (x y:SV) (hx:lk env k = some x) (hy:y.val (rdo br none 0 0 :: tb) = x.val (rdo br none 0 0 :: tb)) (ho:y.ok (rdo br none 0 0 :: tb)):RS w0 M F n br tb ((k,y) :: env) P s a w:=⟨h.mv,h.ex,h.env_.recast k x y hx hy ho,h.fact⟩
theorem H7 {L:List Nat} (idxs rest:List Nat) (env':C6) (h:RS w0 M F n br tb env P s a w) (k:∀ a',RS w0 M F n br tb env' P s a' w → wpOps Pr ops Q rest a' w) (e:∀ A m c,N0 Pr ops n (rdo br A m c :: tb) idxs (L1 env') env = some env':=by intro _ _ _; kernel_rfl) (hl:L = idxs ++ rest:=by rfl):wpOps Pr ops Q L a w:=by
 obtain ⟨A,m,c,hW,hr,hE,hP⟩:=h.open_
 exact N1 idxs rest (L1 env') hW hE (e A m c) hl fun a' hE'=>k a' (RS.mk' hW hr hE' h.mv hP)
theorem E4 {id:Nat} (env':C6) (h:RS w0 M F n br tb env P s a w) (k:∀ a',RS w0 M F n br tb env' P s a' w → Q .normal a' w) (e:∀ A m c,N0 Pr ops n (rdo br A m c :: tb) (List.range ops.size) (L1 env') env = some env':=by intro _ _ _; kernel_rfl):(Code.region id ops false).wp Pr Q a w :=
 D7 (List.range ops.size) rfl (H7 (List.range ops.size) [] env' h (fun a' h'=>B5 (k a' h')) e (List.append_nil _).symm)
theorem MK {id:Nat} {y:Code} (env':C6) (h:RS w0 M F n br tb env P s a w) (k:∀ a',RS w0 M F n br tb env' P s a' w → y.wp Pr Q a' w) (e:∀ A m c,N0 Pr ops n (rdo br A m c :: tb) (List.range ops.size) (L1 env') env = some env':=by intro _ _ _; kernel_rfl):(Code.seq (.region id ops false) y).wp Pr Q a w :=
 wp_seq (E4 env' h (fun a' h'=>A4 (k a' h')) e)
def EI (Pr:Program) (f:FuncId) {τ:Type} (X rest:Bs) (val:τ → Value) (fact:τ → G5):Prop :=
 ∀ {br:Nat} {A:Option Addr} {m c:Nat} {w:World} {F:Nat → Nat → Prop},Str w br [.slice A m c,.bool false] → RdS w F A m c (X ++ rest) → (∀ b o,F b o → ¬ H1 br b o) →
  Calls Pr f #[.pointer (some ⟨br,0,none⟩)] w (RdPost w br (Fp F w) rest fun v w'=>∃ x,v = val x ∧ fact x w' (Fp F w))
def O3 (Pr:Program) (f:FuncId) (X rest:Bs) (v0:Value):Prop :=
 ∀ {br:Nat} {A:Option Addr} {m c:Nat} {w:World} {F:Nat → Nat → Prop},Str w br [.slice A m c,.bool false] → RdS w F A m c (X ++ rest) → (∀ b o,F b o → ¬ H1 br b o) →
  Calls Pr f #[.pointer (some ⟨br,0,none⟩)] w (RdPost w br (Fp F w) rest fun v w'=>v = v0)
theorem RdPost.fp {w:World} {br:Nat} {F:Nat → Nat → Prop} {rest:Bs} {Q Q':Value → World → Prop} {e:Ending} {w':World} (hq:∀ v w',Q v w' → Q' v w') (h:RdPost w br F rest Q e w'):RdPost w br (Fp F w) rest Q' e w':=by
 obtain ⟨v,A',n',c',h1,h2,h3,h4,h5⟩:=h
 exact ⟨v,A',n',c',h1,h2,h3.move (Step.refl _ C1) A7 fun b o g _=>.inl g,h4,hq _ _ h5⟩
theorem RdPost.q {w:World} {br:Nat} {F:Nat → Nat → Prop} {rest:Bs} {Q Q':Value → World → Prop} {e:Ending} {w':World} (hq:∀ v w',Q v w' → Q' v w') (h:RdPost w br F rest Q e w'):RdPost w br F rest Q' e w':=by
 obtain ⟨v,A',n',c',h1,h2,h3,h4,h5⟩:=h
 exact ⟨v,A',n',c',h1,h2,h3,h4,hq _ _ h5⟩
theorem EJ {i d:Nat} {f:FuncId} {τ:Type} {X rest:Bs} {val:τ → Value} {fact:τ → G5} {N:Act → World → Prop} (h:RS w0 M F n br tb env P (X ++ rest) a w) (hc:EI Pr f X rest val fact) (hm:∀ x,MvF (fact x))
  (hf:∀ args w,(callFunc f args).run Pr w = .ok (.enter f args) w) (K:∀ x P' a' w',(∀ w F,P' w F → P w F ∧ fact x w F) → RS w0 M F n br tb ((d,.v (val x)) :: env) P' rest a' w' → N a' w')
  (he:∀ A m c,O7 (rdo br A m c :: tb) env ops n i = some (f,[.pointer (some ⟨br,0,none⟩)],d):=by intro _ _ _; kernel_rfl):wpOp Pr ops Q i N a w:=by
 obtain ⟨A,m,c,hW,hr,hE,hP⟩:=h.open_
 refine D3 hE (he A m c) hf (hc (Str.of hW 0 rfl) hr (R2 0 rfl)) ?_
 rintro e_ w1 ⟨_,A1,n1,c1,rfl,hs,hr1,hst,x,rfl,hx⟩
 refine ⟨_,rfl,fun a1 hE1=>?_⟩
 obtain ⟨hW2,hF2,hL⟩:=hW.wrote 0 (rdo br A1 n1 c1 :: tb) rfl hst hs
 exact K x (J8 P (fact x)) a1 w1 (fun _ _ g=>g) (RS.mk' hW2 (hr1.move (Step.refl _ C1) A7 hL) hE1.rdo (h.mv.and (hm x)) ⟨h.mv.move hF2.step immM hF2.to' hP,(hm x).mono hL hx⟩)
theorem Bk {i d:Nat} {f:FuncId} {X rest:Bs} {v0:Value} {N:Act → World → Prop} (h:RS w0 M F n br tb env P (X ++ rest) a w) (hc:O3 Pr f X rest v0)
  (hf:∀ args w,(callFunc f args).run Pr w = .ok (.enter f args) w) (K:∀ a' w',RS w0 M F n br tb ((d,.v v0) :: env) P rest a' w' → N a' w')
  (he:∀ A m c,O7 (rdo br A m c :: tb) env ops n i = some (f,[.pointer (some ⟨br,0,none⟩)],d):=by intro _ _ _; kernel_rfl):wpOp Pr ops Q i N a w:=by
 obtain ⟨A,m,c,hW,hr,hE,hP⟩:=h.open_
 refine D3 hE (he A m c) hf (hc (Str.of hW 0 rfl) hr (R2 0 rfl)) ?_
 rintro e_ w1 ⟨_,A1,n1,c1,rfl,hs,hr1,hst,rfl⟩
 refine ⟨_,rfl,fun a1 hE1=>?_⟩
 obtain ⟨hW2,hF2,hL⟩:=hW.wrote 0 (rdo br A1 n1 c1 :: tb) rfl hst hs
 exact K a1 w1 (RS.mk' hW2 (hr1.move (Step.refl _ C1) A7 hL) hE1.rdo h.mv (h.mv.move hF2.step immM hF2.to' hP))
theorem Dp {i d:Nat} {f:FuncId} {v0:Value} {N:Act → World → Prop} (h:RS w0 M F n br tb env P s a w) (hc:∀ {br:Nat} {A:Option Addr} {m c:Nat} {w:World},Str w br [.slice A m c,.bool false] → Calls Pr f #[.pointer (some ⟨br,0,none⟩)] w (fun e w'=>e = .returned v0 ∧ w' = w))
  (hf:∀ args w,(callFunc f args).run Pr w = .ok (.enter f args) w) (K:∀ a',RS w0 M F n br tb ((d,.v v0) :: env) P s a' w → N a' w)
  (he:∀ A m c,O7 (rdo br A m c :: tb) env ops n i = some (f,[.pointer (some ⟨br,0,none⟩)],d):=by intro _ _ _; kernel_rfl):wpOp Pr ops Q i N a w:=by
 obtain ⟨A,m,c,hW,hr,hE,hP⟩:=h.open_
 refine D3 hE (he A m c) hf (hc (Str.of hW 0 rfl)) ?_
 rintro e_ _ ⟨rfl,rfl⟩
 exact ⟨_,rfl,fun a1 hE1=>K a1 (RS.mk' hW hr hE1 h.mv hP)⟩
theorem V4 {i:Nat} (tb':Tb) (j:Nat) {N:Act → World → Prop} (h:RS w0 M F n br tb env P s a w) (K:∀ w',RS w0 M F n br tb' env P s a w' → N a w')
  (he:∀ A m c,DP Pr (rdo br A m c :: tb) env ops i = some (j + 1,(C9 tb' j).cells):=by intro _ _ _; kernel_rfl) (ht:Tb.put tb j (C9 tb' j).cells = tb':=by rfl):wpOp Pr ops Q i N a w:=by
 obtain ⟨A,m,c,hW,hr,hE,hP⟩:=h.open_
 refine D5 hW hE (he A m c) fun w1 hF1 hW1 hE1=>K w1 ?_
 have e:Tb.put (rdo br A m c :: tb) (j + 1) (C9 tb' j).cells = rdo br A m c :: tb':=by
  show rdo br A m c :: Tb.put tb j (C9 tb' j).cells = _
  rw [ht]
 rw [e] at hF1 hW1 hE1
 exact RS.mk' hW1 (hr.move hF1.step immM hF1.to') hE1 h.mv (h.mv.move hF1.step immM hF1.to' hP)
theorem BN {i d:Nat} (cs:List Value) {N:Act → World → Prop} (h:RS w0 M F n br tb env P s a w)
  (K:∀ b a' w',w0.heap.size ≤ b → RS w0 M F n br (tb ++ [⟨b,0,cs,true⟩]) ((d,.p (tb.length + 1) 0) :: env) P s a' w' → N a' w')
  (he:CR Pr env ops n i = some (d,cs):=by kernel_rfl):wpOp Pr ops Q i N a w:=by
 obtain ⟨A,m,c,hW,hr,hE,hP⟩:=h.open_
 refine H4 hW hE he fun b a1 w1 hb hb0 hF1 hW1 hE1=>K b a1 w1 hb0 ?_
 exact RS.mk' hW1 (hr.move hF1.step immM hF1.to') hE1 h.mv (h.mv.move hF1.step immM hF1.to' hP)
theorem Jq {k:Nat} (h:Nat.blt 0 k = true):List.range k = [0] ++ (List.range k).drop 1:=by
 cases k with
 | zero=>cases h
 | succ k=>rw [List.range_succ_eq_map]; rfl
theorem ML {id d:Nat} {f:FuncId} {τ:Type} {X rest:Bs} {val:τ → Value} {fact:τ → G5} (env':τ → C6) (h:RS w0 M F n br tb env P (X ++ rest) a w) (hc:EI Pr f X rest val fact) (hm:∀ x,MvF (fact x))
  (hf:∀ args w,(callFunc f args).run Pr w = .ok (.enter f args) w) (K:∀ x P' a' w',(∀ w F,P' w F → P w F ∧ fact x w F) → RS w0 M F n br tb (env' x) P' rest a' w' → Q .normal a' w')
  (he:∀ A m c,O7 (rdo br A m c :: tb) env ops n 0 = some (f,[.pointer (some ⟨br,0,none⟩)],d):=by intro _ _ _; kernel_rfl)
  (e:∀ x A m c,N0 Pr ops n (rdo br A m c :: tb) ((List.range ops.size).drop 1) (L1 (env' x)) ((d,.v (val x)) :: env) = some (env' x):=by intro _ _ _ _; kernel_rfl) (hs:Nat.blt 0 ops.size = true:=by kernel_rfl):(Code.region id ops false).wp Pr Q a w:=by
 refine D7 _ (Jq hs) (B2 (EJ h hc hm hf (fun x P' a' w' hP hS=>?_) he))
 exact H7 ((List.range ops.size).drop 1) [] (env' x) hS (fun a2 h2=>B5 (K x P' a2 w' hP h2)) (e x) (List.append_nil _).symm
theorem M3 {id d:Nat} {f:FuncId} {X rest:Bs} {v0:Value} (env':C6) (h:RS w0 M F n br tb env P (X ++ rest) a w) (hc:O3 Pr f X rest v0)
  (hf:∀ args w,(callFunc f args).run Pr w = .ok (.enter f args) w) (K:∀ a' w',RS w0 M F n br tb env' P rest a' w' → Q .normal a' w')
  (he:∀ A m c,O7 (rdo br A m c :: tb) env ops n 0 = some (f,[.pointer (some ⟨br,0,none⟩)],d):=by intro _ _ _; kernel_rfl)
  (e:∀ A m c,N0 Pr ops n (rdo br A m c :: tb) ((List.range ops.size).drop 1) (L1 env') ((d,.v v0) :: env) = some env':=by intro _ _ _; kernel_rfl) (hs:Nat.blt 0 ops.size = true:=by kernel_rfl):(Code.region id ops false).wp Pr Q a w:=by
 refine D7 _ (Jq hs) (B2 (Bk h hc hf (fun a' w' hS=>?_) he))
 exact H7 ((List.range ops.size).drop 1) [] env' hS (fun a2 h2=>B5 (K a2 w' h2)) e (List.append_nil _).symm
theorem BO {idA idB idC d1 d2:Nat} {o:Operand} {b:Bool} {f1 f2:FuncId} {X1 X2 rest:Bs} {v0:Value} (envA env':C6) (h:RS w0 M F n br tb env P ((if b = true then X1 else X2) ++ rest) a w)
  (hc1:O3 Pr f1 X1 rest v0) (hf1:∀ args w,(callFunc f1 args).run Pr w = .ok (.enter f1 args) w) (hc2:O3 Pr f2 X2 rest v0) (hf2:∀ args w,(callFunc f2 args).run Pr w = .ok (.enter f2 args) w)
  (K:∀ a' w',RS w0 M F n br tb env' P rest a' w' → Q .normal a' w')
  (eA:∀ A m c,N0 Pr opsA n (rdo br A m c :: tb) (List.range opsA.size) (L1 envA) env = some envA:=by intro _ _ _; kernel_rfl) (ho:F7 envA o = some (.v (.bool b)):=by kernel_rfl)
  (he1:∀ A m c,O7 (rdo br A m c :: tb) envA opsB n 0 = some (f1,[.pointer (some ⟨br,0,none⟩)],d1):=by intro _ _ _; kernel_rfl) (he2:∀ A m c,O7 (rdo br A m c :: tb) envA opsC n 0 = some (f2,[.pointer (some ⟨br,0,none⟩)],d2):=by intro _ _ _; kernel_rfl)
  (e1:∀ A m c,N0 Pr opsB n (rdo br A m c :: tb) ((List.range opsB.size).drop 1) (L1 env') ((d1,.v v0) :: envA) = some env':=by intro _ _ _; kernel_rfl) (e2:∀ A m c,N0 Pr opsC n (rdo br A m c :: tb) ((List.range opsC.size).drop 1) (L1 env') ((d2,.v v0) :: envA) = some env':=by intro _ _ _; kernel_rfl)
  (hs1:Nat.blt 0 opsB.size = true:=by kernel_rfl) (hs2:Nat.blt 0 opsC.size = true:=by kernel_rfl):(Code.seq (.region idA opsA false) (.cond o (.region idB opsB false) (.region idC opsC false))).wp Pr Q a w :=
 MK envA h (fun a1 h1=>D4 h1.env_ ho (fun hb=>M3 env' (h1.cast (by rw [if_pos hb])) hc1 hf1 K he1 e1 hs1) (fun hb=>M3 env' (h1.cast (by rw [hb]; rfl)) hc2 hf2 K he2 e2 hs2)) eA
def Dq (P:Program) (ops:Array Oper) (n:Nat) (tb:Tb) (env:C6) (keys:List Nat):Option (Nat × List Value × C6) :=
 match M5 P ops n tb (List.range (ops.size - 1)) env with
 | some e=>match DP P tb e ops (ops.size - 1),pick e keys with
  | some (i,cs),some e'=>some (i,cs,e')
  | _,_=>none
 | none=>none
theorem J9 {id:Nat} (tb':Tb) (j:Nat) (env':C6) (h:RS w0 M F n br tb env P s a w) (K:∀ a' w',RS w0 M F n br tb' env' P s a' w' → Q .normal a' w')
  (he:∀ A m c,Dq Pr ops n (rdo br A m c :: tb) env (L1 env') = some (j + 1,(C9 tb' j).cells,env'):=by intro _ _ _; kernel_rfl) (ht:Tb.put tb j (C9 tb' j).cells = tb':=by rfl) (hs:Nat.blt 0 ops.size = true:=by kernel_rfl):(Code.region id ops false).wp Pr Q a w:=by
 obtain ⟨A,m,c,hW,hr,hE,hP⟩:=h.open_
 have h1:=he A m c
 unfold Dq at h1
 split at h1
 ·rename_i e he'
  split at h1
  ·rename_i i cs e' g1 g2
   simp only [Option.some.injEq,Prod.mk.injEq] at h1
   obtain ⟨rfl,rfl,rfl⟩:=h1
   have hr0:List.range ops.size = List.range (ops.size - 1) ++ [ops.size - 1]:=by
    have:0 < ops.size:=by simpa [Nat.blt_eq] using hs
    rw [← List.range_succ]; congr 1; omega
   refine D7 _ hr0 (DN hW.cells hE he' fun a1 hE1=>B2 (D5 hW hE1 g1 fun w1 hF1 hW1 hE2=>B5 (K a1 w1 ?_)))
   have e:Tb.put (rdo br A m c :: tb) (j + 1) (C9 tb' j).cells = rdo br A m c :: tb':=by
    show rdo br A m c :: Tb.put tb j (C9 tb' j).cells = _
    rw [ht]
   rw [e] at hF1 hW1 hE2
   exact RS.mk' hW1 (hr.move hF1.step immM hF1.to') (hE2.pick g2) h.mv (h.mv.move hF1.step immM hF1.to' hP)
  cases h1
 cases h1
theorem EK {A0:Option Addr} {i d j:Nat} {t tn e:TypeId} {size bytes:Nat} {k kn:IntKind} {q:Int} (z:Value) {N:Act → World → Prop} (h:RS w0 M F n br tb env P s a w)
  (K:∀ g c a' w',w0.heap.size ≤ g → j ≤ c → RS w0 M F n br (tb ++ [⟨g,0,O2 z j,true⟩]) ((d,.v (.slice (some ⟨g,0,none⟩) j c)) :: env) P s a' w' → N a' w')
  (hq:q = (j:Int)) (hj:0 < j) (hb:j * bytes ≤ 140737488355328)
  (he:∀ A m c,S0 (rdo br A m c :: tb) env ops n i = some (t,tn,.slice A0 0 0,.int k q,d):=by intro _ _ _; kernel_rfl) (ht:M6 Pr t = some (e,size,bytes):=by kernel_rfl) (htn:Pr.underlying tn = some (.int kn):=by kernel_rfl) (hz:(Pr.info? e).bind (·.zero) = some z:=by kernel_rfl):wpOp Pr ops Q i N a w:=by
 obtain ⟨A,m,c,hW,hr,hE,hP⟩:=h.open_
 refine MH hW hE (he A m c) ht htn hz hq hj hb fun g c1 a1 w1 hg hg0 hF1 hW1 hE1=>?_
 have hP1:=h.mv.move hF1.step immM hF1.to' hP
 have hr1:=hr.move hF1.step immM hF1.to'
 have hcap:j ≤ c1:=by
  obtain ⟨A',c',hv,_,_,h4⟩:=DQ (hW1.own 0 _ rfl)
  simp only [Rw.v,Value.slice.injEq,true_and] at hv
  rw [hv.2]; exact h4
 obtain ⟨hW2,hF2⟩:=hW1.layRowM (k:=0) rfl rfl hg0 [] (rdo br A m c :: (tb ++ [⟨g,0,O2 z j,true⟩])) rfl rfl
 exact K g c1 a1 w1 hg0 hcap (RS.mk' hW2 (hr1.move hF2.step immM hF2.to') (hE1.grow ⟨g,0,O2 z j,true⟩) h.mv (h.mv.move hF2.step immM hF2.to' hP1))
theorem Jr {i d n':Nat} {f:FuncId} {fn:Func} {c:Code} {vs:List Value} {N:Act → World → Prop} (h:RS w0 M F n br tb env P s a w) (hf:∀ args w,(callFunc f args).run Pr w = .ok (.enter f args) w) (hfn:Pr.funcs[f]? = some fn) (hb:fn.body = some c) (hn:fn.ntmps = n')
  (K:∀ a2,RS w0 M F n' br tb (Ci 0 vs) P s a2 w → c.wp Pr (bodyPost Pr fn (fun e w'=>∃ v,e = .returned v ∧ ∀ a',EnvOk n (rdo br none 0 0 :: tb) ((d,.v v) :: env) a' → N a' w')) a2 w)
  (he:∀ A m c,O7 (rdo br A m c :: tb) env ops n i = some (f,vs,d):=by intro _ _ _; kernel_rfl) (hl:Nat.ble vs.length n' = true:=by kernel_rfl):wpOp Pr ops Q i N a w:=by
 obtain ⟨A,m,c,hW,hr,hE,hP⟩:=h.open_
 exact S3 h.env_ (he none 0 0) hf hfn hb hn hl fun a2 hE2=>K a2 (RS.mk' hW hr hE2.rdo h.mv hP)
theorem MM {n' d:Nat} {fn:Func} {tb0:Tb} {env0:C6} {v:Value} {N:Act → World → Prop} (h:RS w0 M F n' br tb env P s a w) (K:∀ a',RS w0 M F n br tb ((d,.v v) :: env0) P s a' w → N a' w) (hp:Pl (rdo br none 0 0 :: tb0) (rdo br none 0 0 :: tb))
  (hr:∀ A m c,U0 Pr (rdo br A m c :: tb) env fn.results = some v:=by intro _ _ _; kernel_rfl):bodyPost Pr fn (fun e w'=>∃ v,e = .returned v ∧ ∀ a',EnvOk n (rdo br none 0 0 :: tb0) ((d,.v v) :: env0) a' → N a' w') .ret a w:=by
 obtain ⟨A,m,c,hW,hrd,hE,hP⟩:=h.open_
 exact C8 hE hW.cells (hr A m c) ⟨v,rfl,fun a' hE'=>K a' (RS.mk' hW hrd (hE'.places hp).rdo h.mv hP)⟩
theorem Js {n' d:Nat} {fn:Func} {tb0:Tb} {env0:C6} {v:Value} {N:Act → World → Prop} (h:RS w0 M F n' br tb env P s a w) (K:∀ a',RS w0 M F n br tb ((d,.v v) :: env0) P s a' w → N a' w) (hp:Pl (rdo br none 0 0 :: tb0) (rdo br none 0 0 :: tb))
  (hr:∀ A m c,U0 Pr (rdo br A m c :: tb) env fn.results = some v:=by intro _ _ _; kernel_rfl):bodyPost Pr fn (fun e w'=>∃ v,e = .returned v ∧ ∀ a',EnvOk n (rdo br none 0 0 :: tb0) ((d,.v v) :: env0) a' → N a' w') .normal a w :=
 MM h K hp hr
end
def BP:C6 → C6
 | []=>[]
 | (k,.v x) :: r=>(k,.v x) :: BP r
 | (k,.p i j) :: r=>(k,.p (match i with | 0=>1 | 1=>0 | i=>i) j) :: BP r
theorem MN {n:Nat} {o1 o2:Ob} {env:C6} {a:Act} (h:EnvOk n [o1,o2] env a):EnvOk n [o2,o1] (BP env) a:=by
 have key:∀ (env:C6) (k:Nat) (x:SV),lk (BP env) k = some x → ∃ y,lk env k = some y ∧ (y.ok [o1,o2] → x.val [o2,o1] = y.val [o1,o2] ∧ x.ok [o2,o1]):=by
  intro env
  induction env with
  | nil=>intro k x hx; cases hx
  | cons e r ih =>
   obtain ⟨k',sv⟩:=e
   intro k x hx
   cases sv with
   | v y =>
    simp only [BP,lk] at hx ⊢
    split at hx
    ·rename_i hb
     simp only [Option.some.injEq] at hx
     subst hx
     exact ⟨_,rfl,fun _=>⟨rfl,trivial⟩⟩
    exact ih k x hx
   | p i j =>
    simp only [BP,lk] at hx ⊢
    split at hx
    ·rename_i hb
     simp only [Option.some.injEq] at hx
     subst hx
     refine ⟨_,rfl,fun hok=>?_⟩
     have hok':i < 2:=hok
     match i,hok' with
     | 0,_=>exact ⟨rfl,show 1 < 2 by omega⟩
     | 1,_=>exact ⟨rfl,show 0 < 2 by omega⟩
    exact ih k x hx
 refine ⟨h.defers,h.size,fun k x hx=>?_⟩
 obtain ⟨y,hy,hv⟩:=key env k x hx
 obtain ⟨h1,h2⟩:=h.at_ k y hy
 obtain ⟨h3,h4⟩:=hv h2
 exact ⟨by rw [h3]; exact h1,h4⟩
theorem Bl {α:Type} {x y o:α} {i:Nat} (h:[y,x][i]? = some o):[x,y][1 - i]? = some o ∧ i < 2:=by
 match i,h with
 | 0,h=>exact ⟨h,by omega⟩
 | 1,h=>exact ⟨h,by omega⟩
 | i + 2,h=>simp at h
theorem WOk.swap2 {w0 w:World} {M:Nat → Nat → Prop} {o1 o2:Ob} (h:WOk w0 M w [o1,o2] []):WOk w0 M w [o2,o1] [] :=
 ⟨h.step,fun i o hi=>h.cells _ o (Bl hi).1,fun i o hi=>h.live _ o (Bl hi).1,fun i o hi=>h.rw_ _ o (Bl hi).1,fun i j o o' hij hi hj hw=>h.apart _ _ o o' (by have:=(Bl hi).2; have:=(Bl hj).2; omega) (Bl hi).1 (Bl hj).1 hw,h.own,h.ownM,fun i r hi=>by simp at hi,h.rr⟩
theorem MO {o1 o2:Ob} {b o:Nat} (h:H3 [o2,o1] [] b o):H3 [o1,o2] [] b o:=by
 rcases h with ⟨i,ob,hi,h1⟩ | ⟨i,r,hi,_⟩
 ·exact .inl ⟨_,ob,(Bl hi).1,h1⟩
 simp at hi
theorem RS.start {w0 w:World} {M F:Nat → Nat → Prop} {n br c:Nat} {A:Option Addr} {o1:Ob} {env:C6} {s:Bs} {a:Act} (hW:WOk w0 M w [o1,rdo br A s.length c] []) (hE:EnvOk n [o1,rdo br A s.length c] env a) (ho:Octs w (E9 F w0 w [o1,rdo br A s.length c] []) A c s) (env':C6) (he:pick (BP env) (L1 env') = some env':=by kernel_rfl):RS w0 M F n br [o1] env' GI s a w :=
 RS.mk' hW.swap2 ⟨rfl,ho.move (Step.refl w C1) A7 fun b o h _=>⟨h.1,h.2.1,fun ha=>h.2.2 (MO ha)⟩⟩ ((MN hE).pick he) MvF.no trivial
theorem BQ {α:Type} {l:List α} {x y o:α} {i:Nat} (h:(l ++ [x,y])[i]? = some o):(i < l.length ∧ l[i]? = some o) ∨ (i = l.length ∧ o = x) ∨ (i = l.length + 1 ∧ o = y):=by
 rcases Nat.lt_or_ge i l.length with hl | hl
 ·rw [List.getElem?_append_left hl] at h; exact .inl ⟨hl,h⟩
 rw [List.getElem?_append_right hl] at h
 rcases hk:i - l.length with _ | _ | k
 ·rw [hk] at h; exact .inr (.inl ⟨by omega,(Option.some.inj h).symm⟩)
 ·rw [hk] at h; exact .inr (.inr ⟨by omega,(Option.some.inj h).symm⟩)
 rw [hk] at h; simp at h
theorem EL {α:Type} {l:List α} {x:α}:(l ++ [x])[l.length]? = some x:=by simp
section
variable {w0 w:World} {M:Nat → Nat → Prop} {tb:Tb} {rs:List Rw}
theorem WOk.splitL {b o o2:Nat} {cs1 cs2:List Value} (hW:WOk w0 M w (tb ++ [⟨b,o,cs1 ++ cs2,true⟩]) rs) (ho:o2 = o + cs1.length) :
  WOk w0 M w (tb ++ [⟨b,o2,cs2,true⟩,⟨b,o,cs1,true⟩]) rs ∧ Fr w (tb ++ [⟨b,o,cs1 ++ cs2,true⟩]) rs w (tb ++ [⟨b,o2,cs2,true⟩,⟨b,o,cs1,true⟩]) rs:=by
 subst ho
 have hi:(tb ++ [(⟨b,o,cs1 ++ cs2,true⟩:Ob)])[tb.length]? = some ⟨b,o,cs1 ++ cs2,true⟩:=EL
 have old:∀ {j:Nat} {q:Ob},j < tb.length → tb[j]? = some q → (tb ++ [(⟨b,o,cs1 ++ cs2,true⟩:Ob)])[j]? = some q:=fun {j q} hj h=>by rw [List.getElem?_append_left hj]; exact h
 have hlen:(cs1 ++ cs2).length = cs1.length + cs2.length:=List.length_append
 have act:∀ x y,H3 (tb ++ [⟨b,o + cs1.length,cs2,true⟩,⟨b,o,cs1,true⟩]) rs x y → H3 (tb ++ [⟨b,o,cs1 ++ cs2,true⟩]) rs x y:=fun x y ha=>by
  rcases ha with ⟨j,q,hj,h1,h2,h3,h4⟩ | ha
  ·rcases BQ hj with ⟨hlt,hj⟩ | ⟨rfl,rfl⟩ | ⟨rfl,rfl⟩
   ·exact .inl ⟨j,q,old hlt hj,h1,h2,h3,h4⟩
   ·exact .inl ⟨_,_,hi,rfl,h2,by dsimp only at h3 ⊢; omega,by dsimp only at h4 ⊢; omega⟩
   exact .inl ⟨_,_,hi,rfl,h2,by dsimp only at h3 ⊢; omega,by dsimp only at h4 ⊢; omega⟩
  exact .inr ha
 refine ⟨⟨hW.step,?_,?_,?_,?_,hW.own,hW.ownM,?_,hW.rr⟩,⟨fun x y _ hn ha=>hn (act x y ha),Step.refl _ _⟩⟩
 ·intro j q hj p v hv
  rcases BQ hj with ⟨hlt,hj⟩ | ⟨rfl,rfl⟩ | ⟨rfl,rfl⟩
  ·exact hW.cells j q (old hlt hj) p v hv
  ·have:=hW.cells _ _ hi (cs1.length + p) v (by dsimp only at hv ⊢; rw [List.getElem?_append_right (by omega),Nat.add_sub_cancel_left]; exact hv)
   dsimp only at this ⊢
   rwa [Nat.add_assoc]
  exact hW.cells _ _ hi p v (by dsimp only at hv ⊢; rw [List.getElem?_append_left (List.getElem?_eq_some_iff.1 hv).1]; exact hv)
 ·intro j q hj
  rcases BQ hj with ⟨hlt,hj⟩ | ⟨rfl,rfl⟩ | ⟨rfl,rfl⟩
  ·exact hW.live j q (old hlt hj)
  ·have:=hW.live _ _ hi; exact this
  have:=hW.live _ _ hi; exact this
 ·intro j q hj hr p hp
  rcases BQ hj with ⟨hlt,hj⟩ | ⟨rfl,rfl⟩ | ⟨rfl,rfl⟩
  ·exact hW.rw_ j q (old hlt hj) hr p hp
  ·have:=hW.rw_ _ _ hi rfl (cs1.length + p) (by dsimp only at hp ⊢; omega)
   dsimp only at this ⊢
   rwa [Nat.add_assoc]
  exact hW.rw_ _ _ hi rfl p (by dsimp only at hp ⊢; omega)
 ·intro j k q q' hjk hj hk hw
  rcases BQ hj with ⟨hlj,hj⟩ | ⟨rfl,rfl⟩ | ⟨rfl,rfl⟩ <;> rcases BQ hk with ⟨hlk,hk⟩ | ⟨rfl,rfl⟩ | ⟨rfl,rfl⟩
  ·exact hW.apart j k q q' hjk (old hlj hj) (old hlk hk) hw
  ·have:=hW.apart j _ q _ (by omega) (old hlj hj) hi (.inr rfl)
   dsimp only at this ⊢; omega
  ·have:=hW.apart j _ q _ (by omega) (old hlj hj) hi (.inr rfl)
   dsimp only at this ⊢; omega
  ·have:=hW.apart _ k _ q' (by omega) hi (old hlk hk) (.inl rfl)
   dsimp only at this ⊢; omega
  ·exact absurd rfl hjk
  ·exact .inr (.inr (Nat.le_refl _))
  ·have:=hW.apart _ k _ q' (by omega) hi (old hlk hk) (.inl rfl)
   dsimp only at this ⊢; omega
  ·exact .inr (.inl (Nat.le_refl _))
  exact absurd rfl hjk
 intro j r hj g hg k q hk
 rcases BQ hk with ⟨hlk,hk⟩ | ⟨rfl,rfl⟩ | ⟨rfl,rfl⟩
 ·exact hW.rtb j r hj g hg k q (old hlk hk)
 ·have:=hW.rtb j r hj g hg _ _ hi; exact this
 have:=hW.rtb j r hj g hg _ _ hi; exact this
theorem WOk.atLast {G:Nat → Nat → Prop} {b o:Nat} {cs:List Value} (hW:WOk w0 M w (tb ++ [⟨b,o,cs,true⟩]) []) (hb:w0.heap.size ≤ b):AtF w (E9 G w0 w tb []) b o cs:=fun j v hj=>by
 have hlt:j < cs.length:=(List.getElem?_eq_some_iff.1 hj).1
 refine ⟨⟨.inr hb,?_,fun ha=>?_⟩,?_⟩
 ·have:=hW.live _ _ EL; exact this
 ·rcases ha with ⟨i,q,hi,hr,h2,h3,h4⟩ | ⟨i,r,hi,_⟩
  ·have hil:i < tb.length:=(List.getElem?_eq_some_iff.1 hi).1
   have:=hW.apart i _ q _ (by omega) (by rw [List.getElem?_append_left hil]; exact hi) EL (.inr rfl)
   dsimp only at this; omega
  simp at hi
 have:=hW.cells _ _ EL j v hj; exact this
end
def T5 (g size:Nat) (cl:DV → List Value) (ok:World → (Nat → Nat → Prop) → DV → Prop) (rel:DV → Tree → Prop) (L:List Tree) (k:Nat):G5:=fun w F=>∃ ds:Nat → DV,∀ i,i < k → (cl (ds i)).length = size ∧ AtF w F g (0 + i * size) (cl (ds i)) ∧ ok w F (ds i) ∧ rel (ds i) (L.getD i .zero)
theorem MvF.done {g size:Nat} {cl:DV → List Value} {ok:World → (Nat → Nat → Prop) → DV → Prop} {rel:DV → Tree → Prop} {L:List Tree} {k:Nat} (mv:V3 ok):MvF (T5 g size cl ok rel L k):=⟨fun hs hM hF h=>by
 obtain ⟨ds,h⟩:=h
 refine ⟨ds,fun i hi=>?_⟩
 obtain ⟨h1,h2,h3,h4⟩:=h i hi
 exact ⟨h1,h2.move hs hM hF,mv _ hs hM hF h3,h4⟩⟩
abbrev J1 (g size:Nat) (z:Value) (l k:Nat):Ob:=⟨g,k * size,O2 z (l - k),true⟩
def Z0 (size:Nat) (cl:DV → List Value) (ok:World → (Nat → Nat → Prop) → DV → Prop) (rel:DV → Tree → Prop) (A:Option Addr) (c:Nat) (L:List Tree) (f:Nat → DV):G5:=fun w F=>Slots w F size A c L.length (fun i=>cl (f i)) ∧ (∀ i,i < L.length → ok w F (f i)) ∧ ∀ i,i < L.length → rel (f i) (L.getD i .zero)
theorem MvF.lst {size:Nat} {cl:DV → List Value} {ok:World → (Nat → Nat → Prop) → DV → Prop} {rel:DV → Tree → Prop} {A:Option Addr} {c:Nat} {L:List Tree} {f:Nat → DV} (mv:V3 ok):MvF (Z0 size cl ok rel A c L f):=⟨fun hs hM hF h =>
 ⟨h.1.move hs hM hF,fun i hi=>mv _ hs hM hF (h.2.1 i hi),h.2.2⟩⟩
section
variable {Pr:Program} {ops:Array Oper} {Q:Exit → Act → World → Prop} {w0:World} {M F:Nat → Nat → Prop} {n br:Nat} {tb:Tb} {env:C6} {P:G5} {s:Bs} {a:Act} {w:World}
 {g size:Nat} {cl:DV → List Value} {ok:World → (Nat → Nat → Prop) → DV → Prop} {rel:DV → Tree → Prop} {L:List Tree} {z:Value}
theorem RS.pull {ι:Type} {Qf:ι → G5} (h:RS w0 M F n br tb env (J8 P (fun w F=>∃ x,Qf x w F)) s a w) (mP:MvF P) (mv:∀ x,MvF (Qf x)):∃ x,RS w0 M F n br tb env (J8 P (Qf x)) s a w:=by
 obtain ⟨h1,x,hx⟩:=h.fact
 exact ⟨x,mP.and (mv x),h.ex,h.env_,h1,hx⟩
theorem RS.drop {b o:Nat} {cs:List Value} (h:RS w0 M F n br (tb ++ [⟨b,o,cs,true⟩]) env P s a w) (hb:w0.heap.size ≤ b) (hl:Q7 (tb.length + 1) env = true):RS w0 M F n br tb env (J8 P (Jp b o cs)) s a w:=by
 obtain ⟨A,m,c,hW,hr,hE,hP⟩:=h.open_
 have hW':WOk w0 M w ((rdo br A m c :: tb) ++ [⟨b,o,cs,true⟩]) []:=hW
 have h1:=hW'.cutTb (tb.length + 1)
 have hF:=Fr.cutTb w ((rdo br A m c :: tb) ++ [⟨b,o,cs,true⟩]) [] (tb.length + 1)
 have e:((rdo br A m c :: tb) ++ [(⟨b,o,cs,true⟩:Ob)]).take (tb.length + 1) = rdo br A m c :: tb:=by
  show List.take ((rdo br A m c :: tb).length) _ = _
  exact List.take_left
 have hE1:=hE.cutTb (tb.length + 1) hl
 have e2:(rdo br A m c :: (tb ++ [(⟨b,o,cs,true⟩:Ob)])).take (tb.length + 1) = rdo br A m c :: tb:=e
 rw [e] at h1 hF
 rw [e2] at hE1
 exact RS.mk' h1 (hr.move hF.step immM hF.to') hE1 (h.mv.and (MvF.at_ _ _ _)) ⟨h.mv.move hF.step immM hF.to' hP,hW'.atLast hb⟩
theorem RS.dropT {b o:Nat} {cs:List Value} (h:RS w0 M F n br (tb ++ [⟨b,o,cs,true⟩]) env P s a w) (hb:w0.heap.size ≤ b) (hl:Q7 (tb.length + 1) env = true):RS w0 M F n br tb env P s a w :=
 (h.drop hb hl).weak h.mv fun _ _ g=>g.1
theorem RS.next {l k:Nat} (h:RS w0 M F n br (tb ++ [J1 g size z l k]) env P s a w) (hk:k < l) (hz:z.cells.size = size) (hl:Q7 (tb.length + 1) env = true):RS w0 M F n br (tb ++ [J1 g size z l (k + 1),⟨g,k * size,z.cells.toList,true⟩]) env P s a w:=by
 obtain ⟨A,m,c,hW,hr,hE,hP⟩:=h.open_
 have e:O2 z (l - k) = z.cells.toList ++ O2 z (l - (k + 1)):=by rw [show l - k = (l - (k + 1)) + 1 by omega,MI]
 have hW':WOk w0 M w ((rdo br A m c :: tb) ++ [⟨g,k * size,z.cells.toList ++ O2 z (l - (k + 1)),true⟩]) []:=by rw [← e]; exact hW
 obtain ⟨h1,hF⟩:=hW'.splitL (o2:=(k + 1) * size) (by rw [Array.length_toList,hz,Nat.add_mul,Nat.one_mul])
 rw [← e] at hF
 have hE1:=hE.cutTb (tb.length + 1) hl
 have e2:(rdo br A m c :: (tb ++ [J1 g size z l k])).take (tb.length + 1) = rdo br A m c :: tb:=by
  show List.take ((rdo br A m c :: tb).length) ((rdo br A m c :: tb) ++ _) = _
  exact List.take_left
 rw [e2] at hE1
 have hE2:=(hE1.grow (J1 g size z l (k + 1))).grow ⟨g,k * size,z.cells.toList,true⟩
 have e3:((rdo br A m c :: tb) ++ [J1 g size z l (k + 1)]) ++ [(⟨g,k * size,z.cells.toList,true⟩:Ob)] = rdo br A m c :: (tb ++ [J1 g size z l (k + 1),⟨g,k * size,z.cells.toList,true⟩]):=by simp
 rw [e3] at hE2
 exact RS.mk' h1 (hr.move hF.step immM hF.to') hE2 h.mv (h.mv.move hF.step immM hF.to' hP)
theorem RS.thing {k:Nat} {D:DV} {X:G5} (h:RS w0 M F n br (tb ++ [J1 g size z L.length (k + 1),⟨g,k * size,cl D,true⟩]) env X s a w) (hg:w0.heap.size ≤ g) {t:Tree} (ht:L[k]? = some t) (mv:V3 ok) (mP:MvF P) (hcl:(cl D).length = size)
  (hx:∀ w F,X w F → P w F ∧ T5 g size cl ok rel L k w F ∧ ok w F D ∧ rel D t) (hl:Q7 (tb.length + 2) env = true):RS w0 M F n br (tb ++ [J1 g size z L.length (k + 1)]) env (J8 P (T5 g size cl ok rel L (k + 1))) s a w:=by
 have h':RS w0 M F n br ((tb ++ [J1 g size z L.length (k + 1)]) ++ [⟨g,k * size,cl D,true⟩]) env X s a w:=by
  rw [List.append_assoc]; exact h
 refine (h'.drop hg (by simpa using hl)).weak (mP.and (MvF.done mv)) fun w F hf=>?_
 obtain ⟨hf,hat⟩:=hf
 obtain ⟨h1,⟨ds,h2⟩,h3,h4⟩:=hx w F hf
 refine ⟨h1,fun i=>if i = k then D else ds i,fun i hi=>?_⟩
 by_cases hik:i = k
 ·subst hik
  simp only [if_true]
  exact ⟨hcl,by rw [Nat.zero_add]; exact hat,h3,by rw [List.getD_eq_getElem?_getD,ht]; exact h4⟩
 simp only [if_neg hik]
 exact h2 i (by omega)
theorem RS.listEnd {c:Nat} (h:RS w0 M F n br (tb ++ [J1 g size z L.length L.length]) env (J8 P (T5 g size cl ok rel L L.length)) s a w) (hg:w0.heap.size ≤ g) (mv:V3 ok) (mP:MvF P) (hc:L.length ≤ c) (hsm:L.length ≤ 1099511627776) (h0:0 < L.length)
  (hl:Q7 (tb.length + 1) env = true):∃ f:Nat → DV,RS w0 M F n br tb env (J8 P (Z0 size cl ok rel (some ⟨g,0,none⟩) c L f)) s a w:=by
 have mE:MvF (fun w F=>∃ f:Nat → DV,Z0 size cl ok rel (some ⟨g,0,none⟩) c L f w F):=⟨fun hs hM hF hx=>by
  obtain ⟨f,hx⟩:=hx
  exact ⟨f,(MvF.lst mv).move hs hM hF hx⟩⟩
 refine RS.pull (Qf:=fun f=>Z0 size cl ok rel (some ⟨g,0,none⟩) c L f) ((h.drop hg hl).weak (mP.and mE) fun w F hf=>?_) mP fun f=>MvF.lst mv
 obtain ⟨⟨h1,ds,h2⟩,_⟩:=hf
 refine ⟨h1,ds,⟨hc,hsm,fun h=>by (cases h),fun ad hA _=>?_⟩,fun i hi=>(h2 i hi).2.2.1,fun i hi=>(h2 i hi).2.2.2⟩
 obtain rfl:=Option.some.inj hA
 exact ⟨g,0,rfl,fun i hi=>⟨(h2 i hi).1,(h2 i hi).2.1⟩⟩
theorem EM {c:Code} (gf:Tree → Bs) (rest:Bs) (envk:Nat → C6) (h:RS w0 M F n br (tb ++ [⟨g,0,O2 z L.length,true⟩]) (envk 0) P (L.flatMap gf ++ rest) a w) (mv:V3 ok)
  (body:∀ k t a w,L[k]? = some t → k < L.length → RS w0 M F n br (tb ++ [J1 g size z L.length k]) (envk k) (J8 P (T5 g size cl ok rel L k)) (gf t ++ ((L.drop (k + 1)).flatMap gf ++ rest)) a w →
   c.wp Pr (Exit.then (fun a' w'=>RS w0 M F n br (tb ++ [J1 g size z L.length (k + 1)]) (envk (k + 1)) (J8 P (T5 g size cl ok rel L (k + 1))) ((L.drop (k + 1)).flatMap gf ++ rest) a' w') Q) a w)
  (fin:∀ a w,RS w0 M F n br (tb ++ [J1 g size z L.length L.length]) (envk L.length) (J8 P (T5 g size cl ok rel L L.length)) rest a w → c.wp Pr (Exit.then (fun _ _=>False) Q) a w):(Code.loop c).wp Pr Q a w:=by
 refine wp_loop_ghost (fun q a_ w_=>∃ k,q = L.length - k ∧ k ≤ L.length ∧ RS w0 M F n br (tb ++ [J1 g size z L.length k]) (envk k) (J8 P (T5 g size cl ok rel L k)) ((L.drop k).flatMap gf ++ rest) a_ w_) L.length
  ⟨0,by omega,Nat.zero_le _,?_⟩ ?_
 ·have e:J1 g size z L.length 0 = ⟨g,0,O2 z L.length,true⟩:=by simp only [J1,Nat.zero_mul,Nat.sub_zero]
  rw [e,List.drop_zero]
  exact h.weak (h.mv.and (MvF.done mv)) fun w F hP=>⟨hP,fun _=>CA,fun i hi=>absurd hi (Nat.not_lt_zero i)⟩
 rintro q aq wq ⟨k,rfl,hk,hS⟩
 rcases Nat.lt_or_ge k L.length with hlt | hge
 ·obtain ⟨t,ht⟩:∃ t,L[k]? = some t:=⟨_,List.getElem?_eq_getElem hlt⟩
  have e:(L.drop k).flatMap gf ++ rest = gf t ++ ((L.drop (k + 1)).flatMap gf ++ rest):=by
   rw [T2 ht,List.flatMap_cons,List.append_assoc]
  refine wp_mono (body k t aq wq ht hlt (hS.cast e)) fun e a' w' hq=>?_
  cases e <;> first | exact hq | exact ⟨L.length - (k + 1),by omega,k + 1,rfl,hlt,hq⟩
 obtain rfl:k = L.length:=by omega
 rw [List.drop_length] at hS
 refine wp_mono (fin aq wq hS) fun e a' w' hq=>?_
 cases e <;> first | exact hq | exact hq.elim
theorem Dr {c:Code} (h:c.wp Pr (Exit.then (fun _ _=>False) Q) a w):(Code.loop c).wp Pr Q a w:=by
 refine wp_loop_ghost (fun _ a_ w_=>a_ = a ∧ w_ = w) 0 ⟨rfl,rfl⟩ ?_
 rintro q _ _ ⟨rfl,rfl⟩
 refine wp_mono h fun e a' w' hq=>?_
 cases e <;> first | exact hq | exact hq.elim
theorem EN {x y z:Code} {Mid:Act → World → Prop} (h1:x.wp Pr (Exit.then (fun a w=>y.wp Pr (Exit.then Mid Q) a w) Q) a w) (h2:∀ a' w',Mid a' w' → z.wp Pr Q a' w'):(Code.seq x (.seq y z)).wp Pr Q a w :=
 wp_seq (Gx h1 fun a' w' hy=>wp_seq (Gx hy h2))
end
end Go.Proofs.YtoclgihkbmaolaaGreatDoor.ME