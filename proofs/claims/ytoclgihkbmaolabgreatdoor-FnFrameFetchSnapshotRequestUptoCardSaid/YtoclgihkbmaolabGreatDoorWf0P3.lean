/- The texts of a claim, put together: the engine, the contracts, the law. Own work. -/
import Derived.Test.YtoclgihkbmaolabGreatDoorWf0P2
import Derived.Deep.LoopGhost
import Derived.Test.YtoclgihkbmaolabGreatDoorProg
namespace Go.Proofs.YtoclgihkbmaolabGreatDoor.ME
open Go
open Go.RowKit
set_option linter.unusedVariables false
set_option linter.unusedSimpArgs false
set_option maxRecDepth 20000
theorem qm5 (W:Fld → Tree → Bs) (A:Option Addr) (c:Nat) (l:List Fld) (v:Int) (flex:Bool) (ct:List Value) (t:Tree) (w:World) (F:Nat → Nat → Prop) (hW_:∀ cf f ct t w F,f ∈ l → FldR w F cf f → TreeR w F ct t → (W f t).length ≤ 1099511627776 → Calls Tryz.prog 27 #[.agg cf.toArray,.int .i64 v,.bool flex,.agg ct.toArray] w (qd0 w 5 (W f t))) (hl:FldsR w F A c l) (ht:TreeR w F ct t) (hroom:(qe0 W l v flex t).length ≤ 1099511627776) :
  Calls Tryz.prog 18 #[.slice A l.length c,.int .i64 v,.bool flex,.agg ct.toArray] w (qd0 w 5 (qe0 W l v flex t)):=by
 obtain ⟨xfs,h1,h2⟩:=hl.ex
 have hsm:=h1.small
 obtain ⟨n1,s2,b3,l4,u5,A6,c7,A8,c9,fI,fJ,nB,rfl,rfl,nC,nD,qt,nE⟩:=ht.open_
 have mA:=nC.small
 have mB:=nD.small
 have hkr:=qeP l
 refine enter (n:=132) Tryz.func18 rfl Tryz.ntmps18 kz fun a hE=>?_
 have hW:=WOk.start w Nil
 refine qad [0,1] kz ?_
 let bQ:Value:=.int .i64 n1
 let bR:Value:=.slice A6 s2.length c7
 let bS:Value:=.slice A8 l4.length c9
 let bh:Value:=.slice fI u5.length fJ
 refine qam (qbt hW hE (d:=7) (cs:=[bQ,bR,.bool b3,bS,bh]) kz fun nF qu qv nG nH nI dr lp=>?_)
 let aa:Nat × SV:=(0,.v (.slice A l.length c))
 let ab:Nat × SV:=(1,.v (.int .i64 v))
 let ac:Nat × SV:=(2,.v (.bool flex))
 let ae:Nat × SV:=(7,.p 0 0)
 refine qaj [1] [] [aa,ab,ac,ae] dr lp fun qw lq=>?_
 refine qae (qaa ?_)
 let dC:Nat × SV:=(9,.v (.slice none 0 0))
 let ax:Nat × SV:=(10,.v (.slice none 0 0))
 refine qat [aa,ab,ac,ae,dC,ax] dr lq fun qx lr=>?_
 let ay:Nat × SV:=(11,.v (.int .i64 0))
 refine qat [aa,ab,ac,ae,dC,ax,ay] dr lr fun qy ls=>?_
 refine wp_seq ?_
 let aA:Nat × SV:=(21,.v (.slice A l.length c))
 let aB:Nat × SV:=(22,.v (.int .i64 ((l.length:Nat):Int)))
 refine qat [aa,ab,ac,ae,dC,ax,ay,aA,aB,(23,.v (.int .i64 0))] dr ls fun qz lu=>?_
 refine wp_block ?_
 have fK:=dr.addNil 5 1
 have nJ:=dr.frNil 5 1
 have htot:(qaL W l v (Tree.mk n1 s2 b3 l4 u5) 0).length ≤ 1099511627776:=by have h_:=hroom; rw [qe0,List.length_append] at h_; omega
 let aK:Ob:=⟨nF,0,[.int .i64 n1,.slice A6 s2.length c7,.bool b3,.slice A8 l4.length c9,.slice fI u5.length fJ],true⟩
 refine wp_loop_ghost (fun n_ a_ w_=>∃ (k:Nat) (A_:Option Addr) (c_:Nat) (dn:Bs),n_ = l.length - k ∧ k ≤ l.length ∧ (dn ++ qaL W (l.drop k) v (Tree.mk n1 s2 b3 l4 u5) k = qaL W l v (Tree.mk n1 s2 b3 l4 u5) 0) ∧ LInv fK 132 [aK] [brow A_ c_ 5 dn] [aa,ab,ac,ae,(9,.v (.slice A_ dn.length c_)),ax,ay,aA,aB,(23,.v (.int .i64 ((k:Nat):Int)))] a_ w_) (l.length) ⟨0,none,0,[],by omega,by omega,rfl,lu.pk,fK,Fr.refl _ _ _⟩ ?_
 rintro qA qB qC ⟨k,A_,c_,dn,nK,nL,hB,lv,aP,fB⟩
 let aC:Nat × SV:=(9,.v (.slice A_ dn.length c_))
 let aI:Nat × SV:=(23,.v (.int .i64 ((k:Nat):Int)))
 refine qat [aa,ab,ac,ae,aC,ax,ay,aA,aB,aI,(24,.v (.bool (decide (((k:Nat):Int) < ((l.length:Nat):Int)))))] aP lv fun qD fC=>?_
 refine wp_seq ?_
 let aG:Value:=.int .i64 0
 let mC:Value:=.agg #[.int .i64 n1,.slice A6 s2.length c7,.bool b3,.slice A8 l4.length c9,.slice fI u5.length fJ]
 refine qaA fC (b:=decide (((k:Nat):Int) < ((l.length:Nat):Int))) kz (fun fD=>?_) (fun fD=>?_)
 ·
  have nM:=of_decide_eq_true fD
  refine wp_skip (qaa (wp_seq (wp_block (qad [0,1,2,3,4,5] kz ?_))))
  refine qaj [0] [1,2,3,4,5] [aa,ab,ac,ae,aC,ax,ay,aA,aB,aI,(25,.v (.int .i64 ((k:Nat):Int)))] aP fC fun qE lw=>?_
  obtain ⟨nN,nO,lx,nP,eF⟩:=Slots.get h1 (i:=k) (by omega)
  obtain ⟨nQ,b8⟩:∃ x,l[k]? = some x:=⟨_,List.getElem?_eq_getElem (by omega)⟩
  have fE:=h2 k nQ b8
  obtain ⟨bJ,bK,bL,bM,bj,bN,bO,bP,ly,lz,nR,rfl,eG,nS,qF⟩:=fE.open_
  rw [eG] at fE
  have mD:=nS.small
  rw [eG] at eF
  refine qam (qaz lw (t:=32) (A:=A) (m:=l.length) (q:=((k:Nat):Int)) (d:=26) kz (e:=50) (size:=8) (bytes:=80) kz lx rfl (by omega) fun qG lA=>?_)
  let bk:Value:=.int .i64 bJ
  let bn:Value:=.int .i64 bK
  let bo:Value:=.int .i64 bL
  let bp:Value:=.int .i64 bM
  let bq:Value:=.int .i64 bj
  let bt:Value:=.int .i64 bN
  let bu:Value:=.int .i64 bO
  let bw:Value:=.slice ly bP.length lz
  refine qam (qaH lA (t:=50) (b:=nN) (o:=nO + k * 8) (d:=27) kz (cs:=[bk,bn,bo,bp,bq,bt,bu,bw]) (v:=.agg #[bk,bn,bo,bp,bq,bt,bu,bw]) kz (AtF.move eF aP.step nilM qa7).at_ fun qH lB=>?_)
  refine qam (qbo aP lB (d:=13) (cs:=[aG,aG,aG,aG,aG,aG,aG,.slice none 0 0]) kz fun qI qJ qK nT nU fF fL lC=>?_)
  let bx:Nat × SV:=(12,.v (.int .i64 ((k:Nat):Int)))
  let bz:Nat × SV:=(13,.p 1 0)
  refine qaj [4] [5] [aa,ab,ac,ae,aC,ax,ay,bx,bz,aA,aB,aI,(27,.v (.agg #[bk,bn,bo,bp,bq,bt,bu,bw]))] fL lC fun qL lD=>?_
  refine qam (qaK fL lD (oi:=1) (cs:=[bk,bn,bo,bp,bq,bt,bu,bw]) kz fun qM fG cJ lE=>?_)
  refine qae (qaa ?_)
  refine qad [0,1,2,3,4,5,6,7] kz ?_
  refine qaj [0,1,2,3] [4,5,6,7] [aa,ab,ac,ae,aC,ax,ay,bx,bz,aA,aB,aI,(31,.v (.bool (decide (bj < 0))))] cJ lE fun qN fM=>?_
  refine (Bool.eq_false_or_eq_true (decide (bj < 0))).elim (fun dD=>?_) (fun dD=>?_)
  ·
   have nV:=of_decide_eq_true dD
   have lF:=fM
   rw [dD] at lF
   refine qaj [4,5] [6,7] [aa,ab,ac,ae,aC,ax,ay,bx,bz,aA,aB,aI,(31,.v (.bool true)),(32,.v (.agg #[bk,bn,bo,bp,bq,bt,bu,bw])),(33,.v (.int .i64 v))] cJ lF fun qO fN=>?_
   let mF:Value:=.agg #[.int .i64 bJ,.int .i64 bK,.int .i64 bL,.int .i64 bM,.int .i64 bj,.int .i64 bN,.int .i64 bO,.slice ly bP.length lz]
   refine qam (qal fN (f:=26) (vs:=[.agg #[bk,bn,bo,bp,bq,bt,bu,bw],.int .i64 v]) (d:=34) kz Tryz.call26 (sHas bJ bK bL bM bj bN bO bP _ _ v _) ?_)
   rintro e_ nW ⟨rfl,eH⟩
   refine ⟨_,rfl,fun nX fO=>?_⟩
   have cO:=cJ.next_nil eH
   have eI:=cJ.frN eH
   refine qaj [7] [] [aa,ab,ac,ae,aC,ax,ay,bx,bz,aA,aB,aI,(35,.v (.bool (Fld.has (Fld.mk bJ bK bL bM bj bN bO bP) v)))] cO fO fun nY dE=>?_
   refine qae (qaa ?_)
   refine qaA dE (b:=Fld.has (Fld.mk bJ bK bL bM bj bN bO bP) v) kz (fun fP=>?_) (fun fP=>?_)
   ·
    refine qgE 9 kz cO fun nZ fQ cd fR=>?_
    let dF:Nat × SV:=(36,.v (.slice A_ dn.length c_))
    let dG:Nat × SV:=(37,.v (.agg #[.int .i64 bJ,.int .i64 bK,.int .i64 bL,.int .i64 bM,.int .i64 bj,.int .i64 bN,.int .i64 bO,.slice ly bP.length lz]))
    let dH:Nat × SV:=(38,.v (.int .i64 v))
    let dI:Nat × SV:=(39,.v (.bool flex))
    let dJ:Nat × SV:=(40,.v (.agg #[.int .i64 n1,.slice A6 s2.length c7,.bool b3,.slice A8 l4.length c9,.slice fI u5.length fJ]))
    let dK:Nat × SV:=(41,.v (.int .i64 ((k:Nat):Int)))
    refine qaY [0,1,2,3,4,5] [aa,ab,ac,ae,aC,ax,ay,aA,aB,aI,dF,dG,dH,dI,dJ,dK] 4 (qah (qac (qac (qah (qac qai))))) (fun _ h=>h.cells) fR dE fun n0 fS=>?_
    refine qaJ (i:=6) kz (qal fS (f:=28) (vs:=[.agg #[bQ,bR,.bool b3,bS,bh],.int .i64 ((k:Nat):Int)]) (d:=42) kz Tryz.call28 (sAt _ _ k _ _ (ht.move cd.step nilM cd.imm)) ?_)
    rintro e_ n4 ⟨mG,rfl,fT,ce⟩
    have dL:=fT.move ce nilM (fun b o h_ hb_=>cd.laid (G:=F) ce b o (.inl h_) (Nat.lt_of_lt_of_le hb_ ce.size))
    obtain ⟨fV,fW,fX,fY,fZ,f5,f7,f8,f9,ga,gb,mH,mI,dM,lG,lH,n5,n8⟩:=dL.open_
    rw [dM] at dL
    have lI:=lG.small
    have lJ:=lH.small
    rw [dM]
    refine ⟨_,rfl,fun oa gc=>?_⟩
    have cP:=cd.next_nil ce
    have cQ:=cd.frN ce
    have gd:=TT.ofW cQ cP
    refine ⟨fun _=>gd,?_⟩
    refine qaJ (i:=7) kz (qal gc (f:=27) (vs:=[.agg #[bk,bn,bo,bp,bq,bt,bu,bw],.int .i64 v,.bool flex,.agg #[.int .i64 fV,.slice f5 fW.length f7,.bool fX,.slice f8 fY.length f9,.slice ga fZ.length gb]]) (d:=43) kz Tryz.call27 ( hW_ _ _ _ _ _ _ (List.mem_of_getElem? b8) (fE.move cP.step nilM cP.imm) dL (by have h_:=congrArg List.length hB; rw [qe8 b8 ‹_› ‹_›] at h_; simp only [List.length_append] at h_; omega)) ?_)
    rintro e_ od ⟨eD,eE,rfl,ge,gg⟩
    refine ⟨_,rfl,fun oe gh=>?_⟩
    obtain ⟨cR,dN⟩:=cP.frFresh gg (brow eD eE 5 (W (Fld.mk bJ bK bL bM bj bN bO bP) (Tree.at_ (Tree.mk n1 s2 b3 l4 u5) k))) (Nat.le_refl _) ge
    have lK:(W (Fld.mk bJ bK bL bM bj bN bO bP) (Tree.at_ (Tree.mk n1 s2 b3 l4 u5) k)).length ≤ 1099511627776:=by have h_:=congrArg List.length hB; rw [qe8 b8 ‹_› ‹_›] at h_; simp only [List.length_append] at h_; omega
    have gi:=TT.ofW (cQ.trans dN) cR
    refine ⟨fun _=>gi,?_⟩
    refine qaJ (i:=8) kz (qaI cR gh (k:=0) (d:=44) (t:=24) (e:=5) (size:=1) (bytes:=1) (A:=A_) (As:=eD) (m0:=dn.length) (c:=c_) (m:=((W (Fld.mk bJ bK bL bM bj bN bO bP) (Tree.at_ (Tree.mk n1 s2 b3 l4 u5) k)).length)) (cs:=eE) (xs:=(bc dn)) (news:=bc (W (Fld.mk bJ bK bL bM bj bN bO bP) (Tree.at_ (Tree.mk n1 s2 b3 l4 u5) k))) kz kz rfl (qb8 (cR.own 1 _ rfl) (qcu _)) (qcj (cR.own 1 _ rfl)) (by have h_:=congrArg List.length hB; rw [qe8 b8 ‹_› ‹_›] at h_; simp only [List.length_append] at h_ ⊢; omega) fun cg cm og oh eJ gj gk=>?_)
    have gl:(⟨cg,cm,5,1,dn.length + (W (Fld.mk bJ bK bL bM bj bN bO bP) (Tree.at_ (Tree.mk n1 s2 b3 l4 u5) k)).length,bc dn ++ bc (W (Fld.mk bJ bK bL bM bj bN bO bP) (Tree.at_ (Tree.mk n1 s2 b3 l4 u5) k))⟩:Rw) = brow cg cm 5 (dn ++ (W (Fld.mk bJ bK bL bM bj bN bO bP) (Tree.at_ (Tree.mk n1 s2 b3 l4 u5) k))):=qa6 (rfl) rfl
    obtain ⟨cS,eK⟩:=gj.rowEq 0 [brow cg cm 5 (dn ++ (W (Fld.mk bJ bK bL bM bj bN bO bP) (Tree.at_ (Tree.mk n1 s2 b3 l4 u5) k))),brow eD eE 5 (W (Fld.mk bJ bK bL bM bj bN bO bP) (Tree.at_ (Tree.mk n1 s2 b3 l4 u5) k))] gl
    let eM:Nat × SV:=(42,.v (.agg #[.int .i64 fV,.slice f5 fW.length f7,.bool fX,.slice f8 fY.length f9,.slice ga fZ.length gb]))
    let eN:Nat × SV:=(43,.v (.slice eD ((W (Fld.mk bJ bK bL bM bj bN bO bP) (Tree.at_ (Tree.mk n1 s2 b3 l4 u5) k)).length) eE))
    have gm:=EnvOk.pick gk (ks:=[0,1,2,7,9,10,11,21,22,23,36,37,38,39,40,41,42,43,44]) (env':=[aa,ab,ac,ae,aC,ax,ay,aA,aB,aI,dF,dG,dH,dI,dJ,dK,eM,eN,(44,.v (.slice cg (dn.length + (W (Fld.mk bJ bK bL bM bj bN bO bP) (Tree.at_ (Tree.mk n1 s2 b3 l4 u5) k)).length) cm))]) kz
    have gn:=gm.cast (env':=[aa,ab,ac,ae,aC,ax,ay,aA,aB,aI,dF,dG,dH,dI,dJ,dK,eM,eN,(44,.v (.slice cg ((dn ++ (W (Fld.mk bJ bK bL bM bj bN bO bP) (Tree.at_ (Tree.mk n1 s2 b3 l4 u5) k))).length) cm))]) (by simp only [List.length_append,List.length_cons,List.length_nil,Nat.zero_add])
    have gp:=TT.ofW (((cQ.trans dN).trans eJ).trans eK) cS
    refine ⟨fun _=>gp,?_⟩
    let dO:Nat × SV:=(9,.v (.slice cg ((dn ++ (W (Fld.mk bJ bK bL bM bj bN bO bP) (Tree.at_ (Tree.mk n1 s2 b3 l4 u5) k))).length) cm))
    refine qaJ (i:=9) kz (qcg [0,1,2,7,9,10,11,21,22,23] cS.cells gn (env':=[aa,ab,ac,ae,dO,ax,ay,aA,aB,aI]) kz fun ol gq=>?_)
    refine ⟨fun h=>absurd rfl h,?_⟩
    refine qaW kz ?_ _
    refine qaw (qaa (qaq [0,1] kz ?_))
    refine qaj [0,1] [] [aa,ab,ac,ae,dO,ax,ay,aA,aB,(23,.v (.int .i64 (IntKind.i64.wrap (((k:Nat):Int) + 1))))] cS gq fun om gt=>?_
    refine qae (qaa ?_)
    obtain ⟨eO,gv,gw⟩:=cS.cutB gt 1 [aK] [aa,ab,ac,ae,dO,ax,ay,aA,aB,(23,.v (.int .i64 (IntKind.i64.wrap (((k:Nat):Int) + 1))))]
    obtain ⟨gx,gy⟩:=gv.cutR 1 [brow cg cm 5 (dn ++ (W (Fld.mk bJ bK bL bM bj bN bO bP) (Tree.at_ (Tree.mk n1 s2 b3 l4 u5) k)))]
    have gz:IntKind.i64.wrap (((k:Nat):Int) + 1) = ((k + 1:Nat):Int):=qbq (by omega)
    rw [gz] at eO
    exact ⟨l.length - (k + 1),by omega,k + 1,cg,cm,dn ++ (W (Fld.mk bJ bK bL bM bj bN bO bP) (Tree.at_ (Tree.mk n1 s2 b3 l4 u5) k)),rfl,by omega,by rw [List.append_assoc,← qe8 b8 ‹_› ‹_›]; exact hB,eO.pk,gx,((((((((((fB.trans fF).trans fG).trans eI).trans fQ).trans cQ).trans dN).trans eJ).trans eK).trans gw).trans gy)⟩
   refine wp_skip (qaw (qaa (qaq [0,1] kz ?_)))
   refine qaj [0,1] [] [aa,ab,ac,ae,aC,ax,ay,aA,aB,(23,.v (.int .i64 (IntKind.i64.wrap (((k:Nat):Int) + 1))))] cO dE fun oq gA=>?_
   refine qae (qaa ?_)
   obtain ⟨eP,gB,gC⟩:=cO.cutB gA 1 [aK] [aa,ab,ac,ae,aC,ax,ay,aA,aB,(23,.v (.int .i64 (IntKind.i64.wrap (((k:Nat):Int) + 1))))]
   have gD:IntKind.i64.wrap (((k:Nat):Int) + 1) = ((k + 1:Nat):Int):=qbq (by omega)
   rw [gD] at eP
   exact ⟨l.length - (k + 1),by omega,k + 1,A_,c_,dn,rfl,by omega,by rw [← qjk b8 ‹_›]; exact hB,eP.pk,gB,((((fB.trans fF).trans fG).trans eI).trans gC)⟩
  have mJ:=of_decide_eq_false dD
  have gE:=fM.cast (env':=[aa,ab,ac,ae,aC,ax,ay,bx,bz,aA,aB,aI,(31,.v (.bool false))]) (by rw [dD])
  refine qaj [4,5,6,7] [] [aa,ab,ac,ae,aC,ax,ay,bx,bz,aA,aB,aI,(35,.v (.bool false))] cJ gE fun ot eQ=>?_
  refine qae (qaa ?_)
  refine qau eQ (b:=false) kz rfl ?_
  refine wp_skip (qaw (qaa (qaq [0,1] kz ?_)))
  refine qaj [0,1] [] [aa,ab,ac,ae,aC,ax,ay,aA,aB,(23,.v (.int .i64 (IntKind.i64.wrap (((k:Nat):Int) + 1))))] cJ eQ fun ou gF=>?_
  refine qae (qaa ?_)
  obtain ⟨eR,gG,gH⟩:=cJ.cutB gF 1 [aK] [aa,ab,ac,ae,aC,ax,ay,aA,aB,(23,.v (.int .i64 (IntKind.i64.wrap (((k:Nat):Int) + 1))))]
  have gI:IntKind.i64.wrap (((k:Nat):Int) + 1) = ((k + 1:Nat):Int):=qbq (by omega)
  rw [gI] at eR
  exact ⟨l.length - (k + 1),by omega,k + 1,A_,c_,dn,rfl,by omega,by rw [← qjj b8 ‹_›]; exact hB,eR.pk,gG,(((fB.trans fF).trans fG).trans gH)⟩
 have mK:=of_decide_eq_false fD
 refine wp_exit (qay (qay (qaQ (qaa (wp_seq (qat [aa,ab,ac,ae,aC,ax,ay,(47,.v (.bool (!flex)))] aP fC fun ov dP=>?_))))))
 refine qaA dP (b:=!flex) kz (fun cU=>?_) (fun cU=>?_)
 ·
  refine qat [(8,.v (.slice A_ dn.length c_))] aP dP fun ow gJ=>?_
  refine wp_ret (qaE (qaD gJ aP.cells (v:=.slice A_ dn.length c_) kz ?_))
  exact qbc aP (k:=0) rfl (by rw [show flex = false by simpa using cU,qj9,← hB,qhu (by omega),List.append_nil])
 refine wp_skip (qaa (wp_seq (qad [0,1,2,3] kz ?_)))
 refine qaj [0] [1,2,3] [aa,ab,ac,ae,aC,ax,ay,(49,.v (.slice A l.length c))] aP dP fun ox gK=>?_
 refine qam (qal gK (f:=29) (vs:=[.slice A l.length c]) (d:=50) kz Tryz.call29 (qlK _ _ l _ _ ⟨xfs,(h1.move aP.step nilM aP.imm),(fun i_ x_ h_=>((h2 i_ x_ h_).move aP.step nilM aP.imm))⟩) ?_)
 rintro e_ oy ⟨rfl,eS⟩
 refine ⟨_,rfl,fun oz gL=>?_⟩
 have eT:=aP.next_nil eS
 have mL:=aP.frN eS
 let dQ:Nat × SV:=(52,.v (.int .i64 0))
 refine qaj [2,3] [] [aa,ab,ac,ae,aC,ax,ay,(51,.v (.int .i64 (IntKind.i64.wrap (qar l)))),dQ] eT gL fun oA eU=>?_
 refine qae (qaa ?_)
 refine wp_block ?_
 have hdn:dn = qaL W l v (Tree.mk n1 s2 b3 l4 u5) 0:=by rw [← hB,qhu (by omega),List.append_nil]
 have eV:dn = (qaL W l v (Tree.mk n1 s2 b3 l4 u5) 0):=hdn
 have gM:=congrArg (brow A_ c_ 5) eV
 obtain ⟨eW,mM⟩:=eT.rowEq 0 [brow A_ c_ 5 (qaL W l v (Tree.mk n1 s2 b3 l4 u5) 0)] gM
 simp only [aC,eV] at eU
 have hfx:flex = true:=by simpa using cU
 have htot2:(qaL W l v (Tree.mk n1 s2 b3 l4 u5) 0).length + (uv (qaR W l (Tree.mk n1 s2 b3 l4 u5) (qar l).toNat + (qan l u5).length)).length + ((qaB W l (Tree.mk n1 s2 b3 l4 u5) (qar l).toNat).length + (qbb (qan l u5)).length) ≤ 1099511627776:=by have h_:=hroom; rw [hfx,qgn] at h_; simpa only [List.length_append] using h_
 have hmono:=fun i (h_:i ≤ (qar l).toNat)=>qjl W l (Tree.mk n1 s2 b3 l4 u5) h_
 have hcnt:=qiG W l (Tree.mk n1 s2 b3 l4 u5)
 have hknn:=qka l
 have gN:=EnvOk.pick eU (ks:=[0,1,2,7,9,10,11,51,52]) (env':=[aa,ab,ac,ae,(9,.v (.slice A_ ((qaL W l v (Tree.mk n1 s2 b3 l4 u5) 0).length) c_)),ax,ay,(51,.v (.int .i64 (IntKind.i64.wrap (qar l)))),dQ]) kz
 have gO:=gN.cast (env':=[aa,ab,ac,ae,(9,.v (.slice A_ ((qaL W l v (Tree.mk n1 s2 b3 l4 u5) 0).length) c_)),ax,ay,(51,.v (.int .i64 (((qar l).toNat:Nat):Int))),dQ]) (by rw [hknn])
 have eX:=eW.addNil 5 1
 have mN:=eW.frNil 5 1
 refine wp_loop_ghost (fun n_ a_ w_=>∃ (k2:Nat) (A2_:Option Addr) (c2_:Nat),n_ = (qar l).toNat - k2 ∧ k2 ≤ (qar l).toNat ∧ LInv eX 132 [aK] [brow A_ c_ 5 (qaL W l v (Tree.mk n1 s2 b3 l4 u5) 0),brow A2_ c2_ 5 (qaB W l (Tree.mk n1 s2 b3 l4 u5) k2)] [aa,ab,ac,ae,(9,.v (.slice A_ ((qaL W l v (Tree.mk n1 s2 b3 l4 u5) 0).length) c_)),(10,.v (.slice A2_ ((qaB W l (Tree.mk n1 s2 b3 l4 u5) k2).length) c2_)),(11,.v (.int .i64 ((qaR W l (Tree.mk n1 s2 b3 l4 u5) k2:Nat):Int))),(51,.v (.int .i64 (((qar l).toNat:Nat):Int))),(52,.v (.int .i64 ((k2:Nat):Int)))] a_ w_) ((qar l).toNat) ⟨0,none,0,by omega,by omega,gO.pk,eX,Fr.refl _ _ _⟩ ?_
 rintro oB oC oD ⟨k2,A2_,c2_,mO,mQ,gP,aH,gQ⟩
 let ap:Nat × SV:=(52,.v (.int .i64 ((k2:Nat):Int)))
 refine qat [aa,ab,ac,ae,(9,.v (.slice A_ ((qaL W l v (Tree.mk n1 s2 b3 l4 u5) 0).length) c_)),(10,.v (.slice A2_ ((qaB W l (Tree.mk n1 s2 b3 l4 u5) k2).length) c2_)),(11,.v (.int .i64 ((qaR W l (Tree.mk n1 s2 b3 l4 u5) k2:Nat):Int))),(51,.v (.int .i64 (((qar l).toNat:Nat):Int))),ap,(53,.v (.bool (decide (((k2:Nat):Int) < (((qar l).toNat:Nat):Int)))))] aH gP fun oE dR=>?_
 refine wp_seq (qaA dR (b:=decide (((k2:Nat):Int) < (((qar l).toNat:Nat):Int))) kz (fun dS=>?_) (fun dS=>?_))
 ·
  have mR:=of_decide_eq_true dS
  refine wp_skip (qaa (wp_seq (wp_block ?_)))
  let ar:Nat × SV:=(14,.v (.int .i64 ((k2:Nat):Int)))
  refine qat [aa,ab,ac,ae,(9,.v (.slice A_ ((qaL W l v (Tree.mk n1 s2 b3 l4 u5) 0).length) c_)),(10,.v (.slice A2_ ((qaB W l (Tree.mk n1 s2 b3 l4 u5) k2).length) c2_)),(11,.v (.int .i64 ((qaR W l (Tree.mk n1 s2 b3 l4 u5) k2:Nat):Int))),ar,(51,.v (.int .i64 (((qar l).toNat:Nat):Int))),ap] aH dR fun oF gR=>?_
  let av:Nat × SV:=(55,.v (.slice A l.length c))
  let aw:Nat × SV:=(56,.v (.int .i64 ((l.length:Nat):Int)))
  refine qat [aa,ab,ac,ae,(9,.v (.slice A_ ((qaL W l v (Tree.mk n1 s2 b3 l4 u5) 0).length) c_)),(10,.v (.slice A2_ ((qaB W l (Tree.mk n1 s2 b3 l4 u5) k2).length) c2_)),(11,.v (.int .i64 ((qaR W l (Tree.mk n1 s2 b3 l4 u5) k2:Nat):Int))),ar,(51,.v (.int .i64 (((qar l).toNat:Nat):Int))),ap,av,aw,(57,.v (.int .i64 0))] aH gR fun oG eY=>?_
  refine wp_block ?_
  have eZ:(qaB W l (Tree.mk n1 s2 b3 l4 u5) k2) = (qaB W l (Tree.mk n1 s2 b3 l4 u5) k2 ++ []):=(List.append_nil _).symm
  have gS:=congrArg (brow A2_ c2_ 5) eZ
  obtain ⟨e9,gT⟩:=aH.rowEq 1 [brow A_ c_ 5 (qaL W l v (Tree.mk n1 s2 b3 l4 u5) 0),brow A2_ c2_ 5 (qaB W l (Tree.mk n1 s2 b3 l4 u5) k2 ++ [])] gS
  rw [eZ] at eY
  have hm2:=hmono (k2 + 1) (by omega)
  rw [qaB,List.length_append] at hm2
  have hc2:=hcnt (k2 + 1)
  rw [qaR,qaB,List.length_append] at hc2
  have hc3:=qif W k2 (Tree.mk n1 s2 b3 l4 u5) l 0
  refine wp_loop_ghost (fun n_ a_ w_=>∃ (q:Nat) (A3_:Option Addr) (c3_:Nat) (dm:Bs) (cn:Nat),n_ = l.length - q ∧ q ≤ l.length ∧ (dm ++ tagB W (l.drop q) k2 (Tree.mk n1 s2 b3 l4 u5) q = tagB W l k2 (Tree.mk n1 s2 b3 l4 u5) 0) ∧ (cn + tagN W (l.drop q) k2 (Tree.mk n1 s2 b3 l4 u5) q = tagN W l k2 (Tree.mk n1 s2 b3 l4 u5) 0) ∧ LInv e9 132 [aK] [brow A_ c_ 5 (qaL W l v (Tree.mk n1 s2 b3 l4 u5) 0),brow A3_ c3_ 5 (qaB W l (Tree.mk n1 s2 b3 l4 u5) k2 ++ dm)] [aa,ab,ac,ae,(9,.v (.slice A_ ((qaL W l v (Tree.mk n1 s2 b3 l4 u5) 0).length) c_)),(10,.v (.slice A3_ ((qaB W l (Tree.mk n1 s2 b3 l4 u5) k2 ++ dm).length) c3_)),(11,.v (.int .i64 ((qaR W l (Tree.mk n1 s2 b3 l4 u5) k2 + cn:Nat):Int))),ar,(51,.v (.int .i64 (((qar l).toNat:Nat):Int))),ap,av,aw,(57,.v (.int .i64 ((q:Nat):Int)))] a_ w_) (l.length) ⟨0,A2_,c2_,[],0,by omega,by omega,rfl,Nat.zero_add _,eY.pk,e9,Fr.refl _ _ _⟩ ?_
  rintro oH oI oJ ⟨q,A3_,c3_,dm,cn,mS,mT,hB2,hN2,gU,bT,cV⟩
  let az:Nat × SV:=(57,.v (.int .i64 ((q:Nat):Int)))
  refine qat [aa,ab,ac,ae,(9,.v (.slice A_ ((qaL W l v (Tree.mk n1 s2 b3 l4 u5) 0).length) c_)),(10,.v (.slice A3_ ((qaB W l (Tree.mk n1 s2 b3 l4 u5) k2 ++ dm).length) c3_)),(11,.v (.int .i64 ((qaR W l (Tree.mk n1 s2 b3 l4 u5) k2 + cn:Nat):Int))),ar,(51,.v (.int .i64 (((qar l).toNat:Nat):Int))),ap,av,aw,az,(58,.v (.bool (decide (((q:Nat):Int) < ((l.length:Nat):Int)))))] bT gU fun oK dT=>?_
  refine wp_seq (qaA dT (b:=decide (((q:Nat):Int) < ((l.length:Nat):Int))) kz (fun dU=>?_) (fun dU=>?_))
  ·
   have mU:=of_decide_eq_true dU
   refine wp_skip (qaa (wp_seq (wp_block (qad [0,1,2,3,4,5] kz ?_))))
   refine qaj [0] [1,2,3,4,5] [aa,ab,ac,ae,(9,.v (.slice A_ ((qaL W l v (Tree.mk n1 s2 b3 l4 u5) 0).length) c_)),(10,.v (.slice A3_ ((qaB W l (Tree.mk n1 s2 b3 l4 u5) k2 ++ dm).length) c3_)),(11,.v (.int .i64 ((qaR W l (Tree.mk n1 s2 b3 l4 u5) k2 + cn:Nat):Int))),ar,(51,.v (.int .i64 (((qar l).toNat:Nat):Int))),ap,av,aw,az,(59,.v (.int .i64 ((q:Nat):Int)))] bT dT fun oL gV=>?_
   obtain ⟨lL,lM,gW,mV,dV⟩:=Slots.get h1 (i:=q) (by omega)
   obtain ⟨lN,aJ⟩:∃ x,l[q]? = some x:=⟨_,List.getElem?_eq_getElem (by omega)⟩
   have cW:=h2 q lN aJ
   obtain ⟨ah,ai,aj,ak,ag,al,am,ao,gX,gY,mW,rfl,dW,lO,oM⟩:=cW.open_
   rw [dW] at cW
   have lP:=lO.small
   rw [dW] at dV
   refine qam (qaz gV (t:=32) (A:=A) (m:=l.length) (q:=((q:Nat):Int)) (d:=60) kz (e:=50) (size:=8) (bytes:=80) kz gW rfl (by omega) fun oN gZ=>?_)
   let aV:Value:=.int .i64 ah
   let aW:Value:=.int .i64 ai
   let aX:Value:=.int .i64 aj
   let aY:Value:=.int .i64 ak
   let aZ:Value:=.int .i64 ag
   let ba:Value:=.int .i64 al
   let bd:Value:=.int .i64 am
   let bf:Value:=.slice gX ao.length gY
   refine qam (qaH gZ (t:=50) (b:=lL) (o:=lM + q * 8) (d:=61) kz (cs:=[aV,aW,aX,aY,aZ,ba,bd,bf]) (v:=.agg #[aV,aW,aX,aY,aZ,ba,bd,bf]) kz (AtF.move dV bT.step nilM qa7).at_ fun oO hC=>?_)
   refine qam (qbo bT hC (d:=16) (cs:=[aG,aG,aG,aG,aG,aG,aG,.slice none 0 0]) kz fun oP oQ oR mX mY dX fa hJ=>?_)
   let bA:Nat × SV:=(15,.v (.int .i64 ((q:Nat):Int)))
   let bB:Nat × SV:=(16,.p 1 0)
   refine qaj [4] [5] [aa,ab,ac,ae,(9,.v (.slice A_ ((qaL W l v (Tree.mk n1 s2 b3 l4 u5) 0).length) c_)),(10,.v (.slice A3_ ((qaB W l (Tree.mk n1 s2 b3 l4 u5) k2 ++ dm).length) c3_)),(11,.v (.int .i64 ((qaR W l (Tree.mk n1 s2 b3 l4 u5) k2 + cn:Nat):Int))),ar,bA,bB,(51,.v (.int .i64 (((qar l).toNat:Nat):Int))),ap,av,aw,az,(61,.v (.agg #[aV,aW,aX,aY,aZ,ba,bd,bf]))] fa hJ fun oS hK=>?_
   refine qam (qaK fa hK (oi:=1) (cs:=[aV,aW,aX,aY,aZ,ba,bd,bf]) kz fun oT dY hZ ia=>?_)
   refine qae (qaa ?_)
   refine qbu 12 kz hZ fun oU dZ bC d5=>?_
   refine qaY [0,1,2,3,4] [aa,ab,ac,ae,(9,.v (.slice A_ ((qaL W l v (Tree.mk n1 s2 b3 l4 u5) 0).length) c_)),(10,.v (.slice A3_ ((qaB W l (Tree.mk n1 s2 b3 l4 u5) k2 ++ dm).length) c3_)),(11,.v (.int .i64 ((qaR W l (Tree.mk n1 s2 b3 l4 u5) k2 + cn:Nat):Int))),ar,bA,bB,(51,.v (.int .i64 (((qar l).toNat:Nat):Int))),ap,av,aw,az,(66,.v (.bool (ag == ((k2:Nat):Int))))] 7 (qac (qah (qac (qac (qah (qah (qac (qac (qah (qac qai)))))))))) (fun _ h=>h.cells) d5 ia fun oV fb=>?_
   refine (Bool.eq_false_or_eq_true (ag == ((k2:Nat):Int))).elim (fun cq=>?_) (fun cq=>?_)
   ·
    have mZ:ag = ((k2:Nat):Int):=by simpa using cq
    have ib:=fb
    rw [cq] at ib
    refine qaY [5,6,7] [aa,ab,ac,ae,(9,.v (.slice A_ ((qaL W l v (Tree.mk n1 s2 b3 l4 u5) 0).length) c_)),(10,.v (.slice A3_ ((qaB W l (Tree.mk n1 s2 b3 l4 u5) k2 ++ dm).length) c3_)),(11,.v (.int .i64 ((qaR W l (Tree.mk n1 s2 b3 l4 u5) k2 + cn:Nat):Int))),ar,bA,bB,(51,.v (.int .i64 (((qar l).toNat:Nat):Int))),ap,av,aw,az,(66,.v (.bool true)),(67,.v (.agg #[aV,aW,aX,aY,aZ,ba,bd,bf])),(68,.v (.agg #[bQ,bR,.bool b3,bS,bh])),(69,.v (.int .i64 ((q:Nat):Int)))] 4 (qac (qah (qac (qac (qah (qah (qac (qac (qah (qac qai)))))))))) (fun _ h=>h.cells) d5 ib fun oW ic=>?_
    refine qaJ (i:=8) kz (qal ic (f:=28) (vs:=[.agg #[bQ,bR,.bool b3,bS,bh],.int .i64 ((q:Nat):Int)]) (d:=70) kz Tryz.call28 (sAt _ _ q _ _ (ht.move bC.step nilM bC.imm)) ?_)
    rintro e_ oX ⟨m4,rfl,ig,cr⟩
    have d6:=ig.move cr nilM (fun b o h_ hb_=>bC.laid (G:=F) cr b o (.inl h_) (Nat.lt_of_lt_of_le hb_ cr.size))
    obtain ⟨lQ,lR,lS,lT,lU,lV,lW,lX,lY,lZ,l0,m5,m6,d7,l3,l5,oY,oZ⟩:=d6.open_
    rw [d7] at d6
    have l6:=l3.small
    have l7:=l5.small
    rw [d7]
    refine ⟨_,rfl,fun o5 ii=>?_⟩
    have cu:=bC.next_nil cr
    have cX:=bC.frN cr
    have ij:=TT.ofW cX cu
    refine ⟨fun _=>ij,?_⟩
    let m7:Value:=.agg #[.int .i64 ah,.int .i64 ai,.int .i64 aj,.int .i64 ak,.int .i64 ag,.int .i64 al,.int .i64 am,.slice gX ao.length gY]
    refine qaJ (i:=9) kz (qal ii (f:=30) (vs:=[.agg #[aV,aW,aX,aY,aZ,ba,bd,bf],.agg #[.int .i64 lQ,.slice lV lR.length lW,.bool lS,.slice lX lT.length lY,.slice lZ lU.length l0]]) (d:=71) kz Tryz.call30 (qlL _ _ _ _ _ _ _ (cW.move cu.step nilM cu.imm) (Nat.le_refl _) d6) ?_)
    rintro e_ o6 ⟨rfl,fe⟩
    refine ⟨_,rfl,fun o7 ik=>?_⟩
    have cY:=cu.next_nil fe
    have d8:=cu.frN fe
    have ff:=TT.ofW (cX.trans d8) cY
    refine ⟨fun _=>ff,?_⟩
    refine qaY [10,11] [aa,ab,ac,ae,(9,.v (.slice A_ ((qaL W l v (Tree.mk n1 s2 b3 l4 u5) 0).length) c_)),(10,.v (.slice A3_ ((qaB W l (Tree.mk n1 s2 b3 l4 u5) k2 ++ dm).length) c3_)),(11,.v (.int .i64 ((qaR W l (Tree.mk n1 s2 b3 l4 u5) k2 + cn:Nat):Int))),ar,bA,bB,(51,.v (.int .i64 (((qar l).toNat:Nat):Int))),ap,av,aw,az,(73,.v (.bool (!(Fld.usual (Fld.mk ah ai aj ak ag al am ao) (Tree.at_ (Tree.mk n1 s2 b3 l4 u5) q)))))] 0 (qac (qah (qac (qac (qah (qah (qac (qac (qah (qac qai)))))))))) (fun _ h=>h.cells) ff ik fun o8 d9=>?_
    refine qaW kz ?_ _
    refine qaa (qaA d9 (b:=!(Fld.usual (Fld.mk ah ai aj ak ag al am ao) (Tree.at_ (Tree.mk n1 s2 b3 l4 u5) q))) kz (fun aO=>?_) (fun aO=>?_))
    ·
     refine qbu 7 kz cY fun o9 il cv im=>?_
     refine qaY [0,1,2,3,4] [aa,ab,ac,ae,(9,.v (.slice A_ ((qaL W l v (Tree.mk n1 s2 b3 l4 u5) 0).length) c_)),(10,.v (.slice A3_ ((qaB W l (Tree.mk n1 s2 b3 l4 u5) k2 ++ dm).length) c3_)),(11,.v (.int .i64 ((qaR W l (Tree.mk n1 s2 b3 l4 u5) k2 + cn:Nat):Int))),ar,(51,.v (.int .i64 (((qar l).toNat:Nat):Int))),ap,av,aw,az,(74,.v (.agg #[aV,aW,aX,aY,aZ,ba,bd,bf])),(75,.v (.int .i64 v)),(76,.v (.bool flex)),(77,.v (.agg #[bQ,bR,.bool b3,bS,bh])),(78,.v (.int .i64 ((q:Nat):Int)))] 3 (qac (qah (qac (qac (qah (qah (qac (qac (qah (qac qai)))))))))) (fun _ h=>h.cells) im d9 fun pa io=>?_
     refine qaJ (i:=5) kz (qal io (f:=28) (vs:=[.agg #[bQ,bR,.bool b3,bS,bh],.int .i64 ((q:Nat):Int)]) (d:=79) kz Tryz.call28 (sAt _ _ q _ _ (ht.move cv.step nilM cv.imm)) ?_)
     rintro e_ pb ⟨m8,rfl,ip,cw⟩
     have ea:=ip.move cw nilM (fun b o h_ hb_=>cv.laid (G:=F) cw b o (.inl h_) (Nat.lt_of_lt_of_le hb_ cw.size))
     obtain ⟨l9,ma,mc,md,me,mf,mg,mh,mj,ml,mn,m9,nf,eb,mo,mp,pc,pd⟩:=ea.open_
     rw [eb] at ea
     have mq:=mo.small
     have mr:=mp.small
     rw [eb]
     refine ⟨_,rfl,fun pe iq=>?_⟩
     have cZ:=cv.next_nil cw
     have ec:=cv.frN cw
     have ir:=TT.ofW ec cZ
     refine ⟨fun _=>ir,?_⟩
     refine qaJ (i:=6) kz (qal iq (f:=27) (vs:=[.agg #[aV,aW,aX,aY,aZ,ba,bd,bf],.int .i64 v,.bool flex,.agg #[.int .i64 l9,.slice mf ma.length mg,.bool mc,.slice mh md.length mj,.slice ml me.length mn]]) (d:=80) kz Tryz.call27 ( hW_ _ _ _ _ _ _ (List.mem_of_getElem? aJ) (cW.move cZ.step nilM cZ.imm) ea (by have h_:=congrArg List.length hB2; rw [qev aJ (by omega) (by simpa using aO)] at h_; simp only [List.length_append] at h_; omega)) ?_)
     rintro e_ pf ⟨cK,cL,rfl,iu,iv⟩
     refine ⟨_,rfl,fun pg iw=>?_⟩
     obtain ⟨c5,fg⟩:=cZ.frFresh iv (brow cK cL 5 (W (Fld.mk ah ai aj ak ag al am ao) (Tree.at_ (Tree.mk n1 s2 b3 l4 u5) q))) (Nat.le_refl _) iu
     have mt:(W (Fld.mk ah ai aj ak ag al am ao) (Tree.at_ (Tree.mk n1 s2 b3 l4 u5) q)).length ≤ 1099511627776:=by have h_:=congrArg List.length hB2; rw [qev aJ (by omega) (by simpa using aO)] at h_; simp only [List.length_append] at h_; omega
     have ix:=TT.ofW (ec.trans fg) c5
     refine ⟨fun _=>ix,?_⟩
     let aL:Nat × SV:=(17,.v (.slice cK ((W (Fld.mk ah ai aj ak ag al am ao) (Tree.at_ (Tree.mk n1 s2 b3 l4 u5) q)).length) cL))
     refine qaJ (i:=7) kz (qcg [0,1,2,7,9,10,11,14,17,51,52,55,56,57] c5.cells iw (env':=[aa,ab,ac,ae,(9,.v (.slice A_ ((qaL W l v (Tree.mk n1 s2 b3 l4 u5) 0).length) c_)),(10,.v (.slice A3_ ((qaB W l (Tree.mk n1 s2 b3 l4 u5) k2 ++ dm).length) c3_)),(11,.v (.int .i64 ((qaR W l (Tree.mk n1 s2 b3 l4 u5) k2 + cn:Nat):Int))),ar,aL,(51,.v (.int .i64 (((qar l).toNat:Nat):Int))),ap,av,aw,az]) kz fun ph iy=>?_)
     refine ⟨fun h=>absurd rfl h,?_⟩
     refine qaW kz ?_ _
     refine qaa (qad [0,1,2,3,4,5,6,7,8,9,10,11,12] kz ?_)
     refine qaj [0,1,2] [3,4,5,6,7,8,9,10,11,12] [aa,ab,ac,ae,(9,.v (.slice A_ ((qaL W l v (Tree.mk n1 s2 b3 l4 u5) 0).length) c_)),(11,.v (.int .i64 ((qaR W l (Tree.mk n1 s2 b3 l4 u5) k2 + cn:Nat):Int))),ar,aL,(51,.v (.int .i64 (((qar l).toNat:Nat):Int))),ap,av,aw,az,(81,.v (.slice A3_ ((qaB W l (Tree.mk n1 s2 b3 l4 u5) k2 ++ dm).length) c3_)),(83,.v (.int .u64 (IntKind.u64.wrap ((k2:Nat):Int))))] c5 iy fun pi iz=>?_
     have iA:IntKind.u64.wrap ((k2:Nat):Int) = ((k2:Nat):Int):=by simp only [qaG,qap,qb0,IntKind.wrap_i64,IntKind.wrap_i32]; omega
     have iB:=EnvOk.pick iz (ks:=[0,1,2,7,9,11,14,17,51,52,55,56,57,81,83]) (env':=[aa,ab,ac,ae,(9,.v (.slice A_ ((qaL W l v (Tree.mk n1 s2 b3 l4 u5) 0).length) c_)),(11,.v (.int .i64 ((qaR W l (Tree.mk n1 s2 b3 l4 u5) k2 + cn:Nat):Int))),ar,aL,(51,.v (.int .i64 (((qar l).toNat:Nat):Int))),ap,av,aw,az,(81,.v (.slice A3_ ((qaB W l (Tree.mk n1 s2 b3 l4 u5) k2 ++ dm).length) c3_)),(83,.v (.int .u64 (IntKind.u64.wrap ((k2:Nat):Int))))]) kz
     let da:Nat × SV:=(83,.v (.int .u64 ((k2:Nat):Int)))
     have iC:=iB.cast (env':=[aa,ab,ac,ae,(9,.v (.slice A_ ((qaL W l v (Tree.mk n1 s2 b3 l4 u5) 0).length) c_)),(11,.v (.int .i64 ((qaR W l (Tree.mk n1 s2 b3 l4 u5) k2 + cn:Nat):Int))),ar,aL,(51,.v (.int .i64 (((qar l).toNat:Nat):Int))),ap,av,aw,az,(81,.v (.slice A3_ ((qaB W l (Tree.mk n1 s2 b3 l4 u5) k2 ++ dm).length) c3_)),da]) (by simp only [ap,ar,da,iA]; try rfl)
     refine qam (qal iC (f:=31) (vs:=[.int .u64 ((k2:Nat):Int)]) (d:=84) kz Tryz.call31 (qeA k2 (by omega) _) ?_)
     rintro e_ pj ⟨dt,du,rfl,iD,iE⟩
     refine ⟨_,rfl,fun pl iF=>?_⟩
     obtain ⟨ee,iG⟩:=c5.frFresh iE (brow dt du 5 (uv k2)) (Nat.le_refl _) iD
     refine qam (qaI ee iF (k:=1) (d:=85) (t:=24) (e:=5) (size:=1) (bytes:=1) (A:=A3_) (As:=dt) (m0:=((qaB W l (Tree.mk n1 s2 b3 l4 u5) k2 ++ dm).length)) (c:=c3_) (m:=((uv k2).length)) (cs:=du) (xs:=(bc (qaB W l (Tree.mk n1 s2 b3 l4 u5) k2 ++ dm))) (news:=bc (uv k2)) kz kz rfl (qb8 (ee.own 3 _ rfl) (qcu _)) (qcj (ee.own 3 _ rfl)) (by have h_:=congrArg List.length hB2; rw [qev aJ (by omega) (by simpa using aO)] at h_; simp only [List.length_append] at h_ ⊢; omega) fun bD bE pm pn iH iI iJ=>?_)
     have iK:(⟨bD,bE,5,1,(qaB W l (Tree.mk n1 s2 b3 l4 u5) k2 ++ dm).length + (uv k2).length,bc (qaB W l (Tree.mk n1 s2 b3 l4 u5) k2 ++ dm) ++ bc (uv k2)⟩:Rw) = brow bD bE 5 (qaB W l (Tree.mk n1 s2 b3 l4 u5) k2 ++ dm ++ (uv k2)):=qa6 (rfl) rfl
     obtain ⟨fh,iL⟩:=iI.rowEq 1 [brow A_ c_ 5 (qaL W l v (Tree.mk n1 s2 b3 l4 u5) 0),brow bD bE 5 (qaB W l (Tree.mk n1 s2 b3 l4 u5) k2 ++ dm ++ (uv k2)),brow cK cL 5 (W (Fld.mk ah ai aj ak ag al am ao) (Tree.at_ (Tree.mk n1 s2 b3 l4 u5) q)),brow dt du 5 (uv k2)] iK
     let fi:Nat × SV:=(84,.v (.slice dt ((uv k2).length) du))
     have iM:=EnvOk.pick iJ (ks:=[0,1,2,7,9,11,14,17,51,52,55,56,57,81,83,84,85]) (env':=[aa,ab,ac,ae,(9,.v (.slice A_ ((qaL W l v (Tree.mk n1 s2 b3 l4 u5) 0).length) c_)),(11,.v (.int .i64 ((qaR W l (Tree.mk n1 s2 b3 l4 u5) k2 + cn:Nat):Int))),ar,aL,(51,.v (.int .i64 (((qar l).toNat:Nat):Int))),ap,av,aw,az,(81,.v (.slice A3_ ((qaB W l (Tree.mk n1 s2 b3 l4 u5) k2 ++ dm).length) c3_)),da,fi,(85,.v (.slice bD ((qaB W l (Tree.mk n1 s2 b3 l4 u5) k2 ++ dm).length + (uv k2).length) bE))]) kz
     have iN:=iM.cast (env':=[aa,ab,ac,ae,(9,.v (.slice A_ ((qaL W l v (Tree.mk n1 s2 b3 l4 u5) 0).length) c_)),(11,.v (.int .i64 ((qaR W l (Tree.mk n1 s2 b3 l4 u5) k2 + cn:Nat):Int))),ar,aL,(51,.v (.int .i64 (((qar l).toNat:Nat):Int))),ap,av,aw,az,(81,.v (.slice A3_ ((qaB W l (Tree.mk n1 s2 b3 l4 u5) k2 ++ dm).length) c3_)),da,fi,(85,.v (.slice bD ((qaB W l (Tree.mk n1 s2 b3 l4 u5) k2 ++ dm ++ (uv k2)).length) bE))]) (by simp only [List.length_append,List.length_cons,List.length_nil,Nat.zero_add])
     refine qaj [5,6,7] [8,9,10,11,12] [aa,ab,ac,ae,(9,.v (.slice A_ ((qaL W l v (Tree.mk n1 s2 b3 l4 u5) 0).length) c_)),(11,.v (.int .i64 ((qaR W l (Tree.mk n1 s2 b3 l4 u5) k2 + cn:Nat):Int))),ar,aL,(51,.v (.int .i64 (((qar l).toNat:Nat):Int))),ap,av,aw,az,(85,.v (.slice bD ((qaB W l (Tree.mk n1 s2 b3 l4 u5) k2 ++ dm ++ (uv k2)).length) bE)),(88,.v (.int .u64 (IntKind.u64.wrap (((W (Fld.mk ah ai aj ak ag al am ao) (Tree.at_ (Tree.mk n1 s2 b3 l4 u5) q)).length:Nat):Int))))] fh iN fun po iO=>?_
     have iP:IntKind.u64.wrap (((W (Fld.mk ah ai aj ak ag al am ao) (Tree.at_ (Tree.mk n1 s2 b3 l4 u5) q)).length:Nat):Int) = (((W (Fld.mk ah ai aj ak ag al am ao) (Tree.at_ (Tree.mk n1 s2 b3 l4 u5) q)).length:Nat):Int):=by simp only [qaG,qap,qb0,IntKind.wrap_i64,IntKind.wrap_i32]; omega
     have iQ:=EnvOk.pick iO (ks:=[0,1,2,7,9,11,14,17,51,52,55,56,57,85,88]) (env':=[aa,ab,ac,ae,(9,.v (.slice A_ ((qaL W l v (Tree.mk n1 s2 b3 l4 u5) 0).length) c_)),(11,.v (.int .i64 ((qaR W l (Tree.mk n1 s2 b3 l4 u5) k2 + cn:Nat):Int))),ar,aL,(51,.v (.int .i64 (((qar l).toNat:Nat):Int))),ap,av,aw,az,(85,.v (.slice bD ((qaB W l (Tree.mk n1 s2 b3 l4 u5) k2 ++ dm ++ (uv k2)).length) bE)),(88,.v (.int .u64 (IntKind.u64.wrap (((W (Fld.mk ah ai aj ak ag al am ao) (Tree.at_ (Tree.mk n1 s2 b3 l4 u5) q)).length:Nat):Int))))]) kz
     let db:Nat × SV:=(88,.v (.int .u64 (((W (Fld.mk ah ai aj ak ag al am ao) (Tree.at_ (Tree.mk n1 s2 b3 l4 u5) q)).length:Nat):Int)))
     have iR:=iQ.cast (env':=[aa,ab,ac,ae,(9,.v (.slice A_ ((qaL W l v (Tree.mk n1 s2 b3 l4 u5) 0).length) c_)),(11,.v (.int .i64 ((qaR W l (Tree.mk n1 s2 b3 l4 u5) k2 + cn:Nat):Int))),ar,aL,(51,.v (.int .i64 (((qar l).toNat:Nat):Int))),ap,av,aw,az,(85,.v (.slice bD ((qaB W l (Tree.mk n1 s2 b3 l4 u5) k2 ++ dm ++ (uv k2)).length) bE)),db]) (by simp only [db,iP]; try rfl)
     refine qam (qal iR (f:=31) (vs:=[.int .u64 (((W (Fld.mk ah ai aj ak ag al am ao) (Tree.at_ (Tree.mk n1 s2 b3 l4 u5) q)).length:Nat):Int)]) (d:=89) kz Tryz.call31 (qeA ((W (Fld.mk ah ai aj ak ag al am ao) (Tree.at_ (Tree.mk n1 s2 b3 l4 u5) q)).length) (by omega) _) ?_)
     rintro e_ pp ⟨ef,eg,rfl,iS,iT⟩
     refine ⟨_,rfl,fun pq iU=>?_⟩
     obtain ⟨eh,iV⟩:=fh.frFresh iT (brow ef eg 5 (uv ((W (Fld.mk ah ai aj ak ag al am ao) (Tree.at_ (Tree.mk n1 s2 b3 l4 u5) q)).length))) (Nat.le_refl _) iS
     refine qam (qaI eh iU (k:=1) (d:=90) (t:=24) (e:=5) (size:=1) (bytes:=1) (A:=bD) (As:=ef) (m0:=((qaB W l (Tree.mk n1 s2 b3 l4 u5) k2 ++ dm ++ (uv k2)).length)) (c:=bE) (m:=((uv ((W (Fld.mk ah ai aj ak ag al am ao) (Tree.at_ (Tree.mk n1 s2 b3 l4 u5) q)).length)).length)) (cs:=eg) (xs:=(bc (qaB W l (Tree.mk n1 s2 b3 l4 u5) k2 ++ dm ++ (uv k2)))) (news:=bc (uv ((W (Fld.mk ah ai aj ak ag al am ao) (Tree.at_ (Tree.mk n1 s2 b3 l4 u5) q)).length))) kz kz rfl (qb8 (eh.own 4 _ rfl) (qcu _)) (qcj (eh.own 4 _ rfl)) (by have h_:=congrArg List.length hB2; rw [qev aJ (by omega) (by simpa using aO)] at h_; simp only [List.length_append] at h_ ⊢; omega) fun bU bV pr pt iW iX iY=>?_)
     have iZ:(⟨bU,bV,5,1,(qaB W l (Tree.mk n1 s2 b3 l4 u5) k2 ++ dm ++ (uv k2)).length + (uv ((W (Fld.mk ah ai aj ak ag al am ao) (Tree.at_ (Tree.mk n1 s2 b3 l4 u5) q)).length)).length,bc (qaB W l (Tree.mk n1 s2 b3 l4 u5) k2 ++ dm ++ (uv k2)) ++ bc (uv ((W (Fld.mk ah ai aj ak ag al am ao) (Tree.at_ (Tree.mk n1 s2 b3 l4 u5) q)).length))⟩:Rw) = brow bU bV 5 (qaB W l (Tree.mk n1 s2 b3 l4 u5) k2 ++ dm ++ (uv k2) ++ (uv ((W (Fld.mk ah ai aj ak ag al am ao) (Tree.at_ (Tree.mk n1 s2 b3 l4 u5) q)).length))):=qa6 (rfl) rfl
     obtain ⟨dc,i6⟩:=iX.rowEq 1 [brow A_ c_ 5 (qaL W l v (Tree.mk n1 s2 b3 l4 u5) 0),brow bU bV 5 (qaB W l (Tree.mk n1 s2 b3 l4 u5) k2 ++ dm ++ (uv k2) ++ (uv ((W (Fld.mk ah ai aj ak ag al am ao) (Tree.at_ (Tree.mk n1 s2 b3 l4 u5) q)).length))),brow cK cL 5 (W (Fld.mk ah ai aj ak ag al am ao) (Tree.at_ (Tree.mk n1 s2 b3 l4 u5) q)),brow dt du 5 (uv k2),brow ef eg 5 (uv ((W (Fld.mk ah ai aj ak ag al am ao) (Tree.at_ (Tree.mk n1 s2 b3 l4 u5) q)).length))] iZ
     let fj:Nat × SV:=(89,.v (.slice ef ((uv ((W (Fld.mk ah ai aj ak ag al am ao) (Tree.at_ (Tree.mk n1 s2 b3 l4 u5) q)).length)).length) eg))
     have i7:=EnvOk.pick iY (ks:=[0,1,2,7,9,11,14,17,51,52,55,56,57,85,88,89,90]) (env':=[aa,ab,ac,ae,(9,.v (.slice A_ ((qaL W l v (Tree.mk n1 s2 b3 l4 u5) 0).length) c_)),(11,.v (.int .i64 ((qaR W l (Tree.mk n1 s2 b3 l4 u5) k2 + cn:Nat):Int))),ar,aL,(51,.v (.int .i64 (((qar l).toNat:Nat):Int))),ap,av,aw,az,(85,.v (.slice bD ((qaB W l (Tree.mk n1 s2 b3 l4 u5) k2 ++ dm ++ (uv k2)).length) bE)),db,fj,(90,.v (.slice bU ((qaB W l (Tree.mk n1 s2 b3 l4 u5) k2 ++ dm ++ (uv k2)).length + (uv ((W (Fld.mk ah ai aj ak ag al am ao) (Tree.at_ (Tree.mk n1 s2 b3 l4 u5) q)).length)).length) bV))]) kz
     have ja:=i7.cast (env':=[aa,ab,ac,ae,(9,.v (.slice A_ ((qaL W l v (Tree.mk n1 s2 b3 l4 u5) 0).length) c_)),(11,.v (.int .i64 ((qaR W l (Tree.mk n1 s2 b3 l4 u5) k2 + cn:Nat):Int))),ar,aL,(51,.v (.int .i64 (((qar l).toNat:Nat):Int))),ap,av,aw,az,(85,.v (.slice bD ((qaB W l (Tree.mk n1 s2 b3 l4 u5) k2 ++ dm ++ (uv k2)).length) bE)),db,fj,(90,.v (.slice bU ((qaB W l (Tree.mk n1 s2 b3 l4 u5) k2 ++ dm ++ (uv k2) ++ (uv ((W (Fld.mk ah ai aj ak ag al am ao) (Tree.at_ (Tree.mk n1 s2 b3 l4 u5) q)).length))).length) bV))]) (by simp only [List.length_append,List.length_cons,List.length_nil,Nat.zero_add])
     let ei:Nat × SV:=(91,.v (.slice cK ((W (Fld.mk ah ai aj ak ag al am ao) (Tree.at_ (Tree.mk n1 s2 b3 l4 u5) q)).length) cL))
     refine qaj [10] [11,12] [aa,ab,ac,ae,(9,.v (.slice A_ ((qaL W l v (Tree.mk n1 s2 b3 l4 u5) 0).length) c_)),(11,.v (.int .i64 ((qaR W l (Tree.mk n1 s2 b3 l4 u5) k2 + cn:Nat):Int))),ar,(51,.v (.int .i64 (((qar l).toNat:Nat):Int))),ap,av,aw,az,(90,.v (.slice bU ((qaB W l (Tree.mk n1 s2 b3 l4 u5) k2 ++ dm ++ (uv k2) ++ (uv ((W (Fld.mk ah ai aj ak ag al am ao) (Tree.at_ (Tree.mk n1 s2 b3 l4 u5) q)).length))).length) bV)),ei] dc ja fun pu jb=>?_
     refine qam (qaI dc jb (k:=1) (d:=92) (t:=24) (e:=5) (size:=1) (bytes:=1) (A:=bU) (As:=cK) (m0:=((qaB W l (Tree.mk n1 s2 b3 l4 u5) k2 ++ dm ++ (uv k2) ++ (uv ((W (Fld.mk ah ai aj ak ag al am ao) (Tree.at_ (Tree.mk n1 s2 b3 l4 u5) q)).length))).length)) (c:=bV) (m:=((W (Fld.mk ah ai aj ak ag al am ao) (Tree.at_ (Tree.mk n1 s2 b3 l4 u5) q)).length)) (cs:=cL) (xs:=(bc (qaB W l (Tree.mk n1 s2 b3 l4 u5) k2 ++ dm ++ (uv k2) ++ (uv ((W (Fld.mk ah ai aj ak ag al am ao) (Tree.at_ (Tree.mk n1 s2 b3 l4 u5) q)).length))))) (news:=bc (W (Fld.mk ah ai aj ak ag al am ao) (Tree.at_ (Tree.mk n1 s2 b3 l4 u5) q))) kz kz rfl (qb8 (dc.own 2 _ rfl) (qcu _)) (qcj (dc.own 2 _ rfl)) (by have h_:=congrArg List.length hB2; rw [qev aJ (by omega) (by simpa using aO)] at h_; simp only [List.length_append] at h_ ⊢; omega) fun aR aS pv pw jc jd je=>?_)
     have jf:(⟨aR,aS,5,1,(qaB W l (Tree.mk n1 s2 b3 l4 u5) k2 ++ dm ++ (uv k2) ++ (uv ((W (Fld.mk ah ai aj ak ag al am ao) (Tree.at_ (Tree.mk n1 s2 b3 l4 u5) q)).length))).length + (W (Fld.mk ah ai aj ak ag al am ao) (Tree.at_ (Tree.mk n1 s2 b3 l4 u5) q)).length,bc (qaB W l (Tree.mk n1 s2 b3 l4 u5) k2 ++ dm ++ (uv k2) ++ (uv ((W (Fld.mk ah ai aj ak ag al am ao) (Tree.at_ (Tree.mk n1 s2 b3 l4 u5) q)).length))) ++ bc (W (Fld.mk ah ai aj ak ag al am ao) (Tree.at_ (Tree.mk n1 s2 b3 l4 u5) q))⟩:Rw) = brow aR aS 5 (qaB W l (Tree.mk n1 s2 b3 l4 u5) k2 ++ dm ++ (uv k2) ++ (uv ((W (Fld.mk ah ai aj ak ag al am ao) (Tree.at_ (Tree.mk n1 s2 b3 l4 u5) q)).length)) ++ (W (Fld.mk ah ai aj ak ag al am ao) (Tree.at_ (Tree.mk n1 s2 b3 l4 u5) q))):=qa6 (rfl) rfl
     obtain ⟨de,jg⟩:=jd.rowEq 1 [brow A_ c_ 5 (qaL W l v (Tree.mk n1 s2 b3 l4 u5) 0),brow aR aS 5 (qaB W l (Tree.mk n1 s2 b3 l4 u5) k2 ++ dm ++ (uv k2) ++ (uv ((W (Fld.mk ah ai aj ak ag al am ao) (Tree.at_ (Tree.mk n1 s2 b3 l4 u5) q)).length)) ++ (W (Fld.mk ah ai aj ak ag al am ao) (Tree.at_ (Tree.mk n1 s2 b3 l4 u5) q))),brow cK cL 5 (W (Fld.mk ah ai aj ak ag al am ao) (Tree.at_ (Tree.mk n1 s2 b3 l4 u5) q)),brow dt du 5 (uv k2),brow ef eg 5 (uv ((W (Fld.mk ah ai aj ak ag al am ao) (Tree.at_ (Tree.mk n1 s2 b3 l4 u5) q)).length))] jf
     have jh:=EnvOk.pick je (ks:=[0,1,2,7,9,11,14,51,52,55,56,57,90,91,92]) (env':=[aa,ab,ac,ae,(9,.v (.slice A_ ((qaL W l v (Tree.mk n1 s2 b3 l4 u5) 0).length) c_)),(11,.v (.int .i64 ((qaR W l (Tree.mk n1 s2 b3 l4 u5) k2 + cn:Nat):Int))),ar,(51,.v (.int .i64 (((qar l).toNat:Nat):Int))),ap,av,aw,az,(90,.v (.slice bU ((qaB W l (Tree.mk n1 s2 b3 l4 u5) k2 ++ dm ++ (uv k2) ++ (uv ((W (Fld.mk ah ai aj ak ag al am ao) (Tree.at_ (Tree.mk n1 s2 b3 l4 u5) q)).length))).length) bV)),ei,(92,.v (.slice aR ((qaB W l (Tree.mk n1 s2 b3 l4 u5) k2 ++ dm ++ (uv k2) ++ (uv ((W (Fld.mk ah ai aj ak ag al am ao) (Tree.at_ (Tree.mk n1 s2 b3 l4 u5) q)).length))).length + (W (Fld.mk ah ai aj ak ag al am ao) (Tree.at_ (Tree.mk n1 s2 b3 l4 u5) q)).length) aS))]) kz
     have ji:=jh.cast (env':=[aa,ab,ac,ae,(9,.v (.slice A_ ((qaL W l v (Tree.mk n1 s2 b3 l4 u5) 0).length) c_)),(11,.v (.int .i64 ((qaR W l (Tree.mk n1 s2 b3 l4 u5) k2 + cn:Nat):Int))),ar,(51,.v (.int .i64 (((qar l).toNat:Nat):Int))),ap,av,aw,az,(90,.v (.slice bU ((qaB W l (Tree.mk n1 s2 b3 l4 u5) k2 ++ dm ++ (uv k2) ++ (uv ((W (Fld.mk ah ai aj ak ag al am ao) (Tree.at_ (Tree.mk n1 s2 b3 l4 u5) q)).length))).length) bV)),ei,(92,.v (.slice aR ((qaB W l (Tree.mk n1 s2 b3 l4 u5) k2 ++ dm ++ (uv k2) ++ (uv ((W (Fld.mk ah ai aj ak ag al am ao) (Tree.at_ (Tree.mk n1 s2 b3 l4 u5) q)).length)) ++ (W (Fld.mk ah ai aj ak ag al am ao) (Tree.at_ (Tree.mk n1 s2 b3 l4 u5) q))).length) aS))]) (by simp only [List.length_append,List.length_cons,List.length_nil,Nat.zero_add])
     refine qaj [12] [] [aa,ab,ac,ae,(9,.v (.slice A_ ((qaL W l v (Tree.mk n1 s2 b3 l4 u5) 0).length) c_)),(10,.v (.slice aR ((qaB W l (Tree.mk n1 s2 b3 l4 u5) k2 ++ dm ++ (uv k2) ++ (uv ((W (Fld.mk ah ai aj ak ag al am ao) (Tree.at_ (Tree.mk n1 s2 b3 l4 u5) q)).length)) ++ (W (Fld.mk ah ai aj ak ag al am ao) (Tree.at_ (Tree.mk n1 s2 b3 l4 u5) q))).length) aS)),(11,.v (.int .i64 ((qaR W l (Tree.mk n1 s2 b3 l4 u5) k2 + cn:Nat):Int))),ar,(51,.v (.int .i64 (((qar l).toNat:Nat):Int))),ap,av,aw,az] de ji fun px jj=>?_
     refine qae (qaa ?_)
     refine qaq [0,1,2] kz ?_
     refine qaj [0,1,2] [] [aa,ab,ac,ae,(9,.v (.slice A_ ((qaL W l v (Tree.mk n1 s2 b3 l4 u5) 0).length) c_)),(10,.v (.slice aR ((qaB W l (Tree.mk n1 s2 b3 l4 u5) k2 ++ dm ++ (uv k2) ++ (uv ((W (Fld.mk ah ai aj ak ag al am ao) (Tree.at_ (Tree.mk n1 s2 b3 l4 u5) q)).length)) ++ (W (Fld.mk ah ai aj ak ag al am ao) (Tree.at_ (Tree.mk n1 s2 b3 l4 u5) q))).length) aS)),(11,.v (.int .i64 (IntKind.i64.wrap (((qaR W l (Tree.mk n1 s2 b3 l4 u5) k2 + cn:Nat):Int) + 1)))),ar,(51,.v (.int .i64 (((qar l).toNat:Nat):Int))),ap,av,aw,az] de jj fun pz jk=>?_
     refine qae (qaw (qaa (qaq [0,1] kz ?_)))
     refine qaj [0,1] [] [aa,ab,ac,ae,(9,.v (.slice A_ ((qaL W l v (Tree.mk n1 s2 b3 l4 u5) 0).length) c_)),(10,.v (.slice aR ((qaB W l (Tree.mk n1 s2 b3 l4 u5) k2 ++ dm ++ (uv k2) ++ (uv ((W (Fld.mk ah ai aj ak ag al am ao) (Tree.at_ (Tree.mk n1 s2 b3 l4 u5) q)).length)) ++ (W (Fld.mk ah ai aj ak ag al am ao) (Tree.at_ (Tree.mk n1 s2 b3 l4 u5) q))).length) aS)),(11,.v (.int .i64 (IntKind.i64.wrap (((qaR W l (Tree.mk n1 s2 b3 l4 u5) k2 + cn:Nat):Int) + 1)))),ar,(51,.v (.int .i64 (((qar l).toNat:Nat):Int))),ap,av,aw,(57,.v (.int .i64 (IntKind.i64.wrap (((q:Nat):Int) + 1))))] de jk fun pA jl=>?_
     refine qae (qaa ?_)
     obtain ⟨df,jm,jn⟩:=de.cutB jl 1 [aK] [aa,ab,ac,ae,(9,.v (.slice A_ ((qaL W l v (Tree.mk n1 s2 b3 l4 u5) 0).length) c_)),(10,.v (.slice aR ((qaB W l (Tree.mk n1 s2 b3 l4 u5) k2 ++ dm ++ (uv k2) ++ (uv ((W (Fld.mk ah ai aj ak ag al am ao) (Tree.at_ (Tree.mk n1 s2 b3 l4 u5) q)).length)) ++ (W (Fld.mk ah ai aj ak ag al am ao) (Tree.at_ (Tree.mk n1 s2 b3 l4 u5) q))).length) aS)),(11,.v (.int .i64 (IntKind.i64.wrap (((qaR W l (Tree.mk n1 s2 b3 l4 u5) k2 + cn:Nat):Int) + 1)))),ar,(51,.v (.int .i64 (((qar l).toNat:Nat):Int))),ap,av,aw,(57,.v (.int .i64 (IntKind.i64.wrap (((q:Nat):Int) + 1))))]
     obtain ⟨jo,jp⟩:=jm.cutR 2 [brow A_ c_ 5 (qaL W l v (Tree.mk n1 s2 b3 l4 u5) 0),brow aR aS 5 (qaB W l (Tree.mk n1 s2 b3 l4 u5) k2 ++ dm ++ (uv k2) ++ (uv ((W (Fld.mk ah ai aj ak ag al am ao) (Tree.at_ (Tree.mk n1 s2 b3 l4 u5) q)).length)) ++ (W (Fld.mk ah ai aj ak ag al am ao) (Tree.at_ (Tree.mk n1 s2 b3 l4 u5) q)))]
     have fk:(qaB W l (Tree.mk n1 s2 b3 l4 u5) k2 ++ dm ++ (uv k2) ++ (uv ((W (Fld.mk ah ai aj ak ag al am ao) (Tree.at_ (Tree.mk n1 s2 b3 l4 u5) q)).length)) ++ (W (Fld.mk ah ai aj ak ag al am ao) (Tree.at_ (Tree.mk n1 s2 b3 l4 u5) q))) = (qaB W l (Tree.mk n1 s2 b3 l4 u5) k2 ++ (dm ++ (uv k2 ++ uv (W (Fld.mk ah ai aj ak ag al am ao) (Tree.at_ (Tree.mk n1 s2 b3 l4 u5) q)).length ++ W (Fld.mk ah ai aj ak ag al am ao) (Tree.at_ (Tree.mk n1 s2 b3 l4 u5) q)))):=by simp only [List.append_assoc]
     have jq:=congrArg (brow aR aS 5) fk
     obtain ⟨jr,js⟩:=jo.rowEq 1 [brow A_ c_ 5 (qaL W l v (Tree.mk n1 s2 b3 l4 u5) 0),brow aR aS 5 (qaB W l (Tree.mk n1 s2 b3 l4 u5) k2 ++ (dm ++ (uv k2 ++ uv (W (Fld.mk ah ai aj ak ag al am ao) (Tree.at_ (Tree.mk n1 s2 b3 l4 u5) q)).length ++ W (Fld.mk ah ai aj ak ag al am ao) (Tree.at_ (Tree.mk n1 s2 b3 l4 u5) q))))] jq
     rw [fk] at df
     have jt:IntKind.i64.wrap (((q:Nat):Int) + 1) = ((q + 1:Nat):Int):=qbq (by omega)
     rw [jt] at df
     have ju:IntKind.i64.wrap (((qaR W l (Tree.mk n1 s2 b3 l4 u5) k2 + cn:Nat):Int) + 1) = ((qaR W l (Tree.mk n1 s2 b3 l4 u5) k2 + (cn + 1):Nat):Int):=by rw [wrap_i64 (by omega) (by omega)]; omega
     rw [ju] at df
     exact ⟨l.length - (q + 1),by omega,q + 1,aR,aS,(dm ++ (uv k2 ++ uv (W (Fld.mk ah ai aj ak ag al am ao) (Tree.at_ (Tree.mk n1 s2 b3 l4 u5) q)).length ++ W (Fld.mk ah ai aj ak ag al am ao) (Tree.at_ (Tree.mk n1 s2 b3 l4 u5) q))),(cn + 1),rfl,by omega,by rw [List.append_assoc,← qev aJ (by omega) (by simpa using aO)]; exact hB2,by rw [Nat.add_assoc,← qlf aJ (by omega) (by simpa using aO)]; exact hN2,df.pk,jr,(((((((((((((((((((cV.trans dX).trans dY).trans dZ).trans cX).trans d8).trans il).trans ec).trans fg).trans iG).trans iH).trans iL).trans iV).trans iW).trans i6).trans jc).trans jg).trans jn).trans jp).trans js)⟩
    refine wp_skip (qaw (qaa (qaq [0,1] kz ?_)))
    refine qaj [0,1] [] [aa,ab,ac,ae,(9,.v (.slice A_ ((qaL W l v (Tree.mk n1 s2 b3 l4 u5) 0).length) c_)),(10,.v (.slice A3_ ((qaB W l (Tree.mk n1 s2 b3 l4 u5) k2 ++ dm).length) c3_)),(11,.v (.int .i64 ((qaR W l (Tree.mk n1 s2 b3 l4 u5) k2 + cn:Nat):Int))),ar,(51,.v (.int .i64 (((qar l).toNat:Nat):Int))),ap,av,aw,(57,.v (.int .i64 (IntKind.i64.wrap (((q:Nat):Int) + 1))))] cY d9 fun pB jv=>?_
    refine qae (qaa ?_)
    obtain ⟨fl,jw,jx⟩:=cY.cutB jv 1 [aK] [aa,ab,ac,ae,(9,.v (.slice A_ ((qaL W l v (Tree.mk n1 s2 b3 l4 u5) 0).length) c_)),(10,.v (.slice A3_ ((qaB W l (Tree.mk n1 s2 b3 l4 u5) k2 ++ dm).length) c3_)),(11,.v (.int .i64 ((qaR W l (Tree.mk n1 s2 b3 l4 u5) k2 + cn:Nat):Int))),ar,(51,.v (.int .i64 (((qar l).toNat:Nat):Int))),ap,av,aw,(57,.v (.int .i64 (IntKind.i64.wrap (((q:Nat):Int) + 1))))]
    have jy:IntKind.i64.wrap (((q:Nat):Int) + 1) = ((q + 1:Nat):Int):=qbq (by omega)
    rw [jy] at fl
    exact ⟨l.length - (q + 1),by omega,q + 1,A3_,c3_,dm,cn,rfl,by omega,by rw [← qj6 aJ (by simpa using aO)]; exact hB2,by rw [← qj8 aJ (by simpa using aO)]; exact hN2,fl.pk,jw,((((((cV.trans dX).trans dY).trans dZ).trans cX).trans d8).trans jx)⟩
   have ng:ag ≠ ((k2:Nat):Int):=by simpa using cq
   have jz:=fb.cast (env':=[aa,ab,ac,ae,(9,.v (.slice A_ ((qaL W l v (Tree.mk n1 s2 b3 l4 u5) 0).length) c_)),(10,.v (.slice A3_ ((qaB W l (Tree.mk n1 s2 b3 l4 u5) k2 ++ dm).length) c3_)),(11,.v (.int .i64 ((qaR W l (Tree.mk n1 s2 b3 l4 u5) k2 + cn:Nat):Int))),ar,bA,bB,(51,.v (.int .i64 (((qar l).toNat:Nat):Int))),ap,av,aw,az,(66,.v (.bool false))]) (by rw [cq])
   refine qaY [5,6,7,8,9,10,11] [aa,ab,ac,ae,(9,.v (.slice A_ ((qaL W l v (Tree.mk n1 s2 b3 l4 u5) 0).length) c_)),(10,.v (.slice A3_ ((qaB W l (Tree.mk n1 s2 b3 l4 u5) k2 ++ dm).length) c3_)),(11,.v (.int .i64 ((qaR W l (Tree.mk n1 s2 b3 l4 u5) k2 + cn:Nat):Int))),ar,bA,bB,(51,.v (.int .i64 (((qar l).toNat:Nat):Int))),ap,av,aw,az,(73,.v (.bool false))] 0 (qac (qah (qac (qac (qah (qah (qac (qac (qah (qac qai)))))))))) (fun _ h=>h.cells) d5 jz fun pC fm=>?_
   refine qaW kz ?_ _
   refine qaa (qau fm (b:=false) kz rfl ?_)
   refine wp_skip (qaw (qaa (qaq [0,1] kz ?_)))
   refine qaj [0,1] [] [aa,ab,ac,ae,(9,.v (.slice A_ ((qaL W l v (Tree.mk n1 s2 b3 l4 u5) 0).length) c_)),(10,.v (.slice A3_ ((qaB W l (Tree.mk n1 s2 b3 l4 u5) k2 ++ dm).length) c3_)),(11,.v (.int .i64 ((qaR W l (Tree.mk n1 s2 b3 l4 u5) k2 + cn:Nat):Int))),ar,(51,.v (.int .i64 (((qar l).toNat:Nat):Int))),ap,av,aw,(57,.v (.int .i64 (IntKind.i64.wrap (((q:Nat):Int) + 1))))] bC fm fun pD jA=>?_
   refine qae (qaa ?_)
   obtain ⟨fo,jB,jC⟩:=bC.cutB jA 1 [aK] [aa,ab,ac,ae,(9,.v (.slice A_ ((qaL W l v (Tree.mk n1 s2 b3 l4 u5) 0).length) c_)),(10,.v (.slice A3_ ((qaB W l (Tree.mk n1 s2 b3 l4 u5) k2 ++ dm).length) c3_)),(11,.v (.int .i64 ((qaR W l (Tree.mk n1 s2 b3 l4 u5) k2 + cn:Nat):Int))),ar,(51,.v (.int .i64 (((qar l).toNat:Nat):Int))),ap,av,aw,(57,.v (.int .i64 (IntKind.i64.wrap (((q:Nat):Int) + 1))))]
   have jD:IntKind.i64.wrap (((q:Nat):Int) + 1) = ((q + 1:Nat):Int):=qbq (by omega)
   rw [jD] at fo
   exact ⟨l.length - (q + 1),by omega,q + 1,A3_,c3_,dm,cn,rfl,by omega,by rw [← qj5 aJ (by omega)]; exact hB2,by rw [← qj7 aJ (by omega)]; exact hN2,fo.pk,jB,((((cV.trans dX).trans dY).trans dZ).trans jC)⟩
  have nh:=of_decide_eq_false dU
  refine wp_exit (qay (qay (qaQ (qaw (qaa (qaq [0,1] kz ?_))))))
  refine qaj [0,1] [] [aa,ab,ac,ae,(9,.v (.slice A_ ((qaL W l v (Tree.mk n1 s2 b3 l4 u5) 0).length) c_)),(10,.v (.slice A3_ ((qaB W l (Tree.mk n1 s2 b3 l4 u5) k2 ++ dm).length) c3_)),(11,.v (.int .i64 ((qaR W l (Tree.mk n1 s2 b3 l4 u5) k2 + cn:Nat):Int))),(51,.v (.int .i64 (((qar l).toNat:Nat):Int))),(52,.v (.int .i64 (IntKind.i64.wrap (((k2:Nat):Int) + 1))))] bT dT fun pE dg=>?_
  refine qae (qaa ?_)
  have fq:(qaB W l (Tree.mk n1 s2 b3 l4 u5) k2 ++ dm) = (qaB W l (Tree.mk n1 s2 b3 l4 u5) (k2 + 1)):=by rw [qaB,← hB2,qle (by omega),List.append_nil]
  have jE:=congrArg (brow A3_ c3_ 5) fq
  obtain ⟨jF,jG⟩:=bT.rowEq 1 [brow A_ c_ 5 (qaL W l v (Tree.mk n1 s2 b3 l4 u5) 0),brow A3_ c3_ 5 (qaB W l (Tree.mk n1 s2 b3 l4 u5) (k2 + 1))] jE
  rw [fq] at dg
  have jH:IntKind.i64.wrap (((k2:Nat):Int) + 1) = ((k2 + 1:Nat):Int):=qbq (by omega)
  rw [jH] at dg
  have jI:((qaR W l (Tree.mk n1 s2 b3 l4 u5) k2 + cn:Nat):Int) = ((qaR W l (Tree.mk n1 s2 b3 l4 u5) (k2 + 1):Nat):Int):=by rw [qaR,← hN2,qlg (by omega),Nat.add_zero]
  rw [jI] at dg
  exact ⟨(qar l).toNat - (k2 + 1),by omega,k2 + 1,A3_,c3_,rfl,by omega,dg.pk,jF,(((gQ.trans gT).trans cV).trans jG)⟩
 have ni:=of_decide_eq_false dS
 refine wp_exit (qay (qay (qaQ (qaa (wp_seq (qad [0,1,2,3,4,5] kz ?_))))))
 refine qaj [0,1,2] [3,4,5] [(9,.v (.slice A_ ((qaL W l v (Tree.mk n1 s2 b3 l4 u5) 0).length) c_)),(10,.v (.slice A2_ ((qaB W l (Tree.mk n1 s2 b3 l4 u5) k2).length) c2_)),(11,.v (.int .i64 ((qaR W l (Tree.mk n1 s2 b3 l4 u5) k2:Nat):Int))),(97,.v (.slice A l.length c)),(99,.v (.slice fI u5.length fJ))] aH dR fun pF jJ=>?_
 refine qam (qal jJ (f:=32) (vs:=[.slice A l.length c,bh]) (d:=100) kz Tryz.call32 (qiW _ _ l _ _ u5 _ _ ⟨xfs,(h1.move aH.step nilM aH.imm),(fun i_ x_ h_=>((h2 i_ x_ h_).move aH.step nilM aH.imm))⟩ (nE.move aH.step nilM aH.imm)) ?_)
 rintro e_ pG ⟨aE,aF,rfl,jK,ej⟩
 have jL:=jK.move (Step.refl _ Nil) nilM (aH.laid (G:=F) ej)
 refine ⟨_,rfl,fun pH jM=>?_⟩
 have fr:=aH.next_nil ej
 have nj:=aH.frN ej
 refine qaj [4,5] [] [(9,.v (.slice A_ ((qaL W l v (Tree.mk n1 s2 b3 l4 u5) 0).length) c_)),(10,.v (.slice A2_ ((qaB W l (Tree.mk n1 s2 b3 l4 u5) k2).length) c2_)),(11,.v (.int .i64 ((qaR W l (Tree.mk n1 s2 b3 l4 u5) k2:Nat):Int))),(100,.v (.slice aE ((qan l u5).length) aF)),(101,.v (.int .i64 (((qan l u5).length:Nat):Int))),(102,.v (.int .i64 0))] fr jM fun pI ft=>?_
 refine qae (qaa ?_)
 refine wp_block ?_
 obtain ⟨nk,jN,mu⟩:=jL.ex
 have mw:=jN.small
 have hkk2:k2 = (qar l).toNat:=by omega
 have hc2:=hcnt k2
 have hm2:=hmono k2 (by omega)
 have fu:(qaB W l (Tree.mk n1 s2 b3 l4 u5) k2) = (qaB W l (Tree.mk n1 s2 b3 l4 u5) k2 ++ qbb ((qan l u5).take 0)):=(List.append_nil _).symm
 have jO:=congrArg (brow A2_ c2_ 5) fu
 obtain ⟨fv,bg⟩:=fr.rowEq 1 [brow A_ c_ 5 (qaL W l v (Tree.mk n1 s2 b3 l4 u5) 0),brow A2_ c2_ 5 (qaB W l (Tree.mk n1 s2 b3 l4 u5) k2 ++ qbb ((qan l u5).take 0))] jO
 rw [fu] at ft
 refine wp_loop_ghost (fun n_ a_ w_=>∃ (k:Nat) (A4_:Option Addr) (c4_:Nat),n_ = (qan l u5).length - k ∧ k ≤ (qan l u5).length ∧ LInv fv 132 [aK] [brow A_ c_ 5 (qaL W l v (Tree.mk n1 s2 b3 l4 u5) 0),brow A4_ c4_ 5 (qaB W l (Tree.mk n1 s2 b3 l4 u5) k2 ++ qbb ((qan l u5).take k))] [(9,.v (.slice A_ ((qaL W l v (Tree.mk n1 s2 b3 l4 u5) 0).length) c_)),(10,.v (.slice A4_ ((qaB W l (Tree.mk n1 s2 b3 l4 u5) k2 ++ qbb ((qan l u5).take k)).length) c4_)),(11,.v (.int .i64 ((qaR W l (Tree.mk n1 s2 b3 l4 u5) k2 + k:Nat):Int))),(100,.v (.slice aE ((qan l u5).length) aF)),(101,.v (.int .i64 (((qan l u5).length:Nat):Int))),(102,.v (.int .i64 ((k:Nat):Int)))] a_ w_) ((qan l u5).length) ⟨0,A2_,c2_,by omega,by omega,ft.pk,fv,Fr.refl _ _ _⟩ ?_
 rintro pJ pK pL ⟨k,A4_,c4_,nl,np,jP,dh,aQ⟩
 let aD:Nat × SV:=(102,.v (.int .i64 ((k:Nat):Int)))
 refine qat [(9,.v (.slice A_ ((qaL W l v (Tree.mk n1 s2 b3 l4 u5) 0).length) c_)),(10,.v (.slice A4_ ((qaB W l (Tree.mk n1 s2 b3 l4 u5) k2 ++ qbb ((qan l u5).take k)).length) c4_)),(11,.v (.int .i64 ((qaR W l (Tree.mk n1 s2 b3 l4 u5) k2 + k:Nat):Int))),(100,.v (.slice aE ((qan l u5).length) aF)),(101,.v (.int .i64 (((qan l u5).length:Nat):Int))),aD,(103,.v (.bool (decide (((k:Nat):Int) < (((qan l u5).length:Nat):Int)))))] dh jP fun pM ek=>?_
 refine wp_seq (qaA ek (b:=decide (((k:Nat):Int) < (((qan l u5).length:Nat):Int))) kz (fun em=>?_) (fun em=>?_))
 ·
  have nr:=of_decide_eq_true em
  refine wp_skip (qaa (wp_seq (wp_block (qad [0,1,2,3] kz ?_))))
  obtain ⟨mx,my,jQ,ns,eo⟩:=Slots.get jN (i:=k) (by omega)
  obtain ⟨⟨au,af⟩,cz⟩:∃ x,(qan l u5)[k]? = some x:=⟨_,List.getElem?_eq_getElem (by omega)⟩
  obtain ⟨⟨aM,aN,fH,eu⟩,pN,pO⟩:=mu k au af cz
  rw [fH] at eo
  refine qam (qaz ek (t:=26) (A:=aE) (m:=((qan l u5).length)) (q:=((k:Nat):Int)) (d:=104) kz (e:=61) (size:=2) (bytes:=32) kz jQ rfl (by omega) fun pP jR=>?_)
  let di:Value:=.slice aM af.length aN
  refine qam (qaH jR (t:=61) (b:=mx) (o:=my + k * 2) (d:=105) kz (cs:=[.int .u32 au,di]) (v:=.agg #[.int .u32 au,di]) kz (AtF.move eo (bg.trans aQ).step immM (bg.trans aQ).to').at_ fun pQ jS=>?_)
  refine qam (qbo dh jS (d:=19) (cs:=[.int .u32 0,.slice none 0 0]) kz fun pR pS pT nt nu bF jT jU=>?_)
  refine qam (qaK jT jU (oi:=1) (cs:=[.int .u32 au,di]) kz fun pU bG ev jV=>?_)
  refine qae (qaa ?_)
  refine qad [0,1,2,3] kz ?_
  refine qaj [0,1] [2,3] [(9,.v (.slice A_ ((qaL W l v (Tree.mk n1 s2 b3 l4 u5) 0).length) c_)),(10,.v (.slice A4_ ((qaB W l (Tree.mk n1 s2 b3 l4 u5) k2 ++ qbb ((qan l u5).take k)).length) c4_)),(11,.v (.int .i64 ((qaR W l (Tree.mk n1 s2 b3 l4 u5) k2 + k:Nat):Int))),(19,.p 1 0),(100,.v (.slice aE ((qan l u5).length) aF)),(101,.v (.int .i64 (((qan l u5).length:Nat):Int))),aD,(107,.v (.slice aM af.length aN))] ev jV fun pV jW=>?_
  have mz:=qbD af
  refine qam (qal jW (f:=33) (vs:=[di]) (d:=108) kz Tryz.call33 (qkD _ _ af (eu.move (((bg.trans aQ).trans bF).trans bG).step immM (((bg.trans aQ).trans bF).trans bG).to').le _) ?_)
  rintro e_ pW ⟨rfl,fw⟩
  refine ⟨_,rfl,fun pX jX=>?_⟩
  have ew:=ev.next_nil fw
  have cA:=ev.frN fw
  refine qaj [3] [] [(9,.v (.slice A_ ((qaL W l v (Tree.mk n1 s2 b3 l4 u5) 0).length) c_)),(10,.v (.slice A4_ ((qaB W l (Tree.mk n1 s2 b3 l4 u5) k2 ++ qbb ((qan l u5).take k)).length) c4_)),(11,.v (.int .i64 ((qaR W l (Tree.mk n1 s2 b3 l4 u5) k2 + k:Nat):Int))),(19,.p 1 0),(20,.v (.slice aM ((qaC af).length) aN)),(100,.v (.slice aE ((qan l u5).length) aF)),(101,.v (.int .i64 (((qan l u5).length:Nat):Int))),aD] ew jX fun pY jY=>?_
  refine qae (qaa ?_)
  refine qad [0,1,2,3,4,5,6,7,8,9,10,11,12,13] kz ?_
  refine qaj [0,1,2,3] [4,5,6,7,8,9,10,11,12,13] [(9,.v (.slice A_ ((qaL W l v (Tree.mk n1 s2 b3 l4 u5) 0).length) c_)),(11,.v (.int .i64 ((qaR W l (Tree.mk n1 s2 b3 l4 u5) k2 + k:Nat):Int))),(20,.v (.slice aM ((qaC af).length) aN)),(100,.v (.slice aE ((qan l u5).length) aF)),(101,.v (.int .i64 (((qan l u5).length:Nat):Int))),aD,(109,.v (.slice A4_ ((qaB W l (Tree.mk n1 s2 b3 l4 u5) k2 ++ qbb ((qan l u5).take k)).length) c4_)),(112,.v (.int .u64 (IntKind.u64.wrap au)))] ew jY fun pZ jZ=>?_
  have j0:IntKind.u64.wrap au = ((au.toNat:Nat):Int):=by simp only [qaG,qap,qb0,IntKind.wrap_i64,IntKind.wrap_i32]; omega
  have j1:=EnvOk.pick jZ (ks:=[9,11,20,100,101,102,109,112]) (env':=[(9,.v (.slice A_ ((qaL W l v (Tree.mk n1 s2 b3 l4 u5) 0).length) c_)),(11,.v (.int .i64 ((qaR W l (Tree.mk n1 s2 b3 l4 u5) k2 + k:Nat):Int))),(20,.v (.slice aM ((qaC af).length) aN)),(100,.v (.slice aE ((qan l u5).length) aF)),(101,.v (.int .i64 (((qan l u5).length:Nat):Int))),aD,(109,.v (.slice A4_ ((qaB W l (Tree.mk n1 s2 b3 l4 u5) k2 ++ qbb ((qan l u5).take k)).length) c4_)),(112,.v (.int .u64 (IntKind.u64.wrap au)))]) kz
  let dj:Nat × SV:=(112,.v (.int .u64 ((au.toNat:Nat):Int)))
  have j2:=j1.cast (env':=[(9,.v (.slice A_ ((qaL W l v (Tree.mk n1 s2 b3 l4 u5) 0).length) c_)),(11,.v (.int .i64 ((qaR W l (Tree.mk n1 s2 b3 l4 u5) k2 + k:Nat):Int))),(20,.v (.slice aM ((qaC af).length) aN)),(100,.v (.slice aE ((qan l u5).length) aF)),(101,.v (.int .i64 (((qan l u5).length:Nat):Int))),aD,(109,.v (.slice A4_ ((qaB W l (Tree.mk n1 s2 b3 l4 u5) k2 ++ qbb ((qan l u5).take k)).length) c4_)),dj]) (by simp only [dj,j0]; try rfl)
  refine qam (qal j2 (f:=31) (vs:=[.int .u64 ((au.toNat:Nat):Int)]) (d:=113) kz Tryz.call31 (qeA au.toNat (by omega) _) ?_)
  rintro e_ p5 ⟨dv,dw,rfl,j3,j4⟩
  refine ⟨_,rfl,fun p6 j5=>?_⟩
  obtain ⟨ey,cB⟩:=ew.frFresh j4 (brow dv dw 5 (uv au.toNat)) (Nat.le_refl _) j3
  refine qam (qaI ey j5 (k:=1) (d:=114) (t:=24) (e:=5) (size:=1) (bytes:=1) (A:=A4_) (As:=dv) (m0:=((qaB W l (Tree.mk n1 s2 b3 l4 u5) k2 ++ qbb ((qan l u5).take k)).length)) (c:=c4_) (m:=((uv au.toNat).length)) (cs:=dw) (xs:=(bc (qaB W l (Tree.mk n1 s2 b3 l4 u5) k2 ++ qbb ((qan l u5).take k)))) (news:=bc (uv au.toNat)) kz kz rfl (qb8 (ey.own 2 _ rfl) (qcu _)) (qcj (ey.own 2 _ rfl)) (by have h_:=qgV (l:=(qan l u5)) (k + 1); rw [qew cz] at h_; simp only [List.length_append] at h_ ⊢; omega) fun bH bI p7 p8 cC j6 j7=>?_)
  have j8:(⟨bH,bI,5,1,(qaB W l (Tree.mk n1 s2 b3 l4 u5) k2 ++ qbb ((qan l u5).take k)).length + (uv au.toNat).length,bc (qaB W l (Tree.mk n1 s2 b3 l4 u5) k2 ++ qbb ((qan l u5).take k)) ++ bc (uv au.toNat)⟩:Rw) = brow bH bI 5 (qaB W l (Tree.mk n1 s2 b3 l4 u5) k2 ++ qbb ((qan l u5).take k) ++ (uv au.toNat)):=qa6 (rfl) rfl
  obtain ⟨fx,cE⟩:=j6.rowEq 1 [brow A_ c_ 5 (qaL W l v (Tree.mk n1 s2 b3 l4 u5) 0),brow bH bI 5 (qaB W l (Tree.mk n1 s2 b3 l4 u5) k2 ++ qbb ((qan l u5).take k) ++ (uv au.toNat)),brow dv dw 5 (uv au.toNat)] j8
  let fy:Nat × SV:=(113,.v (.slice dv ((uv au.toNat).length) dw))
  have j9:=EnvOk.pick j7 (ks:=[9,11,20,100,101,102,109,112,113,114]) (env':=[(9,.v (.slice A_ ((qaL W l v (Tree.mk n1 s2 b3 l4 u5) 0).length) c_)),(11,.v (.int .i64 ((qaR W l (Tree.mk n1 s2 b3 l4 u5) k2 + k:Nat):Int))),(20,.v (.slice aM ((qaC af).length) aN)),(100,.v (.slice aE ((qan l u5).length) aF)),(101,.v (.int .i64 (((qan l u5).length:Nat):Int))),aD,(109,.v (.slice A4_ ((qaB W l (Tree.mk n1 s2 b3 l4 u5) k2 ++ qbb ((qan l u5).take k)).length) c4_)),dj,fy,(114,.v (.slice bH ((qaB W l (Tree.mk n1 s2 b3 l4 u5) k2 ++ qbb ((qan l u5).take k)).length + (uv au.toNat).length) bI))]) kz
  have ka:=j9.cast (env':=[(9,.v (.slice A_ ((qaL W l v (Tree.mk n1 s2 b3 l4 u5) 0).length) c_)),(11,.v (.int .i64 ((qaR W l (Tree.mk n1 s2 b3 l4 u5) k2 + k:Nat):Int))),(20,.v (.slice aM ((qaC af).length) aN)),(100,.v (.slice aE ((qan l u5).length) aF)),(101,.v (.int .i64 (((qan l u5).length:Nat):Int))),aD,(109,.v (.slice A4_ ((qaB W l (Tree.mk n1 s2 b3 l4 u5) k2 ++ qbb ((qan l u5).take k)).length) c4_)),dj,fy,(114,.v (.slice bH ((qaB W l (Tree.mk n1 s2 b3 l4 u5) k2 ++ qbb ((qan l u5).take k) ++ (uv au.toNat)).length) bI))]) (by simp only [List.length_append,List.length_cons,List.length_nil,Nat.zero_add])
  refine qaj [6,7,8] [9,10,11,12,13] [(9,.v (.slice A_ ((qaL W l v (Tree.mk n1 s2 b3 l4 u5) 0).length) c_)),(11,.v (.int .i64 ((qaR W l (Tree.mk n1 s2 b3 l4 u5) k2 + k:Nat):Int))),(20,.v (.slice aM ((qaC af).length) aN)),(100,.v (.slice aE ((qan l u5).length) aF)),(101,.v (.int .i64 (((qan l u5).length:Nat):Int))),aD,(114,.v (.slice bH ((qaB W l (Tree.mk n1 s2 b3 l4 u5) k2 ++ qbb ((qan l u5).take k) ++ (uv au.toNat)).length) bI)),(117,.v (.int .u64 (IntKind.u64.wrap (((qaC af).length:Nat):Int))))] fx ka fun p9 kd=>?_
  have ke:IntKind.u64.wrap (((qaC af).length:Nat):Int) = (((qaC af).length:Nat):Int):=by simp only [qaG,qap,qb0,IntKind.wrap_i64,IntKind.wrap_i32]; omega
  have kf:=EnvOk.pick kd (ks:=[9,11,20,100,101,102,114,117]) (env':=[(9,.v (.slice A_ ((qaL W l v (Tree.mk n1 s2 b3 l4 u5) 0).length) c_)),(11,.v (.int .i64 ((qaR W l (Tree.mk n1 s2 b3 l4 u5) k2 + k:Nat):Int))),(20,.v (.slice aM ((qaC af).length) aN)),(100,.v (.slice aE ((qan l u5).length) aF)),(101,.v (.int .i64 (((qan l u5).length:Nat):Int))),aD,(114,.v (.slice bH ((qaB W l (Tree.mk n1 s2 b3 l4 u5) k2 ++ qbb ((qan l u5).take k) ++ (uv au.toNat)).length) bI)),(117,.v (.int .u64 (IntKind.u64.wrap (((qaC af).length:Nat):Int))))]) kz
  have kg:=kf
  rw [ke] at kg
  refine qam (qal kg (f:=31) (vs:=[.int .u64 (((qaC af).length:Nat):Int)]) (d:=118) kz Tryz.call31 (qeA ((qaC af).length) (by omega) _) ?_)
  rintro e_ qa ⟨dx,dy,rfl,kh,ki⟩
  refine ⟨_,rfl,fun qb kj=>?_⟩
  obtain ⟨ez,cG⟩:=fx.frFresh ki (brow dx dy 5 (uv ((qaC af).length))) (Nat.le_refl _) kh
  refine qam (qaI ez kj (k:=1) (d:=119) (t:=24) (e:=5) (size:=1) (bytes:=1) (A:=bH) (As:=dx) (m0:=((qaB W l (Tree.mk n1 s2 b3 l4 u5) k2 ++ qbb ((qan l u5).take k) ++ (uv au.toNat)).length)) (c:=bI) (m:=((uv ((qaC af).length)).length)) (cs:=dy) (xs:=(bc (qaB W l (Tree.mk n1 s2 b3 l4 u5) k2 ++ qbb ((qan l u5).take k) ++ (uv au.toNat)))) (news:=bc (uv ((qaC af).length))) kz kz rfl (qb8 (ez.own 3 _ rfl) (qcu _)) (qcj (ez.own 3 _ rfl)) (by have h_:=qgV (l:=(qan l u5)) (k + 1); rw [qew cz] at h_; simp only [List.length_append] at h_ ⊢; omega) fun bW bX qc qd cH km ko=>?_)
  have kp:(⟨bW,bX,5,1,(qaB W l (Tree.mk n1 s2 b3 l4 u5) k2 ++ qbb ((qan l u5).take k) ++ (uv au.toNat)).length + (uv ((qaC af).length)).length,bc (qaB W l (Tree.mk n1 s2 b3 l4 u5) k2 ++ qbb ((qan l u5).take k) ++ (uv au.toNat)) ++ bc (uv ((qaC af).length))⟩:Rw) = brow bW bX 5 (qaB W l (Tree.mk n1 s2 b3 l4 u5) k2 ++ qbb ((qan l u5).take k) ++ (uv au.toNat) ++ (uv ((qaC af).length))):=qa6 (rfl) rfl
  obtain ⟨fz,cI⟩:=km.rowEq 1 [brow A_ c_ 5 (qaL W l v (Tree.mk n1 s2 b3 l4 u5) 0),brow bW bX 5 (qaB W l (Tree.mk n1 s2 b3 l4 u5) k2 ++ qbb ((qan l u5).take k) ++ (uv au.toNat) ++ (uv ((qaC af).length))),brow dv dw 5 (uv au.toNat),brow dx dy 5 (uv ((qaC af).length))] kp
  have kq:=EnvOk.pick ko (ks:=[9,11,20,100,101,102,114,117,118,119]) (env':=[(9,.v (.slice A_ ((qaL W l v (Tree.mk n1 s2 b3 l4 u5) 0).length) c_)),(11,.v (.int .i64 ((qaR W l (Tree.mk n1 s2 b3 l4 u5) k2 + k:Nat):Int))),(20,.v (.slice aM ((qaC af).length) aN)),(100,.v (.slice aE ((qan l u5).length) aF)),(101,.v (.int .i64 (((qan l u5).length:Nat):Int))),aD,(114,.v (.slice bH ((qaB W l (Tree.mk n1 s2 b3 l4 u5) k2 ++ qbb ((qan l u5).take k) ++ (uv au.toNat)).length) bI)),(117,.v (.int .u64 (((qaC af).length:Nat):Int))),(118,.v (.slice dx ((uv ((qaC af).length)).length) dy)),(119,.v (.slice bW ((qaB W l (Tree.mk n1 s2 b3 l4 u5) k2 ++ qbb ((qan l u5).take k) ++ (uv au.toNat)).length + (uv ((qaC af).length)).length) bX))]) kz
  have ku:=kq.cast (env':=[(9,.v (.slice A_ ((qaL W l v (Tree.mk n1 s2 b3 l4 u5) 0).length) c_)),(11,.v (.int .i64 ((qaR W l (Tree.mk n1 s2 b3 l4 u5) k2 + k:Nat):Int))),(20,.v (.slice aM ((qaC af).length) aN)),(100,.v (.slice aE ((qan l u5).length) aF)),(101,.v (.int .i64 (((qan l u5).length:Nat):Int))),aD,(114,.v (.slice bH ((qaB W l (Tree.mk n1 s2 b3 l4 u5) k2 ++ qbb ((qan l u5).take k) ++ (uv au.toNat)).length) bI)),(117,.v (.int .u64 (((qaC af).length:Nat):Int))),(118,.v (.slice dx ((uv ((qaC af).length)).length) dy)),(119,.v (.slice bW ((qaB W l (Tree.mk n1 s2 b3 l4 u5) k2 ++ qbb ((qan l u5).take k) ++ (uv au.toNat) ++ (uv ((qaC af).length))).length) bX))]) (by simp only [List.length_append,List.length_cons,List.length_nil,Nat.zero_add])
  refine qaj [11] [12,13] [(9,.v (.slice A_ ((qaL W l v (Tree.mk n1 s2 b3 l4 u5) 0).length) c_)),(11,.v (.int .i64 ((qaR W l (Tree.mk n1 s2 b3 l4 u5) k2 + k:Nat):Int))),(100,.v (.slice aE ((qan l u5).length) aF)),(101,.v (.int .i64 (((qan l u5).length:Nat):Int))),aD,(119,.v (.slice bW ((qaB W l (Tree.mk n1 s2 b3 l4 u5) k2 ++ qbb ((qan l u5).take k) ++ (uv au.toNat) ++ (uv ((qaC af).length))).length) bX)),(120,.v (.slice aM ((qaC af).length) aN))] fz ku fun qe kv=>?_
  refine qam (qaI fz kv (k:=1) (d:=121) (t:=24) (e:=5) (size:=1) (bytes:=1) (A:=bW) (As:=aM) (m0:=((qaB W l (Tree.mk n1 s2 b3 l4 u5) k2 ++ qbb ((qan l u5).take k) ++ (uv au.toNat) ++ (uv ((qaC af).length))).length)) (c:=bX) (m:=((qaC af).length)) (cs:=aN) (xs:=(bc (qaB W l (Tree.mk n1 s2 b3 l4 u5) k2 ++ qbb ((qan l u5).take k) ++ (uv au.toNat) ++ (uv ((qaC af).length))))) (news:=bc (qaC af)) kz kz rfl ((eu.take 32767).move ((((((((((bg.trans aQ).trans bF).trans bG).trans cA).trans cB).trans cC).trans cE).trans cG).trans cH).trans cI).step immM ((((((((((bg.trans aQ).trans bF).trans bG).trans cA).trans cB).trans cC).trans cE).trans cG).trans cH).trans cI).to').src ((eu.take 32767).move ((((((((((bg.trans aQ).trans bF).trans bG).trans cA).trans cB).trans cC).trans cE).trans cG).trans cH).trans cI).step immM ((((((((((bg.trans aQ).trans bF).trans bG).trans cA).trans cB).trans cC).trans cE).trans cG).trans cH).trans cI).to').cap (by have h_:=qgV (l:=(qan l u5)) (k + 1); rw [qew cz] at h_; simp only [List.length_append] at h_ ⊢; omega) fun aT aU qf qg kw ky kA=>?_)
  have kB:(⟨aT,aU,5,1,(qaB W l (Tree.mk n1 s2 b3 l4 u5) k2 ++ qbb ((qan l u5).take k) ++ (uv au.toNat) ++ (uv ((qaC af).length))).length + (qaC af).length,bc (qaB W l (Tree.mk n1 s2 b3 l4 u5) k2 ++ qbb ((qan l u5).take k) ++ (uv au.toNat) ++ (uv ((qaC af).length))) ++ bc (qaC af)⟩:Rw) = brow aT aU 5 (qaB W l (Tree.mk n1 s2 b3 l4 u5) k2 ++ qbb ((qan l u5).take k) ++ (uv au.toNat) ++ (uv ((qaC af).length)) ++ (qaC af)):=qa6 (rfl) rfl
  obtain ⟨dl,kC⟩:=ky.rowEq 1 [brow A_ c_ 5 (qaL W l v (Tree.mk n1 s2 b3 l4 u5) 0),brow aT aU 5 (qaB W l (Tree.mk n1 s2 b3 l4 u5) k2 ++ qbb ((qan l u5).take k) ++ (uv au.toNat) ++ (uv ((qaC af).length)) ++ (qaC af)),brow dv dw 5 (uv au.toNat),brow dx dy 5 (uv ((qaC af).length))] kB
  have kD:=EnvOk.pick kA (ks:=[9,11,100,101,102,119,120,121]) (env':=[(9,.v (.slice A_ ((qaL W l v (Tree.mk n1 s2 b3 l4 u5) 0).length) c_)),(11,.v (.int .i64 ((qaR W l (Tree.mk n1 s2 b3 l4 u5) k2 + k:Nat):Int))),(100,.v (.slice aE ((qan l u5).length) aF)),(101,.v (.int .i64 (((qan l u5).length:Nat):Int))),aD,(119,.v (.slice bW ((qaB W l (Tree.mk n1 s2 b3 l4 u5) k2 ++ qbb ((qan l u5).take k) ++ (uv au.toNat) ++ (uv ((qaC af).length))).length) bX)),(120,.v (.slice aM ((qaC af).length) aN)),(121,.v (.slice aT ((qaB W l (Tree.mk n1 s2 b3 l4 u5) k2 ++ qbb ((qan l u5).take k) ++ (uv au.toNat) ++ (uv ((qaC af).length))).length + (qaC af).length) aU))]) kz
  have kE:=kD.cast (env':=[(9,.v (.slice A_ ((qaL W l v (Tree.mk n1 s2 b3 l4 u5) 0).length) c_)),(11,.v (.int .i64 ((qaR W l (Tree.mk n1 s2 b3 l4 u5) k2 + k:Nat):Int))),(100,.v (.slice aE ((qan l u5).length) aF)),(101,.v (.int .i64 (((qan l u5).length:Nat):Int))),aD,(119,.v (.slice bW ((qaB W l (Tree.mk n1 s2 b3 l4 u5) k2 ++ qbb ((qan l u5).take k) ++ (uv au.toNat) ++ (uv ((qaC af).length))).length) bX)),(120,.v (.slice aM ((qaC af).length) aN)),(121,.v (.slice aT ((qaB W l (Tree.mk n1 s2 b3 l4 u5) k2 ++ qbb ((qan l u5).take k) ++ (uv au.toNat) ++ (uv ((qaC af).length)) ++ (qaC af)).length) aU))]) (by simp only [List.length_append,List.length_cons,List.length_nil,Nat.zero_add])
  refine qaj [13] [] [(9,.v (.slice A_ ((qaL W l v (Tree.mk n1 s2 b3 l4 u5) 0).length) c_)),(10,.v (.slice aT ((qaB W l (Tree.mk n1 s2 b3 l4 u5) k2 ++ qbb ((qan l u5).take k) ++ (uv au.toNat) ++ (uv ((qaC af).length)) ++ (qaC af)).length) aU)),(11,.v (.int .i64 ((qaR W l (Tree.mk n1 s2 b3 l4 u5) k2 + k:Nat):Int))),(100,.v (.slice aE ((qan l u5).length) aF)),(101,.v (.int .i64 (((qan l u5).length:Nat):Int))),aD] dl kE fun qh kF=>?_
  refine qae (qaa ?_)
  refine qaq [0,1,2] kz ?_
  refine qaj [0,1,2] [] [(9,.v (.slice A_ ((qaL W l v (Tree.mk n1 s2 b3 l4 u5) 0).length) c_)),(10,.v (.slice aT ((qaB W l (Tree.mk n1 s2 b3 l4 u5) k2 ++ qbb ((qan l u5).take k) ++ (uv au.toNat) ++ (uv ((qaC af).length)) ++ (qaC af)).length) aU)),(11,.v (.int .i64 (IntKind.i64.wrap (((qaR W l (Tree.mk n1 s2 b3 l4 u5) k2 + k:Nat):Int) + 1)))),(100,.v (.slice aE ((qan l u5).length) aF)),(101,.v (.int .i64 (((qan l u5).length:Nat):Int))),aD] dl kF fun qi kG=>?_
  refine qae (qaw (qaa (qaq [0,1] kz ?_)))
  refine qaj [0,1] [] [(9,.v (.slice A_ ((qaL W l v (Tree.mk n1 s2 b3 l4 u5) 0).length) c_)),(10,.v (.slice aT ((qaB W l (Tree.mk n1 s2 b3 l4 u5) k2 ++ qbb ((qan l u5).take k) ++ (uv au.toNat) ++ (uv ((qaC af).length)) ++ (qaC af)).length) aU)),(11,.v (.int .i64 (IntKind.i64.wrap (((qaR W l (Tree.mk n1 s2 b3 l4 u5) k2 + k:Nat):Int) + 1)))),(100,.v (.slice aE ((qan l u5).length) aF)),(101,.v (.int .i64 (((qan l u5).length:Nat):Int))),(102,.v (.int .i64 (IntKind.i64.wrap (((k:Nat):Int) + 1))))] dl kG fun qj kH=>?_
  refine qae (qaa ?_)
  obtain ⟨dp,kI,kJ⟩:=dl.cutB kH 1 [aK] [(9,.v (.slice A_ ((qaL W l v (Tree.mk n1 s2 b3 l4 u5) 0).length) c_)),(10,.v (.slice aT ((qaB W l (Tree.mk n1 s2 b3 l4 u5) k2 ++ qbb ((qan l u5).take k) ++ (uv au.toNat) ++ (uv ((qaC af).length)) ++ (qaC af)).length) aU)),(11,.v (.int .i64 (IntKind.i64.wrap (((qaR W l (Tree.mk n1 s2 b3 l4 u5) k2 + k:Nat):Int) + 1)))),(100,.v (.slice aE ((qan l u5).length) aF)),(101,.v (.int .i64 (((qan l u5).length:Nat):Int))),(102,.v (.int .i64 (IntKind.i64.wrap (((k:Nat):Int) + 1))))]
  obtain ⟨kK,kM⟩:=kI.cutR 2 [brow A_ c_ 5 (qaL W l v (Tree.mk n1 s2 b3 l4 u5) 0),brow aT aU 5 (qaB W l (Tree.mk n1 s2 b3 l4 u5) k2 ++ qbb ((qan l u5).take k) ++ (uv au.toNat) ++ (uv ((qaC af).length)) ++ (qaC af))]
  have fA:(qaB W l (Tree.mk n1 s2 b3 l4 u5) k2 ++ qbb ((qan l u5).take k) ++ (uv au.toNat) ++ (uv ((qaC af).length)) ++ (qaC af)) = (qaB W l (Tree.mk n1 s2 b3 l4 u5) k2 ++ qbb ((qan l u5).take (k + 1))):=by rw [qew cz]; simp only [List.append_assoc]
  have kN:=congrArg (brow aT aU 5) fA
  obtain ⟨kO,kP⟩:=kK.rowEq 1 [brow A_ c_ 5 (qaL W l v (Tree.mk n1 s2 b3 l4 u5) 0),brow aT aU 5 (qaB W l (Tree.mk n1 s2 b3 l4 u5) k2 ++ qbb ((qan l u5).take (k + 1)))] kN
  rw [fA] at dp
  have kQ:IntKind.i64.wrap (((k:Nat):Int) + 1) = ((k + 1:Nat):Int):=qbq (by omega)
  rw [kQ] at dp
  have kR:IntKind.i64.wrap (((qaR W l (Tree.mk n1 s2 b3 l4 u5) k2 + k:Nat):Int) + 1) = ((qaR W l (Tree.mk n1 s2 b3 l4 u5) k2 + (k + 1):Nat):Int):=by rw [wrap_i64 (by omega) (by omega)]; omega
  rw [kR] at dp
  exact ⟨(qan l u5).length - (k + 1),by omega,k + 1,aT,aU,rfl,by omega,dp.pk,kO,((((((((((((((aQ.trans bF).trans bG).trans cA).trans cB).trans cC).trans cE).trans cG).trans cH).trans cI).trans kw).trans kC).trans kJ).trans kM).trans kP)⟩
 have nv:=of_decide_eq_false em
 refine wp_exit (qay (qay (qaQ (qaa (qad [0,1,2,3,4,5,6,7] kz ?_)))))
 refine qaj [0,1,2] [3,4,5,6,7] [(10,.v (.slice A4_ ((qaB W l (Tree.mk n1 s2 b3 l4 u5) k2 ++ qbb ((qan l u5).take k)).length) c4_)),(125,.v (.slice A_ ((qaL W l v (Tree.mk n1 s2 b3 l4 u5) 0).length) c_)),(127,.v (.int .u64 (IntKind.u64.wrap ((qaR W l (Tree.mk n1 s2 b3 l4 u5) k2 + k:Nat):Int))))] dh ek fun qk kS=>?_
 have kU:IntKind.u64.wrap ((qaR W l (Tree.mk n1 s2 b3 l4 u5) k2 + k:Nat):Int) = ((qaR W l (Tree.mk n1 s2 b3 l4 u5) k2 + k:Nat):Int):=by simp only [qaG,qap,qb0,IntKind.wrap_i64,IntKind.wrap_i32]; omega
 have kV:=EnvOk.pick kS (ks:=[10,125,127]) (env':=[(10,.v (.slice A4_ ((qaB W l (Tree.mk n1 s2 b3 l4 u5) k2 ++ qbb ((qan l u5).take k)).length) c4_)),(125,.v (.slice A_ ((qaL W l v (Tree.mk n1 s2 b3 l4 u5) 0).length) c_)),(127,.v (.int .u64 (IntKind.u64.wrap ((qaR W l (Tree.mk n1 s2 b3 l4 u5) k2 + k:Nat):Int))))]) kz
 have kW:=kV
 rw [kU] at kW
 refine qam (qal kW (f:=31) (vs:=[.int .u64 ((qaR W l (Tree.mk n1 s2 b3 l4 u5) k2 + k:Nat):Int)]) (d:=128) kz Tryz.call31 (qeA (qaR W l (Tree.mk n1 s2 b3 l4 u5) k2 + k) (by omega) _) ?_)
 rintro e_ ql ⟨dA,dB,rfl,kX,kY⟩
 refine ⟨_,rfl,fun qm kZ=>?_⟩
 obtain ⟨eB,nw⟩:=dh.frFresh kY (brow dA dB 5 (uv (qaR W l (Tree.mk n1 s2 b3 l4 u5) k2 + k))) (Nat.le_refl _) kX
 refine qam (qaI eB kZ (k:=0) (d:=129) (t:=24) (e:=5) (size:=1) (bytes:=1) (A:=A_) (As:=dA) (m0:=((qaL W l v (Tree.mk n1 s2 b3 l4 u5) 0).length)) (c:=c_) (m:=((uv (qaR W l (Tree.mk n1 s2 b3 l4 u5) k2 + k)).length)) (cs:=dB) (xs:=(bc (qaL W l v (Tree.mk n1 s2 b3 l4 u5) 0))) (news:=bc (uv (qaR W l (Tree.mk n1 s2 b3 l4 u5) k2 + k))) kz kz rfl (qb8 (eB.own 2 _ rfl) (qcu _)) (qcj (eB.own 2 _ rfl)) (by have hkk3:k = (qan l u5).length:=(by omega); subst hkk3; subst hkk2; simp only [List.length_append,List.take_length] at *; omega) fun bY bZ qn qo nx k7 la=>?_)
 have lb:(⟨bY,bZ,5,1,(qaL W l v (Tree.mk n1 s2 b3 l4 u5) 0).length + (uv (qaR W l (Tree.mk n1 s2 b3 l4 u5) k2 + k)).length,bc (qaL W l v (Tree.mk n1 s2 b3 l4 u5) 0) ++ bc (uv (qaR W l (Tree.mk n1 s2 b3 l4 u5) k2 + k))⟩:Rw) = brow bY bZ 5 (qaL W l v (Tree.mk n1 s2 b3 l4 u5) 0 ++ (uv (qaR W l (Tree.mk n1 s2 b3 l4 u5) k2 + k))):=qa6 (rfl) rfl
 obtain ⟨dq,ny⟩:=k7.rowEq 0 [brow bY bZ 5 (qaL W l v (Tree.mk n1 s2 b3 l4 u5) 0 ++ (uv (qaR W l (Tree.mk n1 s2 b3 l4 u5) k2 + k))),brow A4_ c4_ 5 (qaB W l (Tree.mk n1 s2 b3 l4 u5) k2 ++ qbb ((qan l u5).take k)),brow dA dB 5 (uv (qaR W l (Tree.mk n1 s2 b3 l4 u5) k2 + k))] lb
 have lc:=EnvOk.pick la (ks:=[10,125,127,128,129]) (env':=[(10,.v (.slice A4_ ((qaB W l (Tree.mk n1 s2 b3 l4 u5) k2 ++ qbb ((qan l u5).take k)).length) c4_)),(125,.v (.slice A_ ((qaL W l v (Tree.mk n1 s2 b3 l4 u5) 0).length) c_)),(127,.v (.int .u64 ((qaR W l (Tree.mk n1 s2 b3 l4 u5) k2 + k:Nat):Int))),(128,.v (.slice dA ((uv (qaR W l (Tree.mk n1 s2 b3 l4 u5) k2 + k)).length) dB)),(129,.v (.slice bY ((qaL W l v (Tree.mk n1 s2 b3 l4 u5) 0).length + (uv (qaR W l (Tree.mk n1 s2 b3 l4 u5) k2 + k)).length) bZ))]) kz
 have ld:=lc.cast (env':=[(10,.v (.slice A4_ ((qaB W l (Tree.mk n1 s2 b3 l4 u5) k2 ++ qbb ((qan l u5).take k)).length) c4_)),(125,.v (.slice A_ ((qaL W l v (Tree.mk n1 s2 b3 l4 u5) 0).length) c_)),(127,.v (.int .u64 ((qaR W l (Tree.mk n1 s2 b3 l4 u5) k2 + k:Nat):Int))),(128,.v (.slice dA ((uv (qaR W l (Tree.mk n1 s2 b3 l4 u5) k2 + k)).length) dB)),(129,.v (.slice bY ((qaL W l v (Tree.mk n1 s2 b3 l4 u5) 0 ++ (uv (qaR W l (Tree.mk n1 s2 b3 l4 u5) k2 + k))).length) bZ))]) (by simp only [List.length_append,List.length_cons,List.length_nil,Nat.zero_add])
 refine qaj [5] [6,7] [(129,.v (.slice bY ((qaL W l v (Tree.mk n1 s2 b3 l4 u5) 0 ++ (uv (qaR W l (Tree.mk n1 s2 b3 l4 u5) k2 + k))).length) bZ)),(130,.v (.slice A4_ ((qaB W l (Tree.mk n1 s2 b3 l4 u5) k2 ++ qbb ((qan l u5).take k)).length) c4_))] dq ld fun qp lf=>?_
 refine qam (qaI dq lf (k:=0) (d:=131) (t:=24) (e:=5) (size:=1) (bytes:=1) (A:=bY) (As:=A4_) (m0:=((qaL W l v (Tree.mk n1 s2 b3 l4 u5) 0 ++ (uv (qaR W l (Tree.mk n1 s2 b3 l4 u5) k2 + k))).length)) (c:=bZ) (m:=((qaB W l (Tree.mk n1 s2 b3 l4 u5) k2 ++ qbb ((qan l u5).take k)).length)) (cs:=c4_) (xs:=(bc (qaL W l v (Tree.mk n1 s2 b3 l4 u5) 0 ++ (uv (qaR W l (Tree.mk n1 s2 b3 l4 u5) k2 + k))))) (news:=bc (qaB W l (Tree.mk n1 s2 b3 l4 u5) k2 ++ qbb ((qan l u5).take k))) kz kz rfl (qb8 (dq.own 1 _ rfl) (qcu _)) (qcj (dq.own 1 _ rfl)) (by have hkk3:k = (qan l u5).length:=(by omega); subst hkk3; subst hkk2; simp only [List.length_append,List.take_length] at *; omega) fun cM cN qq qr nz lg lh=>?_)
 have li:(⟨cM,cN,5,1,(qaL W l v (Tree.mk n1 s2 b3 l4 u5) 0 ++ (uv (qaR W l (Tree.mk n1 s2 b3 l4 u5) k2 + k))).length + (qaB W l (Tree.mk n1 s2 b3 l4 u5) k2 ++ qbb ((qan l u5).take k)).length,bc (qaL W l v (Tree.mk n1 s2 b3 l4 u5) 0 ++ (uv (qaR W l (Tree.mk n1 s2 b3 l4 u5) k2 + k))) ++ bc (qaB W l (Tree.mk n1 s2 b3 l4 u5) k2 ++ qbb ((qan l u5).take k))⟩:Rw) = brow cM cN 5 (qaL W l v (Tree.mk n1 s2 b3 l4 u5) 0 ++ (uv (qaR W l (Tree.mk n1 s2 b3 l4 u5) k2 + k)) ++ (qaB W l (Tree.mk n1 s2 b3 l4 u5) k2 ++ qbb ((qan l u5).take k))):=qa6 (rfl) rfl
 obtain ⟨eC,nA⟩:=lg.rowEq 0 [brow cM cN 5 (qaL W l v (Tree.mk n1 s2 b3 l4 u5) 0 ++ (uv (qaR W l (Tree.mk n1 s2 b3 l4 u5) k2 + k)) ++ (qaB W l (Tree.mk n1 s2 b3 l4 u5) k2 ++ qbb ((qan l u5).take k))),brow A4_ c4_ 5 (qaB W l (Tree.mk n1 s2 b3 l4 u5) k2 ++ qbb ((qan l u5).take k)),brow dA dB 5 (uv (qaR W l (Tree.mk n1 s2 b3 l4 u5) k2 + k))] li
 have lj:=EnvOk.pick lh (ks:=[129,130,131]) (env':=[(129,.v (.slice bY ((qaL W l v (Tree.mk n1 s2 b3 l4 u5) 0 ++ (uv (qaR W l (Tree.mk n1 s2 b3 l4 u5) k2 + k))).length) bZ)),(130,.v (.slice A4_ ((qaB W l (Tree.mk n1 s2 b3 l4 u5) k2 ++ qbb ((qan l u5).take k)).length) c4_)),(131,.v (.slice cM ((qaL W l v (Tree.mk n1 s2 b3 l4 u5) 0 ++ (uv (qaR W l (Tree.mk n1 s2 b3 l4 u5) k2 + k))).length + (qaB W l (Tree.mk n1 s2 b3 l4 u5) k2 ++ qbb ((qan l u5).take k)).length) cN))]) kz
 have lm:=lj.cast (env':=[(129,.v (.slice bY ((qaL W l v (Tree.mk n1 s2 b3 l4 u5) 0 ++ (uv (qaR W l (Tree.mk n1 s2 b3 l4 u5) k2 + k))).length) bZ)),(130,.v (.slice A4_ ((qaB W l (Tree.mk n1 s2 b3 l4 u5) k2 ++ qbb ((qan l u5).take k)).length) c4_)),(131,.v (.slice cM ((qaL W l v (Tree.mk n1 s2 b3 l4 u5) 0 ++ (uv (qaR W l (Tree.mk n1 s2 b3 l4 u5) k2 + k)) ++ (qaB W l (Tree.mk n1 s2 b3 l4 u5) k2 ++ qbb ((qan l u5).take k))).length) cN))]) (by simp only [List.length_append,List.length_cons,List.length_nil,Nat.zero_add])
 refine qaj [7] [] [(8,.v (.slice cM ((qaL W l v (Tree.mk n1 s2 b3 l4 u5) 0 ++ (uv (qaR W l (Tree.mk n1 s2 b3 l4 u5) k2 + k)) ++ (qaB W l (Tree.mk n1 s2 b3 l4 u5) k2 ++ qbb ((qan l u5).take k))).length) cN))] eC lm fun qs ln=>?_
 refine qae (qaa ?_)
 refine wp_ret (qaD ln eC.cells (v:=.slice cM ((qaL W l v (Tree.mk n1 s2 b3 l4 u5) 0 ++ (uv (qaR W l (Tree.mk n1 s2 b3 l4 u5) k2 + k)) ++ (qaB W l (Tree.mk n1 s2 b3 l4 u5) k2 ++ qbb ((qan l u5).take k))).length) cN) kz ?_)
 have hkk3:k = (qan l u5).length:=by omega
 exact qbc eC (k:=0) rfl (by rw [show flex = true by simpa using cU,qgn,hkk3,hkk2,List.take_length])
theorem qir:∀ d,qkE d
 | 0=>fun A c l v flex ct t w F hl hd ht hr=>qm5 (fun _ _=>[]) A c l v flex ct t w F (fun cf f ct t w F hm hf ht hr=>by
   obtain ⟨i,hi⟩:=List.mem_iff_getElem?.1 hm
   have h:=qeu hi
   obtain ⟨k,x1,x2,x3,x4,x5,x6,l,A,c,xs,rfl,_⟩:=hf.open_
   rw [qfG] at h; omega) hl ht hr
 | d + 1=>fun A c l v flex ct t w F hl hd ht hr=>qm5 (fun f t=>qc7 d f v flex t) A c l v flex ct t w F (fun cf f ct t w F hm hf ht hr=>qm4 (qir d) cf f v flex ct t w F hf (by
   obtain ⟨i,hi⟩:=List.mem_iff_getElem?.1 hm
   have h:=qeu hi
   obtain ⟨k,x1,x2,x3,x4,x5,x6,l,A,c,xs,rfl,_⟩:=hf.open_
   rw [qfG] at h
   show depths l ≤ d
   omega) ht hr) hl ht hr
theorem qm6 {d:Nat} (A:Option Addr) (c:Nat) (l:List Fld) (x v:Int) (ct:List Value) (t:Tree) (w:World) (F:Nat → Nat → Prop) (hl:FldsR w F A c l) (hd:depths l ≤ d) (ht:TreeR w F ct t) (hroom:(qbm d l x v t).length ≤ 1099511627776) :
  Calls Tryz.prog 9 #[.agg #[.slice A l.length c,.int .i64 x],.int .i64 v,.agg ct.toArray] w (qd0 w 5 (qbm d l x v t)):=by
 obtain ⟨xfs,h1,h2⟩:=hl.ex
 have hsm:=h1.small
 obtain ⟨n1,s2,b3,l4,u5,A6,c7,A8,c9,ap,ar,aR,rfl,rfl,aS,aT,bh,bj⟩:=ht.open_
 have aO:=aS.small
 have aP:=aT.small
 refine enter (n:=21) Tryz.func9 rfl Tryz.ntmps9 kz fun a hE=>?_
 have hW:=WOk.start w Nil
 refine qad [0,1,2] kz ?_
 let ag:Value:=.slice A l.length c
 refine qam (qbt hW hE (d:=3) (cs:=[ag,.int .i64 x]) kz fun bk bn bo aU aV aW au av=>?_)
 let ah:Value:=.slice A6 s2.length c7
 let ai:Value:=.slice A8 l4.length c9
 let aj:Value:=.slice ap u5.length ar
 refine qam (qbt au av (d:=5) (cs:=[.int .i64 n1,ah,.bool b3,ai,aj]) kz fun bp bq bt aX aY aZ aa aw=>?_)
 let af:Nat × SV:=(1,.v (.int .i64 v))
 refine qaj [2] [] [af,(3,.p 0 0),(5,.p 1 0)] aa aw fun bu ax=>?_
 refine qae (qaa ?_)
 refine qad [0,1,2,3,4,5,6,7,8,9,10,11,12,13,14] kz ?_
 let ac:Nat × SV:=(8,.v (.slice A l.length c))
 let ae:Nat × SV:=(9,.v (.int .i64 v))
 refine qaj [0,1,2,3,4,5,6] [7,8,9,10,11,12,13,14] [af,(3,.p 0 0),(5,.p 1 0),ac,ae,(13,.v (.bool (decide (x ≥ 0))))] aa ax fun bw ao=>?_
 let ak:Nat × SV:=(19,.v (.agg #[.int .i64 n1,.slice A6 s2.length c7,.bool b3,.slice A8 l4.length c9,.slice ap u5.length ar]))
 let aQ:Value:=.agg #[.int .i64 n1,.slice A6 s2.length c7,.bool b3,.slice A8 l4.length c9,.slice ap u5.length ar]
 refine (Bool.eq_false_or_eq_true (decide (x ≥ 0))).elim (fun ab=>?_) (fun ab=>?_)
 ·
  have ba:=of_decide_eq_true ab
  have ay:=ao
  rw [ab] at ay
  refine qaj [7,8,9,10,11,12] [13,14] [ac,ae,(18,.v (.bool (decide (v ≥ x)))),ak] aa ay fun bx az=>?_
  refine qam (qal az (f:=18) (vs:=[ag,.int .i64 v,.bool (decide (v ≥ x)),.agg #[.int .i64 n1,ah,.bool b3,ai,aj]]) (d:=20) kz Tryz.call18 (qir _ _ _ l v (decide (v ≥ x)) _ (Tree.mk n1 s2 b3 l4 u5) _ _ ⟨xfs,(h1.move aa.step nilM aa.imm),(fun i_ x_ h_=>((h2 i_ x_ h_).move aa.step nilM aa.imm))⟩ hd (ht.move aa.step nilM aa.imm) (by simpa [qbm,ab] using hroom)) ?_)
  rintro e_ bz ⟨aA,aB,rfl,aC,aD⟩
  refine ⟨_,rfl,fun bA aE=>?_⟩
  obtain ⟨al,bd⟩:=aa.frFresh aD (brow aA aB 5 (qa1 d l v (decide (v ≥ x)) (Tree.mk n1 s2 b3 l4 u5))) (Nat.le_refl _) aC
  refine qaj [14] [] [(6,.v (.slice aA ((qa1 d l v (decide (v ≥ x)) (Tree.mk n1 s2 b3 l4 u5)).length) aB))] al aE fun bB aF=>?_
  refine qae (qaa ?_)
  refine wp_ret (qaD aF al.cells (v:=.slice aA ((qa1 d l v (decide (v ≥ x)) (Tree.mk n1 s2 b3 l4 u5)).length) aB) kz ?_)
  exact qbc al (k:=0) rfl (by simp [qbm,ab])
 have bf:=of_decide_eq_false ab
 have aG:=ao
 rw [ab] at aG
 refine qaj [7,8,9,10,11,12] [13,14] [ac,ae,(18,.v (.bool false)),ak] aa aG fun bC aH=>?_
 refine qam (qal aH (f:=18) (vs:=[ag,.int .i64 v,.bool false,.agg #[.int .i64 n1,ah,.bool b3,ai,aj]]) (d:=20) kz Tryz.call18 (qir _ _ _ l v false _ (Tree.mk n1 s2 b3 l4 u5) _ _ ⟨xfs,(h1.move aa.step nilM aa.imm),(fun i_ x_ h_=>((h2 i_ x_ h_).move aa.step nilM aa.imm))⟩ hd (ht.move aa.step nilM aa.imm) (by simpa [qbm,ab] using hroom)) ?_)
 rintro e_ bD ⟨aI,aJ,rfl,aK,aL⟩
 refine ⟨_,rfl,fun bE aM=>?_⟩
 obtain ⟨am,bg⟩:=aa.frFresh aL (brow aI aJ 5 (qa1 d l v false (Tree.mk n1 s2 b3 l4 u5))) (Nat.le_refl _) aK
 refine qaj [14] [] [(6,.v (.slice aI ((qa1 d l v false (Tree.mk n1 s2 b3 l4 u5)).length) aJ))] am aM fun bF aN=>?_
 refine qae (qaa ?_)
 refine wp_ret (qaD aN am.cells (v:=.slice aI ((qa1 d l v false (Tree.mk n1 s2 b3 l4 u5)).length) aJ) kz ?_)
 exact qbc am (k:=0) rfl (by simp [qbm,ab])
def sFetchSnapshotRequestF:List Fld:=[(Fld.mk 8 0 (-1) 0 0 0 0 []),(Fld.mk 3 0 (-1) (-1) (-1) (-1) 0 []),(Fld.mk 3 0 (-1) (-1) (-1) 2147483647 0 []),(Fld.mk 11 0 (-1) (-1) (-1) 0 10 [(Fld.mk 8 0 (-1) (-1) (-1) 0 0 []),(Fld.mk 11 0 (-1) (-1) (-1) 0 10 [(Fld.mk 3 0 (-1) (-1) (-1) 0 0 []),(Fld.mk 3 0 (-1) (-1) (-1) 0 0 []),(Fld.mk 10 0 (-1) (-1) (-1) 0 0 [(Fld.mk 4 0 (-1) (-1) (-1) 0 0 []),(Fld.mk 3 0 (-1) (-1) (-1) 0 0 [])]),(Fld.mk 4 0 (-1) (-1) (-1) 0 0 []),(Fld.mk 7 0 (-1) (-1) 0 0 0 [])])])]
def qaf:Int:=0
abbrev z0 :=(Fld.mk 11 0 (-1) (-1) (-1) 0 10 [(Fld.mk 3 0 (-1) (-1) (-1) 0 0 []),(Fld.mk 3 0 (-1) (-1) (-1) 0 0 []),(Fld.mk 10 0 (-1) (-1) (-1) 0 0 [(Fld.mk 4 0 (-1) (-1) (-1) 0 0 []),(Fld.mk 3 0 (-1) (-1) (-1) 0 0 [])]),(Fld.mk 4 0 (-1) (-1) (-1) 0 0 []),(Fld.mk 7 0 (-1) (-1) 0 0 0 [])])
abbrev z8 :=(Fld.mk 10 0 (-1) (-1) (-1) 0 0 [(Fld.mk 4 0 (-1) (-1) (-1) 0 0 []),(Fld.mk 3 0 (-1) (-1) (-1) 0 0 [])])
theorem qeb (w:World) (F:Nat → Nat → Prop):Calls Tryz.prog 7 #[] w (qmQ w F sFetchSnapshotRequestF qaf):=by
 refine enter (n:=8) Tryz.func7 rfl Tryz.ntmps7 kz fun a hE=>?_
 have hW:=WOk.start w Nil
 refine qad [0] kz ?_
 let ac:Value:=.slice none 0 0
 let aa:Value:=.int .i64 0
 refine qam (qbo hW hE (d:=0) (cs:=[ac,aa]) kz fun b1 a2 w3 hb4 hz5 hF6 hW7 hE8=>?_)
 refine qae (qaa ?_)
 refine qad [0,1,2,3,4,5,6,7] kz ?_
 let ar:Nat × SV:=(1,.v (.agg #[.int .i64 8,.int .i64 0,.int .i64 (-1),.int .i64 0,.int .i64 0,.int .i64 0,.int .i64 0,.slice none 0 0]))
 let au:Nat × SV:=(2,.v (.agg #[.int .i64 3,.int .i64 0,.int .i64 (-1),.int .i64 (-1),.int .i64 (-1),.int .i64 (-1),.int .i64 0,.slice none 0 0]))
 let av:Nat × SV:=(3,.v (.agg #[.int .i64 3,.int .i64 0,.int .i64 (-1),.int .i64 (-1),.int .i64 (-1),.int .i64 2147483647,.int .i64 0,.slice none 0 0]))
 refine qaj [0,1,2] [3,4,5,6,7] [(0,.p 0 0),ar,au,av] hW7 hE8 fun a9 aM=>?_
 refine qam (qa8 aM (f:=17) (vs:=[]) (d:=4) (n':=5) kz Tryz.call17 Tryz.func17 rfl Tryz.ntmps17 kz fun bM aN=>?_)
 refine qat [] hW7 aN fun bN aO=>?_
 refine qad [0,1,2,3,4] kz ?_
 let aw:Nat × SV:=(1,.v (.agg #[.int .i64 8,.int .i64 0,.int .i64 (-1),.int .i64 (-1),.int .i64 (-1),.int .i64 0,.int .i64 0,.slice none 0 0]))
 refine qaj [0] [1,2,3,4] [aw] hW7 aO fun bO aP=>?_
 refine qam (qa8 aP (f:=25) (vs:=[]) (d:=2) (n':=8) kz Tryz.call25 Tryz.func25 rfl Tryz.ntmps25 kz fun bP aQ=>?_)
 refine qat [] hW7 aQ fun bQ aR=>?_
 refine qad [0,1,2,3,4,5,6,7] kz ?_
 let ax:Nat × SV:=(1,.v (.agg #[.int .i64 3,.int .i64 0,.int .i64 (-1),.int .i64 (-1),.int .i64 (-1),.int .i64 0,.int .i64 0,.slice none 0 0]))
 let ak:Nat × SV:=(2,.v (.agg #[.int .i64 3,.int .i64 0,.int .i64 (-1),.int .i64 (-1),.int .i64 (-1),.int .i64 0,.int .i64 0,.slice none 0 0]))
 refine qaj [0,1] [2,3,4,5,6,7] [ax,ak] hW7 aR fun bR aS=>?_
 refine qam (qa8 aS (f:=38) (vs:=[]) (d:=3) (n':=4) kz Tryz.call38 Tryz.func38 rfl Tryz.ntmps38 kz fun bS aT=>?_)
 refine qat [] hW7 aT fun bT aU=>?_
 refine qad [0,1,2,3] kz ?_
 let ag:Value:=.int .i64 4
 let ab:Value:=.int .i64 (-1)
 refine qaj [0,1] [2,3] [(1,.v (.agg #[ag,aa,ab,ab,ab,aa,aa,ac])),ak] hW7 aU fun bU aV=>?_
 let ae:Value:=.int .i64 3
 refine qam (qdy hW7 aV (e:=50) (size:=8) (len:=2) (cs:=[ag,aa,ab,ab,ab,aa,aa,ac,ae,aa,ab,ab,ab,aa,aa,ac]) (d:=3) kz kz fun aJ bV bW bx bz bA aB aW=>?_)
 refine qaj [3] [] [(0,.v (.slice (some ⟨aJ,0,none⟩) 2 2))] aB aW fun bX aX=>?_
 refine qae (qaa ?_)
 refine wp_ret (qaD aX aB.cells (v:=.slice (some ⟨aJ,0,none⟩) 2 2) kz ?_)
 refine ⟨_,rfl,fun bY aY=>?_⟩
 let ay:Ob:=⟨b1,0,[.slice none 0 0,.int .i64 0],true⟩
 have aZ:EnvOk 8 [ay] [(3,.v (.slice (some ⟨aJ,0,none⟩) 2 2)),ax,ak] _:=aY.places (⟨rfl,rfl,trivial⟩)
 let af:Value:=.int .i64 10
 let al:Value:=.slice (some ⟨aJ,0,none⟩) 2 2
 refine qaj [3,4,5] [6,7] [ax,ak,(4,.v (.agg #[af,aa,ab,ab,ab,aa,aa,al])),(5,.v (.agg #[ag,aa,ab,ab,ab,aa,aa,ac])),(6,.v (.agg #[.int .i64 7,aa,ab,ab,aa,aa,aa,ac]))] aB aZ fun bZ ba=>?_
 refine qam (qdy aB ba (e:=50) (size:=8) (len:=5) (cs:=[ae,aa,ab,ab,ab,aa,aa,ac,ae,aa,ab,ab,ab,aa,aa,ac,af,aa,ab,ab,ab,aa,aa,al,ag,aa,ab,ab,ab,aa,aa,ac,.int .i64 7,aa,ab,ab,aa,aa,aa,ac]) (d:=7) kz kz fun aK b8 cd bB bC bD aC bd=>?_)
 refine qaj [7] [] [(0,.v (.slice (some ⟨aK,0,none⟩) 5 5))] aC bd fun ce bf=>?_
 refine qae (qaa ?_)
 refine wp_ret (qaD bf aC.cells (v:=.slice (some ⟨aK,0,none⟩) 5 5) kz ?_)
 refine ⟨_,rfl,fun cg bg=>?_⟩
 have bh:EnvOk 5 [ay] [(2,.v (.slice (some ⟨aK,0,none⟩) 5 5)),aw] _:=bg.places (⟨rfl,rfl,trivial⟩)
 let ah:Value:=.int .i64 11
 let am:Value:=.slice (some ⟨aK,0,none⟩) 5 5
 refine qaj [2] [3,4] [aw,(3,.v (.agg #[ah,aa,ab,ab,ab,aa,af,am]))] aC bh fun cm bj=>?_
 let ai:Value:=.int .i64 8
 refine qam (qdy aC bj (e:=50) (size:=8) (len:=2) (cs:=[ai,aa,ab,ab,ab,aa,aa,ac,ah,aa,ab,ab,ab,aa,af,am]) (d:=4) kz kz fun aL cq cr bE bF bG aD bk=>?_)
 refine qaj [4] [] [(0,.v (.slice (some ⟨aL,0,none⟩) 2 2))] aD bk fun cu bn=>?_
 refine qae (qaa ?_)
 refine wp_ret (qaD bn aD.cells (v:=.slice (some ⟨aL,0,none⟩) 2 2) kz ?_)
 refine ⟨_,rfl,fun cv bo=>?_⟩
 have bp:EnvOk 8 [ay] [(4,.v (.slice (some ⟨aL,0,none⟩) 2 2)),(0,.p 0 0),ar,au,av] _:=bo.places (⟨rfl,rfl,trivial⟩)
 let ao:Value:=.slice (some ⟨aL,0,none⟩) 2 2
 refine qaj [4] [5,6,7] [(0,.p 0 0),ar,au,av,(5,.v (.agg #[ah,aa,ab,ab,ab,aa,af,ao]))] aD bp fun cw bq=>?_
 let az:Value:=.int .i64 2147483647
 refine qam (qdy aD bq (e:=50) (size:=8) (len:=4) (cs:=[ai,aa,ab,aa,aa,aa,aa,ac,ae,aa,ab,ab,ab,ab,aa,ac,ae,aa,ab,ab,ab,az,aa,ac,ah,aa,ab,ab,ab,aa,af,ao]) (d:=6) kz kz fun bH cz cA bI bJ bK aI bt=>?_)
 let aA:Value:=.slice (some ⟨bH,0,none⟩) 4 4
 refine qaj [6] [7] [(0,.p 0 0),(7,.v (.agg #[aA,aa]))] aI bt fun cB bu=>?_
 refine qam (qaK aI bu (oi:=0) (cs:=[aA,aa]) kz fun aj bL ap bw=>?_)
 refine qae (qaa ?_)
 refine wp_ret (qaD bw ap.cells (v:=.agg #[aA,aa]) kz ?_)
 have aE:=Flds.slots (F:=F) ap (k:=0) (n:=2) (xs:=[ag,aa,ab,ab,ab,aa,aa,ac,ae,aa,ab,ab,ab,aa,aa,ac]) rfl (Flds.snoc (Flds.snoc (Flds.nil _ _) (c:=[ag,aa,ab,ab,ab,aa,aa,ac]) (x:=(Fld.mk 4 0 (-1) (-1) (-1) 0 0 [])) (FldR.mk (l:=[]) _ (qcD aj (Fp F w)).1 (qcD aj (Fp F w)).2)) (c:=[ae,aa,ab,ab,ab,aa,aa,ac]) (x:=(Fld.mk 3 0 (-1) (-1) (-1) 0 0 [])) (FldR.mk (l:=[]) _ (qcD aj (Fp F w)).1 (qcD aj (Fp F w)).2)) rfl (by decide)
 have aF:=Flds.slots (F:=F) ap (k:=1) (n:=5) (xs:=[ae,aa,ab,ab,ab,aa,aa,ac,ae,aa,ab,ab,ab,aa,aa,ac,af,aa,ab,ab,ab,aa,aa,al,ag,aa,ab,ab,ab,aa,aa,ac,.int .i64 7,aa,ab,ab,aa,aa,aa,ac]) rfl (Flds.snoc (Flds.snoc (Flds.snoc (Flds.snoc (Flds.snoc (Flds.nil _ _) (c:=[ae,aa,ab,ab,ab,aa,aa,ac]) (x:=(Fld.mk 3 0 (-1) (-1) (-1) 0 0 [])) (FldR.mk (l:=[]) _ (qcD aj (Fp F w)).1 (qcD aj (Fp F w)).2)) (c:=[ae,aa,ab,ab,ab,aa,aa,ac]) (x:=(Fld.mk 3 0 (-1) (-1) (-1) 0 0 [])) (FldR.mk (l:=[]) _ (qcD aj (Fp F w)).1 (qcD aj (Fp F w)).2)) (c:=[af,aa,ab,ab,ab,aa,aa,al]) (x:=z8) (FldR.mk (l:=[(Fld.mk 4 0 (-1) (-1) (-1) 0 0 []),(Fld.mk 3 0 (-1) (-1) (-1) 0 0 [])]) _ aE.1 aE.2)) (c:=[ag,aa,ab,ab,ab,aa,aa,ac]) (x:=(Fld.mk 4 0 (-1) (-1) (-1) 0 0 [])) (FldR.mk (l:=[]) _ (qcD aj (Fp F w)).1 (qcD aj (Fp F w)).2)) (c:=[.int .i64 7,aa,ab,ab,aa,aa,aa,ac]) (x:=(Fld.mk 7 0 (-1) (-1) 0 0 0 [])) (FldR.mk (l:=[]) _ (qcD aj (Fp F w)).1 (qcD aj (Fp F w)).2)) rfl (by decide)
 have aG:=Flds.slots (F:=F) ap (k:=2) (n:=2) (xs:=[ai,aa,ab,ab,ab,aa,aa,ac,ah,aa,ab,ab,ab,aa,af,am]) rfl (Flds.snoc (Flds.snoc (Flds.nil _ _) (c:=[ai,aa,ab,ab,ab,aa,aa,ac]) (x:=(Fld.mk 8 0 (-1) (-1) (-1) 0 0 [])) (FldR.mk (l:=[]) _ (qcD aj (Fp F w)).1 (qcD aj (Fp F w)).2)) (c:=[ah,aa,ab,ab,ab,aa,af,am]) (x:=z0) (FldR.mk (l:=[(Fld.mk 3 0 (-1) (-1) (-1) 0 0 []),(Fld.mk 3 0 (-1) (-1) (-1) 0 0 []),z8,(Fld.mk 4 0 (-1) (-1) (-1) 0 0 []),(Fld.mk 7 0 (-1) (-1) 0 0 0 [])]) _ aF.1 aF.2)) rfl (by decide)
 have aH:=Flds.slots (F:=F) ap (k:=3) (n:=4) (xs:=[ai,aa,ab,aa,aa,aa,aa,ac,ae,aa,ab,ab,ab,ab,aa,ac,ae,aa,ab,ab,ab,az,aa,ac,ah,aa,ab,ab,ab,aa,af,ao]) rfl (Flds.snoc (Flds.snoc (Flds.snoc (Flds.snoc (Flds.nil _ _) (c:=[ai,aa,ab,aa,aa,aa,aa,ac]) (x:=(Fld.mk 8 0 (-1) 0 0 0 0 [])) (FldR.mk (l:=[]) _ (qcD aj (Fp F w)).1 (qcD aj (Fp F w)).2)) (c:=[ae,aa,ab,ab,ab,ab,aa,ac]) (x:=(Fld.mk 3 0 (-1) (-1) (-1) (-1) 0 [])) (FldR.mk (l:=[]) _ (qcD aj (Fp F w)).1 (qcD aj (Fp F w)).2)) (c:=[ae,aa,ab,ab,ab,az,aa,ac]) (x:=(Fld.mk 3 0 (-1) (-1) (-1) 2147483647 0 [])) (FldR.mk (l:=[]) _ (qcD aj (Fp F w)).1 (qcD aj (Fp F w)).2)) (c:=[ah,aa,ab,ab,ab,aa,af,ao]) (x:=(Fld.mk 11 0 (-1) (-1) (-1) 0 10 [(Fld.mk 8 0 (-1) (-1) (-1) 0 0 []),z0])) (FldR.mk (l:=[(Fld.mk 8 0 (-1) (-1) (-1) 0 0 []),z0]) _ aG.1 aG.2)) rfl (by decide)
 exact ⟨_,_,rfl,⟨_,aH.1,aH.2⟩,ap.step⟩
def qba (T:Tree):Prop:=(True) ∧ (True) ∧ canU T.U ∧ True
def qbe (T:Tree):Prop:=(True) ∧ (True) ∧ (qba (T.at_ 2)) ∧ (True) ∧ (True) ∧ canU T.U ∧ (∀ x ∈ T.U,1 ≤ x.1) ∧ True
def qbz (T:Tree):Prop:=((T.at_ 0).S.length ≤ 32767) ∧ ((lst (T.at_ 1)).length ≤ 32767 ∧ ∀ x ∈ lst (T.at_ 1),qbe x) ∧ canU T.U ∧ True
def qbl (T:Tree):Prop:=((qaS (T.at_ 0)).length ≤ 32767) ∧ (True) ∧ (True) ∧ ((lst (T.at_ 3)).length ≤ 32767 ∧ ∀ x ∈ lst (T.at_ 3),qbz x) ∧ canU T.U ∧ (∀ x ∈ T.U,1 ≤ x.1) ∧ True
abbrev z16 :=(Fld.mk 10 0 (-1) (-1) (-1) 0 10 [(Fld.mk 3 0 (-1) (-1) (-1) 0 0 []),(Fld.mk 3 0 (-1) (-1) (-1) 0 0 []),z8,(Fld.mk 4 0 (-1) (-1) (-1) 0 0 []),(Fld.mk 7 0 (-1) (-1) 0 0 0 [])])
theorem qdf (v:Int) (t:Tree):qbl (fitT v 8 sFetchSnapshotRequestF t):=by
 unfold qbl
 exact ⟨(qlo (d:=7) (show sFetchSnapshotRequestF[0]? = _ from rfl) (by decide)),(trivial),(trivial),(⟨qkB (d:=7) (show sFetchSnapshotRequestF[3]? = _ from rfl),qkr (d:=7) (Q:=qbz) (show sFetchSnapshotRequestF[3]? = _ from rfl) fun y=>by
   have h:=qiT (v:=v) (d:=7) (x1:=0) (x2:=-1) (x5:=0) (x6:=10) (s:=[(Fld.mk 8 0 (-1) (-1) (-1) 0 0 []),z0]) (b:=Fld.nul (Fld.mk 10 0 (-1) (-1) (-1) 0 10 [(Fld.mk 8 0 (-1) (-1) (-1) 0 0 []),z0]) v y) (x:=y)
   unfold qbz
   simp only [h.1,h.2]
   exact ⟨(by rw [qmV (d:=6) (show [(Fld.mk 8 0 (-1) (-1) (-1) 0 0 []),(Fld.mk 11 0 (-1) (-1) (-1) 0 10 [(Fld.mk 3 0 (-1) (-1) (-1) 0 0 []),(Fld.mk 3 0 (-1) (-1) (-1) 0 0 []),(Fld.mk 10 0 (-1) (-1) (-1) 0 0 [(Fld.mk 4 0 (-1) (-1) (-1) 0 0 []),(Fld.mk 3 0 (-1) (-1) (-1) 0 0 [])]),(Fld.mk 4 0 (-1) (-1) (-1) 0 0 []),(Fld.mk 7 0 (-1) (-1) 0 0 0 [])])][0]? = _ from rfl) (by decide)]; exact Nat.le_trans (qbD _) (by decide)),(⟨qkB (d:=6) (show [(Fld.mk 8 0 (-1) (-1) (-1) 0 0 []),(Fld.mk 11 0 (-1) (-1) (-1) 0 10 [(Fld.mk 3 0 (-1) (-1) (-1) 0 0 []),(Fld.mk 3 0 (-1) (-1) (-1) 0 0 []),(Fld.mk 10 0 (-1) (-1) (-1) 0 0 [(Fld.mk 4 0 (-1) (-1) (-1) 0 0 []),(Fld.mk 3 0 (-1) (-1) (-1) 0 0 [])]),(Fld.mk 4 0 (-1) (-1) (-1) 0 0 []),(Fld.mk 7 0 (-1) (-1) 0 0 0 [])])][1]? = _ from rfl),qkr (d:=6) (Q:=qbe) (show [(Fld.mk 8 0 (-1) (-1) (-1) 0 0 []),(Fld.mk 11 0 (-1) (-1) (-1) 0 10 [(Fld.mk 3 0 (-1) (-1) (-1) 0 0 []),(Fld.mk 3 0 (-1) (-1) (-1) 0 0 []),(Fld.mk 10 0 (-1) (-1) (-1) 0 0 [(Fld.mk 4 0 (-1) (-1) (-1) 0 0 []),(Fld.mk 3 0 (-1) (-1) (-1) 0 0 [])]),(Fld.mk 4 0 (-1) (-1) (-1) 0 0 []),(Fld.mk 7 0 (-1) (-1) 0 0 0 [])])][1]? = _ from rfl) fun y=>by
     have h:=qiT (v:=v) (d:=6) (x1:=0) (x2:=-1) (x5:=0) (x6:=10) (s:=[(Fld.mk 3 0 (-1) (-1) (-1) 0 0 []),(Fld.mk 3 0 (-1) (-1) (-1) 0 0 []),z8,(Fld.mk 4 0 (-1) (-1) (-1) 0 0 []),(Fld.mk 7 0 (-1) (-1) 0 0 0 [])]) (b:=Fld.nul z16 v y) (x:=y)
     unfold qbe
     simp only [h.1,h.2]
     exact ⟨(trivial),(trivial),(by
       have h:=qkp (v:=v) (d:=5) (t:=y) (show [(Fld.mk 3 0 (-1) (-1) (-1) 0 0 []),(Fld.mk 3 0 (-1) (-1) (-1) 0 0 []),(Fld.mk 10 0 (-1) (-1) (-1) 0 0 [(Fld.mk 4 0 (-1) (-1) (-1) 0 0 []),(Fld.mk 3 0 (-1) (-1) (-1) 0 0 [])]),(Fld.mk 4 0 (-1) (-1) (-1) 0 0 []),(Fld.mk 7 0 (-1) (-1) 0 0 0 [])][2]? = _ from rfl)
       unfold qba
       simp only [h.1,h.2.1]
       exact ⟨(trivial),(trivial),(qfI),(trivial)⟩),(trivial),(trivial),(qfI),(qhM (by decide +kernel)),(trivial)⟩⟩),(qfI),(trivial)⟩⟩),(qfI),(qhM (by decide +kernel)),(trivial)⟩
set_option maxHeartbeats 4000000 in
theorem qdw (v:Int) (h0:0 ≤ v) (h1:v < 32768) (t:Tree):qak v (fitT v 8 sFetchSnapshotRequestF t) = qbm 8 sFetchSnapshotRequestF qaf v t:=by
 have am:=qmU (v:=v) (d:=7) (t:=t) (l:=sFetchSnapshotRequestF) (i:=0) (show sFetchSnapshotRequestF[0]? = _ from rfl) (by decide)
 have ao:((fitT v 8 sFetchSnapshotRequestF t).at_ 1).N = (t.at_ 1).N:=qig (d:=7) (show sFetchSnapshotRequestF[1]? = _ from rfl) (by decide)
 have ap:((fitT v 8 sFetchSnapshotRequestF t).at_ 2).N = (t.at_ 2).N:=qig (d:=7) (show sFetchSnapshotRequestF[2]? = _ from rfl) (by decide)
 obtain ⟨f28n,ar⟩:=qiS (v:=v) (d:=7) (t:=t) (l:=sFetchSnapshotRequestF) (i:=3) (show sFetchSnapshotRequestF[3]? = _ from rfl)
 have ag:∀ ae:Tree,(fun ac:Tree=>(if (decide (v ≥ 0)) = true then (uv ((ac.at_ 0).S.length + 1) ++ (ac.at_ 0).S) else (be 2 (ac.at_ 0).S.length ++ (ac.at_ 0).S)) ++ (((if (decide (v ≥ 0)) = true then (uv ((lst (ac.at_ 1)).length + 1)) else (be 4 (lst (ac.at_ 1)).length)) ++ ((lst (ac.at_ 1)).flatMap fun aa=>(be 4 ((IntKind.i32.wrap (aa.at_ 0).N))) ++ ((be 4 ((IntKind.i32.wrap (aa.at_ 1).N))) ++ ((((be 8 (((aa.at_ 2).at_ 0).N)) ++ ((be 4 ((IntKind.i32.wrap ((aa.at_ 2).at_ 1).N))) ++ (if (decide (v ≥ 0)) = true then (uv (aa.at_ 2).U.length) ++ (qbp (aa.at_ 2).U) else [])))) ++ ((be 8 ((aa.at_ 3).N)) ++ (if (decide (v ≥ 0)) = true then (uv (tagC (!((aa.at_ 4).S.take 16).all (fun b_=>b_ == 0)) + aa.U.length)) ++ ((tagP (!((aa.at_ 4).S.take 16).all (fun b_=>b_ == 0)) 0 ((qas (aa.at_ 4).S))) ++ (qbp aa.U)) else [])))))) ++ (if (decide (v ≥ 0)) = true then (uv ac.U.length) ++ (qbp ac.U) else []))) (qci (fitT v 7) (Fld.mk 10 0 (-1) (-1) (-1) 0 10 [(Fld.mk 8 0 (-1) (-1) (-1) 0 0 []),(Fld.mk 11 0 (-1) (-1) (-1) 0 10 [(Fld.mk 3 0 (-1) (-1) (-1) 0 0 []),(Fld.mk 3 0 (-1) (-1) (-1) 0 0 []),(Fld.mk 10 0 (-1) (-1) (-1) 0 0 [(Fld.mk 4 0 (-1) (-1) (-1) 0 0 []),(Fld.mk 3 0 (-1) (-1) (-1) 0 0 [])]),(Fld.mk 4 0 (-1) (-1) (-1) 0 0 []),(Fld.mk 7 0 (-1) (-1) 0 0 0 [])])]) (Fld.nul (Fld.mk 10 0 (-1) (-1) (-1) 0 10 [(Fld.mk 8 0 (-1) (-1) (-1) 0 0 []),(Fld.mk 11 0 (-1) (-1) (-1) 0 10 [(Fld.mk 3 0 (-1) (-1) (-1) 0 0 []),(Fld.mk 3 0 (-1) (-1) (-1) 0 0 []),(Fld.mk 10 0 (-1) (-1) (-1) 0 0 [(Fld.mk 4 0 (-1) (-1) (-1) 0 0 []),(Fld.mk 3 0 (-1) (-1) (-1) 0 0 [])]),(Fld.mk 4 0 (-1) (-1) (-1) 0 0 []),(Fld.mk 7 0 (-1) (-1) 0 0 0 [])])]) v ae) ae) = qa1 7 [(Fld.mk 8 0 (-1) (-1) (-1) 0 0 []),(Fld.mk 11 0 (-1) (-1) (-1) 0 10 [(Fld.mk 3 0 (-1) (-1) (-1) 0 0 []),(Fld.mk 3 0 (-1) (-1) (-1) 0 0 []),(Fld.mk 10 0 (-1) (-1) (-1) 0 0 [(Fld.mk 4 0 (-1) (-1) (-1) 0 0 []),(Fld.mk 3 0 (-1) (-1) (-1) 0 0 [])]),(Fld.mk 4 0 (-1) (-1) (-1) 0 0 []),(Fld.mk 7 0 (-1) (-1) 0 0 0 [])])] v (decide (v ≥ 0)) ae:=by
  intro ae
  dsimp only
  obtain ⟨ah,ai⟩:=qiT (v:=v) (d:=7) (x1:=0) (x2:=-1) (x5:=0) (x6:=10) (s:=[(Fld.mk 8 0 (-1) (-1) (-1) 0 0 []),z0]) (b:=Fld.nul (Fld.mk 10 0 (-1) (-1) (-1) 0 10 [(Fld.mk 8 0 (-1) (-1) (-1) 0 0 []),z0]) v ae) (x:=ae)
  simp only [ah,ai]
  have au:=qmV (v:=v) (d:=6) (t:=ae) (l:=[(Fld.mk 8 0 (-1) (-1) (-1) 0 0 []),(Fld.mk 11 0 (-1) (-1) (-1) 0 10 [(Fld.mk 3 0 (-1) (-1) (-1) 0 0 []),(Fld.mk 3 0 (-1) (-1) (-1) 0 0 []),(Fld.mk 10 0 (-1) (-1) (-1) 0 0 [(Fld.mk 4 0 (-1) (-1) (-1) 0 0 []),(Fld.mk 3 0 (-1) (-1) (-1) 0 0 [])]),(Fld.mk 4 0 (-1) (-1) (-1) 0 0 []),(Fld.mk 7 0 (-1) (-1) 0 0 0 [])])]) (i:=0) (show [(Fld.mk 8 0 (-1) (-1) (-1) 0 0 []),(Fld.mk 11 0 (-1) (-1) (-1) 0 10 [(Fld.mk 3 0 (-1) (-1) (-1) 0 0 []),(Fld.mk 3 0 (-1) (-1) (-1) 0 0 []),(Fld.mk 10 0 (-1) (-1) (-1) 0 0 [(Fld.mk 4 0 (-1) (-1) (-1) 0 0 []),(Fld.mk 3 0 (-1) (-1) (-1) 0 0 [])]),(Fld.mk 4 0 (-1) (-1) (-1) 0 0 []),(Fld.mk 7 0 (-1) (-1) 0 0 0 [])])][0]? = _ from rfl) (by decide)
  obtain ⟨f33n,av⟩:=qiS (v:=v) (d:=6) (t:=ae) (l:=[(Fld.mk 8 0 (-1) (-1) (-1) 0 0 []),(Fld.mk 11 0 (-1) (-1) (-1) 0 10 [(Fld.mk 3 0 (-1) (-1) (-1) 0 0 []),(Fld.mk 3 0 (-1) (-1) (-1) 0 0 []),(Fld.mk 10 0 (-1) (-1) (-1) 0 0 [(Fld.mk 4 0 (-1) (-1) (-1) 0 0 []),(Fld.mk 3 0 (-1) (-1) (-1) 0 0 [])]),(Fld.mk 4 0 (-1) (-1) (-1) 0 0 []),(Fld.mk 7 0 (-1) (-1) 0 0 0 [])])]) (i:=1) (show [(Fld.mk 8 0 (-1) (-1) (-1) 0 0 []),(Fld.mk 11 0 (-1) (-1) (-1) 0 10 [(Fld.mk 3 0 (-1) (-1) (-1) 0 0 []),(Fld.mk 3 0 (-1) (-1) (-1) 0 0 []),(Fld.mk 10 0 (-1) (-1) (-1) 0 0 [(Fld.mk 4 0 (-1) (-1) (-1) 0 0 []),(Fld.mk 3 0 (-1) (-1) (-1) 0 0 [])]),(Fld.mk 4 0 (-1) (-1) (-1) 0 0 []),(Fld.mk 7 0 (-1) (-1) 0 0 0 [])])][1]? = _ from rfl)
  have aj:∀ ab:Tree,(fun aa:Tree=>(be 4 ((IntKind.i32.wrap (aa.at_ 0).N))) ++ ((be 4 ((IntKind.i32.wrap (aa.at_ 1).N))) ++ ((((be 8 (((aa.at_ 2).at_ 0).N)) ++ ((be 4 ((IntKind.i32.wrap ((aa.at_ 2).at_ 1).N))) ++ (if (decide (v ≥ 0)) = true then (uv (aa.at_ 2).U.length) ++ (qbp (aa.at_ 2).U) else [])))) ++ ((be 8 ((aa.at_ 3).N)) ++ (if (decide (v ≥ 0)) = true then (uv (tagC (!((aa.at_ 4).S.take 16).all (fun b_=>b_ == 0)) + aa.U.length)) ++ ((tagP (!((aa.at_ 4).S.take 16).all (fun b_=>b_ == 0)) 0 ((qas (aa.at_ 4).S))) ++ (qbp aa.U)) else []))))) (qci (fitT v 6) (Fld.mk 10 0 (-1) (-1) (-1) 0 10 [(Fld.mk 3 0 (-1) (-1) (-1) 0 0 []),(Fld.mk 3 0 (-1) (-1) (-1) 0 0 []),(Fld.mk 10 0 (-1) (-1) (-1) 0 0 [(Fld.mk 4 0 (-1) (-1) (-1) 0 0 []),(Fld.mk 3 0 (-1) (-1) (-1) 0 0 [])]),(Fld.mk 4 0 (-1) (-1) (-1) 0 0 []),(Fld.mk 7 0 (-1) (-1) 0 0 0 [])]) (Fld.nul (Fld.mk 10 0 (-1) (-1) (-1) 0 10 [(Fld.mk 3 0 (-1) (-1) (-1) 0 0 []),(Fld.mk 3 0 (-1) (-1) (-1) 0 0 []),(Fld.mk 10 0 (-1) (-1) (-1) 0 0 [(Fld.mk 4 0 (-1) (-1) (-1) 0 0 []),(Fld.mk 3 0 (-1) (-1) (-1) 0 0 [])]),(Fld.mk 4 0 (-1) (-1) (-1) 0 0 []),(Fld.mk 7 0 (-1) (-1) 0 0 0 [])]) v ab) ab) = qa1 6 [(Fld.mk 3 0 (-1) (-1) (-1) 0 0 []),(Fld.mk 3 0 (-1) (-1) (-1) 0 0 []),(Fld.mk 10 0 (-1) (-1) (-1) 0 0 [(Fld.mk 4 0 (-1) (-1) (-1) 0 0 []),(Fld.mk 3 0 (-1) (-1) (-1) 0 0 [])]),(Fld.mk 4 0 (-1) (-1) (-1) 0 0 []),(Fld.mk 7 0 (-1) (-1) 0 0 0 [])] v (decide (v ≥ 0)) ab:=by
   intro ab
   dsimp only
   obtain ⟨ak,al⟩:=qiT (v:=v) (d:=6) (x1:=0) (x2:=-1) (x5:=0) (x6:=10) (s:=[(Fld.mk 3 0 (-1) (-1) (-1) 0 0 []),(Fld.mk 3 0 (-1) (-1) (-1) 0 0 []),z8,(Fld.mk 4 0 (-1) (-1) (-1) 0 0 []),(Fld.mk 7 0 (-1) (-1) 0 0 0 [])]) (b:=Fld.nul z16 v ab) (x:=ab)
   simp only [ak,al]
   have aw:((fitT v 6 [(Fld.mk 3 0 (-1) (-1) (-1) 0 0 []),(Fld.mk 3 0 (-1) (-1) (-1) 0 0 []),(Fld.mk 10 0 (-1) (-1) (-1) 0 0 [(Fld.mk 4 0 (-1) (-1) (-1) 0 0 []),(Fld.mk 3 0 (-1) (-1) (-1) 0 0 [])]),(Fld.mk 4 0 (-1) (-1) (-1) 0 0 []),(Fld.mk 7 0 (-1) (-1) 0 0 0 [])] ab).at_ 0).N = (ab.at_ 0).N:=qig (d:=5) (show [(Fld.mk 3 0 (-1) (-1) (-1) 0 0 []),(Fld.mk 3 0 (-1) (-1) (-1) 0 0 []),(Fld.mk 10 0 (-1) (-1) (-1) 0 0 [(Fld.mk 4 0 (-1) (-1) (-1) 0 0 []),(Fld.mk 3 0 (-1) (-1) (-1) 0 0 [])]),(Fld.mk 4 0 (-1) (-1) (-1) 0 0 []),(Fld.mk 7 0 (-1) (-1) 0 0 0 [])][0]? = _ from rfl) (by decide)
   have ax:((fitT v 6 [(Fld.mk 3 0 (-1) (-1) (-1) 0 0 []),(Fld.mk 3 0 (-1) (-1) (-1) 0 0 []),(Fld.mk 10 0 (-1) (-1) (-1) 0 0 [(Fld.mk 4 0 (-1) (-1) (-1) 0 0 []),(Fld.mk 3 0 (-1) (-1) (-1) 0 0 [])]),(Fld.mk 4 0 (-1) (-1) (-1) 0 0 []),(Fld.mk 7 0 (-1) (-1) 0 0 0 [])] ab).at_ 1).N = (ab.at_ 1).N:=qig (d:=5) (show [(Fld.mk 3 0 (-1) (-1) (-1) 0 0 []),(Fld.mk 3 0 (-1) (-1) (-1) 0 0 []),(Fld.mk 10 0 (-1) (-1) (-1) 0 0 [(Fld.mk 4 0 (-1) (-1) (-1) 0 0 []),(Fld.mk 3 0 (-1) (-1) (-1) 0 0 [])]),(Fld.mk 4 0 (-1) (-1) (-1) 0 0 []),(Fld.mk 7 0 (-1) (-1) 0 0 0 [])][1]? = _ from rfl) (by decide)
   have af:(qar [(Fld.mk 4 0 (-1) (-1) (-1) 0 0 []),(Fld.mk 3 0 (-1) (-1) (-1) 0 0 [])]).toNat = 0:=by decide +kernel
   obtain ⟨ay,f39u,f39n⟩:=qkp (v:=v) (d:=5) (t:=ab) (l:=[(Fld.mk 3 0 (-1) (-1) (-1) 0 0 []),(Fld.mk 3 0 (-1) (-1) (-1) 0 0 []),(Fld.mk 10 0 (-1) (-1) (-1) 0 0 [(Fld.mk 4 0 (-1) (-1) (-1) 0 0 []),(Fld.mk 3 0 (-1) (-1) (-1) 0 0 [])]),(Fld.mk 4 0 (-1) (-1) (-1) 0 0 []),(Fld.mk 7 0 (-1) (-1) 0 0 0 [])]) (i:=2) (show [(Fld.mk 3 0 (-1) (-1) (-1) 0 0 []),(Fld.mk 3 0 (-1) (-1) (-1) 0 0 []),(Fld.mk 10 0 (-1) (-1) (-1) 0 0 [(Fld.mk 4 0 (-1) (-1) (-1) 0 0 []),(Fld.mk 3 0 (-1) (-1) (-1) 0 0 [])]),(Fld.mk 4 0 (-1) (-1) (-1) 0 0 []),(Fld.mk 7 0 (-1) (-1) 0 0 0 [])][2]? = _ from rfl)
   have az:((fitT v 5 [(Fld.mk 4 0 (-1) (-1) (-1) 0 0 []),(Fld.mk 3 0 (-1) (-1) (-1) 0 0 [])] (ab.at_ 2)).at_ 0).N = ((ab.at_ 2).at_ 0).N:=qig (d:=4) (show [(Fld.mk 4 0 (-1) (-1) (-1) 0 0 []),(Fld.mk 3 0 (-1) (-1) (-1) 0 0 [])][0]? = _ from rfl) (by decide)
   have aA:((fitT v 5 [(Fld.mk 4 0 (-1) (-1) (-1) 0 0 []),(Fld.mk 3 0 (-1) (-1) (-1) 0 0 [])] (ab.at_ 2)).at_ 1).N = ((ab.at_ 2).at_ 1).N:=qig (d:=4) (show [(Fld.mk 4 0 (-1) (-1) (-1) 0 0 []),(Fld.mk 3 0 (-1) (-1) (-1) 0 0 [])][1]? = _ from rfl) (by decide)
   have aB:((fitT v 6 [(Fld.mk 3 0 (-1) (-1) (-1) 0 0 []),(Fld.mk 3 0 (-1) (-1) (-1) 0 0 []),(Fld.mk 10 0 (-1) (-1) (-1) 0 0 [(Fld.mk 4 0 (-1) (-1) (-1) 0 0 []),(Fld.mk 3 0 (-1) (-1) (-1) 0 0 [])]),(Fld.mk 4 0 (-1) (-1) (-1) 0 0 []),(Fld.mk 7 0 (-1) (-1) 0 0 0 [])] ab).at_ 3).N = (ab.at_ 3).N:=qig (d:=5) (show [(Fld.mk 3 0 (-1) (-1) (-1) 0 0 []),(Fld.mk 3 0 (-1) (-1) (-1) 0 0 []),(Fld.mk 10 0 (-1) (-1) (-1) 0 0 [(Fld.mk 4 0 (-1) (-1) (-1) 0 0 []),(Fld.mk 3 0 (-1) (-1) (-1) 0 0 [])]),(Fld.mk 4 0 (-1) (-1) (-1) 0 0 []),(Fld.mk 7 0 (-1) (-1) 0 0 0 [])][3]? = _ from rfl) (by decide)
   have aC:((fitT v 6 [(Fld.mk 3 0 (-1) (-1) (-1) 0 0 []),(Fld.mk 3 0 (-1) (-1) (-1) 0 0 []),(Fld.mk 10 0 (-1) (-1) (-1) 0 0 [(Fld.mk 4 0 (-1) (-1) (-1) 0 0 []),(Fld.mk 3 0 (-1) (-1) (-1) 0 0 [])]),(Fld.mk 4 0 (-1) (-1) (-1) 0 0 []),(Fld.mk 7 0 (-1) (-1) 0 0 0 [])] ab).at_ 4).S = (ab.at_ 4).S:=qmR (d:=5) (show [(Fld.mk 3 0 (-1) (-1) (-1) 0 0 []),(Fld.mk 3 0 (-1) (-1) (-1) 0 0 []),(Fld.mk 10 0 (-1) (-1) (-1) 0 0 [(Fld.mk 4 0 (-1) (-1) (-1) 0 0 []),(Fld.mk 3 0 (-1) (-1) (-1) 0 0 [])]),(Fld.mk 4 0 (-1) (-1) (-1) 0 0 []),(Fld.mk 7 0 (-1) (-1) 0 0 0 [])][4]? = _ from rfl) (by decide)
   simp only [qkc,qeS,qex,List.flatMap_map,List.length_map,aw,ax,ay,f39u,az,aA,aB,aC]
   try simp only [be4_i32',qgO,qf1,qkd,qfF,qc1,ql8,qik]
   have hkn:(qar [(Fld.mk 3 0 (-1) (-1) (-1) 0 0 []),(Fld.mk 3 0 (-1) (-1) (-1) 0 0 []),z8,(Fld.mk 4 0 (-1) (-1) (-1) 0 0 []),(Fld.mk 7 0 (-1) (-1) 0 0 0 [])]).toNat = 1:=by decide +kernel
   by_cases bL0:((ab.at_ 4).S.take 16).all (fun b_=>b_ == 0) = true <;> first | (exfalso; omega) | (simp [qa1,qe0,qaL,Fld.tag,Fld.has,qdu,Fld.kind,Fld.null,Fld.of,Fld.sub,qaN,qbG,qaR,qaB,hkn,af,qao,uv0,qkq,bL0,tagN,tagB,Fld.usual,Fld.usual.usuals,tagC,tagP,qax,h0] <;> (congr 1; omega))
  simp only [qkc,qeS,qex,List.flatMap_map,List.length_map,au,f33n,av]
  simp only [aj]
  try simp only [be4_i32',qgO,qf1,qkd,qfF,qc1,ql8,qik]
  first | (exfalso; omega) | simp [qa1,qe0,qaL,Fld.tag,Fld.has,qdu,Fld.kind,Fld.null,Fld.of,Fld.sub,qaN,qbG,qaR,qaB,qar,qao,uv0,qkq,h0]
 unfold qak
 simp only [qkc,qeS,qex,List.flatMap_map,List.length_map,am.1,am.2,ao,ap,f28n,ar]
 simp only [ag]
 try simp only [be4_i32',qgO,qf1,qkd,qfF,qc1,ql8,qik]
 have hkn:(qar [(Fld.mk 8 0 (-1) 0 0 0 0 []),(Fld.mk 3 0 (-1) (-1) (-1) (-1) 0 []),(Fld.mk 3 0 (-1) (-1) (-1) 2147483647 0 []),(Fld.mk 11 0 (-1) (-1) (-1) 0 10 [(Fld.mk 8 0 (-1) (-1) (-1) 0 0 []),z0])]).toNat = 1:=by decide +kernel
 by_cases bL0:(t.at_ 0).null = true <;> first | (exfalso; omega) | (simp [qbm,qaf,sFetchSnapshotRequestF,qa1,qe0,qaL,Fld.tag,Fld.has,qdu,Fld.kind,Fld.null,Fld.of,Fld.sub,qaN,qbG,qaR,qaB,hkn,qnr h0,qao,uv0,qkq,bL0,tagN,tagB,Fld.usual,Fld.usual.usuals,tagC,tagP,qax,h0] <;> (congr 1; omega))
abbrev qcb:=World → (Nat → Nat → Prop) → Prop
structure MvF (P:qcb):Prop where
 move:∀ {w w':World} {F F' M:Nat → Nat → Prop},Step w w' M → (∀ b o,F b o → b < w.heap.size → ¬ M b o) → (∀ b o,F b o → b < w.heap.size → F' b o) → P w F → P w' F'
def noF:qcb:=fun _ _=>True
def andF (P Q:qcb):qcb:=fun w F=>P w F ∧ Q w F
def isF (p:Prop):qcb:=fun _ _=>p
theorem MvF.no:MvF noF:=⟨fun _ _ _ _=>trivial⟩
theorem MvF.and {P Q:qcb} (h:MvF P) (h':MvF Q):MvF (andF P Q):=⟨fun hs hM hF g=>⟨h.move hs hM hF g.1,h'.move hs hM hF g.2⟩⟩
theorem MvF.is (p:Prop):MvF (isF p):=⟨fun _ _ _ g=>g⟩
theorem MvF.mono {P:qcb} (h:MvF P) {w:World} {F F':Nat → Nat → Prop} (hF:∀ b o,F b o → b < w.heap.size → F' b o) (g:P w F):P w F':=h.move (Step.refl w Nil) nilM hF g
def qm7 (A:Option Addr) (X:Bs):qcb:=fun w F=>∀ ad,A = some ad → ∃ b o,ad = ⟨b,o,none⟩ ∧ AtF w F b o [.string (bs X)]
theorem MvF.text (A:Option Addr) (X:Bs):MvF (qm7 A X):=⟨fun hs hM hF g ad hA=>by
 obtain ⟨b,o,h1,h2⟩:=g ad hA
 exact ⟨b,o,h1,h2.move hs hM hF⟩⟩
def qm8 (A:Option Addr) (c:Nat) (X:Bs):qcb:=fun w F=>Octs w F A c X
theorem MvF.octs (A:Option Addr) (c:Nat) (X:Bs):MvF (qm8 A c X):=⟨fun hs hM hF g=>Octs.move g hs hM hF⟩
def qmm (m:Option Nat) (u:List (Int × Bs)):qcb:=fun w F=>MapR w F m u
theorem MvF.tags (m:Option Nat) (u:List (Int × Bs)):MvF (qmm m u):=⟨fun hs hM hF g=>MapR.move g hs hM hF⟩
def atF (b o:Nat) (cs:List Value):qcb:=fun w F=>AtF w F b o cs
theorem MvF.at_ (b o:Nat) (cs:List Value):MvF (atF b o cs):=⟨fun hs hM hF g=>AtF.move g hs hM hF⟩
abbrev rdo (br:Nat) (A:Option Addr) (m c:Nat):Ob:=⟨br,0,[.slice A m c,.bool false],true⟩
theorem qmn {br:Nat} {A A':Option Addr} {m c m' c':Nat} {tb:Tb} {rs:List Rw} {b o:Nat} (h:Act_ (rdo br A m c :: tb) rs b o):Act_ (rdo br A' m' c' :: tb) rs b o:=by
 rcases h with ⟨i,ob,hi,h1⟩ | h
 ·cases i with
  | zero =>
   simp only [List.getElem?_cons_zero,Option.some.injEq] at hi
   subst hi
   exact .inl ⟨0,_,rfl,h1⟩
  | succ i=>exact .inl ⟨i + 1,ob,hi,h1⟩
 exact .inr h
theorem qg8 {G:Nat → Nat → Prop} {w0 w:World} {br:Nat} {A A':Option Addr} {m c m' c':Nat} {tb:Tb} {rs:List Rw} {b o:Nat} (h:Imm G w0 w (rdo br A m c :: tb) rs b o):Imm G w0 w (rdo br A' m' c' :: tb) rs b o :=
 ⟨h.1,h.2.1,fun ha=>h.2.2 (qmn ha)⟩
theorem EnvOk.rdo {n br:Nat} {A A':Option Addr} {m c m' c':Nat} {tb:Tb} {env:Env} {a:Act} (h:EnvOk n (rdo br A m c :: tb) env a):EnvOk n (rdo br A' m' c' :: tb) env a:=by
 refine h.table fun i hi=>?_
 cases i with
 | zero=>exact ⟨by simp,rfl,rfl⟩
 | succ i=>exact ⟨by simpa using hi,rfl,rfl⟩
structure RS (w0:World) (M F:Nat → Nat → Prop) (n br:Nat) (tb:Tb) (env:Env) (P:qcb) (s:Bs) (a:Act) (w:World):Prop where
 mv:MvF P
 ex:∃ A m c,WOk w0 M w (rdo br A m c :: tb) [] ∧ RdS w (Imm F w0 w (rdo br none 0 0 :: tb) []) A m c s
 env_:EnvOk n (rdo br none 0 0 :: tb) env a
 fact:P w (Imm F w0 w (rdo br none 0 0 :: tb) [])
section
variable {Pr:Program} {ops opsA opsB opsC:Array Oper} {Q:Exit → Act → World → Prop} {w0:World} {M F:Nat → Nat → Prop} {n br:Nat} {tb:Tb} {env:Env} {P:qcb} {s:Bs} {a:Act} {w:World}
theorem RS.mk' {A:Option Addr} {m c:Nat} (hW:WOk w0 M w (rdo br A m c :: tb) []) (hr:RdS w (Imm F w0 w (rdo br A m c :: tb) []) A m c s) (hE:EnvOk n (rdo br A m c :: tb) env a) (mv:MvF P) (hP:P w (Imm F w0 w (rdo br A m c :: tb) [])):RS w0 M F n br tb env P s a w :=
 ⟨mv,⟨A,m,c,hW,hr.move (Step.refl w Nil) nilM fun b o h _=>qg8 h⟩,hE.rdo,mv.mono (fun b o h _=>qg8 h) hP⟩
theorem RS.open_ (h:RS w0 M F n br tb env P s a w):∃ A m c,WOk w0 M w (rdo br A m c :: tb) [] ∧ RdS w (Imm F w0 w (rdo br A m c :: tb) []) A m c s ∧ EnvOk n (rdo br A m c :: tb) env a ∧ P w (Imm F w0 w (rdo br A m c :: tb) []):=by
 obtain ⟨A,m,c,hW,hr⟩:=h.ex
 exact ⟨A,m,c,hW,hr.move (Step.refl w Nil) nilM fun b o h _=>qg8 h,h.env_.rdo,h.mv.mono (fun b o h _=>qg8 h) h.fact⟩
theorem RS.cast {t:Bs} (h:RS w0 M F n br tb env P s a w) (e:s = t):RS w0 M F n br tb env P t a w:=e ▸ h
theorem RS.weak {P':qcb} (h:RS w0 M F n br tb env P s a w) (mv:MvF P') (hP:∀ w F,P w F → P' w F):RS w0 M F n br tb env P' s a w:=⟨mv,h.ex,h.env_,hP _ _ h.fact⟩
theorem RS.pk {env':Env} (h:RS w0 M F n br tb env P s a w) (e:ME.pick env (qbX env') = some env':=by kernel_rfl):RS w0 M F n br tb env' P s a w:=⟨h.mv,h.ex,h.env_.pk e,h.fact⟩
theorem RS.envEq {env':Env} (h:RS w0 M F n br tb env P s a w) (e:env = env'):RS w0 M F n br tb env' P s a w:=e ▸ h
theorem RS.tbEq {tb':Tb} (h:RS w0 M F n br tb env P s a w) (e:tb = tb'):RS w0 M F n br tb' env P s a w:=e ▸ h
theorem RS.recast (h:RS w0 M F n br tb env P s a w) (k:Nat) (x y:SV) (hx:lk env k = some x) (hy:y.val (rdo br none 0 0 :: tb) = x.val (rdo br none 0 0 :: tb)) (ho:y.ok (rdo br none 0 0 :: tb)):RS w0 M F n br tb ((k,y) :: env) P s a w:=⟨h.mv,h.ex,h.env_.recast k x y hx hy ho,h.fact⟩
theorem qcV {L:List Nat} (idxs rest:List Nat) (env':Env) (h:RS w0 M F n br tb env P s a w) (k:∀ a',RS w0 M F n br tb env' P s a' w → wpOps Pr ops Q rest a' w) (e:∀ A m c,qbT Pr ops n (rdo br A m c :: tb) idxs (qbX env') env = some env':=by intro _ _ _; kernel_rfl) (hl:L = idxs ++ rest:=by rfl):wpOps Pr ops Q L a w:=by
 obtain ⟨A,m,c,hW,hr,hE,hP⟩:=h.open_
 exact qaP idxs rest (qbX env') hW hE (e A m c) hl fun a' hE'=>k a' (RS.mk' hW hr hE' h.mv hP)
theorem qbI {id:Nat} (env':Env) (h:RS w0 M F n br tb env P s a w) (k:∀ a',RS w0 M F n br tb env' P s a' w → Q .normal a' w) (e:∀ A m c,qbT Pr ops n (rdo br A m c :: tb) (List.range ops.size) (qbX env') env = some env':=by intro _ _ _; kernel_rfl):(Code.region id ops false).wp Pr Q a w :=
 qaq (List.range ops.size) rfl (qcV (List.range ops.size) [] env' h (fun a' h'=>qae (k a' h')) e (List.append_nil _).symm)
theorem qnt {id:Nat} {y:Code} (env':Env) (h:RS w0 M F n br tb env P s a w) (k:∀ a',RS w0 M F n br tb env' P s a' w → y.wp Pr Q a' w) (e:∀ A m c,qbT Pr ops n (rdo br A m c :: tb) (List.range ops.size) (qbX env') env = some env':=by intro _ _ _; kernel_rfl):(Code.seq (.region id ops false) y).wp Pr Q a w :=
 wp_seq (qbI env' h (fun a' h'=>qaa (k a' h')) e)
def qlp (Pr:Program) (f:FuncId) {τ:Type} (X rest:Bs) (val:τ → Value) (fact:τ → qcb):Prop :=
 ∀ {br:Nat} {A:Option Addr} {m c:Nat} {w:World} {F:Nat → Nat → Prop},Str w br [.slice A m c,.bool false] → RdS w F A m c (X ++ rest) → (∀ b o,F b o → ¬ RdM br b o) →
  Calls Pr f #[.pointer (some ⟨br,0,none⟩)] w (RdPost w br (Fp F w) rest fun v w'=>∃ x,v = val x ∧ fact x w' (Fp F w))
def qcY (Pr:Program) (f:FuncId) (X rest:Bs) (v0:Value):Prop :=
 ∀ {br:Nat} {A:Option Addr} {m c:Nat} {w:World} {F:Nat → Nat → Prop},Str w br [.slice A m c,.bool false] → RdS w F A m c (X ++ rest) → (∀ b o,F b o → ¬ RdM br b o) →
  Calls Pr f #[.pointer (some ⟨br,0,none⟩)] w (RdPost w br (Fp F w) rest fun v w'=>v = v0)
theorem RdPost.fp {w:World} {br:Nat} {F:Nat → Nat → Prop} {rest:Bs} {Q Q':Value → World → Prop} {e:Ending} {w':World} (hq:∀ v w',Q v w' → Q' v w') (h:RdPost w br F rest Q e w'):RdPost w br (Fp F w) rest Q' e w':=by
 obtain ⟨v,A',n',c',h1,h2,h3,h4,h5⟩:=h
 exact ⟨v,A',n',c',h1,h2,h3.move (Step.refl _ Nil) nilM fun b o g _=>.inl g,h4,hq _ _ h5⟩
theorem RdPost.q {w:World} {br:Nat} {F:Nat → Nat → Prop} {rest:Bs} {Q Q':Value → World → Prop} {e:Ending} {w':World} (hq:∀ v w',Q v w' → Q' v w') (h:RdPost w br F rest Q e w'):RdPost w br F rest Q' e w':=by
 obtain ⟨v,A',n',c',h1,h2,h3,h4,h5⟩:=h
 exact ⟨v,A',n',c',h1,h2,h3,h4,hq _ _ h5⟩
theorem qis {i d:Nat} {f:FuncId} {τ:Type} {X rest:Bs} {val:τ → Value} {fact:τ → qcb} {N:Act → World → Prop} (h:RS w0 M F n br tb env P (X ++ rest) a w) (hc:qlp Pr f X rest val fact) (hm:∀ x,MvF (fact x))
  (hf:∀ args w,(callFunc f args).run Pr w = .ok (.enter f args) w) (K:∀ x P' a' w',(∀ w F,P' w F → P w F ∧ fact x w F) → RS w0 M F n br tb ((d,.v (val x)) :: env) P' rest a' w' → N a' w')
  (he:∀ A m c,qcU (rdo br A m c :: tb) env ops n i = some (f,[.pointer (some ⟨br,0,none⟩)],d):=by intro _ _ _; kernel_rfl):wpOp Pr ops Q i N a w:=by
 obtain ⟨A,m,c,hW,hr,hE,hP⟩:=h.open_
 refine qal hE (he A m c) hf (hc (Str.of hW 0 rfl) hr (qdb 0 rfl)) ?_
 rintro e_ w1 ⟨_,A1,n1,c1,rfl,hs,hr1,hst,x,rfl,hx⟩
 refine ⟨_,rfl,fun a1 hE1=>?_⟩
 obtain ⟨hW2,hF2,hL⟩:=hW.wrote 0 (rdo br A1 n1 c1 :: tb) rfl hst hs
 exact K x (andF P (fact x)) a1 w1 (fun _ _ g=>g) (RS.mk' hW2 (hr1.move (Step.refl _ Nil) nilM hL) hE1.rdo (h.mv.and (hm x)) ⟨h.mv.move hF2.step immM hF2.to' hP,(hm x).mono hL hx⟩)
theorem qfJ {i d:Nat} {f:FuncId} {X rest:Bs} {v0:Value} {N:Act → World → Prop} (h:RS w0 M F n br tb env P (X ++ rest) a w) (hc:qcY Pr f X rest v0)
  (hf:∀ args w,(callFunc f args).run Pr w = .ok (.enter f args) w) (K:∀ a' w',RS w0 M F n br tb ((d,.v v0) :: env) P rest a' w' → N a' w')
  (he:∀ A m c,qcU (rdo br A m c :: tb) env ops n i = some (f,[.pointer (some ⟨br,0,none⟩)],d):=by intro _ _ _; kernel_rfl):wpOp Pr ops Q i N a w:=by
 obtain ⟨A,m,c,hW,hr,hE,hP⟩:=h.open_
 refine qal hE (he A m c) hf (hc (Str.of hW 0 rfl) hr (qdb 0 rfl)) ?_
 rintro e_ w1 ⟨_,A1,n1,c1,rfl,hs,hr1,hst,rfl⟩
 refine ⟨_,rfl,fun a1 hE1=>?_⟩
 obtain ⟨hW2,hF2,hL⟩:=hW.wrote 0 (rdo br A1 n1 c1 :: tb) rfl hst hs
 exact K a1 w1 (RS.mk' hW2 (hr1.move (Step.refl _ Nil) nilM hL) hE1.rdo h.mv (h.mv.move hF2.step immM hF2.to' hP))
theorem qeV {i d:Nat} {f:FuncId} {v0:Value} {N:Act → World → Prop} (h:RS w0 M F n br tb env P s a w) (hc:∀ {br:Nat} {A:Option Addr} {m c:Nat} {w:World},Str w br [.slice A m c,.bool false] → Calls Pr f #[.pointer (some ⟨br,0,none⟩)] w (fun e w'=>e = .returned v0 ∧ w' = w))
  (hf:∀ args w,(callFunc f args).run Pr w = .ok (.enter f args) w) (K:∀ a',RS w0 M F n br tb ((d,.v v0) :: env) P s a' w → N a' w)
  (he:∀ A m c,qcU (rdo br A m c :: tb) env ops n i = some (f,[.pointer (some ⟨br,0,none⟩)],d):=by intro _ _ _; kernel_rfl):wpOp Pr ops Q i N a w:=by
 obtain ⟨A,m,c,hW,hr,hE,hP⟩:=h.open_
 refine qal hE (he A m c) hf (hc (Str.of hW 0 rfl)) ?_
 rintro e_ _ ⟨rfl,rfl⟩
 exact ⟨_,rfl,fun a1 hE1=>K a1 (RS.mk' hW hr hE1 h.mv hP)⟩
theorem qfe {i:Nat} (tb':Tb) (j:Nat) {N:Act → World → Prop} (h:RS w0 M F n br tb env P s a w) (K:∀ w',RS w0 M F n br tb' env P s a w' → N a w')
  (he:∀ A m c,qgh Pr (rdo br A m c :: tb) env ops i = some (j + 1,(obAt tb' j).cells):=by intro _ _ _; kernel_rfl) (ht:Tb.put tb j (obAt tb' j).cells = tb':=by rfl):wpOp Pr ops Q i N a w:=by
 obtain ⟨A,m,c,hW,hr,hE,hP⟩:=h.open_
 refine qaK hW hE (he A m c) fun w1 hF1 hW1 hE1=>K w1 ?_
 have e:Tb.put (rdo br A m c :: tb) (j + 1) (obAt tb' j).cells = rdo br A m c :: tb':=by
  show rdo br A m c :: Tb.put tb j (obAt tb' j).cells = _
  rw [ht]
 rw [e] at hF1 hW1 hE1
 exact RS.mk' hW1 (hr.move hF1.step immM hF1.to') hE1 h.mv (h.mv.move hF1.step immM hF1.to' hP)
theorem qg9 {i d:Nat} (cs:List Value) {N:Act → World → Prop} (h:RS w0 M F n br tb env P s a w)
  (K:∀ b a' w',w0.heap.size ≤ b → RS w0 M F n br (tb ++ [⟨b,0,cs,true⟩]) ((d,.p (tb.length + 1) 0) :: env) P s a' w' → N a' w')
  (he:qfQ Pr env ops n i = some (d,cs):=by kernel_rfl):wpOp Pr ops Q i N a w:=by
 obtain ⟨A,m,c,hW,hr,hE,hP⟩:=h.open_
 refine qbo hW hE he fun b a1 w1 hb hb0 hF1 hW1 hE1=>K b a1 w1 hb0 ?_
 exact RS.mk' hW1 (hr.move hF1.step immM hF1.to') hE1 h.mv (h.mv.move hF1.step immM hF1.to' hP)
theorem qgx {k:Nat} (h:Nat.blt 0 k = true):List.range k = [0] ++ (List.range k).drop 1:=by
 cases k with
 | zero=>cases h
 | succ k=>rw [List.range_succ_eq_map]; rfl
theorem qnu {id d:Nat} {f:FuncId} {τ:Type} {X rest:Bs} {val:τ → Value} {fact:τ → qcb} (env':τ → Env) (h:RS w0 M F n br tb env P (X ++ rest) a w) (hc:qlp Pr f X rest val fact) (hm:∀ x,MvF (fact x))
  (hf:∀ args w,(callFunc f args).run Pr w = .ok (.enter f args) w) (K:∀ x P' a' w',(∀ w F,P' w F → P w F ∧ fact x w F) → RS w0 M F n br tb (env' x) P' rest a' w' → Q .normal a' w')
  (he:∀ A m c,qcU (rdo br A m c :: tb) env ops n 0 = some (f,[.pointer (some ⟨br,0,none⟩)],d):=by intro _ _ _; kernel_rfl)
  (e:∀ x A m c,qbT Pr ops n (rdo br A m c :: tb) ((List.range ops.size).drop 1) (qbX (env' x)) ((d,.v (val x)) :: env) = some (env' x):=by intro _ _ _ _; kernel_rfl) (hs:Nat.blt 0 ops.size = true:=by kernel_rfl):(Code.region id ops false).wp Pr Q a w:=by
 refine qaq _ (qgx hs) (qam (qis h hc hm hf (fun x P' a' w' hP hS=>?_) he))
 exact qcV ((List.range ops.size).drop 1) [] (env' x) hS (fun a2 h2=>qae (K x P' a2 w' hP h2)) (e x) (List.append_nil _).symm
theorem qdj {id d:Nat} {f:FuncId} {X rest:Bs} {v0:Value} (env':Env) (h:RS w0 M F n br tb env P (X ++ rest) a w) (hc:qcY Pr f X rest v0)
  (hf:∀ args w,(callFunc f args).run Pr w = .ok (.enter f args) w) (K:∀ a' w',RS w0 M F n br tb env' P rest a' w' → Q .normal a' w')
  (he:∀ A m c,qcU (rdo br A m c :: tb) env ops n 0 = some (f,[.pointer (some ⟨br,0,none⟩)],d):=by intro _ _ _; kernel_rfl)
  (e:∀ A m c,qbT Pr ops n (rdo br A m c :: tb) ((List.range ops.size).drop 1) (qbX env') ((d,.v v0) :: env) = some env':=by intro _ _ _; kernel_rfl) (hs:Nat.blt 0 ops.size = true:=by kernel_rfl):(Code.region id ops false).wp Pr Q a w:=by
 refine qaq _ (qgx hs) (qam (qfJ h hc hf (fun a' w' hS=>?_) he))
 exact qcV ((List.range ops.size).drop 1) [] env' hS (fun a2 h2=>qae (K a2 w' h2)) e (List.append_nil _).symm
theorem qit {idA idB idC d1 d2:Nat} {o:Operand} {b:Bool} {f1 f2:FuncId} {X1 X2 rest:Bs} {v0:Value} (envA env':Env) (h:RS w0 M F n br tb env P ((if b = true then X1 else X2) ++ rest) a w)
  (hc1:qcY Pr f1 X1 rest v0) (hf1:∀ args w,(callFunc f1 args).run Pr w = .ok (.enter f1 args) w) (hc2:qcY Pr f2 X2 rest v0) (hf2:∀ args w,(callFunc f2 args).run Pr w = .ok (.enter f2 args) w)
  (K:∀ a' w',RS w0 M F n br tb env' P rest a' w' → Q .normal a' w')
  (eA:∀ A m c,qbT Pr opsA n (rdo br A m c :: tb) (List.range opsA.size) (qbX envA) env = some envA:=by intro _ _ _; kernel_rfl) (ho:opd envA o = some (.v (.bool b)):=by kernel_rfl)
  (he1:∀ A m c,qcU (rdo br A m c :: tb) envA opsB n 0 = some (f1,[.pointer (some ⟨br,0,none⟩)],d1):=by intro _ _ _; kernel_rfl) (he2:∀ A m c,qcU (rdo br A m c :: tb) envA opsC n 0 = some (f2,[.pointer (some ⟨br,0,none⟩)],d2):=by intro _ _ _; kernel_rfl)
  (e1:∀ A m c,qbT Pr opsB n (rdo br A m c :: tb) ((List.range opsB.size).drop 1) (qbX env') ((d1,.v v0) :: envA) = some env':=by intro _ _ _; kernel_rfl) (e2:∀ A m c,qbT Pr opsC n (rdo br A m c :: tb) ((List.range opsC.size).drop 1) (qbX env') ((d2,.v v0) :: envA) = some env':=by intro _ _ _; kernel_rfl)
  (hs1:Nat.blt 0 opsB.size = true:=by kernel_rfl) (hs2:Nat.blt 0 opsC.size = true:=by kernel_rfl):(Code.seq (.region idA opsA false) (.cond o (.region idB opsB false) (.region idC opsC false))).wp Pr Q a w :=
 qnt envA h (fun a1 h1=>qaA h1.env_ ho (fun hb=>qdj env' (h1.cast (by rw [if_pos hb])) hc1 hf1 K he1 e1 hs1) (fun hb=>qdj env' (h1.cast (by rw [hb]; rfl)) hc2 hf2 K he2 e2 hs2)) eA
def stoE (P:Program) (ops:Array Oper) (n:Nat) (tb:Tb) (env:Env) (keys:List Nat):Option (Nat × List Value × Env) :=
 match runs P ops n tb (List.range (ops.size - 1)) env with
 | some e=>match qgh P tb e ops (ops.size - 1),pick e keys with
  | some (i,cs),some e'=>some (i,cs,e')
  | _,_=>none
 | none=>none
theorem qdL {id:Nat} (tb':Tb) (j:Nat) (env':Env) (h:RS w0 M F n br tb env P s a w) (K:∀ a' w',RS w0 M F n br tb' env' P s a' w' → Q .normal a' w')
  (he:∀ A m c,stoE Pr ops n (rdo br A m c :: tb) env (qbX env') = some (j + 1,(obAt tb' j).cells,env'):=by intro _ _ _; kernel_rfl) (ht:Tb.put tb j (obAt tb' j).cells = tb':=by rfl) (hs:Nat.blt 0 ops.size = true:=by kernel_rfl):(Code.region id ops false).wp Pr Q a w:=by
 obtain ⟨A,m,c,hW,hr,hE,hP⟩:=h.open_
 have h1:=he A m c
 unfold stoE at h1
 split at h1
 ·rename_i e he'
  split at h1
  ·rename_i i cs e' g1 g2
   simp only [Option.some.injEq,Prod.mk.injEq] at h1
   obtain ⟨rfl,rfl,rfl⟩:=h1
   have hr0:List.range ops.size = List.range (ops.size - 1) ++ [ops.size - 1]:=by
    have:0 < ops.size:=by simpa [Nat.blt_eq] using hs
    rw [← List.range_succ]; congr 1; omega
   refine qaq _ hr0 (qbs hW.cells hE he' fun a1 hE1=>qam (qaK hW hE1 g1 fun w1 hF1 hW1 hE2=>qae (K a1 w1 ?_)))
   have e:Tb.put (rdo br A m c :: tb) (j + 1) (obAt tb' j).cells = rdo br A m c :: tb':=by
    show rdo br A m c :: Tb.put tb j (obAt tb' j).cells = _
    rw [ht]
   rw [e] at hF1 hW1 hE2
   exact RS.mk' hW1 (hr.move hF1.step immM hF1.to') (hE2.pick g2) h.mv (h.mv.move hF1.step immM hF1.to' hP)
  cases h1
 cases h1
theorem qgy {A0:Option Addr} {i d j:Nat} {t tn e:TypeId} {size bytes:Nat} {k kn:IntKind} {q:Int} (z:Value) {N:Act → World → Prop} (h:RS w0 M F n br tb env P s a w)
  (K:∀ g c a' w',w0.heap.size ≤ g → j ≤ c → RS w0 M F n br (tb ++ [⟨g,0,qcJ z j,true⟩]) ((d,.v (.slice (some ⟨g,0,none⟩) j c)) :: env) P s a' w' → N a' w')
  (hq:q = (j:Int)) (hj:0 < j) (hb:j * bytes ≤ 140737488355328)
  (he:∀ A m c,appE (rdo br A m c :: tb) env ops n i = some (t,tn,.slice A0 0 0,.int k q,d):=by intro _ _ _; kernel_rfl) (ht:qch Pr t = some (e,size,bytes):=by kernel_rfl) (htn:Pr.underlying tn = some (.int kn):=by kernel_rfl) (hz:(Pr.info? e).bind (·.zero) = some z:=by kernel_rfl):wpOp Pr ops Q i N a w:=by
 obtain ⟨A,m,c,hW,hr,hE,hP⟩:=h.open_
 refine qhI hW hE (he A m c) ht htn hz hq hj hb fun g c1 a1 w1 hg hg0 hF1 hW1 hE1=>?_
 have hP1:=h.mv.move hF1.step immM hF1.to' hP
 have hr1:=hr.move hF1.step immM hF1.to'
 have hcap:j ≤ c1:=by
  obtain ⟨A',c',hv,_,_,h4⟩:=qfE (hW1.own 0 _ rfl)
  simp only [Rw.v,Value.slice.injEq,true_and] at hv
  rw [hv.2]; exact h4
 obtain ⟨hW2,hF2⟩:=hW1.layRowM (k:=0) rfl rfl hg0 [] (rdo br A m c :: (tb ++ [⟨g,0,qcJ z j,true⟩])) rfl rfl
 exact K g c1 a1 w1 hg0 hcap (RS.mk' hW2 (hr1.move hF2.step immM hF2.to') (hE1.grow ⟨g,0,qcJ z j,true⟩) h.mv (h.mv.move hF2.step immM hF2.to' hP1))
theorem qkH {i d n':Nat} {f:FuncId} {fn:Func} {c:Code} {vs:List Value} {N:Act → World → Prop} (h:RS w0 M F n br tb env P s a w) (hf:∀ args w,(callFunc f args).run Pr w = .ok (.enter f args) w) (hfn:Pr.funcs[f]? = some fn) (hb:fn.body = some c) (hn:fn.ntmps = n')
  (K:∀ a2,RS w0 M F n' br tb (qdX 0 vs) P s a2 w → c.wp Pr (bodyPost Pr fn (fun e w'=>∃ v,e = .returned v ∧ ∀ a',EnvOk n (rdo br none 0 0 :: tb) ((d,.v v) :: env) a' → N a' w')) a2 w)
  (he:∀ A m c,qcU (rdo br A m c :: tb) env ops n i = some (f,vs,d):=by intro _ _ _; kernel_rfl) (hl:Nat.ble vs.length n' = true:=by kernel_rfl):wpOp Pr ops Q i N a w:=by
 obtain ⟨A,m,c,hW,hr,hE,hP⟩:=h.open_
 exact qa8 h.env_ (he none 0 0) hf hfn hb hn hl fun a2 hE2=>K a2 (RS.mk' hW hr hE2.rdo h.mv hP)
theorem qmo {n' d:Nat} {fn:Func} {tb0:Tb} {env0:Env} {v:Value} {N:Act → World → Prop} (h:RS w0 M F n' br tb env P s a w) (K:∀ a',RS w0 M F n br tb ((d,.v v) :: env0) P s a' w → N a' w) (hp:Pl (rdo br none 0 0 :: tb0) (rdo br none 0 0 :: tb))
  (hr:∀ A m c,resE Pr (rdo br A m c :: tb) env fn.results = some v:=by intro _ _ _; kernel_rfl):bodyPost Pr fn (fun e w'=>∃ v,e = .returned v ∧ ∀ a',EnvOk n (rdo br none 0 0 :: tb0) ((d,.v v) :: env0) a' → N a' w') .ret a w:=by
 obtain ⟨A,m,c,hW,hrd,hE,hP⟩:=h.open_
 exact qaD hE hW.cells (hr A m c) ⟨v,rfl,fun a' hE'=>K a' (RS.mk' hW hrd (hE'.places hp).rdo h.mv hP)⟩
theorem qlq {n' d:Nat} {fn:Func} {tb0:Tb} {env0:Env} {v:Value} {N:Act → World → Prop} (h:RS w0 M F n' br tb env P s a w) (K:∀ a',RS w0 M F n br tb ((d,.v v) :: env0) P s a' w → N a' w) (hp:Pl (rdo br none 0 0 :: tb0) (rdo br none 0 0 :: tb))
  (hr:∀ A m c,resE Pr (rdo br A m c :: tb) env fn.results = some v:=by intro _ _ _; kernel_rfl):bodyPost Pr fn (fun e w'=>∃ v,e = .returned v ∧ ∀ a',EnvOk n (rdo br none 0 0 :: tb0) ((d,.v v) :: env0) a' → N a' w') .normal a w :=
 qmo h K hp hr
end
def qiu:Env → Env
 | []=>[]
 | (k,.v x) :: r=>(k,.v x) :: qiu r
 | (k,.p i j) :: r=>(k,.p (match i with | 0=>1 | 1=>0 | i=>i) j) :: qiu r
theorem qmp {n:Nat} {o1 o2:Ob} {env:Env} {a:Act} (h:EnvOk n [o1,o2] env a):EnvOk n [o2,o1] (qiu env) a:=by
 have key:∀ (env:Env) (k:Nat) (x:SV),lk (qiu env) k = some x → ∃ y,lk env k = some y ∧ (y.ok [o1,o2] → x.val [o2,o1] = y.val [o1,o2] ∧ x.ok [o2,o1]):=by
  intro env
  induction env with
  | nil=>intro k x hx; cases hx
  | cons e r ih =>
   obtain ⟨k',sv⟩:=e
   intro k x hx
   cases sv with
   | v y =>
    simp only [qiu,lk] at hx ⊢
    split at hx
    ·rename_i hb
     simp only [Option.some.injEq] at hx
     subst hx
     exact ⟨_,rfl,fun _=>⟨rfl,trivial⟩⟩
    exact ih k x hx
   | p i j =>
    simp only [qiu,lk] at hx ⊢
    split at hx
    ·rename_i hb
     simp only [Option.some.injEq] at hx
     subst hx
     refine ⟨_,rfl,fun hok=>?_⟩
     have hok':i < 2:=hok
     match i,hok' with
     | 0,_=>exact ⟨rfl,show 1 < 2 by omega⟩
     | 1,_=>exact ⟨rfl,show 0 < 2 by omega⟩
    exact ih k x hx
 refine ⟨h.defers,h.size,fun k x hx=>?_⟩
 obtain ⟨y,hy,hv⟩:=key env k x hx
 obtain ⟨h1,h2⟩:=h.at_ k y hy
 obtain ⟨h3,h4⟩:=hv h2
 exact ⟨by rw [h3]; exact h1,h4⟩
theorem qdk {α:Type} {x y o:α} {i:Nat} (h:[y,x][i]? = some o):[x,y][1 - i]? = some o ∧ i < 2:=by
 match i,h with
 | 0,h=>exact ⟨h,by omega⟩
 | 1,h=>exact ⟨h,by omega⟩
 | i + 2,h=>simp at h
theorem WOk.swap2 {w0 w:World} {M:Nat → Nat → Prop} {o1 o2:Ob} (h:WOk w0 M w [o1,o2] []):WOk w0 M w [o2,o1] [] :=
 ⟨h.step,fun i o hi=>h.cells _ o (qdk hi).1,fun i o hi=>h.live _ o (qdk hi).1,fun i o hi=>h.rw_ _ o (qdk hi).1,fun i j o o' hij hi hj hw=>h.apart _ _ o o' (by have:=(qdk hi).2; have:=(qdk hj).2; omega) (qdk hi).1 (qdk hj).1 hw,h.own,h.ownM,fun i r hi=>by simp at hi,h.rr⟩
theorem qlr {o1 o2:Ob} {b o:Nat} (h:Act_ [o2,o1] [] b o):Act_ [o1,o2] [] b o:=by
 rcases h with ⟨i,ob,hi,h1⟩ | ⟨i,r,hi,_⟩
 ·exact .inl ⟨_,ob,(qdk hi).1,h1⟩
 simp at hi
theorem RS.start {w0 w:World} {M F:Nat → Nat → Prop} {n br c:Nat} {A:Option Addr} {o1:Ob} {env:Env} {s:Bs} {a:Act} (hW:WOk w0 M w [o1,rdo br A s.length c] []) (hE:EnvOk n [o1,rdo br A s.length c] env a) (ho:Octs w (Imm F w0 w [o1,rdo br A s.length c] []) A c s) (env':Env) (he:pick (qiu env) (qbX env') = some env':=by kernel_rfl):RS w0 M F n br [o1] env' noF s a w :=
 RS.mk' hW.swap2 ⟨rfl,ho.move (Step.refl w Nil) nilM fun b o h _=>⟨h.1,h.2.1,fun ha=>h.2.2 (qlr ha)⟩⟩ ((qmp hE).pick he) MvF.no trivial
theorem qeW {α:Type} {l:List α} {x y o:α} {i:Nat} (h:(l ++ [x,y])[i]? = some o):(i < l.length ∧ l[i]? = some o) ∨ (i = l.length ∧ o = x) ∨ (i = l.length + 1 ∧ o = y):=by
 rcases Nat.lt_or_ge i l.length with hl | hl
 ·rw [List.getElem?_append_left hl] at h; exact .inl ⟨hl,h⟩
 rw [List.getElem?_append_right hl] at h
 rcases hk:i - l.length with _ | _ | k
 ·rw [hk] at h; exact .inr (.inl ⟨by omega,(Option.some.inj h).symm⟩)
 ·rw [hk] at h; exact .inr (.inr ⟨by omega,(Option.some.inj h).symm⟩)
 rw [hk] at h; simp at h
theorem qfK {α:Type} {l:List α} {x:α}:(l ++ [x])[l.length]? = some x:=by simp
section
variable {w0 w:World} {M:Nat → Nat → Prop} {tb:Tb} {rs:List Rw}
theorem WOk.splitL {b o o2:Nat} {cs1 cs2:List Value} (hW:WOk w0 M w (tb ++ [⟨b,o,cs1 ++ cs2,true⟩]) rs) (ho:o2 = o + cs1.length) :
  WOk w0 M w (tb ++ [⟨b,o2,cs2,true⟩,⟨b,o,cs1,true⟩]) rs ∧ Fr w (tb ++ [⟨b,o,cs1 ++ cs2,true⟩]) rs w (tb ++ [⟨b,o2,cs2,true⟩,⟨b,o,cs1,true⟩]) rs:=by
 subst ho
 have hi:(tb ++ [(⟨b,o,cs1 ++ cs2,true⟩:Ob)])[tb.length]? = some ⟨b,o,cs1 ++ cs2,true⟩:=qfK
 have old:∀ {j:Nat} {q:Ob},j < tb.length → tb[j]? = some q → (tb ++ [(⟨b,o,cs1 ++ cs2,true⟩:Ob)])[j]? = some q:=fun {j q} hj h=>by rw [List.getElem?_append_left hj]; exact h
 have hlen:(cs1 ++ cs2).length = cs1.length + cs2.length:=List.length_append
 have act:∀ x y,Act_ (tb ++ [⟨b,o + cs1.length,cs2,true⟩,⟨b,o,cs1,true⟩]) rs x y → Act_ (tb ++ [⟨b,o,cs1 ++ cs2,true⟩]) rs x y:=fun x y ha=>by
  rcases ha with ⟨j,q,hj,h1,h2,h3,h4⟩ | ha
  ·rcases qeW hj with ⟨hlt,hj⟩ | ⟨rfl,rfl⟩ | ⟨rfl,rfl⟩
   ·exact .inl ⟨j,q,old hlt hj,h1,h2,h3,h4⟩
   ·exact .inl ⟨_,_,hi,rfl,h2,by dsimp only at h3 ⊢; omega,by dsimp only at h4 ⊢; omega⟩
   exact .inl ⟨_,_,hi,rfl,h2,by dsimp only at h3 ⊢; omega,by dsimp only at h4 ⊢; omega⟩
  exact .inr ha
 refine ⟨⟨hW.step,?_,?_,?_,?_,hW.own,hW.ownM,?_,hW.rr⟩,⟨fun x y _ hn ha=>hn (act x y ha),Step.refl _ _⟩⟩
 ·intro j q hj p v hv
  rcases qeW hj with ⟨hlt,hj⟩ | ⟨rfl,rfl⟩ | ⟨rfl,rfl⟩
  ·exact hW.cells j q (old hlt hj) p v hv
  ·have:=hW.cells _ _ hi (cs1.length + p) v (by dsimp only at hv ⊢; rw [List.getElem?_append_right (by omega),Nat.add_sub_cancel_left]; exact hv)
   dsimp only at this ⊢
   rwa [Nat.add_assoc]
  exact hW.cells _ _ hi p v (by dsimp only at hv ⊢; rw [List.getElem?_append_left (List.getElem?_eq_some_iff.1 hv).1]; exact hv)
 ·intro j q hj
  rcases qeW hj with ⟨hlt,hj⟩ | ⟨rfl,rfl⟩ | ⟨rfl,rfl⟩
  ·exact hW.live j q (old hlt hj)
  ·have:=hW.live _ _ hi; exact this
  have:=hW.live _ _ hi; exact this
 ·intro j q hj hr p hp
  rcases qeW hj with ⟨hlt,hj⟩ | ⟨rfl,rfl⟩ | ⟨rfl,rfl⟩
  ·exact hW.rw_ j q (old hlt hj) hr p hp
  ·have:=hW.rw_ _ _ hi rfl (cs1.length + p) (by dsimp only at hp ⊢; omega)
   dsimp only at this ⊢
   rwa [Nat.add_assoc]
  exact hW.rw_ _ _ hi rfl p (by dsimp only at hp ⊢; omega)
 ·intro j k q q' hjk hj hk hw
  rcases qeW hj with ⟨hlj,hj⟩ | ⟨rfl,rfl⟩ | ⟨rfl,rfl⟩ <;> rcases qeW hk with ⟨hlk,hk⟩ | ⟨rfl,rfl⟩ | ⟨rfl,rfl⟩
  ·exact hW.apart j k q q' hjk (old hlj hj) (old hlk hk) hw
  ·have:=hW.apart j _ q _ (by omega) (old hlj hj) hi (.inr rfl)
   dsimp only at this ⊢; omega
  ·have:=hW.apart j _ q _ (by omega) (old hlj hj) hi (.inr rfl)
   dsimp only at this ⊢; omega
  ·have:=hW.apart _ k _ q' (by omega) hi (old hlk hk) (.inl rfl)
   dsimp only at this ⊢; omega
  ·exact absurd rfl hjk
  ·exact .inr (.inr (Nat.le_refl _))
  ·have:=hW.apart _ k _ q' (by omega) hi (old hlk hk) (.inl rfl)
   dsimp only at this ⊢; omega
  ·exact .inr (.inl (Nat.le_refl _))
  exact absurd rfl hjk
 intro j r hj g hg k q hk
 rcases qeW hk with ⟨hlk,hk⟩ | ⟨rfl,rfl⟩ | ⟨rfl,rfl⟩
 ·exact hW.rtb j r hj g hg k q (old hlk hk)
 ·have:=hW.rtb j r hj g hg _ _ hi; exact this
 have:=hW.rtb j r hj g hg _ _ hi; exact this
theorem WOk.atLast {G:Nat → Nat → Prop} {b o:Nat} {cs:List Value} (hW:WOk w0 M w (tb ++ [⟨b,o,cs,true⟩]) []) (hb:w0.heap.size ≤ b):AtF w (Imm G w0 w tb []) b o cs:=fun j v hj=>by
 have hlt:j < cs.length:=(List.getElem?_eq_some_iff.1 hj).1
 refine ⟨⟨.inr hb,?_,fun ha=>?_⟩,?_⟩
 ·have:=hW.live _ _ qfK; exact this
 ·rcases ha with ⟨i,q,hi,hr,h2,h3,h4⟩ | ⟨i,r,hi,_⟩
  ·have hil:i < tb.length:=(List.getElem?_eq_some_iff.1 hi).1
   have:=hW.apart i _ q _ (by omega) (by rw [List.getElem?_append_left hil]; exact hi) qfK (.inr rfl)
   dsimp only at this; omega
  simp at hi
 have:=hW.cells _ _ qfK j v hj; exact this
end
def qgc (g size:Nat) (cl:DV → List Value) (ok:World → (Nat → Nat → Prop) → DV → Prop) (rel:DV → Tree → Prop) (L:List Tree) (k:Nat):qcb:=fun w F=>∃ ds:Nat → DV,∀ i,i < k → (cl (ds i)).length = size ∧ AtF w F g (0 + i * size) (cl (ds i)) ∧ ok w F (ds i) ∧ rel (ds i) (L.getD i .zero)
theorem MvF.done {g size:Nat} {cl:DV → List Value} {ok:World → (Nat → Nat → Prop) → DV → Prop} {rel:DV → Tree → Prop} {L:List Tree} {k:Nat} (mv:qg3 ok):MvF (qgc g size cl ok rel L k):=⟨fun hs hM hF h=>by
 obtain ⟨ds,h⟩:=h
 refine ⟨ds,fun i hi=>?_⟩
 obtain ⟨h1,h2,h3,h4⟩:=h i hi
 exact ⟨h1,h2.move hs hM hF,mv _ hs hM hF h3,h4⟩⟩
abbrev qa5 (g size:Nat) (z:Value) (l k:Nat):Ob:=⟨g,k * size,qcJ z (l - k),true⟩
def lstF (size:Nat) (cl:DV → List Value) (ok:World → (Nat → Nat → Prop) → DV → Prop) (rel:DV → Tree → Prop) (A:Option Addr) (c:Nat) (L:List Tree) (f:Nat → DV):qcb:=fun w F=>Slots w F size A c L.length (fun i=>cl (f i)) ∧ (∀ i,i < L.length → ok w F (f i)) ∧ ∀ i,i < L.length → rel (f i) (L.getD i .zero)
theorem MvF.lst {size:Nat} {cl:DV → List Value} {ok:World → (Nat → Nat → Prop) → DV → Prop} {rel:DV → Tree → Prop} {A:Option Addr} {c:Nat} {L:List Tree} {f:Nat → DV} (mv:qg3 ok):MvF (lstF size cl ok rel A c L f):=⟨fun hs hM hF h =>
 ⟨h.1.move hs hM hF,fun i hi=>mv _ hs hM hF (h.2.1 i hi),h.2.2⟩⟩
section
variable {Pr:Program} {ops:Array Oper} {Q:Exit → Act → World → Prop} {w0:World} {M F:Nat → Nat → Prop} {n br:Nat} {tb:Tb} {env:Env} {P:qcb} {s:Bs} {a:Act} {w:World}
 {g size:Nat} {cl:DV → List Value} {ok:World → (Nat → Nat → Prop) → DV → Prop} {rel:DV → Tree → Prop} {L:List Tree} {z:Value}
theorem RS.pull {ι:Type} {Qf:ι → qcb} (h:RS w0 M F n br tb env (andF P (fun w F=>∃ x,Qf x w F)) s a w) (mP:MvF P) (mv:∀ x,MvF (Qf x)):∃ x,RS w0 M F n br tb env (andF P (Qf x)) s a w:=by
 obtain ⟨h1,x,hx⟩:=h.fact
 exact ⟨x,mP.and (mv x),h.ex,h.env_,h1,hx⟩
theorem RS.drop {b o:Nat} {cs:List Value} (h:RS w0 M F n br (tb ++ [⟨b,o,cs,true⟩]) env P s a w) (hb:w0.heap.size ≤ b) (hl:qdm (tb.length + 1) env = true):RS w0 M F n br tb env (andF P (atF b o cs)) s a w:=by
 obtain ⟨A,m,c,hW,hr,hE,hP⟩:=h.open_
 have hW':WOk w0 M w ((rdo br A m c :: tb) ++ [⟨b,o,cs,true⟩]) []:=hW
 have h1:=hW'.cutTb (tb.length + 1)
 have hF:=Fr.cutTb w ((rdo br A m c :: tb) ++ [⟨b,o,cs,true⟩]) [] (tb.length + 1)
 have e:((rdo br A m c :: tb) ++ [(⟨b,o,cs,true⟩:Ob)]).take (tb.length + 1) = rdo br A m c :: tb:=by
  show List.take ((rdo br A m c :: tb).length) _ = _
  exact List.take_left
 have hE1:=hE.cutTb (tb.length + 1) hl
 have e2:(rdo br A m c :: (tb ++ [(⟨b,o,cs,true⟩:Ob)])).take (tb.length + 1) = rdo br A m c :: tb:=e
 rw [e] at h1 hF
 rw [e2] at hE1
 exact RS.mk' h1 (hr.move hF.step immM hF.to') hE1 (h.mv.and (MvF.at_ _ _ _)) ⟨h.mv.move hF.step immM hF.to' hP,hW'.atLast hb⟩
theorem RS.dropT {b o:Nat} {cs:List Value} (h:RS w0 M F n br (tb ++ [⟨b,o,cs,true⟩]) env P s a w) (hb:w0.heap.size ≤ b) (hl:qdm (tb.length + 1) env = true):RS w0 M F n br tb env P s a w :=
 (h.drop hb hl).weak h.mv fun _ _ g=>g.1
theorem RS.next {l k:Nat} (h:RS w0 M F n br (tb ++ [qa5 g size z l k]) env P s a w) (hk:k < l) (hz:z.cells.size = size) (hl:qdm (tb.length + 1) env = true):RS w0 M F n br (tb ++ [qa5 g size z l (k + 1),⟨g,k * size,z.cells.toList,true⟩]) env P s a w:=by
 obtain ⟨A,m,c,hW,hr,hE,hP⟩:=h.open_
 have e:qcJ z (l - k) = z.cells.toList ++ qcJ z (l - (k + 1)):=by rw [show l - k = (l - (k + 1)) + 1 by omega,qin]
 have hW':WOk w0 M w ((rdo br A m c :: tb) ++ [⟨g,k * size,z.cells.toList ++ qcJ z (l - (k + 1)),true⟩]) []:=by rw [← e]; exact hW
 obtain ⟨h1,hF⟩:=hW'.splitL (o2:=(k + 1) * size) (by rw [Array.length_toList,hz,Nat.add_mul,Nat.one_mul])
 rw [← e] at hF
 have hE1:=hE.cutTb (tb.length + 1) hl
 have e2:(rdo br A m c :: (tb ++ [qa5 g size z l k])).take (tb.length + 1) = rdo br A m c :: tb:=by
  show List.take ((rdo br A m c :: tb).length) ((rdo br A m c :: tb) ++ _) = _
  exact List.take_left
 rw [e2] at hE1
 have hE2:=(hE1.grow (qa5 g size z l (k + 1))).grow ⟨g,k * size,z.cells.toList,true⟩
 have e3:((rdo br A m c :: tb) ++ [qa5 g size z l (k + 1)]) ++ [(⟨g,k * size,z.cells.toList,true⟩:Ob)] = rdo br A m c :: (tb ++ [qa5 g size z l (k + 1),⟨g,k * size,z.cells.toList,true⟩]):=by simp
 rw [e3] at hE2
 exact RS.mk' h1 (hr.move hF.step immM hF.to') hE2 h.mv (h.mv.move hF.step immM hF.to' hP)
theorem RS.thing {k:Nat} {D:DV} {X:qcb} (h:RS w0 M F n br (tb ++ [qa5 g size z L.length (k + 1),⟨g,k * size,cl D,true⟩]) env X s a w) (hg:w0.heap.size ≤ g) {t:Tree} (ht:L[k]? = some t) (mv:qg3 ok) (mP:MvF P) (hcl:(cl D).length = size)
  (hx:∀ w F,X w F → P w F ∧ qgc g size cl ok rel L k w F ∧ ok w F D ∧ rel D t) (hl:qdm (tb.length + 2) env = true):RS w0 M F n br (tb ++ [qa5 g size z L.length (k + 1)]) env (andF P (qgc g size cl ok rel L (k + 1))) s a w:=by
 have h':RS w0 M F n br ((tb ++ [qa5 g size z L.length (k + 1)]) ++ [⟨g,k * size,cl D,true⟩]) env X s a w:=by
  rw [List.append_assoc]; exact h
 refine (h'.drop hg (by simpa using hl)).weak (mP.and (MvF.done mv)) fun w F hf=>?_
 obtain ⟨hf,hat⟩:=hf
 obtain ⟨h1,⟨ds,h2⟩,h3,h4⟩:=hx w F hf
 refine ⟨h1,fun i=>if i = k then D else ds i,fun i hi=>?_⟩
 by_cases hik:i = k
 ·subst hik
  simp only [if_true]
  exact ⟨hcl,by rw [Nat.zero_add]; exact hat,h3,by rw [List.getD_eq_getElem?_getD,ht]; exact h4⟩
 simp only [if_neg hik]
 exact h2 i (by omega)
theorem RS.listEnd {c:Nat} (h:RS w0 M F n br (tb ++ [qa5 g size z L.length L.length]) env (andF P (qgc g size cl ok rel L L.length)) s a w) (hg:w0.heap.size ≤ g) (mv:qg3 ok) (mP:MvF P) (hc:L.length ≤ c) (hsm:L.length ≤ 1099511627776) (h0:0 < L.length)
  (hl:qdm (tb.length + 1) env = true):∃ f:Nat → DV,RS w0 M F n br tb env (andF P (lstF size cl ok rel (some ⟨g,0,none⟩) c L f)) s a w:=by
 have mE:MvF (fun w F=>∃ f:Nat → DV,lstF size cl ok rel (some ⟨g,0,none⟩) c L f w F):=⟨fun hs hM hF hx=>by
  obtain ⟨f,hx⟩:=hx
  exact ⟨f,(MvF.lst mv).move hs hM hF hx⟩⟩
 refine RS.pull (Qf:=fun f=>lstF size cl ok rel (some ⟨g,0,none⟩) c L f) ((h.drop hg hl).weak (mP.and mE) fun w F hf=>?_) mP fun f=>MvF.lst mv
 obtain ⟨⟨h1,ds,h2⟩,_⟩:=hf
 refine ⟨h1,ds,⟨hc,hsm,fun h=>by (cases h),fun ad hA _=>?_⟩,fun i hi=>(h2 i hi).2.2.1,fun i hi=>(h2 i hi).2.2.2⟩
 obtain rfl:=Option.some.inj hA
 exact ⟨g,0,rfl,fun i hi=>⟨(h2 i hi).1,(h2 i hi).2.1⟩⟩
theorem qkI {c:Code} (gf:Tree → Bs) (rest:Bs) (envk:Nat → Env) (h:RS w0 M F n br (tb ++ [⟨g,0,qcJ z L.length,true⟩]) (envk 0) P (L.flatMap gf ++ rest) a w) (mv:qg3 ok)
  (body:∀ k t a w,L[k]? = some t → k < L.length → RS w0 M F n br (tb ++ [qa5 g size z L.length k]) (envk k) (andF P (qgc g size cl ok rel L k)) (gf t ++ ((L.drop (k + 1)).flatMap gf ++ rest)) a w →
   c.wp Pr (Exit.then (fun a' w'=>RS w0 M F n br (tb ++ [qa5 g size z L.length (k + 1)]) (envk (k + 1)) (andF P (qgc g size cl ok rel L (k + 1))) ((L.drop (k + 1)).flatMap gf ++ rest) a' w') Q) a w)
  (fin:∀ a w,RS w0 M F n br (tb ++ [qa5 g size z L.length L.length]) (envk L.length) (andF P (qgc g size cl ok rel L L.length)) rest a w → c.wp Pr (Exit.then (fun _ _=>False) Q) a w):(Code.loop c).wp Pr Q a w:=by
 refine wp_loop_ghost (fun q a_ w_=>∃ k,q = L.length - k ∧ k ≤ L.length ∧ RS w0 M F n br (tb ++ [qa5 g size z L.length k]) (envk k) (andF P (qgc g size cl ok rel L k)) ((L.drop k).flatMap gf ++ rest) a_ w_) L.length
  ⟨0,by omega,Nat.zero_le _,?_⟩ ?_
 ·have e:qa5 g size z L.length 0 = ⟨g,0,qcJ z L.length,true⟩:=by simp only [qa5,Nat.zero_mul,Nat.sub_zero]
  rw [e,List.drop_zero]
  exact h.weak (h.mv.and (MvF.done mv)) fun w F hP=>⟨hP,fun _=>dv0,fun i hi=>absurd hi (Nat.not_lt_zero i)⟩
 rintro q aq wq ⟨k,rfl,hk,hS⟩
 rcases Nat.lt_or_ge k L.length with hlt | hge
 ·obtain ⟨t,ht⟩:∃ t,L[k]? = some t:=⟨_,List.getElem?_eq_getElem hlt⟩
  have e:(L.drop k).flatMap gf ++ rest = gf t ++ ((L.drop (k + 1)).flatMap gf ++ rest):=by
   rw [qcz ht,List.flatMap_cons,List.append_assoc]
  refine wp_mono (body k t aq wq ht hlt (hS.cast e)) fun e a' w' hq=>?_
  cases e <;> first | exact hq | exact ⟨L.length - (k + 1),by omega,k + 1,rfl,hlt,hq⟩
 obtain rfl:k = L.length:=by omega
 rw [List.drop_length] at hS
 refine wp_mono (fin aq wq hS) fun e a' w' hq=>?_
 cases e <;> first | exact hq | exact hq.elim
theorem qiX {c:Code} (h:c.wp Pr (Exit.then (fun _ _=>False) Q) a w):(Code.loop c).wp Pr Q a w:=by
 refine wp_loop_ghost (fun _ a_ w_=>a_ = a ∧ w_ = w) 0 ⟨rfl,rfl⟩ ?_
 rintro q _ _ ⟨rfl,rfl⟩
 refine wp_mono h fun e a' w' hq=>?_
 cases e <;> first | exact hq | exact hq.elim
theorem qiY {x y z:Code} {Mid:Act → World → Prop} (h1:x.wp Pr (Exit.then (fun a w=>y.wp Pr (Exit.then Mid Q) a w) Q) a w) (h2:∀ a' w',Mid a' w' → z.wp Pr Q a' w'):(Code.seq x (.seq y z)).wp Pr Q a w :=
 wp_seq (qks h1 fun a' w' hy=>wp_seq (qks hy h2))
end
theorem qnv {A:Option Addr} {c:Nat} (s:Bs) {w:World} {F:Nat → Nat → Prop} (ho:Octs w F A c s) (hl:2 ≤ s.length) :
  Calls Tryz.prog 78 #[.agg #[],.slice A s.length c] w (qcK w (.int .u16 (be16 s))):=by
 refine enter (n:=18) Tryz.func78 rfl Tryz.ntmps78 kz fun a hE=>?_
 have hW:=WOk.start w Nil
 have ob0:=qb5 s 0
 have ob1:=qb5 s 1
 refine qad [0,1] kz ?_
 refine qam (qbt hW hE (d:=2) (cs:=[]) kz fun b1 a2 w3 hb4 hz5 hF6 hW7 hE8=>?_)
 refine qaj [1] [] [(1,.v (.slice A s.length c))] hW7 hE8 fun a9 af=>?_
 refine qae (qaa ?_)
 refine qad [0,1,2] kz ?_
 refine qaj [0] [1,2] [(1,.v (.slice A s.length c)),(5,.v (.slice A s.length c))] hW7 af fun aC ag=>?_
 obtain ⟨av,aw,ac,ax,ab⟩:=Slots.get ho (i:=1) (by omega)
 refine qam (qaz ag (t:=24) (A:=A) (m:=s.length) (q:=1) (d:=6) kz (e:=5) (size:=1) (bytes:=1) (j:=1) kz ac rfl (by omega) fun aD ah=>?_)
 refine qam (qaH ah (t:=5) (b:=av) (o:=aw + 1 * 1) (d:=7) kz (cs:=[.int .u8 ((s.getD 1 0).toNat:Int)]) (v:=.int .u8 ((s.getD 1 0).toNat:Int)) kz (AtF.move ab hW7.step nilM qa7).at_ fun aE ai=>?_)
 refine qae (qaa ?_)
 refine qcm kz hW7 fun aF ay aa=>?_
 refine qaY [0,4] [(8,.v (.slice A s.length c)),(12,.v (.slice A s.length c))] 9 (qac qai) (fun _ h=>h ▸ aa.cells) rfl ai fun aG aj=>?_
 refine qbk aj (i:=1) (t:=24) (A:=A) (m:=s.length) (q:=1) (d:=9) kz (e:=5) (size:=1) (bytes:=1) (j:=1) kz ac rfl (by omega) kz kz (qac qai) rfl fun aH ak=>?_
 refine qbj ak (i:=2) (t:=5) (b:=av) (o:=aw + 1 * 1) (d:=10) kz (cs:=[.int .u8 ((s.getD 1 0).toNat:Int)]) (v:=.int .u8 ((s.getD 1 0).toNat:Int)) kz (fun w' h'=>h' ▸ (AtF.move ab aa.step nilM qa7).at_) kz kz (qac qai) rfl fun aI al=>?_
 refine qaY [3] [(11,.v (.int .u16 (IntKind.u16.wrap ((s.getD 1 0).toNat:Int)))),(12,.v (.slice A s.length c))] 6 (qac qai) (fun _ h=>h ▸ aa.cells) rfl al fun aJ am=>?_
 obtain ⟨az,aA,ao,aB,ae⟩:=Slots.get ho (i:=0) (by omega)
 refine qbk am (i:=5) (t:=24) (A:=A) (m:=s.length) (q:=0) (d:=13) kz (e:=5) (size:=1) (bytes:=1) (j:=0) kz ao rfl (by omega) kz kz (qac qai) rfl fun aK ap=>?_
 refine qbj ap (i:=6) (t:=5) (b:=az) (o:=aA + 0 * 1) (d:=14) kz (cs:=[.int .u8 ((s.getD 0 0).toNat:Int)]) (v:=.int .u8 ((s.getD 0 0).toNat:Int)) kz (fun w' h'=>h' ▸ (AtF.move ae aa.step nilM qa7).at_) kz kz (qac qai) rfl fun aL ar=>?_
 refine qaY [7,8,9,10] [(4,.v (.int .u16 (IntKind.u16.wrap (BitVec.ofInt 16 (IntKind.u16.wrap ((s.getD 1 0).toNat:Int)) ||| BitVec.ofInt 16 (IntKind.u16.wrap ((IntKind.u16.wrap ((s.getD 0 0).toNat:Int)) * 256))).toNat)))] 0 (qac qai) (fun _ h=>h ▸ aa.cells) rfl ar fun aM au=>?_
 refine qaW kz ?_ _
 refine qaa (wp_ret (qaD au aa.cells (v:=.int .u16 (IntKind.u16.wrap (BitVec.ofInt 16 (IntKind.u16.wrap ((s.getD 1 0).toNat:Int)) ||| BitVec.ofInt 16 (IntKind.u16.wrap ((IntKind.u16.wrap ((s.getD 0 0).toNat:Int)) * 256))).toNat)) kz ?_))
 exact ⟨congrArg Ending.returned (congrArg (Value.int IntKind.u16) (qmX (oc s 0) (oc s 1) ob0 ob1)),aa.step⟩
theorem qnw {A:Option Addr} {c:Nat} (s:Bs) {w:World} {F:Nat → Nat → Prop} (ho:Octs w F A c s) (hl:4 ≤ s.length) :
  Calls Tryz.prog 70 #[.agg #[],.slice A s.length c] w (qcK w (.int .u32 (be32 s))):=by
 refine enter (n:=30) Tryz.func70 rfl Tryz.ntmps70 kz fun a hE=>?_
 have hW:=WOk.start w Nil
 have ob0:=qb5 s 0
 have ob1:=qb5 s 1
 have ob2:=qb5 s 2
 have ob3:=qb5 s 3
 refine qad [0,1] kz ?_
 refine qam (qbt hW hE (d:=2) (cs:=[]) kz fun b1 a2 w3 hb4 hz5 hF6 hW7 hE8=>?_)
 refine qaj [1] [] [(1,.v (.slice A s.length c))] hW7 hE8 fun a9 aj=>?_
 refine qae (qaa ?_)
 refine qad [0,1,2] kz ?_
 refine qaj [0] [1,2] [(1,.v (.slice A s.length c)),(5,.v (.slice A s.length c))] hW7 aj fun aU ak=>?_
 obtain ⟨aH,aI,af,aJ,ae⟩:=Slots.get ho (i:=3) (by omega)
 refine qam (qaz ak (t:=24) (A:=A) (m:=s.length) (q:=3) (d:=6) kz (e:=5) (size:=1) (bytes:=1) (j:=3) kz af rfl (by omega) fun aV al=>?_)
 refine qam (qaH al (t:=5) (b:=aH) (o:=aI + 3 * 1) (d:=7) kz (cs:=[.int .u8 ((s.getD 3 0).toNat:Int)]) (v:=.int .u8 ((s.getD 3 0).toNat:Int)) kz (AtF.move ae hW7.step nilM qa7).at_ fun aW am=>?_)
 refine qae (qaa ?_)
 refine qcm kz hW7 fun aX aK aa=>?_
 let ac:Nat × SV:=(18,.v (.slice A s.length c))
 let ab:Nat × SV:=(24,.v (.slice A s.length c))
 refine qaY [0,4,10,16] [(8,.v (.slice A s.length c)),(12,.v (.slice A s.length c)),ac,ab] 19 (qac qai) (fun _ h=>h ▸ aa.cells) rfl am fun aY ao=>?_
 refine qbk ao (i:=1) (t:=24) (A:=A) (m:=s.length) (q:=3) (d:=9) kz (e:=5) (size:=1) (bytes:=1) (j:=3) kz af rfl (by omega) kz kz (qac qai) rfl fun aZ ap=>?_
 refine qbj ap (i:=2) (t:=5) (b:=aH) (o:=aI + 3 * 1) (d:=10) kz (cs:=[.int .u8 ((s.getD 3 0).toNat:Int)]) (v:=.int .u8 ((s.getD 3 0).toNat:Int)) kz (fun w' h'=>h' ▸ (AtF.move ae aa.step nilM qa7).at_) kz kz (qac qai) rfl fun ba ar=>?_
 refine qaY [3] [(11,.v (.int .u32 (IntKind.u32.wrap ((s.getD 3 0).toNat:Int)))),(12,.v (.slice A s.length c)),ac,ab] 16 (qac qai) (fun _ h=>h ▸ aa.cells) rfl ar fun bd au=>?_
 obtain ⟨aL,aM,av,aN,ag⟩:=Slots.get ho (i:=2) (by omega)
 refine qbk au (i:=5) (t:=24) (A:=A) (m:=s.length) (q:=2) (d:=13) kz (e:=5) (size:=1) (bytes:=1) (j:=2) kz av rfl (by omega) kz kz (qac qai) rfl fun bf aw=>?_
 refine qbj aw (i:=6) (t:=5) (b:=aL) (o:=aM + 2 * 1) (d:=14) kz (cs:=[.int .u8 ((s.getD 2 0).toNat:Int)]) (v:=.int .u8 ((s.getD 2 0).toNat:Int)) kz (fun w' h'=>h' ▸ (AtF.move ag aa.step nilM qa7).at_) kz kz (qac qai) rfl fun bg ax=>?_
 refine qaY [7,8,9] [(17,.v (.int .u32 (IntKind.u32.wrap (BitVec.ofInt 32 (IntKind.u32.wrap ((s.getD 3 0).toNat:Int)) ||| BitVec.ofInt 32 (IntKind.u32.wrap ((IntKind.u32.wrap ((s.getD 2 0).toNat:Int)) * 256))).toNat))),ac,ab] 11 (qac qai) (fun _ h=>h ▸ aa.cells) rfl ax fun bh ay=>?_
 obtain ⟨aO,aP,az,aQ,ah⟩:=Slots.get ho (i:=1) (by omega)
 refine qbk ay (i:=11) (t:=24) (A:=A) (m:=s.length) (q:=1) (d:=19) kz (e:=5) (size:=1) (bytes:=1) (j:=1) kz az rfl (by omega) kz kz (qac qai) rfl fun bj aA=>?_
 refine qbj aA (i:=12) (t:=5) (b:=aO) (o:=aP + 1 * 1) (d:=20) kz (cs:=[.int .u8 ((s.getD 1 0).toNat:Int)]) (v:=.int .u8 ((s.getD 1 0).toNat:Int)) kz (fun w' h'=>h' ▸ (AtF.move ah aa.step nilM qa7).at_) kz kz (qac qai) rfl fun bk aB=>?_
 refine qaY [13,14,15] [(23,.v (.int .u32 (IntKind.u32.wrap (BitVec.ofInt 32 (IntKind.u32.wrap (BitVec.ofInt 32 (IntKind.u32.wrap ((s.getD 3 0).toNat:Int)) ||| BitVec.ofInt 32 (IntKind.u32.wrap ((IntKind.u32.wrap ((s.getD 2 0).toNat:Int)) * 256))).toNat) ||| BitVec.ofInt 32 (IntKind.u32.wrap ((IntKind.u32.wrap ((s.getD 1 0).toNat:Int)) * 65536))).toNat))),ab] 6 (qac qai) (fun _ h=>h ▸ aa.cells) rfl aB fun bn aC=>?_
 obtain ⟨aR,aS,aD,aT,ai⟩:=Slots.get ho (i:=0) (by omega)
 refine qbk aC (i:=17) (t:=24) (A:=A) (m:=s.length) (q:=0) (d:=25) kz (e:=5) (size:=1) (bytes:=1) (j:=0) kz aD rfl (by omega) kz kz (qac qai) rfl fun bo aE=>?_
 refine qbj aE (i:=18) (t:=5) (b:=aR) (o:=aS + 0 * 1) (d:=26) kz (cs:=[.int .u8 ((s.getD 0 0).toNat:Int)]) (v:=.int .u8 ((s.getD 0 0).toNat:Int)) kz (fun w' h'=>h' ▸ (AtF.move ai aa.step nilM qa7).at_) kz kz (qac qai) rfl fun bp aF=>?_
 refine qaY [19,20,21,22] [(4,.v (.int .u32 (IntKind.u32.wrap (BitVec.ofInt 32 (IntKind.u32.wrap (BitVec.ofInt 32 (IntKind.u32.wrap (BitVec.ofInt 32 (IntKind.u32.wrap ((s.getD 3 0).toNat:Int)) ||| BitVec.ofInt 32 (IntKind.u32.wrap ((IntKind.u32.wrap ((s.getD 2 0).toNat:Int)) * 256))).toNat) ||| BitVec.ofInt 32 (IntKind.u32.wrap ((IntKind.u32.wrap ((s.getD 1 0).toNat:Int)) * 65536))).toNat) ||| BitVec.ofInt 32 (IntKind.u32.wrap ((IntKind.u32.wrap ((s.getD 0 0).toNat:Int)) * 16777216))).toNat)))] 0 (qac qai) (fun _ h=>h ▸ aa.cells) rfl aF fun bq aG=>?_
 refine qaW kz ?_ _
 refine qaa (wp_ret (qaD aG aa.cells (v:=.int .u32 (IntKind.u32.wrap (BitVec.ofInt 32 (IntKind.u32.wrap (BitVec.ofInt 32 (IntKind.u32.wrap (BitVec.ofInt 32 (IntKind.u32.wrap ((s.getD 3 0).toNat:Int)) ||| BitVec.ofInt 32 (IntKind.u32.wrap ((IntKind.u32.wrap ((s.getD 2 0).toNat:Int)) * 256))).toNat) ||| BitVec.ofInt 32 (IntKind.u32.wrap ((IntKind.u32.wrap ((s.getD 1 0).toNat:Int)) * 65536))).toNat) ||| BitVec.ofInt 32 (IntKind.u32.wrap ((IntKind.u32.wrap ((s.getD 0 0).toNat:Int)) * 16777216))).toNat)) kz ?_))
 exact ⟨congrArg Ending.returned (congrArg (Value.int IntKind.u32) (qmY (oc s 0) (oc s 1) (oc s 2) (oc s 3) ob0 ob1 ob2 ob3)),aa.step⟩
theorem qnx {A:Option Addr} {c:Nat} (s:Bs) {w:World} {F:Nat → Nat → Prop} (ho:Octs w F A c s) (hl:8 ≤ s.length) :
  Calls Tryz.prog 79 #[.agg #[],.slice A s.length c] w (qcK w (.int .u64 (be64 s))):=by
 refine enter (n:=54) Tryz.func79 rfl Tryz.ntmps79 kz fun a hE=>?_
 have hW:=WOk.start w Nil
 have ob0:=qb5 s 0
 have ob1:=qb5 s 1
 have ob2:=qb5 s 2
 have ob3:=qb5 s 3
 have ob4:=qb5 s 4
 have ob5:=qb5 s 5
 have ob6:=qb5 s 6
 have ob7:=qb5 s 7
 refine qad [0,1] kz ?_
 refine qam (qbt hW hE (d:=2) (cs:=[]) kz fun b1 a2 w3 hb4 hz5 hF6 hW7 hE8=>?_)
 refine qaj [1] [] [(1,.v (.slice A s.length c))] hW7 hE8 fun a9 az=>?_
 refine qae (qaa ?_)
 refine qad [0,1,2] kz ?_
 refine qaj [0] [1,2] [(1,.v (.slice A s.length c)),(5,.v (.slice A s.length c))] hW7 az fun bR aA=>?_
 obtain ⟨bk,bn,ak,bp,ai⟩:=Slots.get ho (i:=7) (by omega)
 refine qam (qaz aA (t:=24) (A:=A) (m:=s.length) (q:=7) (d:=6) kz (e:=5) (size:=1) (bytes:=1) (j:=7) kz ak rfl (by omega) fun bS aB=>?_)
 refine qam (qaH aB (t:=5) (b:=bk) (o:=bn + 7 * 1) (d:=7) kz (cs:=[.int .u8 ((s.getD 7 0).toNat:Int)]) (v:=.int .u8 ((s.getD 7 0).toNat:Int)) kz (AtF.move ai hW7.step nilM qa7).at_ fun bT aC=>?_)
 refine qae (qaa ?_)
 refine qcm kz hW7 fun bU bq aa=>?_
 let ah:Nat × SV:=(18,.v (.slice A s.length c))
 let ag:Nat × SV:=(24,.v (.slice A s.length c))
 let af:Nat × SV:=(30,.v (.slice A s.length c))
 let ae:Nat × SV:=(36,.v (.slice A s.length c))
 let ac:Nat × SV:=(42,.v (.slice A s.length c))
 let ab:Nat × SV:=(48,.v (.slice A s.length c))
 refine qaY [0,4,10,16,22,28,34,40] [(8,.v (.slice A s.length c)),(12,.v (.slice A s.length c)),ah,ag,af,ae,ac,ab] 39 (qac qai) (fun _ h=>h ▸ aa.cells) rfl aC fun bV aD=>?_
 refine qbk aD (i:=1) (t:=24) (A:=A) (m:=s.length) (q:=7) (d:=9) kz (e:=5) (size:=1) (bytes:=1) (j:=7) kz ak rfl (by omega) kz kz (qac qai) rfl fun bW aE=>?_
 refine qbj aE (i:=2) (t:=5) (b:=bk) (o:=bn + 7 * 1) (d:=10) kz (cs:=[.int .u8 ((s.getD 7 0).toNat:Int)]) (v:=.int .u8 ((s.getD 7 0).toNat:Int)) kz (fun w' h'=>h' ▸ (AtF.move ai aa.step nilM qa7).at_) kz kz (qac qai) rfl fun bX aF=>?_
 refine qaY [3] [(11,.v (.int .u64 (IntKind.u64.wrap ((s.getD 7 0).toNat:Int)))),(12,.v (.slice A s.length c)),ah,ag,af,ae,ac,ab] 36 (qac qai) (fun _ h=>h ▸ aa.cells) rfl aF fun bY aG=>?_
 obtain ⟨bt,bu,aH,bw,al⟩:=Slots.get ho (i:=6) (by omega)
 refine qbk aG (i:=5) (t:=24) (A:=A) (m:=s.length) (q:=6) (d:=13) kz (e:=5) (size:=1) (bytes:=1) (j:=6) kz aH rfl (by omega) kz kz (qac qai) rfl fun bZ aI=>?_
 refine qbj aI (i:=6) (t:=5) (b:=bt) (o:=bu + 6 * 1) (d:=14) kz (cs:=[.int .u8 ((s.getD 6 0).toNat:Int)]) (v:=.int .u8 ((s.getD 6 0).toNat:Int)) kz (fun w' h'=>h' ▸ (AtF.move al aa.step nilM qa7).at_) kz kz (qac qai) rfl fun b8 aJ=>?_
 refine qaY [7,8,9] [(17,.v (.int .u64 (IntKind.u64.wrap (BitVec.ofInt 64 (IntKind.u64.wrap ((s.getD 7 0).toNat:Int)) ||| BitVec.ofInt 64 (IntKind.u64.wrap ((IntKind.u64.wrap ((s.getD 6 0).toNat:Int)) * 256))).toNat))),ah,ag,af,ae,ac,ab] 31 (qac qai) (fun _ h=>h ▸ aa.cells) rfl aJ fun cd aK=>?_
 obtain ⟨bx,bz,aL,bA,am⟩:=Slots.get ho (i:=5) (by omega)
 refine qbk aK (i:=11) (t:=24) (A:=A) (m:=s.length) (q:=5) (d:=19) kz (e:=5) (size:=1) (bytes:=1) (j:=5) kz aL rfl (by omega) kz kz (qac qai) rfl fun ce aM=>?_
 refine qbj aM (i:=12) (t:=5) (b:=bx) (o:=bz + 5 * 1) (d:=20) kz (cs:=[.int .u8 ((s.getD 5 0).toNat:Int)]) (v:=.int .u8 ((s.getD 5 0).toNat:Int)) kz (fun w' h'=>h' ▸ (AtF.move am aa.step nilM qa7).at_) kz kz (qac qai) rfl fun cg aN=>?_
 refine qaY [13,14,15] [(23,.v (.int .u64 (IntKind.u64.wrap (BitVec.ofInt 64 (IntKind.u64.wrap (BitVec.ofInt 64 (IntKind.u64.wrap ((s.getD 7 0).toNat:Int)) ||| BitVec.ofInt 64 (IntKind.u64.wrap ((IntKind.u64.wrap ((s.getD 6 0).toNat:Int)) * 256))).toNat) ||| BitVec.ofInt 64 (IntKind.u64.wrap ((IntKind.u64.wrap ((s.getD 5 0).toNat:Int)) * 65536))).toNat))),ag,af,ae,ac,ab] 26 (qac qai) (fun _ h=>h ▸ aa.cells) rfl aN fun cm aO=>?_
 obtain ⟨bB,bC,aP,bD,ao⟩:=Slots.get ho (i:=4) (by omega)
 refine qbk aO (i:=17) (t:=24) (A:=A) (m:=s.length) (q:=4) (d:=25) kz (e:=5) (size:=1) (bytes:=1) (j:=4) kz aP rfl (by omega) kz kz (qac qai) rfl fun cq aQ=>?_
 refine qbj aQ (i:=18) (t:=5) (b:=bB) (o:=bC + 4 * 1) (d:=26) kz (cs:=[.int .u8 ((s.getD 4 0).toNat:Int)]) (v:=.int .u8 ((s.getD 4 0).toNat:Int)) kz (fun w' h'=>h' ▸ (AtF.move ao aa.step nilM qa7).at_) kz kz (qac qai) rfl fun cr aR=>?_
 refine qaY [19,20,21] [(29,.v (.int .u64 (IntKind.u64.wrap (BitVec.ofInt 64 (IntKind.u64.wrap (BitVec.ofInt 64 (IntKind.u64.wrap (BitVec.ofInt 64 (IntKind.u64.wrap ((s.getD 7 0).toNat:Int)) ||| BitVec.ofInt 64 (IntKind.u64.wrap ((IntKind.u64.wrap ((s.getD 6 0).toNat:Int)) * 256))).toNat) ||| BitVec.ofInt 64 (IntKind.u64.wrap ((IntKind.u64.wrap ((s.getD 5 0).toNat:Int)) * 65536))).toNat) ||| BitVec.ofInt 64 (IntKind.u64.wrap ((IntKind.u64.wrap ((s.getD 4 0).toNat:Int)) * 16777216))).toNat))),af,ae,ac,ab] 21 (qac qai) (fun _ h=>h ▸ aa.cells) rfl aR fun cu aS=>?_
 obtain ⟨bE,bF,aT,bG,ap⟩:=Slots.get ho (i:=3) (by omega)
 refine qbk aS (i:=23) (t:=24) (A:=A) (m:=s.length) (q:=3) (d:=31) kz (e:=5) (size:=1) (bytes:=1) (j:=3) kz aT rfl (by omega) kz kz (qac qai) rfl fun cv aU=>?_
 refine qbj aU (i:=24) (t:=5) (b:=bE) (o:=bF + 3 * 1) (d:=32) kz (cs:=[.int .u8 ((s.getD 3 0).toNat:Int)]) (v:=.int .u8 ((s.getD 3 0).toNat:Int)) kz (fun w' h'=>h' ▸ (AtF.move ap aa.step nilM qa7).at_) kz kz (qac qai) rfl fun cw aV=>?_
 refine qaY [25,26,27] [(35,.v (.int .u64 (IntKind.u64.wrap (BitVec.ofInt 64 (IntKind.u64.wrap (BitVec.ofInt 64 (IntKind.u64.wrap (BitVec.ofInt 64 (IntKind.u64.wrap (BitVec.ofInt 64 (IntKind.u64.wrap ((s.getD 7 0).toNat:Int)) ||| BitVec.ofInt 64 (IntKind.u64.wrap ((IntKind.u64.wrap ((s.getD 6 0).toNat:Int)) * 256))).toNat) ||| BitVec.ofInt 64 (IntKind.u64.wrap ((IntKind.u64.wrap ((s.getD 5 0).toNat:Int)) * 65536))).toNat) ||| BitVec.ofInt 64 (IntKind.u64.wrap ((IntKind.u64.wrap ((s.getD 4 0).toNat:Int)) * 16777216))).toNat) ||| BitVec.ofInt 64 (IntKind.u64.wrap ((IntKind.u64.wrap ((s.getD 3 0).toNat:Int)) * 4294967296))).toNat))),ae,ac,ab] 16 (qac qai) (fun _ h=>h ▸ aa.cells) rfl aV fun cz aW=>?_
 obtain ⟨bH,bI,aX,bJ,ar⟩:=Slots.get ho (i:=2) (by omega)
 refine qbk aW (i:=29) (t:=24) (A:=A) (m:=s.length) (q:=2) (d:=37) kz (e:=5) (size:=1) (bytes:=1) (j:=2) kz aX rfl (by omega) kz kz (qac qai) rfl fun cA aY=>?_
 refine qbj aY (i:=30) (t:=5) (b:=bH) (o:=bI + 2 * 1) (d:=38) kz (cs:=[.int .u8 ((s.getD 2 0).toNat:Int)]) (v:=.int .u8 ((s.getD 2 0).toNat:Int)) kz (fun w' h'=>h' ▸ (AtF.move ar aa.step nilM qa7).at_) kz kz (qac qai) rfl fun cB aZ=>?_
 refine qaY [31,32,33] [(41,.v (.int .u64 (IntKind.u64.wrap (BitVec.ofInt 64 (IntKind.u64.wrap (BitVec.ofInt 64 (IntKind.u64.wrap (BitVec.ofInt 64 (IntKind.u64.wrap (BitVec.ofInt 64 (IntKind.u64.wrap (BitVec.ofInt 64 (IntKind.u64.wrap ((s.getD 7 0).toNat:Int)) ||| BitVec.ofInt 64 (IntKind.u64.wrap ((IntKind.u64.wrap ((s.getD 6 0).toNat:Int)) * 256))).toNat) ||| BitVec.ofInt 64 (IntKind.u64.wrap ((IntKind.u64.wrap ((s.getD 5 0).toNat:Int)) * 65536))).toNat) ||| BitVec.ofInt 64 (IntKind.u64.wrap ((IntKind.u64.wrap ((s.getD 4 0).toNat:Int)) * 16777216))).toNat) ||| BitVec.ofInt 64 (IntKind.u64.wrap ((IntKind.u64.wrap ((s.getD 3 0).toNat:Int)) * 4294967296))).toNat) ||| BitVec.ofInt 64 (IntKind.u64.wrap ((IntKind.u64.wrap ((s.getD 2 0).toNat:Int)) * 1099511627776))).toNat))),ac,ab] 11 (qac qai) (fun _ h=>h ▸ aa.cells) rfl aZ fun cC ba=>?_
 obtain ⟨bK,bL,bd,bM,au⟩:=Slots.get ho (i:=1) (by omega)
 refine qbk ba (i:=35) (t:=24) (A:=A) (m:=s.length) (q:=1) (d:=43) kz (e:=5) (size:=1) (bytes:=1) (j:=1) kz bd rfl (by omega) kz kz (qac qai) rfl fun cE bf=>?_
 refine qbj bf (i:=36) (t:=5) (b:=bK) (o:=bL + 1 * 1) (d:=44) kz (cs:=[.int .u8 ((s.getD 1 0).toNat:Int)]) (v:=.int .u8 ((s.getD 1 0).toNat:Int)) kz (fun w' h'=>h' ▸ (AtF.move au aa.step nilM qa7).at_) kz kz (qac qai) rfl fun cG bg=>?_
 refine qaY [37,38,39] [(47,.v (.int .u64 (IntKind.u64.wrap (BitVec.ofInt 64 (IntKind.u64.wrap (BitVec.ofInt 64 (IntKind.u64.wrap (BitVec.ofInt 64 (IntKind.u64.wrap (BitVec.ofInt 64 (IntKind.u64.wrap (BitVec.ofInt 64 (IntKind.u64.wrap (BitVec.ofInt 64 (IntKind.u64.wrap ((s.getD 7 0).toNat:Int)) ||| BitVec.ofInt 64 (IntKind.u64.wrap ((IntKind.u64.wrap ((s.getD 6 0).toNat:Int)) * 256))).toNat) ||| BitVec.ofInt 64 (IntKind.u64.wrap ((IntKind.u64.wrap ((s.getD 5 0).toNat:Int)) * 65536))).toNat) ||| BitVec.ofInt 64 (IntKind.u64.wrap ((IntKind.u64.wrap ((s.getD 4 0).toNat:Int)) * 16777216))).toNat) ||| BitVec.ofInt 64 (IntKind.u64.wrap ((IntKind.u64.wrap ((s.getD 3 0).toNat:Int)) * 4294967296))).toNat) ||| BitVec.ofInt 64 (IntKind.u64.wrap ((IntKind.u64.wrap ((s.getD 2 0).toNat:Int)) * 1099511627776))).toNat) ||| BitVec.ofInt 64 (IntKind.u64.wrap ((IntKind.u64.wrap ((s.getD 1 0).toNat:Int)) * 281474976710656))).toNat))),ab] 6 (qac qai) (fun _ h=>h ▸ aa.cells) rfl bg fun cH bh=>?_
 obtain ⟨bN,bj,av,bo,aj⟩:=Slots.get ho (i:=0) (by omega)
 refine qbk bh (i:=41) (t:=24) (A:=A) (m:=s.length) (q:=0) (d:=49) kz (e:=5) (size:=1) (bytes:=1) (j:=0) kz av rfl (by omega) kz kz (qac qai) rfl fun bO aw=>?_
 refine qbj aw (i:=42) (t:=5) (b:=bN) (o:=bj + 0 * 1) (d:=50) kz (cs:=[.int .u8 ((s.getD 0 0).toNat:Int)]) (v:=.int .u8 ((s.getD 0 0).toNat:Int)) kz (fun w' h'=>h' ▸ (AtF.move aj aa.step nilM qa7).at_) kz kz (qac qai) rfl fun bP ax=>?_
 refine qaY [43,44,45,46] [(4,.v (.int .u64 (IntKind.u64.wrap (BitVec.ofInt 64 (IntKind.u64.wrap (BitVec.ofInt 64 (IntKind.u64.wrap (BitVec.ofInt 64 (IntKind.u64.wrap (BitVec.ofInt 64 (IntKind.u64.wrap (BitVec.ofInt 64 (IntKind.u64.wrap (BitVec.ofInt 64 (IntKind.u64.wrap (BitVec.ofInt 64 (IntKind.u64.wrap ((s.getD 7 0).toNat:Int)) ||| BitVec.ofInt 64 (IntKind.u64.wrap ((IntKind.u64.wrap ((s.getD 6 0).toNat:Int)) * 256))).toNat) ||| BitVec.ofInt 64 (IntKind.u64.wrap ((IntKind.u64.wrap ((s.getD 5 0).toNat:Int)) * 65536))).toNat) ||| BitVec.ofInt 64 (IntKind.u64.wrap ((IntKind.u64.wrap ((s.getD 4 0).toNat:Int)) * 16777216))).toNat) ||| BitVec.ofInt 64 (IntKind.u64.wrap ((IntKind.u64.wrap ((s.getD 3 0).toNat:Int)) * 4294967296))).toNat) ||| BitVec.ofInt 64 (IntKind.u64.wrap ((IntKind.u64.wrap ((s.getD 2 0).toNat:Int)) * 1099511627776))).toNat) ||| BitVec.ofInt 64 (IntKind.u64.wrap ((IntKind.u64.wrap ((s.getD 1 0).toNat:Int)) * 281474976710656))).toNat) ||| BitVec.ofInt 64 (IntKind.u64.wrap ((IntKind.u64.wrap ((s.getD 0 0).toNat:Int)) * 72057594037927936))).toNat)))] 0 (qac qai) (fun _ h=>h ▸ aa.cells) rfl ax fun bQ ay=>?_
 refine qaW kz ?_ _
 refine qaa (wp_ret (qaD ay aa.cells (v:=.int .u64 (IntKind.u64.wrap (BitVec.ofInt 64 (IntKind.u64.wrap (BitVec.ofInt 64 (IntKind.u64.wrap (BitVec.ofInt 64 (IntKind.u64.wrap (BitVec.ofInt 64 (IntKind.u64.wrap (BitVec.ofInt 64 (IntKind.u64.wrap (BitVec.ofInt 64 (IntKind.u64.wrap (BitVec.ofInt 64 (IntKind.u64.wrap ((s.getD 7 0).toNat:Int)) ||| BitVec.ofInt 64 (IntKind.u64.wrap ((IntKind.u64.wrap ((s.getD 6 0).toNat:Int)) * 256))).toNat) ||| BitVec.ofInt 64 (IntKind.u64.wrap ((IntKind.u64.wrap ((s.getD 5 0).toNat:Int)) * 65536))).toNat) ||| BitVec.ofInt 64 (IntKind.u64.wrap ((IntKind.u64.wrap ((s.getD 4 0).toNat:Int)) * 16777216))).toNat) ||| BitVec.ofInt 64 (IntKind.u64.wrap ((IntKind.u64.wrap ((s.getD 3 0).toNat:Int)) * 4294967296))).toNat) ||| BitVec.ofInt 64 (IntKind.u64.wrap ((IntKind.u64.wrap ((s.getD 2 0).toNat:Int)) * 1099511627776))).toNat) ||| BitVec.ofInt 64 (IntKind.u64.wrap ((IntKind.u64.wrap ((s.getD 1 0).toNat:Int)) * 281474976710656))).toNat) ||| BitVec.ofInt 64 (IntKind.u64.wrap ((IntKind.u64.wrap ((s.getD 0 0).toNat:Int)) * 72057594037927936))).toNat)) kz ?_))
 exact ⟨congrArg Ending.returned (congrArg (Value.int IntKind.u64) (qmZ (oc s 0) (oc s 1) (oc s 2) (oc s 3) (oc s 4) (oc s 5) (oc s 6) (oc s 7) ob0 ob1 ob2 ob3 ob4 ob5 ob6 ob7)),aa.step⟩
theorem qm9 (x:Int) (rest:Bs)  {br:Nat} {A:Option Addr} {m c:Nat} {w:World} {F:Nat → Nat → Prop} (hst:Str w br [.slice A m c,.bool false]) (hr:RdS w F A m c (be 2 x ++ rest)) (hFd:∀ b o,F b o → ¬ RdM br b o) :
  Calls Tryz.prog 72 #[.pointer (some ⟨br,0,none⟩)] w (RdPost w br F rest fun v w'=>v = .int .i16 (IntKind.i16.wrap x)):=by
 obtain ⟨hm,ho⟩:=hr
 subst hm
 have hle:=ho.le
 refine enter (n:=32) Tryz.func72 rfl Tryz.ntmps72 kz fun a hE=>?_
 let aa:Value:=.slice A ((be 2 x ++ rest).length) c
 have hW:WOk w (RdM br) w [⟨br,0,[aa,.bool false],true⟩] []:=WOk.startStr hst
 have hE1:=(hE.grow ⟨br,0,[aa,.bool false],true⟩).recast 0 (.v (.pointer (some ⟨br,0,none⟩))) (.p 0 0) rfl rfl (Nat.le_of_ble_eq_true (n:=1) rfl)
 refine qat [(0,.p 0 0)] hW hE1 fun a1 hE2=>?_
 refine wp_seq (qat [(0,.p 0 0),(9,.v (.bool (decide ((((be 2 x ++ rest).length:Nat):Int) < 2))))] hW hE2 fun a3 hE4=>?_)
 refine qau hE4 (b:=decide ((((be 2 x ++ rest).length:Nat):Int) < 2)) kz (decide_eq_false (by first | omega | (simp only [List.length_append,be_length,List.length_cons,List.length_nil] at *; omega))) ?_
 refine wp_skip (qaa (qbu 7 kz hW fun w5 hF6 hW7 hT8=>?_))
 refine qaY [1,2,3,4] [(0,.p 0 0),(20,.v (.slice A ((be 2 x ++ rest).length) c))] 4 (qac qai) (fun _ h=>h.cells) hT8 hE4 fun a9 ag=>?_
 refine qbj ag (i:=0) (t:=128) (b:=0) (o:=0) (d:=16) kz (cs:=[]) (v:=.agg #[]) kz (fun w' h'=>(fun j_ v_ h_=>by simp at h_)) kz kz (qac qai) hT8 fun aw ah=>?_
 refine qaJ (i:=5) kz (qal ah (f:=78) (vs:=[.agg #[],aa]) (d:=21) kz Tryz.call78 (qnv _ (ho.move hW7.step (fun b_ o_ h_ _=>hFd b_ o_ h_) (hW7.immM hFd)) (by first | omega | (simp only [List.length_append,be_length,List.length_cons,List.length_nil] at *; omega))) ?_)
 rintro e_ ax ⟨rfl,ae⟩
 refine ⟨_,rfl,fun ay ai=>?_⟩
 have ab:=hW7.next_nil ae
 have aj:=hW7.frN ae
 have af:=TT.ofW aj ab
 refine ⟨fun _=>af,?_⟩
 refine qaY [6] [(0,.p 0 0),(22,.v (.int .i16 (IntKind.i16.wrap (be16 (be 2 x ++ rest)))))] 1 (qac qai) (fun _ h=>h.cells) af ai fun az ak=>?_
 refine qaJ (i:=7) kz (qcg [0,3] ab.cells ak (env':=[(0,.p 0 0),(3,.v (.int .i16 (IntKind.i16.wrap (be16 (be 2 x ++ rest)))))]) kz fun aA al=>?_)
 refine ⟨fun h=>absurd rfl h,?_⟩
 refine qaW kz ?_ _
 refine qaa (qad [0,1,2,3,4,5,6,7,8] kz ?_)
 refine qaj [0,1,2,3,4] [5,6,7,8] [(3,.v (.int .i16 (IntKind.i16.wrap (be16 (be 2 x ++ rest))))),(23,.p 0 0),(27,.v (.slice A ((be 2 x ++ rest).length) c))] ab al fun aB am=>?_
 refine qam (qbE am (t:=24) (A:=A) (m:=((be 2 x ++ rest).length)) (cp:=c) (q:=2) (d:=28) (j:=2) kz (e:=5) (bytes:=1) kz (rfl) (by first | omega | (simp only [List.length_append,be_length,List.length_cons,List.length_nil] at *; omega)) fun aC ao=>?_)
 refine qaj [6,7] [8] [(3,.v (.int .i16 (IntKind.i16.wrap (be16 (be 2 x ++ rest))))),(28,.v (.slice (cutA A c 2) (((be 2 x ++ rest).length) - 2) (c - 2))),(30,.p 0 0)] ab ao fun aD ap=>?_
 refine qam (qaK ab ap (oi:=0) (cs:=[.slice (cutA A c 2) (((be 2 x ++ rest).length) - 2) (c - 2),.bool false]) kz fun aE av ac ar=>?_)
 refine qae (qaa ?_)
 refine qat [(2,.v (.int .i16 (IntKind.i16.wrap (be16 (be 2 x ++ rest)))))] ac ar fun aF au=>?_
 refine wp_ret (qaD au ac.cells (v:=.int .i16 (IntKind.i16.wrap (be16 (be 2 x ++ rest)))) kz ?_)
 exact ⟨_,_,_,_,rfl,Str.of ac 0 rfl,RdS.drop (s:=be 2 x) ⟨rfl,ho.move ac.step (fun b_ o_ h_ _=>hFd b_ o_ h_) qa7⟩ (by simp only [be_length,List.length_cons,List.length_nil]),ac.step,by rw [qma,qmd]⟩
theorem qlM (x:Int) (rest:Bs)  {br:Nat} {A:Option Addr} {m c:Nat} {w:World} {F:Nat → Nat → Prop} (hst:Str w br [.slice A m c,.bool false]) (hr:RdS w F A m c (be 4 x ++ rest)) (hFd:∀ b o,F b o → ¬ RdM br b o) :
  Calls Tryz.prog 44 #[.pointer (some ⟨br,0,none⟩)] w (RdPost w br F rest fun v w'=>v = .int .i32 (IntKind.i32.wrap x)):=by
 obtain ⟨hm,ho⟩:=hr
 subst hm
 have hle:=ho.le
 refine enter (n:=32) Tryz.func44 rfl Tryz.ntmps44 kz fun a hE=>?_
 let aa:Value:=.slice A ((be 4 x ++ rest).length) c
 have hW:WOk w (RdM br) w [⟨br,0,[aa,.bool false],true⟩] []:=WOk.startStr hst
 have hE1:=(hE.grow ⟨br,0,[aa,.bool false],true⟩).recast 0 (.v (.pointer (some ⟨br,0,none⟩))) (.p 0 0) rfl rfl (Nat.le_of_ble_eq_true (n:=1) rfl)
 refine qat [(0,.p 0 0)] hW hE1 fun a1 hE2=>?_
 refine wp_seq (qat [(0,.p 0 0),(9,.v (.bool (decide ((((be 4 x ++ rest).length:Nat):Int) < 4))))] hW hE2 fun a3 hE4=>?_)
 refine qau hE4 (b:=decide ((((be 4 x ++ rest).length:Nat):Int) < 4)) kz (decide_eq_false (by first | omega | (simp only [List.length_append,be_length,List.length_cons,List.length_nil] at *; omega))) ?_
 refine wp_skip (qaa (qbu 7 kz hW fun w5 hF6 hW7 hT8=>?_))
 refine qaY [1,2,3,4] [(0,.p 0 0),(20,.v (.slice A ((be 4 x ++ rest).length) c))] 4 (qac qai) (fun _ h=>h.cells) hT8 hE4 fun a9 ag=>?_
 refine qbj ag (i:=0) (t:=128) (b:=0) (o:=0) (d:=16) kz (cs:=[]) (v:=.agg #[]) kz (fun w' h'=>(fun j_ v_ h_=>by simp at h_)) kz kz (qac qai) hT8 fun aw ah=>?_
 refine qaJ (i:=5) kz (qal ah (f:=70) (vs:=[.agg #[],aa]) (d:=21) kz Tryz.call70 (qnw _ (ho.move hW7.step (fun b_ o_ h_ _=>hFd b_ o_ h_) (hW7.immM hFd)) (by first | omega | (simp only [List.length_append,be_length,List.length_cons,List.length_nil] at *; omega))) ?_)
 rintro e_ ax ⟨rfl,ae⟩
 refine ⟨_,rfl,fun ay ai=>?_⟩
 have ab:=hW7.next_nil ae
 have aj:=hW7.frN ae
 have af:=TT.ofW aj ab
 refine ⟨fun _=>af,?_⟩
 refine qaY [6] [(0,.p 0 0),(22,.v (.int .i32 (IntKind.i32.wrap (be32 (be 4 x ++ rest)))))] 1 (qac qai) (fun _ h=>h.cells) af ai fun az ak=>?_
 refine qaJ (i:=7) kz (qcg [0,3] ab.cells ak (env':=[(0,.p 0 0),(3,.v (.int .i32 (IntKind.i32.wrap (be32 (be 4 x ++ rest)))))]) kz fun aA al=>?_)
 refine ⟨fun h=>absurd rfl h,?_⟩
 refine qaW kz ?_ _
 refine qaa (qad [0,1,2,3,4,5,6,7,8] kz ?_)
 refine qaj [0,1,2,3,4] [5,6,7,8] [(3,.v (.int .i32 (IntKind.i32.wrap (be32 (be 4 x ++ rest))))),(23,.p 0 0),(27,.v (.slice A ((be 4 x ++ rest).length) c))] ab al fun aB am=>?_
 refine qam (qbE am (t:=24) (A:=A) (m:=((be 4 x ++ rest).length)) (cp:=c) (q:=4) (d:=28) (j:=4) kz (e:=5) (bytes:=1) kz (rfl) (by first | omega | (simp only [List.length_append,be_length,List.length_cons,List.length_nil] at *; omega)) fun aC ao=>?_)
 refine qaj [6,7] [8] [(3,.v (.int .i32 (IntKind.i32.wrap (be32 (be 4 x ++ rest))))),(28,.v (.slice (cutA A c 4) (((be 4 x ++ rest).length) - 4) (c - 4))),(30,.p 0 0)] ab ao fun aD ap=>?_
 refine qam (qaK ab ap (oi:=0) (cs:=[.slice (cutA A c 4) (((be 4 x ++ rest).length) - 4) (c - 4),.bool false]) kz fun aE av ac ar=>?_)
 refine qae (qaa ?_)
 refine qat [(2,.v (.int .i32 (IntKind.i32.wrap (be32 (be 4 x ++ rest)))))] ac ar fun aF au=>?_
 refine wp_ret (qaD au ac.cells (v:=.int .i32 (IntKind.i32.wrap (be32 (be 4 x ++ rest)))) kz ?_)
 exact ⟨_,_,_,_,rfl,Str.of ac 0 rfl,RdS.drop (s:=be 4 x) ⟨rfl,ho.move ac.step (fun b_ o_ h_ _=>hFd b_ o_ h_) qa7⟩ (by simp only [be_length,List.length_cons,List.length_nil]),ac.step,by rw [qmb,qme]⟩
theorem qmq (x:Int) (rest:Bs)  {br:Nat} {A:Option Addr} {m c:Nat} {w:World} {F:Nat → Nat → Prop} (hst:Str w br [.slice A m c,.bool false]) (hr:RdS w F A m c (be 8 x ++ rest)) (hFd:∀ b o,F b o → ¬ RdM br b o) :
  Calls Tryz.prog 73 #[.pointer (some ⟨br,0,none⟩)] w (RdPost w br F rest fun v w'=>v = .int .u64 (IntKind.u64.wrap x)):=by
 obtain ⟨hm,ho⟩:=hr
 subst hm
 have hle:=ho.le
 refine enter (n:=31) Tryz.func73 rfl Tryz.ntmps73 kz fun a hE=>?_
 let aa:Value:=.slice A ((be 8 x ++ rest).length) c
 have hW:WOk w (RdM br) w [⟨br,0,[aa,.bool false],true⟩] []:=WOk.startStr hst
 have hE1:=(hE.grow ⟨br,0,[aa,.bool false],true⟩).recast 0 (.v (.pointer (some ⟨br,0,none⟩))) (.p 0 0) rfl rfl (Nat.le_of_ble_eq_true (n:=1) rfl)
 refine qat [(0,.p 0 0)] hW hE1 fun a1 hE2=>?_
 refine wp_seq (qat [(0,.p 0 0),(9,.v (.bool (decide ((((be 8 x ++ rest).length:Nat):Int) < 8))))] hW hE2 fun a3 hE4=>?_)
 refine qau hE4 (b:=decide ((((be 8 x ++ rest).length:Nat):Int) < 8)) kz (decide_eq_false (by first | omega | (simp only [List.length_append,be_length,List.length_cons,List.length_nil] at *; omega))) ?_
 refine wp_skip (qaa (qbu 6 kz hW fun w5 hF6 hW7 hT8=>?_))
 refine qaY [1,2,3,4] [(0,.p 0 0),(20,.v (.slice A ((be 8 x ++ rest).length) c))] 3 (qac qai) (fun _ h=>h.cells) hT8 hE4 fun a9 af=>?_
 refine qbj af (i:=0) (t:=128) (b:=0) (o:=0) (d:=16) kz (cs:=[]) (v:=.agg #[]) kz (fun w' h'=>(fun j_ v_ h_=>by simp at h_)) kz kz (qac qai) hT8 fun av ag=>?_
 refine qaJ (i:=5) kz (qal ag (f:=79) (vs:=[.agg #[],aa]) (d:=21) kz Tryz.call79 (qnx _ (ho.move hW7.step (fun b_ o_ h_ _=>hFd b_ o_ h_) (hW7.immM hFd)) (by first | omega | (simp only [List.length_append,be_length,List.length_cons,List.length_nil] at *; omega))) ?_)
 rintro e_ aw ⟨rfl,ae⟩
 refine ⟨_,rfl,fun ax ah=>?_⟩
 have ab:=hW7.next_nil ae
 have ai:=hW7.frN ae
 have aj:=TT.ofW ai ab
 refine ⟨fun _=>aj,?_⟩
 refine qaJ (i:=6) kz (qcg [0,3] ab.cells ah (env':=[(0,.p 0 0),(3,.v (.int .u64 (be64 (be 8 x ++ rest))))]) kz fun ay ak=>?_)
 refine ⟨fun h=>absurd rfl h,?_⟩
 refine qaW kz ?_ _
 refine qaa (qad [0,1,2,3,4,5,6,7,8] kz ?_)
 refine qaj [0,1,2,3,4] [5,6,7,8] [(3,.v (.int .u64 (be64 (be 8 x ++ rest)))),(22,.p 0 0),(26,.v (.slice A ((be 8 x ++ rest).length) c))] ab ak fun az al=>?_
 refine qam (qbE al (t:=24) (A:=A) (m:=((be 8 x ++ rest).length)) (cp:=c) (q:=8) (d:=27) (j:=8) kz (e:=5) (bytes:=1) kz (rfl) (by first | omega | (simp only [List.length_append,be_length,List.length_cons,List.length_nil] at *; omega)) fun aA am=>?_)
 refine qaj [6,7] [8] [(3,.v (.int .u64 (be64 (be 8 x ++ rest)))),(27,.v (.slice (cutA A c 8) (((be 8 x ++ rest).length) - 8) (c - 8))),(29,.p 0 0)] ab am fun aB ao=>?_
 refine qam (qaK ab ao (oi:=0) (cs:=[.slice (cutA A c 8) (((be 8 x ++ rest).length) - 8) (c - 8),.bool false]) kz fun aC au ac ap=>?_)
 refine qae (qaa ?_)
 refine qat [(2,.v (.int .u64 (be64 (be 8 x ++ rest))))] ac ap fun aD ar=>?_
 refine wp_ret (qaD ar ac.cells (v:=.int .u64 (be64 (be 8 x ++ rest))) kz ?_)
 exact ⟨_,_,_,_,rfl,Str.of ac 0 rfl,RdS.drop (s:=be 8 x) ⟨rfl,ho.move ac.step (fun b_ o_ h_ _=>hFd b_ o_ h_) qa7⟩ (by simp only [be_length,List.length_cons,List.length_nil]),ac.step,by rw [qmc]⟩
theorem rUv1 {A:Option Addr} {c:Nat} (s:Bs) {w:World} {F:Nat → Nat → Prop} (ho:Octs w F A c s) (hl:1 ≤ s.length) (d0:Nat) (h0:oc s 0 = d0) (g0:d0 < 128) :
  Calls Tryz.prog 74 #[.slice A s.length c] w (qcK w (.tuple #[.int .u32 ((d0:Nat):Int),.int .i64 1])):=by
 refine enter (n:=87) Tryz.func74 rfl Tryz.ntmps74 kz fun a hE=>?_
 have hW:=WOk.start w Nil
 let aa:Nat × SV:=(0,.v (.slice A s.length c))
 refine qat [aa] hW hE fun a1 hE2=>?_
 refine wp_scope_straight (qat [aa] hW hE2 fun a3 hE4=>?_)
 refine qat [aa] hW hE4 fun a5 hE6=>?_
 refine wp_seq (qat [aa,(8,.v (.bool (decide (((s.length:Nat):Int) < 1))))] hW hE6 fun a7 hE8=>?_)
 refine qau hE8 (b:=decide (((s.length:Nat):Int) < 1)) kz (decide_eq_false (by omega)) ?_
 refine wp_skip (qaa (qad [0,1,2,3,4,5] kz ?_))
 refine qaj [0] [1,2,3,4,5] [aa,(9,.v (.slice A s.length c))] hW hE8 fun a9 af=>?_
 obtain ⟨ao,ap,ac,ar,ab⟩:=Slots.get ho (i:=0) (by first | omega | (simp only [List.length_append,be_length,List.length_cons,List.length_nil] at *; omega))
 refine qam (qaz af (t:=24) (A:=A) (m:=s.length) (q:=0) (d:=10) kz (e:=5) (size:=1) (bytes:=1) (j:=0) kz ac rfl (by first | omega | (simp only [List.length_append,be_length,List.length_cons,List.length_nil] at *; omega)) fun au ag=>?_)
 refine qam (qaH ag (t:=5) (b:=ao) (o:=ap + 0 * 1) (d:=11) kz (cs:=[.int .u8 ((s.getD 0 0).toNat:Int)]) (v:=.int .u8 ((s.getD 0 0).toNat:Int)) kz (AtF.move ab hW.step nilM qa7).at_ fun av ah=>?_)
 refine qaj [3,4,5] [] [aa,(4,.v (.int .u32 (IntKind.u32.wrap (IntKind.u8.wrap (BitVec.ofInt 8 ((s.getD 0 0).toNat:Int) &&& BitVec.ofInt 8 127).toNat))))] hW ah fun aw ai=>?_
 refine qae (qaa ?_)
 refine wp_seq (qad [0,1,2,3,4] kz ?_)
 refine qaj [0] [1,2,3,4] [aa,(4,.v (.int .u32 (IntKind.u32.wrap (IntKind.u8.wrap (BitVec.ofInt 8 ((s.getD 0 0).toNat:Int) &&& BitVec.ofInt 8 127).toNat)))),(14,.v (.slice A s.length c))] hW ai fun ax aj=>?_
 refine qam (qaz aj (t:=24) (A:=A) (m:=s.length) (q:=0) (d:=15) kz (e:=5) (size:=1) (bytes:=1) (j:=0) kz ac rfl (by first | omega | (simp only [List.length_append,be_length,List.length_cons,List.length_nil] at *; omega)) fun ay ak=>?_)
 refine qam (qaH ak (t:=5) (b:=ao) (o:=ap + 0 * 1) (d:=16) kz (cs:=[.int .u8 ((s.getD 0 0).toNat:Int)]) (v:=.int .u8 ((s.getD 0 0).toNat:Int)) kz (AtF.move ab hW.step nilM qa7).at_ fun az al=>?_)
 refine qaj [3,4] [] [aa,(4,.v (.int .u32 (IntKind.u32.wrap (IntKind.u8.wrap (BitVec.ofInt 8 ((s.getD 0 0).toNat:Int) &&& BitVec.ofInt 8 127).toNat)))),(18,.v (.bool ((IntKind.u8.wrap (BitVec.ofInt 8 ((s.getD 0 0).toNat:Int) &&& BitVec.ofInt 8 128).toNat) == 0)))] hW al fun aA ae=>?_
 refine qae (qaa ?_)
 refine qbw ae (b:=(IntKind.u8.wrap (BitVec.ofInt 8 ((s.getD 0 0).toNat:Int) &&& BitVec.ofInt 8 128).toNat) == 0) kz ((qdi _ (qb5 s 0)).trans (decide_eq_true (by have:=h0; unfold oc at this; omega))) ?_
 refine qat [(2,.v (.int .u32 (IntKind.u32.wrap (IntKind.u8.wrap (BitVec.ofInt 8 ((s.getD 0 0).toNat:Int) &&& BitVec.ofInt 8 127).toNat)))),(3,.v (.int .i64 1))] hW ae fun aB am=>?_
 refine wp_ret (qaE (qd9 (qaD am hW.cells (v:=.tuple #[.int .u32 (IntKind.u32.wrap (IntKind.u8.wrap (BitVec.ofInt 8 ((s.getD 0 0).toNat:Int) &&& BitVec.ofInt 8 127).toNat)),.int .i64 1]) kz ?_)))
 have e_:=uv_1 (oc s 0) (qb5 s 0)
 refine ⟨congrArg (fun z_:Int=>Ending.returned (.tuple #[.int .u32 z_,.int .i64 1])) (Eq.trans e_ ?_),hW.step⟩
 omega
theorem rUv2 {A:Option Addr} {c:Nat} (s:Bs) {w:World} {F:Nat → Nat → Prop} (ho:Octs w F A c s) (hl:2 ≤ s.length) (d0 d1:Nat) (h0:oc s 0 = d0 + 128) (h1:oc s 1 = d1) (g0:d0 < 128) (g1:d1 < 128) :
  Calls Tryz.prog 74 #[.slice A s.length c] w (qcK w (.tuple #[.int .u32 ((d0 + d1 * 128:Nat):Int),.int .i64 2])):=by
 refine enter (n:=87) Tryz.func74 rfl Tryz.ntmps74 kz fun a hE=>?_
 have hW:=WOk.start w Nil
 let aa:Nat × SV:=(0,.v (.slice A s.length c))
 refine qat [aa] hW hE fun a1 hE2=>?_
 refine wp_scope_straight (qat [aa] hW hE2 fun a3 hE4=>?_)
 refine qat [aa] hW hE4 fun a5 hE6=>?_
 refine wp_seq (qat [aa,(8,.v (.bool (decide (((s.length:Nat):Int) < 1))))] hW hE6 fun a7 hE8=>?_)
 refine qau hE8 (b:=decide (((s.length:Nat):Int) < 1)) kz (decide_eq_false (by omega)) ?_
 refine wp_skip (qaa (qad [0,1,2,3,4,5] kz ?_))
 refine qaj [0] [1,2,3,4,5] [aa,(9,.v (.slice A s.length c))] hW hE8 fun a9 aj=>?_
 obtain ⟨aC,aD,ae,aG,ab⟩:=Slots.get ho (i:=0) (by first | omega | (simp only [List.length_append,be_length,List.length_cons,List.length_nil] at *; omega))
 refine qam (qaz aj (t:=24) (A:=A) (m:=s.length) (q:=0) (d:=10) kz (e:=5) (size:=1) (bytes:=1) (j:=0) kz ae rfl (by first | omega | (simp only [List.length_append,be_length,List.length_cons,List.length_nil] at *; omega)) fun aI ak=>?_)
 refine qam (qaH ak (t:=5) (b:=aC) (o:=aD + 0 * 1) (d:=11) kz (cs:=[.int .u8 ((s.getD 0 0).toNat:Int)]) (v:=.int .u8 ((s.getD 0 0).toNat:Int)) kz (AtF.move ab hW.step nilM qa7).at_ fun aJ al=>?_)
 refine qaj [3,4,5] [] [aa,(4,.v (.int .u32 (IntKind.u32.wrap (IntKind.u8.wrap (BitVec.ofInt 8 ((s.getD 0 0).toNat:Int) &&& BitVec.ofInt 8 127).toNat))))] hW al fun aK am=>?_
 refine qae (qaa ?_)
 refine wp_seq (qad [0,1,2,3,4] kz ?_)
 refine qaj [0] [1,2,3,4] [aa,(4,.v (.int .u32 (IntKind.u32.wrap (IntKind.u8.wrap (BitVec.ofInt 8 ((s.getD 0 0).toNat:Int) &&& BitVec.ofInt 8 127).toNat)))),(14,.v (.slice A s.length c))] hW am fun aL ao=>?_
 refine qam (qaz ao (t:=24) (A:=A) (m:=s.length) (q:=0) (d:=15) kz (e:=5) (size:=1) (bytes:=1) (j:=0) kz ae rfl (by first | omega | (simp only [List.length_append,be_length,List.length_cons,List.length_nil] at *; omega)) fun aM ap=>?_)
 refine qam (qaH ap (t:=5) (b:=aC) (o:=aD + 0 * 1) (d:=16) kz (cs:=[.int .u8 ((s.getD 0 0).toNat:Int)]) (v:=.int .u8 ((s.getD 0 0).toNat:Int)) kz (AtF.move ab hW.step nilM qa7).at_ fun aN ar=>?_)
 refine qaj [3,4] [] [aa,(4,.v (.int .u32 (IntKind.u32.wrap (IntKind.u8.wrap (BitVec.ofInt 8 ((s.getD 0 0).toNat:Int) &&& BitVec.ofInt 8 127).toNat)))),(18,.v (.bool ((IntKind.u8.wrap (BitVec.ofInt 8 ((s.getD 0 0).toNat:Int) &&& BitVec.ofInt 8 128).toNat) == 0)))] hW ar fun aO af=>?_
 refine qae (qaa ?_)
 refine qau af (b:=(IntKind.u8.wrap (BitVec.ofInt 8 ((s.getD 0 0).toNat:Int) &&& BitVec.ofInt 8 128).toNat) == 0) kz ((qdi _ (qb5 s 0)).trans (decide_eq_false (by have:=h0; unfold oc at this; omega))) ?_
 refine qat [aa,(4,.v (.int .u32 (IntKind.u32.wrap (IntKind.u8.wrap (BitVec.ofInt 8 ((s.getD 0 0).toNat:Int) &&& BitVec.ofInt 8 127).toNat)))),(22,.v (.bool (decide (((s.length:Nat):Int) < 2))))] hW af fun aP ag=>?_
 refine qau ag (b:=decide (((s.length:Nat):Int) < 2)) kz (decide_eq_false (by omega)) ?_
 refine wp_skip (qaa (qad [0,1,2,3,4,5,6,7,8] kz ?_))
 refine qaj [0,1] [2,3,4,5,6,7,8] [aa,(23,.v (.int .u32 (IntKind.u32.wrap (IntKind.u8.wrap (BitVec.ofInt 8 ((s.getD 0 0).toNat:Int) &&& BitVec.ofInt 8 127).toNat)))),(24,.v (.slice A s.length c))] hW ag fun aQ au=>?_
 obtain ⟨aE,aF,ah,aH,ac⟩:=Slots.get ho (i:=1) (by first | omega | (simp only [List.length_append,be_length,List.length_cons,List.length_nil] at *; omega))
 refine qam (qaz au (t:=24) (A:=A) (m:=s.length) (q:=1) (d:=25) kz (e:=5) (size:=1) (bytes:=1) (j:=1) kz ah rfl (by first | omega | (simp only [List.length_append,be_length,List.length_cons,List.length_nil] at *; omega)) fun aR av=>?_)
 refine qam (qaH av (t:=5) (b:=aE) (o:=aF + 1 * 1) (d:=26) kz (cs:=[.int .u8 ((s.getD 1 0).toNat:Int)]) (v:=.int .u8 ((s.getD 1 0).toNat:Int)) kz (AtF.move ac hW.step nilM qa7).at_ fun aS aw=>?_)
 refine qaj [4,5,6,7,8] [] [aa,(4,.v (.int .u32 (IntKind.u32.wrap (BitVec.ofInt 32 (IntKind.u32.wrap (IntKind.u8.wrap (BitVec.ofInt 8 ((s.getD 0 0).toNat:Int) &&& BitVec.ofInt 8 127).toNat)) ||| BitVec.ofInt 32 (IntKind.u32.wrap ((IntKind.u32.wrap (IntKind.u8.wrap (BitVec.ofInt 8 ((s.getD 1 0).toNat:Int) &&& BitVec.ofInt 8 127).toNat)) * 128))).toNat)))] hW aw fun aT ax=>?_
 refine qae (qaa ?_)
 refine wp_seq (qad [0,1,2,3,4] kz ?_)
 refine qaj [0] [1,2,3,4] [aa,(4,.v (.int .u32 (IntKind.u32.wrap (BitVec.ofInt 32 (IntKind.u32.wrap (IntKind.u8.wrap (BitVec.ofInt 8 ((s.getD 0 0).toNat:Int) &&& BitVec.ofInt 8 127).toNat)) ||| BitVec.ofInt 32 (IntKind.u32.wrap ((IntKind.u32.wrap (IntKind.u8.wrap (BitVec.ofInt 8 ((s.getD 1 0).toNat:Int) &&& BitVec.ofInt 8 127).toNat)) * 128))).toNat))),(31,.v (.slice A s.length c))] hW ax fun aU ay=>?_
 refine qam (qaz ay (t:=24) (A:=A) (m:=s.length) (q:=1) (d:=32) kz (e:=5) (size:=1) (bytes:=1) (j:=1) kz ah rfl (by first | omega | (simp only [List.length_append,be_length,List.length_cons,List.length_nil] at *; omega)) fun aV az=>?_)
 refine qam (qaH az (t:=5) (b:=aE) (o:=aF + 1 * 1) (d:=33) kz (cs:=[.int .u8 ((s.getD 1 0).toNat:Int)]) (v:=.int .u8 ((s.getD 1 0).toNat:Int)) kz (AtF.move ac hW.step nilM qa7).at_ fun aW aA=>?_)
 refine qaj [3,4] [] [aa,(4,.v (.int .u32 (IntKind.u32.wrap (BitVec.ofInt 32 (IntKind.u32.wrap (IntKind.u8.wrap (BitVec.ofInt 8 ((s.getD 0 0).toNat:Int) &&& BitVec.ofInt 8 127).toNat)) ||| BitVec.ofInt 32 (IntKind.u32.wrap ((IntKind.u32.wrap (IntKind.u8.wrap (BitVec.ofInt 8 ((s.getD 1 0).toNat:Int) &&& BitVec.ofInt 8 127).toNat)) * 128))).toNat))),(35,.v (.bool ((IntKind.u8.wrap (BitVec.ofInt 8 ((s.getD 1 0).toNat:Int) &&& BitVec.ofInt 8 128).toNat) == 0)))] hW aA fun aX ai=>?_
 refine qae (qaa ?_)
 refine qbw ai (b:=(IntKind.u8.wrap (BitVec.ofInt 8 ((s.getD 1 0).toNat:Int) &&& BitVec.ofInt 8 128).toNat) == 0) kz ((qdi _ (qb5 s 1)).trans (decide_eq_true (by have:=h1; unfold oc at this; omega))) ?_
 refine qat [(2,.v (.int .u32 (IntKind.u32.wrap (BitVec.ofInt 32 (IntKind.u32.wrap (IntKind.u8.wrap (BitVec.ofInt 8 ((s.getD 0 0).toNat:Int) &&& BitVec.ofInt 8 127).toNat)) ||| BitVec.ofInt 32 (IntKind.u32.wrap ((IntKind.u32.wrap (IntKind.u8.wrap (BitVec.ofInt 8 ((s.getD 1 0).toNat:Int) &&& BitVec.ofInt 8 127).toNat)) * 128))).toNat))),(3,.v (.int .i64 2))] hW ai fun aY aB=>?_
 refine wp_ret (qaE (qd9 (qaD aB hW.cells (v:=.tuple #[.int .u32 (IntKind.u32.wrap (BitVec.ofInt 32 (IntKind.u32.wrap (IntKind.u8.wrap (BitVec.ofInt 8 ((s.getD 0 0).toNat:Int) &&& BitVec.ofInt 8 127).toNat)) ||| BitVec.ofInt 32 (IntKind.u32.wrap ((IntKind.u32.wrap (IntKind.u8.wrap (BitVec.ofInt 8 ((s.getD 1 0).toNat:Int) &&& BitVec.ofInt 8 127).toNat)) * 128))).toNat),.int .i64 2]) kz ?_)))
 have e_:=uv_2 (oc s 0) (oc s 1) (qb5 s 0) (qb5 s 1)
 refine ⟨congrArg (fun z_:Int=>Ending.returned (.tuple #[.int .u32 z_,.int .i64 2])) (Eq.trans e_ ?_),hW.step⟩
 omega
theorem rUv3 {A:Option Addr} {c:Nat} (s:Bs) {w:World} {F:Nat → Nat → Prop} (ho:Octs w F A c s) (hl:3 ≤ s.length) (d0 d1 d2:Nat) (h0:oc s 0 = d0 + 128) (h1:oc s 1 = d1 + 128) (h2:oc s 2 = d2) (g0:d0 < 128) (g1:d1 < 128) (g2:d2 < 128) :
  Calls Tryz.prog 74 #[.slice A s.length c] w (qcK w (.tuple #[.int .u32 ((d0 + d1 * 128 + d2 * 16384:Nat):Int),.int .i64 3])):=by
 refine enter (n:=87) Tryz.func74 rfl Tryz.ntmps74 kz fun a hE=>?_
 have hW:=WOk.start w Nil
 let aa:Nat × SV:=(0,.v (.slice A s.length c))
 refine qat [aa] hW hE fun a1 hE2=>?_
 refine wp_scope_straight (qat [aa] hW hE2 fun a3 hE4=>?_)
 refine qat [aa] hW hE4 fun a5 hE6=>?_
 refine wp_seq (qat [aa,(8,.v (.bool (decide (((s.length:Nat):Int) < 1))))] hW hE6 fun a7 hE8=>?_)
 refine qau hE8 (b:=decide (((s.length:Nat):Int) < 1)) kz (decide_eq_false (by omega)) ?_
 refine wp_skip (qaa (qad [0,1,2,3,4,5] kz ?_))
 refine qaj [0] [1,2,3,4,5] [aa,(9,.v (.slice A s.length c))] hW hE8 fun a9 ao=>?_
 obtain ⟨aN,aO,af,aT,ab⟩:=Slots.get ho (i:=0) (by first | omega | (simp only [List.length_append,be_length,List.length_cons,List.length_nil] at *; omega))
 refine qam (qaz ao (t:=24) (A:=A) (m:=s.length) (q:=0) (d:=10) kz (e:=5) (size:=1) (bytes:=1) (j:=0) kz af rfl (by first | omega | (simp only [List.length_append,be_length,List.length_cons,List.length_nil] at *; omega)) fun aW ap=>?_)
 refine qam (qaH ap (t:=5) (b:=aN) (o:=aO + 0 * 1) (d:=11) kz (cs:=[.int .u8 ((s.getD 0 0).toNat:Int)]) (v:=.int .u8 ((s.getD 0 0).toNat:Int)) kz (AtF.move ab hW.step nilM qa7).at_ fun aX ar=>?_)
 refine qaj [3,4,5] [] [aa,(4,.v (.int .u32 (IntKind.u32.wrap (IntKind.u8.wrap (BitVec.ofInt 8 ((s.getD 0 0).toNat:Int) &&& BitVec.ofInt 8 127).toNat))))] hW ar fun aY au=>?_
 refine qae (qaa ?_)
 refine wp_seq (qad [0,1,2,3,4] kz ?_)
 refine qaj [0] [1,2,3,4] [aa,(4,.v (.int .u32 (IntKind.u32.wrap (IntKind.u8.wrap (BitVec.ofInt 8 ((s.getD 0 0).toNat:Int) &&& BitVec.ofInt 8 127).toNat)))),(14,.v (.slice A s.length c))] hW au fun aZ av=>?_
 refine qam (qaz av (t:=24) (A:=A) (m:=s.length) (q:=0) (d:=15) kz (e:=5) (size:=1) (bytes:=1) (j:=0) kz af rfl (by first | omega | (simp only [List.length_append,be_length,List.length_cons,List.length_nil] at *; omega)) fun ba aw=>?_)
 refine qam (qaH aw (t:=5) (b:=aN) (o:=aO + 0 * 1) (d:=16) kz (cs:=[.int .u8 ((s.getD 0 0).toNat:Int)]) (v:=.int .u8 ((s.getD 0 0).toNat:Int)) kz (AtF.move ab hW.step nilM qa7).at_ fun bd ax=>?_)
 refine qaj [3,4] [] [aa,(4,.v (.int .u32 (IntKind.u32.wrap (IntKind.u8.wrap (BitVec.ofInt 8 ((s.getD 0 0).toNat:Int) &&& BitVec.ofInt 8 127).toNat)))),(18,.v (.bool ((IntKind.u8.wrap (BitVec.ofInt 8 ((s.getD 0 0).toNat:Int) &&& BitVec.ofInt 8 128).toNat) == 0)))] hW ax fun bf ag=>?_
 refine qae (qaa ?_)
 refine qau ag (b:=(IntKind.u8.wrap (BitVec.ofInt 8 ((s.getD 0 0).toNat:Int) &&& BitVec.ofInt 8 128).toNat) == 0) kz ((qdi _ (qb5 s 0)).trans (decide_eq_false (by have:=h0; unfold oc at this; omega))) ?_
 refine qat [aa,(4,.v (.int .u32 (IntKind.u32.wrap (IntKind.u8.wrap (BitVec.ofInt 8 ((s.getD 0 0).toNat:Int) &&& BitVec.ofInt 8 127).toNat)))),(22,.v (.bool (decide (((s.length:Nat):Int) < 2))))] hW ag fun bg ah=>?_
 refine qau ah (b:=decide (((s.length:Nat):Int) < 2)) kz (decide_eq_false (by omega)) ?_
 refine wp_skip (qaa (qad [0,1,2,3,4,5,6,7,8] kz ?_))
 refine qaj [0,1] [2,3,4,5,6,7,8] [aa,(23,.v (.int .u32 (IntKind.u32.wrap (IntKind.u8.wrap (BitVec.ofInt 8 ((s.getD 0 0).toNat:Int) &&& BitVec.ofInt 8 127).toNat)))),(24,.v (.slice A s.length c))] hW ah fun bh ay=>?_
 obtain ⟨aP,aQ,ai,aU,ac⟩:=Slots.get ho (i:=1) (by first | omega | (simp only [List.length_append,be_length,List.length_cons,List.length_nil] at *; omega))
 refine qam (qaz ay (t:=24) (A:=A) (m:=s.length) (q:=1) (d:=25) kz (e:=5) (size:=1) (bytes:=1) (j:=1) kz ai rfl (by first | omega | (simp only [List.length_append,be_length,List.length_cons,List.length_nil] at *; omega)) fun bj az=>?_)
 refine qam (qaH az (t:=5) (b:=aP) (o:=aQ + 1 * 1) (d:=26) kz (cs:=[.int .u8 ((s.getD 1 0).toNat:Int)]) (v:=.int .u8 ((s.getD 1 0).toNat:Int)) kz (AtF.move ac hW.step nilM qa7).at_ fun bk aA=>?_)
 refine qaj [4,5,6,7,8] [] [aa,(4,.v (.int .u32 (IntKind.u32.wrap (BitVec.ofInt 32 (IntKind.u32.wrap (IntKind.u8.wrap (BitVec.ofInt 8 ((s.getD 0 0).toNat:Int) &&& BitVec.ofInt 8 127).toNat)) ||| BitVec.ofInt 32 (IntKind.u32.wrap ((IntKind.u32.wrap (IntKind.u8.wrap (BitVec.ofInt 8 ((s.getD 1 0).toNat:Int) &&& BitVec.ofInt 8 127).toNat)) * 128))).toNat)))] hW aA fun bn aB=>?_
 refine qae (qaa ?_)
 refine wp_seq (qad [0,1,2,3,4] kz ?_)
 refine qaj [0] [1,2,3,4] [aa,(4,.v (.int .u32 (IntKind.u32.wrap (BitVec.ofInt 32 (IntKind.u32.wrap (IntKind.u8.wrap (BitVec.ofInt 8 ((s.getD 0 0).toNat:Int) &&& BitVec.ofInt 8 127).toNat)) ||| BitVec.ofInt 32 (IntKind.u32.wrap ((IntKind.u32.wrap (IntKind.u8.wrap (BitVec.ofInt 8 ((s.getD 1 0).toNat:Int) &&& BitVec.ofInt 8 127).toNat)) * 128))).toNat))),(31,.v (.slice A s.length c))] hW aB fun bo aC=>?_
 refine qam (qaz aC (t:=24) (A:=A) (m:=s.length) (q:=1) (d:=32) kz (e:=5) (size:=1) (bytes:=1) (j:=1) kz ai rfl (by first | omega | (simp only [List.length_append,be_length,List.length_cons,List.length_nil] at *; omega)) fun bp aD=>?_)
 refine qam (qaH aD (t:=5) (b:=aP) (o:=aQ + 1 * 1) (d:=33) kz (cs:=[.int .u8 ((s.getD 1 0).toNat:Int)]) (v:=.int .u8 ((s.getD 1 0).toNat:Int)) kz (AtF.move ac hW.step nilM qa7).at_ fun bq aE=>?_)
 refine qaj [3,4] [] [aa,(4,.v (.int .u32 (IntKind.u32.wrap (BitVec.ofInt 32 (IntKind.u32.wrap (IntKind.u8.wrap (BitVec.ofInt 8 ((s.getD 0 0).toNat:Int) &&& BitVec.ofInt 8 127).toNat)) ||| BitVec.ofInt 32 (IntKind.u32.wrap ((IntKind.u32.wrap (IntKind.u8.wrap (BitVec.ofInt 8 ((s.getD 1 0).toNat:Int) &&& BitVec.ofInt 8 127).toNat)) * 128))).toNat))),(35,.v (.bool ((IntKind.u8.wrap (BitVec.ofInt 8 ((s.getD 1 0).toNat:Int) &&& BitVec.ofInt 8 128).toNat) == 0)))] hW aE fun bt aj=>?_
 refine qae (qaa ?_)
 refine qau aj (b:=(IntKind.u8.wrap (BitVec.ofInt 8 ((s.getD 1 0).toNat:Int) &&& BitVec.ofInt 8 128).toNat) == 0) kz ((qdi _ (qb5 s 1)).trans (decide_eq_false (by have:=h1; unfold oc at this; omega))) ?_
 refine qat [aa,(4,.v (.int .u32 (IntKind.u32.wrap (BitVec.ofInt 32 (IntKind.u32.wrap (IntKind.u8.wrap (BitVec.ofInt 8 ((s.getD 0 0).toNat:Int) &&& BitVec.ofInt 8 127).toNat)) ||| BitVec.ofInt 32 (IntKind.u32.wrap ((IntKind.u32.wrap (IntKind.u8.wrap (BitVec.ofInt 8 ((s.getD 1 0).toNat:Int) &&& BitVec.ofInt 8 127).toNat)) * 128))).toNat))),(39,.v (.bool (decide (((s.length:Nat):Int) < 3))))] hW aj fun bu ak=>?_
 refine qau ak (b:=decide (((s.length:Nat):Int) < 3)) kz (decide_eq_false (by omega)) ?_
 refine wp_skip (qaa (qad [0,1,2,3,4,5,6,7,8] kz ?_))
 refine qaj [0,1] [2,3,4,5,6,7,8] [aa,(40,.v (.int .u32 (IntKind.u32.wrap (BitVec.ofInt 32 (IntKind.u32.wrap (IntKind.u8.wrap (BitVec.ofInt 8 ((s.getD 0 0).toNat:Int) &&& BitVec.ofInt 8 127).toNat)) ||| BitVec.ofInt 32 (IntKind.u32.wrap ((IntKind.u32.wrap (IntKind.u8.wrap (BitVec.ofInt 8 ((s.getD 1 0).toNat:Int) &&& BitVec.ofInt 8 127).toNat)) * 128))).toNat))),(41,.v (.slice A s.length c))] hW ak fun bw aF=>?_
 obtain ⟨aR,aS,al,aV,ae⟩:=Slots.get ho (i:=2) (by first | omega | (simp only [List.length_append,be_length,List.length_cons,List.length_nil] at *; omega))
 refine qam (qaz aF (t:=24) (A:=A) (m:=s.length) (q:=2) (d:=42) kz (e:=5) (size:=1) (bytes:=1) (j:=2) kz al rfl (by first | omega | (simp only [List.length_append,be_length,List.length_cons,List.length_nil] at *; omega)) fun bx aG=>?_)
 refine qam (qaH aG (t:=5) (b:=aR) (o:=aS + 2 * 1) (d:=43) kz (cs:=[.int .u8 ((s.getD 2 0).toNat:Int)]) (v:=.int .u8 ((s.getD 2 0).toNat:Int)) kz (AtF.move ae hW.step nilM qa7).at_ fun bz aH=>?_)
 refine qaj [4,5,6,7,8] [] [aa,(4,.v (.int .u32 (IntKind.u32.wrap (BitVec.ofInt 32 (IntKind.u32.wrap (BitVec.ofInt 32 (IntKind.u32.wrap (IntKind.u8.wrap (BitVec.ofInt 8 ((s.getD 0 0).toNat:Int) &&& BitVec.ofInt 8 127).toNat)) ||| BitVec.ofInt 32 (IntKind.u32.wrap ((IntKind.u32.wrap (IntKind.u8.wrap (BitVec.ofInt 8 ((s.getD 1 0).toNat:Int) &&& BitVec.ofInt 8 127).toNat)) * 128))).toNat) ||| BitVec.ofInt 32 (IntKind.u32.wrap ((IntKind.u32.wrap (IntKind.u8.wrap (BitVec.ofInt 8 ((s.getD 2 0).toNat:Int) &&& BitVec.ofInt 8 127).toNat)) * 16384))).toNat)))] hW aH fun bA aI=>?_
 refine qae (qaa ?_)
 refine wp_seq (qad [0,1,2,3,4] kz ?_)
 refine qaj [0] [1,2,3,4] [aa,(4,.v (.int .u32 (IntKind.u32.wrap (BitVec.ofInt 32 (IntKind.u32.wrap (BitVec.ofInt 32 (IntKind.u32.wrap (IntKind.u8.wrap (BitVec.ofInt 8 ((s.getD 0 0).toNat:Int) &&& BitVec.ofInt 8 127).toNat)) ||| BitVec.ofInt 32 (IntKind.u32.wrap ((IntKind.u32.wrap (IntKind.u8.wrap (BitVec.ofInt 8 ((s.getD 1 0).toNat:Int) &&& BitVec.ofInt 8 127).toNat)) * 128))).toNat) ||| BitVec.ofInt 32 (IntKind.u32.wrap ((IntKind.u32.wrap (IntKind.u8.wrap (BitVec.ofInt 8 ((s.getD 2 0).toNat:Int) &&& BitVec.ofInt 8 127).toNat)) * 16384))).toNat))),(48,.v (.slice A s.length c))] hW aI fun bB aJ=>?_
 refine qam (qaz aJ (t:=24) (A:=A) (m:=s.length) (q:=2) (d:=49) kz (e:=5) (size:=1) (bytes:=1) (j:=2) kz al rfl (by first | omega | (simp only [List.length_append,be_length,List.length_cons,List.length_nil] at *; omega)) fun bC aK=>?_)
 refine qam (qaH aK (t:=5) (b:=aR) (o:=aS + 2 * 1) (d:=50) kz (cs:=[.int .u8 ((s.getD 2 0).toNat:Int)]) (v:=.int .u8 ((s.getD 2 0).toNat:Int)) kz (AtF.move ae hW.step nilM qa7).at_ fun bD aL=>?_)
 refine qaj [3,4] [] [aa,(4,.v (.int .u32 (IntKind.u32.wrap (BitVec.ofInt 32 (IntKind.u32.wrap (BitVec.ofInt 32 (IntKind.u32.wrap (IntKind.u8.wrap (BitVec.ofInt 8 ((s.getD 0 0).toNat:Int) &&& BitVec.ofInt 8 127).toNat)) ||| BitVec.ofInt 32 (IntKind.u32.wrap ((IntKind.u32.wrap (IntKind.u8.wrap (BitVec.ofInt 8 ((s.getD 1 0).toNat:Int) &&& BitVec.ofInt 8 127).toNat)) * 128))).toNat) ||| BitVec.ofInt 32 (IntKind.u32.wrap ((IntKind.u32.wrap (IntKind.u8.wrap (BitVec.ofInt 8 ((s.getD 2 0).toNat:Int) &&& BitVec.ofInt 8 127).toNat)) * 16384))).toNat))),(52,.v (.bool ((IntKind.u8.wrap (BitVec.ofInt 8 ((s.getD 2 0).toNat:Int) &&& BitVec.ofInt 8 128).toNat) == 0)))] hW aL fun bE am=>?_
 refine qae (qaa ?_)
 refine qbw am (b:=(IntKind.u8.wrap (BitVec.ofInt 8 ((s.getD 2 0).toNat:Int) &&& BitVec.ofInt 8 128).toNat) == 0) kz ((qdi _ (qb5 s 2)).trans (decide_eq_true (by have:=h2; unfold oc at this; omega))) ?_
 refine qat [(2,.v (.int .u32 (IntKind.u32.wrap (BitVec.ofInt 32 (IntKind.u32.wrap (BitVec.ofInt 32 (IntKind.u32.wrap (IntKind.u8.wrap (BitVec.ofInt 8 ((s.getD 0 0).toNat:Int) &&& BitVec.ofInt 8 127).toNat)) ||| BitVec.ofInt 32 (IntKind.u32.wrap ((IntKind.u32.wrap (IntKind.u8.wrap (BitVec.ofInt 8 ((s.getD 1 0).toNat:Int) &&& BitVec.ofInt 8 127).toNat)) * 128))).toNat) ||| BitVec.ofInt 32 (IntKind.u32.wrap ((IntKind.u32.wrap (IntKind.u8.wrap (BitVec.ofInt 8 ((s.getD 2 0).toNat:Int) &&& BitVec.ofInt 8 127).toNat)) * 16384))).toNat))),(3,.v (.int .i64 3))] hW am fun bF aM=>?_
 refine wp_ret (qaE (qd9 (qaD aM hW.cells (v:=.tuple #[.int .u32 (IntKind.u32.wrap (BitVec.ofInt 32 (IntKind.u32.wrap (BitVec.ofInt 32 (IntKind.u32.wrap (IntKind.u8.wrap (BitVec.ofInt 8 ((s.getD 0 0).toNat:Int) &&& BitVec.ofInt 8 127).toNat)) ||| BitVec.ofInt 32 (IntKind.u32.wrap ((IntKind.u32.wrap (IntKind.u8.wrap (BitVec.ofInt 8 ((s.getD 1 0).toNat:Int) &&& BitVec.ofInt 8 127).toNat)) * 128))).toNat) ||| BitVec.ofInt 32 (IntKind.u32.wrap ((IntKind.u32.wrap (IntKind.u8.wrap (BitVec.ofInt 8 ((s.getD 2 0).toNat:Int) &&& BitVec.ofInt 8 127).toNat)) * 16384))).toNat),.int .i64 3]) kz ?_)))
 have e_:=uv_3 (oc s 0) (oc s 1) (oc s 2) (qb5 s 0) (qb5 s 1) (qb5 s 2)
 refine ⟨congrArg (fun z_:Int=>Ending.returned (.tuple #[.int .u32 z_,.int .i64 3])) (Eq.trans e_ ?_),hW.step⟩
 omega
theorem rUv4 {A:Option Addr} {c:Nat} (s:Bs) {w:World} {F:Nat → Nat → Prop} (ho:Octs w F A c s) (hl:4 ≤ s.length) (d0 d1 d2 d3:Nat) (h0:oc s 0 = d0 + 128) (h1:oc s 1 = d1 + 128) (h2:oc s 2 = d2 + 128) (h3:oc s 3 = d3) (g0:d0 < 128) (g1:d1 < 128) (g2:d2 < 128) (g3:d3 < 128) :
  Calls Tryz.prog 74 #[.slice A s.length c] w (qcK w (.tuple #[.int .u32 ((d0 + d1 * 128 + d2 * 16384 + d3 * 2097152:Nat):Int),.int .i64 4])):=by
 refine enter (n:=87) Tryz.func74 rfl Tryz.ntmps74 kz fun a hE=>?_
 have hW:=WOk.start w Nil
 let aa:Nat × SV:=(0,.v (.slice A s.length c))
 refine qat [aa] hW hE fun a1 hE2=>?_
 refine wp_scope_straight (qat [aa] hW hE2 fun a3 hE4=>?_)
 refine qat [aa] hW hE4 fun a5 hE6=>?_
 refine wp_seq (qat [aa,(8,.v (.bool (decide (((s.length:Nat):Int) < 1))))] hW hE6 fun a7 hE8=>?_)
 refine qau hE8 (b:=decide (((s.length:Nat):Int) < 1)) kz (decide_eq_false (by omega)) ?_
 refine wp_skip (qaa (qad [0,1,2,3,4,5] kz ?_))
 refine qaj [0] [1,2,3,4,5] [aa,(9,.v (.slice A s.length c))] hW hE8 fun a9 aw=>?_
 obtain ⟨aY,aZ,ag,bk,ab⟩:=Slots.get ho (i:=0) (by first | omega | (simp only [List.length_append,be_length,List.length_cons,List.length_nil] at *; omega))
 refine qam (qaz aw (t:=24) (A:=A) (m:=s.length) (q:=0) (d:=10) kz (e:=5) (size:=1) (bytes:=1) (j:=0) kz ag rfl (by first | omega | (simp only [List.length_append,be_length,List.length_cons,List.length_nil] at *; omega)) fun bq ax=>?_)
 refine qam (qaH ax (t:=5) (b:=aY) (o:=aZ + 0 * 1) (d:=11) kz (cs:=[.int .u8 ((s.getD 0 0).toNat:Int)]) (v:=.int .u8 ((s.getD 0 0).toNat:Int)) kz (AtF.move ab hW.step nilM qa7).at_ fun bt ay=>?_)
 refine qaj [3,4,5] [] [aa,(4,.v (.int .u32 (IntKind.u32.wrap (IntKind.u8.wrap (BitVec.ofInt 8 ((s.getD 0 0).toNat:Int) &&& BitVec.ofInt 8 127).toNat))))] hW ay fun bu az=>?_
 refine qae (qaa ?_)
 refine wp_seq (qad [0,1,2,3,4] kz ?_)
 refine qaj [0] [1,2,3,4] [aa,(4,.v (.int .u32 (IntKind.u32.wrap (IntKind.u8.wrap (BitVec.ofInt 8 ((s.getD 0 0).toNat:Int) &&& BitVec.ofInt 8 127).toNat)))),(14,.v (.slice A s.length c))] hW az fun bw aA=>?_
 refine qam (qaz aA (t:=24) (A:=A) (m:=s.length) (q:=0) (d:=15) kz (e:=5) (size:=1) (bytes:=1) (j:=0) kz ag rfl (by first | omega | (simp only [List.length_append,be_length,List.length_cons,List.length_nil] at *; omega)) fun bx aB=>?_)
 refine qam (qaH aB (t:=5) (b:=aY) (o:=aZ + 0 * 1) (d:=16) kz (cs:=[.int .u8 ((s.getD 0 0).toNat:Int)]) (v:=.int .u8 ((s.getD 0 0).toNat:Int)) kz (AtF.move ab hW.step nilM qa7).at_ fun bz aC=>?_)
 refine qaj [3,4] [] [aa,(4,.v (.int .u32 (IntKind.u32.wrap (IntKind.u8.wrap (BitVec.ofInt 8 ((s.getD 0 0).toNat:Int) &&& BitVec.ofInt 8 127).toNat)))),(18,.v (.bool ((IntKind.u8.wrap (BitVec.ofInt 8 ((s.getD 0 0).toNat:Int) &&& BitVec.ofInt 8 128).toNat) == 0)))] hW aC fun bA ah=>?_
 refine qae (qaa ?_)
 refine qau ah (b:=(IntKind.u8.wrap (BitVec.ofInt 8 ((s.getD 0 0).toNat:Int) &&& BitVec.ofInt 8 128).toNat) == 0) kz ((qdi _ (qb5 s 0)).trans (decide_eq_false (by have:=h0; unfold oc at this; omega))) ?_
 refine qat [aa,(4,.v (.int .u32 (IntKind.u32.wrap (IntKind.u8.wrap (BitVec.ofInt 8 ((s.getD 0 0).toNat:Int) &&& BitVec.ofInt 8 127).toNat)))),(22,.v (.bool (decide (((s.length:Nat):Int) < 2))))] hW ah fun bB ai=>?_
 refine qau ai (b:=decide (((s.length:Nat):Int) < 2)) kz (decide_eq_false (by omega)) ?_
 refine wp_skip (qaa (qad [0,1,2,3,4,5,6,7,8] kz ?_))
 refine qaj [0,1] [2,3,4,5,6,7,8] [aa,(23,.v (.int .u32 (IntKind.u32.wrap (IntKind.u8.wrap (BitVec.ofInt 8 ((s.getD 0 0).toNat:Int) &&& BitVec.ofInt 8 127).toNat)))),(24,.v (.slice A s.length c))] hW ai fun bC aD=>?_
 obtain ⟨ba,bd,aj,bn,ac⟩:=Slots.get ho (i:=1) (by first | omega | (simp only [List.length_append,be_length,List.length_cons,List.length_nil] at *; omega))
 refine qam (qaz aD (t:=24) (A:=A) (m:=s.length) (q:=1) (d:=25) kz (e:=5) (size:=1) (bytes:=1) (j:=1) kz aj rfl (by first | omega | (simp only [List.length_append,be_length,List.length_cons,List.length_nil] at *; omega)) fun bD aE=>?_)
 refine qam (qaH aE (t:=5) (b:=ba) (o:=bd + 1 * 1) (d:=26) kz (cs:=[.int .u8 ((s.getD 1 0).toNat:Int)]) (v:=.int .u8 ((s.getD 1 0).toNat:Int)) kz (AtF.move ac hW.step nilM qa7).at_ fun bE aF=>?_)
 refine qaj [4,5,6,7,8] [] [aa,(4,.v (.int .u32 (IntKind.u32.wrap (BitVec.ofInt 32 (IntKind.u32.wrap (IntKind.u8.wrap (BitVec.ofInt 8 ((s.getD 0 0).toNat:Int) &&& BitVec.ofInt 8 127).toNat)) ||| BitVec.ofInt 32 (IntKind.u32.wrap ((IntKind.u32.wrap (IntKind.u8.wrap (BitVec.ofInt 8 ((s.getD 1 0).toNat:Int) &&& BitVec.ofInt 8 127).toNat)) * 128))).toNat)))] hW aF fun bF aG=>?_
 refine qae (qaa ?_)
 refine wp_seq (qad [0,1,2,3,4] kz ?_)
 refine qaj [0] [1,2,3,4] [aa,(4,.v (.int .u32 (IntKind.u32.wrap (BitVec.ofInt 32 (IntKind.u32.wrap (IntKind.u8.wrap (BitVec.ofInt 8 ((s.getD 0 0).toNat:Int) &&& BitVec.ofInt 8 127).toNat)) ||| BitVec.ofInt 32 (IntKind.u32.wrap ((IntKind.u32.wrap (IntKind.u8.wrap (BitVec.ofInt 8 ((s.getD 1 0).toNat:Int) &&& BitVec.ofInt 8 127).toNat)) * 128))).toNat))),(31,.v (.slice A s.length c))] hW aG fun bG aH=>?_
 refine qam (qaz aH (t:=24) (A:=A) (m:=s.length) (q:=1) (d:=32) kz (e:=5) (size:=1) (bytes:=1) (j:=1) kz aj rfl (by first | omega | (simp only [List.length_append,be_length,List.length_cons,List.length_nil] at *; omega)) fun bH aI=>?_)
 refine qam (qaH aI (t:=5) (b:=ba) (o:=bd + 1 * 1) (d:=33) kz (cs:=[.int .u8 ((s.getD 1 0).toNat:Int)]) (v:=.int .u8 ((s.getD 1 0).toNat:Int)) kz (AtF.move ac hW.step nilM qa7).at_ fun bI aJ=>?_)
 refine qaj [3,4] [] [aa,(4,.v (.int .u32 (IntKind.u32.wrap (BitVec.ofInt 32 (IntKind.u32.wrap (IntKind.u8.wrap (BitVec.ofInt 8 ((s.getD 0 0).toNat:Int) &&& BitVec.ofInt 8 127).toNat)) ||| BitVec.ofInt 32 (IntKind.u32.wrap ((IntKind.u32.wrap (IntKind.u8.wrap (BitVec.ofInt 8 ((s.getD 1 0).toNat:Int) &&& BitVec.ofInt 8 127).toNat)) * 128))).toNat))),(35,.v (.bool ((IntKind.u8.wrap (BitVec.ofInt 8 ((s.getD 1 0).toNat:Int) &&& BitVec.ofInt 8 128).toNat) == 0)))] hW aJ fun bJ ak=>?_
 refine qae (qaa ?_)
 refine qau ak (b:=(IntKind.u8.wrap (BitVec.ofInt 8 ((s.getD 1 0).toNat:Int) &&& BitVec.ofInt 8 128).toNat) == 0) kz ((qdi _ (qb5 s 1)).trans (decide_eq_false (by have:=h1; unfold oc at this; omega))) ?_
 refine qat [aa,(4,.v (.int .u32 (IntKind.u32.wrap (BitVec.ofInt 32 (IntKind.u32.wrap (IntKind.u8.wrap (BitVec.ofInt 8 ((s.getD 0 0).toNat:Int) &&& BitVec.ofInt 8 127).toNat)) ||| BitVec.ofInt 32 (IntKind.u32.wrap ((IntKind.u32.wrap (IntKind.u8.wrap (BitVec.ofInt 8 ((s.getD 1 0).toNat:Int) &&& BitVec.ofInt 8 127).toNat)) * 128))).toNat))),(39,.v (.bool (decide (((s.length:Nat):Int) < 3))))] hW ak fun bK al=>?_
 refine qau al (b:=decide (((s.length:Nat):Int) < 3)) kz (decide_eq_false (by omega)) ?_
 refine wp_skip (qaa (qad [0,1,2,3,4,5,6,7,8] kz ?_))
 refine qaj [0,1] [2,3,4,5,6,7,8] [aa,(40,.v (.int .u32 (IntKind.u32.wrap (BitVec.ofInt 32 (IntKind.u32.wrap (IntKind.u8.wrap (BitVec.ofInt 8 ((s.getD 0 0).toNat:Int) &&& BitVec.ofInt 8 127).toNat)) ||| BitVec.ofInt 32 (IntKind.u32.wrap ((IntKind.u32.wrap (IntKind.u8.wrap (BitVec.ofInt 8 ((s.getD 1 0).toNat:Int) &&& BitVec.ofInt 8 127).toNat)) * 128))).toNat))),(41,.v (.slice A s.length c))] hW al fun bL aK=>?_
 obtain ⟨bf,bg,am,bo,ae⟩:=Slots.get ho (i:=2) (by first | omega | (simp only [List.length_append,be_length,List.length_cons,List.length_nil] at *; omega))
 refine qam (qaz aK (t:=24) (A:=A) (m:=s.length) (q:=2) (d:=42) kz (e:=5) (size:=1) (bytes:=1) (j:=2) kz am rfl (by first | omega | (simp only [List.length_append,be_length,List.length_cons,List.length_nil] at *; omega)) fun bM aL=>?_)
 refine qam (qaH aL (t:=5) (b:=bf) (o:=bg + 2 * 1) (d:=43) kz (cs:=[.int .u8 ((s.getD 2 0).toNat:Int)]) (v:=.int .u8 ((s.getD 2 0).toNat:Int)) kz (AtF.move ae hW.step nilM qa7).at_ fun bN aM=>?_)
 refine qaj [4,5,6,7,8] [] [aa,(4,.v (.int .u32 (IntKind.u32.wrap (BitVec.ofInt 32 (IntKind.u32.wrap (BitVec.ofInt 32 (IntKind.u32.wrap (IntKind.u8.wrap (BitVec.ofInt 8 ((s.getD 0 0).toNat:Int) &&& BitVec.ofInt 8 127).toNat)) ||| BitVec.ofInt 32 (IntKind.u32.wrap ((IntKind.u32.wrap (IntKind.u8.wrap (BitVec.ofInt 8 ((s.getD 1 0).toNat:Int) &&& BitVec.ofInt 8 127).toNat)) * 128))).toNat) ||| BitVec.ofInt 32 (IntKind.u32.wrap ((IntKind.u32.wrap (IntKind.u8.wrap (BitVec.ofInt 8 ((s.getD 2 0).toNat:Int) &&& BitVec.ofInt 8 127).toNat)) * 16384))).toNat)))] hW aM fun bO aN=>?_
 refine qae (qaa ?_)
 refine wp_seq (qad [0,1,2,3,4] kz ?_)
 refine qaj [0] [1,2,3,4] [aa,(4,.v (.int .u32 (IntKind.u32.wrap (BitVec.ofInt 32 (IntKind.u32.wrap (BitVec.ofInt 32 (IntKind.u32.wrap (IntKind.u8.wrap (BitVec.ofInt 8 ((s.getD 0 0).toNat:Int) &&& BitVec.ofInt 8 127).toNat)) ||| BitVec.ofInt 32 (IntKind.u32.wrap ((IntKind.u32.wrap (IntKind.u8.wrap (BitVec.ofInt 8 ((s.getD 1 0).toNat:Int) &&& BitVec.ofInt 8 127).toNat)) * 128))).toNat) ||| BitVec.ofInt 32 (IntKind.u32.wrap ((IntKind.u32.wrap (IntKind.u8.wrap (BitVec.ofInt 8 ((s.getD 2 0).toNat:Int) &&& BitVec.ofInt 8 127).toNat)) * 16384))).toNat))),(48,.v (.slice A s.length c))] hW aN fun bP aO=>?_
 refine qam (qaz aO (t:=24) (A:=A) (m:=s.length) (q:=2) (d:=49) kz (e:=5) (size:=1) (bytes:=1) (j:=2) kz am rfl (by first | omega | (simp only [List.length_append,be_length,List.length_cons,List.length_nil] at *; omega)) fun bQ aP=>?_)
 refine qam (qaH aP (t:=5) (b:=bf) (o:=bg + 2 * 1) (d:=50) kz (cs:=[.int .u8 ((s.getD 2 0).toNat:Int)]) (v:=.int .u8 ((s.getD 2 0).toNat:Int)) kz (AtF.move ae hW.step nilM qa7).at_ fun bR aQ=>?_)
 refine qaj [3,4] [] [aa,(4,.v (.int .u32 (IntKind.u32.wrap (BitVec.ofInt 32 (IntKind.u32.wrap (BitVec.ofInt 32 (IntKind.u32.wrap (IntKind.u8.wrap (BitVec.ofInt 8 ((s.getD 0 0).toNat:Int) &&& BitVec.ofInt 8 127).toNat)) ||| BitVec.ofInt 32 (IntKind.u32.wrap ((IntKind.u32.wrap (IntKind.u8.wrap (BitVec.ofInt 8 ((s.getD 1 0).toNat:Int) &&& BitVec.ofInt 8 127).toNat)) * 128))).toNat) ||| BitVec.ofInt 32 (IntKind.u32.wrap ((IntKind.u32.wrap (IntKind.u8.wrap (BitVec.ofInt 8 ((s.getD 2 0).toNat:Int) &&& BitVec.ofInt 8 127).toNat)) * 16384))).toNat))),(52,.v (.bool ((IntKind.u8.wrap (BitVec.ofInt 8 ((s.getD 2 0).toNat:Int) &&& BitVec.ofInt 8 128).toNat) == 0)))] hW aQ fun bS ao=>?_
 refine qae (qaa ?_)
 refine qau ao (b:=(IntKind.u8.wrap (BitVec.ofInt 8 ((s.getD 2 0).toNat:Int) &&& BitVec.ofInt 8 128).toNat) == 0) kz ((qdi _ (qb5 s 2)).trans (decide_eq_false (by have:=h2; unfold oc at this; omega))) ?_
 refine qat [aa,(4,.v (.int .u32 (IntKind.u32.wrap (BitVec.ofInt 32 (IntKind.u32.wrap (BitVec.ofInt 32 (IntKind.u32.wrap (IntKind.u8.wrap (BitVec.ofInt 8 ((s.getD 0 0).toNat:Int) &&& BitVec.ofInt 8 127).toNat)) ||| BitVec.ofInt 32 (IntKind.u32.wrap ((IntKind.u32.wrap (IntKind.u8.wrap (BitVec.ofInt 8 ((s.getD 1 0).toNat:Int) &&& BitVec.ofInt 8 127).toNat)) * 128))).toNat) ||| BitVec.ofInt 32 (IntKind.u32.wrap ((IntKind.u32.wrap (IntKind.u8.wrap (BitVec.ofInt 8 ((s.getD 2 0).toNat:Int) &&& BitVec.ofInt 8 127).toNat)) * 16384))).toNat))),(56,.v (.bool (decide (((s.length:Nat):Int) < 4))))] hW ao fun bT ap=>?_
 refine qau ap (b:=decide (((s.length:Nat):Int) < 4)) kz (decide_eq_false (by omega)) ?_
 refine wp_skip (qaa (qad [0,1,2,3,4,5,6,7,8] kz ?_))
 refine qaj [0,1] [2,3,4,5,6,7,8] [aa,(57,.v (.int .u32 (IntKind.u32.wrap (BitVec.ofInt 32 (IntKind.u32.wrap (BitVec.ofInt 32 (IntKind.u32.wrap (IntKind.u8.wrap (BitVec.ofInt 8 ((s.getD 0 0).toNat:Int) &&& BitVec.ofInt 8 127).toNat)) ||| BitVec.ofInt 32 (IntKind.u32.wrap ((IntKind.u32.wrap (IntKind.u8.wrap (BitVec.ofInt 8 ((s.getD 1 0).toNat:Int) &&& BitVec.ofInt 8 127).toNat)) * 128))).toNat) ||| BitVec.ofInt 32 (IntKind.u32.wrap ((IntKind.u32.wrap (IntKind.u8.wrap (BitVec.ofInt 8 ((s.getD 2 0).toNat:Int) &&& BitVec.ofInt 8 127).toNat)) * 16384))).toNat))),(58,.v (.slice A s.length c))] hW ap fun bU aR=>?_
 obtain ⟨bh,bj,ar,bp,af⟩:=Slots.get ho (i:=3) (by first | omega | (simp only [List.length_append,be_length,List.length_cons,List.length_nil] at *; omega))
 refine qam (qaz aR (t:=24) (A:=A) (m:=s.length) (q:=3) (d:=59) kz (e:=5) (size:=1) (bytes:=1) (j:=3) kz ar rfl (by first | omega | (simp only [List.length_append,be_length,List.length_cons,List.length_nil] at *; omega)) fun bV aS=>?_)
 refine qam (qaH aS (t:=5) (b:=bh) (o:=bj + 3 * 1) (d:=60) kz (cs:=[.int .u8 ((s.getD 3 0).toNat:Int)]) (v:=.int .u8 ((s.getD 3 0).toNat:Int)) kz (AtF.move af hW.step nilM qa7).at_ fun bW aT=>?_)
 refine qaj [4,5,6,7,8] [] [aa,(4,.v (.int .u32 (IntKind.u32.wrap (BitVec.ofInt 32 (IntKind.u32.wrap (BitVec.ofInt 32 (IntKind.u32.wrap (BitVec.ofInt 32 (IntKind.u32.wrap (IntKind.u8.wrap (BitVec.ofInt 8 ((s.getD 0 0).toNat:Int) &&& BitVec.ofInt 8 127).toNat)) ||| BitVec.ofInt 32 (IntKind.u32.wrap ((IntKind.u32.wrap (IntKind.u8.wrap (BitVec.ofInt 8 ((s.getD 1 0).toNat:Int) &&& BitVec.ofInt 8 127).toNat)) * 128))).toNat) ||| BitVec.ofInt 32 (IntKind.u32.wrap ((IntKind.u32.wrap (IntKind.u8.wrap (BitVec.ofInt 8 ((s.getD 2 0).toNat:Int) &&& BitVec.ofInt 8 127).toNat)) * 16384))).toNat) ||| BitVec.ofInt 32 (IntKind.u32.wrap ((IntKind.u32.wrap (IntKind.u8.wrap (BitVec.ofInt 8 ((s.getD 3 0).toNat:Int) &&& BitVec.ofInt 8 127).toNat)) * 2097152))).toNat)))] hW aT fun bX aU=>?_
 refine qae (qaa ?_)
 refine wp_seq (qad [0,1,2,3,4] kz ?_)
 refine qaj [0] [1,2,3,4] [aa,(4,.v (.int .u32 (IntKind.u32.wrap (BitVec.ofInt 32 (IntKind.u32.wrap (BitVec.ofInt 32 (IntKind.u32.wrap (BitVec.ofInt 32 (IntKind.u32.wrap (IntKind.u8.wrap (BitVec.ofInt 8 ((s.getD 0 0).toNat:Int) &&& BitVec.ofInt 8 127).toNat)) ||| BitVec.ofInt 32 (IntKind.u32.wrap ((IntKind.u32.wrap (IntKind.u8.wrap (BitVec.ofInt 8 ((s.getD 1 0).toNat:Int) &&& BitVec.ofInt 8 127).toNat)) * 128))).toNat) ||| BitVec.ofInt 32 (IntKind.u32.wrap ((IntKind.u32.wrap (IntKind.u8.wrap (BitVec.ofInt 8 ((s.getD 2 0).toNat:Int) &&& BitVec.ofInt 8 127).toNat)) * 16384))).toNat) ||| BitVec.ofInt 32 (IntKind.u32.wrap ((IntKind.u32.wrap (IntKind.u8.wrap (BitVec.ofInt 8 ((s.getD 3 0).toNat:Int) &&& BitVec.ofInt 8 127).toNat)) * 2097152))).toNat))),(65,.v (.slice A s.length c))] hW aU fun bY aV=>?_
 refine qam (qaz aV (t:=24) (A:=A) (m:=s.length) (q:=3) (d:=66) kz (e:=5) (size:=1) (bytes:=1) (j:=3) kz ar rfl (by first | omega | (simp only [List.length_append,be_length,List.length_cons,List.length_nil] at *; omega)) fun bZ aW=>?_)
 refine qam (qaH aW (t:=5) (b:=bh) (o:=bj + 3 * 1) (d:=67) kz (cs:=[.int .u8 ((s.getD 3 0).toNat:Int)]) (v:=.int .u8 ((s.getD 3 0).toNat:Int)) kz (AtF.move af hW.step nilM qa7).at_ fun b8 aX=>?_)
 refine qaj [3,4] [] [aa,(4,.v (.int .u32 (IntKind.u32.wrap (BitVec.ofInt 32 (IntKind.u32.wrap (BitVec.ofInt 32 (IntKind.u32.wrap (BitVec.ofInt 32 (IntKind.u32.wrap (IntKind.u8.wrap (BitVec.ofInt 8 ((s.getD 0 0).toNat:Int) &&& BitVec.ofInt 8 127).toNat)) ||| BitVec.ofInt 32 (IntKind.u32.wrap ((IntKind.u32.wrap (IntKind.u8.wrap (BitVec.ofInt 8 ((s.getD 1 0).toNat:Int) &&& BitVec.ofInt 8 127).toNat)) * 128))).toNat) ||| BitVec.ofInt 32 (IntKind.u32.wrap ((IntKind.u32.wrap (IntKind.u8.wrap (BitVec.ofInt 8 ((s.getD 2 0).toNat:Int) &&& BitVec.ofInt 8 127).toNat)) * 16384))).toNat) ||| BitVec.ofInt 32 (IntKind.u32.wrap ((IntKind.u32.wrap (IntKind.u8.wrap (BitVec.ofInt 8 ((s.getD 3 0).toNat:Int) &&& BitVec.ofInt 8 127).toNat)) * 2097152))).toNat))),(69,.v (.bool ((IntKind.u8.wrap (BitVec.ofInt 8 ((s.getD 3 0).toNat:Int) &&& BitVec.ofInt 8 128).toNat) == 0)))] hW aX fun cd au=>?_
 refine qae (qaa ?_)
 refine qbw au (b:=(IntKind.u8.wrap (BitVec.ofInt 8 ((s.getD 3 0).toNat:Int) &&& BitVec.ofInt 8 128).toNat) == 0) kz ((qdi _ (qb5 s 3)).trans (decide_eq_true (by have:=h3; unfold oc at this; omega))) ?_
 refine qat [(2,.v (.int .u32 (IntKind.u32.wrap (BitVec.ofInt 32 (IntKind.u32.wrap (BitVec.ofInt 32 (IntKind.u32.wrap (BitVec.ofInt 32 (IntKind.u32.wrap (IntKind.u8.wrap (BitVec.ofInt 8 ((s.getD 0 0).toNat:Int) &&& BitVec.ofInt 8 127).toNat)) ||| BitVec.ofInt 32 (IntKind.u32.wrap ((IntKind.u32.wrap (IntKind.u8.wrap (BitVec.ofInt 8 ((s.getD 1 0).toNat:Int) &&& BitVec.ofInt 8 127).toNat)) * 128))).toNat) ||| BitVec.ofInt 32 (IntKind.u32.wrap ((IntKind.u32.wrap (IntKind.u8.wrap (BitVec.ofInt 8 ((s.getD 2 0).toNat:Int) &&& BitVec.ofInt 8 127).toNat)) * 16384))).toNat) ||| BitVec.ofInt 32 (IntKind.u32.wrap ((IntKind.u32.wrap (IntKind.u8.wrap (BitVec.ofInt 8 ((s.getD 3 0).toNat:Int) &&& BitVec.ofInt 8 127).toNat)) * 2097152))).toNat))),(3,.v (.int .i64 4))] hW au fun ce av=>?_
 refine wp_ret (qaE (qd9 (qaD av hW.cells (v:=.tuple #[.int .u32 (IntKind.u32.wrap (BitVec.ofInt 32 (IntKind.u32.wrap (BitVec.ofInt 32 (IntKind.u32.wrap (BitVec.ofInt 32 (IntKind.u32.wrap (IntKind.u8.wrap (BitVec.ofInt 8 ((s.getD 0 0).toNat:Int) &&& BitVec.ofInt 8 127).toNat)) ||| BitVec.ofInt 32 (IntKind.u32.wrap ((IntKind.u32.wrap (IntKind.u8.wrap (BitVec.ofInt 8 ((s.getD 1 0).toNat:Int) &&& BitVec.ofInt 8 127).toNat)) * 128))).toNat) ||| BitVec.ofInt 32 (IntKind.u32.wrap ((IntKind.u32.wrap (IntKind.u8.wrap (BitVec.ofInt 8 ((s.getD 2 0).toNat:Int) &&& BitVec.ofInt 8 127).toNat)) * 16384))).toNat) ||| BitVec.ofInt 32 (IntKind.u32.wrap ((IntKind.u32.wrap (IntKind.u8.wrap (BitVec.ofInt 8 ((s.getD 3 0).toNat:Int) &&& BitVec.ofInt 8 127).toNat)) * 2097152))).toNat),.int .i64 4]) kz ?_)))
 have e_:=uv_4 (oc s 0) (oc s 1) (oc s 2) (oc s 3) (qb5 s 0) (qb5 s 1) (qb5 s 2) (qb5 s 3)
 refine ⟨congrArg (fun z_:Int=>Ending.returned (.tuple #[.int .u32 z_,.int .i64 4])) (Eq.trans e_ ?_),hW.step⟩
 omega
theorem rUv5 {A:Option Addr} {c:Nat} (s:Bs) {w:World} {F:Nat → Nat → Prop} (ho:Octs w F A c s) (hl:5 ≤ s.length) (d0 d1 d2 d3 d4:Nat) (h0:oc s 0 = d0 + 128) (h1:oc s 1 = d1 + 128) (h2:oc s 2 = d2 + 128) (h3:oc s 3 = d3 + 128) (h4:oc s 4 = d4) (g0:d0 < 128) (g1:d1 < 128) (g2:d2 < 128) (g3:d3 < 128) (g4:d4 < 16) :
  Calls Tryz.prog 74 #[.slice A s.length c] w (qcK w (.tuple #[.int .u32 ((d0 + d1 * 128 + d2 * 16384 + d3 * 2097152 + d4 * 268435456:Nat):Int),.int .i64 5])):=by
 refine enter (n:=87) Tryz.func74 rfl Tryz.ntmps74 kz fun a hE=>?_
 have hW:=WOk.start w Nil
 let aa:Nat × SV:=(0,.v (.slice A s.length c))
 refine qat [aa] hW hE fun a1 hE2=>?_
 refine wp_scope_straight (qat [aa] hW hE2 fun a3 hE4=>?_)
 refine qat [aa] hW hE4 fun a5 hE6=>?_
 refine wp_seq (qat [aa,(8,.v (.bool (decide (((s.length:Nat):Int) < 1))))] hW hE6 fun a7 hE8=>?_)
 refine qau hE8 (b:=decide (((s.length:Nat):Int) < 1)) kz (decide_eq_false (by omega)) ?_
 refine wp_skip (qaa (qad [0,1,2,3,4,5] kz ?_))
 refine qaj [0] [1,2,3,4,5] [aa,(9,.v (.slice A s.length c))] hW hE8 fun a9 aJ=>?_
 obtain ⟨bt,bu,ak,bE,ac⟩:=Slots.get ho (i:=0) (by first | omega | (simp only [List.length_append,be_length,List.length_cons,List.length_nil] at *; omega))
 refine qam (qaz aJ (t:=24) (A:=A) (m:=s.length) (q:=0) (d:=10) kz (e:=5) (size:=1) (bytes:=1) (j:=0) kz ak rfl (by first | omega | (simp only [List.length_append,be_length,List.length_cons,List.length_nil] at *; omega)) fun bR aK=>?_)
 refine qam (qaH aK (t:=5) (b:=bt) (o:=bu + 0 * 1) (d:=11) kz (cs:=[.int .u8 ((s.getD 0 0).toNat:Int)]) (v:=.int .u8 ((s.getD 0 0).toNat:Int)) kz (AtF.move ac hW.step nilM qa7).at_ fun bS aL=>?_)
 refine qaj [3,4,5] [] [aa,(4,.v (.int .u32 (IntKind.u32.wrap (IntKind.u8.wrap (BitVec.ofInt 8 ((s.getD 0 0).toNat:Int) &&& BitVec.ofInt 8 127).toNat))))] hW aL fun bT aM=>?_
 refine qae (qaa ?_)
 refine wp_seq (qad [0,1,2,3,4] kz ?_)
 refine qaj [0] [1,2,3,4] [aa,(4,.v (.int .u32 (IntKind.u32.wrap (IntKind.u8.wrap (BitVec.ofInt 8 ((s.getD 0 0).toNat:Int) &&& BitVec.ofInt 8 127).toNat)))),(14,.v (.slice A s.length c))] hW aM fun bU aN=>?_
 refine qam (qaz aN (t:=24) (A:=A) (m:=s.length) (q:=0) (d:=15) kz (e:=5) (size:=1) (bytes:=1) (j:=0) kz ak rfl (by first | omega | (simp only [List.length_append,be_length,List.length_cons,List.length_nil] at *; omega)) fun bV aO=>?_)
 refine qam (qaH aO (t:=5) (b:=bt) (o:=bu + 0 * 1) (d:=16) kz (cs:=[.int .u8 ((s.getD 0 0).toNat:Int)]) (v:=.int .u8 ((s.getD 0 0).toNat:Int)) kz (AtF.move ac hW.step nilM qa7).at_ fun bW aP=>?_)
 refine qaj [3,4] [] [aa,(4,.v (.int .u32 (IntKind.u32.wrap (IntKind.u8.wrap (BitVec.ofInt 8 ((s.getD 0 0).toNat:Int) &&& BitVec.ofInt 8 127).toNat)))),(18,.v (.bool ((IntKind.u8.wrap (BitVec.ofInt 8 ((s.getD 0 0).toNat:Int) &&& BitVec.ofInt 8 128).toNat) == 0)))] hW aP fun bX al=>?_
 refine qae (qaa ?_)
 refine qau al (b:=(IntKind.u8.wrap (BitVec.ofInt 8 ((s.getD 0 0).toNat:Int) &&& BitVec.ofInt 8 128).toNat) == 0) kz ((qdi _ (qb5 s 0)).trans (decide_eq_false (by have:=h0; unfold oc at this; omega))) ?_
 refine qat [aa,(4,.v (.int .u32 (IntKind.u32.wrap (IntKind.u8.wrap (BitVec.ofInt 8 ((s.getD 0 0).toNat:Int) &&& BitVec.ofInt 8 127).toNat)))),(22,.v (.bool (decide (((s.length:Nat):Int) < 2))))] hW al fun bY am=>?_
 refine qau am (b:=decide (((s.length:Nat):Int) < 2)) kz (decide_eq_false (by omega)) ?_
 refine wp_skip (qaa (qad [0,1,2,3,4,5,6,7,8] kz ?_))
 refine qaj [0,1] [2,3,4,5,6,7,8] [aa,(23,.v (.int .u32 (IntKind.u32.wrap (IntKind.u8.wrap (BitVec.ofInt 8 ((s.getD 0 0).toNat:Int) &&& BitVec.ofInt 8 127).toNat)))),(24,.v (.slice A s.length c))] hW am fun bZ aQ=>?_
 obtain ⟨bw,bx,ao,bF,ae⟩:=Slots.get ho (i:=1) (by first | omega | (simp only [List.length_append,be_length,List.length_cons,List.length_nil] at *; omega))
 refine qam (qaz aQ (t:=24) (A:=A) (m:=s.length) (q:=1) (d:=25) kz (e:=5) (size:=1) (bytes:=1) (j:=1) kz ao rfl (by first | omega | (simp only [List.length_append,be_length,List.length_cons,List.length_nil] at *; omega)) fun b8 aR=>?_)
 refine qam (qaH aR (t:=5) (b:=bw) (o:=bx + 1 * 1) (d:=26) kz (cs:=[.int .u8 ((s.getD 1 0).toNat:Int)]) (v:=.int .u8 ((s.getD 1 0).toNat:Int)) kz (AtF.move ae hW.step nilM qa7).at_ fun cd aS=>?_)
 refine qaj [4,5,6,7,8] [] [aa,(4,.v (.int .u32 (IntKind.u32.wrap (BitVec.ofInt 32 (IntKind.u32.wrap (IntKind.u8.wrap (BitVec.ofInt 8 ((s.getD 0 0).toNat:Int) &&& BitVec.ofInt 8 127).toNat)) ||| BitVec.ofInt 32 (IntKind.u32.wrap ((IntKind.u32.wrap (IntKind.u8.wrap (BitVec.ofInt 8 ((s.getD 1 0).toNat:Int) &&& BitVec.ofInt 8 127).toNat)) * 128))).toNat)))] hW aS fun ce aT=>?_
 refine qae (qaa ?_)
 refine wp_seq (qad [0,1,2,3,4] kz ?_)
 refine qaj [0] [1,2,3,4] [aa,(4,.v (.int .u32 (IntKind.u32.wrap (BitVec.ofInt 32 (IntKind.u32.wrap (IntKind.u8.wrap (BitVec.ofInt 8 ((s.getD 0 0).toNat:Int) &&& BitVec.ofInt 8 127).toNat)) ||| BitVec.ofInt 32 (IntKind.u32.wrap ((IntKind.u32.wrap (IntKind.u8.wrap (BitVec.ofInt 8 ((s.getD 1 0).toNat:Int) &&& BitVec.ofInt 8 127).toNat)) * 128))).toNat))),(31,.v (.slice A s.length c))] hW aT fun cg aU=>?_
 refine qam (qaz aU (t:=24) (A:=A) (m:=s.length) (q:=1) (d:=32) kz (e:=5) (size:=1) (bytes:=1) (j:=1) kz ao rfl (by first | omega | (simp only [List.length_append,be_length,List.length_cons,List.length_nil] at *; omega)) fun cm aV=>?_)
 refine qam (qaH aV (t:=5) (b:=bw) (o:=bx + 1 * 1) (d:=33) kz (cs:=[.int .u8 ((s.getD 1 0).toNat:Int)]) (v:=.int .u8 ((s.getD 1 0).toNat:Int)) kz (AtF.move ae hW.step nilM qa7).at_ fun cq aW=>?_)
 refine qaj [3,4] [] [aa,(4,.v (.int .u32 (IntKind.u32.wrap (BitVec.ofInt 32 (IntKind.u32.wrap (IntKind.u8.wrap (BitVec.ofInt 8 ((s.getD 0 0).toNat:Int) &&& BitVec.ofInt 8 127).toNat)) ||| BitVec.ofInt 32 (IntKind.u32.wrap ((IntKind.u32.wrap (IntKind.u8.wrap (BitVec.ofInt 8 ((s.getD 1 0).toNat:Int) &&& BitVec.ofInt 8 127).toNat)) * 128))).toNat))),(35,.v (.bool ((IntKind.u8.wrap (BitVec.ofInt 8 ((s.getD 1 0).toNat:Int) &&& BitVec.ofInt 8 128).toNat) == 0)))] hW aW fun cr ap=>?_
 refine qae (qaa ?_)
 refine qau ap (b:=(IntKind.u8.wrap (BitVec.ofInt 8 ((s.getD 1 0).toNat:Int) &&& BitVec.ofInt 8 128).toNat) == 0) kz ((qdi _ (qb5 s 1)).trans (decide_eq_false (by have:=h1; unfold oc at this; omega))) ?_
 refine qat [aa,(4,.v (.int .u32 (IntKind.u32.wrap (BitVec.ofInt 32 (IntKind.u32.wrap (IntKind.u8.wrap (BitVec.ofInt 8 ((s.getD 0 0).toNat:Int) &&& BitVec.ofInt 8 127).toNat)) ||| BitVec.ofInt 32 (IntKind.u32.wrap ((IntKind.u32.wrap (IntKind.u8.wrap (BitVec.ofInt 8 ((s.getD 1 0).toNat:Int) &&& BitVec.ofInt 8 127).toNat)) * 128))).toNat))),(39,.v (.bool (decide (((s.length:Nat):Int) < 3))))] hW ap fun cu ar=>?_
 refine qau ar (b:=decide (((s.length:Nat):Int) < 3)) kz (decide_eq_false (by omega)) ?_
 refine wp_skip (qaa (qad [0,1,2,3,4,5,6,7,8] kz ?_))
 refine qaj [0,1] [2,3,4,5,6,7,8] [aa,(40,.v (.int .u32 (IntKind.u32.wrap (BitVec.ofInt 32 (IntKind.u32.wrap (IntKind.u8.wrap (BitVec.ofInt 8 ((s.getD 0 0).toNat:Int) &&& BitVec.ofInt 8 127).toNat)) ||| BitVec.ofInt 32 (IntKind.u32.wrap ((IntKind.u32.wrap (IntKind.u8.wrap (BitVec.ofInt 8 ((s.getD 1 0).toNat:Int) &&& BitVec.ofInt 8 127).toNat)) * 128))).toNat))),(41,.v (.slice A s.length c))] hW ar fun cv aX=>?_
 obtain ⟨bz,bA,au,bG,af⟩:=Slots.get ho (i:=2) (by first | omega | (simp only [List.length_append,be_length,List.length_cons,List.length_nil] at *; omega))
 refine qam (qaz aX (t:=24) (A:=A) (m:=s.length) (q:=2) (d:=42) kz (e:=5) (size:=1) (bytes:=1) (j:=2) kz au rfl (by first | omega | (simp only [List.length_append,be_length,List.length_cons,List.length_nil] at *; omega)) fun cw aY=>?_)
 refine qam (qaH aY (t:=5) (b:=bz) (o:=bA + 2 * 1) (d:=43) kz (cs:=[.int .u8 ((s.getD 2 0).toNat:Int)]) (v:=.int .u8 ((s.getD 2 0).toNat:Int)) kz (AtF.move af hW.step nilM qa7).at_ fun cz aZ=>?_)
 refine qaj [4,5,6,7,8] [] [aa,(4,.v (.int .u32 (IntKind.u32.wrap (BitVec.ofInt 32 (IntKind.u32.wrap (BitVec.ofInt 32 (IntKind.u32.wrap (IntKind.u8.wrap (BitVec.ofInt 8 ((s.getD 0 0).toNat:Int) &&& BitVec.ofInt 8 127).toNat)) ||| BitVec.ofInt 32 (IntKind.u32.wrap ((IntKind.u32.wrap (IntKind.u8.wrap (BitVec.ofInt 8 ((s.getD 1 0).toNat:Int) &&& BitVec.ofInt 8 127).toNat)) * 128))).toNat) ||| BitVec.ofInt 32 (IntKind.u32.wrap ((IntKind.u32.wrap (IntKind.u8.wrap (BitVec.ofInt 8 ((s.getD 2 0).toNat:Int) &&& BitVec.ofInt 8 127).toNat)) * 16384))).toNat)))] hW aZ fun cA ba=>?_
 refine qae (qaa ?_)
 refine wp_seq (qad [0,1,2,3,4] kz ?_)
 refine qaj [0] [1,2,3,4] [aa,(4,.v (.int .u32 (IntKind.u32.wrap (BitVec.ofInt 32 (IntKind.u32.wrap (BitVec.ofInt 32 (IntKind.u32.wrap (IntKind.u8.wrap (BitVec.ofInt 8 ((s.getD 0 0).toNat:Int) &&& BitVec.ofInt 8 127).toNat)) ||| BitVec.ofInt 32 (IntKind.u32.wrap ((IntKind.u32.wrap (IntKind.u8.wrap (BitVec.ofInt 8 ((s.getD 1 0).toNat:Int) &&& BitVec.ofInt 8 127).toNat)) * 128))).toNat) ||| BitVec.ofInt 32 (IntKind.u32.wrap ((IntKind.u32.wrap (IntKind.u8.wrap (BitVec.ofInt 8 ((s.getD 2 0).toNat:Int) &&& BitVec.ofInt 8 127).toNat)) * 16384))).toNat))),(48,.v (.slice A s.length c))] hW ba fun cB bd=>?_
 refine qam (qaz bd (t:=24) (A:=A) (m:=s.length) (q:=2) (d:=49) kz (e:=5) (size:=1) (bytes:=1) (j:=2) kz au rfl (by first | omega | (simp only [List.length_append,be_length,List.length_cons,List.length_nil] at *; omega)) fun cC bf=>?_)
 refine qam (qaH bf (t:=5) (b:=bz) (o:=bA + 2 * 1) (d:=50) kz (cs:=[.int .u8 ((s.getD 2 0).toNat:Int)]) (v:=.int .u8 ((s.getD 2 0).toNat:Int)) kz (AtF.move af hW.step nilM qa7).at_ fun cE bg=>?_)
 refine qaj [3,4] [] [aa,(4,.v (.int .u32 (IntKind.u32.wrap (BitVec.ofInt 32 (IntKind.u32.wrap (BitVec.ofInt 32 (IntKind.u32.wrap (IntKind.u8.wrap (BitVec.ofInt 8 ((s.getD 0 0).toNat:Int) &&& BitVec.ofInt 8 127).toNat)) ||| BitVec.ofInt 32 (IntKind.u32.wrap ((IntKind.u32.wrap (IntKind.u8.wrap (BitVec.ofInt 8 ((s.getD 1 0).toNat:Int) &&& BitVec.ofInt 8 127).toNat)) * 128))).toNat) ||| BitVec.ofInt 32 (IntKind.u32.wrap ((IntKind.u32.wrap (IntKind.u8.wrap (BitVec.ofInt 8 ((s.getD 2 0).toNat:Int) &&& BitVec.ofInt 8 127).toNat)) * 16384))).toNat))),(52,.v (.bool ((IntKind.u8.wrap (BitVec.ofInt 8 ((s.getD 2 0).toNat:Int) &&& BitVec.ofInt 8 128).toNat) == 0)))] hW bg fun cG av=>?_
 refine qae (qaa ?_)
 refine qau av (b:=(IntKind.u8.wrap (BitVec.ofInt 8 ((s.getD 2 0).toNat:Int) &&& BitVec.ofInt 8 128).toNat) == 0) kz ((qdi _ (qb5 s 2)).trans (decide_eq_false (by have:=h2; unfold oc at this; omega))) ?_
 refine qat [aa,(4,.v (.int .u32 (IntKind.u32.wrap (BitVec.ofInt 32 (IntKind.u32.wrap (BitVec.ofInt 32 (IntKind.u32.wrap (IntKind.u8.wrap (BitVec.ofInt 8 ((s.getD 0 0).toNat:Int) &&& BitVec.ofInt 8 127).toNat)) ||| BitVec.ofInt 32 (IntKind.u32.wrap ((IntKind.u32.wrap (IntKind.u8.wrap (BitVec.ofInt 8 ((s.getD 1 0).toNat:Int) &&& BitVec.ofInt 8 127).toNat)) * 128))).toNat) ||| BitVec.ofInt 32 (IntKind.u32.wrap ((IntKind.u32.wrap (IntKind.u8.wrap (BitVec.ofInt 8 ((s.getD 2 0).toNat:Int) &&& BitVec.ofInt 8 127).toNat)) * 16384))).toNat))),(56,.v (.bool (decide (((s.length:Nat):Int) < 4))))] hW av fun cH aw=>?_
 refine qau aw (b:=decide (((s.length:Nat):Int) < 4)) kz (decide_eq_false (by omega)) ?_
 refine wp_skip (qaa (qad [0,1,2,3,4,5,6,7,8] kz ?_))
 refine qaj [0,1] [2,3,4,5,6,7,8] [aa,(57,.v (.int .u32 (IntKind.u32.wrap (BitVec.ofInt 32 (IntKind.u32.wrap (BitVec.ofInt 32 (IntKind.u32.wrap (IntKind.u8.wrap (BitVec.ofInt 8 ((s.getD 0 0).toNat:Int) &&& BitVec.ofInt 8 127).toNat)) ||| BitVec.ofInt 32 (IntKind.u32.wrap ((IntKind.u32.wrap (IntKind.u8.wrap (BitVec.ofInt 8 ((s.getD 1 0).toNat:Int) &&& BitVec.ofInt 8 127).toNat)) * 128))).toNat) ||| BitVec.ofInt 32 (IntKind.u32.wrap ((IntKind.u32.wrap (IntKind.u8.wrap (BitVec.ofInt 8 ((s.getD 2 0).toNat:Int) &&& BitVec.ofInt 8 127).toNat)) * 16384))).toNat))),(58,.v (.slice A s.length c))] hW aw fun cI bh=>?_
 obtain ⟨bB,bC,ax,bH,ag⟩:=Slots.get ho (i:=3) (by first | omega | (simp only [List.length_append,be_length,List.length_cons,List.length_nil] at *; omega))
 refine qam (qaz bh (t:=24) (A:=A) (m:=s.length) (q:=3) (d:=59) kz (e:=5) (size:=1) (bytes:=1) (j:=3) kz ax rfl (by first | omega | (simp only [List.length_append,be_length,List.length_cons,List.length_nil] at *; omega)) fun cJ bj=>?_)
 refine qam (qaH bj (t:=5) (b:=bB) (o:=bC + 3 * 1) (d:=60) kz (cs:=[.int .u8 ((s.getD 3 0).toNat:Int)]) (v:=.int .u8 ((s.getD 3 0).toNat:Int)) kz (AtF.move ag hW.step nilM qa7).at_ fun cK bk=>?_)
 refine qaj [4,5,6,7,8] [] [aa,(4,.v (.int .u32 (IntKind.u32.wrap (BitVec.ofInt 32 (IntKind.u32.wrap (BitVec.ofInt 32 (IntKind.u32.wrap (BitVec.ofInt 32 (IntKind.u32.wrap (IntKind.u8.wrap (BitVec.ofInt 8 ((s.getD 0 0).toNat:Int) &&& BitVec.ofInt 8 127).toNat)) ||| BitVec.ofInt 32 (IntKind.u32.wrap ((IntKind.u32.wrap (IntKind.u8.wrap (BitVec.ofInt 8 ((s.getD 1 0).toNat:Int) &&& BitVec.ofInt 8 127).toNat)) * 128))).toNat) ||| BitVec.ofInt 32 (IntKind.u32.wrap ((IntKind.u32.wrap (IntKind.u8.wrap (BitVec.ofInt 8 ((s.getD 2 0).toNat:Int) &&& BitVec.ofInt 8 127).toNat)) * 16384))).toNat) ||| BitVec.ofInt 32 (IntKind.u32.wrap ((IntKind.u32.wrap (IntKind.u8.wrap (BitVec.ofInt 8 ((s.getD 3 0).toNat:Int) &&& BitVec.ofInt 8 127).toNat)) * 2097152))).toNat)))] hW bk fun cL bn=>?_
 refine qae (qaa ?_)
 refine wp_seq (qad [0,1,2,3,4] kz ?_)
 refine qaj [0] [1,2,3,4] [aa,(4,.v (.int .u32 (IntKind.u32.wrap (BitVec.ofInt 32 (IntKind.u32.wrap (BitVec.ofInt 32 (IntKind.u32.wrap (BitVec.ofInt 32 (IntKind.u32.wrap (IntKind.u8.wrap (BitVec.ofInt 8 ((s.getD 0 0).toNat:Int) &&& BitVec.ofInt 8 127).toNat)) ||| BitVec.ofInt 32 (IntKind.u32.wrap ((IntKind.u32.wrap (IntKind.u8.wrap (BitVec.ofInt 8 ((s.getD 1 0).toNat:Int) &&& BitVec.ofInt 8 127).toNat)) * 128))).toNat) ||| BitVec.ofInt 32 (IntKind.u32.wrap ((IntKind.u32.wrap (IntKind.u8.wrap (BitVec.ofInt 8 ((s.getD 2 0).toNat:Int) &&& BitVec.ofInt 8 127).toNat)) * 16384))).toNat) ||| BitVec.ofInt 32 (IntKind.u32.wrap ((IntKind.u32.wrap (IntKind.u8.wrap (BitVec.ofInt 8 ((s.getD 3 0).toNat:Int) &&& BitVec.ofInt 8 127).toNat)) * 2097152))).toNat))),(65,.v (.slice A s.length c))] hW bn fun cM bo=>?_
 refine qam (qaz bo (t:=24) (A:=A) (m:=s.length) (q:=3) (d:=66) kz (e:=5) (size:=1) (bytes:=1) (j:=3) kz ax rfl (by first | omega | (simp only [List.length_append,be_length,List.length_cons,List.length_nil] at *; omega)) fun cN bp=>?_)
 refine qam (qaH bp (t:=5) (b:=bB) (o:=bC + 3 * 1) (d:=67) kz (cs:=[.int .u8 ((s.getD 3 0).toNat:Int)]) (v:=.int .u8 ((s.getD 3 0).toNat:Int)) kz (AtF.move ag hW.step nilM qa7).at_ fun cO bq=>?_)
 refine qaj [3,4] [] [aa,(4,.v (.int .u32 (IntKind.u32.wrap (BitVec.ofInt 32 (IntKind.u32.wrap (BitVec.ofInt 32 (IntKind.u32.wrap (BitVec.ofInt 32 (IntKind.u32.wrap (IntKind.u8.wrap (BitVec.ofInt 8 ((s.getD 0 0).toNat:Int) &&& BitVec.ofInt 8 127).toNat)) ||| BitVec.ofInt 32 (IntKind.u32.wrap ((IntKind.u32.wrap (IntKind.u8.wrap (BitVec.ofInt 8 ((s.getD 1 0).toNat:Int) &&& BitVec.ofInt 8 127).toNat)) * 128))).toNat) ||| BitVec.ofInt 32 (IntKind.u32.wrap ((IntKind.u32.wrap (IntKind.u8.wrap (BitVec.ofInt 8 ((s.getD 2 0).toNat:Int) &&& BitVec.ofInt 8 127).toNat)) * 16384))).toNat) ||| BitVec.ofInt 32 (IntKind.u32.wrap ((IntKind.u32.wrap (IntKind.u8.wrap (BitVec.ofInt 8 ((s.getD 3 0).toNat:Int) &&& BitVec.ofInt 8 127).toNat)) * 2097152))).toNat))),(69,.v (.bool ((IntKind.u8.wrap (BitVec.ofInt 8 ((s.getD 3 0).toNat:Int) &&& BitVec.ofInt 8 128).toNat) == 0)))] hW bq fun cP ay=>?_
 refine qae (qaa ?_)
 refine qau ay (b:=(IntKind.u8.wrap (BitVec.ofInt 8 ((s.getD 3 0).toNat:Int) &&& BitVec.ofInt 8 128).toNat) == 0) kz ((qdi _ (qb5 s 3)).trans (decide_eq_false (by have:=h3; unfold oc at this; omega))) ?_
 refine qat [aa,(4,.v (.int .u32 (IntKind.u32.wrap (BitVec.ofInt 32 (IntKind.u32.wrap (BitVec.ofInt 32 (IntKind.u32.wrap (BitVec.ofInt 32 (IntKind.u32.wrap (IntKind.u8.wrap (BitVec.ofInt 8 ((s.getD 0 0).toNat:Int) &&& BitVec.ofInt 8 127).toNat)) ||| BitVec.ofInt 32 (IntKind.u32.wrap ((IntKind.u32.wrap (IntKind.u8.wrap (BitVec.ofInt 8 ((s.getD 1 0).toNat:Int) &&& BitVec.ofInt 8 127).toNat)) * 128))).toNat) ||| BitVec.ofInt 32 (IntKind.u32.wrap ((IntKind.u32.wrap (IntKind.u8.wrap (BitVec.ofInt 8 ((s.getD 2 0).toNat:Int) &&& BitVec.ofInt 8 127).toNat)) * 16384))).toNat) ||| BitVec.ofInt 32 (IntKind.u32.wrap ((IntKind.u32.wrap (IntKind.u8.wrap (BitVec.ofInt 8 ((s.getD 3 0).toNat:Int) &&& BitVec.ofInt 8 127).toNat)) * 2097152))).toNat))),(73,.v (.bool (decide (((s.length:Nat):Int) < 5))))] hW ay fun cQ ah=>?_
 refine qau ah (b:=decide (((s.length:Nat):Int) < 5)) kz (decide_eq_false (by omega)) ?_
 refine wp_skip (qaa (qad [0,1,2,3,4,5,6,7] kz ?_))
 refine qaj [0,1] [2,3,4,5,6,7] [aa,(74,.v (.int .u32 (IntKind.u32.wrap (BitVec.ofInt 32 (IntKind.u32.wrap (BitVec.ofInt 32 (IntKind.u32.wrap (BitVec.ofInt 32 (IntKind.u32.wrap (IntKind.u8.wrap (BitVec.ofInt 8 ((s.getD 0 0).toNat:Int) &&& BitVec.ofInt 8 127).toNat)) ||| BitVec.ofInt 32 (IntKind.u32.wrap ((IntKind.u32.wrap (IntKind.u8.wrap (BitVec.ofInt 8 ((s.getD 1 0).toNat:Int) &&& BitVec.ofInt 8 127).toNat)) * 128))).toNat) ||| BitVec.ofInt 32 (IntKind.u32.wrap ((IntKind.u32.wrap (IntKind.u8.wrap (BitVec.ofInt 8 ((s.getD 2 0).toNat:Int) &&& BitVec.ofInt 8 127).toNat)) * 16384))).toNat) ||| BitVec.ofInt 32 (IntKind.u32.wrap ((IntKind.u32.wrap (IntKind.u8.wrap (BitVec.ofInt 8 ((s.getD 3 0).toNat:Int) &&& BitVec.ofInt 8 127).toNat)) * 2097152))).toNat))),(75,.v (.slice A s.length c))] hW ah fun bI az=>?_
 obtain ⟨aA,aB,ai,bD,ab⟩:=Slots.get ho (i:=4) (by first | omega | (simp only [List.length_append,be_length,List.length_cons,List.length_nil] at *; omega))
 refine qam (qaz az (t:=24) (A:=A) (m:=s.length) (q:=4) (d:=76) kz (e:=5) (size:=1) (bytes:=1) (j:=4) kz ai rfl (by first | omega | (simp only [List.length_append,be_length,List.length_cons,List.length_nil] at *; omega)) fun bJ aC=>?_)
 refine qam (qaH aC (t:=5) (b:=aA) (o:=aB + 4 * 1) (d:=77) kz (cs:=[.int .u8 ((s.getD 4 0).toNat:Int)]) (v:=.int .u8 ((s.getD 4 0).toNat:Int)) kz (AtF.move ab hW.step nilM qa7).at_ fun bK aD=>?_)
 refine qaj [4,5,6,7] [] [aa,(4,.v (.int .u32 (IntKind.u32.wrap (BitVec.ofInt 32 (IntKind.u32.wrap (BitVec.ofInt 32 (IntKind.u32.wrap (BitVec.ofInt 32 (IntKind.u32.wrap (BitVec.ofInt 32 (IntKind.u32.wrap (IntKind.u8.wrap (BitVec.ofInt 8 ((s.getD 0 0).toNat:Int) &&& BitVec.ofInt 8 127).toNat)) ||| BitVec.ofInt 32 (IntKind.u32.wrap ((IntKind.u32.wrap (IntKind.u8.wrap (BitVec.ofInt 8 ((s.getD 1 0).toNat:Int) &&& BitVec.ofInt 8 127).toNat)) * 128))).toNat) ||| BitVec.ofInt 32 (IntKind.u32.wrap ((IntKind.u32.wrap (IntKind.u8.wrap (BitVec.ofInt 8 ((s.getD 2 0).toNat:Int) &&& BitVec.ofInt 8 127).toNat)) * 16384))).toNat) ||| BitVec.ofInt 32 (IntKind.u32.wrap ((IntKind.u32.wrap (IntKind.u8.wrap (BitVec.ofInt 8 ((s.getD 3 0).toNat:Int) &&& BitVec.ofInt 8 127).toNat)) * 2097152))).toNat) ||| BitVec.ofInt 32 (IntKind.u32.wrap ((IntKind.u32.wrap ((s.getD 4 0).toNat:Int)) * 268435456))).toNat)))] hW aD fun bL aE=>?_
 refine qae (qaa ?_)
 refine wp_seq (qad [0,1,2,3] kz ?_)
 refine qaj [0] [1,2,3] [(4,.v (.int .u32 (IntKind.u32.wrap (BitVec.ofInt 32 (IntKind.u32.wrap (BitVec.ofInt 32 (IntKind.u32.wrap (BitVec.ofInt 32 (IntKind.u32.wrap (BitVec.ofInt 32 (IntKind.u32.wrap (IntKind.u8.wrap (BitVec.ofInt 8 ((s.getD 0 0).toNat:Int) &&& BitVec.ofInt 8 127).toNat)) ||| BitVec.ofInt 32 (IntKind.u32.wrap ((IntKind.u32.wrap (IntKind.u8.wrap (BitVec.ofInt 8 ((s.getD 1 0).toNat:Int) &&& BitVec.ofInt 8 127).toNat)) * 128))).toNat) ||| BitVec.ofInt 32 (IntKind.u32.wrap ((IntKind.u32.wrap (IntKind.u8.wrap (BitVec.ofInt 8 ((s.getD 2 0).toNat:Int) &&& BitVec.ofInt 8 127).toNat)) * 16384))).toNat) ||| BitVec.ofInt 32 (IntKind.u32.wrap ((IntKind.u32.wrap (IntKind.u8.wrap (BitVec.ofInt 8 ((s.getD 3 0).toNat:Int) &&& BitVec.ofInt 8 127).toNat)) * 2097152))).toNat) ||| BitVec.ofInt 32 (IntKind.u32.wrap ((IntKind.u32.wrap ((s.getD 4 0).toNat:Int)) * 268435456))).toNat))),(81,.v (.slice A s.length c))] hW aE fun bM aF=>?_
 refine qam (qaz aF (t:=24) (A:=A) (m:=s.length) (q:=4) (d:=82) kz (e:=5) (size:=1) (bytes:=1) (j:=4) kz ai rfl (by first | omega | (simp only [List.length_append,be_length,List.length_cons,List.length_nil] at *; omega)) fun bN aG=>?_)
 refine qam (qaH aG (t:=5) (b:=aA) (o:=aB + 4 * 1) (d:=83) kz (cs:=[.int .u8 ((s.getD 4 0).toNat:Int)]) (v:=.int .u8 ((s.getD 4 0).toNat:Int)) kz (AtF.move ab hW.step nilM qa7).at_ fun bO aH=>?_)
 refine qaj [3] [] [(4,.v (.int .u32 (IntKind.u32.wrap (BitVec.ofInt 32 (IntKind.u32.wrap (BitVec.ofInt 32 (IntKind.u32.wrap (BitVec.ofInt 32 (IntKind.u32.wrap (BitVec.ofInt 32 (IntKind.u32.wrap (IntKind.u8.wrap (BitVec.ofInt 8 ((s.getD 0 0).toNat:Int) &&& BitVec.ofInt 8 127).toNat)) ||| BitVec.ofInt 32 (IntKind.u32.wrap ((IntKind.u32.wrap (IntKind.u8.wrap (BitVec.ofInt 8 ((s.getD 1 0).toNat:Int) &&& BitVec.ofInt 8 127).toNat)) * 128))).toNat) ||| BitVec.ofInt 32 (IntKind.u32.wrap ((IntKind.u32.wrap (IntKind.u8.wrap (BitVec.ofInt 8 ((s.getD 2 0).toNat:Int) &&& BitVec.ofInt 8 127).toNat)) * 16384))).toNat) ||| BitVec.ofInt 32 (IntKind.u32.wrap ((IntKind.u32.wrap (IntKind.u8.wrap (BitVec.ofInt 8 ((s.getD 3 0).toNat:Int) &&& BitVec.ofInt 8 127).toNat)) * 2097152))).toNat) ||| BitVec.ofInt 32 (IntKind.u32.wrap ((IntKind.u32.wrap ((s.getD 4 0).toNat:Int)) * 268435456))).toNat))),(84,.v (.bool (decide (((s.getD 4 0).toNat:Int) ≤ 15))))] hW aH fun bP aj=>?_
 refine qae (qaa ?_)
 refine qbw aj (b:=decide (((s.getD 4 0).toNat:Int) ≤ 15)) kz (decide_eq_true (by have:=h4; unfold oc at this; omega)) ?_
 refine qat [(2,.v (.int .u32 (IntKind.u32.wrap (BitVec.ofInt 32 (IntKind.u32.wrap (BitVec.ofInt 32 (IntKind.u32.wrap (BitVec.ofInt 32 (IntKind.u32.wrap (BitVec.ofInt 32 (IntKind.u32.wrap (IntKind.u8.wrap (BitVec.ofInt 8 ((s.getD 0 0).toNat:Int) &&& BitVec.ofInt 8 127).toNat)) ||| BitVec.ofInt 32 (IntKind.u32.wrap ((IntKind.u32.wrap (IntKind.u8.wrap (BitVec.ofInt 8 ((s.getD 1 0).toNat:Int) &&& BitVec.ofInt 8 127).toNat)) * 128))).toNat) ||| BitVec.ofInt 32 (IntKind.u32.wrap ((IntKind.u32.wrap (IntKind.u8.wrap (BitVec.ofInt 8 ((s.getD 2 0).toNat:Int) &&& BitVec.ofInt 8 127).toNat)) * 16384))).toNat) ||| BitVec.ofInt 32 (IntKind.u32.wrap ((IntKind.u32.wrap (IntKind.u8.wrap (BitVec.ofInt 8 ((s.getD 3 0).toNat:Int) &&& BitVec.ofInt 8 127).toNat)) * 2097152))).toNat) ||| BitVec.ofInt 32 (IntKind.u32.wrap ((IntKind.u32.wrap ((s.getD 4 0).toNat:Int)) * 268435456))).toNat))),(3,.v (.int .i64 5))] hW aj fun bQ aI=>?_
 refine wp_ret (qaE (qd9 (qaD aI hW.cells (v:=.tuple #[.int .u32 (IntKind.u32.wrap (BitVec.ofInt 32 (IntKind.u32.wrap (BitVec.ofInt 32 (IntKind.u32.wrap (BitVec.ofInt 32 (IntKind.u32.wrap (BitVec.ofInt 32 (IntKind.u32.wrap (IntKind.u8.wrap (BitVec.ofInt 8 ((s.getD 0 0).toNat:Int) &&& BitVec.ofInt 8 127).toNat)) ||| BitVec.ofInt 32 (IntKind.u32.wrap ((IntKind.u32.wrap (IntKind.u8.wrap (BitVec.ofInt 8 ((s.getD 1 0).toNat:Int) &&& BitVec.ofInt 8 127).toNat)) * 128))).toNat) ||| BitVec.ofInt 32 (IntKind.u32.wrap ((IntKind.u32.wrap (IntKind.u8.wrap (BitVec.ofInt 8 ((s.getD 2 0).toNat:Int) &&& BitVec.ofInt 8 127).toNat)) * 16384))).toNat) ||| BitVec.ofInt 32 (IntKind.u32.wrap ((IntKind.u32.wrap (IntKind.u8.wrap (BitVec.ofInt 8 ((s.getD 3 0).toNat:Int) &&& BitVec.ofInt 8 127).toNat)) * 2097152))).toNat) ||| BitVec.ofInt 32 (IntKind.u32.wrap ((IntKind.u32.wrap ((s.getD 4 0).toNat:Int)) * 268435456))).toNat),.int .i64 5]) kz ?_)))
 have e_:=uv_5 (oc s 0) (oc s 1) (oc s 2) (oc s 3) (oc s 4) (qb5 s 0) (qb5 s 1) (qb5 s 2) (qb5 s 3) (by omega)
 refine ⟨congrArg (fun z_:Int=>Ending.returned (.tuple #[.int .u32 z_,.int .i64 5])) (Eq.trans e_ ?_),hW.step⟩
 omega
theorem rUv (x:Nat) (hx:x < 4294967296) (rest:Bs) {A:Option Addr} {c:Nat} {w:World} {F:Nat → Nat → Prop} (ho:Octs w F A c (uv x ++ rest)) :
  Calls Tryz.prog 74 #[.slice A (uv x ++ rest).length c] w (qcK w (.tuple #[.int .u32 ((x:Nat):Int),.int .i64 (((uv x).length:Nat):Int)])):=by
 have hl:=qc9 hx
 have hL:(uv x ++ rest).length = (uv x).length + rest.length:=List.length_append
 by_cases h1:x < 128
 ·rw [if_pos h1] at hl
  have h:=rUv1 (uv x ++ rest) ho (by omega) x (by rw [qg5,if_pos h1]) h1
  rw [hl]; simpa using h
 rw [if_neg h1] at hl
 have o0:oc (uv x ++ rest) 0 = x % 128 + 128:=by rw [qg5,if_neg h1]
 have o1:oc (uv x ++ rest) 1 = oc (uv (x / 128) ++ rest) 0:=qeH (by omega) rest 0
 by_cases h2:x < 16384
 ·rw [if_pos h2] at hl
  rw [qg5,if_pos (by omega)] at o1
  have h:=rUv2 (uv x ++ rest) ho (by omega) (x % 128) (x / 128) o0 o1 (by omega) (by omega)
  rw [show x % 128 + x / 128 * 128 = x by omega] at h
  rw [hl]; exact h
 rw [if_neg h2] at hl
 have o2:oc (uv x ++ rest) 2 = oc (uv (x / 128 / 128) ++ rest) 0:=(qeH (by omega) rest 1).trans (qeH (by omega) rest 0)
 rw [qg5,if_neg (by omega)] at o1
 by_cases h3:x < 2097152
 ·rw [if_pos h3] at hl
  rw [qg5,if_pos (by omega)] at o2
  have h:=rUv3 (uv x ++ rest) ho (by omega) (x % 128) (x / 128 % 128) (x / 128 / 128) o0 o1 o2 (by omega) (by omega) (by omega)
  rw [show x % 128 + x / 128 % 128 * 128 + x / 128 / 128 * 16384 = x by omega] at h
  rw [hl]; exact h
 rw [if_neg h3] at hl
 have o3:oc (uv x ++ rest) 3 = oc (uv (x / 128 / 128 / 128) ++ rest) 0:=(qeH (by omega) rest 2).trans ((qeH (by omega) rest 1).trans (qeH (by omega) rest 0))
 rw [qg5,if_neg (by omega)] at o2
 by_cases h4:x < 268435456
 ·rw [if_pos h4] at hl
  rw [qg5,if_pos (by omega)] at o3
  have h:=rUv4 (uv x ++ rest) ho (by omega) (x % 128) (x / 128 % 128) (x / 128 / 128 % 128) (x / 128 / 128 / 128) o0 o1 o2 o3 (by omega) (by omega) (by omega) (by omega)
  rw [show x % 128 + x / 128 % 128 * 128 + x / 128 / 128 % 128 * 16384 + x / 128 / 128 / 128 * 2097152 = x by omega] at h
  rw [hl]; exact h
 rw [if_neg h4] at hl
 have o4:oc (uv x ++ rest) 4 = oc (uv (x / 128 / 128 / 128 / 128) ++ rest) 0:=(qeH (by omega) rest 3).trans ((qeH (by omega) rest 2).trans ((qeH (by omega) rest 1).trans (qeH (by omega) rest 0)))
 rw [qg5,if_neg (by omega)] at o3
 rw [qg5,if_pos (by omega)] at o4
 have h:=rUv5 (uv x ++ rest) ho (by omega) (x % 128) (x / 128 % 128) (x / 128 / 128 % 128) (x / 128 / 128 / 128 % 128) (x / 128 / 128 / 128 / 128) o0 o1 o2 o3 o4 (by omega) (by omega) (by omega) (by omega) (by omega)
 rw [show x % 128 + x / 128 % 128 * 128 + x / 128 / 128 % 128 * 16384 + x / 128 / 128 / 128 % 128 * 2097152 + x / 128 / 128 / 128 / 128 * 268435456 = x by omega] at h
 rw [hl]; exact h
theorem qcA (x:Nat) (hx:x < 4294967296) (rest:Bs)  {br:Nat} {A:Option Addr} {m c:Nat} {w:World} {F:Nat → Nat → Prop} (hst:Str w br [.slice A m c,.bool false]) (hr:RdS w F A m c (uv x ++ rest)) (hFd:∀ b o,F b o → ¬ RdM br b o) :
  Calls Tryz.prog 58 #[.pointer (some ⟨br,0,none⟩)] w (RdPost w br F rest fun v w'=>v = .int .u32 ((x:Nat):Int)):=by
 obtain ⟨hm,ho⟩:=hr
 subst hm
 have hle:=ho.le
 have hpos:=qen x
 refine enter (n:=31) Tryz.func58 rfl Tryz.ntmps58 kz fun a hE=>?_
 let ab:Value:=.slice A ((uv x ++ rest).length) c
 have hW:WOk w (RdM br) w [⟨br,0,[ab,.bool false],true⟩] []:=WOk.startStr hst
 have hE1:=(hE.grow ⟨br,0,[ab,.bool false],true⟩).recast 0 (.v (.pointer (some ⟨br,0,none⟩))) (.p 0 0) rfl rfl (Nat.le_of_ble_eq_true (n:=1) rfl)
 refine qat [(0,.p 0 0)] hW hE1 fun a1 hE2=>?_
 refine qad [0,1,2,3,4,5,6,7,8,9] kz ?_
 refine qaj [0,1,2,3] [4,5,6,7,8,9] [(0,.p 0 0),(9,.v (.slice A ((uv x ++ rest).length) c))] hW hE2 fun a3 hE4=>?_
 refine qam (qal hE4 (f:=74) (vs:=[ab]) (d:=10) kz Tryz.call74 (rUv x hx rest (ho.move hW.step (fun b_ o_ h_ _=>hFd b_ o_ h_) (hW.immM hFd))) ?_)
 rintro e_ w6 ⟨rfl,hs5⟩
 refine ⟨_,rfl,fun a7 hE8=>?_⟩
 have hW9:=hW.next_nil hs5
 have am:=hW.frN hs5
 let aa:Nat × SV:=(3,.v (.int .u32 ((x:Nat):Int)))
 let ae:Nat × SV:=(4,.v (.int .i64 (((uv x).length:Nat):Int)))
 refine qaj [5,6,7,8,9] [] [(0,.p 0 0),aa,ae] hW9 hE8 fun ap ag=>?_
 refine qae (qaa ?_)
 refine wp_seq (qat [(0,.p 0 0),aa,ae,(14,.v (.bool (decide ((((uv x).length:Nat):Int) ≤ 0))))] hW9 ag fun ar af=>?_)
 refine qau af (b:=decide ((((uv x).length:Nat):Int) ≤ 0)) kz (decide_eq_false (by omega)) ?_
 refine wp_skip (qaa (qad [0,1,2,3,4,5,6,7,8,9] kz ?_))
 refine qaj [0,1,2,3,4,5] [6,7,8,9] [aa,(21,.p 0 0),(25,.v (.slice A ((uv x ++ rest).length) c)),(26,.v (.int .i64 (((uv x).length:Nat):Int)))] hW9 af fun au ah=>?_
 refine qam (qbE ah (t:=24) (A:=A) (m:=((uv x ++ rest).length)) (cp:=c) (q:=(((uv x).length:Nat):Int)) (d:=27) (j:=((uv x).length)) kz (e:=5) (bytes:=1) kz (rfl) (by first | omega | (simp only [List.length_append,be_length,List.length_cons,List.length_nil] at *; omega)) fun av ai=>?_)
 refine qaj [7,8] [9] [aa,(27,.v (.slice (cutA A c ((uv x).length)) (((uv x ++ rest).length) - ((uv x).length)) (c - ((uv x).length)))),(29,.p 0 0)] hW9 ai fun aw aj=>?_
 refine qam (qaK hW9 aj (oi:=0) (cs:=[.slice (cutA A c ((uv x).length)) (((uv x ++ rest).length) - ((uv x).length)) (c - ((uv x).length)),.bool false]) kz fun ax ao ac ak=>?_)
 refine qae (qaa ?_)
 refine qat [(2,.v (.int .u32 ((x:Nat):Int)))] ac ak fun ay al=>?_
 refine wp_ret (qaD al ac.cells (v:=.int .u32 ((x:Nat):Int)) kz ?_)
 exact ⟨_,_,_,_,rfl,Str.of ac 0 rfl,RdS.drop (s:=uv x) ⟨rfl,ho.move ac.step (fun b_ o_ h_ _=>hFd b_ o_ h_) qa7⟩ (rfl),ac.step,rfl⟩
theorem qha (X:Bs) (rest:Bs)  {br:Nat} {A:Option Addr} {m c:Nat} {w:World} {F:Nat → Nat → Prop} (hst:Str w br [.slice A m c,.bool false]) (hr:RdS w F A m c (X ++ rest)) (hFd:∀ b o,F b o → ¬ RdM br b o) :
  Calls Tryz.prog 60 #[.pointer (some ⟨br,0,none⟩),.int .i64 ((X.length:Nat):Int)] w (RdPost w br F rest fun v w'=>∃ A2,v = .slice A2 X.length X.length ∧ Octs w' F A2 X.length X):=by
 obtain ⟨hm,ho⟩:=hr
 subst hm
 have hle:=ho.le
 refine enter (n:=40) Tryz.func60 rfl Tryz.ntmps60 kz fun a hE=>?_
 have hW:WOk w (RdM br) w [⟨br,0,[.slice A ((X ++ rest).length) c,.bool false],true⟩] []:=WOk.startStr hst
 have hE1:=(hE.grow ⟨br,0,[.slice A ((X ++ rest).length) c,.bool false],true⟩).recast 0 (.v (.pointer (some ⟨br,0,none⟩))) (.p 0 0) rfl rfl (Nat.le_of_ble_eq_true (n:=1) rfl)
 let aa:Nat × SV:=(0,.p 0 0)
 let ab:Nat × SV:=(1,.v (.int .i64 ((X.length:Nat):Int)))
 refine qat [aa,ab] hW hE1 fun a1 hE2=>?_
 refine wp_seq (qad [0,1,2,3,4,5,6,7,8,9,10] kz ?_)
 refine qaj [0,1,2,3,4,5,6,7] [8,9,10] [aa,ab,(13,.v (.bool (decide ((((X ++ rest).length:Nat):Int) < ((X.length:Nat):Int)))))] hW hE2 fun a3 hE4=>?_
 have hc5:(decide ((((X ++ rest).length:Nat):Int) < ((X.length:Nat):Int))) = false:=decide_eq_false (by first | omega | (simp only [List.length_append,be_length,List.length_cons,List.length_nil] at *; omega))
 have hE6:=hE4
 rw [hc5] at hE6
 refine qaj [8,9,10] [] [aa,ab,(16,.v (.bool (decide (((X.length:Nat):Int) < 0))))] hW hE6 fun a7 hE8=>?_
 refine qae (qaa ?_)
 refine qau hE8 (b:=decide (((X.length:Nat):Int) < 0)) kz (decide_eq_false (by first | omega | (simp only [List.length_append,be_length,List.length_cons,List.length_nil] at *; omega))) ?_
 refine wp_skip (qaa (qad [0,1,2,3,4,5,6,7] kz ?_))
 refine qaj [0,1,2,3,4,5] [6,7] [aa,ab,(26,.v (.slice A ((X ++ rest).length) c)),(27,.v (.int .i64 ((X.length:Nat):Int))),(28,.v (.int .i64 ((X.length:Nat):Int)))] hW hE8 fun a9 af=>?_
 refine qam (qku af (t:=24) (A:=A) (m:=((X ++ rest).length)) (cp:=c) (k:=.i64) (q:=((X.length:Nat):Int)) (d:=29) (j:=X.length) kz (e:=5) (bytes:=1) kz (rfl) (by first | omega | (simp only [List.length_append,be_length,List.length_cons,List.length_nil] at *; omega)) fun ap ag=>?_)
 let ae:Nat × SV:=(5,.v (.slice A X.length X.length))
 refine qaj [7] [] [aa,ab,ae] hW ag fun ar ah=>?_
 refine qae (qaa ?_)
 refine qad [0,1,2,3,4,5,6,7,8,9] kz ?_
 refine qaj [0,1,2,3,4,5] [6,7,8,9] [ae,(30,.p 0 0),(34,.v (.slice A ((X ++ rest).length) c)),(35,.v (.int .i64 ((X.length:Nat):Int)))] hW ah fun au ai=>?_
 refine qam (qbE ai (t:=24) (A:=A) (m:=((X ++ rest).length)) (cp:=c) (q:=((X.length:Nat):Int)) (d:=36) (j:=X.length) kz (e:=5) (bytes:=1) kz (rfl) (by first | omega | (simp only [List.length_append,be_length,List.length_cons,List.length_nil] at *; omega)) fun av aj=>?_)
 refine qaj [7,8] [9] [ae,(36,.v (.slice (cutA A c X.length) (((X ++ rest).length) - X.length) (c - X.length))),(38,.p 0 0)] hW aj fun aw ak=>?_
 refine qam (qaK hW ak (oi:=0) (cs:=[.slice (cutA A c X.length) (((X ++ rest).length) - X.length) (c - X.length),.bool false]) kz fun ax ao ac al=>?_)
 refine qae (qaa ?_)
 refine qat [(4,.v (.slice A X.length X.length))] ac al fun ay am=>?_
 refine wp_ret (qaD am ac.cells (v:=.slice A X.length X.length) kz ?_)
 exact ⟨_,_,_,_,rfl,Str.of ac 0 rfl,RdS.drop (s:=X) ⟨rfl,ho.move ac.step (fun b_ o_ h_ _=>hFd b_ o_ h_) qa7⟩ (rfl),ac.step,A,rfl,RdS.front (s:=X) ⟨rfl,ho.move ac.step (fun b_ o_ h_ _=>hFd b_ o_ h_) qa7⟩ rfl⟩
abbrev z5 (x0) (x1) (x2) (x3):=([⟨x0,0,[.slice x1 x2 x3,.bool false],true⟩]:Tb)
theorem qf8 {br:Nat} {A:Option Addr} {m c:Nat} {w:World} (hst:Str w br [.slice A m c,.bool false]) :
  Calls Tryz.prog 48 #[.pointer (some ⟨br,0,none⟩)] w (fun e w'=>e = .returned .nilIface ∧ w' = w):=by
 refine enter (n:=8) Tryz.func48 rfl Tryz.ntmps48 kz fun a hE=>?_
 have hW:WOk w (RdM br) w (z5 br A m c) []:=WOk.startStr hst
 have hE1:=(hE.grow ⟨br,0,[.slice A m c,.bool false],true⟩).recast 0 (.v (.pointer (some ⟨br,0,none⟩))) (.p 0 0) rfl rfl (Nat.le_of_ble_eq_true (n:=1) rfl)
 refine qat [(0,.p 0 0)] hW hE1 fun a1 hE2=>?_
 refine wp_seq (qat [(6,.v (.bool false))] hW hE2 fun a3 hE4=>?_)
 refine qau hE4 (b:=false) kz rfl ?_
 refine wp_skip (qaa (qat [(2,.v (.nilIface))] hW hE4 fun a5 hE6=>?_))
 refine wp_ret (qaD hE6 hW.cells (v:=.nilIface) kz ?_)
 exact ⟨rfl,rfl⟩
end Go.Proofs.YtoclgihkbmaolabGreatDoor.ME