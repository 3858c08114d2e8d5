/- Packed. Own work. -/
import Derived.Test.YtipblegipibplaaGreatDoorWqP4
import Derived.ScopeJumps
import Derived.ChangeKeysEq
namespace Go.Proofs.YtipblegipibplaaGreatDoor.ME
open Go
open Go.RowKit
set_option linter.unusedVariables false
set_option linter.unusedSimpArgs false
set_option maxRecDepth 20000
set_option maxHeartbeats 4000000 in
theorem Pf (v:Int) (T:Tree) (hv:IntKind.i16.wrap v = v) {A2:Option Addr} {c2:Nat} {w:World} {F:Nat → Nat → Prop} (hs_:Octs w F A2 c2 (be 2 v ++ I4 v T)) (hc:Bc T) (hkey:T.ranged) (hroom:(be 2 v ++ I4 v T).length + 16 ≤ 1099511627776) :
  Calls Tryz.prog 41 #[.slice A2 (be 2 v ++ I4 v T).length c2] w (fun e w'=>∃ D cs,e = .returned (.tuple #[.agg cs.toArray,.bool true]) ∧ TreeR w' (Fp P8 w) cs (Co (BB D) (IntKind.i64.wrap v)) ∧ Cn v D T ∧ Step w w' B5):=by
 refine enter (n:=18) Tryz.func41 rfl Tryz.ntmps41 kz fun a hE=>?_
 have hW:=WOk.start w B5
 have hsm2:=Slots.small hs_
 refine B8 [0,1] kz ?_
 let ab:Value:=.slice none 0 0
 refine B1 (D7 hW hE (d:=2) (cs:=[.int .i64 0,ab,.bool false,ab,ab]) kz fun b1 a2 w3 hb4 hz5 hF6 hW7 hE8=>?_)
 let ag:Nat × SV:=(2,.p 0 0)
 refine B3 [1] [] [(0,.v (.slice A2 ((be 2 v ++ I4 v T).length) c2)),ag] hW7 hE8 fun a9 bK=>?_
 refine B4 (A7 ?_)
 refine B8 [0,1,2] kz ?_
 refine B1 (L6 bK (f:=80) (vs:=[]) (d:=6) (n':=4) kz Tryz.call80 Tryz.func80 rfl Tryz.ntmps80 kz fun dQ bM=>?_)
 refine B8 [0] kz ?_
 let ah:Value:=.int .i16 0
 refine B1 (D7 hW7 bM (d:=0) (cs:=[ah,ab,ab]) kz fun dj dR dS dl dm dn bN bO=>?_)
 refine B4 (A7 ?_)
 refine B8 [0] kz ?_
 refine B1 (D7 bN bO (d:=1) (cs:=[ah,ab,ab]) kz fun bP dT dU dp dq dr aW bQ=>?_)
 refine B4 (A7 ?_)
 refine B8 [0] kz ?_
 refine B1 (L6 bQ (f:=114) (vs:=[.pointer (some ⟨bP,0,none⟩)]) (d:=2) (n':=2) kz Tryz.call114 Tryz.func114 rfl Tryz.ntmps114 kz fun dV bR=>?_)
 have bS:=bR.recast 0 (.v (.pointer (some ⟨bP,0,none⟩))) (.p 2 0) rfl rfl (Nat.le_of_ble_eq_true (n:=3) rfl)
 refine wp_skip (M3 bS aW.cells (v:=.tuple #[]) kz ?_)
 refine ⟨_,rfl,fun dW bT=>?_⟩
 let ac:Ob:=⟨b1,0,[.int .i64 0,ab,.bool false,ab,ab],true⟩
 let ae:Ob:=⟨dj,0,[ah,ab,ab],true⟩
 let af:Ob:=⟨bP,0,[ah,ab,ab],true⟩
 have bU:=(EnvOk.places (tb':=[ac,ae,af]) bT (show Pl [ac,ae,af] [ac,ae,af] from ⟨rfl,rfl,⟨rfl,rfl,⟨rfl,rfl,trivial⟩⟩⟩)).pk (env':=[(2,.v (.tuple #[])),(0,.p 1 0),(1,.p 2 0)])
 refine B4 (A7 ?_)
 refine B8 [0,1] kz ?_
 let df:Value:=(.agg #[.int .i16 0,.slice none 0 0,.slice none 0 0])
 refine B3 [0] [1] [(0,.p 1 0),(3,.v (.agg #[ah,ab,ab]))] aW bU fun dX bV=>?_
 refine B1 (C7 aW bV (oi:=1) (cs:=[ah,ab,ab]) kz fun dY dt aY bW=>?_)
 refine B4 (A7 ?_)
 refine wp_ret (D5 bW aY.cells (v:=.agg #[ah,ab,ab]) kz ?_)
 refine ⟨_,rfl,fun dZ bX=>?_⟩
 have bY:=(EnvOk.places (tb':=[ac,ae,af]) bX (show Pl [ac] [ac,ae,af] from ⟨rfl,rfl,trivial⟩)).pk (env':=[(6,.v (.agg #[ah,ab,ab])),(0,.v (.slice A2 ((be 2 v ++ I4 v T).length) c2)),ag])
 refine B1 (D7 aY bY (d:=4) (cs:=[ah,ab,ab]) kz fun aI d5 d6 du dv dw bZ cd=>?_)
 refine B1 (C7 bZ cd (oi:=3) (cs:=[ah,ab,ab]) kz fun d7 dx aX ce=>?_)
 refine B4 (A7 ?_)
 refine wp_seq (B8 [0,1,2,3] kz ?_)
 refine B3 [0] [1,2,3] [ag,(4,.p 3 0),(7,.v (.slice A2 ((be 2 v ++ I4 v T).length) c2))] aX ce fun d8 cg=>?_
 have ay:=aX.addNil 5 1
 have dy:=aX.frNil 5 1
 refine B1 (I7 ay cg (k:=0) (d:=8) (t:=30) (e:=5) (size:=1) (bytes:=1) (A:=none) (As:=A2) (m0:=0) (c:=0) (m:=((be 2 v ++ I4 v T).length)) (cs:=c2) (xs:=[]) (news:=bc (be 2 v ++ I4 v T)) kz kz rfl (hs_.move ay.step B0 ay.imm).src (hs_.move ay.step B0 ay.imm).cap (by first | omega | (simp only [List.length_nil]; omega) | (simp; omega)) fun aw ax d9 ea dA cm cn=>?_)
 have cq:(⟨aw,ax,5,1,0 + (be 2 v ++ I4 v T).length,[] ++ bc (be 2 v ++ I4 v T)⟩:Rw) = B6 aw ax 5 (be 2 v ++ I4 v T):=by rw [List.nil_append,Nat.zero_add]
 obtain ⟨aJ,dB⟩:=cm.rowEq 0 [B6 aw ax 5 (be 2 v ++ I4 v T)] cq
 have cr:=EnvOk.pick cn (ks:=[2,4,7,8]) (env':=[ag,(4,.p 3 0),(7,.v (.slice A2 ((be 2 v ++ I4 v T).length) c2)),(8,.v (.slice aw (0 + (be 2 v ++ I4 v T).length) ax))]) kz
 have cu:=cr.cast (env':=[ag,(4,.p 3 0),(7,.v (.slice A2 ((be 2 v ++ I4 v T).length) c2)),(8,.v (.slice aw ((be 2 v ++ I4 v T).length) ax))]) (by simp only [List.length_append,List.length_cons,List.length_nil,Nat.zero_add])
 let aA:Value:=.pointer (some ⟨aI,0,none⟩)
 refine B1 (L6 cu (f:=81) (vs:=[aA,.slice aw ((be 2 v ++ I4 v T).length) ax]) (d:=9) (n':=8) kz Tryz.call81 Tryz.func81 rfl Tryz.ntmps81 kz fun eb cw=>?_)
 have cz:=cw.recast 0 (.v (.pointer (some ⟨aI,0,none⟩))) (.p 3 0) rfl rfl (Nat.le_of_ble_eq_true (n:=4) rfl)
 refine C1 [(0,.p 3 0),(1,.v (.slice aw ((be 2 v ++ I4 v T).length) ax))] aJ cz fun ec cA=>?_
 refine B8 [0,1,2,3] kz ?_
 refine B3 [0,1] [2,3] [(5,.p 3 0),(6,.v (.slice aw ((be 2 v ++ I4 v T).length) ax))] aJ cA fun ee cB=>?_
 have cC:=aJ.giveUp (G:=P8) 0 [] (show _ = some (B6 aw ax 5 (be 2 v ++ I4 v T)) from rfl) (by omega)
 obtain ⟨aZ,dC⟩:=aJ.cutR 0 []
 refine B1 (C3 cB (f:=115) (vs:=[aA,.slice aw ((be 2 v ++ I4 v T).length) ax,.bool false]) (d:=7) kz Tryz.call115 (Np v T hv (Str.of aZ 3 rfl) cC (Cf 3 rfl) hc hkey) ?_)
 rintro e_ ef ⟨aK,rfl,cE,cG,cH,ba⟩
 let av:Ob:=⟨aI,0,[.int .i16 v,.slice ((aK.f 0).A) ((aK.f 0).l) ((aK.f 0).c),.slice ((aK.f 1).A) ((aK.f 1).o.length) ((aK.f 1).c)],true⟩
 obtain ⟨aB,dD,cI⟩:=aZ.wrote 3 [ac,ae,af,av] rfl ba cE
 have cJ:=JD _ (Step.refl _ B5) B0 cI cG
 refine ⟨_,rfl,fun eg cK=>?_⟩
 let aP:Ob:=⟨aI,0,[ah,ab,ab],true⟩
 have cL:=(EnvOk.places (tb':=[ac,ae,af,av]) cK (show Pl [ac,ae,af,aP] [ac,ae,af,av] from ⟨rfl,rfl,⟨rfl,rfl,⟨rfl,rfl,⟨rfl,rfl,trivial⟩⟩⟩⟩)).pk (env':=[(7,.v (.nilIface)),(5,.p 3 0),(6,.v (.slice aw ((be 2 v ++ I4 v T).length) ax))])
 refine B3 [3] [] [(4,.v (.nilIface))] aB cL fun eh cM=>?_
 refine B4 (A7 ?_)
 refine wp_ret (D5 cM aB.cells (v:=.nilIface) kz ?_)
 refine ⟨_,rfl,fun ei cN=>?_⟩
 have cO:=(EnvOk.places (tb':=[ac,ae,af,av]) cN (show Pl [ac,ae,af,aP] [ac,ae,af,av] from ⟨rfl,rfl,⟨rfl,rfl,⟨rfl,rfl,⟨rfl,rfl,trivial⟩⟩⟩⟩)).pk (env':=[(9,.v (.nilIface)),ag,(4,.p 3 0),(7,.v (.slice A2 ((be 2 v ++ I4 v T).length) c2)),(8,.v (.slice aw ((be 2 v ++ I4 v T).length) ax))])
 refine B3 [3] [] [ag,(4,.p 3 0),(10,.v (.bool false))] aB cO fun dE aQ=>?_
 refine B4 (A7 ?_)
 refine F6 aQ (b:=false) kz rfl ?_
 refine wp_skip (A7 (B8 [0,1,2] kz ?_))
 have bd:=aQ.recast 4 (.p 3 0) (.v (.pointer (some ⟨aI,0,none⟩))) rfl rfl trivial
 let aR:C8:=[ag,(4,.v (.pointer (some ⟨aI,0,none⟩))),(10,.v (.bool false))]
 have bf:=bd.pk (env':=aR)
 have aC:=WOk.strOut (G:=P8) [ac,ae,af] aB
 obtain ⟨bg,aD,aS⟩:=aB.cutB bf 3 [ac,ae,af] aR
 have bh:=JD _ aS.step immM aS.to' cJ
 refine B1 (C3 bg (f:=82) (vs:=[aA]) (d:=12) kz Tryz.call82 (Nv v aK aI 0 _ _ aC bh) ?_)
 rintro e_ dF ⟨dg,rfl,bi,aE⟩
 have aT:=bi.move (Step.refl _ B5) B0 (aD.laid (G:=P8) aE)
 obtain ⟨cP,aL,aM,aN,aO,cQ,cR,cS,cV,cW,cX,bj,bk,aF,bn,bp,cY,cZ⟩:=aT.open_
 rw [aF] at aT
 have da:=bn.small
 have db:=bp.small
 rw [aF]
 refine ⟨_,rfl,fun dG bq=>?_⟩
 have bt:=aD.next_nil aE
 have aU:=aD.frN aE
 refine B1 (D7 bt bq (d:=5) (cs:=[.int .i64 0,ab,.bool false,ab,ab]) kz fun dc dH dI dh di ai bu bw=>?_)
 let am:Value:=.slice cQ aL.length cR
 let ao:Value:=.bool aM
 let ap:Value:=.slice cS aN.length cV
 let ar:Value:=.slice cW aO.length cX
 refine B1 (C7 bu bw (oi:=3) (cs:=[.int .i64 cP,am,ao,ap,ar]) kz fun dJ aj aG bz=>?_)
 refine B4 (A7 ?_)
 refine B8 [0,1,2,3,4] kz ?_
 refine B3 [0] [1,2,3,4] [ag,(5,.p 3 0),(13,.v (.pointer (some ⟨aI,0,none⟩)))] aG bz fun dK bD=>?_
 refine B1 (G7 bD (t:=59) (b:=aI) (o:=0) (d:=14) kz (cs:=[.int .i16 v]) (v:=.int .i16 v) kz (At.drop (AtF.move aC ((aU.trans ai).trans aj).step immM ((aU.trans ai).trans aj).to').at_ 0 1) fun dL bE=>?_)
 refine B3 [2,3] [4] [ag,(5,.p 3 0),(15,.v (.int .i64 (IntKind.i64.wrap v))),(16,.p 3 0)] aG bE fun dM bF=>?_
 let au:Value:=.int .i64 (IntKind.i64.wrap v)
 refine B1 (C7 aG bF (oi:=3) (cs:=[au,am,ao,ap,ar]) kz fun dN ak aV bG=>?_)
 refine B4 (A7 ?_)
 refine B8 [0,1,2] kz ?_
 refine B3 [0] [1,2] [ag,(17,.v (.agg #[au,am,ao,ap,ar]))] aV bG fun dO bH=>?_
 refine B1 (C7 aV bH (oi:=0) (cs:=[au,am,ao,ap,ar]) kz fun de al aH bI=>?_)
 refine B3 [2] [] [ag,(3,.v (.bool true))] aH bI fun dP bJ=>?_
 refine B4 (A7 ?_)
 refine wp_ret (D5 bJ aH.cells (v:=.tuple #[.agg #[au,am,ao,ap,ar],.bool true]) kz ?_)
 have hN_:Co (BB aK) (IntKind.i64.wrap v) = (Tree.mk (IntKind.i64.wrap v) aL aM aN aO):=by rw [bk]; rfl
 refine ⟨aK,_,rfl,?_,cH,aH.step⟩
 rw [hN_]
 exact (show TreeR _ (D4 P8 w de [⟨b1,0,[au,am,ao,ap,ar],true⟩,ae,af,⟨dc,0,[au,am,ao,ap,ar],true⟩] []) _ (Tree.mk (IntKind.i64.wrap v) aL aM aN aO) from (TreeR.mk (n:=IntKind.i64.wrap v) (b:=aM) (s:=aL) (l:=aN) (u:=aO) bj (bn.move (((ai.trans aj).trans ak).trans al).step immM (((ai.trans aj).trans ak).trans al).to') (bp.move (((ai.trans aj).trans ak).trans al).step immM (((ai.trans aj).trans ak).trans al).to') (fun i_ x_ h_=>((cY i_ x_ h_).move (((ai.trans aj).trans ak).trans al).step immM (((ai.trans aj).trans ak).trans al).to')) (cZ.move (((ai.trans aj).trans ak).trans al).step immM (((ai.trans aj).trans ak).trans al).to'))).move (Step.refl _ B5) B0 G0
theorem Pg (v:Int) (T:Tree) (B:Bs) (hv:IntKind.i16.wrap v = v) {A2:Option Addr} {c2:Nat} {w:World} {F:Nat → Nat → Prop} (hB:(be 2 v ++ I4 v T) = B) (hs_:Octs w F A2 c2 B) (hc:Bc T) (hkey:T.ranged) (hroom:B.length + 16 ≤ 1099511627776) :
  Calls Tryz.prog 41 #[.slice A2 B.length c2] w (fun e w'=>∃ D cs,e = .returned (.tuple #[.agg cs.toArray,.bool true]) ∧ TreeR w' (Fp P8 w) cs (Co (BB D) (IntKind.i64.wrap v)) ∧ Cn v D T ∧ Step w w' B5):=by
 subst hB
 exact Pf v T hv hs_ hc hkey hroom
theorem Ds (k:Int) (hk:0 ≤ k ∧ k < 3) (D:DV) (w:World) (F:Nat → Nat → Prop) (hok:R0 w F D) (hs:V5 D) (hrg:Cq D) {A:Option Addr} {c:Nat} {B:Bs} (hB:B = H5 k D) (ho:Octs w F A c B):Calls Tryz.prog 21 #[.slice A B.length c,.agg #[.slice ((D.f 0).A) ((D.f 0).o.length) ((D.f 0).c),.slice (((D.f 1).f 0).A) (((D.f 1).f 0).l) (((D.f 1).f 0).c),.int .i32 (((D.f 1).f 1).n),.slice ((D.f 2).A) ((D.f 2).l) ((D.f 2).c),.slice ((D.f 3).A) ((D.f 3).l) ((D.f 3).c),.slice ((D.f 4).A) ((D.f 4).o.length) ((D.f 4).c)]] w (N5 w (.bool true)):=by
 refine enter (n:=90) Tryz.func21 rfl Tryz.ntmps21 kz fun a hE=>?_
 have hW:=WOk.start w B5
 have hw_:IntKind.i16.wrap k = k:=DZ hk.1 (by omega)
 have hl_:=Dl hk hs
 rw [← hB] at hl_
 unfold R0 at hok
 obtain ⟨⟨g1,g1l⟩,g2,⟨g3,g3l,g3e⟩,⟨g4,g4l,g4e⟩,⟨g5,g5l⟩,_⟩:=hok
 have g2k:=g2
 unfold V4 at g2
 obtain ⟨⟨g6,g6l,g6e⟩,g7,_⟩:=g2
 refine B8 [0,1] kz ?_
 let lc119:Value:=.slice ((D.f 0).A) ((D.f 0).o.length) ((D.f 0).c)
 let lc120:Value:=.slice (((D.f 1).f 0).A) (((D.f 1).f 0).l) (((D.f 1).f 0).c)
 let lc121:Value:=.slice ((D.f 2).A) ((D.f 2).l) ((D.f 2).c)
 let lc122:Value:=.slice ((D.f 3).A) ((D.f 3).l) ((D.f 3).c)
 let lc123:Value:=.slice ((D.f 4).A) ((D.f 4).o.length) ((D.f 4).c)
 refine B1 (J1 hW hE (d:=3) (cs:=[lc119,lc120,.int .i32 (((D.f 1).f 1).n),lc121,lc122,lc123]) kz fun b8 a9 w10 hb11 hz12 hF13 hW14 hE15=>?_)
 let le103:Nat × SV:=(3,.p 0 0)
 refine B3 [1] [] [(0,.v (.slice A B.length c)),le103] hW14 hE15 fun a16 hE17=>?_
 refine B4 (A7 ?_)
 refine B8 [0,1,2,3,4,5,6,7] kz ?_
 refine B3 [0] [1,2,3,4,5,6,7] [le103,(14,.v (.slice A B.length c))] hW14 hE17 fun a18 hE19=>?_
 refine B1 (C3 hE19 (f:=41) (vs:=[.slice A B.length c]) (d:=15) kz Tryz.call41 (Pg k _ _ hw_ ((JE hk hs).symm.trans hB.symm) (ho.move hW14.step B0 hW14.imm) (Jo _ _) (NB k D) (by omega)) ?_)
 rintro e_ w20 ⟨E21,cs22,rfl,hr23,hv24,hs25⟩
 have hr26:=hr23.move (Step.refl _ B5) B0 (fun b_ o_ h_ hb_=>hW14.laid (G:=F) hs25 b_ o_ (.inr (h_.resolve_left id)) hb_)
 have hX_:AsgOK D (Co (BB E21) (IntKind.i64.wrap k)):=NA (Nw hs hrg hv24)
 obtain ⟨X_,hXe_⟩:∃ X,X = Co (BB E21) (IntKind.i64.wrap k):=⟨_,rfl⟩
 rw [← hXe_] at hX_ hr26
 obtain ⟨n27,s28,b29,l30,u31,A32,c33,A34,c35,A36,c37,xs38,ht44,hcs39,h40,h41,h42,h43⟩:=hr26.open_
 rw [hcs39] at hr26
 have hsm45:=h40.small
 have hsm46:=h41.small
 rw [hcs39]
 refine ⟨_,rfl,fun a47 hE48=>?_⟩
 have hW49:=hW14.next_nil hs25
 have hF50:=hW14.frN hs25
 let lc124:Value:=.int .i64 n27
 let lc125:Value:=.slice A32 s28.length c33
 let lc126:Value:=.bool b29
 let lc127:Value:=.slice A34 l30.length c35
 let lc128:Value:=.slice A36 u31.length c37
 let lc129:Value:=(.agg #[.int .i64 n27,.slice A32 s28.length c33,.bool b29,.slice A34 l30.length c35,.slice A36 u31.length c37])
 refine B3 [2,3,4] [5,6,7] [le103,(16,.v (.agg #[lc124,lc125,lc126,lc127,lc128])),(17,.v (.bool true))] hW49 hE48 fun a51 hE52=>?_
 let lc130:Value:=.slice none 0 0
 refine B1 (D7 hW49 hE52 (d:=5) (cs:=[.int .i64 0,lc130,.bool false,lc130,lc130]) kz fun b53 a54 w55 hb56 hz57 hF58 hW59 hE60=>?_)
 refine B1 (C7 hW59 hE60 (oi:=1) (cs:=[lc124,lc125,lc126,lc127,lc128]) kz fun w61 hF62 hW63 hE64=>?_)
 let le104:Nat × SV:=(6,.v (.bool true))
 refine B3 [7] [] [le103,(5,.p 1 0),le104] hW63 hE64 fun a65 hE66=>?_
 refine B4 (A7 ?_)
 refine B8 [0,1,2,3] kz ?_
 refine B3 [0] [1,2,3] [le103,(5,.p 1 0),le104,(18,.v (.agg #[lc124,lc125,lc126,lc127,lc128]))] hW63 hE66 fun a67 hE68=>?_
 let lc131:Value:=.agg #[.int .i64 n27,.slice A32 s28.length c33,.bool b29,.slice A34 l30.length c35,.slice A36 u31.length c37]
 refine B1 (C3 hE68 (f:=19) (vs:=[.agg #[lc124,lc125,lc126,lc127,lc128],.int .i64 0]) (d:=19) kz Tryz.call19 (Bb _ _ 0 _ _ (hr26.move (hF58.trans hF62).step immM (hF58.trans hF62).to')) ?_)
 rintro e_ w72 ⟨cs71,rfl,hr70,hs69⟩
 have hr73:=hr70.move hs69 B0 (fun b o h_ hb_=>hW63.laid (G:=F) hs69 b o (.inl h_) (Nat.lt_of_lt_of_le hb_ hs69.size))
 obtain ⟨n74,s75,b76,l77,u78,A79,c80,A81,c82,A83,c84,xs85,ht91,hcs86,h87,h88,h89,h90⟩:=hr73.open_
 rw [hcs86] at hr73
 have hsm92:=h87.small
 have hsm93:=h88.small
 rw [hcs86]
 refine ⟨_,rfl,fun a94 hE95=>?_⟩
 have hW96:=hW63.next_nil hs69
 have hF97:=hW63.frN hs69
 let le105:Nat × SV:=(7,.v (.slice A81 l77.length c82))
 refine B3 [2,3] [] [le103,(5,.p 1 0),le104,le105] hW96 hE95 fun a98 hE99=>?_
 refine B4 (A7 ?_)
 refine wp_seq (J2 19 kz hW96 fun w100 hF101 hW102 hT103=>?_)
 refine D6 [0,1,2,3,4,5,6,7,8,9,10] [le103,(5,.p 1 0),le105,(31,.v (.bool (((l77.length:Nat):Int) != (((D.f 3).l:Nat):Int))))] 8 (B2 (B2 C6)) (fun _ h=>h.cells) hT103 hE99 fun a104 hE105=>?_
 have hc106:(((l77.length:Nat):Int) != (((D.f 3).l:Nat):Int)) = false:=GO ((congrArg (fun t_=>(Tree.L t_).length) ht91).symm.trans hX_.1)
 let le106:Nat × SV:=(31,.v (.bool false))
 have hE107:=hE105
 rw [hc106] at hE107
 let le107:Nat × SV:=(36,.v (.slice ((D.f 4).A) ((D.f 4).o.length) ((D.f 4).c)))
 refine D6 [11,14,15] [le103,le105,le106,(32,.v (.agg #[lc124,lc125,lc126,lc127,lc128])),le107] 5 (B2 (B2 C6)) (fun _ h=>h.cells) hT103 hE107 fun a108 hE109=>?_
 refine C9 (i:=12) kz (C3 hE109 (f:=19) (vs:=[.agg #[lc124,lc125,lc126,lc127,lc128],.int .i64 1]) (d:=33) kz Tryz.call19 (Bb _ _ 1 _ _ (hr26.move (((hF58.trans hF62).trans hF97).trans hF101).step immM (((hF58.trans hF62).trans hF97).trans hF101).to')) ?_)
 rintro e_ w113 ⟨cs112,rfl,hr111,hs110⟩
 have hr114:=hr111.move hs110 B0 (fun b o h_ hb_=>hW102.laid (G:=F) hs110 b o (.inl h_) (Nat.lt_of_lt_of_le hb_ hs110.size))
 obtain ⟨n115,s116,b117,l118,u119,A120,c121,A122,c123,A124,c125,xs126,ht132,hcs127,h128,h129,h130,h131⟩:=hr114.open_
 rw [hcs127] at hr114
 have hsm133:=h128.small
 have hsm134:=h129.small
 rw [hcs127]
 refine ⟨_,rfl,fun a135 hE136=>?_⟩
 have hW137:=hW102.next_nil hs110
 have hF138:=hW102.frN hs110
 have hT139:=TT.ofW hF138 hW137
 refine ⟨fun _=>hT139,?_⟩
 refine D6 [13] [le103,le105,le106,(34,.v (.slice A120 s116.length c121)),le107] 3 (B2 (B2 C6)) (fun _ h=>h.cells) hT139 hE136 fun a140 hE141=>?_
 refine C9 (i:=16) kz (C3 hE141 (f:=20) (vs:=[.slice A120 s116.length c121,lc123]) (d:=37) kz Tryz.call20 (Je _ _ _ _ s116 ((D.f 4).o) _ _ (h128.move (Step.refl _ B5) B0 R9) ((g5.move hW137.step B0 hW137.imm).move (Step.refl _ B5) B0 R9)) ?_)
 rintro e_ w143 ⟨rfl,hs142⟩
 refine ⟨_,rfl,fun a144 hE145=>?_⟩
 have hW146:=hW137.next_nil hs142
 have hF147:=hW137.frN hs142
 have hT148:=TT.ofW (hF138.trans hF147) hW146
 refine ⟨fun _=>hT148,?_⟩
 refine D6 [17,18] [le103,le105,(39,.v (.bool (!(decide (s116 = (D.f 4).o)))))] 0 (B2 (B2 C6)) (fun _ h=>h.cells) hT148 hE145 fun a149 hE150=>?_
 refine F3 kz ?_ _
 refine A7 (F6 hE150 (b:=!(decide (s116 = (D.f 4).o))) kz (JF ((congrArg Tree.S ht132).symm.trans hX_.2.1)) ?_)
 refine wp_skip (A7 (wp_seq ?_))
 let le108:Nat × SV:=(41,.v (.slice ((D.f 3).A) ((D.f 3).l) ((D.f 3).c)))
 let le109:Nat × SV:=(42,.v (.int .i64 (((D.f 3).l:Nat):Int)))
 refine C1 [le105,le108,le109,(43,.v (.int .i64 0))] hW146 hE150 fun a151 hE152=>?_
 refine wp_block ?_
 have hl1_:l77.length = (D.f 3).l:=(congrArg (fun t_=>(Tree.L t_).length) ht91).symm.trans hX_.1
 let lo101:Ob:=⟨b8,0,[lc119,lc120,.int .i32 (((D.f 1).f 1).n),lc121,lc122,lc123],true⟩
 let lo102:Ob:=⟨b53,0,[lc124,lc125,lc126,lc127,lc128],true⟩
 refine wp_loop_ghost (fun n_ a_ w_=>∃ (k1:Nat),n_ = (D.f 3).l - k1 ∧ k1 ≤ (D.f 3).l ∧ F1 hW146 90 [lo101,lo102] [] [le105,le108,le109,(43,.v (.int .i64 ((k1:Nat):Int)))] a_ w_) ((D.f 3).l) ⟨0,by omega,by omega,hE152.pk,hW146,Fr.refl _ _ _⟩ ?_
 rintro n153 a154 w155 ⟨k1,hn158,hk159,hE156,hW157,hF160⟩
 let le110:Nat × SV:=(43,.v (.int .i64 ((k1:Nat):Int)))
 refine C1 [le105,le108,le109,le110,(44,.v (.bool (decide (((k1:Nat):Int) < (((D.f 3).l:Nat):Int)))))] hW157 hE156 fun a161 hE162=>?_
 refine wp_seq (D8 hE162 (b:=decide (((k1:Nat):Int) < (((D.f 3).l:Nat):Int))) kz (fun hc163=>?_) (fun hc163=>?_))
 ·
  have hf164:=of_decide_eq_true hc163
  refine wp_skip (A7 (wp_seq (wp_block (B8 [0,1,2,3,4,5] kz ?_))))
  refine B3 [0] [1,2,3,4,5] [le105,le108,le109,le110,(45,.v (.int .i64 ((k1:Nat):Int)))] hW157 hE162 fun a165 hE166=>?_
  obtain ⟨b167,o168,hA169,hl170,hat171⟩:=Slots.get g4 (i:=k1) (by omega)
  refine B1 (F2 hE166 (t:=35) (A:=(D.f 3).A) (m:=((D.f 3).l)) (q:=((k1:Nat):Int)) (d:=46) kz (e:=70) (size:=2) (bytes:=40) kz hA169 rfl (by omega) fun a172 hE173=>?_)
  let lc132:Value:=.string ((((D.f 3).f k1).f 0).s)
  let lc133:Value:=.slice ((((D.f 3).f k1).f 1).A) ((((D.f 3).f k1).f 1).l) ((((D.f 3).f k1).f 1).c)
  refine B1 (G7 hE173 (t:=70) (b:=b167) (o:=o168 + k1 * 2) (d:=47) kz (cs:=[lc132,lc133]) (v:=.agg #[lc132,lc133]) kz (AtF.move hat171 hW157.step B0 E6).at_ fun a174 hE175=>?_)
  refine B1 (D7 hW157 hE175 (d:=9) (cs:=[.string ByteArray.empty,lc130]) kz fun b176 a177 w178 hb179 hz180 hF181 hW182 hE183=>?_)
  let le111:Nat × SV:=(8,.v (.int .i64 ((k1:Nat):Int)))
  let le112:Nat × SV:=(9,.p 2 0)
  refine B3 [4] [5] [le105,le111,le112,le108,le109,le110,(47,.v (.agg #[lc132,lc133]))] hW182 hE183 fun a184 hE185=>?_
  refine B1 (C7 hW182 hE185 (oi:=2) (cs:=[lc132,lc133]) kz fun w186 hF187 hW188 hE189=>?_)
  refine B4 (A7 ?_)
  refine B8 [0,1,2,3,4,5,6] kz ?_
  refine B3 [0,1] [2,3,4,5,6] [le105,le111,le112,le108,le109,le110,(48,.v (.slice A81 l77.length c82)),(49,.v (.int .i64 ((k1:Nat):Int)))] hW188 hE189 fun a190 hE191=>?_
  obtain ⟨b192,o193,hA194,hl195,hat196⟩:=Slots.get h88 (i:=k1) (by omega)
  obtain ⟨x197,he198⟩:∃ x,l77[k1]? = some x:=⟨_,List.getElem?_eq_getElem (by omega)⟩
  have hr199:=h89 k1 x197 he198
  obtain ⟨n200,s201,b202,l203,u204,A205,c206,A207,c208,A209,c210,xs211,rfl,hcs212,h213,h214,h215,h216⟩:=hr199.open_
  rw [hcs212] at hr199
  have hsm218:=h213.small
  have hsm219:=h214.small
  rw [hcs212] at hat196
  refine B1 (F2 hE191 (t:=46) (A:=A81) (m:=l77.length) (q:=((k1:Nat):Int)) (d:=50) kz (e:=49) (size:=5) (bytes:=88) kz hA194 rfl (by omega) fun a220 hE221=>?_)
  let lc134:Value:=.int .i64 n200
  let lc135:Value:=.slice A205 s201.length c206
  let lc136:Value:=.bool b202
  let lc137:Value:=.slice A207 l203.length c208
  let lc138:Value:=.slice A209 u204.length c210
  let lc139:Value:=.agg #[.int .i64 n200,.slice A205 s201.length c206,.bool b202,.slice A207 l203.length c208,.slice A209 u204.length c210]
  refine B1 (G7 hE221 (t:=49) (b:=b192) (o:=o193 + k1 * 5) (d:=51) kz (cs:=[lc134,lc135,lc136,lc137,lc138]) (v:=.agg #[lc134,lc135,lc136,lc137,lc138]) kz (AtF.move hat196 (((((hF101.trans hF138).trans hF147).trans hF160).trans hF181).trans hF187).step immM (((((hF101.trans hF138).trans hF147).trans hF160).trans hF181).trans hF187).to').at_ fun a222 hE223=>?_)
  refine B1 (C3 hE223 (f:=19) (vs:=[.agg #[lc134,lc135,lc136,lc137,lc138],.int .i64 1]) (d:=52) kz Tryz.call19 (Bb _ _ 1 _ _ (hr199.move (((((hF101.trans hF138).trans hF147).trans hF160).trans hF181).trans hF187).step immM (((((hF101.trans hF138).trans hF147).trans hF160).trans hF181).trans hF187).to')) ?_)
  rintro e_ w227 ⟨cs226,rfl,hr225,hs224⟩
  have hr228:=hr225.move hs224 B0 (fun b o h_ hb_=>hW188.laid (G:=F) hs224 b o (.inl h_) (Nat.lt_of_lt_of_le hb_ hs224.size))
  obtain ⟨n229,s230,b231,l232,u233,A234,c235,A236,c237,A238,c239,xs240,ht246,hcs241,h242,h243,h244,h245⟩:=hr228.open_
  rw [hcs241] at hr228
  have hsm247:=h242.small
  have hsm248:=h243.small
  rw [hcs241]
  refine ⟨_,rfl,fun a249 hE250=>?_⟩
  have hW251:=hW188.next_nil hs224
  have hF252:=hW188.frN hs224
  let le113:Nat × SV:=(10,.v (.slice A236 l232.length c237))
  refine B3 [5,6] [] [le105,le111,le112,le113,le108,le109,le110] hW251 hE250 fun a253 hE254=>?_
  refine B4 (A7 ?_)
  refine wp_seq (J2 18 kz hW251 fun w255 hF256 hW257 hT258=>?_)
  let le114:Nat × SV:=(62,.v (.string ((((D.f 3).f k1).f 0).s)))
  refine D6 [0,1,7,8] [le105,le112,le113,le108,le109,le110,(54,.v (.slice A81 l77.length c82)),(55,.v (.int .i64 ((k1:Nat):Int))),le114] 14 (B2 (B2 (C0 (B2 (B2 (C0 (B2 C6))))))) (fun _ h=>h.cells) hT258 hE254 fun a259 hE260=>?_
  refine H9 hE260 (i:=2) (t:=46) (A:=A81) (m:=l77.length) (q:=((k1:Nat):Int)) (d:=56) kz (e:=49) (size:=5) (bytes:=88) kz hA194 rfl (by omega) kz kz (B2 (B2 (C0 (B2 (B2 (C0 (B2 C6))))))) hT258 fun a261 hE262=>?_
  refine P4 hE262 (i:=3) (t:=49) (b:=b192) (o:=o193 + k1 * 5) (d:=57) kz (cs:=[lc134,lc135,lc136,lc137,lc138]) (v:=.agg #[lc134,lc135,lc136,lc137,lc138]) kz (fun w' h'=>(AtF.move (AtF.move hat196 (((((((hF101.trans hF138).trans hF147).trans hF160).trans hF181).trans hF187).trans hF252).trans hF256).step immM (((((((hF101.trans hF138).trans hF147).trans hF160).trans hF181).trans hF187).trans hF252).trans hF256).to') h'.2 immM R9).at_) kz kz (B2 (B2 (C0 (B2 (B2 (C0 (B2 C6))))))) hT258 fun a263 hE264=>?_
  refine C9 (i:=4) kz (C3 hE264 (f:=19) (vs:=[.agg #[lc134,lc135,lc136,lc137,lc138],.int .i64 0]) (d:=58) kz Tryz.call19 (Bb _ _ 0 _ _ (hr199.move (((((((hF101.trans hF138).trans hF147).trans hF160).trans hF181).trans hF187).trans hF252).trans hF256).step immM (((((((hF101.trans hF138).trans hF147).trans hF160).trans hF181).trans hF187).trans hF252).trans hF256).to')) ?_)
  rintro e_ w268 ⟨cs267,rfl,hr266,hs265⟩
  have hr269:=hr266.move hs265 B0 (fun b o h_ hb_=>hW257.laid (G:=F) hs265 b o (.inl h_) (Nat.lt_of_lt_of_le hb_ hs265.size))
  obtain ⟨n270,s271,b272,l273,u274,A275,c276,A277,c278,A279,c280,xs281,ht287,hcs282,h283,h284,h285,h286⟩:=hr269.open_
  rw [hcs282] at hr269
  have hsm288:=h283.small
  have hsm289:=h284.small
  rw [hcs282]
  refine ⟨_,rfl,fun a290 hE291=>?_⟩
  have hW292:=hW257.next_nil hs265
  have hF293:=hW257.frN hs265
  have hT294:=TT.ofW hF293 hW292
  refine ⟨fun _=>hT294,?_⟩
  refine D6 [5] [le105,le112,le113,le108,le109,le110,(59,.v (.slice A275 s271.length c276)),le114] 10 (B2 (B2 (C0 (B2 (B2 (C0 (B2 C6))))))) (fun _ h=>h.cells) hT294 hE291 fun a295 hE296=>?_
  refine C9 (i:=6) kz (V2 hE296 (src:=30) (dst:=9) (e:=5) (d:=60) kz kz kz kz h283 fun a297 hE298=>?_)
  have hT299:=TT.ofW hF293 hW292
  refine ⟨fun _=>hT299,?_⟩
  refine D6 [9,10] [le105,le112,le113,le108,le109,le110,(64,.v (.bool (!((bs s271).toList == ((((D.f 3).f k1).f 0).s).toList))))] 7 (B2 (B2 (C0 (B2 (B2 (C0 (B2 C6))))))) (fun _ h=>h.cells) hT299 hE298 fun a300 hE301=>?_
  have hc302:(!((bs s271).toList == ((((D.f 3).f k1).f 0).s).toList)) = false:=Ny (Nz (congrArg Tree.S ht287) (hX_.thing ht91 he198 (by omega)).1)
  have hE303:=hE301
  rw [hc302] at hE303
  refine D6 [11,12,13,14,15,16,17] [le105,le112,le113,le108,le109,le110,(71,.v (.bool (((l232.length:Nat):Int) != (((((D.f 3).f k1).f 1).l:Nat):Int))))] 0 (B2 (B2 (C0 (B2 (B2 (C0 (B2 C6))))))) (fun _ h=>h.cells) hT299 hE303 fun a304 hE305=>?_
  refine F3 kz ?_ _
  refine A7 (F6 hE305 (b:=((l232.length:Nat):Int) != (((((D.f 3).f k1).f 1).l:Nat):Int)) kz (GO ((congrArg (fun t_=>(Tree.L t_).length) ht246).symm.trans (hX_.thing ht91 he198 (by omega)).2.1)) ?_)
  refine wp_skip (A7 ?_)
  let le115:Nat × SV:=(73,.v (.slice ((((D.f 3).f k1).f 1).A) ((((D.f 3).f k1).f 1).l) ((((D.f 3).f k1).f 1).c)))
  let le116:Nat × SV:=(74,.v (.int .i64 (((((D.f 3).f k1).f 1).l:Nat):Int)))
  refine C1 [le105,le113,le108,le109,le110,le115,le116,(75,.v (.int .i64 0))] hW292 hE305 fun a306 hE307=>?_
  refine wp_block ?_
  have hl2_:l232.length = (((D.f 3).f k1).f 1).l:=(congrArg (fun t_=>(Tree.L t_).length) ht246).symm.trans (hX_.thing ht91 he198 (by omega)).2.1
  have gI_:=g4e k1 (by omega)
  unfold T0 at gI_
  obtain ⟨gI0_,⟨gIs_,gIl_,gIe_⟩,_⟩:=gI_
  refine wp_loop_ghost (fun n_ a_ w_=>∃ (k2:Nat),n_ = (((D.f 3).f k1).f 1).l - k2 ∧ k2 ≤ (((D.f 3).f k1).f 1).l ∧ F1 hW292 90 [lo101,lo102,⟨b176,0,[lc132,lc133],true⟩] [] [le105,le113,le108,le109,le110,le115,le116,(75,.v (.int .i64 ((k2:Nat):Int)))] a_ w_) ((((D.f 3).f k1).f 1).l) ⟨0,by omega,by omega,hE307.pk,hW292,Fr.refl _ _ _⟩ ?_
  rintro n308 a309 w310 ⟨k2,hn313,hk314,hE311,hW312,hF315⟩
  let le117:Nat × SV:=(75,.v (.int .i64 ((k2:Nat):Int)))
  refine C1 [le105,le113,le108,le109,le110,le115,le116,le117,(76,.v (.bool (decide (((k2:Nat):Int) < (((((D.f 3).f k1).f 1).l:Nat):Int)))))] hW312 hE311 fun a316 hE317=>?_
  refine wp_seq (D8 hE317 (b:=decide (((k2:Nat):Int) < (((((D.f 3).f k1).f 1).l:Nat):Int))) kz (fun hc318=>?_) (fun hc318=>?_))
  ·
   have hf319:=of_decide_eq_true hc318
   refine wp_skip (A7 (wp_seq (wp_block (B8 [0,1,2,3,4] kz ?_))))
   refine B3 [0] [1,2,3,4] [le105,le113,le108,le109,le110,le115,le116,le117,(77,.v (.int .i64 ((k2:Nat):Int)))] hW312 hE317 fun a320 hE321=>?_
   obtain ⟨b322,o323,hA324,hl325,hat326⟩:=Slots.get gIs_ (i:=k2) (by omega)
   refine B1 (F2 hE321 (t:=68) (A:=(((D.f 3).f k1).f 1).A) (m:=((((D.f 3).f k1).f 1).l)) (q:=((k2:Nat):Int)) (d:=78) kz (e:=21) (size:=1) (bytes:=4) kz hA324 rfl (by omega) fun a327 hE328=>?_)
   refine B1 (G7 hE328 (t:=21) (b:=b322) (o:=o323 + k2 * 1) (d:=79) kz (cs:=[.int .i32 (((((D.f 3).f k1).f 1).f k2).n)]) (v:=.int .i32 (((((D.f 3).f k1).f 1).f k2).n)) kz (AtF.move hat326 hW312.step B0 E6).at_ fun a329 hE330=>?_)
   let le118:Nat × SV:=(12,.v (.int .i32 (((((D.f 3).f k1).f 1).f k2).n)))
   refine B3 [3,4] [] [le105,le113,(11,.v (.int .i64 ((k2:Nat):Int))),le118,le108,le109,le110,le115,le116,le117] hW312 hE330 fun a331 hE332=>?_
   refine B4 (A7 ?_)
   refine B8 [0,1,2,3,4,5,6,7] kz ?_
   refine B3 [0,1] [2,3,4,5,6,7] [le105,le113,le118,le108,le109,le110,le115,le116,le117,(80,.v (.slice A236 l232.length c237)),(81,.v (.int .i64 ((k2:Nat):Int)))] hW312 hE332 fun a333 hE334=>?_
   obtain ⟨b335,o336,hA337,hl338,hat339⟩:=Slots.get h243 (i:=k2) (by omega)
   obtain ⟨x340,he341⟩:∃ x,l232[k2]? = some x:=⟨_,List.getElem?_eq_getElem (by omega)⟩
   have hr342:=h244 k2 x340 he341
   obtain ⟨n343,s344,b345,l346,u347,A348,c349,A350,c351,A352,c353,xs354,rfl,hcs355,h356,h357,h358,h359⟩:=hr342.open_
   rw [hcs355] at hr342
   have hsm361:=h356.small
   have hsm362:=h357.small
   rw [hcs355] at hat339
   refine B1 (F2 hE334 (t:=46) (A:=A236) (m:=l232.length) (q:=((k2:Nat):Int)) (d:=82) kz (e:=49) (size:=5) (bytes:=88) kz hA337 rfl (by omega) fun a363 hE364=>?_)
   refine B3 [3] [4,5,6,7] [le105,le113,le118,le108,le109,le110,le115,le116,le117,(83,.v (.pointer (some ⟨b335,o336 + k2 * 5,none⟩)))] hW312 hE364 fun a365 hE366=>?_
   refine B1 (G7 hE366 (t:=2) (b:=b335) (o:=o336 + k2 * 5) (d:=84) kz (cs:=[.int .i64 n343]) (v:=.int .i64 n343) kz (At.drop (AtF.move hat339 ((hF256.trans hF293).trans hF315).step immM ((hF256.trans hF293).trans hF315).to').at_ 0 1) fun a367 hE368=>?_)
   refine B3 [5,6,7] [] [le105,le113,le108,le109,le110,le115,le116,le117,(87,.v (.bool (n343 != (IntKind.i64.wrap (((((D.f 3).f k1).f 1).f k2).n)))))] hW312 hE368 fun a369 hE370=>?_
   refine B4 (A7 ?_)
   refine F6 hE370 (b:=n343 != (IntKind.i64.wrap (((((D.f 3).f k1).f 1).f k2).n))) kz (Nx (hX_.num ht91 he198 (by omega) ht246 he341 (by omega))) ?_
   refine wp_skip (G2 (A7 (D9 [0,1] kz ?_)))
   refine B3 [0,1] [] [le105,le113,le108,le109,le110,le115,le116,(75,.v (.int .i64 (IntKind.i64.wrap (((k2:Nat):Int) + 1))))] hW312 hE370 fun a371 hE372=>?_
   refine B4 (A7 ?_)
   have he373:IntKind.i64.wrap (((k2:Nat):Int) + 1) = ((k2 + 1:Nat):Int):=H1 (by omega)
   rw [he373] at hE372
   exact ⟨(((D.f 3).f k1).f 1).l - (k2 + 1),by omega,k2 + 1,rfl,by omega,hE372.pk,hW312,hF315⟩
  have hf374:=of_decide_eq_false hc318
  refine wp_exit (E2 (E2 (G3 (G2 (A7 (D9 [0,1] kz ?_))))))
  refine B3 [0,1] [] [le105,le108,le109,(43,.v (.int .i64 (IntKind.i64.wrap (((k1:Nat):Int) + 1))))] hW312 hE317 fun a375 hE376=>?_
  refine B4 (A7 ?_)
  obtain ⟨hE377,hW378,hF379⟩:=hW312.cutB hE376 2 [lo101,lo102] [le105,le108,le109,(43,.v (.int .i64 (IntKind.i64.wrap (((k1:Nat):Int) + 1))))]
  have he380:IntKind.i64.wrap (((k1:Nat):Int) + 1) = ((k1 + 1:Nat):Int):=H1 (by omega)
  rw [he380] at hE377
  exact ⟨(D.f 3).l - (k1 + 1),by omega,k1 + 1,rfl,by omega,hE377.pk,hW378,(((((((hF160.trans hF181).trans hF187).trans hF252).trans hF256).trans hF293).trans hF315).trans hF379)⟩
 have hf381:=of_decide_eq_false hc163
 refine wp_exit (E2 (E2 (G3 (A7 (C1 [(4,.v (.bool true))] hW157 hE162 fun a382 hE383=>?_)))))
 refine wp_ret (D5 hE383 hW157.cells (v:=.bool true) kz ?_)
 exact ⟨rfl,hW157.step⟩
end Go.Proofs.YtipblegipibplaaGreatDoor.ME
namespace Go.Proofs.YtipblegipibplaaGreatDoor.ME
open Go
open Go.RowKit
set_option linter.unusedVariables false
set_option linter.unusedSimpArgs false
section
variable {P:Program} {ops:Array Oper} {Q:Exit → Act → World → Prop} {n:Nat} {tb:Tb} {env:C8} {rs:List Rw} {w0:World} {a:Act} {w:World}
theorem BJ {α:Type} {l:List α} {k i:Nat} {x:α} (h:(l.eraseIdx k)[i]? = some x):∃ j,j ≠ k ∧ l[j]? = some x ∧ (j = if i < k then i else i + 1):=by
 rw [List.getElem?_eraseIdx] at h
 split at h
 ·exact ⟨i,by omega,h,by rw [if_pos ‹_›]⟩
 exact ⟨i + 1,by omega,h,by rw [if_neg ‹_›]⟩
theorem WOk.off {w':World} {k b:Nat} {r:Rw} (hW:WOk w0 B5 w tb rs) (hk:rs[k]? = some r) (hb:r.blk = some b) (ho:w'.os = w.os) (hp:w'.output = w.output) (hs:w'.heap.size = w.heap.size) (hh:∀ c,c ≠ b → w'.heap[c]? = w.heap[c]?) :
  WOk w0 B5 w' tb (rs.eraseIdx k) ∧ Fr w tb rs w' tb (rs.eraseIdx k):=by
 have hnew:w0.heap.size ≤ b:=by
  rcases hW.ownM k r hk b hb with h | h
  ·exact h
  exact (h 0).elim
 have htb:∀ (j:Nat) (o:Ob),tb[j]? = some o → o.blk ≠ b:=fun j o h=>hW.rtb k r hk b hb j o h
 have hrs:∀ (j:Nat) (r':Rw),j ≠ k → rs[j]? = some r' → r'.blk ≠ some b:=fun j r' hj h=>hW.rr k j r r' (Ne.symm hj) hk h b hb
 have hstep:Step w w' (G9 tb rs):=⟨ho,hp,by omega,fun c hc=>by
  rcases Nat.decEq c b with hne | rfl
  ·rw [hh c hne]; exact Keeps.refl _ _
  have hact:∀ o,G9 tb rs c o:=fun o=>.inr ⟨k,r,hk,hb⟩
  exact ⟨fun h=>absurd (hact 0) (h 0),fun ⟨o,h⟩=>absurd (hact o) h⟩⟩
 refine ⟨⟨⟨ho.trans hW.step.os,hp.trans hW.step.output,by rw [hs]; exact hW.step.size,fun c hc=>by rw [hh c (by omega)]; exact hW.step.keeps c hc⟩,?_,?_,?_,hW.apart,?_,?_,?_,?_⟩,⟨fun c o _ hn ha=>hn ?_,hstep⟩⟩
 ·intro i o hi j v hj
  rw [World.cell_of_heap (hh _ (htb i o hi))]
  exact hW.cells i o hi j v hj
 ·intro i o hi
  rw [hs]; exact hW.live i o hi
 ·intro i o hi hr j hj
  have:=hW.rw_ i o hi hr j hj
  exact ⟨this.1,by rw [World.frozen_of_heap (hh _ (htb i o hi))]; exact this.2⟩
 ·intro i r' hi
  obtain ⟨j,hj,hjr,_⟩:=BJ hi
  have h:=hW.own j r' hjr
  refine ⟨h.1,h.2.imp id fun ⟨g,cap,cur,hv,h1,h2,h3⟩=>⟨g,cap,cur,hv,h1,?_,h3⟩⟩
  rw [hh g ?_]
  ·exact h2
  intro e
  subst e
  apply hrs j r' hj hjr
  unfold Rw.v at hv
  unfold Rw.blk
  simp only [Value.slice.injEq] at hv
  rw [hv.1]; rfl
 ·intro i r' hi
  obtain ⟨j,hj,hjr,_⟩:=BJ hi
  exact hW.ownM j r' hjr
 ·intro i r' hi
  obtain ⟨j,hj,hjr,_⟩:=BJ hi
  exact hW.rtb j r' hjr
 ·intro i i' r1 r2 hne h1 h2
  obtain ⟨j,hj,hjr,e1⟩:=BJ h1
  obtain ⟨j',hj',hjr',e2⟩:=BJ h2
  refine hW.rr j j' r1 r2 ?_ hjr hjr'
  rw [e1,e2]
  split <;> split <;> omega
 rcases ha with ha | ⟨i,r',hi,hr⟩
 ·exact .inl ha
 obtain ⟨j,hj,hjr,_⟩:=BJ hi
 exact .inr ⟨j,r',hjr,hr⟩
theorem Ph {t e b n' c:Nat} {cur:Array Value} {w:World} (ht:P.underlying t = some (.slice e)) (he:P.underlying e = some (.int .u8)) (hb:w.heap[b]? = some (.cells cur e (0,0))) :
  ∃ w',(convert t t (.slice (some ⟨b,0,none⟩) n' c)).run P w = .ok (.slice (some ⟨b,0,none⟩) n' c) w' ∧ w'.os = w.os ∧ w'.output = w.output ∧ w'.heap.size = w.heap.size ∧ (∀ c,c ≠ b → w'.heap[c]? = w.heap[c]?) ∧ ∃ fz,w'.heap[b]? = some (.cells cur e fz):=by
 have hsh:w.shape? b = some (e,cur.size):=by
  unfold World.shape?
  rw [hb]
 refine ⟨w.freeze ⟨b,cur.size,none⟩ 1,?_,?_,?_,?_,fun c hc=>?_,?_⟩
 ·simp [convert,run_underlying ht,run_underlying he,markStringish,hsh]
 ·unfold World.freeze; rw [if_neg (by decide)]
 ·unfold World.freeze; rw [if_neg (by decide)]
 ·unfold World.freeze; rw [if_neg (by decide)]; simp
 ·unfold World.freeze; rw [if_neg (by decide)]
  simp only [Array.getElem?_modify]
  rw [if_neg (by exact fun h=>hc h.symm)]
 unfold World.freeze; rw [if_neg (by decide)]
 simp only [Array.getElem?_modify,if_true,hb,Option.map_some]
 exact ⟨_,rfl⟩
theorem Q5 {i d k t e c:Nat} {A:Option Addr} {s:Bs} {N:Act → World → Prop} (hW:WOk w0 B5 w tb rs) (hE:EnvOk n tb env a) (rs':List Rw) (hk:rs[k]? = some (B6 A c e s)) (hpos:0 < s.length) (hsm:s.length ≤ 1099511627776)
  (K:∀ a' w',Fr w tb rs w' tb rs' → WOk w0 B5 w' tb rs' → (∀ G,Octs w' (D4 G w0 w' tb rs') A c s) → EnvOk n tb ((d,.v (.slice A s.length c)) :: env) a' → N a' w')
  (hr:rs.eraseIdx k = rs':=by rfl) (h:Cd tb env ops n i = some (t,t,.slice A s.length c,d):=by kernel_rfl) (ht:P.underlying t = some (.slice e):=by kernel_rfl) (he:P.underlying e = some (.int .u8):=by kernel_rfl):wpOp P ops Q i N a w:=by
 subst hr
 have ho:=hW.own k _ hk
 rcases ho.2 with ⟨_,h0⟩ | ⟨b,cap,cur,hv,_,hb,hle,_,hcs,htk⟩
 ·exact absurd h0 (by simpa using Nat.ne_of_gt hpos)
 have hv':A = some ⟨b,0,none⟩ ∧ c = cap:=by
  have:Value.slice A s.length c = .slice (some ⟨b,0,none⟩) s.length cap:=hv
  simp only [Value.slice.injEq] at this
  exact ⟨this.1,this.2.2⟩
 obtain ⟨rfl,rfl⟩:=hv'
 obtain ⟨w',hrun,h1,h2,h3,h4,fz,h5⟩:=Ph (n':=s.length) (c:=c) ht he hb
 obtain ⟨hW',hF⟩:=hW.off (w':=w') hk (b:=b) rfl h1 h2 h3 h4
 unfold Cd at h
 split at h
 ·rename_i src' dst' x d' hop
  split at h
  ·rename_i v hx
   simp only [Option.some.injEq,Prod.mk.injEq] at h
   obtain ⟨rfl,rfl,rfl,rfl⟩:=h
   have hdn:=(K8 hE hop).choose_spec.2.2.2.1
   have e1:=(F4 hE hx).1
   refine N0 hE hop (v:=.slice (some ⟨b,0,none⟩) s.length c) (w':=w') (fun o' ho'=>?_) (K _ w' hF hW' (fun G=>?_) (hE.put hdn (.v _) trivial))
   ·unfold execOp
    rw [ho']
    simp only [SV.val] at e1
    simp only [e1,Sem.run_bind,hrun,Result.andThen_ok,Sem.run_pure]
   have hlt:b < w.heap.size:=(Array.getElem?_eq_some_iff.1 hb).1
   refine ⟨hle,hsm,fun h=>(by cases h),fun ad hA _=>?_⟩
   obtain rfl:=Option.some.inj hA
   refine ⟨b,0,rfl,fun q hq=>⟨rfl,fun j v hj=>?_⟩⟩
   have hj0:j = 0:=by
    cases j with
    | zero=>rfl
    | succ j=>simp at hj
   subst hj0
   simp only [List.getElem?_cons_zero,Option.some.injEq] at hj
   subst hj
   refine ⟨⟨.inr ?_,by rw [h3]; exact hlt,fun ha=>?_⟩,?_⟩
   ·rcases hW.ownM k _ hk b rfl with h | h
    ·exact h
    exact (h 0).elim
   ·rcases ha with ⟨i',o',hi,_,hbb,_⟩ | ⟨i',r',hi,hr⟩
    ·exact hW.rtb k _ hk b rfl i' o' hi hbb
    obtain ⟨j',hj',hjr,_⟩:=BJ hi
    exact hW.rr k j' _ r' (Ne.symm hj') hk hjr b rfl hr
   have hcell:cur[q]? = some (Z3 (s.getD q 0)):=by
    have e2:cur.toList[q]? = some (Z3 (s.getD q 0)):=by
     have e3:(cur.toList.take (s.length * 1))[q]? = some (Z3 (s.getD q 0)):=by
      rw [htk]
      show (bc s)[q]? = _
      unfold bc
      rw [List.getElem?_map,List.getElem?_eq_getElem hq,List.getD_eq_getElem?_getD,List.getElem?_eq_getElem hq]
      rfl
     rw [List.getElem?_take] at e3
     rwa [if_pos (by omega)] at e3
    simpa using e2
   show w'.cell? ⟨b,0 + q * 1 + 0,none⟩ = _
   unfold World.cell?
   rw [h5]
   simp only [Option.isSome_none,Bool.false_eq_true,if_false,Nat.zero_add,Nat.mul_one,Nat.add_zero]
   exact hcell
  cases h
 cases h
theorem WOk.swap {M:Nat → Nat → Prop} {x y:Rw} (hW:WOk w0 M w tb [x,y]):WOk w0 M w tb [y,x] ∧ Fr w tb [x,y] w tb [y,x]:=by
 have key:∀ (i:Nat) (r:Rw),[y,x][i]? = some r → ∃ j,[x,y][j]? = some r ∧ j = 1 - i ∧ i ≤ 1:=by
  intro i r h
  match i,h with
  | 0,h=>exact ⟨1,h,rfl,by omega⟩
  | 1,h=>exact ⟨0,h,rfl,by omega⟩
 refine ⟨⟨hW.step,hW.cells,hW.live,hW.rw_,hW.apart,fun i r h=>?_,fun i r h=>?_,fun i r h=>?_,fun i i' r r' hne h h'=>?_⟩,⟨fun b o _ hn ha=>hn ?_,Step.refl _ _⟩⟩
 ·obtain ⟨j,hj,_⟩:=key i r h
  exact hW.own j r hj
 ·obtain ⟨j,hj,_⟩:=key i r h
  exact hW.ownM j r hj
 ·obtain ⟨j,hj,_⟩:=key i r h
  exact hW.rtb j r hj
 ·obtain ⟨j,hj,e1,l1⟩:=key i r h
  obtain ⟨j',hj',e2,l2⟩:=key i' r' h'
  exact hW.rr j j' r r' (by omega) hj hj'
 rcases ha with ha | ⟨i,r,h,hr⟩
 ·exact .inl ha
 obtain ⟨j,hj,_⟩:=key i r h
 exact .inr ⟨j,r,hj,hr⟩
theorem Bj {T:World → Prop} {c i j k fuel:Nat} {listed:Array Bool} (hr:Region.ready .any ops listed = [i,j,k]) (h:wpOp P ops Q i (fun a' w'=>(i ≠ c → T w') ∧ I5 P ops Q T c fuel (listed.setIfInBounds i true) a' w') a w)
  (h':wpOp P ops Q j (fun a' w'=>(j ≠ c → T w') ∧ I5 P ops Q T c fuel (listed.setIfInBounds j true) a' w') a w) (h'':wpOp P ops Q k (fun a' w'=>(k ≠ c → T w') ∧ I5 P ops Q T c fuel (listed.setIfInBounds k true) a' w') a w):I5 P ops Q T c (fuel + 1) listed a w:=by
 refine ⟨fun h0=>(by rw [hr] at h0; cases h0),fun q hq=>?_⟩
 rw [hr] at hq
 simp only [List.mem_cons,List.not_mem_nil,or_false] at hq
 rcases hq with rfl | rfl | rfl
 ·exact h
 ·exact h'
 exact h''
theorem Pi {T:World → Prop} {c fuel:Nat} {l:Array Bool} (k:∀ G:Nat → Array Bool → Act → World → Prop,(∀ fuel l l' a w,l' = l → G fuel l' a w → I5 P ops Q T c fuel l a w) → (∀ fuel l a w,I5 P ops Q T c fuel l a w → G fuel l a w) → I5 P ops Q T c fuel l a w):I5 P ops Q T c fuel l a w :=
 k (I5 P ops Q T c) (fun _ _ _ _ _ e h=>e ▸ h) fun _ _ _ _ h=>h
end
end Go.Proofs.YtipblegipibplaaGreatDoor.ME
namespace Go.Proofs.YtipblegipibplaaGreatDoor.ME
open Go
open Go.RowKit
set_option linter.unusedVariables false
set_option linter.unusedSimpArgs false
set_option maxRecDepth 20000
set_option maxHeartbeats 4000000 in
theorem Pj (v:Int) (T:Tree) {A2:Option Addr} {c2:Nat} {w:World} {F:Nat → Nat → Prop} (hs_:Octs w F A2 c2 (H7 (IntKind.i16.wrap v) T)) (hc:Y6 T) (hkey:T.ranged) (hroom:(H7 (IntKind.i16.wrap v) T).length + 16 ≤ 1099511627776) :
  Calls Tryz.prog 15 #[.int .i64 v,.slice A2 (H7 (IntKind.i16.wrap v) T).length c2] w (fun e w'=>∃ D cs,e = .returned (.tuple #[.agg cs.toArray,.bool true]) ∧ TreeR w' (Fp P8 w) cs (BF D) ∧ BD (IntKind.i16.wrap v) D T ∧ Step w w' B5):=by
 refine enter (n:=20) Tryz.func15 rfl Tryz.ntmps15 kz fun a hE=>?_
 have hW:=WOk.start w B5
 have hsm2:=Slots.small hs_
 refine B8 [0,1] kz ?_
 let ae:Value:=.slice none 0 0
 refine B1 (D7 hW hE (d:=4) (cs:=[.int .i64 0,ae,.bool false,ae,ae]) kz fun b1 a2 w3 hb4 hz5 hF6 hW7 hE8=>?_)
 let ak:Nat × SV:=(0,.v (.int .i64 v))
 let ab:Nat × SV:=(4,.p 0 0)
 refine B3 [1] [] [ak,(1,.v (.slice A2 ((H7 (IntKind.i16.wrap v) T).length) c2)),ab] hW7 hE8 fun a9 bf=>?_
 refine B4 (A7 ?_)
 refine B8 [0,1] kz ?_
 refine B1 (L6 bf (f:=25) (vs:=[]) (d:=7) (n':=3) kz Tryz.call25 Tryz.func25 rfl Tryz.ntmps25 kz fun dj bg=>?_)
 refine C1 [] hW7 bg fun dl bh=>?_
 refine B8 [0] kz ?_
 let ag:Value:=.string ByteArray.empty
 let ac:Value:=.pointer none
 refine B1 (D7 hW7 bh (d:=1) (cs:=[.int .i16 0,ag,.int .i32 0,ag,ac,ac,ac,ae,.map none]) kz fun ao dm dn cS cV cW aj bi=>?_)
 refine B4 (A7 ?_)
 refine B8 [0] kz ?_
 let ai:Value:=.pointer (some ⟨ao,0,none⟩)
 refine B1 (L6 bi (f:=50) (vs:=[ai]) (d:=2) (n':=2) kz Tryz.call50 Tryz.func50 rfl Tryz.ntmps50 kz fun dp bj=>?_)
 have bk:=bj.recast 0 (.v (.pointer (some ⟨ao,0,none⟩))) (.p 1 0) rfl rfl (Nat.le_of_ble_eq_true (n:=2) rfl)
 refine wp_skip (M3 bk aj.cells (v:=.tuple #[]) kz ?_)
 refine ⟨_,rfl,fun dq bn=>?_⟩
 let af:Ob:=⟨b1,0,[.int .i64 0,ae,.bool false,ae,ae],true⟩
 let aI:Ob:=⟨ao,0,[.int .i16 0,ag,.int .i32 0,ag,ac,ac,ac,ae,.map none],true⟩
 have bp:EnvOk 3 [af,aI] [(2,.v (.tuple #[])),(1,.p 1 0)] _:=bn.places (⟨rfl,rfl,⟨rfl,rfl,trivial⟩⟩)
 refine B4 (A7 ?_)
 refine C1 [(0,.p 1 0)] aj bp fun dr bq=>?_
 refine wp_ret (D5 bq aj.cells (v:=.pointer (some ⟨ao,0,none⟩)) kz ?_)
 refine ⟨_,rfl,fun dt bt=>?_⟩
 have bu:EnvOk 20 [af,aI] [(7,.v (.pointer (some ⟨ao,0,none⟩))),ak,(1,.v (.slice A2 ((H7 (IntKind.i16.wrap v) T).length) c2)),ab] _:=bt.places (⟨rfl,rfl,trivial⟩)
 have bw:=bu.recast 7 (.v (.pointer (some ⟨ao,0,none⟩))) (.p 1 0) rfl rfl (Nat.le_of_ble_eq_true (n:=2) rfl)
 have bz:=bw.pick (ks:=[0,1,4,7]) (env':=[ak,(1,.v (.slice A2 ((H7 (IntKind.i16.wrap v) T).length) c2)),ab,(7,.p 1 0)]) kz
 let ah:Nat × SV:=(6,.p 1 0)
 refine B3 [1] [] [ak,(1,.v (.slice A2 ((H7 (IntKind.i16.wrap v) T).length) c2)),ab,ah] aj bz fun du bD=>?_
 refine B4 (A7 ?_)
 refine B8 [0,1,2,3] kz ?_
 refine B3 [0,1,2] [3] [(1,.v (.slice A2 ((H7 (IntKind.i16.wrap v) T).length) c2)),ab,ah,(8,.p 1 0),(10,.v (.int .i16 (IntKind.i16.wrap v)))] aj bD fun dv bE=>?_
 let al:Value:=.int .i16 (IntKind.i16.wrap v)
 refine B1 (L6 bE (f:=32) (vs:=[ai,al]) (d:=11) (n':=8) kz Tryz.call32 Tryz.func32 rfl Tryz.ntmps32 kz fun dw bF=>?_)
 have bG:=bF.recast 0 (.v (.pointer (some ⟨ao,0,none⟩))) (.p 1 0) rfl rfl (Nat.le_of_ble_eq_true (n:=2) rfl)
 refine D9 [0,1,2,3,4] kz ?_
 refine B3 [0,1,2,3] [4] [(5,.v (.int .i16 (IntKind.i16.wrap v))),(7,.p 1 0)] aj bG fun dx bH=>?_
 refine B1 (C7 aj bH (oi:=1) (cs:=[al,ag,.int .i32 0,ag,ac,ac,ac,ae,.map none]) kz fun dy cX aG bI=>?_)
 refine B4 (M3 bI aG.cells (v:=.tuple #[]) kz ?_)
 refine ⟨_,rfl,fun dA bJ=>?_⟩
 let aJ:Ob:=⟨ao,0,[al,ag,.int .i32 0,ag,ac,ac,ac,ae,.map none],true⟩
 have bK:EnvOk 20 [af,aJ] [(11,.v (.tuple #[])),(1,.v (.slice A2 ((H7 (IntKind.i16.wrap v) T).length) c2)),ab,ah,(8,.p 1 0),(10,.v (.int .i16 (IntKind.i16.wrap v)))] _:=bJ.places (⟨rfl,rfl,⟨rfl,rfl,trivial⟩⟩)
 refine B4 (A7 ?_)
 refine wp_seq (B8 [0,1,2,3,4] kz ?_)
 refine B3 [0,1] [2,3,4] [ab,ah,(12,.p 1 0),(13,.v (.slice A2 ((H7 (IntKind.i16.wrap v) T).length) c2))] aG bK fun dB bM=>?_
 have aw:=aG.addNil 5 1
 have cY:=aG.frNil 5 1
 refine B1 (I7 aw bM (k:=0) (d:=14) (t:=30) (e:=5) (size:=1) (bytes:=1) (A:=none) (As:=A2) (m0:=0) (c:=0) (m:=((H7 (IntKind.i16.wrap v) T).length)) (cs:=c2) (xs:=[]) (news:=bc (H7 (IntKind.i16.wrap v) T)) kz kz rfl (hs_.move aw.step B0 aw.imm).src (hs_.move aw.step B0 aw.imm).cap (by first | omega | (simp only [List.length_nil]; omega) | (simp; omega)) fun au av dC dD cZ bN bO=>?_)
 have bP:(⟨au,av,5,1,0 + (H7 (IntKind.i16.wrap v) T).length,[] ++ bc (H7 (IntKind.i16.wrap v) T)⟩:Rw) = B6 au av 5 (H7 (IntKind.i16.wrap v) T):=by rw [List.nil_append,Nat.zero_add]
 obtain ⟨aH,da⟩:=bN.rowEq 0 [B6 au av 5 (H7 (IntKind.i16.wrap v) T)] bP
 have bQ:=EnvOk.pick bO (ks:=[4,6,12,13,14]) (env':=[ab,ah,(12,.p 1 0),(13,.v (.slice A2 ((H7 (IntKind.i16.wrap v) T).length) c2)),(14,.v (.slice au (0 + (H7 (IntKind.i16.wrap v) T).length) av))]) kz
 have bR:=bQ.cast (env':=[ab,ah,(12,.p 1 0),(13,.v (.slice A2 ((H7 (IntKind.i16.wrap v) T).length) c2)),(14,.v (.slice au ((H7 (IntKind.i16.wrap v) T).length) av))]) (by simp only [List.length_append,List.length_cons,List.length_nil,Nat.zero_add])
 refine B1 (L6 bR (f:=33) (vs:=[ai,.slice au ((H7 (IntKind.i16.wrap v) T).length) av]) (d:=15) (n':=8) kz Tryz.call33 Tryz.func33 rfl Tryz.ntmps33 kz fun dE bS=>?_)
 have bT:=bS.recast 0 (.v (.pointer (some ⟨ao,0,none⟩))) (.p 1 0) rfl rfl (Nat.le_of_ble_eq_true (n:=2) rfl)
 refine C1 [(0,.p 1 0),(1,.v (.slice au ((H7 (IntKind.i16.wrap v) T).length) av))] aH bT fun dF bU=>?_
 refine B8 [0,1,2,3] kz ?_
 refine B3 [0,1] [2,3] [(5,.p 1 0),(6,.v (.slice au ((H7 (IntKind.i16.wrap v) T).length) av))] aH bU fun dG bV=>?_
 have bW:=aH.giveUp (G:=P8) 0 [] (show _ = some (B6 au av 5 (H7 (IntKind.i16.wrap v) T)) from rfl) (by omega)
 obtain ⟨aQ,db⟩:=aH.cutR 0 []
 refine B1 (C3 bV (f:=55) (vs:=[ai,.slice au ((H7 (IntKind.i16.wrap v) T).length) av,.bool false]) (d:=7) kz Tryz.call55 (NO (IntKind.i16.wrap v) T (Str.of aQ 1 rfl) bW (Cf 1 rfl) hc hkey) ?_)
 rintro e_ dH ⟨ap,rfl,bX,bY,bZ,aR⟩
 let am:Ob:=⟨ao,0,[al,.string ((ap.f 0).s),.int .i32 ((ap.f 1).n),.string ((ap.f 2).s),.pointer ((ap.f 3).A),.pointer ((ap.f 4).A),.pointer ((ap.f 5).A),.slice ((ap.f 6).A) ((ap.f 6).l) ((ap.f 6).c),.map ap.m],true⟩
 obtain ⟨ar,dc,cd⟩:=aQ.wrote 1 [af,am] rfl aR bX
 have ce:=JJ _ (Step.refl _ B5) B0 cd bY
 refine ⟨_,rfl,fun dI cg=>?_⟩
 have cm:=(EnvOk.places (tb':=[af,am]) cg (show Pl [af,aJ] [af,am] from ⟨rfl,rfl,⟨rfl,rfl,trivial⟩⟩)).pk (env':=[(7,.v (.nilIface)),(5,.p 1 0),(6,.v (.slice au ((H7 (IntKind.i16.wrap v) T).length) av))])
 refine B3 [3] [] [(4,.v (.nilIface))] ar cm fun dJ cn=>?_
 refine B4 (A7 ?_)
 refine wp_ret (D5 cn ar.cells (v:=.nilIface) kz ?_)
 refine ⟨_,rfl,fun dK cq=>?_⟩
 have cr:EnvOk 20 [af,am] [(15,.v (.nilIface)),ab,ah,(12,.p 1 0),(13,.v (.slice A2 ((H7 (IntKind.i16.wrap v) T).length) c2)),(14,.v (.slice au ((H7 (IntKind.i16.wrap v) T).length) av))] _:=cq.places (⟨rfl,rfl,⟨rfl,rfl,trivial⟩⟩)
 refine B3 [4] [] [ab,ah,(16,.v (.bool false))] ar cr fun dL aS=>?_
 refine B4 (A7 ?_)
 refine F6 aS (b:=false) kz rfl ?_
 refine wp_skip (A7 (B8 [0,1,2,3] kz ?_))
 refine B3 [0] [1,2,3] [ab,(18,.p 1 0)] ar aS fun dM cu=>?_
 have aT:=cu.recast 18 (.p 1 0) (.v (.pointer (some ⟨ao,0,none⟩))) rfl rfl trivial
 let aK:C8:=[ab,(18,.v (.pointer (some ⟨ao,0,none⟩)))]
 have aU:=aT.pk (env':=aK)
 have aN:=WOk.strOut (G:=P8) [af] ar
 obtain ⟨aV,ax,aL⟩:=ar.cutB aU 1 [af] aK
 have aW:=JJ _ aL.step immM aL.to' ce
 refine B1 (C3 aV (f:=34) (vs:=[ai]) (d:=19) kz Tryz.call34 (NP (IntKind.i16.wrap v) ap ao 0 _ _ aN aW) ?_)
 rintro e_ de ⟨cO,rfl,aX,ay⟩
 have aA:=aX.move (Step.refl _ B5) B0 (ax.laid (G:=P8) ay)
 obtain ⟨aO,cw,aP,cz,cA,cB,cC,cE,cG,cH,cI,cP,cQ,aB,cJ,cK,df,dg⟩:=aA.open_
 rw [aB] at aA
 have cL:=cJ.small
 have cM:=cK.small
 rw [aB]
 refine ⟨_,rfl,fun dh aY=>?_⟩
 have aZ:=ax.next_nil ay
 have cR:=ax.frN ay
 let aC:Value:=.slice cB cw.length cC
 let aD:Value:=.slice cE cz.length cG
 let aE:Value:=.slice cH cA.length cI
 refine B1 (C7 aZ aY (oi:=0) (cs:=[.int .i64 aO,aC,.bool aP,aD,aE]) kz fun cN aM aF ba=>?_)
 refine B3 [3] [] [ab,(5,.v (.bool true))] aF ba fun di bd=>?_
 refine B4 (A7 ?_)
 refine wp_ret (D5 bd aF.cells (v:=.tuple #[.agg #[.int .i64 aO,aC,.bool aP,aD,aE],.bool true]) kz ?_)
 exact ⟨ap,_,rfl,(show TreeR _ (D4 P8 w cN [⟨b1,0,[.int .i64 aO,aC,.bool aP,aD,aE],true⟩] []) _ (BF ap) from (aA.move aM.step immM aM.to')).move (Step.refl _ B5) B0 G0,bZ,aF.step⟩
theorem Pk (v:Int) (T:Tree) (B:Bs) {A2:Option Addr} {c2:Nat} {w:World} {F:Nat → Nat → Prop} (hB:(H7 (IntKind.i16.wrap v) T) = B) (hs_:Octs w F A2 c2 B) (hc:Y6 T) (hkey:T.ranged) (hroom:B.length + 16 ≤ 1099511627776) :
  Calls Tryz.prog 15 #[.int .i64 v,.slice A2 B.length c2] w (fun e w'=>∃ D cs,e = .returned (.tuple #[.agg cs.toArray,.bool true]) ∧ TreeR w' (Fp P8 w) cs (BF D) ∧ BD (IntKind.i16.wrap v) D T ∧ Step w w' B5):=by
 subst hB
 exact Pj v T hs_ hc hkey hroom
theorem Pm (v:Int) (T:Tree) {A2:Option Addr} {c2:Nat} {w:World} {F:Nat → Nat → Prop} (hs_:Octs w F A2 c2 (H8 (IntKind.i16.wrap v) T)) (hc:Y8 T) (hkey:T.ranged) (hroom:(H8 (IntKind.i16.wrap v) T).length + 16 ≤ 1099511627776) :
  Calls Tryz.prog 22 #[.int .i64 v,.slice A2 (H8 (IntKind.i16.wrap v) T).length c2] w (fun e w'=>∃ D cs,e = .returned (.tuple #[.agg cs.toArray,.bool true]) ∧ TreeR w' (Fp P8 w) cs (BH D) ∧ BG (IntKind.i16.wrap v) D T ∧ Step w w' B5):=by
 refine enter (n:=20) Tryz.func22 rfl Tryz.ntmps22 kz fun a hE=>?_
 have hW:=WOk.start w B5
 have hsm2:=Slots.small hs_
 refine B8 [0,1] kz ?_
 let ac:Value:=.slice none 0 0
 refine B1 (D7 hW hE (d:=4) (cs:=[.int .i64 0,ac,.bool false,ac,ac]) kz fun b1 a2 w3 hb4 hz5 hF6 hW7 hE8=>?_)
 let ak:Nat × SV:=(0,.v (.int .i64 v))
 let ab:Nat × SV:=(4,.p 0 0)
 refine B3 [1] [] [ak,(1,.v (.slice A2 ((H8 (IntKind.i16.wrap v) T).length) c2)),ab] hW7 hE8 fun a9 bf=>?_
 refine B4 (A7 ?_)
 refine B8 [0,1] kz ?_
 refine B1 (L6 bf (f:=27) (vs:=[]) (d:=7) (n':=3) kz Tryz.call27 Tryz.func27 rfl Tryz.ntmps27 kz fun dj bg=>?_)
 refine C1 [] hW7 bg fun dl bh=>?_
 refine B8 [0] kz ?_
 let ah:Value:=.int .i16 0
 let af:Value:=.pointer none
 refine B1 (D7 hW7 bh (d:=1) (cs:=[ah,.int .i32 0,ah,af,af,ac,.map none]) kz fun ao dm dn cS cV cW aj bi=>?_)
 refine B4 (A7 ?_)
 refine B8 [0] kz ?_
 let ai:Value:=.pointer (some ⟨ao,0,none⟩)
 refine B1 (L6 bi (f:=51) (vs:=[ai]) (d:=2) (n':=2) kz Tryz.call51 Tryz.func51 rfl Tryz.ntmps51 kz fun dp bj=>?_)
 have bk:=bj.recast 0 (.v (.pointer (some ⟨ao,0,none⟩))) (.p 1 0) rfl rfl (Nat.le_of_ble_eq_true (n:=2) rfl)
 refine wp_skip (M3 bk aj.cells (v:=.tuple #[]) kz ?_)
 refine ⟨_,rfl,fun dq bn=>?_⟩
 let ae:Ob:=⟨b1,0,[.int .i64 0,ac,.bool false,ac,ac],true⟩
 let aI:Ob:=⟨ao,0,[ah,.int .i32 0,ah,af,af,ac,.map none],true⟩
 have bp:EnvOk 3 [ae,aI] [(2,.v (.tuple #[])),(1,.p 1 0)] _:=bn.places (⟨rfl,rfl,⟨rfl,rfl,trivial⟩⟩)
 refine B4 (A7 ?_)
 refine C1 [(0,.p 1 0)] aj bp fun dr bq=>?_
 refine wp_ret (D5 bq aj.cells (v:=.pointer (some ⟨ao,0,none⟩)) kz ?_)
 refine ⟨_,rfl,fun dt bt=>?_⟩
 have bu:EnvOk 20 [ae,aI] [(7,.v (.pointer (some ⟨ao,0,none⟩))),ak,(1,.v (.slice A2 ((H8 (IntKind.i16.wrap v) T).length) c2)),ab] _:=bt.places (⟨rfl,rfl,trivial⟩)
 have bw:=bu.recast 7 (.v (.pointer (some ⟨ao,0,none⟩))) (.p 1 0) rfl rfl (Nat.le_of_ble_eq_true (n:=2) rfl)
 have bz:=bw.pick (ks:=[0,1,4,7]) (env':=[ak,(1,.v (.slice A2 ((H8 (IntKind.i16.wrap v) T).length) c2)),ab,(7,.p 1 0)]) kz
 let ag:Nat × SV:=(6,.p 1 0)
 refine B3 [1] [] [ak,(1,.v (.slice A2 ((H8 (IntKind.i16.wrap v) T).length) c2)),ab,ag] aj bz fun du bD=>?_
 refine B4 (A7 ?_)
 refine B8 [0,1,2,3] kz ?_
 refine B3 [0,1,2] [3] [(1,.v (.slice A2 ((H8 (IntKind.i16.wrap v) T).length) c2)),ab,ag,(8,.p 1 0),(10,.v (.int .i16 (IntKind.i16.wrap v)))] aj bD fun dv bE=>?_
 let al:Value:=.int .i16 (IntKind.i16.wrap v)
 refine B1 (L6 bE (f:=42) (vs:=[ai,al]) (d:=11) (n':=8) kz Tryz.call42 Tryz.func42 rfl Tryz.ntmps42 kz fun dw bF=>?_)
 have bG:=bF.recast 0 (.v (.pointer (some ⟨ao,0,none⟩))) (.p 1 0) rfl rfl (Nat.le_of_ble_eq_true (n:=2) rfl)
 refine D9 [0,1,2,3,4] kz ?_
 refine B3 [0,1,2,3] [4] [(5,.v (.int .i16 (IntKind.i16.wrap v))),(7,.p 1 0)] aj bG fun dx bH=>?_
 refine B1 (C7 aj bH (oi:=1) (cs:=[al,.int .i32 0,ah,af,af,ac,.map none]) kz fun dy cX aG bI=>?_)
 refine B4 (M3 bI aG.cells (v:=.tuple #[]) kz ?_)
 refine ⟨_,rfl,fun dA bJ=>?_⟩
 let aJ:Ob:=⟨ao,0,[al,.int .i32 0,ah,af,af,ac,.map none],true⟩
 have bK:EnvOk 20 [ae,aJ] [(11,.v (.tuple #[])),(1,.v (.slice A2 ((H8 (IntKind.i16.wrap v) T).length) c2)),ab,ag,(8,.p 1 0),(10,.v (.int .i16 (IntKind.i16.wrap v)))] _:=bJ.places (⟨rfl,rfl,⟨rfl,rfl,trivial⟩⟩)
 refine B4 (A7 ?_)
 refine wp_seq (B8 [0,1,2,3,4] kz ?_)
 refine B3 [0,1] [2,3,4] [ab,ag,(12,.p 1 0),(13,.v (.slice A2 ((H8 (IntKind.i16.wrap v) T).length) c2))] aG bK fun dB bM=>?_
 have av:=aG.addNil 5 1
 have cY:=aG.frNil 5 1
 refine B1 (I7 av bM (k:=0) (d:=14) (t:=30) (e:=5) (size:=1) (bytes:=1) (A:=none) (As:=A2) (m0:=0) (c:=0) (m:=((H8 (IntKind.i16.wrap v) T).length)) (cs:=c2) (xs:=[]) (news:=bc (H8 (IntKind.i16.wrap v) T)) kz kz rfl (hs_.move av.step B0 av.imm).src (hs_.move av.step B0 av.imm).cap (by first | omega | (simp only [List.length_nil]; omega) | (simp; omega)) fun ar au dC dD cZ bN bO=>?_)
 have bP:(⟨ar,au,5,1,0 + (H8 (IntKind.i16.wrap v) T).length,[] ++ bc (H8 (IntKind.i16.wrap v) T)⟩:Rw) = B6 ar au 5 (H8 (IntKind.i16.wrap v) T):=by rw [List.nil_append,Nat.zero_add]
 obtain ⟨aH,da⟩:=bN.rowEq 0 [B6 ar au 5 (H8 (IntKind.i16.wrap v) T)] bP
 have bQ:=EnvOk.pick bO (ks:=[4,6,12,13,14]) (env':=[ab,ag,(12,.p 1 0),(13,.v (.slice A2 ((H8 (IntKind.i16.wrap v) T).length) c2)),(14,.v (.slice ar (0 + (H8 (IntKind.i16.wrap v) T).length) au))]) kz
 have bR:=bQ.cast (env':=[ab,ag,(12,.p 1 0),(13,.v (.slice A2 ((H8 (IntKind.i16.wrap v) T).length) c2)),(14,.v (.slice ar ((H8 (IntKind.i16.wrap v) T).length) au))]) (by simp only [List.length_append,List.length_cons,List.length_nil,Nat.zero_add])
 refine B1 (L6 bR (f:=43) (vs:=[ai,.slice ar ((H8 (IntKind.i16.wrap v) T).length) au]) (d:=15) (n':=8) kz Tryz.call43 Tryz.func43 rfl Tryz.ntmps43 kz fun dE bS=>?_)
 have bT:=bS.recast 0 (.v (.pointer (some ⟨ao,0,none⟩))) (.p 1 0) rfl rfl (Nat.le_of_ble_eq_true (n:=2) rfl)
 refine C1 [(0,.p 1 0),(1,.v (.slice ar ((H8 (IntKind.i16.wrap v) T).length) au))] aH bT fun dF bU=>?_
 refine B8 [0,1,2,3] kz ?_
 refine B3 [0,1] [2,3] [(5,.p 1 0),(6,.v (.slice ar ((H8 (IntKind.i16.wrap v) T).length) au))] aH bU fun dG bV=>?_
 have bW:=aH.giveUp (G:=P8) 0 [] (show _ = some (B6 ar au 5 (H8 (IntKind.i16.wrap v) T)) from rfl) (by omega)
 obtain ⟨aQ,db⟩:=aH.cutR 0 []
 refine B1 (C3 bV (f:=83) (vs:=[ai,.slice ar ((H8 (IntKind.i16.wrap v) T).length) au,.bool false]) (d:=7) kz Tryz.call83 (NV (IntKind.i16.wrap v) T (Str.of aQ 1 rfl) bW (Cf 1 rfl) hc hkey) ?_)
 rintro e_ dH ⟨aw,rfl,bX,bY,bZ,aR⟩
 let am:Ob:=⟨ao,0,[al,.int .i32 ((aw.f 0).n),.int .i16 ((aw.f 1).n),.pointer ((aw.f 2).A),.pointer ((aw.f 3).A),.slice ((aw.f 4).A) ((aw.f 4).o.length) ((aw.f 4).c),.map aw.m],true⟩
 obtain ⟨ap,dc,cd⟩:=aQ.wrote 1 [ae,am] rfl aR bX
 have ce:=JL _ (Step.refl _ B5) B0 cd bY
 refine ⟨_,rfl,fun dI cg=>?_⟩
 have cm:=(EnvOk.places (tb':=[ae,am]) cg (show Pl [ae,aJ] [ae,am] from ⟨rfl,rfl,⟨rfl,rfl,trivial⟩⟩)).pk (env':=[(7,.v (.nilIface)),(5,.p 1 0),(6,.v (.slice ar ((H8 (IntKind.i16.wrap v) T).length) au))])
 refine B3 [3] [] [(4,.v (.nilIface))] ap cm fun dJ cn=>?_
 refine B4 (A7 ?_)
 refine wp_ret (D5 cn ap.cells (v:=.nilIface) kz ?_)
 refine ⟨_,rfl,fun dK cq=>?_⟩
 have cr:EnvOk 20 [ae,am] [(15,.v (.nilIface)),ab,ag,(12,.p 1 0),(13,.v (.slice A2 ((H8 (IntKind.i16.wrap v) T).length) c2)),(14,.v (.slice ar ((H8 (IntKind.i16.wrap v) T).length) au))] _:=cq.places (⟨rfl,rfl,⟨rfl,rfl,trivial⟩⟩)
 refine B3 [4] [] [ab,ag,(16,.v (.bool false))] ap cr fun dL aS=>?_
 refine B4 (A7 ?_)
 refine F6 aS (b:=false) kz rfl ?_
 refine wp_skip (A7 (B8 [0,1,2,3] kz ?_))
 refine B3 [0] [1,2,3] [ab,(18,.p 1 0)] ap aS fun dM cu=>?_
 have aT:=cu.recast 18 (.p 1 0) (.v (.pointer (some ⟨ao,0,none⟩))) rfl rfl trivial
 let aK:C8:=[ab,(18,.v (.pointer (some ⟨ao,0,none⟩)))]
 have aU:=aT.pk (env':=aK)
 have aN:=WOk.strOut (G:=P8) [ae] ap
 obtain ⟨aV,ax,aL⟩:=ap.cutB aU 1 [ae] aK
 have aW:=JL _ aL.step immM aL.to' ce
 refine B1 (C3 aV (f:=44) (vs:=[ai]) (d:=19) kz Tryz.call44 (NW (IntKind.i16.wrap v) aw ao 0 _ _ aN aW) ?_)
 rintro e_ de ⟨cO,rfl,aX,ay⟩
 have aA:=aX.move (Step.refl _ B5) B0 (ax.laid (G:=P8) ay)
 obtain ⟨aO,cw,aP,cz,cA,cB,cC,cE,cG,cH,cI,cP,cQ,aB,cJ,cK,df,dg⟩:=aA.open_
 rw [aB] at aA
 have cL:=cJ.small
 have cM:=cK.small
 rw [aB]
 refine ⟨_,rfl,fun dh aY=>?_⟩
 have aZ:=ax.next_nil ay
 have cR:=ax.frN ay
 let aC:Value:=.slice cB cw.length cC
 let aD:Value:=.slice cE cz.length cG
 let aE:Value:=.slice cH cA.length cI
 refine B1 (C7 aZ aY (oi:=0) (cs:=[.int .i64 aO,aC,.bool aP,aD,aE]) kz fun cN aM aF ba=>?_)
 refine B3 [3] [] [ab,(5,.v (.bool true))] aF ba fun di bd=>?_
 refine B4 (A7 ?_)
 refine wp_ret (D5 bd aF.cells (v:=.tuple #[.agg #[.int .i64 aO,aC,.bool aP,aD,aE],.bool true]) kz ?_)
 exact ⟨aw,_,rfl,(show TreeR _ (D4 P8 w cN [⟨b1,0,[.int .i64 aO,aC,.bool aP,aD,aE],true⟩] []) _ (BH aw) from (aA.move aM.step immM aM.to')).move (Step.refl _ B5) B0 G0,bZ,aF.step⟩
theorem Pn (v:Int) (T:Tree) (B:Bs) {A2:Option Addr} {c2:Nat} {w:World} {F:Nat → Nat → Prop} (hB:(H8 (IntKind.i16.wrap v) T) = B) (hs_:Octs w F A2 c2 B) (hc:Y8 T) (hkey:T.ranged) (hroom:B.length + 16 ≤ 1099511627776) :
  Calls Tryz.prog 22 #[.int .i64 v,.slice A2 B.length c2] w (fun e w'=>∃ D cs,e = .returned (.tuple #[.agg cs.toArray,.bool true]) ∧ TreeR w' (Fp P8 w) cs (BH D) ∧ BG (IntKind.i16.wrap v) D T ∧ Step w w' B5):=by
 subst hB
 exact Pm v T hs_ hc hkey hroom
end Go.Proofs.YtipblegipibplaaGreatDoor.ME
namespace Go.Proofs.YtipblegipibplaaGreatDoor.ME
open Go
open Go.RowKit
set_option linter.unusedVariables false
set_option linter.unusedSimpArgs false
section
variable {P:Program} {n:Nat} {w0:World} {A0:Option Addr} {e8 d:Nat} {tb:Tb} {env e1 env':C8} {c c1 c2:Code} {x x1 x2 y:Bs}
def JM (N:Act → World → Prop):Exit → Act → World → Prop:=fun e a w=>e = .normal ∧ N a w
theorem Po {N:Act → World → Prop}:S7 (JM N):=fun ch a d v w h=>by cases h.1
end
end Go.Proofs.YtipblegipibplaaGreatDoor.ME