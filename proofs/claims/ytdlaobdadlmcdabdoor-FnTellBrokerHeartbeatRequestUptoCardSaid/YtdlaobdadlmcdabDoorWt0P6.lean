/- The texts of a claim, put together: the engine, the contracts, the law. Own work. -/
import Derived.Test.YtdlaobdadlmcdabDoorWt0P5
namespace Go.Proofs.YtdlaobdadlmcdabDoor.ME
open Go
open Go.RowKit
set_option linter.unusedVariables false
set_option linter.unusedSimpArgs false
set_option maxRecDepth 20000
theorem qfG (k n:Int) (w:World):Calls Tryd.prog 42 #[.int .i64 k,.int .i64 n] w (qbO w (.int .i64 (qbd k n))):=by
 refine enter (n:=31) Tryd.func42 rfl Tryd.ntmps42 kz fun a hE=>?_
 have hW:=WOk.start w Nil
 refine qar [(0,.v (.int .i64 k)),(1,.v (.int .i64 n))] hW hE fun a1 hE2=>?_
 refine wp_seq ?_
 refine qar [(1,.v (.int .i64 n)),(5,.v (.int .i64 k))] hW hE2 fun a3 hE4=>?_
 refine wp_block ?_
 refine qar [(1,.v (.int .i64 n)),(5,.v (.int .i64 k)),(6,.v (.bool (k == 0)))] hW hE4 fun a5 hE6=>?_
 refine qay hE6 (b:=k == 0) kz (fun hc7=>?_) (fun hc7=>?_)
 ·
  have hf8:k = 0:=by simpa using hc7
  refine qar [(4,.v (.int .i64 (IntKind.i64.wrap (BitVec.ofInt 64 n &&& BitVec.ofInt 64 1).toNat)))] hW hE6 fun a9 aj=>?_
  refine wp_ret ?_
  refine qax ?_
  refine qao ?_
  refine qaJ aj hW.cells (v:=.int .i64 (IntKind.i64.wrap (BitVec.ofInt 64 n &&& BitVec.ofInt 64 1).toNat)) kz ?_
  exact ⟨by (try simp only [and1]); simp_all [qbd,qhU,qfg,qeW,qel],hW.step⟩
 have ar:k ≠ 0:=by simpa using hc7
 refine qar [(1,.v (.int .i64 n)),(5,.v (.int .i64 k)),(10,.v (.bool (k == 1)))] hW hE6 fun aC aa=>?_
 refine qay aa (b:=k == 1) kz (fun ab=>?_) (fun ab=>?_)
 ·
  have au:k = 1:=by simpa using ab
  refine qar [(4,.v (.int .i64 (IntKind.i64.wrap (IntKind.i8.wrap n))))] hW aa fun aD ak=>?_
  refine wp_ret ?_
  refine qax ?_
  refine qao ?_
  refine qaJ ak hW.cells (v:=.int .i64 (IntKind.i64.wrap (IntKind.i8.wrap n))) kz ?_
  exact ⟨by (try simp only [and1]); simp_all [qbd,qhU,qfg,qeW,qel],hW.step⟩
 have av:k ≠ 1:=by simpa using ab
 refine qar [(1,.v (.int .i64 n)),(5,.v (.int .i64 k)),(15,.v (.bool (k == 2)))] hW aa fun aE ac=>?_
 refine qay ac (b:=k == 2) kz (fun ae=>?_) (fun ae=>?_)
 ·
  have aw:k = 2:=by simpa using ae
  refine qar [(4,.v (.int .i64 (IntKind.i64.wrap (IntKind.i16.wrap n))))] hW ac fun aF al=>?_
  refine wp_ret ?_
  refine qax ?_
  refine qao ?_
  refine qaJ al hW.cells (v:=.int .i64 (IntKind.i64.wrap (IntKind.i16.wrap n))) kz ?_
  exact ⟨by (try simp only [and1]); simp_all [qbd,qhU,qfg,qeW,qel],hW.step⟩
 have ax:k ≠ 2:=by simpa using ae
 refine qar [(1,.v (.int .i64 n)),(5,.v (.int .i64 k)),(20,.v (.bool (k == 3)))] hW ac fun aG af=>?_
 refine qay af (b:=k == 3) kz (fun ag=>?_) (fun ag=>?_)
 ·
  have ay:k = 3:=by simpa using ag
  refine qar [(4,.v (.int .i64 (IntKind.i64.wrap (IntKind.i32.wrap n))))] hW af fun aH am=>?_
  refine wp_ret ?_
  refine qax ?_
  refine qao ?_
  refine qaJ am hW.cells (v:=.int .i64 (IntKind.i64.wrap (IntKind.i32.wrap n))) kz ?_
  exact ⟨by (try simp only [and1]); simp_all [qbd,qhU,qfg,qeW,qel],hW.step⟩
 have az:k ≠ 3:=by simpa using ag
 refine qar [(1,.v (.int .i64 n)),(25,.v (.bool (k == 5)))] hW af fun aI ah=>?_
 refine qay ah (b:=k == 5) kz (fun ai=>?_) (fun ai=>?_)
 ·
  have aA:k = 5:=by simpa using ai
  refine qar [(4,.v (.int .i64 (IntKind.i64.wrap (IntKind.u16.wrap n))))] hW ah fun aJ ao=>?_
  refine wp_ret ?_
  refine qax ?_
  refine qao ?_
  refine qaJ ao hW.cells (v:=.int .i64 (IntKind.i64.wrap (IntKind.u16.wrap n))) kz ?_
  exact ⟨by (try simp only [and1]); simp_all [qbd,qhU,qfg,qeW,qel],hW.step⟩
 have aB:k ≠ 5:=by simpa using ai
 refine wp_skip ?_
 refine qaq ?_
 refine qab ?_
 refine qar [(4,.v (.int .i64 n))] hW ah fun aK ap=>?_
 refine wp_ret ?_
 refine qaJ ap hW.cells (v:=.int .i64 n) kz ?_
 exact ⟨by (try simp only [and1]); simp_all [qbd,qhU,qfg,qeW,qel],hW.step⟩
def UsOK (U:List Fld → Tree → Prop):Prop:=∀ (A:Option Addr) (c:Nat) (l:List Fld) (ct:List Value) (g:Tree) (w:World) (F:Nat → Nat → Prop),FldsR w F A c l → TreeR w F ct g → U l g →
  Calls Tryd.prog 24 #[.slice A l.length c,.agg ct.toArray] w (qbO w (.bool true))
theorem sUs {U:List Fld → Tree → Prop} (hu:UsOK U) (A:Option Addr) (c:Nat) (l:List Fld) (ct:List Value) (g:Tree) (w:World) (F:Nat → Nat → Prop) (hl:FldsR w F A c l) (ht:TreeR w F ct g) (hU:UsP U l g) :
  Calls Tryd.prog 24 #[.slice A l.length c,.agg ct.toArray] w (qbO w (.bool true)):=by
 obtain ⟨xfs,h1,h2⟩:=hl.ex
 have hsm:=h1.small
 obtain ⟨n1,s2,b3,l4,u5,A6,c7,A8,c9,aJ,aK,fS,rfl,rfl,fT,fU,iE,iF⟩:=ht.open_
 have eZ:=fT.small
 have e9:=fU.small
 refine enter (n:=89) Tryd.func24 rfl Tryd.ntmps24 kz fun a hE=>?_
 have hW:=WOk.start w Nil
 refine qag [0,1] kz ?_
 refine qam (qa7 hW hE (d:=3) (cs:=[.int .i64 n1,.slice A6 s2.length c7,.bool b3,.slice A8 l4.length c9,.slice aJ u5.length aK]) kz fun bA iG iH fV fW fX aA eF=>?_)
 refine qaj [1] [] [(0,.v (.slice A l.length c)),(3,.p 0 0)] aA eF fun iI eG=>?_
 refine qaf (qab ?_)
 refine wp_seq ?_
 refine qar [(0,.v (.slice A l.length c)),(3,.p 0 0),(11,.v (.bool (decide (((u5.length:Nat):Int) > 0))))] aA eG fun iJ cB=>?_
 refine qay cB (b:=decide (((u5.length:Nat):Int) > 0)) kz (fun cC=>?_) (fun cC=>?_)
 ·
  have fY:=of_decide_eq_true cC
  refine qar [(4,.v (.bool false))] aA cB fun iK eH=>?_
  refine wp_ret ?_
  refine qao ?_
  refine qaJ eH aA.cells (v:=.bool false) kz ?_
  exact (us_u (g:=(Tree.mk n1 s2 b3 l4 u5)) hU.1 rfl ‹_›).elim
 have fZ:=of_decide_eq_false cC
 refine wp_skip ?_
 refine qab ?_
 refine wp_seq ?_
 refine qar [(3,.p 0 0),(12,.v (.slice A l.length c)),(13,.v (.int .i64 ((l.length:Nat):Int))),(14,.v (.int .i64 0))] aA cB fun iL eI=>?_
 refine wp_block ?_
 refine wp_loop_ghost (fun n_ a_ w_=>∃ (k:Nat),n_ = l.length - k ∧ k ≤ l.length ∧ LInv aA 89 [⟨bA,0,[.int .i64 n1,.slice A6 s2.length c7,.bool b3,.slice A8 l4.length c9,.slice aJ u5.length aK],true⟩] [] [(3,.p 0 0),(12,.v (.slice A l.length c)),(13,.v (.int .i64 ((l.length:Nat):Int))),(14,.v (.int .i64 ((k:Nat):Int)))] a_ w_) (l.length) ⟨0,by omega,by omega,eI.pk,aA,Fr.refl _ _ _⟩ ?_
 rintro iM iN iO ⟨k,f5,f7,eJ,aB,aj⟩
 refine qar [(3,.p 0 0),(12,.v (.slice A l.length c)),(13,.v (.int .i64 ((l.length:Nat):Int))),(14,.v (.int .i64 ((k:Nat):Int))),(15,.v (.bool (decide (((k:Nat):Int) < ((l.length:Nat):Int)))))] aB eJ fun iP cD=>?_
 refine wp_seq ?_
 refine qay cD (b:=decide (((k:Nat):Int) < ((l.length:Nat):Int))) kz (fun cE=>?_) (fun cE=>?_)
 ·
  have f8:=of_decide_eq_true cE
  refine wp_skip ?_
  refine qab ?_
  refine wp_seq ?_
  refine wp_block ?_
  refine qag [0,1,2,3,4,5] kz ?_
  refine qaj [0] [1,2,3,4,5] [(3,.p 0 0),(12,.v (.slice A l.length c)),(13,.v (.int .i64 ((l.length:Nat):Int))),(14,.v (.int .i64 ((k:Nat):Int))),(16,.v (.int .i64 ((k:Nat):Int)))] aB cD fun iQ eK=>?_
  obtain ⟨f9,ga,eL,gb,bC⟩:=Slots.get h1 (i:=k) (by omega)
  obtain ⟨gc,cG⟩:∃ x,l[k]? = some x:=⟨_,List.getElem?_eq_getElem (by omega)⟩
  have cH:=h2 k gc cG
  obtain ⟨ae,eB,eC,aE,eD,aM,eE,bB,bD,bE,cI,rfl,bF,eM,fa⟩:=cH.open_
  rw [bF] at cH
  have fb:=eM.small
  rw [bF] at bC
  refine qam (qaC eK (t:=29) (A:=A) (m:=l.length) (q:=((k:Nat):Int)) (d:=17) kz (e:=51) (size:=8) (bytes:=80) kz eL rfl (by omega) fun iR eN=>?_)
  refine qam (qaM eN (t:=51) (b:=f9) (o:=ga + k * 8) (d:=18) kz (cs:=[.int .i64 ae,.int .i64 eB,.int .i64 eC,.int .i64 aE,.int .i64 eD,.int .i64 aM,.int .i64 eE,.slice bD bB.length bE]) (v:=.agg #[.int .i64 ae,.int .i64 eB,.int .i64 eC,.int .i64 aE,.int .i64 eD,.int .i64 aM,.int .i64 eE,.slice bD bB.length bE]) kz (AtF.move bC aB.step nilM qaX).at_ fun iS eO=>?_)
  refine qam (qaR aB eO (d:=6) (cs:=[.int .i64 0,.int .i64 0,.int .i64 0,.int .i64 0,.int .i64 0,.int .i64 0,.int .i64 0,.slice none 0 0]) kz fun iT iU iV gd ge ak cJ eP=>?_)
  refine qaj [4] [5] [(3,.p 0 0),(5,.v (.int .i64 ((k:Nat):Int))),(6,.p 1 0),(12,.v (.slice A l.length c)),(13,.v (.int .i64 ((l.length:Nat):Int))),(14,.v (.int .i64 ((k:Nat):Int))),(18,.v (.agg #[.int .i64 ae,.int .i64 eB,.int .i64 eC,.int .i64 aE,.int .i64 eD,.int .i64 aM,.int .i64 eE,.slice bD bB.length bE]))] cJ eP fun iW eQ=>?_
  refine qam (qav cJ eQ (oi:=1) (cs:=[.int .i64 ae,.int .i64 eB,.int .i64 eC,.int .i64 aE,.int .i64 eD,.int .i64 aM,.int .i64 eE,.slice bD bB.length bE]) kz fun iX al aL eR=>?_)
  refine qaf (qab ?_)
  refine qag [0,1,2,3,4] kz ?_
  refine qaj [0,1] [2,3,4] [(3,.p 0 0),(6,.p 1 0),(12,.v (.slice A l.length c)),(13,.v (.int .i64 ((l.length:Nat):Int))),(14,.v (.int .i64 ((k:Nat):Int))),(19,.v (.agg #[.int .i64 n1,.slice A6 s2.length c7,.bool b3,.slice A8 l4.length c9,.slice aJ u5.length aK])),(20,.v (.int .i64 ((k:Nat):Int)))] aL eR fun iY eS=>?_
  refine qam (qal eS (f:=20) (vs:=[.agg #[.int .i64 n1,.slice A6 s2.length c7,.bool b3,.slice A8 l4.length c9,.slice aJ u5.length aK],.int .i64 ((k:Nat):Int)]) (d:=21) kz Tryd.call20 (sAt _ _ k _ _ (ht.move aL.step nilM aL.imm)) ?_)
  rintro e_ gg ⟨gh,rfl,eU,aN⟩
  have aF:=eU.move aN nilM (fun b o h_ hb_=>aL.laid (G:=F) aN b o (.inl h_) (Nat.lt_of_lt_of_le hb_ aN.size))
  obtain ⟨ai,af,ah,am,aO,aC,aD,aP,aQ,aR,aS,fe,aT,aU,cK,eV,gi,gj⟩:=aF.open_
  rw [aU] at aF
  have eW:=cK.small
  have eX:=eV.small
  rw [aU]
  refine ⟨_,rfl,fun gk cL=>?_⟩
  have cM:=aL.next_nil aN
  have ag:=aL.frN aN
  have hq_:=hU.2 k _ cG
  rw [aT] at hq_
  refine qam (qaR cM cL (d:=7) (cs:=[.int .i64 0,.slice none 0 0,.bool false,.slice none 0 0,.slice none 0 0]) kz fun gl gm gn ff fg ab cN cO=>?_)
  refine qam (qav cN cO (oi:=2) (cs:=[.int .i64 ai,.slice aC af.length aD,.bool ah,.slice aP am.length aQ,.slice aR aO.length aS]) kz fun gp ac aa cP=>?_)
  refine qaf (qab ?_)
  refine qar [(3,.p 0 0),(6,.p 1 0),(7,.p 2 0),(12,.v (.slice A l.length c)),(13,.v (.int .i64 ((l.length:Nat):Int))),(14,.v (.int .i64 ((k:Nat):Int))),(23,.v (.int .i64 ae))] aa cP fun gq cQ=>?_
  refine wp_block ?_
  refine qar [(3,.p 0 0),(6,.p 1 0),(7,.p 2 0),(12,.v (.slice A l.length c)),(13,.v (.int .i64 ((l.length:Nat):Int))),(14,.v (.int .i64 ((k:Nat):Int))),(23,.v (.int .i64 ae)),(32,.v (.bool (ae == 8)))] aa cQ fun gt aV=>?_
  refine qay aV (b:=ae == 8) kz (fun aW=>?_) (fun aW=>?_)
  ·
   have fh:ae = 8:=by simpa using aW
   refine qag [0,1,2,3,4,5,6,7,8,9,10,11] kz ?_
   refine qaj [0,1,2,3,4,5,6] [7,8,9,10,11] [(3,.p 0 0),(7,.p 2 0),(12,.v (.slice A l.length c)),(13,.v (.int .i64 ((l.length:Nat):Int))),(14,.v (.int .i64 ((k:Nat):Int))),(40,.v (.bool (!(ah == (decide (aE ≥ 0))))))] aa aV fun gv bG=>?_
   refine (Bool.eq_false_or_eq_true (!(ah == (decide (aE ≥ 0))))).elim (fun ao=>?_) (fun ao=>?_)
   ·
    have fi:!(ah = (decide (aE ≥ 0))):=by simpa using ao
    have cR:=bG.cast (env':=[(3,.p 0 0),(7,.p 2 0),(12,.v (.slice A l.length c)),(13,.v (.int .i64 ((l.length:Nat):Int))),(14,.v (.int .i64 ((k:Nat):Int))),(40,.v (.bool true))]) (by rw [ao])
    refine qaj [7,8,9,10,11] [] [(3,.p 0 0),(12,.v (.slice A l.length c)),(13,.v (.int .i64 ((l.length:Nat):Int))),(14,.v (.int .i64 ((k:Nat):Int))),(45,.v (.bool true))] aa cR fun gw bH=>?_
    refine qaf (qab ?_)
    refine qaU bH (b:=true) kz rfl ?_
    refine qar [(4,.v (.bool false))] aa bH fun gx cS=>?_
    refine wp_ret ?_
    refine qax ?_
    refine qax ?_
    refine qao ?_
    refine qao ?_
    refine qax ?_
    refine qao ?_
    refine qaJ cS aa.cells (v:=.bool false) kz ?_
    first
     | exact (qfA hq_ ‹_› ‹_›).elim
     | exact (qfB hq_ ‹_› ‹_›).elim
     | exact (us_7 hq_ ‹_› ‹_›).elim
     | exact (qfC hq_ ‹_› ‹_›).elim
     | exact (qfD hq_ ‹_› ‹_›).elim
     | exact (qd5 hq_ ‹_› ‹_›).elim
     | exact (qd6 hq_ ‹_› ‹_›).elim
     | exact (qfE hq_ ‹_› ‹_› ‹_›).elim
     | exact (us_n hq_ ‹_› ‹_› ‹_› ‹_› ‹_› ‹_›).elim
   have fj:!(ah ≠ (decide (aE ≥ 0))):=by simpa using ao
   have cT:=bG.cast (env':=[(3,.p 0 0),(7,.p 2 0),(12,.v (.slice A l.length c)),(13,.v (.int .i64 ((l.length:Nat):Int))),(14,.v (.int .i64 ((k:Nat):Int))),(40,.v (.bool false))]) (by rw [ao])
   refine qaj [7,8,9,10,11] [] [(3,.p 0 0),(12,.v (.slice A l.length c)),(13,.v (.int .i64 ((l.length:Nat):Int))),(14,.v (.int .i64 ((k:Nat):Int))),(45,.v (.bool (decide (((af.length:Nat):Int) > 0))))] aa cT fun gy aX=>?_
   refine qaf (qab ?_)
   refine qay aX (b:=decide (((af.length:Nat):Int) > 0)) kz (fun aY=>?_) (fun aY=>?_)
   ·
    have fk:=of_decide_eq_true aY
    refine qar [(4,.v (.bool false))] aa aX fun gz cU=>?_
    refine wp_ret ?_
    refine qax ?_
    refine qax ?_
    refine qao ?_
    refine qao ?_
    refine qax ?_
    refine qao ?_
    refine qaJ cU aa.cells (v:=.bool false) kz ?_
    first
     | exact (qfA hq_ ‹_› ‹_›).elim
     | exact (qfB hq_ ‹_› ‹_›).elim
     | exact (us_7 hq_ ‹_› ‹_›).elim
     | exact (qfC hq_ ‹_› ‹_›).elim
     | exact (qfD hq_ ‹_› ‹_›).elim
     | exact (qd5 hq_ ‹_› ‹_›).elim
     | exact (qd6 hq_ ‹_› ‹_›).elim
     | exact (qfE hq_ ‹_› ‹_› ‹_›).elim
     | exact (us_n hq_ ‹_› ‹_› ‹_› ‹_› ‹_› ‹_›).elim
   have fm:=of_decide_eq_false aY
   refine wp_skip ?_
   refine qaq ?_
   refine qaq ?_
   refine qab ?_
   refine qat [0,1] kz ?_
   refine qaj [0,1] [] [(3,.p 0 0),(12,.v (.slice A l.length c)),(13,.v (.int .i64 ((l.length:Nat):Int))),(14,.v (.int .i64 (IntKind.i64.wrap (((k:Nat):Int) + 1))))] aa aX fun gA cV=>?_
   refine qaf (qab ?_)
   obtain ⟨bI,cW,cX⟩:=aa.cutB cV 1 [⟨bA,0,[.int .i64 n1,.slice A6 s2.length c7,.bool b3,.slice A8 l4.length c9,.slice aJ u5.length aK],true⟩] [(3,.p 0 0),(12,.v (.slice A l.length c)),(13,.v (.int .i64 ((l.length:Nat):Int))),(14,.v (.int .i64 (IntKind.i64.wrap (((k:Nat):Int) + 1))))]
   have cY:IntKind.i64.wrap (((k:Nat):Int) + 1) = ((k + 1:Nat):Int):=qaN (by omega)
   rw [cY] at bI
   exact ⟨l.length - (k + 1),by omega,k + 1,rfl,by omega,bI.pk,cW,((((((aj.trans ak).trans al).trans ag).trans ab).trans ac).trans cX)⟩
  have fo:ae ≠ 8:=by simpa using aW
  refine qar [(3,.p 0 0),(6,.p 1 0),(7,.p 2 0),(12,.v (.slice A l.length c)),(13,.v (.int .i64 ((l.length:Nat):Int))),(14,.v (.int .i64 ((k:Nat):Int))),(23,.v (.int .i64 ae)),(46,.v (.bool (ae == 7)))] aa aV fun gB aZ=>?_
  refine qay aZ (b:=ae == 7) kz (fun ba=>?_) (fun ba=>?_)
  ·
   have fq:ae = 7:=by simpa using ba
   refine qaG 5 kz aa fun gC bd cZ c5=>?_
   refine qaD [0,1] [(3,.p 0 0),(12,.v (.slice A l.length c)),(13,.v (.int .i64 ((l.length:Nat):Int))),(14,.v (.int .i64 ((k:Nat):Int))),(49,.v (.slice aC af.length aD))] 3 (qaa (qac (qac (qaa (qaa (qac (qaa qad))))))) (fun _ h=>h.cells) c5 aZ fun gD c6=>?_
   refine qaw (i:=2) kz (qb2 cZ c6 (d:=50) (j:=16) (t:=22) (e:=5) (bytes:=1) (z:=.int .u8 0) kz kz kz kz (rfl) (rfl) (by omega) fun eY gE gF fr ft ap aG da=>?_)
   have db:=TT.ofW ap aG
   refine ⟨fun _=>db,?_⟩
   refine qaw (i:=3) kz (qal da (f:=26) (vs:=[.slice aC af.length aD,.slice (some ⟨eY,0,none⟩) 16 16]) (d:=51) kz Tryd.call26 (qdM _ _ _ _ af (List.replicate 16 0:Bs) _ _ ((cK.move (((ab.trans ac).trans bd).trans ap).step immM (((ab.trans ac).trans bd).trans ap).to').move (Step.refl _ Nil) nilM allF) (qi7 (aG.own 0 _ rfl) (F:=fun _ _=>True) (fun _ _ _=>trivial))) ?_)
   rintro e_ gG ⟨rfl,bJ⟩
   refine ⟨_,rfl,fun gH dc=>?_⟩
   have ar:=aG.next_nil bJ
   have bK:=aG.frN bJ
   have bL:=TT.ofW (ap.trans bK) ar
   refine ⟨fun _=>bL,?_⟩
   refine qaD [4] [(3,.p 0 0),(12,.v (.slice A l.length c)),(13,.v (.int .i64 ((l.length:Nat):Int))),(14,.v (.int .i64 ((k:Nat):Int))),(52,.v (.bool (!(decide (af = (List.replicate 16 0:Bs))))))] 0 (qaa (qac (qac (qaa (qaa (qac (qaa qad))))))) (fun _ h=>h.cells) bL dc fun gI bf=>?_
   refine qaF kz ?_ _
   refine qab ?_
   refine qay bf (b:=!(decide (af = (List.replicate 16 0:Bs)))) kz (fun de=>?_) (fun de=>?_)
   ·
    refine qar [(4,.v (.bool false))] ar bf fun gJ df=>?_
    refine wp_ret ?_
    refine qax ?_
    refine qax ?_
    refine qao ?_
    refine qao ?_
    refine qax ?_
    refine qao ?_
    refine qaJ df ar.cells (v:=.bool false) kz ?_
    first
     | exact (qfA hq_ ‹_› ‹_›).elim
     | exact (qfB hq_ ‹_› ‹_›).elim
     | exact (us_7 hq_ ‹_› ‹_›).elim
     | exact (qfC hq_ ‹_› ‹_›).elim
     | exact (qfD hq_ ‹_› ‹_›).elim
     | exact (qd5 hq_ ‹_› ‹_›).elim
     | exact (qd6 hq_ ‹_› ‹_›).elim
     | exact (qfE hq_ ‹_› ‹_› ‹_›).elim
     | exact (us_n hq_ ‹_› ‹_› ‹_› ‹_› ‹_› ‹_›).elim
   refine wp_skip ?_
   refine qaq ?_
   refine qaq ?_
   refine qab ?_
   refine qat [0,1] kz ?_
   refine qaj [0,1] [] [(3,.p 0 0),(12,.v (.slice A l.length c)),(13,.v (.int .i64 ((l.length:Nat):Int))),(14,.v (.int .i64 (IntKind.i64.wrap (((k:Nat):Int) + 1))))] ar bf fun gK dg=>?_
   refine qaf (qab ?_)
   obtain ⟨bM,dh,di⟩:=ar.cutB dg 1 [⟨bA,0,[.int .i64 n1,.slice A6 s2.length c7,.bool b3,.slice A8 l4.length c9,.slice aJ u5.length aK],true⟩] [(3,.p 0 0),(12,.v (.slice A l.length c)),(13,.v (.int .i64 ((l.length:Nat):Int))),(14,.v (.int .i64 (IntKind.i64.wrap (((k:Nat):Int) + 1))))]
   obtain ⟨dj,dl⟩:=dh.cutR 0 []
   have dp:IntKind.i64.wrap (((k:Nat):Int) + 1) = ((k + 1:Nat):Int):=qaN (by omega)
   rw [dp] at bM
   exact ⟨l.length - (k + 1),by omega,k + 1,rfl,by omega,bM.pk,dj,((((((((((aj.trans ak).trans al).trans ag).trans ab).trans ac).trans bd).trans ap).trans bK).trans di).trans dl)⟩
  have fu:ae ≠ 7:=by simpa using ba
  refine wp_seq ?_
  refine qar [(3,.p 0 0),(6,.p 1 0),(7,.p 2 0),(12,.v (.slice A l.length c)),(13,.v (.int .i64 ((l.length:Nat):Int))),(14,.v (.int .i64 ((k:Nat):Int))),(23,.v (.int .i64 ae)),(53,.v (.bool (ae == 9)))] aa aZ fun gL aH=>?_
  refine qay aH (b:=ae == 9) kz (fun aI=>?_) (fun aI=>?_)
  ·
   have fv:ae = 9:=by simpa using aI
   refine wp_skip ?_
   refine qab ?_
   refine qaU aH (b:=ae == 9) kz (aI) ?_
   refine qag [0,1,2,3,4,5,6,7,8,9] kz ?_
   refine qaj [0,1,2,3,4] [5,6,7,8,9] [(3,.p 0 0),(7,.p 2 0),(12,.v (.slice A l.length c)),(13,.v (.int .i64 ((l.length:Nat):Int))),(14,.v (.int .i64 ((k:Nat):Int))),(60,.v (.bool (decide (((af.length:Nat):Int) > 0))))] aa aH fun gM bN=>?_
   refine (Bool.eq_false_or_eq_true (decide (((af.length:Nat):Int) > 0))).elim (fun au=>?_) (fun au=>?_)
   ·
    have fw:=of_decide_eq_true au
    have dq:=bN.cast (env':=[(3,.p 0 0),(7,.p 2 0),(12,.v (.slice A l.length c)),(13,.v (.int .i64 ((l.length:Nat):Int))),(14,.v (.int .i64 ((k:Nat):Int))),(60,.v (.bool true))]) (by rw [au])
    refine qaj [5,6,7,8,9] [] [(3,.p 0 0),(12,.v (.slice A l.length c)),(13,.v (.int .i64 ((l.length:Nat):Int))),(14,.v (.int .i64 ((k:Nat):Int))),(65,.v (.bool true))] aa dq fun gN bO=>?_
    refine qaf (qab ?_)
    refine qaU bO (b:=true) kz rfl ?_
    refine qar [(4,.v (.bool false))] aa bO fun gO dr=>?_
    refine wp_ret ?_
    refine qax ?_
    refine qax ?_
    refine qao ?_
    refine qao ?_
    refine qax ?_
    refine qao ?_
    refine qaJ dr aa.cells (v:=.bool false) kz ?_
    first
     | exact (qfA hq_ ‹_› ‹_›).elim
     | exact (qfB hq_ ‹_› ‹_›).elim
     | exact (us_7 hq_ ‹_› ‹_›).elim
     | exact (qfC hq_ ‹_› ‹_›).elim
     | exact (qfD hq_ ‹_› ‹_›).elim
     | exact (qd5 hq_ ‹_› ‹_›).elim
     | exact (qd6 hq_ ‹_› ‹_›).elim
     | exact (qfE hq_ ‹_› ‹_› ‹_›).elim
     | exact (us_n hq_ ‹_› ‹_› ‹_› ‹_› ‹_› ‹_›).elim
   have fx:=of_decide_eq_false au
   have dt:=bN.cast (env':=[(3,.p 0 0),(7,.p 2 0),(12,.v (.slice A l.length c)),(13,.v (.int .i64 ((l.length:Nat):Int))),(14,.v (.int .i64 ((k:Nat):Int))),(60,.v (.bool false))]) (by rw [au])
   refine qaj [5,6,7,8,9] [] [(3,.p 0 0),(12,.v (.slice A l.length c)),(13,.v (.int .i64 ((l.length:Nat):Int))),(14,.v (.int .i64 ((k:Nat):Int))),(65,.v (.bool (decide (((am.length:Nat):Int) > 0))))] aa dt fun gP bg=>?_
   refine qaf (qab ?_)
   refine qay bg (b:=decide (((am.length:Nat):Int) > 0)) kz (fun bh=>?_) (fun bh=>?_)
   ·
    have fy:=of_decide_eq_true bh
    refine qar [(4,.v (.bool false))] aa bg fun gQ du=>?_
    refine wp_ret ?_
    refine qax ?_
    refine qax ?_
    refine qao ?_
    refine qao ?_
    refine qax ?_
    refine qao ?_
    refine qaJ du aa.cells (v:=.bool false) kz ?_
    first
     | exact (qfA hq_ ‹_› ‹_›).elim
     | exact (qfB hq_ ‹_› ‹_›).elim
     | exact (us_7 hq_ ‹_› ‹_›).elim
     | exact (qfC hq_ ‹_› ‹_›).elim
     | exact (qfD hq_ ‹_› ‹_›).elim
     | exact (qd5 hq_ ‹_› ‹_›).elim
     | exact (qd6 hq_ ‹_› ‹_›).elim
     | exact (qfE hq_ ‹_› ‹_› ‹_›).elim
     | exact (us_n hq_ ‹_› ‹_› ‹_› ‹_› ‹_› ‹_›).elim
   have fz:=of_decide_eq_false bh
   refine wp_skip ?_
   refine qaq ?_
   refine qaq ?_
   refine qab ?_
   refine qat [0,1] kz ?_
   refine qaj [0,1] [] [(3,.p 0 0),(12,.v (.slice A l.length c)),(13,.v (.int .i64 ((l.length:Nat):Int))),(14,.v (.int .i64 (IntKind.i64.wrap (((k:Nat):Int) + 1))))] aa bg fun gR dv=>?_
   refine qaf (qab ?_)
   obtain ⟨bP,dw,dx⟩:=aa.cutB dv 1 [⟨bA,0,[.int .i64 n1,.slice A6 s2.length c7,.bool b3,.slice A8 l4.length c9,.slice aJ u5.length aK],true⟩] [(3,.p 0 0),(12,.v (.slice A l.length c)),(13,.v (.int .i64 ((l.length:Nat):Int))),(14,.v (.int .i64 (IntKind.i64.wrap (((k:Nat):Int) + 1))))]
   have dy:IntKind.i64.wrap (((k:Nat):Int) + 1) = ((k + 1:Nat):Int):=qaN (by omega)
   rw [dy] at bP
   exact ⟨l.length - (k + 1),by omega,k + 1,rfl,by omega,bP.pk,dw,((((((aj.trans ak).trans al).trans ag).trans ab).trans ac).trans dx)⟩
  have fA:ae ≠ 9:=by simpa using aI
  refine qat [0,1] kz ?_
  refine qaj [0,1] [] [(3,.p 0 0),(6,.p 1 0),(7,.p 2 0),(12,.v (.slice A l.length c)),(13,.v (.int .i64 ((l.length:Nat):Int))),(14,.v (.int .i64 ((k:Nat):Int))),(23,.v (.int .i64 ae)),(53,.v (.bool (ae == 11)))] aa aH fun gS bj=>?_
  refine qaf (qab ?_)
  refine qay bj (b:=ae == 11) kz (fun bk=>?_) (fun bk=>?_)
  ·
   have fB:ae = 11:=by simpa using bk
   refine qag [0,1,2,3,4,5,6,7,8,9] kz ?_
   refine qaj [0,1,2,3,4] [5,6,7,8,9] [(3,.p 0 0),(7,.p 2 0),(12,.v (.slice A l.length c)),(13,.v (.int .i64 ((l.length:Nat):Int))),(14,.v (.int .i64 ((k:Nat):Int))),(60,.v (.bool (decide (((af.length:Nat):Int) > 0))))] aa bj fun gT bQ=>?_
   refine (Bool.eq_false_or_eq_true (decide (((af.length:Nat):Int) > 0))).elim (fun av=>?_) (fun av=>?_)
   ·
    have fC:=of_decide_eq_true av
    have dA:=bQ.cast (env':=[(3,.p 0 0),(7,.p 2 0),(12,.v (.slice A l.length c)),(13,.v (.int .i64 ((l.length:Nat):Int))),(14,.v (.int .i64 ((k:Nat):Int))),(60,.v (.bool true))]) (by rw [av])
    refine qaj [5,6,7,8,9] [] [(3,.p 0 0),(12,.v (.slice A l.length c)),(13,.v (.int .i64 ((l.length:Nat):Int))),(14,.v (.int .i64 ((k:Nat):Int))),(65,.v (.bool true))] aa dA fun gU bR=>?_
    refine qaf (qab ?_)
    refine qaU bR (b:=true) kz rfl ?_
    refine qar [(4,.v (.bool false))] aa bR fun gV dB=>?_
    refine wp_ret ?_
    refine qax ?_
    refine qax ?_
    refine qao ?_
    refine qao ?_
    refine qax ?_
    refine qao ?_
    refine qaJ dB aa.cells (v:=.bool false) kz ?_
    first
     | exact (qfA hq_ ‹_› ‹_›).elim
     | exact (qfB hq_ ‹_› ‹_›).elim
     | exact (us_7 hq_ ‹_› ‹_›).elim
     | exact (qfC hq_ ‹_› ‹_›).elim
     | exact (qfD hq_ ‹_› ‹_›).elim
     | exact (qd5 hq_ ‹_› ‹_›).elim
     | exact (qd6 hq_ ‹_› ‹_›).elim
     | exact (qfE hq_ ‹_› ‹_› ‹_›).elim
     | exact (us_n hq_ ‹_› ‹_› ‹_› ‹_› ‹_› ‹_›).elim
   have fD:=of_decide_eq_false av
   have dC:=bQ.cast (env':=[(3,.p 0 0),(7,.p 2 0),(12,.v (.slice A l.length c)),(13,.v (.int .i64 ((l.length:Nat):Int))),(14,.v (.int .i64 ((k:Nat):Int))),(60,.v (.bool false))]) (by rw [av])
   refine qaj [5,6,7,8,9] [] [(3,.p 0 0),(12,.v (.slice A l.length c)),(13,.v (.int .i64 ((l.length:Nat):Int))),(14,.v (.int .i64 ((k:Nat):Int))),(65,.v (.bool (decide (((am.length:Nat):Int) > 0))))] aa dC fun gW bn=>?_
   refine qaf (qab ?_)
   refine qay bn (b:=decide (((am.length:Nat):Int) > 0)) kz (fun bo=>?_) (fun bo=>?_)
   ·
    have fE:=of_decide_eq_true bo
    refine qar [(4,.v (.bool false))] aa bn fun gX dD=>?_
    refine wp_ret ?_
    refine qax ?_
    refine qax ?_
    refine qao ?_
    refine qao ?_
    refine qax ?_
    refine qao ?_
    refine qaJ dD aa.cells (v:=.bool false) kz ?_
    first
     | exact (qfA hq_ ‹_› ‹_›).elim
     | exact (qfB hq_ ‹_› ‹_›).elim
     | exact (us_7 hq_ ‹_› ‹_›).elim
     | exact (qfC hq_ ‹_› ‹_›).elim
     | exact (qfD hq_ ‹_› ‹_›).elim
     | exact (qd5 hq_ ‹_› ‹_›).elim
     | exact (qd6 hq_ ‹_› ‹_›).elim
     | exact (qfE hq_ ‹_› ‹_› ‹_›).elim
     | exact (us_n hq_ ‹_› ‹_› ‹_› ‹_› ‹_› ‹_›).elim
   have fF:=of_decide_eq_false bo
   refine wp_skip ?_
   refine qaq ?_
   refine qaq ?_
   refine qab ?_
   refine qat [0,1] kz ?_
   refine qaj [0,1] [] [(3,.p 0 0),(12,.v (.slice A l.length c)),(13,.v (.int .i64 ((l.length:Nat):Int))),(14,.v (.int .i64 (IntKind.i64.wrap (((k:Nat):Int) + 1))))] aa bn fun gY dE=>?_
   refine qaf (qab ?_)
   obtain ⟨bS,dF,dG⟩:=aa.cutB dE 1 [⟨bA,0,[.int .i64 n1,.slice A6 s2.length c7,.bool b3,.slice A8 l4.length c9,.slice aJ u5.length aK],true⟩] [(3,.p 0 0),(12,.v (.slice A l.length c)),(13,.v (.int .i64 ((l.length:Nat):Int))),(14,.v (.int .i64 (IntKind.i64.wrap (((k:Nat):Int) + 1))))]
   have dH:IntKind.i64.wrap (((k:Nat):Int) + 1) = ((k + 1:Nat):Int):=qaN (by omega)
   rw [dH] at bS
   exact ⟨l.length - (k + 1),by omega,k + 1,rfl,by omega,bS.pk,dF,((((((aj.trans ak).trans al).trans ag).trans ab).trans ac).trans dG)⟩
  have fG:ae ≠ 11:=by simpa using bk
  refine qar [(3,.p 0 0),(6,.p 1 0),(7,.p 2 0),(12,.v (.slice A l.length c)),(13,.v (.int .i64 ((l.length:Nat):Int))),(14,.v (.int .i64 ((k:Nat):Int))),(66,.v (.bool (ae == 10)))] aa bj fun gZ bp=>?_
  refine qay bp (b:=ae == 10) kz (fun bq=>?_) (fun bq=>?_)
  ·
   have fH:ae = 10:=by simpa using bq
   refine qag [0,1,2,3,4,5,6,7,8,9,10,11,12,13,14,15,16,17,18,19] kz ?_
   refine qaj [0,1,2,3] [4,5,6,7,8,9,10,11,12,13,14,15,16,17,18,19] [(3,.p 0 0),(6,.p 1 0),(7,.p 2 0),(12,.v (.slice A l.length c)),(13,.v (.int .i64 ((l.length:Nat):Int))),(14,.v (.int .i64 ((k:Nat):Int))),(71,.v (.bool (decide (aE ≥ 0))))] aa bp fun g9 bT=>?_
   refine (Bool.eq_false_or_eq_true (decide (aE ≥ 0))).elim (fun aw=>?_) (fun aw=>?_)
   ·
    have fI:=of_decide_eq_true aw
    have dI:=bT.cast (env':=[(3,.p 0 0),(6,.p 1 0),(7,.p 2 0),(12,.v (.slice A l.length c)),(13,.v (.int .i64 ((l.length:Nat):Int))),(14,.v (.int .i64 ((k:Nat):Int))),(71,.v (.bool true))]) (by rw [aw])
    refine qaj [4,5,6,7,8] [9,10,11,12,13,14,15,16,17,18,19] [(3,.p 0 0),(6,.p 1 0),(7,.p 2 0),(12,.v (.slice A l.length c)),(13,.v (.int .i64 ((l.length:Nat):Int))),(14,.v (.int .i64 ((k:Nat):Int))),(76,.v (.bool (!ah)))] aa dI fun hC bU=>?_
    refine (Bool.eq_false_or_eq_true (!ah)).elim (fun bt=>?_) (fun bt=>?_)
    ·
     have dJ:=bU.cast (env':=[(3,.p 0 0),(6,.p 1 0),(7,.p 2 0),(12,.v (.slice A l.length c)),(13,.v (.int .i64 ((l.length:Nat):Int))),(14,.v (.int .i64 ((k:Nat):Int))),(76,.v (.bool true))]) (by rw [bt])
     refine qaj [9,10,11,12,13,14,15,16,17,18,19] [] [(3,.p 0 0),(12,.v (.slice A l.length c)),(13,.v (.int .i64 ((l.length:Nat):Int))),(14,.v (.int .i64 ((k:Nat):Int))),(87,.v (.bool true))] aa dJ fun hJ bV=>?_
     refine qaf (qab ?_)
     refine qaU bV (b:=true) kz rfl ?_
     refine qar [(4,.v (.bool false))] aa bV fun hK dK=>?_
     refine wp_ret ?_
     refine qax ?_
     refine qax ?_
     refine qao ?_
     refine qao ?_
     refine qax ?_
     refine qao ?_
     refine qaJ dK aa.cells (v:=.bool false) kz ?_
     first
      | exact (qfA hq_ ‹_› ‹_›).elim
      | exact (qfB hq_ ‹_› ‹_›).elim
      | exact (us_7 hq_ ‹_› ‹_›).elim
      | exact (qfC hq_ ‹_› ‹_›).elim
      | exact (qfD hq_ ‹_› ‹_›).elim
      | exact (qd5 hq_ ‹_› ‹_›).elim
      | exact (qd6 hq_ ‹_› ‹_›).elim
      | exact (qfE hq_ ‹_› ‹_› ‹_›).elim
      | exact (us_n hq_ ‹_› ‹_› ‹_› ‹_› ‹_› ‹_›).elim
    have dL:=bU.cast (env':=[(3,.p 0 0),(6,.p 1 0),(7,.p 2 0),(12,.v (.slice A l.length c)),(13,.v (.int .i64 ((l.length:Nat):Int))),(14,.v (.int .i64 ((k:Nat):Int))),(76,.v (.bool false))]) (by rw [bt])
    refine qaj [9,10,11,12] [13,14,15,16,17,18,19] [(3,.p 0 0),(6,.p 1 0),(7,.p 2 0),(12,.v (.slice A l.length c)),(13,.v (.int .i64 ((l.length:Nat):Int))),(14,.v (.int .i64 ((k:Nat):Int))),(76,.v (.bool false)),(80,.v (.bool (decide (aE < 0))))] aa dL fun hZ bW=>?_
    refine (Bool.eq_false_or_eq_true (decide (aE < 0))).elim (fun ax=>?_) (fun ax=>?_)
    ·
     have fJ:=of_decide_eq_true ax
     have dM:=bW.cast (env':=[(3,.p 0 0),(6,.p 1 0),(7,.p 2 0),(12,.v (.slice A l.length c)),(13,.v (.int .i64 ((l.length:Nat):Int))),(14,.v (.int .i64 ((k:Nat):Int))),(76,.v (.bool false)),(80,.v (.bool true))]) (by rw [ax])
     refine qaj [13,14,15] [16,17,18,19] [(3,.p 0 0),(12,.v (.slice A l.length c)),(13,.v (.int .i64 ((l.length:Nat):Int))),(14,.v (.int .i64 ((k:Nat):Int))),(76,.v (.bool false)),(80,.v (.bool true)),(82,.v (.slice bD bB.length bE)),(83,.v (.agg #[.int .i64 ai,.slice aC af.length aD,.bool ah,.slice aP am.length aQ,.slice aR aO.length aS]))] aa dM fun ia dN=>?_
     refine qam (qal dN (f:=24) (vs:=[.slice bD bB.length bE,.agg #[.int .i64 ai,.slice aC af.length aD,.bool ah,.slice aP am.length aQ,.slice aR aO.length aS]]) (d:=84) kz Tryd.call24 ( hu _ _ bB _ _ _ _ ⟨cI,(eM.move aa.step nilM aa.imm),(fun i_ x_ h_=>((fa i_ x_ h_).move aa.step nilM aa.imm))⟩ (aF.move (ab.trans ac).step immM (ab.trans ac).to') (by rw [aT]; exact qj4 hq_ ‹_› ‹_›)) ?_)
     rintro e_ ib ⟨rfl,bX⟩
     refine ⟨_,rfl,fun ic dO=>?_⟩
     have bu:=aa.next_nil bX
     have dP:=aa.frN bX
     refine qaj [17,18,19] [] [(3,.p 0 0),(12,.v (.slice A l.length c)),(13,.v (.int .i64 ((l.length:Nat):Int))),(14,.v (.int .i64 ((k:Nat):Int))),(87,.v (.bool false))] bu dO fun ig bY=>?_
     refine qaf (qab ?_)
     refine qap bY (b:=false) kz rfl ?_
     refine wp_skip ?_
     refine qaq ?_
     refine qaq ?_
     refine qab ?_
     refine qat [0,1] kz ?_
     refine qaj [0,1] [] [(3,.p 0 0),(12,.v (.slice A l.length c)),(13,.v (.int .i64 ((l.length:Nat):Int))),(14,.v (.int .i64 (IntKind.i64.wrap (((k:Nat):Int) + 1))))] bu bY fun ii dQ=>?_
     refine qaf (qab ?_)
     obtain ⟨bZ,dR,dS⟩:=bu.cutB dQ 1 [⟨bA,0,[.int .i64 n1,.slice A6 s2.length c7,.bool b3,.slice A8 l4.length c9,.slice aJ u5.length aK],true⟩] [(3,.p 0 0),(12,.v (.slice A l.length c)),(13,.v (.int .i64 ((l.length:Nat):Int))),(14,.v (.int .i64 (IntKind.i64.wrap (((k:Nat):Int) + 1))))]
     have dT:IntKind.i64.wrap (((k:Nat):Int) + 1) = ((k + 1:Nat):Int):=qaN (by omega)
     rw [dT] at bZ
     exact ⟨l.length - (k + 1),by omega,k + 1,rfl,by omega,bZ.pk,dR,(((((((aj.trans ak).trans al).trans ag).trans ab).trans ac).trans dP).trans dS)⟩
    have fK:=of_decide_eq_false ax
    have dU:=bW.cast (env':=[(3,.p 0 0),(6,.p 1 0),(7,.p 2 0),(12,.v (.slice A l.length c)),(13,.v (.int .i64 ((l.length:Nat):Int))),(14,.v (.int .i64 ((k:Nat):Int))),(76,.v (.bool false)),(80,.v (.bool false))]) (by rw [ax])
    refine qaj [13,14,15,16,17,18,19] [] [(3,.p 0 0),(12,.v (.slice A l.length c)),(13,.v (.int .i64 ((l.length:Nat):Int))),(14,.v (.int .i64 ((k:Nat):Int))),(87,.v (.bool false))] aa dU fun ij b8=>?_
    refine qaf (qab ?_)
    refine qap b8 (b:=false) kz rfl ?_
    refine wp_skip ?_
    refine qaq ?_
    refine qaq ?_
    refine qab ?_
    refine qat [0,1] kz ?_
    refine qaj [0,1] [] [(3,.p 0 0),(12,.v (.slice A l.length c)),(13,.v (.int .i64 ((l.length:Nat):Int))),(14,.v (.int .i64 (IntKind.i64.wrap (((k:Nat):Int) + 1))))] aa b8 fun ik dV=>?_
    refine qaf (qab ?_)
    obtain ⟨ca,dW,dX⟩:=aa.cutB dV 1 [⟨bA,0,[.int .i64 n1,.slice A6 s2.length c7,.bool b3,.slice A8 l4.length c9,.slice aJ u5.length aK],true⟩] [(3,.p 0 0),(12,.v (.slice A l.length c)),(13,.v (.int .i64 ((l.length:Nat):Int))),(14,.v (.int .i64 (IntKind.i64.wrap (((k:Nat):Int) + 1))))]
    have dY:IntKind.i64.wrap (((k:Nat):Int) + 1) = ((k + 1:Nat):Int):=qaN (by omega)
    rw [dY] at ca
    exact ⟨l.length - (k + 1),by omega,k + 1,rfl,by omega,ca.pk,dW,((((((aj.trans ak).trans al).trans ag).trans ab).trans ac).trans dX)⟩
   have fL:=of_decide_eq_false aw
   have dZ:=bT.cast (env':=[(3,.p 0 0),(6,.p 1 0),(7,.p 2 0),(12,.v (.slice A l.length c)),(13,.v (.int .i64 ((l.length:Nat):Int))),(14,.v (.int .i64 ((k:Nat):Int))),(71,.v (.bool false))]) (by rw [aw])
   refine qaj [4,5,6,7,8,9,10,11,12] [13,14,15,16,17,18,19] [(3,.p 0 0),(6,.p 1 0),(7,.p 2 0),(12,.v (.slice A l.length c)),(13,.v (.int .i64 ((l.length:Nat):Int))),(14,.v (.int .i64 ((k:Nat):Int))),(76,.v (.bool false)),(80,.v (.bool (decide (aE < 0))))] aa dZ fun il cb=>?_
   refine (Bool.eq_false_or_eq_true (decide (aE < 0))).elim (fun ay=>?_) (fun ay=>?_)
   ·
    have fM:=of_decide_eq_true ay
    have d5:=cb.cast (env':=[(3,.p 0 0),(6,.p 1 0),(7,.p 2 0),(12,.v (.slice A l.length c)),(13,.v (.int .i64 ((l.length:Nat):Int))),(14,.v (.int .i64 ((k:Nat):Int))),(76,.v (.bool false)),(80,.v (.bool true))]) (by rw [ay])
    refine qaj [13,14,15] [16,17,18,19] [(3,.p 0 0),(12,.v (.slice A l.length c)),(13,.v (.int .i64 ((l.length:Nat):Int))),(14,.v (.int .i64 ((k:Nat):Int))),(76,.v (.bool false)),(80,.v (.bool true)),(82,.v (.slice bD bB.length bE)),(83,.v (.agg #[.int .i64 ai,.slice aC af.length aD,.bool ah,.slice aP am.length aQ,.slice aR aO.length aS]))] aa d5 fun im d6=>?_
    refine qam (qal d6 (f:=24) (vs:=[.slice bD bB.length bE,.agg #[.int .i64 ai,.slice aC af.length aD,.bool ah,.slice aP am.length aQ,.slice aR aO.length aS]]) (d:=84) kz Tryd.call24 ( hu _ _ bB _ _ _ _ ⟨cI,(eM.move aa.step nilM aa.imm),(fun i_ x_ h_=>((fa i_ x_ h_).move aa.step nilM aa.imm))⟩ (aF.move (ab.trans ac).step immM (ab.trans ac).to') (by rw [aT]; exact qj4 hq_ ‹_› ‹_›)) ?_)
    rintro e_ io ⟨rfl,cc⟩
    refine ⟨_,rfl,fun ip d7=>?_⟩
    have bw:=aa.next_nil cc
    have d8:=aa.frN cc
    refine qaj [17,18,19] [] [(3,.p 0 0),(12,.v (.slice A l.length c)),(13,.v (.int .i64 ((l.length:Nat):Int))),(14,.v (.int .i64 ((k:Nat):Int))),(87,.v (.bool false))] bw d7 fun iq cd=>?_
    refine qaf (qab ?_)
    refine qap cd (b:=false) kz rfl ?_
    refine wp_skip ?_
    refine qaq ?_
    refine qaq ?_
    refine qab ?_
    refine qat [0,1] kz ?_
    refine qaj [0,1] [] [(3,.p 0 0),(12,.v (.slice A l.length c)),(13,.v (.int .i64 ((l.length:Nat):Int))),(14,.v (.int .i64 (IntKind.i64.wrap (((k:Nat):Int) + 1))))] bw cd fun ir d9=>?_
    refine qaf (qab ?_)
    obtain ⟨ce,ea,eb⟩:=bw.cutB d9 1 [⟨bA,0,[.int .i64 n1,.slice A6 s2.length c7,.bool b3,.slice A8 l4.length c9,.slice aJ u5.length aK],true⟩] [(3,.p 0 0),(12,.v (.slice A l.length c)),(13,.v (.int .i64 ((l.length:Nat):Int))),(14,.v (.int .i64 (IntKind.i64.wrap (((k:Nat):Int) + 1))))]
    have ec:IntKind.i64.wrap (((k:Nat):Int) + 1) = ((k + 1:Nat):Int):=qaN (by omega)
    rw [ec] at ce
    exact ⟨l.length - (k + 1),by omega,k + 1,rfl,by omega,ce.pk,ea,(((((((aj.trans ak).trans al).trans ag).trans ab).trans ac).trans d8).trans eb)⟩
   have fN:=of_decide_eq_false ay
   have ee:=cb.cast (env':=[(3,.p 0 0),(6,.p 1 0),(7,.p 2 0),(12,.v (.slice A l.length c)),(13,.v (.int .i64 ((l.length:Nat):Int))),(14,.v (.int .i64 ((k:Nat):Int))),(76,.v (.bool false)),(80,.v (.bool false))]) (by rw [ay])
   refine qaj [13,14,15,16,17,18,19] [] [(3,.p 0 0),(12,.v (.slice A l.length c)),(13,.v (.int .i64 ((l.length:Nat):Int))),(14,.v (.int .i64 ((k:Nat):Int))),(87,.v (.bool false))] aa ee fun iu cm=>?_
   refine qaf (qab ?_)
   refine qap cm (b:=false) kz rfl ?_
   refine wp_skip ?_
   refine qaq ?_
   refine qaq ?_
   refine qab ?_
   refine qat [0,1] kz ?_
   refine qaj [0,1] [] [(3,.p 0 0),(12,.v (.slice A l.length c)),(13,.v (.int .i64 ((l.length:Nat):Int))),(14,.v (.int .i64 (IntKind.i64.wrap (((k:Nat):Int) + 1))))] aa cm fun iv ef=>?_
   refine qaf (qab ?_)
   obtain ⟨cq,eg,eh⟩:=aa.cutB ef 1 [⟨bA,0,[.int .i64 n1,.slice A6 s2.length c7,.bool b3,.slice A8 l4.length c9,.slice aJ u5.length aK],true⟩] [(3,.p 0 0),(12,.v (.slice A l.length c)),(13,.v (.int .i64 ((l.length:Nat):Int))),(14,.v (.int .i64 (IntKind.i64.wrap (((k:Nat):Int) + 1))))]
   have ei:IntKind.i64.wrap (((k:Nat):Int) + 1) = ((k + 1:Nat):Int):=qaN (by omega)
   rw [ei] at cq
   exact ⟨l.length - (k + 1),by omega,k + 1,rfl,by omega,cq.pk,eg,((((((aj.trans ak).trans al).trans ag).trans ab).trans ac).trans eh)⟩
  have fO:ae ≠ 10:=by simpa using bq
  refine qaG 8 kz aa fun iw ej cr ek=>?_
  refine qaD [0,1,2,3,4,5] [(3,.p 0 0),(12,.v (.slice A l.length c)),(13,.v (.int .i64 ((l.length:Nat):Int))),(14,.v (.int .i64 ((k:Nat):Int))),(25,.v (.int .i64 ai)),(27,.v (.int .i64 ae)),(29,.v (.int .i64 aM))] 2 (qaa (qac (qac (qaa (qaa (qac (qaa qad))))))) (fun _ h=>h.cells) ek bp fun ix em=>?_
  refine qaw (i:=6) kz (qal em (f:=42) (vs:=[.int .i64 ae,.int .i64 aM]) (d:=30) kz Tryd.call42 (qfG ae aM _) ?_)
  rintro e_ iy ⟨rfl,cu⟩
  refine ⟨_,rfl,fun iz eo=>?_⟩
  have az:=cr.next_nil cu
  have cw:=cr.frN cu
  have cz:=TT.ofW cw az
  refine ⟨fun _=>cz,?_⟩
  refine qaD [7] [(3,.p 0 0),(12,.v (.slice A l.length c)),(13,.v (.int .i64 ((l.length:Nat):Int))),(14,.v (.int .i64 ((k:Nat):Int))),(31,.v (.bool (ai != (qbd ae aM))))] 0 (qaa (qac (qac (qaa (qaa (qac (qaa qad))))))) (fun _ h=>h.cells) cz eo fun iA bx=>?_
  refine qaF kz ?_ _
  refine qab ?_
  refine qay bx (b:=ai != (qbd ae aM)) kz (fun bz=>?_) (fun bz=>?_)
  ·
   have fP:ai ≠ (qbd ae aM):=by simpa using bz
   refine qar [(4,.v (.bool false))] az bx fun iB ep=>?_
   refine wp_ret ?_
   refine qax ?_
   refine qax ?_
   refine qao ?_
   refine qao ?_
   refine qax ?_
   refine qao ?_
   refine qaJ ep az.cells (v:=.bool false) kz ?_
   first
    | exact (qfA hq_ ‹_› ‹_›).elim
    | exact (qfB hq_ ‹_› ‹_›).elim
    | exact (us_7 hq_ ‹_› ‹_›).elim
    | exact (qfC hq_ ‹_› ‹_›).elim
    | exact (qfD hq_ ‹_› ‹_›).elim
    | exact (qd5 hq_ ‹_› ‹_›).elim
    | exact (qd6 hq_ ‹_› ‹_›).elim
    | exact (qfE hq_ ‹_› ‹_› ‹_›).elim
    | exact (us_n hq_ ‹_› ‹_› ‹_› ‹_› ‹_› ‹_›).elim
  have fQ:ai = (qbd ae aM):=by simpa using bz
  refine wp_skip ?_
  refine qaq ?_
  refine qaq ?_
  refine qab ?_
  refine qat [0,1] kz ?_
  refine qaj [0,1] [] [(3,.p 0 0),(12,.v (.slice A l.length c)),(13,.v (.int .i64 ((l.length:Nat):Int))),(14,.v (.int .i64 (IntKind.i64.wrap (((k:Nat):Int) + 1))))] az bx fun iC eu=>?_
  refine qaf (qab ?_)
  obtain ⟨cA,ev,ew⟩:=az.cutB eu 1 [⟨bA,0,[.int .i64 n1,.slice A6 s2.length c7,.bool b3,.slice A8 l4.length c9,.slice aJ u5.length aK],true⟩] [(3,.p 0 0),(12,.v (.slice A l.length c)),(13,.v (.int .i64 ((l.length:Nat):Int))),(14,.v (.int .i64 (IntKind.i64.wrap (((k:Nat):Int) + 1))))]
  have ey:IntKind.i64.wrap (((k:Nat):Int) + 1) = ((k + 1:Nat):Int):=qaN (by omega)
  rw [ey] at cA
  exact ⟨l.length - (k + 1),by omega,k + 1,rfl,by omega,cA.pk,ev,((((((((aj.trans ak).trans al).trans ag).trans ab).trans ac).trans ej).trans cw).trans ew)⟩
 have fR:=of_decide_eq_false cE
 refine wp_exit ?_
 refine qaB ?_
 refine qaB ?_
 refine qaL ?_
 refine qab ?_
 refine qar [(4,.v (.bool true))] aB cD fun iD ez=>?_
 refine wp_ret ?_
 refine qaJ ez aB.cells (v:=.bool true) kz ?_
 exact ⟨rfl,aB.step⟩
theorem qjf:∀ d,UsOK (qi6 d)
 | 0=>sUs fun _ _ _ _ _ _ _ _ _ h=>h.elim
 | d + 1=>sUs (qjf d)
def ToOK (v:Int) (flex:Bool) (T:List Fld → Tree → Tree → Prop):Prop:=∀ (A:Option Addr) (c:Nat) (l:List Fld) (ct:List Value) (t:Tree) (cg:List Value) (g:Tree) (w:World) (F:Nat → Nat → Prop),FldsR w F A c l → TreeR w F ct t → TreeR w F cg g → plains l → T l t g →
  Calls Tryd.prog 10 #[.slice A l.length c,.int .i64 v,.bool flex,.agg ct.toArray,.agg cg.toArray] w (qbO w (.bool true))
theorem qhk {v:Int} {flex:Bool} {T:List Fld → Tree → Tree → Prop} (hT:ToOK v flex T) (cf:List Value) (f:Fld) (ct:List Value) (t:Tree) (cg:List Value) (g:Tree) (w:World) (F:Nat → Nat → Prop) (hf:FldR w F cf f) (hpl:plains f.sub) (bu:f.kind ≠ 11) (ht:TreeR w F ct t) (hg:TreeR w F cg g) (hq:ToF0 T v f t g) :
  Calls Tryd.prog 23 #[.agg cf.toArray,.int .i64 v,.bool flex,.agg ct.toArray,.agg cg.toArray] w (qbO w (.bool true)):=by
 obtain ⟨k1,y2,y3,y4,y5,y6,y7,l8,A9,dS,dZ,rfl,rfl,iK,jb⟩:=hf.open_
 have jc:=iK.small
 obtain ⟨ac,ab,ae,af,ag,ai,aj,dT,dU,dV,dW,kL,rfl,rfl,aH,kM,oO,oP⟩:=ht.open_
 have jd:=aH.small
 have je:=kM.small
 obtain ⟨aN,ah,ap,dX,dY,al,am,d5,d6,d7,d8,kN,rfl,rfl,bt,kO,oQ,oR⟩:=hg.open_
 have jf:=bt.small
 have jg:=kO.small
 replace hpl:plains l8:=hpl
 have bu:k1 ≠ 11:=bu
 refine enter (n:=124) Tryd.func23 rfl Tryd.ntmps23 kz fun a hE=>?_
 have hW:=WOk.start w Nil
 refine qag [0,1,2,3] kz ?_
 refine qam (qa7 hW hE (d:=5) (cs:=[.int .i64 k1,.int .i64 y2,.int .i64 y3,.int .i64 y4,.int .i64 y5,.int .i64 y6,.int .i64 y7,.slice A9 l8.length dS]) kz fun oS oT oU kP kQ kR iL iM=>?_)
 refine qam (qa7 iL iM (d:=8) (cs:=[.int .i64 ac,.slice ai ab.length aj,.bool ae,.slice dT af.length dU,.slice dV ag.length dW]) kz fun oV oW oX kS kT kU iN iO=>?_)
 refine qam (qa7 iN iO (d:=9) (cs:=[.int .i64 aN,.slice al ah.length am,.bool ap,.slice d5 dX.length d6,.slice d7 dY.length d8]) kz fun oY oZ o5 kV kW kX cH iP=>?_)
 refine qaj [3] [] [(1,.v (.int .i64 v)),(2,.v (.bool flex)),(5,.p 0 0),(8,.p 1 0),(9,.p 2 0)] cH iP fun o6 iQ=>?_
 refine qaf (qab ?_)
 refine qag [0,1,2,3,4] kz ?_
 refine qaj [0,1,2] [3,4] [(1,.v (.int .i64 v)),(2,.v (.bool flex)),(5,.p 0 0),(8,.p 1 0),(9,.p 2 0),(17,.v (.agg #[.int .i64 k1,.int .i64 y2,.int .i64 y3,.int .i64 y4,.int .i64 y5,.int .i64 y6,.int .i64 y7,.slice A9 l8.length dS])),(18,.v (.int .i64 v)),(19,.v (.agg #[.int .i64 ac,.slice ai ab.length aj,.bool ae,.slice dT af.length dU,.slice dV ag.length dW]))] cH iQ fun o7 iR=>?_
 refine qam (qal iR (f:=40) (vs:=[.agg #[.int .i64 k1,.int .i64 y2,.int .i64 y3,.int .i64 y4,.int .i64 y5,.int .i64 y6,.int .i64 y7,.slice A9 l8.length dS],.int .i64 v,.agg #[.int .i64 ac,.slice ai ab.length aj,.bool ae,.slice dT af.length dU,.slice dV ag.length dW]]) (d:=20) kz Tryd.call40 (qkt k1 y2 y3 y4 y5 y6 y7 l8 _ _ v ac ab ae af ag _ _ _ _ _ _ _) ?_)
 rintro e_ o9 ⟨rfl,d9⟩
 refine ⟨_,rfl,fun pa iS=>?_⟩
 have aa:=cH.next_nil d9
 have kY:=cH.frN d9
 refine qaj [4] [] [(1,.v (.int .i64 v)),(2,.v (.bool flex)),(5,.p 0 0),(8,.p 1 0),(9,.p 2 0),(11,.v (.bool (Fld.nul (Fld.mk k1 y2 y3 y4 y5 y6 y7 l8) v (Tree.mk ac ab ae af ag))))] aa iS fun pb iT=>?_
 refine qaf (qab ?_)
 refine qag [0,1,2,3,4,5,6,7,8,9] kz ?_
 refine qaj [0,1,2,3] [4,5,6,7,8,9] [(1,.v (.int .i64 v)),(2,.v (.bool flex)),(5,.p 0 0),(8,.p 1 0),(9,.p 2 0),(11,.v (.bool (Fld.nul (Fld.mk k1 y2 y3 y4 y5 y6 y7 l8) v (Tree.mk ac ab ae af ag)))),(24,.v (.bool (decide (y4 ≥ 0))))] aa iT fun pc ea=>?_
 refine (Bool.eq_false_or_eq_true (decide (y4 ≥ 0))).elim (fun bw=>?_) (fun bw=>?_)
 ·
  have kZ:=of_decide_eq_true bw
  have iU:=ea.cast (env':=[(1,.v (.int .i64 v)),(2,.v (.bool flex)),(5,.p 0 0),(8,.p 1 0),(9,.p 2 0),(11,.v (.bool (Fld.nul (Fld.mk k1 y2 y3 y4 y5 y6 y7 l8) v (Tree.mk ac ab ae af ag)))),(24,.v (.bool true))]) (by rw [bw])
  refine qaj [4,5,6,7,8,9] [] [(1,.v (.int .i64 v)),(2,.v (.bool flex)),(5,.p 0 0),(8,.p 1 0),(9,.p 2 0),(11,.v (.bool (Fld.nul (Fld.mk k1 y2 y3 y4 y5 y6 y7 l8) v (Tree.mk ac ab ae af ag)))),(12,.v (.bool (decide (v ≥ y4))))] aa iU fun pd iV=>?_
  refine qaf (qab ?_)
  refine wp_seq ?_
  refine qag [0,1,2,3,4,5,6,7,8,9,10,11,12,13,14,15,16] kz ?_
  refine qaj [0,1,2,3] [4,5,6,7,8,9,10,11,12,13,14,15,16] [(1,.v (.int .i64 v)),(2,.v (.bool flex)),(5,.p 0 0),(8,.p 1 0),(9,.p 2 0),(11,.v (.bool (Fld.nul (Fld.mk k1 y2 y3 y4 y5 y6 y7 l8) v (Tree.mk ac ab ae af ag)))),(12,.v (.bool (decide (v ≥ y4)))),(33,.v (.bool (k1 == 8)))] aa iV fun pe cI=>?_
  refine (Bool.eq_false_or_eq_true (k1 == 8)).elim (fun ak=>?_) (fun ak=>?_)
  ·
   have jh:k1 = 8:=by simpa using ak
   have eb:=cI.cast (env':=[(1,.v (.int .i64 v)),(2,.v (.bool flex)),(5,.p 0 0),(8,.p 1 0),(9,.p 2 0),(11,.v (.bool (Fld.nul (Fld.mk k1 y2 y3 y4 y5 y6 y7 l8) v (Tree.mk ac ab ae af ag)))),(12,.v (.bool (decide (v ≥ y4)))),(33,.v (.bool true))]) (by rw [ak])
   refine qaj [4,5,6,7,8,9,10,11,12,13,14,15,16] [] [(1,.v (.int .i64 v)),(2,.v (.bool flex)),(5,.p 0 0),(8,.p 1 0),(9,.p 2 0),(11,.v (.bool (Fld.nul (Fld.mk k1 y2 y3 y4 y5 y6 y7 l8) v (Tree.mk ac ab ae af ag)))),(46,.v (.bool (!(ap == (Fld.nul (Fld.mk k1 y2 y3 y4 y5 y6 y7 l8) v (Tree.mk ac ab ae af ag))))))] aa eb fun k5 bx=>?_
   refine qaf (qab ?_)
   refine qay bx (b:=!(ap == (Fld.nul (Fld.mk k1 y2 y3 y4 y5 y6 y7 l8) v (Tree.mk ac ab ae af ag)))) kz (fun bz=>?_) (fun bz=>?_)
   ·
    have ji:!(ap = (Fld.nul (Fld.mk k1 y2 y3 y4 y5 y6 y7 l8) v (Tree.mk ac ab ae af ag))):=by simpa using bz
    refine qar [(10,.v (.bool false))] aa bx fun k6 ec=>?_
    refine wp_ret ?_
    refine qao ?_
    refine qaJ ec aa.cells (v:=.bool false) kz ?_
    first
     | exact (qi8 hq ‹_› ‹_›).elim
     | exact (qgi hq ‹_› ‹_›).elim
     | exact (qfF hq ‹_› ‹_› ‹_›).elim
   have jj:!(ap ≠ (Fld.nul (Fld.mk k1 y2 y3 y4 y5 y6 y7 l8) v (Tree.mk ac ab ae af ag))):=by simpa using bz
   refine wp_skip ?_
   refine qab ?_
   refine wp_seq ?_
   refine qar [(1,.v (.int .i64 v)),(2,.v (.bool flex)),(5,.p 0 0),(8,.p 1 0),(9,.p 2 0),(47,.v (.bool (Fld.nul (Fld.mk k1 y2 y3 y4 y5 y6 y7 l8) v (Tree.mk ac ab ae af ag))))] aa bx fun k7 bA=>?_
   refine qay bA (b:=Fld.nul (Fld.mk k1 y2 y3 y4 y5 y6 y7 l8) v (Tree.mk ac ab ae af ag)) kz (fun ee=>?_) (fun ee=>?_)
   ·
    refine qar [(10,.v (.bool true))] aa bA fun k8 ef=>?_
    refine wp_ret ?_
    refine qao ?_
    refine qaJ ef aa.cells (v:=.bool true) kz ?_
    exact ⟨rfl,aa.step⟩
   refine wp_skip ?_
   refine qab ?_
   refine wp_seq ?_
   refine qar [(1,.v (.int .i64 v)),(2,.v (.bool flex)),(5,.p 0 0),(8,.p 1 0),(9,.p 2 0),(49,.v (.int .i64 k1))] aa bA fun k9 eg=>?_
   refine wp_block ?_
   refine wp_seq ?_
   refine qar [(1,.v (.int .i64 v)),(2,.v (.bool flex)),(5,.p 0 0),(8,.p 1 0),(9,.p 2 0),(49,.v (.int .i64 k1)),(50,.v (.bool (k1 == 8)))] aa eg fun la bB=>?_
   refine qaU bB (b:=k1 == 8) kz (ak) ?_
   refine wp_skip ?_
   refine qab ?_
   refine qaU bB (b:=k1 == 8) kz (ak) ?_
   refine qaG 6 kz aa fun lb jk aU eh=>?_
   refine qaD [0,1,2,3] [(54,.v (.slice al ah.length am)),(56,.v (.slice ai ab.length aj))] 3 (qaa (qac (qaa qad))) (fun _ h=>h.cells) eh bB fun lc ei=>?_
   have iW:=qa8 ab
   refine qaw (i:=4) kz (qal ei (f:=27) (vs:=[.slice ai ab.length aj]) (d:=57) kz Tryd.call27 (qc6 _ _ ab (aH.move aU.step nilM aU.imm).le _) ?_)
   rintro e_ ld ⟨rfl,cJ⟩
   refine ⟨_,rfl,fun lf ej=>?_⟩
   have az:=aU.next_nil cJ
   have cK:=aU.frN cJ
   have ek:=TT.ofW cK az
   refine ⟨fun _=>ek,?_⟩
   refine qaw (i:=5) kz (qal ej (f:=26) (vs:=[.slice al ah.length am,.slice ai ((qaE ab).length) aj]) (d:=58) kz Tryd.call26 (qdM _ _ _ _ ah (qaE ab) _ _ ((bt.move az.step nilM az.imm).move (Step.refl _ Nil) nilM allF) (((aH.take 32767).move az.step nilM az.imm).move (Step.refl _ Nil) nilM allF)) ?_)
   rintro e_ lg ⟨rfl,cL⟩
   refine ⟨_,rfl,fun lh em=>?_⟩
   have aV:=az.next_nil cL
   have eo:=az.frN cL
   have ep:=TT.ofW (cK.trans eo) aV
   refine ⟨fun _=>ep,?_⟩
   refine qaw (i:=6) kz (qa9 [10] aV.cells em (env':=[(10,.v (.bool (decide (ah = (qaE ab)))))]) kz fun li eu=>?_)
   refine ⟨fun h=>absurd rfl h,?_⟩
   refine qaF kz ?_ _
   refine qab ?_
   refine wp_ret ?_
   refine qax ?_
   refine qao ?_
   refine qaJ eu aV.cells (v:=.bool (decide (ah = (qaE ab)))) kz ?_
   refine ⟨congrArg (fun b_=>Ending.returned (Value.bool b_)) ?_,aV.step⟩
   first
    | exact qdQ hq ‹_› ‹_›
    | exact qdR hq ‹_› ‹_›
    | exact to_u hq ‹_› ‹_›
    | exact to_m hq ‹_› ‹_› ‹_› ‹_› ‹_› ‹_›
  have jl:k1 ≠ 8:=by simpa using ak
  have ev:=cI.cast (env':=[(1,.v (.int .i64 v)),(2,.v (.bool flex)),(5,.p 0 0),(8,.p 1 0),(9,.p 2 0),(11,.v (.bool (Fld.nul (Fld.mk k1 y2 y3 y4 y5 y6 y7 l8) v (Tree.mk ac ab ae af ag)))),(12,.v (.bool (decide (v ≥ y4)))),(33,.v (.bool false))]) (by rw [ak])
  refine qaj [4,5,6,7,8] [9,10,11,12,13,14,15,16] [(1,.v (.int .i64 v)),(2,.v (.bool flex)),(5,.p 0 0),(8,.p 1 0),(9,.p 2 0),(11,.v (.bool (Fld.nul (Fld.mk k1 y2 y3 y4 y5 y6 y7 l8) v (Tree.mk ac ab ae af ag)))),(12,.v (.bool (decide (v ≥ y4)))),(38,.v (.bool (k1 == 10)))] aa ev fun lj cM=>?_
  refine (Bool.eq_false_or_eq_true (k1 == 10)).elim (fun ay=>?_) (fun ay=>?_)
  ·
   have jm:k1 = 10:=by simpa using ay
   have ew:=cM.cast (env':=[(1,.v (.int .i64 v)),(2,.v (.bool flex)),(5,.p 0 0),(8,.p 1 0),(9,.p 2 0),(11,.v (.bool (Fld.nul (Fld.mk k1 y2 y3 y4 y5 y6 y7 l8) v (Tree.mk ac ab ae af ag)))),(12,.v (.bool (decide (v ≥ y4)))),(38,.v (.bool true))]) (by rw [ay])
   refine qaj [9,10,11,12,13,14,15,16] [] [(1,.v (.int .i64 v)),(2,.v (.bool flex)),(5,.p 0 0),(8,.p 1 0),(9,.p 2 0),(11,.v (.bool (Fld.nul (Fld.mk k1 y2 y3 y4 y5 y6 y7 l8) v (Tree.mk ac ab ae af ag)))),(46,.v (.bool (!(ap == (Fld.nul (Fld.mk k1 y2 y3 y4 y5 y6 y7 l8) v (Tree.mk ac ab ae af ag))))))] aa ew fun lm bC=>?_
   refine qaf (qab ?_)
   refine qay bC (b:=!(ap == (Fld.nul (Fld.mk k1 y2 y3 y4 y5 y6 y7 l8) v (Tree.mk ac ab ae af ag)))) kz (fun bD=>?_) (fun bD=>?_)
   ·
    have jn:!(ap = (Fld.nul (Fld.mk k1 y2 y3 y4 y5 y6 y7 l8) v (Tree.mk ac ab ae af ag))):=by simpa using bD
    refine qar [(10,.v (.bool false))] aa bC fun ln ey=>?_
    refine wp_ret ?_
    refine qao ?_
    refine qaJ ey aa.cells (v:=.bool false) kz ?_
    first
     | exact (qi8 hq ‹_› ‹_›).elim
     | exact (qgi hq ‹_› ‹_›).elim
     | exact (qfF hq ‹_› ‹_› ‹_›).elim
   have jo:!(ap ≠ (Fld.nul (Fld.mk k1 y2 y3 y4 y5 y6 y7 l8) v (Tree.mk ac ab ae af ag))):=by simpa using bD
   refine wp_skip ?_
   refine qab ?_
   refine wp_seq ?_
   refine qar [(1,.v (.int .i64 v)),(2,.v (.bool flex)),(5,.p 0 0),(8,.p 1 0),(9,.p 2 0),(47,.v (.bool (Fld.nul (Fld.mk k1 y2 y3 y4 y5 y6 y7 l8) v (Tree.mk ac ab ae af ag))))] aa bC fun lp bE=>?_
   refine qay bE (b:=Fld.nul (Fld.mk k1 y2 y3 y4 y5 y6 y7 l8) v (Tree.mk ac ab ae af ag)) kz (fun ez=>?_) (fun ez=>?_)
   ·
    refine qar [(10,.v (.bool true))] aa bE fun lq eB=>?_
    refine wp_ret ?_
    refine qao ?_
    refine qaJ eB aa.cells (v:=.bool true) kz ?_
    exact ⟨rfl,aa.step⟩
   refine wp_skip ?_
   refine qab ?_
   refine wp_seq ?_
   refine qar [(1,.v (.int .i64 v)),(2,.v (.bool flex)),(5,.p 0 0),(8,.p 1 0),(9,.p 2 0),(49,.v (.int .i64 k1))] aa bE fun lr eC=>?_
   refine wp_block ?_
   refine wp_seq ?_
   refine qar [(1,.v (.int .i64 v)),(2,.v (.bool flex)),(5,.p 0 0),(8,.p 1 0),(9,.p 2 0),(49,.v (.int .i64 k1)),(50,.v (.bool (k1 == 8)))] aa eC fun ls cN=>?_
   refine qap cN (b:=k1 == 8) kz (ak) ?_
   refine qat [0,1] kz ?_
   refine qaj [0,1] [] [(1,.v (.int .i64 v)),(2,.v (.bool flex)),(5,.p 0 0),(8,.p 1 0),(9,.p 2 0),(49,.v (.int .i64 k1)),(50,.v (.bool (k1 == 9)))] aa cN fun lu bF=>?_
   refine qaf (qab ?_)
   refine qay bF (b:=k1 == 9) kz (fun bG=>?_) (fun bG=>?_)
   ·
    have jp:k1 = 9:=by simpa using bG
    refine qaG 6 kz aa fun lv jq aW eD=>?_
    refine qaD [0,1,2,3] [(54,.v (.slice al ah.length am)),(56,.v (.slice ai ab.length aj))] 3 (qaa (qac (qaa qad))) (fun _ h=>h.cells) eD bF fun lw eE=>?_
    have iX:=qa8 ab
    refine qaw (i:=4) kz (qal eE (f:=27) (vs:=[.slice ai ab.length aj]) (d:=57) kz Tryd.call27 (qc6 _ _ ab (aH.move aW.step nilM aW.imm).le _) ?_)
    rintro e_ lx ⟨rfl,cO⟩
    refine ⟨_,rfl,fun ly eF=>?_⟩
    have aA:=aW.next_nil cO
    have cP:=aW.frN cO
    have eG:=TT.ofW cP aA
    refine ⟨fun _=>eG,?_⟩
    refine qaw (i:=5) kz (qal eF (f:=26) (vs:=[.slice al ah.length am,.slice ai ((qaE ab).length) aj]) (d:=58) kz Tryd.call26 (qdM _ _ _ _ ah (qaE ab) _ _ ((bt.move aA.step nilM aA.imm).move (Step.refl _ Nil) nilM allF) (((aH.take 32767).move aA.step nilM aA.imm).move (Step.refl _ Nil) nilM allF)) ?_)
    rintro e_ lz ⟨rfl,cQ⟩
    refine ⟨_,rfl,fun lA eH=>?_⟩
    have aX:=aA.next_nil cQ
    have eI:=aA.frN cQ
    have eJ:=TT.ofW (cP.trans eI) aX
    refine ⟨fun _=>eJ,?_⟩
    refine qaw (i:=6) kz (qa9 [10] aX.cells eH (env':=[(10,.v (.bool (decide (ah = (qaE ab)))))]) kz fun lB eK=>?_)
    refine ⟨fun h=>absurd rfl h,?_⟩
    refine qaF kz ?_ _
    refine qab ?_
    refine wp_ret ?_
    refine qax ?_
    refine qao ?_
    refine qaJ eK aX.cells (v:=.bool (decide (ah = (qaE ab)))) kz ?_
    refine ⟨congrArg (fun b_=>Ending.returned (Value.bool b_)) ?_,aX.step⟩
    first
     | exact qdQ hq ‹_› ‹_›
     | exact qdR hq ‹_› ‹_›
     | exact to_u hq ‹_› ‹_›
     | exact to_m hq ‹_› ‹_› ‹_› ‹_› ‹_› ‹_›
   have jr:k1 ≠ 9:=by simpa using bG
   refine qar [(1,.v (.int .i64 v)),(2,.v (.bool flex)),(5,.p 0 0),(8,.p 1 0),(9,.p 2 0),(49,.v (.int .i64 k1)),(59,.v (.bool (k1 == 7)))] aa bF fun lC bH=>?_
   refine qay bH (b:=k1 == 7) kz (fun bI=>?_) (fun bI=>?_)
   ·
    have js:k1 = 7:=by simpa using bI
    refine qag [0,1] kz ?_
    refine qam (qb2 aa bH (d:=61) (j:=16) (t:=22) (e:=5) (bytes:=1) (z:=.int .u8 0) kz kz kz kz (rfl) (rfl) (by omega) fun ar lD lE jt ju jv aO eL=>?_)
    refine qaj [1] [] [(8,.p 1 0),(9,.p 2 0),(13,.v (.slice (some ⟨ar,0,none⟩) 16 16))] aO eL fun lF eM=>?_
    refine qaf (qab ?_)
    refine qag [0,1,2,3] kz ?_
    refine qaj [0,1,2] [3] [(9,.p 2 0),(13,.v (.slice (some ⟨ar,0,none⟩) 16 16)),(62,.v (.slice (some ⟨ar,0,none⟩) 16 16)),(64,.v (.slice ai ab.length aj))] aO eM fun lG eN=>?_
    refine qam (qcf aO eN (k:=0) (d:=65) (t:=22) (u:=22) (e:=5) (bytes:=1) (A:=(some ⟨ar,0,none⟩)) (As:=ai) (m:=ab.length) (cs:=aj) (m0:=16) (c:=16) (xs:=(List.replicate 16 (.int .u8 0))) (news:=bc ab) kz kz rfl (aH.move aO.step nilM aO.imm).src fun lH lI jw eO eP=>?_)
    have eQ:(⟨(some ⟨ar,0,none⟩),16,5,1,16,qba (List.replicate 16 (.int .u8 0)) 0 ((bc ab).take (min ab.length 16))⟩:Rw) = brow (some ⟨ar,0,none⟩) 16 5 (qbb ab):=qde _ _ _
    obtain ⟨aI,jx⟩:=eO.rowEq 0 [brow (some ⟨ar,0,none⟩) 16 5 (qbb ab)] eQ
    have eR:=EnvOk.pick eP (ks:=[9,13,62,64,65]) (env':=[(9,.p 2 0),(13,.v (.slice (some ⟨ar,0,none⟩) 16 16)),(62,.v (.slice (some ⟨ar,0,none⟩) 16 16)),(64,.v (.slice ai ab.length aj)),(65,.v (.int .i64 ((min ab.length 16:Nat):Int)))]) kz
    have eS:=eR.cast (env':=[(9,.p 2 0),(13,.v (.slice (some ⟨ar,0,none⟩) ((qbb ab).length) 16)),(62,.v (.slice (some ⟨ar,0,none⟩) ((qbb ab).length) 16)),(64,.v (.slice ai ab.length aj)),(65,.v (.int .i64 ((min ab.length 16:Nat):Int)))]) (by rw [qa4 _])
    refine qaf (qab ?_)
    refine qag [0,1,2,3,4] kz ?_
    refine qaj [0,1,2] [3,4] [(67,.v (.slice al ah.length am)),(68,.v (.slice (some ⟨ar,0,none⟩) ((qbb ab).length) 16))] aI eS fun lJ eU=>?_
    refine qam (qal eU (f:=26) (vs:=[.slice al ah.length am,.slice (some ⟨ar,0,none⟩) ((qbb ab).length) 16]) (d:=69) kz Tryd.call26 (qdM _ _ _ _ ah (qbb ab) _ _ ((bt.move aI.step nilM aI.imm).move (Step.refl _ Nil) nilM allF) (qbU (aI.own 0 _ rfl) (by first | omega | (rw [qa4]; decide) | (simp only [be_length]; exact Nat.le_trans (qbh _) (by decide)) | (have:=hroom; omega) | (have:=hmade; omega) | (simp only [List.length_append,List.length_nil]; omega)) (F:=fun _ _=>True) (fun _ _ _=>trivial))) ?_)
    rintro e_ lK ⟨rfl,cR⟩
    refine ⟨_,rfl,fun lL eV=>?_⟩
    have bJ:=aI.next_nil cR
    have jy:=aI.frN cR
    refine qaj [4] [] [(10,.v (.bool (decide (ah = qbb ab))))] bJ eV fun lM eW=>?_
    refine qaf (qab ?_)
    refine wp_ret ?_
    refine qax ?_
    refine qao ?_
    refine qaJ eW bJ.cells (v:=.bool (decide (ah = qbb ab))) kz ?_
    refine ⟨congrArg (fun b_=>Ending.returned (Value.bool b_)) ?_,bJ.step⟩
    first
     | exact qdQ hq ‹_› ‹_›
     | exact qdR hq ‹_› ‹_›
     | exact to_u hq ‹_› ‹_›
     | exact to_m hq ‹_› ‹_› ‹_› ‹_› ‹_› ‹_›
   have jz:k1 ≠ 7:=by simpa using bI
   refine qar [(1,.v (.int .i64 v)),(2,.v (.bool flex)),(5,.p 0 0),(8,.p 1 0),(9,.p 2 0),(49,.v (.int .i64 k1)),(70,.v (.bool (k1 == 10)))] aa bH fun lN cS=>?_
   refine qaU cS (b:=k1 == 10) kz (ay) ?_
   refine qag [0,1,2,3,4,5,6,7] kz ?_
   refine qaj [0,1,2,3,4,5] [6,7] [(73,.v (.slice A9 l8.length dS)),(74,.v (.int .i64 v)),(75,.v (.bool flex)),(76,.v (.agg #[.int .i64 ac,.slice ai ab.length aj,.bool ae,.slice dT af.length dU,.slice dV ag.length dW])),(77,.v (.agg #[.int .i64 aN,.slice al ah.length am,.bool ap,.slice d5 dX.length d6,.slice d7 dY.length d8]))] aa cS fun lO eX=>?_
   refine qam (qal eX (f:=10) (vs:=[.slice A9 l8.length dS,.int .i64 v,.bool flex,.agg #[.int .i64 ac,.slice ai ab.length aj,.bool ae,.slice dT af.length dU,.slice dV ag.length dW],.agg #[.int .i64 aN,.slice al ah.length am,.bool ap,.slice d5 dX.length d6,.slice d7 dY.length d8]]) (d:=78) kz Tryd.call10 ( hT _ _ l8 _ (Tree.mk ac ab ae af ag) _ (Tree.mk aN ah ap dX dY) _ _ ⟨dZ,(iK.move aa.step nilM aa.imm),(fun i_ x_ h_=>((jb i_ x_ h_).move aa.step nilM aa.imm))⟩ (ht.move aa.step nilM aa.imm) (hg.move aa.step nilM aa.imm) hpl (qi9 hq ‹_› ‹_›)) ?_)
   rintro e_ lP ⟨rfl,cT⟩
   refine ⟨_,rfl,fun lQ eY=>?_⟩
   have bK:=aa.next_nil cT
   have jA:=aa.frN cT
   refine qaj [7] [] [(10,.v (.bool true))] bK eY fun lR eZ=>?_
   refine qaf (qab ?_)
   refine wp_ret ?_
   refine qax ?_
   refine qao ?_
   refine qaJ eZ bK.cells (v:=.bool true) kz ?_
   exact ⟨rfl,bK.step⟩
  have jB:k1 ≠ 10:=by simpa using ay
  have e9:=cM.cast (env':=[(1,.v (.int .i64 v)),(2,.v (.bool flex)),(5,.p 0 0),(8,.p 1 0),(9,.p 2 0),(11,.v (.bool (Fld.nul (Fld.mk k1 y2 y3 y4 y5 y6 y7 l8) v (Tree.mk ac ab ae af ag)))),(12,.v (.bool (decide (v ≥ y4)))),(38,.v (.bool false))]) (by rw [ay])
  refine qaj [9,10,11] [12,13,14,15,16] [(1,.v (.int .i64 v)),(2,.v (.bool flex)),(5,.p 0 0),(8,.p 1 0),(9,.p 2 0),(11,.v (.bool (Fld.nul (Fld.mk k1 y2 y3 y4 y5 y6 y7 l8) v (Tree.mk ac ab ae af ag)))),(41,.v (.bool (decide (v ≥ y4))))] aa e9 fun lS cU=>?_
  refine (Bool.eq_false_or_eq_true (decide (v ≥ y4))).elim (fun aP=>?_) (fun aP=>?_)
  ·
   have jC:=of_decide_eq_true aP
   have fa:=cU.cast (env':=[(1,.v (.int .i64 v)),(2,.v (.bool flex)),(5,.p 0 0),(8,.p 1 0),(9,.p 2 0),(11,.v (.bool (Fld.nul (Fld.mk k1 y2 y3 y4 y5 y6 y7 l8) v (Tree.mk ac ab ae af ag)))),(41,.v (.bool true))]) (by rw [aP])
   refine qaj [12,13,14,15,16] [] [(1,.v (.int .i64 v)),(2,.v (.bool flex)),(5,.p 0 0),(8,.p 1 0),(9,.p 2 0),(11,.v (.bool (Fld.nul (Fld.mk k1 y2 y3 y4 y5 y6 y7 l8) v (Tree.mk ac ab ae af ag)))),(46,.v (.bool (!(ap == (Fld.nul (Fld.mk k1 y2 y3 y4 y5 y6 y7 l8) v (Tree.mk ac ab ae af ag))))))] aa fa fun lT bL=>?_
   refine qaf (qab ?_)
   refine qay bL (b:=!(ap == (Fld.nul (Fld.mk k1 y2 y3 y4 y5 y6 y7 l8) v (Tree.mk ac ab ae af ag)))) kz (fun bM=>?_) (fun bM=>?_)
   ·
    have jD:!(ap = (Fld.nul (Fld.mk k1 y2 y3 y4 y5 y6 y7 l8) v (Tree.mk ac ab ae af ag))):=by simpa using bM
    refine qar [(10,.v (.bool false))] aa bL fun lU fb=>?_
    refine wp_ret ?_
    refine qao ?_
    refine qaJ fb aa.cells (v:=.bool false) kz ?_
    first
     | exact (qi8 hq ‹_› ‹_›).elim
     | exact (qgi hq ‹_› ‹_›).elim
     | exact (qfF hq ‹_› ‹_› ‹_›).elim
   have jE:!(ap ≠ (Fld.nul (Fld.mk k1 y2 y3 y4 y5 y6 y7 l8) v (Tree.mk ac ab ae af ag))):=by simpa using bM
   refine wp_skip ?_
   refine qab ?_
   refine wp_seq ?_
   refine qar [(1,.v (.int .i64 v)),(2,.v (.bool flex)),(5,.p 0 0),(8,.p 1 0),(9,.p 2 0),(47,.v (.bool (Fld.nul (Fld.mk k1 y2 y3 y4 y5 y6 y7 l8) v (Tree.mk ac ab ae af ag))))] aa bL fun lV bN=>?_
   refine qay bN (b:=Fld.nul (Fld.mk k1 y2 y3 y4 y5 y6 y7 l8) v (Tree.mk ac ab ae af ag)) kz (fun fe=>?_) (fun fe=>?_)
   ·
    refine qar [(10,.v (.bool true))] aa bN fun lW ff=>?_
    refine wp_ret ?_
    refine qao ?_
    refine qaJ ff aa.cells (v:=.bool true) kz ?_
    exact ⟨rfl,aa.step⟩
   refine wp_skip ?_
   refine qab ?_
   refine wp_seq ?_
   refine qar [(1,.v (.int .i64 v)),(2,.v (.bool flex)),(5,.p 0 0),(8,.p 1 0),(9,.p 2 0),(49,.v (.int .i64 k1))] aa bN fun lX fg=>?_
   refine wp_block ?_
   refine wp_seq ?_
   refine qar [(1,.v (.int .i64 v)),(2,.v (.bool flex)),(5,.p 0 0),(8,.p 1 0),(9,.p 2 0),(49,.v (.int .i64 k1)),(50,.v (.bool (k1 == 8)))] aa fg fun lY cV=>?_
   refine qap cV (b:=k1 == 8) kz (ak) ?_
   refine qat [0,1] kz ?_
   refine qaj [0,1] [] [(1,.v (.int .i64 v)),(2,.v (.bool flex)),(5,.p 0 0),(8,.p 1 0),(9,.p 2 0),(49,.v (.int .i64 k1)),(50,.v (.bool (k1 == 9)))] aa cV fun lZ bO=>?_
   refine qaf (qab ?_)
   refine qay bO (b:=k1 == 9) kz (fun bP=>?_) (fun bP=>?_)
   ·
    have jF:k1 = 9:=by simpa using bP
    refine qaG 6 kz aa fun l0 jG aY fh=>?_
    refine qaD [0,1,2,3] [(54,.v (.slice al ah.length am)),(56,.v (.slice ai ab.length aj))] 3 (qaa (qac (qaa qad))) (fun _ h=>h.cells) fh bO fun l3 fi=>?_
    have iY:=qa8 ab
    refine qaw (i:=4) kz (qal fi (f:=27) (vs:=[.slice ai ab.length aj]) (d:=57) kz Tryd.call27 (qc6 _ _ ab (aH.move aY.step nilM aY.imm).le _) ?_)
    rintro e_ l5 ⟨rfl,cW⟩
    refine ⟨_,rfl,fun l6 fj=>?_⟩
    have aB:=aY.next_nil cW
    have cX:=aY.frN cW
    have fk:=TT.ofW cX aB
    refine ⟨fun _=>fk,?_⟩
    refine qaw (i:=5) kz (qal fj (f:=26) (vs:=[.slice al ah.length am,.slice ai ((qaE ab).length) aj]) (d:=58) kz Tryd.call26 (qdM _ _ _ _ ah (qaE ab) _ _ ((bt.move aB.step nilM aB.imm).move (Step.refl _ Nil) nilM allF) (((aH.take 32767).move aB.step nilM aB.imm).move (Step.refl _ Nil) nilM allF)) ?_)
    rintro e_ l7 ⟨rfl,cY⟩
    refine ⟨_,rfl,fun l9 fm=>?_⟩
    have aZ:=aB.next_nil cY
    have fo:=aB.frN cY
    have fq:=TT.ofW (cX.trans fo) aZ
    refine ⟨fun _=>fq,?_⟩
    refine qaw (i:=6) kz (qa9 [10] aZ.cells fm (env':=[(10,.v (.bool (decide (ah = (qaE ab)))))]) kz fun ma fr=>?_)
    refine ⟨fun h=>absurd rfl h,?_⟩
    refine qaF kz ?_ _
    refine qab ?_
    refine wp_ret ?_
    refine qax ?_
    refine qao ?_
    refine qaJ fr aZ.cells (v:=.bool (decide (ah = (qaE ab)))) kz ?_
    refine ⟨congrArg (fun b_=>Ending.returned (Value.bool b_)) ?_,aZ.step⟩
    first
     | exact qdQ hq ‹_› ‹_›
     | exact qdR hq ‹_› ‹_›
     | exact to_u hq ‹_› ‹_›
     | exact to_m hq ‹_› ‹_› ‹_› ‹_› ‹_› ‹_›
   have jH:k1 ≠ 9:=by simpa using bP
   refine qar [(1,.v (.int .i64 v)),(2,.v (.bool flex)),(5,.p 0 0),(8,.p 1 0),(9,.p 2 0),(49,.v (.int .i64 k1)),(59,.v (.bool (k1 == 7)))] aa bO fun mc bQ=>?_
   refine qay bQ (b:=k1 == 7) kz (fun bR=>?_) (fun bR=>?_)
   ·
    have jI:k1 = 7:=by simpa using bR
    refine qag [0,1] kz ?_
    refine qam (qb2 aa bQ (d:=61) (j:=16) (t:=22) (e:=5) (bytes:=1) (z:=.int .u8 0) kz kz kz kz (rfl) (rfl) (by omega) fun au md me jJ jK jL aQ ft=>?_)
    refine qaj [1] [] [(8,.p 1 0),(9,.p 2 0),(13,.v (.slice (some ⟨au,0,none⟩) 16 16))] aQ ft fun mf fu=>?_
    refine qaf (qab ?_)
    refine qag [0,1,2,3] kz ?_
    refine qaj [0,1,2] [3] [(9,.p 2 0),(13,.v (.slice (some ⟨au,0,none⟩) 16 16)),(62,.v (.slice (some ⟨au,0,none⟩) 16 16)),(64,.v (.slice ai ab.length aj))] aQ fu fun mg fv=>?_
    refine qam (qcf aQ fv (k:=0) (d:=65) (t:=22) (u:=22) (e:=5) (bytes:=1) (A:=(some ⟨au,0,none⟩)) (As:=ai) (m:=ab.length) (cs:=aj) (m0:=16) (c:=16) (xs:=(List.replicate 16 (.int .u8 0))) (news:=bc ab) kz kz rfl (aH.move aQ.step nilM aQ.imm).src fun mh mj jM fw fx=>?_)
    have fy:(⟨(some ⟨au,0,none⟩),16,5,1,16,qba (List.replicate 16 (.int .u8 0)) 0 ((bc ab).take (min ab.length 16))⟩:Rw) = brow (some ⟨au,0,none⟩) 16 5 (qbb ab):=qde _ _ _
    obtain ⟨aJ,jN⟩:=fw.rowEq 0 [brow (some ⟨au,0,none⟩) 16 5 (qbb ab)] fy
    have fz:=EnvOk.pick fx (ks:=[9,13,62,64,65]) (env':=[(9,.p 2 0),(13,.v (.slice (some ⟨au,0,none⟩) 16 16)),(62,.v (.slice (some ⟨au,0,none⟩) 16 16)),(64,.v (.slice ai ab.length aj)),(65,.v (.int .i64 ((min ab.length 16:Nat):Int)))]) kz
    have fA:=fz.cast (env':=[(9,.p 2 0),(13,.v (.slice (some ⟨au,0,none⟩) ((qbb ab).length) 16)),(62,.v (.slice (some ⟨au,0,none⟩) ((qbb ab).length) 16)),(64,.v (.slice ai ab.length aj)),(65,.v (.int .i64 ((min ab.length 16:Nat):Int)))]) (by rw [qa4 _])
    refine qaf (qab ?_)
    refine qag [0,1,2,3,4] kz ?_
    refine qaj [0,1,2] [3,4] [(67,.v (.slice al ah.length am)),(68,.v (.slice (some ⟨au,0,none⟩) ((qbb ab).length) 16))] aJ fA fun ml fB=>?_
    refine qam (qal fB (f:=26) (vs:=[.slice al ah.length am,.slice (some ⟨au,0,none⟩) ((qbb ab).length) 16]) (d:=69) kz Tryd.call26 (qdM _ _ _ _ ah (qbb ab) _ _ ((bt.move aJ.step nilM aJ.imm).move (Step.refl _ Nil) nilM allF) (qbU (aJ.own 0 _ rfl) (by first | omega | (rw [qa4]; decide) | (simp only [be_length]; exact Nat.le_trans (qbh _) (by decide)) | (have:=hroom; omega) | (have:=hmade; omega) | (simp only [List.length_append,List.length_nil]; omega)) (F:=fun _ _=>True) (fun _ _ _=>trivial))) ?_)
    rintro e_ mn ⟨rfl,cZ⟩
    refine ⟨_,rfl,fun mo fC=>?_⟩
    have bS:=aJ.next_nil cZ
    have jO:=aJ.frN cZ
    refine qaj [4] [] [(10,.v (.bool (decide (ah = qbb ab))))] bS fC fun mp fD=>?_
    refine qaf (qab ?_)
    refine wp_ret ?_
    refine qax ?_
    refine qao ?_
    refine qaJ fD bS.cells (v:=.bool (decide (ah = qbb ab))) kz ?_
    refine ⟨congrArg (fun b_=>Ending.returned (Value.bool b_)) ?_,bS.step⟩
    first
     | exact qdQ hq ‹_› ‹_›
     | exact qdR hq ‹_› ‹_›
     | exact to_u hq ‹_› ‹_›
     | exact to_m hq ‹_› ‹_› ‹_› ‹_› ‹_› ‹_›
   have jP:k1 ≠ 7:=by simpa using bR
   refine qar [(1,.v (.int .i64 v)),(2,.v (.bool flex)),(5,.p 0 0),(8,.p 1 0),(9,.p 2 0),(49,.v (.int .i64 k1)),(70,.v (.bool (k1 == 10)))] aa bQ fun mq c5=>?_
   refine qap c5 (b:=k1 == 10) kz (ay) ?_
   refine qar [(1,.v (.int .i64 v)),(2,.v (.bool flex)),(5,.p 0 0),(8,.p 1 0),(9,.p 2 0),(79,.v (.bool (k1 == 11)))] aa c5 fun mr c6=>?_
   refine qap c6 (b:=k1 == 11) kz (by simpa using bu) ?_
   refine wp_skip ?_
   refine qaq ?_
   refine qab ?_
   refine qaG 8 kz aa fun mt jQ da fE=>?_
   refine qaD [0,1,2,3,4,5] [(117,.v (.int .i64 aN)),(119,.v (.int .i64 k1)),(121,.v (.int .i64 ac))] 3 (qaa qad) (fun _ h=>h.cells) fE c6 fun mu fF=>?_
   refine qaw (i:=6) kz (qal fF (f:=42) (vs:=[.int .i64 k1,.int .i64 ac]) (d:=122) kz Tryd.call42 (qfG k1 ac _) ?_)
   rintro e_ mw ⟨rfl,db⟩
   refine ⟨_,rfl,fun mx fG=>?_⟩
   have ba:=da.next_nil db
   have fH:=da.frN db
   have dc:=TT.ofW fH ba
   refine ⟨fun _=>dc,?_⟩
   refine qaD [7] [(123,.v (.bool (aN == (qbd k1 ac))))] 1 (qaa qad) (fun _ h=>h.cells) dc fG fun my fI=>?_
   refine qaw (i:=8) kz (qa9 [10] ba.cells fI (env':=[(10,.v (.bool (aN == (qbd k1 ac))))]) kz fun mz fJ=>?_)
   refine ⟨fun h=>absurd rfl h,?_⟩
   refine qaF kz ?_ _
   refine qab ?_
   refine wp_ret ?_
   refine qaJ fJ ba.cells (v:=.bool (aN == (qbd k1 ac))) kz ?_
   refine ⟨congrArg (fun b_=>Ending.returned (Value.bool b_)) ?_,ba.step⟩
   first
    | exact qdQ hq ‹_› ‹_›
    | exact qdR hq ‹_› ‹_›
    | exact to_u hq ‹_› ‹_›
    | exact to_m hq ‹_› ‹_› ‹_› ‹_› ‹_› ‹_›
  have jR:=of_decide_eq_false aP
  have fK:=cU.cast (env':=[(1,.v (.int .i64 v)),(2,.v (.bool flex)),(5,.p 0 0),(8,.p 1 0),(9,.p 2 0),(11,.v (.bool (Fld.nul (Fld.mk k1 y2 y3 y4 y5 y6 y7 l8) v (Tree.mk ac ab ae af ag)))),(41,.v (.bool false))]) (by rw [aP])
  refine qaj [12,13,14,15,16] [] [(1,.v (.int .i64 v)),(2,.v (.bool flex)),(5,.p 0 0),(8,.p 1 0),(9,.p 2 0),(11,.v (.bool (Fld.nul (Fld.mk k1 y2 y3 y4 y5 y6 y7 l8) v (Tree.mk ac ab ae af ag)))),(46,.v (.bool false))] aa fK fun mA de=>?_
  refine qaf (qab ?_)
  refine qap de (b:=false) kz rfl ?_
  refine wp_skip ?_
  refine qab ?_
  refine wp_seq ?_
  refine qar [(1,.v (.int .i64 v)),(2,.v (.bool flex)),(5,.p 0 0),(8,.p 1 0),(9,.p 2 0),(47,.v (.bool (Fld.nul (Fld.mk k1 y2 y3 y4 y5 y6 y7 l8) v (Tree.mk ac ab ae af ag))))] aa de fun mB bT=>?_
  refine qay bT (b:=Fld.nul (Fld.mk k1 y2 y3 y4 y5 y6 y7 l8) v (Tree.mk ac ab ae af ag)) kz (fun fL=>?_) (fun fL=>?_)
  ·
   refine qar [(10,.v (.bool true))] aa bT fun mC fM=>?_
   refine wp_ret ?_
   refine qao ?_
   refine qaJ fM aa.cells (v:=.bool true) kz ?_
   exact ⟨rfl,aa.step⟩
  refine wp_skip ?_
  refine qab ?_
  refine wp_seq ?_
  refine qar [(1,.v (.int .i64 v)),(2,.v (.bool flex)),(5,.p 0 0),(8,.p 1 0),(9,.p 2 0),(49,.v (.int .i64 k1))] aa bT fun mD fN=>?_
  refine wp_block ?_
  refine wp_seq ?_
  refine qar [(1,.v (.int .i64 v)),(2,.v (.bool flex)),(5,.p 0 0),(8,.p 1 0),(9,.p 2 0),(49,.v (.int .i64 k1)),(50,.v (.bool (k1 == 8)))] aa fN fun mF df=>?_
  refine qap df (b:=k1 == 8) kz (ak) ?_
  refine qat [0,1] kz ?_
  refine qaj [0,1] [] [(1,.v (.int .i64 v)),(2,.v (.bool flex)),(5,.p 0 0),(8,.p 1 0),(9,.p 2 0),(49,.v (.int .i64 k1)),(50,.v (.bool (k1 == 9)))] aa df fun mG bU=>?_
  refine qaf (qab ?_)
  refine qay bU (b:=k1 == 9) kz (fun bV=>?_) (fun bV=>?_)
  ·
   have jS:k1 = 9:=by simpa using bV
   refine qaG 6 kz aa fun mH jT bd fO=>?_
   refine qaD [0,1,2,3] [(54,.v (.slice al ah.length am)),(56,.v (.slice ai ab.length aj))] 3 (qaa (qac (qaa qad))) (fun _ h=>h.cells) fO bU fun mI fP=>?_
   have iZ:=qa8 ab
   refine qaw (i:=4) kz (qal fP (f:=27) (vs:=[.slice ai ab.length aj]) (d:=57) kz Tryd.call27 (qc6 _ _ ab (aH.move bd.step nilM bd.imm).le _) ?_)
   rintro e_ mJ ⟨rfl,dg⟩
   refine ⟨_,rfl,fun mK fQ=>?_⟩
   have aC:=bd.next_nil dg
   have dh:=bd.frN dg
   have fR:=TT.ofW dh aC
   refine ⟨fun _=>fR,?_⟩
   refine qaw (i:=5) kz (qal fQ (f:=26) (vs:=[.slice al ah.length am,.slice ai ((qaE ab).length) aj]) (d:=58) kz Tryd.call26 (qdM _ _ _ _ ah (qaE ab) _ _ ((bt.move aC.step nilM aC.imm).move (Step.refl _ Nil) nilM allF) (((aH.take 32767).move aC.step nilM aC.imm).move (Step.refl _ Nil) nilM allF)) ?_)
   rintro e_ mL ⟨rfl,di⟩
   refine ⟨_,rfl,fun mM fS=>?_⟩
   have bf:=aC.next_nil di
   have fT:=aC.frN di
   have fU:=TT.ofW (dh.trans fT) bf
   refine ⟨fun _=>fU,?_⟩
   refine qaw (i:=6) kz (qa9 [10] bf.cells fS (env':=[(10,.v (.bool (decide (ah = (qaE ab)))))]) kz fun mN fV=>?_)
   refine ⟨fun h=>absurd rfl h,?_⟩
   refine qaF kz ?_ _
   refine qab ?_
   refine wp_ret ?_
   refine qax ?_
   refine qao ?_
   refine qaJ fV bf.cells (v:=.bool (decide (ah = (qaE ab)))) kz ?_
   refine ⟨congrArg (fun b_=>Ending.returned (Value.bool b_)) ?_,bf.step⟩
   first
    | exact qdQ hq ‹_› ‹_›
    | exact qdR hq ‹_› ‹_›
    | exact to_u hq ‹_› ‹_›
    | exact to_m hq ‹_› ‹_› ‹_› ‹_› ‹_› ‹_›
  have jU:k1 ≠ 9:=by simpa using bV
  refine qar [(1,.v (.int .i64 v)),(2,.v (.bool flex)),(5,.p 0 0),(8,.p 1 0),(9,.p 2 0),(49,.v (.int .i64 k1)),(59,.v (.bool (k1 == 7)))] aa bU fun mO bW=>?_
  refine qay bW (b:=k1 == 7) kz (fun bX=>?_) (fun bX=>?_)
  ·
   have jV:k1 = 7:=by simpa using bX
   refine qag [0,1] kz ?_
   refine qam (qb2 aa bW (d:=61) (j:=16) (t:=22) (e:=5) (bytes:=1) (z:=.int .u8 0) kz kz kz kz (rfl) (rfl) (by omega) fun av mQ mR jW jX jY aR fW=>?_)
   refine qaj [1] [] [(8,.p 1 0),(9,.p 2 0),(13,.v (.slice (some ⟨av,0,none⟩) 16 16))] aR fW fun mS fX=>?_
   refine qaf (qab ?_)
   refine qag [0,1,2,3] kz ?_
   refine qaj [0,1,2] [3] [(9,.p 2 0),(13,.v (.slice (some ⟨av,0,none⟩) 16 16)),(62,.v (.slice (some ⟨av,0,none⟩) 16 16)),(64,.v (.slice ai ab.length aj))] aR fX fun mT fY=>?_
   refine qam (qcf aR fY (k:=0) (d:=65) (t:=22) (u:=22) (e:=5) (bytes:=1) (A:=(some ⟨av,0,none⟩)) (As:=ai) (m:=ab.length) (cs:=aj) (m0:=16) (c:=16) (xs:=(List.replicate 16 (.int .u8 0))) (news:=bc ab) kz kz rfl (aH.move aR.step nilM aR.imm).src fun mU mV jZ fZ f5=>?_)
   have f7:(⟨(some ⟨av,0,none⟩),16,5,1,16,qba (List.replicate 16 (.int .u8 0)) 0 ((bc ab).take (min ab.length 16))⟩:Rw) = brow (some ⟨av,0,none⟩) 16 5 (qbb ab):=qde _ _ _
   obtain ⟨aK,j0⟩:=fZ.rowEq 0 [brow (some ⟨av,0,none⟩) 16 5 (qbb ab)] f7
   have f8:=EnvOk.pick f5 (ks:=[9,13,62,64,65]) (env':=[(9,.p 2 0),(13,.v (.slice (some ⟨av,0,none⟩) 16 16)),(62,.v (.slice (some ⟨av,0,none⟩) 16 16)),(64,.v (.slice ai ab.length aj)),(65,.v (.int .i64 ((min ab.length 16:Nat):Int)))]) kz
   have f9:=f8.cast (env':=[(9,.p 2 0),(13,.v (.slice (some ⟨av,0,none⟩) ((qbb ab).length) 16)),(62,.v (.slice (some ⟨av,0,none⟩) ((qbb ab).length) 16)),(64,.v (.slice ai ab.length aj)),(65,.v (.int .i64 ((min ab.length 16:Nat):Int)))]) (by rw [qa4 _])
   refine qaf (qab ?_)
   refine qag [0,1,2,3,4] kz ?_
   refine qaj [0,1,2] [3,4] [(67,.v (.slice al ah.length am)),(68,.v (.slice (some ⟨av,0,none⟩) ((qbb ab).length) 16))] aK f9 fun mW ga=>?_
   refine qam (qal ga (f:=26) (vs:=[.slice al ah.length am,.slice (some ⟨av,0,none⟩) ((qbb ab).length) 16]) (d:=69) kz Tryd.call26 (qdM _ _ _ _ ah (qbb ab) _ _ ((bt.move aK.step nilM aK.imm).move (Step.refl _ Nil) nilM allF) (qbU (aK.own 0 _ rfl) (by first | omega | (rw [qa4]; decide) | (simp only [be_length]; exact Nat.le_trans (qbh _) (by decide)) | (have:=hroom; omega) | (have:=hmade; omega) | (simp only [List.length_append,List.length_nil]; omega)) (F:=fun _ _=>True) (fun _ _ _=>trivial))) ?_)
   rintro e_ mX ⟨rfl,dj⟩
   refine ⟨_,rfl,fun mY gb=>?_⟩
   have bY:=aK.next_nil dj
   have j1:=aK.frN dj
   refine qaj [4] [] [(10,.v (.bool (decide (ah = qbb ab))))] bY gb fun mZ gc=>?_
   refine qaf (qab ?_)
   refine wp_ret ?_
   refine qax ?_
   refine qao ?_
   refine qaJ gc bY.cells (v:=.bool (decide (ah = qbb ab))) kz ?_
   refine ⟨congrArg (fun b_=>Ending.returned (Value.bool b_)) ?_,bY.step⟩
   first
    | exact qdQ hq ‹_› ‹_›
    | exact qdR hq ‹_› ‹_›
    | exact to_u hq ‹_› ‹_›
    | exact to_m hq ‹_› ‹_› ‹_› ‹_› ‹_› ‹_›
  have j2:k1 ≠ 7:=by simpa using bX
  refine qar [(1,.v (.int .i64 v)),(2,.v (.bool flex)),(5,.p 0 0),(8,.p 1 0),(9,.p 2 0),(49,.v (.int .i64 k1)),(70,.v (.bool (k1 == 10)))] aa bW fun m4 dl=>?_
  refine qap dl (b:=k1 == 10) kz (ay) ?_
  refine qar [(1,.v (.int .i64 v)),(2,.v (.bool flex)),(5,.p 0 0),(8,.p 1 0),(9,.p 2 0),(79,.v (.bool (k1 == 11)))] aa dl fun m5 dp=>?_
  refine qap dp (b:=k1 == 11) kz (by simpa using bu) ?_
  refine wp_skip ?_
  refine qaq ?_
  refine qab ?_
  refine qaG 8 kz aa fun m6 j3 dq gd=>?_
  refine qaD [0,1,2,3,4,5] [(117,.v (.int .i64 aN)),(119,.v (.int .i64 k1)),(121,.v (.int .i64 ac))] 3 (qaa qad) (fun _ h=>h.cells) gd dp fun m7 ge=>?_
  refine qaw (i:=6) kz (qal ge (f:=42) (vs:=[.int .i64 k1,.int .i64 ac]) (d:=122) kz Tryd.call42 (qfG k1 ac _) ?_)
  rintro e_ m8 ⟨rfl,dr⟩
  refine ⟨_,rfl,fun m9 gg=>?_⟩
  have bg:=dq.next_nil dr
  have gh:=dq.frN dr
  have dt:=TT.ofW gh bg
  refine ⟨fun _=>dt,?_⟩
  refine qaD [7] [(123,.v (.bool (aN == (qbd k1 ac))))] 1 (qaa qad) (fun _ h=>h.cells) dt gg fun na gi=>?_
  refine qaw (i:=8) kz (qa9 [10] bg.cells gi (env':=[(10,.v (.bool (aN == (qbd k1 ac))))]) kz fun nb gj=>?_)
  refine ⟨fun h=>absurd rfl h,?_⟩
  refine qaF kz ?_ _
  refine qab ?_
  refine wp_ret ?_
  refine qaJ gj bg.cells (v:=.bool (aN == (qbd k1 ac))) kz ?_
  refine ⟨congrArg (fun b_=>Ending.returned (Value.bool b_)) ?_,bg.step⟩
  first
   | exact qdQ hq ‹_› ‹_›
   | exact qdR hq ‹_› ‹_›
   | exact to_u hq ‹_› ‹_›
   | exact to_m hq ‹_› ‹_› ‹_› ‹_› ‹_› ‹_›
 have j4:=of_decide_eq_false bw
 have gk:=ea.cast (env':=[(1,.v (.int .i64 v)),(2,.v (.bool flex)),(5,.p 0 0),(8,.p 1 0),(9,.p 2 0),(11,.v (.bool (Fld.nul (Fld.mk k1 y2 y3 y4 y5 y6 y7 l8) v (Tree.mk ac ab ae af ag)))),(24,.v (.bool false))]) (by rw [bw])
 refine qaj [4,5,6,7,8,9] [] [(1,.v (.int .i64 v)),(2,.v (.bool flex)),(5,.p 0 0),(8,.p 1 0),(9,.p 2 0),(11,.v (.bool (Fld.nul (Fld.mk k1 y2 y3 y4 y5 y6 y7 l8) v (Tree.mk ac ab ae af ag)))),(12,.v (.bool false))] aa gk fun nc gl=>?_
 refine qaf (qab ?_)
 refine wp_seq ?_
 refine qag [0,1,2,3,4,5,6,7,8,9,10,11,12,13,14,15,16] kz ?_
 refine qaj [0,1,2,3] [4,5,6,7,8,9,10,11,12,13,14,15,16] [(1,.v (.int .i64 v)),(2,.v (.bool flex)),(5,.p 0 0),(8,.p 1 0),(9,.p 2 0),(11,.v (.bool (Fld.nul (Fld.mk k1 y2 y3 y4 y5 y6 y7 l8) v (Tree.mk ac ab ae af ag)))),(12,.v (.bool false)),(33,.v (.bool (k1 == 8)))] aa gl fun nf du=>?_
 refine (Bool.eq_false_or_eq_true (k1 == 8)).elim (fun ao=>?_) (fun ao=>?_)
 ·
  have j5:k1 = 8:=by simpa using ao
  have gm:=du.cast (env':=[(1,.v (.int .i64 v)),(2,.v (.bool flex)),(5,.p 0 0),(8,.p 1 0),(9,.p 2 0),(11,.v (.bool (Fld.nul (Fld.mk k1 y2 y3 y4 y5 y6 y7 l8) v (Tree.mk ac ab ae af ag)))),(12,.v (.bool false)),(33,.v (.bool true))]) (by rw [ao])
  refine qaj [4,5,6,7,8,9,10,11,12,13,14,15,16] [] [(1,.v (.int .i64 v)),(2,.v (.bool flex)),(5,.p 0 0),(8,.p 1 0),(9,.p 2 0),(11,.v (.bool (Fld.nul (Fld.mk k1 y2 y3 y4 y5 y6 y7 l8) v (Tree.mk ac ab ae af ag)))),(46,.v (.bool (!(ap == (Fld.nul (Fld.mk k1 y2 y3 y4 y5 y6 y7 l8) v (Tree.mk ac ab ae af ag))))))] aa gm fun ng bZ=>?_
  refine qaf (qab ?_)
  refine qay bZ (b:=!(ap == (Fld.nul (Fld.mk k1 y2 y3 y4 y5 y6 y7 l8) v (Tree.mk ac ab ae af ag)))) kz (fun b8=>?_) (fun b8=>?_)
  ·
   have j6:!(ap = (Fld.nul (Fld.mk k1 y2 y3 y4 y5 y6 y7 l8) v (Tree.mk ac ab ae af ag))):=by simpa using b8
   refine qar [(10,.v (.bool false))] aa bZ fun nh gn=>?_
   refine wp_ret ?_
   refine qao ?_
   refine qaJ gn aa.cells (v:=.bool false) kz ?_
   first
    | exact (qi8 hq ‹_› ‹_›).elim
    | exact (qgi hq ‹_› ‹_›).elim
    | exact (qfF hq ‹_› ‹_› ‹_›).elim
  have j7:!(ap ≠ (Fld.nul (Fld.mk k1 y2 y3 y4 y5 y6 y7 l8) v (Tree.mk ac ab ae af ag))):=by simpa using b8
  refine wp_skip ?_
  refine qab ?_
  refine wp_seq ?_
  refine qar [(1,.v (.int .i64 v)),(2,.v (.bool flex)),(5,.p 0 0),(8,.p 1 0),(9,.p 2 0),(47,.v (.bool (Fld.nul (Fld.mk k1 y2 y3 y4 y5 y6 y7 l8) v (Tree.mk ac ab ae af ag))))] aa bZ fun ni ca=>?_
  refine qay ca (b:=Fld.nul (Fld.mk k1 y2 y3 y4 y5 y6 y7 l8) v (Tree.mk ac ab ae af ag)) kz (fun gp=>?_) (fun gp=>?_)
  ·
   refine qar [(10,.v (.bool true))] aa ca fun nj gq=>?_
   refine wp_ret ?_
   refine qao ?_
   refine qaJ gq aa.cells (v:=.bool true) kz ?_
   exact ⟨rfl,aa.step⟩
  refine wp_skip ?_
  refine qab ?_
  refine wp_seq ?_
  refine qar [(1,.v (.int .i64 v)),(2,.v (.bool flex)),(5,.p 0 0),(8,.p 1 0),(9,.p 2 0),(49,.v (.int .i64 k1))] aa ca fun nk gt=>?_
  refine wp_block ?_
  refine wp_seq ?_
  refine qar [(1,.v (.int .i64 v)),(2,.v (.bool flex)),(5,.p 0 0),(8,.p 1 0),(9,.p 2 0),(49,.v (.int .i64 k1)),(50,.v (.bool (k1 == 8)))] aa gt fun nl cb=>?_
  refine qaU cb (b:=k1 == 8) kz (ao) ?_
  refine wp_skip ?_
  refine qab ?_
  refine qaU cb (b:=k1 == 8) kz (ao) ?_
  refine qaG 6 kz aa fun nm j8 bh gv=>?_
  refine qaD [0,1,2,3] [(54,.v (.slice al ah.length am)),(56,.v (.slice ai ab.length aj))] 3 (qaa (qac (qaa qad))) (fun _ h=>h.cells) gv cb fun np gw=>?_
  have i6:=qa8 ab
  refine qaw (i:=4) kz (qal gw (f:=27) (vs:=[.slice ai ab.length aj]) (d:=57) kz Tryd.call27 (qc6 _ _ ab (aH.move bh.step nilM bh.imm).le _) ?_)
  rintro e_ nr ⟨rfl,dv⟩
  refine ⟨_,rfl,fun ns gx=>?_⟩
  have aD:=bh.next_nil dv
  have dw:=bh.frN dv
  have gy:=TT.ofW dw aD
  refine ⟨fun _=>gy,?_⟩
  refine qaw (i:=5) kz (qal gx (f:=26) (vs:=[.slice al ah.length am,.slice ai ((qaE ab).length) aj]) (d:=58) kz Tryd.call26 (qdM _ _ _ _ ah (qaE ab) _ _ ((bt.move aD.step nilM aD.imm).move (Step.refl _ Nil) nilM allF) (((aH.take 32767).move aD.step nilM aD.imm).move (Step.refl _ Nil) nilM allF)) ?_)
  rintro e_ nt ⟨rfl,dx⟩
  refine ⟨_,rfl,fun nu gz=>?_⟩
  have bj:=aD.next_nil dx
  have gA:=aD.frN dx
  have gB:=TT.ofW (dw.trans gA) bj
  refine ⟨fun _=>gB,?_⟩
  refine qaw (i:=6) kz (qa9 [10] bj.cells gz (env':=[(10,.v (.bool (decide (ah = (qaE ab)))))]) kz fun nv gC=>?_)
  refine ⟨fun h=>absurd rfl h,?_⟩
  refine qaF kz ?_ _
  refine qab ?_
  refine wp_ret ?_
  refine qax ?_
  refine qao ?_
  refine qaJ gC bj.cells (v:=.bool (decide (ah = (qaE ab)))) kz ?_
  refine ⟨congrArg (fun b_=>Ending.returned (Value.bool b_)) ?_,bj.step⟩
  first
   | exact qdQ hq ‹_› ‹_›
   | exact qdR hq ‹_› ‹_›
   | exact to_u hq ‹_› ‹_›
   | exact to_m hq ‹_› ‹_› ‹_› ‹_› ‹_› ‹_›
 have j9:k1 ≠ 8:=by simpa using ao
 have gD:=du.cast (env':=[(1,.v (.int .i64 v)),(2,.v (.bool flex)),(5,.p 0 0),(8,.p 1 0),(9,.p 2 0),(11,.v (.bool (Fld.nul (Fld.mk k1 y2 y3 y4 y5 y6 y7 l8) v (Tree.mk ac ab ae af ag)))),(12,.v (.bool false)),(33,.v (.bool false))]) (by rw [ao])
 refine qaj [4,5,6,7,8] [9,10,11,12,13,14,15,16] [(1,.v (.int .i64 v)),(2,.v (.bool flex)),(5,.p 0 0),(8,.p 1 0),(9,.p 2 0),(11,.v (.bool (Fld.nul (Fld.mk k1 y2 y3 y4 y5 y6 y7 l8) v (Tree.mk ac ab ae af ag)))),(12,.v (.bool false)),(38,.v (.bool (k1 == 10)))] aa gD fun nw dy=>?_
 refine (Bool.eq_false_or_eq_true (k1 == 10)).elim (fun aE=>?_) (fun aE=>?_)
 ·
  have ka:k1 = 10:=by simpa using aE
  have gE:=dy.cast (env':=[(1,.v (.int .i64 v)),(2,.v (.bool flex)),(5,.p 0 0),(8,.p 1 0),(9,.p 2 0),(11,.v (.bool (Fld.nul (Fld.mk k1 y2 y3 y4 y5 y6 y7 l8) v (Tree.mk ac ab ae af ag)))),(12,.v (.bool false)),(38,.v (.bool true))]) (by rw [aE])
  refine qaj [9,10,11,12,13,14,15,16] [] [(1,.v (.int .i64 v)),(2,.v (.bool flex)),(5,.p 0 0),(8,.p 1 0),(9,.p 2 0),(11,.v (.bool (Fld.nul (Fld.mk k1 y2 y3 y4 y5 y6 y7 l8) v (Tree.mk ac ab ae af ag)))),(46,.v (.bool (!(ap == (Fld.nul (Fld.mk k1 y2 y3 y4 y5 y6 y7 l8) v (Tree.mk ac ab ae af ag))))))] aa gE fun nx cc=>?_
  refine qaf (qab ?_)
  refine qay cc (b:=!(ap == (Fld.nul (Fld.mk k1 y2 y3 y4 y5 y6 y7 l8) v (Tree.mk ac ab ae af ag)))) kz (fun cd=>?_) (fun cd=>?_)
  ·
   have kd:!(ap = (Fld.nul (Fld.mk k1 y2 y3 y4 y5 y6 y7 l8) v (Tree.mk ac ab ae af ag))):=by simpa using cd
   refine qar [(10,.v (.bool false))] aa cc fun ny gF=>?_
   refine wp_ret ?_
   refine qao ?_
   refine qaJ gF aa.cells (v:=.bool false) kz ?_
   first
    | exact (qi8 hq ‹_› ‹_›).elim
    | exact (qgi hq ‹_› ‹_›).elim
    | exact (qfF hq ‹_› ‹_› ‹_›).elim
  have ke:!(ap ≠ (Fld.nul (Fld.mk k1 y2 y3 y4 y5 y6 y7 l8) v (Tree.mk ac ab ae af ag))):=by simpa using cd
  refine wp_skip ?_
  refine qab ?_
  refine wp_seq ?_
  refine qar [(1,.v (.int .i64 v)),(2,.v (.bool flex)),(5,.p 0 0),(8,.p 1 0),(9,.p 2 0),(47,.v (.bool (Fld.nul (Fld.mk k1 y2 y3 y4 y5 y6 y7 l8) v (Tree.mk ac ab ae af ag))))] aa cc fun nz ce=>?_
  refine qay ce (b:=Fld.nul (Fld.mk k1 y2 y3 y4 y5 y6 y7 l8) v (Tree.mk ac ab ae af ag)) kz (fun gG=>?_) (fun gG=>?_)
  ·
   refine qar [(10,.v (.bool true))] aa ce fun nA gH=>?_
   refine wp_ret ?_
   refine qao ?_
   refine qaJ gH aa.cells (v:=.bool true) kz ?_
   exact ⟨rfl,aa.step⟩
  refine wp_skip ?_
  refine qab ?_
  refine wp_seq ?_
  refine qar [(1,.v (.int .i64 v)),(2,.v (.bool flex)),(5,.p 0 0),(8,.p 1 0),(9,.p 2 0),(49,.v (.int .i64 k1))] aa ce fun nB gI=>?_
  refine wp_block ?_
  refine wp_seq ?_
  refine qar [(1,.v (.int .i64 v)),(2,.v (.bool flex)),(5,.p 0 0),(8,.p 1 0),(9,.p 2 0),(49,.v (.int .i64 k1)),(50,.v (.bool (k1 == 8)))] aa gI fun nC dA=>?_
  refine qap dA (b:=k1 == 8) kz (ao) ?_
  refine qat [0,1] kz ?_
  refine qaj [0,1] [] [(1,.v (.int .i64 v)),(2,.v (.bool flex)),(5,.p 0 0),(8,.p 1 0),(9,.p 2 0),(49,.v (.int .i64 k1)),(50,.v (.bool (k1 == 9)))] aa dA fun nD cm=>?_
  refine qaf (qab ?_)
  refine qay cm (b:=k1 == 9) kz (fun cq=>?_) (fun cq=>?_)
  ·
   have kf:k1 = 9:=by simpa using cq
   refine qaG 6 kz aa fun nE kg bk gJ=>?_
   refine qaD [0,1,2,3] [(54,.v (.slice al ah.length am)),(56,.v (.slice ai ab.length aj))] 3 (qaa (qac (qaa qad))) (fun _ h=>h.cells) gJ cm fun nF gK=>?_
   have i7:=qa8 ab
   refine qaw (i:=4) kz (qal gK (f:=27) (vs:=[.slice ai ab.length aj]) (d:=57) kz Tryd.call27 (qc6 _ _ ab (aH.move bk.step nilM bk.imm).le _) ?_)
   rintro e_ nG ⟨rfl,dB⟩
   refine ⟨_,rfl,fun nH gL=>?_⟩
   have aF:=bk.next_nil dB
   have dC:=bk.frN dB
   have gM:=TT.ofW dC aF
   refine ⟨fun _=>gM,?_⟩
   refine qaw (i:=5) kz (qal gL (f:=26) (vs:=[.slice al ah.length am,.slice ai ((qaE ab).length) aj]) (d:=58) kz Tryd.call26 (qdM _ _ _ _ ah (qaE ab) _ _ ((bt.move aF.step nilM aF.imm).move (Step.refl _ Nil) nilM allF) (((aH.take 32767).move aF.step nilM aF.imm).move (Step.refl _ Nil) nilM allF)) ?_)
   rintro e_ nI ⟨rfl,dD⟩
   refine ⟨_,rfl,fun nJ gN=>?_⟩
   have bn:=aF.next_nil dD
   have gO:=aF.frN dD
   have gP:=TT.ofW (dC.trans gO) bn
   refine ⟨fun _=>gP,?_⟩
   refine qaw (i:=6) kz (qa9 [10] bn.cells gN (env':=[(10,.v (.bool (decide (ah = (qaE ab)))))]) kz fun nK gQ=>?_)
   refine ⟨fun h=>absurd rfl h,?_⟩
   refine qaF kz ?_ _
   refine qab ?_
   refine wp_ret ?_
   refine qax ?_
   refine qao ?_
   refine qaJ gQ bn.cells (v:=.bool (decide (ah = (qaE ab)))) kz ?_
   refine ⟨congrArg (fun b_=>Ending.returned (Value.bool b_)) ?_,bn.step⟩
   first
    | exact qdQ hq ‹_› ‹_›
    | exact qdR hq ‹_› ‹_›
    | exact to_u hq ‹_› ‹_›
    | exact to_m hq ‹_› ‹_› ‹_› ‹_› ‹_› ‹_›
  have kh:k1 ≠ 9:=by simpa using cq
  refine qar [(1,.v (.int .i64 v)),(2,.v (.bool flex)),(5,.p 0 0),(8,.p 1 0),(9,.p 2 0),(49,.v (.int .i64 k1)),(59,.v (.bool (k1 == 7)))] aa cm fun nL cr=>?_
  refine qay cr (b:=k1 == 7) kz (fun cu=>?_) (fun cu=>?_)
  ·
   have ki:k1 = 7:=by simpa using cu
   refine qag [0,1] kz ?_
   refine qam (qb2 aa cr (d:=61) (j:=16) (t:=22) (e:=5) (bytes:=1) (z:=.int .u8 0) kz kz kz kz (rfl) (rfl) (by omega) fun aw nM nN kj km ko aS gR=>?_)
   refine qaj [1] [] [(8,.p 1 0),(9,.p 2 0),(13,.v (.slice (some ⟨aw,0,none⟩) 16 16))] aS gR fun nO gS=>?_
   refine qaf (qab ?_)
   refine qag [0,1,2,3] kz ?_
   refine qaj [0,1,2] [3] [(9,.p 2 0),(13,.v (.slice (some ⟨aw,0,none⟩) 16 16)),(62,.v (.slice (some ⟨aw,0,none⟩) 16 16)),(64,.v (.slice ai ab.length aj))] aS gS fun nP gT=>?_
   refine qam (qcf aS gT (k:=0) (d:=65) (t:=22) (u:=22) (e:=5) (bytes:=1) (A:=(some ⟨aw,0,none⟩)) (As:=ai) (m:=ab.length) (cs:=aj) (m0:=16) (c:=16) (xs:=(List.replicate 16 (.int .u8 0))) (news:=bc ab) kz kz rfl (aH.move aS.step nilM aS.imm).src fun nQ nR kp gU gV=>?_)
   have gW:(⟨(some ⟨aw,0,none⟩),16,5,1,16,qba (List.replicate 16 (.int .u8 0)) 0 ((bc ab).take (min ab.length 16))⟩:Rw) = brow (some ⟨aw,0,none⟩) 16 5 (qbb ab):=qde _ _ _
   obtain ⟨aL,kq⟩:=gU.rowEq 0 [brow (some ⟨aw,0,none⟩) 16 5 (qbb ab)] gW
   have gX:=EnvOk.pick gV (ks:=[9,13,62,64,65]) (env':=[(9,.p 2 0),(13,.v (.slice (some ⟨aw,0,none⟩) 16 16)),(62,.v (.slice (some ⟨aw,0,none⟩) 16 16)),(64,.v (.slice ai ab.length aj)),(65,.v (.int .i64 ((min ab.length 16:Nat):Int)))]) kz
   have gY:=gX.cast (env':=[(9,.p 2 0),(13,.v (.slice (some ⟨aw,0,none⟩) ((qbb ab).length) 16)),(62,.v (.slice (some ⟨aw,0,none⟩) ((qbb ab).length) 16)),(64,.v (.slice ai ab.length aj)),(65,.v (.int .i64 ((min ab.length 16:Nat):Int)))]) (by rw [qa4 _])
   refine qaf (qab ?_)
   refine qag [0,1,2,3,4] kz ?_
   refine qaj [0,1,2] [3,4] [(67,.v (.slice al ah.length am)),(68,.v (.slice (some ⟨aw,0,none⟩) ((qbb ab).length) 16))] aL gY fun nS gZ=>?_
   refine qam (qal gZ (f:=26) (vs:=[.slice al ah.length am,.slice (some ⟨aw,0,none⟩) ((qbb ab).length) 16]) (d:=69) kz Tryd.call26 (qdM _ _ _ _ ah (qbb ab) _ _ ((bt.move aL.step nilM aL.imm).move (Step.refl _ Nil) nilM allF) (qbU (aL.own 0 _ rfl) (by first | omega | (rw [qa4]; decide) | (simp only [be_length]; exact Nat.le_trans (qbh _) (by decide)) | (have:=hroom; omega) | (have:=hmade; omega) | (simp only [List.length_append,List.length_nil]; omega)) (F:=fun _ _=>True) (fun _ _ _=>trivial))) ?_)
   rintro e_ nT ⟨rfl,dE⟩
   refine ⟨_,rfl,fun nU g9=>?_⟩
   have cw:=aL.next_nil dE
   have ku:=aL.frN dE
   refine qaj [4] [] [(10,.v (.bool (decide (ah = qbb ab))))] cw g9 fun nV hC=>?_
   refine qaf (qab ?_)
   refine wp_ret ?_
   refine qax ?_
   refine qao ?_
   refine qaJ hC cw.cells (v:=.bool (decide (ah = qbb ab))) kz ?_
   refine ⟨congrArg (fun b_=>Ending.returned (Value.bool b_)) ?_,cw.step⟩
   first
    | exact qdQ hq ‹_› ‹_›
    | exact qdR hq ‹_› ‹_›
    | exact to_u hq ‹_› ‹_›
    | exact to_m hq ‹_› ‹_› ‹_› ‹_› ‹_› ‹_›
  have kv:k1 ≠ 7:=by simpa using cu
  refine qar [(1,.v (.int .i64 v)),(2,.v (.bool flex)),(5,.p 0 0),(8,.p 1 0),(9,.p 2 0),(49,.v (.int .i64 k1)),(70,.v (.bool (k1 == 10)))] aa cr fun nW dF=>?_
  refine qaU dF (b:=k1 == 10) kz (aE) ?_
  refine qag [0,1,2,3,4,5,6,7] kz ?_
  refine qaj [0,1,2,3,4,5] [6,7] [(73,.v (.slice A9 l8.length dS)),(74,.v (.int .i64 v)),(75,.v (.bool flex)),(76,.v (.agg #[.int .i64 ac,.slice ai ab.length aj,.bool ae,.slice dT af.length dU,.slice dV ag.length dW])),(77,.v (.agg #[.int .i64 aN,.slice al ah.length am,.bool ap,.slice d5 dX.length d6,.slice d7 dY.length d8]))] aa dF fun nX hJ=>?_
  refine qam (qal hJ (f:=10) (vs:=[.slice A9 l8.length dS,.int .i64 v,.bool flex,.agg #[.int .i64 ac,.slice ai ab.length aj,.bool ae,.slice dT af.length dU,.slice dV ag.length dW],.agg #[.int .i64 aN,.slice al ah.length am,.bool ap,.slice d5 dX.length d6,.slice d7 dY.length d8]]) (d:=78) kz Tryd.call10 ( hT _ _ l8 _ (Tree.mk ac ab ae af ag) _ (Tree.mk aN ah ap dX dY) _ _ ⟨dZ,(iK.move aa.step nilM aa.imm),(fun i_ x_ h_=>((jb i_ x_ h_).move aa.step nilM aa.imm))⟩ (ht.move aa.step nilM aa.imm) (hg.move aa.step nilM aa.imm) hpl (qi9 hq ‹_› ‹_›)) ?_)
  rintro e_ nY ⟨rfl,dG⟩
  refine ⟨_,rfl,fun nZ hK=>?_⟩
  have cz:=aa.next_nil dG
  have kw:=aa.frN dG
  refine qaj [7] [] [(10,.v (.bool true))] cz hK fun n0 hZ=>?_
  refine qaf (qab ?_)
  refine wp_ret ?_
  refine qax ?_
  refine qao ?_
  refine qaJ hZ cz.cells (v:=.bool true) kz ?_
  exact ⟨rfl,cz.step⟩
 have kx:k1 ≠ 10:=by simpa using aE
 have ia:=dy.cast (env':=[(1,.v (.int .i64 v)),(2,.v (.bool flex)),(5,.p 0 0),(8,.p 1 0),(9,.p 2 0),(11,.v (.bool (Fld.nul (Fld.mk k1 y2 y3 y4 y5 y6 y7 l8) v (Tree.mk ac ab ae af ag)))),(12,.v (.bool false)),(38,.v (.bool false))]) (by rw [aE])
 refine qaj [9,10,11,12,13,14,15,16] [] [(1,.v (.int .i64 v)),(2,.v (.bool flex)),(5,.p 0 0),(8,.p 1 0),(9,.p 2 0),(11,.v (.bool (Fld.nul (Fld.mk k1 y2 y3 y4 y5 y6 y7 l8) v (Tree.mk ac ab ae af ag)))),(46,.v (.bool false))] aa ia fun n4 dH=>?_
 refine qaf (qab ?_)
 refine qap dH (b:=false) kz rfl ?_
 refine wp_skip ?_
 refine qab ?_
 refine wp_seq ?_
 refine qar [(1,.v (.int .i64 v)),(2,.v (.bool flex)),(5,.p 0 0),(8,.p 1 0),(9,.p 2 0),(47,.v (.bool (Fld.nul (Fld.mk k1 y2 y3 y4 y5 y6 y7 l8) v (Tree.mk ac ab ae af ag))))] aa dH fun n5 cA=>?_
 refine qay cA (b:=Fld.nul (Fld.mk k1 y2 y3 y4 y5 y6 y7 l8) v (Tree.mk ac ab ae af ag)) kz (fun ib=>?_) (fun ib=>?_)
 ·
  refine qar [(10,.v (.bool true))] aa cA fun n8 ic=>?_
  refine wp_ret ?_
  refine qao ?_
  refine qaJ ic aa.cells (v:=.bool true) kz ?_
  exact ⟨rfl,aa.step⟩
 refine wp_skip ?_
 refine qab ?_
 refine wp_seq ?_
 refine qar [(1,.v (.int .i64 v)),(2,.v (.bool flex)),(5,.p 0 0),(8,.p 1 0),(9,.p 2 0),(49,.v (.int .i64 k1))] aa cA fun oa ig=>?_
 refine wp_block ?_
 refine wp_seq ?_
 refine qar [(1,.v (.int .i64 v)),(2,.v (.bool flex)),(5,.p 0 0),(8,.p 1 0),(9,.p 2 0),(49,.v (.int .i64 k1)),(50,.v (.bool (k1 == 8)))] aa ig fun od dI=>?_
 refine qap dI (b:=k1 == 8) kz (ao) ?_
 refine qat [0,1] kz ?_
 refine qaj [0,1] [] [(1,.v (.int .i64 v)),(2,.v (.bool flex)),(5,.p 0 0),(8,.p 1 0),(9,.p 2 0),(49,.v (.int .i64 k1)),(50,.v (.bool (k1 == 9)))] aa dI fun oe cB=>?_
 refine qaf (qab ?_)
 refine qay cB (b:=k1 == 9) kz (fun cC=>?_) (fun cC=>?_)
 ·
  have ky:k1 = 9:=by simpa using cC
  refine qaG 6 kz aa fun og kA bo ii=>?_
  refine qaD [0,1,2,3] [(54,.v (.slice al ah.length am)),(56,.v (.slice ai ab.length aj))] 3 (qaa (qac (qaa qad))) (fun _ h=>h.cells) ii cB fun oh ij=>?_
  have ja:=qa8 ab
  refine qaw (i:=4) kz (qal ij (f:=27) (vs:=[.slice ai ab.length aj]) (d:=57) kz Tryd.call27 (qc6 _ _ ab (aH.move bo.step nilM bo.imm).le _) ?_)
  rintro e_ ol ⟨rfl,dJ⟩
  refine ⟨_,rfl,fun om ik=>?_⟩
  have aG:=bo.next_nil dJ
  have dK:=bo.frN dJ
  have il:=TT.ofW dK aG
  refine ⟨fun _=>il,?_⟩
  refine qaw (i:=5) kz (qal ik (f:=26) (vs:=[.slice al ah.length am,.slice ai ((qaE ab).length) aj]) (d:=58) kz Tryd.call26 (qdM _ _ _ _ ah (qaE ab) _ _ ((bt.move aG.step nilM aG.imm).move (Step.refl _ Nil) nilM allF) (((aH.take 32767).move aG.step nilM aG.imm).move (Step.refl _ Nil) nilM allF)) ?_)
  rintro e_ oq ⟨rfl,dL⟩
  refine ⟨_,rfl,fun ot im=>?_⟩
  have bp:=aG.next_nil dL
  have io:=aG.frN dL
  have ip:=TT.ofW (dK.trans io) bp
  refine ⟨fun _=>ip,?_⟩
  refine qaw (i:=6) kz (qa9 [10] bp.cells im (env':=[(10,.v (.bool (decide (ah = (qaE ab)))))]) kz fun ou iq=>?_)
  refine ⟨fun h=>absurd rfl h,?_⟩
  refine qaF kz ?_ _
  refine qab ?_
  refine wp_ret ?_
  refine qax ?_
  refine qao ?_
  refine qaJ iq bp.cells (v:=.bool (decide (ah = (qaE ab)))) kz ?_
  refine ⟨congrArg (fun b_=>Ending.returned (Value.bool b_)) ?_,bp.step⟩
  first
   | exact qdQ hq ‹_› ‹_›
   | exact qdR hq ‹_› ‹_›
   | exact to_u hq ‹_› ‹_›
   | exact to_m hq ‹_› ‹_› ‹_› ‹_› ‹_› ‹_›
 have kB:k1 ≠ 9:=by simpa using cC
 refine qar [(1,.v (.int .i64 v)),(2,.v (.bool flex)),(5,.p 0 0),(8,.p 1 0),(9,.p 2 0),(49,.v (.int .i64 k1)),(59,.v (.bool (k1 == 7)))] aa cB fun ov cD=>?_
 refine qay cD (b:=k1 == 7) kz (fun cE=>?_) (fun cE=>?_)
 ·
  have kC:k1 = 7:=by simpa using cE
  refine qag [0,1] kz ?_
  refine qam (qb2 aa cD (d:=61) (j:=16) (t:=22) (e:=5) (bytes:=1) (z:=.int .u8 0) kz kz kz kz (rfl) (rfl) (by omega) fun ax ow ox kD kE kF aT ir=>?_)
  refine qaj [1] [] [(8,.p 1 0),(9,.p 2 0),(13,.v (.slice (some ⟨ax,0,none⟩) 16 16))] aT ir fun oy iu=>?_
  refine qaf (qab ?_)
  refine qag [0,1,2,3] kz ?_
  refine qaj [0,1,2] [3] [(9,.p 2 0),(13,.v (.slice (some ⟨ax,0,none⟩) 16 16)),(62,.v (.slice (some ⟨ax,0,none⟩) 16 16)),(64,.v (.slice ai ab.length aj))] aT iu fun oz iv=>?_
  refine qam (qcf aT iv (k:=0) (d:=65) (t:=22) (u:=22) (e:=5) (bytes:=1) (A:=(some ⟨ax,0,none⟩)) (As:=ai) (m:=ab.length) (cs:=aj) (m0:=16) (c:=16) (xs:=(List.replicate 16 (.int .u8 0))) (news:=bc ab) kz kz rfl (aH.move aT.step nilM aT.imm).src fun oA oB kG iw ix=>?_)
  have iy:(⟨(some ⟨ax,0,none⟩),16,5,1,16,qba (List.replicate 16 (.int .u8 0)) 0 ((bc ab).take (min ab.length 16))⟩:Rw) = brow (some ⟨ax,0,none⟩) 16 5 (qbb ab):=qde _ _ _
  obtain ⟨aM,kH⟩:=iw.rowEq 0 [brow (some ⟨ax,0,none⟩) 16 5 (qbb ab)] iy
  have iz:=EnvOk.pick ix (ks:=[9,13,62,64,65]) (env':=[(9,.p 2 0),(13,.v (.slice (some ⟨ax,0,none⟩) 16 16)),(62,.v (.slice (some ⟨ax,0,none⟩) 16 16)),(64,.v (.slice ai ab.length aj)),(65,.v (.int .i64 ((min ab.length 16:Nat):Int)))]) kz
  have iA:=iz.cast (env':=[(9,.p 2 0),(13,.v (.slice (some ⟨ax,0,none⟩) ((qbb ab).length) 16)),(62,.v (.slice (some ⟨ax,0,none⟩) ((qbb ab).length) 16)),(64,.v (.slice ai ab.length aj)),(65,.v (.int .i64 ((min ab.length 16:Nat):Int)))]) (by rw [qa4 _])
  refine qaf (qab ?_)
  refine qag [0,1,2,3,4] kz ?_
  refine qaj [0,1,2] [3,4] [(67,.v (.slice al ah.length am)),(68,.v (.slice (some ⟨ax,0,none⟩) ((qbb ab).length) 16))] aM iA fun oC iB=>?_
  refine qam (qal iB (f:=26) (vs:=[.slice al ah.length am,.slice (some ⟨ax,0,none⟩) ((qbb ab).length) 16]) (d:=69) kz Tryd.call26 (qdM _ _ _ _ ah (qbb ab) _ _ ((bt.move aM.step nilM aM.imm).move (Step.refl _ Nil) nilM allF) (qbU (aM.own 0 _ rfl) (by first | omega | (rw [qa4]; decide) | (simp only [be_length]; exact Nat.le_trans (qbh _) (by decide)) | (have:=hroom; omega) | (have:=hmade; omega) | (simp only [List.length_append,List.length_nil]; omega)) (F:=fun _ _=>True) (fun _ _ _=>trivial))) ?_)
  rintro e_ oD ⟨rfl,dM⟩
  refine ⟨_,rfl,fun oE iC=>?_⟩
  have cG:=aM.next_nil dM
  have kI:=aM.frN dM
  refine qaj [4] [] [(10,.v (.bool (decide (ah = qbb ab))))] cG iC fun oF iD=>?_
  refine qaf (qab ?_)
  refine wp_ret ?_
  refine qax ?_
  refine qao ?_
  refine qaJ iD cG.cells (v:=.bool (decide (ah = qbb ab))) kz ?_
  refine ⟨congrArg (fun b_=>Ending.returned (Value.bool b_)) ?_,cG.step⟩
  first
   | exact qdQ hq ‹_› ‹_›
   | exact qdR hq ‹_› ‹_›
   | exact to_u hq ‹_› ‹_›
   | exact to_m hq ‹_› ‹_› ‹_› ‹_› ‹_› ‹_›
 have kJ:k1 ≠ 7:=by simpa using cE
 refine qar [(1,.v (.int .i64 v)),(2,.v (.bool flex)),(5,.p 0 0),(8,.p 1 0),(9,.p 2 0),(49,.v (.int .i64 k1)),(70,.v (.bool (k1 == 10)))] aa cD fun oG dN=>?_
 refine qap dN (b:=k1 == 10) kz (aE) ?_
 refine qar [(1,.v (.int .i64 v)),(2,.v (.bool flex)),(5,.p 0 0),(8,.p 1 0),(9,.p 2 0),(79,.v (.bool (k1 == 11)))] aa dN fun oH dO=>?_
 refine qap dO (b:=k1 == 11) kz (by simpa using bu) ?_
 refine wp_skip ?_
 refine qaq ?_
 refine qab ?_
 refine qaG 8 kz aa fun oI kK dP iE=>?_
 refine qaD [0,1,2,3,4,5] [(117,.v (.int .i64 aN)),(119,.v (.int .i64 k1)),(121,.v (.int .i64 ac))] 3 (qaa qad) (fun _ h=>h.cells) iE dO fun oJ iF=>?_
 refine qaw (i:=6) kz (qal iF (f:=42) (vs:=[.int .i64 k1,.int .i64 ac]) (d:=122) kz Tryd.call42 (qfG k1 ac _) ?_)
 rintro e_ oK ⟨rfl,dQ⟩
 refine ⟨_,rfl,fun oL iG=>?_⟩
 have bq:=dP.next_nil dQ
 have iH:=dP.frN dQ
 have dR:=TT.ofW iH bq
 refine ⟨fun _=>dR,?_⟩
 refine qaD [7] [(123,.v (.bool (aN == (qbd k1 ac))))] 1 (qaa qad) (fun _ h=>h.cells) dR iG fun oM iI=>?_
 refine qaw (i:=8) kz (qa9 [10] bq.cells iI (env':=[(10,.v (.bool (aN == (qbd k1 ac))))]) kz fun oN iJ=>?_)
 refine ⟨fun h=>absurd rfl h,?_⟩
 refine qaF kz ?_ _
 refine qab ?_
 refine wp_ret ?_
 refine qaJ iJ bq.cells (v:=.bool (aN == (qbd k1 ac))) kz ?_
 refine ⟨congrArg (fun b_=>Ending.returned (Value.bool b_)) ?_,bq.step⟩
 first
  | exact qdQ hq ‹_› ‹_›
  | exact qdR hq ‹_› ‹_›
  | exact to_u hq ‹_› ‹_›
  | exact to_m hq ‹_› ‹_› ‹_› ‹_› ‹_› ‹_›
theorem qkH {v:Int} {flex:Bool} {T:List Fld → Tree → Tree → Prop} (hT:ToOK v flex T) (cf:List Value) (f:Fld) (ct:List Value) (t:Tree) (cg:List Value) (g:Tree) (w:World) (F:Nat → Nat → Prop) (hf:FldR w F cf f) (hpl:f.plain) (ac:f.kind = 11) (ht:TreeR w F ct t) (hg:TreeR w F cg g) (hQ:ToF T v f t g) :
  Calls Tryd.prog 23 #[.agg cf.toArray,.int .i64 v,.bool flex,.agg ct.toArray,.agg cg.toArray] w (qbO w (.bool true)):=by
 obtain ⟨k1,y2,y3,y4,y5,y6,y7,l8,A9,ap,dD,rfl,rfl,gQ,gZ⟩:=hf.open_
 have jj:=gQ.small
 obtain ⟨aj,ak,al,aa,am,eo,ep,ae,af,eu,ev,kq,rfl,rfl,ku,dE,g9,ny⟩:=ht.open_
 have jk:=ku.small
 have jl:=dE.small
 obtain ⟨gR,gS,cu,ao,gT,gU,gV,bD,dF,gW,gX,kv,rfl,rfl,kw,gY,hC,nz⟩:=hg.open_
 have jm:=kw.small
 have jn:=gY.small
 have ac:k1 = 11:=ac
 have hof:y7 ≠ 11:=hpl.1
 replace hpl:plains l8:=hpl.2
 have hq:=hQ.1
 refine enter (n:=124) Tryd.func23 rfl Tryd.ntmps23 kz fun a hE=>?_
 have hW:=WOk.start w Nil
 refine qag [0,1,2,3] kz ?_
 refine qam (qa7 hW hE (d:=5) (cs:=[.int .i64 k1,.int .i64 y2,.int .i64 y3,.int .i64 y4,.int .i64 y5,.int .i64 y6,.int .i64 y7,.slice A9 l8.length ap]) kz fun hJ nA nB kx ky kA hK hZ=>?_)
 refine qam (qa7 hK hZ (d:=8) (cs:=[.int .i64 aj,.slice eo ak.length ep,.bool al,.slice ae aa.length af,.slice eu am.length ev]) kz fun ia nC nD kB kC kD ib ic=>?_)
 refine qam (qa7 ib ic (d:=9) (cs:=[.int .i64 gR,.slice gU gS.length gV,.bool cu,.slice bD ao.length dF,.slice gW gT.length gX]) kz fun ig nE nF kE kF kG bE ii=>?_)
 refine qaj [3] [] [(1,.v (.int .i64 v)),(2,.v (.bool flex)),(5,.p 0 0),(8,.p 1 0),(9,.p 2 0)] bE ii fun nG ij=>?_
 refine qaf (qab ?_)
 refine qag [0,1,2,3,4] kz ?_
 refine qaj [0,1,2] [3,4] [(1,.v (.int .i64 v)),(2,.v (.bool flex)),(5,.p 0 0),(8,.p 1 0),(9,.p 2 0),(17,.v (.agg #[.int .i64 k1,.int .i64 y2,.int .i64 y3,.int .i64 y4,.int .i64 y5,.int .i64 y6,.int .i64 y7,.slice A9 l8.length ap])),(18,.v (.int .i64 v)),(19,.v (.agg #[.int .i64 aj,.slice eo ak.length ep,.bool al,.slice ae aa.length af,.slice eu am.length ev]))] bE ij fun nH ik=>?_
 refine qam (qal ik (f:=40) (vs:=[.agg #[.int .i64 k1,.int .i64 y2,.int .i64 y3,.int .i64 y4,.int .i64 y5,.int .i64 y6,.int .i64 y7,.slice A9 l8.length ap],.int .i64 v,.agg #[.int .i64 aj,.slice eo ak.length ep,.bool al,.slice ae aa.length af,.slice eu am.length ev]]) (d:=20) kz Tryd.call40 (qkt k1 y2 y3 y4 y5 y6 y7 l8 _ _ v aj ak al aa am _ _ _ _ _ _ _) ?_)
 rintro e_ nI ⟨rfl,ew⟩
 refine ⟨_,rfl,fun nJ il=>?_⟩
 have ab:=bE.next_nil ew
 have kH:=bE.frN ew
 refine qaj [4] [] [(1,.v (.int .i64 v)),(2,.v (.bool flex)),(5,.p 0 0),(8,.p 1 0),(9,.p 2 0),(11,.v (.bool (Fld.nul (Fld.mk k1 y2 y3 y4 y5 y6 y7 l8) v (Tree.mk aj ak al aa am))))] ab il fun nK im=>?_
 refine qaf (qab ?_)
 refine qag [0,1,2,3,4,5,6,7,8,9] kz ?_
 refine qaj [0,1,2,3] [4,5,6,7,8,9] [(1,.v (.int .i64 v)),(2,.v (.bool flex)),(5,.p 0 0),(8,.p 1 0),(9,.p 2 0),(11,.v (.bool (Fld.nul (Fld.mk k1 y2 y3 y4 y5 y6 y7 l8) v (Tree.mk aj ak al aa am)))),(24,.v (.bool (decide (y4 ≥ 0))))] ab im fun nL ey=>?_
 refine (Bool.eq_false_or_eq_true (decide (y4 ≥ 0))).elim (fun aD=>?_) (fun aD=>?_)
 ·
  have kI:=of_decide_eq_true aD
  have io:=ey.cast (env':=[(1,.v (.int .i64 v)),(2,.v (.bool flex)),(5,.p 0 0),(8,.p 1 0),(9,.p 2 0),(11,.v (.bool (Fld.nul (Fld.mk k1 y2 y3 y4 y5 y6 y7 l8) v (Tree.mk aj ak al aa am)))),(24,.v (.bool true))]) (by rw [aD])
  refine qaj [4,5,6,7,8,9] [] [(1,.v (.int .i64 v)),(2,.v (.bool flex)),(5,.p 0 0),(8,.p 1 0),(9,.p 2 0),(11,.v (.bool (Fld.nul (Fld.mk k1 y2 y3 y4 y5 y6 y7 l8) v (Tree.mk aj ak al aa am)))),(12,.v (.bool (decide (v ≥ y4))))] ab io fun nM ip=>?_
  refine qaf (qab ?_)
  refine wp_seq ?_
  refine qag [0,1,2,3,4,5,6,7,8,9,10,11,12,13,14,15,16] kz ?_
  refine qaj [0,1,2,3] [4,5,6,7,8,9,10,11,12,13,14,15,16] [(1,.v (.int .i64 v)),(2,.v (.bool flex)),(5,.p 0 0),(8,.p 1 0),(9,.p 2 0),(11,.v (.bool (Fld.nul (Fld.mk k1 y2 y3 y4 y5 y6 y7 l8) v (Tree.mk aj ak al aa am)))),(12,.v (.bool (decide (v ≥ y4)))),(33,.v (.bool (k1 == 8)))] ab ip fun nN ez=>?_
  have eB:(k1 == 8) = false:=by simp [ac]
  have eC:=ez.cast (env':=[(1,.v (.int .i64 v)),(2,.v (.bool flex)),(5,.p 0 0),(8,.p 1 0),(9,.p 2 0),(11,.v (.bool (Fld.nul (Fld.mk k1 y2 y3 y4 y5 y6 y7 l8) v (Tree.mk aj ak al aa am)))),(12,.v (.bool (decide (v ≥ y4)))),(33,.v (.bool false))]) (by rw [eB])
  refine qaj [4,5,6,7,8] [9,10,11,12,13,14,15,16] [(1,.v (.int .i64 v)),(2,.v (.bool flex)),(5,.p 0 0),(8,.p 1 0),(9,.p 2 0),(11,.v (.bool (Fld.nul (Fld.mk k1 y2 y3 y4 y5 y6 y7 l8) v (Tree.mk aj ak al aa am)))),(12,.v (.bool (decide (v ≥ y4)))),(38,.v (.bool (k1 == 10)))] ab eC fun kJ eD=>?_
  have eE:(k1 == 10) = false:=by simp [ac]
  have eF:=eD.cast (env':=[(1,.v (.int .i64 v)),(2,.v (.bool flex)),(5,.p 0 0),(8,.p 1 0),(9,.p 2 0),(11,.v (.bool (Fld.nul (Fld.mk k1 y2 y3 y4 y5 y6 y7 l8) v (Tree.mk aj ak al aa am)))),(12,.v (.bool (decide (v ≥ y4)))),(38,.v (.bool false))]) (by rw [eE])
  refine qaj [9,10,11] [12,13,14,15,16] [(1,.v (.int .i64 v)),(2,.v (.bool flex)),(5,.p 0 0),(8,.p 1 0),(9,.p 2 0),(11,.v (.bool (Fld.nul (Fld.mk k1 y2 y3 y4 y5 y6 y7 l8) v (Tree.mk aj ak al aa am)))),(41,.v (.bool (decide (v ≥ y4))))] ab eF fun kK cw=>?_
  refine (Bool.eq_false_or_eq_true (decide (v ≥ y4))).elim (fun az=>?_) (fun az=>?_)
  ·
   have jo:=of_decide_eq_true az
   have eG:=cw.cast (env':=[(1,.v (.int .i64 v)),(2,.v (.bool flex)),(5,.p 0 0),(8,.p 1 0),(9,.p 2 0),(11,.v (.bool (Fld.nul (Fld.mk k1 y2 y3 y4 y5 y6 y7 l8) v (Tree.mk aj ak al aa am)))),(41,.v (.bool true))]) (by rw [az])
   refine qaj [12,13,14,15,16] [] [(1,.v (.int .i64 v)),(2,.v (.bool flex)),(5,.p 0 0),(8,.p 1 0),(9,.p 2 0),(11,.v (.bool (Fld.nul (Fld.mk k1 y2 y3 y4 y5 y6 y7 l8) v (Tree.mk aj ak al aa am)))),(46,.v (.bool (!(cu == (Fld.nul (Fld.mk k1 y2 y3 y4 y5 y6 y7 l8) v (Tree.mk aj ak al aa am))))))] ab eG fun kL aE=>?_
   refine qaf (qab ?_)
   refine qay aE (b:=!(cu == (Fld.nul (Fld.mk k1 y2 y3 y4 y5 y6 y7 l8) v (Tree.mk aj ak al aa am)))) kz (fun aF=>?_) (fun aF=>?_)
   ·
    have jp:!(cu = (Fld.nul (Fld.mk k1 y2 y3 y4 y5 y6 y7 l8) v (Tree.mk aj ak al aa am))):=by simpa using aF
    refine qar [(10,.v (.bool false))] ab aE fun kM eH=>?_
    refine wp_ret ?_
    refine qao ?_
    refine qaJ eH ab.cells (v:=.bool false) kz ?_
    first
     | exact (qfF hq ‹_› ‹_› ‹_›).elim
     | exact (qhc (hQ.2 ac ‹_›).1 ‹_›).elim
     | (exfalso; simp_all; done)
   have jq:!(cu ≠ (Fld.nul (Fld.mk k1 y2 y3 y4 y5 y6 y7 l8) v (Tree.mk aj ak al aa am))):=by simpa using aF
   refine wp_skip ?_
   refine qab ?_
   refine wp_seq ?_
   refine qar [(1,.v (.int .i64 v)),(2,.v (.bool flex)),(5,.p 0 0),(8,.p 1 0),(9,.p 2 0),(47,.v (.bool (Fld.nul (Fld.mk k1 y2 y3 y4 y5 y6 y7 l8) v (Tree.mk aj ak al aa am))))] ab aE fun kN aG=>?_
   refine qay aG (b:=Fld.nul (Fld.mk k1 y2 y3 y4 y5 y6 y7 l8) v (Tree.mk aj ak al aa am)) kz (fun eI=>?_) (fun eI=>?_)
   ·
    refine qar [(10,.v (.bool true))] ab aG fun kO eJ=>?_
    refine wp_ret ?_
    refine qao ?_
    refine qaJ eJ ab.cells (v:=.bool true) kz ?_
    exact ⟨rfl,ab.step⟩
   refine wp_skip ?_
   refine qab ?_
   refine wp_seq ?_
   refine qar [(1,.v (.int .i64 v)),(2,.v (.bool flex)),(5,.p 0 0),(8,.p 1 0),(9,.p 2 0),(49,.v (.int .i64 k1))] ab aG fun kP eK=>?_
   refine wp_block ?_
   refine wp_seq ?_
   refine qar [(1,.v (.int .i64 v)),(2,.v (.bool flex)),(5,.p 0 0),(8,.p 1 0),(9,.p 2 0),(49,.v (.int .i64 k1)),(50,.v (.bool (k1 == 8)))] ab eK fun kQ cz=>?_
   refine qap cz (b:=k1 == 8) kz (by simp [ac]) ?_
   refine qat [0,1] kz ?_
   refine qaj [0,1] [] [(1,.v (.int .i64 v)),(2,.v (.bool flex)),(5,.p 0 0),(8,.p 1 0),(9,.p 2 0),(49,.v (.int .i64 k1)),(50,.v (.bool (k1 == 9)))] ab cz fun kR cA=>?_
   refine qaf (qab ?_)
   refine qap cA (b:=k1 == 9) kz (by simp [ac]) ?_
   refine qar [(1,.v (.int .i64 v)),(2,.v (.bool flex)),(5,.p 0 0),(8,.p 1 0),(9,.p 2 0),(49,.v (.int .i64 k1)),(59,.v (.bool (k1 == 7)))] ab cA fun kS cB=>?_
   refine qap cB (b:=k1 == 7) kz (by simp [ac]) ?_
   refine qar [(1,.v (.int .i64 v)),(2,.v (.bool flex)),(5,.p 0 0),(8,.p 1 0),(9,.p 2 0),(49,.v (.int .i64 k1)),(70,.v (.bool (k1 == 10)))] ab cB fun kT cC=>?_
   refine qap cC (b:=k1 == 10) kz (by simp [ac]) ?_
   refine qar [(1,.v (.int .i64 v)),(2,.v (.bool flex)),(5,.p 0 0),(8,.p 1 0),(9,.p 2 0),(79,.v (.bool (k1 == 11)))] ab cC fun kU cD=>?_
   refine qaU cD (b:=k1 == 11) kz (by simpa using ac) ?_
   refine qag [0,1,2,3] kz ?_
   refine qaj [0,1] [2,3] [(1,.v (.int .i64 v)),(2,.v (.bool flex)),(5,.p 0 0),(9,.p 2 0),(82,.v (.slice ae aa.length af))] ab cD fun kV eL=>?_
   refine qam (qal eL (f:=41) (vs:=[.slice ae aa.length af]) (d:=83) kz Tryd.call41 (qfv _ _ aa (dE.move ab.step nilM ab.imm).le _) ?_)
   rintro e_ kW ⟨rfl,cE⟩
   refine ⟨_,rfl,fun kX eM=>?_⟩
   have ar:=ab.next_nil cE
   have jr:=ab.frN cE
   refine qaj [3] [] [(1,.v (.int .i64 v)),(2,.v (.bool flex)),(5,.p 0 0),(9,.p 2 0),(14,.v (.slice ae ((qan aa).length) af))] ar eM fun kY eN=>?_
   refine qaf (qab ?_)
   refine wp_seq ?_
   refine qar [(1,.v (.int .i64 v)),(2,.v (.bool flex)),(5,.p 0 0),(9,.p 2 0),(14,.v (.slice ae ((qan aa).length) af)),(89,.v (.bool (((ao.length:Nat):Int) != (((qan aa).length:Nat):Int))))] ar eN fun kZ aH=>?_
   refine qay aH (b:=((ao.length:Nat):Int) != (((qan aa).length:Nat):Int)) kz (fun aI=>?_) (fun aI=>?_)
   ·
    have js:((ao.length:Nat):Int) ≠ (((qan aa).length:Nat):Int):=by simpa using aI
    refine qar [(10,.v (.bool false))] ar aH fun k5 eO=>?_
    refine wp_ret ?_
    refine qao ?_
    refine qax ?_
    refine qao ?_
    refine qaJ eO ar.cells (v:=.bool false) kz ?_
    first
     | exact (qfF hq ‹_› ‹_› ‹_›).elim
     | exact (qhc (hQ.2 ac ‹_›).1 ‹_›).elim
     | (exfalso; simp_all; done)
   have jt:((ao.length:Nat):Int) = (((qan aa).length:Nat):Int):=by simpa using aI
   refine wp_skip ?_
   refine qab ?_
   refine qag [0,1,2] kz ?_
   refine qaj [0] [1,2] [(1,.v (.int .i64 v)),(2,.v (.bool flex)),(5,.p 0 0),(9,.p 2 0),(14,.v (.slice ae ((qan aa).length) af)),(90,.v (.agg #[.int .i64 k1,.int .i64 y2,.int .i64 y3,.int .i64 y4,.int .i64 y5,.int .i64 y6,.int .i64 y7,.slice A9 l8.length ap]))] ar aH fun k6 eP=>?_
   refine qam (qaR ar eP (d:=15) (cs:=[.int .i64 0,.int .i64 0,.int .i64 0,.int .i64 0,.int .i64 0,.int .i64 0,.int .i64 0,.slice none 0 0]) kz fun iq k7 k8 ju jv jw eQ eR=>?_)
   refine qam (qav eQ eR (oi:=3) (cs:=[.int .i64 k1,.int .i64 y2,.int .i64 y3,.int .i64 y4,.int .i64 y5,.int .i64 y6,.int .i64 y7,.slice A9 l8.length ap]) kz fun k9 jx cG eS=>?_)
   refine qaf (qab ?_)
   refine qag [0,1,2,3,4,5,6,7] kz ?_
   refine qaj [0,1,2] [3,4,5,6,7] [(1,.v (.int .i64 v)),(2,.v (.bool flex)),(9,.p 2 0),(14,.v (.slice ae ((qan aa).length) af)),(15,.p 3 0),(92,.v (.int .i64 y7)),(93,.p 3 0)] cG eS fun la eU=>?_
   refine qam (qav cG eU (oi:=3) (cs:=[.int .i64 y7,.int .i64 y2,.int .i64 y3,.int .i64 y4,.int .i64 y5,.int .i64 y6,.int .i64 y7,.slice A9 l8.length ap]) kz fun lb jy cH eV=>?_)
   refine qaj [4] [5,6,7] [(1,.v (.int .i64 v)),(2,.v (.bool flex)),(9,.p 2 0),(14,.v (.slice ae ((qan aa).length) af)),(15,.p 3 0),(94,.p 3 3)] cH eV fun lc eW=>?_
   refine qam (qav cH eW (oi:=3) (cs:=[.int .i64 y7,.int .i64 y2,.int .i64 y3,.int .i64 (-1),.int .i64 y5,.int .i64 y6,.int .i64 y7,.slice A9 l8.length ap]) kz fun ld jz cI eX=>?_)
   refine qaj [6] [7] [(1,.v (.int .i64 v)),(2,.v (.bool flex)),(9,.p 2 0),(14,.v (.slice ae ((qan aa).length) af)),(15,.p 3 0),(95,.p 3 4)] cI eX fun lf eY=>?_
   refine qam (qav cI eY (oi:=3) (cs:=[.int .i64 y7,.int .i64 y2,.int .i64 y3,.int .i64 (-1),.int .i64 (-1),.int .i64 y6,.int .i64 y7,.slice A9 l8.length ap]) kz fun lg jA aJ eZ=>?_)
   refine qaf (qab ?_)
   refine wp_seq ?_
   refine qar [(1,.v (.int .i64 v)),(2,.v (.bool flex)),(9,.p 2 0),(14,.v (.slice ae ((qan aa).length) af)),(15,.p 3 0),(97,.v (.int .i64 (((qan aa).length:Nat):Int))),(98,.v (.int .i64 0))] aJ eZ fun lh e9=>?_
   refine wp_block ?_
   have hl_:=(hQ.2 ac ‹_›).2
   refine wp_loop_ghost (fun n_ a_ w_=>∃ (k:Nat),n_ = (qan aa).length - k ∧ k ≤ (qan aa).length ∧ LInv aJ 124 [⟨hJ,0,[.int .i64 k1,.int .i64 y2,.int .i64 y3,.int .i64 y4,.int .i64 y5,.int .i64 y6,.int .i64 y7,.slice A9 l8.length ap],true⟩,⟨ia,0,[.int .i64 aj,.slice eo ak.length ep,.bool al,.slice ae aa.length af,.slice eu am.length ev],true⟩,⟨ig,0,[.int .i64 gR,.slice gU gS.length gV,.bool cu,.slice bD ao.length dF,.slice gW gT.length gX],true⟩,⟨iq,0,[.int .i64 y7,.int .i64 y2,.int .i64 y3,.int .i64 (-1),.int .i64 (-1),.int .i64 y6,.int .i64 y7,.slice A9 l8.length ap],true⟩] [] [(1,.v (.int .i64 v)),(2,.v (.bool flex)),(9,.p 2 0),(14,.v (.slice ae ((qan aa).length) af)),(15,.p 3 0),(97,.v (.int .i64 (((qan aa).length:Nat):Int))),(98,.v (.int .i64 ((k:Nat):Int)))] a_ w_) ((qan aa).length) ⟨0,by omega,by omega,e9.pk,aJ,Fr.refl _ _ _⟩ ?_
   rintro li lj lm ⟨k,jB,jC,fa,au,fb⟩
   refine qar [(1,.v (.int .i64 v)),(2,.v (.bool flex)),(9,.p 2 0),(14,.v (.slice ae ((qan aa).length) af)),(15,.p 3 0),(97,.v (.int .i64 (((qan aa).length:Nat):Int))),(98,.v (.int .i64 ((k:Nat):Int))),(99,.v (.bool (decide (((k:Nat):Int) < (((qan aa).length:Nat):Int)))))] au fa fun ln aK=>?_
   refine wp_seq ?_
   refine qay aK (b:=decide (((k:Nat):Int) < (((qan aa).length:Nat):Int))) kz (fun aL=>?_) (fun aL=>?_)
   ·
    have jD:=of_decide_eq_true aL
    refine wp_skip ?_
    refine qab ?_
    refine wp_seq ?_
    refine wp_block ?_
    refine qar [(1,.v (.int .i64 v)),(2,.v (.bool flex)),(9,.p 2 0),(14,.v (.slice ae ((qan aa).length) af)),(15,.p 3 0),(16,.v (.int .i64 ((k:Nat):Int))),(97,.v (.int .i64 (((qan aa).length:Nat):Int))),(98,.v (.int .i64 ((k:Nat):Int)))] au aK fun lp fe=>?_
    refine qaG 14 kz au fun lq ff ag aA=>?_
    refine qaD [0,1,2,3,4,7,8,9] [(1,.v (.int .i64 v)),(2,.v (.bool flex)),(9,.p 2 0),(14,.v (.slice ae ((qan aa).length) af)),(15,.p 3 0),(97,.v (.int .i64 (((qan aa).length:Nat):Int))),(98,.v (.int .i64 ((k:Nat):Int))),(101,.v (.agg #[.int .i64 y7,.int .i64 y2,.int .i64 y3,.int .i64 (-1),.int .i64 (-1),.int .i64 y6,.int .i64 y7,.slice A9 l8.length ap])),(102,.v (.int .i64 v)),(103,.v (.bool flex)),(104,.v (.slice ae ((qan aa).length) af)),(105,.v (.int .i64 ((k:Nat):Int))),(109,.v (.slice bD ao.length dF)),(110,.v (.int .i64 ((k:Nat):Int)))] 6 (qaa (qac (qaa (qaa (qac (qaa (qac (qaa qad)))))))) (fun _ h=>h.cells) aA fe fun lr fg=>?_
    obtain ⟨ir,iu,fh,jE,aM⟩:=Slots.get (qct dE) (i:=k) (by first | omega | (have h_:ao.length = (qan aa).length:=(hQ.2 ac ‹_›).1; omega))
    obtain ⟨iv,cJ⟩:∃ x,(qan aa)[k]? = some x:=⟨_,List.getElem?_eq_getElem (by omega)⟩
    have aN:=(qcR g9) k iv cJ
    obtain ⟨bF,bG,bH,bI,bJ,dG,dH,dI,dJ,dK,dL,jF,rfl,aO,iw,ix,ls,lu⟩:=aN.open_
    rw [aO] at aN
    have iy:=iw.small
    have iz:=ix.small
    rw [aO] at aM
    refine qaH fg (i:=5) (t:=23) (A:=ae) (m:=((qan aa).length)) (q:=((k:Nat):Int)) (d:=106) kz (e:=26) (size:=5) (bytes:=88) kz fh rfl (by first | omega | (have h_:ao.length = (qan aa).length:=(hQ.2 ac ‹_›).1; omega)) kz kz (qaa (qac (qaa (qaa (qac (qaa (qac (qaa qad)))))))) aA fun lv fi=>?_
    refine qaT fi (i:=6) (t:=26) (b:=ir) (o:=iu + k * 5) (d:=107) kz (cs:=[.int .i64 bF,.slice dG bG.length dH,.bool bH,.slice dI bI.length dJ,.slice dK bJ.length dL]) (v:=.agg #[.int .i64 bF,.slice dG bG.length dH,.bool bH,.slice dI bI.length dJ,.slice dK bJ.length dL]) kz (fun w' h'=>(AtF.move aM (TT.step0 ag h') nilM qaX).at_) kz kz (qaa (qac (qaa (qaa (qac (qaa (qac (qaa qad)))))))) aA fun lw fj=>?_
    obtain ⟨iA,iB,fk,jG,aP⟩:=Slots.get gY (i:=k) (by first | omega | (have h_:ao.length = (qan aa).length:=(hQ.2 ac ‹_›).1; omega))
    obtain ⟨iC,cK⟩:∃ x,ao[k]? = some x:=⟨_,List.getElem?_eq_getElem (by omega)⟩
    have aQ:=hC k iC cK
    obtain ⟨bK,bL,bM,bN,bO,dM,dN,dO,dP,dQ,dR,jH,rfl,aR,iD,iE,lx,ly⟩:=aQ.open_
    rw [aR] at aQ
    have iF:=iD.small
    have iG:=iE.small
    rw [aR] at aP
    refine qaH fj (i:=10) (t:=23) (A:=bD) (m:=ao.length) (q:=((k:Nat):Int)) (d:=111) kz (e:=26) (size:=5) (bytes:=88) kz fk rfl (by first | omega | (have h_:ao.length = (qan aa).length:=(hQ.2 ac ‹_›).1; omega)) kz kz (qaa (qac (qaa (qaa (qac (qaa (qac (qaa qad)))))))) aA fun lz fm=>?_
    refine qaT fm (i:=11) (t:=26) (b:=iA) (o:=iB + k * 5) (d:=112) kz (cs:=[.int .i64 bK,.slice dM bL.length dN,.bool bM,.slice dO bN.length dP,.slice dQ bO.length dR]) (v:=.agg #[.int .i64 bK,.slice dM bL.length dN,.bool bM,.slice dO bN.length dP,.slice dQ bO.length dR]) kz (fun w' h'=>(AtF.move aP (TT.step0 ag h') nilM qaX).at_) kz kz (qaa (qac (qaa (qaa (qac (qaa (qac (qaa qad)))))))) aA fun lA fo=>?_
    refine qaw (i:=12) kz (qal fo (f:=23) (vs:=[.agg #[.int .i64 y7,.int .i64 y2,.int .i64 y3,.int .i64 (-1),.int .i64 (-1),.int .i64 y6,.int .i64 y7,.slice A9 l8.length ap],.int .i64 v,.bool flex,.agg #[.int .i64 bF,.slice dG bG.length dH,.bool bH,.slice dI bI.length dJ,.slice dK bJ.length dL],.agg #[.int .i64 bK,.slice dM bL.length dN,.bool bM,.slice dO bN.length dP,.slice dQ bO.length dR]]) (d:=113) kz Tryd.call23 ( qhk hT _ _ _ (Tree.mk bF bG bH bI bJ) _ (Tree.mk bK bL bM bN bO) _ _ (FldR.mk (l:=l8) dD (gQ.move ag.step nilM ag.imm) (fun i_ x_ h_=>((gZ i_ x_ h_).move ag.step nilM ag.imm))) hpl hof (aN.move ag.step nilM ag.imm) (aQ.move ag.step nilM ag.imm) (hl_ _ _ _ cJ cK)) ?_)
    rintro e_ lB ⟨rfl,cL⟩
    refine ⟨_,rfl,fun lC fq=>?_⟩
    have aS:=ag.next_nil cL
    have cM:=ag.frN cL
    have cN:=TT.ofW cM aS
    refine ⟨fun _=>cN,?_⟩
    refine qaD [13] [(1,.v (.int .i64 v)),(2,.v (.bool flex)),(9,.p 2 0),(14,.v (.slice ae ((qan aa).length) af)),(15,.p 3 0),(97,.v (.int .i64 (((qan aa).length:Nat):Int))),(98,.v (.int .i64 ((k:Nat):Int))),(114,.v (.bool false))] 0 (qaa (qac (qaa (qaa (qac (qaa (qac (qaa qad)))))))) (fun _ h=>h.cells) cN fq fun lD cO=>?_
    refine qaF kz ?_ _
    refine qab ?_
    refine qap cO (b:=false) kz rfl ?_
    refine wp_skip ?_
    refine qaq ?_
    refine qab ?_
    refine qat [0,1] kz ?_
    refine qaj [0,1] [] [(1,.v (.int .i64 v)),(2,.v (.bool flex)),(9,.p 2 0),(14,.v (.slice ae ((qan aa).length) af)),(15,.p 3 0),(97,.v (.int .i64 (((qan aa).length:Nat):Int))),(98,.v (.int .i64 (IntKind.i64.wrap (((k:Nat):Int) + 1))))] aS cO fun lE cP=>?_
    refine qaf (qab ?_)
    have fr:IntKind.i64.wrap (((k:Nat):Int) + 1) = ((k + 1:Nat):Int):=qaN (by omega)
    rw [fr] at cP
    exact ⟨(qan aa).length - (k + 1),by omega,k + 1,rfl,by omega,cP.pk,aS,((fb.trans ff).trans cM)⟩
   have jI:=of_decide_eq_false aL
   refine wp_exit ?_
   refine qaB ?_
   refine qaB ?_
   refine qaL ?_
   refine qab ?_
   refine qar [(10,.v (.bool true))] au aK fun lF ft=>?_
   refine wp_ret ?_
   refine qax ?_
   refine qao ?_
   refine qaJ ft au.cells (v:=.bool true) kz ?_
   exact ⟨rfl,au.step⟩
  have jJ:=of_decide_eq_false az
  have fu:=cw.cast (env':=[(1,.v (.int .i64 v)),(2,.v (.bool flex)),(5,.p 0 0),(8,.p 1 0),(9,.p 2 0),(11,.v (.bool (Fld.nul (Fld.mk k1 y2 y3 y4 y5 y6 y7 l8) v (Tree.mk aj ak al aa am)))),(41,.v (.bool false))]) (by rw [az])
  refine qaj [12,13,14,15,16] [] [(1,.v (.int .i64 v)),(2,.v (.bool flex)),(5,.p 0 0),(8,.p 1 0),(9,.p 2 0),(11,.v (.bool (Fld.nul (Fld.mk k1 y2 y3 y4 y5 y6 y7 l8) v (Tree.mk aj ak al aa am)))),(46,.v (.bool false))] ab fu fun lG cQ=>?_
  refine qaf (qab ?_)
  refine qap cQ (b:=false) kz rfl ?_
  refine wp_skip ?_
  refine qab ?_
  refine wp_seq ?_
  refine qar [(1,.v (.int .i64 v)),(2,.v (.bool flex)),(5,.p 0 0),(8,.p 1 0),(9,.p 2 0),(47,.v (.bool (Fld.nul (Fld.mk k1 y2 y3 y4 y5 y6 y7 l8) v (Tree.mk aj ak al aa am))))] ab cQ fun lH aT=>?_
  refine qay aT (b:=Fld.nul (Fld.mk k1 y2 y3 y4 y5 y6 y7 l8) v (Tree.mk aj ak al aa am)) kz (fun fv=>?_) (fun fv=>?_)
  ·
   refine qar [(10,.v (.bool true))] ab aT fun lI fw=>?_
   refine wp_ret ?_
   refine qao ?_
   refine qaJ fw ab.cells (v:=.bool true) kz ?_
   exact ⟨rfl,ab.step⟩
  refine wp_skip ?_
  refine qab ?_
  refine wp_seq ?_
  refine qar [(1,.v (.int .i64 v)),(2,.v (.bool flex)),(5,.p 0 0),(8,.p 1 0),(9,.p 2 0),(49,.v (.int .i64 k1))] ab aT fun lJ fx=>?_
  refine wp_block ?_
  refine wp_seq ?_
  refine qar [(1,.v (.int .i64 v)),(2,.v (.bool flex)),(5,.p 0 0),(8,.p 1 0),(9,.p 2 0),(49,.v (.int .i64 k1)),(50,.v (.bool (k1 == 8)))] ab fx fun lK cR=>?_
  refine qap cR (b:=k1 == 8) kz (by simp [ac]) ?_
  refine qat [0,1] kz ?_
  refine qaj [0,1] [] [(1,.v (.int .i64 v)),(2,.v (.bool flex)),(5,.p 0 0),(8,.p 1 0),(9,.p 2 0),(49,.v (.int .i64 k1)),(50,.v (.bool (k1 == 9)))] ab cR fun lL cS=>?_
  refine qaf (qab ?_)
  refine qap cS (b:=k1 == 9) kz (by simp [ac]) ?_
  refine qar [(1,.v (.int .i64 v)),(2,.v (.bool flex)),(5,.p 0 0),(8,.p 1 0),(9,.p 2 0),(49,.v (.int .i64 k1)),(59,.v (.bool (k1 == 7)))] ab cS fun lM cT=>?_
  refine qap cT (b:=k1 == 7) kz (by simp [ac]) ?_
  refine qar [(1,.v (.int .i64 v)),(2,.v (.bool flex)),(5,.p 0 0),(8,.p 1 0),(9,.p 2 0),(49,.v (.int .i64 k1)),(70,.v (.bool (k1 == 10)))] ab cT fun lN cU=>?_
  refine qap cU (b:=k1 == 10) kz (by simp [ac]) ?_
  refine qar [(1,.v (.int .i64 v)),(2,.v (.bool flex)),(5,.p 0 0),(8,.p 1 0),(9,.p 2 0),(79,.v (.bool (k1 == 11)))] ab cU fun lO cV=>?_
  refine qaU cV (b:=k1 == 11) kz (by simpa using ac) ?_
  refine qag [0,1,2,3] kz ?_
  refine qaj [0,1] [2,3] [(1,.v (.int .i64 v)),(2,.v (.bool flex)),(5,.p 0 0),(9,.p 2 0),(82,.v (.slice ae aa.length af))] ab cV fun lP fy=>?_
  refine qam (qal fy (f:=41) (vs:=[.slice ae aa.length af]) (d:=83) kz Tryd.call41 (qfv _ _ aa (dE.move ab.step nilM ab.imm).le _) ?_)
  rintro e_ lQ ⟨rfl,cW⟩
  refine ⟨_,rfl,fun lR fz=>?_⟩
  have av:=ab.next_nil cW
  have jK:=ab.frN cW
  refine qaj [3] [] [(1,.v (.int .i64 v)),(2,.v (.bool flex)),(5,.p 0 0),(9,.p 2 0),(14,.v (.slice ae ((qan aa).length) af))] av fz fun lS fA=>?_
  refine qaf (qab ?_)
  refine wp_seq ?_
  refine qar [(1,.v (.int .i64 v)),(2,.v (.bool flex)),(5,.p 0 0),(9,.p 2 0),(14,.v (.slice ae ((qan aa).length) af)),(89,.v (.bool (((ao.length:Nat):Int) != (((qan aa).length:Nat):Int))))] av fA fun lT aU=>?_
  refine qay aU (b:=((ao.length:Nat):Int) != (((qan aa).length:Nat):Int)) kz (fun aV=>?_) (fun aV=>?_)
  ·
   have jL:((ao.length:Nat):Int) ≠ (((qan aa).length:Nat):Int):=by simpa using aV
   refine qar [(10,.v (.bool false))] av aU fun lU fB=>?_
   refine wp_ret ?_
   refine qao ?_
   refine qax ?_
   refine qao ?_
   refine qaJ fB av.cells (v:=.bool false) kz ?_
   first
    | exact (qfF hq ‹_› ‹_› ‹_›).elim
    | exact (qhc (hQ.2 ac ‹_›).1 ‹_›).elim
    | (exfalso; simp_all; done)
  have jM:((ao.length:Nat):Int) = (((qan aa).length:Nat):Int):=by simpa using aV
  refine wp_skip ?_
  refine qab ?_
  refine qag [0,1,2] kz ?_
  refine qaj [0] [1,2] [(1,.v (.int .i64 v)),(2,.v (.bool flex)),(5,.p 0 0),(9,.p 2 0),(14,.v (.slice ae ((qan aa).length) af)),(90,.v (.agg #[.int .i64 k1,.int .i64 y2,.int .i64 y3,.int .i64 y4,.int .i64 y5,.int .i64 y6,.int .i64 y7,.slice A9 l8.length ap]))] av aU fun lV fC=>?_
  refine qam (qaR av fC (d:=15) (cs:=[.int .i64 0,.int .i64 0,.int .i64 0,.int .i64 0,.int .i64 0,.int .i64 0,.int .i64 0,.slice none 0 0]) kz fun iH lW lX jN jO jP fD fE=>?_)
  refine qam (qav fD fE (oi:=3) (cs:=[.int .i64 k1,.int .i64 y2,.int .i64 y3,.int .i64 y4,.int .i64 y5,.int .i64 y6,.int .i64 y7,.slice A9 l8.length ap]) kz fun lY jQ cX fF=>?_)
  refine qaf (qab ?_)
  refine qag [0,1,2,3,4,5,6,7] kz ?_
  refine qaj [0,1,2] [3,4,5,6,7] [(1,.v (.int .i64 v)),(2,.v (.bool flex)),(9,.p 2 0),(14,.v (.slice ae ((qan aa).length) af)),(15,.p 3 0),(92,.v (.int .i64 y7)),(93,.p 3 0)] cX fF fun lZ fG=>?_
  refine qam (qav cX fG (oi:=3) (cs:=[.int .i64 y7,.int .i64 y2,.int .i64 y3,.int .i64 y4,.int .i64 y5,.int .i64 y6,.int .i64 y7,.slice A9 l8.length ap]) kz fun l0 jR cY fH=>?_)
  refine qaj [4] [5,6,7] [(1,.v (.int .i64 v)),(2,.v (.bool flex)),(9,.p 2 0),(14,.v (.slice ae ((qan aa).length) af)),(15,.p 3 0),(94,.p 3 3)] cY fH fun l3 fI=>?_
  refine qam (qav cY fI (oi:=3) (cs:=[.int .i64 y7,.int .i64 y2,.int .i64 y3,.int .i64 (-1),.int .i64 y5,.int .i64 y6,.int .i64 y7,.slice A9 l8.length ap]) kz fun l5 jS cZ fJ=>?_)
  refine qaj [6] [7] [(1,.v (.int .i64 v)),(2,.v (.bool flex)),(9,.p 2 0),(14,.v (.slice ae ((qan aa).length) af)),(15,.p 3 0),(95,.p 3 4)] cZ fJ fun l6 fK=>?_
  refine qam (qav cZ fK (oi:=3) (cs:=[.int .i64 y7,.int .i64 y2,.int .i64 y3,.int .i64 (-1),.int .i64 (-1),.int .i64 y6,.int .i64 y7,.slice A9 l8.length ap]) kz fun l7 jT aW fL=>?_)
  refine qaf (qab ?_)
  refine wp_seq ?_
  refine qar [(1,.v (.int .i64 v)),(2,.v (.bool flex)),(9,.p 2 0),(14,.v (.slice ae ((qan aa).length) af)),(15,.p 3 0),(97,.v (.int .i64 (((qan aa).length:Nat):Int))),(98,.v (.int .i64 0))] aW fL fun l9 fM=>?_
  refine wp_block ?_
  have hl_:=(hQ.2 ac ‹_›).2
  refine wp_loop_ghost (fun n_ a_ w_=>∃ (k:Nat),n_ = (qan aa).length - k ∧ k ≤ (qan aa).length ∧ LInv aW 124 [⟨hJ,0,[.int .i64 k1,.int .i64 y2,.int .i64 y3,.int .i64 y4,.int .i64 y5,.int .i64 y6,.int .i64 y7,.slice A9 l8.length ap],true⟩,⟨ia,0,[.int .i64 aj,.slice eo ak.length ep,.bool al,.slice ae aa.length af,.slice eu am.length ev],true⟩,⟨ig,0,[.int .i64 gR,.slice gU gS.length gV,.bool cu,.slice bD ao.length dF,.slice gW gT.length gX],true⟩,⟨iH,0,[.int .i64 y7,.int .i64 y2,.int .i64 y3,.int .i64 (-1),.int .i64 (-1),.int .i64 y6,.int .i64 y7,.slice A9 l8.length ap],true⟩] [] [(1,.v (.int .i64 v)),(2,.v (.bool flex)),(9,.p 2 0),(14,.v (.slice ae ((qan aa).length) af)),(15,.p 3 0),(97,.v (.int .i64 (((qan aa).length:Nat):Int))),(98,.v (.int .i64 ((k:Nat):Int)))] a_ w_) ((qan aa).length) ⟨0,by omega,by omega,fM.pk,aW,Fr.refl _ _ _⟩ ?_
  rintro ma mc md ⟨k,jU,jV,fN,aw,fO⟩
  refine qar [(1,.v (.int .i64 v)),(2,.v (.bool flex)),(9,.p 2 0),(14,.v (.slice ae ((qan aa).length) af)),(15,.p 3 0),(97,.v (.int .i64 (((qan aa).length:Nat):Int))),(98,.v (.int .i64 ((k:Nat):Int))),(99,.v (.bool (decide (((k:Nat):Int) < (((qan aa).length:Nat):Int)))))] aw fN fun me aX=>?_
  refine wp_seq ?_
  refine qay aX (b:=decide (((k:Nat):Int) < (((qan aa).length:Nat):Int))) kz (fun aY=>?_) (fun aY=>?_)
  ·
   have jW:=of_decide_eq_true aY
   refine wp_skip ?_
   refine qab ?_
   refine wp_seq ?_
   refine wp_block ?_
   refine qar [(1,.v (.int .i64 v)),(2,.v (.bool flex)),(9,.p 2 0),(14,.v (.slice ae ((qan aa).length) af)),(15,.p 3 0),(16,.v (.int .i64 ((k:Nat):Int))),(97,.v (.int .i64 (((qan aa).length:Nat):Int))),(98,.v (.int .i64 ((k:Nat):Int)))] aw aX fun mf fP=>?_
   refine qaG 14 kz aw fun mg fQ ah aB=>?_
   refine qaD [0,1,2,3,4,7,8,9] [(1,.v (.int .i64 v)),(2,.v (.bool flex)),(9,.p 2 0),(14,.v (.slice ae ((qan aa).length) af)),(15,.p 3 0),(97,.v (.int .i64 (((qan aa).length:Nat):Int))),(98,.v (.int .i64 ((k:Nat):Int))),(101,.v (.agg #[.int .i64 y7,.int .i64 y2,.int .i64 y3,.int .i64 (-1),.int .i64 (-1),.int .i64 y6,.int .i64 y7,.slice A9 l8.length ap])),(102,.v (.int .i64 v)),(103,.v (.bool flex)),(104,.v (.slice ae ((qan aa).length) af)),(105,.v (.int .i64 ((k:Nat):Int))),(109,.v (.slice bD ao.length dF)),(110,.v (.int .i64 ((k:Nat):Int)))] 6 (qaa (qac (qaa (qaa (qac (qaa (qac (qaa qad)))))))) (fun _ h=>h.cells) aB fP fun mh fR=>?_
   obtain ⟨iI,iJ,fS,jX,aZ⟩:=Slots.get (qct dE) (i:=k) (by first | omega | (have h_:ao.length = (qan aa).length:=(hQ.2 ac ‹_›).1; omega))
   obtain ⟨iK,c5⟩:∃ x,(qan aa)[k]? = some x:=⟨_,List.getElem?_eq_getElem (by omega)⟩
   have ba:=(qcR g9) k iK c5
   obtain ⟨bP,bQ,bR,bS,bT,dS,dT,dU,dV,dW,dX,jY,rfl,bd,iL,iM,mj,ml⟩:=ba.open_
   rw [bd] at ba
   have iN:=iL.small
   have iO:=iM.small
   rw [bd] at aZ
   refine qaH fR (i:=5) (t:=23) (A:=ae) (m:=((qan aa).length)) (q:=((k:Nat):Int)) (d:=106) kz (e:=26) (size:=5) (bytes:=88) kz fS rfl (by first | omega | (have h_:ao.length = (qan aa).length:=(hQ.2 ac ‹_›).1; omega)) kz kz (qaa (qac (qaa (qaa (qac (qaa (qac (qaa qad)))))))) aB fun mn fT=>?_
   refine qaT fT (i:=6) (t:=26) (b:=iI) (o:=iJ + k * 5) (d:=107) kz (cs:=[.int .i64 bP,.slice dS bQ.length dT,.bool bR,.slice dU bS.length dV,.slice dW bT.length dX]) (v:=.agg #[.int .i64 bP,.slice dS bQ.length dT,.bool bR,.slice dU bS.length dV,.slice dW bT.length dX]) kz (fun w' h'=>(AtF.move aZ (TT.step0 ah h') nilM qaX).at_) kz kz (qaa (qac (qaa (qaa (qac (qaa (qac (qaa qad)))))))) aB fun mo fU=>?_
   obtain ⟨iP,iQ,fV,jZ,bf⟩:=Slots.get gY (i:=k) (by first | omega | (have h_:ao.length = (qan aa).length:=(hQ.2 ac ‹_›).1; omega))
   obtain ⟨iR,c6⟩:∃ x,ao[k]? = some x:=⟨_,List.getElem?_eq_getElem (by omega)⟩
   have bg:=hC k iR c6
   obtain ⟨bU,bV,bW,bX,bY,dY,dZ,d5,d6,d7,d8,j0,rfl,bh,iS,iT,mp,mq⟩:=bg.open_
   rw [bh] at bg
   have iU:=iS.small
   have iV:=iT.small
   rw [bh] at bf
   refine qaH fU (i:=10) (t:=23) (A:=bD) (m:=ao.length) (q:=((k:Nat):Int)) (d:=111) kz (e:=26) (size:=5) (bytes:=88) kz fV rfl (by first | omega | (have h_:ao.length = (qan aa).length:=(hQ.2 ac ‹_›).1; omega)) kz kz (qaa (qac (qaa (qaa (qac (qaa (qac (qaa qad)))))))) aB fun mr fW=>?_
   refine qaT fW (i:=11) (t:=26) (b:=iP) (o:=iQ + k * 5) (d:=112) kz (cs:=[.int .i64 bU,.slice dY bV.length dZ,.bool bW,.slice d5 bX.length d6,.slice d7 bY.length d8]) (v:=.agg #[.int .i64 bU,.slice dY bV.length dZ,.bool bW,.slice d5 bX.length d6,.slice d7 bY.length d8]) kz (fun w' h'=>(AtF.move bf (TT.step0 ah h') nilM qaX).at_) kz kz (qaa (qac (qaa (qaa (qac (qaa (qac (qaa qad)))))))) aB fun mt fX=>?_
   refine qaw (i:=12) kz (qal fX (f:=23) (vs:=[.agg #[.int .i64 y7,.int .i64 y2,.int .i64 y3,.int .i64 (-1),.int .i64 (-1),.int .i64 y6,.int .i64 y7,.slice A9 l8.length ap],.int .i64 v,.bool flex,.agg #[.int .i64 bP,.slice dS bQ.length dT,.bool bR,.slice dU bS.length dV,.slice dW bT.length dX],.agg #[.int .i64 bU,.slice dY bV.length dZ,.bool bW,.slice d5 bX.length d6,.slice d7 bY.length d8]]) (d:=113) kz Tryd.call23 ( qhk hT _ _ _ (Tree.mk bP bQ bR bS bT) _ (Tree.mk bU bV bW bX bY) _ _ (FldR.mk (l:=l8) dD (gQ.move ah.step nilM ah.imm) (fun i_ x_ h_=>((gZ i_ x_ h_).move ah.step nilM ah.imm))) hpl hof (ba.move ah.step nilM ah.imm) (bg.move ah.step nilM ah.imm) (hl_ _ _ _ c5 c6)) ?_)
   rintro e_ mu ⟨rfl,da⟩
   refine ⟨_,rfl,fun mw fY=>?_⟩
   have bj:=ah.next_nil da
   have db:=ah.frN da
   have dc:=TT.ofW db bj
   refine ⟨fun _=>dc,?_⟩
   refine qaD [13] [(1,.v (.int .i64 v)),(2,.v (.bool flex)),(9,.p 2 0),(14,.v (.slice ae ((qan aa).length) af)),(15,.p 3 0),(97,.v (.int .i64 (((qan aa).length:Nat):Int))),(98,.v (.int .i64 ((k:Nat):Int))),(114,.v (.bool false))] 0 (qaa (qac (qaa (qaa (qac (qaa (qac (qaa qad)))))))) (fun _ h=>h.cells) dc fY fun mx de=>?_
   refine qaF kz ?_ _
   refine qab ?_
   refine qap de (b:=false) kz rfl ?_
   refine wp_skip ?_
   refine qaq ?_
   refine qab ?_
   refine qat [0,1] kz ?_
   refine qaj [0,1] [] [(1,.v (.int .i64 v)),(2,.v (.bool flex)),(9,.p 2 0),(14,.v (.slice ae ((qan aa).length) af)),(15,.p 3 0),(97,.v (.int .i64 (((qan aa).length:Nat):Int))),(98,.v (.int .i64 (IntKind.i64.wrap (((k:Nat):Int) + 1))))] bj de fun my df=>?_
   refine qaf (qab ?_)
   have fZ:IntKind.i64.wrap (((k:Nat):Int) + 1) = ((k + 1:Nat):Int):=qaN (by omega)
   rw [fZ] at df
   exact ⟨(qan aa).length - (k + 1),by omega,k + 1,rfl,by omega,df.pk,bj,((fO.trans fQ).trans db)⟩
  have j1:=of_decide_eq_false aY
  refine wp_exit ?_
  refine qaB ?_
  refine qaB ?_
  refine qaL ?_
  refine qab ?_
  refine qar [(10,.v (.bool true))] aw aX fun mz f5=>?_
  refine wp_ret ?_
  refine qax ?_
  refine qao ?_
  refine qaJ f5 aw.cells (v:=.bool true) kz ?_
  exact ⟨rfl,aw.step⟩
 have j2:=of_decide_eq_false aD
 have f7:=ey.cast (env':=[(1,.v (.int .i64 v)),(2,.v (.bool flex)),(5,.p 0 0),(8,.p 1 0),(9,.p 2 0),(11,.v (.bool (Fld.nul (Fld.mk k1 y2 y3 y4 y5 y6 y7 l8) v (Tree.mk aj ak al aa am)))),(24,.v (.bool false))]) (by rw [aD])
 refine qaj [4,5,6,7,8,9] [] [(1,.v (.int .i64 v)),(2,.v (.bool flex)),(5,.p 0 0),(8,.p 1 0),(9,.p 2 0),(11,.v (.bool (Fld.nul (Fld.mk k1 y2 y3 y4 y5 y6 y7 l8) v (Tree.mk aj ak al aa am)))),(12,.v (.bool false))] ab f7 fun mA f8=>?_
 refine qaf (qab ?_)
 refine wp_seq ?_
 refine qag [0,1,2,3,4,5,6,7,8,9,10,11,12,13,14,15,16] kz ?_
 refine qaj [0,1,2,3] [4,5,6,7,8,9,10,11,12,13,14,15,16] [(1,.v (.int .i64 v)),(2,.v (.bool flex)),(5,.p 0 0),(8,.p 1 0),(9,.p 2 0),(11,.v (.bool (Fld.nul (Fld.mk k1 y2 y3 y4 y5 y6 y7 l8) v (Tree.mk aj ak al aa am)))),(12,.v (.bool false)),(33,.v (.bool (k1 == 8)))] ab f8 fun mB f9=>?_
 have ga:(k1 == 8) = false:=by simp [ac]
 have gb:=f9.cast (env':=[(1,.v (.int .i64 v)),(2,.v (.bool flex)),(5,.p 0 0),(8,.p 1 0),(9,.p 2 0),(11,.v (.bool (Fld.nul (Fld.mk k1 y2 y3 y4 y5 y6 y7 l8) v (Tree.mk aj ak al aa am)))),(12,.v (.bool false)),(33,.v (.bool false))]) (by rw [ga])
 refine qaj [4,5,6,7,8] [9,10,11,12,13,14,15,16] [(1,.v (.int .i64 v)),(2,.v (.bool flex)),(5,.p 0 0),(8,.p 1 0),(9,.p 2 0),(11,.v (.bool (Fld.nul (Fld.mk k1 y2 y3 y4 y5 y6 y7 l8) v (Tree.mk aj ak al aa am)))),(12,.v (.bool false)),(38,.v (.bool (k1 == 10)))] ab gb fun mC gc=>?_
 have gd:(k1 == 10) = false:=by simp [ac]
 have ge:=gc.cast (env':=[(1,.v (.int .i64 v)),(2,.v (.bool flex)),(5,.p 0 0),(8,.p 1 0),(9,.p 2 0),(11,.v (.bool (Fld.nul (Fld.mk k1 y2 y3 y4 y5 y6 y7 l8) v (Tree.mk aj ak al aa am)))),(12,.v (.bool false)),(38,.v (.bool false))]) (by rw [gd])
 refine qaj [9,10,11,12,13,14,15,16] [] [(1,.v (.int .i64 v)),(2,.v (.bool flex)),(5,.p 0 0),(8,.p 1 0),(9,.p 2 0),(11,.v (.bool (Fld.nul (Fld.mk k1 y2 y3 y4 y5 y6 y7 l8) v (Tree.mk aj ak al aa am)))),(46,.v (.bool false))] ab ge fun mD dg=>?_
 refine qaf (qab ?_)
 refine qap dg (b:=false) kz rfl ?_
 refine wp_skip ?_
 refine qab ?_
 refine wp_seq ?_
 refine qar [(1,.v (.int .i64 v)),(2,.v (.bool flex)),(5,.p 0 0),(8,.p 1 0),(9,.p 2 0),(47,.v (.bool (Fld.nul (Fld.mk k1 y2 y3 y4 y5 y6 y7 l8) v (Tree.mk aj ak al aa am))))] ab dg fun mF bk=>?_
 refine qay bk (b:=Fld.nul (Fld.mk k1 y2 y3 y4 y5 y6 y7 l8) v (Tree.mk aj ak al aa am)) kz (fun gg=>?_) (fun gg=>?_)
 ·
  refine qar [(10,.v (.bool true))] ab bk fun mG gh=>?_
  refine wp_ret ?_
  refine qao ?_
  refine qaJ gh ab.cells (v:=.bool true) kz ?_
  exact ⟨rfl,ab.step⟩
 refine wp_skip ?_
 refine qab ?_
 refine wp_seq ?_
 refine qar [(1,.v (.int .i64 v)),(2,.v (.bool flex)),(5,.p 0 0),(8,.p 1 0),(9,.p 2 0),(49,.v (.int .i64 k1))] ab bk fun mH gi=>?_
 refine wp_block ?_
 refine wp_seq ?_
 refine qar [(1,.v (.int .i64 v)),(2,.v (.bool flex)),(5,.p 0 0),(8,.p 1 0),(9,.p 2 0),(49,.v (.int .i64 k1)),(50,.v (.bool (k1 == 8)))] ab gi fun mI dh=>?_
 refine qap dh (b:=k1 == 8) kz (by simp [ac]) ?_
 refine qat [0,1] kz ?_
 refine qaj [0,1] [] [(1,.v (.int .i64 v)),(2,.v (.bool flex)),(5,.p 0 0),(8,.p 1 0),(9,.p 2 0),(49,.v (.int .i64 k1)),(50,.v (.bool (k1 == 9)))] ab dh fun mJ di=>?_
 refine qaf (qab ?_)
 refine qap di (b:=k1 == 9) kz (by simp [ac]) ?_
 refine qar [(1,.v (.int .i64 v)),(2,.v (.bool flex)),(5,.p 0 0),(8,.p 1 0),(9,.p 2 0),(49,.v (.int .i64 k1)),(59,.v (.bool (k1 == 7)))] ab di fun mK dj=>?_
 refine qap dj (b:=k1 == 7) kz (by simp [ac]) ?_
 refine qar [(1,.v (.int .i64 v)),(2,.v (.bool flex)),(5,.p 0 0),(8,.p 1 0),(9,.p 2 0),(49,.v (.int .i64 k1)),(70,.v (.bool (k1 == 10)))] ab dj fun mL dl=>?_
 refine qap dl (b:=k1 == 10) kz (by simp [ac]) ?_
 refine qar [(1,.v (.int .i64 v)),(2,.v (.bool flex)),(5,.p 0 0),(8,.p 1 0),(9,.p 2 0),(79,.v (.bool (k1 == 11)))] ab dl fun mM dp=>?_
 refine qaU dp (b:=k1 == 11) kz (by simpa using ac) ?_
 refine qag [0,1,2,3] kz ?_
 refine qaj [0,1] [2,3] [(1,.v (.int .i64 v)),(2,.v (.bool flex)),(5,.p 0 0),(9,.p 2 0),(82,.v (.slice ae aa.length af))] ab dp fun mN gj=>?_
 refine qam (qal gj (f:=41) (vs:=[.slice ae aa.length af]) (d:=83) kz Tryd.call41 (qfv _ _ aa (dE.move ab.step nilM ab.imm).le _) ?_)
 rintro e_ mO ⟨rfl,dq⟩
 refine ⟨_,rfl,fun mQ gk=>?_⟩
 have ax:=ab.next_nil dq
 have j3:=ab.frN dq
 refine qaj [3] [] [(1,.v (.int .i64 v)),(2,.v (.bool flex)),(5,.p 0 0),(9,.p 2 0),(14,.v (.slice ae ((qan aa).length) af))] ax gk fun mR gl=>?_
 refine qaf (qab ?_)
 refine wp_seq ?_
 refine qar [(1,.v (.int .i64 v)),(2,.v (.bool flex)),(5,.p 0 0),(9,.p 2 0),(14,.v (.slice ae ((qan aa).length) af)),(89,.v (.bool (((ao.length:Nat):Int) != (((qan aa).length:Nat):Int))))] ax gl fun mS bn=>?_
 refine qay bn (b:=((ao.length:Nat):Int) != (((qan aa).length:Nat):Int)) kz (fun bo=>?_) (fun bo=>?_)
 ·
  have j4:((ao.length:Nat):Int) ≠ (((qan aa).length:Nat):Int):=by simpa using bo
  refine qar [(10,.v (.bool false))] ax bn fun mT gm=>?_
  refine wp_ret ?_
  refine qao ?_
  refine qax ?_
  refine qao ?_
  refine qaJ gm ax.cells (v:=.bool false) kz ?_
  first
   | exact (qfF hq ‹_› ‹_› ‹_›).elim
   | exact (qhc (hQ.2 ac ‹_›).1 ‹_›).elim
   | (exfalso; simp_all; done)
 have j5:((ao.length:Nat):Int) = (((qan aa).length:Nat):Int):=by simpa using bo
 refine wp_skip ?_
 refine qab ?_
 refine qag [0,1,2] kz ?_
 refine qaj [0] [1,2] [(1,.v (.int .i64 v)),(2,.v (.bool flex)),(5,.p 0 0),(9,.p 2 0),(14,.v (.slice ae ((qan aa).length) af)),(90,.v (.agg #[.int .i64 k1,.int .i64 y2,.int .i64 y3,.int .i64 y4,.int .i64 y5,.int .i64 y6,.int .i64 y7,.slice A9 l8.length ap]))] ax bn fun mU gn=>?_
 refine qam (qaR ax gn (d:=15) (cs:=[.int .i64 0,.int .i64 0,.int .i64 0,.int .i64 0,.int .i64 0,.int .i64 0,.int .i64 0,.slice none 0 0]) kz fun iW mV mW j6 j7 j8 gp gq=>?_)
 refine qam (qav gp gq (oi:=3) (cs:=[.int .i64 k1,.int .i64 y2,.int .i64 y3,.int .i64 y4,.int .i64 y5,.int .i64 y6,.int .i64 y7,.slice A9 l8.length ap]) kz fun mX j9 dr gt=>?_)
 refine qaf (qab ?_)
 refine qag [0,1,2,3,4,5,6,7] kz ?_
 refine qaj [0,1,2] [3,4,5,6,7] [(1,.v (.int .i64 v)),(2,.v (.bool flex)),(9,.p 2 0),(14,.v (.slice ae ((qan aa).length) af)),(15,.p 3 0),(92,.v (.int .i64 y7)),(93,.p 3 0)] dr gt fun mY gv=>?_
 refine qam (qav dr gv (oi:=3) (cs:=[.int .i64 y7,.int .i64 y2,.int .i64 y3,.int .i64 y4,.int .i64 y5,.int .i64 y6,.int .i64 y7,.slice A9 l8.length ap]) kz fun mZ ka dt gw=>?_)
 refine qaj [4] [5,6,7] [(1,.v (.int .i64 v)),(2,.v (.bool flex)),(9,.p 2 0),(14,.v (.slice ae ((qan aa).length) af)),(15,.p 3 0),(94,.p 3 3)] dt gw fun m4 gx=>?_
 refine qam (qav dt gx (oi:=3) (cs:=[.int .i64 y7,.int .i64 y2,.int .i64 y3,.int .i64 (-1),.int .i64 y5,.int .i64 y6,.int .i64 y7,.slice A9 l8.length ap]) kz fun m5 kd du gy=>?_)
 refine qaj [6] [7] [(1,.v (.int .i64 v)),(2,.v (.bool flex)),(9,.p 2 0),(14,.v (.slice ae ((qan aa).length) af)),(15,.p 3 0),(95,.p 3 4)] du gy fun m6 gz=>?_
 refine qam (qav du gz (oi:=3) (cs:=[.int .i64 y7,.int .i64 y2,.int .i64 y3,.int .i64 (-1),.int .i64 (-1),.int .i64 y6,.int .i64 y7,.slice A9 l8.length ap]) kz fun m7 ke bp gA=>?_)
 refine qaf (qab ?_)
 refine wp_seq ?_
 refine qar [(1,.v (.int .i64 v)),(2,.v (.bool flex)),(9,.p 2 0),(14,.v (.slice ae ((qan aa).length) af)),(15,.p 3 0),(97,.v (.int .i64 (((qan aa).length:Nat):Int))),(98,.v (.int .i64 0))] bp gA fun m8 gB=>?_
 refine wp_block ?_
 have hl_:=(hQ.2 ac ‹_›).2
 refine wp_loop_ghost (fun n_ a_ w_=>∃ (k:Nat),n_ = (qan aa).length - k ∧ k ≤ (qan aa).length ∧ LInv bp 124 [⟨hJ,0,[.int .i64 k1,.int .i64 y2,.int .i64 y3,.int .i64 y4,.int .i64 y5,.int .i64 y6,.int .i64 y7,.slice A9 l8.length ap],true⟩,⟨ia,0,[.int .i64 aj,.slice eo ak.length ep,.bool al,.slice ae aa.length af,.slice eu am.length ev],true⟩,⟨ig,0,[.int .i64 gR,.slice gU gS.length gV,.bool cu,.slice bD ao.length dF,.slice gW gT.length gX],true⟩,⟨iW,0,[.int .i64 y7,.int .i64 y2,.int .i64 y3,.int .i64 (-1),.int .i64 (-1),.int .i64 y6,.int .i64 y7,.slice A9 l8.length ap],true⟩] [] [(1,.v (.int .i64 v)),(2,.v (.bool flex)),(9,.p 2 0),(14,.v (.slice ae ((qan aa).length) af)),(15,.p 3 0),(97,.v (.int .i64 (((qan aa).length:Nat):Int))),(98,.v (.int .i64 ((k:Nat):Int)))] a_ w_) ((qan aa).length) ⟨0,by omega,by omega,gB.pk,bp,Fr.refl _ _ _⟩ ?_
 rintro m9 na nb ⟨k,kf,kg,gC,ay,gD⟩
 refine qar [(1,.v (.int .i64 v)),(2,.v (.bool flex)),(9,.p 2 0),(14,.v (.slice ae ((qan aa).length) af)),(15,.p 3 0),(97,.v (.int .i64 (((qan aa).length:Nat):Int))),(98,.v (.int .i64 ((k:Nat):Int))),(99,.v (.bool (decide (((k:Nat):Int) < (((qan aa).length:Nat):Int)))))] ay gC fun nc bq=>?_
 refine wp_seq ?_
 refine qay bq (b:=decide (((k:Nat):Int) < (((qan aa).length:Nat):Int))) kz (fun bt=>?_) (fun bt=>?_)
 ·
  have kh:=of_decide_eq_true bt
  refine wp_skip ?_
  refine qab ?_
  refine wp_seq ?_
  refine wp_block ?_
  refine qar [(1,.v (.int .i64 v)),(2,.v (.bool flex)),(9,.p 2 0),(14,.v (.slice ae ((qan aa).length) af)),(15,.p 3 0),(16,.v (.int .i64 ((k:Nat):Int))),(97,.v (.int .i64 (((qan aa).length:Nat):Int))),(98,.v (.int .i64 ((k:Nat):Int)))] ay bq fun nf gE=>?_
  refine qaG 14 kz ay fun ng gF ai aC=>?_
  refine qaD [0,1,2,3,4,7,8,9] [(1,.v (.int .i64 v)),(2,.v (.bool flex)),(9,.p 2 0),(14,.v (.slice ae ((qan aa).length) af)),(15,.p 3 0),(97,.v (.int .i64 (((qan aa).length:Nat):Int))),(98,.v (.int .i64 ((k:Nat):Int))),(101,.v (.agg #[.int .i64 y7,.int .i64 y2,.int .i64 y3,.int .i64 (-1),.int .i64 (-1),.int .i64 y6,.int .i64 y7,.slice A9 l8.length ap])),(102,.v (.int .i64 v)),(103,.v (.bool flex)),(104,.v (.slice ae ((qan aa).length) af)),(105,.v (.int .i64 ((k:Nat):Int))),(109,.v (.slice bD ao.length dF)),(110,.v (.int .i64 ((k:Nat):Int)))] 6 (qaa (qac (qaa (qaa (qac (qaa (qac (qaa qad)))))))) (fun _ h=>h.cells) aC gE fun nh gG=>?_
  obtain ⟨iX,iY,gH,ki,bu⟩:=Slots.get (qct dE) (i:=k) (by first | omega | (have h_:ao.length = (qan aa).length:=(hQ.2 ac ‹_›).1; omega))
  obtain ⟨iZ,dv⟩:∃ x,(qan aa)[k]? = some x:=⟨_,List.getElem?_eq_getElem (by omega)⟩
  have bw:=(qcR g9) k iZ dv
  obtain ⟨bZ,b8,ca,cb,cc,d9,ea,eb,ec,ee,ef,kj,rfl,bx,i6,i7,ni,nj⟩:=bw.open_
  rw [bx] at bw
  have ja:=i6.small
  have jb:=i7.small
  rw [bx] at bu
  refine qaH gG (i:=5) (t:=23) (A:=ae) (m:=((qan aa).length)) (q:=((k:Nat):Int)) (d:=106) kz (e:=26) (size:=5) (bytes:=88) kz gH rfl (by first | omega | (have h_:ao.length = (qan aa).length:=(hQ.2 ac ‹_›).1; omega)) kz kz (qaa (qac (qaa (qaa (qac (qaa (qac (qaa qad)))))))) aC fun nk gI=>?_
  refine qaT gI (i:=6) (t:=26) (b:=iX) (o:=iY + k * 5) (d:=107) kz (cs:=[.int .i64 bZ,.slice d9 b8.length ea,.bool ca,.slice eb cb.length ec,.slice ee cc.length ef]) (v:=.agg #[.int .i64 bZ,.slice d9 b8.length ea,.bool ca,.slice eb cb.length ec,.slice ee cc.length ef]) kz (fun w' h'=>(AtF.move bu (TT.step0 ai h') nilM qaX).at_) kz kz (qaa (qac (qaa (qaa (qac (qaa (qac (qaa qad)))))))) aC fun nl gJ=>?_
  obtain ⟨jc,jd,gK,km,bz⟩:=Slots.get gY (i:=k) (by first | omega | (have h_:ao.length = (qan aa).length:=(hQ.2 ac ‹_›).1; omega))
  obtain ⟨je,dw⟩:∃ x,ao[k]? = some x:=⟨_,List.getElem?_eq_getElem (by omega)⟩
  have bA:=hC k je dw
  obtain ⟨cd,ce,cm,cq,cr,eg,eh,ei,ej,ek,em,ko,rfl,bB,jf,jg,nm,np⟩:=bA.open_
  rw [bB] at bA
  have jh:=jf.small
  have ji:=jg.small
  rw [bB] at bz
  refine qaH gJ (i:=10) (t:=23) (A:=bD) (m:=ao.length) (q:=((k:Nat):Int)) (d:=111) kz (e:=26) (size:=5) (bytes:=88) kz gK rfl (by first | omega | (have h_:ao.length = (qan aa).length:=(hQ.2 ac ‹_›).1; omega)) kz kz (qaa (qac (qaa (qaa (qac (qaa (qac (qaa qad)))))))) aC fun nr gL=>?_
  refine qaT gL (i:=11) (t:=26) (b:=jc) (o:=jd + k * 5) (d:=112) kz (cs:=[.int .i64 cd,.slice eg ce.length eh,.bool cm,.slice ei cq.length ej,.slice ek cr.length em]) (v:=.agg #[.int .i64 cd,.slice eg ce.length eh,.bool cm,.slice ei cq.length ej,.slice ek cr.length em]) kz (fun w' h'=>(AtF.move bz (TT.step0 ai h') nilM qaX).at_) kz kz (qaa (qac (qaa (qaa (qac (qaa (qac (qaa qad)))))))) aC fun ns gM=>?_
  refine qaw (i:=12) kz (qal gM (f:=23) (vs:=[.agg #[.int .i64 y7,.int .i64 y2,.int .i64 y3,.int .i64 (-1),.int .i64 (-1),.int .i64 y6,.int .i64 y7,.slice A9 l8.length ap],.int .i64 v,.bool flex,.agg #[.int .i64 bZ,.slice d9 b8.length ea,.bool ca,.slice eb cb.length ec,.slice ee cc.length ef],.agg #[.int .i64 cd,.slice eg ce.length eh,.bool cm,.slice ei cq.length ej,.slice ek cr.length em]]) (d:=113) kz Tryd.call23 ( qhk hT _ _ _ (Tree.mk bZ b8 ca cb cc) _ (Tree.mk cd ce cm cq cr) _ _ (FldR.mk (l:=l8) dD (gQ.move ai.step nilM ai.imm) (fun i_ x_ h_=>((gZ i_ x_ h_).move ai.step nilM ai.imm))) hpl hof (bw.move ai.step nilM ai.imm) (bA.move ai.step nilM ai.imm) (hl_ _ _ _ dv dw)) ?_)
  rintro e_ nt ⟨rfl,dx⟩
  refine ⟨_,rfl,fun nu gN=>?_⟩
  have bC:=ai.next_nil dx
  have dy:=ai.frN dx
  have dA:=TT.ofW dy bC
  refine ⟨fun _=>dA,?_⟩
  refine qaD [13] [(1,.v (.int .i64 v)),(2,.v (.bool flex)),(9,.p 2 0),(14,.v (.slice ae ((qan aa).length) af)),(15,.p 3 0),(97,.v (.int .i64 (((qan aa).length:Nat):Int))),(98,.v (.int .i64 ((k:Nat):Int))),(114,.v (.bool false))] 0 (qaa (qac (qaa (qaa (qac (qaa (qac (qaa qad)))))))) (fun _ h=>h.cells) dA gN fun nv dB=>?_
  refine qaF kz ?_ _
  refine qab ?_
  refine qap dB (b:=false) kz rfl ?_
  refine wp_skip ?_
  refine qaq ?_
  refine qab ?_
  refine qat [0,1] kz ?_
  refine qaj [0,1] [] [(1,.v (.int .i64 v)),(2,.v (.bool flex)),(9,.p 2 0),(14,.v (.slice ae ((qan aa).length) af)),(15,.p 3 0),(97,.v (.int .i64 (((qan aa).length:Nat):Int))),(98,.v (.int .i64 (IntKind.i64.wrap (((k:Nat):Int) + 1))))] bC dB fun nw dC=>?_
  refine qaf (qab ?_)
  have gO:IntKind.i64.wrap (((k:Nat):Int) + 1) = ((k + 1:Nat):Int):=qaN (by omega)
  rw [gO] at dC
  exact ⟨(qan aa).length - (k + 1),by omega,k + 1,rfl,by omega,dC.pk,bC,((gD.trans gF).trans dy)⟩
 have kp:=of_decide_eq_false bt
 refine wp_exit ?_
 refine qaB ?_
 refine qaB ?_
 refine qaL ?_
 refine qab ?_
 refine qar [(10,.v (.bool true))] ay bq fun nx gP=>?_
 refine wp_ret ?_
 refine qax ?_
 refine qao ?_
 refine qaJ gP ay.cells (v:=.bool true) kz ?_
 exact ⟨rfl,ay.step⟩
theorem qlp {v:Int} {flex:Bool} {T:List Fld → Tree → Tree → Prop} (hT:ToOK v flex T) (cf:List Value) (f:Fld) (ct:List Value) (t:Tree) (cg:List Value) (g:Tree) (w:World) (F:Nat → Nat → Prop) (hf:FldR w F cf f) (hpl:f.plain) (ht:TreeR w F ct t) (hg:TreeR w F cg g) (hQ:ToF T v f t g) :
  Calls Tryd.prog 23 #[.agg cf.toArray,.int .i64 v,.bool flex,.agg ct.toArray,.agg cg.toArray] w (qbO w (.bool true)):=by
 by_cases h:f.kind = 11
 ·exact qkH hT cf f ct t cg g w F hf hpl h ht hg hQ
 exact qhk hT cf f ct t cg g w F hf (qiv hpl) h ht hg hQ.1
set_option maxHeartbeats 4000000 in
theorem qka {v:Int} {flex:Bool} {T:List Fld → Tree → Tree → Prop} {U:List Fld → Tree → Prop} (hT:ToOK v flex T) (hU:UsOK U) (A:Option Addr) (c:Nat) (l:List Fld) (ct:List Value) (t:Tree) (cg:List Value) (g:Tree) (w:World) (F:Nat → Nat → Prop) (hl:FldsR w F A c l) (ht:TreeR w F ct t) (hg:TreeR w F cg g) (hpl:plains l) (hP:ToP T U l v flex t g) :
  Calls Tryd.prog 10 #[.slice A l.length c,.int .i64 v,.bool flex,.agg ct.toArray,.agg cg.toArray] w (qbO w (.bool true)):=by
 obtain ⟨xfs,h1,h2⟩:=hl.ex
 have hsm:=h1.small
 obtain ⟨n1,s2,b3,l4,u5,A6,c7,A8,c9,bF,bG,jN,rfl,rfl,jO,jP,mH,jQ⟩:=ht.open_
 have iO:=jO.small
 have iP:=jP.small
 obtain ⟨cM,cN,cO,aF,aB,cP,cQ,bH,bO,bI,bP,jR,rfl,rfl,jS,g9,iQ,jT⟩:=hg.open_
 have iR:=jS.small
 have iS:=g9.small
 have hlen:aF.length = l.length:=hP.1
 have hgu:aB = if flex = true then qb5 (qai l u5) else []:=hP.2.2
 obtain ⟨jU,iT,jV⟩:=jT.ex
 have iU:=iT.small
 refine enter (n:=120) Tryd.func10 rfl Tryd.ntmps10 kz fun a hE=>?_
 have hW:=WOk.start w Nil
 refine qag [0,1,2] kz ?_
 refine qam (qa7 hW hE (d:=8) (cs:=[.int .i64 n1,.slice A6 s2.length c7,.bool b3,.slice A8 l4.length c9,.slice bF u5.length bG]) kz fun dc mI mJ jW jX jY hC hJ=>?_)
 refine qam (qa7 hC hJ (d:=9) (cs:=[.int .i64 cM,.slice cP cN.length cQ,.bool cO,.slice bH aF.length bO,.slice bI aB.length bP]) kz fun de mK mL jZ j0 j1 bu hK=>?_)
 refine qaj [2] [] [(0,.v (.slice A l.length c)),(1,.v (.int .i64 v)),(2,.v (.bool flex)),(8,.p 0 0),(9,.p 1 0)] bu hK fun mM hZ=>?_
 refine qaf (qab ?_)
 refine wp_seq ?_
 refine qar [(0,.v (.slice A l.length c)),(1,.v (.int .i64 v)),(2,.v (.bool flex)),(8,.p 0 0),(9,.p 1 0),(22,.v (.bool (((aF.length:Nat):Int) != ((l.length:Nat):Int))))] bu hZ fun mN eb=>?_
 refine qay eb (b:=((aF.length:Nat):Int) != ((l.length:Nat):Int)) kz (fun ec=>?_) (fun ec=>?_)
 ·
  have j2:((aF.length:Nat):Int) ≠ ((l.length:Nat):Int):=by simpa using ec
  refine qar [(10,.v (.bool false))] bu eb fun mO ia=>?_
  refine wp_ret ?_
  refine qao ?_
  refine qaJ ia bu.cells (v:=.bool false) kz ?_
  first
   | (exfalso; omega)
   | exact (qd8 hgu ‹_› ‹_›).elim
   | exact (qc9 hgu ‹_› ‹_›).elim
   | exact (qd9 hgu ‹_› ‹_› ‹_› ‹_›).elim
   | exact (qea hgu ‹_› ‹_› ‹_› ‹_›).elim
   | (exfalso; simp_all; done)
 have j3:((aF.length:Nat):Int) = ((l.length:Nat):Int):=by simpa using ec
 refine wp_skip ?_
 refine qab ?_
 refine wp_seq ?_
 refine qar [(0,.v (.slice A l.length c)),(1,.v (.int .i64 v)),(2,.v (.bool flex)),(8,.p 0 0),(9,.p 1 0),(23,.v (.slice A l.length c)),(24,.v (.int .i64 ((l.length:Nat):Int))),(25,.v (.int .i64 0))] bu eb fun mQ ib=>?_
 refine wp_block ?_
 refine wp_loop_ghost (fun n_ a_ w_=>∃ (k:Nat),n_ = l.length - k ∧ k ≤ l.length ∧ LInv bu 120 [⟨dc,0,[.int .i64 n1,.slice A6 s2.length c7,.bool b3,.slice A8 l4.length c9,.slice bF u5.length bG],true⟩,⟨de,0,[.int .i64 cM,.slice cP cN.length cQ,.bool cO,.slice bH aF.length bO,.slice bI aB.length bP],true⟩] [] [(0,.v (.slice A l.length c)),(1,.v (.int .i64 v)),(2,.v (.bool flex)),(8,.p 0 0),(9,.p 1 0),(23,.v (.slice A l.length c)),(24,.v (.int .i64 ((l.length:Nat):Int))),(25,.v (.int .i64 ((k:Nat):Int)))] a_ w_) (l.length) ⟨0,by omega,by omega,ib.pk,bu,Fr.refl _ _ _⟩ ?_
 rintro mR mS mT ⟨k,j4,j5,ic,av,ee⟩
 refine qar [(0,.v (.slice A l.length c)),(1,.v (.int .i64 v)),(2,.v (.bool flex)),(8,.p 0 0),(9,.p 1 0),(23,.v (.slice A l.length c)),(24,.v (.int .i64 ((l.length:Nat):Int))),(25,.v (.int .i64 ((k:Nat):Int))),(26,.v (.bool (decide (((k:Nat):Int) < ((l.length:Nat):Int)))))] av ic fun mU ef=>?_
 refine wp_seq ?_
 refine qay ef (b:=decide (((k:Nat):Int) < ((l.length:Nat):Int))) kz (fun eg=>?_) (fun eg=>?_)
 ·
  have j6:=of_decide_eq_true eg
  refine wp_skip ?_
  refine qab ?_
  refine wp_seq ?_
  refine wp_block ?_
  refine qag [0,1,2,3,4,5] kz ?_
  refine qaj [0] [1,2,3,4,5] [(0,.v (.slice A l.length c)),(1,.v (.int .i64 v)),(2,.v (.bool flex)),(8,.p 0 0),(9,.p 1 0),(23,.v (.slice A l.length c)),(24,.v (.int .i64 ((l.length:Nat):Int))),(25,.v (.int .i64 ((k:Nat):Int))),(27,.v (.int .i64 ((k:Nat):Int)))] av ef fun mV ig=>?_
  obtain ⟨j7,j8,ii,j9,df⟩:=Slots.get h1 (i:=k) (by first | omega | (have h_:=qb0 hgu ‹_›; omega))
  obtain ⟨ka,bQ⟩:∃ x,l[k]? = some x:=⟨_,List.getElem?_eq_getElem (by omega)⟩
  have bw:=h2 k ka bQ
  obtain ⟨aj,ak,al,am,ag,ao,aa,ab,ap,ar,iV,rfl,bR,ij,kd⟩:=bw.open_
  rw [bR] at bw
  have ik:=ij.small
  rw [bR] at df
  refine qam (qaC ig (t:=29) (A:=A) (m:=l.length) (q:=((k:Nat):Int)) (d:=28) kz (e:=51) (size:=8) (bytes:=80) kz ii rfl (by first | omega | (have h_:=qb0 hgu ‹_›; omega)) fun ke ey=>?_)
  refine qam (qaM ey (t:=51) (b:=j7) (o:=j8 + k * 8) (d:=29) kz (cs:=[.int .i64 aj,.int .i64 ak,.int .i64 al,.int .i64 am,.int .i64 ag,.int .i64 ao,.int .i64 aa,.slice ap ab.length ar]) (v:=.agg #[.int .i64 aj,.int .i64 ak,.int .i64 al,.int .i64 am,.int .i64 ag,.int .i64 ao,.int .i64 aa,.slice ap ab.length ar]) kz (AtF.move df av.step nilM qaX).at_ fun kf ez=>?_)
  refine qam (qaR av ez (d:=12) (cs:=[.int .i64 0,.int .i64 0,.int .i64 0,.int .i64 0,.int .i64 0,.int .i64 0,.int .i64 0,.slice none 0 0]) kz fun il kg kh iW iX bS dg eB=>?_)
  refine qaj [4] [5] [(0,.v (.slice A l.length c)),(1,.v (.int .i64 v)),(2,.v (.bool flex)),(8,.p 0 0),(9,.p 1 0),(11,.v (.int .i64 ((k:Nat):Int))),(12,.p 2 0),(23,.v (.slice A l.length c)),(24,.v (.int .i64 ((l.length:Nat):Int))),(25,.v (.int .i64 ((k:Nat):Int))),(29,.v (.agg #[.int .i64 aj,.int .i64 ak,.int .i64 al,.int .i64 am,.int .i64 ag,.int .i64 ao,.int .i64 aa,.slice ap ab.length ar]))] dg eB fun ki eC=>?_
  refine qam (qav dg eC (oi:=2) (cs:=[.int .i64 aj,.int .i64 ak,.int .i64 al,.int .i64 am,.int .i64 ag,.int .i64 ao,.int .i64 aa,.slice ap ab.length ar]) kz fun kj bT aG eD=>?_)
  refine qaf (qab ?_)
  refine qag [0,1,2,3,4] kz ?_
  refine qaj [0,1] [2,3,4] [(0,.v (.slice A l.length c)),(1,.v (.int .i64 v)),(2,.v (.bool flex)),(8,.p 0 0),(9,.p 1 0),(11,.v (.int .i64 ((k:Nat):Int))),(12,.p 2 0),(23,.v (.slice A l.length c)),(24,.v (.int .i64 ((l.length:Nat):Int))),(25,.v (.int .i64 ((k:Nat):Int))),(30,.v (.agg #[.int .i64 n1,.slice A6 s2.length c7,.bool b3,.slice A8 l4.length c9,.slice bF u5.length bG])),(31,.v (.int .i64 ((k:Nat):Int)))] aG eD fun km eE=>?_
  refine qam (qal eE (f:=20) (vs:=[.agg #[.int .i64 n1,.slice A6 s2.length c7,.bool b3,.slice A8 l4.length c9,.slice bF u5.length bG],.int .i64 ((k:Nat):Int)]) (d:=32) kz Tryd.call20 (sAt _ _ k _ _ (ht.move aG.step nilM aG.imm)) ?_)
  rintro e_ ko ⟨iY,rfl,eF,aK⟩
  have aL:=eF.move aK nilM (fun b o h_ hb_=>aG.laid (G:=F) aK b o (.inl h_) (Nat.lt_of_lt_of_le hb_ aK.size))
  obtain ⟨aM,aN,aO,aP,aQ,aR,aS,aT,aU,aV,aW,iZ,i6,bU,im,io,kp,kq⟩:=aL.open_
  rw [bU] at aL
  have ip:=im.small
  have iq:=io.small
  rw [bU]
  refine ⟨_,rfl,fun ku eG=>?_⟩
  have eH:=aG.next_nil aK
  have bV:=aG.frN aK
  refine qam (qaR eH eG (d:=13) (cs:=[.int .i64 0,.slice none 0 0,.bool false,.slice none 0 0,.slice none 0 0]) kz fun ir kv kw i7 ja aw eI eJ=>?_)
  refine qam (qav eI eJ (oi:=3) (cs:=[.int .i64 aM,.slice aR aN.length aS,.bool aO,.slice aT aP.length aU,.slice aV aQ.length aW]) kz fun kx ax ac eK=>?_)
  refine qaf (qab ?_)
  refine wp_seq ?_
  refine wp_seq (qgB (Mid:=fun a_ w_=>LInv ac 120 [⟨dc,0,[.int .i64 n1,.slice A6 s2.length c7,.bool b3,.slice A8 l4.length c9,.slice bF u5.length bG],true⟩,⟨de,0,[.int .i64 cM,.slice cP cN.length cQ,.bool cO,.slice bH aF.length bO,.slice bI aB.length bP],true⟩,⟨il,0,[.int .i64 aj,.int .i64 ak,.int .i64 al,.int .i64 am,.int .i64 ag,.int .i64 ao,.int .i64 aa,.slice ap ab.length ar],true⟩,⟨ir,0,[.int .i64 aM,.slice aR aN.length aS,.bool aO,.slice aT aP.length aU,.slice aV aQ.length aW],true⟩] [] [(0,.v (.slice A l.length c)),(1,.v (.int .i64 v)),(2,.v (.bool flex)),(8,.p 0 0),(9,.p 1 0),(11,.v (.int .i64 ((k:Nat):Int))),(12,.p 2 0),(13,.p 3 0),(23,.v (.slice A l.length c)),(24,.v (.int .i64 ((l.length:Nat):Int))),(25,.v (.int .i64 ((k:Nat):Int))),(54,.v (.bool (Fld.pres (Fld.mk aj ak al am ag ao aa ab) v flex (Tree.at_ (Tree.mk n1 s2 b3 l4 u5) k))))] a_ w_) ?_ ?_)
  ·
   refine qat [0,1,2,3,4,5,6,7,8,9,10,11,12,13,14,15,16,17,18,19,20,21] kz ?_
   refine qaj [0,1,2,3] [4,5,6,7,8,9,10,11,12,13,14,15,16,17,18,19,20,21] [(0,.v (.slice A l.length c)),(1,.v (.int .i64 v)),(2,.v (.bool flex)),(8,.p 0 0),(9,.p 1 0),(11,.v (.int .i64 ((k:Nat):Int))),(12,.p 2 0),(13,.p 3 0),(23,.v (.slice A l.length c)),(24,.v (.int .i64 ((l.length:Nat):Int))),(25,.v (.int .i64 ((k:Nat):Int))),(36,.v (.bool (decide (ag < 0))))] ac eK fun ky dh=>?_
   refine (Bool.eq_false_or_eq_true (decide (ag < 0))).elim (fun aX=>?_) (fun aX=>?_)
   ·
    have jb:=of_decide_eq_true aX
    have eL:=dh.cast (env':=[(0,.v (.slice A l.length c)),(1,.v (.int .i64 v)),(2,.v (.bool flex)),(8,.p 0 0),(9,.p 1 0),(11,.v (.int .i64 ((k:Nat):Int))),(12,.p 2 0),(13,.p 3 0),(23,.v (.slice A l.length c)),(24,.v (.int .i64 ((l.length:Nat):Int))),(25,.v (.int .i64 ((k:Nat):Int))),(36,.v (.bool true))]) (by rw [aX])
    refine qaj [4,5] [6,7,8,9,10,11,12,13,14,15,16,17,18,19,20,21] [(0,.v (.slice A l.length c)),(1,.v (.int .i64 v)),(2,.v (.bool flex)),(8,.p 0 0),(9,.p 1 0),(11,.v (.int .i64 ((k:Nat):Int))),(12,.p 2 0),(13,.p 3 0),(23,.v (.slice A l.length c)),(24,.v (.int .i64 ((l.length:Nat):Int))),(25,.v (.int .i64 ((k:Nat):Int))),(36,.v (.bool true)),(37,.v (.agg #[.int .i64 aj,.int .i64 ak,.int .i64 al,.int .i64 am,.int .i64 ag,.int .i64 ao,.int .i64 aa,.slice ap ab.length ar])),(38,.v (.int .i64 v))] ac eL fun kA eM=>?_
    refine qam (qal eM (f:=21) (vs:=[.agg #[.int .i64 aj,.int .i64 ak,.int .i64 al,.int .i64 am,.int .i64 ag,.int .i64 ao,.int .i64 aa,.slice ap ab.length ar],.int .i64 v]) (d:=39) kz Tryd.call21 (sHas aj ak al am ag ao aa ab _ _ v _) ?_)
    rintro e_ kB ⟨rfl,di⟩
    refine ⟨_,rfl,fun kC eN=>?_⟩
    have af:=ac.next_nil di
    have aH:=ac.frN di
    refine qaj [7,8] [9,10,11,12,13,14,15,16,17,18,19,20,21] [(0,.v (.slice A l.length c)),(1,.v (.int .i64 v)),(2,.v (.bool flex)),(8,.p 0 0),(9,.p 1 0),(11,.v (.int .i64 ((k:Nat):Int))),(12,.p 2 0),(13,.p 3 0),(23,.v (.slice A l.length c)),(24,.v (.int .i64 ((l.length:Nat):Int))),(25,.v (.int .i64 ((k:Nat):Int))),(41,.v (.bool (Fld.has (Fld.mk aj ak al am ag ao aa ab) v)))] af eN fun kD dj=>?_
    refine (Bool.eq_false_or_eq_true (Fld.has (Fld.mk aj ak al am ag ao aa ab) v)).elim (fun bW=>?_) (fun bW=>?_)
    ·
     have eO:=dj.cast (env':=[(0,.v (.slice A l.length c)),(1,.v (.int .i64 v)),(2,.v (.bool flex)),(8,.p 0 0),(9,.p 1 0),(11,.v (.int .i64 ((k:Nat):Int))),(12,.p 2 0),(13,.p 3 0),(23,.v (.slice A l.length c)),(24,.v (.int .i64 ((l.length:Nat):Int))),(25,.v (.int .i64 ((k:Nat):Int))),(41,.v (.bool true))]) (by rw [bW])
     refine qaj [9,10,11,12,13,14,15,16,17,18,19,20,21] [] [(0,.v (.slice A l.length c)),(1,.v (.int .i64 v)),(2,.v (.bool flex)),(8,.p 0 0),(9,.p 1 0),(11,.v (.int .i64 ((k:Nat):Int))),(12,.p 2 0),(13,.p 3 0),(23,.v (.slice A l.length c)),(24,.v (.int .i64 ((l.length:Nat):Int))),(25,.v (.int .i64 ((k:Nat):Int))),(54,.v (.bool true))] af eO fun kE eP=>?_
     refine qaf (qab ?_)
     have hp_:Fld.pres (Fld.mk aj ak al am ag ao aa ab) v flex (Tree.at_ (Tree.mk n1 s2 b3 l4 u5) k) = true:=by first | (first | exact qlm ‹_› ‹_› | exact qln ‹_› ‹_› ‹_›) | (exfalso; omega)
     exact ⟨(eP.pk (env':=[(0,.v (.slice A l.length c)),(1,.v (.int .i64 v)),(2,.v (.bool flex)),(8,.p 0 0),(9,.p 1 0),(11,.v (.int .i64 ((k:Nat):Int))),(12,.p 2 0),(13,.p 3 0),(23,.v (.slice A l.length c)),(24,.v (.int .i64 ((l.length:Nat):Int))),(25,.v (.int .i64 ((k:Nat):Int))),(54,.v (.bool true))])).cast (by rw [hp_]),af,aH⟩
    have eQ:=dj.cast (env':=[(0,.v (.slice A l.length c)),(1,.v (.int .i64 v)),(2,.v (.bool flex)),(8,.p 0 0),(9,.p 1 0),(11,.v (.int .i64 ((k:Nat):Int))),(12,.p 2 0),(13,.p 3 0),(23,.v (.slice A l.length c)),(24,.v (.int .i64 ((l.length:Nat):Int))),(25,.v (.int .i64 ((k:Nat):Int))),(41,.v (.bool false))]) (by rw [bW])
    refine qaj [9,10,11,12] [13,14,15,16,17,18,19,20,21] [(0,.v (.slice A l.length c)),(1,.v (.int .i64 v)),(2,.v (.bool flex)),(8,.p 0 0),(9,.p 1 0),(11,.v (.int .i64 ((k:Nat):Int))),(12,.p 2 0),(13,.p 3 0),(23,.v (.slice A l.length c)),(24,.v (.int .i64 ((l.length:Nat):Int))),(25,.v (.int .i64 ((k:Nat):Int))),(41,.v (.bool false)),(45,.v (.bool (decide (ag ≥ 0))))] af eQ fun kF dl=>?_
    refine (Bool.eq_false_or_eq_true (decide (ag ≥ 0))).elim (fun aY=>?_) (fun aY=>?_)
    ·
     have jc:=of_decide_eq_true aY
     have eR:=dl.cast (env':=[(0,.v (.slice A l.length c)),(1,.v (.int .i64 v)),(2,.v (.bool flex)),(8,.p 0 0),(9,.p 1 0),(11,.v (.int .i64 ((k:Nat):Int))),(12,.p 2 0),(13,.p 3 0),(23,.v (.slice A l.length c)),(24,.v (.int .i64 ((l.length:Nat):Int))),(25,.v (.int .i64 ((k:Nat):Int))),(41,.v (.bool false)),(45,.v (.bool true))]) (by rw [aY])
     refine qaj [13,14,15] [16,17,18,19,20,21] [(0,.v (.slice A l.length c)),(1,.v (.int .i64 v)),(2,.v (.bool flex)),(8,.p 0 0),(9,.p 1 0),(11,.v (.int .i64 ((k:Nat):Int))),(12,.p 2 0),(13,.p 3 0),(23,.v (.slice A l.length c)),(24,.v (.int .i64 ((l.length:Nat):Int))),(25,.v (.int .i64 ((k:Nat):Int))),(41,.v (.bool false)),(48,.v (.bool flex))] af eR fun kG dp=>?_
     refine (Bool.eq_false_or_eq_true (flex)).elim (fun aZ=>?_) (fun aZ=>?_)
     ·
      have eS:=dp.cast (env':=[(0,.v (.slice A l.length c)),(1,.v (.int .i64 v)),(2,.v (.bool true)),(8,.p 0 0),(9,.p 1 0),(11,.v (.int .i64 ((k:Nat):Int))),(12,.p 2 0),(13,.p 3 0),(23,.v (.slice A l.length c)),(24,.v (.int .i64 ((l.length:Nat):Int))),(25,.v (.int .i64 ((k:Nat):Int))),(41,.v (.bool false)),(48,.v (.bool true))]) (by rw [aZ])
      refine qaj [16,17] [18,19,20,21] [(0,.v (.slice A l.length c)),(1,.v (.int .i64 v)),(2,.v (.bool true)),(8,.p 0 0),(9,.p 1 0),(11,.v (.int .i64 ((k:Nat):Int))),(12,.p 2 0),(13,.p 3 0),(23,.v (.slice A l.length c)),(24,.v (.int .i64 ((l.length:Nat):Int))),(25,.v (.int .i64 ((k:Nat):Int))),(41,.v (.bool false)),(48,.v (.bool true)),(49,.v (.agg #[.int .i64 aj,.int .i64 ak,.int .i64 al,.int .i64 am,.int .i64 ag,.int .i64 ao,.int .i64 aa,.slice ap ab.length ar])),(50,.v (.agg #[.int .i64 aM,.slice aR aN.length aS,.bool aO,.slice aT aP.length aU,.slice aV aQ.length aW]))] af eS fun kH eU=>?_
      refine qam (qal eU (f:=22) (vs:=[.agg #[.int .i64 aj,.int .i64 ak,.int .i64 al,.int .i64 am,.int .i64 ag,.int .i64 ao,.int .i64 aa,.slice ap ab.length ar],.agg #[.int .i64 aM,.slice aR aN.length aS,.bool aO,.slice aT aP.length aU,.slice aV aQ.length aW]]) (d:=51) kz Tryd.call22 (qg3 _ _ _ _ _ _ _ (bw.move af.step nilM af.imm) (Nat.le_refl _) (aL.move ((aw.trans ax).trans aH).step immM ((aw.trans ax).trans aH).to')) ?_)
      rintro e_ kI ⟨rfl,dq⟩
      refine ⟨_,rfl,fun kJ eV=>?_⟩
      have dr:=af.next_nil dq
      have eW:=af.frN dq
      refine qaj [19,20,21] [] [(0,.v (.slice A l.length c)),(1,.v (.int .i64 v)),(2,.v (.bool true)),(8,.p 0 0),(9,.p 1 0),(11,.v (.int .i64 ((k:Nat):Int))),(12,.p 2 0),(13,.p 3 0),(23,.v (.slice A l.length c)),(24,.v (.int .i64 ((l.length:Nat):Int))),(25,.v (.int .i64 ((k:Nat):Int))),(54,.v (.bool (!(Fld.usual (Fld.mk aj ak al am ag ao aa ab) (Tree.at_ (Tree.mk n1 s2 b3 l4 u5) k)))))] dr eV fun kK eX=>?_
      refine qaf (qab ?_)
      have hp_:Fld.pres (Fld.mk aj ak al am ag ao aa ab) v flex (Tree.at_ (Tree.mk n1 s2 b3 l4 u5) k) = !(Fld.usual (Fld.mk aj ak al am ag ao aa ab) (Tree.at_ (Tree.mk n1 s2 b3 l4 u5) k)):=by first | (first | exact qj5 ‹_› ‹_› | exact qj6 ‹_›) | (exfalso; omega)
      exact ⟨(eX.pk (env':=[(0,.v (.slice A l.length c)),(1,.v (.int .i64 v)),(2,.v (.bool true)),(8,.p 0 0),(9,.p 1 0),(11,.v (.int .i64 ((k:Nat):Int))),(12,.p 2 0),(13,.p 3 0),(23,.v (.slice A l.length c)),(24,.v (.int .i64 ((l.length:Nat):Int))),(25,.v (.int .i64 ((k:Nat):Int))),(54,.v (.bool (!(Fld.usual (Fld.mk aj ak al am ag ao aa ab) (Tree.at_ (Tree.mk n1 s2 b3 l4 u5) k)))))])).cast (by rw [hp_,aZ]),dr,(aH.trans eW)⟩
     have eY:=dp.cast (env':=[(0,.v (.slice A l.length c)),(1,.v (.int .i64 v)),(2,.v (.bool false)),(8,.p 0 0),(9,.p 1 0),(11,.v (.int .i64 ((k:Nat):Int))),(12,.p 2 0),(13,.p 3 0),(23,.v (.slice A l.length c)),(24,.v (.int .i64 ((l.length:Nat):Int))),(25,.v (.int .i64 ((k:Nat):Int))),(41,.v (.bool false)),(48,.v (.bool false))]) (by rw [aZ])
     refine qaj [16,17,18,19,20,21] [] [(0,.v (.slice A l.length c)),(1,.v (.int .i64 v)),(2,.v (.bool false)),(8,.p 0 0),(9,.p 1 0),(11,.v (.int .i64 ((k:Nat):Int))),(12,.p 2 0),(13,.p 3 0),(23,.v (.slice A l.length c)),(24,.v (.int .i64 ((l.length:Nat):Int))),(25,.v (.int .i64 ((k:Nat):Int))),(54,.v (.bool false))] af eY fun kL eZ=>?_
     refine qaf (qab ?_)
     have hp_:Fld.pres (Fld.mk aj ak al am ag ao aa ab) v flex (Tree.at_ (Tree.mk n1 s2 b3 l4 u5) k) = false:=by first | (first | exact qhd ‹_› ‹_› | exact qhe ‹_› ‹_› | exact qhf ‹_› ‹_›) | (exfalso; omega)
     exact ⟨(eZ.pk (env':=[(0,.v (.slice A l.length c)),(1,.v (.int .i64 v)),(2,.v (.bool false)),(8,.p 0 0),(9,.p 1 0),(11,.v (.int .i64 ((k:Nat):Int))),(12,.p 2 0),(13,.p 3 0),(23,.v (.slice A l.length c)),(24,.v (.int .i64 ((l.length:Nat):Int))),(25,.v (.int .i64 ((k:Nat):Int))),(54,.v (.bool false))])).cast (by rw [hp_,aZ]),af,aH⟩
    have jd:=of_decide_eq_false aY
    have e9:=dl.cast (env':=[(0,.v (.slice A l.length c)),(1,.v (.int .i64 v)),(2,.v (.bool flex)),(8,.p 0 0),(9,.p 1 0),(11,.v (.int .i64 ((k:Nat):Int))),(12,.p 2 0),(13,.p 3 0),(23,.v (.slice A l.length c)),(24,.v (.int .i64 ((l.length:Nat):Int))),(25,.v (.int .i64 ((k:Nat):Int))),(41,.v (.bool false)),(45,.v (.bool false))]) (by rw [aY])
    refine qaj [13,14,15,16,17,18,19,20,21] [] [(0,.v (.slice A l.length c)),(1,.v (.int .i64 v)),(2,.v (.bool flex)),(8,.p 0 0),(9,.p 1 0),(11,.v (.int .i64 ((k:Nat):Int))),(12,.p 2 0),(13,.p 3 0),(23,.v (.slice A l.length c)),(24,.v (.int .i64 ((l.length:Nat):Int))),(25,.v (.int .i64 ((k:Nat):Int))),(54,.v (.bool false))] af e9 fun kM fa=>?_
    refine qaf (qab ?_)
    have hp_:Fld.pres (Fld.mk aj ak al am ag ao aa ab) v flex (Tree.at_ (Tree.mk n1 s2 b3 l4 u5) k) = false:=by first | (first | exact qhd ‹_› ‹_› | exact qhe ‹_› ‹_› | exact qhf ‹_› ‹_›) | (exfalso; omega)
    exact ⟨(fa.pk (env':=[(0,.v (.slice A l.length c)),(1,.v (.int .i64 v)),(2,.v (.bool flex)),(8,.p 0 0),(9,.p 1 0),(11,.v (.int .i64 ((k:Nat):Int))),(12,.p 2 0),(13,.p 3 0),(23,.v (.slice A l.length c)),(24,.v (.int .i64 ((l.length:Nat):Int))),(25,.v (.int .i64 ((k:Nat):Int))),(54,.v (.bool false))])).cast (by rw [hp_]),af,aH⟩
   have je:=of_decide_eq_false aX
   have fb:=dh.cast (env':=[(0,.v (.slice A l.length c)),(1,.v (.int .i64 v)),(2,.v (.bool flex)),(8,.p 0 0),(9,.p 1 0),(11,.v (.int .i64 ((k:Nat):Int))),(12,.p 2 0),(13,.p 3 0),(23,.v (.slice A l.length c)),(24,.v (.int .i64 ((l.length:Nat):Int))),(25,.v (.int .i64 ((k:Nat):Int))),(36,.v (.bool false))]) (by rw [aX])
   refine qaj [4,5,6,7,8,9,10,11,12] [13,14,15,16,17,18,19,20,21] [(0,.v (.slice A l.length c)),(1,.v (.int .i64 v)),(2,.v (.bool flex)),(8,.p 0 0),(9,.p 1 0),(11,.v (.int .i64 ((k:Nat):Int))),(12,.p 2 0),(13,.p 3 0),(23,.v (.slice A l.length c)),(24,.v (.int .i64 ((l.length:Nat):Int))),(25,.v (.int .i64 ((k:Nat):Int))),(41,.v (.bool false)),(45,.v (.bool (decide (ag ≥ 0))))] ac fb fun kN dt=>?_
   refine (Bool.eq_false_or_eq_true (decide (ag ≥ 0))).elim (fun ba=>?_) (fun ba=>?_)
   ·
    have jf:=of_decide_eq_true ba
    have fe:=dt.cast (env':=[(0,.v (.slice A l.length c)),(1,.v (.int .i64 v)),(2,.v (.bool flex)),(8,.p 0 0),(9,.p 1 0),(11,.v (.int .i64 ((k:Nat):Int))),(12,.p 2 0),(13,.p 3 0),(23,.v (.slice A l.length c)),(24,.v (.int .i64 ((l.length:Nat):Int))),(25,.v (.int .i64 ((k:Nat):Int))),(41,.v (.bool false)),(45,.v (.bool true))]) (by rw [ba])
    refine qaj [13,14,15] [16,17,18,19,20,21] [(0,.v (.slice A l.length c)),(1,.v (.int .i64 v)),(2,.v (.bool flex)),(8,.p 0 0),(9,.p 1 0),(11,.v (.int .i64 ((k:Nat):Int))),(12,.p 2 0),(13,.p 3 0),(23,.v (.slice A l.length c)),(24,.v (.int .i64 ((l.length:Nat):Int))),(25,.v (.int .i64 ((k:Nat):Int))),(41,.v (.bool false)),(48,.v (.bool flex))] ac fe fun kO du=>?_
    refine (Bool.eq_false_or_eq_true (flex)).elim (fun bd=>?_) (fun bd=>?_)
    ·
     have ff:=du.cast (env':=[(0,.v (.slice A l.length c)),(1,.v (.int .i64 v)),(2,.v (.bool true)),(8,.p 0 0),(9,.p 1 0),(11,.v (.int .i64 ((k:Nat):Int))),(12,.p 2 0),(13,.p 3 0),(23,.v (.slice A l.length c)),(24,.v (.int .i64 ((l.length:Nat):Int))),(25,.v (.int .i64 ((k:Nat):Int))),(41,.v (.bool false)),(48,.v (.bool true))]) (by rw [bd])
     refine qaj [16,17] [18,19,20,21] [(0,.v (.slice A l.length c)),(1,.v (.int .i64 v)),(2,.v (.bool true)),(8,.p 0 0),(9,.p 1 0),(11,.v (.int .i64 ((k:Nat):Int))),(12,.p 2 0),(13,.p 3 0),(23,.v (.slice A l.length c)),(24,.v (.int .i64 ((l.length:Nat):Int))),(25,.v (.int .i64 ((k:Nat):Int))),(41,.v (.bool false)),(48,.v (.bool true)),(49,.v (.agg #[.int .i64 aj,.int .i64 ak,.int .i64 al,.int .i64 am,.int .i64 ag,.int .i64 ao,.int .i64 aa,.slice ap ab.length ar])),(50,.v (.agg #[.int .i64 aM,.slice aR aN.length aS,.bool aO,.slice aT aP.length aU,.slice aV aQ.length aW]))] ac ff fun kP fg=>?_
     refine qam (qal fg (f:=22) (vs:=[.agg #[.int .i64 aj,.int .i64 ak,.int .i64 al,.int .i64 am,.int .i64 ag,.int .i64 ao,.int .i64 aa,.slice ap ab.length ar],.agg #[.int .i64 aM,.slice aR aN.length aS,.bool aO,.slice aT aP.length aU,.slice aV aQ.length aW]]) (d:=51) kz Tryd.call22 (qg3 _ _ _ _ _ _ _ (bw.move ac.step nilM ac.imm) (Nat.le_refl _) (aL.move (aw.trans ax).step immM (aw.trans ax).to')) ?_)
     rintro e_ kQ ⟨rfl,dv⟩
     refine ⟨_,rfl,fun kR fh=>?_⟩
     have dw:=ac.next_nil dv
     have fi:=ac.frN dv
     refine qaj [19,20,21] [] [(0,.v (.slice A l.length c)),(1,.v (.int .i64 v)),(2,.v (.bool true)),(8,.p 0 0),(9,.p 1 0),(11,.v (.int .i64 ((k:Nat):Int))),(12,.p 2 0),(13,.p 3 0),(23,.v (.slice A l.length c)),(24,.v (.int .i64 ((l.length:Nat):Int))),(25,.v (.int .i64 ((k:Nat):Int))),(54,.v (.bool (!(Fld.usual (Fld.mk aj ak al am ag ao aa ab) (Tree.at_ (Tree.mk n1 s2 b3 l4 u5) k)))))] dw fh fun kS fj=>?_
     refine qaf (qab ?_)
     have hp_:Fld.pres (Fld.mk aj ak al am ag ao aa ab) v flex (Tree.at_ (Tree.mk n1 s2 b3 l4 u5) k) = !(Fld.usual (Fld.mk aj ak al am ag ao aa ab) (Tree.at_ (Tree.mk n1 s2 b3 l4 u5) k)):=by first | (first | exact qj5 ‹_› ‹_› | exact qj6 ‹_›) | (exfalso; omega)
     exact ⟨(fj.pk (env':=[(0,.v (.slice A l.length c)),(1,.v (.int .i64 v)),(2,.v (.bool true)),(8,.p 0 0),(9,.p 1 0),(11,.v (.int .i64 ((k:Nat):Int))),(12,.p 2 0),(13,.p 3 0),(23,.v (.slice A l.length c)),(24,.v (.int .i64 ((l.length:Nat):Int))),(25,.v (.int .i64 ((k:Nat):Int))),(54,.v (.bool (!(Fld.usual (Fld.mk aj ak al am ag ao aa ab) (Tree.at_ (Tree.mk n1 s2 b3 l4 u5) k)))))])).cast (by rw [hp_,bd]),dw,fi⟩
    have fk:=du.cast (env':=[(0,.v (.slice A l.length c)),(1,.v (.int .i64 v)),(2,.v (.bool false)),(8,.p 0 0),(9,.p 1 0),(11,.v (.int .i64 ((k:Nat):Int))),(12,.p 2 0),(13,.p 3 0),(23,.v (.slice A l.length c)),(24,.v (.int .i64 ((l.length:Nat):Int))),(25,.v (.int .i64 ((k:Nat):Int))),(41,.v (.bool false)),(48,.v (.bool false))]) (by rw [bd])
    refine qaj [16,17,18,19,20,21] [] [(0,.v (.slice A l.length c)),(1,.v (.int .i64 v)),(2,.v (.bool false)),(8,.p 0 0),(9,.p 1 0),(11,.v (.int .i64 ((k:Nat):Int))),(12,.p 2 0),(13,.p 3 0),(23,.v (.slice A l.length c)),(24,.v (.int .i64 ((l.length:Nat):Int))),(25,.v (.int .i64 ((k:Nat):Int))),(54,.v (.bool false))] ac fk fun kT fm=>?_
    refine qaf (qab ?_)
    have hp_:Fld.pres (Fld.mk aj ak al am ag ao aa ab) v flex (Tree.at_ (Tree.mk n1 s2 b3 l4 u5) k) = false:=by first | (first | exact qhd ‹_› ‹_› | exact qhe ‹_› ‹_› | exact qhf ‹_› ‹_›) | (exfalso; omega)
    exact ⟨(fm.pk (env':=[(0,.v (.slice A l.length c)),(1,.v (.int .i64 v)),(2,.v (.bool false)),(8,.p 0 0),(9,.p 1 0),(11,.v (.int .i64 ((k:Nat):Int))),(12,.p 2 0),(13,.p 3 0),(23,.v (.slice A l.length c)),(24,.v (.int .i64 ((l.length:Nat):Int))),(25,.v (.int .i64 ((k:Nat):Int))),(54,.v (.bool false))])).cast (by rw [hp_,bd]),ac,Fr.refl _ _ _⟩
   have jg:=of_decide_eq_false ba
   have fo:=dt.cast (env':=[(0,.v (.slice A l.length c)),(1,.v (.int .i64 v)),(2,.v (.bool flex)),(8,.p 0 0),(9,.p 1 0),(11,.v (.int .i64 ((k:Nat):Int))),(12,.p 2 0),(13,.p 3 0),(23,.v (.slice A l.length c)),(24,.v (.int .i64 ((l.length:Nat):Int))),(25,.v (.int .i64 ((k:Nat):Int))),(41,.v (.bool false)),(45,.v (.bool false))]) (by rw [ba])
   refine qaj [13,14,15,16,17,18,19,20,21] [] [(0,.v (.slice A l.length c)),(1,.v (.int .i64 v)),(2,.v (.bool flex)),(8,.p 0 0),(9,.p 1 0),(11,.v (.int .i64 ((k:Nat):Int))),(12,.p 2 0),(13,.p 3 0),(23,.v (.slice A l.length c)),(24,.v (.int .i64 ((l.length:Nat):Int))),(25,.v (.int .i64 ((k:Nat):Int))),(54,.v (.bool false))] ac fo fun kU fq=>?_
   refine qaf (qab ?_)
   have hp_:Fld.pres (Fld.mk aj ak al am ag ao aa ab) v flex (Tree.at_ (Tree.mk n1 s2 b3 l4 u5) k) = false:=by first | (first | exact qhd ‹_› ‹_› | exact qhe ‹_› ‹_› | exact qhf ‹_› ‹_›) | (exfalso; omega)
   exact ⟨(fq.pk (env':=[(0,.v (.slice A l.length c)),(1,.v (.int .i64 v)),(2,.v (.bool flex)),(8,.p 0 0),(9,.p 1 0),(11,.v (.int .i64 ((k:Nat):Int))),(12,.p 2 0),(13,.p 3 0),(23,.v (.slice A l.length c)),(24,.v (.int .i64 ((l.length:Nat):Int))),(25,.v (.int .i64 ((k:Nat):Int))),(54,.v (.bool false))])).cast (by rw [hp_]),ac,Fr.refl _ _ _⟩
  rintro kV kW ⟨bX,dx,bf⟩
  refine qay bX (b:=Fld.pres (Fld.mk aj ak al am ag ao aa ab) v flex (Tree.at_ (Tree.mk n1 s2 b3 l4 u5) k)) kz (fun fr=>?_) (fun fr=>?_)
  ·
   refine wp_seq ?_
   refine qaG 11 kz dx fun kX bY aC bZ=>?_
   refine qaD [0,1,2,3,4,5,6] [(0,.v (.slice A l.length c)),(1,.v (.int .i64 v)),(2,.v (.bool flex)),(8,.p 0 0),(9,.p 1 0),(23,.v (.slice A l.length c)),(24,.v (.int .i64 ((l.length:Nat):Int))),(25,.v (.int .i64 ((k:Nat):Int))),(55,.v (.agg #[.int .i64 aj,.int .i64 ak,.int .i64 al,.int .i64 am,.int .i64 ag,.int .i64 ao,.int .i64 aa,.slice ap ab.length ar])),(56,.v (.int .i64 v)),(57,.v (.bool flex)),(58,.v (.agg #[.int .i64 aM,.slice aR aN.length aS,.bool aO,.slice aT aP.length aU,.slice aV aQ.length aW])),(60,.v (.slice bH aF.length bO)),(61,.v (.int .i64 ((k:Nat):Int)))] 4 (qaa (qaa (qaa (qac (qaa (qaa (qac (qaa qad)))))))) (fun _ h=>h.cells) bZ bX fun kY ft=>?_
   obtain ⟨iu,iv,fu,jh,b8⟩:=Slots.get g9 (i:=k) (by first | omega | (have h_:=qb0 hgu ‹_›; omega))
   obtain ⟨iw,dy⟩:∃ x,aF[k]? = some x:=⟨_,List.getElem?_eq_getElem (by omega)⟩
   have ca:=iQ k iw dy
   obtain ⟨cR,cS,cT,cU,cV,eh,ei,ej,ek,em,eo,ji,rfl,cb,ix,iy,kZ,k5⟩:=ca.open_
   rw [cb] at ca
   have iz:=ix.small
   have iA:=iy.small
   rw [cb] at b8
   refine qaH ft (i:=7) (t:=23) (A:=bH) (m:=aF.length) (q:=((k:Nat):Int)) (d:=62) kz (e:=26) (size:=5) (bytes:=88) kz fu rfl (by first | omega | (have h_:=qb0 hgu ‹_›; omega)) kz kz (qaa (qaa (qaa (qac (qaa (qaa (qac (qaa qad)))))))) bZ fun k6 fv=>?_
   refine qaT fv (i:=8) (t:=26) (b:=iu) (o:=iv + k * 5) (d:=63) kz (cs:=[.int .i64 cR,.slice eh cS.length ei,.bool cT,.slice ej cU.length ek,.slice em cV.length eo]) (v:=.agg #[.int .i64 cR,.slice eh cS.length ei,.bool cT,.slice ej cU.length ek,.slice em cV.length eo]) kz (fun w' h'=>(AtF.move b8 (TT.step0 aC h') nilM qaX).at_) kz kz (qaa (qaa (qaa (qac (qaa (qaa (qac (qaa qad)))))))) bZ fun k7 fw=>?_
   refine qaw (i:=9) kz (qal fw (f:=23) (vs:=[.agg #[.int .i64 aj,.int .i64 ak,.int .i64 al,.int .i64 am,.int .i64 ag,.int .i64 ao,.int .i64 aa,.slice ap ab.length ar],.int .i64 v,.bool flex,.agg #[.int .i64 aM,.slice aR aN.length aS,.bool aO,.slice aT aP.length aU,.slice aV aQ.length aW],.agg #[.int .i64 cR,.slice eh cS.length ei,.bool cT,.slice ej cU.length ek,.slice em cV.length eo]]) (d:=64) kz Tryd.call23 ( qlp hT _ _ _ (Tree.at_ (Tree.mk n1 s2 b3 l4 u5) k) _ (Tree.mk cR cS cT cU cV) _ _ (bw.move aC.step nilM aC.imm) (qe9 hpl (List.mem_of_getElem? bQ)) (aL.move (((aw.trans ax).trans bf).trans bY).step immM (((aw.trans ax).trans bf).trans bY).to') (ca.move aC.step nilM aC.imm) ((hP.2.1 k _ _ bQ dy).1 ‹_›)) ?_)
   rintro e_ k8 ⟨rfl,dA⟩
   refine ⟨_,rfl,fun k9 fx=>?_⟩
   have cc:=aC.next_nil dA
   have dB:=aC.frN dA
   have dC:=TT.ofW dB cc
   refine ⟨fun _=>dC,?_⟩
   refine qaD [10] [(0,.v (.slice A l.length c)),(1,.v (.int .i64 v)),(2,.v (.bool flex)),(8,.p 0 0),(9,.p 1 0),(23,.v (.slice A l.length c)),(24,.v (.int .i64 ((l.length:Nat):Int))),(25,.v (.int .i64 ((k:Nat):Int))),(65,.v (.bool false))] 0 (qaa (qaa (qaa (qac (qaa (qaa (qac (qaa qad)))))))) (fun _ h=>h.cells) dC fx fun la dD=>?_
   refine qaF kz ?_ _
   refine qab ?_
   refine qap dD (b:=false) kz rfl ?_
   refine wp_skip ?_
   refine qab ?_
   refine wp_exit ?_
   refine qaB ?_
   refine qaL ?_
   refine qab ?_
   refine qat [0,1] kz ?_
   refine qaj [0,1] [] [(0,.v (.slice A l.length c)),(1,.v (.int .i64 v)),(2,.v (.bool flex)),(8,.p 0 0),(9,.p 1 0),(23,.v (.slice A l.length c)),(24,.v (.int .i64 ((l.length:Nat):Int))),(25,.v (.int .i64 (IntKind.i64.wrap (((k:Nat):Int) + 1))))] cc dD fun lb fy=>?_
   refine qaf (qab ?_)
   obtain ⟨dE,fz,fA⟩:=cc.cutB fy 2 [⟨dc,0,[.int .i64 n1,.slice A6 s2.length c7,.bool b3,.slice A8 l4.length c9,.slice bF u5.length bG],true⟩,⟨de,0,[.int .i64 cM,.slice cP cN.length cQ,.bool cO,.slice bH aF.length bO,.slice bI aB.length bP],true⟩] [(0,.v (.slice A l.length c)),(1,.v (.int .i64 v)),(2,.v (.bool flex)),(8,.p 0 0),(9,.p 1 0),(23,.v (.slice A l.length c)),(24,.v (.int .i64 ((l.length:Nat):Int))),(25,.v (.int .i64 (IntKind.i64.wrap (((k:Nat):Int) + 1))))]
   have fB:IntKind.i64.wrap (((k:Nat):Int) + 1) = ((k + 1:Nat):Int):=qaN (by omega)
   rw [fB] at dE
   exact ⟨l.length - (k + 1),by omega,k + 1,rfl,by omega,dE.pk,fz,(((((((((ee.trans bS).trans bT).trans bV).trans aw).trans ax).trans bf).trans bY).trans dB).trans fA)⟩
  refine wp_skip ?_
  refine qab ?_
  refine qaG 11 kz dx fun lc dF cd ce=>?_
  refine qaD [0,2,3,4] [(0,.v (.slice A l.length c)),(1,.v (.int .i64 v)),(2,.v (.bool flex)),(8,.p 0 0),(9,.p 1 0),(23,.v (.slice A l.length c)),(24,.v (.int .i64 ((l.length:Nat):Int))),(25,.v (.int .i64 ((k:Nat):Int))),(66,.v (.agg #[.int .i64 aj,.int .i64 ak,.int .i64 al,.int .i64 am,.int .i64 ag,.int .i64 ao,.int .i64 aa,.slice ap ab.length ar])),(69,.v (.slice bH aF.length bO)),(70,.v (.int .i64 ((k:Nat):Int)))] 7 (qaa (qac (qaa (qaa (qac (qaa qad)))))) (fun _ h=>h.cells) ce bX fun ld fC=>?_
  obtain ⟨iB,iC,fD,jj,cm⟩:=Slots.get g9 (i:=k) (by first | omega | (have h_:=qb0 hgu ‹_›; omega))
  obtain ⟨iD,cq⟩:∃ x,aF[k]? = some x:=⟨_,List.getElem?_eq_getElem (by omega)⟩
  have bB:=iQ k iD cq
  obtain ⟨bJ,bK,bL,bM,bN,cW,cX,cY,cZ,c5,c6,jk,rfl,cr,iE,iF,lf,lg⟩:=bB.open_
  rw [cr] at bB
  have iG:=iE.small
  have iH:=iF.small
  rw [cr] at cm
  refine qaH fC (i:=5) (t:=23) (A:=bH) (m:=aF.length) (q:=((k:Nat):Int)) (d:=71) kz (e:=26) (size:=5) (bytes:=88) kz fD rfl (by first | omega | (have h_:=qb0 hgu ‹_›; omega)) kz kz (qaa (qac (qaa (qaa (qac (qaa qad)))))) ce fun lh fE=>?_
  refine qaT fE (i:=6) (t:=26) (b:=iB) (o:=iC + k * 5) (d:=72) kz (cs:=[.int .i64 bJ,.slice cW bK.length cX,.bool bL,.slice cY bM.length cZ,.slice c5 bN.length c6]) (v:=.agg #[.int .i64 bJ,.slice cW bK.length cX,.bool bL,.slice cY bM.length cZ,.slice c5 bN.length c6]) kz (fun w' h'=>(AtF.move cm (TT.step0 cd h') nilM qaX).at_) kz kz (qaa (qac (qaa (qaa (qac (qaa qad)))))) ce fun li dG=>?_
  refine qd7 (i:=1) (j:=7) kz ?_ ?_
  ·
   refine (qbw cd dG (e:=51) (size:=8) (len:=1) (cs:=[.int .i64 aj,.int .i64 ak,.int .i64 al,.int .i64 am,.int .i64 ag,.int .i64 ao,.int .i64 aa,.slice ap ab.length ar]) (d:=67) kz kz fun fF lj lm jl jm bC dH fG=>?_)
   have fH:=TT.ofW bC dH
   refine ⟨fun _=>fH,?_⟩
   refine qaw (i:=7) kz (qbw dH fG (e:=26) (size:=5) (len:=1) (cs:=[.int .i64 bJ,.slice cW bK.length cX,.bool bL,.slice cY bM.length cZ,.slice c5 bN.length c6]) (d:=73) kz kz fun fI ln lp jn jo cu ay fJ=>?_)
   have dI:=TT.ofW (bC.trans cu) ay
   refine ⟨fun _=>dI,?_⟩
   refine qaD [8] [(0,.v (.slice A l.length c)),(1,.v (.int .i64 v)),(2,.v (.bool flex)),(8,.p 0 0),(9,.p 1 0),(23,.v (.slice A l.length c)),(24,.v (.int .i64 ((l.length:Nat):Int))),(25,.v (.int .i64 ((k:Nat):Int))),(67,.v (.slice (some ⟨fF,0,none⟩) 1 1)),(74,.v (.agg #[.int .i64 0,.slice none 0 0,.bool false,.slice (some ⟨fI,0,none⟩) 1 1,.slice none 0 0]))] 2 (qaa (qac (qaa (qaa (qac (qaa qad)))))) (fun _ h=>h.cells) dI fJ fun lq fK=>?_
   refine qaw (i:=9) kz (qal fK (f:=24) (vs:=[.slice (some ⟨fF,0,none⟩) 1 1,.agg #[.int .i64 0,.slice none 0 0,.bool false,.slice (some ⟨fI,0,none⟩) 1 1,.slice none 0 0]]) (d:=75) kz Tryd.call24 ( sUs hU _ _ [(Fld.mk aj ak al am ag ao aa ab)] _ (.mk 0 [] false [(Tree.mk bJ bK bL bM bN)] []) _ _ (qhg (ay.own 0 _ rfl) ((bw.move ay.step nilM ay.imm)) (Nat.le_refl _)) (qhh (ay.own 1 _ rfl) ((bB.move ay.step nilM ay.imm)) (Nat.le_refl _)) (qj3 ((hP.2.1 k _ _ bQ cq).2 ‹_›))) ?_)
   rintro e_ lr ⟨rfl,dJ⟩
   refine ⟨_,rfl,fun ls fL=>?_⟩
   have cw:=ay.next_nil dJ
   have dK:=ay.frN dJ
   have dL:=TT.ofW ((bC.trans cu).trans dK) cw
   refine ⟨fun _=>dL,?_⟩
   refine qaD [10] [(0,.v (.slice A l.length c)),(1,.v (.int .i64 v)),(2,.v (.bool flex)),(8,.p 0 0),(9,.p 1 0),(23,.v (.slice A l.length c)),(24,.v (.int .i64 ((l.length:Nat):Int))),(25,.v (.int .i64 ((k:Nat):Int))),(76,.v (.bool false))] 0 (qaa (qac (qaa (qaa (qac (qaa qad)))))) (fun _ h=>h.cells) dL fL fun lu dM=>?_
   refine qaF kz ?_ _
   refine qab ?_
   refine qap dM (b:=false) kz rfl ?_
   refine wp_skip ?_
   refine qaq ?_
   refine qab ?_
   refine qat [0,1] kz ?_
   refine qaj [0,1] [] [(0,.v (.slice A l.length c)),(1,.v (.int .i64 v)),(2,.v (.bool flex)),(8,.p 0 0),(9,.p 1 0),(23,.v (.slice A l.length c)),(24,.v (.int .i64 ((l.length:Nat):Int))),(25,.v (.int .i64 (IntKind.i64.wrap (((k:Nat):Int) + 1))))] cw dM fun lv fM=>?_
   refine qaf (qab ?_)
   obtain ⟨dN,fN,fO⟩:=cw.cutB fM 2 [⟨dc,0,[.int .i64 n1,.slice A6 s2.length c7,.bool b3,.slice A8 l4.length c9,.slice bF u5.length bG],true⟩,⟨de,0,[.int .i64 cM,.slice cP cN.length cQ,.bool cO,.slice bH aF.length bO,.slice bI aB.length bP],true⟩] [(0,.v (.slice A l.length c)),(1,.v (.int .i64 v)),(2,.v (.bool flex)),(8,.p 0 0),(9,.p 1 0),(23,.v (.slice A l.length c)),(24,.v (.int .i64 ((l.length:Nat):Int))),(25,.v (.int .i64 (IntKind.i64.wrap (((k:Nat):Int) + 1))))]
   obtain ⟨fP,fQ⟩:=fN.cutR 0 []
   have fR:IntKind.i64.wrap (((k:Nat):Int) + 1) = ((k + 1:Nat):Int):=qaN (by omega)
   rw [fR] at dN
   exact ⟨l.length - (k + 1),by omega,k + 1,rfl,by omega,dN.pk,fP,((((((((((((ee.trans bS).trans bT).trans bV).trans aw).trans ax).trans bf).trans dF).trans bC).trans cu).trans dK).trans fO).trans fQ)⟩
  refine (qbw cd dG (e:=26) (size:=5) (len:=1) (cs:=[.int .i64 bJ,.slice cW bK.length cX,.bool bL,.slice cY bM.length cZ,.slice c5 bN.length c6]) (d:=73) kz kz fun fS lw lx jp jq bD dO fT=>?_)
  have dP:=TT.ofW bD dO
  refine ⟨fun _=>dP,?_⟩
  refine qaD [8] [(0,.v (.slice A l.length c)),(1,.v (.int .i64 v)),(2,.v (.bool flex)),(8,.p 0 0),(9,.p 1 0),(23,.v (.slice A l.length c)),(24,.v (.int .i64 ((l.length:Nat):Int))),(25,.v (.int .i64 ((k:Nat):Int))),(66,.v (.agg #[.int .i64 aj,.int .i64 ak,.int .i64 al,.int .i64 am,.int .i64 ag,.int .i64 ao,.int .i64 aa,.slice ap ab.length ar])),(74,.v (.agg #[.int .i64 0,.slice none 0 0,.bool false,.slice (some ⟨fS,0,none⟩) 1 1,.slice none 0 0]))] 3 (qaa (qac (qaa (qaa (qac (qaa qad)))))) (fun _ h=>h.cells) dP fT fun ly fU=>?_
  refine qaw (i:=1) kz (qbw dO fU (e:=51) (size:=8) (len:=1) (cs:=[.int .i64 aj,.int .i64 ak,.int .i64 al,.int .i64 am,.int .i64 ag,.int .i64 ao,.int .i64 aa,.slice ap ab.length ar]) (d:=67) kz kz fun iI lz lA jr js cz az fV=>?_)
  have fW:=TT.ofW (bD.trans cz) az
  refine ⟨fun _=>fW,?_⟩
  refine qaw (i:=9) kz (qal fV (f:=24) (vs:=[.slice (some ⟨iI,0,none⟩) 1 1,.agg #[.int .i64 0,.slice none 0 0,.bool false,.slice (some ⟨fS,0,none⟩) 1 1,.slice none 0 0]]) (d:=75) kz Tryd.call24 ( sUs hU _ _ [(Fld.mk aj ak al am ag ao aa ab)] _ (.mk 0 [] false [(Tree.mk bJ bK bL bM bN)] []) _ _ (qhg (az.own 1 _ rfl) ((bw.move az.step nilM az.imm)) (Nat.le_refl _)) (qhh (az.own 0 _ rfl) ((bB.move az.step nilM az.imm)) (Nat.le_refl _)) (qj3 ((hP.2.1 k _ _ bQ cq).2 ‹_›))) ?_)
  rintro e_ lB ⟨rfl,dQ⟩
  refine ⟨_,rfl,fun lC fX=>?_⟩
  have cA:=az.next_nil dQ
  have dR:=az.frN dQ
  have dS:=TT.ofW ((bD.trans cz).trans dR) cA
  refine ⟨fun _=>dS,?_⟩
  refine qaD [10] [(0,.v (.slice A l.length c)),(1,.v (.int .i64 v)),(2,.v (.bool flex)),(8,.p 0 0),(9,.p 1 0),(23,.v (.slice A l.length c)),(24,.v (.int .i64 ((l.length:Nat):Int))),(25,.v (.int .i64 ((k:Nat):Int))),(76,.v (.bool false))] 0 (qaa (qac (qaa (qaa (qac (qaa qad)))))) (fun _ h=>h.cells) dS fX fun lD dT=>?_
  refine qaF kz ?_ _
  refine qab ?_
  refine qap dT (b:=false) kz rfl ?_
  refine wp_skip ?_
  refine qaq ?_
  refine qab ?_
  refine qat [0,1] kz ?_
  refine qaj [0,1] [] [(0,.v (.slice A l.length c)),(1,.v (.int .i64 v)),(2,.v (.bool flex)),(8,.p 0 0),(9,.p 1 0),(23,.v (.slice A l.length c)),(24,.v (.int .i64 ((l.length:Nat):Int))),(25,.v (.int .i64 (IntKind.i64.wrap (((k:Nat):Int) + 1))))] cA dT fun lE fY=>?_
  refine qaf (qab ?_)
  obtain ⟨dU,fZ,f5⟩:=cA.cutB fY 2 [⟨dc,0,[.int .i64 n1,.slice A6 s2.length c7,.bool b3,.slice A8 l4.length c9,.slice bF u5.length bG],true⟩,⟨de,0,[.int .i64 cM,.slice cP cN.length cQ,.bool cO,.slice bH aF.length bO,.slice bI aB.length bP],true⟩] [(0,.v (.slice A l.length c)),(1,.v (.int .i64 v)),(2,.v (.bool flex)),(8,.p 0 0),(9,.p 1 0),(23,.v (.slice A l.length c)),(24,.v (.int .i64 ((l.length:Nat):Int))),(25,.v (.int .i64 (IntKind.i64.wrap (((k:Nat):Int) + 1))))]
  obtain ⟨f7,f8⟩:=fZ.cutR 0 []
  have f9:IntKind.i64.wrap (((k:Nat):Int) + 1) = ((k + 1:Nat):Int):=qaN (by omega)
  rw [f9] at dU
  exact ⟨l.length - (k + 1),by omega,k + 1,rfl,by omega,dU.pk,f7,((((((((((((ee.trans bS).trans bT).trans bV).trans aw).trans ax).trans bf).trans dF).trans bD).trans cz).trans dR).trans f5).trans f8)⟩
 have jt:=of_decide_eq_false eg
 refine wp_exit ?_
 refine qaB ?_
 refine qaB ?_
 refine qaL ?_
 refine qab ?_
 refine qag [0,1,2,3,4] kz ?_
 refine qaj [0,1,2] [3,4] [(2,.v (.bool flex)),(9,.p 1 0),(78,.v (.slice A l.length c)),(80,.v (.slice bF u5.length bG))] av ef fun lF ga=>?_
 refine qam (qal ga (f:=25) (vs:=[.slice A l.length c,.slice bF u5.length bG]) (d:=81) kz Tryd.call25 (qfw _ _ l _ _ u5 _ _ ⟨xfs,(h1.move av.step nilM av.imm),(fun i_ x_ h_=>((h2 i_ x_ h_).move av.step nilM av.imm))⟩ (jQ.move av.step nilM av.imm)) ?_)
 rintro e_ lG ⟨ah,ai,rfl,gb,cB⟩
 have gc:=gb.move (Step.refl _ Nil) nilM (av.laid (G:=F) cB)
 refine ⟨_,rfl,fun lH gd=>?_⟩
 have ae:=av.next_nil cB
 have ju:=av.frN cB
 refine qaj [4] [] [(2,.v (.bool flex)),(9,.p 1 0),(14,.v (.slice ah ((qai l u5).length) ai))] ae gd fun lI ge=>?_
 refine qaf (qab ?_)
 refine wp_seq ?_
 refine qar [(9,.p 1 0),(14,.v (.slice ah ((qai l u5).length) ai)),(83,.v (.bool (!flex)))] ae ge fun lJ cC=>?_
 refine qay cC (b:=!flex) kz (fun gg=>?_) (fun gg=>?_)
 ·
  refine qat [0] kz ?_
  refine qaj [0] [] [(9,.p 1 0),(14,.v (.slice none 0 0))] ae cC fun lK gh=>?_
  refine qaf (qab ?_)
  refine wp_seq ?_
  refine qar [(9,.p 1 0),(14,.v (.slice none 0 0)),(89,.v (.bool (((aB.length:Nat):Int) != 0)))] ae gh fun lL cD=>?_
  refine qay cD (b:=((aB.length:Nat):Int) != 0) kz (fun cE=>?_) (fun cE=>?_)
  ·
   have jv:((aB.length:Nat):Int) ≠ 0:=by simpa using cE
   refine qar [(10,.v (.bool false))] ae cD fun lM gi=>?_
   refine wp_ret ?_
   refine qao ?_
   refine qaJ gi ae.cells (v:=.bool false) kz ?_
   first
    | (exfalso; omega)
    | exact (qd8 hgu ‹_› ‹_›).elim
    | exact (qc9 hgu ‹_› ‹_›).elim
    | exact (qd9 hgu ‹_› ‹_› ‹_› ‹_›).elim
    | exact (qea hgu ‹_› ‹_› ‹_› ‹_›).elim
    | (exfalso; simp_all; done)
  have jw:((aB.length:Nat):Int) = 0:=by simpa using cE
  refine wp_skip ?_
  refine qab ?_
  refine wp_seq ?_
  refine qar [(9,.p 1 0),(90,.v (.slice none 0 0)),(91,.v (.int .i64 0)),(92,.v (.int .i64 0))] ae cD fun lN gj=>?_
  refine wp_block ?_
  refine wp_loop_ghost (fun n_ a_ w_=>∃ (k:Nat),n_ = 0 - k ∧ k ≤ 0 ∧ LInv ae 120 [⟨dc,0,[.int .i64 n1,.slice A6 s2.length c7,.bool b3,.slice A8 l4.length c9,.slice bF u5.length bG],true⟩,⟨de,0,[.int .i64 cM,.slice cP cN.length cQ,.bool cO,.slice bH aF.length bO,.slice bI aB.length bP],true⟩] [] [(9,.p 1 0),(90,.v (.slice none 0 0)),(91,.v (.int .i64 0)),(92,.v (.int .i64 ((k:Nat):Int)))] a_ w_) (0) ⟨0,by omega,by omega,gj.pk,ae,Fr.refl _ _ _⟩ ?_
  rintro lO lP lQ ⟨k,jx,jy,gk,bE,jz⟩
  refine qar [(9,.p 1 0),(90,.v (.slice none 0 0)),(91,.v (.int .i64 0)),(92,.v (.int .i64 ((k:Nat):Int))),(93,.v (.bool (decide (((k:Nat):Int) < 0))))] bE gk fun lR dV=>?_
  refine wp_seq ?_
  refine qap dV (b:=decide (((k:Nat):Int) < 0)) kz (decide_eq_false (by omega)) ?_
  refine wp_exit ?_
  refine qaB ?_
  refine qaB ?_
  refine qaL ?_
  refine qab ?_
  refine qar [(10,.v (.bool true))] bE dV fun lS gl=>?_
  refine wp_ret ?_
  refine qaJ gl bE.cells (v:=.bool true) kz ?_
  exact ⟨rfl,bE.step⟩
 refine wp_skip ?_
 refine qab ?_
 refine wp_seq ?_
 refine qar [(9,.p 1 0),(14,.v (.slice ah ((qai l u5).length) ai)),(89,.v (.bool (((aB.length:Nat):Int) != (((qai l u5).length:Nat):Int))))] ae cC fun lT cG=>?_
 refine qay cG (b:=((aB.length:Nat):Int) != (((qai l u5).length:Nat):Int)) kz (fun cH=>?_) (fun cH=>?_)
 ·
  have jA:((aB.length:Nat):Int) ≠ (((qai l u5).length:Nat):Int):=by simpa using cH
  refine qar [(10,.v (.bool false))] ae cG fun lU gm=>?_
  refine wp_ret ?_
  refine qao ?_
  refine qaJ gm ae.cells (v:=.bool false) kz ?_
  first
   | (exfalso; omega)
   | exact (qd8 hgu ‹_› ‹_›).elim
   | exact (qc9 hgu ‹_› ‹_›).elim
   | exact (qd9 hgu ‹_› ‹_› ‹_› ‹_›).elim
   | exact (qea hgu ‹_› ‹_› ‹_› ‹_›).elim
   | (exfalso; simp_all; done)
 have jB:((aB.length:Nat):Int) = (((qai l u5).length:Nat):Int):=by simpa using cH
 refine wp_skip ?_
 refine qab ?_
 refine wp_seq ?_
 refine qar [(9,.p 1 0),(90,.v (.slice ah ((qai l u5).length) ai)),(91,.v (.int .i64 (((qai l u5).length:Nat):Int))),(92,.v (.int .i64 0))] ae cG fun lV gn=>?_
 refine wp_block ?_
 obtain ⟨jC,gp,iJ⟩:=gc.ex
 have iK:=gp.small
 refine wp_loop_ghost (fun n_ a_ w_=>∃ (k:Nat),n_ = (qai l u5).length - k ∧ k ≤ (qai l u5).length ∧ LInv ae 120 [⟨dc,0,[.int .i64 n1,.slice A6 s2.length c7,.bool b3,.slice A8 l4.length c9,.slice bF u5.length bG],true⟩,⟨de,0,[.int .i64 cM,.slice cP cN.length cQ,.bool cO,.slice bH aF.length bO,.slice bI aB.length bP],true⟩] [] [(9,.p 1 0),(90,.v (.slice ah ((qai l u5).length) ai)),(91,.v (.int .i64 (((qai l u5).length:Nat):Int))),(92,.v (.int .i64 ((k:Nat):Int)))] a_ w_) ((qai l u5).length) ⟨0,by omega,by omega,gn.pk,ae,Fr.refl _ _ _⟩ ?_
 rintro lW lX lY ⟨k,jD,jE,gq,aI,aD⟩
 refine qar [(9,.p 1 0),(90,.v (.slice ah ((qai l u5).length) ai)),(91,.v (.int .i64 (((qai l u5).length:Nat):Int))),(92,.v (.int .i64 ((k:Nat):Int))),(93,.v (.bool (decide (((k:Nat):Int) < (((qai l u5).length:Nat):Int)))))] aI gq fun lZ cI=>?_
 refine wp_seq ?_
 refine qay cI (b:=decide (((k:Nat):Int) < (((qai l u5).length:Nat):Int))) kz (fun cJ=>?_) (fun cJ=>?_)
 ·
  have jF:=of_decide_eq_true cJ
  refine wp_skip ?_
  refine qab ?_
  refine wp_seq ?_
  refine wp_block ?_
  refine qag [0,1,2,3,4,5] kz ?_
  refine qaj [0] [1,2,3,4,5] [(9,.p 1 0),(90,.v (.slice ah ((qai l u5).length) ai)),(91,.v (.int .i64 (((qai l u5).length:Nat):Int))),(92,.v (.int .i64 ((k:Nat):Int))),(94,.v (.int .i64 ((k:Nat):Int)))] aI cI fun l0 gt=>?_
  obtain ⟨iL,iM,gv,jG,cK⟩:=Slots.get gp (i:=k) (by first | omega | (have h_:=qb0 hgu ‹_›; omega))
  obtain ⟨⟨aE,aA⟩,gw⟩:∃ x,(qai l u5)[k]? = some x:=⟨_,List.getElem?_eq_getElem (by omega)⟩
  obtain ⟨⟨bg,bh,ep,dW⟩,l3,l5⟩:=iJ k aE aA gw
  rw [ep] at cK
  refine qam (qaC gt (t:=24) (A:=ah) (m:=((qai l u5).length)) (q:=((k:Nat):Int)) (d:=95) kz (e:=65) (size:=2) (bytes:=32) kz gv rfl (by first | omega | (have h_:=qb0 hgu ‹_›; omega)) fun l6 gx=>?_)
  refine qam (qaM gx (t:=65) (b:=iL) (o:=iM + k * 2) (d:=96) kz (cs:=[.int .u32 aE,.slice bg aA.length bh]) (v:=.agg #[.int .u32 aE,.slice bg aA.length bh]) kz (AtF.move cK aD.step immM aD.to').at_ fun l7 gy=>?_)
  refine qam (qaR aI gy (d:=16) (cs:=[.int .u32 0,.slice none 0 0]) kz fun l9 ma mc jH jI bj dX gz=>?_)
  refine qaj [4] [5] [(9,.p 1 0),(15,.v (.int .i64 ((k:Nat):Int))),(16,.p 2 0),(90,.v (.slice ah ((qai l u5).length) ai)),(91,.v (.int .i64 (((qai l u5).length:Nat):Int))),(92,.v (.int .i64 ((k:Nat):Int))),(96,.v (.agg #[.int .u32 aE,.slice bg aA.length bh]))] dX gz fun md gA=>?_
  refine qam (qav dX gA (oi:=2) (cs:=[.int .u32 aE,.slice bg aA.length bh]) kz fun me bk gB gC=>?_)
  refine qaf (qab ?_)
  refine qaG 22 kz gB fun mf bn aJ au=>?_
  refine qaD [0,1,2,6,7] [(9,.p 1 0),(15,.v (.int .i64 ((k:Nat):Int))),(16,.p 2 0),(90,.v (.slice ah ((qai l u5).length) ai)),(91,.v (.int .i64 (((qai l u5).length:Nat):Int))),(92,.v (.int .i64 ((k:Nat):Int))),(98,.v (.slice bI aB.length bP)),(99,.v (.int .i64 ((k:Nat):Int))),(104,.v (.int .u32 aE))] 17 (qaa (qac (qaa (qaa (qac (qaa qad)))))) (fun _ h=>h.cells) au gC fun mg gD=>?_
  obtain ⟨da,db,dY,jJ,bx⟩:=Slots.get iT (i:=k) (by first | omega | (have h_:=qb0 hgu ‹_›; omega))
  obtain ⟨⟨bz,bA⟩,gE⟩:∃ x,aB[k]? = some x:=⟨_,List.getElem?_eq_getElem (by omega)⟩
  obtain ⟨⟨eu,ev,ew,gF⟩,mh,mj⟩:=jV k bz bA gE
  rw [ew] at bx
  refine qaH gD (i:=3) (t:=24) (A:=bI) (m:=aB.length) (q:=((k:Nat):Int)) (d:=100) kz (e:=65) (size:=2) (bytes:=32) kz dY rfl (by first | omega | (have h_:=qb0 hgu ‹_›; omega)) kz kz (qaa (qac (qaa (qaa (qac (qaa qad)))))) au fun ml gG=>?_
  refine qaD [4] [(9,.p 1 0),(15,.v (.int .i64 ((k:Nat):Int))),(16,.p 2 0),(90,.v (.slice ah ((qai l u5).length) ai)),(91,.v (.int .i64 (((qai l u5).length:Nat):Int))),(92,.v (.int .i64 ((k:Nat):Int))),(101,.v (.pointer (some ⟨da,db + k * 2,none⟩))),(104,.v (.int .u32 aE))] 15 (qaa (qac (qaa (qaa (qac (qaa qad)))))) (fun _ h=>h.cells) au gG fun mn gH=>?_
  refine qaT gH (i:=5) (t:=63) (b:=da) (o:=db + k * 2) (d:=102) kz (cs:=[.int .u32 bz]) (v:=.int .u32 bz) kz (fun w' h'=>(At.drop (AtF.move bx (TT.step0 aJ h') nilM qaX).at_ 0 1)) kz kz (qaa (qac (qaa (qaa (qac (qaa qad)))))) au fun mo gI=>?_
  refine qaD [8,9] [(9,.p 1 0),(15,.v (.int .i64 ((k:Nat):Int))),(16,.p 2 0),(90,.v (.slice ah ((qai l u5).length) ai)),(91,.v (.int .i64 (((qai l u5).length:Nat):Int))),(92,.v (.int .i64 ((k:Nat):Int))),(106,.v (.bool (bz != aE)))] 12 (qaa (qac (qaa (qaa (qac (qaa qad)))))) (fun _ h=>h.cells) au gI fun mp dZ=>?_
  refine (Bool.eq_false_or_eq_true (bz != aE)).elim (fun bo=>?_) (fun bo=>?_)
  ·
   have jK:bz ≠ aE:=by simpa using bo
   have gJ:=dZ.cast (env':=[(9,.p 1 0),(15,.v (.int .i64 ((k:Nat):Int))),(16,.p 2 0),(90,.v (.slice ah ((qai l u5).length) ai)),(91,.v (.int .i64 (((qai l u5).length:Nat):Int))),(92,.v (.int .i64 ((k:Nat):Int))),(106,.v (.bool true))]) (by rw [bo])
   refine qaD [10,11,12,13,14,15,16,17,18,19,20,21] [(9,.p 1 0),(90,.v (.slice ah ((qai l u5).length) ai)),(91,.v (.int .i64 (((qai l u5).length:Nat):Int))),(92,.v (.int .i64 ((k:Nat):Int))),(118,.v (.bool true))] 0 (qaa (qac (qaa (qaa (qac (qaa qad)))))) (fun _ h=>h.cells) au gJ fun mq d5=>?_
   refine qaF kz ?_ _
   refine qab ?_
   refine qaU d5 (b:=true) kz rfl ?_
   refine qar [(10,.v (.bool false))] aJ d5 fun mr gK=>?_
   refine wp_ret ?_
   refine qax ?_
   refine qao ?_
   refine qao ?_
   refine qax ?_
   refine qao ?_
   refine qaJ gK aJ.cells (v:=.bool false) kz ?_
   first
    | (exfalso; omega)
    | exact (qd8 hgu ‹_› ‹_›).elim
    | exact (qc9 hgu ‹_› ‹_›).elim
    | exact (qd9 hgu ‹_› ‹_› ‹_› ‹_›).elim
    | exact (qea hgu ‹_› ‹_› ‹_› ‹_›).elim
    | (exfalso; simp_all; done)
  have jL:bz = aE:=by simpa using bo
  have gL:=dZ.cast (env':=[(9,.p 1 0),(15,.v (.int .i64 ((k:Nat):Int))),(16,.p 2 0),(90,.v (.slice ah ((qai l u5).length) ai)),(91,.v (.int .i64 (((qai l u5).length:Nat):Int))),(92,.v (.int .i64 ((k:Nat):Int))),(106,.v (.bool false))]) (by rw [bo])
  refine qaD [10,11,12,16,17] [(9,.p 1 0),(90,.v (.slice ah ((qai l u5).length) ai)),(91,.v (.int .i64 (((qai l u5).length:Nat):Int))),(92,.v (.int .i64 ((k:Nat):Int))),(106,.v (.bool false)),(108,.v (.slice bI aB.length bP)),(109,.v (.int .i64 ((k:Nat):Int))),(114,.v (.slice bg aA.length bh))] 7 (qaa (qac (qaa (qaa (qac (qaa qad)))))) (fun _ h=>h.cells) au gL fun mt gM=>?_
  refine qaH gM (i:=13) (t:=24) (A:=bI) (m:=aB.length) (q:=((k:Nat):Int)) (d:=110) kz (e:=65) (size:=2) (bytes:=32) kz dY rfl (by first | omega | (have h_:=qb0 hgu ‹_›; omega)) kz kz (qaa (qac (qaa (qaa (qac (qaa qad)))))) au fun mu gN=>?_
  refine qaD [14] [(9,.p 1 0),(90,.v (.slice ah ((qai l u5).length) ai)),(91,.v (.int .i64 (((qai l u5).length:Nat):Int))),(92,.v (.int .i64 ((k:Nat):Int))),(106,.v (.bool false)),(111,.v (.pointer (some ⟨da,db + k * 2 + 1,none⟩))),(114,.v (.slice bg aA.length bh))] 5 (qaa (qac (qaa (qaa (qac (qaa qad)))))) (fun _ h=>h.cells) au gN fun mw gO=>?_
  refine qaT gO (i:=15) (t:=22) (b:=da) (o:=db + k * 2 + 1) (d:=112) kz (cs:=[.slice eu bA.length ev]) (v:=.slice eu bA.length ev) kz (fun w' h'=>(At.drop (AtF.move bx (TT.step0 aJ h') nilM qaX).at_ 1 1)) kz kz (qaa (qac (qaa (qaa (qac (qaa qad)))))) au fun mx gP=>?_
  have iN:=qa8 aA
  refine qaw (i:=18) kz (qal gP (f:=27) (vs:=[.slice bg aA.length bh]) (d:=115) kz Tryd.call27 (qc6 _ _ aA (dW.move (((aD.trans bj).trans bk).trans bn).step immM (((aD.trans bj).trans bk).trans bn).to').le _) ?_)
  rintro e_ my ⟨rfl,d6⟩
  refine ⟨_,rfl,fun mz gQ=>?_⟩
  have bp:=aJ.next_nil d6
  have bq:=aJ.frN d6
  have gR:=TT.ofW bq bp
  refine ⟨fun _=>gR,?_⟩
  refine qaw (i:=19) kz (qal gQ (f:=26) (vs:=[.slice eu bA.length ev,.slice bg ((qaE aA).length) bh]) (d:=116) kz Tryd.call26 (qdM _ _ _ _ bA (qaE aA) _ _ ((gF.move bp.step nilM bp.imm).move (Step.refl _ Nil) nilM allF) (((dW.take 32767).move ((((aD.trans bj).trans bk).trans bn).trans bq).step immM ((((aD.trans bj).trans bk).trans bn).trans bq).to').move (Step.refl _ Nil) nilM allF)) ?_)
  rintro e_ mA ⟨rfl,d7⟩
  refine ⟨_,rfl,fun mB gS=>?_⟩
  have bt:=bp.next_nil d7
  have d8:=bp.frN d7
  have d9:=TT.ofW (bq.trans d8) bt
  refine ⟨fun _=>d9,?_⟩
  refine qaD [20,21] [(9,.p 1 0),(90,.v (.slice ah ((qai l u5).length) ai)),(91,.v (.int .i64 (((qai l u5).length:Nat):Int))),(92,.v (.int .i64 ((k:Nat):Int))),(118,.v (.bool (!(decide (bA = (qaE aA))))))] 0 (qaa (qac (qaa (qaa (qac (qaa qad)))))) (fun _ h=>h.cells) d9 gS fun mC cL=>?_
  refine qaF kz ?_ _
  refine qab ?_
  refine qay cL (b:=!(decide (bA = (qaE aA)))) kz (fun gT=>?_) (fun gT=>?_)
  ·
   refine qar [(10,.v (.bool false))] bt cL fun mD gU=>?_
   refine wp_ret ?_
   refine qax ?_
   refine qao ?_
   refine qao ?_
   refine qax ?_
   refine qao ?_
   refine qaJ gU bt.cells (v:=.bool false) kz ?_
   first
    | (exfalso; omega)
    | exact (qd8 hgu ‹_› ‹_›).elim
    | exact (qc9 hgu ‹_› ‹_›).elim
    | exact (qd9 hgu ‹_› ‹_› ‹_› ‹_›).elim
    | exact (qea hgu ‹_› ‹_› ‹_› ‹_›).elim
    | (exfalso; simp_all; done)
  refine wp_skip ?_
  refine qaq ?_
  refine qab ?_
  refine qat [0,1] kz ?_
  refine qaj [0,1] [] [(9,.p 1 0),(90,.v (.slice ah ((qai l u5).length) ai)),(91,.v (.int .i64 (((qai l u5).length:Nat):Int))),(92,.v (.int .i64 (IntKind.i64.wrap (((k:Nat):Int) + 1))))] bt cL fun mF gV=>?_
  refine qaf (qab ?_)
  obtain ⟨ea,gW,gX⟩:=bt.cutB gV 2 [⟨dc,0,[.int .i64 n1,.slice A6 s2.length c7,.bool b3,.slice A8 l4.length c9,.slice bF u5.length bG],true⟩,⟨de,0,[.int .i64 cM,.slice cP cN.length cQ,.bool cO,.slice bH aF.length bO,.slice bI aB.length bP],true⟩] [(9,.p 1 0),(90,.v (.slice ah ((qai l u5).length) ai)),(91,.v (.int .i64 (((qai l u5).length:Nat):Int))),(92,.v (.int .i64 (IntKind.i64.wrap (((k:Nat):Int) + 1))))]
  have gY:IntKind.i64.wrap (((k:Nat):Int) + 1) = ((k + 1:Nat):Int):=qaN (by omega)
  rw [gY] at ea
  exact ⟨(qai l u5).length - (k + 1),by omega,k + 1,rfl,by omega,ea.pk,gW,((((((aD.trans bj).trans bk).trans bn).trans bq).trans d8).trans gX)⟩
 have jM:=of_decide_eq_false cJ
 refine wp_exit ?_
 refine qaB ?_
 refine qaB ?_
 refine qaL ?_
 refine qab ?_
 refine qar [(10,.v (.bool true))] aI cI fun mG gZ=>?_
 refine wp_ret ?_
 refine qaJ gZ aI.cells (v:=.bool true) kz ?_
 exact ⟨rfl,aI.step⟩
theorem qkb (v:Int) (flex:Bool):∀ d,ToOK v flex (qjL v flex d)
 | 0=>qka (fun _ _ _ _ _ _ _ _ _ _ _ _ _ h=>h.elim) (fun _ _ _ _ _ _ _ _ _ h=>h.elim)
 | d + 1=>qka (qkb v flex d) (qjf d)
theorem qcV (w:World):Calls Tryd.prog 5 #[] w (qbO w (.int .i64 2)):=by
 refine enter (n:=4) Tryd.func5 rfl Tryd.ntmps5 kz fun a hE=>?_
 have hW:=WOk.start w Nil
 refine qar [] hW hE fun a1 hE2=>?_
 refine qag [0,1,2,3] kz ?_
 refine qam (qbE hE2 (f:=14) (vs:=[]) (d:=1) (n':=3) kz Tryd.call14 Tryd.func14 rfl Tryd.ntmps14 kz fun a3 hE4=>?_)
 refine qar [] hW hE4 fun a5 hE6=>?_
 refine qag [0] kz ?_
 refine qam (qaR hW hE6 (d:=1) (cs:=[.int .i16 0,.int .i32 0,.int .i64 0,.int .i64 0,.bool false,.bool false,.slice none 0 0,.slice none 0 0,.map none]) kz fun b7 a8 w9 aA aB aC ab ac=>?_)
 refine qaf (qab ?_)
 refine qag [0] kz ?_
 refine qam (qbE ac (f:=29) (vs:=[.pointer (some ⟨b7,0,none⟩)]) (d:=2) (n':=5) kz Tryd.call29 Tryd.func29 rfl Tryd.ntmps29 kz fun aE ae=>?_)
 have af:=ae.recast 0 (.v (.pointer (some ⟨b7,0,none⟩))) (.p 0 0) rfl rfl (Nat.le_of_ble_eq_true (n:=1) rfl)
 refine qat [0,1,2,3] kz ?_
 refine qaj [0,1,2] [3] [(4,.p 0 2)] ab af fun aF ag=>?_
 refine qam (qav ab ag (oi:=0) (cs:=[.int .i16 0,.int .i32 0,.int .i64 (-1),.int .i64 0,.bool false,.bool false,.slice none 0 0,.slice none 0 0,.map none]) kz fun aG aD aa ah=>?_)
 refine qaf ?_
 refine qb4 ah aa.cells (v:=.tuple #[]) kz ?_
 refine ⟨_,rfl,fun aH ai=>?_⟩
 have aj:EnvOk 3 [⟨b7,0,[.int .i16 0,.int .i32 0,.int .i64 (-1),.int .i64 0,.bool false,.bool false,.slice none 0 0,.slice none 0 0,.map none],true⟩] [(2,.v (.tuple #[])),(1,.p 0 0)] _:=ai.places (⟨rfl,rfl,trivial⟩)
 refine qaf (qab ?_)
 refine qar [(0,.p 0 0)] aa aj fun aI ak=>?_
 refine wp_ret ?_
 refine qaJ ak aa.cells (v:=.pointer (some ⟨b7,0,none⟩)) kz ?_
 refine ⟨_,rfl,fun aJ al=>?_⟩
 have am:EnvOk 4 [⟨b7,0,[.int .i16 0,.int .i32 0,.int .i64 (-1),.int .i64 0,.bool false,.bool false,.slice none 0 0,.slice none 0 0,.map none],true⟩] [(1,.v (.pointer (some ⟨b7,0,none⟩)))] _:=al.places (trivial)
 have ao:=am.recast 1 (.v (.pointer (some ⟨b7,0,none⟩))) (.p 0 0) rfl rfl (Nat.le_of_ble_eq_true (n:=1) rfl)
 have ap:=ao.pick (ks:=[1]) (env':=[(1,.p 0 0)]) kz
 refine qam (qbE ap (f:=15) (vs:=[.pointer (some ⟨b7,0,none⟩)]) (d:=2) (n':=3) kz Tryd.call15 Tryd.func15 rfl Tryd.ntmps15 kz fun aK ar=>?_)
 have au:=ar.recast 0 (.v (.pointer (some ⟨b7,0,none⟩))) (.p 0 0) rfl rfl (Nat.le_of_ble_eq_true (n:=1) rfl)
 refine qar [] aa au fun aL av=>?_
 refine qar [(2,.v (.int .i16 2))] aa av fun aM aw=>?_
 refine wp_ret ?_
 refine qaJ aw aa.cells (v:=.int .i16 2) kz ?_
 refine ⟨_,rfl,fun aN ax=>?_⟩
 have ay:EnvOk 4 [⟨b7,0,[.int .i16 0,.int .i32 0,.int .i64 (-1),.int .i64 0,.bool false,.bool false,.slice none 0 0,.slice none 0 0,.map none],true⟩] [(2,.v (.int .i16 2)),(1,.p 0 0)] _:=ax.places (⟨rfl,rfl,trivial⟩)
 refine qaj [2,3] [] [(0,.v (.int .i64 2))] aa ay fun aO az=>?_
 refine qaf (qab ?_)
 refine wp_ret ?_
 refine qaJ az aa.cells (v:=.int .i64 2) kz ?_
 exact ⟨rfl,aa.step⟩
theorem qb7:depths sBrokerHeartbeatRequestF ≤ 8:=by simp [sBrokerHeartbeatRequestF,Fld.depth.depths,Fld.depth]
theorem qb8:plains sBrokerHeartbeatRequestF:=by simp [sBrokerHeartbeatRequestF,Fld.plain.plains,Fld.plain]
theorem qcO (A:Option Addr) (c:Nat) (v:Int) (w:World):Calls Tryd.prog 11 #[.agg #[.slice A sBrokerHeartbeatRequestF.length c,.int .i64 qas],.int .i64 v] w (qbO w (.bool (decide (v ≥ qas)))):=by
 refine enter (n:=14) Tryd.func11 rfl Tryd.ntmps11 kz fun a hE=>?_
 have hW:=WOk.start w Nil
 refine qag [0,1] kz ?_
 refine qam (qa7 hW hE (d:=2) (cs:=[.slice A sBrokerHeartbeatRequestF.length c,.int .i64 qas]) kz fun b1 a2 w3 hb4 hz5 hF6 hW7 hE8=>?_)
 refine qaj [1] [] [(1,.v (.int .i64 v)),(2,.p 0 0)] hW7 hE8 fun a9 aa=>?_
 refine qaf (qab ?_)
 refine qag [0,1,2,3,4,5,6,7,8,9] kz ?_
 refine qaj [0,1,2,3] [4,5,6,7,8,9] [(1,.v (.int .i64 v)),(2,.p 0 0),(8,.v (.bool (decide (qas ≥ 0))))] hW7 aa fun ag ab=>?_
 have ac:(decide (qas ≥ 0)) = true:=by decide
 have ae:=ab.cast (env':=[(1,.v (.int .i64 v)),(2,.p 0 0),(8,.v (.bool true))]) (by rw [ac])
 refine qaj [4,5,6,7,8,9] [] [(4,.v (.bool (decide (v ≥ qas))))] hW7 ae fun ah af=>?_
 refine qaf (qab ?_)
 refine wp_ret ?_
 refine qaJ af hW7.cells (v:=.bool (decide (v ≥ qas))) kz ?_
 exact ⟨rfl,hW7.step⟩
set_option maxHeartbeats 4000000 in
theorem qcD (x:Int) (hx:0 ≤ x) (hx':x < 256) (ct:List Value) (t:Tree) (w:World) (F:Nat → Nat → Prop) (ht:TreeR w F ct t) (hroom1:(qcl 8 sBrokerHeartbeatRequestF qas (Int.tmod x (2 + 1)) t).length + 16 ≤ 1099511627776) (hcan:qaZ (fitT (Int.tmod x (2 + 1)) 8 sBrokerHeartbeatRequestF t)) (hkey:Tree.ranged (fitT (Int.tmod x (2 + 1)) 8 sBrokerHeartbeatRequestF t)) (hpure:qak (IntKind.i16.wrap (Int.tmod x (2 + 1))) (fitT (Int.tmod x (2 + 1)) 8 sBrokerHeartbeatRequestF t) = qcl 8 sBrokerHeartbeatRequestF qas (Int.tmod x (2 + 1)) t) (hto:∀ D,qa1 (IntKind.i16.wrap (Int.tmod x (2 + 1))) D (fitT (Int.tmod x (2 + 1)) 8 sBrokerHeartbeatRequestF t) → qjL (Int.tmod x (2 + 1)) (decide ((Int.tmod x (2 + 1)) ≥ qas)) 8 sBrokerHeartbeatRequestF t (qa2 D)) :
  Calls Tryd.prog 3 #[.int .u8 x,.agg ct.toArray] w (qbO w (.bool true)):=by
 obtain ⟨n1,s2,b3,l4,u5,A6,c7,A8,c9,aO,aP,da,rfl,rfl,db,dc,dQ,dR⟩:=ht.open_
 have cN:=db.small
 have cO:=dc.small
 refine enter (n:=42) Tryd.func3 rfl Tryd.ntmps3 kz fun a hE=>?_
 have hW:=WOk.start w Nil
 refine qag [0,1] kz ?_
 refine qam (qa7 hW hE (d:=3) (cs:=[.int .i64 n1,.slice A6 s2.length c7,.bool b3,.slice A8 l4.length c9,.slice aO u5.length aP]) kz fun de dS dT df dg dh ar bK=>?_)
 refine qaj [1] [] [(0,.v (.int .u8 x)),(3,.p 0 0)] ar bK fun dU bL=>?_
 refine qaf (qab ?_)
 refine wp_seq ?_
 refine qag [0,1,2] kz ?_
 refine qaj [0] [1,2] [(0,.v (.int .u8 x)),(3,.p 0 0),(10,.v (.agg #[.int .i64 n1,.slice A6 s2.length c7,.bool b3,.slice A8 l4.length c9,.slice aO u5.length aP]))] ar bL fun dV bM=>?_
 refine qam (qal bM (f:=4) (vs:=[.agg #[.int .i64 n1,.slice A6 s2.length c7,.bool b3,.slice A8 l4.length c9,.slice aO u5.length aP]]) (d:=11) kz Tryd.call4 (qle _ _ _ _ (ht.move ar.step nilM ar.imm)) ?_)
 rintro e_ dW ⟨cP,rfl,bd⟩
 refine ⟨_,rfl,fun dX bN=>?_⟩
 have au:=ar.next_nil bd
 have di:=ar.frN bd
 refine qaj [2] [] [(0,.v (.int .u8 x)),(3,.p 0 0),(12,.v (.bool (!cP)))] au bN fun dY aY=>?_
 refine qaf (qab ?_)
 refine qay aY (b:=!cP) kz (fun bO=>?_) (fun bO=>?_)
 ·
  refine qar [(4,.v (.bool true))] au aY fun dZ bP=>?_
  refine wp_ret ?_
  refine qao ?_
  refine qaJ bP au.cells (v:=.bool true) kz ?_
  exact ⟨rfl,au.step⟩
 refine wp_skip ?_
 refine qab ?_
 refine qag [0,1] kz ?_
 refine qam (qal aY (f:=5) (vs:=[]) (d:=13) kz Tryd.call5 (qcV _) ?_)
 rintro e_ dj ⟨rfl,bf⟩
 refine ⟨_,rfl,fun d5 bQ=>?_⟩
 have av:=au.next_nil bf
 have dl:=au.frN bf
 refine qaj [1] [] [(0,.v (.int .u8 x)),(3,.p 0 0),(5,.v (.int .i64 2))] av bQ fun d6 bR=>?_
 refine qaf (qab ?_)
 refine wp_seq ?_
 refine qar [(0,.v (.int .u8 x)),(3,.p 0 0),(5,.v (.int .i64 2)),(15,.v (.bool false))] av bR fun d7 bg=>?_
 refine qap bg (b:=false) kz rfl ?_
 refine wp_skip ?_
 refine qab ?_
 refine qag [0,1,2,3,4,5,6] kz ?_
 refine qam (qal bg (f:=6) (vs:=[]) (d:=16) kz Tryd.call6 (qcS _ (Imm F w dj [⟨de,0,[.int .i64 n1,.slice A6 s2.length c7,.bool b3,.slice A8 l4.length c9,.slice aO u5.length aP],true⟩] [])) ?_)
 rintro e_ d8 ⟨aQ,aR,rfl,bS,aZ⟩
 obtain ⟨bh,cQ,cR⟩:=bS.move (Step.refl _ Nil) nilM (av.laid (G:=F) aZ)
 refine ⟨_,rfl,fun d9 bT=>?_⟩
 have ba:=av.next_nil aZ
 have dp:=av.frN aZ
 refine qaj [1,2] [3,4,5,6] [(3,.p 0 0),(16,.v (.agg #[.slice aQ sBrokerHeartbeatRequestF.length aR,.int .i64 qas])),(17,.v (.int .u8 x)),(18,.v (.int .i64 2))] ba bT fun ea bU=>?_
 refine qam (qal bU (f:=7) (vs:=[.int .u8 x,.int .i64 2]) (d:=19) kz Tryd.call7 (qjH x 2 hx hx' (by decide) (by decide) _) ?_)
 rintro e_ eb ⟨rfl,bj⟩
 refine ⟨_,rfl,fun ec bV=>?_⟩
 have bW:=ba.next_nil bj
 have ag:=ba.frN bj
 refine qam (qaR bW bV (d:=6) (cs:=[.slice none 0 0,.int .i64 0]) kz fun ee ef eg dq dr ah bX bY=>?_)
 refine qam (qav bX bY (oi:=1) (cs:=[.slice aQ sBrokerHeartbeatRequestF.length aR,.int .i64 qas]) kz fun eh ai aw bZ=>?_)
 refine qaj [6] [] [(3,.p 0 0),(6,.p 1 0),(7,.v (.int .i64 (Int.tmod x (2 + 1))))] aw bZ fun ei b8=>?_
 refine qaf (qab ?_)
 refine qag [0,1,2,3,4,5,6,7,8,9,10,11] kz ?_
 refine qaj [0,1,2,3] [4,5,6,7,8,9,10,11] [(3,.p 0 0),(6,.p 1 0),(7,.v (.int .i64 (Int.tmod x (2 + 1)))),(21,.v (.int .i64 (Int.tmod x (2 + 1)))),(22,.v (.agg #[.slice aQ sBrokerHeartbeatRequestF.length aR,.int .i64 qas])),(23,.v (.int .i64 (Int.tmod x (2 + 1)))),(24,.v (.agg #[.int .i64 n1,.slice A6 s2.length c7,.bool b3,.slice A8 l4.length c9,.slice aO u5.length aP]))] aw b8 fun ej ca=>?_
 refine qam (qal ca (f:=9) (vs:=[.agg #[.slice aQ sBrokerHeartbeatRequestF.length aR,.int .i64 qas],.int .i64 (Int.tmod x (2 + 1)),.agg #[.int .i64 n1,.slice A6 s2.length c7,.bool b3,.slice A8 l4.length c9,.slice aO u5.length aP]]) (d:=25) kz Tryd.call9 (qkZ _ _ sBrokerHeartbeatRequestF qas (Int.tmod x (2 + 1)) _ (Tree.mk n1 s2 b3 l4 u5) _ _ ⟨bh,(cQ.move ((ag.trans ah).trans ai).step immM ((ag.trans ah).trans ai).to'),(fun i_ x_ h_=>((cR i_ x_ h_).move ((ag.trans ah).trans ai).step immM ((ag.trans ah).trans ai).to'))⟩ qb7 (ht.move aw.step nilM aw.imm) (Nat.le_trans (Nat.le_add_right _ _) hroom1)) ?_)
 rintro e_ ek ⟨cS,cT,rfl,cb,cc⟩
 refine ⟨_,rfl,fun em cd=>?_⟩
 obtain ⟨ak,al⟩:=aw.frFresh cc (brow cS cT 5 (qcl 8 sBrokerHeartbeatRequestF qas (Int.tmod x (2 + 1)) (Tree.mk n1 s2 b3 l4 u5))) (Nat.le_refl _) cb
 refine qam (qal cd (f:=8) (vs:=[.int .i64 (Int.tmod x (2 + 1)),.slice cS ((qcl 8 sBrokerHeartbeatRequestF qas (Int.tmod x (2 + 1)) (Tree.mk n1 s2 b3 l4 u5)).length) cT]) (d:=26) kz Tryd.call8 (qcC (Int.tmod x (2 + 1)) _ (qcl 8 sBrokerHeartbeatRequestF qas (Int.tmod x (2 + 1)) (Tree.mk n1 s2 b3 l4 u5)) hpure (qbU (ak.own 0 _ rfl) (by first | omega | (rw [qa4]; decide) | (simp only [be_length]; exact Nat.le_trans (qbh _) (by decide)) | (have:=hroom; omega) | (have:=hmade; omega) | (simp only [List.length_append,List.length_nil]; omega)) (F:=fun _ _=>True) (fun _ _ _=>trivial)) hcan hkey (by first | omega | (have:=hroom1; omega))) ?_)
 rintro e_ dt ⟨bk,cU,rfl,bn,bo,ax⟩
 have ay:=bn.move (Step.refl _ Nil) nilM (fun b_ o_ h_ hb_=>ak.laid (G:=F) ax b_ o_ (.inr (h_.resolve_left id)) hb_)
 obtain ⟨aD,aE,aF,aG,aH,aI,aJ,aK,aL,aM,aN,cV,cW,az,ce,cm,du,dv⟩:=ay.open_
 rw [az] at ay
 have cq:=ce.small
 have cr:=cm.small
 rw [az]
 refine ⟨_,rfl,fun dw bp=>?_⟩
 have aS:=ak.next_nil ax
 have am:=ak.frN ax
 refine qaj [6,7,8] [9,10,11] [(3,.p 0 0),(6,.p 1 0),(7,.v (.int .i64 (Int.tmod x (2 + 1)))),(27,.v (.agg #[.int .i64 aD,.slice aI aE.length aJ,.bool aF,.slice aK aG.length aL,.slice aM aH.length aN])),(28,.v (.bool true))] aS bp fun dx bq=>?_
 refine qam (qaR aS bq (d:=8) (cs:=[.int .i64 0,.slice none 0 0,.bool false,.slice none 0 0,.slice none 0 0]) kz fun dy dA dB cX cY ab bt bu=>?_)
 refine qam (qav bt bu (oi:=2) (cs:=[.int .i64 aD,.slice aI aE.length aJ,.bool aF,.slice aK aG.length aL,.slice aM aH.length aN]) kz fun dC ac aT bw=>?_)
 refine qaj [11] [] [(3,.p 0 0),(6,.p 1 0),(7,.v (.int .i64 (Int.tmod x (2 + 1)))),(8,.p 2 0),(9,.v (.bool true))] aT bw fun dD bx=>?_
 refine qaf (qab ?_)
 refine qaG 13 kz aT fun dE ae aU bz=>?_
 refine qaD [0,1,2,3,4,5,6,8,9] [(30,.v (.bool true)),(32,.v (.slice aQ sBrokerHeartbeatRequestF.length aR)),(33,.v (.int .i64 (Int.tmod x (2 + 1)))),(34,.v (.agg #[.slice aQ sBrokerHeartbeatRequestF.length aR,.int .i64 qas])),(35,.v (.int .i64 (Int.tmod x (2 + 1)))),(37,.v (.agg #[.int .i64 n1,.slice A6 s2.length c7,.bool b3,.slice A8 l4.length c9,.slice aO u5.length aP])),(38,.v (.agg #[.int .i64 aD,.slice aI aE.length aJ,.bool aF,.slice aK aG.length aL,.slice aM aH.length aN]))] 5 (qaa qad) (fun _ h=>h.cells) bz bx fun dF bA=>?_
 refine qaw (i:=7) kz (qal bA (f:=11) (vs:=[.agg #[.slice aQ sBrokerHeartbeatRequestF.length aR,.int .i64 qas],.int .i64 (Int.tmod x (2 + 1))]) (d:=36) kz Tryd.call11 (qcO _ _ _ _) ?_)
 rintro e_ dG ⟨rfl,aV⟩
 refine ⟨_,rfl,fun dH bB=>?_⟩
 have ao:=aU.next_nil aV
 have aa:=aU.frN aV
 have bC:=TT.ofW aa ao
 refine ⟨fun _=>bC,?_⟩
 refine qaw (i:=10) kz (qal bB (f:=12) (vs:=[.agg #[.int .i64 aD,.slice aI aE.length aJ,.bool aF,.slice aK aG.length aL,.slice aM aH.length aN]]) (d:=39) kz Tryd.call12 (lGot _ _ _ _ _ (ay.move (((ab.trans ac).trans ae).trans aa).step immM (((ab.trans ac).trans ae).trans aa).to') (Nat.le_refl _)) ?_)
 rintro e_ dI ⟨cZ,rfl,bD,aA⟩
 have aB:=bD.move (Step.refl _ Nil) nilM (ao.laid (G:=F) aA)
 obtain ⟨cu,cw,cz,cA,cB,cC,cD,cE,cG,cH,cI,c5,c6,aC,cJ,cK,dJ,dK⟩:=aB.open_
 rw [aC] at aB
 have cL:=cJ.small
 have cM:=cK.small
 rw [aC]
 refine ⟨_,rfl,fun dL bE=>?_⟩
 have aj:=ao.next_nil aA
 have af:=ao.frN aA
 have bF:=TT.ofW (aa.trans af) aj
 refine ⟨fun _=>bF,?_⟩
 refine qaw (i:=11) kz (qal bE (f:=10) (vs:=[.slice aQ sBrokerHeartbeatRequestF.length aR,.int .i64 (Int.tmod x (2 + 1)),.bool (decide ((Int.tmod x (2 + 1)) ≥ qas)),.agg #[.int .i64 n1,.slice A6 s2.length c7,.bool b3,.slice A8 l4.length c9,.slice aO u5.length aP],.agg #[.int .i64 cu,.slice cC cw.length cD,.bool cz,.slice cE cA.length cG,.slice cH cB.length cI]]) (d:=40) kz Tryd.call10 (qkb (Int.tmod x (2 + 1)) (decide ((Int.tmod x (2 + 1)) ≥ qas)) 8 _ _ sBrokerHeartbeatRequestF _ (Tree.mk n1 s2 b3 l4 u5) _ (qa2 bk) _ _ ⟨bh,(cQ.move (((((((((ag.trans ah).trans ai).trans al).trans am).trans ab).trans ac).trans ae).trans aa).trans af).step immM (((((((((ag.trans ah).trans ai).trans al).trans am).trans ab).trans ac).trans ae).trans aa).trans af).to'),(fun i_ x_ h_=>((cR i_ x_ h_).move (((((((((ag.trans ah).trans ai).trans al).trans am).trans ab).trans ac).trans ae).trans aa).trans af).step immM (((((((((ag.trans ah).trans ai).trans al).trans am).trans ab).trans ac).trans ae).trans aa).trans af).to'))⟩ (ht.move aj.step nilM aj.imm) aB qb8 (hto bk bo)) ?_)
 rintro e_ dM ⟨rfl,aW⟩
 refine ⟨_,rfl,fun dN bG=>?_⟩
 have ap:=aj.next_nil aW
 have bH:=aj.frN aW
 have aX:=TT.ofW ((aa.trans af).trans bH) ap
 refine ⟨fun _=>aX,?_⟩
 refine qaD [12] [(41,.v (.bool true))] 1 (qaa qad) (fun _ h=>h.cells) aX bG fun dO bI=>?_
 refine qaw (i:=13) kz (qa9 [4] ap.cells bI (env':=[(4,.v (.bool true))]) kz fun dP bJ=>?_)
 refine ⟨fun h=>absurd rfl h,?_⟩
 refine qaF kz ?_ _
 refine qab ?_
 refine wp_ret ?_
 refine qaJ bJ ap.cells (v:=.bool true) kz ?_
 exact ⟨rfl,ap.step⟩
theorem qcq (x:Int) (hx:0 ≤ x ∧ x ≤ 255) (ct:List Value) (t:Tree) (w:World) (F:Nat → Nat → Prop) (ht:TreeR w F ct t) (hi:t.i64s) (hsz:t.size ≤ 8388608):Calls Tryd.prog 3 #[.int .u8 x,.agg ct.toArray] w (qbO w (.bool true)):=by
 obtain ⟨g0,g1⟩:=qkV (m:=2 + 1) hx.1 hx.2 (by decide) (by decide)
 have hp:qak (IntKind.i16.wrap (Int.tmod x (2 + 1))) (fitT (Int.tmod x (2 + 1)) 8 sBrokerHeartbeatRequestF t) = qcl 8 sBrokerHeartbeatRequestF qas (Int.tmod x (2 + 1)) t:=by rw [qf5 g0 g1]; exact qcr (Int.tmod x (2 + 1)) g0 g1 t
 have h1:=qiF 8 sBrokerHeartbeatRequestF qas (Int.tmod x (2 + 1)) t
 have h2:qgx sBrokerHeartbeatRequestF ≤ 131000:=by decide +kernel
 have h3:=Nat.mul_le_mul h2 hsz
 exact qcD x hx.1 (by omega) ct t w F ht (by omega) (qcd (Int.tmod x (2 + 1)) t) (qhI _ _ _ _ ht.ranged) hp (fun D h=>by rw [qf5 g0 g1] at h; exact qcs (Int.tmod x (2 + 1)) g0 t _ (fun _=>rfl) rfl hi D h)
end Go.Proofs.YtdlaobdadlmcdabDoor.ME