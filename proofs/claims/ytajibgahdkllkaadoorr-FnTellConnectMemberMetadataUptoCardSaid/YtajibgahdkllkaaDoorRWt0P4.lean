/- The texts of a claim, put together: the engine, the contracts, the law. Own work. -/
import Derived.Test.YtajibgahdkllkaaDoorRWt0P3
namespace Go.Proofs.YtajibgahdkllkaaDoorR.ME
open Go
open Go.RowKit
set_option linter.unusedVariables false
set_option linter.unusedSimpArgs false
set_option maxRecDepth 20000
theorem qeM (k n:Int) (w:World):Calls Tryd.prog 75 #[.int .i64 k,.int .i64 n] w (qbD w (.int .i64 (qbd k n))):=by
 refine enter (n:=31) Tryd.func75 rfl Tryd.ntmps75 kz fun a hE=>?_
 have hW:=WOk.start w Nil
 refine qan [(0,.v (.int .i64 k)),(1,.v (.int .i64 n))] hW hE fun a1 hE2=>?_
 refine wp_seq ?_
 refine qan [(1,.v (.int .i64 n)),(5,.v (.int .i64 k))] hW hE2 fun a3 hE4=>?_
 refine wp_block ?_
 refine qan [(1,.v (.int .i64 n)),(5,.v (.int .i64 k)),(6,.v (.bool (k == 0)))] hW hE4 fun a5 hE6=>?_
 refine qau hE6 (b:=k == 0) kz (fun hc7=>?_) (fun hc7=>?_)
 ·
  have hf8:k = 0:=by simpa using hc7
  refine qan [(4,.v (.int .i64 (IntKind.i64.wrap (BitVec.ofInt 64 n &&& BitVec.ofInt 64 1).toNat)))] hW hE6 fun a9 aj=>?_
  refine wp_ret ?_
  refine qaq ?_
  refine qal ?_
  refine qaD aj hW.cells (v:=.int .i64 (IntKind.i64.wrap (BitVec.ofInt 64 n &&& BitVec.ofInt 64 1).toNat)) kz ?_
  exact ⟨by (try simp only [and1]); simp_all [qbd,qgw,qen,qeo,qdy],hW.step⟩
 have ar:k ≠ 0:=by simpa using hc7
 refine qan [(1,.v (.int .i64 n)),(5,.v (.int .i64 k)),(10,.v (.bool (k == 1)))] hW hE6 fun aC aa=>?_
 refine qau aa (b:=k == 1) kz (fun ab=>?_) (fun ab=>?_)
 ·
  have au:k = 1:=by simpa using ab
  refine qan [(4,.v (.int .i64 (IntKind.i64.wrap (IntKind.i8.wrap n))))] hW aa fun aD ak=>?_
  refine wp_ret ?_
  refine qaq ?_
  refine qal ?_
  refine qaD ak hW.cells (v:=.int .i64 (IntKind.i64.wrap (IntKind.i8.wrap n))) kz ?_
  exact ⟨by (try simp only [and1]); simp_all [qbd,qgw,qen,qeo,qdy],hW.step⟩
 have av:k ≠ 1:=by simpa using ab
 refine qan [(1,.v (.int .i64 n)),(5,.v (.int .i64 k)),(15,.v (.bool (k == 2)))] hW aa fun aE ac=>?_
 refine qau ac (b:=k == 2) kz (fun ae=>?_) (fun ae=>?_)
 ·
  have aw:k = 2:=by simpa using ae
  refine qan [(4,.v (.int .i64 (IntKind.i64.wrap (IntKind.i16.wrap n))))] hW ac fun aF al=>?_
  refine wp_ret ?_
  refine qaq ?_
  refine qal ?_
  refine qaD al hW.cells (v:=.int .i64 (IntKind.i64.wrap (IntKind.i16.wrap n))) kz ?_
  exact ⟨by (try simp only [and1]); simp_all [qbd,qgw,qen,qeo,qdy],hW.step⟩
 have ax:k ≠ 2:=by simpa using ae
 refine qan [(1,.v (.int .i64 n)),(5,.v (.int .i64 k)),(20,.v (.bool (k == 3)))] hW ac fun aG af=>?_
 refine qau af (b:=k == 3) kz (fun ag=>?_) (fun ag=>?_)
 ·
  have ay:k = 3:=by simpa using ag
  refine qan [(4,.v (.int .i64 (IntKind.i64.wrap (IntKind.i32.wrap n))))] hW af fun aH am=>?_
  refine wp_ret ?_
  refine qaq ?_
  refine qal ?_
  refine qaD am hW.cells (v:=.int .i64 (IntKind.i64.wrap (IntKind.i32.wrap n))) kz ?_
  exact ⟨by (try simp only [and1]); simp_all [qbd,qgw,qen,qeo,qdy],hW.step⟩
 have az:k ≠ 3:=by simpa using ag
 refine qan [(1,.v (.int .i64 n)),(25,.v (.bool (k == 5)))] hW af fun aI ah=>?_
 refine qau ah (b:=k == 5) kz (fun ai=>?_) (fun ai=>?_)
 ·
  have aA:k = 5:=by simpa using ai
  refine qan [(4,.v (.int .i64 (IntKind.i64.wrap (IntKind.u16.wrap n))))] hW ah fun aJ ao=>?_
  refine wp_ret ?_
  refine qaq ?_
  refine qal ?_
  refine qaD ao hW.cells (v:=.int .i64 (IntKind.i64.wrap (IntKind.u16.wrap n))) kz ?_
  exact ⟨by (try simp only [and1]); simp_all [qbd,qgw,qen,qeo,qdy],hW.step⟩
 have aB:k ≠ 5:=by simpa using ai
 refine wp_skip ?_
 refine qar ?_
 refine qab ?_
 refine qan [(4,.v (.int .i64 n))] hW ah fun aK ap=>?_
 refine wp_ret ?_
 refine qaD ap hW.cells (v:=.int .i64 n) kz ?_
 exact ⟨by (try simp only [and1]); simp_all [qbd,qgw,qen,qeo,qdy],hW.step⟩
def UsOK (U:List Fld → Tree → Prop):Prop:=∀ (A:Option Addr) (c:Nat) (l:List Fld) (ct:List Value) (g:Tree) (w:World) (F:Nat → Nat → Prop),FldsR w F A c l → TreeR w F ct g → U l g →
  Calls Tryd.prog 52 #[.slice A l.length c,.agg ct.toArray] w (qbD w (.bool true))
theorem sUs {U:List Fld → Tree → Prop} (hu:UsOK U) (A:Option Addr) (c:Nat) (l:List Fld) (ct:List Value) (g:Tree) (w:World) (F:Nat → Nat → Prop) (hl:FldsR w F A c l) (ht:TreeR w F ct g) (hU:UsP U l g) :
  Calls Tryd.prog 52 #[.slice A l.length c,.agg ct.toArray] w (qbD w (.bool true)):=by
 obtain ⟨xfs,h1,h2⟩:=hl.ex
 have hsm:=h1.small
 obtain ⟨n1,s2,b3,l4,u5,A6,c7,A8,c9,aJ,aK,fW,rfl,rfl,fX,fY,iF,iG⟩:=ht.open_
 have ff:=fX.small
 have fg:=fY.small
 refine enter (n:=89) Tryd.func52 rfl Tryd.ntmps52 kz fun a hE=>?_
 have hW:=WOk.start w Nil
 refine qad [0,1] kz ?_
 refine qam (qaY hW hE (d:=3) (cs:=[.int .i64 n1,.slice A6 s2.length c7,.bool b3,.slice A8 l4.length c9,.slice aJ u5.length aK]) kz fun bB iH iI fZ f5 f7 aA eK=>?_)
 refine qah [1] [] [(0,.v (.slice A l.length c)),(3,.p 0 0)] aA eK fun iJ eL=>?_
 refine qae (qab ?_)
 refine wp_seq ?_
 refine qan [(0,.v (.slice A l.length c)),(3,.p 0 0),(11,.v (.bool (decide (((u5.length:Nat):Int) > 0))))] aA eL fun iK cG=>?_
 refine qau cG (b:=decide (((u5.length:Nat):Int) > 0)) kz (fun cH=>?_) (fun cH=>?_)
 ·
  have f8:=of_decide_eq_true cH
  refine qan [(4,.v (.bool false))] aA cG fun iL eM=>?_
  refine wp_ret ?_
  refine qal ?_
  refine qaD eM aA.cells (v:=.bool false) kz ?_
  exact (us_u (g:=(Tree.mk n1 s2 b3 l4 u5)) hU.1 rfl ‹_›).elim
 have f9:=of_decide_eq_false cH
 refine wp_skip ?_
 refine qab ?_
 refine wp_seq ?_
 refine qan [(3,.p 0 0),(12,.v (.slice A l.length c)),(13,.v (.int .i64 ((l.length:Nat):Int))),(14,.v (.int .i64 0))] aA cG fun iM eN=>?_
 refine wp_block ?_
 refine wp_loop_ghost (fun n_ a_ w_=>∃ (k:Nat),n_ = l.length - k ∧ k ≤ l.length ∧ LInv aA 89 [⟨bB,0,[.int .i64 n1,.slice A6 s2.length c7,.bool b3,.slice A8 l4.length c9,.slice aJ u5.length aK],true⟩] [] [(3,.p 0 0),(12,.v (.slice A l.length c)),(13,.v (.int .i64 ((l.length:Nat):Int))),(14,.v (.int .i64 ((k:Nat):Int)))] a_ w_) (l.length) ⟨0,by omega,by omega,eN.pk,aA,Fr.refl _ _ _⟩ ?_
 rintro iN iO iP ⟨k,ga,gb,eO,aB,aj⟩
 refine qan [(3,.p 0 0),(12,.v (.slice A l.length c)),(13,.v (.int .i64 ((l.length:Nat):Int))),(14,.v (.int .i64 ((k:Nat):Int))),(15,.v (.bool (decide (((k:Nat):Int) < ((l.length:Nat):Int)))))] aB eO fun iQ cI=>?_
 refine wp_seq ?_
 refine qau cI (b:=decide (((k:Nat):Int) < ((l.length:Nat):Int))) kz (fun cJ=>?_) (fun cJ=>?_)
 ·
  have gc:=of_decide_eq_true cJ
  refine wp_skip ?_
  refine qab ?_
  refine wp_seq ?_
  refine wp_block ?_
  refine qad [0,1,2,3,4,5] kz ?_
  refine qah [0] [1,2,3,4,5] [(3,.p 0 0),(12,.v (.slice A l.length c)),(13,.v (.int .i64 ((l.length:Nat):Int))),(14,.v (.int .i64 ((k:Nat):Int))),(16,.v (.int .i64 ((k:Nat):Int)))] aB cI fun iR eP=>?_
  obtain ⟨gd,ge,eQ,gg,bD⟩:=Slots.get h1 (i:=k) (by omega)
  obtain ⟨gh,cK⟩:∃ x,l[k]? = some x:=⟨_,List.getElem?_eq_getElem (by omega)⟩
  have cL:=h2 k gh cK
  obtain ⟨ae,eG,eH,aE,eI,aM,eJ,bC,bE,bF,cM,rfl,bG,eR,fh⟩:=cL.open_
  rw [bG] at cL
  have fi:=eR.small
  rw [bG] at bD
  refine qam (qaz eP (t:=30) (A:=A) (m:=l.length) (q:=((k:Nat):Int)) (d:=17) kz (e:=60) (size:=8) (bytes:=80) kz eQ rfl (by omega) fun iS eS=>?_)
  refine qam (qaE eS (t:=60) (b:=gd) (o:=ge + k * 8) (d:=18) kz (cs:=[.int .i64 ae,.int .i64 eG,.int .i64 eH,.int .i64 aE,.int .i64 eI,.int .i64 aM,.int .i64 eJ,.slice bE bC.length bF]) (v:=.agg #[.int .i64 ae,.int .i64 eG,.int .i64 eH,.int .i64 aE,.int .i64 eI,.int .i64 aM,.int .i64 eJ,.slice bE bC.length bF]) kz (AtF.move bD aB.step nilM qaZ).at_ fun iT eU=>?_)
  refine qam (qaO aB eU (d:=6) (cs:=[.int .i64 0,.int .i64 0,.int .i64 0,.int .i64 0,.int .i64 0,.int .i64 0,.int .i64 0,.slice none 0 0]) kz fun iU iV iW gi gj ak cN eV=>?_)
  refine qah [4] [5] [(3,.p 0 0),(5,.v (.int .i64 ((k:Nat):Int))),(6,.p 1 0),(12,.v (.slice A l.length c)),(13,.v (.int .i64 ((l.length:Nat):Int))),(14,.v (.int .i64 ((k:Nat):Int))),(18,.v (.agg #[.int .i64 ae,.int .i64 eG,.int .i64 eH,.int .i64 aE,.int .i64 eI,.int .i64 aM,.int .i64 eJ,.slice bE bC.length bF]))] cN eV fun iX eW=>?_
  refine qam (qay cN eW (oi:=1) (cs:=[.int .i64 ae,.int .i64 eG,.int .i64 eH,.int .i64 aE,.int .i64 eI,.int .i64 aM,.int .i64 eJ,.slice bE bC.length bF]) kz fun iY al aL eX=>?_)
  refine qae (qab ?_)
  refine qad [0,1,2,3,4] kz ?_
  refine qah [0,1] [2,3,4] [(3,.p 0 0),(6,.p 1 0),(12,.v (.slice A l.length c)),(13,.v (.int .i64 ((l.length:Nat):Int))),(14,.v (.int .i64 ((k:Nat):Int))),(19,.v (.agg #[.int .i64 n1,.slice A6 s2.length c7,.bool b3,.slice A8 l4.length c9,.slice aJ u5.length aK])),(20,.v (.int .i64 ((k:Nat):Int)))] aL eX fun iZ eY=>?_
  refine qam (qai eY (f:=48) (vs:=[.agg #[.int .i64 n1,.slice A6 s2.length c7,.bool b3,.slice A8 l4.length c9,.slice aJ u5.length aK],.int .i64 ((k:Nat):Int)]) (d:=21) kz Tryd.call48 (sAt _ _ k _ _ (ht.move aL.step nilM aL.imm)) ?_)
  rintro e_ gk ⟨gl,rfl,eZ,aO⟩
  have aF:=eZ.move aO nilM (fun b o h_ hb_=>aL.laid (G:=F) aO b o (.inl h_) (Nat.lt_of_lt_of_le hb_ aO.size))
  obtain ⟨ai,af,ah,am,aP,aC,aD,aQ,aR,aS,aT,fj,aU,aV,cO,e9,gm,gn⟩:=aF.open_
  rw [aV] at aF
  have fa:=cO.small
  have fb:=e9.small
  rw [aV]
  refine ⟨_,rfl,fun gp cP=>?_⟩
  have cQ:=aL.next_nil aO
  have ag:=aL.frN aO
  have hq_:=hU.2 k _ cK
  rw [aU] at hq_
  refine qam (qaO cQ cP (d:=7) (cs:=[.int .i64 0,.slice none 0 0,.bool false,.slice none 0 0,.slice none 0 0]) kz fun gq gt gv fk fl ab cR cS=>?_)
  refine qam (qay cR cS (oi:=2) (cs:=[.int .i64 ai,.slice aC af.length aD,.bool ah,.slice aQ am.length aR,.slice aS aP.length aT]) kz fun gw ac aa cT=>?_)
  refine qae (qab ?_)
  refine qan [(3,.p 0 0),(6,.p 1 0),(7,.p 2 0),(12,.v (.slice A l.length c)),(13,.v (.int .i64 ((l.length:Nat):Int))),(14,.v (.int .i64 ((k:Nat):Int))),(23,.v (.int .i64 ae))] aa cT fun gx cU=>?_
  refine wp_block ?_
  refine qan [(3,.p 0 0),(6,.p 1 0),(7,.p 2 0),(12,.v (.slice A l.length c)),(13,.v (.int .i64 ((l.length:Nat):Int))),(14,.v (.int .i64 ((k:Nat):Int))),(23,.v (.int .i64 ae)),(32,.v (.bool (ae == 8)))] aa cU fun gy aW=>?_
  refine qau aW (b:=ae == 8) kz (fun aX=>?_) (fun aX=>?_)
  ·
   have fm:ae = 8:=by simpa using aX
   refine qad [0,1,2,3,4,5,6,7,8,9,10,11] kz ?_
   refine qah [0,1,2,3,4,5,6] [7,8,9,10,11] [(3,.p 0 0),(7,.p 2 0),(12,.v (.slice A l.length c)),(13,.v (.int .i64 ((l.length:Nat):Int))),(14,.v (.int .i64 ((k:Nat):Int))),(40,.v (.bool (!(ah == (decide (aE ≥ 0))))))] aa aW fun gz bH=>?_
   refine (Bool.eq_false_or_eq_true (!(ah == (decide (aE ≥ 0))))).elim (fun ao=>?_) (fun ao=>?_)
   ·
    have fo:!(ah = (decide (aE ≥ 0))):=by simpa using ao
    have cV:=bH.cast (env':=[(3,.p 0 0),(7,.p 2 0),(12,.v (.slice A l.length c)),(13,.v (.int .i64 ((l.length:Nat):Int))),(14,.v (.int .i64 ((k:Nat):Int))),(40,.v (.bool true))]) (by rw [ao])
    refine qah [7,8,9,10,11] [] [(3,.p 0 0),(12,.v (.slice A l.length c)),(13,.v (.int .i64 ((l.length:Nat):Int))),(14,.v (.int .i64 ((k:Nat):Int))),(45,.v (.bool true))] aa cV fun gA bI=>?_
    refine qae (qab ?_)
    refine qa0 bI (b:=true) kz rfl ?_
    refine qan [(4,.v (.bool false))] aa bI fun gB cW=>?_
    refine wp_ret ?_
    refine qaq ?_
    refine qaq ?_
    refine qal ?_
    refine qal ?_
    refine qaq ?_
    refine qal ?_
    refine qaD cW aa.cells (v:=.bool false) kz ?_
    first
     | exact (qeG hq_ ‹_› ‹_›).elim
     | exact (qeH hq_ ‹_› ‹_›).elim
     | exact (us_7 hq_ ‹_› ‹_›).elim
     | exact (qeI hq_ ‹_› ‹_›).elim
     | exact (qeJ hq_ ‹_› ‹_›).elim
     | exact (qdl hq_ ‹_› ‹_›).elim
     | exact (qdm hq_ ‹_› ‹_›).elim
     | exact (qeK hq_ ‹_› ‹_› ‹_›).elim
     | exact (us_n hq_ ‹_› ‹_› ‹_› ‹_› ‹_› ‹_›).elim
   have fq:!(ah ≠ (decide (aE ≥ 0))):=by simpa using ao
   have cX:=bH.cast (env':=[(3,.p 0 0),(7,.p 2 0),(12,.v (.slice A l.length c)),(13,.v (.int .i64 ((l.length:Nat):Int))),(14,.v (.int .i64 ((k:Nat):Int))),(40,.v (.bool false))]) (by rw [ao])
   refine qah [7,8,9,10,11] [] [(3,.p 0 0),(12,.v (.slice A l.length c)),(13,.v (.int .i64 ((l.length:Nat):Int))),(14,.v (.int .i64 ((k:Nat):Int))),(45,.v (.bool (decide (((af.length:Nat):Int) > 0))))] aa cX fun gC aY=>?_
   refine qae (qab ?_)
   refine qau aY (b:=decide (((af.length:Nat):Int) > 0)) kz (fun aZ=>?_) (fun aZ=>?_)
   ·
    have fr:=of_decide_eq_true aZ
    refine qan [(4,.v (.bool false))] aa aY fun gD cY=>?_
    refine wp_ret ?_
    refine qaq ?_
    refine qaq ?_
    refine qal ?_
    refine qal ?_
    refine qaq ?_
    refine qal ?_
    refine qaD cY aa.cells (v:=.bool false) kz ?_
    first
     | exact (qeG hq_ ‹_› ‹_›).elim
     | exact (qeH hq_ ‹_› ‹_›).elim
     | exact (us_7 hq_ ‹_› ‹_›).elim
     | exact (qeI hq_ ‹_› ‹_›).elim
     | exact (qeJ hq_ ‹_› ‹_›).elim
     | exact (qdl hq_ ‹_› ‹_›).elim
     | exact (qdm hq_ ‹_› ‹_›).elim
     | exact (qeK hq_ ‹_› ‹_› ‹_›).elim
     | exact (us_n hq_ ‹_› ‹_› ‹_› ‹_› ‹_› ‹_›).elim
   have ft:=of_decide_eq_false aZ
   refine wp_skip ?_
   refine qar ?_
   refine qar ?_
   refine qab ?_
   refine qaw [0,1] kz ?_
   refine qah [0,1] [] [(3,.p 0 0),(12,.v (.slice A l.length c)),(13,.v (.int .i64 ((l.length:Nat):Int))),(14,.v (.int .i64 (IntKind.i64.wrap (((k:Nat):Int) + 1))))] aa aY fun gE cZ=>?_
   refine qae (qab ?_)
   obtain ⟨bJ,c5,c6⟩:=aa.cutB cZ 1 [⟨bB,0,[.int .i64 n1,.slice A6 s2.length c7,.bool b3,.slice A8 l4.length c9,.slice aJ u5.length aK],true⟩] [(3,.p 0 0),(12,.v (.slice A l.length c)),(13,.v (.int .i64 ((l.length:Nat):Int))),(14,.v (.int .i64 (IntKind.i64.wrap (((k:Nat):Int) + 1))))]
   have da:IntKind.i64.wrap (((k:Nat):Int) + 1) = ((k + 1:Nat):Int):=qaM (by omega)
   rw [da] at bJ
   exact ⟨l.length - (k + 1),by omega,k + 1,rfl,by omega,bJ.pk,c5,((((((aj.trans ak).trans al).trans ag).trans ab).trans ac).trans c6)⟩
  have fu:ae ≠ 8:=by simpa using aX
  refine qan [(3,.p 0 0),(6,.p 1 0),(7,.p 2 0),(12,.v (.slice A l.length c)),(13,.v (.int .i64 ((l.length:Nat):Int))),(14,.v (.int .i64 ((k:Nat):Int))),(23,.v (.int .i64 ae)),(46,.v (.bool (ae == 7)))] aa aW fun gF ba=>?_
  refine qau ba (b:=ae == 7) kz (fun bf=>?_) (fun bf=>?_)
  ·
   have fv:ae = 7:=by simpa using bf
   refine qaI 5 kz aa fun gG bg db dc=>?_
   refine qaH [0,1] [(3,.p 0 0),(12,.v (.slice A l.length c)),(13,.v (.int .i64 ((l.length:Nat):Int))),(14,.v (.int .i64 ((k:Nat):Int))),(49,.v (.slice aC af.length aD))] 3 (qaa (qac (qac (qaa (qaa (qac (qaa qaf))))))) (fun _ h=>h.cells) dc ba fun gH de=>?_
   refine qaA (i:=2) kz (qbK db de (d:=50) (j:=16) (t:=22) (e:=5) (bytes:=1) (z:=.int .u8 0) kz kz kz kz (rfl) (rfl) (by omega) fun fe gI gJ fw fx ap aG df=>?_)
   have dg:=TT.ofW ap aG
   refine ⟨fun _=>dg,?_⟩
   refine qaA (i:=3) kz (qai df (f:=31) (vs:=[.slice aC af.length aD,.slice (some ⟨fe,0,none⟩) 16 16]) (d:=51) kz Tryd.call31 (qc8 _ _ _ _ af (List.replicate 16 0:Bs) _ _ ((cO.move (((ab.trans ac).trans bg).trans ap).step immM (((ab.trans ac).trans bg).trans ap).to').move (Step.refl _ Nil) nilM allF) (qhw (aG.own 0 _ rfl) (F:=fun _ _=>True) (fun _ _ _=>trivial))) ?_)
   rintro e_ gK ⟨rfl,bK⟩
   refine ⟨_,rfl,fun gL dh=>?_⟩
   have ar:=aG.next_nil bK
   have bL:=aG.frN bK
   have bM:=TT.ofW (ap.trans bL) ar
   refine ⟨fun _=>bM,?_⟩
   refine qaH [4] [(3,.p 0 0),(12,.v (.slice A l.length c)),(13,.v (.int .i64 ((l.length:Nat):Int))),(14,.v (.int .i64 ((k:Nat):Int))),(52,.v (.bool (!(decide (af = (List.replicate 16 0:Bs))))))] 0 (qaa (qac (qac (qaa (qaa (qac (qaa qaf))))))) (fun _ h=>h.cells) bM dh fun gM bh=>?_
   refine qaG kz ?_ _
   refine qab ?_
   refine qau bh (b:=!(decide (af = (List.replicate 16 0:Bs)))) kz (fun di=>?_) (fun di=>?_)
   ·
    refine qan [(4,.v (.bool false))] ar bh fun gN dj=>?_
    refine wp_ret ?_
    refine qaq ?_
    refine qaq ?_
    refine qal ?_
    refine qal ?_
    refine qaq ?_
    refine qal ?_
    refine qaD dj ar.cells (v:=.bool false) kz ?_
    first
     | exact (qeG hq_ ‹_› ‹_›).elim
     | exact (qeH hq_ ‹_› ‹_›).elim
     | exact (us_7 hq_ ‹_› ‹_›).elim
     | exact (qeI hq_ ‹_› ‹_›).elim
     | exact (qeJ hq_ ‹_› ‹_›).elim
     | exact (qdl hq_ ‹_› ‹_›).elim
     | exact (qdm hq_ ‹_› ‹_›).elim
     | exact (qeK hq_ ‹_› ‹_› ‹_›).elim
     | exact (us_n hq_ ‹_› ‹_› ‹_› ‹_› ‹_› ‹_›).elim
   refine wp_skip ?_
   refine qar ?_
   refine qar ?_
   refine qab ?_
   refine qaw [0,1] kz ?_
   refine qah [0,1] [] [(3,.p 0 0),(12,.v (.slice A l.length c)),(13,.v (.int .i64 ((l.length:Nat):Int))),(14,.v (.int .i64 (IntKind.i64.wrap (((k:Nat):Int) + 1))))] ar bh fun gO dl=>?_
   refine qae (qab ?_)
   obtain ⟨bN,dp,dq⟩:=ar.cutB dl 1 [⟨bB,0,[.int .i64 n1,.slice A6 s2.length c7,.bool b3,.slice A8 l4.length c9,.slice aJ u5.length aK],true⟩] [(3,.p 0 0),(12,.v (.slice A l.length c)),(13,.v (.int .i64 ((l.length:Nat):Int))),(14,.v (.int .i64 (IntKind.i64.wrap (((k:Nat):Int) + 1))))]
   obtain ⟨dr,dt⟩:=dp.cutR 0 []
   have du:IntKind.i64.wrap (((k:Nat):Int) + 1) = ((k + 1:Nat):Int):=qaM (by omega)
   rw [du] at bN
   exact ⟨l.length - (k + 1),by omega,k + 1,rfl,by omega,bN.pk,dr,((((((((((aj.trans ak).trans al).trans ag).trans ab).trans ac).trans bg).trans ap).trans bL).trans dq).trans dt)⟩
  have fy:ae ≠ 7:=by simpa using bf
  refine wp_seq ?_
  refine qan [(3,.p 0 0),(6,.p 1 0),(7,.p 2 0),(12,.v (.slice A l.length c)),(13,.v (.int .i64 ((l.length:Nat):Int))),(14,.v (.int .i64 ((k:Nat):Int))),(23,.v (.int .i64 ae)),(53,.v (.bool (ae == 9)))] aa ba fun gP aH=>?_
  refine qau aH (b:=ae == 9) kz (fun aI=>?_) (fun aI=>?_)
  ·
   have fz:ae = 9:=by simpa using aI
   refine wp_skip ?_
   refine qab ?_
   refine qa0 aH (b:=ae == 9) kz (aI) ?_
   refine qad [0,1,2,3,4,5,6,7,8,9] kz ?_
   refine qah [0,1,2,3,4] [5,6,7,8,9] [(3,.p 0 0),(7,.p 2 0),(12,.v (.slice A l.length c)),(13,.v (.int .i64 ((l.length:Nat):Int))),(14,.v (.int .i64 ((k:Nat):Int))),(60,.v (.bool (decide (((af.length:Nat):Int) > 0))))] aa aH fun gQ bO=>?_
   refine (Bool.eq_false_or_eq_true (decide (((af.length:Nat):Int) > 0))).elim (fun au=>?_) (fun au=>?_)
   ·
    have fA:=of_decide_eq_true au
    have dv:=bO.cast (env':=[(3,.p 0 0),(7,.p 2 0),(12,.v (.slice A l.length c)),(13,.v (.int .i64 ((l.length:Nat):Int))),(14,.v (.int .i64 ((k:Nat):Int))),(60,.v (.bool true))]) (by rw [au])
    refine qah [5,6,7,8,9] [] [(3,.p 0 0),(12,.v (.slice A l.length c)),(13,.v (.int .i64 ((l.length:Nat):Int))),(14,.v (.int .i64 ((k:Nat):Int))),(65,.v (.bool true))] aa dv fun gR bP=>?_
    refine qae (qab ?_)
    refine qa0 bP (b:=true) kz rfl ?_
    refine qan [(4,.v (.bool false))] aa bP fun gS dw=>?_
    refine wp_ret ?_
    refine qaq ?_
    refine qaq ?_
    refine qal ?_
    refine qal ?_
    refine qaq ?_
    refine qal ?_
    refine qaD dw aa.cells (v:=.bool false) kz ?_
    first
     | exact (qeG hq_ ‹_› ‹_›).elim
     | exact (qeH hq_ ‹_› ‹_›).elim
     | exact (us_7 hq_ ‹_› ‹_›).elim
     | exact (qeI hq_ ‹_› ‹_›).elim
     | exact (qeJ hq_ ‹_› ‹_›).elim
     | exact (qdl hq_ ‹_› ‹_›).elim
     | exact (qdm hq_ ‹_› ‹_›).elim
     | exact (qeK hq_ ‹_› ‹_› ‹_›).elim
     | exact (us_n hq_ ‹_› ‹_› ‹_› ‹_› ‹_› ‹_›).elim
   have fB:=of_decide_eq_false au
   have dx:=bO.cast (env':=[(3,.p 0 0),(7,.p 2 0),(12,.v (.slice A l.length c)),(13,.v (.int .i64 ((l.length:Nat):Int))),(14,.v (.int .i64 ((k:Nat):Int))),(60,.v (.bool false))]) (by rw [au])
   refine qah [5,6,7,8,9] [] [(3,.p 0 0),(12,.v (.slice A l.length c)),(13,.v (.int .i64 ((l.length:Nat):Int))),(14,.v (.int .i64 ((k:Nat):Int))),(65,.v (.bool (decide (((am.length:Nat):Int) > 0))))] aa dx fun gT bi=>?_
   refine qae (qab ?_)
   refine qau bi (b:=decide (((am.length:Nat):Int) > 0)) kz (fun bj=>?_) (fun bj=>?_)
   ·
    have fC:=of_decide_eq_true bj
    refine qan [(4,.v (.bool false))] aa bi fun gU dy=>?_
    refine wp_ret ?_
    refine qaq ?_
    refine qaq ?_
    refine qal ?_
    refine qal ?_
    refine qaq ?_
    refine qal ?_
    refine qaD dy aa.cells (v:=.bool false) kz ?_
    first
     | exact (qeG hq_ ‹_› ‹_›).elim
     | exact (qeH hq_ ‹_› ‹_›).elim
     | exact (us_7 hq_ ‹_› ‹_›).elim
     | exact (qeI hq_ ‹_› ‹_›).elim
     | exact (qeJ hq_ ‹_› ‹_›).elim
     | exact (qdl hq_ ‹_› ‹_›).elim
     | exact (qdm hq_ ‹_› ‹_›).elim
     | exact (qeK hq_ ‹_› ‹_› ‹_›).elim
     | exact (us_n hq_ ‹_› ‹_› ‹_› ‹_› ‹_› ‹_›).elim
   have fD:=of_decide_eq_false bj
   refine wp_skip ?_
   refine qar ?_
   refine qar ?_
   refine qab ?_
   refine qaw [0,1] kz ?_
   refine qah [0,1] [] [(3,.p 0 0),(12,.v (.slice A l.length c)),(13,.v (.int .i64 ((l.length:Nat):Int))),(14,.v (.int .i64 (IntKind.i64.wrap (((k:Nat):Int) + 1))))] aa bi fun gV dA=>?_
   refine qae (qab ?_)
   obtain ⟨bQ,dB,dC⟩:=aa.cutB dA 1 [⟨bB,0,[.int .i64 n1,.slice A6 s2.length c7,.bool b3,.slice A8 l4.length c9,.slice aJ u5.length aK],true⟩] [(3,.p 0 0),(12,.v (.slice A l.length c)),(13,.v (.int .i64 ((l.length:Nat):Int))),(14,.v (.int .i64 (IntKind.i64.wrap (((k:Nat):Int) + 1))))]
   have dD:IntKind.i64.wrap (((k:Nat):Int) + 1) = ((k + 1:Nat):Int):=qaM (by omega)
   rw [dD] at bQ
   exact ⟨l.length - (k + 1),by omega,k + 1,rfl,by omega,bQ.pk,dB,((((((aj.trans ak).trans al).trans ag).trans ab).trans ac).trans dC)⟩
  have fE:ae ≠ 9:=by simpa using aI
  refine qaw [0,1] kz ?_
  refine qah [0,1] [] [(3,.p 0 0),(6,.p 1 0),(7,.p 2 0),(12,.v (.slice A l.length c)),(13,.v (.int .i64 ((l.length:Nat):Int))),(14,.v (.int .i64 ((k:Nat):Int))),(23,.v (.int .i64 ae)),(53,.v (.bool (ae == 11)))] aa aH fun gW bk=>?_
  refine qae (qab ?_)
  refine qau bk (b:=ae == 11) kz (fun bn=>?_) (fun bn=>?_)
  ·
   have fF:ae = 11:=by simpa using bn
   refine qad [0,1,2,3,4,5,6,7,8,9] kz ?_
   refine qah [0,1,2,3,4] [5,6,7,8,9] [(3,.p 0 0),(7,.p 2 0),(12,.v (.slice A l.length c)),(13,.v (.int .i64 ((l.length:Nat):Int))),(14,.v (.int .i64 ((k:Nat):Int))),(60,.v (.bool (decide (((af.length:Nat):Int) > 0))))] aa bk fun gX bR=>?_
   refine (Bool.eq_false_or_eq_true (decide (((af.length:Nat):Int) > 0))).elim (fun av=>?_) (fun av=>?_)
   ·
    have fG:=of_decide_eq_true av
    have dE:=bR.cast (env':=[(3,.p 0 0),(7,.p 2 0),(12,.v (.slice A l.length c)),(13,.v (.int .i64 ((l.length:Nat):Int))),(14,.v (.int .i64 ((k:Nat):Int))),(60,.v (.bool true))]) (by rw [av])
    refine qah [5,6,7,8,9] [] [(3,.p 0 0),(12,.v (.slice A l.length c)),(13,.v (.int .i64 ((l.length:Nat):Int))),(14,.v (.int .i64 ((k:Nat):Int))),(65,.v (.bool true))] aa dE fun gY bS=>?_
    refine qae (qab ?_)
    refine qa0 bS (b:=true) kz rfl ?_
    refine qan [(4,.v (.bool false))] aa bS fun gZ dF=>?_
    refine wp_ret ?_
    refine qaq ?_
    refine qaq ?_
    refine qal ?_
    refine qal ?_
    refine qaq ?_
    refine qal ?_
    refine qaD dF aa.cells (v:=.bool false) kz ?_
    first
     | exact (qeG hq_ ‹_› ‹_›).elim
     | exact (qeH hq_ ‹_› ‹_›).elim
     | exact (us_7 hq_ ‹_› ‹_›).elim
     | exact (qeI hq_ ‹_› ‹_›).elim
     | exact (qeJ hq_ ‹_› ‹_›).elim
     | exact (qdl hq_ ‹_› ‹_›).elim
     | exact (qdm hq_ ‹_› ‹_›).elim
     | exact (qeK hq_ ‹_› ‹_› ‹_›).elim
     | exact (us_n hq_ ‹_› ‹_› ‹_› ‹_› ‹_› ‹_›).elim
   have fH:=of_decide_eq_false av
   have dG:=bR.cast (env':=[(3,.p 0 0),(7,.p 2 0),(12,.v (.slice A l.length c)),(13,.v (.int .i64 ((l.length:Nat):Int))),(14,.v (.int .i64 ((k:Nat):Int))),(60,.v (.bool false))]) (by rw [av])
   refine qah [5,6,7,8,9] [] [(3,.p 0 0),(12,.v (.slice A l.length c)),(13,.v (.int .i64 ((l.length:Nat):Int))),(14,.v (.int .i64 ((k:Nat):Int))),(65,.v (.bool (decide (((am.length:Nat):Int) > 0))))] aa dG fun g6 bo=>?_
   refine qae (qab ?_)
   refine qau bo (b:=decide (((am.length:Nat):Int) > 0)) kz (fun bp=>?_) (fun bp=>?_)
   ·
    have fI:=of_decide_eq_true bp
    refine qan [(4,.v (.bool false))] aa bo fun g7 dH=>?_
    refine wp_ret ?_
    refine qaq ?_
    refine qaq ?_
    refine qal ?_
    refine qal ?_
    refine qaq ?_
    refine qal ?_
    refine qaD dH aa.cells (v:=.bool false) kz ?_
    first
     | exact (qeG hq_ ‹_› ‹_›).elim
     | exact (qeH hq_ ‹_› ‹_›).elim
     | exact (us_7 hq_ ‹_› ‹_›).elim
     | exact (qeI hq_ ‹_› ‹_›).elim
     | exact (qeJ hq_ ‹_› ‹_›).elim
     | exact (qdl hq_ ‹_› ‹_›).elim
     | exact (qdm hq_ ‹_› ‹_›).elim
     | exact (qeK hq_ ‹_› ‹_› ‹_›).elim
     | exact (us_n hq_ ‹_› ‹_› ‹_› ‹_› ‹_› ‹_›).elim
   have fJ:=of_decide_eq_false bp
   refine wp_skip ?_
   refine qar ?_
   refine qar ?_
   refine qab ?_
   refine qaw [0,1] kz ?_
   refine qah [0,1] [] [(3,.p 0 0),(12,.v (.slice A l.length c)),(13,.v (.int .i64 ((l.length:Nat):Int))),(14,.v (.int .i64 (IntKind.i64.wrap (((k:Nat):Int) + 1))))] aa bo fun g8 dI=>?_
   refine qae (qab ?_)
   obtain ⟨bT,dJ,dK⟩:=aa.cutB dI 1 [⟨bB,0,[.int .i64 n1,.slice A6 s2.length c7,.bool b3,.slice A8 l4.length c9,.slice aJ u5.length aK],true⟩] [(3,.p 0 0),(12,.v (.slice A l.length c)),(13,.v (.int .i64 ((l.length:Nat):Int))),(14,.v (.int .i64 (IntKind.i64.wrap (((k:Nat):Int) + 1))))]
   have dL:IntKind.i64.wrap (((k:Nat):Int) + 1) = ((k + 1:Nat):Int):=qaM (by omega)
   rw [dL] at bT
   exact ⟨l.length - (k + 1),by omega,k + 1,rfl,by omega,bT.pk,dJ,((((((aj.trans ak).trans al).trans ag).trans ab).trans ac).trans dK)⟩
  have fK:ae ≠ 11:=by simpa using bn
  refine qan [(3,.p 0 0),(6,.p 1 0),(7,.p 2 0),(12,.v (.slice A l.length c)),(13,.v (.int .i64 ((l.length:Nat):Int))),(14,.v (.int .i64 ((k:Nat):Int))),(66,.v (.bool (ae == 10)))] aa bk fun g9 bq=>?_
  refine qau bq (b:=ae == 10) kz (fun bt=>?_) (fun bt=>?_)
  ·
   have fL:ae = 10:=by simpa using bt
   refine qad [0,1,2,3,4,5,6,7,8,9,10,11,12,13,14,15,16,17,18,19] kz ?_
   refine qah [0,1,2,3] [4,5,6,7,8,9,10,11,12,13,14,15,16,17,18,19] [(3,.p 0 0),(6,.p 1 0),(7,.p 2 0),(12,.v (.slice A l.length c)),(13,.v (.int .i64 ((l.length:Nat):Int))),(14,.v (.int .i64 ((k:Nat):Int))),(71,.v (.bool (decide (aE ≥ 0))))] aa bq fun hC bU=>?_
   refine (Bool.eq_false_or_eq_true (decide (aE ≥ 0))).elim (fun aw=>?_) (fun aw=>?_)
   ·
    have fM:=of_decide_eq_true aw
    have dM:=bU.cast (env':=[(3,.p 0 0),(6,.p 1 0),(7,.p 2 0),(12,.v (.slice A l.length c)),(13,.v (.int .i64 ((l.length:Nat):Int))),(14,.v (.int .i64 ((k:Nat):Int))),(71,.v (.bool true))]) (by rw [aw])
    refine qah [4,5,6,7,8] [9,10,11,12,13,14,15,16,17,18,19] [(3,.p 0 0),(6,.p 1 0),(7,.p 2 0),(12,.v (.slice A l.length c)),(13,.v (.int .i64 ((l.length:Nat):Int))),(14,.v (.int .i64 ((k:Nat):Int))),(76,.v (.bool (!ah)))] aa dM fun hJ bV=>?_
    refine (Bool.eq_false_or_eq_true (!ah)).elim (fun bu=>?_) (fun bu=>?_)
    ·
     have dN:=bV.cast (env':=[(3,.p 0 0),(6,.p 1 0),(7,.p 2 0),(12,.v (.slice A l.length c)),(13,.v (.int .i64 ((l.length:Nat):Int))),(14,.v (.int .i64 ((k:Nat):Int))),(76,.v (.bool true))]) (by rw [bu])
     refine qah [9,10,11,12,13,14,15,16,17,18,19] [] [(3,.p 0 0),(12,.v (.slice A l.length c)),(13,.v (.int .i64 ((l.length:Nat):Int))),(14,.v (.int .i64 ((k:Nat):Int))),(87,.v (.bool true))] aa dN fun hK bW=>?_
     refine qae (qab ?_)
     refine qa0 bW (b:=true) kz rfl ?_
     refine qan [(4,.v (.bool false))] aa bW fun hZ dO=>?_
     refine wp_ret ?_
     refine qaq ?_
     refine qaq ?_
     refine qal ?_
     refine qal ?_
     refine qaq ?_
     refine qal ?_
     refine qaD dO aa.cells (v:=.bool false) kz ?_
     first
      | exact (qeG hq_ ‹_› ‹_›).elim
      | exact (qeH hq_ ‹_› ‹_›).elim
      | exact (us_7 hq_ ‹_› ‹_›).elim
      | exact (qeI hq_ ‹_› ‹_›).elim
      | exact (qeJ hq_ ‹_› ‹_›).elim
      | exact (qdl hq_ ‹_› ‹_›).elim
      | exact (qdm hq_ ‹_› ‹_›).elim
      | exact (qeK hq_ ‹_› ‹_› ‹_›).elim
      | exact (us_n hq_ ‹_› ‹_› ‹_› ‹_› ‹_› ‹_›).elim
    have dP:=bV.cast (env':=[(3,.p 0 0),(6,.p 1 0),(7,.p 2 0),(12,.v (.slice A l.length c)),(13,.v (.int .i64 ((l.length:Nat):Int))),(14,.v (.int .i64 ((k:Nat):Int))),(76,.v (.bool false))]) (by rw [bu])
    refine qah [9,10,11,12] [13,14,15,16,17,18,19] [(3,.p 0 0),(6,.p 1 0),(7,.p 2 0),(12,.v (.slice A l.length c)),(13,.v (.int .i64 ((l.length:Nat):Int))),(14,.v (.int .i64 ((k:Nat):Int))),(76,.v (.bool false)),(80,.v (.bool (decide (aE < 0))))] aa dP fun ia bX=>?_
    refine (Bool.eq_false_or_eq_true (decide (aE < 0))).elim (fun ax=>?_) (fun ax=>?_)
    ·
     have fN:=of_decide_eq_true ax
     have dQ:=bX.cast (env':=[(3,.p 0 0),(6,.p 1 0),(7,.p 2 0),(12,.v (.slice A l.length c)),(13,.v (.int .i64 ((l.length:Nat):Int))),(14,.v (.int .i64 ((k:Nat):Int))),(76,.v (.bool false)),(80,.v (.bool true))]) (by rw [ax])
     refine qah [13,14,15] [16,17,18,19] [(3,.p 0 0),(12,.v (.slice A l.length c)),(13,.v (.int .i64 ((l.length:Nat):Int))),(14,.v (.int .i64 ((k:Nat):Int))),(76,.v (.bool false)),(80,.v (.bool true)),(82,.v (.slice bE bC.length bF)),(83,.v (.agg #[.int .i64 ai,.slice aC af.length aD,.bool ah,.slice aQ am.length aR,.slice aS aP.length aT]))] aa dQ fun ib dR=>?_
     refine qam (qai dR (f:=52) (vs:=[.slice bE bC.length bF,.agg #[.int .i64 ai,.slice aC af.length aD,.bool ah,.slice aQ am.length aR,.slice aS aP.length aT]]) (d:=84) kz Tryd.call52 ( hu _ _ bC _ _ _ _ ⟨cM,(eR.move aa.step nilM aa.imm),(fun i_ x_ h_=>((fh i_ x_ h_).move aa.step nilM aa.imm))⟩ (aF.move (ab.trans ac).step immM (ab.trans ac).to') (by rw [aU]; exact qio hq_ ‹_› ‹_›)) ?_)
     rintro e_ ic ⟨rfl,bY⟩
     refine ⟨_,rfl,fun ig dS=>?_⟩
     have bw:=aa.next_nil bY
     have dT:=aa.frN bY
     refine qah [17,18,19] [] [(3,.p 0 0),(12,.v (.slice A l.length c)),(13,.v (.int .i64 ((l.length:Nat):Int))),(14,.v (.int .i64 ((k:Nat):Int))),(87,.v (.bool false))] bw dS fun ii bZ=>?_
     refine qae (qab ?_)
     refine qap bZ (b:=false) kz rfl ?_
     refine wp_skip ?_
     refine qar ?_
     refine qar ?_
     refine qab ?_
     refine qaw [0,1] kz ?_
     refine qah [0,1] [] [(3,.p 0 0),(12,.v (.slice A l.length c)),(13,.v (.int .i64 ((l.length:Nat):Int))),(14,.v (.int .i64 (IntKind.i64.wrap (((k:Nat):Int) + 1))))] bw bZ fun ij dU=>?_
     refine qae (qab ?_)
     obtain ⟨b8,dV,dW⟩:=bw.cutB dU 1 [⟨bB,0,[.int .i64 n1,.slice A6 s2.length c7,.bool b3,.slice A8 l4.length c9,.slice aJ u5.length aK],true⟩] [(3,.p 0 0),(12,.v (.slice A l.length c)),(13,.v (.int .i64 ((l.length:Nat):Int))),(14,.v (.int .i64 (IntKind.i64.wrap (((k:Nat):Int) + 1))))]
     have dX:IntKind.i64.wrap (((k:Nat):Int) + 1) = ((k + 1:Nat):Int):=qaM (by omega)
     rw [dX] at b8
     exact ⟨l.length - (k + 1),by omega,k + 1,rfl,by omega,b8.pk,dV,(((((((aj.trans ak).trans al).trans ag).trans ab).trans ac).trans dT).trans dW)⟩
    have fO:=of_decide_eq_false ax
    have dY:=bX.cast (env':=[(3,.p 0 0),(6,.p 1 0),(7,.p 2 0),(12,.v (.slice A l.length c)),(13,.v (.int .i64 ((l.length:Nat):Int))),(14,.v (.int .i64 ((k:Nat):Int))),(76,.v (.bool false)),(80,.v (.bool false))]) (by rw [ax])
    refine qah [13,14,15,16,17,18,19] [] [(3,.p 0 0),(12,.v (.slice A l.length c)),(13,.v (.int .i64 ((l.length:Nat):Int))),(14,.v (.int .i64 ((k:Nat):Int))),(87,.v (.bool false))] aa dY fun ik cd=>?_
    refine qae (qab ?_)
    refine qap cd (b:=false) kz rfl ?_
    refine wp_skip ?_
    refine qar ?_
    refine qar ?_
    refine qab ?_
    refine qaw [0,1] kz ?_
    refine qah [0,1] [] [(3,.p 0 0),(12,.v (.slice A l.length c)),(13,.v (.int .i64 ((l.length:Nat):Int))),(14,.v (.int .i64 (IntKind.i64.wrap (((k:Nat):Int) + 1))))] aa cd fun il dZ=>?_
    refine qae (qab ?_)
    obtain ⟨ce,d5,d6⟩:=aa.cutB dZ 1 [⟨bB,0,[.int .i64 n1,.slice A6 s2.length c7,.bool b3,.slice A8 l4.length c9,.slice aJ u5.length aK],true⟩] [(3,.p 0 0),(12,.v (.slice A l.length c)),(13,.v (.int .i64 ((l.length:Nat):Int))),(14,.v (.int .i64 (IntKind.i64.wrap (((k:Nat):Int) + 1))))]
    have d7:IntKind.i64.wrap (((k:Nat):Int) + 1) = ((k + 1:Nat):Int):=qaM (by omega)
    rw [d7] at ce
    exact ⟨l.length - (k + 1),by omega,k + 1,rfl,by omega,ce.pk,d5,((((((aj.trans ak).trans al).trans ag).trans ab).trans ac).trans d6)⟩
   have fP:=of_decide_eq_false aw
   have d8:=bU.cast (env':=[(3,.p 0 0),(6,.p 1 0),(7,.p 2 0),(12,.v (.slice A l.length c)),(13,.v (.int .i64 ((l.length:Nat):Int))),(14,.v (.int .i64 ((k:Nat):Int))),(71,.v (.bool false))]) (by rw [aw])
   refine qah [4,5,6,7,8,9,10,11,12] [13,14,15,16,17,18,19] [(3,.p 0 0),(6,.p 1 0),(7,.p 2 0),(12,.v (.slice A l.length c)),(13,.v (.int .i64 ((l.length:Nat):Int))),(14,.v (.int .i64 ((k:Nat):Int))),(76,.v (.bool false)),(80,.v (.bool (decide (aE < 0))))] aa d8 fun im cm=>?_
   refine (Bool.eq_false_or_eq_true (decide (aE < 0))).elim (fun ay=>?_) (fun ay=>?_)
   ·
    have fQ:=of_decide_eq_true ay
    have d9:=cm.cast (env':=[(3,.p 0 0),(6,.p 1 0),(7,.p 2 0),(12,.v (.slice A l.length c)),(13,.v (.int .i64 ((l.length:Nat):Int))),(14,.v (.int .i64 ((k:Nat):Int))),(76,.v (.bool false)),(80,.v (.bool true))]) (by rw [ay])
    refine qah [13,14,15] [16,17,18,19] [(3,.p 0 0),(12,.v (.slice A l.length c)),(13,.v (.int .i64 ((l.length:Nat):Int))),(14,.v (.int .i64 ((k:Nat):Int))),(76,.v (.bool false)),(80,.v (.bool true)),(82,.v (.slice bE bC.length bF)),(83,.v (.agg #[.int .i64 ai,.slice aC af.length aD,.bool ah,.slice aQ am.length aR,.slice aS aP.length aT]))] aa d9 fun io ea=>?_
    refine qam (qai ea (f:=52) (vs:=[.slice bE bC.length bF,.agg #[.int .i64 ai,.slice aC af.length aD,.bool ah,.slice aQ am.length aR,.slice aS aP.length aT]]) (d:=84) kz Tryd.call52 ( hu _ _ bC _ _ _ _ ⟨cM,(eR.move aa.step nilM aa.imm),(fun i_ x_ h_=>((fh i_ x_ h_).move aa.step nilM aa.imm))⟩ (aF.move (ab.trans ac).step immM (ab.trans ac).to') (by rw [aU]; exact qio hq_ ‹_› ‹_›)) ?_)
    rintro e_ ip ⟨rfl,cq⟩
    refine ⟨_,rfl,fun iq eb=>?_⟩
    have bx:=aa.next_nil cq
    have ec:=aa.frN cq
    refine qah [17,18,19] [] [(3,.p 0 0),(12,.v (.slice A l.length c)),(13,.v (.int .i64 ((l.length:Nat):Int))),(14,.v (.int .i64 ((k:Nat):Int))),(87,.v (.bool false))] bx eb fun ir cr=>?_
    refine qae (qab ?_)
    refine qap cr (b:=false) kz rfl ?_
    refine wp_skip ?_
    refine qar ?_
    refine qar ?_
    refine qab ?_
    refine qaw [0,1] kz ?_
    refine qah [0,1] [] [(3,.p 0 0),(12,.v (.slice A l.length c)),(13,.v (.int .i64 ((l.length:Nat):Int))),(14,.v (.int .i64 (IntKind.i64.wrap (((k:Nat):Int) + 1))))] bx cr fun iu ee=>?_
    refine qae (qab ?_)
    obtain ⟨cu,ef,eg⟩:=bx.cutB ee 1 [⟨bB,0,[.int .i64 n1,.slice A6 s2.length c7,.bool b3,.slice A8 l4.length c9,.slice aJ u5.length aK],true⟩] [(3,.p 0 0),(12,.v (.slice A l.length c)),(13,.v (.int .i64 ((l.length:Nat):Int))),(14,.v (.int .i64 (IntKind.i64.wrap (((k:Nat):Int) + 1))))]
    have eh:IntKind.i64.wrap (((k:Nat):Int) + 1) = ((k + 1:Nat):Int):=qaM (by omega)
    rw [eh] at cu
    exact ⟨l.length - (k + 1),by omega,k + 1,rfl,by omega,cu.pk,ef,(((((((aj.trans ak).trans al).trans ag).trans ab).trans ac).trans ec).trans eg)⟩
   have fR:=of_decide_eq_false ay
   have ei:=cm.cast (env':=[(3,.p 0 0),(6,.p 1 0),(7,.p 2 0),(12,.v (.slice A l.length c)),(13,.v (.int .i64 ((l.length:Nat):Int))),(14,.v (.int .i64 ((k:Nat):Int))),(76,.v (.bool false)),(80,.v (.bool false))]) (by rw [ay])
   refine qah [13,14,15,16,17,18,19] [] [(3,.p 0 0),(12,.v (.slice A l.length c)),(13,.v (.int .i64 ((l.length:Nat):Int))),(14,.v (.int .i64 ((k:Nat):Int))),(87,.v (.bool false))] aa ei fun iv cw=>?_
   refine qae (qab ?_)
   refine qap cw (b:=false) kz rfl ?_
   refine wp_skip ?_
   refine qar ?_
   refine qar ?_
   refine qab ?_
   refine qaw [0,1] kz ?_
   refine qah [0,1] [] [(3,.p 0 0),(12,.v (.slice A l.length c)),(13,.v (.int .i64 ((l.length:Nat):Int))),(14,.v (.int .i64 (IntKind.i64.wrap (((k:Nat):Int) + 1))))] aa cw fun iw ej=>?_
   refine qae (qab ?_)
   obtain ⟨cz,ek,em⟩:=aa.cutB ej 1 [⟨bB,0,[.int .i64 n1,.slice A6 s2.length c7,.bool b3,.slice A8 l4.length c9,.slice aJ u5.length aK],true⟩] [(3,.p 0 0),(12,.v (.slice A l.length c)),(13,.v (.int .i64 ((l.length:Nat):Int))),(14,.v (.int .i64 (IntKind.i64.wrap (((k:Nat):Int) + 1))))]
   have eo:IntKind.i64.wrap (((k:Nat):Int) + 1) = ((k + 1:Nat):Int):=qaM (by omega)
   rw [eo] at cz
   exact ⟨l.length - (k + 1),by omega,k + 1,rfl,by omega,cz.pk,ek,((((((aj.trans ak).trans al).trans ag).trans ab).trans ac).trans em)⟩
  have fS:ae ≠ 10:=by simpa using bt
  refine qaI 8 kz aa fun ix ep cA eu=>?_
  refine qaH [0,1,2,3,4,5] [(3,.p 0 0),(12,.v (.slice A l.length c)),(13,.v (.int .i64 ((l.length:Nat):Int))),(14,.v (.int .i64 ((k:Nat):Int))),(25,.v (.int .i64 ai)),(27,.v (.int .i64 ae)),(29,.v (.int .i64 aM))] 2 (qaa (qac (qac (qaa (qaa (qac (qaa qaf))))))) (fun _ h=>h.cells) eu bq fun iy ew=>?_
  refine qaA (i:=6) kz (qai ew (f:=75) (vs:=[.int .i64 ae,.int .i64 aM]) (d:=30) kz Tryd.call75 (qeM ae aM _) ?_)
  rintro e_ iz ⟨rfl,cB⟩
  refine ⟨_,rfl,fun iA ey=>?_⟩
  have az:=cA.next_nil cB
  have cC:=cA.frN cB
  have cD:=TT.ofW cC az
  refine ⟨fun _=>cD,?_⟩
  refine qaH [7] [(3,.p 0 0),(12,.v (.slice A l.length c)),(13,.v (.int .i64 ((l.length:Nat):Int))),(14,.v (.int .i64 ((k:Nat):Int))),(31,.v (.bool (ai != (qbd ae aM))))] 0 (qaa (qac (qac (qaa (qaa (qac (qaa qaf))))))) (fun _ h=>h.cells) cD ey fun iB bz=>?_
  refine qaG kz ?_ _
  refine qab ?_
  refine qau bz (b:=ai != (qbd ae aM)) kz (fun bA=>?_) (fun bA=>?_)
  ·
   have fT:ai ≠ (qbd ae aM):=by simpa using bA
   refine qan [(4,.v (.bool false))] az bz fun iC ez=>?_
   refine wp_ret ?_
   refine qaq ?_
   refine qaq ?_
   refine qal ?_
   refine qal ?_
   refine qaq ?_
   refine qal ?_
   refine qaD ez az.cells (v:=.bool false) kz ?_
   first
    | exact (qeG hq_ ‹_› ‹_›).elim
    | exact (qeH hq_ ‹_› ‹_›).elim
    | exact (us_7 hq_ ‹_› ‹_›).elim
    | exact (qeI hq_ ‹_› ‹_›).elim
    | exact (qeJ hq_ ‹_› ‹_›).elim
    | exact (qdl hq_ ‹_› ‹_›).elim
    | exact (qdm hq_ ‹_› ‹_›).elim
    | exact (qeK hq_ ‹_› ‹_› ‹_›).elim
    | exact (us_n hq_ ‹_› ‹_› ‹_› ‹_› ‹_› ‹_›).elim
  have fU:ai = (qbd ae aM):=by simpa using bA
  refine wp_skip ?_
  refine qar ?_
  refine qar ?_
  refine qab ?_
  refine qaw [0,1] kz ?_
  refine qah [0,1] [] [(3,.p 0 0),(12,.v (.slice A l.length c)),(13,.v (.int .i64 ((l.length:Nat):Int))),(14,.v (.int .i64 (IntKind.i64.wrap (((k:Nat):Int) + 1))))] az bz fun iD eB=>?_
  refine qae (qab ?_)
  obtain ⟨cE,eC,eD⟩:=az.cutB eB 1 [⟨bB,0,[.int .i64 n1,.slice A6 s2.length c7,.bool b3,.slice A8 l4.length c9,.slice aJ u5.length aK],true⟩] [(3,.p 0 0),(12,.v (.slice A l.length c)),(13,.v (.int .i64 ((l.length:Nat):Int))),(14,.v (.int .i64 (IntKind.i64.wrap (((k:Nat):Int) + 1))))]
  have eE:IntKind.i64.wrap (((k:Nat):Int) + 1) = ((k + 1:Nat):Int):=qaM (by omega)
  rw [eE] at cE
  exact ⟨l.length - (k + 1),by omega,k + 1,rfl,by omega,cE.pk,eC,((((((((aj.trans ak).trans al).trans ag).trans ab).trans ac).trans ep).trans cC).trans eD)⟩
 have fV:=of_decide_eq_false cJ
 refine wp_exit ?_
 refine qaB ?_
 refine qaB ?_
 refine qaQ ?_
 refine qab ?_
 refine qan [(4,.v (.bool true))] aB cI fun iE eF=>?_
 refine wp_ret ?_
 refine qaD eF aB.cells (v:=.bool true) kz ?_
 exact ⟨rfl,aB.step⟩
theorem qhA:∀ d,UsOK (qhu d)
 | 0=>sUs fun _ _ _ _ _ _ _ _ _ h=>h.elim
 | d + 1=>sUs (qhA d)
def ToOK (v:Int) (flex:Bool) (T:List Fld → Tree → Tree → Prop):Prop:=∀ (A:Option Addr) (c:Nat) (l:List Fld) (ct:List Value) (t:Tree) (cg:List Value) (g:Tree) (w:World) (F:Nat → Nat → Prop),FldsR w F A c l → TreeR w F ct t → TreeR w F cg g → plains l → T l t g →
  Calls Tryd.prog 23 #[.slice A l.length c,.int .i64 v,.bool flex,.agg ct.toArray,.agg cg.toArray] w (qbD w (.bool true))
theorem qf5 {v:Int} {flex:Bool} {T:List Fld → Tree → Tree → Prop} (hT:ToOK v flex T) (cf:List Value) (f:Fld) (ct:List Value) (t:Tree) (cg:List Value) (g:Tree) (w:World) (F:Nat → Nat → Prop) (hf:FldR w F cf f) (hpl:plains f.sub) (bw:f.kind ≠ 11) (ht:TreeR w F ct t) (hg:TreeR w F cg g) (hq:ToF0 T v f t g) :
  Calls Tryd.prog 51 #[.agg cf.toArray,.int .i64 v,.bool flex,.agg ct.toArray,.agg cg.toArray] w (qbD w (.bool true)):=by
 obtain ⟨k1,y2,y3,y4,y5,y6,y7,l8,A9,dW,d8,rfl,rfl,iL,jc⟩:=hf.open_
 have jd:=iL.small
 obtain ⟨ac,ab,ae,af,ag,ai,aj,dX,dY,dZ,d5,kM,rfl,rfl,aH,kN,oT,oU⟩:=ht.open_
 have je:=aH.small
 have jf:=kN.small
 obtain ⟨aO,ah,ap,d6,d7,al,am,d9,ea,eb,ec,kO,rfl,rfl,bu,kP,oV,oW⟩:=hg.open_
 have jg:=bu.small
 have jh:=kP.small
 replace hpl:plains l8:=hpl
 have bw:k1 ≠ 11:=bw
 refine enter (n:=124) Tryd.func51 rfl Tryd.ntmps51 kz fun a hE=>?_
 have hW:=WOk.start w Nil
 refine qad [0,1,2,3] kz ?_
 refine qam (qaY hW hE (d:=5) (cs:=[.int .i64 k1,.int .i64 y2,.int .i64 y3,.int .i64 y4,.int .i64 y5,.int .i64 y6,.int .i64 y7,.slice A9 l8.length dW]) kz fun oX oY oZ kQ kR kS iM iN=>?_)
 refine qam (qaY iM iN (d:=8) (cs:=[.int .i64 ac,.slice ai ab.length aj,.bool ae,.slice dX af.length dY,.slice dZ ag.length d5]) kz fun o5 o6 o7 kT kU kV iO iP=>?_)
 refine qam (qaY iO iP (d:=9) (cs:=[.int .i64 aO,.slice al ah.length am,.bool ap,.slice d9 d6.length ea,.slice eb d7.length ec]) kz fun o9 pa pb kW kX kY cL iQ=>?_)
 refine qah [3] [] [(1,.v (.int .i64 v)),(2,.v (.bool flex)),(5,.p 0 0),(8,.p 1 0),(9,.p 2 0)] cL iQ fun pc iR=>?_
 refine qae (qab ?_)
 refine qad [0,1,2,3,4] kz ?_
 refine qah [0,1,2] [3,4] [(1,.v (.int .i64 v)),(2,.v (.bool flex)),(5,.p 0 0),(8,.p 1 0),(9,.p 2 0),(17,.v (.agg #[.int .i64 k1,.int .i64 y2,.int .i64 y3,.int .i64 y4,.int .i64 y5,.int .i64 y6,.int .i64 y7,.slice A9 l8.length dW])),(18,.v (.int .i64 v)),(19,.v (.agg #[.int .i64 ac,.slice ai ab.length aj,.bool ae,.slice dX af.length dY,.slice dZ ag.length d5]))] cL iR fun pd iS=>?_
 refine qam (qai iS (f:=73) (vs:=[.agg #[.int .i64 k1,.int .i64 y2,.int .i64 y3,.int .i64 y4,.int .i64 y5,.int .i64 y6,.int .i64 y7,.slice A9 l8.length dW],.int .i64 v,.agg #[.int .i64 ac,.slice ai ab.length aj,.bool ae,.slice dX af.length dY,.slice dZ ag.length d5]]) (d:=20) kz Tryd.call73 (qiP k1 y2 y3 y4 y5 y6 y7 l8 _ _ v ac ab ae af ag _ _ _ _ _ _ _) ?_)
 rintro e_ pe ⟨rfl,ee⟩
 refine ⟨_,rfl,fun pf iT=>?_⟩
 have aa:=cL.next_nil ee
 have kZ:=cL.frN ee
 refine qah [4] [] [(1,.v (.int .i64 v)),(2,.v (.bool flex)),(5,.p 0 0),(8,.p 1 0),(9,.p 2 0),(11,.v (.bool (Fld.nul (Fld.mk k1 y2 y3 y4 y5 y6 y7 l8) v (Tree.mk ac ab ae af ag))))] aa iT fun pg iU=>?_
 refine qae (qab ?_)
 refine qad [0,1,2,3,4,5,6,7,8,9] kz ?_
 refine qah [0,1,2,3] [4,5,6,7,8,9] [(1,.v (.int .i64 v)),(2,.v (.bool flex)),(5,.p 0 0),(8,.p 1 0),(9,.p 2 0),(11,.v (.bool (Fld.nul (Fld.mk k1 y2 y3 y4 y5 y6 y7 l8) v (Tree.mk ac ab ae af ag)))),(24,.v (.bool (decide (y4 ≥ 0))))] aa iU fun ph ef=>?_
 refine (Bool.eq_false_or_eq_true (decide (y4 ≥ 0))).elim (fun bx=>?_) (fun bx=>?_)
 ·
  have k5:=of_decide_eq_true bx
  have iV:=ef.cast (env':=[(1,.v (.int .i64 v)),(2,.v (.bool flex)),(5,.p 0 0),(8,.p 1 0),(9,.p 2 0),(11,.v (.bool (Fld.nul (Fld.mk k1 y2 y3 y4 y5 y6 y7 l8) v (Tree.mk ac ab ae af ag)))),(24,.v (.bool true))]) (by rw [bx])
  refine qah [4,5,6,7,8,9] [] [(1,.v (.int .i64 v)),(2,.v (.bool flex)),(5,.p 0 0),(8,.p 1 0),(9,.p 2 0),(11,.v (.bool (Fld.nul (Fld.mk k1 y2 y3 y4 y5 y6 y7 l8) v (Tree.mk ac ab ae af ag)))),(12,.v (.bool (decide (v ≥ y4))))] aa iV fun pi iW=>?_
  refine qae (qab ?_)
  refine wp_seq ?_
  refine qad [0,1,2,3,4,5,6,7,8,9,10,11,12,13,14,15,16] kz ?_
  refine qah [0,1,2,3] [4,5,6,7,8,9,10,11,12,13,14,15,16] [(1,.v (.int .i64 v)),(2,.v (.bool flex)),(5,.p 0 0),(8,.p 1 0),(9,.p 2 0),(11,.v (.bool (Fld.nul (Fld.mk k1 y2 y3 y4 y5 y6 y7 l8) v (Tree.mk ac ab ae af ag)))),(12,.v (.bool (decide (v ≥ y4)))),(33,.v (.bool (k1 == 8)))] aa iW fun pj cM=>?_
  refine (Bool.eq_false_or_eq_true (k1 == 8)).elim (fun ak=>?_) (fun ak=>?_)
  ·
   have ji:k1 = 8:=by simpa using ak
   have eg:=cM.cast (env':=[(1,.v (.int .i64 v)),(2,.v (.bool flex)),(5,.p 0 0),(8,.p 1 0),(9,.p 2 0),(11,.v (.bool (Fld.nul (Fld.mk k1 y2 y3 y4 y5 y6 y7 l8) v (Tree.mk ac ab ae af ag)))),(12,.v (.bool (decide (v ≥ y4)))),(33,.v (.bool true))]) (by rw [ak])
   refine qah [4,5,6,7,8,9,10,11,12,13,14,15,16] [] [(1,.v (.int .i64 v)),(2,.v (.bool flex)),(5,.p 0 0),(8,.p 1 0),(9,.p 2 0),(11,.v (.bool (Fld.nul (Fld.mk k1 y2 y3 y4 y5 y6 y7 l8) v (Tree.mk ac ab ae af ag)))),(46,.v (.bool (!(ap == (Fld.nul (Fld.mk k1 y2 y3 y4 y5 y6 y7 l8) v (Tree.mk ac ab ae af ag))))))] aa eg fun k6 bz=>?_
   refine qae (qab ?_)
   refine qau bz (b:=!(ap == (Fld.nul (Fld.mk k1 y2 y3 y4 y5 y6 y7 l8) v (Tree.mk ac ab ae af ag)))) kz (fun bA=>?_) (fun bA=>?_)
   ·
    have jj:!(ap = (Fld.nul (Fld.mk k1 y2 y3 y4 y5 y6 y7 l8) v (Tree.mk ac ab ae af ag))):=by simpa using bA
    refine qan [(10,.v (.bool false))] aa bz fun k7 eh=>?_
    refine wp_ret ?_
    refine qal ?_
    refine qaD eh aa.cells (v:=.bool false) kz ?_
    first
     | exact (qhx hq ‹_› ‹_›).elim
     | exact (qfg hq ‹_› ‹_›).elim
     | exact (qeL hq ‹_› ‹_› ‹_›).elim
   have jk:!(ap ≠ (Fld.nul (Fld.mk k1 y2 y3 y4 y5 y6 y7 l8) v (Tree.mk ac ab ae af ag))):=by simpa using bA
   refine wp_skip ?_
   refine qab ?_
   refine wp_seq ?_
   refine qan [(1,.v (.int .i64 v)),(2,.v (.bool flex)),(5,.p 0 0),(8,.p 1 0),(9,.p 2 0),(47,.v (.bool (Fld.nul (Fld.mk k1 y2 y3 y4 y5 y6 y7 l8) v (Tree.mk ac ab ae af ag))))] aa bz fun k8 bB=>?_
   refine qau bB (b:=Fld.nul (Fld.mk k1 y2 y3 y4 y5 y6 y7 l8) v (Tree.mk ac ab ae af ag)) kz (fun ei=>?_) (fun ei=>?_)
   ·
    refine qan [(10,.v (.bool true))] aa bB fun k9 ej=>?_
    refine wp_ret ?_
    refine qal ?_
    refine qaD ej aa.cells (v:=.bool true) kz ?_
    exact ⟨rfl,aa.step⟩
   refine wp_skip ?_
   refine qab ?_
   refine wp_seq ?_
   refine qan [(1,.v (.int .i64 v)),(2,.v (.bool flex)),(5,.p 0 0),(8,.p 1 0),(9,.p 2 0),(49,.v (.int .i64 k1))] aa bB fun la ek=>?_
   refine wp_block ?_
   refine wp_seq ?_
   refine qan [(1,.v (.int .i64 v)),(2,.v (.bool flex)),(5,.p 0 0),(8,.p 1 0),(9,.p 2 0),(49,.v (.int .i64 k1)),(50,.v (.bool (k1 == 8)))] aa ek fun lb bC=>?_
   refine qa0 bC (b:=k1 == 8) kz (ak) ?_
   refine wp_skip ?_
   refine qab ?_
   refine qa0 bC (b:=k1 == 8) kz (ak) ?_
   refine qaI 6 kz aa fun lc jl aV em=>?_
   refine qaH [0,1,2,3] [(54,.v (.slice al ah.length am)),(56,.v (.slice ai ab.length aj))] 3 (qaa (qac (qaa qaf))) (fun _ h=>h.cells) em bC fun ld eo=>?_
   have iX:=qa4 ab
   refine qaA (i:=4) kz (qai eo (f:=54) (vs:=[.slice ai ab.length aj]) (d:=57) kz Tryd.call54 (qcI _ _ ab (aH.move aV.step nilM aV.imm).le _) ?_)
   rintro e_ lf ⟨rfl,cN⟩
   refine ⟨_,rfl,fun lg ep=>?_⟩
   have az:=aV.next_nil cN
   have cO:=aV.frN cN
   have eu:=TT.ofW cO az
   refine ⟨fun _=>eu,?_⟩
   refine qaA (i:=5) kz (qai ep (f:=31) (vs:=[.slice al ah.length am,.slice ai ((qax ab).length) aj]) (d:=58) kz Tryd.call31 (qc8 _ _ _ _ ah (qax ab) _ _ ((bu.move az.step nilM az.imm).move (Step.refl _ Nil) nilM allF) (((aH.take 32767).move az.step nilM az.imm).move (Step.refl _ Nil) nilM allF)) ?_)
   rintro e_ lh ⟨rfl,cP⟩
   refine ⟨_,rfl,fun li ew=>?_⟩
   have aW:=az.next_nil cP
   have ey:=az.frN cP
   have ez:=TT.ofW (cO.trans ey) aW
   refine ⟨fun _=>ez,?_⟩
   refine qaA (i:=6) kz (qa6 [10] aW.cells ew (env':=[(10,.v (.bool (decide (ah = (qax ab)))))]) kz fun lj eB=>?_)
   refine ⟨fun h=>absurd rfl h,?_⟩
   refine qaG kz ?_ _
   refine qab ?_
   refine wp_ret ?_
   refine qaq ?_
   refine qal ?_
   refine qaD eB aW.cells (v:=.bool (decide (ah = (qax ab)))) kz ?_
   refine ⟨congrArg (fun b_=>Ending.returned (Value.bool b_)) ?_,aW.step⟩
   first
    | exact qc9 hq ‹_› ‹_›
    | exact qda hq ‹_› ‹_›
    | exact to_u hq ‹_› ‹_›
    | exact to_m hq ‹_› ‹_› ‹_› ‹_› ‹_› ‹_›
  have jm:k1 ≠ 8:=by simpa using ak
  have eC:=cM.cast (env':=[(1,.v (.int .i64 v)),(2,.v (.bool flex)),(5,.p 0 0),(8,.p 1 0),(9,.p 2 0),(11,.v (.bool (Fld.nul (Fld.mk k1 y2 y3 y4 y5 y6 y7 l8) v (Tree.mk ac ab ae af ag)))),(12,.v (.bool (decide (v ≥ y4)))),(33,.v (.bool false))]) (by rw [ak])
  refine qah [4,5,6,7,8] [9,10,11,12,13,14,15,16] [(1,.v (.int .i64 v)),(2,.v (.bool flex)),(5,.p 0 0),(8,.p 1 0),(9,.p 2 0),(11,.v (.bool (Fld.nul (Fld.mk k1 y2 y3 y4 y5 y6 y7 l8) v (Tree.mk ac ab ae af ag)))),(12,.v (.bool (decide (v ≥ y4)))),(38,.v (.bool (k1 == 10)))] aa eC fun lm cQ=>?_
  refine (Bool.eq_false_or_eq_true (k1 == 10)).elim (fun ay=>?_) (fun ay=>?_)
  ·
   have jn:k1 = 10:=by simpa using ay
   have eD:=cQ.cast (env':=[(1,.v (.int .i64 v)),(2,.v (.bool flex)),(5,.p 0 0),(8,.p 1 0),(9,.p 2 0),(11,.v (.bool (Fld.nul (Fld.mk k1 y2 y3 y4 y5 y6 y7 l8) v (Tree.mk ac ab ae af ag)))),(12,.v (.bool (decide (v ≥ y4)))),(38,.v (.bool true))]) (by rw [ay])
   refine qah [9,10,11,12,13,14,15,16] [] [(1,.v (.int .i64 v)),(2,.v (.bool flex)),(5,.p 0 0),(8,.p 1 0),(9,.p 2 0),(11,.v (.bool (Fld.nul (Fld.mk k1 y2 y3 y4 y5 y6 y7 l8) v (Tree.mk ac ab ae af ag)))),(46,.v (.bool (!(ap == (Fld.nul (Fld.mk k1 y2 y3 y4 y5 y6 y7 l8) v (Tree.mk ac ab ae af ag))))))] aa eD fun ln bD=>?_
   refine qae (qab ?_)
   refine qau bD (b:=!(ap == (Fld.nul (Fld.mk k1 y2 y3 y4 y5 y6 y7 l8) v (Tree.mk ac ab ae af ag)))) kz (fun bE=>?_) (fun bE=>?_)
   ·
    have jo:!(ap = (Fld.nul (Fld.mk k1 y2 y3 y4 y5 y6 y7 l8) v (Tree.mk ac ab ae af ag))):=by simpa using bE
    refine qan [(10,.v (.bool false))] aa bD fun lp eE=>?_
    refine wp_ret ?_
    refine qal ?_
    refine qaD eE aa.cells (v:=.bool false) kz ?_
    first
     | exact (qhx hq ‹_› ‹_›).elim
     | exact (qfg hq ‹_› ‹_›).elim
     | exact (qeL hq ‹_› ‹_› ‹_›).elim
   have jp:!(ap ≠ (Fld.nul (Fld.mk k1 y2 y3 y4 y5 y6 y7 l8) v (Tree.mk ac ab ae af ag))):=by simpa using bE
   refine wp_skip ?_
   refine qab ?_
   refine wp_seq ?_
   refine qan [(1,.v (.int .i64 v)),(2,.v (.bool flex)),(5,.p 0 0),(8,.p 1 0),(9,.p 2 0),(47,.v (.bool (Fld.nul (Fld.mk k1 y2 y3 y4 y5 y6 y7 l8) v (Tree.mk ac ab ae af ag))))] aa bD fun lq bF=>?_
   refine qau bF (b:=Fld.nul (Fld.mk k1 y2 y3 y4 y5 y6 y7 l8) v (Tree.mk ac ab ae af ag)) kz (fun eF=>?_) (fun eF=>?_)
   ·
    refine qan [(10,.v (.bool true))] aa bF fun lr eG=>?_
    refine wp_ret ?_
    refine qal ?_
    refine qaD eG aa.cells (v:=.bool true) kz ?_
    exact ⟨rfl,aa.step⟩
   refine wp_skip ?_
   refine qab ?_
   refine wp_seq ?_
   refine qan [(1,.v (.int .i64 v)),(2,.v (.bool flex)),(5,.p 0 0),(8,.p 1 0),(9,.p 2 0),(49,.v (.int .i64 k1))] aa bF fun ls eH=>?_
   refine wp_block ?_
   refine wp_seq ?_
   refine qan [(1,.v (.int .i64 v)),(2,.v (.bool flex)),(5,.p 0 0),(8,.p 1 0),(9,.p 2 0),(49,.v (.int .i64 k1)),(50,.v (.bool (k1 == 8)))] aa eH fun lu cR=>?_
   refine qap cR (b:=k1 == 8) kz (ak) ?_
   refine qaw [0,1] kz ?_
   refine qah [0,1] [] [(1,.v (.int .i64 v)),(2,.v (.bool flex)),(5,.p 0 0),(8,.p 1 0),(9,.p 2 0),(49,.v (.int .i64 k1)),(50,.v (.bool (k1 == 9)))] aa cR fun lv bG=>?_
   refine qae (qab ?_)
   refine qau bG (b:=k1 == 9) kz (fun bH=>?_) (fun bH=>?_)
   ·
    have jq:k1 = 9:=by simpa using bH
    refine qaI 6 kz aa fun lw jr aX eI=>?_
    refine qaH [0,1,2,3] [(54,.v (.slice al ah.length am)),(56,.v (.slice ai ab.length aj))] 3 (qaa (qac (qaa qaf))) (fun _ h=>h.cells) eI bG fun lx eJ=>?_
    have iY:=qa4 ab
    refine qaA (i:=4) kz (qai eJ (f:=54) (vs:=[.slice ai ab.length aj]) (d:=57) kz Tryd.call54 (qcI _ _ ab (aH.move aX.step nilM aX.imm).le _) ?_)
    rintro e_ ly ⟨rfl,cS⟩
    refine ⟨_,rfl,fun lz eK=>?_⟩
    have aA:=aX.next_nil cS
    have cT:=aX.frN cS
    have eL:=TT.ofW cT aA
    refine ⟨fun _=>eL,?_⟩
    refine qaA (i:=5) kz (qai eK (f:=31) (vs:=[.slice al ah.length am,.slice ai ((qax ab).length) aj]) (d:=58) kz Tryd.call31 (qc8 _ _ _ _ ah (qax ab) _ _ ((bu.move aA.step nilM aA.imm).move (Step.refl _ Nil) nilM allF) (((aH.take 32767).move aA.step nilM aA.imm).move (Step.refl _ Nil) nilM allF)) ?_)
    rintro e_ lA ⟨rfl,cU⟩
    refine ⟨_,rfl,fun lB eM=>?_⟩
    have aY:=aA.next_nil cU
    have eN:=aA.frN cU
    have eO:=TT.ofW (cT.trans eN) aY
    refine ⟨fun _=>eO,?_⟩
    refine qaA (i:=6) kz (qa6 [10] aY.cells eM (env':=[(10,.v (.bool (decide (ah = (qax ab)))))]) kz fun lC eP=>?_)
    refine ⟨fun h=>absurd rfl h,?_⟩
    refine qaG kz ?_ _
    refine qab ?_
    refine wp_ret ?_
    refine qaq ?_
    refine qal ?_
    refine qaD eP aY.cells (v:=.bool (decide (ah = (qax ab)))) kz ?_
    refine ⟨congrArg (fun b_=>Ending.returned (Value.bool b_)) ?_,aY.step⟩
    first
     | exact qc9 hq ‹_› ‹_›
     | exact qda hq ‹_› ‹_›
     | exact to_u hq ‹_› ‹_›
     | exact to_m hq ‹_› ‹_› ‹_› ‹_› ‹_› ‹_›
   have js:k1 ≠ 9:=by simpa using bH
   refine qan [(1,.v (.int .i64 v)),(2,.v (.bool flex)),(5,.p 0 0),(8,.p 1 0),(9,.p 2 0),(49,.v (.int .i64 k1)),(59,.v (.bool (k1 == 7)))] aa bG fun lD bI=>?_
   refine qau bI (b:=k1 == 7) kz (fun bJ=>?_) (fun bJ=>?_)
   ·
    have jt:k1 = 7:=by simpa using bJ
    refine qad [0,1] kz ?_
    refine qam (qbK aa bI (d:=61) (j:=16) (t:=22) (e:=5) (bytes:=1) (z:=.int .u8 0) kz kz kz kz (rfl) (rfl) (by omega) fun ar lE lF ju jv jw aP eQ=>?_)
    refine qah [1] [] [(8,.p 1 0),(9,.p 2 0),(13,.v (.slice (some ⟨ar,0,none⟩) 16 16))] aP eQ fun lG eR=>?_
    refine qae (qab ?_)
    refine qad [0,1,2,3] kz ?_
    refine qah [0,1,2] [3] [(9,.p 2 0),(13,.v (.slice (some ⟨ar,0,none⟩) 16 16)),(62,.v (.slice (some ⟨ar,0,none⟩) 16 16)),(64,.v (.slice ai ab.length aj))] aP eR fun lH eS=>?_
    refine qam (qbU aP eS (k:=0) (d:=65) (t:=22) (u:=22) (e:=5) (bytes:=1) (A:=(some ⟨ar,0,none⟩)) (As:=ai) (m:=ab.length) (cs:=aj) (m0:=16) (c:=16) (xs:=(List.replicate 16 (.int .u8 0))) (news:=bc ab) kz kz rfl (aH.move aP.step nilM aP.imm).src fun lI lJ jx eU eV=>?_)
    have eW:(⟨(some ⟨ar,0,none⟩),16,5,1,16,qba (List.replicate 16 (.int .u8 0)) 0 ((bc ab).take (min ab.length 16))⟩:Rw) = brow (some ⟨ar,0,none⟩) 16 5 (qa7 ab):=qcN _ _ _
    obtain ⟨aI,jy⟩:=eU.rowEq 0 [brow (some ⟨ar,0,none⟩) 16 5 (qa7 ab)] eW
    have eX:=EnvOk.pick eV (ks:=[9,13,62,64,65]) (env':=[(9,.p 2 0),(13,.v (.slice (some ⟨ar,0,none⟩) 16 16)),(62,.v (.slice (some ⟨ar,0,none⟩) 16 16)),(64,.v (.slice ai ab.length aj)),(65,.v (.int .i64 ((min ab.length 16:Nat):Int)))]) kz
    have eY:=eX.cast (env':=[(9,.p 2 0),(13,.v (.slice (some ⟨ar,0,none⟩) ((qa7 ab).length) 16)),(62,.v (.slice (some ⟨ar,0,none⟩) ((qa7 ab).length) 16)),(64,.v (.slice ai ab.length aj)),(65,.v (.int .i64 ((min ab.length 16:Nat):Int)))]) (by rw [qa3 _])
    refine qae (qab ?_)
    refine qad [0,1,2,3,4] kz ?_
    refine qah [0,1,2] [3,4] [(67,.v (.slice al ah.length am)),(68,.v (.slice (some ⟨ar,0,none⟩) ((qa7 ab).length) 16))] aI eY fun lK eZ=>?_
    refine qam (qai eZ (f:=31) (vs:=[.slice al ah.length am,.slice (some ⟨ar,0,none⟩) ((qa7 ab).length) 16]) (d:=69) kz Tryd.call31 (qc8 _ _ _ _ ah (qa7 ab) _ _ ((bu.move aI.step nilM aI.imm).move (Step.refl _ Nil) nilM allF) (qbC (aI.own 0 _ rfl) (by first | omega | (rw [qa3]; decide) | (simp only [be_length]; exact Nat.le_trans (qbb _) (by decide)) | (have:=hroom; omega) | (have:=hmade; omega) | (simp only [List.length_append,List.length_nil]; omega)) (F:=fun _ _=>True) (fun _ _ _=>trivial))) ?_)
    rintro e_ lL ⟨rfl,cV⟩
    refine ⟨_,rfl,fun lM e9=>?_⟩
    have bK:=aI.next_nil cV
    have jz:=aI.frN cV
    refine qah [4] [] [(10,.v (.bool (decide (ah = qa7 ab))))] bK e9 fun lN fa=>?_
    refine qae (qab ?_)
    refine wp_ret ?_
    refine qaq ?_
    refine qal ?_
    refine qaD fa bK.cells (v:=.bool (decide (ah = qa7 ab))) kz ?_
    refine ⟨congrArg (fun b_=>Ending.returned (Value.bool b_)) ?_,bK.step⟩
    first
     | exact qc9 hq ‹_› ‹_›
     | exact qda hq ‹_› ‹_›
     | exact to_u hq ‹_› ‹_›
     | exact to_m hq ‹_› ‹_› ‹_› ‹_› ‹_› ‹_›
   have jA:k1 ≠ 7:=by simpa using bJ
   refine qan [(1,.v (.int .i64 v)),(2,.v (.bool flex)),(5,.p 0 0),(8,.p 1 0),(9,.p 2 0),(49,.v (.int .i64 k1)),(70,.v (.bool (k1 == 10)))] aa bI fun lO cW=>?_
   refine qa0 cW (b:=k1 == 10) kz (ay) ?_
   refine qad [0,1,2,3,4,5,6,7] kz ?_
   refine qah [0,1,2,3,4,5] [6,7] [(73,.v (.slice A9 l8.length dW)),(74,.v (.int .i64 v)),(75,.v (.bool flex)),(76,.v (.agg #[.int .i64 ac,.slice ai ab.length aj,.bool ae,.slice dX af.length dY,.slice dZ ag.length d5])),(77,.v (.agg #[.int .i64 aO,.slice al ah.length am,.bool ap,.slice d9 d6.length ea,.slice eb d7.length ec]))] aa cW fun lP fb=>?_
   refine qam (qai fb (f:=23) (vs:=[.slice A9 l8.length dW,.int .i64 v,.bool flex,.agg #[.int .i64 ac,.slice ai ab.length aj,.bool ae,.slice dX af.length dY,.slice dZ ag.length d5],.agg #[.int .i64 aO,.slice al ah.length am,.bool ap,.slice d9 d6.length ea,.slice eb d7.length ec]]) (d:=78) kz Tryd.call23 ( hT _ _ l8 _ (Tree.mk ac ab ae af ag) _ (Tree.mk aO ah ap d6 d7) _ _ ⟨d8,(iL.move aa.step nilM aa.imm),(fun i_ x_ h_=>((jc i_ x_ h_).move aa.step nilM aa.imm))⟩ (ht.move aa.step nilM aa.imm) (hg.move aa.step nilM aa.imm) hpl (qhy hq ‹_› ‹_›)) ?_)
   rintro e_ lQ ⟨rfl,cX⟩
   refine ⟨_,rfl,fun lR fe=>?_⟩
   have bL:=aa.next_nil cX
   have jB:=aa.frN cX
   refine qah [7] [] [(10,.v (.bool true))] bL fe fun lS ff=>?_
   refine qae (qab ?_)
   refine wp_ret ?_
   refine qaq ?_
   refine qal ?_
   refine qaD ff bL.cells (v:=.bool true) kz ?_
   exact ⟨rfl,bL.step⟩
  have jC:k1 ≠ 10:=by simpa using ay
  have fg:=cQ.cast (env':=[(1,.v (.int .i64 v)),(2,.v (.bool flex)),(5,.p 0 0),(8,.p 1 0),(9,.p 2 0),(11,.v (.bool (Fld.nul (Fld.mk k1 y2 y3 y4 y5 y6 y7 l8) v (Tree.mk ac ab ae af ag)))),(12,.v (.bool (decide (v ≥ y4)))),(38,.v (.bool false))]) (by rw [ay])
  refine qah [9,10,11] [12,13,14,15,16] [(1,.v (.int .i64 v)),(2,.v (.bool flex)),(5,.p 0 0),(8,.p 1 0),(9,.p 2 0),(11,.v (.bool (Fld.nul (Fld.mk k1 y2 y3 y4 y5 y6 y7 l8) v (Tree.mk ac ab ae af ag)))),(41,.v (.bool (decide (v ≥ y4))))] aa fg fun lT cY=>?_
  refine (Bool.eq_false_or_eq_true (decide (v ≥ y4))).elim (fun aQ=>?_) (fun aQ=>?_)
  ·
   have jD:=of_decide_eq_true aQ
   have fh:=cY.cast (env':=[(1,.v (.int .i64 v)),(2,.v (.bool flex)),(5,.p 0 0),(8,.p 1 0),(9,.p 2 0),(11,.v (.bool (Fld.nul (Fld.mk k1 y2 y3 y4 y5 y6 y7 l8) v (Tree.mk ac ab ae af ag)))),(41,.v (.bool true))]) (by rw [aQ])
   refine qah [12,13,14,15,16] [] [(1,.v (.int .i64 v)),(2,.v (.bool flex)),(5,.p 0 0),(8,.p 1 0),(9,.p 2 0),(11,.v (.bool (Fld.nul (Fld.mk k1 y2 y3 y4 y5 y6 y7 l8) v (Tree.mk ac ab ae af ag)))),(46,.v (.bool (!(ap == (Fld.nul (Fld.mk k1 y2 y3 y4 y5 y6 y7 l8) v (Tree.mk ac ab ae af ag))))))] aa fh fun lU bM=>?_
   refine qae (qab ?_)
   refine qau bM (b:=!(ap == (Fld.nul (Fld.mk k1 y2 y3 y4 y5 y6 y7 l8) v (Tree.mk ac ab ae af ag)))) kz (fun bN=>?_) (fun bN=>?_)
   ·
    have jE:!(ap = (Fld.nul (Fld.mk k1 y2 y3 y4 y5 y6 y7 l8) v (Tree.mk ac ab ae af ag))):=by simpa using bN
    refine qan [(10,.v (.bool false))] aa bM fun lV fi=>?_
    refine wp_ret ?_
    refine qal ?_
    refine qaD fi aa.cells (v:=.bool false) kz ?_
    first
     | exact (qhx hq ‹_› ‹_›).elim
     | exact (qfg hq ‹_› ‹_›).elim
     | exact (qeL hq ‹_› ‹_› ‹_›).elim
   have jF:!(ap ≠ (Fld.nul (Fld.mk k1 y2 y3 y4 y5 y6 y7 l8) v (Tree.mk ac ab ae af ag))):=by simpa using bN
   refine wp_skip ?_
   refine qab ?_
   refine wp_seq ?_
   refine qan [(1,.v (.int .i64 v)),(2,.v (.bool flex)),(5,.p 0 0),(8,.p 1 0),(9,.p 2 0),(47,.v (.bool (Fld.nul (Fld.mk k1 y2 y3 y4 y5 y6 y7 l8) v (Tree.mk ac ab ae af ag))))] aa bM fun lW bO=>?_
   refine qau bO (b:=Fld.nul (Fld.mk k1 y2 y3 y4 y5 y6 y7 l8) v (Tree.mk ac ab ae af ag)) kz (fun fj=>?_) (fun fj=>?_)
   ·
    refine qan [(10,.v (.bool true))] aa bO fun lX fk=>?_
    refine wp_ret ?_
    refine qal ?_
    refine qaD fk aa.cells (v:=.bool true) kz ?_
    exact ⟨rfl,aa.step⟩
   refine wp_skip ?_
   refine qab ?_
   refine wp_seq ?_
   refine qan [(1,.v (.int .i64 v)),(2,.v (.bool flex)),(5,.p 0 0),(8,.p 1 0),(9,.p 2 0),(49,.v (.int .i64 k1))] aa bO fun lY fl=>?_
   refine wp_block ?_
   refine wp_seq ?_
   refine qan [(1,.v (.int .i64 v)),(2,.v (.bool flex)),(5,.p 0 0),(8,.p 1 0),(9,.p 2 0),(49,.v (.int .i64 k1)),(50,.v (.bool (k1 == 8)))] aa fl fun lZ cZ=>?_
   refine qap cZ (b:=k1 == 8) kz (ak) ?_
   refine qaw [0,1] kz ?_
   refine qah [0,1] [] [(1,.v (.int .i64 v)),(2,.v (.bool flex)),(5,.p 0 0),(8,.p 1 0),(9,.p 2 0),(49,.v (.int .i64 k1)),(50,.v (.bool (k1 == 9)))] aa cZ fun l5 bP=>?_
   refine qae (qab ?_)
   refine qau bP (b:=k1 == 9) kz (fun bQ=>?_) (fun bQ=>?_)
   ·
    have jG:k1 = 9:=by simpa using bQ
    refine qaI 6 kz aa fun l6 jH aZ fm=>?_
    refine qaH [0,1,2,3] [(54,.v (.slice al ah.length am)),(56,.v (.slice ai ab.length aj))] 3 (qaa (qac (qaa qaf))) (fun _ h=>h.cells) fm bP fun l7 fo=>?_
    have iZ:=qa4 ab
    refine qaA (i:=4) kz (qai fo (f:=54) (vs:=[.slice ai ab.length aj]) (d:=57) kz Tryd.call54 (qcI _ _ ab (aH.move aZ.step nilM aZ.imm).le _) ?_)
    rintro e_ l9 ⟨rfl,c5⟩
    refine ⟨_,rfl,fun ma fq=>?_⟩
    have aB:=aZ.next_nil c5
    have c6:=aZ.frN c5
    have fr:=TT.ofW c6 aB
    refine ⟨fun _=>fr,?_⟩
    refine qaA (i:=5) kz (qai fq (f:=31) (vs:=[.slice al ah.length am,.slice ai ((qax ab).length) aj]) (d:=58) kz Tryd.call31 (qc8 _ _ _ _ ah (qax ab) _ _ ((bu.move aB.step nilM aB.imm).move (Step.refl _ Nil) nilM allF) (((aH.take 32767).move aB.step nilM aB.imm).move (Step.refl _ Nil) nilM allF)) ?_)
    rintro e_ mc ⟨rfl,da⟩
    refine ⟨_,rfl,fun md ft=>?_⟩
    have ba:=aB.next_nil da
    have fu:=aB.frN da
    have fv:=TT.ofW (c6.trans fu) ba
    refine ⟨fun _=>fv,?_⟩
    refine qaA (i:=6) kz (qa6 [10] ba.cells ft (env':=[(10,.v (.bool (decide (ah = (qax ab)))))]) kz fun me fw=>?_)
    refine ⟨fun h=>absurd rfl h,?_⟩
    refine qaG kz ?_ _
    refine qab ?_
    refine wp_ret ?_
    refine qaq ?_
    refine qal ?_
    refine qaD fw ba.cells (v:=.bool (decide (ah = (qax ab)))) kz ?_
    refine ⟨congrArg (fun b_=>Ending.returned (Value.bool b_)) ?_,ba.step⟩
    first
     | exact qc9 hq ‹_› ‹_›
     | exact qda hq ‹_› ‹_›
     | exact to_u hq ‹_› ‹_›
     | exact to_m hq ‹_› ‹_› ‹_› ‹_› ‹_› ‹_›
   have jI:k1 ≠ 9:=by simpa using bQ
   refine qan [(1,.v (.int .i64 v)),(2,.v (.bool flex)),(5,.p 0 0),(8,.p 1 0),(9,.p 2 0),(49,.v (.int .i64 k1)),(59,.v (.bool (k1 == 7)))] aa bP fun mf bR=>?_
   refine qau bR (b:=k1 == 7) kz (fun bS=>?_) (fun bS=>?_)
   ·
    have jJ:k1 = 7:=by simpa using bS
    refine qad [0,1] kz ?_
    refine qam (qbK aa bR (d:=61) (j:=16) (t:=22) (e:=5) (bytes:=1) (z:=.int .u8 0) kz kz kz kz (rfl) (rfl) (by omega) fun au mg mh jK jL jM aR fx=>?_)
    refine qah [1] [] [(8,.p 1 0),(9,.p 2 0),(13,.v (.slice (some ⟨au,0,none⟩) 16 16))] aR fx fun mi fy=>?_
    refine qae (qab ?_)
    refine qad [0,1,2,3] kz ?_
    refine qah [0,1,2] [3] [(9,.p 2 0),(13,.v (.slice (some ⟨au,0,none⟩) 16 16)),(62,.v (.slice (some ⟨au,0,none⟩) 16 16)),(64,.v (.slice ai ab.length aj))] aR fy fun mj fz=>?_
    refine qam (qbU aR fz (k:=0) (d:=65) (t:=22) (u:=22) (e:=5) (bytes:=1) (A:=(some ⟨au,0,none⟩)) (As:=ai) (m:=ab.length) (cs:=aj) (m0:=16) (c:=16) (xs:=(List.replicate 16 (.int .u8 0))) (news:=bc ab) kz kz rfl (aH.move aR.step nilM aR.imm).src fun ml mn jN fA fB=>?_)
    have fC:(⟨(some ⟨au,0,none⟩),16,5,1,16,qba (List.replicate 16 (.int .u8 0)) 0 ((bc ab).take (min ab.length 16))⟩:Rw) = brow (some ⟨au,0,none⟩) 16 5 (qa7 ab):=qcN _ _ _
    obtain ⟨aJ,jO⟩:=fA.rowEq 0 [brow (some ⟨au,0,none⟩) 16 5 (qa7 ab)] fC
    have fD:=EnvOk.pick fB (ks:=[9,13,62,64,65]) (env':=[(9,.p 2 0),(13,.v (.slice (some ⟨au,0,none⟩) 16 16)),(62,.v (.slice (some ⟨au,0,none⟩) 16 16)),(64,.v (.slice ai ab.length aj)),(65,.v (.int .i64 ((min ab.length 16:Nat):Int)))]) kz
    have fE:=fD.cast (env':=[(9,.p 2 0),(13,.v (.slice (some ⟨au,0,none⟩) ((qa7 ab).length) 16)),(62,.v (.slice (some ⟨au,0,none⟩) ((qa7 ab).length) 16)),(64,.v (.slice ai ab.length aj)),(65,.v (.int .i64 ((min ab.length 16:Nat):Int)))]) (by rw [qa3 _])
    refine qae (qab ?_)
    refine qad [0,1,2,3,4] kz ?_
    refine qah [0,1,2] [3,4] [(67,.v (.slice al ah.length am)),(68,.v (.slice (some ⟨au,0,none⟩) ((qa7 ab).length) 16))] aJ fE fun mo fF=>?_
    refine qam (qai fF (f:=31) (vs:=[.slice al ah.length am,.slice (some ⟨au,0,none⟩) ((qa7 ab).length) 16]) (d:=69) kz Tryd.call31 (qc8 _ _ _ _ ah (qa7 ab) _ _ ((bu.move aJ.step nilM aJ.imm).move (Step.refl _ Nil) nilM allF) (qbC (aJ.own 0 _ rfl) (by first | omega | (rw [qa3]; decide) | (simp only [be_length]; exact Nat.le_trans (qbb _) (by decide)) | (have:=hroom; omega) | (have:=hmade; omega) | (simp only [List.length_append,List.length_nil]; omega)) (F:=fun _ _=>True) (fun _ _ _=>trivial))) ?_)
    rintro e_ mp ⟨rfl,db⟩
    refine ⟨_,rfl,fun mq fG=>?_⟩
    have bT:=aJ.next_nil db
    have jP:=aJ.frN db
    refine qah [4] [] [(10,.v (.bool (decide (ah = qa7 ab))))] bT fG fun mr fH=>?_
    refine qae (qab ?_)
    refine wp_ret ?_
    refine qaq ?_
    refine qal ?_
    refine qaD fH bT.cells (v:=.bool (decide (ah = qa7 ab))) kz ?_
    refine ⟨congrArg (fun b_=>Ending.returned (Value.bool b_)) ?_,bT.step⟩
    first
     | exact qc9 hq ‹_› ‹_›
     | exact qda hq ‹_› ‹_›
     | exact to_u hq ‹_› ‹_›
     | exact to_m hq ‹_› ‹_› ‹_› ‹_› ‹_› ‹_›
   have jQ:k1 ≠ 7:=by simpa using bS
   refine qan [(1,.v (.int .i64 v)),(2,.v (.bool flex)),(5,.p 0 0),(8,.p 1 0),(9,.p 2 0),(49,.v (.int .i64 k1)),(70,.v (.bool (k1 == 10)))] aa bR fun mt dc=>?_
   refine qap dc (b:=k1 == 10) kz (ay) ?_
   refine qan [(1,.v (.int .i64 v)),(2,.v (.bool flex)),(5,.p 0 0),(8,.p 1 0),(9,.p 2 0),(79,.v (.bool (k1 == 11)))] aa dc fun mu de=>?_
   refine qap de (b:=k1 == 11) kz (by simpa using bw) ?_
   refine wp_skip ?_
   refine qar ?_
   refine qab ?_
   refine qaI 8 kz aa fun mw jR df fI=>?_
   refine qaH [0,1,2,3,4,5] [(117,.v (.int .i64 aO)),(119,.v (.int .i64 k1)),(121,.v (.int .i64 ac))] 3 (qaa qaf) (fun _ h=>h.cells) fI de fun mx fJ=>?_
   refine qaA (i:=6) kz (qai fJ (f:=75) (vs:=[.int .i64 k1,.int .i64 ac]) (d:=122) kz Tryd.call75 (qeM k1 ac _) ?_)
   rintro e_ my ⟨rfl,dg⟩
   refine ⟨_,rfl,fun mz fK=>?_⟩
   have bf:=df.next_nil dg
   have fL:=df.frN dg
   have dh:=TT.ofW fL bf
   refine ⟨fun _=>dh,?_⟩
   refine qaH [7] [(123,.v (.bool (aO == (qbd k1 ac))))] 1 (qaa qaf) (fun _ h=>h.cells) dh fK fun mA fM=>?_
   refine qaA (i:=8) kz (qa6 [10] bf.cells fM (env':=[(10,.v (.bool (aO == (qbd k1 ac))))]) kz fun mB fN=>?_)
   refine ⟨fun h=>absurd rfl h,?_⟩
   refine qaG kz ?_ _
   refine qab ?_
   refine wp_ret ?_
   refine qaD fN bf.cells (v:=.bool (aO == (qbd k1 ac))) kz ?_
   refine ⟨congrArg (fun b_=>Ending.returned (Value.bool b_)) ?_,bf.step⟩
   first
    | exact qc9 hq ‹_› ‹_›
    | exact qda hq ‹_› ‹_›
    | exact to_u hq ‹_› ‹_›
    | exact to_m hq ‹_› ‹_› ‹_› ‹_› ‹_› ‹_›
  have jS:=of_decide_eq_false aQ
  have fO:=cY.cast (env':=[(1,.v (.int .i64 v)),(2,.v (.bool flex)),(5,.p 0 0),(8,.p 1 0),(9,.p 2 0),(11,.v (.bool (Fld.nul (Fld.mk k1 y2 y3 y4 y5 y6 y7 l8) v (Tree.mk ac ab ae af ag)))),(41,.v (.bool false))]) (by rw [aQ])
  refine qah [12,13,14,15,16] [] [(1,.v (.int .i64 v)),(2,.v (.bool flex)),(5,.p 0 0),(8,.p 1 0),(9,.p 2 0),(11,.v (.bool (Fld.nul (Fld.mk k1 y2 y3 y4 y5 y6 y7 l8) v (Tree.mk ac ab ae af ag)))),(46,.v (.bool false))] aa fO fun mC di=>?_
  refine qae (qab ?_)
  refine qap di (b:=false) kz rfl ?_
  refine wp_skip ?_
  refine qab ?_
  refine wp_seq ?_
  refine qan [(1,.v (.int .i64 v)),(2,.v (.bool flex)),(5,.p 0 0),(8,.p 1 0),(9,.p 2 0),(47,.v (.bool (Fld.nul (Fld.mk k1 y2 y3 y4 y5 y6 y7 l8) v (Tree.mk ac ab ae af ag))))] aa di fun mD bU=>?_
  refine qau bU (b:=Fld.nul (Fld.mk k1 y2 y3 y4 y5 y6 y7 l8) v (Tree.mk ac ab ae af ag)) kz (fun fP=>?_) (fun fP=>?_)
  ·
   refine qan [(10,.v (.bool true))] aa bU fun mF fQ=>?_
   refine wp_ret ?_
   refine qal ?_
   refine qaD fQ aa.cells (v:=.bool true) kz ?_
   exact ⟨rfl,aa.step⟩
  refine wp_skip ?_
  refine qab ?_
  refine wp_seq ?_
  refine qan [(1,.v (.int .i64 v)),(2,.v (.bool flex)),(5,.p 0 0),(8,.p 1 0),(9,.p 2 0),(49,.v (.int .i64 k1))] aa bU fun mG fR=>?_
  refine wp_block ?_
  refine wp_seq ?_
  refine qan [(1,.v (.int .i64 v)),(2,.v (.bool flex)),(5,.p 0 0),(8,.p 1 0),(9,.p 2 0),(49,.v (.int .i64 k1)),(50,.v (.bool (k1 == 8)))] aa fR fun mH dj=>?_
  refine qap dj (b:=k1 == 8) kz (ak) ?_
  refine qaw [0,1] kz ?_
  refine qah [0,1] [] [(1,.v (.int .i64 v)),(2,.v (.bool flex)),(5,.p 0 0),(8,.p 1 0),(9,.p 2 0),(49,.v (.int .i64 k1)),(50,.v (.bool (k1 == 9)))] aa dj fun mI bV=>?_
  refine qae (qab ?_)
  refine qau bV (b:=k1 == 9) kz (fun bW=>?_) (fun bW=>?_)
  ·
   have jT:k1 = 9:=by simpa using bW
   refine qaI 6 kz aa fun mJ jU bg fS=>?_
   refine qaH [0,1,2,3] [(54,.v (.slice al ah.length am)),(56,.v (.slice ai ab.length aj))] 3 (qaa (qac (qaa qaf))) (fun _ h=>h.cells) fS bV fun mK fT=>?_
   have i6:=qa4 ab
   refine qaA (i:=4) kz (qai fT (f:=54) (vs:=[.slice ai ab.length aj]) (d:=57) kz Tryd.call54 (qcI _ _ ab (aH.move bg.step nilM bg.imm).le _) ?_)
   rintro e_ mL ⟨rfl,dl⟩
   refine ⟨_,rfl,fun mM fU=>?_⟩
   have aC:=bg.next_nil dl
   have dp:=bg.frN dl
   have fV:=TT.ofW dp aC
   refine ⟨fun _=>fV,?_⟩
   refine qaA (i:=5) kz (qai fU (f:=31) (vs:=[.slice al ah.length am,.slice ai ((qax ab).length) aj]) (d:=58) kz Tryd.call31 (qc8 _ _ _ _ ah (qax ab) _ _ ((bu.move aC.step nilM aC.imm).move (Step.refl _ Nil) nilM allF) (((aH.take 32767).move aC.step nilM aC.imm).move (Step.refl _ Nil) nilM allF)) ?_)
   rintro e_ mN ⟨rfl,dq⟩
   refine ⟨_,rfl,fun mO fW=>?_⟩
   have bh:=aC.next_nil dq
   have fX:=aC.frN dq
   have fY:=TT.ofW (dp.trans fX) bh
   refine ⟨fun _=>fY,?_⟩
   refine qaA (i:=6) kz (qa6 [10] bh.cells fW (env':=[(10,.v (.bool (decide (ah = (qax ab)))))]) kz fun mQ fZ=>?_)
   refine ⟨fun h=>absurd rfl h,?_⟩
   refine qaG kz ?_ _
   refine qab ?_
   refine wp_ret ?_
   refine qaq ?_
   refine qal ?_
   refine qaD fZ bh.cells (v:=.bool (decide (ah = (qax ab)))) kz ?_
   refine ⟨congrArg (fun b_=>Ending.returned (Value.bool b_)) ?_,bh.step⟩
   first
    | exact qc9 hq ‹_› ‹_›
    | exact qda hq ‹_› ‹_›
    | exact to_u hq ‹_› ‹_›
    | exact to_m hq ‹_› ‹_› ‹_› ‹_› ‹_› ‹_›
  have jV:k1 ≠ 9:=by simpa using bW
  refine qan [(1,.v (.int .i64 v)),(2,.v (.bool flex)),(5,.p 0 0),(8,.p 1 0),(9,.p 2 0),(49,.v (.int .i64 k1)),(59,.v (.bool (k1 == 7)))] aa bV fun mR bX=>?_
  refine qau bX (b:=k1 == 7) kz (fun bY=>?_) (fun bY=>?_)
  ·
   have jW:k1 = 7:=by simpa using bY
   refine qad [0,1] kz ?_
   refine qam (qbK aa bX (d:=61) (j:=16) (t:=22) (e:=5) (bytes:=1) (z:=.int .u8 0) kz kz kz kz (rfl) (rfl) (by omega) fun av mS mT jX jY jZ aS f5=>?_)
   refine qah [1] [] [(8,.p 1 0),(9,.p 2 0),(13,.v (.slice (some ⟨av,0,none⟩) 16 16))] aS f5 fun mU f7=>?_
   refine qae (qab ?_)
   refine qad [0,1,2,3] kz ?_
   refine qah [0,1,2] [3] [(9,.p 2 0),(13,.v (.slice (some ⟨av,0,none⟩) 16 16)),(62,.v (.slice (some ⟨av,0,none⟩) 16 16)),(64,.v (.slice ai ab.length aj))] aS f7 fun mV f8=>?_
   refine qam (qbU aS f8 (k:=0) (d:=65) (t:=22) (u:=22) (e:=5) (bytes:=1) (A:=(some ⟨av,0,none⟩)) (As:=ai) (m:=ab.length) (cs:=aj) (m0:=16) (c:=16) (xs:=(List.replicate 16 (.int .u8 0))) (news:=bc ab) kz kz rfl (aH.move aS.step nilM aS.imm).src fun mW mX j0 f9 ga=>?_)
   have gb:(⟨(some ⟨av,0,none⟩),16,5,1,16,qba (List.replicate 16 (.int .u8 0)) 0 ((bc ab).take (min ab.length 16))⟩:Rw) = brow (some ⟨av,0,none⟩) 16 5 (qa7 ab):=qcN _ _ _
   obtain ⟨aK,j1⟩:=f9.rowEq 0 [brow (some ⟨av,0,none⟩) 16 5 (qa7 ab)] gb
   have gc:=EnvOk.pick ga (ks:=[9,13,62,64,65]) (env':=[(9,.p 2 0),(13,.v (.slice (some ⟨av,0,none⟩) 16 16)),(62,.v (.slice (some ⟨av,0,none⟩) 16 16)),(64,.v (.slice ai ab.length aj)),(65,.v (.int .i64 ((min ab.length 16:Nat):Int)))]) kz
   have gd:=gc.cast (env':=[(9,.p 2 0),(13,.v (.slice (some ⟨av,0,none⟩) ((qa7 ab).length) 16)),(62,.v (.slice (some ⟨av,0,none⟩) ((qa7 ab).length) 16)),(64,.v (.slice ai ab.length aj)),(65,.v (.int .i64 ((min ab.length 16:Nat):Int)))]) (by rw [qa3 _])
   refine qae (qab ?_)
   refine qad [0,1,2,3,4] kz ?_
   refine qah [0,1,2] [3,4] [(67,.v (.slice al ah.length am)),(68,.v (.slice (some ⟨av,0,none⟩) ((qa7 ab).length) 16))] aK gd fun mY ge=>?_
   refine qam (qai ge (f:=31) (vs:=[.slice al ah.length am,.slice (some ⟨av,0,none⟩) ((qa7 ab).length) 16]) (d:=69) kz Tryd.call31 (qc8 _ _ _ _ ah (qa7 ab) _ _ ((bu.move aK.step nilM aK.imm).move (Step.refl _ Nil) nilM allF) (qbC (aK.own 0 _ rfl) (by first | omega | (rw [qa3]; decide) | (simp only [be_length]; exact Nat.le_trans (qbb _) (by decide)) | (have:=hroom; omega) | (have:=hmade; omega) | (simp only [List.length_append,List.length_nil]; omega)) (F:=fun _ _=>True) (fun _ _ _=>trivial))) ?_)
   rintro e_ mZ ⟨rfl,dr⟩
   refine ⟨_,rfl,fun m4 gg=>?_⟩
   have bZ:=aK.next_nil dr
   have j2:=aK.frN dr
   refine qah [4] [] [(10,.v (.bool (decide (ah = qa7 ab))))] bZ gg fun m5 gh=>?_
   refine qae (qab ?_)
   refine wp_ret ?_
   refine qaq ?_
   refine qal ?_
   refine qaD gh bZ.cells (v:=.bool (decide (ah = qa7 ab))) kz ?_
   refine ⟨congrArg (fun b_=>Ending.returned (Value.bool b_)) ?_,bZ.step⟩
   first
    | exact qc9 hq ‹_› ‹_›
    | exact qda hq ‹_› ‹_›
    | exact to_u hq ‹_› ‹_›
    | exact to_m hq ‹_› ‹_› ‹_› ‹_› ‹_› ‹_›
  have j3:k1 ≠ 7:=by simpa using bY
  refine qan [(1,.v (.int .i64 v)),(2,.v (.bool flex)),(5,.p 0 0),(8,.p 1 0),(9,.p 2 0),(49,.v (.int .i64 k1)),(70,.v (.bool (k1 == 10)))] aa bX fun m6 dt=>?_
  refine qap dt (b:=k1 == 10) kz (ay) ?_
  refine qan [(1,.v (.int .i64 v)),(2,.v (.bool flex)),(5,.p 0 0),(8,.p 1 0),(9,.p 2 0),(79,.v (.bool (k1 == 11)))] aa dt fun m7 du=>?_
  refine qap du (b:=k1 == 11) kz (by simpa using bw) ?_
  refine wp_skip ?_
  refine qar ?_
  refine qab ?_
  refine qaI 8 kz aa fun m8 j4 dv gi=>?_
  refine qaH [0,1,2,3,4,5] [(117,.v (.int .i64 aO)),(119,.v (.int .i64 k1)),(121,.v (.int .i64 ac))] 3 (qaa qaf) (fun _ h=>h.cells) gi du fun m9 gj=>?_
  refine qaA (i:=6) kz (qai gj (f:=75) (vs:=[.int .i64 k1,.int .i64 ac]) (d:=122) kz Tryd.call75 (qeM k1 ac _) ?_)
  rintro e_ nf ⟨rfl,dw⟩
  refine ⟨_,rfl,fun ng gk=>?_⟩
  have bi:=dv.next_nil dw
  have gl:=dv.frN dw
  have dx:=TT.ofW gl bi
  refine ⟨fun _=>dx,?_⟩
  refine qaH [7] [(123,.v (.bool (aO == (qbd k1 ac))))] 1 (qaa qaf) (fun _ h=>h.cells) dx gk fun nh gm=>?_
  refine qaA (i:=8) kz (qa6 [10] bi.cells gm (env':=[(10,.v (.bool (aO == (qbd k1 ac))))]) kz fun ni gn=>?_)
  refine ⟨fun h=>absurd rfl h,?_⟩
  refine qaG kz ?_ _
  refine qab ?_
  refine wp_ret ?_
  refine qaD gn bi.cells (v:=.bool (aO == (qbd k1 ac))) kz ?_
  refine ⟨congrArg (fun b_=>Ending.returned (Value.bool b_)) ?_,bi.step⟩
  first
   | exact qc9 hq ‹_› ‹_›
   | exact qda hq ‹_› ‹_›
   | exact to_u hq ‹_› ‹_›
   | exact to_m hq ‹_› ‹_› ‹_› ‹_› ‹_› ‹_›
 have j5:=of_decide_eq_false bx
 have gp:=ef.cast (env':=[(1,.v (.int .i64 v)),(2,.v (.bool flex)),(5,.p 0 0),(8,.p 1 0),(9,.p 2 0),(11,.v (.bool (Fld.nul (Fld.mk k1 y2 y3 y4 y5 y6 y7 l8) v (Tree.mk ac ab ae af ag)))),(24,.v (.bool false))]) (by rw [bx])
 refine qah [4,5,6,7,8,9] [] [(1,.v (.int .i64 v)),(2,.v (.bool flex)),(5,.p 0 0),(8,.p 1 0),(9,.p 2 0),(11,.v (.bool (Fld.nul (Fld.mk k1 y2 y3 y4 y5 y6 y7 l8) v (Tree.mk ac ab ae af ag)))),(12,.v (.bool false))] aa gp fun nj gq=>?_
 refine qae (qab ?_)
 refine wp_seq ?_
 refine qad [0,1,2,3,4,5,6,7,8,9,10,11,12,13,14,15,16] kz ?_
 refine qah [0,1,2,3] [4,5,6,7,8,9,10,11,12,13,14,15,16] [(1,.v (.int .i64 v)),(2,.v (.bool flex)),(5,.p 0 0),(8,.p 1 0),(9,.p 2 0),(11,.v (.bool (Fld.nul (Fld.mk k1 y2 y3 y4 y5 y6 y7 l8) v (Tree.mk ac ab ae af ag)))),(12,.v (.bool false)),(33,.v (.bool (k1 == 8)))] aa gq fun nk dy=>?_
 refine (Bool.eq_false_or_eq_true (k1 == 8)).elim (fun ao=>?_) (fun ao=>?_)
 ·
  have j6:k1 = 8:=by simpa using ao
  have gt:=dy.cast (env':=[(1,.v (.int .i64 v)),(2,.v (.bool flex)),(5,.p 0 0),(8,.p 1 0),(9,.p 2 0),(11,.v (.bool (Fld.nul (Fld.mk k1 y2 y3 y4 y5 y6 y7 l8) v (Tree.mk ac ab ae af ag)))),(12,.v (.bool false)),(33,.v (.bool true))]) (by rw [ao])
  refine qah [4,5,6,7,8,9,10,11,12,13,14,15,16] [] [(1,.v (.int .i64 v)),(2,.v (.bool flex)),(5,.p 0 0),(8,.p 1 0),(9,.p 2 0),(11,.v (.bool (Fld.nul (Fld.mk k1 y2 y3 y4 y5 y6 y7 l8) v (Tree.mk ac ab ae af ag)))),(46,.v (.bool (!(ap == (Fld.nul (Fld.mk k1 y2 y3 y4 y5 y6 y7 l8) v (Tree.mk ac ab ae af ag))))))] aa gt fun nl b8=>?_
  refine qae (qab ?_)
  refine qau b8 (b:=!(ap == (Fld.nul (Fld.mk k1 y2 y3 y4 y5 y6 y7 l8) v (Tree.mk ac ab ae af ag)))) kz (fun cd=>?_) (fun cd=>?_)
  ·
   have j7:!(ap = (Fld.nul (Fld.mk k1 y2 y3 y4 y5 y6 y7 l8) v (Tree.mk ac ab ae af ag))):=by simpa using cd
   refine qan [(10,.v (.bool false))] aa b8 fun nm gv=>?_
   refine wp_ret ?_
   refine qal ?_
   refine qaD gv aa.cells (v:=.bool false) kz ?_
   first
    | exact (qhx hq ‹_› ‹_›).elim
    | exact (qfg hq ‹_› ‹_›).elim
    | exact (qeL hq ‹_› ‹_› ‹_›).elim
  have j8:!(ap ≠ (Fld.nul (Fld.mk k1 y2 y3 y4 y5 y6 y7 l8) v (Tree.mk ac ab ae af ag))):=by simpa using cd
  refine wp_skip ?_
  refine qab ?_
  refine wp_seq ?_
  refine qan [(1,.v (.int .i64 v)),(2,.v (.bool flex)),(5,.p 0 0),(8,.p 1 0),(9,.p 2 0),(47,.v (.bool (Fld.nul (Fld.mk k1 y2 y3 y4 y5 y6 y7 l8) v (Tree.mk ac ab ae af ag))))] aa b8 fun np ce=>?_
  refine qau ce (b:=Fld.nul (Fld.mk k1 y2 y3 y4 y5 y6 y7 l8) v (Tree.mk ac ab ae af ag)) kz (fun gw=>?_) (fun gw=>?_)
  ·
   refine qan [(10,.v (.bool true))] aa ce fun nr gx=>?_
   refine wp_ret ?_
   refine qal ?_
   refine qaD gx aa.cells (v:=.bool true) kz ?_
   exact ⟨rfl,aa.step⟩
  refine wp_skip ?_
  refine qab ?_
  refine wp_seq ?_
  refine qan [(1,.v (.int .i64 v)),(2,.v (.bool flex)),(5,.p 0 0),(8,.p 1 0),(9,.p 2 0),(49,.v (.int .i64 k1))] aa ce fun ns gy=>?_
  refine wp_block ?_
  refine wp_seq ?_
  refine qan [(1,.v (.int .i64 v)),(2,.v (.bool flex)),(5,.p 0 0),(8,.p 1 0),(9,.p 2 0),(49,.v (.int .i64 k1)),(50,.v (.bool (k1 == 8)))] aa gy fun nt cm=>?_
  refine qa0 cm (b:=k1 == 8) kz (ao) ?_
  refine wp_skip ?_
  refine qab ?_
  refine qa0 cm (b:=k1 == 8) kz (ao) ?_
  refine qaI 6 kz aa fun nu j9 bj gz=>?_
  refine qaH [0,1,2,3] [(54,.v (.slice al ah.length am)),(56,.v (.slice ai ab.length aj))] 3 (qaa (qac (qaa qaf))) (fun _ h=>h.cells) gz cm fun nv gA=>?_
  have i7:=qa4 ab
  refine qaA (i:=4) kz (qai gA (f:=54) (vs:=[.slice ai ab.length aj]) (d:=57) kz Tryd.call54 (qcI _ _ ab (aH.move bj.step nilM bj.imm).le _) ?_)
  rintro e_ nw ⟨rfl,dA⟩
  refine ⟨_,rfl,fun nx gB=>?_⟩
  have aD:=bj.next_nil dA
  have dB:=bj.frN dA
  have gC:=TT.ofW dB aD
  refine ⟨fun _=>gC,?_⟩
  refine qaA (i:=5) kz (qai gB (f:=31) (vs:=[.slice al ah.length am,.slice ai ((qax ab).length) aj]) (d:=58) kz Tryd.call31 (qc8 _ _ _ _ ah (qax ab) _ _ ((bu.move aD.step nilM aD.imm).move (Step.refl _ Nil) nilM allF) (((aH.take 32767).move aD.step nilM aD.imm).move (Step.refl _ Nil) nilM allF)) ?_)
  rintro e_ ny ⟨rfl,dC⟩
  refine ⟨_,rfl,fun nz gD=>?_⟩
  have bk:=aD.next_nil dC
  have gE:=aD.frN dC
  have gF:=TT.ofW (dB.trans gE) bk
  refine ⟨fun _=>gF,?_⟩
  refine qaA (i:=6) kz (qa6 [10] bk.cells gD (env':=[(10,.v (.bool (decide (ah = (qax ab)))))]) kz fun nA gG=>?_)
  refine ⟨fun h=>absurd rfl h,?_⟩
  refine qaG kz ?_ _
  refine qab ?_
  refine wp_ret ?_
  refine qaq ?_
  refine qal ?_
  refine qaD gG bk.cells (v:=.bool (decide (ah = (qax ab)))) kz ?_
  refine ⟨congrArg (fun b_=>Ending.returned (Value.bool b_)) ?_,bk.step⟩
  first
   | exact qc9 hq ‹_› ‹_›
   | exact qda hq ‹_› ‹_›
   | exact to_u hq ‹_› ‹_›
   | exact to_m hq ‹_› ‹_› ‹_› ‹_› ‹_› ‹_›
 have ka:k1 ≠ 8:=by simpa using ao
 have gH:=dy.cast (env':=[(1,.v (.int .i64 v)),(2,.v (.bool flex)),(5,.p 0 0),(8,.p 1 0),(9,.p 2 0),(11,.v (.bool (Fld.nul (Fld.mk k1 y2 y3 y4 y5 y6 y7 l8) v (Tree.mk ac ab ae af ag)))),(12,.v (.bool false)),(33,.v (.bool false))]) (by rw [ao])
 refine qah [4,5,6,7,8] [9,10,11,12,13,14,15,16] [(1,.v (.int .i64 v)),(2,.v (.bool flex)),(5,.p 0 0),(8,.p 1 0),(9,.p 2 0),(11,.v (.bool (Fld.nul (Fld.mk k1 y2 y3 y4 y5 y6 y7 l8) v (Tree.mk ac ab ae af ag)))),(12,.v (.bool false)),(38,.v (.bool (k1 == 10)))] aa gH fun nB dD=>?_
 refine (Bool.eq_false_or_eq_true (k1 == 10)).elim (fun aE=>?_) (fun aE=>?_)
 ·
  have kd:k1 = 10:=by simpa using aE
  have gI:=dD.cast (env':=[(1,.v (.int .i64 v)),(2,.v (.bool flex)),(5,.p 0 0),(8,.p 1 0),(9,.p 2 0),(11,.v (.bool (Fld.nul (Fld.mk k1 y2 y3 y4 y5 y6 y7 l8) v (Tree.mk ac ab ae af ag)))),(12,.v (.bool false)),(38,.v (.bool true))]) (by rw [aE])
  refine qah [9,10,11,12,13,14,15,16] [] [(1,.v (.int .i64 v)),(2,.v (.bool flex)),(5,.p 0 0),(8,.p 1 0),(9,.p 2 0),(11,.v (.bool (Fld.nul (Fld.mk k1 y2 y3 y4 y5 y6 y7 l8) v (Tree.mk ac ab ae af ag)))),(46,.v (.bool (!(ap == (Fld.nul (Fld.mk k1 y2 y3 y4 y5 y6 y7 l8) v (Tree.mk ac ab ae af ag))))))] aa gI fun nC cq=>?_
  refine qae (qab ?_)
  refine qau cq (b:=!(ap == (Fld.nul (Fld.mk k1 y2 y3 y4 y5 y6 y7 l8) v (Tree.mk ac ab ae af ag)))) kz (fun cr=>?_) (fun cr=>?_)
  ·
   have ke:!(ap = (Fld.nul (Fld.mk k1 y2 y3 y4 y5 y6 y7 l8) v (Tree.mk ac ab ae af ag))):=by simpa using cr
   refine qan [(10,.v (.bool false))] aa cq fun nD gJ=>?_
   refine wp_ret ?_
   refine qal ?_
   refine qaD gJ aa.cells (v:=.bool false) kz ?_
   first
    | exact (qhx hq ‹_› ‹_›).elim
    | exact (qfg hq ‹_› ‹_›).elim
    | exact (qeL hq ‹_› ‹_› ‹_›).elim
  have kf:!(ap ≠ (Fld.nul (Fld.mk k1 y2 y3 y4 y5 y6 y7 l8) v (Tree.mk ac ab ae af ag))):=by simpa using cr
  refine wp_skip ?_
  refine qab ?_
  refine wp_seq ?_
  refine qan [(1,.v (.int .i64 v)),(2,.v (.bool flex)),(5,.p 0 0),(8,.p 1 0),(9,.p 2 0),(47,.v (.bool (Fld.nul (Fld.mk k1 y2 y3 y4 y5 y6 y7 l8) v (Tree.mk ac ab ae af ag))))] aa cq fun nE cu=>?_
  refine qau cu (b:=Fld.nul (Fld.mk k1 y2 y3 y4 y5 y6 y7 l8) v (Tree.mk ac ab ae af ag)) kz (fun gK=>?_) (fun gK=>?_)
  ·
   refine qan [(10,.v (.bool true))] aa cu fun nF gL=>?_
   refine wp_ret ?_
   refine qal ?_
   refine qaD gL aa.cells (v:=.bool true) kz ?_
   exact ⟨rfl,aa.step⟩
  refine wp_skip ?_
  refine qab ?_
  refine wp_seq ?_
  refine qan [(1,.v (.int .i64 v)),(2,.v (.bool flex)),(5,.p 0 0),(8,.p 1 0),(9,.p 2 0),(49,.v (.int .i64 k1))] aa cu fun nG gM=>?_
  refine wp_block ?_
  refine wp_seq ?_
  refine qan [(1,.v (.int .i64 v)),(2,.v (.bool flex)),(5,.p 0 0),(8,.p 1 0),(9,.p 2 0),(49,.v (.int .i64 k1)),(50,.v (.bool (k1 == 8)))] aa gM fun nH dE=>?_
  refine qap dE (b:=k1 == 8) kz (ao) ?_
  refine qaw [0,1] kz ?_
  refine qah [0,1] [] [(1,.v (.int .i64 v)),(2,.v (.bool flex)),(5,.p 0 0),(8,.p 1 0),(9,.p 2 0),(49,.v (.int .i64 k1)),(50,.v (.bool (k1 == 9)))] aa dE fun nI cw=>?_
  refine qae (qab ?_)
  refine qau cw (b:=k1 == 9) kz (fun cz=>?_) (fun cz=>?_)
  ·
   have kg:k1 = 9:=by simpa using cz
   refine qaI 6 kz aa fun nJ kh bn gN=>?_
   refine qaH [0,1,2,3] [(54,.v (.slice al ah.length am)),(56,.v (.slice ai ab.length aj))] 3 (qaa (qac (qaa qaf))) (fun _ h=>h.cells) gN cw fun nK gO=>?_
   have ja:=qa4 ab
   refine qaA (i:=4) kz (qai gO (f:=54) (vs:=[.slice ai ab.length aj]) (d:=57) kz Tryd.call54 (qcI _ _ ab (aH.move bn.step nilM bn.imm).le _) ?_)
   rintro e_ nL ⟨rfl,dF⟩
   refine ⟨_,rfl,fun nM gP=>?_⟩
   have aF:=bn.next_nil dF
   have dG:=bn.frN dF
   have gQ:=TT.ofW dG aF
   refine ⟨fun _=>gQ,?_⟩
   refine qaA (i:=5) kz (qai gP (f:=31) (vs:=[.slice al ah.length am,.slice ai ((qax ab).length) aj]) (d:=58) kz Tryd.call31 (qc8 _ _ _ _ ah (qax ab) _ _ ((bu.move aF.step nilM aF.imm).move (Step.refl _ Nil) nilM allF) (((aH.take 32767).move aF.step nilM aF.imm).move (Step.refl _ Nil) nilM allF)) ?_)
   rintro e_ nN ⟨rfl,dH⟩
   refine ⟨_,rfl,fun nO gR=>?_⟩
   have bo:=aF.next_nil dH
   have gS:=aF.frN dH
   have gT:=TT.ofW (dG.trans gS) bo
   refine ⟨fun _=>gT,?_⟩
   refine qaA (i:=6) kz (qa6 [10] bo.cells gR (env':=[(10,.v (.bool (decide (ah = (qax ab)))))]) kz fun nP gU=>?_)
   refine ⟨fun h=>absurd rfl h,?_⟩
   refine qaG kz ?_ _
   refine qab ?_
   refine wp_ret ?_
   refine qaq ?_
   refine qal ?_
   refine qaD gU bo.cells (v:=.bool (decide (ah = (qax ab)))) kz ?_
   refine ⟨congrArg (fun b_=>Ending.returned (Value.bool b_)) ?_,bo.step⟩
   first
    | exact qc9 hq ‹_› ‹_›
    | exact qda hq ‹_› ‹_›
    | exact to_u hq ‹_› ‹_›
    | exact to_m hq ‹_› ‹_› ‹_› ‹_› ‹_› ‹_›
  have ki:k1 ≠ 9:=by simpa using cz
  refine qan [(1,.v (.int .i64 v)),(2,.v (.bool flex)),(5,.p 0 0),(8,.p 1 0),(9,.p 2 0),(49,.v (.int .i64 k1)),(59,.v (.bool (k1 == 7)))] aa cw fun nQ cA=>?_
  refine qau cA (b:=k1 == 7) kz (fun cB=>?_) (fun cB=>?_)
  ·
   have kj:k1 = 7:=by simpa using cB
   refine qad [0,1] kz ?_
   refine qam (qbK aa cA (d:=61) (j:=16) (t:=22) (e:=5) (bytes:=1) (z:=.int .u8 0) kz kz kz kz (rfl) (rfl) (by omega) fun aw nR nS km ko kp aT gV=>?_)
   refine qah [1] [] [(8,.p 1 0),(9,.p 2 0),(13,.v (.slice (some ⟨aw,0,none⟩) 16 16))] aT gV fun nT gW=>?_
   refine qae (qab ?_)
   refine qad [0,1,2,3] kz ?_
   refine qah [0,1,2] [3] [(9,.p 2 0),(13,.v (.slice (some ⟨aw,0,none⟩) 16 16)),(62,.v (.slice (some ⟨aw,0,none⟩) 16 16)),(64,.v (.slice ai ab.length aj))] aT gW fun nU gX=>?_
   refine qam (qbU aT gX (k:=0) (d:=65) (t:=22) (u:=22) (e:=5) (bytes:=1) (A:=(some ⟨aw,0,none⟩)) (As:=ai) (m:=ab.length) (cs:=aj) (m0:=16) (c:=16) (xs:=(List.replicate 16 (.int .u8 0))) (news:=bc ab) kz kz rfl (aH.move aT.step nilM aT.imm).src fun nV nW kq gY gZ=>?_)
   have g6:(⟨(some ⟨aw,0,none⟩),16,5,1,16,qba (List.replicate 16 (.int .u8 0)) 0 ((bc ab).take (min ab.length 16))⟩:Rw) = brow (some ⟨aw,0,none⟩) 16 5 (qa7 ab):=qcN _ _ _
   obtain ⟨aL,ku⟩:=gY.rowEq 0 [brow (some ⟨aw,0,none⟩) 16 5 (qa7 ab)] g6
   have g7:=EnvOk.pick gZ (ks:=[9,13,62,64,65]) (env':=[(9,.p 2 0),(13,.v (.slice (some ⟨aw,0,none⟩) 16 16)),(62,.v (.slice (some ⟨aw,0,none⟩) 16 16)),(64,.v (.slice ai ab.length aj)),(65,.v (.int .i64 ((min ab.length 16:Nat):Int)))]) kz
   have g8:=g7.cast (env':=[(9,.p 2 0),(13,.v (.slice (some ⟨aw,0,none⟩) ((qa7 ab).length) 16)),(62,.v (.slice (some ⟨aw,0,none⟩) ((qa7 ab).length) 16)),(64,.v (.slice ai ab.length aj)),(65,.v (.int .i64 ((min ab.length 16:Nat):Int)))]) (by rw [qa3 _])
   refine qae (qab ?_)
   refine qad [0,1,2,3,4] kz ?_
   refine qah [0,1,2] [3,4] [(67,.v (.slice al ah.length am)),(68,.v (.slice (some ⟨aw,0,none⟩) ((qa7 ab).length) 16))] aL g8 fun nX g9=>?_
   refine qam (qai g9 (f:=31) (vs:=[.slice al ah.length am,.slice (some ⟨aw,0,none⟩) ((qa7 ab).length) 16]) (d:=69) kz Tryd.call31 (qc8 _ _ _ _ ah (qa7 ab) _ _ ((bu.move aL.step nilM aL.imm).move (Step.refl _ Nil) nilM allF) (qbC (aL.own 0 _ rfl) (by first | omega | (rw [qa3]; decide) | (simp only [be_length]; exact Nat.le_trans (qbb _) (by decide)) | (have:=hroom; omega) | (have:=hmade; omega) | (simp only [List.length_append,List.length_nil]; omega)) (F:=fun _ _=>True) (fun _ _ _=>trivial))) ?_)
   rintro e_ nY ⟨rfl,dI⟩
   refine ⟨_,rfl,fun nZ hC=>?_⟩
   have cC:=aL.next_nil dI
   have kv:=aL.frN dI
   refine qah [4] [] [(10,.v (.bool (decide (ah = qa7 ab))))] cC hC fun n0 hJ=>?_
   refine qae (qab ?_)
   refine wp_ret ?_
   refine qaq ?_
   refine qal ?_
   refine qaD hJ cC.cells (v:=.bool (decide (ah = qa7 ab))) kz ?_
   refine ⟨congrArg (fun b_=>Ending.returned (Value.bool b_)) ?_,cC.step⟩
   first
    | exact qc9 hq ‹_› ‹_›
    | exact qda hq ‹_› ‹_›
    | exact to_u hq ‹_› ‹_›
    | exact to_m hq ‹_› ‹_› ‹_› ‹_› ‹_› ‹_›
  have kw:k1 ≠ 7:=by simpa using cB
  refine qan [(1,.v (.int .i64 v)),(2,.v (.bool flex)),(5,.p 0 0),(8,.p 1 0),(9,.p 2 0),(49,.v (.int .i64 k1)),(70,.v (.bool (k1 == 10)))] aa cA fun n4 dJ=>?_
  refine qa0 dJ (b:=k1 == 10) kz (aE) ?_
  refine qad [0,1,2,3,4,5,6,7] kz ?_
  refine qah [0,1,2,3,4,5] [6,7] [(73,.v (.slice A9 l8.length dW)),(74,.v (.int .i64 v)),(75,.v (.bool flex)),(76,.v (.agg #[.int .i64 ac,.slice ai ab.length aj,.bool ae,.slice dX af.length dY,.slice dZ ag.length d5])),(77,.v (.agg #[.int .i64 aO,.slice al ah.length am,.bool ap,.slice d9 d6.length ea,.slice eb d7.length ec]))] aa dJ fun n5 hK=>?_
  refine qam (qai hK (f:=23) (vs:=[.slice A9 l8.length dW,.int .i64 v,.bool flex,.agg #[.int .i64 ac,.slice ai ab.length aj,.bool ae,.slice dX af.length dY,.slice dZ ag.length d5],.agg #[.int .i64 aO,.slice al ah.length am,.bool ap,.slice d9 d6.length ea,.slice eb d7.length ec]]) (d:=78) kz Tryd.call23 ( hT _ _ l8 _ (Tree.mk ac ab ae af ag) _ (Tree.mk aO ah ap d6 d7) _ _ ⟨d8,(iL.move aa.step nilM aa.imm),(fun i_ x_ h_=>((jc i_ x_ h_).move aa.step nilM aa.imm))⟩ (ht.move aa.step nilM aa.imm) (hg.move aa.step nilM aa.imm) hpl (qhy hq ‹_› ‹_›)) ?_)
  rintro e_ n8 ⟨rfl,dK⟩
  refine ⟨_,rfl,fun oa hZ=>?_⟩
  have cD:=aa.next_nil dK
  have kx:=aa.frN dK
  refine qah [7] [] [(10,.v (.bool true))] cD hZ fun od ia=>?_
  refine qae (qab ?_)
  refine wp_ret ?_
  refine qaq ?_
  refine qal ?_
  refine qaD ia cD.cells (v:=.bool true) kz ?_
  exact ⟨rfl,cD.step⟩
 have ky:k1 ≠ 10:=by simpa using aE
 have ib:=dD.cast (env':=[(1,.v (.int .i64 v)),(2,.v (.bool flex)),(5,.p 0 0),(8,.p 1 0),(9,.p 2 0),(11,.v (.bool (Fld.nul (Fld.mk k1 y2 y3 y4 y5 y6 y7 l8) v (Tree.mk ac ab ae af ag)))),(12,.v (.bool false)),(38,.v (.bool false))]) (by rw [aE])
 refine qah [9,10,11,12,13,14,15,16] [] [(1,.v (.int .i64 v)),(2,.v (.bool flex)),(5,.p 0 0),(8,.p 1 0),(9,.p 2 0),(11,.v (.bool (Fld.nul (Fld.mk k1 y2 y3 y4 y5 y6 y7 l8) v (Tree.mk ac ab ae af ag)))),(46,.v (.bool false))] aa ib fun oe dL=>?_
 refine qae (qab ?_)
 refine qap dL (b:=false) kz rfl ?_
 refine wp_skip ?_
 refine qab ?_
 refine wp_seq ?_
 refine qan [(1,.v (.int .i64 v)),(2,.v (.bool flex)),(5,.p 0 0),(8,.p 1 0),(9,.p 2 0),(47,.v (.bool (Fld.nul (Fld.mk k1 y2 y3 y4 y5 y6 y7 l8) v (Tree.mk ac ab ae af ag))))] aa dL fun og cE=>?_
 refine qau cE (b:=Fld.nul (Fld.mk k1 y2 y3 y4 y5 y6 y7 l8) v (Tree.mk ac ab ae af ag)) kz (fun ic=>?_) (fun ic=>?_)
 ·
  refine qan [(10,.v (.bool true))] aa cE fun oh ig=>?_
  refine wp_ret ?_
  refine qal ?_
  refine qaD ig aa.cells (v:=.bool true) kz ?_
  exact ⟨rfl,aa.step⟩
 refine wp_skip ?_
 refine qab ?_
 refine wp_seq ?_
 refine qan [(1,.v (.int .i64 v)),(2,.v (.bool flex)),(5,.p 0 0),(8,.p 1 0),(9,.p 2 0),(49,.v (.int .i64 k1))] aa cE fun ol ii=>?_
 refine wp_block ?_
 refine wp_seq ?_
 refine qan [(1,.v (.int .i64 v)),(2,.v (.bool flex)),(5,.p 0 0),(8,.p 1 0),(9,.p 2 0),(49,.v (.int .i64 k1)),(50,.v (.bool (k1 == 8)))] aa ii fun om dM=>?_
 refine qap dM (b:=k1 == 8) kz (ao) ?_
 refine qaw [0,1] kz ?_
 refine qah [0,1] [] [(1,.v (.int .i64 v)),(2,.v (.bool flex)),(5,.p 0 0),(8,.p 1 0),(9,.p 2 0),(49,.v (.int .i64 k1)),(50,.v (.bool (k1 == 9)))] aa dM fun oq cG=>?_
 refine qae (qab ?_)
 refine qau cG (b:=k1 == 9) kz (fun cH=>?_) (fun cH=>?_)
 ·
  have kA:k1 = 9:=by simpa using cH
  refine qaI 6 kz aa fun ot kB bp ij=>?_
  refine qaH [0,1,2,3] [(54,.v (.slice al ah.length am)),(56,.v (.slice ai ab.length aj))] 3 (qaa (qac (qaa qaf))) (fun _ h=>h.cells) ij cG fun ou ik=>?_
  have jb:=qa4 ab
  refine qaA (i:=4) kz (qai ik (f:=54) (vs:=[.slice ai ab.length aj]) (d:=57) kz Tryd.call54 (qcI _ _ ab (aH.move bp.step nilM bp.imm).le _) ?_)
  rintro e_ ov ⟨rfl,dN⟩
  refine ⟨_,rfl,fun ow il=>?_⟩
  have aG:=bp.next_nil dN
  have dO:=bp.frN dN
  have im:=TT.ofW dO aG
  refine ⟨fun _=>im,?_⟩
  refine qaA (i:=5) kz (qai il (f:=31) (vs:=[.slice al ah.length am,.slice ai ((qax ab).length) aj]) (d:=58) kz Tryd.call31 (qc8 _ _ _ _ ah (qax ab) _ _ ((bu.move aG.step nilM aG.imm).move (Step.refl _ Nil) nilM allF) (((aH.take 32767).move aG.step nilM aG.imm).move (Step.refl _ Nil) nilM allF)) ?_)
  rintro e_ ox ⟨rfl,dP⟩
  refine ⟨_,rfl,fun oy io=>?_⟩
  have bq:=aG.next_nil dP
  have ip:=aG.frN dP
  have iq:=TT.ofW (dO.trans ip) bq
  refine ⟨fun _=>iq,?_⟩
  refine qaA (i:=6) kz (qa6 [10] bq.cells io (env':=[(10,.v (.bool (decide (ah = (qax ab)))))]) kz fun oz ir=>?_)
  refine ⟨fun h=>absurd rfl h,?_⟩
  refine qaG kz ?_ _
  refine qab ?_
  refine wp_ret ?_
  refine qaq ?_
  refine qal ?_
  refine qaD ir bq.cells (v:=.bool (decide (ah = (qax ab)))) kz ?_
  refine ⟨congrArg (fun b_=>Ending.returned (Value.bool b_)) ?_,bq.step⟩
  first
   | exact qc9 hq ‹_› ‹_›
   | exact qda hq ‹_› ‹_›
   | exact to_u hq ‹_› ‹_›
   | exact to_m hq ‹_› ‹_› ‹_› ‹_› ‹_› ‹_›
 have kC:k1 ≠ 9:=by simpa using cH
 refine qan [(1,.v (.int .i64 v)),(2,.v (.bool flex)),(5,.p 0 0),(8,.p 1 0),(9,.p 2 0),(49,.v (.int .i64 k1)),(59,.v (.bool (k1 == 7)))] aa cG fun oA cI=>?_
 refine qau cI (b:=k1 == 7) kz (fun cJ=>?_) (fun cJ=>?_)
 ·
  have kD:k1 = 7:=by simpa using cJ
  refine qad [0,1] kz ?_
  refine qam (qbK aa cI (d:=61) (j:=16) (t:=22) (e:=5) (bytes:=1) (z:=.int .u8 0) kz kz kz kz (rfl) (rfl) (by omega) fun ax oB oC kE kF kG aU iu=>?_)
  refine qah [1] [] [(8,.p 1 0),(9,.p 2 0),(13,.v (.slice (some ⟨ax,0,none⟩) 16 16))] aU iu fun oD iv=>?_
  refine qae (qab ?_)
  refine qad [0,1,2,3] kz ?_
  refine qah [0,1,2] [3] [(9,.p 2 0),(13,.v (.slice (some ⟨ax,0,none⟩) 16 16)),(62,.v (.slice (some ⟨ax,0,none⟩) 16 16)),(64,.v (.slice ai ab.length aj))] aU iv fun oE iw=>?_
  refine qam (qbU aU iw (k:=0) (d:=65) (t:=22) (u:=22) (e:=5) (bytes:=1) (A:=(some ⟨ax,0,none⟩)) (As:=ai) (m:=ab.length) (cs:=aj) (m0:=16) (c:=16) (xs:=(List.replicate 16 (.int .u8 0))) (news:=bc ab) kz kz rfl (aH.move aU.step nilM aU.imm).src fun oF oG kH ix iy=>?_)
  have iz:(⟨(some ⟨ax,0,none⟩),16,5,1,16,qba (List.replicate 16 (.int .u8 0)) 0 ((bc ab).take (min ab.length 16))⟩:Rw) = brow (some ⟨ax,0,none⟩) 16 5 (qa7 ab):=qcN _ _ _
  obtain ⟨aM,kI⟩:=ix.rowEq 0 [brow (some ⟨ax,0,none⟩) 16 5 (qa7 ab)] iz
  have iA:=EnvOk.pick iy (ks:=[9,13,62,64,65]) (env':=[(9,.p 2 0),(13,.v (.slice (some ⟨ax,0,none⟩) 16 16)),(62,.v (.slice (some ⟨ax,0,none⟩) 16 16)),(64,.v (.slice ai ab.length aj)),(65,.v (.int .i64 ((min ab.length 16:Nat):Int)))]) kz
  have iB:=iA.cast (env':=[(9,.p 2 0),(13,.v (.slice (some ⟨ax,0,none⟩) ((qa7 ab).length) 16)),(62,.v (.slice (some ⟨ax,0,none⟩) ((qa7 ab).length) 16)),(64,.v (.slice ai ab.length aj)),(65,.v (.int .i64 ((min ab.length 16:Nat):Int)))]) (by rw [qa3 _])
  refine qae (qab ?_)
  refine qad [0,1,2,3,4] kz ?_
  refine qah [0,1,2] [3,4] [(67,.v (.slice al ah.length am)),(68,.v (.slice (some ⟨ax,0,none⟩) ((qa7 ab).length) 16))] aM iB fun oH iC=>?_
  refine qam (qai iC (f:=31) (vs:=[.slice al ah.length am,.slice (some ⟨ax,0,none⟩) ((qa7 ab).length) 16]) (d:=69) kz Tryd.call31 (qc8 _ _ _ _ ah (qa7 ab) _ _ ((bu.move aM.step nilM aM.imm).move (Step.refl _ Nil) nilM allF) (qbC (aM.own 0 _ rfl) (by first | omega | (rw [qa3]; decide) | (simp only [be_length]; exact Nat.le_trans (qbb _) (by decide)) | (have:=hroom; omega) | (have:=hmade; omega) | (simp only [List.length_append,List.length_nil]; omega)) (F:=fun _ _=>True) (fun _ _ _=>trivial))) ?_)
  rintro e_ oI ⟨rfl,dQ⟩
  refine ⟨_,rfl,fun oJ iD=>?_⟩
  have cK:=aM.next_nil dQ
  have kJ:=aM.frN dQ
  refine qah [4] [] [(10,.v (.bool (decide (ah = qa7 ab))))] cK iD fun oK iE=>?_
  refine qae (qab ?_)
  refine wp_ret ?_
  refine qaq ?_
  refine qal ?_
  refine qaD iE cK.cells (v:=.bool (decide (ah = qa7 ab))) kz ?_
  refine ⟨congrArg (fun b_=>Ending.returned (Value.bool b_)) ?_,cK.step⟩
  first
   | exact qc9 hq ‹_› ‹_›
   | exact qda hq ‹_› ‹_›
   | exact to_u hq ‹_› ‹_›
   | exact to_m hq ‹_› ‹_› ‹_› ‹_› ‹_› ‹_›
 have kK:k1 ≠ 7:=by simpa using cJ
 refine qan [(1,.v (.int .i64 v)),(2,.v (.bool flex)),(5,.p 0 0),(8,.p 1 0),(9,.p 2 0),(49,.v (.int .i64 k1)),(70,.v (.bool (k1 == 10)))] aa cI fun oL dR=>?_
 refine qap dR (b:=k1 == 10) kz (aE) ?_
 refine qan [(1,.v (.int .i64 v)),(2,.v (.bool flex)),(5,.p 0 0),(8,.p 1 0),(9,.p 2 0),(79,.v (.bool (k1 == 11)))] aa dR fun oM dS=>?_
 refine qap dS (b:=k1 == 11) kz (by simpa using bw) ?_
 refine wp_skip ?_
 refine qar ?_
 refine qab ?_
 refine qaI 8 kz aa fun oN kL dT iF=>?_
 refine qaH [0,1,2,3,4,5] [(117,.v (.int .i64 aO)),(119,.v (.int .i64 k1)),(121,.v (.int .i64 ac))] 3 (qaa qaf) (fun _ h=>h.cells) iF dS fun oO iG=>?_
 refine qaA (i:=6) kz (qai iG (f:=75) (vs:=[.int .i64 k1,.int .i64 ac]) (d:=122) kz Tryd.call75 (qeM k1 ac _) ?_)
 rintro e_ oP ⟨rfl,dU⟩
 refine ⟨_,rfl,fun oQ iH=>?_⟩
 have bt:=dT.next_nil dU
 have iI:=dT.frN dU
 have dV:=TT.ofW iI bt
 refine ⟨fun _=>dV,?_⟩
 refine qaH [7] [(123,.v (.bool (aO == (qbd k1 ac))))] 1 (qaa qaf) (fun _ h=>h.cells) dV iH fun oR iJ=>?_
 refine qaA (i:=8) kz (qa6 [10] bt.cells iJ (env':=[(10,.v (.bool (aO == (qbd k1 ac))))]) kz fun oS iK=>?_)
 refine ⟨fun h=>absurd rfl h,?_⟩
 refine qaG kz ?_ _
 refine qab ?_
 refine wp_ret ?_
 refine qaD iK bt.cells (v:=.bool (aO == (qbd k1 ac))) kz ?_
 refine ⟨congrArg (fun b_=>Ending.returned (Value.bool b_)) ?_,bt.step⟩
 first
  | exact qc9 hq ‹_› ‹_›
  | exact qda hq ‹_› ‹_›
  | exact to_u hq ‹_› ‹_›
  | exact to_m hq ‹_› ‹_› ‹_› ‹_› ‹_› ‹_›
theorem qi9 {v:Int} {flex:Bool} {T:List Fld → Tree → Tree → Prop} (hT:ToOK v flex T) (cf:List Value) (f:Fld) (ct:List Value) (t:Tree) (cg:List Value) (g:Tree) (w:World) (F:Nat → Nat → Prop) (hf:FldR w F cf f) (hpl:f.plain) (ac:f.kind = 11) (ht:TreeR w F ct t) (hg:TreeR w F cg g) (hQ:ToF T v f t g) :
  Calls Tryd.prog 51 #[.agg cf.toArray,.int .i64 v,.bool flex,.agg ct.toArray,.agg cg.toArray] w (qbD w (.bool true)):=by
 obtain ⟨k1,y2,y3,y4,y5,y6,y7,l8,A9,ap,dH,rfl,rfl,gU,g9⟩:=hf.open_
 have jk:=gU.small
 obtain ⟨aj,ak,al,aa,am,ey,ez,ae,af,eB,eC,ku,rfl,rfl,kv,dI,hC,nD⟩:=ht.open_
 have jl:=kv.small
 have jm:=dI.small
 obtain ⟨gV,gW,cB,ao,gX,gY,gZ,bE,dJ,g6,g7,kw,rfl,rfl,kx,g8,hJ,nE⟩:=hg.open_
 have jn:=kx.small
 have jo:=g8.small
 have ac:k1 = 11:=ac
 have hof:y7 ≠ 11:=hpl.1
 replace hpl:plains l8:=hpl.2
 have hq:=hQ.1
 refine enter (n:=124) Tryd.func51 rfl Tryd.ntmps51 kz fun a hE=>?_
 have hW:=WOk.start w Nil
 refine qad [0,1,2,3] kz ?_
 refine qam (qaY hW hE (d:=5) (cs:=[.int .i64 k1,.int .i64 y2,.int .i64 y3,.int .i64 y4,.int .i64 y5,.int .i64 y6,.int .i64 y7,.slice A9 l8.length ap]) kz fun hK nF nG ky kA kB hZ ia=>?_)
 refine qam (qaY hZ ia (d:=8) (cs:=[.int .i64 aj,.slice ey ak.length ez,.bool al,.slice ae aa.length af,.slice eB am.length eC]) kz fun ib nH nI kC kD kE ic ig=>?_)
 refine qam (qaY ic ig (d:=9) (cs:=[.int .i64 gV,.slice gY gW.length gZ,.bool cB,.slice bE ao.length dJ,.slice g6 gX.length g7]) kz fun ii nJ nK kF kG kH bF ij=>?_)
 refine qah [3] [] [(1,.v (.int .i64 v)),(2,.v (.bool flex)),(5,.p 0 0),(8,.p 1 0),(9,.p 2 0)] bF ij fun nL ik=>?_
 refine qae (qab ?_)
 refine qad [0,1,2,3,4] kz ?_
 refine qah [0,1,2] [3,4] [(1,.v (.int .i64 v)),(2,.v (.bool flex)),(5,.p 0 0),(8,.p 1 0),(9,.p 2 0),(17,.v (.agg #[.int .i64 k1,.int .i64 y2,.int .i64 y3,.int .i64 y4,.int .i64 y5,.int .i64 y6,.int .i64 y7,.slice A9 l8.length ap])),(18,.v (.int .i64 v)),(19,.v (.agg #[.int .i64 aj,.slice ey ak.length ez,.bool al,.slice ae aa.length af,.slice eB am.length eC]))] bF ik fun nM il=>?_
 refine qam (qai il (f:=73) (vs:=[.agg #[.int .i64 k1,.int .i64 y2,.int .i64 y3,.int .i64 y4,.int .i64 y5,.int .i64 y6,.int .i64 y7,.slice A9 l8.length ap],.int .i64 v,.agg #[.int .i64 aj,.slice ey ak.length ez,.bool al,.slice ae aa.length af,.slice eB am.length eC]]) (d:=20) kz Tryd.call73 (qiP k1 y2 y3 y4 y5 y6 y7 l8 _ _ v aj ak al aa am _ _ _ _ _ _ _) ?_)
 rintro e_ nN ⟨rfl,eD⟩
 refine ⟨_,rfl,fun nO im=>?_⟩
 have ab:=bF.next_nil eD
 have kI:=bF.frN eD
 refine qah [4] [] [(1,.v (.int .i64 v)),(2,.v (.bool flex)),(5,.p 0 0),(8,.p 1 0),(9,.p 2 0),(11,.v (.bool (Fld.nul (Fld.mk k1 y2 y3 y4 y5 y6 y7 l8) v (Tree.mk aj ak al aa am))))] ab im fun nP io=>?_
 refine qae (qab ?_)
 refine qad [0,1,2,3,4,5,6,7,8,9] kz ?_
 refine qah [0,1,2,3] [4,5,6,7,8,9] [(1,.v (.int .i64 v)),(2,.v (.bool flex)),(5,.p 0 0),(8,.p 1 0),(9,.p 2 0),(11,.v (.bool (Fld.nul (Fld.mk k1 y2 y3 y4 y5 y6 y7 l8) v (Tree.mk aj ak al aa am)))),(24,.v (.bool (decide (y4 ≥ 0))))] ab io fun nQ eE=>?_
 refine (Bool.eq_false_or_eq_true (decide (y4 ≥ 0))).elim (fun aD=>?_) (fun aD=>?_)
 ·
  have kJ:=of_decide_eq_true aD
  have ip:=eE.cast (env':=[(1,.v (.int .i64 v)),(2,.v (.bool flex)),(5,.p 0 0),(8,.p 1 0),(9,.p 2 0),(11,.v (.bool (Fld.nul (Fld.mk k1 y2 y3 y4 y5 y6 y7 l8) v (Tree.mk aj ak al aa am)))),(24,.v (.bool true))]) (by rw [aD])
  refine qah [4,5,6,7,8,9] [] [(1,.v (.int .i64 v)),(2,.v (.bool flex)),(5,.p 0 0),(8,.p 1 0),(9,.p 2 0),(11,.v (.bool (Fld.nul (Fld.mk k1 y2 y3 y4 y5 y6 y7 l8) v (Tree.mk aj ak al aa am)))),(12,.v (.bool (decide (v ≥ y4))))] ab ip fun nR iq=>?_
  refine qae (qab ?_)
  refine wp_seq ?_
  refine qad [0,1,2,3,4,5,6,7,8,9,10,11,12,13,14,15,16] kz ?_
  refine qah [0,1,2,3] [4,5,6,7,8,9,10,11,12,13,14,15,16] [(1,.v (.int .i64 v)),(2,.v (.bool flex)),(5,.p 0 0),(8,.p 1 0),(9,.p 2 0),(11,.v (.bool (Fld.nul (Fld.mk k1 y2 y3 y4 y5 y6 y7 l8) v (Tree.mk aj ak al aa am)))),(12,.v (.bool (decide (v ≥ y4)))),(33,.v (.bool (k1 == 8)))] ab iq fun nS eF=>?_
  have eG:(k1 == 8) = false:=by simp [ac]
  have eH:=eF.cast (env':=[(1,.v (.int .i64 v)),(2,.v (.bool flex)),(5,.p 0 0),(8,.p 1 0),(9,.p 2 0),(11,.v (.bool (Fld.nul (Fld.mk k1 y2 y3 y4 y5 y6 y7 l8) v (Tree.mk aj ak al aa am)))),(12,.v (.bool (decide (v ≥ y4)))),(33,.v (.bool false))]) (by rw [eG])
  refine qah [4,5,6,7,8] [9,10,11,12,13,14,15,16] [(1,.v (.int .i64 v)),(2,.v (.bool flex)),(5,.p 0 0),(8,.p 1 0),(9,.p 2 0),(11,.v (.bool (Fld.nul (Fld.mk k1 y2 y3 y4 y5 y6 y7 l8) v (Tree.mk aj ak al aa am)))),(12,.v (.bool (decide (v ≥ y4)))),(38,.v (.bool (k1 == 10)))] ab eH fun kK eI=>?_
  have eJ:(k1 == 10) = false:=by simp [ac]
  have eK:=eI.cast (env':=[(1,.v (.int .i64 v)),(2,.v (.bool flex)),(5,.p 0 0),(8,.p 1 0),(9,.p 2 0),(11,.v (.bool (Fld.nul (Fld.mk k1 y2 y3 y4 y5 y6 y7 l8) v (Tree.mk aj ak al aa am)))),(12,.v (.bool (decide (v ≥ y4)))),(38,.v (.bool false))]) (by rw [eJ])
  refine qah [9,10,11] [12,13,14,15,16] [(1,.v (.int .i64 v)),(2,.v (.bool flex)),(5,.p 0 0),(8,.p 1 0),(9,.p 2 0),(11,.v (.bool (Fld.nul (Fld.mk k1 y2 y3 y4 y5 y6 y7 l8) v (Tree.mk aj ak al aa am)))),(41,.v (.bool (decide (v ≥ y4))))] ab eK fun kL cC=>?_
  refine (Bool.eq_false_or_eq_true (decide (v ≥ y4))).elim (fun az=>?_) (fun az=>?_)
  ·
   have jp:=of_decide_eq_true az
   have eL:=cC.cast (env':=[(1,.v (.int .i64 v)),(2,.v (.bool flex)),(5,.p 0 0),(8,.p 1 0),(9,.p 2 0),(11,.v (.bool (Fld.nul (Fld.mk k1 y2 y3 y4 y5 y6 y7 l8) v (Tree.mk aj ak al aa am)))),(41,.v (.bool true))]) (by rw [az])
   refine qah [12,13,14,15,16] [] [(1,.v (.int .i64 v)),(2,.v (.bool flex)),(5,.p 0 0),(8,.p 1 0),(9,.p 2 0),(11,.v (.bool (Fld.nul (Fld.mk k1 y2 y3 y4 y5 y6 y7 l8) v (Tree.mk aj ak al aa am)))),(46,.v (.bool (!(cB == (Fld.nul (Fld.mk k1 y2 y3 y4 y5 y6 y7 l8) v (Tree.mk aj ak al aa am))))))] ab eL fun kM aE=>?_
   refine qae (qab ?_)
   refine qau aE (b:=!(cB == (Fld.nul (Fld.mk k1 y2 y3 y4 y5 y6 y7 l8) v (Tree.mk aj ak al aa am)))) kz (fun aF=>?_) (fun aF=>?_)
   ·
    have jq:!(cB = (Fld.nul (Fld.mk k1 y2 y3 y4 y5 y6 y7 l8) v (Tree.mk aj ak al aa am))):=by simpa using aF
    refine qan [(10,.v (.bool false))] ab aE fun kN eM=>?_
    refine wp_ret ?_
    refine qal ?_
    refine qaD eM ab.cells (v:=.bool false) kz ?_
    first
     | exact (qeL hq ‹_› ‹_› ‹_›).elim
     | exact (qfZ (hQ.2 ac ‹_›).1 ‹_›).elim
     | (exfalso; simp_all; done)
   have jr:!(cB ≠ (Fld.nul (Fld.mk k1 y2 y3 y4 y5 y6 y7 l8) v (Tree.mk aj ak al aa am))):=by simpa using aF
   refine wp_skip ?_
   refine qab ?_
   refine wp_seq ?_
   refine qan [(1,.v (.int .i64 v)),(2,.v (.bool flex)),(5,.p 0 0),(8,.p 1 0),(9,.p 2 0),(47,.v (.bool (Fld.nul (Fld.mk k1 y2 y3 y4 y5 y6 y7 l8) v (Tree.mk aj ak al aa am))))] ab aE fun kO aG=>?_
   refine qau aG (b:=Fld.nul (Fld.mk k1 y2 y3 y4 y5 y6 y7 l8) v (Tree.mk aj ak al aa am)) kz (fun eN=>?_) (fun eN=>?_)
   ·
    refine qan [(10,.v (.bool true))] ab aG fun kP eO=>?_
    refine wp_ret ?_
    refine qal ?_
    refine qaD eO ab.cells (v:=.bool true) kz ?_
    exact ⟨rfl,ab.step⟩
   refine wp_skip ?_
   refine qab ?_
   refine wp_seq ?_
   refine qan [(1,.v (.int .i64 v)),(2,.v (.bool flex)),(5,.p 0 0),(8,.p 1 0),(9,.p 2 0),(49,.v (.int .i64 k1))] ab aG fun kQ eP=>?_
   refine wp_block ?_
   refine wp_seq ?_
   refine qan [(1,.v (.int .i64 v)),(2,.v (.bool flex)),(5,.p 0 0),(8,.p 1 0),(9,.p 2 0),(49,.v (.int .i64 k1)),(50,.v (.bool (k1 == 8)))] ab eP fun kR cD=>?_
   refine qap cD (b:=k1 == 8) kz (by simp [ac]) ?_
   refine qaw [0,1] kz ?_
   refine qah [0,1] [] [(1,.v (.int .i64 v)),(2,.v (.bool flex)),(5,.p 0 0),(8,.p 1 0),(9,.p 2 0),(49,.v (.int .i64 k1)),(50,.v (.bool (k1 == 9)))] ab cD fun kS cE=>?_
   refine qae (qab ?_)
   refine qap cE (b:=k1 == 9) kz (by simp [ac]) ?_
   refine qan [(1,.v (.int .i64 v)),(2,.v (.bool flex)),(5,.p 0 0),(8,.p 1 0),(9,.p 2 0),(49,.v (.int .i64 k1)),(59,.v (.bool (k1 == 7)))] ab cE fun kT cG=>?_
   refine qap cG (b:=k1 == 7) kz (by simp [ac]) ?_
   refine qan [(1,.v (.int .i64 v)),(2,.v (.bool flex)),(5,.p 0 0),(8,.p 1 0),(9,.p 2 0),(49,.v (.int .i64 k1)),(70,.v (.bool (k1 == 10)))] ab cG fun kU cH=>?_
   refine qap cH (b:=k1 == 10) kz (by simp [ac]) ?_
   refine qan [(1,.v (.int .i64 v)),(2,.v (.bool flex)),(5,.p 0 0),(8,.p 1 0),(9,.p 2 0),(79,.v (.bool (k1 == 11)))] ab cH fun kV cI=>?_
   refine qa0 cI (b:=k1 == 11) kz (by simpa using ac) ?_
   refine qad [0,1,2,3] kz ?_
   refine qah [0,1] [2,3] [(1,.v (.int .i64 v)),(2,.v (.bool flex)),(5,.p 0 0),(9,.p 2 0),(82,.v (.slice ae aa.length af))] ab cI fun kW eQ=>?_
   refine qam (qai eQ (f:=74) (vs:=[.slice ae aa.length af]) (d:=83) kz Tryd.call74 (qeC _ _ aa (dI.move ab.step nilM ab.imm).le _) ?_)
   rintro e_ kX ⟨rfl,cJ⟩
   refine ⟨_,rfl,fun kY eR=>?_⟩
   have ar:=ab.next_nil cJ
   have js:=ab.frN cJ
   refine qah [3] [] [(1,.v (.int .i64 v)),(2,.v (.bool flex)),(5,.p 0 0),(9,.p 2 0),(14,.v (.slice ae ((qak aa).length) af))] ar eR fun kZ eS=>?_
   refine qae (qab ?_)
   refine wp_seq ?_
   refine qan [(1,.v (.int .i64 v)),(2,.v (.bool flex)),(5,.p 0 0),(9,.p 2 0),(14,.v (.slice ae ((qak aa).length) af)),(89,.v (.bool (((ao.length:Nat):Int) != (((qak aa).length:Nat):Int))))] ar eS fun k5 aH=>?_
   refine qau aH (b:=((ao.length:Nat):Int) != (((qak aa).length:Nat):Int)) kz (fun aI=>?_) (fun aI=>?_)
   ·
    have jt:((ao.length:Nat):Int) ≠ (((qak aa).length:Nat):Int):=by simpa using aI
    refine qan [(10,.v (.bool false))] ar aH fun k6 eU=>?_
    refine wp_ret ?_
    refine qal ?_
    refine qaq ?_
    refine qal ?_
    refine qaD eU ar.cells (v:=.bool false) kz ?_
    first
     | exact (qeL hq ‹_› ‹_› ‹_›).elim
     | exact (qfZ (hQ.2 ac ‹_›).1 ‹_›).elim
     | (exfalso; simp_all; done)
   have ju:((ao.length:Nat):Int) = (((qak aa).length:Nat):Int):=by simpa using aI
   refine wp_skip ?_
   refine qab ?_
   refine qad [0,1,2] kz ?_
   refine qah [0] [1,2] [(1,.v (.int .i64 v)),(2,.v (.bool flex)),(5,.p 0 0),(9,.p 2 0),(14,.v (.slice ae ((qak aa).length) af)),(90,.v (.agg #[.int .i64 k1,.int .i64 y2,.int .i64 y3,.int .i64 y4,.int .i64 y5,.int .i64 y6,.int .i64 y7,.slice A9 l8.length ap]))] ar aH fun k7 eV=>?_
   refine qam (qaO ar eV (d:=15) (cs:=[.int .i64 0,.int .i64 0,.int .i64 0,.int .i64 0,.int .i64 0,.int .i64 0,.int .i64 0,.slice none 0 0]) kz fun ir k8 k9 jv jw jx eW eX=>?_)
   refine qam (qay eW eX (oi:=3) (cs:=[.int .i64 k1,.int .i64 y2,.int .i64 y3,.int .i64 y4,.int .i64 y5,.int .i64 y6,.int .i64 y7,.slice A9 l8.length ap]) kz fun la jy cK eY=>?_)
   refine qae (qab ?_)
   refine qad [0,1,2,3,4,5,6,7] kz ?_
   refine qah [0,1,2] [3,4,5,6,7] [(1,.v (.int .i64 v)),(2,.v (.bool flex)),(9,.p 2 0),(14,.v (.slice ae ((qak aa).length) af)),(15,.p 3 0),(92,.v (.int .i64 y7)),(93,.p 3 0)] cK eY fun lb eZ=>?_
   refine qam (qay cK eZ (oi:=3) (cs:=[.int .i64 y7,.int .i64 y2,.int .i64 y3,.int .i64 y4,.int .i64 y5,.int .i64 y6,.int .i64 y7,.slice A9 l8.length ap]) kz fun lc jz cL e9=>?_)
   refine qah [4] [5,6,7] [(1,.v (.int .i64 v)),(2,.v (.bool flex)),(9,.p 2 0),(14,.v (.slice ae ((qak aa).length) af)),(15,.p 3 0),(94,.p 3 3)] cL e9 fun ld fa=>?_
   refine qam (qay cL fa (oi:=3) (cs:=[.int .i64 y7,.int .i64 y2,.int .i64 y3,.int .i64 (-1),.int .i64 y5,.int .i64 y6,.int .i64 y7,.slice A9 l8.length ap]) kz fun lf jA cM fb=>?_)
   refine qah [6] [7] [(1,.v (.int .i64 v)),(2,.v (.bool flex)),(9,.p 2 0),(14,.v (.slice ae ((qak aa).length) af)),(15,.p 3 0),(95,.p 3 4)] cM fb fun lg fe=>?_
   refine qam (qay cM fe (oi:=3) (cs:=[.int .i64 y7,.int .i64 y2,.int .i64 y3,.int .i64 (-1),.int .i64 (-1),.int .i64 y6,.int .i64 y7,.slice A9 l8.length ap]) kz fun lh jB aJ ff=>?_)
   refine qae (qab ?_)
   refine wp_seq ?_
   refine qan [(1,.v (.int .i64 v)),(2,.v (.bool flex)),(9,.p 2 0),(14,.v (.slice ae ((qak aa).length) af)),(15,.p 3 0),(97,.v (.int .i64 (((qak aa).length:Nat):Int))),(98,.v (.int .i64 0))] aJ ff fun li fg=>?_
   refine wp_block ?_
   have hl_:=(hQ.2 ac ‹_›).2
   refine wp_loop_ghost (fun n_ a_ w_=>∃ (k:Nat),n_ = (qak aa).length - k ∧ k ≤ (qak aa).length ∧ LInv aJ 124 [⟨hK,0,[.int .i64 k1,.int .i64 y2,.int .i64 y3,.int .i64 y4,.int .i64 y5,.int .i64 y6,.int .i64 y7,.slice A9 l8.length ap],true⟩,⟨ib,0,[.int .i64 aj,.slice ey ak.length ez,.bool al,.slice ae aa.length af,.slice eB am.length eC],true⟩,⟨ii,0,[.int .i64 gV,.slice gY gW.length gZ,.bool cB,.slice bE ao.length dJ,.slice g6 gX.length g7],true⟩,⟨ir,0,[.int .i64 y7,.int .i64 y2,.int .i64 y3,.int .i64 (-1),.int .i64 (-1),.int .i64 y6,.int .i64 y7,.slice A9 l8.length ap],true⟩] [] [(1,.v (.int .i64 v)),(2,.v (.bool flex)),(9,.p 2 0),(14,.v (.slice ae ((qak aa).length) af)),(15,.p 3 0),(97,.v (.int .i64 (((qak aa).length:Nat):Int))),(98,.v (.int .i64 ((k:Nat):Int)))] a_ w_) ((qak aa).length) ⟨0,by omega,by omega,fg.pk,aJ,Fr.refl _ _ _⟩ ?_
   rintro lj lm ln ⟨k,jC,jD,fh,au,fi⟩
   refine qan [(1,.v (.int .i64 v)),(2,.v (.bool flex)),(9,.p 2 0),(14,.v (.slice ae ((qak aa).length) af)),(15,.p 3 0),(97,.v (.int .i64 (((qak aa).length:Nat):Int))),(98,.v (.int .i64 ((k:Nat):Int))),(99,.v (.bool (decide (((k:Nat):Int) < (((qak aa).length:Nat):Int)))))] au fh fun lp aK=>?_
   refine wp_seq ?_
   refine qau aK (b:=decide (((k:Nat):Int) < (((qak aa).length:Nat):Int))) kz (fun aL=>?_) (fun aL=>?_)
   ·
    have jE:=of_decide_eq_true aL
    refine wp_skip ?_
    refine qab ?_
    refine wp_seq ?_
    refine wp_block ?_
    refine qan [(1,.v (.int .i64 v)),(2,.v (.bool flex)),(9,.p 2 0),(14,.v (.slice ae ((qak aa).length) af)),(15,.p 3 0),(16,.v (.int .i64 ((k:Nat):Int))),(97,.v (.int .i64 (((qak aa).length:Nat):Int))),(98,.v (.int .i64 ((k:Nat):Int)))] au aK fun lq fj=>?_
    refine qaI 14 kz au fun lr fk ag aA=>?_
    refine qaH [0,1,2,3,4,7,8,9] [(1,.v (.int .i64 v)),(2,.v (.bool flex)),(9,.p 2 0),(14,.v (.slice ae ((qak aa).length) af)),(15,.p 3 0),(97,.v (.int .i64 (((qak aa).length:Nat):Int))),(98,.v (.int .i64 ((k:Nat):Int))),(101,.v (.agg #[.int .i64 y7,.int .i64 y2,.int .i64 y3,.int .i64 (-1),.int .i64 (-1),.int .i64 y6,.int .i64 y7,.slice A9 l8.length ap])),(102,.v (.int .i64 v)),(103,.v (.bool flex)),(104,.v (.slice ae ((qak aa).length) af)),(105,.v (.int .i64 ((k:Nat):Int))),(109,.v (.slice bE ao.length dJ)),(110,.v (.int .i64 ((k:Nat):Int)))] 6 (qaa (qac (qaa (qaa (qac (qaa (qac (qaa qaf)))))))) (fun _ h=>h.cells) aA fj fun ls fl=>?_
    obtain ⟨iu,iv,fm,jF,aM⟩:=Slots.get (qb7 dI) (i:=k) (by first | omega | (have h_:ao.length = (qak aa).length:=(hQ.2 ac ‹_›).1; omega))
    obtain ⟨iw,cN⟩:∃ x,(qak aa)[k]? = some x:=⟨_,List.getElem?_eq_getElem (by omega)⟩
    have aO:=(qco hC) k iw cN
    obtain ⟨bG,bH,bI,bJ,bK,dK,dL,dM,dN,dO,dP,jG,rfl,aP,ix,iy,lu,lv⟩:=aO.open_
    rw [aP] at aO
    have iz:=ix.small
    have iA:=iy.small
    rw [aP] at aM
    refine qaJ fl (i:=5) (t:=34) (A:=ae) (m:=((qak aa).length)) (q:=((k:Nat):Int)) (d:=106) kz (e:=37) (size:=5) (bytes:=88) kz fm rfl (by first | omega | (have h_:ao.length = (qak aa).length:=(hQ.2 ac ‹_›).1; omega)) kz kz (qaa (qac (qaa (qaa (qac (qaa (qac (qaa qaf)))))))) aA fun lw fo=>?_
    refine qaP fo (i:=6) (t:=37) (b:=iu) (o:=iv + k * 5) (d:=107) kz (cs:=[.int .i64 bG,.slice dK bH.length dL,.bool bI,.slice dM bJ.length dN,.slice dO bK.length dP]) (v:=.agg #[.int .i64 bG,.slice dK bH.length dL,.bool bI,.slice dM bJ.length dN,.slice dO bK.length dP]) kz (fun w' h'=>(AtF.move aM (TT.step0 ag h') nilM qaZ).at_) kz kz (qaa (qac (qaa (qaa (qac (qaa (qac (qaa qaf)))))))) aA fun lx fq=>?_
    obtain ⟨iB,iC,fr,jH,aQ⟩:=Slots.get g8 (i:=k) (by first | omega | (have h_:ao.length = (qak aa).length:=(hQ.2 ac ‹_›).1; omega))
    obtain ⟨iD,cO⟩:∃ x,ao[k]? = some x:=⟨_,List.getElem?_eq_getElem (by omega)⟩
    have aR:=hJ k iD cO
    obtain ⟨bL,bM,bN,bO,bP,dQ,dR,dS,dT,dU,dV,jI,rfl,aS,iE,iF,ly,lz⟩:=aR.open_
    rw [aS] at aR
    have iG:=iE.small
    have iH:=iF.small
    rw [aS] at aQ
    refine qaJ fq (i:=10) (t:=34) (A:=bE) (m:=ao.length) (q:=((k:Nat):Int)) (d:=111) kz (e:=37) (size:=5) (bytes:=88) kz fr rfl (by first | omega | (have h_:ao.length = (qak aa).length:=(hQ.2 ac ‹_›).1; omega)) kz kz (qaa (qac (qaa (qaa (qac (qaa (qac (qaa qaf)))))))) aA fun lA ft=>?_
    refine qaP ft (i:=11) (t:=37) (b:=iB) (o:=iC + k * 5) (d:=112) kz (cs:=[.int .i64 bL,.slice dQ bM.length dR,.bool bN,.slice dS bO.length dT,.slice dU bP.length dV]) (v:=.agg #[.int .i64 bL,.slice dQ bM.length dR,.bool bN,.slice dS bO.length dT,.slice dU bP.length dV]) kz (fun w' h'=>(AtF.move aQ (TT.step0 ag h') nilM qaZ).at_) kz kz (qaa (qac (qaa (qaa (qac (qaa (qac (qaa qaf)))))))) aA fun lB fu=>?_
    refine qaA (i:=12) kz (qai fu (f:=51) (vs:=[.agg #[.int .i64 y7,.int .i64 y2,.int .i64 y3,.int .i64 (-1),.int .i64 (-1),.int .i64 y6,.int .i64 y7,.slice A9 l8.length ap],.int .i64 v,.bool flex,.agg #[.int .i64 bG,.slice dK bH.length dL,.bool bI,.slice dM bJ.length dN,.slice dO bK.length dP],.agg #[.int .i64 bL,.slice dQ bM.length dR,.bool bN,.slice dS bO.length dT,.slice dU bP.length dV]]) (d:=113) kz Tryd.call51 ( qf5 hT _ _ _ (Tree.mk bG bH bI bJ bK) _ (Tree.mk bL bM bN bO bP) _ _ (FldR.mk (l:=l8) dH (gU.move ag.step nilM ag.imm) (fun i_ x_ h_=>((g9 i_ x_ h_).move ag.step nilM ag.imm))) hpl hof (aO.move ag.step nilM ag.imm) (aR.move ag.step nilM ag.imm) (hl_ _ _ _ cN cO)) ?_)
    rintro e_ lC ⟨rfl,cP⟩
    refine ⟨_,rfl,fun lD fv=>?_⟩
    have aT:=ag.next_nil cP
    have cQ:=ag.frN cP
    have cR:=TT.ofW cQ aT
    refine ⟨fun _=>cR,?_⟩
    refine qaH [13] [(1,.v (.int .i64 v)),(2,.v (.bool flex)),(9,.p 2 0),(14,.v (.slice ae ((qak aa).length) af)),(15,.p 3 0),(97,.v (.int .i64 (((qak aa).length:Nat):Int))),(98,.v (.int .i64 ((k:Nat):Int))),(114,.v (.bool false))] 0 (qaa (qac (qaa (qaa (qac (qaa (qac (qaa qaf)))))))) (fun _ h=>h.cells) cR fv fun lE cS=>?_
    refine qaG kz ?_ _
    refine qab ?_
    refine qap cS (b:=false) kz rfl ?_
    refine wp_skip ?_
    refine qar ?_
    refine qab ?_
    refine qaw [0,1] kz ?_
    refine qah [0,1] [] [(1,.v (.int .i64 v)),(2,.v (.bool flex)),(9,.p 2 0),(14,.v (.slice ae ((qak aa).length) af)),(15,.p 3 0),(97,.v (.int .i64 (((qak aa).length:Nat):Int))),(98,.v (.int .i64 (IntKind.i64.wrap (((k:Nat):Int) + 1))))] aT cS fun lF cT=>?_
    refine qae (qab ?_)
    have fw:IntKind.i64.wrap (((k:Nat):Int) + 1) = ((k + 1:Nat):Int):=qaM (by omega)
    rw [fw] at cT
    exact ⟨(qak aa).length - (k + 1),by omega,k + 1,rfl,by omega,cT.pk,aT,((fi.trans fk).trans cQ)⟩
   have jJ:=of_decide_eq_false aL
   refine wp_exit ?_
   refine qaB ?_
   refine qaB ?_
   refine qaQ ?_
   refine qab ?_
   refine qan [(10,.v (.bool true))] au aK fun lG fx=>?_
   refine wp_ret ?_
   refine qaq ?_
   refine qal ?_
   refine qaD fx au.cells (v:=.bool true) kz ?_
   exact ⟨rfl,au.step⟩
  have jK:=of_decide_eq_false az
  have fy:=cC.cast (env':=[(1,.v (.int .i64 v)),(2,.v (.bool flex)),(5,.p 0 0),(8,.p 1 0),(9,.p 2 0),(11,.v (.bool (Fld.nul (Fld.mk k1 y2 y3 y4 y5 y6 y7 l8) v (Tree.mk aj ak al aa am)))),(41,.v (.bool false))]) (by rw [az])
  refine qah [12,13,14,15,16] [] [(1,.v (.int .i64 v)),(2,.v (.bool flex)),(5,.p 0 0),(8,.p 1 0),(9,.p 2 0),(11,.v (.bool (Fld.nul (Fld.mk k1 y2 y3 y4 y5 y6 y7 l8) v (Tree.mk aj ak al aa am)))),(46,.v (.bool false))] ab fy fun lH cU=>?_
  refine qae (qab ?_)
  refine qap cU (b:=false) kz rfl ?_
  refine wp_skip ?_
  refine qab ?_
  refine wp_seq ?_
  refine qan [(1,.v (.int .i64 v)),(2,.v (.bool flex)),(5,.p 0 0),(8,.p 1 0),(9,.p 2 0),(47,.v (.bool (Fld.nul (Fld.mk k1 y2 y3 y4 y5 y6 y7 l8) v (Tree.mk aj ak al aa am))))] ab cU fun lI aU=>?_
  refine qau aU (b:=Fld.nul (Fld.mk k1 y2 y3 y4 y5 y6 y7 l8) v (Tree.mk aj ak al aa am)) kz (fun fz=>?_) (fun fz=>?_)
  ·
   refine qan [(10,.v (.bool true))] ab aU fun lJ fA=>?_
   refine wp_ret ?_
   refine qal ?_
   refine qaD fA ab.cells (v:=.bool true) kz ?_
   exact ⟨rfl,ab.step⟩
  refine wp_skip ?_
  refine qab ?_
  refine wp_seq ?_
  refine qan [(1,.v (.int .i64 v)),(2,.v (.bool flex)),(5,.p 0 0),(8,.p 1 0),(9,.p 2 0),(49,.v (.int .i64 k1))] ab aU fun lK fB=>?_
  refine wp_block ?_
  refine wp_seq ?_
  refine qan [(1,.v (.int .i64 v)),(2,.v (.bool flex)),(5,.p 0 0),(8,.p 1 0),(9,.p 2 0),(49,.v (.int .i64 k1)),(50,.v (.bool (k1 == 8)))] ab fB fun lL cV=>?_
  refine qap cV (b:=k1 == 8) kz (by simp [ac]) ?_
  refine qaw [0,1] kz ?_
  refine qah [0,1] [] [(1,.v (.int .i64 v)),(2,.v (.bool flex)),(5,.p 0 0),(8,.p 1 0),(9,.p 2 0),(49,.v (.int .i64 k1)),(50,.v (.bool (k1 == 9)))] ab cV fun lM cW=>?_
  refine qae (qab ?_)
  refine qap cW (b:=k1 == 9) kz (by simp [ac]) ?_
  refine qan [(1,.v (.int .i64 v)),(2,.v (.bool flex)),(5,.p 0 0),(8,.p 1 0),(9,.p 2 0),(49,.v (.int .i64 k1)),(59,.v (.bool (k1 == 7)))] ab cW fun lN cX=>?_
  refine qap cX (b:=k1 == 7) kz (by simp [ac]) ?_
  refine qan [(1,.v (.int .i64 v)),(2,.v (.bool flex)),(5,.p 0 0),(8,.p 1 0),(9,.p 2 0),(49,.v (.int .i64 k1)),(70,.v (.bool (k1 == 10)))] ab cX fun lO cY=>?_
  refine qap cY (b:=k1 == 10) kz (by simp [ac]) ?_
  refine qan [(1,.v (.int .i64 v)),(2,.v (.bool flex)),(5,.p 0 0),(8,.p 1 0),(9,.p 2 0),(79,.v (.bool (k1 == 11)))] ab cY fun lP cZ=>?_
  refine qa0 cZ (b:=k1 == 11) kz (by simpa using ac) ?_
  refine qad [0,1,2,3] kz ?_
  refine qah [0,1] [2,3] [(1,.v (.int .i64 v)),(2,.v (.bool flex)),(5,.p 0 0),(9,.p 2 0),(82,.v (.slice ae aa.length af))] ab cZ fun lQ fC=>?_
  refine qam (qai fC (f:=74) (vs:=[.slice ae aa.length af]) (d:=83) kz Tryd.call74 (qeC _ _ aa (dI.move ab.step nilM ab.imm).le _) ?_)
  rintro e_ lR ⟨rfl,c5⟩
  refine ⟨_,rfl,fun lS fD=>?_⟩
  have av:=ab.next_nil c5
  have jL:=ab.frN c5
  refine qah [3] [] [(1,.v (.int .i64 v)),(2,.v (.bool flex)),(5,.p 0 0),(9,.p 2 0),(14,.v (.slice ae ((qak aa).length) af))] av fD fun lT fE=>?_
  refine qae (qab ?_)
  refine wp_seq ?_
  refine qan [(1,.v (.int .i64 v)),(2,.v (.bool flex)),(5,.p 0 0),(9,.p 2 0),(14,.v (.slice ae ((qak aa).length) af)),(89,.v (.bool (((ao.length:Nat):Int) != (((qak aa).length:Nat):Int))))] av fE fun lU aV=>?_
  refine qau aV (b:=((ao.length:Nat):Int) != (((qak aa).length:Nat):Int)) kz (fun aW=>?_) (fun aW=>?_)
  ·
   have jM:((ao.length:Nat):Int) ≠ (((qak aa).length:Nat):Int):=by simpa using aW
   refine qan [(10,.v (.bool false))] av aV fun lV fF=>?_
   refine wp_ret ?_
   refine qal ?_
   refine qaq ?_
   refine qal ?_
   refine qaD fF av.cells (v:=.bool false) kz ?_
   first
    | exact (qeL hq ‹_› ‹_› ‹_›).elim
    | exact (qfZ (hQ.2 ac ‹_›).1 ‹_›).elim
    | (exfalso; simp_all; done)
  have jN:((ao.length:Nat):Int) = (((qak aa).length:Nat):Int):=by simpa using aW
  refine wp_skip ?_
  refine qab ?_
  refine qad [0,1,2] kz ?_
  refine qah [0] [1,2] [(1,.v (.int .i64 v)),(2,.v (.bool flex)),(5,.p 0 0),(9,.p 2 0),(14,.v (.slice ae ((qak aa).length) af)),(90,.v (.agg #[.int .i64 k1,.int .i64 y2,.int .i64 y3,.int .i64 y4,.int .i64 y5,.int .i64 y6,.int .i64 y7,.slice A9 l8.length ap]))] av aV fun lW fG=>?_
  refine qam (qaO av fG (d:=15) (cs:=[.int .i64 0,.int .i64 0,.int .i64 0,.int .i64 0,.int .i64 0,.int .i64 0,.int .i64 0,.slice none 0 0]) kz fun iI lX lY jO jP jQ fH fI=>?_)
  refine qam (qay fH fI (oi:=3) (cs:=[.int .i64 k1,.int .i64 y2,.int .i64 y3,.int .i64 y4,.int .i64 y5,.int .i64 y6,.int .i64 y7,.slice A9 l8.length ap]) kz fun lZ jR c6 fJ=>?_)
  refine qae (qab ?_)
  refine qad [0,1,2,3,4,5,6,7] kz ?_
  refine qah [0,1,2] [3,4,5,6,7] [(1,.v (.int .i64 v)),(2,.v (.bool flex)),(9,.p 2 0),(14,.v (.slice ae ((qak aa).length) af)),(15,.p 3 0),(92,.v (.int .i64 y7)),(93,.p 3 0)] c6 fJ fun l5 fK=>?_
  refine qam (qay c6 fK (oi:=3) (cs:=[.int .i64 y7,.int .i64 y2,.int .i64 y3,.int .i64 y4,.int .i64 y5,.int .i64 y6,.int .i64 y7,.slice A9 l8.length ap]) kz fun l6 jS da fL=>?_)
  refine qah [4] [5,6,7] [(1,.v (.int .i64 v)),(2,.v (.bool flex)),(9,.p 2 0),(14,.v (.slice ae ((qak aa).length) af)),(15,.p 3 0),(94,.p 3 3)] da fL fun l7 fM=>?_
  refine qam (qay da fM (oi:=3) (cs:=[.int .i64 y7,.int .i64 y2,.int .i64 y3,.int .i64 (-1),.int .i64 y5,.int .i64 y6,.int .i64 y7,.slice A9 l8.length ap]) kz fun l9 jT db fN=>?_)
  refine qah [6] [7] [(1,.v (.int .i64 v)),(2,.v (.bool flex)),(9,.p 2 0),(14,.v (.slice ae ((qak aa).length) af)),(15,.p 3 0),(95,.p 3 4)] db fN fun ma fO=>?_
  refine qam (qay db fO (oi:=3) (cs:=[.int .i64 y7,.int .i64 y2,.int .i64 y3,.int .i64 (-1),.int .i64 (-1),.int .i64 y6,.int .i64 y7,.slice A9 l8.length ap]) kz fun mc jU aX fP=>?_)
  refine qae (qab ?_)
  refine wp_seq ?_
  refine qan [(1,.v (.int .i64 v)),(2,.v (.bool flex)),(9,.p 2 0),(14,.v (.slice ae ((qak aa).length) af)),(15,.p 3 0),(97,.v (.int .i64 (((qak aa).length:Nat):Int))),(98,.v (.int .i64 0))] aX fP fun md fQ=>?_
  refine wp_block ?_
  have hl_:=(hQ.2 ac ‹_›).2
  refine wp_loop_ghost (fun n_ a_ w_=>∃ (k:Nat),n_ = (qak aa).length - k ∧ k ≤ (qak aa).length ∧ LInv aX 124 [⟨hK,0,[.int .i64 k1,.int .i64 y2,.int .i64 y3,.int .i64 y4,.int .i64 y5,.int .i64 y6,.int .i64 y7,.slice A9 l8.length ap],true⟩,⟨ib,0,[.int .i64 aj,.slice ey ak.length ez,.bool al,.slice ae aa.length af,.slice eB am.length eC],true⟩,⟨ii,0,[.int .i64 gV,.slice gY gW.length gZ,.bool cB,.slice bE ao.length dJ,.slice g6 gX.length g7],true⟩,⟨iI,0,[.int .i64 y7,.int .i64 y2,.int .i64 y3,.int .i64 (-1),.int .i64 (-1),.int .i64 y6,.int .i64 y7,.slice A9 l8.length ap],true⟩] [] [(1,.v (.int .i64 v)),(2,.v (.bool flex)),(9,.p 2 0),(14,.v (.slice ae ((qak aa).length) af)),(15,.p 3 0),(97,.v (.int .i64 (((qak aa).length:Nat):Int))),(98,.v (.int .i64 ((k:Nat):Int)))] a_ w_) ((qak aa).length) ⟨0,by omega,by omega,fQ.pk,aX,Fr.refl _ _ _⟩ ?_
  rintro me mf mg ⟨k,jV,jW,fR,aw,fS⟩
  refine qan [(1,.v (.int .i64 v)),(2,.v (.bool flex)),(9,.p 2 0),(14,.v (.slice ae ((qak aa).length) af)),(15,.p 3 0),(97,.v (.int .i64 (((qak aa).length:Nat):Int))),(98,.v (.int .i64 ((k:Nat):Int))),(99,.v (.bool (decide (((k:Nat):Int) < (((qak aa).length:Nat):Int)))))] aw fR fun mh aY=>?_
  refine wp_seq ?_
  refine qau aY (b:=decide (((k:Nat):Int) < (((qak aa).length:Nat):Int))) kz (fun aZ=>?_) (fun aZ=>?_)
  ·
   have jX:=of_decide_eq_true aZ
   refine wp_skip ?_
   refine qab ?_
   refine wp_seq ?_
   refine wp_block ?_
   refine qan [(1,.v (.int .i64 v)),(2,.v (.bool flex)),(9,.p 2 0),(14,.v (.slice ae ((qak aa).length) af)),(15,.p 3 0),(16,.v (.int .i64 ((k:Nat):Int))),(97,.v (.int .i64 (((qak aa).length:Nat):Int))),(98,.v (.int .i64 ((k:Nat):Int)))] aw aY fun mi fT=>?_
   refine qaI 14 kz aw fun mj fU ah aB=>?_
   refine qaH [0,1,2,3,4,7,8,9] [(1,.v (.int .i64 v)),(2,.v (.bool flex)),(9,.p 2 0),(14,.v (.slice ae ((qak aa).length) af)),(15,.p 3 0),(97,.v (.int .i64 (((qak aa).length:Nat):Int))),(98,.v (.int .i64 ((k:Nat):Int))),(101,.v (.agg #[.int .i64 y7,.int .i64 y2,.int .i64 y3,.int .i64 (-1),.int .i64 (-1),.int .i64 y6,.int .i64 y7,.slice A9 l8.length ap])),(102,.v (.int .i64 v)),(103,.v (.bool flex)),(104,.v (.slice ae ((qak aa).length) af)),(105,.v (.int .i64 ((k:Nat):Int))),(109,.v (.slice bE ao.length dJ)),(110,.v (.int .i64 ((k:Nat):Int)))] 6 (qaa (qac (qaa (qaa (qac (qaa (qac (qaa qaf)))))))) (fun _ h=>h.cells) aB fT fun ml fV=>?_
   obtain ⟨iJ,iK,fW,jY,ba⟩:=Slots.get (qb7 dI) (i:=k) (by first | omega | (have h_:ao.length = (qak aa).length:=(hQ.2 ac ‹_›).1; omega))
   obtain ⟨iL,dc⟩:∃ x,(qak aa)[k]? = some x:=⟨_,List.getElem?_eq_getElem (by omega)⟩
   have bf:=(qco hC) k iL dc
   obtain ⟨bQ,bR,bS,bT,bU,dW,dX,dY,dZ,d5,d6,jZ,rfl,bg,iM,iN,mn,mo⟩:=bf.open_
   rw [bg] at bf
   have iO:=iM.small
   have iP:=iN.small
   rw [bg] at ba
   refine qaJ fV (i:=5) (t:=34) (A:=ae) (m:=((qak aa).length)) (q:=((k:Nat):Int)) (d:=106) kz (e:=37) (size:=5) (bytes:=88) kz fW rfl (by first | omega | (have h_:ao.length = (qak aa).length:=(hQ.2 ac ‹_›).1; omega)) kz kz (qaa (qac (qaa (qaa (qac (qaa (qac (qaa qaf)))))))) aB fun mp fX=>?_
   refine qaP fX (i:=6) (t:=37) (b:=iJ) (o:=iK + k * 5) (d:=107) kz (cs:=[.int .i64 bQ,.slice dW bR.length dX,.bool bS,.slice dY bT.length dZ,.slice d5 bU.length d6]) (v:=.agg #[.int .i64 bQ,.slice dW bR.length dX,.bool bS,.slice dY bT.length dZ,.slice d5 bU.length d6]) kz (fun w' h'=>(AtF.move ba (TT.step0 ah h') nilM qaZ).at_) kz kz (qaa (qac (qaa (qaa (qac (qaa (qac (qaa qaf)))))))) aB fun mq fY=>?_
   obtain ⟨iQ,iR,fZ,j0,bh⟩:=Slots.get g8 (i:=k) (by first | omega | (have h_:ao.length = (qak aa).length:=(hQ.2 ac ‹_›).1; omega))
   obtain ⟨iS,de⟩:∃ x,ao[k]? = some x:=⟨_,List.getElem?_eq_getElem (by omega)⟩
   have bi:=hJ k iS de
   obtain ⟨bV,bW,bX,bY,bZ,d7,d8,d9,ea,eb,ec,j1,rfl,bj,iT,iU,mr,mt⟩:=bi.open_
   rw [bj] at bi
   have iV:=iT.small
   have iW:=iU.small
   rw [bj] at bh
   refine qaJ fY (i:=10) (t:=34) (A:=bE) (m:=ao.length) (q:=((k:Nat):Int)) (d:=111) kz (e:=37) (size:=5) (bytes:=88) kz fZ rfl (by first | omega | (have h_:ao.length = (qak aa).length:=(hQ.2 ac ‹_›).1; omega)) kz kz (qaa (qac (qaa (qaa (qac (qaa (qac (qaa qaf)))))))) aB fun mu f5=>?_
   refine qaP f5 (i:=11) (t:=37) (b:=iQ) (o:=iR + k * 5) (d:=112) kz (cs:=[.int .i64 bV,.slice d7 bW.length d8,.bool bX,.slice d9 bY.length ea,.slice eb bZ.length ec]) (v:=.agg #[.int .i64 bV,.slice d7 bW.length d8,.bool bX,.slice d9 bY.length ea,.slice eb bZ.length ec]) kz (fun w' h'=>(AtF.move bh (TT.step0 ah h') nilM qaZ).at_) kz kz (qaa (qac (qaa (qaa (qac (qaa (qac (qaa qaf)))))))) aB fun mw f7=>?_
   refine qaA (i:=12) kz (qai f7 (f:=51) (vs:=[.agg #[.int .i64 y7,.int .i64 y2,.int .i64 y3,.int .i64 (-1),.int .i64 (-1),.int .i64 y6,.int .i64 y7,.slice A9 l8.length ap],.int .i64 v,.bool flex,.agg #[.int .i64 bQ,.slice dW bR.length dX,.bool bS,.slice dY bT.length dZ,.slice d5 bU.length d6],.agg #[.int .i64 bV,.slice d7 bW.length d8,.bool bX,.slice d9 bY.length ea,.slice eb bZ.length ec]]) (d:=113) kz Tryd.call51 ( qf5 hT _ _ _ (Tree.mk bQ bR bS bT bU) _ (Tree.mk bV bW bX bY bZ) _ _ (FldR.mk (l:=l8) dH (gU.move ah.step nilM ah.imm) (fun i_ x_ h_=>((g9 i_ x_ h_).move ah.step nilM ah.imm))) hpl hof (bf.move ah.step nilM ah.imm) (bi.move ah.step nilM ah.imm) (hl_ _ _ _ dc de)) ?_)
   rintro e_ mx ⟨rfl,df⟩
   refine ⟨_,rfl,fun my f8=>?_⟩
   have bk:=ah.next_nil df
   have dg:=ah.frN df
   have dh:=TT.ofW dg bk
   refine ⟨fun _=>dh,?_⟩
   refine qaH [13] [(1,.v (.int .i64 v)),(2,.v (.bool flex)),(9,.p 2 0),(14,.v (.slice ae ((qak aa).length) af)),(15,.p 3 0),(97,.v (.int .i64 (((qak aa).length:Nat):Int))),(98,.v (.int .i64 ((k:Nat):Int))),(114,.v (.bool false))] 0 (qaa (qac (qaa (qaa (qac (qaa (qac (qaa qaf)))))))) (fun _ h=>h.cells) dh f8 fun mz di=>?_
   refine qaG kz ?_ _
   refine qab ?_
   refine qap di (b:=false) kz rfl ?_
   refine wp_skip ?_
   refine qar ?_
   refine qab ?_
   refine qaw [0,1] kz ?_
   refine qah [0,1] [] [(1,.v (.int .i64 v)),(2,.v (.bool flex)),(9,.p 2 0),(14,.v (.slice ae ((qak aa).length) af)),(15,.p 3 0),(97,.v (.int .i64 (((qak aa).length:Nat):Int))),(98,.v (.int .i64 (IntKind.i64.wrap (((k:Nat):Int) + 1))))] bk di fun mA dj=>?_
   refine qae (qab ?_)
   have f9:IntKind.i64.wrap (((k:Nat):Int) + 1) = ((k + 1:Nat):Int):=qaM (by omega)
   rw [f9] at dj
   exact ⟨(qak aa).length - (k + 1),by omega,k + 1,rfl,by omega,dj.pk,bk,((fS.trans fU).trans dg)⟩
  have j2:=of_decide_eq_false aZ
  refine wp_exit ?_
  refine qaB ?_
  refine qaB ?_
  refine qaQ ?_
  refine qab ?_
  refine qan [(10,.v (.bool true))] aw aY fun mB ga=>?_
  refine wp_ret ?_
  refine qaq ?_
  refine qal ?_
  refine qaD ga aw.cells (v:=.bool true) kz ?_
  exact ⟨rfl,aw.step⟩
 have j3:=of_decide_eq_false aD
 have gb:=eE.cast (env':=[(1,.v (.int .i64 v)),(2,.v (.bool flex)),(5,.p 0 0),(8,.p 1 0),(9,.p 2 0),(11,.v (.bool (Fld.nul (Fld.mk k1 y2 y3 y4 y5 y6 y7 l8) v (Tree.mk aj ak al aa am)))),(24,.v (.bool false))]) (by rw [aD])
 refine qah [4,5,6,7,8,9] [] [(1,.v (.int .i64 v)),(2,.v (.bool flex)),(5,.p 0 0),(8,.p 1 0),(9,.p 2 0),(11,.v (.bool (Fld.nul (Fld.mk k1 y2 y3 y4 y5 y6 y7 l8) v (Tree.mk aj ak al aa am)))),(12,.v (.bool false))] ab gb fun mC gc=>?_
 refine qae (qab ?_)
 refine wp_seq ?_
 refine qad [0,1,2,3,4,5,6,7,8,9,10,11,12,13,14,15,16] kz ?_
 refine qah [0,1,2,3] [4,5,6,7,8,9,10,11,12,13,14,15,16] [(1,.v (.int .i64 v)),(2,.v (.bool flex)),(5,.p 0 0),(8,.p 1 0),(9,.p 2 0),(11,.v (.bool (Fld.nul (Fld.mk k1 y2 y3 y4 y5 y6 y7 l8) v (Tree.mk aj ak al aa am)))),(12,.v (.bool false)),(33,.v (.bool (k1 == 8)))] ab gc fun mD gd=>?_
 have ge:(k1 == 8) = false:=by simp [ac]
 have gg:=gd.cast (env':=[(1,.v (.int .i64 v)),(2,.v (.bool flex)),(5,.p 0 0),(8,.p 1 0),(9,.p 2 0),(11,.v (.bool (Fld.nul (Fld.mk k1 y2 y3 y4 y5 y6 y7 l8) v (Tree.mk aj ak al aa am)))),(12,.v (.bool false)),(33,.v (.bool false))]) (by rw [ge])
 refine qah [4,5,6,7,8] [9,10,11,12,13,14,15,16] [(1,.v (.int .i64 v)),(2,.v (.bool flex)),(5,.p 0 0),(8,.p 1 0),(9,.p 2 0),(11,.v (.bool (Fld.nul (Fld.mk k1 y2 y3 y4 y5 y6 y7 l8) v (Tree.mk aj ak al aa am)))),(12,.v (.bool false)),(38,.v (.bool (k1 == 10)))] ab gg fun mF gh=>?_
 have gi:(k1 == 10) = false:=by simp [ac]
 have gj:=gh.cast (env':=[(1,.v (.int .i64 v)),(2,.v (.bool flex)),(5,.p 0 0),(8,.p 1 0),(9,.p 2 0),(11,.v (.bool (Fld.nul (Fld.mk k1 y2 y3 y4 y5 y6 y7 l8) v (Tree.mk aj ak al aa am)))),(12,.v (.bool false)),(38,.v (.bool false))]) (by rw [gi])
 refine qah [9,10,11,12,13,14,15,16] [] [(1,.v (.int .i64 v)),(2,.v (.bool flex)),(5,.p 0 0),(8,.p 1 0),(9,.p 2 0),(11,.v (.bool (Fld.nul (Fld.mk k1 y2 y3 y4 y5 y6 y7 l8) v (Tree.mk aj ak al aa am)))),(46,.v (.bool false))] ab gj fun mG dl=>?_
 refine qae (qab ?_)
 refine qap dl (b:=false) kz rfl ?_
 refine wp_skip ?_
 refine qab ?_
 refine wp_seq ?_
 refine qan [(1,.v (.int .i64 v)),(2,.v (.bool flex)),(5,.p 0 0),(8,.p 1 0),(9,.p 2 0),(47,.v (.bool (Fld.nul (Fld.mk k1 y2 y3 y4 y5 y6 y7 l8) v (Tree.mk aj ak al aa am))))] ab dl fun mH bn=>?_
 refine qau bn (b:=Fld.nul (Fld.mk k1 y2 y3 y4 y5 y6 y7 l8) v (Tree.mk aj ak al aa am)) kz (fun gk=>?_) (fun gk=>?_)
 ·
  refine qan [(10,.v (.bool true))] ab bn fun mI gl=>?_
  refine wp_ret ?_
  refine qal ?_
  refine qaD gl ab.cells (v:=.bool true) kz ?_
  exact ⟨rfl,ab.step⟩
 refine wp_skip ?_
 refine qab ?_
 refine wp_seq ?_
 refine qan [(1,.v (.int .i64 v)),(2,.v (.bool flex)),(5,.p 0 0),(8,.p 1 0),(9,.p 2 0),(49,.v (.int .i64 k1))] ab bn fun mJ gm=>?_
 refine wp_block ?_
 refine wp_seq ?_
 refine qan [(1,.v (.int .i64 v)),(2,.v (.bool flex)),(5,.p 0 0),(8,.p 1 0),(9,.p 2 0),(49,.v (.int .i64 k1)),(50,.v (.bool (k1 == 8)))] ab gm fun mK dp=>?_
 refine qap dp (b:=k1 == 8) kz (by simp [ac]) ?_
 refine qaw [0,1] kz ?_
 refine qah [0,1] [] [(1,.v (.int .i64 v)),(2,.v (.bool flex)),(5,.p 0 0),(8,.p 1 0),(9,.p 2 0),(49,.v (.int .i64 k1)),(50,.v (.bool (k1 == 9)))] ab dp fun mL dq=>?_
 refine qae (qab ?_)
 refine qap dq (b:=k1 == 9) kz (by simp [ac]) ?_
 refine qan [(1,.v (.int .i64 v)),(2,.v (.bool flex)),(5,.p 0 0),(8,.p 1 0),(9,.p 2 0),(49,.v (.int .i64 k1)),(59,.v (.bool (k1 == 7)))] ab dq fun mM dr=>?_
 refine qap dr (b:=k1 == 7) kz (by simp [ac]) ?_
 refine qan [(1,.v (.int .i64 v)),(2,.v (.bool flex)),(5,.p 0 0),(8,.p 1 0),(9,.p 2 0),(49,.v (.int .i64 k1)),(70,.v (.bool (k1 == 10)))] ab dr fun mN dt=>?_
 refine qap dt (b:=k1 == 10) kz (by simp [ac]) ?_
 refine qan [(1,.v (.int .i64 v)),(2,.v (.bool flex)),(5,.p 0 0),(8,.p 1 0),(9,.p 2 0),(79,.v (.bool (k1 == 11)))] ab dt fun mO du=>?_
 refine qa0 du (b:=k1 == 11) kz (by simpa using ac) ?_
 refine qad [0,1,2,3] kz ?_
 refine qah [0,1] [2,3] [(1,.v (.int .i64 v)),(2,.v (.bool flex)),(5,.p 0 0),(9,.p 2 0),(82,.v (.slice ae aa.length af))] ab du fun mQ gn=>?_
 refine qam (qai gn (f:=74) (vs:=[.slice ae aa.length af]) (d:=83) kz Tryd.call74 (qeC _ _ aa (dI.move ab.step nilM ab.imm).le _) ?_)
 rintro e_ mR ⟨rfl,dv⟩
 refine ⟨_,rfl,fun mS gp=>?_⟩
 have ax:=ab.next_nil dv
 have j4:=ab.frN dv
 refine qah [3] [] [(1,.v (.int .i64 v)),(2,.v (.bool flex)),(5,.p 0 0),(9,.p 2 0),(14,.v (.slice ae ((qak aa).length) af))] ax gp fun mT gq=>?_
 refine qae (qab ?_)
 refine wp_seq ?_
 refine qan [(1,.v (.int .i64 v)),(2,.v (.bool flex)),(5,.p 0 0),(9,.p 2 0),(14,.v (.slice ae ((qak aa).length) af)),(89,.v (.bool (((ao.length:Nat):Int) != (((qak aa).length:Nat):Int))))] ax gq fun mU bo=>?_
 refine qau bo (b:=((ao.length:Nat):Int) != (((qak aa).length:Nat):Int)) kz (fun bp=>?_) (fun bp=>?_)
 ·
  have j5:((ao.length:Nat):Int) ≠ (((qak aa).length:Nat):Int):=by simpa using bp
  refine qan [(10,.v (.bool false))] ax bo fun mV gt=>?_
  refine wp_ret ?_
  refine qal ?_
  refine qaq ?_
  refine qal ?_
  refine qaD gt ax.cells (v:=.bool false) kz ?_
  first
   | exact (qeL hq ‹_› ‹_› ‹_›).elim
   | exact (qfZ (hQ.2 ac ‹_›).1 ‹_›).elim
   | (exfalso; simp_all; done)
 have j6:((ao.length:Nat):Int) = (((qak aa).length:Nat):Int):=by simpa using bp
 refine wp_skip ?_
 refine qab ?_
 refine qad [0,1,2] kz ?_
 refine qah [0] [1,2] [(1,.v (.int .i64 v)),(2,.v (.bool flex)),(5,.p 0 0),(9,.p 2 0),(14,.v (.slice ae ((qak aa).length) af)),(90,.v (.agg #[.int .i64 k1,.int .i64 y2,.int .i64 y3,.int .i64 y4,.int .i64 y5,.int .i64 y6,.int .i64 y7,.slice A9 l8.length ap]))] ax bo fun mW gv=>?_
 refine qam (qaO ax gv (d:=15) (cs:=[.int .i64 0,.int .i64 0,.int .i64 0,.int .i64 0,.int .i64 0,.int .i64 0,.int .i64 0,.slice none 0 0]) kz fun iX mX mY j7 j8 j9 gw gx=>?_)
 refine qam (qay gw gx (oi:=3) (cs:=[.int .i64 k1,.int .i64 y2,.int .i64 y3,.int .i64 y4,.int .i64 y5,.int .i64 y6,.int .i64 y7,.slice A9 l8.length ap]) kz fun mZ ka dw gy=>?_)
 refine qae (qab ?_)
 refine qad [0,1,2,3,4,5,6,7] kz ?_
 refine qah [0,1,2] [3,4,5,6,7] [(1,.v (.int .i64 v)),(2,.v (.bool flex)),(9,.p 2 0),(14,.v (.slice ae ((qak aa).length) af)),(15,.p 3 0),(92,.v (.int .i64 y7)),(93,.p 3 0)] dw gy fun m4 gz=>?_
 refine qam (qay dw gz (oi:=3) (cs:=[.int .i64 y7,.int .i64 y2,.int .i64 y3,.int .i64 y4,.int .i64 y5,.int .i64 y6,.int .i64 y7,.slice A9 l8.length ap]) kz fun m5 kd dx gA=>?_)
 refine qah [4] [5,6,7] [(1,.v (.int .i64 v)),(2,.v (.bool flex)),(9,.p 2 0),(14,.v (.slice ae ((qak aa).length) af)),(15,.p 3 0),(94,.p 3 3)] dx gA fun m6 gB=>?_
 refine qam (qay dx gB (oi:=3) (cs:=[.int .i64 y7,.int .i64 y2,.int .i64 y3,.int .i64 (-1),.int .i64 y5,.int .i64 y6,.int .i64 y7,.slice A9 l8.length ap]) kz fun m7 ke dy gC=>?_)
 refine qah [6] [7] [(1,.v (.int .i64 v)),(2,.v (.bool flex)),(9,.p 2 0),(14,.v (.slice ae ((qak aa).length) af)),(15,.p 3 0),(95,.p 3 4)] dy gC fun m8 gD=>?_
 refine qam (qay dy gD (oi:=3) (cs:=[.int .i64 y7,.int .i64 y2,.int .i64 y3,.int .i64 (-1),.int .i64 (-1),.int .i64 y6,.int .i64 y7,.slice A9 l8.length ap]) kz fun m9 kf bq gE=>?_)
 refine qae (qab ?_)
 refine wp_seq ?_
 refine qan [(1,.v (.int .i64 v)),(2,.v (.bool flex)),(9,.p 2 0),(14,.v (.slice ae ((qak aa).length) af)),(15,.p 3 0),(97,.v (.int .i64 (((qak aa).length:Nat):Int))),(98,.v (.int .i64 0))] bq gE fun nf gF=>?_
 refine wp_block ?_
 have hl_:=(hQ.2 ac ‹_›).2
 refine wp_loop_ghost (fun n_ a_ w_=>∃ (k:Nat),n_ = (qak aa).length - k ∧ k ≤ (qak aa).length ∧ LInv bq 124 [⟨hK,0,[.int .i64 k1,.int .i64 y2,.int .i64 y3,.int .i64 y4,.int .i64 y5,.int .i64 y6,.int .i64 y7,.slice A9 l8.length ap],true⟩,⟨ib,0,[.int .i64 aj,.slice ey ak.length ez,.bool al,.slice ae aa.length af,.slice eB am.length eC],true⟩,⟨ii,0,[.int .i64 gV,.slice gY gW.length gZ,.bool cB,.slice bE ao.length dJ,.slice g6 gX.length g7],true⟩,⟨iX,0,[.int .i64 y7,.int .i64 y2,.int .i64 y3,.int .i64 (-1),.int .i64 (-1),.int .i64 y6,.int .i64 y7,.slice A9 l8.length ap],true⟩] [] [(1,.v (.int .i64 v)),(2,.v (.bool flex)),(9,.p 2 0),(14,.v (.slice ae ((qak aa).length) af)),(15,.p 3 0),(97,.v (.int .i64 (((qak aa).length:Nat):Int))),(98,.v (.int .i64 ((k:Nat):Int)))] a_ w_) ((qak aa).length) ⟨0,by omega,by omega,gF.pk,bq,Fr.refl _ _ _⟩ ?_
 rintro ng nh ni ⟨k,kg,kh,gG,ay,gH⟩
 refine qan [(1,.v (.int .i64 v)),(2,.v (.bool flex)),(9,.p 2 0),(14,.v (.slice ae ((qak aa).length) af)),(15,.p 3 0),(97,.v (.int .i64 (((qak aa).length:Nat):Int))),(98,.v (.int .i64 ((k:Nat):Int))),(99,.v (.bool (decide (((k:Nat):Int) < (((qak aa).length:Nat):Int)))))] ay gG fun nj bt=>?_
 refine wp_seq ?_
 refine qau bt (b:=decide (((k:Nat):Int) < (((qak aa).length:Nat):Int))) kz (fun bu=>?_) (fun bu=>?_)
 ·
  have ki:=of_decide_eq_true bu
  refine wp_skip ?_
  refine qab ?_
  refine wp_seq ?_
  refine wp_block ?_
  refine qan [(1,.v (.int .i64 v)),(2,.v (.bool flex)),(9,.p 2 0),(14,.v (.slice ae ((qak aa).length) af)),(15,.p 3 0),(16,.v (.int .i64 ((k:Nat):Int))),(97,.v (.int .i64 (((qak aa).length:Nat):Int))),(98,.v (.int .i64 ((k:Nat):Int)))] ay bt fun nk gI=>?_
  refine qaI 14 kz ay fun nl gJ ai aC=>?_
  refine qaH [0,1,2,3,4,7,8,9] [(1,.v (.int .i64 v)),(2,.v (.bool flex)),(9,.p 2 0),(14,.v (.slice ae ((qak aa).length) af)),(15,.p 3 0),(97,.v (.int .i64 (((qak aa).length:Nat):Int))),(98,.v (.int .i64 ((k:Nat):Int))),(101,.v (.agg #[.int .i64 y7,.int .i64 y2,.int .i64 y3,.int .i64 (-1),.int .i64 (-1),.int .i64 y6,.int .i64 y7,.slice A9 l8.length ap])),(102,.v (.int .i64 v)),(103,.v (.bool flex)),(104,.v (.slice ae ((qak aa).length) af)),(105,.v (.int .i64 ((k:Nat):Int))),(109,.v (.slice bE ao.length dJ)),(110,.v (.int .i64 ((k:Nat):Int)))] 6 (qaa (qac (qaa (qaa (qac (qaa (qac (qaa qaf)))))))) (fun _ h=>h.cells) aC gI fun nm gK=>?_
  obtain ⟨iY,iZ,gL,kj,bw⟩:=Slots.get (qb7 dI) (i:=k) (by first | omega | (have h_:ao.length = (qak aa).length:=(hQ.2 ac ‹_›).1; omega))
  obtain ⟨i6,dA⟩:∃ x,(qak aa)[k]? = some x:=⟨_,List.getElem?_eq_getElem (by omega)⟩
  have bx:=(qco hC) k i6 dA
  obtain ⟨b8,cd,ce,cm,cq,ee,ef,eg,eh,ei,ej,km,rfl,bz,i7,ja,np,nr⟩:=bx.open_
  rw [bz] at bx
  have jb:=i7.small
  have jc:=ja.small
  rw [bz] at bw
  refine qaJ gK (i:=5) (t:=34) (A:=ae) (m:=((qak aa).length)) (q:=((k:Nat):Int)) (d:=106) kz (e:=37) (size:=5) (bytes:=88) kz gL rfl (by first | omega | (have h_:ao.length = (qak aa).length:=(hQ.2 ac ‹_›).1; omega)) kz kz (qaa (qac (qaa (qaa (qac (qaa (qac (qaa qaf)))))))) aC fun ns gM=>?_
  refine qaP gM (i:=6) (t:=37) (b:=iY) (o:=iZ + k * 5) (d:=107) kz (cs:=[.int .i64 b8,.slice ee cd.length ef,.bool ce,.slice eg cm.length eh,.slice ei cq.length ej]) (v:=.agg #[.int .i64 b8,.slice ee cd.length ef,.bool ce,.slice eg cm.length eh,.slice ei cq.length ej]) kz (fun w' h'=>(AtF.move bw (TT.step0 ai h') nilM qaZ).at_) kz kz (qaa (qac (qaa (qaa (qac (qaa (qac (qaa qaf)))))))) aC fun nt gN=>?_
  obtain ⟨jd,je,gO,ko,bA⟩:=Slots.get g8 (i:=k) (by first | omega | (have h_:ao.length = (qak aa).length:=(hQ.2 ac ‹_›).1; omega))
  obtain ⟨jf,dB⟩:∃ x,ao[k]? = some x:=⟨_,List.getElem?_eq_getElem (by omega)⟩
  have bB:=hJ k jf dB
  obtain ⟨cr,cu,cw,cz,cA,ek,em,eo,ep,eu,ew,kp,rfl,bC,jg,jh,nu,nv⟩:=bB.open_
  rw [bC] at bB
  have ji:=jg.small
  have jj:=jh.small
  rw [bC] at bA
  refine qaJ gN (i:=10) (t:=34) (A:=bE) (m:=ao.length) (q:=((k:Nat):Int)) (d:=111) kz (e:=37) (size:=5) (bytes:=88) kz gO rfl (by first | omega | (have h_:ao.length = (qak aa).length:=(hQ.2 ac ‹_›).1; omega)) kz kz (qaa (qac (qaa (qaa (qac (qaa (qac (qaa qaf)))))))) aC fun nw gP=>?_
  refine qaP gP (i:=11) (t:=37) (b:=jd) (o:=je + k * 5) (d:=112) kz (cs:=[.int .i64 cr,.slice ek cu.length em,.bool cw,.slice eo cz.length ep,.slice eu cA.length ew]) (v:=.agg #[.int .i64 cr,.slice ek cu.length em,.bool cw,.slice eo cz.length ep,.slice eu cA.length ew]) kz (fun w' h'=>(AtF.move bA (TT.step0 ai h') nilM qaZ).at_) kz kz (qaa (qac (qaa (qaa (qac (qaa (qac (qaa qaf)))))))) aC fun nx gQ=>?_
  refine qaA (i:=12) kz (qai gQ (f:=51) (vs:=[.agg #[.int .i64 y7,.int .i64 y2,.int .i64 y3,.int .i64 (-1),.int .i64 (-1),.int .i64 y6,.int .i64 y7,.slice A9 l8.length ap],.int .i64 v,.bool flex,.agg #[.int .i64 b8,.slice ee cd.length ef,.bool ce,.slice eg cm.length eh,.slice ei cq.length ej],.agg #[.int .i64 cr,.slice ek cu.length em,.bool cw,.slice eo cz.length ep,.slice eu cA.length ew]]) (d:=113) kz Tryd.call51 ( qf5 hT _ _ _ (Tree.mk b8 cd ce cm cq) _ (Tree.mk cr cu cw cz cA) _ _ (FldR.mk (l:=l8) dH (gU.move ai.step nilM ai.imm) (fun i_ x_ h_=>((g9 i_ x_ h_).move ai.step nilM ai.imm))) hpl hof (bx.move ai.step nilM ai.imm) (bB.move ai.step nilM ai.imm) (hl_ _ _ _ dA dB)) ?_)
  rintro e_ ny ⟨rfl,dC⟩
  refine ⟨_,rfl,fun nz gR=>?_⟩
  have bD:=ai.next_nil dC
  have dD:=ai.frN dC
  have dE:=TT.ofW dD bD
  refine ⟨fun _=>dE,?_⟩
  refine qaH [13] [(1,.v (.int .i64 v)),(2,.v (.bool flex)),(9,.p 2 0),(14,.v (.slice ae ((qak aa).length) af)),(15,.p 3 0),(97,.v (.int .i64 (((qak aa).length:Nat):Int))),(98,.v (.int .i64 ((k:Nat):Int))),(114,.v (.bool false))] 0 (qaa (qac (qaa (qaa (qac (qaa (qac (qaa qaf)))))))) (fun _ h=>h.cells) dE gR fun nA dF=>?_
  refine qaG kz ?_ _
  refine qab ?_
  refine qap dF (b:=false) kz rfl ?_
  refine wp_skip ?_
  refine qar ?_
  refine qab ?_
  refine qaw [0,1] kz ?_
  refine qah [0,1] [] [(1,.v (.int .i64 v)),(2,.v (.bool flex)),(9,.p 2 0),(14,.v (.slice ae ((qak aa).length) af)),(15,.p 3 0),(97,.v (.int .i64 (((qak aa).length:Nat):Int))),(98,.v (.int .i64 (IntKind.i64.wrap (((k:Nat):Int) + 1))))] bD dF fun nB dG=>?_
  refine qae (qab ?_)
  have gS:IntKind.i64.wrap (((k:Nat):Int) + 1) = ((k + 1:Nat):Int):=qaM (by omega)
  rw [gS] at dG
  exact ⟨(qak aa).length - (k + 1),by omega,k + 1,rfl,by omega,dG.pk,bD,((gH.trans gJ).trans dD)⟩
 have kq:=of_decide_eq_false bu
 refine wp_exit ?_
 refine qaB ?_
 refine qaB ?_
 refine qaQ ?_
 refine qab ?_
 refine qan [(10,.v (.bool true))] ay bt fun nC gT=>?_
 refine wp_ret ?_
 refine qaq ?_
 refine qal ?_
 refine qaD gT ay.cells (v:=.bool true) kz ?_
 exact ⟨rfl,ay.step⟩
theorem qjI {v:Int} {flex:Bool} {T:List Fld → Tree → Tree → Prop} (hT:ToOK v flex T) (cf:List Value) (f:Fld) (ct:List Value) (t:Tree) (cg:List Value) (g:Tree) (w:World) (F:Nat → Nat → Prop) (hf:FldR w F cf f) (hpl:f.plain) (ht:TreeR w F ct t) (hg:TreeR w F cg g) (hQ:ToF T v f t g) :
  Calls Tryd.prog 51 #[.agg cf.toArray,.int .i64 v,.bool flex,.agg ct.toArray,.agg cg.toArray] w (qbD w (.bool true)):=by
 by_cases h:f.kind = 11
 ·exact qi9 hT cf f ct t cg g w F hf hpl h ht hg hQ
 exact qf5 hT cf f ct t cg g w F hf (qg4 hpl) h ht hg hQ.1
set_option maxHeartbeats 4000000 in
theorem qis {v:Int} {flex:Bool} {T:List Fld → Tree → Tree → Prop} {U:List Fld → Tree → Prop} (hT:ToOK v flex T) (hU:UsOK U) (A:Option Addr) (c:Nat) (l:List Fld) (ct:List Value) (t:Tree) (cg:List Value) (g:Tree) (w:World) (F:Nat → Nat → Prop) (hl:FldsR w F A c l) (ht:TreeR w F ct t) (hg:TreeR w F cg g) (hpl:plains l) (hP:ToP T U l v flex t g) :
  Calls Tryd.prog 23 #[.slice A l.length c,.int .i64 v,.bool flex,.agg ct.toArray,.agg cg.toArray] w (qbD w (.bool true)):=by
 obtain ⟨xfs,h1,h2⟩:=hl.ex
 have hsm:=h1.small
 obtain ⟨n1,s2,b3,l4,u5,A6,c7,A8,c9,bG,bH,jO,rfl,rfl,jP,jQ,mJ,jR⟩:=ht.open_
 have iP:=jP.small
 have iQ:=jQ.small
 obtain ⟨cQ,cR,cS,aF,aB,cT,cU,bI,bP,bJ,bQ,jS,rfl,rfl,jT,hC,iR,jU⟩:=hg.open_
 have iS:=jT.small
 have iT:=hC.small
 have hlen:aF.length = l.length:=hP.1
 have hgu:aB = if flex = true then qb1 (qag l u5) else []:=hP.2.2
 obtain ⟨jV,iU,jW⟩:=jU.ex
 have iV:=iU.small
 refine enter (n:=120) Tryd.func23 rfl Tryd.ntmps23 kz fun a hE=>?_
 have hW:=WOk.start w Nil
 refine qad [0,1,2] kz ?_
 refine qam (qaY hW hE (d:=8) (cs:=[.int .i64 n1,.slice A6 s2.length c7,.bool b3,.slice A8 l4.length c9,.slice bG u5.length bH]) kz fun dh mK mL jX jY jZ hJ hK=>?_)
 refine qam (qaY hJ hK (d:=9) (cs:=[.int .i64 cQ,.slice cT cR.length cU,.bool cS,.slice bI aF.length bP,.slice bJ aB.length bQ]) kz fun di mM mN j0 j1 j2 bw hZ=>?_)
 refine qah [2] [] [(0,.v (.slice A l.length c)),(1,.v (.int .i64 v)),(2,.v (.bool flex)),(8,.p 0 0),(9,.p 1 0)] bw hZ fun mO ia=>?_
 refine qae (qab ?_)
 refine wp_seq ?_
 refine qan [(0,.v (.slice A l.length c)),(1,.v (.int .i64 v)),(2,.v (.bool flex)),(8,.p 0 0),(9,.p 1 0),(22,.v (.bool (((aF.length:Nat):Int) != ((l.length:Nat):Int))))] bw ia fun mQ eg=>?_
 refine qau eg (b:=((aF.length:Nat):Int) != ((l.length:Nat):Int)) kz (fun eh=>?_) (fun eh=>?_)
 ·
  have j3:((aF.length:Nat):Int) ≠ ((l.length:Nat):Int):=by simpa using eh
  refine qan [(10,.v (.bool false))] bw eg fun mR ib=>?_
  refine wp_ret ?_
  refine qal ?_
  refine qaD ib bw.cells (v:=.bool false) kz ?_
  first
   | (exfalso; omega)
   | exact (qdn hgu ‹_› ‹_›).elim
   | exact (qcK hgu ‹_› ‹_›).elim
   | exact (qdo hgu ‹_› ‹_› ‹_› ‹_›).elim
   | exact (qdp hgu ‹_› ‹_› ‹_› ‹_›).elim
   | (exfalso; simp_all; done)
 have j4:((aF.length:Nat):Int) = ((l.length:Nat):Int):=by simpa using eh
 refine wp_skip ?_
 refine qab ?_
 refine wp_seq ?_
 refine qan [(0,.v (.slice A l.length c)),(1,.v (.int .i64 v)),(2,.v (.bool flex)),(8,.p 0 0),(9,.p 1 0),(23,.v (.slice A l.length c)),(24,.v (.int .i64 ((l.length:Nat):Int))),(25,.v (.int .i64 0))] bw eg fun mS ic=>?_
 refine wp_block ?_
 refine wp_loop_ghost (fun n_ a_ w_=>∃ (k:Nat),n_ = l.length - k ∧ k ≤ l.length ∧ LInv bw 120 [⟨dh,0,[.int .i64 n1,.slice A6 s2.length c7,.bool b3,.slice A8 l4.length c9,.slice bG u5.length bH],true⟩,⟨di,0,[.int .i64 cQ,.slice cT cR.length cU,.bool cS,.slice bI aF.length bP,.slice bJ aB.length bQ],true⟩] [] [(0,.v (.slice A l.length c)),(1,.v (.int .i64 v)),(2,.v (.bool flex)),(8,.p 0 0),(9,.p 1 0),(23,.v (.slice A l.length c)),(24,.v (.int .i64 ((l.length:Nat):Int))),(25,.v (.int .i64 ((k:Nat):Int)))] a_ w_) (l.length) ⟨0,by omega,by omega,ic.pk,bw,Fr.refl _ _ _⟩ ?_
 rintro mT mU mV ⟨k,j5,j6,ig,av,ei⟩
 refine qan [(0,.v (.slice A l.length c)),(1,.v (.int .i64 v)),(2,.v (.bool flex)),(8,.p 0 0),(9,.p 1 0),(23,.v (.slice A l.length c)),(24,.v (.int .i64 ((l.length:Nat):Int))),(25,.v (.int .i64 ((k:Nat):Int))),(26,.v (.bool (decide (((k:Nat):Int) < ((l.length:Nat):Int)))))] av ig fun mW ej=>?_
 refine wp_seq ?_
 refine qau ej (b:=decide (((k:Nat):Int) < ((l.length:Nat):Int))) kz (fun ek=>?_) (fun ek=>?_)
 ·
  have j7:=of_decide_eq_true ek
  refine wp_skip ?_
  refine qab ?_
  refine wp_seq ?_
  refine wp_block ?_
  refine qad [0,1,2,3,4,5] kz ?_
  refine qah [0] [1,2,3,4,5] [(0,.v (.slice A l.length c)),(1,.v (.int .i64 v)),(2,.v (.bool flex)),(8,.p 0 0),(9,.p 1 0),(23,.v (.slice A l.length c)),(24,.v (.int .i64 ((l.length:Nat):Int))),(25,.v (.int .i64 ((k:Nat):Int))),(27,.v (.int .i64 ((k:Nat):Int)))] av ej fun mX ii=>?_
  obtain ⟨j8,j9,ij,ka,dj⟩:=Slots.get h1 (i:=k) (by first | omega | (have h_:=qbJ hgu ‹_›; omega))
  obtain ⟨kd,bR⟩:∃ x,l[k]? = some x:=⟨_,List.getElem?_eq_getElem (by omega)⟩
  have bx:=h2 k kd bR
  obtain ⟨aj,ak,al,am,ag,ao,aa,ab,ap,ar,iW,rfl,bS,ik,ke⟩:=bx.open_
  rw [bS] at bx
  have il:=ik.small
  rw [bS] at dj
  refine qam (qaz ii (t:=30) (A:=A) (m:=l.length) (q:=((k:Nat):Int)) (d:=28) kz (e:=60) (size:=8) (bytes:=80) kz ij rfl (by first | omega | (have h_:=qbJ hgu ‹_›; omega)) fun kf eE=>?_)
  refine qam (qaE eE (t:=60) (b:=j8) (o:=j9 + k * 8) (d:=29) kz (cs:=[.int .i64 aj,.int .i64 ak,.int .i64 al,.int .i64 am,.int .i64 ag,.int .i64 ao,.int .i64 aa,.slice ap ab.length ar]) (v:=.agg #[.int .i64 aj,.int .i64 ak,.int .i64 al,.int .i64 am,.int .i64 ag,.int .i64 ao,.int .i64 aa,.slice ap ab.length ar]) kz (AtF.move dj av.step nilM qaZ).at_ fun kg eF=>?_)
  refine qam (qaO av eF (d:=12) (cs:=[.int .i64 0,.int .i64 0,.int .i64 0,.int .i64 0,.int .i64 0,.int .i64 0,.int .i64 0,.slice none 0 0]) kz fun im kh ki iX iY bT dl eG=>?_)
  refine qah [4] [5] [(0,.v (.slice A l.length c)),(1,.v (.int .i64 v)),(2,.v (.bool flex)),(8,.p 0 0),(9,.p 1 0),(11,.v (.int .i64 ((k:Nat):Int))),(12,.p 2 0),(23,.v (.slice A l.length c)),(24,.v (.int .i64 ((l.length:Nat):Int))),(25,.v (.int .i64 ((k:Nat):Int))),(29,.v (.agg #[.int .i64 aj,.int .i64 ak,.int .i64 al,.int .i64 am,.int .i64 ag,.int .i64 ao,.int .i64 aa,.slice ap ab.length ar]))] dl eG fun kj eH=>?_
  refine qam (qay dl eH (oi:=2) (cs:=[.int .i64 aj,.int .i64 ak,.int .i64 al,.int .i64 am,.int .i64 ag,.int .i64 ao,.int .i64 aa,.slice ap ab.length ar]) kz fun km bU aG eI=>?_)
  refine qae (qab ?_)
  refine qad [0,1,2,3,4] kz ?_
  refine qah [0,1] [2,3,4] [(0,.v (.slice A l.length c)),(1,.v (.int .i64 v)),(2,.v (.bool flex)),(8,.p 0 0),(9,.p 1 0),(11,.v (.int .i64 ((k:Nat):Int))),(12,.p 2 0),(23,.v (.slice A l.length c)),(24,.v (.int .i64 ((l.length:Nat):Int))),(25,.v (.int .i64 ((k:Nat):Int))),(30,.v (.agg #[.int .i64 n1,.slice A6 s2.length c7,.bool b3,.slice A8 l4.length c9,.slice bG u5.length bH])),(31,.v (.int .i64 ((k:Nat):Int)))] aG eI fun ko eJ=>?_
  refine qam (qai eJ (f:=48) (vs:=[.agg #[.int .i64 n1,.slice A6 s2.length c7,.bool b3,.slice A8 l4.length c9,.slice bG u5.length bH],.int .i64 ((k:Nat):Int)]) (d:=32) kz Tryd.call48 (sAt _ _ k _ _ (ht.move aG.step nilM aG.imm)) ?_)
  rintro e_ kp ⟨iZ,rfl,eK,aK⟩
  have aL:=eK.move aK nilM (fun b o h_ hb_=>aG.laid (G:=F) aK b o (.inl h_) (Nat.lt_of_lt_of_le hb_ aK.size))
  obtain ⟨aM,aO,aP,aQ,aR,aS,aT,aU,aV,aW,aX,i6,i7,bV,io,ip,kq,ku⟩:=aL.open_
  rw [bV] at aL
  have iq:=io.small
  have ir:=ip.small
  rw [bV]
  refine ⟨_,rfl,fun kv eL=>?_⟩
  have eM:=aG.next_nil aK
  have bW:=aG.frN aK
  refine qam (qaO eM eL (d:=13) (cs:=[.int .i64 0,.slice none 0 0,.bool false,.slice none 0 0,.slice none 0 0]) kz fun iu kw kx ja jb aw eN eO=>?_)
  refine qam (qay eN eO (oi:=3) (cs:=[.int .i64 aM,.slice aS aO.length aT,.bool aP,.slice aU aQ.length aV,.slice aW aR.length aX]) kz fun ky ax ac eP=>?_)
  refine qae (qab ?_)
  refine wp_seq ?_
  refine wp_seq (qiQ (Mid:=fun a_ w_=>LInv ac 120 [⟨dh,0,[.int .i64 n1,.slice A6 s2.length c7,.bool b3,.slice A8 l4.length c9,.slice bG u5.length bH],true⟩,⟨di,0,[.int .i64 cQ,.slice cT cR.length cU,.bool cS,.slice bI aF.length bP,.slice bJ aB.length bQ],true⟩,⟨im,0,[.int .i64 aj,.int .i64 ak,.int .i64 al,.int .i64 am,.int .i64 ag,.int .i64 ao,.int .i64 aa,.slice ap ab.length ar],true⟩,⟨iu,0,[.int .i64 aM,.slice aS aO.length aT,.bool aP,.slice aU aQ.length aV,.slice aW aR.length aX],true⟩] [] [(0,.v (.slice A l.length c)),(1,.v (.int .i64 v)),(2,.v (.bool flex)),(8,.p 0 0),(9,.p 1 0),(11,.v (.int .i64 ((k:Nat):Int))),(12,.p 2 0),(13,.p 3 0),(23,.v (.slice A l.length c)),(24,.v (.int .i64 ((l.length:Nat):Int))),(25,.v (.int .i64 ((k:Nat):Int))),(54,.v (.bool (Fld.pres (Fld.mk aj ak al am ag ao aa ab) v flex (Tree.at_ (Tree.mk n1 s2 b3 l4 u5) k))))] a_ w_) ?_ ?_)
  ·
   refine qaw [0,1,2,3,4,5,6,7,8,9,10,11,12,13,14,15,16,17,18,19,20,21] kz ?_
   refine qah [0,1,2,3] [4,5,6,7,8,9,10,11,12,13,14,15,16,17,18,19,20,21] [(0,.v (.slice A l.length c)),(1,.v (.int .i64 v)),(2,.v (.bool flex)),(8,.p 0 0),(9,.p 1 0),(11,.v (.int .i64 ((k:Nat):Int))),(12,.p 2 0),(13,.p 3 0),(23,.v (.slice A l.length c)),(24,.v (.int .i64 ((l.length:Nat):Int))),(25,.v (.int .i64 ((k:Nat):Int))),(36,.v (.bool (decide (ag < 0))))] ac eP fun kA dp=>?_
   refine (Bool.eq_false_or_eq_true (decide (ag < 0))).elim (fun aY=>?_) (fun aY=>?_)
   ·
    have jc:=of_decide_eq_true aY
    have eQ:=dp.cast (env':=[(0,.v (.slice A l.length c)),(1,.v (.int .i64 v)),(2,.v (.bool flex)),(8,.p 0 0),(9,.p 1 0),(11,.v (.int .i64 ((k:Nat):Int))),(12,.p 2 0),(13,.p 3 0),(23,.v (.slice A l.length c)),(24,.v (.int .i64 ((l.length:Nat):Int))),(25,.v (.int .i64 ((k:Nat):Int))),(36,.v (.bool true))]) (by rw [aY])
    refine qah [4,5] [6,7,8,9,10,11,12,13,14,15,16,17,18,19,20,21] [(0,.v (.slice A l.length c)),(1,.v (.int .i64 v)),(2,.v (.bool flex)),(8,.p 0 0),(9,.p 1 0),(11,.v (.int .i64 ((k:Nat):Int))),(12,.p 2 0),(13,.p 3 0),(23,.v (.slice A l.length c)),(24,.v (.int .i64 ((l.length:Nat):Int))),(25,.v (.int .i64 ((k:Nat):Int))),(36,.v (.bool true)),(37,.v (.agg #[.int .i64 aj,.int .i64 ak,.int .i64 al,.int .i64 am,.int .i64 ag,.int .i64 ao,.int .i64 aa,.slice ap ab.length ar])),(38,.v (.int .i64 v))] ac eQ fun kB eR=>?_
    refine qam (qai eR (f:=49) (vs:=[.agg #[.int .i64 aj,.int .i64 ak,.int .i64 al,.int .i64 am,.int .i64 ag,.int .i64 ao,.int .i64 aa,.slice ap ab.length ar],.int .i64 v]) (d:=39) kz Tryd.call49 (sHas aj ak al am ag ao aa ab _ _ v _) ?_)
    rintro e_ kC ⟨rfl,dq⟩
    refine ⟨_,rfl,fun kD eS=>?_⟩
    have af:=ac.next_nil dq
    have aH:=ac.frN dq
    refine qah [7,8] [9,10,11,12,13,14,15,16,17,18,19,20,21] [(0,.v (.slice A l.length c)),(1,.v (.int .i64 v)),(2,.v (.bool flex)),(8,.p 0 0),(9,.p 1 0),(11,.v (.int .i64 ((k:Nat):Int))),(12,.p 2 0),(13,.p 3 0),(23,.v (.slice A l.length c)),(24,.v (.int .i64 ((l.length:Nat):Int))),(25,.v (.int .i64 ((k:Nat):Int))),(41,.v (.bool (Fld.has (Fld.mk aj ak al am ag ao aa ab) v)))] af eS fun kE dr=>?_
    refine (Bool.eq_false_or_eq_true (Fld.has (Fld.mk aj ak al am ag ao aa ab) v)).elim (fun bX=>?_) (fun bX=>?_)
    ·
     have eU:=dr.cast (env':=[(0,.v (.slice A l.length c)),(1,.v (.int .i64 v)),(2,.v (.bool flex)),(8,.p 0 0),(9,.p 1 0),(11,.v (.int .i64 ((k:Nat):Int))),(12,.p 2 0),(13,.p 3 0),(23,.v (.slice A l.length c)),(24,.v (.int .i64 ((l.length:Nat):Int))),(25,.v (.int .i64 ((k:Nat):Int))),(41,.v (.bool true))]) (by rw [bX])
     refine qah [9,10,11,12,13,14,15,16,17,18,19,20,21] [] [(0,.v (.slice A l.length c)),(1,.v (.int .i64 v)),(2,.v (.bool flex)),(8,.p 0 0),(9,.p 1 0),(11,.v (.int .i64 ((k:Nat):Int))),(12,.p 2 0),(13,.p 3 0),(23,.v (.slice A l.length c)),(24,.v (.int .i64 ((l.length:Nat):Int))),(25,.v (.int .i64 ((k:Nat):Int))),(54,.v (.bool true))] af eU fun kF eV=>?_
     refine qae (qab ?_)
     have hp_:Fld.pres (Fld.mk aj ak al am ag ao aa ab) v flex (Tree.at_ (Tree.mk n1 s2 b3 l4 u5) k) = true:=by first | (first | exact qjE ‹_› ‹_› | exact qjF ‹_› ‹_› ‹_›) | (exfalso; omega)
     exact ⟨(eV.pk (env':=[(0,.v (.slice A l.length c)),(1,.v (.int .i64 v)),(2,.v (.bool flex)),(8,.p 0 0),(9,.p 1 0),(11,.v (.int .i64 ((k:Nat):Int))),(12,.p 2 0),(13,.p 3 0),(23,.v (.slice A l.length c)),(24,.v (.int .i64 ((l.length:Nat):Int))),(25,.v (.int .i64 ((k:Nat):Int))),(54,.v (.bool true))])).cast (by rw [hp_]),af,aH⟩
    have eW:=dr.cast (env':=[(0,.v (.slice A l.length c)),(1,.v (.int .i64 v)),(2,.v (.bool flex)),(8,.p 0 0),(9,.p 1 0),(11,.v (.int .i64 ((k:Nat):Int))),(12,.p 2 0),(13,.p 3 0),(23,.v (.slice A l.length c)),(24,.v (.int .i64 ((l.length:Nat):Int))),(25,.v (.int .i64 ((k:Nat):Int))),(41,.v (.bool false))]) (by rw [bX])
    refine qah [9,10,11,12] [13,14,15,16,17,18,19,20,21] [(0,.v (.slice A l.length c)),(1,.v (.int .i64 v)),(2,.v (.bool flex)),(8,.p 0 0),(9,.p 1 0),(11,.v (.int .i64 ((k:Nat):Int))),(12,.p 2 0),(13,.p 3 0),(23,.v (.slice A l.length c)),(24,.v (.int .i64 ((l.length:Nat):Int))),(25,.v (.int .i64 ((k:Nat):Int))),(41,.v (.bool false)),(45,.v (.bool (decide (ag ≥ 0))))] af eW fun kG dt=>?_
    refine (Bool.eq_false_or_eq_true (decide (ag ≥ 0))).elim (fun aZ=>?_) (fun aZ=>?_)
    ·
     have jd:=of_decide_eq_true aZ
     have eX:=dt.cast (env':=[(0,.v (.slice A l.length c)),(1,.v (.int .i64 v)),(2,.v (.bool flex)),(8,.p 0 0),(9,.p 1 0),(11,.v (.int .i64 ((k:Nat):Int))),(12,.p 2 0),(13,.p 3 0),(23,.v (.slice A l.length c)),(24,.v (.int .i64 ((l.length:Nat):Int))),(25,.v (.int .i64 ((k:Nat):Int))),(41,.v (.bool false)),(45,.v (.bool true))]) (by rw [aZ])
     refine qah [13,14,15] [16,17,18,19,20,21] [(0,.v (.slice A l.length c)),(1,.v (.int .i64 v)),(2,.v (.bool flex)),(8,.p 0 0),(9,.p 1 0),(11,.v (.int .i64 ((k:Nat):Int))),(12,.p 2 0),(13,.p 3 0),(23,.v (.slice A l.length c)),(24,.v (.int .i64 ((l.length:Nat):Int))),(25,.v (.int .i64 ((k:Nat):Int))),(41,.v (.bool false)),(48,.v (.bool flex))] af eX fun kH du=>?_
     refine (Bool.eq_false_or_eq_true (flex)).elim (fun ba=>?_) (fun ba=>?_)
     ·
      have eY:=du.cast (env':=[(0,.v (.slice A l.length c)),(1,.v (.int .i64 v)),(2,.v (.bool true)),(8,.p 0 0),(9,.p 1 0),(11,.v (.int .i64 ((k:Nat):Int))),(12,.p 2 0),(13,.p 3 0),(23,.v (.slice A l.length c)),(24,.v (.int .i64 ((l.length:Nat):Int))),(25,.v (.int .i64 ((k:Nat):Int))),(41,.v (.bool false)),(48,.v (.bool true))]) (by rw [ba])
      refine qah [16,17] [18,19,20,21] [(0,.v (.slice A l.length c)),(1,.v (.int .i64 v)),(2,.v (.bool true)),(8,.p 0 0),(9,.p 1 0),(11,.v (.int .i64 ((k:Nat):Int))),(12,.p 2 0),(13,.p 3 0),(23,.v (.slice A l.length c)),(24,.v (.int .i64 ((l.length:Nat):Int))),(25,.v (.int .i64 ((k:Nat):Int))),(41,.v (.bool false)),(48,.v (.bool true)),(49,.v (.agg #[.int .i64 aj,.int .i64 ak,.int .i64 al,.int .i64 am,.int .i64 ag,.int .i64 ao,.int .i64 aa,.slice ap ab.length ar])),(50,.v (.agg #[.int .i64 aM,.slice aS aO.length aT,.bool aP,.slice aU aQ.length aV,.slice aW aR.length aX]))] af eY fun kI eZ=>?_
      refine qam (qai eZ (f:=50) (vs:=[.agg #[.int .i64 aj,.int .i64 ak,.int .i64 al,.int .i64 am,.int .i64 ag,.int .i64 ao,.int .i64 aa,.slice ap ab.length ar],.agg #[.int .i64 aM,.slice aS aO.length aT,.bool aP,.slice aU aQ.length aV,.slice aW aR.length aX]]) (d:=51) kz Tryd.call50 (qfX _ _ _ _ _ _ _ (bx.move af.step nilM af.imm) (Nat.le_refl _) (aL.move ((aw.trans ax).trans aH).step immM ((aw.trans ax).trans aH).to')) ?_)
      rintro e_ kJ ⟨rfl,dv⟩
      refine ⟨_,rfl,fun kK e9=>?_⟩
      have dw:=af.next_nil dv
      have fa:=af.frN dv
      refine qah [19,20,21] [] [(0,.v (.slice A l.length c)),(1,.v (.int .i64 v)),(2,.v (.bool true)),(8,.p 0 0),(9,.p 1 0),(11,.v (.int .i64 ((k:Nat):Int))),(12,.p 2 0),(13,.p 3 0),(23,.v (.slice A l.length c)),(24,.v (.int .i64 ((l.length:Nat):Int))),(25,.v (.int .i64 ((k:Nat):Int))),(54,.v (.bool (!(Fld.usual (Fld.mk aj ak al am ag ao aa ab) (Tree.at_ (Tree.mk n1 s2 b3 l4 u5) k)))))] dw e9 fun kL fb=>?_
      refine qae (qab ?_)
      have hp_:Fld.pres (Fld.mk aj ak al am ag ao aa ab) v flex (Tree.at_ (Tree.mk n1 s2 b3 l4 u5) k) = !(Fld.usual (Fld.mk aj ak al am ag ao aa ab) (Tree.at_ (Tree.mk n1 s2 b3 l4 u5) k)):=by first | (first | exact qip ‹_› ‹_› | exact qiq ‹_›) | (exfalso; omega)
      exact ⟨(fb.pk (env':=[(0,.v (.slice A l.length c)),(1,.v (.int .i64 v)),(2,.v (.bool true)),(8,.p 0 0),(9,.p 1 0),(11,.v (.int .i64 ((k:Nat):Int))),(12,.p 2 0),(13,.p 3 0),(23,.v (.slice A l.length c)),(24,.v (.int .i64 ((l.length:Nat):Int))),(25,.v (.int .i64 ((k:Nat):Int))),(54,.v (.bool (!(Fld.usual (Fld.mk aj ak al am ag ao aa ab) (Tree.at_ (Tree.mk n1 s2 b3 l4 u5) k)))))])).cast (by rw [hp_,ba]),dw,(aH.trans fa)⟩
     have fe:=du.cast (env':=[(0,.v (.slice A l.length c)),(1,.v (.int .i64 v)),(2,.v (.bool false)),(8,.p 0 0),(9,.p 1 0),(11,.v (.int .i64 ((k:Nat):Int))),(12,.p 2 0),(13,.p 3 0),(23,.v (.slice A l.length c)),(24,.v (.int .i64 ((l.length:Nat):Int))),(25,.v (.int .i64 ((k:Nat):Int))),(41,.v (.bool false)),(48,.v (.bool false))]) (by rw [ba])
     refine qah [16,17,18,19,20,21] [] [(0,.v (.slice A l.length c)),(1,.v (.int .i64 v)),(2,.v (.bool false)),(8,.p 0 0),(9,.p 1 0),(11,.v (.int .i64 ((k:Nat):Int))),(12,.p 2 0),(13,.p 3 0),(23,.v (.slice A l.length c)),(24,.v (.int .i64 ((l.length:Nat):Int))),(25,.v (.int .i64 ((k:Nat):Int))),(54,.v (.bool false))] af fe fun kM ff=>?_
     refine qae (qab ?_)
     have hp_:Fld.pres (Fld.mk aj ak al am ag ao aa ab) v flex (Tree.at_ (Tree.mk n1 s2 b3 l4 u5) k) = false:=by first | (first | exact qf0 ‹_› ‹_› | exact qf1 ‹_› ‹_› | exact qf2 ‹_› ‹_›) | (exfalso; omega)
     exact ⟨(ff.pk (env':=[(0,.v (.slice A l.length c)),(1,.v (.int .i64 v)),(2,.v (.bool false)),(8,.p 0 0),(9,.p 1 0),(11,.v (.int .i64 ((k:Nat):Int))),(12,.p 2 0),(13,.p 3 0),(23,.v (.slice A l.length c)),(24,.v (.int .i64 ((l.length:Nat):Int))),(25,.v (.int .i64 ((k:Nat):Int))),(54,.v (.bool false))])).cast (by rw [hp_,ba]),af,aH⟩
    have je:=of_decide_eq_false aZ
    have fg:=dt.cast (env':=[(0,.v (.slice A l.length c)),(1,.v (.int .i64 v)),(2,.v (.bool flex)),(8,.p 0 0),(9,.p 1 0),(11,.v (.int .i64 ((k:Nat):Int))),(12,.p 2 0),(13,.p 3 0),(23,.v (.slice A l.length c)),(24,.v (.int .i64 ((l.length:Nat):Int))),(25,.v (.int .i64 ((k:Nat):Int))),(41,.v (.bool false)),(45,.v (.bool false))]) (by rw [aZ])
    refine qah [13,14,15,16,17,18,19,20,21] [] [(0,.v (.slice A l.length c)),(1,.v (.int .i64 v)),(2,.v (.bool flex)),(8,.p 0 0),(9,.p 1 0),(11,.v (.int .i64 ((k:Nat):Int))),(12,.p 2 0),(13,.p 3 0),(23,.v (.slice A l.length c)),(24,.v (.int .i64 ((l.length:Nat):Int))),(25,.v (.int .i64 ((k:Nat):Int))),(54,.v (.bool false))] af fg fun kN fh=>?_
    refine qae (qab ?_)
    have hp_:Fld.pres (Fld.mk aj ak al am ag ao aa ab) v flex (Tree.at_ (Tree.mk n1 s2 b3 l4 u5) k) = false:=by first | (first | exact qf0 ‹_› ‹_› | exact qf1 ‹_› ‹_› | exact qf2 ‹_› ‹_›) | (exfalso; omega)
    exact ⟨(fh.pk (env':=[(0,.v (.slice A l.length c)),(1,.v (.int .i64 v)),(2,.v (.bool flex)),(8,.p 0 0),(9,.p 1 0),(11,.v (.int .i64 ((k:Nat):Int))),(12,.p 2 0),(13,.p 3 0),(23,.v (.slice A l.length c)),(24,.v (.int .i64 ((l.length:Nat):Int))),(25,.v (.int .i64 ((k:Nat):Int))),(54,.v (.bool false))])).cast (by rw [hp_]),af,aH⟩
   have jf:=of_decide_eq_false aY
   have fi:=dp.cast (env':=[(0,.v (.slice A l.length c)),(1,.v (.int .i64 v)),(2,.v (.bool flex)),(8,.p 0 0),(9,.p 1 0),(11,.v (.int .i64 ((k:Nat):Int))),(12,.p 2 0),(13,.p 3 0),(23,.v (.slice A l.length c)),(24,.v (.int .i64 ((l.length:Nat):Int))),(25,.v (.int .i64 ((k:Nat):Int))),(36,.v (.bool false))]) (by rw [aY])
   refine qah [4,5,6,7,8,9,10,11,12] [13,14,15,16,17,18,19,20,21] [(0,.v (.slice A l.length c)),(1,.v (.int .i64 v)),(2,.v (.bool flex)),(8,.p 0 0),(9,.p 1 0),(11,.v (.int .i64 ((k:Nat):Int))),(12,.p 2 0),(13,.p 3 0),(23,.v (.slice A l.length c)),(24,.v (.int .i64 ((l.length:Nat):Int))),(25,.v (.int .i64 ((k:Nat):Int))),(41,.v (.bool false)),(45,.v (.bool (decide (ag ≥ 0))))] ac fi fun kO dx=>?_
   refine (Bool.eq_false_or_eq_true (decide (ag ≥ 0))).elim (fun bf=>?_) (fun bf=>?_)
   ·
    have jg:=of_decide_eq_true bf
    have fj:=dx.cast (env':=[(0,.v (.slice A l.length c)),(1,.v (.int .i64 v)),(2,.v (.bool flex)),(8,.p 0 0),(9,.p 1 0),(11,.v (.int .i64 ((k:Nat):Int))),(12,.p 2 0),(13,.p 3 0),(23,.v (.slice A l.length c)),(24,.v (.int .i64 ((l.length:Nat):Int))),(25,.v (.int .i64 ((k:Nat):Int))),(41,.v (.bool false)),(45,.v (.bool true))]) (by rw [bf])
    refine qah [13,14,15] [16,17,18,19,20,21] [(0,.v (.slice A l.length c)),(1,.v (.int .i64 v)),(2,.v (.bool flex)),(8,.p 0 0),(9,.p 1 0),(11,.v (.int .i64 ((k:Nat):Int))),(12,.p 2 0),(13,.p 3 0),(23,.v (.slice A l.length c)),(24,.v (.int .i64 ((l.length:Nat):Int))),(25,.v (.int .i64 ((k:Nat):Int))),(41,.v (.bool false)),(48,.v (.bool flex))] ac fj fun kP dy=>?_
    refine (Bool.eq_false_or_eq_true (flex)).elim (fun bg=>?_) (fun bg=>?_)
    ·
     have fk:=dy.cast (env':=[(0,.v (.slice A l.length c)),(1,.v (.int .i64 v)),(2,.v (.bool true)),(8,.p 0 0),(9,.p 1 0),(11,.v (.int .i64 ((k:Nat):Int))),(12,.p 2 0),(13,.p 3 0),(23,.v (.slice A l.length c)),(24,.v (.int .i64 ((l.length:Nat):Int))),(25,.v (.int .i64 ((k:Nat):Int))),(41,.v (.bool false)),(48,.v (.bool true))]) (by rw [bg])
     refine qah [16,17] [18,19,20,21] [(0,.v (.slice A l.length c)),(1,.v (.int .i64 v)),(2,.v (.bool true)),(8,.p 0 0),(9,.p 1 0),(11,.v (.int .i64 ((k:Nat):Int))),(12,.p 2 0),(13,.p 3 0),(23,.v (.slice A l.length c)),(24,.v (.int .i64 ((l.length:Nat):Int))),(25,.v (.int .i64 ((k:Nat):Int))),(41,.v (.bool false)),(48,.v (.bool true)),(49,.v (.agg #[.int .i64 aj,.int .i64 ak,.int .i64 al,.int .i64 am,.int .i64 ag,.int .i64 ao,.int .i64 aa,.slice ap ab.length ar])),(50,.v (.agg #[.int .i64 aM,.slice aS aO.length aT,.bool aP,.slice aU aQ.length aV,.slice aW aR.length aX]))] ac fk fun kQ fl=>?_
     refine qam (qai fl (f:=50) (vs:=[.agg #[.int .i64 aj,.int .i64 ak,.int .i64 al,.int .i64 am,.int .i64 ag,.int .i64 ao,.int .i64 aa,.slice ap ab.length ar],.agg #[.int .i64 aM,.slice aS aO.length aT,.bool aP,.slice aU aQ.length aV,.slice aW aR.length aX]]) (d:=51) kz Tryd.call50 (qfX _ _ _ _ _ _ _ (bx.move ac.step nilM ac.imm) (Nat.le_refl _) (aL.move (aw.trans ax).step immM (aw.trans ax).to')) ?_)
     rintro e_ kR ⟨rfl,dA⟩
     refine ⟨_,rfl,fun kS fm=>?_⟩
     have dB:=ac.next_nil dA
     have fo:=ac.frN dA
     refine qah [19,20,21] [] [(0,.v (.slice A l.length c)),(1,.v (.int .i64 v)),(2,.v (.bool true)),(8,.p 0 0),(9,.p 1 0),(11,.v (.int .i64 ((k:Nat):Int))),(12,.p 2 0),(13,.p 3 0),(23,.v (.slice A l.length c)),(24,.v (.int .i64 ((l.length:Nat):Int))),(25,.v (.int .i64 ((k:Nat):Int))),(54,.v (.bool (!(Fld.usual (Fld.mk aj ak al am ag ao aa ab) (Tree.at_ (Tree.mk n1 s2 b3 l4 u5) k)))))] dB fm fun kT fq=>?_
     refine qae (qab ?_)
     have hp_:Fld.pres (Fld.mk aj ak al am ag ao aa ab) v flex (Tree.at_ (Tree.mk n1 s2 b3 l4 u5) k) = !(Fld.usual (Fld.mk aj ak al am ag ao aa ab) (Tree.at_ (Tree.mk n1 s2 b3 l4 u5) k)):=by first | (first | exact qip ‹_› ‹_› | exact qiq ‹_›) | (exfalso; omega)
     exact ⟨(fq.pk (env':=[(0,.v (.slice A l.length c)),(1,.v (.int .i64 v)),(2,.v (.bool true)),(8,.p 0 0),(9,.p 1 0),(11,.v (.int .i64 ((k:Nat):Int))),(12,.p 2 0),(13,.p 3 0),(23,.v (.slice A l.length c)),(24,.v (.int .i64 ((l.length:Nat):Int))),(25,.v (.int .i64 ((k:Nat):Int))),(54,.v (.bool (!(Fld.usual (Fld.mk aj ak al am ag ao aa ab) (Tree.at_ (Tree.mk n1 s2 b3 l4 u5) k)))))])).cast (by rw [hp_,bg]),dB,fo⟩
    have fr:=dy.cast (env':=[(0,.v (.slice A l.length c)),(1,.v (.int .i64 v)),(2,.v (.bool false)),(8,.p 0 0),(9,.p 1 0),(11,.v (.int .i64 ((k:Nat):Int))),(12,.p 2 0),(13,.p 3 0),(23,.v (.slice A l.length c)),(24,.v (.int .i64 ((l.length:Nat):Int))),(25,.v (.int .i64 ((k:Nat):Int))),(41,.v (.bool false)),(48,.v (.bool false))]) (by rw [bg])
    refine qah [16,17,18,19,20,21] [] [(0,.v (.slice A l.length c)),(1,.v (.int .i64 v)),(2,.v (.bool false)),(8,.p 0 0),(9,.p 1 0),(11,.v (.int .i64 ((k:Nat):Int))),(12,.p 2 0),(13,.p 3 0),(23,.v (.slice A l.length c)),(24,.v (.int .i64 ((l.length:Nat):Int))),(25,.v (.int .i64 ((k:Nat):Int))),(54,.v (.bool false))] ac fr fun kU ft=>?_
    refine qae (qab ?_)
    have hp_:Fld.pres (Fld.mk aj ak al am ag ao aa ab) v flex (Tree.at_ (Tree.mk n1 s2 b3 l4 u5) k) = false:=by first | (first | exact qf0 ‹_› ‹_› | exact qf1 ‹_› ‹_› | exact qf2 ‹_› ‹_›) | (exfalso; omega)
    exact ⟨(ft.pk (env':=[(0,.v (.slice A l.length c)),(1,.v (.int .i64 v)),(2,.v (.bool false)),(8,.p 0 0),(9,.p 1 0),(11,.v (.int .i64 ((k:Nat):Int))),(12,.p 2 0),(13,.p 3 0),(23,.v (.slice A l.length c)),(24,.v (.int .i64 ((l.length:Nat):Int))),(25,.v (.int .i64 ((k:Nat):Int))),(54,.v (.bool false))])).cast (by rw [hp_,bg]),ac,Fr.refl _ _ _⟩
   have jh:=of_decide_eq_false bf
   have fu:=dx.cast (env':=[(0,.v (.slice A l.length c)),(1,.v (.int .i64 v)),(2,.v (.bool flex)),(8,.p 0 0),(9,.p 1 0),(11,.v (.int .i64 ((k:Nat):Int))),(12,.p 2 0),(13,.p 3 0),(23,.v (.slice A l.length c)),(24,.v (.int .i64 ((l.length:Nat):Int))),(25,.v (.int .i64 ((k:Nat):Int))),(41,.v (.bool false)),(45,.v (.bool false))]) (by rw [bf])
   refine qah [13,14,15,16,17,18,19,20,21] [] [(0,.v (.slice A l.length c)),(1,.v (.int .i64 v)),(2,.v (.bool flex)),(8,.p 0 0),(9,.p 1 0),(11,.v (.int .i64 ((k:Nat):Int))),(12,.p 2 0),(13,.p 3 0),(23,.v (.slice A l.length c)),(24,.v (.int .i64 ((l.length:Nat):Int))),(25,.v (.int .i64 ((k:Nat):Int))),(54,.v (.bool false))] ac fu fun kV fv=>?_
   refine qae (qab ?_)
   have hp_:Fld.pres (Fld.mk aj ak al am ag ao aa ab) v flex (Tree.at_ (Tree.mk n1 s2 b3 l4 u5) k) = false:=by first | (first | exact qf0 ‹_› ‹_› | exact qf1 ‹_› ‹_› | exact qf2 ‹_› ‹_›) | (exfalso; omega)
   exact ⟨(fv.pk (env':=[(0,.v (.slice A l.length c)),(1,.v (.int .i64 v)),(2,.v (.bool flex)),(8,.p 0 0),(9,.p 1 0),(11,.v (.int .i64 ((k:Nat):Int))),(12,.p 2 0),(13,.p 3 0),(23,.v (.slice A l.length c)),(24,.v (.int .i64 ((l.length:Nat):Int))),(25,.v (.int .i64 ((k:Nat):Int))),(54,.v (.bool false))])).cast (by rw [hp_]),ac,Fr.refl _ _ _⟩
  rintro kW kX ⟨bY,dC,bh⟩
  refine qau bY (b:=Fld.pres (Fld.mk aj ak al am ag ao aa ab) v flex (Tree.at_ (Tree.mk n1 s2 b3 l4 u5) k)) kz (fun fw=>?_) (fun fw=>?_)
  ·
   refine wp_seq ?_
   refine qaI 11 kz dC fun kY bZ aC b8=>?_
   refine qaH [0,1,2,3,4,5,6] [(0,.v (.slice A l.length c)),(1,.v (.int .i64 v)),(2,.v (.bool flex)),(8,.p 0 0),(9,.p 1 0),(23,.v (.slice A l.length c)),(24,.v (.int .i64 ((l.length:Nat):Int))),(25,.v (.int .i64 ((k:Nat):Int))),(55,.v (.agg #[.int .i64 aj,.int .i64 ak,.int .i64 al,.int .i64 am,.int .i64 ag,.int .i64 ao,.int .i64 aa,.slice ap ab.length ar])),(56,.v (.int .i64 v)),(57,.v (.bool flex)),(58,.v (.agg #[.int .i64 aM,.slice aS aO.length aT,.bool aP,.slice aU aQ.length aV,.slice aW aR.length aX])),(60,.v (.slice bI aF.length bP)),(61,.v (.int .i64 ((k:Nat):Int)))] 4 (qaa (qaa (qaa (qac (qaa (qaa (qac (qaa qaf)))))))) (fun _ h=>h.cells) b8 bY fun kZ fx=>?_
   obtain ⟨iv,iw,fy,ji,cd⟩:=Slots.get hC (i:=k) (by first | omega | (have h_:=qbJ hgu ‹_›; omega))
   obtain ⟨ix,dD⟩:∃ x,aF[k]? = some x:=⟨_,List.getElem?_eq_getElem (by omega)⟩
   have ce:=iR k ix dD
   obtain ⟨cV,cW,cX,cY,cZ,em,eo,ep,eu,ew,ey,jj,rfl,cm,iy,iz,k5,k6⟩:=ce.open_
   rw [cm] at ce
   have iA:=iy.small
   have iB:=iz.small
   rw [cm] at cd
   refine qaJ fx (i:=7) (t:=34) (A:=bI) (m:=aF.length) (q:=((k:Nat):Int)) (d:=62) kz (e:=37) (size:=5) (bytes:=88) kz fy rfl (by first | omega | (have h_:=qbJ hgu ‹_›; omega)) kz kz (qaa (qaa (qaa (qac (qaa (qaa (qac (qaa qaf)))))))) b8 fun k7 fz=>?_
   refine qaP fz (i:=8) (t:=37) (b:=iv) (o:=iw + k * 5) (d:=63) kz (cs:=[.int .i64 cV,.slice em cW.length eo,.bool cX,.slice ep cY.length eu,.slice ew cZ.length ey]) (v:=.agg #[.int .i64 cV,.slice em cW.length eo,.bool cX,.slice ep cY.length eu,.slice ew cZ.length ey]) kz (fun w' h'=>(AtF.move cd (TT.step0 aC h') nilM qaZ).at_) kz kz (qaa (qaa (qaa (qac (qaa (qaa (qac (qaa qaf)))))))) b8 fun k8 fA=>?_
   refine qaA (i:=9) kz (qai fA (f:=51) (vs:=[.agg #[.int .i64 aj,.int .i64 ak,.int .i64 al,.int .i64 am,.int .i64 ag,.int .i64 ao,.int .i64 aa,.slice ap ab.length ar],.int .i64 v,.bool flex,.agg #[.int .i64 aM,.slice aS aO.length aT,.bool aP,.slice aU aQ.length aV,.slice aW aR.length aX],.agg #[.int .i64 cV,.slice em cW.length eo,.bool cX,.slice ep cY.length eu,.slice ew cZ.length ey]]) (d:=64) kz Tryd.call51 ( qjI hT _ _ _ (Tree.at_ (Tree.mk n1 s2 b3 l4 u5) k) _ (Tree.mk cV cW cX cY cZ) _ _ (bx.move aC.step nilM aC.imm) (qef hpl (List.mem_of_getElem? bR)) (aL.move (((aw.trans ax).trans bh).trans bZ).step immM (((aw.trans ax).trans bh).trans bZ).to') (ce.move aC.step nilM aC.imm) ((hP.2.1 k _ _ bR dD).1 ‹_›)) ?_)
   rintro e_ k9 ⟨rfl,dE⟩
   refine ⟨_,rfl,fun la fB=>?_⟩
   have cq:=aC.next_nil dE
   have dF:=aC.frN dE
   have dG:=TT.ofW dF cq
   refine ⟨fun _=>dG,?_⟩
   refine qaH [10] [(0,.v (.slice A l.length c)),(1,.v (.int .i64 v)),(2,.v (.bool flex)),(8,.p 0 0),(9,.p 1 0),(23,.v (.slice A l.length c)),(24,.v (.int .i64 ((l.length:Nat):Int))),(25,.v (.int .i64 ((k:Nat):Int))),(65,.v (.bool false))] 0 (qaa (qaa (qaa (qac (qaa (qaa (qac (qaa qaf)))))))) (fun _ h=>h.cells) dG fB fun lb dH=>?_
   refine qaG kz ?_ _
   refine qab ?_
   refine qap dH (b:=false) kz rfl ?_
   refine wp_skip ?_
   refine qab ?_
   refine wp_exit ?_
   refine qaB ?_
   refine qaQ ?_
   refine qab ?_
   refine qaw [0,1] kz ?_
   refine qah [0,1] [] [(0,.v (.slice A l.length c)),(1,.v (.int .i64 v)),(2,.v (.bool flex)),(8,.p 0 0),(9,.p 1 0),(23,.v (.slice A l.length c)),(24,.v (.int .i64 ((l.length:Nat):Int))),(25,.v (.int .i64 (IntKind.i64.wrap (((k:Nat):Int) + 1))))] cq dH fun lc fC=>?_
   refine qae (qab ?_)
   obtain ⟨dI,fD,fE⟩:=cq.cutB fC 2 [⟨dh,0,[.int .i64 n1,.slice A6 s2.length c7,.bool b3,.slice A8 l4.length c9,.slice bG u5.length bH],true⟩,⟨di,0,[.int .i64 cQ,.slice cT cR.length cU,.bool cS,.slice bI aF.length bP,.slice bJ aB.length bQ],true⟩] [(0,.v (.slice A l.length c)),(1,.v (.int .i64 v)),(2,.v (.bool flex)),(8,.p 0 0),(9,.p 1 0),(23,.v (.slice A l.length c)),(24,.v (.int .i64 ((l.length:Nat):Int))),(25,.v (.int .i64 (IntKind.i64.wrap (((k:Nat):Int) + 1))))]
   have fF:IntKind.i64.wrap (((k:Nat):Int) + 1) = ((k + 1:Nat):Int):=qaM (by omega)
   rw [fF] at dI
   exact ⟨l.length - (k + 1),by omega,k + 1,rfl,by omega,dI.pk,fD,(((((((((ei.trans bT).trans bU).trans bW).trans aw).trans ax).trans bh).trans bZ).trans dF).trans fE)⟩
  refine wp_skip ?_
  refine qab ?_
  refine qaI 11 kz dC fun ld dJ cr cu=>?_
  refine qaH [0,2,3,4] [(0,.v (.slice A l.length c)),(1,.v (.int .i64 v)),(2,.v (.bool flex)),(8,.p 0 0),(9,.p 1 0),(23,.v (.slice A l.length c)),(24,.v (.int .i64 ((l.length:Nat):Int))),(25,.v (.int .i64 ((k:Nat):Int))),(66,.v (.agg #[.int .i64 aj,.int .i64 ak,.int .i64 al,.int .i64 am,.int .i64 ag,.int .i64 ao,.int .i64 aa,.slice ap ab.length ar])),(69,.v (.slice bI aF.length bP)),(70,.v (.int .i64 ((k:Nat):Int)))] 7 (qaa (qac (qaa (qaa (qac (qaa qaf)))))) (fun _ h=>h.cells) cu bY fun lf fG=>?_
  obtain ⟨iC,iD,fH,jk,cw⟩:=Slots.get hC (i:=k) (by first | omega | (have h_:=qbJ hgu ‹_›; omega))
  obtain ⟨iE,cz⟩:∃ x,aF[k]? = some x:=⟨_,List.getElem?_eq_getElem (by omega)⟩
  have bC:=iR k iE cz
  obtain ⟨bK,bL,bM,bN,bO,c5,c6,da,db,dc,de,jl,rfl,cA,iF,iG,lg,lh⟩:=bC.open_
  rw [cA] at bC
  have iH:=iF.small
  have iI:=iG.small
  rw [cA] at cw
  refine qaJ fG (i:=5) (t:=34) (A:=bI) (m:=aF.length) (q:=((k:Nat):Int)) (d:=71) kz (e:=37) (size:=5) (bytes:=88) kz fH rfl (by first | omega | (have h_:=qbJ hgu ‹_›; omega)) kz kz (qaa (qac (qaa (qaa (qac (qaa qaf)))))) cu fun li fI=>?_
  refine qaP fI (i:=6) (t:=37) (b:=iC) (o:=iD + k * 5) (d:=72) kz (cs:=[.int .i64 bK,.slice c5 bL.length c6,.bool bM,.slice da bN.length db,.slice dc bO.length de]) (v:=.agg #[.int .i64 bK,.slice c5 bL.length c6,.bool bM,.slice da bN.length db,.slice dc bO.length de]) kz (fun w' h'=>(AtF.move cw (TT.step0 cr h') nilM qaZ).at_) kz kz (qaa (qac (qaa (qaa (qac (qaa qaf)))))) cu fun lj dK=>?_
  refine qh5 (i:=1) (j:=7) kz ?_ ?_
  ·
   refine (qb6 cr dK (e:=60) (size:=8) (len:=1) (cs:=[.int .i64 aj,.int .i64 ak,.int .i64 al,.int .i64 am,.int .i64 ag,.int .i64 ao,.int .i64 aa,.slice ap ab.length ar]) (d:=67) kz kz fun fJ lm ln jm jn bD dL fK=>?_)
   have fL:=TT.ofW bD dL
   refine ⟨fun _=>fL,?_⟩
   refine qaA (i:=7) kz (qb6 dL fK (e:=37) (size:=5) (len:=1) (cs:=[.int .i64 bK,.slice c5 bL.length c6,.bool bM,.slice da bN.length db,.slice dc bO.length de]) (d:=73) kz kz fun fM lp lq jo jp cB ay fN=>?_)
   have dM:=TT.ofW (bD.trans cB) ay
   refine ⟨fun _=>dM,?_⟩
   refine qaH [8] [(0,.v (.slice A l.length c)),(1,.v (.int .i64 v)),(2,.v (.bool flex)),(8,.p 0 0),(9,.p 1 0),(23,.v (.slice A l.length c)),(24,.v (.int .i64 ((l.length:Nat):Int))),(25,.v (.int .i64 ((k:Nat):Int))),(67,.v (.slice (some ⟨fJ,0,none⟩) 1 1)),(74,.v (.agg #[.int .i64 0,.slice none 0 0,.bool false,.slice (some ⟨fM,0,none⟩) 1 1,.slice none 0 0]))] 2 (qaa (qac (qaa (qaa (qac (qaa qaf)))))) (fun _ h=>h.cells) dM fN fun lr fO=>?_
   refine qaA (i:=9) kz (qai fO (f:=52) (vs:=[.slice (some ⟨fJ,0,none⟩) 1 1,.agg #[.int .i64 0,.slice none 0 0,.bool false,.slice (some ⟨fM,0,none⟩) 1 1,.slice none 0 0]]) (d:=75) kz Tryd.call52 ( sUs hU _ _ [(Fld.mk aj ak al am ag ao aa ab)] _ (.mk 0 [] false [(Tree.mk bK bL bM bN bO)] []) _ _ (qf3 (ay.own 0 _ rfl) ((bx.move ay.step nilM ay.imm)) (Nat.le_refl _)) (qf4 (ay.own 1 _ rfl) ((bC.move ay.step nilM ay.imm)) (Nat.le_refl _)) (qin ((hP.2.1 k _ _ bR cz).2 ‹_›))) ?_)
   rintro e_ ls ⟨rfl,dN⟩
   refine ⟨_,rfl,fun lu fP=>?_⟩
   have cC:=ay.next_nil dN
   have dO:=ay.frN dN
   have dP:=TT.ofW ((bD.trans cB).trans dO) cC
   refine ⟨fun _=>dP,?_⟩
   refine qaH [10] [(0,.v (.slice A l.length c)),(1,.v (.int .i64 v)),(2,.v (.bool flex)),(8,.p 0 0),(9,.p 1 0),(23,.v (.slice A l.length c)),(24,.v (.int .i64 ((l.length:Nat):Int))),(25,.v (.int .i64 ((k:Nat):Int))),(76,.v (.bool false))] 0 (qaa (qac (qaa (qaa (qac (qaa qaf)))))) (fun _ h=>h.cells) dP fP fun lv dQ=>?_
   refine qaG kz ?_ _
   refine qab ?_
   refine qap dQ (b:=false) kz rfl ?_
   refine wp_skip ?_
   refine qar ?_
   refine qab ?_
   refine qaw [0,1] kz ?_
   refine qah [0,1] [] [(0,.v (.slice A l.length c)),(1,.v (.int .i64 v)),(2,.v (.bool flex)),(8,.p 0 0),(9,.p 1 0),(23,.v (.slice A l.length c)),(24,.v (.int .i64 ((l.length:Nat):Int))),(25,.v (.int .i64 (IntKind.i64.wrap (((k:Nat):Int) + 1))))] cC dQ fun lw fQ=>?_
   refine qae (qab ?_)
   obtain ⟨dR,fR,fS⟩:=cC.cutB fQ 2 [⟨dh,0,[.int .i64 n1,.slice A6 s2.length c7,.bool b3,.slice A8 l4.length c9,.slice bG u5.length bH],true⟩,⟨di,0,[.int .i64 cQ,.slice cT cR.length cU,.bool cS,.slice bI aF.length bP,.slice bJ aB.length bQ],true⟩] [(0,.v (.slice A l.length c)),(1,.v (.int .i64 v)),(2,.v (.bool flex)),(8,.p 0 0),(9,.p 1 0),(23,.v (.slice A l.length c)),(24,.v (.int .i64 ((l.length:Nat):Int))),(25,.v (.int .i64 (IntKind.i64.wrap (((k:Nat):Int) + 1))))]
   obtain ⟨fT,fU⟩:=fR.cutR 0 []
   have fV:IntKind.i64.wrap (((k:Nat):Int) + 1) = ((k + 1:Nat):Int):=qaM (by omega)
   rw [fV] at dR
   exact ⟨l.length - (k + 1),by omega,k + 1,rfl,by omega,dR.pk,fT,((((((((((((ei.trans bT).trans bU).trans bW).trans aw).trans ax).trans bh).trans dJ).trans bD).trans cB).trans dO).trans fS).trans fU)⟩
  refine (qb6 cr dK (e:=37) (size:=5) (len:=1) (cs:=[.int .i64 bK,.slice c5 bL.length c6,.bool bM,.slice da bN.length db,.slice dc bO.length de]) (d:=73) kz kz fun fW lx ly jq jr bE dS fX=>?_)
  have dT:=TT.ofW bE dS
  refine ⟨fun _=>dT,?_⟩
  refine qaH [8] [(0,.v (.slice A l.length c)),(1,.v (.int .i64 v)),(2,.v (.bool flex)),(8,.p 0 0),(9,.p 1 0),(23,.v (.slice A l.length c)),(24,.v (.int .i64 ((l.length:Nat):Int))),(25,.v (.int .i64 ((k:Nat):Int))),(66,.v (.agg #[.int .i64 aj,.int .i64 ak,.int .i64 al,.int .i64 am,.int .i64 ag,.int .i64 ao,.int .i64 aa,.slice ap ab.length ar])),(74,.v (.agg #[.int .i64 0,.slice none 0 0,.bool false,.slice (some ⟨fW,0,none⟩) 1 1,.slice none 0 0]))] 3 (qaa (qac (qaa (qaa (qac (qaa qaf)))))) (fun _ h=>h.cells) dT fX fun lz fY=>?_
  refine qaA (i:=1) kz (qb6 dS fY (e:=60) (size:=8) (len:=1) (cs:=[.int .i64 aj,.int .i64 ak,.int .i64 al,.int .i64 am,.int .i64 ag,.int .i64 ao,.int .i64 aa,.slice ap ab.length ar]) (d:=67) kz kz fun iJ lA lB js jt cD az fZ=>?_)
  have f5:=TT.ofW (bE.trans cD) az
  refine ⟨fun _=>f5,?_⟩
  refine qaA (i:=9) kz (qai fZ (f:=52) (vs:=[.slice (some ⟨iJ,0,none⟩) 1 1,.agg #[.int .i64 0,.slice none 0 0,.bool false,.slice (some ⟨fW,0,none⟩) 1 1,.slice none 0 0]]) (d:=75) kz Tryd.call52 ( sUs hU _ _ [(Fld.mk aj ak al am ag ao aa ab)] _ (.mk 0 [] false [(Tree.mk bK bL bM bN bO)] []) _ _ (qf3 (az.own 1 _ rfl) ((bx.move az.step nilM az.imm)) (Nat.le_refl _)) (qf4 (az.own 0 _ rfl) ((bC.move az.step nilM az.imm)) (Nat.le_refl _)) (qin ((hP.2.1 k _ _ bR cz).2 ‹_›))) ?_)
  rintro e_ lC ⟨rfl,dU⟩
  refine ⟨_,rfl,fun lD f7=>?_⟩
  have cE:=az.next_nil dU
  have dV:=az.frN dU
  have dW:=TT.ofW ((bE.trans cD).trans dV) cE
  refine ⟨fun _=>dW,?_⟩
  refine qaH [10] [(0,.v (.slice A l.length c)),(1,.v (.int .i64 v)),(2,.v (.bool flex)),(8,.p 0 0),(9,.p 1 0),(23,.v (.slice A l.length c)),(24,.v (.int .i64 ((l.length:Nat):Int))),(25,.v (.int .i64 ((k:Nat):Int))),(76,.v (.bool false))] 0 (qaa (qac (qaa (qaa (qac (qaa qaf)))))) (fun _ h=>h.cells) dW f7 fun lE dX=>?_
  refine qaG kz ?_ _
  refine qab ?_
  refine qap dX (b:=false) kz rfl ?_
  refine wp_skip ?_
  refine qar ?_
  refine qab ?_
  refine qaw [0,1] kz ?_
  refine qah [0,1] [] [(0,.v (.slice A l.length c)),(1,.v (.int .i64 v)),(2,.v (.bool flex)),(8,.p 0 0),(9,.p 1 0),(23,.v (.slice A l.length c)),(24,.v (.int .i64 ((l.length:Nat):Int))),(25,.v (.int .i64 (IntKind.i64.wrap (((k:Nat):Int) + 1))))] cE dX fun lF f8=>?_
  refine qae (qab ?_)
  obtain ⟨dY,f9,ga⟩:=cE.cutB f8 2 [⟨dh,0,[.int .i64 n1,.slice A6 s2.length c7,.bool b3,.slice A8 l4.length c9,.slice bG u5.length bH],true⟩,⟨di,0,[.int .i64 cQ,.slice cT cR.length cU,.bool cS,.slice bI aF.length bP,.slice bJ aB.length bQ],true⟩] [(0,.v (.slice A l.length c)),(1,.v (.int .i64 v)),(2,.v (.bool flex)),(8,.p 0 0),(9,.p 1 0),(23,.v (.slice A l.length c)),(24,.v (.int .i64 ((l.length:Nat):Int))),(25,.v (.int .i64 (IntKind.i64.wrap (((k:Nat):Int) + 1))))]
  obtain ⟨gb,gc⟩:=f9.cutR 0 []
  have gd:IntKind.i64.wrap (((k:Nat):Int) + 1) = ((k + 1:Nat):Int):=qaM (by omega)
  rw [gd] at dY
  exact ⟨l.length - (k + 1),by omega,k + 1,rfl,by omega,dY.pk,gb,((((((((((((ei.trans bT).trans bU).trans bW).trans aw).trans ax).trans bh).trans dJ).trans bE).trans cD).trans dV).trans ga).trans gc)⟩
 have ju:=of_decide_eq_false ek
 refine wp_exit ?_
 refine qaB ?_
 refine qaB ?_
 refine qaQ ?_
 refine qab ?_
 refine qad [0,1,2,3,4] kz ?_
 refine qah [0,1,2] [3,4] [(2,.v (.bool flex)),(9,.p 1 0),(78,.v (.slice A l.length c)),(80,.v (.slice bG u5.length bH))] av ej fun lG ge=>?_
 refine qam (qai ge (f:=53) (vs:=[.slice A l.length c,.slice bG u5.length bH]) (d:=81) kz Tryd.call53 (qeD _ _ l _ _ u5 _ _ ⟨xfs,(h1.move av.step nilM av.imm),(fun i_ x_ h_=>((h2 i_ x_ h_).move av.step nilM av.imm))⟩ (jR.move av.step nilM av.imm)) ?_)
 rintro e_ lH ⟨ah,ai,rfl,gg,cG⟩
 have gh:=gg.move (Step.refl _ Nil) nilM (av.laid (G:=F) cG)
 refine ⟨_,rfl,fun lI gi=>?_⟩
 have ae:=av.next_nil cG
 have jv:=av.frN cG
 refine qah [4] [] [(2,.v (.bool flex)),(9,.p 1 0),(14,.v (.slice ah ((qag l u5).length) ai))] ae gi fun lJ gj=>?_
 refine qae (qab ?_)
 refine wp_seq ?_
 refine qan [(9,.p 1 0),(14,.v (.slice ah ((qag l u5).length) ai)),(83,.v (.bool (!flex)))] ae gj fun lK cH=>?_
 refine qau cH (b:=!flex) kz (fun gk=>?_) (fun gk=>?_)
 ·
  refine qaw [0] kz ?_
  refine qah [0] [] [(9,.p 1 0),(14,.v (.slice none 0 0))] ae cH fun lL gl=>?_
  refine qae (qab ?_)
  refine wp_seq ?_
  refine qan [(9,.p 1 0),(14,.v (.slice none 0 0)),(89,.v (.bool (((aB.length:Nat):Int) != 0)))] ae gl fun lM cI=>?_
  refine qau cI (b:=((aB.length:Nat):Int) != 0) kz (fun cJ=>?_) (fun cJ=>?_)
  ·
   have jw:((aB.length:Nat):Int) ≠ 0:=by simpa using cJ
   refine qan [(10,.v (.bool false))] ae cI fun lN gm=>?_
   refine wp_ret ?_
   refine qal ?_
   refine qaD gm ae.cells (v:=.bool false) kz ?_
   first
    | (exfalso; omega)
    | exact (qdn hgu ‹_› ‹_›).elim
    | exact (qcK hgu ‹_› ‹_›).elim
    | exact (qdo hgu ‹_› ‹_› ‹_› ‹_›).elim
    | exact (qdp hgu ‹_› ‹_› ‹_› ‹_›).elim
    | (exfalso; simp_all; done)
  have jx:((aB.length:Nat):Int) = 0:=by simpa using cJ
  refine wp_skip ?_
  refine qab ?_
  refine wp_seq ?_
  refine qan [(9,.p 1 0),(90,.v (.slice none 0 0)),(91,.v (.int .i64 0)),(92,.v (.int .i64 0))] ae cI fun lO gn=>?_
  refine wp_block ?_
  refine wp_loop_ghost (fun n_ a_ w_=>∃ (k:Nat),n_ = 0 - k ∧ k ≤ 0 ∧ LInv ae 120 [⟨dh,0,[.int .i64 n1,.slice A6 s2.length c7,.bool b3,.slice A8 l4.length c9,.slice bG u5.length bH],true⟩,⟨di,0,[.int .i64 cQ,.slice cT cR.length cU,.bool cS,.slice bI aF.length bP,.slice bJ aB.length bQ],true⟩] [] [(9,.p 1 0),(90,.v (.slice none 0 0)),(91,.v (.int .i64 0)),(92,.v (.int .i64 ((k:Nat):Int)))] a_ w_) (0) ⟨0,by omega,by omega,gn.pk,ae,Fr.refl _ _ _⟩ ?_
  rintro lP lQ lR ⟨k,jy,jz,gp,bF,jA⟩
  refine qan [(9,.p 1 0),(90,.v (.slice none 0 0)),(91,.v (.int .i64 0)),(92,.v (.int .i64 ((k:Nat):Int))),(93,.v (.bool (decide (((k:Nat):Int) < 0))))] bF gp fun lS dZ=>?_
  refine wp_seq ?_
  refine qap dZ (b:=decide (((k:Nat):Int) < 0)) kz (decide_eq_false (by omega)) ?_
  refine wp_exit ?_
  refine qaB ?_
  refine qaB ?_
  refine qaQ ?_
  refine qab ?_
  refine qan [(10,.v (.bool true))] bF dZ fun lT gq=>?_
  refine wp_ret ?_
  refine qaD gq bF.cells (v:=.bool true) kz ?_
  exact ⟨rfl,bF.step⟩
 refine wp_skip ?_
 refine qab ?_
 refine wp_seq ?_
 refine qan [(9,.p 1 0),(14,.v (.slice ah ((qag l u5).length) ai)),(89,.v (.bool (((aB.length:Nat):Int) != (((qag l u5).length:Nat):Int))))] ae cH fun lU cK=>?_
 refine qau cK (b:=((aB.length:Nat):Int) != (((qag l u5).length:Nat):Int)) kz (fun cL=>?_) (fun cL=>?_)
 ·
  have jB:((aB.length:Nat):Int) ≠ (((qag l u5).length:Nat):Int):=by simpa using cL
  refine qan [(10,.v (.bool false))] ae cK fun lV gt=>?_
  refine wp_ret ?_
  refine qal ?_
  refine qaD gt ae.cells (v:=.bool false) kz ?_
  first
   | (exfalso; omega)
   | exact (qdn hgu ‹_› ‹_›).elim
   | exact (qcK hgu ‹_› ‹_›).elim
   | exact (qdo hgu ‹_› ‹_› ‹_› ‹_›).elim
   | exact (qdp hgu ‹_› ‹_› ‹_› ‹_›).elim
   | (exfalso; simp_all; done)
 have jC:((aB.length:Nat):Int) = (((qag l u5).length:Nat):Int):=by simpa using cL
 refine wp_skip ?_
 refine qab ?_
 refine wp_seq ?_
 refine qan [(9,.p 1 0),(90,.v (.slice ah ((qag l u5).length) ai)),(91,.v (.int .i64 (((qag l u5).length:Nat):Int))),(92,.v (.int .i64 0))] ae cK fun lW gv=>?_
 refine wp_block ?_
 obtain ⟨jD,gw,iK⟩:=gh.ex
 have iL:=gw.small
 refine wp_loop_ghost (fun n_ a_ w_=>∃ (k:Nat),n_ = (qag l u5).length - k ∧ k ≤ (qag l u5).length ∧ LInv ae 120 [⟨dh,0,[.int .i64 n1,.slice A6 s2.length c7,.bool b3,.slice A8 l4.length c9,.slice bG u5.length bH],true⟩,⟨di,0,[.int .i64 cQ,.slice cT cR.length cU,.bool cS,.slice bI aF.length bP,.slice bJ aB.length bQ],true⟩] [] [(9,.p 1 0),(90,.v (.slice ah ((qag l u5).length) ai)),(91,.v (.int .i64 (((qag l u5).length:Nat):Int))),(92,.v (.int .i64 ((k:Nat):Int)))] a_ w_) ((qag l u5).length) ⟨0,by omega,by omega,gv.pk,ae,Fr.refl _ _ _⟩ ?_
 rintro lX lY lZ ⟨k,jE,jF,gx,aI,aD⟩
 refine qan [(9,.p 1 0),(90,.v (.slice ah ((qag l u5).length) ai)),(91,.v (.int .i64 (((qag l u5).length:Nat):Int))),(92,.v (.int .i64 ((k:Nat):Int))),(93,.v (.bool (decide (((k:Nat):Int) < (((qag l u5).length:Nat):Int)))))] aI gx fun l5 cM=>?_
 refine wp_seq ?_
 refine qau cM (b:=decide (((k:Nat):Int) < (((qag l u5).length:Nat):Int))) kz (fun cN=>?_) (fun cN=>?_)
 ·
  have jG:=of_decide_eq_true cN
  refine wp_skip ?_
  refine qab ?_
  refine wp_seq ?_
  refine wp_block ?_
  refine qad [0,1,2,3,4,5] kz ?_
  refine qah [0] [1,2,3,4,5] [(9,.p 1 0),(90,.v (.slice ah ((qag l u5).length) ai)),(91,.v (.int .i64 (((qag l u5).length:Nat):Int))),(92,.v (.int .i64 ((k:Nat):Int))),(94,.v (.int .i64 ((k:Nat):Int)))] aI cM fun l6 gy=>?_
  obtain ⟨iM,iN,gz,jH,cO⟩:=Slots.get gw (i:=k) (by first | omega | (have h_:=qbJ hgu ‹_›; omega))
  obtain ⟨⟨aE,aA⟩,gA⟩:∃ x,(qag l u5)[k]? = some x:=⟨_,List.getElem?_eq_getElem (by omega)⟩
  obtain ⟨⟨bi,bj,ez,d5⟩,l7,l9⟩:=iK k aE aA gA
  rw [ez] at cO
  refine qam (qaz gy (t:=35) (A:=ah) (m:=((qag l u5).length)) (q:=((k:Nat):Int)) (d:=95) kz (e:=64) (size:=2) (bytes:=32) kz gz rfl (by first | omega | (have h_:=qbJ hgu ‹_›; omega)) fun ma gB=>?_)
  refine qam (qaE gB (t:=64) (b:=iM) (o:=iN + k * 2) (d:=96) kz (cs:=[.int .u32 aE,.slice bi aA.length bj]) (v:=.agg #[.int .u32 aE,.slice bi aA.length bj]) kz (AtF.move cO aD.step immM aD.to').at_ fun mc gC=>?_)
  refine qam (qaO aI gC (d:=16) (cs:=[.int .u32 0,.slice none 0 0]) kz fun md me mf jI jJ bk d6 gD=>?_)
  refine qah [4] [5] [(9,.p 1 0),(15,.v (.int .i64 ((k:Nat):Int))),(16,.p 2 0),(90,.v (.slice ah ((qag l u5).length) ai)),(91,.v (.int .i64 (((qag l u5).length:Nat):Int))),(92,.v (.int .i64 ((k:Nat):Int))),(96,.v (.agg #[.int .u32 aE,.slice bi aA.length bj]))] d6 gD fun mg gE=>?_
  refine qam (qay d6 gE (oi:=2) (cs:=[.int .u32 aE,.slice bi aA.length bj]) kz fun mh bn gF gG=>?_)
  refine qae (qab ?_)
  refine qaI 22 kz gF fun mi bo aJ au=>?_
  refine qaH [0,1,2,6,7] [(9,.p 1 0),(15,.v (.int .i64 ((k:Nat):Int))),(16,.p 2 0),(90,.v (.slice ah ((qag l u5).length) ai)),(91,.v (.int .i64 (((qag l u5).length:Nat):Int))),(92,.v (.int .i64 ((k:Nat):Int))),(98,.v (.slice bJ aB.length bQ)),(99,.v (.int .i64 ((k:Nat):Int))),(104,.v (.int .u32 aE))] 17 (qaa (qac (qaa (qaa (qac (qaa qaf)))))) (fun _ h=>h.cells) au gG fun mj gH=>?_
  obtain ⟨df,dg,d7,jK,bz⟩:=Slots.get iU (i:=k) (by first | omega | (have h_:=qbJ hgu ‹_›; omega))
  obtain ⟨⟨bA,bB⟩,gI⟩:∃ x,aB[k]? = some x:=⟨_,List.getElem?_eq_getElem (by omega)⟩
  obtain ⟨⟨eB,eC,eD,gJ⟩,ml,mn⟩:=jW k bA bB gI
  rw [eD] at bz
  refine qaJ gH (i:=3) (t:=35) (A:=bJ) (m:=aB.length) (q:=((k:Nat):Int)) (d:=100) kz (e:=64) (size:=2) (bytes:=32) kz d7 rfl (by first | omega | (have h_:=qbJ hgu ‹_›; omega)) kz kz (qaa (qac (qaa (qaa (qac (qaa qaf)))))) au fun mo gK=>?_
  refine qaH [4] [(9,.p 1 0),(15,.v (.int .i64 ((k:Nat):Int))),(16,.p 2 0),(90,.v (.slice ah ((qag l u5).length) ai)),(91,.v (.int .i64 (((qag l u5).length:Nat):Int))),(92,.v (.int .i64 ((k:Nat):Int))),(101,.v (.pointer (some ⟨df,dg + k * 2,none⟩))),(104,.v (.int .u32 aE))] 15 (qaa (qac (qaa (qaa (qac (qaa qaf)))))) (fun _ h=>h.cells) au gK fun mp gL=>?_
  refine qaP gL (i:=5) (t:=62) (b:=df) (o:=dg + k * 2) (d:=102) kz (cs:=[.int .u32 bA]) (v:=.int .u32 bA) kz (fun w' h'=>(At.drop (AtF.move bz (TT.step0 aJ h') nilM qaZ).at_ 0 1)) kz kz (qaa (qac (qaa (qaa (qac (qaa qaf)))))) au fun mq gM=>?_
  refine qaH [8,9] [(9,.p 1 0),(15,.v (.int .i64 ((k:Nat):Int))),(16,.p 2 0),(90,.v (.slice ah ((qag l u5).length) ai)),(91,.v (.int .i64 (((qag l u5).length:Nat):Int))),(92,.v (.int .i64 ((k:Nat):Int))),(106,.v (.bool (bA != aE)))] 12 (qaa (qac (qaa (qaa (qac (qaa qaf)))))) (fun _ h=>h.cells) au gM fun mr d8=>?_
  refine (Bool.eq_false_or_eq_true (bA != aE)).elim (fun bp=>?_) (fun bp=>?_)
  ·
   have jL:bA ≠ aE:=by simpa using bp
   have gN:=d8.cast (env':=[(9,.p 1 0),(15,.v (.int .i64 ((k:Nat):Int))),(16,.p 2 0),(90,.v (.slice ah ((qag l u5).length) ai)),(91,.v (.int .i64 (((qag l u5).length:Nat):Int))),(92,.v (.int .i64 ((k:Nat):Int))),(106,.v (.bool true))]) (by rw [bp])
   refine qaH [10,11,12,13,14,15,16,17,18,19,20,21] [(9,.p 1 0),(90,.v (.slice ah ((qag l u5).length) ai)),(91,.v (.int .i64 (((qag l u5).length:Nat):Int))),(92,.v (.int .i64 ((k:Nat):Int))),(118,.v (.bool true))] 0 (qaa (qac (qaa (qaa (qac (qaa qaf)))))) (fun _ h=>h.cells) au gN fun mt d9=>?_
   refine qaG kz ?_ _
   refine qab ?_
   refine qa0 d9 (b:=true) kz rfl ?_
   refine qan [(10,.v (.bool false))] aJ d9 fun mu gO=>?_
   refine wp_ret ?_
   refine qaq ?_
   refine qal ?_
   refine qal ?_
   refine qaq ?_
   refine qal ?_
   refine qaD gO aJ.cells (v:=.bool false) kz ?_
   first
    | (exfalso; omega)
    | exact (qdn hgu ‹_› ‹_›).elim
    | exact (qcK hgu ‹_› ‹_›).elim
    | exact (qdo hgu ‹_› ‹_› ‹_› ‹_›).elim
    | exact (qdp hgu ‹_› ‹_› ‹_› ‹_›).elim
    | (exfalso; simp_all; done)
  have jM:bA = aE:=by simpa using bp
  have gP:=d8.cast (env':=[(9,.p 1 0),(15,.v (.int .i64 ((k:Nat):Int))),(16,.p 2 0),(90,.v (.slice ah ((qag l u5).length) ai)),(91,.v (.int .i64 (((qag l u5).length:Nat):Int))),(92,.v (.int .i64 ((k:Nat):Int))),(106,.v (.bool false))]) (by rw [bp])
  refine qaH [10,11,12,16,17] [(9,.p 1 0),(90,.v (.slice ah ((qag l u5).length) ai)),(91,.v (.int .i64 (((qag l u5).length:Nat):Int))),(92,.v (.int .i64 ((k:Nat):Int))),(106,.v (.bool false)),(108,.v (.slice bJ aB.length bQ)),(109,.v (.int .i64 ((k:Nat):Int))),(114,.v (.slice bi aA.length bj))] 7 (qaa (qac (qaa (qaa (qac (qaa qaf)))))) (fun _ h=>h.cells) au gP fun mw gQ=>?_
  refine qaJ gQ (i:=13) (t:=35) (A:=bJ) (m:=aB.length) (q:=((k:Nat):Int)) (d:=110) kz (e:=64) (size:=2) (bytes:=32) kz d7 rfl (by first | omega | (have h_:=qbJ hgu ‹_›; omega)) kz kz (qaa (qac (qaa (qaa (qac (qaa qaf)))))) au fun mx gR=>?_
  refine qaH [14] [(9,.p 1 0),(90,.v (.slice ah ((qag l u5).length) ai)),(91,.v (.int .i64 (((qag l u5).length:Nat):Int))),(92,.v (.int .i64 ((k:Nat):Int))),(106,.v (.bool false)),(111,.v (.pointer (some ⟨df,dg + k * 2 + 1,none⟩))),(114,.v (.slice bi aA.length bj))] 5 (qaa (qac (qaa (qaa (qac (qaa qaf)))))) (fun _ h=>h.cells) au gR fun my gS=>?_
  refine qaP gS (i:=15) (t:=22) (b:=df) (o:=dg + k * 2 + 1) (d:=112) kz (cs:=[.slice eB bB.length eC]) (v:=.slice eB bB.length eC) kz (fun w' h'=>(At.drop (AtF.move bz (TT.step0 aJ h') nilM qaZ).at_ 1 1)) kz kz (qaa (qac (qaa (qaa (qac (qaa qaf)))))) au fun mz gT=>?_
  have iO:=qa4 aA
  refine qaA (i:=18) kz (qai gT (f:=54) (vs:=[.slice bi aA.length bj]) (d:=115) kz Tryd.call54 (qcI _ _ aA (d5.move (((aD.trans bk).trans bn).trans bo).step immM (((aD.trans bk).trans bn).trans bo).to').le _) ?_)
  rintro e_ mA ⟨rfl,ea⟩
  refine ⟨_,rfl,fun mB gU=>?_⟩
  have bq:=aJ.next_nil ea
  have bt:=aJ.frN ea
  have gV:=TT.ofW bt bq
  refine ⟨fun _=>gV,?_⟩
  refine qaA (i:=19) kz (qai gU (f:=31) (vs:=[.slice eB bB.length eC,.slice bi ((qax aA).length) bj]) (d:=116) kz Tryd.call31 (qc8 _ _ _ _ bB (qax aA) _ _ ((gJ.move bq.step nilM bq.imm).move (Step.refl _ Nil) nilM allF) (((d5.take 32767).move ((((aD.trans bk).trans bn).trans bo).trans bt).step immM ((((aD.trans bk).trans bn).trans bo).trans bt).to').move (Step.refl _ Nil) nilM allF)) ?_)
  rintro e_ mC ⟨rfl,eb⟩
  refine ⟨_,rfl,fun mD gW=>?_⟩
  have bu:=bq.next_nil eb
  have ec:=bq.frN eb
  have ee:=TT.ofW (bt.trans ec) bu
  refine ⟨fun _=>ee,?_⟩
  refine qaH [20,21] [(9,.p 1 0),(90,.v (.slice ah ((qag l u5).length) ai)),(91,.v (.int .i64 (((qag l u5).length:Nat):Int))),(92,.v (.int .i64 ((k:Nat):Int))),(118,.v (.bool (!(decide (bB = (qax aA))))))] 0 (qaa (qac (qaa (qaa (qac (qaa qaf)))))) (fun _ h=>h.cells) ee gW fun mF cP=>?_
  refine qaG kz ?_ _
  refine qab ?_
  refine qau cP (b:=!(decide (bB = (qax aA)))) kz (fun gX=>?_) (fun gX=>?_)
  ·
   refine qan [(10,.v (.bool false))] bu cP fun mG gY=>?_
   refine wp_ret ?_
   refine qaq ?_
   refine qal ?_
   refine qal ?_
   refine qaq ?_
   refine qal ?_
   refine qaD gY bu.cells (v:=.bool false) kz ?_
   first
    | (exfalso; omega)
    | exact (qdn hgu ‹_› ‹_›).elim
    | exact (qcK hgu ‹_› ‹_›).elim
    | exact (qdo hgu ‹_› ‹_› ‹_› ‹_›).elim
    | exact (qdp hgu ‹_› ‹_› ‹_› ‹_›).elim
    | (exfalso; simp_all; done)
  refine wp_skip ?_
  refine qar ?_
  refine qab ?_
  refine qaw [0,1] kz ?_
  refine qah [0,1] [] [(9,.p 1 0),(90,.v (.slice ah ((qag l u5).length) ai)),(91,.v (.int .i64 (((qag l u5).length:Nat):Int))),(92,.v (.int .i64 (IntKind.i64.wrap (((k:Nat):Int) + 1))))] bu cP fun mH gZ=>?_
  refine qae (qab ?_)
  obtain ⟨ef,g6,g7⟩:=bu.cutB gZ 2 [⟨dh,0,[.int .i64 n1,.slice A6 s2.length c7,.bool b3,.slice A8 l4.length c9,.slice bG u5.length bH],true⟩,⟨di,0,[.int .i64 cQ,.slice cT cR.length cU,.bool cS,.slice bI aF.length bP,.slice bJ aB.length bQ],true⟩] [(9,.p 1 0),(90,.v (.slice ah ((qag l u5).length) ai)),(91,.v (.int .i64 (((qag l u5).length:Nat):Int))),(92,.v (.int .i64 (IntKind.i64.wrap (((k:Nat):Int) + 1))))]
  have g8:IntKind.i64.wrap (((k:Nat):Int) + 1) = ((k + 1:Nat):Int):=qaM (by omega)
  rw [g8] at ef
  exact ⟨(qag l u5).length - (k + 1),by omega,k + 1,rfl,by omega,ef.pk,g6,((((((aD.trans bk).trans bn).trans bo).trans bt).trans ec).trans g7)⟩
 have jN:=of_decide_eq_false cN
 refine wp_exit ?_
 refine qaB ?_
 refine qaB ?_
 refine qaQ ?_
 refine qab ?_
 refine qan [(10,.v (.bool true))] aI cM fun mI g9=>?_
 refine wp_ret ?_
 refine qaD g9 aI.cells (v:=.bool true) kz ?_
 exact ⟨rfl,aI.step⟩
theorem qit (v:Int) (flex:Bool):∀ d,ToOK v flex (qhv v flex d)
 | 0=>qis (fun _ _ _ _ _ _ _ _ _ _ _ _ _ h=>h.elim) (fun _ _ _ _ _ _ _ _ _ h=>h.elim)
 | d + 1=>qis (qit v flex d) (qhA d)
theorem qbQ:depths sConnectMemberMetadataF ≤ 8:=by simp [sConnectMemberMetadataF,Fld.depth.depths,Fld.depth]
theorem qbR:plains sConnectMemberMetadataF:=by simp [sConnectMemberMetadataF,Fld.plain.plains,Fld.plain]
theorem qjJ {v:Int} (h:IntKind.i16.wrap v = v):IntKind.i64.wrap v = v:=by
 have:IntKind.i16.wrap v = (v + 32768) % 65536 - 32768:=by simp [IntKind.wrap,IntKind.signed,IntKind.bits]; omega
 exact wrap_i64 (by omega) (by omega)
theorem qcv (A:Option Addr) (c:Nat) (v:Int) (w:World):Calls Tryd.prog 24 #[.agg #[.slice A sConnectMemberMetadataF.length c,.int .i64 qav],.int .i64 v] w (qbD w (.bool (false))):=by
 refine enter (n:=14) Tryd.func24 rfl Tryd.ntmps24 kz fun a hE=>?_
 have hW:=WOk.start w Nil
 refine qad [0,1] kz ?_
 refine qam (qaY hW hE (d:=2) (cs:=[.slice A sConnectMemberMetadataF.length c,.int .i64 qav]) kz fun b1 a2 w3 hb4 hz5 hF6 hW7 hE8=>?_)
 refine qah [1] [] [(1,.v (.int .i64 v)),(2,.p 0 0)] hW7 hE8 fun a9 aa=>?_
 refine qae (qab ?_)
 refine qad [0,1,2,3,4,5,6,7,8,9] kz ?_
 refine qah [0,1,2,3] [4,5,6,7,8,9] [(1,.v (.int .i64 v)),(2,.p 0 0),(8,.v (.bool (decide (qav ≥ 0))))] hW7 aa fun ag ab=>?_
 have ac:(decide (qav ≥ 0)) = false:=by decide
 have ae:=ab.cast (env':=[(1,.v (.int .i64 v)),(2,.p 0 0),(8,.v (.bool false))]) (by rw [ac])
 refine qah [4,5,6,7,8,9] [] [(4,.v (.bool false))] hW7 ae fun ah af=>?_
 refine qae (qab ?_)
 refine wp_ret ?_
 refine qaD af hW7.cells (v:=.bool false) kz ?_
 exact ⟨rfl,hW7.step⟩
set_option maxHeartbeats 4000000 in
theorem qcm (x:Int) (hx:0 ≤ x) (hx':x < 256) (ct:List Value) (t:Tree) (w:World) (F:Nat → Nat → Prop) (ht:TreeR w F ct t) (hroom1:(qdq 8 sConnectMemberMetadataF qav (Int.tmod (IntKind.i64.wrap x) 2) t).length + 16 ≤ 1099511627776) (hcan:qaX (fitT (Int.tmod (IntKind.i64.wrap x) 2) 8 sConnectMemberMetadataF t)) (hkey:Tree.ranged (fitT (Int.tmod (IntKind.i64.wrap x) 2) 8 sConnectMemberMetadataF t)) (hpure:be 2 (Int.tmod (IntKind.i64.wrap x) 2) ++ qaj (Int.tmod (IntKind.i64.wrap x) 2) (fitT (Int.tmod (IntKind.i64.wrap x) 2) 8 sConnectMemberMetadataF t) = qdq 8 sConnectMemberMetadataF qav (Int.tmod (IntKind.i64.wrap x) 2) t) (hvv:IntKind.i16.wrap (Int.tmod (IntKind.i64.wrap x) 2) = (Int.tmod (IntKind.i64.wrap x) 2)) (hto:∀ D,qaS (Int.tmod (IntKind.i64.wrap x) 2) D (fitT (Int.tmod (IntKind.i64.wrap x) 2) 8 sConnectMemberMetadataF t) → qhv (Int.tmod (IntKind.i64.wrap x) 2) (false) 8 sConnectMemberMetadataF t (qgx (qaT D) (IntKind.i64.wrap (Int.tmod (IntKind.i64.wrap x) 2)))) :
  Calls Tryd.prog 6 #[.int .u8 x,.agg ct.toArray] w (qbD w (.bool true)):=by
 obtain ⟨n1,s2,b3,l4,u5,A6,c7,A8,c9,aH,aI,dc,rfl,rfl,de,df,dU,dV⟩:=ht.open_
 have cO:=de.small
 have cP:=df.small
 refine enter (n:=43) Tryd.func6 rfl Tryd.ntmps6 kz fun a hE=>?_
 have hW:=WOk.start w Nil
 refine qad [0,1] kz ?_
 refine qam (qaY hW hE (d:=3) (cs:=[.int .i64 n1,.slice A6 s2.length c7,.bool b3,.slice A8 l4.length c9,.slice aH u5.length aI]) kz fun dg dW dX dh di dj ar bK=>?_)
 refine qah [1] [] [(0,.v (.int .u8 x)),(3,.p 0 0)] ar bK fun dY bL=>?_
 refine qae (qab ?_)
 refine wp_seq ?_
 refine qad [0,1,2] kz ?_
 refine qah [0] [1,2] [(0,.v (.int .u8 x)),(3,.p 0 0),(9,.v (.agg #[.int .i64 n1,.slice A6 s2.length c7,.bool b3,.slice A8 l4.length c9,.slice aH u5.length aI]))] ar bL fun dZ bM=>?_
 refine qam (qai bM (f:=20) (vs:=[.agg #[.int .i64 n1,.slice A6 s2.length c7,.bool b3,.slice A8 l4.length c9,.slice aH u5.length aI]]) (d:=10) kz Tryd.call20 (qjB _ _ _ _ (ht.move ar.step nilM ar.imm)) ?_)
 rintro e_ dl ⟨cQ,rfl,aW⟩
 refine ⟨_,rfl,fun d5 bN=>?_⟩
 have ak:=ar.next_nil aW
 have dp:=ar.frN aW
 refine qah [2] [] [(0,.v (.int .u8 x)),(3,.p 0 0),(11,.v (.bool (!cQ)))] ak bN fun d6 aS=>?_
 refine qae (qab ?_)
 refine qau aS (b:=!cQ) kz (fun bO=>?_) (fun bO=>?_)
 ·
  refine qan [(4,.v (.bool true))] ak aS fun d7 bP=>?_
  refine wp_ret ?_
  refine qal ?_
  refine qaD bP ak.cells (v:=.bool true) kz ?_
  exact ⟨rfl,ak.step⟩
 refine wp_skip ?_
 refine qab ?_
 refine qad [0,1,2,3,4,5,6] kz ?_
 refine qam (qai aS (f:=21) (vs:=[]) (d:=12) kz Tryd.call21 (qcy _ (Imm F w dl [⟨dg,0,[.int .i64 n1,.slice A6 s2.length c7,.bool b3,.slice A8 l4.length c9,.slice aH u5.length aI],true⟩] [])) ?_)
 rintro e_ d8 ⟨aJ,aK,rfl,bQ,aT⟩
 obtain ⟨aX,cR,cS⟩:=bQ.move (Step.refl _ Nil) nilM (ak.laid (G:=F) aT)
 refine ⟨_,rfl,fun d9 bR=>?_⟩
 have aY:=ak.next_nil aT
 have dq:=ak.frN aT
 refine qah [1,2,3] [4,5,6] [(3,.p 0 0),(12,.v (.agg #[.slice aJ sConnectMemberMetadataF.length aK,.int .i64 qav])),(15,.v (.int .i64 (Int.tmod (IntKind.i64.wrap x) 2)))] aY bR fun ea bS=>?_
 refine qam (qaO aY bS (d:=5) (cs:=[.slice none 0 0,.int .i64 0]) kz fun eb ec ee dr dt ah bT bU=>?_)
 refine qam (qay bT bU (oi:=1) (cs:=[.slice aJ sConnectMemberMetadataF.length aK,.int .i64 qav]) kz fun ef ai au bV=>?_)
 refine qah [6] [] [(3,.p 0 0),(5,.p 1 0),(6,.v (.int .i64 (Int.tmod (IntKind.i64.wrap x) 2)))] au bV fun eg bW=>?_
 refine qae (qab ?_)
 refine qad [0,1,2,3,4,5,6,7,8,9,10] kz ?_
 refine qah [0,1,2] [3,4,5,6,7,8,9,10] [(3,.p 0 0),(5,.p 1 0),(6,.v (.int .i64 (Int.tmod (IntKind.i64.wrap x) 2))),(17,.v (.agg #[.slice aJ sConnectMemberMetadataF.length aK,.int .i64 qav])),(18,.v (.int .i64 (Int.tmod (IntKind.i64.wrap x) 2))),(19,.v (.agg #[.int .i64 n1,.slice A6 s2.length c7,.bool b3,.slice A8 l4.length c9,.slice aH u5.length aI]))] au bW fun eh bX=>?_
 refine qam (qai bX (f:=8) (vs:=[.agg #[.slice aJ sConnectMemberMetadataF.length aK,.int .i64 qav],.int .i64 (Int.tmod (IntKind.i64.wrap x) 2),.agg #[.int .i64 n1,.slice A6 s2.length c7,.bool b3,.slice A8 l4.length c9,.slice aH u5.length aI]]) (d:=20) kz Tryd.call8 (qjR _ _ sConnectMemberMetadataF qav (Int.tmod (IntKind.i64.wrap x) 2) _ (Tree.mk n1 s2 b3 l4 u5) _ _ ⟨aX,(cR.move (ah.trans ai).step immM (ah.trans ai).to'),(fun i_ x_ h_=>((cS i_ x_ h_).move (ah.trans ai).step immM (ah.trans ai).to'))⟩ qbQ (ht.move au.step nilM au.imm) (Nat.le_trans (Nat.le_add_right _ _) hroom1)) ?_)
 rintro e_ ei ⟨cT,cU,rfl,bY,bZ⟩
 refine ⟨_,rfl,fun ej b8=>?_⟩
 obtain ⟨aA,aB⟩:=au.frFresh bZ (brow cT cU 5 (qdq 8 sConnectMemberMetadataF qav (Int.tmod (IntKind.i64.wrap x) 2) (Tree.mk n1 s2 b3 l4 u5))) (Nat.le_refl _) bY
 refine qam (qai b8 (f:=22) (vs:=[.slice cT ((qdq 8 sConnectMemberMetadataF qav (Int.tmod (IntKind.i64.wrap x) 2) (Tree.mk n1 s2 b3 l4 u5)).length) cU]) (d:=21) kz Tryd.call22 (qcl (Int.tmod (IntKind.i64.wrap x) 2) _ (qdq 8 sConnectMemberMetadataF qav (Int.tmod (IntKind.i64.wrap x) 2) (Tree.mk n1 s2 b3 l4 u5)) hvv hpure (qbC (aA.own 0 _ rfl) (by first | omega | (rw [qa3]; decide) | (simp only [be_length]; exact Nat.le_trans (qbb _) (by decide)) | (have:=hroom; omega) | (have:=hmade; omega) | (simp only [List.length_append,List.length_nil]; omega)) (F:=fun _ _=>True) (fun _ _ _=>trivial)) hcan hkey (by first | omega | (have:=hroom1; omega))) ?_)
 rintro e_ ek ⟨cV,du,rfl,cd,ce,aU⟩
 have aV:=cd.move (Step.refl _ Nil) nilM (fun b_ o_ h_ hb_=>aA.laid (G:=F) aU b_ o_ (.inr (h_.resolve_left id)) hb_)
 obtain ⟨aC,bE,bF,bG,bH,bI,bJ,aD,aE,aF,aG,cW,aZ,av,cm,cq,dv,dw⟩:=aV.open_
 rw [av] at aV
 have cr:=cm.small
 have cu:=cq.small
 rw [av]
 refine ⟨_,rfl,fun dx ba=>?_⟩
 have aL:=aA.next_nil aU
 have al:=aA.frN aU
 refine qah [5,6,7] [8,9,10] [(3,.p 0 0),(5,.p 1 0),(6,.v (.int .i64 (Int.tmod (IntKind.i64.wrap x) 2))),(22,.v (.agg #[.int .i64 aC,.slice bI bE.length bJ,.bool bF,.slice aD bG.length aE,.slice aF bH.length aG])),(23,.v (.bool true))] aL ba fun dy bf=>?_
 refine qam (qaO aL bf (d:=7) (cs:=[.int .i64 0,.slice none 0 0,.bool false,.slice none 0 0,.slice none 0 0]) kz fun dA dB dC cX cY ab bg bh=>?_)
 refine qam (qay bg bh (oi:=2) (cs:=[.int .i64 aC,.slice bI bE.length bJ,.bool bF,.slice aD bG.length aE,.slice aF bH.length aG]) kz fun dD ac aM bi=>?_)
 refine qah [10] [] [(3,.p 0 0),(5,.p 1 0),(6,.v (.int .i64 (Int.tmod (IntKind.i64.wrap x) 2))),(7,.p 2 0),(8,.v (.bool true))] aM bi fun dE bj=>?_
 refine qae (qab ?_)
 refine qaI 19 kz aM fun dF ae am aw=>?_
 refine qaH [0,1,2,3,4,5,6,7] [(3,.p 0 0),(5,.p 1 0),(6,.v (.int .i64 (Int.tmod (IntKind.i64.wrap x) 2))),(7,.p 2 0),(31,.v (.bool (aC == (Int.tmod (IntKind.i64.wrap x) 2))))] 12 (qaa qaf) (fun _ h=>h.cells) aw bj fun dG aO=>?_
 refine (Bool.eq_false_or_eq_true (aC == (Int.tmod (IntKind.i64.wrap x) 2))).elim (fun af=>?_) (fun af=>?_)
 ·
  have cZ:aC = (Int.tmod (IntKind.i64.wrap x) 2):=by simpa using af
  have bk:=aO.cast (env':=[(3,.p 0 0),(5,.p 1 0),(6,.v (.int .i64 (Int.tmod (IntKind.i64.wrap x) 2))),(7,.p 2 0),(31,.v (.bool true))]) (by rw [af])
  refine qaH [8,9,10,11,12,14,15] [(31,.v (.bool true)),(33,.v (.slice aJ sConnectMemberMetadataF.length aK)),(34,.v (.int .i64 (Int.tmod (IntKind.i64.wrap x) 2))),(35,.v (.agg #[.slice aJ sConnectMemberMetadataF.length aK,.int .i64 qav])),(36,.v (.int .i64 (Int.tmod (IntKind.i64.wrap x) 2))),(38,.v (.agg #[.int .i64 n1,.slice A6 s2.length c7,.bool b3,.slice A8 l4.length c9,.slice aH u5.length aI])),(39,.v (.agg #[.int .i64 aC,.slice bI bE.length bJ,.bool bF,.slice aD bG.length aE,.slice aF bH.length aG]))] 5 (qaa qaf) (fun _ h=>h.cells) aw bk fun dH bn=>?_
  refine qaA (i:=13) kz (qai bn (f:=24) (vs:=[.agg #[.slice aJ sConnectMemberMetadataF.length aK,.int .i64 qav],.int .i64 (Int.tmod (IntKind.i64.wrap x) 2)]) (d:=37) kz Tryd.call24 (qcv _ _ _ _) ?_)
  rintro e_ dI ⟨rfl,aP⟩
  refine ⟨_,rfl,fun dJ bo=>?_⟩
  have ao:=am.next_nil aP
  have aa:=am.frN aP
  have bp:=TT.ofW aa ao
  refine ⟨fun _=>bp,?_⟩
  refine qaA (i:=16) kz (qai bo (f:=12) (vs:=[.agg #[.int .i64 aC,.slice bI bE.length bJ,.bool bF,.slice aD bG.length aE,.slice aF bH.length aG]]) (d:=40) kz Tryd.call12 (lGot _ _ _ _ _ (aV.move (((ab.trans ac).trans ae).trans aa).step immM (((ab.trans ac).trans ae).trans aa).to') (Nat.le_refl _)) ?_)
  rintro e_ dK ⟨c5,rfl,bq,ax⟩
  have ay:=bq.move (Step.refl _ Nil) nilM (ao.laid (G:=F) ax)
  obtain ⟨cw,cz,cA,cB,cC,cD,cE,cG,cH,cI,cJ,c6,da,az,cK,cL,dL,dM⟩:=ay.open_
  rw [az] at ay
  have cM:=cK.small
  have cN:=cL.small
  rw [az]
  refine ⟨_,rfl,fun dN bt=>?_⟩
  have aj:=ao.next_nil ax
  have ag:=ao.frN ax
  have bu:=TT.ofW (aa.trans ag) aj
  refine ⟨fun _=>bu,?_⟩
  refine qaA (i:=17) kz (qai bt (f:=23) (vs:=[.slice aJ sConnectMemberMetadataF.length aK,.int .i64 (Int.tmod (IntKind.i64.wrap x) 2),.bool false,.agg #[.int .i64 n1,.slice A6 s2.length c7,.bool b3,.slice A8 l4.length c9,.slice aH u5.length aI],.agg #[.int .i64 cw,.slice cD cz.length cE,.bool cA,.slice cG cB.length cH,.slice cI cC.length cJ]]) (d:=41) kz Tryd.call23 (qit (Int.tmod (IntKind.i64.wrap x) 2) (false) 8 _ _ sConnectMemberMetadataF _ (Tree.mk n1 s2 b3 l4 u5) _ (qgx (qaT cV) (IntKind.i64.wrap (Int.tmod (IntKind.i64.wrap x) 2))) _ _ ⟨aX,(cR.move ((((((((ah.trans ai).trans aB).trans al).trans ab).trans ac).trans ae).trans aa).trans ag).step immM ((((((((ah.trans ai).trans aB).trans al).trans ab).trans ac).trans ae).trans aa).trans ag).to'),(fun i_ x_ h_=>((cS i_ x_ h_).move ((((((((ah.trans ai).trans aB).trans al).trans ab).trans ac).trans ae).trans aa).trans ag).step immM ((((((((ah.trans ai).trans aB).trans al).trans ab).trans ac).trans ae).trans aa).trans ag).to'))⟩ (ht.move aj.step nilM aj.imm) ay qbR (hto cV ce)) ?_)
  rintro e_ dO ⟨rfl,aQ⟩
  refine ⟨_,rfl,fun dP bw=>?_⟩
  have ap:=aj.next_nil aQ
  have bx:=aj.frN aQ
  have aR:=TT.ofW ((aa.trans ag).trans bx) ap
  refine ⟨fun _=>aR,?_⟩
  refine qaH [18] [(42,.v (.bool true))] 1 (qaa qaf) (fun _ h=>h.cells) aR bw fun dQ bz=>?_
  refine qaA (i:=19) kz (qa6 [4] ap.cells bz (env':=[(4,.v (.bool true))]) kz fun dR bA=>?_)
  refine ⟨fun h=>absurd rfl h,?_⟩
  refine qaG kz ?_ _
  refine qab ?_
  refine wp_ret ?_
  refine qaD bA ap.cells (v:=.bool true) kz ?_
  exact ⟨rfl,ap.step⟩
 have db:aC ≠ (Int.tmod (IntKind.i64.wrap x) 2):=by simpa using af
 have bB:=aO.cast (env':=[(3,.p 0 0),(5,.p 1 0),(6,.v (.int .i64 (Int.tmod (IntKind.i64.wrap x) 2))),(7,.p 2 0),(31,.v (.bool false))]) (by rw [af])
 refine qaH [8,9,10,11,12,13,14,15,16,17,18] [(42,.v (.bool false))] 1 (qaa qaf) (fun _ h=>h.cells) aw bB fun dS bC=>?_
 refine qaA (i:=19) kz (qa6 [4] am.cells bC (env':=[(4,.v (.bool false))]) kz fun dT bD=>?_)
 refine ⟨fun h=>absurd rfl h,?_⟩
 refine qaG kz ?_ _
 refine qab ?_
 refine wp_ret ?_
 refine qaD bD am.cells (v:=.bool false) kz ?_
 exact absurd (show aC = (Int.tmod (IntKind.i64.wrap x) 2) from (congrArg Tree.N aZ).symm.trans (qjJ hvv)) (by simpa using af)
theorem qb4 (v:Int) (h0:0 ≤ v) (t Y:Tree) (hY:∀ i,Y.at_ i = (fitT v 8 sConnectMemberMetadataF t).at_ i) (hU:Y.U = (fitT v 8 sConnectMemberMetadataF t).U) (hi:t.i64s) (D:DV) (n:Int) (h:qaS v D Y):qhv v (false) 8 sConnectMemberMetadataF t (qgx (qaT D) n):=qce v h0 t Y hY hU hi D h
theorem qb5 (x:Int) (hx:0 ≤ x ∧ x ≤ 255) (ct:List Value) (t:Tree) (w:World) (F:Nat → Nat → Prop) (ht:TreeR w F ct t) (hi:t.i64s) (hsz:t.size ≤ 8388608):Calls Tryd.prog 6 #[.int .u8 x,.agg ct.toArray] w (qbD w (.bool true)):=by
 have hxw:IntKind.i64.wrap x = x:=wrap_i64 (by omega) (by omega)
 obtain ⟨g0,g1⟩:=qjm (m:=2) (x:=IntKind.i64.wrap x) (by rw [hxw]; exact hx.1) (by rw [hxw]; exact hx.2) (by decide) (by decide)
 have hvv:=qg7 g0 g1
 have hp:be 2 (Int.tmod (IntKind.i64.wrap x) 2) ++ qaj (Int.tmod (IntKind.i64.wrap x) 2) (fitT (Int.tmod (IntKind.i64.wrap x) 2) 8 sConnectMemberMetadataF t) = qdq 8 sConnectMemberMetadataF qav (Int.tmod (IntKind.i64.wrap x) 2) t:=by unfold qdq; rw [qcd (Int.tmod (IntKind.i64.wrap x) 2) g0 g1 t]
 have h1:=qhe 8 sConnectMemberMetadataF qav (Int.tmod (IntKind.i64.wrap x) 2) t
 have h2:qfv sConnectMemberMetadataF ≤ 131000:=by decide +kernel
 have h3:=Nat.mul_le_mul h2 hsz
 have h4:(qdq 8 sConnectMemberMetadataF qav (Int.tmod (IntKind.i64.wrap x) 2) t).length = 2 + (qbs 8 sConnectMemberMetadataF qav (Int.tmod (IntKind.i64.wrap x) 2) t).length:=by unfold qdq; rw [List.length_append,be_length]
 exact qcm x hx.1 (by omega) ct t w F ht (by rw [h4]; omega) (qb2 (Int.tmod (IntKind.i64.wrap x) 2) t) (qgo _ _ _ _ ht.ranged) hp hvv (fun D h=>qb4 (Int.tmod (IntKind.i64.wrap x) 2) g0 t _ (fun _=>rfl) rfl hi D _ h)
end Go.Proofs.YtajibgahdkllkaaDoorR.ME