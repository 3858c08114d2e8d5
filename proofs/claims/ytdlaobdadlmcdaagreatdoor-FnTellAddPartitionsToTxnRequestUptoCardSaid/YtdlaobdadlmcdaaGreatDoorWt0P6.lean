/- The texts of a claim, put together: the engine, the contracts, the law. Own work. -/
import Derived.Test.YtdlaobdadlmcdaaGreatDoorWt0P5
namespace Go.Proofs.YtdlaobdadlmcdaaGreatDoor.ME
open Go
open Go.RowKit
set_option linter.unusedVariables false
set_option linter.unusedSimpArgs false
set_option maxRecDepth 20000
theorem qgL (k n:Int) (w:World):Calls Tryz.prog 69 #[.int .i64 k,.int .i64 n] w (qcs w (.int .i64 (qbx k n))):=by
 refine enter (n:=31) Tryz.func69 rfl Tryz.ntmps69 kz fun a hE=>?_
 have hW:=WOk.start w Nil
 refine qas [(0,.v (.int .i64 k)),(1,.v (.int .i64 n))] hW hE fun a1 hE2=>?_
 refine wp_seq (qas [(1,.v (.int .i64 n)),(5,.v (.int .i64 k))] hW hE2 fun a3 hE4=>?_)
 refine wp_block (qas [(1,.v (.int .i64 n)),(5,.v (.int .i64 k)),(6,.v (.bool (k == 0)))] hW hE4 fun a5 hE6=>?_)
 refine qaw hE6 (b:=k == 0) kz (fun hc7=>?_) (fun hc7=>?_)
 ·
  have hf8:k = 0:=by simpa using hc7
  refine qas [(4,.v (.int .i64 (IntKind.i64.wrap (zB 64 n &&& zB 64 1).toNat)))] hW hE6 fun a9 aj=>?_
  refine wp_ret (qay (qat (qaM aj hW.cells (v:=.int .i64 (IntKind.i64.wrap (zB 64 n &&& zB 64 1).toNat)) kz ?_)))
  exact ⟨by (try simp only [and1]); simp_all [qbx,qiI,qfd,qfe,qfa],hW.step⟩
 have ar:k ≠ 0:=by simpa using hc7
 refine qas [(1,.v (.int .i64 n)),(5,.v (.int .i64 k)),(10,.v (.bool (k == 1)))] hW hE6 fun aC aa=>?_
 refine qaw aa (b:=k == 1) kz (fun ab=>?_) (fun ab=>?_)
 ·
  have au:k = 1:=by simpa using ab
  refine qas [(4,.v (.int .i64 (IntKind.i64.wrap (IntKind.i8.wrap n))))] hW aa fun aD ak=>?_
  refine wp_ret (qay (qat (qaM ak hW.cells (v:=.int .i64 (IntKind.i64.wrap (IntKind.i8.wrap n))) kz ?_)))
  exact ⟨by (try simp only [and1]); simp_all [qbx,qiI,qfd,qfe,qfa],hW.step⟩
 have av:k ≠ 1:=by simpa using ab
 refine qas [(1,.v (.int .i64 n)),(5,.v (.int .i64 k)),(15,.v (.bool (k == 2)))] hW aa fun aE ac=>?_
 refine qaw ac (b:=k == 2) kz (fun ae=>?_) (fun ae=>?_)
 ·
  have aw:k = 2:=by simpa using ae
  refine qas [(4,.v (.int .i64 (IntKind.i64.wrap (IntKind.i16.wrap n))))] hW ac fun aF al=>?_
  refine wp_ret (qay (qat (qaM al hW.cells (v:=.int .i64 (IntKind.i64.wrap (IntKind.i16.wrap n))) kz ?_)))
  exact ⟨by (try simp only [and1]); simp_all [qbx,qiI,qfd,qfe,qfa],hW.step⟩
 have ax:k ≠ 2:=by simpa using ae
 refine qas [(1,.v (.int .i64 n)),(5,.v (.int .i64 k)),(20,.v (.bool (k == 3)))] hW ac fun aG af=>?_
 refine qaw af (b:=k == 3) kz (fun ag=>?_) (fun ag=>?_)
 ·
  have ay:k = 3:=by simpa using ag
  refine qas [(4,.v (.int .i64 (IntKind.i64.wrap (IntKind.i32.wrap n))))] hW af fun aH am=>?_
  refine wp_ret (qay (qat (qaM am hW.cells (v:=.int .i64 (IntKind.i64.wrap (IntKind.i32.wrap n))) kz ?_)))
  exact ⟨by (try simp only [and1]); simp_all [qbx,qiI,qfd,qfe,qfa],hW.step⟩
 have az:k ≠ 3:=by simpa using ag
 refine qas [(1,.v (.int .i64 n)),(25,.v (.bool (k == 5)))] hW af fun aI ah=>?_
 refine qaw ah (b:=k == 5) kz (fun ai=>?_) (fun ai=>?_)
 ·
  have aA:k = 5:=by simpa using ai
  refine qas [(4,.v (.int .i64 (IntKind.i64.wrap (IntKind.u16.wrap n))))] hW ah fun aJ ao=>?_
  refine wp_ret (qay (qat (qaM ao hW.cells (v:=.int .i64 (IntKind.i64.wrap (IntKind.u16.wrap n))) kz ?_)))
  exact ⟨by (try simp only [and1]); simp_all [qbx,qiI,qfd,qfe,qfa],hW.step⟩
 have aB:k ≠ 5:=by simpa using ai
 refine wp_skip (qar (qab (qas [(4,.v (.int .i64 n))] hW ah fun aK ap=>?_)))
 refine wp_ret (qaM ap hW.cells (v:=.int .i64 n) kz ?_)
 exact ⟨by (try simp only [and1]); simp_all [qbx,qiI,qfd,qfe,qfa],hW.step⟩
def UsOK (U:List Fld → Tree → Prop):Prop:=∀ (A:Option Addr) (c:Nat) (l:List Fld) (ct:List Value) (g:Tree) (w:World) (F:Nat → Nat → Prop),FldsR w F A c l → TreeR w F ct g → U l g →
  Calls Tryz.prog 34 #[.slice A l.length c,.agg ct.toArray] w (qcs w (.bool true))
abbrev z35 (x0) (x1) (x2) (x3):=([(3,.p 0 0),(12,.v (.slice x0 x1 x2)),(13,.v (.int .i64 ((x1:Nat):Int))),(14,.v (.int .i64 ((x3:Nat):Int))),(87,.v (.bool false))]:Env)
abbrev z97 (x0) (x1) (x2) (x3):=([(3,.p 0 0),(12,.v (.slice x0 x1 x2)),(13,.v (.int .i64 ((x1:Nat):Int))),(14,.v (.int .i64 ((x3:Nat):Int))),(65,.v (.bool true))]:Env)
theorem sUs {U:List Fld → Tree → Prop} (hu:UsOK U) (A:Option Addr) (c:Nat) (l:List Fld) (ct:List Value) (g:Tree) (w:World) (F:Nat → Nat → Prop) (hl:FldsR w F A c l) (ht:TreeR w F ct g) (hU:UsP U l g) :
  Calls Tryz.prog 34 #[.slice A l.length c,.agg ct.toArray] w (qcs w (.bool true)):=by
 obtain ⟨xfs,h1,h2⟩:=hl.ex
 have hsm:=h1.small
 obtain ⟨n1,s2,b3,l4,u5,A6,c7,A8,c9,aJ,aK,fT,rfl,rfl,fU,fV,iD,iE⟩:=ht.open_
 have e9:=fU.small
 have fa:=fV.small
 refine enter (n:=89) Tryz.func34 rfl Tryz.ntmps34 kz fun a hE=>?_
 have hW:=WOk.start w Nil
 refine qaf [0,1] kz ?_
 refine qal (qbq hW hE (d:=3) (cs:=(z1 n1 A6 s2.length c7 b3 A8 l4.length c9 aJ u5.length aK)) kz fun bz iF iG fW fX fY aA eG=>?_)
 refine qai [1] [] [(0,.v (.slice A l.length c)),(3,.p 0 0)] aA eG fun iH eH=>?_
 refine qae (qab ?_)
 refine wp_seq (qas [(0,.v (.slice A l.length c)),(3,.p 0 0),(11,.v (.bool (decide (((u5.length:Nat):Int) > 0))))] aA eH fun iI cD=>?_)
 refine qaw cD (b:=decide (((u5.length:Nat):Int) > 0)) kz (fun cE=>?_) (fun cE=>?_)
 ·
  have fZ:=zD cE
  refine qas [(4,.v (.bool false))] aA cD fun iJ eI=>?_
  refine wp_ret (qat (qaM eI aA.cells (v:=.bool false) kz ?_))
  exact (us_u (g:=(Tree.mk n1 s2 b3 l4 u5)) hU.1 rfl ‹_›).elim
 have f5:=zF cE
 refine wp_skip (qab (wp_seq (qas [(3,.p 0 0),(12,.v (.slice A l.length c)),(13,.v (.int .i64 ((l.length:Nat):Int))),(14,.v (.int .i64 0))] aA cD fun iK eJ=>?_)))
 refine wp_block (wp_loop_ghost (fun n_ a_ w_=>∃ (k:Nat),n_ = l.length - k ∧ k ≤ l.length ∧ LInv aA 89 [⟨bz,0,[.int .i64 n1,.slice A6 s2.length c7,.bool b3,.slice A8 l4.length c9,.slice aJ u5.length aK],true⟩] [] [(3,.p 0 0),(12,.v (.slice A l.length c)),(13,.v (.int .i64 ((l.length:Nat):Int))),(14,.v (.int .i64 ((k:Nat):Int)))] a_ w_) (l.length) ⟨0,by omega,by omega,eJ.pk,aA,Fr.refl _ _ _⟩ ?_)
 rintro iL iM iN ⟨k,f7,f8,eK,aB,aj⟩
 refine qas [(3,.p 0 0),(12,.v (.slice A l.length c)),(13,.v (.int .i64 ((l.length:Nat):Int))),(14,.v (.int .i64 ((k:Nat):Int))),(15,.v (.bool (decide (((k:Nat):Int) < ((l.length:Nat):Int)))))] aB eK fun iO cG=>?_
 refine wp_seq (qaw cG (b:=decide (((k:Nat):Int) < ((l.length:Nat):Int))) kz (fun cH=>?_) (fun cH=>?_))
 ·
  have f9:=zD cH
  refine wp_skip (qab (wp_seq (wp_block (qaf [0,1,2,3,4,5] kz ?_))))
  refine qai [0] [1,2,3,4,5] [(3,.p 0 0),(12,.v (.slice A l.length c)),(13,.v (.int .i64 ((l.length:Nat):Int))),(14,.v (.int .i64 ((k:Nat):Int))),(16,.v (.int .i64 ((k:Nat):Int)))] aB cG fun iP eL=>?_
  obtain ⟨ga,gb,eM,gc,bB⟩:=Slots.get h1 (i:=k) (by omega)
  obtain ⟨gd,cI⟩:∃ x,l[k]? = some x:=⟨_,List.getElem?_eq_getElem (by omega)⟩
  have cJ:=h2 k gd cI
  obtain ⟨ae,eC,eD,aE,eE,aM,eF,bA,bC,bD,cK,rfl,bE,eN,fb⟩:=cJ.open_
  rw [bE] at cJ
  have fe:=eN.small
  rw [bE] at bB
  refine qal (qax eL (t:=29) (A:=A) (m:=l.length) (q:=((k:Nat):Int)) (d:=17) kz (e:=51) (size:=8) (bytes:=80) kz eM rfl (by omega) fun iQ eO=>?_)
  refine qal (qaU eO (t:=51) (b:=ga) (o:=gb + k * 8) (d:=18) kz (cs:=(z7 ae eC eD aE eE aM eF bC bA.length bD)) (v:=.agg #[.int .i64 ae,.int .i64 eC,.int .i64 eD,.int .i64 aE,.int .i64 eE,.int .i64 aM,.int .i64 eF,.slice bC bA.length bD]) kz (AtF.move bB aB.step nilM qa9).at_ fun iR eP=>?_)
  refine qal (qaQ aB eP (d:=6) (cs:=z15) kz fun iS iT iU ge gg ak cL eQ=>?_)
  refine qai [4] [5] [(3,.p 0 0),(5,.v (.int .i64 ((k:Nat):Int))),(6,.p 1 0),(12,.v (.slice A l.length c)),(13,.v (.int .i64 ((l.length:Nat):Int))),(14,.v (.int .i64 ((k:Nat):Int))),(18,.v (.agg #[.int .i64 ae,.int .i64 eC,.int .i64 eD,.int .i64 aE,.int .i64 eE,.int .i64 aM,.int .i64 eF,.slice bC bA.length bD]))] cL eQ fun iV eR=>?_
  refine qal (qao cL eR (oi:=1) (cs:=(z7 ae eC eD aE eE aM eF bC bA.length bD)) kz fun iW al aL eS=>?_)
  refine qae (qab ?_)
  refine qaf [0,1,2,3,4] kz ?_
  refine qai [0,1] [2,3,4] [(3,.p 0 0),(6,.p 1 0),(12,.v (.slice A l.length c)),(13,.v (.int .i64 ((l.length:Nat):Int))),(14,.v (.int .i64 ((k:Nat):Int))),(19,.v (.agg #[.int .i64 n1,.slice A6 s2.length c7,.bool b3,.slice A8 l4.length c9,.slice aJ u5.length aK])),(20,.v (.int .i64 ((k:Nat):Int)))] aL eS fun iX eU=>?_
  refine qal (qak eU (f:=30) (vs:=[.agg #[.int .i64 n1,.slice A6 s2.length c7,.bool b3,.slice A8 l4.length c9,.slice aJ u5.length aK],.int .i64 ((k:Nat):Int)]) (d:=21) kz Tryz.call30 (sAt _ _ k _ _ (ht.move aL.step nilM aL.imm)) ?_)
  rintro e_ gh ⟨gi,rfl,eV,aN⟩
  have aF:=eV.move aN nilM (fun b o h_ hb_=>aL.laid (G:=F) aN b o (.inl h_) (Nat.lt_of_lt_of_le hb_ aN.size))
  obtain ⟨ai,af,ah,am,aO,aC,aD,aP,aQ,aR,aS,ff,aT,aU,cM,eW,gj,gk⟩:=aF.open_
  rw [aU] at aF
  have eX:=cM.small
  have eY:=eW.small
  rw [aU]
  refine ⟨_,rfl,fun gl cN=>?_⟩
  have cO:=aL.next_nil aN
  have ag:=aL.frN aN
  have hq_:=hU.2 k _ cI
  rw [aT] at hq_
  refine qal (qaQ cO cN (d:=7) (cs:=z0) kz fun gm gn gp fg fh ab cP cQ=>?_)
  refine qal (qao cP cQ (oi:=2) (cs:=(z1 ai aC af.length aD ah aP am.length aQ aR aO.length aS)) kz fun gq ac aa cR=>?_)
  refine qae (qab ?_)
  refine qas [(3,.p 0 0),(6,.p 1 0),(7,.p 2 0),(12,.v (.slice A l.length c)),(13,.v (.int .i64 ((l.length:Nat):Int))),(14,.v (.int .i64 ((k:Nat):Int))),(23,.v (.int .i64 ae))] aa cR fun gt cS=>?_
  refine wp_block (qas [(3,.p 0 0),(6,.p 1 0),(7,.p 2 0),(12,.v (.slice A l.length c)),(13,.v (.int .i64 ((l.length:Nat):Int))),(14,.v (.int .i64 ((k:Nat):Int))),(23,.v (.int .i64 ae)),(32,.v (.bool (ae == 8)))] aa cS fun gv aV=>?_)
  refine qaw aV (b:=ae == 8) kz (fun aW=>?_) (fun aW=>?_)
  ·
   have fi:ae = 8:=by simpa using aW
   refine qaf [0,1,2,3,4,5,6,7,8,9,10,11] kz ?_
   refine qai [0,1,2,3,4,5,6] [7,8,9,10,11] [(3,.p 0 0),(7,.p 2 0),(12,.v (.slice A l.length c)),(13,.v (.int .i64 ((l.length:Nat):Int))),(14,.v (.int .i64 ((k:Nat):Int))),(40,.v (.bool (!(ah == (decide (aE ≥ 0))))))] aa aV fun gw bF=>?_
   refine (zO (!(ah == (decide (aE ≥ 0))))).elim (fun ao=>?_) (fun ao=>?_)
   ·
    have fj:!(ah = (decide (aE ≥ 0))):=by simpa using ao
    have cT:=bF
    rw [ao] at cT
    refine qai [7,8,9,10,11] [] [(3,.p 0 0),(12,.v (.slice A l.length c)),(13,.v (.int .i64 ((l.length:Nat):Int))),(14,.v (.int .i64 ((k:Nat):Int))),(45,.v (.bool true))] aa cT fun gx bG=>?_
    refine qae (qab ?_)
    refine qa7 bG (b:=true) kz rfl ?_
    refine qas [(4,.v (.bool false))] aa bG fun gy cU=>?_
    refine wp_ret (qay (qay (qat (qat (qay (qat (qaM cU aa.cells (v:=.bool false) kz ?_)))))))
    first
     | exact (qgD hq_ ‹_› ‹_›).elim
     | exact (qgE hq_ ‹_› ‹_›).elim
     | exact (us_7 hq_ ‹_› ‹_›).elim
     | exact (qgF hq_ ‹_› ‹_›).elim
     | exact (qgG hq_ ‹_› ‹_›).elim
     | exact (qeR hq_ ‹_› ‹_›).elim
     | exact (qeS hq_ ‹_› ‹_›).elim
     | exact (qgH hq_ ‹_› ‹_› ‹_›).elim
     | exact (us_n hq_ ‹_› ‹_› ‹_› ‹_› ‹_› ‹_›).elim
   have fk:!(ah ≠ (decide (aE ≥ 0))):=by simpa using ao
   have cV:=bF
   rw [ao] at cV
   refine qai [7,8,9,10,11] [] [(3,.p 0 0),(12,.v (.slice A l.length c)),(13,.v (.int .i64 ((l.length:Nat):Int))),(14,.v (.int .i64 ((k:Nat):Int))),(45,.v (.bool (decide (((af.length:Nat):Int) > 0))))] aa cV fun gz aX=>?_
   refine qae (qab ?_)
   refine qaw aX (b:=decide (((af.length:Nat):Int) > 0)) kz (fun aY=>?_) (fun aY=>?_)
   ·
    have fm:=zD aY
    refine qas [(4,.v (.bool false))] aa aX fun gA cW=>?_
    refine wp_ret (qay (qay (qat (qat (qay (qat (qaM cW aa.cells (v:=.bool false) kz ?_)))))))
    first
     | exact (qgD hq_ ‹_› ‹_›).elim
     | exact (qgE hq_ ‹_› ‹_›).elim
     | exact (us_7 hq_ ‹_› ‹_›).elim
     | exact (qgF hq_ ‹_› ‹_›).elim
     | exact (qgG hq_ ‹_› ‹_›).elim
     | exact (qeR hq_ ‹_› ‹_›).elim
     | exact (qeS hq_ ‹_› ‹_›).elim
     | exact (qgH hq_ ‹_› ‹_› ‹_›).elim
     | exact (us_n hq_ ‹_› ‹_› ‹_› ‹_› ‹_› ‹_›).elim
   have fo:=zF aY
   refine wp_skip (qar (qar (qab (qap [0,1] kz ?_))))
   refine qai [0,1] [] [(3,.p 0 0),(12,.v (.slice A l.length c)),(13,.v (.int .i64 ((l.length:Nat):Int))),(14,.v (.int .i64 (IntKind.i64.wrap (((k:Nat):Int) + 1))))] aa aX fun gB cX=>?_
   refine qae (qab ?_)
   obtain ⟨bH,cY,cZ⟩:=aa.cutB cX 1 (z99 bz n1 A6 s2.length c7 b3 A8 l4.length c9 aJ u5.length aK) [(3,.p 0 0),(12,.v (.slice A l.length c)),(13,.v (.int .i64 ((l.length:Nat):Int))),(14,.v (.int .i64 (IntKind.i64.wrap (((k:Nat):Int) + 1))))]
   have c5:IntKind.i64.wrap (((k:Nat):Int) + 1) = ((k + 1:Nat):Int):=qaO (by omega)
   rw [c5] at bH
   exact ⟨l.length - (k + 1),by omega,k + 1,rfl,by omega,bH.pk,cY,((((((aj.trans ak).trans al).trans ag).trans ab).trans ac).trans cZ)⟩
  have fq:ae ≠ 8:=by simpa using aW
  refine qas [(3,.p 0 0),(6,.p 1 0),(7,.p 2 0),(12,.v (.slice A l.length c)),(13,.v (.int .i64 ((l.length:Nat):Int))),(14,.v (.int .i64 ((k:Nat):Int))),(23,.v (.int .i64 ae)),(46,.v (.bool (ae == 7)))] aa aV fun gC aZ=>?_
  refine qaw aZ (b:=ae == 7) kz (fun ba=>?_) (fun ba=>?_)
  ·
   have fr:ae = 7:=by simpa using ba
   refine qaE 5 kz aa fun gD bd c6 da=>?_
   refine qaB [0,1] [(3,.p 0 0),(12,.v (.slice A l.length c)),(13,.v (.int .i64 ((l.length:Nat):Int))),(14,.v (.int .i64 ((k:Nat):Int))),(49,.v (.slice aC af.length aD))] 3 (qaa (qac (qac (qaa (qaa (qac (qaa qad))))))) (fun _ h=>h.cells) da aZ fun gE db=>?_
   refine qam (i:=2) kz (qcK c6 db (d:=50) (j:=16) (t:=22) (e:=5) (bytes:=1) (z:=.int .u8 0) kz kz kz kz (rfl) (rfl) (by omega) fun eZ gF gG ft fu ap aG dc=>?_)
   have de:=TT.ofW ap aG
   refine ⟨fun _=>de,?_⟩
   refine qam (i:=3) kz (qak dc (f:=36) (vs:=[.slice aC af.length aD,.slice (some ⟨eZ,0,none⟩) 16 16]) (d:=51) kz Tryz.call36 (qer _ _ _ _ af (List.replicate 16 0:Bs) _ _ ((cM.move (((ab.trans ac).trans bd).trans ap).step immM (((ab.trans ac).trans bd).trans ap).to').move (Step.refl _ Nil) nilM allF) (qjP (aG.own 0 _ rfl) (F:=fun _ _=>True) (fun _ _ _=>trivial))) ?_)
   rintro e_ gH ⟨rfl,bI⟩
   refine ⟨_,rfl,fun gI df=>?_⟩
   have ar:=aG.next_nil bI
   have bJ:=aG.frN bI
   have bK:=TT.ofW (ap.trans bJ) ar
   refine ⟨fun _=>bK,?_⟩
   refine qaB [4] [(3,.p 0 0),(12,.v (.slice A l.length c)),(13,.v (.int .i64 ((l.length:Nat):Int))),(14,.v (.int .i64 ((k:Nat):Int))),(52,.v (.bool (!(decide (af = (List.replicate 16 0:Bs))))))] 0 (qaa (qac (qac (qaa (qaa (qac (qaa qad))))))) (fun _ h=>h.cells) bK df fun gJ bf=>?_
   refine qaz kz ?_ _
   refine qab (qaw bf (b:=!(decide (af = (List.replicate 16 0:Bs)))) kz (fun dg=>?_) (fun dg=>?_))
   ·
    refine qas [(4,.v (.bool false))] ar bf fun gK dh=>?_
    refine wp_ret (qay (qay (qat (qat (qay (qat (qaM dh ar.cells (v:=.bool false) kz ?_)))))))
    first
     | exact (qgD hq_ ‹_› ‹_›).elim
     | exact (qgE hq_ ‹_› ‹_›).elim
     | exact (us_7 hq_ ‹_› ‹_›).elim
     | exact (qgF hq_ ‹_› ‹_›).elim
     | exact (qgG hq_ ‹_› ‹_›).elim
     | exact (qeR hq_ ‹_› ‹_›).elim
     | exact (qeS hq_ ‹_› ‹_›).elim
     | exact (qgH hq_ ‹_› ‹_› ‹_›).elim
     | exact (us_n hq_ ‹_› ‹_› ‹_› ‹_› ‹_› ‹_›).elim
   refine wp_skip (qar (qar (qab (qap [0,1] kz ?_))))
   refine qai [0,1] [] [(3,.p 0 0),(12,.v (.slice A l.length c)),(13,.v (.int .i64 ((l.length:Nat):Int))),(14,.v (.int .i64 (IntKind.i64.wrap (((k:Nat):Int) + 1))))] ar bf fun gL di=>?_
   refine qae (qab ?_)
   obtain ⟨bL,dj,dl⟩:=ar.cutB di 1 (z99 bz n1 A6 s2.length c7 b3 A8 l4.length c9 aJ u5.length aK) [(3,.p 0 0),(12,.v (.slice A l.length c)),(13,.v (.int .i64 ((l.length:Nat):Int))),(14,.v (.int .i64 (IntKind.i64.wrap (((k:Nat):Int) + 1))))]
   obtain ⟨dp,dq⟩:=dj.cutR 0 []
   have dr:IntKind.i64.wrap (((k:Nat):Int) + 1) = ((k + 1:Nat):Int):=qaO (by omega)
   rw [dr] at bL
   exact ⟨l.length - (k + 1),by omega,k + 1,rfl,by omega,bL.pk,dp,((((((((((aj.trans ak).trans al).trans ag).trans ab).trans ac).trans bd).trans ap).trans bJ).trans dl).trans dq)⟩
  have fv:ae ≠ 7:=by simpa using ba
  refine wp_seq (qas [(3,.p 0 0),(6,.p 1 0),(7,.p 2 0),(12,.v (.slice A l.length c)),(13,.v (.int .i64 ((l.length:Nat):Int))),(14,.v (.int .i64 ((k:Nat):Int))),(23,.v (.int .i64 ae)),(53,.v (.bool (ae == 9)))] aa aZ fun gM aH=>?_)
  refine qaw aH (b:=ae == 9) kz (fun aI=>?_) (fun aI=>?_)
  ·
   have fw:ae = 9:=by simpa using aI
   refine wp_skip (qab (qa7 aH (b:=ae == 9) kz (aI) ?_))
   refine qaf [0,1,2,3,4,5,6,7,8,9] kz ?_
   refine qai [0,1,2,3,4] [5,6,7,8,9] [(3,.p 0 0),(7,.p 2 0),(12,.v (.slice A l.length c)),(13,.v (.int .i64 ((l.length:Nat):Int))),(14,.v (.int .i64 ((k:Nat):Int))),(60,.v (.bool (decide (((af.length:Nat):Int) > 0))))] aa aH fun gN bM=>?_
   refine (zO (decide (((af.length:Nat):Int) > 0))).elim (fun au=>?_) (fun au=>?_)
   ·
    have fx:=zD au
    have dt:=bM
    rw [au] at dt
    refine qai [5,6,7,8,9] [] (z97 A l.length c k) aa dt fun gO bN=>?_
    refine qae (qab ?_)
    refine qa7 bN (b:=true) kz rfl ?_
    refine qas [(4,.v (.bool false))] aa bN fun gP du=>?_
    refine wp_ret (qay (qay (qat (qat (qay (qat (qaM du aa.cells (v:=.bool false) kz ?_)))))))
    first
     | exact (qgD hq_ ‹_› ‹_›).elim
     | exact (qgE hq_ ‹_› ‹_›).elim
     | exact (us_7 hq_ ‹_› ‹_›).elim
     | exact (qgF hq_ ‹_› ‹_›).elim
     | exact (qgG hq_ ‹_› ‹_›).elim
     | exact (qeR hq_ ‹_› ‹_›).elim
     | exact (qeS hq_ ‹_› ‹_›).elim
     | exact (qgH hq_ ‹_› ‹_› ‹_›).elim
     | exact (us_n hq_ ‹_› ‹_› ‹_› ‹_› ‹_› ‹_›).elim
   have fy:=zF au
   have dv:=bM
   rw [au] at dv
   refine qai [5,6,7,8,9] [] [(3,.p 0 0),(12,.v (.slice A l.length c)),(13,.v (.int .i64 ((l.length:Nat):Int))),(14,.v (.int .i64 ((k:Nat):Int))),(65,.v (.bool (decide (((am.length:Nat):Int) > 0))))] aa dv fun gQ bg=>?_
   refine qae (qab ?_)
   refine qaw bg (b:=decide (((am.length:Nat):Int) > 0)) kz (fun bh=>?_) (fun bh=>?_)
   ·
    have fz:=zD bh
    refine qas [(4,.v (.bool false))] aa bg fun gR dw=>?_
    refine wp_ret (qay (qay (qat (qat (qay (qat (qaM dw aa.cells (v:=.bool false) kz ?_)))))))
    first
     | exact (qgD hq_ ‹_› ‹_›).elim
     | exact (qgE hq_ ‹_› ‹_›).elim
     | exact (us_7 hq_ ‹_› ‹_›).elim
     | exact (qgF hq_ ‹_› ‹_›).elim
     | exact (qgG hq_ ‹_› ‹_›).elim
     | exact (qeR hq_ ‹_› ‹_›).elim
     | exact (qeS hq_ ‹_› ‹_›).elim
     | exact (qgH hq_ ‹_› ‹_› ‹_›).elim
     | exact (us_n hq_ ‹_› ‹_› ‹_› ‹_› ‹_› ‹_›).elim
   have fA:=zF bh
   refine wp_skip (qar (qar (qab (qap [0,1] kz ?_))))
   refine qai [0,1] [] [(3,.p 0 0),(12,.v (.slice A l.length c)),(13,.v (.int .i64 ((l.length:Nat):Int))),(14,.v (.int .i64 (IntKind.i64.wrap (((k:Nat):Int) + 1))))] aa bg fun gS dx=>?_
   refine qae (qab ?_)
   obtain ⟨bO,dy,dz⟩:=aa.cutB dx 1 (z99 bz n1 A6 s2.length c7 b3 A8 l4.length c9 aJ u5.length aK) [(3,.p 0 0),(12,.v (.slice A l.length c)),(13,.v (.int .i64 ((l.length:Nat):Int))),(14,.v (.int .i64 (IntKind.i64.wrap (((k:Nat):Int) + 1))))]
   have dA:IntKind.i64.wrap (((k:Nat):Int) + 1) = ((k + 1:Nat):Int):=qaO (by omega)
   rw [dA] at bO
   exact ⟨l.length - (k + 1),by omega,k + 1,rfl,by omega,bO.pk,dy,((((((aj.trans ak).trans al).trans ag).trans ab).trans ac).trans dz)⟩
  have fB:ae ≠ 9:=by simpa using aI
  refine qap [0,1] kz ?_
  refine qai [0,1] [] [(3,.p 0 0),(6,.p 1 0),(7,.p 2 0),(12,.v (.slice A l.length c)),(13,.v (.int .i64 ((l.length:Nat):Int))),(14,.v (.int .i64 ((k:Nat):Int))),(23,.v (.int .i64 ae)),(53,.v (.bool (ae == 11)))] aa aH fun gT bi=>?_
  refine qae (qab ?_)
  refine qaw bi (b:=ae == 11) kz (fun bj=>?_) (fun bj=>?_)
  ·
   have fC:ae = 11:=by simpa using bj
   refine qaf [0,1,2,3,4,5,6,7,8,9] kz ?_
   refine qai [0,1,2,3,4] [5,6,7,8,9] [(3,.p 0 0),(7,.p 2 0),(12,.v (.slice A l.length c)),(13,.v (.int .i64 ((l.length:Nat):Int))),(14,.v (.int .i64 ((k:Nat):Int))),(60,.v (.bool (decide (((af.length:Nat):Int) > 0))))] aa bi fun gU bP=>?_
   refine (zO (decide (((af.length:Nat):Int) > 0))).elim (fun av=>?_) (fun av=>?_)
   ·
    have fD:=zD av
    have dB:=bP
    rw [av] at dB
    refine qai [5,6,7,8,9] [] (z97 A l.length c k) aa dB fun gV bQ=>?_
    refine qae (qab ?_)
    refine qa7 bQ (b:=true) kz rfl ?_
    refine qas [(4,.v (.bool false))] aa bQ fun gW dC=>?_
    refine wp_ret (qay (qay (qat (qat (qay (qat (qaM dC aa.cells (v:=.bool false) kz ?_)))))))
    first
     | exact (qgD hq_ ‹_› ‹_›).elim
     | exact (qgE hq_ ‹_› ‹_›).elim
     | exact (us_7 hq_ ‹_› ‹_›).elim
     | exact (qgF hq_ ‹_› ‹_›).elim
     | exact (qgG hq_ ‹_› ‹_›).elim
     | exact (qeR hq_ ‹_› ‹_›).elim
     | exact (qeS hq_ ‹_› ‹_›).elim
     | exact (qgH hq_ ‹_› ‹_› ‹_›).elim
     | exact (us_n hq_ ‹_› ‹_› ‹_› ‹_› ‹_› ‹_›).elim
   have fE:=zF av
   have dD:=bP
   rw [av] at dD
   refine qai [5,6,7,8,9] [] [(3,.p 0 0),(12,.v (.slice A l.length c)),(13,.v (.int .i64 ((l.length:Nat):Int))),(14,.v (.int .i64 ((k:Nat):Int))),(65,.v (.bool (decide (((am.length:Nat):Int) > 0))))] aa dD fun gX bk=>?_
   refine qae (qab ?_)
   refine qaw bk (b:=decide (((am.length:Nat):Int) > 0)) kz (fun bn=>?_) (fun bn=>?_)
   ·
    have fF:=zD bn
    refine qas [(4,.v (.bool false))] aa bk fun gY dE=>?_
    refine wp_ret (qay (qay (qat (qat (qay (qat (qaM dE aa.cells (v:=.bool false) kz ?_)))))))
    first
     | exact (qgD hq_ ‹_› ‹_›).elim
     | exact (qgE hq_ ‹_› ‹_›).elim
     | exact (us_7 hq_ ‹_› ‹_›).elim
     | exact (qgF hq_ ‹_› ‹_›).elim
     | exact (qgG hq_ ‹_› ‹_›).elim
     | exact (qeR hq_ ‹_› ‹_›).elim
     | exact (qeS hq_ ‹_› ‹_›).elim
     | exact (qgH hq_ ‹_› ‹_› ‹_›).elim
     | exact (us_n hq_ ‹_› ‹_› ‹_› ‹_› ‹_› ‹_›).elim
   have fG:=zF bn
   refine wp_skip (qar (qar (qab (qap [0,1] kz ?_))))
   refine qai [0,1] [] [(3,.p 0 0),(12,.v (.slice A l.length c)),(13,.v (.int .i64 ((l.length:Nat):Int))),(14,.v (.int .i64 (IntKind.i64.wrap (((k:Nat):Int) + 1))))] aa bk fun gZ dF=>?_
   refine qae (qab ?_)
   obtain ⟨bR,dG,dH⟩:=aa.cutB dF 1 (z99 bz n1 A6 s2.length c7 b3 A8 l4.length c9 aJ u5.length aK) [(3,.p 0 0),(12,.v (.slice A l.length c)),(13,.v (.int .i64 ((l.length:Nat):Int))),(14,.v (.int .i64 (IntKind.i64.wrap (((k:Nat):Int) + 1))))]
   have dI:IntKind.i64.wrap (((k:Nat):Int) + 1) = ((k + 1:Nat):Int):=qaO (by omega)
   rw [dI] at bR
   exact ⟨l.length - (k + 1),by omega,k + 1,rfl,by omega,bR.pk,dG,((((((aj.trans ak).trans al).trans ag).trans ab).trans ac).trans dH)⟩
  have fH:ae ≠ 11:=by simpa using bj
  refine qas [(3,.p 0 0),(6,.p 1 0),(7,.p 2 0),(12,.v (.slice A l.length c)),(13,.v (.int .i64 ((l.length:Nat):Int))),(14,.v (.int .i64 ((k:Nat):Int))),(66,.v (.bool (ae == 10)))] aa bi fun g7 bo=>?_
  refine qaw bo (b:=ae == 10) kz (fun bp=>?_) (fun bp=>?_)
  ·
   have fI:ae = 10:=by simpa using bp
   refine qaf [0,1,2,3,4,5,6,7,8,9,10,11,12,13,14,15,16,17,18,19] kz ?_
   refine qai [0,1,2,3] [4,5,6,7,8,9,10,11,12,13,14,15,16,17,18,19] [(3,.p 0 0),(6,.p 1 0),(7,.p 2 0),(12,.v (.slice A l.length c)),(13,.v (.int .i64 ((l.length:Nat):Int))),(14,.v (.int .i64 ((k:Nat):Int))),(71,.v (.bool (decide (aE ≥ 0))))] aa bo fun g8 bS=>?_
   refine (zO (decide (aE ≥ 0))).elim (fun aw=>?_) (fun aw=>?_)
   ·
    have fJ:=zD aw
    have dJ:=bS
    rw [aw] at dJ
    refine qai [4,5,6,7,8] [9,10,11,12,13,14,15,16,17,18,19] [(3,.p 0 0),(6,.p 1 0),(7,.p 2 0),(12,.v (.slice A l.length c)),(13,.v (.int .i64 ((l.length:Nat):Int))),(14,.v (.int .i64 ((k:Nat):Int))),(76,.v (.bool (!ah)))] aa dJ fun g9 bT=>?_
    refine (zO (!ah)).elim (fun bq=>?_) (fun bq=>?_)
    ·
     have dK:=bT
     rw [bq] at dK
     refine qai [9,10,11,12,13,14,15,16,17,18,19] [] [(3,.p 0 0),(12,.v (.slice A l.length c)),(13,.v (.int .i64 ((l.length:Nat):Int))),(14,.v (.int .i64 ((k:Nat):Int))),(87,.v (.bool true))] aa dK fun hC bU=>?_
     refine qae (qab ?_)
     refine qa7 bU (b:=true) kz rfl ?_
     refine qas [(4,.v (.bool false))] aa bU fun hJ dL=>?_
     refine wp_ret (qay (qay (qat (qat (qay (qat (qaM dL aa.cells (v:=.bool false) kz ?_)))))))
     first
      | exact (qgD hq_ ‹_› ‹_›).elim
      | exact (qgE hq_ ‹_› ‹_›).elim
      | exact (us_7 hq_ ‹_› ‹_›).elim
      | exact (qgF hq_ ‹_› ‹_›).elim
      | exact (qgG hq_ ‹_› ‹_›).elim
      | exact (qeR hq_ ‹_› ‹_›).elim
      | exact (qeS hq_ ‹_› ‹_›).elim
      | exact (qgH hq_ ‹_› ‹_› ‹_›).elim
      | exact (us_n hq_ ‹_› ‹_› ‹_› ‹_› ‹_› ‹_›).elim
    have dM:=bT
    rw [bq] at dM
    refine qai [9,10,11,12] [13,14,15,16,17,18,19] [(3,.p 0 0),(6,.p 1 0),(7,.p 2 0),(12,.v (.slice A l.length c)),(13,.v (.int .i64 ((l.length:Nat):Int))),(14,.v (.int .i64 ((k:Nat):Int))),(76,.v (.bool false)),(80,.v (.bool (decide (aE < 0))))] aa dM fun hK bV=>?_
    refine (zO (decide (aE < 0))).elim (fun ax=>?_) (fun ax=>?_)
    ·
     have fK:=zD ax
     have dN:=bV
     rw [ax] at dN
     refine qai [13,14,15] [16,17,18,19] [(3,.p 0 0),(12,.v (.slice A l.length c)),(13,.v (.int .i64 ((l.length:Nat):Int))),(14,.v (.int .i64 ((k:Nat):Int))),(76,.v (.bool false)),(80,.v (.bool true)),(82,.v (.slice bC bA.length bD)),(83,.v (.agg #[.int .i64 ai,.slice aC af.length aD,.bool ah,.slice aP am.length aQ,.slice aR aO.length aS]))] aa dN fun hZ dO=>?_
     refine qal (qak dO (f:=34) (vs:=[.slice bC bA.length bD,.agg #[.int .i64 ai,.slice aC af.length aD,.bool ah,.slice aP am.length aQ,.slice aR aO.length aS]]) (d:=84) kz Tryz.call34 ( hu _ _ bA _ _ _ _ ⟨cK,(eN.move aa.step nilM aa.imm),(fun i_ x_ h_=>((fb i_ x_ h_).move aa.step nilM aa.imm))⟩ (aF.move (ab.trans ac).step immM (ab.trans ac).to') (by rw [aT]; exact qkM hq_ ‹_› ‹_›)) ?_)
     rintro e_ ia ⟨rfl,bW⟩
     refine ⟨_,rfl,fun ib dP=>?_⟩
     have bt:=aa.next_nil bW
     have dQ:=aa.frN bW
     refine qai [17,18,19] [] (z35 A l.length c k) bt dP fun ic bX=>?_
     refine qae (qab ?_)
     refine qan bX (b:=false) kz rfl ?_
     refine wp_skip (qar (qar (qab (qap [0,1] kz ?_))))
     refine qai [0,1] [] [(3,.p 0 0),(12,.v (.slice A l.length c)),(13,.v (.int .i64 ((l.length:Nat):Int))),(14,.v (.int .i64 (IntKind.i64.wrap (((k:Nat):Int) + 1))))] bt bX fun ig dR=>?_
     refine qae (qab ?_)
     obtain ⟨bY,dS,dT⟩:=bt.cutB dR 1 (z99 bz n1 A6 s2.length c7 b3 A8 l4.length c9 aJ u5.length aK) [(3,.p 0 0),(12,.v (.slice A l.length c)),(13,.v (.int .i64 ((l.length:Nat):Int))),(14,.v (.int .i64 (IntKind.i64.wrap (((k:Nat):Int) + 1))))]
     have dU:IntKind.i64.wrap (((k:Nat):Int) + 1) = ((k + 1:Nat):Int):=qaO (by omega)
     rw [dU] at bY
     exact ⟨l.length - (k + 1),by omega,k + 1,rfl,by omega,bY.pk,dS,(((((((aj.trans ak).trans al).trans ag).trans ab).trans ac).trans dQ).trans dT)⟩
    have fL:=zF ax
    have dV:=bV
    rw [ax] at dV
    refine qai [13,14,15,16,17,18,19] [] (z35 A l.length c k) aa dV fun ii bZ=>?_
    refine qae (qab ?_)
    refine qan bZ (b:=false) kz rfl ?_
    refine wp_skip (qar (qar (qab (qap [0,1] kz ?_))))
    refine qai [0,1] [] [(3,.p 0 0),(12,.v (.slice A l.length c)),(13,.v (.int .i64 ((l.length:Nat):Int))),(14,.v (.int .i64 (IntKind.i64.wrap (((k:Nat):Int) + 1))))] aa bZ fun ij dW=>?_
    refine qae (qab ?_)
    obtain ⟨b8,dX,dY⟩:=aa.cutB dW 1 (z99 bz n1 A6 s2.length c7 b3 A8 l4.length c9 aJ u5.length aK) [(3,.p 0 0),(12,.v (.slice A l.length c)),(13,.v (.int .i64 ((l.length:Nat):Int))),(14,.v (.int .i64 (IntKind.i64.wrap (((k:Nat):Int) + 1))))]
    have dZ:IntKind.i64.wrap (((k:Nat):Int) + 1) = ((k + 1:Nat):Int):=qaO (by omega)
    rw [dZ] at b8
    exact ⟨l.length - (k + 1),by omega,k + 1,rfl,by omega,b8.pk,dX,((((((aj.trans ak).trans al).trans ag).trans ab).trans ac).trans dY)⟩
   have fM:=zF aw
   have d5:=bS.cast (env':=[(3,.p 0 0),(6,.p 1 0),(7,.p 2 0),(12,.v (.slice A l.length c)),(13,.v (.int .i64 ((l.length:Nat):Int))),(14,.v (.int .i64 ((k:Nat):Int))),(71,.v (.bool false))]) (by rw [aw])
   refine qai [4,5,6,7,8,9,10,11,12] [13,14,15,16,17,18,19] [(3,.p 0 0),(6,.p 1 0),(7,.p 2 0),(12,.v (.slice A l.length c)),(13,.v (.int .i64 ((l.length:Nat):Int))),(14,.v (.int .i64 ((k:Nat):Int))),(76,.v (.bool false)),(80,.v (.bool (decide (aE < 0))))] aa d5 fun ik cd=>?_
   refine (zO (decide (aE < 0))).elim (fun ay=>?_) (fun ay=>?_)
   ·
    have fN:=zD ay
    have d6:=cd
    rw [ay] at d6
    refine qai [13,14,15] [16,17,18,19] [(3,.p 0 0),(12,.v (.slice A l.length c)),(13,.v (.int .i64 ((l.length:Nat):Int))),(14,.v (.int .i64 ((k:Nat):Int))),(76,.v (.bool false)),(80,.v (.bool true)),(82,.v (.slice bC bA.length bD)),(83,.v (.agg #[.int .i64 ai,.slice aC af.length aD,.bool ah,.slice aP am.length aQ,.slice aR aO.length aS]))] aa d6 fun il d7=>?_
    refine qal (qak d7 (f:=34) (vs:=[.slice bC bA.length bD,.agg #[.int .i64 ai,.slice aC af.length aD,.bool ah,.slice aP am.length aQ,.slice aR aO.length aS]]) (d:=84) kz Tryz.call34 ( hu _ _ bA _ _ _ _ ⟨cK,(eN.move aa.step nilM aa.imm),(fun i_ x_ h_=>((fb i_ x_ h_).move aa.step nilM aa.imm))⟩ (aF.move (ab.trans ac).step immM (ab.trans ac).to') (by rw [aT]; exact qkM hq_ ‹_› ‹_›)) ?_)
    rintro e_ im ⟨rfl,ce⟩
    refine ⟨_,rfl,fun io d8=>?_⟩
    have bu:=aa.next_nil ce
    have d9:=aa.frN ce
    refine qai [17,18,19] [] (z35 A l.length c k) bu d8 fun ip cm=>?_
    refine qae (qab ?_)
    refine qan cm (b:=false) kz rfl ?_
    refine wp_skip (qar (qar (qab (qap [0,1] kz ?_))))
    refine qai [0,1] [] [(3,.p 0 0),(12,.v (.slice A l.length c)),(13,.v (.int .i64 ((l.length:Nat):Int))),(14,.v (.int .i64 (IntKind.i64.wrap (((k:Nat):Int) + 1))))] bu cm fun iq ea=>?_
    refine qae (qab ?_)
    obtain ⟨cq,eb,ec⟩:=bu.cutB ea 1 (z99 bz n1 A6 s2.length c7 b3 A8 l4.length c9 aJ u5.length aK) [(3,.p 0 0),(12,.v (.slice A l.length c)),(13,.v (.int .i64 ((l.length:Nat):Int))),(14,.v (.int .i64 (IntKind.i64.wrap (((k:Nat):Int) + 1))))]
    have ee:IntKind.i64.wrap (((k:Nat):Int) + 1) = ((k + 1:Nat):Int):=qaO (by omega)
    rw [ee] at cq
    exact ⟨l.length - (k + 1),by omega,k + 1,rfl,by omega,cq.pk,eb,(((((((aj.trans ak).trans al).trans ag).trans ab).trans ac).trans d9).trans ec)⟩
   have fO:=zF ay
   have ef:=cd
   rw [ay] at ef
   refine qai [13,14,15,16,17,18,19] [] (z35 A l.length c k) aa ef fun ir cr=>?_
   refine qae (qab ?_)
   refine qan cr (b:=false) kz rfl ?_
   refine wp_skip (qar (qar (qab (qap [0,1] kz ?_))))
   refine qai [0,1] [] [(3,.p 0 0),(12,.v (.slice A l.length c)),(13,.v (.int .i64 ((l.length:Nat):Int))),(14,.v (.int .i64 (IntKind.i64.wrap (((k:Nat):Int) + 1))))] aa cr fun iu eg=>?_
   refine qae (qab ?_)
   obtain ⟨cu,eh,ei⟩:=aa.cutB eg 1 (z99 bz n1 A6 s2.length c7 b3 A8 l4.length c9 aJ u5.length aK) [(3,.p 0 0),(12,.v (.slice A l.length c)),(13,.v (.int .i64 ((l.length:Nat):Int))),(14,.v (.int .i64 (IntKind.i64.wrap (((k:Nat):Int) + 1))))]
   have ej:IntKind.i64.wrap (((k:Nat):Int) + 1) = ((k + 1:Nat):Int):=qaO (by omega)
   rw [ej] at cu
   exact ⟨l.length - (k + 1),by omega,k + 1,rfl,by omega,cu.pk,eh,((((((aj.trans ak).trans al).trans ag).trans ab).trans ac).trans ei)⟩
  have fP:ae ≠ 10:=by simpa using bp
  refine qaE 8 kz aa fun iv ek cw em=>?_
  refine qaB [0,1,2,3,4,5] [(3,.p 0 0),(12,.v (.slice A l.length c)),(13,.v (.int .i64 ((l.length:Nat):Int))),(14,.v (.int .i64 ((k:Nat):Int))),(25,.v (.int .i64 ai)),(27,.v (.int .i64 ae)),(29,.v (.int .i64 aM))] 2 (qaa (qac (qac (qaa (qaa (qac (qaa qad))))))) (fun _ h=>h.cells) em bo fun iw eo=>?_
  refine qam (i:=6) kz (qak eo (f:=69) (vs:=[.int .i64 ae,.int .i64 aM]) (d:=30) kz Tryz.call69 (qgL ae aM _) ?_)
  rintro e_ ix ⟨rfl,cz⟩
  refine ⟨_,rfl,fun iy ep=>?_⟩
  have az:=cw.next_nil cz
  have cA:=cw.frN cz
  have cB:=TT.ofW cA az
  refine ⟨fun _=>cB,?_⟩
  refine qaB [7] [(3,.p 0 0),(12,.v (.slice A l.length c)),(13,.v (.int .i64 ((l.length:Nat):Int))),(14,.v (.int .i64 ((k:Nat):Int))),(31,.v (.bool (ai != (qbx ae aM))))] 0 (qaa (qac (qac (qaa (qaa (qac (qaa qad))))))) (fun _ h=>h.cells) cB ep fun iz bw=>?_
  refine qaz kz ?_ _
  refine qab (qaw bw (b:=ai != (qbx ae aM)) kz (fun bx=>?_) (fun bx=>?_))
  ·
   have fQ:ai ≠ (qbx ae aM):=by simpa using bx
   refine qas [(4,.v (.bool false))] az bw fun iA eu=>?_
   refine wp_ret (qay (qay (qat (qat (qay (qat (qaM eu az.cells (v:=.bool false) kz ?_)))))))
   first
    | exact (qgD hq_ ‹_› ‹_›).elim
    | exact (qgE hq_ ‹_› ‹_›).elim
    | exact (us_7 hq_ ‹_› ‹_›).elim
    | exact (qgF hq_ ‹_› ‹_›).elim
    | exact (qgG hq_ ‹_› ‹_›).elim
    | exact (qeR hq_ ‹_› ‹_›).elim
    | exact (qeS hq_ ‹_› ‹_›).elim
    | exact (qgH hq_ ‹_› ‹_› ‹_›).elim
    | exact (us_n hq_ ‹_› ‹_› ‹_› ‹_› ‹_› ‹_›).elim
  have fR:ai = (qbx ae aM):=by simpa using bx
  refine wp_skip (qar (qar (qab (qap [0,1] kz ?_))))
  refine qai [0,1] [] [(3,.p 0 0),(12,.v (.slice A l.length c)),(13,.v (.int .i64 ((l.length:Nat):Int))),(14,.v (.int .i64 (IntKind.i64.wrap (((k:Nat):Int) + 1))))] az bw fun iB ev=>?_
  refine qae (qab ?_)
  obtain ⟨cC,ew,ey⟩:=az.cutB ev 1 (z99 bz n1 A6 s2.length c7 b3 A8 l4.length c9 aJ u5.length aK) [(3,.p 0 0),(12,.v (.slice A l.length c)),(13,.v (.int .i64 ((l.length:Nat):Int))),(14,.v (.int .i64 (IntKind.i64.wrap (((k:Nat):Int) + 1))))]
  have ez:IntKind.i64.wrap (((k:Nat):Int) + 1) = ((k + 1:Nat):Int):=qaO (by omega)
  rw [ez] at cC
  exact ⟨l.length - (k + 1),by omega,k + 1,rfl,by omega,cC.pk,ew,((((((((aj.trans ak).trans al).trans ag).trans ab).trans ac).trans ek).trans cA).trans ey)⟩
 have fS:=zF cH
 refine wp_exit (qau (qau (qaI (qab (qas [(4,.v (.bool true))] aB cG fun iC eB=>?_)))))
 refine wp_ret (qaM eB aB.cells (v:=.bool true) kz ?_)
 exact ⟨rfl,aB.step⟩
theorem qjT:∀ d,UsOK (qjO d)
 | 0=>sUs fun _ _ _ _ _ _ _ _ _ h=>h.elim
 | d + 1=>sUs (qjT d)
def ToOK (v:Int) (flex:Bool) (T:List Fld → Tree → Tree → Prop):Prop:=∀ (A:Option Addr) (c:Nat) (l:List Fld) (ct:List Value) (t:Tree) (cg:List Value) (g:Tree) (w:World) (F:Nat → Nat → Prop),FldsR w F A c l → TreeR w F ct t → TreeR w F cg g → plains l → T l t g →
  Calls Tryz.prog 12 #[.slice A l.length c,.int .i64 v,.bool flex,.agg ct.toArray,.agg cg.toArray] w (qcs w (.bool true))
abbrev z19 (x0) (x1) (x2) (x3) (x4) (x5) (x6) (x7) (x8) (x9) (x10) (x11) (x12) (x13) (x14):=([(1,.v (.int .i64 x0)),(2,.v (.bool x1)),(5,.p 0 0),(8,.p 1 0),(9,.p 2 0),(47,.v (.bool (z4 x2 x3 x4 x5 x6 x7 x8 x9 x0 x10 x11 x12 x13 x14)))]:Env)
abbrev z17 (x0) (x1) (x2):=([(1,.v (.int .i64 x0)),(2,.v (.bool x1)),(5,.p 0 0),(8,.p 1 0),(9,.p 2 0),(49,.v (.int .i64 x2))]:Env)
abbrev z20 (x0) (x1) (x2) (x3):=([(9,.p 2 0),(13,.v (.slice (some ⟨x0,0,none⟩) 16 16)),(62,.v (.slice (some ⟨x0,0,none⟩) 16 16)),(64,.v (.slice x1 x2 x3)),(65,.v (.int .i64 ((min x2 16:Nat):Int)))]:Env)
abbrev z28 (x0) (x1) (x2) (x3):=([(9,.p 2 0),(13,.v (.slice (some ⟨x0,0,none⟩) 16 16)),(62,.v (.slice (some ⟨x0,0,none⟩) 16 16)),(64,.v (.slice x1 x2 x3))]:Env)
abbrev z46 (x0):=([(8,.p 1 0),(9,.p 2 0),(13,.v (.slice (some ⟨x0,0,none⟩) 16 16))]:Env)
abbrev z48 (x0) (x1) (x2) (x3) (x4):=([(67,.v (.slice x0 x1 x2)),(68,.v (.slice (some ⟨x3,0,none⟩) ((qbz x4).length) 16))]:Env)
abbrev z60 (x0) (x1) (x2) (x3) (x4) (x5) (x6) (x7) (x8) (x9) (x10) (x11) (x12) (x13) (x14):=([(1,.v (.int .i64 x0)),(2,.v (.bool x1)),(5,.p 0 0),(8,.p 1 0),(9,.p 2 0),(11,.v (.bool (z4 x2 x3 x4 x5 x6 x7 x8 x9 x0 x10 x11 x12 x13 x14))),(46,.v (.bool false))]:Env)
abbrev z79 (x0) (x1) (x2) (x3) (x4) (x5):=([(54,.v (.slice x0 x1 x2)),(56,.v (.slice x3 x4 x5))]:Env)
abbrev z82 (x0) (x1) (x2) (x3) (x4) (x5):=([.slice x0 x1 x2,.slice x3 ((qaH x4).length) x5]:List Value)
abbrev z94 (x0) (x1) (x2):=([(117,.v (.int .i64 x0)),(119,.v (.int .i64 x1)),(121,.v (.int .i64 x2))]:Env)
theorem qic {v:Int} {flex:Bool} {T:List Fld → Tree → Tree → Prop} (hT:ToOK v flex T) (cf:List Value) (f:Fld) (ct:List Value) (t:Tree) (cg:List Value) (g:Tree) (w:World) (F:Nat → Nat → Prop) (hf:FldR w F cf f) (hpl:plains f.sub) (bt:f.kind ≠ 11) (ht:TreeR w F ct t) (hg:TreeR w F cg g) (hq:ToF0 T v f t g) :
  Calls Tryz.prog 33 #[.agg cf.toArray,.int .i64 v,.bool flex,.agg ct.toArray,.agg cg.toArray] w (qcs w (.bool true)):=by
 obtain ⟨k1,y2,y3,y4,y5,y6,y7,l8,A9,dT,d5,rfl,rfl,iJ,ja⟩:=hf.open_
 have jb:=iJ.small
 obtain ⟨ac,ab,ae,af,ag,ai,aj,dU,dV,dW,dX,kK,rfl,rfl,aH,kL,oP,oQ⟩:=ht.open_
 have jc:=aH.small
 have jd:=kL.small
 obtain ⟨aN,ah,ap,dY,dZ,al,am,d6,d7,d8,d9,kM,rfl,rfl,bq,kN,oR,oS⟩:=hg.open_
 have je:=bq.small
 have jf:=kN.small
 replace hpl:plains l8:=hpl
 have bt:k1 ≠ 11:=bt
 refine enter (n:=124) Tryz.func33 rfl Tryz.ntmps33 kz fun a hE=>?_
 have hW:=WOk.start w Nil
 refine qaf [0,1,2,3] kz ?_
 refine qal (qbq hW hE (d:=5) (cs:=(z7 k1 y2 y3 y4 y5 y6 y7 A9 l8.length dT)) kz fun oT oU oV kO kP kQ iK iL=>?_)
 refine qal (qbq iK iL (d:=8) (cs:=(z1 ac ai ab.length aj ae dU af.length dV dW ag.length dX)) kz fun oW oX oY kR kS kT iM iN=>?_)
 refine qal (qbq iM iN (d:=9) (cs:=(z1 aN al ah.length am ap d6 dY.length d7 d8 dZ.length d9)) kz fun oZ o5 o6 kU kV kW cJ iO=>?_)
 refine qai [3] [] [(1,.v (.int .i64 v)),(2,.v (.bool flex)),(5,.p 0 0),(8,.p 1 0),(9,.p 2 0)] cJ iO fun o7 iP=>?_
 refine qae (qab ?_)
 refine qaf [0,1,2,3,4] kz ?_
 refine qai [0,1,2] [3,4] [(1,.v (.int .i64 v)),(2,.v (.bool flex)),(5,.p 0 0),(8,.p 1 0),(9,.p 2 0),(17,.v (.agg #[.int .i64 k1,.int .i64 y2,.int .i64 y3,.int .i64 y4,.int .i64 y5,.int .i64 y6,.int .i64 y7,.slice A9 l8.length dT])),(18,.v (.int .i64 v)),(19,.v (.agg #[.int .i64 ac,.slice ai ab.length aj,.bool ae,.slice dU af.length dV,.slice dW ag.length dX]))] cJ iP fun o9 iQ=>?_
 refine qal (qak iQ (f:=67) (vs:=[.agg #[.int .i64 k1,.int .i64 y2,.int .i64 y3,.int .i64 y4,.int .i64 y5,.int .i64 y6,.int .i64 y7,.slice A9 l8.length dT],.int .i64 v,.agg #[.int .i64 ac,.slice ai ab.length aj,.bool ae,.slice dU af.length dV,.slice dW ag.length dX]]) (d:=20) kz Tryz.call67 (qk7 k1 y2 y3 y4 y5 y6 y7 l8 _ _ v ac ab ae af ag _ _ _ _ _ _ _) ?_)
 rintro e_ pa ⟨rfl,ea⟩
 refine ⟨_,rfl,fun pb iR=>?_⟩
 have aa:=cJ.next_nil ea
 have kX:=cJ.frN ea
 refine qai [4] [] [(1,.v (.int .i64 v)),(2,.v (.bool flex)),(5,.p 0 0),(8,.p 1 0),(9,.p 2 0),(11,.v (.bool (z4 k1 y2 y3 y4 y5 y6 y7 l8 v ac ab ae af ag)))] aa iR fun pc iS=>?_
 refine qae (qab ?_)
 refine qaf [0,1,2,3,4,5,6,7,8,9] kz ?_
 refine qai [0,1,2,3] [4,5,6,7,8,9] [(1,.v (.int .i64 v)),(2,.v (.bool flex)),(5,.p 0 0),(8,.p 1 0),(9,.p 2 0),(11,.v (.bool (z4 k1 y2 y3 y4 y5 y6 y7 l8 v ac ab ae af ag))),(24,.v (.bool (decide (y4 ≥ 0))))] aa iS fun pd eb=>?_
 refine (zO (decide (y4 ≥ 0))).elim (fun bu=>?_) (fun bu=>?_)
 ·
  have kY:=zD bu
  have iT:=eb
  rw [bu] at iT
  refine qai [4,5,6,7,8,9] [] [(1,.v (.int .i64 v)),(2,.v (.bool flex)),(5,.p 0 0),(8,.p 1 0),(9,.p 2 0),(11,.v (.bool (z4 k1 y2 y3 y4 y5 y6 y7 l8 v ac ab ae af ag))),(12,.v (.bool (decide (v ≥ y4))))] aa iT fun pe iU=>?_
  refine qae (qab ?_)
  refine wp_seq (qaf [0,1,2,3,4,5,6,7,8,9,10,11,12,13,14,15,16] kz ?_)
  refine qai [0,1,2,3] [4,5,6,7,8,9,10,11,12,13,14,15,16] [(1,.v (.int .i64 v)),(2,.v (.bool flex)),(5,.p 0 0),(8,.p 1 0),(9,.p 2 0),(11,.v (.bool (z4 k1 y2 y3 y4 y5 y6 y7 l8 v ac ab ae af ag))),(12,.v (.bool (decide (v ≥ y4)))),(33,.v (.bool (k1 == 8)))] aa iU fun pf cK=>?_
  refine (zO (k1 == 8)).elim (fun ak=>?_) (fun ak=>?_)
  ·
   have jg:k1 = 8:=by simpa using ak
   have ec:=cK
   rw [ak] at ec
   refine qai [4,5,6,7,8,9,10,11,12,13,14,15,16] [] [(1,.v (.int .i64 v)),(2,.v (.bool flex)),(5,.p 0 0),(8,.p 1 0),(9,.p 2 0),(11,.v (.bool (z4 k1 y2 y3 y4 y5 y6 y7 l8 v ac ab ae af ag))),(46,.v (.bool (!(ap == (z4 k1 y2 y3 y4 y5 y6 y7 l8 v ac ab ae af ag)))))] aa ec fun kZ bw=>?_
   refine qae (qab ?_)
   refine qaw bw (b:=!(ap == (z4 k1 y2 y3 y4 y5 y6 y7 l8 v ac ab ae af ag))) kz (fun bx=>?_) (fun bx=>?_)
   ·
    have jh:!(ap = (Fld.nul (Fld.mk k1 y2 y3 y4 y5 y6 y7 l8) v (Tree.mk ac ab ae af ag))):=by simpa using bx
    refine qas [(10,.v (.bool false))] aa bw fun k5 ee=>?_
    refine wp_ret (qat (qaM ee aa.cells (v:=.bool false) kz ?_))
    first
     | exact (qjQ hq ‹_› ‹_›).elim
     | exact (qhj hq ‹_› ‹_›).elim
     | exact (qgI hq ‹_› ‹_› ‹_›).elim
   have ji:!(ap ≠ (Fld.nul (Fld.mk k1 y2 y3 y4 y5 y6 y7 l8) v (Tree.mk ac ab ae af ag))):=by simpa using bx
   refine wp_skip (qab (wp_seq (qas (z19 v flex k1 y2 y3 y4 y5 y6 y7 l8 ac ab ae af ag) aa bw fun k6 bz=>?_)))
   refine qaw bz (b:=Fld.nul (Fld.mk k1 y2 y3 y4 y5 y6 y7 l8) v (Tree.mk ac ab ae af ag)) kz (fun ef=>?_) (fun ef=>?_)
   ·
    refine qas [(10,.v (.bool true))] aa bz fun k7 eg=>?_
    refine wp_ret (qat (qaM eg aa.cells (v:=.bool true) kz ?_))
    exact ⟨rfl,aa.step⟩
   refine wp_skip (qab (wp_seq (qas (z17 v flex k1) aa bz fun k8 eh=>?_)))
   refine wp_block (wp_seq (qas [(1,.v (.int .i64 v)),(2,.v (.bool flex)),(5,.p 0 0),(8,.p 1 0),(9,.p 2 0),(49,.v (.int .i64 k1)),(50,.v (.bool (k1 == 8)))] aa eh fun k9 bA=>?_))
   refine qa7 bA (b:=k1 == 8) kz (ak) ?_
   refine wp_skip (qab (qa7 bA (b:=k1 == 8) kz (ak) ?_))
   refine qaE 6 kz aa fun la jj aU ei=>?_
   refine qaB [0,1,2,3] (z79 al ah.length am ai ab.length aj) 3 (qaa (qac (qaa qad))) (fun _ h=>h.cells) ei bA fun lb ej=>?_
   have iV:=qbl ab
   refine qam (i:=4) kz (qak ej (f:=37) (vs:=[.slice ai ab.length aj]) (d:=57) kz Tryz.call37 (qdN _ _ ab (aH.move aU.step nilM aU.imm).le _) ?_)
   rintro e_ lc ⟨rfl,cL⟩
   refine ⟨_,rfl,fun ld ek=>?_⟩
   have az:=aU.next_nil cL
   have cM:=aU.frN cL
   have em:=TT.ofW cM az
   refine ⟨fun _=>em,?_⟩
   refine qam (i:=5) kz (qak ek (f:=36) (vs:=(z82 al ah.length am ai ab aj)) (d:=58) kz Tryz.call36 (qer _ _ _ _ ah (qaH ab) _ _ ((bq.move az.step nilM az.imm).move (Step.refl _ Nil) nilM allF) (((aH.take 32767).move az.step nilM az.imm).move (Step.refl _ Nil) nilM allF)) ?_)
   rintro e_ lf ⟨rfl,cN⟩
   refine ⟨_,rfl,fun lg eo=>?_⟩
   have aV:=az.next_nil cN
   have ep:=az.frN cN
   have eu:=TT.ofW (cM.trans ep) aV
   refine ⟨fun _=>eu,?_⟩
   refine qam (i:=6) kz (qbf [10] aV.cells eo (env':=[(10,.v (.bool (decide (ah = (qaH ab)))))]) kz fun lh ev=>?_)
   refine ⟨fun h=>absurd rfl h,?_⟩
   refine qaz kz ?_ _
   refine qab (wp_ret (qay (qat (qaM ev aV.cells (v:=.bool (decide (ah = (qaH ab)))) kz ?_))))
   refine ⟨congrArg (fun b_=>Ending.returned (Value.bool b_)) ?_,aV.step⟩
   first
    | exact qeu hq ‹_› ‹_›
    | exact qev hq ‹_› ‹_›
    | exact to_u hq ‹_› ‹_›
    | exact to_m hq ‹_› ‹_› ‹_› ‹_› ‹_› ‹_›
  have jk:k1 ≠ 8:=by simpa using ak
  have ew:=cK.cast (env':=[(1,.v (.int .i64 v)),(2,.v (.bool flex)),(5,.p 0 0),(8,.p 1 0),(9,.p 2 0),(11,.v (.bool (Fld.nul (Fld.mk k1 y2 y3 y4 y5 y6 y7 l8) v (Tree.mk ac ab ae af ag)))),(12,.v (.bool (decide (v ≥ y4)))),(33,.v (.bool false))]) (by rw [ak])
  refine qai [4,5,6,7,8] [9,10,11,12,13,14,15,16] [(1,.v (.int .i64 v)),(2,.v (.bool flex)),(5,.p 0 0),(8,.p 1 0),(9,.p 2 0),(11,.v (.bool (z4 k1 y2 y3 y4 y5 y6 y7 l8 v ac ab ae af ag))),(12,.v (.bool (decide (v ≥ y4)))),(38,.v (.bool (k1 == 10)))] aa ew fun li cO=>?_
  refine (zO (k1 == 10)).elim (fun ay=>?_) (fun ay=>?_)
  ·
   have jl:k1 = 10:=by simpa using ay
   have ey:=cO
   rw [ay] at ey
   refine qai [9,10,11,12,13,14,15,16] [] [(1,.v (.int .i64 v)),(2,.v (.bool flex)),(5,.p 0 0),(8,.p 1 0),(9,.p 2 0),(11,.v (.bool (z4 k1 y2 y3 y4 y5 y6 y7 l8 v ac ab ae af ag))),(46,.v (.bool (!(ap == (z4 k1 y2 y3 y4 y5 y6 y7 l8 v ac ab ae af ag)))))] aa ey fun lj bB=>?_
   refine qae (qab ?_)
   refine qaw bB (b:=!(ap == (z4 k1 y2 y3 y4 y5 y6 y7 l8 v ac ab ae af ag))) kz (fun bC=>?_) (fun bC=>?_)
   ·
    have jm:!(ap = (Fld.nul (Fld.mk k1 y2 y3 y4 y5 y6 y7 l8) v (Tree.mk ac ab ae af ag))):=by simpa using bC
    refine qas [(10,.v (.bool false))] aa bB fun lm ez=>?_
    refine wp_ret (qat (qaM ez aa.cells (v:=.bool false) kz ?_))
    first
     | exact (qjQ hq ‹_› ‹_›).elim
     | exact (qhj hq ‹_› ‹_›).elim
     | exact (qgI hq ‹_› ‹_› ‹_›).elim
   have jn:!(ap ≠ (Fld.nul (Fld.mk k1 y2 y3 y4 y5 y6 y7 l8) v (Tree.mk ac ab ae af ag))):=by simpa using bC
   refine wp_skip (qab (wp_seq (qas (z19 v flex k1 y2 y3 y4 y5 y6 y7 l8 ac ab ae af ag) aa bB fun ln bD=>?_)))
   refine qaw bD (b:=Fld.nul (Fld.mk k1 y2 y3 y4 y5 y6 y7 l8) v (Tree.mk ac ab ae af ag)) kz (fun eB=>?_) (fun eB=>?_)
   ·
    refine qas [(10,.v (.bool true))] aa bD fun lp eC=>?_
    refine wp_ret (qat (qaM eC aa.cells (v:=.bool true) kz ?_))
    exact ⟨rfl,aa.step⟩
   refine wp_skip (qab (wp_seq (qas (z17 v flex k1) aa bD fun lq eD=>?_)))
   refine wp_block (wp_seq (qas [(1,.v (.int .i64 v)),(2,.v (.bool flex)),(5,.p 0 0),(8,.p 1 0),(9,.p 2 0),(49,.v (.int .i64 k1)),(50,.v (.bool (k1 == 8)))] aa eD fun lr cP=>?_))
   refine qan cP (b:=k1 == 8) kz (ak) ?_
   refine qap [0,1] kz ?_
   refine qai [0,1] [] [(1,.v (.int .i64 v)),(2,.v (.bool flex)),(5,.p 0 0),(8,.p 1 0),(9,.p 2 0),(49,.v (.int .i64 k1)),(50,.v (.bool (k1 == 9)))] aa cP fun ls bE=>?_
   refine qae (qab ?_)
   refine qaw bE (b:=k1 == 9) kz (fun bF=>?_) (fun bF=>?_)
   ·
    have jo:k1 = 9:=by simpa using bF
    refine qaE 6 kz aa fun lu jp aW eE=>?_
    refine qaB [0,1,2,3] (z79 al ah.length am ai ab.length aj) 3 (qaa (qac (qaa qad))) (fun _ h=>h.cells) eE bE fun lv eF=>?_
    have iW:=qbl ab
    refine qam (i:=4) kz (qak eF (f:=37) (vs:=[.slice ai ab.length aj]) (d:=57) kz Tryz.call37 (qdN _ _ ab (aH.move aW.step nilM aW.imm).le _) ?_)
    rintro e_ lw ⟨rfl,cQ⟩
    refine ⟨_,rfl,fun lx eG=>?_⟩
    have aA:=aW.next_nil cQ
    have cR:=aW.frN cQ
    have eH:=TT.ofW cR aA
    refine ⟨fun _=>eH,?_⟩
    refine qam (i:=5) kz (qak eG (f:=36) (vs:=(z82 al ah.length am ai ab aj)) (d:=58) kz Tryz.call36 (qer _ _ _ _ ah (qaH ab) _ _ ((bq.move aA.step nilM aA.imm).move (Step.refl _ Nil) nilM allF) (((aH.take 32767).move aA.step nilM aA.imm).move (Step.refl _ Nil) nilM allF)) ?_)
    rintro e_ ly ⟨rfl,cS⟩
    refine ⟨_,rfl,fun lz eI=>?_⟩
    have aX:=aA.next_nil cS
    have eJ:=aA.frN cS
    have eK:=TT.ofW (cR.trans eJ) aX
    refine ⟨fun _=>eK,?_⟩
    refine qam (i:=6) kz (qbf [10] aX.cells eI (env':=[(10,.v (.bool (decide (ah = (qaH ab)))))]) kz fun lA eL=>?_)
    refine ⟨fun h=>absurd rfl h,?_⟩
    refine qaz kz ?_ _
    refine qab (wp_ret (qay (qat (qaM eL aX.cells (v:=.bool (decide (ah = (qaH ab)))) kz ?_))))
    refine ⟨congrArg (fun b_=>Ending.returned (Value.bool b_)) ?_,aX.step⟩
    first
     | exact qeu hq ‹_› ‹_›
     | exact qev hq ‹_› ‹_›
     | exact to_u hq ‹_› ‹_›
     | exact to_m hq ‹_› ‹_› ‹_› ‹_› ‹_› ‹_›
   have jq:k1 ≠ 9:=by simpa using bF
   refine qas [(1,.v (.int .i64 v)),(2,.v (.bool flex)),(5,.p 0 0),(8,.p 1 0),(9,.p 2 0),(49,.v (.int .i64 k1)),(59,.v (.bool (k1 == 7)))] aa bE fun lB bG=>?_
   refine qaw bG (b:=k1 == 7) kz (fun bH=>?_) (fun bH=>?_)
   ·
    have jr:k1 = 7:=by simpa using bH
    refine qaf [0,1] kz ?_
    refine qal (qcK aa bG (d:=61) (j:=16) (t:=22) (e:=5) (bytes:=1) (z:=.int .u8 0) kz kz kz kz (rfl) (rfl) (by omega) fun ar lC lD js jt ju aO eM=>?_)
    refine qai [1] [] (z46 ar) aO eM fun lE eN=>?_
    refine qae (qab ?_)
    refine qaf [0,1,2,3] kz ?_
    refine qai [0,1,2] [3] (z28 ar ai ab.length aj) aO eN fun lF eO=>?_
    refine qal (qc1 aO eO (k:=0) (d:=65) (t:=22) (u:=22) (e:=5) (bytes:=1) (A:=(some ⟨ar,0,none⟩)) (As:=ai) (m:=ab.length) (cs:=aj) (m0:=16) (c:=16) (xs:=(List.replicate 16 (.int .u8 0))) (news:=bc ab) kz kz rfl (aH.move aO.step nilM aO.imm).src fun lG lH jv eP eQ=>?_)
    have eR:(⟨(some ⟨ar,0,none⟩),16,5,1,16,qbt (List.replicate 16 (.int .u8 0)) 0 ((bc ab).take (min ab.length 16))⟩:Rw) = brow (some ⟨ar,0,none⟩) 16 5 (qbz ab):=qdV _ _ _
    obtain ⟨aI,jw⟩:=eP.rowEq 0 [brow (some ⟨ar,0,none⟩) 16 5 (qbz ab)] eR
    have eS:=EnvOk.pick eQ (ks:=[9,13,62,64,65]) (env':=(z20 ar ai ab.length aj)) kz
    have eU:=eS.cast (env':=[(9,.p 2 0),(13,.v (.slice (some ⟨ar,0,none⟩) ((qbz ab).length) 16)),(62,.v (.slice (some ⟨ar,0,none⟩) ((qbz ab).length) 16)),(64,.v (.slice ai ab.length aj)),(65,.v (.int .i64 ((min ab.length 16:Nat):Int)))]) (by rw [qbp _])
    refine qae (qab ?_)
    refine qaf [0,1,2,3,4] kz ?_
    refine qai [0,1,2] [3,4] (z48 al ah.length am ar ab) aI eU fun lI eV=>?_
    refine qal (qak eV (f:=36) (vs:=[.slice al ah.length am,.slice (some ⟨ar,0,none⟩) ((qbz ab).length) 16]) (d:=69) kz Tryz.call36 (qer _ _ _ _ ah (qbz ab) _ _ ((bq.move aI.step nilM aI.imm).move (Step.refl _ Nil) nilM allF) (qcA (aI.own 0 _ rfl) (by first | omega | (rw [qbp]; decide) | (simp only [be_length]; exact Nat.le_trans (qbM _) (by decide)) | (have:=hroom; omega) | (have:=hmade; omega) | (simp only [List.length_append,List.length_nil]; omega)) (F:=fun _ _=>True) (fun _ _ _=>trivial))) ?_)
    rintro e_ lJ ⟨rfl,cT⟩
    refine ⟨_,rfl,fun lK eW=>?_⟩
    have bI:=aI.next_nil cT
    have jx:=aI.frN cT
    refine qai [4] [] [(10,.v (.bool (decide (ah = qbz ab))))] bI eW fun lL eX=>?_
    refine qae (qab ?_)
    refine wp_ret (qay (qat (qaM eX bI.cells (v:=.bool (decide (ah = qbz ab))) kz ?_)))
    refine ⟨congrArg (fun b_=>Ending.returned (Value.bool b_)) ?_,bI.step⟩
    first
     | exact qeu hq ‹_› ‹_›
     | exact qev hq ‹_› ‹_›
     | exact to_u hq ‹_› ‹_›
     | exact to_m hq ‹_› ‹_› ‹_› ‹_› ‹_› ‹_›
   have jy:k1 ≠ 7:=by simpa using bH
   refine qas [(1,.v (.int .i64 v)),(2,.v (.bool flex)),(5,.p 0 0),(8,.p 1 0),(9,.p 2 0),(49,.v (.int .i64 k1)),(70,.v (.bool (k1 == 10)))] aa bG fun lM cU=>?_
   refine qa7 cU (b:=k1 == 10) kz (ay) ?_
   refine qaf [0,1,2,3,4,5,6,7] kz ?_
   refine qai [0,1,2,3,4,5] [6,7] [(73,.v (.slice A9 l8.length dT)),(74,.v (.int .i64 v)),(75,.v (.bool flex)),(76,.v (.agg #[.int .i64 ac,.slice ai ab.length aj,.bool ae,.slice dU af.length dV,.slice dW ag.length dX])),(77,.v (.agg #[.int .i64 aN,.slice al ah.length am,.bool ap,.slice d6 dY.length d7,.slice d8 dZ.length d9]))] aa cU fun lN eY=>?_
   refine qal (qak eY (f:=12) (vs:=[.slice A9 l8.length dT,.int .i64 v,.bool flex,.agg #[.int .i64 ac,.slice ai ab.length aj,.bool ae,.slice dU af.length dV,.slice dW ag.length dX],.agg #[.int .i64 aN,.slice al ah.length am,.bool ap,.slice d6 dY.length d7,.slice d8 dZ.length d9]]) (d:=78) kz Tryz.call12 ( hT _ _ l8 _ (Tree.mk ac ab ae af ag) _ (Tree.mk aN ah ap dY dZ) _ _ ⟨d5,(iJ.move aa.step nilM aa.imm),(fun i_ x_ h_=>((ja i_ x_ h_).move aa.step nilM aa.imm))⟩ (ht.move aa.step nilM aa.imm) (hg.move aa.step nilM aa.imm) hpl (qjR hq ‹_› ‹_›)) ?_)
   rintro e_ lO ⟨rfl,cV⟩
   refine ⟨_,rfl,fun lP eZ=>?_⟩
   have bJ:=aa.next_nil cV
   have jz:=aa.frN cV
   refine qai [7] [] [(10,.v (.bool true))] bJ eZ fun lQ e9=>?_
   refine qae (qab ?_)
   refine wp_ret (qay (qat (qaM e9 bJ.cells (v:=.bool true) kz ?_)))
   exact ⟨rfl,bJ.step⟩
  have jA:k1 ≠ 10:=by simpa using ay
  have fa:=cO.cast (env':=[(1,.v (.int .i64 v)),(2,.v (.bool flex)),(5,.p 0 0),(8,.p 1 0),(9,.p 2 0),(11,.v (.bool (Fld.nul (Fld.mk k1 y2 y3 y4 y5 y6 y7 l8) v (Tree.mk ac ab ae af ag)))),(12,.v (.bool (decide (v ≥ y4)))),(38,.v (.bool false))]) (by rw [ay])
  refine qai [9,10,11] [12,13,14,15,16] [(1,.v (.int .i64 v)),(2,.v (.bool flex)),(5,.p 0 0),(8,.p 1 0),(9,.p 2 0),(11,.v (.bool (z4 k1 y2 y3 y4 y5 y6 y7 l8 v ac ab ae af ag))),(41,.v (.bool (decide (v ≥ y4))))] aa fa fun lR cW=>?_
  refine (zO (decide (v ≥ y4))).elim (fun aP=>?_) (fun aP=>?_)
  ·
   have jB:=zD aP
   have fb:=cW
   rw [aP] at fb
   refine qai [12,13,14,15,16] [] [(1,.v (.int .i64 v)),(2,.v (.bool flex)),(5,.p 0 0),(8,.p 1 0),(9,.p 2 0),(11,.v (.bool (z4 k1 y2 y3 y4 y5 y6 y7 l8 v ac ab ae af ag))),(46,.v (.bool (!(ap == (z4 k1 y2 y3 y4 y5 y6 y7 l8 v ac ab ae af ag)))))] aa fb fun lS bK=>?_
   refine qae (qab ?_)
   refine qaw bK (b:=!(ap == (z4 k1 y2 y3 y4 y5 y6 y7 l8 v ac ab ae af ag))) kz (fun bL=>?_) (fun bL=>?_)
   ·
    have jC:!(ap = (Fld.nul (Fld.mk k1 y2 y3 y4 y5 y6 y7 l8) v (Tree.mk ac ab ae af ag))):=by simpa using bL
    refine qas [(10,.v (.bool false))] aa bK fun lT fe=>?_
    refine wp_ret (qat (qaM fe aa.cells (v:=.bool false) kz ?_))
    first
     | exact (qjQ hq ‹_› ‹_›).elim
     | exact (qhj hq ‹_› ‹_›).elim
     | exact (qgI hq ‹_› ‹_› ‹_›).elim
   have jD:!(ap ≠ (Fld.nul (Fld.mk k1 y2 y3 y4 y5 y6 y7 l8) v (Tree.mk ac ab ae af ag))):=by simpa using bL
   refine wp_skip (qab (wp_seq (qas (z19 v flex k1 y2 y3 y4 y5 y6 y7 l8 ac ab ae af ag) aa bK fun lU bM=>?_)))
   refine qaw bM (b:=Fld.nul (Fld.mk k1 y2 y3 y4 y5 y6 y7 l8) v (Tree.mk ac ab ae af ag)) kz (fun ff=>?_) (fun ff=>?_)
   ·
    refine qas [(10,.v (.bool true))] aa bM fun lV fg=>?_
    refine wp_ret (qat (qaM fg aa.cells (v:=.bool true) kz ?_))
    exact ⟨rfl,aa.step⟩
   refine wp_skip (qab (wp_seq (qas (z17 v flex k1) aa bM fun lW fh=>?_)))
   refine wp_block (wp_seq (qas [(1,.v (.int .i64 v)),(2,.v (.bool flex)),(5,.p 0 0),(8,.p 1 0),(9,.p 2 0),(49,.v (.int .i64 k1)),(50,.v (.bool (k1 == 8)))] aa fh fun lX cX=>?_))
   refine qan cX (b:=k1 == 8) kz (ak) ?_
   refine qap [0,1] kz ?_
   refine qai [0,1] [] [(1,.v (.int .i64 v)),(2,.v (.bool flex)),(5,.p 0 0),(8,.p 1 0),(9,.p 2 0),(49,.v (.int .i64 k1)),(50,.v (.bool (k1 == 9)))] aa cX fun lY bN=>?_
   refine qae (qab ?_)
   refine qaw bN (b:=k1 == 9) kz (fun bO=>?_) (fun bO=>?_)
   ·
    have jE:k1 = 9:=by simpa using bO
    refine qaE 6 kz aa fun lZ jF aY fi=>?_
    refine qaB [0,1,2,3] (z79 al ah.length am ai ab.length aj) 3 (qaa (qac (qaa qad))) (fun _ h=>h.cells) fi bN fun l0 fj=>?_
    have iX:=qbl ab
    refine qam (i:=4) kz (qak fj (f:=37) (vs:=[.slice ai ab.length aj]) (d:=57) kz Tryz.call37 (qdN _ _ ab (aH.move aY.step nilM aY.imm).le _) ?_)
    rintro e_ l3 ⟨rfl,cY⟩
    refine ⟨_,rfl,fun l5 fk=>?_⟩
    have aB:=aY.next_nil cY
    have cZ:=aY.frN cY
    have fm:=TT.ofW cZ aB
    refine ⟨fun _=>fm,?_⟩
    refine qam (i:=5) kz (qak fk (f:=36) (vs:=(z82 al ah.length am ai ab aj)) (d:=58) kz Tryz.call36 (qer _ _ _ _ ah (qaH ab) _ _ ((bq.move aB.step nilM aB.imm).move (Step.refl _ Nil) nilM allF) (((aH.take 32767).move aB.step nilM aB.imm).move (Step.refl _ Nil) nilM allF)) ?_)
    rintro e_ l6 ⟨rfl,c5⟩
    refine ⟨_,rfl,fun l7 fo=>?_⟩
    have aZ:=aB.next_nil c5
    have fq:=aB.frN c5
    have fr:=TT.ofW (cZ.trans fq) aZ
    refine ⟨fun _=>fr,?_⟩
    refine qam (i:=6) kz (qbf [10] aZ.cells fo (env':=[(10,.v (.bool (decide (ah = (qaH ab)))))]) kz fun l9 ft=>?_)
    refine ⟨fun h=>absurd rfl h,?_⟩
    refine qaz kz ?_ _
    refine qab (wp_ret (qay (qat (qaM ft aZ.cells (v:=.bool (decide (ah = (qaH ab)))) kz ?_))))
    refine ⟨congrArg (fun b_=>Ending.returned (Value.bool b_)) ?_,aZ.step⟩
    first
     | exact qeu hq ‹_› ‹_›
     | exact qev hq ‹_› ‹_›
     | exact to_u hq ‹_› ‹_›
     | exact to_m hq ‹_› ‹_› ‹_› ‹_› ‹_› ‹_›
   have jG:k1 ≠ 9:=by simpa using bO
   refine qas [(1,.v (.int .i64 v)),(2,.v (.bool flex)),(5,.p 0 0),(8,.p 1 0),(9,.p 2 0),(49,.v (.int .i64 k1)),(59,.v (.bool (k1 == 7)))] aa bN fun ma bP=>?_
   refine qaw bP (b:=k1 == 7) kz (fun bQ=>?_) (fun bQ=>?_)
   ·
    have jH:k1 = 7:=by simpa using bQ
    refine qaf [0,1] kz ?_
    refine qal (qcK aa bP (d:=61) (j:=16) (t:=22) (e:=5) (bytes:=1) (z:=.int .u8 0) kz kz kz kz (rfl) (rfl) (by omega) fun au mc md jI jJ jK aQ fu=>?_)
    refine qai [1] [] (z46 au) aQ fu fun me fv=>?_
    refine qae (qab ?_)
    refine qaf [0,1,2,3] kz ?_
    refine qai [0,1,2] [3] (z28 au ai ab.length aj) aQ fv fun mf fw=>?_
    refine qal (qc1 aQ fw (k:=0) (d:=65) (t:=22) (u:=22) (e:=5) (bytes:=1) (A:=(some ⟨au,0,none⟩)) (As:=ai) (m:=ab.length) (cs:=aj) (m0:=16) (c:=16) (xs:=(List.replicate 16 (.int .u8 0))) (news:=bc ab) kz kz rfl (aH.move aQ.step nilM aQ.imm).src fun mg mh jL fx fy=>?_)
    have fz:(⟨(some ⟨au,0,none⟩),16,5,1,16,qbt (List.replicate 16 (.int .u8 0)) 0 ((bc ab).take (min ab.length 16))⟩:Rw) = brow (some ⟨au,0,none⟩) 16 5 (qbz ab):=qdV _ _ _
    obtain ⟨aJ,jM⟩:=fx.rowEq 0 [brow (some ⟨au,0,none⟩) 16 5 (qbz ab)] fz
    have fA:=EnvOk.pick fy (ks:=[9,13,62,64,65]) (env':=(z20 au ai ab.length aj)) kz
    have fB:=fA.cast (env':=[(9,.p 2 0),(13,.v (.slice (some ⟨au,0,none⟩) ((qbz ab).length) 16)),(62,.v (.slice (some ⟨au,0,none⟩) ((qbz ab).length) 16)),(64,.v (.slice ai ab.length aj)),(65,.v (.int .i64 ((min ab.length 16:Nat):Int)))]) (by rw [qbp _])
    refine qae (qab ?_)
    refine qaf [0,1,2,3,4] kz ?_
    refine qai [0,1,2] [3,4] (z48 al ah.length am au ab) aJ fB fun mi fC=>?_
    refine qal (qak fC (f:=36) (vs:=[.slice al ah.length am,.slice (some ⟨au,0,none⟩) ((qbz ab).length) 16]) (d:=69) kz Tryz.call36 (qer _ _ _ _ ah (qbz ab) _ _ ((bq.move aJ.step nilM aJ.imm).move (Step.refl _ Nil) nilM allF) (qcA (aJ.own 0 _ rfl) (by first | omega | (rw [qbp]; decide) | (simp only [be_length]; exact Nat.le_trans (qbM _) (by decide)) | (have:=hroom; omega) | (have:=hmade; omega) | (simp only [List.length_append,List.length_nil]; omega)) (F:=fun _ _=>True) (fun _ _ _=>trivial))) ?_)
    rintro e_ mj ⟨rfl,c6⟩
    refine ⟨_,rfl,fun ml fD=>?_⟩
    have bR:=aJ.next_nil c6
    have jN:=aJ.frN c6
    refine qai [4] [] [(10,.v (.bool (decide (ah = qbz ab))))] bR fD fun mn fE=>?_
    refine qae (qab ?_)
    refine wp_ret (qay (qat (qaM fE bR.cells (v:=.bool (decide (ah = qbz ab))) kz ?_)))
    refine ⟨congrArg (fun b_=>Ending.returned (Value.bool b_)) ?_,bR.step⟩
    first
     | exact qeu hq ‹_› ‹_›
     | exact qev hq ‹_› ‹_›
     | exact to_u hq ‹_› ‹_›
     | exact to_m hq ‹_› ‹_› ‹_› ‹_› ‹_› ‹_›
   have jO:k1 ≠ 7:=by simpa using bQ
   refine qas [(1,.v (.int .i64 v)),(2,.v (.bool flex)),(5,.p 0 0),(8,.p 1 0),(9,.p 2 0),(49,.v (.int .i64 k1)),(70,.v (.bool (k1 == 10)))] aa bP fun mo da=>?_
   refine qan da (b:=k1 == 10) kz (ay) ?_
   refine qas [(1,.v (.int .i64 v)),(2,.v (.bool flex)),(5,.p 0 0),(8,.p 1 0),(9,.p 2 0),(79,.v (.bool (k1 == 11)))] aa da fun mp db=>?_
   refine qan db (b:=k1 == 11) kz (by simpa using bt) ?_
   refine wp_skip (qar (qab (qaE 8 kz aa fun mq jP dc fF=>?_)))
   refine qaB [0,1,2,3,4,5] (z94 aN k1 ac) 3 (qaa qad) (fun _ h=>h.cells) fF db fun mr fG=>?_
   refine qam (i:=6) kz (qak fG (f:=69) (vs:=[.int .i64 k1,.int .i64 ac]) (d:=122) kz Tryz.call69 (qgL k1 ac _) ?_)
   rintro e_ mt ⟨rfl,de⟩
   refine ⟨_,rfl,fun mu fH=>?_⟩
   have ba:=dc.next_nil de
   have fI:=dc.frN de
   have df:=TT.ofW fI ba
   refine ⟨fun _=>df,?_⟩
   refine qaB [7] [(123,.v (.bool (aN == (qbx k1 ac))))] 1 (qaa qad) (fun _ h=>h.cells) df fH fun mw fJ=>?_
   refine qam (i:=8) kz (qbf [10] ba.cells fJ (env':=[(10,.v (.bool (aN == (qbx k1 ac))))]) kz fun mx fK=>?_)
   refine ⟨fun h=>absurd rfl h,?_⟩
   refine qaz kz ?_ _
   refine qab (wp_ret (qaM fK ba.cells (v:=.bool (aN == (qbx k1 ac))) kz ?_))
   refine ⟨congrArg (fun b_=>Ending.returned (Value.bool b_)) ?_,ba.step⟩
   first
    | exact qeu hq ‹_› ‹_›
    | exact qev hq ‹_› ‹_›
    | exact to_u hq ‹_› ‹_›
    | exact to_m hq ‹_› ‹_› ‹_› ‹_› ‹_› ‹_›
  have jQ:=zF aP
  have fL:=cW.cast (env':=[(1,.v (.int .i64 v)),(2,.v (.bool flex)),(5,.p 0 0),(8,.p 1 0),(9,.p 2 0),(11,.v (.bool (Fld.nul (Fld.mk k1 y2 y3 y4 y5 y6 y7 l8) v (Tree.mk ac ab ae af ag)))),(41,.v (.bool false))]) (by rw [aP])
  refine qai [12,13,14,15,16] [] (z60 v flex k1 y2 y3 y4 y5 y6 y7 l8 ac ab ae af ag) aa fL fun my dg=>?_
  refine qae (qab ?_)
  refine qan dg (b:=false) kz rfl ?_
  refine wp_skip (qab (wp_seq (qas (z19 v flex k1 y2 y3 y4 y5 y6 y7 l8 ac ab ae af ag) aa dg fun mz bS=>?_)))
  refine qaw bS (b:=Fld.nul (Fld.mk k1 y2 y3 y4 y5 y6 y7 l8) v (Tree.mk ac ab ae af ag)) kz (fun fM=>?_) (fun fM=>?_)
  ·
   refine qas [(10,.v (.bool true))] aa bS fun mA fN=>?_
   refine wp_ret (qat (qaM fN aa.cells (v:=.bool true) kz ?_))
   exact ⟨rfl,aa.step⟩
  refine wp_skip (qab (wp_seq (qas (z17 v flex k1) aa bS fun mB fO=>?_)))
  refine wp_block (wp_seq (qas [(1,.v (.int .i64 v)),(2,.v (.bool flex)),(5,.p 0 0),(8,.p 1 0),(9,.p 2 0),(49,.v (.int .i64 k1)),(50,.v (.bool (k1 == 8)))] aa fO fun mC dh=>?_))
  refine qan dh (b:=k1 == 8) kz (ak) ?_
  refine qap [0,1] kz ?_
  refine qai [0,1] [] [(1,.v (.int .i64 v)),(2,.v (.bool flex)),(5,.p 0 0),(8,.p 1 0),(9,.p 2 0),(49,.v (.int .i64 k1)),(50,.v (.bool (k1 == 9)))] aa dh fun mD bT=>?_
  refine qae (qab ?_)
  refine qaw bT (b:=k1 == 9) kz (fun bU=>?_) (fun bU=>?_)
  ·
   have jR:k1 = 9:=by simpa using bU
   refine qaE 6 kz aa fun mF jS bd fP=>?_
   refine qaB [0,1,2,3] (z79 al ah.length am ai ab.length aj) 3 (qaa (qac (qaa qad))) (fun _ h=>h.cells) fP bT fun mG fQ=>?_
   have iY:=qbl ab
   refine qam (i:=4) kz (qak fQ (f:=37) (vs:=[.slice ai ab.length aj]) (d:=57) kz Tryz.call37 (qdN _ _ ab (aH.move bd.step nilM bd.imm).le _) ?_)
   rintro e_ mH ⟨rfl,di⟩
   refine ⟨_,rfl,fun mI fR=>?_⟩
   have aC:=bd.next_nil di
   have dj:=bd.frN di
   have fS:=TT.ofW dj aC
   refine ⟨fun _=>fS,?_⟩
   refine qam (i:=5) kz (qak fR (f:=36) (vs:=(z82 al ah.length am ai ab aj)) (d:=58) kz Tryz.call36 (qer _ _ _ _ ah (qaH ab) _ _ ((bq.move aC.step nilM aC.imm).move (Step.refl _ Nil) nilM allF) (((aH.take 32767).move aC.step nilM aC.imm).move (Step.refl _ Nil) nilM allF)) ?_)
   rintro e_ mJ ⟨rfl,dl⟩
   refine ⟨_,rfl,fun mK fT=>?_⟩
   have bf:=aC.next_nil dl
   have fU:=aC.frN dl
   have fV:=TT.ofW (dj.trans fU) bf
   refine ⟨fun _=>fV,?_⟩
   refine qam (i:=6) kz (qbf [10] bf.cells fT (env':=[(10,.v (.bool (decide (ah = (qaH ab)))))]) kz fun mL fW=>?_)
   refine ⟨fun h=>absurd rfl h,?_⟩
   refine qaz kz ?_ _
   refine qab (wp_ret (qay (qat (qaM fW bf.cells (v:=.bool (decide (ah = (qaH ab)))) kz ?_))))
   refine ⟨congrArg (fun b_=>Ending.returned (Value.bool b_)) ?_,bf.step⟩
   first
    | exact qeu hq ‹_› ‹_›
    | exact qev hq ‹_› ‹_›
    | exact to_u hq ‹_› ‹_›
    | exact to_m hq ‹_› ‹_› ‹_› ‹_› ‹_› ‹_›
  have jT:k1 ≠ 9:=by simpa using bU
  refine qas [(1,.v (.int .i64 v)),(2,.v (.bool flex)),(5,.p 0 0),(8,.p 1 0),(9,.p 2 0),(49,.v (.int .i64 k1)),(59,.v (.bool (k1 == 7)))] aa bT fun mM bV=>?_
  refine qaw bV (b:=k1 == 7) kz (fun bW=>?_) (fun bW=>?_)
  ·
   have jU:k1 = 7:=by simpa using bW
   refine qaf [0,1] kz ?_
   refine qal (qcK aa bV (d:=61) (j:=16) (t:=22) (e:=5) (bytes:=1) (z:=.int .u8 0) kz kz kz kz (rfl) (rfl) (by omega) fun av mN mO jV jW jX aR fX=>?_)
   refine qai [1] [] (z46 av) aR fX fun mQ fY=>?_
   refine qae (qab ?_)
   refine qaf [0,1,2,3] kz ?_
   refine qai [0,1,2] [3] (z28 av ai ab.length aj) aR fY fun mR fZ=>?_
   refine qal (qc1 aR fZ (k:=0) (d:=65) (t:=22) (u:=22) (e:=5) (bytes:=1) (A:=(some ⟨av,0,none⟩)) (As:=ai) (m:=ab.length) (cs:=aj) (m0:=16) (c:=16) (xs:=(List.replicate 16 (.int .u8 0))) (news:=bc ab) kz kz rfl (aH.move aR.step nilM aR.imm).src fun mS mT jY f5 f7=>?_)
   have f8:(⟨(some ⟨av,0,none⟩),16,5,1,16,qbt (List.replicate 16 (.int .u8 0)) 0 ((bc ab).take (min ab.length 16))⟩:Rw) = brow (some ⟨av,0,none⟩) 16 5 (qbz ab):=qdV _ _ _
   obtain ⟨aK,jZ⟩:=f5.rowEq 0 [brow (some ⟨av,0,none⟩) 16 5 (qbz ab)] f8
   have f9:=EnvOk.pick f7 (ks:=[9,13,62,64,65]) (env':=(z20 av ai ab.length aj)) kz
   have ga:=f9.cast (env':=[(9,.p 2 0),(13,.v (.slice (some ⟨av,0,none⟩) ((qbz ab).length) 16)),(62,.v (.slice (some ⟨av,0,none⟩) ((qbz ab).length) 16)),(64,.v (.slice ai ab.length aj)),(65,.v (.int .i64 ((min ab.length 16:Nat):Int)))]) (by rw [qbp _])
   refine qae (qab ?_)
   refine qaf [0,1,2,3,4] kz ?_
   refine qai [0,1,2] [3,4] (z48 al ah.length am av ab) aK ga fun mU gb=>?_
   refine qal (qak gb (f:=36) (vs:=[.slice al ah.length am,.slice (some ⟨av,0,none⟩) ((qbz ab).length) 16]) (d:=69) kz Tryz.call36 (qer _ _ _ _ ah (qbz ab) _ _ ((bq.move aK.step nilM aK.imm).move (Step.refl _ Nil) nilM allF) (qcA (aK.own 0 _ rfl) (by first | omega | (rw [qbp]; decide) | (simp only [be_length]; exact Nat.le_trans (qbM _) (by decide)) | (have:=hroom; omega) | (have:=hmade; omega) | (simp only [List.length_append,List.length_nil]; omega)) (F:=fun _ _=>True) (fun _ _ _=>trivial))) ?_)
   rintro e_ mV ⟨rfl,dp⟩
   refine ⟨_,rfl,fun mW gc=>?_⟩
   have bX:=aK.next_nil dp
   have j0:=aK.frN dp
   refine qai [4] [] [(10,.v (.bool (decide (ah = qbz ab))))] bX gc fun mX gd=>?_
   refine qae (qab ?_)
   refine wp_ret (qay (qat (qaM gd bX.cells (v:=.bool (decide (ah = qbz ab))) kz ?_)))
   refine ⟨congrArg (fun b_=>Ending.returned (Value.bool b_)) ?_,bX.step⟩
   first
    | exact qeu hq ‹_› ‹_›
    | exact qev hq ‹_› ‹_›
    | exact to_u hq ‹_› ‹_›
    | exact to_m hq ‹_› ‹_› ‹_› ‹_› ‹_› ‹_›
  have j1:k1 ≠ 7:=by simpa using bW
  refine qas [(1,.v (.int .i64 v)),(2,.v (.bool flex)),(5,.p 0 0),(8,.p 1 0),(9,.p 2 0),(49,.v (.int .i64 k1)),(70,.v (.bool (k1 == 10)))] aa bV fun mY dq=>?_
  refine qan dq (b:=k1 == 10) kz (ay) ?_
  refine qas [(1,.v (.int .i64 v)),(2,.v (.bool flex)),(5,.p 0 0),(8,.p 1 0),(9,.p 2 0),(79,.v (.bool (k1 == 11)))] aa dq fun mZ dr=>?_
  refine qan dr (b:=k1 == 11) kz (by simpa using bt) ?_
  refine wp_skip (qar (qab (qaE 8 kz aa fun m4 j2 dt ge=>?_)))
  refine qaB [0,1,2,3,4,5] (z94 aN k1 ac) 3 (qaa qad) (fun _ h=>h.cells) ge dr fun m5 gg=>?_
  refine qam (i:=6) kz (qak gg (f:=69) (vs:=[.int .i64 k1,.int .i64 ac]) (d:=122) kz Tryz.call69 (qgL k1 ac _) ?_)
  rintro e_ m6 ⟨rfl,du⟩
  refine ⟨_,rfl,fun m7 gh=>?_⟩
  have bg:=dt.next_nil du
  have gi:=dt.frN du
  have dv:=TT.ofW gi bg
  refine ⟨fun _=>dv,?_⟩
  refine qaB [7] [(123,.v (.bool (aN == (qbx k1 ac))))] 1 (qaa qad) (fun _ h=>h.cells) dv gh fun m8 gj=>?_
  refine qam (i:=8) kz (qbf [10] bg.cells gj (env':=[(10,.v (.bool (aN == (qbx k1 ac))))]) kz fun m9 gk=>?_)
  refine ⟨fun h=>absurd rfl h,?_⟩
  refine qaz kz ?_ _
  refine qab (wp_ret (qaM gk bg.cells (v:=.bool (aN == (qbx k1 ac))) kz ?_))
  refine ⟨congrArg (fun b_=>Ending.returned (Value.bool b_)) ?_,bg.step⟩
  first
   | exact qeu hq ‹_› ‹_›
   | exact qev hq ‹_› ‹_›
   | exact to_u hq ‹_› ‹_›
   | exact to_m hq ‹_› ‹_› ‹_› ‹_› ‹_› ‹_›
 have j3:=zF bu
 have gl:=eb.cast (env':=[(1,.v (.int .i64 v)),(2,.v (.bool flex)),(5,.p 0 0),(8,.p 1 0),(9,.p 2 0),(11,.v (.bool (Fld.nul (Fld.mk k1 y2 y3 y4 y5 y6 y7 l8) v (Tree.mk ac ab ae af ag)))),(24,.v (.bool false))]) (by rw [bu])
 refine qai [4,5,6,7,8,9] [] [(1,.v (.int .i64 v)),(2,.v (.bool flex)),(5,.p 0 0),(8,.p 1 0),(9,.p 2 0),(11,.v (.bool (z4 k1 y2 y3 y4 y5 y6 y7 l8 v ac ab ae af ag))),(12,.v (.bool false))] aa gl fun nf gm=>?_
 refine qae (qab ?_)
 refine wp_seq (qaf [0,1,2,3,4,5,6,7,8,9,10,11,12,13,14,15,16] kz ?_)
 refine qai [0,1,2,3] [4,5,6,7,8,9,10,11,12,13,14,15,16] [(1,.v (.int .i64 v)),(2,.v (.bool flex)),(5,.p 0 0),(8,.p 1 0),(9,.p 2 0),(11,.v (.bool (z4 k1 y2 y3 y4 y5 y6 y7 l8 v ac ab ae af ag))),(12,.v (.bool false)),(33,.v (.bool (k1 == 8)))] aa gm fun ng dw=>?_
 refine (zO (k1 == 8)).elim (fun ao=>?_) (fun ao=>?_)
 ·
  have j4:k1 = 8:=by simpa using ao
  have gn:=dw
  rw [ao] at gn
  refine qai [4,5,6,7,8,9,10,11,12,13,14,15,16] [] [(1,.v (.int .i64 v)),(2,.v (.bool flex)),(5,.p 0 0),(8,.p 1 0),(9,.p 2 0),(11,.v (.bool (z4 k1 y2 y3 y4 y5 y6 y7 l8 v ac ab ae af ag))),(46,.v (.bool (!(ap == (z4 k1 y2 y3 y4 y5 y6 y7 l8 v ac ab ae af ag)))))] aa gn fun nh bY=>?_
  refine qae (qab ?_)
  refine qaw bY (b:=!(ap == (z4 k1 y2 y3 y4 y5 y6 y7 l8 v ac ab ae af ag))) kz (fun bZ=>?_) (fun bZ=>?_)
  ·
   have j5:!(ap = (Fld.nul (Fld.mk k1 y2 y3 y4 y5 y6 y7 l8) v (Tree.mk ac ab ae af ag))):=by simpa using bZ
   refine qas [(10,.v (.bool false))] aa bY fun ni gp=>?_
   refine wp_ret (qat (qaM gp aa.cells (v:=.bool false) kz ?_))
   first
    | exact (qjQ hq ‹_› ‹_›).elim
    | exact (qhj hq ‹_› ‹_›).elim
    | exact (qgI hq ‹_› ‹_› ‹_›).elim
  have j6:!(ap ≠ (Fld.nul (Fld.mk k1 y2 y3 y4 y5 y6 y7 l8) v (Tree.mk ac ab ae af ag))):=by simpa using bZ
  refine wp_skip (qab (wp_seq (qas (z19 v flex k1 y2 y3 y4 y5 y6 y7 l8 ac ab ae af ag) aa bY fun nj b8=>?_)))
  refine qaw b8 (b:=Fld.nul (Fld.mk k1 y2 y3 y4 y5 y6 y7 l8) v (Tree.mk ac ab ae af ag)) kz (fun gq=>?_) (fun gq=>?_)
  ·
   refine qas [(10,.v (.bool true))] aa b8 fun nk gt=>?_
   refine wp_ret (qat (qaM gt aa.cells (v:=.bool true) kz ?_))
   exact ⟨rfl,aa.step⟩
  refine wp_skip (qab (wp_seq (qas (z17 v flex k1) aa b8 fun nl gv=>?_)))
  refine wp_block (wp_seq (qas [(1,.v (.int .i64 v)),(2,.v (.bool flex)),(5,.p 0 0),(8,.p 1 0),(9,.p 2 0),(49,.v (.int .i64 k1)),(50,.v (.bool (k1 == 8)))] aa gv fun nm cd=>?_))
  refine qa7 cd (b:=k1 == 8) kz (ao) ?_
  refine wp_skip (qab (qa7 cd (b:=k1 == 8) kz (ao) ?_))
  refine qaE 6 kz aa fun np j7 bh gw=>?_
  refine qaB [0,1,2,3] (z79 al ah.length am ai ab.length aj) 3 (qaa (qac (qaa qad))) (fun _ h=>h.cells) gw cd fun nr gx=>?_
  have iZ:=qbl ab
  refine qam (i:=4) kz (qak gx (f:=37) (vs:=[.slice ai ab.length aj]) (d:=57) kz Tryz.call37 (qdN _ _ ab (aH.move bh.step nilM bh.imm).le _) ?_)
  rintro e_ ns ⟨rfl,dx⟩
  refine ⟨_,rfl,fun nt gy=>?_⟩
  have aD:=bh.next_nil dx
  have dy:=bh.frN dx
  have gz:=TT.ofW dy aD
  refine ⟨fun _=>gz,?_⟩
  refine qam (i:=5) kz (qak gy (f:=36) (vs:=(z82 al ah.length am ai ab aj)) (d:=58) kz Tryz.call36 (qer _ _ _ _ ah (qaH ab) _ _ ((bq.move aD.step nilM aD.imm).move (Step.refl _ Nil) nilM allF) (((aH.take 32767).move aD.step nilM aD.imm).move (Step.refl _ Nil) nilM allF)) ?_)
  rintro e_ nu ⟨rfl,dz⟩
  refine ⟨_,rfl,fun nv gA=>?_⟩
  have bi:=aD.next_nil dz
  have gB:=aD.frN dz
  have gC:=TT.ofW (dy.trans gB) bi
  refine ⟨fun _=>gC,?_⟩
  refine qam (i:=6) kz (qbf [10] bi.cells gA (env':=[(10,.v (.bool (decide (ah = (qaH ab)))))]) kz fun nw gD=>?_)
  refine ⟨fun h=>absurd rfl h,?_⟩
  refine qaz kz ?_ _
  refine qab (wp_ret (qay (qat (qaM gD bi.cells (v:=.bool (decide (ah = (qaH ab)))) kz ?_))))
  refine ⟨congrArg (fun b_=>Ending.returned (Value.bool b_)) ?_,bi.step⟩
  first
   | exact qeu hq ‹_› ‹_›
   | exact qev hq ‹_› ‹_›
   | exact to_u hq ‹_› ‹_›
   | exact to_m hq ‹_› ‹_› ‹_› ‹_› ‹_› ‹_›
 have j8:k1 ≠ 8:=by simpa using ao
 have gE:=dw.cast (env':=[(1,.v (.int .i64 v)),(2,.v (.bool flex)),(5,.p 0 0),(8,.p 1 0),(9,.p 2 0),(11,.v (.bool (Fld.nul (Fld.mk k1 y2 y3 y4 y5 y6 y7 l8) v (Tree.mk ac ab ae af ag)))),(12,.v (.bool false)),(33,.v (.bool false))]) (by rw [ao])
 refine qai [4,5,6,7,8] [9,10,11,12,13,14,15,16] [(1,.v (.int .i64 v)),(2,.v (.bool flex)),(5,.p 0 0),(8,.p 1 0),(9,.p 2 0),(11,.v (.bool (z4 k1 y2 y3 y4 y5 y6 y7 l8 v ac ab ae af ag))),(12,.v (.bool false)),(38,.v (.bool (k1 == 10)))] aa gE fun nx dA=>?_
 refine (zO (k1 == 10)).elim (fun aE=>?_) (fun aE=>?_)
 ·
  have j9:k1 = 10:=by simpa using aE
  have gF:=dA
  rw [aE] at gF
  refine qai [9,10,11,12,13,14,15,16] [] [(1,.v (.int .i64 v)),(2,.v (.bool flex)),(5,.p 0 0),(8,.p 1 0),(9,.p 2 0),(11,.v (.bool (z4 k1 y2 y3 y4 y5 y6 y7 l8 v ac ab ae af ag))),(46,.v (.bool (!(ap == (z4 k1 y2 y3 y4 y5 y6 y7 l8 v ac ab ae af ag)))))] aa gF fun ny ce=>?_
  refine qae (qab ?_)
  refine qaw ce (b:=!(ap == (z4 k1 y2 y3 y4 y5 y6 y7 l8 v ac ab ae af ag))) kz (fun cm=>?_) (fun cm=>?_)
  ·
   have ka:!(ap = (Fld.nul (Fld.mk k1 y2 y3 y4 y5 y6 y7 l8) v (Tree.mk ac ab ae af ag))):=by simpa using cm
   refine qas [(10,.v (.bool false))] aa ce fun nz gG=>?_
   refine wp_ret (qat (qaM gG aa.cells (v:=.bool false) kz ?_))
   first
    | exact (qjQ hq ‹_› ‹_›).elim
    | exact (qhj hq ‹_› ‹_›).elim
    | exact (qgI hq ‹_› ‹_› ‹_›).elim
  have kd:!(ap ≠ (Fld.nul (Fld.mk k1 y2 y3 y4 y5 y6 y7 l8) v (Tree.mk ac ab ae af ag))):=by simpa using cm
  refine wp_skip (qab (wp_seq (qas (z19 v flex k1 y2 y3 y4 y5 y6 y7 l8 ac ab ae af ag) aa ce fun nA cq=>?_)))
  refine qaw cq (b:=Fld.nul (Fld.mk k1 y2 y3 y4 y5 y6 y7 l8) v (Tree.mk ac ab ae af ag)) kz (fun gH=>?_) (fun gH=>?_)
  ·
   refine qas [(10,.v (.bool true))] aa cq fun nB gI=>?_
   refine wp_ret (qat (qaM gI aa.cells (v:=.bool true) kz ?_))
   exact ⟨rfl,aa.step⟩
  refine wp_skip (qab (wp_seq (qas (z17 v flex k1) aa cq fun nC gJ=>?_)))
  refine wp_block (wp_seq (qas [(1,.v (.int .i64 v)),(2,.v (.bool flex)),(5,.p 0 0),(8,.p 1 0),(9,.p 2 0),(49,.v (.int .i64 k1)),(50,.v (.bool (k1 == 8)))] aa gJ fun nD dB=>?_))
  refine qan dB (b:=k1 == 8) kz (ao) ?_
  refine qap [0,1] kz ?_
  refine qai [0,1] [] [(1,.v (.int .i64 v)),(2,.v (.bool flex)),(5,.p 0 0),(8,.p 1 0),(9,.p 2 0),(49,.v (.int .i64 k1)),(50,.v (.bool (k1 == 9)))] aa dB fun nE cr=>?_
  refine qae (qab ?_)
  refine qaw cr (b:=k1 == 9) kz (fun cu=>?_) (fun cu=>?_)
  ·
   have ke:k1 = 9:=by simpa using cu
   refine qaE 6 kz aa fun nF kf bj gK=>?_
   refine qaB [0,1,2,3] (z79 al ah.length am ai ab.length aj) 3 (qaa (qac (qaa qad))) (fun _ h=>h.cells) gK cr fun nG gL=>?_
   have i6:=qbl ab
   refine qam (i:=4) kz (qak gL (f:=37) (vs:=[.slice ai ab.length aj]) (d:=57) kz Tryz.call37 (qdN _ _ ab (aH.move bj.step nilM bj.imm).le _) ?_)
   rintro e_ nH ⟨rfl,dC⟩
   refine ⟨_,rfl,fun nI gM=>?_⟩
   have aF:=bj.next_nil dC
   have dD:=bj.frN dC
   have gN:=TT.ofW dD aF
   refine ⟨fun _=>gN,?_⟩
   refine qam (i:=5) kz (qak gM (f:=36) (vs:=(z82 al ah.length am ai ab aj)) (d:=58) kz Tryz.call36 (qer _ _ _ _ ah (qaH ab) _ _ ((bq.move aF.step nilM aF.imm).move (Step.refl _ Nil) nilM allF) (((aH.take 32767).move aF.step nilM aF.imm).move (Step.refl _ Nil) nilM allF)) ?_)
   rintro e_ nJ ⟨rfl,dE⟩
   refine ⟨_,rfl,fun nK gO=>?_⟩
   have bk:=aF.next_nil dE
   have gP:=aF.frN dE
   have gQ:=TT.ofW (dD.trans gP) bk
   refine ⟨fun _=>gQ,?_⟩
   refine qam (i:=6) kz (qbf [10] bk.cells gO (env':=[(10,.v (.bool (decide (ah = (qaH ab)))))]) kz fun nL gR=>?_)
   refine ⟨fun h=>absurd rfl h,?_⟩
   refine qaz kz ?_ _
   refine qab (wp_ret (qay (qat (qaM gR bk.cells (v:=.bool (decide (ah = (qaH ab)))) kz ?_))))
   refine ⟨congrArg (fun b_=>Ending.returned (Value.bool b_)) ?_,bk.step⟩
   first
    | exact qeu hq ‹_› ‹_›
    | exact qev hq ‹_› ‹_›
    | exact to_u hq ‹_› ‹_›
    | exact to_m hq ‹_› ‹_› ‹_› ‹_› ‹_› ‹_›
  have kg:k1 ≠ 9:=by simpa using cu
  refine qas [(1,.v (.int .i64 v)),(2,.v (.bool flex)),(5,.p 0 0),(8,.p 1 0),(9,.p 2 0),(49,.v (.int .i64 k1)),(59,.v (.bool (k1 == 7)))] aa cr fun nM cw=>?_
  refine qaw cw (b:=k1 == 7) kz (fun cz=>?_) (fun cz=>?_)
  ·
   have kh:k1 = 7:=by simpa using cz
   refine qaf [0,1] kz ?_
   refine qal (qcK aa cw (d:=61) (j:=16) (t:=22) (e:=5) (bytes:=1) (z:=.int .u8 0) kz kz kz kz (rfl) (rfl) (by omega) fun aw nN nO ki kj km aS gS=>?_)
   refine qai [1] [] (z46 aw) aS gS fun nP gT=>?_
   refine qae (qab ?_)
   refine qaf [0,1,2,3] kz ?_
   refine qai [0,1,2] [3] (z28 aw ai ab.length aj) aS gT fun nQ gU=>?_
   refine qal (qc1 aS gU (k:=0) (d:=65) (t:=22) (u:=22) (e:=5) (bytes:=1) (A:=(some ⟨aw,0,none⟩)) (As:=ai) (m:=ab.length) (cs:=aj) (m0:=16) (c:=16) (xs:=(List.replicate 16 (.int .u8 0))) (news:=bc ab) kz kz rfl (aH.move aS.step nilM aS.imm).src fun nR nS ko gV gW=>?_)
   have gX:(⟨(some ⟨aw,0,none⟩),16,5,1,16,qbt (List.replicate 16 (.int .u8 0)) 0 ((bc ab).take (min ab.length 16))⟩:Rw) = brow (some ⟨aw,0,none⟩) 16 5 (qbz ab):=qdV _ _ _
   obtain ⟨aL,kp⟩:=gV.rowEq 0 [brow (some ⟨aw,0,none⟩) 16 5 (qbz ab)] gX
   have gY:=EnvOk.pick gW (ks:=[9,13,62,64,65]) (env':=(z20 aw ai ab.length aj)) kz
   have gZ:=gY.cast (env':=[(9,.p 2 0),(13,.v (.slice (some ⟨aw,0,none⟩) ((qbz ab).length) 16)),(62,.v (.slice (some ⟨aw,0,none⟩) ((qbz ab).length) 16)),(64,.v (.slice ai ab.length aj)),(65,.v (.int .i64 ((min ab.length 16:Nat):Int)))]) (by rw [qbp _])
   refine qae (qab ?_)
   refine qaf [0,1,2,3,4] kz ?_
   refine qai [0,1,2] [3,4] (z48 al ah.length am aw ab) aL gZ fun nT g7=>?_
   refine qal (qak g7 (f:=36) (vs:=[.slice al ah.length am,.slice (some ⟨aw,0,none⟩) ((qbz ab).length) 16]) (d:=69) kz Tryz.call36 (qer _ _ _ _ ah (qbz ab) _ _ ((bq.move aL.step nilM aL.imm).move (Step.refl _ Nil) nilM allF) (qcA (aL.own 0 _ rfl) (by first | omega | (rw [qbp]; decide) | (simp only [be_length]; exact Nat.le_trans (qbM _) (by decide)) | (have:=hroom; omega) | (have:=hmade; omega) | (simp only [List.length_append,List.length_nil]; omega)) (F:=fun _ _=>True) (fun _ _ _=>trivial))) ?_)
   rintro e_ nU ⟨rfl,dF⟩
   refine ⟨_,rfl,fun nV g8=>?_⟩
   have cA:=aL.next_nil dF
   have kq:=aL.frN dF
   refine qai [4] [] [(10,.v (.bool (decide (ah = qbz ab))))] cA g8 fun nW g9=>?_
   refine qae (qab ?_)
   refine wp_ret (qay (qat (qaM g9 cA.cells (v:=.bool (decide (ah = qbz ab))) kz ?_)))
   refine ⟨congrArg (fun b_=>Ending.returned (Value.bool b_)) ?_,cA.step⟩
   first
    | exact qeu hq ‹_› ‹_›
    | exact qev hq ‹_› ‹_›
    | exact to_u hq ‹_› ‹_›
    | exact to_m hq ‹_› ‹_› ‹_› ‹_› ‹_› ‹_›
  have ku:k1 ≠ 7:=by simpa using cz
  refine qas [(1,.v (.int .i64 v)),(2,.v (.bool flex)),(5,.p 0 0),(8,.p 1 0),(9,.p 2 0),(49,.v (.int .i64 k1)),(70,.v (.bool (k1 == 10)))] aa cw fun nX dG=>?_
  refine qa7 dG (b:=k1 == 10) kz (aE) ?_
  refine qaf [0,1,2,3,4,5,6,7] kz ?_
  refine qai [0,1,2,3,4,5] [6,7] [(73,.v (.slice A9 l8.length dT)),(74,.v (.int .i64 v)),(75,.v (.bool flex)),(76,.v (.agg #[.int .i64 ac,.slice ai ab.length aj,.bool ae,.slice dU af.length dV,.slice dW ag.length dX])),(77,.v (.agg #[.int .i64 aN,.slice al ah.length am,.bool ap,.slice d6 dY.length d7,.slice d8 dZ.length d9]))] aa dG fun nY hC=>?_
  refine qal (qak hC (f:=12) (vs:=[.slice A9 l8.length dT,.int .i64 v,.bool flex,.agg #[.int .i64 ac,.slice ai ab.length aj,.bool ae,.slice dU af.length dV,.slice dW ag.length dX],.agg #[.int .i64 aN,.slice al ah.length am,.bool ap,.slice d6 dY.length d7,.slice d8 dZ.length d9]]) (d:=78) kz Tryz.call12 ( hT _ _ l8 _ (Tree.mk ac ab ae af ag) _ (Tree.mk aN ah ap dY dZ) _ _ ⟨d5,(iJ.move aa.step nilM aa.imm),(fun i_ x_ h_=>((ja i_ x_ h_).move aa.step nilM aa.imm))⟩ (ht.move aa.step nilM aa.imm) (hg.move aa.step nilM aa.imm) hpl (qjR hq ‹_› ‹_›)) ?_)
  rintro e_ nZ ⟨rfl,dH⟩
  refine ⟨_,rfl,fun n0 hJ=>?_⟩
  have cB:=aa.next_nil dH
  have kv:=aa.frN dH
  refine qai [7] [] [(10,.v (.bool true))] cB hJ fun n4 hK=>?_
  refine qae (qab ?_)
  refine wp_ret (qay (qat (qaM hK cB.cells (v:=.bool true) kz ?_)))
  exact ⟨rfl,cB.step⟩
 have kw:k1 ≠ 10:=by simpa using aE
 have hZ:=dA.cast (env':=[(1,.v (.int .i64 v)),(2,.v (.bool flex)),(5,.p 0 0),(8,.p 1 0),(9,.p 2 0),(11,.v (.bool (Fld.nul (Fld.mk k1 y2 y3 y4 y5 y6 y7 l8) v (Tree.mk ac ab ae af ag)))),(12,.v (.bool false)),(38,.v (.bool false))]) (by rw [aE])
 refine qai [9,10,11,12,13,14,15,16] [] (z60 v flex k1 y2 y3 y4 y5 y6 y7 l8 ac ab ae af ag) aa hZ fun n5 dI=>?_
 refine qae (qab ?_)
 refine qan dI (b:=false) kz rfl ?_
 refine wp_skip (qab (wp_seq (qas (z19 v flex k1 y2 y3 y4 y5 y6 y7 l8 ac ab ae af ag) aa dI fun n8 cC=>?_)))
 refine qaw cC (b:=Fld.nul (Fld.mk k1 y2 y3 y4 y5 y6 y7 l8) v (Tree.mk ac ab ae af ag)) kz (fun ia=>?_) (fun ia=>?_)
 ·
  refine qas [(10,.v (.bool true))] aa cC fun oa ib=>?_
  refine wp_ret (qat (qaM ib aa.cells (v:=.bool true) kz ?_))
  exact ⟨rfl,aa.step⟩
 refine wp_skip (qab (wp_seq (qas (z17 v flex k1) aa cC fun od ic=>?_)))
 refine wp_block (wp_seq (qas [(1,.v (.int .i64 v)),(2,.v (.bool flex)),(5,.p 0 0),(8,.p 1 0),(9,.p 2 0),(49,.v (.int .i64 k1)),(50,.v (.bool (k1 == 8)))] aa ic fun oe dJ=>?_))
 refine qan dJ (b:=k1 == 8) kz (ao) ?_
 refine qap [0,1] kz ?_
 refine qai [0,1] [] [(1,.v (.int .i64 v)),(2,.v (.bool flex)),(5,.p 0 0),(8,.p 1 0),(9,.p 2 0),(49,.v (.int .i64 k1)),(50,.v (.bool (k1 == 9)))] aa dJ fun og cD=>?_
 refine qae (qab ?_)
 refine qaw cD (b:=k1 == 9) kz (fun cE=>?_) (fun cE=>?_)
 ·
  have kx:k1 = 9:=by simpa using cE
  refine qaE 6 kz aa fun oh ky bn ig=>?_
  refine qaB [0,1,2,3] (z79 al ah.length am ai ab.length aj) 3 (qaa (qac (qaa qad))) (fun _ h=>h.cells) ig cD fun ol ii=>?_
  have i7:=qbl ab
  refine qam (i:=4) kz (qak ii (f:=37) (vs:=[.slice ai ab.length aj]) (d:=57) kz Tryz.call37 (qdN _ _ ab (aH.move bn.step nilM bn.imm).le _) ?_)
  rintro e_ om ⟨rfl,dK⟩
  refine ⟨_,rfl,fun oq ij=>?_⟩
  have aG:=bn.next_nil dK
  have dL:=bn.frN dK
  have ik:=TT.ofW dL aG
  refine ⟨fun _=>ik,?_⟩
  refine qam (i:=5) kz (qak ij (f:=36) (vs:=(z82 al ah.length am ai ab aj)) (d:=58) kz Tryz.call36 (qer _ _ _ _ ah (qaH ab) _ _ ((bq.move aG.step nilM aG.imm).move (Step.refl _ Nil) nilM allF) (((aH.take 32767).move aG.step nilM aG.imm).move (Step.refl _ Nil) nilM allF)) ?_)
  rintro e_ ot ⟨rfl,dM⟩
  refine ⟨_,rfl,fun ou il=>?_⟩
  have bo:=aG.next_nil dM
  have im:=aG.frN dM
  have io:=TT.ofW (dL.trans im) bo
  refine ⟨fun _=>io,?_⟩
  refine qam (i:=6) kz (qbf [10] bo.cells il (env':=[(10,.v (.bool (decide (ah = (qaH ab)))))]) kz fun ov ip=>?_)
  refine ⟨fun h=>absurd rfl h,?_⟩
  refine qaz kz ?_ _
  refine qab (wp_ret (qay (qat (qaM ip bo.cells (v:=.bool (decide (ah = (qaH ab)))) kz ?_))))
  refine ⟨congrArg (fun b_=>Ending.returned (Value.bool b_)) ?_,bo.step⟩
  first
   | exact qeu hq ‹_› ‹_›
   | exact qev hq ‹_› ‹_›
   | exact to_u hq ‹_› ‹_›
   | exact to_m hq ‹_› ‹_› ‹_› ‹_› ‹_› ‹_›
 have kA:k1 ≠ 9:=by simpa using cE
 refine qas [(1,.v (.int .i64 v)),(2,.v (.bool flex)),(5,.p 0 0),(8,.p 1 0),(9,.p 2 0),(49,.v (.int .i64 k1)),(59,.v (.bool (k1 == 7)))] aa cD fun ow cG=>?_
 refine qaw cG (b:=k1 == 7) kz (fun cH=>?_) (fun cH=>?_)
 ·
  have kB:k1 = 7:=by simpa using cH
  refine qaf [0,1] kz ?_
  refine qal (qcK aa cG (d:=61) (j:=16) (t:=22) (e:=5) (bytes:=1) (z:=.int .u8 0) kz kz kz kz (rfl) (rfl) (by omega) fun ax ox oy kC kD kE aT iq=>?_)
  refine qai [1] [] (z46 ax) aT iq fun oz ir=>?_
  refine qae (qab ?_)
  refine qaf [0,1,2,3] kz ?_
  refine qai [0,1,2] [3] (z28 ax ai ab.length aj) aT ir fun oA iu=>?_
  refine qal (qc1 aT iu (k:=0) (d:=65) (t:=22) (u:=22) (e:=5) (bytes:=1) (A:=(some ⟨ax,0,none⟩)) (As:=ai) (m:=ab.length) (cs:=aj) (m0:=16) (c:=16) (xs:=(List.replicate 16 (.int .u8 0))) (news:=bc ab) kz kz rfl (aH.move aT.step nilM aT.imm).src fun oB oC kF iv iw=>?_)
  have ix:(⟨(some ⟨ax,0,none⟩),16,5,1,16,qbt (List.replicate 16 (.int .u8 0)) 0 ((bc ab).take (min ab.length 16))⟩:Rw) = brow (some ⟨ax,0,none⟩) 16 5 (qbz ab):=qdV _ _ _
  obtain ⟨aM,kG⟩:=iv.rowEq 0 [brow (some ⟨ax,0,none⟩) 16 5 (qbz ab)] ix
  have iy:=EnvOk.pick iw (ks:=[9,13,62,64,65]) (env':=(z20 ax ai ab.length aj)) kz
  have iz:=iy.cast (env':=[(9,.p 2 0),(13,.v (.slice (some ⟨ax,0,none⟩) ((qbz ab).length) 16)),(62,.v (.slice (some ⟨ax,0,none⟩) ((qbz ab).length) 16)),(64,.v (.slice ai ab.length aj)),(65,.v (.int .i64 ((min ab.length 16:Nat):Int)))]) (by rw [qbp _])
  refine qae (qab ?_)
  refine qaf [0,1,2,3,4] kz ?_
  refine qai [0,1,2] [3,4] (z48 al ah.length am ax ab) aM iz fun oD iA=>?_
  refine qal (qak iA (f:=36) (vs:=[.slice al ah.length am,.slice (some ⟨ax,0,none⟩) ((qbz ab).length) 16]) (d:=69) kz Tryz.call36 (qer _ _ _ _ ah (qbz ab) _ _ ((bq.move aM.step nilM aM.imm).move (Step.refl _ Nil) nilM allF) (qcA (aM.own 0 _ rfl) (by first | omega | (rw [qbp]; decide) | (simp only [be_length]; exact Nat.le_trans (qbM _) (by decide)) | (have:=hroom; omega) | (have:=hmade; omega) | (simp only [List.length_append,List.length_nil]; omega)) (F:=fun _ _=>True) (fun _ _ _=>trivial))) ?_)
  rintro e_ oE ⟨rfl,dN⟩
  refine ⟨_,rfl,fun oF iB=>?_⟩
  have cI:=aM.next_nil dN
  have kH:=aM.frN dN
  refine qai [4] [] [(10,.v (.bool (decide (ah = qbz ab))))] cI iB fun oG iC=>?_
  refine qae (qab ?_)
  refine wp_ret (qay (qat (qaM iC cI.cells (v:=.bool (decide (ah = qbz ab))) kz ?_)))
  refine ⟨congrArg (fun b_=>Ending.returned (Value.bool b_)) ?_,cI.step⟩
  first
   | exact qeu hq ‹_› ‹_›
   | exact qev hq ‹_› ‹_›
   | exact to_u hq ‹_› ‹_›
   | exact to_m hq ‹_› ‹_› ‹_› ‹_› ‹_› ‹_›
 have kI:k1 ≠ 7:=by simpa using cH
 refine qas [(1,.v (.int .i64 v)),(2,.v (.bool flex)),(5,.p 0 0),(8,.p 1 0),(9,.p 2 0),(49,.v (.int .i64 k1)),(70,.v (.bool (k1 == 10)))] aa cG fun oH dO=>?_
 refine qan dO (b:=k1 == 10) kz (aE) ?_
 refine qas [(1,.v (.int .i64 v)),(2,.v (.bool flex)),(5,.p 0 0),(8,.p 1 0),(9,.p 2 0),(79,.v (.bool (k1 == 11)))] aa dO fun oI dP=>?_
 refine qan dP (b:=k1 == 11) kz (by simpa using bt) ?_
 refine wp_skip (qar (qab (qaE 8 kz aa fun oJ kJ dQ iD=>?_)))
 refine qaB [0,1,2,3,4,5] (z94 aN k1 ac) 3 (qaa qad) (fun _ h=>h.cells) iD dP fun oK iE=>?_
 refine qam (i:=6) kz (qak iE (f:=69) (vs:=[.int .i64 k1,.int .i64 ac]) (d:=122) kz Tryz.call69 (qgL k1 ac _) ?_)
 rintro e_ oL ⟨rfl,dR⟩
 refine ⟨_,rfl,fun oM iF=>?_⟩
 have bp:=dQ.next_nil dR
 have iG:=dQ.frN dR
 have dS:=TT.ofW iG bp
 refine ⟨fun _=>dS,?_⟩
 refine qaB [7] [(123,.v (.bool (aN == (qbx k1 ac))))] 1 (qaa qad) (fun _ h=>h.cells) dS iF fun oN iH=>?_
 refine qam (i:=8) kz (qbf [10] bp.cells iH (env':=[(10,.v (.bool (aN == (qbx k1 ac))))]) kz fun oO iI=>?_)
 refine ⟨fun h=>absurd rfl h,?_⟩
 refine qaz kz ?_ _
 refine qab (wp_ret (qaM iI bp.cells (v:=.bool (aN == (qbx k1 ac))) kz ?_))
 refine ⟨congrArg (fun b_=>Ending.returned (Value.bool b_)) ?_,bp.step⟩
 first
  | exact qeu hq ‹_› ‹_›
  | exact qev hq ‹_› ‹_›
  | exact to_u hq ‹_› ‹_›
  | exact to_m hq ‹_› ‹_› ‹_› ‹_› ‹_› ‹_›
abbrev z16 (x0) (x1) (x2) (x3) (x4) (x5) (x6) (x7) (x8) (x9) (x10) (x11) (x12) (x13) (x14) (x15):=([(1,.v (.int .i64 x0)),(2,.v (.bool x1)),(9,.p 2 0),(14,.v (.slice x2 ((qaq x3).length) x4)),(15,.p 3 0),(97,.v (.int .i64 (((qaq x3).length:Nat):Int))),(98,.v (.int .i64 ((x5:Nat):Int))),(101,.v (.agg #[.int .i64 x6,.int .i64 x7,.int .i64 x8,.int .i64 (-1),.int .i64 (-1),.int .i64 x9,.int .i64 x6,.slice x10 x11 x12])),(102,.v (.int .i64 x0)),(103,.v (.bool x1)),(104,.v (.slice x2 ((qaq x3).length) x4)),(105,.v (.int .i64 ((x5:Nat):Int))),(109,.v (.slice x13 x14 x15)),(110,.v (.int .i64 ((x5:Nat):Int)))]:Env)
abbrev z39 (x0) (x1) (x2) (x3) (x4):=([(1,.v (.int .i64 x0)),(2,.v (.bool x1)),(9,.p 2 0),(14,.v (.slice x2 ((qaq x3).length) x4)),(15,.p 3 0),(97,.v (.int .i64 (((qaq x3).length:Nat):Int))),(98,.v (.int .i64 0))]:Env)
abbrev z34 (x0) (x1) (x2) (x3) (x4) (x5):=([(1,.v (.int .i64 x0)),(2,.v (.bool x1)),(9,.p 2 0),(14,.v (.slice x2 ((qaq x3).length) x4)),(15,.p 3 0),(16,.v (.int .i64 ((x5:Nat):Int))),(97,.v (.int .i64 (((qaq x3).length:Nat):Int))),(98,.v (.int .i64 ((x5:Nat):Int)))]:Env)
abbrev z36 (x0) (x1) (x2) (x3) (x4) (x5):=([(1,.v (.int .i64 x0)),(2,.v (.bool x1)),(9,.p 2 0),(14,.v (.slice x2 ((qaq x3).length) x4)),(15,.p 3 0),(97,.v (.int .i64 (((qaq x3).length:Nat):Int))),(98,.v (.int .i64 ((x5:Nat):Int))),(114,.v (.bool false))]:Env)
abbrev z49 (x0) (x1) (x2) (x3) (x4) (x5) (x6) (x7) (x8) (x9) (x10) (x11) (x12) (x13) (x14):=([(1,.v (.int .i64 x0)),(2,.v (.bool x1)),(5,.p 0 0),(9,.p 2 0),(14,.v (.slice x2 ((qaq x3).length) x4)),(90,.v (.agg #[.int .i64 x5,.int .i64 x6,.int .i64 x7,.int .i64 x8,.int .i64 x9,.int .i64 x10,.int .i64 x11,.slice x12 x13 x14]))]:Env)
abbrev z59 (x0) (x1) (x2) (x3) (x4) (x5):=([(1,.v (.int .i64 x0)),(2,.v (.bool x1)),(9,.p 2 0),(14,.v (.slice x2 ((qaq x3).length) x4)),(15,.p 3 0),(92,.v (.int .i64 x5)),(93,.p 3 0)]:Env)
abbrev z69 (x0) (x1) (x2) (x3) (x4):=([(1,.v (.int .i64 x0)),(2,.v (.bool x1)),(9,.p 2 0),(14,.v (.slice x2 ((qaq x3).length) x4)),(15,.p 3 0),(94,.p 3 3)]:Env)
abbrev z70 (x0) (x1) (x2) (x3) (x4):=([(1,.v (.int .i64 x0)),(2,.v (.bool x1)),(9,.p 2 0),(14,.v (.slice x2 ((qaq x3).length) x4)),(15,.p 3 0),(95,.p 3 4)]:Env)
abbrev z77 (x0) (x1) (x2) (x3) (x4):=([(1,.v (.int .i64 x0)),(2,.v (.bool x1)),(5,.p 0 0),(9,.p 2 0),(14,.v (.slice x2 ((qaq x3).length) x4))]:Env)
abbrev z86 (x0) (x1) (x2) (x3) (x4) (x5) (x6):=([.int .i64 x0,.int .i64 x1,.int .i64 x2,.int .i64 (-1),.int .i64 (-1),.int .i64 x3,.int .i64 x0,.slice x4 x5 x6]:List Value)
abbrev z92 (x0) (x1) (x2) (x3) (x4):=([(1,.v (.int .i64 x0)),(2,.v (.bool x1)),(5,.p 0 0),(9,.p 2 0),(82,.v (.slice x2 x3 x4))]:Env)
abbrev z98 (x0) (x1) (x2) (x3) (x4) (x5) (x6) (x7):=([.int .i64 x0,.int .i64 x1,.int .i64 x2,.int .i64 (-1),.int .i64 x3,.int .i64 x4,.int .i64 x0,.slice x5 x6 x7]:List Value)
abbrev z106 (x0) (x1) (x2) (x3) (x4) (x5) (x6) (x7) (x8):=([.int .i64 x0,.int .i64 x1,.int .i64 x2,.int .i64 x3,.int .i64 x4,.int .i64 x5,.int .i64 x0,.slice x6 x7 x8]:List Value)
theorem qll {v:Int} {flex:Bool} {T:List Fld → Tree → Tree → Prop} (hT:ToOK v flex T) (cf:List Value) (f:Fld) (ct:List Value) (t:Tree) (cg:List Value) (g:Tree) (w:World) (F:Nat → Nat → Prop) (hf:FldR w F cf f) (hpl:f.plain) (ac:f.kind = 11) (ht:TreeR w F ct t) (hg:TreeR w F cg g) (hQ:ToF T v f t g) :
  Calls Tryz.prog 33 #[.agg cf.toArray,.int .i64 v,.bool flex,.agg ct.toArray,.agg cg.toArray] w (qcs w (.bool true)):=by
 obtain ⟨k1,y2,y3,y4,y5,y6,y7,l8,A9,ap,dE,rfl,rfl,gR,g7⟩:=hf.open_
 have ji:=gR.small
 obtain ⟨aj,ak,al,aa,am,ep,eu,ae,af,ev,ew,kp,rfl,rfl,kq,dF,g8,nz⟩:=ht.open_
 have jj:=kq.small
 have jk:=dF.small
 obtain ⟨gS,gT,cz,ao,gU,gV,gW,bC,dG,gX,gY,ku,rfl,rfl,kv,gZ,g9,nA⟩:=hg.open_
 have jl:=kv.small
 have jm:=gZ.small
 have ac:k1 = 11:=ac
 have hof:y7 ≠ 11:=hpl.1
 replace hpl:plains l8:=hpl.2
 have hq:=hQ.1
 refine enter (n:=124) Tryz.func33 rfl Tryz.ntmps33 kz fun a hE=>?_
 have hW:=WOk.start w Nil
 refine qaf [0,1,2,3] kz ?_
 refine qal (qbq hW hE (d:=5) (cs:=(z7 k1 y2 y3 y4 y5 y6 y7 A9 l8.length ap)) kz fun hC nB nC kw kx ky hJ hK=>?_)
 refine qal (qbq hJ hK (d:=8) (cs:=(z1 aj ep ak.length eu al ae aa.length af ev am.length ew)) kz fun hZ nD nE kA kB kC ia ib=>?_)
 refine qal (qbq ia ib (d:=9) (cs:=(z1 gS gV gT.length gW cz bC ao.length dG gX gU.length gY)) kz fun ic nF nG kD kE kF bD ig=>?_)
 refine qai [3] [] [(1,.v (.int .i64 v)),(2,.v (.bool flex)),(5,.p 0 0),(8,.p 1 0),(9,.p 2 0)] bD ig fun nH ii=>?_
 refine qae (qab ?_)
 refine qaf [0,1,2,3,4] kz ?_
 refine qai [0,1,2] [3,4] [(1,.v (.int .i64 v)),(2,.v (.bool flex)),(5,.p 0 0),(8,.p 1 0),(9,.p 2 0),(17,.v (.agg #[.int .i64 k1,.int .i64 y2,.int .i64 y3,.int .i64 y4,.int .i64 y5,.int .i64 y6,.int .i64 y7,.slice A9 l8.length ap])),(18,.v (.int .i64 v)),(19,.v (.agg #[.int .i64 aj,.slice ep ak.length eu,.bool al,.slice ae aa.length af,.slice ev am.length ew]))] bD ii fun nI ij=>?_
 refine qal (qak ij (f:=67) (vs:=[.agg #[.int .i64 k1,.int .i64 y2,.int .i64 y3,.int .i64 y4,.int .i64 y5,.int .i64 y6,.int .i64 y7,.slice A9 l8.length ap],.int .i64 v,.agg #[.int .i64 aj,.slice ep ak.length eu,.bool al,.slice ae aa.length af,.slice ev am.length ew]]) (d:=20) kz Tryz.call67 (qk7 k1 y2 y3 y4 y5 y6 y7 l8 _ _ v aj ak al aa am _ _ _ _ _ _ _) ?_)
 rintro e_ nJ ⟨rfl,ey⟩
 refine ⟨_,rfl,fun nK ik=>?_⟩
 have ab:=bD.next_nil ey
 have kG:=bD.frN ey
 refine qai [4] [] [(1,.v (.int .i64 v)),(2,.v (.bool flex)),(5,.p 0 0),(8,.p 1 0),(9,.p 2 0),(11,.v (.bool (z4 k1 y2 y3 y4 y5 y6 y7 l8 v aj ak al aa am)))] ab ik fun nL il=>?_
 refine qae (qab ?_)
 refine qaf [0,1,2,3,4,5,6,7,8,9] kz ?_
 refine qai [0,1,2,3] [4,5,6,7,8,9] [(1,.v (.int .i64 v)),(2,.v (.bool flex)),(5,.p 0 0),(8,.p 1 0),(9,.p 2 0),(11,.v (.bool (z4 k1 y2 y3 y4 y5 y6 y7 l8 v aj ak al aa am))),(24,.v (.bool (decide (y4 ≥ 0))))] ab il fun nM ez=>?_
 refine (zO (decide (y4 ≥ 0))).elim (fun aD=>?_) (fun aD=>?_)
 ·
  have kH:=zD aD
  have im:=ez
  rw [aD] at im
  refine qai [4,5,6,7,8,9] [] [(1,.v (.int .i64 v)),(2,.v (.bool flex)),(5,.p 0 0),(8,.p 1 0),(9,.p 2 0),(11,.v (.bool (z4 k1 y2 y3 y4 y5 y6 y7 l8 v aj ak al aa am))),(12,.v (.bool (decide (v ≥ y4))))] ab im fun nN io=>?_
  refine qae (qab ?_)
  refine wp_seq (qaf [0,1,2,3,4,5,6,7,8,9,10,11,12,13,14,15,16] kz ?_)
  refine qai [0,1,2,3] [4,5,6,7,8,9,10,11,12,13,14,15,16] [(1,.v (.int .i64 v)),(2,.v (.bool flex)),(5,.p 0 0),(8,.p 1 0),(9,.p 2 0),(11,.v (.bool (z4 k1 y2 y3 y4 y5 y6 y7 l8 v aj ak al aa am))),(12,.v (.bool (decide (v ≥ y4)))),(33,.v (.bool (k1 == 8)))] ab io fun nO eB=>?_
  have eC:(k1 == 8) = false:=by simp [ac]
  have eD:=eB
  rw [eC] at eD
  refine qai [4,5,6,7,8] [9,10,11,12,13,14,15,16] [(1,.v (.int .i64 v)),(2,.v (.bool flex)),(5,.p 0 0),(8,.p 1 0),(9,.p 2 0),(11,.v (.bool (z4 k1 y2 y3 y4 y5 y6 y7 l8 v aj ak al aa am))),(12,.v (.bool (decide (v ≥ y4)))),(38,.v (.bool (k1 == 10)))] ab eD fun kI eE=>?_
  have eF:(k1 == 10) = false:=by simp [ac]
  have eG:=eE
  rw [eF] at eG
  refine qai [9,10,11] [12,13,14,15,16] [(1,.v (.int .i64 v)),(2,.v (.bool flex)),(5,.p 0 0),(8,.p 1 0),(9,.p 2 0),(11,.v (.bool (z4 k1 y2 y3 y4 y5 y6 y7 l8 v aj ak al aa am))),(41,.v (.bool (decide (v ≥ y4))))] ab eG fun kJ cA=>?_
  refine (zO (decide (v ≥ y4))).elim (fun az=>?_) (fun az=>?_)
  ·
   have jn:=zD az
   have eH:=cA
   rw [az] at eH
   refine qai [12,13,14,15,16] [] [(1,.v (.int .i64 v)),(2,.v (.bool flex)),(5,.p 0 0),(8,.p 1 0),(9,.p 2 0),(11,.v (.bool (z4 k1 y2 y3 y4 y5 y6 y7 l8 v aj ak al aa am))),(46,.v (.bool (!(cz == (z4 k1 y2 y3 y4 y5 y6 y7 l8 v aj ak al aa am)))))] ab eH fun kK aE=>?_
   refine qae (qab ?_)
   refine qaw aE (b:=!(cz == (z4 k1 y2 y3 y4 y5 y6 y7 l8 v aj ak al aa am))) kz (fun aF=>?_) (fun aF=>?_)
   ·
    have jo:!(cz = (Fld.nul (Fld.mk k1 y2 y3 y4 y5 y6 y7 l8) v (Tree.mk aj ak al aa am))):=by simpa using aF
    refine qas [(10,.v (.bool false))] ab aE fun kL eI=>?_
    refine wp_ret (qat (qaM eI ab.cells (v:=.bool false) kz ?_))
    first
     | exact (qgI hq ‹_› ‹_› ‹_›).elim
     | exact (qh6 (hQ.2 ac ‹_›).1 ‹_›).elim
     | (exfalso; simp_all; done)
   have jp:!(cz ≠ (Fld.nul (Fld.mk k1 y2 y3 y4 y5 y6 y7 l8) v (Tree.mk aj ak al aa am))):=by simpa using aF
   refine wp_skip (qab (wp_seq (qas (z19 v flex k1 y2 y3 y4 y5 y6 y7 l8 aj ak al aa am) ab aE fun kM aG=>?_)))
   refine qaw aG (b:=Fld.nul (Fld.mk k1 y2 y3 y4 y5 y6 y7 l8) v (Tree.mk aj ak al aa am)) kz (fun eJ=>?_) (fun eJ=>?_)
   ·
    refine qas [(10,.v (.bool true))] ab aG fun kN eK=>?_
    refine wp_ret (qat (qaM eK ab.cells (v:=.bool true) kz ?_))
    exact ⟨rfl,ab.step⟩
   refine wp_skip (qab (wp_seq (qas (z17 v flex k1) ab aG fun kO eL=>?_)))
   refine wp_block (wp_seq (qas [(1,.v (.int .i64 v)),(2,.v (.bool flex)),(5,.p 0 0),(8,.p 1 0),(9,.p 2 0),(49,.v (.int .i64 k1)),(50,.v (.bool (k1 == 8)))] ab eL fun kP cB=>?_))
   refine qan cB (b:=k1 == 8) kz (by simp [ac]) ?_
   refine qap [0,1] kz ?_
   refine qai [0,1] [] [(1,.v (.int .i64 v)),(2,.v (.bool flex)),(5,.p 0 0),(8,.p 1 0),(9,.p 2 0),(49,.v (.int .i64 k1)),(50,.v (.bool (k1 == 9)))] ab cB fun kQ cC=>?_
   refine qae (qab ?_)
   refine qan cC (b:=k1 == 9) kz (by simp [ac]) ?_
   refine qas [(1,.v (.int .i64 v)),(2,.v (.bool flex)),(5,.p 0 0),(8,.p 1 0),(9,.p 2 0),(49,.v (.int .i64 k1)),(59,.v (.bool (k1 == 7)))] ab cC fun kR cD=>?_
   refine qan cD (b:=k1 == 7) kz (by simp [ac]) ?_
   refine qas [(1,.v (.int .i64 v)),(2,.v (.bool flex)),(5,.p 0 0),(8,.p 1 0),(9,.p 2 0),(49,.v (.int .i64 k1)),(70,.v (.bool (k1 == 10)))] ab cD fun kS cE=>?_
   refine qan cE (b:=k1 == 10) kz (by simp [ac]) ?_
   refine qas [(1,.v (.int .i64 v)),(2,.v (.bool flex)),(5,.p 0 0),(8,.p 1 0),(9,.p 2 0),(79,.v (.bool (k1 == 11)))] ab cE fun kT cG=>?_
   refine qa7 cG (b:=k1 == 11) kz (by simpa using ac) ?_
   refine qaf [0,1,2,3] kz ?_
   refine qai [0,1] [2,3] (z92 v flex ae aa.length af) ab cG fun kU eM=>?_
   refine qal (qak eM (f:=68) (vs:=[.slice ae aa.length af]) (d:=83) kz Tryz.call68 (qgt _ _ aa (dF.move ab.step nilM ab.imm).le _) ?_)
   rintro e_ kV ⟨rfl,cH⟩
   refine ⟨_,rfl,fun kW eN=>?_⟩
   have ar:=ab.next_nil cH
   have jq:=ab.frN cH
   refine qai [3] [] (z77 v flex ae aa af) ar eN fun kX eO=>?_
   refine qae (qab ?_)
   refine wp_seq (qas [(1,.v (.int .i64 v)),(2,.v (.bool flex)),(5,.p 0 0),(9,.p 2 0),(14,.v (.slice ae ((qaq aa).length) af)),(89,.v (.bool (((ao.length:Nat):Int) != (((qaq aa).length:Nat):Int))))] ar eO fun kY aH=>?_)
   refine qaw aH (b:=((ao.length:Nat):Int) != (((qaq aa).length:Nat):Int)) kz (fun aI=>?_) (fun aI=>?_)
   ·
    have jr:((ao.length:Nat):Int) ≠ (((qaq aa).length:Nat):Int):=by simpa using aI
    refine qas [(10,.v (.bool false))] ar aH fun kZ eP=>?_
    refine wp_ret (qat (qay (qat (qaM eP ar.cells (v:=.bool false) kz ?_))))
    first
     | exact (qgI hq ‹_› ‹_› ‹_›).elim
     | exact (qh6 (hQ.2 ac ‹_›).1 ‹_›).elim
     | (exfalso; simp_all; done)
   have js:((ao.length:Nat):Int) = (((qaq aa).length:Nat):Int):=by simpa using aI
   refine wp_skip (qab (qaf [0,1,2] kz ?_))
   refine qai [0] [1,2] (z49 v flex ae aa af k1 y2 y3 y4 y5 y6 y7 A9 l8.length ap) ar aH fun k5 eQ=>?_
   refine qal (qaQ ar eQ (d:=15) (cs:=z15) kz fun ip k6 k7 jt ju jv eR eS=>?_)
   refine qal (qao eR eS (oi:=3) (cs:=(z7 k1 y2 y3 y4 y5 y6 y7 A9 l8.length ap)) kz fun k8 jw cI eU=>?_)
   refine qae (qab ?_)
   refine qaf [0,1,2,3,4,5,6,7] kz ?_
   refine qai [0,1,2] [3,4,5,6,7] (z59 v flex ae aa af y7) cI eU fun k9 eV=>?_
   refine qal (qao cI eV (oi:=3) (cs:=(z106 y7 y2 y3 y4 y5 y6 A9 l8.length ap)) kz fun la jx cJ eW=>?_)
   refine qai [4] [5,6,7] (z69 v flex ae aa af) cJ eW fun lb eX=>?_
   refine qal (qao cJ eX (oi:=3) (cs:=(z98 y7 y2 y3 y5 y6 A9 l8.length ap)) kz fun lc jy cK eY=>?_)
   refine qai [6] [7] (z70 v flex ae aa af) cK eY fun ld eZ=>?_
   refine qal (qao cK eZ (oi:=3) (cs:=(z86 y7 y2 y3 y6 A9 l8.length ap)) kz fun lf jz aJ e9=>?_)
   refine qae (qab ?_)
   refine wp_seq (qas (z39 v flex ae aa af) aJ e9 fun lg fa=>?_)
   refine wp_block ?_
   have hl_:=(hQ.2 ac ‹_›).2
   refine wp_loop_ghost (fun n_ a_ w_=>∃ (k:Nat),n_ = (qaq aa).length - k ∧ k ≤ (qaq aa).length ∧ LInv aJ 124 [⟨hC,0,[.int .i64 k1,.int .i64 y2,.int .i64 y3,.int .i64 y4,.int .i64 y5,.int .i64 y6,.int .i64 y7,.slice A9 l8.length ap],true⟩,⟨hZ,0,[.int .i64 aj,.slice ep ak.length eu,.bool al,.slice ae aa.length af,.slice ev am.length ew],true⟩,⟨ic,0,[.int .i64 gS,.slice gV gT.length gW,.bool cz,.slice bC ao.length dG,.slice gX gU.length gY],true⟩,⟨ip,0,[.int .i64 y7,.int .i64 y2,.int .i64 y3,.int .i64 (-1),.int .i64 (-1),.int .i64 y6,.int .i64 y7,.slice A9 l8.length ap],true⟩] [] [(1,.v (.int .i64 v)),(2,.v (.bool flex)),(9,.p 2 0),(14,.v (.slice ae ((qaq aa).length) af)),(15,.p 3 0),(97,.v (.int .i64 (((qaq aa).length:Nat):Int))),(98,.v (.int .i64 ((k:Nat):Int)))] a_ w_) ((qaq aa).length) ⟨0,by omega,by omega,fa.pk,aJ,Fr.refl _ _ _⟩ ?_
   rintro lh li lj ⟨k,jA,jB,fb,au,fe⟩
   refine qas [(1,.v (.int .i64 v)),(2,.v (.bool flex)),(9,.p 2 0),(14,.v (.slice ae ((qaq aa).length) af)),(15,.p 3 0),(97,.v (.int .i64 (((qaq aa).length:Nat):Int))),(98,.v (.int .i64 ((k:Nat):Int))),(99,.v (.bool (decide (((k:Nat):Int) < (((qaq aa).length:Nat):Int)))))] au fb fun lm aK=>?_
   refine wp_seq (qaw aK (b:=decide (((k:Nat):Int) < (((qaq aa).length:Nat):Int))) kz (fun aL=>?_) (fun aL=>?_))
   ·
    have jC:=zD aL
    refine wp_skip (qab (wp_seq (wp_block (qas (z34 v flex ae aa af k) au aK fun ln ff=>?_))))
    refine qaE 14 kz au fun lp fg ag aA=>?_
    refine qaB [0,1,2,3,4,7,8,9] (z16 v flex ae aa af k y7 y2 y3 y6 A9 l8.length ap bC ao.length dG) 6 (qaa (qac (qaa (qaa (qac (qaa (qac (qaa qad)))))))) (fun _ h=>h.cells) aA ff fun lq fh=>?_
    obtain ⟨iq,ir,fi,jD,aM⟩:=Slots.get (qdh dF) (i:=k) (by first | omega | (have h_:ao.length = (qaq aa).length:=(hQ.2 ac ‹_›).1; omega))
    obtain ⟨iu,cL⟩:∃ x,(qaq aa)[k]? = some x:=⟨_,List.getElem?_eq_getElem (by omega)⟩
    have aN:=(qdz g8) k iu cL
    obtain ⟨bE,bF,bG,bH,bI,dH,dI,dJ,dK,dL,dM,jE,rfl,aO,iv,iw,lr,ls⟩:=aN.open_
    rw [aO] at aN
    have ix:=iv.small
    have iy:=iw.small
    rw [aO] at aM
    refine qaD fh (i:=5) (t:=23) (A:=ae) (m:=((qaq aa).length)) (q:=((k:Nat):Int)) (d:=106) kz (e:=26) (size:=5) (bytes:=88) kz fi rfl (by first | omega | (have h_:ao.length = (qaq aa).length:=(hQ.2 ac ‹_›).1; omega)) kz kz (qaa (qac (qaa (qaa (qac (qaa (qac (qaa qad)))))))) aA fun lu fj=>?_
    refine qa0 fj (i:=6) (t:=26) (b:=iq) (o:=ir + k * 5) (d:=107) kz (cs:=(z1 bE dH bF.length dI bG dJ bH.length dK dL bI.length dM)) (v:=.agg #[.int .i64 bE,.slice dH bF.length dI,.bool bG,.slice dJ bH.length dK,.slice dL bI.length dM]) kz (fun w' h'=>(AtF.move aM (TT.step0 ag h') nilM qa9).at_) kz kz (qaa (qac (qaa (qaa (qac (qaa (qac (qaa qad)))))))) aA fun lv fk=>?_
    obtain ⟨iz,iA,fm,jF,aP⟩:=Slots.get gZ (i:=k) (by first | omega | (have h_:ao.length = (qaq aa).length:=(hQ.2 ac ‹_›).1; omega))
    obtain ⟨iB,cM⟩:∃ x,ao[k]? = some x:=⟨_,List.getElem?_eq_getElem (by omega)⟩
    have aQ:=g9 k iB cM
    obtain ⟨bJ,bK,bL,bM,bN,dN,dO,dP,dQ,dR,dS,jG,rfl,aR,iC,iD,lw,lx⟩:=aQ.open_
    rw [aR] at aQ
    have iE:=iC.small
    have iF:=iD.small
    rw [aR] at aP
    refine qaD fk (i:=10) (t:=23) (A:=bC) (m:=ao.length) (q:=((k:Nat):Int)) (d:=111) kz (e:=26) (size:=5) (bytes:=88) kz fm rfl (by first | omega | (have h_:ao.length = (qaq aa).length:=(hQ.2 ac ‹_›).1; omega)) kz kz (qaa (qac (qaa (qaa (qac (qaa (qac (qaa qad)))))))) aA fun ly fo=>?_
    refine qa0 fo (i:=11) (t:=26) (b:=iz) (o:=iA + k * 5) (d:=112) kz (cs:=(z1 bJ dN bK.length dO bL dP bM.length dQ dR bN.length dS)) (v:=.agg #[.int .i64 bJ,.slice dN bK.length dO,.bool bL,.slice dP bM.length dQ,.slice dR bN.length dS]) kz (fun w' h'=>(AtF.move aP (TT.step0 ag h') nilM qa9).at_) kz kz (qaa (qac (qaa (qaa (qac (qaa (qac (qaa qad)))))))) aA fun lz fq=>?_
    refine qam (i:=12) kz (qak fq (f:=33) (vs:=[.agg #[.int .i64 y7,.int .i64 y2,.int .i64 y3,.int .i64 (-1),.int .i64 (-1),.int .i64 y6,.int .i64 y7,.slice A9 l8.length ap],.int .i64 v,.bool flex,.agg #[.int .i64 bE,.slice dH bF.length dI,.bool bG,.slice dJ bH.length dK,.slice dL bI.length dM],.agg #[.int .i64 bJ,.slice dN bK.length dO,.bool bL,.slice dP bM.length dQ,.slice dR bN.length dS]]) (d:=113) kz Tryz.call33 ( qic hT _ _ _ (Tree.mk bE bF bG bH bI) _ (Tree.mk bJ bK bL bM bN) _ _ (FldR.mk (l:=l8) dE (gR.move ag.step nilM ag.imm) (fun i_ x_ h_=>((g7 i_ x_ h_).move ag.step nilM ag.imm))) hpl hof (aN.move ag.step nilM ag.imm) (aQ.move ag.step nilM ag.imm) (hl_ _ _ _ cL cM)) ?_)
    rintro e_ lA ⟨rfl,cN⟩
    refine ⟨_,rfl,fun lB fr=>?_⟩
    have aS:=ag.next_nil cN
    have cO:=ag.frN cN
    have cP:=TT.ofW cO aS
    refine ⟨fun _=>cP,?_⟩
    refine qaB [13] (z36 v flex ae aa af k) 0 (qaa (qac (qaa (qaa (qac (qaa (qac (qaa qad)))))))) (fun _ h=>h.cells) cP fr fun lC cQ=>?_
    refine qaz kz ?_ _
    refine qab (qan cQ (b:=false) kz rfl ?_)
    refine wp_skip (qar (qab (qap [0,1] kz ?_)))
    refine qai [0,1] [] [(1,.v (.int .i64 v)),(2,.v (.bool flex)),(9,.p 2 0),(14,.v (.slice ae ((qaq aa).length) af)),(15,.p 3 0),(97,.v (.int .i64 (((qaq aa).length:Nat):Int))),(98,.v (.int .i64 (IntKind.i64.wrap (((k:Nat):Int) + 1))))] aS cQ fun lD cR=>?_
    refine qae (qab ?_)
    have ft:IntKind.i64.wrap (((k:Nat):Int) + 1) = ((k + 1:Nat):Int):=qaO (by omega)
    rw [ft] at cR
    exact ⟨(qaq aa).length - (k + 1),by omega,k + 1,rfl,by omega,cR.pk,aS,((fe.trans fg).trans cO)⟩
   have jH:=zF aL
   refine wp_exit (qau (qau (qaI (qab (qas [(10,.v (.bool true))] au aK fun lE fu=>?_)))))
   refine wp_ret (qay (qat (qaM fu au.cells (v:=.bool true) kz ?_)))
   exact ⟨rfl,au.step⟩
  have jI:=zF az
  have fv:=cA.cast (env':=[(1,.v (.int .i64 v)),(2,.v (.bool flex)),(5,.p 0 0),(8,.p 1 0),(9,.p 2 0),(11,.v (.bool (Fld.nul (Fld.mk k1 y2 y3 y4 y5 y6 y7 l8) v (Tree.mk aj ak al aa am)))),(41,.v (.bool false))]) (by rw [az])
  refine qai [12,13,14,15,16] [] (z60 v flex k1 y2 y3 y4 y5 y6 y7 l8 aj ak al aa am) ab fv fun lF cS=>?_
  refine qae (qab ?_)
  refine qan cS (b:=false) kz rfl ?_
  refine wp_skip (qab (wp_seq (qas (z19 v flex k1 y2 y3 y4 y5 y6 y7 l8 aj ak al aa am) ab cS fun lG aT=>?_)))
  refine qaw aT (b:=Fld.nul (Fld.mk k1 y2 y3 y4 y5 y6 y7 l8) v (Tree.mk aj ak al aa am)) kz (fun fw=>?_) (fun fw=>?_)
  ·
   refine qas [(10,.v (.bool true))] ab aT fun lH fx=>?_
   refine wp_ret (qat (qaM fx ab.cells (v:=.bool true) kz ?_))
   exact ⟨rfl,ab.step⟩
  refine wp_skip (qab (wp_seq (qas (z17 v flex k1) ab aT fun lI fy=>?_)))
  refine wp_block (wp_seq (qas [(1,.v (.int .i64 v)),(2,.v (.bool flex)),(5,.p 0 0),(8,.p 1 0),(9,.p 2 0),(49,.v (.int .i64 k1)),(50,.v (.bool (k1 == 8)))] ab fy fun lJ cT=>?_))
  refine qan cT (b:=k1 == 8) kz (by simp [ac]) ?_
  refine qap [0,1] kz ?_
  refine qai [0,1] [] [(1,.v (.int .i64 v)),(2,.v (.bool flex)),(5,.p 0 0),(8,.p 1 0),(9,.p 2 0),(49,.v (.int .i64 k1)),(50,.v (.bool (k1 == 9)))] ab cT fun lK cU=>?_
  refine qae (qab ?_)
  refine qan cU (b:=k1 == 9) kz (by simp [ac]) ?_
  refine qas [(1,.v (.int .i64 v)),(2,.v (.bool flex)),(5,.p 0 0),(8,.p 1 0),(9,.p 2 0),(49,.v (.int .i64 k1)),(59,.v (.bool (k1 == 7)))] ab cU fun lL cV=>?_
  refine qan cV (b:=k1 == 7) kz (by simp [ac]) ?_
  refine qas [(1,.v (.int .i64 v)),(2,.v (.bool flex)),(5,.p 0 0),(8,.p 1 0),(9,.p 2 0),(49,.v (.int .i64 k1)),(70,.v (.bool (k1 == 10)))] ab cV fun lM cW=>?_
  refine qan cW (b:=k1 == 10) kz (by simp [ac]) ?_
  refine qas [(1,.v (.int .i64 v)),(2,.v (.bool flex)),(5,.p 0 0),(8,.p 1 0),(9,.p 2 0),(79,.v (.bool (k1 == 11)))] ab cW fun lN cX=>?_
  refine qa7 cX (b:=k1 == 11) kz (by simpa using ac) ?_
  refine qaf [0,1,2,3] kz ?_
  refine qai [0,1] [2,3] (z92 v flex ae aa.length af) ab cX fun lO fz=>?_
  refine qal (qak fz (f:=68) (vs:=[.slice ae aa.length af]) (d:=83) kz Tryz.call68 (qgt _ _ aa (dF.move ab.step nilM ab.imm).le _) ?_)
  rintro e_ lP ⟨rfl,cY⟩
  refine ⟨_,rfl,fun lQ fA=>?_⟩
  have av:=ab.next_nil cY
  have jJ:=ab.frN cY
  refine qai [3] [] (z77 v flex ae aa af) av fA fun lR fB=>?_
  refine qae (qab ?_)
  refine wp_seq (qas [(1,.v (.int .i64 v)),(2,.v (.bool flex)),(5,.p 0 0),(9,.p 2 0),(14,.v (.slice ae ((qaq aa).length) af)),(89,.v (.bool (((ao.length:Nat):Int) != (((qaq aa).length:Nat):Int))))] av fB fun lS aU=>?_)
  refine qaw aU (b:=((ao.length:Nat):Int) != (((qaq aa).length:Nat):Int)) kz (fun aV=>?_) (fun aV=>?_)
  ·
   have jK:((ao.length:Nat):Int) ≠ (((qaq aa).length:Nat):Int):=by simpa using aV
   refine qas [(10,.v (.bool false))] av aU fun lT fC=>?_
   refine wp_ret (qat (qay (qat (qaM fC av.cells (v:=.bool false) kz ?_))))
   first
    | exact (qgI hq ‹_› ‹_› ‹_›).elim
    | exact (qh6 (hQ.2 ac ‹_›).1 ‹_›).elim
    | (exfalso; simp_all; done)
  have jL:((ao.length:Nat):Int) = (((qaq aa).length:Nat):Int):=by simpa using aV
  refine wp_skip (qab (qaf [0,1,2] kz ?_))
  refine qai [0] [1,2] (z49 v flex ae aa af k1 y2 y3 y4 y5 y6 y7 A9 l8.length ap) av aU fun lU fD=>?_
  refine qal (qaQ av fD (d:=15) (cs:=z15) kz fun iG lV lW jM jN jO fE fF=>?_)
  refine qal (qao fE fF (oi:=3) (cs:=(z7 k1 y2 y3 y4 y5 y6 y7 A9 l8.length ap)) kz fun lX jP cZ fG=>?_)
  refine qae (qab ?_)
  refine qaf [0,1,2,3,4,5,6,7] kz ?_
  refine qai [0,1,2] [3,4,5,6,7] (z59 v flex ae aa af y7) cZ fG fun lY fH=>?_
  refine qal (qao cZ fH (oi:=3) (cs:=(z106 y7 y2 y3 y4 y5 y6 A9 l8.length ap)) kz fun lZ jQ c5 fI=>?_)
  refine qai [4] [5,6,7] (z69 v flex ae aa af) c5 fI fun l0 fJ=>?_
  refine qal (qao c5 fJ (oi:=3) (cs:=(z98 y7 y2 y3 y5 y6 A9 l8.length ap)) kz fun l3 jR c6 fK=>?_)
  refine qai [6] [7] (z70 v flex ae aa af) c6 fK fun l5 fL=>?_
  refine qal (qao c6 fL (oi:=3) (cs:=(z86 y7 y2 y3 y6 A9 l8.length ap)) kz fun l6 jS aW fM=>?_)
  refine qae (qab ?_)
  refine wp_seq (qas (z39 v flex ae aa af) aW fM fun l7 fN=>?_)
  refine wp_block ?_
  have hl_:=(hQ.2 ac ‹_›).2
  refine wp_loop_ghost (fun n_ a_ w_=>∃ (k:Nat),n_ = (qaq aa).length - k ∧ k ≤ (qaq aa).length ∧ LInv aW 124 [⟨hC,0,[.int .i64 k1,.int .i64 y2,.int .i64 y3,.int .i64 y4,.int .i64 y5,.int .i64 y6,.int .i64 y7,.slice A9 l8.length ap],true⟩,⟨hZ,0,[.int .i64 aj,.slice ep ak.length eu,.bool al,.slice ae aa.length af,.slice ev am.length ew],true⟩,⟨ic,0,[.int .i64 gS,.slice gV gT.length gW,.bool cz,.slice bC ao.length dG,.slice gX gU.length gY],true⟩,⟨iG,0,[.int .i64 y7,.int .i64 y2,.int .i64 y3,.int .i64 (-1),.int .i64 (-1),.int .i64 y6,.int .i64 y7,.slice A9 l8.length ap],true⟩] [] [(1,.v (.int .i64 v)),(2,.v (.bool flex)),(9,.p 2 0),(14,.v (.slice ae ((qaq aa).length) af)),(15,.p 3 0),(97,.v (.int .i64 (((qaq aa).length:Nat):Int))),(98,.v (.int .i64 ((k:Nat):Int)))] a_ w_) ((qaq aa).length) ⟨0,by omega,by omega,fN.pk,aW,Fr.refl _ _ _⟩ ?_
  rintro l9 ma mc ⟨k,jT,jU,fO,aw,fP⟩
  refine qas [(1,.v (.int .i64 v)),(2,.v (.bool flex)),(9,.p 2 0),(14,.v (.slice ae ((qaq aa).length) af)),(15,.p 3 0),(97,.v (.int .i64 (((qaq aa).length:Nat):Int))),(98,.v (.int .i64 ((k:Nat):Int))),(99,.v (.bool (decide (((k:Nat):Int) < (((qaq aa).length:Nat):Int)))))] aw fO fun md aX=>?_
  refine wp_seq (qaw aX (b:=decide (((k:Nat):Int) < (((qaq aa).length:Nat):Int))) kz (fun aY=>?_) (fun aY=>?_))
  ·
   have jV:=zD aY
   refine wp_skip (qab (wp_seq (wp_block (qas (z34 v flex ae aa af k) aw aX fun me fQ=>?_))))
   refine qaE 14 kz aw fun mf fR ah aB=>?_
   refine qaB [0,1,2,3,4,7,8,9] (z16 v flex ae aa af k y7 y2 y3 y6 A9 l8.length ap bC ao.length dG) 6 (qaa (qac (qaa (qaa (qac (qaa (qac (qaa qad)))))))) (fun _ h=>h.cells) aB fQ fun mg fS=>?_
   obtain ⟨iH,iI,fT,jW,aZ⟩:=Slots.get (qdh dF) (i:=k) (by first | omega | (have h_:ao.length = (qaq aa).length:=(hQ.2 ac ‹_›).1; omega))
   obtain ⟨iJ,da⟩:∃ x,(qaq aa)[k]? = some x:=⟨_,List.getElem?_eq_getElem (by omega)⟩
   have ba:=(qdz g8) k iJ da
   obtain ⟨bO,bP,bQ,bR,bS,dT,dU,dV,dW,dX,dY,jX,rfl,bd,iK,iL,mh,mi⟩:=ba.open_
   rw [bd] at ba
   have iM:=iK.small
   have iN:=iL.small
   rw [bd] at aZ
   refine qaD fS (i:=5) (t:=23) (A:=ae) (m:=((qaq aa).length)) (q:=((k:Nat):Int)) (d:=106) kz (e:=26) (size:=5) (bytes:=88) kz fT rfl (by first | omega | (have h_:ao.length = (qaq aa).length:=(hQ.2 ac ‹_›).1; omega)) kz kz (qaa (qac (qaa (qaa (qac (qaa (qac (qaa qad)))))))) aB fun mj fU=>?_
   refine qa0 fU (i:=6) (t:=26) (b:=iH) (o:=iI + k * 5) (d:=107) kz (cs:=(z1 bO dT bP.length dU bQ dV bR.length dW dX bS.length dY)) (v:=.agg #[.int .i64 bO,.slice dT bP.length dU,.bool bQ,.slice dV bR.length dW,.slice dX bS.length dY]) kz (fun w' h'=>(AtF.move aZ (TT.step0 ah h') nilM qa9).at_) kz kz (qaa (qac (qaa (qaa (qac (qaa (qac (qaa qad)))))))) aB fun ml fV=>?_
   obtain ⟨iO,iP,fW,jY,bf⟩:=Slots.get gZ (i:=k) (by first | omega | (have h_:ao.length = (qaq aa).length:=(hQ.2 ac ‹_›).1; omega))
   obtain ⟨iQ,db⟩:∃ x,ao[k]? = some x:=⟨_,List.getElem?_eq_getElem (by omega)⟩
   have bg:=g9 k iQ db
   obtain ⟨bT,bU,bV,bW,bX,dZ,d5,d6,d7,d8,d9,jZ,rfl,bh,iR,iS,mn,mo⟩:=bg.open_
   rw [bh] at bg
   have iT:=iR.small
   have iU:=iS.small
   rw [bh] at bf
   refine qaD fV (i:=10) (t:=23) (A:=bC) (m:=ao.length) (q:=((k:Nat):Int)) (d:=111) kz (e:=26) (size:=5) (bytes:=88) kz fW rfl (by first | omega | (have h_:ao.length = (qaq aa).length:=(hQ.2 ac ‹_›).1; omega)) kz kz (qaa (qac (qaa (qaa (qac (qaa (qac (qaa qad)))))))) aB fun mp fX=>?_
   refine qa0 fX (i:=11) (t:=26) (b:=iO) (o:=iP + k * 5) (d:=112) kz (cs:=(z1 bT dZ bU.length d5 bV d6 bW.length d7 d8 bX.length d9)) (v:=.agg #[.int .i64 bT,.slice dZ bU.length d5,.bool bV,.slice d6 bW.length d7,.slice d8 bX.length d9]) kz (fun w' h'=>(AtF.move bf (TT.step0 ah h') nilM qa9).at_) kz kz (qaa (qac (qaa (qaa (qac (qaa (qac (qaa qad)))))))) aB fun mq fY=>?_
   refine qam (i:=12) kz (qak fY (f:=33) (vs:=[.agg #[.int .i64 y7,.int .i64 y2,.int .i64 y3,.int .i64 (-1),.int .i64 (-1),.int .i64 y6,.int .i64 y7,.slice A9 l8.length ap],.int .i64 v,.bool flex,.agg #[.int .i64 bO,.slice dT bP.length dU,.bool bQ,.slice dV bR.length dW,.slice dX bS.length dY],.agg #[.int .i64 bT,.slice dZ bU.length d5,.bool bV,.slice d6 bW.length d7,.slice d8 bX.length d9]]) (d:=113) kz Tryz.call33 ( qic hT _ _ _ (Tree.mk bO bP bQ bR bS) _ (Tree.mk bT bU bV bW bX) _ _ (FldR.mk (l:=l8) dE (gR.move ah.step nilM ah.imm) (fun i_ x_ h_=>((g7 i_ x_ h_).move ah.step nilM ah.imm))) hpl hof (ba.move ah.step nilM ah.imm) (bg.move ah.step nilM ah.imm) (hl_ _ _ _ da db)) ?_)
   rintro e_ mr ⟨rfl,dc⟩
   refine ⟨_,rfl,fun mt fZ=>?_⟩
   have bi:=ah.next_nil dc
   have de:=ah.frN dc
   have df:=TT.ofW de bi
   refine ⟨fun _=>df,?_⟩
   refine qaB [13] (z36 v flex ae aa af k) 0 (qaa (qac (qaa (qaa (qac (qaa (qac (qaa qad)))))))) (fun _ h=>h.cells) df fZ fun mu dg=>?_
   refine qaz kz ?_ _
   refine qab (qan dg (b:=false) kz rfl ?_)
   refine wp_skip (qar (qab (qap [0,1] kz ?_)))
   refine qai [0,1] [] [(1,.v (.int .i64 v)),(2,.v (.bool flex)),(9,.p 2 0),(14,.v (.slice ae ((qaq aa).length) af)),(15,.p 3 0),(97,.v (.int .i64 (((qaq aa).length:Nat):Int))),(98,.v (.int .i64 (IntKind.i64.wrap (((k:Nat):Int) + 1))))] bi dg fun mw dh=>?_
   refine qae (qab ?_)
   have f5:IntKind.i64.wrap (((k:Nat):Int) + 1) = ((k + 1:Nat):Int):=qaO (by omega)
   rw [f5] at dh
   exact ⟨(qaq aa).length - (k + 1),by omega,k + 1,rfl,by omega,dh.pk,bi,((fP.trans fR).trans de)⟩
  have j0:=zF aY
  refine wp_exit (qau (qau (qaI (qab (qas [(10,.v (.bool true))] aw aX fun mx f7=>?_)))))
  refine wp_ret (qay (qat (qaM f7 aw.cells (v:=.bool true) kz ?_)))
  exact ⟨rfl,aw.step⟩
 have j1:=zF aD
 have f8:=ez.cast (env':=[(1,.v (.int .i64 v)),(2,.v (.bool flex)),(5,.p 0 0),(8,.p 1 0),(9,.p 2 0),(11,.v (.bool (Fld.nul (Fld.mk k1 y2 y3 y4 y5 y6 y7 l8) v (Tree.mk aj ak al aa am)))),(24,.v (.bool false))]) (by rw [aD])
 refine qai [4,5,6,7,8,9] [] [(1,.v (.int .i64 v)),(2,.v (.bool flex)),(5,.p 0 0),(8,.p 1 0),(9,.p 2 0),(11,.v (.bool (z4 k1 y2 y3 y4 y5 y6 y7 l8 v aj ak al aa am))),(12,.v (.bool false))] ab f8 fun my f9=>?_
 refine qae (qab ?_)
 refine wp_seq (qaf [0,1,2,3,4,5,6,7,8,9,10,11,12,13,14,15,16] kz ?_)
 refine qai [0,1,2,3] [4,5,6,7,8,9,10,11,12,13,14,15,16] [(1,.v (.int .i64 v)),(2,.v (.bool flex)),(5,.p 0 0),(8,.p 1 0),(9,.p 2 0),(11,.v (.bool (z4 k1 y2 y3 y4 y5 y6 y7 l8 v aj ak al aa am))),(12,.v (.bool false)),(33,.v (.bool (k1 == 8)))] ab f9 fun mz ga=>?_
 have gb:(k1 == 8) = false:=by simp [ac]
 have gc:=ga
 rw [gb] at gc
 refine qai [4,5,6,7,8] [9,10,11,12,13,14,15,16] [(1,.v (.int .i64 v)),(2,.v (.bool flex)),(5,.p 0 0),(8,.p 1 0),(9,.p 2 0),(11,.v (.bool (z4 k1 y2 y3 y4 y5 y6 y7 l8 v aj ak al aa am))),(12,.v (.bool false)),(38,.v (.bool (k1 == 10)))] ab gc fun mA gd=>?_
 have ge:(k1 == 10) = false:=by simp [ac]
 have gg:=gd
 rw [ge] at gg
 refine qai [9,10,11,12,13,14,15,16] [] (z60 v flex k1 y2 y3 y4 y5 y6 y7 l8 aj ak al aa am) ab gg fun mB di=>?_
 refine qae (qab ?_)
 refine qan di (b:=false) kz rfl ?_
 refine wp_skip (qab (wp_seq (qas (z19 v flex k1 y2 y3 y4 y5 y6 y7 l8 aj ak al aa am) ab di fun mC bj=>?_)))
 refine qaw bj (b:=Fld.nul (Fld.mk k1 y2 y3 y4 y5 y6 y7 l8) v (Tree.mk aj ak al aa am)) kz (fun gh=>?_) (fun gh=>?_)
 ·
  refine qas [(10,.v (.bool true))] ab bj fun mD gi=>?_
  refine wp_ret (qat (qaM gi ab.cells (v:=.bool true) kz ?_))
  exact ⟨rfl,ab.step⟩
 refine wp_skip (qab (wp_seq (qas (z17 v flex k1) ab bj fun mF gj=>?_)))
 refine wp_block (wp_seq (qas [(1,.v (.int .i64 v)),(2,.v (.bool flex)),(5,.p 0 0),(8,.p 1 0),(9,.p 2 0),(49,.v (.int .i64 k1)),(50,.v (.bool (k1 == 8)))] ab gj fun mG dj=>?_))
 refine qan dj (b:=k1 == 8) kz (by simp [ac]) ?_
 refine qap [0,1] kz ?_
 refine qai [0,1] [] [(1,.v (.int .i64 v)),(2,.v (.bool flex)),(5,.p 0 0),(8,.p 1 0),(9,.p 2 0),(49,.v (.int .i64 k1)),(50,.v (.bool (k1 == 9)))] ab dj fun mH dl=>?_
 refine qae (qab ?_)
 refine qan dl (b:=k1 == 9) kz (by simp [ac]) ?_
 refine qas [(1,.v (.int .i64 v)),(2,.v (.bool flex)),(5,.p 0 0),(8,.p 1 0),(9,.p 2 0),(49,.v (.int .i64 k1)),(59,.v (.bool (k1 == 7)))] ab dl fun mI dp=>?_
 refine qan dp (b:=k1 == 7) kz (by simp [ac]) ?_
 refine qas [(1,.v (.int .i64 v)),(2,.v (.bool flex)),(5,.p 0 0),(8,.p 1 0),(9,.p 2 0),(49,.v (.int .i64 k1)),(70,.v (.bool (k1 == 10)))] ab dp fun mJ dq=>?_
 refine qan dq (b:=k1 == 10) kz (by simp [ac]) ?_
 refine qas [(1,.v (.int .i64 v)),(2,.v (.bool flex)),(5,.p 0 0),(8,.p 1 0),(9,.p 2 0),(79,.v (.bool (k1 == 11)))] ab dq fun mK dr=>?_
 refine qa7 dr (b:=k1 == 11) kz (by simpa using ac) ?_
 refine qaf [0,1,2,3] kz ?_
 refine qai [0,1] [2,3] (z92 v flex ae aa.length af) ab dr fun mL gk=>?_
 refine qal (qak gk (f:=68) (vs:=[.slice ae aa.length af]) (d:=83) kz Tryz.call68 (qgt _ _ aa (dF.move ab.step nilM ab.imm).le _) ?_)
 rintro e_ mM ⟨rfl,dt⟩
 refine ⟨_,rfl,fun mN gl=>?_⟩
 have ax:=ab.next_nil dt
 have j2:=ab.frN dt
 refine qai [3] [] (z77 v flex ae aa af) ax gl fun mO gm=>?_
 refine qae (qab ?_)
 refine wp_seq (qas [(1,.v (.int .i64 v)),(2,.v (.bool flex)),(5,.p 0 0),(9,.p 2 0),(14,.v (.slice ae ((qaq aa).length) af)),(89,.v (.bool (((ao.length:Nat):Int) != (((qaq aa).length:Nat):Int))))] ax gm fun mQ bk=>?_)
 refine qaw bk (b:=((ao.length:Nat):Int) != (((qaq aa).length:Nat):Int)) kz (fun bn=>?_) (fun bn=>?_)
 ·
  have j3:((ao.length:Nat):Int) ≠ (((qaq aa).length:Nat):Int):=by simpa using bn
  refine qas [(10,.v (.bool false))] ax bk fun mR gn=>?_
  refine wp_ret (qat (qay (qat (qaM gn ax.cells (v:=.bool false) kz ?_))))
  first
   | exact (qgI hq ‹_› ‹_› ‹_›).elim
   | exact (qh6 (hQ.2 ac ‹_›).1 ‹_›).elim
   | (exfalso; simp_all; done)
 have j4:((ao.length:Nat):Int) = (((qaq aa).length:Nat):Int):=by simpa using bn
 refine wp_skip (qab (qaf [0,1,2] kz ?_))
 refine qai [0] [1,2] (z49 v flex ae aa af k1 y2 y3 y4 y5 y6 y7 A9 l8.length ap) ax bk fun mS gp=>?_
 refine qal (qaQ ax gp (d:=15) (cs:=z15) kz fun iV mT mU j5 j6 j7 gq gt=>?_)
 refine qal (qao gq gt (oi:=3) (cs:=(z7 k1 y2 y3 y4 y5 y6 y7 A9 l8.length ap)) kz fun mV j8 du gv=>?_)
 refine qae (qab ?_)
 refine qaf [0,1,2,3,4,5,6,7] kz ?_
 refine qai [0,1,2] [3,4,5,6,7] (z59 v flex ae aa af y7) du gv fun mW gw=>?_
 refine qal (qao du gw (oi:=3) (cs:=(z106 y7 y2 y3 y4 y5 y6 A9 l8.length ap)) kz fun mX j9 dv gx=>?_)
 refine qai [4] [5,6,7] (z69 v flex ae aa af) dv gx fun mY gy=>?_
 refine qal (qao dv gy (oi:=3) (cs:=(z98 y7 y2 y3 y5 y6 A9 l8.length ap)) kz fun mZ ka dw gz=>?_)
 refine qai [6] [7] (z70 v flex ae aa af) dw gz fun m4 gA=>?_
 refine qal (qao dw gA (oi:=3) (cs:=(z86 y7 y2 y3 y6 A9 l8.length ap)) kz fun m5 kd bo gB=>?_)
 refine qae (qab ?_)
 refine wp_seq (qas (z39 v flex ae aa af) bo gB fun m6 gC=>?_)
 refine wp_block ?_
 have hl_:=(hQ.2 ac ‹_›).2
 refine wp_loop_ghost (fun n_ a_ w_=>∃ (k:Nat),n_ = (qaq aa).length - k ∧ k ≤ (qaq aa).length ∧ LInv bo 124 [⟨hC,0,[.int .i64 k1,.int .i64 y2,.int .i64 y3,.int .i64 y4,.int .i64 y5,.int .i64 y6,.int .i64 y7,.slice A9 l8.length ap],true⟩,⟨hZ,0,[.int .i64 aj,.slice ep ak.length eu,.bool al,.slice ae aa.length af,.slice ev am.length ew],true⟩,⟨ic,0,[.int .i64 gS,.slice gV gT.length gW,.bool cz,.slice bC ao.length dG,.slice gX gU.length gY],true⟩,⟨iV,0,[.int .i64 y7,.int .i64 y2,.int .i64 y3,.int .i64 (-1),.int .i64 (-1),.int .i64 y6,.int .i64 y7,.slice A9 l8.length ap],true⟩] [] [(1,.v (.int .i64 v)),(2,.v (.bool flex)),(9,.p 2 0),(14,.v (.slice ae ((qaq aa).length) af)),(15,.p 3 0),(97,.v (.int .i64 (((qaq aa).length:Nat):Int))),(98,.v (.int .i64 ((k:Nat):Int)))] a_ w_) ((qaq aa).length) ⟨0,by omega,by omega,gC.pk,bo,Fr.refl _ _ _⟩ ?_
 rintro m7 m8 m9 ⟨k,ke,kf,gD,ay,gE⟩
 refine qas [(1,.v (.int .i64 v)),(2,.v (.bool flex)),(9,.p 2 0),(14,.v (.slice ae ((qaq aa).length) af)),(15,.p 3 0),(97,.v (.int .i64 (((qaq aa).length:Nat):Int))),(98,.v (.int .i64 ((k:Nat):Int))),(99,.v (.bool (decide (((k:Nat):Int) < (((qaq aa).length:Nat):Int)))))] ay gD fun nf bp=>?_
 refine wp_seq (qaw bp (b:=decide (((k:Nat):Int) < (((qaq aa).length:Nat):Int))) kz (fun bq=>?_) (fun bq=>?_))
 ·
  have kg:=zD bq
  refine wp_skip (qab (wp_seq (wp_block (qas (z34 v flex ae aa af k) ay bp fun ng gF=>?_))))
  refine qaE 14 kz ay fun nh gG ai aC=>?_
  refine qaB [0,1,2,3,4,7,8,9] (z16 v flex ae aa af k y7 y2 y3 y6 A9 l8.length ap bC ao.length dG) 6 (qaa (qac (qaa (qaa (qac (qaa (qac (qaa qad)))))))) (fun _ h=>h.cells) aC gF fun ni gH=>?_
  obtain ⟨iW,iX,gI,kh,bt⟩:=Slots.get (qdh dF) (i:=k) (by first | omega | (have h_:ao.length = (qaq aa).length:=(hQ.2 ac ‹_›).1; omega))
  obtain ⟨iY,dx⟩:∃ x,(qaq aa)[k]? = some x:=⟨_,List.getElem?_eq_getElem (by omega)⟩
  have bu:=(qdz g8) k iY dx
  obtain ⟨bY,bZ,b8,cd,ce,ea,eb,ec,ee,ef,eg,ki,rfl,bw,iZ,i6,nj,nk⟩:=bu.open_
  rw [bw] at bu
  have i7:=iZ.small
  have ja:=i6.small
  rw [bw] at bt
  refine qaD gH (i:=5) (t:=23) (A:=ae) (m:=((qaq aa).length)) (q:=((k:Nat):Int)) (d:=106) kz (e:=26) (size:=5) (bytes:=88) kz gI rfl (by first | omega | (have h_:ao.length = (qaq aa).length:=(hQ.2 ac ‹_›).1; omega)) kz kz (qaa (qac (qaa (qaa (qac (qaa (qac (qaa qad)))))))) aC fun nl gJ=>?_
  refine qa0 gJ (i:=6) (t:=26) (b:=iW) (o:=iX + k * 5) (d:=107) kz (cs:=(z1 bY ea bZ.length eb b8 ec cd.length ee ef ce.length eg)) (v:=.agg #[.int .i64 bY,.slice ea bZ.length eb,.bool b8,.slice ec cd.length ee,.slice ef ce.length eg]) kz (fun w' h'=>(AtF.move bt (TT.step0 ai h') nilM qa9).at_) kz kz (qaa (qac (qaa (qaa (qac (qaa (qac (qaa qad)))))))) aC fun nm gK=>?_
  obtain ⟨jb,jc,gL,kj,bx⟩:=Slots.get gZ (i:=k) (by first | omega | (have h_:ao.length = (qaq aa).length:=(hQ.2 ac ‹_›).1; omega))
  obtain ⟨jd,dy⟩:∃ x,ao[k]? = some x:=⟨_,List.getElem?_eq_getElem (by omega)⟩
  have bz:=g9 k jd dy
  obtain ⟨cm,cq,cr,cu,cw,eh,ei,ej,ek,em,eo,km,rfl,bA,je,jf,np,nr⟩:=bz.open_
  rw [bA] at bz
  have jg:=je.small
  have jh:=jf.small
  rw [bA] at bx
  refine qaD gK (i:=10) (t:=23) (A:=bC) (m:=ao.length) (q:=((k:Nat):Int)) (d:=111) kz (e:=26) (size:=5) (bytes:=88) kz gL rfl (by first | omega | (have h_:ao.length = (qaq aa).length:=(hQ.2 ac ‹_›).1; omega)) kz kz (qaa (qac (qaa (qaa (qac (qaa (qac (qaa qad)))))))) aC fun ns gM=>?_
  refine qa0 gM (i:=11) (t:=26) (b:=jb) (o:=jc + k * 5) (d:=112) kz (cs:=(z1 cm eh cq.length ei cr ej cu.length ek em cw.length eo)) (v:=.agg #[.int .i64 cm,.slice eh cq.length ei,.bool cr,.slice ej cu.length ek,.slice em cw.length eo]) kz (fun w' h'=>(AtF.move bx (TT.step0 ai h') nilM qa9).at_) kz kz (qaa (qac (qaa (qaa (qac (qaa (qac (qaa qad)))))))) aC fun nt gN=>?_
  refine qam (i:=12) kz (qak gN (f:=33) (vs:=[.agg #[.int .i64 y7,.int .i64 y2,.int .i64 y3,.int .i64 (-1),.int .i64 (-1),.int .i64 y6,.int .i64 y7,.slice A9 l8.length ap],.int .i64 v,.bool flex,.agg #[.int .i64 bY,.slice ea bZ.length eb,.bool b8,.slice ec cd.length ee,.slice ef ce.length eg],.agg #[.int .i64 cm,.slice eh cq.length ei,.bool cr,.slice ej cu.length ek,.slice em cw.length eo]]) (d:=113) kz Tryz.call33 ( qic hT _ _ _ (Tree.mk bY bZ b8 cd ce) _ (Tree.mk cm cq cr cu cw) _ _ (FldR.mk (l:=l8) dE (gR.move ai.step nilM ai.imm) (fun i_ x_ h_=>((g7 i_ x_ h_).move ai.step nilM ai.imm))) hpl hof (bu.move ai.step nilM ai.imm) (bz.move ai.step nilM ai.imm) (hl_ _ _ _ dx dy)) ?_)
  rintro e_ nu ⟨rfl,dz⟩
  refine ⟨_,rfl,fun nv gO=>?_⟩
  have bB:=ai.next_nil dz
  have dA:=ai.frN dz
  have dB:=TT.ofW dA bB
  refine ⟨fun _=>dB,?_⟩
  refine qaB [13] (z36 v flex ae aa af k) 0 (qaa (qac (qaa (qaa (qac (qaa (qac (qaa qad)))))))) (fun _ h=>h.cells) dB gO fun nw dC=>?_
  refine qaz kz ?_ _
  refine qab (qan dC (b:=false) kz rfl ?_)
  refine wp_skip (qar (qab (qap [0,1] kz ?_)))
  refine qai [0,1] [] [(1,.v (.int .i64 v)),(2,.v (.bool flex)),(9,.p 2 0),(14,.v (.slice ae ((qaq aa).length) af)),(15,.p 3 0),(97,.v (.int .i64 (((qaq aa).length:Nat):Int))),(98,.v (.int .i64 (IntKind.i64.wrap (((k:Nat):Int) + 1))))] bB dC fun nx dD=>?_
  refine qae (qab ?_)
  have gP:IntKind.i64.wrap (((k:Nat):Int) + 1) = ((k + 1:Nat):Int):=qaO (by omega)
  rw [gP] at dD
  exact ⟨(qaq aa).length - (k + 1),by omega,k + 1,rfl,by omega,dD.pk,bB,((gE.trans gG).trans dA)⟩
 have ko:=zF bq
 refine wp_exit (qau (qau (qaI (qab (qas [(10,.v (.bool true))] ay bp fun ny gQ=>?_)))))
 refine wp_ret (qay (qat (qaM gQ ay.cells (v:=.bool true) kz ?_)))
 exact ⟨rfl,ay.step⟩
theorem qlS {v:Int} {flex:Bool} {T:List Fld → Tree → Tree → Prop} (hT:ToOK v flex T) (cf:List Value) (f:Fld) (ct:List Value) (t:Tree) (cg:List Value) (g:Tree) (w:World) (F:Nat → Nat → Prop) (hf:FldR w F cf f) (hpl:f.plain) (ht:TreeR w F ct t) (hg:TreeR w F cg g) (hQ:ToF T v f t g) :
  Calls Tryz.prog 33 #[.agg cf.toArray,.int .i64 v,.bool flex,.agg ct.toArray,.agg cg.toArray] w (qcs w (.bool true)):=by
 by_cases h:f.kind = 11
 ·exact qll hT cf f ct t cg g w F hf hpl h ht hg hQ
 exact qic hT cf f ct t cg g w F hf (qjl hpl) h ht hg hQ.1
abbrev z50 (x0) (x1) (x2) (x3) (x4) (x5):=([(0,.v (.slice x0 x1 x2)),(1,.v (.int .i64 x3)),(2,.v (.bool x4)),(8,.p 0 0),(9,.p 1 0),(11,.v (.int .i64 ((x5:Nat):Int))),(12,.p 2 0),(13,.p 3 0),(23,.v (.slice x0 x1 x2)),(24,.v (.int .i64 ((x1:Nat):Int))),(25,.v (.int .i64 ((x5:Nat):Int))),(41,.v (.bool false)),(48,.v (.bool x4))]:Env)
abbrev z54 (x0) (x1) (x2) (x3) (x4):=([(0,.v (.slice x0 x1 x2)),(1,.v (.int .i64 x3)),(2,.v (.bool false)),(8,.p 0 0),(9,.p 1 0),(11,.v (.int .i64 ((x4:Nat):Int))),(12,.p 2 0),(13,.p 3 0),(23,.v (.slice x0 x1 x2)),(24,.v (.int .i64 ((x1:Nat):Int))),(25,.v (.int .i64 ((x4:Nat):Int))),(54,.v (.bool false))]:Env)
abbrev z62 (x0) (x1) (x2) (x3) (x4) (x5) (x6) (x7) (x8) (x9) (x10) (x11) (x12) (x13) (x14) (x15) (x16) (x17) (x18) (x19) (x20) (x21) (x22) (x23) (x24) (x25):=([(0,.v (.slice x0 x1 x2)),(1,.v (.int .i64 x3)),(2,.v (.bool true)),(8,.p 0 0),(9,.p 1 0),(11,.v (.int .i64 ((x4:Nat):Int))),(12,.p 2 0),(13,.p 3 0),(23,.v (.slice x0 x1 x2)),(24,.v (.int .i64 ((x1:Nat):Int))),(25,.v (.int .i64 ((x4:Nat):Int))),(41,.v (.bool false)),(48,.v (.bool true)),(49,.v (.agg #[.int .i64 x5,.int .i64 x6,.int .i64 x7,.int .i64 x8,.int .i64 x9,.int .i64 x10,.int .i64 x11,.slice x12 x13 x14])),(50,.v (.agg #[.int .i64 x15,.slice x16 x17 x18,.bool x19,.slice x20 x21 x22,.slice x23 x24 x25]))]:Env)
abbrev z57 (x0) (x1) (x2) (x3) (x4) (x5):=([(0,.v (.slice x0 x1 x2)),(1,.v (.int .i64 x3)),(2,.v (.bool x4)),(8,.p 0 0),(9,.p 1 0),(11,.v (.int .i64 ((x5:Nat):Int))),(12,.p 2 0),(13,.p 3 0),(23,.v (.slice x0 x1 x2)),(24,.v (.int .i64 ((x1:Nat):Int))),(25,.v (.int .i64 ((x5:Nat):Int))),(54,.v (.bool false))]:Env)
abbrev z75 (x0) (x1) (x2) (x3) (x4) (x5):=([(0,.v (.slice x0 x1 x2)),(1,.v (.int .i64 x3)),(2,.v (.bool x4)),(8,.p 0 0),(9,.p 1 0),(23,.v (.slice x0 x1 x2)),(24,.v (.int .i64 ((x1:Nat):Int))),(25,.v (.int .i64 ((x5:Nat):Int))),(76,.v (.bool false))]:Env)
abbrev z87 (x0) (x1):=([.slice (some ⟨x0,0,none⟩) 1 1,.agg #[.int .i64 0,.slice none 0 0,.bool false,.slice (some ⟨x1,0,none⟩) 1 1,.slice none 0 0]]:List Value)
set_option maxHeartbeats 4000000 in
theorem qkQ {v:Int} {flex:Bool} {T:List Fld → Tree → Tree → Prop} {U:List Fld → Tree → Prop} (hT:ToOK v flex T) (hU:UsOK U) (A:Option Addr) (c:Nat) (l:List Fld) (ct:List Value) (t:Tree) (cg:List Value) (g:Tree) (w:World) (F:Nat → Nat → Prop) (hl:FldsR w F A c l) (ht:TreeR w F ct t) (hg:TreeR w F cg g) (hpl:plains l) (hP:ToP T U l v flex t g) :
  Calls Tryz.prog 12 #[.slice A l.length c,.int .i64 v,.bool flex,.agg ct.toArray,.agg cg.toArray] w (qcs w (.bool true)):=by
 obtain ⟨xfs,h1,h2⟩:=hl.ex
 have hsm:=h1.small
 obtain ⟨n1,s2,b3,l4,u5,A6,c7,A8,c9,bE,bF,jM,rfl,rfl,jN,jO,mF,jP⟩:=ht.open_
 have iN:=jN.small
 have iO:=jO.small
 obtain ⟨cO,cP,cQ,aF,aB,cR,cS,bG,bN,bH,bO,jQ,rfl,rfl,jR,g8,iP,jS⟩:=hg.open_
 have iQ:=jR.small
 have iR:=g8.small
 have hlen:aF.length = l.length:=hP.1
 have hgu:aB = if flex = true then qcx (qag l u5) else []:=hP.2.2
 obtain ⟨jT,iS,jU⟩:=jS.ex
 have iT:=iS.small
 refine enter (n:=120) Tryz.func12 rfl Tryz.ntmps12 kz fun a hE=>?_
 have hW:=WOk.start w Nil
 refine qaf [0,1,2] kz ?_
 refine qal (qbq hW hE (d:=8) (cs:=(z1 n1 A6 s2.length c7 b3 A8 l4.length c9 bE u5.length bF)) kz fun df mG mH jV jW jX g9 hC=>?_)
 refine qal (qbq g9 hC (d:=9) (cs:=(z1 cO cR cP.length cS cQ bG aF.length bN bH aB.length bO)) kz fun dg mI mJ jY jZ j0 bt hJ=>?_)
 refine qai [2] [] [(0,.v (.slice A l.length c)),(1,.v (.int .i64 v)),(2,.v (.bool flex)),(8,.p 0 0),(9,.p 1 0)] bt hJ fun mK hK=>?_
 refine qae (qab ?_)
 refine wp_seq (qas [(0,.v (.slice A l.length c)),(1,.v (.int .i64 v)),(2,.v (.bool flex)),(8,.p 0 0),(9,.p 1 0),(22,.v (.bool (((aF.length:Nat):Int) != ((l.length:Nat):Int))))] bt hK fun mL ec=>?_)
 refine qaw ec (b:=((aF.length:Nat):Int) != ((l.length:Nat):Int)) kz (fun ee=>?_) (fun ee=>?_)
 ·
  have j1:((aF.length:Nat):Int) ≠ ((l.length:Nat):Int):=by simpa using ee
  refine qas [(10,.v (.bool false))] bt ec fun mM hZ=>?_
  refine wp_ret (qat (qaM hZ bt.cells (v:=.bool false) kz ?_))
  first
   | (exfalso; omega)
   | exact (qeT hgu ‹_› ‹_›).elim
   | exact (qdR hgu ‹_› ‹_›).elim
   | exact (qeU hgu ‹_› ‹_› ‹_› ‹_›).elim
   | exact (qeV hgu ‹_› ‹_› ‹_› ‹_›).elim
   | (exfalso; simp_all; done)
 have j2:((aF.length:Nat):Int) = ((l.length:Nat):Int):=by simpa using ee
 refine wp_skip (qab (wp_seq (qas [(0,.v (.slice A l.length c)),(1,.v (.int .i64 v)),(2,.v (.bool flex)),(8,.p 0 0),(9,.p 1 0),(23,.v (.slice A l.length c)),(24,.v (.int .i64 ((l.length:Nat):Int))),(25,.v (.int .i64 0))] bt ec fun mN ia=>?_)))
 refine wp_block (wp_loop_ghost (fun n_ a_ w_=>∃ (k:Nat),n_ = l.length - k ∧ k ≤ l.length ∧ LInv bt 120 [⟨df,0,[.int .i64 n1,.slice A6 s2.length c7,.bool b3,.slice A8 l4.length c9,.slice bE u5.length bF],true⟩,⟨dg,0,[.int .i64 cO,.slice cR cP.length cS,.bool cQ,.slice bG aF.length bN,.slice bH aB.length bO],true⟩] [] [(0,.v (.slice A l.length c)),(1,.v (.int .i64 v)),(2,.v (.bool flex)),(8,.p 0 0),(9,.p 1 0),(23,.v (.slice A l.length c)),(24,.v (.int .i64 ((l.length:Nat):Int))),(25,.v (.int .i64 ((k:Nat):Int)))] a_ w_) (l.length) ⟨0,by omega,by omega,ia.pk,bt,Fr.refl _ _ _⟩ ?_)
 rintro mO mQ mR ⟨k,j3,j4,ib,av,ef⟩
 refine qas [(0,.v (.slice A l.length c)),(1,.v (.int .i64 v)),(2,.v (.bool flex)),(8,.p 0 0),(9,.p 1 0),(23,.v (.slice A l.length c)),(24,.v (.int .i64 ((l.length:Nat):Int))),(25,.v (.int .i64 ((k:Nat):Int))),(26,.v (.bool (decide (((k:Nat):Int) < ((l.length:Nat):Int)))))] av ib fun mS eg=>?_
 refine wp_seq (qaw eg (b:=decide (((k:Nat):Int) < ((l.length:Nat):Int))) kz (fun eh=>?_) (fun eh=>?_))
 ·
  have j5:=zD eh
  refine wp_skip (qab (wp_seq (wp_block (qaf [0,1,2,3,4,5] kz ?_))))
  refine qai [0] [1,2,3,4,5] [(0,.v (.slice A l.length c)),(1,.v (.int .i64 v)),(2,.v (.bool flex)),(8,.p 0 0),(9,.p 1 0),(23,.v (.slice A l.length c)),(24,.v (.int .i64 ((l.length:Nat):Int))),(25,.v (.int .i64 ((k:Nat):Int))),(27,.v (.int .i64 ((k:Nat):Int)))] av eg fun mT ic=>?_
  obtain ⟨j6,j7,ig,j8,dh⟩:=Slots.get h1 (i:=k) (by first | omega | (have h_:=qcG hgu ‹_›; omega))
  obtain ⟨j9,bP⟩:∃ x,l[k]? = some x:=⟨_,List.getElem?_eq_getElem (by omega)⟩
  have bu:=h2 k j9 bP
  obtain ⟨aj,ak,al,am,ag,ao,aa,ab,ap,ar,iU,rfl,bQ,ii,ka⟩:=bu.open_
  rw [bQ] at bu
  have ij:=ii.small
  rw [bQ] at dh
  refine qal (qax ic (t:=29) (A:=A) (m:=l.length) (q:=((k:Nat):Int)) (d:=28) kz (e:=51) (size:=8) (bytes:=80) kz ig rfl (by first | omega | (have h_:=qcG hgu ‹_›; omega)) fun kd ez=>?_)
  refine qal (qaU ez (t:=51) (b:=j6) (o:=j7 + k * 8) (d:=29) kz (cs:=(z7 aj ak al am ag ao aa ap ab.length ar)) (v:=.agg #[.int .i64 aj,.int .i64 ak,.int .i64 al,.int .i64 am,.int .i64 ag,.int .i64 ao,.int .i64 aa,.slice ap ab.length ar]) kz (AtF.move dh av.step nilM qa9).at_ fun ke eB=>?_)
  refine qal (qaQ av eB (d:=12) (cs:=z15) kz fun ik kf kg iV iW bR di eC=>?_)
  refine qai [4] [5] [(0,.v (.slice A l.length c)),(1,.v (.int .i64 v)),(2,.v (.bool flex)),(8,.p 0 0),(9,.p 1 0),(11,.v (.int .i64 ((k:Nat):Int))),(12,.p 2 0),(23,.v (.slice A l.length c)),(24,.v (.int .i64 ((l.length:Nat):Int))),(25,.v (.int .i64 ((k:Nat):Int))),(29,.v (.agg #[.int .i64 aj,.int .i64 ak,.int .i64 al,.int .i64 am,.int .i64 ag,.int .i64 ao,.int .i64 aa,.slice ap ab.length ar]))] di eC fun kh eD=>?_
  refine qal (qao di eD (oi:=2) (cs:=(z7 aj ak al am ag ao aa ap ab.length ar)) kz fun ki bS aG eE=>?_)
  refine qae (qab ?_)
  refine qaf [0,1,2,3,4] kz ?_
  refine qai [0,1] [2,3,4] [(0,.v (.slice A l.length c)),(1,.v (.int .i64 v)),(2,.v (.bool flex)),(8,.p 0 0),(9,.p 1 0),(11,.v (.int .i64 ((k:Nat):Int))),(12,.p 2 0),(23,.v (.slice A l.length c)),(24,.v (.int .i64 ((l.length:Nat):Int))),(25,.v (.int .i64 ((k:Nat):Int))),(30,.v (.agg #[.int .i64 n1,.slice A6 s2.length c7,.bool b3,.slice A8 l4.length c9,.slice bE u5.length bF])),(31,.v (.int .i64 ((k:Nat):Int)))] aG eE fun kj eF=>?_
  refine qal (qak eF (f:=30) (vs:=[.agg #[.int .i64 n1,.slice A6 s2.length c7,.bool b3,.slice A8 l4.length c9,.slice bE u5.length bF],.int .i64 ((k:Nat):Int)]) (d:=32) kz Tryz.call30 (sAt _ _ k _ _ (ht.move aG.step nilM aG.imm)) ?_)
  rintro e_ km ⟨iX,rfl,eG,aK⟩
  have aL:=eG.move aK nilM (fun b o h_ hb_=>aG.laid (G:=F) aK b o (.inl h_) (Nat.lt_of_lt_of_le hb_ aK.size))
  obtain ⟨aM,aN,aO,aP,aQ,aR,aS,aT,aU,aV,aW,iY,iZ,bT,il,im,ko,kp⟩:=aL.open_
  rw [bT] at aL
  have io:=il.small
  have ip:=im.small
  rw [bT]
  refine ⟨_,rfl,fun kq eH=>?_⟩
  have eI:=aG.next_nil aK
  have bU:=aG.frN aK
  refine qal (qaQ eI eH (d:=13) (cs:=z0) kz fun iq ku kv i6 i7 aw eJ eK=>?_)
  refine qal (qao eJ eK (oi:=3) (cs:=(z1 aM aR aN.length aS aO aT aP.length aU aV aQ.length aW)) kz fun kw ax ac eL=>?_)
  refine qae (qab ?_)
  refine wp_seq (wp_seq (qhD (Mid:=fun a_ w_=>LInv ac 120 [⟨df,0,(z1 n1 A6 s2.length c7 b3 A8 l4.length c9 bE u5.length bF),true⟩,⟨dg,0,(z1 cO cR cP.length cS cQ bG aF.length bN bH aB.length bO),true⟩,⟨ik,0,(z7 aj ak al am ag ao aa ap ab.length ar),true⟩,⟨iq,0,(z1 aM aR aN.length aS aO aT aP.length aU aV aQ.length aW),true⟩] [] [(0,.v (.slice A l.length c)),(1,.v (.int .i64 v)),(2,.v (.bool flex)),(8,.p 0 0),(9,.p 1 0),(11,.v (.int .i64 ((k:Nat):Int))),(12,.p 2 0),(13,.p 3 0),(23,.v (.slice A l.length c)),(24,.v (.int .i64 ((l.length:Nat):Int))),(25,.v (.int .i64 ((k:Nat):Int))),(54,.v (.bool (Fld.pres (Fld.mk aj ak al am ag ao aa ab) v flex (Tree.at_ (Tree.mk n1 s2 b3 l4 u5) k))))] a_ w_) ?_ ?_))
  ·
   refine qap [0,1,2,3,4,5,6,7,8,9,10,11,12,13,14,15,16,17,18,19,20,21] kz ?_
   refine qai [0,1,2,3] [4,5,6,7,8,9,10,11,12,13,14,15,16,17,18,19,20,21] [(0,.v (.slice A l.length c)),(1,.v (.int .i64 v)),(2,.v (.bool flex)),(8,.p 0 0),(9,.p 1 0),(11,.v (.int .i64 ((k:Nat):Int))),(12,.p 2 0),(13,.p 3 0),(23,.v (.slice A l.length c)),(24,.v (.int .i64 ((l.length:Nat):Int))),(25,.v (.int .i64 ((k:Nat):Int))),(36,.v (.bool (decide (ag < 0))))] ac eL fun kx dj=>?_
   refine (zO (decide (ag < 0))).elim (fun aX=>?_) (fun aX=>?_)
   ·
    have ja:=zD aX
    have eM:=dj
    rw [aX] at eM
    refine qai [4,5] [6,7,8,9,10,11,12,13,14,15,16,17,18,19,20,21] [(0,.v (.slice A l.length c)),(1,.v (.int .i64 v)),(2,.v (.bool flex)),(8,.p 0 0),(9,.p 1 0),(11,.v (.int .i64 ((k:Nat):Int))),(12,.p 2 0),(13,.p 3 0),(23,.v (.slice A l.length c)),(24,.v (.int .i64 ((l.length:Nat):Int))),(25,.v (.int .i64 ((k:Nat):Int))),(36,.v (.bool true)),(37,.v (.agg #[.int .i64 aj,.int .i64 ak,.int .i64 al,.int .i64 am,.int .i64 ag,.int .i64 ao,.int .i64 aa,.slice ap ab.length ar])),(38,.v (.int .i64 v))] ac eM fun ky eN=>?_
    refine qal (qak eN (f:=31) (vs:=[.agg #[.int .i64 aj,.int .i64 ak,.int .i64 al,.int .i64 am,.int .i64 ag,.int .i64 ao,.int .i64 aa,.slice ap ab.length ar],.int .i64 v]) (d:=39) kz Tryz.call31 (sHas aj ak al am ag ao aa ab _ _ v _) ?_)
    rintro e_ kA ⟨rfl,dl⟩
    refine ⟨_,rfl,fun kB eO=>?_⟩
    have af:=ac.next_nil dl
    have aH:=ac.frN dl
    refine qai [7,8] [9,10,11,12,13,14,15,16,17,18,19,20,21] [(0,.v (.slice A l.length c)),(1,.v (.int .i64 v)),(2,.v (.bool flex)),(8,.p 0 0),(9,.p 1 0),(11,.v (.int .i64 ((k:Nat):Int))),(12,.p 2 0),(13,.p 3 0),(23,.v (.slice A l.length c)),(24,.v (.int .i64 ((l.length:Nat):Int))),(25,.v (.int .i64 ((k:Nat):Int))),(41,.v (.bool (Fld.has (Fld.mk aj ak al am ag ao aa ab) v)))] af eO fun kC dp=>?_
    refine (zO (Fld.has (Fld.mk aj ak al am ag ao aa ab) v)).elim (fun bV=>?_) (fun bV=>?_)
    ·
     have eP:=dp
     rw [bV] at eP
     refine qai [9,10,11,12,13,14,15,16,17,18,19,20,21] [] [(0,.v (.slice A l.length c)),(1,.v (.int .i64 v)),(2,.v (.bool flex)),(8,.p 0 0),(9,.p 1 0),(11,.v (.int .i64 ((k:Nat):Int))),(12,.p 2 0),(13,.p 3 0),(23,.v (.slice A l.length c)),(24,.v (.int .i64 ((l.length:Nat):Int))),(25,.v (.int .i64 ((k:Nat):Int))),(54,.v (.bool true))] af eP fun kD eQ=>?_
     refine qae (qab ?_)
     have hp_:Fld.pres (Fld.mk aj ak al am ag ao aa ab) v flex (Tree.at_ (Tree.mk n1 s2 b3 l4 u5) k) = true:=by first | (first | exact qlP ‹_› ‹_› | exact qlQ ‹_› ‹_› ‹_›) | (exfalso; omega)
     exact ⟨(eQ.pk (env':=[(0,.v (.slice A l.length c)),(1,.v (.int .i64 v)),(2,.v (.bool flex)),(8,.p 0 0),(9,.p 1 0),(11,.v (.int .i64 ((k:Nat):Int))),(12,.p 2 0),(13,.p 3 0),(23,.v (.slice A l.length c)),(24,.v (.int .i64 ((l.length:Nat):Int))),(25,.v (.int .i64 ((k:Nat):Int))),(54,.v (.bool true))])).cast (by rw [hp_]),af,aH⟩
    have eR:=dp
    rw [bV] at eR
    refine qai [9,10,11,12] [13,14,15,16,17,18,19,20,21] [(0,.v (.slice A l.length c)),(1,.v (.int .i64 v)),(2,.v (.bool flex)),(8,.p 0 0),(9,.p 1 0),(11,.v (.int .i64 ((k:Nat):Int))),(12,.p 2 0),(13,.p 3 0),(23,.v (.slice A l.length c)),(24,.v (.int .i64 ((l.length:Nat):Int))),(25,.v (.int .i64 ((k:Nat):Int))),(41,.v (.bool false)),(45,.v (.bool (decide (ag ≥ 0))))] af eR fun kE dq=>?_
    refine (zO (decide (ag ≥ 0))).elim (fun aY=>?_) (fun aY=>?_)
    ·
     have jb:=zD aY
     have eS:=dq
     rw [aY] at eS
     refine qai [13,14,15] [16,17,18,19,20,21] (z50 A l.length c v flex k) af eS fun kF dr=>?_
     refine (zO (flex)).elim (fun aZ=>?_) (fun aZ=>?_)
     ·
      have eU:=dr.cast (env':=[(0,.v (.slice A l.length c)),(1,.v (.int .i64 v)),(2,.v (.bool true)),(8,.p 0 0),(9,.p 1 0),(11,.v (.int .i64 ((k:Nat):Int))),(12,.p 2 0),(13,.p 3 0),(23,.v (.slice A l.length c)),(24,.v (.int .i64 ((l.length:Nat):Int))),(25,.v (.int .i64 ((k:Nat):Int))),(41,.v (.bool false)),(48,.v (.bool true))]) (by rw [aZ])
      refine qai [16,17] [18,19,20,21] (z62 A l.length c v k aj ak al am ag ao aa ap ab.length ar aM aR aN.length aS aO aT aP.length aU aV aQ.length aW) af eU fun kG eV=>?_
      refine qal (qak eV (f:=32) (vs:=[.agg #[.int .i64 aj,.int .i64 ak,.int .i64 al,.int .i64 am,.int .i64 ag,.int .i64 ao,.int .i64 aa,.slice ap ab.length ar],.agg #[.int .i64 aM,.slice aR aN.length aS,.bool aO,.slice aT aP.length aU,.slice aV aQ.length aW]]) (d:=51) kz Tryz.call32 (qh5 _ _ _ _ _ _ _ (bu.move af.step nilM af.imm) (Nat.le_refl _) (aL.move ((aw.trans ax).trans aH).step immM ((aw.trans ax).trans aH).to')) ?_)
      rintro e_ kH ⟨rfl,dt⟩
      refine ⟨_,rfl,fun kI eW=>?_⟩
      have du:=af.next_nil dt
      have eX:=af.frN dt
      refine qai [19,20,21] [] [(0,.v (.slice A l.length c)),(1,.v (.int .i64 v)),(2,.v (.bool true)),(8,.p 0 0),(9,.p 1 0),(11,.v (.int .i64 ((k:Nat):Int))),(12,.p 2 0),(13,.p 3 0),(23,.v (.slice A l.length c)),(24,.v (.int .i64 ((l.length:Nat):Int))),(25,.v (.int .i64 ((k:Nat):Int))),(54,.v (.bool (!(Fld.usual (Fld.mk aj ak al am ag ao aa ab) (Tree.at_ (Tree.mk n1 s2 b3 l4 u5) k)))))] du eW fun kJ eY=>?_
      refine qae (qab ?_)
      have hp_:Fld.pres (Fld.mk aj ak al am ag ao aa ab) v flex (Tree.at_ (Tree.mk n1 s2 b3 l4 u5) k) = !(Fld.usual (Fld.mk aj ak al am ag ao aa ab) (Tree.at_ (Tree.mk n1 s2 b3 l4 u5) k)):=by first | (first | exact qkN ‹_› ‹_› | exact qkO ‹_›) | (exfalso; omega)
      exact ⟨(eY.pk (env':=[(0,.v (.slice A l.length c)),(1,.v (.int .i64 v)),(2,.v (.bool true)),(8,.p 0 0),(9,.p 1 0),(11,.v (.int .i64 ((k:Nat):Int))),(12,.p 2 0),(13,.p 3 0),(23,.v (.slice A l.length c)),(24,.v (.int .i64 ((l.length:Nat):Int))),(25,.v (.int .i64 ((k:Nat):Int))),(54,.v (.bool (!(Fld.usual (Fld.mk aj ak al am ag ao aa ab) (Tree.at_ (Tree.mk n1 s2 b3 l4 u5) k)))))])).cast (by rw [hp_,aZ]),du,(aH.trans eX)⟩
     have eZ:=dr.cast (env':=[(0,.v (.slice A l.length c)),(1,.v (.int .i64 v)),(2,.v (.bool false)),(8,.p 0 0),(9,.p 1 0),(11,.v (.int .i64 ((k:Nat):Int))),(12,.p 2 0),(13,.p 3 0),(23,.v (.slice A l.length c)),(24,.v (.int .i64 ((l.length:Nat):Int))),(25,.v (.int .i64 ((k:Nat):Int))),(41,.v (.bool false)),(48,.v (.bool false))]) (by rw [aZ])
     refine qai [16,17,18,19,20,21] [] (z54 A l.length c v k) af eZ fun kK e9=>?_
     refine qae (qab ?_)
     have hp_:Fld.pres (Fld.mk aj ak al am ag ao aa ab) v flex (Tree.at_ (Tree.mk n1 s2 b3 l4 u5) k) = false:=by first | (first | exact qh7 ‹_› ‹_› | exact qh8 ‹_› ‹_› | exact qh9 ‹_› ‹_›) | (exfalso; omega)
     exact ⟨(e9.pk (env':=[(0,.v (.slice A l.length c)),(1,.v (.int .i64 v)),(2,.v (.bool false)),(8,.p 0 0),(9,.p 1 0),(11,.v (.int .i64 ((k:Nat):Int))),(12,.p 2 0),(13,.p 3 0),(23,.v (.slice A l.length c)),(24,.v (.int .i64 ((l.length:Nat):Int))),(25,.v (.int .i64 ((k:Nat):Int))),(54,.v (.bool false))])).cast (by rw [hp_,aZ]),af,aH⟩
    have jc:=zF aY
    have fa:=dq
    rw [aY] at fa
    refine qai [13,14,15,16,17,18,19,20,21] [] (z57 A l.length c v flex k) af fa fun kL fb=>?_
    refine qae (qab ?_)
    have hp_:Fld.pres (Fld.mk aj ak al am ag ao aa ab) v flex (Tree.at_ (Tree.mk n1 s2 b3 l4 u5) k) = false:=by first | (first | exact qh7 ‹_› ‹_› | exact qh8 ‹_› ‹_› | exact qh9 ‹_› ‹_›) | (exfalso; omega)
    exact ⟨(fb.pk (env':=[(0,.v (.slice A l.length c)),(1,.v (.int .i64 v)),(2,.v (.bool flex)),(8,.p 0 0),(9,.p 1 0),(11,.v (.int .i64 ((k:Nat):Int))),(12,.p 2 0),(13,.p 3 0),(23,.v (.slice A l.length c)),(24,.v (.int .i64 ((l.length:Nat):Int))),(25,.v (.int .i64 ((k:Nat):Int))),(54,.v (.bool false))])).cast (by rw [hp_]),af,aH⟩
   have jd:=zF aX
   have fe:=dj
   rw [aX] at fe
   refine qai [4,5,6,7,8,9,10,11,12] [13,14,15,16,17,18,19,20,21] [(0,.v (.slice A l.length c)),(1,.v (.int .i64 v)),(2,.v (.bool flex)),(8,.p 0 0),(9,.p 1 0),(11,.v (.int .i64 ((k:Nat):Int))),(12,.p 2 0),(13,.p 3 0),(23,.v (.slice A l.length c)),(24,.v (.int .i64 ((l.length:Nat):Int))),(25,.v (.int .i64 ((k:Nat):Int))),(41,.v (.bool false)),(45,.v (.bool (decide (ag ≥ 0))))] ac fe fun kM dv=>?_
   refine (zO (decide (ag ≥ 0))).elim (fun ba=>?_) (fun ba=>?_)
   ·
    have je:=zD ba
    have ff:=dv
    rw [ba] at ff
    refine qai [13,14,15] [16,17,18,19,20,21] (z50 A l.length c v flex k) ac ff fun kN dw=>?_
    refine (zO (flex)).elim (fun bd=>?_) (fun bd=>?_)
    ·
     have fg:=dw.cast (env':=[(0,.v (.slice A l.length c)),(1,.v (.int .i64 v)),(2,.v (.bool true)),(8,.p 0 0),(9,.p 1 0),(11,.v (.int .i64 ((k:Nat):Int))),(12,.p 2 0),(13,.p 3 0),(23,.v (.slice A l.length c)),(24,.v (.int .i64 ((l.length:Nat):Int))),(25,.v (.int .i64 ((k:Nat):Int))),(41,.v (.bool false)),(48,.v (.bool true))]) (by rw [bd])
     refine qai [16,17] [18,19,20,21] (z62 A l.length c v k aj ak al am ag ao aa ap ab.length ar aM aR aN.length aS aO aT aP.length aU aV aQ.length aW) ac fg fun kO fh=>?_
     refine qal (qak fh (f:=32) (vs:=[.agg #[.int .i64 aj,.int .i64 ak,.int .i64 al,.int .i64 am,.int .i64 ag,.int .i64 ao,.int .i64 aa,.slice ap ab.length ar],.agg #[.int .i64 aM,.slice aR aN.length aS,.bool aO,.slice aT aP.length aU,.slice aV aQ.length aW]]) (d:=51) kz Tryz.call32 (qh5 _ _ _ _ _ _ _ (bu.move ac.step nilM ac.imm) (Nat.le_refl _) (aL.move (aw.trans ax).step immM (aw.trans ax).to')) ?_)
     rintro e_ kP ⟨rfl,dx⟩
     refine ⟨_,rfl,fun kQ fi=>?_⟩
     have dy:=ac.next_nil dx
     have fj:=ac.frN dx
     refine qai [19,20,21] [] [(0,.v (.slice A l.length c)),(1,.v (.int .i64 v)),(2,.v (.bool true)),(8,.p 0 0),(9,.p 1 0),(11,.v (.int .i64 ((k:Nat):Int))),(12,.p 2 0),(13,.p 3 0),(23,.v (.slice A l.length c)),(24,.v (.int .i64 ((l.length:Nat):Int))),(25,.v (.int .i64 ((k:Nat):Int))),(54,.v (.bool (!(Fld.usual (Fld.mk aj ak al am ag ao aa ab) (Tree.at_ (Tree.mk n1 s2 b3 l4 u5) k)))))] dy fi fun kR fk=>?_
     refine qae (qab ?_)
     have hp_:Fld.pres (Fld.mk aj ak al am ag ao aa ab) v flex (Tree.at_ (Tree.mk n1 s2 b3 l4 u5) k) = !(Fld.usual (Fld.mk aj ak al am ag ao aa ab) (Tree.at_ (Tree.mk n1 s2 b3 l4 u5) k)):=by first | (first | exact qkN ‹_› ‹_› | exact qkO ‹_›) | (exfalso; omega)
     exact ⟨(fk.pk (env':=[(0,.v (.slice A l.length c)),(1,.v (.int .i64 v)),(2,.v (.bool true)),(8,.p 0 0),(9,.p 1 0),(11,.v (.int .i64 ((k:Nat):Int))),(12,.p 2 0),(13,.p 3 0),(23,.v (.slice A l.length c)),(24,.v (.int .i64 ((l.length:Nat):Int))),(25,.v (.int .i64 ((k:Nat):Int))),(54,.v (.bool (!(Fld.usual (Fld.mk aj ak al am ag ao aa ab) (Tree.at_ (Tree.mk n1 s2 b3 l4 u5) k)))))])).cast (by rw [hp_,bd]),dy,fj⟩
    have fm:=dw.cast (env':=[(0,.v (.slice A l.length c)),(1,.v (.int .i64 v)),(2,.v (.bool false)),(8,.p 0 0),(9,.p 1 0),(11,.v (.int .i64 ((k:Nat):Int))),(12,.p 2 0),(13,.p 3 0),(23,.v (.slice A l.length c)),(24,.v (.int .i64 ((l.length:Nat):Int))),(25,.v (.int .i64 ((k:Nat):Int))),(41,.v (.bool false)),(48,.v (.bool false))]) (by rw [bd])
    refine qai [16,17,18,19,20,21] [] (z54 A l.length c v k) ac fm fun kS fo=>?_
    refine qae (qab ?_)
    have hp_:Fld.pres (Fld.mk aj ak al am ag ao aa ab) v flex (Tree.at_ (Tree.mk n1 s2 b3 l4 u5) k) = false:=by first | (first | exact qh7 ‹_› ‹_› | exact qh8 ‹_› ‹_› | exact qh9 ‹_› ‹_›) | (exfalso; omega)
    exact ⟨(fo.pk (env':=[(0,.v (.slice A l.length c)),(1,.v (.int .i64 v)),(2,.v (.bool false)),(8,.p 0 0),(9,.p 1 0),(11,.v (.int .i64 ((k:Nat):Int))),(12,.p 2 0),(13,.p 3 0),(23,.v (.slice A l.length c)),(24,.v (.int .i64 ((l.length:Nat):Int))),(25,.v (.int .i64 ((k:Nat):Int))),(54,.v (.bool false))])).cast (by rw [hp_,bd]),ac,Fr.refl _ _ _⟩
   have jf:=zF ba
   have fq:=dv
   rw [ba] at fq
   refine qai [13,14,15,16,17,18,19,20,21] [] (z57 A l.length c v flex k) ac fq fun kT fr=>?_
   refine qae (qab ?_)
   have hp_:Fld.pres (Fld.mk aj ak al am ag ao aa ab) v flex (Tree.at_ (Tree.mk n1 s2 b3 l4 u5) k) = false:=by first | (first | exact qh7 ‹_› ‹_› | exact qh8 ‹_› ‹_› | exact qh9 ‹_› ‹_›) | (exfalso; omega)
   exact ⟨(fr.pk (env':=[(0,.v (.slice A l.length c)),(1,.v (.int .i64 v)),(2,.v (.bool flex)),(8,.p 0 0),(9,.p 1 0),(11,.v (.int .i64 ((k:Nat):Int))),(12,.p 2 0),(13,.p 3 0),(23,.v (.slice A l.length c)),(24,.v (.int .i64 ((l.length:Nat):Int))),(25,.v (.int .i64 ((k:Nat):Int))),(54,.v (.bool false))])).cast (by rw [hp_]),ac,Fr.refl _ _ _⟩
  rintro kU kV ⟨bW,dz,bf⟩
  refine qaw bW (b:=Fld.pres (Fld.mk aj ak al am ag ao aa ab) v flex (Tree.at_ (Tree.mk n1 s2 b3 l4 u5) k)) kz (fun ft=>?_) (fun ft=>?_)
  ·
   refine wp_seq (qaE 11 kz dz fun kW bX aC bY=>?_)
   refine qaB [0,1,2,3,4,5,6] [(0,.v (.slice A l.length c)),(1,.v (.int .i64 v)),(2,.v (.bool flex)),(8,.p 0 0),(9,.p 1 0),(23,.v (.slice A l.length c)),(24,.v (.int .i64 ((l.length:Nat):Int))),(25,.v (.int .i64 ((k:Nat):Int))),(55,.v (.agg #[.int .i64 aj,.int .i64 ak,.int .i64 al,.int .i64 am,.int .i64 ag,.int .i64 ao,.int .i64 aa,.slice ap ab.length ar])),(56,.v (.int .i64 v)),(57,.v (.bool flex)),(58,.v (.agg #[.int .i64 aM,.slice aR aN.length aS,.bool aO,.slice aT aP.length aU,.slice aV aQ.length aW])),(60,.v (.slice bG aF.length bN)),(61,.v (.int .i64 ((k:Nat):Int)))] 4 (qaa (qaa (qaa (qac (qaa (qaa (qac (qaa qad)))))))) (fun _ h=>h.cells) bY bW fun kX fu=>?_
   obtain ⟨ir,iu,fv,jg,bZ⟩:=Slots.get g8 (i:=k) (by first | omega | (have h_:=qcG hgu ‹_›; omega))
   obtain ⟨iv,dA⟩:∃ x,aF[k]? = some x:=⟨_,List.getElem?_eq_getElem (by omega)⟩
   have b8:=iP k iv dA
   obtain ⟨cT,cU,cV,cW,cX,ei,ej,ek,em,eo,ep,jh,rfl,cd,iw,ix,kY,kZ⟩:=b8.open_
   rw [cd] at b8
   have iy:=iw.small
   have iz:=ix.small
   rw [cd] at bZ
   refine qaD fu (i:=7) (t:=23) (A:=bG) (m:=aF.length) (q:=((k:Nat):Int)) (d:=62) kz (e:=26) (size:=5) (bytes:=88) kz fv rfl (by first | omega | (have h_:=qcG hgu ‹_›; omega)) kz kz (qaa (qaa (qaa (qac (qaa (qaa (qac (qaa qad)))))))) bY fun k5 fw=>?_
   refine qa0 fw (i:=8) (t:=26) (b:=ir) (o:=iu + k * 5) (d:=63) kz (cs:=(z1 cT ei cU.length ej cV ek cW.length em eo cX.length ep)) (v:=.agg #[.int .i64 cT,.slice ei cU.length ej,.bool cV,.slice ek cW.length em,.slice eo cX.length ep]) kz (fun w' h'=>(AtF.move bZ (TT.step0 aC h') nilM qa9).at_) kz kz (qaa (qaa (qaa (qac (qaa (qaa (qac (qaa qad)))))))) bY fun k6 fx=>?_
   refine qam (i:=9) kz (qak fx (f:=33) (vs:=[.agg #[.int .i64 aj,.int .i64 ak,.int .i64 al,.int .i64 am,.int .i64 ag,.int .i64 ao,.int .i64 aa,.slice ap ab.length ar],.int .i64 v,.bool flex,.agg #[.int .i64 aM,.slice aR aN.length aS,.bool aO,.slice aT aP.length aU,.slice aV aQ.length aW],.agg #[.int .i64 cT,.slice ei cU.length ej,.bool cV,.slice ek cW.length em,.slice eo cX.length ep]]) (d:=64) kz Tryz.call33 ( qlS hT _ _ _ (Tree.at_ (Tree.mk n1 s2 b3 l4 u5) k) _ (Tree.mk cT cU cV cW cX) _ _ (bu.move aC.step nilM aC.imm) (qf5 hpl (List.mem_of_getElem? bP)) (aL.move (((aw.trans ax).trans bf).trans bX).step immM (((aw.trans ax).trans bf).trans bX).to') (b8.move aC.step nilM aC.imm) ((hP.2.1 k _ _ bP dA).1 ‹_›)) ?_)
   rintro e_ k7 ⟨rfl,dB⟩
   refine ⟨_,rfl,fun k8 fy=>?_⟩
   have ce:=aC.next_nil dB
   have dC:=aC.frN dB
   have dD:=TT.ofW dC ce
   refine ⟨fun _=>dD,?_⟩
   refine qaB [10] [(0,.v (.slice A l.length c)),(1,.v (.int .i64 v)),(2,.v (.bool flex)),(8,.p 0 0),(9,.p 1 0),(23,.v (.slice A l.length c)),(24,.v (.int .i64 ((l.length:Nat):Int))),(25,.v (.int .i64 ((k:Nat):Int))),(65,.v (.bool false))] 0 (qaa (qaa (qaa (qac (qaa (qaa (qac (qaa qad)))))))) (fun _ h=>h.cells) dD fy fun k9 dE=>?_
   refine qaz kz ?_ _
   refine qab (qan dE (b:=false) kz rfl ?_)
   refine wp_skip (qab (wp_exit (qau (qaI (qab (qap [0,1] kz ?_))))))
   refine qai [0,1] [] [(0,.v (.slice A l.length c)),(1,.v (.int .i64 v)),(2,.v (.bool flex)),(8,.p 0 0),(9,.p 1 0),(23,.v (.slice A l.length c)),(24,.v (.int .i64 ((l.length:Nat):Int))),(25,.v (.int .i64 (IntKind.i64.wrap (((k:Nat):Int) + 1))))] ce dE fun la fz=>?_
   refine qae (qab ?_)
   obtain ⟨dF,fA,fB⟩:=ce.cutB fz 2 [⟨df,0,(z1 n1 A6 s2.length c7 b3 A8 l4.length c9 bE u5.length bF),true⟩,⟨dg,0,(z1 cO cR cP.length cS cQ bG aF.length bN bH aB.length bO),true⟩] [(0,.v (.slice A l.length c)),(1,.v (.int .i64 v)),(2,.v (.bool flex)),(8,.p 0 0),(9,.p 1 0),(23,.v (.slice A l.length c)),(24,.v (.int .i64 ((l.length:Nat):Int))),(25,.v (.int .i64 (IntKind.i64.wrap (((k:Nat):Int) + 1))))]
   have fC:IntKind.i64.wrap (((k:Nat):Int) + 1) = ((k + 1:Nat):Int):=qaO (by omega)
   rw [fC] at dF
   exact ⟨l.length - (k + 1),by omega,k + 1,rfl,by omega,dF.pk,fA,(((((((((ef.trans bR).trans bS).trans bU).trans aw).trans ax).trans bf).trans bX).trans dC).trans fB)⟩
  refine wp_skip (qab (qaE 11 kz dz fun lb dG cm cq=>?_))
  refine qaB [0,2,3,4] [(0,.v (.slice A l.length c)),(1,.v (.int .i64 v)),(2,.v (.bool flex)),(8,.p 0 0),(9,.p 1 0),(23,.v (.slice A l.length c)),(24,.v (.int .i64 ((l.length:Nat):Int))),(25,.v (.int .i64 ((k:Nat):Int))),(66,.v (.agg #[.int .i64 aj,.int .i64 ak,.int .i64 al,.int .i64 am,.int .i64 ag,.int .i64 ao,.int .i64 aa,.slice ap ab.length ar])),(69,.v (.slice bG aF.length bN)),(70,.v (.int .i64 ((k:Nat):Int)))] 7 (qaa (qac (qaa (qaa (qac (qaa qad)))))) (fun _ h=>h.cells) cq bW fun lc fD=>?_
  obtain ⟨iA,iB,fE,ji,cr⟩:=Slots.get g8 (i:=k) (by first | omega | (have h_:=qcG hgu ‹_›; omega))
  obtain ⟨iC,cu⟩:∃ x,aF[k]? = some x:=⟨_,List.getElem?_eq_getElem (by omega)⟩
  have bA:=iP k iC cu
  obtain ⟨bI,bJ,bK,bL,bM,cY,cZ,c5,c6,da,db,jj,rfl,cw,iD,iE,ld,lf⟩:=bA.open_
  rw [cw] at bA
  have iF:=iD.small
  have iG:=iE.small
  rw [cw] at cr
  refine qaD fD (i:=5) (t:=23) (A:=bG) (m:=aF.length) (q:=((k:Nat):Int)) (d:=71) kz (e:=26) (size:=5) (bytes:=88) kz fE rfl (by first | omega | (have h_:=qcG hgu ‹_›; omega)) kz kz (qaa (qac (qaa (qaa (qac (qaa qad)))))) cq fun lg fF=>?_
  refine qa0 fF (i:=6) (t:=26) (b:=iA) (o:=iB + k * 5) (d:=72) kz (cs:=(z1 bI cY bJ.length cZ bK c5 bL.length c6 da bM.length db)) (v:=.agg #[.int .i64 bI,.slice cY bJ.length cZ,.bool bK,.slice c5 bL.length c6,.slice da bM.length db]) kz (fun w' h'=>(AtF.move cr (TT.step0 cm h') nilM qa9).at_) kz kz (qaa (qac (qaa (qaa (qac (qaa qad)))))) cq fun lh dH=>?_
  refine qcX (i:=1) (j:=7) kz ?_ ?_
  ·
   refine (qbu cm dH (e:=51) (size:=8) (len:=1) (cs:=(z7 aj ak al am ag ao aa ap ab.length ar)) (d:=67) kz kz fun fG li lj jk jl bB dI fH=>?_)
   have fI:=TT.ofW bB dI
   refine ⟨fun _=>fI,?_⟩
   refine qam (i:=7) kz (qbu dI fH (e:=26) (size:=5) (len:=1) (cs:=(z1 bI cY bJ.length cZ bK c5 bL.length c6 da bM.length db)) (d:=73) kz kz fun fJ lm ln jm jn cz ay fK=>?_)
   have dJ:=TT.ofW (bB.trans cz) ay
   refine ⟨fun _=>dJ,?_⟩
   refine qaB [8] [(0,.v (.slice A l.length c)),(1,.v (.int .i64 v)),(2,.v (.bool flex)),(8,.p 0 0),(9,.p 1 0),(23,.v (.slice A l.length c)),(24,.v (.int .i64 ((l.length:Nat):Int))),(25,.v (.int .i64 ((k:Nat):Int))),(67,.v (.slice (some ⟨fG,0,none⟩) 1 1)),(74,.v (.agg #[.int .i64 0,.slice none 0 0,.bool false,.slice (some ⟨fJ,0,none⟩) 1 1,.slice none 0 0]))] 2 (qaa (qac (qaa (qaa (qac (qaa qad)))))) (fun _ h=>h.cells) dJ fK fun lp fL=>?_
   refine qam (i:=9) kz (qak fL (f:=34) (vs:=(z87 fG fJ)) (d:=75) kz Tryz.call34 ( sUs hU _ _ [(Fld.mk aj ak al am ag ao aa ab)] _ (.mk 0 [] false [(Tree.mk bI bJ bK bL bM)] []) _ _ (qia (ay.own 0 _ rfl) ((bu.move ay.step nilM ay.imm)) (Nat.le_refl _)) (qib (ay.own 1 _ rfl) ((bA.move ay.step nilM ay.imm)) (Nat.le_refl _)) (qkL ((hP.2.1 k _ _ bP cu).2 ‹_›))) ?_)
   rintro e_ lq ⟨rfl,dK⟩
   refine ⟨_,rfl,fun lr fM=>?_⟩
   have cA:=ay.next_nil dK
   have dL:=ay.frN dK
   have dM:=TT.ofW ((bB.trans cz).trans dL) cA
   refine ⟨fun _=>dM,?_⟩
   refine qaB [10] (z75 A l.length c v flex k) 0 (qaa (qac (qaa (qaa (qac (qaa qad)))))) (fun _ h=>h.cells) dM fM fun ls dN=>?_
   refine qaz kz ?_ _
   refine qab (qan dN (b:=false) kz rfl ?_)
   refine wp_skip (qar (qab (qap [0,1] kz ?_)))
   refine qai [0,1] [] [(0,.v (.slice A l.length c)),(1,.v (.int .i64 v)),(2,.v (.bool flex)),(8,.p 0 0),(9,.p 1 0),(23,.v (.slice A l.length c)),(24,.v (.int .i64 ((l.length:Nat):Int))),(25,.v (.int .i64 (IntKind.i64.wrap (((k:Nat):Int) + 1))))] cA dN fun lu fN=>?_
   refine qae (qab ?_)
   obtain ⟨dO,fO,fP⟩:=cA.cutB fN 2 [⟨df,0,(z1 n1 A6 s2.length c7 b3 A8 l4.length c9 bE u5.length bF),true⟩,⟨dg,0,(z1 cO cR cP.length cS cQ bG aF.length bN bH aB.length bO),true⟩] [(0,.v (.slice A l.length c)),(1,.v (.int .i64 v)),(2,.v (.bool flex)),(8,.p 0 0),(9,.p 1 0),(23,.v (.slice A l.length c)),(24,.v (.int .i64 ((l.length:Nat):Int))),(25,.v (.int .i64 (IntKind.i64.wrap (((k:Nat):Int) + 1))))]
   obtain ⟨fQ,fR⟩:=fO.cutR 0 []
   have fS:IntKind.i64.wrap (((k:Nat):Int) + 1) = ((k + 1:Nat):Int):=qaO (by omega)
   rw [fS] at dO
   exact ⟨l.length - (k + 1),by omega,k + 1,rfl,by omega,dO.pk,fQ,((((((((((((ef.trans bR).trans bS).trans bU).trans aw).trans ax).trans bf).trans dG).trans bB).trans cz).trans dL).trans fP).trans fR)⟩
  refine (qbu cm dH (e:=26) (size:=5) (len:=1) (cs:=(z1 bI cY bJ.length cZ bK c5 bL.length c6 da bM.length db)) (d:=73) kz kz fun fT lv lw jo jp bC dP fU=>?_)
  have dQ:=TT.ofW bC dP
  refine ⟨fun _=>dQ,?_⟩
  refine qaB [8] [(0,.v (.slice A l.length c)),(1,.v (.int .i64 v)),(2,.v (.bool flex)),(8,.p 0 0),(9,.p 1 0),(23,.v (.slice A l.length c)),(24,.v (.int .i64 ((l.length:Nat):Int))),(25,.v (.int .i64 ((k:Nat):Int))),(66,.v (.agg #[.int .i64 aj,.int .i64 ak,.int .i64 al,.int .i64 am,.int .i64 ag,.int .i64 ao,.int .i64 aa,.slice ap ab.length ar])),(74,.v (.agg #[.int .i64 0,.slice none 0 0,.bool false,.slice (some ⟨fT,0,none⟩) 1 1,.slice none 0 0]))] 3 (qaa (qac (qaa (qaa (qac (qaa qad)))))) (fun _ h=>h.cells) dQ fU fun lx fV=>?_
  refine qam (i:=1) kz (qbu dP fV (e:=51) (size:=8) (len:=1) (cs:=(z7 aj ak al am ag ao aa ap ab.length ar)) (d:=67) kz kz fun iH ly lz jq jr cB az fW=>?_)
  have fX:=TT.ofW (bC.trans cB) az
  refine ⟨fun _=>fX,?_⟩
  refine qam (i:=9) kz (qak fW (f:=34) (vs:=(z87 iH fT)) (d:=75) kz Tryz.call34 ( sUs hU _ _ [(Fld.mk aj ak al am ag ao aa ab)] _ (.mk 0 [] false [(Tree.mk bI bJ bK bL bM)] []) _ _ (qia (az.own 1 _ rfl) ((bu.move az.step nilM az.imm)) (Nat.le_refl _)) (qib (az.own 0 _ rfl) ((bA.move az.step nilM az.imm)) (Nat.le_refl _)) (qkL ((hP.2.1 k _ _ bP cu).2 ‹_›))) ?_)
  rintro e_ lA ⟨rfl,dR⟩
  refine ⟨_,rfl,fun lB fY=>?_⟩
  have cC:=az.next_nil dR
  have dS:=az.frN dR
  have dT:=TT.ofW ((bC.trans cB).trans dS) cC
  refine ⟨fun _=>dT,?_⟩
  refine qaB [10] (z75 A l.length c v flex k) 0 (qaa (qac (qaa (qaa (qac (qaa qad)))))) (fun _ h=>h.cells) dT fY fun lC dU=>?_
  refine qaz kz ?_ _
  refine qab (qan dU (b:=false) kz rfl ?_)
  refine wp_skip (qar (qab (qap [0,1] kz ?_)))
  refine qai [0,1] [] [(0,.v (.slice A l.length c)),(1,.v (.int .i64 v)),(2,.v (.bool flex)),(8,.p 0 0),(9,.p 1 0),(23,.v (.slice A l.length c)),(24,.v (.int .i64 ((l.length:Nat):Int))),(25,.v (.int .i64 (IntKind.i64.wrap (((k:Nat):Int) + 1))))] cC dU fun lD fZ=>?_
  refine qae (qab ?_)
  obtain ⟨dV,f5,f7⟩:=cC.cutB fZ 2 [⟨df,0,(z1 n1 A6 s2.length c7 b3 A8 l4.length c9 bE u5.length bF),true⟩,⟨dg,0,(z1 cO cR cP.length cS cQ bG aF.length bN bH aB.length bO),true⟩] [(0,.v (.slice A l.length c)),(1,.v (.int .i64 v)),(2,.v (.bool flex)),(8,.p 0 0),(9,.p 1 0),(23,.v (.slice A l.length c)),(24,.v (.int .i64 ((l.length:Nat):Int))),(25,.v (.int .i64 (IntKind.i64.wrap (((k:Nat):Int) + 1))))]
  obtain ⟨f8,f9⟩:=f5.cutR 0 []
  have ga:IntKind.i64.wrap (((k:Nat):Int) + 1) = ((k + 1:Nat):Int):=qaO (by omega)
  rw [ga] at dV
  exact ⟨l.length - (k + 1),by omega,k + 1,rfl,by omega,dV.pk,f8,((((((((((((ef.trans bR).trans bS).trans bU).trans aw).trans ax).trans bf).trans dG).trans bC).trans cB).trans dS).trans f7).trans f9)⟩
 have js:=zF eh
 refine wp_exit (qau (qau (qaI (qab (qaf [0,1,2,3,4] kz ?_)))))
 refine qai [0,1,2] [3,4] [(2,.v (.bool flex)),(9,.p 1 0),(78,.v (.slice A l.length c)),(80,.v (.slice bE u5.length bF))] av eg fun lE gb=>?_
 refine qal (qak gb (f:=35) (vs:=[.slice A l.length c,.slice bE u5.length bF]) (d:=81) kz Tryz.call35 (qgu _ _ l _ _ u5 _ _ ⟨xfs,(h1.move av.step nilM av.imm),(fun i_ x_ h_=>((h2 i_ x_ h_).move av.step nilM av.imm))⟩ (jP.move av.step nilM av.imm)) ?_)
 rintro e_ lF ⟨ah,ai,rfl,gc,cD⟩
 have gd:=gc.move (Step.refl _ Nil) nilM (av.laid (G:=F) cD)
 refine ⟨_,rfl,fun lG ge=>?_⟩
 have ae:=av.next_nil cD
 have jt:=av.frN cD
 refine qai [4] [] [(2,.v (.bool flex)),(9,.p 1 0),(14,.v (.slice ah ((qag l u5).length) ai))] ae ge fun lH gg=>?_
 refine qae (qab ?_)
 refine wp_seq (qas [(9,.p 1 0),(14,.v (.slice ah ((qag l u5).length) ai)),(83,.v (.bool (!flex)))] ae gg fun lI cE=>?_)
 refine qaw cE (b:=!flex) kz (fun gh=>?_) (fun gh=>?_)
 ·
  refine qap [0] kz ?_
  refine qai [0] [] [(9,.p 1 0),(14,.v (.slice none 0 0))] ae cE fun lJ gi=>?_
  refine qae (qab ?_)
  refine wp_seq (qas [(9,.p 1 0),(14,.v (.slice none 0 0)),(89,.v (.bool (((aB.length:Nat):Int) != 0)))] ae gi fun lK cG=>?_)
  refine qaw cG (b:=((aB.length:Nat):Int) != 0) kz (fun cH=>?_) (fun cH=>?_)
  ·
   have ju:((aB.length:Nat):Int) ≠ 0:=by simpa using cH
   refine qas [(10,.v (.bool false))] ae cG fun lL gj=>?_
   refine wp_ret (qat (qaM gj ae.cells (v:=.bool false) kz ?_))
   first
    | (exfalso; omega)
    | exact (qeT hgu ‹_› ‹_›).elim
    | exact (qdR hgu ‹_› ‹_›).elim
    | exact (qeU hgu ‹_› ‹_› ‹_› ‹_›).elim
    | exact (qeV hgu ‹_› ‹_› ‹_› ‹_›).elim
    | (exfalso; simp_all; done)
  have jv:((aB.length:Nat):Int) = 0:=by simpa using cH
  refine wp_skip (qab (wp_seq (qas [(9,.p 1 0),(90,.v (.slice none 0 0)),(91,.v (.int .i64 0)),(92,.v (.int .i64 0))] ae cG fun lM gk=>?_)))
  refine wp_block (wp_loop_ghost (fun n_ a_ w_=>∃ (k:Nat),n_ = 0 - k ∧ k ≤ 0 ∧ LInv ae 120 [⟨df,0,[.int .i64 n1,.slice A6 s2.length c7,.bool b3,.slice A8 l4.length c9,.slice bE u5.length bF],true⟩,⟨dg,0,[.int .i64 cO,.slice cR cP.length cS,.bool cQ,.slice bG aF.length bN,.slice bH aB.length bO],true⟩] [] [(9,.p 1 0),(90,.v (.slice none 0 0)),(91,.v (.int .i64 0)),(92,.v (.int .i64 ((k:Nat):Int)))] a_ w_) (0) ⟨0,by omega,by omega,gk.pk,ae,Fr.refl _ _ _⟩ ?_)
  rintro lN lO lP ⟨k,jw,jx,gl,bD,jy⟩
  refine qas [(9,.p 1 0),(90,.v (.slice none 0 0)),(91,.v (.int .i64 0)),(92,.v (.int .i64 ((k:Nat):Int))),(93,.v (.bool (decide (((k:Nat):Int) < 0))))] bD gl fun lQ dW=>?_
  refine wp_seq (qan dW (b:=decide (((k:Nat):Int) < 0)) kz (decide_eq_false (by omega)) ?_)
  refine wp_exit (qau (qau (qaI (qab (qas [(10,.v (.bool true))] bD dW fun lR gm=>?_)))))
  refine wp_ret (qaM gm bD.cells (v:=.bool true) kz ?_)
  exact ⟨rfl,bD.step⟩
 refine wp_skip (qab (wp_seq (qas [(9,.p 1 0),(14,.v (.slice ah ((qag l u5).length) ai)),(89,.v (.bool (((aB.length:Nat):Int) != (((qag l u5).length:Nat):Int))))] ae cE fun lS cI=>?_)))
 refine qaw cI (b:=((aB.length:Nat):Int) != (((qag l u5).length:Nat):Int)) kz (fun cJ=>?_) (fun cJ=>?_)
 ·
  have jz:((aB.length:Nat):Int) ≠ (((qag l u5).length:Nat):Int):=by simpa using cJ
  refine qas [(10,.v (.bool false))] ae cI fun lT gn=>?_
  refine wp_ret (qat (qaM gn ae.cells (v:=.bool false) kz ?_))
  first
   | (exfalso; omega)
   | exact (qeT hgu ‹_› ‹_›).elim
   | exact (qdR hgu ‹_› ‹_›).elim
   | exact (qeU hgu ‹_› ‹_› ‹_› ‹_›).elim
   | exact (qeV hgu ‹_› ‹_› ‹_› ‹_›).elim
   | (exfalso; simp_all; done)
 have jA:((aB.length:Nat):Int) = (((qag l u5).length:Nat):Int):=by simpa using cJ
 refine wp_skip (qab (wp_seq (qas [(9,.p 1 0),(90,.v (.slice ah ((qag l u5).length) ai)),(91,.v (.int .i64 (((qag l u5).length:Nat):Int))),(92,.v (.int .i64 0))] ae cI fun lU gp=>?_)))
 refine wp_block ?_
 obtain ⟨jB,gq,iI⟩:=gd.ex
 have iJ:=gq.small
 refine wp_loop_ghost (fun n_ a_ w_=>∃ (k:Nat),n_ = (qag l u5).length - k ∧ k ≤ (qag l u5).length ∧ LInv ae 120 [⟨df,0,[.int .i64 n1,.slice A6 s2.length c7,.bool b3,.slice A8 l4.length c9,.slice bE u5.length bF],true⟩,⟨dg,0,[.int .i64 cO,.slice cR cP.length cS,.bool cQ,.slice bG aF.length bN,.slice bH aB.length bO],true⟩] [] [(9,.p 1 0),(90,.v (.slice ah ((qag l u5).length) ai)),(91,.v (.int .i64 (((qag l u5).length:Nat):Int))),(92,.v (.int .i64 ((k:Nat):Int)))] a_ w_) ((qag l u5).length) ⟨0,by omega,by omega,gp.pk,ae,Fr.refl _ _ _⟩ ?_
 rintro lV lW lX ⟨k,jC,jD,gt,aI,aD⟩
 refine qas [(9,.p 1 0),(90,.v (.slice ah ((qag l u5).length) ai)),(91,.v (.int .i64 (((qag l u5).length:Nat):Int))),(92,.v (.int .i64 ((k:Nat):Int))),(93,.v (.bool (decide (((k:Nat):Int) < (((qag l u5).length:Nat):Int)))))] aI gt fun lY cK=>?_
 refine wp_seq (qaw cK (b:=decide (((k:Nat):Int) < (((qag l u5).length:Nat):Int))) kz (fun cL=>?_) (fun cL=>?_))
 ·
  have jE:=zD cL
  refine wp_skip (qab (wp_seq (wp_block (qaf [0,1,2,3,4,5] kz ?_))))
  refine qai [0] [1,2,3,4,5] [(9,.p 1 0),(90,.v (.slice ah ((qag l u5).length) ai)),(91,.v (.int .i64 (((qag l u5).length:Nat):Int))),(92,.v (.int .i64 ((k:Nat):Int))),(94,.v (.int .i64 ((k:Nat):Int)))] aI cK fun lZ gv=>?_
  obtain ⟨iK,iL,gw,jF,cM⟩:=Slots.get gq (i:=k) (by first | omega | (have h_:=qcG hgu ‹_›; omega))
  obtain ⟨⟨aE,aA⟩,gx⟩:∃ x,(qag l u5)[k]? = some x:=⟨_,List.getElem?_eq_getElem (by omega)⟩
  obtain ⟨⟨bg,bh,eu,dX⟩,l0,l3⟩:=iI k aE aA gx
  rw [eu] at cM
  refine qal (qax gv (t:=24) (A:=ah) (m:=((qag l u5).length)) (q:=((k:Nat):Int)) (d:=95) kz (e:=66) (size:=2) (bytes:=32) kz gw rfl (by first | omega | (have h_:=qcG hgu ‹_›; omega)) fun l5 gy=>?_)
  refine qal (qaU gy (t:=66) (b:=iK) (o:=iL + k * 2) (d:=96) kz (cs:=(z42 aE bg aA.length bh)) (v:=.agg #[.int .u32 aE,.slice bg aA.length bh]) kz (AtF.move cM aD.step immM aD.to').at_ fun l6 gz=>?_)
  refine qal (qaQ aI gz (d:=16) (cs:=z38) kz fun l7 l9 ma jG jH bi dY gA=>?_)
  refine qai [4] [5] [(9,.p 1 0),(15,.v (.int .i64 ((k:Nat):Int))),(16,.p 2 0),(90,.v (.slice ah ((qag l u5).length) ai)),(91,.v (.int .i64 (((qag l u5).length:Nat):Int))),(92,.v (.int .i64 ((k:Nat):Int))),(96,.v (.agg #[.int .u32 aE,.slice bg aA.length bh]))] dY gA fun mc gB=>?_
  refine qal (qao dY gB (oi:=2) (cs:=(z42 aE bg aA.length bh)) kz fun md bj gC gD=>?_)
  refine qae (qab ?_)
  refine qaE 22 kz gC fun me bk aJ au=>?_
  refine qaB [0,1,2,6,7] [(9,.p 1 0),(15,.v (.int .i64 ((k:Nat):Int))),(16,.p 2 0),(90,.v (.slice ah ((qag l u5).length) ai)),(91,.v (.int .i64 (((qag l u5).length:Nat):Int))),(92,.v (.int .i64 ((k:Nat):Int))),(98,.v (.slice bH aB.length bO)),(99,.v (.int .i64 ((k:Nat):Int))),(104,.v (.int .u32 aE))] 17 (qaa (qac (qaa (qaa (qac (qaa qad)))))) (fun _ h=>h.cells) au gD fun mf gE=>?_
  obtain ⟨dc,de,dZ,jI,bw⟩:=Slots.get iS (i:=k) (by first | omega | (have h_:=qcG hgu ‹_›; omega))
  obtain ⟨⟨bx,bz⟩,gF⟩:∃ x,aB[k]? = some x:=⟨_,List.getElem?_eq_getElem (by omega)⟩
  obtain ⟨⟨ev,ew,ey,gG⟩,mg,mh⟩:=jU k bx bz gF
  rw [ey] at bw
  refine qaD gE (i:=3) (t:=24) (A:=bH) (m:=aB.length) (q:=((k:Nat):Int)) (d:=100) kz (e:=66) (size:=2) (bytes:=32) kz dZ rfl (by first | omega | (have h_:=qcG hgu ‹_›; omega)) kz kz (qaa (qac (qaa (qaa (qac (qaa qad)))))) au fun mi gH=>?_
  refine qaB [4] [(9,.p 1 0),(15,.v (.int .i64 ((k:Nat):Int))),(16,.p 2 0),(90,.v (.slice ah ((qag l u5).length) ai)),(91,.v (.int .i64 (((qag l u5).length:Nat):Int))),(92,.v (.int .i64 ((k:Nat):Int))),(101,.v (.pointer (some ⟨dc,de + k * 2,none⟩))),(104,.v (.int .u32 aE))] 15 (qaa (qac (qaa (qaa (qac (qaa qad)))))) (fun _ h=>h.cells) au gH fun mj gI=>?_
  refine qa0 gI (i:=5) (t:=64) (b:=dc) (o:=de + k * 2) (d:=102) kz (cs:=[.int .u32 bx]) (v:=.int .u32 bx) kz (fun w' h'=>(At.drop (AtF.move bw (TT.step0 aJ h') nilM qa9).at_ 0 1)) kz kz (qaa (qac (qaa (qaa (qac (qaa qad)))))) au fun ml gJ=>?_
  refine qaB [8,9] [(9,.p 1 0),(15,.v (.int .i64 ((k:Nat):Int))),(16,.p 2 0),(90,.v (.slice ah ((qag l u5).length) ai)),(91,.v (.int .i64 (((qag l u5).length:Nat):Int))),(92,.v (.int .i64 ((k:Nat):Int))),(106,.v (.bool (bx != aE)))] 12 (qaa (qac (qaa (qaa (qac (qaa qad)))))) (fun _ h=>h.cells) au gJ fun mn d5=>?_
  refine (zO (bx != aE)).elim (fun bn=>?_) (fun bn=>?_)
  ·
   have jJ:bx ≠ aE:=by simpa using bn
   have gK:=d5
   rw [bn] at gK
   refine qaB [10,11,12,13,14,15,16,17,18,19,20,21] [(9,.p 1 0),(90,.v (.slice ah ((qag l u5).length) ai)),(91,.v (.int .i64 (((qag l u5).length:Nat):Int))),(92,.v (.int .i64 ((k:Nat):Int))),(118,.v (.bool true))] 0 (qaa (qac (qaa (qaa (qac (qaa qad)))))) (fun _ h=>h.cells) au gK fun mo d6=>?_
   refine qaz kz ?_ _
   refine qab (qa7 d6 (b:=true) kz rfl ?_)
   refine qas [(10,.v (.bool false))] aJ d6 fun mp gL=>?_
   refine wp_ret (qay (qat (qat (qay (qat (qaM gL aJ.cells (v:=.bool false) kz ?_))))))
   first
    | (exfalso; omega)
    | exact (qeT hgu ‹_› ‹_›).elim
    | exact (qdR hgu ‹_› ‹_›).elim
    | exact (qeU hgu ‹_› ‹_› ‹_› ‹_›).elim
    | exact (qeV hgu ‹_› ‹_› ‹_› ‹_›).elim
    | (exfalso; simp_all; done)
  have jK:bx = aE:=by simpa using bn
  have gM:=d5
  rw [bn] at gM
  refine qaB [10,11,12,16,17] [(9,.p 1 0),(90,.v (.slice ah ((qag l u5).length) ai)),(91,.v (.int .i64 (((qag l u5).length:Nat):Int))),(92,.v (.int .i64 ((k:Nat):Int))),(106,.v (.bool false)),(108,.v (.slice bH aB.length bO)),(109,.v (.int .i64 ((k:Nat):Int))),(114,.v (.slice bg aA.length bh))] 7 (qaa (qac (qaa (qaa (qac (qaa qad)))))) (fun _ h=>h.cells) au gM fun mq gN=>?_
  refine qaD gN (i:=13) (t:=24) (A:=bH) (m:=aB.length) (q:=((k:Nat):Int)) (d:=110) kz (e:=66) (size:=2) (bytes:=32) kz dZ rfl (by first | omega | (have h_:=qcG hgu ‹_›; omega)) kz kz (qaa (qac (qaa (qaa (qac (qaa qad)))))) au fun mr gO=>?_
  refine qaB [14] [(9,.p 1 0),(90,.v (.slice ah ((qag l u5).length) ai)),(91,.v (.int .i64 (((qag l u5).length:Nat):Int))),(92,.v (.int .i64 ((k:Nat):Int))),(106,.v (.bool false)),(111,.v (.pointer (some ⟨dc,de + k * 2 + 1,none⟩))),(114,.v (.slice bg aA.length bh))] 5 (qaa (qac (qaa (qaa (qac (qaa qad)))))) (fun _ h=>h.cells) au gO fun mt gP=>?_
  refine qa0 gP (i:=15) (t:=22) (b:=dc) (o:=de + k * 2 + 1) (d:=112) kz (cs:=[.slice ev bz.length ew]) (v:=.slice ev bz.length ew) kz (fun w' h'=>(At.drop (AtF.move bw (TT.step0 aJ h') nilM qa9).at_ 1 1)) kz kz (qaa (qac (qaa (qaa (qac (qaa qad)))))) au fun mu gQ=>?_
  have iM:=qbl aA
  refine qam (i:=18) kz (qak gQ (f:=37) (vs:=[.slice bg aA.length bh]) (d:=115) kz Tryz.call37 (qdN _ _ aA (dX.move (((aD.trans bi).trans bj).trans bk).step immM (((aD.trans bi).trans bj).trans bk).to').le _) ?_)
  rintro e_ mw ⟨rfl,d7⟩
  refine ⟨_,rfl,fun mx gR=>?_⟩
  have bo:=aJ.next_nil d7
  have bp:=aJ.frN d7
  have gS:=TT.ofW bp bo
  refine ⟨fun _=>gS,?_⟩
  refine qam (i:=19) kz (qak gR (f:=36) (vs:=(z82 ev bz.length ew bg aA bh)) (d:=116) kz Tryz.call36 (qer _ _ _ _ bz (qaH aA) _ _ ((gG.move bo.step nilM bo.imm).move (Step.refl _ Nil) nilM allF) (((dX.take 32767).move ((((aD.trans bi).trans bj).trans bk).trans bp).step immM ((((aD.trans bi).trans bj).trans bk).trans bp).to').move (Step.refl _ Nil) nilM allF)) ?_)
  rintro e_ my ⟨rfl,d8⟩
  refine ⟨_,rfl,fun mz gT=>?_⟩
  have bq:=bo.next_nil d8
  have d9:=bo.frN d8
  have ea:=TT.ofW (bp.trans d9) bq
  refine ⟨fun _=>ea,?_⟩
  refine qaB [20,21] [(9,.p 1 0),(90,.v (.slice ah ((qag l u5).length) ai)),(91,.v (.int .i64 (((qag l u5).length:Nat):Int))),(92,.v (.int .i64 ((k:Nat):Int))),(118,.v (.bool (!(decide (bz = (qaH aA))))))] 0 (qaa (qac (qaa (qaa (qac (qaa qad)))))) (fun _ h=>h.cells) ea gT fun mA cN=>?_
  refine qaz kz ?_ _
  refine qab (qaw cN (b:=!(decide (bz = (qaH aA)))) kz (fun gU=>?_) (fun gU=>?_))
  ·
   refine qas [(10,.v (.bool false))] bq cN fun mB gV=>?_
   refine wp_ret (qay (qat (qat (qay (qat (qaM gV bq.cells (v:=.bool false) kz ?_))))))
   first
    | (exfalso; omega)
    | exact (qeT hgu ‹_› ‹_›).elim
    | exact (qdR hgu ‹_› ‹_›).elim
    | exact (qeU hgu ‹_› ‹_› ‹_› ‹_›).elim
    | exact (qeV hgu ‹_› ‹_› ‹_› ‹_›).elim
    | (exfalso; simp_all; done)
  refine wp_skip (qar (qab (qap [0,1] kz ?_)))
  refine qai [0,1] [] [(9,.p 1 0),(90,.v (.slice ah ((qag l u5).length) ai)),(91,.v (.int .i64 (((qag l u5).length:Nat):Int))),(92,.v (.int .i64 (IntKind.i64.wrap (((k:Nat):Int) + 1))))] bq cN fun mC gW=>?_
  refine qae (qab ?_)
  obtain ⟨eb,gX,gY⟩:=bq.cutB gW 2 [⟨df,0,(z1 n1 A6 s2.length c7 b3 A8 l4.length c9 bE u5.length bF),true⟩,⟨dg,0,(z1 cO cR cP.length cS cQ bG aF.length bN bH aB.length bO),true⟩] [(9,.p 1 0),(90,.v (.slice ah ((qag l u5).length) ai)),(91,.v (.int .i64 (((qag l u5).length:Nat):Int))),(92,.v (.int .i64 (IntKind.i64.wrap (((k:Nat):Int) + 1))))]
  have gZ:IntKind.i64.wrap (((k:Nat):Int) + 1) = ((k + 1:Nat):Int):=qaO (by omega)
  rw [gZ] at eb
  exact ⟨(qag l u5).length - (k + 1),by omega,k + 1,rfl,by omega,eb.pk,gX,((((((aD.trans bi).trans bj).trans bk).trans bp).trans d9).trans gY)⟩
 have jL:=zF cL
 refine wp_exit (qau (qau (qaI (qab (qas [(10,.v (.bool true))] aI cK fun mD g7=>?_)))))
 refine wp_ret (qaM g7 aI.cells (v:=.bool true) kz ?_)
 exact ⟨rfl,aI.step⟩
theorem qkR (v:Int) (flex:Bool):∀ d,ToOK v flex (qhL v flex d)
 | 0=>qkQ (fun _ _ _ _ _ _ _ _ _ _ _ _ _ h=>h.elim) (fun _ _ _ _ _ _ _ _ _ h=>h.elim)
 | d + 1=>qkQ (qkR v flex d) (qjT d)
theorem qdf (w:World):Calls Tryz.prog 7 #[] w (qcs w (.int .i64 5)):=by
 refine enter (n:=4) Tryz.func7 rfl Tryz.ntmps7 kz fun a hE=>?_
 have hW:=WOk.start w Nil
 refine qas [] hW hE fun a1 hE2=>?_
 refine qaf [0,1,2,3] kz ?_
 refine qal (qbR hE2 (f:=22) (vs:=[]) (d:=1) (n':=3) kz Tryz.call22 Tryz.func22 rfl Tryz.ntmps22 kz fun a3 hE4=>?_)
 refine qas [] hW hE4 fun a5 hE6=>?_
 refine qaf [0] kz ?_
 refine qal (qaQ hW hE6 (d:=1) (cs:=z25) kz fun b7 a8 w9 ax ay az aa ab=>?_)
 refine qae (qab ?_)
 refine qaf [0] kz ?_
 refine qal (qbR ab (f:=54) (vs:=(z37 b7)) (d:=2) (n':=2) kz Tryz.call54 Tryz.func54 rfl Tryz.ntmps54 kz fun aA ac=>?_)
 have ae:=ac.recast 0 (.v (.pointer (some ⟨b7,0,none⟩))) (.p 0 0) rfl rfl (zN (n:=1) rfl)
 refine wp_skip (qbW ae aa.cells (v:=.tuple #[]) kz ?_)
 refine ⟨_,rfl,fun aB af=>?_⟩
 have ag:EnvOk 3 [⟨b7,0,z25,true⟩] [(2,.v (.tuple #[])),(1,.p 0 0)] _:=af.places (⟨rfl,rfl,trivial⟩)
 refine qae (qab ?_)
 refine qas [(0,.p 0 0)] aa ag fun aC ah=>?_
 refine wp_ret (qaM ah aa.cells (v:=.pointer (some ⟨b7,0,none⟩)) kz ?_)
 refine ⟨_,rfl,fun aD ai=>?_⟩
 have aj:EnvOk 4 [⟨b7,0,z25,true⟩] [(1,.v (.pointer (some ⟨b7,0,none⟩)))] _:=ai.places (trivial)
 have ak:=aj.recast 1 (.v (.pointer (some ⟨b7,0,none⟩))) (.p 0 0) rfl rfl (zN (n:=1) rfl)
 have al:=ak.pick (ks:=[1]) (env':=[(1,.p 0 0)]) kz
 refine qal (qbR al (f:=23) (vs:=(z37 b7)) (d:=2) (n':=3) kz Tryz.call23 Tryz.func23 rfl Tryz.ntmps23 kz fun aE am=>?_)
 have ao:=am.recast 0 (.v (.pointer (some ⟨b7,0,none⟩))) (.p 0 0) rfl rfl (zN (n:=1) rfl)
 refine qas [] aa ao fun aF ap=>?_
 refine qas [(2,.v (.int .i16 5))] aa ap fun aG ar=>?_
 refine wp_ret (qaM ar aa.cells (v:=.int .i16 5) kz ?_)
 refine ⟨_,rfl,fun aH au=>?_⟩
 have av:EnvOk 4 [⟨b7,0,z25,true⟩] [(2,.v (.int .i16 5)),(1,.p 0 0)] _:=au.places (⟨rfl,rfl,trivial⟩)
 refine qai [2,3] [] [(0,.v (.int .i64 5))] aa av fun aI aw=>?_
 refine qae (qab ?_)
 refine wp_ret (qaM aw aa.cells (v:=.int .i64 5) kz ?_)
 exact ⟨rfl,aa.step⟩
theorem qcH:depths sAddPartitionsToTxnRequestF ≤ 8:=by simp [sAddPartitionsToTxnRequestF,Fld.depth.depths,Fld.depth]
theorem qcI:plains sAddPartitionsToTxnRequestF:=by simp [sAddPartitionsToTxnRequestF,Fld.plain.plains,Fld.plain]
theorem qdd (A:Option Addr) (c:Nat) (v:Int) (w:World):Calls Tryz.prog 13 #[.agg #[.slice A sAddPartitionsToTxnRequestF.length c,.int .i64 qah],.int .i64 v] w (qcs w (.bool (decide (v ≥ qah)))):=by
 refine enter (n:=14) Tryz.func13 rfl Tryz.ntmps13 kz fun a hE=>?_
 have hW:=WOk.start w Nil
 refine qaf [0,1] kz ?_
 refine qal (qbq hW hE (d:=2) (cs:=[.slice A sAddPartitionsToTxnRequestF.length c,.int .i64 qah]) kz fun b1 a2 w3 hb4 hz5 hF6 hW7 hE8=>?_)
 refine qai [1] [] [(1,.v (.int .i64 v)),(2,.p 0 0)] hW7 hE8 fun a9 aa=>?_
 refine qae (qab ?_)
 refine qaf [0,1,2,3,4,5,6,7,8,9] kz ?_
 refine qai [0,1,2,3] [4,5,6,7,8,9] [(1,.v (.int .i64 v)),(2,.p 0 0),(8,.v (.bool (decide (qah ≥ 0))))] hW7 aa fun ag ab=>?_
 have ac:(decide (qah ≥ 0)) = true:=by decide
 have ae:=ab
 rw [ac] at ae
 refine qai [4,5,6,7,8,9] [] [(4,.v (.bool (decide (v ≥ qah))))] hW7 ae fun ah af=>?_
 refine qae (qab ?_)
 refine wp_ret (qaM af hW7.cells (v:=.bool (decide (v ≥ qah))) kz ?_)
 exact ⟨rfl,hW7.step⟩
set_option maxHeartbeats 4000000 in
theorem qcZ (x:Int) (hx:0 ≤ x) (hx':x < 256) (ct:List Value) (t:Tree) (w:World) (F:Nat → Nat → Prop) (ht:TreeR w F ct t) (hroom1:(qc5 8 sAddPartitionsToTxnRequestF qah (Int.tmod x (5 + 1)) t).length + 16 ≤ 1099511627776) (hcan:qbc (fitT (Int.tmod x (5 + 1)) 8 sAddPartitionsToTxnRequestF t)) (hkey:Tree.ranged (fitT (Int.tmod x (5 + 1)) 8 sAddPartitionsToTxnRequestF t)) (hpure:qaj (IntKind.i16.wrap (Int.tmod x (5 + 1))) (fitT (Int.tmod x (5 + 1)) 8 sAddPartitionsToTxnRequestF t) = qc5 8 sAddPartitionsToTxnRequestF qah (Int.tmod x (5 + 1)) t) (hto:∀ D,qbd (IntKind.i16.wrap (Int.tmod x (5 + 1))) D (fitT (Int.tmod x (5 + 1)) 8 sAddPartitionsToTxnRequestF t) → qhL (Int.tmod x (5 + 1)) (decide ((Int.tmod x (5 + 1)) ≥ qah)) 8 sAddPartitionsToTxnRequestF t (qbe D)) :
  Calls Tryz.prog 3 #[.int .u8 x,.agg ct.toArray] w (qcs w (.bool true)):=by
 obtain ⟨n1,s2,b3,l4,u5,A6,c7,A8,c9,aO,aP,dc,rfl,rfl,de,df,dR,dS⟩:=ht.open_
 have cP:=de.small
 have cQ:=df.small
 refine enter (n:=42) Tryz.func3 rfl Tryz.ntmps3 kz fun a hE=>?_
 have hW:=WOk.start w Nil
 refine qaf [0,1] kz ?_
 refine qal (qbq hW hE (d:=3) (cs:=(z1 n1 A6 s2.length c7 b3 A8 l4.length c9 aO u5.length aP)) kz fun dg dT dU dh di dj ar bJ=>?_)
 refine qai [1] [] [(0,.v (.int .u8 x)),(3,.p 0 0)] ar bJ fun dV bK=>?_
 refine qae (qab ?_)
 refine wp_seq (qaf [0,1,2] kz ?_)
 refine qai [0] [1,2] [(0,.v (.int .u8 x)),(3,.p 0 0),(10,.v (.agg #[.int .i64 n1,.slice A6 s2.length c7,.bool b3,.slice A8 l4.length c9,.slice aO u5.length aP]))] ar bK fun dW bL=>?_
 refine qal (qak bL (f:=6) (vs:=[.agg #[.int .i64 n1,.slice A6 s2.length c7,.bool b3,.slice A8 l4.length c9,.slice aO u5.length aP]]) (d:=11) kz Tryz.call6 (qlL _ _ _ _ (ht.move ar.step nilM ar.imm)) ?_)
 rintro e_ dX ⟨cR,rfl,bd⟩
 refine ⟨_,rfl,fun dY bM=>?_⟩
 have au:=ar.next_nil bd
 have dl:=ar.frN bd
 refine qai [2] [] [(0,.v (.int .u8 x)),(3,.p 0 0),(12,.v (.bool (!cR)))] au bM fun dZ aY=>?_
 refine qae (qab ?_)
 refine qaw aY (b:=!cR) kz (fun bN=>?_) (fun bN=>?_)
 ·
  refine qas [(4,.v (.bool true))] au aY fun d5 bO=>?_
  refine wp_ret (qat (qaM bO au.cells (v:=.bool true) kz ?_))
  exact ⟨rfl,au.step⟩
 refine wp_skip (qab (qaf [0,1] kz ?_))
 refine qal (qak aY (f:=7) (vs:=[]) (d:=13) kz Tryz.call7 (qdf _) ?_)
 rintro e_ dp ⟨rfl,bf⟩
 refine ⟨_,rfl,fun d6 bP=>?_⟩
 have av:=au.next_nil bf
 have dq:=au.frN bf
 refine qai [1] [] [(0,.v (.int .u8 x)),(3,.p 0 0),(5,.v (.int .i64 5))] av bP fun d7 bQ=>?_
 refine qae (qab ?_)
 refine wp_seq (qas [(0,.v (.int .u8 x)),(3,.p 0 0),(5,.v (.int .i64 5)),(15,.v (.bool false))] av bQ fun d8 bg=>?_)
 refine qan bg (b:=false) kz rfl ?_
 refine wp_skip (qab (qaf [0,1,2,3,4,5,6] kz ?_))
 refine qal (qak bg (f:=8) (vs:=[]) (d:=16) kz Tryz.call8 (qde _ (Imm F w dp (z99 dg n1 A6 s2.length c7 b3 A8 l4.length c9 aO u5.length aP) [])) ?_)
 rintro e_ d9 ⟨aQ,aR,rfl,bR,aZ⟩
 obtain ⟨bh,cS,cT⟩:=bR.move (Step.refl _ Nil) nilM (av.laid (G:=F) aZ)
 refine ⟨_,rfl,fun ea bS=>?_⟩
 have ba:=av.next_nil aZ
 have dr:=av.frN aZ
 refine qai [1,2] [3,4,5,6] [(3,.p 0 0),(16,.v (.agg #[.slice aQ sAddPartitionsToTxnRequestF.length aR,.int .i64 qah])),(17,.v (.int .u8 x)),(18,.v (.int .i64 5))] ba bS fun eb bT=>?_
 refine qal (qak bT (f:=9) (vs:=[.int .u8 x,.int .i64 5]) (d:=19) kz Tryz.call9 (qkm x 5 hx hx' (by decide) (by decide) _) ?_)
 rintro e_ ec ⟨rfl,bi⟩
 refine ⟨_,rfl,fun ee bU=>?_⟩
 have bV:=ba.next_nil bi
 have ag:=ba.frN bi
 refine qal (qaQ bV bU (d:=6) (cs:=z93) kz fun ef eg eh dt du ah bW bX=>?_)
 refine qal (qao bW bX (oi:=1) (cs:=[.slice aQ sAddPartitionsToTxnRequestF.length aR,.int .i64 qah]) kz fun ei ai aw bY=>?_)
 refine qai [6] [] [(3,.p 0 0),(6,.p 1 0),(7,.v (.int .i64 (Int.tmod x (5 + 1))))] aw bY fun ej bZ=>?_
 refine qae (qab ?_)
 refine qaf [0,1,2,3,4,5,6,7,8,9,10,11] kz ?_
 refine qai [0,1,2,3] [4,5,6,7,8,9,10,11] [(3,.p 0 0),(6,.p 1 0),(7,.v (.int .i64 (Int.tmod x (5 + 1)))),(21,.v (.int .i64 (Int.tmod x (5 + 1)))),(22,.v (.agg #[.slice aQ sAddPartitionsToTxnRequestF.length aR,.int .i64 qah])),(23,.v (.int .i64 (Int.tmod x (5 + 1)))),(24,.v (.agg #[.int .i64 n1,.slice A6 s2.length c7,.bool b3,.slice A8 l4.length c9,.slice aO u5.length aP]))] aw bZ fun ek b8=>?_
 refine qal (qak b8 (f:=11) (vs:=[.agg #[.slice aQ sAddPartitionsToTxnRequestF.length aR,.int .i64 qah],.int .i64 (Int.tmod x (5 + 1)),.agg #[.int .i64 n1,.slice A6 s2.length c7,.bool b3,.slice A8 l4.length c9,.slice aO u5.length aP]]) (d:=25) kz Tryz.call11 (qlB _ _ sAddPartitionsToTxnRequestF qah (Int.tmod x (5 + 1)) _ (Tree.mk n1 s2 b3 l4 u5) _ _ ⟨bh,(cS.move ((ag.trans ah).trans ai).step immM ((ag.trans ah).trans ai).to'),(fun i_ x_ h_=>((cT i_ x_ h_).move ((ag.trans ah).trans ai).step immM ((ag.trans ah).trans ai).to'))⟩ qcH (ht.move aw.step nilM aw.imm) (Nat.le_trans (Nat.le_add_right _ _) hroom1)) ?_)
 rintro e_ em ⟨cU,cV,rfl,cd,ce⟩
 refine ⟨_,rfl,fun eo cm=>?_⟩
 obtain ⟨ak,al⟩:=aw.frFresh ce (brow cU cV 5 (qc5 8 sAddPartitionsToTxnRequestF qah (Int.tmod x (5 + 1)) (Tree.mk n1 s2 b3 l4 u5))) (Nat.le_refl _) cd
 refine qal (qak cm (f:=10) (vs:=[.int .i64 (Int.tmod x (5 + 1)),.slice cU ((qc5 8 sAddPartitionsToTxnRequestF qah (Int.tmod x (5 + 1)) (Tree.mk n1 s2 b3 l4 u5)).length) cV]) (d:=26) kz Tryz.call10 (qcY (Int.tmod x (5 + 1)) _ (qc5 8 sAddPartitionsToTxnRequestF qah (Int.tmod x (5 + 1)) (Tree.mk n1 s2 b3 l4 u5)) hpure (qcA (ak.own 0 _ rfl) (by first | omega | (rw [qbp]; decide) | (simp only [be_length]; exact Nat.le_trans (qbM _) (by decide)) | (have:=hroom; omega) | (have:=hmade; omega) | (simp only [List.length_append,List.length_nil]; omega)) (F:=fun _ _=>True) (fun _ _ _=>trivial)) hcan hkey (by first | omega | (have:=hroom1; omega))) ?_)
 rintro e_ dv ⟨bj,cW,rfl,bk,bn,ax⟩
 have ay:=bk.move (Step.refl _ Nil) nilM (fun b_ o_ h_ hb_=>ak.laid (G:=F) ax b_ o_ (.inr (h_.resolve_left id)) hb_)
 obtain ⟨aD,aE,aF,aG,aH,aI,aJ,aK,aL,aM,aN,cX,cY,az,cq,cr,dw,dx⟩:=ay.open_
 rw [az] at ay
 have cu:=cq.small
 have cw:=cr.small
 rw [az]
 refine ⟨_,rfl,fun dy bo=>?_⟩
 have aS:=ak.next_nil ax
 have am:=ak.frN ax
 refine qai [6,7,8] [9,10,11] [(3,.p 0 0),(6,.p 1 0),(7,.v (.int .i64 (Int.tmod x (5 + 1)))),(27,.v (.agg #[.int .i64 aD,.slice aI aE.length aJ,.bool aF,.slice aK aG.length aL,.slice aM aH.length aN])),(28,.v (.bool true))] aS bo fun dz bp=>?_
 refine qal (qaQ aS bp (d:=8) (cs:=z0) kz fun dA dB dC cZ c5 ab bq bt=>?_)
 refine qal (qao bq bt (oi:=2) (cs:=(z1 aD aI aE.length aJ aF aK aG.length aL aM aH.length aN)) kz fun dD ac aT bu=>?_)
 refine qai [11] [] [(3,.p 0 0),(6,.p 1 0),(7,.v (.int .i64 (Int.tmod x (5 + 1)))),(8,.p 2 0),(9,.v (.bool true))] aT bu fun dE bw=>?_
 refine qae (qab ?_)
 refine qaE 13 kz aT fun dF ae aU bx=>?_
 refine qaB [0,1,2,3,4,5,6,8,9] [(30,.v (.bool true)),(32,.v (.slice aQ sAddPartitionsToTxnRequestF.length aR)),(33,.v (.int .i64 (Int.tmod x (5 + 1)))),(34,.v (.agg #[.slice aQ sAddPartitionsToTxnRequestF.length aR,.int .i64 qah])),(35,.v (.int .i64 (Int.tmod x (5 + 1)))),(37,.v (.agg #[.int .i64 n1,.slice A6 s2.length c7,.bool b3,.slice A8 l4.length c9,.slice aO u5.length aP])),(38,.v (.agg #[.int .i64 aD,.slice aI aE.length aJ,.bool aF,.slice aK aG.length aL,.slice aM aH.length aN]))] 5 (qaa qad) (fun _ h=>h.cells) bx bw fun dG bz=>?_
 refine qam (i:=7) kz (qak bz (f:=13) (vs:=[.agg #[.slice aQ sAddPartitionsToTxnRequestF.length aR,.int .i64 qah],.int .i64 (Int.tmod x (5 + 1))]) (d:=36) kz Tryz.call13 (qdd _ _ _ _) ?_)
 rintro e_ dH ⟨rfl,aV⟩
 refine ⟨_,rfl,fun dI bA=>?_⟩
 have ao:=aU.next_nil aV
 have aa:=aU.frN aV
 have bB:=TT.ofW aa ao
 refine ⟨fun _=>bB,?_⟩
 refine qam (i:=10) kz (qak bA (f:=14) (vs:=[.agg #[.int .i64 aD,.slice aI aE.length aJ,.bool aF,.slice aK aG.length aL,.slice aM aH.length aN]]) (d:=39) kz Tryz.call14 (lGot _ _ _ _ _ (ay.move (((ab.trans ac).trans ae).trans aa).step immM (((ab.trans ac).trans ae).trans aa).to') (Nat.le_refl _)) ?_)
 rintro e_ dJ ⟨c6,rfl,bC,aA⟩
 have aB:=bC.move (Step.refl _ Nil) nilM (ao.laid (G:=F) aA)
 obtain ⟨cz,cA,cB,cC,cD,cE,cG,cH,cI,cJ,cK,da,db,aC,cL,cM,dK,dL⟩:=aB.open_
 rw [aC] at aB
 have cN:=cL.small
 have cO:=cM.small
 rw [aC]
 refine ⟨_,rfl,fun dM bD=>?_⟩
 have aj:=ao.next_nil aA
 have af:=ao.frN aA
 have bE:=TT.ofW (aa.trans af) aj
 refine ⟨fun _=>bE,?_⟩
 refine qam (i:=11) kz (qak bD (f:=12) (vs:=[.slice aQ sAddPartitionsToTxnRequestF.length aR,.int .i64 (Int.tmod x (5 + 1)),.bool (decide ((Int.tmod x (5 + 1)) ≥ qah)),.agg #[.int .i64 n1,.slice A6 s2.length c7,.bool b3,.slice A8 l4.length c9,.slice aO u5.length aP],.agg #[.int .i64 cz,.slice cE cA.length cG,.bool cB,.slice cH cC.length cI,.slice cJ cD.length cK]]) (d:=40) kz Tryz.call12 (qkR (Int.tmod x (5 + 1)) (decide ((Int.tmod x (5 + 1)) ≥ qah)) 8 _ _ sAddPartitionsToTxnRequestF _ (Tree.mk n1 s2 b3 l4 u5) _ (qbe bj) _ _ ⟨bh,(cS.move (((((((((ag.trans ah).trans ai).trans al).trans am).trans ab).trans ac).trans ae).trans aa).trans af).step immM (((((((((ag.trans ah).trans ai).trans al).trans am).trans ab).trans ac).trans ae).trans aa).trans af).to'),(fun i_ x_ h_=>((cT i_ x_ h_).move (((((((((ag.trans ah).trans ai).trans al).trans am).trans ab).trans ac).trans ae).trans aa).trans af).step immM (((((((((ag.trans ah).trans ai).trans al).trans am).trans ab).trans ac).trans ae).trans aa).trans af).to'))⟩ (ht.move aj.step nilM aj.imm) aB qcI (hto bj bn)) ?_)
 rintro e_ dN ⟨rfl,aW⟩
 refine ⟨_,rfl,fun dO bF=>?_⟩
 have ap:=aj.next_nil aW
 have bG:=aj.frN aW
 have aX:=TT.ofW ((aa.trans af).trans bG) ap
 refine ⟨fun _=>aX,?_⟩
 refine qaB [12] [(41,.v (.bool true))] 1 (qaa qad) (fun _ h=>h.cells) aX bF fun dP bH=>?_
 refine qam (i:=13) kz (qbf [4] ap.cells bH (env':=[(4,.v (.bool true))]) kz fun dQ bI=>?_)
 refine ⟨fun h=>absurd rfl h,?_⟩
 refine qaz kz ?_ _
 refine qab (wp_ret (qaM bI ap.cells (v:=.bool true) kz ?_))
 exact ⟨rfl,ap.step⟩
theorem qcQ (x:Int) (hx:0 ≤ x ∧ x ≤ 255) (ct:List Value) (t:Tree) (w:World) (F:Nat → Nat → Prop) (ht:TreeR w F ct t) (hi:t.i64s) (hsz:t.size ≤ 8388608):Calls Tryz.prog 3 #[.int .u8 x,.agg ct.toArray] w (qcs w (.bool true)):=by
 obtain ⟨g0,g1⟩:=qly (m:=5 + 1) hx.1 hx.2 (by decide) (by decide)
 have hp:qaj (IntKind.i16.wrap (Int.tmod x (5 + 1))) (fitT (Int.tmod x (5 + 1)) 8 sAddPartitionsToTxnRequestF t) = qc5 8 sAddPartitionsToTxnRequestF qah (Int.tmod x (5 + 1)) t:=by rw [qg8 g0 g1]; exact qcR (Int.tmod x (5 + 1)) g0 g1 t
 have h1:=qju 8 sAddPartitionsToTxnRequestF qah (Int.tmod x (5 + 1)) t
 have h2:qhz sAddPartitionsToTxnRequestF ≤ 131000:=by decide +kernel
 have h3:=Nat.mul_le_mul h2 hsz
 exact qcZ x hx.1 (by omega) ct t w F ht (by omega) (qcM (Int.tmod x (5 + 1)) t) (qiz _ _ _ _ ht.ranged) hp (fun D h=>by rw [qg8 g0 g1] at h; exact qcS (Int.tmod x (5 + 1)) g0 t _ (fun _=>rfl) rfl hi D h)
end Go.Proofs.YtdlaobdadlmcdaaGreatDoor.ME