/- The texts of a claim, put together: the engine, the contracts, the law. Own work. -/
import Derived.Test.YtfljkhecngpcmaaGreatDoorWt3P5
namespace Go.Proofs.YtfljkhecngpcmaaGreatDoor.ME
open Go
open Go.RowKit
set_option linter.unusedVariables false
set_option linter.unusedSimpArgs false
set_option maxRecDepth 20000
theorem qgD (k n:Int) (w:World):Calls Tryz.prog 74 #[.int .i64 k,.int .i64 n] w (qcu w (.int .i64 (qbv k n))):=by
 refine enter (n:=31) Tryz.func74 rfl Tryz.ntmps74 kz fun a hE=>?_
 have hW:=WOk.start w Nil
 refine qar [(0,.v (.int .i64 k)),(1,.v (.int .i64 n))] hW hE fun a1 hE2=>?_
 refine wp_seq (qar [(1,.v (.int .i64 n)),(5,.v (.int .i64 k))] hW hE2 fun a3 hE4=>?_)
 refine wp_block (qar [(1,.v (.int .i64 n)),(5,.v (.int .i64 k)),(6,.v (.bool (k == 0)))] hW hE4 fun a5 hE6=>?_)
 refine qaw hE6 (b:=k == 0) kz (fun hc7=>?_) (fun hc7=>?_)
 ·
  have hf8:k = 0:=by simpa using hc7
  refine qar [(4,.v (.int .i64 (IntKind.i64.wrap (BitVec.ofInt 64 n &&& BitVec.ofInt 64 1).toNat)))] hW hE6 fun a9 aj=>?_
  refine wp_ret (qay (qat (qaM aj hW.cells (v:=.int .i64 (IntKind.i64.wrap (BitVec.ofInt 64 n &&& BitVec.ofInt 64 1).toNat)) kz ?_)))
  exact ⟨by (try simp only [and1]); simp_all [qbv,qix,qfL,qdH,qe0],hW.step⟩
 have ar:k ≠ 0:=by simpa using hc7
 refine qar [(1,.v (.int .i64 n)),(5,.v (.int .i64 k)),(10,.v (.bool (k == 1)))] hW hE6 fun aC aa=>?_
 refine qaw aa (b:=k == 1) kz (fun ab=>?_) (fun ab=>?_)
 ·
  have au:k = 1:=by simpa using ab
  refine qar [(4,.v (.int .i64 (IntKind.i64.wrap (IntKind.i8.wrap n))))] hW aa fun aD ak=>?_
  refine wp_ret (qay (qat (qaM ak hW.cells (v:=.int .i64 (IntKind.i64.wrap (IntKind.i8.wrap n))) kz ?_)))
  exact ⟨by (try simp only [and1]); simp_all [qbv,qix,qfL,qdH,qe0],hW.step⟩
 have av:k ≠ 1:=by simpa using ab
 refine qar [(1,.v (.int .i64 n)),(5,.v (.int .i64 k)),(15,.v (.bool (k == 2)))] hW aa fun aE ac=>?_
 refine qaw ac (b:=k == 2) kz (fun ae=>?_) (fun ae=>?_)
 ·
  have aw:k = 2:=by simpa using ae
  refine qar [(4,.v (.int .i64 (IntKind.i64.wrap (IntKind.i16.wrap n))))] hW ac fun aF al=>?_
  refine wp_ret (qay (qat (qaM al hW.cells (v:=.int .i64 (IntKind.i64.wrap (IntKind.i16.wrap n))) kz ?_)))
  exact ⟨by (try simp only [and1]); simp_all [qbv,qix,qfL,qdH,qe0],hW.step⟩
 have ax:k ≠ 2:=by simpa using ae
 refine qar [(1,.v (.int .i64 n)),(5,.v (.int .i64 k)),(20,.v (.bool (k == 3)))] hW ac fun aG af=>?_
 refine qaw af (b:=k == 3) kz (fun ag=>?_) (fun ag=>?_)
 ·
  have ay:k = 3:=by simpa using ag
  refine qar [(4,.v (.int .i64 (IntKind.i64.wrap (IntKind.i32.wrap n))))] hW af fun aH am=>?_
  refine wp_ret (qay (qat (qaM am hW.cells (v:=.int .i64 (IntKind.i64.wrap (IntKind.i32.wrap n))) kz ?_)))
  exact ⟨by (try simp only [and1]); simp_all [qbv,qix,qfL,qdH,qe0],hW.step⟩
 have az:k ≠ 3:=by simpa using ag
 refine qar [(1,.v (.int .i64 n)),(25,.v (.bool (k == 5)))] hW af fun aI ah=>?_
 refine qaw ah (b:=k == 5) kz (fun ai=>?_) (fun ai=>?_)
 ·
  have aA:k = 5:=by simpa using ai
  refine qar [(4,.v (.int .i64 (IntKind.i64.wrap (IntKind.u16.wrap n))))] hW ah fun aJ ao=>?_
  refine wp_ret (qay (qat (qaM ao hW.cells (v:=.int .i64 (IntKind.i64.wrap (IntKind.u16.wrap n))) kz ?_)))
  exact ⟨by (try simp only [and1]); simp_all [qbv,qix,qfL,qdH,qe0],hW.step⟩
 have aB:k ≠ 5:=by simpa using ai
 refine wp_skip (qas (qab (qar [(4,.v (.int .i64 n))] hW ah fun aK ap=>?_)))
 refine wp_ret (qaM ap hW.cells (v:=.int .i64 n) kz ?_)
 exact ⟨by (try simp only [and1]); simp_all [qbv,qix,qfL,qdH,qe0],hW.step⟩
def UsOK (U:List Fld → Tree → Prop):Prop:=∀ (A:Option Addr) (c:Nat) (l:List Fld) (ct:List Value) (g:Tree) (w:World) (F:Nat → Nat → Prop),FldsR w F A c l → TreeR w F ct g → U l g →
  Calls Tryz.prog 37 #[.slice A l.length c,.agg ct.toArray] w (qcu w (.bool true))
abbrev z32 (x0) (x1) (x2) (x3):=([(3,.p 0 0),(12,.v (.slice x0 x1 x2)),(13,.v (.int .i64 ((x1:Nat):Int))),(14,.v (.int .i64 ((x3:Nat):Int))),(87,.v (.bool false))]:Env)
theorem sUs {U:List Fld → Tree → Prop} (hu:UsOK U) (A:Option Addr) (c:Nat) (l:List Fld) (ct:List Value) (g:Tree) (w:World) (F:Nat → Nat → Prop) (hl:FldsR w F A c l) (ht:TreeR w F ct g) (hU:UsP U l g) :
  Calls Tryz.prog 37 #[.slice A l.length c,.agg ct.toArray] w (qcu w (.bool true)):=by
 obtain ⟨xfs,h1,h2⟩:=hl.ex
 have hsm:=h1.small
 obtain ⟨n1,s2,b3,l4,u5,A6,c7,A8,c9,aJ,aK,fT,rfl,rfl,fU,fV,iC,iD⟩:=ht.open_
 have e9:=fU.small
 have fa:=fV.small
 refine enter (n:=89) Tryz.func37 rfl Tryz.ntmps37 kz fun a hE=>?_
 have hW:=WOk.start w Nil
 refine qae [0,1] kz ?_
 refine qal (qbm hW hE (d:=3) (cs:=(z2 n1 A6 s2.length c7 b3 A8 l4.length c9 aJ u5.length aK)) kz fun bz iE iF fW fX fY aA eG=>?_)
 refine qaj [1] [] [(0,.v (.slice A l.length c)),(3,.p 0 0)] aA eG fun iG eH=>?_
 refine qaf (qab ?_)
 refine wp_seq (qar [(0,.v (.slice A l.length c)),(3,.p 0 0),(11,.v (.bool (decide (((u5.length:Nat):Int) > 0))))] aA eH fun iH cD=>?_)
 refine qaw cD (b:=decide (((u5.length:Nat):Int) > 0)) kz (fun cE=>?_) (fun cE=>?_)
 ·
  have fZ:=of_decide_eq_true cE
  refine qar [(4,.v (.bool false))] aA cD fun iI eI=>?_
  refine wp_ret (qat (qaM eI aA.cells (v:=.bool false) kz ?_))
  exact (us_u (g:=(Tree.mk n1 s2 b3 l4 u5)) hU.1 rfl ‹_›).elim
 have f5:=of_decide_eq_false cE
 refine wp_skip (qab (wp_seq (qar [(3,.p 0 0),(12,.v (.slice A l.length c)),(13,.v (.int .i64 ((l.length:Nat):Int))),(14,.v (.int .i64 0))] aA cD fun iJ eJ=>?_)))
 refine wp_block (wp_loop_ghost (fun n_ a_ w_=>∃ (k:Nat),n_ = l.length - k ∧ k ≤ l.length ∧ LInv aA 89 [⟨bz,0,[.int .i64 n1,.slice A6 s2.length c7,.bool b3,.slice A8 l4.length c9,.slice aJ u5.length aK],true⟩] [] [(3,.p 0 0),(12,.v (.slice A l.length c)),(13,.v (.int .i64 ((l.length:Nat):Int))),(14,.v (.int .i64 ((k:Nat):Int)))] a_ w_) (l.length) ⟨0,by omega,by omega,eJ.pk,aA,Fr.refl _ _ _⟩ ?_)
 rintro iK iL iM ⟨k,f7,f8,eK,aB,aj⟩
 refine qar [(3,.p 0 0),(12,.v (.slice A l.length c)),(13,.v (.int .i64 ((l.length:Nat):Int))),(14,.v (.int .i64 ((k:Nat):Int))),(15,.v (.bool (decide (((k:Nat):Int) < ((l.length:Nat):Int)))))] aB eK fun iN cG=>?_
 refine wp_seq (qaw cG (b:=decide (((k:Nat):Int) < ((l.length:Nat):Int))) kz (fun cH=>?_) (fun cH=>?_))
 ·
  have f9:=of_decide_eq_true cH
  refine wp_skip (qab (wp_seq (wp_block (qae [0,1,2,3,4,5] kz ?_))))
  refine qaj [0] [1,2,3,4,5] [(3,.p 0 0),(12,.v (.slice A l.length c)),(13,.v (.int .i64 ((l.length:Nat):Int))),(14,.v (.int .i64 ((k:Nat):Int))),(16,.v (.int .i64 ((k:Nat):Int)))] aB cG fun iO eL=>?_
  obtain ⟨ga,gb,eM,gc,bB⟩:=Slots.get h1 (i:=k) (by omega)
  obtain ⟨gd,cI⟩:∃ x,l[k]? = some x:=⟨_,List.getElem?_eq_getElem (by omega)⟩
  have cJ:=h2 k gd cI
  obtain ⟨ae,eC,eD,aE,eE,aM,eF,bA,bC,bD,cK,rfl,bE,eN,fb⟩:=cJ.open_
  rw [bE] at cJ
  have fe:=eN.small
  rw [bE] at bB
  refine qal (qax eL (t:=29) (A:=A) (m:=l.length) (q:=((k:Nat):Int)) (d:=17) kz (e:=51) (size:=8) (bytes:=80) kz eM rfl (by omega) fun iP eO=>?_)
  refine qal (qaU eO (t:=51) (b:=ga) (o:=gb + k * 8) (d:=18) kz (cs:=(z4 ae eC eD aE eE aM eF bC bA.length bD)) (v:=.agg #[.int .i64 ae,.int .i64 eC,.int .i64 eD,.int .i64 aE,.int .i64 eE,.int .i64 aM,.int .i64 eF,.slice bC bA.length bD]) kz (AtF.move bB aB.step nilM qbb).at_ fun iQ eP=>?_)
  refine qal (qaS aB eP (d:=6) (cs:=z16) kz fun iR iS iT ge gg ak cL eQ=>?_)
  refine qaj [4] [5] [(3,.p 0 0),(5,.v (.int .i64 ((k:Nat):Int))),(6,.p 1 0),(12,.v (.slice A l.length c)),(13,.v (.int .i64 ((l.length:Nat):Int))),(14,.v (.int .i64 ((k:Nat):Int))),(18,.v (.agg #[.int .i64 ae,.int .i64 eC,.int .i64 eD,.int .i64 aE,.int .i64 eE,.int .i64 aM,.int .i64 eF,.slice bC bA.length bD]))] cL eQ fun iU eR=>?_
  refine qal (qap cL eR (oi:=1) (cs:=(z4 ae eC eD aE eE aM eF bC bA.length bD)) kz fun iV al aL eS=>?_)
  refine qaf (qab ?_)
  refine qae [0,1,2,3,4] kz ?_
  refine qaj [0,1] [2,3,4] [(3,.p 0 0),(6,.p 1 0),(12,.v (.slice A l.length c)),(13,.v (.int .i64 ((l.length:Nat):Int))),(14,.v (.int .i64 ((k:Nat):Int))),(19,.v (.agg #[.int .i64 n1,.slice A6 s2.length c7,.bool b3,.slice A8 l4.length c9,.slice aJ u5.length aK])),(20,.v (.int .i64 ((k:Nat):Int)))] aL eS fun iW eU=>?_
  refine qal (qak eU (f:=33) (vs:=[.agg #[.int .i64 n1,.slice A6 s2.length c7,.bool b3,.slice A8 l4.length c9,.slice aJ u5.length aK],.int .i64 ((k:Nat):Int)]) (d:=21) kz Tryz.call33 (sAt _ _ k _ _ (ht.move aL.step nilM aL.imm)) ?_)
  rintro e_ gh ⟨gi,rfl,eV,aN⟩
  have aF:=eV.move aN nilM (fun b o h_ hb_=>aL.laid (G:=F) aN b o (.inl h_) (Nat.lt_of_lt_of_le hb_ aN.size))
  obtain ⟨ai,af,ah,am,aO,aC,aD,aP,aQ,aR,aS,ff,aT,aU,cM,eW,gj,gk⟩:=aF.open_
  rw [aU] at aF
  have eX:=cM.small
  have eY:=eW.small
  rw [aU]
  refine ⟨_,rfl,fun gl cN=>?_⟩
  have cO:=aL.next_nil aN
  have ag:=aL.frN aN
  have hq_:=hU.2 k _ cI
  rw [aT] at hq_
  refine qal (qaS cO cN (d:=7) (cs:=z0) kz fun gm gn gp fg fh ab cP cQ=>?_)
  refine qal (qap cP cQ (oi:=2) (cs:=(z2 ai aC af.length aD ah aP am.length aQ aR aO.length aS)) kz fun gq ac aa cR=>?_)
  refine qaf (qab ?_)
  refine qar [(3,.p 0 0),(6,.p 1 0),(7,.p 2 0),(12,.v (.slice A l.length c)),(13,.v (.int .i64 ((l.length:Nat):Int))),(14,.v (.int .i64 ((k:Nat):Int))),(23,.v (.int .i64 ae))] aa cR fun gt cS=>?_
  refine wp_block (qar [(3,.p 0 0),(6,.p 1 0),(7,.p 2 0),(12,.v (.slice A l.length c)),(13,.v (.int .i64 ((l.length:Nat):Int))),(14,.v (.int .i64 ((k:Nat):Int))),(23,.v (.int .i64 ae)),(32,.v (.bool (ae == 8)))] aa cS fun gv aV=>?_)
  refine qaw aV (b:=ae == 8) kz (fun aW=>?_) (fun aW=>?_)
  ·
   have fi:ae = 8:=by simpa using aW
   refine qae [0,1,2,3,4,5,6,7,8,9,10,11] kz ?_
   refine qaj [0,1,2,3,4,5,6] [7,8,9,10,11] [(3,.p 0 0),(7,.p 2 0),(12,.v (.slice A l.length c)),(13,.v (.int .i64 ((l.length:Nat):Int))),(14,.v (.int .i64 ((k:Nat):Int))),(40,.v (.bool (!(ah == (decide (aE ≥ 0))))))] aa aV fun gw bF=>?_
   refine (Bool.eq_false_or_eq_true (!(ah == (decide (aE ≥ 0))))).elim (fun ao=>?_) (fun ao=>?_)
   ·
    have fj:!(ah = (decide (aE ≥ 0))):=by simpa using ao
    have cT:=bF
    rw [ao] at cT
    refine qaj [7,8,9,10,11] [] [(3,.p 0 0),(12,.v (.slice A l.length c)),(13,.v (.int .i64 ((l.length:Nat):Int))),(14,.v (.int .i64 ((k:Nat):Int))),(45,.v (.bool true))] aa cT fun gx bG=>?_
    refine qaf (qab ?_)
    refine qa4 bG (b:=true) kz rfl ?_
    refine qar [(4,.v (.bool false))] aa bG fun gy cU=>?_
    refine wp_ret (qay (qay (qat (qat (qay (qat (qaM cU aa.cells (v:=.bool false) kz ?_)))))))
    first
     | exact (qgw hq_ ‹_› ‹_›).elim
     | exact (qgx hq_ ‹_› ‹_›).elim
     | exact (us_7 hq_ ‹_› ‹_›).elim
     | exact (qgy hq_ ‹_› ‹_›).elim
     | exact (qgz hq_ ‹_› ‹_›).elim
     | exact (qeF hq_ ‹_› ‹_›).elim
     | exact (qeG hq_ ‹_› ‹_›).elim
     | exact (qgA hq_ ‹_› ‹_› ‹_›).elim
     | exact (us_n hq_ ‹_› ‹_› ‹_› ‹_› ‹_› ‹_›).elim
   have fk:!(ah ≠ (decide (aE ≥ 0))):=by simpa using ao
   have cV:=bF
   rw [ao] at cV
   refine qaj [7,8,9,10,11] [] [(3,.p 0 0),(12,.v (.slice A l.length c)),(13,.v (.int .i64 ((l.length:Nat):Int))),(14,.v (.int .i64 ((k:Nat):Int))),(45,.v (.bool (decide (((af.length:Nat):Int) > 0))))] aa cV fun gz aX=>?_
   refine qaf (qab ?_)
   refine qaw aX (b:=decide (((af.length:Nat):Int) > 0)) kz (fun aY=>?_) (fun aY=>?_)
   ·
    have fm:=of_decide_eq_true aY
    refine qar [(4,.v (.bool false))] aa aX fun gA cW=>?_
    refine wp_ret (qay (qay (qat (qat (qay (qat (qaM cW aa.cells (v:=.bool false) kz ?_)))))))
    first
     | exact (qgw hq_ ‹_› ‹_›).elim
     | exact (qgx hq_ ‹_› ‹_›).elim
     | exact (us_7 hq_ ‹_› ‹_›).elim
     | exact (qgy hq_ ‹_› ‹_›).elim
     | exact (qgz hq_ ‹_› ‹_›).elim
     | exact (qeF hq_ ‹_› ‹_›).elim
     | exact (qeG hq_ ‹_› ‹_›).elim
     | exact (qgA hq_ ‹_› ‹_› ‹_›).elim
     | exact (us_n hq_ ‹_› ‹_› ‹_› ‹_› ‹_› ‹_›).elim
   have fo:=of_decide_eq_false aY
   refine wp_skip (qas (qas (qab (qaq [0,1] kz ?_))))
   refine qaj [0,1] [] [(3,.p 0 0),(12,.v (.slice A l.length c)),(13,.v (.int .i64 ((l.length:Nat):Int))),(14,.v (.int .i64 (IntKind.i64.wrap (((k:Nat):Int) + 1))))] aa aX fun gB cX=>?_
   refine qaf (qab ?_)
   obtain ⟨bH,cY,cZ⟩:=aa.cutB cX 1 [⟨bz,0,(z2 n1 A6 s2.length c7 b3 A8 l4.length c9 aJ u5.length aK),true⟩] [(3,.p 0 0),(12,.v (.slice A l.length c)),(13,.v (.int .i64 ((l.length:Nat):Int))),(14,.v (.int .i64 (IntKind.i64.wrap (((k:Nat):Int) + 1))))]
   have c5:IntKind.i64.wrap (((k:Nat):Int) + 1) = ((k + 1:Nat):Int):=qaP (by omega)
   rw [c5] at bH
   exact ⟨l.length - (k + 1),by omega,k + 1,rfl,by omega,bH.pk,cY,((((((aj.trans ak).trans al).trans ag).trans ab).trans ac).trans cZ)⟩
  have fq:ae ≠ 8:=by simpa using aW
  refine qar [(3,.p 0 0),(6,.p 1 0),(7,.p 2 0),(12,.v (.slice A l.length c)),(13,.v (.int .i64 ((l.length:Nat):Int))),(14,.v (.int .i64 ((k:Nat):Int))),(23,.v (.int .i64 ae)),(46,.v (.bool (ae == 7)))] aa aV fun gC aZ=>?_
  refine qaw aZ (b:=ae == 7) kz (fun ba=>?_) (fun ba=>?_)
  ·
   have fr:ae = 7:=by simpa using ba
   refine qaE 5 kz aa fun gD bd c6 da=>?_
   refine qaD [0,1] [(3,.p 0 0),(12,.v (.slice A l.length c)),(13,.v (.int .i64 ((l.length:Nat):Int))),(14,.v (.int .i64 ((k:Nat):Int))),(49,.v (.slice aC af.length aD))] 3 (qaa (qac (qac (qaa (qaa (qac (qaa qad))))))) (fun _ h=>h.cells) da aZ fun gE db=>?_
   refine qan (i:=2) kz (qcJ c6 db (d:=50) (j:=16) (t:=22) (e:=5) (bytes:=1) (z:=.int .u8 0) kz kz kz kz (rfl) (rfl) (by omega) fun eZ gF gG ft fu ap aG dc=>?_)
   have de:=TT.ofW ap aG
   refine ⟨fun _=>de,?_⟩
   refine qan (i:=3) kz (qak dc (f:=39) (vs:=[.slice aC af.length aD,.slice (some ⟨eZ,0,none⟩) 16 16]) (d:=51) kz Tryz.call39 (qeh _ _ _ _ af (List.replicate 16 0:Bs) _ _ ((cM.move (((ab.trans ac).trans bd).trans ap).step immM (((ab.trans ac).trans bd).trans ap).to').move (Step.refl _ Nil) nilM allF) (qjH (aG.own 0 _ rfl) (F:=fun _ _=>True) (fun _ _ _=>trivial))) ?_)
   rintro e_ gH ⟨rfl,bI⟩
   refine ⟨_,rfl,fun gI df=>?_⟩
   have ar:=aG.next_nil bI
   have bJ:=aG.frN bI
   have bK:=TT.ofW (ap.trans bJ) ar
   refine ⟨fun _=>bK,?_⟩
   refine qaD [4] [(3,.p 0 0),(12,.v (.slice A l.length c)),(13,.v (.int .i64 ((l.length:Nat):Int))),(14,.v (.int .i64 ((k:Nat):Int))),(52,.v (.bool (!(decide (af = (List.replicate 16 0:Bs))))))] 0 (qaa (qac (qac (qaa (qaa (qac (qaa qad))))))) (fun _ h=>h.cells) bK df fun gJ bf=>?_
   refine qaC kz ?_ _
   refine qab (qaw bf (b:=!(decide (af = (List.replicate 16 0:Bs)))) kz (fun dg=>?_) (fun dg=>?_))
   ·
    refine qar [(4,.v (.bool false))] ar bf fun gK dh=>?_
    refine wp_ret (qay (qay (qat (qat (qay (qat (qaM dh ar.cells (v:=.bool false) kz ?_)))))))
    first
     | exact (qgw hq_ ‹_› ‹_›).elim
     | exact (qgx hq_ ‹_› ‹_›).elim
     | exact (us_7 hq_ ‹_› ‹_›).elim
     | exact (qgy hq_ ‹_› ‹_›).elim
     | exact (qgz hq_ ‹_› ‹_›).elim
     | exact (qeF hq_ ‹_› ‹_›).elim
     | exact (qeG hq_ ‹_› ‹_›).elim
     | exact (qgA hq_ ‹_› ‹_› ‹_›).elim
     | exact (us_n hq_ ‹_› ‹_› ‹_› ‹_› ‹_› ‹_›).elim
   refine wp_skip (qas (qas (qab (qaq [0,1] kz ?_))))
   refine qaj [0,1] [] [(3,.p 0 0),(12,.v (.slice A l.length c)),(13,.v (.int .i64 ((l.length:Nat):Int))),(14,.v (.int .i64 (IntKind.i64.wrap (((k:Nat):Int) + 1))))] ar bf fun gL di=>?_
   refine qaf (qab ?_)
   obtain ⟨bL,dj,dl⟩:=ar.cutB di 1 [⟨bz,0,(z2 n1 A6 s2.length c7 b3 A8 l4.length c9 aJ u5.length aK),true⟩] [(3,.p 0 0),(12,.v (.slice A l.length c)),(13,.v (.int .i64 ((l.length:Nat):Int))),(14,.v (.int .i64 (IntKind.i64.wrap (((k:Nat):Int) + 1))))]
   obtain ⟨dp,dq⟩:=dj.cutR 0 []
   have dr:IntKind.i64.wrap (((k:Nat):Int) + 1) = ((k + 1:Nat):Int):=qaP (by omega)
   rw [dr] at bL
   exact ⟨l.length - (k + 1),by omega,k + 1,rfl,by omega,bL.pk,dp,((((((((((aj.trans ak).trans al).trans ag).trans ab).trans ac).trans bd).trans ap).trans bJ).trans dl).trans dq)⟩
  have fv:ae ≠ 7:=by simpa using ba
  refine wp_seq (qar [(3,.p 0 0),(6,.p 1 0),(7,.p 2 0),(12,.v (.slice A l.length c)),(13,.v (.int .i64 ((l.length:Nat):Int))),(14,.v (.int .i64 ((k:Nat):Int))),(23,.v (.int .i64 ae)),(53,.v (.bool (ae == 9)))] aa aZ fun gM aH=>?_)
  refine qaw aH (b:=ae == 9) kz (fun aI=>?_) (fun aI=>?_)
  ·
   have fw:ae = 9:=by simpa using aI
   refine wp_skip (qab (qa4 aH (b:=ae == 9) kz (aI) ?_))
   refine qae [0,1,2,3,4,5,6,7,8,9] kz ?_
   refine qaj [0,1,2,3,4] [5,6,7,8,9] [(3,.p 0 0),(7,.p 2 0),(12,.v (.slice A l.length c)),(13,.v (.int .i64 ((l.length:Nat):Int))),(14,.v (.int .i64 ((k:Nat):Int))),(60,.v (.bool (decide (((af.length:Nat):Int) > 0))))] aa aH fun gN bM=>?_
   refine (Bool.eq_false_or_eq_true (decide (((af.length:Nat):Int) > 0))).elim (fun au=>?_) (fun au=>?_)
   ·
    have fx:=of_decide_eq_true au
    have dt:=bM
    rw [au] at dt
    refine qaj [5,6,7,8,9] [] [(3,.p 0 0),(12,.v (.slice A l.length c)),(13,.v (.int .i64 ((l.length:Nat):Int))),(14,.v (.int .i64 ((k:Nat):Int))),(65,.v (.bool true))] aa dt fun gO bN=>?_
    refine qaf (qab ?_)
    refine qa4 bN (b:=true) kz rfl ?_
    refine qar [(4,.v (.bool false))] aa bN fun gP du=>?_
    refine wp_ret (qay (qay (qat (qat (qay (qat (qaM du aa.cells (v:=.bool false) kz ?_)))))))
    first
     | exact (qgw hq_ ‹_› ‹_›).elim
     | exact (qgx hq_ ‹_› ‹_›).elim
     | exact (us_7 hq_ ‹_› ‹_›).elim
     | exact (qgy hq_ ‹_› ‹_›).elim
     | exact (qgz hq_ ‹_› ‹_›).elim
     | exact (qeF hq_ ‹_› ‹_›).elim
     | exact (qeG hq_ ‹_› ‹_›).elim
     | exact (qgA hq_ ‹_› ‹_› ‹_›).elim
     | exact (us_n hq_ ‹_› ‹_› ‹_› ‹_› ‹_› ‹_›).elim
   have fy:=of_decide_eq_false au
   have dv:=bM
   rw [au] at dv
   refine qaj [5,6,7,8,9] [] [(3,.p 0 0),(12,.v (.slice A l.length c)),(13,.v (.int .i64 ((l.length:Nat):Int))),(14,.v (.int .i64 ((k:Nat):Int))),(65,.v (.bool (decide (((am.length:Nat):Int) > 0))))] aa dv fun gQ bg=>?_
   refine qaf (qab ?_)
   refine qaw bg (b:=decide (((am.length:Nat):Int) > 0)) kz (fun bh=>?_) (fun bh=>?_)
   ·
    have fz:=of_decide_eq_true bh
    refine qar [(4,.v (.bool false))] aa bg fun gR dw=>?_
    refine wp_ret (qay (qay (qat (qat (qay (qat (qaM dw aa.cells (v:=.bool false) kz ?_)))))))
    first
     | exact (qgw hq_ ‹_› ‹_›).elim
     | exact (qgx hq_ ‹_› ‹_›).elim
     | exact (us_7 hq_ ‹_› ‹_›).elim
     | exact (qgy hq_ ‹_› ‹_›).elim
     | exact (qgz hq_ ‹_› ‹_›).elim
     | exact (qeF hq_ ‹_› ‹_›).elim
     | exact (qeG hq_ ‹_› ‹_›).elim
     | exact (qgA hq_ ‹_› ‹_› ‹_›).elim
     | exact (us_n hq_ ‹_› ‹_› ‹_› ‹_› ‹_› ‹_›).elim
   have fA:=of_decide_eq_false bh
   refine wp_skip (qas (qas (qab (qaq [0,1] kz ?_))))
   refine qaj [0,1] [] [(3,.p 0 0),(12,.v (.slice A l.length c)),(13,.v (.int .i64 ((l.length:Nat):Int))),(14,.v (.int .i64 (IntKind.i64.wrap (((k:Nat):Int) + 1))))] aa bg fun gS dx=>?_
   refine qaf (qab ?_)
   obtain ⟨bO,dy,dz⟩:=aa.cutB dx 1 [⟨bz,0,(z2 n1 A6 s2.length c7 b3 A8 l4.length c9 aJ u5.length aK),true⟩] [(3,.p 0 0),(12,.v (.slice A l.length c)),(13,.v (.int .i64 ((l.length:Nat):Int))),(14,.v (.int .i64 (IntKind.i64.wrap (((k:Nat):Int) + 1))))]
   have dA:IntKind.i64.wrap (((k:Nat):Int) + 1) = ((k + 1:Nat):Int):=qaP (by omega)
   rw [dA] at bO
   exact ⟨l.length - (k + 1),by omega,k + 1,rfl,by omega,bO.pk,dy,((((((aj.trans ak).trans al).trans ag).trans ab).trans ac).trans dz)⟩
  have fB:ae ≠ 9:=by simpa using aI
  refine qaq [0,1] kz ?_
  refine qaj [0,1] [] [(3,.p 0 0),(6,.p 1 0),(7,.p 2 0),(12,.v (.slice A l.length c)),(13,.v (.int .i64 ((l.length:Nat):Int))),(14,.v (.int .i64 ((k:Nat):Int))),(23,.v (.int .i64 ae)),(53,.v (.bool (ae == 11)))] aa aH fun gT bi=>?_
  refine qaf (qab ?_)
  refine qaw bi (b:=ae == 11) kz (fun bj=>?_) (fun bj=>?_)
  ·
   have fC:ae = 11:=by simpa using bj
   refine qae [0,1,2,3,4,5,6,7,8,9] kz ?_
   refine qaj [0,1,2,3,4] [5,6,7,8,9] [(3,.p 0 0),(7,.p 2 0),(12,.v (.slice A l.length c)),(13,.v (.int .i64 ((l.length:Nat):Int))),(14,.v (.int .i64 ((k:Nat):Int))),(60,.v (.bool (decide (((af.length:Nat):Int) > 0))))] aa bi fun gU bP=>?_
   refine (Bool.eq_false_or_eq_true (decide (((af.length:Nat):Int) > 0))).elim (fun av=>?_) (fun av=>?_)
   ·
    have fD:=of_decide_eq_true av
    have dB:=bP
    rw [av] at dB
    refine qaj [5,6,7,8,9] [] [(3,.p 0 0),(12,.v (.slice A l.length c)),(13,.v (.int .i64 ((l.length:Nat):Int))),(14,.v (.int .i64 ((k:Nat):Int))),(65,.v (.bool true))] aa dB fun gV bQ=>?_
    refine qaf (qab ?_)
    refine qa4 bQ (b:=true) kz rfl ?_
    refine qar [(4,.v (.bool false))] aa bQ fun gW dC=>?_
    refine wp_ret (qay (qay (qat (qat (qay (qat (qaM dC aa.cells (v:=.bool false) kz ?_)))))))
    first
     | exact (qgw hq_ ‹_› ‹_›).elim
     | exact (qgx hq_ ‹_› ‹_›).elim
     | exact (us_7 hq_ ‹_› ‹_›).elim
     | exact (qgy hq_ ‹_› ‹_›).elim
     | exact (qgz hq_ ‹_› ‹_›).elim
     | exact (qeF hq_ ‹_› ‹_›).elim
     | exact (qeG hq_ ‹_› ‹_›).elim
     | exact (qgA hq_ ‹_› ‹_› ‹_›).elim
     | exact (us_n hq_ ‹_› ‹_› ‹_› ‹_› ‹_› ‹_›).elim
   have fE:=of_decide_eq_false av
   have dD:=bP
   rw [av] at dD
   refine qaj [5,6,7,8,9] [] [(3,.p 0 0),(12,.v (.slice A l.length c)),(13,.v (.int .i64 ((l.length:Nat):Int))),(14,.v (.int .i64 ((k:Nat):Int))),(65,.v (.bool (decide (((am.length:Nat):Int) > 0))))] aa dD fun gX bk=>?_
   refine qaf (qab ?_)
   refine qaw bk (b:=decide (((am.length:Nat):Int) > 0)) kz (fun bn=>?_) (fun bn=>?_)
   ·
    have fF:=of_decide_eq_true bn
    refine qar [(4,.v (.bool false))] aa bk fun gY dE=>?_
    refine wp_ret (qay (qay (qat (qat (qay (qat (qaM dE aa.cells (v:=.bool false) kz ?_)))))))
    first
     | exact (qgw hq_ ‹_› ‹_›).elim
     | exact (qgx hq_ ‹_› ‹_›).elim
     | exact (us_7 hq_ ‹_› ‹_›).elim
     | exact (qgy hq_ ‹_› ‹_›).elim
     | exact (qgz hq_ ‹_› ‹_›).elim
     | exact (qeF hq_ ‹_› ‹_›).elim
     | exact (qeG hq_ ‹_› ‹_›).elim
     | exact (qgA hq_ ‹_› ‹_› ‹_›).elim
     | exact (us_n hq_ ‹_› ‹_› ‹_› ‹_› ‹_› ‹_›).elim
   have fG:=of_decide_eq_false bn
   refine wp_skip (qas (qas (qab (qaq [0,1] kz ?_))))
   refine qaj [0,1] [] [(3,.p 0 0),(12,.v (.slice A l.length c)),(13,.v (.int .i64 ((l.length:Nat):Int))),(14,.v (.int .i64 (IntKind.i64.wrap (((k:Nat):Int) + 1))))] aa bk fun gZ dF=>?_
   refine qaf (qab ?_)
   obtain ⟨bR,dG,dH⟩:=aa.cutB dF 1 [⟨bz,0,(z2 n1 A6 s2.length c7 b3 A8 l4.length c9 aJ u5.length aK),true⟩] [(3,.p 0 0),(12,.v (.slice A l.length c)),(13,.v (.int .i64 ((l.length:Nat):Int))),(14,.v (.int .i64 (IntKind.i64.wrap (((k:Nat):Int) + 1))))]
   have dI:IntKind.i64.wrap (((k:Nat):Int) + 1) = ((k + 1:Nat):Int):=qaP (by omega)
   rw [dI] at bR
   exact ⟨l.length - (k + 1),by omega,k + 1,rfl,by omega,bR.pk,dG,((((((aj.trans ak).trans al).trans ag).trans ab).trans ac).trans dH)⟩
  have fH:ae ≠ 11:=by simpa using bj
  refine qar [(3,.p 0 0),(6,.p 1 0),(7,.p 2 0),(12,.v (.slice A l.length c)),(13,.v (.int .i64 ((l.length:Nat):Int))),(14,.v (.int .i64 ((k:Nat):Int))),(66,.v (.bool (ae == 10)))] aa bi fun g6 bo=>?_
  refine qaw bo (b:=ae == 10) kz (fun bp=>?_) (fun bp=>?_)
  ·
   have fI:ae = 10:=by simpa using bp
   refine qae [0,1,2,3,4,5,6,7,8,9,10,11,12,13,14,15,16,17,18,19] kz ?_
   refine qaj [0,1,2,3] [4,5,6,7,8,9,10,11,12,13,14,15,16,17,18,19] [(3,.p 0 0),(6,.p 1 0),(7,.p 2 0),(12,.v (.slice A l.length c)),(13,.v (.int .i64 ((l.length:Nat):Int))),(14,.v (.int .i64 ((k:Nat):Int))),(71,.v (.bool (decide (aE ≥ 0))))] aa bo fun g7 bS=>?_
   refine (Bool.eq_false_or_eq_true (decide (aE ≥ 0))).elim (fun aw=>?_) (fun aw=>?_)
   ·
    have fJ:=of_decide_eq_true aw
    have dJ:=bS
    rw [aw] at dJ
    refine qaj [4,5,6,7,8] [9,10,11,12,13,14,15,16,17,18,19] [(3,.p 0 0),(6,.p 1 0),(7,.p 2 0),(12,.v (.slice A l.length c)),(13,.v (.int .i64 ((l.length:Nat):Int))),(14,.v (.int .i64 ((k:Nat):Int))),(76,.v (.bool (!ah)))] aa dJ fun g8 bT=>?_
    refine (Bool.eq_false_or_eq_true (!ah)).elim (fun bq=>?_) (fun bq=>?_)
    ·
     have dK:=bT
     rw [bq] at dK
     refine qaj [9,10,11,12,13,14,15,16,17,18,19] [] [(3,.p 0 0),(12,.v (.slice A l.length c)),(13,.v (.int .i64 ((l.length:Nat):Int))),(14,.v (.int .i64 ((k:Nat):Int))),(87,.v (.bool true))] aa dK fun g9 bU=>?_
     refine qaf (qab ?_)
     refine qa4 bU (b:=true) kz rfl ?_
     refine qar [(4,.v (.bool false))] aa bU fun hC dL=>?_
     refine wp_ret (qay (qay (qat (qat (qay (qat (qaM dL aa.cells (v:=.bool false) kz ?_)))))))
     first
      | exact (qgw hq_ ‹_› ‹_›).elim
      | exact (qgx hq_ ‹_› ‹_›).elim
      | exact (us_7 hq_ ‹_› ‹_›).elim
      | exact (qgy hq_ ‹_› ‹_›).elim
      | exact (qgz hq_ ‹_› ‹_›).elim
      | exact (qeF hq_ ‹_› ‹_›).elim
      | exact (qeG hq_ ‹_› ‹_›).elim
      | exact (qgA hq_ ‹_› ‹_› ‹_›).elim
      | exact (us_n hq_ ‹_› ‹_› ‹_› ‹_› ‹_› ‹_›).elim
    have dM:=bT
    rw [bq] at dM
    refine qaj [9,10,11,12] [13,14,15,16,17,18,19] [(3,.p 0 0),(6,.p 1 0),(7,.p 2 0),(12,.v (.slice A l.length c)),(13,.v (.int .i64 ((l.length:Nat):Int))),(14,.v (.int .i64 ((k:Nat):Int))),(76,.v (.bool false)),(80,.v (.bool (decide (aE < 0))))] aa dM fun hJ bV=>?_
    refine (Bool.eq_false_or_eq_true (decide (aE < 0))).elim (fun ax=>?_) (fun ax=>?_)
    ·
     have fK:=of_decide_eq_true ax
     have dN:=bV
     rw [ax] at dN
     refine qaj [13,14,15] [16,17,18,19] [(3,.p 0 0),(12,.v (.slice A l.length c)),(13,.v (.int .i64 ((l.length:Nat):Int))),(14,.v (.int .i64 ((k:Nat):Int))),(76,.v (.bool false)),(80,.v (.bool true)),(82,.v (.slice bC bA.length bD)),(83,.v (.agg #[.int .i64 ai,.slice aC af.length aD,.bool ah,.slice aP am.length aQ,.slice aR aO.length aS]))] aa dN fun hK dO=>?_
     refine qal (qak dO (f:=37) (vs:=[.slice bC bA.length bD,.agg #[.int .i64 ai,.slice aC af.length aD,.bool ah,.slice aP am.length aQ,.slice aR aO.length aS]]) (d:=84) kz Tryz.call37 ( hu _ _ bA _ _ _ _ ⟨cK,(eN.move aa.step nilM aa.imm),(fun i_ x_ h_=>((fb i_ x_ h_).move aa.step nilM aa.imm))⟩ (aF.move (ab.trans ac).step immM (ab.trans ac).to') (by rw [aT]; exact qkE hq_ ‹_› ‹_›)) ?_)
     rintro e_ hZ ⟨rfl,bW⟩
     refine ⟨_,rfl,fun ia dP=>?_⟩
     have bt:=aa.next_nil bW
     have dQ:=aa.frN bW
     refine qaj [17,18,19] [] (z32 A l.length c k) bt dP fun ib bX=>?_
     refine qaf (qab ?_)
     refine qam bX (b:=false) kz rfl ?_
     refine wp_skip (qas (qas (qab (qaq [0,1] kz ?_))))
     refine qaj [0,1] [] [(3,.p 0 0),(12,.v (.slice A l.length c)),(13,.v (.int .i64 ((l.length:Nat):Int))),(14,.v (.int .i64 (IntKind.i64.wrap (((k:Nat):Int) + 1))))] bt bX fun ic dR=>?_
     refine qaf (qab ?_)
     obtain ⟨bY,dS,dT⟩:=bt.cutB dR 1 [⟨bz,0,(z2 n1 A6 s2.length c7 b3 A8 l4.length c9 aJ u5.length aK),true⟩] [(3,.p 0 0),(12,.v (.slice A l.length c)),(13,.v (.int .i64 ((l.length:Nat):Int))),(14,.v (.int .i64 (IntKind.i64.wrap (((k:Nat):Int) + 1))))]
     have dU:IntKind.i64.wrap (((k:Nat):Int) + 1) = ((k + 1:Nat):Int):=qaP (by omega)
     rw [dU] at bY
     exact ⟨l.length - (k + 1),by omega,k + 1,rfl,by omega,bY.pk,dS,(((((((aj.trans ak).trans al).trans ag).trans ab).trans ac).trans dQ).trans dT)⟩
    have fL:=of_decide_eq_false ax
    have dV:=bV
    rw [ax] at dV
    refine qaj [13,14,15,16,17,18,19] [] (z32 A l.length c k) aa dV fun ig bZ=>?_
    refine qaf (qab ?_)
    refine qam bZ (b:=false) kz rfl ?_
    refine wp_skip (qas (qas (qab (qaq [0,1] kz ?_))))
    refine qaj [0,1] [] [(3,.p 0 0),(12,.v (.slice A l.length c)),(13,.v (.int .i64 ((l.length:Nat):Int))),(14,.v (.int .i64 (IntKind.i64.wrap (((k:Nat):Int) + 1))))] aa bZ fun ii dW=>?_
    refine qaf (qab ?_)
    obtain ⟨b8,dX,dY⟩:=aa.cutB dW 1 [⟨bz,0,(z2 n1 A6 s2.length c7 b3 A8 l4.length c9 aJ u5.length aK),true⟩] [(3,.p 0 0),(12,.v (.slice A l.length c)),(13,.v (.int .i64 ((l.length:Nat):Int))),(14,.v (.int .i64 (IntKind.i64.wrap (((k:Nat):Int) + 1))))]
    have dZ:IntKind.i64.wrap (((k:Nat):Int) + 1) = ((k + 1:Nat):Int):=qaP (by omega)
    rw [dZ] at b8
    exact ⟨l.length - (k + 1),by omega,k + 1,rfl,by omega,b8.pk,dX,((((((aj.trans ak).trans al).trans ag).trans ab).trans ac).trans dY)⟩
   have fM:=of_decide_eq_false aw
   have d5:=bS.cast (env':=[(3,.p 0 0),(6,.p 1 0),(7,.p 2 0),(12,.v (.slice A l.length c)),(13,.v (.int .i64 ((l.length:Nat):Int))),(14,.v (.int .i64 ((k:Nat):Int))),(71,.v (.bool false))]) (by rw [aw])
   refine qaj [4,5,6,7,8,9,10,11,12] [13,14,15,16,17,18,19] [(3,.p 0 0),(6,.p 1 0),(7,.p 2 0),(12,.v (.slice A l.length c)),(13,.v (.int .i64 ((l.length:Nat):Int))),(14,.v (.int .i64 ((k:Nat):Int))),(76,.v (.bool false)),(80,.v (.bool (decide (aE < 0))))] aa d5 fun ij cd=>?_
   refine (Bool.eq_false_or_eq_true (decide (aE < 0))).elim (fun ay=>?_) (fun ay=>?_)
   ·
    have fN:=of_decide_eq_true ay
    have d6:=cd
    rw [ay] at d6
    refine qaj [13,14,15] [16,17,18,19] [(3,.p 0 0),(12,.v (.slice A l.length c)),(13,.v (.int .i64 ((l.length:Nat):Int))),(14,.v (.int .i64 ((k:Nat):Int))),(76,.v (.bool false)),(80,.v (.bool true)),(82,.v (.slice bC bA.length bD)),(83,.v (.agg #[.int .i64 ai,.slice aC af.length aD,.bool ah,.slice aP am.length aQ,.slice aR aO.length aS]))] aa d6 fun ik d7=>?_
    refine qal (qak d7 (f:=37) (vs:=[.slice bC bA.length bD,.agg #[.int .i64 ai,.slice aC af.length aD,.bool ah,.slice aP am.length aQ,.slice aR aO.length aS]]) (d:=84) kz Tryz.call37 ( hu _ _ bA _ _ _ _ ⟨cK,(eN.move aa.step nilM aa.imm),(fun i_ x_ h_=>((fb i_ x_ h_).move aa.step nilM aa.imm))⟩ (aF.move (ab.trans ac).step immM (ab.trans ac).to') (by rw [aT]; exact qkE hq_ ‹_› ‹_›)) ?_)
    rintro e_ il ⟨rfl,ce⟩
    refine ⟨_,rfl,fun im d8=>?_⟩
    have bu:=aa.next_nil ce
    have d9:=aa.frN ce
    refine qaj [17,18,19] [] (z32 A l.length c k) bu d8 fun io cm=>?_
    refine qaf (qab ?_)
    refine qam cm (b:=false) kz rfl ?_
    refine wp_skip (qas (qas (qab (qaq [0,1] kz ?_))))
    refine qaj [0,1] [] [(3,.p 0 0),(12,.v (.slice A l.length c)),(13,.v (.int .i64 ((l.length:Nat):Int))),(14,.v (.int .i64 (IntKind.i64.wrap (((k:Nat):Int) + 1))))] bu cm fun ip ea=>?_
    refine qaf (qab ?_)
    obtain ⟨cq,eb,ec⟩:=bu.cutB ea 1 [⟨bz,0,(z2 n1 A6 s2.length c7 b3 A8 l4.length c9 aJ u5.length aK),true⟩] [(3,.p 0 0),(12,.v (.slice A l.length c)),(13,.v (.int .i64 ((l.length:Nat):Int))),(14,.v (.int .i64 (IntKind.i64.wrap (((k:Nat):Int) + 1))))]
    have ee:IntKind.i64.wrap (((k:Nat):Int) + 1) = ((k + 1:Nat):Int):=qaP (by omega)
    rw [ee] at cq
    exact ⟨l.length - (k + 1),by omega,k + 1,rfl,by omega,cq.pk,eb,(((((((aj.trans ak).trans al).trans ag).trans ab).trans ac).trans d9).trans ec)⟩
   have fO:=of_decide_eq_false ay
   have ef:=cd
   rw [ay] at ef
   refine qaj [13,14,15,16,17,18,19] [] (z32 A l.length c k) aa ef fun iq cr=>?_
   refine qaf (qab ?_)
   refine qam cr (b:=false) kz rfl ?_
   refine wp_skip (qas (qas (qab (qaq [0,1] kz ?_))))
   refine qaj [0,1] [] [(3,.p 0 0),(12,.v (.slice A l.length c)),(13,.v (.int .i64 ((l.length:Nat):Int))),(14,.v (.int .i64 (IntKind.i64.wrap (((k:Nat):Int) + 1))))] aa cr fun ir eg=>?_
   refine qaf (qab ?_)
   obtain ⟨cu,eh,ei⟩:=aa.cutB eg 1 [⟨bz,0,(z2 n1 A6 s2.length c7 b3 A8 l4.length c9 aJ u5.length aK),true⟩] [(3,.p 0 0),(12,.v (.slice A l.length c)),(13,.v (.int .i64 ((l.length:Nat):Int))),(14,.v (.int .i64 (IntKind.i64.wrap (((k:Nat):Int) + 1))))]
   have ej:IntKind.i64.wrap (((k:Nat):Int) + 1) = ((k + 1:Nat):Int):=qaP (by omega)
   rw [ej] at cu
   exact ⟨l.length - (k + 1),by omega,k + 1,rfl,by omega,cu.pk,eh,((((((aj.trans ak).trans al).trans ag).trans ab).trans ac).trans ei)⟩
  have fP:ae ≠ 10:=by simpa using bp
  refine qaE 8 kz aa fun iu ek cw em=>?_
  refine qaD [0,1,2,3,4,5] [(3,.p 0 0),(12,.v (.slice A l.length c)),(13,.v (.int .i64 ((l.length:Nat):Int))),(14,.v (.int .i64 ((k:Nat):Int))),(25,.v (.int .i64 ai)),(27,.v (.int .i64 ae)),(29,.v (.int .i64 aM))] 2 (qaa (qac (qac (qaa (qaa (qac (qaa qad))))))) (fun _ h=>h.cells) em bo fun iv eo=>?_
  refine qan (i:=6) kz (qak eo (f:=74) (vs:=[.int .i64 ae,.int .i64 aM]) (d:=30) kz Tryz.call74 (qgD ae aM _) ?_)
  rintro e_ iw ⟨rfl,cz⟩
  refine ⟨_,rfl,fun ix ep=>?_⟩
  have az:=cw.next_nil cz
  have cA:=cw.frN cz
  have cB:=TT.ofW cA az
  refine ⟨fun _=>cB,?_⟩
  refine qaD [7] [(3,.p 0 0),(12,.v (.slice A l.length c)),(13,.v (.int .i64 ((l.length:Nat):Int))),(14,.v (.int .i64 ((k:Nat):Int))),(31,.v (.bool (ai != (qbv ae aM))))] 0 (qaa (qac (qac (qaa (qaa (qac (qaa qad))))))) (fun _ h=>h.cells) cB ep fun iy bw=>?_
  refine qaC kz ?_ _
  refine qab (qaw bw (b:=ai != (qbv ae aM)) kz (fun bx=>?_) (fun bx=>?_))
  ·
   have fQ:ai ≠ (qbv ae aM):=by simpa using bx
   refine qar [(4,.v (.bool false))] az bw fun iz eu=>?_
   refine wp_ret (qay (qay (qat (qat (qay (qat (qaM eu az.cells (v:=.bool false) kz ?_)))))))
   first
    | exact (qgw hq_ ‹_› ‹_›).elim
    | exact (qgx hq_ ‹_› ‹_›).elim
    | exact (us_7 hq_ ‹_› ‹_›).elim
    | exact (qgy hq_ ‹_› ‹_›).elim
    | exact (qgz hq_ ‹_› ‹_›).elim
    | exact (qeF hq_ ‹_› ‹_›).elim
    | exact (qeG hq_ ‹_› ‹_›).elim
    | exact (qgA hq_ ‹_› ‹_› ‹_›).elim
    | exact (us_n hq_ ‹_› ‹_› ‹_› ‹_› ‹_› ‹_›).elim
  have fR:ai = (qbv ae aM):=by simpa using bx
  refine wp_skip (qas (qas (qab (qaq [0,1] kz ?_))))
  refine qaj [0,1] [] [(3,.p 0 0),(12,.v (.slice A l.length c)),(13,.v (.int .i64 ((l.length:Nat):Int))),(14,.v (.int .i64 (IntKind.i64.wrap (((k:Nat):Int) + 1))))] az bw fun iA ev=>?_
  refine qaf (qab ?_)
  obtain ⟨cC,ew,ey⟩:=az.cutB ev 1 [⟨bz,0,(z2 n1 A6 s2.length c7 b3 A8 l4.length c9 aJ u5.length aK),true⟩] [(3,.p 0 0),(12,.v (.slice A l.length c)),(13,.v (.int .i64 ((l.length:Nat):Int))),(14,.v (.int .i64 (IntKind.i64.wrap (((k:Nat):Int) + 1))))]
  have ez:IntKind.i64.wrap (((k:Nat):Int) + 1) = ((k + 1:Nat):Int):=qaP (by omega)
  rw [ez] at cC
  exact ⟨l.length - (k + 1),by omega,k + 1,rfl,by omega,cC.pk,ew,((((((((aj.trans ak).trans al).trans ag).trans ab).trans ac).trans ek).trans cA).trans ey)⟩
 have fS:=of_decide_eq_false cH
 refine wp_exit (qau (qau (qaL (qab (qar [(4,.v (.bool true))] aB cG fun iB eB=>?_)))))
 refine wp_ret (qaM eB aB.cells (v:=.bool true) kz ?_)
 exact ⟨rfl,aB.step⟩
theorem qjM:∀ d,UsOK (qjG d)
 | 0=>sUs fun _ _ _ _ _ _ _ _ _ h=>h.elim
 | d + 1=>sUs (qjM d)
def ToOK (v:Int) (flex:Bool) (T:List Fld → Tree → Tree → Prop):Prop:=∀ (A:Option Addr) (c:Nat) (l:List Fld) (ct:List Value) (t:Tree) (cg:List Value) (g:Tree) (w:World) (F:Nat → Nat → Prop),FldsR w F A c l → TreeR w F ct t → TreeR w F cg g → plains l → T l t g →
  Calls Tryz.prog 13 #[.slice A l.length c,.int .i64 v,.bool flex,.agg ct.toArray,.agg cg.toArray] w (qcu w (.bool true))
abbrev z19 (x0) (x1) (x2) (x3) (x4) (x5) (x6) (x7) (x8) (x9) (x10) (x11) (x12) (x13) (x14):=([(1,.v (.int .i64 x0)),(2,.v (.bool x1)),(5,.p 0 0),(8,.p 1 0),(9,.p 2 0),(47,.v (.bool (z3 x2 x3 x4 x5 x6 x7 x8 x9 x0 x10 x11 x12 x13 x14)))]:Env)
abbrev z18 (x0) (x1) (x2):=([(1,.v (.int .i64 x0)),(2,.v (.bool x1)),(5,.p 0 0),(8,.p 1 0),(9,.p 2 0),(49,.v (.int .i64 x2))]:Env)
abbrev z20 (x0) (x1) (x2) (x3):=([(9,.p 2 0),(13,.v (.slice (some ⟨x0,0,none⟩) 16 16)),(62,.v (.slice (some ⟨x0,0,none⟩) 16 16)),(64,.v (.slice x1 x2 x3)),(65,.v (.int .i64 ((min x2 16:Nat):Int)))]:Env)
abbrev z24 (x0) (x1) (x2) (x3):=([(9,.p 2 0),(13,.v (.slice (some ⟨x0,0,none⟩) 16 16)),(62,.v (.slice (some ⟨x0,0,none⟩) 16 16)),(64,.v (.slice x1 x2 x3))]:Env)
abbrev z38 (x0):=([(8,.p 1 0),(9,.p 2 0),(13,.v (.slice (some ⟨x0,0,none⟩) 16 16))]:Env)
abbrev z41 (x0) (x1) (x2) (x3) (x4):=([(67,.v (.slice x0 x1 x2)),(68,.v (.slice (some ⟨x3,0,none⟩) ((qbs x4).length) 16))]:Env)
abbrev z49 (x0) (x1) (x2) (x3) (x4) (x5) (x6) (x7) (x8) (x9) (x10) (x11) (x12) (x13) (x14):=([(1,.v (.int .i64 x0)),(2,.v (.bool x1)),(5,.p 0 0),(8,.p 1 0),(9,.p 2 0),(11,.v (.bool (z3 x2 x3 x4 x5 x6 x7 x8 x9 x0 x10 x11 x12 x13 x14))),(46,.v (.bool false))]:Env)
abbrev z62 (x0) (x1) (x2) (x3) (x4) (x5):=([(54,.v (.slice x0 x1 x2)),(56,.v (.slice x3 x4 x5))]:Env)
abbrev z64 (x0) (x1) (x2) (x3) (x4) (x5):=([.slice x0 x1 x2,.slice x3 ((qaI x4).length) x5]:List Value)
theorem qh1 {v:Int} {flex:Bool} {T:List Fld → Tree → Tree → Prop} (hT:ToOK v flex T) (cf:List Value) (f:Fld) (ct:List Value) (t:Tree) (cg:List Value) (g:Tree) (w:World) (F:Nat → Nat → Prop) (hf:FldR w F cf f) (hpl:plains f.sub) (bt:f.kind ≠ 11) (ht:TreeR w F ct t) (hg:TreeR w F cg g) (hq:ToF0 T v f t g) :
  Calls Tryz.prog 36 #[.agg cf.toArray,.int .i64 v,.bool flex,.agg ct.toArray,.agg cg.toArray] w (qcu w (.bool true)):=by
 obtain ⟨k1,y2,y3,y4,y5,y6,y7,l8,A9,dT,d5,rfl,rfl,iI,i7⟩:=hf.open_
 have ja:=iI.small
 obtain ⟨ac,ab,ae,af,ag,ai,aj,dU,dV,dW,dX,kJ,rfl,rfl,aH,kK,oP,oQ⟩:=ht.open_
 have jb:=aH.small
 have jc:=kK.small
 obtain ⟨aN,ah,ap,dY,dZ,al,am,d6,d7,d8,d9,kL,rfl,rfl,bq,kM,oR,oS⟩:=hg.open_
 have jd:=bq.small
 have je:=kM.small
 replace hpl:plains l8:=hpl
 have bt:k1 ≠ 11:=bt
 refine enter (n:=124) Tryz.func36 rfl Tryz.ntmps36 kz fun a hE=>?_
 have hW:=WOk.start w Nil
 refine qae [0,1,2,3] kz ?_
 refine qal (qbm hW hE (d:=5) (cs:=(z4 k1 y2 y3 y4 y5 y6 y7 A9 l8.length dT)) kz fun oT oU oV kN kO kP iJ iK=>?_)
 refine qal (qbm iJ iK (d:=8) (cs:=(z2 ac ai ab.length aj ae dU af.length dV dW ag.length dX)) kz fun oW oX oY kQ kR kS iL iM=>?_)
 refine qal (qbm iL iM (d:=9) (cs:=(z2 aN al ah.length am ap d6 dY.length d7 d8 dZ.length d9)) kz fun oZ o5 o6 kT kU kV cJ iN=>?_)
 refine qaj [3] [] [(1,.v (.int .i64 v)),(2,.v (.bool flex)),(5,.p 0 0),(8,.p 1 0),(9,.p 2 0)] cJ iN fun o7 iO=>?_
 refine qaf (qab ?_)
 refine qae [0,1,2,3,4] kz ?_
 refine qaj [0,1,2] [3,4] [(1,.v (.int .i64 v)),(2,.v (.bool flex)),(5,.p 0 0),(8,.p 1 0),(9,.p 2 0),(17,.v (.agg #[.int .i64 k1,.int .i64 y2,.int .i64 y3,.int .i64 y4,.int .i64 y5,.int .i64 y6,.int .i64 y7,.slice A9 l8.length dT])),(18,.v (.int .i64 v)),(19,.v (.agg #[.int .i64 ac,.slice ai ab.length aj,.bool ae,.slice dU af.length dV,.slice dW ag.length dX]))] cJ iO fun o8 iP=>?_
 refine qal (qak iP (f:=72) (vs:=[.agg #[.int .i64 k1,.int .i64 y2,.int .i64 y3,.int .i64 y4,.int .i64 y5,.int .i64 y6,.int .i64 y7,.slice A9 l8.length dT],.int .i64 v,.agg #[.int .i64 ac,.slice ai ab.length aj,.bool ae,.slice dU af.length dV,.slice dW ag.length dX]]) (d:=20) kz Tryz.call72 (qk3 k1 y2 y3 y4 y5 y6 y7 l8 _ _ v ac ab ae af ag _ _ _ _ _ _ _) ?_)
 rintro e_ o9 ⟨rfl,ea⟩
 refine ⟨_,rfl,fun pa iQ=>?_⟩
 have aa:=cJ.next_nil ea
 have kW:=cJ.frN ea
 refine qaj [4] [] [(1,.v (.int .i64 v)),(2,.v (.bool flex)),(5,.p 0 0),(8,.p 1 0),(9,.p 2 0),(11,.v (.bool (z3 k1 y2 y3 y4 y5 y6 y7 l8 v ac ab ae af ag)))] aa iQ fun pb iR=>?_
 refine qaf (qab ?_)
 refine qae [0,1,2,3,4,5,6,7,8,9] kz ?_
 refine qaj [0,1,2,3] [4,5,6,7,8,9] [(1,.v (.int .i64 v)),(2,.v (.bool flex)),(5,.p 0 0),(8,.p 1 0),(9,.p 2 0),(11,.v (.bool (z3 k1 y2 y3 y4 y5 y6 y7 l8 v ac ab ae af ag))),(24,.v (.bool (decide (y4 ≥ 0))))] aa iR fun pc eb=>?_
 refine (Bool.eq_false_or_eq_true (decide (y4 ≥ 0))).elim (fun bu=>?_) (fun bu=>?_)
 ·
  have kX:=of_decide_eq_true bu
  have iS:=eb
  rw [bu] at iS
  refine qaj [4,5,6,7,8,9] [] [(1,.v (.int .i64 v)),(2,.v (.bool flex)),(5,.p 0 0),(8,.p 1 0),(9,.p 2 0),(11,.v (.bool (z3 k1 y2 y3 y4 y5 y6 y7 l8 v ac ab ae af ag))),(12,.v (.bool (decide (v ≥ y4))))] aa iS fun pd iT=>?_
  refine qaf (qab ?_)
  refine wp_seq (qae [0,1,2,3,4,5,6,7,8,9,10,11,12,13,14,15,16] kz ?_)
  refine qaj [0,1,2,3] [4,5,6,7,8,9,10,11,12,13,14,15,16] [(1,.v (.int .i64 v)),(2,.v (.bool flex)),(5,.p 0 0),(8,.p 1 0),(9,.p 2 0),(11,.v (.bool (z3 k1 y2 y3 y4 y5 y6 y7 l8 v ac ab ae af ag))),(12,.v (.bool (decide (v ≥ y4)))),(33,.v (.bool (k1 == 8)))] aa iT fun pe cK=>?_
  refine (Bool.eq_false_or_eq_true (k1 == 8)).elim (fun ak=>?_) (fun ak=>?_)
  ·
   have jf:k1 = 8:=by simpa using ak
   have ec:=cK
   rw [ak] at ec
   refine qaj [4,5,6,7,8,9,10,11,12,13,14,15,16] [] [(1,.v (.int .i64 v)),(2,.v (.bool flex)),(5,.p 0 0),(8,.p 1 0),(9,.p 2 0),(11,.v (.bool (z3 k1 y2 y3 y4 y5 y6 y7 l8 v ac ab ae af ag))),(46,.v (.bool (!(ap == (z3 k1 y2 y3 y4 y5 y6 y7 l8 v ac ab ae af ag)))))] aa ec fun kY bw=>?_
   refine qaf (qab ?_)
   refine qaw bw (b:=!(ap == (z3 k1 y2 y3 y4 y5 y6 y7 l8 v ac ab ae af ag))) kz (fun bx=>?_) (fun bx=>?_)
   ·
    have jg:!(ap = (Fld.nul (Fld.mk k1 y2 y3 y4 y5 y6 y7 l8) v (Tree.mk ac ab ae af ag))):=by simpa using bx
    refine qar [(10,.v (.bool false))] aa bw fun kZ ee=>?_
    refine wp_ret (qat (qaM ee aa.cells (v:=.bool false) kz ?_))
    first
     | exact (qjI hq ‹_› ‹_›).elim
     | exact (qha hq ‹_› ‹_›).elim
     | exact (qgB hq ‹_› ‹_› ‹_›).elim
   have jh:!(ap ≠ (Fld.nul (Fld.mk k1 y2 y3 y4 y5 y6 y7 l8) v (Tree.mk ac ab ae af ag))):=by simpa using bx
   refine wp_skip (qab (wp_seq (qar (z19 v flex k1 y2 y3 y4 y5 y6 y7 l8 ac ab ae af ag) aa bw fun k5 bz=>?_)))
   refine qaw bz (b:=Fld.nul (Fld.mk k1 y2 y3 y4 y5 y6 y7 l8) v (Tree.mk ac ab ae af ag)) kz (fun ef=>?_) (fun ef=>?_)
   ·
    refine qar [(10,.v (.bool true))] aa bz fun k6 eg=>?_
    refine wp_ret (qat (qaM eg aa.cells (v:=.bool true) kz ?_))
    exact ⟨rfl,aa.step⟩
   refine wp_skip (qab (wp_seq (qar (z18 v flex k1) aa bz fun k7 eh=>?_)))
   refine wp_block (wp_seq (qar [(1,.v (.int .i64 v)),(2,.v (.bool flex)),(5,.p 0 0),(8,.p 1 0),(9,.p 2 0),(49,.v (.int .i64 k1)),(50,.v (.bool (k1 == 8)))] aa eh fun k8 bA=>?_))
   refine qa4 bA (b:=k1 == 8) kz (ak) ?_
   refine wp_skip (qab (qa4 bA (b:=k1 == 8) kz (ak) ?_))
   refine qaE 6 kz aa fun k9 ji aU ei=>?_
   refine qaD [0,1,2,3] (z62 al ah.length am ai ab.length aj) 3 (qaa (qac (qaa qad))) (fun _ h=>h.cells) ei bA fun la ej=>?_
   have iU:=qbh ab
   refine qan (i:=4) kz (qak ej (f:=40) (vs:=[.slice ai ab.length aj]) (d:=57) kz Tryz.call40 (qdD _ _ ab (aH.move aU.step nilM aU.imm).le _) ?_)
   rintro e_ lb ⟨rfl,cL⟩
   refine ⟨_,rfl,fun lc ek=>?_⟩
   have az:=aU.next_nil cL
   have cM:=aU.frN cL
   have em:=TT.ofW cM az
   refine ⟨fun _=>em,?_⟩
   refine qan (i:=5) kz (qak ek (f:=39) (vs:=(z64 al ah.length am ai ab aj)) (d:=58) kz Tryz.call39 (qeh _ _ _ _ ah (qaI ab) _ _ ((bq.move az.step nilM az.imm).move (Step.refl _ Nil) nilM allF) (((aH.take 32767).move az.step nilM az.imm).move (Step.refl _ Nil) nilM allF)) ?_)
   rintro e_ ld ⟨rfl,cN⟩
   refine ⟨_,rfl,fun lf eo=>?_⟩
   have aV:=az.next_nil cN
   have ep:=az.frN cN
   have eu:=TT.ofW (cM.trans ep) aV
   refine ⟨fun _=>eu,?_⟩
   refine qan (i:=6) kz (qbd [10] aV.cells eo (env':=[(10,.v (.bool (decide (ah = (qaI ab)))))]) kz fun lg ev=>?_)
   refine ⟨fun h=>absurd rfl h,?_⟩
   refine qaC kz ?_ _
   refine qab (wp_ret (qay (qat (qaM ev aV.cells (v:=.bool (decide (ah = (qaI ab)))) kz ?_))))
   refine ⟨congrArg (fun b_=>Ending.returned (Value.bool b_)) ?_,aV.step⟩
   first
    | exact qek hq ‹_› ‹_›
    | exact qel hq ‹_› ‹_›
    | exact to_u hq ‹_› ‹_›
    | exact to_m hq ‹_› ‹_› ‹_› ‹_› ‹_› ‹_›
  have jj:k1 ≠ 8:=by simpa using ak
  have ew:=cK.cast (env':=[(1,.v (.int .i64 v)),(2,.v (.bool flex)),(5,.p 0 0),(8,.p 1 0),(9,.p 2 0),(11,.v (.bool (Fld.nul (Fld.mk k1 y2 y3 y4 y5 y6 y7 l8) v (Tree.mk ac ab ae af ag)))),(12,.v (.bool (decide (v ≥ y4)))),(33,.v (.bool false))]) (by rw [ak])
  refine qaj [4,5,6,7,8] [9,10,11,12,13,14,15,16] [(1,.v (.int .i64 v)),(2,.v (.bool flex)),(5,.p 0 0),(8,.p 1 0),(9,.p 2 0),(11,.v (.bool (z3 k1 y2 y3 y4 y5 y6 y7 l8 v ac ab ae af ag))),(12,.v (.bool (decide (v ≥ y4)))),(38,.v (.bool (k1 == 10)))] aa ew fun lh cO=>?_
  refine (Bool.eq_false_or_eq_true (k1 == 10)).elim (fun ay=>?_) (fun ay=>?_)
  ·
   have jk:k1 = 10:=by simpa using ay
   have ey:=cO
   rw [ay] at ey
   refine qaj [9,10,11,12,13,14,15,16] [] [(1,.v (.int .i64 v)),(2,.v (.bool flex)),(5,.p 0 0),(8,.p 1 0),(9,.p 2 0),(11,.v (.bool (z3 k1 y2 y3 y4 y5 y6 y7 l8 v ac ab ae af ag))),(46,.v (.bool (!(ap == (z3 k1 y2 y3 y4 y5 y6 y7 l8 v ac ab ae af ag)))))] aa ey fun li bB=>?_
   refine qaf (qab ?_)
   refine qaw bB (b:=!(ap == (z3 k1 y2 y3 y4 y5 y6 y7 l8 v ac ab ae af ag))) kz (fun bC=>?_) (fun bC=>?_)
   ·
    have jl:!(ap = (Fld.nul (Fld.mk k1 y2 y3 y4 y5 y6 y7 l8) v (Tree.mk ac ab ae af ag))):=by simpa using bC
    refine qar [(10,.v (.bool false))] aa bB fun lj ez=>?_
    refine wp_ret (qat (qaM ez aa.cells (v:=.bool false) kz ?_))
    first
     | exact (qjI hq ‹_› ‹_›).elim
     | exact (qha hq ‹_› ‹_›).elim
     | exact (qgB hq ‹_› ‹_› ‹_›).elim
   have jm:!(ap ≠ (Fld.nul (Fld.mk k1 y2 y3 y4 y5 y6 y7 l8) v (Tree.mk ac ab ae af ag))):=by simpa using bC
   refine wp_skip (qab (wp_seq (qar (z19 v flex k1 y2 y3 y4 y5 y6 y7 l8 ac ab ae af ag) aa bB fun lm bD=>?_)))
   refine qaw bD (b:=Fld.nul (Fld.mk k1 y2 y3 y4 y5 y6 y7 l8) v (Tree.mk ac ab ae af ag)) kz (fun eB=>?_) (fun eB=>?_)
   ·
    refine qar [(10,.v (.bool true))] aa bD fun ln eC=>?_
    refine wp_ret (qat (qaM eC aa.cells (v:=.bool true) kz ?_))
    exact ⟨rfl,aa.step⟩
   refine wp_skip (qab (wp_seq (qar (z18 v flex k1) aa bD fun lp eD=>?_)))
   refine wp_block (wp_seq (qar [(1,.v (.int .i64 v)),(2,.v (.bool flex)),(5,.p 0 0),(8,.p 1 0),(9,.p 2 0),(49,.v (.int .i64 k1)),(50,.v (.bool (k1 == 8)))] aa eD fun lq cP=>?_))
   refine qam cP (b:=k1 == 8) kz (ak) ?_
   refine qaq [0,1] kz ?_
   refine qaj [0,1] [] [(1,.v (.int .i64 v)),(2,.v (.bool flex)),(5,.p 0 0),(8,.p 1 0),(9,.p 2 0),(49,.v (.int .i64 k1)),(50,.v (.bool (k1 == 9)))] aa cP fun lr bE=>?_
   refine qaf (qab ?_)
   refine qaw bE (b:=k1 == 9) kz (fun bF=>?_) (fun bF=>?_)
   ·
    have jn:k1 = 9:=by simpa using bF
    refine qaE 6 kz aa fun ls jo aW eE=>?_
    refine qaD [0,1,2,3] (z62 al ah.length am ai ab.length aj) 3 (qaa (qac (qaa qad))) (fun _ h=>h.cells) eE bE fun lu eF=>?_
    have iV:=qbh ab
    refine qan (i:=4) kz (qak eF (f:=40) (vs:=[.slice ai ab.length aj]) (d:=57) kz Tryz.call40 (qdD _ _ ab (aH.move aW.step nilM aW.imm).le _) ?_)
    rintro e_ lv ⟨rfl,cQ⟩
    refine ⟨_,rfl,fun lw eG=>?_⟩
    have aA:=aW.next_nil cQ
    have cR:=aW.frN cQ
    have eH:=TT.ofW cR aA
    refine ⟨fun _=>eH,?_⟩
    refine qan (i:=5) kz (qak eG (f:=39) (vs:=(z64 al ah.length am ai ab aj)) (d:=58) kz Tryz.call39 (qeh _ _ _ _ ah (qaI ab) _ _ ((bq.move aA.step nilM aA.imm).move (Step.refl _ Nil) nilM allF) (((aH.take 32767).move aA.step nilM aA.imm).move (Step.refl _ Nil) nilM allF)) ?_)
    rintro e_ lx ⟨rfl,cS⟩
    refine ⟨_,rfl,fun ly eI=>?_⟩
    have aX:=aA.next_nil cS
    have eJ:=aA.frN cS
    have eK:=TT.ofW (cR.trans eJ) aX
    refine ⟨fun _=>eK,?_⟩
    refine qan (i:=6) kz (qbd [10] aX.cells eI (env':=[(10,.v (.bool (decide (ah = (qaI ab)))))]) kz fun lz eL=>?_)
    refine ⟨fun h=>absurd rfl h,?_⟩
    refine qaC kz ?_ _
    refine qab (wp_ret (qay (qat (qaM eL aX.cells (v:=.bool (decide (ah = (qaI ab)))) kz ?_))))
    refine ⟨congrArg (fun b_=>Ending.returned (Value.bool b_)) ?_,aX.step⟩
    first
     | exact qek hq ‹_› ‹_›
     | exact qel hq ‹_› ‹_›
     | exact to_u hq ‹_› ‹_›
     | exact to_m hq ‹_› ‹_› ‹_› ‹_› ‹_› ‹_›
   have jp:k1 ≠ 9:=by simpa using bF
   refine qar [(1,.v (.int .i64 v)),(2,.v (.bool flex)),(5,.p 0 0),(8,.p 1 0),(9,.p 2 0),(49,.v (.int .i64 k1)),(59,.v (.bool (k1 == 7)))] aa bE fun lA bG=>?_
   refine qaw bG (b:=k1 == 7) kz (fun bH=>?_) (fun bH=>?_)
   ·
    have jq:k1 = 7:=by simpa using bH
    refine qae [0,1] kz ?_
    refine qal (qcJ aa bG (d:=61) (j:=16) (t:=22) (e:=5) (bytes:=1) (z:=.int .u8 0) kz kz kz kz (rfl) (rfl) (by omega) fun ar lB lC jr js jt aO eM=>?_)
    refine qaj [1] [] (z38 ar) aO eM fun lD eN=>?_
    refine qaf (qab ?_)
    refine qae [0,1,2,3] kz ?_
    refine qaj [0,1,2] [3] (z24 ar ai ab.length aj) aO eN fun lE eO=>?_
    refine qal (qcT aO eO (k:=0) (d:=65) (t:=22) (u:=22) (e:=5) (bytes:=1) (A:=(some ⟨ar,0,none⟩)) (As:=ai) (m:=ab.length) (cs:=aj) (m0:=16) (c:=16) (xs:=(List.replicate 16 (.int .u8 0))) (news:=bc ab) kz kz rfl (aH.move aO.step nilM aO.imm).src fun lF lG ju eP eQ=>?_)
    have eR:(⟨(some ⟨ar,0,none⟩),16,5,1,16,qbn (List.replicate 16 (.int .u8 0)) 0 ((bc ab).take (min ab.length 16))⟩:Rw) = brow (some ⟨ar,0,none⟩) 16 5 (qbs ab):=qdM _ _ _
    obtain ⟨aI,jv⟩:=eP.rowEq 0 [brow (some ⟨ar,0,none⟩) 16 5 (qbs ab)] eR
    have eS:=EnvOk.pick eQ (ks:=[9,13,62,64,65]) (env':=(z20 ar ai ab.length aj)) kz
    have eU:=eS.cast (env':=[(9,.p 2 0),(13,.v (.slice (some ⟨ar,0,none⟩) ((qbs ab).length) 16)),(62,.v (.slice (some ⟨ar,0,none⟩) ((qbs ab).length) 16)),(64,.v (.slice ai ab.length aj)),(65,.v (.int .i64 ((min ab.length 16:Nat):Int)))]) (by rw [qbi _])
    refine qaf (qab ?_)
    refine qae [0,1,2,3,4] kz ?_
    refine qaj [0,1,2] [3,4] (z41 al ah.length am ar ab) aI eU fun lH eV=>?_
    refine qal (qak eV (f:=39) (vs:=[.slice al ah.length am,.slice (some ⟨ar,0,none⟩) ((qbs ab).length) 16]) (d:=69) kz Tryz.call39 (qeh _ _ _ _ ah (qbs ab) _ _ ((bq.move aI.step nilM aI.imm).move (Step.refl _ Nil) nilM allF) (qcA (aI.own 0 _ rfl) (by first | omega | (rw [qbi]; decide) | (simp only [be_length]; exact Nat.le_trans (qbE _) (by decide)) | (have:=hroom; omega) | (have:=hmade; omega) | (simp only [List.length_append,List.length_nil]; omega)) (F:=fun _ _=>True) (fun _ _ _=>trivial))) ?_)
    rintro e_ lI ⟨rfl,cT⟩
    refine ⟨_,rfl,fun lJ eW=>?_⟩
    have bI:=aI.next_nil cT
    have jw:=aI.frN cT
    refine qaj [4] [] [(10,.v (.bool (decide (ah = qbs ab))))] bI eW fun lK eX=>?_
    refine qaf (qab ?_)
    refine wp_ret (qay (qat (qaM eX bI.cells (v:=.bool (decide (ah = qbs ab))) kz ?_)))
    refine ⟨congrArg (fun b_=>Ending.returned (Value.bool b_)) ?_,bI.step⟩
    first
     | exact qek hq ‹_› ‹_›
     | exact qel hq ‹_› ‹_›
     | exact to_u hq ‹_› ‹_›
     | exact to_m hq ‹_› ‹_› ‹_› ‹_› ‹_› ‹_›
   have jx:k1 ≠ 7:=by simpa using bH
   refine qar [(1,.v (.int .i64 v)),(2,.v (.bool flex)),(5,.p 0 0),(8,.p 1 0),(9,.p 2 0),(49,.v (.int .i64 k1)),(70,.v (.bool (k1 == 10)))] aa bG fun lL cU=>?_
   refine qa4 cU (b:=k1 == 10) kz (ay) ?_
   refine qae [0,1,2,3,4,5,6,7] kz ?_
   refine qaj [0,1,2,3,4,5] [6,7] [(73,.v (.slice A9 l8.length dT)),(74,.v (.int .i64 v)),(75,.v (.bool flex)),(76,.v (.agg #[.int .i64 ac,.slice ai ab.length aj,.bool ae,.slice dU af.length dV,.slice dW ag.length dX])),(77,.v (.agg #[.int .i64 aN,.slice al ah.length am,.bool ap,.slice d6 dY.length d7,.slice d8 dZ.length d9]))] aa cU fun lM eY=>?_
   refine qal (qak eY (f:=13) (vs:=[.slice A9 l8.length dT,.int .i64 v,.bool flex,.agg #[.int .i64 ac,.slice ai ab.length aj,.bool ae,.slice dU af.length dV,.slice dW ag.length dX],.agg #[.int .i64 aN,.slice al ah.length am,.bool ap,.slice d6 dY.length d7,.slice d8 dZ.length d9]]) (d:=78) kz Tryz.call13 ( hT _ _ l8 _ (Tree.mk ac ab ae af ag) _ (Tree.mk aN ah ap dY dZ) _ _ ⟨d5,(iI.move aa.step nilM aa.imm),(fun i_ x_ h_=>((i7 i_ x_ h_).move aa.step nilM aa.imm))⟩ (ht.move aa.step nilM aa.imm) (hg.move aa.step nilM aa.imm) hpl (qjJ hq ‹_› ‹_›)) ?_)
   rintro e_ lN ⟨rfl,cV⟩
   refine ⟨_,rfl,fun lO eZ=>?_⟩
   have bJ:=aa.next_nil cV
   have jy:=aa.frN cV
   refine qaj [7] [] [(10,.v (.bool true))] bJ eZ fun lP e9=>?_
   refine qaf (qab ?_)
   refine wp_ret (qay (qat (qaM e9 bJ.cells (v:=.bool true) kz ?_)))
   exact ⟨rfl,bJ.step⟩
  have jz:k1 ≠ 10:=by simpa using ay
  have fa:=cO.cast (env':=[(1,.v (.int .i64 v)),(2,.v (.bool flex)),(5,.p 0 0),(8,.p 1 0),(9,.p 2 0),(11,.v (.bool (Fld.nul (Fld.mk k1 y2 y3 y4 y5 y6 y7 l8) v (Tree.mk ac ab ae af ag)))),(12,.v (.bool (decide (v ≥ y4)))),(38,.v (.bool false))]) (by rw [ay])
  refine qaj [9,10,11] [12,13,14,15,16] [(1,.v (.int .i64 v)),(2,.v (.bool flex)),(5,.p 0 0),(8,.p 1 0),(9,.p 2 0),(11,.v (.bool (z3 k1 y2 y3 y4 y5 y6 y7 l8 v ac ab ae af ag))),(41,.v (.bool (decide (v ≥ y4))))] aa fa fun lQ cW=>?_
  refine (Bool.eq_false_or_eq_true (decide (v ≥ y4))).elim (fun aP=>?_) (fun aP=>?_)
  ·
   have jA:=of_decide_eq_true aP
   have fb:=cW
   rw [aP] at fb
   refine qaj [12,13,14,15,16] [] [(1,.v (.int .i64 v)),(2,.v (.bool flex)),(5,.p 0 0),(8,.p 1 0),(9,.p 2 0),(11,.v (.bool (z3 k1 y2 y3 y4 y5 y6 y7 l8 v ac ab ae af ag))),(46,.v (.bool (!(ap == (z3 k1 y2 y3 y4 y5 y6 y7 l8 v ac ab ae af ag)))))] aa fb fun lR bK=>?_
   refine qaf (qab ?_)
   refine qaw bK (b:=!(ap == (z3 k1 y2 y3 y4 y5 y6 y7 l8 v ac ab ae af ag))) kz (fun bL=>?_) (fun bL=>?_)
   ·
    have jB:!(ap = (Fld.nul (Fld.mk k1 y2 y3 y4 y5 y6 y7 l8) v (Tree.mk ac ab ae af ag))):=by simpa using bL
    refine qar [(10,.v (.bool false))] aa bK fun lS fe=>?_
    refine wp_ret (qat (qaM fe aa.cells (v:=.bool false) kz ?_))
    first
     | exact (qjI hq ‹_› ‹_›).elim
     | exact (qha hq ‹_› ‹_›).elim
     | exact (qgB hq ‹_› ‹_› ‹_›).elim
   have jC:!(ap ≠ (Fld.nul (Fld.mk k1 y2 y3 y4 y5 y6 y7 l8) v (Tree.mk ac ab ae af ag))):=by simpa using bL
   refine wp_skip (qab (wp_seq (qar (z19 v flex k1 y2 y3 y4 y5 y6 y7 l8 ac ab ae af ag) aa bK fun lT bM=>?_)))
   refine qaw bM (b:=Fld.nul (Fld.mk k1 y2 y3 y4 y5 y6 y7 l8) v (Tree.mk ac ab ae af ag)) kz (fun ff=>?_) (fun ff=>?_)
   ·
    refine qar [(10,.v (.bool true))] aa bM fun lU fg=>?_
    refine wp_ret (qat (qaM fg aa.cells (v:=.bool true) kz ?_))
    exact ⟨rfl,aa.step⟩
   refine wp_skip (qab (wp_seq (qar (z18 v flex k1) aa bM fun lV fh=>?_)))
   refine wp_block (wp_seq (qar [(1,.v (.int .i64 v)),(2,.v (.bool flex)),(5,.p 0 0),(8,.p 1 0),(9,.p 2 0),(49,.v (.int .i64 k1)),(50,.v (.bool (k1 == 8)))] aa fh fun lW cX=>?_))
   refine qam cX (b:=k1 == 8) kz (ak) ?_
   refine qaq [0,1] kz ?_
   refine qaj [0,1] [] [(1,.v (.int .i64 v)),(2,.v (.bool flex)),(5,.p 0 0),(8,.p 1 0),(9,.p 2 0),(49,.v (.int .i64 k1)),(50,.v (.bool (k1 == 9)))] aa cX fun lX bN=>?_
   refine qaf (qab ?_)
   refine qaw bN (b:=k1 == 9) kz (fun bO=>?_) (fun bO=>?_)
   ·
    have jD:k1 = 9:=by simpa using bO
    refine qaE 6 kz aa fun lY jE aY fi=>?_
    refine qaD [0,1,2,3] (z62 al ah.length am ai ab.length aj) 3 (qaa (qac (qaa qad))) (fun _ h=>h.cells) fi bN fun lZ fj=>?_
    have iW:=qbh ab
    refine qan (i:=4) kz (qak fj (f:=40) (vs:=[.slice ai ab.length aj]) (d:=57) kz Tryz.call40 (qdD _ _ ab (aH.move aY.step nilM aY.imm).le _) ?_)
    rintro e_ l0 ⟨rfl,cY⟩
    refine ⟨_,rfl,fun l3 fk=>?_⟩
    have aB:=aY.next_nil cY
    have cZ:=aY.frN cY
    have fm:=TT.ofW cZ aB
    refine ⟨fun _=>fm,?_⟩
    refine qan (i:=5) kz (qak fk (f:=39) (vs:=(z64 al ah.length am ai ab aj)) (d:=58) kz Tryz.call39 (qeh _ _ _ _ ah (qaI ab) _ _ ((bq.move aB.step nilM aB.imm).move (Step.refl _ Nil) nilM allF) (((aH.take 32767).move aB.step nilM aB.imm).move (Step.refl _ Nil) nilM allF)) ?_)
    rintro e_ l5 ⟨rfl,c5⟩
    refine ⟨_,rfl,fun l6 fo=>?_⟩
    have aZ:=aB.next_nil c5
    have fq:=aB.frN c5
    have fr:=TT.ofW (cZ.trans fq) aZ
    refine ⟨fun _=>fr,?_⟩
    refine qan (i:=6) kz (qbd [10] aZ.cells fo (env':=[(10,.v (.bool (decide (ah = (qaI ab)))))]) kz fun l7 ft=>?_)
    refine ⟨fun h=>absurd rfl h,?_⟩
    refine qaC kz ?_ _
    refine qab (wp_ret (qay (qat (qaM ft aZ.cells (v:=.bool (decide (ah = (qaI ab)))) kz ?_))))
    refine ⟨congrArg (fun b_=>Ending.returned (Value.bool b_)) ?_,aZ.step⟩
    first
     | exact qek hq ‹_› ‹_›
     | exact qel hq ‹_› ‹_›
     | exact to_u hq ‹_› ‹_›
     | exact to_m hq ‹_› ‹_› ‹_› ‹_› ‹_› ‹_›
   have jF:k1 ≠ 9:=by simpa using bO
   refine qar [(1,.v (.int .i64 v)),(2,.v (.bool flex)),(5,.p 0 0),(8,.p 1 0),(9,.p 2 0),(49,.v (.int .i64 k1)),(59,.v (.bool (k1 == 7)))] aa bN fun l9 bP=>?_
   refine qaw bP (b:=k1 == 7) kz (fun bQ=>?_) (fun bQ=>?_)
   ·
    have jG:k1 = 7:=by simpa using bQ
    refine qae [0,1] kz ?_
    refine qal (qcJ aa bP (d:=61) (j:=16) (t:=22) (e:=5) (bytes:=1) (z:=.int .u8 0) kz kz kz kz (rfl) (rfl) (by omega) fun au ma mc jH jI jJ aQ fu=>?_)
    refine qaj [1] [] (z38 au) aQ fu fun md fv=>?_
    refine qaf (qab ?_)
    refine qae [0,1,2,3] kz ?_
    refine qaj [0,1,2] [3] (z24 au ai ab.length aj) aQ fv fun me fw=>?_
    refine qal (qcT aQ fw (k:=0) (d:=65) (t:=22) (u:=22) (e:=5) (bytes:=1) (A:=(some ⟨au,0,none⟩)) (As:=ai) (m:=ab.length) (cs:=aj) (m0:=16) (c:=16) (xs:=(List.replicate 16 (.int .u8 0))) (news:=bc ab) kz kz rfl (aH.move aQ.step nilM aQ.imm).src fun mf mg jK fx fy=>?_)
    have fz:(⟨(some ⟨au,0,none⟩),16,5,1,16,qbn (List.replicate 16 (.int .u8 0)) 0 ((bc ab).take (min ab.length 16))⟩:Rw) = brow (some ⟨au,0,none⟩) 16 5 (qbs ab):=qdM _ _ _
    obtain ⟨aJ,jL⟩:=fx.rowEq 0 [brow (some ⟨au,0,none⟩) 16 5 (qbs ab)] fz
    have fA:=EnvOk.pick fy (ks:=[9,13,62,64,65]) (env':=(z20 au ai ab.length aj)) kz
    have fB:=fA.cast (env':=[(9,.p 2 0),(13,.v (.slice (some ⟨au,0,none⟩) ((qbs ab).length) 16)),(62,.v (.slice (some ⟨au,0,none⟩) ((qbs ab).length) 16)),(64,.v (.slice ai ab.length aj)),(65,.v (.int .i64 ((min ab.length 16:Nat):Int)))]) (by rw [qbi _])
    refine qaf (qab ?_)
    refine qae [0,1,2,3,4] kz ?_
    refine qaj [0,1,2] [3,4] (z41 al ah.length am au ab) aJ fB fun mh fC=>?_
    refine qal (qak fC (f:=39) (vs:=[.slice al ah.length am,.slice (some ⟨au,0,none⟩) ((qbs ab).length) 16]) (d:=69) kz Tryz.call39 (qeh _ _ _ _ ah (qbs ab) _ _ ((bq.move aJ.step nilM aJ.imm).move (Step.refl _ Nil) nilM allF) (qcA (aJ.own 0 _ rfl) (by first | omega | (rw [qbi]; decide) | (simp only [be_length]; exact Nat.le_trans (qbE _) (by decide)) | (have:=hroom; omega) | (have:=hmade; omega) | (simp only [List.length_append,List.length_nil]; omega)) (F:=fun _ _=>True) (fun _ _ _=>trivial))) ?_)
    rintro e_ mi ⟨rfl,c6⟩
    refine ⟨_,rfl,fun mj fD=>?_⟩
    have bR:=aJ.next_nil c6
    have jM:=aJ.frN c6
    refine qaj [4] [] [(10,.v (.bool (decide (ah = qbs ab))))] bR fD fun ml fE=>?_
    refine qaf (qab ?_)
    refine wp_ret (qay (qat (qaM fE bR.cells (v:=.bool (decide (ah = qbs ab))) kz ?_)))
    refine ⟨congrArg (fun b_=>Ending.returned (Value.bool b_)) ?_,bR.step⟩
    first
     | exact qek hq ‹_› ‹_›
     | exact qel hq ‹_› ‹_›
     | exact to_u hq ‹_› ‹_›
     | exact to_m hq ‹_› ‹_› ‹_› ‹_› ‹_› ‹_›
   have jN:k1 ≠ 7:=by simpa using bQ
   refine qar [(1,.v (.int .i64 v)),(2,.v (.bool flex)),(5,.p 0 0),(8,.p 1 0),(9,.p 2 0),(49,.v (.int .i64 k1)),(70,.v (.bool (k1 == 10)))] aa bP fun mn da=>?_
   refine qam da (b:=k1 == 10) kz (ay) ?_
   refine qar [(1,.v (.int .i64 v)),(2,.v (.bool flex)),(5,.p 0 0),(8,.p 1 0),(9,.p 2 0),(79,.v (.bool (k1 == 11)))] aa da fun mo db=>?_
   refine qam db (b:=k1 == 11) kz (by simpa using bt) ?_
   refine wp_skip (qas (qab (qaE 8 kz aa fun mp jO dc fF=>?_)))
   refine qaD [0,1,2,3,4,5] [(117,.v (.int .i64 aN)),(119,.v (.int .i64 k1)),(121,.v (.int .i64 ac))] 3 (qaa qad) (fun _ h=>h.cells) fF db fun mq fG=>?_
   refine qan (i:=6) kz (qak fG (f:=74) (vs:=[.int .i64 k1,.int .i64 ac]) (d:=122) kz Tryz.call74 (qgD k1 ac _) ?_)
   rintro e_ mr ⟨rfl,de⟩
   refine ⟨_,rfl,fun mt fH=>?_⟩
   have ba:=dc.next_nil de
   have fI:=dc.frN de
   have df:=TT.ofW fI ba
   refine ⟨fun _=>df,?_⟩
   refine qaD [7] [(123,.v (.bool (aN == (qbv k1 ac))))] 1 (qaa qad) (fun _ h=>h.cells) df fH fun mu fJ=>?_
   refine qan (i:=8) kz (qbd [10] ba.cells fJ (env':=[(10,.v (.bool (aN == (qbv k1 ac))))]) kz fun mw fK=>?_)
   refine ⟨fun h=>absurd rfl h,?_⟩
   refine qaC kz ?_ _
   refine qab (wp_ret (qaM fK ba.cells (v:=.bool (aN == (qbv k1 ac))) kz ?_))
   refine ⟨congrArg (fun b_=>Ending.returned (Value.bool b_)) ?_,ba.step⟩
   first
    | exact qek hq ‹_› ‹_›
    | exact qel hq ‹_› ‹_›
    | exact to_u hq ‹_› ‹_›
    | exact to_m hq ‹_› ‹_› ‹_› ‹_› ‹_› ‹_›
  have jP:=of_decide_eq_false aP
  have fL:=cW.cast (env':=[(1,.v (.int .i64 v)),(2,.v (.bool flex)),(5,.p 0 0),(8,.p 1 0),(9,.p 2 0),(11,.v (.bool (Fld.nul (Fld.mk k1 y2 y3 y4 y5 y6 y7 l8) v (Tree.mk ac ab ae af ag)))),(41,.v (.bool false))]) (by rw [aP])
  refine qaj [12,13,14,15,16] [] (z49 v flex k1 y2 y3 y4 y5 y6 y7 l8 ac ab ae af ag) aa fL fun mx dg=>?_
  refine qaf (qab ?_)
  refine qam dg (b:=false) kz rfl ?_
  refine wp_skip (qab (wp_seq (qar (z19 v flex k1 y2 y3 y4 y5 y6 y7 l8 ac ab ae af ag) aa dg fun my bS=>?_)))
  refine qaw bS (b:=Fld.nul (Fld.mk k1 y2 y3 y4 y5 y6 y7 l8) v (Tree.mk ac ab ae af ag)) kz (fun fM=>?_) (fun fM=>?_)
  ·
   refine qar [(10,.v (.bool true))] aa bS fun mz fN=>?_
   refine wp_ret (qat (qaM fN aa.cells (v:=.bool true) kz ?_))
   exact ⟨rfl,aa.step⟩
  refine wp_skip (qab (wp_seq (qar (z18 v flex k1) aa bS fun mA fO=>?_)))
  refine wp_block (wp_seq (qar [(1,.v (.int .i64 v)),(2,.v (.bool flex)),(5,.p 0 0),(8,.p 1 0),(9,.p 2 0),(49,.v (.int .i64 k1)),(50,.v (.bool (k1 == 8)))] aa fO fun mB dh=>?_))
  refine qam dh (b:=k1 == 8) kz (ak) ?_
  refine qaq [0,1] kz ?_
  refine qaj [0,1] [] [(1,.v (.int .i64 v)),(2,.v (.bool flex)),(5,.p 0 0),(8,.p 1 0),(9,.p 2 0),(49,.v (.int .i64 k1)),(50,.v (.bool (k1 == 9)))] aa dh fun mC bT=>?_
  refine qaf (qab ?_)
  refine qaw bT (b:=k1 == 9) kz (fun bU=>?_) (fun bU=>?_)
  ·
   have jQ:k1 = 9:=by simpa using bU
   refine qaE 6 kz aa fun mD jR bd fP=>?_
   refine qaD [0,1,2,3] (z62 al ah.length am ai ab.length aj) 3 (qaa (qac (qaa qad))) (fun _ h=>h.cells) fP bT fun mF fQ=>?_
   have iX:=qbh ab
   refine qan (i:=4) kz (qak fQ (f:=40) (vs:=[.slice ai ab.length aj]) (d:=57) kz Tryz.call40 (qdD _ _ ab (aH.move bd.step nilM bd.imm).le _) ?_)
   rintro e_ mG ⟨rfl,di⟩
   refine ⟨_,rfl,fun mH fR=>?_⟩
   have aC:=bd.next_nil di
   have dj:=bd.frN di
   have fS:=TT.ofW dj aC
   refine ⟨fun _=>fS,?_⟩
   refine qan (i:=5) kz (qak fR (f:=39) (vs:=(z64 al ah.length am ai ab aj)) (d:=58) kz Tryz.call39 (qeh _ _ _ _ ah (qaI ab) _ _ ((bq.move aC.step nilM aC.imm).move (Step.refl _ Nil) nilM allF) (((aH.take 32767).move aC.step nilM aC.imm).move (Step.refl _ Nil) nilM allF)) ?_)
   rintro e_ mI ⟨rfl,dl⟩
   refine ⟨_,rfl,fun mJ fT=>?_⟩
   have bf:=aC.next_nil dl
   have fU:=aC.frN dl
   have fV:=TT.ofW (dj.trans fU) bf
   refine ⟨fun _=>fV,?_⟩
   refine qan (i:=6) kz (qbd [10] bf.cells fT (env':=[(10,.v (.bool (decide (ah = (qaI ab)))))]) kz fun mK fW=>?_)
   refine ⟨fun h=>absurd rfl h,?_⟩
   refine qaC kz ?_ _
   refine qab (wp_ret (qay (qat (qaM fW bf.cells (v:=.bool (decide (ah = (qaI ab)))) kz ?_))))
   refine ⟨congrArg (fun b_=>Ending.returned (Value.bool b_)) ?_,bf.step⟩
   first
    | exact qek hq ‹_› ‹_›
    | exact qel hq ‹_› ‹_›
    | exact to_u hq ‹_› ‹_›
    | exact to_m hq ‹_› ‹_› ‹_› ‹_› ‹_› ‹_›
  have jS:k1 ≠ 9:=by simpa using bU
  refine qar [(1,.v (.int .i64 v)),(2,.v (.bool flex)),(5,.p 0 0),(8,.p 1 0),(9,.p 2 0),(49,.v (.int .i64 k1)),(59,.v (.bool (k1 == 7)))] aa bT fun mL bV=>?_
  refine qaw bV (b:=k1 == 7) kz (fun bW=>?_) (fun bW=>?_)
  ·
   have jT:k1 = 7:=by simpa using bW
   refine qae [0,1] kz ?_
   refine qal (qcJ aa bV (d:=61) (j:=16) (t:=22) (e:=5) (bytes:=1) (z:=.int .u8 0) kz kz kz kz (rfl) (rfl) (by omega) fun av mM mN jU jV jW aR fX=>?_)
   refine qaj [1] [] (z38 av) aR fX fun mO fY=>?_
   refine qaf (qab ?_)
   refine qae [0,1,2,3] kz ?_
   refine qaj [0,1,2] [3] (z24 av ai ab.length aj) aR fY fun mQ fZ=>?_
   refine qal (qcT aR fZ (k:=0) (d:=65) (t:=22) (u:=22) (e:=5) (bytes:=1) (A:=(some ⟨av,0,none⟩)) (As:=ai) (m:=ab.length) (cs:=aj) (m0:=16) (c:=16) (xs:=(List.replicate 16 (.int .u8 0))) (news:=bc ab) kz kz rfl (aH.move aR.step nilM aR.imm).src fun mR mS jX f5 f7=>?_)
   have f8:(⟨(some ⟨av,0,none⟩),16,5,1,16,qbn (List.replicate 16 (.int .u8 0)) 0 ((bc ab).take (min ab.length 16))⟩:Rw) = brow (some ⟨av,0,none⟩) 16 5 (qbs ab):=qdM _ _ _
   obtain ⟨aK,jY⟩:=f5.rowEq 0 [brow (some ⟨av,0,none⟩) 16 5 (qbs ab)] f8
   have f9:=EnvOk.pick f7 (ks:=[9,13,62,64,65]) (env':=(z20 av ai ab.length aj)) kz
   have ga:=f9.cast (env':=[(9,.p 2 0),(13,.v (.slice (some ⟨av,0,none⟩) ((qbs ab).length) 16)),(62,.v (.slice (some ⟨av,0,none⟩) ((qbs ab).length) 16)),(64,.v (.slice ai ab.length aj)),(65,.v (.int .i64 ((min ab.length 16:Nat):Int)))]) (by rw [qbi _])
   refine qaf (qab ?_)
   refine qae [0,1,2,3,4] kz ?_
   refine qaj [0,1,2] [3,4] (z41 al ah.length am av ab) aK ga fun mT gb=>?_
   refine qal (qak gb (f:=39) (vs:=[.slice al ah.length am,.slice (some ⟨av,0,none⟩) ((qbs ab).length) 16]) (d:=69) kz Tryz.call39 (qeh _ _ _ _ ah (qbs ab) _ _ ((bq.move aK.step nilM aK.imm).move (Step.refl _ Nil) nilM allF) (qcA (aK.own 0 _ rfl) (by first | omega | (rw [qbi]; decide) | (simp only [be_length]; exact Nat.le_trans (qbE _) (by decide)) | (have:=hroom; omega) | (have:=hmade; omega) | (simp only [List.length_append,List.length_nil]; omega)) (F:=fun _ _=>True) (fun _ _ _=>trivial))) ?_)
   rintro e_ mU ⟨rfl,dp⟩
   refine ⟨_,rfl,fun mV gc=>?_⟩
   have bX:=aK.next_nil dp
   have jZ:=aK.frN dp
   refine qaj [4] [] [(10,.v (.bool (decide (ah = qbs ab))))] bX gc fun mW gd=>?_
   refine qaf (qab ?_)
   refine wp_ret (qay (qat (qaM gd bX.cells (v:=.bool (decide (ah = qbs ab))) kz ?_)))
   refine ⟨congrArg (fun b_=>Ending.returned (Value.bool b_)) ?_,bX.step⟩
   first
    | exact qek hq ‹_› ‹_›
    | exact qel hq ‹_› ‹_›
    | exact to_u hq ‹_› ‹_›
    | exact to_m hq ‹_› ‹_› ‹_› ‹_› ‹_› ‹_›
  have j0:k1 ≠ 7:=by simpa using bW
  refine qar [(1,.v (.int .i64 v)),(2,.v (.bool flex)),(5,.p 0 0),(8,.p 1 0),(9,.p 2 0),(49,.v (.int .i64 k1)),(70,.v (.bool (k1 == 10)))] aa bV fun mX dq=>?_
  refine qam dq (b:=k1 == 10) kz (ay) ?_
  refine qar [(1,.v (.int .i64 v)),(2,.v (.bool flex)),(5,.p 0 0),(8,.p 1 0),(9,.p 2 0),(79,.v (.bool (k1 == 11)))] aa dq fun mY dr=>?_
  refine qam dr (b:=k1 == 11) kz (by simpa using bt) ?_
  refine wp_skip (qas (qab (qaE 8 kz aa fun mZ j1 dt ge=>?_)))
  refine qaD [0,1,2,3,4,5] [(117,.v (.int .i64 aN)),(119,.v (.int .i64 k1)),(121,.v (.int .i64 ac))] 3 (qaa qad) (fun _ h=>h.cells) ge dr fun m4 gg=>?_
  refine qan (i:=6) kz (qak gg (f:=74) (vs:=[.int .i64 k1,.int .i64 ac]) (d:=122) kz Tryz.call74 (qgD k1 ac _) ?_)
  rintro e_ m5 ⟨rfl,du⟩
  refine ⟨_,rfl,fun m6 gh=>?_⟩
  have bg:=dt.next_nil du
  have gi:=dt.frN du
  have dv:=TT.ofW gi bg
  refine ⟨fun _=>dv,?_⟩
  refine qaD [7] [(123,.v (.bool (aN == (qbv k1 ac))))] 1 (qaa qad) (fun _ h=>h.cells) dv gh fun m7 gj=>?_
  refine qan (i:=8) kz (qbd [10] bg.cells gj (env':=[(10,.v (.bool (aN == (qbv k1 ac))))]) kz fun m8 gk=>?_)
  refine ⟨fun h=>absurd rfl h,?_⟩
  refine qaC kz ?_ _
  refine qab (wp_ret (qaM gk bg.cells (v:=.bool (aN == (qbv k1 ac))) kz ?_))
  refine ⟨congrArg (fun b_=>Ending.returned (Value.bool b_)) ?_,bg.step⟩
  first
   | exact qek hq ‹_› ‹_›
   | exact qel hq ‹_› ‹_›
   | exact to_u hq ‹_› ‹_›
   | exact to_m hq ‹_› ‹_› ‹_› ‹_› ‹_› ‹_›
 have j2:=of_decide_eq_false bu
 have gl:=eb.cast (env':=[(1,.v (.int .i64 v)),(2,.v (.bool flex)),(5,.p 0 0),(8,.p 1 0),(9,.p 2 0),(11,.v (.bool (Fld.nul (Fld.mk k1 y2 y3 y4 y5 y6 y7 l8) v (Tree.mk ac ab ae af ag)))),(24,.v (.bool false))]) (by rw [bu])
 refine qaj [4,5,6,7,8,9] [] [(1,.v (.int .i64 v)),(2,.v (.bool flex)),(5,.p 0 0),(8,.p 1 0),(9,.p 2 0),(11,.v (.bool (z3 k1 y2 y3 y4 y5 y6 y7 l8 v ac ab ae af ag))),(12,.v (.bool false))] aa gl fun m9 gm=>?_
 refine qaf (qab ?_)
 refine wp_seq (qae [0,1,2,3,4,5,6,7,8,9,10,11,12,13,14,15,16] kz ?_)
 refine qaj [0,1,2,3] [4,5,6,7,8,9,10,11,12,13,14,15,16] [(1,.v (.int .i64 v)),(2,.v (.bool flex)),(5,.p 0 0),(8,.p 1 0),(9,.p 2 0),(11,.v (.bool (z3 k1 y2 y3 y4 y5 y6 y7 l8 v ac ab ae af ag))),(12,.v (.bool false)),(33,.v (.bool (k1 == 8)))] aa gm fun nf dw=>?_
 refine (Bool.eq_false_or_eq_true (k1 == 8)).elim (fun ao=>?_) (fun ao=>?_)
 ·
  have j3:k1 = 8:=by simpa using ao
  have gn:=dw
  rw [ao] at gn
  refine qaj [4,5,6,7,8,9,10,11,12,13,14,15,16] [] [(1,.v (.int .i64 v)),(2,.v (.bool flex)),(5,.p 0 0),(8,.p 1 0),(9,.p 2 0),(11,.v (.bool (z3 k1 y2 y3 y4 y5 y6 y7 l8 v ac ab ae af ag))),(46,.v (.bool (!(ap == (z3 k1 y2 y3 y4 y5 y6 y7 l8 v ac ab ae af ag)))))] aa gn fun ng bY=>?_
  refine qaf (qab ?_)
  refine qaw bY (b:=!(ap == (z3 k1 y2 y3 y4 y5 y6 y7 l8 v ac ab ae af ag))) kz (fun bZ=>?_) (fun bZ=>?_)
  ·
   have j4:!(ap = (Fld.nul (Fld.mk k1 y2 y3 y4 y5 y6 y7 l8) v (Tree.mk ac ab ae af ag))):=by simpa using bZ
   refine qar [(10,.v (.bool false))] aa bY fun nh gp=>?_
   refine wp_ret (qat (qaM gp aa.cells (v:=.bool false) kz ?_))
   first
    | exact (qjI hq ‹_› ‹_›).elim
    | exact (qha hq ‹_› ‹_›).elim
    | exact (qgB hq ‹_› ‹_› ‹_›).elim
  have j5:!(ap ≠ (Fld.nul (Fld.mk k1 y2 y3 y4 y5 y6 y7 l8) v (Tree.mk ac ab ae af ag))):=by simpa using bZ
  refine wp_skip (qab (wp_seq (qar (z19 v flex k1 y2 y3 y4 y5 y6 y7 l8 ac ab ae af ag) aa bY fun ni b8=>?_)))
  refine qaw b8 (b:=Fld.nul (Fld.mk k1 y2 y3 y4 y5 y6 y7 l8) v (Tree.mk ac ab ae af ag)) kz (fun gq=>?_) (fun gq=>?_)
  ·
   refine qar [(10,.v (.bool true))] aa b8 fun nj gt=>?_
   refine wp_ret (qat (qaM gt aa.cells (v:=.bool true) kz ?_))
   exact ⟨rfl,aa.step⟩
  refine wp_skip (qab (wp_seq (qar (z18 v flex k1) aa b8 fun nk gv=>?_)))
  refine wp_block (wp_seq (qar [(1,.v (.int .i64 v)),(2,.v (.bool flex)),(5,.p 0 0),(8,.p 1 0),(9,.p 2 0),(49,.v (.int .i64 k1)),(50,.v (.bool (k1 == 8)))] aa gv fun nl cd=>?_))
  refine qa4 cd (b:=k1 == 8) kz (ao) ?_
  refine wp_skip (qab (qa4 cd (b:=k1 == 8) kz (ao) ?_))
  refine qaE 6 kz aa fun nm j6 bh gw=>?_
  refine qaD [0,1,2,3] (z62 al ah.length am ai ab.length aj) 3 (qaa (qac (qaa qad))) (fun _ h=>h.cells) gw cd fun np gx=>?_
  have iY:=qbh ab
  refine qan (i:=4) kz (qak gx (f:=40) (vs:=[.slice ai ab.length aj]) (d:=57) kz Tryz.call40 (qdD _ _ ab (aH.move bh.step nilM bh.imm).le _) ?_)
  rintro e_ nr ⟨rfl,dx⟩
  refine ⟨_,rfl,fun ns gy=>?_⟩
  have aD:=bh.next_nil dx
  have dy:=bh.frN dx
  have gz:=TT.ofW dy aD
  refine ⟨fun _=>gz,?_⟩
  refine qan (i:=5) kz (qak gy (f:=39) (vs:=(z64 al ah.length am ai ab aj)) (d:=58) kz Tryz.call39 (qeh _ _ _ _ ah (qaI ab) _ _ ((bq.move aD.step nilM aD.imm).move (Step.refl _ Nil) nilM allF) (((aH.take 32767).move aD.step nilM aD.imm).move (Step.refl _ Nil) nilM allF)) ?_)
  rintro e_ nt ⟨rfl,dz⟩
  refine ⟨_,rfl,fun nu gA=>?_⟩
  have bi:=aD.next_nil dz
  have gB:=aD.frN dz
  have gC:=TT.ofW (dy.trans gB) bi
  refine ⟨fun _=>gC,?_⟩
  refine qan (i:=6) kz (qbd [10] bi.cells gA (env':=[(10,.v (.bool (decide (ah = (qaI ab)))))]) kz fun nv gD=>?_)
  refine ⟨fun h=>absurd rfl h,?_⟩
  refine qaC kz ?_ _
  refine qab (wp_ret (qay (qat (qaM gD bi.cells (v:=.bool (decide (ah = (qaI ab)))) kz ?_))))
  refine ⟨congrArg (fun b_=>Ending.returned (Value.bool b_)) ?_,bi.step⟩
  first
   | exact qek hq ‹_› ‹_›
   | exact qel hq ‹_› ‹_›
   | exact to_u hq ‹_› ‹_›
   | exact to_m hq ‹_› ‹_› ‹_› ‹_› ‹_› ‹_›
 have j7:k1 ≠ 8:=by simpa using ao
 have gE:=dw.cast (env':=[(1,.v (.int .i64 v)),(2,.v (.bool flex)),(5,.p 0 0),(8,.p 1 0),(9,.p 2 0),(11,.v (.bool (Fld.nul (Fld.mk k1 y2 y3 y4 y5 y6 y7 l8) v (Tree.mk ac ab ae af ag)))),(12,.v (.bool false)),(33,.v (.bool false))]) (by rw [ao])
 refine qaj [4,5,6,7,8] [9,10,11,12,13,14,15,16] [(1,.v (.int .i64 v)),(2,.v (.bool flex)),(5,.p 0 0),(8,.p 1 0),(9,.p 2 0),(11,.v (.bool (z3 k1 y2 y3 y4 y5 y6 y7 l8 v ac ab ae af ag))),(12,.v (.bool false)),(38,.v (.bool (k1 == 10)))] aa gE fun nw dA=>?_
 refine (Bool.eq_false_or_eq_true (k1 == 10)).elim (fun aE=>?_) (fun aE=>?_)
 ·
  have j8:k1 = 10:=by simpa using aE
  have gF:=dA
  rw [aE] at gF
  refine qaj [9,10,11,12,13,14,15,16] [] [(1,.v (.int .i64 v)),(2,.v (.bool flex)),(5,.p 0 0),(8,.p 1 0),(9,.p 2 0),(11,.v (.bool (z3 k1 y2 y3 y4 y5 y6 y7 l8 v ac ab ae af ag))),(46,.v (.bool (!(ap == (z3 k1 y2 y3 y4 y5 y6 y7 l8 v ac ab ae af ag)))))] aa gF fun nx ce=>?_
  refine qaf (qab ?_)
  refine qaw ce (b:=!(ap == (z3 k1 y2 y3 y4 y5 y6 y7 l8 v ac ab ae af ag))) kz (fun cm=>?_) (fun cm=>?_)
  ·
   have j9:!(ap = (Fld.nul (Fld.mk k1 y2 y3 y4 y5 y6 y7 l8) v (Tree.mk ac ab ae af ag))):=by simpa using cm
   refine qar [(10,.v (.bool false))] aa ce fun ny gG=>?_
   refine wp_ret (qat (qaM gG aa.cells (v:=.bool false) kz ?_))
   first
    | exact (qjI hq ‹_› ‹_›).elim
    | exact (qha hq ‹_› ‹_›).elim
    | exact (qgB hq ‹_› ‹_› ‹_›).elim
  have ka:!(ap ≠ (Fld.nul (Fld.mk k1 y2 y3 y4 y5 y6 y7 l8) v (Tree.mk ac ab ae af ag))):=by simpa using cm
  refine wp_skip (qab (wp_seq (qar (z19 v flex k1 y2 y3 y4 y5 y6 y7 l8 ac ab ae af ag) aa ce fun nz cq=>?_)))
  refine qaw cq (b:=Fld.nul (Fld.mk k1 y2 y3 y4 y5 y6 y7 l8) v (Tree.mk ac ab ae af ag)) kz (fun gH=>?_) (fun gH=>?_)
  ·
   refine qar [(10,.v (.bool true))] aa cq fun nA gI=>?_
   refine wp_ret (qat (qaM gI aa.cells (v:=.bool true) kz ?_))
   exact ⟨rfl,aa.step⟩
  refine wp_skip (qab (wp_seq (qar (z18 v flex k1) aa cq fun nB gJ=>?_)))
  refine wp_block (wp_seq (qar [(1,.v (.int .i64 v)),(2,.v (.bool flex)),(5,.p 0 0),(8,.p 1 0),(9,.p 2 0),(49,.v (.int .i64 k1)),(50,.v (.bool (k1 == 8)))] aa gJ fun nC dB=>?_))
  refine qam dB (b:=k1 == 8) kz (ao) ?_
  refine qaq [0,1] kz ?_
  refine qaj [0,1] [] [(1,.v (.int .i64 v)),(2,.v (.bool flex)),(5,.p 0 0),(8,.p 1 0),(9,.p 2 0),(49,.v (.int .i64 k1)),(50,.v (.bool (k1 == 9)))] aa dB fun nD cr=>?_
  refine qaf (qab ?_)
  refine qaw cr (b:=k1 == 9) kz (fun cu=>?_) (fun cu=>?_)
  ·
   have kd:k1 = 9:=by simpa using cu
   refine qaE 6 kz aa fun nE ke bj gK=>?_
   refine qaD [0,1,2,3] (z62 al ah.length am ai ab.length aj) 3 (qaa (qac (qaa qad))) (fun _ h=>h.cells) gK cr fun nF gL=>?_
   have iZ:=qbh ab
   refine qan (i:=4) kz (qak gL (f:=40) (vs:=[.slice ai ab.length aj]) (d:=57) kz Tryz.call40 (qdD _ _ ab (aH.move bj.step nilM bj.imm).le _) ?_)
   rintro e_ nG ⟨rfl,dC⟩
   refine ⟨_,rfl,fun nH gM=>?_⟩
   have aF:=bj.next_nil dC
   have dD:=bj.frN dC
   have gN:=TT.ofW dD aF
   refine ⟨fun _=>gN,?_⟩
   refine qan (i:=5) kz (qak gM (f:=39) (vs:=(z64 al ah.length am ai ab aj)) (d:=58) kz Tryz.call39 (qeh _ _ _ _ ah (qaI ab) _ _ ((bq.move aF.step nilM aF.imm).move (Step.refl _ Nil) nilM allF) (((aH.take 32767).move aF.step nilM aF.imm).move (Step.refl _ Nil) nilM allF)) ?_)
   rintro e_ nI ⟨rfl,dE⟩
   refine ⟨_,rfl,fun nJ gO=>?_⟩
   have bk:=aF.next_nil dE
   have gP:=aF.frN dE
   have gQ:=TT.ofW (dD.trans gP) bk
   refine ⟨fun _=>gQ,?_⟩
   refine qan (i:=6) kz (qbd [10] bk.cells gO (env':=[(10,.v (.bool (decide (ah = (qaI ab)))))]) kz fun nK gR=>?_)
   refine ⟨fun h=>absurd rfl h,?_⟩
   refine qaC kz ?_ _
   refine qab (wp_ret (qay (qat (qaM gR bk.cells (v:=.bool (decide (ah = (qaI ab)))) kz ?_))))
   refine ⟨congrArg (fun b_=>Ending.returned (Value.bool b_)) ?_,bk.step⟩
   first
    | exact qek hq ‹_› ‹_›
    | exact qel hq ‹_› ‹_›
    | exact to_u hq ‹_› ‹_›
    | exact to_m hq ‹_› ‹_› ‹_› ‹_› ‹_› ‹_›
  have kf:k1 ≠ 9:=by simpa using cu
  refine qar [(1,.v (.int .i64 v)),(2,.v (.bool flex)),(5,.p 0 0),(8,.p 1 0),(9,.p 2 0),(49,.v (.int .i64 k1)),(59,.v (.bool (k1 == 7)))] aa cr fun nL cw=>?_
  refine qaw cw (b:=k1 == 7) kz (fun cz=>?_) (fun cz=>?_)
  ·
   have kg:k1 = 7:=by simpa using cz
   refine qae [0,1] kz ?_
   refine qal (qcJ aa cw (d:=61) (j:=16) (t:=22) (e:=5) (bytes:=1) (z:=.int .u8 0) kz kz kz kz (rfl) (rfl) (by omega) fun aw nM nN kh ki kj aS gS=>?_)
   refine qaj [1] [] (z38 aw) aS gS fun nO gT=>?_
   refine qaf (qab ?_)
   refine qae [0,1,2,3] kz ?_
   refine qaj [0,1,2] [3] (z24 aw ai ab.length aj) aS gT fun nP gU=>?_
   refine qal (qcT aS gU (k:=0) (d:=65) (t:=22) (u:=22) (e:=5) (bytes:=1) (A:=(some ⟨aw,0,none⟩)) (As:=ai) (m:=ab.length) (cs:=aj) (m0:=16) (c:=16) (xs:=(List.replicate 16 (.int .u8 0))) (news:=bc ab) kz kz rfl (aH.move aS.step nilM aS.imm).src fun nQ nR km gV gW=>?_)
   have gX:(⟨(some ⟨aw,0,none⟩),16,5,1,16,qbn (List.replicate 16 (.int .u8 0)) 0 ((bc ab).take (min ab.length 16))⟩:Rw) = brow (some ⟨aw,0,none⟩) 16 5 (qbs ab):=qdM _ _ _
   obtain ⟨aL,ko⟩:=gV.rowEq 0 [brow (some ⟨aw,0,none⟩) 16 5 (qbs ab)] gX
   have gY:=EnvOk.pick gW (ks:=[9,13,62,64,65]) (env':=(z20 aw ai ab.length aj)) kz
   have gZ:=gY.cast (env':=[(9,.p 2 0),(13,.v (.slice (some ⟨aw,0,none⟩) ((qbs ab).length) 16)),(62,.v (.slice (some ⟨aw,0,none⟩) ((qbs ab).length) 16)),(64,.v (.slice ai ab.length aj)),(65,.v (.int .i64 ((min ab.length 16:Nat):Int)))]) (by rw [qbi _])
   refine qaf (qab ?_)
   refine qae [0,1,2,3,4] kz ?_
   refine qaj [0,1,2] [3,4] (z41 al ah.length am aw ab) aL gZ fun nS g6=>?_
   refine qal (qak g6 (f:=39) (vs:=[.slice al ah.length am,.slice (some ⟨aw,0,none⟩) ((qbs ab).length) 16]) (d:=69) kz Tryz.call39 (qeh _ _ _ _ ah (qbs ab) _ _ ((bq.move aL.step nilM aL.imm).move (Step.refl _ Nil) nilM allF) (qcA (aL.own 0 _ rfl) (by first | omega | (rw [qbi]; decide) | (simp only [be_length]; exact Nat.le_trans (qbE _) (by decide)) | (have:=hroom; omega) | (have:=hmade; omega) | (simp only [List.length_append,List.length_nil]; omega)) (F:=fun _ _=>True) (fun _ _ _=>trivial))) ?_)
   rintro e_ nT ⟨rfl,dF⟩
   refine ⟨_,rfl,fun nU g7=>?_⟩
   have cA:=aL.next_nil dF
   have kp:=aL.frN dF
   refine qaj [4] [] [(10,.v (.bool (decide (ah = qbs ab))))] cA g7 fun nV g8=>?_
   refine qaf (qab ?_)
   refine wp_ret (qay (qat (qaM g8 cA.cells (v:=.bool (decide (ah = qbs ab))) kz ?_)))
   refine ⟨congrArg (fun b_=>Ending.returned (Value.bool b_)) ?_,cA.step⟩
   first
    | exact qek hq ‹_› ‹_›
    | exact qel hq ‹_› ‹_›
    | exact to_u hq ‹_› ‹_›
    | exact to_m hq ‹_› ‹_› ‹_› ‹_› ‹_› ‹_›
  have kq:k1 ≠ 7:=by simpa using cz
  refine qar [(1,.v (.int .i64 v)),(2,.v (.bool flex)),(5,.p 0 0),(8,.p 1 0),(9,.p 2 0),(49,.v (.int .i64 k1)),(70,.v (.bool (k1 == 10)))] aa cw fun nW dG=>?_
  refine qa4 dG (b:=k1 == 10) kz (aE) ?_
  refine qae [0,1,2,3,4,5,6,7] kz ?_
  refine qaj [0,1,2,3,4,5] [6,7] [(73,.v (.slice A9 l8.length dT)),(74,.v (.int .i64 v)),(75,.v (.bool flex)),(76,.v (.agg #[.int .i64 ac,.slice ai ab.length aj,.bool ae,.slice dU af.length dV,.slice dW ag.length dX])),(77,.v (.agg #[.int .i64 aN,.slice al ah.length am,.bool ap,.slice d6 dY.length d7,.slice d8 dZ.length d9]))] aa dG fun nX g9=>?_
  refine qal (qak g9 (f:=13) (vs:=[.slice A9 l8.length dT,.int .i64 v,.bool flex,.agg #[.int .i64 ac,.slice ai ab.length aj,.bool ae,.slice dU af.length dV,.slice dW ag.length dX],.agg #[.int .i64 aN,.slice al ah.length am,.bool ap,.slice d6 dY.length d7,.slice d8 dZ.length d9]]) (d:=78) kz Tryz.call13 ( hT _ _ l8 _ (Tree.mk ac ab ae af ag) _ (Tree.mk aN ah ap dY dZ) _ _ ⟨d5,(iI.move aa.step nilM aa.imm),(fun i_ x_ h_=>((i7 i_ x_ h_).move aa.step nilM aa.imm))⟩ (ht.move aa.step nilM aa.imm) (hg.move aa.step nilM aa.imm) hpl (qjJ hq ‹_› ‹_›)) ?_)
  rintro e_ nY ⟨rfl,dH⟩
  refine ⟨_,rfl,fun nZ hC=>?_⟩
  have cB:=aa.next_nil dH
  have ku:=aa.frN dH
  refine qaj [7] [] [(10,.v (.bool true))] cB hC fun n4 hJ=>?_
  refine qaf (qab ?_)
  refine wp_ret (qay (qat (qaM hJ cB.cells (v:=.bool true) kz ?_)))
  exact ⟨rfl,cB.step⟩
 have kv:k1 ≠ 10:=by simpa using aE
 have hK:=dA.cast (env':=[(1,.v (.int .i64 v)),(2,.v (.bool flex)),(5,.p 0 0),(8,.p 1 0),(9,.p 2 0),(11,.v (.bool (Fld.nul (Fld.mk k1 y2 y3 y4 y5 y6 y7 l8) v (Tree.mk ac ab ae af ag)))),(12,.v (.bool false)),(38,.v (.bool false))]) (by rw [aE])
 refine qaj [9,10,11,12,13,14,15,16] [] (z49 v flex k1 y2 y3 y4 y5 y6 y7 l8 ac ab ae af ag) aa hK fun n5 dI=>?_
 refine qaf (qab ?_)
 refine qam dI (b:=false) kz rfl ?_
 refine wp_skip (qab (wp_seq (qar (z19 v flex k1 y2 y3 y4 y5 y6 y7 l8 ac ab ae af ag) aa dI fun n8 cC=>?_)))
 refine qaw cC (b:=Fld.nul (Fld.mk k1 y2 y3 y4 y5 y6 y7 l8) v (Tree.mk ac ab ae af ag)) kz (fun hZ=>?_) (fun hZ=>?_)
 ·
  refine qar [(10,.v (.bool true))] aa cC fun oa ia=>?_
  refine wp_ret (qat (qaM ia aa.cells (v:=.bool true) kz ?_))
  exact ⟨rfl,aa.step⟩
 refine wp_skip (qab (wp_seq (qar (z18 v flex k1) aa cC fun od ib=>?_)))
 refine wp_block (wp_seq (qar [(1,.v (.int .i64 v)),(2,.v (.bool flex)),(5,.p 0 0),(8,.p 1 0),(9,.p 2 0),(49,.v (.int .i64 k1)),(50,.v (.bool (k1 == 8)))] aa ib fun oe dJ=>?_))
 refine qam dJ (b:=k1 == 8) kz (ao) ?_
 refine qaq [0,1] kz ?_
 refine qaj [0,1] [] [(1,.v (.int .i64 v)),(2,.v (.bool flex)),(5,.p 0 0),(8,.p 1 0),(9,.p 2 0),(49,.v (.int .i64 k1)),(50,.v (.bool (k1 == 9)))] aa dJ fun og cD=>?_
 refine qaf (qab ?_)
 refine qaw cD (b:=k1 == 9) kz (fun cE=>?_) (fun cE=>?_)
 ·
  have kw:k1 = 9:=by simpa using cE
  refine qaE 6 kz aa fun oh kx bn ic=>?_
  refine qaD [0,1,2,3] (z62 al ah.length am ai ab.length aj) 3 (qaa (qac (qaa qad))) (fun _ h=>h.cells) ic cD fun ol ig=>?_
  have i6:=qbh ab
  refine qan (i:=4) kz (qak ig (f:=40) (vs:=[.slice ai ab.length aj]) (d:=57) kz Tryz.call40 (qdD _ _ ab (aH.move bn.step nilM bn.imm).le _) ?_)
  rintro e_ om ⟨rfl,dK⟩
  refine ⟨_,rfl,fun oq ii=>?_⟩
  have aG:=bn.next_nil dK
  have dL:=bn.frN dK
  have ij:=TT.ofW dL aG
  refine ⟨fun _=>ij,?_⟩
  refine qan (i:=5) kz (qak ii (f:=39) (vs:=(z64 al ah.length am ai ab aj)) (d:=58) kz Tryz.call39 (qeh _ _ _ _ ah (qaI ab) _ _ ((bq.move aG.step nilM aG.imm).move (Step.refl _ Nil) nilM allF) (((aH.take 32767).move aG.step nilM aG.imm).move (Step.refl _ Nil) nilM allF)) ?_)
  rintro e_ ot ⟨rfl,dM⟩
  refine ⟨_,rfl,fun ou ik=>?_⟩
  have bo:=aG.next_nil dM
  have il:=aG.frN dM
  have im:=TT.ofW (dL.trans il) bo
  refine ⟨fun _=>im,?_⟩
  refine qan (i:=6) kz (qbd [10] bo.cells ik (env':=[(10,.v (.bool (decide (ah = (qaI ab)))))]) kz fun ov io=>?_)
  refine ⟨fun h=>absurd rfl h,?_⟩
  refine qaC kz ?_ _
  refine qab (wp_ret (qay (qat (qaM io bo.cells (v:=.bool (decide (ah = (qaI ab)))) kz ?_))))
  refine ⟨congrArg (fun b_=>Ending.returned (Value.bool b_)) ?_,bo.step⟩
  first
   | exact qek hq ‹_› ‹_›
   | exact qel hq ‹_› ‹_›
   | exact to_u hq ‹_› ‹_›
   | exact to_m hq ‹_› ‹_› ‹_› ‹_› ‹_› ‹_›
 have ky:k1 ≠ 9:=by simpa using cE
 refine qar [(1,.v (.int .i64 v)),(2,.v (.bool flex)),(5,.p 0 0),(8,.p 1 0),(9,.p 2 0),(49,.v (.int .i64 k1)),(59,.v (.bool (k1 == 7)))] aa cD fun ow cG=>?_
 refine qaw cG (b:=k1 == 7) kz (fun cH=>?_) (fun cH=>?_)
 ·
  have kA:k1 = 7:=by simpa using cH
  refine qae [0,1] kz ?_
  refine qal (qcJ aa cG (d:=61) (j:=16) (t:=22) (e:=5) (bytes:=1) (z:=.int .u8 0) kz kz kz kz (rfl) (rfl) (by omega) fun ax ox oy kB kC kD aT ip=>?_)
  refine qaj [1] [] (z38 ax) aT ip fun oz iq=>?_
  refine qaf (qab ?_)
  refine qae [0,1,2,3] kz ?_
  refine qaj [0,1,2] [3] (z24 ax ai ab.length aj) aT iq fun oA ir=>?_
  refine qal (qcT aT ir (k:=0) (d:=65) (t:=22) (u:=22) (e:=5) (bytes:=1) (A:=(some ⟨ax,0,none⟩)) (As:=ai) (m:=ab.length) (cs:=aj) (m0:=16) (c:=16) (xs:=(List.replicate 16 (.int .u8 0))) (news:=bc ab) kz kz rfl (aH.move aT.step nilM aT.imm).src fun oB oC kE iu iv=>?_)
  have iw:(⟨(some ⟨ax,0,none⟩),16,5,1,16,qbn (List.replicate 16 (.int .u8 0)) 0 ((bc ab).take (min ab.length 16))⟩:Rw) = brow (some ⟨ax,0,none⟩) 16 5 (qbs ab):=qdM _ _ _
  obtain ⟨aM,kF⟩:=iu.rowEq 0 [brow (some ⟨ax,0,none⟩) 16 5 (qbs ab)] iw
  have ix:=EnvOk.pick iv (ks:=[9,13,62,64,65]) (env':=(z20 ax ai ab.length aj)) kz
  have iy:=ix.cast (env':=[(9,.p 2 0),(13,.v (.slice (some ⟨ax,0,none⟩) ((qbs ab).length) 16)),(62,.v (.slice (some ⟨ax,0,none⟩) ((qbs ab).length) 16)),(64,.v (.slice ai ab.length aj)),(65,.v (.int .i64 ((min ab.length 16:Nat):Int)))]) (by rw [qbi _])
  refine qaf (qab ?_)
  refine qae [0,1,2,3,4] kz ?_
  refine qaj [0,1,2] [3,4] (z41 al ah.length am ax ab) aM iy fun oD iz=>?_
  refine qal (qak iz (f:=39) (vs:=[.slice al ah.length am,.slice (some ⟨ax,0,none⟩) ((qbs ab).length) 16]) (d:=69) kz Tryz.call39 (qeh _ _ _ _ ah (qbs ab) _ _ ((bq.move aM.step nilM aM.imm).move (Step.refl _ Nil) nilM allF) (qcA (aM.own 0 _ rfl) (by first | omega | (rw [qbi]; decide) | (simp only [be_length]; exact Nat.le_trans (qbE _) (by decide)) | (have:=hroom; omega) | (have:=hmade; omega) | (simp only [List.length_append,List.length_nil]; omega)) (F:=fun _ _=>True) (fun _ _ _=>trivial))) ?_)
  rintro e_ oE ⟨rfl,dN⟩
  refine ⟨_,rfl,fun oF iA=>?_⟩
  have cI:=aM.next_nil dN
  have kG:=aM.frN dN
  refine qaj [4] [] [(10,.v (.bool (decide (ah = qbs ab))))] cI iA fun oG iB=>?_
  refine qaf (qab ?_)
  refine wp_ret (qay (qat (qaM iB cI.cells (v:=.bool (decide (ah = qbs ab))) kz ?_)))
  refine ⟨congrArg (fun b_=>Ending.returned (Value.bool b_)) ?_,cI.step⟩
  first
   | exact qek hq ‹_› ‹_›
   | exact qel hq ‹_› ‹_›
   | exact to_u hq ‹_› ‹_›
   | exact to_m hq ‹_› ‹_› ‹_› ‹_› ‹_› ‹_›
 have kH:k1 ≠ 7:=by simpa using cH
 refine qar [(1,.v (.int .i64 v)),(2,.v (.bool flex)),(5,.p 0 0),(8,.p 1 0),(9,.p 2 0),(49,.v (.int .i64 k1)),(70,.v (.bool (k1 == 10)))] aa cG fun oH dO=>?_
 refine qam dO (b:=k1 == 10) kz (aE) ?_
 refine qar [(1,.v (.int .i64 v)),(2,.v (.bool flex)),(5,.p 0 0),(8,.p 1 0),(9,.p 2 0),(79,.v (.bool (k1 == 11)))] aa dO fun oI dP=>?_
 refine qam dP (b:=k1 == 11) kz (by simpa using bt) ?_
 refine wp_skip (qas (qab (qaE 8 kz aa fun oJ kI dQ iC=>?_)))
 refine qaD [0,1,2,3,4,5] [(117,.v (.int .i64 aN)),(119,.v (.int .i64 k1)),(121,.v (.int .i64 ac))] 3 (qaa qad) (fun _ h=>h.cells) iC dP fun oK iD=>?_
 refine qan (i:=6) kz (qak iD (f:=74) (vs:=[.int .i64 k1,.int .i64 ac]) (d:=122) kz Tryz.call74 (qgD k1 ac _) ?_)
 rintro e_ oL ⟨rfl,dR⟩
 refine ⟨_,rfl,fun oM iE=>?_⟩
 have bp:=dQ.next_nil dR
 have iF:=dQ.frN dR
 have dS:=TT.ofW iF bp
 refine ⟨fun _=>dS,?_⟩
 refine qaD [7] [(123,.v (.bool (aN == (qbv k1 ac))))] 1 (qaa qad) (fun _ h=>h.cells) dS iE fun oN iG=>?_
 refine qan (i:=8) kz (qbd [10] bp.cells iG (env':=[(10,.v (.bool (aN == (qbv k1 ac))))]) kz fun oO iH=>?_)
 refine ⟨fun h=>absurd rfl h,?_⟩
 refine qaC kz ?_ _
 refine qab (wp_ret (qaM iH bp.cells (v:=.bool (aN == (qbv k1 ac))) kz ?_))
 refine ⟨congrArg (fun b_=>Ending.returned (Value.bool b_)) ?_,bp.step⟩
 first
  | exact qek hq ‹_› ‹_›
  | exact qel hq ‹_› ‹_›
  | exact to_u hq ‹_› ‹_›
  | exact to_m hq ‹_› ‹_› ‹_› ‹_› ‹_› ‹_›
abbrev z17 (x0) (x1) (x2) (x3) (x4) (x5) (x6) (x7) (x8) (x9) (x10) (x11) (x12) (x13) (x14) (x15):=([(1,.v (.int .i64 x0)),(2,.v (.bool x1)),(9,.p 2 0),(14,.v (.slice x2 ((qao x3).length) x4)),(15,.p 3 0),(97,.v (.int .i64 (((qao x3).length:Nat):Int))),(98,.v (.int .i64 ((x5:Nat):Int))),(101,.v (.agg #[.int .i64 x6,.int .i64 x7,.int .i64 x8,.int .i64 (-1),.int .i64 (-1),.int .i64 x9,.int .i64 x6,.slice x10 x11 x12])),(102,.v (.int .i64 x0)),(103,.v (.bool x1)),(104,.v (.slice x2 ((qao x3).length) x4)),(105,.v (.int .i64 ((x5:Nat):Int))),(109,.v (.slice x13 x14 x15)),(110,.v (.int .i64 ((x5:Nat):Int)))]:Env)
abbrev z30 (x0) (x1) (x2) (x3) (x4) (x5):=([(1,.v (.int .i64 x0)),(2,.v (.bool x1)),(9,.p 2 0),(14,.v (.slice x2 ((qao x3).length) x4)),(15,.p 3 0),(16,.v (.int .i64 ((x5:Nat):Int))),(97,.v (.int .i64 (((qao x3).length:Nat):Int))),(98,.v (.int .i64 ((x5:Nat):Int)))]:Env)
abbrev z37 (x0) (x1) (x2) (x3) (x4):=([(1,.v (.int .i64 x0)),(2,.v (.bool x1)),(9,.p 2 0),(14,.v (.slice x2 ((qao x3).length) x4)),(15,.p 3 0),(97,.v (.int .i64 (((qao x3).length:Nat):Int))),(98,.v (.int .i64 0))]:Env)
abbrev z34 (x0) (x1) (x2) (x3) (x4) (x5):=([(1,.v (.int .i64 x0)),(2,.v (.bool x1)),(9,.p 2 0),(14,.v (.slice x2 ((qao x3).length) x4)),(15,.p 3 0),(97,.v (.int .i64 (((qao x3).length:Nat):Int))),(98,.v (.int .i64 ((x5:Nat):Int))),(114,.v (.bool false))]:Env)
abbrev z42 (x0) (x1) (x2) (x3) (x4) (x5) (x6) (x7) (x8) (x9) (x10) (x11) (x12) (x13) (x14):=([(1,.v (.int .i64 x0)),(2,.v (.bool x1)),(5,.p 0 0),(9,.p 2 0),(14,.v (.slice x2 ((qao x3).length) x4)),(90,.v (.agg #[.int .i64 x5,.int .i64 x6,.int .i64 x7,.int .i64 x8,.int .i64 x9,.int .i64 x10,.int .i64 x11,.slice x12 x13 x14]))]:Env)
abbrev z48 (x0) (x1) (x2) (x3) (x4) (x5):=([(1,.v (.int .i64 x0)),(2,.v (.bool x1)),(9,.p 2 0),(14,.v (.slice x2 ((qao x3).length) x4)),(15,.p 3 0),(92,.v (.int .i64 x5)),(93,.p 3 0)]:Env)
abbrev z54 (x0) (x1) (x2) (x3) (x4):=([(1,.v (.int .i64 x0)),(2,.v (.bool x1)),(9,.p 2 0),(14,.v (.slice x2 ((qao x3).length) x4)),(15,.p 3 0),(94,.p 3 3)]:Env)
abbrev z55 (x0) (x1) (x2) (x3) (x4):=([(1,.v (.int .i64 x0)),(2,.v (.bool x1)),(9,.p 2 0),(14,.v (.slice x2 ((qao x3).length) x4)),(15,.p 3 0),(95,.p 3 4)]:Env)
abbrev z60 (x0) (x1) (x2) (x3) (x4):=([(1,.v (.int .i64 x0)),(2,.v (.bool x1)),(5,.p 0 0),(9,.p 2 0),(14,.v (.slice x2 ((qao x3).length) x4))]:Env)
theorem qlf {v:Int} {flex:Bool} {T:List Fld → Tree → Tree → Prop} (hT:ToOK v flex T) (cf:List Value) (f:Fld) (ct:List Value) (t:Tree) (cg:List Value) (g:Tree) (w:World) (F:Nat → Nat → Prop) (hf:FldR w F cf f) (hpl:f.plain) (ac:f.kind = 11) (ht:TreeR w F ct t) (hg:TreeR w F cg g) (hQ:ToF T v f t g) :
  Calls Tryz.prog 36 #[.agg cf.toArray,.int .i64 v,.bool flex,.agg ct.toArray,.agg cg.toArray] w (qcu w (.bool true)):=by
 obtain ⟨k1,y2,y3,y4,y5,y6,y7,l8,A9,ap,dE,rfl,rfl,gR,g6⟩:=hf.open_
 have jh:=gR.small
 obtain ⟨aj,ak,al,aa,am,ep,eu,ae,af,ev,ew,ko,rfl,rfl,kp,dF,g7,ny⟩:=ht.open_
 have ji:=kp.small
 have jj:=dF.small
 obtain ⟨gS,gT,cz,ao,gU,gV,gW,bC,dG,gX,gY,kq,rfl,rfl,ku,gZ,g8,nz⟩:=hg.open_
 have jk:=ku.small
 have jl:=gZ.small
 have ac:k1 = 11:=ac
 have hof:y7 ≠ 11:=hpl.1
 replace hpl:plains l8:=hpl.2
 have hq:=hQ.1
 refine enter (n:=124) Tryz.func36 rfl Tryz.ntmps36 kz fun a hE=>?_
 have hW:=WOk.start w Nil
 refine qae [0,1,2,3] kz ?_
 refine qal (qbm hW hE (d:=5) (cs:=(z4 k1 y2 y3 y4 y5 y6 y7 A9 l8.length ap)) kz fun g9 nA nB kv kw kx hC hJ=>?_)
 refine qal (qbm hC hJ (d:=8) (cs:=(z2 aj ep ak.length eu al ae aa.length af ev am.length ew)) kz fun hK nC nD ky kA kB hZ ia=>?_)
 refine qal (qbm hZ ia (d:=9) (cs:=(z2 gS gV gT.length gW cz bC ao.length dG gX gU.length gY)) kz fun ib nE nF kC kD kE bD ic=>?_)
 refine qaj [3] [] [(1,.v (.int .i64 v)),(2,.v (.bool flex)),(5,.p 0 0),(8,.p 1 0),(9,.p 2 0)] bD ic fun nG ig=>?_
 refine qaf (qab ?_)
 refine qae [0,1,2,3,4] kz ?_
 refine qaj [0,1,2] [3,4] [(1,.v (.int .i64 v)),(2,.v (.bool flex)),(5,.p 0 0),(8,.p 1 0),(9,.p 2 0),(17,.v (.agg #[.int .i64 k1,.int .i64 y2,.int .i64 y3,.int .i64 y4,.int .i64 y5,.int .i64 y6,.int .i64 y7,.slice A9 l8.length ap])),(18,.v (.int .i64 v)),(19,.v (.agg #[.int .i64 aj,.slice ep ak.length eu,.bool al,.slice ae aa.length af,.slice ev am.length ew]))] bD ig fun nH ii=>?_
 refine qal (qak ii (f:=72) (vs:=[.agg #[.int .i64 k1,.int .i64 y2,.int .i64 y3,.int .i64 y4,.int .i64 y5,.int .i64 y6,.int .i64 y7,.slice A9 l8.length ap],.int .i64 v,.agg #[.int .i64 aj,.slice ep ak.length eu,.bool al,.slice ae aa.length af,.slice ev am.length ew]]) (d:=20) kz Tryz.call72 (qk3 k1 y2 y3 y4 y5 y6 y7 l8 _ _ v aj ak al aa am _ _ _ _ _ _ _) ?_)
 rintro e_ nI ⟨rfl,ey⟩
 refine ⟨_,rfl,fun nJ ij=>?_⟩
 have ab:=bD.next_nil ey
 have kF:=bD.frN ey
 refine qaj [4] [] [(1,.v (.int .i64 v)),(2,.v (.bool flex)),(5,.p 0 0),(8,.p 1 0),(9,.p 2 0),(11,.v (.bool (z3 k1 y2 y3 y4 y5 y6 y7 l8 v aj ak al aa am)))] ab ij fun nK ik=>?_
 refine qaf (qab ?_)
 refine qae [0,1,2,3,4,5,6,7,8,9] kz ?_
 refine qaj [0,1,2,3] [4,5,6,7,8,9] [(1,.v (.int .i64 v)),(2,.v (.bool flex)),(5,.p 0 0),(8,.p 1 0),(9,.p 2 0),(11,.v (.bool (z3 k1 y2 y3 y4 y5 y6 y7 l8 v aj ak al aa am))),(24,.v (.bool (decide (y4 ≥ 0))))] ab ik fun nL ez=>?_
 refine (Bool.eq_false_or_eq_true (decide (y4 ≥ 0))).elim (fun aD=>?_) (fun aD=>?_)
 ·
  have kG:=of_decide_eq_true aD
  have il:=ez
  rw [aD] at il
  refine qaj [4,5,6,7,8,9] [] [(1,.v (.int .i64 v)),(2,.v (.bool flex)),(5,.p 0 0),(8,.p 1 0),(9,.p 2 0),(11,.v (.bool (z3 k1 y2 y3 y4 y5 y6 y7 l8 v aj ak al aa am))),(12,.v (.bool (decide (v ≥ y4))))] ab il fun nM im=>?_
  refine qaf (qab ?_)
  refine wp_seq (qae [0,1,2,3,4,5,6,7,8,9,10,11,12,13,14,15,16] kz ?_)
  refine qaj [0,1,2,3] [4,5,6,7,8,9,10,11,12,13,14,15,16] [(1,.v (.int .i64 v)),(2,.v (.bool flex)),(5,.p 0 0),(8,.p 1 0),(9,.p 2 0),(11,.v (.bool (z3 k1 y2 y3 y4 y5 y6 y7 l8 v aj ak al aa am))),(12,.v (.bool (decide (v ≥ y4)))),(33,.v (.bool (k1 == 8)))] ab im fun nN eB=>?_
  have eC:(k1 == 8) = false:=by simp [ac]
  have eD:=eB
  rw [eC] at eD
  refine qaj [4,5,6,7,8] [9,10,11,12,13,14,15,16] [(1,.v (.int .i64 v)),(2,.v (.bool flex)),(5,.p 0 0),(8,.p 1 0),(9,.p 2 0),(11,.v (.bool (z3 k1 y2 y3 y4 y5 y6 y7 l8 v aj ak al aa am))),(12,.v (.bool (decide (v ≥ y4)))),(38,.v (.bool (k1 == 10)))] ab eD fun kH eE=>?_
  have eF:(k1 == 10) = false:=by simp [ac]
  have eG:=eE
  rw [eF] at eG
  refine qaj [9,10,11] [12,13,14,15,16] [(1,.v (.int .i64 v)),(2,.v (.bool flex)),(5,.p 0 0),(8,.p 1 0),(9,.p 2 0),(11,.v (.bool (z3 k1 y2 y3 y4 y5 y6 y7 l8 v aj ak al aa am))),(41,.v (.bool (decide (v ≥ y4))))] ab eG fun kI cA=>?_
  refine (Bool.eq_false_or_eq_true (decide (v ≥ y4))).elim (fun az=>?_) (fun az=>?_)
  ·
   have jm:=of_decide_eq_true az
   have eH:=cA
   rw [az] at eH
   refine qaj [12,13,14,15,16] [] [(1,.v (.int .i64 v)),(2,.v (.bool flex)),(5,.p 0 0),(8,.p 1 0),(9,.p 2 0),(11,.v (.bool (z3 k1 y2 y3 y4 y5 y6 y7 l8 v aj ak al aa am))),(46,.v (.bool (!(cz == (z3 k1 y2 y3 y4 y5 y6 y7 l8 v aj ak al aa am)))))] ab eH fun kJ aE=>?_
   refine qaf (qab ?_)
   refine qaw aE (b:=!(cz == (z3 k1 y2 y3 y4 y5 y6 y7 l8 v aj ak al aa am))) kz (fun aF=>?_) (fun aF=>?_)
   ·
    have jn:!(cz = (Fld.nul (Fld.mk k1 y2 y3 y4 y5 y6 y7 l8) v (Tree.mk aj ak al aa am))):=by simpa using aF
    refine qar [(10,.v (.bool false))] ab aE fun kK eI=>?_
    refine wp_ret (qat (qaM eI ab.cells (v:=.bool false) kz ?_))
    first
     | exact (qgB hq ‹_› ‹_› ‹_›).elim
     | exact (qhU (hQ.2 ac ‹_›).1 ‹_›).elim
     | (exfalso; simp_all; done)
   have jo:!(cz ≠ (Fld.nul (Fld.mk k1 y2 y3 y4 y5 y6 y7 l8) v (Tree.mk aj ak al aa am))):=by simpa using aF
   refine wp_skip (qab (wp_seq (qar (z19 v flex k1 y2 y3 y4 y5 y6 y7 l8 aj ak al aa am) ab aE fun kL aG=>?_)))
   refine qaw aG (b:=Fld.nul (Fld.mk k1 y2 y3 y4 y5 y6 y7 l8) v (Tree.mk aj ak al aa am)) kz (fun eJ=>?_) (fun eJ=>?_)
   ·
    refine qar [(10,.v (.bool true))] ab aG fun kM eK=>?_
    refine wp_ret (qat (qaM eK ab.cells (v:=.bool true) kz ?_))
    exact ⟨rfl,ab.step⟩
   refine wp_skip (qab (wp_seq (qar (z18 v flex k1) ab aG fun kN eL=>?_)))
   refine wp_block (wp_seq (qar [(1,.v (.int .i64 v)),(2,.v (.bool flex)),(5,.p 0 0),(8,.p 1 0),(9,.p 2 0),(49,.v (.int .i64 k1)),(50,.v (.bool (k1 == 8)))] ab eL fun kO cB=>?_))
   refine qam cB (b:=k1 == 8) kz (by simp [ac]) ?_
   refine qaq [0,1] kz ?_
   refine qaj [0,1] [] [(1,.v (.int .i64 v)),(2,.v (.bool flex)),(5,.p 0 0),(8,.p 1 0),(9,.p 2 0),(49,.v (.int .i64 k1)),(50,.v (.bool (k1 == 9)))] ab cB fun kP cC=>?_
   refine qaf (qab ?_)
   refine qam cC (b:=k1 == 9) kz (by simp [ac]) ?_
   refine qar [(1,.v (.int .i64 v)),(2,.v (.bool flex)),(5,.p 0 0),(8,.p 1 0),(9,.p 2 0),(49,.v (.int .i64 k1)),(59,.v (.bool (k1 == 7)))] ab cC fun kQ cD=>?_
   refine qam cD (b:=k1 == 7) kz (by simp [ac]) ?_
   refine qar [(1,.v (.int .i64 v)),(2,.v (.bool flex)),(5,.p 0 0),(8,.p 1 0),(9,.p 2 0),(49,.v (.int .i64 k1)),(70,.v (.bool (k1 == 10)))] ab cD fun kR cE=>?_
   refine qam cE (b:=k1 == 10) kz (by simp [ac]) ?_
   refine qar [(1,.v (.int .i64 v)),(2,.v (.bool flex)),(5,.p 0 0),(8,.p 1 0),(9,.p 2 0),(79,.v (.bool (k1 == 11)))] ab cE fun kS cG=>?_
   refine qa4 cG (b:=k1 == 11) kz (by simpa using ac) ?_
   refine qae [0,1,2,3] kz ?_
   refine qaj [0,1] [2,3] [(1,.v (.int .i64 v)),(2,.v (.bool flex)),(5,.p 0 0),(9,.p 2 0),(82,.v (.slice ae aa.length af))] ab cG fun kT eM=>?_
   refine qal (qak eM (f:=73) (vs:=[.slice ae aa.length af]) (d:=83) kz Tryz.call73 (qgo _ _ aa (dF.move ab.step nilM ab.imm).le _) ?_)
   rintro e_ kU ⟨rfl,cH⟩
   refine ⟨_,rfl,fun kV eN=>?_⟩
   have ar:=ab.next_nil cH
   have jp:=ab.frN cH
   refine qaj [3] [] (z60 v flex ae aa af) ar eN fun kW eO=>?_
   refine qaf (qab ?_)
   refine wp_seq (qar [(1,.v (.int .i64 v)),(2,.v (.bool flex)),(5,.p 0 0),(9,.p 2 0),(14,.v (.slice ae ((qao aa).length) af)),(89,.v (.bool (((ao.length:Nat):Int) != (((qao aa).length:Nat):Int))))] ar eO fun kX aH=>?_)
   refine qaw aH (b:=((ao.length:Nat):Int) != (((qao aa).length:Nat):Int)) kz (fun aI=>?_) (fun aI=>?_)
   ·
    have jq:((ao.length:Nat):Int) ≠ (((qao aa).length:Nat):Int):=by simpa using aI
    refine qar [(10,.v (.bool false))] ar aH fun kY eP=>?_
    refine wp_ret (qat (qay (qat (qaM eP ar.cells (v:=.bool false) kz ?_))))
    first
     | exact (qgB hq ‹_› ‹_› ‹_›).elim
     | exact (qhU (hQ.2 ac ‹_›).1 ‹_›).elim
     | (exfalso; simp_all; done)
   have jr:((ao.length:Nat):Int) = (((qao aa).length:Nat):Int):=by simpa using aI
   refine wp_skip (qab (qae [0,1,2] kz ?_))
   refine qaj [0] [1,2] (z42 v flex ae aa af k1 y2 y3 y4 y5 y6 y7 A9 l8.length ap) ar aH fun kZ eQ=>?_
   refine qal (qaS ar eQ (d:=15) (cs:=z16) kz fun io k5 k6 js jt ju eR eS=>?_)
   refine qal (qap eR eS (oi:=3) (cs:=(z4 k1 y2 y3 y4 y5 y6 y7 A9 l8.length ap)) kz fun k7 jv cI eU=>?_)
   refine qaf (qab ?_)
   refine qae [0,1,2,3,4,5,6,7] kz ?_
   refine qaj [0,1,2] [3,4,5,6,7] (z48 v flex ae aa af y7) cI eU fun k8 eV=>?_
   refine qal (qap cI eV (oi:=3) (cs:=[.int .i64 y7,.int .i64 y2,.int .i64 y3,.int .i64 y4,.int .i64 y5,.int .i64 y6,.int .i64 y7,.slice A9 l8.length ap]) kz fun k9 jw cJ eW=>?_)
   refine qaj [4] [5,6,7] (z54 v flex ae aa af) cJ eW fun la eX=>?_
   refine qal (qap cJ eX (oi:=3) (cs:=[.int .i64 y7,.int .i64 y2,.int .i64 y3,.int .i64 (-1),.int .i64 y5,.int .i64 y6,.int .i64 y7,.slice A9 l8.length ap]) kz fun lb jx cK eY=>?_)
   refine qaj [6] [7] (z55 v flex ae aa af) cK eY fun lc eZ=>?_
   refine qal (qap cK eZ (oi:=3) (cs:=[.int .i64 y7,.int .i64 y2,.int .i64 y3,.int .i64 (-1),.int .i64 (-1),.int .i64 y6,.int .i64 y7,.slice A9 l8.length ap]) kz fun ld jy aJ e9=>?_)
   refine qaf (qab ?_)
   refine wp_seq (qar (z37 v flex ae aa af) aJ e9 fun lf fa=>?_)
   refine wp_block ?_
   have hl_:=(hQ.2 ac ‹_›).2
   refine wp_loop_ghost (fun n_ a_ w_=>∃ (k:Nat),n_ = (qao aa).length - k ∧ k ≤ (qao aa).length ∧ LInv aJ 124 [⟨g9,0,[.int .i64 k1,.int .i64 y2,.int .i64 y3,.int .i64 y4,.int .i64 y5,.int .i64 y6,.int .i64 y7,.slice A9 l8.length ap],true⟩,⟨hK,0,[.int .i64 aj,.slice ep ak.length eu,.bool al,.slice ae aa.length af,.slice ev am.length ew],true⟩,⟨ib,0,[.int .i64 gS,.slice gV gT.length gW,.bool cz,.slice bC ao.length dG,.slice gX gU.length gY],true⟩,⟨io,0,[.int .i64 y7,.int .i64 y2,.int .i64 y3,.int .i64 (-1),.int .i64 (-1),.int .i64 y6,.int .i64 y7,.slice A9 l8.length ap],true⟩] [] [(1,.v (.int .i64 v)),(2,.v (.bool flex)),(9,.p 2 0),(14,.v (.slice ae ((qao aa).length) af)),(15,.p 3 0),(97,.v (.int .i64 (((qao aa).length:Nat):Int))),(98,.v (.int .i64 ((k:Nat):Int)))] a_ w_) ((qao aa).length) ⟨0,by omega,by omega,fa.pk,aJ,Fr.refl _ _ _⟩ ?_
   rintro lg lh li ⟨k,jz,jA,fb,au,fe⟩
   refine qar [(1,.v (.int .i64 v)),(2,.v (.bool flex)),(9,.p 2 0),(14,.v (.slice ae ((qao aa).length) af)),(15,.p 3 0),(97,.v (.int .i64 (((qao aa).length:Nat):Int))),(98,.v (.int .i64 ((k:Nat):Int))),(99,.v (.bool (decide (((k:Nat):Int) < (((qao aa).length:Nat):Int)))))] au fb fun lj aK=>?_
   refine wp_seq (qaw aK (b:=decide (((k:Nat):Int) < (((qao aa).length:Nat):Int))) kz (fun aL=>?_) (fun aL=>?_))
   ·
    have jB:=of_decide_eq_true aL
    refine wp_skip (qab (wp_seq (wp_block (qar (z30 v flex ae aa af k) au aK fun lm ff=>?_))))
    refine qaE 14 kz au fun ln fg ag aA=>?_
    refine qaD [0,1,2,3,4,7,8,9] (z17 v flex ae aa af k y7 y2 y3 y6 A9 l8.length ap bC ao.length dG) 6 (qaa (qac (qaa (qaa (qac (qaa (qac (qaa qad)))))))) (fun _ h=>h.cells) aA ff fun lp fh=>?_
    obtain ⟨ip,iq,fi,jC,aM⟩:=Slots.get (qc2 dF) (i:=k) (by first | omega | (have h_:ao.length = (qao aa).length:=(hQ.2 ac ‹_›).1; omega))
    obtain ⟨ir,cL⟩:∃ x,(qao aa)[k]? = some x:=⟨_,List.getElem?_eq_getElem (by omega)⟩
    have aN:=(qdk g7) k ir cL
    obtain ⟨bE,bF,bG,bH,bI,dH,dI,dJ,dK,dL,dM,jD,rfl,aO,iu,iv,lq,lr⟩:=aN.open_
    rw [aO] at aN
    have iw:=iu.small
    have ix:=iv.small
    rw [aO] at aM
    refine qaJ fh (i:=5) (t:=23) (A:=ae) (m:=((qao aa).length)) (q:=((k:Nat):Int)) (d:=106) kz (e:=26) (size:=5) (bytes:=88) kz fi rfl (by first | omega | (have h_:ao.length = (qao aa).length:=(hQ.2 ac ‹_›).1; omega)) kz kz (qaa (qac (qaa (qaa (qac (qaa (qac (qaa qad)))))))) aA fun ls fj=>?_
    refine qa6 fj (i:=6) (t:=26) (b:=ip) (o:=iq + k * 5) (d:=107) kz (cs:=(z2 bE dH bF.length dI bG dJ bH.length dK dL bI.length dM)) (v:=.agg #[.int .i64 bE,.slice dH bF.length dI,.bool bG,.slice dJ bH.length dK,.slice dL bI.length dM]) kz (fun w' h'=>(AtF.move aM (TT.step0 ag h') nilM qbb).at_) kz kz (qaa (qac (qaa (qaa (qac (qaa (qac (qaa qad)))))))) aA fun lu fk=>?_
    obtain ⟨iy,iz,fm,jE,aP⟩:=Slots.get gZ (i:=k) (by first | omega | (have h_:ao.length = (qao aa).length:=(hQ.2 ac ‹_›).1; omega))
    obtain ⟨iA,cM⟩:∃ x,ao[k]? = some x:=⟨_,List.getElem?_eq_getElem (by omega)⟩
    have aQ:=g8 k iA cM
    obtain ⟨bJ,bK,bL,bM,bN,dN,dO,dP,dQ,dR,dS,jF,rfl,aR,iB,iC,lv,lw⟩:=aQ.open_
    rw [aR] at aQ
    have iD:=iB.small
    have iE:=iC.small
    rw [aR] at aP
    refine qaJ fk (i:=10) (t:=23) (A:=bC) (m:=ao.length) (q:=((k:Nat):Int)) (d:=111) kz (e:=26) (size:=5) (bytes:=88) kz fm rfl (by first | omega | (have h_:ao.length = (qao aa).length:=(hQ.2 ac ‹_›).1; omega)) kz kz (qaa (qac (qaa (qaa (qac (qaa (qac (qaa qad)))))))) aA fun lx fo=>?_
    refine qa6 fo (i:=11) (t:=26) (b:=iy) (o:=iz + k * 5) (d:=112) kz (cs:=(z2 bJ dN bK.length dO bL dP bM.length dQ dR bN.length dS)) (v:=.agg #[.int .i64 bJ,.slice dN bK.length dO,.bool bL,.slice dP bM.length dQ,.slice dR bN.length dS]) kz (fun w' h'=>(AtF.move aP (TT.step0 ag h') nilM qbb).at_) kz kz (qaa (qac (qaa (qaa (qac (qaa (qac (qaa qad)))))))) aA fun ly fq=>?_
    refine qan (i:=12) kz (qak fq (f:=36) (vs:=[.agg #[.int .i64 y7,.int .i64 y2,.int .i64 y3,.int .i64 (-1),.int .i64 (-1),.int .i64 y6,.int .i64 y7,.slice A9 l8.length ap],.int .i64 v,.bool flex,.agg #[.int .i64 bE,.slice dH bF.length dI,.bool bG,.slice dJ bH.length dK,.slice dL bI.length dM],.agg #[.int .i64 bJ,.slice dN bK.length dO,.bool bL,.slice dP bM.length dQ,.slice dR bN.length dS]]) (d:=113) kz Tryz.call36 ( qh1 hT _ _ _ (Tree.mk bE bF bG bH bI) _ (Tree.mk bJ bK bL bM bN) _ _ (FldR.mk (l:=l8) dE (gR.move ag.step nilM ag.imm) (fun i_ x_ h_=>((g6 i_ x_ h_).move ag.step nilM ag.imm))) hpl hof (aN.move ag.step nilM ag.imm) (aQ.move ag.step nilM ag.imm) (hl_ _ _ _ cL cM)) ?_)
    rintro e_ lz ⟨rfl,cN⟩
    refine ⟨_,rfl,fun lA fr=>?_⟩
    have aS:=ag.next_nil cN
    have cO:=ag.frN cN
    have cP:=TT.ofW cO aS
    refine ⟨fun _=>cP,?_⟩
    refine qaD [13] (z34 v flex ae aa af k) 0 (qaa (qac (qaa (qaa (qac (qaa (qac (qaa qad)))))))) (fun _ h=>h.cells) cP fr fun lB cQ=>?_
    refine qaC kz ?_ _
    refine qab (qam cQ (b:=false) kz rfl ?_)
    refine wp_skip (qas (qab (qaq [0,1] kz ?_)))
    refine qaj [0,1] [] [(1,.v (.int .i64 v)),(2,.v (.bool flex)),(9,.p 2 0),(14,.v (.slice ae ((qao aa).length) af)),(15,.p 3 0),(97,.v (.int .i64 (((qao aa).length:Nat):Int))),(98,.v (.int .i64 (IntKind.i64.wrap (((k:Nat):Int) + 1))))] aS cQ fun lC cR=>?_
    refine qaf (qab ?_)
    have ft:IntKind.i64.wrap (((k:Nat):Int) + 1) = ((k + 1:Nat):Int):=qaP (by omega)
    rw [ft] at cR
    exact ⟨(qao aa).length - (k + 1),by omega,k + 1,rfl,by omega,cR.pk,aS,((fe.trans fg).trans cO)⟩
   have jG:=of_decide_eq_false aL
   refine wp_exit (qau (qau (qaL (qab (qar [(10,.v (.bool true))] au aK fun lD fu=>?_)))))
   refine wp_ret (qay (qat (qaM fu au.cells (v:=.bool true) kz ?_)))
   exact ⟨rfl,au.step⟩
  have jH:=of_decide_eq_false az
  have fv:=cA.cast (env':=[(1,.v (.int .i64 v)),(2,.v (.bool flex)),(5,.p 0 0),(8,.p 1 0),(9,.p 2 0),(11,.v (.bool (Fld.nul (Fld.mk k1 y2 y3 y4 y5 y6 y7 l8) v (Tree.mk aj ak al aa am)))),(41,.v (.bool false))]) (by rw [az])
  refine qaj [12,13,14,15,16] [] (z49 v flex k1 y2 y3 y4 y5 y6 y7 l8 aj ak al aa am) ab fv fun lE cS=>?_
  refine qaf (qab ?_)
  refine qam cS (b:=false) kz rfl ?_
  refine wp_skip (qab (wp_seq (qar (z19 v flex k1 y2 y3 y4 y5 y6 y7 l8 aj ak al aa am) ab cS fun lF aT=>?_)))
  refine qaw aT (b:=Fld.nul (Fld.mk k1 y2 y3 y4 y5 y6 y7 l8) v (Tree.mk aj ak al aa am)) kz (fun fw=>?_) (fun fw=>?_)
  ·
   refine qar [(10,.v (.bool true))] ab aT fun lG fx=>?_
   refine wp_ret (qat (qaM fx ab.cells (v:=.bool true) kz ?_))
   exact ⟨rfl,ab.step⟩
  refine wp_skip (qab (wp_seq (qar (z18 v flex k1) ab aT fun lH fy=>?_)))
  refine wp_block (wp_seq (qar [(1,.v (.int .i64 v)),(2,.v (.bool flex)),(5,.p 0 0),(8,.p 1 0),(9,.p 2 0),(49,.v (.int .i64 k1)),(50,.v (.bool (k1 == 8)))] ab fy fun lI cT=>?_))
  refine qam cT (b:=k1 == 8) kz (by simp [ac]) ?_
  refine qaq [0,1] kz ?_
  refine qaj [0,1] [] [(1,.v (.int .i64 v)),(2,.v (.bool flex)),(5,.p 0 0),(8,.p 1 0),(9,.p 2 0),(49,.v (.int .i64 k1)),(50,.v (.bool (k1 == 9)))] ab cT fun lJ cU=>?_
  refine qaf (qab ?_)
  refine qam cU (b:=k1 == 9) kz (by simp [ac]) ?_
  refine qar [(1,.v (.int .i64 v)),(2,.v (.bool flex)),(5,.p 0 0),(8,.p 1 0),(9,.p 2 0),(49,.v (.int .i64 k1)),(59,.v (.bool (k1 == 7)))] ab cU fun lK cV=>?_
  refine qam cV (b:=k1 == 7) kz (by simp [ac]) ?_
  refine qar [(1,.v (.int .i64 v)),(2,.v (.bool flex)),(5,.p 0 0),(8,.p 1 0),(9,.p 2 0),(49,.v (.int .i64 k1)),(70,.v (.bool (k1 == 10)))] ab cV fun lL cW=>?_
  refine qam cW (b:=k1 == 10) kz (by simp [ac]) ?_
  refine qar [(1,.v (.int .i64 v)),(2,.v (.bool flex)),(5,.p 0 0),(8,.p 1 0),(9,.p 2 0),(79,.v (.bool (k1 == 11)))] ab cW fun lM cX=>?_
  refine qa4 cX (b:=k1 == 11) kz (by simpa using ac) ?_
  refine qae [0,1,2,3] kz ?_
  refine qaj [0,1] [2,3] [(1,.v (.int .i64 v)),(2,.v (.bool flex)),(5,.p 0 0),(9,.p 2 0),(82,.v (.slice ae aa.length af))] ab cX fun lN fz=>?_
  refine qal (qak fz (f:=73) (vs:=[.slice ae aa.length af]) (d:=83) kz Tryz.call73 (qgo _ _ aa (dF.move ab.step nilM ab.imm).le _) ?_)
  rintro e_ lO ⟨rfl,cY⟩
  refine ⟨_,rfl,fun lP fA=>?_⟩
  have av:=ab.next_nil cY
  have jI:=ab.frN cY
  refine qaj [3] [] (z60 v flex ae aa af) av fA fun lQ fB=>?_
  refine qaf (qab ?_)
  refine wp_seq (qar [(1,.v (.int .i64 v)),(2,.v (.bool flex)),(5,.p 0 0),(9,.p 2 0),(14,.v (.slice ae ((qao aa).length) af)),(89,.v (.bool (((ao.length:Nat):Int) != (((qao aa).length:Nat):Int))))] av fB fun lR aU=>?_)
  refine qaw aU (b:=((ao.length:Nat):Int) != (((qao aa).length:Nat):Int)) kz (fun aV=>?_) (fun aV=>?_)
  ·
   have jJ:((ao.length:Nat):Int) ≠ (((qao aa).length:Nat):Int):=by simpa using aV
   refine qar [(10,.v (.bool false))] av aU fun lS fC=>?_
   refine wp_ret (qat (qay (qat (qaM fC av.cells (v:=.bool false) kz ?_))))
   first
    | exact (qgB hq ‹_› ‹_› ‹_›).elim
    | exact (qhU (hQ.2 ac ‹_›).1 ‹_›).elim
    | (exfalso; simp_all; done)
  have jK:((ao.length:Nat):Int) = (((qao aa).length:Nat):Int):=by simpa using aV
  refine wp_skip (qab (qae [0,1,2] kz ?_))
  refine qaj [0] [1,2] (z42 v flex ae aa af k1 y2 y3 y4 y5 y6 y7 A9 l8.length ap) av aU fun lT fD=>?_
  refine qal (qaS av fD (d:=15) (cs:=z16) kz fun iF lU lV jL jM jN fE fF=>?_)
  refine qal (qap fE fF (oi:=3) (cs:=(z4 k1 y2 y3 y4 y5 y6 y7 A9 l8.length ap)) kz fun lW jO cZ fG=>?_)
  refine qaf (qab ?_)
  refine qae [0,1,2,3,4,5,6,7] kz ?_
  refine qaj [0,1,2] [3,4,5,6,7] (z48 v flex ae aa af y7) cZ fG fun lX fH=>?_
  refine qal (qap cZ fH (oi:=3) (cs:=[.int .i64 y7,.int .i64 y2,.int .i64 y3,.int .i64 y4,.int .i64 y5,.int .i64 y6,.int .i64 y7,.slice A9 l8.length ap]) kz fun lY jP c5 fI=>?_)
  refine qaj [4] [5,6,7] (z54 v flex ae aa af) c5 fI fun lZ fJ=>?_
  refine qal (qap c5 fJ (oi:=3) (cs:=[.int .i64 y7,.int .i64 y2,.int .i64 y3,.int .i64 (-1),.int .i64 y5,.int .i64 y6,.int .i64 y7,.slice A9 l8.length ap]) kz fun l0 jQ c6 fK=>?_)
  refine qaj [6] [7] (z55 v flex ae aa af) c6 fK fun l3 fL=>?_
  refine qal (qap c6 fL (oi:=3) (cs:=[.int .i64 y7,.int .i64 y2,.int .i64 y3,.int .i64 (-1),.int .i64 (-1),.int .i64 y6,.int .i64 y7,.slice A9 l8.length ap]) kz fun l5 jR aW fM=>?_)
  refine qaf (qab ?_)
  refine wp_seq (qar (z37 v flex ae aa af) aW fM fun l6 fN=>?_)
  refine wp_block ?_
  have hl_:=(hQ.2 ac ‹_›).2
  refine wp_loop_ghost (fun n_ a_ w_=>∃ (k:Nat),n_ = (qao aa).length - k ∧ k ≤ (qao aa).length ∧ LInv aW 124 [⟨g9,0,[.int .i64 k1,.int .i64 y2,.int .i64 y3,.int .i64 y4,.int .i64 y5,.int .i64 y6,.int .i64 y7,.slice A9 l8.length ap],true⟩,⟨hK,0,[.int .i64 aj,.slice ep ak.length eu,.bool al,.slice ae aa.length af,.slice ev am.length ew],true⟩,⟨ib,0,[.int .i64 gS,.slice gV gT.length gW,.bool cz,.slice bC ao.length dG,.slice gX gU.length gY],true⟩,⟨iF,0,[.int .i64 y7,.int .i64 y2,.int .i64 y3,.int .i64 (-1),.int .i64 (-1),.int .i64 y6,.int .i64 y7,.slice A9 l8.length ap],true⟩] [] [(1,.v (.int .i64 v)),(2,.v (.bool flex)),(9,.p 2 0),(14,.v (.slice ae ((qao aa).length) af)),(15,.p 3 0),(97,.v (.int .i64 (((qao aa).length:Nat):Int))),(98,.v (.int .i64 ((k:Nat):Int)))] a_ w_) ((qao aa).length) ⟨0,by omega,by omega,fN.pk,aW,Fr.refl _ _ _⟩ ?_
  rintro l7 l9 ma ⟨k,jS,jT,fO,aw,fP⟩
  refine qar [(1,.v (.int .i64 v)),(2,.v (.bool flex)),(9,.p 2 0),(14,.v (.slice ae ((qao aa).length) af)),(15,.p 3 0),(97,.v (.int .i64 (((qao aa).length:Nat):Int))),(98,.v (.int .i64 ((k:Nat):Int))),(99,.v (.bool (decide (((k:Nat):Int) < (((qao aa).length:Nat):Int)))))] aw fO fun mc aX=>?_
  refine wp_seq (qaw aX (b:=decide (((k:Nat):Int) < (((qao aa).length:Nat):Int))) kz (fun aY=>?_) (fun aY=>?_))
  ·
   have jU:=of_decide_eq_true aY
   refine wp_skip (qab (wp_seq (wp_block (qar (z30 v flex ae aa af k) aw aX fun md fQ=>?_))))
   refine qaE 14 kz aw fun me fR ah aB=>?_
   refine qaD [0,1,2,3,4,7,8,9] (z17 v flex ae aa af k y7 y2 y3 y6 A9 l8.length ap bC ao.length dG) 6 (qaa (qac (qaa (qaa (qac (qaa (qac (qaa qad)))))))) (fun _ h=>h.cells) aB fQ fun mf fS=>?_
   obtain ⟨iG,iH,fT,jV,aZ⟩:=Slots.get (qc2 dF) (i:=k) (by first | omega | (have h_:ao.length = (qao aa).length:=(hQ.2 ac ‹_›).1; omega))
   obtain ⟨iI,da⟩:∃ x,(qao aa)[k]? = some x:=⟨_,List.getElem?_eq_getElem (by omega)⟩
   have ba:=(qdk g7) k iI da
   obtain ⟨bO,bP,bQ,bR,bS,dT,dU,dV,dW,dX,dY,jW,rfl,bd,iJ,iK,mg,mh⟩:=ba.open_
   rw [bd] at ba
   have iL:=iJ.small
   have iM:=iK.small
   rw [bd] at aZ
   refine qaJ fS (i:=5) (t:=23) (A:=ae) (m:=((qao aa).length)) (q:=((k:Nat):Int)) (d:=106) kz (e:=26) (size:=5) (bytes:=88) kz fT rfl (by first | omega | (have h_:ao.length = (qao aa).length:=(hQ.2 ac ‹_›).1; omega)) kz kz (qaa (qac (qaa (qaa (qac (qaa (qac (qaa qad)))))))) aB fun mi fU=>?_
   refine qa6 fU (i:=6) (t:=26) (b:=iG) (o:=iH + k * 5) (d:=107) kz (cs:=(z2 bO dT bP.length dU bQ dV bR.length dW dX bS.length dY)) (v:=.agg #[.int .i64 bO,.slice dT bP.length dU,.bool bQ,.slice dV bR.length dW,.slice dX bS.length dY]) kz (fun w' h'=>(AtF.move aZ (TT.step0 ah h') nilM qbb).at_) kz kz (qaa (qac (qaa (qaa (qac (qaa (qac (qaa qad)))))))) aB fun mj fV=>?_
   obtain ⟨iN,iO,fW,jX,bf⟩:=Slots.get gZ (i:=k) (by first | omega | (have h_:ao.length = (qao aa).length:=(hQ.2 ac ‹_›).1; omega))
   obtain ⟨iP,db⟩:∃ x,ao[k]? = some x:=⟨_,List.getElem?_eq_getElem (by omega)⟩
   have bg:=g8 k iP db
   obtain ⟨bT,bU,bV,bW,bX,dZ,d5,d6,d7,d8,d9,jY,rfl,bh,iQ,iR,ml,mn⟩:=bg.open_
   rw [bh] at bg
   have iS:=iQ.small
   have iT:=iR.small
   rw [bh] at bf
   refine qaJ fV (i:=10) (t:=23) (A:=bC) (m:=ao.length) (q:=((k:Nat):Int)) (d:=111) kz (e:=26) (size:=5) (bytes:=88) kz fW rfl (by first | omega | (have h_:ao.length = (qao aa).length:=(hQ.2 ac ‹_›).1; omega)) kz kz (qaa (qac (qaa (qaa (qac (qaa (qac (qaa qad)))))))) aB fun mo fX=>?_
   refine qa6 fX (i:=11) (t:=26) (b:=iN) (o:=iO + k * 5) (d:=112) kz (cs:=(z2 bT dZ bU.length d5 bV d6 bW.length d7 d8 bX.length d9)) (v:=.agg #[.int .i64 bT,.slice dZ bU.length d5,.bool bV,.slice d6 bW.length d7,.slice d8 bX.length d9]) kz (fun w' h'=>(AtF.move bf (TT.step0 ah h') nilM qbb).at_) kz kz (qaa (qac (qaa (qaa (qac (qaa (qac (qaa qad)))))))) aB fun mp fY=>?_
   refine qan (i:=12) kz (qak fY (f:=36) (vs:=[.agg #[.int .i64 y7,.int .i64 y2,.int .i64 y3,.int .i64 (-1),.int .i64 (-1),.int .i64 y6,.int .i64 y7,.slice A9 l8.length ap],.int .i64 v,.bool flex,.agg #[.int .i64 bO,.slice dT bP.length dU,.bool bQ,.slice dV bR.length dW,.slice dX bS.length dY],.agg #[.int .i64 bT,.slice dZ bU.length d5,.bool bV,.slice d6 bW.length d7,.slice d8 bX.length d9]]) (d:=113) kz Tryz.call36 ( qh1 hT _ _ _ (Tree.mk bO bP bQ bR bS) _ (Tree.mk bT bU bV bW bX) _ _ (FldR.mk (l:=l8) dE (gR.move ah.step nilM ah.imm) (fun i_ x_ h_=>((g6 i_ x_ h_).move ah.step nilM ah.imm))) hpl hof (ba.move ah.step nilM ah.imm) (bg.move ah.step nilM ah.imm) (hl_ _ _ _ da db)) ?_)
   rintro e_ mq ⟨rfl,dc⟩
   refine ⟨_,rfl,fun mr fZ=>?_⟩
   have bi:=ah.next_nil dc
   have de:=ah.frN dc
   have df:=TT.ofW de bi
   refine ⟨fun _=>df,?_⟩
   refine qaD [13] (z34 v flex ae aa af k) 0 (qaa (qac (qaa (qaa (qac (qaa (qac (qaa qad)))))))) (fun _ h=>h.cells) df fZ fun mt dg=>?_
   refine qaC kz ?_ _
   refine qab (qam dg (b:=false) kz rfl ?_)
   refine wp_skip (qas (qab (qaq [0,1] kz ?_)))
   refine qaj [0,1] [] [(1,.v (.int .i64 v)),(2,.v (.bool flex)),(9,.p 2 0),(14,.v (.slice ae ((qao aa).length) af)),(15,.p 3 0),(97,.v (.int .i64 (((qao aa).length:Nat):Int))),(98,.v (.int .i64 (IntKind.i64.wrap (((k:Nat):Int) + 1))))] bi dg fun mu dh=>?_
   refine qaf (qab ?_)
   have f5:IntKind.i64.wrap (((k:Nat):Int) + 1) = ((k + 1:Nat):Int):=qaP (by omega)
   rw [f5] at dh
   exact ⟨(qao aa).length - (k + 1),by omega,k + 1,rfl,by omega,dh.pk,bi,((fP.trans fR).trans de)⟩
  have jZ:=of_decide_eq_false aY
  refine wp_exit (qau (qau (qaL (qab (qar [(10,.v (.bool true))] aw aX fun mw f7=>?_)))))
  refine wp_ret (qay (qat (qaM f7 aw.cells (v:=.bool true) kz ?_)))
  exact ⟨rfl,aw.step⟩
 have j0:=of_decide_eq_false aD
 have f8:=ez.cast (env':=[(1,.v (.int .i64 v)),(2,.v (.bool flex)),(5,.p 0 0),(8,.p 1 0),(9,.p 2 0),(11,.v (.bool (Fld.nul (Fld.mk k1 y2 y3 y4 y5 y6 y7 l8) v (Tree.mk aj ak al aa am)))),(24,.v (.bool false))]) (by rw [aD])
 refine qaj [4,5,6,7,8,9] [] [(1,.v (.int .i64 v)),(2,.v (.bool flex)),(5,.p 0 0),(8,.p 1 0),(9,.p 2 0),(11,.v (.bool (z3 k1 y2 y3 y4 y5 y6 y7 l8 v aj ak al aa am))),(12,.v (.bool false))] ab f8 fun mx f9=>?_
 refine qaf (qab ?_)
 refine wp_seq (qae [0,1,2,3,4,5,6,7,8,9,10,11,12,13,14,15,16] kz ?_)
 refine qaj [0,1,2,3] [4,5,6,7,8,9,10,11,12,13,14,15,16] [(1,.v (.int .i64 v)),(2,.v (.bool flex)),(5,.p 0 0),(8,.p 1 0),(9,.p 2 0),(11,.v (.bool (z3 k1 y2 y3 y4 y5 y6 y7 l8 v aj ak al aa am))),(12,.v (.bool false)),(33,.v (.bool (k1 == 8)))] ab f9 fun my ga=>?_
 have gb:(k1 == 8) = false:=by simp [ac]
 have gc:=ga
 rw [gb] at gc
 refine qaj [4,5,6,7,8] [9,10,11,12,13,14,15,16] [(1,.v (.int .i64 v)),(2,.v (.bool flex)),(5,.p 0 0),(8,.p 1 0),(9,.p 2 0),(11,.v (.bool (z3 k1 y2 y3 y4 y5 y6 y7 l8 v aj ak al aa am))),(12,.v (.bool false)),(38,.v (.bool (k1 == 10)))] ab gc fun mz gd=>?_
 have ge:(k1 == 10) = false:=by simp [ac]
 have gg:=gd
 rw [ge] at gg
 refine qaj [9,10,11,12,13,14,15,16] [] (z49 v flex k1 y2 y3 y4 y5 y6 y7 l8 aj ak al aa am) ab gg fun mA di=>?_
 refine qaf (qab ?_)
 refine qam di (b:=false) kz rfl ?_
 refine wp_skip (qab (wp_seq (qar (z19 v flex k1 y2 y3 y4 y5 y6 y7 l8 aj ak al aa am) ab di fun mB bj=>?_)))
 refine qaw bj (b:=Fld.nul (Fld.mk k1 y2 y3 y4 y5 y6 y7 l8) v (Tree.mk aj ak al aa am)) kz (fun gh=>?_) (fun gh=>?_)
 ·
  refine qar [(10,.v (.bool true))] ab bj fun mC gi=>?_
  refine wp_ret (qat (qaM gi ab.cells (v:=.bool true) kz ?_))
  exact ⟨rfl,ab.step⟩
 refine wp_skip (qab (wp_seq (qar (z18 v flex k1) ab bj fun mD gj=>?_)))
 refine wp_block (wp_seq (qar [(1,.v (.int .i64 v)),(2,.v (.bool flex)),(5,.p 0 0),(8,.p 1 0),(9,.p 2 0),(49,.v (.int .i64 k1)),(50,.v (.bool (k1 == 8)))] ab gj fun mF dj=>?_))
 refine qam dj (b:=k1 == 8) kz (by simp [ac]) ?_
 refine qaq [0,1] kz ?_
 refine qaj [0,1] [] [(1,.v (.int .i64 v)),(2,.v (.bool flex)),(5,.p 0 0),(8,.p 1 0),(9,.p 2 0),(49,.v (.int .i64 k1)),(50,.v (.bool (k1 == 9)))] ab dj fun mG dl=>?_
 refine qaf (qab ?_)
 refine qam dl (b:=k1 == 9) kz (by simp [ac]) ?_
 refine qar [(1,.v (.int .i64 v)),(2,.v (.bool flex)),(5,.p 0 0),(8,.p 1 0),(9,.p 2 0),(49,.v (.int .i64 k1)),(59,.v (.bool (k1 == 7)))] ab dl fun mH dp=>?_
 refine qam dp (b:=k1 == 7) kz (by simp [ac]) ?_
 refine qar [(1,.v (.int .i64 v)),(2,.v (.bool flex)),(5,.p 0 0),(8,.p 1 0),(9,.p 2 0),(49,.v (.int .i64 k1)),(70,.v (.bool (k1 == 10)))] ab dp fun mI dq=>?_
 refine qam dq (b:=k1 == 10) kz (by simp [ac]) ?_
 refine qar [(1,.v (.int .i64 v)),(2,.v (.bool flex)),(5,.p 0 0),(8,.p 1 0),(9,.p 2 0),(79,.v (.bool (k1 == 11)))] ab dq fun mJ dr=>?_
 refine qa4 dr (b:=k1 == 11) kz (by simpa using ac) ?_
 refine qae [0,1,2,3] kz ?_
 refine qaj [0,1] [2,3] [(1,.v (.int .i64 v)),(2,.v (.bool flex)),(5,.p 0 0),(9,.p 2 0),(82,.v (.slice ae aa.length af))] ab dr fun mK gk=>?_
 refine qal (qak gk (f:=73) (vs:=[.slice ae aa.length af]) (d:=83) kz Tryz.call73 (qgo _ _ aa (dF.move ab.step nilM ab.imm).le _) ?_)
 rintro e_ mL ⟨rfl,dt⟩
 refine ⟨_,rfl,fun mM gl=>?_⟩
 have ax:=ab.next_nil dt
 have j1:=ab.frN dt
 refine qaj [3] [] (z60 v flex ae aa af) ax gl fun mN gm=>?_
 refine qaf (qab ?_)
 refine wp_seq (qar [(1,.v (.int .i64 v)),(2,.v (.bool flex)),(5,.p 0 0),(9,.p 2 0),(14,.v (.slice ae ((qao aa).length) af)),(89,.v (.bool (((ao.length:Nat):Int) != (((qao aa).length:Nat):Int))))] ax gm fun mO bk=>?_)
 refine qaw bk (b:=((ao.length:Nat):Int) != (((qao aa).length:Nat):Int)) kz (fun bn=>?_) (fun bn=>?_)
 ·
  have j2:((ao.length:Nat):Int) ≠ (((qao aa).length:Nat):Int):=by simpa using bn
  refine qar [(10,.v (.bool false))] ax bk fun mQ gn=>?_
  refine wp_ret (qat (qay (qat (qaM gn ax.cells (v:=.bool false) kz ?_))))
  first
   | exact (qgB hq ‹_› ‹_› ‹_›).elim
   | exact (qhU (hQ.2 ac ‹_›).1 ‹_›).elim
   | (exfalso; simp_all; done)
 have j3:((ao.length:Nat):Int) = (((qao aa).length:Nat):Int):=by simpa using bn
 refine wp_skip (qab (qae [0,1,2] kz ?_))
 refine qaj [0] [1,2] (z42 v flex ae aa af k1 y2 y3 y4 y5 y6 y7 A9 l8.length ap) ax bk fun mR gp=>?_
 refine qal (qaS ax gp (d:=15) (cs:=z16) kz fun iU mS mT j4 j5 j6 gq gt=>?_)
 refine qal (qap gq gt (oi:=3) (cs:=(z4 k1 y2 y3 y4 y5 y6 y7 A9 l8.length ap)) kz fun mU j7 du gv=>?_)
 refine qaf (qab ?_)
 refine qae [0,1,2,3,4,5,6,7] kz ?_
 refine qaj [0,1,2] [3,4,5,6,7] (z48 v flex ae aa af y7) du gv fun mV gw=>?_
 refine qal (qap du gw (oi:=3) (cs:=[.int .i64 y7,.int .i64 y2,.int .i64 y3,.int .i64 y4,.int .i64 y5,.int .i64 y6,.int .i64 y7,.slice A9 l8.length ap]) kz fun mW j8 dv gx=>?_)
 refine qaj [4] [5,6,7] (z54 v flex ae aa af) dv gx fun mX gy=>?_
 refine qal (qap dv gy (oi:=3) (cs:=[.int .i64 y7,.int .i64 y2,.int .i64 y3,.int .i64 (-1),.int .i64 y5,.int .i64 y6,.int .i64 y7,.slice A9 l8.length ap]) kz fun mY j9 dw gz=>?_)
 refine qaj [6] [7] (z55 v flex ae aa af) dw gz fun mZ gA=>?_
 refine qal (qap dw gA (oi:=3) (cs:=[.int .i64 y7,.int .i64 y2,.int .i64 y3,.int .i64 (-1),.int .i64 (-1),.int .i64 y6,.int .i64 y7,.slice A9 l8.length ap]) kz fun m4 ka bo gB=>?_)
 refine qaf (qab ?_)
 refine wp_seq (qar (z37 v flex ae aa af) bo gB fun m5 gC=>?_)
 refine wp_block ?_
 have hl_:=(hQ.2 ac ‹_›).2
 refine wp_loop_ghost (fun n_ a_ w_=>∃ (k:Nat),n_ = (qao aa).length - k ∧ k ≤ (qao aa).length ∧ LInv bo 124 [⟨g9,0,[.int .i64 k1,.int .i64 y2,.int .i64 y3,.int .i64 y4,.int .i64 y5,.int .i64 y6,.int .i64 y7,.slice A9 l8.length ap],true⟩,⟨hK,0,[.int .i64 aj,.slice ep ak.length eu,.bool al,.slice ae aa.length af,.slice ev am.length ew],true⟩,⟨ib,0,[.int .i64 gS,.slice gV gT.length gW,.bool cz,.slice bC ao.length dG,.slice gX gU.length gY],true⟩,⟨iU,0,[.int .i64 y7,.int .i64 y2,.int .i64 y3,.int .i64 (-1),.int .i64 (-1),.int .i64 y6,.int .i64 y7,.slice A9 l8.length ap],true⟩] [] [(1,.v (.int .i64 v)),(2,.v (.bool flex)),(9,.p 2 0),(14,.v (.slice ae ((qao aa).length) af)),(15,.p 3 0),(97,.v (.int .i64 (((qao aa).length:Nat):Int))),(98,.v (.int .i64 ((k:Nat):Int)))] a_ w_) ((qao aa).length) ⟨0,by omega,by omega,gC.pk,bo,Fr.refl _ _ _⟩ ?_
 rintro m6 m7 m8 ⟨k,kd,ke,gD,ay,gE⟩
 refine qar [(1,.v (.int .i64 v)),(2,.v (.bool flex)),(9,.p 2 0),(14,.v (.slice ae ((qao aa).length) af)),(15,.p 3 0),(97,.v (.int .i64 (((qao aa).length:Nat):Int))),(98,.v (.int .i64 ((k:Nat):Int))),(99,.v (.bool (decide (((k:Nat):Int) < (((qao aa).length:Nat):Int)))))] ay gD fun m9 bp=>?_
 refine wp_seq (qaw bp (b:=decide (((k:Nat):Int) < (((qao aa).length:Nat):Int))) kz (fun bq=>?_) (fun bq=>?_))
 ·
  have kf:=of_decide_eq_true bq
  refine wp_skip (qab (wp_seq (wp_block (qar (z30 v flex ae aa af k) ay bp fun nf gF=>?_))))
  refine qaE 14 kz ay fun ng gG ai aC=>?_
  refine qaD [0,1,2,3,4,7,8,9] (z17 v flex ae aa af k y7 y2 y3 y6 A9 l8.length ap bC ao.length dG) 6 (qaa (qac (qaa (qaa (qac (qaa (qac (qaa qad)))))))) (fun _ h=>h.cells) aC gF fun nh gH=>?_
  obtain ⟨iV,iW,gI,kg,bt⟩:=Slots.get (qc2 dF) (i:=k) (by first | omega | (have h_:ao.length = (qao aa).length:=(hQ.2 ac ‹_›).1; omega))
  obtain ⟨iX,dx⟩:∃ x,(qao aa)[k]? = some x:=⟨_,List.getElem?_eq_getElem (by omega)⟩
  have bu:=(qdk g7) k iX dx
  obtain ⟨bY,bZ,b8,cd,ce,ea,eb,ec,ee,ef,eg,kh,rfl,bw,iY,iZ,ni,nj⟩:=bu.open_
  rw [bw] at bu
  have i6:=iY.small
  have i7:=iZ.small
  rw [bw] at bt
  refine qaJ gH (i:=5) (t:=23) (A:=ae) (m:=((qao aa).length)) (q:=((k:Nat):Int)) (d:=106) kz (e:=26) (size:=5) (bytes:=88) kz gI rfl (by first | omega | (have h_:ao.length = (qao aa).length:=(hQ.2 ac ‹_›).1; omega)) kz kz (qaa (qac (qaa (qaa (qac (qaa (qac (qaa qad)))))))) aC fun nk gJ=>?_
  refine qa6 gJ (i:=6) (t:=26) (b:=iV) (o:=iW + k * 5) (d:=107) kz (cs:=(z2 bY ea bZ.length eb b8 ec cd.length ee ef ce.length eg)) (v:=.agg #[.int .i64 bY,.slice ea bZ.length eb,.bool b8,.slice ec cd.length ee,.slice ef ce.length eg]) kz (fun w' h'=>(AtF.move bt (TT.step0 ai h') nilM qbb).at_) kz kz (qaa (qac (qaa (qaa (qac (qaa (qac (qaa qad)))))))) aC fun nl gK=>?_
  obtain ⟨ja,jb,gL,ki,bx⟩:=Slots.get gZ (i:=k) (by first | omega | (have h_:ao.length = (qao aa).length:=(hQ.2 ac ‹_›).1; omega))
  obtain ⟨jc,dy⟩:∃ x,ao[k]? = some x:=⟨_,List.getElem?_eq_getElem (by omega)⟩
  have bz:=g8 k jc dy
  obtain ⟨cm,cq,cr,cu,cw,eh,ei,ej,ek,em,eo,kj,rfl,bA,jd,je,nm,np⟩:=bz.open_
  rw [bA] at bz
  have jf:=jd.small
  have jg:=je.small
  rw [bA] at bx
  refine qaJ gK (i:=10) (t:=23) (A:=bC) (m:=ao.length) (q:=((k:Nat):Int)) (d:=111) kz (e:=26) (size:=5) (bytes:=88) kz gL rfl (by first | omega | (have h_:ao.length = (qao aa).length:=(hQ.2 ac ‹_›).1; omega)) kz kz (qaa (qac (qaa (qaa (qac (qaa (qac (qaa qad)))))))) aC fun nr gM=>?_
  refine qa6 gM (i:=11) (t:=26) (b:=ja) (o:=jb + k * 5) (d:=112) kz (cs:=(z2 cm eh cq.length ei cr ej cu.length ek em cw.length eo)) (v:=.agg #[.int .i64 cm,.slice eh cq.length ei,.bool cr,.slice ej cu.length ek,.slice em cw.length eo]) kz (fun w' h'=>(AtF.move bx (TT.step0 ai h') nilM qbb).at_) kz kz (qaa (qac (qaa (qaa (qac (qaa (qac (qaa qad)))))))) aC fun ns gN=>?_
  refine qan (i:=12) kz (qak gN (f:=36) (vs:=[.agg #[.int .i64 y7,.int .i64 y2,.int .i64 y3,.int .i64 (-1),.int .i64 (-1),.int .i64 y6,.int .i64 y7,.slice A9 l8.length ap],.int .i64 v,.bool flex,.agg #[.int .i64 bY,.slice ea bZ.length eb,.bool b8,.slice ec cd.length ee,.slice ef ce.length eg],.agg #[.int .i64 cm,.slice eh cq.length ei,.bool cr,.slice ej cu.length ek,.slice em cw.length eo]]) (d:=113) kz Tryz.call36 ( qh1 hT _ _ _ (Tree.mk bY bZ b8 cd ce) _ (Tree.mk cm cq cr cu cw) _ _ (FldR.mk (l:=l8) dE (gR.move ai.step nilM ai.imm) (fun i_ x_ h_=>((g6 i_ x_ h_).move ai.step nilM ai.imm))) hpl hof (bu.move ai.step nilM ai.imm) (bz.move ai.step nilM ai.imm) (hl_ _ _ _ dx dy)) ?_)
  rintro e_ nt ⟨rfl,dz⟩
  refine ⟨_,rfl,fun nu gO=>?_⟩
  have bB:=ai.next_nil dz
  have dA:=ai.frN dz
  have dB:=TT.ofW dA bB
  refine ⟨fun _=>dB,?_⟩
  refine qaD [13] (z34 v flex ae aa af k) 0 (qaa (qac (qaa (qaa (qac (qaa (qac (qaa qad)))))))) (fun _ h=>h.cells) dB gO fun nv dC=>?_
  refine qaC kz ?_ _
  refine qab (qam dC (b:=false) kz rfl ?_)
  refine wp_skip (qas (qab (qaq [0,1] kz ?_)))
  refine qaj [0,1] [] [(1,.v (.int .i64 v)),(2,.v (.bool flex)),(9,.p 2 0),(14,.v (.slice ae ((qao aa).length) af)),(15,.p 3 0),(97,.v (.int .i64 (((qao aa).length:Nat):Int))),(98,.v (.int .i64 (IntKind.i64.wrap (((k:Nat):Int) + 1))))] bB dC fun nw dD=>?_
  refine qaf (qab ?_)
  have gP:IntKind.i64.wrap (((k:Nat):Int) + 1) = ((k + 1:Nat):Int):=qaP (by omega)
  rw [gP] at dD
  exact ⟨(qao aa).length - (k + 1),by omega,k + 1,rfl,by omega,dD.pk,bB,((gE.trans gG).trans dA)⟩
 have km:=of_decide_eq_false bq
 refine wp_exit (qau (qau (qaL (qab (qar [(10,.v (.bool true))] ay bp fun nx gQ=>?_)))))
 refine wp_ret (qay (qat (qaM gQ ay.cells (v:=.bool true) kz ?_)))
 exact ⟨rfl,ay.step⟩
theorem qlS {v:Int} {flex:Bool} {T:List Fld → Tree → Tree → Prop} (hT:ToOK v flex T) (cf:List Value) (f:Fld) (ct:List Value) (t:Tree) (cg:List Value) (g:Tree) (w:World) (F:Nat → Nat → Prop) (hf:FldR w F cf f) (hpl:f.plain) (ht:TreeR w F ct t) (hg:TreeR w F cg g) (hQ:ToF T v f t g) :
  Calls Tryz.prog 36 #[.agg cf.toArray,.int .i64 v,.bool flex,.agg ct.toArray,.agg cg.toArray] w (qcu w (.bool true)):=by
 by_cases h:f.kind = 11
 ·exact qlf hT cf f ct t cg g w F hf hpl h ht hg hQ
 exact qh1 hT cf f ct t cg g w F hf (qjb hpl) h ht hg hQ.1
abbrev z43 (x0) (x1) (x2) (x3) (x4) (x5):=([(0,.v (.slice x0 x1 x2)),(1,.v (.int .i64 x3)),(2,.v (.bool x4)),(8,.p 0 0),(9,.p 1 0),(11,.v (.int .i64 ((x5:Nat):Int))),(12,.p 2 0),(13,.p 3 0),(23,.v (.slice x0 x1 x2)),(24,.v (.int .i64 ((x1:Nat):Int))),(25,.v (.int .i64 ((x5:Nat):Int))),(41,.v (.bool false)),(48,.v (.bool x4))]:Env)
abbrev z46 (x0) (x1) (x2) (x3) (x4):=([(0,.v (.slice x0 x1 x2)),(1,.v (.int .i64 x3)),(2,.v (.bool false)),(8,.p 0 0),(9,.p 1 0),(11,.v (.int .i64 ((x4:Nat):Int))),(12,.p 2 0),(13,.p 3 0),(23,.v (.slice x0 x1 x2)),(24,.v (.int .i64 ((x1:Nat):Int))),(25,.v (.int .i64 ((x4:Nat):Int))),(54,.v (.bool false))]:Env)
abbrev z47 (x0) (x1) (x2) (x3) (x4) (x5):=([(0,.v (.slice x0 x1 x2)),(1,.v (.int .i64 x3)),(2,.v (.bool x4)),(8,.p 0 0),(9,.p 1 0),(11,.v (.int .i64 ((x5:Nat):Int))),(12,.p 2 0),(13,.p 3 0),(23,.v (.slice x0 x1 x2)),(24,.v (.int .i64 ((x1:Nat):Int))),(25,.v (.int .i64 ((x5:Nat):Int))),(54,.v (.bool false))]:Env)
abbrev z51 (x0) (x1) (x2) (x3) (x4) (x5) (x6) (x7) (x8) (x9) (x10) (x11) (x12) (x13) (x14) (x15) (x16) (x17) (x18) (x19) (x20) (x21) (x22) (x23) (x24) (x25):=([(0,.v (.slice x0 x1 x2)),(1,.v (.int .i64 x3)),(2,.v (.bool true)),(8,.p 0 0),(9,.p 1 0),(11,.v (.int .i64 ((x4:Nat):Int))),(12,.p 2 0),(13,.p 3 0),(23,.v (.slice x0 x1 x2)),(24,.v (.int .i64 ((x1:Nat):Int))),(25,.v (.int .i64 ((x4:Nat):Int))),(41,.v (.bool false)),(48,.v (.bool true)),(49,.v (.agg #[.int .i64 x5,.int .i64 x6,.int .i64 x7,.int .i64 x8,.int .i64 x9,.int .i64 x10,.int .i64 x11,.slice x12 x13 x14])),(50,.v (.agg #[.int .i64 x15,.slice x16 x17 x18,.bool x19,.slice x20 x21 x22,.slice x23 x24 x25]))]:Env)
abbrev z56 (x0) (x1) (x2) (x3) (x4) (x5):=([(0,.v (.slice x0 x1 x2)),(1,.v (.int .i64 x3)),(2,.v (.bool x4)),(8,.p 0 0),(9,.p 1 0),(23,.v (.slice x0 x1 x2)),(24,.v (.int .i64 ((x1:Nat):Int))),(25,.v (.int .i64 ((x5:Nat):Int))),(76,.v (.bool false))]:Env)
set_option maxHeartbeats 4000000 in
theorem qkJ {v:Int} {flex:Bool} {T:List Fld → Tree → Tree → Prop} {U:List Fld → Tree → Prop} (hT:ToOK v flex T) (hU:UsOK U) (A:Option Addr) (c:Nat) (l:List Fld) (ct:List Value) (t:Tree) (cg:List Value) (g:Tree) (w:World) (F:Nat → Nat → Prop) (hl:FldsR w F A c l) (ht:TreeR w F ct t) (hg:TreeR w F cg g) (hpl:plains l) (hP:ToP T U l v flex t g) :
  Calls Tryz.prog 13 #[.slice A l.length c,.int .i64 v,.bool flex,.agg ct.toArray,.agg cg.toArray] w (qcu w (.bool true)):=by
 obtain ⟨xfs,h1,h2⟩:=hl.ex
 have hsm:=h1.small
 obtain ⟨n1,s2,b3,l4,u5,A6,c7,A8,c9,bE,bF,jL,rfl,rfl,jM,jN,mD,jO⟩:=ht.open_
 have iM:=jM.small
 have iN:=jN.small
 obtain ⟨cO,cP,cQ,aF,aB,cR,cS,bG,bN,bH,bO,jP,rfl,rfl,jQ,g7,iO,jR⟩:=hg.open_
 have iP:=jQ.small
 have iQ:=g7.small
 have hlen:aF.length = l.length:=hP.1
 have hgu:aB = if flex = true then qcD (qai l u5) else []:=hP.2.2
 obtain ⟨jS,iR,jT⟩:=jR.ex
 have iS:=iR.small
 refine enter (n:=120) Tryz.func13 rfl Tryz.ntmps13 kz fun a hE=>?_
 have hW:=WOk.start w Nil
 refine qae [0,1,2] kz ?_
 refine qal (qbm hW hE (d:=8) (cs:=(z2 n1 A6 s2.length c7 b3 A8 l4.length c9 bE u5.length bF)) kz fun df mF mG jU jV jW g8 g9=>?_)
 refine qal (qbm g8 g9 (d:=9) (cs:=(z2 cO cR cP.length cS cQ bG aF.length bN bH aB.length bO)) kz fun dg mH mI jX jY jZ bt hC=>?_)
 refine qaj [2] [] [(0,.v (.slice A l.length c)),(1,.v (.int .i64 v)),(2,.v (.bool flex)),(8,.p 0 0),(9,.p 1 0)] bt hC fun mJ hJ=>?_
 refine qaf (qab ?_)
 refine wp_seq (qar [(0,.v (.slice A l.length c)),(1,.v (.int .i64 v)),(2,.v (.bool flex)),(8,.p 0 0),(9,.p 1 0),(22,.v (.bool (((aF.length:Nat):Int) != ((l.length:Nat):Int))))] bt hJ fun mK ec=>?_)
 refine qaw ec (b:=((aF.length:Nat):Int) != ((l.length:Nat):Int)) kz (fun ee=>?_) (fun ee=>?_)
 ·
  have j0:((aF.length:Nat):Int) ≠ ((l.length:Nat):Int):=by simpa using ee
  refine qar [(10,.v (.bool false))] bt ec fun mL hK=>?_
  refine wp_ret (qat (qaM hK bt.cells (v:=.bool false) kz ?_))
  first
   | (exfalso; omega)
   | exact (qeH hgu ‹_› ‹_›).elim
   | exact (qdI hgu ‹_› ‹_›).elim
   | exact (qeI hgu ‹_› ‹_› ‹_› ‹_›).elim
   | exact (qeJ hgu ‹_› ‹_› ‹_› ‹_›).elim
   | (exfalso; simp_all; done)
 have j1:((aF.length:Nat):Int) = ((l.length:Nat):Int):=by simpa using ee
 refine wp_skip (qab (wp_seq (qar [(0,.v (.slice A l.length c)),(1,.v (.int .i64 v)),(2,.v (.bool flex)),(8,.p 0 0),(9,.p 1 0),(23,.v (.slice A l.length c)),(24,.v (.int .i64 ((l.length:Nat):Int))),(25,.v (.int .i64 0))] bt ec fun mM hZ=>?_)))
 refine wp_block (wp_loop_ghost (fun n_ a_ w_=>∃ (k:Nat),n_ = l.length - k ∧ k ≤ l.length ∧ LInv bt 120 [⟨df,0,[.int .i64 n1,.slice A6 s2.length c7,.bool b3,.slice A8 l4.length c9,.slice bE u5.length bF],true⟩,⟨dg,0,[.int .i64 cO,.slice cR cP.length cS,.bool cQ,.slice bG aF.length bN,.slice bH aB.length bO],true⟩] [] [(0,.v (.slice A l.length c)),(1,.v (.int .i64 v)),(2,.v (.bool flex)),(8,.p 0 0),(9,.p 1 0),(23,.v (.slice A l.length c)),(24,.v (.int .i64 ((l.length:Nat):Int))),(25,.v (.int .i64 ((k:Nat):Int)))] a_ w_) (l.length) ⟨0,by omega,by omega,hZ.pk,bt,Fr.refl _ _ _⟩ ?_)
 rintro mN mO mQ ⟨k,j2,j3,ia,av,ef⟩
 refine qar [(0,.v (.slice A l.length c)),(1,.v (.int .i64 v)),(2,.v (.bool flex)),(8,.p 0 0),(9,.p 1 0),(23,.v (.slice A l.length c)),(24,.v (.int .i64 ((l.length:Nat):Int))),(25,.v (.int .i64 ((k:Nat):Int))),(26,.v (.bool (decide (((k:Nat):Int) < ((l.length:Nat):Int)))))] av ia fun mR eg=>?_
 refine wp_seq (qaw eg (b:=decide (((k:Nat):Int) < ((l.length:Nat):Int))) kz (fun eh=>?_) (fun eh=>?_))
 ·
  have j4:=of_decide_eq_true eh
  refine wp_skip (qab (wp_seq (wp_block (qae [0,1,2,3,4,5] kz ?_))))
  refine qaj [0] [1,2,3,4,5] [(0,.v (.slice A l.length c)),(1,.v (.int .i64 v)),(2,.v (.bool flex)),(8,.p 0 0),(9,.p 1 0),(23,.v (.slice A l.length c)),(24,.v (.int .i64 ((l.length:Nat):Int))),(25,.v (.int .i64 ((k:Nat):Int))),(27,.v (.int .i64 ((k:Nat):Int)))] av eg fun mS ib=>?_
  obtain ⟨j5,j6,ic,j7,dh⟩:=Slots.get h1 (i:=k) (by first | omega | (have h_:=qcH hgu ‹_›; omega))
  obtain ⟨j8,bP⟩:∃ x,l[k]? = some x:=⟨_,List.getElem?_eq_getElem (by omega)⟩
  have bu:=h2 k j8 bP
  obtain ⟨aj,ak,al,am,ag,ao,aa,ab,ap,ar,iT,rfl,bQ,ig,j9⟩:=bu.open_
  rw [bQ] at bu
  have ii:=ig.small
  rw [bQ] at dh
  refine qal (qax ib (t:=29) (A:=A) (m:=l.length) (q:=((k:Nat):Int)) (d:=28) kz (e:=51) (size:=8) (bytes:=80) kz ic rfl (by first | omega | (have h_:=qcH hgu ‹_›; omega)) fun ka ez=>?_)
  refine qal (qaU ez (t:=51) (b:=j5) (o:=j6 + k * 8) (d:=29) kz (cs:=(z4 aj ak al am ag ao aa ap ab.length ar)) (v:=.agg #[.int .i64 aj,.int .i64 ak,.int .i64 al,.int .i64 am,.int .i64 ag,.int .i64 ao,.int .i64 aa,.slice ap ab.length ar]) kz (AtF.move dh av.step nilM qbb).at_ fun kd eB=>?_)
  refine qal (qaS av eB (d:=12) (cs:=z16) kz fun ij ke kf iU iV bR di eC=>?_)
  refine qaj [4] [5] [(0,.v (.slice A l.length c)),(1,.v (.int .i64 v)),(2,.v (.bool flex)),(8,.p 0 0),(9,.p 1 0),(11,.v (.int .i64 ((k:Nat):Int))),(12,.p 2 0),(23,.v (.slice A l.length c)),(24,.v (.int .i64 ((l.length:Nat):Int))),(25,.v (.int .i64 ((k:Nat):Int))),(29,.v (.agg #[.int .i64 aj,.int .i64 ak,.int .i64 al,.int .i64 am,.int .i64 ag,.int .i64 ao,.int .i64 aa,.slice ap ab.length ar]))] di eC fun kg eD=>?_
  refine qal (qap di eD (oi:=2) (cs:=(z4 aj ak al am ag ao aa ap ab.length ar)) kz fun kh bS aG eE=>?_)
  refine qaf (qab ?_)
  refine qae [0,1,2,3,4] kz ?_
  refine qaj [0,1] [2,3,4] [(0,.v (.slice A l.length c)),(1,.v (.int .i64 v)),(2,.v (.bool flex)),(8,.p 0 0),(9,.p 1 0),(11,.v (.int .i64 ((k:Nat):Int))),(12,.p 2 0),(23,.v (.slice A l.length c)),(24,.v (.int .i64 ((l.length:Nat):Int))),(25,.v (.int .i64 ((k:Nat):Int))),(30,.v (.agg #[.int .i64 n1,.slice A6 s2.length c7,.bool b3,.slice A8 l4.length c9,.slice bE u5.length bF])),(31,.v (.int .i64 ((k:Nat):Int)))] aG eE fun ki eF=>?_
  refine qal (qak eF (f:=33) (vs:=[.agg #[.int .i64 n1,.slice A6 s2.length c7,.bool b3,.slice A8 l4.length c9,.slice bE u5.length bF],.int .i64 ((k:Nat):Int)]) (d:=32) kz Tryz.call33 (sAt _ _ k _ _ (ht.move aG.step nilM aG.imm)) ?_)
  rintro e_ kj ⟨iW,rfl,eG,aK⟩
  have aL:=eG.move aK nilM (fun b o h_ hb_=>aG.laid (G:=F) aK b o (.inl h_) (Nat.lt_of_lt_of_le hb_ aK.size))
  obtain ⟨aM,aN,aO,aP,aQ,aR,aS,aT,aU,aV,aW,iX,iY,bT,ik,il,km,ko⟩:=aL.open_
  rw [bT] at aL
  have im:=ik.small
  have io:=il.small
  rw [bT]
  refine ⟨_,rfl,fun kp eH=>?_⟩
  have eI:=aG.next_nil aK
  have bU:=aG.frN aK
  refine qal (qaS eI eH (d:=13) (cs:=z0) kz fun ip kq ku iZ i6 aw eJ eK=>?_)
  refine qal (qap eJ eK (oi:=3) (cs:=(z2 aM aR aN.length aS aO aT aP.length aU aV aQ.length aW)) kz fun kv ax ac eL=>?_)
  refine qaf (qab ?_)
  refine wp_seq (wp_seq (qhu (Mid:=fun a_ w_=>LInv ac 120 [⟨df,0,(z2 n1 A6 s2.length c7 b3 A8 l4.length c9 bE u5.length bF),true⟩,⟨dg,0,(z2 cO cR cP.length cS cQ bG aF.length bN bH aB.length bO),true⟩,⟨ij,0,(z4 aj ak al am ag ao aa ap ab.length ar),true⟩,⟨ip,0,(z2 aM aR aN.length aS aO aT aP.length aU aV aQ.length aW),true⟩] [] [(0,.v (.slice A l.length c)),(1,.v (.int .i64 v)),(2,.v (.bool flex)),(8,.p 0 0),(9,.p 1 0),(11,.v (.int .i64 ((k:Nat):Int))),(12,.p 2 0),(13,.p 3 0),(23,.v (.slice A l.length c)),(24,.v (.int .i64 ((l.length:Nat):Int))),(25,.v (.int .i64 ((k:Nat):Int))),(54,.v (.bool (Fld.pres (Fld.mk aj ak al am ag ao aa ab) v flex (Tree.at_ (Tree.mk n1 s2 b3 l4 u5) k))))] a_ w_) ?_ ?_))
  ·
   refine qaq [0,1,2,3,4,5,6,7,8,9,10,11,12,13,14,15,16,17,18,19,20,21] kz ?_
   refine qaj [0,1,2,3] [4,5,6,7,8,9,10,11,12,13,14,15,16,17,18,19,20,21] [(0,.v (.slice A l.length c)),(1,.v (.int .i64 v)),(2,.v (.bool flex)),(8,.p 0 0),(9,.p 1 0),(11,.v (.int .i64 ((k:Nat):Int))),(12,.p 2 0),(13,.p 3 0),(23,.v (.slice A l.length c)),(24,.v (.int .i64 ((l.length:Nat):Int))),(25,.v (.int .i64 ((k:Nat):Int))),(36,.v (.bool (decide (ag < 0))))] ac eL fun kw dj=>?_
   refine (Bool.eq_false_or_eq_true (decide (ag < 0))).elim (fun aX=>?_) (fun aX=>?_)
   ·
    have i7:=of_decide_eq_true aX
    have eM:=dj
    rw [aX] at eM
    refine qaj [4,5] [6,7,8,9,10,11,12,13,14,15,16,17,18,19,20,21] [(0,.v (.slice A l.length c)),(1,.v (.int .i64 v)),(2,.v (.bool flex)),(8,.p 0 0),(9,.p 1 0),(11,.v (.int .i64 ((k:Nat):Int))),(12,.p 2 0),(13,.p 3 0),(23,.v (.slice A l.length c)),(24,.v (.int .i64 ((l.length:Nat):Int))),(25,.v (.int .i64 ((k:Nat):Int))),(36,.v (.bool true)),(37,.v (.agg #[.int .i64 aj,.int .i64 ak,.int .i64 al,.int .i64 am,.int .i64 ag,.int .i64 ao,.int .i64 aa,.slice ap ab.length ar])),(38,.v (.int .i64 v))] ac eM fun kx eN=>?_
    refine qal (qak eN (f:=34) (vs:=[.agg #[.int .i64 aj,.int .i64 ak,.int .i64 al,.int .i64 am,.int .i64 ag,.int .i64 ao,.int .i64 aa,.slice ap ab.length ar],.int .i64 v]) (d:=39) kz Tryz.call34 (sHas aj ak al am ag ao aa ab _ _ v _) ?_)
    rintro e_ ky ⟨rfl,dl⟩
    refine ⟨_,rfl,fun kA eO=>?_⟩
    have af:=ac.next_nil dl
    have aH:=ac.frN dl
    refine qaj [7,8] [9,10,11,12,13,14,15,16,17,18,19,20,21] [(0,.v (.slice A l.length c)),(1,.v (.int .i64 v)),(2,.v (.bool flex)),(8,.p 0 0),(9,.p 1 0),(11,.v (.int .i64 ((k:Nat):Int))),(12,.p 2 0),(13,.p 3 0),(23,.v (.slice A l.length c)),(24,.v (.int .i64 ((l.length:Nat):Int))),(25,.v (.int .i64 ((k:Nat):Int))),(41,.v (.bool (Fld.has (Fld.mk aj ak al am ag ao aa ab) v)))] af eO fun kB dp=>?_
    refine (Bool.eq_false_or_eq_true (Fld.has (Fld.mk aj ak al am ag ao aa ab) v)).elim (fun bV=>?_) (fun bV=>?_)
    ·
     have eP:=dp
     rw [bV] at eP
     refine qaj [9,10,11,12,13,14,15,16,17,18,19,20,21] [] [(0,.v (.slice A l.length c)),(1,.v (.int .i64 v)),(2,.v (.bool flex)),(8,.p 0 0),(9,.p 1 0),(11,.v (.int .i64 ((k:Nat):Int))),(12,.p 2 0),(13,.p 3 0),(23,.v (.slice A l.length c)),(24,.v (.int .i64 ((l.length:Nat):Int))),(25,.v (.int .i64 ((k:Nat):Int))),(54,.v (.bool true))] af eP fun kC eQ=>?_
     refine qaf (qab ?_)
     have hp_:Fld.pres (Fld.mk aj ak al am ag ao aa ab) v flex (Tree.at_ (Tree.mk n1 s2 b3 l4 u5) k) = true:=by first | (first | exact qlQ ‹_› ‹_› | exact qlR ‹_› ‹_› ‹_›) | (exfalso; omega)
     exact ⟨(eQ.pk (env':=[(0,.v (.slice A l.length c)),(1,.v (.int .i64 v)),(2,.v (.bool flex)),(8,.p 0 0),(9,.p 1 0),(11,.v (.int .i64 ((k:Nat):Int))),(12,.p 2 0),(13,.p 3 0),(23,.v (.slice A l.length c)),(24,.v (.int .i64 ((l.length:Nat):Int))),(25,.v (.int .i64 ((k:Nat):Int))),(54,.v (.bool true))])).cast (by rw [hp_]),af,aH⟩
    have eR:=dp
    rw [bV] at eR
    refine qaj [9,10,11,12] [13,14,15,16,17,18,19,20,21] [(0,.v (.slice A l.length c)),(1,.v (.int .i64 v)),(2,.v (.bool flex)),(8,.p 0 0),(9,.p 1 0),(11,.v (.int .i64 ((k:Nat):Int))),(12,.p 2 0),(13,.p 3 0),(23,.v (.slice A l.length c)),(24,.v (.int .i64 ((l.length:Nat):Int))),(25,.v (.int .i64 ((k:Nat):Int))),(41,.v (.bool false)),(45,.v (.bool (decide (ag ≥ 0))))] af eR fun kD dq=>?_
    refine (Bool.eq_false_or_eq_true (decide (ag ≥ 0))).elim (fun aY=>?_) (fun aY=>?_)
    ·
     have ja:=of_decide_eq_true aY
     have eS:=dq
     rw [aY] at eS
     refine qaj [13,14,15] [16,17,18,19,20,21] (z43 A l.length c v flex k) af eS fun kE dr=>?_
     refine (Bool.eq_false_or_eq_true (flex)).elim (fun aZ=>?_) (fun aZ=>?_)
     ·
      have eU:=dr.cast (env':=[(0,.v (.slice A l.length c)),(1,.v (.int .i64 v)),(2,.v (.bool true)),(8,.p 0 0),(9,.p 1 0),(11,.v (.int .i64 ((k:Nat):Int))),(12,.p 2 0),(13,.p 3 0),(23,.v (.slice A l.length c)),(24,.v (.int .i64 ((l.length:Nat):Int))),(25,.v (.int .i64 ((k:Nat):Int))),(41,.v (.bool false)),(48,.v (.bool true))]) (by rw [aZ])
      refine qaj [16,17] [18,19,20,21] (z51 A l.length c v k aj ak al am ag ao aa ap ab.length ar aM aR aN.length aS aO aT aP.length aU aV aQ.length aW) af eU fun kF eV=>?_
      refine qal (qak eV (f:=35) (vs:=[.agg #[.int .i64 aj,.int .i64 ak,.int .i64 al,.int .i64 am,.int .i64 ag,.int .i64 ao,.int .i64 aa,.slice ap ab.length ar],.agg #[.int .i64 aM,.slice aR aN.length aS,.bool aO,.slice aT aP.length aU,.slice aV aQ.length aW]]) (d:=51) kz Tryz.call35 (qhS _ _ _ _ _ _ _ (bu.move af.step nilM af.imm) (Nat.le_refl _) (aL.move ((aw.trans ax).trans aH).step immM ((aw.trans ax).trans aH).to')) ?_)
      rintro e_ kG ⟨rfl,dt⟩
      refine ⟨_,rfl,fun kH eW=>?_⟩
      have du:=af.next_nil dt
      have eX:=af.frN dt
      refine qaj [19,20,21] [] [(0,.v (.slice A l.length c)),(1,.v (.int .i64 v)),(2,.v (.bool true)),(8,.p 0 0),(9,.p 1 0),(11,.v (.int .i64 ((k:Nat):Int))),(12,.p 2 0),(13,.p 3 0),(23,.v (.slice A l.length c)),(24,.v (.int .i64 ((l.length:Nat):Int))),(25,.v (.int .i64 ((k:Nat):Int))),(54,.v (.bool (!(Fld.usual (Fld.mk aj ak al am ag ao aa ab) (Tree.at_ (Tree.mk n1 s2 b3 l4 u5) k)))))] du eW fun kI eY=>?_
      refine qaf (qab ?_)
      have hp_:Fld.pres (Fld.mk aj ak al am ag ao aa ab) v flex (Tree.at_ (Tree.mk n1 s2 b3 l4 u5) k) = !(Fld.usual (Fld.mk aj ak al am ag ao aa ab) (Tree.at_ (Tree.mk n1 s2 b3 l4 u5) k)):=by first | (first | exact qkF ‹_› ‹_› | exact qkG ‹_›) | (exfalso; omega)
      exact ⟨(eY.pk (env':=[(0,.v (.slice A l.length c)),(1,.v (.int .i64 v)),(2,.v (.bool true)),(8,.p 0 0),(9,.p 1 0),(11,.v (.int .i64 ((k:Nat):Int))),(12,.p 2 0),(13,.p 3 0),(23,.v (.slice A l.length c)),(24,.v (.int .i64 ((l.length:Nat):Int))),(25,.v (.int .i64 ((k:Nat):Int))),(54,.v (.bool (!(Fld.usual (Fld.mk aj ak al am ag ao aa ab) (Tree.at_ (Tree.mk n1 s2 b3 l4 u5) k)))))])).cast (by rw [hp_,aZ]),du,(aH.trans eX)⟩
     have eZ:=dr.cast (env':=[(0,.v (.slice A l.length c)),(1,.v (.int .i64 v)),(2,.v (.bool false)),(8,.p 0 0),(9,.p 1 0),(11,.v (.int .i64 ((k:Nat):Int))),(12,.p 2 0),(13,.p 3 0),(23,.v (.slice A l.length c)),(24,.v (.int .i64 ((l.length:Nat):Int))),(25,.v (.int .i64 ((k:Nat):Int))),(41,.v (.bool false)),(48,.v (.bool false))]) (by rw [aZ])
     refine qaj [16,17,18,19,20,21] [] (z46 A l.length c v k) af eZ fun kJ e9=>?_
     refine qaf (qab ?_)
     have hp_:Fld.pres (Fld.mk aj ak al am ag ao aa ab) v flex (Tree.at_ (Tree.mk n1 s2 b3 l4 u5) k) = false:=by first | (first | exact qhV ‹_› ‹_› | exact qhW ‹_› ‹_› | exact qhX ‹_› ‹_›) | (exfalso; omega)
     exact ⟨(e9.pk (env':=[(0,.v (.slice A l.length c)),(1,.v (.int .i64 v)),(2,.v (.bool false)),(8,.p 0 0),(9,.p 1 0),(11,.v (.int .i64 ((k:Nat):Int))),(12,.p 2 0),(13,.p 3 0),(23,.v (.slice A l.length c)),(24,.v (.int .i64 ((l.length:Nat):Int))),(25,.v (.int .i64 ((k:Nat):Int))),(54,.v (.bool false))])).cast (by rw [hp_,aZ]),af,aH⟩
    have jb:=of_decide_eq_false aY
    have fa:=dq
    rw [aY] at fa
    refine qaj [13,14,15,16,17,18,19,20,21] [] (z47 A l.length c v flex k) af fa fun kK fb=>?_
    refine qaf (qab ?_)
    have hp_:Fld.pres (Fld.mk aj ak al am ag ao aa ab) v flex (Tree.at_ (Tree.mk n1 s2 b3 l4 u5) k) = false:=by first | (first | exact qhV ‹_› ‹_› | exact qhW ‹_› ‹_› | exact qhX ‹_› ‹_›) | (exfalso; omega)
    exact ⟨(fb.pk (env':=[(0,.v (.slice A l.length c)),(1,.v (.int .i64 v)),(2,.v (.bool flex)),(8,.p 0 0),(9,.p 1 0),(11,.v (.int .i64 ((k:Nat):Int))),(12,.p 2 0),(13,.p 3 0),(23,.v (.slice A l.length c)),(24,.v (.int .i64 ((l.length:Nat):Int))),(25,.v (.int .i64 ((k:Nat):Int))),(54,.v (.bool false))])).cast (by rw [hp_]),af,aH⟩
   have jc:=of_decide_eq_false aX
   have fe:=dj
   rw [aX] at fe
   refine qaj [4,5,6,7,8,9,10,11,12] [13,14,15,16,17,18,19,20,21] [(0,.v (.slice A l.length c)),(1,.v (.int .i64 v)),(2,.v (.bool flex)),(8,.p 0 0),(9,.p 1 0),(11,.v (.int .i64 ((k:Nat):Int))),(12,.p 2 0),(13,.p 3 0),(23,.v (.slice A l.length c)),(24,.v (.int .i64 ((l.length:Nat):Int))),(25,.v (.int .i64 ((k:Nat):Int))),(41,.v (.bool false)),(45,.v (.bool (decide (ag ≥ 0))))] ac fe fun kL dv=>?_
   refine (Bool.eq_false_or_eq_true (decide (ag ≥ 0))).elim (fun ba=>?_) (fun ba=>?_)
   ·
    have jd:=of_decide_eq_true ba
    have ff:=dv
    rw [ba] at ff
    refine qaj [13,14,15] [16,17,18,19,20,21] (z43 A l.length c v flex k) ac ff fun kM dw=>?_
    refine (Bool.eq_false_or_eq_true (flex)).elim (fun bd=>?_) (fun bd=>?_)
    ·
     have fg:=dw.cast (env':=[(0,.v (.slice A l.length c)),(1,.v (.int .i64 v)),(2,.v (.bool true)),(8,.p 0 0),(9,.p 1 0),(11,.v (.int .i64 ((k:Nat):Int))),(12,.p 2 0),(13,.p 3 0),(23,.v (.slice A l.length c)),(24,.v (.int .i64 ((l.length:Nat):Int))),(25,.v (.int .i64 ((k:Nat):Int))),(41,.v (.bool false)),(48,.v (.bool true))]) (by rw [bd])
     refine qaj [16,17] [18,19,20,21] (z51 A l.length c v k aj ak al am ag ao aa ap ab.length ar aM aR aN.length aS aO aT aP.length aU aV aQ.length aW) ac fg fun kN fh=>?_
     refine qal (qak fh (f:=35) (vs:=[.agg #[.int .i64 aj,.int .i64 ak,.int .i64 al,.int .i64 am,.int .i64 ag,.int .i64 ao,.int .i64 aa,.slice ap ab.length ar],.agg #[.int .i64 aM,.slice aR aN.length aS,.bool aO,.slice aT aP.length aU,.slice aV aQ.length aW]]) (d:=51) kz Tryz.call35 (qhS _ _ _ _ _ _ _ (bu.move ac.step nilM ac.imm) (Nat.le_refl _) (aL.move (aw.trans ax).step immM (aw.trans ax).to')) ?_)
     rintro e_ kO ⟨rfl,dx⟩
     refine ⟨_,rfl,fun kP fi=>?_⟩
     have dy:=ac.next_nil dx
     have fj:=ac.frN dx
     refine qaj [19,20,21] [] [(0,.v (.slice A l.length c)),(1,.v (.int .i64 v)),(2,.v (.bool true)),(8,.p 0 0),(9,.p 1 0),(11,.v (.int .i64 ((k:Nat):Int))),(12,.p 2 0),(13,.p 3 0),(23,.v (.slice A l.length c)),(24,.v (.int .i64 ((l.length:Nat):Int))),(25,.v (.int .i64 ((k:Nat):Int))),(54,.v (.bool (!(Fld.usual (Fld.mk aj ak al am ag ao aa ab) (Tree.at_ (Tree.mk n1 s2 b3 l4 u5) k)))))] dy fi fun kQ fk=>?_
     refine qaf (qab ?_)
     have hp_:Fld.pres (Fld.mk aj ak al am ag ao aa ab) v flex (Tree.at_ (Tree.mk n1 s2 b3 l4 u5) k) = !(Fld.usual (Fld.mk aj ak al am ag ao aa ab) (Tree.at_ (Tree.mk n1 s2 b3 l4 u5) k)):=by first | (first | exact qkF ‹_› ‹_› | exact qkG ‹_›) | (exfalso; omega)
     exact ⟨(fk.pk (env':=[(0,.v (.slice A l.length c)),(1,.v (.int .i64 v)),(2,.v (.bool true)),(8,.p 0 0),(9,.p 1 0),(11,.v (.int .i64 ((k:Nat):Int))),(12,.p 2 0),(13,.p 3 0),(23,.v (.slice A l.length c)),(24,.v (.int .i64 ((l.length:Nat):Int))),(25,.v (.int .i64 ((k:Nat):Int))),(54,.v (.bool (!(Fld.usual (Fld.mk aj ak al am ag ao aa ab) (Tree.at_ (Tree.mk n1 s2 b3 l4 u5) k)))))])).cast (by rw [hp_,bd]),dy,fj⟩
    have fm:=dw.cast (env':=[(0,.v (.slice A l.length c)),(1,.v (.int .i64 v)),(2,.v (.bool false)),(8,.p 0 0),(9,.p 1 0),(11,.v (.int .i64 ((k:Nat):Int))),(12,.p 2 0),(13,.p 3 0),(23,.v (.slice A l.length c)),(24,.v (.int .i64 ((l.length:Nat):Int))),(25,.v (.int .i64 ((k:Nat):Int))),(41,.v (.bool false)),(48,.v (.bool false))]) (by rw [bd])
    refine qaj [16,17,18,19,20,21] [] (z46 A l.length c v k) ac fm fun kR fo=>?_
    refine qaf (qab ?_)
    have hp_:Fld.pres (Fld.mk aj ak al am ag ao aa ab) v flex (Tree.at_ (Tree.mk n1 s2 b3 l4 u5) k) = false:=by first | (first | exact qhV ‹_› ‹_› | exact qhW ‹_› ‹_› | exact qhX ‹_› ‹_›) | (exfalso; omega)
    exact ⟨(fo.pk (env':=[(0,.v (.slice A l.length c)),(1,.v (.int .i64 v)),(2,.v (.bool false)),(8,.p 0 0),(9,.p 1 0),(11,.v (.int .i64 ((k:Nat):Int))),(12,.p 2 0),(13,.p 3 0),(23,.v (.slice A l.length c)),(24,.v (.int .i64 ((l.length:Nat):Int))),(25,.v (.int .i64 ((k:Nat):Int))),(54,.v (.bool false))])).cast (by rw [hp_,bd]),ac,Fr.refl _ _ _⟩
   have je:=of_decide_eq_false ba
   have fq:=dv
   rw [ba] at fq
   refine qaj [13,14,15,16,17,18,19,20,21] [] (z47 A l.length c v flex k) ac fq fun kS fr=>?_
   refine qaf (qab ?_)
   have hp_:Fld.pres (Fld.mk aj ak al am ag ao aa ab) v flex (Tree.at_ (Tree.mk n1 s2 b3 l4 u5) k) = false:=by first | (first | exact qhV ‹_› ‹_› | exact qhW ‹_› ‹_› | exact qhX ‹_› ‹_›) | (exfalso; omega)
   exact ⟨(fr.pk (env':=[(0,.v (.slice A l.length c)),(1,.v (.int .i64 v)),(2,.v (.bool flex)),(8,.p 0 0),(9,.p 1 0),(11,.v (.int .i64 ((k:Nat):Int))),(12,.p 2 0),(13,.p 3 0),(23,.v (.slice A l.length c)),(24,.v (.int .i64 ((l.length:Nat):Int))),(25,.v (.int .i64 ((k:Nat):Int))),(54,.v (.bool false))])).cast (by rw [hp_]),ac,Fr.refl _ _ _⟩
  rintro kT kU ⟨bW,dz,bf⟩
  refine qaw bW (b:=Fld.pres (Fld.mk aj ak al am ag ao aa ab) v flex (Tree.at_ (Tree.mk n1 s2 b3 l4 u5) k)) kz (fun ft=>?_) (fun ft=>?_)
  ·
   refine wp_seq (qaE 11 kz dz fun kV bX aC bY=>?_)
   refine qaD [0,1,2,3,4,5,6] [(0,.v (.slice A l.length c)),(1,.v (.int .i64 v)),(2,.v (.bool flex)),(8,.p 0 0),(9,.p 1 0),(23,.v (.slice A l.length c)),(24,.v (.int .i64 ((l.length:Nat):Int))),(25,.v (.int .i64 ((k:Nat):Int))),(55,.v (.agg #[.int .i64 aj,.int .i64 ak,.int .i64 al,.int .i64 am,.int .i64 ag,.int .i64 ao,.int .i64 aa,.slice ap ab.length ar])),(56,.v (.int .i64 v)),(57,.v (.bool flex)),(58,.v (.agg #[.int .i64 aM,.slice aR aN.length aS,.bool aO,.slice aT aP.length aU,.slice aV aQ.length aW])),(60,.v (.slice bG aF.length bN)),(61,.v (.int .i64 ((k:Nat):Int)))] 4 (qaa (qaa (qaa (qac (qaa (qaa (qac (qaa qad)))))))) (fun _ h=>h.cells) bY bW fun kW fu=>?_
   obtain ⟨iq,ir,fv,jf,bZ⟩:=Slots.get g7 (i:=k) (by first | omega | (have h_:=qcH hgu ‹_›; omega))
   obtain ⟨iu,dA⟩:∃ x,aF[k]? = some x:=⟨_,List.getElem?_eq_getElem (by omega)⟩
   have b8:=iO k iu dA
   obtain ⟨cT,cU,cV,cW,cX,ei,ej,ek,em,eo,ep,jg,rfl,cd,iv,iw,kX,kY⟩:=b8.open_
   rw [cd] at b8
   have ix:=iv.small
   have iy:=iw.small
   rw [cd] at bZ
   refine qaJ fu (i:=7) (t:=23) (A:=bG) (m:=aF.length) (q:=((k:Nat):Int)) (d:=62) kz (e:=26) (size:=5) (bytes:=88) kz fv rfl (by first | omega | (have h_:=qcH hgu ‹_›; omega)) kz kz (qaa (qaa (qaa (qac (qaa (qaa (qac (qaa qad)))))))) bY fun kZ fw=>?_
   refine qa6 fw (i:=8) (t:=26) (b:=iq) (o:=ir + k * 5) (d:=63) kz (cs:=(z2 cT ei cU.length ej cV ek cW.length em eo cX.length ep)) (v:=.agg #[.int .i64 cT,.slice ei cU.length ej,.bool cV,.slice ek cW.length em,.slice eo cX.length ep]) kz (fun w' h'=>(AtF.move bZ (TT.step0 aC h') nilM qbb).at_) kz kz (qaa (qaa (qaa (qac (qaa (qaa (qac (qaa qad)))))))) bY fun k5 fx=>?_
   refine qan (i:=9) kz (qak fx (f:=36) (vs:=[.agg #[.int .i64 aj,.int .i64 ak,.int .i64 al,.int .i64 am,.int .i64 ag,.int .i64 ao,.int .i64 aa,.slice ap ab.length ar],.int .i64 v,.bool flex,.agg #[.int .i64 aM,.slice aR aN.length aS,.bool aO,.slice aT aP.length aU,.slice aV aQ.length aW],.agg #[.int .i64 cT,.slice ei cU.length ej,.bool cV,.slice ek cW.length em,.slice eo cX.length ep]]) (d:=64) kz Tryz.call36 ( qlS hT _ _ _ (Tree.at_ (Tree.mk n1 s2 b3 l4 u5) k) _ (Tree.mk cT cU cV cW cX) _ _ (bu.move aC.step nilM aC.imm) (qfZ hpl (List.mem_of_getElem? bP)) (aL.move (((aw.trans ax).trans bf).trans bX).step immM (((aw.trans ax).trans bf).trans bX).to') (b8.move aC.step nilM aC.imm) ((hP.2.1 k _ _ bP dA).1 ‹_›)) ?_)
   rintro e_ k6 ⟨rfl,dB⟩
   refine ⟨_,rfl,fun k7 fy=>?_⟩
   have ce:=aC.next_nil dB
   have dC:=aC.frN dB
   have dD:=TT.ofW dC ce
   refine ⟨fun _=>dD,?_⟩
   refine qaD [10] [(0,.v (.slice A l.length c)),(1,.v (.int .i64 v)),(2,.v (.bool flex)),(8,.p 0 0),(9,.p 1 0),(23,.v (.slice A l.length c)),(24,.v (.int .i64 ((l.length:Nat):Int))),(25,.v (.int .i64 ((k:Nat):Int))),(65,.v (.bool false))] 0 (qaa (qaa (qaa (qac (qaa (qaa (qac (qaa qad)))))))) (fun _ h=>h.cells) dD fy fun k8 dE=>?_
   refine qaC kz ?_ _
   refine qab (qam dE (b:=false) kz rfl ?_)
   refine wp_skip (qab (wp_exit (qau (qaL (qab (qaq [0,1] kz ?_))))))
   refine qaj [0,1] [] [(0,.v (.slice A l.length c)),(1,.v (.int .i64 v)),(2,.v (.bool flex)),(8,.p 0 0),(9,.p 1 0),(23,.v (.slice A l.length c)),(24,.v (.int .i64 ((l.length:Nat):Int))),(25,.v (.int .i64 (IntKind.i64.wrap (((k:Nat):Int) + 1))))] ce dE fun k9 fz=>?_
   refine qaf (qab ?_)
   obtain ⟨dF,fA,fB⟩:=ce.cutB fz 2 [⟨df,0,(z2 n1 A6 s2.length c7 b3 A8 l4.length c9 bE u5.length bF),true⟩,⟨dg,0,(z2 cO cR cP.length cS cQ bG aF.length bN bH aB.length bO),true⟩] [(0,.v (.slice A l.length c)),(1,.v (.int .i64 v)),(2,.v (.bool flex)),(8,.p 0 0),(9,.p 1 0),(23,.v (.slice A l.length c)),(24,.v (.int .i64 ((l.length:Nat):Int))),(25,.v (.int .i64 (IntKind.i64.wrap (((k:Nat):Int) + 1))))]
   have fC:IntKind.i64.wrap (((k:Nat):Int) + 1) = ((k + 1:Nat):Int):=qaP (by omega)
   rw [fC] at dF
   exact ⟨l.length - (k + 1),by omega,k + 1,rfl,by omega,dF.pk,fA,(((((((((ef.trans bR).trans bS).trans bU).trans aw).trans ax).trans bf).trans bX).trans dC).trans fB)⟩
  refine wp_skip (qab (qaE 11 kz dz fun la dG cm cq=>?_))
  refine qaD [0,2,3,4] [(0,.v (.slice A l.length c)),(1,.v (.int .i64 v)),(2,.v (.bool flex)),(8,.p 0 0),(9,.p 1 0),(23,.v (.slice A l.length c)),(24,.v (.int .i64 ((l.length:Nat):Int))),(25,.v (.int .i64 ((k:Nat):Int))),(66,.v (.agg #[.int .i64 aj,.int .i64 ak,.int .i64 al,.int .i64 am,.int .i64 ag,.int .i64 ao,.int .i64 aa,.slice ap ab.length ar])),(69,.v (.slice bG aF.length bN)),(70,.v (.int .i64 ((k:Nat):Int)))] 7 (qaa (qac (qaa (qaa (qac (qaa qad)))))) (fun _ h=>h.cells) cq bW fun lb fD=>?_
  obtain ⟨iz,iA,fE,jh,cr⟩:=Slots.get g7 (i:=k) (by first | omega | (have h_:=qcH hgu ‹_›; omega))
  obtain ⟨iB,cu⟩:∃ x,aF[k]? = some x:=⟨_,List.getElem?_eq_getElem (by omega)⟩
  have bA:=iO k iB cu
  obtain ⟨bI,bJ,bK,bL,bM,cY,cZ,c5,c6,da,db,ji,rfl,cw,iC,iD,lc,ld⟩:=bA.open_
  rw [cw] at bA
  have iE:=iC.small
  have iF:=iD.small
  rw [cw] at cr
  refine qaJ fD (i:=5) (t:=23) (A:=bG) (m:=aF.length) (q:=((k:Nat):Int)) (d:=71) kz (e:=26) (size:=5) (bytes:=88) kz fE rfl (by first | omega | (have h_:=qcH hgu ‹_›; omega)) kz kz (qaa (qac (qaa (qaa (qac (qaa qad)))))) cq fun lf fF=>?_
  refine qa6 fF (i:=6) (t:=26) (b:=iz) (o:=iA + k * 5) (d:=72) kz (cs:=(z2 bI cY bJ.length cZ bK c5 bL.length c6 da bM.length db)) (v:=.agg #[.int .i64 bI,.slice cY bJ.length cZ,.bool bK,.slice c5 bL.length c6,.slice da bM.length db]) kz (fun w' h'=>(AtF.move cr (TT.step0 cm h') nilM qbb).at_) kz kz (qaa (qac (qaa (qaa (qac (qaa qad)))))) cq fun lg dH=>?_
  refine qc7 (i:=1) (j:=7) kz ?_ ?_
  ·
   refine (qbq cm dH (e:=51) (size:=8) (len:=1) (cs:=(z4 aj ak al am ag ao aa ap ab.length ar)) (d:=67) kz kz fun fG lh li jj jk bB dI fH=>?_)
   have fI:=TT.ofW bB dI
   refine ⟨fun _=>fI,?_⟩
   refine qan (i:=7) kz (qbq dI fH (e:=26) (size:=5) (len:=1) (cs:=(z2 bI cY bJ.length cZ bK c5 bL.length c6 da bM.length db)) (d:=73) kz kz fun fJ lj lm jl jm cz ay fK=>?_)
   have dJ:=TT.ofW (bB.trans cz) ay
   refine ⟨fun _=>dJ,?_⟩
   refine qaD [8] [(0,.v (.slice A l.length c)),(1,.v (.int .i64 v)),(2,.v (.bool flex)),(8,.p 0 0),(9,.p 1 0),(23,.v (.slice A l.length c)),(24,.v (.int .i64 ((l.length:Nat):Int))),(25,.v (.int .i64 ((k:Nat):Int))),(67,.v (.slice (some ⟨fG,0,none⟩) 1 1)),(74,.v (.agg #[.int .i64 0,.slice none 0 0,.bool false,.slice (some ⟨fJ,0,none⟩) 1 1,.slice none 0 0]))] 2 (qaa (qac (qaa (qaa (qac (qaa qad)))))) (fun _ h=>h.cells) dJ fK fun ln fL=>?_
   refine qan (i:=9) kz (qak fL (f:=37) (vs:=[.slice (some ⟨fG,0,none⟩) 1 1,.agg #[.int .i64 0,.slice none 0 0,.bool false,.slice (some ⟨fJ,0,none⟩) 1 1,.slice none 0 0]]) (d:=75) kz Tryz.call37 ( sUs hU _ _ [(Fld.mk aj ak al am ag ao aa ab)] _ (.mk 0 [] false [(Tree.mk bI bJ bK bL bM)] []) _ _ (qhY (ay.own 0 _ rfl) ((bu.move ay.step nilM ay.imm)) (Nat.le_refl _)) (qhZ (ay.own 1 _ rfl) ((bA.move ay.step nilM ay.imm)) (Nat.le_refl _)) (qkD ((hP.2.1 k _ _ bP cu).2 ‹_›))) ?_)
   rintro e_ lp ⟨rfl,dK⟩
   refine ⟨_,rfl,fun lq fM=>?_⟩
   have cA:=ay.next_nil dK
   have dL:=ay.frN dK
   have dM:=TT.ofW ((bB.trans cz).trans dL) cA
   refine ⟨fun _=>dM,?_⟩
   refine qaD [10] (z56 A l.length c v flex k) 0 (qaa (qac (qaa (qaa (qac (qaa qad)))))) (fun _ h=>h.cells) dM fM fun lr dN=>?_
   refine qaC kz ?_ _
   refine qab (qam dN (b:=false) kz rfl ?_)
   refine wp_skip (qas (qab (qaq [0,1] kz ?_)))
   refine qaj [0,1] [] [(0,.v (.slice A l.length c)),(1,.v (.int .i64 v)),(2,.v (.bool flex)),(8,.p 0 0),(9,.p 1 0),(23,.v (.slice A l.length c)),(24,.v (.int .i64 ((l.length:Nat):Int))),(25,.v (.int .i64 (IntKind.i64.wrap (((k:Nat):Int) + 1))))] cA dN fun ls fN=>?_
   refine qaf (qab ?_)
   obtain ⟨dO,fO,fP⟩:=cA.cutB fN 2 [⟨df,0,(z2 n1 A6 s2.length c7 b3 A8 l4.length c9 bE u5.length bF),true⟩,⟨dg,0,(z2 cO cR cP.length cS cQ bG aF.length bN bH aB.length bO),true⟩] [(0,.v (.slice A l.length c)),(1,.v (.int .i64 v)),(2,.v (.bool flex)),(8,.p 0 0),(9,.p 1 0),(23,.v (.slice A l.length c)),(24,.v (.int .i64 ((l.length:Nat):Int))),(25,.v (.int .i64 (IntKind.i64.wrap (((k:Nat):Int) + 1))))]
   obtain ⟨fQ,fR⟩:=fO.cutR 0 []
   have fS:IntKind.i64.wrap (((k:Nat):Int) + 1) = ((k + 1:Nat):Int):=qaP (by omega)
   rw [fS] at dO
   exact ⟨l.length - (k + 1),by omega,k + 1,rfl,by omega,dO.pk,fQ,((((((((((((ef.trans bR).trans bS).trans bU).trans aw).trans ax).trans bf).trans dG).trans bB).trans cz).trans dL).trans fP).trans fR)⟩
  refine (qbq cm dH (e:=26) (size:=5) (len:=1) (cs:=(z2 bI cY bJ.length cZ bK c5 bL.length c6 da bM.length db)) (d:=73) kz kz fun fT lu lv jn jo bC dP fU=>?_)
  have dQ:=TT.ofW bC dP
  refine ⟨fun _=>dQ,?_⟩
  refine qaD [8] [(0,.v (.slice A l.length c)),(1,.v (.int .i64 v)),(2,.v (.bool flex)),(8,.p 0 0),(9,.p 1 0),(23,.v (.slice A l.length c)),(24,.v (.int .i64 ((l.length:Nat):Int))),(25,.v (.int .i64 ((k:Nat):Int))),(66,.v (.agg #[.int .i64 aj,.int .i64 ak,.int .i64 al,.int .i64 am,.int .i64 ag,.int .i64 ao,.int .i64 aa,.slice ap ab.length ar])),(74,.v (.agg #[.int .i64 0,.slice none 0 0,.bool false,.slice (some ⟨fT,0,none⟩) 1 1,.slice none 0 0]))] 3 (qaa (qac (qaa (qaa (qac (qaa qad)))))) (fun _ h=>h.cells) dQ fU fun lw fV=>?_
  refine qan (i:=1) kz (qbq dP fV (e:=51) (size:=8) (len:=1) (cs:=(z4 aj ak al am ag ao aa ap ab.length ar)) (d:=67) kz kz fun iG lx ly jp jq cB az fW=>?_)
  have fX:=TT.ofW (bC.trans cB) az
  refine ⟨fun _=>fX,?_⟩
  refine qan (i:=9) kz (qak fW (f:=37) (vs:=[.slice (some ⟨iG,0,none⟩) 1 1,.agg #[.int .i64 0,.slice none 0 0,.bool false,.slice (some ⟨fT,0,none⟩) 1 1,.slice none 0 0]]) (d:=75) kz Tryz.call37 ( sUs hU _ _ [(Fld.mk aj ak al am ag ao aa ab)] _ (.mk 0 [] false [(Tree.mk bI bJ bK bL bM)] []) _ _ (qhY (az.own 1 _ rfl) ((bu.move az.step nilM az.imm)) (Nat.le_refl _)) (qhZ (az.own 0 _ rfl) ((bA.move az.step nilM az.imm)) (Nat.le_refl _)) (qkD ((hP.2.1 k _ _ bP cu).2 ‹_›))) ?_)
  rintro e_ lz ⟨rfl,dR⟩
  refine ⟨_,rfl,fun lA fY=>?_⟩
  have cC:=az.next_nil dR
  have dS:=az.frN dR
  have dT:=TT.ofW ((bC.trans cB).trans dS) cC
  refine ⟨fun _=>dT,?_⟩
  refine qaD [10] (z56 A l.length c v flex k) 0 (qaa (qac (qaa (qaa (qac (qaa qad)))))) (fun _ h=>h.cells) dT fY fun lB dU=>?_
  refine qaC kz ?_ _
  refine qab (qam dU (b:=false) kz rfl ?_)
  refine wp_skip (qas (qab (qaq [0,1] kz ?_)))
  refine qaj [0,1] [] [(0,.v (.slice A l.length c)),(1,.v (.int .i64 v)),(2,.v (.bool flex)),(8,.p 0 0),(9,.p 1 0),(23,.v (.slice A l.length c)),(24,.v (.int .i64 ((l.length:Nat):Int))),(25,.v (.int .i64 (IntKind.i64.wrap (((k:Nat):Int) + 1))))] cC dU fun lC fZ=>?_
  refine qaf (qab ?_)
  obtain ⟨dV,f5,f7⟩:=cC.cutB fZ 2 [⟨df,0,(z2 n1 A6 s2.length c7 b3 A8 l4.length c9 bE u5.length bF),true⟩,⟨dg,0,(z2 cO cR cP.length cS cQ bG aF.length bN bH aB.length bO),true⟩] [(0,.v (.slice A l.length c)),(1,.v (.int .i64 v)),(2,.v (.bool flex)),(8,.p 0 0),(9,.p 1 0),(23,.v (.slice A l.length c)),(24,.v (.int .i64 ((l.length:Nat):Int))),(25,.v (.int .i64 (IntKind.i64.wrap (((k:Nat):Int) + 1))))]
  obtain ⟨f8,f9⟩:=f5.cutR 0 []
  have ga:IntKind.i64.wrap (((k:Nat):Int) + 1) = ((k + 1:Nat):Int):=qaP (by omega)
  rw [ga] at dV
  exact ⟨l.length - (k + 1),by omega,k + 1,rfl,by omega,dV.pk,f8,((((((((((((ef.trans bR).trans bS).trans bU).trans aw).trans ax).trans bf).trans dG).trans bC).trans cB).trans dS).trans f7).trans f9)⟩
 have jr:=of_decide_eq_false eh
 refine wp_exit (qau (qau (qaL (qab (qae [0,1,2,3,4] kz ?_)))))
 refine qaj [0,1,2] [3,4] [(2,.v (.bool flex)),(9,.p 1 0),(78,.v (.slice A l.length c)),(80,.v (.slice bE u5.length bF))] av eg fun lD gb=>?_
 refine qal (qak gb (f:=38) (vs:=[.slice A l.length c,.slice bE u5.length bF]) (d:=81) kz Tryz.call38 (qgp _ _ l _ _ u5 _ _ ⟨xfs,(h1.move av.step nilM av.imm),(fun i_ x_ h_=>((h2 i_ x_ h_).move av.step nilM av.imm))⟩ (jO.move av.step nilM av.imm)) ?_)
 rintro e_ lE ⟨ah,ai,rfl,gc,cD⟩
 have gd:=gc.move (Step.refl _ Nil) nilM (av.laid (G:=F) cD)
 refine ⟨_,rfl,fun lF ge=>?_⟩
 have ae:=av.next_nil cD
 have js:=av.frN cD
 refine qaj [4] [] [(2,.v (.bool flex)),(9,.p 1 0),(14,.v (.slice ah ((qai l u5).length) ai))] ae ge fun lG gg=>?_
 refine qaf (qab ?_)
 refine wp_seq (qar [(9,.p 1 0),(14,.v (.slice ah ((qai l u5).length) ai)),(83,.v (.bool (!flex)))] ae gg fun lH cE=>?_)
 refine qaw cE (b:=!flex) kz (fun gh=>?_) (fun gh=>?_)
 ·
  refine qaq [0] kz ?_
  refine qaj [0] [] [(9,.p 1 0),(14,.v (.slice none 0 0))] ae cE fun lI gi=>?_
  refine qaf (qab ?_)
  refine wp_seq (qar [(9,.p 1 0),(14,.v (.slice none 0 0)),(89,.v (.bool (((aB.length:Nat):Int) != 0)))] ae gi fun lJ cG=>?_)
  refine qaw cG (b:=((aB.length:Nat):Int) != 0) kz (fun cH=>?_) (fun cH=>?_)
  ·
   have jt:((aB.length:Nat):Int) ≠ 0:=by simpa using cH
   refine qar [(10,.v (.bool false))] ae cG fun lK gj=>?_
   refine wp_ret (qat (qaM gj ae.cells (v:=.bool false) kz ?_))
   first
    | (exfalso; omega)
    | exact (qeH hgu ‹_› ‹_›).elim
    | exact (qdI hgu ‹_› ‹_›).elim
    | exact (qeI hgu ‹_› ‹_› ‹_› ‹_›).elim
    | exact (qeJ hgu ‹_› ‹_› ‹_› ‹_›).elim
    | (exfalso; simp_all; done)
  have ju:((aB.length:Nat):Int) = 0:=by simpa using cH
  refine wp_skip (qab (wp_seq (qar [(9,.p 1 0),(90,.v (.slice none 0 0)),(91,.v (.int .i64 0)),(92,.v (.int .i64 0))] ae cG fun lL gk=>?_)))
  refine wp_block (wp_loop_ghost (fun n_ a_ w_=>∃ (k:Nat),n_ = 0 - k ∧ k ≤ 0 ∧ LInv ae 120 [⟨df,0,[.int .i64 n1,.slice A6 s2.length c7,.bool b3,.slice A8 l4.length c9,.slice bE u5.length bF],true⟩,⟨dg,0,[.int .i64 cO,.slice cR cP.length cS,.bool cQ,.slice bG aF.length bN,.slice bH aB.length bO],true⟩] [] [(9,.p 1 0),(90,.v (.slice none 0 0)),(91,.v (.int .i64 0)),(92,.v (.int .i64 ((k:Nat):Int)))] a_ w_) (0) ⟨0,by omega,by omega,gk.pk,ae,Fr.refl _ _ _⟩ ?_)
  rintro lM lN lO ⟨k,jv,jw,gl,bD,jx⟩
  refine qar [(9,.p 1 0),(90,.v (.slice none 0 0)),(91,.v (.int .i64 0)),(92,.v (.int .i64 ((k:Nat):Int))),(93,.v (.bool (decide (((k:Nat):Int) < 0))))] bD gl fun lP dW=>?_
  refine wp_seq (qam dW (b:=decide (((k:Nat):Int) < 0)) kz (decide_eq_false (by omega)) ?_)
  refine wp_exit (qau (qau (qaL (qab (qar [(10,.v (.bool true))] bD dW fun lQ gm=>?_)))))
  refine wp_ret (qaM gm bD.cells (v:=.bool true) kz ?_)
  exact ⟨rfl,bD.step⟩
 refine wp_skip (qab (wp_seq (qar [(9,.p 1 0),(14,.v (.slice ah ((qai l u5).length) ai)),(89,.v (.bool (((aB.length:Nat):Int) != (((qai l u5).length:Nat):Int))))] ae cE fun lR cI=>?_)))
 refine qaw cI (b:=((aB.length:Nat):Int) != (((qai l u5).length:Nat):Int)) kz (fun cJ=>?_) (fun cJ=>?_)
 ·
  have jy:((aB.length:Nat):Int) ≠ (((qai l u5).length:Nat):Int):=by simpa using cJ
  refine qar [(10,.v (.bool false))] ae cI fun lS gn=>?_
  refine wp_ret (qat (qaM gn ae.cells (v:=.bool false) kz ?_))
  first
   | (exfalso; omega)
   | exact (qeH hgu ‹_› ‹_›).elim
   | exact (qdI hgu ‹_› ‹_›).elim
   | exact (qeI hgu ‹_› ‹_› ‹_› ‹_›).elim
   | exact (qeJ hgu ‹_› ‹_› ‹_› ‹_›).elim
   | (exfalso; simp_all; done)
 have jz:((aB.length:Nat):Int) = (((qai l u5).length:Nat):Int):=by simpa using cJ
 refine wp_skip (qab (wp_seq (qar [(9,.p 1 0),(90,.v (.slice ah ((qai l u5).length) ai)),(91,.v (.int .i64 (((qai l u5).length:Nat):Int))),(92,.v (.int .i64 0))] ae cI fun lT gp=>?_)))
 refine wp_block ?_
 obtain ⟨jA,gq,iH⟩:=gd.ex
 have iI:=gq.small
 refine wp_loop_ghost (fun n_ a_ w_=>∃ (k:Nat),n_ = (qai l u5).length - k ∧ k ≤ (qai l u5).length ∧ LInv ae 120 [⟨df,0,[.int .i64 n1,.slice A6 s2.length c7,.bool b3,.slice A8 l4.length c9,.slice bE u5.length bF],true⟩,⟨dg,0,[.int .i64 cO,.slice cR cP.length cS,.bool cQ,.slice bG aF.length bN,.slice bH aB.length bO],true⟩] [] [(9,.p 1 0),(90,.v (.slice ah ((qai l u5).length) ai)),(91,.v (.int .i64 (((qai l u5).length:Nat):Int))),(92,.v (.int .i64 ((k:Nat):Int)))] a_ w_) ((qai l u5).length) ⟨0,by omega,by omega,gp.pk,ae,Fr.refl _ _ _⟩ ?_
 rintro lU lV lW ⟨k,jB,jC,gt,aI,aD⟩
 refine qar [(9,.p 1 0),(90,.v (.slice ah ((qai l u5).length) ai)),(91,.v (.int .i64 (((qai l u5).length:Nat):Int))),(92,.v (.int .i64 ((k:Nat):Int))),(93,.v (.bool (decide (((k:Nat):Int) < (((qai l u5).length:Nat):Int)))))] aI gt fun lX cK=>?_
 refine wp_seq (qaw cK (b:=decide (((k:Nat):Int) < (((qai l u5).length:Nat):Int))) kz (fun cL=>?_) (fun cL=>?_))
 ·
  have jD:=of_decide_eq_true cL
  refine wp_skip (qab (wp_seq (wp_block (qae [0,1,2,3,4,5] kz ?_))))
  refine qaj [0] [1,2,3,4,5] [(9,.p 1 0),(90,.v (.slice ah ((qai l u5).length) ai)),(91,.v (.int .i64 (((qai l u5).length:Nat):Int))),(92,.v (.int .i64 ((k:Nat):Int))),(94,.v (.int .i64 ((k:Nat):Int)))] aI cK fun lY gv=>?_
  obtain ⟨iJ,iK,gw,jE,cM⟩:=Slots.get gq (i:=k) (by first | omega | (have h_:=qcH hgu ‹_›; omega))
  obtain ⟨⟨aE,aA⟩,gx⟩:∃ x,(qai l u5)[k]? = some x:=⟨_,List.getElem?_eq_getElem (by omega)⟩
  obtain ⟨⟨bg,bh,eu,dX⟩,lZ,l0⟩:=iH k aE aA gx
  rw [eu] at cM
  refine qal (qax gv (t:=24) (A:=ah) (m:=((qai l u5).length)) (q:=((k:Nat):Int)) (d:=95) kz (e:=66) (size:=2) (bytes:=32) kz gw rfl (by first | omega | (have h_:=qcH hgu ‹_›; omega)) fun l3 gy=>?_)
  refine qal (qaU gy (t:=66) (b:=iJ) (o:=iK + k * 2) (d:=96) kz (cs:=(z61 aE bg aA.length bh)) (v:=.agg #[.int .u32 aE,.slice bg aA.length bh]) kz (AtF.move cM aD.step immM aD.to').at_ fun l5 gz=>?_)
  refine qal (qaS aI gz (d:=16) (cs:=[.int .u32 0,.slice none 0 0]) kz fun l6 l7 l9 jF jG bi dY gA=>?_)
  refine qaj [4] [5] [(9,.p 1 0),(15,.v (.int .i64 ((k:Nat):Int))),(16,.p 2 0),(90,.v (.slice ah ((qai l u5).length) ai)),(91,.v (.int .i64 (((qai l u5).length:Nat):Int))),(92,.v (.int .i64 ((k:Nat):Int))),(96,.v (.agg #[.int .u32 aE,.slice bg aA.length bh]))] dY gA fun ma gB=>?_
  refine qal (qap dY gB (oi:=2) (cs:=(z61 aE bg aA.length bh)) kz fun mc bj gC gD=>?_)
  refine qaf (qab ?_)
  refine qaE 22 kz gC fun md bk aJ au=>?_
  refine qaD [0,1,2,6,7] [(9,.p 1 0),(15,.v (.int .i64 ((k:Nat):Int))),(16,.p 2 0),(90,.v (.slice ah ((qai l u5).length) ai)),(91,.v (.int .i64 (((qai l u5).length:Nat):Int))),(92,.v (.int .i64 ((k:Nat):Int))),(98,.v (.slice bH aB.length bO)),(99,.v (.int .i64 ((k:Nat):Int))),(104,.v (.int .u32 aE))] 17 (qaa (qac (qaa (qaa (qac (qaa qad)))))) (fun _ h=>h.cells) au gD fun me gE=>?_
  obtain ⟨dc,de,dZ,jH,bw⟩:=Slots.get iR (i:=k) (by first | omega | (have h_:=qcH hgu ‹_›; omega))
  obtain ⟨⟨bx,bz⟩,gF⟩:∃ x,aB[k]? = some x:=⟨_,List.getElem?_eq_getElem (by omega)⟩
  obtain ⟨⟨ev,ew,ey,gG⟩,mf,mg⟩:=jT k bx bz gF
  rw [ey] at bw
  refine qaJ gE (i:=3) (t:=24) (A:=bH) (m:=aB.length) (q:=((k:Nat):Int)) (d:=100) kz (e:=66) (size:=2) (bytes:=32) kz dZ rfl (by first | omega | (have h_:=qcH hgu ‹_›; omega)) kz kz (qaa (qac (qaa (qaa (qac (qaa qad)))))) au fun mh gH=>?_
  refine qaD [4] [(9,.p 1 0),(15,.v (.int .i64 ((k:Nat):Int))),(16,.p 2 0),(90,.v (.slice ah ((qai l u5).length) ai)),(91,.v (.int .i64 (((qai l u5).length:Nat):Int))),(92,.v (.int .i64 ((k:Nat):Int))),(101,.v (.pointer (some ⟨dc,de + k * 2,none⟩))),(104,.v (.int .u32 aE))] 15 (qaa (qac (qaa (qaa (qac (qaa qad)))))) (fun _ h=>h.cells) au gH fun mi gI=>?_
  refine qa6 gI (i:=5) (t:=64) (b:=dc) (o:=de + k * 2) (d:=102) kz (cs:=[.int .u32 bx]) (v:=.int .u32 bx) kz (fun w' h'=>(At.drop (AtF.move bw (TT.step0 aJ h') nilM qbb).at_ 0 1)) kz kz (qaa (qac (qaa (qaa (qac (qaa qad)))))) au fun mj gJ=>?_
  refine qaD [8,9] [(9,.p 1 0),(15,.v (.int .i64 ((k:Nat):Int))),(16,.p 2 0),(90,.v (.slice ah ((qai l u5).length) ai)),(91,.v (.int .i64 (((qai l u5).length:Nat):Int))),(92,.v (.int .i64 ((k:Nat):Int))),(106,.v (.bool (bx != aE)))] 12 (qaa (qac (qaa (qaa (qac (qaa qad)))))) (fun _ h=>h.cells) au gJ fun ml d5=>?_
  refine (Bool.eq_false_or_eq_true (bx != aE)).elim (fun bn=>?_) (fun bn=>?_)
  ·
   have jI:bx ≠ aE:=by simpa using bn
   have gK:=d5
   rw [bn] at gK
   refine qaD [10,11,12,13,14,15,16,17,18,19,20,21] [(9,.p 1 0),(90,.v (.slice ah ((qai l u5).length) ai)),(91,.v (.int .i64 (((qai l u5).length:Nat):Int))),(92,.v (.int .i64 ((k:Nat):Int))),(118,.v (.bool true))] 0 (qaa (qac (qaa (qaa (qac (qaa qad)))))) (fun _ h=>h.cells) au gK fun mn d6=>?_
   refine qaC kz ?_ _
   refine qab (qa4 d6 (b:=true) kz rfl ?_)
   refine qar [(10,.v (.bool false))] aJ d6 fun mo gL=>?_
   refine wp_ret (qay (qat (qat (qay (qat (qaM gL aJ.cells (v:=.bool false) kz ?_))))))
   first
    | (exfalso; omega)
    | exact (qeH hgu ‹_› ‹_›).elim
    | exact (qdI hgu ‹_› ‹_›).elim
    | exact (qeI hgu ‹_› ‹_› ‹_› ‹_›).elim
    | exact (qeJ hgu ‹_› ‹_› ‹_› ‹_›).elim
    | (exfalso; simp_all; done)
  have jJ:bx = aE:=by simpa using bn
  have gM:=d5
  rw [bn] at gM
  refine qaD [10,11,12,16,17] [(9,.p 1 0),(90,.v (.slice ah ((qai l u5).length) ai)),(91,.v (.int .i64 (((qai l u5).length:Nat):Int))),(92,.v (.int .i64 ((k:Nat):Int))),(106,.v (.bool false)),(108,.v (.slice bH aB.length bO)),(109,.v (.int .i64 ((k:Nat):Int))),(114,.v (.slice bg aA.length bh))] 7 (qaa (qac (qaa (qaa (qac (qaa qad)))))) (fun _ h=>h.cells) au gM fun mp gN=>?_
  refine qaJ gN (i:=13) (t:=24) (A:=bH) (m:=aB.length) (q:=((k:Nat):Int)) (d:=110) kz (e:=66) (size:=2) (bytes:=32) kz dZ rfl (by first | omega | (have h_:=qcH hgu ‹_›; omega)) kz kz (qaa (qac (qaa (qaa (qac (qaa qad)))))) au fun mq gO=>?_
  refine qaD [14] [(9,.p 1 0),(90,.v (.slice ah ((qai l u5).length) ai)),(91,.v (.int .i64 (((qai l u5).length:Nat):Int))),(92,.v (.int .i64 ((k:Nat):Int))),(106,.v (.bool false)),(111,.v (.pointer (some ⟨dc,de + k * 2 + 1,none⟩))),(114,.v (.slice bg aA.length bh))] 5 (qaa (qac (qaa (qaa (qac (qaa qad)))))) (fun _ h=>h.cells) au gO fun mr gP=>?_
  refine qa6 gP (i:=15) (t:=22) (b:=dc) (o:=de + k * 2 + 1) (d:=112) kz (cs:=[.slice ev bz.length ew]) (v:=.slice ev bz.length ew) kz (fun w' h'=>(At.drop (AtF.move bw (TT.step0 aJ h') nilM qbb).at_ 1 1)) kz kz (qaa (qac (qaa (qaa (qac (qaa qad)))))) au fun mt gQ=>?_
  have iL:=qbh aA
  refine qan (i:=18) kz (qak gQ (f:=40) (vs:=[.slice bg aA.length bh]) (d:=115) kz Tryz.call40 (qdD _ _ aA (dX.move (((aD.trans bi).trans bj).trans bk).step immM (((aD.trans bi).trans bj).trans bk).to').le _) ?_)
  rintro e_ mu ⟨rfl,d7⟩
  refine ⟨_,rfl,fun mw gR=>?_⟩
  have bo:=aJ.next_nil d7
  have bp:=aJ.frN d7
  have gS:=TT.ofW bp bo
  refine ⟨fun _=>gS,?_⟩
  refine qan (i:=19) kz (qak gR (f:=39) (vs:=(z64 ev bz.length ew bg aA bh)) (d:=116) kz Tryz.call39 (qeh _ _ _ _ bz (qaI aA) _ _ ((gG.move bo.step nilM bo.imm).move (Step.refl _ Nil) nilM allF) (((dX.take 32767).move ((((aD.trans bi).trans bj).trans bk).trans bp).step immM ((((aD.trans bi).trans bj).trans bk).trans bp).to').move (Step.refl _ Nil) nilM allF)) ?_)
  rintro e_ mx ⟨rfl,d8⟩
  refine ⟨_,rfl,fun my gT=>?_⟩
  have bq:=bo.next_nil d8
  have d9:=bo.frN d8
  have ea:=TT.ofW (bp.trans d9) bq
  refine ⟨fun _=>ea,?_⟩
  refine qaD [20,21] [(9,.p 1 0),(90,.v (.slice ah ((qai l u5).length) ai)),(91,.v (.int .i64 (((qai l u5).length:Nat):Int))),(92,.v (.int .i64 ((k:Nat):Int))),(118,.v (.bool (!(decide (bz = (qaI aA))))))] 0 (qaa (qac (qaa (qaa (qac (qaa qad)))))) (fun _ h=>h.cells) ea gT fun mz cN=>?_
  refine qaC kz ?_ _
  refine qab (qaw cN (b:=!(decide (bz = (qaI aA)))) kz (fun gU=>?_) (fun gU=>?_))
  ·
   refine qar [(10,.v (.bool false))] bq cN fun mA gV=>?_
   refine wp_ret (qay (qat (qat (qay (qat (qaM gV bq.cells (v:=.bool false) kz ?_))))))
   first
    | (exfalso; omega)
    | exact (qeH hgu ‹_› ‹_›).elim
    | exact (qdI hgu ‹_› ‹_›).elim
    | exact (qeI hgu ‹_› ‹_› ‹_› ‹_›).elim
    | exact (qeJ hgu ‹_› ‹_› ‹_› ‹_›).elim
    | (exfalso; simp_all; done)
  refine wp_skip (qas (qab (qaq [0,1] kz ?_)))
  refine qaj [0,1] [] [(9,.p 1 0),(90,.v (.slice ah ((qai l u5).length) ai)),(91,.v (.int .i64 (((qai l u5).length:Nat):Int))),(92,.v (.int .i64 (IntKind.i64.wrap (((k:Nat):Int) + 1))))] bq cN fun mB gW=>?_
  refine qaf (qab ?_)
  obtain ⟨eb,gX,gY⟩:=bq.cutB gW 2 [⟨df,0,(z2 n1 A6 s2.length c7 b3 A8 l4.length c9 bE u5.length bF),true⟩,⟨dg,0,(z2 cO cR cP.length cS cQ bG aF.length bN bH aB.length bO),true⟩] [(9,.p 1 0),(90,.v (.slice ah ((qai l u5).length) ai)),(91,.v (.int .i64 (((qai l u5).length:Nat):Int))),(92,.v (.int .i64 (IntKind.i64.wrap (((k:Nat):Int) + 1))))]
  have gZ:IntKind.i64.wrap (((k:Nat):Int) + 1) = ((k + 1:Nat):Int):=qaP (by omega)
  rw [gZ] at eb
  exact ⟨(qai l u5).length - (k + 1),by omega,k + 1,rfl,by omega,eb.pk,gX,((((((aD.trans bi).trans bj).trans bk).trans bp).trans d9).trans gY)⟩
 have jK:=of_decide_eq_false cL
 refine wp_exit (qau (qau (qaL (qab (qar [(10,.v (.bool true))] aI cK fun mC g6=>?_)))))
 refine wp_ret (qaM g6 aI.cells (v:=.bool true) kz ?_)
 exact ⟨rfl,aI.step⟩
theorem qkK (v:Int) (flex:Bool):∀ d,ToOK v flex (qiy v flex d)
 | 0=>qkJ (fun _ _ _ _ _ _ _ _ _ _ _ _ _ h=>h.elim) (fun _ _ _ _ _ _ _ _ _ h=>h.elim)
 | d + 1=>qkJ (qkK v flex d) (qjM d)
theorem qcy (w:World):Calls Tryz.prog 16 #[] w (qcu w (.int .i64 0)):=by
 refine enter (n:=4) Tryz.func16 rfl Tryz.ntmps16 kz fun a hE=>?_
 have hW:=WOk.start w Nil
 refine qar [] hW hE fun a1 hE2=>?_
 refine qae [0,1,2,3] kz ?_
 refine qal (qbQ hE2 (f:=41) (vs:=[]) (d:=1) (n':=3) kz Tryz.call41 Tryz.func41 rfl Tryz.ntmps41 kz fun a3 hE4=>?_)
 refine qar [] hW hE4 fun a5 hE6=>?_
 refine qae [0] kz ?_
 refine qal (qaS hW hE6 (d:=1) (cs:=z23) kz fun b7 a8 w9 ax ay az aa ab=>?_)
 refine qaf (qab ?_)
 refine qae [0] kz ?_
 refine qal (qbQ ab (f:=75) (vs:=[.pointer (some ⟨b7,0,none⟩)]) (d:=2) (n':=2) kz Tryz.call75 Tryz.func75 rfl Tryz.ntmps75 kz fun aA ac=>?_)
 have ae:=ac.recast 0 (.v (.pointer (some ⟨b7,0,none⟩))) (.p 0 0) rfl rfl (Nat.le_of_ble_eq_true (n:=1) rfl)
 refine wp_skip (qbT ae aa.cells (v:=.tuple #[]) kz ?_)
 refine ⟨_,rfl,fun aB af=>?_⟩
 have ag:EnvOk 3 [⟨b7,0,z23,true⟩] [(2,.v (.tuple #[])),(1,.p 0 0)] _:=af.places (⟨rfl,rfl,trivial⟩)
 refine qaf (qab ?_)
 refine qar [(0,.p 0 0)] aa ag fun aC ah=>?_
 refine wp_ret (qaM ah aa.cells (v:=.pointer (some ⟨b7,0,none⟩)) kz ?_)
 refine ⟨_,rfl,fun aD ai=>?_⟩
 have aj:EnvOk 4 [⟨b7,0,z23,true⟩] [(1,.v (.pointer (some ⟨b7,0,none⟩)))] _:=ai.places (trivial)
 have ak:=aj.recast 1 (.v (.pointer (some ⟨b7,0,none⟩))) (.p 0 0) rfl rfl (Nat.le_of_ble_eq_true (n:=1) rfl)
 have al:=ak.pick (ks:=[1]) (env':=[(1,.p 0 0)]) kz
 refine qal (qbQ al (f:=42) (vs:=[.pointer (some ⟨b7,0,none⟩)]) (d:=2) (n':=3) kz Tryz.call42 Tryz.func42 rfl Tryz.ntmps42 kz fun aE am=>?_)
 have ao:=am.recast 0 (.v (.pointer (some ⟨b7,0,none⟩))) (.p 0 0) rfl rfl (Nat.le_of_ble_eq_true (n:=1) rfl)
 refine qar [] aa ao fun aF ap=>?_
 refine qar [(2,.v (.int .i16 0))] aa ap fun aG ar=>?_
 refine wp_ret (qaM ar aa.cells (v:=.int .i16 0) kz ?_)
 refine ⟨_,rfl,fun aH au=>?_⟩
 have av:EnvOk 4 [⟨b7,0,z23,true⟩] [(2,.v (.int .i16 0)),(1,.p 0 0)] _:=au.places (⟨rfl,rfl,trivial⟩)
 refine qaj [2,3] [] [(0,.v (.int .i64 0))] aa av fun aI aw=>?_
 refine qaf (qab ?_)
 refine wp_ret (qaM aw aa.cells (v:=.int .i64 0) kz ?_)
 exact ⟨rfl,aa.step⟩
theorem qb6:depths sListPartitionReassignmentsResponseF ≤ 8:=by simp [sListPartitionReassignmentsResponseF,Fld.depth.depths,Fld.depth]
theorem qb7:plains sListPartitionReassignmentsResponseF:=by simp [sListPartitionReassignmentsResponseF,Fld.plain.plains,Fld.plain]
theorem qcq (A:Option Addr) (c:Nat) (v:Int) (w:World):Calls Tryz.prog 14 #[.agg #[.slice A sListPartitionReassignmentsResponseF.length c,.int .i64 qah],.int .i64 v] w (qcu w (.bool (decide (v ≥ qah)))):=by
 refine enter (n:=14) Tryz.func14 rfl Tryz.ntmps14 kz fun a hE=>?_
 have hW:=WOk.start w Nil
 refine qae [0,1] kz ?_
 refine qal (qbm hW hE (d:=2) (cs:=[.slice A sListPartitionReassignmentsResponseF.length c,.int .i64 qah]) kz fun b1 a2 w3 hb4 hz5 hF6 hW7 hE8=>?_)
 refine qaj [1] [] [(1,.v (.int .i64 v)),(2,.p 0 0)] hW7 hE8 fun a9 aa=>?_
 refine qaf (qab ?_)
 refine qae [0,1,2,3,4,5,6,7,8,9] kz ?_
 refine qaj [0,1,2,3] [4,5,6,7,8,9] [(1,.v (.int .i64 v)),(2,.p 0 0),(8,.v (.bool (decide (qah ≥ 0))))] hW7 aa fun ag ab=>?_
 have ac:(decide (qah ≥ 0)) = true:=by decide
 have ae:=ab
 rw [ac] at ae
 refine qaj [4,5,6,7,8,9] [] [(4,.v (.bool (decide (v ≥ qah))))] hW7 ae fun ah af=>?_
 refine qaf (qab ?_)
 refine wp_ret (qaM af hW7.cells (v:=.bool (decide (v ≥ qah))) kz ?_)
 exact ⟨rfl,hW7.step⟩
set_option maxHeartbeats 4000000 in
theorem qcl (x:Int) (hx:0 ≤ x) (hx':x < 256) (ct:List Value) (t:Tree) (w:World) (F:Nat → Nat → Prop) (ht:TreeR w F ct t) (hroom1:(qcY 8 sListPartitionReassignmentsResponseF qah (Int.tmod x (0 + 1)) t).length + 16 ≤ 1099511627776) (hcan:qaW (fitT (Int.tmod x (0 + 1)) 8 sListPartitionReassignmentsResponseF t)) (hkey:Tree.ranged (fitT (Int.tmod x (0 + 1)) 8 sListPartitionReassignmentsResponseF t)) (hpure:qag (IntKind.i16.wrap (Int.tmod x (0 + 1))) (fitT (Int.tmod x (0 + 1)) 8 sListPartitionReassignmentsResponseF t) = qcY 8 sListPartitionReassignmentsResponseF qah (Int.tmod x (0 + 1)) t) (hto:∀ D,qaZ (IntKind.i16.wrap (Int.tmod x (0 + 1))) D (fitT (Int.tmod x (0 + 1)) 8 sListPartitionReassignmentsResponseF t) → qiy (Int.tmod x (0 + 1)) (decide ((Int.tmod x (0 + 1)) ≥ qah)) 8 sListPartitionReassignmentsResponseF t (qa0 D)) :
  Calls Tryz.prog 4 #[.int .u8 x,.agg ct.toArray] w (qcu w (.bool true)):=by
 obtain ⟨n1,s2,b3,l4,u5,A6,c7,A8,c9,aO,aP,dc,rfl,rfl,de,df,dR,dS⟩:=ht.open_
 have cP:=de.small
 have cQ:=df.small
 refine enter (n:=42) Tryz.func4 rfl Tryz.ntmps4 kz fun a hE=>?_
 have hW:=WOk.start w Nil
 refine qae [0,1] kz ?_
 refine qal (qbm hW hE (d:=3) (cs:=(z2 n1 A6 s2.length c7 b3 A8 l4.length c9 aO u5.length aP)) kz fun dg dT dU dh di dj ar bJ=>?_)
 refine qaj [1] [] [(0,.v (.int .u8 x)),(3,.p 0 0)] ar bJ fun dV bK=>?_
 refine qaf (qab ?_)
 refine wp_seq (qae [0,1,2] kz ?_)
 refine qaj [0] [1,2] [(0,.v (.int .u8 x)),(3,.p 0 0),(10,.v (.agg #[.int .i64 n1,.slice A6 s2.length c7,.bool b3,.slice A8 l4.length c9,.slice aO u5.length aP]))] ar bK fun dW bL=>?_
 refine qal (qak bL (f:=7) (vs:=[.agg #[.int .i64 n1,.slice A6 s2.length c7,.bool b3,.slice A8 l4.length c9,.slice aO u5.length aP]]) (d:=11) kz Tryz.call7 (qlI _ _ _ _ (ht.move ar.step nilM ar.imm)) ?_)
 rintro e_ dX ⟨cR,rfl,bd⟩
 refine ⟨_,rfl,fun dY bM=>?_⟩
 have au:=ar.next_nil bd
 have dl:=ar.frN bd
 refine qaj [2] [] [(0,.v (.int .u8 x)),(3,.p 0 0),(12,.v (.bool (!cR)))] au bM fun dZ aY=>?_
 refine qaf (qab ?_)
 refine qaw aY (b:=!cR) kz (fun bN=>?_) (fun bN=>?_)
 ·
  refine qar [(4,.v (.bool true))] au aY fun d5 bO=>?_
  refine wp_ret (qat (qaM bO au.cells (v:=.bool true) kz ?_))
  exact ⟨rfl,au.step⟩
 refine wp_skip (qab (qae [0,1] kz ?_))
 refine qal (qak aY (f:=16) (vs:=[]) (d:=13) kz Tryz.call16 (qcy _) ?_)
 rintro e_ dp ⟨rfl,bf⟩
 refine ⟨_,rfl,fun d6 bP=>?_⟩
 have av:=au.next_nil bf
 have dq:=au.frN bf
 refine qaj [1] [] [(0,.v (.int .u8 x)),(3,.p 0 0),(5,.v (.int .i64 0))] av bP fun d7 bQ=>?_
 refine qaf (qab ?_)
 refine wp_seq (qar [(0,.v (.int .u8 x)),(3,.p 0 0),(5,.v (.int .i64 0)),(15,.v (.bool false))] av bQ fun d8 bg=>?_)
 refine qam bg (b:=false) kz rfl ?_
 refine wp_skip (qab (qae [0,1,2,3,4,5,6] kz ?_))
 refine qal (qak bg (f:=17) (vs:=[]) (d:=16) kz Tryz.call17 (qcv _ (Imm F w dp [⟨dg,0,(z2 n1 A6 s2.length c7 b3 A8 l4.length c9 aO u5.length aP),true⟩] [])) ?_)
 rintro e_ d9 ⟨aQ,aR,rfl,bR,aZ⟩
 obtain ⟨bh,cS,cT⟩:=bR.move (Step.refl _ Nil) nilM (av.laid (G:=F) aZ)
 refine ⟨_,rfl,fun ea bS=>?_⟩
 have ba:=av.next_nil aZ
 have dr:=av.frN aZ
 refine qaj [1,2] [3,4,5,6] [(3,.p 0 0),(16,.v (.agg #[.slice aQ sListPartitionReassignmentsResponseF.length aR,.int .i64 qah])),(17,.v (.int .u8 x)),(18,.v (.int .i64 0))] ba bS fun eb bT=>?_
 refine qal (qak bT (f:=10) (vs:=[.int .u8 x,.int .i64 0]) (d:=19) kz Tryz.call10 (qkg x 0 hx hx' (by decide) (by decide) _) ?_)
 rintro e_ ec ⟨rfl,bi⟩
 refine ⟨_,rfl,fun ee bU=>?_⟩
 have bV:=ba.next_nil bi
 have ag:=ba.frN bi
 refine qal (qaS bV bU (d:=6) (cs:=[.slice none 0 0,.int .i64 0]) kz fun ef eg eh dt du ah bW bX=>?_)
 refine qal (qap bW bX (oi:=1) (cs:=[.slice aQ sListPartitionReassignmentsResponseF.length aR,.int .i64 qah]) kz fun ei ai aw bY=>?_)
 refine qaj [6] [] [(3,.p 0 0),(6,.p 1 0),(7,.v (.int .i64 (Int.tmod x (0 + 1))))] aw bY fun ej bZ=>?_
 refine qaf (qab ?_)
 refine qae [0,1,2,3,4,5,6,7,8,9,10,11] kz ?_
 refine qaj [0,1,2,3] [4,5,6,7,8,9,10,11] [(3,.p 0 0),(6,.p 1 0),(7,.v (.int .i64 (Int.tmod x (0 + 1)))),(21,.v (.int .i64 (Int.tmod x (0 + 1)))),(22,.v (.agg #[.slice aQ sListPartitionReassignmentsResponseF.length aR,.int .i64 qah])),(23,.v (.int .i64 (Int.tmod x (0 + 1)))),(24,.v (.agg #[.int .i64 n1,.slice A6 s2.length c7,.bool b3,.slice A8 l4.length c9,.slice aO u5.length aP]))] aw bZ fun ek b8=>?_
 refine qal (qak b8 (f:=12) (vs:=[.agg #[.slice aQ sListPartitionReassignmentsResponseF.length aR,.int .i64 qah],.int .i64 (Int.tmod x (0 + 1)),.agg #[.int .i64 n1,.slice A6 s2.length c7,.bool b3,.slice A8 l4.length c9,.slice aO u5.length aP]]) (d:=25) kz Tryz.call12 (qly _ _ sListPartitionReassignmentsResponseF qah (Int.tmod x (0 + 1)) _ (Tree.mk n1 s2 b3 l4 u5) _ _ ⟨bh,(cS.move ((ag.trans ah).trans ai).step immM ((ag.trans ah).trans ai).to'),(fun i_ x_ h_=>((cT i_ x_ h_).move ((ag.trans ah).trans ai).step immM ((ag.trans ah).trans ai).to'))⟩ qb6 (ht.move aw.step nilM aw.imm) (Nat.le_trans (Nat.le_add_right _ _) hroom1)) ?_)
 rintro e_ em ⟨cU,cV,rfl,cd,ce⟩
 refine ⟨_,rfl,fun eo cm=>?_⟩
 obtain ⟨ak,al⟩:=aw.frFresh ce (brow cU cV 5 (qcY 8 sListPartitionReassignmentsResponseF qah (Int.tmod x (0 + 1)) (Tree.mk n1 s2 b3 l4 u5))) (Nat.le_refl _) cd
 refine qal (qak cm (f:=18) (vs:=[.int .i64 (Int.tmod x (0 + 1)),.slice cU ((qcY 8 sListPartitionReassignmentsResponseF qah (Int.tmod x (0 + 1)) (Tree.mk n1 s2 b3 l4 u5)).length) cV]) (d:=26) kz Tryz.call18 (qck (Int.tmod x (0 + 1)) _ (qcY 8 sListPartitionReassignmentsResponseF qah (Int.tmod x (0 + 1)) (Tree.mk n1 s2 b3 l4 u5)) hpure (qcA (ak.own 0 _ rfl) (by first | omega | (rw [qbi]; decide) | (simp only [be_length]; exact Nat.le_trans (qbE _) (by decide)) | (have:=hroom; omega) | (have:=hmade; omega) | (simp only [List.length_append,List.length_nil]; omega)) (F:=fun _ _=>True) (fun _ _ _=>trivial)) hcan hkey (by first | omega | (have:=hroom1; omega))) ?_)
 rintro e_ dv ⟨bj,cW,rfl,bk,bn,ax⟩
 have ay:=bk.move (Step.refl _ Nil) nilM (fun b_ o_ h_ hb_=>ak.laid (G:=F) ax b_ o_ (.inr (h_.resolve_left id)) hb_)
 obtain ⟨aD,aE,aF,aG,aH,aI,aJ,aK,aL,aM,aN,cX,cY,az,cq,cr,dw,dx⟩:=ay.open_
 rw [az] at ay
 have cu:=cq.small
 have cw:=cr.small
 rw [az]
 refine ⟨_,rfl,fun dy bo=>?_⟩
 have aS:=ak.next_nil ax
 have am:=ak.frN ax
 refine qaj [6,7,8] [9,10,11] [(3,.p 0 0),(6,.p 1 0),(7,.v (.int .i64 (Int.tmod x (0 + 1)))),(27,.v (.agg #[.int .i64 aD,.slice aI aE.length aJ,.bool aF,.slice aK aG.length aL,.slice aM aH.length aN])),(28,.v (.bool true))] aS bo fun dz bp=>?_
 refine qal (qaS aS bp (d:=8) (cs:=z0) kz fun dA dB dC cZ c5 ab bq bt=>?_)
 refine qal (qap bq bt (oi:=2) (cs:=(z2 aD aI aE.length aJ aF aK aG.length aL aM aH.length aN)) kz fun dD ac aT bu=>?_)
 refine qaj [11] [] [(3,.p 0 0),(6,.p 1 0),(7,.v (.int .i64 (Int.tmod x (0 + 1)))),(8,.p 2 0),(9,.v (.bool true))] aT bu fun dE bw=>?_
 refine qaf (qab ?_)
 refine qaE 13 kz aT fun dF ae aU bx=>?_
 refine qaD [0,1,2,3,4,5,6,8,9] [(30,.v (.bool true)),(32,.v (.slice aQ sListPartitionReassignmentsResponseF.length aR)),(33,.v (.int .i64 (Int.tmod x (0 + 1)))),(34,.v (.agg #[.slice aQ sListPartitionReassignmentsResponseF.length aR,.int .i64 qah])),(35,.v (.int .i64 (Int.tmod x (0 + 1)))),(37,.v (.agg #[.int .i64 n1,.slice A6 s2.length c7,.bool b3,.slice A8 l4.length c9,.slice aO u5.length aP])),(38,.v (.agg #[.int .i64 aD,.slice aI aE.length aJ,.bool aF,.slice aK aG.length aL,.slice aM aH.length aN]))] 5 (qaa qad) (fun _ h=>h.cells) bx bw fun dG bz=>?_
 refine qan (i:=7) kz (qak bz (f:=14) (vs:=[.agg #[.slice aQ sListPartitionReassignmentsResponseF.length aR,.int .i64 qah],.int .i64 (Int.tmod x (0 + 1))]) (d:=36) kz Tryz.call14 (qcq _ _ _ _) ?_)
 rintro e_ dH ⟨rfl,aV⟩
 refine ⟨_,rfl,fun dI bA=>?_⟩
 have ao:=aU.next_nil aV
 have aa:=aU.frN aV
 have bB:=TT.ofW aa ao
 refine ⟨fun _=>bB,?_⟩
 refine qan (i:=10) kz (qak bA (f:=15) (vs:=[.agg #[.int .i64 aD,.slice aI aE.length aJ,.bool aF,.slice aK aG.length aL,.slice aM aH.length aN]]) (d:=39) kz Tryz.call15 (lGot _ _ _ _ _ (ay.move (((ab.trans ac).trans ae).trans aa).step immM (((ab.trans ac).trans ae).trans aa).to') (Nat.le_refl _)) ?_)
 rintro e_ dJ ⟨c6,rfl,bC,aA⟩
 have aB:=bC.move (Step.refl _ Nil) nilM (ao.laid (G:=F) aA)
 obtain ⟨cz,cA,cB,cC,cD,cE,cG,cH,cI,cJ,cK,da,db,aC,cL,cM,dK,dL⟩:=aB.open_
 rw [aC] at aB
 have cN:=cL.small
 have cO:=cM.small
 rw [aC]
 refine ⟨_,rfl,fun dM bD=>?_⟩
 have aj:=ao.next_nil aA
 have af:=ao.frN aA
 have bE:=TT.ofW (aa.trans af) aj
 refine ⟨fun _=>bE,?_⟩
 refine qan (i:=11) kz (qak bD (f:=13) (vs:=[.slice aQ sListPartitionReassignmentsResponseF.length aR,.int .i64 (Int.tmod x (0 + 1)),.bool (decide ((Int.tmod x (0 + 1)) ≥ qah)),.agg #[.int .i64 n1,.slice A6 s2.length c7,.bool b3,.slice A8 l4.length c9,.slice aO u5.length aP],.agg #[.int .i64 cz,.slice cE cA.length cG,.bool cB,.slice cH cC.length cI,.slice cJ cD.length cK]]) (d:=40) kz Tryz.call13 (qkK (Int.tmod x (0 + 1)) (decide ((Int.tmod x (0 + 1)) ≥ qah)) 8 _ _ sListPartitionReassignmentsResponseF _ (Tree.mk n1 s2 b3 l4 u5) _ (qa0 bj) _ _ ⟨bh,(cS.move (((((((((ag.trans ah).trans ai).trans al).trans am).trans ab).trans ac).trans ae).trans aa).trans af).step immM (((((((((ag.trans ah).trans ai).trans al).trans am).trans ab).trans ac).trans ae).trans aa).trans af).to'),(fun i_ x_ h_=>((cT i_ x_ h_).move (((((((((ag.trans ah).trans ai).trans al).trans am).trans ab).trans ac).trans ae).trans aa).trans af).step immM (((((((((ag.trans ah).trans ai).trans al).trans am).trans ab).trans ac).trans ae).trans aa).trans af).to'))⟩ (ht.move aj.step nilM aj.imm) aB qb7 (hto bj bn)) ?_)
 rintro e_ dN ⟨rfl,aW⟩
 refine ⟨_,rfl,fun dO bF=>?_⟩
 have ap:=aj.next_nil aW
 have bG:=aj.frN aW
 have aX:=TT.ofW ((aa.trans af).trans bG) ap
 refine ⟨fun _=>aX,?_⟩
 refine qaD [12] [(41,.v (.bool true))] 1 (qaa qad) (fun _ h=>h.cells) aX bF fun dP bH=>?_
 refine qan (i:=13) kz (qbd [4] ap.cells bH (env':=[(4,.v (.bool true))]) kz fun dQ bI=>?_)
 refine ⟨fun h=>absurd rfl h,?_⟩
 refine qaC kz ?_ _
 refine qab (wp_ret (qaM bI ap.cells (v:=.bool true) kz ?_))
 exact ⟨rfl,ap.step⟩
theorem qce (x:Int) (hx:0 ≤ x ∧ x ≤ 255) (ct:List Value) (t:Tree) (w:World) (F:Nat → Nat → Prop) (ht:TreeR w F ct t) (hi:t.i64s) (hsz:t.size ≤ 8388608):Calls Tryz.prog 4 #[.int .u8 x,.agg ct.toArray] w (qcu w (.bool true)):=by
 obtain ⟨g0,g1⟩:=qlt (m:=0 + 1) hx.1 hx.2 (by decide) (by decide)
 have hp:qag (IntKind.i16.wrap (Int.tmod x (0 + 1))) (fitT (Int.tmod x (0 + 1)) 8 sListPartitionReassignmentsResponseF t) = qcY 8 sListPartitionReassignmentsResponseF qah (Int.tmod x (0 + 1)) t:=by rw [qg0 g0 g1]; exact qcg (Int.tmod x (0 + 1)) g0 g1 t
 have h1:=qjj 8 sListPartitionReassignmentsResponseF qah (Int.tmod x (0 + 1)) t
 have h2:qhq sListPartitionReassignmentsResponseF ≤ 131000:=by decide +kernel
 have h3:=Nat.mul_le_mul h2 hsz
 exact qcl x hx.1 (by omega) ct t w F ht (by omega) (qb9 (Int.tmod x (0 + 1)) t) (qip _ _ _ _ ht.ranged) hp (fun D h=>by rw [qg0 g0 g1] at h; exact qci (Int.tmod x (0 + 1)) g0 t _ (fun _=>rfl) rfl hi D h)
end Go.Proofs.YtfljkhecngpcmaaGreatDoor.ME