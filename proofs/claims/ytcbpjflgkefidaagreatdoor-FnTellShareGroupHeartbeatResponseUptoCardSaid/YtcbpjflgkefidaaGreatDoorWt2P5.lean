/- The texts of a claim, put together: the engine, the contracts, the law. Own work. -/
import Derived.Test.YtcbpjflgkefidaaGreatDoorWt2P4
namespace Go.Proofs.YtcbpjflgkefidaaGreatDoor.ME
open Go
open Go.RowKit
set_option linter.unusedVariables false
set_option linter.unusedSimpArgs false
set_option maxRecDepth 20000
theorem qgm (k n:Int) (w:World):Calls Tryz.prog 48 #[.int .i64 k,.int .i64 n] w (qch w (.int .i64 (qbs k n))):=by
 refine enter (n:=31) Tryz.func48 rfl Tryz.ntmps48 kz fun a hE=>?_
 have hW:=WOk.start w Nil
 refine qap [(0,.v (.int .i64 k)),(1,.v (.int .i64 n))] hW hE fun a1 hE2=>?_
 refine wp_seq (qap [(1,.v (.int .i64 n)),(5,.v (.int .i64 k))] hW hE2 fun a3 hE4=>?_)
 refine wp_block (qap [(1,.v (.int .i64 n)),(5,.v (.int .i64 k)),(6,.v (.bool (k == 0)))] hW hE4 fun a5 hE6=>?_)
 refine qay hE6 (b:=k == 0) kz (fun hc7=>?_) (fun hc7=>?_)
 ·
  have hf8:k = 0:=by simpa using hc7
  refine qap [(4,.v (.int .i64 (IntKind.i64.wrap (BitVec.ofInt 64 n &&& BitVec.ofInt 64 1).toNat)))] hW hE6 fun a9 aj=>?_
  refine wp_ret (qaz (qaq (qaL aj hW.cells (v:=.int .i64 (IntKind.i64.wrap (BitVec.ofInt 64 n &&& BitVec.ofInt 64 1).toNat)) kz ?_)))
  exact ⟨by (try simp only [and1]); simp_all [qbs,qix,qfw,qd9,qeR],hW.step⟩
 have ar:k ≠ 0:=by simpa using hc7
 refine qap [(1,.v (.int .i64 n)),(5,.v (.int .i64 k)),(10,.v (.bool (k == 1)))] hW hE6 fun aC aa=>?_
 refine qay aa (b:=k == 1) kz (fun ab=>?_) (fun ab=>?_)
 ·
  have au:k = 1:=by simpa using ab
  refine qap [(4,.v (.int .i64 (IntKind.i64.wrap (IntKind.i8.wrap n))))] hW aa fun aD ak=>?_
  refine wp_ret (qaz (qaq (qaL ak hW.cells (v:=.int .i64 (IntKind.i64.wrap (IntKind.i8.wrap n))) kz ?_)))
  exact ⟨by (try simp only [and1]); simp_all [qbs,qix,qfw,qd9,qeR],hW.step⟩
 have av:k ≠ 1:=by simpa using ab
 refine qap [(1,.v (.int .i64 n)),(5,.v (.int .i64 k)),(15,.v (.bool (k == 2)))] hW aa fun aE ac=>?_
 refine qay ac (b:=k == 2) kz (fun ae=>?_) (fun ae=>?_)
 ·
  have aw:k = 2:=by simpa using ae
  refine qap [(4,.v (.int .i64 (IntKind.i64.wrap (IntKind.i16.wrap n))))] hW ac fun aF al=>?_
  refine wp_ret (qaz (qaq (qaL al hW.cells (v:=.int .i64 (IntKind.i64.wrap (IntKind.i16.wrap n))) kz ?_)))
  exact ⟨by (try simp only [and1]); simp_all [qbs,qix,qfw,qd9,qeR],hW.step⟩
 have ax:k ≠ 2:=by simpa using ae
 refine qap [(1,.v (.int .i64 n)),(5,.v (.int .i64 k)),(20,.v (.bool (k == 3)))] hW ac fun aG af=>?_
 refine qay af (b:=k == 3) kz (fun ag=>?_) (fun ag=>?_)
 ·
  have ay:k = 3:=by simpa using ag
  refine qap [(4,.v (.int .i64 (IntKind.i64.wrap (IntKind.i32.wrap n))))] hW af fun aH am=>?_
  refine wp_ret (qaz (qaq (qaL am hW.cells (v:=.int .i64 (IntKind.i64.wrap (IntKind.i32.wrap n))) kz ?_)))
  exact ⟨by (try simp only [and1]); simp_all [qbs,qix,qfw,qd9,qeR],hW.step⟩
 have az:k ≠ 3:=by simpa using ag
 refine qap [(1,.v (.int .i64 n)),(25,.v (.bool (k == 5)))] hW af fun aI ah=>?_
 refine qay ah (b:=k == 5) kz (fun ai=>?_) (fun ai=>?_)
 ·
  have aA:k = 5:=by simpa using ai
  refine qap [(4,.v (.int .i64 (IntKind.i64.wrap (IntKind.u16.wrap n))))] hW ah fun aJ ao=>?_
  refine wp_ret (qaz (qaq (qaL ao hW.cells (v:=.int .i64 (IntKind.i64.wrap (IntKind.u16.wrap n))) kz ?_)))
  exact ⟨by (try simp only [and1]); simp_all [qbs,qix,qfw,qd9,qeR],hW.step⟩
 have aB:k ≠ 5:=by simpa using ai
 refine wp_skip (qau (qab (qap [(4,.v (.int .i64 n))] hW ah fun aK ap=>?_)))
 refine wp_ret (qaL ap hW.cells (v:=.int .i64 n) kz ?_)
 exact ⟨by (try simp only [and1]); simp_all [qbs,qix,qfw,qd9,qeR],hW.step⟩
def UsOK (U:List Fld → Tree → Prop):Prop:=∀ (A:Option Addr) (c:Nat) (l:List Fld) (ct:List Value) (g:Tree) (w:World) (F:Nat → Nat → Prop),FldsR w F A c l → TreeR w F ct g → U l g →
  Calls Tryz.prog 80 #[.slice A l.length c,.agg ct.toArray] w (qch w (.bool true))
abbrev z22 (x0) (x1) (x2) (x3):=([(3,.p 0 0),(12,.v (.slice x0 x1 x2)),(13,.v (.int .i64 ((x1:Nat):Int))),(14,.v (.int .i64 ((x3:Nat):Int))),(87,.v (.bool false))]:Env)
theorem sUs {U:List Fld → Tree → Prop} (hu:UsOK U) (A:Option Addr) (c:Nat) (l:List Fld) (ct:List Value) (g:Tree) (w:World) (F:Nat → Nat → Prop) (hl:FldsR w F A c l) (ht:TreeR w F ct g) (hU:UsP U l g) :
  Calls Tryz.prog 80 #[.slice A l.length c,.agg ct.toArray] w (qch w (.bool true)):=by
 obtain ⟨xfs,h1,h2⟩:=hl.ex
 have hsm:=h1.small
 obtain ⟨n1,s2,b3,l4,u5,A6,c7,A8,c9,aJ,aK,fV,rfl,rfl,fW,fX,iI,iJ⟩:=ht.open_
 have e9:=fW.small
 have fb:=fX.small
 refine enter (n:=89) Tryz.func80 rfl Tryz.ntmps80 kz fun a hE=>?_
 have hW:=WOk.start w Nil
 refine qae [0,1] kz ?_
 refine qan (qbl hW hE (d:=3) (cs:=(z3 n1 A6 s2.length c7 b3 A8 l4.length c9 aJ u5.length aK)) kz fun bz iK iL fY fZ f5 aA eG=>?_)
 refine qal [1] [] [(0,.v (.slice A l.length c)),(3,.p 0 0)] aA eG fun iM eH=>?_
 refine qaf (qab ?_)
 refine wp_seq (qap [(0,.v (.slice A l.length c)),(3,.p 0 0),(11,.v (.bool (decide (((u5.length:Nat):Int) > 0))))] aA eH fun iN cD=>?_)
 refine qay cD (b:=decide (((u5.length:Nat):Int) > 0)) kz (fun cE=>?_) (fun cE=>?_)
 ·
  have f7:=of_decide_eq_true cE
  refine qap [(4,.v (.bool false))] aA cD fun iO eI=>?_
  refine wp_ret (qaq (qaL eI aA.cells (v:=.bool false) kz ?_))
  exact (us_u (g:=(Tree.mk n1 s2 b3 l4 u5)) hU.1 rfl ‹_›).elim
 have f8:=of_decide_eq_false cE
 refine wp_skip (qab (wp_seq (qap [(3,.p 0 0),(12,.v (.slice A l.length c)),(13,.v (.int .i64 ((l.length:Nat):Int))),(14,.v (.int .i64 0))] aA cD fun iP eJ=>?_)))
 refine wp_block (wp_loop_ghost (fun n_ a_ w_=>∃ (k:Nat),n_ = l.length - k ∧ k ≤ l.length ∧ LInv aA 89 [⟨bz,0,[.int .i64 n1,.slice A6 s2.length c7,.bool b3,.slice A8 l4.length c9,.slice aJ u5.length aK],true⟩] [] [(3,.p 0 0),(12,.v (.slice A l.length c)),(13,.v (.int .i64 ((l.length:Nat):Int))),(14,.v (.int .i64 ((k:Nat):Int)))] a_ w_) (l.length) ⟨0,by omega,by omega,eJ.pk,aA,Fr.refl _ _ _⟩ ?_)
 rintro iQ iR iS ⟨k,ga,gb,eK,aB,aj⟩
 refine qap [(3,.p 0 0),(12,.v (.slice A l.length c)),(13,.v (.int .i64 ((l.length:Nat):Int))),(14,.v (.int .i64 ((k:Nat):Int))),(15,.v (.bool (decide (((k:Nat):Int) < ((l.length:Nat):Int)))))] aB eK fun iT cG=>?_
 refine wp_seq (qay cG (b:=decide (((k:Nat):Int) < ((l.length:Nat):Int))) kz (fun cH=>?_) (fun cH=>?_))
 ·
  have gc:=of_decide_eq_true cH
  refine wp_skip (qab (wp_seq (wp_block (qae [0,1,2,3,4,5] kz ?_))))
  refine qal [0] [1,2,3,4,5] [(3,.p 0 0),(12,.v (.slice A l.length c)),(13,.v (.int .i64 ((l.length:Nat):Int))),(14,.v (.int .i64 ((k:Nat):Int))),(16,.v (.int .i64 ((k:Nat):Int)))] aB cG fun iU eL=>?_
  obtain ⟨gd,ge,eM,gg,bB⟩:=Slots.get h1 (i:=k) (by omega)
  obtain ⟨gh,cI⟩:∃ x,l[k]? = some x:=⟨_,List.getElem?_eq_getElem (by omega)⟩
  have cJ:=h2 k gh cI
  obtain ⟨ae,eC,eD,aE,eE,aM,eF,bA,bC,bD,cK,rfl,bE,eN,fe⟩:=cJ.open_
  rw [bE] at cJ
  have ff:=eN.small
  rw [bE] at bB
  refine qan (qaD eL (t:=29) (A:=A) (m:=l.length) (q:=((k:Nat):Int)) (d:=17) kz (e:=52) (size:=8) (bytes:=80) kz eM rfl (by omega) fun iV eO=>?_)
  refine qan (qaR eO (t:=52) (b:=gd) (o:=ge + k * 8) (d:=18) kz (cs:=(z5 ae eC eD aE eE aM eF bC bA.length bD)) (v:=.agg #[.int .i64 ae,.int .i64 eC,.int .i64 eD,.int .i64 aE,.int .i64 eE,.int .i64 aM,.int .i64 eF,.slice bC bA.length bD]) kz (AtF.move bB aB.step nilM qba).at_ fun iW eP=>?_)
  refine qan (qaP aB eP (d:=6) (cs:=z9) kz fun iX iY iZ gi gj ak cL eQ=>?_)
  refine qal [4] [5] [(3,.p 0 0),(5,.v (.int .i64 ((k:Nat):Int))),(6,.p 1 0),(12,.v (.slice A l.length c)),(13,.v (.int .i64 ((l.length:Nat):Int))),(14,.v (.int .i64 ((k:Nat):Int))),(18,.v (.agg #[.int .i64 ae,.int .i64 eC,.int .i64 eD,.int .i64 aE,.int .i64 eE,.int .i64 aM,.int .i64 eF,.slice bC bA.length bD]))] cL eQ fun i6 eR=>?_
  refine qan (qat cL eR (oi:=1) (cs:=(z5 ae eC eD aE eE aM eF bC bA.length bD)) kz fun i7 al aL eS=>?_)
  refine qaf (qab ?_)
  refine qae [0,1,2,3,4] kz ?_
  refine qal [0,1] [2,3,4] [(3,.p 0 0),(6,.p 1 0),(12,.v (.slice A l.length c)),(13,.v (.int .i64 ((l.length:Nat):Int))),(14,.v (.int .i64 ((k:Nat):Int))),(19,.v (.agg #[.int .i64 n1,.slice A6 s2.length c7,.bool b3,.slice A8 l4.length c9,.slice aJ u5.length aK])),(20,.v (.int .i64 ((k:Nat):Int)))] aL eS fun ja eU=>?_
  refine qan (qam eU (f:=47) (vs:=[.agg #[.int .i64 n1,.slice A6 s2.length c7,.bool b3,.slice A8 l4.length c9,.slice aJ u5.length aK],.int .i64 ((k:Nat):Int)]) (d:=21) kz Tryz.call47 (sAt _ _ k _ _ (ht.move aL.step nilM aL.imm)) ?_)
  rintro e_ gk ⟨gl,rfl,eV,aN⟩
  have aF:=eV.move aN nilM (fun b o h_ hb_=>aL.laid (G:=F) aN b o (.inl h_) (Nat.lt_of_lt_of_le hb_ aN.size))
  obtain ⟨ai,af,ah,am,aO,aC,aD,aP,aQ,aR,aS,fg,aT,aU,cM,eW,gm,gn⟩:=aF.open_
  rw [aU] at aF
  have eX:=cM.small
  have eY:=eW.small
  rw [aU]
  refine ⟨_,rfl,fun gp cN=>?_⟩
  have cO:=aL.next_nil aN
  have ag:=aL.frN aN
  have hq_:=hU.2 k _ cI
  rw [aT] at hq_
  refine qan (qaP cO cN (d:=7) (cs:=z1) kz fun gq gt gv fh fi ab cP cQ=>?_)
  refine qan (qat cP cQ (oi:=2) (cs:=(z3 ai aC af.length aD ah aP am.length aQ aR aO.length aS)) kz fun gw ac aa cR=>?_)
  refine qaf (qab ?_)
  refine qap [(3,.p 0 0),(6,.p 1 0),(7,.p 2 0),(12,.v (.slice A l.length c)),(13,.v (.int .i64 ((l.length:Nat):Int))),(14,.v (.int .i64 ((k:Nat):Int))),(23,.v (.int .i64 ae))] aa cR fun gx cS=>?_
  refine wp_block (qap [(3,.p 0 0),(6,.p 1 0),(7,.p 2 0),(12,.v (.slice A l.length c)),(13,.v (.int .i64 ((l.length:Nat):Int))),(14,.v (.int .i64 ((k:Nat):Int))),(23,.v (.int .i64 ae)),(32,.v (.bool (ae == 8)))] aa cS fun gy aV=>?_)
  refine qay aV (b:=ae == 8) kz (fun aW=>?_) (fun aW=>?_)
  ·
   have fj:ae = 8:=by simpa using aW
   refine qae [0,1,2,3,4,5,6,7,8,9,10,11] kz ?_
   refine qal [0,1,2,3,4,5,6] [7,8,9,10,11] [(3,.p 0 0),(7,.p 2 0),(12,.v (.slice A l.length c)),(13,.v (.int .i64 ((l.length:Nat):Int))),(14,.v (.int .i64 ((k:Nat):Int))),(40,.v (.bool (!(ah == (decide (aE ≥ 0))))))] aa aV fun gz bF=>?_
   refine (Bool.eq_false_or_eq_true (!(ah == (decide (aE ≥ 0))))).elim (fun ao=>?_) (fun ao=>?_)
   ·
    have fk:!(ah = (decide (aE ≥ 0))):=by simpa using ao
    have cT:=bF
    rw [ao] at cT
    refine qal [7,8,9,10,11] [] [(3,.p 0 0),(12,.v (.slice A l.length c)),(13,.v (.int .i64 ((l.length:Nat):Int))),(14,.v (.int .i64 ((k:Nat):Int))),(45,.v (.bool true))] aa cT fun gA bG=>?_
    refine qaf (qab ?_)
    refine qa2 bG (b:=true) kz rfl ?_
    refine qap [(4,.v (.bool false))] aa bG fun gB cU=>?_
    refine wp_ret (qaz (qaz (qaq (qaq (qaz (qaq (qaL cU aa.cells (v:=.bool false) kz ?_)))))))
    first
     | exact (qgg hq_ ‹_› ‹_›).elim
     | exact (qgh hq_ ‹_› ‹_›).elim
     | exact (us_7 hq_ ‹_› ‹_›).elim
     | exact (qgi hq_ ‹_› ‹_›).elim
     | exact (qgj hq_ ‹_› ‹_›).elim
     | exact (qeB hq_ ‹_› ‹_›).elim
     | exact (qeC hq_ ‹_› ‹_›).elim
     | exact (qgk hq_ ‹_› ‹_› ‹_›).elim
     | exact (us_n hq_ ‹_› ‹_› ‹_› ‹_› ‹_› ‹_›).elim
   have fm:!(ah ≠ (decide (aE ≥ 0))):=by simpa using ao
   have cV:=bF
   rw [ao] at cV
   refine qal [7,8,9,10,11] [] [(3,.p 0 0),(12,.v (.slice A l.length c)),(13,.v (.int .i64 ((l.length:Nat):Int))),(14,.v (.int .i64 ((k:Nat):Int))),(45,.v (.bool (decide (((af.length:Nat):Int) > 0))))] aa cV fun gC aX=>?_
   refine qaf (qab ?_)
   refine qay aX (b:=decide (((af.length:Nat):Int) > 0)) kz (fun aY=>?_) (fun aY=>?_)
   ·
    have fo:=of_decide_eq_true aY
    refine qap [(4,.v (.bool false))] aa aX fun gD cW=>?_
    refine wp_ret (qaz (qaz (qaq (qaq (qaz (qaq (qaL cW aa.cells (v:=.bool false) kz ?_)))))))
    first
     | exact (qgg hq_ ‹_› ‹_›).elim
     | exact (qgh hq_ ‹_› ‹_›).elim
     | exact (us_7 hq_ ‹_› ‹_›).elim
     | exact (qgi hq_ ‹_› ‹_›).elim
     | exact (qgj hq_ ‹_› ‹_›).elim
     | exact (qeB hq_ ‹_› ‹_›).elim
     | exact (qeC hq_ ‹_› ‹_›).elim
     | exact (qgk hq_ ‹_› ‹_› ‹_›).elim
     | exact (us_n hq_ ‹_› ‹_› ‹_› ‹_› ‹_› ‹_›).elim
   have fq:=of_decide_eq_false aY
   refine wp_skip (qau (qau (qab (qas [0,1] kz ?_))))
   refine qal [0,1] [] [(3,.p 0 0),(12,.v (.slice A l.length c)),(13,.v (.int .i64 ((l.length:Nat):Int))),(14,.v (.int .i64 (IntKind.i64.wrap (((k:Nat):Int) + 1))))] aa aX fun gE cX=>?_
   refine qaf (qab ?_)
   obtain ⟨bH,cY,cZ⟩:=aa.cutB cX 1 [⟨bz,0,(z3 n1 A6 s2.length c7 b3 A8 l4.length c9 aJ u5.length aK),true⟩] [(3,.p 0 0),(12,.v (.slice A l.length c)),(13,.v (.int .i64 ((l.length:Nat):Int))),(14,.v (.int .i64 (IntKind.i64.wrap (((k:Nat):Int) + 1))))]
   have c5:IntKind.i64.wrap (((k:Nat):Int) + 1) = ((k + 1:Nat):Int):=qaT (by omega)
   rw [c5] at bH
   exact ⟨l.length - (k + 1),by omega,k + 1,rfl,by omega,bH.pk,cY,((((((aj.trans ak).trans al).trans ag).trans ab).trans ac).trans cZ)⟩
  have fr:ae ≠ 8:=by simpa using aW
  refine qap [(3,.p 0 0),(6,.p 1 0),(7,.p 2 0),(12,.v (.slice A l.length c)),(13,.v (.int .i64 ((l.length:Nat):Int))),(14,.v (.int .i64 ((k:Nat):Int))),(23,.v (.int .i64 ae)),(46,.v (.bool (ae == 7)))] aa aV fun gF aZ=>?_
  refine qay aZ (b:=ae == 7) kz (fun ba=>?_) (fun ba=>?_)
  ·
   have ft:ae = 7:=by simpa using ba
   refine qaK 5 kz aa fun gG bd c6 da=>?_
   refine qaJ [0,1] [(3,.p 0 0),(12,.v (.slice A l.length c)),(13,.v (.int .i64 ((l.length:Nat):Int))),(14,.v (.int .i64 ((k:Nat):Int))),(49,.v (.slice aC af.length aD))] 3 (qaa (qac (qac (qaa (qaa (qac (qaa qag))))))) (fun _ h=>h.cells) da aZ fun gH db=>?_
   refine qaw (i:=2) kz (qcx c6 db (d:=50) (j:=16) (t:=22) (e:=5) (bytes:=1) (z:=.int .u8 0) kz kz kz kz (rfl) (rfl) (by omega) fun eZ gI gJ fv fw ap aG dc=>?_)
   have de:=TT.ofW ap aG
   refine ⟨fun _=>de,?_⟩
   refine qaw (i:=3) kz (qam dc (f:=82) (vs:=[.slice aC af.length aD,.slice (some ⟨eZ,0,none⟩) 16 16]) (d:=51) kz Tryz.call82 (qeh _ _ _ _ af (List.replicate 16 0:Bs) _ _ ((cM.move (((ab.trans ac).trans bd).trans ap).step immM (((ab.trans ac).trans bd).trans ap).to').move (Step.refl _ Nil) nilM allF) (qjP (aG.own 0 _ rfl) (F:=fun _ _=>True) (fun _ _ _=>trivial))) ?_)
   rintro e_ gK ⟨rfl,bI⟩
   refine ⟨_,rfl,fun gL df=>?_⟩
   have ar:=aG.next_nil bI
   have bJ:=aG.frN bI
   have bK:=TT.ofW (ap.trans bJ) ar
   refine ⟨fun _=>bK,?_⟩
   refine qaJ [4] [(3,.p 0 0),(12,.v (.slice A l.length c)),(13,.v (.int .i64 ((l.length:Nat):Int))),(14,.v (.int .i64 ((k:Nat):Int))),(52,.v (.bool (!(decide (af = (List.replicate 16 0:Bs))))))] 0 (qaa (qac (qac (qaa (qaa (qac (qaa qag))))))) (fun _ h=>h.cells) bK df fun gM bf=>?_
   refine qaG kz ?_ _
   refine qab (qay bf (b:=!(decide (af = (List.replicate 16 0:Bs)))) kz (fun dg=>?_) (fun dg=>?_))
   ·
    refine qap [(4,.v (.bool false))] ar bf fun gN dh=>?_
    refine wp_ret (qaz (qaz (qaq (qaq (qaz (qaq (qaL dh ar.cells (v:=.bool false) kz ?_)))))))
    first
     | exact (qgg hq_ ‹_› ‹_›).elim
     | exact (qgh hq_ ‹_› ‹_›).elim
     | exact (us_7 hq_ ‹_› ‹_›).elim
     | exact (qgi hq_ ‹_› ‹_›).elim
     | exact (qgj hq_ ‹_› ‹_›).elim
     | exact (qeB hq_ ‹_› ‹_›).elim
     | exact (qeC hq_ ‹_› ‹_›).elim
     | exact (qgk hq_ ‹_› ‹_› ‹_›).elim
     | exact (us_n hq_ ‹_› ‹_› ‹_› ‹_› ‹_› ‹_›).elim
   refine wp_skip (qau (qau (qab (qas [0,1] kz ?_))))
   refine qal [0,1] [] [(3,.p 0 0),(12,.v (.slice A l.length c)),(13,.v (.int .i64 ((l.length:Nat):Int))),(14,.v (.int .i64 (IntKind.i64.wrap (((k:Nat):Int) + 1))))] ar bf fun gO di=>?_
   refine qaf (qab ?_)
   obtain ⟨bL,dj,dl⟩:=ar.cutB di 1 [⟨bz,0,(z3 n1 A6 s2.length c7 b3 A8 l4.length c9 aJ u5.length aK),true⟩] [(3,.p 0 0),(12,.v (.slice A l.length c)),(13,.v (.int .i64 ((l.length:Nat):Int))),(14,.v (.int .i64 (IntKind.i64.wrap (((k:Nat):Int) + 1))))]
   obtain ⟨dp,dq⟩:=dj.cutR 0 []
   have dr:IntKind.i64.wrap (((k:Nat):Int) + 1) = ((k + 1:Nat):Int):=qaT (by omega)
   rw [dr] at bL
   exact ⟨l.length - (k + 1),by omega,k + 1,rfl,by omega,bL.pk,dp,((((((((((aj.trans ak).trans al).trans ag).trans ab).trans ac).trans bd).trans ap).trans bJ).trans dl).trans dq)⟩
  have fx:ae ≠ 7:=by simpa using ba
  refine wp_seq (qap [(3,.p 0 0),(6,.p 1 0),(7,.p 2 0),(12,.v (.slice A l.length c)),(13,.v (.int .i64 ((l.length:Nat):Int))),(14,.v (.int .i64 ((k:Nat):Int))),(23,.v (.int .i64 ae)),(53,.v (.bool (ae == 9)))] aa aZ fun gP aH=>?_)
  refine qay aH (b:=ae == 9) kz (fun aI=>?_) (fun aI=>?_)
  ·
   have fy:ae = 9:=by simpa using aI
   refine wp_skip (qab (qa2 aH (b:=ae == 9) kz (aI) ?_))
   refine qae [0,1,2,3,4,5,6,7,8,9] kz ?_
   refine qal [0,1,2,3,4] [5,6,7,8,9] [(3,.p 0 0),(7,.p 2 0),(12,.v (.slice A l.length c)),(13,.v (.int .i64 ((l.length:Nat):Int))),(14,.v (.int .i64 ((k:Nat):Int))),(60,.v (.bool (decide (((af.length:Nat):Int) > 0))))] aa aH fun gQ bM=>?_
   refine (Bool.eq_false_or_eq_true (decide (((af.length:Nat):Int) > 0))).elim (fun au=>?_) (fun au=>?_)
   ·
    have fz:=of_decide_eq_true au
    have dt:=bM
    rw [au] at dt
    refine qal [5,6,7,8,9] [] [(3,.p 0 0),(12,.v (.slice A l.length c)),(13,.v (.int .i64 ((l.length:Nat):Int))),(14,.v (.int .i64 ((k:Nat):Int))),(65,.v (.bool true))] aa dt fun gR bN=>?_
    refine qaf (qab ?_)
    refine qa2 bN (b:=true) kz rfl ?_
    refine qap [(4,.v (.bool false))] aa bN fun gS du=>?_
    refine wp_ret (qaz (qaz (qaq (qaq (qaz (qaq (qaL du aa.cells (v:=.bool false) kz ?_)))))))
    first
     | exact (qgg hq_ ‹_› ‹_›).elim
     | exact (qgh hq_ ‹_› ‹_›).elim
     | exact (us_7 hq_ ‹_› ‹_›).elim
     | exact (qgi hq_ ‹_› ‹_›).elim
     | exact (qgj hq_ ‹_› ‹_›).elim
     | exact (qeB hq_ ‹_› ‹_›).elim
     | exact (qeC hq_ ‹_› ‹_›).elim
     | exact (qgk hq_ ‹_› ‹_› ‹_›).elim
     | exact (us_n hq_ ‹_› ‹_› ‹_› ‹_› ‹_› ‹_›).elim
   have fA:=of_decide_eq_false au
   have dv:=bM
   rw [au] at dv
   refine qal [5,6,7,8,9] [] [(3,.p 0 0),(12,.v (.slice A l.length c)),(13,.v (.int .i64 ((l.length:Nat):Int))),(14,.v (.int .i64 ((k:Nat):Int))),(65,.v (.bool (decide (((am.length:Nat):Int) > 0))))] aa dv fun gT bg=>?_
   refine qaf (qab ?_)
   refine qay bg (b:=decide (((am.length:Nat):Int) > 0)) kz (fun bh=>?_) (fun bh=>?_)
   ·
    have fB:=of_decide_eq_true bh
    refine qap [(4,.v (.bool false))] aa bg fun gU dw=>?_
    refine wp_ret (qaz (qaz (qaq (qaq (qaz (qaq (qaL dw aa.cells (v:=.bool false) kz ?_)))))))
    first
     | exact (qgg hq_ ‹_› ‹_›).elim
     | exact (qgh hq_ ‹_› ‹_›).elim
     | exact (us_7 hq_ ‹_› ‹_›).elim
     | exact (qgi hq_ ‹_› ‹_›).elim
     | exact (qgj hq_ ‹_› ‹_›).elim
     | exact (qeB hq_ ‹_› ‹_›).elim
     | exact (qeC hq_ ‹_› ‹_›).elim
     | exact (qgk hq_ ‹_› ‹_› ‹_›).elim
     | exact (us_n hq_ ‹_› ‹_› ‹_› ‹_› ‹_› ‹_›).elim
   have fC:=of_decide_eq_false bh
   refine wp_skip (qau (qau (qab (qas [0,1] kz ?_))))
   refine qal [0,1] [] [(3,.p 0 0),(12,.v (.slice A l.length c)),(13,.v (.int .i64 ((l.length:Nat):Int))),(14,.v (.int .i64 (IntKind.i64.wrap (((k:Nat):Int) + 1))))] aa bg fun gV dx=>?_
   refine qaf (qab ?_)
   obtain ⟨bO,dy,dz⟩:=aa.cutB dx 1 [⟨bz,0,(z3 n1 A6 s2.length c7 b3 A8 l4.length c9 aJ u5.length aK),true⟩] [(3,.p 0 0),(12,.v (.slice A l.length c)),(13,.v (.int .i64 ((l.length:Nat):Int))),(14,.v (.int .i64 (IntKind.i64.wrap (((k:Nat):Int) + 1))))]
   have dA:IntKind.i64.wrap (((k:Nat):Int) + 1) = ((k + 1:Nat):Int):=qaT (by omega)
   rw [dA] at bO
   exact ⟨l.length - (k + 1),by omega,k + 1,rfl,by omega,bO.pk,dy,((((((aj.trans ak).trans al).trans ag).trans ab).trans ac).trans dz)⟩
  have fD:ae ≠ 9:=by simpa using aI
  refine qas [0,1] kz ?_
  refine qal [0,1] [] [(3,.p 0 0),(6,.p 1 0),(7,.p 2 0),(12,.v (.slice A l.length c)),(13,.v (.int .i64 ((l.length:Nat):Int))),(14,.v (.int .i64 ((k:Nat):Int))),(23,.v (.int .i64 ae)),(53,.v (.bool (ae == 11)))] aa aH fun gW bi=>?_
  refine qaf (qab ?_)
  refine qay bi (b:=ae == 11) kz (fun bj=>?_) (fun bj=>?_)
  ·
   have fE:ae = 11:=by simpa using bj
   refine qae [0,1,2,3,4,5,6,7,8,9] kz ?_
   refine qal [0,1,2,3,4] [5,6,7,8,9] [(3,.p 0 0),(7,.p 2 0),(12,.v (.slice A l.length c)),(13,.v (.int .i64 ((l.length:Nat):Int))),(14,.v (.int .i64 ((k:Nat):Int))),(60,.v (.bool (decide (((af.length:Nat):Int) > 0))))] aa bi fun gX bP=>?_
   refine (Bool.eq_false_or_eq_true (decide (((af.length:Nat):Int) > 0))).elim (fun av=>?_) (fun av=>?_)
   ·
    have fF:=of_decide_eq_true av
    have dB:=bP
    rw [av] at dB
    refine qal [5,6,7,8,9] [] [(3,.p 0 0),(12,.v (.slice A l.length c)),(13,.v (.int .i64 ((l.length:Nat):Int))),(14,.v (.int .i64 ((k:Nat):Int))),(65,.v (.bool true))] aa dB fun gY bQ=>?_
    refine qaf (qab ?_)
    refine qa2 bQ (b:=true) kz rfl ?_
    refine qap [(4,.v (.bool false))] aa bQ fun gZ dC=>?_
    refine wp_ret (qaz (qaz (qaq (qaq (qaz (qaq (qaL dC aa.cells (v:=.bool false) kz ?_)))))))
    first
     | exact (qgg hq_ ‹_› ‹_›).elim
     | exact (qgh hq_ ‹_› ‹_›).elim
     | exact (us_7 hq_ ‹_› ‹_›).elim
     | exact (qgi hq_ ‹_› ‹_›).elim
     | exact (qgj hq_ ‹_› ‹_›).elim
     | exact (qeB hq_ ‹_› ‹_›).elim
     | exact (qeC hq_ ‹_› ‹_›).elim
     | exact (qgk hq_ ‹_› ‹_› ‹_›).elim
     | exact (us_n hq_ ‹_› ‹_› ‹_› ‹_› ‹_› ‹_›).elim
   have fG:=of_decide_eq_false av
   have dD:=bP
   rw [av] at dD
   refine qal [5,6,7,8,9] [] [(3,.p 0 0),(12,.v (.slice A l.length c)),(13,.v (.int .i64 ((l.length:Nat):Int))),(14,.v (.int .i64 ((k:Nat):Int))),(65,.v (.bool (decide (((am.length:Nat):Int) > 0))))] aa dD fun g9 bk=>?_
   refine qaf (qab ?_)
   refine qay bk (b:=decide (((am.length:Nat):Int) > 0)) kz (fun bn=>?_) (fun bn=>?_)
   ·
    have fH:=of_decide_eq_true bn
    refine qap [(4,.v (.bool false))] aa bk fun hC dE=>?_
    refine wp_ret (qaz (qaz (qaq (qaq (qaz (qaq (qaL dE aa.cells (v:=.bool false) kz ?_)))))))
    first
     | exact (qgg hq_ ‹_› ‹_›).elim
     | exact (qgh hq_ ‹_› ‹_›).elim
     | exact (us_7 hq_ ‹_› ‹_›).elim
     | exact (qgi hq_ ‹_› ‹_›).elim
     | exact (qgj hq_ ‹_› ‹_›).elim
     | exact (qeB hq_ ‹_› ‹_›).elim
     | exact (qeC hq_ ‹_› ‹_›).elim
     | exact (qgk hq_ ‹_› ‹_› ‹_›).elim
     | exact (us_n hq_ ‹_› ‹_› ‹_› ‹_› ‹_› ‹_›).elim
   have fI:=of_decide_eq_false bn
   refine wp_skip (qau (qau (qab (qas [0,1] kz ?_))))
   refine qal [0,1] [] [(3,.p 0 0),(12,.v (.slice A l.length c)),(13,.v (.int .i64 ((l.length:Nat):Int))),(14,.v (.int .i64 (IntKind.i64.wrap (((k:Nat):Int) + 1))))] aa bk fun hJ dF=>?_
   refine qaf (qab ?_)
   obtain ⟨bR,dG,dH⟩:=aa.cutB dF 1 [⟨bz,0,(z3 n1 A6 s2.length c7 b3 A8 l4.length c9 aJ u5.length aK),true⟩] [(3,.p 0 0),(12,.v (.slice A l.length c)),(13,.v (.int .i64 ((l.length:Nat):Int))),(14,.v (.int .i64 (IntKind.i64.wrap (((k:Nat):Int) + 1))))]
   have dI:IntKind.i64.wrap (((k:Nat):Int) + 1) = ((k + 1:Nat):Int):=qaT (by omega)
   rw [dI] at bR
   exact ⟨l.length - (k + 1),by omega,k + 1,rfl,by omega,bR.pk,dG,((((((aj.trans ak).trans al).trans ag).trans ab).trans ac).trans dH)⟩
  have fJ:ae ≠ 11:=by simpa using bj
  refine qap [(3,.p 0 0),(6,.p 1 0),(7,.p 2 0),(12,.v (.slice A l.length c)),(13,.v (.int .i64 ((l.length:Nat):Int))),(14,.v (.int .i64 ((k:Nat):Int))),(66,.v (.bool (ae == 10)))] aa bi fun hK bo=>?_
  refine qay bo (b:=ae == 10) kz (fun bp=>?_) (fun bp=>?_)
  ·
   have fK:ae = 10:=by simpa using bp
   refine qae [0,1,2,3,4,5,6,7,8,9,10,11,12,13,14,15,16,17,18,19] kz ?_
   refine qal [0,1,2,3] [4,5,6,7,8,9,10,11,12,13,14,15,16,17,18,19] [(3,.p 0 0),(6,.p 1 0),(7,.p 2 0),(12,.v (.slice A l.length c)),(13,.v (.int .i64 ((l.length:Nat):Int))),(14,.v (.int .i64 ((k:Nat):Int))),(71,.v (.bool (decide (aE ≥ 0))))] aa bo fun hZ bS=>?_
   refine (Bool.eq_false_or_eq_true (decide (aE ≥ 0))).elim (fun aw=>?_) (fun aw=>?_)
   ·
    have fL:=of_decide_eq_true aw
    have dJ:=bS
    rw [aw] at dJ
    refine qal [4,5,6,7,8] [9,10,11,12,13,14,15,16,17,18,19] [(3,.p 0 0),(6,.p 1 0),(7,.p 2 0),(12,.v (.slice A l.length c)),(13,.v (.int .i64 ((l.length:Nat):Int))),(14,.v (.int .i64 ((k:Nat):Int))),(76,.v (.bool (!ah)))] aa dJ fun ia bT=>?_
    refine (Bool.eq_false_or_eq_true (!ah)).elim (fun bq=>?_) (fun bq=>?_)
    ·
     have dK:=bT
     rw [bq] at dK
     refine qal [9,10,11,12,13,14,15,16,17,18,19] [] [(3,.p 0 0),(12,.v (.slice A l.length c)),(13,.v (.int .i64 ((l.length:Nat):Int))),(14,.v (.int .i64 ((k:Nat):Int))),(87,.v (.bool true))] aa dK fun ib bU=>?_
     refine qaf (qab ?_)
     refine qa2 bU (b:=true) kz rfl ?_
     refine qap [(4,.v (.bool false))] aa bU fun ic dL=>?_
     refine wp_ret (qaz (qaz (qaq (qaq (qaz (qaq (qaL dL aa.cells (v:=.bool false) kz ?_)))))))
     first
      | exact (qgg hq_ ‹_› ‹_›).elim
      | exact (qgh hq_ ‹_› ‹_›).elim
      | exact (us_7 hq_ ‹_› ‹_›).elim
      | exact (qgi hq_ ‹_› ‹_›).elim
      | exact (qgj hq_ ‹_› ‹_›).elim
      | exact (qeB hq_ ‹_› ‹_›).elim
      | exact (qeC hq_ ‹_› ‹_›).elim
      | exact (qgk hq_ ‹_› ‹_› ‹_›).elim
      | exact (us_n hq_ ‹_› ‹_› ‹_› ‹_› ‹_› ‹_›).elim
    have dM:=bT
    rw [bq] at dM
    refine qal [9,10,11,12] [13,14,15,16,17,18,19] [(3,.p 0 0),(6,.p 1 0),(7,.p 2 0),(12,.v (.slice A l.length c)),(13,.v (.int .i64 ((l.length:Nat):Int))),(14,.v (.int .i64 ((k:Nat):Int))),(76,.v (.bool false)),(80,.v (.bool (decide (aE < 0))))] aa dM fun ig bV=>?_
    refine (Bool.eq_false_or_eq_true (decide (aE < 0))).elim (fun ax=>?_) (fun ax=>?_)
    ·
     have fM:=of_decide_eq_true ax
     have dN:=bV
     rw [ax] at dN
     refine qal [13,14,15] [16,17,18,19] [(3,.p 0 0),(12,.v (.slice A l.length c)),(13,.v (.int .i64 ((l.length:Nat):Int))),(14,.v (.int .i64 ((k:Nat):Int))),(76,.v (.bool false)),(80,.v (.bool true)),(82,.v (.slice bC bA.length bD)),(83,.v (.agg #[.int .i64 ai,.slice aC af.length aD,.bool ah,.slice aP am.length aQ,.slice aR aO.length aS]))] aa dN fun ii dO=>?_
     refine qan (qam dO (f:=80) (vs:=[.slice bC bA.length bD,.agg #[.int .i64 ai,.slice aC af.length aD,.bool ah,.slice aP am.length aQ,.slice aR aO.length aS]]) (d:=84) kz Tryz.call80 ( hu _ _ bA _ _ _ _ ⟨cK,(eN.move aa.step nilM aa.imm),(fun i_ x_ h_=>((fe i_ x_ h_).move aa.step nilM aa.imm))⟩ (aF.move (ab.trans ac).step immM (ab.trans ac).to') (by rw [aT]; exact qkN hq_ ‹_› ‹_›)) ?_)
     rintro e_ ij ⟨rfl,bW⟩
     refine ⟨_,rfl,fun ik dP=>?_⟩
     have bt:=aa.next_nil bW
     have dQ:=aa.frN bW
     refine qal [17,18,19] [] (z22 A l.length c k) bt dP fun il bX=>?_
     refine qaf (qab ?_)
     refine qar bX (b:=false) kz rfl ?_
     refine wp_skip (qau (qau (qab (qas [0,1] kz ?_))))
     refine qal [0,1] [] [(3,.p 0 0),(12,.v (.slice A l.length c)),(13,.v (.int .i64 ((l.length:Nat):Int))),(14,.v (.int .i64 (IntKind.i64.wrap (((k:Nat):Int) + 1))))] bt bX fun im dR=>?_
     refine qaf (qab ?_)
     obtain ⟨bY,dS,dT⟩:=bt.cutB dR 1 [⟨bz,0,(z3 n1 A6 s2.length c7 b3 A8 l4.length c9 aJ u5.length aK),true⟩] [(3,.p 0 0),(12,.v (.slice A l.length c)),(13,.v (.int .i64 ((l.length:Nat):Int))),(14,.v (.int .i64 (IntKind.i64.wrap (((k:Nat):Int) + 1))))]
     have dU:IntKind.i64.wrap (((k:Nat):Int) + 1) = ((k + 1:Nat):Int):=qaT (by omega)
     rw [dU] at bY
     exact ⟨l.length - (k + 1),by omega,k + 1,rfl,by omega,bY.pk,dS,(((((((aj.trans ak).trans al).trans ag).trans ab).trans ac).trans dQ).trans dT)⟩
    have fN:=of_decide_eq_false ax
    have dV:=bV
    rw [ax] at dV
    refine qal [13,14,15,16,17,18,19] [] (z22 A l.length c k) aa dV fun io bZ=>?_
    refine qaf (qab ?_)
    refine qar bZ (b:=false) kz rfl ?_
    refine wp_skip (qau (qau (qab (qas [0,1] kz ?_))))
    refine qal [0,1] [] [(3,.p 0 0),(12,.v (.slice A l.length c)),(13,.v (.int .i64 ((l.length:Nat):Int))),(14,.v (.int .i64 (IntKind.i64.wrap (((k:Nat):Int) + 1))))] aa bZ fun ip dW=>?_
    refine qaf (qab ?_)
    obtain ⟨b8,dX,dY⟩:=aa.cutB dW 1 [⟨bz,0,(z3 n1 A6 s2.length c7 b3 A8 l4.length c9 aJ u5.length aK),true⟩] [(3,.p 0 0),(12,.v (.slice A l.length c)),(13,.v (.int .i64 ((l.length:Nat):Int))),(14,.v (.int .i64 (IntKind.i64.wrap (((k:Nat):Int) + 1))))]
    have dZ:IntKind.i64.wrap (((k:Nat):Int) + 1) = ((k + 1:Nat):Int):=qaT (by omega)
    rw [dZ] at b8
    exact ⟨l.length - (k + 1),by omega,k + 1,rfl,by omega,b8.pk,dX,((((((aj.trans ak).trans al).trans ag).trans ab).trans ac).trans dY)⟩
   have fO:=of_decide_eq_false aw
   have d5:=bS.cast (env':=[(3,.p 0 0),(6,.p 1 0),(7,.p 2 0),(12,.v (.slice A l.length c)),(13,.v (.int .i64 ((l.length:Nat):Int))),(14,.v (.int .i64 ((k:Nat):Int))),(71,.v (.bool false))]) (by rw [aw])
   refine qal [4,5,6,7,8,9,10,11,12] [13,14,15,16,17,18,19] [(3,.p 0 0),(6,.p 1 0),(7,.p 2 0),(12,.v (.slice A l.length c)),(13,.v (.int .i64 ((l.length:Nat):Int))),(14,.v (.int .i64 ((k:Nat):Int))),(76,.v (.bool false)),(80,.v (.bool (decide (aE < 0))))] aa d5 fun iq cd=>?_
   refine (Bool.eq_false_or_eq_true (decide (aE < 0))).elim (fun ay=>?_) (fun ay=>?_)
   ·
    have fP:=of_decide_eq_true ay
    have d6:=cd
    rw [ay] at d6
    refine qal [13,14,15] [16,17,18,19] [(3,.p 0 0),(12,.v (.slice A l.length c)),(13,.v (.int .i64 ((l.length:Nat):Int))),(14,.v (.int .i64 ((k:Nat):Int))),(76,.v (.bool false)),(80,.v (.bool true)),(82,.v (.slice bC bA.length bD)),(83,.v (.agg #[.int .i64 ai,.slice aC af.length aD,.bool ah,.slice aP am.length aQ,.slice aR aO.length aS]))] aa d6 fun ir d7=>?_
    refine qan (qam d7 (f:=80) (vs:=[.slice bC bA.length bD,.agg #[.int .i64 ai,.slice aC af.length aD,.bool ah,.slice aP am.length aQ,.slice aR aO.length aS]]) (d:=84) kz Tryz.call80 ( hu _ _ bA _ _ _ _ ⟨cK,(eN.move aa.step nilM aa.imm),(fun i_ x_ h_=>((fe i_ x_ h_).move aa.step nilM aa.imm))⟩ (aF.move (ab.trans ac).step immM (ab.trans ac).to') (by rw [aT]; exact qkN hq_ ‹_› ‹_›)) ?_)
    rintro e_ iu ⟨rfl,ce⟩
    refine ⟨_,rfl,fun iv d8=>?_⟩
    have bu:=aa.next_nil ce
    have d9:=aa.frN ce
    refine qal [17,18,19] [] (z22 A l.length c k) bu d8 fun iw cm=>?_
    refine qaf (qab ?_)
    refine qar cm (b:=false) kz rfl ?_
    refine wp_skip (qau (qau (qab (qas [0,1] kz ?_))))
    refine qal [0,1] [] [(3,.p 0 0),(12,.v (.slice A l.length c)),(13,.v (.int .i64 ((l.length:Nat):Int))),(14,.v (.int .i64 (IntKind.i64.wrap (((k:Nat):Int) + 1))))] bu cm fun ix ea=>?_
    refine qaf (qab ?_)
    obtain ⟨cq,eb,ec⟩:=bu.cutB ea 1 [⟨bz,0,(z3 n1 A6 s2.length c7 b3 A8 l4.length c9 aJ u5.length aK),true⟩] [(3,.p 0 0),(12,.v (.slice A l.length c)),(13,.v (.int .i64 ((l.length:Nat):Int))),(14,.v (.int .i64 (IntKind.i64.wrap (((k:Nat):Int) + 1))))]
    have ee:IntKind.i64.wrap (((k:Nat):Int) + 1) = ((k + 1:Nat):Int):=qaT (by omega)
    rw [ee] at cq
    exact ⟨l.length - (k + 1),by omega,k + 1,rfl,by omega,cq.pk,eb,(((((((aj.trans ak).trans al).trans ag).trans ab).trans ac).trans d9).trans ec)⟩
   have fQ:=of_decide_eq_false ay
   have ef:=cd
   rw [ay] at ef
   refine qal [13,14,15,16,17,18,19] [] (z22 A l.length c k) aa ef fun iy cr=>?_
   refine qaf (qab ?_)
   refine qar cr (b:=false) kz rfl ?_
   refine wp_skip (qau (qau (qab (qas [0,1] kz ?_))))
   refine qal [0,1] [] [(3,.p 0 0),(12,.v (.slice A l.length c)),(13,.v (.int .i64 ((l.length:Nat):Int))),(14,.v (.int .i64 (IntKind.i64.wrap (((k:Nat):Int) + 1))))] aa cr fun iz eg=>?_
   refine qaf (qab ?_)
   obtain ⟨cu,eh,ei⟩:=aa.cutB eg 1 [⟨bz,0,(z3 n1 A6 s2.length c7 b3 A8 l4.length c9 aJ u5.length aK),true⟩] [(3,.p 0 0),(12,.v (.slice A l.length c)),(13,.v (.int .i64 ((l.length:Nat):Int))),(14,.v (.int .i64 (IntKind.i64.wrap (((k:Nat):Int) + 1))))]
   have ej:IntKind.i64.wrap (((k:Nat):Int) + 1) = ((k + 1:Nat):Int):=qaT (by omega)
   rw [ej] at cu
   exact ⟨l.length - (k + 1),by omega,k + 1,rfl,by omega,cu.pk,eh,((((((aj.trans ak).trans al).trans ag).trans ab).trans ac).trans ei)⟩
  have fR:ae ≠ 10:=by simpa using bp
  refine qaK 8 kz aa fun iA ek cw em=>?_
  refine qaJ [0,1,2,3,4,5] [(3,.p 0 0),(12,.v (.slice A l.length c)),(13,.v (.int .i64 ((l.length:Nat):Int))),(14,.v (.int .i64 ((k:Nat):Int))),(25,.v (.int .i64 ai)),(27,.v (.int .i64 ae)),(29,.v (.int .i64 aM))] 2 (qaa (qac (qac (qaa (qaa (qac (qaa qag))))))) (fun _ h=>h.cells) em bo fun iB eo=>?_
  refine qaw (i:=6) kz (qam eo (f:=48) (vs:=[.int .i64 ae,.int .i64 aM]) (d:=30) kz Tryz.call48 (qgm ae aM _) ?_)
  rintro e_ iC ⟨rfl,cz⟩
  refine ⟨_,rfl,fun iD ep=>?_⟩
  have az:=cw.next_nil cz
  have cA:=cw.frN cz
  have cB:=TT.ofW cA az
  refine ⟨fun _=>cB,?_⟩
  refine qaJ [7] [(3,.p 0 0),(12,.v (.slice A l.length c)),(13,.v (.int .i64 ((l.length:Nat):Int))),(14,.v (.int .i64 ((k:Nat):Int))),(31,.v (.bool (ai != (qbs ae aM))))] 0 (qaa (qac (qac (qaa (qaa (qac (qaa qag))))))) (fun _ h=>h.cells) cB ep fun iE bw=>?_
  refine qaG kz ?_ _
  refine qab (qay bw (b:=ai != (qbs ae aM)) kz (fun bx=>?_) (fun bx=>?_))
  ·
   have fS:ai ≠ (qbs ae aM):=by simpa using bx
   refine qap [(4,.v (.bool false))] az bw fun iF eu=>?_
   refine wp_ret (qaz (qaz (qaq (qaq (qaz (qaq (qaL eu az.cells (v:=.bool false) kz ?_)))))))
   first
    | exact (qgg hq_ ‹_› ‹_›).elim
    | exact (qgh hq_ ‹_› ‹_›).elim
    | exact (us_7 hq_ ‹_› ‹_›).elim
    | exact (qgi hq_ ‹_› ‹_›).elim
    | exact (qgj hq_ ‹_› ‹_›).elim
    | exact (qeB hq_ ‹_› ‹_›).elim
    | exact (qeC hq_ ‹_› ‹_›).elim
    | exact (qgk hq_ ‹_› ‹_› ‹_›).elim
    | exact (us_n hq_ ‹_› ‹_› ‹_› ‹_› ‹_› ‹_›).elim
  have fT:ai = (qbs ae aM):=by simpa using bx
  refine wp_skip (qau (qau (qab (qas [0,1] kz ?_))))
  refine qal [0,1] [] [(3,.p 0 0),(12,.v (.slice A l.length c)),(13,.v (.int .i64 ((l.length:Nat):Int))),(14,.v (.int .i64 (IntKind.i64.wrap (((k:Nat):Int) + 1))))] az bw fun iG ev=>?_
  refine qaf (qab ?_)
  obtain ⟨cC,ew,ey⟩:=az.cutB ev 1 [⟨bz,0,(z3 n1 A6 s2.length c7 b3 A8 l4.length c9 aJ u5.length aK),true⟩] [(3,.p 0 0),(12,.v (.slice A l.length c)),(13,.v (.int .i64 ((l.length:Nat):Int))),(14,.v (.int .i64 (IntKind.i64.wrap (((k:Nat):Int) + 1))))]
  have ez:IntKind.i64.wrap (((k:Nat):Int) + 1) = ((k + 1:Nat):Int):=qaT (by omega)
  rw [ez] at cC
  exact ⟨l.length - (k + 1),by omega,k + 1,rfl,by omega,cC.pk,ew,((((((((aj.trans ak).trans al).trans ag).trans ab).trans ac).trans ek).trans cA).trans ey)⟩
 have fU:=of_decide_eq_false cH
 refine wp_exit (qaC (qaC (qaS (qab (qap [(4,.v (.bool true))] aB cG fun iH eB=>?_)))))
 refine wp_ret (qaL eB aB.cells (v:=.bool true) kz ?_)
 exact ⟨rfl,aB.step⟩
theorem qjW:∀ d,UsOK (qjO d)
 | 0=>sUs fun _ _ _ _ _ _ _ _ _ h=>h.elim
 | d + 1=>sUs (qjW d)
def ToOK (v:Int) (flex:Bool) (T:List Fld → Tree → Tree → Prop):Prop:=∀ (A:Option Addr) (c:Nat) (l:List Fld) (ct:List Value) (t:Tree) (cg:List Value) (g:Tree) (w:World) (F:Nat → Nat → Prop),FldsR w F A c l → TreeR w F ct t → TreeR w F cg g → plains l → T l t g →
  Calls Tryz.prog 30 #[.slice A l.length c,.int .i64 v,.bool flex,.agg ct.toArray,.agg cg.toArray] w (qch w (.bool true))
abbrev z13 (x0) (x1) (x2) (x3) (x4) (x5) (x6) (x7) (x8) (x9) (x10) (x11) (x12) (x13) (x14):=([(1,.v (.int .i64 x0)),(2,.v (.bool x1)),(5,.p 0 0),(8,.p 1 0),(9,.p 2 0),(47,.v (.bool (z4 x2 x3 x4 x5 x6 x7 x8 x9 x0 x10 x11 x12 x13 x14)))]:Env)
abbrev z11 (x0) (x1) (x2):=([(1,.v (.int .i64 x0)),(2,.v (.bool x1)),(5,.p 0 0),(8,.p 1 0),(9,.p 2 0),(49,.v (.int .i64 x2))]:Env)
abbrev z14 (x0) (x1) (x2) (x3):=([(9,.p 2 0),(13,.v (.slice (some ⟨x0,0,none⟩) 16 16)),(62,.v (.slice (some ⟨x0,0,none⟩) 16 16)),(64,.v (.slice x1 x2 x3)),(65,.v (.int .i64 ((min x2 16:Nat):Int)))]:Env)
abbrev z17 (x0) (x1) (x2) (x3):=([(9,.p 2 0),(13,.v (.slice (some ⟨x0,0,none⟩) 16 16)),(62,.v (.slice (some ⟨x0,0,none⟩) 16 16)),(64,.v (.slice x1 x2 x3))]:Env)
abbrev z28 (x0):=([(8,.p 1 0),(9,.p 2 0),(13,.v (.slice (some ⟨x0,0,none⟩) 16 16))]:Env)
abbrev z29 (x0) (x1) (x2) (x3) (x4):=([(67,.v (.slice x0 x1 x2)),(68,.v (.slice (some ⟨x3,0,none⟩) ((qbp x4).length) 16))]:Env)
abbrev z38 (x0) (x1) (x2) (x3) (x4) (x5) (x6) (x7) (x8) (x9) (x10) (x11) (x12) (x13) (x14):=([(1,.v (.int .i64 x0)),(2,.v (.bool x1)),(5,.p 0 0),(8,.p 1 0),(9,.p 2 0),(11,.v (.bool (z4 x2 x3 x4 x5 x6 x7 x8 x9 x0 x10 x11 x12 x13 x14))),(46,.v (.bool false))]:Env)
abbrev z52 (x0) (x1) (x2) (x3) (x4) (x5):=([(54,.v (.slice x0 x1 x2)),(56,.v (.slice x3 x4 x5))]:Env)
abbrev z55 (x0) (x1) (x2) (x3) (x4) (x5):=([.slice x0 x1 x2,.slice x3 ((qaH x4).length) x5]:List Value)
theorem qhZ {v:Int} {flex:Bool} {T:List Fld → Tree → Tree → Prop} (hT:ToOK v flex T) (cf:List Value) (f:Fld) (ct:List Value) (t:Tree) (cg:List Value) (g:Tree) (w:World) (F:Nat → Nat → Prop) (hf:FldR w F cf f) (hpl:plains f.sub) (bt:f.kind ≠ 11) (ht:TreeR w F ct t) (hg:TreeR w F cg g) (hq:ToF0 T v f t g) :
  Calls Tryz.prog 79 #[.agg cf.toArray,.int .i64 v,.bool flex,.agg ct.toArray,.agg cg.toArray] w (qch w (.bool true)):=by
 obtain ⟨k1,y2,y3,y4,y5,y6,y7,l8,A9,dT,d5,rfl,rfl,iO,jf⟩:=hf.open_
 have jg:=iO.small
 obtain ⟨ac,ab,ae,af,ag,ai,aj,dU,dV,dW,dX,kP,rfl,rfl,aH,kQ,oV,oW⟩:=ht.open_
 have jh:=aH.small
 have ji:=kQ.small
 obtain ⟨aN,ah,ap,dY,dZ,al,am,d6,d7,d8,d9,kR,rfl,rfl,bq,kS,oX,oY⟩:=hg.open_
 have jj:=bq.small
 have jk:=kS.small
 replace hpl:plains l8:=hpl
 have bt:k1 ≠ 11:=bt
 refine enter (n:=124) Tryz.func79 rfl Tryz.ntmps79 kz fun a hE=>?_
 have hW:=WOk.start w Nil
 refine qae [0,1,2,3] kz ?_
 refine qan (qbl hW hE (d:=5) (cs:=(z5 k1 y2 y3 y4 y5 y6 y7 A9 l8.length dT)) kz fun oZ o5 o6 kT kU kV iP iQ=>?_)
 refine qan (qbl iP iQ (d:=8) (cs:=(z3 ac ai ab.length aj ae dU af.length dV dW ag.length dX)) kz fun o7 o9 pa kW kX kY iR iS=>?_)
 refine qan (qbl iR iS (d:=9) (cs:=(z3 aN al ah.length am ap d6 dY.length d7 d8 dZ.length d9)) kz fun pb pc pd kZ k5 k6 cJ iT=>?_)
 refine qal [3] [] [(1,.v (.int .i64 v)),(2,.v (.bool flex)),(5,.p 0 0),(8,.p 1 0),(9,.p 2 0)] cJ iT fun pe iU=>?_
 refine qaf (qab ?_)
 refine qae [0,1,2,3,4] kz ?_
 refine qal [0,1,2] [3,4] [(1,.v (.int .i64 v)),(2,.v (.bool flex)),(5,.p 0 0),(8,.p 1 0),(9,.p 2 0),(17,.v (.agg #[.int .i64 k1,.int .i64 y2,.int .i64 y3,.int .i64 y4,.int .i64 y5,.int .i64 y6,.int .i64 y7,.slice A9 l8.length dT])),(18,.v (.int .i64 v)),(19,.v (.agg #[.int .i64 ac,.slice ai ab.length aj,.bool ae,.slice dU af.length dV,.slice dW ag.length dX]))] cJ iU fun pf iV=>?_
 refine qan (qam iV (f:=126) (vs:=[.agg #[.int .i64 k1,.int .i64 y2,.int .i64 y3,.int .i64 y4,.int .i64 y5,.int .i64 y6,.int .i64 y7,.slice A9 l8.length dT],.int .i64 v,.agg #[.int .i64 ac,.slice ai ab.length aj,.bool ae,.slice dU af.length dV,.slice dW ag.length dX]]) (d:=20) kz Tryz.call126 (qk9 k1 y2 y3 y4 y5 y6 y7 l8 _ _ v ac ab ae af ag _ _ _ _ _ _ _) ?_)
 rintro e_ pg ⟨rfl,ea⟩
 refine ⟨_,rfl,fun ph iW=>?_⟩
 have aa:=cJ.next_nil ea
 have k7:=cJ.frN ea
 refine qal [4] [] [(1,.v (.int .i64 v)),(2,.v (.bool flex)),(5,.p 0 0),(8,.p 1 0),(9,.p 2 0),(11,.v (.bool (z4 k1 y2 y3 y4 y5 y6 y7 l8 v ac ab ae af ag)))] aa iW fun pi iX=>?_
 refine qaf (qab ?_)
 refine qae [0,1,2,3,4,5,6,7,8,9] kz ?_
 refine qal [0,1,2,3] [4,5,6,7,8,9] [(1,.v (.int .i64 v)),(2,.v (.bool flex)),(5,.p 0 0),(8,.p 1 0),(9,.p 2 0),(11,.v (.bool (z4 k1 y2 y3 y4 y5 y6 y7 l8 v ac ab ae af ag))),(24,.v (.bool (decide (y4 ≥ 0))))] aa iX fun pj eb=>?_
 refine (Bool.eq_false_or_eq_true (decide (y4 ≥ 0))).elim (fun bu=>?_) (fun bu=>?_)
 ·
  have k8:=of_decide_eq_true bu
  have iY:=eb
  rw [bu] at iY
  refine qal [4,5,6,7,8,9] [] [(1,.v (.int .i64 v)),(2,.v (.bool flex)),(5,.p 0 0),(8,.p 1 0),(9,.p 2 0),(11,.v (.bool (z4 k1 y2 y3 y4 y5 y6 y7 l8 v ac ab ae af ag))),(12,.v (.bool (decide (v ≥ y4))))] aa iY fun pl iZ=>?_
  refine qaf (qab ?_)
  refine wp_seq (qae [0,1,2,3,4,5,6,7,8,9,10,11,12,13,14,15,16] kz ?_)
  refine qal [0,1,2,3] [4,5,6,7,8,9,10,11,12,13,14,15,16] [(1,.v (.int .i64 v)),(2,.v (.bool flex)),(5,.p 0 0),(8,.p 1 0),(9,.p 2 0),(11,.v (.bool (z4 k1 y2 y3 y4 y5 y6 y7 l8 v ac ab ae af ag))),(12,.v (.bool (decide (v ≥ y4)))),(33,.v (.bool (k1 == 8)))] aa iZ fun pm cK=>?_
  refine (Bool.eq_false_or_eq_true (k1 == 8)).elim (fun ak=>?_) (fun ak=>?_)
  ·
   have jl:k1 = 8:=by simpa using ak
   have ec:=cK
   rw [ak] at ec
   refine qal [4,5,6,7,8,9,10,11,12,13,14,15,16] [] [(1,.v (.int .i64 v)),(2,.v (.bool flex)),(5,.p 0 0),(8,.p 1 0),(9,.p 2 0),(11,.v (.bool (z4 k1 y2 y3 y4 y5 y6 y7 l8 v ac ab ae af ag))),(46,.v (.bool (!(ap == (z4 k1 y2 y3 y4 y5 y6 y7 l8 v ac ab ae af ag)))))] aa ec fun k9 bw=>?_
   refine qaf (qab ?_)
   refine qay bw (b:=!(ap == (z4 k1 y2 y3 y4 y5 y6 y7 l8 v ac ab ae af ag))) kz (fun bx=>?_) (fun bx=>?_)
   ·
    have jm:!(ap = (Fld.nul (Fld.mk k1 y2 y3 y4 y5 y6 y7 l8) v (Tree.mk ac ab ae af ag))):=by simpa using bx
    refine qap [(10,.v (.bool false))] aa bw fun la ee=>?_
    refine wp_ret (qaq (qaL ee aa.cells (v:=.bool false) kz ?_))
    first
     | exact (qjQ hq ‹_› ‹_›).elim
     | exact (qgY hq ‹_› ‹_›).elim
     | exact (qgl hq ‹_› ‹_› ‹_›).elim
   have jn:!(ap ≠ (Fld.nul (Fld.mk k1 y2 y3 y4 y5 y6 y7 l8) v (Tree.mk ac ab ae af ag))):=by simpa using bx
   refine wp_skip (qab (wp_seq (qap (z13 v flex k1 y2 y3 y4 y5 y6 y7 l8 ac ab ae af ag) aa bw fun lb bz=>?_)))
   refine qay bz (b:=Fld.nul (Fld.mk k1 y2 y3 y4 y5 y6 y7 l8) v (Tree.mk ac ab ae af ag)) kz (fun ef=>?_) (fun ef=>?_)
   ·
    refine qap [(10,.v (.bool true))] aa bz fun lc eg=>?_
    refine wp_ret (qaq (qaL eg aa.cells (v:=.bool true) kz ?_))
    exact ⟨rfl,aa.step⟩
   refine wp_skip (qab (wp_seq (qap (z11 v flex k1) aa bz fun ld eh=>?_)))
   refine wp_block (wp_seq (qap [(1,.v (.int .i64 v)),(2,.v (.bool flex)),(5,.p 0 0),(8,.p 1 0),(9,.p 2 0),(49,.v (.int .i64 k1)),(50,.v (.bool (k1 == 8)))] aa eh fun lf bA=>?_))
   refine qa2 bA (b:=k1 == 8) kz (ak) ?_
   refine wp_skip (qab (qa2 bA (b:=k1 == 8) kz (ak) ?_))
   refine qaK 6 kz aa fun lg jo aU ei=>?_
   refine qaJ [0,1,2,3] (z52 al ah.length am ai ab.length aj) 3 (qaa (qac (qaa qag))) (fun _ h=>h.cells) ei bA fun lh ej=>?_
   have i6:=qbi ab
   refine qaw (i:=4) kz (qam ej (f:=83) (vs:=[.slice ai ab.length aj]) (d:=57) kz Tryz.call83 (qdF _ _ ab (aH.move aU.step nilM aU.imm).le _) ?_)
   rintro e_ li ⟨rfl,cL⟩
   refine ⟨_,rfl,fun lj ek=>?_⟩
   have az:=aU.next_nil cL
   have cM:=aU.frN cL
   have em:=TT.ofW cM az
   refine ⟨fun _=>em,?_⟩
   refine qaw (i:=5) kz (qam ek (f:=82) (vs:=(z55 al ah.length am ai ab aj)) (d:=58) kz Tryz.call82 (qeh _ _ _ _ ah (qaH ab) _ _ ((bq.move az.step nilM az.imm).move (Step.refl _ Nil) nilM allF) (((aH.take 32767).move az.step nilM az.imm).move (Step.refl _ Nil) nilM allF)) ?_)
   rintro e_ lm ⟨rfl,cN⟩
   refine ⟨_,rfl,fun ln eo=>?_⟩
   have aV:=az.next_nil cN
   have ep:=az.frN cN
   have eu:=TT.ofW (cM.trans ep) aV
   refine ⟨fun _=>eu,?_⟩
   refine qaw (i:=6) kz (qbm [10] aV.cells eo (env':=[(10,.v (.bool (decide (ah = (qaH ab)))))]) kz fun lp ev=>?_)
   refine ⟨fun h=>absurd rfl h,?_⟩
   refine qaG kz ?_ _
   refine qab (wp_ret (qaz (qaq (qaL ev aV.cells (v:=.bool (decide (ah = (qaH ab)))) kz ?_))))
   refine ⟨congrArg (fun b_=>Ending.returned (Value.bool b_)) ?_,aV.step⟩
   first
    | exact qel hq ‹_› ‹_›
    | exact qem hq ‹_› ‹_›
    | exact to_u hq ‹_› ‹_›
    | exact to_m hq ‹_› ‹_› ‹_› ‹_› ‹_› ‹_›
  have jp:k1 ≠ 8:=by simpa using ak
  have ew:=cK.cast (env':=[(1,.v (.int .i64 v)),(2,.v (.bool flex)),(5,.p 0 0),(8,.p 1 0),(9,.p 2 0),(11,.v (.bool (Fld.nul (Fld.mk k1 y2 y3 y4 y5 y6 y7 l8) v (Tree.mk ac ab ae af ag)))),(12,.v (.bool (decide (v ≥ y4)))),(33,.v (.bool false))]) (by rw [ak])
  refine qal [4,5,6,7,8] [9,10,11,12,13,14,15,16] [(1,.v (.int .i64 v)),(2,.v (.bool flex)),(5,.p 0 0),(8,.p 1 0),(9,.p 2 0),(11,.v (.bool (z4 k1 y2 y3 y4 y5 y6 y7 l8 v ac ab ae af ag))),(12,.v (.bool (decide (v ≥ y4)))),(38,.v (.bool (k1 == 10)))] aa ew fun lq cO=>?_
  refine (Bool.eq_false_or_eq_true (k1 == 10)).elim (fun ay=>?_) (fun ay=>?_)
  ·
   have jq:k1 = 10:=by simpa using ay
   have ey:=cO
   rw [ay] at ey
   refine qal [9,10,11,12,13,14,15,16] [] [(1,.v (.int .i64 v)),(2,.v (.bool flex)),(5,.p 0 0),(8,.p 1 0),(9,.p 2 0),(11,.v (.bool (z4 k1 y2 y3 y4 y5 y6 y7 l8 v ac ab ae af ag))),(46,.v (.bool (!(ap == (z4 k1 y2 y3 y4 y5 y6 y7 l8 v ac ab ae af ag)))))] aa ey fun lr bB=>?_
   refine qaf (qab ?_)
   refine qay bB (b:=!(ap == (z4 k1 y2 y3 y4 y5 y6 y7 l8 v ac ab ae af ag))) kz (fun bC=>?_) (fun bC=>?_)
   ·
    have jr:!(ap = (Fld.nul (Fld.mk k1 y2 y3 y4 y5 y6 y7 l8) v (Tree.mk ac ab ae af ag))):=by simpa using bC
    refine qap [(10,.v (.bool false))] aa bB fun ls ez=>?_
    refine wp_ret (qaq (qaL ez aa.cells (v:=.bool false) kz ?_))
    first
     | exact (qjQ hq ‹_› ‹_›).elim
     | exact (qgY hq ‹_› ‹_›).elim
     | exact (qgl hq ‹_› ‹_› ‹_›).elim
   have js:!(ap ≠ (Fld.nul (Fld.mk k1 y2 y3 y4 y5 y6 y7 l8) v (Tree.mk ac ab ae af ag))):=by simpa using bC
   refine wp_skip (qab (wp_seq (qap (z13 v flex k1 y2 y3 y4 y5 y6 y7 l8 ac ab ae af ag) aa bB fun lu bD=>?_)))
   refine qay bD (b:=Fld.nul (Fld.mk k1 y2 y3 y4 y5 y6 y7 l8) v (Tree.mk ac ab ae af ag)) kz (fun eB=>?_) (fun eB=>?_)
   ·
    refine qap [(10,.v (.bool true))] aa bD fun lv eC=>?_
    refine wp_ret (qaq (qaL eC aa.cells (v:=.bool true) kz ?_))
    exact ⟨rfl,aa.step⟩
   refine wp_skip (qab (wp_seq (qap (z11 v flex k1) aa bD fun lw eD=>?_)))
   refine wp_block (wp_seq (qap [(1,.v (.int .i64 v)),(2,.v (.bool flex)),(5,.p 0 0),(8,.p 1 0),(9,.p 2 0),(49,.v (.int .i64 k1)),(50,.v (.bool (k1 == 8)))] aa eD fun lx cP=>?_))
   refine qar cP (b:=k1 == 8) kz (ak) ?_
   refine qas [0,1] kz ?_
   refine qal [0,1] [] [(1,.v (.int .i64 v)),(2,.v (.bool flex)),(5,.p 0 0),(8,.p 1 0),(9,.p 2 0),(49,.v (.int .i64 k1)),(50,.v (.bool (k1 == 9)))] aa cP fun ly bE=>?_
   refine qaf (qab ?_)
   refine qay bE (b:=k1 == 9) kz (fun bF=>?_) (fun bF=>?_)
   ·
    have jt:k1 = 9:=by simpa using bF
    refine qaK 6 kz aa fun lz ju aW eE=>?_
    refine qaJ [0,1,2,3] (z52 al ah.length am ai ab.length aj) 3 (qaa (qac (qaa qag))) (fun _ h=>h.cells) eE bE fun lA eF=>?_
    have i7:=qbi ab
    refine qaw (i:=4) kz (qam eF (f:=83) (vs:=[.slice ai ab.length aj]) (d:=57) kz Tryz.call83 (qdF _ _ ab (aH.move aW.step nilM aW.imm).le _) ?_)
    rintro e_ lB ⟨rfl,cQ⟩
    refine ⟨_,rfl,fun lC eG=>?_⟩
    have aA:=aW.next_nil cQ
    have cR:=aW.frN cQ
    have eH:=TT.ofW cR aA
    refine ⟨fun _=>eH,?_⟩
    refine qaw (i:=5) kz (qam eG (f:=82) (vs:=(z55 al ah.length am ai ab aj)) (d:=58) kz Tryz.call82 (qeh _ _ _ _ ah (qaH ab) _ _ ((bq.move aA.step nilM aA.imm).move (Step.refl _ Nil) nilM allF) (((aH.take 32767).move aA.step nilM aA.imm).move (Step.refl _ Nil) nilM allF)) ?_)
    rintro e_ lD ⟨rfl,cS⟩
    refine ⟨_,rfl,fun lE eI=>?_⟩
    have aX:=aA.next_nil cS
    have eJ:=aA.frN cS
    have eK:=TT.ofW (cR.trans eJ) aX
    refine ⟨fun _=>eK,?_⟩
    refine qaw (i:=6) kz (qbm [10] aX.cells eI (env':=[(10,.v (.bool (decide (ah = (qaH ab)))))]) kz fun lF eL=>?_)
    refine ⟨fun h=>absurd rfl h,?_⟩
    refine qaG kz ?_ _
    refine qab (wp_ret (qaz (qaq (qaL eL aX.cells (v:=.bool (decide (ah = (qaH ab)))) kz ?_))))
    refine ⟨congrArg (fun b_=>Ending.returned (Value.bool b_)) ?_,aX.step⟩
    first
     | exact qel hq ‹_› ‹_›
     | exact qem hq ‹_› ‹_›
     | exact to_u hq ‹_› ‹_›
     | exact to_m hq ‹_› ‹_› ‹_› ‹_› ‹_› ‹_›
   have jv:k1 ≠ 9:=by simpa using bF
   refine qap [(1,.v (.int .i64 v)),(2,.v (.bool flex)),(5,.p 0 0),(8,.p 1 0),(9,.p 2 0),(49,.v (.int .i64 k1)),(59,.v (.bool (k1 == 7)))] aa bE fun lG bG=>?_
   refine qay bG (b:=k1 == 7) kz (fun bH=>?_) (fun bH=>?_)
   ·
    have jw:k1 = 7:=by simpa using bH
    refine qae [0,1] kz ?_
    refine qan (qcx aa bG (d:=61) (j:=16) (t:=22) (e:=5) (bytes:=1) (z:=.int .u8 0) kz kz kz kz (rfl) (rfl) (by omega) fun ar lH lI jx jy jz aO eM=>?_)
    refine qal [1] [] (z28 ar) aO eM fun lJ eN=>?_
    refine qaf (qab ?_)
    refine qae [0,1,2,3] kz ?_
    refine qal [0,1,2] [3] (z17 ar ai ab.length aj) aO eN fun lK eO=>?_
    refine qan (qcV aO eO (k:=0) (d:=65) (t:=22) (u:=22) (e:=5) (bytes:=1) (A:=(some ⟨ar,0,none⟩)) (As:=ai) (m:=ab.length) (cs:=aj) (m0:=16) (c:=16) (xs:=(List.replicate 16 (.int .u8 0))) (news:=bc ab) kz kz rfl (aH.move aO.step nilM aO.imm).src fun lL lM jA eP eQ=>?_)
    have eR:(⟨(some ⟨ar,0,none⟩),16,5,1,16,qbo (List.replicate 16 (.int .u8 0)) 0 ((bc ab).take (min ab.length 16))⟩:Rw) = brow (some ⟨ar,0,none⟩) 16 5 (qbp ab):=qdM _ _ _
    obtain ⟨aI,jB⟩:=eP.rowEq 0 [brow (some ⟨ar,0,none⟩) 16 5 (qbp ab)] eR
    have eS:=EnvOk.pick eQ (ks:=[9,13,62,64,65]) (env':=(z14 ar ai ab.length aj)) kz
    have eU:=eS.cast (env':=[(9,.p 2 0),(13,.v (.slice (some ⟨ar,0,none⟩) ((qbp ab).length) 16)),(62,.v (.slice (some ⟨ar,0,none⟩) ((qbp ab).length) 16)),(64,.v (.slice ai ab.length aj)),(65,.v (.int .i64 ((min ab.length 16:Nat):Int)))]) (by rw [qbf _])
    refine qaf (qab ?_)
    refine qae [0,1,2,3,4] kz ?_
    refine qal [0,1,2] [3,4] (z29 al ah.length am ar ab) aI eU fun lN eV=>?_
    refine qan (qam eV (f:=82) (vs:=[.slice al ah.length am,.slice (some ⟨ar,0,none⟩) ((qbp ab).length) 16]) (d:=69) kz Tryz.call82 (qeh _ _ _ _ ah (qbp ab) _ _ ((bq.move aI.step nilM aI.imm).move (Step.refl _ Nil) nilM allF) (qcd (aI.own 0 _ rfl) (by first | omega | (rw [qbf]; decide) | (simp only [be_length]; exact Nat.le_trans (qbw _) (by decide)) | (have:=hroom; omega) | (have:=hmade; omega) | (simp only [List.length_append,List.length_nil]; omega)) (F:=fun _ _=>True) (fun _ _ _=>trivial))) ?_)
    rintro e_ lO ⟨rfl,cT⟩
    refine ⟨_,rfl,fun lP eW=>?_⟩
    have bI:=aI.next_nil cT
    have jC:=aI.frN cT
    refine qal [4] [] [(10,.v (.bool (decide (ah = qbp ab))))] bI eW fun lQ eX=>?_
    refine qaf (qab ?_)
    refine wp_ret (qaz (qaq (qaL eX bI.cells (v:=.bool (decide (ah = qbp ab))) kz ?_)))
    refine ⟨congrArg (fun b_=>Ending.returned (Value.bool b_)) ?_,bI.step⟩
    first
     | exact qel hq ‹_› ‹_›
     | exact qem hq ‹_› ‹_›
     | exact to_u hq ‹_› ‹_›
     | exact to_m hq ‹_› ‹_› ‹_› ‹_› ‹_› ‹_›
   have jD:k1 ≠ 7:=by simpa using bH
   refine qap [(1,.v (.int .i64 v)),(2,.v (.bool flex)),(5,.p 0 0),(8,.p 1 0),(9,.p 2 0),(49,.v (.int .i64 k1)),(70,.v (.bool (k1 == 10)))] aa bG fun lR cU=>?_
   refine qa2 cU (b:=k1 == 10) kz (ay) ?_
   refine qae [0,1,2,3,4,5,6,7] kz ?_
   refine qal [0,1,2,3,4,5] [6,7] [(73,.v (.slice A9 l8.length dT)),(74,.v (.int .i64 v)),(75,.v (.bool flex)),(76,.v (.agg #[.int .i64 ac,.slice ai ab.length aj,.bool ae,.slice dU af.length dV,.slice dW ag.length dX])),(77,.v (.agg #[.int .i64 aN,.slice al ah.length am,.bool ap,.slice d6 dY.length d7,.slice d8 dZ.length d9]))] aa cU fun lS eY=>?_
   refine qan (qam eY (f:=30) (vs:=[.slice A9 l8.length dT,.int .i64 v,.bool flex,.agg #[.int .i64 ac,.slice ai ab.length aj,.bool ae,.slice dU af.length dV,.slice dW ag.length dX],.agg #[.int .i64 aN,.slice al ah.length am,.bool ap,.slice d6 dY.length d7,.slice d8 dZ.length d9]]) (d:=78) kz Tryz.call30 ( hT _ _ l8 _ (Tree.mk ac ab ae af ag) _ (Tree.mk aN ah ap dY dZ) _ _ ⟨d5,(iO.move aa.step nilM aa.imm),(fun i_ x_ h_=>((jf i_ x_ h_).move aa.step nilM aa.imm))⟩ (ht.move aa.step nilM aa.imm) (hg.move aa.step nilM aa.imm) hpl (qjR hq ‹_› ‹_›)) ?_)
   rintro e_ lT ⟨rfl,cV⟩
   refine ⟨_,rfl,fun lU eZ=>?_⟩
   have bJ:=aa.next_nil cV
   have jE:=aa.frN cV
   refine qal [7] [] [(10,.v (.bool true))] bJ eZ fun lV e9=>?_
   refine qaf (qab ?_)
   refine wp_ret (qaz (qaq (qaL e9 bJ.cells (v:=.bool true) kz ?_)))
   exact ⟨rfl,bJ.step⟩
  have jF:k1 ≠ 10:=by simpa using ay
  have fb:=cO.cast (env':=[(1,.v (.int .i64 v)),(2,.v (.bool flex)),(5,.p 0 0),(8,.p 1 0),(9,.p 2 0),(11,.v (.bool (Fld.nul (Fld.mk k1 y2 y3 y4 y5 y6 y7 l8) v (Tree.mk ac ab ae af ag)))),(12,.v (.bool (decide (v ≥ y4)))),(38,.v (.bool false))]) (by rw [ay])
  refine qal [9,10,11] [12,13,14,15,16] [(1,.v (.int .i64 v)),(2,.v (.bool flex)),(5,.p 0 0),(8,.p 1 0),(9,.p 2 0),(11,.v (.bool (z4 k1 y2 y3 y4 y5 y6 y7 l8 v ac ab ae af ag))),(41,.v (.bool (decide (v ≥ y4))))] aa fb fun lW cW=>?_
  refine (Bool.eq_false_or_eq_true (decide (v ≥ y4))).elim (fun aP=>?_) (fun aP=>?_)
  ·
   have jG:=of_decide_eq_true aP
   have fe:=cW
   rw [aP] at fe
   refine qal [12,13,14,15,16] [] [(1,.v (.int .i64 v)),(2,.v (.bool flex)),(5,.p 0 0),(8,.p 1 0),(9,.p 2 0),(11,.v (.bool (z4 k1 y2 y3 y4 y5 y6 y7 l8 v ac ab ae af ag))),(46,.v (.bool (!(ap == (z4 k1 y2 y3 y4 y5 y6 y7 l8 v ac ab ae af ag)))))] aa fe fun lX bK=>?_
   refine qaf (qab ?_)
   refine qay bK (b:=!(ap == (z4 k1 y2 y3 y4 y5 y6 y7 l8 v ac ab ae af ag))) kz (fun bL=>?_) (fun bL=>?_)
   ·
    have jH:!(ap = (Fld.nul (Fld.mk k1 y2 y3 y4 y5 y6 y7 l8) v (Tree.mk ac ab ae af ag))):=by simpa using bL
    refine qap [(10,.v (.bool false))] aa bK fun lY ff=>?_
    refine wp_ret (qaq (qaL ff aa.cells (v:=.bool false) kz ?_))
    first
     | exact (qjQ hq ‹_› ‹_›).elim
     | exact (qgY hq ‹_› ‹_›).elim
     | exact (qgl hq ‹_› ‹_› ‹_›).elim
   have jI:!(ap ≠ (Fld.nul (Fld.mk k1 y2 y3 y4 y5 y6 y7 l8) v (Tree.mk ac ab ae af ag))):=by simpa using bL
   refine wp_skip (qab (wp_seq (qap (z13 v flex k1 y2 y3 y4 y5 y6 y7 l8 ac ab ae af ag) aa bK fun lZ bM=>?_)))
   refine qay bM (b:=Fld.nul (Fld.mk k1 y2 y3 y4 y5 y6 y7 l8) v (Tree.mk ac ab ae af ag)) kz (fun fg=>?_) (fun fg=>?_)
   ·
    refine qap [(10,.v (.bool true))] aa bM fun l0 fh=>?_
    refine wp_ret (qaq (qaL fh aa.cells (v:=.bool true) kz ?_))
    exact ⟨rfl,aa.step⟩
   refine wp_skip (qab (wp_seq (qap (z11 v flex k1) aa bM fun l3 fi=>?_)))
   refine wp_block (wp_seq (qap [(1,.v (.int .i64 v)),(2,.v (.bool flex)),(5,.p 0 0),(8,.p 1 0),(9,.p 2 0),(49,.v (.int .i64 k1)),(50,.v (.bool (k1 == 8)))] aa fi fun l5 cX=>?_))
   refine qar cX (b:=k1 == 8) kz (ak) ?_
   refine qas [0,1] kz ?_
   refine qal [0,1] [] [(1,.v (.int .i64 v)),(2,.v (.bool flex)),(5,.p 0 0),(8,.p 1 0),(9,.p 2 0),(49,.v (.int .i64 k1)),(50,.v (.bool (k1 == 9)))] aa cX fun l6 bN=>?_
   refine qaf (qab ?_)
   refine qay bN (b:=k1 == 9) kz (fun bO=>?_) (fun bO=>?_)
   ·
    have jJ:k1 = 9:=by simpa using bO
    refine qaK 6 kz aa fun l7 jK aY fj=>?_
    refine qaJ [0,1,2,3] (z52 al ah.length am ai ab.length aj) 3 (qaa (qac (qaa qag))) (fun _ h=>h.cells) fj bN fun l9 fk=>?_
    have ja:=qbi ab
    refine qaw (i:=4) kz (qam fk (f:=83) (vs:=[.slice ai ab.length aj]) (d:=57) kz Tryz.call83 (qdF _ _ ab (aH.move aY.step nilM aY.imm).le _) ?_)
    rintro e_ ma ⟨rfl,cY⟩
    refine ⟨_,rfl,fun mc fm=>?_⟩
    have aB:=aY.next_nil cY
    have cZ:=aY.frN cY
    have fo:=TT.ofW cZ aB
    refine ⟨fun _=>fo,?_⟩
    refine qaw (i:=5) kz (qam fm (f:=82) (vs:=(z55 al ah.length am ai ab aj)) (d:=58) kz Tryz.call82 (qeh _ _ _ _ ah (qaH ab) _ _ ((bq.move aB.step nilM aB.imm).move (Step.refl _ Nil) nilM allF) (((aH.take 32767).move aB.step nilM aB.imm).move (Step.refl _ Nil) nilM allF)) ?_)
    rintro e_ md ⟨rfl,c5⟩
    refine ⟨_,rfl,fun me fq=>?_⟩
    have aZ:=aB.next_nil c5
    have fr:=aB.frN c5
    have ft:=TT.ofW (cZ.trans fr) aZ
    refine ⟨fun _=>ft,?_⟩
    refine qaw (i:=6) kz (qbm [10] aZ.cells fq (env':=[(10,.v (.bool (decide (ah = (qaH ab)))))]) kz fun mf fv=>?_)
    refine ⟨fun h=>absurd rfl h,?_⟩
    refine qaG kz ?_ _
    refine qab (wp_ret (qaz (qaq (qaL fv aZ.cells (v:=.bool (decide (ah = (qaH ab)))) kz ?_))))
    refine ⟨congrArg (fun b_=>Ending.returned (Value.bool b_)) ?_,aZ.step⟩
    first
     | exact qel hq ‹_› ‹_›
     | exact qem hq ‹_› ‹_›
     | exact to_u hq ‹_› ‹_›
     | exact to_m hq ‹_› ‹_› ‹_› ‹_› ‹_› ‹_›
   have jL:k1 ≠ 9:=by simpa using bO
   refine qap [(1,.v (.int .i64 v)),(2,.v (.bool flex)),(5,.p 0 0),(8,.p 1 0),(9,.p 2 0),(49,.v (.int .i64 k1)),(59,.v (.bool (k1 == 7)))] aa bN fun mg bP=>?_
   refine qay bP (b:=k1 == 7) kz (fun bQ=>?_) (fun bQ=>?_)
   ·
    have jM:k1 = 7:=by simpa using bQ
    refine qae [0,1] kz ?_
    refine qan (qcx aa bP (d:=61) (j:=16) (t:=22) (e:=5) (bytes:=1) (z:=.int .u8 0) kz kz kz kz (rfl) (rfl) (by omega) fun au mh mi jN jO jP aQ fw=>?_)
    refine qal [1] [] (z28 au) aQ fw fun mj fx=>?_
    refine qaf (qab ?_)
    refine qae [0,1,2,3] kz ?_
    refine qal [0,1,2] [3] (z17 au ai ab.length aj) aQ fx fun ml fy=>?_
    refine qan (qcV aQ fy (k:=0) (d:=65) (t:=22) (u:=22) (e:=5) (bytes:=1) (A:=(some ⟨au,0,none⟩)) (As:=ai) (m:=ab.length) (cs:=aj) (m0:=16) (c:=16) (xs:=(List.replicate 16 (.int .u8 0))) (news:=bc ab) kz kz rfl (aH.move aQ.step nilM aQ.imm).src fun mn mo jQ fz fA=>?_)
    have fB:(⟨(some ⟨au,0,none⟩),16,5,1,16,qbo (List.replicate 16 (.int .u8 0)) 0 ((bc ab).take (min ab.length 16))⟩:Rw) = brow (some ⟨au,0,none⟩) 16 5 (qbp ab):=qdM _ _ _
    obtain ⟨aJ,jR⟩:=fz.rowEq 0 [brow (some ⟨au,0,none⟩) 16 5 (qbp ab)] fB
    have fC:=EnvOk.pick fA (ks:=[9,13,62,64,65]) (env':=(z14 au ai ab.length aj)) kz
    have fD:=fC.cast (env':=[(9,.p 2 0),(13,.v (.slice (some ⟨au,0,none⟩) ((qbp ab).length) 16)),(62,.v (.slice (some ⟨au,0,none⟩) ((qbp ab).length) 16)),(64,.v (.slice ai ab.length aj)),(65,.v (.int .i64 ((min ab.length 16:Nat):Int)))]) (by rw [qbf _])
    refine qaf (qab ?_)
    refine qae [0,1,2,3,4] kz ?_
    refine qal [0,1,2] [3,4] (z29 al ah.length am au ab) aJ fD fun mp fE=>?_
    refine qan (qam fE (f:=82) (vs:=[.slice al ah.length am,.slice (some ⟨au,0,none⟩) ((qbp ab).length) 16]) (d:=69) kz Tryz.call82 (qeh _ _ _ _ ah (qbp ab) _ _ ((bq.move aJ.step nilM aJ.imm).move (Step.refl _ Nil) nilM allF) (qcd (aJ.own 0 _ rfl) (by first | omega | (rw [qbf]; decide) | (simp only [be_length]; exact Nat.le_trans (qbw _) (by decide)) | (have:=hroom; omega) | (have:=hmade; omega) | (simp only [List.length_append,List.length_nil]; omega)) (F:=fun _ _=>True) (fun _ _ _=>trivial))) ?_)
    rintro e_ mq ⟨rfl,c6⟩
    refine ⟨_,rfl,fun mr fF=>?_⟩
    have bR:=aJ.next_nil c6
    have jS:=aJ.frN c6
    refine qal [4] [] [(10,.v (.bool (decide (ah = qbp ab))))] bR fF fun mt fG=>?_
    refine qaf (qab ?_)
    refine wp_ret (qaz (qaq (qaL fG bR.cells (v:=.bool (decide (ah = qbp ab))) kz ?_)))
    refine ⟨congrArg (fun b_=>Ending.returned (Value.bool b_)) ?_,bR.step⟩
    first
     | exact qel hq ‹_› ‹_›
     | exact qem hq ‹_› ‹_›
     | exact to_u hq ‹_› ‹_›
     | exact to_m hq ‹_› ‹_› ‹_› ‹_› ‹_› ‹_›
   have jT:k1 ≠ 7:=by simpa using bQ
   refine qap [(1,.v (.int .i64 v)),(2,.v (.bool flex)),(5,.p 0 0),(8,.p 1 0),(9,.p 2 0),(49,.v (.int .i64 k1)),(70,.v (.bool (k1 == 10)))] aa bP fun mu da=>?_
   refine qar da (b:=k1 == 10) kz (ay) ?_
   refine qap [(1,.v (.int .i64 v)),(2,.v (.bool flex)),(5,.p 0 0),(8,.p 1 0),(9,.p 2 0),(79,.v (.bool (k1 == 11)))] aa da fun mw db=>?_
   refine qar db (b:=k1 == 11) kz (by simpa using bt) ?_
   refine wp_skip (qau (qab (qaK 8 kz aa fun mx jU dc fH=>?_)))
   refine qaJ [0,1,2,3,4,5] [(117,.v (.int .i64 aN)),(119,.v (.int .i64 k1)),(121,.v (.int .i64 ac))] 3 (qaa qag) (fun _ h=>h.cells) fH db fun my fI=>?_
   refine qaw (i:=6) kz (qam fI (f:=48) (vs:=[.int .i64 k1,.int .i64 ac]) (d:=122) kz Tryz.call48 (qgm k1 ac _) ?_)
   rintro e_ mz ⟨rfl,de⟩
   refine ⟨_,rfl,fun mA fJ=>?_⟩
   have ba:=dc.next_nil de
   have fK:=dc.frN de
   have df:=TT.ofW fK ba
   refine ⟨fun _=>df,?_⟩
   refine qaJ [7] [(123,.v (.bool (aN == (qbs k1 ac))))] 1 (qaa qag) (fun _ h=>h.cells) df fJ fun mB fL=>?_
   refine qaw (i:=8) kz (qbm [10] ba.cells fL (env':=[(10,.v (.bool (aN == (qbs k1 ac))))]) kz fun mC fM=>?_)
   refine ⟨fun h=>absurd rfl h,?_⟩
   refine qaG kz ?_ _
   refine qab (wp_ret (qaL fM ba.cells (v:=.bool (aN == (qbs k1 ac))) kz ?_))
   refine ⟨congrArg (fun b_=>Ending.returned (Value.bool b_)) ?_,ba.step⟩
   first
    | exact qel hq ‹_› ‹_›
    | exact qem hq ‹_› ‹_›
    | exact to_u hq ‹_› ‹_›
    | exact to_m hq ‹_› ‹_› ‹_› ‹_› ‹_› ‹_›
  have jV:=of_decide_eq_false aP
  have fN:=cW.cast (env':=[(1,.v (.int .i64 v)),(2,.v (.bool flex)),(5,.p 0 0),(8,.p 1 0),(9,.p 2 0),(11,.v (.bool (Fld.nul (Fld.mk k1 y2 y3 y4 y5 y6 y7 l8) v (Tree.mk ac ab ae af ag)))),(41,.v (.bool false))]) (by rw [aP])
  refine qal [12,13,14,15,16] [] (z38 v flex k1 y2 y3 y4 y5 y6 y7 l8 ac ab ae af ag) aa fN fun mD dg=>?_
  refine qaf (qab ?_)
  refine qar dg (b:=false) kz rfl ?_
  refine wp_skip (qab (wp_seq (qap (z13 v flex k1 y2 y3 y4 y5 y6 y7 l8 ac ab ae af ag) aa dg fun mF bS=>?_)))
  refine qay bS (b:=Fld.nul (Fld.mk k1 y2 y3 y4 y5 y6 y7 l8) v (Tree.mk ac ab ae af ag)) kz (fun fO=>?_) (fun fO=>?_)
  ·
   refine qap [(10,.v (.bool true))] aa bS fun mG fP=>?_
   refine wp_ret (qaq (qaL fP aa.cells (v:=.bool true) kz ?_))
   exact ⟨rfl,aa.step⟩
  refine wp_skip (qab (wp_seq (qap (z11 v flex k1) aa bS fun mH fQ=>?_)))
  refine wp_block (wp_seq (qap [(1,.v (.int .i64 v)),(2,.v (.bool flex)),(5,.p 0 0),(8,.p 1 0),(9,.p 2 0),(49,.v (.int .i64 k1)),(50,.v (.bool (k1 == 8)))] aa fQ fun mI dh=>?_))
  refine qar dh (b:=k1 == 8) kz (ak) ?_
  refine qas [0,1] kz ?_
  refine qal [0,1] [] [(1,.v (.int .i64 v)),(2,.v (.bool flex)),(5,.p 0 0),(8,.p 1 0),(9,.p 2 0),(49,.v (.int .i64 k1)),(50,.v (.bool (k1 == 9)))] aa dh fun mJ bT=>?_
  refine qaf (qab ?_)
  refine qay bT (b:=k1 == 9) kz (fun bU=>?_) (fun bU=>?_)
  ·
   have jW:k1 = 9:=by simpa using bU
   refine qaK 6 kz aa fun mK jX bd fR=>?_
   refine qaJ [0,1,2,3] (z52 al ah.length am ai ab.length aj) 3 (qaa (qac (qaa qag))) (fun _ h=>h.cells) fR bT fun mL fS=>?_
   have jb:=qbi ab
   refine qaw (i:=4) kz (qam fS (f:=83) (vs:=[.slice ai ab.length aj]) (d:=57) kz Tryz.call83 (qdF _ _ ab (aH.move bd.step nilM bd.imm).le _) ?_)
   rintro e_ mM ⟨rfl,di⟩
   refine ⟨_,rfl,fun mN fT=>?_⟩
   have aC:=bd.next_nil di
   have dj:=bd.frN di
   have fU:=TT.ofW dj aC
   refine ⟨fun _=>fU,?_⟩
   refine qaw (i:=5) kz (qam fT (f:=82) (vs:=(z55 al ah.length am ai ab aj)) (d:=58) kz Tryz.call82 (qeh _ _ _ _ ah (qaH ab) _ _ ((bq.move aC.step nilM aC.imm).move (Step.refl _ Nil) nilM allF) (((aH.take 32767).move aC.step nilM aC.imm).move (Step.refl _ Nil) nilM allF)) ?_)
   rintro e_ mO ⟨rfl,dl⟩
   refine ⟨_,rfl,fun mQ fV=>?_⟩
   have bf:=aC.next_nil dl
   have fW:=aC.frN dl
   have fX:=TT.ofW (dj.trans fW) bf
   refine ⟨fun _=>fX,?_⟩
   refine qaw (i:=6) kz (qbm [10] bf.cells fV (env':=[(10,.v (.bool (decide (ah = (qaH ab)))))]) kz fun mR fY=>?_)
   refine ⟨fun h=>absurd rfl h,?_⟩
   refine qaG kz ?_ _
   refine qab (wp_ret (qaz (qaq (qaL fY bf.cells (v:=.bool (decide (ah = (qaH ab)))) kz ?_))))
   refine ⟨congrArg (fun b_=>Ending.returned (Value.bool b_)) ?_,bf.step⟩
   first
    | exact qel hq ‹_› ‹_›
    | exact qem hq ‹_› ‹_›
    | exact to_u hq ‹_› ‹_›
    | exact to_m hq ‹_› ‹_› ‹_› ‹_› ‹_› ‹_›
  have jY:k1 ≠ 9:=by simpa using bU
  refine qap [(1,.v (.int .i64 v)),(2,.v (.bool flex)),(5,.p 0 0),(8,.p 1 0),(9,.p 2 0),(49,.v (.int .i64 k1)),(59,.v (.bool (k1 == 7)))] aa bT fun mS bV=>?_
  refine qay bV (b:=k1 == 7) kz (fun bW=>?_) (fun bW=>?_)
  ·
   have jZ:k1 = 7:=by simpa using bW
   refine qae [0,1] kz ?_
   refine qan (qcx aa bV (d:=61) (j:=16) (t:=22) (e:=5) (bytes:=1) (z:=.int .u8 0) kz kz kz kz (rfl) (rfl) (by omega) fun av mT mU j0 j1 j2 aR fZ=>?_)
   refine qal [1] [] (z28 av) aR fZ fun mV f5=>?_
   refine qaf (qab ?_)
   refine qae [0,1,2,3] kz ?_
   refine qal [0,1,2] [3] (z17 av ai ab.length aj) aR f5 fun mW f7=>?_
   refine qan (qcV aR f7 (k:=0) (d:=65) (t:=22) (u:=22) (e:=5) (bytes:=1) (A:=(some ⟨av,0,none⟩)) (As:=ai) (m:=ab.length) (cs:=aj) (m0:=16) (c:=16) (xs:=(List.replicate 16 (.int .u8 0))) (news:=bc ab) kz kz rfl (aH.move aR.step nilM aR.imm).src fun mX mY j3 f8 ga=>?_)
   have gb:(⟨(some ⟨av,0,none⟩),16,5,1,16,qbo (List.replicate 16 (.int .u8 0)) 0 ((bc ab).take (min ab.length 16))⟩:Rw) = brow (some ⟨av,0,none⟩) 16 5 (qbp ab):=qdM _ _ _
   obtain ⟨aK,j4⟩:=f8.rowEq 0 [brow (some ⟨av,0,none⟩) 16 5 (qbp ab)] gb
   have gc:=EnvOk.pick ga (ks:=[9,13,62,64,65]) (env':=(z14 av ai ab.length aj)) kz
   have gd:=gc.cast (env':=[(9,.p 2 0),(13,.v (.slice (some ⟨av,0,none⟩) ((qbp ab).length) 16)),(62,.v (.slice (some ⟨av,0,none⟩) ((qbp ab).length) 16)),(64,.v (.slice ai ab.length aj)),(65,.v (.int .i64 ((min ab.length 16:Nat):Int)))]) (by rw [qbf _])
   refine qaf (qab ?_)
   refine qae [0,1,2,3,4] kz ?_
   refine qal [0,1,2] [3,4] (z29 al ah.length am av ab) aK gd fun mZ ge=>?_
   refine qan (qam ge (f:=82) (vs:=[.slice al ah.length am,.slice (some ⟨av,0,none⟩) ((qbp ab).length) 16]) (d:=69) kz Tryz.call82 (qeh _ _ _ _ ah (qbp ab) _ _ ((bq.move aK.step nilM aK.imm).move (Step.refl _ Nil) nilM allF) (qcd (aK.own 0 _ rfl) (by first | omega | (rw [qbf]; decide) | (simp only [be_length]; exact Nat.le_trans (qbw _) (by decide)) | (have:=hroom; omega) | (have:=hmade; omega) | (simp only [List.length_append,List.length_nil]; omega)) (F:=fun _ _=>True) (fun _ _ _=>trivial))) ?_)
   rintro e_ m4 ⟨rfl,dp⟩
   refine ⟨_,rfl,fun m5 gg=>?_⟩
   have bX:=aK.next_nil dp
   have j5:=aK.frN dp
   refine qal [4] [] [(10,.v (.bool (decide (ah = qbp ab))))] bX gg fun m6 gh=>?_
   refine qaf (qab ?_)
   refine wp_ret (qaz (qaq (qaL gh bX.cells (v:=.bool (decide (ah = qbp ab))) kz ?_)))
   refine ⟨congrArg (fun b_=>Ending.returned (Value.bool b_)) ?_,bX.step⟩
   first
    | exact qel hq ‹_› ‹_›
    | exact qem hq ‹_› ‹_›
    | exact to_u hq ‹_› ‹_›
    | exact to_m hq ‹_› ‹_› ‹_› ‹_› ‹_› ‹_›
  have j6:k1 ≠ 7:=by simpa using bW
  refine qap [(1,.v (.int .i64 v)),(2,.v (.bool flex)),(5,.p 0 0),(8,.p 1 0),(9,.p 2 0),(49,.v (.int .i64 k1)),(70,.v (.bool (k1 == 10)))] aa bV fun m7 dq=>?_
  refine qar dq (b:=k1 == 10) kz (ay) ?_
  refine qap [(1,.v (.int .i64 v)),(2,.v (.bool flex)),(5,.p 0 0),(8,.p 1 0),(9,.p 2 0),(79,.v (.bool (k1 == 11)))] aa dq fun m8 dr=>?_
  refine qar dr (b:=k1 == 11) kz (by simpa using bt) ?_
  refine wp_skip (qau (qab (qaK 8 kz aa fun m9 j7 dt gi=>?_)))
  refine qaJ [0,1,2,3,4,5] [(117,.v (.int .i64 aN)),(119,.v (.int .i64 k1)),(121,.v (.int .i64 ac))] 3 (qaa qag) (fun _ h=>h.cells) gi dr fun nf gj=>?_
  refine qaw (i:=6) kz (qam gj (f:=48) (vs:=[.int .i64 k1,.int .i64 ac]) (d:=122) kz Tryz.call48 (qgm k1 ac _) ?_)
  rintro e_ ng ⟨rfl,du⟩
  refine ⟨_,rfl,fun nh gk=>?_⟩
  have bg:=dt.next_nil du
  have gl:=dt.frN du
  have dv:=TT.ofW gl bg
  refine ⟨fun _=>dv,?_⟩
  refine qaJ [7] [(123,.v (.bool (aN == (qbs k1 ac))))] 1 (qaa qag) (fun _ h=>h.cells) dv gk fun ni gm=>?_
  refine qaw (i:=8) kz (qbm [10] bg.cells gm (env':=[(10,.v (.bool (aN == (qbs k1 ac))))]) kz fun nj gn=>?_)
  refine ⟨fun h=>absurd rfl h,?_⟩
  refine qaG kz ?_ _
  refine qab (wp_ret (qaL gn bg.cells (v:=.bool (aN == (qbs k1 ac))) kz ?_))
  refine ⟨congrArg (fun b_=>Ending.returned (Value.bool b_)) ?_,bg.step⟩
  first
   | exact qel hq ‹_› ‹_›
   | exact qem hq ‹_› ‹_›
   | exact to_u hq ‹_› ‹_›
   | exact to_m hq ‹_› ‹_› ‹_› ‹_› ‹_› ‹_›
 have j8:=of_decide_eq_false bu
 have gp:=eb.cast (env':=[(1,.v (.int .i64 v)),(2,.v (.bool flex)),(5,.p 0 0),(8,.p 1 0),(9,.p 2 0),(11,.v (.bool (Fld.nul (Fld.mk k1 y2 y3 y4 y5 y6 y7 l8) v (Tree.mk ac ab ae af ag)))),(24,.v (.bool false))]) (by rw [bu])
 refine qal [4,5,6,7,8,9] [] [(1,.v (.int .i64 v)),(2,.v (.bool flex)),(5,.p 0 0),(8,.p 1 0),(9,.p 2 0),(11,.v (.bool (z4 k1 y2 y3 y4 y5 y6 y7 l8 v ac ab ae af ag))),(12,.v (.bool false))] aa gp fun nk gq=>?_
 refine qaf (qab ?_)
 refine wp_seq (qae [0,1,2,3,4,5,6,7,8,9,10,11,12,13,14,15,16] kz ?_)
 refine qal [0,1,2,3] [4,5,6,7,8,9,10,11,12,13,14,15,16] [(1,.v (.int .i64 v)),(2,.v (.bool flex)),(5,.p 0 0),(8,.p 1 0),(9,.p 2 0),(11,.v (.bool (z4 k1 y2 y3 y4 y5 y6 y7 l8 v ac ab ae af ag))),(12,.v (.bool false)),(33,.v (.bool (k1 == 8)))] aa gq fun nl dw=>?_
 refine (Bool.eq_false_or_eq_true (k1 == 8)).elim (fun ao=>?_) (fun ao=>?_)
 ·
  have j9:k1 = 8:=by simpa using ao
  have gt:=dw
  rw [ao] at gt
  refine qal [4,5,6,7,8,9,10,11,12,13,14,15,16] [] [(1,.v (.int .i64 v)),(2,.v (.bool flex)),(5,.p 0 0),(8,.p 1 0),(9,.p 2 0),(11,.v (.bool (z4 k1 y2 y3 y4 y5 y6 y7 l8 v ac ab ae af ag))),(46,.v (.bool (!(ap == (z4 k1 y2 y3 y4 y5 y6 y7 l8 v ac ab ae af ag)))))] aa gt fun nm bY=>?_
  refine qaf (qab ?_)
  refine qay bY (b:=!(ap == (z4 k1 y2 y3 y4 y5 y6 y7 l8 v ac ab ae af ag))) kz (fun bZ=>?_) (fun bZ=>?_)
  ·
   have ka:!(ap = (Fld.nul (Fld.mk k1 y2 y3 y4 y5 y6 y7 l8) v (Tree.mk ac ab ae af ag))):=by simpa using bZ
   refine qap [(10,.v (.bool false))] aa bY fun np gv=>?_
   refine wp_ret (qaq (qaL gv aa.cells (v:=.bool false) kz ?_))
   first
    | exact (qjQ hq ‹_› ‹_›).elim
    | exact (qgY hq ‹_› ‹_›).elim
    | exact (qgl hq ‹_› ‹_› ‹_›).elim
  have kd:!(ap ≠ (Fld.nul (Fld.mk k1 y2 y3 y4 y5 y6 y7 l8) v (Tree.mk ac ab ae af ag))):=by simpa using bZ
  refine wp_skip (qab (wp_seq (qap (z13 v flex k1 y2 y3 y4 y5 y6 y7 l8 ac ab ae af ag) aa bY fun nr b8=>?_)))
  refine qay b8 (b:=Fld.nul (Fld.mk k1 y2 y3 y4 y5 y6 y7 l8) v (Tree.mk ac ab ae af ag)) kz (fun gw=>?_) (fun gw=>?_)
  ·
   refine qap [(10,.v (.bool true))] aa b8 fun ns gx=>?_
   refine wp_ret (qaq (qaL gx aa.cells (v:=.bool true) kz ?_))
   exact ⟨rfl,aa.step⟩
  refine wp_skip (qab (wp_seq (qap (z11 v flex k1) aa b8 fun nt gy=>?_)))
  refine wp_block (wp_seq (qap [(1,.v (.int .i64 v)),(2,.v (.bool flex)),(5,.p 0 0),(8,.p 1 0),(9,.p 2 0),(49,.v (.int .i64 k1)),(50,.v (.bool (k1 == 8)))] aa gy fun nu cd=>?_))
  refine qa2 cd (b:=k1 == 8) kz (ao) ?_
  refine wp_skip (qab (qa2 cd (b:=k1 == 8) kz (ao) ?_))
  refine qaK 6 kz aa fun nv ke bh gz=>?_
  refine qaJ [0,1,2,3] (z52 al ah.length am ai ab.length aj) 3 (qaa (qac (qaa qag))) (fun _ h=>h.cells) gz cd fun nw gA=>?_
  have jc:=qbi ab
  refine qaw (i:=4) kz (qam gA (f:=83) (vs:=[.slice ai ab.length aj]) (d:=57) kz Tryz.call83 (qdF _ _ ab (aH.move bh.step nilM bh.imm).le _) ?_)
  rintro e_ nx ⟨rfl,dx⟩
  refine ⟨_,rfl,fun ny gB=>?_⟩
  have aD:=bh.next_nil dx
  have dy:=bh.frN dx
  have gC:=TT.ofW dy aD
  refine ⟨fun _=>gC,?_⟩
  refine qaw (i:=5) kz (qam gB (f:=82) (vs:=(z55 al ah.length am ai ab aj)) (d:=58) kz Tryz.call82 (qeh _ _ _ _ ah (qaH ab) _ _ ((bq.move aD.step nilM aD.imm).move (Step.refl _ Nil) nilM allF) (((aH.take 32767).move aD.step nilM aD.imm).move (Step.refl _ Nil) nilM allF)) ?_)
  rintro e_ nz ⟨rfl,dz⟩
  refine ⟨_,rfl,fun nA gD=>?_⟩
  have bi:=aD.next_nil dz
  have gE:=aD.frN dz
  have gF:=TT.ofW (dy.trans gE) bi
  refine ⟨fun _=>gF,?_⟩
  refine qaw (i:=6) kz (qbm [10] bi.cells gD (env':=[(10,.v (.bool (decide (ah = (qaH ab)))))]) kz fun nB gG=>?_)
  refine ⟨fun h=>absurd rfl h,?_⟩
  refine qaG kz ?_ _
  refine qab (wp_ret (qaz (qaq (qaL gG bi.cells (v:=.bool (decide (ah = (qaH ab)))) kz ?_))))
  refine ⟨congrArg (fun b_=>Ending.returned (Value.bool b_)) ?_,bi.step⟩
  first
   | exact qel hq ‹_› ‹_›
   | exact qem hq ‹_› ‹_›
   | exact to_u hq ‹_› ‹_›
   | exact to_m hq ‹_› ‹_› ‹_› ‹_› ‹_› ‹_›
 have kf:k1 ≠ 8:=by simpa using ao
 have gH:=dw.cast (env':=[(1,.v (.int .i64 v)),(2,.v (.bool flex)),(5,.p 0 0),(8,.p 1 0),(9,.p 2 0),(11,.v (.bool (Fld.nul (Fld.mk k1 y2 y3 y4 y5 y6 y7 l8) v (Tree.mk ac ab ae af ag)))),(12,.v (.bool false)),(33,.v (.bool false))]) (by rw [ao])
 refine qal [4,5,6,7,8] [9,10,11,12,13,14,15,16] [(1,.v (.int .i64 v)),(2,.v (.bool flex)),(5,.p 0 0),(8,.p 1 0),(9,.p 2 0),(11,.v (.bool (z4 k1 y2 y3 y4 y5 y6 y7 l8 v ac ab ae af ag))),(12,.v (.bool false)),(38,.v (.bool (k1 == 10)))] aa gH fun nC dA=>?_
 refine (Bool.eq_false_or_eq_true (k1 == 10)).elim (fun aE=>?_) (fun aE=>?_)
 ·
  have kg:k1 = 10:=by simpa using aE
  have gI:=dA
  rw [aE] at gI
  refine qal [9,10,11,12,13,14,15,16] [] [(1,.v (.int .i64 v)),(2,.v (.bool flex)),(5,.p 0 0),(8,.p 1 0),(9,.p 2 0),(11,.v (.bool (z4 k1 y2 y3 y4 y5 y6 y7 l8 v ac ab ae af ag))),(46,.v (.bool (!(ap == (z4 k1 y2 y3 y4 y5 y6 y7 l8 v ac ab ae af ag)))))] aa gI fun nD ce=>?_
  refine qaf (qab ?_)
  refine qay ce (b:=!(ap == (z4 k1 y2 y3 y4 y5 y6 y7 l8 v ac ab ae af ag))) kz (fun cm=>?_) (fun cm=>?_)
  ·
   have kh:!(ap = (Fld.nul (Fld.mk k1 y2 y3 y4 y5 y6 y7 l8) v (Tree.mk ac ab ae af ag))):=by simpa using cm
   refine qap [(10,.v (.bool false))] aa ce fun nE gJ=>?_
   refine wp_ret (qaq (qaL gJ aa.cells (v:=.bool false) kz ?_))
   first
    | exact (qjQ hq ‹_› ‹_›).elim
    | exact (qgY hq ‹_› ‹_›).elim
    | exact (qgl hq ‹_› ‹_› ‹_›).elim
  have ki:!(ap ≠ (Fld.nul (Fld.mk k1 y2 y3 y4 y5 y6 y7 l8) v (Tree.mk ac ab ae af ag))):=by simpa using cm
  refine wp_skip (qab (wp_seq (qap (z13 v flex k1 y2 y3 y4 y5 y6 y7 l8 ac ab ae af ag) aa ce fun nF cq=>?_)))
  refine qay cq (b:=Fld.nul (Fld.mk k1 y2 y3 y4 y5 y6 y7 l8) v (Tree.mk ac ab ae af ag)) kz (fun gK=>?_) (fun gK=>?_)
  ·
   refine qap [(10,.v (.bool true))] aa cq fun nG gL=>?_
   refine wp_ret (qaq (qaL gL aa.cells (v:=.bool true) kz ?_))
   exact ⟨rfl,aa.step⟩
  refine wp_skip (qab (wp_seq (qap (z11 v flex k1) aa cq fun nH gM=>?_)))
  refine wp_block (wp_seq (qap [(1,.v (.int .i64 v)),(2,.v (.bool flex)),(5,.p 0 0),(8,.p 1 0),(9,.p 2 0),(49,.v (.int .i64 k1)),(50,.v (.bool (k1 == 8)))] aa gM fun nI dB=>?_))
  refine qar dB (b:=k1 == 8) kz (ao) ?_
  refine qas [0,1] kz ?_
  refine qal [0,1] [] [(1,.v (.int .i64 v)),(2,.v (.bool flex)),(5,.p 0 0),(8,.p 1 0),(9,.p 2 0),(49,.v (.int .i64 k1)),(50,.v (.bool (k1 == 9)))] aa dB fun nJ cr=>?_
  refine qaf (qab ?_)
  refine qay cr (b:=k1 == 9) kz (fun cu=>?_) (fun cu=>?_)
  ·
   have kj:k1 = 9:=by simpa using cu
   refine qaK 6 kz aa fun nK km bj gN=>?_
   refine qaJ [0,1,2,3] (z52 al ah.length am ai ab.length aj) 3 (qaa (qac (qaa qag))) (fun _ h=>h.cells) gN cr fun nL gO=>?_
   have jd:=qbi ab
   refine qaw (i:=4) kz (qam gO (f:=83) (vs:=[.slice ai ab.length aj]) (d:=57) kz Tryz.call83 (qdF _ _ ab (aH.move bj.step nilM bj.imm).le _) ?_)
   rintro e_ nM ⟨rfl,dC⟩
   refine ⟨_,rfl,fun nN gP=>?_⟩
   have aF:=bj.next_nil dC
   have dD:=bj.frN dC
   have gQ:=TT.ofW dD aF
   refine ⟨fun _=>gQ,?_⟩
   refine qaw (i:=5) kz (qam gP (f:=82) (vs:=(z55 al ah.length am ai ab aj)) (d:=58) kz Tryz.call82 (qeh _ _ _ _ ah (qaH ab) _ _ ((bq.move aF.step nilM aF.imm).move (Step.refl _ Nil) nilM allF) (((aH.take 32767).move aF.step nilM aF.imm).move (Step.refl _ Nil) nilM allF)) ?_)
   rintro e_ nO ⟨rfl,dE⟩
   refine ⟨_,rfl,fun nP gR=>?_⟩
   have bk:=aF.next_nil dE
   have gS:=aF.frN dE
   have gT:=TT.ofW (dD.trans gS) bk
   refine ⟨fun _=>gT,?_⟩
   refine qaw (i:=6) kz (qbm [10] bk.cells gR (env':=[(10,.v (.bool (decide (ah = (qaH ab)))))]) kz fun nQ gU=>?_)
   refine ⟨fun h=>absurd rfl h,?_⟩
   refine qaG kz ?_ _
   refine qab (wp_ret (qaz (qaq (qaL gU bk.cells (v:=.bool (decide (ah = (qaH ab)))) kz ?_))))
   refine ⟨congrArg (fun b_=>Ending.returned (Value.bool b_)) ?_,bk.step⟩
   first
    | exact qel hq ‹_› ‹_›
    | exact qem hq ‹_› ‹_›
    | exact to_u hq ‹_› ‹_›
    | exact to_m hq ‹_› ‹_› ‹_› ‹_› ‹_› ‹_›
  have ko:k1 ≠ 9:=by simpa using cu
  refine qap [(1,.v (.int .i64 v)),(2,.v (.bool flex)),(5,.p 0 0),(8,.p 1 0),(9,.p 2 0),(49,.v (.int .i64 k1)),(59,.v (.bool (k1 == 7)))] aa cr fun nR cw=>?_
  refine qay cw (b:=k1 == 7) kz (fun cz=>?_) (fun cz=>?_)
  ·
   have kp:k1 = 7:=by simpa using cz
   refine qae [0,1] kz ?_
   refine qan (qcx aa cw (d:=61) (j:=16) (t:=22) (e:=5) (bytes:=1) (z:=.int .u8 0) kz kz kz kz (rfl) (rfl) (by omega) fun aw nS nT kq ku kv aS gV=>?_)
   refine qal [1] [] (z28 aw) aS gV fun nU gW=>?_
   refine qaf (qab ?_)
   refine qae [0,1,2,3] kz ?_
   refine qal [0,1,2] [3] (z17 aw ai ab.length aj) aS gW fun nV gX=>?_
   refine qan (qcV aS gX (k:=0) (d:=65) (t:=22) (u:=22) (e:=5) (bytes:=1) (A:=(some ⟨aw,0,none⟩)) (As:=ai) (m:=ab.length) (cs:=aj) (m0:=16) (c:=16) (xs:=(List.replicate 16 (.int .u8 0))) (news:=bc ab) kz kz rfl (aH.move aS.step nilM aS.imm).src fun nW nX kw gY gZ=>?_)
   have g9:(⟨(some ⟨aw,0,none⟩),16,5,1,16,qbo (List.replicate 16 (.int .u8 0)) 0 ((bc ab).take (min ab.length 16))⟩:Rw) = brow (some ⟨aw,0,none⟩) 16 5 (qbp ab):=qdM _ _ _
   obtain ⟨aL,kx⟩:=gY.rowEq 0 [brow (some ⟨aw,0,none⟩) 16 5 (qbp ab)] g9
   have hC:=EnvOk.pick gZ (ks:=[9,13,62,64,65]) (env':=(z14 aw ai ab.length aj)) kz
   have hJ:=hC.cast (env':=[(9,.p 2 0),(13,.v (.slice (some ⟨aw,0,none⟩) ((qbp ab).length) 16)),(62,.v (.slice (some ⟨aw,0,none⟩) ((qbp ab).length) 16)),(64,.v (.slice ai ab.length aj)),(65,.v (.int .i64 ((min ab.length 16:Nat):Int)))]) (by rw [qbf _])
   refine qaf (qab ?_)
   refine qae [0,1,2,3,4] kz ?_
   refine qal [0,1,2] [3,4] (z29 al ah.length am aw ab) aL hJ fun nY hK=>?_
   refine qan (qam hK (f:=82) (vs:=[.slice al ah.length am,.slice (some ⟨aw,0,none⟩) ((qbp ab).length) 16]) (d:=69) kz Tryz.call82 (qeh _ _ _ _ ah (qbp ab) _ _ ((bq.move aL.step nilM aL.imm).move (Step.refl _ Nil) nilM allF) (qcd (aL.own 0 _ rfl) (by first | omega | (rw [qbf]; decide) | (simp only [be_length]; exact Nat.le_trans (qbw _) (by decide)) | (have:=hroom; omega) | (have:=hmade; omega) | (simp only [List.length_append,List.length_nil]; omega)) (F:=fun _ _=>True) (fun _ _ _=>trivial))) ?_)
   rintro e_ nZ ⟨rfl,dF⟩
   refine ⟨_,rfl,fun n4 hZ=>?_⟩
   have cA:=aL.next_nil dF
   have ky:=aL.frN dF
   refine qal [4] [] [(10,.v (.bool (decide (ah = qbp ab))))] cA hZ fun n5 ia=>?_
   refine qaf (qab ?_)
   refine wp_ret (qaz (qaq (qaL ia cA.cells (v:=.bool (decide (ah = qbp ab))) kz ?_)))
   refine ⟨congrArg (fun b_=>Ending.returned (Value.bool b_)) ?_,cA.step⟩
   first
    | exact qel hq ‹_› ‹_›
    | exact qem hq ‹_› ‹_›
    | exact to_u hq ‹_› ‹_›
    | exact to_m hq ‹_› ‹_› ‹_› ‹_› ‹_› ‹_›
  have kA:k1 ≠ 7:=by simpa using cz
  refine qap [(1,.v (.int .i64 v)),(2,.v (.bool flex)),(5,.p 0 0),(8,.p 1 0),(9,.p 2 0),(49,.v (.int .i64 k1)),(70,.v (.bool (k1 == 10)))] aa cw fun n8 dG=>?_
  refine qa2 dG (b:=k1 == 10) kz (aE) ?_
  refine qae [0,1,2,3,4,5,6,7] kz ?_
  refine qal [0,1,2,3,4,5] [6,7] [(73,.v (.slice A9 l8.length dT)),(74,.v (.int .i64 v)),(75,.v (.bool flex)),(76,.v (.agg #[.int .i64 ac,.slice ai ab.length aj,.bool ae,.slice dU af.length dV,.slice dW ag.length dX])),(77,.v (.agg #[.int .i64 aN,.slice al ah.length am,.bool ap,.slice d6 dY.length d7,.slice d8 dZ.length d9]))] aa dG fun oa ib=>?_
  refine qan (qam ib (f:=30) (vs:=[.slice A9 l8.length dT,.int .i64 v,.bool flex,.agg #[.int .i64 ac,.slice ai ab.length aj,.bool ae,.slice dU af.length dV,.slice dW ag.length dX],.agg #[.int .i64 aN,.slice al ah.length am,.bool ap,.slice d6 dY.length d7,.slice d8 dZ.length d9]]) (d:=78) kz Tryz.call30 ( hT _ _ l8 _ (Tree.mk ac ab ae af ag) _ (Tree.mk aN ah ap dY dZ) _ _ ⟨d5,(iO.move aa.step nilM aa.imm),(fun i_ x_ h_=>((jf i_ x_ h_).move aa.step nilM aa.imm))⟩ (ht.move aa.step nilM aa.imm) (hg.move aa.step nilM aa.imm) hpl (qjR hq ‹_› ‹_›)) ?_)
  rintro e_ od ⟨rfl,dH⟩
  refine ⟨_,rfl,fun oe ic=>?_⟩
  have cB:=aa.next_nil dH
  have kB:=aa.frN dH
  refine qal [7] [] [(10,.v (.bool true))] cB ic fun og ig=>?_
  refine qaf (qab ?_)
  refine wp_ret (qaz (qaq (qaL ig cB.cells (v:=.bool true) kz ?_)))
  exact ⟨rfl,cB.step⟩
 have kC:k1 ≠ 10:=by simpa using aE
 have ii:=dA.cast (env':=[(1,.v (.int .i64 v)),(2,.v (.bool flex)),(5,.p 0 0),(8,.p 1 0),(9,.p 2 0),(11,.v (.bool (Fld.nul (Fld.mk k1 y2 y3 y4 y5 y6 y7 l8) v (Tree.mk ac ab ae af ag)))),(12,.v (.bool false)),(38,.v (.bool false))]) (by rw [aE])
 refine qal [9,10,11,12,13,14,15,16] [] (z38 v flex k1 y2 y3 y4 y5 y6 y7 l8 ac ab ae af ag) aa ii fun oh dI=>?_
 refine qaf (qab ?_)
 refine qar dI (b:=false) kz rfl ?_
 refine wp_skip (qab (wp_seq (qap (z13 v flex k1 y2 y3 y4 y5 y6 y7 l8 ac ab ae af ag) aa dI fun ol cC=>?_)))
 refine qay cC (b:=Fld.nul (Fld.mk k1 y2 y3 y4 y5 y6 y7 l8) v (Tree.mk ac ab ae af ag)) kz (fun ij=>?_) (fun ij=>?_)
 ·
  refine qap [(10,.v (.bool true))] aa cC fun om ik=>?_
  refine wp_ret (qaq (qaL ik aa.cells (v:=.bool true) kz ?_))
  exact ⟨rfl,aa.step⟩
 refine wp_skip (qab (wp_seq (qap (z11 v flex k1) aa cC fun oq il=>?_)))
 refine wp_block (wp_seq (qap [(1,.v (.int .i64 v)),(2,.v (.bool flex)),(5,.p 0 0),(8,.p 1 0),(9,.p 2 0),(49,.v (.int .i64 k1)),(50,.v (.bool (k1 == 8)))] aa il fun ot dJ=>?_))
 refine qar dJ (b:=k1 == 8) kz (ao) ?_
 refine qas [0,1] kz ?_
 refine qal [0,1] [] [(1,.v (.int .i64 v)),(2,.v (.bool flex)),(5,.p 0 0),(8,.p 1 0),(9,.p 2 0),(49,.v (.int .i64 k1)),(50,.v (.bool (k1 == 9)))] aa dJ fun ou cD=>?_
 refine qaf (qab ?_)
 refine qay cD (b:=k1 == 9) kz (fun cE=>?_) (fun cE=>?_)
 ·
  have kD:k1 = 9:=by simpa using cE
  refine qaK 6 kz aa fun ov kE bn im=>?_
  refine qaJ [0,1,2,3] (z52 al ah.length am ai ab.length aj) 3 (qaa (qac (qaa qag))) (fun _ h=>h.cells) im cD fun ow io=>?_
  have je:=qbi ab
  refine qaw (i:=4) kz (qam io (f:=83) (vs:=[.slice ai ab.length aj]) (d:=57) kz Tryz.call83 (qdF _ _ ab (aH.move bn.step nilM bn.imm).le _) ?_)
  rintro e_ ox ⟨rfl,dK⟩
  refine ⟨_,rfl,fun oy ip=>?_⟩
  have aG:=bn.next_nil dK
  have dL:=bn.frN dK
  have iq:=TT.ofW dL aG
  refine ⟨fun _=>iq,?_⟩
  refine qaw (i:=5) kz (qam ip (f:=82) (vs:=(z55 al ah.length am ai ab aj)) (d:=58) kz Tryz.call82 (qeh _ _ _ _ ah (qaH ab) _ _ ((bq.move aG.step nilM aG.imm).move (Step.refl _ Nil) nilM allF) (((aH.take 32767).move aG.step nilM aG.imm).move (Step.refl _ Nil) nilM allF)) ?_)
  rintro e_ oz ⟨rfl,dM⟩
  refine ⟨_,rfl,fun oA ir=>?_⟩
  have bo:=aG.next_nil dM
  have iu:=aG.frN dM
  have iv:=TT.ofW (dL.trans iu) bo
  refine ⟨fun _=>iv,?_⟩
  refine qaw (i:=6) kz (qbm [10] bo.cells ir (env':=[(10,.v (.bool (decide (ah = (qaH ab)))))]) kz fun oB iw=>?_)
  refine ⟨fun h=>absurd rfl h,?_⟩
  refine qaG kz ?_ _
  refine qab (wp_ret (qaz (qaq (qaL iw bo.cells (v:=.bool (decide (ah = (qaH ab)))) kz ?_))))
  refine ⟨congrArg (fun b_=>Ending.returned (Value.bool b_)) ?_,bo.step⟩
  first
   | exact qel hq ‹_› ‹_›
   | exact qem hq ‹_› ‹_›
   | exact to_u hq ‹_› ‹_›
   | exact to_m hq ‹_› ‹_› ‹_› ‹_› ‹_› ‹_›
 have kF:k1 ≠ 9:=by simpa using cE
 refine qap [(1,.v (.int .i64 v)),(2,.v (.bool flex)),(5,.p 0 0),(8,.p 1 0),(9,.p 2 0),(49,.v (.int .i64 k1)),(59,.v (.bool (k1 == 7)))] aa cD fun oC cG=>?_
 refine qay cG (b:=k1 == 7) kz (fun cH=>?_) (fun cH=>?_)
 ·
  have kG:k1 = 7:=by simpa using cH
  refine qae [0,1] kz ?_
  refine qan (qcx aa cG (d:=61) (j:=16) (t:=22) (e:=5) (bytes:=1) (z:=.int .u8 0) kz kz kz kz (rfl) (rfl) (by omega) fun ax oD oE kH kI kJ aT ix=>?_)
  refine qal [1] [] (z28 ax) aT ix fun oF iy=>?_
  refine qaf (qab ?_)
  refine qae [0,1,2,3] kz ?_
  refine qal [0,1,2] [3] (z17 ax ai ab.length aj) aT iy fun oG iz=>?_
  refine qan (qcV aT iz (k:=0) (d:=65) (t:=22) (u:=22) (e:=5) (bytes:=1) (A:=(some ⟨ax,0,none⟩)) (As:=ai) (m:=ab.length) (cs:=aj) (m0:=16) (c:=16) (xs:=(List.replicate 16 (.int .u8 0))) (news:=bc ab) kz kz rfl (aH.move aT.step nilM aT.imm).src fun oH oI kK iA iB=>?_)
  have iC:(⟨(some ⟨ax,0,none⟩),16,5,1,16,qbo (List.replicate 16 (.int .u8 0)) 0 ((bc ab).take (min ab.length 16))⟩:Rw) = brow (some ⟨ax,0,none⟩) 16 5 (qbp ab):=qdM _ _ _
  obtain ⟨aM,kL⟩:=iA.rowEq 0 [brow (some ⟨ax,0,none⟩) 16 5 (qbp ab)] iC
  have iD:=EnvOk.pick iB (ks:=[9,13,62,64,65]) (env':=(z14 ax ai ab.length aj)) kz
  have iE:=iD.cast (env':=[(9,.p 2 0),(13,.v (.slice (some ⟨ax,0,none⟩) ((qbp ab).length) 16)),(62,.v (.slice (some ⟨ax,0,none⟩) ((qbp ab).length) 16)),(64,.v (.slice ai ab.length aj)),(65,.v (.int .i64 ((min ab.length 16:Nat):Int)))]) (by rw [qbf _])
  refine qaf (qab ?_)
  refine qae [0,1,2,3,4] kz ?_
  refine qal [0,1,2] [3,4] (z29 al ah.length am ax ab) aM iE fun oJ iF=>?_
  refine qan (qam iF (f:=82) (vs:=[.slice al ah.length am,.slice (some ⟨ax,0,none⟩) ((qbp ab).length) 16]) (d:=69) kz Tryz.call82 (qeh _ _ _ _ ah (qbp ab) _ _ ((bq.move aM.step nilM aM.imm).move (Step.refl _ Nil) nilM allF) (qcd (aM.own 0 _ rfl) (by first | omega | (rw [qbf]; decide) | (simp only [be_length]; exact Nat.le_trans (qbw _) (by decide)) | (have:=hroom; omega) | (have:=hmade; omega) | (simp only [List.length_append,List.length_nil]; omega)) (F:=fun _ _=>True) (fun _ _ _=>trivial))) ?_)
  rintro e_ oK ⟨rfl,dN⟩
  refine ⟨_,rfl,fun oL iG=>?_⟩
  have cI:=aM.next_nil dN
  have kM:=aM.frN dN
  refine qal [4] [] [(10,.v (.bool (decide (ah = qbp ab))))] cI iG fun oM iH=>?_
  refine qaf (qab ?_)
  refine wp_ret (qaz (qaq (qaL iH cI.cells (v:=.bool (decide (ah = qbp ab))) kz ?_)))
  refine ⟨congrArg (fun b_=>Ending.returned (Value.bool b_)) ?_,cI.step⟩
  first
   | exact qel hq ‹_› ‹_›
   | exact qem hq ‹_› ‹_›
   | exact to_u hq ‹_› ‹_›
   | exact to_m hq ‹_› ‹_› ‹_› ‹_› ‹_› ‹_›
 have kN:k1 ≠ 7:=by simpa using cH
 refine qap [(1,.v (.int .i64 v)),(2,.v (.bool flex)),(5,.p 0 0),(8,.p 1 0),(9,.p 2 0),(49,.v (.int .i64 k1)),(70,.v (.bool (k1 == 10)))] aa cG fun oN dO=>?_
 refine qar dO (b:=k1 == 10) kz (aE) ?_
 refine qap [(1,.v (.int .i64 v)),(2,.v (.bool flex)),(5,.p 0 0),(8,.p 1 0),(9,.p 2 0),(79,.v (.bool (k1 == 11)))] aa dO fun oO dP=>?_
 refine qar dP (b:=k1 == 11) kz (by simpa using bt) ?_
 refine wp_skip (qau (qab (qaK 8 kz aa fun oP kO dQ iI=>?_)))
 refine qaJ [0,1,2,3,4,5] [(117,.v (.int .i64 aN)),(119,.v (.int .i64 k1)),(121,.v (.int .i64 ac))] 3 (qaa qag) (fun _ h=>h.cells) iI dP fun oQ iJ=>?_
 refine qaw (i:=6) kz (qam iJ (f:=48) (vs:=[.int .i64 k1,.int .i64 ac]) (d:=122) kz Tryz.call48 (qgm k1 ac _) ?_)
 rintro e_ oR ⟨rfl,dR⟩
 refine ⟨_,rfl,fun oS iK=>?_⟩
 have bp:=dQ.next_nil dR
 have iL:=dQ.frN dR
 have dS:=TT.ofW iL bp
 refine ⟨fun _=>dS,?_⟩
 refine qaJ [7] [(123,.v (.bool (aN == (qbs k1 ac))))] 1 (qaa qag) (fun _ h=>h.cells) dS iK fun oT iM=>?_
 refine qaw (i:=8) kz (qbm [10] bp.cells iM (env':=[(10,.v (.bool (aN == (qbs k1 ac))))]) kz fun oU iN=>?_)
 refine ⟨fun h=>absurd rfl h,?_⟩
 refine qaG kz ?_ _
 refine qab (wp_ret (qaL iN bp.cells (v:=.bool (aN == (qbs k1 ac))) kz ?_))
 refine ⟨congrArg (fun b_=>Ending.returned (Value.bool b_)) ?_,bp.step⟩
 first
  | exact qel hq ‹_› ‹_›
  | exact qem hq ‹_› ‹_›
  | exact to_u hq ‹_› ‹_›
  | exact to_m hq ‹_› ‹_› ‹_› ‹_› ‹_› ‹_›
abbrev z10 (x0) (x1) (x2) (x3) (x4) (x5) (x6) (x7) (x8) (x9) (x10) (x11) (x12) (x13) (x14) (x15):=([(1,.v (.int .i64 x0)),(2,.v (.bool x1)),(9,.p 2 0),(14,.v (.slice x2 ((qao x3).length) x4)),(15,.p 3 0),(97,.v (.int .i64 (((qao x3).length:Nat):Int))),(98,.v (.int .i64 ((x5:Nat):Int))),(101,.v (.agg #[.int .i64 x6,.int .i64 x7,.int .i64 x8,.int .i64 (-1),.int .i64 (-1),.int .i64 x9,.int .i64 x6,.slice x10 x11 x12])),(102,.v (.int .i64 x0)),(103,.v (.bool x1)),(104,.v (.slice x2 ((qao x3).length) x4)),(105,.v (.int .i64 ((x5:Nat):Int))),(109,.v (.slice x13 x14 x15)),(110,.v (.int .i64 ((x5:Nat):Int)))]:Env)
abbrev z21 (x0) (x1) (x2) (x3) (x4) (x5):=([(1,.v (.int .i64 x0)),(2,.v (.bool x1)),(9,.p 2 0),(14,.v (.slice x2 ((qao x3).length) x4)),(15,.p 3 0),(16,.v (.int .i64 ((x5:Nat):Int))),(97,.v (.int .i64 (((qao x3).length:Nat):Int))),(98,.v (.int .i64 ((x5:Nat):Int)))]:Env)
abbrev z30 (x0) (x1) (x2) (x3) (x4) (x5) (x6) (x7) (x8) (x9) (x10) (x11) (x12) (x13) (x14):=([(1,.v (.int .i64 x0)),(2,.v (.bool x1)),(5,.p 0 0),(9,.p 2 0),(14,.v (.slice x2 ((qao x3).length) x4)),(90,.v (.agg #[.int .i64 x5,.int .i64 x6,.int .i64 x7,.int .i64 x8,.int .i64 x9,.int .i64 x10,.int .i64 x11,.slice x12 x13 x14]))]:Env)
abbrev z26 (x0) (x1) (x2) (x3) (x4):=([(1,.v (.int .i64 x0)),(2,.v (.bool x1)),(9,.p 2 0),(14,.v (.slice x2 ((qao x3).length) x4)),(15,.p 3 0),(97,.v (.int .i64 (((qao x3).length:Nat):Int))),(98,.v (.int .i64 0))]:Env)
abbrev z25 (x0) (x1) (x2) (x3) (x4) (x5):=([(1,.v (.int .i64 x0)),(2,.v (.bool x1)),(9,.p 2 0),(14,.v (.slice x2 ((qao x3).length) x4)),(15,.p 3 0),(97,.v (.int .i64 (((qao x3).length:Nat):Int))),(98,.v (.int .i64 ((x5:Nat):Int))),(114,.v (.bool false))]:Env)
abbrev z37 (x0) (x1) (x2) (x3) (x4) (x5):=([(1,.v (.int .i64 x0)),(2,.v (.bool x1)),(9,.p 2 0),(14,.v (.slice x2 ((qao x3).length) x4)),(15,.p 3 0),(92,.v (.int .i64 x5)),(93,.p 3 0)]:Env)
abbrev z45 (x0) (x1) (x2) (x3) (x4):=([(1,.v (.int .i64 x0)),(2,.v (.bool x1)),(9,.p 2 0),(14,.v (.slice x2 ((qao x3).length) x4)),(15,.p 3 0),(94,.p 3 3)]:Env)
abbrev z46 (x0) (x1) (x2) (x3) (x4):=([(1,.v (.int .i64 x0)),(2,.v (.bool x1)),(9,.p 2 0),(14,.v (.slice x2 ((qao x3).length) x4)),(15,.p 3 0),(95,.p 3 4)]:Env)
abbrev z49 (x0) (x1) (x2) (x3) (x4):=([(1,.v (.int .i64 x0)),(2,.v (.bool x1)),(5,.p 0 0),(9,.p 2 0),(14,.v (.slice x2 ((qao x3).length) x4))]:Env)
theorem qlk {v:Int} {flex:Bool} {T:List Fld → Tree → Tree → Prop} (hT:ToOK v flex T) (cf:List Value) (f:Fld) (ct:List Value) (t:Tree) (cg:List Value) (g:Tree) (w:World) (F:Nat → Nat → Prop) (hf:FldR w F cf f) (hpl:f.plain) (ac:f.kind = 11) (ht:TreeR w F ct t) (hg:TreeR w F cg g) (hQ:ToF T v f t g) :
  Calls Tryz.prog 79 #[.agg cf.toArray,.int .i64 v,.bool flex,.agg ct.toArray,.agg cg.toArray] w (qch w (.bool true)):=by
 obtain ⟨k1,y2,y3,y4,y5,y6,y7,l8,A9,ap,dE,rfl,rfl,gU,hK⟩:=hf.open_
 have jn:=gU.small
 obtain ⟨aj,ak,al,aa,am,ep,eu,ae,af,ev,ew,kx,rfl,rfl,ky,dF,hZ,nE⟩:=ht.open_
 have jo:=ky.small
 have jp:=dF.small
 obtain ⟨gV,gW,cz,ao,gX,gY,gZ,bC,dG,g9,hC,kA,rfl,rfl,kB,hJ,ia,nF⟩:=hg.open_
 have jq:=kB.small
 have jr:=hJ.small
 have ac:k1 = 11:=ac
 have hof:y7 ≠ 11:=hpl.1
 replace hpl:plains l8:=hpl.2
 have hq:=hQ.1
 refine enter (n:=124) Tryz.func79 rfl Tryz.ntmps79 kz fun a hE=>?_
 have hW:=WOk.start w Nil
 refine qae [0,1,2,3] kz ?_
 refine qan (qbl hW hE (d:=5) (cs:=(z5 k1 y2 y3 y4 y5 y6 y7 A9 l8.length ap)) kz fun ib nG nH kC kD kE ic ig=>?_)
 refine qan (qbl ic ig (d:=8) (cs:=(z3 aj ep ak.length eu al ae aa.length af ev am.length ew)) kz fun ii nI nJ kF kG kH ij ik=>?_)
 refine qan (qbl ij ik (d:=9) (cs:=(z3 gV gY gW.length gZ cz bC ao.length dG g9 gX.length hC)) kz fun il nK nL kI kJ kK bD im=>?_)
 refine qal [3] [] [(1,.v (.int .i64 v)),(2,.v (.bool flex)),(5,.p 0 0),(8,.p 1 0),(9,.p 2 0)] bD im fun nM io=>?_
 refine qaf (qab ?_)
 refine qae [0,1,2,3,4] kz ?_
 refine qal [0,1,2] [3,4] [(1,.v (.int .i64 v)),(2,.v (.bool flex)),(5,.p 0 0),(8,.p 1 0),(9,.p 2 0),(17,.v (.agg #[.int .i64 k1,.int .i64 y2,.int .i64 y3,.int .i64 y4,.int .i64 y5,.int .i64 y6,.int .i64 y7,.slice A9 l8.length ap])),(18,.v (.int .i64 v)),(19,.v (.agg #[.int .i64 aj,.slice ep ak.length eu,.bool al,.slice ae aa.length af,.slice ev am.length ew]))] bD io fun nN ip=>?_
 refine qan (qam ip (f:=126) (vs:=[.agg #[.int .i64 k1,.int .i64 y2,.int .i64 y3,.int .i64 y4,.int .i64 y5,.int .i64 y6,.int .i64 y7,.slice A9 l8.length ap],.int .i64 v,.agg #[.int .i64 aj,.slice ep ak.length eu,.bool al,.slice ae aa.length af,.slice ev am.length ew]]) (d:=20) kz Tryz.call126 (qk9 k1 y2 y3 y4 y5 y6 y7 l8 _ _ v aj ak al aa am _ _ _ _ _ _ _) ?_)
 rintro e_ nO ⟨rfl,ey⟩
 refine ⟨_,rfl,fun nP iq=>?_⟩
 have ab:=bD.next_nil ey
 have kL:=bD.frN ey
 refine qal [4] [] [(1,.v (.int .i64 v)),(2,.v (.bool flex)),(5,.p 0 0),(8,.p 1 0),(9,.p 2 0),(11,.v (.bool (z4 k1 y2 y3 y4 y5 y6 y7 l8 v aj ak al aa am)))] ab iq fun nQ ir=>?_
 refine qaf (qab ?_)
 refine qae [0,1,2,3,4,5,6,7,8,9] kz ?_
 refine qal [0,1,2,3] [4,5,6,7,8,9] [(1,.v (.int .i64 v)),(2,.v (.bool flex)),(5,.p 0 0),(8,.p 1 0),(9,.p 2 0),(11,.v (.bool (z4 k1 y2 y3 y4 y5 y6 y7 l8 v aj ak al aa am))),(24,.v (.bool (decide (y4 ≥ 0))))] ab ir fun nR ez=>?_
 refine (Bool.eq_false_or_eq_true (decide (y4 ≥ 0))).elim (fun aD=>?_) (fun aD=>?_)
 ·
  have kM:=of_decide_eq_true aD
  have iu:=ez
  rw [aD] at iu
  refine qal [4,5,6,7,8,9] [] [(1,.v (.int .i64 v)),(2,.v (.bool flex)),(5,.p 0 0),(8,.p 1 0),(9,.p 2 0),(11,.v (.bool (z4 k1 y2 y3 y4 y5 y6 y7 l8 v aj ak al aa am))),(12,.v (.bool (decide (v ≥ y4))))] ab iu fun nS iv=>?_
  refine qaf (qab ?_)
  refine wp_seq (qae [0,1,2,3,4,5,6,7,8,9,10,11,12,13,14,15,16] kz ?_)
  refine qal [0,1,2,3] [4,5,6,7,8,9,10,11,12,13,14,15,16] [(1,.v (.int .i64 v)),(2,.v (.bool flex)),(5,.p 0 0),(8,.p 1 0),(9,.p 2 0),(11,.v (.bool (z4 k1 y2 y3 y4 y5 y6 y7 l8 v aj ak al aa am))),(12,.v (.bool (decide (v ≥ y4)))),(33,.v (.bool (k1 == 8)))] ab iv fun nT eB=>?_
  have eC:(k1 == 8) = false:=by simp [ac]
  have eD:=eB
  rw [eC] at eD
  refine qal [4,5,6,7,8] [9,10,11,12,13,14,15,16] [(1,.v (.int .i64 v)),(2,.v (.bool flex)),(5,.p 0 0),(8,.p 1 0),(9,.p 2 0),(11,.v (.bool (z4 k1 y2 y3 y4 y5 y6 y7 l8 v aj ak al aa am))),(12,.v (.bool (decide (v ≥ y4)))),(38,.v (.bool (k1 == 10)))] ab eD fun kN eE=>?_
  have eF:(k1 == 10) = false:=by simp [ac]
  have eG:=eE
  rw [eF] at eG
  refine qal [9,10,11] [12,13,14,15,16] [(1,.v (.int .i64 v)),(2,.v (.bool flex)),(5,.p 0 0),(8,.p 1 0),(9,.p 2 0),(11,.v (.bool (z4 k1 y2 y3 y4 y5 y6 y7 l8 v aj ak al aa am))),(41,.v (.bool (decide (v ≥ y4))))] ab eG fun kO cA=>?_
  refine (Bool.eq_false_or_eq_true (decide (v ≥ y4))).elim (fun az=>?_) (fun az=>?_)
  ·
   have js:=of_decide_eq_true az
   have eH:=cA
   rw [az] at eH
   refine qal [12,13,14,15,16] [] [(1,.v (.int .i64 v)),(2,.v (.bool flex)),(5,.p 0 0),(8,.p 1 0),(9,.p 2 0),(11,.v (.bool (z4 k1 y2 y3 y4 y5 y6 y7 l8 v aj ak al aa am))),(46,.v (.bool (!(cz == (z4 k1 y2 y3 y4 y5 y6 y7 l8 v aj ak al aa am)))))] ab eH fun kP aE=>?_
   refine qaf (qab ?_)
   refine qay aE (b:=!(cz == (z4 k1 y2 y3 y4 y5 y6 y7 l8 v aj ak al aa am))) kz (fun aF=>?_) (fun aF=>?_)
   ·
    have jt:!(cz = (Fld.nul (Fld.mk k1 y2 y3 y4 y5 y6 y7 l8) v (Tree.mk aj ak al aa am))):=by simpa using aF
    refine qap [(10,.v (.bool false))] ab aE fun kQ eI=>?_
    refine wp_ret (qaq (qaL eI ab.cells (v:=.bool false) kz ?_))
    first
     | exact (qgl hq ‹_› ‹_› ‹_›).elim
     | exact (qhR (hQ.2 ac ‹_›).1 ‹_›).elim
     | (exfalso; simp_all; done)
   have ju:!(cz ≠ (Fld.nul (Fld.mk k1 y2 y3 y4 y5 y6 y7 l8) v (Tree.mk aj ak al aa am))):=by simpa using aF
   refine wp_skip (qab (wp_seq (qap (z13 v flex k1 y2 y3 y4 y5 y6 y7 l8 aj ak al aa am) ab aE fun kR aG=>?_)))
   refine qay aG (b:=Fld.nul (Fld.mk k1 y2 y3 y4 y5 y6 y7 l8) v (Tree.mk aj ak al aa am)) kz (fun eJ=>?_) (fun eJ=>?_)
   ·
    refine qap [(10,.v (.bool true))] ab aG fun kS eK=>?_
    refine wp_ret (qaq (qaL eK ab.cells (v:=.bool true) kz ?_))
    exact ⟨rfl,ab.step⟩
   refine wp_skip (qab (wp_seq (qap (z11 v flex k1) ab aG fun kT eL=>?_)))
   refine wp_block (wp_seq (qap [(1,.v (.int .i64 v)),(2,.v (.bool flex)),(5,.p 0 0),(8,.p 1 0),(9,.p 2 0),(49,.v (.int .i64 k1)),(50,.v (.bool (k1 == 8)))] ab eL fun kU cB=>?_))
   refine qar cB (b:=k1 == 8) kz (by simp [ac]) ?_
   refine qas [0,1] kz ?_
   refine qal [0,1] [] [(1,.v (.int .i64 v)),(2,.v (.bool flex)),(5,.p 0 0),(8,.p 1 0),(9,.p 2 0),(49,.v (.int .i64 k1)),(50,.v (.bool (k1 == 9)))] ab cB fun kV cC=>?_
   refine qaf (qab ?_)
   refine qar cC (b:=k1 == 9) kz (by simp [ac]) ?_
   refine qap [(1,.v (.int .i64 v)),(2,.v (.bool flex)),(5,.p 0 0),(8,.p 1 0),(9,.p 2 0),(49,.v (.int .i64 k1)),(59,.v (.bool (k1 == 7)))] ab cC fun kW cD=>?_
   refine qar cD (b:=k1 == 7) kz (by simp [ac]) ?_
   refine qap [(1,.v (.int .i64 v)),(2,.v (.bool flex)),(5,.p 0 0),(8,.p 1 0),(9,.p 2 0),(49,.v (.int .i64 k1)),(70,.v (.bool (k1 == 10)))] ab cD fun kX cE=>?_
   refine qar cE (b:=k1 == 10) kz (by simp [ac]) ?_
   refine qap [(1,.v (.int .i64 v)),(2,.v (.bool flex)),(5,.p 0 0),(8,.p 1 0),(9,.p 2 0),(79,.v (.bool (k1 == 11)))] ab cE fun kY cG=>?_
   refine qa2 cG (b:=k1 == 11) kz (by simpa using ac) ?_
   refine qae [0,1,2,3] kz ?_
   refine qal [0,1] [2,3] [(1,.v (.int .i64 v)),(2,.v (.bool flex)),(5,.p 0 0),(9,.p 2 0),(82,.v (.slice ae aa.length af))] ab cG fun kZ eM=>?_
   refine qan (qam eM (f:=127) (vs:=[.slice ae aa.length af]) (d:=83) kz Tryz.call127 (qf6 _ _ aa (dF.move ab.step nilM ab.imm).le _) ?_)
   rintro e_ k5 ⟨rfl,cH⟩
   refine ⟨_,rfl,fun k6 eN=>?_⟩
   have ar:=ab.next_nil cH
   have jv:=ab.frN cH
   refine qal [3] [] (z49 v flex ae aa af) ar eN fun k7 eO=>?_
   refine qaf (qab ?_)
   refine wp_seq (qap [(1,.v (.int .i64 v)),(2,.v (.bool flex)),(5,.p 0 0),(9,.p 2 0),(14,.v (.slice ae ((qao aa).length) af)),(89,.v (.bool (((ao.length:Nat):Int) != (((qao aa).length:Nat):Int))))] ar eO fun k8 aH=>?_)
   refine qay aH (b:=((ao.length:Nat):Int) != (((qao aa).length:Nat):Int)) kz (fun aI=>?_) (fun aI=>?_)
   ·
    have jw:((ao.length:Nat):Int) ≠ (((qao aa).length:Nat):Int):=by simpa using aI
    refine qap [(10,.v (.bool false))] ar aH fun k9 eP=>?_
    refine wp_ret (qaq (qaz (qaq (qaL eP ar.cells (v:=.bool false) kz ?_))))
    first
     | exact (qgl hq ‹_› ‹_› ‹_›).elim
     | exact (qhR (hQ.2 ac ‹_›).1 ‹_›).elim
     | (exfalso; simp_all; done)
   have jx:((ao.length:Nat):Int) = (((qao aa).length:Nat):Int):=by simpa using aI
   refine wp_skip (qab (qae [0,1,2] kz ?_))
   refine qal [0] [1,2] (z30 v flex ae aa af k1 y2 y3 y4 y5 y6 y7 A9 l8.length ap) ar aH fun la eQ=>?_
   refine qan (qaP ar eQ (d:=15) (cs:=z9) kz fun iw lb lc jy jz jA eR eS=>?_)
   refine qan (qat eR eS (oi:=3) (cs:=(z5 k1 y2 y3 y4 y5 y6 y7 A9 l8.length ap)) kz fun ld jB cI eU=>?_)
   refine qaf (qab ?_)
   refine qae [0,1,2,3,4,5,6,7] kz ?_
   refine qal [0,1,2] [3,4,5,6,7] (z37 v flex ae aa af y7) cI eU fun lf eV=>?_
   refine qan (qat cI eV (oi:=3) (cs:=[.int .i64 y7,.int .i64 y2,.int .i64 y3,.int .i64 y4,.int .i64 y5,.int .i64 y6,.int .i64 y7,.slice A9 l8.length ap]) kz fun lg jC cJ eW=>?_)
   refine qal [4] [5,6,7] (z45 v flex ae aa af) cJ eW fun lh eX=>?_
   refine qan (qat cJ eX (oi:=3) (cs:=[.int .i64 y7,.int .i64 y2,.int .i64 y3,.int .i64 (-1),.int .i64 y5,.int .i64 y6,.int .i64 y7,.slice A9 l8.length ap]) kz fun li jD cK eY=>?_)
   refine qal [6] [7] (z46 v flex ae aa af) cK eY fun lj eZ=>?_
   refine qan (qat cK eZ (oi:=3) (cs:=[.int .i64 y7,.int .i64 y2,.int .i64 y3,.int .i64 (-1),.int .i64 (-1),.int .i64 y6,.int .i64 y7,.slice A9 l8.length ap]) kz fun lm jE aJ e9=>?_)
   refine qaf (qab ?_)
   refine wp_seq (qap (z26 v flex ae aa af) aJ e9 fun ln fb=>?_)
   refine wp_block ?_
   have hl_:=(hQ.2 ac ‹_›).2
   refine wp_loop_ghost (fun n_ a_ w_=>∃ (k:Nat),n_ = (qao aa).length - k ∧ k ≤ (qao aa).length ∧ LInv aJ 124 [⟨ib,0,[.int .i64 k1,.int .i64 y2,.int .i64 y3,.int .i64 y4,.int .i64 y5,.int .i64 y6,.int .i64 y7,.slice A9 l8.length ap],true⟩,⟨ii,0,[.int .i64 aj,.slice ep ak.length eu,.bool al,.slice ae aa.length af,.slice ev am.length ew],true⟩,⟨il,0,[.int .i64 gV,.slice gY gW.length gZ,.bool cz,.slice bC ao.length dG,.slice g9 gX.length hC],true⟩,⟨iw,0,[.int .i64 y7,.int .i64 y2,.int .i64 y3,.int .i64 (-1),.int .i64 (-1),.int .i64 y6,.int .i64 y7,.slice A9 l8.length ap],true⟩] [] [(1,.v (.int .i64 v)),(2,.v (.bool flex)),(9,.p 2 0),(14,.v (.slice ae ((qao aa).length) af)),(15,.p 3 0),(97,.v (.int .i64 (((qao aa).length:Nat):Int))),(98,.v (.int .i64 ((k:Nat):Int)))] a_ w_) ((qao aa).length) ⟨0,by omega,by omega,fb.pk,aJ,Fr.refl _ _ _⟩ ?_
   rintro lp lq lr ⟨k,jF,jG,fe,au,ff⟩
   refine qap [(1,.v (.int .i64 v)),(2,.v (.bool flex)),(9,.p 2 0),(14,.v (.slice ae ((qao aa).length) af)),(15,.p 3 0),(97,.v (.int .i64 (((qao aa).length:Nat):Int))),(98,.v (.int .i64 ((k:Nat):Int))),(99,.v (.bool (decide (((k:Nat):Int) < (((qao aa).length:Nat):Int)))))] au fe fun ls aK=>?_
   refine wp_seq (qay aK (b:=decide (((k:Nat):Int) < (((qao aa).length:Nat):Int))) kz (fun aL=>?_) (fun aL=>?_))
   ·
    have jH:=of_decide_eq_true aL
    refine wp_skip (qab (wp_seq (wp_block (qap (z21 v flex ae aa af k) au aK fun lu fg=>?_))))
    refine qaK 14 kz au fun lv fh ag aA=>?_
    refine qaJ [0,1,2,3,4,7,8,9] (z10 v flex ae aa af k y7 y2 y3 y6 A9 l8.length ap bC ao.length dG) 6 (qaa (qac (qaa (qaa (qac (qaa (qac (qaa qag)))))))) (fun _ h=>h.cells) aA fg fun lw fi=>?_
    obtain ⟨ix,iy,fj,jI,aM⟩:=Slots.get (qc5 dF) (i:=k) (by first | omega | (have h_:ao.length = (qao aa).length:=(hQ.2 ac ‹_›).1; omega))
    obtain ⟨iz,cL⟩:∃ x,(qao aa)[k]? = some x:=⟨_,List.getElem?_eq_getElem (by omega)⟩
    have aN:=(qdo hZ) k iz cL
    obtain ⟨bE,bF,bG,bH,bI,dH,dI,dJ,dK,dL,dM,jJ,rfl,aO,iA,iB,lx,ly⟩:=aN.open_
    rw [aO] at aN
    have iC:=iA.small
    have iD:=iB.small
    rw [aO] at aM
    refine qaQ fi (i:=5) (t:=23) (A:=ae) (m:=((qao aa).length)) (q:=((k:Nat):Int)) (d:=106) kz (e:=26) (size:=5) (bytes:=88) kz fj rfl (by first | omega | (have h_:ao.length = (qao aa).length:=(hQ.2 ac ‹_›).1; omega)) kz kz (qaa (qac (qaa (qaa (qac (qaa (qac (qaa qag)))))))) aA fun lz fk=>?_
    refine qa9 fk (i:=6) (t:=26) (b:=ix) (o:=iy + k * 5) (d:=107) kz (cs:=(z3 bE dH bF.length dI bG dJ bH.length dK dL bI.length dM)) (v:=.agg #[.int .i64 bE,.slice dH bF.length dI,.bool bG,.slice dJ bH.length dK,.slice dL bI.length dM]) kz (fun w' h'=>(AtF.move aM (TT.step0 ag h') nilM qba).at_) kz kz (qaa (qac (qaa (qaa (qac (qaa (qac (qaa qag)))))))) aA fun lA fm=>?_
    obtain ⟨iE,iF,fo,jK,aP⟩:=Slots.get hJ (i:=k) (by first | omega | (have h_:ao.length = (qao aa).length:=(hQ.2 ac ‹_›).1; omega))
    obtain ⟨iG,cM⟩:∃ x,ao[k]? = some x:=⟨_,List.getElem?_eq_getElem (by omega)⟩
    have aQ:=ia k iG cM
    obtain ⟨bJ,bK,bL,bM,bN,dN,dO,dP,dQ,dR,dS,jL,rfl,aR,iH,iI,lB,lC⟩:=aQ.open_
    rw [aR] at aQ
    have iJ:=iH.small
    have iK:=iI.small
    rw [aR] at aP
    refine qaQ fm (i:=10) (t:=23) (A:=bC) (m:=ao.length) (q:=((k:Nat):Int)) (d:=111) kz (e:=26) (size:=5) (bytes:=88) kz fo rfl (by first | omega | (have h_:ao.length = (qao aa).length:=(hQ.2 ac ‹_›).1; omega)) kz kz (qaa (qac (qaa (qaa (qac (qaa (qac (qaa qag)))))))) aA fun lD fq=>?_
    refine qa9 fq (i:=11) (t:=26) (b:=iE) (o:=iF + k * 5) (d:=112) kz (cs:=(z3 bJ dN bK.length dO bL dP bM.length dQ dR bN.length dS)) (v:=.agg #[.int .i64 bJ,.slice dN bK.length dO,.bool bL,.slice dP bM.length dQ,.slice dR bN.length dS]) kz (fun w' h'=>(AtF.move aP (TT.step0 ag h') nilM qba).at_) kz kz (qaa (qac (qaa (qaa (qac (qaa (qac (qaa qag)))))))) aA fun lE fr=>?_
    refine qaw (i:=12) kz (qam fr (f:=79) (vs:=[.agg #[.int .i64 y7,.int .i64 y2,.int .i64 y3,.int .i64 (-1),.int .i64 (-1),.int .i64 y6,.int .i64 y7,.slice A9 l8.length ap],.int .i64 v,.bool flex,.agg #[.int .i64 bE,.slice dH bF.length dI,.bool bG,.slice dJ bH.length dK,.slice dL bI.length dM],.agg #[.int .i64 bJ,.slice dN bK.length dO,.bool bL,.slice dP bM.length dQ,.slice dR bN.length dS]]) (d:=113) kz Tryz.call79 ( qhZ hT _ _ _ (Tree.mk bE bF bG bH bI) _ (Tree.mk bJ bK bL bM bN) _ _ (FldR.mk (l:=l8) dE (gU.move ag.step nilM ag.imm) (fun i_ x_ h_=>((hK i_ x_ h_).move ag.step nilM ag.imm))) hpl hof (aN.move ag.step nilM ag.imm) (aQ.move ag.step nilM ag.imm) (hl_ _ _ _ cL cM)) ?_)
    rintro e_ lF ⟨rfl,cN⟩
    refine ⟨_,rfl,fun lG ft=>?_⟩
    have aS:=ag.next_nil cN
    have cO:=ag.frN cN
    have cP:=TT.ofW cO aS
    refine ⟨fun _=>cP,?_⟩
    refine qaJ [13] (z25 v flex ae aa af k) 0 (qaa (qac (qaa (qaa (qac (qaa (qac (qaa qag)))))))) (fun _ h=>h.cells) cP ft fun lH cQ=>?_
    refine qaG kz ?_ _
    refine qab (qar cQ (b:=false) kz rfl ?_)
    refine wp_skip (qau (qab (qas [0,1] kz ?_)))
    refine qal [0,1] [] [(1,.v (.int .i64 v)),(2,.v (.bool flex)),(9,.p 2 0),(14,.v (.slice ae ((qao aa).length) af)),(15,.p 3 0),(97,.v (.int .i64 (((qao aa).length:Nat):Int))),(98,.v (.int .i64 (IntKind.i64.wrap (((k:Nat):Int) + 1))))] aS cQ fun lI cR=>?_
    refine qaf (qab ?_)
    have fv:IntKind.i64.wrap (((k:Nat):Int) + 1) = ((k + 1:Nat):Int):=qaT (by omega)
    rw [fv] at cR
    exact ⟨(qao aa).length - (k + 1),by omega,k + 1,rfl,by omega,cR.pk,aS,((ff.trans fh).trans cO)⟩
   have jM:=of_decide_eq_false aL
   refine wp_exit (qaC (qaC (qaS (qab (qap [(10,.v (.bool true))] au aK fun lJ fw=>?_)))))
   refine wp_ret (qaz (qaq (qaL fw au.cells (v:=.bool true) kz ?_)))
   exact ⟨rfl,au.step⟩
  have jN:=of_decide_eq_false az
  have fx:=cA.cast (env':=[(1,.v (.int .i64 v)),(2,.v (.bool flex)),(5,.p 0 0),(8,.p 1 0),(9,.p 2 0),(11,.v (.bool (Fld.nul (Fld.mk k1 y2 y3 y4 y5 y6 y7 l8) v (Tree.mk aj ak al aa am)))),(41,.v (.bool false))]) (by rw [az])
  refine qal [12,13,14,15,16] [] (z38 v flex k1 y2 y3 y4 y5 y6 y7 l8 aj ak al aa am) ab fx fun lK cS=>?_
  refine qaf (qab ?_)
  refine qar cS (b:=false) kz rfl ?_
  refine wp_skip (qab (wp_seq (qap (z13 v flex k1 y2 y3 y4 y5 y6 y7 l8 aj ak al aa am) ab cS fun lL aT=>?_)))
  refine qay aT (b:=Fld.nul (Fld.mk k1 y2 y3 y4 y5 y6 y7 l8) v (Tree.mk aj ak al aa am)) kz (fun fy=>?_) (fun fy=>?_)
  ·
   refine qap [(10,.v (.bool true))] ab aT fun lM fz=>?_
   refine wp_ret (qaq (qaL fz ab.cells (v:=.bool true) kz ?_))
   exact ⟨rfl,ab.step⟩
  refine wp_skip (qab (wp_seq (qap (z11 v flex k1) ab aT fun lN fA=>?_)))
  refine wp_block (wp_seq (qap [(1,.v (.int .i64 v)),(2,.v (.bool flex)),(5,.p 0 0),(8,.p 1 0),(9,.p 2 0),(49,.v (.int .i64 k1)),(50,.v (.bool (k1 == 8)))] ab fA fun lO cT=>?_))
  refine qar cT (b:=k1 == 8) kz (by simp [ac]) ?_
  refine qas [0,1] kz ?_
  refine qal [0,1] [] [(1,.v (.int .i64 v)),(2,.v (.bool flex)),(5,.p 0 0),(8,.p 1 0),(9,.p 2 0),(49,.v (.int .i64 k1)),(50,.v (.bool (k1 == 9)))] ab cT fun lP cU=>?_
  refine qaf (qab ?_)
  refine qar cU (b:=k1 == 9) kz (by simp [ac]) ?_
  refine qap [(1,.v (.int .i64 v)),(2,.v (.bool flex)),(5,.p 0 0),(8,.p 1 0),(9,.p 2 0),(49,.v (.int .i64 k1)),(59,.v (.bool (k1 == 7)))] ab cU fun lQ cV=>?_
  refine qar cV (b:=k1 == 7) kz (by simp [ac]) ?_
  refine qap [(1,.v (.int .i64 v)),(2,.v (.bool flex)),(5,.p 0 0),(8,.p 1 0),(9,.p 2 0),(49,.v (.int .i64 k1)),(70,.v (.bool (k1 == 10)))] ab cV fun lR cW=>?_
  refine qar cW (b:=k1 == 10) kz (by simp [ac]) ?_
  refine qap [(1,.v (.int .i64 v)),(2,.v (.bool flex)),(5,.p 0 0),(8,.p 1 0),(9,.p 2 0),(79,.v (.bool (k1 == 11)))] ab cW fun lS cX=>?_
  refine qa2 cX (b:=k1 == 11) kz (by simpa using ac) ?_
  refine qae [0,1,2,3] kz ?_
  refine qal [0,1] [2,3] [(1,.v (.int .i64 v)),(2,.v (.bool flex)),(5,.p 0 0),(9,.p 2 0),(82,.v (.slice ae aa.length af))] ab cX fun lT fB=>?_
  refine qan (qam fB (f:=127) (vs:=[.slice ae aa.length af]) (d:=83) kz Tryz.call127 (qf6 _ _ aa (dF.move ab.step nilM ab.imm).le _) ?_)
  rintro e_ lU ⟨rfl,cY⟩
  refine ⟨_,rfl,fun lV fC=>?_⟩
  have av:=ab.next_nil cY
  have jO:=ab.frN cY
  refine qal [3] [] (z49 v flex ae aa af) av fC fun lW fD=>?_
  refine qaf (qab ?_)
  refine wp_seq (qap [(1,.v (.int .i64 v)),(2,.v (.bool flex)),(5,.p 0 0),(9,.p 2 0),(14,.v (.slice ae ((qao aa).length) af)),(89,.v (.bool (((ao.length:Nat):Int) != (((qao aa).length:Nat):Int))))] av fD fun lX aU=>?_)
  refine qay aU (b:=((ao.length:Nat):Int) != (((qao aa).length:Nat):Int)) kz (fun aV=>?_) (fun aV=>?_)
  ·
   have jP:((ao.length:Nat):Int) ≠ (((qao aa).length:Nat):Int):=by simpa using aV
   refine qap [(10,.v (.bool false))] av aU fun lY fE=>?_
   refine wp_ret (qaq (qaz (qaq (qaL fE av.cells (v:=.bool false) kz ?_))))
   first
    | exact (qgl hq ‹_› ‹_› ‹_›).elim
    | exact (qhR (hQ.2 ac ‹_›).1 ‹_›).elim
    | (exfalso; simp_all; done)
  have jQ:((ao.length:Nat):Int) = (((qao aa).length:Nat):Int):=by simpa using aV
  refine wp_skip (qab (qae [0,1,2] kz ?_))
  refine qal [0] [1,2] (z30 v flex ae aa af k1 y2 y3 y4 y5 y6 y7 A9 l8.length ap) av aU fun lZ fF=>?_
  refine qan (qaP av fF (d:=15) (cs:=z9) kz fun iL l0 l3 jR jS jT fG fH=>?_)
  refine qan (qat fG fH (oi:=3) (cs:=(z5 k1 y2 y3 y4 y5 y6 y7 A9 l8.length ap)) kz fun l5 jU cZ fI=>?_)
  refine qaf (qab ?_)
  refine qae [0,1,2,3,4,5,6,7] kz ?_
  refine qal [0,1,2] [3,4,5,6,7] (z37 v flex ae aa af y7) cZ fI fun l6 fJ=>?_
  refine qan (qat cZ fJ (oi:=3) (cs:=[.int .i64 y7,.int .i64 y2,.int .i64 y3,.int .i64 y4,.int .i64 y5,.int .i64 y6,.int .i64 y7,.slice A9 l8.length ap]) kz fun l7 jV c5 fK=>?_)
  refine qal [4] [5,6,7] (z45 v flex ae aa af) c5 fK fun l9 fL=>?_
  refine qan (qat c5 fL (oi:=3) (cs:=[.int .i64 y7,.int .i64 y2,.int .i64 y3,.int .i64 (-1),.int .i64 y5,.int .i64 y6,.int .i64 y7,.slice A9 l8.length ap]) kz fun ma jW c6 fM=>?_)
  refine qal [6] [7] (z46 v flex ae aa af) c6 fM fun mc fN=>?_
  refine qan (qat c6 fN (oi:=3) (cs:=[.int .i64 y7,.int .i64 y2,.int .i64 y3,.int .i64 (-1),.int .i64 (-1),.int .i64 y6,.int .i64 y7,.slice A9 l8.length ap]) kz fun md jX aW fO=>?_)
  refine qaf (qab ?_)
  refine wp_seq (qap (z26 v flex ae aa af) aW fO fun me fP=>?_)
  refine wp_block ?_
  have hl_:=(hQ.2 ac ‹_›).2
  refine wp_loop_ghost (fun n_ a_ w_=>∃ (k:Nat),n_ = (qao aa).length - k ∧ k ≤ (qao aa).length ∧ LInv aW 124 [⟨ib,0,[.int .i64 k1,.int .i64 y2,.int .i64 y3,.int .i64 y4,.int .i64 y5,.int .i64 y6,.int .i64 y7,.slice A9 l8.length ap],true⟩,⟨ii,0,[.int .i64 aj,.slice ep ak.length eu,.bool al,.slice ae aa.length af,.slice ev am.length ew],true⟩,⟨il,0,[.int .i64 gV,.slice gY gW.length gZ,.bool cz,.slice bC ao.length dG,.slice g9 gX.length hC],true⟩,⟨iL,0,[.int .i64 y7,.int .i64 y2,.int .i64 y3,.int .i64 (-1),.int .i64 (-1),.int .i64 y6,.int .i64 y7,.slice A9 l8.length ap],true⟩] [] [(1,.v (.int .i64 v)),(2,.v (.bool flex)),(9,.p 2 0),(14,.v (.slice ae ((qao aa).length) af)),(15,.p 3 0),(97,.v (.int .i64 (((qao aa).length:Nat):Int))),(98,.v (.int .i64 ((k:Nat):Int)))] a_ w_) ((qao aa).length) ⟨0,by omega,by omega,fP.pk,aW,Fr.refl _ _ _⟩ ?_
  rintro mf mg mh ⟨k,jY,jZ,fQ,aw,fR⟩
  refine qap [(1,.v (.int .i64 v)),(2,.v (.bool flex)),(9,.p 2 0),(14,.v (.slice ae ((qao aa).length) af)),(15,.p 3 0),(97,.v (.int .i64 (((qao aa).length:Nat):Int))),(98,.v (.int .i64 ((k:Nat):Int))),(99,.v (.bool (decide (((k:Nat):Int) < (((qao aa).length:Nat):Int)))))] aw fQ fun mi aX=>?_
  refine wp_seq (qay aX (b:=decide (((k:Nat):Int) < (((qao aa).length:Nat):Int))) kz (fun aY=>?_) (fun aY=>?_))
  ·
   have j0:=of_decide_eq_true aY
   refine wp_skip (qab (wp_seq (wp_block (qap (z21 v flex ae aa af k) aw aX fun mj fS=>?_))))
   refine qaK 14 kz aw fun ml fT ah aB=>?_
   refine qaJ [0,1,2,3,4,7,8,9] (z10 v flex ae aa af k y7 y2 y3 y6 A9 l8.length ap bC ao.length dG) 6 (qaa (qac (qaa (qaa (qac (qaa (qac (qaa qag)))))))) (fun _ h=>h.cells) aB fS fun mn fU=>?_
   obtain ⟨iM,iN,fV,j1,aZ⟩:=Slots.get (qc5 dF) (i:=k) (by first | omega | (have h_:ao.length = (qao aa).length:=(hQ.2 ac ‹_›).1; omega))
   obtain ⟨iO,da⟩:∃ x,(qao aa)[k]? = some x:=⟨_,List.getElem?_eq_getElem (by omega)⟩
   have ba:=(qdo hZ) k iO da
   obtain ⟨bO,bP,bQ,bR,bS,dT,dU,dV,dW,dX,dY,j2,rfl,bd,iP,iQ,mo,mp⟩:=ba.open_
   rw [bd] at ba
   have iR:=iP.small
   have iS:=iQ.small
   rw [bd] at aZ
   refine qaQ fU (i:=5) (t:=23) (A:=ae) (m:=((qao aa).length)) (q:=((k:Nat):Int)) (d:=106) kz (e:=26) (size:=5) (bytes:=88) kz fV rfl (by first | omega | (have h_:ao.length = (qao aa).length:=(hQ.2 ac ‹_›).1; omega)) kz kz (qaa (qac (qaa (qaa (qac (qaa (qac (qaa qag)))))))) aB fun mq fW=>?_
   refine qa9 fW (i:=6) (t:=26) (b:=iM) (o:=iN + k * 5) (d:=107) kz (cs:=(z3 bO dT bP.length dU bQ dV bR.length dW dX bS.length dY)) (v:=.agg #[.int .i64 bO,.slice dT bP.length dU,.bool bQ,.slice dV bR.length dW,.slice dX bS.length dY]) kz (fun w' h'=>(AtF.move aZ (TT.step0 ah h') nilM qba).at_) kz kz (qaa (qac (qaa (qaa (qac (qaa (qac (qaa qag)))))))) aB fun mr fX=>?_
   obtain ⟨iT,iU,fY,j3,bf⟩:=Slots.get hJ (i:=k) (by first | omega | (have h_:ao.length = (qao aa).length:=(hQ.2 ac ‹_›).1; omega))
   obtain ⟨iV,db⟩:∃ x,ao[k]? = some x:=⟨_,List.getElem?_eq_getElem (by omega)⟩
   have bg:=ia k iV db
   obtain ⟨bT,bU,bV,bW,bX,dZ,d5,d6,d7,d8,d9,j4,rfl,bh,iW,iX,mt,mu⟩:=bg.open_
   rw [bh] at bg
   have iY:=iW.small
   have iZ:=iX.small
   rw [bh] at bf
   refine qaQ fX (i:=10) (t:=23) (A:=bC) (m:=ao.length) (q:=((k:Nat):Int)) (d:=111) kz (e:=26) (size:=5) (bytes:=88) kz fY rfl (by first | omega | (have h_:ao.length = (qao aa).length:=(hQ.2 ac ‹_›).1; omega)) kz kz (qaa (qac (qaa (qaa (qac (qaa (qac (qaa qag)))))))) aB fun mw fZ=>?_
   refine qa9 fZ (i:=11) (t:=26) (b:=iT) (o:=iU + k * 5) (d:=112) kz (cs:=(z3 bT dZ bU.length d5 bV d6 bW.length d7 d8 bX.length d9)) (v:=.agg #[.int .i64 bT,.slice dZ bU.length d5,.bool bV,.slice d6 bW.length d7,.slice d8 bX.length d9]) kz (fun w' h'=>(AtF.move bf (TT.step0 ah h') nilM qba).at_) kz kz (qaa (qac (qaa (qaa (qac (qaa (qac (qaa qag)))))))) aB fun mx f5=>?_
   refine qaw (i:=12) kz (qam f5 (f:=79) (vs:=[.agg #[.int .i64 y7,.int .i64 y2,.int .i64 y3,.int .i64 (-1),.int .i64 (-1),.int .i64 y6,.int .i64 y7,.slice A9 l8.length ap],.int .i64 v,.bool flex,.agg #[.int .i64 bO,.slice dT bP.length dU,.bool bQ,.slice dV bR.length dW,.slice dX bS.length dY],.agg #[.int .i64 bT,.slice dZ bU.length d5,.bool bV,.slice d6 bW.length d7,.slice d8 bX.length d9]]) (d:=113) kz Tryz.call79 ( qhZ hT _ _ _ (Tree.mk bO bP bQ bR bS) _ (Tree.mk bT bU bV bW bX) _ _ (FldR.mk (l:=l8) dE (gU.move ah.step nilM ah.imm) (fun i_ x_ h_=>((hK i_ x_ h_).move ah.step nilM ah.imm))) hpl hof (ba.move ah.step nilM ah.imm) (bg.move ah.step nilM ah.imm) (hl_ _ _ _ da db)) ?_)
   rintro e_ my ⟨rfl,dc⟩
   refine ⟨_,rfl,fun mz f7=>?_⟩
   have bi:=ah.next_nil dc
   have de:=ah.frN dc
   have df:=TT.ofW de bi
   refine ⟨fun _=>df,?_⟩
   refine qaJ [13] (z25 v flex ae aa af k) 0 (qaa (qac (qaa (qaa (qac (qaa (qac (qaa qag)))))))) (fun _ h=>h.cells) df f7 fun mA dg=>?_
   refine qaG kz ?_ _
   refine qab (qar dg (b:=false) kz rfl ?_)
   refine wp_skip (qau (qab (qas [0,1] kz ?_)))
   refine qal [0,1] [] [(1,.v (.int .i64 v)),(2,.v (.bool flex)),(9,.p 2 0),(14,.v (.slice ae ((qao aa).length) af)),(15,.p 3 0),(97,.v (.int .i64 (((qao aa).length:Nat):Int))),(98,.v (.int .i64 (IntKind.i64.wrap (((k:Nat):Int) + 1))))] bi dg fun mB dh=>?_
   refine qaf (qab ?_)
   have f8:IntKind.i64.wrap (((k:Nat):Int) + 1) = ((k + 1:Nat):Int):=qaT (by omega)
   rw [f8] at dh
   exact ⟨(qao aa).length - (k + 1),by omega,k + 1,rfl,by omega,dh.pk,bi,((fR.trans fT).trans de)⟩
  have j5:=of_decide_eq_false aY
  refine wp_exit (qaC (qaC (qaS (qab (qap [(10,.v (.bool true))] aw aX fun mC ga=>?_)))))
  refine wp_ret (qaz (qaq (qaL ga aw.cells (v:=.bool true) kz ?_)))
  exact ⟨rfl,aw.step⟩
 have j6:=of_decide_eq_false aD
 have gb:=ez.cast (env':=[(1,.v (.int .i64 v)),(2,.v (.bool flex)),(5,.p 0 0),(8,.p 1 0),(9,.p 2 0),(11,.v (.bool (Fld.nul (Fld.mk k1 y2 y3 y4 y5 y6 y7 l8) v (Tree.mk aj ak al aa am)))),(24,.v (.bool false))]) (by rw [aD])
 refine qal [4,5,6,7,8,9] [] [(1,.v (.int .i64 v)),(2,.v (.bool flex)),(5,.p 0 0),(8,.p 1 0),(9,.p 2 0),(11,.v (.bool (z4 k1 y2 y3 y4 y5 y6 y7 l8 v aj ak al aa am))),(12,.v (.bool false))] ab gb fun mD gc=>?_
 refine qaf (qab ?_)
 refine wp_seq (qae [0,1,2,3,4,5,6,7,8,9,10,11,12,13,14,15,16] kz ?_)
 refine qal [0,1,2,3] [4,5,6,7,8,9,10,11,12,13,14,15,16] [(1,.v (.int .i64 v)),(2,.v (.bool flex)),(5,.p 0 0),(8,.p 1 0),(9,.p 2 0),(11,.v (.bool (z4 k1 y2 y3 y4 y5 y6 y7 l8 v aj ak al aa am))),(12,.v (.bool false)),(33,.v (.bool (k1 == 8)))] ab gc fun mF gd=>?_
 have ge:(k1 == 8) = false:=by simp [ac]
 have gg:=gd
 rw [ge] at gg
 refine qal [4,5,6,7,8] [9,10,11,12,13,14,15,16] [(1,.v (.int .i64 v)),(2,.v (.bool flex)),(5,.p 0 0),(8,.p 1 0),(9,.p 2 0),(11,.v (.bool (z4 k1 y2 y3 y4 y5 y6 y7 l8 v aj ak al aa am))),(12,.v (.bool false)),(38,.v (.bool (k1 == 10)))] ab gg fun mG gh=>?_
 have gi:(k1 == 10) = false:=by simp [ac]
 have gj:=gh
 rw [gi] at gj
 refine qal [9,10,11,12,13,14,15,16] [] (z38 v flex k1 y2 y3 y4 y5 y6 y7 l8 aj ak al aa am) ab gj fun mH di=>?_
 refine qaf (qab ?_)
 refine qar di (b:=false) kz rfl ?_
 refine wp_skip (qab (wp_seq (qap (z13 v flex k1 y2 y3 y4 y5 y6 y7 l8 aj ak al aa am) ab di fun mI bj=>?_)))
 refine qay bj (b:=Fld.nul (Fld.mk k1 y2 y3 y4 y5 y6 y7 l8) v (Tree.mk aj ak al aa am)) kz (fun gk=>?_) (fun gk=>?_)
 ·
  refine qap [(10,.v (.bool true))] ab bj fun mJ gl=>?_
  refine wp_ret (qaq (qaL gl ab.cells (v:=.bool true) kz ?_))
  exact ⟨rfl,ab.step⟩
 refine wp_skip (qab (wp_seq (qap (z11 v flex k1) ab bj fun mK gm=>?_)))
 refine wp_block (wp_seq (qap [(1,.v (.int .i64 v)),(2,.v (.bool flex)),(5,.p 0 0),(8,.p 1 0),(9,.p 2 0),(49,.v (.int .i64 k1)),(50,.v (.bool (k1 == 8)))] ab gm fun mL dj=>?_))
 refine qar dj (b:=k1 == 8) kz (by simp [ac]) ?_
 refine qas [0,1] kz ?_
 refine qal [0,1] [] [(1,.v (.int .i64 v)),(2,.v (.bool flex)),(5,.p 0 0),(8,.p 1 0),(9,.p 2 0),(49,.v (.int .i64 k1)),(50,.v (.bool (k1 == 9)))] ab dj fun mM dl=>?_
 refine qaf (qab ?_)
 refine qar dl (b:=k1 == 9) kz (by simp [ac]) ?_
 refine qap [(1,.v (.int .i64 v)),(2,.v (.bool flex)),(5,.p 0 0),(8,.p 1 0),(9,.p 2 0),(49,.v (.int .i64 k1)),(59,.v (.bool (k1 == 7)))] ab dl fun mN dp=>?_
 refine qar dp (b:=k1 == 7) kz (by simp [ac]) ?_
 refine qap [(1,.v (.int .i64 v)),(2,.v (.bool flex)),(5,.p 0 0),(8,.p 1 0),(9,.p 2 0),(49,.v (.int .i64 k1)),(70,.v (.bool (k1 == 10)))] ab dp fun mO dq=>?_
 refine qar dq (b:=k1 == 10) kz (by simp [ac]) ?_
 refine qap [(1,.v (.int .i64 v)),(2,.v (.bool flex)),(5,.p 0 0),(8,.p 1 0),(9,.p 2 0),(79,.v (.bool (k1 == 11)))] ab dq fun mQ dr=>?_
 refine qa2 dr (b:=k1 == 11) kz (by simpa using ac) ?_
 refine qae [0,1,2,3] kz ?_
 refine qal [0,1] [2,3] [(1,.v (.int .i64 v)),(2,.v (.bool flex)),(5,.p 0 0),(9,.p 2 0),(82,.v (.slice ae aa.length af))] ab dr fun mR gn=>?_
 refine qan (qam gn (f:=127) (vs:=[.slice ae aa.length af]) (d:=83) kz Tryz.call127 (qf6 _ _ aa (dF.move ab.step nilM ab.imm).le _) ?_)
 rintro e_ mS ⟨rfl,dt⟩
 refine ⟨_,rfl,fun mT gp=>?_⟩
 have ax:=ab.next_nil dt
 have j7:=ab.frN dt
 refine qal [3] [] (z49 v flex ae aa af) ax gp fun mU gq=>?_
 refine qaf (qab ?_)
 refine wp_seq (qap [(1,.v (.int .i64 v)),(2,.v (.bool flex)),(5,.p 0 0),(9,.p 2 0),(14,.v (.slice ae ((qao aa).length) af)),(89,.v (.bool (((ao.length:Nat):Int) != (((qao aa).length:Nat):Int))))] ax gq fun mV bk=>?_)
 refine qay bk (b:=((ao.length:Nat):Int) != (((qao aa).length:Nat):Int)) kz (fun bn=>?_) (fun bn=>?_)
 ·
  have j8:((ao.length:Nat):Int) ≠ (((qao aa).length:Nat):Int):=by simpa using bn
  refine qap [(10,.v (.bool false))] ax bk fun mW gt=>?_
  refine wp_ret (qaq (qaz (qaq (qaL gt ax.cells (v:=.bool false) kz ?_))))
  first
   | exact (qgl hq ‹_› ‹_› ‹_›).elim
   | exact (qhR (hQ.2 ac ‹_›).1 ‹_›).elim
   | (exfalso; simp_all; done)
 have j9:((ao.length:Nat):Int) = (((qao aa).length:Nat):Int):=by simpa using bn
 refine wp_skip (qab (qae [0,1,2] kz ?_))
 refine qal [0] [1,2] (z30 v flex ae aa af k1 y2 y3 y4 y5 y6 y7 A9 l8.length ap) ax bk fun mX gv=>?_
 refine qan (qaP ax gv (d:=15) (cs:=z9) kz fun i6 mY mZ ka kd ke gw gx=>?_)
 refine qan (qat gw gx (oi:=3) (cs:=(z5 k1 y2 y3 y4 y5 y6 y7 A9 l8.length ap)) kz fun m4 kf du gy=>?_)
 refine qaf (qab ?_)
 refine qae [0,1,2,3,4,5,6,7] kz ?_
 refine qal [0,1,2] [3,4,5,6,7] (z37 v flex ae aa af y7) du gy fun m5 gz=>?_
 refine qan (qat du gz (oi:=3) (cs:=[.int .i64 y7,.int .i64 y2,.int .i64 y3,.int .i64 y4,.int .i64 y5,.int .i64 y6,.int .i64 y7,.slice A9 l8.length ap]) kz fun m6 kg dv gA=>?_)
 refine qal [4] [5,6,7] (z45 v flex ae aa af) dv gA fun m7 gB=>?_
 refine qan (qat dv gB (oi:=3) (cs:=[.int .i64 y7,.int .i64 y2,.int .i64 y3,.int .i64 (-1),.int .i64 y5,.int .i64 y6,.int .i64 y7,.slice A9 l8.length ap]) kz fun m8 kh dw gC=>?_)
 refine qal [6] [7] (z46 v flex ae aa af) dw gC fun m9 gD=>?_
 refine qan (qat dw gD (oi:=3) (cs:=[.int .i64 y7,.int .i64 y2,.int .i64 y3,.int .i64 (-1),.int .i64 (-1),.int .i64 y6,.int .i64 y7,.slice A9 l8.length ap]) kz fun nf ki bo gE=>?_)
 refine qaf (qab ?_)
 refine wp_seq (qap (z26 v flex ae aa af) bo gE fun ng gF=>?_)
 refine wp_block ?_
 have hl_:=(hQ.2 ac ‹_›).2
 refine wp_loop_ghost (fun n_ a_ w_=>∃ (k:Nat),n_ = (qao aa).length - k ∧ k ≤ (qao aa).length ∧ LInv bo 124 [⟨ib,0,[.int .i64 k1,.int .i64 y2,.int .i64 y3,.int .i64 y4,.int .i64 y5,.int .i64 y6,.int .i64 y7,.slice A9 l8.length ap],true⟩,⟨ii,0,[.int .i64 aj,.slice ep ak.length eu,.bool al,.slice ae aa.length af,.slice ev am.length ew],true⟩,⟨il,0,[.int .i64 gV,.slice gY gW.length gZ,.bool cz,.slice bC ao.length dG,.slice g9 gX.length hC],true⟩,⟨i6,0,[.int .i64 y7,.int .i64 y2,.int .i64 y3,.int .i64 (-1),.int .i64 (-1),.int .i64 y6,.int .i64 y7,.slice A9 l8.length ap],true⟩] [] [(1,.v (.int .i64 v)),(2,.v (.bool flex)),(9,.p 2 0),(14,.v (.slice ae ((qao aa).length) af)),(15,.p 3 0),(97,.v (.int .i64 (((qao aa).length:Nat):Int))),(98,.v (.int .i64 ((k:Nat):Int)))] a_ w_) ((qao aa).length) ⟨0,by omega,by omega,gF.pk,bo,Fr.refl _ _ _⟩ ?_
 rintro nh ni nj ⟨k,kj,km,gG,ay,gH⟩
 refine qap [(1,.v (.int .i64 v)),(2,.v (.bool flex)),(9,.p 2 0),(14,.v (.slice ae ((qao aa).length) af)),(15,.p 3 0),(97,.v (.int .i64 (((qao aa).length:Nat):Int))),(98,.v (.int .i64 ((k:Nat):Int))),(99,.v (.bool (decide (((k:Nat):Int) < (((qao aa).length:Nat):Int)))))] ay gG fun nk bp=>?_
 refine wp_seq (qay bp (b:=decide (((k:Nat):Int) < (((qao aa).length:Nat):Int))) kz (fun bq=>?_) (fun bq=>?_))
 ·
  have ko:=of_decide_eq_true bq
  refine wp_skip (qab (wp_seq (wp_block (qap (z21 v flex ae aa af k) ay bp fun nl gI=>?_))))
  refine qaK 14 kz ay fun nm gJ ai aC=>?_
  refine qaJ [0,1,2,3,4,7,8,9] (z10 v flex ae aa af k y7 y2 y3 y6 A9 l8.length ap bC ao.length dG) 6 (qaa (qac (qaa (qaa (qac (qaa (qac (qaa qag)))))))) (fun _ h=>h.cells) aC gI fun np gK=>?_
  obtain ⟨i7,ja,gL,kp,bt⟩:=Slots.get (qc5 dF) (i:=k) (by first | omega | (have h_:ao.length = (qao aa).length:=(hQ.2 ac ‹_›).1; omega))
  obtain ⟨jb,dx⟩:∃ x,(qao aa)[k]? = some x:=⟨_,List.getElem?_eq_getElem (by omega)⟩
  have bu:=(qdo hZ) k jb dx
  obtain ⟨bY,bZ,b8,cd,ce,ea,eb,ec,ee,ef,eg,kq,rfl,bw,jc,jd,nr,ns⟩:=bu.open_
  rw [bw] at bu
  have je:=jc.small
  have jf:=jd.small
  rw [bw] at bt
  refine qaQ gK (i:=5) (t:=23) (A:=ae) (m:=((qao aa).length)) (q:=((k:Nat):Int)) (d:=106) kz (e:=26) (size:=5) (bytes:=88) kz gL rfl (by first | omega | (have h_:ao.length = (qao aa).length:=(hQ.2 ac ‹_›).1; omega)) kz kz (qaa (qac (qaa (qaa (qac (qaa (qac (qaa qag)))))))) aC fun nt gM=>?_
  refine qa9 gM (i:=6) (t:=26) (b:=i7) (o:=ja + k * 5) (d:=107) kz (cs:=(z3 bY ea bZ.length eb b8 ec cd.length ee ef ce.length eg)) (v:=.agg #[.int .i64 bY,.slice ea bZ.length eb,.bool b8,.slice ec cd.length ee,.slice ef ce.length eg]) kz (fun w' h'=>(AtF.move bt (TT.step0 ai h') nilM qba).at_) kz kz (qaa (qac (qaa (qaa (qac (qaa (qac (qaa qag)))))))) aC fun nu gN=>?_
  obtain ⟨jg,jh,gO,ku,bx⟩:=Slots.get hJ (i:=k) (by first | omega | (have h_:ao.length = (qao aa).length:=(hQ.2 ac ‹_›).1; omega))
  obtain ⟨ji,dy⟩:∃ x,ao[k]? = some x:=⟨_,List.getElem?_eq_getElem (by omega)⟩
  have bz:=ia k ji dy
  obtain ⟨cm,cq,cr,cu,cw,eh,ei,ej,ek,em,eo,kv,rfl,bA,jj,jk,nv,nw⟩:=bz.open_
  rw [bA] at bz
  have jl:=jj.small
  have jm:=jk.small
  rw [bA] at bx
  refine qaQ gN (i:=10) (t:=23) (A:=bC) (m:=ao.length) (q:=((k:Nat):Int)) (d:=111) kz (e:=26) (size:=5) (bytes:=88) kz gO rfl (by first | omega | (have h_:ao.length = (qao aa).length:=(hQ.2 ac ‹_›).1; omega)) kz kz (qaa (qac (qaa (qaa (qac (qaa (qac (qaa qag)))))))) aC fun nx gP=>?_
  refine qa9 gP (i:=11) (t:=26) (b:=jg) (o:=jh + k * 5) (d:=112) kz (cs:=(z3 cm eh cq.length ei cr ej cu.length ek em cw.length eo)) (v:=.agg #[.int .i64 cm,.slice eh cq.length ei,.bool cr,.slice ej cu.length ek,.slice em cw.length eo]) kz (fun w' h'=>(AtF.move bx (TT.step0 ai h') nilM qba).at_) kz kz (qaa (qac (qaa (qaa (qac (qaa (qac (qaa qag)))))))) aC fun ny gQ=>?_
  refine qaw (i:=12) kz (qam gQ (f:=79) (vs:=[.agg #[.int .i64 y7,.int .i64 y2,.int .i64 y3,.int .i64 (-1),.int .i64 (-1),.int .i64 y6,.int .i64 y7,.slice A9 l8.length ap],.int .i64 v,.bool flex,.agg #[.int .i64 bY,.slice ea bZ.length eb,.bool b8,.slice ec cd.length ee,.slice ef ce.length eg],.agg #[.int .i64 cm,.slice eh cq.length ei,.bool cr,.slice ej cu.length ek,.slice em cw.length eo]]) (d:=113) kz Tryz.call79 ( qhZ hT _ _ _ (Tree.mk bY bZ b8 cd ce) _ (Tree.mk cm cq cr cu cw) _ _ (FldR.mk (l:=l8) dE (gU.move ai.step nilM ai.imm) (fun i_ x_ h_=>((hK i_ x_ h_).move ai.step nilM ai.imm))) hpl hof (bu.move ai.step nilM ai.imm) (bz.move ai.step nilM ai.imm) (hl_ _ _ _ dx dy)) ?_)
  rintro e_ nz ⟨rfl,dz⟩
  refine ⟨_,rfl,fun nA gR=>?_⟩
  have bB:=ai.next_nil dz
  have dA:=ai.frN dz
  have dB:=TT.ofW dA bB
  refine ⟨fun _=>dB,?_⟩
  refine qaJ [13] (z25 v flex ae aa af k) 0 (qaa (qac (qaa (qaa (qac (qaa (qac (qaa qag)))))))) (fun _ h=>h.cells) dB gR fun nB dC=>?_
  refine qaG kz ?_ _
  refine qab (qar dC (b:=false) kz rfl ?_)
  refine wp_skip (qau (qab (qas [0,1] kz ?_)))
  refine qal [0,1] [] [(1,.v (.int .i64 v)),(2,.v (.bool flex)),(9,.p 2 0),(14,.v (.slice ae ((qao aa).length) af)),(15,.p 3 0),(97,.v (.int .i64 (((qao aa).length:Nat):Int))),(98,.v (.int .i64 (IntKind.i64.wrap (((k:Nat):Int) + 1))))] bB dC fun nC dD=>?_
  refine qaf (qab ?_)
  have gS:IntKind.i64.wrap (((k:Nat):Int) + 1) = ((k + 1:Nat):Int):=qaT (by omega)
  rw [gS] at dD
  exact ⟨(qao aa).length - (k + 1),by omega,k + 1,rfl,by omega,dD.pk,bB,((gH.trans gJ).trans dA)⟩
 have kw:=of_decide_eq_false bq
 refine wp_exit (qaC (qaC (qaS (qab (qap [(10,.v (.bool true))] ay bp fun nD gT=>?_)))))
 refine wp_ret (qaz (qaq (qaL gT ay.cells (v:=.bool true) kz ?_)))
 exact ⟨rfl,ay.step⟩
theorem ql1 {v:Int} {flex:Bool} {T:List Fld → Tree → Tree → Prop} (hT:ToOK v flex T) (cf:List Value) (f:Fld) (ct:List Value) (t:Tree) (cg:List Value) (g:Tree) (w:World) (F:Nat → Nat → Prop) (hf:FldR w F cf f) (hpl:f.plain) (ht:TreeR w F ct t) (hg:TreeR w F cg g) (hQ:ToF T v f t g) :
  Calls Tryz.prog 79 #[.agg cf.toArray,.int .i64 v,.bool flex,.agg ct.toArray,.agg cg.toArray] w (qch w (.bool true)):=by
 by_cases h:f.kind = 11
 ·exact qlk hT cf f ct t cg g w F hf hpl h ht hg hQ
 exact qhZ hT cf f ct t cg g w F hf (qja hpl) h ht hg hQ.1
abbrev z32 (x0) (x1) (x2) (x3) (x4) (x5):=([(0,.v (.slice x0 x1 x2)),(1,.v (.int .i64 x3)),(2,.v (.bool x4)),(8,.p 0 0),(9,.p 1 0),(11,.v (.int .i64 ((x5:Nat):Int))),(12,.p 2 0),(13,.p 3 0),(23,.v (.slice x0 x1 x2)),(24,.v (.int .i64 ((x1:Nat):Int))),(25,.v (.int .i64 ((x5:Nat):Int))),(41,.v (.bool false)),(48,.v (.bool x4))]:Env)
abbrev z34 (x0) (x1) (x2) (x3) (x4):=([(0,.v (.slice x0 x1 x2)),(1,.v (.int .i64 x3)),(2,.v (.bool false)),(8,.p 0 0),(9,.p 1 0),(11,.v (.int .i64 ((x4:Nat):Int))),(12,.p 2 0),(13,.p 3 0),(23,.v (.slice x0 x1 x2)),(24,.v (.int .i64 ((x1:Nat):Int))),(25,.v (.int .i64 ((x4:Nat):Int))),(54,.v (.bool false))]:Env)
abbrev z36 (x0) (x1) (x2) (x3) (x4) (x5):=([(0,.v (.slice x0 x1 x2)),(1,.v (.int .i64 x3)),(2,.v (.bool x4)),(8,.p 0 0),(9,.p 1 0),(11,.v (.int .i64 ((x5:Nat):Int))),(12,.p 2 0),(13,.p 3 0),(23,.v (.slice x0 x1 x2)),(24,.v (.int .i64 ((x1:Nat):Int))),(25,.v (.int .i64 ((x5:Nat):Int))),(54,.v (.bool false))]:Env)
abbrev z40 (x0) (x1) (x2) (x3) (x4) (x5) (x6) (x7) (x8) (x9) (x10) (x11) (x12) (x13) (x14) (x15) (x16) (x17) (x18) (x19) (x20) (x21) (x22) (x23) (x24) (x25):=([(0,.v (.slice x0 x1 x2)),(1,.v (.int .i64 x3)),(2,.v (.bool true)),(8,.p 0 0),(9,.p 1 0),(11,.v (.int .i64 ((x4:Nat):Int))),(12,.p 2 0),(13,.p 3 0),(23,.v (.slice x0 x1 x2)),(24,.v (.int .i64 ((x1:Nat):Int))),(25,.v (.int .i64 ((x4:Nat):Int))),(41,.v (.bool false)),(48,.v (.bool true)),(49,.v (.agg #[.int .i64 x5,.int .i64 x6,.int .i64 x7,.int .i64 x8,.int .i64 x9,.int .i64 x10,.int .i64 x11,.slice x12 x13 x14])),(50,.v (.agg #[.int .i64 x15,.slice x16 x17 x18,.bool x19,.slice x20 x21 x22,.slice x23 x24 x25]))]:Env)
abbrev z47 (x0) (x1) (x2) (x3) (x4) (x5):=([(0,.v (.slice x0 x1 x2)),(1,.v (.int .i64 x3)),(2,.v (.bool x4)),(8,.p 0 0),(9,.p 1 0),(23,.v (.slice x0 x1 x2)),(24,.v (.int .i64 ((x1:Nat):Int))),(25,.v (.int .i64 ((x5:Nat):Int))),(76,.v (.bool false))]:Env)
set_option maxHeartbeats 4000000 in
theorem qkS {v:Int} {flex:Bool} {T:List Fld → Tree → Tree → Prop} {U:List Fld → Tree → Prop} (hT:ToOK v flex T) (hU:UsOK U) (A:Option Addr) (c:Nat) (l:List Fld) (ct:List Value) (t:Tree) (cg:List Value) (g:Tree) (w:World) (F:Nat → Nat → Prop) (hl:FldsR w F A c l) (ht:TreeR w F ct t) (hg:TreeR w F cg g) (hpl:plains l) (hP:ToP T U l v flex t g) :
  Calls Tryz.prog 30 #[.slice A l.length c,.int .i64 v,.bool flex,.agg ct.toArray,.agg cg.toArray] w (qch w (.bool true)):=by
 obtain ⟨xfs,h1,h2⟩:=hl.ex
 have hsm:=h1.small
 obtain ⟨n1,s2,b3,l4,u5,A6,c7,A8,c9,bE,bF,jR,rfl,rfl,jS,jT,mK,jU⟩:=ht.open_
 have iS:=jS.small
 have iT:=jT.small
 obtain ⟨cO,cP,cQ,aF,aB,cR,cS,bG,bN,bH,bO,jV,rfl,rfl,jW,hZ,iU,jX⟩:=hg.open_
 have iV:=jW.small
 have iW:=hZ.small
 have hlen:aF.length = l.length:=hP.1
 have hgu:aB = if flex = true then qco (qai l u5) else []:=hP.2.2
 obtain ⟨jY,iX,jZ⟩:=jX.ex
 have iY:=iX.small
 refine enter (n:=120) Tryz.func30 rfl Tryz.ntmps30 kz fun a hE=>?_
 have hW:=WOk.start w Nil
 refine qae [0,1,2] kz ?_
 refine qan (qbl hW hE (d:=8) (cs:=(z3 n1 A6 s2.length c7 b3 A8 l4.length c9 bE u5.length bF)) kz fun df mL mM j0 j1 j2 ia ib=>?_)
 refine qan (qbl ia ib (d:=9) (cs:=(z3 cO cR cP.length cS cQ bG aF.length bN bH aB.length bO)) kz fun dg mN mO j3 j4 j5 bt ic=>?_)
 refine qal [2] [] [(0,.v (.slice A l.length c)),(1,.v (.int .i64 v)),(2,.v (.bool flex)),(8,.p 0 0),(9,.p 1 0)] bt ic fun mQ ig=>?_
 refine qaf (qab ?_)
 refine wp_seq (qap [(0,.v (.slice A l.length c)),(1,.v (.int .i64 v)),(2,.v (.bool flex)),(8,.p 0 0),(9,.p 1 0),(22,.v (.bool (((aF.length:Nat):Int) != ((l.length:Nat):Int))))] bt ig fun mR ec=>?_)
 refine qay ec (b:=((aF.length:Nat):Int) != ((l.length:Nat):Int)) kz (fun ee=>?_) (fun ee=>?_)
 ·
  have j6:((aF.length:Nat):Int) ≠ ((l.length:Nat):Int):=by simpa using ee
  refine qap [(10,.v (.bool false))] bt ec fun mS ii=>?_
  refine wp_ret (qaq (qaL ii bt.cells (v:=.bool false) kz ?_))
  first
   | (exfalso; omega)
   | exact (qeD hgu ‹_› ‹_›).elim
   | exact (qdI hgu ‹_› ‹_›).elim
   | exact (qeE hgu ‹_› ‹_› ‹_› ‹_›).elim
   | exact (qeF hgu ‹_› ‹_› ‹_› ‹_›).elim
   | (exfalso; simp_all; done)
 have j7:((aF.length:Nat):Int) = ((l.length:Nat):Int):=by simpa using ee
 refine wp_skip (qab (wp_seq (qap [(0,.v (.slice A l.length c)),(1,.v (.int .i64 v)),(2,.v (.bool flex)),(8,.p 0 0),(9,.p 1 0),(23,.v (.slice A l.length c)),(24,.v (.int .i64 ((l.length:Nat):Int))),(25,.v (.int .i64 0))] bt ec fun mT ij=>?_)))
 refine wp_block (wp_loop_ghost (fun n_ a_ w_=>∃ (k:Nat),n_ = l.length - k ∧ k ≤ l.length ∧ LInv bt 120 [⟨df,0,[.int .i64 n1,.slice A6 s2.length c7,.bool b3,.slice A8 l4.length c9,.slice bE u5.length bF],true⟩,⟨dg,0,[.int .i64 cO,.slice cR cP.length cS,.bool cQ,.slice bG aF.length bN,.slice bH aB.length bO],true⟩] [] [(0,.v (.slice A l.length c)),(1,.v (.int .i64 v)),(2,.v (.bool flex)),(8,.p 0 0),(9,.p 1 0),(23,.v (.slice A l.length c)),(24,.v (.int .i64 ((l.length:Nat):Int))),(25,.v (.int .i64 ((k:Nat):Int)))] a_ w_) (l.length) ⟨0,by omega,by omega,ij.pk,bt,Fr.refl _ _ _⟩ ?_)
 rintro mU mV mW ⟨k,j8,j9,ik,av,ef⟩
 refine qap [(0,.v (.slice A l.length c)),(1,.v (.int .i64 v)),(2,.v (.bool flex)),(8,.p 0 0),(9,.p 1 0),(23,.v (.slice A l.length c)),(24,.v (.int .i64 ((l.length:Nat):Int))),(25,.v (.int .i64 ((k:Nat):Int))),(26,.v (.bool (decide (((k:Nat):Int) < ((l.length:Nat):Int)))))] av ik fun mX eg=>?_
 refine wp_seq (qay eg (b:=decide (((k:Nat):Int) < ((l.length:Nat):Int))) kz (fun eh=>?_) (fun eh=>?_))
 ·
  have ka:=of_decide_eq_true eh
  refine wp_skip (qab (wp_seq (wp_block (qae [0,1,2,3,4,5] kz ?_))))
  refine qal [0] [1,2,3,4,5] [(0,.v (.slice A l.length c)),(1,.v (.int .i64 v)),(2,.v (.bool flex)),(8,.p 0 0),(9,.p 1 0),(23,.v (.slice A l.length c)),(24,.v (.int .i64 ((l.length:Nat):Int))),(25,.v (.int .i64 ((k:Nat):Int))),(27,.v (.int .i64 ((k:Nat):Int)))] av eg fun mY il=>?_
  obtain ⟨kd,ke,im,kf,dh⟩:=Slots.get h1 (i:=k) (by first | omega | (have h_:=qcs hgu ‹_›; omega))
  obtain ⟨kg,bP⟩:∃ x,l[k]? = some x:=⟨_,List.getElem?_eq_getElem (by omega)⟩
  have bu:=h2 k kg bP
  obtain ⟨aj,ak,al,am,ag,ao,aa,ab,ap,ar,iZ,rfl,bQ,io,kh⟩:=bu.open_
  rw [bQ] at bu
  have ip:=io.small
  rw [bQ] at dh
  refine qan (qaD il (t:=29) (A:=A) (m:=l.length) (q:=((k:Nat):Int)) (d:=28) kz (e:=52) (size:=8) (bytes:=80) kz im rfl (by first | omega | (have h_:=qcs hgu ‹_›; omega)) fun ki ez=>?_)
  refine qan (qaR ez (t:=52) (b:=kd) (o:=ke + k * 8) (d:=29) kz (cs:=(z5 aj ak al am ag ao aa ap ab.length ar)) (v:=.agg #[.int .i64 aj,.int .i64 ak,.int .i64 al,.int .i64 am,.int .i64 ag,.int .i64 ao,.int .i64 aa,.slice ap ab.length ar]) kz (AtF.move dh av.step nilM qba).at_ fun kj eB=>?_)
  refine qan (qaP av eB (d:=12) (cs:=z9) kz fun iq km ko i6 i7 bR di eC=>?_)
  refine qal [4] [5] [(0,.v (.slice A l.length c)),(1,.v (.int .i64 v)),(2,.v (.bool flex)),(8,.p 0 0),(9,.p 1 0),(11,.v (.int .i64 ((k:Nat):Int))),(12,.p 2 0),(23,.v (.slice A l.length c)),(24,.v (.int .i64 ((l.length:Nat):Int))),(25,.v (.int .i64 ((k:Nat):Int))),(29,.v (.agg #[.int .i64 aj,.int .i64 ak,.int .i64 al,.int .i64 am,.int .i64 ag,.int .i64 ao,.int .i64 aa,.slice ap ab.length ar]))] di eC fun kp eD=>?_
  refine qan (qat di eD (oi:=2) (cs:=(z5 aj ak al am ag ao aa ap ab.length ar)) kz fun kq bS aG eE=>?_)
  refine qaf (qab ?_)
  refine qae [0,1,2,3,4] kz ?_
  refine qal [0,1] [2,3,4] [(0,.v (.slice A l.length c)),(1,.v (.int .i64 v)),(2,.v (.bool flex)),(8,.p 0 0),(9,.p 1 0),(11,.v (.int .i64 ((k:Nat):Int))),(12,.p 2 0),(23,.v (.slice A l.length c)),(24,.v (.int .i64 ((l.length:Nat):Int))),(25,.v (.int .i64 ((k:Nat):Int))),(30,.v (.agg #[.int .i64 n1,.slice A6 s2.length c7,.bool b3,.slice A8 l4.length c9,.slice bE u5.length bF])),(31,.v (.int .i64 ((k:Nat):Int)))] aG eE fun ku eF=>?_
  refine qan (qam eF (f:=47) (vs:=[.agg #[.int .i64 n1,.slice A6 s2.length c7,.bool b3,.slice A8 l4.length c9,.slice bE u5.length bF],.int .i64 ((k:Nat):Int)]) (d:=32) kz Tryz.call47 (sAt _ _ k _ _ (ht.move aG.step nilM aG.imm)) ?_)
  rintro e_ kv ⟨ja,rfl,eG,aK⟩
  have aL:=eG.move aK nilM (fun b o h_ hb_=>aG.laid (G:=F) aK b o (.inl h_) (Nat.lt_of_lt_of_le hb_ aK.size))
  obtain ⟨aM,aN,aO,aP,aQ,aR,aS,aT,aU,aV,aW,jb,jc,bT,ir,iu,kw,kx⟩:=aL.open_
  rw [bT] at aL
  have iv:=ir.small
  have iw:=iu.small
  rw [bT]
  refine ⟨_,rfl,fun ky eH=>?_⟩
  have eI:=aG.next_nil aK
  have bU:=aG.frN aK
  refine qan (qaP eI eH (d:=13) (cs:=z1) kz fun ix kA kB jd je aw eJ eK=>?_)
  refine qan (qat eJ eK (oi:=3) (cs:=(z3 aM aR aN.length aS aO aT aP.length aU aV aQ.length aW)) kz fun kC ax ac eL=>?_)
  refine qaf (qab ?_)
  refine wp_seq (wp_seq (qhj (Mid:=fun a_ w_=>LInv ac 120 [⟨df,0,(z3 n1 A6 s2.length c7 b3 A8 l4.length c9 bE u5.length bF),true⟩,⟨dg,0,(z3 cO cR cP.length cS cQ bG aF.length bN bH aB.length bO),true⟩,⟨iq,0,(z5 aj ak al am ag ao aa ap ab.length ar),true⟩,⟨ix,0,(z3 aM aR aN.length aS aO aT aP.length aU aV aQ.length aW),true⟩] [] [(0,.v (.slice A l.length c)),(1,.v (.int .i64 v)),(2,.v (.bool flex)),(8,.p 0 0),(9,.p 1 0),(11,.v (.int .i64 ((k:Nat):Int))),(12,.p 2 0),(13,.p 3 0),(23,.v (.slice A l.length c)),(24,.v (.int .i64 ((l.length:Nat):Int))),(25,.v (.int .i64 ((k:Nat):Int))),(54,.v (.bool (Fld.pres (Fld.mk aj ak al am ag ao aa ab) v flex (Tree.at_ (Tree.mk n1 s2 b3 l4 u5) k))))] a_ w_) ?_ ?_))
  ·
   refine qas [0,1,2,3,4,5,6,7,8,9,10,11,12,13,14,15,16,17,18,19,20,21] kz ?_
   refine qal [0,1,2,3] [4,5,6,7,8,9,10,11,12,13,14,15,16,17,18,19,20,21] [(0,.v (.slice A l.length c)),(1,.v (.int .i64 v)),(2,.v (.bool flex)),(8,.p 0 0),(9,.p 1 0),(11,.v (.int .i64 ((k:Nat):Int))),(12,.p 2 0),(13,.p 3 0),(23,.v (.slice A l.length c)),(24,.v (.int .i64 ((l.length:Nat):Int))),(25,.v (.int .i64 ((k:Nat):Int))),(36,.v (.bool (decide (ag < 0))))] ac eL fun kD dj=>?_
   refine (Bool.eq_false_or_eq_true (decide (ag < 0))).elim (fun aX=>?_) (fun aX=>?_)
   ·
    have jf:=of_decide_eq_true aX
    have eM:=dj
    rw [aX] at eM
    refine qal [4,5] [6,7,8,9,10,11,12,13,14,15,16,17,18,19,20,21] [(0,.v (.slice A l.length c)),(1,.v (.int .i64 v)),(2,.v (.bool flex)),(8,.p 0 0),(9,.p 1 0),(11,.v (.int .i64 ((k:Nat):Int))),(12,.p 2 0),(13,.p 3 0),(23,.v (.slice A l.length c)),(24,.v (.int .i64 ((l.length:Nat):Int))),(25,.v (.int .i64 ((k:Nat):Int))),(36,.v (.bool true)),(37,.v (.agg #[.int .i64 aj,.int .i64 ak,.int .i64 al,.int .i64 am,.int .i64 ag,.int .i64 ao,.int .i64 aa,.slice ap ab.length ar])),(38,.v (.int .i64 v))] ac eM fun kE eN=>?_
    refine qan (qam eN (f:=77) (vs:=[.agg #[.int .i64 aj,.int .i64 ak,.int .i64 al,.int .i64 am,.int .i64 ag,.int .i64 ao,.int .i64 aa,.slice ap ab.length ar],.int .i64 v]) (d:=39) kz Tryz.call77 (sHas aj ak al am ag ao aa ab _ _ v _) ?_)
    rintro e_ kF ⟨rfl,dl⟩
    refine ⟨_,rfl,fun kG eO=>?_⟩
    have af:=ac.next_nil dl
    have aH:=ac.frN dl
    refine qal [7,8] [9,10,11,12,13,14,15,16,17,18,19,20,21] [(0,.v (.slice A l.length c)),(1,.v (.int .i64 v)),(2,.v (.bool flex)),(8,.p 0 0),(9,.p 1 0),(11,.v (.int .i64 ((k:Nat):Int))),(12,.p 2 0),(13,.p 3 0),(23,.v (.slice A l.length c)),(24,.v (.int .i64 ((l.length:Nat):Int))),(25,.v (.int .i64 ((k:Nat):Int))),(41,.v (.bool (Fld.has (Fld.mk aj ak al am ag ao aa ab) v)))] af eO fun kH dp=>?_
    refine (Bool.eq_false_or_eq_true (Fld.has (Fld.mk aj ak al am ag ao aa ab) v)).elim (fun bV=>?_) (fun bV=>?_)
    ·
     have eP:=dp
     rw [bV] at eP
     refine qal [9,10,11,12,13,14,15,16,17,18,19,20,21] [] [(0,.v (.slice A l.length c)),(1,.v (.int .i64 v)),(2,.v (.bool flex)),(8,.p 0 0),(9,.p 1 0),(11,.v (.int .i64 ((k:Nat):Int))),(12,.p 2 0),(13,.p 3 0),(23,.v (.slice A l.length c)),(24,.v (.int .i64 ((l.length:Nat):Int))),(25,.v (.int .i64 ((k:Nat):Int))),(54,.v (.bool true))] af eP fun kI eQ=>?_
     refine qaf (qab ?_)
     have hp_:Fld.pres (Fld.mk aj ak al am ag ao aa ab) v flex (Tree.at_ (Tree.mk n1 s2 b3 l4 u5) k) = true:=by first | (first | exact qlZ ‹_› ‹_› | exact ql0 ‹_› ‹_› ‹_›) | (exfalso; omega)
     exact ⟨(eQ.pk (env':=[(0,.v (.slice A l.length c)),(1,.v (.int .i64 v)),(2,.v (.bool flex)),(8,.p 0 0),(9,.p 1 0),(11,.v (.int .i64 ((k:Nat):Int))),(12,.p 2 0),(13,.p 3 0),(23,.v (.slice A l.length c)),(24,.v (.int .i64 ((l.length:Nat):Int))),(25,.v (.int .i64 ((k:Nat):Int))),(54,.v (.bool true))])).cast (by rw [hp_]),af,aH⟩
    have eR:=dp
    rw [bV] at eR
    refine qal [9,10,11,12] [13,14,15,16,17,18,19,20,21] [(0,.v (.slice A l.length c)),(1,.v (.int .i64 v)),(2,.v (.bool flex)),(8,.p 0 0),(9,.p 1 0),(11,.v (.int .i64 ((k:Nat):Int))),(12,.p 2 0),(13,.p 3 0),(23,.v (.slice A l.length c)),(24,.v (.int .i64 ((l.length:Nat):Int))),(25,.v (.int .i64 ((k:Nat):Int))),(41,.v (.bool false)),(45,.v (.bool (decide (ag ≥ 0))))] af eR fun kJ dq=>?_
    refine (Bool.eq_false_or_eq_true (decide (ag ≥ 0))).elim (fun aY=>?_) (fun aY=>?_)
    ·
     have jg:=of_decide_eq_true aY
     have eS:=dq
     rw [aY] at eS
     refine qal [13,14,15] [16,17,18,19,20,21] (z32 A l.length c v flex k) af eS fun kK dr=>?_
     refine (Bool.eq_false_or_eq_true (flex)).elim (fun aZ=>?_) (fun aZ=>?_)
     ·
      have eU:=dr.cast (env':=[(0,.v (.slice A l.length c)),(1,.v (.int .i64 v)),(2,.v (.bool true)),(8,.p 0 0),(9,.p 1 0),(11,.v (.int .i64 ((k:Nat):Int))),(12,.p 2 0),(13,.p 3 0),(23,.v (.slice A l.length c)),(24,.v (.int .i64 ((l.length:Nat):Int))),(25,.v (.int .i64 ((k:Nat):Int))),(41,.v (.bool false)),(48,.v (.bool true))]) (by rw [aZ])
      refine qal [16,17] [18,19,20,21] (z40 A l.length c v k aj ak al am ag ao aa ap ab.length ar aM aR aN.length aS aO aT aP.length aU aV aQ.length aW) af eU fun kL eV=>?_
      refine qan (qam eV (f:=78) (vs:=[.agg #[.int .i64 aj,.int .i64 ak,.int .i64 al,.int .i64 am,.int .i64 ag,.int .i64 ao,.int .i64 aa,.slice ap ab.length ar],.agg #[.int .i64 aM,.slice aR aN.length aS,.bool aO,.slice aT aP.length aU,.slice aV aQ.length aW]]) (d:=51) kz Tryz.call78 (qhJ _ _ _ _ _ _ _ (bu.move af.step nilM af.imm) (Nat.le_refl _) (aL.move ((aw.trans ax).trans aH).step immM ((aw.trans ax).trans aH).to')) ?_)
      rintro e_ kM ⟨rfl,dt⟩
      refine ⟨_,rfl,fun kN eW=>?_⟩
      have du:=af.next_nil dt
      have eX:=af.frN dt
      refine qal [19,20,21] [] [(0,.v (.slice A l.length c)),(1,.v (.int .i64 v)),(2,.v (.bool true)),(8,.p 0 0),(9,.p 1 0),(11,.v (.int .i64 ((k:Nat):Int))),(12,.p 2 0),(13,.p 3 0),(23,.v (.slice A l.length c)),(24,.v (.int .i64 ((l.length:Nat):Int))),(25,.v (.int .i64 ((k:Nat):Int))),(54,.v (.bool (!(Fld.usual (Fld.mk aj ak al am ag ao aa ab) (Tree.at_ (Tree.mk n1 s2 b3 l4 u5) k)))))] du eW fun kO eY=>?_
      refine qaf (qab ?_)
      have hp_:Fld.pres (Fld.mk aj ak al am ag ao aa ab) v flex (Tree.at_ (Tree.mk n1 s2 b3 l4 u5) k) = !(Fld.usual (Fld.mk aj ak al am ag ao aa ab) (Tree.at_ (Tree.mk n1 s2 b3 l4 u5) k)):=by first | (first | exact qkO ‹_› ‹_› | exact qkP ‹_›) | (exfalso; omega)
      exact ⟨(eY.pk (env':=[(0,.v (.slice A l.length c)),(1,.v (.int .i64 v)),(2,.v (.bool true)),(8,.p 0 0),(9,.p 1 0),(11,.v (.int .i64 ((k:Nat):Int))),(12,.p 2 0),(13,.p 3 0),(23,.v (.slice A l.length c)),(24,.v (.int .i64 ((l.length:Nat):Int))),(25,.v (.int .i64 ((k:Nat):Int))),(54,.v (.bool (!(Fld.usual (Fld.mk aj ak al am ag ao aa ab) (Tree.at_ (Tree.mk n1 s2 b3 l4 u5) k)))))])).cast (by rw [hp_,aZ]),du,(aH.trans eX)⟩
     have eZ:=dr.cast (env':=[(0,.v (.slice A l.length c)),(1,.v (.int .i64 v)),(2,.v (.bool false)),(8,.p 0 0),(9,.p 1 0),(11,.v (.int .i64 ((k:Nat):Int))),(12,.p 2 0),(13,.p 3 0),(23,.v (.slice A l.length c)),(24,.v (.int .i64 ((l.length:Nat):Int))),(25,.v (.int .i64 ((k:Nat):Int))),(41,.v (.bool false)),(48,.v (.bool false))]) (by rw [aZ])
     refine qal [16,17,18,19,20,21] [] (z34 A l.length c v k) af eZ fun kP e9=>?_
     refine qaf (qab ?_)
     have hp_:Fld.pres (Fld.mk aj ak al am ag ao aa ab) v flex (Tree.at_ (Tree.mk n1 s2 b3 l4 u5) k) = false:=by first | (first | exact qhS ‹_› ‹_› | exact qhT ‹_› ‹_› | exact qhU ‹_› ‹_›) | (exfalso; omega)
     exact ⟨(e9.pk (env':=[(0,.v (.slice A l.length c)),(1,.v (.int .i64 v)),(2,.v (.bool false)),(8,.p 0 0),(9,.p 1 0),(11,.v (.int .i64 ((k:Nat):Int))),(12,.p 2 0),(13,.p 3 0),(23,.v (.slice A l.length c)),(24,.v (.int .i64 ((l.length:Nat):Int))),(25,.v (.int .i64 ((k:Nat):Int))),(54,.v (.bool false))])).cast (by rw [hp_,aZ]),af,aH⟩
    have jh:=of_decide_eq_false aY
    have fb:=dq
    rw [aY] at fb
    refine qal [13,14,15,16,17,18,19,20,21] [] (z36 A l.length c v flex k) af fb fun kQ fe=>?_
    refine qaf (qab ?_)
    have hp_:Fld.pres (Fld.mk aj ak al am ag ao aa ab) v flex (Tree.at_ (Tree.mk n1 s2 b3 l4 u5) k) = false:=by first | (first | exact qhS ‹_› ‹_› | exact qhT ‹_› ‹_› | exact qhU ‹_› ‹_›) | (exfalso; omega)
    exact ⟨(fe.pk (env':=[(0,.v (.slice A l.length c)),(1,.v (.int .i64 v)),(2,.v (.bool flex)),(8,.p 0 0),(9,.p 1 0),(11,.v (.int .i64 ((k:Nat):Int))),(12,.p 2 0),(13,.p 3 0),(23,.v (.slice A l.length c)),(24,.v (.int .i64 ((l.length:Nat):Int))),(25,.v (.int .i64 ((k:Nat):Int))),(54,.v (.bool false))])).cast (by rw [hp_]),af,aH⟩
   have ji:=of_decide_eq_false aX
   have ff:=dj
   rw [aX] at ff
   refine qal [4,5,6,7,8,9,10,11,12] [13,14,15,16,17,18,19,20,21] [(0,.v (.slice A l.length c)),(1,.v (.int .i64 v)),(2,.v (.bool flex)),(8,.p 0 0),(9,.p 1 0),(11,.v (.int .i64 ((k:Nat):Int))),(12,.p 2 0),(13,.p 3 0),(23,.v (.slice A l.length c)),(24,.v (.int .i64 ((l.length:Nat):Int))),(25,.v (.int .i64 ((k:Nat):Int))),(41,.v (.bool false)),(45,.v (.bool (decide (ag ≥ 0))))] ac ff fun kR dv=>?_
   refine (Bool.eq_false_or_eq_true (decide (ag ≥ 0))).elim (fun ba=>?_) (fun ba=>?_)
   ·
    have jj:=of_decide_eq_true ba
    have fg:=dv
    rw [ba] at fg
    refine qal [13,14,15] [16,17,18,19,20,21] (z32 A l.length c v flex k) ac fg fun kS dw=>?_
    refine (Bool.eq_false_or_eq_true (flex)).elim (fun bd=>?_) (fun bd=>?_)
    ·
     have fh:=dw.cast (env':=[(0,.v (.slice A l.length c)),(1,.v (.int .i64 v)),(2,.v (.bool true)),(8,.p 0 0),(9,.p 1 0),(11,.v (.int .i64 ((k:Nat):Int))),(12,.p 2 0),(13,.p 3 0),(23,.v (.slice A l.length c)),(24,.v (.int .i64 ((l.length:Nat):Int))),(25,.v (.int .i64 ((k:Nat):Int))),(41,.v (.bool false)),(48,.v (.bool true))]) (by rw [bd])
     refine qal [16,17] [18,19,20,21] (z40 A l.length c v k aj ak al am ag ao aa ap ab.length ar aM aR aN.length aS aO aT aP.length aU aV aQ.length aW) ac fh fun kT fi=>?_
     refine qan (qam fi (f:=78) (vs:=[.agg #[.int .i64 aj,.int .i64 ak,.int .i64 al,.int .i64 am,.int .i64 ag,.int .i64 ao,.int .i64 aa,.slice ap ab.length ar],.agg #[.int .i64 aM,.slice aR aN.length aS,.bool aO,.slice aT aP.length aU,.slice aV aQ.length aW]]) (d:=51) kz Tryz.call78 (qhJ _ _ _ _ _ _ _ (bu.move ac.step nilM ac.imm) (Nat.le_refl _) (aL.move (aw.trans ax).step immM (aw.trans ax).to')) ?_)
     rintro e_ kU ⟨rfl,dx⟩
     refine ⟨_,rfl,fun kV fj=>?_⟩
     have dy:=ac.next_nil dx
     have fk:=ac.frN dx
     refine qal [19,20,21] [] [(0,.v (.slice A l.length c)),(1,.v (.int .i64 v)),(2,.v (.bool true)),(8,.p 0 0),(9,.p 1 0),(11,.v (.int .i64 ((k:Nat):Int))),(12,.p 2 0),(13,.p 3 0),(23,.v (.slice A l.length c)),(24,.v (.int .i64 ((l.length:Nat):Int))),(25,.v (.int .i64 ((k:Nat):Int))),(54,.v (.bool (!(Fld.usual (Fld.mk aj ak al am ag ao aa ab) (Tree.at_ (Tree.mk n1 s2 b3 l4 u5) k)))))] dy fj fun kW fm=>?_
     refine qaf (qab ?_)
     have hp_:Fld.pres (Fld.mk aj ak al am ag ao aa ab) v flex (Tree.at_ (Tree.mk n1 s2 b3 l4 u5) k) = !(Fld.usual (Fld.mk aj ak al am ag ao aa ab) (Tree.at_ (Tree.mk n1 s2 b3 l4 u5) k)):=by first | (first | exact qkO ‹_› ‹_› | exact qkP ‹_›) | (exfalso; omega)
     exact ⟨(fm.pk (env':=[(0,.v (.slice A l.length c)),(1,.v (.int .i64 v)),(2,.v (.bool true)),(8,.p 0 0),(9,.p 1 0),(11,.v (.int .i64 ((k:Nat):Int))),(12,.p 2 0),(13,.p 3 0),(23,.v (.slice A l.length c)),(24,.v (.int .i64 ((l.length:Nat):Int))),(25,.v (.int .i64 ((k:Nat):Int))),(54,.v (.bool (!(Fld.usual (Fld.mk aj ak al am ag ao aa ab) (Tree.at_ (Tree.mk n1 s2 b3 l4 u5) k)))))])).cast (by rw [hp_,bd]),dy,fk⟩
    have fo:=dw.cast (env':=[(0,.v (.slice A l.length c)),(1,.v (.int .i64 v)),(2,.v (.bool false)),(8,.p 0 0),(9,.p 1 0),(11,.v (.int .i64 ((k:Nat):Int))),(12,.p 2 0),(13,.p 3 0),(23,.v (.slice A l.length c)),(24,.v (.int .i64 ((l.length:Nat):Int))),(25,.v (.int .i64 ((k:Nat):Int))),(41,.v (.bool false)),(48,.v (.bool false))]) (by rw [bd])
    refine qal [16,17,18,19,20,21] [] (z34 A l.length c v k) ac fo fun kX fq=>?_
    refine qaf (qab ?_)
    have hp_:Fld.pres (Fld.mk aj ak al am ag ao aa ab) v flex (Tree.at_ (Tree.mk n1 s2 b3 l4 u5) k) = false:=by first | (first | exact qhS ‹_› ‹_› | exact qhT ‹_› ‹_› | exact qhU ‹_› ‹_›) | (exfalso; omega)
    exact ⟨(fq.pk (env':=[(0,.v (.slice A l.length c)),(1,.v (.int .i64 v)),(2,.v (.bool false)),(8,.p 0 0),(9,.p 1 0),(11,.v (.int .i64 ((k:Nat):Int))),(12,.p 2 0),(13,.p 3 0),(23,.v (.slice A l.length c)),(24,.v (.int .i64 ((l.length:Nat):Int))),(25,.v (.int .i64 ((k:Nat):Int))),(54,.v (.bool false))])).cast (by rw [hp_,bd]),ac,Fr.refl _ _ _⟩
   have jk:=of_decide_eq_false ba
   have fr:=dv
   rw [ba] at fr
   refine qal [13,14,15,16,17,18,19,20,21] [] (z36 A l.length c v flex k) ac fr fun kY ft=>?_
   refine qaf (qab ?_)
   have hp_:Fld.pres (Fld.mk aj ak al am ag ao aa ab) v flex (Tree.at_ (Tree.mk n1 s2 b3 l4 u5) k) = false:=by first | (first | exact qhS ‹_› ‹_› | exact qhT ‹_› ‹_› | exact qhU ‹_› ‹_›) | (exfalso; omega)
   exact ⟨(ft.pk (env':=[(0,.v (.slice A l.length c)),(1,.v (.int .i64 v)),(2,.v (.bool flex)),(8,.p 0 0),(9,.p 1 0),(11,.v (.int .i64 ((k:Nat):Int))),(12,.p 2 0),(13,.p 3 0),(23,.v (.slice A l.length c)),(24,.v (.int .i64 ((l.length:Nat):Int))),(25,.v (.int .i64 ((k:Nat):Int))),(54,.v (.bool false))])).cast (by rw [hp_]),ac,Fr.refl _ _ _⟩
  rintro kZ k5 ⟨bW,dz,bf⟩
  refine qay bW (b:=Fld.pres (Fld.mk aj ak al am ag ao aa ab) v flex (Tree.at_ (Tree.mk n1 s2 b3 l4 u5) k)) kz (fun fv=>?_) (fun fv=>?_)
  ·
   refine wp_seq (qaK 11 kz dz fun k6 bX aC bY=>?_)
   refine qaJ [0,1,2,3,4,5,6] [(0,.v (.slice A l.length c)),(1,.v (.int .i64 v)),(2,.v (.bool flex)),(8,.p 0 0),(9,.p 1 0),(23,.v (.slice A l.length c)),(24,.v (.int .i64 ((l.length:Nat):Int))),(25,.v (.int .i64 ((k:Nat):Int))),(55,.v (.agg #[.int .i64 aj,.int .i64 ak,.int .i64 al,.int .i64 am,.int .i64 ag,.int .i64 ao,.int .i64 aa,.slice ap ab.length ar])),(56,.v (.int .i64 v)),(57,.v (.bool flex)),(58,.v (.agg #[.int .i64 aM,.slice aR aN.length aS,.bool aO,.slice aT aP.length aU,.slice aV aQ.length aW])),(60,.v (.slice bG aF.length bN)),(61,.v (.int .i64 ((k:Nat):Int)))] 4 (qaa (qaa (qaa (qac (qaa (qaa (qac (qaa qag)))))))) (fun _ h=>h.cells) bY bW fun k7 fw=>?_
   obtain ⟨iy,iz,fx,jl,bZ⟩:=Slots.get hZ (i:=k) (by first | omega | (have h_:=qcs hgu ‹_›; omega))
   obtain ⟨iA,dA⟩:∃ x,aF[k]? = some x:=⟨_,List.getElem?_eq_getElem (by omega)⟩
   have b8:=iU k iA dA
   obtain ⟨cT,cU,cV,cW,cX,ei,ej,ek,em,eo,ep,jm,rfl,cd,iB,iC,k8,k9⟩:=b8.open_
   rw [cd] at b8
   have iD:=iB.small
   have iE:=iC.small
   rw [cd] at bZ
   refine qaQ fw (i:=7) (t:=23) (A:=bG) (m:=aF.length) (q:=((k:Nat):Int)) (d:=62) kz (e:=26) (size:=5) (bytes:=88) kz fx rfl (by first | omega | (have h_:=qcs hgu ‹_›; omega)) kz kz (qaa (qaa (qaa (qac (qaa (qaa (qac (qaa qag)))))))) bY fun la fy=>?_
   refine qa9 fy (i:=8) (t:=26) (b:=iy) (o:=iz + k * 5) (d:=63) kz (cs:=(z3 cT ei cU.length ej cV ek cW.length em eo cX.length ep)) (v:=.agg #[.int .i64 cT,.slice ei cU.length ej,.bool cV,.slice ek cW.length em,.slice eo cX.length ep]) kz (fun w' h'=>(AtF.move bZ (TT.step0 aC h') nilM qba).at_) kz kz (qaa (qaa (qaa (qac (qaa (qaa (qac (qaa qag)))))))) bY fun lb fz=>?_
   refine qaw (i:=9) kz (qam fz (f:=79) (vs:=[.agg #[.int .i64 aj,.int .i64 ak,.int .i64 al,.int .i64 am,.int .i64 ag,.int .i64 ao,.int .i64 aa,.slice ap ab.length ar],.int .i64 v,.bool flex,.agg #[.int .i64 aM,.slice aR aN.length aS,.bool aO,.slice aT aP.length aU,.slice aV aQ.length aW],.agg #[.int .i64 cT,.slice ei cU.length ej,.bool cV,.slice ek cW.length em,.slice eo cX.length ep]]) (d:=64) kz Tryz.call79 ( ql1 hT _ _ _ (Tree.at_ (Tree.mk n1 s2 b3 l4 u5) k) _ (Tree.mk cT cU cV cW cX) _ _ (bu.move aC.step nilM aC.imm) (qfJ hpl (List.mem_of_getElem? bP)) (aL.move (((aw.trans ax).trans bf).trans bX).step immM (((aw.trans ax).trans bf).trans bX).to') (b8.move aC.step nilM aC.imm) ((hP.2.1 k _ _ bP dA).1 ‹_›)) ?_)
   rintro e_ lc ⟨rfl,dB⟩
   refine ⟨_,rfl,fun ld fA=>?_⟩
   have ce:=aC.next_nil dB
   have dC:=aC.frN dB
   have dD:=TT.ofW dC ce
   refine ⟨fun _=>dD,?_⟩
   refine qaJ [10] [(0,.v (.slice A l.length c)),(1,.v (.int .i64 v)),(2,.v (.bool flex)),(8,.p 0 0),(9,.p 1 0),(23,.v (.slice A l.length c)),(24,.v (.int .i64 ((l.length:Nat):Int))),(25,.v (.int .i64 ((k:Nat):Int))),(65,.v (.bool false))] 0 (qaa (qaa (qaa (qac (qaa (qaa (qac (qaa qag)))))))) (fun _ h=>h.cells) dD fA fun lf dE=>?_
   refine qaG kz ?_ _
   refine qab (qar dE (b:=false) kz rfl ?_)
   refine wp_skip (qab (wp_exit (qaC (qaS (qab (qas [0,1] kz ?_))))))
   refine qal [0,1] [] [(0,.v (.slice A l.length c)),(1,.v (.int .i64 v)),(2,.v (.bool flex)),(8,.p 0 0),(9,.p 1 0),(23,.v (.slice A l.length c)),(24,.v (.int .i64 ((l.length:Nat):Int))),(25,.v (.int .i64 (IntKind.i64.wrap (((k:Nat):Int) + 1))))] ce dE fun lg fB=>?_
   refine qaf (qab ?_)
   obtain ⟨dF,fC,fD⟩:=ce.cutB fB 2 [⟨df,0,(z3 n1 A6 s2.length c7 b3 A8 l4.length c9 bE u5.length bF),true⟩,⟨dg,0,(z3 cO cR cP.length cS cQ bG aF.length bN bH aB.length bO),true⟩] [(0,.v (.slice A l.length c)),(1,.v (.int .i64 v)),(2,.v (.bool flex)),(8,.p 0 0),(9,.p 1 0),(23,.v (.slice A l.length c)),(24,.v (.int .i64 ((l.length:Nat):Int))),(25,.v (.int .i64 (IntKind.i64.wrap (((k:Nat):Int) + 1))))]
   have fE:IntKind.i64.wrap (((k:Nat):Int) + 1) = ((k + 1:Nat):Int):=qaT (by omega)
   rw [fE] at dF
   exact ⟨l.length - (k + 1),by omega,k + 1,rfl,by omega,dF.pk,fC,(((((((((ef.trans bR).trans bS).trans bU).trans aw).trans ax).trans bf).trans bX).trans dC).trans fD)⟩
  refine wp_skip (qab (qaK 11 kz dz fun lh dG cm cq=>?_))
  refine qaJ [0,2,3,4] [(0,.v (.slice A l.length c)),(1,.v (.int .i64 v)),(2,.v (.bool flex)),(8,.p 0 0),(9,.p 1 0),(23,.v (.slice A l.length c)),(24,.v (.int .i64 ((l.length:Nat):Int))),(25,.v (.int .i64 ((k:Nat):Int))),(66,.v (.agg #[.int .i64 aj,.int .i64 ak,.int .i64 al,.int .i64 am,.int .i64 ag,.int .i64 ao,.int .i64 aa,.slice ap ab.length ar])),(69,.v (.slice bG aF.length bN)),(70,.v (.int .i64 ((k:Nat):Int)))] 7 (qaa (qac (qaa (qaa (qac (qaa qag)))))) (fun _ h=>h.cells) cq bW fun li fF=>?_
  obtain ⟨iF,iG,fG,jn,cr⟩:=Slots.get hZ (i:=k) (by first | omega | (have h_:=qcs hgu ‹_›; omega))
  obtain ⟨iH,cu⟩:∃ x,aF[k]? = some x:=⟨_,List.getElem?_eq_getElem (by omega)⟩
  have bA:=iU k iH cu
  obtain ⟨bI,bJ,bK,bL,bM,cY,cZ,c5,c6,da,db,jo,rfl,cw,iI,iJ,lj,lm⟩:=bA.open_
  rw [cw] at bA
  have iK:=iI.small
  have iL:=iJ.small
  rw [cw] at cr
  refine qaQ fF (i:=5) (t:=23) (A:=bG) (m:=aF.length) (q:=((k:Nat):Int)) (d:=71) kz (e:=26) (size:=5) (bytes:=88) kz fG rfl (by first | omega | (have h_:=qcs hgu ‹_›; omega)) kz kz (qaa (qac (qaa (qaa (qac (qaa qag)))))) cq fun ln fH=>?_
  refine qa9 fH (i:=6) (t:=26) (b:=iF) (o:=iG + k * 5) (d:=72) kz (cs:=(z3 bI cY bJ.length cZ bK c5 bL.length c6 da bM.length db)) (v:=.agg #[.int .i64 bI,.slice cY bJ.length cZ,.bool bK,.slice c5 bL.length c6,.slice da bM.length db]) kz (fun w' h'=>(AtF.move cr (TT.step0 cm h') nilM qba).at_) kz kz (qaa (qac (qaa (qaa (qac (qaa qag)))))) cq fun lp dH=>?_
  refine qe7 (i:=1) (j:=7) kz ?_ ?_
  ·
   refine (qbz cm dH (e:=52) (size:=8) (len:=1) (cs:=(z5 aj ak al am ag ao aa ap ab.length ar)) (d:=67) kz kz fun fI lq lr jp jq bB dI fJ=>?_)
   have fK:=TT.ofW bB dI
   refine ⟨fun _=>fK,?_⟩
   refine qaw (i:=7) kz (qbz dI fJ (e:=26) (size:=5) (len:=1) (cs:=(z3 bI cY bJ.length cZ bK c5 bL.length c6 da bM.length db)) (d:=73) kz kz fun fL ls lu jr js cz ay fM=>?_)
   have dJ:=TT.ofW (bB.trans cz) ay
   refine ⟨fun _=>dJ,?_⟩
   refine qaJ [8] [(0,.v (.slice A l.length c)),(1,.v (.int .i64 v)),(2,.v (.bool flex)),(8,.p 0 0),(9,.p 1 0),(23,.v (.slice A l.length c)),(24,.v (.int .i64 ((l.length:Nat):Int))),(25,.v (.int .i64 ((k:Nat):Int))),(67,.v (.slice (some ⟨fI,0,none⟩) 1 1)),(74,.v (.agg #[.int .i64 0,.slice none 0 0,.bool false,.slice (some ⟨fL,0,none⟩) 1 1,.slice none 0 0]))] 2 (qaa (qac (qaa (qaa (qac (qaa qag)))))) (fun _ h=>h.cells) dJ fM fun lv fN=>?_
   refine qaw (i:=9) kz (qam fN (f:=80) (vs:=[.slice (some ⟨fI,0,none⟩) 1 1,.agg #[.int .i64 0,.slice none 0 0,.bool false,.slice (some ⟨fL,0,none⟩) 1 1,.slice none 0 0]]) (d:=75) kz Tryz.call80 ( sUs hU _ _ [(Fld.mk aj ak al am ag ao aa ab)] _ (.mk 0 [] false [(Tree.mk bI bJ bK bL bM)] []) _ _ (qhV (ay.own 0 _ rfl) ((bu.move ay.step nilM ay.imm)) (Nat.le_refl _)) (qhW (ay.own 1 _ rfl) ((bA.move ay.step nilM ay.imm)) (Nat.le_refl _)) (qkM ((hP.2.1 k _ _ bP cu).2 ‹_›))) ?_)
   rintro e_ lw ⟨rfl,dK⟩
   refine ⟨_,rfl,fun lx fO=>?_⟩
   have cA:=ay.next_nil dK
   have dL:=ay.frN dK
   have dM:=TT.ofW ((bB.trans cz).trans dL) cA
   refine ⟨fun _=>dM,?_⟩
   refine qaJ [10] (z47 A l.length c v flex k) 0 (qaa (qac (qaa (qaa (qac (qaa qag)))))) (fun _ h=>h.cells) dM fO fun ly dN=>?_
   refine qaG kz ?_ _
   refine qab (qar dN (b:=false) kz rfl ?_)
   refine wp_skip (qau (qab (qas [0,1] kz ?_)))
   refine qal [0,1] [] [(0,.v (.slice A l.length c)),(1,.v (.int .i64 v)),(2,.v (.bool flex)),(8,.p 0 0),(9,.p 1 0),(23,.v (.slice A l.length c)),(24,.v (.int .i64 ((l.length:Nat):Int))),(25,.v (.int .i64 (IntKind.i64.wrap (((k:Nat):Int) + 1))))] cA dN fun lz fP=>?_
   refine qaf (qab ?_)
   obtain ⟨dO,fQ,fR⟩:=cA.cutB fP 2 [⟨df,0,(z3 n1 A6 s2.length c7 b3 A8 l4.length c9 bE u5.length bF),true⟩,⟨dg,0,(z3 cO cR cP.length cS cQ bG aF.length bN bH aB.length bO),true⟩] [(0,.v (.slice A l.length c)),(1,.v (.int .i64 v)),(2,.v (.bool flex)),(8,.p 0 0),(9,.p 1 0),(23,.v (.slice A l.length c)),(24,.v (.int .i64 ((l.length:Nat):Int))),(25,.v (.int .i64 (IntKind.i64.wrap (((k:Nat):Int) + 1))))]
   obtain ⟨fS,fT⟩:=fQ.cutR 0 []
   have fU:IntKind.i64.wrap (((k:Nat):Int) + 1) = ((k + 1:Nat):Int):=qaT (by omega)
   rw [fU] at dO
   exact ⟨l.length - (k + 1),by omega,k + 1,rfl,by omega,dO.pk,fS,((((((((((((ef.trans bR).trans bS).trans bU).trans aw).trans ax).trans bf).trans dG).trans bB).trans cz).trans dL).trans fR).trans fT)⟩
  refine (qbz cm dH (e:=26) (size:=5) (len:=1) (cs:=(z3 bI cY bJ.length cZ bK c5 bL.length c6 da bM.length db)) (d:=73) kz kz fun fV lA lB jt ju bC dP fW=>?_)
  have dQ:=TT.ofW bC dP
  refine ⟨fun _=>dQ,?_⟩
  refine qaJ [8] [(0,.v (.slice A l.length c)),(1,.v (.int .i64 v)),(2,.v (.bool flex)),(8,.p 0 0),(9,.p 1 0),(23,.v (.slice A l.length c)),(24,.v (.int .i64 ((l.length:Nat):Int))),(25,.v (.int .i64 ((k:Nat):Int))),(66,.v (.agg #[.int .i64 aj,.int .i64 ak,.int .i64 al,.int .i64 am,.int .i64 ag,.int .i64 ao,.int .i64 aa,.slice ap ab.length ar])),(74,.v (.agg #[.int .i64 0,.slice none 0 0,.bool false,.slice (some ⟨fV,0,none⟩) 1 1,.slice none 0 0]))] 3 (qaa (qac (qaa (qaa (qac (qaa qag)))))) (fun _ h=>h.cells) dQ fW fun lC fX=>?_
  refine qaw (i:=1) kz (qbz dP fX (e:=52) (size:=8) (len:=1) (cs:=(z5 aj ak al am ag ao aa ap ab.length ar)) (d:=67) kz kz fun iM lD lE jv jw cB az fY=>?_)
  have fZ:=TT.ofW (bC.trans cB) az
  refine ⟨fun _=>fZ,?_⟩
  refine qaw (i:=9) kz (qam fY (f:=80) (vs:=[.slice (some ⟨iM,0,none⟩) 1 1,.agg #[.int .i64 0,.slice none 0 0,.bool false,.slice (some ⟨fV,0,none⟩) 1 1,.slice none 0 0]]) (d:=75) kz Tryz.call80 ( sUs hU _ _ [(Fld.mk aj ak al am ag ao aa ab)] _ (.mk 0 [] false [(Tree.mk bI bJ bK bL bM)] []) _ _ (qhV (az.own 1 _ rfl) ((bu.move az.step nilM az.imm)) (Nat.le_refl _)) (qhW (az.own 0 _ rfl) ((bA.move az.step nilM az.imm)) (Nat.le_refl _)) (qkM ((hP.2.1 k _ _ bP cu).2 ‹_›))) ?_)
  rintro e_ lF ⟨rfl,dR⟩
  refine ⟨_,rfl,fun lG f5=>?_⟩
  have cC:=az.next_nil dR
  have dS:=az.frN dR
  have dT:=TT.ofW ((bC.trans cB).trans dS) cC
  refine ⟨fun _=>dT,?_⟩
  refine qaJ [10] (z47 A l.length c v flex k) 0 (qaa (qac (qaa (qaa (qac (qaa qag)))))) (fun _ h=>h.cells) dT f5 fun lH dU=>?_
  refine qaG kz ?_ _
  refine qab (qar dU (b:=false) kz rfl ?_)
  refine wp_skip (qau (qab (qas [0,1] kz ?_)))
  refine qal [0,1] [] [(0,.v (.slice A l.length c)),(1,.v (.int .i64 v)),(2,.v (.bool flex)),(8,.p 0 0),(9,.p 1 0),(23,.v (.slice A l.length c)),(24,.v (.int .i64 ((l.length:Nat):Int))),(25,.v (.int .i64 (IntKind.i64.wrap (((k:Nat):Int) + 1))))] cC dU fun lI f7=>?_
  refine qaf (qab ?_)
  obtain ⟨dV,f8,ga⟩:=cC.cutB f7 2 [⟨df,0,(z3 n1 A6 s2.length c7 b3 A8 l4.length c9 bE u5.length bF),true⟩,⟨dg,0,(z3 cO cR cP.length cS cQ bG aF.length bN bH aB.length bO),true⟩] [(0,.v (.slice A l.length c)),(1,.v (.int .i64 v)),(2,.v (.bool flex)),(8,.p 0 0),(9,.p 1 0),(23,.v (.slice A l.length c)),(24,.v (.int .i64 ((l.length:Nat):Int))),(25,.v (.int .i64 (IntKind.i64.wrap (((k:Nat):Int) + 1))))]
  obtain ⟨gb,gc⟩:=f8.cutR 0 []
  have gd:IntKind.i64.wrap (((k:Nat):Int) + 1) = ((k + 1:Nat):Int):=qaT (by omega)
  rw [gd] at dV
  exact ⟨l.length - (k + 1),by omega,k + 1,rfl,by omega,dV.pk,gb,((((((((((((ef.trans bR).trans bS).trans bU).trans aw).trans ax).trans bf).trans dG).trans bC).trans cB).trans dS).trans ga).trans gc)⟩
 have jx:=of_decide_eq_false eh
 refine wp_exit (qaC (qaC (qaS (qab (qae [0,1,2,3,4] kz ?_)))))
 refine qal [0,1,2] [3,4] [(2,.v (.bool flex)),(9,.p 1 0),(78,.v (.slice A l.length c)),(80,.v (.slice bE u5.length bF))] av eg fun lJ ge=>?_
 refine qan (qam ge (f:=81) (vs:=[.slice A l.length c,.slice bE u5.length bF]) (d:=81) kz Tryz.call81 (qf7 _ _ l _ _ u5 _ _ ⟨xfs,(h1.move av.step nilM av.imm),(fun i_ x_ h_=>((h2 i_ x_ h_).move av.step nilM av.imm))⟩ (jU.move av.step nilM av.imm)) ?_)
 rintro e_ lK ⟨ah,ai,rfl,gg,cD⟩
 have gh:=gg.move (Step.refl _ Nil) nilM (av.laid (G:=F) cD)
 refine ⟨_,rfl,fun lL gi=>?_⟩
 have ae:=av.next_nil cD
 have jy:=av.frN cD
 refine qal [4] [] [(2,.v (.bool flex)),(9,.p 1 0),(14,.v (.slice ah ((qai l u5).length) ai))] ae gi fun lM gj=>?_
 refine qaf (qab ?_)
 refine wp_seq (qap [(9,.p 1 0),(14,.v (.slice ah ((qai l u5).length) ai)),(83,.v (.bool (!flex)))] ae gj fun lN cE=>?_)
 refine qay cE (b:=!flex) kz (fun gk=>?_) (fun gk=>?_)
 ·
  refine qas [0] kz ?_
  refine qal [0] [] [(9,.p 1 0),(14,.v (.slice none 0 0))] ae cE fun lO gl=>?_
  refine qaf (qab ?_)
  refine wp_seq (qap [(9,.p 1 0),(14,.v (.slice none 0 0)),(89,.v (.bool (((aB.length:Nat):Int) != 0)))] ae gl fun lP cG=>?_)
  refine qay cG (b:=((aB.length:Nat):Int) != 0) kz (fun cH=>?_) (fun cH=>?_)
  ·
   have jz:((aB.length:Nat):Int) ≠ 0:=by simpa using cH
   refine qap [(10,.v (.bool false))] ae cG fun lQ gm=>?_
   refine wp_ret (qaq (qaL gm ae.cells (v:=.bool false) kz ?_))
   first
    | (exfalso; omega)
    | exact (qeD hgu ‹_› ‹_›).elim
    | exact (qdI hgu ‹_› ‹_›).elim
    | exact (qeE hgu ‹_› ‹_› ‹_› ‹_›).elim
    | exact (qeF hgu ‹_› ‹_› ‹_› ‹_›).elim
    | (exfalso; simp_all; done)
  have jA:((aB.length:Nat):Int) = 0:=by simpa using cH
  refine wp_skip (qab (wp_seq (qap [(9,.p 1 0),(90,.v (.slice none 0 0)),(91,.v (.int .i64 0)),(92,.v (.int .i64 0))] ae cG fun lR gn=>?_)))
  refine wp_block (wp_loop_ghost (fun n_ a_ w_=>∃ (k:Nat),n_ = 0 - k ∧ k ≤ 0 ∧ LInv ae 120 [⟨df,0,[.int .i64 n1,.slice A6 s2.length c7,.bool b3,.slice A8 l4.length c9,.slice bE u5.length bF],true⟩,⟨dg,0,[.int .i64 cO,.slice cR cP.length cS,.bool cQ,.slice bG aF.length bN,.slice bH aB.length bO],true⟩] [] [(9,.p 1 0),(90,.v (.slice none 0 0)),(91,.v (.int .i64 0)),(92,.v (.int .i64 ((k:Nat):Int)))] a_ w_) (0) ⟨0,by omega,by omega,gn.pk,ae,Fr.refl _ _ _⟩ ?_)
  rintro lS lT lU ⟨k,jB,jC,gp,bD,jD⟩
  refine qap [(9,.p 1 0),(90,.v (.slice none 0 0)),(91,.v (.int .i64 0)),(92,.v (.int .i64 ((k:Nat):Int))),(93,.v (.bool (decide (((k:Nat):Int) < 0))))] bD gp fun lV dW=>?_
  refine wp_seq (qar dW (b:=decide (((k:Nat):Int) < 0)) kz (decide_eq_false (by omega)) ?_)
  refine wp_exit (qaC (qaC (qaS (qab (qap [(10,.v (.bool true))] bD dW fun lW gq=>?_)))))
  refine wp_ret (qaL gq bD.cells (v:=.bool true) kz ?_)
  exact ⟨rfl,bD.step⟩
 refine wp_skip (qab (wp_seq (qap [(9,.p 1 0),(14,.v (.slice ah ((qai l u5).length) ai)),(89,.v (.bool (((aB.length:Nat):Int) != (((qai l u5).length:Nat):Int))))] ae cE fun lX cI=>?_)))
 refine qay cI (b:=((aB.length:Nat):Int) != (((qai l u5).length:Nat):Int)) kz (fun cJ=>?_) (fun cJ=>?_)
 ·
  have jE:((aB.length:Nat):Int) ≠ (((qai l u5).length:Nat):Int):=by simpa using cJ
  refine qap [(10,.v (.bool false))] ae cI fun lY gt=>?_
  refine wp_ret (qaq (qaL gt ae.cells (v:=.bool false) kz ?_))
  first
   | (exfalso; omega)
   | exact (qeD hgu ‹_› ‹_›).elim
   | exact (qdI hgu ‹_› ‹_›).elim
   | exact (qeE hgu ‹_› ‹_› ‹_› ‹_›).elim
   | exact (qeF hgu ‹_› ‹_› ‹_› ‹_›).elim
   | (exfalso; simp_all; done)
 have jF:((aB.length:Nat):Int) = (((qai l u5).length:Nat):Int):=by simpa using cJ
 refine wp_skip (qab (wp_seq (qap [(9,.p 1 0),(90,.v (.slice ah ((qai l u5).length) ai)),(91,.v (.int .i64 (((qai l u5).length:Nat):Int))),(92,.v (.int .i64 0))] ae cI fun lZ gv=>?_)))
 refine wp_block ?_
 obtain ⟨jG,gw,iN⟩:=gh.ex
 have iO:=gw.small
 refine wp_loop_ghost (fun n_ a_ w_=>∃ (k:Nat),n_ = (qai l u5).length - k ∧ k ≤ (qai l u5).length ∧ LInv ae 120 [⟨df,0,[.int .i64 n1,.slice A6 s2.length c7,.bool b3,.slice A8 l4.length c9,.slice bE u5.length bF],true⟩,⟨dg,0,[.int .i64 cO,.slice cR cP.length cS,.bool cQ,.slice bG aF.length bN,.slice bH aB.length bO],true⟩] [] [(9,.p 1 0),(90,.v (.slice ah ((qai l u5).length) ai)),(91,.v (.int .i64 (((qai l u5).length:Nat):Int))),(92,.v (.int .i64 ((k:Nat):Int)))] a_ w_) ((qai l u5).length) ⟨0,by omega,by omega,gv.pk,ae,Fr.refl _ _ _⟩ ?_
 rintro l0 l3 l5 ⟨k,jH,jI,gx,aI,aD⟩
 refine qap [(9,.p 1 0),(90,.v (.slice ah ((qai l u5).length) ai)),(91,.v (.int .i64 (((qai l u5).length:Nat):Int))),(92,.v (.int .i64 ((k:Nat):Int))),(93,.v (.bool (decide (((k:Nat):Int) < (((qai l u5).length:Nat):Int)))))] aI gx fun l6 cK=>?_
 refine wp_seq (qay cK (b:=decide (((k:Nat):Int) < (((qai l u5).length:Nat):Int))) kz (fun cL=>?_) (fun cL=>?_))
 ·
  have jJ:=of_decide_eq_true cL
  refine wp_skip (qab (wp_seq (wp_block (qae [0,1,2,3,4,5] kz ?_))))
  refine qal [0] [1,2,3,4,5] [(9,.p 1 0),(90,.v (.slice ah ((qai l u5).length) ai)),(91,.v (.int .i64 (((qai l u5).length:Nat):Int))),(92,.v (.int .i64 ((k:Nat):Int))),(94,.v (.int .i64 ((k:Nat):Int)))] aI cK fun l7 gy=>?_
  obtain ⟨iP,iQ,gz,jK,cM⟩:=Slots.get gw (i:=k) (by first | omega | (have h_:=qcs hgu ‹_›; omega))
  obtain ⟨⟨aE,aA⟩,gA⟩:∃ x,(qai l u5)[k]? = some x:=⟨_,List.getElem?_eq_getElem (by omega)⟩
  obtain ⟨⟨bg,bh,eu,dX⟩,l9,ma⟩:=iN k aE aA gA
  rw [eu] at cM
  refine qan (qaD gy (t:=24) (A:=ah) (m:=((qai l u5).length)) (q:=((k:Nat):Int)) (d:=95) kz (e:=65) (size:=2) (bytes:=32) kz gz rfl (by first | omega | (have h_:=qcs hgu ‹_›; omega)) fun mc gB=>?_)
  refine qan (qaR gB (t:=65) (b:=iP) (o:=iQ + k * 2) (d:=96) kz (cs:=(z50 aE bg aA.length bh)) (v:=.agg #[.int .u32 aE,.slice bg aA.length bh]) kz (AtF.move cM aD.step immM aD.to').at_ fun md gC=>?_)
  refine qan (qaP aI gC (d:=16) (cs:=[.int .u32 0,.slice none 0 0]) kz fun me mf mg jL jM bi dY gD=>?_)
  refine qal [4] [5] [(9,.p 1 0),(15,.v (.int .i64 ((k:Nat):Int))),(16,.p 2 0),(90,.v (.slice ah ((qai l u5).length) ai)),(91,.v (.int .i64 (((qai l u5).length:Nat):Int))),(92,.v (.int .i64 ((k:Nat):Int))),(96,.v (.agg #[.int .u32 aE,.slice bg aA.length bh]))] dY gD fun mh gE=>?_
  refine qan (qat dY gE (oi:=2) (cs:=(z50 aE bg aA.length bh)) kz fun mi bj gF gG=>?_)
  refine qaf (qab ?_)
  refine qaK 22 kz gF fun mj bk aJ au=>?_
  refine qaJ [0,1,2,6,7] [(9,.p 1 0),(15,.v (.int .i64 ((k:Nat):Int))),(16,.p 2 0),(90,.v (.slice ah ((qai l u5).length) ai)),(91,.v (.int .i64 (((qai l u5).length:Nat):Int))),(92,.v (.int .i64 ((k:Nat):Int))),(98,.v (.slice bH aB.length bO)),(99,.v (.int .i64 ((k:Nat):Int))),(104,.v (.int .u32 aE))] 17 (qaa (qac (qaa (qaa (qac (qaa qag)))))) (fun _ h=>h.cells) au gG fun ml gH=>?_
  obtain ⟨dc,de,dZ,jN,bw⟩:=Slots.get iX (i:=k) (by first | omega | (have h_:=qcs hgu ‹_›; omega))
  obtain ⟨⟨bx,bz⟩,gI⟩:∃ x,aB[k]? = some x:=⟨_,List.getElem?_eq_getElem (by omega)⟩
  obtain ⟨⟨ev,ew,ey,gJ⟩,mn,mo⟩:=jZ k bx bz gI
  rw [ey] at bw
  refine qaQ gH (i:=3) (t:=24) (A:=bH) (m:=aB.length) (q:=((k:Nat):Int)) (d:=100) kz (e:=65) (size:=2) (bytes:=32) kz dZ rfl (by first | omega | (have h_:=qcs hgu ‹_›; omega)) kz kz (qaa (qac (qaa (qaa (qac (qaa qag)))))) au fun mp gK=>?_
  refine qaJ [4] [(9,.p 1 0),(15,.v (.int .i64 ((k:Nat):Int))),(16,.p 2 0),(90,.v (.slice ah ((qai l u5).length) ai)),(91,.v (.int .i64 (((qai l u5).length:Nat):Int))),(92,.v (.int .i64 ((k:Nat):Int))),(101,.v (.pointer (some ⟨dc,de + k * 2,none⟩))),(104,.v (.int .u32 aE))] 15 (qaa (qac (qaa (qaa (qac (qaa qag)))))) (fun _ h=>h.cells) au gK fun mq gL=>?_
  refine qa9 gL (i:=5) (t:=62) (b:=dc) (o:=de + k * 2) (d:=102) kz (cs:=[.int .u32 bx]) (v:=.int .u32 bx) kz (fun w' h'=>(At.drop (AtF.move bw (TT.step0 aJ h') nilM qba).at_ 0 1)) kz kz (qaa (qac (qaa (qaa (qac (qaa qag)))))) au fun mr gM=>?_
  refine qaJ [8,9] [(9,.p 1 0),(15,.v (.int .i64 ((k:Nat):Int))),(16,.p 2 0),(90,.v (.slice ah ((qai l u5).length) ai)),(91,.v (.int .i64 (((qai l u5).length:Nat):Int))),(92,.v (.int .i64 ((k:Nat):Int))),(106,.v (.bool (bx != aE)))] 12 (qaa (qac (qaa (qaa (qac (qaa qag)))))) (fun _ h=>h.cells) au gM fun mt d5=>?_
  refine (Bool.eq_false_or_eq_true (bx != aE)).elim (fun bn=>?_) (fun bn=>?_)
  ·
   have jO:bx ≠ aE:=by simpa using bn
   have gN:=d5
   rw [bn] at gN
   refine qaJ [10,11,12,13,14,15,16,17,18,19,20,21] [(9,.p 1 0),(90,.v (.slice ah ((qai l u5).length) ai)),(91,.v (.int .i64 (((qai l u5).length:Nat):Int))),(92,.v (.int .i64 ((k:Nat):Int))),(118,.v (.bool true))] 0 (qaa (qac (qaa (qaa (qac (qaa qag)))))) (fun _ h=>h.cells) au gN fun mu d6=>?_
   refine qaG kz ?_ _
   refine qab (qa2 d6 (b:=true) kz rfl ?_)
   refine qap [(10,.v (.bool false))] aJ d6 fun mw gO=>?_
   refine wp_ret (qaz (qaq (qaq (qaz (qaq (qaL gO aJ.cells (v:=.bool false) kz ?_))))))
   first
    | (exfalso; omega)
    | exact (qeD hgu ‹_› ‹_›).elim
    | exact (qdI hgu ‹_› ‹_›).elim
    | exact (qeE hgu ‹_› ‹_› ‹_› ‹_›).elim
    | exact (qeF hgu ‹_› ‹_› ‹_› ‹_›).elim
    | (exfalso; simp_all; done)
  have jP:bx = aE:=by simpa using bn
  have gP:=d5
  rw [bn] at gP
  refine qaJ [10,11,12,16,17] [(9,.p 1 0),(90,.v (.slice ah ((qai l u5).length) ai)),(91,.v (.int .i64 (((qai l u5).length:Nat):Int))),(92,.v (.int .i64 ((k:Nat):Int))),(106,.v (.bool false)),(108,.v (.slice bH aB.length bO)),(109,.v (.int .i64 ((k:Nat):Int))),(114,.v (.slice bg aA.length bh))] 7 (qaa (qac (qaa (qaa (qac (qaa qag)))))) (fun _ h=>h.cells) au gP fun mx gQ=>?_
  refine qaQ gQ (i:=13) (t:=24) (A:=bH) (m:=aB.length) (q:=((k:Nat):Int)) (d:=110) kz (e:=65) (size:=2) (bytes:=32) kz dZ rfl (by first | omega | (have h_:=qcs hgu ‹_›; omega)) kz kz (qaa (qac (qaa (qaa (qac (qaa qag)))))) au fun my gR=>?_
  refine qaJ [14] [(9,.p 1 0),(90,.v (.slice ah ((qai l u5).length) ai)),(91,.v (.int .i64 (((qai l u5).length:Nat):Int))),(92,.v (.int .i64 ((k:Nat):Int))),(106,.v (.bool false)),(111,.v (.pointer (some ⟨dc,de + k * 2 + 1,none⟩))),(114,.v (.slice bg aA.length bh))] 5 (qaa (qac (qaa (qaa (qac (qaa qag)))))) (fun _ h=>h.cells) au gR fun mz gS=>?_
  refine qa9 gS (i:=15) (t:=22) (b:=dc) (o:=de + k * 2 + 1) (d:=112) kz (cs:=[.slice ev bz.length ew]) (v:=.slice ev bz.length ew) kz (fun w' h'=>(At.drop (AtF.move bw (TT.step0 aJ h') nilM qba).at_ 1 1)) kz kz (qaa (qac (qaa (qaa (qac (qaa qag)))))) au fun mA gT=>?_
  have iR:=qbi aA
  refine qaw (i:=18) kz (qam gT (f:=83) (vs:=[.slice bg aA.length bh]) (d:=115) kz Tryz.call83 (qdF _ _ aA (dX.move (((aD.trans bi).trans bj).trans bk).step immM (((aD.trans bi).trans bj).trans bk).to').le _) ?_)
  rintro e_ mB ⟨rfl,d7⟩
  refine ⟨_,rfl,fun mC gU=>?_⟩
  have bo:=aJ.next_nil d7
  have bp:=aJ.frN d7
  have gV:=TT.ofW bp bo
  refine ⟨fun _=>gV,?_⟩
  refine qaw (i:=19) kz (qam gU (f:=82) (vs:=(z55 ev bz.length ew bg aA bh)) (d:=116) kz Tryz.call82 (qeh _ _ _ _ bz (qaH aA) _ _ ((gJ.move bo.step nilM bo.imm).move (Step.refl _ Nil) nilM allF) (((dX.take 32767).move ((((aD.trans bi).trans bj).trans bk).trans bp).step immM ((((aD.trans bi).trans bj).trans bk).trans bp).to').move (Step.refl _ Nil) nilM allF)) ?_)
  rintro e_ mD ⟨rfl,d8⟩
  refine ⟨_,rfl,fun mF gW=>?_⟩
  have bq:=bo.next_nil d8
  have d9:=bo.frN d8
  have ea:=TT.ofW (bp.trans d9) bq
  refine ⟨fun _=>ea,?_⟩
  refine qaJ [20,21] [(9,.p 1 0),(90,.v (.slice ah ((qai l u5).length) ai)),(91,.v (.int .i64 (((qai l u5).length:Nat):Int))),(92,.v (.int .i64 ((k:Nat):Int))),(118,.v (.bool (!(decide (bz = (qaH aA))))))] 0 (qaa (qac (qaa (qaa (qac (qaa qag)))))) (fun _ h=>h.cells) ea gW fun mG cN=>?_
  refine qaG kz ?_ _
  refine qab (qay cN (b:=!(decide (bz = (qaH aA)))) kz (fun gX=>?_) (fun gX=>?_))
  ·
   refine qap [(10,.v (.bool false))] bq cN fun mH gY=>?_
   refine wp_ret (qaz (qaq (qaq (qaz (qaq (qaL gY bq.cells (v:=.bool false) kz ?_))))))
   first
    | (exfalso; omega)
    | exact (qeD hgu ‹_› ‹_›).elim
    | exact (qdI hgu ‹_› ‹_›).elim
    | exact (qeE hgu ‹_› ‹_› ‹_› ‹_›).elim
    | exact (qeF hgu ‹_› ‹_› ‹_› ‹_›).elim
    | (exfalso; simp_all; done)
  refine wp_skip (qau (qab (qas [0,1] kz ?_)))
  refine qal [0,1] [] [(9,.p 1 0),(90,.v (.slice ah ((qai l u5).length) ai)),(91,.v (.int .i64 (((qai l u5).length:Nat):Int))),(92,.v (.int .i64 (IntKind.i64.wrap (((k:Nat):Int) + 1))))] bq cN fun mI gZ=>?_
  refine qaf (qab ?_)
  obtain ⟨eb,g9,hC⟩:=bq.cutB gZ 2 [⟨df,0,(z3 n1 A6 s2.length c7 b3 A8 l4.length c9 bE u5.length bF),true⟩,⟨dg,0,(z3 cO cR cP.length cS cQ bG aF.length bN bH aB.length bO),true⟩] [(9,.p 1 0),(90,.v (.slice ah ((qai l u5).length) ai)),(91,.v (.int .i64 (((qai l u5).length:Nat):Int))),(92,.v (.int .i64 (IntKind.i64.wrap (((k:Nat):Int) + 1))))]
  have hJ:IntKind.i64.wrap (((k:Nat):Int) + 1) = ((k + 1:Nat):Int):=qaT (by omega)
  rw [hJ] at eb
  exact ⟨(qai l u5).length - (k + 1),by omega,k + 1,rfl,by omega,eb.pk,g9,((((((aD.trans bi).trans bj).trans bk).trans bp).trans d9).trans hC)⟩
 have jQ:=of_decide_eq_false cL
 refine wp_exit (qaC (qaC (qaS (qab (qap [(10,.v (.bool true))] aI cK fun mJ hK=>?_)))))
 refine wp_ret (qaL hK aI.cells (v:=.bool true) kz ?_)
 exact ⟨rfl,aI.step⟩
theorem qkT (v:Int) (flex:Bool):∀ d,ToOK v flex (qiy v flex d)
 | 0=>qkS (fun _ _ _ _ _ _ _ _ _ _ _ _ _ h=>h.elim) (fun _ _ _ _ _ _ _ _ _ h=>h.elim)
 | d + 1=>qkS (qkT v flex d) (qjW d)
theorem qcT (w:World):Calls Tryz.prog 35 #[] w (qch w (.int .i64 1)):=by
 refine enter (n:=4) Tryz.func35 rfl Tryz.ntmps35 kz fun a hE=>?_
 have hW:=WOk.start w Nil
 refine qap [] hW hE fun a1 hE2=>?_
 refine qae [0,1,2,3] kz ?_
 refine qan (qbJ hE2 (f:=91) (vs:=[]) (d:=1) (n':=3) kz Tryz.call91 Tryz.func91 rfl Tryz.ntmps91 kz fun a3 hE4=>?_)
 refine qap [] hW hE4 fun a5 hE6=>?_
 refine qae [0] kz ?_
 refine qan (qaP hW hE6 (d:=1) (cs:=z12) kz fun b7 a8 w9 az aA aB aa ab=>?_)
 refine qaf (qab ?_)
 refine qae [0] kz ?_
 refine qan (qbJ ab (f:=134) (vs:=[.pointer (some ⟨b7,0,none⟩)]) (d:=2) (n':=7) kz Tryz.call134 Tryz.func134 rfl Tryz.ntmps134 kz fun aC ac=>?_)
 have ae:=ac.recast 0 (.v (.pointer (some ⟨b7,0,none⟩))) (.p 0 0) rfl rfl (Nat.le_of_ble_eq_true (n:=1) rfl)
 refine qap [(2,.p 0 7)] aa ae fun aD af=>?_
 refine qas [0] kz ?_
 refine qal [0] [] [] aa af fun aE ag=>?_
 refine qaf (qbM ag aa.cells (v:=.tuple #[]) kz ?_)
 refine ⟨_,rfl,fun aF ah=>?_⟩
 have ai:EnvOk 3 [⟨b7,0,z12,true⟩] [(2,.v (.tuple #[])),(1,.p 0 0)] _:=ah.places (⟨rfl,rfl,trivial⟩)
 refine qaf (qab ?_)
 refine qap [(0,.p 0 0)] aa ai fun aG aj=>?_
 refine wp_ret (qaL aj aa.cells (v:=.pointer (some ⟨b7,0,none⟩)) kz ?_)
 refine ⟨_,rfl,fun aH ak=>?_⟩
 have al:EnvOk 4 [⟨b7,0,z12,true⟩] [(1,.v (.pointer (some ⟨b7,0,none⟩)))] _:=ak.places (trivial)
 have am:=al.recast 1 (.v (.pointer (some ⟨b7,0,none⟩))) (.p 0 0) rfl rfl (Nat.le_of_ble_eq_true (n:=1) rfl)
 have ao:=am.pick (ks:=[1]) (env':=[(1,.p 0 0)]) kz
 refine qan (qbJ ao (f:=92) (vs:=[.pointer (some ⟨b7,0,none⟩)]) (d:=2) (n':=3) kz Tryz.call92 Tryz.func92 rfl Tryz.ntmps92 kz fun aI ap=>?_)
 have ar:=ap.recast 0 (.v (.pointer (some ⟨b7,0,none⟩))) (.p 0 0) rfl rfl (Nat.le_of_ble_eq_true (n:=1) rfl)
 refine qap [] aa ar fun aJ au=>?_
 refine qap [(2,.v (.int .i16 1))] aa au fun aK av=>?_
 refine wp_ret (qaL av aa.cells (v:=.int .i16 1) kz ?_)
 refine ⟨_,rfl,fun aL aw=>?_⟩
 have ax:EnvOk 4 [⟨b7,0,z12,true⟩] [(2,.v (.int .i16 1)),(1,.p 0 0)] _:=aw.places (⟨rfl,rfl,trivial⟩)
 refine qal [2,3] [] [(0,.v (.int .i64 1))] aa ax fun aM ay=>?_
 refine qaf (qab ?_)
 refine wp_ret (qaL ay aa.cells (v:=.int .i64 1) kz ?_)
 exact ⟨rfl,aa.step⟩
theorem qck:depths sShareGroupHeartbeatResponseF ≤ 8:=by simp [sShareGroupHeartbeatResponseF,Fld.depth.depths,Fld.depth]
theorem qcl:plains sShareGroupHeartbeatResponseF:=by simp [sShareGroupHeartbeatResponseF,Fld.plain.plains,Fld.plain]
theorem qcM (A:Option Addr) (c:Nat) (v:Int) (w:World):Calls Tryz.prog 31 #[.agg #[.slice A sShareGroupHeartbeatResponseF.length c,.int .i64 qak],.int .i64 v] w (qch w (.bool (decide (v ≥ qak)))):=by
 refine enter (n:=14) Tryz.func31 rfl Tryz.ntmps31 kz fun a hE=>?_
 have hW:=WOk.start w Nil
 refine qae [0,1] kz ?_
 refine qan (qbl hW hE (d:=2) (cs:=[.slice A sShareGroupHeartbeatResponseF.length c,.int .i64 qak]) kz fun b1 a2 w3 hb4 hz5 hF6 hW7 hE8=>?_)
 refine qal [1] [] [(1,.v (.int .i64 v)),(2,.p 0 0)] hW7 hE8 fun a9 aa=>?_
 refine qaf (qab ?_)
 refine qae [0,1,2,3,4,5,6,7,8,9] kz ?_
 refine qal [0,1,2,3] [4,5,6,7,8,9] [(1,.v (.int .i64 v)),(2,.p 0 0),(8,.v (.bool (decide (qak ≥ 0))))] hW7 aa fun ag ab=>?_
 have ac:(decide (qak ≥ 0)) = true:=by decide
 have ae:=ab
 rw [ac] at ae
 refine qal [4,5,6,7,8,9] [] [(4,.v (.bool (decide (v ≥ qak))))] hW7 ae fun ah af=>?_
 refine qaf (qab ?_)
 refine wp_ret (qaL af hW7.cells (v:=.bool (decide (v ≥ qak))) kz ?_)
 exact ⟨rfl,hW7.step⟩
set_option maxHeartbeats 4000000 in
theorem qcE (x:Int) (hx:0 ≤ x) (hx':x < 256) (ct:List Value) (t:Tree) (w:World) (F:Nat → Nat → Prop) (ht:TreeR w F ct t) (hroom1:(qcZ 8 sShareGroupHeartbeatResponseF qak (Int.tmod x (1 + 1)) t).length + 16 ≤ 1099511627776) (hcan:qa0 (fitT (Int.tmod x (1 + 1)) 8 sShareGroupHeartbeatResponseF t)) (hkey:Tree.ranged (fitT (Int.tmod x (1 + 1)) 8 sShareGroupHeartbeatResponseF t)) (hpure:qaj (IntKind.i16.wrap (Int.tmod x (1 + 1))) (fitT (Int.tmod x (1 + 1)) 8 sShareGroupHeartbeatResponseF t) = qcZ 8 sShareGroupHeartbeatResponseF qak (Int.tmod x (1 + 1)) t) (hto:∀ D,qa3 (IntKind.i16.wrap (Int.tmod x (1 + 1))) D (fitT (Int.tmod x (1 + 1)) 8 sShareGroupHeartbeatResponseF t) → qiy (Int.tmod x (1 + 1)) (decide ((Int.tmod x (1 + 1)) ≥ qak)) 8 sShareGroupHeartbeatResponseF t (qa4 D)) :
  Calls Tryz.prog 9 #[.int .u8 x,.agg ct.toArray] w (qch w (.bool true)):=by
 obtain ⟨n1,s2,b3,l4,u5,A6,c7,A8,c9,aO,aP,dc,rfl,rfl,de,df,dR,dS⟩:=ht.open_
 have cP:=de.small
 have cQ:=df.small
 refine enter (n:=42) Tryz.func9 rfl Tryz.ntmps9 kz fun a hE=>?_
 have hW:=WOk.start w Nil
 refine qae [0,1] kz ?_
 refine qan (qbl hW hE (d:=3) (cs:=(z3 n1 A6 s2.length c7 b3 A8 l4.length c9 aO u5.length aP)) kz fun dg dT dU dh di dj ar bJ=>?_)
 refine qal [1] [] [(0,.v (.int .u8 x)),(3,.p 0 0)] ar bJ fun dV bK=>?_
 refine qaf (qab ?_)
 refine wp_seq (qae [0,1,2] kz ?_)
 refine qal [0] [1,2] [(0,.v (.int .u8 x)),(3,.p 0 0),(10,.v (.agg #[.int .i64 n1,.slice A6 s2.length c7,.bool b3,.slice A8 l4.length c9,.slice aO u5.length aP]))] ar bK fun dW bL=>?_
 refine qan (qam bL (f:=10) (vs:=[.agg #[.int .i64 n1,.slice A6 s2.length c7,.bool b3,.slice A8 l4.length c9,.slice aO u5.length aP]]) (d:=11) kz Tryz.call10 (qlP _ _ _ _ (ht.move ar.step nilM ar.imm)) ?_)
 rintro e_ dX ⟨cR,rfl,bd⟩
 refine ⟨_,rfl,fun dY bM=>?_⟩
 have au:=ar.next_nil bd
 have dl:=ar.frN bd
 refine qal [2] [] [(0,.v (.int .u8 x)),(3,.p 0 0),(12,.v (.bool (!cR)))] au bM fun dZ aY=>?_
 refine qaf (qab ?_)
 refine qay aY (b:=!cR) kz (fun bN=>?_) (fun bN=>?_)
 ·
  refine qap [(4,.v (.bool true))] au aY fun d5 bO=>?_
  refine wp_ret (qaq (qaL bO au.cells (v:=.bool true) kz ?_))
  exact ⟨rfl,au.step⟩
 refine wp_skip (qab (qae [0,1] kz ?_))
 refine qan (qam aY (f:=35) (vs:=[]) (d:=13) kz Tryz.call35 (qcT _) ?_)
 rintro e_ dp ⟨rfl,bf⟩
 refine ⟨_,rfl,fun d6 bP=>?_⟩
 have av:=au.next_nil bf
 have dq:=au.frN bf
 refine qal [1] [] [(0,.v (.int .u8 x)),(3,.p 0 0),(5,.v (.int .i64 1))] av bP fun d7 bQ=>?_
 refine qaf (qab ?_)
 refine wp_seq (qap [(0,.v (.int .u8 x)),(3,.p 0 0),(5,.v (.int .i64 1)),(15,.v (.bool false))] av bQ fun d8 bg=>?_)
 refine qar bg (b:=false) kz rfl ?_
 refine wp_skip (qab (qae [0,1,2,3,4,5,6] kz ?_))
 refine qan (qam bg (f:=36) (vs:=[]) (d:=16) kz Tryz.call36 (qcS _ (Imm F w dp [⟨dg,0,(z3 n1 A6 s2.length c7 b3 A8 l4.length c9 aO u5.length aP),true⟩] [])) ?_)
 rintro e_ d9 ⟨aQ,aR,rfl,bR,aZ⟩
 obtain ⟨bh,cS,cT⟩:=bR.move (Step.refl _ Nil) nilM (av.laid (G:=F) aZ)
 refine ⟨_,rfl,fun ea bS=>?_⟩
 have ba:=av.next_nil aZ
 have dr:=av.frN aZ
 refine qal [1,2] [3,4,5,6] [(3,.p 0 0),(16,.v (.agg #[.slice aQ sShareGroupHeartbeatResponseF.length aR,.int .i64 qak])),(17,.v (.int .u8 x)),(18,.v (.int .i64 1))] ba bS fun eb bT=>?_
 refine qan (qam bT (f:=13) (vs:=[.int .u8 x,.int .i64 1]) (d:=19) kz Tryz.call13 (qko x 1 hx hx' (by decide) (by decide) _) ?_)
 rintro e_ ec ⟨rfl,bi⟩
 refine ⟨_,rfl,fun ee bU=>?_⟩
 have bV:=ba.next_nil bi
 have ag:=ba.frN bi
 refine qan (qaP bV bU (d:=6) (cs:=[.slice none 0 0,.int .i64 0]) kz fun ef eg eh dt du ah bW bX=>?_)
 refine qan (qat bW bX (oi:=1) (cs:=[.slice aQ sShareGroupHeartbeatResponseF.length aR,.int .i64 qak]) kz fun ei ai aw bY=>?_)
 refine qal [6] [] [(3,.p 0 0),(6,.p 1 0),(7,.v (.int .i64 (Int.tmod x (1 + 1))))] aw bY fun ej bZ=>?_
 refine qaf (qab ?_)
 refine qae [0,1,2,3,4,5,6,7,8,9,10,11] kz ?_
 refine qal [0,1,2,3] [4,5,6,7,8,9,10,11] [(3,.p 0 0),(6,.p 1 0),(7,.v (.int .i64 (Int.tmod x (1 + 1)))),(21,.v (.int .i64 (Int.tmod x (1 + 1)))),(22,.v (.agg #[.slice aQ sShareGroupHeartbeatResponseF.length aR,.int .i64 qak])),(23,.v (.int .i64 (Int.tmod x (1 + 1)))),(24,.v (.agg #[.int .i64 n1,.slice A6 s2.length c7,.bool b3,.slice A8 l4.length c9,.slice aO u5.length aP]))] aw bZ fun ek b8=>?_
 refine qan (qam b8 (f:=15) (vs:=[.agg #[.slice aQ sShareGroupHeartbeatResponseF.length aR,.int .i64 qak],.int .i64 (Int.tmod x (1 + 1)),.agg #[.int .i64 n1,.slice A6 s2.length c7,.bool b3,.slice A8 l4.length c9,.slice aO u5.length aP]]) (d:=25) kz Tryz.call15 (qlB _ _ sShareGroupHeartbeatResponseF qak (Int.tmod x (1 + 1)) _ (Tree.mk n1 s2 b3 l4 u5) _ _ ⟨bh,(cS.move ((ag.trans ah).trans ai).step immM ((ag.trans ah).trans ai).to'),(fun i_ x_ h_=>((cT i_ x_ h_).move ((ag.trans ah).trans ai).step immM ((ag.trans ah).trans ai).to'))⟩ qck (ht.move aw.step nilM aw.imm) (Nat.le_trans (Nat.le_add_right _ _) hroom1)) ?_)
 rintro e_ em ⟨cU,cV,rfl,cd,ce⟩
 refine ⟨_,rfl,fun eo cm=>?_⟩
 obtain ⟨ak,al⟩:=aw.frFresh ce (brow cU cV 5 (qcZ 8 sShareGroupHeartbeatResponseF qak (Int.tmod x (1 + 1)) (Tree.mk n1 s2 b3 l4 u5))) (Nat.le_refl _) cd
 refine qan (qam cm (f:=37) (vs:=[.int .i64 (Int.tmod x (1 + 1)),.slice cU ((qcZ 8 sShareGroupHeartbeatResponseF qak (Int.tmod x (1 + 1)) (Tree.mk n1 s2 b3 l4 u5)).length) cV]) (d:=26) kz Tryz.call37 (qcD (Int.tmod x (1 + 1)) _ (qcZ 8 sShareGroupHeartbeatResponseF qak (Int.tmod x (1 + 1)) (Tree.mk n1 s2 b3 l4 u5)) hpure (qcd (ak.own 0 _ rfl) (by first | omega | (rw [qbf]; decide) | (simp only [be_length]; exact Nat.le_trans (qbw _) (by decide)) | (have:=hroom; omega) | (have:=hmade; omega) | (simp only [List.length_append,List.length_nil]; omega)) (F:=fun _ _=>True) (fun _ _ _=>trivial)) hcan hkey (by first | omega | (have:=hroom1; omega))) ?_)
 rintro e_ dv ⟨bj,cW,rfl,bk,bn,ax⟩
 have ay:=bk.move (Step.refl _ Nil) nilM (fun b_ o_ h_ hb_=>ak.laid (G:=F) ax b_ o_ (.inr (h_.resolve_left id)) hb_)
 obtain ⟨aD,aE,aF,aG,aH,aI,aJ,aK,aL,aM,aN,cX,cY,az,cq,cr,dw,dx⟩:=ay.open_
 rw [az] at ay
 have cu:=cq.small
 have cw:=cr.small
 rw [az]
 refine ⟨_,rfl,fun dy bo=>?_⟩
 have aS:=ak.next_nil ax
 have am:=ak.frN ax
 refine qal [6,7,8] [9,10,11] [(3,.p 0 0),(6,.p 1 0),(7,.v (.int .i64 (Int.tmod x (1 + 1)))),(27,.v (.agg #[.int .i64 aD,.slice aI aE.length aJ,.bool aF,.slice aK aG.length aL,.slice aM aH.length aN])),(28,.v (.bool true))] aS bo fun dz bp=>?_
 refine qan (qaP aS bp (d:=8) (cs:=z1) kz fun dA dB dC cZ c5 ab bq bt=>?_)
 refine qan (qat bq bt (oi:=2) (cs:=(z3 aD aI aE.length aJ aF aK aG.length aL aM aH.length aN)) kz fun dD ac aT bu=>?_)
 refine qal [11] [] [(3,.p 0 0),(6,.p 1 0),(7,.v (.int .i64 (Int.tmod x (1 + 1)))),(8,.p 2 0),(9,.v (.bool true))] aT bu fun dE bw=>?_
 refine qaf (qab ?_)
 refine qaK 13 kz aT fun dF ae aU bx=>?_
 refine qaJ [0,1,2,3,4,5,6,8,9] [(30,.v (.bool true)),(32,.v (.slice aQ sShareGroupHeartbeatResponseF.length aR)),(33,.v (.int .i64 (Int.tmod x (1 + 1)))),(34,.v (.agg #[.slice aQ sShareGroupHeartbeatResponseF.length aR,.int .i64 qak])),(35,.v (.int .i64 (Int.tmod x (1 + 1)))),(37,.v (.agg #[.int .i64 n1,.slice A6 s2.length c7,.bool b3,.slice A8 l4.length c9,.slice aO u5.length aP])),(38,.v (.agg #[.int .i64 aD,.slice aI aE.length aJ,.bool aF,.slice aK aG.length aL,.slice aM aH.length aN]))] 5 (qaa qag) (fun _ h=>h.cells) bx bw fun dG bz=>?_
 refine qaw (i:=7) kz (qam bz (f:=31) (vs:=[.agg #[.slice aQ sShareGroupHeartbeatResponseF.length aR,.int .i64 qak],.int .i64 (Int.tmod x (1 + 1))]) (d:=36) kz Tryz.call31 (qcM _ _ _ _) ?_)
 rintro e_ dH ⟨rfl,aV⟩
 refine ⟨_,rfl,fun dI bA=>?_⟩
 have ao:=aU.next_nil aV
 have aa:=aU.frN aV
 have bB:=TT.ofW aa ao
 refine ⟨fun _=>bB,?_⟩
 refine qaw (i:=10) kz (qam bA (f:=17) (vs:=[.agg #[.int .i64 aD,.slice aI aE.length aJ,.bool aF,.slice aK aG.length aL,.slice aM aH.length aN]]) (d:=39) kz Tryz.call17 (lGot _ _ _ _ _ (ay.move (((ab.trans ac).trans ae).trans aa).step immM (((ab.trans ac).trans ae).trans aa).to') (Nat.le_refl _)) ?_)
 rintro e_ dJ ⟨c6,rfl,bC,aA⟩
 have aB:=bC.move (Step.refl _ Nil) nilM (ao.laid (G:=F) aA)
 obtain ⟨cz,cA,cB,cC,cD,cE,cG,cH,cI,cJ,cK,da,db,aC,cL,cM,dK,dL⟩:=aB.open_
 rw [aC] at aB
 have cN:=cL.small
 have cO:=cM.small
 rw [aC]
 refine ⟨_,rfl,fun dM bD=>?_⟩
 have aj:=ao.next_nil aA
 have af:=ao.frN aA
 have bE:=TT.ofW (aa.trans af) aj
 refine ⟨fun _=>bE,?_⟩
 refine qaw (i:=11) kz (qam bD (f:=30) (vs:=[.slice aQ sShareGroupHeartbeatResponseF.length aR,.int .i64 (Int.tmod x (1 + 1)),.bool (decide ((Int.tmod x (1 + 1)) ≥ qak)),.agg #[.int .i64 n1,.slice A6 s2.length c7,.bool b3,.slice A8 l4.length c9,.slice aO u5.length aP],.agg #[.int .i64 cz,.slice cE cA.length cG,.bool cB,.slice cH cC.length cI,.slice cJ cD.length cK]]) (d:=40) kz Tryz.call30 (qkT (Int.tmod x (1 + 1)) (decide ((Int.tmod x (1 + 1)) ≥ qak)) 8 _ _ sShareGroupHeartbeatResponseF _ (Tree.mk n1 s2 b3 l4 u5) _ (qa4 bj) _ _ ⟨bh,(cS.move (((((((((ag.trans ah).trans ai).trans al).trans am).trans ab).trans ac).trans ae).trans aa).trans af).step immM (((((((((ag.trans ah).trans ai).trans al).trans am).trans ab).trans ac).trans ae).trans aa).trans af).to'),(fun i_ x_ h_=>((cT i_ x_ h_).move (((((((((ag.trans ah).trans ai).trans al).trans am).trans ab).trans ac).trans ae).trans aa).trans af).step immM (((((((((ag.trans ah).trans ai).trans al).trans am).trans ab).trans ac).trans ae).trans aa).trans af).to'))⟩ (ht.move aj.step nilM aj.imm) aB qcl (hto bj bn)) ?_)
 rintro e_ dN ⟨rfl,aW⟩
 refine ⟨_,rfl,fun dO bF=>?_⟩
 have ap:=aj.next_nil aW
 have bG:=aj.frN aW
 have aX:=TT.ofW ((aa.trans af).trans bG) ap
 refine ⟨fun _=>aX,?_⟩
 refine qaJ [12] [(41,.v (.bool true))] 1 (qaa qag) (fun _ h=>h.cells) aX bF fun dP bH=>?_
 refine qaw (i:=13) kz (qbm [4] ap.cells bH (env':=[(4,.v (.bool true))]) kz fun dQ bI=>?_)
 refine ⟨fun h=>absurd rfl h,?_⟩
 refine qaG kz ?_ _
 refine qab (wp_ret (qaL bI ap.cells (v:=.bool true) kz ?_))
 exact ⟨rfl,ap.step⟩
theorem qct (x:Int) (hx:0 ≤ x ∧ x ≤ 255) (ct:List Value) (t:Tree) (w:World) (F:Nat → Nat → Prop) (ht:TreeR w F ct t) (hi:t.i64s) (hsz:t.size ≤ 8388608):Calls Tryz.prog 9 #[.int .u8 x,.agg ct.toArray] w (qch w (.bool true)):=by
 obtain ⟨g0,g1⟩:=qlx (m:=1 + 1) hx.1 hx.2 (by decide) (by decide)
 have hp:qaj (IntKind.i16.wrap (Int.tmod x (1 + 1))) (fitT (Int.tmod x (1 + 1)) 8 sShareGroupHeartbeatResponseF t) = qcZ 8 sShareGroupHeartbeatResponseF qak (Int.tmod x (1 + 1)) t:=by rw [qgM g0 g1]; exact qcy (Int.tmod x (1 + 1)) g0 g1 t
 have h1:=qjj 8 sShareGroupHeartbeatResponseF qak (Int.tmod x (1 + 1)) t
 have h2:qhe sShareGroupHeartbeatResponseF ≤ 131000:=by decide +kernel
 have h3:=Nat.mul_le_mul h2 hsz
 exact qcE x hx.1 (by omega) ct t w F ht (by omega) (qcp (Int.tmod x (1 + 1)) t) (qio _ _ _ _ ht.ranged) hp (fun D h=>by rw [qgM g0 g1] at h; exact qcz (Int.tmod x (1 + 1)) g0 t _ (fun _=>rfl) rfl hi D h)
end Go.Proofs.YtcbpjflgkefidaaGreatDoor.ME