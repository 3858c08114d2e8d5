/- The texts of a claim, put together: the engine, the contracts, the law. Own work. -/
import Derived.Test.YtcbpjflgkefidaaGreatDoorWt1P4
namespace Go.Proofs.YtcbpjflgkefidaaGreatDoor.ME
open Go
open Go.RowKit
set_option linter.unusedVariables false
set_option linter.unusedSimpArgs false
set_option maxRecDepth 20000
theorem qf3 (k n:Int) (w:World):Calls Tryz.prog 48 #[.int .i64 k,.int .i64 n] w (qbX w (.int .i64 (qbc k n))):=by
 refine enter (n:=31) Tryz.func48 rfl Tryz.ntmps48 kz fun a hE=>?_
 have hW:=WOk.start w Nil
 refine qan [(0,.v (.int .i64 k)),(1,.v (.int .i64 n))] hW hE fun a1 hE2=>?_
 refine wp_seq ?_
 refine qan [(1,.v (.int .i64 n)),(5,.v (.int .i64 k))] hW hE2 fun a3 hE4=>?_
 refine wp_block ?_
 refine qan [(1,.v (.int .i64 n)),(5,.v (.int .i64 k)),(6,.v (.bool (k == 0)))] hW hE4 fun a5 hE6=>?_
 refine qas hE6 (b:=k == 0) kz (fun hc7=>?_) (fun hc7=>?_)
 ·
  have hf8:k = 0:=by simpa using hc7
  refine qan [(4,.v (.int .i64 (IntKind.i64.wrap (BitVec.ofInt 64 n &&& BitVec.ofInt 64 1).toNat)))] hW hE6 fun a9 aj=>?_
  refine wp_ret ?_
  refine qaw ?_
  refine qam ?_
  refine qaF aj hW.cells (v:=.int .i64 (IntKind.i64.wrap (BitVec.ofInt 64 n &&& BitVec.ofInt 64 1).toNat)) kz ?_
  exact ⟨by (try simp only [and1]); simp_all [qbc,qif,qfx,qfy,qes],hW.step⟩
 have ar:k ≠ 0:=by simpa using hc7
 refine qan [(1,.v (.int .i64 n)),(5,.v (.int .i64 k)),(10,.v (.bool (k == 1)))] hW hE6 fun aC aa=>?_
 refine qas aa (b:=k == 1) kz (fun ab=>?_) (fun ab=>?_)
 ·
  have au:k = 1:=by simpa using ab
  refine qan [(4,.v (.int .i64 (IntKind.i64.wrap (IntKind.i8.wrap n))))] hW aa fun aD ak=>?_
  refine wp_ret ?_
  refine qaw ?_
  refine qam ?_
  refine qaF ak hW.cells (v:=.int .i64 (IntKind.i64.wrap (IntKind.i8.wrap n))) kz ?_
  exact ⟨by (try simp only [and1]); simp_all [qbc,qif,qfx,qfy,qes],hW.step⟩
 have av:k ≠ 1:=by simpa using ab
 refine qan [(1,.v (.int .i64 n)),(5,.v (.int .i64 k)),(15,.v (.bool (k == 2)))] hW aa fun aE ac=>?_
 refine qas ac (b:=k == 2) kz (fun ae=>?_) (fun ae=>?_)
 ·
  have aw:k = 2:=by simpa using ae
  refine qan [(4,.v (.int .i64 (IntKind.i64.wrap (IntKind.i16.wrap n))))] hW ac fun aF al=>?_
  refine wp_ret ?_
  refine qaw ?_
  refine qam ?_
  refine qaF al hW.cells (v:=.int .i64 (IntKind.i64.wrap (IntKind.i16.wrap n))) kz ?_
  exact ⟨by (try simp only [and1]); simp_all [qbc,qif,qfx,qfy,qes],hW.step⟩
 have ax:k ≠ 2:=by simpa using ae
 refine qan [(1,.v (.int .i64 n)),(5,.v (.int .i64 k)),(20,.v (.bool (k == 3)))] hW ac fun aG af=>?_
 refine qas af (b:=k == 3) kz (fun ag=>?_) (fun ag=>?_)
 ·
  have ay:k = 3:=by simpa using ag
  refine qan [(4,.v (.int .i64 (IntKind.i64.wrap (IntKind.i32.wrap n))))] hW af fun aH am=>?_
  refine wp_ret ?_
  refine qaw ?_
  refine qam ?_
  refine qaF am hW.cells (v:=.int .i64 (IntKind.i64.wrap (IntKind.i32.wrap n))) kz ?_
  exact ⟨by (try simp only [and1]); simp_all [qbc,qif,qfx,qfy,qes],hW.step⟩
 have az:k ≠ 3:=by simpa using ag
 refine qan [(1,.v (.int .i64 n)),(25,.v (.bool (k == 5)))] hW af fun aI ah=>?_
 refine qas ah (b:=k == 5) kz (fun ai=>?_) (fun ai=>?_)
 ·
  have aA:k = 5:=by simpa using ai
  refine qan [(4,.v (.int .i64 (IntKind.i64.wrap (IntKind.u16.wrap n))))] hW ah fun aJ ao=>?_
  refine wp_ret ?_
  refine qaw ?_
  refine qam ?_
  refine qaF ao hW.cells (v:=.int .i64 (IntKind.i64.wrap (IntKind.u16.wrap n))) kz ?_
  exact ⟨by (try simp only [and1]); simp_all [qbc,qif,qfx,qfy,qes],hW.step⟩
 have aB:k ≠ 5:=by simpa using ai
 refine wp_skip ?_
 refine qaq ?_
 refine qab ?_
 refine qan [(4,.v (.int .i64 n))] hW ah fun aK ap=>?_
 refine wp_ret ?_
 refine qaF ap hW.cells (v:=.int .i64 n) kz ?_
 exact ⟨by (try simp only [and1]); simp_all [qbc,qif,qfx,qfy,qes],hW.step⟩
def UsOK (U:List Fld → Tree → Prop):Prop:=∀ (A:Option Addr) (c:Nat) (l:List Fld) (ct:List Value) (g:Tree) (w:World) (F:Nat → Nat → Prop),FldsR w F A c l → TreeR w F ct g → U l g →
  Calls Tryz.prog 80 #[.slice A l.length c,.agg ct.toArray] w (qbX w (.bool true))
theorem sUs {U:List Fld → Tree → Prop} (hu:UsOK U) (A:Option Addr) (c:Nat) (l:List Fld) (ct:List Value) (g:Tree) (w:World) (F:Nat → Nat → Prop) (hl:FldsR w F A c l) (ht:TreeR w F ct g) (hU:UsP U l g) :
  Calls Tryz.prog 80 #[.slice A l.length c,.agg ct.toArray] w (qbX w (.bool true)):=by
 obtain ⟨xfs,h1,h2⟩:=hl.ex
 have hsm:=h1.small
 obtain ⟨n1,s2,b3,l4,u5,A6,c7,A8,c9,aJ,aK,fT,rfl,rfl,fU,fV,iD,iE⟩:=ht.open_
 have e9:=fU.small
 have fa:=fV.small
 refine enter (n:=89) Tryz.func80 rfl Tryz.ntmps80 kz fun a hE=>?_
 have hW:=WOk.start w Nil
 refine qae [0,1] kz ?_
 refine qak (qa7 hW hE (d:=3) (cs:=[.int .i64 n1,.slice A6 s2.length c7,.bool b3,.slice A8 l4.length c9,.slice aJ u5.length aK]) kz fun bz iF iG fW fX fY aA eG=>?_)
 refine qai [1] [] [(0,.v (.slice A l.length c)),(3,.p 0 0)] aA eG fun iH eH=>?_
 refine qaf (qab ?_)
 refine wp_seq ?_
 refine qan [(0,.v (.slice A l.length c)),(3,.p 0 0),(11,.v (.bool (decide (((u5.length:Nat):Int) > 0))))] aA eH fun iI cD=>?_
 refine qas cD (b:=decide (((u5.length:Nat):Int) > 0)) kz (fun cE=>?_) (fun cE=>?_)
 ·
  have fZ:=of_decide_eq_true cE
  refine qan [(4,.v (.bool false))] aA cD fun iJ eI=>?_
  refine wp_ret ?_
  refine qam ?_
  refine qaF eI aA.cells (v:=.bool false) kz ?_
  exact (us_u (g:=(Tree.mk n1 s2 b3 l4 u5)) hU.1 rfl ‹_›).elim
 have f5:=of_decide_eq_false cE
 refine wp_skip ?_
 refine qab ?_
 refine wp_seq ?_
 refine qan [(3,.p 0 0),(12,.v (.slice A l.length c)),(13,.v (.int .i64 ((l.length:Nat):Int))),(14,.v (.int .i64 0))] aA cD fun iK eJ=>?_
 refine wp_block ?_
 refine wp_loop_ghost (fun n_ a_ w_=>∃ (k:Nat),n_ = l.length - k ∧ k ≤ l.length ∧ LInv aA 89 [⟨bz,0,[.int .i64 n1,.slice A6 s2.length c7,.bool b3,.slice A8 l4.length c9,.slice aJ u5.length aK],true⟩] [] [(3,.p 0 0),(12,.v (.slice A l.length c)),(13,.v (.int .i64 ((l.length:Nat):Int))),(14,.v (.int .i64 ((k:Nat):Int)))] a_ w_) (l.length) ⟨0,by omega,by omega,eJ.pk,aA,Fr.refl _ _ _⟩ ?_
 rintro iL iM iN ⟨k,f8,f9,eK,aB,aj⟩
 refine qan [(3,.p 0 0),(12,.v (.slice A l.length c)),(13,.v (.int .i64 ((l.length:Nat):Int))),(14,.v (.int .i64 ((k:Nat):Int))),(15,.v (.bool (decide (((k:Nat):Int) < ((l.length:Nat):Int)))))] aB eK fun iO cG=>?_
 refine wp_seq ?_
 refine qas cG (b:=decide (((k:Nat):Int) < ((l.length:Nat):Int))) kz (fun cH=>?_) (fun cH=>?_)
 ·
  have ga:=of_decide_eq_true cH
  refine wp_skip ?_
  refine qab ?_
  refine wp_seq ?_
  refine wp_block ?_
  refine qae [0,1,2,3,4,5] kz ?_
  refine qai [0] [1,2,3,4,5] [(3,.p 0 0),(12,.v (.slice A l.length c)),(13,.v (.int .i64 ((l.length:Nat):Int))),(14,.v (.int .i64 ((k:Nat):Int))),(16,.v (.int .i64 ((k:Nat):Int)))] aB cG fun iP eL=>?_
  obtain ⟨gb,gc,eM,gd,bB⟩:=Slots.get h1 (i:=k) (by omega)
  obtain ⟨ge,cI⟩:∃ x,l[k]? = some x:=⟨_,List.getElem?_eq_getElem (by omega)⟩
  have cJ:=h2 k ge cI
  obtain ⟨ae,eC,eD,aE,eE,aM,eF,bA,bC,bD,cK,rfl,bE,eN,fb⟩:=cJ.open_
  rw [bE] at cJ
  have fe:=eN.small
  rw [bE] at bB
  refine qak (qaC eL (t:=29) (A:=A) (m:=l.length) (q:=((k:Nat):Int)) (d:=17) kz (e:=52) (size:=8) (bytes:=80) kz eM rfl (by omega) fun iQ eO=>?_)
  refine qak (qaJ eO (t:=52) (b:=gb) (o:=gc + k * 8) (d:=18) kz (cs:=[.int .i64 ae,.int .i64 eC,.int .i64 eD,.int .i64 aE,.int .i64 eE,.int .i64 aM,.int .i64 eF,.slice bC bA.length bD]) (v:=.agg #[.int .i64 ae,.int .i64 eC,.int .i64 eD,.int .i64 aE,.int .i64 eE,.int .i64 aM,.int .i64 eF,.slice bC bA.length bD]) kz (AtF.move bB aB.step nilM qaY).at_ fun iR eP=>?_)
  refine qak (qaK aB eP (d:=6) (cs:=[.int .i64 0,.int .i64 0,.int .i64 0,.int .i64 0,.int .i64 0,.int .i64 0,.int .i64 0,.slice none 0 0]) kz fun iS iT iU gg gh ak cL eQ=>?_)
  refine qai [4] [5] [(3,.p 0 0),(5,.v (.int .i64 ((k:Nat):Int))),(6,.p 1 0),(12,.v (.slice A l.length c)),(13,.v (.int .i64 ((l.length:Nat):Int))),(14,.v (.int .i64 ((k:Nat):Int))),(18,.v (.agg #[.int .i64 ae,.int .i64 eC,.int .i64 eD,.int .i64 aE,.int .i64 eE,.int .i64 aM,.int .i64 eF,.slice bC bA.length bD]))] cL eQ fun iV eR=>?_
  refine qak (qav cL eR (oi:=1) (cs:=[.int .i64 ae,.int .i64 eC,.int .i64 eD,.int .i64 aE,.int .i64 eE,.int .i64 aM,.int .i64 eF,.slice bC bA.length bD]) kz fun iW al aL eS=>?_)
  refine qaf (qab ?_)
  refine qae [0,1,2,3,4] kz ?_
  refine qai [0,1] [2,3,4] [(3,.p 0 0),(6,.p 1 0),(12,.v (.slice A l.length c)),(13,.v (.int .i64 ((l.length:Nat):Int))),(14,.v (.int .i64 ((k:Nat):Int))),(19,.v (.agg #[.int .i64 n1,.slice A6 s2.length c7,.bool b3,.slice A8 l4.length c9,.slice aJ u5.length aK])),(20,.v (.int .i64 ((k:Nat):Int)))] aL eS fun iX eU=>?_
  refine qak (qaj eU (f:=47) (vs:=[.agg #[.int .i64 n1,.slice A6 s2.length c7,.bool b3,.slice A8 l4.length c9,.slice aJ u5.length aK],.int .i64 ((k:Nat):Int)]) (d:=21) kz Tryz.call47 (sAt _ _ k _ _ (ht.move aL.step nilM aL.imm)) ?_)
  rintro e_ gi ⟨gj,rfl,eV,aN⟩
  have aF:=eV.move aN nilM (fun b o h_ hb_=>aL.laid (G:=F) aN b o (.inl h_) (Nat.lt_of_lt_of_le hb_ aN.size))
  obtain ⟨ai,af,ah,am,aO,aC,aD,aP,aQ,aR,aS,ff,aT,aU,cM,eW,gk,gl⟩:=aF.open_
  rw [aU] at aF
  have eX:=cM.small
  have eY:=eW.small
  rw [aU]
  refine ⟨_,rfl,fun gm cN=>?_⟩
  have cO:=aL.next_nil aN
  have ag:=aL.frN aN
  have hq_:=hU.2 k _ cI
  rw [aT] at hq_
  refine qak (qaK cO cN (d:=7) (cs:=[.int .i64 0,.slice none 0 0,.bool false,.slice none 0 0,.slice none 0 0]) kz fun gn gp gq fg fh ab cP cQ=>?_)
  refine qak (qav cP cQ (oi:=2) (cs:=[.int .i64 ai,.slice aC af.length aD,.bool ah,.slice aP am.length aQ,.slice aR aO.length aS]) kz fun gt ac aa cR=>?_)
  refine qaf (qab ?_)
  refine qan [(3,.p 0 0),(6,.p 1 0),(7,.p 2 0),(12,.v (.slice A l.length c)),(13,.v (.int .i64 ((l.length:Nat):Int))),(14,.v (.int .i64 ((k:Nat):Int))),(23,.v (.int .i64 ae))] aa cR fun gv cS=>?_
  refine wp_block ?_
  refine qan [(3,.p 0 0),(6,.p 1 0),(7,.p 2 0),(12,.v (.slice A l.length c)),(13,.v (.int .i64 ((l.length:Nat):Int))),(14,.v (.int .i64 ((k:Nat):Int))),(23,.v (.int .i64 ae)),(32,.v (.bool (ae == 8)))] aa cS fun gw aV=>?_
  refine qas aV (b:=ae == 8) kz (fun aW=>?_) (fun aW=>?_)
  ·
   have fi:ae = 8:=by simpa using aW
   refine qae [0,1,2,3,4,5,6,7,8,9,10,11] kz ?_
   refine qai [0,1,2,3,4,5,6] [7,8,9,10,11] [(3,.p 0 0),(7,.p 2 0),(12,.v (.slice A l.length c)),(13,.v (.int .i64 ((l.length:Nat):Int))),(14,.v (.int .i64 ((k:Nat):Int))),(40,.v (.bool (!(ah == (decide (aE ≥ 0))))))] aa aV fun gx bF=>?_
   refine (Bool.eq_false_or_eq_true (!(ah == (decide (aE ≥ 0))))).elim (fun ao=>?_) (fun ao=>?_)
   ·
    have fj:!(ah = (decide (aE ≥ 0))):=by simpa using ao
    have cT:=bF.cast (env':=[(3,.p 0 0),(7,.p 2 0),(12,.v (.slice A l.length c)),(13,.v (.int .i64 ((l.length:Nat):Int))),(14,.v (.int .i64 ((k:Nat):Int))),(40,.v (.bool true))]) (by rw [ao])
    refine qai [7,8,9,10,11] [] [(3,.p 0 0),(12,.v (.slice A l.length c)),(13,.v (.int .i64 ((l.length:Nat):Int))),(14,.v (.int .i64 ((k:Nat):Int))),(45,.v (.bool true))] aa cT fun gy bG=>?_
    refine qaf (qab ?_)
    refine qaW bG (b:=true) kz rfl ?_
    refine qan [(4,.v (.bool false))] aa bG fun gz cU=>?_
    refine wp_ret ?_
    refine qaw ?_
    refine qaw ?_
    refine qam ?_
    refine qam ?_
    refine qaw ?_
    refine qam ?_
    refine qaF cU aa.cells (v:=.bool false) kz ?_
    first
     | exact (qfW hq_ ‹_› ‹_›).elim
     | exact (qfX hq_ ‹_› ‹_›).elim
     | exact (us_7 hq_ ‹_› ‹_›).elim
     | exact (qfY hq_ ‹_› ‹_›).elim
     | exact (qfZ hq_ ‹_› ‹_›).elim
     | exact (qd8 hq_ ‹_› ‹_›).elim
     | exact (qd9 hq_ ‹_› ‹_›).elim
     | exact (qf0 hq_ ‹_› ‹_› ‹_›).elim
     | exact (us_n hq_ ‹_› ‹_› ‹_› ‹_› ‹_› ‹_›).elim
   have fk:!(ah ≠ (decide (aE ≥ 0))):=by simpa using ao
   have cV:=bF.cast (env':=[(3,.p 0 0),(7,.p 2 0),(12,.v (.slice A l.length c)),(13,.v (.int .i64 ((l.length:Nat):Int))),(14,.v (.int .i64 ((k:Nat):Int))),(40,.v (.bool false))]) (by rw [ao])
   refine qai [7,8,9,10,11] [] [(3,.p 0 0),(12,.v (.slice A l.length c)),(13,.v (.int .i64 ((l.length:Nat):Int))),(14,.v (.int .i64 ((k:Nat):Int))),(45,.v (.bool (decide (((af.length:Nat):Int) > 0))))] aa cV fun gA aX=>?_
   refine qaf (qab ?_)
   refine qas aX (b:=decide (((af.length:Nat):Int) > 0)) kz (fun aY=>?_) (fun aY=>?_)
   ·
    have fm:=of_decide_eq_true aY
    refine qan [(4,.v (.bool false))] aa aX fun gB cW=>?_
    refine wp_ret ?_
    refine qaw ?_
    refine qaw ?_
    refine qam ?_
    refine qam ?_
    refine qaw ?_
    refine qam ?_
    refine qaF cW aa.cells (v:=.bool false) kz ?_
    first
     | exact (qfW hq_ ‹_› ‹_›).elim
     | exact (qfX hq_ ‹_› ‹_›).elim
     | exact (us_7 hq_ ‹_› ‹_›).elim
     | exact (qfY hq_ ‹_› ‹_›).elim
     | exact (qfZ hq_ ‹_› ‹_›).elim
     | exact (qd8 hq_ ‹_› ‹_›).elim
     | exact (qd9 hq_ ‹_› ‹_›).elim
     | exact (qf0 hq_ ‹_› ‹_› ‹_›).elim
     | exact (us_n hq_ ‹_› ‹_› ‹_› ‹_› ‹_› ‹_›).elim
   have fo:=of_decide_eq_false aY
   refine wp_skip ?_
   refine qaq ?_
   refine qaq ?_
   refine qab ?_
   refine qap [0,1] kz ?_
   refine qai [0,1] [] [(3,.p 0 0),(12,.v (.slice A l.length c)),(13,.v (.int .i64 ((l.length:Nat):Int))),(14,.v (.int .i64 (IntKind.i64.wrap (((k:Nat):Int) + 1))))] aa aX fun gC cX=>?_
   refine qaf (qab ?_)
   obtain ⟨bH,cY,cZ⟩:=aa.cutB cX 1 [⟨bz,0,[.int .i64 n1,.slice A6 s2.length c7,.bool b3,.slice A8 l4.length c9,.slice aJ u5.length aK],true⟩] [(3,.p 0 0),(12,.v (.slice A l.length c)),(13,.v (.int .i64 ((l.length:Nat):Int))),(14,.v (.int .i64 (IntKind.i64.wrap (((k:Nat):Int) + 1))))]
   have c5:IntKind.i64.wrap (((k:Nat):Int) + 1) = ((k + 1:Nat):Int):=qaM (by omega)
   rw [c5] at bH
   exact ⟨l.length - (k + 1),by omega,k + 1,rfl,by omega,bH.pk,cY,((((((aj.trans ak).trans al).trans ag).trans ab).trans ac).trans cZ)⟩
  have fq:ae ≠ 8:=by simpa using aW
  refine qan [(3,.p 0 0),(6,.p 1 0),(7,.p 2 0),(12,.v (.slice A l.length c)),(13,.v (.int .i64 ((l.length:Nat):Int))),(14,.v (.int .i64 ((k:Nat):Int))),(23,.v (.int .i64 ae)),(46,.v (.bool (ae == 7)))] aa aV fun gD aZ=>?_
  refine qas aZ (b:=ae == 7) kz (fun ba=>?_) (fun ba=>?_)
  ·
   have fr:ae = 7:=by simpa using ba
   refine qaI 5 kz aa fun gE bd c6 da=>?_
   refine qaG [0,1] [(3,.p 0 0),(12,.v (.slice A l.length c)),(13,.v (.int .i64 ((l.length:Nat):Int))),(14,.v (.int .i64 ((k:Nat):Int))),(49,.v (.slice aC af.length aD))] 3 (qaa (qac (qac (qaa (qaa (qac (qaa qag))))))) (fun _ h=>h.cells) da aZ fun gF db=>?_
   refine qaA (i:=2) kz (qcb c6 db (d:=50) (j:=16) (t:=22) (e:=5) (bytes:=1) (z:=.int .u8 0) kz kz kz kz (rfl) (rfl) (by omega) fun eZ gG gH ft fu ap aG dc=>?_)
   have de:=TT.ofW ap aG
   refine ⟨fun _=>de,?_⟩
   refine qaA (i:=3) kz (qaj dc (f:=82) (vs:=[.slice aC af.length aD,.slice (some ⟨eZ,0,none⟩) 16 16]) (d:=51) kz Tryz.call82 (qdM _ _ _ _ af (List.replicate 16 0:Bs) _ _ ((cM.move (((ab.trans ac).trans bd).trans ap).step immM (((ab.trans ac).trans bd).trans ap).to').move (Step.refl _ Nil) nilM allF) (qjv (aG.own 0 _ rfl) (F:=fun _ _=>True) (fun _ _ _=>trivial))) ?_)
   rintro e_ gI ⟨rfl,bI⟩
   refine ⟨_,rfl,fun gJ df=>?_⟩
   have ar:=aG.next_nil bI
   have bJ:=aG.frN bI
   have bK:=TT.ofW (ap.trans bJ) ar
   refine ⟨fun _=>bK,?_⟩
   refine qaG [4] [(3,.p 0 0),(12,.v (.slice A l.length c)),(13,.v (.int .i64 ((l.length:Nat):Int))),(14,.v (.int .i64 ((k:Nat):Int))),(52,.v (.bool (!(decide (af = (List.replicate 16 0:Bs))))))] 0 (qaa (qac (qac (qaa (qaa (qac (qaa qag))))))) (fun _ h=>h.cells) bK df fun gK bf=>?_
   refine qaE kz ?_ _
   refine qab ?_
   refine qas bf (b:=!(decide (af = (List.replicate 16 0:Bs)))) kz (fun dg=>?_) (fun dg=>?_)
   ·
    refine qan [(4,.v (.bool false))] ar bf fun gL dh=>?_
    refine wp_ret ?_
    refine qaw ?_
    refine qaw ?_
    refine qam ?_
    refine qam ?_
    refine qaw ?_
    refine qam ?_
    refine qaF dh ar.cells (v:=.bool false) kz ?_
    first
     | exact (qfW hq_ ‹_› ‹_›).elim
     | exact (qfX hq_ ‹_› ‹_›).elim
     | exact (us_7 hq_ ‹_› ‹_›).elim
     | exact (qfY hq_ ‹_› ‹_›).elim
     | exact (qfZ hq_ ‹_› ‹_›).elim
     | exact (qd8 hq_ ‹_› ‹_›).elim
     | exact (qd9 hq_ ‹_› ‹_›).elim
     | exact (qf0 hq_ ‹_› ‹_› ‹_›).elim
     | exact (us_n hq_ ‹_› ‹_› ‹_› ‹_› ‹_› ‹_›).elim
   refine wp_skip ?_
   refine qaq ?_
   refine qaq ?_
   refine qab ?_
   refine qap [0,1] kz ?_
   refine qai [0,1] [] [(3,.p 0 0),(12,.v (.slice A l.length c)),(13,.v (.int .i64 ((l.length:Nat):Int))),(14,.v (.int .i64 (IntKind.i64.wrap (((k:Nat):Int) + 1))))] ar bf fun gM di=>?_
   refine qaf (qab ?_)
   obtain ⟨bL,dj,dl⟩:=ar.cutB di 1 [⟨bz,0,[.int .i64 n1,.slice A6 s2.length c7,.bool b3,.slice A8 l4.length c9,.slice aJ u5.length aK],true⟩] [(3,.p 0 0),(12,.v (.slice A l.length c)),(13,.v (.int .i64 ((l.length:Nat):Int))),(14,.v (.int .i64 (IntKind.i64.wrap (((k:Nat):Int) + 1))))]
   obtain ⟨dp,dq⟩:=dj.cutR 0 []
   have dr:IntKind.i64.wrap (((k:Nat):Int) + 1) = ((k + 1:Nat):Int):=qaM (by omega)
   rw [dr] at bL
   exact ⟨l.length - (k + 1),by omega,k + 1,rfl,by omega,bL.pk,dp,((((((((((aj.trans ak).trans al).trans ag).trans ab).trans ac).trans bd).trans ap).trans bJ).trans dl).trans dq)⟩
  have fv:ae ≠ 7:=by simpa using ba
  refine wp_seq ?_
  refine qan [(3,.p 0 0),(6,.p 1 0),(7,.p 2 0),(12,.v (.slice A l.length c)),(13,.v (.int .i64 ((l.length:Nat):Int))),(14,.v (.int .i64 ((k:Nat):Int))),(23,.v (.int .i64 ae)),(53,.v (.bool (ae == 9)))] aa aZ fun gN aH=>?_
  refine qas aH (b:=ae == 9) kz (fun aI=>?_) (fun aI=>?_)
  ·
   have fw:ae = 9:=by simpa using aI
   refine wp_skip ?_
   refine qab ?_
   refine qaW aH (b:=ae == 9) kz (aI) ?_
   refine qae [0,1,2,3,4,5,6,7,8,9] kz ?_
   refine qai [0,1,2,3,4] [5,6,7,8,9] [(3,.p 0 0),(7,.p 2 0),(12,.v (.slice A l.length c)),(13,.v (.int .i64 ((l.length:Nat):Int))),(14,.v (.int .i64 ((k:Nat):Int))),(60,.v (.bool (decide (((af.length:Nat):Int) > 0))))] aa aH fun gO bM=>?_
   refine (Bool.eq_false_or_eq_true (decide (((af.length:Nat):Int) > 0))).elim (fun au=>?_) (fun au=>?_)
   ·
    have fx:=of_decide_eq_true au
    have dt:=bM.cast (env':=[(3,.p 0 0),(7,.p 2 0),(12,.v (.slice A l.length c)),(13,.v (.int .i64 ((l.length:Nat):Int))),(14,.v (.int .i64 ((k:Nat):Int))),(60,.v (.bool true))]) (by rw [au])
    refine qai [5,6,7,8,9] [] [(3,.p 0 0),(12,.v (.slice A l.length c)),(13,.v (.int .i64 ((l.length:Nat):Int))),(14,.v (.int .i64 ((k:Nat):Int))),(65,.v (.bool true))] aa dt fun gP bN=>?_
    refine qaf (qab ?_)
    refine qaW bN (b:=true) kz rfl ?_
    refine qan [(4,.v (.bool false))] aa bN fun gQ du=>?_
    refine wp_ret ?_
    refine qaw ?_
    refine qaw ?_
    refine qam ?_
    refine qam ?_
    refine qaw ?_
    refine qam ?_
    refine qaF du aa.cells (v:=.bool false) kz ?_
    first
     | exact (qfW hq_ ‹_› ‹_›).elim
     | exact (qfX hq_ ‹_› ‹_›).elim
     | exact (us_7 hq_ ‹_› ‹_›).elim
     | exact (qfY hq_ ‹_› ‹_›).elim
     | exact (qfZ hq_ ‹_› ‹_›).elim
     | exact (qd8 hq_ ‹_› ‹_›).elim
     | exact (qd9 hq_ ‹_› ‹_›).elim
     | exact (qf0 hq_ ‹_› ‹_› ‹_›).elim
     | exact (us_n hq_ ‹_› ‹_› ‹_› ‹_› ‹_› ‹_›).elim
   have fy:=of_decide_eq_false au
   have dv:=bM.cast (env':=[(3,.p 0 0),(7,.p 2 0),(12,.v (.slice A l.length c)),(13,.v (.int .i64 ((l.length:Nat):Int))),(14,.v (.int .i64 ((k:Nat):Int))),(60,.v (.bool false))]) (by rw [au])
   refine qai [5,6,7,8,9] [] [(3,.p 0 0),(12,.v (.slice A l.length c)),(13,.v (.int .i64 ((l.length:Nat):Int))),(14,.v (.int .i64 ((k:Nat):Int))),(65,.v (.bool (decide (((am.length:Nat):Int) > 0))))] aa dv fun gR bg=>?_
   refine qaf (qab ?_)
   refine qas bg (b:=decide (((am.length:Nat):Int) > 0)) kz (fun bh=>?_) (fun bh=>?_)
   ·
    have fz:=of_decide_eq_true bh
    refine qan [(4,.v (.bool false))] aa bg fun gS dw=>?_
    refine wp_ret ?_
    refine qaw ?_
    refine qaw ?_
    refine qam ?_
    refine qam ?_
    refine qaw ?_
    refine qam ?_
    refine qaF dw aa.cells (v:=.bool false) kz ?_
    first
     | exact (qfW hq_ ‹_› ‹_›).elim
     | exact (qfX hq_ ‹_› ‹_›).elim
     | exact (us_7 hq_ ‹_› ‹_›).elim
     | exact (qfY hq_ ‹_› ‹_›).elim
     | exact (qfZ hq_ ‹_› ‹_›).elim
     | exact (qd8 hq_ ‹_› ‹_›).elim
     | exact (qd9 hq_ ‹_› ‹_›).elim
     | exact (qf0 hq_ ‹_› ‹_› ‹_›).elim
     | exact (us_n hq_ ‹_› ‹_› ‹_› ‹_› ‹_› ‹_›).elim
   have fA:=of_decide_eq_false bh
   refine wp_skip ?_
   refine qaq ?_
   refine qaq ?_
   refine qab ?_
   refine qap [0,1] kz ?_
   refine qai [0,1] [] [(3,.p 0 0),(12,.v (.slice A l.length c)),(13,.v (.int .i64 ((l.length:Nat):Int))),(14,.v (.int .i64 (IntKind.i64.wrap (((k:Nat):Int) + 1))))] aa bg fun gT dx=>?_
   refine qaf (qab ?_)
   obtain ⟨bO,dy,dz⟩:=aa.cutB dx 1 [⟨bz,0,[.int .i64 n1,.slice A6 s2.length c7,.bool b3,.slice A8 l4.length c9,.slice aJ u5.length aK],true⟩] [(3,.p 0 0),(12,.v (.slice A l.length c)),(13,.v (.int .i64 ((l.length:Nat):Int))),(14,.v (.int .i64 (IntKind.i64.wrap (((k:Nat):Int) + 1))))]
   have dA:IntKind.i64.wrap (((k:Nat):Int) + 1) = ((k + 1:Nat):Int):=qaM (by omega)
   rw [dA] at bO
   exact ⟨l.length - (k + 1),by omega,k + 1,rfl,by omega,bO.pk,dy,((((((aj.trans ak).trans al).trans ag).trans ab).trans ac).trans dz)⟩
  have fB:ae ≠ 9:=by simpa using aI
  refine qap [0,1] kz ?_
  refine qai [0,1] [] [(3,.p 0 0),(6,.p 1 0),(7,.p 2 0),(12,.v (.slice A l.length c)),(13,.v (.int .i64 ((l.length:Nat):Int))),(14,.v (.int .i64 ((k:Nat):Int))),(23,.v (.int .i64 ae)),(53,.v (.bool (ae == 11)))] aa aH fun gU bi=>?_
  refine qaf (qab ?_)
  refine qas bi (b:=ae == 11) kz (fun bj=>?_) (fun bj=>?_)
  ·
   have fC:ae = 11:=by simpa using bj
   refine qae [0,1,2,3,4,5,6,7,8,9] kz ?_
   refine qai [0,1,2,3,4] [5,6,7,8,9] [(3,.p 0 0),(7,.p 2 0),(12,.v (.slice A l.length c)),(13,.v (.int .i64 ((l.length:Nat):Int))),(14,.v (.int .i64 ((k:Nat):Int))),(60,.v (.bool (decide (((af.length:Nat):Int) > 0))))] aa bi fun gV bP=>?_
   refine (Bool.eq_false_or_eq_true (decide (((af.length:Nat):Int) > 0))).elim (fun av=>?_) (fun av=>?_)
   ·
    have fD:=of_decide_eq_true av
    have dB:=bP.cast (env':=[(3,.p 0 0),(7,.p 2 0),(12,.v (.slice A l.length c)),(13,.v (.int .i64 ((l.length:Nat):Int))),(14,.v (.int .i64 ((k:Nat):Int))),(60,.v (.bool true))]) (by rw [av])
    refine qai [5,6,7,8,9] [] [(3,.p 0 0),(12,.v (.slice A l.length c)),(13,.v (.int .i64 ((l.length:Nat):Int))),(14,.v (.int .i64 ((k:Nat):Int))),(65,.v (.bool true))] aa dB fun gW bQ=>?_
    refine qaf (qab ?_)
    refine qaW bQ (b:=true) kz rfl ?_
    refine qan [(4,.v (.bool false))] aa bQ fun gX dC=>?_
    refine wp_ret ?_
    refine qaw ?_
    refine qaw ?_
    refine qam ?_
    refine qam ?_
    refine qaw ?_
    refine qam ?_
    refine qaF dC aa.cells (v:=.bool false) kz ?_
    first
     | exact (qfW hq_ ‹_› ‹_›).elim
     | exact (qfX hq_ ‹_› ‹_›).elim
     | exact (us_7 hq_ ‹_› ‹_›).elim
     | exact (qfY hq_ ‹_› ‹_›).elim
     | exact (qfZ hq_ ‹_› ‹_›).elim
     | exact (qd8 hq_ ‹_› ‹_›).elim
     | exact (qd9 hq_ ‹_› ‹_›).elim
     | exact (qf0 hq_ ‹_› ‹_› ‹_›).elim
     | exact (us_n hq_ ‹_› ‹_› ‹_› ‹_› ‹_› ‹_›).elim
   have fE:=of_decide_eq_false av
   have dD:=bP.cast (env':=[(3,.p 0 0),(7,.p 2 0),(12,.v (.slice A l.length c)),(13,.v (.int .i64 ((l.length:Nat):Int))),(14,.v (.int .i64 ((k:Nat):Int))),(60,.v (.bool false))]) (by rw [av])
   refine qai [5,6,7,8,9] [] [(3,.p 0 0),(12,.v (.slice A l.length c)),(13,.v (.int .i64 ((l.length:Nat):Int))),(14,.v (.int .i64 ((k:Nat):Int))),(65,.v (.bool (decide (((am.length:Nat):Int) > 0))))] aa dD fun gY bk=>?_
   refine qaf (qab ?_)
   refine qas bk (b:=decide (((am.length:Nat):Int) > 0)) kz (fun bn=>?_) (fun bn=>?_)
   ·
    have fF:=of_decide_eq_true bn
    refine qan [(4,.v (.bool false))] aa bk fun gZ dE=>?_
    refine wp_ret ?_
    refine qaw ?_
    refine qaw ?_
    refine qam ?_
    refine qam ?_
    refine qaw ?_
    refine qam ?_
    refine qaF dE aa.cells (v:=.bool false) kz ?_
    first
     | exact (qfW hq_ ‹_› ‹_›).elim
     | exact (qfX hq_ ‹_› ‹_›).elim
     | exact (us_7 hq_ ‹_› ‹_›).elim
     | exact (qfY hq_ ‹_› ‹_›).elim
     | exact (qfZ hq_ ‹_› ‹_›).elim
     | exact (qd8 hq_ ‹_› ‹_›).elim
     | exact (qd9 hq_ ‹_› ‹_›).elim
     | exact (qf0 hq_ ‹_› ‹_› ‹_›).elim
     | exact (us_n hq_ ‹_› ‹_› ‹_› ‹_› ‹_› ‹_›).elim
   have fG:=of_decide_eq_false bn
   refine wp_skip ?_
   refine qaq ?_
   refine qaq ?_
   refine qab ?_
   refine qap [0,1] kz ?_
   refine qai [0,1] [] [(3,.p 0 0),(12,.v (.slice A l.length c)),(13,.v (.int .i64 ((l.length:Nat):Int))),(14,.v (.int .i64 (IntKind.i64.wrap (((k:Nat):Int) + 1))))] aa bk fun g6 dF=>?_
   refine qaf (qab ?_)
   obtain ⟨bR,dG,dH⟩:=aa.cutB dF 1 [⟨bz,0,[.int .i64 n1,.slice A6 s2.length c7,.bool b3,.slice A8 l4.length c9,.slice aJ u5.length aK],true⟩] [(3,.p 0 0),(12,.v (.slice A l.length c)),(13,.v (.int .i64 ((l.length:Nat):Int))),(14,.v (.int .i64 (IntKind.i64.wrap (((k:Nat):Int) + 1))))]
   have dI:IntKind.i64.wrap (((k:Nat):Int) + 1) = ((k + 1:Nat):Int):=qaM (by omega)
   rw [dI] at bR
   exact ⟨l.length - (k + 1),by omega,k + 1,rfl,by omega,bR.pk,dG,((((((aj.trans ak).trans al).trans ag).trans ab).trans ac).trans dH)⟩
  have fH:ae ≠ 11:=by simpa using bj
  refine qan [(3,.p 0 0),(6,.p 1 0),(7,.p 2 0),(12,.v (.slice A l.length c)),(13,.v (.int .i64 ((l.length:Nat):Int))),(14,.v (.int .i64 ((k:Nat):Int))),(66,.v (.bool (ae == 10)))] aa bi fun g7 bo=>?_
  refine qas bo (b:=ae == 10) kz (fun bp=>?_) (fun bp=>?_)
  ·
   have fI:ae = 10:=by simpa using bp
   refine qae [0,1,2,3,4,5,6,7,8,9,10,11,12,13,14,15,16,17,18,19] kz ?_
   refine qai [0,1,2,3] [4,5,6,7,8,9,10,11,12,13,14,15,16,17,18,19] [(3,.p 0 0),(6,.p 1 0),(7,.p 2 0),(12,.v (.slice A l.length c)),(13,.v (.int .i64 ((l.length:Nat):Int))),(14,.v (.int .i64 ((k:Nat):Int))),(71,.v (.bool (decide (aE ≥ 0))))] aa bo fun g8 bS=>?_
   refine (Bool.eq_false_or_eq_true (decide (aE ≥ 0))).elim (fun aw=>?_) (fun aw=>?_)
   ·
    have fJ:=of_decide_eq_true aw
    have dJ:=bS.cast (env':=[(3,.p 0 0),(6,.p 1 0),(7,.p 2 0),(12,.v (.slice A l.length c)),(13,.v (.int .i64 ((l.length:Nat):Int))),(14,.v (.int .i64 ((k:Nat):Int))),(71,.v (.bool true))]) (by rw [aw])
    refine qai [4,5,6,7,8] [9,10,11,12,13,14,15,16,17,18,19] [(3,.p 0 0),(6,.p 1 0),(7,.p 2 0),(12,.v (.slice A l.length c)),(13,.v (.int .i64 ((l.length:Nat):Int))),(14,.v (.int .i64 ((k:Nat):Int))),(76,.v (.bool (!ah)))] aa dJ fun g9 bT=>?_
    refine (Bool.eq_false_or_eq_true (!ah)).elim (fun bq=>?_) (fun bq=>?_)
    ·
     have dK:=bT.cast (env':=[(3,.p 0 0),(6,.p 1 0),(7,.p 2 0),(12,.v (.slice A l.length c)),(13,.v (.int .i64 ((l.length:Nat):Int))),(14,.v (.int .i64 ((k:Nat):Int))),(76,.v (.bool true))]) (by rw [bq])
     refine qai [9,10,11,12,13,14,15,16,17,18,19] [] [(3,.p 0 0),(12,.v (.slice A l.length c)),(13,.v (.int .i64 ((l.length:Nat):Int))),(14,.v (.int .i64 ((k:Nat):Int))),(87,.v (.bool true))] aa dK fun hC bU=>?_
     refine qaf (qab ?_)
     refine qaW bU (b:=true) kz rfl ?_
     refine qan [(4,.v (.bool false))] aa bU fun hJ dL=>?_
     refine wp_ret ?_
     refine qaw ?_
     refine qaw ?_
     refine qam ?_
     refine qam ?_
     refine qaw ?_
     refine qam ?_
     refine qaF dL aa.cells (v:=.bool false) kz ?_
     first
      | exact (qfW hq_ ‹_› ‹_›).elim
      | exact (qfX hq_ ‹_› ‹_›).elim
      | exact (us_7 hq_ ‹_› ‹_›).elim
      | exact (qfY hq_ ‹_› ‹_›).elim
      | exact (qfZ hq_ ‹_› ‹_›).elim
      | exact (qd8 hq_ ‹_› ‹_›).elim
      | exact (qd9 hq_ ‹_› ‹_›).elim
      | exact (qf0 hq_ ‹_› ‹_› ‹_›).elim
      | exact (us_n hq_ ‹_› ‹_› ‹_› ‹_› ‹_› ‹_›).elim
    have dM:=bT.cast (env':=[(3,.p 0 0),(6,.p 1 0),(7,.p 2 0),(12,.v (.slice A l.length c)),(13,.v (.int .i64 ((l.length:Nat):Int))),(14,.v (.int .i64 ((k:Nat):Int))),(76,.v (.bool false))]) (by rw [bq])
    refine qai [9,10,11,12] [13,14,15,16,17,18,19] [(3,.p 0 0),(6,.p 1 0),(7,.p 2 0),(12,.v (.slice A l.length c)),(13,.v (.int .i64 ((l.length:Nat):Int))),(14,.v (.int .i64 ((k:Nat):Int))),(76,.v (.bool false)),(80,.v (.bool (decide (aE < 0))))] aa dM fun hK bV=>?_
    refine (Bool.eq_false_or_eq_true (decide (aE < 0))).elim (fun ax=>?_) (fun ax=>?_)
    ·
     have fK:=of_decide_eq_true ax
     have dN:=bV.cast (env':=[(3,.p 0 0),(6,.p 1 0),(7,.p 2 0),(12,.v (.slice A l.length c)),(13,.v (.int .i64 ((l.length:Nat):Int))),(14,.v (.int .i64 ((k:Nat):Int))),(76,.v (.bool false)),(80,.v (.bool true))]) (by rw [ax])
     refine qai [13,14,15] [16,17,18,19] [(3,.p 0 0),(12,.v (.slice A l.length c)),(13,.v (.int .i64 ((l.length:Nat):Int))),(14,.v (.int .i64 ((k:Nat):Int))),(76,.v (.bool false)),(80,.v (.bool true)),(82,.v (.slice bC bA.length bD)),(83,.v (.agg #[.int .i64 ai,.slice aC af.length aD,.bool ah,.slice aP am.length aQ,.slice aR aO.length aS]))] aa dN fun hZ dO=>?_
     refine qak (qaj dO (f:=80) (vs:=[.slice bC bA.length bD,.agg #[.int .i64 ai,.slice aC af.length aD,.bool ah,.slice aP am.length aQ,.slice aR aO.length aS]]) (d:=84) kz Tryz.call80 ( hu _ _ bA _ _ _ _ ⟨cK,(eN.move aa.step nilM aa.imm),(fun i_ x_ h_=>((fb i_ x_ h_).move aa.step nilM aa.imm))⟩ (aF.move (ab.trans ac).step immM (ab.trans ac).to') (by rw [aT]; exact qkv hq_ ‹_› ‹_›)) ?_)
     rintro e_ ia ⟨rfl,bW⟩
     refine ⟨_,rfl,fun ib dP=>?_⟩
     have bt:=aa.next_nil bW
     have dQ:=aa.frN bW
     refine qai [17,18,19] [] [(3,.p 0 0),(12,.v (.slice A l.length c)),(13,.v (.int .i64 ((l.length:Nat):Int))),(14,.v (.int .i64 ((k:Nat):Int))),(87,.v (.bool false))] bt dP fun ic bX=>?_
     refine qaf (qab ?_)
     refine qao bX (b:=false) kz rfl ?_
     refine wp_skip ?_
     refine qaq ?_
     refine qaq ?_
     refine qab ?_
     refine qap [0,1] kz ?_
     refine qai [0,1] [] [(3,.p 0 0),(12,.v (.slice A l.length c)),(13,.v (.int .i64 ((l.length:Nat):Int))),(14,.v (.int .i64 (IntKind.i64.wrap (((k:Nat):Int) + 1))))] bt bX fun ig dR=>?_
     refine qaf (qab ?_)
     obtain ⟨bY,dS,dT⟩:=bt.cutB dR 1 [⟨bz,0,[.int .i64 n1,.slice A6 s2.length c7,.bool b3,.slice A8 l4.length c9,.slice aJ u5.length aK],true⟩] [(3,.p 0 0),(12,.v (.slice A l.length c)),(13,.v (.int .i64 ((l.length:Nat):Int))),(14,.v (.int .i64 (IntKind.i64.wrap (((k:Nat):Int) + 1))))]
     have dU:IntKind.i64.wrap (((k:Nat):Int) + 1) = ((k + 1:Nat):Int):=qaM (by omega)
     rw [dU] at bY
     exact ⟨l.length - (k + 1),by omega,k + 1,rfl,by omega,bY.pk,dS,(((((((aj.trans ak).trans al).trans ag).trans ab).trans ac).trans dQ).trans dT)⟩
    have fL:=of_decide_eq_false ax
    have dV:=bV.cast (env':=[(3,.p 0 0),(6,.p 1 0),(7,.p 2 0),(12,.v (.slice A l.length c)),(13,.v (.int .i64 ((l.length:Nat):Int))),(14,.v (.int .i64 ((k:Nat):Int))),(76,.v (.bool false)),(80,.v (.bool false))]) (by rw [ax])
    refine qai [13,14,15,16,17,18,19] [] [(3,.p 0 0),(12,.v (.slice A l.length c)),(13,.v (.int .i64 ((l.length:Nat):Int))),(14,.v (.int .i64 ((k:Nat):Int))),(87,.v (.bool false))] aa dV fun ii bZ=>?_
    refine qaf (qab ?_)
    refine qao bZ (b:=false) kz rfl ?_
    refine wp_skip ?_
    refine qaq ?_
    refine qaq ?_
    refine qab ?_
    refine qap [0,1] kz ?_
    refine qai [0,1] [] [(3,.p 0 0),(12,.v (.slice A l.length c)),(13,.v (.int .i64 ((l.length:Nat):Int))),(14,.v (.int .i64 (IntKind.i64.wrap (((k:Nat):Int) + 1))))] aa bZ fun ij dW=>?_
    refine qaf (qab ?_)
    obtain ⟨b8,dX,dY⟩:=aa.cutB dW 1 [⟨bz,0,[.int .i64 n1,.slice A6 s2.length c7,.bool b3,.slice A8 l4.length c9,.slice aJ u5.length aK],true⟩] [(3,.p 0 0),(12,.v (.slice A l.length c)),(13,.v (.int .i64 ((l.length:Nat):Int))),(14,.v (.int .i64 (IntKind.i64.wrap (((k:Nat):Int) + 1))))]
    have dZ:IntKind.i64.wrap (((k:Nat):Int) + 1) = ((k + 1:Nat):Int):=qaM (by omega)
    rw [dZ] at b8
    exact ⟨l.length - (k + 1),by omega,k + 1,rfl,by omega,b8.pk,dX,((((((aj.trans ak).trans al).trans ag).trans ab).trans ac).trans dY)⟩
   have fM:=of_decide_eq_false aw
   have d5:=bS.cast (env':=[(3,.p 0 0),(6,.p 1 0),(7,.p 2 0),(12,.v (.slice A l.length c)),(13,.v (.int .i64 ((l.length:Nat):Int))),(14,.v (.int .i64 ((k:Nat):Int))),(71,.v (.bool false))]) (by rw [aw])
   refine qai [4,5,6,7,8,9,10,11,12] [13,14,15,16,17,18,19] [(3,.p 0 0),(6,.p 1 0),(7,.p 2 0),(12,.v (.slice A l.length c)),(13,.v (.int .i64 ((l.length:Nat):Int))),(14,.v (.int .i64 ((k:Nat):Int))),(76,.v (.bool false)),(80,.v (.bool (decide (aE < 0))))] aa d5 fun ik cd=>?_
   refine (Bool.eq_false_or_eq_true (decide (aE < 0))).elim (fun ay=>?_) (fun ay=>?_)
   ·
    have fN:=of_decide_eq_true ay
    have d6:=cd.cast (env':=[(3,.p 0 0),(6,.p 1 0),(7,.p 2 0),(12,.v (.slice A l.length c)),(13,.v (.int .i64 ((l.length:Nat):Int))),(14,.v (.int .i64 ((k:Nat):Int))),(76,.v (.bool false)),(80,.v (.bool true))]) (by rw [ay])
    refine qai [13,14,15] [16,17,18,19] [(3,.p 0 0),(12,.v (.slice A l.length c)),(13,.v (.int .i64 ((l.length:Nat):Int))),(14,.v (.int .i64 ((k:Nat):Int))),(76,.v (.bool false)),(80,.v (.bool true)),(82,.v (.slice bC bA.length bD)),(83,.v (.agg #[.int .i64 ai,.slice aC af.length aD,.bool ah,.slice aP am.length aQ,.slice aR aO.length aS]))] aa d6 fun il d7=>?_
    refine qak (qaj d7 (f:=80) (vs:=[.slice bC bA.length bD,.agg #[.int .i64 ai,.slice aC af.length aD,.bool ah,.slice aP am.length aQ,.slice aR aO.length aS]]) (d:=84) kz Tryz.call80 ( hu _ _ bA _ _ _ _ ⟨cK,(eN.move aa.step nilM aa.imm),(fun i_ x_ h_=>((fb i_ x_ h_).move aa.step nilM aa.imm))⟩ (aF.move (ab.trans ac).step immM (ab.trans ac).to') (by rw [aT]; exact qkv hq_ ‹_› ‹_›)) ?_)
    rintro e_ im ⟨rfl,ce⟩
    refine ⟨_,rfl,fun io d8=>?_⟩
    have bu:=aa.next_nil ce
    have d9:=aa.frN ce
    refine qai [17,18,19] [] [(3,.p 0 0),(12,.v (.slice A l.length c)),(13,.v (.int .i64 ((l.length:Nat):Int))),(14,.v (.int .i64 ((k:Nat):Int))),(87,.v (.bool false))] bu d8 fun ip cm=>?_
    refine qaf (qab ?_)
    refine qao cm (b:=false) kz rfl ?_
    refine wp_skip ?_
    refine qaq ?_
    refine qaq ?_
    refine qab ?_
    refine qap [0,1] kz ?_
    refine qai [0,1] [] [(3,.p 0 0),(12,.v (.slice A l.length c)),(13,.v (.int .i64 ((l.length:Nat):Int))),(14,.v (.int .i64 (IntKind.i64.wrap (((k:Nat):Int) + 1))))] bu cm fun iq ea=>?_
    refine qaf (qab ?_)
    obtain ⟨cq,eb,ec⟩:=bu.cutB ea 1 [⟨bz,0,[.int .i64 n1,.slice A6 s2.length c7,.bool b3,.slice A8 l4.length c9,.slice aJ u5.length aK],true⟩] [(3,.p 0 0),(12,.v (.slice A l.length c)),(13,.v (.int .i64 ((l.length:Nat):Int))),(14,.v (.int .i64 (IntKind.i64.wrap (((k:Nat):Int) + 1))))]
    have ee:IntKind.i64.wrap (((k:Nat):Int) + 1) = ((k + 1:Nat):Int):=qaM (by omega)
    rw [ee] at cq
    exact ⟨l.length - (k + 1),by omega,k + 1,rfl,by omega,cq.pk,eb,(((((((aj.trans ak).trans al).trans ag).trans ab).trans ac).trans d9).trans ec)⟩
   have fO:=of_decide_eq_false ay
   have ef:=cd.cast (env':=[(3,.p 0 0),(6,.p 1 0),(7,.p 2 0),(12,.v (.slice A l.length c)),(13,.v (.int .i64 ((l.length:Nat):Int))),(14,.v (.int .i64 ((k:Nat):Int))),(76,.v (.bool false)),(80,.v (.bool false))]) (by rw [ay])
   refine qai [13,14,15,16,17,18,19] [] [(3,.p 0 0),(12,.v (.slice A l.length c)),(13,.v (.int .i64 ((l.length:Nat):Int))),(14,.v (.int .i64 ((k:Nat):Int))),(87,.v (.bool false))] aa ef fun ir cr=>?_
   refine qaf (qab ?_)
   refine qao cr (b:=false) kz rfl ?_
   refine wp_skip ?_
   refine qaq ?_
   refine qaq ?_
   refine qab ?_
   refine qap [0,1] kz ?_
   refine qai [0,1] [] [(3,.p 0 0),(12,.v (.slice A l.length c)),(13,.v (.int .i64 ((l.length:Nat):Int))),(14,.v (.int .i64 (IntKind.i64.wrap (((k:Nat):Int) + 1))))] aa cr fun iu eg=>?_
   refine qaf (qab ?_)
   obtain ⟨cu,eh,ei⟩:=aa.cutB eg 1 [⟨bz,0,[.int .i64 n1,.slice A6 s2.length c7,.bool b3,.slice A8 l4.length c9,.slice aJ u5.length aK],true⟩] [(3,.p 0 0),(12,.v (.slice A l.length c)),(13,.v (.int .i64 ((l.length:Nat):Int))),(14,.v (.int .i64 (IntKind.i64.wrap (((k:Nat):Int) + 1))))]
   have ej:IntKind.i64.wrap (((k:Nat):Int) + 1) = ((k + 1:Nat):Int):=qaM (by omega)
   rw [ej] at cu
   exact ⟨l.length - (k + 1),by omega,k + 1,rfl,by omega,cu.pk,eh,((((((aj.trans ak).trans al).trans ag).trans ab).trans ac).trans ei)⟩
  have fP:ae ≠ 10:=by simpa using bp
  refine qaI 8 kz aa fun iv ek cw em=>?_
  refine qaG [0,1,2,3,4,5] [(3,.p 0 0),(12,.v (.slice A l.length c)),(13,.v (.int .i64 ((l.length:Nat):Int))),(14,.v (.int .i64 ((k:Nat):Int))),(25,.v (.int .i64 ai)),(27,.v (.int .i64 ae)),(29,.v (.int .i64 aM))] 2 (qaa (qac (qac (qaa (qaa (qac (qaa qag))))))) (fun _ h=>h.cells) em bo fun iw eo=>?_
  refine qaA (i:=6) kz (qaj eo (f:=48) (vs:=[.int .i64 ae,.int .i64 aM]) (d:=30) kz Tryz.call48 (qf3 ae aM _) ?_)
  rintro e_ ix ⟨rfl,cz⟩
  refine ⟨_,rfl,fun iy ep=>?_⟩
  have az:=cw.next_nil cz
  have cA:=cw.frN cz
  have cB:=TT.ofW cA az
  refine ⟨fun _=>cB,?_⟩
  refine qaG [7] [(3,.p 0 0),(12,.v (.slice A l.length c)),(13,.v (.int .i64 ((l.length:Nat):Int))),(14,.v (.int .i64 ((k:Nat):Int))),(31,.v (.bool (ai != (qbc ae aM))))] 0 (qaa (qac (qac (qaa (qaa (qac (qaa qag))))))) (fun _ h=>h.cells) cB ep fun iz bw=>?_
  refine qaE kz ?_ _
  refine qab ?_
  refine qas bw (b:=ai != (qbc ae aM)) kz (fun bx=>?_) (fun bx=>?_)
  ·
   have fQ:ai ≠ (qbc ae aM):=by simpa using bx
   refine qan [(4,.v (.bool false))] az bw fun iA eu=>?_
   refine wp_ret ?_
   refine qaw ?_
   refine qaw ?_
   refine qam ?_
   refine qam ?_
   refine qaw ?_
   refine qam ?_
   refine qaF eu az.cells (v:=.bool false) kz ?_
   first
    | exact (qfW hq_ ‹_› ‹_›).elim
    | exact (qfX hq_ ‹_› ‹_›).elim
    | exact (us_7 hq_ ‹_› ‹_›).elim
    | exact (qfY hq_ ‹_› ‹_›).elim
    | exact (qfZ hq_ ‹_› ‹_›).elim
    | exact (qd8 hq_ ‹_› ‹_›).elim
    | exact (qd9 hq_ ‹_› ‹_›).elim
    | exact (qf0 hq_ ‹_› ‹_› ‹_›).elim
    | exact (us_n hq_ ‹_› ‹_› ‹_› ‹_› ‹_› ‹_›).elim
  have fR:ai = (qbc ae aM):=by simpa using bx
  refine wp_skip ?_
  refine qaq ?_
  refine qaq ?_
  refine qab ?_
  refine qap [0,1] kz ?_
  refine qai [0,1] [] [(3,.p 0 0),(12,.v (.slice A l.length c)),(13,.v (.int .i64 ((l.length:Nat):Int))),(14,.v (.int .i64 (IntKind.i64.wrap (((k:Nat):Int) + 1))))] az bw fun iB ev=>?_
  refine qaf (qab ?_)
  obtain ⟨cC,ew,ey⟩:=az.cutB ev 1 [⟨bz,0,[.int .i64 n1,.slice A6 s2.length c7,.bool b3,.slice A8 l4.length c9,.slice aJ u5.length aK],true⟩] [(3,.p 0 0),(12,.v (.slice A l.length c)),(13,.v (.int .i64 ((l.length:Nat):Int))),(14,.v (.int .i64 (IntKind.i64.wrap (((k:Nat):Int) + 1))))]
  have ez:IntKind.i64.wrap (((k:Nat):Int) + 1) = ((k + 1:Nat):Int):=qaM (by omega)
  rw [ez] at cC
  exact ⟨l.length - (k + 1),by omega,k + 1,rfl,by omega,cC.pk,ew,((((((((aj.trans ak).trans al).trans ag).trans ab).trans ac).trans ek).trans cA).trans ey)⟩
 have fS:=of_decide_eq_false cH
 refine wp_exit ?_
 refine qaB ?_
 refine qaB ?_
 refine qaL ?_
 refine qab ?_
 refine qan [(4,.v (.bool true))] aB cG fun iC eB=>?_
 refine wp_ret ?_
 refine qaF eB aB.cells (v:=.bool true) kz ?_
 exact ⟨rfl,aB.step⟩
theorem qjA:∀ d,UsOK (qjt d)
 | 0=>sUs fun _ _ _ _ _ _ _ _ _ h=>h.elim
 | d + 1=>sUs (qjA d)
def ToOK (v:Int) (flex:Bool) (T:List Fld → Tree → Tree → Prop):Prop:=∀ (A:Option Addr) (c:Nat) (l:List Fld) (ct:List Value) (t:Tree) (cg:List Value) (g:Tree) (w:World) (F:Nat → Nat → Prop),FldsR w F A c l → TreeR w F ct t → TreeR w F cg g → plains l → T l t g →
  Calls Tryz.prog 30 #[.slice A l.length c,.int .i64 v,.bool flex,.agg ct.toArray,.agg cg.toArray] w (qbX w (.bool true))
theorem qhD {v:Int} {flex:Bool} {T:List Fld → Tree → Tree → Prop} (hT:ToOK v flex T) (cf:List Value) (f:Fld) (ct:List Value) (t:Tree) (cg:List Value) (g:Tree) (w:World) (F:Nat → Nat → Prop) (hf:FldR w F cf f) (hpl:plains f.sub) (bt:f.kind ≠ 11) (ht:TreeR w F ct t) (hg:TreeR w F cg g) (hq:ToF0 T v f t g) :
  Calls Tryz.prog 79 #[.agg cf.toArray,.int .i64 v,.bool flex,.agg ct.toArray,.agg cg.toArray] w (qbX w (.bool true)):=by
 obtain ⟨k1,y2,y3,y4,y5,y6,y7,l8,A9,dT,d5,rfl,rfl,iJ,ja⟩:=hf.open_
 have jb:=iJ.small
 obtain ⟨ac,ab,ae,af,ag,ai,aj,dU,dV,dW,dX,kK,rfl,rfl,aH,kL,oQ,oR⟩:=ht.open_
 have jc:=aH.small
 have jd:=kL.small
 obtain ⟨aN,ah,ap,dY,dZ,al,am,d6,d7,d8,d9,kM,rfl,rfl,bq,kN,oS,oT⟩:=hg.open_
 have je:=bq.small
 have jf:=kN.small
 replace hpl:plains l8:=hpl
 have bt:k1 ≠ 11:=bt
 refine enter (n:=124) Tryz.func79 rfl Tryz.ntmps79 kz fun a hE=>?_
 have hW:=WOk.start w Nil
 refine qae [0,1,2,3] kz ?_
 refine qak (qa7 hW hE (d:=5) (cs:=[.int .i64 k1,.int .i64 y2,.int .i64 y3,.int .i64 y4,.int .i64 y5,.int .i64 y6,.int .i64 y7,.slice A9 l8.length dT]) kz fun oU oV oW kO kP kQ iK iL=>?_)
 refine qak (qa7 iK iL (d:=8) (cs:=[.int .i64 ac,.slice ai ab.length aj,.bool ae,.slice dU af.length dV,.slice dW ag.length dX]) kz fun oX oY oZ kR kS kT iM iN=>?_)
 refine qak (qa7 iM iN (d:=9) (cs:=[.int .i64 aN,.slice al ah.length am,.bool ap,.slice d6 dY.length d7,.slice d8 dZ.length d9]) kz fun o5 o6 o7 kU kV kW cJ iO=>?_)
 refine qai [3] [] [(1,.v (.int .i64 v)),(2,.v (.bool flex)),(5,.p 0 0),(8,.p 1 0),(9,.p 2 0)] cJ iO fun o9 iP=>?_
 refine qaf (qab ?_)
 refine qae [0,1,2,3,4] kz ?_
 refine qai [0,1,2] [3,4] [(1,.v (.int .i64 v)),(2,.v (.bool flex)),(5,.p 0 0),(8,.p 1 0),(9,.p 2 0),(17,.v (.agg #[.int .i64 k1,.int .i64 y2,.int .i64 y3,.int .i64 y4,.int .i64 y5,.int .i64 y6,.int .i64 y7,.slice A9 l8.length dT])),(18,.v (.int .i64 v)),(19,.v (.agg #[.int .i64 ac,.slice ai ab.length aj,.bool ae,.slice dU af.length dV,.slice dW ag.length dX]))] cJ iP fun pa iQ=>?_
 refine qak (qaj iQ (f:=126) (vs:=[.agg #[.int .i64 k1,.int .i64 y2,.int .i64 y3,.int .i64 y4,.int .i64 y5,.int .i64 y6,.int .i64 y7,.slice A9 l8.length dT],.int .i64 v,.agg #[.int .i64 ac,.slice ai ab.length aj,.bool ae,.slice dU af.length dV,.slice dW ag.length dX]]) (d:=20) kz Tryz.call126 (qkS k1 y2 y3 y4 y5 y6 y7 l8 _ _ v ac ab ae af ag _ _ _ _ _ _ _) ?_)
 rintro e_ pb ⟨rfl,ea⟩
 refine ⟨_,rfl,fun pc iR=>?_⟩
 have aa:=cJ.next_nil ea
 have kX:=cJ.frN ea
 refine qai [4] [] [(1,.v (.int .i64 v)),(2,.v (.bool flex)),(5,.p 0 0),(8,.p 1 0),(9,.p 2 0),(11,.v (.bool (Fld.nul (Fld.mk k1 y2 y3 y4 y5 y6 y7 l8) v (Tree.mk ac ab ae af ag))))] aa iR fun pd iS=>?_
 refine qaf (qab ?_)
 refine qae [0,1,2,3,4,5,6,7,8,9] kz ?_
 refine qai [0,1,2,3] [4,5,6,7,8,9] [(1,.v (.int .i64 v)),(2,.v (.bool flex)),(5,.p 0 0),(8,.p 1 0),(9,.p 2 0),(11,.v (.bool (Fld.nul (Fld.mk k1 y2 y3 y4 y5 y6 y7 l8) v (Tree.mk ac ab ae af ag)))),(24,.v (.bool (decide (y4 ≥ 0))))] aa iS fun pe eb=>?_
 refine (Bool.eq_false_or_eq_true (decide (y4 ≥ 0))).elim (fun bu=>?_) (fun bu=>?_)
 ·
  have kY:=of_decide_eq_true bu
  have iT:=eb.cast (env':=[(1,.v (.int .i64 v)),(2,.v (.bool flex)),(5,.p 0 0),(8,.p 1 0),(9,.p 2 0),(11,.v (.bool (Fld.nul (Fld.mk k1 y2 y3 y4 y5 y6 y7 l8) v (Tree.mk ac ab ae af ag)))),(24,.v (.bool true))]) (by rw [bu])
  refine qai [4,5,6,7,8,9] [] [(1,.v (.int .i64 v)),(2,.v (.bool flex)),(5,.p 0 0),(8,.p 1 0),(9,.p 2 0),(11,.v (.bool (Fld.nul (Fld.mk k1 y2 y3 y4 y5 y6 y7 l8) v (Tree.mk ac ab ae af ag)))),(12,.v (.bool (decide (v ≥ y4))))] aa iT fun pf iU=>?_
  refine qaf (qab ?_)
  refine wp_seq ?_
  refine qae [0,1,2,3,4,5,6,7,8,9,10,11,12,13,14,15,16] kz ?_
  refine qai [0,1,2,3] [4,5,6,7,8,9,10,11,12,13,14,15,16] [(1,.v (.int .i64 v)),(2,.v (.bool flex)),(5,.p 0 0),(8,.p 1 0),(9,.p 2 0),(11,.v (.bool (Fld.nul (Fld.mk k1 y2 y3 y4 y5 y6 y7 l8) v (Tree.mk ac ab ae af ag)))),(12,.v (.bool (decide (v ≥ y4)))),(33,.v (.bool (k1 == 8)))] aa iU fun pg cK=>?_
  refine (Bool.eq_false_or_eq_true (k1 == 8)).elim (fun ak=>?_) (fun ak=>?_)
  ·
   have jg:k1 = 8:=by simpa using ak
   have ec:=cK.cast (env':=[(1,.v (.int .i64 v)),(2,.v (.bool flex)),(5,.p 0 0),(8,.p 1 0),(9,.p 2 0),(11,.v (.bool (Fld.nul (Fld.mk k1 y2 y3 y4 y5 y6 y7 l8) v (Tree.mk ac ab ae af ag)))),(12,.v (.bool (decide (v ≥ y4)))),(33,.v (.bool true))]) (by rw [ak])
   refine qai [4,5,6,7,8,9,10,11,12,13,14,15,16] [] [(1,.v (.int .i64 v)),(2,.v (.bool flex)),(5,.p 0 0),(8,.p 1 0),(9,.p 2 0),(11,.v (.bool (Fld.nul (Fld.mk k1 y2 y3 y4 y5 y6 y7 l8) v (Tree.mk ac ab ae af ag)))),(46,.v (.bool (!(ap == (Fld.nul (Fld.mk k1 y2 y3 y4 y5 y6 y7 l8) v (Tree.mk ac ab ae af ag))))))] aa ec fun kZ bw=>?_
   refine qaf (qab ?_)
   refine qas bw (b:=!(ap == (Fld.nul (Fld.mk k1 y2 y3 y4 y5 y6 y7 l8) v (Tree.mk ac ab ae af ag)))) kz (fun bx=>?_) (fun bx=>?_)
   ·
    have jh:!(ap = (Fld.nul (Fld.mk k1 y2 y3 y4 y5 y6 y7 l8) v (Tree.mk ac ab ae af ag))):=by simpa using bx
    refine qan [(10,.v (.bool false))] aa bw fun k5 ee=>?_
    refine wp_ret ?_
    refine qam ?_
    refine qaF ee aa.cells (v:=.bool false) kz ?_
    first
     | exact (qjw hq ‹_› ‹_›).elim
     | exact (qgE hq ‹_› ‹_›).elim
     | exact (qf1 hq ‹_› ‹_› ‹_›).elim
   have ji:!(ap ≠ (Fld.nul (Fld.mk k1 y2 y3 y4 y5 y6 y7 l8) v (Tree.mk ac ab ae af ag))):=by simpa using bx
   refine wp_skip ?_
   refine qab ?_
   refine wp_seq ?_
   refine qan [(1,.v (.int .i64 v)),(2,.v (.bool flex)),(5,.p 0 0),(8,.p 1 0),(9,.p 2 0),(47,.v (.bool (Fld.nul (Fld.mk k1 y2 y3 y4 y5 y6 y7 l8) v (Tree.mk ac ab ae af ag))))] aa bw fun k6 bz=>?_
   refine qas bz (b:=Fld.nul (Fld.mk k1 y2 y3 y4 y5 y6 y7 l8) v (Tree.mk ac ab ae af ag)) kz (fun ef=>?_) (fun ef=>?_)
   ·
    refine qan [(10,.v (.bool true))] aa bz fun k7 eg=>?_
    refine wp_ret ?_
    refine qam ?_
    refine qaF eg aa.cells (v:=.bool true) kz ?_
    exact ⟨rfl,aa.step⟩
   refine wp_skip ?_
   refine qab ?_
   refine wp_seq ?_
   refine qan [(1,.v (.int .i64 v)),(2,.v (.bool flex)),(5,.p 0 0),(8,.p 1 0),(9,.p 2 0),(49,.v (.int .i64 k1))] aa bz fun k8 eh=>?_
   refine wp_block ?_
   refine wp_seq ?_
   refine qan [(1,.v (.int .i64 v)),(2,.v (.bool flex)),(5,.p 0 0),(8,.p 1 0),(9,.p 2 0),(49,.v (.int .i64 k1)),(50,.v (.bool (k1 == 8)))] aa eh fun k9 bA=>?_
   refine qaW bA (b:=k1 == 8) kz (ak) ?_
   refine wp_skip ?_
   refine qab ?_
   refine qaW bA (b:=k1 == 8) kz (ak) ?_
   refine qaI 6 kz aa fun la jj aU ei=>?_
   refine qaG [0,1,2,3] [(54,.v (.slice al ah.length am)),(56,.v (.slice ai ab.length aj))] 3 (qaa (qac (qaa qag))) (fun _ h=>h.cells) ei bA fun lb ej=>?_
   have iV:=qa6 ab
   refine qaA (i:=4) kz (qaj ej (f:=83) (vs:=[.slice ai ab.length aj]) (d:=57) kz Tryz.call83 (qdc _ _ ab (aH.move aU.step nilM aU.imm).le _) ?_)
   rintro e_ lc ⟨rfl,cL⟩
   refine ⟨_,rfl,fun ld ek=>?_⟩
   have az:=aU.next_nil cL
   have cM:=aU.frN cL
   have em:=TT.ofW cM az
   refine ⟨fun _=>em,?_⟩
   refine qaA (i:=5) kz (qaj ek (f:=82) (vs:=[.slice al ah.length am,.slice ai ((qaD ab).length) aj]) (d:=58) kz Tryz.call82 (qdM _ _ _ _ ah (qaD ab) _ _ ((bq.move az.step nilM az.imm).move (Step.refl _ Nil) nilM allF) (((aH.take 32767).move az.step nilM az.imm).move (Step.refl _ Nil) nilM allF)) ?_)
   rintro e_ lf ⟨rfl,cN⟩
   refine ⟨_,rfl,fun lg eo=>?_⟩
   have aV:=az.next_nil cN
   have ep:=az.frN cN
   have eu:=TT.ofW (cM.trans ep) aV
   refine ⟨fun _=>eu,?_⟩
   refine qaA (i:=6) kz (qa9 [10] aV.cells eo (env':=[(10,.v (.bool (decide (ah = (qaD ab)))))]) kz fun lh ev=>?_)
   refine ⟨fun h=>absurd rfl h,?_⟩
   refine qaE kz ?_ _
   refine qab ?_
   refine wp_ret ?_
   refine qaw ?_
   refine qam ?_
   refine qaF ev aV.cells (v:=.bool (decide (ah = (qaD ab)))) kz ?_
   refine ⟨congrArg (fun b_=>Ending.returned (Value.bool b_)) ?_,aV.step⟩
   first
    | exact qdQ hq ‹_› ‹_›
    | exact qdR hq ‹_› ‹_›
    | exact to_u hq ‹_› ‹_›
    | exact to_m hq ‹_› ‹_› ‹_› ‹_› ‹_› ‹_›
  have jk:k1 ≠ 8:=by simpa using ak
  have ew:=cK.cast (env':=[(1,.v (.int .i64 v)),(2,.v (.bool flex)),(5,.p 0 0),(8,.p 1 0),(9,.p 2 0),(11,.v (.bool (Fld.nul (Fld.mk k1 y2 y3 y4 y5 y6 y7 l8) v (Tree.mk ac ab ae af ag)))),(12,.v (.bool (decide (v ≥ y4)))),(33,.v (.bool false))]) (by rw [ak])
  refine qai [4,5,6,7,8] [9,10,11,12,13,14,15,16] [(1,.v (.int .i64 v)),(2,.v (.bool flex)),(5,.p 0 0),(8,.p 1 0),(9,.p 2 0),(11,.v (.bool (Fld.nul (Fld.mk k1 y2 y3 y4 y5 y6 y7 l8) v (Tree.mk ac ab ae af ag)))),(12,.v (.bool (decide (v ≥ y4)))),(38,.v (.bool (k1 == 10)))] aa ew fun li cO=>?_
  refine (Bool.eq_false_or_eq_true (k1 == 10)).elim (fun ay=>?_) (fun ay=>?_)
  ·
   have jl:k1 = 10:=by simpa using ay
   have ey:=cO.cast (env':=[(1,.v (.int .i64 v)),(2,.v (.bool flex)),(5,.p 0 0),(8,.p 1 0),(9,.p 2 0),(11,.v (.bool (Fld.nul (Fld.mk k1 y2 y3 y4 y5 y6 y7 l8) v (Tree.mk ac ab ae af ag)))),(12,.v (.bool (decide (v ≥ y4)))),(38,.v (.bool true))]) (by rw [ay])
   refine qai [9,10,11,12,13,14,15,16] [] [(1,.v (.int .i64 v)),(2,.v (.bool flex)),(5,.p 0 0),(8,.p 1 0),(9,.p 2 0),(11,.v (.bool (Fld.nul (Fld.mk k1 y2 y3 y4 y5 y6 y7 l8) v (Tree.mk ac ab ae af ag)))),(46,.v (.bool (!(ap == (Fld.nul (Fld.mk k1 y2 y3 y4 y5 y6 y7 l8) v (Tree.mk ac ab ae af ag))))))] aa ey fun lj bB=>?_
   refine qaf (qab ?_)
   refine qas bB (b:=!(ap == (Fld.nul (Fld.mk k1 y2 y3 y4 y5 y6 y7 l8) v (Tree.mk ac ab ae af ag)))) kz (fun bC=>?_) (fun bC=>?_)
   ·
    have jm:!(ap = (Fld.nul (Fld.mk k1 y2 y3 y4 y5 y6 y7 l8) v (Tree.mk ac ab ae af ag))):=by simpa using bC
    refine qan [(10,.v (.bool false))] aa bB fun lm ez=>?_
    refine wp_ret ?_
    refine qam ?_
    refine qaF ez aa.cells (v:=.bool false) kz ?_
    first
     | exact (qjw hq ‹_› ‹_›).elim
     | exact (qgE hq ‹_› ‹_›).elim
     | exact (qf1 hq ‹_› ‹_› ‹_›).elim
   have jn:!(ap ≠ (Fld.nul (Fld.mk k1 y2 y3 y4 y5 y6 y7 l8) v (Tree.mk ac ab ae af ag))):=by simpa using bC
   refine wp_skip ?_
   refine qab ?_
   refine wp_seq ?_
   refine qan [(1,.v (.int .i64 v)),(2,.v (.bool flex)),(5,.p 0 0),(8,.p 1 0),(9,.p 2 0),(47,.v (.bool (Fld.nul (Fld.mk k1 y2 y3 y4 y5 y6 y7 l8) v (Tree.mk ac ab ae af ag))))] aa bB fun ln bD=>?_
   refine qas bD (b:=Fld.nul (Fld.mk k1 y2 y3 y4 y5 y6 y7 l8) v (Tree.mk ac ab ae af ag)) kz (fun eB=>?_) (fun eB=>?_)
   ·
    refine qan [(10,.v (.bool true))] aa bD fun lp eC=>?_
    refine wp_ret ?_
    refine qam ?_
    refine qaF eC aa.cells (v:=.bool true) kz ?_
    exact ⟨rfl,aa.step⟩
   refine wp_skip ?_
   refine qab ?_
   refine wp_seq ?_
   refine qan [(1,.v (.int .i64 v)),(2,.v (.bool flex)),(5,.p 0 0),(8,.p 1 0),(9,.p 2 0),(49,.v (.int .i64 k1))] aa bD fun lq eD=>?_
   refine wp_block ?_
   refine wp_seq ?_
   refine qan [(1,.v (.int .i64 v)),(2,.v (.bool flex)),(5,.p 0 0),(8,.p 1 0),(9,.p 2 0),(49,.v (.int .i64 k1)),(50,.v (.bool (k1 == 8)))] aa eD fun lr cP=>?_
   refine qao cP (b:=k1 == 8) kz (ak) ?_
   refine qap [0,1] kz ?_
   refine qai [0,1] [] [(1,.v (.int .i64 v)),(2,.v (.bool flex)),(5,.p 0 0),(8,.p 1 0),(9,.p 2 0),(49,.v (.int .i64 k1)),(50,.v (.bool (k1 == 9)))] aa cP fun ls bE=>?_
   refine qaf (qab ?_)
   refine qas bE (b:=k1 == 9) kz (fun bF=>?_) (fun bF=>?_)
   ·
    have jo:k1 = 9:=by simpa using bF
    refine qaI 6 kz aa fun lu jp aW eE=>?_
    refine qaG [0,1,2,3] [(54,.v (.slice al ah.length am)),(56,.v (.slice ai ab.length aj))] 3 (qaa (qac (qaa qag))) (fun _ h=>h.cells) eE bE fun lv eF=>?_
    have iW:=qa6 ab
    refine qaA (i:=4) kz (qaj eF (f:=83) (vs:=[.slice ai ab.length aj]) (d:=57) kz Tryz.call83 (qdc _ _ ab (aH.move aW.step nilM aW.imm).le _) ?_)
    rintro e_ lw ⟨rfl,cQ⟩
    refine ⟨_,rfl,fun lx eG=>?_⟩
    have aA:=aW.next_nil cQ
    have cR:=aW.frN cQ
    have eH:=TT.ofW cR aA
    refine ⟨fun _=>eH,?_⟩
    refine qaA (i:=5) kz (qaj eG (f:=82) (vs:=[.slice al ah.length am,.slice ai ((qaD ab).length) aj]) (d:=58) kz Tryz.call82 (qdM _ _ _ _ ah (qaD ab) _ _ ((bq.move aA.step nilM aA.imm).move (Step.refl _ Nil) nilM allF) (((aH.take 32767).move aA.step nilM aA.imm).move (Step.refl _ Nil) nilM allF)) ?_)
    rintro e_ ly ⟨rfl,cS⟩
    refine ⟨_,rfl,fun lz eI=>?_⟩
    have aX:=aA.next_nil cS
    have eJ:=aA.frN cS
    have eK:=TT.ofW (cR.trans eJ) aX
    refine ⟨fun _=>eK,?_⟩
    refine qaA (i:=6) kz (qa9 [10] aX.cells eI (env':=[(10,.v (.bool (decide (ah = (qaD ab)))))]) kz fun lA eL=>?_)
    refine ⟨fun h=>absurd rfl h,?_⟩
    refine qaE kz ?_ _
    refine qab ?_
    refine wp_ret ?_
    refine qaw ?_
    refine qam ?_
    refine qaF eL aX.cells (v:=.bool (decide (ah = (qaD ab)))) kz ?_
    refine ⟨congrArg (fun b_=>Ending.returned (Value.bool b_)) ?_,aX.step⟩
    first
     | exact qdQ hq ‹_› ‹_›
     | exact qdR hq ‹_› ‹_›
     | exact to_u hq ‹_› ‹_›
     | exact to_m hq ‹_› ‹_› ‹_› ‹_› ‹_› ‹_›
   have jq:k1 ≠ 9:=by simpa using bF
   refine qan [(1,.v (.int .i64 v)),(2,.v (.bool flex)),(5,.p 0 0),(8,.p 1 0),(9,.p 2 0),(49,.v (.int .i64 k1)),(59,.v (.bool (k1 == 7)))] aa bE fun lB bG=>?_
   refine qas bG (b:=k1 == 7) kz (fun bH=>?_) (fun bH=>?_)
   ·
    have jr:k1 = 7:=by simpa using bH
    refine qae [0,1] kz ?_
    refine qak (qcb aa bG (d:=61) (j:=16) (t:=22) (e:=5) (bytes:=1) (z:=.int .u8 0) kz kz kz kz (rfl) (rfl) (by omega) fun ar lC lD js jt ju aO eM=>?_)
    refine qai [1] [] [(8,.p 1 0),(9,.p 2 0),(13,.v (.slice (some ⟨ar,0,none⟩) 16 16))] aO eM fun lE eN=>?_
    refine qaf (qab ?_)
    refine qae [0,1,2,3] kz ?_
    refine qai [0,1,2] [3] [(9,.p 2 0),(13,.v (.slice (some ⟨ar,0,none⟩) 16 16)),(62,.v (.slice (some ⟨ar,0,none⟩) 16 16)),(64,.v (.slice ai ab.length aj))] aO eN fun lF eO=>?_
    refine qak (qcj aO eO (k:=0) (d:=65) (t:=22) (u:=22) (e:=5) (bytes:=1) (A:=(some ⟨ar,0,none⟩)) (As:=ai) (m:=ab.length) (cs:=aj) (m0:=16) (c:=16) (xs:=(List.replicate 16 (.int .u8 0))) (news:=bc ab) kz kz rfl (aH.move aO.step nilM aO.imm).src fun lG lH jv eP eQ=>?_)
    have eR:(⟨(some ⟨ar,0,none⟩),16,5,1,16,qba (List.replicate 16 (.int .u8 0)) 0 ((bc ab).take (min ab.length 16))⟩:Rw) = brow (some ⟨ar,0,none⟩) 16 5 (qbd ab):=qdj _ _ _
    obtain ⟨aI,jw⟩:=eP.rowEq 0 [brow (some ⟨ar,0,none⟩) 16 5 (qbd ab)] eR
    have eS:=EnvOk.pick eQ (ks:=[9,13,62,64,65]) (env':=[(9,.p 2 0),(13,.v (.slice (some ⟨ar,0,none⟩) 16 16)),(62,.v (.slice (some ⟨ar,0,none⟩) 16 16)),(64,.v (.slice ai ab.length aj)),(65,.v (.int .i64 ((min ab.length 16:Nat):Int)))]) kz
    have eU:=eS.cast (env':=[(9,.p 2 0),(13,.v (.slice (some ⟨ar,0,none⟩) ((qbd ab).length) 16)),(62,.v (.slice (some ⟨ar,0,none⟩) ((qbd ab).length) 16)),(64,.v (.slice ai ab.length aj)),(65,.v (.int .i64 ((min ab.length 16:Nat):Int)))]) (by rw [qa3 _])
    refine qaf (qab ?_)
    refine qae [0,1,2,3,4] kz ?_
    refine qai [0,1,2] [3,4] [(67,.v (.slice al ah.length am)),(68,.v (.slice (some ⟨ar,0,none⟩) ((qbd ab).length) 16))] aI eU fun lI eV=>?_
    refine qak (qaj eV (f:=82) (vs:=[.slice al ah.length am,.slice (some ⟨ar,0,none⟩) ((qbd ab).length) 16]) (d:=69) kz Tryz.call82 (qdM _ _ _ _ ah (qbd ab) _ _ ((bq.move aI.step nilM aI.imm).move (Step.refl _ Nil) nilM allF) (qbU (aI.own 0 _ rfl) (by first | omega | (rw [qa3]; decide) | (simp only [be_length]; exact Nat.le_trans (qbl _) (by decide)) | (have:=hroom; omega) | (have:=hmade; omega) | (simp only [List.length_append,List.length_nil]; omega)) (F:=fun _ _=>True) (fun _ _ _=>trivial))) ?_)
    rintro e_ lJ ⟨rfl,cT⟩
    refine ⟨_,rfl,fun lK eW=>?_⟩
    have bI:=aI.next_nil cT
    have jx:=aI.frN cT
    refine qai [4] [] [(10,.v (.bool (decide (ah = qbd ab))))] bI eW fun lL eX=>?_
    refine qaf (qab ?_)
    refine wp_ret ?_
    refine qaw ?_
    refine qam ?_
    refine qaF eX bI.cells (v:=.bool (decide (ah = qbd ab))) kz ?_
    refine ⟨congrArg (fun b_=>Ending.returned (Value.bool b_)) ?_,bI.step⟩
    first
     | exact qdQ hq ‹_› ‹_›
     | exact qdR hq ‹_› ‹_›
     | exact to_u hq ‹_› ‹_›
     | exact to_m hq ‹_› ‹_› ‹_› ‹_› ‹_› ‹_›
   have jy:k1 ≠ 7:=by simpa using bH
   refine qan [(1,.v (.int .i64 v)),(2,.v (.bool flex)),(5,.p 0 0),(8,.p 1 0),(9,.p 2 0),(49,.v (.int .i64 k1)),(70,.v (.bool (k1 == 10)))] aa bG fun lM cU=>?_
   refine qaW cU (b:=k1 == 10) kz (ay) ?_
   refine qae [0,1,2,3,4,5,6,7] kz ?_
   refine qai [0,1,2,3,4,5] [6,7] [(73,.v (.slice A9 l8.length dT)),(74,.v (.int .i64 v)),(75,.v (.bool flex)),(76,.v (.agg #[.int .i64 ac,.slice ai ab.length aj,.bool ae,.slice dU af.length dV,.slice dW ag.length dX])),(77,.v (.agg #[.int .i64 aN,.slice al ah.length am,.bool ap,.slice d6 dY.length d7,.slice d8 dZ.length d9]))] aa cU fun lN eY=>?_
   refine qak (qaj eY (f:=30) (vs:=[.slice A9 l8.length dT,.int .i64 v,.bool flex,.agg #[.int .i64 ac,.slice ai ab.length aj,.bool ae,.slice dU af.length dV,.slice dW ag.length dX],.agg #[.int .i64 aN,.slice al ah.length am,.bool ap,.slice d6 dY.length d7,.slice d8 dZ.length d9]]) (d:=78) kz Tryz.call30 ( hT _ _ l8 _ (Tree.mk ac ab ae af ag) _ (Tree.mk aN ah ap dY dZ) _ _ ⟨d5,(iJ.move aa.step nilM aa.imm),(fun i_ x_ h_=>((ja i_ x_ h_).move aa.step nilM aa.imm))⟩ (ht.move aa.step nilM aa.imm) (hg.move aa.step nilM aa.imm) hpl (qjx hq ‹_› ‹_›)) ?_)
   rintro e_ lO ⟨rfl,cV⟩
   refine ⟨_,rfl,fun lP eZ=>?_⟩
   have bJ:=aa.next_nil cV
   have jz:=aa.frN cV
   refine qai [7] [] [(10,.v (.bool true))] bJ eZ fun lQ e9=>?_
   refine qaf (qab ?_)
   refine wp_ret ?_
   refine qaw ?_
   refine qam ?_
   refine qaF e9 bJ.cells (v:=.bool true) kz ?_
   exact ⟨rfl,bJ.step⟩
  have jA:k1 ≠ 10:=by simpa using ay
  have fa:=cO.cast (env':=[(1,.v (.int .i64 v)),(2,.v (.bool flex)),(5,.p 0 0),(8,.p 1 0),(9,.p 2 0),(11,.v (.bool (Fld.nul (Fld.mk k1 y2 y3 y4 y5 y6 y7 l8) v (Tree.mk ac ab ae af ag)))),(12,.v (.bool (decide (v ≥ y4)))),(38,.v (.bool false))]) (by rw [ay])
  refine qai [9,10,11] [12,13,14,15,16] [(1,.v (.int .i64 v)),(2,.v (.bool flex)),(5,.p 0 0),(8,.p 1 0),(9,.p 2 0),(11,.v (.bool (Fld.nul (Fld.mk k1 y2 y3 y4 y5 y6 y7 l8) v (Tree.mk ac ab ae af ag)))),(41,.v (.bool (decide (v ≥ y4))))] aa fa fun lR cW=>?_
  refine (Bool.eq_false_or_eq_true (decide (v ≥ y4))).elim (fun aP=>?_) (fun aP=>?_)
  ·
   have jB:=of_decide_eq_true aP
   have fb:=cW.cast (env':=[(1,.v (.int .i64 v)),(2,.v (.bool flex)),(5,.p 0 0),(8,.p 1 0),(9,.p 2 0),(11,.v (.bool (Fld.nul (Fld.mk k1 y2 y3 y4 y5 y6 y7 l8) v (Tree.mk ac ab ae af ag)))),(41,.v (.bool true))]) (by rw [aP])
   refine qai [12,13,14,15,16] [] [(1,.v (.int .i64 v)),(2,.v (.bool flex)),(5,.p 0 0),(8,.p 1 0),(9,.p 2 0),(11,.v (.bool (Fld.nul (Fld.mk k1 y2 y3 y4 y5 y6 y7 l8) v (Tree.mk ac ab ae af ag)))),(46,.v (.bool (!(ap == (Fld.nul (Fld.mk k1 y2 y3 y4 y5 y6 y7 l8) v (Tree.mk ac ab ae af ag))))))] aa fb fun lS bK=>?_
   refine qaf (qab ?_)
   refine qas bK (b:=!(ap == (Fld.nul (Fld.mk k1 y2 y3 y4 y5 y6 y7 l8) v (Tree.mk ac ab ae af ag)))) kz (fun bL=>?_) (fun bL=>?_)
   ·
    have jC:!(ap = (Fld.nul (Fld.mk k1 y2 y3 y4 y5 y6 y7 l8) v (Tree.mk ac ab ae af ag))):=by simpa using bL
    refine qan [(10,.v (.bool false))] aa bK fun lT fe=>?_
    refine wp_ret ?_
    refine qam ?_
    refine qaF fe aa.cells (v:=.bool false) kz ?_
    first
     | exact (qjw hq ‹_› ‹_›).elim
     | exact (qgE hq ‹_› ‹_›).elim
     | exact (qf1 hq ‹_› ‹_› ‹_›).elim
   have jD:!(ap ≠ (Fld.nul (Fld.mk k1 y2 y3 y4 y5 y6 y7 l8) v (Tree.mk ac ab ae af ag))):=by simpa using bL
   refine wp_skip ?_
   refine qab ?_
   refine wp_seq ?_
   refine qan [(1,.v (.int .i64 v)),(2,.v (.bool flex)),(5,.p 0 0),(8,.p 1 0),(9,.p 2 0),(47,.v (.bool (Fld.nul (Fld.mk k1 y2 y3 y4 y5 y6 y7 l8) v (Tree.mk ac ab ae af ag))))] aa bK fun lU bM=>?_
   refine qas bM (b:=Fld.nul (Fld.mk k1 y2 y3 y4 y5 y6 y7 l8) v (Tree.mk ac ab ae af ag)) kz (fun ff=>?_) (fun ff=>?_)
   ·
    refine qan [(10,.v (.bool true))] aa bM fun lV fg=>?_
    refine wp_ret ?_
    refine qam ?_
    refine qaF fg aa.cells (v:=.bool true) kz ?_
    exact ⟨rfl,aa.step⟩
   refine wp_skip ?_
   refine qab ?_
   refine wp_seq ?_
   refine qan [(1,.v (.int .i64 v)),(2,.v (.bool flex)),(5,.p 0 0),(8,.p 1 0),(9,.p 2 0),(49,.v (.int .i64 k1))] aa bM fun lW fh=>?_
   refine wp_block ?_
   refine wp_seq ?_
   refine qan [(1,.v (.int .i64 v)),(2,.v (.bool flex)),(5,.p 0 0),(8,.p 1 0),(9,.p 2 0),(49,.v (.int .i64 k1)),(50,.v (.bool (k1 == 8)))] aa fh fun lX cX=>?_
   refine qao cX (b:=k1 == 8) kz (ak) ?_
   refine qap [0,1] kz ?_
   refine qai [0,1] [] [(1,.v (.int .i64 v)),(2,.v (.bool flex)),(5,.p 0 0),(8,.p 1 0),(9,.p 2 0),(49,.v (.int .i64 k1)),(50,.v (.bool (k1 == 9)))] aa cX fun lY bN=>?_
   refine qaf (qab ?_)
   refine qas bN (b:=k1 == 9) kz (fun bO=>?_) (fun bO=>?_)
   ·
    have jE:k1 = 9:=by simpa using bO
    refine qaI 6 kz aa fun lZ jF aY fi=>?_
    refine qaG [0,1,2,3] [(54,.v (.slice al ah.length am)),(56,.v (.slice ai ab.length aj))] 3 (qaa (qac (qaa qag))) (fun _ h=>h.cells) fi bN fun l0 fj=>?_
    have iX:=qa6 ab
    refine qaA (i:=4) kz (qaj fj (f:=83) (vs:=[.slice ai ab.length aj]) (d:=57) kz Tryz.call83 (qdc _ _ ab (aH.move aY.step nilM aY.imm).le _) ?_)
    rintro e_ l3 ⟨rfl,cY⟩
    refine ⟨_,rfl,fun l5 fk=>?_⟩
    have aB:=aY.next_nil cY
    have cZ:=aY.frN cY
    have fm:=TT.ofW cZ aB
    refine ⟨fun _=>fm,?_⟩
    refine qaA (i:=5) kz (qaj fk (f:=82) (vs:=[.slice al ah.length am,.slice ai ((qaD ab).length) aj]) (d:=58) kz Tryz.call82 (qdM _ _ _ _ ah (qaD ab) _ _ ((bq.move aB.step nilM aB.imm).move (Step.refl _ Nil) nilM allF) (((aH.take 32767).move aB.step nilM aB.imm).move (Step.refl _ Nil) nilM allF)) ?_)
    rintro e_ l6 ⟨rfl,c5⟩
    refine ⟨_,rfl,fun l7 fo=>?_⟩
    have aZ:=aB.next_nil c5
    have fq:=aB.frN c5
    have fr:=TT.ofW (cZ.trans fq) aZ
    refine ⟨fun _=>fr,?_⟩
    refine qaA (i:=6) kz (qa9 [10] aZ.cells fo (env':=[(10,.v (.bool (decide (ah = (qaD ab)))))]) kz fun l9 ft=>?_)
    refine ⟨fun h=>absurd rfl h,?_⟩
    refine qaE kz ?_ _
    refine qab ?_
    refine wp_ret ?_
    refine qaw ?_
    refine qam ?_
    refine qaF ft aZ.cells (v:=.bool (decide (ah = (qaD ab)))) kz ?_
    refine ⟨congrArg (fun b_=>Ending.returned (Value.bool b_)) ?_,aZ.step⟩
    first
     | exact qdQ hq ‹_› ‹_›
     | exact qdR hq ‹_› ‹_›
     | exact to_u hq ‹_› ‹_›
     | exact to_m hq ‹_› ‹_› ‹_› ‹_› ‹_› ‹_›
   have jG:k1 ≠ 9:=by simpa using bO
   refine qan [(1,.v (.int .i64 v)),(2,.v (.bool flex)),(5,.p 0 0),(8,.p 1 0),(9,.p 2 0),(49,.v (.int .i64 k1)),(59,.v (.bool (k1 == 7)))] aa bN fun ma bP=>?_
   refine qas bP (b:=k1 == 7) kz (fun bQ=>?_) (fun bQ=>?_)
   ·
    have jH:k1 = 7:=by simpa using bQ
    refine qae [0,1] kz ?_
    refine qak (qcb aa bP (d:=61) (j:=16) (t:=22) (e:=5) (bytes:=1) (z:=.int .u8 0) kz kz kz kz (rfl) (rfl) (by omega) fun au mc md jI jJ jK aQ fu=>?_)
    refine qai [1] [] [(8,.p 1 0),(9,.p 2 0),(13,.v (.slice (some ⟨au,0,none⟩) 16 16))] aQ fu fun me fv=>?_
    refine qaf (qab ?_)
    refine qae [0,1,2,3] kz ?_
    refine qai [0,1,2] [3] [(9,.p 2 0),(13,.v (.slice (some ⟨au,0,none⟩) 16 16)),(62,.v (.slice (some ⟨au,0,none⟩) 16 16)),(64,.v (.slice ai ab.length aj))] aQ fv fun mf fw=>?_
    refine qak (qcj aQ fw (k:=0) (d:=65) (t:=22) (u:=22) (e:=5) (bytes:=1) (A:=(some ⟨au,0,none⟩)) (As:=ai) (m:=ab.length) (cs:=aj) (m0:=16) (c:=16) (xs:=(List.replicate 16 (.int .u8 0))) (news:=bc ab) kz kz rfl (aH.move aQ.step nilM aQ.imm).src fun mg mh jL fx fy=>?_)
    have fz:(⟨(some ⟨au,0,none⟩),16,5,1,16,qba (List.replicate 16 (.int .u8 0)) 0 ((bc ab).take (min ab.length 16))⟩:Rw) = brow (some ⟨au,0,none⟩) 16 5 (qbd ab):=qdj _ _ _
    obtain ⟨aJ,jM⟩:=fx.rowEq 0 [brow (some ⟨au,0,none⟩) 16 5 (qbd ab)] fz
    have fA:=EnvOk.pick fy (ks:=[9,13,62,64,65]) (env':=[(9,.p 2 0),(13,.v (.slice (some ⟨au,0,none⟩) 16 16)),(62,.v (.slice (some ⟨au,0,none⟩) 16 16)),(64,.v (.slice ai ab.length aj)),(65,.v (.int .i64 ((min ab.length 16:Nat):Int)))]) kz
    have fB:=fA.cast (env':=[(9,.p 2 0),(13,.v (.slice (some ⟨au,0,none⟩) ((qbd ab).length) 16)),(62,.v (.slice (some ⟨au,0,none⟩) ((qbd ab).length) 16)),(64,.v (.slice ai ab.length aj)),(65,.v (.int .i64 ((min ab.length 16:Nat):Int)))]) (by rw [qa3 _])
    refine qaf (qab ?_)
    refine qae [0,1,2,3,4] kz ?_
    refine qai [0,1,2] [3,4] [(67,.v (.slice al ah.length am)),(68,.v (.slice (some ⟨au,0,none⟩) ((qbd ab).length) 16))] aJ fB fun mi fC=>?_
    refine qak (qaj fC (f:=82) (vs:=[.slice al ah.length am,.slice (some ⟨au,0,none⟩) ((qbd ab).length) 16]) (d:=69) kz Tryz.call82 (qdM _ _ _ _ ah (qbd ab) _ _ ((bq.move aJ.step nilM aJ.imm).move (Step.refl _ Nil) nilM allF) (qbU (aJ.own 0 _ rfl) (by first | omega | (rw [qa3]; decide) | (simp only [be_length]; exact Nat.le_trans (qbl _) (by decide)) | (have:=hroom; omega) | (have:=hmade; omega) | (simp only [List.length_append,List.length_nil]; omega)) (F:=fun _ _=>True) (fun _ _ _=>trivial))) ?_)
    rintro e_ mj ⟨rfl,c6⟩
    refine ⟨_,rfl,fun ml fD=>?_⟩
    have bR:=aJ.next_nil c6
    have jN:=aJ.frN c6
    refine qai [4] [] [(10,.v (.bool (decide (ah = qbd ab))))] bR fD fun mn fE=>?_
    refine qaf (qab ?_)
    refine wp_ret ?_
    refine qaw ?_
    refine qam ?_
    refine qaF fE bR.cells (v:=.bool (decide (ah = qbd ab))) kz ?_
    refine ⟨congrArg (fun b_=>Ending.returned (Value.bool b_)) ?_,bR.step⟩
    first
     | exact qdQ hq ‹_› ‹_›
     | exact qdR hq ‹_› ‹_›
     | exact to_u hq ‹_› ‹_›
     | exact to_m hq ‹_› ‹_› ‹_› ‹_› ‹_› ‹_›
   have jO:k1 ≠ 7:=by simpa using bQ
   refine qan [(1,.v (.int .i64 v)),(2,.v (.bool flex)),(5,.p 0 0),(8,.p 1 0),(9,.p 2 0),(49,.v (.int .i64 k1)),(70,.v (.bool (k1 == 10)))] aa bP fun mo da=>?_
   refine qao da (b:=k1 == 10) kz (ay) ?_
   refine qan [(1,.v (.int .i64 v)),(2,.v (.bool flex)),(5,.p 0 0),(8,.p 1 0),(9,.p 2 0),(79,.v (.bool (k1 == 11)))] aa da fun mp db=>?_
   refine qao db (b:=k1 == 11) kz (by simpa using bt) ?_
   refine wp_skip ?_
   refine qaq ?_
   refine qab ?_
   refine qaI 8 kz aa fun mq jP dc fF=>?_
   refine qaG [0,1,2,3,4,5] [(117,.v (.int .i64 aN)),(119,.v (.int .i64 k1)),(121,.v (.int .i64 ac))] 3 (qaa qag) (fun _ h=>h.cells) fF db fun mr fG=>?_
   refine qaA (i:=6) kz (qaj fG (f:=48) (vs:=[.int .i64 k1,.int .i64 ac]) (d:=122) kz Tryz.call48 (qf3 k1 ac _) ?_)
   rintro e_ mt ⟨rfl,de⟩
   refine ⟨_,rfl,fun mu fH=>?_⟩
   have ba:=dc.next_nil de
   have fI:=dc.frN de
   have df:=TT.ofW fI ba
   refine ⟨fun _=>df,?_⟩
   refine qaG [7] [(123,.v (.bool (aN == (qbc k1 ac))))] 1 (qaa qag) (fun _ h=>h.cells) df fH fun mw fJ=>?_
   refine qaA (i:=8) kz (qa9 [10] ba.cells fJ (env':=[(10,.v (.bool (aN == (qbc k1 ac))))]) kz fun mx fK=>?_)
   refine ⟨fun h=>absurd rfl h,?_⟩
   refine qaE kz ?_ _
   refine qab ?_
   refine wp_ret ?_
   refine qaF fK ba.cells (v:=.bool (aN == (qbc k1 ac))) kz ?_
   refine ⟨congrArg (fun b_=>Ending.returned (Value.bool b_)) ?_,ba.step⟩
   first
    | exact qdQ hq ‹_› ‹_›
    | exact qdR hq ‹_› ‹_›
    | exact to_u hq ‹_› ‹_›
    | exact to_m hq ‹_› ‹_› ‹_› ‹_› ‹_› ‹_›
  have jQ:=of_decide_eq_false aP
  have fL:=cW.cast (env':=[(1,.v (.int .i64 v)),(2,.v (.bool flex)),(5,.p 0 0),(8,.p 1 0),(9,.p 2 0),(11,.v (.bool (Fld.nul (Fld.mk k1 y2 y3 y4 y5 y6 y7 l8) v (Tree.mk ac ab ae af ag)))),(41,.v (.bool false))]) (by rw [aP])
  refine qai [12,13,14,15,16] [] [(1,.v (.int .i64 v)),(2,.v (.bool flex)),(5,.p 0 0),(8,.p 1 0),(9,.p 2 0),(11,.v (.bool (Fld.nul (Fld.mk k1 y2 y3 y4 y5 y6 y7 l8) v (Tree.mk ac ab ae af ag)))),(46,.v (.bool false))] aa fL fun my dg=>?_
  refine qaf (qab ?_)
  refine qao dg (b:=false) kz rfl ?_
  refine wp_skip ?_
  refine qab ?_
  refine wp_seq ?_
  refine qan [(1,.v (.int .i64 v)),(2,.v (.bool flex)),(5,.p 0 0),(8,.p 1 0),(9,.p 2 0),(47,.v (.bool (Fld.nul (Fld.mk k1 y2 y3 y4 y5 y6 y7 l8) v (Tree.mk ac ab ae af ag))))] aa dg fun mz bS=>?_
  refine qas bS (b:=Fld.nul (Fld.mk k1 y2 y3 y4 y5 y6 y7 l8) v (Tree.mk ac ab ae af ag)) kz (fun fM=>?_) (fun fM=>?_)
  ·
   refine qan [(10,.v (.bool true))] aa bS fun mA fN=>?_
   refine wp_ret ?_
   refine qam ?_
   refine qaF fN aa.cells (v:=.bool true) kz ?_
   exact ⟨rfl,aa.step⟩
  refine wp_skip ?_
  refine qab ?_
  refine wp_seq ?_
  refine qan [(1,.v (.int .i64 v)),(2,.v (.bool flex)),(5,.p 0 0),(8,.p 1 0),(9,.p 2 0),(49,.v (.int .i64 k1))] aa bS fun mB fO=>?_
  refine wp_block ?_
  refine wp_seq ?_
  refine qan [(1,.v (.int .i64 v)),(2,.v (.bool flex)),(5,.p 0 0),(8,.p 1 0),(9,.p 2 0),(49,.v (.int .i64 k1)),(50,.v (.bool (k1 == 8)))] aa fO fun mC dh=>?_
  refine qao dh (b:=k1 == 8) kz (ak) ?_
  refine qap [0,1] kz ?_
  refine qai [0,1] [] [(1,.v (.int .i64 v)),(2,.v (.bool flex)),(5,.p 0 0),(8,.p 1 0),(9,.p 2 0),(49,.v (.int .i64 k1)),(50,.v (.bool (k1 == 9)))] aa dh fun mD bT=>?_
  refine qaf (qab ?_)
  refine qas bT (b:=k1 == 9) kz (fun bU=>?_) (fun bU=>?_)
  ·
   have jR:k1 = 9:=by simpa using bU
   refine qaI 6 kz aa fun mF jS bd fP=>?_
   refine qaG [0,1,2,3] [(54,.v (.slice al ah.length am)),(56,.v (.slice ai ab.length aj))] 3 (qaa (qac (qaa qag))) (fun _ h=>h.cells) fP bT fun mG fQ=>?_
   have iY:=qa6 ab
   refine qaA (i:=4) kz (qaj fQ (f:=83) (vs:=[.slice ai ab.length aj]) (d:=57) kz Tryz.call83 (qdc _ _ ab (aH.move bd.step nilM bd.imm).le _) ?_)
   rintro e_ mH ⟨rfl,di⟩
   refine ⟨_,rfl,fun mI fR=>?_⟩
   have aC:=bd.next_nil di
   have dj:=bd.frN di
   have fS:=TT.ofW dj aC
   refine ⟨fun _=>fS,?_⟩
   refine qaA (i:=5) kz (qaj fR (f:=82) (vs:=[.slice al ah.length am,.slice ai ((qaD ab).length) aj]) (d:=58) kz Tryz.call82 (qdM _ _ _ _ ah (qaD ab) _ _ ((bq.move aC.step nilM aC.imm).move (Step.refl _ Nil) nilM allF) (((aH.take 32767).move aC.step nilM aC.imm).move (Step.refl _ Nil) nilM allF)) ?_)
   rintro e_ mJ ⟨rfl,dl⟩
   refine ⟨_,rfl,fun mK fT=>?_⟩
   have bf:=aC.next_nil dl
   have fU:=aC.frN dl
   have fV:=TT.ofW (dj.trans fU) bf
   refine ⟨fun _=>fV,?_⟩
   refine qaA (i:=6) kz (qa9 [10] bf.cells fT (env':=[(10,.v (.bool (decide (ah = (qaD ab)))))]) kz fun mL fW=>?_)
   refine ⟨fun h=>absurd rfl h,?_⟩
   refine qaE kz ?_ _
   refine qab ?_
   refine wp_ret ?_
   refine qaw ?_
   refine qam ?_
   refine qaF fW bf.cells (v:=.bool (decide (ah = (qaD ab)))) kz ?_
   refine ⟨congrArg (fun b_=>Ending.returned (Value.bool b_)) ?_,bf.step⟩
   first
    | exact qdQ hq ‹_› ‹_›
    | exact qdR hq ‹_› ‹_›
    | exact to_u hq ‹_› ‹_›
    | exact to_m hq ‹_› ‹_› ‹_› ‹_› ‹_› ‹_›
  have jT:k1 ≠ 9:=by simpa using bU
  refine qan [(1,.v (.int .i64 v)),(2,.v (.bool flex)),(5,.p 0 0),(8,.p 1 0),(9,.p 2 0),(49,.v (.int .i64 k1)),(59,.v (.bool (k1 == 7)))] aa bT fun mM bV=>?_
  refine qas bV (b:=k1 == 7) kz (fun bW=>?_) (fun bW=>?_)
  ·
   have jU:k1 = 7:=by simpa using bW
   refine qae [0,1] kz ?_
   refine qak (qcb aa bV (d:=61) (j:=16) (t:=22) (e:=5) (bytes:=1) (z:=.int .u8 0) kz kz kz kz (rfl) (rfl) (by omega) fun av mN mO jV jW jX aR fX=>?_)
   refine qai [1] [] [(8,.p 1 0),(9,.p 2 0),(13,.v (.slice (some ⟨av,0,none⟩) 16 16))] aR fX fun mQ fY=>?_
   refine qaf (qab ?_)
   refine qae [0,1,2,3] kz ?_
   refine qai [0,1,2] [3] [(9,.p 2 0),(13,.v (.slice (some ⟨av,0,none⟩) 16 16)),(62,.v (.slice (some ⟨av,0,none⟩) 16 16)),(64,.v (.slice ai ab.length aj))] aR fY fun mR fZ=>?_
   refine qak (qcj aR fZ (k:=0) (d:=65) (t:=22) (u:=22) (e:=5) (bytes:=1) (A:=(some ⟨av,0,none⟩)) (As:=ai) (m:=ab.length) (cs:=aj) (m0:=16) (c:=16) (xs:=(List.replicate 16 (.int .u8 0))) (news:=bc ab) kz kz rfl (aH.move aR.step nilM aR.imm).src fun mS mT jY f5 f8=>?_)
   have f9:(⟨(some ⟨av,0,none⟩),16,5,1,16,qba (List.replicate 16 (.int .u8 0)) 0 ((bc ab).take (min ab.length 16))⟩:Rw) = brow (some ⟨av,0,none⟩) 16 5 (qbd ab):=qdj _ _ _
   obtain ⟨aK,jZ⟩:=f5.rowEq 0 [brow (some ⟨av,0,none⟩) 16 5 (qbd ab)] f9
   have ga:=EnvOk.pick f8 (ks:=[9,13,62,64,65]) (env':=[(9,.p 2 0),(13,.v (.slice (some ⟨av,0,none⟩) 16 16)),(62,.v (.slice (some ⟨av,0,none⟩) 16 16)),(64,.v (.slice ai ab.length aj)),(65,.v (.int .i64 ((min ab.length 16:Nat):Int)))]) kz
   have gb:=ga.cast (env':=[(9,.p 2 0),(13,.v (.slice (some ⟨av,0,none⟩) ((qbd ab).length) 16)),(62,.v (.slice (some ⟨av,0,none⟩) ((qbd ab).length) 16)),(64,.v (.slice ai ab.length aj)),(65,.v (.int .i64 ((min ab.length 16:Nat):Int)))]) (by rw [qa3 _])
   refine qaf (qab ?_)
   refine qae [0,1,2,3,4] kz ?_
   refine qai [0,1,2] [3,4] [(67,.v (.slice al ah.length am)),(68,.v (.slice (some ⟨av,0,none⟩) ((qbd ab).length) 16))] aK gb fun mU gc=>?_
   refine qak (qaj gc (f:=82) (vs:=[.slice al ah.length am,.slice (some ⟨av,0,none⟩) ((qbd ab).length) 16]) (d:=69) kz Tryz.call82 (qdM _ _ _ _ ah (qbd ab) _ _ ((bq.move aK.step nilM aK.imm).move (Step.refl _ Nil) nilM allF) (qbU (aK.own 0 _ rfl) (by first | omega | (rw [qa3]; decide) | (simp only [be_length]; exact Nat.le_trans (qbl _) (by decide)) | (have:=hroom; omega) | (have:=hmade; omega) | (simp only [List.length_append,List.length_nil]; omega)) (F:=fun _ _=>True) (fun _ _ _=>trivial))) ?_)
   rintro e_ mV ⟨rfl,dp⟩
   refine ⟨_,rfl,fun mW gd=>?_⟩
   have bX:=aK.next_nil dp
   have j0:=aK.frN dp
   refine qai [4] [] [(10,.v (.bool (decide (ah = qbd ab))))] bX gd fun mX ge=>?_
   refine qaf (qab ?_)
   refine wp_ret ?_
   refine qaw ?_
   refine qam ?_
   refine qaF ge bX.cells (v:=.bool (decide (ah = qbd ab))) kz ?_
   refine ⟨congrArg (fun b_=>Ending.returned (Value.bool b_)) ?_,bX.step⟩
   first
    | exact qdQ hq ‹_› ‹_›
    | exact qdR hq ‹_› ‹_›
    | exact to_u hq ‹_› ‹_›
    | exact to_m hq ‹_› ‹_› ‹_› ‹_› ‹_› ‹_›
  have j1:k1 ≠ 7:=by simpa using bW
  refine qan [(1,.v (.int .i64 v)),(2,.v (.bool flex)),(5,.p 0 0),(8,.p 1 0),(9,.p 2 0),(49,.v (.int .i64 k1)),(70,.v (.bool (k1 == 10)))] aa bV fun mY dq=>?_
  refine qao dq (b:=k1 == 10) kz (ay) ?_
  refine qan [(1,.v (.int .i64 v)),(2,.v (.bool flex)),(5,.p 0 0),(8,.p 1 0),(9,.p 2 0),(79,.v (.bool (k1 == 11)))] aa dq fun mZ dr=>?_
  refine qao dr (b:=k1 == 11) kz (by simpa using bt) ?_
  refine wp_skip ?_
  refine qaq ?_
  refine qab ?_
  refine qaI 8 kz aa fun m4 j2 dt gg=>?_
  refine qaG [0,1,2,3,4,5] [(117,.v (.int .i64 aN)),(119,.v (.int .i64 k1)),(121,.v (.int .i64 ac))] 3 (qaa qag) (fun _ h=>h.cells) gg dr fun m5 gh=>?_
  refine qaA (i:=6) kz (qaj gh (f:=48) (vs:=[.int .i64 k1,.int .i64 ac]) (d:=122) kz Tryz.call48 (qf3 k1 ac _) ?_)
  rintro e_ m6 ⟨rfl,du⟩
  refine ⟨_,rfl,fun m7 gi=>?_⟩
  have bg:=dt.next_nil du
  have gj:=dt.frN du
  have dv:=TT.ofW gj bg
  refine ⟨fun _=>dv,?_⟩
  refine qaG [7] [(123,.v (.bool (aN == (qbc k1 ac))))] 1 (qaa qag) (fun _ h=>h.cells) dv gi fun m8 gk=>?_
  refine qaA (i:=8) kz (qa9 [10] bg.cells gk (env':=[(10,.v (.bool (aN == (qbc k1 ac))))]) kz fun m9 gl=>?_)
  refine ⟨fun h=>absurd rfl h,?_⟩
  refine qaE kz ?_ _
  refine qab ?_
  refine wp_ret ?_
  refine qaF gl bg.cells (v:=.bool (aN == (qbc k1 ac))) kz ?_
  refine ⟨congrArg (fun b_=>Ending.returned (Value.bool b_)) ?_,bg.step⟩
  first
   | exact qdQ hq ‹_› ‹_›
   | exact qdR hq ‹_› ‹_›
   | exact to_u hq ‹_› ‹_›
   | exact to_m hq ‹_› ‹_› ‹_› ‹_› ‹_› ‹_›
 have j3:=of_decide_eq_false bu
 have gm:=eb.cast (env':=[(1,.v (.int .i64 v)),(2,.v (.bool flex)),(5,.p 0 0),(8,.p 1 0),(9,.p 2 0),(11,.v (.bool (Fld.nul (Fld.mk k1 y2 y3 y4 y5 y6 y7 l8) v (Tree.mk ac ab ae af ag)))),(24,.v (.bool false))]) (by rw [bu])
 refine qai [4,5,6,7,8,9] [] [(1,.v (.int .i64 v)),(2,.v (.bool flex)),(5,.p 0 0),(8,.p 1 0),(9,.p 2 0),(11,.v (.bool (Fld.nul (Fld.mk k1 y2 y3 y4 y5 y6 y7 l8) v (Tree.mk ac ab ae af ag)))),(12,.v (.bool false))] aa gm fun nf gn=>?_
 refine qaf (qab ?_)
 refine wp_seq ?_
 refine qae [0,1,2,3,4,5,6,7,8,9,10,11,12,13,14,15,16] kz ?_
 refine qai [0,1,2,3] [4,5,6,7,8,9,10,11,12,13,14,15,16] [(1,.v (.int .i64 v)),(2,.v (.bool flex)),(5,.p 0 0),(8,.p 1 0),(9,.p 2 0),(11,.v (.bool (Fld.nul (Fld.mk k1 y2 y3 y4 y5 y6 y7 l8) v (Tree.mk ac ab ae af ag)))),(12,.v (.bool false)),(33,.v (.bool (k1 == 8)))] aa gn fun ng dw=>?_
 refine (Bool.eq_false_or_eq_true (k1 == 8)).elim (fun ao=>?_) (fun ao=>?_)
 ·
  have j4:k1 = 8:=by simpa using ao
  have gp:=dw.cast (env':=[(1,.v (.int .i64 v)),(2,.v (.bool flex)),(5,.p 0 0),(8,.p 1 0),(9,.p 2 0),(11,.v (.bool (Fld.nul (Fld.mk k1 y2 y3 y4 y5 y6 y7 l8) v (Tree.mk ac ab ae af ag)))),(12,.v (.bool false)),(33,.v (.bool true))]) (by rw [ao])
  refine qai [4,5,6,7,8,9,10,11,12,13,14,15,16] [] [(1,.v (.int .i64 v)),(2,.v (.bool flex)),(5,.p 0 0),(8,.p 1 0),(9,.p 2 0),(11,.v (.bool (Fld.nul (Fld.mk k1 y2 y3 y4 y5 y6 y7 l8) v (Tree.mk ac ab ae af ag)))),(46,.v (.bool (!(ap == (Fld.nul (Fld.mk k1 y2 y3 y4 y5 y6 y7 l8) v (Tree.mk ac ab ae af ag))))))] aa gp fun nh bY=>?_
  refine qaf (qab ?_)
  refine qas bY (b:=!(ap == (Fld.nul (Fld.mk k1 y2 y3 y4 y5 y6 y7 l8) v (Tree.mk ac ab ae af ag)))) kz (fun bZ=>?_) (fun bZ=>?_)
  ·
   have j5:!(ap = (Fld.nul (Fld.mk k1 y2 y3 y4 y5 y6 y7 l8) v (Tree.mk ac ab ae af ag))):=by simpa using bZ
   refine qan [(10,.v (.bool false))] aa bY fun ni gq=>?_
   refine wp_ret ?_
   refine qam ?_
   refine qaF gq aa.cells (v:=.bool false) kz ?_
   first
    | exact (qjw hq ‹_› ‹_›).elim
    | exact (qgE hq ‹_› ‹_›).elim
    | exact (qf1 hq ‹_› ‹_› ‹_›).elim
  have j6:!(ap ≠ (Fld.nul (Fld.mk k1 y2 y3 y4 y5 y6 y7 l8) v (Tree.mk ac ab ae af ag))):=by simpa using bZ
  refine wp_skip ?_
  refine qab ?_
  refine wp_seq ?_
  refine qan [(1,.v (.int .i64 v)),(2,.v (.bool flex)),(5,.p 0 0),(8,.p 1 0),(9,.p 2 0),(47,.v (.bool (Fld.nul (Fld.mk k1 y2 y3 y4 y5 y6 y7 l8) v (Tree.mk ac ab ae af ag))))] aa bY fun nj b8=>?_
  refine qas b8 (b:=Fld.nul (Fld.mk k1 y2 y3 y4 y5 y6 y7 l8) v (Tree.mk ac ab ae af ag)) kz (fun gt=>?_) (fun gt=>?_)
  ·
   refine qan [(10,.v (.bool true))] aa b8 fun nk gv=>?_
   refine wp_ret ?_
   refine qam ?_
   refine qaF gv aa.cells (v:=.bool true) kz ?_
   exact ⟨rfl,aa.step⟩
  refine wp_skip ?_
  refine qab ?_
  refine wp_seq ?_
  refine qan [(1,.v (.int .i64 v)),(2,.v (.bool flex)),(5,.p 0 0),(8,.p 1 0),(9,.p 2 0),(49,.v (.int .i64 k1))] aa b8 fun nl gw=>?_
  refine wp_block ?_
  refine wp_seq ?_
  refine qan [(1,.v (.int .i64 v)),(2,.v (.bool flex)),(5,.p 0 0),(8,.p 1 0),(9,.p 2 0),(49,.v (.int .i64 k1)),(50,.v (.bool (k1 == 8)))] aa gw fun nm cd=>?_
  refine qaW cd (b:=k1 == 8) kz (ao) ?_
  refine wp_skip ?_
  refine qab ?_
  refine qaW cd (b:=k1 == 8) kz (ao) ?_
  refine qaI 6 kz aa fun np j7 bh gx=>?_
  refine qaG [0,1,2,3] [(54,.v (.slice al ah.length am)),(56,.v (.slice ai ab.length aj))] 3 (qaa (qac (qaa qag))) (fun _ h=>h.cells) gx cd fun nr gy=>?_
  have iZ:=qa6 ab
  refine qaA (i:=4) kz (qaj gy (f:=83) (vs:=[.slice ai ab.length aj]) (d:=57) kz Tryz.call83 (qdc _ _ ab (aH.move bh.step nilM bh.imm).le _) ?_)
  rintro e_ ns ⟨rfl,dx⟩
  refine ⟨_,rfl,fun nt gz=>?_⟩
  have aD:=bh.next_nil dx
  have dy:=bh.frN dx
  have gA:=TT.ofW dy aD
  refine ⟨fun _=>gA,?_⟩
  refine qaA (i:=5) kz (qaj gz (f:=82) (vs:=[.slice al ah.length am,.slice ai ((qaD ab).length) aj]) (d:=58) kz Tryz.call82 (qdM _ _ _ _ ah (qaD ab) _ _ ((bq.move aD.step nilM aD.imm).move (Step.refl _ Nil) nilM allF) (((aH.take 32767).move aD.step nilM aD.imm).move (Step.refl _ Nil) nilM allF)) ?_)
  rintro e_ nu ⟨rfl,dz⟩
  refine ⟨_,rfl,fun nv gB=>?_⟩
  have bi:=aD.next_nil dz
  have gC:=aD.frN dz
  have gD:=TT.ofW (dy.trans gC) bi
  refine ⟨fun _=>gD,?_⟩
  refine qaA (i:=6) kz (qa9 [10] bi.cells gB (env':=[(10,.v (.bool (decide (ah = (qaD ab)))))]) kz fun nw gE=>?_)
  refine ⟨fun h=>absurd rfl h,?_⟩
  refine qaE kz ?_ _
  refine qab ?_
  refine wp_ret ?_
  refine qaw ?_
  refine qam ?_
  refine qaF gE bi.cells (v:=.bool (decide (ah = (qaD ab)))) kz ?_
  refine ⟨congrArg (fun b_=>Ending.returned (Value.bool b_)) ?_,bi.step⟩
  first
   | exact qdQ hq ‹_› ‹_›
   | exact qdR hq ‹_› ‹_›
   | exact to_u hq ‹_› ‹_›
   | exact to_m hq ‹_› ‹_› ‹_› ‹_› ‹_› ‹_›
 have j8:k1 ≠ 8:=by simpa using ao
 have gF:=dw.cast (env':=[(1,.v (.int .i64 v)),(2,.v (.bool flex)),(5,.p 0 0),(8,.p 1 0),(9,.p 2 0),(11,.v (.bool (Fld.nul (Fld.mk k1 y2 y3 y4 y5 y6 y7 l8) v (Tree.mk ac ab ae af ag)))),(12,.v (.bool false)),(33,.v (.bool false))]) (by rw [ao])
 refine qai [4,5,6,7,8] [9,10,11,12,13,14,15,16] [(1,.v (.int .i64 v)),(2,.v (.bool flex)),(5,.p 0 0),(8,.p 1 0),(9,.p 2 0),(11,.v (.bool (Fld.nul (Fld.mk k1 y2 y3 y4 y5 y6 y7 l8) v (Tree.mk ac ab ae af ag)))),(12,.v (.bool false)),(38,.v (.bool (k1 == 10)))] aa gF fun nx dA=>?_
 refine (Bool.eq_false_or_eq_true (k1 == 10)).elim (fun aE=>?_) (fun aE=>?_)
 ·
  have j9:k1 = 10:=by simpa using aE
  have gG:=dA.cast (env':=[(1,.v (.int .i64 v)),(2,.v (.bool flex)),(5,.p 0 0),(8,.p 1 0),(9,.p 2 0),(11,.v (.bool (Fld.nul (Fld.mk k1 y2 y3 y4 y5 y6 y7 l8) v (Tree.mk ac ab ae af ag)))),(12,.v (.bool false)),(38,.v (.bool true))]) (by rw [aE])
  refine qai [9,10,11,12,13,14,15,16] [] [(1,.v (.int .i64 v)),(2,.v (.bool flex)),(5,.p 0 0),(8,.p 1 0),(9,.p 2 0),(11,.v (.bool (Fld.nul (Fld.mk k1 y2 y3 y4 y5 y6 y7 l8) v (Tree.mk ac ab ae af ag)))),(46,.v (.bool (!(ap == (Fld.nul (Fld.mk k1 y2 y3 y4 y5 y6 y7 l8) v (Tree.mk ac ab ae af ag))))))] aa gG fun ny ce=>?_
  refine qaf (qab ?_)
  refine qas ce (b:=!(ap == (Fld.nul (Fld.mk k1 y2 y3 y4 y5 y6 y7 l8) v (Tree.mk ac ab ae af ag)))) kz (fun cm=>?_) (fun cm=>?_)
  ·
   have ka:!(ap = (Fld.nul (Fld.mk k1 y2 y3 y4 y5 y6 y7 l8) v (Tree.mk ac ab ae af ag))):=by simpa using cm
   refine qan [(10,.v (.bool false))] aa ce fun nz gH=>?_
   refine wp_ret ?_
   refine qam ?_
   refine qaF gH aa.cells (v:=.bool false) kz ?_
   first
    | exact (qjw hq ‹_› ‹_›).elim
    | exact (qgE hq ‹_› ‹_›).elim
    | exact (qf1 hq ‹_› ‹_› ‹_›).elim
  have kd:!(ap ≠ (Fld.nul (Fld.mk k1 y2 y3 y4 y5 y6 y7 l8) v (Tree.mk ac ab ae af ag))):=by simpa using cm
  refine wp_skip ?_
  refine qab ?_
  refine wp_seq ?_
  refine qan [(1,.v (.int .i64 v)),(2,.v (.bool flex)),(5,.p 0 0),(8,.p 1 0),(9,.p 2 0),(47,.v (.bool (Fld.nul (Fld.mk k1 y2 y3 y4 y5 y6 y7 l8) v (Tree.mk ac ab ae af ag))))] aa ce fun nA cq=>?_
  refine qas cq (b:=Fld.nul (Fld.mk k1 y2 y3 y4 y5 y6 y7 l8) v (Tree.mk ac ab ae af ag)) kz (fun gI=>?_) (fun gI=>?_)
  ·
   refine qan [(10,.v (.bool true))] aa cq fun nB gJ=>?_
   refine wp_ret ?_
   refine qam ?_
   refine qaF gJ aa.cells (v:=.bool true) kz ?_
   exact ⟨rfl,aa.step⟩
  refine wp_skip ?_
  refine qab ?_
  refine wp_seq ?_
  refine qan [(1,.v (.int .i64 v)),(2,.v (.bool flex)),(5,.p 0 0),(8,.p 1 0),(9,.p 2 0),(49,.v (.int .i64 k1))] aa cq fun nC gK=>?_
  refine wp_block ?_
  refine wp_seq ?_
  refine qan [(1,.v (.int .i64 v)),(2,.v (.bool flex)),(5,.p 0 0),(8,.p 1 0),(9,.p 2 0),(49,.v (.int .i64 k1)),(50,.v (.bool (k1 == 8)))] aa gK fun nD dB=>?_
  refine qao dB (b:=k1 == 8) kz (ao) ?_
  refine qap [0,1] kz ?_
  refine qai [0,1] [] [(1,.v (.int .i64 v)),(2,.v (.bool flex)),(5,.p 0 0),(8,.p 1 0),(9,.p 2 0),(49,.v (.int .i64 k1)),(50,.v (.bool (k1 == 9)))] aa dB fun nE cr=>?_
  refine qaf (qab ?_)
  refine qas cr (b:=k1 == 9) kz (fun cu=>?_) (fun cu=>?_)
  ·
   have ke:k1 = 9:=by simpa using cu
   refine qaI 6 kz aa fun nF kf bj gL=>?_
   refine qaG [0,1,2,3] [(54,.v (.slice al ah.length am)),(56,.v (.slice ai ab.length aj))] 3 (qaa (qac (qaa qag))) (fun _ h=>h.cells) gL cr fun nG gM=>?_
   have i6:=qa6 ab
   refine qaA (i:=4) kz (qaj gM (f:=83) (vs:=[.slice ai ab.length aj]) (d:=57) kz Tryz.call83 (qdc _ _ ab (aH.move bj.step nilM bj.imm).le _) ?_)
   rintro e_ nH ⟨rfl,dC⟩
   refine ⟨_,rfl,fun nI gN=>?_⟩
   have aF:=bj.next_nil dC
   have dD:=bj.frN dC
   have gO:=TT.ofW dD aF
   refine ⟨fun _=>gO,?_⟩
   refine qaA (i:=5) kz (qaj gN (f:=82) (vs:=[.slice al ah.length am,.slice ai ((qaD ab).length) aj]) (d:=58) kz Tryz.call82 (qdM _ _ _ _ ah (qaD ab) _ _ ((bq.move aF.step nilM aF.imm).move (Step.refl _ Nil) nilM allF) (((aH.take 32767).move aF.step nilM aF.imm).move (Step.refl _ Nil) nilM allF)) ?_)
   rintro e_ nJ ⟨rfl,dE⟩
   refine ⟨_,rfl,fun nK gP=>?_⟩
   have bk:=aF.next_nil dE
   have gQ:=aF.frN dE
   have gR:=TT.ofW (dD.trans gQ) bk
   refine ⟨fun _=>gR,?_⟩
   refine qaA (i:=6) kz (qa9 [10] bk.cells gP (env':=[(10,.v (.bool (decide (ah = (qaD ab)))))]) kz fun nL gS=>?_)
   refine ⟨fun h=>absurd rfl h,?_⟩
   refine qaE kz ?_ _
   refine qab ?_
   refine wp_ret ?_
   refine qaw ?_
   refine qam ?_
   refine qaF gS bk.cells (v:=.bool (decide (ah = (qaD ab)))) kz ?_
   refine ⟨congrArg (fun b_=>Ending.returned (Value.bool b_)) ?_,bk.step⟩
   first
    | exact qdQ hq ‹_› ‹_›
    | exact qdR hq ‹_› ‹_›
    | exact to_u hq ‹_› ‹_›
    | exact to_m hq ‹_› ‹_› ‹_› ‹_› ‹_› ‹_›
  have kg:k1 ≠ 9:=by simpa using cu
  refine qan [(1,.v (.int .i64 v)),(2,.v (.bool flex)),(5,.p 0 0),(8,.p 1 0),(9,.p 2 0),(49,.v (.int .i64 k1)),(59,.v (.bool (k1 == 7)))] aa cr fun nM cw=>?_
  refine qas cw (b:=k1 == 7) kz (fun cz=>?_) (fun cz=>?_)
  ·
   have kh:k1 = 7:=by simpa using cz
   refine qae [0,1] kz ?_
   refine qak (qcb aa cw (d:=61) (j:=16) (t:=22) (e:=5) (bytes:=1) (z:=.int .u8 0) kz kz kz kz (rfl) (rfl) (by omega) fun aw nN nO ki kj km aS gT=>?_)
   refine qai [1] [] [(8,.p 1 0),(9,.p 2 0),(13,.v (.slice (some ⟨aw,0,none⟩) 16 16))] aS gT fun nP gU=>?_
   refine qaf (qab ?_)
   refine qae [0,1,2,3] kz ?_
   refine qai [0,1,2] [3] [(9,.p 2 0),(13,.v (.slice (some ⟨aw,0,none⟩) 16 16)),(62,.v (.slice (some ⟨aw,0,none⟩) 16 16)),(64,.v (.slice ai ab.length aj))] aS gU fun nQ gV=>?_
   refine qak (qcj aS gV (k:=0) (d:=65) (t:=22) (u:=22) (e:=5) (bytes:=1) (A:=(some ⟨aw,0,none⟩)) (As:=ai) (m:=ab.length) (cs:=aj) (m0:=16) (c:=16) (xs:=(List.replicate 16 (.int .u8 0))) (news:=bc ab) kz kz rfl (aH.move aS.step nilM aS.imm).src fun nR nS ko gW gX=>?_)
   have gY:(⟨(some ⟨aw,0,none⟩),16,5,1,16,qba (List.replicate 16 (.int .u8 0)) 0 ((bc ab).take (min ab.length 16))⟩:Rw) = brow (some ⟨aw,0,none⟩) 16 5 (qbd ab):=qdj _ _ _
   obtain ⟨aL,kp⟩:=gW.rowEq 0 [brow (some ⟨aw,0,none⟩) 16 5 (qbd ab)] gY
   have gZ:=EnvOk.pick gX (ks:=[9,13,62,64,65]) (env':=[(9,.p 2 0),(13,.v (.slice (some ⟨aw,0,none⟩) 16 16)),(62,.v (.slice (some ⟨aw,0,none⟩) 16 16)),(64,.v (.slice ai ab.length aj)),(65,.v (.int .i64 ((min ab.length 16:Nat):Int)))]) kz
   have g6:=gZ.cast (env':=[(9,.p 2 0),(13,.v (.slice (some ⟨aw,0,none⟩) ((qbd ab).length) 16)),(62,.v (.slice (some ⟨aw,0,none⟩) ((qbd ab).length) 16)),(64,.v (.slice ai ab.length aj)),(65,.v (.int .i64 ((min ab.length 16:Nat):Int)))]) (by rw [qa3 _])
   refine qaf (qab ?_)
   refine qae [0,1,2,3,4] kz ?_
   refine qai [0,1,2] [3,4] [(67,.v (.slice al ah.length am)),(68,.v (.slice (some ⟨aw,0,none⟩) ((qbd ab).length) 16))] aL g6 fun nT g7=>?_
   refine qak (qaj g7 (f:=82) (vs:=[.slice al ah.length am,.slice (some ⟨aw,0,none⟩) ((qbd ab).length) 16]) (d:=69) kz Tryz.call82 (qdM _ _ _ _ ah (qbd ab) _ _ ((bq.move aL.step nilM aL.imm).move (Step.refl _ Nil) nilM allF) (qbU (aL.own 0 _ rfl) (by first | omega | (rw [qa3]; decide) | (simp only [be_length]; exact Nat.le_trans (qbl _) (by decide)) | (have:=hroom; omega) | (have:=hmade; omega) | (simp only [List.length_append,List.length_nil]; omega)) (F:=fun _ _=>True) (fun _ _ _=>trivial))) ?_)
   rintro e_ nU ⟨rfl,dF⟩
   refine ⟨_,rfl,fun nV g8=>?_⟩
   have cA:=aL.next_nil dF
   have kq:=aL.frN dF
   refine qai [4] [] [(10,.v (.bool (decide (ah = qbd ab))))] cA g8 fun nW g9=>?_
   refine qaf (qab ?_)
   refine wp_ret ?_
   refine qaw ?_
   refine qam ?_
   refine qaF g9 cA.cells (v:=.bool (decide (ah = qbd ab))) kz ?_
   refine ⟨congrArg (fun b_=>Ending.returned (Value.bool b_)) ?_,cA.step⟩
   first
    | exact qdQ hq ‹_› ‹_›
    | exact qdR hq ‹_› ‹_›
    | exact to_u hq ‹_› ‹_›
    | exact to_m hq ‹_› ‹_› ‹_› ‹_› ‹_› ‹_›
  have ku:k1 ≠ 7:=by simpa using cz
  refine qan [(1,.v (.int .i64 v)),(2,.v (.bool flex)),(5,.p 0 0),(8,.p 1 0),(9,.p 2 0),(49,.v (.int .i64 k1)),(70,.v (.bool (k1 == 10)))] aa cw fun nX dG=>?_
  refine qaW dG (b:=k1 == 10) kz (aE) ?_
  refine qae [0,1,2,3,4,5,6,7] kz ?_
  refine qai [0,1,2,3,4,5] [6,7] [(73,.v (.slice A9 l8.length dT)),(74,.v (.int .i64 v)),(75,.v (.bool flex)),(76,.v (.agg #[.int .i64 ac,.slice ai ab.length aj,.bool ae,.slice dU af.length dV,.slice dW ag.length dX])),(77,.v (.agg #[.int .i64 aN,.slice al ah.length am,.bool ap,.slice d6 dY.length d7,.slice d8 dZ.length d9]))] aa dG fun nY hC=>?_
  refine qak (qaj hC (f:=30) (vs:=[.slice A9 l8.length dT,.int .i64 v,.bool flex,.agg #[.int .i64 ac,.slice ai ab.length aj,.bool ae,.slice dU af.length dV,.slice dW ag.length dX],.agg #[.int .i64 aN,.slice al ah.length am,.bool ap,.slice d6 dY.length d7,.slice d8 dZ.length d9]]) (d:=78) kz Tryz.call30 ( hT _ _ l8 _ (Tree.mk ac ab ae af ag) _ (Tree.mk aN ah ap dY dZ) _ _ ⟨d5,(iJ.move aa.step nilM aa.imm),(fun i_ x_ h_=>((ja i_ x_ h_).move aa.step nilM aa.imm))⟩ (ht.move aa.step nilM aa.imm) (hg.move aa.step nilM aa.imm) hpl (qjx hq ‹_› ‹_›)) ?_)
  rintro e_ nZ ⟨rfl,dH⟩
  refine ⟨_,rfl,fun n4 hJ=>?_⟩
  have cB:=aa.next_nil dH
  have kv:=aa.frN dH
  refine qai [7] [] [(10,.v (.bool true))] cB hJ fun n5 hK=>?_
  refine qaf (qab ?_)
  refine wp_ret ?_
  refine qaw ?_
  refine qam ?_
  refine qaF hK cB.cells (v:=.bool true) kz ?_
  exact ⟨rfl,cB.step⟩
 have kw:k1 ≠ 10:=by simpa using aE
 have hZ:=dA.cast (env':=[(1,.v (.int .i64 v)),(2,.v (.bool flex)),(5,.p 0 0),(8,.p 1 0),(9,.p 2 0),(11,.v (.bool (Fld.nul (Fld.mk k1 y2 y3 y4 y5 y6 y7 l8) v (Tree.mk ac ab ae af ag)))),(12,.v (.bool false)),(38,.v (.bool false))]) (by rw [aE])
 refine qai [9,10,11,12,13,14,15,16] [] [(1,.v (.int .i64 v)),(2,.v (.bool flex)),(5,.p 0 0),(8,.p 1 0),(9,.p 2 0),(11,.v (.bool (Fld.nul (Fld.mk k1 y2 y3 y4 y5 y6 y7 l8) v (Tree.mk ac ab ae af ag)))),(46,.v (.bool false))] aa hZ fun n8 dI=>?_
 refine qaf (qab ?_)
 refine qao dI (b:=false) kz rfl ?_
 refine wp_skip ?_
 refine qab ?_
 refine wp_seq ?_
 refine qan [(1,.v (.int .i64 v)),(2,.v (.bool flex)),(5,.p 0 0),(8,.p 1 0),(9,.p 2 0),(47,.v (.bool (Fld.nul (Fld.mk k1 y2 y3 y4 y5 y6 y7 l8) v (Tree.mk ac ab ae af ag))))] aa dI fun oa cC=>?_
 refine qas cC (b:=Fld.nul (Fld.mk k1 y2 y3 y4 y5 y6 y7 l8) v (Tree.mk ac ab ae af ag)) kz (fun ia=>?_) (fun ia=>?_)
 ·
  refine qan [(10,.v (.bool true))] aa cC fun od ib=>?_
  refine wp_ret ?_
  refine qam ?_
  refine qaF ib aa.cells (v:=.bool true) kz ?_
  exact ⟨rfl,aa.step⟩
 refine wp_skip ?_
 refine qab ?_
 refine wp_seq ?_
 refine qan [(1,.v (.int .i64 v)),(2,.v (.bool flex)),(5,.p 0 0),(8,.p 1 0),(9,.p 2 0),(49,.v (.int .i64 k1))] aa cC fun oe ic=>?_
 refine wp_block ?_
 refine wp_seq ?_
 refine qan [(1,.v (.int .i64 v)),(2,.v (.bool flex)),(5,.p 0 0),(8,.p 1 0),(9,.p 2 0),(49,.v (.int .i64 k1)),(50,.v (.bool (k1 == 8)))] aa ic fun og dJ=>?_
 refine qao dJ (b:=k1 == 8) kz (ao) ?_
 refine qap [0,1] kz ?_
 refine qai [0,1] [] [(1,.v (.int .i64 v)),(2,.v (.bool flex)),(5,.p 0 0),(8,.p 1 0),(9,.p 2 0),(49,.v (.int .i64 k1)),(50,.v (.bool (k1 == 9)))] aa dJ fun oh cD=>?_
 refine qaf (qab ?_)
 refine qas cD (b:=k1 == 9) kz (fun cE=>?_) (fun cE=>?_)
 ·
  have kx:k1 = 9:=by simpa using cE
  refine qaI 6 kz aa fun ol ky bn ig=>?_
  refine qaG [0,1,2,3] [(54,.v (.slice al ah.length am)),(56,.v (.slice ai ab.length aj))] 3 (qaa (qac (qaa qag))) (fun _ h=>h.cells) ig cD fun om ii=>?_
  have i7:=qa6 ab
  refine qaA (i:=4) kz (qaj ii (f:=83) (vs:=[.slice ai ab.length aj]) (d:=57) kz Tryz.call83 (qdc _ _ ab (aH.move bn.step nilM bn.imm).le _) ?_)
  rintro e_ oq ⟨rfl,dK⟩
  refine ⟨_,rfl,fun ot ij=>?_⟩
  have aG:=bn.next_nil dK
  have dL:=bn.frN dK
  have ik:=TT.ofW dL aG
  refine ⟨fun _=>ik,?_⟩
  refine qaA (i:=5) kz (qaj ij (f:=82) (vs:=[.slice al ah.length am,.slice ai ((qaD ab).length) aj]) (d:=58) kz Tryz.call82 (qdM _ _ _ _ ah (qaD ab) _ _ ((bq.move aG.step nilM aG.imm).move (Step.refl _ Nil) nilM allF) (((aH.take 32767).move aG.step nilM aG.imm).move (Step.refl _ Nil) nilM allF)) ?_)
  rintro e_ ou ⟨rfl,dM⟩
  refine ⟨_,rfl,fun ov il=>?_⟩
  have bo:=aG.next_nil dM
  have im:=aG.frN dM
  have io:=TT.ofW (dL.trans im) bo
  refine ⟨fun _=>io,?_⟩
  refine qaA (i:=6) kz (qa9 [10] bo.cells il (env':=[(10,.v (.bool (decide (ah = (qaD ab)))))]) kz fun ow ip=>?_)
  refine ⟨fun h=>absurd rfl h,?_⟩
  refine qaE kz ?_ _
  refine qab ?_
  refine wp_ret ?_
  refine qaw ?_
  refine qam ?_
  refine qaF ip bo.cells (v:=.bool (decide (ah = (qaD ab)))) kz ?_
  refine ⟨congrArg (fun b_=>Ending.returned (Value.bool b_)) ?_,bo.step⟩
  first
   | exact qdQ hq ‹_› ‹_›
   | exact qdR hq ‹_› ‹_›
   | exact to_u hq ‹_› ‹_›
   | exact to_m hq ‹_› ‹_› ‹_› ‹_› ‹_› ‹_›
 have kA:k1 ≠ 9:=by simpa using cE
 refine qan [(1,.v (.int .i64 v)),(2,.v (.bool flex)),(5,.p 0 0),(8,.p 1 0),(9,.p 2 0),(49,.v (.int .i64 k1)),(59,.v (.bool (k1 == 7)))] aa cD fun ox cG=>?_
 refine qas cG (b:=k1 == 7) kz (fun cH=>?_) (fun cH=>?_)
 ·
  have kB:k1 = 7:=by simpa using cH
  refine qae [0,1] kz ?_
  refine qak (qcb aa cG (d:=61) (j:=16) (t:=22) (e:=5) (bytes:=1) (z:=.int .u8 0) kz kz kz kz (rfl) (rfl) (by omega) fun ax oy oz kC kD kE aT iq=>?_)
  refine qai [1] [] [(8,.p 1 0),(9,.p 2 0),(13,.v (.slice (some ⟨ax,0,none⟩) 16 16))] aT iq fun oA ir=>?_
  refine qaf (qab ?_)
  refine qae [0,1,2,3] kz ?_
  refine qai [0,1,2] [3] [(9,.p 2 0),(13,.v (.slice (some ⟨ax,0,none⟩) 16 16)),(62,.v (.slice (some ⟨ax,0,none⟩) 16 16)),(64,.v (.slice ai ab.length aj))] aT ir fun oB iu=>?_
  refine qak (qcj aT iu (k:=0) (d:=65) (t:=22) (u:=22) (e:=5) (bytes:=1) (A:=(some ⟨ax,0,none⟩)) (As:=ai) (m:=ab.length) (cs:=aj) (m0:=16) (c:=16) (xs:=(List.replicate 16 (.int .u8 0))) (news:=bc ab) kz kz rfl (aH.move aT.step nilM aT.imm).src fun oC oD kF iv iw=>?_)
  have ix:(⟨(some ⟨ax,0,none⟩),16,5,1,16,qba (List.replicate 16 (.int .u8 0)) 0 ((bc ab).take (min ab.length 16))⟩:Rw) = brow (some ⟨ax,0,none⟩) 16 5 (qbd ab):=qdj _ _ _
  obtain ⟨aM,kG⟩:=iv.rowEq 0 [brow (some ⟨ax,0,none⟩) 16 5 (qbd ab)] ix
  have iy:=EnvOk.pick iw (ks:=[9,13,62,64,65]) (env':=[(9,.p 2 0),(13,.v (.slice (some ⟨ax,0,none⟩) 16 16)),(62,.v (.slice (some ⟨ax,0,none⟩) 16 16)),(64,.v (.slice ai ab.length aj)),(65,.v (.int .i64 ((min ab.length 16:Nat):Int)))]) kz
  have iz:=iy.cast (env':=[(9,.p 2 0),(13,.v (.slice (some ⟨ax,0,none⟩) ((qbd ab).length) 16)),(62,.v (.slice (some ⟨ax,0,none⟩) ((qbd ab).length) 16)),(64,.v (.slice ai ab.length aj)),(65,.v (.int .i64 ((min ab.length 16:Nat):Int)))]) (by rw [qa3 _])
  refine qaf (qab ?_)
  refine qae [0,1,2,3,4] kz ?_
  refine qai [0,1,2] [3,4] [(67,.v (.slice al ah.length am)),(68,.v (.slice (some ⟨ax,0,none⟩) ((qbd ab).length) 16))] aM iz fun oE iA=>?_
  refine qak (qaj iA (f:=82) (vs:=[.slice al ah.length am,.slice (some ⟨ax,0,none⟩) ((qbd ab).length) 16]) (d:=69) kz Tryz.call82 (qdM _ _ _ _ ah (qbd ab) _ _ ((bq.move aM.step nilM aM.imm).move (Step.refl _ Nil) nilM allF) (qbU (aM.own 0 _ rfl) (by first | omega | (rw [qa3]; decide) | (simp only [be_length]; exact Nat.le_trans (qbl _) (by decide)) | (have:=hroom; omega) | (have:=hmade; omega) | (simp only [List.length_append,List.length_nil]; omega)) (F:=fun _ _=>True) (fun _ _ _=>trivial))) ?_)
  rintro e_ oF ⟨rfl,dN⟩
  refine ⟨_,rfl,fun oG iB=>?_⟩
  have cI:=aM.next_nil dN
  have kH:=aM.frN dN
  refine qai [4] [] [(10,.v (.bool (decide (ah = qbd ab))))] cI iB fun oH iC=>?_
  refine qaf (qab ?_)
  refine wp_ret ?_
  refine qaw ?_
  refine qam ?_
  refine qaF iC cI.cells (v:=.bool (decide (ah = qbd ab))) kz ?_
  refine ⟨congrArg (fun b_=>Ending.returned (Value.bool b_)) ?_,cI.step⟩
  first
   | exact qdQ hq ‹_› ‹_›
   | exact qdR hq ‹_› ‹_›
   | exact to_u hq ‹_› ‹_›
   | exact to_m hq ‹_› ‹_› ‹_› ‹_› ‹_› ‹_›
 have kI:k1 ≠ 7:=by simpa using cH
 refine qan [(1,.v (.int .i64 v)),(2,.v (.bool flex)),(5,.p 0 0),(8,.p 1 0),(9,.p 2 0),(49,.v (.int .i64 k1)),(70,.v (.bool (k1 == 10)))] aa cG fun oI dO=>?_
 refine qao dO (b:=k1 == 10) kz (aE) ?_
 refine qan [(1,.v (.int .i64 v)),(2,.v (.bool flex)),(5,.p 0 0),(8,.p 1 0),(9,.p 2 0),(79,.v (.bool (k1 == 11)))] aa dO fun oJ dP=>?_
 refine qao dP (b:=k1 == 11) kz (by simpa using bt) ?_
 refine wp_skip ?_
 refine qaq ?_
 refine qab ?_
 refine qaI 8 kz aa fun oK kJ dQ iD=>?_
 refine qaG [0,1,2,3,4,5] [(117,.v (.int .i64 aN)),(119,.v (.int .i64 k1)),(121,.v (.int .i64 ac))] 3 (qaa qag) (fun _ h=>h.cells) iD dP fun oL iE=>?_
 refine qaA (i:=6) kz (qaj iE (f:=48) (vs:=[.int .i64 k1,.int .i64 ac]) (d:=122) kz Tryz.call48 (qf3 k1 ac _) ?_)
 rintro e_ oM ⟨rfl,dR⟩
 refine ⟨_,rfl,fun oN iF=>?_⟩
 have bp:=dQ.next_nil dR
 have iG:=dQ.frN dR
 have dS:=TT.ofW iG bp
 refine ⟨fun _=>dS,?_⟩
 refine qaG [7] [(123,.v (.bool (aN == (qbc k1 ac))))] 1 (qaa qag) (fun _ h=>h.cells) dS iF fun oO iH=>?_
 refine qaA (i:=8) kz (qa9 [10] bp.cells iH (env':=[(10,.v (.bool (aN == (qbc k1 ac))))]) kz fun oP iI=>?_)
 refine ⟨fun h=>absurd rfl h,?_⟩
 refine qaE kz ?_ _
 refine qab ?_
 refine wp_ret ?_
 refine qaF iI bp.cells (v:=.bool (aN == (qbc k1 ac))) kz ?_
 refine ⟨congrArg (fun b_=>Ending.returned (Value.bool b_)) ?_,bp.step⟩
 first
  | exact qdQ hq ‹_› ‹_›
  | exact qdR hq ‹_› ‹_›
  | exact to_u hq ‹_› ‹_›
  | exact to_m hq ‹_› ‹_› ‹_› ‹_› ‹_› ‹_›
theorem qle {v:Int} {flex:Bool} {T:List Fld → Tree → Tree → Prop} (hT:ToOK v flex T) (cf:List Value) (f:Fld) (ct:List Value) (t:Tree) (cg:List Value) (g:Tree) (w:World) (F:Nat → Nat → Prop) (hf:FldR w F cf f) (hpl:f.plain) (ac:f.kind = 11) (ht:TreeR w F ct t) (hg:TreeR w F cg g) (hQ:ToF T v f t g) :
  Calls Tryz.prog 79 #[.agg cf.toArray,.int .i64 v,.bool flex,.agg ct.toArray,.agg cg.toArray] w (qbX w (.bool true)):=by
 obtain ⟨k1,y2,y3,y4,y5,y6,y7,l8,A9,ap,dE,rfl,rfl,gS,g7⟩:=hf.open_
 have ji:=gS.small
 obtain ⟨aj,ak,al,aa,am,ep,eu,ae,af,ev,ew,kp,rfl,rfl,kq,dF,g8,nz⟩:=ht.open_
 have jj:=kq.small
 have jk:=dF.small
 obtain ⟨gT,gU,cz,ao,gV,gW,gX,bC,dG,gY,gZ,ku,rfl,rfl,kv,g6,g9,nA⟩:=hg.open_
 have jl:=kv.small
 have jm:=g6.small
 have ac:k1 = 11:=ac
 have hof:y7 ≠ 11:=hpl.1
 replace hpl:plains l8:=hpl.2
 have hq:=hQ.1
 refine enter (n:=124) Tryz.func79 rfl Tryz.ntmps79 kz fun a hE=>?_
 have hW:=WOk.start w Nil
 refine qae [0,1,2,3] kz ?_
 refine qak (qa7 hW hE (d:=5) (cs:=[.int .i64 k1,.int .i64 y2,.int .i64 y3,.int .i64 y4,.int .i64 y5,.int .i64 y6,.int .i64 y7,.slice A9 l8.length ap]) kz fun hC nB nC kw kx ky hJ hK=>?_)
 refine qak (qa7 hJ hK (d:=8) (cs:=[.int .i64 aj,.slice ep ak.length eu,.bool al,.slice ae aa.length af,.slice ev am.length ew]) kz fun hZ nD nE kA kB kC ia ib=>?_)
 refine qak (qa7 ia ib (d:=9) (cs:=[.int .i64 gT,.slice gW gU.length gX,.bool cz,.slice bC ao.length dG,.slice gY gV.length gZ]) kz fun ic nF nG kD kE kF bD ig=>?_)
 refine qai [3] [] [(1,.v (.int .i64 v)),(2,.v (.bool flex)),(5,.p 0 0),(8,.p 1 0),(9,.p 2 0)] bD ig fun nH ii=>?_
 refine qaf (qab ?_)
 refine qae [0,1,2,3,4] kz ?_
 refine qai [0,1,2] [3,4] [(1,.v (.int .i64 v)),(2,.v (.bool flex)),(5,.p 0 0),(8,.p 1 0),(9,.p 2 0),(17,.v (.agg #[.int .i64 k1,.int .i64 y2,.int .i64 y3,.int .i64 y4,.int .i64 y5,.int .i64 y6,.int .i64 y7,.slice A9 l8.length ap])),(18,.v (.int .i64 v)),(19,.v (.agg #[.int .i64 aj,.slice ep ak.length eu,.bool al,.slice ae aa.length af,.slice ev am.length ew]))] bD ii fun nI ij=>?_
 refine qak (qaj ij (f:=126) (vs:=[.agg #[.int .i64 k1,.int .i64 y2,.int .i64 y3,.int .i64 y4,.int .i64 y5,.int .i64 y6,.int .i64 y7,.slice A9 l8.length ap],.int .i64 v,.agg #[.int .i64 aj,.slice ep ak.length eu,.bool al,.slice ae aa.length af,.slice ev am.length ew]]) (d:=20) kz Tryz.call126 (qkS k1 y2 y3 y4 y5 y6 y7 l8 _ _ v aj ak al aa am _ _ _ _ _ _ _) ?_)
 rintro e_ nJ ⟨rfl,ey⟩
 refine ⟨_,rfl,fun nK ik=>?_⟩
 have ab:=bD.next_nil ey
 have kG:=bD.frN ey
 refine qai [4] [] [(1,.v (.int .i64 v)),(2,.v (.bool flex)),(5,.p 0 0),(8,.p 1 0),(9,.p 2 0),(11,.v (.bool (Fld.nul (Fld.mk k1 y2 y3 y4 y5 y6 y7 l8) v (Tree.mk aj ak al aa am))))] ab ik fun nL il=>?_
 refine qaf (qab ?_)
 refine qae [0,1,2,3,4,5,6,7,8,9] kz ?_
 refine qai [0,1,2,3] [4,5,6,7,8,9] [(1,.v (.int .i64 v)),(2,.v (.bool flex)),(5,.p 0 0),(8,.p 1 0),(9,.p 2 0),(11,.v (.bool (Fld.nul (Fld.mk k1 y2 y3 y4 y5 y6 y7 l8) v (Tree.mk aj ak al aa am)))),(24,.v (.bool (decide (y4 ≥ 0))))] ab il fun nM ez=>?_
 refine (Bool.eq_false_or_eq_true (decide (y4 ≥ 0))).elim (fun aD=>?_) (fun aD=>?_)
 ·
  have kH:=of_decide_eq_true aD
  have im:=ez.cast (env':=[(1,.v (.int .i64 v)),(2,.v (.bool flex)),(5,.p 0 0),(8,.p 1 0),(9,.p 2 0),(11,.v (.bool (Fld.nul (Fld.mk k1 y2 y3 y4 y5 y6 y7 l8) v (Tree.mk aj ak al aa am)))),(24,.v (.bool true))]) (by rw [aD])
  refine qai [4,5,6,7,8,9] [] [(1,.v (.int .i64 v)),(2,.v (.bool flex)),(5,.p 0 0),(8,.p 1 0),(9,.p 2 0),(11,.v (.bool (Fld.nul (Fld.mk k1 y2 y3 y4 y5 y6 y7 l8) v (Tree.mk aj ak al aa am)))),(12,.v (.bool (decide (v ≥ y4))))] ab im fun nN io=>?_
  refine qaf (qab ?_)
  refine wp_seq ?_
  refine qae [0,1,2,3,4,5,6,7,8,9,10,11,12,13,14,15,16] kz ?_
  refine qai [0,1,2,3] [4,5,6,7,8,9,10,11,12,13,14,15,16] [(1,.v (.int .i64 v)),(2,.v (.bool flex)),(5,.p 0 0),(8,.p 1 0),(9,.p 2 0),(11,.v (.bool (Fld.nul (Fld.mk k1 y2 y3 y4 y5 y6 y7 l8) v (Tree.mk aj ak al aa am)))),(12,.v (.bool (decide (v ≥ y4)))),(33,.v (.bool (k1 == 8)))] ab io fun nO eB=>?_
  have eC:(k1 == 8) = false:=by simp [ac]
  have eD:=eB.cast (env':=[(1,.v (.int .i64 v)),(2,.v (.bool flex)),(5,.p 0 0),(8,.p 1 0),(9,.p 2 0),(11,.v (.bool (Fld.nul (Fld.mk k1 y2 y3 y4 y5 y6 y7 l8) v (Tree.mk aj ak al aa am)))),(12,.v (.bool (decide (v ≥ y4)))),(33,.v (.bool false))]) (by rw [eC])
  refine qai [4,5,6,7,8] [9,10,11,12,13,14,15,16] [(1,.v (.int .i64 v)),(2,.v (.bool flex)),(5,.p 0 0),(8,.p 1 0),(9,.p 2 0),(11,.v (.bool (Fld.nul (Fld.mk k1 y2 y3 y4 y5 y6 y7 l8) v (Tree.mk aj ak al aa am)))),(12,.v (.bool (decide (v ≥ y4)))),(38,.v (.bool (k1 == 10)))] ab eD fun kI eE=>?_
  have eF:(k1 == 10) = false:=by simp [ac]
  have eG:=eE.cast (env':=[(1,.v (.int .i64 v)),(2,.v (.bool flex)),(5,.p 0 0),(8,.p 1 0),(9,.p 2 0),(11,.v (.bool (Fld.nul (Fld.mk k1 y2 y3 y4 y5 y6 y7 l8) v (Tree.mk aj ak al aa am)))),(12,.v (.bool (decide (v ≥ y4)))),(38,.v (.bool false))]) (by rw [eF])
  refine qai [9,10,11] [12,13,14,15,16] [(1,.v (.int .i64 v)),(2,.v (.bool flex)),(5,.p 0 0),(8,.p 1 0),(9,.p 2 0),(11,.v (.bool (Fld.nul (Fld.mk k1 y2 y3 y4 y5 y6 y7 l8) v (Tree.mk aj ak al aa am)))),(41,.v (.bool (decide (v ≥ y4))))] ab eG fun kJ cA=>?_
  refine (Bool.eq_false_or_eq_true (decide (v ≥ y4))).elim (fun az=>?_) (fun az=>?_)
  ·
   have jn:=of_decide_eq_true az
   have eH:=cA.cast (env':=[(1,.v (.int .i64 v)),(2,.v (.bool flex)),(5,.p 0 0),(8,.p 1 0),(9,.p 2 0),(11,.v (.bool (Fld.nul (Fld.mk k1 y2 y3 y4 y5 y6 y7 l8) v (Tree.mk aj ak al aa am)))),(41,.v (.bool true))]) (by rw [az])
   refine qai [12,13,14,15,16] [] [(1,.v (.int .i64 v)),(2,.v (.bool flex)),(5,.p 0 0),(8,.p 1 0),(9,.p 2 0),(11,.v (.bool (Fld.nul (Fld.mk k1 y2 y3 y4 y5 y6 y7 l8) v (Tree.mk aj ak al aa am)))),(46,.v (.bool (!(cz == (Fld.nul (Fld.mk k1 y2 y3 y4 y5 y6 y7 l8) v (Tree.mk aj ak al aa am))))))] ab eH fun kK aE=>?_
   refine qaf (qab ?_)
   refine qas aE (b:=!(cz == (Fld.nul (Fld.mk k1 y2 y3 y4 y5 y6 y7 l8) v (Tree.mk aj ak al aa am)))) kz (fun aF=>?_) (fun aF=>?_)
   ·
    have jo:!(cz = (Fld.nul (Fld.mk k1 y2 y3 y4 y5 y6 y7 l8) v (Tree.mk aj ak al aa am))):=by simpa using aF
    refine qan [(10,.v (.bool false))] ab aE fun kL eI=>?_
    refine wp_ret ?_
    refine qam ?_
    refine qaF eI ab.cells (v:=.bool false) kz ?_
    first
     | exact (qf1 hq ‹_› ‹_› ‹_›).elim
     | exact (qhx (hQ.2 ac ‹_›).1 ‹_›).elim
     | (exfalso; simp_all; done)
   have jp:!(cz ≠ (Fld.nul (Fld.mk k1 y2 y3 y4 y5 y6 y7 l8) v (Tree.mk aj ak al aa am))):=by simpa using aF
   refine wp_skip ?_
   refine qab ?_
   refine wp_seq ?_
   refine qan [(1,.v (.int .i64 v)),(2,.v (.bool flex)),(5,.p 0 0),(8,.p 1 0),(9,.p 2 0),(47,.v (.bool (Fld.nul (Fld.mk k1 y2 y3 y4 y5 y6 y7 l8) v (Tree.mk aj ak al aa am))))] ab aE fun kM aG=>?_
   refine qas aG (b:=Fld.nul (Fld.mk k1 y2 y3 y4 y5 y6 y7 l8) v (Tree.mk aj ak al aa am)) kz (fun eJ=>?_) (fun eJ=>?_)
   ·
    refine qan [(10,.v (.bool true))] ab aG fun kN eK=>?_
    refine wp_ret ?_
    refine qam ?_
    refine qaF eK ab.cells (v:=.bool true) kz ?_
    exact ⟨rfl,ab.step⟩
   refine wp_skip ?_
   refine qab ?_
   refine wp_seq ?_
   refine qan [(1,.v (.int .i64 v)),(2,.v (.bool flex)),(5,.p 0 0),(8,.p 1 0),(9,.p 2 0),(49,.v (.int .i64 k1))] ab aG fun kO eL=>?_
   refine wp_block ?_
   refine wp_seq ?_
   refine qan [(1,.v (.int .i64 v)),(2,.v (.bool flex)),(5,.p 0 0),(8,.p 1 0),(9,.p 2 0),(49,.v (.int .i64 k1)),(50,.v (.bool (k1 == 8)))] ab eL fun kP cB=>?_
   refine qao cB (b:=k1 == 8) kz (by simp [ac]) ?_
   refine qap [0,1] kz ?_
   refine qai [0,1] [] [(1,.v (.int .i64 v)),(2,.v (.bool flex)),(5,.p 0 0),(8,.p 1 0),(9,.p 2 0),(49,.v (.int .i64 k1)),(50,.v (.bool (k1 == 9)))] ab cB fun kQ cC=>?_
   refine qaf (qab ?_)
   refine qao cC (b:=k1 == 9) kz (by simp [ac]) ?_
   refine qan [(1,.v (.int .i64 v)),(2,.v (.bool flex)),(5,.p 0 0),(8,.p 1 0),(9,.p 2 0),(49,.v (.int .i64 k1)),(59,.v (.bool (k1 == 7)))] ab cC fun kR cD=>?_
   refine qao cD (b:=k1 == 7) kz (by simp [ac]) ?_
   refine qan [(1,.v (.int .i64 v)),(2,.v (.bool flex)),(5,.p 0 0),(8,.p 1 0),(9,.p 2 0),(49,.v (.int .i64 k1)),(70,.v (.bool (k1 == 10)))] ab cD fun kS cE=>?_
   refine qao cE (b:=k1 == 10) kz (by simp [ac]) ?_
   refine qan [(1,.v (.int .i64 v)),(2,.v (.bool flex)),(5,.p 0 0),(8,.p 1 0),(9,.p 2 0),(79,.v (.bool (k1 == 11)))] ab cE fun kT cG=>?_
   refine qaW cG (b:=k1 == 11) kz (by simpa using ac) ?_
   refine qae [0,1,2,3] kz ?_
   refine qai [0,1] [2,3] [(1,.v (.int .i64 v)),(2,.v (.bool flex)),(5,.p 0 0),(9,.p 2 0),(82,.v (.slice ae aa.length af))] ab cG fun kU eM=>?_
   refine qak (qaj eM (f:=127) (vs:=[.slice ae aa.length af]) (d:=83) kz Tryz.call127 (qfP _ _ aa (dF.move ab.step nilM ab.imm).le _) ?_)
   rintro e_ kV ⟨rfl,cH⟩
   refine ⟨_,rfl,fun kW eN=>?_⟩
   have ar:=ab.next_nil cH
   have jq:=ab.frN cH
   refine qai [3] [] [(1,.v (.int .i64 v)),(2,.v (.bool flex)),(5,.p 0 0),(9,.p 2 0),(14,.v (.slice ae ((qal aa).length) af))] ar eN fun kX eO=>?_
   refine qaf (qab ?_)
   refine wp_seq ?_
   refine qan [(1,.v (.int .i64 v)),(2,.v (.bool flex)),(5,.p 0 0),(9,.p 2 0),(14,.v (.slice ae ((qal aa).length) af)),(89,.v (.bool (((ao.length:Nat):Int) != (((qal aa).length:Nat):Int))))] ar eO fun kY aH=>?_
   refine qas aH (b:=((ao.length:Nat):Int) != (((qal aa).length:Nat):Int)) kz (fun aI=>?_) (fun aI=>?_)
   ·
    have jr:((ao.length:Nat):Int) ≠ (((qal aa).length:Nat):Int):=by simpa using aI
    refine qan [(10,.v (.bool false))] ar aH fun kZ eP=>?_
    refine wp_ret ?_
    refine qam ?_
    refine qaw ?_
    refine qam ?_
    refine qaF eP ar.cells (v:=.bool false) kz ?_
    first
     | exact (qf1 hq ‹_› ‹_› ‹_›).elim
     | exact (qhx (hQ.2 ac ‹_›).1 ‹_›).elim
     | (exfalso; simp_all; done)
   have js:((ao.length:Nat):Int) = (((qal aa).length:Nat):Int):=by simpa using aI
   refine wp_skip ?_
   refine qab ?_
   refine qae [0,1,2] kz ?_
   refine qai [0] [1,2] [(1,.v (.int .i64 v)),(2,.v (.bool flex)),(5,.p 0 0),(9,.p 2 0),(14,.v (.slice ae ((qal aa).length) af)),(90,.v (.agg #[.int .i64 k1,.int .i64 y2,.int .i64 y3,.int .i64 y4,.int .i64 y5,.int .i64 y6,.int .i64 y7,.slice A9 l8.length ap]))] ar aH fun k5 eQ=>?_
   refine qak (qaK ar eQ (d:=15) (cs:=[.int .i64 0,.int .i64 0,.int .i64 0,.int .i64 0,.int .i64 0,.int .i64 0,.int .i64 0,.slice none 0 0]) kz fun ip k6 k7 jt ju jv eR eS=>?_)
   refine qak (qav eR eS (oi:=3) (cs:=[.int .i64 k1,.int .i64 y2,.int .i64 y3,.int .i64 y4,.int .i64 y5,.int .i64 y6,.int .i64 y7,.slice A9 l8.length ap]) kz fun k8 jw cI eU=>?_)
   refine qaf (qab ?_)
   refine qae [0,1,2,3,4,5,6,7] kz ?_
   refine qai [0,1,2] [3,4,5,6,7] [(1,.v (.int .i64 v)),(2,.v (.bool flex)),(9,.p 2 0),(14,.v (.slice ae ((qal aa).length) af)),(15,.p 3 0),(92,.v (.int .i64 y7)),(93,.p 3 0)] cI eU fun k9 eV=>?_
   refine qak (qav cI eV (oi:=3) (cs:=[.int .i64 y7,.int .i64 y2,.int .i64 y3,.int .i64 y4,.int .i64 y5,.int .i64 y6,.int .i64 y7,.slice A9 l8.length ap]) kz fun la jx cJ eW=>?_)
   refine qai [4] [5,6,7] [(1,.v (.int .i64 v)),(2,.v (.bool flex)),(9,.p 2 0),(14,.v (.slice ae ((qal aa).length) af)),(15,.p 3 0),(94,.p 3 3)] cJ eW fun lb eX=>?_
   refine qak (qav cJ eX (oi:=3) (cs:=[.int .i64 y7,.int .i64 y2,.int .i64 y3,.int .i64 (-1),.int .i64 y5,.int .i64 y6,.int .i64 y7,.slice A9 l8.length ap]) kz fun lc jy cK eY=>?_)
   refine qai [6] [7] [(1,.v (.int .i64 v)),(2,.v (.bool flex)),(9,.p 2 0),(14,.v (.slice ae ((qal aa).length) af)),(15,.p 3 0),(95,.p 3 4)] cK eY fun ld eZ=>?_
   refine qak (qav cK eZ (oi:=3) (cs:=[.int .i64 y7,.int .i64 y2,.int .i64 y3,.int .i64 (-1),.int .i64 (-1),.int .i64 y6,.int .i64 y7,.slice A9 l8.length ap]) kz fun lf jz aJ e9=>?_)
   refine qaf (qab ?_)
   refine wp_seq ?_
   refine qan [(1,.v (.int .i64 v)),(2,.v (.bool flex)),(9,.p 2 0),(14,.v (.slice ae ((qal aa).length) af)),(15,.p 3 0),(97,.v (.int .i64 (((qal aa).length:Nat):Int))),(98,.v (.int .i64 0))] aJ e9 fun lg fa=>?_
   refine wp_block ?_
   have hl_:=(hQ.2 ac ‹_›).2
   refine wp_loop_ghost (fun n_ a_ w_=>∃ (k:Nat),n_ = (qal aa).length - k ∧ k ≤ (qal aa).length ∧ LInv aJ 124 [⟨hC,0,[.int .i64 k1,.int .i64 y2,.int .i64 y3,.int .i64 y4,.int .i64 y5,.int .i64 y6,.int .i64 y7,.slice A9 l8.length ap],true⟩,⟨hZ,0,[.int .i64 aj,.slice ep ak.length eu,.bool al,.slice ae aa.length af,.slice ev am.length ew],true⟩,⟨ic,0,[.int .i64 gT,.slice gW gU.length gX,.bool cz,.slice bC ao.length dG,.slice gY gV.length gZ],true⟩,⟨ip,0,[.int .i64 y7,.int .i64 y2,.int .i64 y3,.int .i64 (-1),.int .i64 (-1),.int .i64 y6,.int .i64 y7,.slice A9 l8.length ap],true⟩] [] [(1,.v (.int .i64 v)),(2,.v (.bool flex)),(9,.p 2 0),(14,.v (.slice ae ((qal aa).length) af)),(15,.p 3 0),(97,.v (.int .i64 (((qal aa).length:Nat):Int))),(98,.v (.int .i64 ((k:Nat):Int)))] a_ w_) ((qal aa).length) ⟨0,by omega,by omega,fa.pk,aJ,Fr.refl _ _ _⟩ ?_
   rintro lh li lj ⟨k,jA,jB,fb,au,fe⟩
   refine qan [(1,.v (.int .i64 v)),(2,.v (.bool flex)),(9,.p 2 0),(14,.v (.slice ae ((qal aa).length) af)),(15,.p 3 0),(97,.v (.int .i64 (((qal aa).length:Nat):Int))),(98,.v (.int .i64 ((k:Nat):Int))),(99,.v (.bool (decide (((k:Nat):Int) < (((qal aa).length:Nat):Int)))))] au fb fun lm aK=>?_
   refine wp_seq ?_
   refine qas aK (b:=decide (((k:Nat):Int) < (((qal aa).length:Nat):Int))) kz (fun aL=>?_) (fun aL=>?_)
   ·
    have jC:=of_decide_eq_true aL
    refine wp_skip ?_
    refine qab ?_
    refine wp_seq ?_
    refine wp_block ?_
    refine qan [(1,.v (.int .i64 v)),(2,.v (.bool flex)),(9,.p 2 0),(14,.v (.slice ae ((qal aa).length) af)),(15,.p 3 0),(16,.v (.int .i64 ((k:Nat):Int))),(97,.v (.int .i64 (((qal aa).length:Nat):Int))),(98,.v (.int .i64 ((k:Nat):Int)))] au aK fun ln ff=>?_
    refine qaI 14 kz au fun lp fg ag aA=>?_
    refine qaG [0,1,2,3,4,7,8,9] [(1,.v (.int .i64 v)),(2,.v (.bool flex)),(9,.p 2 0),(14,.v (.slice ae ((qal aa).length) af)),(15,.p 3 0),(97,.v (.int .i64 (((qal aa).length:Nat):Int))),(98,.v (.int .i64 ((k:Nat):Int))),(101,.v (.agg #[.int .i64 y7,.int .i64 y2,.int .i64 y3,.int .i64 (-1),.int .i64 (-1),.int .i64 y6,.int .i64 y7,.slice A9 l8.length ap])),(102,.v (.int .i64 v)),(103,.v (.bool flex)),(104,.v (.slice ae ((qal aa).length) af)),(105,.v (.int .i64 ((k:Nat):Int))),(109,.v (.slice bC ao.length dG)),(110,.v (.int .i64 ((k:Nat):Int)))] 6 (qaa (qac (qaa (qaa (qac (qaa (qac (qaa qag)))))))) (fun _ h=>h.cells) aA ff fun lq fh=>?_
    obtain ⟨iq,ir,fi,jD,aM⟩:=Slots.get (qcu dF) (i:=k) (by first | omega | (have h_:ao.length = (qal aa).length:=(hQ.2 ac ‹_›).1; omega))
    obtain ⟨iu,cL⟩:∃ x,(qal aa)[k]? = some x:=⟨_,List.getElem?_eq_getElem (by omega)⟩
    have aN:=(qcR g8) k iu cL
    obtain ⟨bE,bF,bG,bH,bI,dH,dI,dJ,dK,dL,dM,jE,rfl,aO,iv,iw,lr,ls⟩:=aN.open_
    rw [aO] at aN
    have ix:=iv.small
    have iy:=iw.small
    rw [aO] at aM
    refine qaN fh (i:=5) (t:=23) (A:=ae) (m:=((qal aa).length)) (q:=((k:Nat):Int)) (d:=106) kz (e:=26) (size:=5) (bytes:=88) kz fi rfl (by first | omega | (have h_:ao.length = (qal aa).length:=(hQ.2 ac ‹_›).1; omega)) kz kz (qaa (qac (qaa (qaa (qac (qaa (qac (qaa qag)))))))) aA fun lu fj=>?_
    refine qaX fj (i:=6) (t:=26) (b:=iq) (o:=ir + k * 5) (d:=107) kz (cs:=[.int .i64 bE,.slice dH bF.length dI,.bool bG,.slice dJ bH.length dK,.slice dL bI.length dM]) (v:=.agg #[.int .i64 bE,.slice dH bF.length dI,.bool bG,.slice dJ bH.length dK,.slice dL bI.length dM]) kz (fun w' h'=>(AtF.move aM (TT.step0 ag h') nilM qaY).at_) kz kz (qaa (qac (qaa (qaa (qac (qaa (qac (qaa qag)))))))) aA fun lv fk=>?_
    obtain ⟨iz,iA,fm,jF,aP⟩:=Slots.get g6 (i:=k) (by first | omega | (have h_:ao.length = (qal aa).length:=(hQ.2 ac ‹_›).1; omega))
    obtain ⟨iB,cM⟩:∃ x,ao[k]? = some x:=⟨_,List.getElem?_eq_getElem (by omega)⟩
    have aQ:=g9 k iB cM
    obtain ⟨bJ,bK,bL,bM,bN,dN,dO,dP,dQ,dR,dS,jG,rfl,aR,iC,iD,lw,lx⟩:=aQ.open_
    rw [aR] at aQ
    have iE:=iC.small
    have iF:=iD.small
    rw [aR] at aP
    refine qaN fk (i:=10) (t:=23) (A:=bC) (m:=ao.length) (q:=((k:Nat):Int)) (d:=111) kz (e:=26) (size:=5) (bytes:=88) kz fm rfl (by first | omega | (have h_:ao.length = (qal aa).length:=(hQ.2 ac ‹_›).1; omega)) kz kz (qaa (qac (qaa (qaa (qac (qaa (qac (qaa qag)))))))) aA fun ly fo=>?_
    refine qaX fo (i:=11) (t:=26) (b:=iz) (o:=iA + k * 5) (d:=112) kz (cs:=[.int .i64 bJ,.slice dN bK.length dO,.bool bL,.slice dP bM.length dQ,.slice dR bN.length dS]) (v:=.agg #[.int .i64 bJ,.slice dN bK.length dO,.bool bL,.slice dP bM.length dQ,.slice dR bN.length dS]) kz (fun w' h'=>(AtF.move aP (TT.step0 ag h') nilM qaY).at_) kz kz (qaa (qac (qaa (qaa (qac (qaa (qac (qaa qag)))))))) aA fun lz fq=>?_
    refine qaA (i:=12) kz (qaj fq (f:=79) (vs:=[.agg #[.int .i64 y7,.int .i64 y2,.int .i64 y3,.int .i64 (-1),.int .i64 (-1),.int .i64 y6,.int .i64 y7,.slice A9 l8.length ap],.int .i64 v,.bool flex,.agg #[.int .i64 bE,.slice dH bF.length dI,.bool bG,.slice dJ bH.length dK,.slice dL bI.length dM],.agg #[.int .i64 bJ,.slice dN bK.length dO,.bool bL,.slice dP bM.length dQ,.slice dR bN.length dS]]) (d:=113) kz Tryz.call79 ( qhD hT _ _ _ (Tree.mk bE bF bG bH bI) _ (Tree.mk bJ bK bL bM bN) _ _ (FldR.mk (l:=l8) dE (gS.move ag.step nilM ag.imm) (fun i_ x_ h_=>((g7 i_ x_ h_).move ag.step nilM ag.imm))) hpl hof (aN.move ag.step nilM ag.imm) (aQ.move ag.step nilM ag.imm) (hl_ _ _ _ cL cM)) ?_)
    rintro e_ lA ⟨rfl,cN⟩
    refine ⟨_,rfl,fun lB fr=>?_⟩
    have aS:=ag.next_nil cN
    have cO:=ag.frN cN
    have cP:=TT.ofW cO aS
    refine ⟨fun _=>cP,?_⟩
    refine qaG [13] [(1,.v (.int .i64 v)),(2,.v (.bool flex)),(9,.p 2 0),(14,.v (.slice ae ((qal aa).length) af)),(15,.p 3 0),(97,.v (.int .i64 (((qal aa).length:Nat):Int))),(98,.v (.int .i64 ((k:Nat):Int))),(114,.v (.bool false))] 0 (qaa (qac (qaa (qaa (qac (qaa (qac (qaa qag)))))))) (fun _ h=>h.cells) cP fr fun lC cQ=>?_
    refine qaE kz ?_ _
    refine qab ?_
    refine qao cQ (b:=false) kz rfl ?_
    refine wp_skip ?_
    refine qaq ?_
    refine qab ?_
    refine qap [0,1] kz ?_
    refine qai [0,1] [] [(1,.v (.int .i64 v)),(2,.v (.bool flex)),(9,.p 2 0),(14,.v (.slice ae ((qal aa).length) af)),(15,.p 3 0),(97,.v (.int .i64 (((qal aa).length:Nat):Int))),(98,.v (.int .i64 (IntKind.i64.wrap (((k:Nat):Int) + 1))))] aS cQ fun lD cR=>?_
    refine qaf (qab ?_)
    have ft:IntKind.i64.wrap (((k:Nat):Int) + 1) = ((k + 1:Nat):Int):=qaM (by omega)
    rw [ft] at cR
    exact ⟨(qal aa).length - (k + 1),by omega,k + 1,rfl,by omega,cR.pk,aS,((fe.trans fg).trans cO)⟩
   have jH:=of_decide_eq_false aL
   refine wp_exit ?_
   refine qaB ?_
   refine qaB ?_
   refine qaL ?_
   refine qab ?_
   refine qan [(10,.v (.bool true))] au aK fun lE fu=>?_
   refine wp_ret ?_
   refine qaw ?_
   refine qam ?_
   refine qaF fu au.cells (v:=.bool true) kz ?_
   exact ⟨rfl,au.step⟩
  have jI:=of_decide_eq_false az
  have fv:=cA.cast (env':=[(1,.v (.int .i64 v)),(2,.v (.bool flex)),(5,.p 0 0),(8,.p 1 0),(9,.p 2 0),(11,.v (.bool (Fld.nul (Fld.mk k1 y2 y3 y4 y5 y6 y7 l8) v (Tree.mk aj ak al aa am)))),(41,.v (.bool false))]) (by rw [az])
  refine qai [12,13,14,15,16] [] [(1,.v (.int .i64 v)),(2,.v (.bool flex)),(5,.p 0 0),(8,.p 1 0),(9,.p 2 0),(11,.v (.bool (Fld.nul (Fld.mk k1 y2 y3 y4 y5 y6 y7 l8) v (Tree.mk aj ak al aa am)))),(46,.v (.bool false))] ab fv fun lF cS=>?_
  refine qaf (qab ?_)
  refine qao cS (b:=false) kz rfl ?_
  refine wp_skip ?_
  refine qab ?_
  refine wp_seq ?_
  refine qan [(1,.v (.int .i64 v)),(2,.v (.bool flex)),(5,.p 0 0),(8,.p 1 0),(9,.p 2 0),(47,.v (.bool (Fld.nul (Fld.mk k1 y2 y3 y4 y5 y6 y7 l8) v (Tree.mk aj ak al aa am))))] ab cS fun lG aT=>?_
  refine qas aT (b:=Fld.nul (Fld.mk k1 y2 y3 y4 y5 y6 y7 l8) v (Tree.mk aj ak al aa am)) kz (fun fw=>?_) (fun fw=>?_)
  ·
   refine qan [(10,.v (.bool true))] ab aT fun lH fx=>?_
   refine wp_ret ?_
   refine qam ?_
   refine qaF fx ab.cells (v:=.bool true) kz ?_
   exact ⟨rfl,ab.step⟩
  refine wp_skip ?_
  refine qab ?_
  refine wp_seq ?_
  refine qan [(1,.v (.int .i64 v)),(2,.v (.bool flex)),(5,.p 0 0),(8,.p 1 0),(9,.p 2 0),(49,.v (.int .i64 k1))] ab aT fun lI fy=>?_
  refine wp_block ?_
  refine wp_seq ?_
  refine qan [(1,.v (.int .i64 v)),(2,.v (.bool flex)),(5,.p 0 0),(8,.p 1 0),(9,.p 2 0),(49,.v (.int .i64 k1)),(50,.v (.bool (k1 == 8)))] ab fy fun lJ cT=>?_
  refine qao cT (b:=k1 == 8) kz (by simp [ac]) ?_
  refine qap [0,1] kz ?_
  refine qai [0,1] [] [(1,.v (.int .i64 v)),(2,.v (.bool flex)),(5,.p 0 0),(8,.p 1 0),(9,.p 2 0),(49,.v (.int .i64 k1)),(50,.v (.bool (k1 == 9)))] ab cT fun lK cU=>?_
  refine qaf (qab ?_)
  refine qao cU (b:=k1 == 9) kz (by simp [ac]) ?_
  refine qan [(1,.v (.int .i64 v)),(2,.v (.bool flex)),(5,.p 0 0),(8,.p 1 0),(9,.p 2 0),(49,.v (.int .i64 k1)),(59,.v (.bool (k1 == 7)))] ab cU fun lL cV=>?_
  refine qao cV (b:=k1 == 7) kz (by simp [ac]) ?_
  refine qan [(1,.v (.int .i64 v)),(2,.v (.bool flex)),(5,.p 0 0),(8,.p 1 0),(9,.p 2 0),(49,.v (.int .i64 k1)),(70,.v (.bool (k1 == 10)))] ab cV fun lM cW=>?_
  refine qao cW (b:=k1 == 10) kz (by simp [ac]) ?_
  refine qan [(1,.v (.int .i64 v)),(2,.v (.bool flex)),(5,.p 0 0),(8,.p 1 0),(9,.p 2 0),(79,.v (.bool (k1 == 11)))] ab cW fun lN cX=>?_
  refine qaW cX (b:=k1 == 11) kz (by simpa using ac) ?_
  refine qae [0,1,2,3] kz ?_
  refine qai [0,1] [2,3] [(1,.v (.int .i64 v)),(2,.v (.bool flex)),(5,.p 0 0),(9,.p 2 0),(82,.v (.slice ae aa.length af))] ab cX fun lO fz=>?_
  refine qak (qaj fz (f:=127) (vs:=[.slice ae aa.length af]) (d:=83) kz Tryz.call127 (qfP _ _ aa (dF.move ab.step nilM ab.imm).le _) ?_)
  rintro e_ lP ⟨rfl,cY⟩
  refine ⟨_,rfl,fun lQ fA=>?_⟩
  have av:=ab.next_nil cY
  have jJ:=ab.frN cY
  refine qai [3] [] [(1,.v (.int .i64 v)),(2,.v (.bool flex)),(5,.p 0 0),(9,.p 2 0),(14,.v (.slice ae ((qal aa).length) af))] av fA fun lR fB=>?_
  refine qaf (qab ?_)
  refine wp_seq ?_
  refine qan [(1,.v (.int .i64 v)),(2,.v (.bool flex)),(5,.p 0 0),(9,.p 2 0),(14,.v (.slice ae ((qal aa).length) af)),(89,.v (.bool (((ao.length:Nat):Int) != (((qal aa).length:Nat):Int))))] av fB fun lS aU=>?_
  refine qas aU (b:=((ao.length:Nat):Int) != (((qal aa).length:Nat):Int)) kz (fun aV=>?_) (fun aV=>?_)
  ·
   have jK:((ao.length:Nat):Int) ≠ (((qal aa).length:Nat):Int):=by simpa using aV
   refine qan [(10,.v (.bool false))] av aU fun lT fC=>?_
   refine wp_ret ?_
   refine qam ?_
   refine qaw ?_
   refine qam ?_
   refine qaF fC av.cells (v:=.bool false) kz ?_
   first
    | exact (qf1 hq ‹_› ‹_› ‹_›).elim
    | exact (qhx (hQ.2 ac ‹_›).1 ‹_›).elim
    | (exfalso; simp_all; done)
  have jL:((ao.length:Nat):Int) = (((qal aa).length:Nat):Int):=by simpa using aV
  refine wp_skip ?_
  refine qab ?_
  refine qae [0,1,2] kz ?_
  refine qai [0] [1,2] [(1,.v (.int .i64 v)),(2,.v (.bool flex)),(5,.p 0 0),(9,.p 2 0),(14,.v (.slice ae ((qal aa).length) af)),(90,.v (.agg #[.int .i64 k1,.int .i64 y2,.int .i64 y3,.int .i64 y4,.int .i64 y5,.int .i64 y6,.int .i64 y7,.slice A9 l8.length ap]))] av aU fun lU fD=>?_
  refine qak (qaK av fD (d:=15) (cs:=[.int .i64 0,.int .i64 0,.int .i64 0,.int .i64 0,.int .i64 0,.int .i64 0,.int .i64 0,.slice none 0 0]) kz fun iG lV lW jM jN jO fE fF=>?_)
  refine qak (qav fE fF (oi:=3) (cs:=[.int .i64 k1,.int .i64 y2,.int .i64 y3,.int .i64 y4,.int .i64 y5,.int .i64 y6,.int .i64 y7,.slice A9 l8.length ap]) kz fun lX jP cZ fG=>?_)
  refine qaf (qab ?_)
  refine qae [0,1,2,3,4,5,6,7] kz ?_
  refine qai [0,1,2] [3,4,5,6,7] [(1,.v (.int .i64 v)),(2,.v (.bool flex)),(9,.p 2 0),(14,.v (.slice ae ((qal aa).length) af)),(15,.p 3 0),(92,.v (.int .i64 y7)),(93,.p 3 0)] cZ fG fun lY fH=>?_
  refine qak (qav cZ fH (oi:=3) (cs:=[.int .i64 y7,.int .i64 y2,.int .i64 y3,.int .i64 y4,.int .i64 y5,.int .i64 y6,.int .i64 y7,.slice A9 l8.length ap]) kz fun lZ jQ c5 fI=>?_)
  refine qai [4] [5,6,7] [(1,.v (.int .i64 v)),(2,.v (.bool flex)),(9,.p 2 0),(14,.v (.slice ae ((qal aa).length) af)),(15,.p 3 0),(94,.p 3 3)] c5 fI fun l0 fJ=>?_
  refine qak (qav c5 fJ (oi:=3) (cs:=[.int .i64 y7,.int .i64 y2,.int .i64 y3,.int .i64 (-1),.int .i64 y5,.int .i64 y6,.int .i64 y7,.slice A9 l8.length ap]) kz fun l3 jR c6 fK=>?_)
  refine qai [6] [7] [(1,.v (.int .i64 v)),(2,.v (.bool flex)),(9,.p 2 0),(14,.v (.slice ae ((qal aa).length) af)),(15,.p 3 0),(95,.p 3 4)] c6 fK fun l5 fL=>?_
  refine qak (qav c6 fL (oi:=3) (cs:=[.int .i64 y7,.int .i64 y2,.int .i64 y3,.int .i64 (-1),.int .i64 (-1),.int .i64 y6,.int .i64 y7,.slice A9 l8.length ap]) kz fun l6 jS aW fM=>?_)
  refine qaf (qab ?_)
  refine wp_seq ?_
  refine qan [(1,.v (.int .i64 v)),(2,.v (.bool flex)),(9,.p 2 0),(14,.v (.slice ae ((qal aa).length) af)),(15,.p 3 0),(97,.v (.int .i64 (((qal aa).length:Nat):Int))),(98,.v (.int .i64 0))] aW fM fun l7 fN=>?_
  refine wp_block ?_
  have hl_:=(hQ.2 ac ‹_›).2
  refine wp_loop_ghost (fun n_ a_ w_=>∃ (k:Nat),n_ = (qal aa).length - k ∧ k ≤ (qal aa).length ∧ LInv aW 124 [⟨hC,0,[.int .i64 k1,.int .i64 y2,.int .i64 y3,.int .i64 y4,.int .i64 y5,.int .i64 y6,.int .i64 y7,.slice A9 l8.length ap],true⟩,⟨hZ,0,[.int .i64 aj,.slice ep ak.length eu,.bool al,.slice ae aa.length af,.slice ev am.length ew],true⟩,⟨ic,0,[.int .i64 gT,.slice gW gU.length gX,.bool cz,.slice bC ao.length dG,.slice gY gV.length gZ],true⟩,⟨iG,0,[.int .i64 y7,.int .i64 y2,.int .i64 y3,.int .i64 (-1),.int .i64 (-1),.int .i64 y6,.int .i64 y7,.slice A9 l8.length ap],true⟩] [] [(1,.v (.int .i64 v)),(2,.v (.bool flex)),(9,.p 2 0),(14,.v (.slice ae ((qal aa).length) af)),(15,.p 3 0),(97,.v (.int .i64 (((qal aa).length:Nat):Int))),(98,.v (.int .i64 ((k:Nat):Int)))] a_ w_) ((qal aa).length) ⟨0,by omega,by omega,fN.pk,aW,Fr.refl _ _ _⟩ ?_
  rintro l9 ma mc ⟨k,jT,jU,fO,aw,fP⟩
  refine qan [(1,.v (.int .i64 v)),(2,.v (.bool flex)),(9,.p 2 0),(14,.v (.slice ae ((qal aa).length) af)),(15,.p 3 0),(97,.v (.int .i64 (((qal aa).length:Nat):Int))),(98,.v (.int .i64 ((k:Nat):Int))),(99,.v (.bool (decide (((k:Nat):Int) < (((qal aa).length:Nat):Int)))))] aw fO fun md aX=>?_
  refine wp_seq ?_
  refine qas aX (b:=decide (((k:Nat):Int) < (((qal aa).length:Nat):Int))) kz (fun aY=>?_) (fun aY=>?_)
  ·
   have jV:=of_decide_eq_true aY
   refine wp_skip ?_
   refine qab ?_
   refine wp_seq ?_
   refine wp_block ?_
   refine qan [(1,.v (.int .i64 v)),(2,.v (.bool flex)),(9,.p 2 0),(14,.v (.slice ae ((qal aa).length) af)),(15,.p 3 0),(16,.v (.int .i64 ((k:Nat):Int))),(97,.v (.int .i64 (((qal aa).length:Nat):Int))),(98,.v (.int .i64 ((k:Nat):Int)))] aw aX fun me fQ=>?_
   refine qaI 14 kz aw fun mf fR ah aB=>?_
   refine qaG [0,1,2,3,4,7,8,9] [(1,.v (.int .i64 v)),(2,.v (.bool flex)),(9,.p 2 0),(14,.v (.slice ae ((qal aa).length) af)),(15,.p 3 0),(97,.v (.int .i64 (((qal aa).length:Nat):Int))),(98,.v (.int .i64 ((k:Nat):Int))),(101,.v (.agg #[.int .i64 y7,.int .i64 y2,.int .i64 y3,.int .i64 (-1),.int .i64 (-1),.int .i64 y6,.int .i64 y7,.slice A9 l8.length ap])),(102,.v (.int .i64 v)),(103,.v (.bool flex)),(104,.v (.slice ae ((qal aa).length) af)),(105,.v (.int .i64 ((k:Nat):Int))),(109,.v (.slice bC ao.length dG)),(110,.v (.int .i64 ((k:Nat):Int)))] 6 (qaa (qac (qaa (qaa (qac (qaa (qac (qaa qag)))))))) (fun _ h=>h.cells) aB fQ fun mg fS=>?_
   obtain ⟨iH,iI,fT,jW,aZ⟩:=Slots.get (qcu dF) (i:=k) (by first | omega | (have h_:ao.length = (qal aa).length:=(hQ.2 ac ‹_›).1; omega))
   obtain ⟨iJ,da⟩:∃ x,(qal aa)[k]? = some x:=⟨_,List.getElem?_eq_getElem (by omega)⟩
   have ba:=(qcR g8) k iJ da
   obtain ⟨bO,bP,bQ,bR,bS,dT,dU,dV,dW,dX,dY,jX,rfl,bd,iK,iL,mh,mi⟩:=ba.open_
   rw [bd] at ba
   have iM:=iK.small
   have iN:=iL.small
   rw [bd] at aZ
   refine qaN fS (i:=5) (t:=23) (A:=ae) (m:=((qal aa).length)) (q:=((k:Nat):Int)) (d:=106) kz (e:=26) (size:=5) (bytes:=88) kz fT rfl (by first | omega | (have h_:ao.length = (qal aa).length:=(hQ.2 ac ‹_›).1; omega)) kz kz (qaa (qac (qaa (qaa (qac (qaa (qac (qaa qag)))))))) aB fun mj fU=>?_
   refine qaX fU (i:=6) (t:=26) (b:=iH) (o:=iI + k * 5) (d:=107) kz (cs:=[.int .i64 bO,.slice dT bP.length dU,.bool bQ,.slice dV bR.length dW,.slice dX bS.length dY]) (v:=.agg #[.int .i64 bO,.slice dT bP.length dU,.bool bQ,.slice dV bR.length dW,.slice dX bS.length dY]) kz (fun w' h'=>(AtF.move aZ (TT.step0 ah h') nilM qaY).at_) kz kz (qaa (qac (qaa (qaa (qac (qaa (qac (qaa qag)))))))) aB fun ml fV=>?_
   obtain ⟨iO,iP,fW,jY,bf⟩:=Slots.get g6 (i:=k) (by first | omega | (have h_:ao.length = (qal aa).length:=(hQ.2 ac ‹_›).1; omega))
   obtain ⟨iQ,db⟩:∃ x,ao[k]? = some x:=⟨_,List.getElem?_eq_getElem (by omega)⟩
   have bg:=g9 k iQ db
   obtain ⟨bT,bU,bV,bW,bX,dZ,d5,d6,d7,d8,d9,jZ,rfl,bh,iR,iS,mn,mo⟩:=bg.open_
   rw [bh] at bg
   have iT:=iR.small
   have iU:=iS.small
   rw [bh] at bf
   refine qaN fV (i:=10) (t:=23) (A:=bC) (m:=ao.length) (q:=((k:Nat):Int)) (d:=111) kz (e:=26) (size:=5) (bytes:=88) kz fW rfl (by first | omega | (have h_:ao.length = (qal aa).length:=(hQ.2 ac ‹_›).1; omega)) kz kz (qaa (qac (qaa (qaa (qac (qaa (qac (qaa qag)))))))) aB fun mp fX=>?_
   refine qaX fX (i:=11) (t:=26) (b:=iO) (o:=iP + k * 5) (d:=112) kz (cs:=[.int .i64 bT,.slice dZ bU.length d5,.bool bV,.slice d6 bW.length d7,.slice d8 bX.length d9]) (v:=.agg #[.int .i64 bT,.slice dZ bU.length d5,.bool bV,.slice d6 bW.length d7,.slice d8 bX.length d9]) kz (fun w' h'=>(AtF.move bf (TT.step0 ah h') nilM qaY).at_) kz kz (qaa (qac (qaa (qaa (qac (qaa (qac (qaa qag)))))))) aB fun mq fY=>?_
   refine qaA (i:=12) kz (qaj fY (f:=79) (vs:=[.agg #[.int .i64 y7,.int .i64 y2,.int .i64 y3,.int .i64 (-1),.int .i64 (-1),.int .i64 y6,.int .i64 y7,.slice A9 l8.length ap],.int .i64 v,.bool flex,.agg #[.int .i64 bO,.slice dT bP.length dU,.bool bQ,.slice dV bR.length dW,.slice dX bS.length dY],.agg #[.int .i64 bT,.slice dZ bU.length d5,.bool bV,.slice d6 bW.length d7,.slice d8 bX.length d9]]) (d:=113) kz Tryz.call79 ( qhD hT _ _ _ (Tree.mk bO bP bQ bR bS) _ (Tree.mk bT bU bV bW bX) _ _ (FldR.mk (l:=l8) dE (gS.move ah.step nilM ah.imm) (fun i_ x_ h_=>((g7 i_ x_ h_).move ah.step nilM ah.imm))) hpl hof (ba.move ah.step nilM ah.imm) (bg.move ah.step nilM ah.imm) (hl_ _ _ _ da db)) ?_)
   rintro e_ mr ⟨rfl,dc⟩
   refine ⟨_,rfl,fun mt fZ=>?_⟩
   have bi:=ah.next_nil dc
   have de:=ah.frN dc
   have df:=TT.ofW de bi
   refine ⟨fun _=>df,?_⟩
   refine qaG [13] [(1,.v (.int .i64 v)),(2,.v (.bool flex)),(9,.p 2 0),(14,.v (.slice ae ((qal aa).length) af)),(15,.p 3 0),(97,.v (.int .i64 (((qal aa).length:Nat):Int))),(98,.v (.int .i64 ((k:Nat):Int))),(114,.v (.bool false))] 0 (qaa (qac (qaa (qaa (qac (qaa (qac (qaa qag)))))))) (fun _ h=>h.cells) df fZ fun mu dg=>?_
   refine qaE kz ?_ _
   refine qab ?_
   refine qao dg (b:=false) kz rfl ?_
   refine wp_skip ?_
   refine qaq ?_
   refine qab ?_
   refine qap [0,1] kz ?_
   refine qai [0,1] [] [(1,.v (.int .i64 v)),(2,.v (.bool flex)),(9,.p 2 0),(14,.v (.slice ae ((qal aa).length) af)),(15,.p 3 0),(97,.v (.int .i64 (((qal aa).length:Nat):Int))),(98,.v (.int .i64 (IntKind.i64.wrap (((k:Nat):Int) + 1))))] bi dg fun mw dh=>?_
   refine qaf (qab ?_)
   have f5:IntKind.i64.wrap (((k:Nat):Int) + 1) = ((k + 1:Nat):Int):=qaM (by omega)
   rw [f5] at dh
   exact ⟨(qal aa).length - (k + 1),by omega,k + 1,rfl,by omega,dh.pk,bi,((fP.trans fR).trans de)⟩
  have j0:=of_decide_eq_false aY
  refine wp_exit ?_
  refine qaB ?_
  refine qaB ?_
  refine qaL ?_
  refine qab ?_
  refine qan [(10,.v (.bool true))] aw aX fun mx f8=>?_
  refine wp_ret ?_
  refine qaw ?_
  refine qam ?_
  refine qaF f8 aw.cells (v:=.bool true) kz ?_
  exact ⟨rfl,aw.step⟩
 have j1:=of_decide_eq_false aD
 have f9:=ez.cast (env':=[(1,.v (.int .i64 v)),(2,.v (.bool flex)),(5,.p 0 0),(8,.p 1 0),(9,.p 2 0),(11,.v (.bool (Fld.nul (Fld.mk k1 y2 y3 y4 y5 y6 y7 l8) v (Tree.mk aj ak al aa am)))),(24,.v (.bool false))]) (by rw [aD])
 refine qai [4,5,6,7,8,9] [] [(1,.v (.int .i64 v)),(2,.v (.bool flex)),(5,.p 0 0),(8,.p 1 0),(9,.p 2 0),(11,.v (.bool (Fld.nul (Fld.mk k1 y2 y3 y4 y5 y6 y7 l8) v (Tree.mk aj ak al aa am)))),(12,.v (.bool false))] ab f9 fun my ga=>?_
 refine qaf (qab ?_)
 refine wp_seq ?_
 refine qae [0,1,2,3,4,5,6,7,8,9,10,11,12,13,14,15,16] kz ?_
 refine qai [0,1,2,3] [4,5,6,7,8,9,10,11,12,13,14,15,16] [(1,.v (.int .i64 v)),(2,.v (.bool flex)),(5,.p 0 0),(8,.p 1 0),(9,.p 2 0),(11,.v (.bool (Fld.nul (Fld.mk k1 y2 y3 y4 y5 y6 y7 l8) v (Tree.mk aj ak al aa am)))),(12,.v (.bool false)),(33,.v (.bool (k1 == 8)))] ab ga fun mz gb=>?_
 have gc:(k1 == 8) = false:=by simp [ac]
 have gd:=gb.cast (env':=[(1,.v (.int .i64 v)),(2,.v (.bool flex)),(5,.p 0 0),(8,.p 1 0),(9,.p 2 0),(11,.v (.bool (Fld.nul (Fld.mk k1 y2 y3 y4 y5 y6 y7 l8) v (Tree.mk aj ak al aa am)))),(12,.v (.bool false)),(33,.v (.bool false))]) (by rw [gc])
 refine qai [4,5,6,7,8] [9,10,11,12,13,14,15,16] [(1,.v (.int .i64 v)),(2,.v (.bool flex)),(5,.p 0 0),(8,.p 1 0),(9,.p 2 0),(11,.v (.bool (Fld.nul (Fld.mk k1 y2 y3 y4 y5 y6 y7 l8) v (Tree.mk aj ak al aa am)))),(12,.v (.bool false)),(38,.v (.bool (k1 == 10)))] ab gd fun mA ge=>?_
 have gg:(k1 == 10) = false:=by simp [ac]
 have gh:=ge.cast (env':=[(1,.v (.int .i64 v)),(2,.v (.bool flex)),(5,.p 0 0),(8,.p 1 0),(9,.p 2 0),(11,.v (.bool (Fld.nul (Fld.mk k1 y2 y3 y4 y5 y6 y7 l8) v (Tree.mk aj ak al aa am)))),(12,.v (.bool false)),(38,.v (.bool false))]) (by rw [gg])
 refine qai [9,10,11,12,13,14,15,16] [] [(1,.v (.int .i64 v)),(2,.v (.bool flex)),(5,.p 0 0),(8,.p 1 0),(9,.p 2 0),(11,.v (.bool (Fld.nul (Fld.mk k1 y2 y3 y4 y5 y6 y7 l8) v (Tree.mk aj ak al aa am)))),(46,.v (.bool false))] ab gh fun mB di=>?_
 refine qaf (qab ?_)
 refine qao di (b:=false) kz rfl ?_
 refine wp_skip ?_
 refine qab ?_
 refine wp_seq ?_
 refine qan [(1,.v (.int .i64 v)),(2,.v (.bool flex)),(5,.p 0 0),(8,.p 1 0),(9,.p 2 0),(47,.v (.bool (Fld.nul (Fld.mk k1 y2 y3 y4 y5 y6 y7 l8) v (Tree.mk aj ak al aa am))))] ab di fun mC bj=>?_
 refine qas bj (b:=Fld.nul (Fld.mk k1 y2 y3 y4 y5 y6 y7 l8) v (Tree.mk aj ak al aa am)) kz (fun gi=>?_) (fun gi=>?_)
 ·
  refine qan [(10,.v (.bool true))] ab bj fun mD gj=>?_
  refine wp_ret ?_
  refine qam ?_
  refine qaF gj ab.cells (v:=.bool true) kz ?_
  exact ⟨rfl,ab.step⟩
 refine wp_skip ?_
 refine qab ?_
 refine wp_seq ?_
 refine qan [(1,.v (.int .i64 v)),(2,.v (.bool flex)),(5,.p 0 0),(8,.p 1 0),(9,.p 2 0),(49,.v (.int .i64 k1))] ab bj fun mF gk=>?_
 refine wp_block ?_
 refine wp_seq ?_
 refine qan [(1,.v (.int .i64 v)),(2,.v (.bool flex)),(5,.p 0 0),(8,.p 1 0),(9,.p 2 0),(49,.v (.int .i64 k1)),(50,.v (.bool (k1 == 8)))] ab gk fun mG dj=>?_
 refine qao dj (b:=k1 == 8) kz (by simp [ac]) ?_
 refine qap [0,1] kz ?_
 refine qai [0,1] [] [(1,.v (.int .i64 v)),(2,.v (.bool flex)),(5,.p 0 0),(8,.p 1 0),(9,.p 2 0),(49,.v (.int .i64 k1)),(50,.v (.bool (k1 == 9)))] ab dj fun mH dl=>?_
 refine qaf (qab ?_)
 refine qao dl (b:=k1 == 9) kz (by simp [ac]) ?_
 refine qan [(1,.v (.int .i64 v)),(2,.v (.bool flex)),(5,.p 0 0),(8,.p 1 0),(9,.p 2 0),(49,.v (.int .i64 k1)),(59,.v (.bool (k1 == 7)))] ab dl fun mI dp=>?_
 refine qao dp (b:=k1 == 7) kz (by simp [ac]) ?_
 refine qan [(1,.v (.int .i64 v)),(2,.v (.bool flex)),(5,.p 0 0),(8,.p 1 0),(9,.p 2 0),(49,.v (.int .i64 k1)),(70,.v (.bool (k1 == 10)))] ab dp fun mJ dq=>?_
 refine qao dq (b:=k1 == 10) kz (by simp [ac]) ?_
 refine qan [(1,.v (.int .i64 v)),(2,.v (.bool flex)),(5,.p 0 0),(8,.p 1 0),(9,.p 2 0),(79,.v (.bool (k1 == 11)))] ab dq fun mK dr=>?_
 refine qaW dr (b:=k1 == 11) kz (by simpa using ac) ?_
 refine qae [0,1,2,3] kz ?_
 refine qai [0,1] [2,3] [(1,.v (.int .i64 v)),(2,.v (.bool flex)),(5,.p 0 0),(9,.p 2 0),(82,.v (.slice ae aa.length af))] ab dr fun mL gl=>?_
 refine qak (qaj gl (f:=127) (vs:=[.slice ae aa.length af]) (d:=83) kz Tryz.call127 (qfP _ _ aa (dF.move ab.step nilM ab.imm).le _) ?_)
 rintro e_ mM ⟨rfl,dt⟩
 refine ⟨_,rfl,fun mN gm=>?_⟩
 have ax:=ab.next_nil dt
 have j2:=ab.frN dt
 refine qai [3] [] [(1,.v (.int .i64 v)),(2,.v (.bool flex)),(5,.p 0 0),(9,.p 2 0),(14,.v (.slice ae ((qal aa).length) af))] ax gm fun mO gn=>?_
 refine qaf (qab ?_)
 refine wp_seq ?_
 refine qan [(1,.v (.int .i64 v)),(2,.v (.bool flex)),(5,.p 0 0),(9,.p 2 0),(14,.v (.slice ae ((qal aa).length) af)),(89,.v (.bool (((ao.length:Nat):Int) != (((qal aa).length:Nat):Int))))] ax gn fun mQ bk=>?_
 refine qas bk (b:=((ao.length:Nat):Int) != (((qal aa).length:Nat):Int)) kz (fun bn=>?_) (fun bn=>?_)
 ·
  have j3:((ao.length:Nat):Int) ≠ (((qal aa).length:Nat):Int):=by simpa using bn
  refine qan [(10,.v (.bool false))] ax bk fun mR gp=>?_
  refine wp_ret ?_
  refine qam ?_
  refine qaw ?_
  refine qam ?_
  refine qaF gp ax.cells (v:=.bool false) kz ?_
  first
   | exact (qf1 hq ‹_› ‹_› ‹_›).elim
   | exact (qhx (hQ.2 ac ‹_›).1 ‹_›).elim
   | (exfalso; simp_all; done)
 have j4:((ao.length:Nat):Int) = (((qal aa).length:Nat):Int):=by simpa using bn
 refine wp_skip ?_
 refine qab ?_
 refine qae [0,1,2] kz ?_
 refine qai [0] [1,2] [(1,.v (.int .i64 v)),(2,.v (.bool flex)),(5,.p 0 0),(9,.p 2 0),(14,.v (.slice ae ((qal aa).length) af)),(90,.v (.agg #[.int .i64 k1,.int .i64 y2,.int .i64 y3,.int .i64 y4,.int .i64 y5,.int .i64 y6,.int .i64 y7,.slice A9 l8.length ap]))] ax bk fun mS gq=>?_
 refine qak (qaK ax gq (d:=15) (cs:=[.int .i64 0,.int .i64 0,.int .i64 0,.int .i64 0,.int .i64 0,.int .i64 0,.int .i64 0,.slice none 0 0]) kz fun iV mT mU j5 j6 j7 gt gv=>?_)
 refine qak (qav gt gv (oi:=3) (cs:=[.int .i64 k1,.int .i64 y2,.int .i64 y3,.int .i64 y4,.int .i64 y5,.int .i64 y6,.int .i64 y7,.slice A9 l8.length ap]) kz fun mV j8 du gw=>?_)
 refine qaf (qab ?_)
 refine qae [0,1,2,3,4,5,6,7] kz ?_
 refine qai [0,1,2] [3,4,5,6,7] [(1,.v (.int .i64 v)),(2,.v (.bool flex)),(9,.p 2 0),(14,.v (.slice ae ((qal aa).length) af)),(15,.p 3 0),(92,.v (.int .i64 y7)),(93,.p 3 0)] du gw fun mW gx=>?_
 refine qak (qav du gx (oi:=3) (cs:=[.int .i64 y7,.int .i64 y2,.int .i64 y3,.int .i64 y4,.int .i64 y5,.int .i64 y6,.int .i64 y7,.slice A9 l8.length ap]) kz fun mX j9 dv gy=>?_)
 refine qai [4] [5,6,7] [(1,.v (.int .i64 v)),(2,.v (.bool flex)),(9,.p 2 0),(14,.v (.slice ae ((qal aa).length) af)),(15,.p 3 0),(94,.p 3 3)] dv gy fun mY gz=>?_
 refine qak (qav dv gz (oi:=3) (cs:=[.int .i64 y7,.int .i64 y2,.int .i64 y3,.int .i64 (-1),.int .i64 y5,.int .i64 y6,.int .i64 y7,.slice A9 l8.length ap]) kz fun mZ ka dw gA=>?_)
 refine qai [6] [7] [(1,.v (.int .i64 v)),(2,.v (.bool flex)),(9,.p 2 0),(14,.v (.slice ae ((qal aa).length) af)),(15,.p 3 0),(95,.p 3 4)] dw gA fun m4 gB=>?_
 refine qak (qav dw gB (oi:=3) (cs:=[.int .i64 y7,.int .i64 y2,.int .i64 y3,.int .i64 (-1),.int .i64 (-1),.int .i64 y6,.int .i64 y7,.slice A9 l8.length ap]) kz fun m5 kd bo gC=>?_)
 refine qaf (qab ?_)
 refine wp_seq ?_
 refine qan [(1,.v (.int .i64 v)),(2,.v (.bool flex)),(9,.p 2 0),(14,.v (.slice ae ((qal aa).length) af)),(15,.p 3 0),(97,.v (.int .i64 (((qal aa).length:Nat):Int))),(98,.v (.int .i64 0))] bo gC fun m6 gD=>?_
 refine wp_block ?_
 have hl_:=(hQ.2 ac ‹_›).2
 refine wp_loop_ghost (fun n_ a_ w_=>∃ (k:Nat),n_ = (qal aa).length - k ∧ k ≤ (qal aa).length ∧ LInv bo 124 [⟨hC,0,[.int .i64 k1,.int .i64 y2,.int .i64 y3,.int .i64 y4,.int .i64 y5,.int .i64 y6,.int .i64 y7,.slice A9 l8.length ap],true⟩,⟨hZ,0,[.int .i64 aj,.slice ep ak.length eu,.bool al,.slice ae aa.length af,.slice ev am.length ew],true⟩,⟨ic,0,[.int .i64 gT,.slice gW gU.length gX,.bool cz,.slice bC ao.length dG,.slice gY gV.length gZ],true⟩,⟨iV,0,[.int .i64 y7,.int .i64 y2,.int .i64 y3,.int .i64 (-1),.int .i64 (-1),.int .i64 y6,.int .i64 y7,.slice A9 l8.length ap],true⟩] [] [(1,.v (.int .i64 v)),(2,.v (.bool flex)),(9,.p 2 0),(14,.v (.slice ae ((qal aa).length) af)),(15,.p 3 0),(97,.v (.int .i64 (((qal aa).length:Nat):Int))),(98,.v (.int .i64 ((k:Nat):Int)))] a_ w_) ((qal aa).length) ⟨0,by omega,by omega,gD.pk,bo,Fr.refl _ _ _⟩ ?_
 rintro m7 m8 m9 ⟨k,ke,kf,gE,ay,gF⟩
 refine qan [(1,.v (.int .i64 v)),(2,.v (.bool flex)),(9,.p 2 0),(14,.v (.slice ae ((qal aa).length) af)),(15,.p 3 0),(97,.v (.int .i64 (((qal aa).length:Nat):Int))),(98,.v (.int .i64 ((k:Nat):Int))),(99,.v (.bool (decide (((k:Nat):Int) < (((qal aa).length:Nat):Int)))))] ay gE fun nf bp=>?_
 refine wp_seq ?_
 refine qas bp (b:=decide (((k:Nat):Int) < (((qal aa).length:Nat):Int))) kz (fun bq=>?_) (fun bq=>?_)
 ·
  have kg:=of_decide_eq_true bq
  refine wp_skip ?_
  refine qab ?_
  refine wp_seq ?_
  refine wp_block ?_
  refine qan [(1,.v (.int .i64 v)),(2,.v (.bool flex)),(9,.p 2 0),(14,.v (.slice ae ((qal aa).length) af)),(15,.p 3 0),(16,.v (.int .i64 ((k:Nat):Int))),(97,.v (.int .i64 (((qal aa).length:Nat):Int))),(98,.v (.int .i64 ((k:Nat):Int)))] ay bp fun ng gG=>?_
  refine qaI 14 kz ay fun nh gH ai aC=>?_
  refine qaG [0,1,2,3,4,7,8,9] [(1,.v (.int .i64 v)),(2,.v (.bool flex)),(9,.p 2 0),(14,.v (.slice ae ((qal aa).length) af)),(15,.p 3 0),(97,.v (.int .i64 (((qal aa).length:Nat):Int))),(98,.v (.int .i64 ((k:Nat):Int))),(101,.v (.agg #[.int .i64 y7,.int .i64 y2,.int .i64 y3,.int .i64 (-1),.int .i64 (-1),.int .i64 y6,.int .i64 y7,.slice A9 l8.length ap])),(102,.v (.int .i64 v)),(103,.v (.bool flex)),(104,.v (.slice ae ((qal aa).length) af)),(105,.v (.int .i64 ((k:Nat):Int))),(109,.v (.slice bC ao.length dG)),(110,.v (.int .i64 ((k:Nat):Int)))] 6 (qaa (qac (qaa (qaa (qac (qaa (qac (qaa qag)))))))) (fun _ h=>h.cells) aC gG fun ni gI=>?_
  obtain ⟨iW,iX,gJ,kh,bt⟩:=Slots.get (qcu dF) (i:=k) (by first | omega | (have h_:ao.length = (qal aa).length:=(hQ.2 ac ‹_›).1; omega))
  obtain ⟨iY,dx⟩:∃ x,(qal aa)[k]? = some x:=⟨_,List.getElem?_eq_getElem (by omega)⟩
  have bu:=(qcR g8) k iY dx
  obtain ⟨bY,bZ,b8,cd,ce,ea,eb,ec,ee,ef,eg,ki,rfl,bw,iZ,i6,nj,nk⟩:=bu.open_
  rw [bw] at bu
  have i7:=iZ.small
  have ja:=i6.small
  rw [bw] at bt
  refine qaN gI (i:=5) (t:=23) (A:=ae) (m:=((qal aa).length)) (q:=((k:Nat):Int)) (d:=106) kz (e:=26) (size:=5) (bytes:=88) kz gJ rfl (by first | omega | (have h_:ao.length = (qal aa).length:=(hQ.2 ac ‹_›).1; omega)) kz kz (qaa (qac (qaa (qaa (qac (qaa (qac (qaa qag)))))))) aC fun nl gK=>?_
  refine qaX gK (i:=6) (t:=26) (b:=iW) (o:=iX + k * 5) (d:=107) kz (cs:=[.int .i64 bY,.slice ea bZ.length eb,.bool b8,.slice ec cd.length ee,.slice ef ce.length eg]) (v:=.agg #[.int .i64 bY,.slice ea bZ.length eb,.bool b8,.slice ec cd.length ee,.slice ef ce.length eg]) kz (fun w' h'=>(AtF.move bt (TT.step0 ai h') nilM qaY).at_) kz kz (qaa (qac (qaa (qaa (qac (qaa (qac (qaa qag)))))))) aC fun nm gL=>?_
  obtain ⟨jb,jc,gM,kj,bx⟩:=Slots.get g6 (i:=k) (by first | omega | (have h_:ao.length = (qal aa).length:=(hQ.2 ac ‹_›).1; omega))
  obtain ⟨jd,dy⟩:∃ x,ao[k]? = some x:=⟨_,List.getElem?_eq_getElem (by omega)⟩
  have bz:=g9 k jd dy
  obtain ⟨cm,cq,cr,cu,cw,eh,ei,ej,ek,em,eo,km,rfl,bA,je,jf,np,nr⟩:=bz.open_
  rw [bA] at bz
  have jg:=je.small
  have jh:=jf.small
  rw [bA] at bx
  refine qaN gL (i:=10) (t:=23) (A:=bC) (m:=ao.length) (q:=((k:Nat):Int)) (d:=111) kz (e:=26) (size:=5) (bytes:=88) kz gM rfl (by first | omega | (have h_:ao.length = (qal aa).length:=(hQ.2 ac ‹_›).1; omega)) kz kz (qaa (qac (qaa (qaa (qac (qaa (qac (qaa qag)))))))) aC fun ns gN=>?_
  refine qaX gN (i:=11) (t:=26) (b:=jb) (o:=jc + k * 5) (d:=112) kz (cs:=[.int .i64 cm,.slice eh cq.length ei,.bool cr,.slice ej cu.length ek,.slice em cw.length eo]) (v:=.agg #[.int .i64 cm,.slice eh cq.length ei,.bool cr,.slice ej cu.length ek,.slice em cw.length eo]) kz (fun w' h'=>(AtF.move bx (TT.step0 ai h') nilM qaY).at_) kz kz (qaa (qac (qaa (qaa (qac (qaa (qac (qaa qag)))))))) aC fun nt gO=>?_
  refine qaA (i:=12) kz (qaj gO (f:=79) (vs:=[.agg #[.int .i64 y7,.int .i64 y2,.int .i64 y3,.int .i64 (-1),.int .i64 (-1),.int .i64 y6,.int .i64 y7,.slice A9 l8.length ap],.int .i64 v,.bool flex,.agg #[.int .i64 bY,.slice ea bZ.length eb,.bool b8,.slice ec cd.length ee,.slice ef ce.length eg],.agg #[.int .i64 cm,.slice eh cq.length ei,.bool cr,.slice ej cu.length ek,.slice em cw.length eo]]) (d:=113) kz Tryz.call79 ( qhD hT _ _ _ (Tree.mk bY bZ b8 cd ce) _ (Tree.mk cm cq cr cu cw) _ _ (FldR.mk (l:=l8) dE (gS.move ai.step nilM ai.imm) (fun i_ x_ h_=>((g7 i_ x_ h_).move ai.step nilM ai.imm))) hpl hof (bu.move ai.step nilM ai.imm) (bz.move ai.step nilM ai.imm) (hl_ _ _ _ dx dy)) ?_)
  rintro e_ nu ⟨rfl,dz⟩
  refine ⟨_,rfl,fun nv gP=>?_⟩
  have bB:=ai.next_nil dz
  have dA:=ai.frN dz
  have dB:=TT.ofW dA bB
  refine ⟨fun _=>dB,?_⟩
  refine qaG [13] [(1,.v (.int .i64 v)),(2,.v (.bool flex)),(9,.p 2 0),(14,.v (.slice ae ((qal aa).length) af)),(15,.p 3 0),(97,.v (.int .i64 (((qal aa).length:Nat):Int))),(98,.v (.int .i64 ((k:Nat):Int))),(114,.v (.bool false))] 0 (qaa (qac (qaa (qaa (qac (qaa (qac (qaa qag)))))))) (fun _ h=>h.cells) dB gP fun nw dC=>?_
  refine qaE kz ?_ _
  refine qab ?_
  refine qao dC (b:=false) kz rfl ?_
  refine wp_skip ?_
  refine qaq ?_
  refine qab ?_
  refine qap [0,1] kz ?_
  refine qai [0,1] [] [(1,.v (.int .i64 v)),(2,.v (.bool flex)),(9,.p 2 0),(14,.v (.slice ae ((qal aa).length) af)),(15,.p 3 0),(97,.v (.int .i64 (((qal aa).length:Nat):Int))),(98,.v (.int .i64 (IntKind.i64.wrap (((k:Nat):Int) + 1))))] bB dC fun nx dD=>?_
  refine qaf (qab ?_)
  have gQ:IntKind.i64.wrap (((k:Nat):Int) + 1) = ((k + 1:Nat):Int):=qaM (by omega)
  rw [gQ] at dD
  exact ⟨(qal aa).length - (k + 1),by omega,k + 1,rfl,by omega,dD.pk,bB,((gF.trans gH).trans dA)⟩
 have ko:=of_decide_eq_false bq
 refine wp_exit ?_
 refine qaB ?_
 refine qaB ?_
 refine qaL ?_
 refine qab ?_
 refine qan [(10,.v (.bool true))] ay bp fun ny gR=>?_
 refine wp_ret ?_
 refine qaw ?_
 refine qam ?_
 refine qaF gR ay.cells (v:=.bool true) kz ?_
 exact ⟨rfl,ay.step⟩
theorem qlT {v:Int} {flex:Bool} {T:List Fld → Tree → Tree → Prop} (hT:ToOK v flex T) (cf:List Value) (f:Fld) (ct:List Value) (t:Tree) (cg:List Value) (g:Tree) (w:World) (F:Nat → Nat → Prop) (hf:FldR w F cf f) (hpl:f.plain) (ht:TreeR w F ct t) (hg:TreeR w F cg g) (hQ:ToF T v f t g) :
  Calls Tryz.prog 79 #[.agg cf.toArray,.int .i64 v,.bool flex,.agg ct.toArray,.agg cg.toArray] w (qbX w (.bool true)):=by
 by_cases h:f.kind = 11
 ·exact qle hT cf f ct t cg g w F hf hpl h ht hg hQ
 exact qhD hT cf f ct t cg g w F hf (qiR hpl) h ht hg hQ.1
set_option maxHeartbeats 4000000 in
theorem qkz {v:Int} {flex:Bool} {T:List Fld → Tree → Tree → Prop} {U:List Fld → Tree → Prop} (hT:ToOK v flex T) (hU:UsOK U) (A:Option Addr) (c:Nat) (l:List Fld) (ct:List Value) (t:Tree) (cg:List Value) (g:Tree) (w:World) (F:Nat → Nat → Prop) (hl:FldsR w F A c l) (ht:TreeR w F ct t) (hg:TreeR w F cg g) (hpl:plains l) (hP:ToP T U l v flex t g) :
  Calls Tryz.prog 30 #[.slice A l.length c,.int .i64 v,.bool flex,.agg ct.toArray,.agg cg.toArray] w (qbX w (.bool true)):=by
 obtain ⟨xfs,h1,h2⟩:=hl.ex
 have hsm:=h1.small
 obtain ⟨n1,s2,b3,l4,u5,A6,c7,A8,c9,bE,bF,jM,rfl,rfl,jN,jO,mF,jP⟩:=ht.open_
 have iN:=jN.small
 have iO:=jO.small
 obtain ⟨cO,cP,cQ,aF,aB,cR,cS,bG,bN,bH,bO,jQ,rfl,rfl,jR,g8,iP,jS⟩:=hg.open_
 have iQ:=jR.small
 have iR:=g8.small
 have hlen:aF.length = l.length:=hP.1
 have hgu:aB = if flex = true then qb7 (qah l u5) else []:=hP.2.2
 obtain ⟨jT,iS,jU⟩:=jS.ex
 have iT:=iS.small
 refine enter (n:=120) Tryz.func30 rfl Tryz.ntmps30 kz fun a hE=>?_
 have hW:=WOk.start w Nil
 refine qae [0,1,2] kz ?_
 refine qak (qa7 hW hE (d:=8) (cs:=[.int .i64 n1,.slice A6 s2.length c7,.bool b3,.slice A8 l4.length c9,.slice bE u5.length bF]) kz fun df mG mH jV jW jX g9 hC=>?_)
 refine qak (qa7 g9 hC (d:=9) (cs:=[.int .i64 cO,.slice cR cP.length cS,.bool cQ,.slice bG aF.length bN,.slice bH aB.length bO]) kz fun dg mI mJ jY jZ j0 bt hJ=>?_)
 refine qai [2] [] [(0,.v (.slice A l.length c)),(1,.v (.int .i64 v)),(2,.v (.bool flex)),(8,.p 0 0),(9,.p 1 0)] bt hJ fun mK hK=>?_
 refine qaf (qab ?_)
 refine wp_seq ?_
 refine qan [(0,.v (.slice A l.length c)),(1,.v (.int .i64 v)),(2,.v (.bool flex)),(8,.p 0 0),(9,.p 1 0),(22,.v (.bool (((aF.length:Nat):Int) != ((l.length:Nat):Int))))] bt hK fun mL ec=>?_
 refine qas ec (b:=((aF.length:Nat):Int) != ((l.length:Nat):Int)) kz (fun ee=>?_) (fun ee=>?_)
 ·
  have j1:((aF.length:Nat):Int) ≠ ((l.length:Nat):Int):=by simpa using ee
  refine qan [(10,.v (.bool false))] bt ec fun mM hZ=>?_
  refine wp_ret ?_
  refine qam ?_
  refine qaF hZ bt.cells (v:=.bool false) kz ?_
  first
   | (exfalso; omega)
   | exact (qea hgu ‹_› ‹_›).elim
   | exact (qdf hgu ‹_› ‹_›).elim
   | exact (qeb hgu ‹_› ‹_› ‹_› ‹_›).elim
   | exact (qec hgu ‹_› ‹_› ‹_› ‹_›).elim
   | (exfalso; simp_all; done)
 have j2:((aF.length:Nat):Int) = ((l.length:Nat):Int):=by simpa using ee
 refine wp_skip ?_
 refine qab ?_
 refine wp_seq ?_
 refine qan [(0,.v (.slice A l.length c)),(1,.v (.int .i64 v)),(2,.v (.bool flex)),(8,.p 0 0),(9,.p 1 0),(23,.v (.slice A l.length c)),(24,.v (.int .i64 ((l.length:Nat):Int))),(25,.v (.int .i64 0))] bt ec fun mN ia=>?_
 refine wp_block ?_
 refine wp_loop_ghost (fun n_ a_ w_=>∃ (k:Nat),n_ = l.length - k ∧ k ≤ l.length ∧ LInv bt 120 [⟨df,0,[.int .i64 n1,.slice A6 s2.length c7,.bool b3,.slice A8 l4.length c9,.slice bE u5.length bF],true⟩,⟨dg,0,[.int .i64 cO,.slice cR cP.length cS,.bool cQ,.slice bG aF.length bN,.slice bH aB.length bO],true⟩] [] [(0,.v (.slice A l.length c)),(1,.v (.int .i64 v)),(2,.v (.bool flex)),(8,.p 0 0),(9,.p 1 0),(23,.v (.slice A l.length c)),(24,.v (.int .i64 ((l.length:Nat):Int))),(25,.v (.int .i64 ((k:Nat):Int)))] a_ w_) (l.length) ⟨0,by omega,by omega,ia.pk,bt,Fr.refl _ _ _⟩ ?_
 rintro mO mQ mR ⟨k,j3,j4,ib,av,ef⟩
 refine qan [(0,.v (.slice A l.length c)),(1,.v (.int .i64 v)),(2,.v (.bool flex)),(8,.p 0 0),(9,.p 1 0),(23,.v (.slice A l.length c)),(24,.v (.int .i64 ((l.length:Nat):Int))),(25,.v (.int .i64 ((k:Nat):Int))),(26,.v (.bool (decide (((k:Nat):Int) < ((l.length:Nat):Int)))))] av ib fun mS eg=>?_
 refine wp_seq ?_
 refine qas eg (b:=decide (((k:Nat):Int) < ((l.length:Nat):Int))) kz (fun eh=>?_) (fun eh=>?_)
 ·
  have j5:=of_decide_eq_true eh
  refine wp_skip ?_
  refine qab ?_
  refine wp_seq ?_
  refine wp_block ?_
  refine qae [0,1,2,3,4,5] kz ?_
  refine qai [0] [1,2,3,4,5] [(0,.v (.slice A l.length c)),(1,.v (.int .i64 v)),(2,.v (.bool flex)),(8,.p 0 0),(9,.p 1 0),(23,.v (.slice A l.length c)),(24,.v (.int .i64 ((l.length:Nat):Int))),(25,.v (.int .i64 ((k:Nat):Int))),(27,.v (.int .i64 ((k:Nat):Int)))] av eg fun mT ic=>?_
  obtain ⟨j6,j7,ig,j8,dh⟩:=Slots.get h1 (i:=k) (by first | omega | (have h_:=qb6 hgu ‹_›; omega))
  obtain ⟨j9,bP⟩:∃ x,l[k]? = some x:=⟨_,List.getElem?_eq_getElem (by omega)⟩
  have bu:=h2 k j9 bP
  obtain ⟨aj,ak,al,am,ag,ao,aa,ab,ap,ar,iU,rfl,bQ,ii,ka⟩:=bu.open_
  rw [bQ] at bu
  have ij:=ii.small
  rw [bQ] at dh
  refine qak (qaC ic (t:=29) (A:=A) (m:=l.length) (q:=((k:Nat):Int)) (d:=28) kz (e:=52) (size:=8) (bytes:=80) kz ig rfl (by first | omega | (have h_:=qb6 hgu ‹_›; omega)) fun kd ez=>?_)
  refine qak (qaJ ez (t:=52) (b:=j6) (o:=j7 + k * 8) (d:=29) kz (cs:=[.int .i64 aj,.int .i64 ak,.int .i64 al,.int .i64 am,.int .i64 ag,.int .i64 ao,.int .i64 aa,.slice ap ab.length ar]) (v:=.agg #[.int .i64 aj,.int .i64 ak,.int .i64 al,.int .i64 am,.int .i64 ag,.int .i64 ao,.int .i64 aa,.slice ap ab.length ar]) kz (AtF.move dh av.step nilM qaY).at_ fun ke eB=>?_)
  refine qak (qaK av eB (d:=12) (cs:=[.int .i64 0,.int .i64 0,.int .i64 0,.int .i64 0,.int .i64 0,.int .i64 0,.int .i64 0,.slice none 0 0]) kz fun ik kf kg iV iW bR di eC=>?_)
  refine qai [4] [5] [(0,.v (.slice A l.length c)),(1,.v (.int .i64 v)),(2,.v (.bool flex)),(8,.p 0 0),(9,.p 1 0),(11,.v (.int .i64 ((k:Nat):Int))),(12,.p 2 0),(23,.v (.slice A l.length c)),(24,.v (.int .i64 ((l.length:Nat):Int))),(25,.v (.int .i64 ((k:Nat):Int))),(29,.v (.agg #[.int .i64 aj,.int .i64 ak,.int .i64 al,.int .i64 am,.int .i64 ag,.int .i64 ao,.int .i64 aa,.slice ap ab.length ar]))] di eC fun kh eD=>?_
  refine qak (qav di eD (oi:=2) (cs:=[.int .i64 aj,.int .i64 ak,.int .i64 al,.int .i64 am,.int .i64 ag,.int .i64 ao,.int .i64 aa,.slice ap ab.length ar]) kz fun ki bS aG eE=>?_)
  refine qaf (qab ?_)
  refine qae [0,1,2,3,4] kz ?_
  refine qai [0,1] [2,3,4] [(0,.v (.slice A l.length c)),(1,.v (.int .i64 v)),(2,.v (.bool flex)),(8,.p 0 0),(9,.p 1 0),(11,.v (.int .i64 ((k:Nat):Int))),(12,.p 2 0),(23,.v (.slice A l.length c)),(24,.v (.int .i64 ((l.length:Nat):Int))),(25,.v (.int .i64 ((k:Nat):Int))),(30,.v (.agg #[.int .i64 n1,.slice A6 s2.length c7,.bool b3,.slice A8 l4.length c9,.slice bE u5.length bF])),(31,.v (.int .i64 ((k:Nat):Int)))] aG eE fun kj eF=>?_
  refine qak (qaj eF (f:=47) (vs:=[.agg #[.int .i64 n1,.slice A6 s2.length c7,.bool b3,.slice A8 l4.length c9,.slice bE u5.length bF],.int .i64 ((k:Nat):Int)]) (d:=32) kz Tryz.call47 (sAt _ _ k _ _ (ht.move aG.step nilM aG.imm)) ?_)
  rintro e_ km ⟨iX,rfl,eG,aK⟩
  have aL:=eG.move aK nilM (fun b o h_ hb_=>aG.laid (G:=F) aK b o (.inl h_) (Nat.lt_of_lt_of_le hb_ aK.size))
  obtain ⟨aM,aN,aO,aP,aQ,aR,aS,aT,aU,aV,aW,iY,iZ,bT,il,im,ko,kp⟩:=aL.open_
  rw [bT] at aL
  have io:=il.small
  have ip:=im.small
  rw [bT]
  refine ⟨_,rfl,fun kq eH=>?_⟩
  have eI:=aG.next_nil aK
  have bU:=aG.frN aK
  refine qak (qaK eI eH (d:=13) (cs:=[.int .i64 0,.slice none 0 0,.bool false,.slice none 0 0,.slice none 0 0]) kz fun iq ku kv i6 i7 aw eJ eK=>?_)
  refine qak (qav eJ eK (oi:=3) (cs:=[.int .i64 aM,.slice aR aN.length aS,.bool aO,.slice aT aP.length aU,.slice aV aQ.length aW]) kz fun kw ax ac eL=>?_)
  refine qaf (qab ?_)
  refine wp_seq ?_
  refine wp_seq (qgY (Mid:=fun a_ w_=>LInv ac 120 [⟨df,0,[.int .i64 n1,.slice A6 s2.length c7,.bool b3,.slice A8 l4.length c9,.slice bE u5.length bF],true⟩,⟨dg,0,[.int .i64 cO,.slice cR cP.length cS,.bool cQ,.slice bG aF.length bN,.slice bH aB.length bO],true⟩,⟨ik,0,[.int .i64 aj,.int .i64 ak,.int .i64 al,.int .i64 am,.int .i64 ag,.int .i64 ao,.int .i64 aa,.slice ap ab.length ar],true⟩,⟨iq,0,[.int .i64 aM,.slice aR aN.length aS,.bool aO,.slice aT aP.length aU,.slice aV aQ.length aW],true⟩] [] [(0,.v (.slice A l.length c)),(1,.v (.int .i64 v)),(2,.v (.bool flex)),(8,.p 0 0),(9,.p 1 0),(11,.v (.int .i64 ((k:Nat):Int))),(12,.p 2 0),(13,.p 3 0),(23,.v (.slice A l.length c)),(24,.v (.int .i64 ((l.length:Nat):Int))),(25,.v (.int .i64 ((k:Nat):Int))),(54,.v (.bool (Fld.pres (Fld.mk aj ak al am ag ao aa ab) v flex (Tree.at_ (Tree.mk n1 s2 b3 l4 u5) k))))] a_ w_) ?_ ?_)
  ·
   refine qap [0,1,2,3,4,5,6,7,8,9,10,11,12,13,14,15,16,17,18,19,20,21] kz ?_
   refine qai [0,1,2,3] [4,5,6,7,8,9,10,11,12,13,14,15,16,17,18,19,20,21] [(0,.v (.slice A l.length c)),(1,.v (.int .i64 v)),(2,.v (.bool flex)),(8,.p 0 0),(9,.p 1 0),(11,.v (.int .i64 ((k:Nat):Int))),(12,.p 2 0),(13,.p 3 0),(23,.v (.slice A l.length c)),(24,.v (.int .i64 ((l.length:Nat):Int))),(25,.v (.int .i64 ((k:Nat):Int))),(36,.v (.bool (decide (ag < 0))))] ac eL fun kx dj=>?_
   refine (Bool.eq_false_or_eq_true (decide (ag < 0))).elim (fun aX=>?_) (fun aX=>?_)
   ·
    have ja:=of_decide_eq_true aX
    have eM:=dj.cast (env':=[(0,.v (.slice A l.length c)),(1,.v (.int .i64 v)),(2,.v (.bool flex)),(8,.p 0 0),(9,.p 1 0),(11,.v (.int .i64 ((k:Nat):Int))),(12,.p 2 0),(13,.p 3 0),(23,.v (.slice A l.length c)),(24,.v (.int .i64 ((l.length:Nat):Int))),(25,.v (.int .i64 ((k:Nat):Int))),(36,.v (.bool true))]) (by rw [aX])
    refine qai [4,5] [6,7,8,9,10,11,12,13,14,15,16,17,18,19,20,21] [(0,.v (.slice A l.length c)),(1,.v (.int .i64 v)),(2,.v (.bool flex)),(8,.p 0 0),(9,.p 1 0),(11,.v (.int .i64 ((k:Nat):Int))),(12,.p 2 0),(13,.p 3 0),(23,.v (.slice A l.length c)),(24,.v (.int .i64 ((l.length:Nat):Int))),(25,.v (.int .i64 ((k:Nat):Int))),(36,.v (.bool true)),(37,.v (.agg #[.int .i64 aj,.int .i64 ak,.int .i64 al,.int .i64 am,.int .i64 ag,.int .i64 ao,.int .i64 aa,.slice ap ab.length ar])),(38,.v (.int .i64 v))] ac eM fun ky eN=>?_
    refine qak (qaj eN (f:=77) (vs:=[.agg #[.int .i64 aj,.int .i64 ak,.int .i64 al,.int .i64 am,.int .i64 ag,.int .i64 ao,.int .i64 aa,.slice ap ab.length ar],.int .i64 v]) (d:=39) kz Tryz.call77 (sHas aj ak al am ag ao aa ab _ _ v _) ?_)
    rintro e_ kA ⟨rfl,dl⟩
    refine ⟨_,rfl,fun kB eO=>?_⟩
    have af:=ac.next_nil dl
    have aH:=ac.frN dl
    refine qai [7,8] [9,10,11,12,13,14,15,16,17,18,19,20,21] [(0,.v (.slice A l.length c)),(1,.v (.int .i64 v)),(2,.v (.bool flex)),(8,.p 0 0),(9,.p 1 0),(11,.v (.int .i64 ((k:Nat):Int))),(12,.p 2 0),(13,.p 3 0),(23,.v (.slice A l.length c)),(24,.v (.int .i64 ((l.length:Nat):Int))),(25,.v (.int .i64 ((k:Nat):Int))),(41,.v (.bool (Fld.has (Fld.mk aj ak al am ag ao aa ab) v)))] af eO fun kC dp=>?_
    refine (Bool.eq_false_or_eq_true (Fld.has (Fld.mk aj ak al am ag ao aa ab) v)).elim (fun bV=>?_) (fun bV=>?_)
    ·
     have eP:=dp.cast (env':=[(0,.v (.slice A l.length c)),(1,.v (.int .i64 v)),(2,.v (.bool flex)),(8,.p 0 0),(9,.p 1 0),(11,.v (.int .i64 ((k:Nat):Int))),(12,.p 2 0),(13,.p 3 0),(23,.v (.slice A l.length c)),(24,.v (.int .i64 ((l.length:Nat):Int))),(25,.v (.int .i64 ((k:Nat):Int))),(41,.v (.bool true))]) (by rw [bV])
     refine qai [9,10,11,12,13,14,15,16,17,18,19,20,21] [] [(0,.v (.slice A l.length c)),(1,.v (.int .i64 v)),(2,.v (.bool flex)),(8,.p 0 0),(9,.p 1 0),(11,.v (.int .i64 ((k:Nat):Int))),(12,.p 2 0),(13,.p 3 0),(23,.v (.slice A l.length c)),(24,.v (.int .i64 ((l.length:Nat):Int))),(25,.v (.int .i64 ((k:Nat):Int))),(54,.v (.bool true))] af eP fun kD eQ=>?_
     refine qaf (qab ?_)
     have hp_:Fld.pres (Fld.mk aj ak al am ag ao aa ab) v flex (Tree.at_ (Tree.mk n1 s2 b3 l4 u5) k) = true:=by first | (first | exact qlP ‹_› ‹_› | exact qlQ ‹_› ‹_› ‹_›) | (exfalso; omega)
     exact ⟨(eQ.pk (env':=[(0,.v (.slice A l.length c)),(1,.v (.int .i64 v)),(2,.v (.bool flex)),(8,.p 0 0),(9,.p 1 0),(11,.v (.int .i64 ((k:Nat):Int))),(12,.p 2 0),(13,.p 3 0),(23,.v (.slice A l.length c)),(24,.v (.int .i64 ((l.length:Nat):Int))),(25,.v (.int .i64 ((k:Nat):Int))),(54,.v (.bool true))])).cast (by rw [hp_]),af,aH⟩
    have eR:=dp.cast (env':=[(0,.v (.slice A l.length c)),(1,.v (.int .i64 v)),(2,.v (.bool flex)),(8,.p 0 0),(9,.p 1 0),(11,.v (.int .i64 ((k:Nat):Int))),(12,.p 2 0),(13,.p 3 0),(23,.v (.slice A l.length c)),(24,.v (.int .i64 ((l.length:Nat):Int))),(25,.v (.int .i64 ((k:Nat):Int))),(41,.v (.bool false))]) (by rw [bV])
    refine qai [9,10,11,12] [13,14,15,16,17,18,19,20,21] [(0,.v (.slice A l.length c)),(1,.v (.int .i64 v)),(2,.v (.bool flex)),(8,.p 0 0),(9,.p 1 0),(11,.v (.int .i64 ((k:Nat):Int))),(12,.p 2 0),(13,.p 3 0),(23,.v (.slice A l.length c)),(24,.v (.int .i64 ((l.length:Nat):Int))),(25,.v (.int .i64 ((k:Nat):Int))),(41,.v (.bool false)),(45,.v (.bool (decide (ag ≥ 0))))] af eR fun kE dq=>?_
    refine (Bool.eq_false_or_eq_true (decide (ag ≥ 0))).elim (fun aY=>?_) (fun aY=>?_)
    ·
     have jb:=of_decide_eq_true aY
     have eS:=dq.cast (env':=[(0,.v (.slice A l.length c)),(1,.v (.int .i64 v)),(2,.v (.bool flex)),(8,.p 0 0),(9,.p 1 0),(11,.v (.int .i64 ((k:Nat):Int))),(12,.p 2 0),(13,.p 3 0),(23,.v (.slice A l.length c)),(24,.v (.int .i64 ((l.length:Nat):Int))),(25,.v (.int .i64 ((k:Nat):Int))),(41,.v (.bool false)),(45,.v (.bool true))]) (by rw [aY])
     refine qai [13,14,15] [16,17,18,19,20,21] [(0,.v (.slice A l.length c)),(1,.v (.int .i64 v)),(2,.v (.bool flex)),(8,.p 0 0),(9,.p 1 0),(11,.v (.int .i64 ((k:Nat):Int))),(12,.p 2 0),(13,.p 3 0),(23,.v (.slice A l.length c)),(24,.v (.int .i64 ((l.length:Nat):Int))),(25,.v (.int .i64 ((k:Nat):Int))),(41,.v (.bool false)),(48,.v (.bool flex))] af eS fun kF dr=>?_
     refine (Bool.eq_false_or_eq_true (flex)).elim (fun aZ=>?_) (fun aZ=>?_)
     ·
      have eU:=dr.cast (env':=[(0,.v (.slice A l.length c)),(1,.v (.int .i64 v)),(2,.v (.bool true)),(8,.p 0 0),(9,.p 1 0),(11,.v (.int .i64 ((k:Nat):Int))),(12,.p 2 0),(13,.p 3 0),(23,.v (.slice A l.length c)),(24,.v (.int .i64 ((l.length:Nat):Int))),(25,.v (.int .i64 ((k:Nat):Int))),(41,.v (.bool false)),(48,.v (.bool true))]) (by rw [aZ])
      refine qai [16,17] [18,19,20,21] [(0,.v (.slice A l.length c)),(1,.v (.int .i64 v)),(2,.v (.bool true)),(8,.p 0 0),(9,.p 1 0),(11,.v (.int .i64 ((k:Nat):Int))),(12,.p 2 0),(13,.p 3 0),(23,.v (.slice A l.length c)),(24,.v (.int .i64 ((l.length:Nat):Int))),(25,.v (.int .i64 ((k:Nat):Int))),(41,.v (.bool false)),(48,.v (.bool true)),(49,.v (.agg #[.int .i64 aj,.int .i64 ak,.int .i64 al,.int .i64 am,.int .i64 ag,.int .i64 ao,.int .i64 aa,.slice ap ab.length ar])),(50,.v (.agg #[.int .i64 aM,.slice aR aN.length aS,.bool aO,.slice aT aP.length aU,.slice aV aQ.length aW]))] af eU fun kG eV=>?_
      refine qak (qaj eV (f:=78) (vs:=[.agg #[.int .i64 aj,.int .i64 ak,.int .i64 al,.int .i64 am,.int .i64 ag,.int .i64 ao,.int .i64 aa,.slice ap ab.length ar],.agg #[.int .i64 aM,.slice aR aN.length aS,.bool aO,.slice aT aP.length aU,.slice aV aQ.length aW]]) (d:=51) kz Tryz.call78 (qht _ _ _ _ _ _ _ (bu.move af.step nilM af.imm) (Nat.le_refl _) (aL.move ((aw.trans ax).trans aH).step immM ((aw.trans ax).trans aH).to')) ?_)
      rintro e_ kH ⟨rfl,dt⟩
      refine ⟨_,rfl,fun kI eW=>?_⟩
      have du:=af.next_nil dt
      have eX:=af.frN dt
      refine qai [19,20,21] [] [(0,.v (.slice A l.length c)),(1,.v (.int .i64 v)),(2,.v (.bool true)),(8,.p 0 0),(9,.p 1 0),(11,.v (.int .i64 ((k:Nat):Int))),(12,.p 2 0),(13,.p 3 0),(23,.v (.slice A l.length c)),(24,.v (.int .i64 ((l.length:Nat):Int))),(25,.v (.int .i64 ((k:Nat):Int))),(54,.v (.bool (!(Fld.usual (Fld.mk aj ak al am ag ao aa ab) (Tree.at_ (Tree.mk n1 s2 b3 l4 u5) k)))))] du eW fun kJ eY=>?_
      refine qaf (qab ?_)
      have hp_:Fld.pres (Fld.mk aj ak al am ag ao aa ab) v flex (Tree.at_ (Tree.mk n1 s2 b3 l4 u5) k) = !(Fld.usual (Fld.mk aj ak al am ag ao aa ab) (Tree.at_ (Tree.mk n1 s2 b3 l4 u5) k)):=by first | (first | exact qkw ‹_› ‹_› | exact qkx ‹_›) | (exfalso; omega)
      exact ⟨(eY.pk (env':=[(0,.v (.slice A l.length c)),(1,.v (.int .i64 v)),(2,.v (.bool true)),(8,.p 0 0),(9,.p 1 0),(11,.v (.int .i64 ((k:Nat):Int))),(12,.p 2 0),(13,.p 3 0),(23,.v (.slice A l.length c)),(24,.v (.int .i64 ((l.length:Nat):Int))),(25,.v (.int .i64 ((k:Nat):Int))),(54,.v (.bool (!(Fld.usual (Fld.mk aj ak al am ag ao aa ab) (Tree.at_ (Tree.mk n1 s2 b3 l4 u5) k)))))])).cast (by rw [hp_,aZ]),du,(aH.trans eX)⟩
     have eZ:=dr.cast (env':=[(0,.v (.slice A l.length c)),(1,.v (.int .i64 v)),(2,.v (.bool false)),(8,.p 0 0),(9,.p 1 0),(11,.v (.int .i64 ((k:Nat):Int))),(12,.p 2 0),(13,.p 3 0),(23,.v (.slice A l.length c)),(24,.v (.int .i64 ((l.length:Nat):Int))),(25,.v (.int .i64 ((k:Nat):Int))),(41,.v (.bool false)),(48,.v (.bool false))]) (by rw [aZ])
     refine qai [16,17,18,19,20,21] [] [(0,.v (.slice A l.length c)),(1,.v (.int .i64 v)),(2,.v (.bool false)),(8,.p 0 0),(9,.p 1 0),(11,.v (.int .i64 ((k:Nat):Int))),(12,.p 2 0),(13,.p 3 0),(23,.v (.slice A l.length c)),(24,.v (.int .i64 ((l.length:Nat):Int))),(25,.v (.int .i64 ((k:Nat):Int))),(54,.v (.bool false))] af eZ fun kK e9=>?_
     refine qaf (qab ?_)
     have hp_:Fld.pres (Fld.mk aj ak al am ag ao aa ab) v flex (Tree.at_ (Tree.mk n1 s2 b3 l4 u5) k) = false:=by first | (first | exact qhy ‹_› ‹_› | exact qhz ‹_› ‹_› | exact qhA ‹_› ‹_›) | (exfalso; omega)
     exact ⟨(e9.pk (env':=[(0,.v (.slice A l.length c)),(1,.v (.int .i64 v)),(2,.v (.bool false)),(8,.p 0 0),(9,.p 1 0),(11,.v (.int .i64 ((k:Nat):Int))),(12,.p 2 0),(13,.p 3 0),(23,.v (.slice A l.length c)),(24,.v (.int .i64 ((l.length:Nat):Int))),(25,.v (.int .i64 ((k:Nat):Int))),(54,.v (.bool false))])).cast (by rw [hp_,aZ]),af,aH⟩
    have jc:=of_decide_eq_false aY
    have fa:=dq.cast (env':=[(0,.v (.slice A l.length c)),(1,.v (.int .i64 v)),(2,.v (.bool flex)),(8,.p 0 0),(9,.p 1 0),(11,.v (.int .i64 ((k:Nat):Int))),(12,.p 2 0),(13,.p 3 0),(23,.v (.slice A l.length c)),(24,.v (.int .i64 ((l.length:Nat):Int))),(25,.v (.int .i64 ((k:Nat):Int))),(41,.v (.bool false)),(45,.v (.bool false))]) (by rw [aY])
    refine qai [13,14,15,16,17,18,19,20,21] [] [(0,.v (.slice A l.length c)),(1,.v (.int .i64 v)),(2,.v (.bool flex)),(8,.p 0 0),(9,.p 1 0),(11,.v (.int .i64 ((k:Nat):Int))),(12,.p 2 0),(13,.p 3 0),(23,.v (.slice A l.length c)),(24,.v (.int .i64 ((l.length:Nat):Int))),(25,.v (.int .i64 ((k:Nat):Int))),(54,.v (.bool false))] af fa fun kL fb=>?_
    refine qaf (qab ?_)
    have hp_:Fld.pres (Fld.mk aj ak al am ag ao aa ab) v flex (Tree.at_ (Tree.mk n1 s2 b3 l4 u5) k) = false:=by first | (first | exact qhy ‹_› ‹_› | exact qhz ‹_› ‹_› | exact qhA ‹_› ‹_›) | (exfalso; omega)
    exact ⟨(fb.pk (env':=[(0,.v (.slice A l.length c)),(1,.v (.int .i64 v)),(2,.v (.bool flex)),(8,.p 0 0),(9,.p 1 0),(11,.v (.int .i64 ((k:Nat):Int))),(12,.p 2 0),(13,.p 3 0),(23,.v (.slice A l.length c)),(24,.v (.int .i64 ((l.length:Nat):Int))),(25,.v (.int .i64 ((k:Nat):Int))),(54,.v (.bool false))])).cast (by rw [hp_]),af,aH⟩
   have jd:=of_decide_eq_false aX
   have fe:=dj.cast (env':=[(0,.v (.slice A l.length c)),(1,.v (.int .i64 v)),(2,.v (.bool flex)),(8,.p 0 0),(9,.p 1 0),(11,.v (.int .i64 ((k:Nat):Int))),(12,.p 2 0),(13,.p 3 0),(23,.v (.slice A l.length c)),(24,.v (.int .i64 ((l.length:Nat):Int))),(25,.v (.int .i64 ((k:Nat):Int))),(36,.v (.bool false))]) (by rw [aX])
   refine qai [4,5,6,7,8,9,10,11,12] [13,14,15,16,17,18,19,20,21] [(0,.v (.slice A l.length c)),(1,.v (.int .i64 v)),(2,.v (.bool flex)),(8,.p 0 0),(9,.p 1 0),(11,.v (.int .i64 ((k:Nat):Int))),(12,.p 2 0),(13,.p 3 0),(23,.v (.slice A l.length c)),(24,.v (.int .i64 ((l.length:Nat):Int))),(25,.v (.int .i64 ((k:Nat):Int))),(41,.v (.bool false)),(45,.v (.bool (decide (ag ≥ 0))))] ac fe fun kM dv=>?_
   refine (Bool.eq_false_or_eq_true (decide (ag ≥ 0))).elim (fun ba=>?_) (fun ba=>?_)
   ·
    have je:=of_decide_eq_true ba
    have ff:=dv.cast (env':=[(0,.v (.slice A l.length c)),(1,.v (.int .i64 v)),(2,.v (.bool flex)),(8,.p 0 0),(9,.p 1 0),(11,.v (.int .i64 ((k:Nat):Int))),(12,.p 2 0),(13,.p 3 0),(23,.v (.slice A l.length c)),(24,.v (.int .i64 ((l.length:Nat):Int))),(25,.v (.int .i64 ((k:Nat):Int))),(41,.v (.bool false)),(45,.v (.bool true))]) (by rw [ba])
    refine qai [13,14,15] [16,17,18,19,20,21] [(0,.v (.slice A l.length c)),(1,.v (.int .i64 v)),(2,.v (.bool flex)),(8,.p 0 0),(9,.p 1 0),(11,.v (.int .i64 ((k:Nat):Int))),(12,.p 2 0),(13,.p 3 0),(23,.v (.slice A l.length c)),(24,.v (.int .i64 ((l.length:Nat):Int))),(25,.v (.int .i64 ((k:Nat):Int))),(41,.v (.bool false)),(48,.v (.bool flex))] ac ff fun kN dw=>?_
    refine (Bool.eq_false_or_eq_true (flex)).elim (fun bd=>?_) (fun bd=>?_)
    ·
     have fg:=dw.cast (env':=[(0,.v (.slice A l.length c)),(1,.v (.int .i64 v)),(2,.v (.bool true)),(8,.p 0 0),(9,.p 1 0),(11,.v (.int .i64 ((k:Nat):Int))),(12,.p 2 0),(13,.p 3 0),(23,.v (.slice A l.length c)),(24,.v (.int .i64 ((l.length:Nat):Int))),(25,.v (.int .i64 ((k:Nat):Int))),(41,.v (.bool false)),(48,.v (.bool true))]) (by rw [bd])
     refine qai [16,17] [18,19,20,21] [(0,.v (.slice A l.length c)),(1,.v (.int .i64 v)),(2,.v (.bool true)),(8,.p 0 0),(9,.p 1 0),(11,.v (.int .i64 ((k:Nat):Int))),(12,.p 2 0),(13,.p 3 0),(23,.v (.slice A l.length c)),(24,.v (.int .i64 ((l.length:Nat):Int))),(25,.v (.int .i64 ((k:Nat):Int))),(41,.v (.bool false)),(48,.v (.bool true)),(49,.v (.agg #[.int .i64 aj,.int .i64 ak,.int .i64 al,.int .i64 am,.int .i64 ag,.int .i64 ao,.int .i64 aa,.slice ap ab.length ar])),(50,.v (.agg #[.int .i64 aM,.slice aR aN.length aS,.bool aO,.slice aT aP.length aU,.slice aV aQ.length aW]))] ac fg fun kO fh=>?_
     refine qak (qaj fh (f:=78) (vs:=[.agg #[.int .i64 aj,.int .i64 ak,.int .i64 al,.int .i64 am,.int .i64 ag,.int .i64 ao,.int .i64 aa,.slice ap ab.length ar],.agg #[.int .i64 aM,.slice aR aN.length aS,.bool aO,.slice aT aP.length aU,.slice aV aQ.length aW]]) (d:=51) kz Tryz.call78 (qht _ _ _ _ _ _ _ (bu.move ac.step nilM ac.imm) (Nat.le_refl _) (aL.move (aw.trans ax).step immM (aw.trans ax).to')) ?_)
     rintro e_ kP ⟨rfl,dx⟩
     refine ⟨_,rfl,fun kQ fi=>?_⟩
     have dy:=ac.next_nil dx
     have fj:=ac.frN dx
     refine qai [19,20,21] [] [(0,.v (.slice A l.length c)),(1,.v (.int .i64 v)),(2,.v (.bool true)),(8,.p 0 0),(9,.p 1 0),(11,.v (.int .i64 ((k:Nat):Int))),(12,.p 2 0),(13,.p 3 0),(23,.v (.slice A l.length c)),(24,.v (.int .i64 ((l.length:Nat):Int))),(25,.v (.int .i64 ((k:Nat):Int))),(54,.v (.bool (!(Fld.usual (Fld.mk aj ak al am ag ao aa ab) (Tree.at_ (Tree.mk n1 s2 b3 l4 u5) k)))))] dy fi fun kR fk=>?_
     refine qaf (qab ?_)
     have hp_:Fld.pres (Fld.mk aj ak al am ag ao aa ab) v flex (Tree.at_ (Tree.mk n1 s2 b3 l4 u5) k) = !(Fld.usual (Fld.mk aj ak al am ag ao aa ab) (Tree.at_ (Tree.mk n1 s2 b3 l4 u5) k)):=by first | (first | exact qkw ‹_› ‹_› | exact qkx ‹_›) | (exfalso; omega)
     exact ⟨(fk.pk (env':=[(0,.v (.slice A l.length c)),(1,.v (.int .i64 v)),(2,.v (.bool true)),(8,.p 0 0),(9,.p 1 0),(11,.v (.int .i64 ((k:Nat):Int))),(12,.p 2 0),(13,.p 3 0),(23,.v (.slice A l.length c)),(24,.v (.int .i64 ((l.length:Nat):Int))),(25,.v (.int .i64 ((k:Nat):Int))),(54,.v (.bool (!(Fld.usual (Fld.mk aj ak al am ag ao aa ab) (Tree.at_ (Tree.mk n1 s2 b3 l4 u5) k)))))])).cast (by rw [hp_,bd]),dy,fj⟩
    have fm:=dw.cast (env':=[(0,.v (.slice A l.length c)),(1,.v (.int .i64 v)),(2,.v (.bool false)),(8,.p 0 0),(9,.p 1 0),(11,.v (.int .i64 ((k:Nat):Int))),(12,.p 2 0),(13,.p 3 0),(23,.v (.slice A l.length c)),(24,.v (.int .i64 ((l.length:Nat):Int))),(25,.v (.int .i64 ((k:Nat):Int))),(41,.v (.bool false)),(48,.v (.bool false))]) (by rw [bd])
    refine qai [16,17,18,19,20,21] [] [(0,.v (.slice A l.length c)),(1,.v (.int .i64 v)),(2,.v (.bool false)),(8,.p 0 0),(9,.p 1 0),(11,.v (.int .i64 ((k:Nat):Int))),(12,.p 2 0),(13,.p 3 0),(23,.v (.slice A l.length c)),(24,.v (.int .i64 ((l.length:Nat):Int))),(25,.v (.int .i64 ((k:Nat):Int))),(54,.v (.bool false))] ac fm fun kS fo=>?_
    refine qaf (qab ?_)
    have hp_:Fld.pres (Fld.mk aj ak al am ag ao aa ab) v flex (Tree.at_ (Tree.mk n1 s2 b3 l4 u5) k) = false:=by first | (first | exact qhy ‹_› ‹_› | exact qhz ‹_› ‹_› | exact qhA ‹_› ‹_›) | (exfalso; omega)
    exact ⟨(fo.pk (env':=[(0,.v (.slice A l.length c)),(1,.v (.int .i64 v)),(2,.v (.bool false)),(8,.p 0 0),(9,.p 1 0),(11,.v (.int .i64 ((k:Nat):Int))),(12,.p 2 0),(13,.p 3 0),(23,.v (.slice A l.length c)),(24,.v (.int .i64 ((l.length:Nat):Int))),(25,.v (.int .i64 ((k:Nat):Int))),(54,.v (.bool false))])).cast (by rw [hp_,bd]),ac,Fr.refl _ _ _⟩
   have jf:=of_decide_eq_false ba
   have fq:=dv.cast (env':=[(0,.v (.slice A l.length c)),(1,.v (.int .i64 v)),(2,.v (.bool flex)),(8,.p 0 0),(9,.p 1 0),(11,.v (.int .i64 ((k:Nat):Int))),(12,.p 2 0),(13,.p 3 0),(23,.v (.slice A l.length c)),(24,.v (.int .i64 ((l.length:Nat):Int))),(25,.v (.int .i64 ((k:Nat):Int))),(41,.v (.bool false)),(45,.v (.bool false))]) (by rw [ba])
   refine qai [13,14,15,16,17,18,19,20,21] [] [(0,.v (.slice A l.length c)),(1,.v (.int .i64 v)),(2,.v (.bool flex)),(8,.p 0 0),(9,.p 1 0),(11,.v (.int .i64 ((k:Nat):Int))),(12,.p 2 0),(13,.p 3 0),(23,.v (.slice A l.length c)),(24,.v (.int .i64 ((l.length:Nat):Int))),(25,.v (.int .i64 ((k:Nat):Int))),(54,.v (.bool false))] ac fq fun kT fr=>?_
   refine qaf (qab ?_)
   have hp_:Fld.pres (Fld.mk aj ak al am ag ao aa ab) v flex (Tree.at_ (Tree.mk n1 s2 b3 l4 u5) k) = false:=by first | (first | exact qhy ‹_› ‹_› | exact qhz ‹_› ‹_› | exact qhA ‹_› ‹_›) | (exfalso; omega)
   exact ⟨(fr.pk (env':=[(0,.v (.slice A l.length c)),(1,.v (.int .i64 v)),(2,.v (.bool flex)),(8,.p 0 0),(9,.p 1 0),(11,.v (.int .i64 ((k:Nat):Int))),(12,.p 2 0),(13,.p 3 0),(23,.v (.slice A l.length c)),(24,.v (.int .i64 ((l.length:Nat):Int))),(25,.v (.int .i64 ((k:Nat):Int))),(54,.v (.bool false))])).cast (by rw [hp_]),ac,Fr.refl _ _ _⟩
  rintro kU kV ⟨bW,dz,bf⟩
  refine qas bW (b:=Fld.pres (Fld.mk aj ak al am ag ao aa ab) v flex (Tree.at_ (Tree.mk n1 s2 b3 l4 u5) k)) kz (fun ft=>?_) (fun ft=>?_)
  ·
   refine wp_seq ?_
   refine qaI 11 kz dz fun kW bX aC bY=>?_
   refine qaG [0,1,2,3,4,5,6] [(0,.v (.slice A l.length c)),(1,.v (.int .i64 v)),(2,.v (.bool flex)),(8,.p 0 0),(9,.p 1 0),(23,.v (.slice A l.length c)),(24,.v (.int .i64 ((l.length:Nat):Int))),(25,.v (.int .i64 ((k:Nat):Int))),(55,.v (.agg #[.int .i64 aj,.int .i64 ak,.int .i64 al,.int .i64 am,.int .i64 ag,.int .i64 ao,.int .i64 aa,.slice ap ab.length ar])),(56,.v (.int .i64 v)),(57,.v (.bool flex)),(58,.v (.agg #[.int .i64 aM,.slice aR aN.length aS,.bool aO,.slice aT aP.length aU,.slice aV aQ.length aW])),(60,.v (.slice bG aF.length bN)),(61,.v (.int .i64 ((k:Nat):Int)))] 4 (qaa (qaa (qaa (qac (qaa (qaa (qac (qaa qag)))))))) (fun _ h=>h.cells) bY bW fun kX fu=>?_
   obtain ⟨ir,iu,fv,jg,bZ⟩:=Slots.get g8 (i:=k) (by first | omega | (have h_:=qb6 hgu ‹_›; omega))
   obtain ⟨iv,dA⟩:∃ x,aF[k]? = some x:=⟨_,List.getElem?_eq_getElem (by omega)⟩
   have b8:=iP k iv dA
   obtain ⟨cT,cU,cV,cW,cX,ei,ej,ek,em,eo,ep,jh,rfl,cd,iw,ix,kY,kZ⟩:=b8.open_
   rw [cd] at b8
   have iy:=iw.small
   have iz:=ix.small
   rw [cd] at bZ
   refine qaN fu (i:=7) (t:=23) (A:=bG) (m:=aF.length) (q:=((k:Nat):Int)) (d:=62) kz (e:=26) (size:=5) (bytes:=88) kz fv rfl (by first | omega | (have h_:=qb6 hgu ‹_›; omega)) kz kz (qaa (qaa (qaa (qac (qaa (qaa (qac (qaa qag)))))))) bY fun k5 fw=>?_
   refine qaX fw (i:=8) (t:=26) (b:=ir) (o:=iu + k * 5) (d:=63) kz (cs:=[.int .i64 cT,.slice ei cU.length ej,.bool cV,.slice ek cW.length em,.slice eo cX.length ep]) (v:=.agg #[.int .i64 cT,.slice ei cU.length ej,.bool cV,.slice ek cW.length em,.slice eo cX.length ep]) kz (fun w' h'=>(AtF.move bZ (TT.step0 aC h') nilM qaY).at_) kz kz (qaa (qaa (qaa (qac (qaa (qaa (qac (qaa qag)))))))) bY fun k6 fx=>?_
   refine qaA (i:=9) kz (qaj fx (f:=79) (vs:=[.agg #[.int .i64 aj,.int .i64 ak,.int .i64 al,.int .i64 am,.int .i64 ag,.int .i64 ao,.int .i64 aa,.slice ap ab.length ar],.int .i64 v,.bool flex,.agg #[.int .i64 aM,.slice aR aN.length aS,.bool aO,.slice aT aP.length aU,.slice aV aQ.length aW],.agg #[.int .i64 cT,.slice ei cU.length ej,.bool cV,.slice ek cW.length em,.slice eo cX.length ep]]) (d:=64) kz Tryz.call79 ( qlT hT _ _ _ (Tree.at_ (Tree.mk n1 s2 b3 l4 u5) k) _ (Tree.mk cT cU cV cW cX) _ _ (bu.move aC.step nilM aC.imm) (qfo hpl (List.mem_of_getElem? bP)) (aL.move (((aw.trans ax).trans bf).trans bX).step immM (((aw.trans ax).trans bf).trans bX).to') (b8.move aC.step nilM aC.imm) ((hP.2.1 k _ _ bP dA).1 ‹_›)) ?_)
   rintro e_ k7 ⟨rfl,dB⟩
   refine ⟨_,rfl,fun k8 fy=>?_⟩
   have ce:=aC.next_nil dB
   have dC:=aC.frN dB
   have dD:=TT.ofW dC ce
   refine ⟨fun _=>dD,?_⟩
   refine qaG [10] [(0,.v (.slice A l.length c)),(1,.v (.int .i64 v)),(2,.v (.bool flex)),(8,.p 0 0),(9,.p 1 0),(23,.v (.slice A l.length c)),(24,.v (.int .i64 ((l.length:Nat):Int))),(25,.v (.int .i64 ((k:Nat):Int))),(65,.v (.bool false))] 0 (qaa (qaa (qaa (qac (qaa (qaa (qac (qaa qag)))))))) (fun _ h=>h.cells) dD fy fun k9 dE=>?_
   refine qaE kz ?_ _
   refine qab ?_
   refine qao dE (b:=false) kz rfl ?_
   refine wp_skip ?_
   refine qab ?_
   refine wp_exit ?_
   refine qaB ?_
   refine qaL ?_
   refine qab ?_
   refine qap [0,1] kz ?_
   refine qai [0,1] [] [(0,.v (.slice A l.length c)),(1,.v (.int .i64 v)),(2,.v (.bool flex)),(8,.p 0 0),(9,.p 1 0),(23,.v (.slice A l.length c)),(24,.v (.int .i64 ((l.length:Nat):Int))),(25,.v (.int .i64 (IntKind.i64.wrap (((k:Nat):Int) + 1))))] ce dE fun la fz=>?_
   refine qaf (qab ?_)
   obtain ⟨dF,fA,fB⟩:=ce.cutB fz 2 [⟨df,0,[.int .i64 n1,.slice A6 s2.length c7,.bool b3,.slice A8 l4.length c9,.slice bE u5.length bF],true⟩,⟨dg,0,[.int .i64 cO,.slice cR cP.length cS,.bool cQ,.slice bG aF.length bN,.slice bH aB.length bO],true⟩] [(0,.v (.slice A l.length c)),(1,.v (.int .i64 v)),(2,.v (.bool flex)),(8,.p 0 0),(9,.p 1 0),(23,.v (.slice A l.length c)),(24,.v (.int .i64 ((l.length:Nat):Int))),(25,.v (.int .i64 (IntKind.i64.wrap (((k:Nat):Int) + 1))))]
   have fC:IntKind.i64.wrap (((k:Nat):Int) + 1) = ((k + 1:Nat):Int):=qaM (by omega)
   rw [fC] at dF
   exact ⟨l.length - (k + 1),by omega,k + 1,rfl,by omega,dF.pk,fA,(((((((((ef.trans bR).trans bS).trans bU).trans aw).trans ax).trans bf).trans bX).trans dC).trans fB)⟩
  refine wp_skip ?_
  refine qab ?_
  refine qaI 11 kz dz fun lb dG cm cq=>?_
  refine qaG [0,2,3,4] [(0,.v (.slice A l.length c)),(1,.v (.int .i64 v)),(2,.v (.bool flex)),(8,.p 0 0),(9,.p 1 0),(23,.v (.slice A l.length c)),(24,.v (.int .i64 ((l.length:Nat):Int))),(25,.v (.int .i64 ((k:Nat):Int))),(66,.v (.agg #[.int .i64 aj,.int .i64 ak,.int .i64 al,.int .i64 am,.int .i64 ag,.int .i64 ao,.int .i64 aa,.slice ap ab.length ar])),(69,.v (.slice bG aF.length bN)),(70,.v (.int .i64 ((k:Nat):Int)))] 7 (qaa (qac (qaa (qaa (qac (qaa qag)))))) (fun _ h=>h.cells) cq bW fun lc fD=>?_
  obtain ⟨iA,iB,fE,ji,cr⟩:=Slots.get g8 (i:=k) (by first | omega | (have h_:=qb6 hgu ‹_›; omega))
  obtain ⟨iC,cu⟩:∃ x,aF[k]? = some x:=⟨_,List.getElem?_eq_getElem (by omega)⟩
  have bA:=iP k iC cu
  obtain ⟨bI,bJ,bK,bL,bM,cY,cZ,c5,c6,da,db,jj,rfl,cw,iD,iE,ld,lf⟩:=bA.open_
  rw [cw] at bA
  have iF:=iD.small
  have iG:=iE.small
  rw [cw] at cr
  refine qaN fD (i:=5) (t:=23) (A:=bG) (m:=aF.length) (q:=((k:Nat):Int)) (d:=71) kz (e:=26) (size:=5) (bytes:=88) kz fE rfl (by first | omega | (have h_:=qb6 hgu ‹_›; omega)) kz kz (qaa (qac (qaa (qaa (qac (qaa qag)))))) cq fun lg fF=>?_
  refine qaX fF (i:=6) (t:=26) (b:=iA) (o:=iB + k * 5) (d:=72) kz (cs:=[.int .i64 bI,.slice cY bJ.length cZ,.bool bK,.slice c5 bL.length c6,.slice da bM.length db]) (v:=.agg #[.int .i64 bI,.slice cY bJ.length cZ,.bool bK,.slice c5 bL.length c6,.slice da bM.length db]) kz (fun w' h'=>(AtF.move cr (TT.step0 cm h') nilM qaY).at_) kz kz (qaa (qac (qaa (qaa (qac (qaa qag)))))) cq fun lh dH=>?_
  refine qf2 (i:=1) (j:=7) kz ?_ ?_
  ·
   refine (qbD cm dH (e:=52) (size:=8) (len:=1) (cs:=[.int .i64 aj,.int .i64 ak,.int .i64 al,.int .i64 am,.int .i64 ag,.int .i64 ao,.int .i64 aa,.slice ap ab.length ar]) (d:=67) kz kz fun fG li lj jk jl bB dI fH=>?_)
   have fI:=TT.ofW bB dI
   refine ⟨fun _=>fI,?_⟩
   refine qaA (i:=7) kz (qbD dI fH (e:=26) (size:=5) (len:=1) (cs:=[.int .i64 bI,.slice cY bJ.length cZ,.bool bK,.slice c5 bL.length c6,.slice da bM.length db]) (d:=73) kz kz fun fJ lm ln jm jn cz ay fK=>?_)
   have dJ:=TT.ofW (bB.trans cz) ay
   refine ⟨fun _=>dJ,?_⟩
   refine qaG [8] [(0,.v (.slice A l.length c)),(1,.v (.int .i64 v)),(2,.v (.bool flex)),(8,.p 0 0),(9,.p 1 0),(23,.v (.slice A l.length c)),(24,.v (.int .i64 ((l.length:Nat):Int))),(25,.v (.int .i64 ((k:Nat):Int))),(67,.v (.slice (some ⟨fG,0,none⟩) 1 1)),(74,.v (.agg #[.int .i64 0,.slice none 0 0,.bool false,.slice (some ⟨fJ,0,none⟩) 1 1,.slice none 0 0]))] 2 (qaa (qac (qaa (qaa (qac (qaa qag)))))) (fun _ h=>h.cells) dJ fK fun lp fL=>?_
   refine qaA (i:=9) kz (qaj fL (f:=80) (vs:=[.slice (some ⟨fG,0,none⟩) 1 1,.agg #[.int .i64 0,.slice none 0 0,.bool false,.slice (some ⟨fJ,0,none⟩) 1 1,.slice none 0 0]]) (d:=75) kz Tryz.call80 ( sUs hU _ _ [(Fld.mk aj ak al am ag ao aa ab)] _ (.mk 0 [] false [(Tree.mk bI bJ bK bL bM)] []) _ _ (qhB (ay.own 0 _ rfl) ((bu.move ay.step nilM ay.imm)) (Nat.le_refl _)) (qhC (ay.own 1 _ rfl) ((bA.move ay.step nilM ay.imm)) (Nat.le_refl _)) (qku ((hP.2.1 k _ _ bP cu).2 ‹_›))) ?_)
   rintro e_ lq ⟨rfl,dK⟩
   refine ⟨_,rfl,fun lr fM=>?_⟩
   have cA:=ay.next_nil dK
   have dL:=ay.frN dK
   have dM:=TT.ofW ((bB.trans cz).trans dL) cA
   refine ⟨fun _=>dM,?_⟩
   refine qaG [10] [(0,.v (.slice A l.length c)),(1,.v (.int .i64 v)),(2,.v (.bool flex)),(8,.p 0 0),(9,.p 1 0),(23,.v (.slice A l.length c)),(24,.v (.int .i64 ((l.length:Nat):Int))),(25,.v (.int .i64 ((k:Nat):Int))),(76,.v (.bool false))] 0 (qaa (qac (qaa (qaa (qac (qaa qag)))))) (fun _ h=>h.cells) dM fM fun ls dN=>?_
   refine qaE kz ?_ _
   refine qab ?_
   refine qao dN (b:=false) kz rfl ?_
   refine wp_skip ?_
   refine qaq ?_
   refine qab ?_
   refine qap [0,1] kz ?_
   refine qai [0,1] [] [(0,.v (.slice A l.length c)),(1,.v (.int .i64 v)),(2,.v (.bool flex)),(8,.p 0 0),(9,.p 1 0),(23,.v (.slice A l.length c)),(24,.v (.int .i64 ((l.length:Nat):Int))),(25,.v (.int .i64 (IntKind.i64.wrap (((k:Nat):Int) + 1))))] cA dN fun lu fN=>?_
   refine qaf (qab ?_)
   obtain ⟨dO,fO,fP⟩:=cA.cutB fN 2 [⟨df,0,[.int .i64 n1,.slice A6 s2.length c7,.bool b3,.slice A8 l4.length c9,.slice bE u5.length bF],true⟩,⟨dg,0,[.int .i64 cO,.slice cR cP.length cS,.bool cQ,.slice bG aF.length bN,.slice bH aB.length bO],true⟩] [(0,.v (.slice A l.length c)),(1,.v (.int .i64 v)),(2,.v (.bool flex)),(8,.p 0 0),(9,.p 1 0),(23,.v (.slice A l.length c)),(24,.v (.int .i64 ((l.length:Nat):Int))),(25,.v (.int .i64 (IntKind.i64.wrap (((k:Nat):Int) + 1))))]
   obtain ⟨fQ,fR⟩:=fO.cutR 0 []
   have fS:IntKind.i64.wrap (((k:Nat):Int) + 1) = ((k + 1:Nat):Int):=qaM (by omega)
   rw [fS] at dO
   exact ⟨l.length - (k + 1),by omega,k + 1,rfl,by omega,dO.pk,fQ,((((((((((((ef.trans bR).trans bS).trans bU).trans aw).trans ax).trans bf).trans dG).trans bB).trans cz).trans dL).trans fP).trans fR)⟩
  refine (qbD cm dH (e:=26) (size:=5) (len:=1) (cs:=[.int .i64 bI,.slice cY bJ.length cZ,.bool bK,.slice c5 bL.length c6,.slice da bM.length db]) (d:=73) kz kz fun fT lv lw jo jp bC dP fU=>?_)
  have dQ:=TT.ofW bC dP
  refine ⟨fun _=>dQ,?_⟩
  refine qaG [8] [(0,.v (.slice A l.length c)),(1,.v (.int .i64 v)),(2,.v (.bool flex)),(8,.p 0 0),(9,.p 1 0),(23,.v (.slice A l.length c)),(24,.v (.int .i64 ((l.length:Nat):Int))),(25,.v (.int .i64 ((k:Nat):Int))),(66,.v (.agg #[.int .i64 aj,.int .i64 ak,.int .i64 al,.int .i64 am,.int .i64 ag,.int .i64 ao,.int .i64 aa,.slice ap ab.length ar])),(74,.v (.agg #[.int .i64 0,.slice none 0 0,.bool false,.slice (some ⟨fT,0,none⟩) 1 1,.slice none 0 0]))] 3 (qaa (qac (qaa (qaa (qac (qaa qag)))))) (fun _ h=>h.cells) dQ fU fun lx fV=>?_
  refine qaA (i:=1) kz (qbD dP fV (e:=52) (size:=8) (len:=1) (cs:=[.int .i64 aj,.int .i64 ak,.int .i64 al,.int .i64 am,.int .i64 ag,.int .i64 ao,.int .i64 aa,.slice ap ab.length ar]) (d:=67) kz kz fun iH ly lz jq jr cB az fW=>?_)
  have fX:=TT.ofW (bC.trans cB) az
  refine ⟨fun _=>fX,?_⟩
  refine qaA (i:=9) kz (qaj fW (f:=80) (vs:=[.slice (some ⟨iH,0,none⟩) 1 1,.agg #[.int .i64 0,.slice none 0 0,.bool false,.slice (some ⟨fT,0,none⟩) 1 1,.slice none 0 0]]) (d:=75) kz Tryz.call80 ( sUs hU _ _ [(Fld.mk aj ak al am ag ao aa ab)] _ (.mk 0 [] false [(Tree.mk bI bJ bK bL bM)] []) _ _ (qhB (az.own 1 _ rfl) ((bu.move az.step nilM az.imm)) (Nat.le_refl _)) (qhC (az.own 0 _ rfl) ((bA.move az.step nilM az.imm)) (Nat.le_refl _)) (qku ((hP.2.1 k _ _ bP cu).2 ‹_›))) ?_)
  rintro e_ lA ⟨rfl,dR⟩
  refine ⟨_,rfl,fun lB fY=>?_⟩
  have cC:=az.next_nil dR
  have dS:=az.frN dR
  have dT:=TT.ofW ((bC.trans cB).trans dS) cC
  refine ⟨fun _=>dT,?_⟩
  refine qaG [10] [(0,.v (.slice A l.length c)),(1,.v (.int .i64 v)),(2,.v (.bool flex)),(8,.p 0 0),(9,.p 1 0),(23,.v (.slice A l.length c)),(24,.v (.int .i64 ((l.length:Nat):Int))),(25,.v (.int .i64 ((k:Nat):Int))),(76,.v (.bool false))] 0 (qaa (qac (qaa (qaa (qac (qaa qag)))))) (fun _ h=>h.cells) dT fY fun lC dU=>?_
  refine qaE kz ?_ _
  refine qab ?_
  refine qao dU (b:=false) kz rfl ?_
  refine wp_skip ?_
  refine qaq ?_
  refine qab ?_
  refine qap [0,1] kz ?_
  refine qai [0,1] [] [(0,.v (.slice A l.length c)),(1,.v (.int .i64 v)),(2,.v (.bool flex)),(8,.p 0 0),(9,.p 1 0),(23,.v (.slice A l.length c)),(24,.v (.int .i64 ((l.length:Nat):Int))),(25,.v (.int .i64 (IntKind.i64.wrap (((k:Nat):Int) + 1))))] cC dU fun lD fZ=>?_
  refine qaf (qab ?_)
  obtain ⟨dV,f5,f8⟩:=cC.cutB fZ 2 [⟨df,0,[.int .i64 n1,.slice A6 s2.length c7,.bool b3,.slice A8 l4.length c9,.slice bE u5.length bF],true⟩,⟨dg,0,[.int .i64 cO,.slice cR cP.length cS,.bool cQ,.slice bG aF.length bN,.slice bH aB.length bO],true⟩] [(0,.v (.slice A l.length c)),(1,.v (.int .i64 v)),(2,.v (.bool flex)),(8,.p 0 0),(9,.p 1 0),(23,.v (.slice A l.length c)),(24,.v (.int .i64 ((l.length:Nat):Int))),(25,.v (.int .i64 (IntKind.i64.wrap (((k:Nat):Int) + 1))))]
  obtain ⟨f9,ga⟩:=f5.cutR 0 []
  have gb:IntKind.i64.wrap (((k:Nat):Int) + 1) = ((k + 1:Nat):Int):=qaM (by omega)
  rw [gb] at dV
  exact ⟨l.length - (k + 1),by omega,k + 1,rfl,by omega,dV.pk,f9,((((((((((((ef.trans bR).trans bS).trans bU).trans aw).trans ax).trans bf).trans dG).trans bC).trans cB).trans dS).trans f8).trans ga)⟩
 have js:=of_decide_eq_false eh
 refine wp_exit ?_
 refine qaB ?_
 refine qaB ?_
 refine qaL ?_
 refine qab ?_
 refine qae [0,1,2,3,4] kz ?_
 refine qai [0,1,2] [3,4] [(2,.v (.bool flex)),(9,.p 1 0),(78,.v (.slice A l.length c)),(80,.v (.slice bE u5.length bF))] av eg fun lE gc=>?_
 refine qak (qaj gc (f:=81) (vs:=[.slice A l.length c,.slice bE u5.length bF]) (d:=81) kz Tryz.call81 (qfQ _ _ l _ _ u5 _ _ ⟨xfs,(h1.move av.step nilM av.imm),(fun i_ x_ h_=>((h2 i_ x_ h_).move av.step nilM av.imm))⟩ (jP.move av.step nilM av.imm)) ?_)
 rintro e_ lF ⟨ah,ai,rfl,gd,cD⟩
 have ge:=gd.move (Step.refl _ Nil) nilM (av.laid (G:=F) cD)
 refine ⟨_,rfl,fun lG gg=>?_⟩
 have ae:=av.next_nil cD
 have jt:=av.frN cD
 refine qai [4] [] [(2,.v (.bool flex)),(9,.p 1 0),(14,.v (.slice ah ((qah l u5).length) ai))] ae gg fun lH gh=>?_
 refine qaf (qab ?_)
 refine wp_seq ?_
 refine qan [(9,.p 1 0),(14,.v (.slice ah ((qah l u5).length) ai)),(83,.v (.bool (!flex)))] ae gh fun lI cE=>?_
 refine qas cE (b:=!flex) kz (fun gi=>?_) (fun gi=>?_)
 ·
  refine qap [0] kz ?_
  refine qai [0] [] [(9,.p 1 0),(14,.v (.slice none 0 0))] ae cE fun lJ gj=>?_
  refine qaf (qab ?_)
  refine wp_seq ?_
  refine qan [(9,.p 1 0),(14,.v (.slice none 0 0)),(89,.v (.bool (((aB.length:Nat):Int) != 0)))] ae gj fun lK cG=>?_
  refine qas cG (b:=((aB.length:Nat):Int) != 0) kz (fun cH=>?_) (fun cH=>?_)
  ·
   have ju:((aB.length:Nat):Int) ≠ 0:=by simpa using cH
   refine qan [(10,.v (.bool false))] ae cG fun lL gk=>?_
   refine wp_ret ?_
   refine qam ?_
   refine qaF gk ae.cells (v:=.bool false) kz ?_
   first
    | (exfalso; omega)
    | exact (qea hgu ‹_› ‹_›).elim
    | exact (qdf hgu ‹_› ‹_›).elim
    | exact (qeb hgu ‹_› ‹_› ‹_› ‹_›).elim
    | exact (qec hgu ‹_› ‹_› ‹_› ‹_›).elim
    | (exfalso; simp_all; done)
  have jv:((aB.length:Nat):Int) = 0:=by simpa using cH
  refine wp_skip ?_
  refine qab ?_
  refine wp_seq ?_
  refine qan [(9,.p 1 0),(90,.v (.slice none 0 0)),(91,.v (.int .i64 0)),(92,.v (.int .i64 0))] ae cG fun lM gl=>?_
  refine wp_block ?_
  refine wp_loop_ghost (fun n_ a_ w_=>∃ (k:Nat),n_ = 0 - k ∧ k ≤ 0 ∧ LInv ae 120 [⟨df,0,[.int .i64 n1,.slice A6 s2.length c7,.bool b3,.slice A8 l4.length c9,.slice bE u5.length bF],true⟩,⟨dg,0,[.int .i64 cO,.slice cR cP.length cS,.bool cQ,.slice bG aF.length bN,.slice bH aB.length bO],true⟩] [] [(9,.p 1 0),(90,.v (.slice none 0 0)),(91,.v (.int .i64 0)),(92,.v (.int .i64 ((k:Nat):Int)))] a_ w_) (0) ⟨0,by omega,by omega,gl.pk,ae,Fr.refl _ _ _⟩ ?_
  rintro lN lO lP ⟨k,jw,jx,gm,bD,jy⟩
  refine qan [(9,.p 1 0),(90,.v (.slice none 0 0)),(91,.v (.int .i64 0)),(92,.v (.int .i64 ((k:Nat):Int))),(93,.v (.bool (decide (((k:Nat):Int) < 0))))] bD gm fun lQ dW=>?_
  refine wp_seq ?_
  refine qao dW (b:=decide (((k:Nat):Int) < 0)) kz (decide_eq_false (by omega)) ?_
  refine wp_exit ?_
  refine qaB ?_
  refine qaB ?_
  refine qaL ?_
  refine qab ?_
  refine qan [(10,.v (.bool true))] bD dW fun lR gn=>?_
  refine wp_ret ?_
  refine qaF gn bD.cells (v:=.bool true) kz ?_
  exact ⟨rfl,bD.step⟩
 refine wp_skip ?_
 refine qab ?_
 refine wp_seq ?_
 refine qan [(9,.p 1 0),(14,.v (.slice ah ((qah l u5).length) ai)),(89,.v (.bool (((aB.length:Nat):Int) != (((qah l u5).length:Nat):Int))))] ae cE fun lS cI=>?_
 refine qas cI (b:=((aB.length:Nat):Int) != (((qah l u5).length:Nat):Int)) kz (fun cJ=>?_) (fun cJ=>?_)
 ·
  have jz:((aB.length:Nat):Int) ≠ (((qah l u5).length:Nat):Int):=by simpa using cJ
  refine qan [(10,.v (.bool false))] ae cI fun lT gp=>?_
  refine wp_ret ?_
  refine qam ?_
  refine qaF gp ae.cells (v:=.bool false) kz ?_
  first
   | (exfalso; omega)
   | exact (qea hgu ‹_› ‹_›).elim
   | exact (qdf hgu ‹_› ‹_›).elim
   | exact (qeb hgu ‹_› ‹_› ‹_› ‹_›).elim
   | exact (qec hgu ‹_› ‹_› ‹_› ‹_›).elim
   | (exfalso; simp_all; done)
 have jA:((aB.length:Nat):Int) = (((qah l u5).length:Nat):Int):=by simpa using cJ
 refine wp_skip ?_
 refine qab ?_
 refine wp_seq ?_
 refine qan [(9,.p 1 0),(90,.v (.slice ah ((qah l u5).length) ai)),(91,.v (.int .i64 (((qah l u5).length:Nat):Int))),(92,.v (.int .i64 0))] ae cI fun lU gq=>?_
 refine wp_block ?_
 obtain ⟨jB,gt,iI⟩:=ge.ex
 have iJ:=gt.small
 refine wp_loop_ghost (fun n_ a_ w_=>∃ (k:Nat),n_ = (qah l u5).length - k ∧ k ≤ (qah l u5).length ∧ LInv ae 120 [⟨df,0,[.int .i64 n1,.slice A6 s2.length c7,.bool b3,.slice A8 l4.length c9,.slice bE u5.length bF],true⟩,⟨dg,0,[.int .i64 cO,.slice cR cP.length cS,.bool cQ,.slice bG aF.length bN,.slice bH aB.length bO],true⟩] [] [(9,.p 1 0),(90,.v (.slice ah ((qah l u5).length) ai)),(91,.v (.int .i64 (((qah l u5).length:Nat):Int))),(92,.v (.int .i64 ((k:Nat):Int)))] a_ w_) ((qah l u5).length) ⟨0,by omega,by omega,gq.pk,ae,Fr.refl _ _ _⟩ ?_
 rintro lV lW lX ⟨k,jC,jD,gv,aI,aD⟩
 refine qan [(9,.p 1 0),(90,.v (.slice ah ((qah l u5).length) ai)),(91,.v (.int .i64 (((qah l u5).length:Nat):Int))),(92,.v (.int .i64 ((k:Nat):Int))),(93,.v (.bool (decide (((k:Nat):Int) < (((qah l u5).length:Nat):Int)))))] aI gv fun lY cK=>?_
 refine wp_seq ?_
 refine qas cK (b:=decide (((k:Nat):Int) < (((qah l u5).length:Nat):Int))) kz (fun cL=>?_) (fun cL=>?_)
 ·
  have jE:=of_decide_eq_true cL
  refine wp_skip ?_
  refine qab ?_
  refine wp_seq ?_
  refine wp_block ?_
  refine qae [0,1,2,3,4,5] kz ?_
  refine qai [0] [1,2,3,4,5] [(9,.p 1 0),(90,.v (.slice ah ((qah l u5).length) ai)),(91,.v (.int .i64 (((qah l u5).length:Nat):Int))),(92,.v (.int .i64 ((k:Nat):Int))),(94,.v (.int .i64 ((k:Nat):Int)))] aI cK fun lZ gw=>?_
  obtain ⟨iK,iL,gx,jF,cM⟩:=Slots.get gt (i:=k) (by first | omega | (have h_:=qb6 hgu ‹_›; omega))
  obtain ⟨⟨aE,aA⟩,gy⟩:∃ x,(qah l u5)[k]? = some x:=⟨_,List.getElem?_eq_getElem (by omega)⟩
  obtain ⟨⟨bg,bh,eu,dX⟩,l0,l3⟩:=iI k aE aA gy
  rw [eu] at cM
  refine qak (qaC gw (t:=24) (A:=ah) (m:=((qah l u5).length)) (q:=((k:Nat):Int)) (d:=95) kz (e:=65) (size:=2) (bytes:=32) kz gx rfl (by first | omega | (have h_:=qb6 hgu ‹_›; omega)) fun l5 gz=>?_)
  refine qak (qaJ gz (t:=65) (b:=iK) (o:=iL + k * 2) (d:=96) kz (cs:=[.int .u32 aE,.slice bg aA.length bh]) (v:=.agg #[.int .u32 aE,.slice bg aA.length bh]) kz (AtF.move cM aD.step immM aD.to').at_ fun l6 gA=>?_)
  refine qak (qaK aI gA (d:=16) (cs:=[.int .u32 0,.slice none 0 0]) kz fun l7 l9 ma jG jH bi dY gB=>?_)
  refine qai [4] [5] [(9,.p 1 0),(15,.v (.int .i64 ((k:Nat):Int))),(16,.p 2 0),(90,.v (.slice ah ((qah l u5).length) ai)),(91,.v (.int .i64 (((qah l u5).length:Nat):Int))),(92,.v (.int .i64 ((k:Nat):Int))),(96,.v (.agg #[.int .u32 aE,.slice bg aA.length bh]))] dY gB fun mc gC=>?_
  refine qak (qav dY gC (oi:=2) (cs:=[.int .u32 aE,.slice bg aA.length bh]) kz fun md bj gD gE=>?_)
  refine qaf (qab ?_)
  refine qaI 22 kz gD fun me bk aJ au=>?_
  refine qaG [0,1,2,6,7] [(9,.p 1 0),(15,.v (.int .i64 ((k:Nat):Int))),(16,.p 2 0),(90,.v (.slice ah ((qah l u5).length) ai)),(91,.v (.int .i64 (((qah l u5).length:Nat):Int))),(92,.v (.int .i64 ((k:Nat):Int))),(98,.v (.slice bH aB.length bO)),(99,.v (.int .i64 ((k:Nat):Int))),(104,.v (.int .u32 aE))] 17 (qaa (qac (qaa (qaa (qac (qaa qag)))))) (fun _ h=>h.cells) au gE fun mf gF=>?_
  obtain ⟨dc,de,dZ,jI,bw⟩:=Slots.get iS (i:=k) (by first | omega | (have h_:=qb6 hgu ‹_›; omega))
  obtain ⟨⟨bx,bz⟩,gG⟩:∃ x,aB[k]? = some x:=⟨_,List.getElem?_eq_getElem (by omega)⟩
  obtain ⟨⟨ev,ew,ey,gH⟩,mg,mh⟩:=jU k bx bz gG
  rw [ey] at bw
  refine qaN gF (i:=3) (t:=24) (A:=bH) (m:=aB.length) (q:=((k:Nat):Int)) (d:=100) kz (e:=65) (size:=2) (bytes:=32) kz dZ rfl (by first | omega | (have h_:=qb6 hgu ‹_›; omega)) kz kz (qaa (qac (qaa (qaa (qac (qaa qag)))))) au fun mi gI=>?_
  refine qaG [4] [(9,.p 1 0),(15,.v (.int .i64 ((k:Nat):Int))),(16,.p 2 0),(90,.v (.slice ah ((qah l u5).length) ai)),(91,.v (.int .i64 (((qah l u5).length:Nat):Int))),(92,.v (.int .i64 ((k:Nat):Int))),(101,.v (.pointer (some ⟨dc,de + k * 2,none⟩))),(104,.v (.int .u32 aE))] 15 (qaa (qac (qaa (qaa (qac (qaa qag)))))) (fun _ h=>h.cells) au gI fun mj gJ=>?_
  refine qaX gJ (i:=5) (t:=62) (b:=dc) (o:=de + k * 2) (d:=102) kz (cs:=[.int .u32 bx]) (v:=.int .u32 bx) kz (fun w' h'=>(At.drop (AtF.move bw (TT.step0 aJ h') nilM qaY).at_ 0 1)) kz kz (qaa (qac (qaa (qaa (qac (qaa qag)))))) au fun ml gK=>?_
  refine qaG [8,9] [(9,.p 1 0),(15,.v (.int .i64 ((k:Nat):Int))),(16,.p 2 0),(90,.v (.slice ah ((qah l u5).length) ai)),(91,.v (.int .i64 (((qah l u5).length:Nat):Int))),(92,.v (.int .i64 ((k:Nat):Int))),(106,.v (.bool (bx != aE)))] 12 (qaa (qac (qaa (qaa (qac (qaa qag)))))) (fun _ h=>h.cells) au gK fun mn d5=>?_
  refine (Bool.eq_false_or_eq_true (bx != aE)).elim (fun bn=>?_) (fun bn=>?_)
  ·
   have jJ:bx ≠ aE:=by simpa using bn
   have gL:=d5.cast (env':=[(9,.p 1 0),(15,.v (.int .i64 ((k:Nat):Int))),(16,.p 2 0),(90,.v (.slice ah ((qah l u5).length) ai)),(91,.v (.int .i64 (((qah l u5).length:Nat):Int))),(92,.v (.int .i64 ((k:Nat):Int))),(106,.v (.bool true))]) (by rw [bn])
   refine qaG [10,11,12,13,14,15,16,17,18,19,20,21] [(9,.p 1 0),(90,.v (.slice ah ((qah l u5).length) ai)),(91,.v (.int .i64 (((qah l u5).length:Nat):Int))),(92,.v (.int .i64 ((k:Nat):Int))),(118,.v (.bool true))] 0 (qaa (qac (qaa (qaa (qac (qaa qag)))))) (fun _ h=>h.cells) au gL fun mo d6=>?_
   refine qaE kz ?_ _
   refine qab ?_
   refine qaW d6 (b:=true) kz rfl ?_
   refine qan [(10,.v (.bool false))] aJ d6 fun mp gM=>?_
   refine wp_ret ?_
   refine qaw ?_
   refine qam ?_
   refine qam ?_
   refine qaw ?_
   refine qam ?_
   refine qaF gM aJ.cells (v:=.bool false) kz ?_
   first
    | (exfalso; omega)
    | exact (qea hgu ‹_› ‹_›).elim
    | exact (qdf hgu ‹_› ‹_›).elim
    | exact (qeb hgu ‹_› ‹_› ‹_› ‹_›).elim
    | exact (qec hgu ‹_› ‹_› ‹_› ‹_›).elim
    | (exfalso; simp_all; done)
  have jK:bx = aE:=by simpa using bn
  have gN:=d5.cast (env':=[(9,.p 1 0),(15,.v (.int .i64 ((k:Nat):Int))),(16,.p 2 0),(90,.v (.slice ah ((qah l u5).length) ai)),(91,.v (.int .i64 (((qah l u5).length:Nat):Int))),(92,.v (.int .i64 ((k:Nat):Int))),(106,.v (.bool false))]) (by rw [bn])
  refine qaG [10,11,12,16,17] [(9,.p 1 0),(90,.v (.slice ah ((qah l u5).length) ai)),(91,.v (.int .i64 (((qah l u5).length:Nat):Int))),(92,.v (.int .i64 ((k:Nat):Int))),(106,.v (.bool false)),(108,.v (.slice bH aB.length bO)),(109,.v (.int .i64 ((k:Nat):Int))),(114,.v (.slice bg aA.length bh))] 7 (qaa (qac (qaa (qaa (qac (qaa qag)))))) (fun _ h=>h.cells) au gN fun mq gO=>?_
  refine qaN gO (i:=13) (t:=24) (A:=bH) (m:=aB.length) (q:=((k:Nat):Int)) (d:=110) kz (e:=65) (size:=2) (bytes:=32) kz dZ rfl (by first | omega | (have h_:=qb6 hgu ‹_›; omega)) kz kz (qaa (qac (qaa (qaa (qac (qaa qag)))))) au fun mr gP=>?_
  refine qaG [14] [(9,.p 1 0),(90,.v (.slice ah ((qah l u5).length) ai)),(91,.v (.int .i64 (((qah l u5).length:Nat):Int))),(92,.v (.int .i64 ((k:Nat):Int))),(106,.v (.bool false)),(111,.v (.pointer (some ⟨dc,de + k * 2 + 1,none⟩))),(114,.v (.slice bg aA.length bh))] 5 (qaa (qac (qaa (qaa (qac (qaa qag)))))) (fun _ h=>h.cells) au gP fun mt gQ=>?_
  refine qaX gQ (i:=15) (t:=22) (b:=dc) (o:=de + k * 2 + 1) (d:=112) kz (cs:=[.slice ev bz.length ew]) (v:=.slice ev bz.length ew) kz (fun w' h'=>(At.drop (AtF.move bw (TT.step0 aJ h') nilM qaY).at_ 1 1)) kz kz (qaa (qac (qaa (qaa (qac (qaa qag)))))) au fun mu gR=>?_
  have iM:=qa6 aA
  refine qaA (i:=18) kz (qaj gR (f:=83) (vs:=[.slice bg aA.length bh]) (d:=115) kz Tryz.call83 (qdc _ _ aA (dX.move (((aD.trans bi).trans bj).trans bk).step immM (((aD.trans bi).trans bj).trans bk).to').le _) ?_)
  rintro e_ mw ⟨rfl,d7⟩
  refine ⟨_,rfl,fun mx gS=>?_⟩
  have bo:=aJ.next_nil d7
  have bp:=aJ.frN d7
  have gT:=TT.ofW bp bo
  refine ⟨fun _=>gT,?_⟩
  refine qaA (i:=19) kz (qaj gS (f:=82) (vs:=[.slice ev bz.length ew,.slice bg ((qaD aA).length) bh]) (d:=116) kz Tryz.call82 (qdM _ _ _ _ bz (qaD aA) _ _ ((gH.move bo.step nilM bo.imm).move (Step.refl _ Nil) nilM allF) (((dX.take 32767).move ((((aD.trans bi).trans bj).trans bk).trans bp).step immM ((((aD.trans bi).trans bj).trans bk).trans bp).to').move (Step.refl _ Nil) nilM allF)) ?_)
  rintro e_ my ⟨rfl,d8⟩
  refine ⟨_,rfl,fun mz gU=>?_⟩
  have bq:=bo.next_nil d8
  have d9:=bo.frN d8
  have ea:=TT.ofW (bp.trans d9) bq
  refine ⟨fun _=>ea,?_⟩
  refine qaG [20,21] [(9,.p 1 0),(90,.v (.slice ah ((qah l u5).length) ai)),(91,.v (.int .i64 (((qah l u5).length:Nat):Int))),(92,.v (.int .i64 ((k:Nat):Int))),(118,.v (.bool (!(decide (bz = (qaD aA))))))] 0 (qaa (qac (qaa (qaa (qac (qaa qag)))))) (fun _ h=>h.cells) ea gU fun mA cN=>?_
  refine qaE kz ?_ _
  refine qab ?_
  refine qas cN (b:=!(decide (bz = (qaD aA)))) kz (fun gV=>?_) (fun gV=>?_)
  ·
   refine qan [(10,.v (.bool false))] bq cN fun mB gW=>?_
   refine wp_ret ?_
   refine qaw ?_
   refine qam ?_
   refine qam ?_
   refine qaw ?_
   refine qam ?_
   refine qaF gW bq.cells (v:=.bool false) kz ?_
   first
    | (exfalso; omega)
    | exact (qea hgu ‹_› ‹_›).elim
    | exact (qdf hgu ‹_› ‹_›).elim
    | exact (qeb hgu ‹_› ‹_› ‹_› ‹_›).elim
    | exact (qec hgu ‹_› ‹_› ‹_› ‹_›).elim
    | (exfalso; simp_all; done)
  refine wp_skip ?_
  refine qaq ?_
  refine qab ?_
  refine qap [0,1] kz ?_
  refine qai [0,1] [] [(9,.p 1 0),(90,.v (.slice ah ((qah l u5).length) ai)),(91,.v (.int .i64 (((qah l u5).length:Nat):Int))),(92,.v (.int .i64 (IntKind.i64.wrap (((k:Nat):Int) + 1))))] bq cN fun mC gX=>?_
  refine qaf (qab ?_)
  obtain ⟨eb,gY,gZ⟩:=bq.cutB gX 2 [⟨df,0,[.int .i64 n1,.slice A6 s2.length c7,.bool b3,.slice A8 l4.length c9,.slice bE u5.length bF],true⟩,⟨dg,0,[.int .i64 cO,.slice cR cP.length cS,.bool cQ,.slice bG aF.length bN,.slice bH aB.length bO],true⟩] [(9,.p 1 0),(90,.v (.slice ah ((qah l u5).length) ai)),(91,.v (.int .i64 (((qah l u5).length:Nat):Int))),(92,.v (.int .i64 (IntKind.i64.wrap (((k:Nat):Int) + 1))))]
  have g6:IntKind.i64.wrap (((k:Nat):Int) + 1) = ((k + 1:Nat):Int):=qaM (by omega)
  rw [g6] at eb
  exact ⟨(qah l u5).length - (k + 1),by omega,k + 1,rfl,by omega,eb.pk,gY,((((((aD.trans bi).trans bj).trans bk).trans bp).trans d9).trans gZ)⟩
 have jL:=of_decide_eq_false cL
 refine wp_exit ?_
 refine qaB ?_
 refine qaB ?_
 refine qaL ?_
 refine qab ?_
 refine qan [(10,.v (.bool true))] aI cK fun mD g7=>?_
 refine wp_ret ?_
 refine qaF g7 aI.cells (v:=.bool true) kz ?_
 exact ⟨rfl,aI.step⟩
theorem qkA (v:Int) (flex:Bool):∀ d,ToOK v flex (qju v flex d)
 | 0=>qkz (fun _ _ _ _ _ _ _ _ _ _ _ _ _ h=>h.elim) (fun _ _ _ _ _ _ _ _ _ h=>h.elim)
 | d + 1=>qkz (qkA v flex d) (qjA d)
theorem qeF (w:World):Calls Tryz.prog 27 #[] w (qbX w (.int .i64 13)):=by
 refine enter (n:=4) Tryz.func27 rfl Tryz.ntmps27 kz fun a hE=>?_
 have hW:=WOk.start w Nil
 refine qan [] hW hE fun a1 hE2=>?_
 refine qae [0,1,2,3] kz ?_
 refine qak (qbF hE2 (f:=71) (vs:=[]) (d:=1) (n':=3) kz Tryz.call71 Tryz.func71 rfl Tryz.ntmps71 kz fun a3 hE4=>?_)
 refine qan [] hW hE4 fun a5 hE6=>?_
 refine qae [0] kz ?_
 refine qak (qaK hW hE6 (d:=1) (cs:=[.int .i16 0,.slice none 0 0,.bool false,.bool false,.bool false,.map none]) kz fun b7 a8 w9 ax ay az aa ab=>?_)
 refine qaf (qab ?_)
 refine qae [0] kz ?_
 refine qak (qbF ab (f:=120) (vs:=[.pointer (some ⟨b7,0,none⟩)]) (d:=2) (n':=2) kz Tryz.call120 Tryz.func120 rfl Tryz.ntmps120 kz fun aA ac=>?_)
 have ae:=ac.recast 0 (.v (.pointer (some ⟨b7,0,none⟩))) (.p 0 0) rfl rfl (Nat.le_of_ble_eq_true (n:=1) rfl)
 refine wp_skip ?_
 refine qbK ae aa.cells (v:=.tuple #[]) kz ?_
 refine ⟨_,rfl,fun aB af=>?_⟩
 have ag:EnvOk 3 [⟨b7,0,[.int .i16 0,.slice none 0 0,.bool false,.bool false,.bool false,.map none],true⟩] [(2,.v (.tuple #[])),(1,.p 0 0)] _:=af.places (⟨rfl,rfl,trivial⟩)
 refine qaf (qab ?_)
 refine qan [(0,.p 0 0)] aa ag fun aC ah=>?_
 refine wp_ret ?_
 refine qaF ah aa.cells (v:=.pointer (some ⟨b7,0,none⟩)) kz ?_
 refine ⟨_,rfl,fun aD ai=>?_⟩
 have aj:EnvOk 4 [⟨b7,0,[.int .i16 0,.slice none 0 0,.bool false,.bool false,.bool false,.map none],true⟩] [(1,.v (.pointer (some ⟨b7,0,none⟩)))] _:=ai.places (trivial)
 have ak:=aj.recast 1 (.v (.pointer (some ⟨b7,0,none⟩))) (.p 0 0) rfl rfl (Nat.le_of_ble_eq_true (n:=1) rfl)
 have al:=ak.pick (ks:=[1]) (env':=[(1,.p 0 0)]) kz
 refine qak (qbF al (f:=72) (vs:=[.pointer (some ⟨b7,0,none⟩)]) (d:=2) (n':=3) kz Tryz.call72 Tryz.func72 rfl Tryz.ntmps72 kz fun aE am=>?_)
 have ao:=am.recast 0 (.v (.pointer (some ⟨b7,0,none⟩))) (.p 0 0) rfl rfl (Nat.le_of_ble_eq_true (n:=1) rfl)
 refine qan [] aa ao fun aF ap=>?_
 refine qan [(2,.v (.int .i16 13))] aa ap fun aG ar=>?_
 refine wp_ret ?_
 refine qaF ar aa.cells (v:=.int .i16 13) kz ?_
 refine ⟨_,rfl,fun aH au=>?_⟩
 have av:EnvOk 4 [⟨b7,0,[.int .i16 0,.slice none 0 0,.bool false,.bool false,.bool false,.map none],true⟩] [(2,.v (.int .i16 13)),(1,.p 0 0)] _:=au.places (⟨rfl,rfl,trivial⟩)
 refine qai [2,3] [] [(0,.v (.int .i64 13))] aa av fun aI aw=>?_
 refine qaf (qab ?_)
 refine wp_ret ?_
 refine qaF aw aa.cells (v:=.int .i64 13) kz ?_
 exact ⟨rfl,aa.step⟩
theorem qc3:depths sMetadataRequestF ≤ 8:=by simp [sMetadataRequestF,Fld.depth.depths,Fld.depth]
theorem qc4:plains sMetadataRequestF:=by simp [sMetadataRequestF,Fld.plain.plains,Fld.plain]
theorem qev (A:Option Addr) (c:Nat) (v:Int) (w:World):Calls Tryz.prog 31 #[.agg #[.slice A sMetadataRequestF.length c,.int .i64 qaz],.int .i64 v] w (qbX w (.bool (decide (v ≥ qaz)))):=by
 refine enter (n:=14) Tryz.func31 rfl Tryz.ntmps31 kz fun a hE=>?_
 have hW:=WOk.start w Nil
 refine qae [0,1] kz ?_
 refine qak (qa7 hW hE (d:=2) (cs:=[.slice A sMetadataRequestF.length c,.int .i64 qaz]) kz fun b1 a2 w3 hb4 hz5 hF6 hW7 hE8=>?_)
 refine qai [1] [] [(1,.v (.int .i64 v)),(2,.p 0 0)] hW7 hE8 fun a9 aa=>?_
 refine qaf (qab ?_)
 refine qae [0,1,2,3,4,5,6,7,8,9] kz ?_
 refine qai [0,1,2,3] [4,5,6,7,8,9] [(1,.v (.int .i64 v)),(2,.p 0 0),(8,.v (.bool (decide (qaz ≥ 0))))] hW7 aa fun ag ab=>?_
 have ac:(decide (qaz ≥ 0)) = true:=by decide
 have ae:=ab.cast (env':=[(1,.v (.int .i64 v)),(2,.p 0 0),(8,.v (.bool true))]) (by rw [ac])
 refine qai [4,5,6,7,8,9] [] [(4,.v (.bool (decide (v ≥ qaz))))] hW7 ae fun ah af=>?_
 refine qaf (qab ?_)
 refine wp_ret ?_
 refine qaF af hW7.cells (v:=.bool (decide (v ≥ qaz))) kz ?_
 exact ⟨rfl,hW7.step⟩
set_option maxHeartbeats 4000000 in
theorem qee (x:Int) (hx:0 ≤ x) (hx':x < 256) (ct:List Value) (t:Tree) (w:World) (F:Nat → Nat → Prop) (ht:TreeR w F ct t) (hroom1:(qcn 8 sMetadataRequestF qaz (Int.tmod x (13 + 1)) t).length + 16 ≤ 1099511627776) (hcan:qbg (fitT (Int.tmod x (13 + 1)) 8 sMetadataRequestF t)) (hkey:Tree.ranged (fitT (Int.tmod x (13 + 1)) 8 sMetadataRequestF t)) (hpure:qau (IntKind.i16.wrap (Int.tmod x (13 + 1))) (fitT (Int.tmod x (13 + 1)) 8 sMetadataRequestF t) = qcn 8 sMetadataRequestF qaz (Int.tmod x (13 + 1)) t) (hto:∀ D,qbh (IntKind.i16.wrap (Int.tmod x (13 + 1))) D (fitT (Int.tmod x (13 + 1)) 8 sMetadataRequestF t) → qju (Int.tmod x (13 + 1)) (decide ((Int.tmod x (13 + 1)) ≥ qaz)) 8 sMetadataRequestF t (qbi D)) :
  Calls Tryz.prog 7 #[.int .u8 x,.agg ct.toArray] w (qbX w (.bool true)):=by
 obtain ⟨n1,s2,b3,l4,u5,A6,c7,A8,c9,aO,aP,dc,rfl,rfl,de,df,dR,dS⟩:=ht.open_
 have cP:=de.small
 have cQ:=df.small
 refine enter (n:=42) Tryz.func7 rfl Tryz.ntmps7 kz fun a hE=>?_
 have hW:=WOk.start w Nil
 refine qae [0,1] kz ?_
 refine qak (qa7 hW hE (d:=3) (cs:=[.int .i64 n1,.slice A6 s2.length c7,.bool b3,.slice A8 l4.length c9,.slice aO u5.length aP]) kz fun dg dT dU dh di dj ar bJ=>?_)
 refine qai [1] [] [(0,.v (.int .u8 x)),(3,.p 0 0)] ar bJ fun dV bK=>?_
 refine qaf (qab ?_)
 refine wp_seq ?_
 refine qae [0,1,2] kz ?_
 refine qai [0] [1,2] [(0,.v (.int .u8 x)),(3,.p 0 0),(10,.v (.agg #[.int .i64 n1,.slice A6 s2.length c7,.bool b3,.slice A8 l4.length c9,.slice aO u5.length aP]))] ar bK fun dW bL=>?_
 refine qak (qaj bL (f:=10) (vs:=[.agg #[.int .i64 n1,.slice A6 s2.length c7,.bool b3,.slice A8 l4.length c9,.slice aO u5.length aP]]) (d:=11) kz Tryz.call10 (qlH _ _ _ _ (ht.move ar.step nilM ar.imm)) ?_)
 rintro e_ dX ⟨cR,rfl,bd⟩
 refine ⟨_,rfl,fun dY bM=>?_⟩
 have au:=ar.next_nil bd
 have dl:=ar.frN bd
 refine qai [2] [] [(0,.v (.int .u8 x)),(3,.p 0 0),(12,.v (.bool (!cR)))] au bM fun dZ aY=>?_
 refine qaf (qab ?_)
 refine qas aY (b:=!cR) kz (fun bN=>?_) (fun bN=>?_)
 ·
  refine qan [(4,.v (.bool true))] au aY fun d5 bO=>?_
  refine wp_ret ?_
  refine qam ?_
  refine qaF bO au.cells (v:=.bool true) kz ?_
  exact ⟨rfl,au.step⟩
 refine wp_skip ?_
 refine qab ?_
 refine qae [0,1] kz ?_
 refine qak (qaj aY (f:=27) (vs:=[]) (d:=13) kz Tryz.call27 (qeF _) ?_)
 rintro e_ dp ⟨rfl,bf⟩
 refine ⟨_,rfl,fun d6 bP=>?_⟩
 have av:=au.next_nil bf
 have dq:=au.frN bf
 refine qai [1] [] [(0,.v (.int .u8 x)),(3,.p 0 0),(5,.v (.int .i64 13))] av bP fun d7 bQ=>?_
 refine qaf (qab ?_)
 refine wp_seq ?_
 refine qan [(0,.v (.int .u8 x)),(3,.p 0 0),(5,.v (.int .i64 13)),(15,.v (.bool false))] av bQ fun d8 bg=>?_
 refine qao bg (b:=false) kz rfl ?_
 refine wp_skip ?_
 refine qab ?_
 refine qae [0,1,2,3,4,5,6] kz ?_
 refine qak (qaj bg (f:=28) (vs:=[]) (d:=16) kz Tryz.call28 (qeB _ (Imm F w dp [⟨dg,0,[.int .i64 n1,.slice A6 s2.length c7,.bool b3,.slice A8 l4.length c9,.slice aO u5.length aP],true⟩] [])) ?_)
 rintro e_ d9 ⟨aQ,aR,rfl,bR,aZ⟩
 obtain ⟨bh,cS,cT⟩:=bR.move (Step.refl _ Nil) nilM (av.laid (G:=F) aZ)
 refine ⟨_,rfl,fun ea bS=>?_⟩
 have ba:=av.next_nil aZ
 have dr:=av.frN aZ
 refine qai [1,2] [3,4,5,6] [(3,.p 0 0),(16,.v (.agg #[.slice aQ sMetadataRequestF.length aR,.int .i64 qaz])),(17,.v (.int .u8 x)),(18,.v (.int .i64 13))] ba bS fun eb bT=>?_
 refine qak (qaj bT (f:=13) (vs:=[.int .u8 x,.int .i64 13]) (d:=19) kz Tryz.call13 (qj6 x 13 hx hx' (by decide) (by decide) _) ?_)
 rintro e_ ec ⟨rfl,bi⟩
 refine ⟨_,rfl,fun ee bU=>?_⟩
 have bV:=ba.next_nil bi
 have ag:=ba.frN bi
 refine qak (qaK bV bU (d:=6) (cs:=[.slice none 0 0,.int .i64 0]) kz fun ef eg eh dt du ah bW bX=>?_)
 refine qak (qav bW bX (oi:=1) (cs:=[.slice aQ sMetadataRequestF.length aR,.int .i64 qaz]) kz fun ei ai aw bY=>?_)
 refine qai [6] [] [(3,.p 0 0),(6,.p 1 0),(7,.v (.int .i64 (Int.tmod x (13 + 1))))] aw bY fun ej bZ=>?_
 refine qaf (qab ?_)
 refine qae [0,1,2,3,4,5,6,7,8,9,10,11] kz ?_
 refine qai [0,1,2,3] [4,5,6,7,8,9,10,11] [(3,.p 0 0),(6,.p 1 0),(7,.v (.int .i64 (Int.tmod x (13 + 1)))),(21,.v (.int .i64 (Int.tmod x (13 + 1)))),(22,.v (.agg #[.slice aQ sMetadataRequestF.length aR,.int .i64 qaz])),(23,.v (.int .i64 (Int.tmod x (13 + 1)))),(24,.v (.agg #[.int .i64 n1,.slice A6 s2.length c7,.bool b3,.slice A8 l4.length c9,.slice aO u5.length aP]))] aw bZ fun ek b8=>?_
 refine qak (qaj b8 (f:=15) (vs:=[.agg #[.slice aQ sMetadataRequestF.length aR,.int .i64 qaz],.int .i64 (Int.tmod x (13 + 1)),.agg #[.int .i64 n1,.slice A6 s2.length c7,.bool b3,.slice A8 l4.length c9,.slice aO u5.length aP]]) (d:=25) kz Tryz.call15 (qlv _ _ sMetadataRequestF qaz (Int.tmod x (13 + 1)) _ (Tree.mk n1 s2 b3 l4 u5) _ _ ⟨bh,(cS.move ((ag.trans ah).trans ai).step immM ((ag.trans ah).trans ai).to'),(fun i_ x_ h_=>((cT i_ x_ h_).move ((ag.trans ah).trans ai).step immM ((ag.trans ah).trans ai).to'))⟩ qc3 (ht.move aw.step nilM aw.imm) (Nat.le_trans (Nat.le_add_right _ _) hroom1)) ?_)
 rintro e_ em ⟨cU,cV,rfl,cd,ce⟩
 refine ⟨_,rfl,fun eo cm=>?_⟩
 obtain ⟨ak,al⟩:=aw.frFresh ce (brow cU cV 5 (qcn 8 sMetadataRequestF qaz (Int.tmod x (13 + 1)) (Tree.mk n1 s2 b3 l4 u5))) (Nat.le_refl _) cd
 refine qak (qaj cm (f:=29) (vs:=[.int .i64 (Int.tmod x (13 + 1)),.slice cU ((qcn 8 sMetadataRequestF qaz (Int.tmod x (13 + 1)) (Tree.mk n1 s2 b3 l4 u5)).length) cV]) (d:=26) kz Tryz.call29 (qed (Int.tmod x (13 + 1)) _ (qcn 8 sMetadataRequestF qaz (Int.tmod x (13 + 1)) (Tree.mk n1 s2 b3 l4 u5)) hpure (qbU (ak.own 0 _ rfl) (by first | omega | (rw [qa3]; decide) | (simp only [be_length]; exact Nat.le_trans (qbl _) (by decide)) | (have:=hroom; omega) | (have:=hmade; omega) | (simp only [List.length_append,List.length_nil]; omega)) (F:=fun _ _=>True) (fun _ _ _=>trivial)) hcan hkey (by first | omega | (have:=hroom1; omega))) ?_)
 rintro e_ dv ⟨bj,cW,rfl,bk,bn,ax⟩
 have ay:=bk.move (Step.refl _ Nil) nilM (fun b_ o_ h_ hb_=>ak.laid (G:=F) ax b_ o_ (.inr (h_.resolve_left id)) hb_)
 obtain ⟨aD,aE,aF,aG,aH,aI,aJ,aK,aL,aM,aN,cX,cY,az,cq,cr,dw,dx⟩:=ay.open_
 rw [az] at ay
 have cu:=cq.small
 have cw:=cr.small
 rw [az]
 refine ⟨_,rfl,fun dy bo=>?_⟩
 have aS:=ak.next_nil ax
 have am:=ak.frN ax
 refine qai [6,7,8] [9,10,11] [(3,.p 0 0),(6,.p 1 0),(7,.v (.int .i64 (Int.tmod x (13 + 1)))),(27,.v (.agg #[.int .i64 aD,.slice aI aE.length aJ,.bool aF,.slice aK aG.length aL,.slice aM aH.length aN])),(28,.v (.bool true))] aS bo fun dz bp=>?_
 refine qak (qaK aS bp (d:=8) (cs:=[.int .i64 0,.slice none 0 0,.bool false,.slice none 0 0,.slice none 0 0]) kz fun dA dB dC cZ c5 ab bq bt=>?_)
 refine qak (qav bq bt (oi:=2) (cs:=[.int .i64 aD,.slice aI aE.length aJ,.bool aF,.slice aK aG.length aL,.slice aM aH.length aN]) kz fun dD ac aT bu=>?_)
 refine qai [11] [] [(3,.p 0 0),(6,.p 1 0),(7,.v (.int .i64 (Int.tmod x (13 + 1)))),(8,.p 2 0),(9,.v (.bool true))] aT bu fun dE bw=>?_
 refine qaf (qab ?_)
 refine qaI 13 kz aT fun dF ae aU bx=>?_
 refine qaG [0,1,2,3,4,5,6,8,9] [(30,.v (.bool true)),(32,.v (.slice aQ sMetadataRequestF.length aR)),(33,.v (.int .i64 (Int.tmod x (13 + 1)))),(34,.v (.agg #[.slice aQ sMetadataRequestF.length aR,.int .i64 qaz])),(35,.v (.int .i64 (Int.tmod x (13 + 1)))),(37,.v (.agg #[.int .i64 n1,.slice A6 s2.length c7,.bool b3,.slice A8 l4.length c9,.slice aO u5.length aP])),(38,.v (.agg #[.int .i64 aD,.slice aI aE.length aJ,.bool aF,.slice aK aG.length aL,.slice aM aH.length aN]))] 5 (qaa qag) (fun _ h=>h.cells) bx bw fun dG bz=>?_
 refine qaA (i:=7) kz (qaj bz (f:=31) (vs:=[.agg #[.slice aQ sMetadataRequestF.length aR,.int .i64 qaz],.int .i64 (Int.tmod x (13 + 1))]) (d:=36) kz Tryz.call31 (qev _ _ _ _) ?_)
 rintro e_ dH ⟨rfl,aV⟩
 refine ⟨_,rfl,fun dI bA=>?_⟩
 have ao:=aU.next_nil aV
 have aa:=aU.frN aV
 have bB:=TT.ofW aa ao
 refine ⟨fun _=>bB,?_⟩
 refine qaA (i:=10) kz (qaj bA (f:=17) (vs:=[.agg #[.int .i64 aD,.slice aI aE.length aJ,.bool aF,.slice aK aG.length aL,.slice aM aH.length aN]]) (d:=39) kz Tryz.call17 (lGot _ _ _ _ _ (ay.move (((ab.trans ac).trans ae).trans aa).step immM (((ab.trans ac).trans ae).trans aa).to') (Nat.le_refl _)) ?_)
 rintro e_ dJ ⟨c6,rfl,bC,aA⟩
 have aB:=bC.move (Step.refl _ Nil) nilM (ao.laid (G:=F) aA)
 obtain ⟨cz,cA,cB,cC,cD,cE,cG,cH,cI,cJ,cK,da,db,aC,cL,cM,dK,dL⟩:=aB.open_
 rw [aC] at aB
 have cN:=cL.small
 have cO:=cM.small
 rw [aC]
 refine ⟨_,rfl,fun dM bD=>?_⟩
 have aj:=ao.next_nil aA
 have af:=ao.frN aA
 have bE:=TT.ofW (aa.trans af) aj
 refine ⟨fun _=>bE,?_⟩
 refine qaA (i:=11) kz (qaj bD (f:=30) (vs:=[.slice aQ sMetadataRequestF.length aR,.int .i64 (Int.tmod x (13 + 1)),.bool (decide ((Int.tmod x (13 + 1)) ≥ qaz)),.agg #[.int .i64 n1,.slice A6 s2.length c7,.bool b3,.slice A8 l4.length c9,.slice aO u5.length aP],.agg #[.int .i64 cz,.slice cE cA.length cG,.bool cB,.slice cH cC.length cI,.slice cJ cD.length cK]]) (d:=40) kz Tryz.call30 (qkA (Int.tmod x (13 + 1)) (decide ((Int.tmod x (13 + 1)) ≥ qaz)) 8 _ _ sMetadataRequestF _ (Tree.mk n1 s2 b3 l4 u5) _ (qbi bj) _ _ ⟨bh,(cS.move (((((((((ag.trans ah).trans ai).trans al).trans am).trans ab).trans ac).trans ae).trans aa).trans af).step immM (((((((((ag.trans ah).trans ai).trans al).trans am).trans ab).trans ac).trans ae).trans aa).trans af).to'),(fun i_ x_ h_=>((cT i_ x_ h_).move (((((((((ag.trans ah).trans ai).trans al).trans am).trans ab).trans ac).trans ae).trans aa).trans af).step immM (((((((((ag.trans ah).trans ai).trans al).trans am).trans ab).trans ac).trans ae).trans aa).trans af).to'))⟩ (ht.move aj.step nilM aj.imm) aB qc4 (hto bj bn)) ?_)
 rintro e_ dN ⟨rfl,aW⟩
 refine ⟨_,rfl,fun dO bF=>?_⟩
 have ap:=aj.next_nil aW
 have bG:=aj.frN aW
 have aX:=TT.ofW ((aa.trans af).trans bG) ap
 refine ⟨fun _=>aX,?_⟩
 refine qaG [12] [(41,.v (.bool true))] 1 (qaa qag) (fun _ h=>h.cells) aX bF fun dP bH=>?_
 refine qaA (i:=13) kz (qa9 [4] ap.cells bH (env':=[(4,.v (.bool true))]) kz fun dQ bI=>?_)
 refine ⟨fun h=>absurd rfl h,?_⟩
 refine qaE kz ?_ _
 refine qab ?_
 refine wp_ret ?_
 refine qaF bI ap.cells (v:=.bool true) kz ?_
 exact ⟨rfl,ap.step⟩
theorem qdx (x:Int) (hx:0 ≤ x ∧ x ≤ 255) (ct:List Value) (t:Tree) (w:World) (F:Nat → Nat → Prop) (ht:TreeR w F ct t) (hi:t.i64s) (hsz:t.size ≤ 8388608):Calls Tryz.prog 7 #[.int .u8 x,.agg ct.toArray] w (qbX w (.bool true)):=by
 obtain ⟨g0,g1⟩:=qlr (m:=13 + 1) hx.1 hx.2 (by decide) (by decide)
 have hp:qau (IntKind.i16.wrap (Int.tmod x (13 + 1))) (fitT (Int.tmod x (13 + 1)) 8 sMetadataRequestF t) = qcn 8 sMetadataRequestF qaz (Int.tmod x (13 + 1)) t:=by rw [qgr g0 g1]; exact qdN (Int.tmod x (13 + 1)) g0 g1 t
 have h1:=qi1 8 sMetadataRequestF qaz (Int.tmod x (13 + 1)) t
 have h2:qgT sMetadataRequestF ≤ 131000:=by decide +kernel
 have h3:=Nat.mul_le_mul h2 hsz
 exact qee x hx.1 (by omega) ct t w F ht (by omega) (qdd (Int.tmod x (13 + 1)) t) (qh2 _ _ _ _ ht.ranged) hp (fun D h=>by rw [qgr g0 g1] at h; exact qdS (Int.tmod x (13 + 1)) g0 t _ (fun _=>rfl) rfl hi D h)
end Go.Proofs.YtcbpjflgkefidaaGreatDoor.ME