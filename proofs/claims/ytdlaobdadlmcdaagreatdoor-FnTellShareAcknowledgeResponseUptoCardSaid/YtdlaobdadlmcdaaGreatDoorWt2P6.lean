/- The texts of a claim, put together: the engine, the contracts, the law. Own work. -/
import Derived.Test.YtdlaobdadlmcdaaGreatDoorWt2P5
namespace Go.Proofs.YtdlaobdadlmcdaaGreatDoor.ME
open Go
open Go.RowKit
set_option linter.unusedVariables false
set_option linter.unusedSimpArgs false
set_option maxRecDepth 20000
theorem qg3 (k n:Int) (w:World):Calls Tryz.prog 69 #[.int .i64 k,.int .i64 n] w (qcI w (.int .i64 (qbL k n))):=by
 refine enter (n:=31) Tryz.func69 rfl Tryz.ntmps69 kz fun a hE=>?_
 have hW:=WOk.start w Nil
 refine qas [(0,.v (.int .i64 k)),(1,.v (.int .i64 n))] hW hE fun a1 hE2=>?_
 refine wp_seq (qas [(1,.v (.int .i64 n)),(5,.v (.int .i64 k))] hW hE2 fun a3 hE4=>?_)
 refine wp_block (qas [(1,.v (.int .i64 n)),(5,.v (.int .i64 k)),(6,.v (.bool (k == 0)))] hW hE4 fun a5 hE6=>?_)
 refine qax hE6 (b:=k == 0) kz (fun hc7=>?_) (fun hc7=>?_)
 ·
  have hf8:k = 0:=by simpa using hc7
  refine qas [(4,.v (.int .i64 (IntKind.i64.wrap (zB 64 n &&& zB 64 1).toNat)))] hW hE6 fun a9 aj=>?_
  refine wp_ret (qaz (qat (qaK aj hW.cells (v:=.int .i64 (IntKind.i64.wrap (zB 64 n &&& zB 64 1).toNat)) kz ?_)))
  exact ⟨by (try simp only [and1]); simp_all [qbL,qi7,qfu,qdM,qfq],hW.step⟩
 have ar:k ≠ 0:=by simpa using hc7
 refine qas [(1,.v (.int .i64 n)),(5,.v (.int .i64 k)),(10,.v (.bool (k == 1)))] hW hE6 fun aC aa=>?_
 refine qax aa (b:=k == 1) kz (fun ab=>?_) (fun ab=>?_)
 ·
  have au:k = 1:=by simpa using ab
  refine qas [(4,.v (.int .i64 (IntKind.i64.wrap (IntKind.i8.wrap n))))] hW aa fun aD ak=>?_
  refine wp_ret (qaz (qat (qaK ak hW.cells (v:=.int .i64 (IntKind.i64.wrap (IntKind.i8.wrap n))) kz ?_)))
  exact ⟨by (try simp only [and1]); simp_all [qbL,qi7,qfu,qdM,qfq],hW.step⟩
 have av:k ≠ 1:=by simpa using ab
 refine qas [(1,.v (.int .i64 n)),(5,.v (.int .i64 k)),(15,.v (.bool (k == 2)))] hW aa fun aE ac=>?_
 refine qax ac (b:=k == 2) kz (fun ae=>?_) (fun ae=>?_)
 ·
  have aw:k = 2:=by simpa using ae
  refine qas [(4,.v (.int .i64 (IntKind.i64.wrap (IntKind.i16.wrap n))))] hW ac fun aF al=>?_
  refine wp_ret (qaz (qat (qaK al hW.cells (v:=.int .i64 (IntKind.i64.wrap (IntKind.i16.wrap n))) kz ?_)))
  exact ⟨by (try simp only [and1]); simp_all [qbL,qi7,qfu,qdM,qfq],hW.step⟩
 have ax:k ≠ 2:=by simpa using ae
 refine qas [(1,.v (.int .i64 n)),(5,.v (.int .i64 k)),(20,.v (.bool (k == 3)))] hW ac fun aG af=>?_
 refine qax af (b:=k == 3) kz (fun ag=>?_) (fun ag=>?_)
 ·
  have ay:k = 3:=by simpa using ag
  refine qas [(4,.v (.int .i64 (IntKind.i64.wrap (IntKind.i32.wrap n))))] hW af fun aH am=>?_
  refine wp_ret (qaz (qat (qaK am hW.cells (v:=.int .i64 (IntKind.i64.wrap (IntKind.i32.wrap n))) kz ?_)))
  exact ⟨by (try simp only [and1]); simp_all [qbL,qi7,qfu,qdM,qfq],hW.step⟩
 have az:k ≠ 3:=by simpa using ag
 refine qas [(1,.v (.int .i64 n)),(25,.v (.bool (k == 5)))] hW af fun aI ah=>?_
 refine qax ah (b:=k == 5) kz (fun ai=>?_) (fun ai=>?_)
 ·
  have aA:k = 5:=by simpa using ai
  refine qas [(4,.v (.int .i64 (IntKind.i64.wrap (IntKind.u16.wrap n))))] hW ah fun aJ ao=>?_
  refine wp_ret (qaz (qat (qaK ao hW.cells (v:=.int .i64 (IntKind.i64.wrap (IntKind.u16.wrap n))) kz ?_)))
  exact ⟨by (try simp only [and1]); simp_all [qbL,qi7,qfu,qdM,qfq],hW.step⟩
 have aB:k ≠ 5:=by simpa using ai
 refine wp_skip (qav (qab (qas [(4,.v (.int .i64 n))] hW ah fun aK ap=>?_)))
 refine wp_ret (qaK ap hW.cells (v:=.int .i64 n) kz ?_)
 exact ⟨by (try simp only [and1]); simp_all [qbL,qi7,qfu,qdM,qfq],hW.step⟩
def UsOK (U:List Fld → Tree → Prop):Prop:=∀ (A:Option Addr) (c:Nat) (l:List Fld) (ct:List Value) (g:Tree) (w:World) (F:Nat → Nat → Prop),FldsR w F A c l → TreeR w F ct g → U l g →
  Calls Tryz.prog 34 #[.slice A l.length c,.agg ct.toArray] w (qcI w (.bool true))
abbrev z35 (x0) (x1) (x2) (x3):=([(3,.p 0 0),(12,.v (.slice x0 x1 x2)),(13,.v (.int .i64 ((x1:Nat):Int))),(14,.v (.int .i64 ((x3:Nat):Int))),(87,.v (.bool false))]:Env)
abbrev z90 (x0) (x1) (x2) (x3):=([(3,.p 0 0),(12,.v (.slice x0 x1 x2)),(13,.v (.int .i64 ((x1:Nat):Int))),(14,.v (.int .i64 ((x3:Nat):Int))),(65,.v (.bool true))]:Env)
theorem sUs {U:List Fld → Tree → Prop} (hu:UsOK U) (A:Option Addr) (c:Nat) (l:List Fld) (ct:List Value) (g:Tree) (w:World) (F:Nat → Nat → Prop) (hl:FldsR w F A c l) (ht:TreeR w F ct g) (hU:UsP U l g) :
  Calls Tryz.prog 34 #[.slice A l.length c,.agg ct.toArray] w (qcI w (.bool true)):=by
 obtain ⟨xfs,h1,h2⟩:=hl.ex
 have hsm:=h1.small
 obtain ⟨n1,s2,b3,l4,u5,A6,c7,A8,c9,aJ,aK,fW,rfl,rfl,fX,fY,iI,iJ⟩:=ht.open_
 have fb:=fX.small
 have fe:=fY.small
 refine enter (n:=89) Tryz.func34 rfl Tryz.ntmps34 kz fun a hE=>?_
 have hW:=WOk.start w Nil
 refine qaf [0,1] kz ?_
 refine qan (qby hW hE (d:=3) (cs:=(z1 n1 A6 s2.length c7 b3 A8 l4.length c9 aJ u5.length aK)) kz fun bz iK iL fZ f5 f7 aA eH=>?_)
 refine qak [1] [] [(0,.v (.slice A l.length c)),(3,.p 0 0)] aA eH fun iM eI=>?_
 refine qag (qab ?_)
 refine wp_seq (qas [(0,.v (.slice A l.length c)),(3,.p 0 0),(11,.v (.bool (decide (((u5.length:Nat):Int) > 0))))] aA eI fun iN cE=>?_)
 refine qax cE (b:=decide (((u5.length:Nat):Int) > 0)) kz (fun cG=>?_) (fun cG=>?_)
 ·
  have f8:=zD cG
  refine qas [(4,.v (.bool false))] aA cE fun iO eJ=>?_
  refine wp_ret (qat (qaK eJ aA.cells (v:=.bool false) kz ?_))
  exact (us_u (g:=(Tree.mk n1 s2 b3 l4 u5)) hU.1 rfl ‹_›).elim
 have f9:=zF cG
 refine wp_skip (qab (wp_seq (qas [(3,.p 0 0),(12,.v (.slice A l.length c)),(13,.v (.int .i64 ((l.length:Nat):Int))),(14,.v (.int .i64 0))] aA cE fun iP eK=>?_)))
 refine wp_block (wp_loop_ghost (fun n_ a_ w_=>∃ (k:Nat),n_ = l.length - k ∧ k ≤ l.length ∧ LInv aA 89 [⟨bz,0,[.int .i64 n1,.slice A6 s2.length c7,.bool b3,.slice A8 l4.length c9,.slice aJ u5.length aK],true⟩] [] [(3,.p 0 0),(12,.v (.slice A l.length c)),(13,.v (.int .i64 ((l.length:Nat):Int))),(14,.v (.int .i64 ((k:Nat):Int)))] a_ w_) (l.length) ⟨0,by omega,by omega,eK.pk,aA,Fr.refl _ _ _⟩ ?_)
 rintro iQ iR iS ⟨k,ga,gb,eL,aB,aj⟩
 refine qas [(3,.p 0 0),(12,.v (.slice A l.length c)),(13,.v (.int .i64 ((l.length:Nat):Int))),(14,.v (.int .i64 ((k:Nat):Int))),(15,.v (.bool (decide (((k:Nat):Int) < ((l.length:Nat):Int)))))] aB eL fun iT cH=>?_
 refine wp_seq (qax cH (b:=decide (((k:Nat):Int) < ((l.length:Nat):Int))) kz (fun cI=>?_) (fun cI=>?_))
 ·
  have gc:=zD cI
  refine wp_skip (qab (wp_seq (wp_block (qaf [0,1,2,3,4,5] kz ?_))))
  refine qak [0] [1,2,3,4,5] [(3,.p 0 0),(12,.v (.slice A l.length c)),(13,.v (.int .i64 ((l.length:Nat):Int))),(14,.v (.int .i64 ((k:Nat):Int))),(16,.v (.int .i64 ((k:Nat):Int)))] aB cH fun iU eM=>?_
  obtain ⟨gd,ge,eN,gg,bB⟩:=Slots.get h1 (i:=k) (by omega)
  obtain ⟨gh,cJ⟩:∃ x,l[k]? = some x:=⟨_,List.getElem?_eq_getElem (by omega)⟩
  have cK:=h2 k gh cJ
  obtain ⟨ae,eD,eE,aE,eF,aM,eG,bA,bC,bD,cL,rfl,bE,eO,ff⟩:=cK.open_
  rw [bE] at cK
  have fg:=eO.small
  rw [bE] at bB
  refine qan (qaB eM (t:=29) (A:=A) (m:=l.length) (q:=((k:Nat):Int)) (d:=17) kz (e:=51) (size:=8) (bytes:=80) kz eN rfl (by omega) fun iV eP=>?_)
  refine qan (qaW eP (t:=51) (b:=gd) (o:=ge + k * 8) (d:=18) kz (cs:=(z6 ae eD eE aE eF aM eG bC bA.length bD)) (v:=.agg #[.int .i64 ae,.int .i64 eD,.int .i64 eE,.int .i64 aE,.int .i64 eF,.int .i64 aM,.int .i64 eG,.slice bC bA.length bD]) kz (AtF.move bB aB.step nilM qbi).at_ fun iW eQ=>?_)
  refine qan (qaM aB eQ (d:=6) (cs:=z10) kz fun iX iY iZ gi gj ak cM eR=>?_)
  refine qak [4] [5] [(3,.p 0 0),(5,.v (.int .i64 ((k:Nat):Int))),(6,.p 1 0),(12,.v (.slice A l.length c)),(13,.v (.int .i64 ((l.length:Nat):Int))),(14,.v (.int .i64 ((k:Nat):Int))),(18,.v (.agg #[.int .i64 ae,.int .i64 eD,.int .i64 eE,.int .i64 aE,.int .i64 eF,.int .i64 aM,.int .i64 eG,.slice bC bA.length bD]))] cM eR fun i6 eS=>?_
  refine qan (qao cM eS (oi:=1) (cs:=(z6 ae eD eE aE eF aM eG bC bA.length bD)) kz fun i7 al aL eU=>?_)
  refine qag (qab ?_)
  refine qaf [0,1,2,3,4] kz ?_
  refine qak [0,1] [2,3,4] [(3,.p 0 0),(6,.p 1 0),(12,.v (.slice A l.length c)),(13,.v (.int .i64 ((l.length:Nat):Int))),(14,.v (.int .i64 ((k:Nat):Int))),(19,.v (.agg #[.int .i64 n1,.slice A6 s2.length c7,.bool b3,.slice A8 l4.length c9,.slice aJ u5.length aK])),(20,.v (.int .i64 ((k:Nat):Int)))] aL eU fun ja eV=>?_
  refine qan (qal eV (f:=30) (vs:=[.agg #[.int .i64 n1,.slice A6 s2.length c7,.bool b3,.slice A8 l4.length c9,.slice aJ u5.length aK],.int .i64 ((k:Nat):Int)]) (d:=21) kz Tryz.call30 (sAt _ _ k _ _ (ht.move aL.step nilM aL.imm)) ?_)
  rintro e_ gk ⟨gl,rfl,eW,aN⟩
  have aF:=eW.move aN nilM (fun b o h_ hb_=>aL.laid (G:=F) aN b o (.inl h_) (Nat.lt_of_lt_of_le hb_ aN.size))
  obtain ⟨ai,af,ah,am,aO,aC,aD,aP,aQ,aR,aS,fh,aT,aU,cN,eX,gm,gn⟩:=aF.open_
  rw [aU] at aF
  have eY:=cN.small
  have eZ:=eX.small
  rw [aU]
  refine ⟨_,rfl,fun gp cO=>?_⟩
  have cP:=aL.next_nil aN
  have ag:=aL.frN aN
  have hq_:=hU.2 k _ cJ
  rw [aT] at hq_
  refine qan (qaM cP cO (d:=7) (cs:=z0) kz fun gq gt gv fi fj ab cQ cR=>?_)
  refine qan (qao cQ cR (oi:=2) (cs:=(z1 ai aC af.length aD ah aP am.length aQ aR aO.length aS)) kz fun gw ac aa cS=>?_)
  refine qag (qab ?_)
  refine qas [(3,.p 0 0),(6,.p 1 0),(7,.p 2 0),(12,.v (.slice A l.length c)),(13,.v (.int .i64 ((l.length:Nat):Int))),(14,.v (.int .i64 ((k:Nat):Int))),(23,.v (.int .i64 ae))] aa cS fun gx cT=>?_
  refine wp_block (qas [(3,.p 0 0),(6,.p 1 0),(7,.p 2 0),(12,.v (.slice A l.length c)),(13,.v (.int .i64 ((l.length:Nat):Int))),(14,.v (.int .i64 ((k:Nat):Int))),(23,.v (.int .i64 ae)),(32,.v (.bool (ae == 8)))] aa cT fun gy aV=>?_)
  refine qax aV (b:=ae == 8) kz (fun aW=>?_) (fun aW=>?_)
  ·
   have fk:ae = 8:=by simpa using aW
   refine qaf [0,1,2,3,4,5,6,7,8,9,10,11] kz ?_
   refine qak [0,1,2,3,4,5,6] [7,8,9,10,11] [(3,.p 0 0),(7,.p 2 0),(12,.v (.slice A l.length c)),(13,.v (.int .i64 ((l.length:Nat):Int))),(14,.v (.int .i64 ((k:Nat):Int))),(40,.v (.bool (!(ah == (decide (aE ≥ 0))))))] aa aV fun gz bF=>?_
   refine (zO (!(ah == (decide (aE ≥ 0))))).elim (fun ao=>?_) (fun ao=>?_)
   ·
    have fm:!(ah = (decide (aE ≥ 0))):=by simpa using ao
    have cU:=bF
    rw [ao] at cU
    refine qak [7,8,9,10,11] [] [(3,.p 0 0),(12,.v (.slice A l.length c)),(13,.v (.int .i64 ((l.length:Nat):Int))),(14,.v (.int .i64 ((k:Nat):Int))),(45,.v (.bool true))] aa cU fun gA bG=>?_
    refine qag (qab ?_)
    refine qa9 bG (b:=true) kz rfl ?_
    refine qas [(4,.v (.bool false))] aa bG fun gB cV=>?_
    refine wp_ret (qaz (qaz (qat (qat (qaz (qat (qaK cV aa.cells (v:=.bool false) kz ?_)))))))
    first
     | exact (qgW hq_ ‹_› ‹_›).elim
     | exact (qgX hq_ ‹_› ‹_›).elim
     | exact (us_7 hq_ ‹_› ‹_›).elim
     | exact (qgY hq_ ‹_› ‹_›).elim
     | exact (qgZ hq_ ‹_› ‹_›).elim
     | exact (qe6 hq_ ‹_› ‹_›).elim
     | exact (qe7 hq_ ‹_› ‹_›).elim
     | exact (qg0 hq_ ‹_› ‹_› ‹_›).elim
     | exact (us_n hq_ ‹_› ‹_› ‹_› ‹_› ‹_› ‹_›).elim
   have fo:!(ah ≠ (decide (aE ≥ 0))):=by simpa using ao
   have cW:=bF
   rw [ao] at cW
   refine qak [7,8,9,10,11] [] [(3,.p 0 0),(12,.v (.slice A l.length c)),(13,.v (.int .i64 ((l.length:Nat):Int))),(14,.v (.int .i64 ((k:Nat):Int))),(45,.v (.bool (decide (((af.length:Nat):Int) > 0))))] aa cW fun gC aX=>?_
   refine qag (qab ?_)
   refine qax aX (b:=decide (((af.length:Nat):Int) > 0)) kz (fun aY=>?_) (fun aY=>?_)
   ·
    have fq:=zD aY
    refine qas [(4,.v (.bool false))] aa aX fun gD cX=>?_
    refine wp_ret (qaz (qaz (qat (qat (qaz (qat (qaK cX aa.cells (v:=.bool false) kz ?_)))))))
    first
     | exact (qgW hq_ ‹_› ‹_›).elim
     | exact (qgX hq_ ‹_› ‹_›).elim
     | exact (us_7 hq_ ‹_› ‹_›).elim
     | exact (qgY hq_ ‹_› ‹_›).elim
     | exact (qgZ hq_ ‹_› ‹_›).elim
     | exact (qe6 hq_ ‹_› ‹_›).elim
     | exact (qe7 hq_ ‹_› ‹_›).elim
     | exact (qg0 hq_ ‹_› ‹_› ‹_›).elim
     | exact (us_n hq_ ‹_› ‹_› ‹_› ‹_› ‹_› ‹_›).elim
   have fr:=zF aY
   refine wp_skip (qav (qav (qab (qau [0,1] kz ?_))))
   refine qak [0,1] [] [(3,.p 0 0),(12,.v (.slice A l.length c)),(13,.v (.int .i64 ((l.length:Nat):Int))),(14,.v (.int .i64 (IntKind.i64.wrap (((k:Nat):Int) + 1))))] aa aX fun gE cY=>?_
   refine qag (qab ?_)
   obtain ⟨bH,cZ,c5⟩:=aa.cutB cY 1 (z92 bz n1 A6 s2.length c7 b3 A8 l4.length c9 aJ u5.length aK) [(3,.p 0 0),(12,.v (.slice A l.length c)),(13,.v (.int .i64 ((l.length:Nat):Int))),(14,.v (.int .i64 (IntKind.i64.wrap (((k:Nat):Int) + 1))))]
   have c6:IntKind.i64.wrap (((k:Nat):Int) + 1) = ((k + 1:Nat):Int):=qaS (by omega)
   rw [c6] at bH
   exact ⟨l.length - (k + 1),by omega,k + 1,rfl,by omega,bH.pk,cZ,((((((aj.trans ak).trans al).trans ag).trans ab).trans ac).trans c5)⟩
  have ft:ae ≠ 8:=by simpa using aW
  refine qas [(3,.p 0 0),(6,.p 1 0),(7,.p 2 0),(12,.v (.slice A l.length c)),(13,.v (.int .i64 ((l.length:Nat):Int))),(14,.v (.int .i64 ((k:Nat):Int))),(23,.v (.int .i64 ae)),(46,.v (.bool (ae == 7)))] aa aV fun gF aZ=>?_
  refine qax aZ (b:=ae == 7) kz (fun ba=>?_) (fun ba=>?_)
  ·
   have fv:ae = 7:=by simpa using ba
   refine qaE 5 kz aa fun gG bd da db=>?_
   refine qaF [0,1] [(3,.p 0 0),(12,.v (.slice A l.length c)),(13,.v (.int .i64 ((l.length:Nat):Int))),(14,.v (.int .i64 ((k:Nat):Int))),(49,.v (.slice aC af.length aD))] 3 (qaa (qac (qac (qaa (qaa (qac (qaa qae))))))) (fun _ h=>h.cells) db aZ fun gH dc=>?_
   refine qap (i:=2) kz (qcU da dc (d:=50) (j:=16) (t:=22) (e:=5) (bytes:=1) (z:=.int .u8 0) kz kz kz kz (rfl) (rfl) (by omega) fun e9 gI gJ fw fx ap aG de=>?_)
   have df:=TT.ofW ap aG
   refine ⟨fun _=>df,?_⟩
   refine qap (i:=3) kz (qal de (f:=36) (vs:=[.slice aC af.length aD,.slice (some ⟨e9,0,none⟩) 16 16]) (d:=51) kz Tryz.call36 (qeM _ _ _ _ af (List.replicate 16 0:Bs) _ _ ((cN.move (((ab.trans ac).trans bd).trans ap).step immM (((ab.trans ac).trans bd).trans ap).to').move (Step.refl _ Nil) nilM allF) (qke (aG.own 0 _ rfl) (F:=fun _ _=>True) (fun _ _ _=>trivial))) ?_)
   rintro e_ gK ⟨rfl,bI⟩
   refine ⟨_,rfl,fun gL dg=>?_⟩
   have ar:=aG.next_nil bI
   have bJ:=aG.frN bI
   have bK:=TT.ofW (ap.trans bJ) ar
   refine ⟨fun _=>bK,?_⟩
   refine qaF [4] [(3,.p 0 0),(12,.v (.slice A l.length c)),(13,.v (.int .i64 ((l.length:Nat):Int))),(14,.v (.int .i64 ((k:Nat):Int))),(52,.v (.bool (!(decide (af = (List.replicate 16 0:Bs))))))] 0 (qaa (qac (qac (qaa (qaa (qac (qaa qae))))))) (fun _ h=>h.cells) bK dg fun gM bf=>?_
   refine qaC kz ?_ _
   refine qab (qax bf (b:=!(decide (af = (List.replicate 16 0:Bs)))) kz (fun dh=>?_) (fun dh=>?_))
   ·
    refine qas [(4,.v (.bool false))] ar bf fun gN di=>?_
    refine wp_ret (qaz (qaz (qat (qat (qaz (qat (qaK di ar.cells (v:=.bool false) kz ?_)))))))
    first
     | exact (qgW hq_ ‹_› ‹_›).elim
     | exact (qgX hq_ ‹_› ‹_›).elim
     | exact (us_7 hq_ ‹_› ‹_›).elim
     | exact (qgY hq_ ‹_› ‹_›).elim
     | exact (qgZ hq_ ‹_› ‹_›).elim
     | exact (qe6 hq_ ‹_› ‹_›).elim
     | exact (qe7 hq_ ‹_› ‹_›).elim
     | exact (qg0 hq_ ‹_› ‹_› ‹_›).elim
     | exact (us_n hq_ ‹_› ‹_› ‹_› ‹_› ‹_› ‹_›).elim
   refine wp_skip (qav (qav (qab (qau [0,1] kz ?_))))
   refine qak [0,1] [] [(3,.p 0 0),(12,.v (.slice A l.length c)),(13,.v (.int .i64 ((l.length:Nat):Int))),(14,.v (.int .i64 (IntKind.i64.wrap (((k:Nat):Int) + 1))))] ar bf fun gO dj=>?_
   refine qag (qab ?_)
   obtain ⟨bL,dl,dp⟩:=ar.cutB dj 1 (z92 bz n1 A6 s2.length c7 b3 A8 l4.length c9 aJ u5.length aK) [(3,.p 0 0),(12,.v (.slice A l.length c)),(13,.v (.int .i64 ((l.length:Nat):Int))),(14,.v (.int .i64 (IntKind.i64.wrap (((k:Nat):Int) + 1))))]
   obtain ⟨dq,dr⟩:=dl.cutR 0 []
   have dt:IntKind.i64.wrap (((k:Nat):Int) + 1) = ((k + 1:Nat):Int):=qaS (by omega)
   rw [dt] at bL
   exact ⟨l.length - (k + 1),by omega,k + 1,rfl,by omega,bL.pk,dq,((((((((((aj.trans ak).trans al).trans ag).trans ab).trans ac).trans bd).trans ap).trans bJ).trans dp).trans dr)⟩
  have fy:ae ≠ 7:=by simpa using ba
  refine wp_seq (qas [(3,.p 0 0),(6,.p 1 0),(7,.p 2 0),(12,.v (.slice A l.length c)),(13,.v (.int .i64 ((l.length:Nat):Int))),(14,.v (.int .i64 ((k:Nat):Int))),(23,.v (.int .i64 ae)),(53,.v (.bool (ae == 9)))] aa aZ fun gP aH=>?_)
  refine qax aH (b:=ae == 9) kz (fun aI=>?_) (fun aI=>?_)
  ·
   have fz:ae = 9:=by simpa using aI
   refine wp_skip (qab (qa9 aH (b:=ae == 9) kz (aI) ?_))
   refine qaf [0,1,2,3,4,5,6,7,8,9] kz ?_
   refine qak [0,1,2,3,4] [5,6,7,8,9] [(3,.p 0 0),(7,.p 2 0),(12,.v (.slice A l.length c)),(13,.v (.int .i64 ((l.length:Nat):Int))),(14,.v (.int .i64 ((k:Nat):Int))),(60,.v (.bool (decide (((af.length:Nat):Int) > 0))))] aa aH fun gQ bM=>?_
   refine (zO (decide (((af.length:Nat):Int) > 0))).elim (fun au=>?_) (fun au=>?_)
   ·
    have fA:=zD au
    have du:=bM
    rw [au] at du
    refine qak [5,6,7,8,9] [] (z90 A l.length c k) aa du fun gR bN=>?_
    refine qag (qab ?_)
    refine qa9 bN (b:=true) kz rfl ?_
    refine qas [(4,.v (.bool false))] aa bN fun gS dv=>?_
    refine wp_ret (qaz (qaz (qat (qat (qaz (qat (qaK dv aa.cells (v:=.bool false) kz ?_)))))))
    first
     | exact (qgW hq_ ‹_› ‹_›).elim
     | exact (qgX hq_ ‹_› ‹_›).elim
     | exact (us_7 hq_ ‹_› ‹_›).elim
     | exact (qgY hq_ ‹_› ‹_›).elim
     | exact (qgZ hq_ ‹_› ‹_›).elim
     | exact (qe6 hq_ ‹_› ‹_›).elim
     | exact (qe7 hq_ ‹_› ‹_›).elim
     | exact (qg0 hq_ ‹_› ‹_› ‹_›).elim
     | exact (us_n hq_ ‹_› ‹_› ‹_› ‹_› ‹_› ‹_›).elim
   have fB:=zF au
   have dw:=bM
   rw [au] at dw
   refine qak [5,6,7,8,9] [] [(3,.p 0 0),(12,.v (.slice A l.length c)),(13,.v (.int .i64 ((l.length:Nat):Int))),(14,.v (.int .i64 ((k:Nat):Int))),(65,.v (.bool (decide (((am.length:Nat):Int) > 0))))] aa dw fun gT bg=>?_
   refine qag (qab ?_)
   refine qax bg (b:=decide (((am.length:Nat):Int) > 0)) kz (fun bh=>?_) (fun bh=>?_)
   ·
    have fC:=zD bh
    refine qas [(4,.v (.bool false))] aa bg fun gU dx=>?_
    refine wp_ret (qaz (qaz (qat (qat (qaz (qat (qaK dx aa.cells (v:=.bool false) kz ?_)))))))
    first
     | exact (qgW hq_ ‹_› ‹_›).elim
     | exact (qgX hq_ ‹_› ‹_›).elim
     | exact (us_7 hq_ ‹_› ‹_›).elim
     | exact (qgY hq_ ‹_› ‹_›).elim
     | exact (qgZ hq_ ‹_› ‹_›).elim
     | exact (qe6 hq_ ‹_› ‹_›).elim
     | exact (qe7 hq_ ‹_› ‹_›).elim
     | exact (qg0 hq_ ‹_› ‹_› ‹_›).elim
     | exact (us_n hq_ ‹_› ‹_› ‹_› ‹_› ‹_› ‹_›).elim
   have fD:=zF bh
   refine wp_skip (qav (qav (qab (qau [0,1] kz ?_))))
   refine qak [0,1] [] [(3,.p 0 0),(12,.v (.slice A l.length c)),(13,.v (.int .i64 ((l.length:Nat):Int))),(14,.v (.int .i64 (IntKind.i64.wrap (((k:Nat):Int) + 1))))] aa bg fun gV dy=>?_
   refine qag (qab ?_)
   obtain ⟨bO,dz,dA⟩:=aa.cutB dy 1 (z92 bz n1 A6 s2.length c7 b3 A8 l4.length c9 aJ u5.length aK) [(3,.p 0 0),(12,.v (.slice A l.length c)),(13,.v (.int .i64 ((l.length:Nat):Int))),(14,.v (.int .i64 (IntKind.i64.wrap (((k:Nat):Int) + 1))))]
   have dB:IntKind.i64.wrap (((k:Nat):Int) + 1) = ((k + 1:Nat):Int):=qaS (by omega)
   rw [dB] at bO
   exact ⟨l.length - (k + 1),by omega,k + 1,rfl,by omega,bO.pk,dz,((((((aj.trans ak).trans al).trans ag).trans ab).trans ac).trans dA)⟩
  have fE:ae ≠ 9:=by simpa using aI
  refine qau [0,1] kz ?_
  refine qak [0,1] [] [(3,.p 0 0),(6,.p 1 0),(7,.p 2 0),(12,.v (.slice A l.length c)),(13,.v (.int .i64 ((l.length:Nat):Int))),(14,.v (.int .i64 ((k:Nat):Int))),(23,.v (.int .i64 ae)),(53,.v (.bool (ae == 11)))] aa aH fun gW bi=>?_
  refine qag (qab ?_)
  refine qax bi (b:=ae == 11) kz (fun bj=>?_) (fun bj=>?_)
  ·
   have fF:ae = 11:=by simpa using bj
   refine qaf [0,1,2,3,4,5,6,7,8,9] kz ?_
   refine qak [0,1,2,3,4] [5,6,7,8,9] [(3,.p 0 0),(7,.p 2 0),(12,.v (.slice A l.length c)),(13,.v (.int .i64 ((l.length:Nat):Int))),(14,.v (.int .i64 ((k:Nat):Int))),(60,.v (.bool (decide (((af.length:Nat):Int) > 0))))] aa bi fun gX bP=>?_
   refine (zO (decide (((af.length:Nat):Int) > 0))).elim (fun av=>?_) (fun av=>?_)
   ·
    have fG:=zD av
    have dC:=bP
    rw [av] at dC
    refine qak [5,6,7,8,9] [] (z90 A l.length c k) aa dC fun gY bQ=>?_
    refine qag (qab ?_)
    refine qa9 bQ (b:=true) kz rfl ?_
    refine qas [(4,.v (.bool false))] aa bQ fun gZ dD=>?_
    refine wp_ret (qaz (qaz (qat (qat (qaz (qat (qaK dD aa.cells (v:=.bool false) kz ?_)))))))
    first
     | exact (qgW hq_ ‹_› ‹_›).elim
     | exact (qgX hq_ ‹_› ‹_›).elim
     | exact (us_7 hq_ ‹_› ‹_›).elim
     | exact (qgY hq_ ‹_› ‹_›).elim
     | exact (qgZ hq_ ‹_› ‹_›).elim
     | exact (qe6 hq_ ‹_› ‹_›).elim
     | exact (qe7 hq_ ‹_› ‹_›).elim
     | exact (qg0 hq_ ‹_› ‹_› ‹_›).elim
     | exact (us_n hq_ ‹_› ‹_› ‹_› ‹_› ‹_› ‹_›).elim
   have fH:=zF av
   have dE:=bP
   rw [av] at dE
   refine qak [5,6,7,8,9] [] [(3,.p 0 0),(12,.v (.slice A l.length c)),(13,.v (.int .i64 ((l.length:Nat):Int))),(14,.v (.int .i64 ((k:Nat):Int))),(65,.v (.bool (decide (((am.length:Nat):Int) > 0))))] aa dE fun g9 bk=>?_
   refine qag (qab ?_)
   refine qax bk (b:=decide (((am.length:Nat):Int) > 0)) kz (fun bn=>?_) (fun bn=>?_)
   ·
    have fI:=zD bn
    refine qas [(4,.v (.bool false))] aa bk fun hC dF=>?_
    refine wp_ret (qaz (qaz (qat (qat (qaz (qat (qaK dF aa.cells (v:=.bool false) kz ?_)))))))
    first
     | exact (qgW hq_ ‹_› ‹_›).elim
     | exact (qgX hq_ ‹_› ‹_›).elim
     | exact (us_7 hq_ ‹_› ‹_›).elim
     | exact (qgY hq_ ‹_› ‹_›).elim
     | exact (qgZ hq_ ‹_› ‹_›).elim
     | exact (qe6 hq_ ‹_› ‹_›).elim
     | exact (qe7 hq_ ‹_› ‹_›).elim
     | exact (qg0 hq_ ‹_› ‹_› ‹_›).elim
     | exact (us_n hq_ ‹_› ‹_› ‹_› ‹_› ‹_› ‹_›).elim
   have fJ:=zF bn
   refine wp_skip (qav (qav (qab (qau [0,1] kz ?_))))
   refine qak [0,1] [] [(3,.p 0 0),(12,.v (.slice A l.length c)),(13,.v (.int .i64 ((l.length:Nat):Int))),(14,.v (.int .i64 (IntKind.i64.wrap (((k:Nat):Int) + 1))))] aa bk fun hJ dG=>?_
   refine qag (qab ?_)
   obtain ⟨bR,dH,dI⟩:=aa.cutB dG 1 (z92 bz n1 A6 s2.length c7 b3 A8 l4.length c9 aJ u5.length aK) [(3,.p 0 0),(12,.v (.slice A l.length c)),(13,.v (.int .i64 ((l.length:Nat):Int))),(14,.v (.int .i64 (IntKind.i64.wrap (((k:Nat):Int) + 1))))]
   have dJ:IntKind.i64.wrap (((k:Nat):Int) + 1) = ((k + 1:Nat):Int):=qaS (by omega)
   rw [dJ] at bR
   exact ⟨l.length - (k + 1),by omega,k + 1,rfl,by omega,bR.pk,dH,((((((aj.trans ak).trans al).trans ag).trans ab).trans ac).trans dI)⟩
  have fK:ae ≠ 11:=by simpa using bj
  refine qas [(3,.p 0 0),(6,.p 1 0),(7,.p 2 0),(12,.v (.slice A l.length c)),(13,.v (.int .i64 ((l.length:Nat):Int))),(14,.v (.int .i64 ((k:Nat):Int))),(66,.v (.bool (ae == 10)))] aa bi fun hK bo=>?_
  refine qax bo (b:=ae == 10) kz (fun bp=>?_) (fun bp=>?_)
  ·
   have fL:ae = 10:=by simpa using bp
   refine qaf [0,1,2,3,4,5,6,7,8,9,10,11,12,13,14,15,16,17,18,19] kz ?_
   refine qak [0,1,2,3] [4,5,6,7,8,9,10,11,12,13,14,15,16,17,18,19] [(3,.p 0 0),(6,.p 1 0),(7,.p 2 0),(12,.v (.slice A l.length c)),(13,.v (.int .i64 ((l.length:Nat):Int))),(14,.v (.int .i64 ((k:Nat):Int))),(71,.v (.bool (decide (aE ≥ 0))))] aa bo fun hZ bS=>?_
   refine (zO (decide (aE ≥ 0))).elim (fun aw=>?_) (fun aw=>?_)
   ·
    have fM:=zD aw
    have dK:=bS
    rw [aw] at dK
    refine qak [4,5,6,7,8] [9,10,11,12,13,14,15,16,17,18,19] [(3,.p 0 0),(6,.p 1 0),(7,.p 2 0),(12,.v (.slice A l.length c)),(13,.v (.int .i64 ((l.length:Nat):Int))),(14,.v (.int .i64 ((k:Nat):Int))),(76,.v (.bool (!ah)))] aa dK fun ia bT=>?_
    refine (zO (!ah)).elim (fun bq=>?_) (fun bq=>?_)
    ·
     have dL:=bT
     rw [bq] at dL
     refine qak [9,10,11,12,13,14,15,16,17,18,19] [] [(3,.p 0 0),(12,.v (.slice A l.length c)),(13,.v (.int .i64 ((l.length:Nat):Int))),(14,.v (.int .i64 ((k:Nat):Int))),(87,.v (.bool true))] aa dL fun ib bU=>?_
     refine qag (qab ?_)
     refine qa9 bU (b:=true) kz rfl ?_
     refine qas [(4,.v (.bool false))] aa bU fun ic dM=>?_
     refine wp_ret (qaz (qaz (qat (qat (qaz (qat (qaK dM aa.cells (v:=.bool false) kz ?_)))))))
     first
      | exact (qgW hq_ ‹_› ‹_›).elim
      | exact (qgX hq_ ‹_› ‹_›).elim
      | exact (us_7 hq_ ‹_› ‹_›).elim
      | exact (qgY hq_ ‹_› ‹_›).elim
      | exact (qgZ hq_ ‹_› ‹_›).elim
      | exact (qe6 hq_ ‹_› ‹_›).elim
      | exact (qe7 hq_ ‹_› ‹_›).elim
      | exact (qg0 hq_ ‹_› ‹_› ‹_›).elim
      | exact (us_n hq_ ‹_› ‹_› ‹_› ‹_› ‹_› ‹_›).elim
    have dN:=bT
    rw [bq] at dN
    refine qak [9,10,11,12] [13,14,15,16,17,18,19] [(3,.p 0 0),(6,.p 1 0),(7,.p 2 0),(12,.v (.slice A l.length c)),(13,.v (.int .i64 ((l.length:Nat):Int))),(14,.v (.int .i64 ((k:Nat):Int))),(76,.v (.bool false)),(80,.v (.bool (decide (aE < 0))))] aa dN fun ig bV=>?_
    refine (zO (decide (aE < 0))).elim (fun ax=>?_) (fun ax=>?_)
    ·
     have fN:=zD ax
     have dO:=bV
     rw [ax] at dO
     refine qak [13,14,15] [16,17,18,19] [(3,.p 0 0),(12,.v (.slice A l.length c)),(13,.v (.int .i64 ((l.length:Nat):Int))),(14,.v (.int .i64 ((k:Nat):Int))),(76,.v (.bool false)),(80,.v (.bool true)),(82,.v (.slice bC bA.length bD)),(83,.v (.agg #[.int .i64 ai,.slice aC af.length aD,.bool ah,.slice aP am.length aQ,.slice aR aO.length aS]))] aa dO fun ii dP=>?_
     refine qan (qal dP (f:=34) (vs:=[.slice bC bA.length bD,.agg #[.int .i64 ai,.slice aC af.length aD,.bool ah,.slice aP am.length aQ,.slice aR aO.length aS]]) (d:=84) kz Tryz.call34 ( hu _ _ bA _ _ _ _ ⟨cL,(eO.move aa.step nilM aa.imm),(fun i_ x_ h_=>((ff i_ x_ h_).move aa.step nilM aa.imm))⟩ (aF.move (ab.trans ac).step immM (ab.trans ac).to') (by rw [aT]; exact qla hq_ ‹_› ‹_›)) ?_)
     rintro e_ ij ⟨rfl,bW⟩
     refine ⟨_,rfl,fun ik dQ=>?_⟩
     have bt:=aa.next_nil bW
     have dR:=aa.frN bW
     refine qak [17,18,19] [] (z35 A l.length c k) bt dQ fun il bX=>?_
     refine qag (qab ?_)
     refine qaq bX (b:=false) kz rfl ?_
     refine wp_skip (qav (qav (qab (qau [0,1] kz ?_))))
     refine qak [0,1] [] [(3,.p 0 0),(12,.v (.slice A l.length c)),(13,.v (.int .i64 ((l.length:Nat):Int))),(14,.v (.int .i64 (IntKind.i64.wrap (((k:Nat):Int) + 1))))] bt bX fun im dS=>?_
     refine qag (qab ?_)
     obtain ⟨bY,dT,dU⟩:=bt.cutB dS 1 (z92 bz n1 A6 s2.length c7 b3 A8 l4.length c9 aJ u5.length aK) [(3,.p 0 0),(12,.v (.slice A l.length c)),(13,.v (.int .i64 ((l.length:Nat):Int))),(14,.v (.int .i64 (IntKind.i64.wrap (((k:Nat):Int) + 1))))]
     have dV:IntKind.i64.wrap (((k:Nat):Int) + 1) = ((k + 1:Nat):Int):=qaS (by omega)
     rw [dV] at bY
     exact ⟨l.length - (k + 1),by omega,k + 1,rfl,by omega,bY.pk,dT,(((((((aj.trans ak).trans al).trans ag).trans ab).trans ac).trans dR).trans dU)⟩
    have fO:=zF ax
    have dW:=bV
    rw [ax] at dW
    refine qak [13,14,15,16,17,18,19] [] (z35 A l.length c k) aa dW fun io bZ=>?_
    refine qag (qab ?_)
    refine qaq bZ (b:=false) kz rfl ?_
    refine wp_skip (qav (qav (qab (qau [0,1] kz ?_))))
    refine qak [0,1] [] [(3,.p 0 0),(12,.v (.slice A l.length c)),(13,.v (.int .i64 ((l.length:Nat):Int))),(14,.v (.int .i64 (IntKind.i64.wrap (((k:Nat):Int) + 1))))] aa bZ fun ip dX=>?_
    refine qag (qab ?_)
    obtain ⟨cd,dY,dZ⟩:=aa.cutB dX 1 (z92 bz n1 A6 s2.length c7 b3 A8 l4.length c9 aJ u5.length aK) [(3,.p 0 0),(12,.v (.slice A l.length c)),(13,.v (.int .i64 ((l.length:Nat):Int))),(14,.v (.int .i64 (IntKind.i64.wrap (((k:Nat):Int) + 1))))]
    have d5:IntKind.i64.wrap (((k:Nat):Int) + 1) = ((k + 1:Nat):Int):=qaS (by omega)
    rw [d5] at cd
    exact ⟨l.length - (k + 1),by omega,k + 1,rfl,by omega,cd.pk,dY,((((((aj.trans ak).trans al).trans ag).trans ab).trans ac).trans dZ)⟩
   have fP:=zF aw
   have d6:=bS.cast (env':=[(3,.p 0 0),(6,.p 1 0),(7,.p 2 0),(12,.v (.slice A l.length c)),(13,.v (.int .i64 ((l.length:Nat):Int))),(14,.v (.int .i64 ((k:Nat):Int))),(71,.v (.bool false))]) (by rw [aw])
   refine qak [4,5,6,7,8,9,10,11,12] [13,14,15,16,17,18,19] [(3,.p 0 0),(6,.p 1 0),(7,.p 2 0),(12,.v (.slice A l.length c)),(13,.v (.int .i64 ((l.length:Nat):Int))),(14,.v (.int .i64 ((k:Nat):Int))),(76,.v (.bool false)),(80,.v (.bool (decide (aE < 0))))] aa d6 fun iq ce=>?_
   refine (zO (decide (aE < 0))).elim (fun ay=>?_) (fun ay=>?_)
   ·
    have fQ:=zD ay
    have d7:=ce
    rw [ay] at d7
    refine qak [13,14,15] [16,17,18,19] [(3,.p 0 0),(12,.v (.slice A l.length c)),(13,.v (.int .i64 ((l.length:Nat):Int))),(14,.v (.int .i64 ((k:Nat):Int))),(76,.v (.bool false)),(80,.v (.bool true)),(82,.v (.slice bC bA.length bD)),(83,.v (.agg #[.int .i64 ai,.slice aC af.length aD,.bool ah,.slice aP am.length aQ,.slice aR aO.length aS]))] aa d7 fun ir d8=>?_
    refine qan (qal d8 (f:=34) (vs:=[.slice bC bA.length bD,.agg #[.int .i64 ai,.slice aC af.length aD,.bool ah,.slice aP am.length aQ,.slice aR aO.length aS]]) (d:=84) kz Tryz.call34 ( hu _ _ bA _ _ _ _ ⟨cL,(eO.move aa.step nilM aa.imm),(fun i_ x_ h_=>((ff i_ x_ h_).move aa.step nilM aa.imm))⟩ (aF.move (ab.trans ac).step immM (ab.trans ac).to') (by rw [aT]; exact qla hq_ ‹_› ‹_›)) ?_)
    rintro e_ iu ⟨rfl,cm⟩
    refine ⟨_,rfl,fun iv d9=>?_⟩
    have bu:=aa.next_nil cm
    have ea:=aa.frN cm
    refine qak [17,18,19] [] (z35 A l.length c k) bu d9 fun iw cq=>?_
    refine qag (qab ?_)
    refine qaq cq (b:=false) kz rfl ?_
    refine wp_skip (qav (qav (qab (qau [0,1] kz ?_))))
    refine qak [0,1] [] [(3,.p 0 0),(12,.v (.slice A l.length c)),(13,.v (.int .i64 ((l.length:Nat):Int))),(14,.v (.int .i64 (IntKind.i64.wrap (((k:Nat):Int) + 1))))] bu cq fun ix eb=>?_
    refine qag (qab ?_)
    obtain ⟨cr,ec,ee⟩:=bu.cutB eb 1 (z92 bz n1 A6 s2.length c7 b3 A8 l4.length c9 aJ u5.length aK) [(3,.p 0 0),(12,.v (.slice A l.length c)),(13,.v (.int .i64 ((l.length:Nat):Int))),(14,.v (.int .i64 (IntKind.i64.wrap (((k:Nat):Int) + 1))))]
    have ef:IntKind.i64.wrap (((k:Nat):Int) + 1) = ((k + 1:Nat):Int):=qaS (by omega)
    rw [ef] at cr
    exact ⟨l.length - (k + 1),by omega,k + 1,rfl,by omega,cr.pk,ec,(((((((aj.trans ak).trans al).trans ag).trans ab).trans ac).trans ea).trans ee)⟩
   have fR:=zF ay
   have eg:=ce
   rw [ay] at eg
   refine qak [13,14,15,16,17,18,19] [] (z35 A l.length c k) aa eg fun iy cu=>?_
   refine qag (qab ?_)
   refine qaq cu (b:=false) kz rfl ?_
   refine wp_skip (qav (qav (qab (qau [0,1] kz ?_))))
   refine qak [0,1] [] [(3,.p 0 0),(12,.v (.slice A l.length c)),(13,.v (.int .i64 ((l.length:Nat):Int))),(14,.v (.int .i64 (IntKind.i64.wrap (((k:Nat):Int) + 1))))] aa cu fun iz eh=>?_
   refine qag (qab ?_)
   obtain ⟨cw,ei,ej⟩:=aa.cutB eh 1 (z92 bz n1 A6 s2.length c7 b3 A8 l4.length c9 aJ u5.length aK) [(3,.p 0 0),(12,.v (.slice A l.length c)),(13,.v (.int .i64 ((l.length:Nat):Int))),(14,.v (.int .i64 (IntKind.i64.wrap (((k:Nat):Int) + 1))))]
   have ek:IntKind.i64.wrap (((k:Nat):Int) + 1) = ((k + 1:Nat):Int):=qaS (by omega)
   rw [ek] at cw
   exact ⟨l.length - (k + 1),by omega,k + 1,rfl,by omega,cw.pk,ei,((((((aj.trans ak).trans al).trans ag).trans ab).trans ac).trans ej)⟩
  have fS:ae ≠ 10:=by simpa using bp
  refine qaE 8 kz aa fun iA em cz eo=>?_
  refine qaF [0,1,2,3,4,5] [(3,.p 0 0),(12,.v (.slice A l.length c)),(13,.v (.int .i64 ((l.length:Nat):Int))),(14,.v (.int .i64 ((k:Nat):Int))),(25,.v (.int .i64 ai)),(27,.v (.int .i64 ae)),(29,.v (.int .i64 aM))] 2 (qaa (qac (qac (qaa (qaa (qac (qaa qae))))))) (fun _ h=>h.cells) eo bo fun iB ep=>?_
  refine qap (i:=6) kz (qal ep (f:=69) (vs:=[.int .i64 ae,.int .i64 aM]) (d:=30) kz Tryz.call69 (qg3 ae aM _) ?_)
  rintro e_ iC ⟨rfl,cA⟩
  refine ⟨_,rfl,fun iD eu=>?_⟩
  have az:=cz.next_nil cA
  have cB:=cz.frN cA
  have cC:=TT.ofW cB az
  refine ⟨fun _=>cC,?_⟩
  refine qaF [7] [(3,.p 0 0),(12,.v (.slice A l.length c)),(13,.v (.int .i64 ((l.length:Nat):Int))),(14,.v (.int .i64 ((k:Nat):Int))),(31,.v (.bool (ai != (qbL ae aM))))] 0 (qaa (qac (qac (qaa (qaa (qac (qaa qae))))))) (fun _ h=>h.cells) cC eu fun iE bw=>?_
  refine qaC kz ?_ _
  refine qab (qax bw (b:=ai != (qbL ae aM)) kz (fun bx=>?_) (fun bx=>?_))
  ·
   have fT:ai ≠ (qbL ae aM):=by simpa using bx
   refine qas [(4,.v (.bool false))] az bw fun iF ev=>?_
   refine wp_ret (qaz (qaz (qat (qat (qaz (qat (qaK ev az.cells (v:=.bool false) kz ?_)))))))
   first
    | exact (qgW hq_ ‹_› ‹_›).elim
    | exact (qgX hq_ ‹_› ‹_›).elim
    | exact (us_7 hq_ ‹_› ‹_›).elim
    | exact (qgY hq_ ‹_› ‹_›).elim
    | exact (qgZ hq_ ‹_› ‹_›).elim
    | exact (qe6 hq_ ‹_› ‹_›).elim
    | exact (qe7 hq_ ‹_› ‹_›).elim
    | exact (qg0 hq_ ‹_› ‹_› ‹_›).elim
    | exact (us_n hq_ ‹_› ‹_› ‹_› ‹_› ‹_› ‹_›).elim
  have fU:ai = (qbL ae aM):=by simpa using bx
  refine wp_skip (qav (qav (qab (qau [0,1] kz ?_))))
  refine qak [0,1] [] [(3,.p 0 0),(12,.v (.slice A l.length c)),(13,.v (.int .i64 ((l.length:Nat):Int))),(14,.v (.int .i64 (IntKind.i64.wrap (((k:Nat):Int) + 1))))] az bw fun iG ew=>?_
  refine qag (qab ?_)
  obtain ⟨cD,ey,ez⟩:=az.cutB ew 1 (z92 bz n1 A6 s2.length c7 b3 A8 l4.length c9 aJ u5.length aK) [(3,.p 0 0),(12,.v (.slice A l.length c)),(13,.v (.int .i64 ((l.length:Nat):Int))),(14,.v (.int .i64 (IntKind.i64.wrap (((k:Nat):Int) + 1))))]
  have eB:IntKind.i64.wrap (((k:Nat):Int) + 1) = ((k + 1:Nat):Int):=qaS (by omega)
  rw [eB] at cD
  exact ⟨l.length - (k + 1),by omega,k + 1,rfl,by omega,cD.pk,ey,((((((((aj.trans ak).trans al).trans ag).trans ab).trans ac).trans em).trans cB).trans ez)⟩
 have fV:=zF cI
 refine wp_exit (qay (qay (qaQ (qab (qas [(4,.v (.bool true))] aB cH fun iH eC=>?_)))))
 refine wp_ret (qaK eC aB.cells (v:=.bool true) kz ?_)
 exact ⟨rfl,aB.step⟩
theorem qki:∀ d,UsOK (qkd d)
 | 0=>sUs fun _ _ _ _ _ _ _ _ _ h=>h.elim
 | d + 1=>sUs (qki d)
def ToOK (v:Int) (flex:Bool) (T:List Fld → Tree → Tree → Prop):Prop:=∀ (A:Option Addr) (c:Nat) (l:List Fld) (ct:List Value) (t:Tree) (cg:List Value) (g:Tree) (w:World) (F:Nat → Nat → Prop),FldsR w F A c l → TreeR w F ct t → TreeR w F cg g → plains l → T l t g →
  Calls Tryz.prog 12 #[.slice A l.length c,.int .i64 v,.bool flex,.agg ct.toArray,.agg cg.toArray] w (qcI w (.bool true))
abbrev z13 (x0) (x1) (x2):=([(1,.v (.int .i64 x0)),(2,.v (.bool x1)),(5,.p 0 0),(8,.p 1 0),(9,.p 2 0),(49,.v (.int .i64 x2))]:Env)
abbrev z17 (x0) (x1) (x2) (x3) (x4) (x5) (x6) (x7) (x8) (x9) (x10) (x11) (x12) (x13) (x14):=([(1,.v (.int .i64 x0)),(2,.v (.bool x1)),(5,.p 0 0),(8,.p 1 0),(9,.p 2 0),(47,.v (.bool (z4 x2 x3 x4 x5 x6 x7 x8 x9 x0 x10 x11 x12 x13 x14)))]:Env)
abbrev z18 (x0) (x1) (x2) (x3):=([(9,.p 2 0),(13,.v (.slice (some ⟨x0,0,none⟩) 16 16)),(62,.v (.slice (some ⟨x0,0,none⟩) 16 16)),(64,.v (.slice x1 x2 x3)),(65,.v (.int .i64 ((min x2 16:Nat):Int)))]:Env)
abbrev z27 (x0) (x1) (x2) (x3):=([(9,.p 2 0),(13,.v (.slice (some ⟨x0,0,none⟩) 16 16)),(62,.v (.slice (some ⟨x0,0,none⟩) 16 16)),(64,.v (.slice x1 x2 x3))]:Env)
abbrev z45 (x0):=([(8,.p 1 0),(9,.p 2 0),(13,.v (.slice (some ⟨x0,0,none⟩) 16 16))]:Env)
abbrev z47 (x0) (x1) (x2) (x3) (x4):=([(67,.v (.slice x0 x1 x2)),(68,.v (.slice (some ⟨x3,0,none⟩) ((qbF x4).length) 16))]:Env)
abbrev z61 (x0) (x1) (x2) (x3) (x4) (x5) (x6) (x7) (x8) (x9) (x10) (x11) (x12) (x13) (x14):=([(1,.v (.int .i64 x0)),(2,.v (.bool x1)),(5,.p 0 0),(8,.p 1 0),(9,.p 2 0),(11,.v (.bool (z4 x2 x3 x4 x5 x6 x7 x8 x9 x0 x10 x11 x12 x13 x14))),(46,.v (.bool false))]:Env)
abbrev z76 (x0) (x1) (x2) (x3) (x4) (x5):=([(54,.v (.slice x0 x1 x2)),(56,.v (.slice x3 x4 x5))]:Env)
abbrev z80 (x0) (x1) (x2) (x3) (x4) (x5):=([.slice x0 x1 x2,.slice x3 ((qaG x4).length) x5]:List Value)
abbrev z89 (x0) (x1) (x2):=([(117,.v (.int .i64 x0)),(119,.v (.int .i64 x1)),(121,.v (.int .i64 x2))]:Env)
theorem qiz {v:Int} {flex:Bool} {T:List Fld → Tree → Tree → Prop} (hT:ToOK v flex T) (cf:List Value) (f:Fld) (ct:List Value) (t:Tree) (cg:List Value) (g:Tree) (w:World) (F:Nat → Nat → Prop) (hf:FldR w F cf f) (hpl:plains f.sub) (bt:f.kind ≠ 11) (ht:TreeR w F ct t) (hg:TreeR w F cg g) (hq:ToF0 T v f t g) :
  Calls Tryz.prog 33 #[.agg cf.toArray,.int .i64 v,.bool flex,.agg ct.toArray,.agg cg.toArray] w (qcI w (.bool true)):=by
 obtain ⟨k1,y2,y3,y4,y5,y6,y7,l8,A9,dU,d6,rfl,rfl,iO,jf⟩:=hf.open_
 have jg:=iO.small
 obtain ⟨ac,ab,ae,af,ag,ai,aj,dV,dW,dX,dY,kP,rfl,rfl,aH,kQ,oV,oW⟩:=ht.open_
 have jh:=aH.small
 have ji:=kQ.small
 obtain ⟨aN,ah,ap,dZ,d5,al,am,d7,d8,d9,ea,kR,rfl,rfl,bq,kS,oX,oY⟩:=hg.open_
 have jj:=bq.small
 have jk:=kS.small
 replace hpl:plains l8:=hpl
 have bt:k1 ≠ 11:=bt
 refine enter (n:=124) Tryz.func33 rfl Tryz.ntmps33 kz fun a hE=>?_
 have hW:=WOk.start w Nil
 refine qaf [0,1,2,3] kz ?_
 refine qan (qby hW hE (d:=5) (cs:=(z6 k1 y2 y3 y4 y5 y6 y7 A9 l8.length dU)) kz fun oZ o5 o6 kT kU kV iP iQ=>?_)
 refine qan (qby iP iQ (d:=8) (cs:=(z1 ac ai ab.length aj ae dV af.length dW dX ag.length dY)) kz fun o7 o9 pa kW kX kY iR iS=>?_)
 refine qan (qby iR iS (d:=9) (cs:=(z1 aN al ah.length am ap d7 dZ.length d8 d9 d5.length ea)) kz fun pb pc pd kZ k5 k6 cK iT=>?_)
 refine qak [3] [] [(1,.v (.int .i64 v)),(2,.v (.bool flex)),(5,.p 0 0),(8,.p 1 0),(9,.p 2 0)] cK iT fun pe iU=>?_
 refine qag (qab ?_)
 refine qaf [0,1,2,3,4] kz ?_
 refine qak [0,1,2] [3,4] [(1,.v (.int .i64 v)),(2,.v (.bool flex)),(5,.p 0 0),(8,.p 1 0),(9,.p 2 0),(17,.v (.agg #[.int .i64 k1,.int .i64 y2,.int .i64 y3,.int .i64 y4,.int .i64 y5,.int .i64 y6,.int .i64 y7,.slice A9 l8.length dU])),(18,.v (.int .i64 v)),(19,.v (.agg #[.int .i64 ac,.slice ai ab.length aj,.bool ae,.slice dV af.length dW,.slice dX ag.length dY]))] cK iU fun pf iV=>?_
 refine qan (qal iV (f:=67) (vs:=[.agg #[.int .i64 k1,.int .i64 y2,.int .i64 y3,.int .i64 y4,.int .i64 y5,.int .i64 y6,.int .i64 y7,.slice A9 l8.length dU],.int .i64 v,.agg #[.int .i64 ac,.slice ai ab.length aj,.bool ae,.slice dV af.length dW,.slice dX ag.length dY]]) (d:=20) kz Tryz.call67 (qlv k1 y2 y3 y4 y5 y6 y7 l8 _ _ v ac ab ae af ag _ _ _ _ _ _ _) ?_)
 rintro e_ pg ⟨rfl,eb⟩
 refine ⟨_,rfl,fun ph iW=>?_⟩
 have aa:=cK.next_nil eb
 have k7:=cK.frN eb
 refine qak [4] [] [(1,.v (.int .i64 v)),(2,.v (.bool flex)),(5,.p 0 0),(8,.p 1 0),(9,.p 2 0),(11,.v (.bool (z4 k1 y2 y3 y4 y5 y6 y7 l8 v ac ab ae af ag)))] aa iW fun pi iX=>?_
 refine qag (qab ?_)
 refine qaf [0,1,2,3,4,5,6,7,8,9] kz ?_
 refine qak [0,1,2,3] [4,5,6,7,8,9] [(1,.v (.int .i64 v)),(2,.v (.bool flex)),(5,.p 0 0),(8,.p 1 0),(9,.p 2 0),(11,.v (.bool (z4 k1 y2 y3 y4 y5 y6 y7 l8 v ac ab ae af ag))),(24,.v (.bool (decide (y4 ≥ 0))))] aa iX fun pj ec=>?_
 refine (zO (decide (y4 ≥ 0))).elim (fun bu=>?_) (fun bu=>?_)
 ·
  have k8:=zD bu
  have iY:=ec
  rw [bu] at iY
  refine qak [4,5,6,7,8,9] [] [(1,.v (.int .i64 v)),(2,.v (.bool flex)),(5,.p 0 0),(8,.p 1 0),(9,.p 2 0),(11,.v (.bool (z4 k1 y2 y3 y4 y5 y6 y7 l8 v ac ab ae af ag))),(12,.v (.bool (decide (v ≥ y4))))] aa iY fun pl iZ=>?_
  refine qag (qab ?_)
  refine wp_seq (qaf [0,1,2,3,4,5,6,7,8,9,10,11,12,13,14,15,16] kz ?_)
  refine qak [0,1,2,3] [4,5,6,7,8,9,10,11,12,13,14,15,16] [(1,.v (.int .i64 v)),(2,.v (.bool flex)),(5,.p 0 0),(8,.p 1 0),(9,.p 2 0),(11,.v (.bool (z4 k1 y2 y3 y4 y5 y6 y7 l8 v ac ab ae af ag))),(12,.v (.bool (decide (v ≥ y4)))),(33,.v (.bool (k1 == 8)))] aa iZ fun pm cL=>?_
  refine (zO (k1 == 8)).elim (fun ak=>?_) (fun ak=>?_)
  ·
   have jl:k1 = 8:=by simpa using ak
   have ee:=cL
   rw [ak] at ee
   refine qak [4,5,6,7,8,9,10,11,12,13,14,15,16] [] [(1,.v (.int .i64 v)),(2,.v (.bool flex)),(5,.p 0 0),(8,.p 1 0),(9,.p 2 0),(11,.v (.bool (z4 k1 y2 y3 y4 y5 y6 y7 l8 v ac ab ae af ag))),(46,.v (.bool (!(ap == (z4 k1 y2 y3 y4 y5 y6 y7 l8 v ac ab ae af ag)))))] aa ee fun k9 bw=>?_
   refine qag (qab ?_)
   refine qax bw (b:=!(ap == (z4 k1 y2 y3 y4 y5 y6 y7 l8 v ac ab ae af ag))) kz (fun bx=>?_) (fun bx=>?_)
   ·
    have jm:!(ap = (Fld.nul (Fld.mk k1 y2 y3 y4 y5 y6 y7 l8) v (Tree.mk ac ab ae af ag))):=by simpa using bx
    refine qas [(10,.v (.bool false))] aa bw fun la ef=>?_
    refine wp_ret (qat (qaK ef aa.cells (v:=.bool false) kz ?_))
    first
     | exact (qkf hq ‹_› ‹_›).elim
     | exact (qhB hq ‹_› ‹_›).elim
     | exact (qg1 hq ‹_› ‹_› ‹_›).elim
   have jn:!(ap ≠ (Fld.nul (Fld.mk k1 y2 y3 y4 y5 y6 y7 l8) v (Tree.mk ac ab ae af ag))):=by simpa using bx
   refine wp_skip (qab (wp_seq (qas (z17 v flex k1 y2 y3 y4 y5 y6 y7 l8 ac ab ae af ag) aa bw fun lb bz=>?_)))
   refine qax bz (b:=Fld.nul (Fld.mk k1 y2 y3 y4 y5 y6 y7 l8) v (Tree.mk ac ab ae af ag)) kz (fun eg=>?_) (fun eg=>?_)
   ·
    refine qas [(10,.v (.bool true))] aa bz fun lc eh=>?_
    refine wp_ret (qat (qaK eh aa.cells (v:=.bool true) kz ?_))
    exact ⟨rfl,aa.step⟩
   refine wp_skip (qab (wp_seq (qas (z13 v flex k1) aa bz fun ld ei=>?_)))
   refine wp_block (wp_seq (qas [(1,.v (.int .i64 v)),(2,.v (.bool flex)),(5,.p 0 0),(8,.p 1 0),(9,.p 2 0),(49,.v (.int .i64 k1)),(50,.v (.bool (k1 == 8)))] aa ei fun lf bA=>?_))
   refine qa9 bA (b:=k1 == 8) kz (ak) ?_
   refine wp_skip (qab (qa9 bA (b:=k1 == 8) kz (ak) ?_))
   refine qaE 6 kz aa fun lg jo aU ej=>?_
   refine qaF [0,1,2,3] (z76 al ah.length am ai ab.length aj) 3 (qaa (qac (qaa qae))) (fun _ h=>h.cells) ej bA fun lh ek=>?_
   have i6:=qbs ab
   refine qap (i:=4) kz (qal ek (f:=37) (vs:=[.slice ai ab.length aj]) (d:=57) kz Tryz.call37 (qea _ _ ab (aH.move aU.step nilM aU.imm).le _) ?_)
   rintro e_ li ⟨rfl,cM⟩
   refine ⟨_,rfl,fun lj em=>?_⟩
   have az:=aU.next_nil cM
   have cN:=aU.frN cM
   have eo:=TT.ofW cN az
   refine ⟨fun _=>eo,?_⟩
   refine qap (i:=5) kz (qal em (f:=36) (vs:=(z80 al ah.length am ai ab aj)) (d:=58) kz Tryz.call36 (qeM _ _ _ _ ah (qaG ab) _ _ ((bq.move az.step nilM az.imm).move (Step.refl _ Nil) nilM allF) (((aH.take 32767).move az.step nilM az.imm).move (Step.refl _ Nil) nilM allF)) ?_)
   rintro e_ lm ⟨rfl,cO⟩
   refine ⟨_,rfl,fun ln ep=>?_⟩
   have aV:=az.next_nil cO
   have eu:=az.frN cO
   have ev:=TT.ofW (cN.trans eu) aV
   refine ⟨fun _=>ev,?_⟩
   refine qap (i:=6) kz (qbq [10] aV.cells ep (env':=[(10,.v (.bool (decide (ah = (qaG ab)))))]) kz fun lp ew=>?_)
   refine ⟨fun h=>absurd rfl h,?_⟩
   refine qaC kz ?_ _
   refine qab (wp_ret (qaz (qat (qaK ew aV.cells (v:=.bool (decide (ah = (qaG ab)))) kz ?_))))
   refine ⟨congrArg (fun b_=>Ending.returned (Value.bool b_)) ?_,aV.step⟩
   first
    | exact qeQ hq ‹_› ‹_›
    | exact qeR hq ‹_› ‹_›
    | exact to_u hq ‹_› ‹_›
    | exact to_m hq ‹_› ‹_› ‹_› ‹_› ‹_› ‹_›
  have jp:k1 ≠ 8:=by simpa using ak
  have ey:=cL.cast (env':=[(1,.v (.int .i64 v)),(2,.v (.bool flex)),(5,.p 0 0),(8,.p 1 0),(9,.p 2 0),(11,.v (.bool (Fld.nul (Fld.mk k1 y2 y3 y4 y5 y6 y7 l8) v (Tree.mk ac ab ae af ag)))),(12,.v (.bool (decide (v ≥ y4)))),(33,.v (.bool false))]) (by rw [ak])
  refine qak [4,5,6,7,8] [9,10,11,12,13,14,15,16] [(1,.v (.int .i64 v)),(2,.v (.bool flex)),(5,.p 0 0),(8,.p 1 0),(9,.p 2 0),(11,.v (.bool (z4 k1 y2 y3 y4 y5 y6 y7 l8 v ac ab ae af ag))),(12,.v (.bool (decide (v ≥ y4)))),(38,.v (.bool (k1 == 10)))] aa ey fun lq cP=>?_
  refine (zO (k1 == 10)).elim (fun ay=>?_) (fun ay=>?_)
  ·
   have jq:k1 = 10:=by simpa using ay
   have ez:=cP
   rw [ay] at ez
   refine qak [9,10,11,12,13,14,15,16] [] [(1,.v (.int .i64 v)),(2,.v (.bool flex)),(5,.p 0 0),(8,.p 1 0),(9,.p 2 0),(11,.v (.bool (z4 k1 y2 y3 y4 y5 y6 y7 l8 v ac ab ae af ag))),(46,.v (.bool (!(ap == (z4 k1 y2 y3 y4 y5 y6 y7 l8 v ac ab ae af ag)))))] aa ez fun lr bB=>?_
   refine qag (qab ?_)
   refine qax bB (b:=!(ap == (z4 k1 y2 y3 y4 y5 y6 y7 l8 v ac ab ae af ag))) kz (fun bC=>?_) (fun bC=>?_)
   ·
    have jr:!(ap = (Fld.nul (Fld.mk k1 y2 y3 y4 y5 y6 y7 l8) v (Tree.mk ac ab ae af ag))):=by simpa using bC
    refine qas [(10,.v (.bool false))] aa bB fun ls eB=>?_
    refine wp_ret (qat (qaK eB aa.cells (v:=.bool false) kz ?_))
    first
     | exact (qkf hq ‹_› ‹_›).elim
     | exact (qhB hq ‹_› ‹_›).elim
     | exact (qg1 hq ‹_› ‹_› ‹_›).elim
   have js:!(ap ≠ (Fld.nul (Fld.mk k1 y2 y3 y4 y5 y6 y7 l8) v (Tree.mk ac ab ae af ag))):=by simpa using bC
   refine wp_skip (qab (wp_seq (qas (z17 v flex k1 y2 y3 y4 y5 y6 y7 l8 ac ab ae af ag) aa bB fun lu bD=>?_)))
   refine qax bD (b:=Fld.nul (Fld.mk k1 y2 y3 y4 y5 y6 y7 l8) v (Tree.mk ac ab ae af ag)) kz (fun eC=>?_) (fun eC=>?_)
   ·
    refine qas [(10,.v (.bool true))] aa bD fun lv eD=>?_
    refine wp_ret (qat (qaK eD aa.cells (v:=.bool true) kz ?_))
    exact ⟨rfl,aa.step⟩
   refine wp_skip (qab (wp_seq (qas (z13 v flex k1) aa bD fun lw eE=>?_)))
   refine wp_block (wp_seq (qas [(1,.v (.int .i64 v)),(2,.v (.bool flex)),(5,.p 0 0),(8,.p 1 0),(9,.p 2 0),(49,.v (.int .i64 k1)),(50,.v (.bool (k1 == 8)))] aa eE fun lx cQ=>?_))
   refine qaq cQ (b:=k1 == 8) kz (ak) ?_
   refine qau [0,1] kz ?_
   refine qak [0,1] [] [(1,.v (.int .i64 v)),(2,.v (.bool flex)),(5,.p 0 0),(8,.p 1 0),(9,.p 2 0),(49,.v (.int .i64 k1)),(50,.v (.bool (k1 == 9)))] aa cQ fun ly bE=>?_
   refine qag (qab ?_)
   refine qax bE (b:=k1 == 9) kz (fun bF=>?_) (fun bF=>?_)
   ·
    have jt:k1 = 9:=by simpa using bF
    refine qaE 6 kz aa fun lz ju aW eF=>?_
    refine qaF [0,1,2,3] (z76 al ah.length am ai ab.length aj) 3 (qaa (qac (qaa qae))) (fun _ h=>h.cells) eF bE fun lA eG=>?_
    have i7:=qbs ab
    refine qap (i:=4) kz (qal eG (f:=37) (vs:=[.slice ai ab.length aj]) (d:=57) kz Tryz.call37 (qea _ _ ab (aH.move aW.step nilM aW.imm).le _) ?_)
    rintro e_ lB ⟨rfl,cR⟩
    refine ⟨_,rfl,fun lC eH=>?_⟩
    have aA:=aW.next_nil cR
    have cS:=aW.frN cR
    have eI:=TT.ofW cS aA
    refine ⟨fun _=>eI,?_⟩
    refine qap (i:=5) kz (qal eH (f:=36) (vs:=(z80 al ah.length am ai ab aj)) (d:=58) kz Tryz.call36 (qeM _ _ _ _ ah (qaG ab) _ _ ((bq.move aA.step nilM aA.imm).move (Step.refl _ Nil) nilM allF) (((aH.take 32767).move aA.step nilM aA.imm).move (Step.refl _ Nil) nilM allF)) ?_)
    rintro e_ lD ⟨rfl,cT⟩
    refine ⟨_,rfl,fun lE eJ=>?_⟩
    have aX:=aA.next_nil cT
    have eK:=aA.frN cT
    have eL:=TT.ofW (cS.trans eK) aX
    refine ⟨fun _=>eL,?_⟩
    refine qap (i:=6) kz (qbq [10] aX.cells eJ (env':=[(10,.v (.bool (decide (ah = (qaG ab)))))]) kz fun lF eM=>?_)
    refine ⟨fun h=>absurd rfl h,?_⟩
    refine qaC kz ?_ _
    refine qab (wp_ret (qaz (qat (qaK eM aX.cells (v:=.bool (decide (ah = (qaG ab)))) kz ?_))))
    refine ⟨congrArg (fun b_=>Ending.returned (Value.bool b_)) ?_,aX.step⟩
    first
     | exact qeQ hq ‹_› ‹_›
     | exact qeR hq ‹_› ‹_›
     | exact to_u hq ‹_› ‹_›
     | exact to_m hq ‹_› ‹_› ‹_› ‹_› ‹_› ‹_›
   have jv:k1 ≠ 9:=by simpa using bF
   refine qas [(1,.v (.int .i64 v)),(2,.v (.bool flex)),(5,.p 0 0),(8,.p 1 0),(9,.p 2 0),(49,.v (.int .i64 k1)),(59,.v (.bool (k1 == 7)))] aa bE fun lG bG=>?_
   refine qax bG (b:=k1 == 7) kz (fun bH=>?_) (fun bH=>?_)
   ·
    have jw:k1 = 7:=by simpa using bH
    refine qaf [0,1] kz ?_
    refine qan (qcU aa bG (d:=61) (j:=16) (t:=22) (e:=5) (bytes:=1) (z:=.int .u8 0) kz kz kz kz (rfl) (rfl) (by omega) fun ar lH lI jx jy jz aO eN=>?_)
    refine qak [1] [] (z45 ar) aO eN fun lJ eO=>?_
    refine qag (qab ?_)
    refine qaf [0,1,2,3] kz ?_
    refine qak [0,1,2] [3] (z27 ar ai ab.length aj) aO eO fun lK eP=>?_
    refine qan (qdb aO eP (k:=0) (d:=65) (t:=22) (u:=22) (e:=5) (bytes:=1) (A:=(some ⟨ar,0,none⟩)) (As:=ai) (m:=ab.length) (cs:=aj) (m0:=16) (c:=16) (xs:=(List.replicate 16 (.int .u8 0))) (news:=bc ab) kz kz rfl (aH.move aO.step nilM aO.imm).src fun lL lM jA eQ eR=>?_)
    have eS:(⟨(some ⟨ar,0,none⟩),16,5,1,16,qbA (List.replicate 16 (.int .u8 0)) 0 ((bc ab).take (min ab.length 16))⟩:Rw) = brow (some ⟨ar,0,none⟩) 16 5 (qbF ab):=qeh _ _ _
    obtain ⟨aI,jB⟩:=eQ.rowEq 0 [brow (some ⟨ar,0,none⟩) 16 5 (qbF ab)] eS
    have eU:=EnvOk.pick eR (ks:=[9,13,62,64,65]) (env':=(z18 ar ai ab.length aj)) kz
    have eV:=eU.cast (env':=[(9,.p 2 0),(13,.v (.slice (some ⟨ar,0,none⟩) ((qbF ab).length) 16)),(62,.v (.slice (some ⟨ar,0,none⟩) ((qbF ab).length) 16)),(64,.v (.slice ai ab.length aj)),(65,.v (.int .i64 ((min ab.length 16:Nat):Int)))]) (by rw [qbt _])
    refine qag (qab ?_)
    refine qaf [0,1,2,3,4] kz ?_
    refine qak [0,1,2] [3,4] (z47 al ah.length am ar ab) aI eV fun lN eW=>?_
    refine qan (qal eW (f:=36) (vs:=[.slice al ah.length am,.slice (some ⟨ar,0,none⟩) ((qbF ab).length) 16]) (d:=69) kz Tryz.call36 (qeM _ _ _ _ ah (qbF ab) _ _ ((bq.move aI.step nilM aI.imm).move (Step.refl _ Nil) nilM allF) (qcF (aI.own 0 _ rfl) (by first | omega | (rw [qbt]; decide) | (simp only [be_length]; exact Nat.le_trans (qbW _) (by decide)) | (have:=hroom; omega) | (have:=hmade; omega) | (simp only [List.length_append,List.length_nil]; omega)) (F:=fun _ _=>True) (fun _ _ _=>trivial))) ?_)
    rintro e_ lO ⟨rfl,cU⟩
    refine ⟨_,rfl,fun lP eX=>?_⟩
    have bI:=aI.next_nil cU
    have jC:=aI.frN cU
    refine qak [4] [] [(10,.v (.bool (decide (ah = qbF ab))))] bI eX fun lQ eY=>?_
    refine qag (qab ?_)
    refine wp_ret (qaz (qat (qaK eY bI.cells (v:=.bool (decide (ah = qbF ab))) kz ?_)))
    refine ⟨congrArg (fun b_=>Ending.returned (Value.bool b_)) ?_,bI.step⟩
    first
     | exact qeQ hq ‹_› ‹_›
     | exact qeR hq ‹_› ‹_›
     | exact to_u hq ‹_› ‹_›
     | exact to_m hq ‹_› ‹_› ‹_› ‹_› ‹_› ‹_›
   have jD:k1 ≠ 7:=by simpa using bH
   refine qas [(1,.v (.int .i64 v)),(2,.v (.bool flex)),(5,.p 0 0),(8,.p 1 0),(9,.p 2 0),(49,.v (.int .i64 k1)),(70,.v (.bool (k1 == 10)))] aa bG fun lR cV=>?_
   refine qa9 cV (b:=k1 == 10) kz (ay) ?_
   refine qaf [0,1,2,3,4,5,6,7] kz ?_
   refine qak [0,1,2,3,4,5] [6,7] [(73,.v (.slice A9 l8.length dU)),(74,.v (.int .i64 v)),(75,.v (.bool flex)),(76,.v (.agg #[.int .i64 ac,.slice ai ab.length aj,.bool ae,.slice dV af.length dW,.slice dX ag.length dY])),(77,.v (.agg #[.int .i64 aN,.slice al ah.length am,.bool ap,.slice d7 dZ.length d8,.slice d9 d5.length ea]))] aa cV fun lS eZ=>?_
   refine qan (qal eZ (f:=12) (vs:=[.slice A9 l8.length dU,.int .i64 v,.bool flex,.agg #[.int .i64 ac,.slice ai ab.length aj,.bool ae,.slice dV af.length dW,.slice dX ag.length dY],.agg #[.int .i64 aN,.slice al ah.length am,.bool ap,.slice d7 dZ.length d8,.slice d9 d5.length ea]]) (d:=78) kz Tryz.call12 ( hT _ _ l8 _ (Tree.mk ac ab ae af ag) _ (Tree.mk aN ah ap dZ d5) _ _ ⟨d6,(iO.move aa.step nilM aa.imm),(fun i_ x_ h_=>((jf i_ x_ h_).move aa.step nilM aa.imm))⟩ (ht.move aa.step nilM aa.imm) (hg.move aa.step nilM aa.imm) hpl (qkg hq ‹_› ‹_›)) ?_)
   rintro e_ lT ⟨rfl,cW⟩
   refine ⟨_,rfl,fun lU e9=>?_⟩
   have bJ:=aa.next_nil cW
   have jE:=aa.frN cW
   refine qak [7] [] [(10,.v (.bool true))] bJ e9 fun lV fb=>?_
   refine qag (qab ?_)
   refine wp_ret (qaz (qat (qaK fb bJ.cells (v:=.bool true) kz ?_)))
   exact ⟨rfl,bJ.step⟩
  have jF:k1 ≠ 10:=by simpa using ay
  have fe:=cP.cast (env':=[(1,.v (.int .i64 v)),(2,.v (.bool flex)),(5,.p 0 0),(8,.p 1 0),(9,.p 2 0),(11,.v (.bool (Fld.nul (Fld.mk k1 y2 y3 y4 y5 y6 y7 l8) v (Tree.mk ac ab ae af ag)))),(12,.v (.bool (decide (v ≥ y4)))),(38,.v (.bool false))]) (by rw [ay])
  refine qak [9,10,11] [12,13,14,15,16] [(1,.v (.int .i64 v)),(2,.v (.bool flex)),(5,.p 0 0),(8,.p 1 0),(9,.p 2 0),(11,.v (.bool (z4 k1 y2 y3 y4 y5 y6 y7 l8 v ac ab ae af ag))),(41,.v (.bool (decide (v ≥ y4))))] aa fe fun lW cX=>?_
  refine (zO (decide (v ≥ y4))).elim (fun aP=>?_) (fun aP=>?_)
  ·
   have jG:=zD aP
   have ff:=cX
   rw [aP] at ff
   refine qak [12,13,14,15,16] [] [(1,.v (.int .i64 v)),(2,.v (.bool flex)),(5,.p 0 0),(8,.p 1 0),(9,.p 2 0),(11,.v (.bool (z4 k1 y2 y3 y4 y5 y6 y7 l8 v ac ab ae af ag))),(46,.v (.bool (!(ap == (z4 k1 y2 y3 y4 y5 y6 y7 l8 v ac ab ae af ag)))))] aa ff fun lX bK=>?_
   refine qag (qab ?_)
   refine qax bK (b:=!(ap == (z4 k1 y2 y3 y4 y5 y6 y7 l8 v ac ab ae af ag))) kz (fun bL=>?_) (fun bL=>?_)
   ·
    have jH:!(ap = (Fld.nul (Fld.mk k1 y2 y3 y4 y5 y6 y7 l8) v (Tree.mk ac ab ae af ag))):=by simpa using bL
    refine qas [(10,.v (.bool false))] aa bK fun lY fg=>?_
    refine wp_ret (qat (qaK fg aa.cells (v:=.bool false) kz ?_))
    first
     | exact (qkf hq ‹_› ‹_›).elim
     | exact (qhB hq ‹_› ‹_›).elim
     | exact (qg1 hq ‹_› ‹_› ‹_›).elim
   have jI:!(ap ≠ (Fld.nul (Fld.mk k1 y2 y3 y4 y5 y6 y7 l8) v (Tree.mk ac ab ae af ag))):=by simpa using bL
   refine wp_skip (qab (wp_seq (qas (z17 v flex k1 y2 y3 y4 y5 y6 y7 l8 ac ab ae af ag) aa bK fun lZ bM=>?_)))
   refine qax bM (b:=Fld.nul (Fld.mk k1 y2 y3 y4 y5 y6 y7 l8) v (Tree.mk ac ab ae af ag)) kz (fun fh=>?_) (fun fh=>?_)
   ·
    refine qas [(10,.v (.bool true))] aa bM fun l0 fi=>?_
    refine wp_ret (qat (qaK fi aa.cells (v:=.bool true) kz ?_))
    exact ⟨rfl,aa.step⟩
   refine wp_skip (qab (wp_seq (qas (z13 v flex k1) aa bM fun l3 fj=>?_)))
   refine wp_block (wp_seq (qas [(1,.v (.int .i64 v)),(2,.v (.bool flex)),(5,.p 0 0),(8,.p 1 0),(9,.p 2 0),(49,.v (.int .i64 k1)),(50,.v (.bool (k1 == 8)))] aa fj fun l5 cY=>?_))
   refine qaq cY (b:=k1 == 8) kz (ak) ?_
   refine qau [0,1] kz ?_
   refine qak [0,1] [] [(1,.v (.int .i64 v)),(2,.v (.bool flex)),(5,.p 0 0),(8,.p 1 0),(9,.p 2 0),(49,.v (.int .i64 k1)),(50,.v (.bool (k1 == 9)))] aa cY fun l6 bN=>?_
   refine qag (qab ?_)
   refine qax bN (b:=k1 == 9) kz (fun bO=>?_) (fun bO=>?_)
   ·
    have jJ:k1 = 9:=by simpa using bO
    refine qaE 6 kz aa fun l7 jK aY fk=>?_
    refine qaF [0,1,2,3] (z76 al ah.length am ai ab.length aj) 3 (qaa (qac (qaa qae))) (fun _ h=>h.cells) fk bN fun l9 fm=>?_
    have ja:=qbs ab
    refine qap (i:=4) kz (qal fm (f:=37) (vs:=[.slice ai ab.length aj]) (d:=57) kz Tryz.call37 (qea _ _ ab (aH.move aY.step nilM aY.imm).le _) ?_)
    rintro e_ ma ⟨rfl,cZ⟩
    refine ⟨_,rfl,fun mc fo=>?_⟩
    have aB:=aY.next_nil cZ
    have c5:=aY.frN cZ
    have fq:=TT.ofW c5 aB
    refine ⟨fun _=>fq,?_⟩
    refine qap (i:=5) kz (qal fo (f:=36) (vs:=(z80 al ah.length am ai ab aj)) (d:=58) kz Tryz.call36 (qeM _ _ _ _ ah (qaG ab) _ _ ((bq.move aB.step nilM aB.imm).move (Step.refl _ Nil) nilM allF) (((aH.take 32767).move aB.step nilM aB.imm).move (Step.refl _ Nil) nilM allF)) ?_)
    rintro e_ md ⟨rfl,c6⟩
    refine ⟨_,rfl,fun me fr=>?_⟩
    have aZ:=aB.next_nil c6
    have ft:=aB.frN c6
    have fv:=TT.ofW (c5.trans ft) aZ
    refine ⟨fun _=>fv,?_⟩
    refine qap (i:=6) kz (qbq [10] aZ.cells fr (env':=[(10,.v (.bool (decide (ah = (qaG ab)))))]) kz fun mf fw=>?_)
    refine ⟨fun h=>absurd rfl h,?_⟩
    refine qaC kz ?_ _
    refine qab (wp_ret (qaz (qat (qaK fw aZ.cells (v:=.bool (decide (ah = (qaG ab)))) kz ?_))))
    refine ⟨congrArg (fun b_=>Ending.returned (Value.bool b_)) ?_,aZ.step⟩
    first
     | exact qeQ hq ‹_› ‹_›
     | exact qeR hq ‹_› ‹_›
     | exact to_u hq ‹_› ‹_›
     | exact to_m hq ‹_› ‹_› ‹_› ‹_› ‹_› ‹_›
   have jL:k1 ≠ 9:=by simpa using bO
   refine qas [(1,.v (.int .i64 v)),(2,.v (.bool flex)),(5,.p 0 0),(8,.p 1 0),(9,.p 2 0),(49,.v (.int .i64 k1)),(59,.v (.bool (k1 == 7)))] aa bN fun mg bP=>?_
   refine qax bP (b:=k1 == 7) kz (fun bQ=>?_) (fun bQ=>?_)
   ·
    have jM:k1 = 7:=by simpa using bQ
    refine qaf [0,1] kz ?_
    refine qan (qcU aa bP (d:=61) (j:=16) (t:=22) (e:=5) (bytes:=1) (z:=.int .u8 0) kz kz kz kz (rfl) (rfl) (by omega) fun au mh mi jN jO jP aQ fx=>?_)
    refine qak [1] [] (z45 au) aQ fx fun mj fy=>?_
    refine qag (qab ?_)
    refine qaf [0,1,2,3] kz ?_
    refine qak [0,1,2] [3] (z27 au ai ab.length aj) aQ fy fun ml fz=>?_
    refine qan (qdb aQ fz (k:=0) (d:=65) (t:=22) (u:=22) (e:=5) (bytes:=1) (A:=(some ⟨au,0,none⟩)) (As:=ai) (m:=ab.length) (cs:=aj) (m0:=16) (c:=16) (xs:=(List.replicate 16 (.int .u8 0))) (news:=bc ab) kz kz rfl (aH.move aQ.step nilM aQ.imm).src fun mn mo jQ fA fB=>?_)
    have fC:(⟨(some ⟨au,0,none⟩),16,5,1,16,qbA (List.replicate 16 (.int .u8 0)) 0 ((bc ab).take (min ab.length 16))⟩:Rw) = brow (some ⟨au,0,none⟩) 16 5 (qbF ab):=qeh _ _ _
    obtain ⟨aJ,jR⟩:=fA.rowEq 0 [brow (some ⟨au,0,none⟩) 16 5 (qbF ab)] fC
    have fD:=EnvOk.pick fB (ks:=[9,13,62,64,65]) (env':=(z18 au ai ab.length aj)) kz
    have fE:=fD.cast (env':=[(9,.p 2 0),(13,.v (.slice (some ⟨au,0,none⟩) ((qbF ab).length) 16)),(62,.v (.slice (some ⟨au,0,none⟩) ((qbF ab).length) 16)),(64,.v (.slice ai ab.length aj)),(65,.v (.int .i64 ((min ab.length 16:Nat):Int)))]) (by rw [qbt _])
    refine qag (qab ?_)
    refine qaf [0,1,2,3,4] kz ?_
    refine qak [0,1,2] [3,4] (z47 al ah.length am au ab) aJ fE fun mp fF=>?_
    refine qan (qal fF (f:=36) (vs:=[.slice al ah.length am,.slice (some ⟨au,0,none⟩) ((qbF ab).length) 16]) (d:=69) kz Tryz.call36 (qeM _ _ _ _ ah (qbF ab) _ _ ((bq.move aJ.step nilM aJ.imm).move (Step.refl _ Nil) nilM allF) (qcF (aJ.own 0 _ rfl) (by first | omega | (rw [qbt]; decide) | (simp only [be_length]; exact Nat.le_trans (qbW _) (by decide)) | (have:=hroom; omega) | (have:=hmade; omega) | (simp only [List.length_append,List.length_nil]; omega)) (F:=fun _ _=>True) (fun _ _ _=>trivial))) ?_)
    rintro e_ mq ⟨rfl,da⟩
    refine ⟨_,rfl,fun mr fG=>?_⟩
    have bR:=aJ.next_nil da
    have jS:=aJ.frN da
    refine qak [4] [] [(10,.v (.bool (decide (ah = qbF ab))))] bR fG fun mt fH=>?_
    refine qag (qab ?_)
    refine wp_ret (qaz (qat (qaK fH bR.cells (v:=.bool (decide (ah = qbF ab))) kz ?_)))
    refine ⟨congrArg (fun b_=>Ending.returned (Value.bool b_)) ?_,bR.step⟩
    first
     | exact qeQ hq ‹_› ‹_›
     | exact qeR hq ‹_› ‹_›
     | exact to_u hq ‹_› ‹_›
     | exact to_m hq ‹_› ‹_› ‹_› ‹_› ‹_› ‹_›
   have jT:k1 ≠ 7:=by simpa using bQ
   refine qas [(1,.v (.int .i64 v)),(2,.v (.bool flex)),(5,.p 0 0),(8,.p 1 0),(9,.p 2 0),(49,.v (.int .i64 k1)),(70,.v (.bool (k1 == 10)))] aa bP fun mu db=>?_
   refine qaq db (b:=k1 == 10) kz (ay) ?_
   refine qas [(1,.v (.int .i64 v)),(2,.v (.bool flex)),(5,.p 0 0),(8,.p 1 0),(9,.p 2 0),(79,.v (.bool (k1 == 11)))] aa db fun mw dc=>?_
   refine qaq dc (b:=k1 == 11) kz (by simpa using bt) ?_
   refine wp_skip (qav (qab (qaE 8 kz aa fun mx jU de fI=>?_)))
   refine qaF [0,1,2,3,4,5] (z89 aN k1 ac) 3 (qaa qae) (fun _ h=>h.cells) fI dc fun my fJ=>?_
   refine qap (i:=6) kz (qal fJ (f:=69) (vs:=[.int .i64 k1,.int .i64 ac]) (d:=122) kz Tryz.call69 (qg3 k1 ac _) ?_)
   rintro e_ mz ⟨rfl,df⟩
   refine ⟨_,rfl,fun mA fK=>?_⟩
   have ba:=de.next_nil df
   have fL:=de.frN df
   have dg:=TT.ofW fL ba
   refine ⟨fun _=>dg,?_⟩
   refine qaF [7] [(123,.v (.bool (aN == (qbL k1 ac))))] 1 (qaa qae) (fun _ h=>h.cells) dg fK fun mB fM=>?_
   refine qap (i:=8) kz (qbq [10] ba.cells fM (env':=[(10,.v (.bool (aN == (qbL k1 ac))))]) kz fun mC fN=>?_)
   refine ⟨fun h=>absurd rfl h,?_⟩
   refine qaC kz ?_ _
   refine qab (wp_ret (qaK fN ba.cells (v:=.bool (aN == (qbL k1 ac))) kz ?_))
   refine ⟨congrArg (fun b_=>Ending.returned (Value.bool b_)) ?_,ba.step⟩
   first
    | exact qeQ hq ‹_› ‹_›
    | exact qeR hq ‹_› ‹_›
    | exact to_u hq ‹_› ‹_›
    | exact to_m hq ‹_› ‹_› ‹_› ‹_› ‹_› ‹_›
  have jV:=zF aP
  have fO:=cX.cast (env':=[(1,.v (.int .i64 v)),(2,.v (.bool flex)),(5,.p 0 0),(8,.p 1 0),(9,.p 2 0),(11,.v (.bool (Fld.nul (Fld.mk k1 y2 y3 y4 y5 y6 y7 l8) v (Tree.mk ac ab ae af ag)))),(41,.v (.bool false))]) (by rw [aP])
  refine qak [12,13,14,15,16] [] (z61 v flex k1 y2 y3 y4 y5 y6 y7 l8 ac ab ae af ag) aa fO fun mD dh=>?_
  refine qag (qab ?_)
  refine qaq dh (b:=false) kz rfl ?_
  refine wp_skip (qab (wp_seq (qas (z17 v flex k1 y2 y3 y4 y5 y6 y7 l8 ac ab ae af ag) aa dh fun mF bS=>?_)))
  refine qax bS (b:=Fld.nul (Fld.mk k1 y2 y3 y4 y5 y6 y7 l8) v (Tree.mk ac ab ae af ag)) kz (fun fP=>?_) (fun fP=>?_)
  ·
   refine qas [(10,.v (.bool true))] aa bS fun mG fQ=>?_
   refine wp_ret (qat (qaK fQ aa.cells (v:=.bool true) kz ?_))
   exact ⟨rfl,aa.step⟩
  refine wp_skip (qab (wp_seq (qas (z13 v flex k1) aa bS fun mH fR=>?_)))
  refine wp_block (wp_seq (qas [(1,.v (.int .i64 v)),(2,.v (.bool flex)),(5,.p 0 0),(8,.p 1 0),(9,.p 2 0),(49,.v (.int .i64 k1)),(50,.v (.bool (k1 == 8)))] aa fR fun mI di=>?_))
  refine qaq di (b:=k1 == 8) kz (ak) ?_
  refine qau [0,1] kz ?_
  refine qak [0,1] [] [(1,.v (.int .i64 v)),(2,.v (.bool flex)),(5,.p 0 0),(8,.p 1 0),(9,.p 2 0),(49,.v (.int .i64 k1)),(50,.v (.bool (k1 == 9)))] aa di fun mJ bT=>?_
  refine qag (qab ?_)
  refine qax bT (b:=k1 == 9) kz (fun bU=>?_) (fun bU=>?_)
  ·
   have jW:k1 = 9:=by simpa using bU
   refine qaE 6 kz aa fun mK jX bd fS=>?_
   refine qaF [0,1,2,3] (z76 al ah.length am ai ab.length aj) 3 (qaa (qac (qaa qae))) (fun _ h=>h.cells) fS bT fun mL fT=>?_
   have jb:=qbs ab
   refine qap (i:=4) kz (qal fT (f:=37) (vs:=[.slice ai ab.length aj]) (d:=57) kz Tryz.call37 (qea _ _ ab (aH.move bd.step nilM bd.imm).le _) ?_)
   rintro e_ mM ⟨rfl,dj⟩
   refine ⟨_,rfl,fun mN fU=>?_⟩
   have aC:=bd.next_nil dj
   have dl:=bd.frN dj
   have fV:=TT.ofW dl aC
   refine ⟨fun _=>fV,?_⟩
   refine qap (i:=5) kz (qal fU (f:=36) (vs:=(z80 al ah.length am ai ab aj)) (d:=58) kz Tryz.call36 (qeM _ _ _ _ ah (qaG ab) _ _ ((bq.move aC.step nilM aC.imm).move (Step.refl _ Nil) nilM allF) (((aH.take 32767).move aC.step nilM aC.imm).move (Step.refl _ Nil) nilM allF)) ?_)
   rintro e_ mO ⟨rfl,dp⟩
   refine ⟨_,rfl,fun mQ fW=>?_⟩
   have bf:=aC.next_nil dp
   have fX:=aC.frN dp
   have fY:=TT.ofW (dl.trans fX) bf
   refine ⟨fun _=>fY,?_⟩
   refine qap (i:=6) kz (qbq [10] bf.cells fW (env':=[(10,.v (.bool (decide (ah = (qaG ab)))))]) kz fun mR fZ=>?_)
   refine ⟨fun h=>absurd rfl h,?_⟩
   refine qaC kz ?_ _
   refine qab (wp_ret (qaz (qat (qaK fZ bf.cells (v:=.bool (decide (ah = (qaG ab)))) kz ?_))))
   refine ⟨congrArg (fun b_=>Ending.returned (Value.bool b_)) ?_,bf.step⟩
   first
    | exact qeQ hq ‹_› ‹_›
    | exact qeR hq ‹_› ‹_›
    | exact to_u hq ‹_› ‹_›
    | exact to_m hq ‹_› ‹_› ‹_› ‹_› ‹_› ‹_›
  have jY:k1 ≠ 9:=by simpa using bU
  refine qas [(1,.v (.int .i64 v)),(2,.v (.bool flex)),(5,.p 0 0),(8,.p 1 0),(9,.p 2 0),(49,.v (.int .i64 k1)),(59,.v (.bool (k1 == 7)))] aa bT fun mS bV=>?_
  refine qax bV (b:=k1 == 7) kz (fun bW=>?_) (fun bW=>?_)
  ·
   have jZ:k1 = 7:=by simpa using bW
   refine qaf [0,1] kz ?_
   refine qan (qcU aa bV (d:=61) (j:=16) (t:=22) (e:=5) (bytes:=1) (z:=.int .u8 0) kz kz kz kz (rfl) (rfl) (by omega) fun av mT mU j0 j1 j2 aR f5=>?_)
   refine qak [1] [] (z45 av) aR f5 fun mV f7=>?_
   refine qag (qab ?_)
   refine qaf [0,1,2,3] kz ?_
   refine qak [0,1,2] [3] (z27 av ai ab.length aj) aR f7 fun mW f8=>?_
   refine qan (qdb aR f8 (k:=0) (d:=65) (t:=22) (u:=22) (e:=5) (bytes:=1) (A:=(some ⟨av,0,none⟩)) (As:=ai) (m:=ab.length) (cs:=aj) (m0:=16) (c:=16) (xs:=(List.replicate 16 (.int .u8 0))) (news:=bc ab) kz kz rfl (aH.move aR.step nilM aR.imm).src fun mX mY j3 f9 ga=>?_)
   have gb:(⟨(some ⟨av,0,none⟩),16,5,1,16,qbA (List.replicate 16 (.int .u8 0)) 0 ((bc ab).take (min ab.length 16))⟩:Rw) = brow (some ⟨av,0,none⟩) 16 5 (qbF ab):=qeh _ _ _
   obtain ⟨aK,j4⟩:=f9.rowEq 0 [brow (some ⟨av,0,none⟩) 16 5 (qbF ab)] gb
   have gc:=EnvOk.pick ga (ks:=[9,13,62,64,65]) (env':=(z18 av ai ab.length aj)) kz
   have gd:=gc.cast (env':=[(9,.p 2 0),(13,.v (.slice (some ⟨av,0,none⟩) ((qbF ab).length) 16)),(62,.v (.slice (some ⟨av,0,none⟩) ((qbF ab).length) 16)),(64,.v (.slice ai ab.length aj)),(65,.v (.int .i64 ((min ab.length 16:Nat):Int)))]) (by rw [qbt _])
   refine qag (qab ?_)
   refine qaf [0,1,2,3,4] kz ?_
   refine qak [0,1,2] [3,4] (z47 al ah.length am av ab) aK gd fun mZ ge=>?_
   refine qan (qal ge (f:=36) (vs:=[.slice al ah.length am,.slice (some ⟨av,0,none⟩) ((qbF ab).length) 16]) (d:=69) kz Tryz.call36 (qeM _ _ _ _ ah (qbF ab) _ _ ((bq.move aK.step nilM aK.imm).move (Step.refl _ Nil) nilM allF) (qcF (aK.own 0 _ rfl) (by first | omega | (rw [qbt]; decide) | (simp only [be_length]; exact Nat.le_trans (qbW _) (by decide)) | (have:=hroom; omega) | (have:=hmade; omega) | (simp only [List.length_append,List.length_nil]; omega)) (F:=fun _ _=>True) (fun _ _ _=>trivial))) ?_)
   rintro e_ m4 ⟨rfl,dq⟩
   refine ⟨_,rfl,fun m5 gg=>?_⟩
   have bX:=aK.next_nil dq
   have j5:=aK.frN dq
   refine qak [4] [] [(10,.v (.bool (decide (ah = qbF ab))))] bX gg fun m6 gh=>?_
   refine qag (qab ?_)
   refine wp_ret (qaz (qat (qaK gh bX.cells (v:=.bool (decide (ah = qbF ab))) kz ?_)))
   refine ⟨congrArg (fun b_=>Ending.returned (Value.bool b_)) ?_,bX.step⟩
   first
    | exact qeQ hq ‹_› ‹_›
    | exact qeR hq ‹_› ‹_›
    | exact to_u hq ‹_› ‹_›
    | exact to_m hq ‹_› ‹_› ‹_› ‹_› ‹_› ‹_›
  have j6:k1 ≠ 7:=by simpa using bW
  refine qas [(1,.v (.int .i64 v)),(2,.v (.bool flex)),(5,.p 0 0),(8,.p 1 0),(9,.p 2 0),(49,.v (.int .i64 k1)),(70,.v (.bool (k1 == 10)))] aa bV fun m7 dr=>?_
  refine qaq dr (b:=k1 == 10) kz (ay) ?_
  refine qas [(1,.v (.int .i64 v)),(2,.v (.bool flex)),(5,.p 0 0),(8,.p 1 0),(9,.p 2 0),(79,.v (.bool (k1 == 11)))] aa dr fun m8 dt=>?_
  refine qaq dt (b:=k1 == 11) kz (by simpa using bt) ?_
  refine wp_skip (qav (qab (qaE 8 kz aa fun m9 j7 du gi=>?_)))
  refine qaF [0,1,2,3,4,5] (z89 aN k1 ac) 3 (qaa qae) (fun _ h=>h.cells) gi dt fun nf gj=>?_
  refine qap (i:=6) kz (qal gj (f:=69) (vs:=[.int .i64 k1,.int .i64 ac]) (d:=122) kz Tryz.call69 (qg3 k1 ac _) ?_)
  rintro e_ ng ⟨rfl,dv⟩
  refine ⟨_,rfl,fun nh gk=>?_⟩
  have bg:=du.next_nil dv
  have gl:=du.frN dv
  have dw:=TT.ofW gl bg
  refine ⟨fun _=>dw,?_⟩
  refine qaF [7] [(123,.v (.bool (aN == (qbL k1 ac))))] 1 (qaa qae) (fun _ h=>h.cells) dw gk fun ni gm=>?_
  refine qap (i:=8) kz (qbq [10] bg.cells gm (env':=[(10,.v (.bool (aN == (qbL k1 ac))))]) kz fun nj gn=>?_)
  refine ⟨fun h=>absurd rfl h,?_⟩
  refine qaC kz ?_ _
  refine qab (wp_ret (qaK gn bg.cells (v:=.bool (aN == (qbL k1 ac))) kz ?_))
  refine ⟨congrArg (fun b_=>Ending.returned (Value.bool b_)) ?_,bg.step⟩
  first
   | exact qeQ hq ‹_› ‹_›
   | exact qeR hq ‹_› ‹_›
   | exact to_u hq ‹_› ‹_›
   | exact to_m hq ‹_› ‹_› ‹_› ‹_› ‹_› ‹_›
 have j8:=zF bu
 have gp:=ec.cast (env':=[(1,.v (.int .i64 v)),(2,.v (.bool flex)),(5,.p 0 0),(8,.p 1 0),(9,.p 2 0),(11,.v (.bool (Fld.nul (Fld.mk k1 y2 y3 y4 y5 y6 y7 l8) v (Tree.mk ac ab ae af ag)))),(24,.v (.bool false))]) (by rw [bu])
 refine qak [4,5,6,7,8,9] [] [(1,.v (.int .i64 v)),(2,.v (.bool flex)),(5,.p 0 0),(8,.p 1 0),(9,.p 2 0),(11,.v (.bool (z4 k1 y2 y3 y4 y5 y6 y7 l8 v ac ab ae af ag))),(12,.v (.bool false))] aa gp fun nk gq=>?_
 refine qag (qab ?_)
 refine wp_seq (qaf [0,1,2,3,4,5,6,7,8,9,10,11,12,13,14,15,16] kz ?_)
 refine qak [0,1,2,3] [4,5,6,7,8,9,10,11,12,13,14,15,16] [(1,.v (.int .i64 v)),(2,.v (.bool flex)),(5,.p 0 0),(8,.p 1 0),(9,.p 2 0),(11,.v (.bool (z4 k1 y2 y3 y4 y5 y6 y7 l8 v ac ab ae af ag))),(12,.v (.bool false)),(33,.v (.bool (k1 == 8)))] aa gq fun nl dx=>?_
 refine (zO (k1 == 8)).elim (fun ao=>?_) (fun ao=>?_)
 ·
  have j9:k1 = 8:=by simpa using ao
  have gt:=dx
  rw [ao] at gt
  refine qak [4,5,6,7,8,9,10,11,12,13,14,15,16] [] [(1,.v (.int .i64 v)),(2,.v (.bool flex)),(5,.p 0 0),(8,.p 1 0),(9,.p 2 0),(11,.v (.bool (z4 k1 y2 y3 y4 y5 y6 y7 l8 v ac ab ae af ag))),(46,.v (.bool (!(ap == (z4 k1 y2 y3 y4 y5 y6 y7 l8 v ac ab ae af ag)))))] aa gt fun nm bY=>?_
  refine qag (qab ?_)
  refine qax bY (b:=!(ap == (z4 k1 y2 y3 y4 y5 y6 y7 l8 v ac ab ae af ag))) kz (fun bZ=>?_) (fun bZ=>?_)
  ·
   have ka:!(ap = (Fld.nul (Fld.mk k1 y2 y3 y4 y5 y6 y7 l8) v (Tree.mk ac ab ae af ag))):=by simpa using bZ
   refine qas [(10,.v (.bool false))] aa bY fun np gv=>?_
   refine wp_ret (qat (qaK gv aa.cells (v:=.bool false) kz ?_))
   first
    | exact (qkf hq ‹_› ‹_›).elim
    | exact (qhB hq ‹_› ‹_›).elim
    | exact (qg1 hq ‹_› ‹_› ‹_›).elim
  have kd:!(ap ≠ (Fld.nul (Fld.mk k1 y2 y3 y4 y5 y6 y7 l8) v (Tree.mk ac ab ae af ag))):=by simpa using bZ
  refine wp_skip (qab (wp_seq (qas (z17 v flex k1 y2 y3 y4 y5 y6 y7 l8 ac ab ae af ag) aa bY fun nr cd=>?_)))
  refine qax cd (b:=Fld.nul (Fld.mk k1 y2 y3 y4 y5 y6 y7 l8) v (Tree.mk ac ab ae af ag)) kz (fun gw=>?_) (fun gw=>?_)
  ·
   refine qas [(10,.v (.bool true))] aa cd fun ns gx=>?_
   refine wp_ret (qat (qaK gx aa.cells (v:=.bool true) kz ?_))
   exact ⟨rfl,aa.step⟩
  refine wp_skip (qab (wp_seq (qas (z13 v flex k1) aa cd fun nt gy=>?_)))
  refine wp_block (wp_seq (qas [(1,.v (.int .i64 v)),(2,.v (.bool flex)),(5,.p 0 0),(8,.p 1 0),(9,.p 2 0),(49,.v (.int .i64 k1)),(50,.v (.bool (k1 == 8)))] aa gy fun nu ce=>?_))
  refine qa9 ce (b:=k1 == 8) kz (ao) ?_
  refine wp_skip (qab (qa9 ce (b:=k1 == 8) kz (ao) ?_))
  refine qaE 6 kz aa fun nv ke bh gz=>?_
  refine qaF [0,1,2,3] (z76 al ah.length am ai ab.length aj) 3 (qaa (qac (qaa qae))) (fun _ h=>h.cells) gz ce fun nw gA=>?_
  have jc:=qbs ab
  refine qap (i:=4) kz (qal gA (f:=37) (vs:=[.slice ai ab.length aj]) (d:=57) kz Tryz.call37 (qea _ _ ab (aH.move bh.step nilM bh.imm).le _) ?_)
  rintro e_ nx ⟨rfl,dy⟩
  refine ⟨_,rfl,fun ny gB=>?_⟩
  have aD:=bh.next_nil dy
  have dz:=bh.frN dy
  have gC:=TT.ofW dz aD
  refine ⟨fun _=>gC,?_⟩
  refine qap (i:=5) kz (qal gB (f:=36) (vs:=(z80 al ah.length am ai ab aj)) (d:=58) kz Tryz.call36 (qeM _ _ _ _ ah (qaG ab) _ _ ((bq.move aD.step nilM aD.imm).move (Step.refl _ Nil) nilM allF) (((aH.take 32767).move aD.step nilM aD.imm).move (Step.refl _ Nil) nilM allF)) ?_)
  rintro e_ nz ⟨rfl,dA⟩
  refine ⟨_,rfl,fun nA gD=>?_⟩
  have bi:=aD.next_nil dA
  have gE:=aD.frN dA
  have gF:=TT.ofW (dz.trans gE) bi
  refine ⟨fun _=>gF,?_⟩
  refine qap (i:=6) kz (qbq [10] bi.cells gD (env':=[(10,.v (.bool (decide (ah = (qaG ab)))))]) kz fun nB gG=>?_)
  refine ⟨fun h=>absurd rfl h,?_⟩
  refine qaC kz ?_ _
  refine qab (wp_ret (qaz (qat (qaK gG bi.cells (v:=.bool (decide (ah = (qaG ab)))) kz ?_))))
  refine ⟨congrArg (fun b_=>Ending.returned (Value.bool b_)) ?_,bi.step⟩
  first
   | exact qeQ hq ‹_› ‹_›
   | exact qeR hq ‹_› ‹_›
   | exact to_u hq ‹_› ‹_›
   | exact to_m hq ‹_› ‹_› ‹_› ‹_› ‹_› ‹_›
 have kf:k1 ≠ 8:=by simpa using ao
 have gH:=dx.cast (env':=[(1,.v (.int .i64 v)),(2,.v (.bool flex)),(5,.p 0 0),(8,.p 1 0),(9,.p 2 0),(11,.v (.bool (Fld.nul (Fld.mk k1 y2 y3 y4 y5 y6 y7 l8) v (Tree.mk ac ab ae af ag)))),(12,.v (.bool false)),(33,.v (.bool false))]) (by rw [ao])
 refine qak [4,5,6,7,8] [9,10,11,12,13,14,15,16] [(1,.v (.int .i64 v)),(2,.v (.bool flex)),(5,.p 0 0),(8,.p 1 0),(9,.p 2 0),(11,.v (.bool (z4 k1 y2 y3 y4 y5 y6 y7 l8 v ac ab ae af ag))),(12,.v (.bool false)),(38,.v (.bool (k1 == 10)))] aa gH fun nC dB=>?_
 refine (zO (k1 == 10)).elim (fun aE=>?_) (fun aE=>?_)
 ·
  have kg:k1 = 10:=by simpa using aE
  have gI:=dB
  rw [aE] at gI
  refine qak [9,10,11,12,13,14,15,16] [] [(1,.v (.int .i64 v)),(2,.v (.bool flex)),(5,.p 0 0),(8,.p 1 0),(9,.p 2 0),(11,.v (.bool (z4 k1 y2 y3 y4 y5 y6 y7 l8 v ac ab ae af ag))),(46,.v (.bool (!(ap == (z4 k1 y2 y3 y4 y5 y6 y7 l8 v ac ab ae af ag)))))] aa gI fun nD cm=>?_
  refine qag (qab ?_)
  refine qax cm (b:=!(ap == (z4 k1 y2 y3 y4 y5 y6 y7 l8 v ac ab ae af ag))) kz (fun cq=>?_) (fun cq=>?_)
  ·
   have kh:!(ap = (Fld.nul (Fld.mk k1 y2 y3 y4 y5 y6 y7 l8) v (Tree.mk ac ab ae af ag))):=by simpa using cq
   refine qas [(10,.v (.bool false))] aa cm fun nE gJ=>?_
   refine wp_ret (qat (qaK gJ aa.cells (v:=.bool false) kz ?_))
   first
    | exact (qkf hq ‹_› ‹_›).elim
    | exact (qhB hq ‹_› ‹_›).elim
    | exact (qg1 hq ‹_› ‹_› ‹_›).elim
  have ki:!(ap ≠ (Fld.nul (Fld.mk k1 y2 y3 y4 y5 y6 y7 l8) v (Tree.mk ac ab ae af ag))):=by simpa using cq
  refine wp_skip (qab (wp_seq (qas (z17 v flex k1 y2 y3 y4 y5 y6 y7 l8 ac ab ae af ag) aa cm fun nF cr=>?_)))
  refine qax cr (b:=Fld.nul (Fld.mk k1 y2 y3 y4 y5 y6 y7 l8) v (Tree.mk ac ab ae af ag)) kz (fun gK=>?_) (fun gK=>?_)
  ·
   refine qas [(10,.v (.bool true))] aa cr fun nG gL=>?_
   refine wp_ret (qat (qaK gL aa.cells (v:=.bool true) kz ?_))
   exact ⟨rfl,aa.step⟩
  refine wp_skip (qab (wp_seq (qas (z13 v flex k1) aa cr fun nH gM=>?_)))
  refine wp_block (wp_seq (qas [(1,.v (.int .i64 v)),(2,.v (.bool flex)),(5,.p 0 0),(8,.p 1 0),(9,.p 2 0),(49,.v (.int .i64 k1)),(50,.v (.bool (k1 == 8)))] aa gM fun nI dC=>?_))
  refine qaq dC (b:=k1 == 8) kz (ao) ?_
  refine qau [0,1] kz ?_
  refine qak [0,1] [] [(1,.v (.int .i64 v)),(2,.v (.bool flex)),(5,.p 0 0),(8,.p 1 0),(9,.p 2 0),(49,.v (.int .i64 k1)),(50,.v (.bool (k1 == 9)))] aa dC fun nJ cu=>?_
  refine qag (qab ?_)
  refine qax cu (b:=k1 == 9) kz (fun cw=>?_) (fun cw=>?_)
  ·
   have kj:k1 = 9:=by simpa using cw
   refine qaE 6 kz aa fun nK km bj gN=>?_
   refine qaF [0,1,2,3] (z76 al ah.length am ai ab.length aj) 3 (qaa (qac (qaa qae))) (fun _ h=>h.cells) gN cu fun nL gO=>?_
   have jd:=qbs ab
   refine qap (i:=4) kz (qal gO (f:=37) (vs:=[.slice ai ab.length aj]) (d:=57) kz Tryz.call37 (qea _ _ ab (aH.move bj.step nilM bj.imm).le _) ?_)
   rintro e_ nM ⟨rfl,dD⟩
   refine ⟨_,rfl,fun nN gP=>?_⟩
   have aF:=bj.next_nil dD
   have dE:=bj.frN dD
   have gQ:=TT.ofW dE aF
   refine ⟨fun _=>gQ,?_⟩
   refine qap (i:=5) kz (qal gP (f:=36) (vs:=(z80 al ah.length am ai ab aj)) (d:=58) kz Tryz.call36 (qeM _ _ _ _ ah (qaG ab) _ _ ((bq.move aF.step nilM aF.imm).move (Step.refl _ Nil) nilM allF) (((aH.take 32767).move aF.step nilM aF.imm).move (Step.refl _ Nil) nilM allF)) ?_)
   rintro e_ nO ⟨rfl,dF⟩
   refine ⟨_,rfl,fun nP gR=>?_⟩
   have bk:=aF.next_nil dF
   have gS:=aF.frN dF
   have gT:=TT.ofW (dE.trans gS) bk
   refine ⟨fun _=>gT,?_⟩
   refine qap (i:=6) kz (qbq [10] bk.cells gR (env':=[(10,.v (.bool (decide (ah = (qaG ab)))))]) kz fun nQ gU=>?_)
   refine ⟨fun h=>absurd rfl h,?_⟩
   refine qaC kz ?_ _
   refine qab (wp_ret (qaz (qat (qaK gU bk.cells (v:=.bool (decide (ah = (qaG ab)))) kz ?_))))
   refine ⟨congrArg (fun b_=>Ending.returned (Value.bool b_)) ?_,bk.step⟩
   first
    | exact qeQ hq ‹_› ‹_›
    | exact qeR hq ‹_› ‹_›
    | exact to_u hq ‹_› ‹_›
    | exact to_m hq ‹_› ‹_› ‹_› ‹_› ‹_› ‹_›
  have ko:k1 ≠ 9:=by simpa using cw
  refine qas [(1,.v (.int .i64 v)),(2,.v (.bool flex)),(5,.p 0 0),(8,.p 1 0),(9,.p 2 0),(49,.v (.int .i64 k1)),(59,.v (.bool (k1 == 7)))] aa cu fun nR cz=>?_
  refine qax cz (b:=k1 == 7) kz (fun cA=>?_) (fun cA=>?_)
  ·
   have kp:k1 = 7:=by simpa using cA
   refine qaf [0,1] kz ?_
   refine qan (qcU aa cz (d:=61) (j:=16) (t:=22) (e:=5) (bytes:=1) (z:=.int .u8 0) kz kz kz kz (rfl) (rfl) (by omega) fun aw nS nT kq ku kv aS gV=>?_)
   refine qak [1] [] (z45 aw) aS gV fun nU gW=>?_
   refine qag (qab ?_)
   refine qaf [0,1,2,3] kz ?_
   refine qak [0,1,2] [3] (z27 aw ai ab.length aj) aS gW fun nV gX=>?_
   refine qan (qdb aS gX (k:=0) (d:=65) (t:=22) (u:=22) (e:=5) (bytes:=1) (A:=(some ⟨aw,0,none⟩)) (As:=ai) (m:=ab.length) (cs:=aj) (m0:=16) (c:=16) (xs:=(List.replicate 16 (.int .u8 0))) (news:=bc ab) kz kz rfl (aH.move aS.step nilM aS.imm).src fun nW nX kw gY gZ=>?_)
   have g9:(⟨(some ⟨aw,0,none⟩),16,5,1,16,qbA (List.replicate 16 (.int .u8 0)) 0 ((bc ab).take (min ab.length 16))⟩:Rw) = brow (some ⟨aw,0,none⟩) 16 5 (qbF ab):=qeh _ _ _
   obtain ⟨aL,kx⟩:=gY.rowEq 0 [brow (some ⟨aw,0,none⟩) 16 5 (qbF ab)] g9
   have hC:=EnvOk.pick gZ (ks:=[9,13,62,64,65]) (env':=(z18 aw ai ab.length aj)) kz
   have hJ:=hC.cast (env':=[(9,.p 2 0),(13,.v (.slice (some ⟨aw,0,none⟩) ((qbF ab).length) 16)),(62,.v (.slice (some ⟨aw,0,none⟩) ((qbF ab).length) 16)),(64,.v (.slice ai ab.length aj)),(65,.v (.int .i64 ((min ab.length 16:Nat):Int)))]) (by rw [qbt _])
   refine qag (qab ?_)
   refine qaf [0,1,2,3,4] kz ?_
   refine qak [0,1,2] [3,4] (z47 al ah.length am aw ab) aL hJ fun nY hK=>?_
   refine qan (qal hK (f:=36) (vs:=[.slice al ah.length am,.slice (some ⟨aw,0,none⟩) ((qbF ab).length) 16]) (d:=69) kz Tryz.call36 (qeM _ _ _ _ ah (qbF ab) _ _ ((bq.move aL.step nilM aL.imm).move (Step.refl _ Nil) nilM allF) (qcF (aL.own 0 _ rfl) (by first | omega | (rw [qbt]; decide) | (simp only [be_length]; exact Nat.le_trans (qbW _) (by decide)) | (have:=hroom; omega) | (have:=hmade; omega) | (simp only [List.length_append,List.length_nil]; omega)) (F:=fun _ _=>True) (fun _ _ _=>trivial))) ?_)
   rintro e_ nZ ⟨rfl,dG⟩
   refine ⟨_,rfl,fun n4 hZ=>?_⟩
   have cB:=aL.next_nil dG
   have ky:=aL.frN dG
   refine qak [4] [] [(10,.v (.bool (decide (ah = qbF ab))))] cB hZ fun n5 ia=>?_
   refine qag (qab ?_)
   refine wp_ret (qaz (qat (qaK ia cB.cells (v:=.bool (decide (ah = qbF ab))) kz ?_)))
   refine ⟨congrArg (fun b_=>Ending.returned (Value.bool b_)) ?_,cB.step⟩
   first
    | exact qeQ hq ‹_› ‹_›
    | exact qeR hq ‹_› ‹_›
    | exact to_u hq ‹_› ‹_›
    | exact to_m hq ‹_› ‹_› ‹_› ‹_› ‹_› ‹_›
  have kA:k1 ≠ 7:=by simpa using cA
  refine qas [(1,.v (.int .i64 v)),(2,.v (.bool flex)),(5,.p 0 0),(8,.p 1 0),(9,.p 2 0),(49,.v (.int .i64 k1)),(70,.v (.bool (k1 == 10)))] aa cz fun n8 dH=>?_
  refine qa9 dH (b:=k1 == 10) kz (aE) ?_
  refine qaf [0,1,2,3,4,5,6,7] kz ?_
  refine qak [0,1,2,3,4,5] [6,7] [(73,.v (.slice A9 l8.length dU)),(74,.v (.int .i64 v)),(75,.v (.bool flex)),(76,.v (.agg #[.int .i64 ac,.slice ai ab.length aj,.bool ae,.slice dV af.length dW,.slice dX ag.length dY])),(77,.v (.agg #[.int .i64 aN,.slice al ah.length am,.bool ap,.slice d7 dZ.length d8,.slice d9 d5.length ea]))] aa dH fun oa ib=>?_
  refine qan (qal ib (f:=12) (vs:=[.slice A9 l8.length dU,.int .i64 v,.bool flex,.agg #[.int .i64 ac,.slice ai ab.length aj,.bool ae,.slice dV af.length dW,.slice dX ag.length dY],.agg #[.int .i64 aN,.slice al ah.length am,.bool ap,.slice d7 dZ.length d8,.slice d9 d5.length ea]]) (d:=78) kz Tryz.call12 ( hT _ _ l8 _ (Tree.mk ac ab ae af ag) _ (Tree.mk aN ah ap dZ d5) _ _ ⟨d6,(iO.move aa.step nilM aa.imm),(fun i_ x_ h_=>((jf i_ x_ h_).move aa.step nilM aa.imm))⟩ (ht.move aa.step nilM aa.imm) (hg.move aa.step nilM aa.imm) hpl (qkg hq ‹_› ‹_›)) ?_)
  rintro e_ od ⟨rfl,dI⟩
  refine ⟨_,rfl,fun oe ic=>?_⟩
  have cC:=aa.next_nil dI
  have kB:=aa.frN dI
  refine qak [7] [] [(10,.v (.bool true))] cC ic fun og ig=>?_
  refine qag (qab ?_)
  refine wp_ret (qaz (qat (qaK ig cC.cells (v:=.bool true) kz ?_)))
  exact ⟨rfl,cC.step⟩
 have kC:k1 ≠ 10:=by simpa using aE
 have ii:=dB.cast (env':=[(1,.v (.int .i64 v)),(2,.v (.bool flex)),(5,.p 0 0),(8,.p 1 0),(9,.p 2 0),(11,.v (.bool (Fld.nul (Fld.mk k1 y2 y3 y4 y5 y6 y7 l8) v (Tree.mk ac ab ae af ag)))),(12,.v (.bool false)),(38,.v (.bool false))]) (by rw [aE])
 refine qak [9,10,11,12,13,14,15,16] [] (z61 v flex k1 y2 y3 y4 y5 y6 y7 l8 ac ab ae af ag) aa ii fun oh dJ=>?_
 refine qag (qab ?_)
 refine qaq dJ (b:=false) kz rfl ?_
 refine wp_skip (qab (wp_seq (qas (z17 v flex k1 y2 y3 y4 y5 y6 y7 l8 ac ab ae af ag) aa dJ fun ol cD=>?_)))
 refine qax cD (b:=Fld.nul (Fld.mk k1 y2 y3 y4 y5 y6 y7 l8) v (Tree.mk ac ab ae af ag)) kz (fun ij=>?_) (fun ij=>?_)
 ·
  refine qas [(10,.v (.bool true))] aa cD fun om ik=>?_
  refine wp_ret (qat (qaK ik aa.cells (v:=.bool true) kz ?_))
  exact ⟨rfl,aa.step⟩
 refine wp_skip (qab (wp_seq (qas (z13 v flex k1) aa cD fun oq il=>?_)))
 refine wp_block (wp_seq (qas [(1,.v (.int .i64 v)),(2,.v (.bool flex)),(5,.p 0 0),(8,.p 1 0),(9,.p 2 0),(49,.v (.int .i64 k1)),(50,.v (.bool (k1 == 8)))] aa il fun ot dK=>?_))
 refine qaq dK (b:=k1 == 8) kz (ao) ?_
 refine qau [0,1] kz ?_
 refine qak [0,1] [] [(1,.v (.int .i64 v)),(2,.v (.bool flex)),(5,.p 0 0),(8,.p 1 0),(9,.p 2 0),(49,.v (.int .i64 k1)),(50,.v (.bool (k1 == 9)))] aa dK fun ou cE=>?_
 refine qag (qab ?_)
 refine qax cE (b:=k1 == 9) kz (fun cG=>?_) (fun cG=>?_)
 ·
  have kD:k1 = 9:=by simpa using cG
  refine qaE 6 kz aa fun ov kE bn im=>?_
  refine qaF [0,1,2,3] (z76 al ah.length am ai ab.length aj) 3 (qaa (qac (qaa qae))) (fun _ h=>h.cells) im cE fun ow io=>?_
  have je:=qbs ab
  refine qap (i:=4) kz (qal io (f:=37) (vs:=[.slice ai ab.length aj]) (d:=57) kz Tryz.call37 (qea _ _ ab (aH.move bn.step nilM bn.imm).le _) ?_)
  rintro e_ ox ⟨rfl,dL⟩
  refine ⟨_,rfl,fun oy ip=>?_⟩
  have aG:=bn.next_nil dL
  have dM:=bn.frN dL
  have iq:=TT.ofW dM aG
  refine ⟨fun _=>iq,?_⟩
  refine qap (i:=5) kz (qal ip (f:=36) (vs:=(z80 al ah.length am ai ab aj)) (d:=58) kz Tryz.call36 (qeM _ _ _ _ ah (qaG ab) _ _ ((bq.move aG.step nilM aG.imm).move (Step.refl _ Nil) nilM allF) (((aH.take 32767).move aG.step nilM aG.imm).move (Step.refl _ Nil) nilM allF)) ?_)
  rintro e_ oz ⟨rfl,dN⟩
  refine ⟨_,rfl,fun oA ir=>?_⟩
  have bo:=aG.next_nil dN
  have iu:=aG.frN dN
  have iv:=TT.ofW (dM.trans iu) bo
  refine ⟨fun _=>iv,?_⟩
  refine qap (i:=6) kz (qbq [10] bo.cells ir (env':=[(10,.v (.bool (decide (ah = (qaG ab)))))]) kz fun oB iw=>?_)
  refine ⟨fun h=>absurd rfl h,?_⟩
  refine qaC kz ?_ _
  refine qab (wp_ret (qaz (qat (qaK iw bo.cells (v:=.bool (decide (ah = (qaG ab)))) kz ?_))))
  refine ⟨congrArg (fun b_=>Ending.returned (Value.bool b_)) ?_,bo.step⟩
  first
   | exact qeQ hq ‹_› ‹_›
   | exact qeR hq ‹_› ‹_›
   | exact to_u hq ‹_› ‹_›
   | exact to_m hq ‹_› ‹_› ‹_› ‹_› ‹_› ‹_›
 have kF:k1 ≠ 9:=by simpa using cG
 refine qas [(1,.v (.int .i64 v)),(2,.v (.bool flex)),(5,.p 0 0),(8,.p 1 0),(9,.p 2 0),(49,.v (.int .i64 k1)),(59,.v (.bool (k1 == 7)))] aa cE fun oC cH=>?_
 refine qax cH (b:=k1 == 7) kz (fun cI=>?_) (fun cI=>?_)
 ·
  have kG:k1 = 7:=by simpa using cI
  refine qaf [0,1] kz ?_
  refine qan (qcU aa cH (d:=61) (j:=16) (t:=22) (e:=5) (bytes:=1) (z:=.int .u8 0) kz kz kz kz (rfl) (rfl) (by omega) fun ax oD oE kH kI kJ aT ix=>?_)
  refine qak [1] [] (z45 ax) aT ix fun oF iy=>?_
  refine qag (qab ?_)
  refine qaf [0,1,2,3] kz ?_
  refine qak [0,1,2] [3] (z27 ax ai ab.length aj) aT iy fun oG iz=>?_
  refine qan (qdb aT iz (k:=0) (d:=65) (t:=22) (u:=22) (e:=5) (bytes:=1) (A:=(some ⟨ax,0,none⟩)) (As:=ai) (m:=ab.length) (cs:=aj) (m0:=16) (c:=16) (xs:=(List.replicate 16 (.int .u8 0))) (news:=bc ab) kz kz rfl (aH.move aT.step nilM aT.imm).src fun oH oI kK iA iB=>?_)
  have iC:(⟨(some ⟨ax,0,none⟩),16,5,1,16,qbA (List.replicate 16 (.int .u8 0)) 0 ((bc ab).take (min ab.length 16))⟩:Rw) = brow (some ⟨ax,0,none⟩) 16 5 (qbF ab):=qeh _ _ _
  obtain ⟨aM,kL⟩:=iA.rowEq 0 [brow (some ⟨ax,0,none⟩) 16 5 (qbF ab)] iC
  have iD:=EnvOk.pick iB (ks:=[9,13,62,64,65]) (env':=(z18 ax ai ab.length aj)) kz
  have iE:=iD.cast (env':=[(9,.p 2 0),(13,.v (.slice (some ⟨ax,0,none⟩) ((qbF ab).length) 16)),(62,.v (.slice (some ⟨ax,0,none⟩) ((qbF ab).length) 16)),(64,.v (.slice ai ab.length aj)),(65,.v (.int .i64 ((min ab.length 16:Nat):Int)))]) (by rw [qbt _])
  refine qag (qab ?_)
  refine qaf [0,1,2,3,4] kz ?_
  refine qak [0,1,2] [3,4] (z47 al ah.length am ax ab) aM iE fun oJ iF=>?_
  refine qan (qal iF (f:=36) (vs:=[.slice al ah.length am,.slice (some ⟨ax,0,none⟩) ((qbF ab).length) 16]) (d:=69) kz Tryz.call36 (qeM _ _ _ _ ah (qbF ab) _ _ ((bq.move aM.step nilM aM.imm).move (Step.refl _ Nil) nilM allF) (qcF (aM.own 0 _ rfl) (by first | omega | (rw [qbt]; decide) | (simp only [be_length]; exact Nat.le_trans (qbW _) (by decide)) | (have:=hroom; omega) | (have:=hmade; omega) | (simp only [List.length_append,List.length_nil]; omega)) (F:=fun _ _=>True) (fun _ _ _=>trivial))) ?_)
  rintro e_ oK ⟨rfl,dO⟩
  refine ⟨_,rfl,fun oL iG=>?_⟩
  have cJ:=aM.next_nil dO
  have kM:=aM.frN dO
  refine qak [4] [] [(10,.v (.bool (decide (ah = qbF ab))))] cJ iG fun oM iH=>?_
  refine qag (qab ?_)
  refine wp_ret (qaz (qat (qaK iH cJ.cells (v:=.bool (decide (ah = qbF ab))) kz ?_)))
  refine ⟨congrArg (fun b_=>Ending.returned (Value.bool b_)) ?_,cJ.step⟩
  first
   | exact qeQ hq ‹_› ‹_›
   | exact qeR hq ‹_› ‹_›
   | exact to_u hq ‹_› ‹_›
   | exact to_m hq ‹_› ‹_› ‹_› ‹_› ‹_› ‹_›
 have kN:k1 ≠ 7:=by simpa using cI
 refine qas [(1,.v (.int .i64 v)),(2,.v (.bool flex)),(5,.p 0 0),(8,.p 1 0),(9,.p 2 0),(49,.v (.int .i64 k1)),(70,.v (.bool (k1 == 10)))] aa cH fun oN dP=>?_
 refine qaq dP (b:=k1 == 10) kz (aE) ?_
 refine qas [(1,.v (.int .i64 v)),(2,.v (.bool flex)),(5,.p 0 0),(8,.p 1 0),(9,.p 2 0),(79,.v (.bool (k1 == 11)))] aa dP fun oO dQ=>?_
 refine qaq dQ (b:=k1 == 11) kz (by simpa using bt) ?_
 refine wp_skip (qav (qab (qaE 8 kz aa fun oP kO dR iI=>?_)))
 refine qaF [0,1,2,3,4,5] (z89 aN k1 ac) 3 (qaa qae) (fun _ h=>h.cells) iI dQ fun oQ iJ=>?_
 refine qap (i:=6) kz (qal iJ (f:=69) (vs:=[.int .i64 k1,.int .i64 ac]) (d:=122) kz Tryz.call69 (qg3 k1 ac _) ?_)
 rintro e_ oR ⟨rfl,dS⟩
 refine ⟨_,rfl,fun oS iK=>?_⟩
 have bp:=dR.next_nil dS
 have iL:=dR.frN dS
 have dT:=TT.ofW iL bp
 refine ⟨fun _=>dT,?_⟩
 refine qaF [7] [(123,.v (.bool (aN == (qbL k1 ac))))] 1 (qaa qae) (fun _ h=>h.cells) dT iK fun oT iM=>?_
 refine qap (i:=8) kz (qbq [10] bp.cells iM (env':=[(10,.v (.bool (aN == (qbL k1 ac))))]) kz fun oU iN=>?_)
 refine ⟨fun h=>absurd rfl h,?_⟩
 refine qaC kz ?_ _
 refine qab (wp_ret (qaK iN bp.cells (v:=.bool (aN == (qbL k1 ac))) kz ?_))
 refine ⟨congrArg (fun b_=>Ending.returned (Value.bool b_)) ?_,bp.step⟩
 first
  | exact qeQ hq ‹_› ‹_›
  | exact qeR hq ‹_› ‹_›
  | exact to_u hq ‹_› ‹_›
  | exact to_m hq ‹_› ‹_› ‹_› ‹_› ‹_› ‹_›
abbrev z12 (x0) (x1) (x2) (x3) (x4) (x5) (x6) (x7) (x8) (x9) (x10) (x11) (x12) (x13) (x14) (x15):=([(1,.v (.int .i64 x0)),(2,.v (.bool x1)),(9,.p 2 0),(14,.v (.slice x2 ((qar x3).length) x4)),(15,.p 3 0),(97,.v (.int .i64 (((qar x3).length:Nat):Int))),(98,.v (.int .i64 ((x5:Nat):Int))),(101,.v (.agg #[.int .i64 x6,.int .i64 x7,.int .i64 x8,.int .i64 (-1),.int .i64 (-1),.int .i64 x9,.int .i64 x6,.slice x10 x11 x12])),(102,.v (.int .i64 x0)),(103,.v (.bool x1)),(104,.v (.slice x2 ((qar x3).length) x4)),(105,.v (.int .i64 ((x5:Nat):Int))),(109,.v (.slice x13 x14 x15)),(110,.v (.int .i64 ((x5:Nat):Int)))]:Env)
abbrev z32 (x0) (x1) (x2) (x3) (x4) (x5):=([(1,.v (.int .i64 x0)),(2,.v (.bool x1)),(9,.p 2 0),(14,.v (.slice x2 ((qar x3).length) x4)),(15,.p 3 0),(16,.v (.int .i64 ((x5:Nat):Int))),(97,.v (.int .i64 (((qar x3).length:Nat):Int))),(98,.v (.int .i64 ((x5:Nat):Int)))]:Env)
abbrev z36 (x0) (x1) (x2) (x3) (x4) (x5):=([(1,.v (.int .i64 x0)),(2,.v (.bool x1)),(9,.p 2 0),(14,.v (.slice x2 ((qar x3).length) x4)),(15,.p 3 0),(97,.v (.int .i64 (((qar x3).length:Nat):Int))),(98,.v (.int .i64 ((x5:Nat):Int))),(114,.v (.bool false))]:Env)
abbrev z43 (x0) (x1) (x2) (x3) (x4):=([(1,.v (.int .i64 x0)),(2,.v (.bool x1)),(9,.p 2 0),(14,.v (.slice x2 ((qar x3).length) x4)),(15,.p 3 0),(97,.v (.int .i64 (((qar x3).length:Nat):Int))),(98,.v (.int .i64 0))]:Env)
abbrev z50 (x0) (x1) (x2) (x3) (x4) (x5) (x6) (x7) (x8) (x9) (x10) (x11) (x12) (x13) (x14):=([(1,.v (.int .i64 x0)),(2,.v (.bool x1)),(5,.p 0 0),(9,.p 2 0),(14,.v (.slice x2 ((qar x3).length) x4)),(90,.v (.agg #[.int .i64 x5,.int .i64 x6,.int .i64 x7,.int .i64 x8,.int .i64 x9,.int .i64 x10,.int .i64 x11,.slice x12 x13 x14]))]:Env)
abbrev z60 (x0) (x1) (x2) (x3) (x4) (x5):=([(1,.v (.int .i64 x0)),(2,.v (.bool x1)),(9,.p 2 0),(14,.v (.slice x2 ((qar x3).length) x4)),(15,.p 3 0),(92,.v (.int .i64 x5)),(93,.p 3 0)]:Env)
abbrev z68 (x0) (x1) (x2) (x3) (x4):=([(1,.v (.int .i64 x0)),(2,.v (.bool x1)),(9,.p 2 0),(14,.v (.slice x2 ((qar x3).length) x4)),(15,.p 3 0),(94,.p 3 3)]:Env)
abbrev z69 (x0) (x1) (x2) (x3) (x4):=([(1,.v (.int .i64 x0)),(2,.v (.bool x1)),(9,.p 2 0),(14,.v (.slice x2 ((qar x3).length) x4)),(15,.p 3 0),(95,.p 3 4)]:Env)
abbrev z74 (x0) (x1) (x2) (x3) (x4):=([(1,.v (.int .i64 x0)),(2,.v (.bool x1)),(5,.p 0 0),(9,.p 2 0),(14,.v (.slice x2 ((qar x3).length) x4))]:Env)
abbrev z87 (x0) (x1) (x2) (x3) (x4):=([(1,.v (.int .i64 x0)),(2,.v (.bool x1)),(5,.p 0 0),(9,.p 2 0),(82,.v (.slice x2 x3 x4))]:Env)
abbrev z83 (x0) (x1) (x2) (x3) (x4) (x5) (x6):=([.int .i64 x0,.int .i64 x1,.int .i64 x2,.int .i64 (-1),.int .i64 (-1),.int .i64 x3,.int .i64 x0,.slice x4 x5 x6]:List Value)
abbrev z95 (x0) (x1) (x2) (x3) (x4) (x5) (x6) (x7) (x8):=([.int .i64 x0,.int .i64 x1,.int .i64 x2,.int .i64 x3,.int .i64 x4,.int .i64 x5,.int .i64 x0,.slice x6 x7 x8]:List Value)
abbrev z91 (x0) (x1) (x2) (x3) (x4) (x5) (x6) (x7):=([.int .i64 x0,.int .i64 x1,.int .i64 x2,.int .i64 (-1),.int .i64 x3,.int .i64 x4,.int .i64 x0,.slice x5 x6 x7]:List Value)
theorem qlM {v:Int} {flex:Bool} {T:List Fld → Tree → Tree → Prop} (hT:ToOK v flex T) (cf:List Value) (f:Fld) (ct:List Value) (t:Tree) (cg:List Value) (g:Tree) (w:World) (F:Nat → Nat → Prop) (hf:FldR w F cf f) (hpl:f.plain) (ac:f.kind = 11) (ht:TreeR w F ct t) (hg:TreeR w F cg g) (hQ:ToF T v f t g) :
  Calls Tryz.prog 33 #[.agg cf.toArray,.int .i64 v,.bool flex,.agg ct.toArray,.agg cg.toArray] w (qcI w (.bool true)):=by
 obtain ⟨k1,y2,y3,y4,y5,y6,y7,l8,A9,ap,dF,rfl,rfl,gU,hK⟩:=hf.open_
 have jn:=gU.small
 obtain ⟨aj,ak,al,aa,am,eu,ev,ae,af,ew,ey,kx,rfl,rfl,ky,dG,hZ,nE⟩:=ht.open_
 have jo:=ky.small
 have jp:=dG.small
 obtain ⟨gV,gW,cA,ao,gX,gY,gZ,bC,dH,g9,hC,kA,rfl,rfl,kB,hJ,ia,nF⟩:=hg.open_
 have jq:=kB.small
 have jr:=hJ.small
 have ac:k1 = 11:=ac
 have hof:y7 ≠ 11:=hpl.1
 replace hpl:plains l8:=hpl.2
 have hq:=hQ.1
 refine enter (n:=124) Tryz.func33 rfl Tryz.ntmps33 kz fun a hE=>?_
 have hW:=WOk.start w Nil
 refine qaf [0,1,2,3] kz ?_
 refine qan (qby hW hE (d:=5) (cs:=(z6 k1 y2 y3 y4 y5 y6 y7 A9 l8.length ap)) kz fun ib nG nH kC kD kE ic ig=>?_)
 refine qan (qby ic ig (d:=8) (cs:=(z1 aj eu ak.length ev al ae aa.length af ew am.length ey)) kz fun ii nI nJ kF kG kH ij ik=>?_)
 refine qan (qby ij ik (d:=9) (cs:=(z1 gV gY gW.length gZ cA bC ao.length dH g9 gX.length hC)) kz fun il nK nL kI kJ kK bD im=>?_)
 refine qak [3] [] [(1,.v (.int .i64 v)),(2,.v (.bool flex)),(5,.p 0 0),(8,.p 1 0),(9,.p 2 0)] bD im fun nM io=>?_
 refine qag (qab ?_)
 refine qaf [0,1,2,3,4] kz ?_
 refine qak [0,1,2] [3,4] [(1,.v (.int .i64 v)),(2,.v (.bool flex)),(5,.p 0 0),(8,.p 1 0),(9,.p 2 0),(17,.v (.agg #[.int .i64 k1,.int .i64 y2,.int .i64 y3,.int .i64 y4,.int .i64 y5,.int .i64 y6,.int .i64 y7,.slice A9 l8.length ap])),(18,.v (.int .i64 v)),(19,.v (.agg #[.int .i64 aj,.slice eu ak.length ev,.bool al,.slice ae aa.length af,.slice ew am.length ey]))] bD io fun nN ip=>?_
 refine qan (qal ip (f:=67) (vs:=[.agg #[.int .i64 k1,.int .i64 y2,.int .i64 y3,.int .i64 y4,.int .i64 y5,.int .i64 y6,.int .i64 y7,.slice A9 l8.length ap],.int .i64 v,.agg #[.int .i64 aj,.slice eu ak.length ev,.bool al,.slice ae aa.length af,.slice ew am.length ey]]) (d:=20) kz Tryz.call67 (qlv k1 y2 y3 y4 y5 y6 y7 l8 _ _ v aj ak al aa am _ _ _ _ _ _ _) ?_)
 rintro e_ nO ⟨rfl,ez⟩
 refine ⟨_,rfl,fun nP iq=>?_⟩
 have ab:=bD.next_nil ez
 have kL:=bD.frN ez
 refine qak [4] [] [(1,.v (.int .i64 v)),(2,.v (.bool flex)),(5,.p 0 0),(8,.p 1 0),(9,.p 2 0),(11,.v (.bool (z4 k1 y2 y3 y4 y5 y6 y7 l8 v aj ak al aa am)))] ab iq fun nQ ir=>?_
 refine qag (qab ?_)
 refine qaf [0,1,2,3,4,5,6,7,8,9] kz ?_
 refine qak [0,1,2,3] [4,5,6,7,8,9] [(1,.v (.int .i64 v)),(2,.v (.bool flex)),(5,.p 0 0),(8,.p 1 0),(9,.p 2 0),(11,.v (.bool (z4 k1 y2 y3 y4 y5 y6 y7 l8 v aj ak al aa am))),(24,.v (.bool (decide (y4 ≥ 0))))] ab ir fun nR eB=>?_
 refine (zO (decide (y4 ≥ 0))).elim (fun aD=>?_) (fun aD=>?_)
 ·
  have kM:=zD aD
  have iu:=eB
  rw [aD] at iu
  refine qak [4,5,6,7,8,9] [] [(1,.v (.int .i64 v)),(2,.v (.bool flex)),(5,.p 0 0),(8,.p 1 0),(9,.p 2 0),(11,.v (.bool (z4 k1 y2 y3 y4 y5 y6 y7 l8 v aj ak al aa am))),(12,.v (.bool (decide (v ≥ y4))))] ab iu fun nS iv=>?_
  refine qag (qab ?_)
  refine wp_seq (qaf [0,1,2,3,4,5,6,7,8,9,10,11,12,13,14,15,16] kz ?_)
  refine qak [0,1,2,3] [4,5,6,7,8,9,10,11,12,13,14,15,16] [(1,.v (.int .i64 v)),(2,.v (.bool flex)),(5,.p 0 0),(8,.p 1 0),(9,.p 2 0),(11,.v (.bool (z4 k1 y2 y3 y4 y5 y6 y7 l8 v aj ak al aa am))),(12,.v (.bool (decide (v ≥ y4)))),(33,.v (.bool (k1 == 8)))] ab iv fun nT eC=>?_
  have eD:(k1 == 8) = false:=by simp [ac]
  have eE:=eC
  rw [eD] at eE
  refine qak [4,5,6,7,8] [9,10,11,12,13,14,15,16] [(1,.v (.int .i64 v)),(2,.v (.bool flex)),(5,.p 0 0),(8,.p 1 0),(9,.p 2 0),(11,.v (.bool (z4 k1 y2 y3 y4 y5 y6 y7 l8 v aj ak al aa am))),(12,.v (.bool (decide (v ≥ y4)))),(38,.v (.bool (k1 == 10)))] ab eE fun kN eF=>?_
  have eG:(k1 == 10) = false:=by simp [ac]
  have eH:=eF
  rw [eG] at eH
  refine qak [9,10,11] [12,13,14,15,16] [(1,.v (.int .i64 v)),(2,.v (.bool flex)),(5,.p 0 0),(8,.p 1 0),(9,.p 2 0),(11,.v (.bool (z4 k1 y2 y3 y4 y5 y6 y7 l8 v aj ak al aa am))),(41,.v (.bool (decide (v ≥ y4))))] ab eH fun kO cB=>?_
  refine (zO (decide (v ≥ y4))).elim (fun az=>?_) (fun az=>?_)
  ·
   have js:=zD az
   have eI:=cB
   rw [az] at eI
   refine qak [12,13,14,15,16] [] [(1,.v (.int .i64 v)),(2,.v (.bool flex)),(5,.p 0 0),(8,.p 1 0),(9,.p 2 0),(11,.v (.bool (z4 k1 y2 y3 y4 y5 y6 y7 l8 v aj ak al aa am))),(46,.v (.bool (!(cA == (z4 k1 y2 y3 y4 y5 y6 y7 l8 v aj ak al aa am)))))] ab eI fun kP aE=>?_
   refine qag (qab ?_)
   refine qax aE (b:=!(cA == (z4 k1 y2 y3 y4 y5 y6 y7 l8 v aj ak al aa am))) kz (fun aF=>?_) (fun aF=>?_)
   ·
    have jt:!(cA = (Fld.nul (Fld.mk k1 y2 y3 y4 y5 y6 y7 l8) v (Tree.mk aj ak al aa am))):=by simpa using aF
    refine qas [(10,.v (.bool false))] ab aE fun kQ eJ=>?_
    refine wp_ret (qat (qaK eJ ab.cells (v:=.bool false) kz ?_))
    first
     | exact (qg1 hq ‹_› ‹_› ‹_›).elim
     | exact (qis (hQ.2 ac ‹_›).1 ‹_›).elim
     | (exfalso; simp_all; done)
   have ju:!(cA ≠ (Fld.nul (Fld.mk k1 y2 y3 y4 y5 y6 y7 l8) v (Tree.mk aj ak al aa am))):=by simpa using aF
   refine wp_skip (qab (wp_seq (qas (z17 v flex k1 y2 y3 y4 y5 y6 y7 l8 aj ak al aa am) ab aE fun kR aG=>?_)))
   refine qax aG (b:=Fld.nul (Fld.mk k1 y2 y3 y4 y5 y6 y7 l8) v (Tree.mk aj ak al aa am)) kz (fun eK=>?_) (fun eK=>?_)
   ·
    refine qas [(10,.v (.bool true))] ab aG fun kS eL=>?_
    refine wp_ret (qat (qaK eL ab.cells (v:=.bool true) kz ?_))
    exact ⟨rfl,ab.step⟩
   refine wp_skip (qab (wp_seq (qas (z13 v flex k1) ab aG fun kT eM=>?_)))
   refine wp_block (wp_seq (qas [(1,.v (.int .i64 v)),(2,.v (.bool flex)),(5,.p 0 0),(8,.p 1 0),(9,.p 2 0),(49,.v (.int .i64 k1)),(50,.v (.bool (k1 == 8)))] ab eM fun kU cC=>?_))
   refine qaq cC (b:=k1 == 8) kz (by simp [ac]) ?_
   refine qau [0,1] kz ?_
   refine qak [0,1] [] [(1,.v (.int .i64 v)),(2,.v (.bool flex)),(5,.p 0 0),(8,.p 1 0),(9,.p 2 0),(49,.v (.int .i64 k1)),(50,.v (.bool (k1 == 9)))] ab cC fun kV cD=>?_
   refine qag (qab ?_)
   refine qaq cD (b:=k1 == 9) kz (by simp [ac]) ?_
   refine qas [(1,.v (.int .i64 v)),(2,.v (.bool flex)),(5,.p 0 0),(8,.p 1 0),(9,.p 2 0),(49,.v (.int .i64 k1)),(59,.v (.bool (k1 == 7)))] ab cD fun kW cE=>?_
   refine qaq cE (b:=k1 == 7) kz (by simp [ac]) ?_
   refine qas [(1,.v (.int .i64 v)),(2,.v (.bool flex)),(5,.p 0 0),(8,.p 1 0),(9,.p 2 0),(49,.v (.int .i64 k1)),(70,.v (.bool (k1 == 10)))] ab cE fun kX cG=>?_
   refine qaq cG (b:=k1 == 10) kz (by simp [ac]) ?_
   refine qas [(1,.v (.int .i64 v)),(2,.v (.bool flex)),(5,.p 0 0),(8,.p 1 0),(9,.p 2 0),(79,.v (.bool (k1 == 11)))] ab cG fun kY cH=>?_
   refine qa9 cH (b:=k1 == 11) kz (by simpa using ac) ?_
   refine qaf [0,1,2,3] kz ?_
   refine qak [0,1] [2,3] (z87 v flex ae aa.length af) ab cH fun kZ eN=>?_
   refine qan (qal eN (f:=68) (vs:=[.slice ae aa.length af]) (d:=83) kz Tryz.call68 (qgO _ _ aa (dG.move ab.step nilM ab.imm).le _) ?_)
   rintro e_ k5 ⟨rfl,cI⟩
   refine ⟨_,rfl,fun k6 eO=>?_⟩
   have ar:=ab.next_nil cI
   have jv:=ab.frN cI
   refine qak [3] [] (z74 v flex ae aa af) ar eO fun k7 eP=>?_
   refine qag (qab ?_)
   refine wp_seq (qas [(1,.v (.int .i64 v)),(2,.v (.bool flex)),(5,.p 0 0),(9,.p 2 0),(14,.v (.slice ae ((qar aa).length) af)),(89,.v (.bool (((ao.length:Nat):Int) != (((qar aa).length:Nat):Int))))] ar eP fun k8 aH=>?_)
   refine qax aH (b:=((ao.length:Nat):Int) != (((qar aa).length:Nat):Int)) kz (fun aI=>?_) (fun aI=>?_)
   ·
    have jw:((ao.length:Nat):Int) ≠ (((qar aa).length:Nat):Int):=by simpa using aI
    refine qas [(10,.v (.bool false))] ar aH fun k9 eQ=>?_
    refine wp_ret (qat (qaz (qat (qaK eQ ar.cells (v:=.bool false) kz ?_))))
    first
     | exact (qg1 hq ‹_› ‹_› ‹_›).elim
     | exact (qis (hQ.2 ac ‹_›).1 ‹_›).elim
     | (exfalso; simp_all; done)
   have jx:((ao.length:Nat):Int) = (((qar aa).length:Nat):Int):=by simpa using aI
   refine wp_skip (qab (qaf [0,1,2] kz ?_))
   refine qak [0] [1,2] (z50 v flex ae aa af k1 y2 y3 y4 y5 y6 y7 A9 l8.length ap) ar aH fun la eR=>?_
   refine qan (qaM ar eR (d:=15) (cs:=z10) kz fun iw lb lc jy jz jA eS eU=>?_)
   refine qan (qao eS eU (oi:=3) (cs:=(z6 k1 y2 y3 y4 y5 y6 y7 A9 l8.length ap)) kz fun ld jB cJ eV=>?_)
   refine qag (qab ?_)
   refine qaf [0,1,2,3,4,5,6,7] kz ?_
   refine qak [0,1,2] [3,4,5,6,7] (z60 v flex ae aa af y7) cJ eV fun lf eW=>?_
   refine qan (qao cJ eW (oi:=3) (cs:=(z95 y7 y2 y3 y4 y5 y6 A9 l8.length ap)) kz fun lg jC cK eX=>?_)
   refine qak [4] [5,6,7] (z68 v flex ae aa af) cK eX fun lh eY=>?_
   refine qan (qao cK eY (oi:=3) (cs:=(z91 y7 y2 y3 y5 y6 A9 l8.length ap)) kz fun li jD cL eZ=>?_)
   refine qak [6] [7] (z69 v flex ae aa af) cL eZ fun lj e9=>?_
   refine qan (qao cL e9 (oi:=3) (cs:=(z83 y7 y2 y3 y6 A9 l8.length ap)) kz fun lm jE aJ fb=>?_)
   refine qag (qab ?_)
   refine wp_seq (qas (z43 v flex ae aa af) aJ fb fun ln fe=>?_)
   refine wp_block ?_
   have hl_:=(hQ.2 ac ‹_›).2
   refine wp_loop_ghost (fun n_ a_ w_=>∃ (k:Nat),n_ = (qar aa).length - k ∧ k ≤ (qar aa).length ∧ LInv aJ 124 [⟨ib,0,[.int .i64 k1,.int .i64 y2,.int .i64 y3,.int .i64 y4,.int .i64 y5,.int .i64 y6,.int .i64 y7,.slice A9 l8.length ap],true⟩,⟨ii,0,[.int .i64 aj,.slice eu ak.length ev,.bool al,.slice ae aa.length af,.slice ew am.length ey],true⟩,⟨il,0,[.int .i64 gV,.slice gY gW.length gZ,.bool cA,.slice bC ao.length dH,.slice g9 gX.length hC],true⟩,⟨iw,0,[.int .i64 y7,.int .i64 y2,.int .i64 y3,.int .i64 (-1),.int .i64 (-1),.int .i64 y6,.int .i64 y7,.slice A9 l8.length ap],true⟩] [] [(1,.v (.int .i64 v)),(2,.v (.bool flex)),(9,.p 2 0),(14,.v (.slice ae ((qar aa).length) af)),(15,.p 3 0),(97,.v (.int .i64 (((qar aa).length:Nat):Int))),(98,.v (.int .i64 ((k:Nat):Int)))] a_ w_) ((qar aa).length) ⟨0,by omega,by omega,fe.pk,aJ,Fr.refl _ _ _⟩ ?_
   rintro lp lq lr ⟨k,jF,jG,ff,au,fg⟩
   refine qas [(1,.v (.int .i64 v)),(2,.v (.bool flex)),(9,.p 2 0),(14,.v (.slice ae ((qar aa).length) af)),(15,.p 3 0),(97,.v (.int .i64 (((qar aa).length:Nat):Int))),(98,.v (.int .i64 ((k:Nat):Int))),(99,.v (.bool (decide (((k:Nat):Int) < (((qar aa).length:Nat):Int)))))] au ff fun ls aK=>?_
   refine wp_seq (qax aK (b:=decide (((k:Nat):Int) < (((qar aa).length:Nat):Int))) kz (fun aL=>?_) (fun aL=>?_))
   ·
    have jH:=zD aL
    refine wp_skip (qab (wp_seq (wp_block (qas (z32 v flex ae aa af k) au aK fun lu fh=>?_))))
    refine qaE 14 kz au fun lv fi ag aA=>?_
    refine qaF [0,1,2,3,4,7,8,9] (z12 v flex ae aa af k y7 y2 y3 y6 A9 l8.length ap bC ao.length dH) 6 (qaa (qac (qaa (qaa (qac (qaa (qac (qaa qae)))))))) (fun _ h=>h.cells) aA fh fun lw fj=>?_
    obtain ⟨ix,iy,fk,jI,aM⟩:=Slots.get (qdt dG) (i:=k) (by first | omega | (have h_:ao.length = (qar aa).length:=(hQ.2 ac ‹_›).1; omega))
    obtain ⟨iz,cM⟩:∃ x,(qar aa)[k]? = some x:=⟨_,List.getElem?_eq_getElem (by omega)⟩
    have aN:=(qdP hZ) k iz cM
    obtain ⟨bE,bF,bG,bH,bI,dI,dJ,dK,dL,dM,dN,jJ,rfl,aO,iA,iB,lx,ly⟩:=aN.open_
    rw [aO] at aN
    have iC:=iA.small
    have iD:=iB.small
    rw [aO] at aM
    refine qaH fj (i:=5) (t:=23) (A:=ae) (m:=((qar aa).length)) (q:=((k:Nat):Int)) (d:=106) kz (e:=26) (size:=5) (bytes:=88) kz fk rfl (by first | omega | (have h_:ao.length = (qar aa).length:=(hQ.2 ac ‹_›).1; omega)) kz kz (qaa (qac (qaa (qaa (qac (qaa (qac (qaa qae)))))))) aA fun lz fm=>?_
    refine qbl fm (i:=6) (t:=26) (b:=ix) (o:=iy + k * 5) (d:=107) kz (cs:=(z1 bE dI bF.length dJ bG dK bH.length dL dM bI.length dN)) (v:=.agg #[.int .i64 bE,.slice dI bF.length dJ,.bool bG,.slice dK bH.length dL,.slice dM bI.length dN]) kz (fun w' h'=>(AtF.move aM (TT.step0 ag h') nilM qbi).at_) kz kz (qaa (qac (qaa (qaa (qac (qaa (qac (qaa qae)))))))) aA fun lA fo=>?_
    obtain ⟨iE,iF,fq,jK,aP⟩:=Slots.get hJ (i:=k) (by first | omega | (have h_:ao.length = (qar aa).length:=(hQ.2 ac ‹_›).1; omega))
    obtain ⟨iG,cN⟩:∃ x,ao[k]? = some x:=⟨_,List.getElem?_eq_getElem (by omega)⟩
    have aQ:=ia k iG cN
    obtain ⟨bJ,bK,bL,bM,bN,dO,dP,dQ,dR,dS,dT,jL,rfl,aR,iH,iI,lB,lC⟩:=aQ.open_
    rw [aR] at aQ
    have iJ:=iH.small
    have iK:=iI.small
    rw [aR] at aP
    refine qaH fo (i:=10) (t:=23) (A:=bC) (m:=ao.length) (q:=((k:Nat):Int)) (d:=111) kz (e:=26) (size:=5) (bytes:=88) kz fq rfl (by first | omega | (have h_:ao.length = (qar aa).length:=(hQ.2 ac ‹_›).1; omega)) kz kz (qaa (qac (qaa (qaa (qac (qaa (qac (qaa qae)))))))) aA fun lD fr=>?_
    refine qbl fr (i:=11) (t:=26) (b:=iE) (o:=iF + k * 5) (d:=112) kz (cs:=(z1 bJ dO bK.length dP bL dQ bM.length dR dS bN.length dT)) (v:=.agg #[.int .i64 bJ,.slice dO bK.length dP,.bool bL,.slice dQ bM.length dR,.slice dS bN.length dT]) kz (fun w' h'=>(AtF.move aP (TT.step0 ag h') nilM qbi).at_) kz kz (qaa (qac (qaa (qaa (qac (qaa (qac (qaa qae)))))))) aA fun lE ft=>?_
    refine qap (i:=12) kz (qal ft (f:=33) (vs:=[.agg #[.int .i64 y7,.int .i64 y2,.int .i64 y3,.int .i64 (-1),.int .i64 (-1),.int .i64 y6,.int .i64 y7,.slice A9 l8.length ap],.int .i64 v,.bool flex,.agg #[.int .i64 bE,.slice dI bF.length dJ,.bool bG,.slice dK bH.length dL,.slice dM bI.length dN],.agg #[.int .i64 bJ,.slice dO bK.length dP,.bool bL,.slice dQ bM.length dR,.slice dS bN.length dT]]) (d:=113) kz Tryz.call33 ( qiz hT _ _ _ (Tree.mk bE bF bG bH bI) _ (Tree.mk bJ bK bL bM bN) _ _ (FldR.mk (l:=l8) dF (gU.move ag.step nilM ag.imm) (fun i_ x_ h_=>((hK i_ x_ h_).move ag.step nilM ag.imm))) hpl hof (aN.move ag.step nilM ag.imm) (aQ.move ag.step nilM ag.imm) (hl_ _ _ _ cM cN)) ?_)
    rintro e_ lF ⟨rfl,cO⟩
    refine ⟨_,rfl,fun lG fv=>?_⟩
    have aS:=ag.next_nil cO
    have cP:=ag.frN cO
    have cQ:=TT.ofW cP aS
    refine ⟨fun _=>cQ,?_⟩
    refine qaF [13] (z36 v flex ae aa af k) 0 (qaa (qac (qaa (qaa (qac (qaa (qac (qaa qae)))))))) (fun _ h=>h.cells) cQ fv fun lH cR=>?_
    refine qaC kz ?_ _
    refine qab (qaq cR (b:=false) kz rfl ?_)
    refine wp_skip (qav (qab (qau [0,1] kz ?_)))
    refine qak [0,1] [] [(1,.v (.int .i64 v)),(2,.v (.bool flex)),(9,.p 2 0),(14,.v (.slice ae ((qar aa).length) af)),(15,.p 3 0),(97,.v (.int .i64 (((qar aa).length:Nat):Int))),(98,.v (.int .i64 (IntKind.i64.wrap (((k:Nat):Int) + 1))))] aS cR fun lI cS=>?_
    refine qag (qab ?_)
    have fw:IntKind.i64.wrap (((k:Nat):Int) + 1) = ((k + 1:Nat):Int):=qaS (by omega)
    rw [fw] at cS
    exact ⟨(qar aa).length - (k + 1),by omega,k + 1,rfl,by omega,cS.pk,aS,((fg.trans fi).trans cP)⟩
   have jM:=zF aL
   refine wp_exit (qay (qay (qaQ (qab (qas [(10,.v (.bool true))] au aK fun lJ fx=>?_)))))
   refine wp_ret (qaz (qat (qaK fx au.cells (v:=.bool true) kz ?_)))
   exact ⟨rfl,au.step⟩
  have jN:=zF az
  have fy:=cB.cast (env':=[(1,.v (.int .i64 v)),(2,.v (.bool flex)),(5,.p 0 0),(8,.p 1 0),(9,.p 2 0),(11,.v (.bool (Fld.nul (Fld.mk k1 y2 y3 y4 y5 y6 y7 l8) v (Tree.mk aj ak al aa am)))),(41,.v (.bool false))]) (by rw [az])
  refine qak [12,13,14,15,16] [] (z61 v flex k1 y2 y3 y4 y5 y6 y7 l8 aj ak al aa am) ab fy fun lK cT=>?_
  refine qag (qab ?_)
  refine qaq cT (b:=false) kz rfl ?_
  refine wp_skip (qab (wp_seq (qas (z17 v flex k1 y2 y3 y4 y5 y6 y7 l8 aj ak al aa am) ab cT fun lL aT=>?_)))
  refine qax aT (b:=Fld.nul (Fld.mk k1 y2 y3 y4 y5 y6 y7 l8) v (Tree.mk aj ak al aa am)) kz (fun fz=>?_) (fun fz=>?_)
  ·
   refine qas [(10,.v (.bool true))] ab aT fun lM fA=>?_
   refine wp_ret (qat (qaK fA ab.cells (v:=.bool true) kz ?_))
   exact ⟨rfl,ab.step⟩
  refine wp_skip (qab (wp_seq (qas (z13 v flex k1) ab aT fun lN fB=>?_)))
  refine wp_block (wp_seq (qas [(1,.v (.int .i64 v)),(2,.v (.bool flex)),(5,.p 0 0),(8,.p 1 0),(9,.p 2 0),(49,.v (.int .i64 k1)),(50,.v (.bool (k1 == 8)))] ab fB fun lO cU=>?_))
  refine qaq cU (b:=k1 == 8) kz (by simp [ac]) ?_
  refine qau [0,1] kz ?_
  refine qak [0,1] [] [(1,.v (.int .i64 v)),(2,.v (.bool flex)),(5,.p 0 0),(8,.p 1 0),(9,.p 2 0),(49,.v (.int .i64 k1)),(50,.v (.bool (k1 == 9)))] ab cU fun lP cV=>?_
  refine qag (qab ?_)
  refine qaq cV (b:=k1 == 9) kz (by simp [ac]) ?_
  refine qas [(1,.v (.int .i64 v)),(2,.v (.bool flex)),(5,.p 0 0),(8,.p 1 0),(9,.p 2 0),(49,.v (.int .i64 k1)),(59,.v (.bool (k1 == 7)))] ab cV fun lQ cW=>?_
  refine qaq cW (b:=k1 == 7) kz (by simp [ac]) ?_
  refine qas [(1,.v (.int .i64 v)),(2,.v (.bool flex)),(5,.p 0 0),(8,.p 1 0),(9,.p 2 0),(49,.v (.int .i64 k1)),(70,.v (.bool (k1 == 10)))] ab cW fun lR cX=>?_
  refine qaq cX (b:=k1 == 10) kz (by simp [ac]) ?_
  refine qas [(1,.v (.int .i64 v)),(2,.v (.bool flex)),(5,.p 0 0),(8,.p 1 0),(9,.p 2 0),(79,.v (.bool (k1 == 11)))] ab cX fun lS cY=>?_
  refine qa9 cY (b:=k1 == 11) kz (by simpa using ac) ?_
  refine qaf [0,1,2,3] kz ?_
  refine qak [0,1] [2,3] (z87 v flex ae aa.length af) ab cY fun lT fC=>?_
  refine qan (qal fC (f:=68) (vs:=[.slice ae aa.length af]) (d:=83) kz Tryz.call68 (qgO _ _ aa (dG.move ab.step nilM ab.imm).le _) ?_)
  rintro e_ lU ⟨rfl,cZ⟩
  refine ⟨_,rfl,fun lV fD=>?_⟩
  have av:=ab.next_nil cZ
  have jO:=ab.frN cZ
  refine qak [3] [] (z74 v flex ae aa af) av fD fun lW fE=>?_
  refine qag (qab ?_)
  refine wp_seq (qas [(1,.v (.int .i64 v)),(2,.v (.bool flex)),(5,.p 0 0),(9,.p 2 0),(14,.v (.slice ae ((qar aa).length) af)),(89,.v (.bool (((ao.length:Nat):Int) != (((qar aa).length:Nat):Int))))] av fE fun lX aU=>?_)
  refine qax aU (b:=((ao.length:Nat):Int) != (((qar aa).length:Nat):Int)) kz (fun aV=>?_) (fun aV=>?_)
  ·
   have jP:((ao.length:Nat):Int) ≠ (((qar aa).length:Nat):Int):=by simpa using aV
   refine qas [(10,.v (.bool false))] av aU fun lY fF=>?_
   refine wp_ret (qat (qaz (qat (qaK fF av.cells (v:=.bool false) kz ?_))))
   first
    | exact (qg1 hq ‹_› ‹_› ‹_›).elim
    | exact (qis (hQ.2 ac ‹_›).1 ‹_›).elim
    | (exfalso; simp_all; done)
  have jQ:((ao.length:Nat):Int) = (((qar aa).length:Nat):Int):=by simpa using aV
  refine wp_skip (qab (qaf [0,1,2] kz ?_))
  refine qak [0] [1,2] (z50 v flex ae aa af k1 y2 y3 y4 y5 y6 y7 A9 l8.length ap) av aU fun lZ fG=>?_
  refine qan (qaM av fG (d:=15) (cs:=z10) kz fun iL l0 l3 jR jS jT fH fI=>?_)
  refine qan (qao fH fI (oi:=3) (cs:=(z6 k1 y2 y3 y4 y5 y6 y7 A9 l8.length ap)) kz fun l5 jU c5 fJ=>?_)
  refine qag (qab ?_)
  refine qaf [0,1,2,3,4,5,6,7] kz ?_
  refine qak [0,1,2] [3,4,5,6,7] (z60 v flex ae aa af y7) c5 fJ fun l6 fK=>?_
  refine qan (qao c5 fK (oi:=3) (cs:=(z95 y7 y2 y3 y4 y5 y6 A9 l8.length ap)) kz fun l7 jV c6 fL=>?_)
  refine qak [4] [5,6,7] (z68 v flex ae aa af) c6 fL fun l9 fM=>?_
  refine qan (qao c6 fM (oi:=3) (cs:=(z91 y7 y2 y3 y5 y6 A9 l8.length ap)) kz fun ma jW da fN=>?_)
  refine qak [6] [7] (z69 v flex ae aa af) da fN fun mc fO=>?_
  refine qan (qao da fO (oi:=3) (cs:=(z83 y7 y2 y3 y6 A9 l8.length ap)) kz fun md jX aW fP=>?_)
  refine qag (qab ?_)
  refine wp_seq (qas (z43 v flex ae aa af) aW fP fun me fQ=>?_)
  refine wp_block ?_
  have hl_:=(hQ.2 ac ‹_›).2
  refine wp_loop_ghost (fun n_ a_ w_=>∃ (k:Nat),n_ = (qar aa).length - k ∧ k ≤ (qar aa).length ∧ LInv aW 124 [⟨ib,0,[.int .i64 k1,.int .i64 y2,.int .i64 y3,.int .i64 y4,.int .i64 y5,.int .i64 y6,.int .i64 y7,.slice A9 l8.length ap],true⟩,⟨ii,0,[.int .i64 aj,.slice eu ak.length ev,.bool al,.slice ae aa.length af,.slice ew am.length ey],true⟩,⟨il,0,[.int .i64 gV,.slice gY gW.length gZ,.bool cA,.slice bC ao.length dH,.slice g9 gX.length hC],true⟩,⟨iL,0,[.int .i64 y7,.int .i64 y2,.int .i64 y3,.int .i64 (-1),.int .i64 (-1),.int .i64 y6,.int .i64 y7,.slice A9 l8.length ap],true⟩] [] [(1,.v (.int .i64 v)),(2,.v (.bool flex)),(9,.p 2 0),(14,.v (.slice ae ((qar aa).length) af)),(15,.p 3 0),(97,.v (.int .i64 (((qar aa).length:Nat):Int))),(98,.v (.int .i64 ((k:Nat):Int)))] a_ w_) ((qar aa).length) ⟨0,by omega,by omega,fQ.pk,aW,Fr.refl _ _ _⟩ ?_
  rintro mf mg mh ⟨k,jY,jZ,fR,aw,fS⟩
  refine qas [(1,.v (.int .i64 v)),(2,.v (.bool flex)),(9,.p 2 0),(14,.v (.slice ae ((qar aa).length) af)),(15,.p 3 0),(97,.v (.int .i64 (((qar aa).length:Nat):Int))),(98,.v (.int .i64 ((k:Nat):Int))),(99,.v (.bool (decide (((k:Nat):Int) < (((qar aa).length:Nat):Int)))))] aw fR fun mi aX=>?_
  refine wp_seq (qax aX (b:=decide (((k:Nat):Int) < (((qar aa).length:Nat):Int))) kz (fun aY=>?_) (fun aY=>?_))
  ·
   have j0:=zD aY
   refine wp_skip (qab (wp_seq (wp_block (qas (z32 v flex ae aa af k) aw aX fun mj fT=>?_))))
   refine qaE 14 kz aw fun ml fU ah aB=>?_
   refine qaF [0,1,2,3,4,7,8,9] (z12 v flex ae aa af k y7 y2 y3 y6 A9 l8.length ap bC ao.length dH) 6 (qaa (qac (qaa (qaa (qac (qaa (qac (qaa qae)))))))) (fun _ h=>h.cells) aB fT fun mn fV=>?_
   obtain ⟨iM,iN,fW,j1,aZ⟩:=Slots.get (qdt dG) (i:=k) (by first | omega | (have h_:ao.length = (qar aa).length:=(hQ.2 ac ‹_›).1; omega))
   obtain ⟨iO,db⟩:∃ x,(qar aa)[k]? = some x:=⟨_,List.getElem?_eq_getElem (by omega)⟩
   have ba:=(qdP hZ) k iO db
   obtain ⟨bO,bP,bQ,bR,bS,dU,dV,dW,dX,dY,dZ,j2,rfl,bd,iP,iQ,mo,mp⟩:=ba.open_
   rw [bd] at ba
   have iR:=iP.small
   have iS:=iQ.small
   rw [bd] at aZ
   refine qaH fV (i:=5) (t:=23) (A:=ae) (m:=((qar aa).length)) (q:=((k:Nat):Int)) (d:=106) kz (e:=26) (size:=5) (bytes:=88) kz fW rfl (by first | omega | (have h_:ao.length = (qar aa).length:=(hQ.2 ac ‹_›).1; omega)) kz kz (qaa (qac (qaa (qaa (qac (qaa (qac (qaa qae)))))))) aB fun mq fX=>?_
   refine qbl fX (i:=6) (t:=26) (b:=iM) (o:=iN + k * 5) (d:=107) kz (cs:=(z1 bO dU bP.length dV bQ dW bR.length dX dY bS.length dZ)) (v:=.agg #[.int .i64 bO,.slice dU bP.length dV,.bool bQ,.slice dW bR.length dX,.slice dY bS.length dZ]) kz (fun w' h'=>(AtF.move aZ (TT.step0 ah h') nilM qbi).at_) kz kz (qaa (qac (qaa (qaa (qac (qaa (qac (qaa qae)))))))) aB fun mr fY=>?_
   obtain ⟨iT,iU,fZ,j3,bf⟩:=Slots.get hJ (i:=k) (by first | omega | (have h_:ao.length = (qar aa).length:=(hQ.2 ac ‹_›).1; omega))
   obtain ⟨iV,dc⟩:∃ x,ao[k]? = some x:=⟨_,List.getElem?_eq_getElem (by omega)⟩
   have bg:=ia k iV dc
   obtain ⟨bT,bU,bV,bW,bX,d5,d6,d7,d8,d9,ea,j4,rfl,bh,iW,iX,mt,mu⟩:=bg.open_
   rw [bh] at bg
   have iY:=iW.small
   have iZ:=iX.small
   rw [bh] at bf
   refine qaH fY (i:=10) (t:=23) (A:=bC) (m:=ao.length) (q:=((k:Nat):Int)) (d:=111) kz (e:=26) (size:=5) (bytes:=88) kz fZ rfl (by first | omega | (have h_:ao.length = (qar aa).length:=(hQ.2 ac ‹_›).1; omega)) kz kz (qaa (qac (qaa (qaa (qac (qaa (qac (qaa qae)))))))) aB fun mw f5=>?_
   refine qbl f5 (i:=11) (t:=26) (b:=iT) (o:=iU + k * 5) (d:=112) kz (cs:=(z1 bT d5 bU.length d6 bV d7 bW.length d8 d9 bX.length ea)) (v:=.agg #[.int .i64 bT,.slice d5 bU.length d6,.bool bV,.slice d7 bW.length d8,.slice d9 bX.length ea]) kz (fun w' h'=>(AtF.move bf (TT.step0 ah h') nilM qbi).at_) kz kz (qaa (qac (qaa (qaa (qac (qaa (qac (qaa qae)))))))) aB fun mx f7=>?_
   refine qap (i:=12) kz (qal f7 (f:=33) (vs:=[.agg #[.int .i64 y7,.int .i64 y2,.int .i64 y3,.int .i64 (-1),.int .i64 (-1),.int .i64 y6,.int .i64 y7,.slice A9 l8.length ap],.int .i64 v,.bool flex,.agg #[.int .i64 bO,.slice dU bP.length dV,.bool bQ,.slice dW bR.length dX,.slice dY bS.length dZ],.agg #[.int .i64 bT,.slice d5 bU.length d6,.bool bV,.slice d7 bW.length d8,.slice d9 bX.length ea]]) (d:=113) kz Tryz.call33 ( qiz hT _ _ _ (Tree.mk bO bP bQ bR bS) _ (Tree.mk bT bU bV bW bX) _ _ (FldR.mk (l:=l8) dF (gU.move ah.step nilM ah.imm) (fun i_ x_ h_=>((hK i_ x_ h_).move ah.step nilM ah.imm))) hpl hof (ba.move ah.step nilM ah.imm) (bg.move ah.step nilM ah.imm) (hl_ _ _ _ db dc)) ?_)
   rintro e_ my ⟨rfl,de⟩
   refine ⟨_,rfl,fun mz f8=>?_⟩
   have bi:=ah.next_nil de
   have df:=ah.frN de
   have dg:=TT.ofW df bi
   refine ⟨fun _=>dg,?_⟩
   refine qaF [13] (z36 v flex ae aa af k) 0 (qaa (qac (qaa (qaa (qac (qaa (qac (qaa qae)))))))) (fun _ h=>h.cells) dg f8 fun mA dh=>?_
   refine qaC kz ?_ _
   refine qab (qaq dh (b:=false) kz rfl ?_)
   refine wp_skip (qav (qab (qau [0,1] kz ?_)))
   refine qak [0,1] [] [(1,.v (.int .i64 v)),(2,.v (.bool flex)),(9,.p 2 0),(14,.v (.slice ae ((qar aa).length) af)),(15,.p 3 0),(97,.v (.int .i64 (((qar aa).length:Nat):Int))),(98,.v (.int .i64 (IntKind.i64.wrap (((k:Nat):Int) + 1))))] bi dh fun mB di=>?_
   refine qag (qab ?_)
   have f9:IntKind.i64.wrap (((k:Nat):Int) + 1) = ((k + 1:Nat):Int):=qaS (by omega)
   rw [f9] at di
   exact ⟨(qar aa).length - (k + 1),by omega,k + 1,rfl,by omega,di.pk,bi,((fS.trans fU).trans df)⟩
  have j5:=zF aY
  refine wp_exit (qay (qay (qaQ (qab (qas [(10,.v (.bool true))] aw aX fun mC ga=>?_)))))
  refine wp_ret (qaz (qat (qaK ga aw.cells (v:=.bool true) kz ?_)))
  exact ⟨rfl,aw.step⟩
 have j6:=zF aD
 have gb:=eB.cast (env':=[(1,.v (.int .i64 v)),(2,.v (.bool flex)),(5,.p 0 0),(8,.p 1 0),(9,.p 2 0),(11,.v (.bool (Fld.nul (Fld.mk k1 y2 y3 y4 y5 y6 y7 l8) v (Tree.mk aj ak al aa am)))),(24,.v (.bool false))]) (by rw [aD])
 refine qak [4,5,6,7,8,9] [] [(1,.v (.int .i64 v)),(2,.v (.bool flex)),(5,.p 0 0),(8,.p 1 0),(9,.p 2 0),(11,.v (.bool (z4 k1 y2 y3 y4 y5 y6 y7 l8 v aj ak al aa am))),(12,.v (.bool false))] ab gb fun mD gc=>?_
 refine qag (qab ?_)
 refine wp_seq (qaf [0,1,2,3,4,5,6,7,8,9,10,11,12,13,14,15,16] kz ?_)
 refine qak [0,1,2,3] [4,5,6,7,8,9,10,11,12,13,14,15,16] [(1,.v (.int .i64 v)),(2,.v (.bool flex)),(5,.p 0 0),(8,.p 1 0),(9,.p 2 0),(11,.v (.bool (z4 k1 y2 y3 y4 y5 y6 y7 l8 v aj ak al aa am))),(12,.v (.bool false)),(33,.v (.bool (k1 == 8)))] ab gc fun mF gd=>?_
 have ge:(k1 == 8) = false:=by simp [ac]
 have gg:=gd
 rw [ge] at gg
 refine qak [4,5,6,7,8] [9,10,11,12,13,14,15,16] [(1,.v (.int .i64 v)),(2,.v (.bool flex)),(5,.p 0 0),(8,.p 1 0),(9,.p 2 0),(11,.v (.bool (z4 k1 y2 y3 y4 y5 y6 y7 l8 v aj ak al aa am))),(12,.v (.bool false)),(38,.v (.bool (k1 == 10)))] ab gg fun mG gh=>?_
 have gi:(k1 == 10) = false:=by simp [ac]
 have gj:=gh
 rw [gi] at gj
 refine qak [9,10,11,12,13,14,15,16] [] (z61 v flex k1 y2 y3 y4 y5 y6 y7 l8 aj ak al aa am) ab gj fun mH dj=>?_
 refine qag (qab ?_)
 refine qaq dj (b:=false) kz rfl ?_
 refine wp_skip (qab (wp_seq (qas (z17 v flex k1 y2 y3 y4 y5 y6 y7 l8 aj ak al aa am) ab dj fun mI bj=>?_)))
 refine qax bj (b:=Fld.nul (Fld.mk k1 y2 y3 y4 y5 y6 y7 l8) v (Tree.mk aj ak al aa am)) kz (fun gk=>?_) (fun gk=>?_)
 ·
  refine qas [(10,.v (.bool true))] ab bj fun mJ gl=>?_
  refine wp_ret (qat (qaK gl ab.cells (v:=.bool true) kz ?_))
  exact ⟨rfl,ab.step⟩
 refine wp_skip (qab (wp_seq (qas (z13 v flex k1) ab bj fun mK gm=>?_)))
 refine wp_block (wp_seq (qas [(1,.v (.int .i64 v)),(2,.v (.bool flex)),(5,.p 0 0),(8,.p 1 0),(9,.p 2 0),(49,.v (.int .i64 k1)),(50,.v (.bool (k1 == 8)))] ab gm fun mL dl=>?_))
 refine qaq dl (b:=k1 == 8) kz (by simp [ac]) ?_
 refine qau [0,1] kz ?_
 refine qak [0,1] [] [(1,.v (.int .i64 v)),(2,.v (.bool flex)),(5,.p 0 0),(8,.p 1 0),(9,.p 2 0),(49,.v (.int .i64 k1)),(50,.v (.bool (k1 == 9)))] ab dl fun mM dp=>?_
 refine qag (qab ?_)
 refine qaq dp (b:=k1 == 9) kz (by simp [ac]) ?_
 refine qas [(1,.v (.int .i64 v)),(2,.v (.bool flex)),(5,.p 0 0),(8,.p 1 0),(9,.p 2 0),(49,.v (.int .i64 k1)),(59,.v (.bool (k1 == 7)))] ab dp fun mN dq=>?_
 refine qaq dq (b:=k1 == 7) kz (by simp [ac]) ?_
 refine qas [(1,.v (.int .i64 v)),(2,.v (.bool flex)),(5,.p 0 0),(8,.p 1 0),(9,.p 2 0),(49,.v (.int .i64 k1)),(70,.v (.bool (k1 == 10)))] ab dq fun mO dr=>?_
 refine qaq dr (b:=k1 == 10) kz (by simp [ac]) ?_
 refine qas [(1,.v (.int .i64 v)),(2,.v (.bool flex)),(5,.p 0 0),(8,.p 1 0),(9,.p 2 0),(79,.v (.bool (k1 == 11)))] ab dr fun mQ dt=>?_
 refine qa9 dt (b:=k1 == 11) kz (by simpa using ac) ?_
 refine qaf [0,1,2,3] kz ?_
 refine qak [0,1] [2,3] (z87 v flex ae aa.length af) ab dt fun mR gn=>?_
 refine qan (qal gn (f:=68) (vs:=[.slice ae aa.length af]) (d:=83) kz Tryz.call68 (qgO _ _ aa (dG.move ab.step nilM ab.imm).le _) ?_)
 rintro e_ mS ⟨rfl,du⟩
 refine ⟨_,rfl,fun mT gp=>?_⟩
 have ax:=ab.next_nil du
 have j7:=ab.frN du
 refine qak [3] [] (z74 v flex ae aa af) ax gp fun mU gq=>?_
 refine qag (qab ?_)
 refine wp_seq (qas [(1,.v (.int .i64 v)),(2,.v (.bool flex)),(5,.p 0 0),(9,.p 2 0),(14,.v (.slice ae ((qar aa).length) af)),(89,.v (.bool (((ao.length:Nat):Int) != (((qar aa).length:Nat):Int))))] ax gq fun mV bk=>?_)
 refine qax bk (b:=((ao.length:Nat):Int) != (((qar aa).length:Nat):Int)) kz (fun bn=>?_) (fun bn=>?_)
 ·
  have j8:((ao.length:Nat):Int) ≠ (((qar aa).length:Nat):Int):=by simpa using bn
  refine qas [(10,.v (.bool false))] ax bk fun mW gt=>?_
  refine wp_ret (qat (qaz (qat (qaK gt ax.cells (v:=.bool false) kz ?_))))
  first
   | exact (qg1 hq ‹_› ‹_› ‹_›).elim
   | exact (qis (hQ.2 ac ‹_›).1 ‹_›).elim
   | (exfalso; simp_all; done)
 have j9:((ao.length:Nat):Int) = (((qar aa).length:Nat):Int):=by simpa using bn
 refine wp_skip (qab (qaf [0,1,2] kz ?_))
 refine qak [0] [1,2] (z50 v flex ae aa af k1 y2 y3 y4 y5 y6 y7 A9 l8.length ap) ax bk fun mX gv=>?_
 refine qan (qaM ax gv (d:=15) (cs:=z10) kz fun i6 mY mZ ka kd ke gw gx=>?_)
 refine qan (qao gw gx (oi:=3) (cs:=(z6 k1 y2 y3 y4 y5 y6 y7 A9 l8.length ap)) kz fun m4 kf dv gy=>?_)
 refine qag (qab ?_)
 refine qaf [0,1,2,3,4,5,6,7] kz ?_
 refine qak [0,1,2] [3,4,5,6,7] (z60 v flex ae aa af y7) dv gy fun m5 gz=>?_
 refine qan (qao dv gz (oi:=3) (cs:=(z95 y7 y2 y3 y4 y5 y6 A9 l8.length ap)) kz fun m6 kg dw gA=>?_)
 refine qak [4] [5,6,7] (z68 v flex ae aa af) dw gA fun m7 gB=>?_
 refine qan (qao dw gB (oi:=3) (cs:=(z91 y7 y2 y3 y5 y6 A9 l8.length ap)) kz fun m8 kh dx gC=>?_)
 refine qak [6] [7] (z69 v flex ae aa af) dx gC fun m9 gD=>?_
 refine qan (qao dx gD (oi:=3) (cs:=(z83 y7 y2 y3 y6 A9 l8.length ap)) kz fun nf ki bo gE=>?_)
 refine qag (qab ?_)
 refine wp_seq (qas (z43 v flex ae aa af) bo gE fun ng gF=>?_)
 refine wp_block ?_
 have hl_:=(hQ.2 ac ‹_›).2
 refine wp_loop_ghost (fun n_ a_ w_=>∃ (k:Nat),n_ = (qar aa).length - k ∧ k ≤ (qar aa).length ∧ LInv bo 124 [⟨ib,0,[.int .i64 k1,.int .i64 y2,.int .i64 y3,.int .i64 y4,.int .i64 y5,.int .i64 y6,.int .i64 y7,.slice A9 l8.length ap],true⟩,⟨ii,0,[.int .i64 aj,.slice eu ak.length ev,.bool al,.slice ae aa.length af,.slice ew am.length ey],true⟩,⟨il,0,[.int .i64 gV,.slice gY gW.length gZ,.bool cA,.slice bC ao.length dH,.slice g9 gX.length hC],true⟩,⟨i6,0,[.int .i64 y7,.int .i64 y2,.int .i64 y3,.int .i64 (-1),.int .i64 (-1),.int .i64 y6,.int .i64 y7,.slice A9 l8.length ap],true⟩] [] [(1,.v (.int .i64 v)),(2,.v (.bool flex)),(9,.p 2 0),(14,.v (.slice ae ((qar aa).length) af)),(15,.p 3 0),(97,.v (.int .i64 (((qar aa).length:Nat):Int))),(98,.v (.int .i64 ((k:Nat):Int)))] a_ w_) ((qar aa).length) ⟨0,by omega,by omega,gF.pk,bo,Fr.refl _ _ _⟩ ?_
 rintro nh ni nj ⟨k,kj,km,gG,ay,gH⟩
 refine qas [(1,.v (.int .i64 v)),(2,.v (.bool flex)),(9,.p 2 0),(14,.v (.slice ae ((qar aa).length) af)),(15,.p 3 0),(97,.v (.int .i64 (((qar aa).length:Nat):Int))),(98,.v (.int .i64 ((k:Nat):Int))),(99,.v (.bool (decide (((k:Nat):Int) < (((qar aa).length:Nat):Int)))))] ay gG fun nk bp=>?_
 refine wp_seq (qax bp (b:=decide (((k:Nat):Int) < (((qar aa).length:Nat):Int))) kz (fun bq=>?_) (fun bq=>?_))
 ·
  have ko:=zD bq
  refine wp_skip (qab (wp_seq (wp_block (qas (z32 v flex ae aa af k) ay bp fun nl gI=>?_))))
  refine qaE 14 kz ay fun nm gJ ai aC=>?_
  refine qaF [0,1,2,3,4,7,8,9] (z12 v flex ae aa af k y7 y2 y3 y6 A9 l8.length ap bC ao.length dH) 6 (qaa (qac (qaa (qaa (qac (qaa (qac (qaa qae)))))))) (fun _ h=>h.cells) aC gI fun np gK=>?_
  obtain ⟨i7,ja,gL,kp,bt⟩:=Slots.get (qdt dG) (i:=k) (by first | omega | (have h_:ao.length = (qar aa).length:=(hQ.2 ac ‹_›).1; omega))
  obtain ⟨jb,dy⟩:∃ x,(qar aa)[k]? = some x:=⟨_,List.getElem?_eq_getElem (by omega)⟩
  have bu:=(qdP hZ) k jb dy
  obtain ⟨bY,bZ,cd,ce,cm,eb,ec,ee,ef,eg,eh,kq,rfl,bw,jc,jd,nr,ns⟩:=bu.open_
  rw [bw] at bu
  have je:=jc.small
  have jf:=jd.small
  rw [bw] at bt
  refine qaH gK (i:=5) (t:=23) (A:=ae) (m:=((qar aa).length)) (q:=((k:Nat):Int)) (d:=106) kz (e:=26) (size:=5) (bytes:=88) kz gL rfl (by first | omega | (have h_:ao.length = (qar aa).length:=(hQ.2 ac ‹_›).1; omega)) kz kz (qaa (qac (qaa (qaa (qac (qaa (qac (qaa qae)))))))) aC fun nt gM=>?_
  refine qbl gM (i:=6) (t:=26) (b:=i7) (o:=ja + k * 5) (d:=107) kz (cs:=(z1 bY eb bZ.length ec cd ee ce.length ef eg cm.length eh)) (v:=.agg #[.int .i64 bY,.slice eb bZ.length ec,.bool cd,.slice ee ce.length ef,.slice eg cm.length eh]) kz (fun w' h'=>(AtF.move bt (TT.step0 ai h') nilM qbi).at_) kz kz (qaa (qac (qaa (qaa (qac (qaa (qac (qaa qae)))))))) aC fun nu gN=>?_
  obtain ⟨jg,jh,gO,ku,bx⟩:=Slots.get hJ (i:=k) (by first | omega | (have h_:ao.length = (qar aa).length:=(hQ.2 ac ‹_›).1; omega))
  obtain ⟨ji,dz⟩:∃ x,ao[k]? = some x:=⟨_,List.getElem?_eq_getElem (by omega)⟩
  have bz:=ia k ji dz
  obtain ⟨cq,cr,cu,cw,cz,ei,ej,ek,em,eo,ep,kv,rfl,bA,jj,jk,nv,nw⟩:=bz.open_
  rw [bA] at bz
  have jl:=jj.small
  have jm:=jk.small
  rw [bA] at bx
  refine qaH gN (i:=10) (t:=23) (A:=bC) (m:=ao.length) (q:=((k:Nat):Int)) (d:=111) kz (e:=26) (size:=5) (bytes:=88) kz gO rfl (by first | omega | (have h_:ao.length = (qar aa).length:=(hQ.2 ac ‹_›).1; omega)) kz kz (qaa (qac (qaa (qaa (qac (qaa (qac (qaa qae)))))))) aC fun nx gP=>?_
  refine qbl gP (i:=11) (t:=26) (b:=jg) (o:=jh + k * 5) (d:=112) kz (cs:=(z1 cq ei cr.length ej cu ek cw.length em eo cz.length ep)) (v:=.agg #[.int .i64 cq,.slice ei cr.length ej,.bool cu,.slice ek cw.length em,.slice eo cz.length ep]) kz (fun w' h'=>(AtF.move bx (TT.step0 ai h') nilM qbi).at_) kz kz (qaa (qac (qaa (qaa (qac (qaa (qac (qaa qae)))))))) aC fun ny gQ=>?_
  refine qap (i:=12) kz (qal gQ (f:=33) (vs:=[.agg #[.int .i64 y7,.int .i64 y2,.int .i64 y3,.int .i64 (-1),.int .i64 (-1),.int .i64 y6,.int .i64 y7,.slice A9 l8.length ap],.int .i64 v,.bool flex,.agg #[.int .i64 bY,.slice eb bZ.length ec,.bool cd,.slice ee ce.length ef,.slice eg cm.length eh],.agg #[.int .i64 cq,.slice ei cr.length ej,.bool cu,.slice ek cw.length em,.slice eo cz.length ep]]) (d:=113) kz Tryz.call33 ( qiz hT _ _ _ (Tree.mk bY bZ cd ce cm) _ (Tree.mk cq cr cu cw cz) _ _ (FldR.mk (l:=l8) dF (gU.move ai.step nilM ai.imm) (fun i_ x_ h_=>((hK i_ x_ h_).move ai.step nilM ai.imm))) hpl hof (bu.move ai.step nilM ai.imm) (bz.move ai.step nilM ai.imm) (hl_ _ _ _ dy dz)) ?_)
  rintro e_ nz ⟨rfl,dA⟩
  refine ⟨_,rfl,fun nA gR=>?_⟩
  have bB:=ai.next_nil dA
  have dB:=ai.frN dA
  have dC:=TT.ofW dB bB
  refine ⟨fun _=>dC,?_⟩
  refine qaF [13] (z36 v flex ae aa af k) 0 (qaa (qac (qaa (qaa (qac (qaa (qac (qaa qae)))))))) (fun _ h=>h.cells) dC gR fun nB dD=>?_
  refine qaC kz ?_ _
  refine qab (qaq dD (b:=false) kz rfl ?_)
  refine wp_skip (qav (qab (qau [0,1] kz ?_)))
  refine qak [0,1] [] [(1,.v (.int .i64 v)),(2,.v (.bool flex)),(9,.p 2 0),(14,.v (.slice ae ((qar aa).length) af)),(15,.p 3 0),(97,.v (.int .i64 (((qar aa).length:Nat):Int))),(98,.v (.int .i64 (IntKind.i64.wrap (((k:Nat):Int) + 1))))] bB dD fun nC dE=>?_
  refine qag (qab ?_)
  have gS:IntKind.i64.wrap (((k:Nat):Int) + 1) = ((k + 1:Nat):Int):=qaS (by omega)
  rw [gS] at dE
  exact ⟨(qar aa).length - (k + 1),by omega,k + 1,rfl,by omega,dE.pk,bB,((gH.trans gJ).trans dB)⟩
 have kw:=zF bq
 refine wp_exit (qay (qay (qaQ (qab (qas [(10,.v (.bool true))] ay bp fun nD gT=>?_)))))
 refine wp_ret (qaz (qat (qaK gT ay.cells (v:=.bool true) kz ?_)))
 exact ⟨rfl,ay.step⟩
theorem qmm {v:Int} {flex:Bool} {T:List Fld → Tree → Tree → Prop} (hT:ToOK v flex T) (cf:List Value) (f:Fld) (ct:List Value) (t:Tree) (cg:List Value) (g:Tree) (w:World) (F:Nat → Nat → Prop) (hf:FldR w F cf f) (hpl:f.plain) (ht:TreeR w F ct t) (hg:TreeR w F cg g) (hQ:ToF T v f t g) :
  Calls Tryz.prog 33 #[.agg cf.toArray,.int .i64 v,.bool flex,.agg ct.toArray,.agg cg.toArray] w (qcI w (.bool true)):=by
 by_cases h:f.kind = 11
 ·exact qlM hT cf f ct t cg g w F hf hpl h ht hg hQ
 exact qiz hT cf f ct t cg g w F hf (qjJ hpl) h ht hg hQ.1
abbrev z52 (x0) (x1) (x2) (x3) (x4) (x5):=([(0,.v (.slice x0 x1 x2)),(1,.v (.int .i64 x3)),(2,.v (.bool x4)),(8,.p 0 0),(9,.p 1 0),(11,.v (.int .i64 ((x5:Nat):Int))),(12,.p 2 0),(13,.p 3 0),(23,.v (.slice x0 x1 x2)),(24,.v (.int .i64 ((x1:Nat):Int))),(25,.v (.int .i64 ((x5:Nat):Int))),(41,.v (.bool false)),(48,.v (.bool x4))]:Env)
abbrev z55 (x0) (x1) (x2) (x3) (x4):=([(0,.v (.slice x0 x1 x2)),(1,.v (.int .i64 x3)),(2,.v (.bool false)),(8,.p 0 0),(9,.p 1 0),(11,.v (.int .i64 ((x4:Nat):Int))),(12,.p 2 0),(13,.p 3 0),(23,.v (.slice x0 x1 x2)),(24,.v (.int .i64 ((x1:Nat):Int))),(25,.v (.int .i64 ((x4:Nat):Int))),(54,.v (.bool false))]:Env)
abbrev z63 (x0) (x1) (x2) (x3) (x4) (x5) (x6) (x7) (x8) (x9) (x10) (x11) (x12) (x13) (x14) (x15) (x16) (x17) (x18) (x19) (x20) (x21) (x22) (x23) (x24) (x25):=([(0,.v (.slice x0 x1 x2)),(1,.v (.int .i64 x3)),(2,.v (.bool true)),(8,.p 0 0),(9,.p 1 0),(11,.v (.int .i64 ((x4:Nat):Int))),(12,.p 2 0),(13,.p 3 0),(23,.v (.slice x0 x1 x2)),(24,.v (.int .i64 ((x1:Nat):Int))),(25,.v (.int .i64 ((x4:Nat):Int))),(41,.v (.bool false)),(48,.v (.bool true)),(49,.v (.agg #[.int .i64 x5,.int .i64 x6,.int .i64 x7,.int .i64 x8,.int .i64 x9,.int .i64 x10,.int .i64 x11,.slice x12 x13 x14])),(50,.v (.agg #[.int .i64 x15,.slice x16 x17 x18,.bool x19,.slice x20 x21 x22,.slice x23 x24 x25]))]:Env)
abbrev z58 (x0) (x1) (x2) (x3) (x4) (x5):=([(0,.v (.slice x0 x1 x2)),(1,.v (.int .i64 x3)),(2,.v (.bool x4)),(8,.p 0 0),(9,.p 1 0),(11,.v (.int .i64 ((x5:Nat):Int))),(12,.p 2 0),(13,.p 3 0),(23,.v (.slice x0 x1 x2)),(24,.v (.int .i64 ((x1:Nat):Int))),(25,.v (.int .i64 ((x5:Nat):Int))),(54,.v (.bool false))]:Env)
abbrev z71 (x0) (x1) (x2) (x3) (x4) (x5):=([(0,.v (.slice x0 x1 x2)),(1,.v (.int .i64 x3)),(2,.v (.bool x4)),(8,.p 0 0),(9,.p 1 0),(23,.v (.slice x0 x1 x2)),(24,.v (.int .i64 ((x1:Nat):Int))),(25,.v (.int .i64 ((x5:Nat):Int))),(76,.v (.bool false))]:Env)
abbrev z84 (x0) (x1):=([.slice (some ⟨x0,0,none⟩) 1 1,.agg #[.int .i64 0,.slice none 0 0,.bool false,.slice (some ⟨x1,0,none⟩) 1 1,.slice none 0 0]]:List Value)
set_option maxHeartbeats 4000000 in
theorem qle {v:Int} {flex:Bool} {T:List Fld → Tree → Tree → Prop} {U:List Fld → Tree → Prop} (hT:ToOK v flex T) (hU:UsOK U) (A:Option Addr) (c:Nat) (l:List Fld) (ct:List Value) (t:Tree) (cg:List Value) (g:Tree) (w:World) (F:Nat → Nat → Prop) (hl:FldsR w F A c l) (ht:TreeR w F ct t) (hg:TreeR w F cg g) (hpl:plains l) (hP:ToP T U l v flex t g) :
  Calls Tryz.prog 12 #[.slice A l.length c,.int .i64 v,.bool flex,.agg ct.toArray,.agg cg.toArray] w (qcI w (.bool true)):=by
 obtain ⟨xfs,h1,h2⟩:=hl.ex
 have hsm:=h1.small
 obtain ⟨n1,s2,b3,l4,u5,A6,c7,A8,c9,bE,bF,jR,rfl,rfl,jS,jT,mK,jU⟩:=ht.open_
 have iS:=jS.small
 have iT:=jT.small
 obtain ⟨cP,cQ,cR,aF,aB,cS,cT,bG,bN,bH,bO,jV,rfl,rfl,jW,hZ,iU,jX⟩:=hg.open_
 have iV:=jW.small
 have iW:=hZ.small
 have hlen:aF.length = l.length:=hP.1
 have hgu:aB = if flex = true then qcC (qaj l u5) else []:=hP.2.2
 obtain ⟨jY,iX,jZ⟩:=jX.ex
 have iY:=iX.small
 refine enter (n:=120) Tryz.func12 rfl Tryz.ntmps12 kz fun a hE=>?_
 have hW:=WOk.start w Nil
 refine qaf [0,1,2] kz ?_
 refine qan (qby hW hE (d:=8) (cs:=(z1 n1 A6 s2.length c7 b3 A8 l4.length c9 bE u5.length bF)) kz fun dg mL mM j0 j1 j2 ia ib=>?_)
 refine qan (qby ia ib (d:=9) (cs:=(z1 cP cS cQ.length cT cR bG aF.length bN bH aB.length bO)) kz fun dh mN mO j3 j4 j5 bt ic=>?_)
 refine qak [2] [] [(0,.v (.slice A l.length c)),(1,.v (.int .i64 v)),(2,.v (.bool flex)),(8,.p 0 0),(9,.p 1 0)] bt ic fun mQ ig=>?_
 refine qag (qab ?_)
 refine wp_seq (qas [(0,.v (.slice A l.length c)),(1,.v (.int .i64 v)),(2,.v (.bool flex)),(8,.p 0 0),(9,.p 1 0),(22,.v (.bool (((aF.length:Nat):Int) != ((l.length:Nat):Int))))] bt ig fun mR ee=>?_)
 refine qax ee (b:=((aF.length:Nat):Int) != ((l.length:Nat):Int)) kz (fun ef=>?_) (fun ef=>?_)
 ·
  have j6:((aF.length:Nat):Int) ≠ ((l.length:Nat):Int):=by simpa using ef
  refine qas [(10,.v (.bool false))] bt ee fun mS ii=>?_
  refine wp_ret (qat (qaK ii bt.cells (v:=.bool false) kz ?_))
  first
   | (exfalso; omega)
   | exact (qe8 hgu ‹_› ‹_›).elim
   | exact (qed hgu ‹_› ‹_›).elim
   | exact (qe9 hgu ‹_› ‹_› ‹_› ‹_›).elim
   | exact (qfa hgu ‹_› ‹_› ‹_› ‹_›).elim
   | (exfalso; simp_all; done)
 have j7:((aF.length:Nat):Int) = ((l.length:Nat):Int):=by simpa using ef
 refine wp_skip (qab (wp_seq (qas [(0,.v (.slice A l.length c)),(1,.v (.int .i64 v)),(2,.v (.bool flex)),(8,.p 0 0),(9,.p 1 0),(23,.v (.slice A l.length c)),(24,.v (.int .i64 ((l.length:Nat):Int))),(25,.v (.int .i64 0))] bt ee fun mT ij=>?_)))
 refine wp_block (wp_loop_ghost (fun n_ a_ w_=>∃ (k:Nat),n_ = l.length - k ∧ k ≤ l.length ∧ LInv bt 120 [⟨dg,0,[.int .i64 n1,.slice A6 s2.length c7,.bool b3,.slice A8 l4.length c9,.slice bE u5.length bF],true⟩,⟨dh,0,[.int .i64 cP,.slice cS cQ.length cT,.bool cR,.slice bG aF.length bN,.slice bH aB.length bO],true⟩] [] [(0,.v (.slice A l.length c)),(1,.v (.int .i64 v)),(2,.v (.bool flex)),(8,.p 0 0),(9,.p 1 0),(23,.v (.slice A l.length c)),(24,.v (.int .i64 ((l.length:Nat):Int))),(25,.v (.int .i64 ((k:Nat):Int)))] a_ w_) (l.length) ⟨0,by omega,by omega,ij.pk,bt,Fr.refl _ _ _⟩ ?_)
 rintro mU mV mW ⟨k,j8,j9,ik,av,eg⟩
 refine qas [(0,.v (.slice A l.length c)),(1,.v (.int .i64 v)),(2,.v (.bool flex)),(8,.p 0 0),(9,.p 1 0),(23,.v (.slice A l.length c)),(24,.v (.int .i64 ((l.length:Nat):Int))),(25,.v (.int .i64 ((k:Nat):Int))),(26,.v (.bool (decide (((k:Nat):Int) < ((l.length:Nat):Int)))))] av ik fun mX eh=>?_
 refine wp_seq (qax eh (b:=decide (((k:Nat):Int) < ((l.length:Nat):Int))) kz (fun ei=>?_) (fun ei=>?_))
 ·
  have ka:=zD ei
  refine wp_skip (qab (wp_seq (wp_block (qaf [0,1,2,3,4,5] kz ?_))))
  refine qak [0] [1,2,3,4,5] [(0,.v (.slice A l.length c)),(1,.v (.int .i64 v)),(2,.v (.bool flex)),(8,.p 0 0),(9,.p 1 0),(23,.v (.slice A l.length c)),(24,.v (.int .i64 ((l.length:Nat):Int))),(25,.v (.int .i64 ((k:Nat):Int))),(27,.v (.int .i64 ((k:Nat):Int)))] av eh fun mY il=>?_
  obtain ⟨kd,ke,im,kf,di⟩:=Slots.get h1 (i:=k) (by first | omega | (have h_:=qcP hgu ‹_›; omega))
  obtain ⟨kg,bP⟩:∃ x,l[k]? = some x:=⟨_,List.getElem?_eq_getElem (by omega)⟩
  have bu:=h2 k kg bP
  obtain ⟨aj,ak,al,am,ag,ao,aa,ab,ap,ar,iZ,rfl,bQ,io,kh⟩:=bu.open_
  rw [bQ] at bu
  have ip:=io.small
  rw [bQ] at di
  refine qan (qaB il (t:=29) (A:=A) (m:=l.length) (q:=((k:Nat):Int)) (d:=28) kz (e:=51) (size:=8) (bytes:=80) kz im rfl (by first | omega | (have h_:=qcP hgu ‹_›; omega)) fun ki eB=>?_)
  refine qan (qaW eB (t:=51) (b:=kd) (o:=ke + k * 8) (d:=29) kz (cs:=(z6 aj ak al am ag ao aa ap ab.length ar)) (v:=.agg #[.int .i64 aj,.int .i64 ak,.int .i64 al,.int .i64 am,.int .i64 ag,.int .i64 ao,.int .i64 aa,.slice ap ab.length ar]) kz (AtF.move di av.step nilM qbi).at_ fun kj eC=>?_)
  refine qan (qaM av eC (d:=12) (cs:=z10) kz fun iq km ko i6 i7 bR dj eD=>?_)
  refine qak [4] [5] [(0,.v (.slice A l.length c)),(1,.v (.int .i64 v)),(2,.v (.bool flex)),(8,.p 0 0),(9,.p 1 0),(11,.v (.int .i64 ((k:Nat):Int))),(12,.p 2 0),(23,.v (.slice A l.length c)),(24,.v (.int .i64 ((l.length:Nat):Int))),(25,.v (.int .i64 ((k:Nat):Int))),(29,.v (.agg #[.int .i64 aj,.int .i64 ak,.int .i64 al,.int .i64 am,.int .i64 ag,.int .i64 ao,.int .i64 aa,.slice ap ab.length ar]))] dj eD fun kp eE=>?_
  refine qan (qao dj eE (oi:=2) (cs:=(z6 aj ak al am ag ao aa ap ab.length ar)) kz fun kq bS aG eF=>?_)
  refine qag (qab ?_)
  refine qaf [0,1,2,3,4] kz ?_
  refine qak [0,1] [2,3,4] [(0,.v (.slice A l.length c)),(1,.v (.int .i64 v)),(2,.v (.bool flex)),(8,.p 0 0),(9,.p 1 0),(11,.v (.int .i64 ((k:Nat):Int))),(12,.p 2 0),(23,.v (.slice A l.length c)),(24,.v (.int .i64 ((l.length:Nat):Int))),(25,.v (.int .i64 ((k:Nat):Int))),(30,.v (.agg #[.int .i64 n1,.slice A6 s2.length c7,.bool b3,.slice A8 l4.length c9,.slice bE u5.length bF])),(31,.v (.int .i64 ((k:Nat):Int)))] aG eF fun ku eG=>?_
  refine qan (qal eG (f:=30) (vs:=[.agg #[.int .i64 n1,.slice A6 s2.length c7,.bool b3,.slice A8 l4.length c9,.slice bE u5.length bF],.int .i64 ((k:Nat):Int)]) (d:=32) kz Tryz.call30 (sAt _ _ k _ _ (ht.move aG.step nilM aG.imm)) ?_)
  rintro e_ kv ⟨ja,rfl,eH,aK⟩
  have aL:=eH.move aK nilM (fun b o h_ hb_=>aG.laid (G:=F) aK b o (.inl h_) (Nat.lt_of_lt_of_le hb_ aK.size))
  obtain ⟨aM,aN,aO,aP,aQ,aR,aS,aT,aU,aV,aW,jb,jc,bT,ir,iu,kw,kx⟩:=aL.open_
  rw [bT] at aL
  have iv:=ir.small
  have iw:=iu.small
  rw [bT]
  refine ⟨_,rfl,fun ky eI=>?_⟩
  have eJ:=aG.next_nil aK
  have bU:=aG.frN aK
  refine qan (qaM eJ eI (d:=13) (cs:=z0) kz fun ix kA kB jd je aw eK eL=>?_)
  refine qan (qao eK eL (oi:=3) (cs:=(z1 aM aR aN.length aS aO aT aP.length aU aV aQ.length aW)) kz fun kC ax ac eM=>?_)
  refine qag (qab ?_)
  refine wp_seq (wp_seq (qhX (Mid:=fun a_ w_=>LInv ac 120 [⟨dg,0,(z1 n1 A6 s2.length c7 b3 A8 l4.length c9 bE u5.length bF),true⟩,⟨dh,0,(z1 cP cS cQ.length cT cR bG aF.length bN bH aB.length bO),true⟩,⟨iq,0,(z6 aj ak al am ag ao aa ap ab.length ar),true⟩,⟨ix,0,(z1 aM aR aN.length aS aO aT aP.length aU aV aQ.length aW),true⟩] [] [(0,.v (.slice A l.length c)),(1,.v (.int .i64 v)),(2,.v (.bool flex)),(8,.p 0 0),(9,.p 1 0),(11,.v (.int .i64 ((k:Nat):Int))),(12,.p 2 0),(13,.p 3 0),(23,.v (.slice A l.length c)),(24,.v (.int .i64 ((l.length:Nat):Int))),(25,.v (.int .i64 ((k:Nat):Int))),(54,.v (.bool (Fld.pres (Fld.mk aj ak al am ag ao aa ab) v flex (Tree.at_ (Tree.mk n1 s2 b3 l4 u5) k))))] a_ w_) ?_ ?_))
  ·
   refine qau [0,1,2,3,4,5,6,7,8,9,10,11,12,13,14,15,16,17,18,19,20,21] kz ?_
   refine qak [0,1,2,3] [4,5,6,7,8,9,10,11,12,13,14,15,16,17,18,19,20,21] [(0,.v (.slice A l.length c)),(1,.v (.int .i64 v)),(2,.v (.bool flex)),(8,.p 0 0),(9,.p 1 0),(11,.v (.int .i64 ((k:Nat):Int))),(12,.p 2 0),(13,.p 3 0),(23,.v (.slice A l.length c)),(24,.v (.int .i64 ((l.length:Nat):Int))),(25,.v (.int .i64 ((k:Nat):Int))),(36,.v (.bool (decide (ag < 0))))] ac eM fun kD dl=>?_
   refine (zO (decide (ag < 0))).elim (fun aX=>?_) (fun aX=>?_)
   ·
    have jf:=zD aX
    have eN:=dl
    rw [aX] at eN
    refine qak [4,5] [6,7,8,9,10,11,12,13,14,15,16,17,18,19,20,21] [(0,.v (.slice A l.length c)),(1,.v (.int .i64 v)),(2,.v (.bool flex)),(8,.p 0 0),(9,.p 1 0),(11,.v (.int .i64 ((k:Nat):Int))),(12,.p 2 0),(13,.p 3 0),(23,.v (.slice A l.length c)),(24,.v (.int .i64 ((l.length:Nat):Int))),(25,.v (.int .i64 ((k:Nat):Int))),(36,.v (.bool true)),(37,.v (.agg #[.int .i64 aj,.int .i64 ak,.int .i64 al,.int .i64 am,.int .i64 ag,.int .i64 ao,.int .i64 aa,.slice ap ab.length ar])),(38,.v (.int .i64 v))] ac eN fun kE eO=>?_
    refine qan (qal eO (f:=31) (vs:=[.agg #[.int .i64 aj,.int .i64 ak,.int .i64 al,.int .i64 am,.int .i64 ag,.int .i64 ao,.int .i64 aa,.slice ap ab.length ar],.int .i64 v]) (d:=39) kz Tryz.call31 (sHas aj ak al am ag ao aa ab _ _ v _) ?_)
    rintro e_ kF ⟨rfl,dp⟩
    refine ⟨_,rfl,fun kG eP=>?_⟩
    have af:=ac.next_nil dp
    have aH:=ac.frN dp
    refine qak [7,8] [9,10,11,12,13,14,15,16,17,18,19,20,21] [(0,.v (.slice A l.length c)),(1,.v (.int .i64 v)),(2,.v (.bool flex)),(8,.p 0 0),(9,.p 1 0),(11,.v (.int .i64 ((k:Nat):Int))),(12,.p 2 0),(13,.p 3 0),(23,.v (.slice A l.length c)),(24,.v (.int .i64 ((l.length:Nat):Int))),(25,.v (.int .i64 ((k:Nat):Int))),(41,.v (.bool (Fld.has (Fld.mk aj ak al am ag ao aa ab) v)))] af eP fun kH dq=>?_
    refine (zO (Fld.has (Fld.mk aj ak al am ag ao aa ab) v)).elim (fun bV=>?_) (fun bV=>?_)
    ·
     have eQ:=dq
     rw [bV] at eQ
     refine qak [9,10,11,12,13,14,15,16,17,18,19,20,21] [] [(0,.v (.slice A l.length c)),(1,.v (.int .i64 v)),(2,.v (.bool flex)),(8,.p 0 0),(9,.p 1 0),(11,.v (.int .i64 ((k:Nat):Int))),(12,.p 2 0),(13,.p 3 0),(23,.v (.slice A l.length c)),(24,.v (.int .i64 ((l.length:Nat):Int))),(25,.v (.int .i64 ((k:Nat):Int))),(54,.v (.bool true))] af eQ fun kI eR=>?_
     refine qag (qab ?_)
     have hp_:Fld.pres (Fld.mk aj ak al am ag ao aa ab) v flex (Tree.at_ (Tree.mk n1 s2 b3 l4 u5) k) = true:=by first | (first | exact qmk ‹_› ‹_› | exact qml ‹_› ‹_› ‹_›) | (exfalso; omega)
     exact ⟨(eR.pk (env':=[(0,.v (.slice A l.length c)),(1,.v (.int .i64 v)),(2,.v (.bool flex)),(8,.p 0 0),(9,.p 1 0),(11,.v (.int .i64 ((k:Nat):Int))),(12,.p 2 0),(13,.p 3 0),(23,.v (.slice A l.length c)),(24,.v (.int .i64 ((l.length:Nat):Int))),(25,.v (.int .i64 ((k:Nat):Int))),(54,.v (.bool true))])).cast (by rw [hp_]),af,aH⟩
    have eS:=dq
    rw [bV] at eS
    refine qak [9,10,11,12] [13,14,15,16,17,18,19,20,21] [(0,.v (.slice A l.length c)),(1,.v (.int .i64 v)),(2,.v (.bool flex)),(8,.p 0 0),(9,.p 1 0),(11,.v (.int .i64 ((k:Nat):Int))),(12,.p 2 0),(13,.p 3 0),(23,.v (.slice A l.length c)),(24,.v (.int .i64 ((l.length:Nat):Int))),(25,.v (.int .i64 ((k:Nat):Int))),(41,.v (.bool false)),(45,.v (.bool (decide (ag ≥ 0))))] af eS fun kJ dr=>?_
    refine (zO (decide (ag ≥ 0))).elim (fun aY=>?_) (fun aY=>?_)
    ·
     have jg:=zD aY
     have eU:=dr
     rw [aY] at eU
     refine qak [13,14,15] [16,17,18,19,20,21] (z52 A l.length c v flex k) af eU fun kK dt=>?_
     refine (zO (flex)).elim (fun aZ=>?_) (fun aZ=>?_)
     ·
      have eV:=dt.cast (env':=[(0,.v (.slice A l.length c)),(1,.v (.int .i64 v)),(2,.v (.bool true)),(8,.p 0 0),(9,.p 1 0),(11,.v (.int .i64 ((k:Nat):Int))),(12,.p 2 0),(13,.p 3 0),(23,.v (.slice A l.length c)),(24,.v (.int .i64 ((l.length:Nat):Int))),(25,.v (.int .i64 ((k:Nat):Int))),(41,.v (.bool false)),(48,.v (.bool true))]) (by rw [aZ])
      refine qak [16,17] [18,19,20,21] (z63 A l.length c v k aj ak al am ag ao aa ap ab.length ar aM aR aN.length aS aO aT aP.length aU aV aQ.length aW) af eV fun kL eW=>?_
      refine qan (qal eW (f:=32) (vs:=[.agg #[.int .i64 aj,.int .i64 ak,.int .i64 al,.int .i64 am,.int .i64 ag,.int .i64 ao,.int .i64 aa,.slice ap ab.length ar],.agg #[.int .i64 aM,.slice aR aN.length aS,.bool aO,.slice aT aP.length aU,.slice aV aQ.length aW]]) (d:=51) kz Tryz.call32 (qip _ _ _ _ _ _ _ (bu.move af.step nilM af.imm) (Nat.le_refl _) (aL.move ((aw.trans ax).trans aH).step immM ((aw.trans ax).trans aH).to')) ?_)
      rintro e_ kM ⟨rfl,du⟩
      refine ⟨_,rfl,fun kN eX=>?_⟩
      have dv:=af.next_nil du
      have eY:=af.frN du
      refine qak [19,20,21] [] [(0,.v (.slice A l.length c)),(1,.v (.int .i64 v)),(2,.v (.bool true)),(8,.p 0 0),(9,.p 1 0),(11,.v (.int .i64 ((k:Nat):Int))),(12,.p 2 0),(13,.p 3 0),(23,.v (.slice A l.length c)),(24,.v (.int .i64 ((l.length:Nat):Int))),(25,.v (.int .i64 ((k:Nat):Int))),(54,.v (.bool (!(Fld.usual (Fld.mk aj ak al am ag ao aa ab) (Tree.at_ (Tree.mk n1 s2 b3 l4 u5) k)))))] dv eX fun kO eZ=>?_
      refine qag (qab ?_)
      have hp_:Fld.pres (Fld.mk aj ak al am ag ao aa ab) v flex (Tree.at_ (Tree.mk n1 s2 b3 l4 u5) k) = !(Fld.usual (Fld.mk aj ak al am ag ao aa ab) (Tree.at_ (Tree.mk n1 s2 b3 l4 u5) k)):=by first | (first | exact qlb ‹_› ‹_› | exact qlc ‹_›) | (exfalso; omega)
      exact ⟨(eZ.pk (env':=[(0,.v (.slice A l.length c)),(1,.v (.int .i64 v)),(2,.v (.bool true)),(8,.p 0 0),(9,.p 1 0),(11,.v (.int .i64 ((k:Nat):Int))),(12,.p 2 0),(13,.p 3 0),(23,.v (.slice A l.length c)),(24,.v (.int .i64 ((l.length:Nat):Int))),(25,.v (.int .i64 ((k:Nat):Int))),(54,.v (.bool (!(Fld.usual (Fld.mk aj ak al am ag ao aa ab) (Tree.at_ (Tree.mk n1 s2 b3 l4 u5) k)))))])).cast (by rw [hp_,aZ]),dv,(aH.trans eY)⟩
     have e9:=dt.cast (env':=[(0,.v (.slice A l.length c)),(1,.v (.int .i64 v)),(2,.v (.bool false)),(8,.p 0 0),(9,.p 1 0),(11,.v (.int .i64 ((k:Nat):Int))),(12,.p 2 0),(13,.p 3 0),(23,.v (.slice A l.length c)),(24,.v (.int .i64 ((l.length:Nat):Int))),(25,.v (.int .i64 ((k:Nat):Int))),(41,.v (.bool false)),(48,.v (.bool false))]) (by rw [aZ])
     refine qak [16,17,18,19,20,21] [] (z55 A l.length c v k) af e9 fun kP fb=>?_
     refine qag (qab ?_)
     have hp_:Fld.pres (Fld.mk aj ak al am ag ao aa ab) v flex (Tree.at_ (Tree.mk n1 s2 b3 l4 u5) k) = false:=by first | (first | exact qit ‹_› ‹_› | exact qiu ‹_› ‹_› | exact qiv ‹_› ‹_›) | (exfalso; omega)
     exact ⟨(fb.pk (env':=[(0,.v (.slice A l.length c)),(1,.v (.int .i64 v)),(2,.v (.bool false)),(8,.p 0 0),(9,.p 1 0),(11,.v (.int .i64 ((k:Nat):Int))),(12,.p 2 0),(13,.p 3 0),(23,.v (.slice A l.length c)),(24,.v (.int .i64 ((l.length:Nat):Int))),(25,.v (.int .i64 ((k:Nat):Int))),(54,.v (.bool false))])).cast (by rw [hp_,aZ]),af,aH⟩
    have jh:=zF aY
    have fe:=dr
    rw [aY] at fe
    refine qak [13,14,15,16,17,18,19,20,21] [] (z58 A l.length c v flex k) af fe fun kQ ff=>?_
    refine qag (qab ?_)
    have hp_:Fld.pres (Fld.mk aj ak al am ag ao aa ab) v flex (Tree.at_ (Tree.mk n1 s2 b3 l4 u5) k) = false:=by first | (first | exact qit ‹_› ‹_› | exact qiu ‹_› ‹_› | exact qiv ‹_› ‹_›) | (exfalso; omega)
    exact ⟨(ff.pk (env':=[(0,.v (.slice A l.length c)),(1,.v (.int .i64 v)),(2,.v (.bool flex)),(8,.p 0 0),(9,.p 1 0),(11,.v (.int .i64 ((k:Nat):Int))),(12,.p 2 0),(13,.p 3 0),(23,.v (.slice A l.length c)),(24,.v (.int .i64 ((l.length:Nat):Int))),(25,.v (.int .i64 ((k:Nat):Int))),(54,.v (.bool false))])).cast (by rw [hp_]),af,aH⟩
   have ji:=zF aX
   have fg:=dl
   rw [aX] at fg
   refine qak [4,5,6,7,8,9,10,11,12] [13,14,15,16,17,18,19,20,21] [(0,.v (.slice A l.length c)),(1,.v (.int .i64 v)),(2,.v (.bool flex)),(8,.p 0 0),(9,.p 1 0),(11,.v (.int .i64 ((k:Nat):Int))),(12,.p 2 0),(13,.p 3 0),(23,.v (.slice A l.length c)),(24,.v (.int .i64 ((l.length:Nat):Int))),(25,.v (.int .i64 ((k:Nat):Int))),(41,.v (.bool false)),(45,.v (.bool (decide (ag ≥ 0))))] ac fg fun kR dw=>?_
   refine (zO (decide (ag ≥ 0))).elim (fun ba=>?_) (fun ba=>?_)
   ·
    have jj:=zD ba
    have fh:=dw
    rw [ba] at fh
    refine qak [13,14,15] [16,17,18,19,20,21] (z52 A l.length c v flex k) ac fh fun kS dx=>?_
    refine (zO (flex)).elim (fun bd=>?_) (fun bd=>?_)
    ·
     have fi:=dx.cast (env':=[(0,.v (.slice A l.length c)),(1,.v (.int .i64 v)),(2,.v (.bool true)),(8,.p 0 0),(9,.p 1 0),(11,.v (.int .i64 ((k:Nat):Int))),(12,.p 2 0),(13,.p 3 0),(23,.v (.slice A l.length c)),(24,.v (.int .i64 ((l.length:Nat):Int))),(25,.v (.int .i64 ((k:Nat):Int))),(41,.v (.bool false)),(48,.v (.bool true))]) (by rw [bd])
     refine qak [16,17] [18,19,20,21] (z63 A l.length c v k aj ak al am ag ao aa ap ab.length ar aM aR aN.length aS aO aT aP.length aU aV aQ.length aW) ac fi fun kT fj=>?_
     refine qan (qal fj (f:=32) (vs:=[.agg #[.int .i64 aj,.int .i64 ak,.int .i64 al,.int .i64 am,.int .i64 ag,.int .i64 ao,.int .i64 aa,.slice ap ab.length ar],.agg #[.int .i64 aM,.slice aR aN.length aS,.bool aO,.slice aT aP.length aU,.slice aV aQ.length aW]]) (d:=51) kz Tryz.call32 (qip _ _ _ _ _ _ _ (bu.move ac.step nilM ac.imm) (Nat.le_refl _) (aL.move (aw.trans ax).step immM (aw.trans ax).to')) ?_)
     rintro e_ kU ⟨rfl,dy⟩
     refine ⟨_,rfl,fun kV fk=>?_⟩
     have dz:=ac.next_nil dy
     have fm:=ac.frN dy
     refine qak [19,20,21] [] [(0,.v (.slice A l.length c)),(1,.v (.int .i64 v)),(2,.v (.bool true)),(8,.p 0 0),(9,.p 1 0),(11,.v (.int .i64 ((k:Nat):Int))),(12,.p 2 0),(13,.p 3 0),(23,.v (.slice A l.length c)),(24,.v (.int .i64 ((l.length:Nat):Int))),(25,.v (.int .i64 ((k:Nat):Int))),(54,.v (.bool (!(Fld.usual (Fld.mk aj ak al am ag ao aa ab) (Tree.at_ (Tree.mk n1 s2 b3 l4 u5) k)))))] dz fk fun kW fo=>?_
     refine qag (qab ?_)
     have hp_:Fld.pres (Fld.mk aj ak al am ag ao aa ab) v flex (Tree.at_ (Tree.mk n1 s2 b3 l4 u5) k) = !(Fld.usual (Fld.mk aj ak al am ag ao aa ab) (Tree.at_ (Tree.mk n1 s2 b3 l4 u5) k)):=by first | (first | exact qlb ‹_› ‹_› | exact qlc ‹_›) | (exfalso; omega)
     exact ⟨(fo.pk (env':=[(0,.v (.slice A l.length c)),(1,.v (.int .i64 v)),(2,.v (.bool true)),(8,.p 0 0),(9,.p 1 0),(11,.v (.int .i64 ((k:Nat):Int))),(12,.p 2 0),(13,.p 3 0),(23,.v (.slice A l.length c)),(24,.v (.int .i64 ((l.length:Nat):Int))),(25,.v (.int .i64 ((k:Nat):Int))),(54,.v (.bool (!(Fld.usual (Fld.mk aj ak al am ag ao aa ab) (Tree.at_ (Tree.mk n1 s2 b3 l4 u5) k)))))])).cast (by rw [hp_,bd]),dz,fm⟩
    have fq:=dx.cast (env':=[(0,.v (.slice A l.length c)),(1,.v (.int .i64 v)),(2,.v (.bool false)),(8,.p 0 0),(9,.p 1 0),(11,.v (.int .i64 ((k:Nat):Int))),(12,.p 2 0),(13,.p 3 0),(23,.v (.slice A l.length c)),(24,.v (.int .i64 ((l.length:Nat):Int))),(25,.v (.int .i64 ((k:Nat):Int))),(41,.v (.bool false)),(48,.v (.bool false))]) (by rw [bd])
    refine qak [16,17,18,19,20,21] [] (z55 A l.length c v k) ac fq fun kX fr=>?_
    refine qag (qab ?_)
    have hp_:Fld.pres (Fld.mk aj ak al am ag ao aa ab) v flex (Tree.at_ (Tree.mk n1 s2 b3 l4 u5) k) = false:=by first | (first | exact qit ‹_› ‹_› | exact qiu ‹_› ‹_› | exact qiv ‹_› ‹_›) | (exfalso; omega)
    exact ⟨(fr.pk (env':=[(0,.v (.slice A l.length c)),(1,.v (.int .i64 v)),(2,.v (.bool false)),(8,.p 0 0),(9,.p 1 0),(11,.v (.int .i64 ((k:Nat):Int))),(12,.p 2 0),(13,.p 3 0),(23,.v (.slice A l.length c)),(24,.v (.int .i64 ((l.length:Nat):Int))),(25,.v (.int .i64 ((k:Nat):Int))),(54,.v (.bool false))])).cast (by rw [hp_,bd]),ac,Fr.refl _ _ _⟩
   have jk:=zF ba
   have ft:=dw
   rw [ba] at ft
   refine qak [13,14,15,16,17,18,19,20,21] [] (z58 A l.length c v flex k) ac ft fun kY fv=>?_
   refine qag (qab ?_)
   have hp_:Fld.pres (Fld.mk aj ak al am ag ao aa ab) v flex (Tree.at_ (Tree.mk n1 s2 b3 l4 u5) k) = false:=by first | (first | exact qit ‹_› ‹_› | exact qiu ‹_› ‹_› | exact qiv ‹_› ‹_›) | (exfalso; omega)
   exact ⟨(fv.pk (env':=[(0,.v (.slice A l.length c)),(1,.v (.int .i64 v)),(2,.v (.bool flex)),(8,.p 0 0),(9,.p 1 0),(11,.v (.int .i64 ((k:Nat):Int))),(12,.p 2 0),(13,.p 3 0),(23,.v (.slice A l.length c)),(24,.v (.int .i64 ((l.length:Nat):Int))),(25,.v (.int .i64 ((k:Nat):Int))),(54,.v (.bool false))])).cast (by rw [hp_]),ac,Fr.refl _ _ _⟩
  rintro kZ k5 ⟨bW,dA,bf⟩
  refine qax bW (b:=Fld.pres (Fld.mk aj ak al am ag ao aa ab) v flex (Tree.at_ (Tree.mk n1 s2 b3 l4 u5) k)) kz (fun fw=>?_) (fun fw=>?_)
  ·
   refine wp_seq (qaE 11 kz dA fun k6 bX aC bY=>?_)
   refine qaF [0,1,2,3,4,5,6] [(0,.v (.slice A l.length c)),(1,.v (.int .i64 v)),(2,.v (.bool flex)),(8,.p 0 0),(9,.p 1 0),(23,.v (.slice A l.length c)),(24,.v (.int .i64 ((l.length:Nat):Int))),(25,.v (.int .i64 ((k:Nat):Int))),(55,.v (.agg #[.int .i64 aj,.int .i64 ak,.int .i64 al,.int .i64 am,.int .i64 ag,.int .i64 ao,.int .i64 aa,.slice ap ab.length ar])),(56,.v (.int .i64 v)),(57,.v (.bool flex)),(58,.v (.agg #[.int .i64 aM,.slice aR aN.length aS,.bool aO,.slice aT aP.length aU,.slice aV aQ.length aW])),(60,.v (.slice bG aF.length bN)),(61,.v (.int .i64 ((k:Nat):Int)))] 4 (qaa (qaa (qaa (qac (qaa (qaa (qac (qaa qae)))))))) (fun _ h=>h.cells) bY bW fun k7 fx=>?_
   obtain ⟨iy,iz,fy,jl,bZ⟩:=Slots.get hZ (i:=k) (by first | omega | (have h_:=qcP hgu ‹_›; omega))
   obtain ⟨iA,dB⟩:∃ x,aF[k]? = some x:=⟨_,List.getElem?_eq_getElem (by omega)⟩
   have cd:=iU k iA dB
   obtain ⟨cU,cV,cW,cX,cY,ej,ek,em,eo,ep,eu,jm,rfl,ce,iB,iC,k8,k9⟩:=cd.open_
   rw [ce] at cd
   have iD:=iB.small
   have iE:=iC.small
   rw [ce] at bZ
   refine qaH fx (i:=7) (t:=23) (A:=bG) (m:=aF.length) (q:=((k:Nat):Int)) (d:=62) kz (e:=26) (size:=5) (bytes:=88) kz fy rfl (by first | omega | (have h_:=qcP hgu ‹_›; omega)) kz kz (qaa (qaa (qaa (qac (qaa (qaa (qac (qaa qae)))))))) bY fun la fz=>?_
   refine qbl fz (i:=8) (t:=26) (b:=iy) (o:=iz + k * 5) (d:=63) kz (cs:=(z1 cU ej cV.length ek cW em cX.length eo ep cY.length eu)) (v:=.agg #[.int .i64 cU,.slice ej cV.length ek,.bool cW,.slice em cX.length eo,.slice ep cY.length eu]) kz (fun w' h'=>(AtF.move bZ (TT.step0 aC h') nilM qbi).at_) kz kz (qaa (qaa (qaa (qac (qaa (qaa (qac (qaa qae)))))))) bY fun lb fA=>?_
   refine qap (i:=9) kz (qal fA (f:=33) (vs:=[.agg #[.int .i64 aj,.int .i64 ak,.int .i64 al,.int .i64 am,.int .i64 ag,.int .i64 ao,.int .i64 aa,.slice ap ab.length ar],.int .i64 v,.bool flex,.agg #[.int .i64 aM,.slice aR aN.length aS,.bool aO,.slice aT aP.length aU,.slice aV aQ.length aW],.agg #[.int .i64 cU,.slice ej cV.length ek,.bool cW,.slice em cX.length eo,.slice ep cY.length eu]]) (d:=64) kz Tryz.call33 ( qmm hT _ _ _ (Tree.at_ (Tree.mk n1 s2 b3 l4 u5) k) _ (Tree.mk cU cV cW cX cY) _ _ (bu.move aC.step nilM aC.imm) (qgn hpl (List.mem_of_getElem? bP)) (aL.move (((aw.trans ax).trans bf).trans bX).step immM (((aw.trans ax).trans bf).trans bX).to') (cd.move aC.step nilM aC.imm) ((hP.2.1 k _ _ bP dB).1 ‹_›)) ?_)
   rintro e_ lc ⟨rfl,dC⟩
   refine ⟨_,rfl,fun ld fB=>?_⟩
   have cm:=aC.next_nil dC
   have dD:=aC.frN dC
   have dE:=TT.ofW dD cm
   refine ⟨fun _=>dE,?_⟩
   refine qaF [10] [(0,.v (.slice A l.length c)),(1,.v (.int .i64 v)),(2,.v (.bool flex)),(8,.p 0 0),(9,.p 1 0),(23,.v (.slice A l.length c)),(24,.v (.int .i64 ((l.length:Nat):Int))),(25,.v (.int .i64 ((k:Nat):Int))),(65,.v (.bool false))] 0 (qaa (qaa (qaa (qac (qaa (qaa (qac (qaa qae)))))))) (fun _ h=>h.cells) dE fB fun lf dF=>?_
   refine qaC kz ?_ _
   refine qab (qaq dF (b:=false) kz rfl ?_)
   refine wp_skip (qab (wp_exit (qay (qaQ (qab (qau [0,1] kz ?_))))))
   refine qak [0,1] [] [(0,.v (.slice A l.length c)),(1,.v (.int .i64 v)),(2,.v (.bool flex)),(8,.p 0 0),(9,.p 1 0),(23,.v (.slice A l.length c)),(24,.v (.int .i64 ((l.length:Nat):Int))),(25,.v (.int .i64 (IntKind.i64.wrap (((k:Nat):Int) + 1))))] cm dF fun lg fC=>?_
   refine qag (qab ?_)
   obtain ⟨dG,fD,fE⟩:=cm.cutB fC 2 [⟨dg,0,(z1 n1 A6 s2.length c7 b3 A8 l4.length c9 bE u5.length bF),true⟩,⟨dh,0,(z1 cP cS cQ.length cT cR bG aF.length bN bH aB.length bO),true⟩] [(0,.v (.slice A l.length c)),(1,.v (.int .i64 v)),(2,.v (.bool flex)),(8,.p 0 0),(9,.p 1 0),(23,.v (.slice A l.length c)),(24,.v (.int .i64 ((l.length:Nat):Int))),(25,.v (.int .i64 (IntKind.i64.wrap (((k:Nat):Int) + 1))))]
   have fF:IntKind.i64.wrap (((k:Nat):Int) + 1) = ((k + 1:Nat):Int):=qaS (by omega)
   rw [fF] at dG
   exact ⟨l.length - (k + 1),by omega,k + 1,rfl,by omega,dG.pk,fD,(((((((((eg.trans bR).trans bS).trans bU).trans aw).trans ax).trans bf).trans bX).trans dD).trans fE)⟩
  refine wp_skip (qab (qaE 11 kz dA fun lh dH cq cr=>?_))
  refine qaF [0,2,3,4] [(0,.v (.slice A l.length c)),(1,.v (.int .i64 v)),(2,.v (.bool flex)),(8,.p 0 0),(9,.p 1 0),(23,.v (.slice A l.length c)),(24,.v (.int .i64 ((l.length:Nat):Int))),(25,.v (.int .i64 ((k:Nat):Int))),(66,.v (.agg #[.int .i64 aj,.int .i64 ak,.int .i64 al,.int .i64 am,.int .i64 ag,.int .i64 ao,.int .i64 aa,.slice ap ab.length ar])),(69,.v (.slice bG aF.length bN)),(70,.v (.int .i64 ((k:Nat):Int)))] 7 (qaa (qac (qaa (qaa (qac (qaa qae)))))) (fun _ h=>h.cells) cr bW fun li fG=>?_
  obtain ⟨iF,iG,fH,jn,cu⟩:=Slots.get hZ (i:=k) (by first | omega | (have h_:=qcP hgu ‹_›; omega))
  obtain ⟨iH,cw⟩:∃ x,aF[k]? = some x:=⟨_,List.getElem?_eq_getElem (by omega)⟩
  have bA:=iU k iH cw
  obtain ⟨bI,bJ,bK,bL,bM,cZ,c5,c6,da,db,dc,jo,rfl,cz,iI,iJ,lj,lm⟩:=bA.open_
  rw [cz] at bA
  have iK:=iI.small
  have iL:=iJ.small
  rw [cz] at cu
  refine qaH fG (i:=5) (t:=23) (A:=bG) (m:=aF.length) (q:=((k:Nat):Int)) (d:=71) kz (e:=26) (size:=5) (bytes:=88) kz fH rfl (by first | omega | (have h_:=qcP hgu ‹_›; omega)) kz kz (qaa (qac (qaa (qaa (qac (qaa qae)))))) cr fun ln fI=>?_
  refine qbl fI (i:=6) (t:=26) (b:=iF) (o:=iG + k * 5) (d:=72) kz (cs:=(z1 bI cZ bJ.length c5 bK c6 bL.length da db bM.length dc)) (v:=.agg #[.int .i64 bI,.slice cZ bJ.length c5,.bool bK,.slice c6 bL.length da,.slice db bM.length dc]) kz (fun w' h'=>(AtF.move cu (TT.step0 cq h') nilM qbi).at_) kz kz (qaa (qac (qaa (qaa (qac (qaa qae)))))) cr fun lp dI=>?_
  refine qdV (i:=1) (j:=7) kz ?_ ?_
  ·
   refine (qbB cq dI (e:=51) (size:=8) (len:=1) (cs:=(z6 aj ak al am ag ao aa ap ab.length ar)) (d:=67) kz kz fun fJ lq lr jp jq bB dJ fK=>?_)
   have fL:=TT.ofW bB dJ
   refine ⟨fun _=>fL,?_⟩
   refine qap (i:=7) kz (qbB dJ fK (e:=26) (size:=5) (len:=1) (cs:=(z1 bI cZ bJ.length c5 bK c6 bL.length da db bM.length dc)) (d:=73) kz kz fun fM ls lu jr js cA ay fN=>?_)
   have dK:=TT.ofW (bB.trans cA) ay
   refine ⟨fun _=>dK,?_⟩
   refine qaF [8] [(0,.v (.slice A l.length c)),(1,.v (.int .i64 v)),(2,.v (.bool flex)),(8,.p 0 0),(9,.p 1 0),(23,.v (.slice A l.length c)),(24,.v (.int .i64 ((l.length:Nat):Int))),(25,.v (.int .i64 ((k:Nat):Int))),(67,.v (.slice (some ⟨fJ,0,none⟩) 1 1)),(74,.v (.agg #[.int .i64 0,.slice none 0 0,.bool false,.slice (some ⟨fM,0,none⟩) 1 1,.slice none 0 0]))] 2 (qaa (qac (qaa (qaa (qac (qaa qae)))))) (fun _ h=>h.cells) dK fN fun lv fO=>?_
   refine qap (i:=9) kz (qal fO (f:=34) (vs:=(z84 fJ fM)) (d:=75) kz Tryz.call34 ( sUs hU _ _ [(Fld.mk aj ak al am ag ao aa ab)] _ (.mk 0 [] false [(Tree.mk bI bJ bK bL bM)] []) _ _ (qiw (ay.own 0 _ rfl) ((bu.move ay.step nilM ay.imm)) (Nat.le_refl _)) (qix (ay.own 1 _ rfl) ((bA.move ay.step nilM ay.imm)) (Nat.le_refl _)) (qk9 ((hP.2.1 k _ _ bP cw).2 ‹_›))) ?_)
   rintro e_ lw ⟨rfl,dL⟩
   refine ⟨_,rfl,fun lx fP=>?_⟩
   have cB:=ay.next_nil dL
   have dM:=ay.frN dL
   have dN:=TT.ofW ((bB.trans cA).trans dM) cB
   refine ⟨fun _=>dN,?_⟩
   refine qaF [10] (z71 A l.length c v flex k) 0 (qaa (qac (qaa (qaa (qac (qaa qae)))))) (fun _ h=>h.cells) dN fP fun ly dO=>?_
   refine qaC kz ?_ _
   refine qab (qaq dO (b:=false) kz rfl ?_)
   refine wp_skip (qav (qab (qau [0,1] kz ?_)))
   refine qak [0,1] [] [(0,.v (.slice A l.length c)),(1,.v (.int .i64 v)),(2,.v (.bool flex)),(8,.p 0 0),(9,.p 1 0),(23,.v (.slice A l.length c)),(24,.v (.int .i64 ((l.length:Nat):Int))),(25,.v (.int .i64 (IntKind.i64.wrap (((k:Nat):Int) + 1))))] cB dO fun lz fQ=>?_
   refine qag (qab ?_)
   obtain ⟨dP,fR,fS⟩:=cB.cutB fQ 2 [⟨dg,0,(z1 n1 A6 s2.length c7 b3 A8 l4.length c9 bE u5.length bF),true⟩,⟨dh,0,(z1 cP cS cQ.length cT cR bG aF.length bN bH aB.length bO),true⟩] [(0,.v (.slice A l.length c)),(1,.v (.int .i64 v)),(2,.v (.bool flex)),(8,.p 0 0),(9,.p 1 0),(23,.v (.slice A l.length c)),(24,.v (.int .i64 ((l.length:Nat):Int))),(25,.v (.int .i64 (IntKind.i64.wrap (((k:Nat):Int) + 1))))]
   obtain ⟨fT,fU⟩:=fR.cutR 0 []
   have fV:IntKind.i64.wrap (((k:Nat):Int) + 1) = ((k + 1:Nat):Int):=qaS (by omega)
   rw [fV] at dP
   exact ⟨l.length - (k + 1),by omega,k + 1,rfl,by omega,dP.pk,fT,((((((((((((eg.trans bR).trans bS).trans bU).trans aw).trans ax).trans bf).trans dH).trans bB).trans cA).trans dM).trans fS).trans fU)⟩
  refine (qbB cq dI (e:=26) (size:=5) (len:=1) (cs:=(z1 bI cZ bJ.length c5 bK c6 bL.length da db bM.length dc)) (d:=73) kz kz fun fW lA lB jt ju bC dQ fX=>?_)
  have dR:=TT.ofW bC dQ
  refine ⟨fun _=>dR,?_⟩
  refine qaF [8] [(0,.v (.slice A l.length c)),(1,.v (.int .i64 v)),(2,.v (.bool flex)),(8,.p 0 0),(9,.p 1 0),(23,.v (.slice A l.length c)),(24,.v (.int .i64 ((l.length:Nat):Int))),(25,.v (.int .i64 ((k:Nat):Int))),(66,.v (.agg #[.int .i64 aj,.int .i64 ak,.int .i64 al,.int .i64 am,.int .i64 ag,.int .i64 ao,.int .i64 aa,.slice ap ab.length ar])),(74,.v (.agg #[.int .i64 0,.slice none 0 0,.bool false,.slice (some ⟨fW,0,none⟩) 1 1,.slice none 0 0]))] 3 (qaa (qac (qaa (qaa (qac (qaa qae)))))) (fun _ h=>h.cells) dR fX fun lC fY=>?_
  refine qap (i:=1) kz (qbB dQ fY (e:=51) (size:=8) (len:=1) (cs:=(z6 aj ak al am ag ao aa ap ab.length ar)) (d:=67) kz kz fun iM lD lE jv jw cC az fZ=>?_)
  have f5:=TT.ofW (bC.trans cC) az
  refine ⟨fun _=>f5,?_⟩
  refine qap (i:=9) kz (qal fZ (f:=34) (vs:=(z84 iM fW)) (d:=75) kz Tryz.call34 ( sUs hU _ _ [(Fld.mk aj ak al am ag ao aa ab)] _ (.mk 0 [] false [(Tree.mk bI bJ bK bL bM)] []) _ _ (qiw (az.own 1 _ rfl) ((bu.move az.step nilM az.imm)) (Nat.le_refl _)) (qix (az.own 0 _ rfl) ((bA.move az.step nilM az.imm)) (Nat.le_refl _)) (qk9 ((hP.2.1 k _ _ bP cw).2 ‹_›))) ?_)
  rintro e_ lF ⟨rfl,dS⟩
  refine ⟨_,rfl,fun lG f7=>?_⟩
  have cD:=az.next_nil dS
  have dT:=az.frN dS
  have dU:=TT.ofW ((bC.trans cC).trans dT) cD
  refine ⟨fun _=>dU,?_⟩
  refine qaF [10] (z71 A l.length c v flex k) 0 (qaa (qac (qaa (qaa (qac (qaa qae)))))) (fun _ h=>h.cells) dU f7 fun lH dV=>?_
  refine qaC kz ?_ _
  refine qab (qaq dV (b:=false) kz rfl ?_)
  refine wp_skip (qav (qab (qau [0,1] kz ?_)))
  refine qak [0,1] [] [(0,.v (.slice A l.length c)),(1,.v (.int .i64 v)),(2,.v (.bool flex)),(8,.p 0 0),(9,.p 1 0),(23,.v (.slice A l.length c)),(24,.v (.int .i64 ((l.length:Nat):Int))),(25,.v (.int .i64 (IntKind.i64.wrap (((k:Nat):Int) + 1))))] cD dV fun lI f8=>?_
  refine qag (qab ?_)
  obtain ⟨dW,f9,ga⟩:=cD.cutB f8 2 [⟨dg,0,(z1 n1 A6 s2.length c7 b3 A8 l4.length c9 bE u5.length bF),true⟩,⟨dh,0,(z1 cP cS cQ.length cT cR bG aF.length bN bH aB.length bO),true⟩] [(0,.v (.slice A l.length c)),(1,.v (.int .i64 v)),(2,.v (.bool flex)),(8,.p 0 0),(9,.p 1 0),(23,.v (.slice A l.length c)),(24,.v (.int .i64 ((l.length:Nat):Int))),(25,.v (.int .i64 (IntKind.i64.wrap (((k:Nat):Int) + 1))))]
  obtain ⟨gb,gc⟩:=f9.cutR 0 []
  have gd:IntKind.i64.wrap (((k:Nat):Int) + 1) = ((k + 1:Nat):Int):=qaS (by omega)
  rw [gd] at dW
  exact ⟨l.length - (k + 1),by omega,k + 1,rfl,by omega,dW.pk,gb,((((((((((((eg.trans bR).trans bS).trans bU).trans aw).trans ax).trans bf).trans dH).trans bC).trans cC).trans dT).trans ga).trans gc)⟩
 have jx:=zF ei
 refine wp_exit (qay (qay (qaQ (qab (qaf [0,1,2,3,4] kz ?_)))))
 refine qak [0,1,2] [3,4] [(2,.v (.bool flex)),(9,.p 1 0),(78,.v (.slice A l.length c)),(80,.v (.slice bE u5.length bF))] av eh fun lJ ge=>?_
 refine qan (qal ge (f:=35) (vs:=[.slice A l.length c,.slice bE u5.length bF]) (d:=81) kz Tryz.call35 (qgP _ _ l _ _ u5 _ _ ⟨xfs,(h1.move av.step nilM av.imm),(fun i_ x_ h_=>((h2 i_ x_ h_).move av.step nilM av.imm))⟩ (jU.move av.step nilM av.imm)) ?_)
 rintro e_ lK ⟨ah,ai,rfl,gg,cE⟩
 have gh:=gg.move (Step.refl _ Nil) nilM (av.laid (G:=F) cE)
 refine ⟨_,rfl,fun lL gi=>?_⟩
 have ae:=av.next_nil cE
 have jy:=av.frN cE
 refine qak [4] [] [(2,.v (.bool flex)),(9,.p 1 0),(14,.v (.slice ah ((qaj l u5).length) ai))] ae gi fun lM gj=>?_
 refine qag (qab ?_)
 refine wp_seq (qas [(9,.p 1 0),(14,.v (.slice ah ((qaj l u5).length) ai)),(83,.v (.bool (!flex)))] ae gj fun lN cG=>?_)
 refine qax cG (b:=!flex) kz (fun gk=>?_) (fun gk=>?_)
 ·
  refine qau [0] kz ?_
  refine qak [0] [] [(9,.p 1 0),(14,.v (.slice none 0 0))] ae cG fun lO gl=>?_
  refine qag (qab ?_)
  refine wp_seq (qas [(9,.p 1 0),(14,.v (.slice none 0 0)),(89,.v (.bool (((aB.length:Nat):Int) != 0)))] ae gl fun lP cH=>?_)
  refine qax cH (b:=((aB.length:Nat):Int) != 0) kz (fun cI=>?_) (fun cI=>?_)
  ·
   have jz:((aB.length:Nat):Int) ≠ 0:=by simpa using cI
   refine qas [(10,.v (.bool false))] ae cH fun lQ gm=>?_
   refine wp_ret (qat (qaK gm ae.cells (v:=.bool false) kz ?_))
   first
    | (exfalso; omega)
    | exact (qe8 hgu ‹_› ‹_›).elim
    | exact (qed hgu ‹_› ‹_›).elim
    | exact (qe9 hgu ‹_› ‹_› ‹_› ‹_›).elim
    | exact (qfa hgu ‹_› ‹_› ‹_› ‹_›).elim
    | (exfalso; simp_all; done)
  have jA:((aB.length:Nat):Int) = 0:=by simpa using cI
  refine wp_skip (qab (wp_seq (qas [(9,.p 1 0),(90,.v (.slice none 0 0)),(91,.v (.int .i64 0)),(92,.v (.int .i64 0))] ae cH fun lR gn=>?_)))
  refine wp_block (wp_loop_ghost (fun n_ a_ w_=>∃ (k:Nat),n_ = 0 - k ∧ k ≤ 0 ∧ LInv ae 120 [⟨dg,0,[.int .i64 n1,.slice A6 s2.length c7,.bool b3,.slice A8 l4.length c9,.slice bE u5.length bF],true⟩,⟨dh,0,[.int .i64 cP,.slice cS cQ.length cT,.bool cR,.slice bG aF.length bN,.slice bH aB.length bO],true⟩] [] [(9,.p 1 0),(90,.v (.slice none 0 0)),(91,.v (.int .i64 0)),(92,.v (.int .i64 ((k:Nat):Int)))] a_ w_) (0) ⟨0,by omega,by omega,gn.pk,ae,Fr.refl _ _ _⟩ ?_)
  rintro lS lT lU ⟨k,jB,jC,gp,bD,jD⟩
  refine qas [(9,.p 1 0),(90,.v (.slice none 0 0)),(91,.v (.int .i64 0)),(92,.v (.int .i64 ((k:Nat):Int))),(93,.v (.bool (decide (((k:Nat):Int) < 0))))] bD gp fun lV dX=>?_
  refine wp_seq (qaq dX (b:=decide (((k:Nat):Int) < 0)) kz (decide_eq_false (by omega)) ?_)
  refine wp_exit (qay (qay (qaQ (qab (qas [(10,.v (.bool true))] bD dX fun lW gq=>?_)))))
  refine wp_ret (qaK gq bD.cells (v:=.bool true) kz ?_)
  exact ⟨rfl,bD.step⟩
 refine wp_skip (qab (wp_seq (qas [(9,.p 1 0),(14,.v (.slice ah ((qaj l u5).length) ai)),(89,.v (.bool (((aB.length:Nat):Int) != (((qaj l u5).length:Nat):Int))))] ae cG fun lX cJ=>?_)))
 refine qax cJ (b:=((aB.length:Nat):Int) != (((qaj l u5).length:Nat):Int)) kz (fun cK=>?_) (fun cK=>?_)
 ·
  have jE:((aB.length:Nat):Int) ≠ (((qaj l u5).length:Nat):Int):=by simpa using cK
  refine qas [(10,.v (.bool false))] ae cJ fun lY gt=>?_
  refine wp_ret (qat (qaK gt ae.cells (v:=.bool false) kz ?_))
  first
   | (exfalso; omega)
   | exact (qe8 hgu ‹_› ‹_›).elim
   | exact (qed hgu ‹_› ‹_›).elim
   | exact (qe9 hgu ‹_› ‹_› ‹_› ‹_›).elim
   | exact (qfa hgu ‹_› ‹_› ‹_› ‹_›).elim
   | (exfalso; simp_all; done)
 have jF:((aB.length:Nat):Int) = (((qaj l u5).length:Nat):Int):=by simpa using cK
 refine wp_skip (qab (wp_seq (qas [(9,.p 1 0),(90,.v (.slice ah ((qaj l u5).length) ai)),(91,.v (.int .i64 (((qaj l u5).length:Nat):Int))),(92,.v (.int .i64 0))] ae cJ fun lZ gv=>?_)))
 refine wp_block ?_
 obtain ⟨jG,gw,iN⟩:=gh.ex
 have iO:=gw.small
 refine wp_loop_ghost (fun n_ a_ w_=>∃ (k:Nat),n_ = (qaj l u5).length - k ∧ k ≤ (qaj l u5).length ∧ LInv ae 120 [⟨dg,0,[.int .i64 n1,.slice A6 s2.length c7,.bool b3,.slice A8 l4.length c9,.slice bE u5.length bF],true⟩,⟨dh,0,[.int .i64 cP,.slice cS cQ.length cT,.bool cR,.slice bG aF.length bN,.slice bH aB.length bO],true⟩] [] [(9,.p 1 0),(90,.v (.slice ah ((qaj l u5).length) ai)),(91,.v (.int .i64 (((qaj l u5).length:Nat):Int))),(92,.v (.int .i64 ((k:Nat):Int)))] a_ w_) ((qaj l u5).length) ⟨0,by omega,by omega,gv.pk,ae,Fr.refl _ _ _⟩ ?_
 rintro l0 l3 l5 ⟨k,jH,jI,gx,aI,aD⟩
 refine qas [(9,.p 1 0),(90,.v (.slice ah ((qaj l u5).length) ai)),(91,.v (.int .i64 (((qaj l u5).length:Nat):Int))),(92,.v (.int .i64 ((k:Nat):Int))),(93,.v (.bool (decide (((k:Nat):Int) < (((qaj l u5).length:Nat):Int)))))] aI gx fun l6 cL=>?_
 refine wp_seq (qax cL (b:=decide (((k:Nat):Int) < (((qaj l u5).length:Nat):Int))) kz (fun cM=>?_) (fun cM=>?_))
 ·
  have jJ:=zD cM
  refine wp_skip (qab (wp_seq (wp_block (qaf [0,1,2,3,4,5] kz ?_))))
  refine qak [0] [1,2,3,4,5] [(9,.p 1 0),(90,.v (.slice ah ((qaj l u5).length) ai)),(91,.v (.int .i64 (((qaj l u5).length:Nat):Int))),(92,.v (.int .i64 ((k:Nat):Int))),(94,.v (.int .i64 ((k:Nat):Int)))] aI cL fun l7 gy=>?_
  obtain ⟨iP,iQ,gz,jK,cN⟩:=Slots.get gw (i:=k) (by first | omega | (have h_:=qcP hgu ‹_›; omega))
  obtain ⟨⟨aE,aA⟩,gA⟩:∃ x,(qaj l u5)[k]? = some x:=⟨_,List.getElem?_eq_getElem (by omega)⟩
  obtain ⟨⟨bg,bh,ev,dY⟩,l9,ma⟩:=iN k aE aA gA
  rw [ev] at cN
  refine qan (qaB gy (t:=24) (A:=ah) (m:=((qaj l u5).length)) (q:=((k:Nat):Int)) (d:=95) kz (e:=66) (size:=2) (bytes:=32) kz gz rfl (by first | omega | (have h_:=qcP hgu ‹_›; omega)) fun mc gB=>?_)
  refine qan (qaW gB (t:=66) (b:=iP) (o:=iQ + k * 2) (d:=96) kz (cs:=(z40 aE bg aA.length bh)) (v:=.agg #[.int .u32 aE,.slice bg aA.length bh]) kz (AtF.move cN aD.step immM aD.to').at_ fun md gC=>?_)
  refine qan (qaM aI gC (d:=16) (cs:=z42) kz fun me mf mg jL jM bi dZ gD=>?_)
  refine qak [4] [5] [(9,.p 1 0),(15,.v (.int .i64 ((k:Nat):Int))),(16,.p 2 0),(90,.v (.slice ah ((qaj l u5).length) ai)),(91,.v (.int .i64 (((qaj l u5).length:Nat):Int))),(92,.v (.int .i64 ((k:Nat):Int))),(96,.v (.agg #[.int .u32 aE,.slice bg aA.length bh]))] dZ gD fun mh gE=>?_
  refine qan (qao dZ gE (oi:=2) (cs:=(z40 aE bg aA.length bh)) kz fun mi bj gF gG=>?_)
  refine qag (qab ?_)
  refine qaE 22 kz gF fun mj bk aJ au=>?_
  refine qaF [0,1,2,6,7] [(9,.p 1 0),(15,.v (.int .i64 ((k:Nat):Int))),(16,.p 2 0),(90,.v (.slice ah ((qaj l u5).length) ai)),(91,.v (.int .i64 (((qaj l u5).length:Nat):Int))),(92,.v (.int .i64 ((k:Nat):Int))),(98,.v (.slice bH aB.length bO)),(99,.v (.int .i64 ((k:Nat):Int))),(104,.v (.int .u32 aE))] 17 (qaa (qac (qaa (qaa (qac (qaa qae)))))) (fun _ h=>h.cells) au gG fun ml gH=>?_
  obtain ⟨de,df,d5,jN,bw⟩:=Slots.get iX (i:=k) (by first | omega | (have h_:=qcP hgu ‹_›; omega))
  obtain ⟨⟨bx,bz⟩,gI⟩:∃ x,aB[k]? = some x:=⟨_,List.getElem?_eq_getElem (by omega)⟩
  obtain ⟨⟨ew,ey,ez,gJ⟩,mn,mo⟩:=jZ k bx bz gI
  rw [ez] at bw
  refine qaH gH (i:=3) (t:=24) (A:=bH) (m:=aB.length) (q:=((k:Nat):Int)) (d:=100) kz (e:=66) (size:=2) (bytes:=32) kz d5 rfl (by first | omega | (have h_:=qcP hgu ‹_›; omega)) kz kz (qaa (qac (qaa (qaa (qac (qaa qae)))))) au fun mp gK=>?_
  refine qaF [4] [(9,.p 1 0),(15,.v (.int .i64 ((k:Nat):Int))),(16,.p 2 0),(90,.v (.slice ah ((qaj l u5).length) ai)),(91,.v (.int .i64 (((qaj l u5).length:Nat):Int))),(92,.v (.int .i64 ((k:Nat):Int))),(101,.v (.pointer (some ⟨de,df + k * 2,none⟩))),(104,.v (.int .u32 aE))] 15 (qaa (qac (qaa (qaa (qac (qaa qae)))))) (fun _ h=>h.cells) au gK fun mq gL=>?_
  refine qbl gL (i:=5) (t:=64) (b:=de) (o:=df + k * 2) (d:=102) kz (cs:=[.int .u32 bx]) (v:=.int .u32 bx) kz (fun w' h'=>(At.drop (AtF.move bw (TT.step0 aJ h') nilM qbi).at_ 0 1)) kz kz (qaa (qac (qaa (qaa (qac (qaa qae)))))) au fun mr gM=>?_
  refine qaF [8,9] [(9,.p 1 0),(15,.v (.int .i64 ((k:Nat):Int))),(16,.p 2 0),(90,.v (.slice ah ((qaj l u5).length) ai)),(91,.v (.int .i64 (((qaj l u5).length:Nat):Int))),(92,.v (.int .i64 ((k:Nat):Int))),(106,.v (.bool (bx != aE)))] 12 (qaa (qac (qaa (qaa (qac (qaa qae)))))) (fun _ h=>h.cells) au gM fun mt d6=>?_
  refine (zO (bx != aE)).elim (fun bn=>?_) (fun bn=>?_)
  ·
   have jO:bx ≠ aE:=by simpa using bn
   have gN:=d6
   rw [bn] at gN
   refine qaF [10,11,12,13,14,15,16,17,18,19,20,21] [(9,.p 1 0),(90,.v (.slice ah ((qaj l u5).length) ai)),(91,.v (.int .i64 (((qaj l u5).length:Nat):Int))),(92,.v (.int .i64 ((k:Nat):Int))),(118,.v (.bool true))] 0 (qaa (qac (qaa (qaa (qac (qaa qae)))))) (fun _ h=>h.cells) au gN fun mu d7=>?_
   refine qaC kz ?_ _
   refine qab (qa9 d7 (b:=true) kz rfl ?_)
   refine qas [(10,.v (.bool false))] aJ d7 fun mw gO=>?_
   refine wp_ret (qaz (qat (qat (qaz (qat (qaK gO aJ.cells (v:=.bool false) kz ?_))))))
   first
    | (exfalso; omega)
    | exact (qe8 hgu ‹_› ‹_›).elim
    | exact (qed hgu ‹_› ‹_›).elim
    | exact (qe9 hgu ‹_› ‹_› ‹_› ‹_›).elim
    | exact (qfa hgu ‹_› ‹_› ‹_› ‹_›).elim
    | (exfalso; simp_all; done)
  have jP:bx = aE:=by simpa using bn
  have gP:=d6
  rw [bn] at gP
  refine qaF [10,11,12,16,17] [(9,.p 1 0),(90,.v (.slice ah ((qaj l u5).length) ai)),(91,.v (.int .i64 (((qaj l u5).length:Nat):Int))),(92,.v (.int .i64 ((k:Nat):Int))),(106,.v (.bool false)),(108,.v (.slice bH aB.length bO)),(109,.v (.int .i64 ((k:Nat):Int))),(114,.v (.slice bg aA.length bh))] 7 (qaa (qac (qaa (qaa (qac (qaa qae)))))) (fun _ h=>h.cells) au gP fun mx gQ=>?_
  refine qaH gQ (i:=13) (t:=24) (A:=bH) (m:=aB.length) (q:=((k:Nat):Int)) (d:=110) kz (e:=66) (size:=2) (bytes:=32) kz d5 rfl (by first | omega | (have h_:=qcP hgu ‹_›; omega)) kz kz (qaa (qac (qaa (qaa (qac (qaa qae)))))) au fun my gR=>?_
  refine qaF [14] [(9,.p 1 0),(90,.v (.slice ah ((qaj l u5).length) ai)),(91,.v (.int .i64 (((qaj l u5).length:Nat):Int))),(92,.v (.int .i64 ((k:Nat):Int))),(106,.v (.bool false)),(111,.v (.pointer (some ⟨de,df + k * 2 + 1,none⟩))),(114,.v (.slice bg aA.length bh))] 5 (qaa (qac (qaa (qaa (qac (qaa qae)))))) (fun _ h=>h.cells) au gR fun mz gS=>?_
  refine qbl gS (i:=15) (t:=22) (b:=de) (o:=df + k * 2 + 1) (d:=112) kz (cs:=[.slice ew bz.length ey]) (v:=.slice ew bz.length ey) kz (fun w' h'=>(At.drop (AtF.move bw (TT.step0 aJ h') nilM qbi).at_ 1 1)) kz kz (qaa (qac (qaa (qaa (qac (qaa qae)))))) au fun mA gT=>?_
  have iR:=qbs aA
  refine qap (i:=18) kz (qal gT (f:=37) (vs:=[.slice bg aA.length bh]) (d:=115) kz Tryz.call37 (qea _ _ aA (dY.move (((aD.trans bi).trans bj).trans bk).step immM (((aD.trans bi).trans bj).trans bk).to').le _) ?_)
  rintro e_ mB ⟨rfl,d8⟩
  refine ⟨_,rfl,fun mC gU=>?_⟩
  have bo:=aJ.next_nil d8
  have bp:=aJ.frN d8
  have gV:=TT.ofW bp bo
  refine ⟨fun _=>gV,?_⟩
  refine qap (i:=19) kz (qal gU (f:=36) (vs:=(z80 ew bz.length ey bg aA bh)) (d:=116) kz Tryz.call36 (qeM _ _ _ _ bz (qaG aA) _ _ ((gJ.move bo.step nilM bo.imm).move (Step.refl _ Nil) nilM allF) (((dY.take 32767).move ((((aD.trans bi).trans bj).trans bk).trans bp).step immM ((((aD.trans bi).trans bj).trans bk).trans bp).to').move (Step.refl _ Nil) nilM allF)) ?_)
  rintro e_ mD ⟨rfl,d9⟩
  refine ⟨_,rfl,fun mF gW=>?_⟩
  have bq:=bo.next_nil d9
  have ea:=bo.frN d9
  have eb:=TT.ofW (bp.trans ea) bq
  refine ⟨fun _=>eb,?_⟩
  refine qaF [20,21] [(9,.p 1 0),(90,.v (.slice ah ((qaj l u5).length) ai)),(91,.v (.int .i64 (((qaj l u5).length:Nat):Int))),(92,.v (.int .i64 ((k:Nat):Int))),(118,.v (.bool (!(decide (bz = (qaG aA))))))] 0 (qaa (qac (qaa (qaa (qac (qaa qae)))))) (fun _ h=>h.cells) eb gW fun mG cO=>?_
  refine qaC kz ?_ _
  refine qab (qax cO (b:=!(decide (bz = (qaG aA)))) kz (fun gX=>?_) (fun gX=>?_))
  ·
   refine qas [(10,.v (.bool false))] bq cO fun mH gY=>?_
   refine wp_ret (qaz (qat (qat (qaz (qat (qaK gY bq.cells (v:=.bool false) kz ?_))))))
   first
    | (exfalso; omega)
    | exact (qe8 hgu ‹_› ‹_›).elim
    | exact (qed hgu ‹_› ‹_›).elim
    | exact (qe9 hgu ‹_› ‹_› ‹_› ‹_›).elim
    | exact (qfa hgu ‹_› ‹_› ‹_› ‹_›).elim
    | (exfalso; simp_all; done)
  refine wp_skip (qav (qab (qau [0,1] kz ?_)))
  refine qak [0,1] [] [(9,.p 1 0),(90,.v (.slice ah ((qaj l u5).length) ai)),(91,.v (.int .i64 (((qaj l u5).length:Nat):Int))),(92,.v (.int .i64 (IntKind.i64.wrap (((k:Nat):Int) + 1))))] bq cO fun mI gZ=>?_
  refine qag (qab ?_)
  obtain ⟨ec,g9,hC⟩:=bq.cutB gZ 2 [⟨dg,0,(z1 n1 A6 s2.length c7 b3 A8 l4.length c9 bE u5.length bF),true⟩,⟨dh,0,(z1 cP cS cQ.length cT cR bG aF.length bN bH aB.length bO),true⟩] [(9,.p 1 0),(90,.v (.slice ah ((qaj l u5).length) ai)),(91,.v (.int .i64 (((qaj l u5).length:Nat):Int))),(92,.v (.int .i64 (IntKind.i64.wrap (((k:Nat):Int) + 1))))]
  have hJ:IntKind.i64.wrap (((k:Nat):Int) + 1) = ((k + 1:Nat):Int):=qaS (by omega)
  rw [hJ] at ec
  exact ⟨(qaj l u5).length - (k + 1),by omega,k + 1,rfl,by omega,ec.pk,g9,((((((aD.trans bi).trans bj).trans bk).trans bp).trans ea).trans hC)⟩
 have jQ:=zF cM
 refine wp_exit (qay (qay (qaQ (qab (qas [(10,.v (.bool true))] aI cL fun mJ hK=>?_)))))
 refine wp_ret (qaK hK aI.cells (v:=.bool true) kz ?_)
 exact ⟨rfl,aI.step⟩
theorem qlf (v:Int) (flex:Bool):∀ d,ToOK v flex (qhA v flex d)
 | 0=>qle (fun _ _ _ _ _ _ _ _ _ _ _ _ _ h=>h.elim) (fun _ _ _ _ _ _ _ _ _ h=>h.elim)
 | d + 1=>qle (qlf v flex d) (qki d)
theorem qdB (w:World):Calls Tryz.prog 15 #[] w (qcI w (.int .i64 2)):=by
 refine enter (n:=4) Tryz.func15 rfl Tryz.ntmps15 kz fun a hE=>?_
 have hW:=WOk.start w Nil
 refine qas [] hW hE fun a1 hE2=>?_
 refine qaf [0,1,2,3] kz ?_
 refine qan (qbK hE2 (f:=38) (vs:=[]) (d:=1) (n':=3) kz Tryz.call38 Tryz.func38 rfl Tryz.ntmps38 kz fun a3 hE4=>?_)
 refine qas [] hW hE4 fun a5 hE6=>?_
 refine qaf [0] kz ?_
 refine qan (qaM hW hE6 (d:=1) (cs:=z19) kz fun b7 a8 w9 ax ay az aa ab=>?_)
 refine qag (qab ?_)
 refine qaf [0] kz ?_
 refine qan (qbK ab (f:=70) (vs:=(z29 b7)) (d:=2) (n':=2) kz Tryz.call70 Tryz.func70 rfl Tryz.ntmps70 kz fun aA ac=>?_)
 have ae:=ac.recast 0 (.v (.pointer (some ⟨b7,0,none⟩))) (.p 0 0) rfl rfl (zN (n:=1) rfl)
 refine wp_skip (qbV ae aa.cells (v:=.tuple #[]) kz ?_)
 refine ⟨_,rfl,fun aB af=>?_⟩
 have ag:EnvOk 3 [⟨b7,0,z19,true⟩] [(2,.v (.tuple #[])),(1,.p 0 0)] _:=af.places (⟨rfl,rfl,trivial⟩)
 refine qag (qab ?_)
 refine qas [(0,.p 0 0)] aa ag fun aC ah=>?_
 refine wp_ret (qaK ah aa.cells (v:=.pointer (some ⟨b7,0,none⟩)) kz ?_)
 refine ⟨_,rfl,fun aD ai=>?_⟩
 have aj:EnvOk 4 [⟨b7,0,z19,true⟩] [(1,.v (.pointer (some ⟨b7,0,none⟩)))] _:=ai.places (trivial)
 have ak:=aj.recast 1 (.v (.pointer (some ⟨b7,0,none⟩))) (.p 0 0) rfl rfl (zN (n:=1) rfl)
 have al:=ak.pick (ks:=[1]) (env':=[(1,.p 0 0)]) kz
 refine qan (qbK al (f:=39) (vs:=(z29 b7)) (d:=2) (n':=3) kz Tryz.call39 Tryz.func39 rfl Tryz.ntmps39 kz fun aE am=>?_)
 have ao:=am.recast 0 (.v (.pointer (some ⟨b7,0,none⟩))) (.p 0 0) rfl rfl (zN (n:=1) rfl)
 refine qas [] aa ao fun aF ap=>?_
 refine qas [(2,.v (.int .i16 2))] aa ap fun aG ar=>?_
 refine wp_ret (qaK ar aa.cells (v:=.int .i16 2) kz ?_)
 refine ⟨_,rfl,fun aH au=>?_⟩
 have av:EnvOk 4 [⟨b7,0,z19,true⟩] [(2,.v (.int .i16 2)),(1,.p 0 0)] _:=au.places (⟨rfl,rfl,trivial⟩)
 refine qak [2,3] [] [(0,.v (.int .i64 2))] aa av fun aI aw=>?_
 refine qag (qab ?_)
 refine wp_ret (qaK aw aa.cells (v:=.int .i64 2) kz ?_)
 exact ⟨rfl,aa.step⟩
theorem qcX:depths sShareAcknowledgeResponseF ≤ 8:=by simp [sShareAcknowledgeResponseF,Fld.depth.depths,Fld.depth]
theorem qcY:plains sShareAcknowledgeResponseF:=by simp [sShareAcknowledgeResponseF,Fld.plain.plains,Fld.plain]
theorem qdr (A:Option Addr) (c:Nat) (v:Int) (w:World):Calls Tryz.prog 13 #[.agg #[.slice A sShareAcknowledgeResponseF.length c,.int .i64 qai],.int .i64 v] w (qcI w (.bool (decide (v ≥ qai)))):=by
 refine enter (n:=14) Tryz.func13 rfl Tryz.ntmps13 kz fun a hE=>?_
 have hW:=WOk.start w Nil
 refine qaf [0,1] kz ?_
 refine qan (qby hW hE (d:=2) (cs:=[.slice A sShareAcknowledgeResponseF.length c,.int .i64 qai]) kz fun b1 a2 w3 hb4 hz5 hF6 hW7 hE8=>?_)
 refine qak [1] [] [(1,.v (.int .i64 v)),(2,.p 0 0)] hW7 hE8 fun a9 aa=>?_
 refine qag (qab ?_)
 refine qaf [0,1,2,3,4,5,6,7,8,9] kz ?_
 refine qak [0,1,2,3] [4,5,6,7,8,9] [(1,.v (.int .i64 v)),(2,.p 0 0),(8,.v (.bool (decide (qai ≥ 0))))] hW7 aa fun ag ab=>?_
 have ac:(decide (qai ≥ 0)) = true:=by decide
 have ae:=ab
 rw [ac] at ae
 refine qak [4,5,6,7,8,9] [] [(4,.v (.bool (decide (v ≥ qai))))] hW7 ae fun ah af=>?_
 refine qag (qab ?_)
 refine wp_ret (qaK af hW7.cells (v:=.bool (decide (v ≥ qai))) kz ?_)
 exact ⟨rfl,hW7.step⟩
set_option maxHeartbeats 4000000 in
theorem qdm (x:Int) (hx:0 ≤ x) (hx':x < 256) (ct:List Value) (t:Tree) (w:World) (F:Nat → Nat → Prop) (ht:TreeR w F ct t) (hroom1:(qdf 8 sShareAcknowledgeResponseF qai (Int.tmod x (2 + 1)) t).length + 16 ≤ 1099511627776) (hcan:qbg (fitT (Int.tmod x (2 + 1)) 8 sShareAcknowledgeResponseF t)) (hkey:Tree.ranged (fitT (Int.tmod x (2 + 1)) 8 sShareAcknowledgeResponseF t)) (hpure:qam (IntKind.i16.wrap (Int.tmod x (2 + 1))) (fitT (Int.tmod x (2 + 1)) 8 sShareAcknowledgeResponseF t) = qdf 8 sShareAcknowledgeResponseF qai (Int.tmod x (2 + 1)) t) (hto:∀ D,qbj (IntKind.i16.wrap (Int.tmod x (2 + 1))) D (fitT (Int.tmod x (2 + 1)) 8 sShareAcknowledgeResponseF t) → qhA (Int.tmod x (2 + 1)) (decide ((Int.tmod x (2 + 1)) ≥ qai)) 8 sShareAcknowledgeResponseF t (qbk D)) :
  Calls Tryz.prog 4 #[.int .u8 x,.agg ct.toArray] w (qcI w (.bool true)):=by
 obtain ⟨n1,s2,b3,l4,u5,A6,c7,A8,c9,aO,aP,de,rfl,rfl,df,dg,dS,dT⟩:=ht.open_
 have cQ:=df.small
 have cR:=dg.small
 refine enter (n:=42) Tryz.func4 rfl Tryz.ntmps4 kz fun a hE=>?_
 have hW:=WOk.start w Nil
 refine qaf [0,1] kz ?_
 refine qan (qby hW hE (d:=3) (cs:=(z1 n1 A6 s2.length c7 b3 A8 l4.length c9 aO u5.length aP)) kz fun dh dU dV di dj dl ar bJ=>?_)
 refine qak [1] [] [(0,.v (.int .u8 x)),(3,.p 0 0)] ar bJ fun dW bK=>?_
 refine qag (qab ?_)
 refine wp_seq (qaf [0,1,2] kz ?_)
 refine qak [0] [1,2] [(0,.v (.int .u8 x)),(3,.p 0 0),(10,.v (.agg #[.int .i64 n1,.slice A6 s2.length c7,.bool b3,.slice A8 l4.length c9,.slice aO u5.length aP]))] ar bK fun dX bL=>?_
 refine qan (qal bL (f:=6) (vs:=[.agg #[.int .i64 n1,.slice A6 s2.length c7,.bool b3,.slice A8 l4.length c9,.slice aO u5.length aP]]) (d:=11) kz Tryz.call6 (qma _ _ _ _ (ht.move ar.step nilM ar.imm)) ?_)
 rintro e_ dY ⟨cS,rfl,bd⟩
 refine ⟨_,rfl,fun dZ bM=>?_⟩
 have au:=ar.next_nil bd
 have dp:=ar.frN bd
 refine qak [2] [] [(0,.v (.int .u8 x)),(3,.p 0 0),(12,.v (.bool (!cS)))] au bM fun d5 aY=>?_
 refine qag (qab ?_)
 refine qax aY (b:=!cS) kz (fun bN=>?_) (fun bN=>?_)
 ·
  refine qas [(4,.v (.bool true))] au aY fun d6 bO=>?_
  refine wp_ret (qat (qaK bO au.cells (v:=.bool true) kz ?_))
  exact ⟨rfl,au.step⟩
 refine wp_skip (qab (qaf [0,1] kz ?_))
 refine qan (qal aY (f:=15) (vs:=[]) (d:=13) kz Tryz.call15 (qdB _) ?_)
 rintro e_ dq ⟨rfl,bf⟩
 refine ⟨_,rfl,fun d7 bP=>?_⟩
 have av:=au.next_nil bf
 have dr:=au.frN bf
 refine qak [1] [] [(0,.v (.int .u8 x)),(3,.p 0 0),(5,.v (.int .i64 2))] av bP fun d8 bQ=>?_
 refine qag (qab ?_)
 refine wp_seq (qas [(0,.v (.int .u8 x)),(3,.p 0 0),(5,.v (.int .i64 2)),(15,.v (.bool false))] av bQ fun d9 bg=>?_)
 refine qaq bg (b:=false) kz rfl ?_
 refine wp_skip (qab (qaf [0,1,2,3,4,5,6] kz ?_))
 refine qan (qal bg (f:=16) (vs:=[]) (d:=16) kz Tryz.call16 (qdA _ (Imm F w dq (z92 dh n1 A6 s2.length c7 b3 A8 l4.length c9 aO u5.length aP) [])) ?_)
 rintro e_ ea ⟨aQ,aR,rfl,bR,aZ⟩
 obtain ⟨bh,cT,cU⟩:=bR.move (Step.refl _ Nil) nilM (av.laid (G:=F) aZ)
 refine ⟨_,rfl,fun eb bS=>?_⟩
 have ba:=av.next_nil aZ
 have dt:=av.frN aZ
 refine qak [1,2] [3,4,5,6] [(3,.p 0 0),(16,.v (.agg #[.slice aQ sShareAcknowledgeResponseF.length aR,.int .i64 qai])),(17,.v (.int .u8 x)),(18,.v (.int .i64 2))] ba bS fun ec bT=>?_
 refine qan (qal bT (f:=9) (vs:=[.int .u8 x,.int .i64 2]) (d:=19) kz Tryz.call9 (qkL x 2 hx hx' (by decide) (by decide) _) ?_)
 rintro e_ ee ⟨rfl,bi⟩
 refine ⟨_,rfl,fun ef bU=>?_⟩
 have bV:=ba.next_nil bi
 have ag:=ba.frN bi
 refine qan (qaM bV bU (d:=6) (cs:=z79) kz fun eg eh ei du dv ah bW bX=>?_)
 refine qan (qao bW bX (oi:=1) (cs:=[.slice aQ sShareAcknowledgeResponseF.length aR,.int .i64 qai]) kz fun ej ai aw bY=>?_)
 refine qak [6] [] [(3,.p 0 0),(6,.p 1 0),(7,.v (.int .i64 (Int.tmod x (2 + 1))))] aw bY fun ek bZ=>?_
 refine qag (qab ?_)
 refine qaf [0,1,2,3,4,5,6,7,8,9,10,11] kz ?_
 refine qak [0,1,2,3] [4,5,6,7,8,9,10,11] [(3,.p 0 0),(6,.p 1 0),(7,.v (.int .i64 (Int.tmod x (2 + 1)))),(21,.v (.int .i64 (Int.tmod x (2 + 1)))),(22,.v (.agg #[.slice aQ sShareAcknowledgeResponseF.length aR,.int .i64 qai])),(23,.v (.int .i64 (Int.tmod x (2 + 1)))),(24,.v (.agg #[.int .i64 n1,.slice A6 s2.length c7,.bool b3,.slice A8 l4.length c9,.slice aO u5.length aP]))] aw bZ fun em cd=>?_
 refine qan (qal cd (f:=11) (vs:=[.agg #[.slice aQ sShareAcknowledgeResponseF.length aR,.int .i64 qai],.int .i64 (Int.tmod x (2 + 1)),.agg #[.int .i64 n1,.slice A6 s2.length c7,.bool b3,.slice A8 l4.length c9,.slice aO u5.length aP]]) (d:=25) kz Tryz.call11 (ql3 _ _ sShareAcknowledgeResponseF qai (Int.tmod x (2 + 1)) _ (Tree.mk n1 s2 b3 l4 u5) _ _ ⟨bh,(cT.move ((ag.trans ah).trans ai).step immM ((ag.trans ah).trans ai).to'),(fun i_ x_ h_=>((cU i_ x_ h_).move ((ag.trans ah).trans ai).step immM ((ag.trans ah).trans ai).to'))⟩ qcX (ht.move aw.step nilM aw.imm) (Nat.le_trans (Nat.le_add_right _ _) hroom1)) ?_)
 rintro e_ eo ⟨cV,cW,rfl,ce,cm⟩
 refine ⟨_,rfl,fun ep cq=>?_⟩
 obtain ⟨ak,al⟩:=aw.frFresh cm (brow cV cW 5 (qdf 8 sShareAcknowledgeResponseF qai (Int.tmod x (2 + 1)) (Tree.mk n1 s2 b3 l4 u5))) (Nat.le_refl _) ce
 refine qan (qal cq (f:=17) (vs:=[.int .i64 (Int.tmod x (2 + 1)),.slice cV ((qdf 8 sShareAcknowledgeResponseF qai (Int.tmod x (2 + 1)) (Tree.mk n1 s2 b3 l4 u5)).length) cW]) (d:=26) kz Tryz.call17 (qdl (Int.tmod x (2 + 1)) _ (qdf 8 sShareAcknowledgeResponseF qai (Int.tmod x (2 + 1)) (Tree.mk n1 s2 b3 l4 u5)) hpure (qcF (ak.own 0 _ rfl) (by first | omega | (rw [qbt]; decide) | (simp only [be_length]; exact Nat.le_trans (qbW _) (by decide)) | (have:=hroom; omega) | (have:=hmade; omega) | (simp only [List.length_append,List.length_nil]; omega)) (F:=fun _ _=>True) (fun _ _ _=>trivial)) hcan hkey (by first | omega | (have:=hroom1; omega))) ?_)
 rintro e_ dw ⟨bj,cX,rfl,bk,bn,ax⟩
 have ay:=bk.move (Step.refl _ Nil) nilM (fun b_ o_ h_ hb_=>ak.laid (G:=F) ax b_ o_ (.inr (h_.resolve_left id)) hb_)
 obtain ⟨aD,aE,aF,aG,aH,aI,aJ,aK,aL,aM,aN,cY,cZ,az,cr,cu,dx,dy⟩:=ay.open_
 rw [az] at ay
 have cw:=cr.small
 have cz:=cu.small
 rw [az]
 refine ⟨_,rfl,fun dz bo=>?_⟩
 have aS:=ak.next_nil ax
 have am:=ak.frN ax
 refine qak [6,7,8] [9,10,11] [(3,.p 0 0),(6,.p 1 0),(7,.v (.int .i64 (Int.tmod x (2 + 1)))),(27,.v (.agg #[.int .i64 aD,.slice aI aE.length aJ,.bool aF,.slice aK aG.length aL,.slice aM aH.length aN])),(28,.v (.bool true))] aS bo fun dA bp=>?_
 refine qan (qaM aS bp (d:=8) (cs:=z0) kz fun dB dC dD c5 c6 ab bq bt=>?_)
 refine qan (qao bq bt (oi:=2) (cs:=(z1 aD aI aE.length aJ aF aK aG.length aL aM aH.length aN)) kz fun dE ac aT bu=>?_)
 refine qak [11] [] [(3,.p 0 0),(6,.p 1 0),(7,.v (.int .i64 (Int.tmod x (2 + 1)))),(8,.p 2 0),(9,.v (.bool true))] aT bu fun dF bw=>?_
 refine qag (qab ?_)
 refine qaE 13 kz aT fun dG ae aU bx=>?_
 refine qaF [0,1,2,3,4,5,6,8,9] [(30,.v (.bool true)),(32,.v (.slice aQ sShareAcknowledgeResponseF.length aR)),(33,.v (.int .i64 (Int.tmod x (2 + 1)))),(34,.v (.agg #[.slice aQ sShareAcknowledgeResponseF.length aR,.int .i64 qai])),(35,.v (.int .i64 (Int.tmod x (2 + 1)))),(37,.v (.agg #[.int .i64 n1,.slice A6 s2.length c7,.bool b3,.slice A8 l4.length c9,.slice aO u5.length aP])),(38,.v (.agg #[.int .i64 aD,.slice aI aE.length aJ,.bool aF,.slice aK aG.length aL,.slice aM aH.length aN]))] 5 (qaa qae) (fun _ h=>h.cells) bx bw fun dH bz=>?_
 refine qap (i:=7) kz (qal bz (f:=13) (vs:=[.agg #[.slice aQ sShareAcknowledgeResponseF.length aR,.int .i64 qai],.int .i64 (Int.tmod x (2 + 1))]) (d:=36) kz Tryz.call13 (qdr _ _ _ _) ?_)
 rintro e_ dI ⟨rfl,aV⟩
 refine ⟨_,rfl,fun dJ bA=>?_⟩
 have ao:=aU.next_nil aV
 have aa:=aU.frN aV
 have bB:=TT.ofW aa ao
 refine ⟨fun _=>bB,?_⟩
 refine qap (i:=10) kz (qal bA (f:=14) (vs:=[.agg #[.int .i64 aD,.slice aI aE.length aJ,.bool aF,.slice aK aG.length aL,.slice aM aH.length aN]]) (d:=39) kz Tryz.call14 (lGot _ _ _ _ _ (ay.move (((ab.trans ac).trans ae).trans aa).step immM (((ab.trans ac).trans ae).trans aa).to') (Nat.le_refl _)) ?_)
 rintro e_ dK ⟨da,rfl,bC,aA⟩
 have aB:=bC.move (Step.refl _ Nil) nilM (ao.laid (G:=F) aA)
 obtain ⟨cA,cB,cC,cD,cE,cG,cH,cI,cJ,cK,cL,db,dc,aC,cM,cN,dL,dM⟩:=aB.open_
 rw [aC] at aB
 have cO:=cM.small
 have cP:=cN.small
 rw [aC]
 refine ⟨_,rfl,fun dN bD=>?_⟩
 have aj:=ao.next_nil aA
 have af:=ao.frN aA
 have bE:=TT.ofW (aa.trans af) aj
 refine ⟨fun _=>bE,?_⟩
 refine qap (i:=11) kz (qal bD (f:=12) (vs:=[.slice aQ sShareAcknowledgeResponseF.length aR,.int .i64 (Int.tmod x (2 + 1)),.bool (decide ((Int.tmod x (2 + 1)) ≥ qai)),.agg #[.int .i64 n1,.slice A6 s2.length c7,.bool b3,.slice A8 l4.length c9,.slice aO u5.length aP],.agg #[.int .i64 cA,.slice cG cB.length cH,.bool cC,.slice cI cD.length cJ,.slice cK cE.length cL]]) (d:=40) kz Tryz.call12 (qlf (Int.tmod x (2 + 1)) (decide ((Int.tmod x (2 + 1)) ≥ qai)) 8 _ _ sShareAcknowledgeResponseF _ (Tree.mk n1 s2 b3 l4 u5) _ (qbk bj) _ _ ⟨bh,(cT.move (((((((((ag.trans ah).trans ai).trans al).trans am).trans ab).trans ac).trans ae).trans aa).trans af).step immM (((((((((ag.trans ah).trans ai).trans al).trans am).trans ab).trans ac).trans ae).trans aa).trans af).to'),(fun i_ x_ h_=>((cU i_ x_ h_).move (((((((((ag.trans ah).trans ai).trans al).trans am).trans ab).trans ac).trans ae).trans aa).trans af).step immM (((((((((ag.trans ah).trans ai).trans al).trans am).trans ab).trans ac).trans ae).trans aa).trans af).to'))⟩ (ht.move aj.step nilM aj.imm) aB qcY (hto bj bn)) ?_)
 rintro e_ dO ⟨rfl,aW⟩
 refine ⟨_,rfl,fun dP bF=>?_⟩
 have ap:=aj.next_nil aW
 have bG:=aj.frN aW
 have aX:=TT.ofW ((aa.trans af).trans bG) ap
 refine ⟨fun _=>aX,?_⟩
 refine qaF [12] [(41,.v (.bool true))] 1 (qaa qae) (fun _ h=>h.cells) aX bF fun dQ bH=>?_
 refine qap (i:=13) kz (qbq [4] ap.cells bH (env':=[(4,.v (.bool true))]) kz fun dR bI=>?_)
 refine ⟨fun h=>absurd rfl h,?_⟩
 refine qaC kz ?_ _
 refine qab (wp_ret (qaK bI ap.cells (v:=.bool true) kz ?_))
 exact ⟨rfl,ap.step⟩
theorem qc4 (x:Int) (hx:0 ≤ x ∧ x ≤ 255) (ct:List Value) (t:Tree) (w:World) (F:Nat → Nat → Prop) (ht:TreeR w F ct t) (hi:t.i64s) (hsz:t.size ≤ 8388608):Calls Tryz.prog 4 #[.int .u8 x,.agg ct.toArray] w (qcI w (.bool true)):=by
 obtain ⟨g0,g1⟩:=qlZ (m:=2 + 1) hx.1 hx.2 (by decide) (by decide)
 have hp:qam (IntKind.i16.wrap (Int.tmod x (2 + 1))) (fitT (Int.tmod x (2 + 1)) 8 sShareAcknowledgeResponseF t) = qdf 8 sShareAcknowledgeResponseF qai (Int.tmod x (2 + 1)) t:=by rw [qhr g0 g1]; exact qc7 (Int.tmod x (2 + 1)) g0 g1 t
 have h1:=qjR 8 sShareAcknowledgeResponseF qai (Int.tmod x (2 + 1)) t
 have h2:qhP sShareAcknowledgeResponseF ≤ 131000:=by decide +kernel
 have h3:=Nat.mul_le_mul h2 hsz
 exact qdm x hx.1 (by omega) ct t w F ht (by omega) (qc0 (Int.tmod x (2 + 1)) t) (qiW _ _ _ _ ht.ranged) hp (fun D h=>by rw [qhr g0 g1] at h; exact qc9 (Int.tmod x (2 + 1)) g0 t _ (fun _=>rfl) rfl hi D h)
end Go.Proofs.YtdlaobdadlmcdaaGreatDoor.ME