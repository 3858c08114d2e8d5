/- The texts of a claim, put together: the engine, the contracts, the law. Own work. -/
import Derived.Test.YtcbpjflgkefidaaGreatDoorWd1P5
namespace Go.Proofs.YtcbpjflgkefidaaGreatDoor.ME
open Go
open Go.RowKit
set_option linter.unusedVariables false
set_option linter.unusedSimpArgs false
set_option maxRecDepth 20000
theorem qc1 (w:World):Calls Tryz.prog 24 #[] w (qcz w (.int .i64 4)):=by
 refine enter (n:=4) Tryz.func24 rfl Tryz.ntmps24 kz fun a hE=>?_
 have hW:=WOk.start w Nil
 refine qav [] hW hE fun a1 hE2=>?_
 refine qag [0,1,2,3] kz ?_
 refine qak (qbB hE2 (f:=63) (vs:=[]) (d:=1) (n':=3) kz Tryz.call63 Tryz.func63 rfl Tryz.ntmps63 kz fun a3 hE4=>?_)
 refine qav [] hW hE4 fun a5 hE6=>?_
 refine qag [0] kz ?_
 refine qak (qaO hW hE6 (d:=1) (cs:=[.int .i16 0,.int .i32 0,.string ByteArray.empty,.int .u8 0,.int .u8 0,.int .u8 0,.int .u8 0,.int .u8 0,.int .u8 0,.int .u8 0,.int .u8 0,.int .u8 0,.int .u8 0,.int .u8 0,.int .u8 0,.int .u8 0,.int .u8 0,.int .u8 0,.int .u8 0,.slice none 0 0,.slice none 0 0,.pointer none,.bool false,.slice none 0 0,.int .i64 0,.map none]) kz fun b7 a8 w9 aA aB aC ab ac=>?_)
 refine qah (qac ?_)
 refine qag [0] kz ?_
 refine qak (qbB ac (f:=69) (vs:=[.pointer (some ⟨b7,0,none⟩)]) (d:=2) (n':=5) kz Tryz.call69 Tryz.func69 rfl Tryz.ntmps69 kz fun aE ae=>?_)
 have af:=ae.recast 0 (.v (.pointer (some ⟨b7,0,none⟩))) (.p 0 0) rfl rfl (Nat.le_of_ble_eq_true (n:=1) rfl)
 refine qaq [0,1,2,3] kz ?_
 refine qal [0,1,2] [3] [(4,.p 0 24)] ab af fun aF ag=>?_
 refine qak (qam ab ag (oi:=0) (cs:=[.int .i16 0,.int .i32 0,.string ByteArray.empty,.int .u8 0,.int .u8 0,.int .u8 0,.int .u8 0,.int .u8 0,.int .u8 0,.int .u8 0,.int .u8 0,.int .u8 0,.int .u8 0,.int .u8 0,.int .u8 0,.int .u8 0,.int .u8 0,.int .u8 0,.int .u8 0,.slice none 0 0,.slice none 0 0,.pointer none,.bool false,.slice none 0 0,.int .i64 (-1),.map none]) kz fun aG aD aa ah=>?_)
 refine qah ?_
 refine qbI ah aa.cells (v:=.tuple #[]) kz ?_
 refine ⟨_,rfl,fun aH ai=>?_⟩
 have aj:EnvOk 3 [⟨b7,0,[.int .i16 0,.int .i32 0,.string ByteArray.empty,.int .u8 0,.int .u8 0,.int .u8 0,.int .u8 0,.int .u8 0,.int .u8 0,.int .u8 0,.int .u8 0,.int .u8 0,.int .u8 0,.int .u8 0,.int .u8 0,.int .u8 0,.int .u8 0,.int .u8 0,.int .u8 0,.slice none 0 0,.slice none 0 0,.pointer none,.bool false,.slice none 0 0,.int .i64 (-1),.map none],true⟩] [(2,.v (.tuple #[])),(1,.p 0 0)] _:=ai.places (⟨rfl,rfl,trivial⟩)
 refine qah (qac ?_)
 refine qav [(0,.p 0 0)] aa aj fun aI ak=>?_
 refine wp_ret ?_
 refine qaV ak aa.cells (v:=.pointer (some ⟨b7,0,none⟩)) kz ?_
 refine ⟨_,rfl,fun aJ al=>?_⟩
 have am:EnvOk 4 [⟨b7,0,[.int .i16 0,.int .i32 0,.string ByteArray.empty,.int .u8 0,.int .u8 0,.int .u8 0,.int .u8 0,.int .u8 0,.int .u8 0,.int .u8 0,.int .u8 0,.int .u8 0,.int .u8 0,.int .u8 0,.int .u8 0,.int .u8 0,.int .u8 0,.int .u8 0,.int .u8 0,.slice none 0 0,.slice none 0 0,.pointer none,.bool false,.slice none 0 0,.int .i64 (-1),.map none],true⟩] [(1,.v (.pointer (some ⟨b7,0,none⟩)))] _:=al.places (trivial)
 have ao:=am.recast 1 (.v (.pointer (some ⟨b7,0,none⟩))) (.p 0 0) rfl rfl (Nat.le_of_ble_eq_true (n:=1) rfl)
 have ap:=ao.pick (ks:=[1]) (env':=[(1,.p 0 0)]) kz
 refine qak (qbB ap (f:=64) (vs:=[.pointer (some ⟨b7,0,none⟩)]) (d:=2) (n':=3) kz Tryz.call64 Tryz.func64 rfl Tryz.ntmps64 kz fun aK ar=>?_)
 have au:=ar.recast 0 (.v (.pointer (some ⟨b7,0,none⟩))) (.p 0 0) rfl rfl (Nat.le_of_ble_eq_true (n:=1) rfl)
 refine qav [] aa au fun aL av=>?_
 refine qav [(2,.v (.int .i16 4))] aa av fun aM aw=>?_
 refine wp_ret ?_
 refine qaV aw aa.cells (v:=.int .i16 4) kz ?_
 refine ⟨_,rfl,fun aN ax=>?_⟩
 have ay:EnvOk 4 [⟨b7,0,[.int .i16 0,.int .i32 0,.string ByteArray.empty,.int .u8 0,.int .u8 0,.int .u8 0,.int .u8 0,.int .u8 0,.int .u8 0,.int .u8 0,.int .u8 0,.int .u8 0,.int .u8 0,.int .u8 0,.int .u8 0,.int .u8 0,.int .u8 0,.int .u8 0,.int .u8 0,.slice none 0 0,.slice none 0 0,.pointer none,.bool false,.slice none 0 0,.int .i64 (-1),.map none],true⟩] [(2,.v (.int .i16 4)),(1,.p 0 0)] _:=ax.places (⟨rfl,rfl,trivial⟩)
 refine qal [2,3] [] [(0,.v (.int .i64 4))] aa ay fun aO az=>?_
 refine qah (qac ?_)
 refine wp_ret ?_
 refine qaV az aa.cells (v:=.int .i64 4) kz ?_
 exact ⟨rfl,aa.step⟩
theorem qcn:depths sBrokerRegistrationRequestF ≤ 8:=by simp [sBrokerRegistrationRequestF,Fld.depth.depths,Fld.depth]
set_option maxHeartbeats 4000000 in
theorem qcL (x:Int) (hx:0 ≤ x) (hx':x < 256) (ct:List Value) (t:Tree) (w:World) (F:Nat → Nat → Prop) (ht:TreeR w F ct t) (hroom1:(qcQ 8 sBrokerRegistrationRequestF qaB (Int.tmod x (4 + 1)) t).length + 16 ≤ 1099511627776) (hcan:qa4 (fitT (Int.tmod x (4 + 1)) 8 sBrokerRegistrationRequestF t)) (hkey:Tree.ranged (fitT (Int.tmod x (4 + 1)) 8 sBrokerRegistrationRequestF t)) (hpure:qai (IntKind.i16.wrap (Int.tmod x (4 + 1))) (fitT (Int.tmod x (4 + 1)) 8 sBrokerRegistrationRequestF t) = qcQ 8 sBrokerRegistrationRequestF qaB (Int.tmod x (4 + 1)) t) :
  Calls Tryz.prog 6 #[.int .u8 x,.agg ct.toArray] w (qcz w (.bool true)):=by
 obtain ⟨n1,s2,b3,l4,u5,A6,c7,A8,c9,aU,aV,cX,rfl,rfl,cY,cZ,dJ,dK⟩:=ht.open_
 have cI:=cY.small
 have cJ:=cZ.small
 refine enter (n:=37) Tryz.func6 rfl Tryz.ntmps6 kz fun a hE=>?_
 have hW:=WOk.start w Nil
 refine qag [0,1] kz ?_
 refine qak (qbv hW hE (d:=3) (cs:=[.int .i64 n1,.slice A6 s2.length c7,.bool b3,.slice A8 l4.length c9,.slice aU u5.length aV]) kz fun c5 dL dM c6 da db am bD=>?_)
 refine qal [1] [] [(0,.v (.int .u8 x)),(3,.p 0 0)] am bD fun dN bE=>?_
 refine qah (qac ?_)
 refine wp_seq ?_
 refine qag [0,1,2] kz ?_
 refine qal [0] [1,2] [(0,.v (.int .u8 x)),(3,.p 0 0),(10,.v (.agg #[.int .i64 n1,.slice A6 s2.length c7,.bool b3,.slice A8 l4.length c9,.slice aU u5.length aV]))] am bE fun dO bF=>?_
 refine qak (qan bF (f:=10) (vs:=[.agg #[.int .i64 n1,.slice A6 s2.length c7,.bool b3,.slice A8 l4.length c9,.slice aU u5.length aV]]) (d:=11) kz Tryz.call10 (qk7 _ _ _ _ (ht.move am.step nilM am.imm)) ?_)
 rintro e_ dP ⟨cK,rfl,aY⟩
 refine ⟨_,rfl,fun dQ bG=>?_⟩
 have ao:=am.next_nil aY
 have dc:=am.frN aY
 refine qal [2] [] [(0,.v (.int .u8 x)),(3,.p 0 0),(12,.v (.bool (!cK)))] ao bG fun dR aR=>?_
 refine qah (qac ?_)
 refine qaD aR (b:=!cK) kz (fun bH=>?_) (fun bH=>?_)
 ·
  refine qav [(4,.v (.bool true))] ao aR fun dS bI=>?_
  refine wp_ret ?_
  refine qaE ?_
  refine qaV bI ao.cells (v:=.bool true) kz ?_
  exact ⟨rfl,ao.step⟩
 refine wp_skip ?_
 refine qac ?_
 refine qag [0,1] kz ?_
 refine qak (qan aR (f:=24) (vs:=[]) (d:=13) kz Tryz.call24 (qc1 _) ?_)
 rintro e_ de ⟨rfl,aZ⟩
 refine ⟨_,rfl,fun dT bJ=>?_⟩
 have ap:=ao.next_nil aZ
 have dg:=ao.frN aZ
 refine qal [1] [] [(0,.v (.int .u8 x)),(3,.p 0 0),(5,.v (.int .i64 4))] ap bJ fun dU bK=>?_
 refine qah (qac ?_)
 refine wp_seq ?_
 refine qav [(0,.v (.int .u8 x)),(3,.p 0 0),(5,.v (.int .i64 4)),(15,.v (.bool false))] ap bK fun dV ba=>?_
 refine qau ba (b:=false) kz rfl ?_
 refine wp_skip ?_
 refine qac ?_
 refine qag [0,1,2,3,4,5,6] kz ?_
 refine qak (qan ba (f:=25) (vs:=[]) (d:=16) kz Tryz.call25 (qc0 _ (Imm F w de [⟨c5,0,[.int .i64 n1,.slice A6 s2.length c7,.bool b3,.slice A8 l4.length c9,.slice aU u5.length aV],true⟩] [])) ?_)
 rintro e_ dW ⟨aW,aX,rfl,bL,aS⟩
 obtain ⟨bd,cL,cM⟩:=bL.move (Step.refl _ Nil) nilM (ap.laid (G:=F) aS)
 refine ⟨_,rfl,fun dX bM=>?_⟩
 have aT:=ap.next_nil aS
 have dh:=ap.frN aS
 refine qal [1,2] [3,4,5,6] [(3,.p 0 0),(16,.v (.agg #[.slice aW sBrokerRegistrationRequestF.length aX,.int .i64 qaB])),(17,.v (.int .u8 x)),(18,.v (.int .i64 4))] aT bM fun dY bN=>?_
 refine qak (qan bN (f:=13) (vs:=[.int .u8 x,.int .i64 4]) (d:=19) kz Tryz.call13 (qjH x 4 hx hx' (by decide) (by decide) _) ?_)
 rintro e_ dZ ⟨rfl,bf⟩
 refine ⟨_,rfl,fun d5 bO=>?_⟩
 have bP:=aT.next_nil bf
 have af:=aT.frN bf
 refine qak (qaO bP bO (d:=6) (cs:=[.slice none 0 0,.int .i64 0]) kz fun d6 d7 d8 di dj ag bQ bR=>?_)
 refine qak (qam bQ bR (oi:=1) (cs:=[.slice aW sBrokerRegistrationRequestF.length aX,.int .i64 qaB]) kz fun d9 ah ar bS=>?_)
 refine qal [6] [] [(3,.p 0 0),(6,.p 1 0),(7,.v (.int .i64 (Int.tmod x (4 + 1))))] ar bS fun ea bT=>?_
 refine qah (qac ?_)
 refine qag [0,1,2,3,4,5,6,7,8,9,10,11] kz ?_
 refine qal [0,1,2,3] [4,5,6,7,8,9,10,11] [(6,.p 1 0),(21,.v (.int .i64 (Int.tmod x (4 + 1)))),(22,.v (.agg #[.slice aW sBrokerRegistrationRequestF.length aX,.int .i64 qaB])),(23,.v (.int .i64 (Int.tmod x (4 + 1)))),(24,.v (.agg #[.int .i64 n1,.slice A6 s2.length c7,.bool b3,.slice A8 l4.length c9,.slice aU u5.length aV]))] ar bT fun eb bU=>?_
 refine qak (qan bU (f:=15) (vs:=[.agg #[.slice aW sBrokerRegistrationRequestF.length aX,.int .i64 qaB],.int .i64 (Int.tmod x (4 + 1)),.agg #[.int .i64 n1,.slice A6 s2.length c7,.bool b3,.slice A8 l4.length c9,.slice aU u5.length aV]]) (d:=25) kz Tryz.call15 (qkT _ _ sBrokerRegistrationRequestF qaB (Int.tmod x (4 + 1)) _ (Tree.mk n1 s2 b3 l4 u5) _ _ ⟨bd,(cL.move ((af.trans ag).trans ah).step immM ((af.trans ag).trans ah).to'),(fun i_ x_ h_=>((cM i_ x_ h_).move ((af.trans ag).trans ah).step immM ((af.trans ag).trans ah).to'))⟩ qcn (ht.move ar.step nilM ar.imm) (Nat.le_trans (Nat.le_add_right _ _) hroom1)) ?_)
 rintro e_ ec ⟨cN,cO,rfl,bV,bW⟩
 refine ⟨_,rfl,fun ee bX=>?_⟩
 obtain ⟨ai,aj⟩:=ar.frFresh bW (brow cN cO 5 (qcQ 8 sBrokerRegistrationRequestF qaB (Int.tmod x (4 + 1)) (Tree.mk n1 s2 b3 l4 u5))) (Nat.le_refl _) bV
 refine qak (qan bX (f:=26) (vs:=[.int .i64 (Int.tmod x (4 + 1)),.slice cN ((qcQ 8 sBrokerRegistrationRequestF qaB (Int.tmod x (4 + 1)) (Tree.mk n1 s2 b3 l4 u5)).length) cO]) (d:=26) kz Tryz.call26 (qcK (Int.tmod x (4 + 1)) _ (qcQ 8 sBrokerRegistrationRequestF qaB (Int.tmod x (4 + 1)) (Tree.mk n1 s2 b3 l4 u5)) hpure (qdB (ai.own 0 _ rfl) (by first | omega | (rw [qci]; decide) | (simp only [be_length]; exact Nat.le_trans (qb3 _) (by decide)) | (have:=hroom; omega) | (have:=hmade; omega) | (simp only [List.length_append,List.length_nil]; omega)) (F:=fun _ _=>True) (fun _ _ _=>trivial)) hcan hkey (by first | omega | (have:=hroom1; omega))) ?_)
 rintro e_ dl ⟨bg,cP,rfl,bh,au⟩
 have av:=bh.move (Step.refl _ Nil) nilM (fun b_ o_ h_ hb_=>ai.laid (G:=F) au b_ o_ (.inr (h_.resolve_left id)) hb_)
 obtain ⟨aC,aD,aE,aF,aG,aH,aI,aJ,aK,aL,aM,cQ,cR,aw,bY,bZ,dp,dq⟩:=av.open_
 rw [aw] at av
 have b8:=bY.small
 have cd:=bZ.small
 rw [aw]
 refine ⟨_,rfl,fun dr bi=>?_⟩
 have aN:=ai.next_nil au
 have ak:=ai.frN au
 refine qal [6,7,8] [9,10,11] [(6,.p 1 0),(27,.v (.agg #[.int .i64 aC,.slice aH aD.length aI,.bool aE,.slice aJ aF.length aK,.slice aL aG.length aM])),(28,.v (.bool true))] aN bi fun dt bj=>?_
 refine qak (qaO aN bj (d:=8) (cs:=[.int .i64 0,.slice none 0 0,.bool false,.slice none 0 0,.slice none 0 0]) kz fun du dv dw cS cT aa bk bn=>?_)
 refine qak (qam bk bn (oi:=2) (cs:=[.int .i64 aC,.slice aH aD.length aI,.bool aE,.slice aJ aF.length aK,.slice aL aG.length aM]) kz fun dx ab aO bo=>?_)
 refine qal [11] [] [(6,.p 1 0),(8,.p 2 0),(9,.v (.bool true))] aO bo fun dy bp=>?_
 refine qah (qac ?_)
 refine qaK 8 kz aO fun dz ac ax bq=>?_
 refine qaz [0,1,2,3,4] [(30,.v (.bool true)),(32,.v (.slice aW sBrokerRegistrationRequestF.length aX)),(33,.v (.agg #[.int .i64 aC,.slice aH aD.length aI,.bool aE,.slice aJ aF.length aK,.slice aL aG.length aM]))] 4 (qab qaf) (fun _ h=>h.cells) bq bp fun dA bt=>?_
 refine qap (i:=5) kz (qan bt (f:=17) (vs:=[.agg #[.int .i64 aC,.slice aH aD.length aI,.bool aE,.slice aJ aF.length aK,.slice aL aG.length aM]]) (d:=34) kz Tryz.call17 (lGot _ _ _ _ _ (av.move ((aa.trans ab).trans ac).step immM ((aa.trans ab).trans ac).to') (Nat.le_refl _)) ?_)
 rintro e_ dB ⟨cU,rfl,bu,ay⟩
 have az:=bu.move (Step.refl _ Nil) nilM (ax.laid (G:=F) ay)
 obtain ⟨ce,cg,cm,cq,cr,cu,cw,cz,cA,cB,cC,cV,cW,aA,cD,cE,dC,dD⟩:=az.open_
 rw [aA] at az
 have cG:=cD.small
 have cH:=cE.small
 rw [aA]
 refine ⟨_,rfl,fun dE bw=>?_⟩
 have aB:=ax.next_nil ay
 have ae:=ax.frN ay
 have bx:=TT.ofW ae aB
 refine ⟨fun _=>bx,?_⟩
 refine qap (i:=6) kz (qan bw (f:=16) (vs:=[.slice aW sBrokerRegistrationRequestF.length aX,.agg #[.int .i64 ce,.slice cu cg.length cw,.bool cm,.slice cz cq.length cA,.slice cB cr.length cC]]) (d:=35) kz Tryz.call16 (qjd _ _ sBrokerRegistrationRequestF _ (qba (qa6 bg)) _ _ ⟨bd,(cL.move ((((((((af.trans ag).trans ah).trans aj).trans ak).trans aa).trans ab).trans ac).trans ae).step immM ((((((((af.trans ag).trans ah).trans aj).trans ak).trans aa).trans ab).trans ac).trans ae).to'),(fun i_ x_ h_=>((cM i_ x_ h_).move ((((((((af.trans ag).trans ah).trans aj).trans ak).trans aa).trans ab).trans ac).trans ae).step immM ((((((((af.trans ag).trans ah).trans aj).trans ak).trans aa).trans ab).trans ac).trans ae).to'))⟩ az (qcJ bg)) ?_)
 rintro e_ dF ⟨rfl,aP⟩
 refine ⟨_,rfl,fun dG bz=>?_⟩
 have al:=aB.next_nil aP
 have bA:=aB.frN aP
 have aQ:=TT.ofW (ae.trans bA) al
 refine ⟨fun _=>aQ,?_⟩
 refine qaz [7] [(36,.v (.bool true))] 1 (qab qaf) (fun _ h=>h.cells) aQ bz fun dH bB=>?_
 refine qap (i:=8) kz (qbs [4] al.cells bB (env':=[(4,.v (.bool true))]) kz fun dI bC=>?_)
 refine ⟨fun h=>absurd rfl h,?_⟩
 refine qay kz ?_ _
 refine qac ?_
 refine wp_ret ?_
 refine qaV bC al.cells (v:=.bool true) kz ?_
 exact ⟨rfl,al.step⟩
theorem qcx (x:Int) (hx:0 ≤ x ∧ x ≤ 255) (ct:List Value) (t:Tree) (w:World) (F:Nat → Nat → Prop) (ht:TreeR w F ct t) (hi:t.i64s) (hsz:t.size ≤ 8388608):Calls Tryz.prog 6 #[.int .u8 x,.agg ct.toArray] w (qcz w (.bool true)):=by
 obtain ⟨g0,g1⟩:=qkO (m:=4 + 1) hx.1 hx.2 (by decide) (by decide)
 have hp:qai (IntKind.i16.wrap (Int.tmod x (4 + 1))) (fitT (Int.tmod x (4 + 1)) 8 sBrokerRegistrationRequestF t) = qcQ 8 sBrokerRegistrationRequestF qaB (Int.tmod x (4 + 1)) t:=by rw [qiG g0 g1]; exact qcA (Int.tmod x (4 + 1)) g0 g1 t
 have h1:=qiO 8 sBrokerRegistrationRequestF qaB (Int.tmod x (4 + 1)) t
 have h2:qgT sBrokerRegistrationRequestF ≤ 131000:=by decide +kernel
 have h3:=Nat.mul_le_mul h2 hsz
 exact qcL x hx.1 (by omega) ct t w F ht (by omega) (qcq (Int.tmod x (4 + 1)) t) (qhT _ _ _ _ ht.ranged) hp
end Go.Proofs.YtcbpjflgkefidaaGreatDoor.ME