/- FnBehindJoinGroupResponse: the statement: of every version, every slice of octets and every tree of the bulk that the statement speaks of the law returns true, and leaves its arguments as they are; and the card. Own work. -/
import Derived.Test.YtdlaobdadlmcdabGreatDoorWb0P4
import Derived.Test.YtdlaobdadlmcdabGreatDoorTie
import Derived.Test.YtdlaobdadlmcdabGreatDoorCards
import Derived.LaidMore
import Derived.SevenTiedAt
namespace Go.Proofs.YtdlaobdadlmcdabGreatDoor.ME
open Go
open Go.RowKit
set_option linter.unusedVariables false
set_option linter.unusedSimpArgs false
set_option maxRecDepth 20000
theorem qdG (v:Int) (T:Tree) (dst B:Bs) {A1 A2:Option Addr} {c1 c2:Nat} {w:World} {F:Nat → Nat → Prop} (hB:qai (IntKind.i16.wrap v) T = B) (hd:Octs w F A1 c1 dst) (hs_:Octs w F A2 c2 B) (hc:qa1 T) (hkey:T.ranged) (hroom:dst.length + B.length + 16 ≤ 1099511627776) :
  Calls Tryz.prog 14 #[.int .i64 v,.slice A1 dst.length c1,.slice A2 B.length c2] w (fun e w'=>∃ A c,e = .returned (.tuple #[.slice A (dst ++ B).length c,.bool true]) ∧ w'.ownsRow w.heap.size 5 1 (.slice A (dst ++ B).length c) (dst ++ B).length (bc (dst ++ B)) ∧ Step w w' Nil):=by
 subst hB
 exact qd3 v T dst hd hs_ hc hkey hroom
theorem qer (w:World):Calls Tryz.prog 12 #[] w (qcp w (.int .i64 9)):=by
 refine enter (n:=4) Tryz.func12 rfl Tryz.ntmps12 kz fun a hE=>?_
 have hW:=WOk.start w Nil
 refine qar [] hW hE fun a1 hE2=>?_
 refine qac [0,1,2,3] kz ?_
 refine qak (qbI hE2 (f:=24) (vs:=[]) (d:=1) (n':=3) kz Tryz.call24 Tryz.func24 rfl Tryz.ntmps24 kz fun a3 hE4=>?_)
 refine qar [] hW hE4 fun a5 hE6=>?_
 refine qac [0] kz ?_
 refine qak (qaY hW hE6 (d:=1) (cs:=[.int .i16 0,.int .i32 0,.int .i16 0,.int .i32 0,.pointer none,.pointer none,.string ByteArray.empty,.bool false,.string ByteArray.empty,.slice none 0 0,.map none]) kz fun b7 a8 w9 aA aB aC ab ac=>?_)
 refine qad (qaa ?_)
 refine qac [0] kz ?_
 refine qak (qbI ac (f:=58) (vs:=[.pointer (some ⟨b7,0,none⟩)]) (d:=2) (n':=5) kz Tryz.call58 Tryz.func58 rfl Tryz.ntmps58 kz fun aE ae=>?_)
 have af:=ae.recast 0 (.v (.pointer (some ⟨b7,0,none⟩))) (.p 0 0) rfl rfl (Nat.le_of_ble_eq_true (n:=1) rfl)
 refine qap [0,1,2,3] kz ?_
 refine qaj [0,1,2] [3] [(4,.p 0 3)] ab af fun aF ag=>?_
 refine qak (qaH ab ag (oi:=0) (cs:=[.int .i16 0,.int .i32 0,.int .i16 0,.int .i32 (-1),.pointer none,.pointer none,.string ByteArray.empty,.bool false,.string ByteArray.empty,.slice none 0 0,.map none]) kz fun aG aD aa ah=>?_)
 refine qad ?_
 refine qcn ah aa.cells (v:=.tuple #[]) kz ?_
 refine ⟨_,rfl,fun aH ai=>?_⟩
 have aj:EnvOk 3 [⟨b7,0,[.int .i16 0,.int .i32 0,.int .i16 0,.int .i32 (-1),.pointer none,.pointer none,.string ByteArray.empty,.bool false,.string ByteArray.empty,.slice none 0 0,.map none],true⟩] [(2,.v (.tuple #[])),(1,.p 0 0)] _:=ai.places (⟨rfl,rfl,trivial⟩)
 refine qad (qaa ?_)
 refine qar [(0,.p 0 0)] aa aj fun aI ak=>?_
 refine wp_ret ?_
 refine qaG ak aa.cells (v:=.pointer (some ⟨b7,0,none⟩)) kz ?_
 refine ⟨_,rfl,fun aJ al=>?_⟩
 have am:EnvOk 4 [⟨b7,0,[.int .i16 0,.int .i32 0,.int .i16 0,.int .i32 (-1),.pointer none,.pointer none,.string ByteArray.empty,.bool false,.string ByteArray.empty,.slice none 0 0,.map none],true⟩] [(1,.v (.pointer (some ⟨b7,0,none⟩)))] _:=al.places (trivial)
 have ao:=am.recast 1 (.v (.pointer (some ⟨b7,0,none⟩))) (.p 0 0) rfl rfl (Nat.le_of_ble_eq_true (n:=1) rfl)
 have ap:=ao.pick (ks:=[1]) (env':=[(1,.p 0 0)]) kz
 refine qak (qbI ap (f:=25) (vs:=[.pointer (some ⟨b7,0,none⟩)]) (d:=2) (n':=3) kz Tryz.call25 Tryz.func25 rfl Tryz.ntmps25 kz fun aK ar=>?_)
 have au:=ar.recast 0 (.v (.pointer (some ⟨b7,0,none⟩))) (.p 0 0) rfl rfl (Nat.le_of_ble_eq_true (n:=1) rfl)
 refine qar [] aa au fun aL av=>?_
 refine qar [(2,.v (.int .i16 9))] aa av fun aM aw=>?_
 refine wp_ret ?_
 refine qaG aw aa.cells (v:=.int .i16 9) kz ?_
 refine ⟨_,rfl,fun aN ax=>?_⟩
 have ay:EnvOk 4 [⟨b7,0,[.int .i16 0,.int .i32 0,.int .i16 0,.int .i32 (-1),.pointer none,.pointer none,.string ByteArray.empty,.bool false,.string ByteArray.empty,.slice none 0 0,.map none],true⟩] [(2,.v (.int .i16 9)),(1,.p 0 0)] _:=ax.places (⟨rfl,rfl,trivial⟩)
 refine qaj [2,3] [] [(0,.v (.int .i64 9))] aa ay fun aO az=>?_
 refine qad (qaa ?_)
 refine wp_ret ?_
 refine qaG az aa.cells (v:=.int .i64 9) kz ?_
 exact ⟨rfl,aa.step⟩
theorem qcT:depths sJoinGroupResponseF ≤ 8:=by simp [sJoinGroupResponseF,Fld.depth.depths,Fld.depth]
theorem qdH (x:Int) (hx:0 ≤ x) (hx':x < 256) (dst:Bs) {A1:Option Addr} {c1:Nat} (ct:List Value) (t:Tree) (w:World) (F:Nat → Nat → Prop) (hd:Octs w F A1 c1 dst) (hdl:dst.length ≤ 1048576) (ht:TreeR w F ct t) (hroom1:(qaO 8 sJoinGroupResponseF qaf (Int.tmod x (9 + 1)) t).length ≤ 1099511627776) (hroom:dst.length + (qaO 8 sJoinGroupResponseF qaf (Int.tmod x (9 + 1)) t).length + 16 ≤ 1099511627776) (hcan:qa1 (fitT (Int.tmod x (9 + 1)) 8 sJoinGroupResponseF t)) (hkey:Tree.ranged (fitT (Int.tmod x (9 + 1)) 8 sJoinGroupResponseF t)) (hpure:qai (IntKind.i16.wrap (Int.tmod x (9 + 1))) (fitT (Int.tmod x (9 + 1)) 8 sJoinGroupResponseF t) = qaO 8 sJoinGroupResponseF qaf (Int.tmod x (9 + 1)) t) :
  Calls Tryz.prog 4 #[.int .u8 x,.slice A1 dst.length c1,.agg ct.toArray] w (qcp w (.bool true)):=by
 obtain ⟨n1,s2,b3,l4,u5,A6,c7,A8,c9,aH,aI,cB,rfl,rfl,cC,cD,dr,dt⟩:=ht.open_
 have bY:=cC.small
 have bZ:=cD.small
 refine enter (n:=52) Tryz.func4 rfl Tryz.ntmps4 kz fun a hE=>?_
 have hW:=WOk.start w Nil
 have hsm1:=Slots.small hd
 refine qac [0,1] kz ?_
 refine qak (qbs hW hE (d:=5) (cs:=[.int .i64 n1,.slice A6 s2.length c7,.bool b3,.slice A8 l4.length c9,.slice aH u5.length aI]) kz fun cE du dv cG cH cI al bD=>?_)
 refine qaj [1] [] [(0,.v (.int .u8 x)),(1,.v (.slice A1 dst.length c1)),(5,.p 0 0)] al bD fun dw bE=>?_
 refine qad (qaa ?_)
 refine wp_seq ?_
 refine qac [0,1,2,3,4,5,6,7] kz ?_
 refine qaj [0,1,2,3] [4,5,6,7] [(0,.v (.int .u8 x)),(1,.v (.slice A1 dst.length c1)),(5,.p 0 0),(16,.v (.bool (decide (((dst.length:Nat):Int) > 2147483647))))] al bE fun dx bF=>?_
 have bG:(decide (((dst.length:Nat):Int) > 2147483647)) = false:=decide_eq_false (by omega)
 have bH:=bF.cast (env':=[(0,.v (.int .u8 x)),(1,.v (.slice A1 dst.length c1)),(5,.p 0 0),(16,.v (.bool false))]) (by rw [bG])
 refine qaj [4] [5,6,7] [(0,.v (.int .u8 x)),(1,.v (.slice A1 dst.length c1)),(5,.p 0 0),(16,.v (.bool false)),(17,.v (.agg #[.int .i64 n1,.slice A6 s2.length c7,.bool b3,.slice A8 l4.length c9,.slice aH u5.length aI]))] al bH fun dy bI=>?_
 refine qak (qal bI (f:=5) (vs:=[.agg #[.int .i64 n1,.slice A6 s2.length c7,.bool b3,.slice A8 l4.length c9,.slice aH u5.length aI]]) (d:=18) kz Tryz.call5 (qlO _ _ _ _ (ht.move al.step nilM al.imm)) ?_)
 rintro e_ dA ⟨b8,rfl,aJ⟩
 refine ⟨_,rfl,fun dB bJ=>?_⟩
 have ap:=al.next_nil aJ
 have cJ:=al.frN aJ
 refine qaj [6,7] [] [(0,.v (.int .u8 x)),(1,.v (.slice A1 dst.length c1)),(5,.p 0 0),(20,.v (.bool (!b8)))] ap bJ fun dC aC=>?_
 refine qad (qaa ?_)
 refine qau aC (b:=!b8) kz (fun bK=>?_) (fun bK=>?_)
 ·
  refine qar [(6,.v (.bool true))] ap aC fun dD bL=>?_
  refine wp_ret ?_
  refine qax ?_
  refine qaG bL ap.cells (v:=.bool true) kz ?_
  exact ⟨rfl,ap.step⟩
 refine wp_skip ?_
 refine qaa ?_
 refine qac [0,1] kz ?_
 refine qak (qal aC (f:=12) (vs:=[]) (d:=21) kz Tryz.call12 (qer _) ?_)
 rintro e_ cK ⟨rfl,aK⟩
 refine ⟨_,rfl,fun dE bM=>?_⟩
 have av:=ap.next_nil aK
 have cL:=ap.frN aK
 refine qaj [1] [] [(0,.v (.int .u8 x)),(1,.v (.slice A1 dst.length c1)),(5,.p 0 0),(7,.v (.int .i64 9))] av bM fun dF bN=>?_
 refine qad (qaa ?_)
 refine wp_seq ?_
 refine qar [(0,.v (.int .u8 x)),(1,.v (.slice A1 dst.length c1)),(5,.p 0 0),(7,.v (.int .i64 9)),(23,.v (.bool false))] av bN fun dG aL=>?_
 refine qaq aL (b:=false) kz rfl ?_
 refine wp_skip ?_
 refine qaa ?_
 refine qac [0,1,2,3,4,5,6] kz ?_
 refine qak (qal aL (f:=13) (vs:=[]) (d:=24) kz Tryz.call13 (qep _ (Imm F w cK [⟨cE,0,[.int .i64 n1,.slice A6 s2.length c7,.bool b3,.slice A8 l4.length c9,.slice aH u5.length aI],true⟩] [])) ?_)
 rintro e_ dH ⟨bB,bC,rfl,bO,aD⟩
 obtain ⟨bP,cM,cN⟩:=bO.move (Step.refl _ Nil) nilM (av.laid (G:=F) aD)
 refine ⟨_,rfl,fun dI bQ=>?_⟩
 have aE:=av.next_nil aD
 have cO:=av.frN aD
 refine qaj [1,2] [3,4,5,6] [(1,.v (.slice A1 dst.length c1)),(5,.p 0 0),(24,.v (.agg #[.slice bB sJoinGroupResponseF.length bC,.int .i64 qaf])),(25,.v (.int .u8 x)),(26,.v (.int .i64 9))] aE bQ fun dJ bR=>?_
 refine qak (qal bR (f:=8) (vs:=[.int .u8 x,.int .i64 9]) (d:=27) kz Tryz.call8 (qkc x 9 hx hx' (by decide) (by decide) _) ?_)
 rintro e_ dK ⟨rfl,aM⟩
 refine ⟨_,rfl,fun dL bS=>?_⟩
 have bT:=aE.next_nil aM
 have ay:=aE.frN aM
 refine qak (qaY bT bS (d:=8) (cs:=[.slice none 0 0,.int .i64 0]) kz fun dM dN dO cP cQ az bU bV=>?_)
 refine qak (qaH bU bV (oi:=1) (cs:=[.slice bB sJoinGroupResponseF.length bC,.int .i64 qaf]) kz fun dP aA ah bW=>?_)
 refine qaj [6] [] [(1,.v (.slice A1 dst.length c1)),(5,.p 0 0),(8,.p 1 0),(9,.v (.int .i64 (Int.tmod x (9 + 1))))] ah bW fun dQ bX=>?_
 refine qad (qaa ?_)
 refine wp_seq ?_
 refine qar [(1,.v (.slice A1 dst.length c1)),(5,.p 0 0),(8,.p 1 0),(9,.v (.int .i64 (Int.tmod x (9 + 1)))),(30,.v (.bool (decide (((dst.length:Nat):Int) > 1000))))] ah bX fun dR aF=>?_
 refine qau aF (b:=decide (((dst.length:Nat):Int) > 1000)) kz (fun aG=>?_) (fun aG=>?_)
 ·
  have cR:=of_decide_eq_true aG
  refine qar [(6,.v (.bool true))] ah aF fun dS aN=>?_
  refine wp_ret ?_
  refine qax ?_
  refine qaG aN ah.cells (v:=.bool true) kz ?_
  exact ⟨rfl,ah.step⟩
 have cd:=of_decide_eq_false aG
 refine wp_skip ?_
 refine qaa ?_
 refine qac [0,1,2,3,4] kz ?_
 refine qaj [0,1,2] [3,4] [(1,.v (.slice A1 dst.length c1)),(9,.v (.int .i64 (Int.tmod x (9 + 1)))),(31,.v (.agg #[.slice bB sJoinGroupResponseF.length bC,.int .i64 qaf])),(32,.v (.int .i64 (Int.tmod x (9 + 1)))),(33,.v (.agg #[.int .i64 n1,.slice A6 s2.length c7,.bool b3,.slice A8 l4.length c9,.slice aH u5.length aI]))] ah aF fun cS aO=>?_
 refine qak (qal aO (f:=9) (vs:=[.agg #[.slice bB sJoinGroupResponseF.length bC,.int .i64 qaf],.int .i64 (Int.tmod x (9 + 1)),.agg #[.int .i64 n1,.slice A6 s2.length c7,.bool b3,.slice A8 l4.length c9,.slice aH u5.length aI]]) (d:=34) kz Tryz.call9 (qly _ _ sJoinGroupResponseF qaf (Int.tmod x (9 + 1)) _ (Tree.mk n1 s2 b3 l4 u5) _ _ ⟨bP,(cM.move ((ay.trans az).trans aA).step immM ((ay.trans az).trans aA).to'),(fun i_ x_ h_=>((cN i_ x_ h_).move ((ay.trans az).trans aA).step immM ((ay.trans az).trans aA).to'))⟩ qcT (ht.move ah.step nilM ah.imm) hroom1) ?_)
 rintro e_ cT ⟨aa,ab,rfl,aP,aQ⟩
 refine ⟨_,rfl,fun cU aR=>?_⟩
 obtain ⟨af,ce⟩:=ah.frFresh aQ (brow aa ab 5 (qaO 8 sJoinGroupResponseF qaf (Int.tmod x (9 + 1)) (Tree.mk n1 s2 b3 l4 u5))) (Nat.le_refl _) aP
 refine qaj [4] [] [(1,.v (.slice A1 dst.length c1)),(9,.v (.int .i64 (Int.tmod x (9 + 1)))),(10,.v (.slice aa ((qaO 8 sJoinGroupResponseF qaf (Int.tmod x (9 + 1)) (Tree.mk n1 s2 b3 l4 u5)).length) ab))] af aR fun cV aS=>?_
 refine qad (qaa ?_)
 refine qac [0,1,2,3,4,5,6,7,8] kz ?_
 refine qaj [0,1,2] [3,4,5,6,7,8] [(1,.v (.slice A1 dst.length c1)),(10,.v (.slice aa ((qaO 8 sJoinGroupResponseF qaf (Int.tmod x (9 + 1)) (Tree.mk n1 s2 b3 l4 u5)).length) ab)),(36,.v (.int .i64 (Int.tmod x (9 + 1)))),(37,.v (.slice A1 dst.length c1)),(38,.v (.slice aa ((qaO 8 sJoinGroupResponseF qaf (Int.tmod x (9 + 1)) (Tree.mk n1 s2 b3 l4 u5)).length) ab))] af aS fun cW aT=>?_
 refine qak (qal aT (f:=14) (vs:=[.int .i64 (Int.tmod x (9 + 1)),.slice A1 dst.length c1,.slice aa ((qaO 8 sJoinGroupResponseF qaf (Int.tmod x (9 + 1)) (Tree.mk n1 s2 b3 l4 u5)).length) ab]) (d:=39) kz Tryz.call14 (qdG (Int.tmod x (9 + 1)) _ dst (qaO 8 sJoinGroupResponseF qaf (Int.tmod x (9 + 1)) (Tree.mk n1 s2 b3 l4 u5)) hpure ((hd.move af.step nilM af.imm).move (Step.refl _ Nil) nilM allF) (qdq (af.own 0 _ rfl) (by first | omega | (rw [qbH]; decide) | (simp only [be_length]; exact Nat.le_trans (qbB _) (by decide)) | (have:=hroom; omega) | (have:=hmade; omega) | (simp only [List.length_append,List.length_nil]; omega)) (F:=fun _ _=>True) (fun _ _ _=>trivial)) hcan hkey (by first | omega | (have:=hroom1; omega))) ?_)
 rintro e_ cX ⟨ac,ae,rfl,aU,aV⟩
 refine ⟨_,rfl,fun cY aW=>?_⟩
 obtain ⟨aw,cg⟩:=af.frFresh aV (brow ac ae 5 (dst ++ (qaO 8 sJoinGroupResponseF qaf (Int.tmod x (9 + 1)) (Tree.mk n1 s2 b3 l4 u5)))) (Nat.le_refl _) aU
 refine qaj [4,5,6,7,8] [] [(1,.v (.slice A1 dst.length c1)),(10,.v (.slice aa ((qaO 8 sJoinGroupResponseF qaf (Int.tmod x (9 + 1)) (Tree.mk n1 s2 b3 l4 u5)).length) ab)),(11,.v (.slice ac ((dst ++ (qaO 8 sJoinGroupResponseF qaf (Int.tmod x (9 + 1)) (Tree.mk n1 s2 b3 l4 u5))).length) ae)),(12,.v (.bool true))] aw aW fun cZ aX=>?_
 refine qad (qaa ?_)
 refine qac [0,1,2,3,4,5,6,7,8,9,10] kz ?_
 refine qaj [0,1,2] [3,4,5,6,7,8,9,10] [(1,.v (.slice A1 dst.length c1)),(10,.v (.slice aa ((qaO 8 sJoinGroupResponseF qaf (Int.tmod x (9 + 1)) (Tree.mk n1 s2 b3 l4 u5)).length) ab)),(43,.v (.bool true)),(44,.v (.slice ac ((dst ++ (qaO 8 sJoinGroupResponseF qaf (Int.tmod x (9 + 1)) (Tree.mk n1 s2 b3 l4 u5))).length) ae))] aw aX fun da aY=>?_
 refine qak (qd7 aw aY (e:=5) (size:=1) (len:=0) (cs:=[]) (d:=45) kz kz fun ai db dc cm cq cr aZ ba=>?_)
 have bd:(⟨some ⟨ai,0,none⟩,0,5,1,0,[]⟩:Rw) = brow (some ⟨ai,0,none⟩) 0 5 ([]:Bs):=by first | rfl | (simp only [brow,bc,List.map,qby]; try rfl)
 obtain ⟨ag,cu⟩:=aZ.rowEq 2 [brow aa ab 5 (qaO 8 sJoinGroupResponseF qaf (Int.tmod x (9 + 1)) (Tree.mk n1 s2 b3 l4 u5)),brow ac ae 5 (dst ++ (qaO 8 sJoinGroupResponseF qaf (Int.tmod x (9 + 1)) (Tree.mk n1 s2 b3 l4 u5))),brow (some ⟨ai,0,none⟩) 0 5 ([]:Bs)] bd
 have bf:=EnvOk.pick ba (ks:=[1,10,43,44,45]) (env':=[(1,.v (.slice A1 dst.length c1)),(10,.v (.slice aa ((qaO 8 sJoinGroupResponseF qaf (Int.tmod x (9 + 1)) (Tree.mk n1 s2 b3 l4 u5)).length) ab)),(43,.v (.bool true)),(44,.v (.slice ac ((dst ++ (qaO 8 sJoinGroupResponseF qaf (Int.tmod x (9 + 1)) (Tree.mk n1 s2 b3 l4 u5))).length) ae)),(45,.v (.slice (some ⟨ai,0,none⟩) 0 0))]) kz
 have bg:=bf.cast (env':=[(1,.v (.slice A1 dst.length c1)),(10,.v (.slice aa ((qaO 8 sJoinGroupResponseF qaf (Int.tmod x (9 + 1)) (Tree.mk n1 s2 b3 l4 u5)).length) ab)),(43,.v (.bool true)),(44,.v (.slice ac ((dst ++ (qaO 8 sJoinGroupResponseF qaf (Int.tmod x (9 + 1)) (Tree.mk n1 s2 b3 l4 u5))).length) ae)),(45,.v (.slice (some ⟨ai,0,none⟩) (([]:Bs).length) 0))]) rfl
 refine qaj [4] [5,6,7,8,9,10] [(10,.v (.slice aa ((qaO 8 sJoinGroupResponseF qaf (Int.tmod x (9 + 1)) (Tree.mk n1 s2 b3 l4 u5)).length) ab)),(43,.v (.bool true)),(44,.v (.slice ac ((dst ++ (qaO 8 sJoinGroupResponseF qaf (Int.tmod x (9 + 1)) (Tree.mk n1 s2 b3 l4 u5))).length) ae)),(45,.v (.slice (some ⟨ai,0,none⟩) (([]:Bs).length) 0)),(46,.v (.slice A1 dst.length c1))] ag bg fun de bh=>?_
 refine qak (qaP ag bh (k:=2) (d:=47) (t:=22) (e:=5) (size:=1) (bytes:=1) (A:=some ⟨ai,0,none⟩) (As:=A1) (m0:=(([]:Bs).length)) (c:=0) (m:=dst.length) (cs:=c1) (xs:=(bc ([]:Bs))) (news:=bc dst) kz kz rfl (hd.move ag.step nilM ag.imm).src (hd.move ag.step nilM ag.imm).cap (by first | omega | (simp only [List.length_nil,List.length_append]; omega) | (simp; omega)) fun aj ak df dg cv bi bj=>?_)
 have bk:(⟨aj,ak,5,1,([]:Bs).length + dst.length,bc ([]:Bs) ++ bc dst⟩:Rw) = brow aj ak 5 (([]:Bs) ++ dst):=qa8 (rfl) rfl
 obtain ⟨am,cw⟩:=bi.rowEq 2 [brow aa ab 5 (qaO 8 sJoinGroupResponseF qaf (Int.tmod x (9 + 1)) (Tree.mk n1 s2 b3 l4 u5)),brow ac ae 5 (dst ++ (qaO 8 sJoinGroupResponseF qaf (Int.tmod x (9 + 1)) (Tree.mk n1 s2 b3 l4 u5))),brow aj ak 5 (([]:Bs) ++ dst)] bk
 have bn:=EnvOk.pick bj (ks:=[10,43,44,45,46,47]) (env':=[(10,.v (.slice aa ((qaO 8 sJoinGroupResponseF qaf (Int.tmod x (9 + 1)) (Tree.mk n1 s2 b3 l4 u5)).length) ab)),(43,.v (.bool true)),(44,.v (.slice ac ((dst ++ (qaO 8 sJoinGroupResponseF qaf (Int.tmod x (9 + 1)) (Tree.mk n1 s2 b3 l4 u5))).length) ae)),(45,.v (.slice (some ⟨ai,0,none⟩) (([]:Bs).length) 0)),(46,.v (.slice A1 dst.length c1)),(47,.v (.slice aj (([]:Bs).length + dst.length) ak))]) kz
 have bo:=bn.cast (env':=[(10,.v (.slice aa ((qaO 8 sJoinGroupResponseF qaf (Int.tmod x (9 + 1)) (Tree.mk n1 s2 b3 l4 u5)).length) ab)),(43,.v (.bool true)),(44,.v (.slice ac ((dst ++ (qaO 8 sJoinGroupResponseF qaf (Int.tmod x (9 + 1)) (Tree.mk n1 s2 b3 l4 u5))).length) ae)),(45,.v (.slice (some ⟨ai,0,none⟩) (([]:Bs).length) 0)),(46,.v (.slice A1 dst.length c1)),(47,.v (.slice aj ((([]:Bs) ++ dst).length) ak))]) (by simp only [List.length_append,List.length_cons,List.length_nil,Nat.zero_add])
 refine qaj [6] [7,8,9,10] [(43,.v (.bool true)),(44,.v (.slice ac ((dst ++ (qaO 8 sJoinGroupResponseF qaf (Int.tmod x (9 + 1)) (Tree.mk n1 s2 b3 l4 u5))).length) ae)),(47,.v (.slice aj ((([]:Bs) ++ dst).length) ak)),(48,.v (.slice aa ((qaO 8 sJoinGroupResponseF qaf (Int.tmod x (9 + 1)) (Tree.mk n1 s2 b3 l4 u5)).length) ab))] am bo fun dh bp=>?_
 refine qak (qaP am bp (k:=2) (d:=49) (t:=22) (e:=5) (size:=1) (bytes:=1) (A:=aj) (As:=aa) (m0:=((([]:Bs) ++ dst).length)) (c:=ak) (m:=((qaO 8 sJoinGroupResponseF qaf (Int.tmod x (9 + 1)) (Tree.mk n1 s2 b3 l4 u5)).length)) (cs:=ab) (xs:=(bc (([]:Bs) ++ dst))) (news:=bc (qaO 8 sJoinGroupResponseF qaf (Int.tmod x (9 + 1)) (Tree.mk n1 s2 b3 l4 u5))) kz kz rfl (qci (am.own 0 _ rfl) (qcQ _)) (qcy (am.own 0 _ rfl)) (by first | omega | (simp only [List.length_nil,List.length_append]; omega) | (simp; omega)) fun ar au di dj cy bq bt=>?_)
 have bu:(⟨ar,au,5,1,(([]:Bs) ++ dst).length + (qaO 8 sJoinGroupResponseF qaf (Int.tmod x (9 + 1)) (Tree.mk n1 s2 b3 l4 u5)).length,bc (([]:Bs) ++ dst) ++ bc (qaO 8 sJoinGroupResponseF qaf (Int.tmod x (9 + 1)) (Tree.mk n1 s2 b3 l4 u5))⟩:Rw) = brow ar au 5 (([]:Bs) ++ dst ++ (qaO 8 sJoinGroupResponseF qaf (Int.tmod x (9 + 1)) (Tree.mk n1 s2 b3 l4 u5))):=qa8 (rfl) rfl
 obtain ⟨ao,cz⟩:=bq.rowEq 2 [brow aa ab 5 (qaO 8 sJoinGroupResponseF qaf (Int.tmod x (9 + 1)) (Tree.mk n1 s2 b3 l4 u5)),brow ac ae 5 (dst ++ (qaO 8 sJoinGroupResponseF qaf (Int.tmod x (9 + 1)) (Tree.mk n1 s2 b3 l4 u5))),brow ar au 5 (([]:Bs) ++ dst ++ (qaO 8 sJoinGroupResponseF qaf (Int.tmod x (9 + 1)) (Tree.mk n1 s2 b3 l4 u5)))] bu
 have bw:=EnvOk.pick bt (ks:=[43,44,47,48,49]) (env':=[(43,.v (.bool true)),(44,.v (.slice ac ((dst ++ (qaO 8 sJoinGroupResponseF qaf (Int.tmod x (9 + 1)) (Tree.mk n1 s2 b3 l4 u5))).length) ae)),(47,.v (.slice aj ((([]:Bs) ++ dst).length) ak)),(48,.v (.slice aa ((qaO 8 sJoinGroupResponseF qaf (Int.tmod x (9 + 1)) (Tree.mk n1 s2 b3 l4 u5)).length) ab)),(49,.v (.slice ar ((([]:Bs) ++ dst).length + (qaO 8 sJoinGroupResponseF qaf (Int.tmod x (9 + 1)) (Tree.mk n1 s2 b3 l4 u5)).length) au))]) kz
 have bx:=bw.cast (env':=[(43,.v (.bool true)),(44,.v (.slice ac ((dst ++ (qaO 8 sJoinGroupResponseF qaf (Int.tmod x (9 + 1)) (Tree.mk n1 s2 b3 l4 u5))).length) ae)),(47,.v (.slice aj ((([]:Bs) ++ dst).length) ak)),(48,.v (.slice aa ((qaO 8 sJoinGroupResponseF qaf (Int.tmod x (9 + 1)) (Tree.mk n1 s2 b3 l4 u5)).length) ab)),(49,.v (.slice ar ((([]:Bs) ++ dst ++ (qaO 8 sJoinGroupResponseF qaf (Int.tmod x (9 + 1)) (Tree.mk n1 s2 b3 l4 u5))).length) au))]) (by simp only [List.length_append,List.length_cons,List.length_nil,Nat.zero_add])
 refine qak (qal bx (f:=11) (vs:=[.slice ac ((dst ++ (qaO 8 sJoinGroupResponseF qaf (Int.tmod x (9 + 1)) (Tree.mk n1 s2 b3 l4 u5))).length) ae,.slice ar ((([]:Bs) ++ dst ++ (qaO 8 sJoinGroupResponseF qaf (Int.tmod x (9 + 1)) (Tree.mk n1 s2 b3 l4 u5))).length) au]) (d:=50) kz Tryz.call11 (qlv _ _ _ _ (dst ++ (qaO 8 sJoinGroupResponseF qaf (Int.tmod x (9 + 1)) (Tree.mk n1 s2 b3 l4 u5))) (([]:Bs) ++ dst ++ (qaO 8 sJoinGroupResponseF qaf (Int.tmod x (9 + 1)) (Tree.mk n1 s2 b3 l4 u5))) _ _ (qdq (ao.own 1 _ rfl) (by first | omega | (rw [qbH]; decide) | (simp only [be_length]; exact Nat.le_trans (qbB _) (by decide)) | (have:=hroom; omega) | (have:=hmade; omega) | (simp only [List.length_append,List.length_nil]; omega)) (F:=fun _ _=>True) (fun _ _ _=>trivial)) (qdq (ao.own 2 _ rfl) (by first | omega | (rw [qbH]; decide) | (simp only [be_length]; exact Nat.le_trans (qbB _) (by decide)) | (have:=hroom; omega) | (have:=hmade; omega) | (simp only [List.length_append,List.length_nil]; omega)) (F:=fun _ _=>True) (fun _ _ _=>trivial))) ?_)
 rintro e_ dl ⟨rfl,aB⟩
 refine ⟨_,rfl,fun dp bz=>?_⟩
 have ax:=ao.next_nil aB
 have cA:=ao.frN aB
 refine qaj [9,10] [] [(6,.v (.bool (decide (dst ++ (qaO 8 sJoinGroupResponseF qaf (Int.tmod x (9 + 1)) (Tree.mk n1 s2 b3 l4 u5)) = ([]:Bs) ++ dst ++ (qaO 8 sJoinGroupResponseF qaf (Int.tmod x (9 + 1)) (Tree.mk n1 s2 b3 l4 u5))))))] ax bz fun dq bA=>?_
 refine qad (qaa ?_)
 refine wp_ret ?_
 refine qaG bA ax.cells (v:=.bool (decide (dst ++ (qaO 8 sJoinGroupResponseF qaf (Int.tmod x (9 + 1)) (Tree.mk n1 s2 b3 l4 u5)) = ([]:Bs) ++ dst ++ (qaO 8 sJoinGroupResponseF qaf (Int.tmod x (9 + 1)) (Tree.mk n1 s2 b3 l4 u5))))) kz ?_
 exact ⟨by simp,ax.step⟩
theorem qc7 (x:Int) (hx:0 ≤ x ∧ x ≤ 255) (dst:Bs) {A1:Option Addr} {c1:Nat} (ct:List Value) (t:Tree) (w:World) (F:Nat → Nat → Prop) (hd:Octs w F A1 c1 dst) (hdl:dst.length ≤ 1048576) (ht:TreeR w F ct t) (hsz:t.size ≤ 8388608):Calls Tryz.prog 4 #[.int .u8 x,.slice A1 dst.length c1,.agg ct.toArray] w (qcp w (.bool true)):=by
 obtain ⟨g0,g1⟩:=qlr (m:=9 + 1) hx.1 hx.2 (by decide) (by decide)
 have hp:qai (IntKind.i16.wrap (Int.tmod x (9 + 1))) (fitT (Int.tmod x (9 + 1)) 8 sJoinGroupResponseF t) = qaO 8 sJoinGroupResponseF qaf (Int.tmod x (9 + 1)) t:=by rw [qiZ g0 g1]; exact qdl (Int.tmod x (9 + 1)) g0 g1 t
 have h1:=qi7 8 sJoinGroupResponseF qaf (Int.tmod x (9 + 1)) t
 have h2:qg2 sJoinGroupResponseF ≤ 131000:=by decide +kernel
 have h3:=Nat.mul_le_mul h2 hsz
 exact qdH x hx.1 (by omega) dst ct t w F hd hdl ht (by omega) (by omega) (qcZ (Int.tmod x (9 + 1)) t) (qh6 _ _ _ _ ht.ranged) hp
end Go.Proofs.YtdlaobdadlmcdabGreatDoor.ME
namespace Go.Proofs.YtdlaobdadlmcdabGreatDoor.ME
open Go
open Go.ChangeShapes Go.WideShapes Go.ChangeAt Go.RowKit
set_option linter.unusedVariables false
set_option linter.unusedSimpArgs false
theorem qkd:ownKnob Tryz.prog.godebug = none:=by kernel_rfl
theorem qke:laidOutB Tryz.prog = true:=by kernel_rfl
theorem qjx:TreeTys Tryz.prog 26 23 24 57 22 2 4 55 5:=⟨kz,kz,kz,kz,kz,kz,kz,kz,kz,kz⟩
theorem qic {H:Type} {enc:TypeId × Value → H} {P:Program} {W:World} {base b':Nat} {sp:Nat → Bool} {hd:Bool} {t0 t1 t2:TypeId} {v0 v1 v2:Value} {d0:DataW H} {p0:List MemPlace} (hu:P.underlying t0 = some (.int .u8))
  (hval:∀ (j:Nat) (t:TypeId) (v:Value),#[t0,t1,t2][j]? = some t → #[v0,v1,v2][j]? = some v → Value.okWide P W .any base t v) (h:DataW.Trod enc P W b' sp hd t0 v0 d0 p0):∃ x,v0 = .int .u8 x ∧ d0 = .lit (.int .u8 x) ∧ p0 = [] ∧ (Lit.int .u8 x).wf = true :=
 open_int hu (hval 0 t0 v0 rfl rfl) h
theorem qlQ {v:Value} {cs:List Value} (h:v.cells.toList = cs) (h5:cs.length = 5):v = .agg cs.toArray:=by
 subst h
 cases v <;> first | (simp [Value.cells] at h5; done) | simp [Value.cells]
theorem qkf {A:Option Addr} {n c:Nat} {a:Option Addr} {l k:Nat} (h:(Value.slice a l k).cells.toList = [.slice A n c]):Value.slice a l k = .slice A n c:=by
 simpa [Value.cells] using h
set_option maxRecDepth 100000 in
theorem qjy (H:Type) (enc:TypeId × Value → H) (W:World) (base:Nat) (args:Array Value) (ds gs:List (DataW H)) (before:List MemPlace)
  (hval:∀ (j:Nat) t v,Tryz.f4.params[j]? = some t → args[j]? = some v → Value.okWide Tryz.prog W .any base t v)
  (hW:DataW.Whole enc Tryz.prog Tryz.f4.params.toList Rows.fnBehindJoinGroupResponseSpec.vars false W args.toList ds gs before) (hk:Rows.uptoSmall H (ds ++ gs) = true) :
  Calls Tryz.prog 4 args W fun e W'=>∃ v,e = .returned v ∧ Rows.fnBehindJoinGroupResponseSpec.post enc Tryz.prog Tryz.f4 false true false false W args v W':=by
 have hW':=hW
 obtain ⟨p,q,hA0,hV,rfl,hfz,hnd⟩:=hW
 have hA:DataW.TrodAll enc Tryz.prog W 0 (fun _=>true) true Tryz.f4.params.toList args.toList ds p:=hA0
 rw [Tryz.params4] at hA hval
 obtain ⟨v0,v1,v2,d0,d1,d2,p0,p1,p2,rfl,rfl,rfl,h0,h1,h2⟩:=trodAll_three hA
 obtain ⟨rfl,rfl⟩:=trodVars_none hV
 obtain ⟨x,rfl,rfl,rfl,w0⟩:=qic Tryz.underlying5 @hval h0
 have hx:0 ≤ x ∧ x ≤ 255:=by simpa [Lit.wf,IntKind.min,IntKind.max,IntKind.signed,IntKind.bits] using w0
 have hb:Rows.uptoBulk d1 ≤ 1048576 ∧ Rows.uptoBulk d2 ≤ 1048576:=by
  have h:Rows.uptoBulkAll ([DataW.lit (H:=H) (.int .u8 x),d1,d2] ++ []) ≤ 1048576:=of_decide_eq_true hk
  simp only [List.append_nil,Rows.uptoBulkAll] at h
  omega
 obtain ⟨fuel1,hf1⟩:=h1
 obtain ⟨A1,c1,dst,hcs1,hd,hdl⟩:=qfg qjx hf1 hb.1
 obtain ⟨a1_,l1_,k1_,rfl⟩:=okWide_slice Tryz.underlying22 (hval 1 22 v1 rfl rfl)
 have hv1:=qkf hcs1
 rw [hv1] at hW' hval ⊢
 obtain ⟨fuel,hf⟩:=h2
 obtain ⟨t,ht,hsz⟩:=qja qjx fuel _ _ hf hb.2
 have hdl':dst.length ≤ 1048576:=Nat.le_trans hdl hb.1
 replace hsz:t.size ≤ 8388608:=Nat.le_trans hsz (by show 8 * Rows.uptoBulk d2 ≤ 8388608; omega)
 have hagg:=qlQ rfl (TreeR.five ht)
 generalize v2.cells.toList = ct at ht hagg
 subst hagg
 clear hf hf1
 refine (qc7 x hx dst _ t W (fun _ _=>True) hd hdl' ht hsz).mono fun e W' h=>?_
 obtain ⟨rfl,hs⟩:=h
 exact ⟨_,rfl,qjb hW' hs qke (by rw [Tryz.params4]; decide +kernel) rfl rfl rfl (fun _ _ _=>trodAll_cons_mk (shut_bool Tryz.underlying4 _) trodAll_mk0)⟩
theorem qkg (os:Os) (args:Array Value):laidMetH Tryz.prog Rows.fnBehindJoinGroupResponseUptoRow.laid ((World.doorLaid Tryz.prog 400 os).forCall (fun _ _=>0) ⟨#[],args,[]⟩).memory :=
 laidMetH_of_parts3 (fuel:=8) (laidMet_of_run' 8 kz kz) kz kz
set_option maxRecDepth 100000 in
theorem qkh (os:Os) (H:Type) (enc:TypeId × Value → H):∃ (w:World) (tape:Tape) (i:Input),w.os = os ∧ (w.forCall tape i).Shaped Tryz.prog ∧ i.vars = [] ∧ Input.okWide Tryz.prog (w.forCall tape i) .any w.heap.size 4 i ∧
      (((Rows.OpenSpec.upto Rows.fnBehindJoinGroupResponseSpec).pre enc Tryz.prog Tryz.f4 Rows.fnBehindJoinGroupResponseUptoRow.domain false (w.forCall tape i).memory i.args ∧ laidMetH Tryz.prog Rows.fnBehindJoinGroupResponseUptoRow.laid (w.forCall tape i).memory) ∧ sizedMet enc Tryz.prog Tryz.f4 (Rows.OpenSpec.upto Rows.fnBehindJoinGroupResponseSpec) false (w.forCall tape i).memory i.args) ∧
      ({}:Assume).holds Tryz.prog (lone (Frame.enter Tryz.prog 4 i.args .normal) [] (w.forCall tape i)):=by
  have hok:Input.okWideB Tryz.prog ((World.doorLaid Tryz.prog 400 os).forCall (fun _ _=>0) ⟨#[],#[.int .u8 0,.slice none 0 0,.agg #[.int .i64 0,.slice none 0 0,.bool false,.slice none 0 0,.slice none 0 0]],[]⟩) 4 ⟨#[],#[.int .u8 0,.slice none 0 0,.agg #[.int .i64 0,.slice none 0 0,.bool false,.slice none 0 0,.slice none 0 0]],[]⟩ = true:=by kernel_rfl
  refine ⟨World.doorLaid Tryz.prog 400 os,fun _ _=>0,⟨#[],#[.int .u8 0,.slice none 0 0,.agg #[.int .i64 0,.slice none 0 0,.bool false,.slice none 0 0,.slice none 0 0]],[]⟩,rfl,World.shaped_of_RefB kz kz,(Input.okWide_of_okWideB (base:=0) hok).1,(Input.okWide_of_okWideB hok).2,
    ⟨⟨(OpenSpec.pre_some (k:=Rows.uptoSmall) rfl _ _ _ _).2 ⟨[.lit (.int .u8 0),.nil,.agg [.lit (.int .i64 0),.nil,.lit (.bool false),.nil,.nil]],[],[],DataW.Whole_of_whole (fuel:=8) (x:=([.lit (.int .u8 0),.nil,.agg [.lit (.int .i64 0),.nil,.lit (.bool false),.nil,.nil]],[],[])) kz,rfl,kz⟩,qkg os _⟩,sizedMet_of_sizedB (s:=(Rows.OpenSpec.upto Rows.fnBehindJoinGroupResponseSpec).bare) (fuel:=8) kz⟩,?_⟩
  simp only [Assume.holds]
  exact ⟨by simp,by simp,by simp,by simp,by simp⟩
set_option maxRecDepth 100000 in
theorem qlc (os:Os) (started:os.Started) (H:Type) (enc:TypeId × Value → H) (F:Stop.Interp) :
  ReturnsInHanded {} Tryz.checked os 4 .any (fun w args=>((Rows.OpenSpec.upto Rows.fnBehindJoinGroupResponseSpec).pre enc Tryz.prog Tryz.f4 Rows.fnBehindJoinGroupResponseUptoRow.domain false w args ∧ laidMetH Tryz.prog Rows.fnBehindJoinGroupResponseUptoRow.laid w) ∧ sizedMet enc Tryz.prog Tryz.f4 (Rows.OpenSpec.upto Rows.fnBehindJoinGroupResponseSpec) false w args) (((Rows.OpenSpec.upto Rows.fnBehindJoinGroupResponseSpec).at F).post enc Tryz.prog Tryz.f4 false true false false):=by
 refine returnsInHanded_of_calls qkd started kz (qkh os H enc) ?_
 intro w tape i _ _ _ hok hpre hholds
 obtain ⟨_,_,_,fn',hfn',_,_,_,_,hval⟩:=hok
 have e:fn' = Tryz.f4:=Option.some.inj (hfn'.symm.trans Tryz.func4)
 subst e
 obtain ⟨ds,gs,before,hw,hc,hkk⟩:=(OpenSpec.pre_some (k:=Rows.uptoSmall) rfl _ _ _ _).1 hpre.1.1
 have hw':=DataW.Whole.of_heap (w':=w.forCall tape i) (by rfl) hw
 refine (qjy H enc (w.forCall tape i) w.heap.size i.args ds gs before hval hw' hkk).mono fun e W' ⟨v,he,hp⟩=>?_
 subst he
 exact ChangeSpec.post_blind hp
theorem holds_:Rows.FnBehindJoinGroupResponseUptoSaid :=
 OpenClaim.holds_of_cond 4 Tryz.f4 rfl rfl rfl rfl rfl rfl rfl ⟨rfl,rfl,rfl,rfl,rfl⟩ rfl rfl rfl rfl rfl kz Tryz.func4 kz
  (of_decide_eq_true kz) (by unfold Func.isWrapper; first | (rw [if_pos (by decide +kernel)]; kernel_rfl) | (rw [if_neg (by decide +kernel)]; exact ⟨rfl,rfl⟩))
  (fun os started H enc _ F=>qlc os started H enc F)
end Go.Proofs.YtdlaobdadlmcdabGreatDoor.ME
namespace Go.Proofs.YtdlaobdadlmcdabGreatDoor
open Go
theorem fnBehindJoinGroupResponse_holds:Rows.FnBehindJoinGroupResponseUptoCardSaid :=
 Claim7.holds_tied_plain_at .later [] [.sentinel] true (true, "60e9bd99ee29f31f378c6901b264c1f4261ffb8bc59ee449cf9f6687f996d449") false ME.holds_ (fun _ h => by cases h) (by kernel_rfl) (fun _ h => by cases h) fnBehindJoinGroupResponseUpto_row_tie rfl ⟨rfl, rfl⟩ (by kernel_rfl) rfl
  (fun f fn hf hfn=>by
   obtain rfl : f = 4 := Option.some.inj ((show Tryz.prog.funcNamed "pub-mailsack/laws.FnBehindJoinGroupResponse" = some 4 by kernel_rfl).symm.trans hf) |>.symm
   obtain rfl:fn = Tryz.f4:=(Option.some.inj (Tryz.func4.symm.trans hfn)).symm
   exact ⟨by kernel_rfl,fun j t ht=>by
    rw [Tryz.params4] at ht
    have hm:t ∈ [5,22,26]:=by simpa using Array.mem_of_getElem? ht
    have hall:([5,22,26].all fun u=>!Tryz.prog.wantsStandIn u) = true:=by kernel_rfl
    exact (show Tryz.prog.wantsStandIn t = false by simpa using List.all_eq_true.1 hall t hm)⟩)
  (by kernel_rfl)
end Go.Proofs.YtdlaobdadlmcdabGreatDoor