/- The texts of a claim, put together: the engine, the contracts, the law. Own work. -/
import Derived.Test.YtogokkkdfcgncaaGreatDoorWf3P5
namespace Go.Proofs.YtogokkkdfcgncaaGreatDoor.ME
open Go
open Go.RowKit
set_option linter.unusedVariables false
set_option linter.unusedSimpArgs false
set_option maxRecDepth 20000
theorem qcP (w:World):Calls Tryz.prog 32 #[] w (qcz w (.int .i64 4)):=by
 refine enter (n:=4) Tryz.func32 rfl Tryz.ntmps32 kz fun a hE=>?_
 have hW:=WOk.start w Nil
 refine qas [] hW hE fun a1 hE2=>?_
 refine qae [0,1,2,3] kz ?_
 refine qam (qa6 hE2 (f:=67) (vs:=[]) (d:=1) (n':=3) kz Tryz.call67 Tryz.func67 rfl Tryz.ntmps67 kz fun a3 hE4=>?_)
 refine qas [] hW hE4 fun a5 hE6=>?_
 refine qae [0] kz ?_
 refine qam (qbe hW hE6 (d:=1) (cs:=[.int .i16 0,.int .i32 0,.slice none 0 0,.map none]) kz fun b7 a8 w9 aA aB aC ab ac=>?_)
 refine qaf (qab ?_)
 refine qae [0] kz ?_
 refine qam (qa6 ac (f:=102) (vs:=[.pointer (some ⟨b7,0,none⟩)]) (d:=2) (n':=5) kz Tryz.call102 Tryz.func102 rfl Tryz.ntmps102 kz fun aE ae=>?_)
 have af:=ae.recast 0 (.v (.pointer (some ⟨b7,0,none⟩))) (.p 0 0) rfl rfl (Nat.le_of_ble_eq_true (n:=1) rfl)
 refine qar [0,1,2,3] kz ?_
 refine qaj [0,1,2] [3] [(4,.p 0 1)] ab af fun aF ag=>?_
 refine qam (qaP ab ag (oi:=0) (cs:=[.int .i16 0,.int .i32 (-2),.slice none 0 0,.map none]) kz fun aG aD aa ah=>?_)
 refine qaf ?_
 refine qce ah aa.cells (v:=.tuple #[]) kz ?_
 refine ⟨_,rfl,fun aH ai=>?_⟩
 have aj:=(EnvOk.places (tb':=[⟨b7,0,[.int .i16 0,.int .i32 (-2),.slice none 0 0,.map none],true⟩]) ai (show Pl [⟨b7,0,[.int .i16 0,.int .i32 0,.slice none 0 0,.map none],true⟩] [⟨b7,0,[.int .i16 0,.int .i32 (-2),.slice none 0 0,.map none],true⟩] from ⟨rfl,rfl,trivial⟩)).pk (env':=[(2,.v (.tuple #[])),(1,.p 0 0)])
 refine qaf (qab ?_)
 refine qas [(0,.p 0 0)] aa aj fun aI ak=>?_
 refine wp_ret ?_
 refine qaE ak aa.cells (v:=.pointer (some ⟨b7,0,none⟩)) kz ?_
 refine ⟨_,rfl,fun aJ al=>?_⟩
 have am:=(EnvOk.places (tb':=[⟨b7,0,[.int .i16 0,.int .i32 (-2),.slice none 0 0,.map none],true⟩]) al (show Pl [] [⟨b7,0,[.int .i16 0,.int .i32 (-2),.slice none 0 0,.map none],true⟩] from trivial)).pk (env':=[(1,.v (.pointer (some ⟨b7,0,none⟩)))])
 have ao:=am.recast 1 (.v (.pointer (some ⟨b7,0,none⟩))) (.p 0 0) rfl rfl (Nat.le_of_ble_eq_true (n:=1) rfl)
 have ap:=ao.pick (ks:=[1]) (env':=[(1,.p 0 0)]) kz
 refine qam (qa6 ap (f:=68) (vs:=[.pointer (some ⟨b7,0,none⟩)]) (d:=2) (n':=3) kz Tryz.call68 Tryz.func68 rfl Tryz.ntmps68 kz fun aK ar=>?_)
 have au:=ar.recast 0 (.v (.pointer (some ⟨b7,0,none⟩))) (.p 0 0) rfl rfl (Nat.le_of_ble_eq_true (n:=1) rfl)
 refine qas [] aa au fun aL av=>?_
 refine qas [(2,.v (.int .i16 4))] aa av fun aM aw=>?_
 refine wp_ret ?_
 refine qaE aw aa.cells (v:=.int .i16 4) kz ?_
 refine ⟨_,rfl,fun aN ax=>?_⟩
 have ay:=(EnvOk.places (tb':=[⟨b7,0,[.int .i16 0,.int .i32 (-2),.slice none 0 0,.map none],true⟩]) ax (show Pl [⟨b7,0,[.int .i16 0,.int .i32 (-2),.slice none 0 0,.map none],true⟩] [⟨b7,0,[.int .i16 0,.int .i32 (-2),.slice none 0 0,.map none],true⟩] from ⟨rfl,rfl,trivial⟩)).pk (env':=[(2,.v (.int .i16 4)),(1,.p 0 0)])
 refine qaj [2,3] [] [(0,.v (.int .i64 4))] aa ay fun aO az=>?_
 refine qaf (qab ?_)
 refine wp_ret ?_
 refine qaE az aa.cells (v:=.int .i64 4) kz ?_
 exact ⟨rfl,aa.step⟩
theorem qcp:depths sOffsetForLeaderEpochRequestF ≤ 8:=by simp [sOffsetForLeaderEpochRequestF,Fld.depth.depths,Fld.depth]
theorem qb1 (A:Option Addr) (c:Nat) (v:Int) (w:World):Calls Tryz.prog 19 #[.agg #[.slice A sOffsetForLeaderEpochRequestF.length c,.int .i64 qad],.int .i64 v] w (qcz w (.bool (decide (v ≥ qad)))):=by
 refine enter (n:=14) Tryz.func19 rfl Tryz.ntmps19 kz fun a hE=>?_
 have hW:=WOk.start w Nil
 refine qae [0,1] kz ?_
 refine qam (qbh hW hE (d:=2) (cs:=[.slice A sOffsetForLeaderEpochRequestF.length c,.int .i64 qad]) kz fun b1 a2 w3 hb4 hz5 hF6 hW7 hE8=>?_)
 refine qaj [1] [] [(1,.v (.int .i64 v)),(2,.p 0 0)] hW7 hE8 fun a9 aa=>?_
 refine qaf (qab ?_)
 refine qae [0,1,2,3,4,5,6,7,8,9] kz ?_
 refine qaj [0,1,2,3] [4,5,6,7,8,9] [(1,.v (.int .i64 v)),(2,.p 0 0),(8,.v (.bool (decide (qad ≥ 0))))] hW7 aa fun ag ab=>?_
 have ac:(decide (qad ≥ 0)) = true:=by decide
 have ae:=ab.cast (env':=[(1,.v (.int .i64 v)),(2,.p 0 0),(8,.v (.bool true))]) (by rw [ac])
 refine qaj [4,5,6,7,8,9] [] [(4,.v (.bool (decide (v ≥ qad))))] hW7 ae fun ah af=>?_
 refine qaf (qab ?_)
 refine wp_ret ?_
 refine qaE af hW7.cells (v:=.bool (decide (v ≥ qad))) kz ?_
 exact ⟨rfl,hW7.step⟩
set_option maxHeartbeats 4000000 in
theorem qcI (x:Int) (hx:0 ≤ x) (hx':x < 256) (has:Bool) (txt:ByteArray) (htl:txt.size ≤ 1048576) (num:Int) (ct:List Value) (t:Tree) (w:World) (F:Nat → Nat → Prop) (ht:TreeR w F ct t) (hroom1:(qba 8 sOffsetForLeaderEpochRequestF qad (Int.tmod x (4 + 1)) t).length + 1048700 ≤ 1099511627776) (hcan:qaS (fitT (Int.tmod x (4 + 1)) 8 sOffsetForLeaderEpochRequestF t)) (hkey:Tree.ranged (fitT (Int.tmod x (4 + 1)) 8 sOffsetForLeaderEpochRequestF t)) (hfr:(qa7 23 (IntKind.i16.wrap (Int.tmod x (4 + 1))) num has (sb txt) (decide ((IntKind.i16.wrap (Int.tmod x (4 + 1))) ≥ 4)) (qba 8 sOffsetForLeaderEpochRequestF qad (Int.tmod x (4 + 1)) t)) = (qa7 23 (Int.tmod x (4 + 1)) num has (sb txt) (decide ((Int.tmod x (4 + 1)) ≥ qad)) (qba 8 sOffsetForLeaderEpochRequestF qad (Int.tmod x (4 + 1)) t))) (hpure:qag (IntKind.i16.wrap (Int.tmod x (4 + 1))) (fitT (Int.tmod x (4 + 1)) 8 sOffsetForLeaderEpochRequestF t) = qba 8 sOffsetForLeaderEpochRequestF qad (Int.tmod x (4 + 1)) t) :
  Calls Tryz.prog 8 #[.int .u8 x,.agg #[.bool has,.string txt],.int .i32 num,.agg ct.toArray] w (qcz w (.bool true)):=by
 obtain ⟨n1,s2,b3,l4,u5,A6,c7,A8,c9,aX,aY,db,rfl,rfl,dc,de,ef,eg⟩:=ht.open_
 have cU:=dc.small
 have cV:=de.small
 refine enter (n:=63) Tryz.func8 rfl Tryz.ntmps8 kz fun a hE=>?_
 have hW:=WOk.start w Nil
 refine qae [0,1,2] kz ?_
 refine qam (qbh hW hE (d:=5) (cs:=[.bool has,.string txt]) kz fun df eh ei dg dh di cu cv=>?_)
 refine qam (qbh cu cv (d:=7) (cs:=[.int .i64 n1,.slice A6 s2.length c7,.bool b3,.slice A8 l4.length c9,.slice aX u5.length aY]) kz fun dj ej ek dl dp dq aD cw=>?_)
 refine qaj [2] [] [(0,.v (.int .u8 x)),(2,.v (.int .i32 num)),(5,.p 0 0),(7,.p 1 0)] aD cw fun em cz=>?_
 refine qaf (qab ?_)
 refine wp_seq ?_
 refine qae [0,1,2,3,4,5,6,7] kz ?_
 refine qaj [0] [1,2,3,4,5,6,7] [(0,.v (.int .u8 x)),(2,.v (.int .i32 num)),(5,.p 0 0),(7,.p 1 0),(15,.v (.agg #[.bool has,.string txt]))] aD cz fun eo cA=>?_
 refine qam (qal cA (f:=10) (vs:=[.agg #[.bool has,.string txt]]) (d:=16) kz Tryz.call10 (qlP _ _ htl _) ?_)
 rintro e_ ep ⟨rfl,aZ⟩
 refine ⟨_,rfl,fun eu cB=>?_⟩
 have ap:=aD.next_nil aZ
 have dr:=aD.frN aZ
 refine qaj [2,3,4] [5,6,7] [(0,.v (.int .u8 x)),(2,.v (.int .i32 num)),(5,.p 0 0),(7,.p 1 0),(18,.v (.bool false)),(19,.v (.agg #[.int .i64 n1,.slice A6 s2.length c7,.bool b3,.slice A8 l4.length c9,.slice aX u5.length aY]))] ap cB fun ev cC=>?_
 refine qam (qal cC (f:=11) (vs:=[.agg #[.int .i64 n1,.slice A6 s2.length c7,.bool b3,.slice A8 l4.length c9,.slice aX u5.length aY]]) (d:=20) kz Tryz.call11 (qlO _ _ _ _ (ht.move ap.step nilM ap.imm)) ?_)
 rintro e_ ew ⟨cW,rfl,ba⟩
 refine ⟨_,rfl,fun ey cD=>?_⟩
 have ao:=ap.next_nil ba
 have dt:=ap.frN ba
 refine qaj [6,7] [] [(0,.v (.int .u8 x)),(2,.v (.int .i32 num)),(5,.p 0 0),(7,.p 1 0),(22,.v (.bool (!cW)))] ao cD fun ez aS=>?_
 refine qaf (qab ?_)
 refine qay aS (b:=!cW) kz (fun cE=>?_) (fun cE=>?_)
 ·
  refine qas [(8,.v (.bool true))] ao aS fun eB cG=>?_
  refine wp_ret ?_
  refine qaD ?_
  refine qaE cG ao.cells (v:=.bool true) kz ?_
  exact ⟨rfl,ao.step⟩
 refine wp_skip ?_
 refine qab ?_
 refine qae [0,1] kz ?_
 refine qam (qal aS (f:=32) (vs:=[]) (d:=23) kz Tryz.call32 (qcP _) ?_)
 rintro e_ du ⟨rfl,bd⟩
 refine ⟨_,rfl,fun eC cH=>?_⟩
 have ar:=ao.next_nil bd
 have dv:=ao.frN bd
 refine qaj [1] [] [(0,.v (.int .u8 x)),(2,.v (.int .i32 num)),(5,.p 0 0),(7,.p 1 0),(9,.v (.int .i64 4))] ar cH fun eD cI=>?_
 refine qaf (qab ?_)
 refine wp_seq ?_
 refine qas [(0,.v (.int .u8 x)),(2,.v (.int .i32 num)),(5,.p 0 0),(7,.p 1 0),(9,.v (.int .i64 4)),(25,.v (.bool false))] ar cI fun eE bf=>?_
 refine qat bf (b:=false) kz rfl ?_
 refine wp_skip ?_
 refine qab ?_
 refine qae [0,1,2,3,4,5,6] kz ?_
 refine qam (qal bf (f:=33) (vs:=[]) (d:=26) kz Tryz.call33 (qcO _ (Imm F w du [⟨df,0,[.bool has,.string txt],true⟩,⟨dj,0,[.int .i64 n1,.slice A6 s2.length c7,.bool b3,.slice A8 l4.length c9,.slice aX u5.length aY],true⟩] [])) ?_)
 rintro e_ eF ⟨aT,aU,rfl,cJ,aV⟩
 obtain ⟨cK,dw,dx⟩:=cJ.move (Step.refl _ Nil) nilM (ar.laid (G:=F) aV)
 refine ⟨_,rfl,fun eG cL=>?_⟩
 have aW:=ar.next_nil aV
 have dy:=ar.frN aV
 refine qaj [1,2] [3,4,5,6] [(2,.v (.int .i32 num)),(5,.p 0 0),(7,.p 1 0),(26,.v (.agg #[.slice aT sOffsetForLeaderEpochRequestF.length aU,.int .i64 qad])),(27,.v (.int .u8 x)),(28,.v (.int .i64 4))] aW cL fun eH cM=>?_
 refine qam (qal cM (f:=14) (vs:=[.int .u8 x,.int .i64 4]) (d:=29) kz Tryz.call14 (qki x 4 hx hx' (by decide) (by decide) _) ?_)
 rintro e_ eI ⟨rfl,bg⟩
 refine ⟨_,rfl,fun eJ cN=>?_⟩
 have cO:=aW.next_nil bg
 have aE:=aW.frN bg
 refine qam (qbe cO cN (d:=10) (cs:=[.slice none 0 0,.int .i64 0]) kz fun eK eL eM dz dA aF cP bh=>?_)
 refine qam (qaP cP bh (oi:=2) (cs:=[.slice aT sOffsetForLeaderEpochRequestF.length aU,.int .i64 qad]) kz fun dB ah aa bi=>?_)
 refine qaj [6] [] [(2,.v (.int .i32 num)),(5,.p 0 0),(7,.p 1 0),(10,.p 2 0),(11,.v (.int .i64 (Int.tmod x (4 + 1))))] aa bi fun dC bj=>?_
 refine qaf (qab ?_)
 refine wp_seq ?_
 refine qas [(2,.v (.int .i32 num)),(5,.p 0 0),(7,.p 1 0),(10,.p 2 0),(11,.v (.int .i64 (Int.tmod x (4 + 1)))),(33,.v (.bool (decide ((txt.size:Int) > 32767))))] aa bj fun dD au=>?_
 refine qay au (b:=decide ((txt.size:Int) > 32767)) kz (fun av=>?_) (fun av=>?_)
 ·
  have cX:=of_decide_eq_true av
  refine qas [(8,.v (.bool true))] aa au fun dE bk=>?_
  refine wp_ret ?_
  refine qaD ?_
  refine qaE bk aa.cells (v:=.bool true) kz ?_
  exact ⟨rfl,aa.step⟩
 have cY:=of_decide_eq_false av
 refine wp_skip ?_
 refine qab ?_
 refine qae [0,1,2,3,4] kz ?_
 refine qaj [0,1,2] [3,4] [(2,.v (.int .i32 num)),(5,.p 0 0),(10,.p 2 0),(11,.v (.int .i64 (Int.tmod x (4 + 1)))),(34,.v (.agg #[.slice aT sOffsetForLeaderEpochRequestF.length aU,.int .i64 qad])),(35,.v (.int .i64 (Int.tmod x (4 + 1)))),(36,.v (.agg #[.int .i64 n1,.slice A6 s2.length c7,.bool b3,.slice A8 l4.length c9,.slice aX u5.length aY]))] aa au fun dF bn=>?_
 refine qam (qal bn (f:=15) (vs:=[.agg #[.slice aT sOffsetForLeaderEpochRequestF.length aU,.int .i64 qad],.int .i64 (Int.tmod x (4 + 1)),.agg #[.int .i64 n1,.slice A6 s2.length c7,.bool b3,.slice A8 l4.length c9,.slice aX u5.length aY]]) (d:=37) kz Tryz.call15 (qlC _ _ sOffsetForLeaderEpochRequestF qad (Int.tmod x (4 + 1)) _ (Tree.mk n1 s2 b3 l4 u5) _ _ ⟨cK,(dw.move ((aE.trans aF).trans ah).step immM ((aE.trans aF).trans ah).to'),(fun i_ x_ h_=>((dx i_ x_ h_).move ((aE.trans aF).trans ah).step immM ((aE.trans aF).trans ah).to'))⟩ qcp (ht.move aa.step nilM aa.imm) (Nat.le_trans (Nat.le_add_right _ _) hroom1)) ?_)
 rintro e_ dG ⟨ab,ac,rfl,bo,bp⟩
 refine ⟨_,rfl,fun dH bq=>?_⟩
 obtain ⟨ai,cZ⟩:=aa.frFresh bp (brow ab ac 5 (qba 8 sOffsetForLeaderEpochRequestF qad (Int.tmod x (4 + 1)) (Tree.mk n1 s2 b3 l4 u5))) (Nat.le_refl _) bo
 refine qaj [4] [] [(2,.v (.int .i32 num)),(5,.p 0 0),(10,.p 2 0),(11,.v (.int .i64 (Int.tmod x (4 + 1)))),(12,.v (.slice ab ((qba 8 sOffsetForLeaderEpochRequestF qad (Int.tmod x (4 + 1)) (Tree.mk n1 s2 b3 l4 u5)).length) ac))] ai bq fun dI bt=>?_
 refine qaf (qab ?_)
 refine qae [0,1,2,3,4,5,6,7,8,9] kz ?_
 refine qaj [0,1,2,3] [4,5,6,7,8,9] [(2,.v (.int .i32 num)),(5,.p 0 0),(10,.p 2 0),(11,.v (.int .i64 (Int.tmod x (4 + 1)))),(12,.v (.slice ab ((qba 8 sOffsetForLeaderEpochRequestF qad (Int.tmod x (4 + 1)) (Tree.mk n1 s2 b3 l4 u5)).length) ac)),(39,.v (.agg #[.bool has,.string txt])),(40,.v (.int .i32 num)),(41,.v (.int .i64 (Int.tmod x (4 + 1)))),(42,.v (.slice ab ((qba 8 sOffsetForLeaderEpochRequestF qad (Int.tmod x (4 + 1)) (Tree.mk n1 s2 b3 l4 u5)).length) ac))] ai bt fun dJ bu=>?_
 refine qam (qal bu (f:=34) (vs:=[.agg #[.bool has,.string txt],.int .i32 num,.int .i64 (Int.tmod x (4 + 1)),.slice ab ((qba 8 sOffsetForLeaderEpochRequestF qad (Int.tmod x (4 + 1)) (Tree.mk n1 s2 b3 l4 u5)).length) ac]) (d:=43) kz Tryz.call34 (qcH has txt num (Int.tmod x (4 + 1)) _ (qba 8 sOffsetForLeaderEpochRequestF qad (Int.tmod x (4 + 1)) (Tree.mk n1 s2 b3 l4 u5)) hpure (qcC (ai.own 0 _ rfl) (by first | omega | (rw [qbp]; decide) | (simp only [be_length]; exact Nat.le_trans (qa8 _) (by decide)) | (have:=hroom; omega) | (have:=hmade; omega) | (simp only [List.length_append,List.length_nil]; omega)) (F:=fun _ _=>True) (fun _ _ _=>trivial)) hcan hkey (by omega) (by first | omega | (have:=hroom1; omega))) ?_)
 rintro e_ dK ⟨aw,ax,rfl,aG,bw⟩
 rw [hfr] at aG
 rw [hfr]
 refine ⟨_,rfl,fun dL bx=>?_⟩
 have hfl:=qjE (key:=23) (v:=(Int.tmod x (4 + 1))) (num:=num) (has:=has) (txt:=sb txt) (flex:=decide ((Int.tmod x (4 + 1)) ≥ qad)) (body:=(qba 8 sOffsetForLeaderEpochRequestF qad (Int.tmod x (4 + 1)) (Tree.mk n1 s2 b3 l4 u5)))
 have hsl:=qbN txt
 obtain ⟨aH,c5⟩:=ai.frFresh bw (brow aw ax 5 (qa7 23 (Int.tmod x (4 + 1)) num has (sb txt) (decide ((Int.tmod x (4 + 1)) ≥ qad)) (qba 8 sOffsetForLeaderEpochRequestF qad (Int.tmod x (4 + 1)) (Tree.mk n1 s2 b3 l4 u5)))) (Nat.le_refl _) aG
 refine qaj [5,6,7,8,9] [] [(2,.v (.int .i32 num)),(5,.p 0 0),(10,.p 2 0),(11,.v (.int .i64 (Int.tmod x (4 + 1)))),(12,.v (.slice ab ((qba 8 sOffsetForLeaderEpochRequestF qad (Int.tmod x (4 + 1)) (Tree.mk n1 s2 b3 l4 u5)).length) ac)),(13,.v (.slice aw ((qa7 23 (Int.tmod x (4 + 1)) num has (sb txt) (decide ((Int.tmod x (4 + 1)) ≥ qad)) (qba 8 sOffsetForLeaderEpochRequestF qad (Int.tmod x (4 + 1)) (Tree.mk n1 s2 b3 l4 u5))).length) ax)),(14,.v (.bool true))] aH bx fun dM bz=>?_
 refine qaf (qab ?_)
 refine qbk 17 kz aH fun dN da ay bA=>?_
 refine qa5 [0,1,2,3,4,5,6,7,8,10,11,13] [(47,.v (.bool true)),(48,.v (.slice aw ((qa7 23 (Int.tmod x (4 + 1)) num has (sb txt) (decide ((Int.tmod x (4 + 1)) ≥ qad)) (qba 8 sOffsetForLeaderEpochRequestF qad (Int.tmod x (4 + 1)) (Tree.mk n1 s2 b3 l4 u5))).length) ax)),(49,.v (.int .i64 (Int.tmod x (4 + 1)))),(50,.v (.int .i32 num)),(52,.v (.bool has)),(54,.v (.string txt)),(56,.v (.agg #[.slice aT sOffsetForLeaderEpochRequestF.length aU,.int .i64 qad])),(57,.v (.int .i64 (Int.tmod x (4 + 1)))),(59,.v (.slice ab ((qba 8 sOffsetForLeaderEpochRequestF qad (Int.tmod x (4 + 1)) (Tree.mk n1 s2 b3 l4 u5)).length) ac))] 6 (qac qai) (fun _ h=>h.cells) bA bz fun dO aI=>?_
 refine qeC (i:=9) (j:=12) kz ?_ ?_
 ·
  refine (qfI (d:=55) (src:=9) (dst:=24) (e:=5) (s:=txt) ay aI (by omega) fun cQ cR dP dQ aj az bB bC=>?_)
  have bD:=bB F
  have bE:=TT.ofW aj az
  refine ⟨fun _=>bE,?_⟩
  refine qaO (i:=12) kz (qal bC (f:=19) (vs:=[.agg #[.slice aT sOffsetForLeaderEpochRequestF.length aU,.int .i64 qad],.int .i64 (Int.tmod x (4 + 1))]) (d:=58) kz Tryz.call19 (qb1 _ _ _ _) ?_)
  rintro e_ dR ⟨rfl,aJ⟩
  refine ⟨_,rfl,fun dS bF=>?_⟩
  have aA:=az.next_nil aJ
  have ae:=az.frN aJ
  have bG:=TT.ofW (aj.trans ae) aA
  refine ⟨fun _=>bG,?_⟩
  refine qaO (i:=14) kz (qal bF (f:=18) (vs:=[.int .i64 23,.int .i64 (Int.tmod x (4 + 1)),.int .i32 num,.bool has,.slice (some ⟨cQ,0,none⟩) ((sb txt).length) cR,.bool (decide ((Int.tmod x (4 + 1)) ≥ qad)),.slice ab ((qba 8 sOffsetForLeaderEpochRequestF qad (Int.tmod x (4 + 1)) (Tree.mk n1 s2 b3 l4 u5)).length) ac]) (d:=60) kz Tryz.call18 (qkF 23 (Int.tmod x (4 + 1)) num has (decide ((Int.tmod x (4 + 1)) ≥ qad)) _ _ (sb txt) _ _ (qba 8 sOffsetForLeaderEpochRequestF qad (Int.tmod x (4 + 1)) (Tree.mk n1 s2 b3 l4 u5)) _ (fun _ _=>True) ((bD.move ae.step immM ae.to').move (Step.refl _ Nil) nilM allF) (qcC (aA.own 0 _ rfl) (by first | omega | (rw [qbp]; decide) | (simp only [be_length]; exact Nat.le_trans (qa8 _) (by decide)) | (have:=hroom; omega) | (have:=hmade; omega) | (simp only [List.length_append,List.length_nil]; omega)) (F:=fun _ _=>True) (fun _ _ _=>trivial)) (by first | omega | (have:=hroom1; simp only [qbN]; omega))) ?_)
  rintro e_ dT ⟨bH,bI,rfl,bJ,bK⟩
  refine ⟨_,rfl,fun dU bL=>?_⟩
  obtain ⟨af,aK⟩:=aA.frFresh bK (brow bH bI 5 (qa7 23 (Int.tmod x (4 + 1)) num has (sb txt) (decide ((Int.tmod x (4 + 1)) ≥ qad)) (qba 8 sOffsetForLeaderEpochRequestF qad (Int.tmod x (4 + 1)) (Tree.mk n1 s2 b3 l4 u5)))) (Nat.le_refl _) bJ
  have bM:=TT.ofW ((aj.trans ae).trans aK) af
  refine ⟨fun _=>bM,?_⟩
  refine qaO (i:=15) kz (qal bL (f:=17) (vs:=[.slice aw ((qa7 23 (Int.tmod x (4 + 1)) num has (sb txt) (decide ((Int.tmod x (4 + 1)) ≥ qad)) (qba 8 sOffsetForLeaderEpochRequestF qad (Int.tmod x (4 + 1)) (Tree.mk n1 s2 b3 l4 u5))).length) ax,.slice bH ((qa7 23 (Int.tmod x (4 + 1)) num has (sb txt) (decide ((Int.tmod x (4 + 1)) ≥ qad)) (qba 8 sOffsetForLeaderEpochRequestF qad (Int.tmod x (4 + 1)) (Tree.mk n1 s2 b3 l4 u5))).length) bI]) (d:=61) kz Tryz.call17 (qk0 _ _ _ _ (qa7 23 (Int.tmod x (4 + 1)) num has (sb txt) (decide ((Int.tmod x (4 + 1)) ≥ qad)) (qba 8 sOffsetForLeaderEpochRequestF qad (Int.tmod x (4 + 1)) (Tree.mk n1 s2 b3 l4 u5))) (qa7 23 (Int.tmod x (4 + 1)) num has (sb txt) (decide ((Int.tmod x (4 + 1)) ≥ qad)) (qba 8 sOffsetForLeaderEpochRequestF qad (Int.tmod x (4 + 1)) (Tree.mk n1 s2 b3 l4 u5))) _ _ (qcC (af.own 1 _ rfl) (by first | omega | (rw [qbp]; decide) | (simp only [be_length]; exact Nat.le_trans (qa8 _) (by decide)) | (have:=hroom; omega) | (have:=hmade; omega) | (simp only [List.length_append,List.length_nil]; omega)) (F:=fun _ _=>True) (fun _ _ _=>trivial)) (qcC (af.own 2 _ rfl) (by first | omega | (rw [qbp]; decide) | (simp only [be_length]; exact Nat.le_trans (qa8 _) (by decide)) | (have:=hroom; omega) | (have:=hmade; omega) | (simp only [List.length_append,List.length_nil]; omega)) (F:=fun _ _=>True) (fun _ _ _=>trivial))) ?_)
  rintro e_ dV ⟨rfl,aL⟩
  refine ⟨_,rfl,fun dW bN=>?_⟩
  have ak:=af.next_nil aL
  have bO:=af.frN aL
  have aM:=TT.ofW (((aj.trans ae).trans aK).trans bO) ak
  refine ⟨fun _=>aM,?_⟩
  refine qa5 [16] [(62,.v (.bool (decide ((qa7 23 (Int.tmod x (4 + 1)) num has (sb txt) (decide ((Int.tmod x (4 + 1)) ≥ qad)) (qba 8 sOffsetForLeaderEpochRequestF qad (Int.tmod x (4 + 1)) (Tree.mk n1 s2 b3 l4 u5))) = qa7 23 (Int.tmod x (4 + 1)) num has (sb txt) (decide ((Int.tmod x (4 + 1)) ≥ qad)) (qba 8 sOffsetForLeaderEpochRequestF qad (Int.tmod x (4 + 1)) (Tree.mk n1 s2 b3 l4 u5))))))] 1 (qac qai) (fun _ h=>h.cells) aM bN fun dX bP=>?_
  refine qaO (i:=17) kz (qcf [8] ak.cells bP (env':=[(8,.v (.bool (decide ((qa7 23 (Int.tmod x (4 + 1)) num has (sb txt) (decide ((Int.tmod x (4 + 1)) ≥ qad)) (qba 8 sOffsetForLeaderEpochRequestF qad (Int.tmod x (4 + 1)) (Tree.mk n1 s2 b3 l4 u5))) = qa7 23 (Int.tmod x (4 + 1)) num has (sb txt) (decide ((Int.tmod x (4 + 1)) ≥ qad)) (qba 8 sOffsetForLeaderEpochRequestF qad (Int.tmod x (4 + 1)) (Tree.mk n1 s2 b3 l4 u5))))))]) kz fun dY bQ=>?_)
  refine ⟨fun h=>absurd rfl h,?_⟩
  refine qaZ kz ?_ _
  refine qab ?_
  refine wp_ret ?_
  refine qaE bQ ak.cells (v:=.bool (decide ((qa7 23 (Int.tmod x (4 + 1)) num has (sb txt) (decide ((Int.tmod x (4 + 1)) ≥ qad)) (qba 8 sOffsetForLeaderEpochRequestF qad (Int.tmod x (4 + 1)) (Tree.mk n1 s2 b3 l4 u5))) = qa7 23 (Int.tmod x (4 + 1)) num has (sb txt) (decide ((Int.tmod x (4 + 1)) ≥ qad)) (qba 8 sOffsetForLeaderEpochRequestF qad (Int.tmod x (4 + 1)) (Tree.mk n1 s2 b3 l4 u5))))) kz ?_
  exact ⟨by simp,ak.step⟩
 refine (qal aI (f:=19) (vs:=[.agg #[.slice aT sOffsetForLeaderEpochRequestF.length aU,.int .i64 qad],.int .i64 (Int.tmod x (4 + 1))]) (d:=58) kz Tryz.call19 (qb1 _ _ _ _) ?_)
 rintro e_ dZ ⟨rfl,aN⟩
 refine ⟨_,rfl,fun d5 bR=>?_⟩
 have aO:=ay.next_nil aN
 have al:=ay.frN aN
 have bS:=TT.ofW al aO
 refine ⟨fun _=>bS,?_⟩
 refine qaO (i:=9) kz (qfI (d:=55) (src:=9) (dst:=24) (e:=5) (s:=txt) aO bR (by omega) fun cS cT d6 d7 aB aC bT bU=>?_)
 have bV:=bT F
 have bW:=TT.ofW (al.trans aB) aC
 refine ⟨fun _=>bW,?_⟩
 refine qaO (i:=14) kz (qal bU (f:=18) (vs:=[.int .i64 23,.int .i64 (Int.tmod x (4 + 1)),.int .i32 num,.bool has,.slice (some ⟨cS,0,none⟩) ((sb txt).length) cT,.bool (decide ((Int.tmod x (4 + 1)) ≥ qad)),.slice ab ((qba 8 sOffsetForLeaderEpochRequestF qad (Int.tmod x (4 + 1)) (Tree.mk n1 s2 b3 l4 u5)).length) ac]) (d:=60) kz Tryz.call18 (qkF 23 (Int.tmod x (4 + 1)) num has (decide ((Int.tmod x (4 + 1)) ≥ qad)) _ _ (sb txt) _ _ (qba 8 sOffsetForLeaderEpochRequestF qad (Int.tmod x (4 + 1)) (Tree.mk n1 s2 b3 l4 u5)) _ (fun _ _=>True) (bV.move (Step.refl _ Nil) nilM allF) (qcC (aC.own 0 _ rfl) (by first | omega | (rw [qbp]; decide) | (simp only [be_length]; exact Nat.le_trans (qa8 _) (by decide)) | (have:=hroom; omega) | (have:=hmade; omega) | (simp only [List.length_append,List.length_nil]; omega)) (F:=fun _ _=>True) (fun _ _ _=>trivial)) (by first | omega | (have:=hroom1; simp only [qbN]; omega))) ?_)
 rintro e_ d8 ⟨bX,bY,rfl,bZ,b8⟩
 refine ⟨_,rfl,fun d9 cd=>?_⟩
 obtain ⟨ag,aP⟩:=aC.frFresh b8 (brow bX bY 5 (qa7 23 (Int.tmod x (4 + 1)) num has (sb txt) (decide ((Int.tmod x (4 + 1)) ≥ qad)) (qba 8 sOffsetForLeaderEpochRequestF qad (Int.tmod x (4 + 1)) (Tree.mk n1 s2 b3 l4 u5)))) (Nat.le_refl _) bZ
 have ce:=TT.ofW ((al.trans aB).trans aP) ag
 refine ⟨fun _=>ce,?_⟩
 refine qaO (i:=15) kz (qal cd (f:=17) (vs:=[.slice aw ((qa7 23 (Int.tmod x (4 + 1)) num has (sb txt) (decide ((Int.tmod x (4 + 1)) ≥ qad)) (qba 8 sOffsetForLeaderEpochRequestF qad (Int.tmod x (4 + 1)) (Tree.mk n1 s2 b3 l4 u5))).length) ax,.slice bX ((qa7 23 (Int.tmod x (4 + 1)) num has (sb txt) (decide ((Int.tmod x (4 + 1)) ≥ qad)) (qba 8 sOffsetForLeaderEpochRequestF qad (Int.tmod x (4 + 1)) (Tree.mk n1 s2 b3 l4 u5))).length) bY]) (d:=61) kz Tryz.call17 (qk0 _ _ _ _ (qa7 23 (Int.tmod x (4 + 1)) num has (sb txt) (decide ((Int.tmod x (4 + 1)) ≥ qad)) (qba 8 sOffsetForLeaderEpochRequestF qad (Int.tmod x (4 + 1)) (Tree.mk n1 s2 b3 l4 u5))) (qa7 23 (Int.tmod x (4 + 1)) num has (sb txt) (decide ((Int.tmod x (4 + 1)) ≥ qad)) (qba 8 sOffsetForLeaderEpochRequestF qad (Int.tmod x (4 + 1)) (Tree.mk n1 s2 b3 l4 u5))) _ _ (qcC (ag.own 1 _ rfl) (by first | omega | (rw [qbp]; decide) | (simp only [be_length]; exact Nat.le_trans (qa8 _) (by decide)) | (have:=hroom; omega) | (have:=hmade; omega) | (simp only [List.length_append,List.length_nil]; omega)) (F:=fun _ _=>True) (fun _ _ _=>trivial)) (qcC (ag.own 2 _ rfl) (by first | omega | (rw [qbp]; decide) | (simp only [be_length]; exact Nat.le_trans (qa8 _) (by decide)) | (have:=hroom; omega) | (have:=hmade; omega) | (simp only [List.length_append,List.length_nil]; omega)) (F:=fun _ _=>True) (fun _ _ _=>trivial))) ?_)
 rintro e_ ea ⟨rfl,aQ⟩
 refine ⟨_,rfl,fun eb cg=>?_⟩
 have am:=ag.next_nil aQ
 have cm:=ag.frN aQ
 have aR:=TT.ofW (((al.trans aB).trans aP).trans cm) am
 refine ⟨fun _=>aR,?_⟩
 refine qa5 [16] [(62,.v (.bool (decide ((qa7 23 (Int.tmod x (4 + 1)) num has (sb txt) (decide ((Int.tmod x (4 + 1)) ≥ qad)) (qba 8 sOffsetForLeaderEpochRequestF qad (Int.tmod x (4 + 1)) (Tree.mk n1 s2 b3 l4 u5))) = qa7 23 (Int.tmod x (4 + 1)) num has (sb txt) (decide ((Int.tmod x (4 + 1)) ≥ qad)) (qba 8 sOffsetForLeaderEpochRequestF qad (Int.tmod x (4 + 1)) (Tree.mk n1 s2 b3 l4 u5))))))] 1 (qac qai) (fun _ h=>h.cells) aR cg fun ec cq=>?_
 refine qaO (i:=17) kz (qcf [8] am.cells cq (env':=[(8,.v (.bool (decide ((qa7 23 (Int.tmod x (4 + 1)) num has (sb txt) (decide ((Int.tmod x (4 + 1)) ≥ qad)) (qba 8 sOffsetForLeaderEpochRequestF qad (Int.tmod x (4 + 1)) (Tree.mk n1 s2 b3 l4 u5))) = qa7 23 (Int.tmod x (4 + 1)) num has (sb txt) (decide ((Int.tmod x (4 + 1)) ≥ qad)) (qba 8 sOffsetForLeaderEpochRequestF qad (Int.tmod x (4 + 1)) (Tree.mk n1 s2 b3 l4 u5))))))]) kz fun ee cr=>?_)
 refine ⟨fun h=>absurd rfl h,?_⟩
 refine qaZ kz ?_ _
 refine qab ?_
 refine wp_ret ?_
 refine qaE cr am.cells (v:=.bool (decide ((qa7 23 (Int.tmod x (4 + 1)) num has (sb txt) (decide ((Int.tmod x (4 + 1)) ≥ qad)) (qba 8 sOffsetForLeaderEpochRequestF qad (Int.tmod x (4 + 1)) (Tree.mk n1 s2 b3 l4 u5))) = qa7 23 (Int.tmod x (4 + 1)) num has (sb txt) (decide ((Int.tmod x (4 + 1)) ≥ qad)) (qba 8 sOffsetForLeaderEpochRequestF qad (Int.tmod x (4 + 1)) (Tree.mk n1 s2 b3 l4 u5))))) kz ?_
 exact ⟨by simp,am.step⟩
theorem qcx (x:Int) (hx:0 ≤ x ∧ x ≤ 255) (has:Bool) (txt:ByteArray) (num:Int) (ct:List Value) (t:Tree) (w:World) (F:Nat → Nat → Prop) (htl:txt.size ≤ 1048576) (hnum:-2147483648 ≤ num ∧ num ≤ 2147483647) (ht:TreeR w F ct t) (hsz:t.size ≤ 8388608):Calls Tryz.prog 8 #[.int .u8 x,.agg #[.bool has,.string txt],.int .i32 num,.agg ct.toArray] w (qcz w (.bool true)):=by
 obtain ⟨g0,g1⟩:=qly (m:=4 + 1) hx.1 hx.2 (by decide) (by decide)
 have hp:qag (IntKind.i16.wrap (Int.tmod x (4 + 1))) (fitT (Int.tmod x (4 + 1)) 8 sOffsetForLeaderEpochRequestF t) = qba 8 sOffsetForLeaderEpochRequestF qad (Int.tmod x (4 + 1)) t:=by rw [qgA g0 g1]; exact qcB (Int.tmod x (4 + 1)) g0 g1 t
 have h1:=qjd 8 sOffsetForLeaderEpochRequestF qad (Int.tmod x (4 + 1)) t
 have h2:qhb sOffsetForLeaderEpochRequestF ≤ 131000:=by decide +kernel
 have h3:=Nat.mul_le_mul h2 hsz
 exact qcI x hx.1 (by omega) has txt htl num ct t w F ht (by omega) (qcu (Int.tmod x (4 + 1)) t) (qib _ _ _ _ ht.ranged) (by rw [qgA g0 g1]; rfl) hp
end Go.Proofs.YtogokkkdfcgncaaGreatDoor.ME