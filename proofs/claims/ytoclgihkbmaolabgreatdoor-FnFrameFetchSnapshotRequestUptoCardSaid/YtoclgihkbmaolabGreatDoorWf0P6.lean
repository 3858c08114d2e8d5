/- The texts of a claim, put together: the engine, the contracts, the law. Own work. -/
import Derived.Test.YtoclgihkbmaolabGreatDoorWf0P5
namespace Go.Proofs.YtoclgihkbmaolabGreatDoor.ME
open Go
open Go.RowKit
set_option linter.unusedVariables false
set_option linter.unusedSimpArgs false
set_option maxRecDepth 20000
theorem qee (w:World):Calls Tryz.prog 6 #[] w (qcK w (.int .i64 1)):=by
 refine enter (n:=4) Tryz.func6 rfl Tryz.ntmps6 kz fun a hE=>?_
 have hW:=WOk.start w Nil
 refine qat [] hW hE fun a1 hE2=>?_
 refine qad [0,1,2,3] kz ?_
 refine qam (qa8 hE2 (f:=15) (vs:=[]) (d:=1) (n':=3) kz Tryz.call15 Tryz.func15 rfl Tryz.ntmps15 kz fun a3 hE4=>?_)
 refine qat [] hW hE4 fun a5 hE6=>?_
 refine qad [0] kz ?_
 let ae:Value:=.pointer none
 let ac:Value:=.int .i32 0
 let af:Value:=.slice none 0 0
 refine qam (qbo hW hE6 (d:=1) (cs:=[.int .i16 0,ae,ac,ac,af,.map none]) kz fun b7 a8 w9 aH aI aJ ag ai=>?_)
 refine qae (qaa ?_)
 refine qad [0] kz ?_
 refine qam (qa8 ai (f:=24) (vs:=[.pointer (some ⟨b7,0,none⟩)]) (d:=2) (n':=8) kz Tryz.call24 Tryz.func24 rfl Tryz.ntmps24 kz fun aM aj=>?_)
 have ak:=aj.recast 0 (.v (.pointer (some ⟨b7,0,none⟩))) (.p 0 0) rfl rfl (Nat.le_of_ble_eq_true (n:=1) rfl)
 refine qad [0,1,2,3] kz ?_
 refine qaj [0,1,2] [3] [(0,.p 0 0),(4,.p 0 2)] ag ak fun aN al=>?_
 refine qam (qaK ag al (oi:=0) (cs:=[.int .i16 0,ae,.int .i32 (-1),ac,af,.map none]) kz fun aO aK ah am=>?_)
 refine qae (qaa ?_)
 refine qaq [0,1,2,3] kz ?_
 refine qaj [0,1,2] [3] [(7,.p 0 3)] ah am fun aP ao=>?_
 refine qam (qaK ah ao (oi:=0) (cs:=[.int .i16 0,ae,.int .i32 (-1),.int .i32 2147483647,af,.map none]) kz fun aQ aL ab ap=>?_)
 refine qae (qcl ap ab.cells (v:=.tuple #[]) kz ?_)
 refine ⟨_,rfl,fun aR ar=>?_⟩
 let aa:Ob:=⟨b7,0,[.int .i16 0,.pointer none,.int .i32 (-1),.int .i32 2147483647,.slice none 0 0,.map none],true⟩
 have au:=(EnvOk.places (tb':=[aa]) ar (show Pl [⟨b7,0,[.int .i16 0,ae,ac,ac,af,.map none],true⟩] [aa] from ⟨rfl,rfl,trivial⟩)).pk (env':=[(2,.v (.tuple #[])),(1,.p 0 0)])
 refine qae (qaa ?_)
 refine qat [(0,.p 0 0)] ab au fun aS av=>?_
 refine wp_ret (qaD av ab.cells (v:=.pointer (some ⟨b7,0,none⟩)) kz ?_)
 refine ⟨_,rfl,fun aT aw=>?_⟩
 have ax:=(EnvOk.places (tb':=[aa]) aw (show Pl [] [aa] from trivial)).pk (env':=[(1,.v (.pointer (some ⟨b7,0,none⟩)))])
 have ay:=ax.recast 1 (.v (.pointer (some ⟨b7,0,none⟩))) (.p 0 0) rfl rfl (Nat.le_of_ble_eq_true (n:=1) rfl)
 have az:=ay.pick (ks:=[1]) (env':=[(1,.p 0 0)]) kz
 refine qam (qa8 az (f:=16) (vs:=[.pointer (some ⟨b7,0,none⟩)]) (d:=2) (n':=3) kz Tryz.call16 Tryz.func16 rfl Tryz.ntmps16 kz fun aU aA=>?_)
 have aB:=aA.recast 0 (.v (.pointer (some ⟨b7,0,none⟩))) (.p 0 0) rfl rfl (Nat.le_of_ble_eq_true (n:=1) rfl)
 refine qat [] ab aB fun aV aC=>?_
 refine qat [(2,.v (.int .i16 1))] ab aC fun aW aD=>?_
 refine wp_ret (qaD aD ab.cells (v:=.int .i16 1) kz ?_)
 refine ⟨_,rfl,fun aX aE=>?_⟩
 have aF:=(EnvOk.places (tb':=[aa]) aE (show Pl [aa] [aa] from ⟨rfl,rfl,trivial⟩)).pk (env':=[(2,.v (.int .i16 1)),(1,.p 0 0)])
 refine qaj [2,3] [] [(0,.v (.int .i64 1))] ab aF fun aY aG=>?_
 refine qae (qaa ?_)
 refine wp_ret (qaD aG ab.cells (v:=.int .i64 1) kz ?_)
 exact ⟨rfl,ab.step⟩
theorem qde:depths sFetchSnapshotRequestF ≤ 8:=by simp [sFetchSnapshotRequestF,Fld.depth.depths,Fld.depth]
theorem qcN (A:Option Addr) (c:Nat) (v:Int) (w:World):Calls Tryz.prog 13 #[.agg #[.slice A sFetchSnapshotRequestF.length c,.int .i64 qaf],.int .i64 v] w (qcK w (.bool (decide (v ≥ qaf)))):=by
 refine enter (n:=14) Tryz.func13 rfl Tryz.ntmps13 kz fun a hE=>?_
 have hW:=WOk.start w Nil
 refine qad [0,1] kz ?_
 refine qam (qbt hW hE (d:=2) (cs:=[.slice A sFetchSnapshotRequestF.length c,.int .i64 qaf]) kz fun b1 a2 w3 hb4 hz5 hF6 hW7 hE8=>?_)
 refine qaj [1] [] [(1,.v (.int .i64 v)),(2,.p 0 0)] hW7 hE8 fun a9 aa=>?_
 refine qae (qaa ?_)
 refine qad [0,1,2,3,4,5,6,7,8,9] kz ?_
 refine qaj [0,1,2,3] [4,5,6,7,8,9] [(1,.v (.int .i64 v)),(2,.p 0 0),(8,.v (.bool (decide (qaf ≥ 0))))] hW7 aa fun ag ab=>?_
 have ac:(decide (qaf ≥ 0)) = true:=by decide
 have ae:=ab
 rw [ac] at ae
 refine qaj [4,5,6,7,8,9] [] [(4,.v (.bool (decide (v ≥ qaf))))] hW7 ae fun ah af=>?_
 refine qae (qaa ?_)
 refine wp_ret (qaD af hW7.cells (v:=.bool (decide (v ≥ qaf))) kz ?_)
 exact ⟨rfl,hW7.step⟩
set_option maxHeartbeats 4000000 in
theorem qdJ (x:Int) (hx:0 ≤ x) (hx':x < 256) (has:Bool) (txt:ByteArray) (htl:txt.size ≤ 1048576) (num:Int) (ct:List Value) (t:Tree) (w:World) (F:Nat → Nat → Prop) (ht:TreeR w F ct t) (hroom1:(qbm 8 sFetchSnapshotRequestF qaf (Int.tmod x (1 + 1)) t).length + 1048700 ≤ 1099511627776) (hcan:qbl (fitT (Int.tmod x (1 + 1)) 8 sFetchSnapshotRequestF t)) (hkey:Tree.ranged (fitT (Int.tmod x (1 + 1)) 8 sFetchSnapshotRequestF t)) (hfr:(qbf 59 (IntKind.i16.wrap (Int.tmod x (1 + 1))) num has (sb txt) (decide ((IntKind.i16.wrap (Int.tmod x (1 + 1))) ≥ 0)) (qbm 8 sFetchSnapshotRequestF qaf (Int.tmod x (1 + 1)) t)) = (qbf 59 (Int.tmod x (1 + 1)) num has (sb txt) (decide ((Int.tmod x (1 + 1)) ≥ qaf)) (qbm 8 sFetchSnapshotRequestF qaf (Int.tmod x (1 + 1)) t))) (hpure:qak (IntKind.i16.wrap (Int.tmod x (1 + 1))) (fitT (Int.tmod x (1 + 1)) 8 sFetchSnapshotRequestF t) = qbm 8 sFetchSnapshotRequestF qaf (Int.tmod x (1 + 1)) t) :
  Calls Tryz.prog 3 #[.int .u8 x,.agg #[.bool has,.string txt],.int .i32 num,.agg ct.toArray] w (qcK w (.bool true)):=by
 obtain ⟨n1,s2,b3,l4,u5,A6,c7,A8,c9,di,dj,dy,rfl,rfl,dA,dB,eG,eH⟩:=ht.open_
 have dl:=dA.small
 have dp:=dB.small
 refine enter (n:=63) Tryz.func3 rfl Tryz.ntmps3 kz fun a hE=>?_
 have hW:=WOk.start w Nil
 refine qad [0,1,2] kz ?_
 let af:Value:=.bool has
 let ag:Value:=.string txt
 refine qam (qbt hW hE (d:=5) (cs:=[af,ag]) kz fun dC eI eJ dD dE dF cK cL=>?_)
 let ah:Value:=.int .i64 n1
 let ai:Value:=.slice A6 s2.length c7
 let aj:Value:=.slice A8 l4.length c9
 let ak:Value:=.slice di u5.length dj
 refine qam (qbt cK cL (d:=7) (cs:=[ah,ai,.bool b3,aj,ak]) kz fun dG eK eM dH dI dJ aQ cM=>?_)
 let al:Nat × SV:=(0,.v (.int .u8 x))
 let aa:Nat × SV:=(2,.v (.int .i32 num))
 let ab:Nat × SV:=(5,.p 0 0)
 let ac:Nat × SV:=(7,.p 1 0)
 refine qaj [2] [] [al,aa,ab,ac] aQ cM fun eN cN=>?_
 refine qae (qaa ?_)
 refine wp_seq (qad [0,1,2,3,4,5,6,7] kz ?_)
 refine qaj [0] [1,2,3,4,5,6,7] [al,aa,ab,ac,(15,.v (.agg #[af,ag]))] aQ cN fun eO cO=>?_
 refine qam (qal cO (f:=4) (vs:=[.agg #[af,ag]]) (d:=16) kz Tryz.call4 (qnh _ _ htl _) ?_)
 rintro e_ eP ⟨rfl,bq⟩
 refine ⟨_,rfl,fun eQ cP=>?_⟩
 have aF:=aQ.next_nil bq
 have dK:=aQ.frN bq
 refine qaj [2,3,4] [5,6,7] [al,aa,ab,ac,(18,.v (.bool false)),(19,.v (.agg #[ah,ai,.bool b3,aj,ak]))] aF cP fun eR cQ=>?_
 let dq:Value:=.agg #[.int .i64 n1,.slice A6 s2.length c7,.bool b3,.slice A8 l4.length c9,.slice di u5.length dj]
 refine qam (qal cQ (f:=5) (vs:=[.agg #[ah,ai,.bool b3,aj,ak]]) (d:=20) kz Tryz.call5 (qng _ _ _ _ (ht.move aF.step nilM aF.imm)) ?_)
 rintro e_ eS ⟨dr,rfl,bt⟩
 refine ⟨_,rfl,fun eT cR=>?_⟩
 have aE:=aF.next_nil bt
 have dL:=aF.frN bt
 refine qaj [6,7] [] [al,aa,ab,ac,(22,.v (.bool (!dr)))] aE cR fun eU bj=>?_
 refine qae (qaa ?_)
 refine qaA bj (b:=!dr) kz (fun cS=>?_) (fun cS=>?_)
 ·
  refine qat [(8,.v (.bool true))] aE bj fun eV cU=>?_
  refine wp_ret (qaE (qaD cU aE.cells (v:=.bool true) kz ?_))
  exact ⟨rfl,aE.step⟩
 refine wp_skip (qaa (qad [0,1] kz ?_))
 refine qam (qal bj (f:=6) (vs:=[]) (d:=23) kz Tryz.call6 (qee _) ?_)
 rintro e_ dM ⟨rfl,bu⟩
 refine ⟨_,rfl,fun eW cV=>?_⟩
 have aG:=aE.next_nil bu
 have dN:=aE.frN bu
 refine qaj [1] [] [al,aa,ab,ac,(9,.v (.int .i64 1))] aG cV fun eX cW=>?_
 refine qae (qaa ?_)
 refine wp_seq (qat [al,aa,ab,ac,(9,.v (.int .i64 1)),(25,.v (.bool false))] aG cW fun eY bw=>?_)
 refine qau bw (b:=false) kz rfl ?_
 refine wp_skip (qaa (qad [0,1,2,3,4,5,6] kz ?_))
 refine qam (qal bw (f:=7) (vs:=[]) (d:=26) kz Tryz.call7 (qeb _ (Imm F w dM [⟨dC,0,[af,ag],true⟩,⟨dG,0,[ah,ai,.bool b3,aj,ak],true⟩] [])) ?_)
 rintro e_ eZ ⟨bk,bn,rfl,cX,bo⟩
 obtain ⟨cY,dO,dP⟩:=cX.move (Step.refl _ Nil) nilM (aG.laid (G:=F) bo)
 refine ⟨_,rfl,fun e9 cZ=>?_⟩
 have bp:=aG.next_nil bo
 have dQ:=aG.frN bo
 refine qaj [1,2] [3,4,5,6] [aa,ab,ac,(26,.v (.agg #[.slice bk sFetchSnapshotRequestF.length bn,.int .i64 qaf])),(27,.v (.int .u8 x)),(28,.v (.int .i64 1))] bp cZ fun fa c5=>?_
 refine qam (qal c5 (f:=8) (vs:=[.int .u8 x,.int .i64 1]) (d:=29) kz Tryz.call8 (qlu x 1 hx hx' (by decide) (by decide) _) ?_)
 rintro e_ fb ⟨rfl,bx⟩
 refine ⟨_,rfl,fun fe da=>?_⟩
 have db:=bp.next_nil bx
 have aR:=bp.frN bx
 refine qam (qbo db da (d:=10) (cs:=[.slice none 0 0,.int .i64 0]) kz fun ff fg fh dR dS aS dc bz=>?_)
 refine qam (qaK dc bz (oi:=2) (cs:=[.slice bk sFetchSnapshotRequestF.length bn,.int .i64 qaf]) kz fun dT ay ae bA=>?_)
 let am:Nat × SV:=(10,.p 2 0)
 let ao:Nat × SV:=(11,.v (.int .i64 (Int.tmod x (1 + 1))))
 refine qaj [6] [] [aa,ab,ac,am,ao] ae bA fun dU bB=>?_
 refine qae (qaa ?_)
 refine wp_seq (qat [aa,ab,ac,am,ao,(33,.v (.bool (decide ((txt.size:Int) > 32767))))] ae bB fun dV aH=>?_)
 refine qaA aH (b:=decide ((txt.size:Int) > 32767)) kz (fun aI=>?_) (fun aI=>?_)
 ·
  have dt:=of_decide_eq_true aI
  refine qat [(8,.v (.bool true))] ae aH fun dW bC=>?_
  refine wp_ret (qaE (qaD bC ae.cells (v:=.bool true) kz ?_))
  exact ⟨rfl,ae.step⟩
 have du:=of_decide_eq_false aI
 refine wp_skip (qaa (qad [0,1,2,3,4] kz ?_))
 refine qaj [0,1,2] [3,4] [aa,ab,am,ao,(34,.v (.agg #[.slice bk sFetchSnapshotRequestF.length bn,.int .i64 qaf])),(35,.v (.int .i64 (Int.tmod x (1 + 1)))),(36,.v (.agg #[ah,ai,.bool b3,aj,ak]))] ae aH fun dX bD=>?_
 let ap:Value:=.int .i64 (Int.tmod x (1 + 1))
 refine qam (qal bD (f:=9) (vs:=[.agg #[.slice bk sFetchSnapshotRequestF.length bn,.int .i64 qaf],ap,.agg #[ah,ai,.bool b3,aj,ak]]) (d:=37) kz Tryz.call9 (qm6 _ _ sFetchSnapshotRequestF qaf (Int.tmod x (1 + 1)) _ (Tree.mk n1 s2 b3 l4 u5) _ _ ⟨cY,(dO.move ((aR.trans aS).trans ay).step immM ((aR.trans aS).trans ay).to'),(fun i_ x_ h_=>((dP i_ x_ h_).move ((aR.trans aS).trans ay).step immM ((aR.trans aS).trans ay).to'))⟩ qde (ht.move ae.step nilM ae.imm) (Nat.le_trans (Nat.le_add_right _ _) hroom1)) ?_)
 rintro e_ dY ⟨ar,au,rfl,bE,bF⟩
 refine ⟨_,rfl,fun dZ bG=>?_⟩
 obtain ⟨az,dv⟩:=ae.frFresh bF (brow ar au 5 (qbm 8 sFetchSnapshotRequestF qaf (Int.tmod x (1 + 1)) (Tree.mk n1 s2 b3 l4 u5))) (Nat.le_refl _) bE
 refine qaj [4] [] [aa,ab,am,ao,(12,.v (.slice ar ((qbm 8 sFetchSnapshotRequestF qaf (Int.tmod x (1 + 1)) (Tree.mk n1 s2 b3 l4 u5)).length) au))] az bG fun d5 bH=>?_
 refine qae (qaa ?_)
 refine qad [0,1,2,3,4,5,6,7,8,9] kz ?_
 refine qaj [0,1,2,3] [4,5,6,7,8,9] [aa,ab,am,ao,(12,.v (.slice ar ((qbm 8 sFetchSnapshotRequestF qaf (Int.tmod x (1 + 1)) (Tree.mk n1 s2 b3 l4 u5)).length) au)),(39,.v (.agg #[af,ag])),(40,.v (.int .i32 num)),(41,.v (.int .i64 (Int.tmod x (1 + 1)))),(42,.v (.slice ar ((qbm 8 sFetchSnapshotRequestF qaf (Int.tmod x (1 + 1)) (Tree.mk n1 s2 b3 l4 u5)).length) au))] az bH fun d6 bI=>?_
 refine qam (qal bI (f:=10) (vs:=[.agg #[af,ag],.int .i32 num,ap,.slice ar ((qbm 8 sFetchSnapshotRequestF qaf (Int.tmod x (1 + 1)) (Tree.mk n1 s2 b3 l4 u5)).length) au]) (d:=43) kz Tryz.call10 (qdI has txt num (Int.tmod x (1 + 1)) _ (qbm 8 sFetchSnapshotRequestF qaf (Int.tmod x (1 + 1)) (Tree.mk n1 s2 b3 l4 u5)) hpure (qcR (az.own 0 _ rfl) (by first | omega | (rw [qbC]; decide) | (simp only [be_length]; exact Nat.le_trans (qbi _) (by decide)) | (have:=hroom; omega) | (have:=hmade; omega) | (simp only [List.length_append,List.length_nil]; omega)) (F:=fun _ _=>True) (fun _ _ _=>trivial)) hcan hkey (by omega) (by first | omega | (have:=hroom1; omega))) ?_)
 rintro e_ d7 ⟨aJ,aK,rfl,aT,bJ⟩
 rw [hfr] at aT
 rw [hfr]
 refine ⟨_,rfl,fun d8 bK=>?_⟩
 have hfl:=qkN (key:=59) (v:=(Int.tmod x (1 + 1))) (num:=num) (has:=has) (txt:=sb txt) (flex:=decide ((Int.tmod x (1 + 1)) ≥ qaf)) (body:=(qbm 8 sFetchSnapshotRequestF qaf (Int.tmod x (1 + 1)) (Tree.mk n1 s2 b3 l4 u5)))
 have hsl:=qb4 txt
 obtain ⟨aU,dw⟩:=az.frFresh bJ (brow aJ aK 5 (qbf 59 (Int.tmod x (1 + 1)) num has (sb txt) (decide ((Int.tmod x (1 + 1)) ≥ qaf)) (qbm 8 sFetchSnapshotRequestF qaf (Int.tmod x (1 + 1)) (Tree.mk n1 s2 b3 l4 u5)))) (Nat.le_refl _) aT
 refine qaj [5,6,7,8,9] [] [aa,ab,am,ao,(12,.v (.slice ar ((qbm 8 sFetchSnapshotRequestF qaf (Int.tmod x (1 + 1)) (Tree.mk n1 s2 b3 l4 u5)).length) au)),(13,.v (.slice aJ ((qbf 59 (Int.tmod x (1 + 1)) num has (sb txt) (decide ((Int.tmod x (1 + 1)) ≥ qaf)) (qbm 8 sFetchSnapshotRequestF qaf (Int.tmod x (1 + 1)) (Tree.mk n1 s2 b3 l4 u5))).length) aK)),(14,.v (.bool true))] aU bK fun d9 bL=>?_
 refine qae (qaa ?_)
 refine qbu 17 kz aU fun ea dx aL bM=>?_
 refine qaY [0,1,2,3,4,5,6,7,8,10,11,13] [(47,.v (.bool true)),(48,.v (.slice aJ ((qbf 59 (Int.tmod x (1 + 1)) num has (sb txt) (decide ((Int.tmod x (1 + 1)) ≥ qaf)) (qbm 8 sFetchSnapshotRequestF qaf (Int.tmod x (1 + 1)) (Tree.mk n1 s2 b3 l4 u5))).length) aK)),(49,.v (.int .i64 (Int.tmod x (1 + 1)))),(50,.v (.int .i32 num)),(52,.v (.bool has)),(54,.v (.string txt)),(56,.v (.agg #[.slice bk sFetchSnapshotRequestF.length bn,.int .i64 qaf])),(57,.v (.int .i64 (Int.tmod x (1 + 1)))),(59,.v (.slice ar ((qbm 8 sFetchSnapshotRequestF qaf (Int.tmod x (1 + 1)) (Tree.mk n1 s2 b3 l4 u5)).length) au))] 6 (qac qai) (fun _ h=>h.cells) bM bL fun eb aV=>?_
 refine qfg (i:=9) (j:=12) kz ?_ ?_
 ·
  refine (qgz (d:=55) (src:=9) (dst:=24) (e:=5) (s:=txt) aL aV (by omega) fun de df ec ee aA aM bN bO=>?_)
  have bP:=bN F
  have bQ:=TT.ofW aA aM
  refine ⟨fun _=>bQ,?_⟩
  refine qaJ (i:=12) kz (qal bO (f:=13) (vs:=[.agg #[.slice bk sFetchSnapshotRequestF.length bn,.int .i64 qaf],ap]) (d:=58) kz Tryz.call13 (qcN _ _ _ _) ?_)
  rintro e_ ef ⟨rfl,aW⟩
  refine ⟨_,rfl,fun eg bR=>?_⟩
  have aN:=aM.next_nil aW
  have av:=aM.frN aW
  have bS:=TT.ofW (aA.trans av) aN
  refine ⟨fun _=>bS,?_⟩
  refine qaJ (i:=14) kz (qal bR (f:=12) (vs:=[.int .i64 59,ap,.int .i32 num,af,.slice (some ⟨de,0,none⟩) ((sb txt).length) df,.bool (decide ((Int.tmod x (1 + 1)) ≥ qaf)),.slice ar ((qbm 8 sFetchSnapshotRequestF qaf (Int.tmod x (1 + 1)) (Tree.mk n1 s2 b3 l4 u5)).length) au]) (d:=60) kz Tryz.call12 (qlR 59 (Int.tmod x (1 + 1)) num has (decide ((Int.tmod x (1 + 1)) ≥ qaf)) _ _ (sb txt) _ _ (qbm 8 sFetchSnapshotRequestF qaf (Int.tmod x (1 + 1)) (Tree.mk n1 s2 b3 l4 u5)) _ (fun _ _=>True) ((bP.move av.step immM av.to').move (Step.refl _ Nil) nilM allF) (qcR (aN.own 0 _ rfl) (by first | omega | (rw [qbC]; decide) | (simp only [be_length]; exact Nat.le_trans (qbi _) (by decide)) | (have:=hroom; omega) | (have:=hmade; omega) | (simp only [List.length_append,List.length_nil]; omega)) (F:=fun _ _=>True) (fun _ _ _=>trivial)) (by first | omega | (have:=hroom1; simp only [qb4]; omega))) ?_)
  rintro e_ eh ⟨bT,bU,rfl,bV,bW⟩
  refine ⟨_,rfl,fun ei bX=>?_⟩
  obtain ⟨aw,aX⟩:=aN.frFresh bW (brow bT bU 5 (qbf 59 (Int.tmod x (1 + 1)) num has (sb txt) (decide ((Int.tmod x (1 + 1)) ≥ qaf)) (qbm 8 sFetchSnapshotRequestF qaf (Int.tmod x (1 + 1)) (Tree.mk n1 s2 b3 l4 u5)))) (Nat.le_refl _) bV
  have bY:=TT.ofW ((aA.trans av).trans aX) aw
  refine ⟨fun _=>bY,?_⟩
  refine qaJ (i:=15) kz (qal bX (f:=11) (vs:=[.slice aJ ((qbf 59 (Int.tmod x (1 + 1)) num has (sb txt) (decide ((Int.tmod x (1 + 1)) ≥ qaf)) (qbm 8 sFetchSnapshotRequestF qaf (Int.tmod x (1 + 1)) (Tree.mk n1 s2 b3 l4 u5))).length) aK,.slice bT ((qbf 59 (Int.tmod x (1 + 1)) num has (sb txt) (decide ((Int.tmod x (1 + 1)) ≥ qaf)) (qbm 8 sFetchSnapshotRequestF qaf (Int.tmod x (1 + 1)) (Tree.mk n1 s2 b3 l4 u5))).length) bU]) (d:=61) kz Tryz.call11 (qml _ _ _ _ (qbf 59 (Int.tmod x (1 + 1)) num has (sb txt) (decide ((Int.tmod x (1 + 1)) ≥ qaf)) (qbm 8 sFetchSnapshotRequestF qaf (Int.tmod x (1 + 1)) (Tree.mk n1 s2 b3 l4 u5))) (qbf 59 (Int.tmod x (1 + 1)) num has (sb txt) (decide ((Int.tmod x (1 + 1)) ≥ qaf)) (qbm 8 sFetchSnapshotRequestF qaf (Int.tmod x (1 + 1)) (Tree.mk n1 s2 b3 l4 u5))) _ _ (qcR (aw.own 1 _ rfl) (by first | omega | (rw [qbC]; decide) | (simp only [be_length]; exact Nat.le_trans (qbi _) (by decide)) | (have:=hroom; omega) | (have:=hmade; omega) | (simp only [List.length_append,List.length_nil]; omega)) (F:=fun _ _=>True) (fun _ _ _=>trivial)) (qcR (aw.own 2 _ rfl) (by first | omega | (rw [qbC]; decide) | (simp only [be_length]; exact Nat.le_trans (qbi _) (by decide)) | (have:=hroom; omega) | (have:=hmade; omega) | (simp only [List.length_append,List.length_nil]; omega)) (F:=fun _ _=>True) (fun _ _ _=>trivial))) ?_)
  rintro e_ ej ⟨rfl,aY⟩
  refine ⟨_,rfl,fun ek bZ=>?_⟩
  have aB:=aw.next_nil aY
  have b8:=aw.frN aY
  have aZ:=TT.ofW (((aA.trans av).trans aX).trans b8) aB
  refine ⟨fun _=>aZ,?_⟩
  refine qaY [16] [(62,.v (.bool (decide ((qbf 59 (Int.tmod x (1 + 1)) num has (sb txt) (decide ((Int.tmod x (1 + 1)) ≥ qaf)) (qbm 8 sFetchSnapshotRequestF qaf (Int.tmod x (1 + 1)) (Tree.mk n1 s2 b3 l4 u5))) = qbf 59 (Int.tmod x (1 + 1)) num has (sb txt) (decide ((Int.tmod x (1 + 1)) ≥ qaf)) (qbm 8 sFetchSnapshotRequestF qaf (Int.tmod x (1 + 1)) (Tree.mk n1 s2 b3 l4 u5))))))] 1 (qac qai) (fun _ h=>h.cells) aZ bZ fun em cd=>?_
  refine qaJ (i:=17) kz (qcg [8] aB.cells cd (env':=[(8,.v (.bool (decide ((qbf 59 (Int.tmod x (1 + 1)) num has (sb txt) (decide ((Int.tmod x (1 + 1)) ≥ qaf)) (qbm 8 sFetchSnapshotRequestF qaf (Int.tmod x (1 + 1)) (Tree.mk n1 s2 b3 l4 u5))) = qbf 59 (Int.tmod x (1 + 1)) num has (sb txt) (decide ((Int.tmod x (1 + 1)) ≥ qaf)) (qbm 8 sFetchSnapshotRequestF qaf (Int.tmod x (1 + 1)) (Tree.mk n1 s2 b3 l4 u5))))))]) kz fun eo ce=>?_)
  refine ⟨fun h=>absurd rfl h,?_⟩
  refine qaW kz ?_ _
  refine qaa (wp_ret (qaD ce aB.cells (v:=.bool (decide ((qbf 59 (Int.tmod x (1 + 1)) num has (sb txt) (decide ((Int.tmod x (1 + 1)) ≥ qaf)) (qbm 8 sFetchSnapshotRequestF qaf (Int.tmod x (1 + 1)) (Tree.mk n1 s2 b3 l4 u5))) = qbf 59 (Int.tmod x (1 + 1)) num has (sb txt) (decide ((Int.tmod x (1 + 1)) ≥ qaf)) (qbm 8 sFetchSnapshotRequestF qaf (Int.tmod x (1 + 1)) (Tree.mk n1 s2 b3 l4 u5))))) kz ?_))
  exact ⟨by simp,aB.step⟩
 refine (qal aV (f:=13) (vs:=[.agg #[.slice bk sFetchSnapshotRequestF.length bn,.int .i64 qaf],ap]) (d:=58) kz Tryz.call13 (qcN _ _ _ _) ?_)
 rintro e_ eu ⟨rfl,ba⟩
 refine ⟨_,rfl,fun ev cg=>?_⟩
 have bd:=aL.next_nil ba
 have aC:=aL.frN ba
 have cm:=TT.ofW aC bd
 refine ⟨fun _=>cm,?_⟩
 refine qaJ (i:=9) kz (qgz (d:=55) (src:=9) (dst:=24) (e:=5) (s:=txt) bd cg (by omega) fun dg dh ew ey aO aP cq cr=>?_)
 have cu:=cq F
 have cv:=TT.ofW (aC.trans aO) aP
 refine ⟨fun _=>cv,?_⟩
 refine qaJ (i:=14) kz (qal cr (f:=12) (vs:=[.int .i64 59,ap,.int .i32 num,af,.slice (some ⟨dg,0,none⟩) ((sb txt).length) dh,.bool (decide ((Int.tmod x (1 + 1)) ≥ qaf)),.slice ar ((qbm 8 sFetchSnapshotRequestF qaf (Int.tmod x (1 + 1)) (Tree.mk n1 s2 b3 l4 u5)).length) au]) (d:=60) kz Tryz.call12 (qlR 59 (Int.tmod x (1 + 1)) num has (decide ((Int.tmod x (1 + 1)) ≥ qaf)) _ _ (sb txt) _ _ (qbm 8 sFetchSnapshotRequestF qaf (Int.tmod x (1 + 1)) (Tree.mk n1 s2 b3 l4 u5)) _ (fun _ _=>True) (cu.move (Step.refl _ Nil) nilM allF) (qcR (aP.own 0 _ rfl) (by first | omega | (rw [qbC]; decide) | (simp only [be_length]; exact Nat.le_trans (qbi _) (by decide)) | (have:=hroom; omega) | (have:=hmade; omega) | (simp only [List.length_append,List.length_nil]; omega)) (F:=fun _ _=>True) (fun _ _ _=>trivial)) (by first | omega | (have:=hroom1; simp only [qb4]; omega))) ?_)
 rintro e_ ez ⟨cw,cz,rfl,cA,cB⟩
 refine ⟨_,rfl,fun eB cC=>?_⟩
 obtain ⟨ax,bf⟩:=aP.frFresh cB (brow cw cz 5 (qbf 59 (Int.tmod x (1 + 1)) num has (sb txt) (decide ((Int.tmod x (1 + 1)) ≥ qaf)) (qbm 8 sFetchSnapshotRequestF qaf (Int.tmod x (1 + 1)) (Tree.mk n1 s2 b3 l4 u5)))) (Nat.le_refl _) cA
 have cE:=TT.ofW ((aC.trans aO).trans bf) ax
 refine ⟨fun _=>cE,?_⟩
 refine qaJ (i:=15) kz (qal cC (f:=11) (vs:=[.slice aJ ((qbf 59 (Int.tmod x (1 + 1)) num has (sb txt) (decide ((Int.tmod x (1 + 1)) ≥ qaf)) (qbm 8 sFetchSnapshotRequestF qaf (Int.tmod x (1 + 1)) (Tree.mk n1 s2 b3 l4 u5))).length) aK,.slice cw ((qbf 59 (Int.tmod x (1 + 1)) num has (sb txt) (decide ((Int.tmod x (1 + 1)) ≥ qaf)) (qbm 8 sFetchSnapshotRequestF qaf (Int.tmod x (1 + 1)) (Tree.mk n1 s2 b3 l4 u5))).length) cz]) (d:=61) kz Tryz.call11 (qml _ _ _ _ (qbf 59 (Int.tmod x (1 + 1)) num has (sb txt) (decide ((Int.tmod x (1 + 1)) ≥ qaf)) (qbm 8 sFetchSnapshotRequestF qaf (Int.tmod x (1 + 1)) (Tree.mk n1 s2 b3 l4 u5))) (qbf 59 (Int.tmod x (1 + 1)) num has (sb txt) (decide ((Int.tmod x (1 + 1)) ≥ qaf)) (qbm 8 sFetchSnapshotRequestF qaf (Int.tmod x (1 + 1)) (Tree.mk n1 s2 b3 l4 u5))) _ _ (qcR (ax.own 1 _ rfl) (by first | omega | (rw [qbC]; decide) | (simp only [be_length]; exact Nat.le_trans (qbi _) (by decide)) | (have:=hroom; omega) | (have:=hmade; omega) | (simp only [List.length_append,List.length_nil]; omega)) (F:=fun _ _=>True) (fun _ _ _=>trivial)) (qcR (ax.own 2 _ rfl) (by first | omega | (rw [qbC]; decide) | (simp only [be_length]; exact Nat.le_trans (qbi _) (by decide)) | (have:=hroom; omega) | (have:=hmade; omega) | (simp only [List.length_append,List.length_nil]; omega)) (F:=fun _ _=>True) (fun _ _ _=>trivial))) ?_)
 rintro e_ eC ⟨rfl,bg⟩
 refine ⟨_,rfl,fun eD cG=>?_⟩
 have aD:=ax.next_nil bg
 have cH:=ax.frN bg
 have bh:=TT.ofW (((aC.trans aO).trans bf).trans cH) aD
 refine ⟨fun _=>bh,?_⟩
 refine qaY [16] [(62,.v (.bool (decide ((qbf 59 (Int.tmod x (1 + 1)) num has (sb txt) (decide ((Int.tmod x (1 + 1)) ≥ qaf)) (qbm 8 sFetchSnapshotRequestF qaf (Int.tmod x (1 + 1)) (Tree.mk n1 s2 b3 l4 u5))) = qbf 59 (Int.tmod x (1 + 1)) num has (sb txt) (decide ((Int.tmod x (1 + 1)) ≥ qaf)) (qbm 8 sFetchSnapshotRequestF qaf (Int.tmod x (1 + 1)) (Tree.mk n1 s2 b3 l4 u5))))))] 1 (qac qai) (fun _ h=>h.cells) bh cG fun eE cI=>?_
 refine qaJ (i:=17) kz (qcg [8] aD.cells cI (env':=[(8,.v (.bool (decide ((qbf 59 (Int.tmod x (1 + 1)) num has (sb txt) (decide ((Int.tmod x (1 + 1)) ≥ qaf)) (qbm 8 sFetchSnapshotRequestF qaf (Int.tmod x (1 + 1)) (Tree.mk n1 s2 b3 l4 u5))) = qbf 59 (Int.tmod x (1 + 1)) num has (sb txt) (decide ((Int.tmod x (1 + 1)) ≥ qaf)) (qbm 8 sFetchSnapshotRequestF qaf (Int.tmod x (1 + 1)) (Tree.mk n1 s2 b3 l4 u5))))))]) kz fun eF cJ=>?_)
 refine ⟨fun h=>absurd rfl h,?_⟩
 refine qaW kz ?_ _
 refine qaa (wp_ret (qaD cJ aD.cells (v:=.bool (decide ((qbf 59 (Int.tmod x (1 + 1)) num has (sb txt) (decide ((Int.tmod x (1 + 1)) ≥ qaf)) (qbm 8 sFetchSnapshotRequestF qaf (Int.tmod x (1 + 1)) (Tree.mk n1 s2 b3 l4 u5))) = qbf 59 (Int.tmod x (1 + 1)) num has (sb txt) (decide ((Int.tmod x (1 + 1)) ≥ qaf)) (qbm 8 sFetchSnapshotRequestF qaf (Int.tmod x (1 + 1)) (Tree.mk n1 s2 b3 l4 u5))))) kz ?_))
 exact ⟨by simp,aD.step⟩
theorem qdp (x:Int) (hx:0 ≤ x ∧ x ≤ 255) (has:Bool) (txt:ByteArray) (num:Int) (ct:List Value) (t:Tree) (w:World) (F:Nat → Nat → Prop) (htl:txt.size ≤ 1048576) (hnum:-2147483648 ≤ num ∧ num ≤ 2147483647) (ht:TreeR w F ct t) (hsz:t.size ≤ 8388608):Calls Tryz.prog 3 #[.int .u8 x,.agg #[.bool has,.string txt],.int .i32 num,.agg ct.toArray] w (qcK w (.bool true)):=by
 obtain ⟨g0,g1⟩:=qmS (m:=1 + 1) hx.1 hx.2 (by decide) (by decide)
 have hp:qak (IntKind.i16.wrap (Int.tmod x (1 + 1))) (fitT (Int.tmod x (1 + 1)) 8 sFetchSnapshotRequestF t) = qbm 8 sFetchSnapshotRequestF qaf (Int.tmod x (1 + 1)) t:=by rw [qhA g0 g1]; exact qdw (Int.tmod x (1 + 1)) g0 g1 t
 have h1:=qkk 8 sFetchSnapshotRequestF qaf (Int.tmod x (1 + 1)) t
 have h2:qii sFetchSnapshotRequestF ≤ 131000:=by decide +kernel
 have h3:=Nat.mul_le_mul h2 hsz
 exact qdJ x hx.1 (by omega) has txt htl num ct t w F ht (by omega) (qdf (Int.tmod x (1 + 1)) t) (qjr _ _ _ _ ht.ranged) (by rw [qhA g0 g1]; rfl) hp
end Go.Proofs.YtoclgihkbmaolabGreatDoor.ME