/- The texts of a claim, put together: the engine, the contracts, the law. Own work. -/
import Derived.Test.YtdlaobdadlmcdabDoorWt0P4
namespace Go.Proofs.YtdlaobdadlmcdabDoor.ME
open Go
open Go.RowKit
set_option linter.unusedVariables false
set_option linter.unusedSimpArgs false
set_option maxRecDepth 20000
def qa2 (D:DV):Tree:=.mk 0 [] false [.mk (IntKind.i64.wrap (D.f 0).n) [] false [] [],.mk ((D.f 1).n) [] false [] [],.mk ((D.f 2).n) [] false [] [],qhQ (D.f 3).b,qhQ (D.f 4).b,.mk 0 [] (D.f 5).A.isNone ((List.range (D.f 5).l).map fun i=>.mk 0 ((D.f 5).f i).o false [] []) [],.mk 0 [] (D.f 6).A.isNone ((List.range (D.f 6).l).map fun i=>.mk 0 ((D.f 6).f i).o false [] []) []] D.u
set_option maxHeartbeats 4000000 in
theorem qcM (v:Int) (D:DV) (b o:Nat) (w:World) (F:Nat → Nat → Prop) (hat:AtF w F b o [.int .i16 v,.int .i32 ((D.f 0).n),.int .i64 ((D.f 1).n),.int .i64 ((D.f 2).n),.bool ((D.f 3).b),.bool ((D.f 4).b),.slice ((D.f 5).A) ((D.f 5).l) ((D.f 5).c),.slice ((D.f 6).A) ((D.f 6).l) ((D.f 6).c),.map D.m]) (hok:qa6 w F D):Calls Tryd.prog 18 #[.pointer (some ⟨b,o,none⟩)] w (qem w F (qa2 D)):=by
 refine enter (n:=178) Tryd.func18 rfl Tryd.ntmps18 kz fun a hE=>?_
 have hW:WOk w Nil w [⟨b,o,[.int .i16 v,.int .i32 ((D.f 0).n),.int .i64 ((D.f 1).n),.int .i64 ((D.f 2).n),.bool ((D.f 3).b),.bool ((D.f 4).b),.slice ((D.f 5).A) ((D.f 5).l) ((D.f 5).c),.slice ((D.f 6).A) ((D.f 6).l) ((D.f 6).c),.map D.m],false⟩] []:=(WOk.start w Nil).start1 hat rfl rfl
 unfold qa6 at hok
 obtain ⟨g1,g2,g3,g4,g5,⟨g6,g6l,g6e⟩,⟨g7,g7l,g7e⟩,g8,g8l,g8x,_⟩:=hok
 have hE0:=(EnvOk.ptr0 (cs:=[.int .i16 v,.int .i32 ((D.f 0).n),.int .i64 ((D.f 1).n),.int .i64 ((D.f 2).n),.bool ((D.f 3).b),.bool ((D.f 4).b),.slice ((D.f 5).A) ((D.f 5).l) ((D.f 5).c),.slice ((D.f 6).A) ((D.f 6).l) ((D.f 6).c),.map D.m]) (r:=false) hE).pk (env':=[(0,.p 0 0)])
 refine qag [0] kz ?_
 refine qam (qaR hW hE0 (d:=2) (cs:=[.int .i64 0,.slice none 0 0,.bool false,.slice none 0 0,.slice none 0 0]) kz fun b9 q7 q8 nM nN nO md me=>?_)
 refine qaf (qab ?_)
 refine qag [0,1,2,3] kz ?_
 refine qam (qhP (t:=34) (e:=37) (size:=5) (bytes:=88) (d:=6) (j:=7) (.agg #[.int .i64 0,.slice none 0 0,.bool false,.slice none 0 0,.slice none 0 0]) (.int .i64 0 :: .slice none 0 0 :: .bool false :: .slice none 0 0 :: .slice none 0 0 :: .int .i64 0 :: .slice none 0 0 :: .bool false :: .slice none 0 0 :: .slice none 0 0 :: .int .i64 0 :: .slice none 0 0 :: .bool false :: .slice none 0 0 :: .slice none 0 0 :: .int .i64 0 :: .slice none 0 0 :: .bool false :: .slice none 0 0 :: .slice none 0 0 :: .int .i64 0 :: .slice none 0 0 :: .bool false :: .slice none 0 0 :: .slice none 0 0 :: .int .i64 0 :: .slice none 0 0 :: .bool false :: .slice none 0 0 :: .slice none 0 0 :: .int .i64 0 :: .slice none 0 0 :: .bool false :: .slice none 0 0 :: .slice none 0 0 :: []) md me fun aa q9 ra nP nQ nR gp mf=>?_)
 refine qaj [1] [2,3] [(0,.p 0 0),(2,.p 1 0),(7,.v (.agg #[.int .i64 0,.slice none 0 0,.bool false,.slice (some ⟨aa,0,none⟩) 7 7,.slice none 0 0]))] gp mf fun rb mg=>?_
 refine qam (qaR gp mg (d:=3) (cs:=[.int .i64 0,.slice none 0 0,.bool false,.slice none 0 0,.slice none 0 0]) kz fun ba rc re nS nT nU mh mj=>?_)
 refine qam (qav mh mj (oi:=3) (cs:=[.int .i64 0,.slice none 0 0,.bool false,.slice (some ⟨aa,0,none⟩) 7 7,.slice none 0 0]) kz fun rf nV ml mn=>?_)
 refine qaf (qab ?_)
 refine qaG 9 kz ml fun rg nW mo gq=>?_
 refine qaD [0,1,2,3,4,5,6,7] [(0,.p 0 0),(2,.p 1 0),(3,.p 3 0),(9,.v (.slice (some ⟨aa,0,none⟩) 7 7)),(15,.v (.agg #[.int .i64 (IntKind.i64.wrap ((D.f 0).n)),.slice none 0 0,.bool false,.slice none 0 0,.slice none 0 0]))] 2 (qaa qad) (fun _ h=>h.cells) gq mn fun rh mp=>?_
 refine qaH mp (i:=8) (t:=34) (A:=(some ⟨aa,0,none⟩)) (m:=7) (q:=0) (d:=16) kz (e:=37) (size:=5) (bytes:=88) (j:=0) kz (b:=aa) (o:=0) rfl rfl (by decide) kz kz (qaa qad) gq fun ri mq=>?_
 have mr:=mq.recast 16 (.v (.pointer (some ⟨aa,0 + 0 * 5,none⟩))) (.p 2 0) rfl rfl (Nat.le_of_ble_eq_true (n:=3) rfl)
 have mt:=mr.pk (env':=[(0,.p 0 0),(2,.p 1 0),(3,.p 3 0),(9,.v (.slice (some ⟨aa,0,none⟩) 7 7)),(15,.v (.agg #[.int .i64 (IntKind.i64.wrap ((D.f 0).n)),.slice none 0 0,.bool false,.slice none 0 0,.slice none 0 0])),(16,.p 2 0)])
 refine qaw (i:=9) kz (qav mo mt (oi:=2) (cs:=(.int .i64 (IntKind.i64.wrap ((D.f 0).n)) :: .slice none 0 0 :: .bool false :: .slice none 0 0 :: .slice none 0 0 :: .int .i64 0 :: .slice none 0 0 :: .bool false :: .slice none 0 0 :: .slice none 0 0 :: .int .i64 0 :: .slice none 0 0 :: .bool false :: .slice none 0 0 :: .slice none 0 0 :: .int .i64 0 :: .slice none 0 0 :: .bool false :: .slice none 0 0 :: .slice none 0 0 :: .int .i64 0 :: .slice none 0 0 :: .bool false :: .slice none 0 0 :: .slice none 0 0 :: .int .i64 0 :: .slice none 0 0 :: .bool false :: .slice none 0 0 :: .slice none 0 0 :: .int .i64 0 :: .slice none 0 0 :: .bool false :: .slice none 0 0 :: .slice none 0 0 :: [])) kz fun rj nX mu mw=>?_)
 refine ⟨fun h=>absurd rfl h,?_⟩
 refine qaF kz ?_ _
 refine qab ?_
 refine qaG 8 kz mu fun rl nY mx gt=>?_
 refine qaD [0,1,2,3,4,5,6] [(0,.p 0 0),(2,.p 1 0),(3,.p 3 0),(18,.v (.slice (some ⟨aa,0,none⟩) 7 7)),(23,.v (.agg #[.int .i64 ((D.f 1).n),.slice none 0 0,.bool false,.slice none 0 0,.slice none 0 0]))] 2 (qaa qad) (fun _ h=>h.cells) gt mw fun rm my=>?_
 refine qaH my (i:=7) (t:=34) (A:=(some ⟨aa,0,none⟩)) (m:=7) (q:=1) (d:=24) kz (e:=37) (size:=5) (bytes:=88) (j:=1) kz (b:=aa) (o:=0) rfl rfl (by decide) kz kz (qaa qad) gt fun rn mz=>?_
 have mA:=mz.recast 24 (.v (.pointer (some ⟨aa,0 + 1 * 5,none⟩))) (.p 2 5) rfl rfl (Nat.le_of_ble_eq_true (n:=3) rfl)
 have mB:=mA.pk (env':=[(0,.p 0 0),(2,.p 1 0),(3,.p 3 0),(18,.v (.slice (some ⟨aa,0,none⟩) 7 7)),(23,.v (.agg #[.int .i64 ((D.f 1).n),.slice none 0 0,.bool false,.slice none 0 0,.slice none 0 0])),(24,.p 2 5)])
 refine qaw (i:=8) kz (qav mx mB (oi:=2) (cs:=(.int .i64 (IntKind.i64.wrap ((D.f 0).n)) :: .slice none 0 0 :: .bool false :: .slice none 0 0 :: .slice none 0 0 :: .int .i64 ((D.f 1).n) :: .slice none 0 0 :: .bool false :: .slice none 0 0 :: .slice none 0 0 :: .int .i64 0 :: .slice none 0 0 :: .bool false :: .slice none 0 0 :: .slice none 0 0 :: .int .i64 0 :: .slice none 0 0 :: .bool false :: .slice none 0 0 :: .slice none 0 0 :: .int .i64 0 :: .slice none 0 0 :: .bool false :: .slice none 0 0 :: .slice none 0 0 :: .int .i64 0 :: .slice none 0 0 :: .bool false :: .slice none 0 0 :: .slice none 0 0 :: .int .i64 0 :: .slice none 0 0 :: .bool false :: .slice none 0 0 :: .slice none 0 0 :: [])) kz fun ro nZ mC mD=>?_)
 refine ⟨fun h=>absurd rfl h,?_⟩
 refine qaF kz ?_ _
 refine qab ?_
 refine qaG 8 kz mC fun rp n0 mF gv=>?_
 refine qaD [0,1,2,3,4,5,6] [(0,.p 0 0),(2,.p 1 0),(3,.p 3 0),(26,.v (.slice (some ⟨aa,0,none⟩) 7 7)),(31,.v (.agg #[.int .i64 ((D.f 2).n),.slice none 0 0,.bool false,.slice none 0 0,.slice none 0 0]))] 2 (qaa qad) (fun _ h=>h.cells) gv mD fun rq mG=>?_
 refine qaH mG (i:=7) (t:=34) (A:=(some ⟨aa,0,none⟩)) (m:=7) (q:=2) (d:=32) kz (e:=37) (size:=5) (bytes:=88) (j:=2) kz (b:=aa) (o:=0) rfl rfl (by decide) kz kz (qaa qad) gv fun rt mH=>?_
 have mI:=mH.recast 32 (.v (.pointer (some ⟨aa,0 + 2 * 5,none⟩))) (.p 2 10) rfl rfl (Nat.le_of_ble_eq_true (n:=3) rfl)
 have mJ:=mI.pk (env':=[(0,.p 0 0),(2,.p 1 0),(3,.p 3 0),(26,.v (.slice (some ⟨aa,0,none⟩) 7 7)),(31,.v (.agg #[.int .i64 ((D.f 2).n),.slice none 0 0,.bool false,.slice none 0 0,.slice none 0 0])),(32,.p 2 10)])
 refine qaw (i:=8) kz (qav mF mJ (oi:=2) (cs:=(.int .i64 (IntKind.i64.wrap ((D.f 0).n)) :: .slice none 0 0 :: .bool false :: .slice none 0 0 :: .slice none 0 0 :: .int .i64 ((D.f 1).n) :: .slice none 0 0 :: .bool false :: .slice none 0 0 :: .slice none 0 0 :: .int .i64 ((D.f 2).n) :: .slice none 0 0 :: .bool false :: .slice none 0 0 :: .slice none 0 0 :: .int .i64 0 :: .slice none 0 0 :: .bool false :: .slice none 0 0 :: .slice none 0 0 :: .int .i64 0 :: .slice none 0 0 :: .bool false :: .slice none 0 0 :: .slice none 0 0 :: .int .i64 0 :: .slice none 0 0 :: .bool false :: .slice none 0 0 :: .slice none 0 0 :: .int .i64 0 :: .slice none 0 0 :: .bool false :: .slice none 0 0 :: .slice none 0 0 :: [])) kz fun ru n4 mK mL=>?_)
 refine ⟨fun h=>absurd rfl h,?_⟩
 refine qaF kz ?_ _
 refine qab ?_
 refine qaG 8 kz mK fun n5 n8 gd mM=>?_
 refine qaD [0,1,2,3,4,5] [(0,.p 0 0),(2,.p 1 0),(3,.p 3 0),(34,.v (.slice (some ⟨aa,0,none⟩) 7 7)),(38,.v (.bool ((D.f 3).b)))] 3 (qaa qad) (fun _ h=>h.cells) mM mL fun rv mN=>?_
 refine qaw (i:=6) kz (qal mN (f:=31) (vs:=[.bool ((D.f 3).b)]) (d:=39) kz Tryd.call31 (qll _ _ (Imm F w n5 [⟨b,o,[.int .i16 v,.int .i32 ((D.f 0).n),.int .i64 ((D.f 1).n),.int .i64 ((D.f 2).n),.bool ((D.f 3).b),.bool ((D.f 4).b),.slice ((D.f 5).A) ((D.f 5).l) ((D.f 5).c),.slice ((D.f 6).A) ((D.f 6).l) ((D.f 6).c),.map D.m],false⟩,⟨b9,0,[.int .i64 0,.slice none 0 0,.bool false,.slice none 0 0,.slice none 0 0],true⟩,⟨aa,0,(.int .i64 (IntKind.i64.wrap ((D.f 0).n)) :: .slice none 0 0 :: .bool false :: .slice none 0 0 :: .slice none 0 0 :: .int .i64 ((D.f 1).n) :: .slice none 0 0 :: .bool false :: .slice none 0 0 :: .slice none 0 0 :: .int .i64 ((D.f 2).n) :: .slice none 0 0 :: .bool false :: .slice none 0 0 :: .slice none 0 0 :: .int .i64 0 :: .slice none 0 0 :: .bool false :: .slice none 0 0 :: .slice none 0 0 :: .int .i64 0 :: .slice none 0 0 :: .bool false :: .slice none 0 0 :: .slice none 0 0 :: .int .i64 0 :: .slice none 0 0 :: .bool false :: .slice none 0 0 :: .slice none 0 0 :: .int .i64 0 :: .slice none 0 0 :: .bool false :: .slice none 0 0 :: .slice none 0 0 :: []),true⟩,⟨ba,0,[.int .i64 0,.slice none 0 0,.bool false,.slice (some ⟨aa,0,none⟩) 7 7,.slice none 0 0],true⟩] [])) ?_)
 rintro e_ rx ⟨oa,rfl,mO,ge⟩
 have gg:=mO.move (Step.refl _ Nil) nilM (gd.laid (G:=F) ge)
 obtain ⟨ay,az,aA,aB,aC,aD,aE,aF,ab,ac,ae,m8,m9,d6,mQ,mR,od,oe⟩:=gg.open_
 rw [d6] at gg
 have mS:=mQ.small
 have mT:=mR.small
 rw [d6]
 refine ⟨_,rfl,fun og gw=>?_⟩
 have eI:=gd.next_nil ge
 have gx:=gd.frN ge
 have eJ:=TT.ofW gx eI
 refine ⟨fun _=>eJ,?_⟩
 refine qaH gw (i:=7) (t:=34) (A:=(some ⟨aa,0,none⟩)) (m:=7) (q:=3) (d:=40) kz (e:=37) (size:=5) (bytes:=88) (j:=3) kz (b:=aa) (o:=0) rfl rfl (by decide) kz kz (qaa qad) eJ fun oh gy=>?_
 have gz:=gy.recast 40 (.v (.pointer (some ⟨aa,0 + 3 * 5,none⟩))) (.p 2 15) rfl rfl (Nat.le_of_ble_eq_true (n:=3) rfl)
 have gA:=gz.pk (env':=[(0,.p 0 0),(2,.p 1 0),(3,.p 3 0),(34,.v (.slice (some ⟨aa,0,none⟩) 7 7)),(38,.v (.bool ((D.f 3).b))),(39,.v (.agg #[.int .i64 ay,.slice aD az.length aE,.bool aA,.slice aF aB.length ab,.slice ac aC.length ae])),(40,.p 2 15)])
 refine qaw (i:=8) kz (qav eI gA (oi:=2) (cs:=(.int .i64 (IntKind.i64.wrap ((D.f 0).n)) :: .slice none 0 0 :: .bool false :: .slice none 0 0 :: .slice none 0 0 :: .int .i64 ((D.f 1).n) :: .slice none 0 0 :: .bool false :: .slice none 0 0 :: .slice none 0 0 :: .int .i64 ((D.f 2).n) :: .slice none 0 0 :: .bool false :: .slice none 0 0 :: .slice none 0 0 :: .int .i64 ay :: .slice aD az.length aE :: .bool aA :: .slice aF aB.length ab :: .slice ac aC.length ae :: .int .i64 0 :: .slice none 0 0 :: .bool false :: .slice none 0 0 :: .slice none 0 0 :: .int .i64 0 :: .slice none 0 0 :: .bool false :: .slice none 0 0 :: .slice none 0 0 :: .int .i64 0 :: .slice none 0 0 :: .bool false :: .slice none 0 0 :: .slice none 0 0 :: [])) kz fun ol eK gB gC=>?_)
 refine ⟨fun h=>absurd rfl h,?_⟩
 refine qaF kz ?_ _
 refine qab ?_
 refine qaG 8 kz gB fun mU eL d7 gD=>?_
 refine qaD [0,1,2,3,4,5] [(0,.p 0 0),(2,.p 1 0),(3,.p 3 0),(42,.v (.slice (some ⟨aa,0,none⟩) 7 7)),(46,.v (.bool ((D.f 4).b)))] 3 (qaa qad) (fun _ h=>h.cells) gD gC fun om gE=>?_
 refine qaw (i:=6) kz (qal gE (f:=31) (vs:=[.bool ((D.f 4).b)]) (d:=47) kz Tryd.call31 (qll _ _ (Imm F w mU [⟨b,o,[.int .i16 v,.int .i32 ((D.f 0).n),.int .i64 ((D.f 1).n),.int .i64 ((D.f 2).n),.bool ((D.f 3).b),.bool ((D.f 4).b),.slice ((D.f 5).A) ((D.f 5).l) ((D.f 5).c),.slice ((D.f 6).A) ((D.f 6).l) ((D.f 6).c),.map D.m],false⟩,⟨b9,0,[.int .i64 0,.slice none 0 0,.bool false,.slice none 0 0,.slice none 0 0],true⟩,⟨aa,0,(.int .i64 (IntKind.i64.wrap ((D.f 0).n)) :: .slice none 0 0 :: .bool false :: .slice none 0 0 :: .slice none 0 0 :: .int .i64 ((D.f 1).n) :: .slice none 0 0 :: .bool false :: .slice none 0 0 :: .slice none 0 0 :: .int .i64 ((D.f 2).n) :: .slice none 0 0 :: .bool false :: .slice none 0 0 :: .slice none 0 0 :: .int .i64 ay :: .slice aD az.length aE :: .bool aA :: .slice aF aB.length ab :: .slice ac aC.length ae :: .int .i64 0 :: .slice none 0 0 :: .bool false :: .slice none 0 0 :: .slice none 0 0 :: .int .i64 0 :: .slice none 0 0 :: .bool false :: .slice none 0 0 :: .slice none 0 0 :: .int .i64 0 :: .slice none 0 0 :: .bool false :: .slice none 0 0 :: .slice none 0 0 :: []),true⟩,⟨ba,0,[.int .i64 0,.slice none 0 0,.bool false,.slice (some ⟨aa,0,none⟩) 7 7,.slice none 0 0],true⟩] [])) ?_)
 rintro e_ oq ⟨na,rfl,gF,d8⟩
 have d9:=gF.move (Step.refl _ Nil) nilM (d7.laid (G:=F) d8)
 obtain ⟨af,ag,ah,ai,aj,ak,al,am,ao,ap,ar,nb,nc,ea,mV,mW,ot,ou⟩:=d9.open_
 rw [ea] at d9
 have mX:=mV.small
 have mY:=mW.small
 rw [ea]
 refine ⟨_,rfl,fun ov gG=>?_⟩
 have eM:=d7.next_nil d8
 have eb:=d7.frN d8
 have eN:=TT.ofW eb eM
 refine ⟨fun _=>eN,?_⟩
 refine qaH gG (i:=7) (t:=34) (A:=(some ⟨aa,0,none⟩)) (m:=7) (q:=4) (d:=48) kz (e:=37) (size:=5) (bytes:=88) (j:=4) kz (b:=aa) (o:=0) rfl rfl (by decide) kz kz (qaa qad) eN fun ow gH=>?_
 have gI:=gH.recast 48 (.v (.pointer (some ⟨aa,0 + 4 * 5,none⟩))) (.p 2 20) rfl rfl (Nat.le_of_ble_eq_true (n:=3) rfl)
 have gJ:=gI.pk (env':=[(0,.p 0 0),(2,.p 1 0),(3,.p 3 0),(42,.v (.slice (some ⟨aa,0,none⟩) 7 7)),(46,.v (.bool ((D.f 4).b))),(47,.v (.agg #[.int .i64 af,.slice ak ag.length al,.bool ah,.slice am ai.length ao,.slice ap aj.length ar])),(48,.p 2 20)])
 refine qaw (i:=8) kz (qav eM gJ (oi:=2) (cs:=(.int .i64 (IntKind.i64.wrap ((D.f 0).n)) :: .slice none 0 0 :: .bool false :: .slice none 0 0 :: .slice none 0 0 :: .int .i64 ((D.f 1).n) :: .slice none 0 0 :: .bool false :: .slice none 0 0 :: .slice none 0 0 :: .int .i64 ((D.f 2).n) :: .slice none 0 0 :: .bool false :: .slice none 0 0 :: .slice none 0 0 :: .int .i64 ay :: .slice aD az.length aE :: .bool aA :: .slice aF aB.length ab :: .slice ac aC.length ae :: .int .i64 af :: .slice ak ag.length al :: .bool ah :: .slice am ai.length ao :: .slice ap aj.length ar :: .int .i64 0 :: .slice none 0 0 :: .bool false :: .slice none 0 0 :: .slice none 0 0 :: .int .i64 0 :: .slice none 0 0 :: .bool false :: .slice none 0 0 :: .slice none 0 0 :: [])) kz fun ox dA gK gL=>?_)
 refine ⟨fun h=>absurd rfl h,?_⟩
 refine qaF kz ?_ _
 refine qab ?_
 refine qaG 9 kz gK fun oy dB gM ec=>?_
 refine qaD [0,1,2,3,4,5,6] [(0,.p 0 0),(2,.p 1 0),(3,.p 3 0),(50,.v (.slice (some ⟨aa,0,none⟩) 7 7)),(55,.v (.bool (((D.f 5).A).isNone)))] 3 (qaa qad) (fun _ h=>h.cells) ec gL fun oz gN=>?_
 refine qaw (i:=7) kz (qaC gN (t:=34) (A:=(some ⟨aa,0,none⟩)) (m:=7) (q:=5) (d:=56) kz (e:=37) (size:=5) (bytes:=88) (j:=5) kz (b:=aa) (o:=0) rfl rfl (by decide) fun oA gO=>?_)
 have gP:=gO.recast 56 (.v (.pointer (some ⟨aa,0 + 5 * 5,none⟩))) (.p 2 25) rfl rfl (Nat.le_of_ble_eq_true (n:=3) rfl)
 have gQ:=gP.pk (env':=[(0,.p 0 0),(2,.p 1 0),(3,.p 3 0),(50,.v (.slice (some ⟨aa,0,none⟩) 7 7)),(55,.v (.bool (((D.f 5).A).isNone))),(56,.p 2 25)])
 refine ⟨fun _=>ec,?_⟩
 refine qaD [8] [(0,.p 0 0),(2,.p 1 0),(3,.p 3 0),(55,.v (.bool (((D.f 5).A).isNone))),(57,.p 2 27)] 1 (qaa qad) (fun _ h=>h.cells) ec gQ fun oB gR=>?_
 refine qaw (i:=9) kz (qav gM gR (oi:=2) (cs:=(.int .i64 (IntKind.i64.wrap ((D.f 0).n)) :: .slice none 0 0 :: .bool false :: .slice none 0 0 :: .slice none 0 0 :: .int .i64 ((D.f 1).n) :: .slice none 0 0 :: .bool false :: .slice none 0 0 :: .slice none 0 0 :: .int .i64 ((D.f 2).n) :: .slice none 0 0 :: .bool false :: .slice none 0 0 :: .slice none 0 0 :: .int .i64 ay :: .slice aD az.length aE :: .bool aA :: .slice aF aB.length ab :: .slice ac aC.length ae :: .int .i64 af :: .slice ak ag.length al :: .bool ah :: .slice am ai.length ao :: .slice ap aj.length ar :: .int .i64 0 :: .slice none 0 0 :: .bool (((D.f 5).A).isNone) :: .slice none 0 0 :: .slice none 0 0 :: .int .i64 0 :: .slice none 0 0 :: .bool false :: .slice none 0 0 :: .slice none 0 0 :: [])) kz fun oC dC ee gS=>?_)
 refine ⟨fun h=>absurd rfl h,?_⟩
 refine qaF kz ?_ _
 refine qab ?_
 refine wp_seq ?_
 refine qar [(0,.p 0 0),(2,.p 1 0),(3,.p 3 0),(62,.v (.int .i64 (((D.f 5).l:Nat):Int))),(63,.v (.int .i64 0))] ee gS fun oD gT=>?_
 refine wp_block ?_
 have eO:=ee.addNil 37 5
 have dD:=ee.frNil 37 5
 refine wp_loop_ghost (fun n_ a_ w_=>∃ (k5_:Nat) (A5_:Option Addr) (c5_:Nat) (xs5_:List Value) (css5_:List (List Value)),n_ = (D.f 5).l - k5_ ∧ k5_ ≤ (D.f 5).l ∧ (Trees w_ (Imm F w w_ [⟨b,o,[.int .i16 v,.int .i32 ((D.f 0).n),.int .i64 ((D.f 1).n),.int .i64 ((D.f 2).n),.bool ((D.f 3).b),.bool ((D.f 4).b),.slice ((D.f 5).A) ((D.f 5).l) ((D.f 5).c),.slice ((D.f 6).A) ((D.f 6).l) ((D.f 6).c),.map D.m],false⟩,⟨b9,0,[.int .i64 0,.slice none 0 0,.bool false,.slice none 0 0,.slice none 0 0],true⟩,⟨aa,0,(.int .i64 (IntKind.i64.wrap ((D.f 0).n)) :: .slice none 0 0 :: .bool false :: .slice none 0 0 :: .slice none 0 0 :: .int .i64 ((D.f 1).n) :: .slice none 0 0 :: .bool false :: .slice none 0 0 :: .slice none 0 0 :: .int .i64 ((D.f 2).n) :: .slice none 0 0 :: .bool false :: .slice none 0 0 :: .slice none 0 0 :: .int .i64 ay :: .slice aD az.length aE :: .bool aA :: .slice aF aB.length ab :: .slice ac aC.length ae :: .int .i64 af :: .slice ak ag.length al :: .bool ah :: .slice am ai.length ao :: .slice ap aj.length ar :: .int .i64 0 :: .slice none 0 0 :: .bool (((D.f 5).A).isNone) :: .slice A5_ k5_ c5_ :: .slice none 0 0 :: .int .i64 0 :: .slice none 0 0 :: .bool false :: .slice none 0 0 :: .slice none 0 0 :: []),true⟩,⟨ba,0,[.int .i64 0,.slice none 0 0,.bool false,.slice (some ⟨aa,0,none⟩) 7 7,.slice none 0 0],true⟩] [⟨A5_,c5_,37,5,k5_,xs5_⟩]) xs5_ (((List.range (D.f 5).l).map (fun i=>Tree.mk 0 ((D.f 5).f i).o false [] [])).take k5_) css5_) ∧ LInv eO 178 [⟨b,o,[.int .i16 v,.int .i32 ((D.f 0).n),.int .i64 ((D.f 1).n),.int .i64 ((D.f 2).n),.bool ((D.f 3).b),.bool ((D.f 4).b),.slice ((D.f 5).A) ((D.f 5).l) ((D.f 5).c),.slice ((D.f 6).A) ((D.f 6).l) ((D.f 6).c),.map D.m],false⟩,⟨b9,0,[.int .i64 0,.slice none 0 0,.bool false,.slice none 0 0,.slice none 0 0],true⟩,⟨aa,0,(.int .i64 (IntKind.i64.wrap ((D.f 0).n)) :: .slice none 0 0 :: .bool false :: .slice none 0 0 :: .slice none 0 0 :: .int .i64 ((D.f 1).n) :: .slice none 0 0 :: .bool false :: .slice none 0 0 :: .slice none 0 0 :: .int .i64 ((D.f 2).n) :: .slice none 0 0 :: .bool false :: .slice none 0 0 :: .slice none 0 0 :: .int .i64 ay :: .slice aD az.length aE :: .bool aA :: .slice aF aB.length ab :: .slice ac aC.length ae :: .int .i64 af :: .slice ak ag.length al :: .bool ah :: .slice am ai.length ao :: .slice ap aj.length ar :: .int .i64 0 :: .slice none 0 0 :: .bool (((D.f 5).A).isNone) :: .slice A5_ k5_ c5_ :: .slice none 0 0 :: .int .i64 0 :: .slice none 0 0 :: .bool false :: .slice none 0 0 :: .slice none 0 0 :: []),true⟩,⟨ba,0,[.int .i64 0,.slice none 0 0,.bool false,.slice (some ⟨aa,0,none⟩) 7 7,.slice none 0 0],true⟩] [⟨A5_,c5_,37,5,k5_,xs5_⟩] [(0,.p 0 0),(2,.p 1 0),(3,.p 3 0),(62,.v (.int .i64 (((D.f 5).l:Nat):Int))),(63,.v (.int .i64 ((k5_:Nat):Int)))] a_ w_) ((D.f 5).l) ⟨0,none,0,[],[],by omega,by omega,Trees.nil _ _,gT.pk,eO,Fr.refl _ _ _⟩ ?_
 rintro oE oF oG ⟨k5_,A5_,c5_,xs5_,css5_,nf,ng,hT5_,gU,dE,bu⟩
 refine qar [(0,.p 0 0),(2,.p 1 0),(3,.p 3 0),(62,.v (.int .i64 (((D.f 5).l:Nat):Int))),(63,.v (.int .i64 ((k5_:Nat):Int))),(64,.v (.bool (decide (((k5_:Nat):Int) < (((D.f 5).l:Nat):Int)))))] dE gU fun oH ef=>?_
 refine wp_seq ?_
 refine qay ef (b:=decide (((k5_:Nat):Int) < (((D.f 5).l:Nat):Int))) kz (fun eg=>?_) (fun eg=>?_)
 ·
  have nh:=of_decide_eq_true eg
  refine wp_skip ?_
  refine qab ?_
  refine wp_seq ?_
  refine wp_block ?_
  refine qar [(0,.p 0 0),(2,.p 1 0),(3,.p 3 0),(4,.v (.int .i64 ((k5_:Nat):Int))),(62,.v (.int .i64 (((D.f 5).l:Nat):Int))),(63,.v (.int .i64 ((k5_:Nat):Int)))] dE ef fun oI gV=>?_
  refine qaG 4 kz dE fun oJ aR gW ni=>?_
  refine qaw (i:=0) kz (qaR gW gV (d:=66) (cs:=[.bool false]) kz fun oK oL oM nj nk au eh eP=>?_)
  have gX:=TT.ofW au eh
  refine ⟨fun _=>gX,?_⟩
  refine qd7 (i:=1) (j:=2) kz ?_ ?_
  ·
   refine (qav eh eP (oi:=4) (cs:=[.bool true]) kz fun oN bZ eQ gY=>?_)
   have gZ:=TT.ofW (au.trans bZ) eQ
   refine ⟨fun _=>gZ,?_⟩
   refine qaw (i:=2) kz (qav eQ gY (oi:=4) (cs:=[.bool false]) kz fun oO cJ dF g9=>?_)
   have hC:=TT.ofW ((au.trans bZ).trans cJ) dF
   refine ⟨fun _=>hC,?_⟩
   refine qaw (i:=3) kz (qa9 [0,2,3,4,62,63,67] dF.cells g9 (env':=[(0,.p 0 0),(2,.p 1 0),(3,.p 3 0),(4,.v (.int .i64 ((k5_:Nat):Int))),(62,.v (.int .i64 (((D.f 5).l:Nat):Int))),(63,.v (.int .i64 ((k5_:Nat):Int))),(67,.v (.bool false))]) kz fun oP eR=>?_)
   have hJ:=TT.ofW ((au.trans bZ).trans cJ) dF
   refine ⟨fun _=>hJ,?_⟩
   refine qaF kz ?_ _
   refine qab ?_
   refine qap eR (b:=false) kz rfl ?_
   refine qdd 20 kz dF fun oQ ei eS cK=>?_
   refine qaD [0,1,2,3,7,8,9,10,11] [(0,.p 0 0),(2,.p 1 0),(3,.p 3 0),(62,.v (.int .i64 (((D.f 5).l:Nat):Int))),(63,.v (.int .i64 ((k5_:Nat):Int))),(89,.v (.slice (some ⟨aa,0,none⟩) 7 7)),(91,.v (.slice (some ⟨aa,0,none⟩) 7 7)),(98,.v (.slice ((D.f 5).A) ((D.f 5).l) ((D.f 5).c))),(99,.v (.int .i64 ((k5_:Nat):Int)))] 12 (qac (qaa (qaa (qac (qaa qad))))) (fun _ h=>h.cells) cK eR fun oR hK=>?_
   refine qaH hK (i:=4) (t:=34) (A:=(some ⟨aa,0,none⟩)) (m:=7) (q:=5) (d:=92) kz (e:=37) (size:=5) (bytes:=88) (j:=5) kz (b:=aa) (o:=0) rfl rfl (by decide) kz kz (qac (qaa (qaa (qac (qaa qad))))) cK fun oS hZ=>?_
   have ia:=hZ.recast 92 (.v (.pointer (some ⟨aa,0 + 5 * 5,none⟩))) (.p 2 25) rfl rfl (Nat.le_of_ble_eq_true (n:=3) rfl)
   have ib:=ia.pk (env':=[(0,.p 0 0),(2,.p 1 0),(3,.p 3 0),(62,.v (.int .i64 (((D.f 5).l:Nat):Int))),(63,.v (.int .i64 ((k5_:Nat):Int))),(89,.v (.slice (some ⟨aa,0,none⟩) 7 7)),(91,.v (.slice (some ⟨aa,0,none⟩) 7 7)),(98,.v (.slice ((D.f 5).A) ((D.f 5).l) ((D.f 5).c))),(99,.v (.int .i64 ((k5_:Nat):Int))),(92,.p 2 25)])
   refine qaD [5,6] [(0,.p 0 0),(2,.p 1 0),(3,.p 3 0),(62,.v (.int .i64 (((D.f 5).l:Nat):Int))),(63,.v (.int .i64 ((k5_:Nat):Int))),(89,.v (.slice (some ⟨aa,0,none⟩) 7 7)),(94,.v (.slice A5_ k5_ c5_)),(98,.v (.slice ((D.f 5).A) ((D.f 5).l) ((D.f 5).c))),(99,.v (.int .i64 ((k5_:Nat):Int)))] 9 (qac (qaa (qaa (qac (qaa qad))))) (fun _ h=>h.cells) cK ib fun oT ic=>?_
   obtain ⟨dS,dT,ig,nl,gh⟩:=Slots.get g6 (i:=k5_) (by omega)
   have eU:O16 _ _ (some ⟨dS,dT + k5_ * 16,none⟩) 16 (((D.f 5).f k5_).o):=qha (k:=0) (b:=dS) (o:=dT + k5_ * 16) (s:=((D.f 5).f k5_).o) gh (g6e k5_ (by omega)) (fun j hj=>by match j,hj with | 0,_=>rfl | 1,_=>rfl | 2,_=>rfl | 3,_=>rfl | 4,_=>rfl | 5,_=>rfl | 6,_=>rfl | 7,_=>rfl | 8,_=>rfl | 9,_=>rfl | 10,_=>rfl | 11,_=>rfl | 12,_=>rfl | 13,_=>rfl | 14,_=>rfl | 15,_=>rfl | n_ + 16,h_=>exact absurd h_ (by omega))
   refine qaH ic (i:=12) (t:=70) (A:=(D.f 5).A) (m:=((D.f 5).l)) (q:=((k5_:Nat):Int)) (d:=100) kz (e:=78) (size:=16) (bytes:=16) kz ig rfl (by omega) kz kz (qac (qaa (qaa (qac (qaa qad))))) cK fun oU ii=>?_
   refine qaD [13] [(0,.p 0 0),(2,.p 1 0),(3,.p 3 0),(62,.v (.int .i64 (((D.f 5).l:Nat):Int))),(63,.v (.int .i64 ((k5_:Nat):Int))),(89,.v (.slice (some ⟨aa,0,none⟩) 7 7)),(94,.v (.slice A5_ k5_ c5_)),(101,.v (.slice (some ⟨dS,dT + k5_ * 16,none⟩) 16 16))] 7 (qac (qaa (qaa (qac (qaa qad))))) (fun _ h=>h.cells) cK ii fun oV ij=>?_
   have cL:=eS.addNil 5 1
   have bw:=eS.frNil 5 1
   refine qaw (i:=14) kz (qaO cL ij (k:=1) (d:=102) (t:=22) (e:=5) (size:=1) (bytes:=1) (A:=none) (As:=(some ⟨dS,dT + k5_ * 16,none⟩)) (m0:=0) (c:=0) (m:=16) (cs:=16) (xs:=[]) (news:=bc (((D.f 5).f k5_).o)) kz kz rfl (eU.move cL.step nilM cL.imm).src (eU.move cL.step nilM cL.imm).cap (by omega) fun aW aX oW oX bx ik il=>?_)
   have im:(⟨aW,aX,5,1,0 + 16,[] ++ bc (((D.f 5).f k5_).o)⟩:Rw) = brow aW aX 5 (((D.f 5).f k5_).o):=by rw [List.nil_append]; unfold brow; rw [(g6e k5_ (by omega))]
   obtain ⟨eV,bz⟩:=ik.rowEq 1 [⟨A5_,c5_,37,5,k5_,xs5_⟩,brow aW aX 5 (((D.f 5).f k5_).o)] im
   have io:=EnvOk.pick il (ks:=[0,2,3,62,63,89,94,101,102]) (env':=[(0,.p 0 0),(2,.p 1 0),(3,.p 3 0),(62,.v (.int .i64 (((D.f 5).l:Nat):Int))),(63,.v (.int .i64 ((k5_:Nat):Int))),(89,.v (.slice (some ⟨aa,0,none⟩) 7 7)),(94,.v (.slice A5_ k5_ c5_)),(101,.v (.slice (some ⟨dS,dT + k5_ * 16,none⟩) 16 16)),(102,.v (.slice aW (0 + 16) aX))]) kz
   have ip:=io.cast (env':=[(0,.p 0 0),(2,.p 1 0),(3,.p 3 0),(62,.v (.int .i64 (((D.f 5).l:Nat):Int))),(63,.v (.int .i64 ((k5_:Nat):Int))),(89,.v (.slice (some ⟨aa,0,none⟩) 7 7)),(94,.v (.slice A5_ k5_ c5_)),(101,.v (.slice (some ⟨dS,dT + k5_ * 16,none⟩) 16 16)),(102,.v (.slice aW ((((D.f 5).f k5_).o).length) aX))]) (by rw [(g6e k5_ (by omega))])
   have iq:=eV.giveUp (G:=F) 1 [⟨A5_,c5_,37,5,k5_,xs5_⟩] (show _ = some (brow aW aX 5 (((D.f 5).f k5_).o)) from rfl) (by rw [(g6e k5_ (by omega))]; decide)
   obtain ⟨eW,bA⟩:=eV.cutR 1 [⟨A5_,c5_,37,5,k5_,xs5_⟩]
   have eX:=TT.ofW (((bw.trans bx).trans bz).trans bA) eW
   refine ⟨fun _=>eX,?_⟩
   refine qaD [15] [(0,.p 0 0),(2,.p 1 0),(3,.p 3 0),(62,.v (.int .i64 (((D.f 5).l:Nat):Int))),(63,.v (.int .i64 ((k5_:Nat):Int))),(89,.v (.slice (some ⟨aa,0,none⟩) 7 7)),(94,.v (.slice A5_ k5_ c5_)),(103,.v (.agg #[.int .i64 0,.slice aW ((((D.f 5).f k5_).o).length) aX,.bool false,.slice none 0 0,.slice none 0 0]))] 5 (qac (qaa (qaa (qac (qaa qad))))) (fun _ h=>h.cells) eX ip fun oY ir=>?_
   refine qaw (i:=16) kz (qbw eW ir (e:=37) (size:=5) (len:=1) (cs:=[.int .i64 0,.slice aW ((((D.f 5).f k5_).o).length) aX,.bool false,.slice none 0 0,.slice none 0 0]) (d:=104) kz kz fun iu oZ o5 nm np bd dG iv=>?_)
   have iw:=TT.ofW ((((bw.trans bx).trans bz).trans bA).trans bd) dG
   refine ⟨fun _=>iw,?_⟩
   refine qaw (i:=17) kz (qaO dG iv (k:=0) (d:=105) (t:=34) (e:=37) (size:=5) (bytes:=88) (A:=A5_) (As:=(some ⟨iu,0,none⟩)) (m0:=k5_) (c:=c5_) (m:=1) (cs:=1) (xs:=xs5_) (news:=[.int .i64 0,.slice aW ((((D.f 5).f k5_).o).length) aX,.bool false,.slice none 0 0,.slice none 0 0]) kz kz rfl (qbo (dG.own 1 _ rfl) (qby kz)) (qbA (dG.own 1 _ rfl)) (by omega) fun dU dV o6 o7 bB ej ix=>?_)
   have iy:=TT.ofW (((((bw.trans bx).trans bz).trans bA).trans bd).trans bB) ej
   refine ⟨fun _=>iy,?_⟩
   refine qaw (i:=18) kz (qaC ix (t:=34) (A:=(some ⟨aa,0,none⟩)) (m:=7) (q:=5) (d:=106) kz (e:=37) (size:=5) (bytes:=88) (j:=5) kz (b:=aa) (o:=0) rfl rfl (by decide) fun o9 iz=>?_)
   have iA:=iz.recast 106 (.v (.pointer (some ⟨aa,0 + 5 * 5,none⟩))) (.p 2 25) rfl rfl (Nat.le_of_ble_eq_true (n:=3) rfl)
   have iB:=iA.pk (env':=[(0,.p 0 0),(2,.p 1 0),(3,.p 3 0),(62,.v (.int .i64 (((D.f 5).l:Nat):Int))),(63,.v (.int .i64 ((k5_:Nat):Int))),(89,.v (.slice (some ⟨aa,0,none⟩) 7 7)),(94,.v (.slice A5_ k5_ c5_)),(103,.v (.agg #[.int .i64 0,.slice aW ((((D.f 5).f k5_).o).length) aX,.bool false,.slice none 0 0,.slice none 0 0])),(104,.v (.slice (some ⟨iu,0,none⟩) 1 1)),(105,.v (.slice dU (k5_ + 1) dV)),(106,.p 2 25)])
   have eY:=TT.ofW (((((bw.trans bx).trans bz).trans bA).trans bd).trans bB) ej
   refine ⟨fun _=>eY,?_⟩
   refine qaD [19] [(0,.p 0 0),(2,.p 1 0),(3,.p 3 0),(62,.v (.int .i64 (((D.f 5).l:Nat):Int))),(63,.v (.int .i64 ((k5_:Nat):Int))),(105,.v (.slice dU (k5_ + 1) dV)),(107,.p 2 28)] 1 (qac (qaa (qaa (qac (qaa qad))))) (fun _ h=>h.cells) eY iB fun pa iC=>?_
   refine qaw (i:=20) kz (qav ej iC (oi:=2) (cs:=(.int .i64 (IntKind.i64.wrap ((D.f 0).n)) :: .slice none 0 0 :: .bool false :: .slice none 0 0 :: .slice none 0 0 :: .int .i64 ((D.f 1).n) :: .slice none 0 0 :: .bool false :: .slice none 0 0 :: .slice none 0 0 :: .int .i64 ((D.f 2).n) :: .slice none 0 0 :: .bool false :: .slice none 0 0 :: .slice none 0 0 :: .int .i64 ay :: .slice aD az.length aE :: .bool aA :: .slice aF aB.length ab :: .slice ac aC.length ae :: .int .i64 af :: .slice ak ag.length al :: .bool ah :: .slice am ai.length ao :: .slice ap aj.length ar :: .int .i64 0 :: .slice none 0 0 :: .bool (((D.f 5).A).isNone) :: .slice dU (k5_ + 1) dV :: .slice none 0 0 :: .int .i64 0 :: .slice none 0 0 :: .bool false :: .slice none 0 0 :: .slice none 0 0 :: [])) kz fun pb cM eZ iD=>?_)
   refine ⟨fun h=>absurd rfl h,?_⟩
   refine qaF kz ?_ _
   refine qaq ?_
   refine qab ?_
   refine qat [0,1] kz ?_
   refine qaj [0,1] [] [(0,.p 0 0),(2,.p 1 0),(3,.p 3 0),(62,.v (.int .i64 (((D.f 5).l:Nat):Int))),(63,.v (.int .i64 (IntKind.i64.wrap (((k5_:Nat):Int) + 1))))] eZ iD fun pc iE=>?_
   refine qaf (qab ?_)
   obtain ⟨e9,iF,cN⟩:=eZ.cutB iE 4 [⟨b,o,[.int .i16 v,.int .i32 ((D.f 0).n),.int .i64 ((D.f 1).n),.int .i64 ((D.f 2).n),.bool ((D.f 3).b),.bool ((D.f 4).b),.slice ((D.f 5).A) ((D.f 5).l) ((D.f 5).c),.slice ((D.f 6).A) ((D.f 6).l) ((D.f 6).c),.map D.m],false⟩,⟨b9,0,[.int .i64 0,.slice none 0 0,.bool false,.slice none 0 0,.slice none 0 0],true⟩,⟨aa,0,(.int .i64 (IntKind.i64.wrap ((D.f 0).n)) :: .slice none 0 0 :: .bool false :: .slice none 0 0 :: .slice none 0 0 :: .int .i64 ((D.f 1).n) :: .slice none 0 0 :: .bool false :: .slice none 0 0 :: .slice none 0 0 :: .int .i64 ((D.f 2).n) :: .slice none 0 0 :: .bool false :: .slice none 0 0 :: .slice none 0 0 :: .int .i64 ay :: .slice aD az.length aE :: .bool aA :: .slice aF aB.length ab :: .slice ac aC.length ae :: .int .i64 af :: .slice ak ag.length al :: .bool ah :: .slice am ai.length ao :: .slice ap aj.length ar :: .int .i64 0 :: .slice none 0 0 :: .bool (((D.f 5).A).isNone) :: .slice dU (k5_ + 1) dV :: .slice none 0 0 :: .int .i64 0 :: .slice none 0 0 :: .bool false :: .slice none 0 0 :: .slice none 0 0 :: []),true⟩,⟨ba,0,[.int .i64 0,.slice none 0 0,.bool false,.slice (some ⟨aa,0,none⟩) 7 7,.slice none 0 0],true⟩] [(0,.p 0 0),(2,.p 1 0),(3,.p 3 0),(62,.v (.int .i64 (((D.f 5).l:Nat):Int))),(63,.v (.int .i64 (IntKind.i64.wrap (((k5_:Nat):Int) + 1))))]
   obtain ⟨iG,cO⟩:=iF.cutR 1 [⟨dU,dV,37,5,k5_ + 1,xs5_ ++ [.int .i64 0,.slice aW ((((D.f 5).f k5_).o).length) aX,.bool false,.slice none 0 0,.slice none 0 0]⟩]
   have iH:IntKind.i64.wrap (((k5_:Nat):Int) + 1) = ((k5_ + 1:Nat):Int):=qaN (by omega)
   rw [iH] at e9
   exact ⟨(D.f 5).l - (k5_ + 1),by omega,k5_ + 1,dU,dV,xs5_ ++ [Value.int .i64 0,.slice aW ((((D.f 5).f k5_).o).length) aX,.bool false,.slice none 0 0,.slice none 0 0],(css5_ ++ [[Value.int .i64 0,.slice aW ((((D.f 5).f k5_).o).length) aX,.bool false,.slice none 0 0,.slice none 0 0]]),rfl,by omega,by rw [qch (by omega)]; exact (hT5_.move (((((((((((((aR.trans au).trans bZ).trans cJ).trans ei).trans bw).trans bx).trans bz).trans bA).trans bd).trans bB).trans cM).trans cN).trans cO).step immM (((((((((((((aR.trans au).trans bZ).trans cJ).trans ei).trans bw).trans bx).trans bz).trans bA).trans bd).trans bB).trans cM).trans cN).trans cO).to').snoc (x:=(fun i=>Tree.mk 0 ((D.f 5).f i).o false [] []) k5_) (TreeR.mk (n:=0) (b:=false) (s:=(((D.f 5).f k5_).o)) (l:=[]) (u:=[]) (fun _=>[]) (iq.move ((((bd.trans bB).trans cM).trans cN).trans cO).step immM ((((bd.trans bB).trans cM).trans cN).trans cO).to') (Slots.nil _ _ _ _) (fun i_ x_ h_=>by simp at h_) (TagsR.nil _ _)),e9.pk,iG,((((((((((((((bu.trans aR).trans au).trans bZ).trans cJ).trans ei).trans bw).trans bx).trans bz).trans bA).trans bd).trans bB).trans cM).trans cN).trans cO)⟩
  refine (qav eh eP (oi:=4) (cs:=[.bool false]) kz fun pd aS fa iI=>?_)
  have iJ:=TT.ofW (au.trans aS) fa
  refine ⟨fun _=>iJ,?_⟩
  refine qaw (i:=1) kz (qav fa iI (oi:=4) (cs:=[.bool true]) kz fun pe bf dH iK=>?_)
  have iL:=TT.ofW ((au.trans aS).trans bf) dH
  refine ⟨fun _=>iL,?_⟩
  refine qaw (i:=3) kz (qa9 [0,2,3,4,62,63,67] dH.cells iK (env':=[(0,.p 0 0),(2,.p 1 0),(3,.p 3 0),(4,.v (.int .i64 ((k5_:Nat):Int))),(62,.v (.int .i64 (((D.f 5).l:Nat):Int))),(63,.v (.int .i64 ((k5_:Nat):Int))),(67,.v (.bool true))]) kz fun pf fb=>?_)
  have iM:=TT.ofW ((au.trans aS).trans bf) dH
  refine ⟨fun _=>iM,?_⟩
  refine qaF kz ?_ _
  refine qab ?_
  refine qaU fb (b:=true) kz rfl ?_
  refine qaG 19 kz dH fun pg b8 ek cP=>?_
  refine qaD [0,1,5,6,7,8,9] [(0,.p 0 0),(2,.p 1 0),(3,.p 3 0),(62,.v (.int .i64 (((D.f 5).l:Nat):Int))),(63,.v (.int .i64 ((k5_:Nat):Int))),(69,.v (.slice (some ⟨aa,0,none⟩) 7 7)),(76,.v (.slice ((D.f 5).A) ((D.f 5).l) ((D.f 5).c))),(77,.v (.int .i64 ((k5_:Nat):Int)))] 13 (qaa (qac (qaa (qaa (qac (qaa qad)))))) (fun _ h=>h.cells) cP fb fun ph iN=>?_
  refine qaH iN (i:=2) (t:=34) (A:=(some ⟨aa,0,none⟩)) (m:=7) (q:=5) (d:=70) kz (e:=37) (size:=5) (bytes:=88) (j:=5) kz (b:=aa) (o:=0) rfl rfl (by decide) kz kz (qaa (qac (qaa (qaa (qac (qaa qad)))))) cP fun pi iO=>?_
  have iP:=iO.recast 70 (.v (.pointer (some ⟨aa,0 + 5 * 5,none⟩))) (.p 2 25) rfl rfl (Nat.le_of_ble_eq_true (n:=3) rfl)
  have iQ:=iP.pk (env':=[(0,.p 0 0),(2,.p 1 0),(3,.p 3 0),(62,.v (.int .i64 (((D.f 5).l:Nat):Int))),(63,.v (.int .i64 ((k5_:Nat):Int))),(69,.v (.slice (some ⟨aa,0,none⟩) 7 7)),(76,.v (.slice ((D.f 5).A) ((D.f 5).l) ((D.f 5).c))),(77,.v (.int .i64 ((k5_:Nat):Int))),(70,.p 2 25)])
  refine qaD [3,4,14] [(0,.p 0 0),(2,.p 1 0),(3,.p 3 0),(62,.v (.int .i64 (((D.f 5).l:Nat):Int))),(63,.v (.int .i64 ((k5_:Nat):Int))),(69,.v (.slice (some ⟨aa,0,none⟩) 7 7)),(72,.v (.slice A5_ k5_ c5_)),(76,.v (.slice ((D.f 5).A) ((D.f 5).l) ((D.f 5).c))),(77,.v (.int .i64 ((k5_:Nat):Int))),(82,.v (.int .i64 ((k5_:Nat):Int)))] 9 (qaa (qac (qaa (qaa (qac (qaa qad)))))) (fun _ h=>h.cells) cP iQ fun pj iR=>?_
  obtain ⟨cC,cD,iS,nr,gi⟩:=Slots.get g6 (i:=k5_) (by omega)
  have dI:O16 _ _ (some ⟨cC,cD + k5_ * 16,none⟩) 16 (((D.f 5).f k5_).o):=qha (k:=0) (b:=cC) (o:=cD + k5_ * 16) (s:=((D.f 5).f k5_).o) gi (g6e k5_ (by omega)) (fun j hj=>by match j,hj with | 0,_=>rfl | 1,_=>rfl | 2,_=>rfl | 3,_=>rfl | 4,_=>rfl | 5,_=>rfl | 6,_=>rfl | 7,_=>rfl | 8,_=>rfl | 9,_=>rfl | 10,_=>rfl | 11,_=>rfl | 12,_=>rfl | 13,_=>rfl | 14,_=>rfl | 15,_=>rfl | n_ + 16,h_=>exact absurd h_ (by omega))
  refine qaH iR (i:=10) (t:=70) (A:=(D.f 5).A) (m:=((D.f 5).l)) (q:=((k5_:Nat):Int)) (d:=78) kz (e:=78) (size:=16) (bytes:=16) kz iS rfl (by omega) kz kz (qaa (qac (qaa (qaa (qac (qaa qad)))))) cP fun pl iT=>?_
  refine qaD [11] [(0,.p 0 0),(2,.p 1 0),(3,.p 3 0),(62,.v (.int .i64 (((D.f 5).l:Nat):Int))),(63,.v (.int .i64 ((k5_:Nat):Int))),(69,.v (.slice (some ⟨aa,0,none⟩) 7 7)),(72,.v (.slice A5_ k5_ c5_)),(79,.v (.slice (some ⟨cC,cD + k5_ * 16,none⟩) 16 16)),(82,.v (.int .i64 ((k5_:Nat):Int)))] 7 (qaa (qac (qaa (qaa (qac (qaa qad)))))) (fun _ h=>h.cells) cP iT fun pm fe=>?_
  refine qd7 (i:=12) (j:=15) kz ?_ ?_
  ·
   have cQ:=ek.addNil 5 1
   have bC:=ek.frNil 5 1
   refine (qaO cQ fe (k:=1) (d:=80) (t:=22) (e:=5) (size:=1) (bytes:=1) (A:=none) (As:=(some ⟨cC,cD + k5_ * 16,none⟩)) (m0:=0) (c:=0) (m:=16) (cs:=16) (xs:=[]) (news:=bc (((D.f 5).f k5_).o)) kz kz rfl (dI.move cQ.step nilM cQ.imm).src (dI.move cQ.step nilM cQ.imm).cap (by omega) fun aG aH pn po bD iU iV=>?_)
   have iW:(⟨aG,aH,5,1,0 + 16,[] ++ bc (((D.f 5).f k5_).o)⟩:Rw) = brow aG aH 5 (((D.f 5).f k5_).o):=by rw [List.nil_append]; unfold brow; rw [(g6e k5_ (by omega))]
   obtain ⟨ff,bE⟩:=iU.rowEq 1 [⟨A5_,c5_,37,5,k5_,xs5_⟩,brow aG aH 5 (((D.f 5).f k5_).o)] iW
   have iX:=EnvOk.pick iV (ks:=[0,2,3,62,63,69,72,79,82,80]) (env':=[(0,.p 0 0),(2,.p 1 0),(3,.p 3 0),(62,.v (.int .i64 (((D.f 5).l:Nat):Int))),(63,.v (.int .i64 ((k5_:Nat):Int))),(69,.v (.slice (some ⟨aa,0,none⟩) 7 7)),(72,.v (.slice A5_ k5_ c5_)),(79,.v (.slice (some ⟨cC,cD + k5_ * 16,none⟩) 16 16)),(82,.v (.int .i64 ((k5_:Nat):Int))),(80,.v (.slice aG (0 + 16) aH))]) kz
   have iY:=iX.cast (env':=[(0,.p 0 0),(2,.p 1 0),(3,.p 3 0),(62,.v (.int .i64 (((D.f 5).l:Nat):Int))),(63,.v (.int .i64 ((k5_:Nat):Int))),(69,.v (.slice (some ⟨aa,0,none⟩) 7 7)),(72,.v (.slice A5_ k5_ c5_)),(79,.v (.slice (some ⟨cC,cD + k5_ * 16,none⟩) 16 16)),(82,.v (.int .i64 ((k5_:Nat):Int))),(80,.v (.slice aG ((((D.f 5).f k5_).o).length) aH))]) (by rw [(g6e k5_ (by omega))])
   have iZ:=ff.giveUp (G:=F) 1 [⟨A5_,c5_,37,5,k5_,xs5_⟩] (show _ = some (brow aG aH 5 (((D.f 5).f k5_).o)) from rfl) (by rw [(g6e k5_ (by omega))]; decide)
   obtain ⟨fg,bF⟩:=ff.cutR 1 [⟨A5_,c5_,37,5,k5_,xs5_⟩]
   have fh:=TT.ofW (((bC.trans bD).trans bE).trans bF) fg
   refine ⟨fun _=>fh,?_⟩
   refine qaD [13] [(0,.p 0 0),(2,.p 1 0),(3,.p 3 0),(62,.v (.int .i64 (((D.f 5).l:Nat):Int))),(63,.v (.int .i64 ((k5_:Nat):Int))),(69,.v (.slice (some ⟨aa,0,none⟩) 7 7)),(72,.v (.slice A5_ k5_ c5_)),(81,.v (.agg #[.int .i64 0,.slice aG ((((D.f 5).f k5_).o).length) aH,.bool false,.slice none 0 0,.slice none 0 0])),(82,.v (.int .i64 ((k5_:Nat):Int)))] 5 (qaa (qac (qaa (qaa (qac (qaa qad)))))) (fun _ h=>h.cells) fh iY fun pp i6=>?_
   refine qaw (i:=15) kz (qbw fg i6 (e:=37) (size:=5) (len:=1) (cs:=[.int .i64 0,.slice none 0 0,.bool false,.slice none 0 0,.slice none 0 0]) (d:=83) kz kz fun gj pq pr ns nt bg dJ i7=>?_)
   have ja:=TT.ofW ((((bC.trans bD).trans bE).trans bF).trans bg) dJ
   refine ⟨fun _=>ja,?_⟩
   refine qaw (i:=16) kz (qaO dJ i7 (k:=0) (d:=84) (t:=34) (e:=37) (size:=5) (bytes:=88) (A:=A5_) (As:=(some ⟨gj,0,none⟩)) (m0:=k5_) (c:=c5_) (m:=1) (cs:=1) (xs:=xs5_) (news:=[.int .i64 0,.slice none 0 0,.bool false,.slice none 0 0,.slice none 0 0]) kz kz rfl (qbo (dJ.own 1 _ rfl) (qby kz)) (qbA (dJ.own 1 _ rfl)) (by omega) fun bo bG pt pu bH em jb=>?_)
   have jc:=TT.ofW (((((bC.trans bD).trans bE).trans bF).trans bg).trans bH) em
   refine ⟨fun _=>jc,?_⟩
   refine qaw (i:=17) kz (qaC jb (t:=34) (A:=(some ⟨aa,0,none⟩)) (m:=7) (q:=5) (d:=85) kz (e:=37) (size:=5) (bytes:=88) (j:=5) kz (b:=aa) (o:=0) rfl rfl (by decide) fun pv jd=>?_)
   have je:=jd.recast 85 (.v (.pointer (some ⟨aa,0 + 5 * 5,none⟩))) (.p 2 25) rfl rfl (Nat.le_of_ble_eq_true (n:=3) rfl)
   have jf:=je.pk (env':=[(0,.p 0 0),(2,.p 1 0),(3,.p 3 0),(62,.v (.int .i64 (((D.f 5).l:Nat):Int))),(63,.v (.int .i64 ((k5_:Nat):Int))),(69,.v (.slice (some ⟨aa,0,none⟩) 7 7)),(72,.v (.slice A5_ k5_ c5_)),(81,.v (.agg #[.int .i64 0,.slice aG ((((D.f 5).f k5_).o).length) aH,.bool false,.slice none 0 0,.slice none 0 0])),(82,.v (.int .i64 ((k5_:Nat):Int))),(83,.v (.slice (some ⟨gj,0,none⟩) 1 1)),(84,.v (.slice bo (k5_ + 1) bG)),(85,.p 2 25)])
   have fi:=TT.ofW (((((bC.trans bD).trans bE).trans bF).trans bg).trans bH) em
   refine ⟨fun _=>fi,?_⟩
   refine qaD [18] [(0,.p 0 0),(2,.p 1 0),(3,.p 3 0),(62,.v (.int .i64 (((D.f 5).l:Nat):Int))),(63,.v (.int .i64 ((k5_:Nat):Int))),(81,.v (.agg #[.int .i64 0,.slice aG ((((D.f 5).f k5_).o).length) aH,.bool false,.slice none 0 0,.slice none 0 0])),(82,.v (.int .i64 ((k5_:Nat):Int))),(84,.v (.slice bo (k5_ + 1) bG)),(86,.p 2 28)] 1 (qaa (qac (qaa (qaa (qac (qaa qad)))))) (fun _ h=>h.cells) fi jf fun pw jg=>?_
   refine qaw (i:=19) kz (qav em jg (oi:=2) (cs:=(.int .i64 (IntKind.i64.wrap ((D.f 0).n)) :: .slice none 0 0 :: .bool false :: .slice none 0 0 :: .slice none 0 0 :: .int .i64 ((D.f 1).n) :: .slice none 0 0 :: .bool false :: .slice none 0 0 :: .slice none 0 0 :: .int .i64 ((D.f 2).n) :: .slice none 0 0 :: .bool false :: .slice none 0 0 :: .slice none 0 0 :: .int .i64 ay :: .slice aD az.length aE :: .bool aA :: .slice aF aB.length ab :: .slice ac aC.length ae :: .int .i64 af :: .slice ak ag.length al :: .bool ah :: .slice am ai.length ao :: .slice ap aj.length ar :: .int .i64 0 :: .slice none 0 0 :: .bool (((D.f 5).A).isNone) :: .slice bo (k5_ + 1) bG :: .slice none 0 0 :: .int .i64 0 :: .slice none 0 0 :: .bool false :: .slice none 0 0 :: .slice none 0 0 :: [])) kz fun mZ cR fj jh=>?_)
   refine ⟨fun h=>absurd rfl h,?_⟩
   refine qaF kz ?_ _
   refine qab ?_
   refine qat [0,1] kz ?_
   have ji:World.ownsRow mZ 0 37 5 (.slice bo (k5_ + 1) bG) (k5_ + 1) (xs5_ ++ [.int .i64 0,.slice none 0 0,.bool false,.slice none 0 0,.slice none 0 0]):=fj.own 0 _ rfl
   obtain ⟨jj,fk⟩:=qbH ji (by omega)
   refine qam (qaC jh (t:=34) (A:=bo) (m:=(k5_ + 1)) (q:=((k5_:Nat):Int)) (d:=87) kz (e:=37) (size:=5) (bytes:=88) kz (b:=jj) (o:=0) (j:=k5_) fk (rfl) (by omega) fun px jk=>?_)
   refine qam (qbC fj jk (k:=0) (g:=jj) (o:=k5_ * 5) (c:=bG) (m:=(k5_ + 1)) (size:=5) (e:=37) (A:=bo) (xs:=(xs5_ ++ [.int .i64 0,.slice none 0 0,.bool false,.slice none 0 0,.slice none 0 0])) (vs:=[.int .i64 0,.slice aG ((((D.f 5).f k5_).o).length) aH,.bool false,.slice none 0 0,.slice none 0 0]) kz rfl fk (by simp only [List.length_cons,List.length_nil]; omega) fun pz cS jl jm=>?_)
   have jn:(⟨bo,bG,37,5,k5_ + 1,qba (xs5_ ++ [.int .i64 0,.slice none 0 0,.bool false,.slice none 0 0,.slice none 0 0]) (k5_ * 5) [.int .i64 0,.slice aG ((((D.f 5).f k5_).o).length) aH,.bool false,.slice none 0 0,.slice none 0 0]⟩:Rw) = ⟨bo,bG,37,5,k5_ + 1,xs5_ ++ [.int .i64 0,.slice aG ((((D.f 5).f k5_).o).length) aH,.bool false,.slice none 0 0,.slice none 0 0]⟩:=by rw [qcU (by rw [hT5_.xslen,List.length_take,qb6]; omega)]
   obtain ⟨fm,cT⟩:=jl.rowEq 0 [⟨bo,bG,37,5,k5_ + 1,xs5_ ++ [.int .i64 0,.slice aG ((((D.f 5).f k5_).o).length) aH,.bool false,.slice none 0 0,.slice none 0 0]⟩,⟨some ⟨gj,0,none⟩,1,37,5,1,[.int .i64 0,.slice none 0 0,.bool false,.slice none 0 0,.slice none 0 0]⟩] jn
   refine qaf ?_
   refine qaq ?_
   refine qab ?_
   refine qat [0,1] kz ?_
   refine qaj [0,1] [] [(0,.p 0 0),(2,.p 1 0),(3,.p 3 0),(62,.v (.int .i64 (((D.f 5).l:Nat):Int))),(63,.v (.int .i64 (IntKind.i64.wrap (((k5_:Nat):Int) + 1))))] fm jm fun pA jo=>?_
   refine qaf (qab ?_)
   obtain ⟨fo,jp,cU⟩:=fm.cutB jo 4 [⟨b,o,[.int .i16 v,.int .i32 ((D.f 0).n),.int .i64 ((D.f 1).n),.int .i64 ((D.f 2).n),.bool ((D.f 3).b),.bool ((D.f 4).b),.slice ((D.f 5).A) ((D.f 5).l) ((D.f 5).c),.slice ((D.f 6).A) ((D.f 6).l) ((D.f 6).c),.map D.m],false⟩,⟨b9,0,[.int .i64 0,.slice none 0 0,.bool false,.slice none 0 0,.slice none 0 0],true⟩,⟨aa,0,(.int .i64 (IntKind.i64.wrap ((D.f 0).n)) :: .slice none 0 0 :: .bool false :: .slice none 0 0 :: .slice none 0 0 :: .int .i64 ((D.f 1).n) :: .slice none 0 0 :: .bool false :: .slice none 0 0 :: .slice none 0 0 :: .int .i64 ((D.f 2).n) :: .slice none 0 0 :: .bool false :: .slice none 0 0 :: .slice none 0 0 :: .int .i64 ay :: .slice aD az.length aE :: .bool aA :: .slice aF aB.length ab :: .slice ac aC.length ae :: .int .i64 af :: .slice ak ag.length al :: .bool ah :: .slice am ai.length ao :: .slice ap aj.length ar :: .int .i64 0 :: .slice none 0 0 :: .bool (((D.f 5).A).isNone) :: .slice bo (k5_ + 1) bG :: .slice none 0 0 :: .int .i64 0 :: .slice none 0 0 :: .bool false :: .slice none 0 0 :: .slice none 0 0 :: []),true⟩,⟨ba,0,[.int .i64 0,.slice none 0 0,.bool false,.slice (some ⟨aa,0,none⟩) 7 7,.slice none 0 0],true⟩] [(0,.p 0 0),(2,.p 1 0),(3,.p 3 0),(62,.v (.int .i64 (((D.f 5).l:Nat):Int))),(63,.v (.int .i64 (IntKind.i64.wrap (((k5_:Nat):Int) + 1))))]
   obtain ⟨jq,cV⟩:=jp.cutR 1 [⟨bo,bG,37,5,k5_ + 1,xs5_ ++ [.int .i64 0,.slice aG ((((D.f 5).f k5_).o).length) aH,.bool false,.slice none 0 0,.slice none 0 0]⟩]
   have jr:IntKind.i64.wrap (((k5_:Nat):Int) + 1) = ((k5_ + 1:Nat):Int):=qaN (by omega)
   rw [jr] at fo
   exact ⟨(D.f 5).l - (k5_ + 1),by omega,k5_ + 1,bo,bG,xs5_ ++ [Value.int .i64 0,.slice aG ((((D.f 5).f k5_).o).length) aH,.bool false,.slice none 0 0,.slice none 0 0],(css5_ ++ [[Value.int .i64 0,.slice aG ((((D.f 5).f k5_).o).length) aH,.bool false,.slice none 0 0,.slice none 0 0]]),rfl,by omega,by rw [qch (by omega)]; exact (hT5_.move (((((((((((((((aR.trans au).trans aS).trans bf).trans b8).trans bC).trans bD).trans bE).trans bF).trans bg).trans bH).trans cR).trans cS).trans cT).trans cU).trans cV).step immM (((((((((((((((aR.trans au).trans aS).trans bf).trans b8).trans bC).trans bD).trans bE).trans bF).trans bg).trans bH).trans cR).trans cS).trans cT).trans cU).trans cV).to').snoc (x:=(fun i=>Tree.mk 0 ((D.f 5).f i).o false [] []) k5_) (TreeR.mk (n:=0) (b:=false) (s:=(((D.f 5).f k5_).o)) (l:=[]) (u:=[]) (fun _=>[]) (iZ.move ((((((bg.trans bH).trans cR).trans cS).trans cT).trans cU).trans cV).step immM ((((((bg.trans bH).trans cR).trans cS).trans cT).trans cU).trans cV).to') (Slots.nil _ _ _ _) (fun i_ x_ h_=>by simp at h_) (TagsR.nil _ _)),fo.pk,jq,((((((((((((((((bu.trans aR).trans au).trans aS).trans bf).trans b8).trans bC).trans bD).trans bE).trans bF).trans bg).trans bH).trans cR).trans cS).trans cT).trans cU).trans cV)⟩
  refine (qbw ek fe (e:=37) (size:=5) (len:=1) (cs:=[.int .i64 0,.slice none 0 0,.bool false,.slice none 0 0,.slice none 0 0]) (d:=83) kz kz fun cE pB pC nu nv bI eo js=>?_)
  have jt:=TT.ofW bI eo
  refine ⟨fun _=>jt,?_⟩
  have cW:=eo.addNil 5 1
  have ca:=eo.frNil 5 1
  refine qaw (i:=12) kz (qaO cW js (k:=2) (d:=80) (t:=22) (e:=5) (size:=1) (bytes:=1) (A:=none) (As:=(some ⟨cC,cD + k5_ * 16,none⟩)) (m0:=0) (c:=0) (m:=16) (cs:=16) (xs:=[]) (news:=bc (((D.f 5).f k5_).o)) kz kz rfl (dI.move cW.step nilM cW.imm).src (dI.move cW.step nilM cW.imm).cap (by omega) fun aI aJ pD pE cb ju jv=>?_)
  have jw:(⟨aI,aJ,5,1,0 + 16,[] ++ bc (((D.f 5).f k5_).o)⟩:Rw) = brow aI aJ 5 (((D.f 5).f k5_).o):=by rw [List.nil_append]; unfold brow; rw [(g6e k5_ (by omega))]
  obtain ⟨fq,cc⟩:=ju.rowEq 2 [⟨A5_,c5_,37,5,k5_,xs5_⟩,⟨some ⟨cE,0,none⟩,1,37,5,1,[.int .i64 0,.slice none 0 0,.bool false,.slice none 0 0,.slice none 0 0]⟩,brow aI aJ 5 (((D.f 5).f k5_).o)] jw
  have jx:=EnvOk.pick jv (ks:=[0,2,3,62,63,69,72,79,82,83,80]) (env':=[(0,.p 0 0),(2,.p 1 0),(3,.p 3 0),(62,.v (.int .i64 (((D.f 5).l:Nat):Int))),(63,.v (.int .i64 ((k5_:Nat):Int))),(69,.v (.slice (some ⟨aa,0,none⟩) 7 7)),(72,.v (.slice A5_ k5_ c5_)),(79,.v (.slice (some ⟨cC,cD + k5_ * 16,none⟩) 16 16)),(82,.v (.int .i64 ((k5_:Nat):Int))),(83,.v (.slice (some ⟨cE,0,none⟩) 1 1)),(80,.v (.slice aI (0 + 16) aJ))]) kz
  have jy:=jx.cast (env':=[(0,.p 0 0),(2,.p 1 0),(3,.p 3 0),(62,.v (.int .i64 (((D.f 5).l:Nat):Int))),(63,.v (.int .i64 ((k5_:Nat):Int))),(69,.v (.slice (some ⟨aa,0,none⟩) 7 7)),(72,.v (.slice A5_ k5_ c5_)),(79,.v (.slice (some ⟨cC,cD + k5_ * 16,none⟩) 16 16)),(82,.v (.int .i64 ((k5_:Nat):Int))),(83,.v (.slice (some ⟨cE,0,none⟩) 1 1)),(80,.v (.slice aI ((((D.f 5).f k5_).o).length) aJ))]) (by rw [(g6e k5_ (by omega))])
  have jz:=fq.giveUp (G:=F) 2 [⟨A5_,c5_,37,5,k5_,xs5_⟩,⟨some ⟨cE,0,none⟩,1,37,5,1,[.int .i64 0,.slice none 0 0,.bool false,.slice none 0 0,.slice none 0 0]⟩] (show _ = some (brow aI aJ 5 (((D.f 5).f k5_).o)) from rfl) (by rw [(g6e k5_ (by omega))]; decide)
  obtain ⟨dK,cd⟩:=fq.cutR 2 [⟨A5_,c5_,37,5,k5_,xs5_⟩,⟨some ⟨cE,0,none⟩,1,37,5,1,[.int .i64 0,.slice none 0 0,.bool false,.slice none 0 0,.slice none 0 0]⟩]
  have fr:=TT.ofW ((((bI.trans ca).trans cb).trans cc).trans cd) dK
  refine ⟨fun _=>fr,?_⟩
  refine qaD [13] [(0,.p 0 0),(2,.p 1 0),(3,.p 3 0),(62,.v (.int .i64 (((D.f 5).l:Nat):Int))),(63,.v (.int .i64 ((k5_:Nat):Int))),(69,.v (.slice (some ⟨aa,0,none⟩) 7 7)),(72,.v (.slice A5_ k5_ c5_)),(81,.v (.agg #[.int .i64 0,.slice aI ((((D.f 5).f k5_).o).length) aJ,.bool false,.slice none 0 0,.slice none 0 0])),(82,.v (.int .i64 ((k5_:Nat):Int))),(83,.v (.slice (some ⟨cE,0,none⟩) 1 1))] 4 (qaa (qac (qaa (qaa (qac (qaa qad)))))) (fun _ h=>h.cells) fr jy fun pF jA=>?_
  refine qaw (i:=16) kz (qaO dK jA (k:=0) (d:=84) (t:=34) (e:=37) (size:=5) (bytes:=88) (A:=A5_) (As:=(some ⟨cE,0,none⟩)) (m0:=k5_) (c:=c5_) (m:=1) (cs:=1) (xs:=xs5_) (news:=[.int .i64 0,.slice none 0 0,.bool false,.slice none 0 0,.slice none 0 0]) kz kz rfl (qbo (dK.own 1 _ rfl) (qby kz)) (qbA (dK.own 1 _ rfl)) (by omega) fun bp bJ pG pH bK ep jB=>?_)
  have jC:=TT.ofW (((((bI.trans ca).trans cb).trans cc).trans cd).trans bK) ep
  refine ⟨fun _=>jC,?_⟩
  refine qaw (i:=17) kz (qaC jB (t:=34) (A:=(some ⟨aa,0,none⟩)) (m:=7) (q:=5) (d:=85) kz (e:=37) (size:=5) (bytes:=88) (j:=5) kz (b:=aa) (o:=0) rfl rfl (by decide) fun pI jD=>?_)
  have jE:=jD.recast 85 (.v (.pointer (some ⟨aa,0 + 5 * 5,none⟩))) (.p 2 25) rfl rfl (Nat.le_of_ble_eq_true (n:=3) rfl)
  have jF:=jE.pk (env':=[(0,.p 0 0),(2,.p 1 0),(3,.p 3 0),(62,.v (.int .i64 (((D.f 5).l:Nat):Int))),(63,.v (.int .i64 ((k5_:Nat):Int))),(69,.v (.slice (some ⟨aa,0,none⟩) 7 7)),(72,.v (.slice A5_ k5_ c5_)),(81,.v (.agg #[.int .i64 0,.slice aI ((((D.f 5).f k5_).o).length) aJ,.bool false,.slice none 0 0,.slice none 0 0])),(82,.v (.int .i64 ((k5_:Nat):Int))),(83,.v (.slice (some ⟨cE,0,none⟩) 1 1)),(84,.v (.slice bp (k5_ + 1) bJ)),(85,.p 2 25)])
  have ft:=TT.ofW (((((bI.trans ca).trans cb).trans cc).trans cd).trans bK) ep
  refine ⟨fun _=>ft,?_⟩
  refine qaD [18] [(0,.p 0 0),(2,.p 1 0),(3,.p 3 0),(62,.v (.int .i64 (((D.f 5).l:Nat):Int))),(63,.v (.int .i64 ((k5_:Nat):Int))),(81,.v (.agg #[.int .i64 0,.slice aI ((((D.f 5).f k5_).o).length) aJ,.bool false,.slice none 0 0,.slice none 0 0])),(82,.v (.int .i64 ((k5_:Nat):Int))),(84,.v (.slice bp (k5_ + 1) bJ)),(86,.p 2 28)] 1 (qaa (qac (qaa (qaa (qac (qaa qad)))))) (fun _ h=>h.cells) ft jF fun pJ jG=>?_
  refine qaw (i:=19) kz (qav ep jG (oi:=2) (cs:=(.int .i64 (IntKind.i64.wrap ((D.f 0).n)) :: .slice none 0 0 :: .bool false :: .slice none 0 0 :: .slice none 0 0 :: .int .i64 ((D.f 1).n) :: .slice none 0 0 :: .bool false :: .slice none 0 0 :: .slice none 0 0 :: .int .i64 ((D.f 2).n) :: .slice none 0 0 :: .bool false :: .slice none 0 0 :: .slice none 0 0 :: .int .i64 ay :: .slice aD az.length aE :: .bool aA :: .slice aF aB.length ab :: .slice ac aC.length ae :: .int .i64 af :: .slice ak ag.length al :: .bool ah :: .slice am ai.length ao :: .slice ap aj.length ar :: .int .i64 0 :: .slice none 0 0 :: .bool (((D.f 5).A).isNone) :: .slice bp (k5_ + 1) bJ :: .slice none 0 0 :: .int .i64 0 :: .slice none 0 0 :: .bool false :: .slice none 0 0 :: .slice none 0 0 :: [])) kz fun m4 cX fu jH=>?_)
  refine ⟨fun h=>absurd rfl h,?_⟩
  refine qaF kz ?_ _
  refine qab ?_
  refine qat [0,1] kz ?_
  have jI:World.ownsRow m4 0 37 5 (.slice bp (k5_ + 1) bJ) (k5_ + 1) (xs5_ ++ [.int .i64 0,.slice none 0 0,.bool false,.slice none 0 0,.slice none 0 0]):=fu.own 0 _ rfl
  obtain ⟨jJ,fv⟩:=qbH jI (by omega)
  refine qam (qaC jH (t:=34) (A:=bp) (m:=(k5_ + 1)) (q:=((k5_:Nat):Int)) (d:=87) kz (e:=37) (size:=5) (bytes:=88) kz (b:=jJ) (o:=0) (j:=k5_) fv (rfl) (by omega) fun pK jK=>?_)
  refine qam (qbC fu jK (k:=0) (g:=jJ) (o:=k5_ * 5) (c:=bJ) (m:=(k5_ + 1)) (size:=5) (e:=37) (A:=bp) (xs:=(xs5_ ++ [.int .i64 0,.slice none 0 0,.bool false,.slice none 0 0,.slice none 0 0])) (vs:=[.int .i64 0,.slice aI ((((D.f 5).f k5_).o).length) aJ,.bool false,.slice none 0 0,.slice none 0 0]) kz rfl fv (by simp only [List.length_cons,List.length_nil]; omega) fun pL cY jL jM=>?_)
  have jN:(⟨bp,bJ,37,5,k5_ + 1,qba (xs5_ ++ [.int .i64 0,.slice none 0 0,.bool false,.slice none 0 0,.slice none 0 0]) (k5_ * 5) [.int .i64 0,.slice aI ((((D.f 5).f k5_).o).length) aJ,.bool false,.slice none 0 0,.slice none 0 0]⟩:Rw) = ⟨bp,bJ,37,5,k5_ + 1,xs5_ ++ [.int .i64 0,.slice aI ((((D.f 5).f k5_).o).length) aJ,.bool false,.slice none 0 0,.slice none 0 0]⟩:=by rw [qcU (by rw [hT5_.xslen,List.length_take,qb6]; omega)]
  obtain ⟨fw,cZ⟩:=jL.rowEq 0 [⟨bp,bJ,37,5,k5_ + 1,xs5_ ++ [.int .i64 0,.slice aI ((((D.f 5).f k5_).o).length) aJ,.bool false,.slice none 0 0,.slice none 0 0]⟩,⟨some ⟨cE,0,none⟩,1,37,5,1,[.int .i64 0,.slice none 0 0,.bool false,.slice none 0 0,.slice none 0 0]⟩] jN
  refine qaf ?_
  refine qaq ?_
  refine qab ?_
  refine qat [0,1] kz ?_
  refine qaj [0,1] [] [(0,.p 0 0),(2,.p 1 0),(3,.p 3 0),(62,.v (.int .i64 (((D.f 5).l:Nat):Int))),(63,.v (.int .i64 (IntKind.i64.wrap (((k5_:Nat):Int) + 1))))] fw jM fun pM jO=>?_
  refine qaf (qab ?_)
  obtain ⟨fx,jP,c5⟩:=fw.cutB jO 4 [⟨b,o,[.int .i16 v,.int .i32 ((D.f 0).n),.int .i64 ((D.f 1).n),.int .i64 ((D.f 2).n),.bool ((D.f 3).b),.bool ((D.f 4).b),.slice ((D.f 5).A) ((D.f 5).l) ((D.f 5).c),.slice ((D.f 6).A) ((D.f 6).l) ((D.f 6).c),.map D.m],false⟩,⟨b9,0,[.int .i64 0,.slice none 0 0,.bool false,.slice none 0 0,.slice none 0 0],true⟩,⟨aa,0,(.int .i64 (IntKind.i64.wrap ((D.f 0).n)) :: .slice none 0 0 :: .bool false :: .slice none 0 0 :: .slice none 0 0 :: .int .i64 ((D.f 1).n) :: .slice none 0 0 :: .bool false :: .slice none 0 0 :: .slice none 0 0 :: .int .i64 ((D.f 2).n) :: .slice none 0 0 :: .bool false :: .slice none 0 0 :: .slice none 0 0 :: .int .i64 ay :: .slice aD az.length aE :: .bool aA :: .slice aF aB.length ab :: .slice ac aC.length ae :: .int .i64 af :: .slice ak ag.length al :: .bool ah :: .slice am ai.length ao :: .slice ap aj.length ar :: .int .i64 0 :: .slice none 0 0 :: .bool (((D.f 5).A).isNone) :: .slice bp (k5_ + 1) bJ :: .slice none 0 0 :: .int .i64 0 :: .slice none 0 0 :: .bool false :: .slice none 0 0 :: .slice none 0 0 :: []),true⟩,⟨ba,0,[.int .i64 0,.slice none 0 0,.bool false,.slice (some ⟨aa,0,none⟩) 7 7,.slice none 0 0],true⟩] [(0,.p 0 0),(2,.p 1 0),(3,.p 3 0),(62,.v (.int .i64 (((D.f 5).l:Nat):Int))),(63,.v (.int .i64 (IntKind.i64.wrap (((k5_:Nat):Int) + 1))))]
  obtain ⟨jQ,c6⟩:=jP.cutR 1 [⟨bp,bJ,37,5,k5_ + 1,xs5_ ++ [.int .i64 0,.slice aI ((((D.f 5).f k5_).o).length) aJ,.bool false,.slice none 0 0,.slice none 0 0]⟩]
  have jR:IntKind.i64.wrap (((k5_:Nat):Int) + 1) = ((k5_ + 1:Nat):Int):=qaN (by omega)
  rw [jR] at fx
  exact ⟨(D.f 5).l - (k5_ + 1),by omega,k5_ + 1,bp,bJ,xs5_ ++ [Value.int .i64 0,.slice aI ((((D.f 5).f k5_).o).length) aJ,.bool false,.slice none 0 0,.slice none 0 0],(css5_ ++ [[Value.int .i64 0,.slice aI ((((D.f 5).f k5_).o).length) aJ,.bool false,.slice none 0 0,.slice none 0 0]]),rfl,by omega,by rw [qch (by omega)]; exact (hT5_.move (((((((((((((((aR.trans au).trans aS).trans bf).trans b8).trans bI).trans ca).trans cb).trans cc).trans cd).trans bK).trans cX).trans cY).trans cZ).trans c5).trans c6).step immM (((((((((((((((aR.trans au).trans aS).trans bf).trans b8).trans bI).trans ca).trans cb).trans cc).trans cd).trans bK).trans cX).trans cY).trans cZ).trans c5).trans c6).to').snoc (x:=(fun i=>Tree.mk 0 ((D.f 5).f i).o false [] []) k5_) (TreeR.mk (n:=0) (b:=false) (s:=(((D.f 5).f k5_).o)) (l:=[]) (u:=[]) (fun _=>[]) (jz.move (((((bK.trans cX).trans cY).trans cZ).trans c5).trans c6).step immM (((((bK.trans cX).trans cY).trans cZ).trans c5).trans c6).to') (Slots.nil _ _ _ _) (fun i_ x_ h_=>by simp at h_) (TagsR.nil _ _)),fx.pk,jQ,((((((((((((((((bu.trans aR).trans au).trans aS).trans bf).trans b8).trans bI).trans ca).trans cb).trans cc).trans cd).trans bK).trans cX).trans cY).trans cZ).trans c5).trans c6)⟩
 have nw:=of_decide_eq_false eg
 refine wp_exit ?_
 refine qaB ?_
 refine qaB ?_
 refine qaL ?_
 refine qab ?_
 refine qaG 9 kz dE fun pN ce jS eu=>?_
 refine qaD [0,1,2,3,4,5,6] [(0,.p 0 0),(2,.p 1 0),(3,.p 3 0),(110,.v (.slice (some ⟨aa,0,none⟩) 7 7)),(115,.v (.bool (((D.f 6).A).isNone)))] 3 (qaa qad) (fun _ h=>h.cells) eu ef fun pO jT=>?_
 refine qaw (i:=7) kz (qaC jT (t:=34) (A:=(some ⟨aa,0,none⟩)) (m:=7) (q:=6) (d:=116) kz (e:=37) (size:=5) (bytes:=88) (j:=6) kz (b:=aa) (o:=0) rfl rfl (by decide) fun pP jU=>?_)
 have jV:=jU.recast 116 (.v (.pointer (some ⟨aa,0 + 6 * 5,none⟩))) (.p 2 30) rfl rfl (Nat.le_of_ble_eq_true (n:=3) rfl)
 have jW:=jV.pk (env':=[(0,.p 0 0),(2,.p 1 0),(3,.p 3 0),(110,.v (.slice (some ⟨aa,0,none⟩) 7 7)),(115,.v (.bool (((D.f 6).A).isNone))),(116,.p 2 30)])
 refine ⟨fun _=>eu,?_⟩
 refine qaD [8] [(0,.p 0 0),(2,.p 1 0),(3,.p 3 0),(115,.v (.bool (((D.f 6).A).isNone))),(117,.p 2 32)] 1 (qaa qad) (fun _ h=>h.cells) eu jW fun pQ jX=>?_
 refine qaw (i:=9) kz (qav jS jX (oi:=2) (cs:=(.int .i64 (IntKind.i64.wrap ((D.f 0).n)) :: .slice none 0 0 :: .bool false :: .slice none 0 0 :: .slice none 0 0 :: .int .i64 ((D.f 1).n) :: .slice none 0 0 :: .bool false :: .slice none 0 0 :: .slice none 0 0 :: .int .i64 ((D.f 2).n) :: .slice none 0 0 :: .bool false :: .slice none 0 0 :: .slice none 0 0 :: .int .i64 ay :: .slice aD az.length aE :: .bool aA :: .slice aF aB.length ab :: .slice ac aC.length ae :: .int .i64 af :: .slice ak ag.length al :: .bool ah :: .slice am ai.length ao :: .slice ap aj.length ar :: .int .i64 0 :: .slice none 0 0 :: .bool (((D.f 5).A).isNone) :: .slice A5_ k5_ c5_ :: .slice none 0 0 :: .int .i64 0 :: .slice none 0 0 :: .bool (((D.f 6).A).isNone) :: .slice none 0 0 :: .slice none 0 0 :: [])) kz fun pR cm ev jY=>?_)
 refine ⟨fun h=>absurd rfl h,?_⟩
 refine qaF kz ?_ _
 refine qab ?_
 refine wp_seq ?_
 refine qar [(0,.p 0 0),(2,.p 1 0),(3,.p 3 0),(122,.v (.int .i64 (((D.f 6).l:Nat):Int))),(123,.v (.int .i64 0))] ev jY fun pS jZ=>?_
 refine wp_block ?_
 have fy:=ev.addNil 37 5
 have cq:=ev.frNil 37 5
 refine wp_loop_ghost (fun n_ a_ w_=>∃ (k6_:Nat) (A6_:Option Addr) (c6_:Nat) (xs6_:List Value) (css6_:List (List Value)),n_ = (D.f 6).l - k6_ ∧ k6_ ≤ (D.f 6).l ∧ (Trees w_ (Imm F w w_ [⟨b,o,[.int .i16 v,.int .i32 ((D.f 0).n),.int .i64 ((D.f 1).n),.int .i64 ((D.f 2).n),.bool ((D.f 3).b),.bool ((D.f 4).b),.slice ((D.f 5).A) ((D.f 5).l) ((D.f 5).c),.slice ((D.f 6).A) ((D.f 6).l) ((D.f 6).c),.map D.m],false⟩,⟨b9,0,[.int .i64 0,.slice none 0 0,.bool false,.slice none 0 0,.slice none 0 0],true⟩,⟨aa,0,(.int .i64 (IntKind.i64.wrap ((D.f 0).n)) :: .slice none 0 0 :: .bool false :: .slice none 0 0 :: .slice none 0 0 :: .int .i64 ((D.f 1).n) :: .slice none 0 0 :: .bool false :: .slice none 0 0 :: .slice none 0 0 :: .int .i64 ((D.f 2).n) :: .slice none 0 0 :: .bool false :: .slice none 0 0 :: .slice none 0 0 :: .int .i64 ay :: .slice aD az.length aE :: .bool aA :: .slice aF aB.length ab :: .slice ac aC.length ae :: .int .i64 af :: .slice ak ag.length al :: .bool ah :: .slice am ai.length ao :: .slice ap aj.length ar :: .int .i64 0 :: .slice none 0 0 :: .bool (((D.f 5).A).isNone) :: .slice A5_ k5_ c5_ :: .slice none 0 0 :: .int .i64 0 :: .slice none 0 0 :: .bool (((D.f 6).A).isNone) :: .slice A6_ k6_ c6_ :: .slice none 0 0 :: []),true⟩,⟨ba,0,[.int .i64 0,.slice none 0 0,.bool false,.slice (some ⟨aa,0,none⟩) 7 7,.slice none 0 0],true⟩] [⟨A5_,c5_,37,5,k5_,xs5_⟩,⟨A6_,c6_,37,5,k6_,xs6_⟩]) xs6_ (((List.range (D.f 6).l).map (fun i=>Tree.mk 0 ((D.f 6).f i).o false [] [])).take k6_) css6_) ∧ LInv fy 178 [⟨b,o,[.int .i16 v,.int .i32 ((D.f 0).n),.int .i64 ((D.f 1).n),.int .i64 ((D.f 2).n),.bool ((D.f 3).b),.bool ((D.f 4).b),.slice ((D.f 5).A) ((D.f 5).l) ((D.f 5).c),.slice ((D.f 6).A) ((D.f 6).l) ((D.f 6).c),.map D.m],false⟩,⟨b9,0,[.int .i64 0,.slice none 0 0,.bool false,.slice none 0 0,.slice none 0 0],true⟩,⟨aa,0,(.int .i64 (IntKind.i64.wrap ((D.f 0).n)) :: .slice none 0 0 :: .bool false :: .slice none 0 0 :: .slice none 0 0 :: .int .i64 ((D.f 1).n) :: .slice none 0 0 :: .bool false :: .slice none 0 0 :: .slice none 0 0 :: .int .i64 ((D.f 2).n) :: .slice none 0 0 :: .bool false :: .slice none 0 0 :: .slice none 0 0 :: .int .i64 ay :: .slice aD az.length aE :: .bool aA :: .slice aF aB.length ab :: .slice ac aC.length ae :: .int .i64 af :: .slice ak ag.length al :: .bool ah :: .slice am ai.length ao :: .slice ap aj.length ar :: .int .i64 0 :: .slice none 0 0 :: .bool (((D.f 5).A).isNone) :: .slice A5_ k5_ c5_ :: .slice none 0 0 :: .int .i64 0 :: .slice none 0 0 :: .bool (((D.f 6).A).isNone) :: .slice A6_ k6_ c6_ :: .slice none 0 0 :: []),true⟩,⟨ba,0,[.int .i64 0,.slice none 0 0,.bool false,.slice (some ⟨aa,0,none⟩) 7 7,.slice none 0 0],true⟩] [⟨A5_,c5_,37,5,k5_,xs5_⟩,⟨A6_,c6_,37,5,k6_,xs6_⟩] [(0,.p 0 0),(2,.p 1 0),(3,.p 3 0),(122,.v (.int .i64 (((D.f 6).l:Nat):Int))),(123,.v (.int .i64 ((k6_:Nat):Int)))] a_ w_) ((D.f 6).l) ⟨0,none,0,[],[],by omega,by omega,Trees.nil _ _,jZ.pk,fy,Fr.refl _ _ _⟩ ?_
 rintro pT pU m5 ⟨k6_,A6_,c6_,xs6_,css6_,nx,ny,hT6_,j0,aO,aT⟩
 refine qar [(0,.p 0 0),(2,.p 1 0),(3,.p 3 0),(122,.v (.int .i64 (((D.f 6).l:Nat):Int))),(123,.v (.int .i64 ((k6_:Nat):Int))),(124,.v (.bool (decide (((k6_:Nat):Int) < (((D.f 6).l:Nat):Int)))))] aO j0 fun pV ew=>?_
 refine wp_seq ?_
 refine qay ew (b:=decide (((k6_:Nat):Int) < (((D.f 6).l:Nat):Int))) kz (fun ey=>?_) (fun ey=>?_)
 ·
  have nz:=of_decide_eq_true ey
  refine wp_skip ?_
  refine qab ?_
  refine wp_seq ?_
  refine wp_block ?_
  refine qar [(0,.p 0 0),(2,.p 1 0),(3,.p 3 0),(5,.v (.int .i64 ((k6_:Nat):Int))),(122,.v (.int .i64 (((D.f 6).l:Nat):Int))),(123,.v (.int .i64 ((k6_:Nat):Int)))] aO ew fun pW j1=>?_
  refine qaG 4 kz aO fun pX aU j2 nA=>?_
  refine qaw (i:=0) kz (qaR j2 j1 (d:=126) (cs:=[.bool false]) kz fun pY pZ p4 nB nC av ez fz=>?_)
  have j3:=TT.ofW av ez
  refine ⟨fun _=>j3,?_⟩
  refine qd7 (i:=1) (j:=2) kz ?_ ?_
  ·
   refine (qav ez fz (oi:=4) (cs:=[.bool true]) kz fun p5 cr fA j4=>?_)
   have j5:=TT.ofW (av.trans cr) fA
   refine ⟨fun _=>j5,?_⟩
   refine qaw (i:=2) kz (qav fA j4 (oi:=4) (cs:=[.bool false]) kz fun p6 da dL j6=>?_)
   have j7:=TT.ofW ((av.trans cr).trans da) dL
   refine ⟨fun _=>j7,?_⟩
   refine qaw (i:=3) kz (qa9 [0,2,3,5,122,123,127] dL.cells j6 (env':=[(0,.p 0 0),(2,.p 1 0),(3,.p 3 0),(5,.v (.int .i64 ((k6_:Nat):Int))),(122,.v (.int .i64 (((D.f 6).l:Nat):Int))),(123,.v (.int .i64 ((k6_:Nat):Int))),(127,.v (.bool false))]) kz fun p7 fB=>?_)
   have j8:=TT.ofW ((av.trans cr).trans da) dL
   refine ⟨fun _=>j8,?_⟩
   refine qaF kz ?_ _
   refine qab ?_
   refine qap fB (b:=false) kz rfl ?_
   refine qdd 20 kz dL fun p8 eB fC db=>?_
   refine qaD [0,1,2,3,7,8,9,10,11] [(0,.p 0 0),(2,.p 1 0),(3,.p 3 0),(122,.v (.int .i64 (((D.f 6).l:Nat):Int))),(123,.v (.int .i64 ((k6_:Nat):Int))),(149,.v (.slice (some ⟨aa,0,none⟩) 7 7)),(151,.v (.slice (some ⟨aa,0,none⟩) 7 7)),(158,.v (.slice ((D.f 6).A) ((D.f 6).l) ((D.f 6).c))),(159,.v (.int .i64 ((k6_:Nat):Int)))] 12 (qac (qaa (qaa (qac (qaa qad))))) (fun _ h=>h.cells) db fB fun p9 j9=>?_
   refine qaH j9 (i:=4) (t:=34) (A:=(some ⟨aa,0,none⟩)) (m:=7) (q:=6) (d:=152) kz (e:=37) (size:=5) (bytes:=88) (j:=6) kz (b:=aa) (o:=0) rfl rfl (by decide) kz kz (qac (qaa (qaa (qac (qaa qad))))) db fun qa ka=>?_
   have kd:=ka.recast 152 (.v (.pointer (some ⟨aa,0 + 6 * 5,none⟩))) (.p 2 30) rfl rfl (Nat.le_of_ble_eq_true (n:=3) rfl)
   have ke:=kd.pk (env':=[(0,.p 0 0),(2,.p 1 0),(3,.p 3 0),(122,.v (.int .i64 (((D.f 6).l:Nat):Int))),(123,.v (.int .i64 ((k6_:Nat):Int))),(149,.v (.slice (some ⟨aa,0,none⟩) 7 7)),(151,.v (.slice (some ⟨aa,0,none⟩) 7 7)),(158,.v (.slice ((D.f 6).A) ((D.f 6).l) ((D.f 6).c))),(159,.v (.int .i64 ((k6_:Nat):Int))),(152,.p 2 30)])
   refine qaD [5,6] [(0,.p 0 0),(2,.p 1 0),(3,.p 3 0),(122,.v (.int .i64 (((D.f 6).l:Nat):Int))),(123,.v (.int .i64 ((k6_:Nat):Int))),(149,.v (.slice (some ⟨aa,0,none⟩) 7 7)),(154,.v (.slice A6_ k6_ c6_)),(158,.v (.slice ((D.f 6).A) ((D.f 6).l) ((D.f 6).c))),(159,.v (.int .i64 ((k6_:Nat):Int)))] 9 (qac (qaa (qaa (qac (qaa qad))))) (fun _ h=>h.cells) db ke fun qb kf=>?_
   obtain ⟨dW,dX,kg,nD,gk⟩:=Slots.get g7 (i:=k6_) (by omega)
   have fD:O16 _ _ (some ⟨dW,dX + k6_ * 16,none⟩) 16 (((D.f 6).f k6_).o):=qha (k:=0) (b:=dW) (o:=dX + k6_ * 16) (s:=((D.f 6).f k6_).o) gk (g7e k6_ (by omega)) (fun j hj=>by match j,hj with | 0,_=>rfl | 1,_=>rfl | 2,_=>rfl | 3,_=>rfl | 4,_=>rfl | 5,_=>rfl | 6,_=>rfl | 7,_=>rfl | 8,_=>rfl | 9,_=>rfl | 10,_=>rfl | 11,_=>rfl | 12,_=>rfl | 13,_=>rfl | 14,_=>rfl | 15,_=>rfl | n_ + 16,h_=>exact absurd h_ (by omega))
   refine qaH kf (i:=12) (t:=70) (A:=(D.f 6).A) (m:=((D.f 6).l)) (q:=((k6_:Nat):Int)) (d:=160) kz (e:=78) (size:=16) (bytes:=16) kz kg rfl (by omega) kz kz (qac (qaa (qaa (qac (qaa qad))))) db fun qc kh=>?_
   refine qaD [13] [(0,.p 0 0),(2,.p 1 0),(3,.p 3 0),(122,.v (.int .i64 (((D.f 6).l:Nat):Int))),(123,.v (.int .i64 ((k6_:Nat):Int))),(149,.v (.slice (some ⟨aa,0,none⟩) 7 7)),(154,.v (.slice A6_ k6_ c6_)),(161,.v (.slice (some ⟨dW,dX + k6_ * 16,none⟩) 16 16))] 7 (qac (qaa (qaa (qac (qaa qad))))) (fun _ h=>h.cells) db kh fun qd ki=>?_
   have dc:=fC.addNil 5 1
   have bL:=fC.frNil 5 1
   refine qaw (i:=14) kz (qaO dc ki (k:=2) (d:=162) (t:=22) (e:=5) (size:=1) (bytes:=1) (A:=none) (As:=(some ⟨dW,dX + k6_ * 16,none⟩)) (m0:=0) (c:=0) (m:=16) (cs:=16) (xs:=[]) (news:=bc (((D.f 6).f k6_).o)) kz kz rfl (fD.move dc.step nilM dc.imm).src (fD.move dc.step nilM dc.imm).cap (by omega) fun aY aZ qe qf bM kj km=>?_)
   have ko:(⟨aY,aZ,5,1,0 + 16,[] ++ bc (((D.f 6).f k6_).o)⟩:Rw) = brow aY aZ 5 (((D.f 6).f k6_).o):=by rw [List.nil_append]; unfold brow; rw [(g7e k6_ (by omega))]
   obtain ⟨fE,bN⟩:=kj.rowEq 2 [⟨A5_,c5_,37,5,k5_,xs5_⟩,⟨A6_,c6_,37,5,k6_,xs6_⟩,brow aY aZ 5 (((D.f 6).f k6_).o)] ko
   have kp:=EnvOk.pick km (ks:=[0,2,3,122,123,149,154,161,162]) (env':=[(0,.p 0 0),(2,.p 1 0),(3,.p 3 0),(122,.v (.int .i64 (((D.f 6).l:Nat):Int))),(123,.v (.int .i64 ((k6_:Nat):Int))),(149,.v (.slice (some ⟨aa,0,none⟩) 7 7)),(154,.v (.slice A6_ k6_ c6_)),(161,.v (.slice (some ⟨dW,dX + k6_ * 16,none⟩) 16 16)),(162,.v (.slice aY (0 + 16) aZ))]) kz
   have kq:=kp.cast (env':=[(0,.p 0 0),(2,.p 1 0),(3,.p 3 0),(122,.v (.int .i64 (((D.f 6).l:Nat):Int))),(123,.v (.int .i64 ((k6_:Nat):Int))),(149,.v (.slice (some ⟨aa,0,none⟩) 7 7)),(154,.v (.slice A6_ k6_ c6_)),(161,.v (.slice (some ⟨dW,dX + k6_ * 16,none⟩) 16 16)),(162,.v (.slice aY ((((D.f 6).f k6_).o).length) aZ))]) (by rw [(g7e k6_ (by omega))])
   have ku:=fE.giveUp (G:=F) 2 [⟨A5_,c5_,37,5,k5_,xs5_⟩,⟨A6_,c6_,37,5,k6_,xs6_⟩] (show _ = some (brow aY aZ 5 (((D.f 6).f k6_).o)) from rfl) (by rw [(g7e k6_ (by omega))]; decide)
   obtain ⟨fF,bO⟩:=fE.cutR 2 [⟨A5_,c5_,37,5,k5_,xs5_⟩,⟨A6_,c6_,37,5,k6_,xs6_⟩]
   have fG:=TT.ofW (((bL.trans bM).trans bN).trans bO) fF
   refine ⟨fun _=>fG,?_⟩
   refine qaD [15] [(0,.p 0 0),(2,.p 1 0),(3,.p 3 0),(122,.v (.int .i64 (((D.f 6).l:Nat):Int))),(123,.v (.int .i64 ((k6_:Nat):Int))),(149,.v (.slice (some ⟨aa,0,none⟩) 7 7)),(154,.v (.slice A6_ k6_ c6_)),(163,.v (.agg #[.int .i64 0,.slice aY ((((D.f 6).f k6_).o).length) aZ,.bool false,.slice none 0 0,.slice none 0 0]))] 5 (qac (qaa (qaa (qac (qaa qad))))) (fun _ h=>h.cells) fG kq fun qg kv=>?_
   refine qaw (i:=16) kz (qbw fF kv (e:=37) (size:=5) (len:=1) (cs:=[.int .i64 0,.slice aY ((((D.f 6).f k6_).o).length) aZ,.bool false,.slice none 0 0,.slice none 0 0]) (d:=164) kz kz fun kw qh qi nE nF bh dM kx=>?_)
   have ky:=TT.ofW ((((bL.trans bM).trans bN).trans bO).trans bh) dM
   refine ⟨fun _=>ky,?_⟩
   refine qaw (i:=17) kz (qaO dM kx (k:=1) (d:=165) (t:=34) (e:=37) (size:=5) (bytes:=88) (A:=A6_) (As:=(some ⟨kw,0,none⟩)) (m0:=k6_) (c:=c6_) (m:=1) (cs:=1) (xs:=xs6_) (news:=[.int .i64 0,.slice aY ((((D.f 6).f k6_).o).length) aZ,.bool false,.slice none 0 0,.slice none 0 0]) kz kz rfl (qbo (dM.own 2 _ rfl) (qby kz)) (qbA (dM.own 2 _ rfl)) (by omega) fun dY dZ qj qk bP eC kA=>?_)
   have kB:=TT.ofW (((((bL.trans bM).trans bN).trans bO).trans bh).trans bP) eC
   refine ⟨fun _=>kB,?_⟩
   refine qaw (i:=18) kz (qaC kA (t:=34) (A:=(some ⟨aa,0,none⟩)) (m:=7) (q:=6) (d:=166) kz (e:=37) (size:=5) (bytes:=88) (j:=6) kz (b:=aa) (o:=0) rfl rfl (by decide) fun ql kC=>?_)
   have kD:=kC.recast 166 (.v (.pointer (some ⟨aa,0 + 6 * 5,none⟩))) (.p 2 30) rfl rfl (Nat.le_of_ble_eq_true (n:=3) rfl)
   have kE:=kD.pk (env':=[(0,.p 0 0),(2,.p 1 0),(3,.p 3 0),(122,.v (.int .i64 (((D.f 6).l:Nat):Int))),(123,.v (.int .i64 ((k6_:Nat):Int))),(149,.v (.slice (some ⟨aa,0,none⟩) 7 7)),(154,.v (.slice A6_ k6_ c6_)),(163,.v (.agg #[.int .i64 0,.slice aY ((((D.f 6).f k6_).o).length) aZ,.bool false,.slice none 0 0,.slice none 0 0])),(164,.v (.slice (some ⟨kw,0,none⟩) 1 1)),(165,.v (.slice dY (k6_ + 1) dZ)),(166,.p 2 30)])
   have fH:=TT.ofW (((((bL.trans bM).trans bN).trans bO).trans bh).trans bP) eC
   refine ⟨fun _=>fH,?_⟩
   refine qaD [19] [(0,.p 0 0),(2,.p 1 0),(3,.p 3 0),(122,.v (.int .i64 (((D.f 6).l:Nat):Int))),(123,.v (.int .i64 ((k6_:Nat):Int))),(165,.v (.slice dY (k6_ + 1) dZ)),(167,.p 2 33)] 1 (qac (qaa (qaa (qac (qaa qad))))) (fun _ h=>h.cells) fH kE fun qm kF=>?_
   refine qaw (i:=20) kz (qav eC kF (oi:=2) (cs:=(.int .i64 (IntKind.i64.wrap ((D.f 0).n)) :: .slice none 0 0 :: .bool false :: .slice none 0 0 :: .slice none 0 0 :: .int .i64 ((D.f 1).n) :: .slice none 0 0 :: .bool false :: .slice none 0 0 :: .slice none 0 0 :: .int .i64 ((D.f 2).n) :: .slice none 0 0 :: .bool false :: .slice none 0 0 :: .slice none 0 0 :: .int .i64 ay :: .slice aD az.length aE :: .bool aA :: .slice aF aB.length ab :: .slice ac aC.length ae :: .int .i64 af :: .slice ak ag.length al :: .bool ah :: .slice am ai.length ao :: .slice ap aj.length ar :: .int .i64 0 :: .slice none 0 0 :: .bool (((D.f 5).A).isNone) :: .slice A5_ k5_ c5_ :: .slice none 0 0 :: .int .i64 0 :: .slice none 0 0 :: .bool (((D.f 6).A).isNone) :: .slice dY (k6_ + 1) dZ :: .slice none 0 0 :: [])) kz fun qn de fI kG=>?_)
   refine ⟨fun h=>absurd rfl h,?_⟩
   refine qaF kz ?_ _
   refine qaq ?_
   refine qab ?_
   refine qat [0,1] kz ?_
   refine qaj [0,1] [] [(0,.p 0 0),(2,.p 1 0),(3,.p 3 0),(122,.v (.int .i64 (((D.f 6).l:Nat):Int))),(123,.v (.int .i64 (IntKind.i64.wrap (((k6_:Nat):Int) + 1))))] fI kG fun qo kH=>?_
   refine qaf (qab ?_)
   obtain ⟨fJ,kI,df⟩:=fI.cutB kH 4 [⟨b,o,[.int .i16 v,.int .i32 ((D.f 0).n),.int .i64 ((D.f 1).n),.int .i64 ((D.f 2).n),.bool ((D.f 3).b),.bool ((D.f 4).b),.slice ((D.f 5).A) ((D.f 5).l) ((D.f 5).c),.slice ((D.f 6).A) ((D.f 6).l) ((D.f 6).c),.map D.m],false⟩,⟨b9,0,[.int .i64 0,.slice none 0 0,.bool false,.slice none 0 0,.slice none 0 0],true⟩,⟨aa,0,(.int .i64 (IntKind.i64.wrap ((D.f 0).n)) :: .slice none 0 0 :: .bool false :: .slice none 0 0 :: .slice none 0 0 :: .int .i64 ((D.f 1).n) :: .slice none 0 0 :: .bool false :: .slice none 0 0 :: .slice none 0 0 :: .int .i64 ((D.f 2).n) :: .slice none 0 0 :: .bool false :: .slice none 0 0 :: .slice none 0 0 :: .int .i64 ay :: .slice aD az.length aE :: .bool aA :: .slice aF aB.length ab :: .slice ac aC.length ae :: .int .i64 af :: .slice ak ag.length al :: .bool ah :: .slice am ai.length ao :: .slice ap aj.length ar :: .int .i64 0 :: .slice none 0 0 :: .bool (((D.f 5).A).isNone) :: .slice A5_ k5_ c5_ :: .slice none 0 0 :: .int .i64 0 :: .slice none 0 0 :: .bool (((D.f 6).A).isNone) :: .slice dY (k6_ + 1) dZ :: .slice none 0 0 :: []),true⟩,⟨ba,0,[.int .i64 0,.slice none 0 0,.bool false,.slice (some ⟨aa,0,none⟩) 7 7,.slice none 0 0],true⟩] [(0,.p 0 0),(2,.p 1 0),(3,.p 3 0),(122,.v (.int .i64 (((D.f 6).l:Nat):Int))),(123,.v (.int .i64 (IntKind.i64.wrap (((k6_:Nat):Int) + 1))))]
   obtain ⟨kJ,dg⟩:=kI.cutR 2 [⟨A5_,c5_,37,5,k5_,xs5_⟩,⟨dY,dZ,37,5,k6_ + 1,xs6_ ++ [.int .i64 0,.slice aY ((((D.f 6).f k6_).o).length) aZ,.bool false,.slice none 0 0,.slice none 0 0]⟩]
   have kK:IntKind.i64.wrap (((k6_:Nat):Int) + 1) = ((k6_ + 1:Nat):Int):=qaN (by omega)
   rw [kK] at fJ
   exact ⟨(D.f 6).l - (k6_ + 1),by omega,k6_ + 1,dY,dZ,xs6_ ++ [Value.int .i64 0,.slice aY ((((D.f 6).f k6_).o).length) aZ,.bool false,.slice none 0 0,.slice none 0 0],(css6_ ++ [[Value.int .i64 0,.slice aY ((((D.f 6).f k6_).o).length) aZ,.bool false,.slice none 0 0,.slice none 0 0]]),rfl,by omega,by rw [qch (by omega)]; exact (hT6_.move (((((((((((((aU.trans av).trans cr).trans da).trans eB).trans bL).trans bM).trans bN).trans bO).trans bh).trans bP).trans de).trans df).trans dg).step immM (((((((((((((aU.trans av).trans cr).trans da).trans eB).trans bL).trans bM).trans bN).trans bO).trans bh).trans bP).trans de).trans df).trans dg).to').snoc (x:=(fun i=>Tree.mk 0 ((D.f 6).f i).o false [] []) k6_) (TreeR.mk (n:=0) (b:=false) (s:=(((D.f 6).f k6_).o)) (l:=[]) (u:=[]) (fun _=>[]) (ku.move ((((bh.trans bP).trans de).trans df).trans dg).step immM ((((bh.trans bP).trans de).trans df).trans dg).to') (Slots.nil _ _ _ _) (fun i_ x_ h_=>by simp at h_) (TagsR.nil _ _)),fJ.pk,kJ,((((((((((((((aT.trans aU).trans av).trans cr).trans da).trans eB).trans bL).trans bM).trans bN).trans bO).trans bh).trans bP).trans de).trans df).trans dg)⟩
  refine (qav ez fz (oi:=4) (cs:=[.bool false]) kz fun qp aV fK kL=>?_)
  have kM:=TT.ofW (av.trans aV) fK
  refine ⟨fun _=>kM,?_⟩
  refine qaw (i:=1) kz (qav fK kL (oi:=4) (cs:=[.bool true]) kz fun qq bj dN kN=>?_)
  have kO:=TT.ofW ((av.trans aV).trans bj) dN
  refine ⟨fun _=>kO,?_⟩
  refine qaw (i:=3) kz (qa9 [0,2,3,5,122,123,127] dN.cells kN (env':=[(0,.p 0 0),(2,.p 1 0),(3,.p 3 0),(5,.v (.int .i64 ((k6_:Nat):Int))),(122,.v (.int .i64 (((D.f 6).l:Nat):Int))),(123,.v (.int .i64 ((k6_:Nat):Int))),(127,.v (.bool true))]) kz fun qr fL=>?_)
  have kP:=TT.ofW ((av.trans aV).trans bj) dN
  refine ⟨fun _=>kP,?_⟩
  refine qaF kz ?_ _
  refine qab ?_
  refine qaU fL (b:=true) kz rfl ?_
  refine qaG 19 kz dN fun qs cu eD dh=>?_
  refine qaD [0,1,5,6,7,8,9] [(0,.p 0 0),(2,.p 1 0),(3,.p 3 0),(122,.v (.int .i64 (((D.f 6).l:Nat):Int))),(123,.v (.int .i64 ((k6_:Nat):Int))),(129,.v (.slice (some ⟨aa,0,none⟩) 7 7)),(136,.v (.slice ((D.f 6).A) ((D.f 6).l) ((D.f 6).c))),(137,.v (.int .i64 ((k6_:Nat):Int)))] 13 (qaa (qac (qaa (qaa (qac (qaa qad)))))) (fun _ h=>h.cells) dh fL fun qt kQ=>?_
  refine qaH kQ (i:=2) (t:=34) (A:=(some ⟨aa,0,none⟩)) (m:=7) (q:=6) (d:=130) kz (e:=37) (size:=5) (bytes:=88) (j:=6) kz (b:=aa) (o:=0) rfl rfl (by decide) kz kz (qaa (qac (qaa (qaa (qac (qaa qad)))))) dh fun qu kR=>?_
  have kS:=kR.recast 130 (.v (.pointer (some ⟨aa,0 + 6 * 5,none⟩))) (.p 2 30) rfl rfl (Nat.le_of_ble_eq_true (n:=3) rfl)
  have kT:=kS.pk (env':=[(0,.p 0 0),(2,.p 1 0),(3,.p 3 0),(122,.v (.int .i64 (((D.f 6).l:Nat):Int))),(123,.v (.int .i64 ((k6_:Nat):Int))),(129,.v (.slice (some ⟨aa,0,none⟩) 7 7)),(136,.v (.slice ((D.f 6).A) ((D.f 6).l) ((D.f 6).c))),(137,.v (.int .i64 ((k6_:Nat):Int))),(130,.p 2 30)])
  refine qaD [3,4,14] [(0,.p 0 0),(2,.p 1 0),(3,.p 3 0),(122,.v (.int .i64 (((D.f 6).l:Nat):Int))),(123,.v (.int .i64 ((k6_:Nat):Int))),(129,.v (.slice (some ⟨aa,0,none⟩) 7 7)),(132,.v (.slice A6_ k6_ c6_)),(136,.v (.slice ((D.f 6).A) ((D.f 6).l) ((D.f 6).c))),(137,.v (.int .i64 ((k6_:Nat):Int))),(142,.v (.int .i64 ((k6_:Nat):Int)))] 9 (qaa (qac (qaa (qaa (qac (qaa qad)))))) (fun _ h=>h.cells) dh kT fun qv kU=>?_
  obtain ⟨cG,cH,kV,nG,gl⟩:=Slots.get g7 (i:=k6_) (by omega)
  have dO:O16 _ _ (some ⟨cG,cH + k6_ * 16,none⟩) 16 (((D.f 6).f k6_).o):=qha (k:=0) (b:=cG) (o:=cH + k6_ * 16) (s:=((D.f 6).f k6_).o) gl (g7e k6_ (by omega)) (fun j hj=>by match j,hj with | 0,_=>rfl | 1,_=>rfl | 2,_=>rfl | 3,_=>rfl | 4,_=>rfl | 5,_=>rfl | 6,_=>rfl | 7,_=>rfl | 8,_=>rfl | 9,_=>rfl | 10,_=>rfl | 11,_=>rfl | 12,_=>rfl | 13,_=>rfl | 14,_=>rfl | 15,_=>rfl | n_ + 16,h_=>exact absurd h_ (by omega))
  refine qaH kU (i:=10) (t:=70) (A:=(D.f 6).A) (m:=((D.f 6).l)) (q:=((k6_:Nat):Int)) (d:=138) kz (e:=78) (size:=16) (bytes:=16) kz kV rfl (by omega) kz kz (qaa (qac (qaa (qaa (qac (qaa qad)))))) dh fun qw kW=>?_
  refine qaD [11] [(0,.p 0 0),(2,.p 1 0),(3,.p 3 0),(122,.v (.int .i64 (((D.f 6).l:Nat):Int))),(123,.v (.int .i64 ((k6_:Nat):Int))),(129,.v (.slice (some ⟨aa,0,none⟩) 7 7)),(132,.v (.slice A6_ k6_ c6_)),(139,.v (.slice (some ⟨cG,cH + k6_ * 16,none⟩) 16 16)),(142,.v (.int .i64 ((k6_:Nat):Int)))] 7 (qaa (qac (qaa (qaa (qac (qaa qad)))))) (fun _ h=>h.cells) dh kW fun qx fM=>?_
  refine qd7 (i:=12) (j:=15) kz ?_ ?_
  ·
   have di:=eD.addNil 5 1
   have bQ:=eD.frNil 5 1
   refine (qaO di fM (k:=2) (d:=140) (t:=22) (e:=5) (size:=1) (bytes:=1) (A:=none) (As:=(some ⟨cG,cH + k6_ * 16,none⟩)) (m0:=0) (c:=0) (m:=16) (cs:=16) (xs:=[]) (news:=bc (((D.f 6).f k6_).o)) kz kz rfl (dO.move di.step nilM di.imm).src (dO.move di.step nilM di.imm).cap (by omega) fun aK aL qy qz bR kX kY=>?_)
   have kZ:(⟨aK,aL,5,1,0 + 16,[] ++ bc (((D.f 6).f k6_).o)⟩:Rw) = brow aK aL 5 (((D.f 6).f k6_).o):=by rw [List.nil_append]; unfold brow; rw [(g7e k6_ (by omega))]
   obtain ⟨fN,bS⟩:=kX.rowEq 2 [⟨A5_,c5_,37,5,k5_,xs5_⟩,⟨A6_,c6_,37,5,k6_,xs6_⟩,brow aK aL 5 (((D.f 6).f k6_).o)] kZ
   have k5:=EnvOk.pick kY (ks:=[0,2,3,122,123,129,132,139,142,140]) (env':=[(0,.p 0 0),(2,.p 1 0),(3,.p 3 0),(122,.v (.int .i64 (((D.f 6).l:Nat):Int))),(123,.v (.int .i64 ((k6_:Nat):Int))),(129,.v (.slice (some ⟨aa,0,none⟩) 7 7)),(132,.v (.slice A6_ k6_ c6_)),(139,.v (.slice (some ⟨cG,cH + k6_ * 16,none⟩) 16 16)),(142,.v (.int .i64 ((k6_:Nat):Int))),(140,.v (.slice aK (0 + 16) aL))]) kz
   have k6:=k5.cast (env':=[(0,.p 0 0),(2,.p 1 0),(3,.p 3 0),(122,.v (.int .i64 (((D.f 6).l:Nat):Int))),(123,.v (.int .i64 ((k6_:Nat):Int))),(129,.v (.slice (some ⟨aa,0,none⟩) 7 7)),(132,.v (.slice A6_ k6_ c6_)),(139,.v (.slice (some ⟨cG,cH + k6_ * 16,none⟩) 16 16)),(142,.v (.int .i64 ((k6_:Nat):Int))),(140,.v (.slice aK ((((D.f 6).f k6_).o).length) aL))]) (by rw [(g7e k6_ (by omega))])
   have k7:=fN.giveUp (G:=F) 2 [⟨A5_,c5_,37,5,k5_,xs5_⟩,⟨A6_,c6_,37,5,k6_,xs6_⟩] (show _ = some (brow aK aL 5 (((D.f 6).f k6_).o)) from rfl) (by rw [(g7e k6_ (by omega))]; decide)
   obtain ⟨fO,bT⟩:=fN.cutR 2 [⟨A5_,c5_,37,5,k5_,xs5_⟩,⟨A6_,c6_,37,5,k6_,xs6_⟩]
   have fP:=TT.ofW (((bQ.trans bR).trans bS).trans bT) fO
   refine ⟨fun _=>fP,?_⟩
   refine qaD [13] [(0,.p 0 0),(2,.p 1 0),(3,.p 3 0),(122,.v (.int .i64 (((D.f 6).l:Nat):Int))),(123,.v (.int .i64 ((k6_:Nat):Int))),(129,.v (.slice (some ⟨aa,0,none⟩) 7 7)),(132,.v (.slice A6_ k6_ c6_)),(141,.v (.agg #[.int .i64 0,.slice aK ((((D.f 6).f k6_).o).length) aL,.bool false,.slice none 0 0,.slice none 0 0])),(142,.v (.int .i64 ((k6_:Nat):Int)))] 5 (qaa (qac (qaa (qaa (qac (qaa qad)))))) (fun _ h=>h.cells) fP k6 fun qA k8=>?_
   refine qaw (i:=15) kz (qbw fO k8 (e:=37) (size:=5) (len:=1) (cs:=[.int .i64 0,.slice none 0 0,.bool false,.slice none 0 0,.slice none 0 0]) (d:=143) kz kz fun gm qB qC nH nI bk dP k9=>?_)
   have la:=TT.ofW ((((bQ.trans bR).trans bS).trans bT).trans bk) dP
   refine ⟨fun _=>la,?_⟩
   refine qaw (i:=16) kz (qaO dP k9 (k:=1) (d:=144) (t:=34) (e:=37) (size:=5) (bytes:=88) (A:=A6_) (As:=(some ⟨gm,0,none⟩)) (m0:=k6_) (c:=c6_) (m:=1) (cs:=1) (xs:=xs6_) (news:=[.int .i64 0,.slice none 0 0,.bool false,.slice none 0 0,.slice none 0 0]) kz kz rfl (qbo (dP.own 2 _ rfl) (qby kz)) (qbA (dP.own 2 _ rfl)) (by omega) fun bq bU qD qE bV eE lb=>?_)
   have lc:=TT.ofW (((((bQ.trans bR).trans bS).trans bT).trans bk).trans bV) eE
   refine ⟨fun _=>lc,?_⟩
   refine qaw (i:=17) kz (qaC lb (t:=34) (A:=(some ⟨aa,0,none⟩)) (m:=7) (q:=6) (d:=145) kz (e:=37) (size:=5) (bytes:=88) (j:=6) kz (b:=aa) (o:=0) rfl rfl (by decide) fun qF ld=>?_)
   have lf:=ld.recast 145 (.v (.pointer (some ⟨aa,0 + 6 * 5,none⟩))) (.p 2 30) rfl rfl (Nat.le_of_ble_eq_true (n:=3) rfl)
   have lg:=lf.pk (env':=[(0,.p 0 0),(2,.p 1 0),(3,.p 3 0),(122,.v (.int .i64 (((D.f 6).l:Nat):Int))),(123,.v (.int .i64 ((k6_:Nat):Int))),(129,.v (.slice (some ⟨aa,0,none⟩) 7 7)),(132,.v (.slice A6_ k6_ c6_)),(141,.v (.agg #[.int .i64 0,.slice aK ((((D.f 6).f k6_).o).length) aL,.bool false,.slice none 0 0,.slice none 0 0])),(142,.v (.int .i64 ((k6_:Nat):Int))),(143,.v (.slice (some ⟨gm,0,none⟩) 1 1)),(144,.v (.slice bq (k6_ + 1) bU)),(145,.p 2 30)])
   have fQ:=TT.ofW (((((bQ.trans bR).trans bS).trans bT).trans bk).trans bV) eE
   refine ⟨fun _=>fQ,?_⟩
   refine qaD [18] [(0,.p 0 0),(2,.p 1 0),(3,.p 3 0),(122,.v (.int .i64 (((D.f 6).l:Nat):Int))),(123,.v (.int .i64 ((k6_:Nat):Int))),(141,.v (.agg #[.int .i64 0,.slice aK ((((D.f 6).f k6_).o).length) aL,.bool false,.slice none 0 0,.slice none 0 0])),(142,.v (.int .i64 ((k6_:Nat):Int))),(144,.v (.slice bq (k6_ + 1) bU)),(146,.p 2 33)] 1 (qaa (qac (qaa (qaa (qac (qaa qad)))))) (fun _ h=>h.cells) fQ lg fun qG lh=>?_
   refine qaw (i:=19) kz (qav eE lh (oi:=2) (cs:=(.int .i64 (IntKind.i64.wrap ((D.f 0).n)) :: .slice none 0 0 :: .bool false :: .slice none 0 0 :: .slice none 0 0 :: .int .i64 ((D.f 1).n) :: .slice none 0 0 :: .bool false :: .slice none 0 0 :: .slice none 0 0 :: .int .i64 ((D.f 2).n) :: .slice none 0 0 :: .bool false :: .slice none 0 0 :: .slice none 0 0 :: .int .i64 ay :: .slice aD az.length aE :: .bool aA :: .slice aF aB.length ab :: .slice ac aC.length ae :: .int .i64 af :: .slice ak ag.length al :: .bool ah :: .slice am ai.length ao :: .slice ap aj.length ar :: .int .i64 0 :: .slice none 0 0 :: .bool (((D.f 5).A).isNone) :: .slice A5_ k5_ c5_ :: .slice none 0 0 :: .int .i64 0 :: .slice none 0 0 :: .bool (((D.f 6).A).isNone) :: .slice bq (k6_ + 1) bU :: .slice none 0 0 :: [])) kz fun m6 dj fR li=>?_)
   refine ⟨fun h=>absurd rfl h,?_⟩
   refine qaF kz ?_ _
   refine qab ?_
   refine qat [0,1] kz ?_
   have lj:World.ownsRow m6 0 37 5 (.slice bq (k6_ + 1) bU) (k6_ + 1) (xs6_ ++ [.int .i64 0,.slice none 0 0,.bool false,.slice none 0 0,.slice none 0 0]):=fR.own 1 _ rfl
   obtain ⟨lm,fS⟩:=qbH lj (by omega)
   refine qam (qaC li (t:=34) (A:=bq) (m:=(k6_ + 1)) (q:=((k6_:Nat):Int)) (d:=147) kz (e:=37) (size:=5) (bytes:=88) kz (b:=lm) (o:=0) (j:=k6_) fS (rfl) (by omega) fun qH ln=>?_)
   refine qam (qbC fR ln (k:=1) (g:=lm) (o:=k6_ * 5) (c:=bU) (m:=(k6_ + 1)) (size:=5) (e:=37) (A:=bq) (xs:=(xs6_ ++ [.int .i64 0,.slice none 0 0,.bool false,.slice none 0 0,.slice none 0 0])) (vs:=[.int .i64 0,.slice aK ((((D.f 6).f k6_).o).length) aL,.bool false,.slice none 0 0,.slice none 0 0]) kz rfl fS (by simp only [List.length_cons,List.length_nil]; omega) fun qI dl lp lq=>?_)
   have lr:(⟨bq,bU,37,5,k6_ + 1,qba (xs6_ ++ [.int .i64 0,.slice none 0 0,.bool false,.slice none 0 0,.slice none 0 0]) (k6_ * 5) [.int .i64 0,.slice aK ((((D.f 6).f k6_).o).length) aL,.bool false,.slice none 0 0,.slice none 0 0]⟩:Rw) = ⟨bq,bU,37,5,k6_ + 1,xs6_ ++ [.int .i64 0,.slice aK ((((D.f 6).f k6_).o).length) aL,.bool false,.slice none 0 0,.slice none 0 0]⟩:=by rw [qcU (by rw [hT6_.xslen,List.length_take,qb6]; omega)]
   obtain ⟨fT,dp⟩:=lp.rowEq 1 [⟨A5_,c5_,37,5,k5_,xs5_⟩,⟨bq,bU,37,5,k6_ + 1,xs6_ ++ [.int .i64 0,.slice aK ((((D.f 6).f k6_).o).length) aL,.bool false,.slice none 0 0,.slice none 0 0]⟩,⟨some ⟨gm,0,none⟩,1,37,5,1,[.int .i64 0,.slice none 0 0,.bool false,.slice none 0 0,.slice none 0 0]⟩] lr
   refine qaf ?_
   refine qaq ?_
   refine qab ?_
   refine qat [0,1] kz ?_
   refine qaj [0,1] [] [(0,.p 0 0),(2,.p 1 0),(3,.p 3 0),(122,.v (.int .i64 (((D.f 6).l:Nat):Int))),(123,.v (.int .i64 (IntKind.i64.wrap (((k6_:Nat):Int) + 1))))] fT lq fun qJ ls=>?_
   refine qaf (qab ?_)
   obtain ⟨fU,lu,dq⟩:=fT.cutB ls 4 [⟨b,o,[.int .i16 v,.int .i32 ((D.f 0).n),.int .i64 ((D.f 1).n),.int .i64 ((D.f 2).n),.bool ((D.f 3).b),.bool ((D.f 4).b),.slice ((D.f 5).A) ((D.f 5).l) ((D.f 5).c),.slice ((D.f 6).A) ((D.f 6).l) ((D.f 6).c),.map D.m],false⟩,⟨b9,0,[.int .i64 0,.slice none 0 0,.bool false,.slice none 0 0,.slice none 0 0],true⟩,⟨aa,0,(.int .i64 (IntKind.i64.wrap ((D.f 0).n)) :: .slice none 0 0 :: .bool false :: .slice none 0 0 :: .slice none 0 0 :: .int .i64 ((D.f 1).n) :: .slice none 0 0 :: .bool false :: .slice none 0 0 :: .slice none 0 0 :: .int .i64 ((D.f 2).n) :: .slice none 0 0 :: .bool false :: .slice none 0 0 :: .slice none 0 0 :: .int .i64 ay :: .slice aD az.length aE :: .bool aA :: .slice aF aB.length ab :: .slice ac aC.length ae :: .int .i64 af :: .slice ak ag.length al :: .bool ah :: .slice am ai.length ao :: .slice ap aj.length ar :: .int .i64 0 :: .slice none 0 0 :: .bool (((D.f 5).A).isNone) :: .slice A5_ k5_ c5_ :: .slice none 0 0 :: .int .i64 0 :: .slice none 0 0 :: .bool (((D.f 6).A).isNone) :: .slice bq (k6_ + 1) bU :: .slice none 0 0 :: []),true⟩,⟨ba,0,[.int .i64 0,.slice none 0 0,.bool false,.slice (some ⟨aa,0,none⟩) 7 7,.slice none 0 0],true⟩] [(0,.p 0 0),(2,.p 1 0),(3,.p 3 0),(122,.v (.int .i64 (((D.f 6).l:Nat):Int))),(123,.v (.int .i64 (IntKind.i64.wrap (((k6_:Nat):Int) + 1))))]
   obtain ⟨lv,dr⟩:=lu.cutR 2 [⟨A5_,c5_,37,5,k5_,xs5_⟩,⟨bq,bU,37,5,k6_ + 1,xs6_ ++ [.int .i64 0,.slice aK ((((D.f 6).f k6_).o).length) aL,.bool false,.slice none 0 0,.slice none 0 0]⟩]
   have lw:IntKind.i64.wrap (((k6_:Nat):Int) + 1) = ((k6_ + 1:Nat):Int):=qaN (by omega)
   rw [lw] at fU
   exact ⟨(D.f 6).l - (k6_ + 1),by omega,k6_ + 1,bq,bU,xs6_ ++ [Value.int .i64 0,.slice aK ((((D.f 6).f k6_).o).length) aL,.bool false,.slice none 0 0,.slice none 0 0],(css6_ ++ [[Value.int .i64 0,.slice aK ((((D.f 6).f k6_).o).length) aL,.bool false,.slice none 0 0,.slice none 0 0]]),rfl,by omega,by rw [qch (by omega)]; exact (hT6_.move (((((((((((((((aU.trans av).trans aV).trans bj).trans cu).trans bQ).trans bR).trans bS).trans bT).trans bk).trans bV).trans dj).trans dl).trans dp).trans dq).trans dr).step immM (((((((((((((((aU.trans av).trans aV).trans bj).trans cu).trans bQ).trans bR).trans bS).trans bT).trans bk).trans bV).trans dj).trans dl).trans dp).trans dq).trans dr).to').snoc (x:=(fun i=>Tree.mk 0 ((D.f 6).f i).o false [] []) k6_) (TreeR.mk (n:=0) (b:=false) (s:=(((D.f 6).f k6_).o)) (l:=[]) (u:=[]) (fun _=>[]) (k7.move ((((((bk.trans bV).trans dj).trans dl).trans dp).trans dq).trans dr).step immM ((((((bk.trans bV).trans dj).trans dl).trans dp).trans dq).trans dr).to') (Slots.nil _ _ _ _) (fun i_ x_ h_=>by simp at h_) (TagsR.nil _ _)),fU.pk,lv,((((((((((((((((aT.trans aU).trans av).trans aV).trans bj).trans cu).trans bQ).trans bR).trans bS).trans bT).trans bk).trans bV).trans dj).trans dl).trans dp).trans dq).trans dr)⟩
  refine (qbw eD fM (e:=37) (size:=5) (len:=1) (cs:=[.int .i64 0,.slice none 0 0,.bool false,.slice none 0 0,.slice none 0 0]) (d:=143) kz kz fun cI qK qL nJ nK bW eF lx=>?_)
  have ly:=TT.ofW bW eF
  refine ⟨fun _=>ly,?_⟩
  have dt:=eF.addNil 5 1
  have cw:=eF.frNil 5 1
  refine qaw (i:=12) kz (qaO dt lx (k:=3) (d:=140) (t:=22) (e:=5) (size:=1) (bytes:=1) (A:=none) (As:=(some ⟨cG,cH + k6_ * 16,none⟩)) (m0:=0) (c:=0) (m:=16) (cs:=16) (xs:=[]) (news:=bc (((D.f 6).f k6_).o)) kz kz rfl (dO.move dt.step nilM dt.imm).src (dO.move dt.step nilM dt.imm).cap (by omega) fun aM aN qM qN cz lz lA=>?_)
  have lB:(⟨aM,aN,5,1,0 + 16,[] ++ bc (((D.f 6).f k6_).o)⟩:Rw) = brow aM aN 5 (((D.f 6).f k6_).o):=by rw [List.nil_append]; unfold brow; rw [(g7e k6_ (by omega))]
  obtain ⟨fV,cA⟩:=lz.rowEq 3 [⟨A5_,c5_,37,5,k5_,xs5_⟩,⟨A6_,c6_,37,5,k6_,xs6_⟩,⟨some ⟨cI,0,none⟩,1,37,5,1,[.int .i64 0,.slice none 0 0,.bool false,.slice none 0 0,.slice none 0 0]⟩,brow aM aN 5 (((D.f 6).f k6_).o)] lB
  have lC:=EnvOk.pick lA (ks:=[0,2,3,122,123,129,132,139,142,143,140]) (env':=[(0,.p 0 0),(2,.p 1 0),(3,.p 3 0),(122,.v (.int .i64 (((D.f 6).l:Nat):Int))),(123,.v (.int .i64 ((k6_:Nat):Int))),(129,.v (.slice (some ⟨aa,0,none⟩) 7 7)),(132,.v (.slice A6_ k6_ c6_)),(139,.v (.slice (some ⟨cG,cH + k6_ * 16,none⟩) 16 16)),(142,.v (.int .i64 ((k6_:Nat):Int))),(143,.v (.slice (some ⟨cI,0,none⟩) 1 1)),(140,.v (.slice aM (0 + 16) aN))]) kz
  have lD:=lC.cast (env':=[(0,.p 0 0),(2,.p 1 0),(3,.p 3 0),(122,.v (.int .i64 (((D.f 6).l:Nat):Int))),(123,.v (.int .i64 ((k6_:Nat):Int))),(129,.v (.slice (some ⟨aa,0,none⟩) 7 7)),(132,.v (.slice A6_ k6_ c6_)),(139,.v (.slice (some ⟨cG,cH + k6_ * 16,none⟩) 16 16)),(142,.v (.int .i64 ((k6_:Nat):Int))),(143,.v (.slice (some ⟨cI,0,none⟩) 1 1)),(140,.v (.slice aM ((((D.f 6).f k6_).o).length) aN))]) (by rw [(g7e k6_ (by omega))])
  have lE:=fV.giveUp (G:=F) 3 [⟨A5_,c5_,37,5,k5_,xs5_⟩,⟨A6_,c6_,37,5,k6_,xs6_⟩,⟨some ⟨cI,0,none⟩,1,37,5,1,[.int .i64 0,.slice none 0 0,.bool false,.slice none 0 0,.slice none 0 0]⟩] (show _ = some (brow aM aN 5 (((D.f 6).f k6_).o)) from rfl) (by rw [(g7e k6_ (by omega))]; decide)
  obtain ⟨dQ,cB⟩:=fV.cutR 3 [⟨A5_,c5_,37,5,k5_,xs5_⟩,⟨A6_,c6_,37,5,k6_,xs6_⟩,⟨some ⟨cI,0,none⟩,1,37,5,1,[.int .i64 0,.slice none 0 0,.bool false,.slice none 0 0,.slice none 0 0]⟩]
  have fW:=TT.ofW ((((bW.trans cw).trans cz).trans cA).trans cB) dQ
  refine ⟨fun _=>fW,?_⟩
  refine qaD [13] [(0,.p 0 0),(2,.p 1 0),(3,.p 3 0),(122,.v (.int .i64 (((D.f 6).l:Nat):Int))),(123,.v (.int .i64 ((k6_:Nat):Int))),(129,.v (.slice (some ⟨aa,0,none⟩) 7 7)),(132,.v (.slice A6_ k6_ c6_)),(141,.v (.agg #[.int .i64 0,.slice aM ((((D.f 6).f k6_).o).length) aN,.bool false,.slice none 0 0,.slice none 0 0])),(142,.v (.int .i64 ((k6_:Nat):Int))),(143,.v (.slice (some ⟨cI,0,none⟩) 1 1))] 4 (qaa (qac (qaa (qaa (qac (qaa qad)))))) (fun _ h=>h.cells) fW lD fun qO lF=>?_
  refine qaw (i:=16) kz (qaO dQ lF (k:=1) (d:=144) (t:=34) (e:=37) (size:=5) (bytes:=88) (A:=A6_) (As:=(some ⟨cI,0,none⟩)) (m0:=k6_) (c:=c6_) (m:=1) (cs:=1) (xs:=xs6_) (news:=[.int .i64 0,.slice none 0 0,.bool false,.slice none 0 0,.slice none 0 0]) kz kz rfl (qbo (dQ.own 2 _ rfl) (qby kz)) (qbA (dQ.own 2 _ rfl)) (by omega) fun bt bX qP qQ bY eG lG=>?_)
  have lH:=TT.ofW (((((bW.trans cw).trans cz).trans cA).trans cB).trans bY) eG
  refine ⟨fun _=>lH,?_⟩
  refine qaw (i:=17) kz (qaC lG (t:=34) (A:=(some ⟨aa,0,none⟩)) (m:=7) (q:=6) (d:=145) kz (e:=37) (size:=5) (bytes:=88) (j:=6) kz (b:=aa) (o:=0) rfl rfl (by decide) fun qR lI=>?_)
  have lJ:=lI.recast 145 (.v (.pointer (some ⟨aa,0 + 6 * 5,none⟩))) (.p 2 30) rfl rfl (Nat.le_of_ble_eq_true (n:=3) rfl)
  have lK:=lJ.pk (env':=[(0,.p 0 0),(2,.p 1 0),(3,.p 3 0),(122,.v (.int .i64 (((D.f 6).l:Nat):Int))),(123,.v (.int .i64 ((k6_:Nat):Int))),(129,.v (.slice (some ⟨aa,0,none⟩) 7 7)),(132,.v (.slice A6_ k6_ c6_)),(141,.v (.agg #[.int .i64 0,.slice aM ((((D.f 6).f k6_).o).length) aN,.bool false,.slice none 0 0,.slice none 0 0])),(142,.v (.int .i64 ((k6_:Nat):Int))),(143,.v (.slice (some ⟨cI,0,none⟩) 1 1)),(144,.v (.slice bt (k6_ + 1) bX)),(145,.p 2 30)])
  have fX:=TT.ofW (((((bW.trans cw).trans cz).trans cA).trans cB).trans bY) eG
  refine ⟨fun _=>fX,?_⟩
  refine qaD [18] [(0,.p 0 0),(2,.p 1 0),(3,.p 3 0),(122,.v (.int .i64 (((D.f 6).l:Nat):Int))),(123,.v (.int .i64 ((k6_:Nat):Int))),(141,.v (.agg #[.int .i64 0,.slice aM ((((D.f 6).f k6_).o).length) aN,.bool false,.slice none 0 0,.slice none 0 0])),(142,.v (.int .i64 ((k6_:Nat):Int))),(144,.v (.slice bt (k6_ + 1) bX)),(146,.p 2 33)] 1 (qaa (qac (qaa (qaa (qac (qaa qad)))))) (fun _ h=>h.cells) fX lK fun qS lL=>?_
  refine qaw (i:=19) kz (qav eG lL (oi:=2) (cs:=(.int .i64 (IntKind.i64.wrap ((D.f 0).n)) :: .slice none 0 0 :: .bool false :: .slice none 0 0 :: .slice none 0 0 :: .int .i64 ((D.f 1).n) :: .slice none 0 0 :: .bool false :: .slice none 0 0 :: .slice none 0 0 :: .int .i64 ((D.f 2).n) :: .slice none 0 0 :: .bool false :: .slice none 0 0 :: .slice none 0 0 :: .int .i64 ay :: .slice aD az.length aE :: .bool aA :: .slice aF aB.length ab :: .slice ac aC.length ae :: .int .i64 af :: .slice ak ag.length al :: .bool ah :: .slice am ai.length ao :: .slice ap aj.length ar :: .int .i64 0 :: .slice none 0 0 :: .bool (((D.f 5).A).isNone) :: .slice A5_ k5_ c5_ :: .slice none 0 0 :: .int .i64 0 :: .slice none 0 0 :: .bool (((D.f 6).A).isNone) :: .slice bt (k6_ + 1) bX :: .slice none 0 0 :: [])) kz fun m7 du fY lM=>?_)
  refine ⟨fun h=>absurd rfl h,?_⟩
  refine qaF kz ?_ _
  refine qab ?_
  refine qat [0,1] kz ?_
  have lN:World.ownsRow m7 0 37 5 (.slice bt (k6_ + 1) bX) (k6_ + 1) (xs6_ ++ [.int .i64 0,.slice none 0 0,.bool false,.slice none 0 0,.slice none 0 0]):=fY.own 1 _ rfl
  obtain ⟨lO,fZ⟩:=qbH lN (by omega)
  refine qam (qaC lM (t:=34) (A:=bt) (m:=(k6_ + 1)) (q:=((k6_:Nat):Int)) (d:=147) kz (e:=37) (size:=5) (bytes:=88) kz (b:=lO) (o:=0) (j:=k6_) fZ (rfl) (by omega) fun qT lP=>?_)
  refine qam (qbC fY lP (k:=1) (g:=lO) (o:=k6_ * 5) (c:=bX) (m:=(k6_ + 1)) (size:=5) (e:=37) (A:=bt) (xs:=(xs6_ ++ [.int .i64 0,.slice none 0 0,.bool false,.slice none 0 0,.slice none 0 0])) (vs:=[.int .i64 0,.slice aM ((((D.f 6).f k6_).o).length) aN,.bool false,.slice none 0 0,.slice none 0 0]) kz rfl fZ (by simp only [List.length_cons,List.length_nil]; omega) fun qU dv lQ lR=>?_)
  have lS:(⟨bt,bX,37,5,k6_ + 1,qba (xs6_ ++ [.int .i64 0,.slice none 0 0,.bool false,.slice none 0 0,.slice none 0 0]) (k6_ * 5) [.int .i64 0,.slice aM ((((D.f 6).f k6_).o).length) aN,.bool false,.slice none 0 0,.slice none 0 0]⟩:Rw) = ⟨bt,bX,37,5,k6_ + 1,xs6_ ++ [.int .i64 0,.slice aM ((((D.f 6).f k6_).o).length) aN,.bool false,.slice none 0 0,.slice none 0 0]⟩:=by rw [qcU (by rw [hT6_.xslen,List.length_take,qb6]; omega)]
  obtain ⟨f5,dw⟩:=lQ.rowEq 1 [⟨A5_,c5_,37,5,k5_,xs5_⟩,⟨bt,bX,37,5,k6_ + 1,xs6_ ++ [.int .i64 0,.slice aM ((((D.f 6).f k6_).o).length) aN,.bool false,.slice none 0 0,.slice none 0 0]⟩,⟨some ⟨cI,0,none⟩,1,37,5,1,[.int .i64 0,.slice none 0 0,.bool false,.slice none 0 0,.slice none 0 0]⟩] lS
  refine qaf ?_
  refine qaq ?_
  refine qab ?_
  refine qat [0,1] kz ?_
  refine qaj [0,1] [] [(0,.p 0 0),(2,.p 1 0),(3,.p 3 0),(122,.v (.int .i64 (((D.f 6).l:Nat):Int))),(123,.v (.int .i64 (IntKind.i64.wrap (((k6_:Nat):Int) + 1))))] f5 lR fun qV lT=>?_
  refine qaf (qab ?_)
  obtain ⟨f7,lU,dx⟩:=f5.cutB lT 4 [⟨b,o,[.int .i16 v,.int .i32 ((D.f 0).n),.int .i64 ((D.f 1).n),.int .i64 ((D.f 2).n),.bool ((D.f 3).b),.bool ((D.f 4).b),.slice ((D.f 5).A) ((D.f 5).l) ((D.f 5).c),.slice ((D.f 6).A) ((D.f 6).l) ((D.f 6).c),.map D.m],false⟩,⟨b9,0,[.int .i64 0,.slice none 0 0,.bool false,.slice none 0 0,.slice none 0 0],true⟩,⟨aa,0,(.int .i64 (IntKind.i64.wrap ((D.f 0).n)) :: .slice none 0 0 :: .bool false :: .slice none 0 0 :: .slice none 0 0 :: .int .i64 ((D.f 1).n) :: .slice none 0 0 :: .bool false :: .slice none 0 0 :: .slice none 0 0 :: .int .i64 ((D.f 2).n) :: .slice none 0 0 :: .bool false :: .slice none 0 0 :: .slice none 0 0 :: .int .i64 ay :: .slice aD az.length aE :: .bool aA :: .slice aF aB.length ab :: .slice ac aC.length ae :: .int .i64 af :: .slice ak ag.length al :: .bool ah :: .slice am ai.length ao :: .slice ap aj.length ar :: .int .i64 0 :: .slice none 0 0 :: .bool (((D.f 5).A).isNone) :: .slice A5_ k5_ c5_ :: .slice none 0 0 :: .int .i64 0 :: .slice none 0 0 :: .bool (((D.f 6).A).isNone) :: .slice bt (k6_ + 1) bX :: .slice none 0 0 :: []),true⟩,⟨ba,0,[.int .i64 0,.slice none 0 0,.bool false,.slice (some ⟨aa,0,none⟩) 7 7,.slice none 0 0],true⟩] [(0,.p 0 0),(2,.p 1 0),(3,.p 3 0),(122,.v (.int .i64 (((D.f 6).l:Nat):Int))),(123,.v (.int .i64 (IntKind.i64.wrap (((k6_:Nat):Int) + 1))))]
  obtain ⟨lV,dy⟩:=lU.cutR 2 [⟨A5_,c5_,37,5,k5_,xs5_⟩,⟨bt,bX,37,5,k6_ + 1,xs6_ ++ [.int .i64 0,.slice aM ((((D.f 6).f k6_).o).length) aN,.bool false,.slice none 0 0,.slice none 0 0]⟩]
  have lW:IntKind.i64.wrap (((k6_:Nat):Int) + 1) = ((k6_ + 1:Nat):Int):=qaN (by omega)
  rw [lW] at f7
  exact ⟨(D.f 6).l - (k6_ + 1),by omega,k6_ + 1,bt,bX,xs6_ ++ [Value.int .i64 0,.slice aM ((((D.f 6).f k6_).o).length) aN,.bool false,.slice none 0 0,.slice none 0 0],(css6_ ++ [[Value.int .i64 0,.slice aM ((((D.f 6).f k6_).o).length) aN,.bool false,.slice none 0 0,.slice none 0 0]]),rfl,by omega,by rw [qch (by omega)]; exact (hT6_.move (((((((((((((((aU.trans av).trans aV).trans bj).trans cu).trans bW).trans cw).trans cz).trans cA).trans cB).trans bY).trans du).trans dv).trans dw).trans dx).trans dy).step immM (((((((((((((((aU.trans av).trans aV).trans bj).trans cu).trans bW).trans cw).trans cz).trans cA).trans cB).trans bY).trans du).trans dv).trans dw).trans dx).trans dy).to').snoc (x:=(fun i=>Tree.mk 0 ((D.f 6).f i).o false [] []) k6_) (TreeR.mk (n:=0) (b:=false) (s:=(((D.f 6).f k6_).o)) (l:=[]) (u:=[]) (fun _=>[]) (lE.move (((((bY.trans du).trans dv).trans dw).trans dx).trans dy).step immM (((((bY.trans du).trans dv).trans dw).trans dx).trans dy).to') (Slots.nil _ _ _ _) (fun i_ x_ h_=>by simp at h_) (TagsR.nil _ _)),f7.pk,lV,((((((((((((((((aT.trans aU).trans av).trans aV).trans bj).trans cu).trans bW).trans cw).trans cz).trans cA).trans cB).trans bY).trans du).trans dv).trans dw).trans dx).trans dy)⟩
 have nL:=of_decide_eq_false ey
 refine wp_exit ?_
 refine qaB ?_
 refine qaB ?_
 refine qaL ?_
 refine qab ?_
 refine qag [0,1,2,3,4] kz ?_
 refine qaj [0,1,2] [3,4] [(2,.p 1 0),(3,.p 3 0),(171,.p 0 8)] aO ew fun qW lX=>?_
 refine qam (qgM lX (v:=.func (.func 33) #[] #[.pointer (some ⟨ba,0,none⟩)]) (d:=172) kz fun qX lY=>?_)
 refine qam (qal lY (f:=32) (vs:=[.pointer (some ⟨b,o + 8,none⟩),.func (.func 33) #[] #[.pointer (some ⟨ba,0,none⟩)]]) (d:=173) kz Tryd.call32 (qi4 (F:=(Imm F w m5 [⟨b,o,[.int .i16 v,.int .i32 ((D.f 0).n),.int .i64 ((D.f 1).n),.int .i64 ((D.f 2).n),.bool ((D.f 3).b),.bool ((D.f 4).b),.slice ((D.f 5).A) ((D.f 5).l) ((D.f 5).c),.slice ((D.f 6).A) ((D.f 6).l) ((D.f 6).c),.map D.m],false⟩,⟨b9,0,[.int .i64 0,.slice none 0 0,.bool false,.slice none 0 0,.slice none 0 0],true⟩,⟨aa,0,(.int .i64 (IntKind.i64.wrap ((D.f 0).n)) :: .slice none 0 0 :: .bool false :: .slice none 0 0 :: .slice none 0 0 :: .int .i64 ((D.f 1).n) :: .slice none 0 0 :: .bool false :: .slice none 0 0 :: .slice none 0 0 :: .int .i64 ((D.f 2).n) :: .slice none 0 0 :: .bool false :: .slice none 0 0 :: .slice none 0 0 :: .int .i64 ay :: .slice aD az.length aE :: .bool aA :: .slice aF aB.length ab :: .slice ac aC.length ae :: .int .i64 af :: .slice ak ag.length al :: .bool ah :: .slice am ai.length ao :: .slice ap aj.length ar :: .int .i64 0 :: .slice none 0 0 :: .bool (((D.f 5).A).isNone) :: .slice A5_ k5_ c5_ :: .slice none 0 0 :: .int .i64 0 :: .slice none 0 0 :: .bool (((D.f 6).A).isNone) :: .slice A6_ k6_ c6_ :: .slice none 0 0 :: []),true⟩,⟨ba,0,[.int .i64 0,.slice none 0 0,.bool false,.slice (some ⟨aa,0,none⟩) 7 7,.slice none 0 0],true⟩] [⟨A5_,c5_,37,5,k5_,xs5_⟩,⟨A6_,c6_,37,5,k6_,xs6_⟩])) Tryd.call33 qcB ((hat.one 8 rfl).move aO.step nilM aO.imm) (g8.move aO.step nilM aO.imm) (Str.of aO 3 rfl) (qk3 3 rfl) g8l) ?_)
 rintro e_ qY ⟨rfl,aw,ax,gn,lZ,l0⟩
 obtain ⟨eH,bn,l3⟩:=aO.wrote 3 [⟨b,o,[.int .i16 v,.int .i32 ((D.f 0).n),.int .i64 ((D.f 1).n),.int .i64 ((D.f 2).n),.bool ((D.f 3).b),.bool ((D.f 4).b),.slice ((D.f 5).A) ((D.f 5).l) ((D.f 5).c),.slice ((D.f 6).A) ((D.f 6).l) ((D.f 6).c),.map D.m],false⟩,⟨b9,0,[.int .i64 0,.slice none 0 0,.bool false,.slice none 0 0,.slice none 0 0],true⟩,⟨aa,0,(.int .i64 (IntKind.i64.wrap ((D.f 0).n)) :: .slice none 0 0 :: .bool false :: .slice none 0 0 :: .slice none 0 0 :: .int .i64 ((D.f 1).n) :: .slice none 0 0 :: .bool false :: .slice none 0 0 :: .slice none 0 0 :: .int .i64 ((D.f 2).n) :: .slice none 0 0 :: .bool false :: .slice none 0 0 :: .slice none 0 0 :: .int .i64 ay :: .slice aD az.length aE :: .bool aA :: .slice aF aB.length ab :: .slice ac aC.length ae :: .int .i64 af :: .slice ak ag.length al :: .bool ah :: .slice am ai.length ao :: .slice ap aj.length ar :: .int .i64 0 :: .slice none 0 0 :: .bool (((D.f 5).A).isNone) :: .slice A5_ k5_ c5_ :: .slice none 0 0 :: .int .i64 0 :: .slice none 0 0 :: .bool (((D.f 6).A).isNone) :: .slice A6_ k6_ c6_ :: .slice none 0 0 :: []),true⟩,⟨ba,0,[.int .i64 0,.slice none 0 0,.bool false,.slice (some ⟨aa,0,none⟩) 7 7,.slice aw D.u.length ax],true⟩] rfl l0 gn
 have f8:=lZ.move (Step.refl _ Nil) nilM (fun b_ o_ h_ hb_=>l3 (G:=F) b_ o_ (.inr h_) hb_)
 refine ⟨_,rfl,fun qZ l5=>?_⟩
 have l6:=(EnvOk.places (tb':=[⟨b,o,[.int .i16 v,.int .i32 ((D.f 0).n),.int .i64 ((D.f 1).n),.int .i64 ((D.f 2).n),.bool ((D.f 3).b),.bool ((D.f 4).b),.slice ((D.f 5).A) ((D.f 5).l) ((D.f 5).c),.slice ((D.f 6).A) ((D.f 6).l) ((D.f 6).c),.map D.m],false⟩,⟨b9,0,[.int .i64 0,.slice none 0 0,.bool false,.slice none 0 0,.slice none 0 0],true⟩,⟨aa,0,(.int .i64 (IntKind.i64.wrap ((D.f 0).n)) :: .slice none 0 0 :: .bool false :: .slice none 0 0 :: .slice none 0 0 :: .int .i64 ((D.f 1).n) :: .slice none 0 0 :: .bool false :: .slice none 0 0 :: .slice none 0 0 :: .int .i64 ((D.f 2).n) :: .slice none 0 0 :: .bool false :: .slice none 0 0 :: .slice none 0 0 :: .int .i64 ay :: .slice aD az.length aE :: .bool aA :: .slice aF aB.length ab :: .slice ac aC.length ae :: .int .i64 af :: .slice ak ag.length al :: .bool ah :: .slice am ai.length ao :: .slice ap aj.length ar :: .int .i64 0 :: .slice none 0 0 :: .bool (((D.f 5).A).isNone) :: .slice A5_ k5_ c5_ :: .slice none 0 0 :: .int .i64 0 :: .slice none 0 0 :: .bool (((D.f 6).A).isNone) :: .slice A6_ k6_ c6_ :: .slice none 0 0 :: []),true⟩,⟨ba,0,[.int .i64 0,.slice none 0 0,.bool false,.slice (some ⟨aa,0,none⟩) 7 7,.slice aw D.u.length ax],true⟩]) l5 (show Pl [⟨b,o,[.int .i16 v,.int .i32 ((D.f 0).n),.int .i64 ((D.f 1).n),.int .i64 ((D.f 2).n),.bool ((D.f 3).b),.bool ((D.f 4).b),.slice ((D.f 5).A) ((D.f 5).l) ((D.f 5).c),.slice ((D.f 6).A) ((D.f 6).l) ((D.f 6).c),.map D.m],false⟩,⟨b9,0,[.int .i64 0,.slice none 0 0,.bool false,.slice none 0 0,.slice none 0 0],true⟩,⟨aa,0,(.int .i64 (IntKind.i64.wrap ((D.f 0).n)) :: .slice none 0 0 :: .bool false :: .slice none 0 0 :: .slice none 0 0 :: .int .i64 ((D.f 1).n) :: .slice none 0 0 :: .bool false :: .slice none 0 0 :: .slice none 0 0 :: .int .i64 ((D.f 2).n) :: .slice none 0 0 :: .bool false :: .slice none 0 0 :: .slice none 0 0 :: .int .i64 ay :: .slice aD az.length aE :: .bool aA :: .slice aF aB.length ab :: .slice ac aC.length ae :: .int .i64 af :: .slice ak ag.length al :: .bool ah :: .slice am ai.length ao :: .slice ap aj.length ar :: .int .i64 0 :: .slice none 0 0 :: .bool (((D.f 5).A).isNone) :: .slice A5_ k5_ c5_ :: .slice none 0 0 :: .int .i64 0 :: .slice none 0 0 :: .bool (((D.f 6).A).isNone) :: .slice A6_ k6_ c6_ :: .slice none 0 0 :: []),true⟩,⟨ba,0,[.int .i64 0,.slice none 0 0,.bool false,.slice (some ⟨aa,0,none⟩) 7 7,.slice none 0 0],true⟩] [⟨b,o,[.int .i16 v,.int .i32 ((D.f 0).n),.int .i64 ((D.f 1).n),.int .i64 ((D.f 2).n),.bool ((D.f 3).b),.bool ((D.f 4).b),.slice ((D.f 5).A) ((D.f 5).l) ((D.f 5).c),.slice ((D.f 6).A) ((D.f 6).l) ((D.f 6).c),.map D.m],false⟩,⟨b9,0,[.int .i64 0,.slice none 0 0,.bool false,.slice none 0 0,.slice none 0 0],true⟩,⟨aa,0,(.int .i64 (IntKind.i64.wrap ((D.f 0).n)) :: .slice none 0 0 :: .bool false :: .slice none 0 0 :: .slice none 0 0 :: .int .i64 ((D.f 1).n) :: .slice none 0 0 :: .bool false :: .slice none 0 0 :: .slice none 0 0 :: .int .i64 ((D.f 2).n) :: .slice none 0 0 :: .bool false :: .slice none 0 0 :: .slice none 0 0 :: .int .i64 ay :: .slice aD az.length aE :: .bool aA :: .slice aF aB.length ab :: .slice ac aC.length ae :: .int .i64 af :: .slice ak ag.length al :: .bool ah :: .slice am ai.length ao :: .slice ap aj.length ar :: .int .i64 0 :: .slice none 0 0 :: .bool (((D.f 5).A).isNone) :: .slice A5_ k5_ c5_ :: .slice none 0 0 :: .int .i64 0 :: .slice none 0 0 :: .bool (((D.f 6).A).isNone) :: .slice A6_ k6_ c6_ :: .slice none 0 0 :: []),true⟩,⟨ba,0,[.int .i64 0,.slice none 0 0,.bool false,.slice (some ⟨aa,0,none⟩) 7 7,.slice aw D.u.length ax],true⟩] from ⟨rfl,rfl,⟨rfl,rfl,⟨rfl,rfl,⟨rfl,rfl,trivial⟩⟩⟩⟩)).pk (env':=[(173,.v (.tuple #[])),(2,.p 1 0),(3,.p 3 0),(171,.p 0 8),(172,.v (.func (.func 33) #[] #[.pointer (some ⟨ba,0,none⟩)]))])
 refine qaf (qab ?_)
 refine qag [0,1,2] kz ?_
 refine qaj [0,1] [2] [(2,.p 1 0),(3,.p 3 0),(175,.v (.slice aw D.u.length ax))] eH l6 fun q0 l7=>?_
 refine qam (qal l7 (f:=34) (vs:=[.slice aw D.u.length ax]) (d:=176) kz Tryd.call34 (qkF f8 g8.sorted) ?_)
 rintro e_ q4 ⟨rfl,f9⟩
 refine ⟨_,rfl,fun q5 l9=>?_⟩
 have ga:=eH.next_nil f9
 have aP:=eH.frN f9
 refine qaf (qab ?_)
 refine qag [0,1] kz ?_
 refine qaj [0] [1] [(2,.p 1 0),(177,.v (.agg #[.int .i64 0,.slice none 0 0,.bool false,.slice (some ⟨aa,0,none⟩) 7 7,.slice aw D.u.length ax]))] ga l9 fun q6 ma=>?_
 refine qam (qav ga ma (oi:=1) (cs:=[.int .i64 0,.slice none 0 0,.bool false,.slice (some ⟨aa,0,none⟩) 7 7,.slice aw D.u.length ax]) kz fun d5 aQ dR mc=>?_)
 refine qaf (qab ?_)
 refine wp_ret ?_
 refine qaJ mc dR.cells (v:=.agg #[.int .i64 0,.slice none 0 0,.bool false,.slice (some ⟨aa,0,none⟩) 7 7,.slice aw D.u.length ax]) kz ?_
 have gb:=(hT5_.move ((((((ce.trans cm).trans cq).trans aT).trans bn).trans aP).trans aQ).step immM ((((((ce.trans cm).trans cq).trans aT).trans bn).trans aP).trans aQ).to')
 rw [qhb (by omega)] at gb
 have gc:=(hT6_.move ((bn.trans aP).trans aQ).step immM ((bn.trans aP).trans aQ).to')
 rw [qhb (by omega)] at gc
 exact qjK (u:=D.u) (l:=[.mk (IntKind.i64.wrap (D.f 0).n) [] false [] [],.mk ((D.f 1).n) [] false [] [],.mk ((D.f 2).n) [] false [] [],qhQ (D.f 3).b,qhQ (D.f 4).b,.mk 0 [] (D.f 5).A.isNone ((List.range (D.f 5).l).map fun i=>.mk 0 ((D.f 5).f i).o false [] []) [],.mk 0 [] (D.f 6).A.isNone ((List.range (D.f 6).l).map fun i=>.mk 0 ((D.f 6).f i).o false [] []) []]) (css:=[[.int .i64 (IntKind.i64.wrap ((D.f 0).n)),.slice none 0 0,.bool false,.slice none 0 0,.slice none 0 0],[.int .i64 ((D.f 1).n),.slice none 0 0,.bool false,.slice none 0 0,.slice none 0 0],[.int .i64 ((D.f 2).n),.slice none 0 0,.bool false,.slice none 0 0,.slice none 0 0],[.int .i64 ay,.slice aD az.length aE,.bool aA,.slice aF aB.length ab,.slice ac aC.length ae],[.int .i64 af,.slice ak ag.length al,.bool ah,.slice am ai.length ao,.slice ap aj.length ar],[.int .i64 0,.slice none 0 0,.bool (((D.f 5).A).isNone),.slice A5_ k5_ c5_,.slice none 0 0],[.int .i64 0,.slice none 0 0,.bool (((D.f 6).A).isNone),.slice A6_ k6_ c6_,.slice none 0 0]]) dR 2 rfl ⟨(show TreeR _ (Imm F w d5 [⟨b,o,[.int .i16 v,.int .i32 ((D.f 0).n),.int .i64 ((D.f 1).n),.int .i64 ((D.f 2).n),.bool ((D.f 3).b),.bool ((D.f 4).b),.slice ((D.f 5).A) ((D.f 5).l) ((D.f 5).c),.slice ((D.f 6).A) ((D.f 6).l) ((D.f 6).c),.map D.m],false⟩,⟨b9,0,[.int .i64 0,.slice none 0 0,.bool false,.slice (some ⟨aa,0,none⟩) 7 7,.slice aw D.u.length ax],true⟩,⟨aa,0,(.int .i64 (IntKind.i64.wrap ((D.f 0).n)) :: .slice none 0 0 :: .bool false :: .slice none 0 0 :: .slice none 0 0 :: .int .i64 ((D.f 1).n) :: .slice none 0 0 :: .bool false :: .slice none 0 0 :: .slice none 0 0 :: .int .i64 ((D.f 2).n) :: .slice none 0 0 :: .bool false :: .slice none 0 0 :: .slice none 0 0 :: .int .i64 ay :: .slice aD az.length aE :: .bool aA :: .slice aF aB.length ab :: .slice ac aC.length ae :: .int .i64 af :: .slice ak ag.length al :: .bool ah :: .slice am ai.length ao :: .slice ap aj.length ar :: .int .i64 0 :: .slice none 0 0 :: .bool (((D.f 5).A).isNone) :: .slice A5_ k5_ c5_ :: .slice none 0 0 :: .int .i64 0 :: .slice none 0 0 :: .bool (((D.f 6).A).isNone) :: .slice A6_ k6_ c6_ :: .slice none 0 0 :: []),true⟩,⟨ba,0,[.int .i64 0,.slice none 0 0,.bool false,.slice (some ⟨aa,0,none⟩) 7 7,.slice aw D.u.length ax],true⟩] [⟨A5_,c5_,37,5,k5_,xs5_⟩,⟨A6_,c6_,37,5,k6_,xs6_⟩]) _ _ from (TreeR.mk (n:=IntKind.i64.wrap ((D.f 0).n)) (b:=false) (s:=[]) (l:=[]) (u:=[]) (fun _=>[]) (Octs.nil _ _) (Slots.nil _ _ _ _) (fun i_ x_ h_=>by simp at h_) (TagsR.nil _ _))).move (Step.refl _ Nil) nilM qb9,(show TreeR _ (Imm F w d5 [⟨b,o,[.int .i16 v,.int .i32 ((D.f 0).n),.int .i64 ((D.f 1).n),.int .i64 ((D.f 2).n),.bool ((D.f 3).b),.bool ((D.f 4).b),.slice ((D.f 5).A) ((D.f 5).l) ((D.f 5).c),.slice ((D.f 6).A) ((D.f 6).l) ((D.f 6).c),.map D.m],false⟩,⟨b9,0,[.int .i64 0,.slice none 0 0,.bool false,.slice (some ⟨aa,0,none⟩) 7 7,.slice aw D.u.length ax],true⟩,⟨aa,0,(.int .i64 (IntKind.i64.wrap ((D.f 0).n)) :: .slice none 0 0 :: .bool false :: .slice none 0 0 :: .slice none 0 0 :: .int .i64 ((D.f 1).n) :: .slice none 0 0 :: .bool false :: .slice none 0 0 :: .slice none 0 0 :: .int .i64 ((D.f 2).n) :: .slice none 0 0 :: .bool false :: .slice none 0 0 :: .slice none 0 0 :: .int .i64 ay :: .slice aD az.length aE :: .bool aA :: .slice aF aB.length ab :: .slice ac aC.length ae :: .int .i64 af :: .slice ak ag.length al :: .bool ah :: .slice am ai.length ao :: .slice ap aj.length ar :: .int .i64 0 :: .slice none 0 0 :: .bool (((D.f 5).A).isNone) :: .slice A5_ k5_ c5_ :: .slice none 0 0 :: .int .i64 0 :: .slice none 0 0 :: .bool (((D.f 6).A).isNone) :: .slice A6_ k6_ c6_ :: .slice none 0 0 :: []),true⟩,⟨ba,0,[.int .i64 0,.slice none 0 0,.bool false,.slice (some ⟨aa,0,none⟩) 7 7,.slice aw D.u.length ax],true⟩] [⟨A5_,c5_,37,5,k5_,xs5_⟩,⟨A6_,c6_,37,5,k6_,xs6_⟩]) _ _ from (TreeR.mk (n:=(D.f 1).n) (b:=false) (s:=[]) (l:=[]) (u:=[]) (fun _=>[]) (Octs.nil _ _) (Slots.nil _ _ _ _) (fun i_ x_ h_=>by simp at h_) (TagsR.nil _ _))).move (Step.refl _ Nil) nilM qb9,(show TreeR _ (Imm F w d5 [⟨b,o,[.int .i16 v,.int .i32 ((D.f 0).n),.int .i64 ((D.f 1).n),.int .i64 ((D.f 2).n),.bool ((D.f 3).b),.bool ((D.f 4).b),.slice ((D.f 5).A) ((D.f 5).l) ((D.f 5).c),.slice ((D.f 6).A) ((D.f 6).l) ((D.f 6).c),.map D.m],false⟩,⟨b9,0,[.int .i64 0,.slice none 0 0,.bool false,.slice (some ⟨aa,0,none⟩) 7 7,.slice aw D.u.length ax],true⟩,⟨aa,0,(.int .i64 (IntKind.i64.wrap ((D.f 0).n)) :: .slice none 0 0 :: .bool false :: .slice none 0 0 :: .slice none 0 0 :: .int .i64 ((D.f 1).n) :: .slice none 0 0 :: .bool false :: .slice none 0 0 :: .slice none 0 0 :: .int .i64 ((D.f 2).n) :: .slice none 0 0 :: .bool false :: .slice none 0 0 :: .slice none 0 0 :: .int .i64 ay :: .slice aD az.length aE :: .bool aA :: .slice aF aB.length ab :: .slice ac aC.length ae :: .int .i64 af :: .slice ak ag.length al :: .bool ah :: .slice am ai.length ao :: .slice ap aj.length ar :: .int .i64 0 :: .slice none 0 0 :: .bool (((D.f 5).A).isNone) :: .slice A5_ k5_ c5_ :: .slice none 0 0 :: .int .i64 0 :: .slice none 0 0 :: .bool (((D.f 6).A).isNone) :: .slice A6_ k6_ c6_ :: .slice none 0 0 :: []),true⟩,⟨ba,0,[.int .i64 0,.slice none 0 0,.bool false,.slice (some ⟨aa,0,none⟩) 7 7,.slice aw D.u.length ax],true⟩] [⟨A5_,c5_,37,5,k5_,xs5_⟩,⟨A6_,c6_,37,5,k6_,xs6_⟩]) _ _ from (TreeR.mk (n:=(D.f 2).n) (b:=false) (s:=[]) (l:=[]) (u:=[]) (fun _=>[]) (Octs.nil _ _) (Slots.nil _ _ _ _) (fun i_ x_ h_=>by simp at h_) (TagsR.nil _ _))).move (Step.refl _ Nil) nilM qb9,(show TreeR _ (Imm F w d5 [⟨b,o,[.int .i16 v,.int .i32 ((D.f 0).n),.int .i64 ((D.f 1).n),.int .i64 ((D.f 2).n),.bool ((D.f 3).b),.bool ((D.f 4).b),.slice ((D.f 5).A) ((D.f 5).l) ((D.f 5).c),.slice ((D.f 6).A) ((D.f 6).l) ((D.f 6).c),.map D.m],false⟩,⟨b9,0,[.int .i64 0,.slice none 0 0,.bool false,.slice (some ⟨aa,0,none⟩) 7 7,.slice aw D.u.length ax],true⟩,⟨aa,0,(.int .i64 (IntKind.i64.wrap ((D.f 0).n)) :: .slice none 0 0 :: .bool false :: .slice none 0 0 :: .slice none 0 0 :: .int .i64 ((D.f 1).n) :: .slice none 0 0 :: .bool false :: .slice none 0 0 :: .slice none 0 0 :: .int .i64 ((D.f 2).n) :: .slice none 0 0 :: .bool false :: .slice none 0 0 :: .slice none 0 0 :: .int .i64 ay :: .slice aD az.length aE :: .bool aA :: .slice aF aB.length ab :: .slice ac aC.length ae :: .int .i64 af :: .slice ak ag.length al :: .bool ah :: .slice am ai.length ao :: .slice ap aj.length ar :: .int .i64 0 :: .slice none 0 0 :: .bool (((D.f 5).A).isNone) :: .slice A5_ k5_ c5_ :: .slice none 0 0 :: .int .i64 0 :: .slice none 0 0 :: .bool (((D.f 6).A).isNone) :: .slice A6_ k6_ c6_ :: .slice none 0 0 :: []),true⟩,⟨ba,0,[.int .i64 0,.slice none 0 0,.bool false,.slice (some ⟨aa,0,none⟩) 7 7,.slice aw D.u.length ax],true⟩] [⟨A5_,c5_,37,5,k5_,xs5_⟩,⟨A6_,c6_,37,5,k6_,xs6_⟩]) _ _ from (gg.move ((((((((((((((eK.trans eL).trans eb).trans dA).trans dB).trans dC).trans dD).trans bu).trans ce).trans cm).trans cq).trans aT).trans bn).trans aP).trans aQ).step immM ((((((((((((((eK.trans eL).trans eb).trans dA).trans dB).trans dC).trans dD).trans bu).trans ce).trans cm).trans cq).trans aT).trans bn).trans aP).trans aQ).to')).move (Step.refl _ Nil) nilM qb9,(show TreeR _ (Imm F w d5 [⟨b,o,[.int .i16 v,.int .i32 ((D.f 0).n),.int .i64 ((D.f 1).n),.int .i64 ((D.f 2).n),.bool ((D.f 3).b),.bool ((D.f 4).b),.slice ((D.f 5).A) ((D.f 5).l) ((D.f 5).c),.slice ((D.f 6).A) ((D.f 6).l) ((D.f 6).c),.map D.m],false⟩,⟨b9,0,[.int .i64 0,.slice none 0 0,.bool false,.slice (some ⟨aa,0,none⟩) 7 7,.slice aw D.u.length ax],true⟩,⟨aa,0,(.int .i64 (IntKind.i64.wrap ((D.f 0).n)) :: .slice none 0 0 :: .bool false :: .slice none 0 0 :: .slice none 0 0 :: .int .i64 ((D.f 1).n) :: .slice none 0 0 :: .bool false :: .slice none 0 0 :: .slice none 0 0 :: .int .i64 ((D.f 2).n) :: .slice none 0 0 :: .bool false :: .slice none 0 0 :: .slice none 0 0 :: .int .i64 ay :: .slice aD az.length aE :: .bool aA :: .slice aF aB.length ab :: .slice ac aC.length ae :: .int .i64 af :: .slice ak ag.length al :: .bool ah :: .slice am ai.length ao :: .slice ap aj.length ar :: .int .i64 0 :: .slice none 0 0 :: .bool (((D.f 5).A).isNone) :: .slice A5_ k5_ c5_ :: .slice none 0 0 :: .int .i64 0 :: .slice none 0 0 :: .bool (((D.f 6).A).isNone) :: .slice A6_ k6_ c6_ :: .slice none 0 0 :: []),true⟩,⟨ba,0,[.int .i64 0,.slice none 0 0,.bool false,.slice (some ⟨aa,0,none⟩) 7 7,.slice aw D.u.length ax],true⟩] [⟨A5_,c5_,37,5,k5_,xs5_⟩,⟨A6_,c6_,37,5,k6_,xs6_⟩]) _ _ from (d9.move (((((((((((dA.trans dB).trans dC).trans dD).trans bu).trans ce).trans cm).trans cq).trans aT).trans bn).trans aP).trans aQ).step immM (((((((((((dA.trans dB).trans dC).trans dD).trans bu).trans ce).trans cm).trans cq).trans aT).trans bn).trans aP).trans aQ).to')).move (Step.refl _ Nil) nilM qb9,qgh dR (k:=0) rfl gb (by rw [qb6]; omega) (by rw [qb6]; omega),qgh dR (k:=1) rfl gc (by rw [qb6]; omega) (by rw [qb6]; omega),trivial⟩ ((show TagsR _ (Imm F w d5 [⟨b,o,[.int .i16 v,.int .i32 ((D.f 0).n),.int .i64 ((D.f 1).n),.int .i64 ((D.f 2).n),.bool ((D.f 3).b),.bool ((D.f 4).b),.slice ((D.f 5).A) ((D.f 5).l) ((D.f 5).c),.slice ((D.f 6).A) ((D.f 6).l) ((D.f 6).c),.map D.m],false⟩,⟨b9,0,[.int .i64 0,.slice none 0 0,.bool false,.slice (some ⟨aa,0,none⟩) 7 7,.slice aw D.u.length ax],true⟩,⟨aa,0,(.int .i64 (IntKind.i64.wrap ((D.f 0).n)) :: .slice none 0 0 :: .bool false :: .slice none 0 0 :: .slice none 0 0 :: .int .i64 ((D.f 1).n) :: .slice none 0 0 :: .bool false :: .slice none 0 0 :: .slice none 0 0 :: .int .i64 ((D.f 2).n) :: .slice none 0 0 :: .bool false :: .slice none 0 0 :: .slice none 0 0 :: .int .i64 ay :: .slice aD az.length aE :: .bool aA :: .slice aF aB.length ab :: .slice ac aC.length ae :: .int .i64 af :: .slice ak ag.length al :: .bool ah :: .slice am ai.length ao :: .slice ap aj.length ar :: .int .i64 0 :: .slice none 0 0 :: .bool (((D.f 5).A).isNone) :: .slice A5_ k5_ c5_ :: .slice none 0 0 :: .int .i64 0 :: .slice none 0 0 :: .bool (((D.f 6).A).isNone) :: .slice A6_ k6_ c6_ :: .slice none 0 0 :: []),true⟩,⟨ba,0,[.int .i64 0,.slice none 0 0,.bool false,.slice (some ⟨aa,0,none⟩) 7 7,.slice aw D.u.length ax],true⟩] [⟨A5_,c5_,37,5,k5_,xs5_⟩,⟨A6_,c6_,37,5,k6_,xs6_⟩]) _ _ _ from (f8.move (aP.trans aQ).step immM (aP.trans aQ).to')).move (Step.refl _ Nil) nilM qb9)
theorem qlA {x:Int} (h:-9223372036854775808 ≤ x ∧ x ≤ 9223372036854775807):IntKind.i64.wrap x = x:=by rw [n64w]; omega
theorem qlo {t:Tree} (h:t.i64s):IntKind.i64.wrap t.N = t.N:=by
 cases t
 exact qlA h.1
theorem qj8 {t:Tree} (h:t.i64s) (i:Nat):(t.at_ i).i64s:=by
 cases t with
 | mk n s b l u =>
  have h1:∀ x ∈ l,x.i64s:=qgb h.2
  show (l.getD i .zero).i64s
  rw [List.getD_eq_getElem?_getD]
  cases hx:l[i]? with
  | none=>exact ⟨by decide,trivial⟩
  | some x=>exact h1 x (List.mem_of_getElem? hx)
theorem qeb {k x1 x2 x3 x5 x6 v:Int} {s:List Fld} {flex:Bool} {x:Tree}:Fld.pres (.mk k x1 x2 x3 (-1) x5 x6 s) v flex x = (decide (x1 ≤ v) && (decide (x2 < 0) || decide (v ≤ x2))):=by simp [Fld.pres,Fld.tag,Fld.has]
theorem qec {x1 x2 x3 x4 x5 x6 v:Int} {s:List Fld} {flex:Bool} {x:Tree} (h:0 ≤ x4):Fld.pres (.mk 11 x1 x2 x3 x4 x5 x6 s) v flex x = (flex && !decide (x.L.length = 0)):=by
 have h1:decide (x4 < 0) = false:=decide_eq_false (by omega)
 have h2:decide (x4 ≥ 0) = true:=decide_eq_true h
 unfold Fld.pres
 rw [show Fld.tag (.mk 11 x1 x2 x3 x4 x5 x6 s) = x4 from rfl,h1,h2]
 simp [Fld.usual]
theorem qjb {k x1 x2 x3 x4 x5 x6 v:Int} {s:List Fld} {x:Tree}:Fld.nul (.mk k x1 x2 x3 x4 x5 x6 s) v x = Fld.nul (.mk k x1 x2 x3 (-1) x5 x6 s) v x:=by cases x; rfl
theorem qjc {flex b:Bool} {x T':Tree} {W:Tree → Tree} (hl:lst T' = (if b = true then [] else qan x.L).map W) (hn:b = false) (hp:(flex && !decide (x.L.length = 0)) = true):(if flex = true then decide (0 < (lst T').length) else false) = true:=by
 subst hn
 cases flex with
 | false=>cases hp
 | true =>
  rw [if_pos rfl,hl,if_neg (by decide),List.length_map]
  simp at hp
  cases hL:x.L with
  | nil=>exact absurd hL hp
  | cons y r=>simp [qan]
theorem qj9 {flex b:Bool} {x T':Tree} {W:Tree → Tree} (hl:lst T' = (if b = true then [] else qan x.L).map W) (hn:b = false) (hp:(flex && !decide (x.L.length = 0)) = false):(if flex = true then decide (0 < (lst T').length) else false) = false:=by
 subst hn
 cases flex with
 | false=>rfl
 | true =>
  rw [if_pos rfl,hl,if_neg (by decide),List.length_map]
  simp at hp
  rw [hp]
  rfl
section
variable {T:List Fld → Tree → Tree → Prop} {U:List Fld → Tree → Prop} {v k x1 x2 x3 x4 x5 x6 n:Int} {sub:List Fld} {x T':Tree} {A:Option Addr} {s:ByteArray} {o:Bs} {b:Bool}
theorem qkG (hn:n = qbd k x.N) (hk:k < 7:=by decide):ToF0 T v (.mk k x1 x2 (-1) x4 x5 x6 sub) x (.mk n [] false [] []):=by
 cases x
 exact ⟨fun h=>by omega,fun _ h=>by omega,fun _ h=>by omega,fun _ h=>by omega,fun _ _ _ _ _ _=>hn⟩
theorem qhi (hn:n = qbd k x.N) (hk:k < 7:=by decide):ToF T v (.mk k x1 x2 (-1) x4 x5 x6 sub) x (.mk n [] false [] []):=⟨qkG hn hk,fun h=>absurd (show k = 11 from h) (by omega)⟩
theorem qjd (hb:b = decide (T'.N % 2 = 1)) (h1:T'.N = x.N):ToF T v (.mk 0 x1 x2 (-1) x4 x5 x6 sub) x (qhQ b):=by
 refine qhi ?_
 subst hb
 rw [h1]
 show (if decide (x.N % 2 = 1) = true then (1:Int) else 0) = qbd 0 x.N
 simp only [qbd,if_true,decide_eq_true_eq]
 split <;> omega
theorem qhj (hs:o = qbb x.S):ToF0 T v (.mk 7 x1 x2 (-1) x4 x5 x6 sub) x (.mk 0 o false [] []):=by
 cases x with
 | mk a1 a2 a3 a4 a5 =>
  exact ⟨fun h=>by omega,fun _ h=>by omega,fun _ _=>hs,fun _ h=>by omega,fun _ h=>absurd rfl h⟩
theorem qje {l:Nat} {g:Nat → Tree} {W:Tree → Tree} (hb:x3 ≥ 0 ∧ v ≥ x3 → b = Fld.nul (.mk 11 x1 x2 x3 x4 x5 x6 sub) v x) (hl:l = (lst T').length) (hlst:lst T' = (if Fld.nul (.mk 11 x1 x2 x3 (-1) x5 x6 sub) v x = true then [] else qan x.L).map W)
  (he:∀ i y,i < l → (lst T').getD i .zero = W y → (qan x.L)[i]? = some y → ToF0 T v (.mk x6 x1 x2 (-1) (-1) x5 x6 sub) y (g i)):ToF T v (.mk 11 x1 x2 x3 x4 x5 x6 sub) x (.mk 0 [] b ((List.range l).map g) []):=by
 have hn:Fld.nul (.mk 11 x1 x2 x3 (-1) x5 x6 sub) v x = Fld.nul (.mk 11 x1 x2 x3 x4 x5 x6 sub) v x:=by cases x; rfl
 refine ⟨?_,fun _ hnn=>?_⟩
 ·cases x with
  | mk a1 a2 a3 a4 a5 =>
   refine ⟨fun h=>hb ?_,fun _ h=>by omega,fun _ h=>by omega,fun _ h=>by omega,fun _ _ _ _ _ h=>absurd rfl h⟩
   rcases h with h | h | h
   ·omega
   ·omega
   exact h
 rw [hn,hnn,if_neg (by decide)] at hlst
 have hll:l = (qan x.L).length:=by rw [hl,hlst,List.length_map]
 refine ⟨by show ((List.range l).map g).length = _; rw [List.length_map,List.length_range,hll],fun i y z hy hz=>?_⟩
 have hi:i < l:=by rw [hll]; exact (List.getElem?_eq_some_iff.1 hy).1
 have hz':((List.range l).map g)[i]? = some z:=hz
 rw [List.getElem?_map,List.getElem?_range hi] at hz'
 obtain rfl:=Option.some.inj hz'
 refine he i y hi ?_ hy
 rw [hlst,List.getD_eq_getElem?_getD,List.getElem?_map,hy]
 rfl
theorem us_list' {l:Nat} {g:Nat → Tree} (h:l = 0):UsF U (.mk 11 x1 x2 x3 x4 x5 x6 sub) (.mk 0 [] b ((List.range l).map g) []):=by
 subst h
 exact ⟨fun h=>by omega,fun h=>by omega,fun _=>⟨rfl,rfl⟩,fun h=>by omega,fun _ _ _ _ h=>absurd rfl h⟩
end
theorem qcs (v:Int) (h0:0 ≤ v) (t Y:Tree) (hY:∀ i,Y.at_ i = (fitT v 8 sBrokerHeartbeatRequestF t).at_ i) (hU:Y.U = (fitT v 8 sBrokerHeartbeatRequestF t).U) (hi:t.i64s) (D:DV) (h:qa1 v D Y):qjL v (decide (v ≥ qas)) 8 sBrokerHeartbeatRequestF t (qa2 D):=by
 unfold qa1 at h
 obtain ⟨r0,r1,r2,r3,r4,r5,r6,rU,_⟩:=h
 refine ⟨rfl,fun i f y hf hy=>?_,?_⟩
 ·match i,hf,hy with
  | 0,hf,hy =>
   obtain rfl:=Option.some.inj hf
   obtain rfl:=Option.some.inj hy
   have e:=hY 0
   refine ⟨fun hp=>?_,fun hp=>?_⟩
   ·have hc:True:=trivial
    have r:=r0
    rw [e] at r
    rw [(qeY (v:=v) (d:=7) (t:=t) (show sBrokerHeartbeatRequestF[0]? = _ from rfl) (by decide))] at r
    exact qhi (by rw [r,qeW]; rfl)
   rw [qeb] at hp; simp at hp; omega
  | 1,hf,hy =>
   obtain rfl:=Option.some.inj hf
   obtain rfl:=Option.some.inj hy
   have e:=hY 1
   refine ⟨fun hp=>?_,fun hp=>?_⟩
   ·have hc:True:=trivial
    have r:=r1
    rw [e] at r
    rw [(qeY (v:=v) (d:=7) (t:=t) (show sBrokerHeartbeatRequestF[1]? = _ from rfl) (by decide))] at r
    exact qhi (by rw [r,qlo (qj8 hi 1)]; rfl)
   rw [qeb] at hp; simp at hp; omega
  | 2,hf,hy =>
   obtain rfl:=Option.some.inj hf
   obtain rfl:=Option.some.inj hy
   have e:=hY 2
   refine ⟨fun hp=>?_,fun hp=>?_⟩
   ·have hc:True:=trivial
    have r:=r2
    rw [e] at r
    rw [(qeY (v:=v) (d:=7) (t:=t) (show sBrokerHeartbeatRequestF[2]? = _ from rfl) (by decide))] at r
    exact qhi (by rw [r,qlo (qj8 hi 2)]; rfl)
   rw [qeb] at hp; simp at hp; omega
  | 3,hf,hy =>
   obtain rfl:=Option.some.inj hf
   obtain rfl:=Option.some.inj hy
   have e:=hY 3
   refine ⟨fun hp=>?_,fun hp=>?_⟩
   ·have hc:True:=trivial
    have r:=r3
    rw [e] at r
    exact qjd r (qeY (v:=v) (d:=7) (t:=t) (show sBrokerHeartbeatRequestF[3]? = _ from rfl) (by decide))
   rw [qeb] at hp; simp at hp; omega
  | 4,hf,hy =>
   obtain rfl:=Option.some.inj hf
   obtain rfl:=Option.some.inj hy
   have e:=hY 4
   refine ⟨fun hp=>?_,fun hp=>?_⟩
   ·have hc:True:=trivial
    have r:=r4
    rw [e] at r
    exact qjd r (qeY (v:=v) (d:=7) (t:=t) (show sBrokerHeartbeatRequestF[4]? = _ from rfl) (by decide))
   rw [qeb] at hp; simp at hp; omega
  | 5,hf,hy =>
   obtain rfl:=Option.some.inj hf
   obtain rfl:=Option.some.inj hy
   have e:=hY 5
   have r:=r5
   rw [e] at r
   obtain ⟨fn_,fl⟩:=qeQ (v:=v) (d:=7) (t:=t) (show sBrokerHeartbeatRequestF[5]? = _ from rfl)
   refine ⟨fun hp=>?_,fun hp=>?_⟩
   ·rw [qec (by decide)] at hp
    have r:=r.1 (qjc fl qge hp)
    rw [qjb] at fl
    refine qje (fun h_=>absurd h_.1 (by decide)) r.1 fl fun i_ y_ hi_ hg_ hy_=>?_
    have q:=r.2 i_ hi_
    rw [hg_] at q
    exact qhj (by rw [q,qbX]; cases y_; simp [qbP,Fld.kind,Tree.S])
   rw [qec (by decide)] at hp
   exact us_list' (r.2 (qj9 fl qge hp)).2
  | 6,hf,hy =>
   obtain rfl:=Option.some.inj hf
   obtain rfl:=Option.some.inj hy
   have e:=hY 6
   have r:=r6
   rw [e] at r
   obtain ⟨fn_,fl⟩:=qeQ (v:=v) (d:=7) (t:=t) (show sBrokerHeartbeatRequestF[6]? = _ from rfl)
   refine ⟨fun hp=>?_,fun hp=>?_⟩
   ·rw [qec (by decide)] at hp
    have r:=r.1 (qjc fl qge hp)
    rw [qjb] at fl
    refine qje (fun h_=>absurd h_.1 (by decide)) r.1 fl fun i_ y_ hi_ hg_ hy_=>?_
    have q:=r.2 i_ hi_
    rw [hg_] at q
    exact qhj (by rw [q,qbX]; cases y_; simp [qbP,Fld.kind,Tree.S])
   rw [qec (by decide)] at hp
   exact us_list' (r.2 (qj9 fl qge hp)).2
  | n_ + 7,hf,hy=>exact absurd (List.getElem?_eq_some_iff.1 hf).1 (by show ¬ n_ + 7 < 7; omega)
 show D.u = if (decide (v ≥ qas)) = true then qb5 (qai sBrokerHeartbeatRequestF t.U) else []
 by_cases hc:(decide (v ≥ 0)) = true
 ·rw [if_pos (show (decide (v ≥ qas)) = true from hc),rU.1 hc,hU,qjB]
 rw [if_neg (show ¬ (decide (v ≥ qas)) = true from hc),rU.2 (by simpa using hc)]
set_option maxHeartbeats 4000000 in
theorem qcN (v:Int) (T:Tree) {A2:Option Addr} {c2:Nat} {w:World} {F:Nat → Nat → Prop} (hs_:Octs w F A2 c2 (qak (IntKind.i16.wrap v) T)) (hc:qaZ T) (hkey:T.ranged) (hroom:(qak (IntKind.i16.wrap v) T).length + 16 ≤ 1099511627776) :
  Calls Tryd.prog 8 #[.int .i64 v,.slice A2 (qak (IntKind.i16.wrap v) T).length c2] w (fun e w'=>∃ D cs,e = .returned (.tuple #[.agg cs.toArray,.bool true]) ∧ TreeR w' (Fp NoF w) cs (qa2 D) ∧ qa1 (IntKind.i16.wrap v) D T ∧ Step w w' Nil):=by
 refine enter (n:=20) Tryd.func8 rfl Tryd.ntmps8 kz fun a hE=>?_
 have hW:=WOk.start w Nil
 have hsm2:=Slots.small hs_
 refine qag [0,1] kz ?_
 refine qam (qaR hW hE (d:=4) (cs:=[.int .i64 0,.slice none 0 0,.bool false,.slice none 0 0,.slice none 0 0]) kz fun b1 a2 w3 hb4 hz5 hF6 hW7 hE8=>?_)
 refine qaj [1] [] [(0,.v (.int .i64 v)),(1,.v (.slice A2 ((qak (IntKind.i16.wrap v) T).length) c2)),(4,.p 0 0)] hW7 hE8 fun a9 aX=>?_
 refine qaf (qab ?_)
 refine qag [0,1] kz ?_
 refine qam (qbE aX (f:=14) (vs:=[]) (d:=7) (n':=3) kz Tryd.call14 Tryd.func14 rfl Tryd.ntmps14 kz fun cM aY=>?_)
 refine qar [] hW7 aY fun cN aZ=>?_
 refine qag [0] kz ?_
 refine qam (qaR hW7 aZ (d:=1) (cs:=[.int .i16 0,.int .i32 0,.int .i64 0,.int .i64 0,.bool false,.bool false,.slice none 0 0,.slice none 0 0,.map none]) kz fun ab cO cP cm cq cr aI ba=>?_)
 refine qaf (qab ?_)
 refine qag [0] kz ?_
 refine qam (qbE ba (f:=29) (vs:=[.pointer (some ⟨ab,0,none⟩)]) (d:=2) (n':=5) kz Tryd.call29 Tryd.func29 rfl Tryd.ntmps29 kz fun cQ bd=>?_)
 have bf:=bd.recast 0 (.v (.pointer (some ⟨ab,0,none⟩))) (.p 1 0) rfl rfl (Nat.le_of_ble_eq_true (n:=2) rfl)
 refine qat [0,1,2,3] kz ?_
 refine qaj [0,1,2] [3] [(4,.p 1 2)] aI bf fun cR bg=>?_
 refine qam (qav aI bg (oi:=1) (cs:=[.int .i16 0,.int .i32 0,.int .i64 (-1),.int .i64 0,.bool false,.bool false,.slice none 0 0,.slice none 0 0,.map none]) kz fun cS cu ac bh=>?_)
 refine qaf ?_
 refine qb4 bh ac.cells (v:=.tuple #[]) kz ?_
 refine ⟨_,rfl,fun cT bj=>?_⟩
 have bk:EnvOk 3 [⟨b1,0,[.int .i64 0,.slice none 0 0,.bool false,.slice none 0 0,.slice none 0 0],true⟩,⟨ab,0,[.int .i16 0,.int .i32 0,.int .i64 (-1),.int .i64 0,.bool false,.bool false,.slice none 0 0,.slice none 0 0,.map none],true⟩] [(2,.v (.tuple #[])),(1,.p 1 0)] _:=bj.places (⟨rfl,rfl,⟨rfl,rfl,trivial⟩⟩)
 refine qaf (qab ?_)
 refine qar [(0,.p 1 0)] ac bk fun cU bn=>?_
 refine wp_ret ?_
 refine qaJ bn ac.cells (v:=.pointer (some ⟨ab,0,none⟩)) kz ?_
 refine ⟨_,rfl,fun cV bo=>?_⟩
 have bp:EnvOk 20 [⟨b1,0,[.int .i64 0,.slice none 0 0,.bool false,.slice none 0 0,.slice none 0 0],true⟩,⟨ab,0,[.int .i16 0,.int .i32 0,.int .i64 (-1),.int .i64 0,.bool false,.bool false,.slice none 0 0,.slice none 0 0,.map none],true⟩] [(7,.v (.pointer (some ⟨ab,0,none⟩))),(0,.v (.int .i64 v)),(1,.v (.slice A2 ((qak (IntKind.i16.wrap v) T).length) c2)),(4,.p 0 0)] _:=bo.places (⟨rfl,rfl,trivial⟩)
 have bq:=bp.recast 7 (.v (.pointer (some ⟨ab,0,none⟩))) (.p 1 0) rfl rfl (Nat.le_of_ble_eq_true (n:=2) rfl)
 have bt:=bq.pick (ks:=[0,1,4,7]) (env':=[(0,.v (.int .i64 v)),(1,.v (.slice A2 ((qak (IntKind.i16.wrap v) T).length) c2)),(4,.p 0 0),(7,.p 1 0)]) kz
 refine qaj [1] [] [(0,.v (.int .i64 v)),(1,.v (.slice A2 ((qak (IntKind.i16.wrap v) T).length) c2)),(4,.p 0 0),(6,.p 1 0)] ac bt fun cW bu=>?_
 refine qaf (qab ?_)
 refine qag [0,1,2,3] kz ?_
 refine qaj [0,1,2] [3] [(1,.v (.slice A2 ((qak (IntKind.i16.wrap v) T).length) c2)),(4,.p 0 0),(6,.p 1 0),(8,.p 1 0),(10,.v (.int .i16 (IntKind.i16.wrap v)))] ac bu fun cX bw=>?_
 refine qam (qbE bw (f:=16) (vs:=[.pointer (some ⟨ab,0,none⟩),.int .i16 (IntKind.i16.wrap v)]) (d:=11) (n':=8) kz Tryd.call16 Tryd.func16 rfl Tryd.ntmps16 kz fun cY bx=>?_)
 have bz:=bx.recast 0 (.v (.pointer (some ⟨ab,0,none⟩))) (.p 1 0) rfl rfl (Nat.le_of_ble_eq_true (n:=2) rfl)
 refine qat [0,1,2,3,4] kz ?_
 refine qaj [0,1,2,3] [4] [(5,.v (.int .i16 (IntKind.i16.wrap v))),(7,.p 1 0)] ac bz fun cZ bA=>?_
 refine qam (qav ac bA (oi:=1) (cs:=[.int .i16 (IntKind.i16.wrap v),.int .i32 0,.int .i64 (-1),.int .i64 0,.bool false,.bool false,.slice none 0 0,.slice none 0 0,.map none]) kz fun c5 cw ao bB=>?_)
 refine qaf ?_
 refine qb4 bB ao.cells (v:=.tuple #[]) kz ?_
 refine ⟨_,rfl,fun c6 bC=>?_⟩
 have bD:EnvOk 20 [⟨b1,0,[.int .i64 0,.slice none 0 0,.bool false,.slice none 0 0,.slice none 0 0],true⟩,⟨ab,0,[.int .i16 (IntKind.i16.wrap v),.int .i32 0,.int .i64 (-1),.int .i64 0,.bool false,.bool false,.slice none 0 0,.slice none 0 0,.map none],true⟩] [(11,.v (.tuple #[])),(1,.v (.slice A2 ((qak (IntKind.i16.wrap v) T).length) c2)),(4,.p 0 0),(6,.p 1 0),(8,.p 1 0),(10,.v (.int .i16 (IntKind.i16.wrap v)))] _:=bC.places (⟨rfl,rfl,⟨rfl,rfl,trivial⟩⟩)
 refine qaf (qab ?_)
 refine wp_seq ?_
 refine qag [0,1,2,3,4] kz ?_
 refine qaj [0,1] [2,3,4] [(4,.p 0 0),(6,.p 1 0),(12,.p 1 0),(13,.v (.slice A2 ((qak (IntKind.i16.wrap v) T).length) c2))] ao bD fun da bE=>?_
 have ah:=ao.addNil 5 1
 have cz:=ao.frNil 5 1
 refine qam (qaO ah bE (k:=0) (d:=14) (t:=22) (e:=5) (size:=1) (bytes:=1) (A:=none) (As:=A2) (m0:=0) (c:=0) (m:=((qak (IntKind.i16.wrap v) T).length)) (cs:=c2) (xs:=[]) (news:=bc (qak (IntKind.i16.wrap v) T)) kz kz rfl (hs_.move ah.step nilM ah.imm).src (hs_.move ah.step nilM ah.imm).cap (by first | omega | (simp only [List.length_nil]; omega) | (simp; omega)) fun af ag db dc cA bF bG=>?_)
 have bH:(⟨af,ag,5,1,0 + (qak (IntKind.i16.wrap v) T).length,[] ++ bc (qak (IntKind.i16.wrap v) T)⟩:Rw) = brow af ag 5 (qak (IntKind.i16.wrap v) T):=by rw [List.nil_append,Nat.zero_add]
 obtain ⟨ap,cB⟩:=bF.rowEq 0 [brow af ag 5 (qak (IntKind.i16.wrap v) T)] bH
 have bI:=EnvOk.pick bG (ks:=[4,6,12,13,14]) (env':=[(4,.p 0 0),(6,.p 1 0),(12,.p 1 0),(13,.v (.slice A2 ((qak (IntKind.i16.wrap v) T).length) c2)),(14,.v (.slice af (0 + (qak (IntKind.i16.wrap v) T).length) ag))]) kz
 have bJ:=bI.cast (env':=[(4,.p 0 0),(6,.p 1 0),(12,.p 1 0),(13,.v (.slice A2 ((qak (IntKind.i16.wrap v) T).length) c2)),(14,.v (.slice af ((qak (IntKind.i16.wrap v) T).length) ag))]) (by simp only [List.length_append,List.length_cons,List.length_nil,Nat.zero_add])
 refine qam (qbE bJ (f:=17) (vs:=[.pointer (some ⟨ab,0,none⟩),.slice af ((qak (IntKind.i16.wrap v) T).length) ag]) (d:=15) (n':=8) kz Tryd.call17 Tryd.func17 rfl Tryd.ntmps17 kz fun de bK=>?_)
 have bL:=bK.recast 0 (.v (.pointer (some ⟨ab,0,none⟩))) (.p 1 0) rfl rfl (Nat.le_of_ble_eq_true (n:=2) rfl)
 refine qar [(0,.p 1 0),(1,.v (.slice af ((qak (IntKind.i16.wrap v) T).length) ag))] ap bL fun df bM=>?_
 refine qag [0,1,2,3] kz ?_
 refine qaj [0,1] [2,3] [(5,.p 1 0),(6,.v (.slice af ((qak (IntKind.i16.wrap v) T).length) ag))] ap bM fun dg bN=>?_
 have bO:=ap.giveUp (G:=NoF) 0 [] (show _ = some (brow af ag 5 (qak (IntKind.i16.wrap v) T)) from rfl) (by omega)
 obtain ⟨aJ,cC⟩:=ap.cutR 0 []
 refine qam (qal bN (f:=30) (vs:=[.pointer (some ⟨ab,0,none⟩),.slice af ((qak (IntKind.i16.wrap v) T).length) ag,.bool false]) (d:=7) kz Tryd.call30 (qcL (IntKind.i16.wrap v) T (Str.of aJ 1 rfl) bO (qk3 1 rfl) hc hkey) ?_)
 rintro e_ dh ⟨aa,rfl,bP,bQ,bR,aK⟩
 obtain ⟨ae,cD,bS⟩:=aJ.wrote 1 [⟨b1,0,[.int .i64 0,.slice none 0 0,.bool false,.slice none 0 0,.slice none 0 0],true⟩,⟨ab,0,[.int .i16 (IntKind.i16.wrap v),.int .i32 ((aa.f 0).n),.int .i64 ((aa.f 1).n),.int .i64 ((aa.f 2).n),.bool ((aa.f 3).b),.bool ((aa.f 4).b),.slice ((aa.f 5).A) ((aa.f 5).l) ((aa.f 5).c),.slice ((aa.f 6).A) ((aa.f 6).l) ((aa.f 6).c),.map aa.m],true⟩] rfl aK bP
 have bT:=qbT _ (Step.refl _ Nil) nilM bS bQ
 refine ⟨_,rfl,fun di bU=>?_⟩
 have bV:=(EnvOk.places (tb':=[⟨b1,0,[.int .i64 0,.slice none 0 0,.bool false,.slice none 0 0,.slice none 0 0],true⟩,⟨ab,0,[.int .i16 (IntKind.i16.wrap v),.int .i32 ((aa.f 0).n),.int .i64 ((aa.f 1).n),.int .i64 ((aa.f 2).n),.bool ((aa.f 3).b),.bool ((aa.f 4).b),.slice ((aa.f 5).A) ((aa.f 5).l) ((aa.f 5).c),.slice ((aa.f 6).A) ((aa.f 6).l) ((aa.f 6).c),.map aa.m],true⟩]) bU (show Pl [⟨b1,0,[.int .i64 0,.slice none 0 0,.bool false,.slice none 0 0,.slice none 0 0],true⟩,⟨ab,0,[.int .i16 (IntKind.i16.wrap v),.int .i32 0,.int .i64 (-1),.int .i64 0,.bool false,.bool false,.slice none 0 0,.slice none 0 0,.map none],true⟩] [⟨b1,0,[.int .i64 0,.slice none 0 0,.bool false,.slice none 0 0,.slice none 0 0],true⟩,⟨ab,0,[.int .i16 (IntKind.i16.wrap v),.int .i32 ((aa.f 0).n),.int .i64 ((aa.f 1).n),.int .i64 ((aa.f 2).n),.bool ((aa.f 3).b),.bool ((aa.f 4).b),.slice ((aa.f 5).A) ((aa.f 5).l) ((aa.f 5).c),.slice ((aa.f 6).A) ((aa.f 6).l) ((aa.f 6).c),.map aa.m],true⟩] from ⟨rfl,rfl,⟨rfl,rfl,trivial⟩⟩)).pk (env':=[(7,.v (.nilIface)),(5,.p 1 0),(6,.v (.slice af ((qak (IntKind.i16.wrap v) T).length) ag))])
 refine qaj [3] [] [(4,.v (.nilIface))] ae bV fun dj bW=>?_
 refine qaf (qab ?_)
 refine wp_ret ?_
 refine qaJ bW ae.cells (v:=.nilIface) kz ?_
 refine ⟨_,rfl,fun dl aL=>?_⟩
 have aM:EnvOk 20 [⟨b1,0,[.int .i64 0,.slice none 0 0,.bool false,.slice none 0 0,.slice none 0 0],true⟩,⟨ab,0,[.int .i16 (IntKind.i16.wrap v),.int .i32 ((aa.f 0).n),.int .i64 ((aa.f 1).n),.int .i64 ((aa.f 2).n),.bool ((aa.f 3).b),.bool ((aa.f 4).b),.slice ((aa.f 5).A) ((aa.f 5).l) ((aa.f 5).c),.slice ((aa.f 6).A) ((aa.f 6).l) ((aa.f 6).c),.map aa.m],true⟩] [(15,.v (.nilIface)),(4,.p 0 0),(6,.p 1 0),(12,.p 1 0),(13,.v (.slice A2 ((qak (IntKind.i16.wrap v) T).length) c2)),(14,.v (.slice af ((qak (IntKind.i16.wrap v) T).length) ag))] _:=aL.places (⟨rfl,rfl,⟨rfl,rfl,trivial⟩⟩)
 refine qaj [4] [] [(4,.p 0 0),(6,.p 1 0),(16,.v (.bool false))] ae aM fun cE ar=>?_
 refine qaf (qab ?_)
 refine qap ar (b:=false) kz rfl ?_
 refine wp_skip ?_
 refine qab ?_
 refine qag [0,1,2,3] kz ?_
 refine qaj [0] [1,2,3] [(4,.p 0 0),(18,.p 1 0)] ae ar fun cG aN=>?_
 have aO:=aN.recast 18 (.p 1 0) (.v (.pointer (some ⟨ab,0,none⟩))) rfl rfl trivial
 have aP:=aO.pk (env':=[(4,.p 0 0),(18,.v (.pointer (some ⟨ab,0,none⟩)))])
 have aw:=WOk.strOut (G:=NoF) [⟨b1,0,[.int .i64 0,.slice none 0 0,.bool false,.slice none 0 0,.slice none 0 0],true⟩] ae
 obtain ⟨aQ,ai,au⟩:=ae.cutB aP 1 [⟨b1,0,[.int .i64 0,.slice none 0 0,.bool false,.slice none 0 0,.slice none 0 0],true⟩] [(4,.p 0 0),(18,.v (.pointer (some ⟨ab,0,none⟩)))]
 have aR:=qbT _ au.step immM au.to' bT
 refine qam (qal aQ (f:=18) (vs:=[.pointer (some ⟨ab,0,none⟩)]) (d:=19) kz Tryd.call18 (qcM (IntKind.i16.wrap v) aa ab 0 _ _ aw aR) ?_)
 rintro e_ cH ⟨cb,rfl,aS,aj⟩
 have ak:=aS.move (Step.refl _ Nil) nilM (ai.laid (G:=NoF) aj)
 obtain ⟨ax,ay,az,aA,aB,aC,aD,aE,aF,aG,aH,cc,cd,al,bX,bY,cI,cJ⟩:=ak.open_
 rw [al] at ak
 have bZ:=bX.small
 have b8:=bY.small
 rw [al]
 refine ⟨_,rfl,fun cK aT=>?_⟩
 have aU:=ai.next_nil aj
 have ce:=ai.frN aj
 refine qam (qav aU aT (oi:=0) (cs:=[.int .i64 ax,.slice aC ay.length aD,.bool az,.slice aE aA.length aF,.slice aG aB.length aH]) kz fun ca av am aV=>?_)
 refine qaj [3] [] [(4,.p 0 0),(5,.v (.bool true))] am aV fun cL aW=>?_
 refine qaf (qab ?_)
 refine wp_ret ?_
 refine qaJ aW am.cells (v:=.tuple #[.agg #[.int .i64 ax,.slice aC ay.length aD,.bool az,.slice aE aA.length aF,.slice aG aB.length aH],.bool true]) kz ?_
 exact ⟨aa,_,rfl,(show TreeR _ (Imm NoF w ca [⟨b1,0,[.int .i64 ax,.slice aC ay.length aD,.bool az,.slice aE aA.length aF,.slice aG aB.length aH],true⟩] []) _ (qa2 aa) from (ak.move av.step immM av.to')).move (Step.refl _ Nil) nilM qb9,bR,am.step⟩
theorem qcC (v:Int) (T:Tree) (B:Bs) {A2:Option Addr} {c2:Nat} {w:World} {F:Nat → Nat → Prop} (hB:(qak (IntKind.i16.wrap v) T) = B) (hs_:Octs w F A2 c2 B) (hc:qaZ T) (hkey:T.ranged) (hroom:B.length + 16 ≤ 1099511627776) :
  Calls Tryd.prog 8 #[.int .i64 v,.slice A2 B.length c2] w (fun e w'=>∃ D cs,e = .returned (.tuple #[.agg cs.toArray,.bool true]) ∧ TreeR w' (Fp NoF w) cs (qa2 D) ∧ qa1 (IntKind.i16.wrap v) D T ∧ Step w w' Nil):=by
 subst hB
 exact qcN v T hs_ hc hkey hroom
end Go.Proofs.YtdlaobdadlmcdabDoor.ME