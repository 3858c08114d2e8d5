/- The texts of a claim, put together: the engine, the contracts, the law. Own work. -/
import Derived.Test.YtogokkkdfcgncaaGreatDoorWf1P5
import Derived.Lib.ConvBytes
namespace Go.Proofs.YtogokkkdfcgncaaGreatDoor.ME
open Go
open Go.RowKit
set_option linter.unusedVariables false
set_option linter.unusedSimpArgs false
set_option maxRecDepth 20000
set_option maxHeartbeats 4000000 in
theorem qcA (has:Bool) (txt:ByteArray) (num v:Int) (T:Tree) {A2:Option Addr} {c2:Nat} {w:World} {F:Nat → Nat → Prop} (hs_:Octs w F A2 c2 (qai (IntKind.i16.wrap v) T)) (hc:qaP T) (hkey:T.ranged) (htx:txt.size ≤ 32767) (hroom:txt.size + (qai (IntKind.i16.wrap v) T).length + 64 ≤ 1099511627776) :
  Calls Tryz.prog 37 #[.agg #[.bool has,.string txt],.int .i32 num,.int .i64 v,.slice A2 (qai (IntKind.i16.wrap v) T).length c2] w (fun e w'=>∃ A c,e = .returned (.tuple #[.slice A (qbb 83 (IntKind.i16.wrap v) num has (sb txt) (decide ((IntKind.i16.wrap v) ≥ 0)) (qai (IntKind.i16.wrap v) T)).length c,.bool true]) ∧ w'.ownsRow w.heap.size 5 1 (.slice A (qbb 83 (IntKind.i16.wrap v) num has (sb txt) (decide ((IntKind.i16.wrap v) ≥ 0)) (qai (IntKind.i16.wrap v) T)).length c) (qbb 83 (IntKind.i16.wrap v) num has (sb txt) (decide ((IntKind.i16.wrap v) ≥ 0)) (qai (IntKind.i16.wrap v) T)).length (bc (qbb 83 (IntKind.i16.wrap v) num has (sb txt) (decide ((IntKind.i16.wrap v) ≥ 0)) (qai (IntKind.i16.wrap v) T))) ∧ Step w w' Nil):=by
 refine enter (n:=26) Tryz.func37 rfl Tryz.ntmps37 kz fun a hE=>?_
 have hW:=WOk.start w Nil
 have hsm2:=Slots.small hs_
 refine qae [0,1,2] kz ?_
 refine qao (qbm hW hE (d:=4) (cs:=[.bool has,.string txt]) kz fun b1 a2 w3 hb4 hz5 hF6 hW7 hE8=>?_)
 refine qal [1,2] [] [(1,.v (.int .i32 num)),(2,.v (.int .i64 v)),(3,.v (.slice A2 ((qai (IntKind.i16.wrap v) T).length) c2)),(4,.p 0 0)] hW7 hE8 fun a9 ln=>?_
 refine qag (qab ?_)
 refine qae [0,1] kz ?_
 refine qao (qbf ln (f:=72) (vs:=[]) (d:=11) (n':=3) kz Tryz.call72 Tryz.func72 rfl Tryz.ntmps72 kz fun rO lp=>?_)
 refine qat [] hW7 lp fun rP lq=>?_
 refine qae [0] kz ?_
 refine qao (qbl hW7 lq (d:=1) (cs:=[.int .i16 0,.string ByteArray.empty,.slice none 0 0,.map none]) kz fun ac rQ rR mB mC mD bF lr=>?_)
 refine qag (qab ?_)
 refine qae [0] kz ?_
 refine qao (qbf lr (f:=105) (vs:=[.pointer (some ⟨ac,0,none⟩)]) (d:=2) (n':=2) kz Tryz.call105 Tryz.func105 rfl Tryz.ntmps105 kz fun rS ls=>?_)
 have lu:=ls.recast 0 (.v (.pointer (some ⟨ac,0,none⟩))) (.p 1 0) rfl rfl (Nat.le_of_ble_eq_true (n:=2) rfl)
 refine wp_skip ?_
 refine qb9 lu bF.cells (v:=.tuple #[]) kz ?_
 refine ⟨_,rfl,fun rT lv=>?_⟩
 have lw:=(EnvOk.places (tb':=[⟨b1,0,[.bool has,.string txt],true⟩,⟨ac,0,[.int .i16 0,.string ByteArray.empty,.slice none 0 0,.map none],true⟩]) lv (show Pl [⟨b1,0,[.bool has,.string txt],true⟩,⟨ac,0,[.int .i16 0,.string ByteArray.empty,.slice none 0 0,.map none],true⟩] [⟨b1,0,[.bool has,.string txt],true⟩,⟨ac,0,[.int .i16 0,.string ByteArray.empty,.slice none 0 0,.map none],true⟩] from ⟨rfl,rfl,⟨rfl,rfl,trivial⟩⟩)).pk (env':=[(2,.v (.tuple #[])),(1,.p 1 0)])
 refine qag (qab ?_)
 refine qat [(0,.p 1 0)] bF lw fun rU lx=>?_
 refine wp_ret ?_
 refine qaG lx bF.cells (v:=.pointer (some ⟨ac,0,none⟩)) kz ?_
 refine ⟨_,rfl,fun rV ly=>?_⟩
 have lz:=(EnvOk.places (tb':=[⟨b1,0,[.bool has,.string txt],true⟩,⟨ac,0,[.int .i16 0,.string ByteArray.empty,.slice none 0 0,.map none],true⟩]) ly (show Pl [⟨b1,0,[.bool has,.string txt],true⟩] [⟨b1,0,[.bool has,.string txt],true⟩,⟨ac,0,[.int .i16 0,.string ByteArray.empty,.slice none 0 0,.map none],true⟩] from ⟨rfl,rfl,trivial⟩)).pk (env':=[(11,.v (.pointer (some ⟨ac,0,none⟩))),(1,.v (.int .i32 num)),(2,.v (.int .i64 v)),(3,.v (.slice A2 ((qai (IntKind.i16.wrap v) T).length) c2)),(4,.p 0 0)])
 have lA:=lz.recast 11 (.v (.pointer (some ⟨ac,0,none⟩))) (.p 1 0) rfl rfl (Nat.le_of_ble_eq_true (n:=2) rfl)
 have lB:=lA.pick (ks:=[1,2,3,4,11]) (env':=[(1,.v (.int .i32 num)),(2,.v (.int .i64 v)),(3,.v (.slice A2 ((qai (IntKind.i16.wrap v) T).length) c2)),(4,.p 0 0),(11,.p 1 0)]) kz
 refine qal [1] [] [(1,.v (.int .i32 num)),(2,.v (.int .i64 v)),(3,.v (.slice A2 ((qai (IntKind.i16.wrap v) T).length) c2)),(4,.p 0 0),(10,.p 1 0)] bF lB fun rW lC=>?_
 refine qag (qab ?_)
 refine qae [0,1,2,3] kz ?_
 refine qal [0,1,2] [3] [(1,.v (.int .i32 num)),(3,.v (.slice A2 ((qai (IntKind.i16.wrap v) T).length) c2)),(4,.p 0 0),(10,.p 1 0),(12,.p 1 0),(14,.v (.int .i16 (IntKind.i16.wrap v)))] bF lC fun rX lD=>?_
 refine qao (qbf lD (f:=75) (vs:=[.pointer (some ⟨ac,0,none⟩),.int .i16 (IntKind.i16.wrap v)]) (d:=15) (n':=8) kz Tryz.call75 Tryz.func75 rfl Tryz.ntmps75 kz fun rY lE=>?_)
 have lF:=lE.recast 0 (.v (.pointer (some ⟨ac,0,none⟩))) (.p 1 0) rfl rfl (Nat.le_of_ble_eq_true (n:=2) rfl)
 refine qau [0,1,2,3,4] kz ?_
 refine qal [0,1,2,3] [4] [(5,.v (.int .i16 (IntKind.i16.wrap v))),(7,.p 1 0)] bF lF fun rZ lG=>?_
 refine qao (qaX bF lG (oi:=1) (cs:=[.int .i16 (IntKind.i16.wrap v),.string ByteArray.empty,.slice none 0 0,.map none]) kz fun r0 mF cH lH=>?_)
 refine qag ?_
 refine qb9 lH cH.cells (v:=.tuple #[]) kz ?_
 refine ⟨_,rfl,fun r2 lI=>?_⟩
 have lJ:=(EnvOk.places (tb':=[⟨b1,0,[.bool has,.string txt],true⟩,⟨ac,0,[.int .i16 (IntKind.i16.wrap v),.string ByteArray.empty,.slice none 0 0,.map none],true⟩]) lI (show Pl [⟨b1,0,[.bool has,.string txt],true⟩,⟨ac,0,[.int .i16 0,.string ByteArray.empty,.slice none 0 0,.map none],true⟩] [⟨b1,0,[.bool has,.string txt],true⟩,⟨ac,0,[.int .i16 (IntKind.i16.wrap v),.string ByteArray.empty,.slice none 0 0,.map none],true⟩] from ⟨rfl,rfl,⟨rfl,rfl,trivial⟩⟩)).pk (env':=[(15,.v (.tuple #[])),(1,.v (.int .i32 num)),(3,.v (.slice A2 ((qai (IntKind.i16.wrap v) T).length) c2)),(4,.p 0 0),(10,.p 1 0),(12,.p 1 0),(14,.v (.int .i16 (IntKind.i16.wrap v)))])
 refine qag (qab ?_)
 refine wp_seq ?_
 refine qae [0,1,2,3,4] kz ?_
 refine qal [0,1] [2,3,4] [(1,.v (.int .i32 num)),(4,.p 0 0),(10,.p 1 0),(16,.p 1 0),(17,.v (.slice A2 ((qai (IntKind.i16.wrap v) T).length) c2))] cH lJ fun r3 lK=>?_
 have cz:=cH.addNil 5 1
 have mG:=cH.frNil 5 1
 refine qao (qaM cz lK (k:=0) (d:=18) (t:=24) (e:=5) (size:=1) (bytes:=1) (A:=none) (As:=A2) (m0:=0) (c:=0) (m:=((qai (IntKind.i16.wrap v) T).length)) (cs:=c2) (xs:=[]) (news:=bc (qai (IntKind.i16.wrap v) T)) kz kz rfl (hs_.move cz.step nilM cz.imm).src (hs_.move cz.step nilM cz.imm).cap (by first | omega | (simp only [List.length_append,List.length_cons,List.length_nil,be_length,qbW]; omega) | (simp; omega)) fun cv cw r4 r5 mH lL lM=>?_)
 have lN:(⟨cv,cw,5,1,0 + (qai (IntKind.i16.wrap v) T).length,[] ++ bc (qai (IntKind.i16.wrap v) T)⟩:Rw) = brow cv cw 5 (qai (IntKind.i16.wrap v) T):=by rw [List.nil_append,Nat.zero_add]
 obtain ⟨cI,mI⟩:=lL.rowEq 0 [brow cv cw 5 (qai (IntKind.i16.wrap v) T)] lN
 have lO:=EnvOk.pick lM (ks:=[1,4,10,16,17,18]) (env':=[(1,.v (.int .i32 num)),(4,.p 0 0),(10,.p 1 0),(16,.p 1 0),(17,.v (.slice A2 ((qai (IntKind.i16.wrap v) T).length) c2)),(18,.v (.slice cv (0 + (qai (IntKind.i16.wrap v) T).length) cw))]) kz
 have lP:=lO.cast (env':=[(1,.v (.int .i32 num)),(4,.p 0 0),(10,.p 1 0),(16,.p 1 0),(17,.v (.slice A2 ((qai (IntKind.i16.wrap v) T).length) c2)),(18,.v (.slice cv ((qai (IntKind.i16.wrap v) T).length) cw))]) (by simp only [List.length_append,List.length_cons,List.length_nil,Nat.zero_add])
 refine qao (qbf lP (f:=76) (vs:=[.pointer (some ⟨ac,0,none⟩),.slice cv ((qai (IntKind.i16.wrap v) T).length) cw]) (d:=19) (n':=8) kz Tryz.call76 Tryz.func76 rfl Tryz.ntmps76 kz fun r6 lQ=>?_)
 have lR:=lQ.recast 0 (.v (.pointer (some ⟨ac,0,none⟩))) (.p 1 0) rfl rfl (Nat.le_of_ble_eq_true (n:=2) rfl)
 refine qat [(0,.p 1 0),(1,.v (.slice cv ((qai (IntKind.i16.wrap v) T).length) cw))] cI lR fun r7 lS=>?_
 refine qae [0,1,2,3] kz ?_
 refine qal [0,1] [2,3] [(5,.p 1 0),(6,.v (.slice cv ((qai (IntKind.i16.wrap v) T).length) cw))] cI lS fun r8 lT=>?_
 have lU:=cI.giveUp (G:=F) 0 [] (show _ = some (brow cv cw 5 (qai (IntKind.i16.wrap v) T)) from rfl) (by omega)
 obtain ⟨dX,mJ⟩:=cI.cutR 0 []
 refine qao (qan lT (f:=107) (vs:=[.pointer (some ⟨ac,0,none⟩),.slice cv ((qai (IntKind.i16.wrap v) T).length) cw,.bool false]) (d:=7) kz Tryz.call107 (qcy (IntKind.i16.wrap v) T (Str.of dX 1 rfl) lU (qme 1 rfl) hc hkey) ?_)
 rintro e_ r9 ⟨aa,rfl,lV,lW,ba,dY⟩
 replace ba:=qcz _ _ _ ba
 obtain ⟨cA,mK,lX⟩:=dX.wrote 1 [⟨b1,0,[.bool has,.string txt],true⟩,⟨ac,0,[.int .i16 (IntKind.i16.wrap v),.string ((aa.f 0).s),.slice ((aa.f 1).A) ((aa.f 1).l) ((aa.f 1).c),.map aa.m],true⟩] rfl dY lV
 have cJ:=qaI _ (Step.refl _ Nil) nilM lX lW
 refine ⟨_,rfl,fun sa lY=>?_⟩
 have lZ:=(EnvOk.places (tb':=[⟨b1,0,[.bool has,.string txt],true⟩,⟨ac,0,[.int .i16 (IntKind.i16.wrap v),.string ((aa.f 0).s),.slice ((aa.f 1).A) ((aa.f 1).l) ((aa.f 1).c),.map aa.m],true⟩]) lY (show Pl [⟨b1,0,[.bool has,.string txt],true⟩,⟨ac,0,[.int .i16 (IntKind.i16.wrap v),.string ByteArray.empty,.slice none 0 0,.map none],true⟩] [⟨b1,0,[.bool has,.string txt],true⟩,⟨ac,0,[.int .i16 (IntKind.i16.wrap v),.string ((aa.f 0).s),.slice ((aa.f 1).A) ((aa.f 1).l) ((aa.f 1).c),.map aa.m],true⟩] from ⟨rfl,rfl,⟨rfl,rfl,trivial⟩⟩)).pk (env':=[(7,.v (.nilIface)),(5,.p 1 0),(6,.v (.slice cv ((qai (IntKind.i16.wrap v) T).length) cw))])
 have hv82l:=congrArg List.length ba
 refine qal [3] [] [(4,.v (.nilIface))] cA lZ fun sc l0=>?_
 refine qag (qab ?_)
 refine wp_ret ?_
 refine qaG l0 cA.cells (v:=.nilIface) kz ?_
 refine ⟨_,rfl,fun sd l3=>?_⟩
 have l5:=(EnvOk.places (tb':=[⟨b1,0,[.bool has,.string txt],true⟩,⟨ac,0,[.int .i16 (IntKind.i16.wrap v),.string ((aa.f 0).s),.slice ((aa.f 1).A) ((aa.f 1).l) ((aa.f 1).c),.map aa.m],true⟩]) l3 (show Pl [⟨b1,0,[.bool has,.string txt],true⟩,⟨ac,0,[.int .i16 (IntKind.i16.wrap v),.string ByteArray.empty,.slice none 0 0,.map none],true⟩] [⟨b1,0,[.bool has,.string txt],true⟩,⟨ac,0,[.int .i16 (IntKind.i16.wrap v),.string ((aa.f 0).s),.slice ((aa.f 1).A) ((aa.f 1).l) ((aa.f 1).c),.map aa.m],true⟩] from ⟨rfl,rfl,⟨rfl,rfl,trivial⟩⟩)).pk (env':=[(19,.v (.nilIface)),(1,.v (.int .i32 num)),(4,.p 0 0),(10,.p 1 0),(16,.p 1 0),(17,.v (.slice A2 ((qai (IntKind.i16.wrap v) T).length) c2)),(18,.v (.slice cv ((qai (IntKind.i16.wrap v) T).length) cw))])
 refine qal [4] [] [(1,.v (.int .i32 num)),(4,.p 0 0),(10,.p 1 0),(20,.v (.bool false))] cA l5 fun se dZ=>?_
 refine qag (qab ?_)
 refine qaw dZ (b:=false) kz rfl ?_
 refine wp_skip ?_
 refine qab ?_
 refine qae [0,1,2,3,4,5,6] kz ?_
 refine qal [0,1,2,3] [4,5,6] [(21,.v (.agg #[.bool has,.string txt])),(23,.v (.iface 69 (.pointer (some ⟨ac,0,none⟩)))),(24,.v (.int .i32 num))] cA dZ fun sf l6=>?_
 refine qao (qbf l6 (f:=45) (vs:=[.agg #[.bool has,.string txt],.iface 69 (.pointer (some ⟨ac,0,none⟩)),.int .i32 num]) (d:=25) (n':=20) kz Tryz.call45 Tryz.func45 rfl Tryz.ntmps45 kz fun mL d5=>?_)
 refine qae [0,1] kz ?_
 refine qao (qbm cA d5 (d:=3) (cs:=[.bool has,.string txt]) kz fun af mM mN l7 l9 aP cB d6=>?_)
 refine qal [1] [] [(1,.v (.iface 69 (.pointer (some ⟨ac,0,none⟩)))),(2,.v (.int .i32 num)),(3,.p 2 0)] cB d6 fun mO d7=>?_
 refine qag (qab ?_)
 refine qae [0,1] kz ?_
 refine qao (qbf d7 (f:=89) (vs:=[.slice none 0 0]) (d:=8) (n':=18) kz Tryz.call89 Tryz.func89 rfl Tryz.ntmps89 kz fun mQ d8=>?_)
 refine qat [(0,.v (.slice none 0 0))] cB d8 fun mR d9=>?_
 refine qae [0,1] kz ?_
 refine qao (qbl cB d9 (d:=6) (cs:=[.pointer none]) kz fun ae mS mT ma mc aQ av ea=>?_)
 refine qal [1] [] [(0,.v (.slice none 0 0)),(3,.p 3 0)] av ea fun mU eb=>?_
 refine qag (qab ?_)
 refine wp_seq ?_
 refine qat [(3,.p 3 0),(7,.v (.slice none 0 0)),(8,.v (.int .i64 0)),(9,.v (.int .i64 0))] av eb fun mV ec=>?_
 refine wp_block ?_
 refine wp_loop_rounds 1 ?_
 refine qgh ?_
 refine qat [(3,.p 3 0),(7,.v (.slice none 0 0)),(8,.v (.int .i64 0)),(9,.v (.int .i64 0)),(10,.v (.bool false))] av ec fun mW cK=>?_
 refine wp_seq ?_
 refine qaw cK (b:=false) kz rfl ?_
 refine wp_exit ?_
 refine qaz ?_
 refine qaz ?_
 refine qaV ?_
 refine qab ?_
 refine qat [(2,.p 3 0)] av cK fun mX ee=>?_
 refine wp_ret ?_
 refine qaG ee av.cells (v:=.pointer (some ⟨ae,0,none⟩)) kz ?_
 refine ⟨_,rfl,fun mY ef=>?_⟩
 have eg:=(EnvOk.places (tb':=[⟨b1,0,[.bool has,.string txt],true⟩,⟨ac,0,[.int .i16 (IntKind.i16.wrap v),.string ((aa.f 0).s),.slice ((aa.f 1).A) ((aa.f 1).l) ((aa.f 1).c),.map aa.m],true⟩,⟨af,0,[.bool has,.string txt],true⟩,⟨ae,0,[.pointer none],true⟩]) ef (show Pl [⟨b1,0,[.bool has,.string txt],true⟩,⟨ac,0,[.int .i16 (IntKind.i16.wrap v),.string ((aa.f 0).s),.slice ((aa.f 1).A) ((aa.f 1).l) ((aa.f 1).c),.map aa.m],true⟩,⟨af,0,[.bool has,.string txt],true⟩] [⟨b1,0,[.bool has,.string txt],true⟩,⟨ac,0,[.int .i16 (IntKind.i16.wrap v),.string ((aa.f 0).s),.slice ((aa.f 1).A) ((aa.f 1).l) ((aa.f 1).c),.map aa.m],true⟩,⟨af,0,[.bool has,.string txt],true⟩,⟨ae,0,[.pointer none],true⟩] from ⟨rfl,rfl,⟨rfl,rfl,⟨rfl,rfl,trivial⟩⟩⟩)).pk (env':=[(8,.v (.pointer (some ⟨ae,0,none⟩))),(1,.v (.iface 69 (.pointer (some ⟨ac,0,none⟩)))),(2,.v (.int .i32 num)),(3,.p 2 0)])
 have eh:=eg.recast 8 (.v (.pointer (some ⟨ae,0,none⟩))) (.p 3 0) rfl rfl (Nat.le_of_ble_eq_true (n:=4) rfl)
 have ei:=eh.pick (ks:=[1,2,3,8]) (env':=[(1,.v (.iface 69 (.pointer (some ⟨ac,0,none⟩)))),(2,.v (.int .i32 num)),(3,.p 2 0),(8,.p 3 0)]) kz
 refine qal [1] [] [(1,.v (.iface 69 (.pointer (some ⟨ac,0,none⟩)))),(2,.v (.int .i32 num)),(3,.p 2 0),(7,.p 3 0)] av ei fun mZ ej=>?_
 refine qag (qab ?_)
 refine wp_seq ?_
 refine qat [(1,.v (.iface 69 (.pointer (some ⟨ac,0,none⟩)))),(2,.v (.int .i32 num)),(3,.p 2 0),(7,.p 3 0),(10,.v (.bool has))] av ej fun m4 cC=>?_
 refine qaC cC (b:=has) kz (fun aJ=>?_) (fun aJ=>?_)
 ·
  refine qau [0,1,2,3,4,5] kz ?_
  refine qal [0,1] [2,3,4,5] [(1,.v (.iface 69 (.pointer (some ⟨ac,0,none⟩)))),(2,.v (.int .i32 num)),(12,.v (.string txt))] av cC fun m5 ek=>?_
  refine qao (qbf ek (f:=90) (vs:=[.string txt]) (d:=13) (n':=6) kz Tryz.call90 Tryz.func90 rfl Tryz.ntmps90 kz fun m6 em=>?_)
  refine qae [0,1] kz ?_
  refine qao (qbm av em (d:=1) (cs:=[.string txt]) kz fun ab m7 m8 md me bG bH eo=>?_)
  refine qal [1] [] [(1,.p 4 0)] bH eo fun m9 ep=>?_
  refine qag (qab ?_)
  refine qae [0,1,2,3] kz ?_
  refine qao (qf2 ep (v:=.func (.func 131) #[] #[.pointer (some ⟨ab,0,none⟩)]) (d:=3) kz fun nf eu=>?_)
  refine qal [1,2,3] [] [(2,.v (.iface 147 (.agg #[.func (.func 131) #[] #[.pointer (some ⟨ab,0,none⟩)]])))] bH eu fun ng ev=>?_
  refine qag (qab ?_)
  refine wp_ret ?_
  refine qaG ev bH.cells (v:=.iface 147 (.agg #[.func (.func 131) #[] #[.pointer (some ⟨ab,0,none⟩)]])) kz ?_
  refine ⟨_,rfl,fun nh ew=>?_⟩
  have ey:=(EnvOk.places (tb':=[⟨b1,0,[.bool has,.string txt],true⟩,⟨ac,0,[.int .i16 (IntKind.i16.wrap v),.string ((aa.f 0).s),.slice ((aa.f 1).A) ((aa.f 1).l) ((aa.f 1).c),.map aa.m],true⟩,⟨af,0,[.bool has,.string txt],true⟩,⟨ae,0,[.pointer none],true⟩,⟨ab,0,[.string txt],true⟩]) ew (show Pl [⟨b1,0,[.bool has,.string txt],true⟩,⟨ac,0,[.int .i16 (IntKind.i16.wrap v),.string ((aa.f 0).s),.slice ((aa.f 1).A) ((aa.f 1).l) ((aa.f 1).c),.map aa.m],true⟩,⟨af,0,[.bool has,.string txt],true⟩,⟨ae,0,[.pointer none],true⟩] [⟨b1,0,[.bool has,.string txt],true⟩,⟨ac,0,[.int .i16 (IntKind.i16.wrap v),.string ((aa.f 0).s),.slice ((aa.f 1).A) ((aa.f 1).l) ((aa.f 1).c),.map aa.m],true⟩,⟨af,0,[.bool has,.string txt],true⟩,⟨ae,0,[.pointer none],true⟩,⟨ab,0,[.string txt],true⟩] from ⟨rfl,rfl,⟨rfl,rfl,⟨rfl,rfl,⟨rfl,rfl,trivial⟩⟩⟩⟩)).pk (env':=[(13,.v (.iface 147 (.agg #[.func (.func 131) #[] #[.pointer (some ⟨ab,0,none⟩)]]))),(1,.v (.iface 69 (.pointer (some ⟨ac,0,none⟩)))),(2,.v (.int .i32 num)),(12,.v (.string txt))])
  refine qao (qdL bH ey (e:=96) (size:=1) (len:=1) (cs:=[.iface 147 (.agg #[.func (.func 131) #[] #[.pointer (some ⟨ab,0,none⟩)]])]) (d:=14) kz kz fun au ni nj mf mg bI cL ez=>?_)
  refine qao (qbf ez (f:=89) (vs:=[.slice (some ⟨au,0,none⟩) 1 1]) (d:=15) (n':=18) kz Tryz.call89 Tryz.func89 rfl Tryz.ntmps89 kz fun nk eB=>?_)
  refine qat [(0,.v (.slice (some ⟨au,0,none⟩) 1 1))] cL eB fun nl eC=>?_
  refine qae [0,1] kz ?_
  refine qao (qbl cL eC (d:=6) (cs:=[.pointer none]) kz fun ag np nr mh mi bJ bd eD=>?_)
  refine qal [1] [] [(0,.v (.slice (some ⟨au,0,none⟩) 1 1)),(3,.p 5 0)] bd eD fun ns eE=>?_
  refine qag (qab ?_)
  refine wp_seq ?_
  refine qat [(3,.p 5 0),(7,.v (.slice (some ⟨au,0,none⟩) 1 1)),(8,.v (.int .i64 1)),(9,.v (.int .i64 0))] bd eE fun nt eF=>?_
  refine wp_block ?_
  refine wp_loop_rounds 2 ?_
  refine qgh ?_
  refine qat [(3,.p 5 0),(7,.v (.slice (some ⟨au,0,none⟩) 1 1)),(8,.v (.int .i64 1)),(9,.v (.int .i64 0)),(10,.v (.bool true))] bd eF fun nu cM=>?_
  refine wp_seq ?_
  refine qbR cM (b:=true) kz rfl ?_
  refine wp_skip ?_
  refine qab ?_
  refine wp_seq ?_
  refine wp_block ?_
  refine qae [0,1,2] kz ?_
  have dR:=qgq (o:=0 * 1) (cs:=[.iface 147 (.agg #[.func (.func 131) #[] #[.pointer (some ⟨ab,0,none⟩)]])]) (bd.own 0 _ rfl) rfl (fun j_ v_ h_=>by simpa using h_)
  refine qao (qay cM (t:=142) (A:=(some ⟨au,0,none⟩)) (m:=1) (q:=0) (d:=11) kz (e:=96) (size:=1) (bytes:=16) kz (b:=au) (o:=0) (j:=0) rfl (rfl) (by omega) fun nv eG=>?_)
  refine qao (qaK eG (t:=96) (b:=au) (o:=0 + 0 * 1) (d:=12) kz (cs:=[.iface 147 (.agg #[.func (.func 131) #[] #[.pointer (some ⟨ab,0,none⟩)]])]) (v:=.iface 147 (.agg #[.func (.func 131) #[] #[.pointer (some ⟨ab,0,none⟩)]])) kz dR fun nw eH=>?_)
  refine qal [2] [] [(3,.p 5 0),(5,.v (.iface 147 (.agg #[.func (.func 131) #[] #[.pointer (some ⟨ab,0,none⟩)]]))),(7,.v (.slice (some ⟨au,0,none⟩) 1 1)),(8,.v (.int .i64 1)),(9,.v (.int .i64 0))] bd eH fun nx eI=>?_
  refine qag (qab ?_)
  refine qau [0,1,2] kz ?_
  refine qal [0,1] [2] [(3,.p 5 0),(7,.v (.slice (some ⟨au,0,none⟩) 1 1)),(8,.v (.int .i64 1)),(9,.v (.int .i64 0)),(13,.v (.iface 147 (.agg #[.func (.func 131) #[] #[.pointer (some ⟨ab,0,none⟩)]]))),(14,.p 5 0)] bd eI fun ny eJ=>?_
  refine qao (qcg eJ (t := 147) (v := (.agg #[.func (.func 131) #[] #[.pointer (some ⟨ab, 0, none⟩)]])) (v' := (.agg #[.func (.func 131) #[] #[.pointer (some ⟨ab, 0, none⟩)]])) (name := "pub-mailsack/pub/kmsg.apply") (f := 254) (vs := [.pointer (some ⟨ag, 0, none⟩)]) (d := 15) (n' := 8) kz (fun _ => by kernel_rfl) Tryz.call254 Tryz.func254 rfl Tryz.ntmps254 kz fun nz eK => ?_)
  have eL:=eK.recast 1 (.v (.pointer (some ⟨ag,0,none⟩))) (.p 5 0) rfl rfl (Nat.le_of_ble_eq_true (n:=6) rfl)
  refine qae [0] kz ?_
  refine qao (qbm bd eL (d:=2) (cs:=[.func (.func 131) #[] #[.pointer (some ⟨ab,0,none⟩)]]) kz fun ah nA nB mj ml bK cD eM=>?_)
  refine qag (qab ?_)
  refine qau [0,1,2,3] kz ?_
  refine qal [0,1,2] [3] [(5,.v (.func (.func 131) #[] #[.pointer (some ⟨ab,0,none⟩)])),(6,.p 5 0)] cD eM fun nC eN=>?_
  refine qao (qbf eN (f:=131) (vs:=[.pointer (some ⟨ag,0,none⟩),.pointer (some ⟨ab,0,none⟩)]) (d:=7) (n':=6) kz Tryz.call131 Tryz.func131 rfl Tryz.ntmps131 kz fun nD eO=>?_)
  have eP:=eO.recast 0 (.v (.pointer (some ⟨ag,0,none⟩))) (.p 5 0) rfl rfl (Nat.le_of_ble_eq_true (n:=6) rfl)
  have eQ:=eP.recast 1 (.v (.pointer (some ⟨ab,0,none⟩))) (.p 4 0) rfl rfl (Nat.le_of_ble_eq_true (n:=5) rfl)
  refine qau [0,1,2,3] kz ?_
  refine qal [0,1,2] [3] [(1,.p 4 0),(5,.p 5 0)] cD eQ fun nE eR=>?_
  refine qao (qaX cD eR (oi:=5) (cs:=[.pointer (some ⟨ab,0,none⟩)]) kz fun nF bL aA eS=>?_)
  refine qag ?_
  refine qb9 eS aA.cells (v:=.tuple #[]) kz ?_
  refine ⟨_,rfl,fun nG eT=>?_⟩
  have eU:=(EnvOk.places (tb':=[⟨b1,0,[.bool has,.string txt],true⟩,⟨ac,0,[.int .i16 (IntKind.i16.wrap v),.string ((aa.f 0).s),.slice ((aa.f 1).A) ((aa.f 1).l) ((aa.f 1).c),.map aa.m],true⟩,⟨af,0,[.bool has,.string txt],true⟩,⟨ae,0,[.pointer none],true⟩,⟨ab,0,[.string txt],true⟩,⟨ag,0,[.pointer (some ⟨ab,0,none⟩)],true⟩,⟨ah,0,[.func (.func 131) #[] #[.pointer (some ⟨ab,0,none⟩)]],true⟩]) eT (show Pl [⟨b1,0,[.bool has,.string txt],true⟩,⟨ac,0,[.int .i16 (IntKind.i16.wrap v),.string ((aa.f 0).s),.slice ((aa.f 1).A) ((aa.f 1).l) ((aa.f 1).c),.map aa.m],true⟩,⟨af,0,[.bool has,.string txt],true⟩,⟨ae,0,[.pointer none],true⟩,⟨ab,0,[.string txt],true⟩,⟨ag,0,[.pointer none],true⟩,⟨ah,0,[.func (.func 131) #[] #[.pointer (some ⟨ab,0,none⟩)]],true⟩] [⟨b1,0,[.bool has,.string txt],true⟩,⟨ac,0,[.int .i16 (IntKind.i16.wrap v),.string ((aa.f 0).s),.slice ((aa.f 1).A) ((aa.f 1).l) ((aa.f 1).c),.map aa.m],true⟩,⟨af,0,[.bool has,.string txt],true⟩,⟨ae,0,[.pointer none],true⟩,⟨ab,0,[.string txt],true⟩,⟨ag,0,[.pointer (some ⟨ab,0,none⟩)],true⟩,⟨ah,0,[.func (.func 131) #[] #[.pointer (some ⟨ab,0,none⟩)]],true⟩] from ⟨rfl,rfl,⟨rfl,rfl,⟨rfl,rfl,⟨rfl,rfl,⟨rfl,rfl,⟨rfl,rfl,⟨rfl,rfl,trivial⟩⟩⟩⟩⟩⟩⟩)).pk (env':=[(7,.v (.tuple #[])),(5,.v (.func (.func 131) #[] #[.pointer (some ⟨ab,0,none⟩)])),(6,.p 5 0)])
  refine qag ?_
  refine qb9 eU aA.cells (v:=.tuple #[]) kz ?_
  refine ⟨_,rfl,fun nH eV=>?_⟩
  have eW:=(EnvOk.places (tb':=[⟨b1,0,[.bool has,.string txt],true⟩,⟨ac,0,[.int .i16 (IntKind.i16.wrap v),.string ((aa.f 0).s),.slice ((aa.f 1).A) ((aa.f 1).l) ((aa.f 1).c),.map aa.m],true⟩,⟨af,0,[.bool has,.string txt],true⟩,⟨ae,0,[.pointer none],true⟩,⟨ab,0,[.string txt],true⟩,⟨ag,0,[.pointer (some ⟨ab,0,none⟩)],true⟩,⟨ah,0,[.func (.func 131) #[] #[.pointer (some ⟨ab,0,none⟩)]],true⟩]) eV (show Pl [⟨b1,0,[.bool has,.string txt],true⟩,⟨ac,0,[.int .i16 (IntKind.i16.wrap v),.string ((aa.f 0).s),.slice ((aa.f 1).A) ((aa.f 1).l) ((aa.f 1).c),.map aa.m],true⟩,⟨af,0,[.bool has,.string txt],true⟩,⟨ae,0,[.pointer none],true⟩,⟨ab,0,[.string txt],true⟩,⟨ag,0,[.pointer none],true⟩] [⟨b1,0,[.bool has,.string txt],true⟩,⟨ac,0,[.int .i16 (IntKind.i16.wrap v),.string ((aa.f 0).s),.slice ((aa.f 1).A) ((aa.f 1).l) ((aa.f 1).c),.map aa.m],true⟩,⟨af,0,[.bool has,.string txt],true⟩,⟨ae,0,[.pointer none],true⟩,⟨ab,0,[.string txt],true⟩,⟨ag,0,[.pointer (some ⟨ab,0,none⟩)],true⟩,⟨ah,0,[.func (.func 131) #[] #[.pointer (some ⟨ab,0,none⟩)]],true⟩] from ⟨rfl,rfl,⟨rfl,rfl,⟨rfl,rfl,⟨rfl,rfl,⟨rfl,rfl,⟨rfl,rfl,trivial⟩⟩⟩⟩⟩⟩)).pk (env':=[(15,.v (.tuple #[])),(3,.p 5 0),(7,.v (.slice (some ⟨au,0,none⟩) 1 1)),(8,.v (.int .i64 1)),(9,.v (.int .i64 0)),(13,.v (.iface 147 (.agg #[.func (.func 131) #[] #[.pointer (some ⟨ab,0,none⟩)]]))),(14,.p 5 0)])
  refine qag ?_
  refine qaE ?_
  refine qab ?_
  refine qau [0,1] kz ?_
  refine qal [0,1] [] [(3,.p 5 0),(7,.v (.slice (some ⟨au,0,none⟩) 1 1)),(8,.v (.int .i64 1)),(9,.v (.int .i64 1))] aA eW fun nI eX=>?_
  refine qag (qab ?_)
  refine qgh ?_
  refine qat [(3,.p 5 0),(7,.v (.slice (some ⟨au,0,none⟩) 1 1)),(8,.v (.int .i64 1)),(9,.v (.int .i64 1)),(10,.v (.bool false))] aA eX fun nJ cN=>?_
  refine wp_seq ?_
  refine qaw cN (b:=false) kz rfl ?_
  refine wp_exit ?_
  refine qaz ?_
  refine qaz ?_
  refine qaV ?_
  refine qab ?_
  refine qat [(2,.p 5 0)] aA cN fun nK eY=>?_
  refine wp_ret ?_
  refine qaG eY aA.cells (v:=.pointer (some ⟨ag,0,none⟩)) kz ?_
  refine ⟨_,rfl,fun nL eZ=>?_⟩
  have e9:=(EnvOk.places (tb':=[⟨b1,0,[.bool has,.string txt],true⟩,⟨ac,0,[.int .i16 (IntKind.i16.wrap v),.string ((aa.f 0).s),.slice ((aa.f 1).A) ((aa.f 1).l) ((aa.f 1).c),.map aa.m],true⟩,⟨af,0,[.bool has,.string txt],true⟩,⟨ae,0,[.pointer none],true⟩,⟨ab,0,[.string txt],true⟩,⟨ag,0,[.pointer (some ⟨ab,0,none⟩)],true⟩,⟨ah,0,[.func (.func 131) #[] #[.pointer (some ⟨ab,0,none⟩)]],true⟩]) eZ (show Pl [⟨b1,0,[.bool has,.string txt],true⟩,⟨ac,0,[.int .i16 (IntKind.i16.wrap v),.string ((aa.f 0).s),.slice ((aa.f 1).A) ((aa.f 1).l) ((aa.f 1).c),.map aa.m],true⟩,⟨af,0,[.bool has,.string txt],true⟩,⟨ae,0,[.pointer none],true⟩,⟨ab,0,[.string txt],true⟩] [⟨b1,0,[.bool has,.string txt],true⟩,⟨ac,0,[.int .i16 (IntKind.i16.wrap v),.string ((aa.f 0).s),.slice ((aa.f 1).A) ((aa.f 1).l) ((aa.f 1).c),.map aa.m],true⟩,⟨af,0,[.bool has,.string txt],true⟩,⟨ae,0,[.pointer none],true⟩,⟨ab,0,[.string txt],true⟩,⟨ag,0,[.pointer (some ⟨ab,0,none⟩)],true⟩,⟨ah,0,[.func (.func 131) #[] #[.pointer (some ⟨ab,0,none⟩)]],true⟩] from ⟨rfl,rfl,⟨rfl,rfl,⟨rfl,rfl,⟨rfl,rfl,⟨rfl,rfl,trivial⟩⟩⟩⟩⟩)).pk (env':=[(15,.v (.pointer (some ⟨ag,0,none⟩))),(1,.v (.iface 69 (.pointer (some ⟨ac,0,none⟩)))),(2,.v (.int .i32 num)),(12,.v (.string txt)),(13,.v (.iface 147 (.agg #[.func (.func 131) #[] #[.pointer (some ⟨ab,0,none⟩)]]))),(14,.v (.slice (some ⟨au,0,none⟩) 1 1))])
  have fa:=e9.recast 15 (.v (.pointer (some ⟨ag,0,none⟩))) (.p 5 0) rfl rfl (Nat.le_of_ble_eq_true (n:=6) rfl)
  have fb:=fa.pick (ks:=[1,2,12,13,14,15]) (env':=[(1,.v (.iface 69 (.pointer (some ⟨ac,0,none⟩)))),(2,.v (.int .i32 num)),(12,.v (.string txt)),(13,.v (.iface 147 (.agg #[.func (.func 131) #[] #[.pointer (some ⟨ab,0,none⟩)]]))),(14,.v (.slice (some ⟨au,0,none⟩) 1 1)),(15,.p 5 0)]) kz
  refine qal [5] [] [(1,.v (.iface 69 (.pointer (some ⟨ac,0,none⟩)))),(2,.v (.int .i32 num)),(7,.p 5 0)] aA fb fun nM fe=>?_
  refine qag (qab ?_)
  refine qae [0,1,2,3,4] kz ?_
  refine qal [0,1,2] [3,4] [(16,.p 5 0),(17,.v (.iface 69 (.pointer (some ⟨ac,0,none⟩)))),(18,.v (.int .i32 num))] aA fe fun nN ff=>?_
  refine qao (qbf ff (f:=91) (vs:=[.pointer (some ⟨ag,0,none⟩),.slice none 0 0,.iface 69 (.pointer (some ⟨ac,0,none⟩)),.int .i32 num]) (d:=19) (n':=60) kz Tryz.call91 Tryz.func91 rfl Tryz.ntmps91 kz fun nO fg=>?_)
  have fh:=fg.recast 0 (.v (.pointer (some ⟨ag,0,none⟩))) (.p 5 0) rfl rfl (Nat.le_of_ble_eq_true (n:=6) rfl)
  refine qat [(0,.p 5 0),(1,.v (.slice none 0 0)),(2,.v (.iface 69 (.pointer (some ⟨ac,0,none⟩)))),(3,.v (.int .i32 num))] aA fh fun nP fi=>?_
  refine qae [0,1,2,3] kz ?_
  refine qal [0] [1,2,3] [(0,.p 5 0),(2,.v (.iface 69 (.pointer (some ⟨ac,0,none⟩)))),(3,.v (.int .i32 num)),(12,.v (.slice none 0 0))] aA fi fun nQ fj=>?_
  have fk:=aA.addNil 5 1
  have bM:=aA.frNil 5 1
  refine qbw fk fj (k:=1) (e:=5) (size:=1) (len:=4) (cs:=[.int .u8 0,.int .u8 0,.int .u8 0,.int .u8 0]) (d1:=13) (d:=14) kz (t:=24) (bytes:=1) kz (fun _=>by kernel_rfl) rfl kz (by first | omega | (simp only [List.length_append,List.length_cons,List.length_nil,be_length,qbW]; omega) | (simp; omega)) fun aD aE nR nS bN fl ⟨_,fm⟩=>?_
  have fo:(⟨aD,aE,5,1,([]:Bs).length + 4,bc ([]:Bs) ++ [.int .u8 0,.int .u8 0,.int .u8 0,.int .u8 0]⟩:Rw) = brow aD aE 5 (([]:Bs) ++ [by8 0,by8 0,by8 0,by8 0]):=qa7 (by simp only [bc,List.map,qbG]; try rfl) rfl
  obtain ⟨aw,bO⟩:=fl.rowEq 1 [⟨some ⟨au,0,none⟩,1,96,1,1,[.iface 147 (.agg #[.func (.func 131) #[] #[.pointer (some ⟨ab,0,none⟩)]])]⟩,brow aD aE 5 (([]:Bs) ++ [by8 0,by8 0,by8 0,by8 0])] fo
  have fq:=EnvOk.pick fm (ks:=[0,2,3,12,14]) (env':=[(0,.p 5 0),(2,.v (.iface 69 (.pointer (some ⟨ac,0,none⟩)))),(3,.v (.int .i32 num)),(12,.v (.slice none 0 0)),(14,.v (.slice aD (([]:Bs).length + 4) aE))]) kz
  have fr:=fq.cast (env':=[(0,.p 5 0),(2,.v (.iface 69 (.pointer (some ⟨ac,0,none⟩)))),(3,.v (.int .i32 num)),(12,.v (.slice none 0 0)),(14,.v (.slice aD ((([]:Bs) ++ [by8 0,by8 0,by8 0,by8 0]).length) aE))]) (by simp only [List.length_append,List.length_cons,List.length_nil,Nat.zero_add])
  refine qal [3] [] [(0,.p 5 0),(1,.v (.slice aD ((([]:Bs) ++ [by8 0,by8 0,by8 0,by8 0]).length) aE)),(2,.v (.iface 69 (.pointer (some ⟨ac,0,none⟩)))),(3,.v (.int .i32 num))] aw fr fun nT ft=>?_
  refine qag (qab ?_)
  refine qae [0,1,2] kz ?_
  refine qal [0] [1,2] [(0,.p 5 0),(1,.v (.slice aD ((([]:Bs) ++ [by8 0,by8 0,by8 0,by8 0]).length) aE)),(2,.v (.iface 69 (.pointer (some ⟨ac,0,none⟩)))),(3,.v (.int .i32 num)),(15,.v (.iface 69 (.pointer (some ⟨ac,0,none⟩))))] aw ft fun nU fu=>?_
  refine qao (qcg fu (t := 69) (v := (.pointer (some ⟨ac, 0, none⟩))) (v' := (.pointer (some ⟨ac, 0, none⟩))) (name := "Key") (f := 252) (vs := []) (d := 16) (n' := 3) kz (fun _ => by kernel_rfl) Tryz.call252 Tryz.func252 rfl Tryz.ntmps252 kz fun nV fv => ?_)
  have fw:=fv.recast 0 (.v (.pointer (some ⟨ac,0,none⟩))) (.p 1 0) rfl rfl (Nat.le_of_ble_eq_true (n:=2) rfl)
  refine qat [] aw fw fun nW fx=>?_
  refine qat [(2,.v (.int .i16 83))] aw fx fun nX fy=>?_
  refine wp_ret ?_
  refine qaG fy aw.cells (v:=.int .i16 83) kz ?_
  refine ⟨_,rfl,fun nY fz=>?_⟩
  have fA:=(EnvOk.places (tb':=[⟨b1,0,[.bool has,.string txt],true⟩,⟨ac,0,[.int .i16 (IntKind.i16.wrap v),.string ((aa.f 0).s),.slice ((aa.f 1).A) ((aa.f 1).l) ((aa.f 1).c),.map aa.m],true⟩,⟨af,0,[.bool has,.string txt],true⟩,⟨ae,0,[.pointer none],true⟩,⟨ab,0,[.string txt],true⟩,⟨ag,0,[.pointer (some ⟨ab,0,none⟩)],true⟩,⟨ah,0,[.func (.func 131) #[] #[.pointer (some ⟨ab,0,none⟩)]],true⟩]) fz (show Pl [⟨b1,0,[.bool has,.string txt],true⟩,⟨ac,0,[.int .i16 (IntKind.i16.wrap v),.string ((aa.f 0).s),.slice ((aa.f 1).A) ((aa.f 1).l) ((aa.f 1).c),.map aa.m],true⟩,⟨af,0,[.bool has,.string txt],true⟩,⟨ae,0,[.pointer none],true⟩,⟨ab,0,[.string txt],true⟩,⟨ag,0,[.pointer (some ⟨ab,0,none⟩)],true⟩,⟨ah,0,[.func (.func 131) #[] #[.pointer (some ⟨ab,0,none⟩)]],true⟩] [⟨b1,0,[.bool has,.string txt],true⟩,⟨ac,0,[.int .i16 (IntKind.i16.wrap v),.string ((aa.f 0).s),.slice ((aa.f 1).A) ((aa.f 1).l) ((aa.f 1).c),.map aa.m],true⟩,⟨af,0,[.bool has,.string txt],true⟩,⟨ae,0,[.pointer none],true⟩,⟨ab,0,[.string txt],true⟩,⟨ag,0,[.pointer (some ⟨ab,0,none⟩)],true⟩,⟨ah,0,[.func (.func 131) #[] #[.pointer (some ⟨ab,0,none⟩)]],true⟩] from ⟨rfl,rfl,⟨rfl,rfl,⟨rfl,rfl,⟨rfl,rfl,⟨rfl,rfl,⟨rfl,rfl,⟨rfl,rfl,trivial⟩⟩⟩⟩⟩⟩⟩)).pk (env':=[(16,.v (.int .i16 83)),(0,.p 5 0),(1,.v (.slice aD ((([]:Bs) ++ [by8 0,by8 0,by8 0,by8 0]).length) aE)),(2,.v (.iface 69 (.pointer (some ⟨ac,0,none⟩)))),(3,.v (.int .i32 num)),(15,.v (.iface 69 (.pointer (some ⟨ac,0,none⟩))))])
  refine qal [2] [] [(0,.p 5 0),(1,.v (.slice aD ((([]:Bs) ++ [by8 0,by8 0,by8 0,by8 0]).length) aE)),(2,.v (.iface 69 (.pointer (some ⟨ac,0,none⟩)))),(3,.v (.int .i32 num)),(9,.v (.int .i16 83))] aw fA fun nZ fB=>?_
  refine qag (qab ?_)
  refine qae [0,1,2] kz ?_
  refine qal [0] [1,2] [(0,.p 5 0),(1,.v (.slice aD ((([]:Bs) ++ [by8 0,by8 0,by8 0,by8 0]).length) aE)),(2,.v (.iface 69 (.pointer (some ⟨ac,0,none⟩)))),(3,.v (.int .i32 num)),(9,.v (.int .i16 83)),(17,.v (.iface 69 (.pointer (some ⟨ac,0,none⟩))))] aw fB fun n0 fC=>?_
  refine qao (qcg fC (t := 69) (v := (.pointer (some ⟨ac, 0, none⟩))) (v' := (.pointer (some ⟨ac, 0, none⟩))) (name := "GetVersion") (f := 250) (vs := []) (d := 18) (n' := 7) kz (fun _ => by kernel_rfl) Tryz.call250 Tryz.func250 rfl Tryz.ntmps250 kz fun n4 fD => ?_)
  have fE:=fD.recast 0 (.v (.pointer (some ⟨ac,0,none⟩))) (.p 1 0) rfl rfl (Nat.le_of_ble_eq_true (n:=2) rfl)
  refine qat [(0,.p 1 0)] aw fE fun n5 fF=>?_
  refine qat [(2,.v (.int .i16 (IntKind.i16.wrap v)))] aw fF fun n8 fG=>?_
  refine wp_ret ?_
  refine qaG fG aw.cells (v:=.int .i16 (IntKind.i16.wrap v)) kz ?_
  refine ⟨_,rfl,fun oa fH=>?_⟩
  have fI:=(EnvOk.places (tb':=[⟨b1,0,[.bool has,.string txt],true⟩,⟨ac,0,[.int .i16 (IntKind.i16.wrap v),.string ((aa.f 0).s),.slice ((aa.f 1).A) ((aa.f 1).l) ((aa.f 1).c),.map aa.m],true⟩,⟨af,0,[.bool has,.string txt],true⟩,⟨ae,0,[.pointer none],true⟩,⟨ab,0,[.string txt],true⟩,⟨ag,0,[.pointer (some ⟨ab,0,none⟩)],true⟩,⟨ah,0,[.func (.func 131) #[] #[.pointer (some ⟨ab,0,none⟩)]],true⟩]) fH (show Pl [⟨b1,0,[.bool has,.string txt],true⟩,⟨ac,0,[.int .i16 (IntKind.i16.wrap v),.string ((aa.f 0).s),.slice ((aa.f 1).A) ((aa.f 1).l) ((aa.f 1).c),.map aa.m],true⟩,⟨af,0,[.bool has,.string txt],true⟩,⟨ae,0,[.pointer none],true⟩,⟨ab,0,[.string txt],true⟩,⟨ag,0,[.pointer (some ⟨ab,0,none⟩)],true⟩,⟨ah,0,[.func (.func 131) #[] #[.pointer (some ⟨ab,0,none⟩)]],true⟩] [⟨b1,0,[.bool has,.string txt],true⟩,⟨ac,0,[.int .i16 (IntKind.i16.wrap v),.string ((aa.f 0).s),.slice ((aa.f 1).A) ((aa.f 1).l) ((aa.f 1).c),.map aa.m],true⟩,⟨af,0,[.bool has,.string txt],true⟩,⟨ae,0,[.pointer none],true⟩,⟨ab,0,[.string txt],true⟩,⟨ag,0,[.pointer (some ⟨ab,0,none⟩)],true⟩,⟨ah,0,[.func (.func 131) #[] #[.pointer (some ⟨ab,0,none⟩)]],true⟩] from ⟨rfl,rfl,⟨rfl,rfl,⟨rfl,rfl,⟨rfl,rfl,⟨rfl,rfl,⟨rfl,rfl,⟨rfl,rfl,trivial⟩⟩⟩⟩⟩⟩⟩)).pk (env':=[(18,.v (.int .i16 (IntKind.i16.wrap v))),(0,.p 5 0),(1,.v (.slice aD ((([]:Bs) ++ [by8 0,by8 0,by8 0,by8 0]).length) aE)),(2,.v (.iface 69 (.pointer (some ⟨ac,0,none⟩)))),(3,.v (.int .i32 num)),(9,.v (.int .i16 83)),(17,.v (.iface 69 (.pointer (some ⟨ac,0,none⟩))))])
  refine qal [2] [] [(0,.p 5 0),(1,.v (.slice aD ((([]:Bs) ++ [by8 0,by8 0,by8 0,by8 0]).length) aE)),(2,.v (.iface 69 (.pointer (some ⟨ac,0,none⟩)))),(3,.v (.int .i32 num)),(9,.v (.int .i16 83)),(10,.v (.int .i16 (IntKind.i16.wrap v)))] aw fI fun od fJ=>?_
  refine qag (qab ?_)
  refine qae [0,1,2,3] kz ?_
  refine qal [0,1] [2,3] [(0,.p 5 0),(2,.v (.iface 69 (.pointer (some ⟨ac,0,none⟩)))),(3,.v (.int .i32 num)),(9,.v (.int .i16 83)),(10,.v (.int .i16 (IntKind.i16.wrap v))),(19,.v (.slice aD ((([]:Bs) ++ [by8 0,by8 0,by8 0,by8 0]).length) aE)),(20,.v (.int .i16 83))] aw fJ fun oe fK=>?_
  refine qao (qan fK (f:=132) (vs:=[.slice aD ((([]:Bs) ++ [by8 0,by8 0,by8 0,by8 0]).length) aE,.int .i16 83]) (d:=21) kz Tryz.call132 (qcx aD aE (([]:Bs) ++ [by8 0,by8 0,by8 0,by8 0]) 83 _ (aw.own 1 _ rfl) (by first | omega | (simp only [List.length_append,List.length_cons,List.length_nil,be_length,qbW]; omega) | (simp; omega))) ?_)
  rintro e_ og ⟨bw,bx,rfl,fL,cO,cP⟩
  refine ⟨_,rfl,fun oh fM=>?_⟩
  have bP:WOk _ _ _ _ [⟨some ⟨au,0,none⟩,1,96,1,1,[.iface 147 (.agg #[.func (.func 131) #[] #[.pointer (some ⟨ab,0,none⟩)]])]⟩,brow bw bx 5 (([]:Bs) ++ [by8 0,by8 0,by8 0,by8 0] ++ be 2 83)]:=aw.grow (k:=1) rfl cO fL cP
  have bQ:Fr _ [⟨b1,0,[.bool has,.string txt],true⟩,⟨ac,0,[.int .i16 (IntKind.i16.wrap v),.string ((aa.f 0).s),.slice ((aa.f 1).A) ((aa.f 1).l) ((aa.f 1).c),.map aa.m],true⟩,⟨af,0,[.bool has,.string txt],true⟩,⟨ae,0,[.pointer none],true⟩,⟨ab,0,[.string txt],true⟩,⟨ag,0,[.pointer (some ⟨ab,0,none⟩)],true⟩,⟨ah,0,[.func (.func 131) #[] #[.pointer (some ⟨ab,0,none⟩)]],true⟩] [⟨some ⟨au,0,none⟩,1,96,1,1,[.iface 147 (.agg #[.func (.func 131) #[] #[.pointer (some ⟨ab,0,none⟩)]])]⟩,brow aD aE 5 (([]:Bs) ++ [by8 0,by8 0,by8 0,by8 0])] _ [⟨b1,0,[.bool has,.string txt],true⟩,⟨ac,0,[.int .i16 (IntKind.i16.wrap v),.string ((aa.f 0).s),.slice ((aa.f 1).A) ((aa.f 1).l) ((aa.f 1).c),.map aa.m],true⟩,⟨af,0,[.bool has,.string txt],true⟩,⟨ae,0,[.pointer none],true⟩,⟨ab,0,[.string txt],true⟩,⟨ag,0,[.pointer (some ⟨ab,0,none⟩)],true⟩,⟨ah,0,[.func (.func 131) #[] #[.pointer (some ⟨ab,0,none⟩)]],true⟩] [⟨some ⟨au,0,none⟩,1,96,1,1,[.iface 147 (.agg #[.func (.func 131) #[] #[.pointer (some ⟨ab,0,none⟩)]])]⟩,brow bw bx 5 (([]:Bs) ++ [by8 0,by8 0,by8 0,by8 0] ++ be 2 83)]:=Fr.grow _ (k:=1) (r':=(brow bw bx 5 (([]:Bs) ++ [by8 0,by8 0,by8 0,by8 0] ++ be 2 83))) rfl cO cP
  refine qal [3] [] [(0,.p 5 0),(1,.v (.slice bw ((([]:Bs) ++ [by8 0,by8 0,by8 0,by8 0] ++ be 2 83).length) bx)),(2,.v (.iface 69 (.pointer (some ⟨ac,0,none⟩)))),(3,.v (.int .i32 num)),(9,.v (.int .i16 83)),(10,.v (.int .i16 (IntKind.i16.wrap v)))] bP fM fun ol fN=>?_
  refine qag (qab ?_)
  refine qae [0,1,2,3] kz ?_
  refine qal [0,1] [2,3] [(0,.p 5 0),(2,.v (.iface 69 (.pointer (some ⟨ac,0,none⟩)))),(3,.v (.int .i32 num)),(9,.v (.int .i16 83)),(10,.v (.int .i16 (IntKind.i16.wrap v))),(22,.v (.slice bw ((([]:Bs) ++ [by8 0,by8 0,by8 0,by8 0] ++ be 2 83).length) bx)),(23,.v (.int .i16 (IntKind.i16.wrap v)))] bP fN fun om fO=>?_
  refine qao (qan fO (f:=132) (vs:=[.slice bw ((([]:Bs) ++ [by8 0,by8 0,by8 0,by8 0] ++ be 2 83).length) bx,.int .i16 (IntKind.i16.wrap v)]) (d:=24) kz Tryz.call132 (qcx bw bx (([]:Bs) ++ [by8 0,by8 0,by8 0,by8 0] ++ be 2 83) (IntKind.i16.wrap v) _ (bP.own 1 _ rfl) (by first | omega | (simp only [List.length_append,List.length_cons,List.length_nil,be_length,qbW]; omega) | (simp; omega))) ?_)
  rintro e_ oq ⟨bz,bA,rfl,fP,cQ,cR⟩
  refine ⟨_,rfl,fun ot fQ=>?_⟩
  have bR:WOk _ _ _ _ [⟨some ⟨au,0,none⟩,1,96,1,1,[.iface 147 (.agg #[.func (.func 131) #[] #[.pointer (some ⟨ab,0,none⟩)]])]⟩,brow bz bA 5 (([]:Bs) ++ [by8 0,by8 0,by8 0,by8 0] ++ be 2 83 ++ be 2 (IntKind.i16.wrap v))]:=bP.grow (k:=1) rfl cQ fP cR
  have bS:Fr _ [⟨b1,0,[.bool has,.string txt],true⟩,⟨ac,0,[.int .i16 (IntKind.i16.wrap v),.string ((aa.f 0).s),.slice ((aa.f 1).A) ((aa.f 1).l) ((aa.f 1).c),.map aa.m],true⟩,⟨af,0,[.bool has,.string txt],true⟩,⟨ae,0,[.pointer none],true⟩,⟨ab,0,[.string txt],true⟩,⟨ag,0,[.pointer (some ⟨ab,0,none⟩)],true⟩,⟨ah,0,[.func (.func 131) #[] #[.pointer (some ⟨ab,0,none⟩)]],true⟩] [⟨some ⟨au,0,none⟩,1,96,1,1,[.iface 147 (.agg #[.func (.func 131) #[] #[.pointer (some ⟨ab,0,none⟩)]])]⟩,brow bw bx 5 (([]:Bs) ++ [by8 0,by8 0,by8 0,by8 0] ++ be 2 83)] _ [⟨b1,0,[.bool has,.string txt],true⟩,⟨ac,0,[.int .i16 (IntKind.i16.wrap v),.string ((aa.f 0).s),.slice ((aa.f 1).A) ((aa.f 1).l) ((aa.f 1).c),.map aa.m],true⟩,⟨af,0,[.bool has,.string txt],true⟩,⟨ae,0,[.pointer none],true⟩,⟨ab,0,[.string txt],true⟩,⟨ag,0,[.pointer (some ⟨ab,0,none⟩)],true⟩,⟨ah,0,[.func (.func 131) #[] #[.pointer (some ⟨ab,0,none⟩)]],true⟩] [⟨some ⟨au,0,none⟩,1,96,1,1,[.iface 147 (.agg #[.func (.func 131) #[] #[.pointer (some ⟨ab,0,none⟩)]])]⟩,brow bz bA 5 (([]:Bs) ++ [by8 0,by8 0,by8 0,by8 0] ++ be 2 83 ++ be 2 (IntKind.i16.wrap v))]:=Fr.grow _ (k:=1) (r':=(brow bz bA 5 (([]:Bs) ++ [by8 0,by8 0,by8 0,by8 0] ++ be 2 83 ++ be 2 (IntKind.i16.wrap v)))) rfl cQ cR
  refine qal [3] [] [(0,.p 5 0),(1,.v (.slice bz ((([]:Bs) ++ [by8 0,by8 0,by8 0,by8 0] ++ be 2 83 ++ be 2 (IntKind.i16.wrap v)).length) bA)),(2,.v (.iface 69 (.pointer (some ⟨ac,0,none⟩)))),(3,.v (.int .i32 num)),(9,.v (.int .i16 83)),(10,.v (.int .i16 (IntKind.i16.wrap v)))] bR fQ fun ou fR=>?_
  refine qag (qab ?_)
  refine qae [0,1,2,3] kz ?_
  refine qal [0,1] [2,3] [(0,.p 5 0),(2,.v (.iface 69 (.pointer (some ⟨ac,0,none⟩)))),(9,.v (.int .i16 83)),(10,.v (.int .i16 (IntKind.i16.wrap v))),(25,.v (.slice bz ((([]:Bs) ++ [by8 0,by8 0,by8 0,by8 0] ++ be 2 83 ++ be 2 (IntKind.i16.wrap v)).length) bA)),(26,.v (.int .i32 num))] bR fR fun ov fS=>?_
  refine qao (qan fS (f:=133) (vs:=[.slice bz ((([]:Bs) ++ [by8 0,by8 0,by8 0,by8 0] ++ be 2 83 ++ be 2 (IntKind.i16.wrap v)).length) bA,.int .i32 num]) (d:=27) kz Tryz.call133 (qcN bz bA (([]:Bs) ++ [by8 0,by8 0,by8 0,by8 0] ++ be 2 83 ++ be 2 (IntKind.i16.wrap v)) num _ (bR.own 1 _ rfl) (by first | omega | (simp only [List.length_append,List.length_cons,List.length_nil,be_length,qbW]; omega) | (simp; omega))) ?_)
  rintro e_ ow ⟨aK,aL,rfl,fT,cS,cT⟩
  refine ⟨_,rfl,fun ox fU=>?_⟩
  have aM:WOk _ _ _ _ [⟨some ⟨au,0,none⟩,1,96,1,1,[.iface 147 (.agg #[.func (.func 131) #[] #[.pointer (some ⟨ab,0,none⟩)]])]⟩,brow aK aL 5 (([]:Bs) ++ [by8 0,by8 0,by8 0,by8 0] ++ be 2 83 ++ be 2 (IntKind.i16.wrap v) ++ be 4 num)]:=bR.grow (k:=1) rfl cS fT cT
  have bT:Fr _ [⟨b1,0,[.bool has,.string txt],true⟩,⟨ac,0,[.int .i16 (IntKind.i16.wrap v),.string ((aa.f 0).s),.slice ((aa.f 1).A) ((aa.f 1).l) ((aa.f 1).c),.map aa.m],true⟩,⟨af,0,[.bool has,.string txt],true⟩,⟨ae,0,[.pointer none],true⟩,⟨ab,0,[.string txt],true⟩,⟨ag,0,[.pointer (some ⟨ab,0,none⟩)],true⟩,⟨ah,0,[.func (.func 131) #[] #[.pointer (some ⟨ab,0,none⟩)]],true⟩] [⟨some ⟨au,0,none⟩,1,96,1,1,[.iface 147 (.agg #[.func (.func 131) #[] #[.pointer (some ⟨ab,0,none⟩)]])]⟩,brow bz bA 5 (([]:Bs) ++ [by8 0,by8 0,by8 0,by8 0] ++ be 2 83 ++ be 2 (IntKind.i16.wrap v))] _ [⟨b1,0,[.bool has,.string txt],true⟩,⟨ac,0,[.int .i16 (IntKind.i16.wrap v),.string ((aa.f 0).s),.slice ((aa.f 1).A) ((aa.f 1).l) ((aa.f 1).c),.map aa.m],true⟩,⟨af,0,[.bool has,.string txt],true⟩,⟨ae,0,[.pointer none],true⟩,⟨ab,0,[.string txt],true⟩,⟨ag,0,[.pointer (some ⟨ab,0,none⟩)],true⟩,⟨ah,0,[.func (.func 131) #[] #[.pointer (some ⟨ab,0,none⟩)]],true⟩] [⟨some ⟨au,0,none⟩,1,96,1,1,[.iface 147 (.agg #[.func (.func 131) #[] #[.pointer (some ⟨ab,0,none⟩)]])]⟩,brow aK aL 5 (([]:Bs) ++ [by8 0,by8 0,by8 0,by8 0] ++ be 2 83 ++ be 2 (IntKind.i16.wrap v) ++ be 4 num)]:=Fr.grow _ (k:=1) (r':=(brow aK aL 5 (([]:Bs) ++ [by8 0,by8 0,by8 0,by8 0] ++ be 2 83 ++ be 2 (IntKind.i16.wrap v) ++ be 4 num))) rfl cS cT
  refine qal [3] [] [(0,.p 5 0),(1,.v (.slice aK ((([]:Bs) ++ [by8 0,by8 0,by8 0,by8 0] ++ be 2 83 ++ be 2 (IntKind.i16.wrap v) ++ be 4 num).length) aL)),(2,.v (.iface 69 (.pointer (some ⟨ac,0,none⟩)))),(9,.v (.int .i16 83)),(10,.v (.int .i16 (IntKind.i16.wrap v)))] aM fU fun oy fV=>?_
  refine qag (qab ?_)
  refine wp_seq ?_
  refine qat [(0,.p 5 0),(1,.v (.slice aK ((([]:Bs) ++ [by8 0,by8 0,by8 0,by8 0] ++ be 2 83 ++ be 2 (IntKind.i16.wrap v) ++ be 4 num).length) aL)),(2,.v (.iface 69 (.pointer (some ⟨ac,0,none⟩)))),(33,.v (.bool false))] aM fV fun oz cU=>?_
  refine qaw cU (b:=false) kz rfl ?_
  refine wp_skip ?_
  refine qab ?_
  refine qae [0,1,2,3,4,5,6] kz ?_
  refine qal [0,1,2,3,4] [5,6] [(2,.v (.iface 69 (.pointer (some ⟨ac,0,none⟩)))),(35,.v (.slice aK ((([]:Bs) ++ [by8 0,by8 0,by8 0,by8 0] ++ be 2 83 ++ be 2 (IntKind.i16.wrap v) ++ be 4 num).length) aL)),(39,.v (.pointer (some ⟨ab,0,none⟩)))] aM cU fun oA fW=>?_
  refine qao (qbf fW (f:=134) (vs:=[.slice aK ((([]:Bs) ++ [by8 0,by8 0,by8 0,by8 0] ++ be 2 83 ++ be 2 (IntKind.i16.wrap v) ++ be 4 num).length) aL,.pointer (some ⟨ab,0,none⟩)]) (d:=40) (n':=14) kz Tryz.call134 Tryz.func134 rfl Tryz.ntmps134 kz fun oB fX=>?_)
  refine qat [(0,.v (.slice aK ((([]:Bs) ++ [by8 0,by8 0,by8 0,by8 0] ++ be 2 83 ++ be 2 (IntKind.i16.wrap v) ++ be 4 num).length) aL)),(1,.v (.pointer (some ⟨ab,0,none⟩)))] aM fX fun oC fY=>?_
  refine wp_seq ?_
  refine qat [(0,.v (.slice aK ((([]:Bs) ++ [by8 0,by8 0,by8 0,by8 0] ++ be 2 83 ++ be 2 (IntKind.i16.wrap v) ++ be 4 num).length) aL)),(1,.v (.pointer (some ⟨ab,0,none⟩))),(6,.v (.bool false))] aM fY fun oD cV=>?_
  refine qaw cV (b:=false) kz rfl ?_
  refine wp_skip ?_
  refine qab ?_
  refine qae [0,1,2,3,4,5] kz ?_
  refine qal [0,1,2] [3,4,5] [(9,.v (.slice aK ((([]:Bs) ++ [by8 0,by8 0,by8 0,by8 0] ++ be 2 83 ++ be 2 (IntKind.i16.wrap v) ++ be 4 num).length) aL)),(11,.v (.pointer (some ⟨ab,0,none⟩)))] aM cV fun oE fZ=>?_
  have dS:=(Str.of aM 4 rfl).atF.at_
  refine qao (qaK fZ (t:=9) (b:=ab) (o:=0) (d:=12) kz (cs:=[.string txt]) (v:=.string txt) kz dS fun oF f5=>?_)
  refine qao (qan f5 (f:=156) (vs:=[.slice aK ((([]:Bs) ++ [by8 0,by8 0,by8 0,by8 0] ++ be 2 83 ++ be 2 (IntKind.i16.wrap v) ++ be 4 num).length) aL,.string txt]) (d:=13) kz Tryz.call156 (qey txt aK aL (([]:Bs) ++ [by8 0,by8 0,by8 0,by8 0] ++ be 2 83 ++ be 2 (IntKind.i16.wrap v) ++ be 4 num) _ (aM.own 1 _ rfl) (by first | omega | (simp only [List.length_append,List.length_cons,List.length_nil,be_length,qbW]; omega) | (simp; omega))) ?_)
  rintro e_ oG ⟨aF,aG,rfl,f7,cW,cX⟩
  refine ⟨_,rfl,fun oH f8=>?_⟩
  have ax:WOk _ _ _ _ [⟨some ⟨au,0,none⟩,1,96,1,1,[.iface 147 (.agg #[.func (.func 131) #[] #[.pointer (some ⟨ab,0,none⟩)]])]⟩,brow aF aG 5 ((([]:Bs) ++ [by8 0,by8 0,by8 0,by8 0] ++ be 2 83 ++ be 2 (IntKind.i16.wrap v) ++ be 4 num) ++ (be 2 txt.size ++ sb txt))]:=aM.grow (k:=1) rfl cW f7 cX
  have bU:=Fr.grow [⟨b1,0,[.bool has,.string txt],true⟩,⟨ac,0,[.int .i16 (IntKind.i16.wrap v),.string ((aa.f 0).s),.slice ((aa.f 1).A) ((aa.f 1).l) ((aa.f 1).c),.map aa.m],true⟩,⟨af,0,[.bool has,.string txt],true⟩,⟨ae,0,[.pointer none],true⟩,⟨ab,0,[.string txt],true⟩,⟨ag,0,[.pointer (some ⟨ab,0,none⟩)],true⟩,⟨ah,0,[.func (.func 131) #[] #[.pointer (some ⟨ab,0,none⟩)]],true⟩] (k:=1) (rs:=[⟨some ⟨au,0,none⟩,1,96,1,1,[.iface 147 (.agg #[.func (.func 131) #[] #[.pointer (some ⟨ab,0,none⟩)]])]⟩,brow aK aL 5 (([]:Bs) ++ [by8 0,by8 0,by8 0,by8 0] ++ be 2 83 ++ be 2 (IntKind.i16.wrap v) ++ be 4 num)]) (r':=(brow aF aG 5 ((([]:Bs) ++ [by8 0,by8 0,by8 0,by8 0] ++ be 2 83 ++ be 2 (IntKind.i16.wrap v) ++ be 4 num) ++ (be 2 txt.size ++ sb txt)))) rfl cW cX
  refine qal [5] [] [(4,.v (.slice aF (((([]:Bs) ++ [by8 0,by8 0,by8 0,by8 0] ++ be 2 83 ++ be 2 (IntKind.i16.wrap v) ++ be 4 num) ++ (be 2 txt.size ++ sb txt)).length) aG))] ax f8 fun oI ga=>?_
  refine qag (qab ?_)
  refine wp_ret ?_
  refine qaG ga ax.cells (v:=.slice aF (((([]:Bs) ++ [by8 0,by8 0,by8 0,by8 0] ++ be 2 83 ++ be 2 (IntKind.i16.wrap v) ++ be 4 num) ++ (be 2 txt.size ++ sb txt)).length) aG) kz ?_
  refine ⟨_,rfl,fun oJ gb=>?_⟩
  have gc:=(EnvOk.places (tb':=[⟨b1,0,[.bool has,.string txt],true⟩,⟨ac,0,[.int .i16 (IntKind.i16.wrap v),.string ((aa.f 0).s),.slice ((aa.f 1).A) ((aa.f 1).l) ((aa.f 1).c),.map aa.m],true⟩,⟨af,0,[.bool has,.string txt],true⟩,⟨ae,0,[.pointer none],true⟩,⟨ab,0,[.string txt],true⟩,⟨ag,0,[.pointer (some ⟨ab,0,none⟩)],true⟩,⟨ah,0,[.func (.func 131) #[] #[.pointer (some ⟨ab,0,none⟩)]],true⟩]) gb (show Pl [⟨b1,0,[.bool has,.string txt],true⟩,⟨ac,0,[.int .i16 (IntKind.i16.wrap v),.string ((aa.f 0).s),.slice ((aa.f 1).A) ((aa.f 1).l) ((aa.f 1).c),.map aa.m],true⟩,⟨af,0,[.bool has,.string txt],true⟩,⟨ae,0,[.pointer none],true⟩,⟨ab,0,[.string txt],true⟩,⟨ag,0,[.pointer (some ⟨ab,0,none⟩)],true⟩,⟨ah,0,[.func (.func 131) #[] #[.pointer (some ⟨ab,0,none⟩)]],true⟩] [⟨b1,0,[.bool has,.string txt],true⟩,⟨ac,0,[.int .i16 (IntKind.i16.wrap v),.string ((aa.f 0).s),.slice ((aa.f 1).A) ((aa.f 1).l) ((aa.f 1).c),.map aa.m],true⟩,⟨af,0,[.bool has,.string txt],true⟩,⟨ae,0,[.pointer none],true⟩,⟨ab,0,[.string txt],true⟩,⟨ag,0,[.pointer (some ⟨ab,0,none⟩)],true⟩,⟨ah,0,[.func (.func 131) #[] #[.pointer (some ⟨ab,0,none⟩)]],true⟩] from ⟨rfl,rfl,⟨rfl,rfl,⟨rfl,rfl,⟨rfl,rfl,⟨rfl,rfl,⟨rfl,rfl,⟨rfl,rfl,trivial⟩⟩⟩⟩⟩⟩⟩)).pk (env':=[(40,.v (.slice aF (((([]:Bs) ++ [by8 0,by8 0,by8 0,by8 0] ++ be 2 83 ++ be 2 (IntKind.i16.wrap v) ++ be 4 num) ++ (be 2 txt.size ++ sb txt)).length) aG)),(2,.v (.iface 69 (.pointer (some ⟨ac,0,none⟩)))),(35,.v (.slice aK ((([]:Bs) ++ [by8 0,by8 0,by8 0,by8 0] ++ be 2 83 ++ be 2 (IntKind.i16.wrap v) ++ be 4 num).length) aL)),(39,.v (.pointer (some ⟨ab,0,none⟩)))])
  refine qal [6] [] [(1,.v (.slice aF (((([]:Bs) ++ [by8 0,by8 0,by8 0,by8 0] ++ be 2 83 ++ be 2 (IntKind.i16.wrap v) ++ be 4 num) ++ (be 2 txt.size ++ sb txt)).length) aG)),(2,.v (.iface 69 (.pointer (some ⟨ac,0,none⟩))))] ax gc fun oK gd=>?_
  refine qag (qab ?_)
  refine wp_seq ?_
  refine qae [0,1] kz ?_
  refine qal [0] [1] [(1,.v (.slice aF (((([]:Bs) ++ [by8 0,by8 0,by8 0,by8 0] ++ be 2 83 ++ be 2 (IntKind.i16.wrap v) ++ be 4 num) ++ (be 2 txt.size ++ sb txt)).length) aG)),(2,.v (.iface 69 (.pointer (some ⟨ac,0,none⟩)))),(41,.v (.iface 69 (.pointer (some ⟨ac,0,none⟩))))] ax gd fun oL ge=>?_
  refine qao (qcg ge (t := 69) (v := (.pointer (some ⟨ac, 0, none⟩))) (v' := (.pointer (some ⟨ac, 0, none⟩))) (name := "IsFlexible") (f := 251) (vs := []) (d := 42) (n' := 8) kz (fun _ => by kernel_rfl) Tryz.call251 Tryz.func251 rfl Tryz.ntmps251 kz fun oM gg => ?_)
  have gh:=gg.recast 0 (.v (.pointer (some ⟨ac,0,none⟩))) (.p 1 0) rfl rfl (Nat.le_of_ble_eq_true (n:=2) rfl)
  refine qat [(0,.p 1 0)] ax gh fun oN gi=>?_
  refine qat [(2,.v (.bool (decide ((IntKind.i16.wrap v) ≥ 0))))] ax gi fun oO gj=>?_
  refine wp_ret ?_
  refine qaG gj ax.cells (v:=.bool (decide ((IntKind.i16.wrap v) ≥ 0))) kz ?_
  refine ⟨_,rfl,fun oP gk=>?_⟩
  have cE:=(EnvOk.places (tb':=[⟨b1,0,[.bool has,.string txt],true⟩,⟨ac,0,[.int .i16 (IntKind.i16.wrap v),.string ((aa.f 0).s),.slice ((aa.f 1).A) ((aa.f 1).l) ((aa.f 1).c),.map aa.m],true⟩,⟨af,0,[.bool has,.string txt],true⟩,⟨ae,0,[.pointer none],true⟩,⟨ab,0,[.string txt],true⟩,⟨ag,0,[.pointer (some ⟨ab,0,none⟩)],true⟩,⟨ah,0,[.func (.func 131) #[] #[.pointer (some ⟨ab,0,none⟩)]],true⟩]) gk (show Pl [⟨b1,0,[.bool has,.string txt],true⟩,⟨ac,0,[.int .i16 (IntKind.i16.wrap v),.string ((aa.f 0).s),.slice ((aa.f 1).A) ((aa.f 1).l) ((aa.f 1).c),.map aa.m],true⟩,⟨af,0,[.bool has,.string txt],true⟩,⟨ae,0,[.pointer none],true⟩,⟨ab,0,[.string txt],true⟩,⟨ag,0,[.pointer (some ⟨ab,0,none⟩)],true⟩,⟨ah,0,[.func (.func 131) #[] #[.pointer (some ⟨ab,0,none⟩)]],true⟩] [⟨b1,0,[.bool has,.string txt],true⟩,⟨ac,0,[.int .i16 (IntKind.i16.wrap v),.string ((aa.f 0).s),.slice ((aa.f 1).A) ((aa.f 1).l) ((aa.f 1).c),.map aa.m],true⟩,⟨af,0,[.bool has,.string txt],true⟩,⟨ae,0,[.pointer none],true⟩,⟨ab,0,[.string txt],true⟩,⟨ag,0,[.pointer (some ⟨ab,0,none⟩)],true⟩,⟨ah,0,[.func (.func 131) #[] #[.pointer (some ⟨ab,0,none⟩)]],true⟩] from ⟨rfl,rfl,⟨rfl,rfl,⟨rfl,rfl,⟨rfl,rfl,⟨rfl,rfl,⟨rfl,rfl,⟨rfl,rfl,trivial⟩⟩⟩⟩⟩⟩⟩)).pk (env':=[(42,.v (.bool (decide ((IntKind.i16.wrap v) ≥ 0)))),(1,.v (.slice aF (((([]:Bs) ++ [by8 0,by8 0,by8 0,by8 0] ++ be 2 83 ++ be 2 (IntKind.i16.wrap v) ++ be 4 num) ++ (be 2 txt.size ++ sb txt)).length) aG)),(2,.v (.iface 69 (.pointer (some ⟨ac,0,none⟩)))),(41,.v (.iface 69 (.pointer (some ⟨ac,0,none⟩))))])
  refine qag (qab ?_)
  refine qaC cE (b:=decide ((IntKind.i16.wrap v) ≥ 0)) kz (fun bf=>?_) (fun bf=>?_)
  ·
   have mn:=of_decide_eq_true bf
   refine qat [(1,.v (.slice aF (((([]:Bs) ++ [by8 0,by8 0,by8 0,by8 0] ++ be 2 83 ++ be 2 (IntKind.i16.wrap v) ++ be 4 num) ++ (be 2 txt.size ++ sb txt)).length) aG)),(2,.v (.iface 69 (.pointer (some ⟨ac,0,none⟩)))),(11,.v (.int .u8 0))] ax cE fun oQ gl=>?_
   refine qae [0,1,2,3,4] kz ?_
   refine qal [0,1] [2,3,4] [(2,.v (.iface 69 (.pointer (some ⟨ac,0,none⟩)))),(11,.v (.int .u8 0)),(43,.v (.slice aF (((([]:Bs) ++ [by8 0,by8 0,by8 0,by8 0] ++ be 2 83 ++ be 2 (IntKind.i16.wrap v) ++ be 4 num) ++ (be 2 txt.size ++ sb txt)).length) aG)),(44,.v (.int .u8 0))] ax gl fun oR gm=>?_
   refine qbw ax gm (k:=1) (e:=5) (size:=1) (len:=1) (cs:=[.int .u8 0]) (d1:=45) (d:=46) kz (t:=24) (bytes:=1) kz (fun _=>by kernel_rfl) rfl kz (by first | omega | (simp only [List.length_append,List.length_cons,List.length_nil,be_length,qbW]; omega) | (simp; omega)) fun bg bh oS oT cY gn ⟨_,gp⟩=>?_
   have gq:(⟨bg,bh,5,1,((([]:Bs) ++ [by8 0,by8 0,by8 0,by8 0] ++ be 2 83 ++ be 2 (IntKind.i16.wrap v) ++ be 4 num) ++ (be 2 txt.size ++ sb txt)).length + 1,bc ((([]:Bs) ++ [by8 0,by8 0,by8 0,by8 0] ++ be 2 83 ++ be 2 (IntKind.i16.wrap v) ++ be 4 num) ++ (be 2 txt.size ++ sb txt)) ++ [.int .u8 0]⟩:Rw) = brow bg bh 5 ((([]:Bs) ++ [by8 0,by8 0,by8 0,by8 0] ++ be 2 83 ++ be 2 (IntKind.i16.wrap v) ++ be 4 num) ++ (be 2 txt.size ++ sb txt) ++ [by8 0]):=qa7 (by simp only [bc,List.map,qbG]; try rfl) rfl
   obtain ⟨bt,cZ⟩:=gn.rowEq 1 [⟨some ⟨au,0,none⟩,1,96,1,1,[.iface 147 (.agg #[.func (.func 131) #[] #[.pointer (some ⟨ab,0,none⟩)]])]⟩,brow bg bh 5 ((([]:Bs) ++ [by8 0,by8 0,by8 0,by8 0] ++ be 2 83 ++ be 2 (IntKind.i16.wrap v) ++ be 4 num) ++ (be 2 txt.size ++ sb txt) ++ [by8 0])] gq
   have gt:=EnvOk.pick gp (ks:=[2,11,43,44,46]) (env':=[(2,.v (.iface 69 (.pointer (some ⟨ac,0,none⟩)))),(11,.v (.int .u8 0)),(43,.v (.slice aF (((([]:Bs) ++ [by8 0,by8 0,by8 0,by8 0] ++ be 2 83 ++ be 2 (IntKind.i16.wrap v) ++ be 4 num) ++ (be 2 txt.size ++ sb txt)).length) aG)),(44,.v (.int .u8 0)),(46,.v (.slice bg (((([]:Bs) ++ [by8 0,by8 0,by8 0,by8 0] ++ be 2 83 ++ be 2 (IntKind.i16.wrap v) ++ be 4 num) ++ (be 2 txt.size ++ sb txt)).length + 1) bh))]) kz
   have gv:=gt.cast (env':=[(2,.v (.iface 69 (.pointer (some ⟨ac,0,none⟩)))),(11,.v (.int .u8 0)),(43,.v (.slice aF (((([]:Bs) ++ [by8 0,by8 0,by8 0,by8 0] ++ be 2 83 ++ be 2 (IntKind.i16.wrap v) ++ be 4 num) ++ (be 2 txt.size ++ sb txt)).length) aG)),(44,.v (.int .u8 0)),(46,.v (.slice bg (((([]:Bs) ++ [by8 0,by8 0,by8 0,by8 0] ++ be 2 83 ++ be 2 (IntKind.i16.wrap v) ++ be 4 num) ++ (be 2 txt.size ++ sb txt) ++ [by8 0]).length) bh))]) (by simp only [List.length_append,List.length_cons,List.length_nil,Nat.zero_add])
   refine qal [4] [] [(1,.v (.slice bg (((([]:Bs) ++ [by8 0,by8 0,by8 0,by8 0] ++ be 2 83 ++ be 2 (IntKind.i16.wrap v) ++ be 4 num) ++ (be 2 txt.size ++ sb txt) ++ [by8 0]).length) bh)),(2,.v (.iface 69 (.pointer (some ⟨ac,0,none⟩)))),(11,.v (.int .u8 0))] bt gv fun oU gw=>?_
   refine qag (qab ?_)
   refine qat [(1,.v (.slice bg (((([]:Bs) ++ [by8 0,by8 0,by8 0,by8 0] ++ be 2 83 ++ be 2 (IntKind.i16.wrap v) ++ be 4 num) ++ (be 2 txt.size ++ sb txt) ++ [by8 0]).length) bh)),(2,.v (.iface 69 (.pointer (some ⟨ac,0,none⟩)))),(48,.v (.bool false))] bt gw fun oV c5=>?_
   refine qaw c5 (b:=false) kz rfl ?_
   refine wp_skip ?_
   refine qab ?_
   refine qae [0,1,2,3] kz ?_
   refine qal [0,1] [2,3] [(49,.v (.iface 69 (.pointer (some ⟨ac,0,none⟩)))),(50,.v (.slice bg (((([]:Bs) ++ [by8 0,by8 0,by8 0,by8 0] ++ be 2 83 ++ be 2 (IntKind.i16.wrap v) ++ be 4 num) ++ (be 2 txt.size ++ sb txt) ++ [by8 0]).length) bh))] bt c5 fun oW gx=>?_
   have gy:=(qaI _ (((((((((((((((aP.trans aQ).trans bG).trans bI).trans bJ).trans bK).trans bL).trans bM).trans bN).trans bO).trans bQ).trans bS).trans bT).trans bU).trans cY).trans cZ).step immM (((((((((((((((aP.trans aQ).trans bG).trans bI).trans bJ).trans bK).trans bL).trans bM).trans bN).trans bO).trans bQ).trans bS).trans bT).trans bU).trans cY).trans cZ).to' cJ)
   have dT:=bt.strImm (G:=F) 1 rfl
   have hk_:=qaI _ (Step.refl _ Nil) nilM (fun b o h_ _=>qge h_) gy
   refine qao (qc3 gx (t := 69) (v := (.pointer (some ⟨ac, 0, none⟩))) (v' := (.pointer (some ⟨ac, 0, none⟩))) (name := "AppendTo") (f := 249) (vs := [.slice bg (((([] : Bs) ++ [by8 0, by8 0, by8 0, by8 0] ++ be 2 83 ++ be 2 (IntKind.i16.wrap v) ++ be 4 num) ++ (be 2 txt.size ++ sb txt) ++ [by8 0]).length) bh]) (d := 51) kz (fun _ => by kernel_rfl) Tryz.call249 (qbk (IntKind.i16.wrap v) aa ac 0 bg bh ((([] : Bs) ++ [by8 0, by8 0, by8 0, by8 0] ++ be 2 83 ++ be 2 (IntKind.i16.wrap v) ++ be 4 num) ++ (be 2 txt.size ++ sb txt) ++ [by8 0]) _ _ dT hk_ (qgc 1 rfl) (bt.own 1 _ rfl) (by first | omega | (simp only [List.length_append, List.length_cons, List.length_nil, be_length, qbW]; omega) | (simp; omega))) ?_)
   rintro e_ oX ⟨ai,aj,rfl,gz,da,db⟩
   refine ⟨_,rfl,fun oY gA=>?_⟩
   have dc:WOk _ _ _ _ [⟨some ⟨au,0,none⟩,1,96,1,1,[.iface 147 (.agg #[.func (.func 131) #[] #[.pointer (some ⟨ab,0,none⟩)]])]⟩,brow ai aj 5 (((([]:Bs) ++ [by8 0,by8 0,by8 0,by8 0] ++ be 2 83 ++ be 2 (IntKind.i16.wrap v) ++ be 4 num) ++ (be 2 txt.size ++ sb txt) ++ [by8 0]) ++ qaa (IntKind.i16.wrap v) aa)]:=bt.grow (k:=1) rfl da gz db
   have mo:=Fr.grow [⟨b1,0,[.bool has,.string txt],true⟩,⟨ac,0,[.int .i16 (IntKind.i16.wrap v),.string ((aa.f 0).s),.slice ((aa.f 1).A) ((aa.f 1).l) ((aa.f 1).c),.map aa.m],true⟩,⟨af,0,[.bool has,.string txt],true⟩,⟨ae,0,[.pointer none],true⟩,⟨ab,0,[.string txt],true⟩,⟨ag,0,[.pointer (some ⟨ab,0,none⟩)],true⟩,⟨ah,0,[.func (.func 131) #[] #[.pointer (some ⟨ab,0,none⟩)]],true⟩] (k:=1) (rs:=[⟨some ⟨au,0,none⟩,1,96,1,1,[.iface 147 (.agg #[.func (.func 131) #[] #[.pointer (some ⟨ab,0,none⟩)]])]⟩,brow bg bh 5 ((([]:Bs) ++ [by8 0,by8 0,by8 0,by8 0] ++ be 2 83 ++ be 2 (IntKind.i16.wrap v) ++ be 4 num) ++ (be 2 txt.size ++ sb txt) ++ [by8 0])]) (r':=(brow ai aj 5 (((([]:Bs) ++ [by8 0,by8 0,by8 0,by8 0] ++ be 2 83 ++ be 2 (IntKind.i16.wrap v) ++ be 4 num) ++ (be 2 txt.size ++ sb txt) ++ [by8 0]) ++ qaa (IntKind.i16.wrap v) aa))) rfl da db
   refine qal [3] [] [(1,.v (.slice ai ((((([]:Bs) ++ [by8 0,by8 0,by8 0,by8 0] ++ be 2 83 ++ be 2 (IntKind.i16.wrap v) ++ be 4 num) ++ (be 2 txt.size ++ sb txt) ++ [by8 0]) ++ qaa (IntKind.i16.wrap v) aa).length) aj))] dc gA fun oZ gB=>?_
   refine qag (qab ?_)
   refine qbp 7 kz dc fun o5 mp bV bi=>?_
   refine qa4 [0,2] [(1,.v (.slice ai ((((([]:Bs) ++ [by8 0,by8 0,by8 0,by8 0] ++ be 2 83 ++ be 2 (IntKind.i16.wrap v) ++ be 4 num) ++ (be 2 txt.size ++ sb txt) ++ [by8 0]) ++ qaa (IntKind.i16.wrap v) aa).length) aj)),(52,.v (.slice ai ((((([]:Bs) ++ [by8 0,by8 0,by8 0,by8 0] ++ be 2 83 ++ be 2 (IntKind.i16.wrap v) ++ be 4 num) ++ (be 2 txt.size ++ sb txt) ++ [by8 0]) ++ qaa (IntKind.i16.wrap v) aa).length) aj)),(54,.v (.slice ai ((((([]:Bs) ++ [by8 0,by8 0,by8 0,by8 0] ++ be 2 83 ++ be 2 (IntKind.i16.wrap v) ++ be 4 num) ++ (be 2 txt.size ++ sb txt) ++ [by8 0]) ++ qaa (IntKind.i16.wrap v) aa).length) aj))] 5 (qad qaj) (fun _ h=>h.cells) bi gB fun o6 de=>?_
   refine qeH (i:=1) (j:=3) kz ?_ ?_
   ·
    refine (qbH de (t:=24) (A:=ai) (m:=(((([]:Bs) ++ [by8 0,by8 0,by8 0,by8 0] ++ be 2 83 ++ be 2 (IntKind.i16.wrap v) ++ be 4 num) ++ (be 2 txt.size ++ sb txt) ++ [by8 0]) ++ qaa (IntKind.i16.wrap v) aa).length) (cp:=aj) (q:=0) (d:=53) (j:=0) kz (e:=5) (size:=1) (bytes:=1) kz (rfl) (by omega) fun o7 gC=>?_)
    refine ⟨fun _=>bi,?_⟩
    refine qaR (i:=3) kz (qbz gC (t:=24) (A:=ai) (m:=((((([]:Bs) ++ [by8 0,by8 0,by8 0,by8 0] ++ be 2 83 ++ be 2 (IntKind.i16.wrap v) ++ be 4 num) ++ (be 2 txt.size ++ sb txt) ++ [by8 0]) ++ qaa (IntKind.i16.wrap v) aa).length)) (cp:=aj) (q:=4) (d:=55) (j:=4) kz (e:=5) (bytes:=1) kz (rfl) (by first | omega | (simp only [List.length_append,List.length_cons,List.length_nil]; omega)) fun o9 gD=>?_)
    refine ⟨fun _=>bi,?_⟩
    refine qa4 [4,5] [(1,.v (.slice ai ((((([]:Bs) ++ [by8 0,by8 0,by8 0,by8 0] ++ be 2 83 ++ be 2 (IntKind.i16.wrap v) ++ be 4 num) ++ (be 2 txt.size ++ sb txt) ++ [by8 0]) ++ qaa (IntKind.i16.wrap v) aa).length) aj)),(53,.v (.slice ai 0 aj)),(57,.v (.int .i32 (IntKind.i32.wrap ((((((([]:Bs) ++ [by8 0,by8 0,by8 0,by8 0] ++ be 2 83 ++ be 2 (IntKind.i16.wrap v) ++ be 4 num) ++ (be 2 txt.size ++ sb txt) ++ [by8 0]) ++ qaa (IntKind.i16.wrap v) aa).length) - 4:Nat):Int))))] 1 (qad qaj) (fun _ h=>h.cells) bi gD fun pa gE=>?_
    refine qaR (i:=6) kz (qan gE (f:=133) (vs:=[.slice ai 0 aj,.int .i32 (IntKind.i32.wrap ((((((([]:Bs) ++ [by8 0,by8 0,by8 0,by8 0] ++ be 2 83 ++ be 2 (IntKind.i16.wrap v) ++ be 4 num) ++ (be 2 txt.size ++ sb txt) ++ [by8 0]) ++ qaa (IntKind.i16.wrap v) aa).length) - 4:Nat):Int))]) (d:=58) kz Tryz.call133 (qbK (IntKind.i32.wrap ((((((([]:Bs) ++ [by8 0,by8 0,by8 0,by8 0] ++ be 2 83 ++ be 2 (IntKind.i16.wrap v) ++ be 4 num) ++ (be 2 txt.size ++ sb txt) ++ [by8 0]) ++ qaa (IntKind.i16.wrap v) aa).length) - 4:Nat):Int)) ai aj (((([]:Bs) ++ [by8 0,by8 0,by8 0,by8 0] ++ be 2 83 ++ be 2 (IntKind.i16.wrap v) ++ be 4 num) ++ (be 2 txt.size ++ sb txt) ++ [by8 0]) ++ qaa (IntKind.i16.wrap v) aa) _ (bV.own 1 _ rfl) (by simp only [List.length_append,List.length_cons,List.length_nil]; omega)) ?_)
    rintro e_ pb ⟨rfl,gF,df⟩
    refine ⟨_,rfl,fun pc gG=>?_⟩
    have aR:WOk _ _ _ _ [⟨some ⟨au,0,none⟩,1,96,1,1,[.iface 147 (.agg #[.func (.func 131) #[] #[.pointer (some ⟨ab,0,none⟩)]])]⟩,⟨ai,aj,5,1,(((([]:Bs) ++ [by8 0,by8 0,by8 0,by8 0] ++ be 2 83 ++ be 2 (IntKind.i16.wrap v) ++ be 4 num) ++ (be 2 txt.size ++ sb txt) ++ [by8 0]) ++ qaa (IntKind.i16.wrap v) aa).length,bc (be 4 (IntKind.i32.wrap ((((((([]:Bs) ++ [by8 0,by8 0,by8 0,by8 0] ++ be 2 83 ++ be 2 (IntKind.i16.wrap v) ++ be 4 num) ++ (be 2 txt.size ++ sb txt) ++ [by8 0]) ++ qaa (IntKind.i16.wrap v) aa).length) - 4:Nat):Int)) ++ (((([]:Bs) ++ [by8 0,by8 0,by8 0,by8 0] ++ be 2 83 ++ be 2 (IntKind.i16.wrap v) ++ be 4 num) ++ (be 2 txt.size ++ sb txt) ++ [by8 0]) ++ qaa (IntKind.i16.wrap v) aa).drop 4)⟩]:=bV.grow (k:=1) (r':=⟨ai,aj,5,1,(((([]:Bs) ++ [by8 0,by8 0,by8 0,by8 0] ++ be 2 83 ++ be 2 (IntKind.i16.wrap v) ++ be 4 num) ++ (be 2 txt.size ++ sb txt) ++ [by8 0]) ++ qaa (IntKind.i16.wrap v) aa).length,bc (be 4 (IntKind.i32.wrap ((((((([]:Bs) ++ [by8 0,by8 0,by8 0,by8 0] ++ be 2 83 ++ be 2 (IntKind.i16.wrap v) ++ be 4 num) ++ (be 2 txt.size ++ sb txt) ++ [by8 0]) ++ qaa (IntKind.i16.wrap v) aa).length) - 4:Nat):Int)) ++ (((([]:Bs) ++ [by8 0,by8 0,by8 0,by8 0] ++ be 2 83 ++ be 2 (IntKind.i16.wrap v) ++ be 4 num) ++ (be 2 txt.size ++ sb txt) ++ [by8 0]) ++ qaa (IntKind.i16.wrap v) aa).drop 4)⟩) rfl df gF (fun g' hg'=>.inl hg')
    have gH:=Fr.grow [⟨b1,0,[.bool has,.string txt],true⟩,⟨ac,0,[.int .i16 (IntKind.i16.wrap v),.string ((aa.f 0).s),.slice ((aa.f 1).A) ((aa.f 1).l) ((aa.f 1).c),.map aa.m],true⟩,⟨af,0,[.bool has,.string txt],true⟩,⟨ae,0,[.pointer none],true⟩,⟨ab,0,[.string txt],true⟩,⟨ag,0,[.pointer (some ⟨ab,0,none⟩)],true⟩,⟨ah,0,[.func (.func 131) #[] #[.pointer (some ⟨ab,0,none⟩)]],true⟩] (k:=1) (rs:=[⟨some ⟨au,0,none⟩,1,96,1,1,[.iface 147 (.agg #[.func (.func 131) #[] #[.pointer (some ⟨ab,0,none⟩)]])]⟩,brow ai aj 5 (((([]:Bs) ++ [by8 0,by8 0,by8 0,by8 0] ++ be 2 83 ++ be 2 (IntKind.i16.wrap v) ++ be 4 num) ++ (be 2 txt.size ++ sb txt) ++ [by8 0]) ++ qaa (IntKind.i16.wrap v) aa)]) (r':=⟨ai,aj,5,1,(((([]:Bs) ++ [by8 0,by8 0,by8 0,by8 0] ++ be 2 83 ++ be 2 (IntKind.i16.wrap v) ++ be 4 num) ++ (be 2 txt.size ++ sb txt) ++ [by8 0]) ++ qaa (IntKind.i16.wrap v) aa).length,bc (be 4 (IntKind.i32.wrap ((((((([]:Bs) ++ [by8 0,by8 0,by8 0,by8 0] ++ be 2 83 ++ be 2 (IntKind.i16.wrap v) ++ be 4 num) ++ (be 2 txt.size ++ sb txt) ++ [by8 0]) ++ qaa (IntKind.i16.wrap v) aa).length) - 4:Nat):Int)) ++ (((([]:Bs) ++ [by8 0,by8 0,by8 0,by8 0] ++ be 2 83 ++ be 2 (IntKind.i16.wrap v) ++ be 4 num) ++ (be 2 txt.size ++ sb txt) ++ [by8 0]) ++ qaa (IntKind.i16.wrap v) aa).drop 4)⟩) rfl df (fun g' hg'=>.inl hg')
    have gI:=TT.ofW gH aR
    refine ⟨fun _=>gI,?_⟩
    refine qa3 kz ?_ _
    refine qab ?_
    refine qat [(8,.v (.slice ai ((((([]:Bs) ++ [by8 0,by8 0,by8 0,by8 0] ++ be 2 83 ++ be 2 (IntKind.i16.wrap v) ++ be 4 num) ++ (be 2 txt.size ++ sb txt) ++ [by8 0]) ++ qaa (IntKind.i16.wrap v) aa).length) aj))] aR gG fun pd gJ=>?_
    refine wp_ret ?_
    refine qaG gJ aR.cells (v:=.slice ai ((((([]:Bs) ++ [by8 0,by8 0,by8 0,by8 0] ++ be 2 83 ++ be 2 (IntKind.i16.wrap v) ++ be 4 num) ++ (be 2 txt.size ++ sb txt) ++ [by8 0]) ++ qaa (IntKind.i16.wrap v) aa).length) aj) kz ?_
    refine ⟨_,rfl,fun pe gK=>?_⟩
    have gL:=(EnvOk.places (tb':=[⟨b1,0,[.bool has,.string txt],true⟩,⟨ac,0,[.int .i16 (IntKind.i16.wrap v),.string ((aa.f 0).s),.slice ((aa.f 1).A) ((aa.f 1).l) ((aa.f 1).c),.map aa.m],true⟩,⟨af,0,[.bool has,.string txt],true⟩,⟨ae,0,[.pointer none],true⟩,⟨ab,0,[.string txt],true⟩,⟨ag,0,[.pointer (some ⟨ab,0,none⟩)],true⟩,⟨ah,0,[.func (.func 131) #[] #[.pointer (some ⟨ab,0,none⟩)]],true⟩]) gK (show Pl [⟨b1,0,[.bool has,.string txt],true⟩,⟨ac,0,[.int .i16 (IntKind.i16.wrap v),.string ((aa.f 0).s),.slice ((aa.f 1).A) ((aa.f 1).l) ((aa.f 1).c),.map aa.m],true⟩,⟨af,0,[.bool has,.string txt],true⟩,⟨ae,0,[.pointer none],true⟩,⟨ab,0,[.string txt],true⟩,⟨ag,0,[.pointer (some ⟨ab,0,none⟩)],true⟩,⟨ah,0,[.func (.func 131) #[] #[.pointer (some ⟨ab,0,none⟩)]],true⟩] [⟨b1,0,[.bool has,.string txt],true⟩,⟨ac,0,[.int .i16 (IntKind.i16.wrap v),.string ((aa.f 0).s),.slice ((aa.f 1).A) ((aa.f 1).l) ((aa.f 1).c),.map aa.m],true⟩,⟨af,0,[.bool has,.string txt],true⟩,⟨ae,0,[.pointer none],true⟩,⟨ab,0,[.string txt],true⟩,⟨ag,0,[.pointer (some ⟨ab,0,none⟩)],true⟩,⟨ah,0,[.func (.func 131) #[] #[.pointer (some ⟨ab,0,none⟩)]],true⟩] from ⟨rfl,rfl,⟨rfl,rfl,⟨rfl,rfl,⟨rfl,rfl,⟨rfl,rfl,⟨rfl,rfl,⟨rfl,rfl,trivial⟩⟩⟩⟩⟩⟩⟩)).pk (env':=[(19,.v (.slice ai ((((([]:Bs) ++ [by8 0,by8 0,by8 0,by8 0] ++ be 2 83 ++ be 2 (IntKind.i16.wrap v) ++ be 4 num) ++ (be 2 txt.size ++ sb txt) ++ [by8 0]) ++ qaa (IntKind.i16.wrap v) aa).length) aj)),(16,.p 5 0),(17,.v (.iface 69 (.pointer (some ⟨ac,0,none⟩)))),(18,.v (.int .i32 num))])
    refine qal [4] [] [(6,.v (.slice ai ((((([]:Bs) ++ [by8 0,by8 0,by8 0,by8 0] ++ be 2 83 ++ be 2 (IntKind.i16.wrap v) ++ be 4 num) ++ (be 2 txt.size ++ sb txt) ++ [by8 0]) ++ qaa (IntKind.i16.wrap v) aa).length) aj))] aR gL fun pf gM=>?_
    refine qag (qab ?_)
    refine wp_ret ?_
    refine qaG gM aR.cells (v:=.slice ai ((((([]:Bs) ++ [by8 0,by8 0,by8 0,by8 0] ++ be 2 83 ++ be 2 (IntKind.i16.wrap v) ++ be 4 num) ++ (be 2 txt.size ++ sb txt) ++ [by8 0]) ++ qaa (IntKind.i16.wrap v) aa).length) aj) kz ?_
    refine ⟨_,rfl,fun pg gN=>?_⟩
    have gO:=(EnvOk.places (tb':=[⟨b1,0,[.bool has,.string txt],true⟩,⟨ac,0,[.int .i16 (IntKind.i16.wrap v),.string ((aa.f 0).s),.slice ((aa.f 1).A) ((aa.f 1).l) ((aa.f 1).c),.map aa.m],true⟩,⟨af,0,[.bool has,.string txt],true⟩,⟨ae,0,[.pointer none],true⟩,⟨ab,0,[.string txt],true⟩,⟨ag,0,[.pointer (some ⟨ab,0,none⟩)],true⟩,⟨ah,0,[.func (.func 131) #[] #[.pointer (some ⟨ab,0,none⟩)]],true⟩]) gN (show Pl [⟨b1,0,[.bool has,.string txt],true⟩,⟨ac,0,[.int .i16 (IntKind.i16.wrap v),.string ((aa.f 0).s),.slice ((aa.f 1).A) ((aa.f 1).l) ((aa.f 1).c),.map aa.m],true⟩] [⟨b1,0,[.bool has,.string txt],true⟩,⟨ac,0,[.int .i16 (IntKind.i16.wrap v),.string ((aa.f 0).s),.slice ((aa.f 1).A) ((aa.f 1).l) ((aa.f 1).c),.map aa.m],true⟩,⟨af,0,[.bool has,.string txt],true⟩,⟨ae,0,[.pointer none],true⟩,⟨ab,0,[.string txt],true⟩,⟨ag,0,[.pointer (some ⟨ab,0,none⟩)],true⟩,⟨ah,0,[.func (.func 131) #[] #[.pointer (some ⟨ab,0,none⟩)]],true⟩] from ⟨rfl,rfl,⟨rfl,rfl,trivial⟩⟩)).pk (env':=[(25,.v (.slice ai ((((([]:Bs) ++ [by8 0,by8 0,by8 0,by8 0] ++ be 2 83 ++ be 2 (IntKind.i16.wrap v) ++ be 4 num) ++ (be 2 txt.size ++ sb txt) ++ [by8 0]) ++ qaa (IntKind.i16.wrap v) aa).length) aj)),(21,.v (.agg #[.bool has,.string txt])),(23,.v (.iface 69 (.pointer (some ⟨ac,0,none⟩)))),(24,.v (.int .i32 num))])
    refine qal [5,6] [] [(8,.v (.slice ai ((((([]:Bs) ++ [by8 0,by8 0,by8 0,by8 0] ++ be 2 83 ++ be 2 (IntKind.i16.wrap v) ++ be 4 num) ++ (be 2 txt.size ++ sb txt) ++ [by8 0]) ++ qaa (IntKind.i16.wrap v) aa).length) aj)),(9,.v (.bool true))] aR gO fun ph gP=>?_
    refine qag (qab ?_)
    refine wp_ret ?_
    refine qaG gP aR.cells (v:=.tuple #[.slice ai ((((([]:Bs) ++ [by8 0,by8 0,by8 0,by8 0] ++ be 2 83 ++ be 2 (IntKind.i16.wrap v) ++ be 4 num) ++ (be 2 txt.size ++ sb txt) ++ [by8 0]) ++ qaa (IntKind.i16.wrap v) aa).length) aj,.bool true]) kz ?_
    have gQ:be 4 (IntKind.i32.wrap ((((((([]:Bs) ++ [by8 0,by8 0,by8 0,by8 0] ++ be 2 83 ++ be 2 (IntKind.i16.wrap v) ++ be 4 num) ++ (be 2 txt.size ++ sb txt) ++ [by8 0]) ++ qaa (IntKind.i16.wrap v) aa).length) - 4:Nat):Int)) ++ (((([]:Bs) ++ [by8 0,by8 0,by8 0,by8 0] ++ be 2 83 ++ be 2 (IntKind.i16.wrap v) ++ be 4 num) ++ (be 2 txt.size ++ sb txt) ++ [by8 0]) ++ qaa (IntKind.i16.wrap v) aa).drop 4 = (qbb 83 (IntKind.i16.wrap v) num has (sb txt) (decide ((IntKind.i16.wrap v) ≥ 0)) (qaa (IntKind.i16.wrap v) aa)):=qcO (R:=outB 83 (IntKind.i16.wrap v) num has (sb txt) (decide ((IntKind.i16.wrap v) ≥ 0)) (qaa (IntKind.i16.wrap v) aa)) (by simp [outB,qd2,qbW,aJ,bf])
    exact qcP aR (k:=1) rfl (gQ.trans (by rw [ba])) (by simp only [List.length_append,List.length_cons,List.length_nil]; omega)
   refine (qbz de (t:=24) (A:=ai) (m:=((((([]:Bs) ++ [by8 0,by8 0,by8 0,by8 0] ++ be 2 83 ++ be 2 (IntKind.i16.wrap v) ++ be 4 num) ++ (be 2 txt.size ++ sb txt) ++ [by8 0]) ++ qaa (IntKind.i16.wrap v) aa).length)) (cp:=aj) (q:=4) (d:=55) (j:=4) kz (e:=5) (bytes:=1) kz (rfl) (by first | omega | (simp only [List.length_append,List.length_cons,List.length_nil]; omega)) fun pi gR=>?_)
   refine ⟨fun _=>bi,?_⟩
   refine qa4 [4,5] [(1,.v (.slice ai ((((([]:Bs) ++ [by8 0,by8 0,by8 0,by8 0] ++ be 2 83 ++ be 2 (IntKind.i16.wrap v) ++ be 4 num) ++ (be 2 txt.size ++ sb txt) ++ [by8 0]) ++ qaa (IntKind.i16.wrap v) aa).length) aj)),(52,.v (.slice ai ((((([]:Bs) ++ [by8 0,by8 0,by8 0,by8 0] ++ be 2 83 ++ be 2 (IntKind.i16.wrap v) ++ be 4 num) ++ (be 2 txt.size ++ sb txt) ++ [by8 0]) ++ qaa (IntKind.i16.wrap v) aa).length) aj)),(57,.v (.int .i32 (IntKind.i32.wrap ((((((([]:Bs) ++ [by8 0,by8 0,by8 0,by8 0] ++ be 2 83 ++ be 2 (IntKind.i16.wrap v) ++ be 4 num) ++ (be 2 txt.size ++ sb txt) ++ [by8 0]) ++ qaa (IntKind.i16.wrap v) aa).length) - 4:Nat):Int))))] 2 (qad qaj) (fun _ h=>h.cells) bi gR fun pj gS=>?_
   refine qaR (i:=1) kz (qbH gS (t:=24) (A:=ai) (m:=(((([]:Bs) ++ [by8 0,by8 0,by8 0,by8 0] ++ be 2 83 ++ be 2 (IntKind.i16.wrap v) ++ be 4 num) ++ (be 2 txt.size ++ sb txt) ++ [by8 0]) ++ qaa (IntKind.i16.wrap v) aa).length) (cp:=aj) (q:=0) (d:=53) (j:=0) kz (e:=5) (size:=1) (bytes:=1) kz (rfl) (by omega) fun pl gT=>?_)
   refine ⟨fun _=>bi,?_⟩
   refine qaR (i:=6) kz (qan gT (f:=133) (vs:=[.slice ai 0 aj,.int .i32 (IntKind.i32.wrap ((((((([]:Bs) ++ [by8 0,by8 0,by8 0,by8 0] ++ be 2 83 ++ be 2 (IntKind.i16.wrap v) ++ be 4 num) ++ (be 2 txt.size ++ sb txt) ++ [by8 0]) ++ qaa (IntKind.i16.wrap v) aa).length) - 4:Nat):Int))]) (d:=58) kz Tryz.call133 (qbK (IntKind.i32.wrap ((((((([]:Bs) ++ [by8 0,by8 0,by8 0,by8 0] ++ be 2 83 ++ be 2 (IntKind.i16.wrap v) ++ be 4 num) ++ (be 2 txt.size ++ sb txt) ++ [by8 0]) ++ qaa (IntKind.i16.wrap v) aa).length) - 4:Nat):Int)) ai aj (((([]:Bs) ++ [by8 0,by8 0,by8 0,by8 0] ++ be 2 83 ++ be 2 (IntKind.i16.wrap v) ++ be 4 num) ++ (be 2 txt.size ++ sb txt) ++ [by8 0]) ++ qaa (IntKind.i16.wrap v) aa) _ (bV.own 1 _ rfl) (by simp only [List.length_append,List.length_cons,List.length_nil]; omega)) ?_)
   rintro e_ pm ⟨rfl,gU,dg⟩
   refine ⟨_,rfl,fun pn gV=>?_⟩
   have aS:WOk _ _ _ _ [⟨some ⟨au,0,none⟩,1,96,1,1,[.iface 147 (.agg #[.func (.func 131) #[] #[.pointer (some ⟨ab,0,none⟩)]])]⟩,⟨ai,aj,5,1,(((([]:Bs) ++ [by8 0,by8 0,by8 0,by8 0] ++ be 2 83 ++ be 2 (IntKind.i16.wrap v) ++ be 4 num) ++ (be 2 txt.size ++ sb txt) ++ [by8 0]) ++ qaa (IntKind.i16.wrap v) aa).length,bc (be 4 (IntKind.i32.wrap ((((((([]:Bs) ++ [by8 0,by8 0,by8 0,by8 0] ++ be 2 83 ++ be 2 (IntKind.i16.wrap v) ++ be 4 num) ++ (be 2 txt.size ++ sb txt) ++ [by8 0]) ++ qaa (IntKind.i16.wrap v) aa).length) - 4:Nat):Int)) ++ (((([]:Bs) ++ [by8 0,by8 0,by8 0,by8 0] ++ be 2 83 ++ be 2 (IntKind.i16.wrap v) ++ be 4 num) ++ (be 2 txt.size ++ sb txt) ++ [by8 0]) ++ qaa (IntKind.i16.wrap v) aa).drop 4)⟩]:=bV.grow (k:=1) (r':=⟨ai,aj,5,1,(((([]:Bs) ++ [by8 0,by8 0,by8 0,by8 0] ++ be 2 83 ++ be 2 (IntKind.i16.wrap v) ++ be 4 num) ++ (be 2 txt.size ++ sb txt) ++ [by8 0]) ++ qaa (IntKind.i16.wrap v) aa).length,bc (be 4 (IntKind.i32.wrap ((((((([]:Bs) ++ [by8 0,by8 0,by8 0,by8 0] ++ be 2 83 ++ be 2 (IntKind.i16.wrap v) ++ be 4 num) ++ (be 2 txt.size ++ sb txt) ++ [by8 0]) ++ qaa (IntKind.i16.wrap v) aa).length) - 4:Nat):Int)) ++ (((([]:Bs) ++ [by8 0,by8 0,by8 0,by8 0] ++ be 2 83 ++ be 2 (IntKind.i16.wrap v) ++ be 4 num) ++ (be 2 txt.size ++ sb txt) ++ [by8 0]) ++ qaa (IntKind.i16.wrap v) aa).drop 4)⟩) rfl dg gU (fun g' hg'=>.inl hg')
   have gW:=Fr.grow [⟨b1,0,[.bool has,.string txt],true⟩,⟨ac,0,[.int .i16 (IntKind.i16.wrap v),.string ((aa.f 0).s),.slice ((aa.f 1).A) ((aa.f 1).l) ((aa.f 1).c),.map aa.m],true⟩,⟨af,0,[.bool has,.string txt],true⟩,⟨ae,0,[.pointer none],true⟩,⟨ab,0,[.string txt],true⟩,⟨ag,0,[.pointer (some ⟨ab,0,none⟩)],true⟩,⟨ah,0,[.func (.func 131) #[] #[.pointer (some ⟨ab,0,none⟩)]],true⟩] (k:=1) (rs:=[⟨some ⟨au,0,none⟩,1,96,1,1,[.iface 147 (.agg #[.func (.func 131) #[] #[.pointer (some ⟨ab,0,none⟩)]])]⟩,brow ai aj 5 (((([]:Bs) ++ [by8 0,by8 0,by8 0,by8 0] ++ be 2 83 ++ be 2 (IntKind.i16.wrap v) ++ be 4 num) ++ (be 2 txt.size ++ sb txt) ++ [by8 0]) ++ qaa (IntKind.i16.wrap v) aa)]) (r':=⟨ai,aj,5,1,(((([]:Bs) ++ [by8 0,by8 0,by8 0,by8 0] ++ be 2 83 ++ be 2 (IntKind.i16.wrap v) ++ be 4 num) ++ (be 2 txt.size ++ sb txt) ++ [by8 0]) ++ qaa (IntKind.i16.wrap v) aa).length,bc (be 4 (IntKind.i32.wrap ((((((([]:Bs) ++ [by8 0,by8 0,by8 0,by8 0] ++ be 2 83 ++ be 2 (IntKind.i16.wrap v) ++ be 4 num) ++ (be 2 txt.size ++ sb txt) ++ [by8 0]) ++ qaa (IntKind.i16.wrap v) aa).length) - 4:Nat):Int)) ++ (((([]:Bs) ++ [by8 0,by8 0,by8 0,by8 0] ++ be 2 83 ++ be 2 (IntKind.i16.wrap v) ++ be 4 num) ++ (be 2 txt.size ++ sb txt) ++ [by8 0]) ++ qaa (IntKind.i16.wrap v) aa).drop 4)⟩) rfl dg (fun g' hg'=>.inl hg')
   have gX:=TT.ofW gW aS
   refine ⟨fun _=>gX,?_⟩
   refine qa3 kz ?_ _
   refine qab ?_
   refine qat [(8,.v (.slice ai ((((([]:Bs) ++ [by8 0,by8 0,by8 0,by8 0] ++ be 2 83 ++ be 2 (IntKind.i16.wrap v) ++ be 4 num) ++ (be 2 txt.size ++ sb txt) ++ [by8 0]) ++ qaa (IntKind.i16.wrap v) aa).length) aj))] aS gV fun po gY=>?_
   refine wp_ret ?_
   refine qaG gY aS.cells (v:=.slice ai ((((([]:Bs) ++ [by8 0,by8 0,by8 0,by8 0] ++ be 2 83 ++ be 2 (IntKind.i16.wrap v) ++ be 4 num) ++ (be 2 txt.size ++ sb txt) ++ [by8 0]) ++ qaa (IntKind.i16.wrap v) aa).length) aj) kz ?_
   refine ⟨_,rfl,fun pp gZ=>?_⟩
   have g6:=(EnvOk.places (tb':=[⟨b1,0,[.bool has,.string txt],true⟩,⟨ac,0,[.int .i16 (IntKind.i16.wrap v),.string ((aa.f 0).s),.slice ((aa.f 1).A) ((aa.f 1).l) ((aa.f 1).c),.map aa.m],true⟩,⟨af,0,[.bool has,.string txt],true⟩,⟨ae,0,[.pointer none],true⟩,⟨ab,0,[.string txt],true⟩,⟨ag,0,[.pointer (some ⟨ab,0,none⟩)],true⟩,⟨ah,0,[.func (.func 131) #[] #[.pointer (some ⟨ab,0,none⟩)]],true⟩]) gZ (show Pl [⟨b1,0,[.bool has,.string txt],true⟩,⟨ac,0,[.int .i16 (IntKind.i16.wrap v),.string ((aa.f 0).s),.slice ((aa.f 1).A) ((aa.f 1).l) ((aa.f 1).c),.map aa.m],true⟩,⟨af,0,[.bool has,.string txt],true⟩,⟨ae,0,[.pointer none],true⟩,⟨ab,0,[.string txt],true⟩,⟨ag,0,[.pointer (some ⟨ab,0,none⟩)],true⟩,⟨ah,0,[.func (.func 131) #[] #[.pointer (some ⟨ab,0,none⟩)]],true⟩] [⟨b1,0,[.bool has,.string txt],true⟩,⟨ac,0,[.int .i16 (IntKind.i16.wrap v),.string ((aa.f 0).s),.slice ((aa.f 1).A) ((aa.f 1).l) ((aa.f 1).c),.map aa.m],true⟩,⟨af,0,[.bool has,.string txt],true⟩,⟨ae,0,[.pointer none],true⟩,⟨ab,0,[.string txt],true⟩,⟨ag,0,[.pointer (some ⟨ab,0,none⟩)],true⟩,⟨ah,0,[.func (.func 131) #[] #[.pointer (some ⟨ab,0,none⟩)]],true⟩] from ⟨rfl,rfl,⟨rfl,rfl,⟨rfl,rfl,⟨rfl,rfl,⟨rfl,rfl,⟨rfl,rfl,⟨rfl,rfl,trivial⟩⟩⟩⟩⟩⟩⟩)).pk (env':=[(19,.v (.slice ai ((((([]:Bs) ++ [by8 0,by8 0,by8 0,by8 0] ++ be 2 83 ++ be 2 (IntKind.i16.wrap v) ++ be 4 num) ++ (be 2 txt.size ++ sb txt) ++ [by8 0]) ++ qaa (IntKind.i16.wrap v) aa).length) aj)),(16,.p 5 0),(17,.v (.iface 69 (.pointer (some ⟨ac,0,none⟩)))),(18,.v (.int .i32 num))])
   refine qal [4] [] [(6,.v (.slice ai ((((([]:Bs) ++ [by8 0,by8 0,by8 0,by8 0] ++ be 2 83 ++ be 2 (IntKind.i16.wrap v) ++ be 4 num) ++ (be 2 txt.size ++ sb txt) ++ [by8 0]) ++ qaa (IntKind.i16.wrap v) aa).length) aj))] aS g6 fun pq g7=>?_
   refine qag (qab ?_)
   refine wp_ret ?_
   refine qaG g7 aS.cells (v:=.slice ai ((((([]:Bs) ++ [by8 0,by8 0,by8 0,by8 0] ++ be 2 83 ++ be 2 (IntKind.i16.wrap v) ++ be 4 num) ++ (be 2 txt.size ++ sb txt) ++ [by8 0]) ++ qaa (IntKind.i16.wrap v) aa).length) aj) kz ?_
   refine ⟨_,rfl,fun pr g8=>?_⟩
   have g9:=(EnvOk.places (tb':=[⟨b1,0,[.bool has,.string txt],true⟩,⟨ac,0,[.int .i16 (IntKind.i16.wrap v),.string ((aa.f 0).s),.slice ((aa.f 1).A) ((aa.f 1).l) ((aa.f 1).c),.map aa.m],true⟩,⟨af,0,[.bool has,.string txt],true⟩,⟨ae,0,[.pointer none],true⟩,⟨ab,0,[.string txt],true⟩,⟨ag,0,[.pointer (some ⟨ab,0,none⟩)],true⟩,⟨ah,0,[.func (.func 131) #[] #[.pointer (some ⟨ab,0,none⟩)]],true⟩]) g8 (show Pl [⟨b1,0,[.bool has,.string txt],true⟩,⟨ac,0,[.int .i16 (IntKind.i16.wrap v),.string ((aa.f 0).s),.slice ((aa.f 1).A) ((aa.f 1).l) ((aa.f 1).c),.map aa.m],true⟩] [⟨b1,0,[.bool has,.string txt],true⟩,⟨ac,0,[.int .i16 (IntKind.i16.wrap v),.string ((aa.f 0).s),.slice ((aa.f 1).A) ((aa.f 1).l) ((aa.f 1).c),.map aa.m],true⟩,⟨af,0,[.bool has,.string txt],true⟩,⟨ae,0,[.pointer none],true⟩,⟨ab,0,[.string txt],true⟩,⟨ag,0,[.pointer (some ⟨ab,0,none⟩)],true⟩,⟨ah,0,[.func (.func 131) #[] #[.pointer (some ⟨ab,0,none⟩)]],true⟩] from ⟨rfl,rfl,⟨rfl,rfl,trivial⟩⟩)).pk (env':=[(25,.v (.slice ai ((((([]:Bs) ++ [by8 0,by8 0,by8 0,by8 0] ++ be 2 83 ++ be 2 (IntKind.i16.wrap v) ++ be 4 num) ++ (be 2 txt.size ++ sb txt) ++ [by8 0]) ++ qaa (IntKind.i16.wrap v) aa).length) aj)),(21,.v (.agg #[.bool has,.string txt])),(23,.v (.iface 69 (.pointer (some ⟨ac,0,none⟩)))),(24,.v (.int .i32 num))])
   refine qal [5,6] [] [(8,.v (.slice ai ((((([]:Bs) ++ [by8 0,by8 0,by8 0,by8 0] ++ be 2 83 ++ be 2 (IntKind.i16.wrap v) ++ be 4 num) ++ (be 2 txt.size ++ sb txt) ++ [by8 0]) ++ qaa (IntKind.i16.wrap v) aa).length) aj)),(9,.v (.bool true))] aS g9 fun pt hC=>?_
   refine qag (qab ?_)
   refine wp_ret ?_
   refine qaG hC aS.cells (v:=.tuple #[.slice ai ((((([]:Bs) ++ [by8 0,by8 0,by8 0,by8 0] ++ be 2 83 ++ be 2 (IntKind.i16.wrap v) ++ be 4 num) ++ (be 2 txt.size ++ sb txt) ++ [by8 0]) ++ qaa (IntKind.i16.wrap v) aa).length) aj,.bool true]) kz ?_
   have hJ:be 4 (IntKind.i32.wrap ((((((([]:Bs) ++ [by8 0,by8 0,by8 0,by8 0] ++ be 2 83 ++ be 2 (IntKind.i16.wrap v) ++ be 4 num) ++ (be 2 txt.size ++ sb txt) ++ [by8 0]) ++ qaa (IntKind.i16.wrap v) aa).length) - 4:Nat):Int)) ++ (((([]:Bs) ++ [by8 0,by8 0,by8 0,by8 0] ++ be 2 83 ++ be 2 (IntKind.i16.wrap v) ++ be 4 num) ++ (be 2 txt.size ++ sb txt) ++ [by8 0]) ++ qaa (IntKind.i16.wrap v) aa).drop 4 = (qbb 83 (IntKind.i16.wrap v) num has (sb txt) (decide ((IntKind.i16.wrap v) ≥ 0)) (qaa (IntKind.i16.wrap v) aa)):=qcO (R:=outB 83 (IntKind.i16.wrap v) num has (sb txt) (decide ((IntKind.i16.wrap v) ≥ 0)) (qaa (IntKind.i16.wrap v) aa)) (by simp [outB,qd2,qbW,aJ,bf])
   exact qcP aS (k:=1) rfl (hJ.trans (by rw [ba])) (by simp only [List.length_append,List.length_cons,List.length_nil]; omega)
  have mq:=of_decide_eq_false bf
  refine wp_skip ?_
  refine qab ?_
  refine qae [0,1,2,3] kz ?_
  refine qal [0,1] [2,3] [(49,.v (.iface 69 (.pointer (some ⟨ac,0,none⟩)))),(50,.v (.slice aF (((([]:Bs) ++ [by8 0,by8 0,by8 0,by8 0] ++ be 2 83 ++ be 2 (IntKind.i16.wrap v) ++ be 4 num) ++ (be 2 txt.size ++ sb txt)).length) aG))] ax cE fun pu hK=>?_
  have hZ:=(qaI _ (((((((((((((aP.trans aQ).trans bG).trans bI).trans bJ).trans bK).trans bL).trans bM).trans bN).trans bO).trans bQ).trans bS).trans bT).trans bU).step immM (((((((((((((aP.trans aQ).trans bG).trans bI).trans bJ).trans bK).trans bL).trans bM).trans bN).trans bO).trans bQ).trans bS).trans bT).trans bU).to' cJ)
  have dU:=ax.strImm (G:=F) 1 rfl
  have hk_:=qaI _ (Step.refl _ Nil) nilM (fun b o h_ _=>qge h_) hZ
  refine qao (qc3 hK (t := 69) (v := (.pointer (some ⟨ac, 0, none⟩))) (v' := (.pointer (some ⟨ac, 0, none⟩))) (name := "AppendTo") (f := 249) (vs := [.slice aF (((([] : Bs) ++ [by8 0, by8 0, by8 0, by8 0] ++ be 2 83 ++ be 2 (IntKind.i16.wrap v) ++ be 4 num) ++ (be 2 txt.size ++ sb txt)).length) aG]) (d := 51) kz (fun _ => by kernel_rfl) Tryz.call249 (qbk (IntKind.i16.wrap v) aa ac 0 aF aG ((([] : Bs) ++ [by8 0, by8 0, by8 0, by8 0] ++ be 2 83 ++ be 2 (IntKind.i16.wrap v) ++ be 4 num) ++ (be 2 txt.size ++ sb txt)) _ _ dU hk_ (qgc 1 rfl) (ax.own 1 _ rfl) (by first | omega | (simp only [List.length_append, List.length_cons, List.length_nil, be_length, qbW]; omega) | (simp; omega))) ?_)
  rintro e_ pv ⟨ak,al,rfl,ia,dh,di⟩
  refine ⟨_,rfl,fun pw ib=>?_⟩
  have dj:WOk _ _ _ _ [⟨some ⟨au,0,none⟩,1,96,1,1,[.iface 147 (.agg #[.func (.func 131) #[] #[.pointer (some ⟨ab,0,none⟩)]])]⟩,brow ak al 5 (((([]:Bs) ++ [by8 0,by8 0,by8 0,by8 0] ++ be 2 83 ++ be 2 (IntKind.i16.wrap v) ++ be 4 num) ++ (be 2 txt.size ++ sb txt)) ++ qaa (IntKind.i16.wrap v) aa)]:=ax.grow (k:=1) rfl dh ia di
  have mr:=Fr.grow [⟨b1,0,[.bool has,.string txt],true⟩,⟨ac,0,[.int .i16 (IntKind.i16.wrap v),.string ((aa.f 0).s),.slice ((aa.f 1).A) ((aa.f 1).l) ((aa.f 1).c),.map aa.m],true⟩,⟨af,0,[.bool has,.string txt],true⟩,⟨ae,0,[.pointer none],true⟩,⟨ab,0,[.string txt],true⟩,⟨ag,0,[.pointer (some ⟨ab,0,none⟩)],true⟩,⟨ah,0,[.func (.func 131) #[] #[.pointer (some ⟨ab,0,none⟩)]],true⟩] (k:=1) (rs:=[⟨some ⟨au,0,none⟩,1,96,1,1,[.iface 147 (.agg #[.func (.func 131) #[] #[.pointer (some ⟨ab,0,none⟩)]])]⟩,brow aF aG 5 ((([]:Bs) ++ [by8 0,by8 0,by8 0,by8 0] ++ be 2 83 ++ be 2 (IntKind.i16.wrap v) ++ be 4 num) ++ (be 2 txt.size ++ sb txt))]) (r':=(brow ak al 5 (((([]:Bs) ++ [by8 0,by8 0,by8 0,by8 0] ++ be 2 83 ++ be 2 (IntKind.i16.wrap v) ++ be 4 num) ++ (be 2 txt.size ++ sb txt)) ++ qaa (IntKind.i16.wrap v) aa))) rfl dh di
  refine qal [3] [] [(1,.v (.slice ak ((((([]:Bs) ++ [by8 0,by8 0,by8 0,by8 0] ++ be 2 83 ++ be 2 (IntKind.i16.wrap v) ++ be 4 num) ++ (be 2 txt.size ++ sb txt)) ++ qaa (IntKind.i16.wrap v) aa).length) al))] dj ib fun px ic=>?_
  refine qag (qab ?_)
  refine qbp 7 kz dj fun pz mt bW bj=>?_
  refine qa4 [0,2] [(1,.v (.slice ak ((((([]:Bs) ++ [by8 0,by8 0,by8 0,by8 0] ++ be 2 83 ++ be 2 (IntKind.i16.wrap v) ++ be 4 num) ++ (be 2 txt.size ++ sb txt)) ++ qaa (IntKind.i16.wrap v) aa).length) al)),(52,.v (.slice ak ((((([]:Bs) ++ [by8 0,by8 0,by8 0,by8 0] ++ be 2 83 ++ be 2 (IntKind.i16.wrap v) ++ be 4 num) ++ (be 2 txt.size ++ sb txt)) ++ qaa (IntKind.i16.wrap v) aa).length) al)),(54,.v (.slice ak ((((([]:Bs) ++ [by8 0,by8 0,by8 0,by8 0] ++ be 2 83 ++ be 2 (IntKind.i16.wrap v) ++ be 4 num) ++ (be 2 txt.size ++ sb txt)) ++ qaa (IntKind.i16.wrap v) aa).length) al))] 5 (qad qaj) (fun _ h=>h.cells) bj ic fun pA dl=>?_
  refine qeH (i:=1) (j:=3) kz ?_ ?_
  ·
   refine (qbH dl (t:=24) (A:=ak) (m:=(((([]:Bs) ++ [by8 0,by8 0,by8 0,by8 0] ++ be 2 83 ++ be 2 (IntKind.i16.wrap v) ++ be 4 num) ++ (be 2 txt.size ++ sb txt)) ++ qaa (IntKind.i16.wrap v) aa).length) (cp:=al) (q:=0) (d:=53) (j:=0) kz (e:=5) (size:=1) (bytes:=1) kz (rfl) (by omega) fun pB ig=>?_)
   refine ⟨fun _=>bj,?_⟩
   refine qaR (i:=3) kz (qbz ig (t:=24) (A:=ak) (m:=((((([]:Bs) ++ [by8 0,by8 0,by8 0,by8 0] ++ be 2 83 ++ be 2 (IntKind.i16.wrap v) ++ be 4 num) ++ (be 2 txt.size ++ sb txt)) ++ qaa (IntKind.i16.wrap v) aa).length)) (cp:=al) (q:=4) (d:=55) (j:=4) kz (e:=5) (bytes:=1) kz (rfl) (by first | omega | (simp only [List.length_append,List.length_cons,List.length_nil]; omega)) fun pC ii=>?_)
   refine ⟨fun _=>bj,?_⟩
   refine qa4 [4,5] [(1,.v (.slice ak ((((([]:Bs) ++ [by8 0,by8 0,by8 0,by8 0] ++ be 2 83 ++ be 2 (IntKind.i16.wrap v) ++ be 4 num) ++ (be 2 txt.size ++ sb txt)) ++ qaa (IntKind.i16.wrap v) aa).length) al)),(53,.v (.slice ak 0 al)),(57,.v (.int .i32 (IntKind.i32.wrap ((((((([]:Bs) ++ [by8 0,by8 0,by8 0,by8 0] ++ be 2 83 ++ be 2 (IntKind.i16.wrap v) ++ be 4 num) ++ (be 2 txt.size ++ sb txt)) ++ qaa (IntKind.i16.wrap v) aa).length) - 4:Nat):Int))))] 1 (qad qaj) (fun _ h=>h.cells) bj ii fun pD ij=>?_
   refine qaR (i:=6) kz (qan ij (f:=133) (vs:=[.slice ak 0 al,.int .i32 (IntKind.i32.wrap ((((((([]:Bs) ++ [by8 0,by8 0,by8 0,by8 0] ++ be 2 83 ++ be 2 (IntKind.i16.wrap v) ++ be 4 num) ++ (be 2 txt.size ++ sb txt)) ++ qaa (IntKind.i16.wrap v) aa).length) - 4:Nat):Int))]) (d:=58) kz Tryz.call133 (qbK (IntKind.i32.wrap ((((((([]:Bs) ++ [by8 0,by8 0,by8 0,by8 0] ++ be 2 83 ++ be 2 (IntKind.i16.wrap v) ++ be 4 num) ++ (be 2 txt.size ++ sb txt)) ++ qaa (IntKind.i16.wrap v) aa).length) - 4:Nat):Int)) ak al (((([]:Bs) ++ [by8 0,by8 0,by8 0,by8 0] ++ be 2 83 ++ be 2 (IntKind.i16.wrap v) ++ be 4 num) ++ (be 2 txt.size ++ sb txt)) ++ qaa (IntKind.i16.wrap v) aa) _ (bW.own 1 _ rfl) (by simp only [List.length_append,List.length_cons,List.length_nil]; omega)) ?_)
   rintro e_ pE ⟨rfl,ik,dp⟩
   refine ⟨_,rfl,fun pF il=>?_⟩
   have aT:WOk _ _ _ _ [⟨some ⟨au,0,none⟩,1,96,1,1,[.iface 147 (.agg #[.func (.func 131) #[] #[.pointer (some ⟨ab,0,none⟩)]])]⟩,⟨ak,al,5,1,(((([]:Bs) ++ [by8 0,by8 0,by8 0,by8 0] ++ be 2 83 ++ be 2 (IntKind.i16.wrap v) ++ be 4 num) ++ (be 2 txt.size ++ sb txt)) ++ qaa (IntKind.i16.wrap v) aa).length,bc (be 4 (IntKind.i32.wrap ((((((([]:Bs) ++ [by8 0,by8 0,by8 0,by8 0] ++ be 2 83 ++ be 2 (IntKind.i16.wrap v) ++ be 4 num) ++ (be 2 txt.size ++ sb txt)) ++ qaa (IntKind.i16.wrap v) aa).length) - 4:Nat):Int)) ++ (((([]:Bs) ++ [by8 0,by8 0,by8 0,by8 0] ++ be 2 83 ++ be 2 (IntKind.i16.wrap v) ++ be 4 num) ++ (be 2 txt.size ++ sb txt)) ++ qaa (IntKind.i16.wrap v) aa).drop 4)⟩]:=bW.grow (k:=1) (r':=⟨ak,al,5,1,(((([]:Bs) ++ [by8 0,by8 0,by8 0,by8 0] ++ be 2 83 ++ be 2 (IntKind.i16.wrap v) ++ be 4 num) ++ (be 2 txt.size ++ sb txt)) ++ qaa (IntKind.i16.wrap v) aa).length,bc (be 4 (IntKind.i32.wrap ((((((([]:Bs) ++ [by8 0,by8 0,by8 0,by8 0] ++ be 2 83 ++ be 2 (IntKind.i16.wrap v) ++ be 4 num) ++ (be 2 txt.size ++ sb txt)) ++ qaa (IntKind.i16.wrap v) aa).length) - 4:Nat):Int)) ++ (((([]:Bs) ++ [by8 0,by8 0,by8 0,by8 0] ++ be 2 83 ++ be 2 (IntKind.i16.wrap v) ++ be 4 num) ++ (be 2 txt.size ++ sb txt)) ++ qaa (IntKind.i16.wrap v) aa).drop 4)⟩) rfl dp ik (fun g' hg'=>.inl hg')
   have im:=Fr.grow [⟨b1,0,[.bool has,.string txt],true⟩,⟨ac,0,[.int .i16 (IntKind.i16.wrap v),.string ((aa.f 0).s),.slice ((aa.f 1).A) ((aa.f 1).l) ((aa.f 1).c),.map aa.m],true⟩,⟨af,0,[.bool has,.string txt],true⟩,⟨ae,0,[.pointer none],true⟩,⟨ab,0,[.string txt],true⟩,⟨ag,0,[.pointer (some ⟨ab,0,none⟩)],true⟩,⟨ah,0,[.func (.func 131) #[] #[.pointer (some ⟨ab,0,none⟩)]],true⟩] (k:=1) (rs:=[⟨some ⟨au,0,none⟩,1,96,1,1,[.iface 147 (.agg #[.func (.func 131) #[] #[.pointer (some ⟨ab,0,none⟩)]])]⟩,brow ak al 5 (((([]:Bs) ++ [by8 0,by8 0,by8 0,by8 0] ++ be 2 83 ++ be 2 (IntKind.i16.wrap v) ++ be 4 num) ++ (be 2 txt.size ++ sb txt)) ++ qaa (IntKind.i16.wrap v) aa)]) (r':=⟨ak,al,5,1,(((([]:Bs) ++ [by8 0,by8 0,by8 0,by8 0] ++ be 2 83 ++ be 2 (IntKind.i16.wrap v) ++ be 4 num) ++ (be 2 txt.size ++ sb txt)) ++ qaa (IntKind.i16.wrap v) aa).length,bc (be 4 (IntKind.i32.wrap ((((((([]:Bs) ++ [by8 0,by8 0,by8 0,by8 0] ++ be 2 83 ++ be 2 (IntKind.i16.wrap v) ++ be 4 num) ++ (be 2 txt.size ++ sb txt)) ++ qaa (IntKind.i16.wrap v) aa).length) - 4:Nat):Int)) ++ (((([]:Bs) ++ [by8 0,by8 0,by8 0,by8 0] ++ be 2 83 ++ be 2 (IntKind.i16.wrap v) ++ be 4 num) ++ (be 2 txt.size ++ sb txt)) ++ qaa (IntKind.i16.wrap v) aa).drop 4)⟩) rfl dp (fun g' hg'=>.inl hg')
   have io:=TT.ofW im aT
   refine ⟨fun _=>io,?_⟩
   refine qa3 kz ?_ _
   refine qab ?_
   refine qat [(8,.v (.slice ak ((((([]:Bs) ++ [by8 0,by8 0,by8 0,by8 0] ++ be 2 83 ++ be 2 (IntKind.i16.wrap v) ++ be 4 num) ++ (be 2 txt.size ++ sb txt)) ++ qaa (IntKind.i16.wrap v) aa).length) al))] aT il fun pG ip=>?_
   refine wp_ret ?_
   refine qaG ip aT.cells (v:=.slice ak ((((([]:Bs) ++ [by8 0,by8 0,by8 0,by8 0] ++ be 2 83 ++ be 2 (IntKind.i16.wrap v) ++ be 4 num) ++ (be 2 txt.size ++ sb txt)) ++ qaa (IntKind.i16.wrap v) aa).length) al) kz ?_
   refine ⟨_,rfl,fun pH iq=>?_⟩
   have ir:=(EnvOk.places (tb':=[⟨b1,0,[.bool has,.string txt],true⟩,⟨ac,0,[.int .i16 (IntKind.i16.wrap v),.string ((aa.f 0).s),.slice ((aa.f 1).A) ((aa.f 1).l) ((aa.f 1).c),.map aa.m],true⟩,⟨af,0,[.bool has,.string txt],true⟩,⟨ae,0,[.pointer none],true⟩,⟨ab,0,[.string txt],true⟩,⟨ag,0,[.pointer (some ⟨ab,0,none⟩)],true⟩,⟨ah,0,[.func (.func 131) #[] #[.pointer (some ⟨ab,0,none⟩)]],true⟩]) iq (show Pl [⟨b1,0,[.bool has,.string txt],true⟩,⟨ac,0,[.int .i16 (IntKind.i16.wrap v),.string ((aa.f 0).s),.slice ((aa.f 1).A) ((aa.f 1).l) ((aa.f 1).c),.map aa.m],true⟩,⟨af,0,[.bool has,.string txt],true⟩,⟨ae,0,[.pointer none],true⟩,⟨ab,0,[.string txt],true⟩,⟨ag,0,[.pointer (some ⟨ab,0,none⟩)],true⟩,⟨ah,0,[.func (.func 131) #[] #[.pointer (some ⟨ab,0,none⟩)]],true⟩] [⟨b1,0,[.bool has,.string txt],true⟩,⟨ac,0,[.int .i16 (IntKind.i16.wrap v),.string ((aa.f 0).s),.slice ((aa.f 1).A) ((aa.f 1).l) ((aa.f 1).c),.map aa.m],true⟩,⟨af,0,[.bool has,.string txt],true⟩,⟨ae,0,[.pointer none],true⟩,⟨ab,0,[.string txt],true⟩,⟨ag,0,[.pointer (some ⟨ab,0,none⟩)],true⟩,⟨ah,0,[.func (.func 131) #[] #[.pointer (some ⟨ab,0,none⟩)]],true⟩] from ⟨rfl,rfl,⟨rfl,rfl,⟨rfl,rfl,⟨rfl,rfl,⟨rfl,rfl,⟨rfl,rfl,⟨rfl,rfl,trivial⟩⟩⟩⟩⟩⟩⟩)).pk (env':=[(19,.v (.slice ak ((((([]:Bs) ++ [by8 0,by8 0,by8 0,by8 0] ++ be 2 83 ++ be 2 (IntKind.i16.wrap v) ++ be 4 num) ++ (be 2 txt.size ++ sb txt)) ++ qaa (IntKind.i16.wrap v) aa).length) al)),(16,.p 5 0),(17,.v (.iface 69 (.pointer (some ⟨ac,0,none⟩)))),(18,.v (.int .i32 num))])
   refine qal [4] [] [(6,.v (.slice ak ((((([]:Bs) ++ [by8 0,by8 0,by8 0,by8 0] ++ be 2 83 ++ be 2 (IntKind.i16.wrap v) ++ be 4 num) ++ (be 2 txt.size ++ sb txt)) ++ qaa (IntKind.i16.wrap v) aa).length) al))] aT ir fun pI iu=>?_
   refine qag (qab ?_)
   refine wp_ret ?_
   refine qaG iu aT.cells (v:=.slice ak ((((([]:Bs) ++ [by8 0,by8 0,by8 0,by8 0] ++ be 2 83 ++ be 2 (IntKind.i16.wrap v) ++ be 4 num) ++ (be 2 txt.size ++ sb txt)) ++ qaa (IntKind.i16.wrap v) aa).length) al) kz ?_
   refine ⟨_,rfl,fun pJ iv=>?_⟩
   have iw:=(EnvOk.places (tb':=[⟨b1,0,[.bool has,.string txt],true⟩,⟨ac,0,[.int .i16 (IntKind.i16.wrap v),.string ((aa.f 0).s),.slice ((aa.f 1).A) ((aa.f 1).l) ((aa.f 1).c),.map aa.m],true⟩,⟨af,0,[.bool has,.string txt],true⟩,⟨ae,0,[.pointer none],true⟩,⟨ab,0,[.string txt],true⟩,⟨ag,0,[.pointer (some ⟨ab,0,none⟩)],true⟩,⟨ah,0,[.func (.func 131) #[] #[.pointer (some ⟨ab,0,none⟩)]],true⟩]) iv (show Pl [⟨b1,0,[.bool has,.string txt],true⟩,⟨ac,0,[.int .i16 (IntKind.i16.wrap v),.string ((aa.f 0).s),.slice ((aa.f 1).A) ((aa.f 1).l) ((aa.f 1).c),.map aa.m],true⟩] [⟨b1,0,[.bool has,.string txt],true⟩,⟨ac,0,[.int .i16 (IntKind.i16.wrap v),.string ((aa.f 0).s),.slice ((aa.f 1).A) ((aa.f 1).l) ((aa.f 1).c),.map aa.m],true⟩,⟨af,0,[.bool has,.string txt],true⟩,⟨ae,0,[.pointer none],true⟩,⟨ab,0,[.string txt],true⟩,⟨ag,0,[.pointer (some ⟨ab,0,none⟩)],true⟩,⟨ah,0,[.func (.func 131) #[] #[.pointer (some ⟨ab,0,none⟩)]],true⟩] from ⟨rfl,rfl,⟨rfl,rfl,trivial⟩⟩)).pk (env':=[(25,.v (.slice ak ((((([]:Bs) ++ [by8 0,by8 0,by8 0,by8 0] ++ be 2 83 ++ be 2 (IntKind.i16.wrap v) ++ be 4 num) ++ (be 2 txt.size ++ sb txt)) ++ qaa (IntKind.i16.wrap v) aa).length) al)),(21,.v (.agg #[.bool has,.string txt])),(23,.v (.iface 69 (.pointer (some ⟨ac,0,none⟩)))),(24,.v (.int .i32 num))])
   refine qal [5,6] [] [(8,.v (.slice ak ((((([]:Bs) ++ [by8 0,by8 0,by8 0,by8 0] ++ be 2 83 ++ be 2 (IntKind.i16.wrap v) ++ be 4 num) ++ (be 2 txt.size ++ sb txt)) ++ qaa (IntKind.i16.wrap v) aa).length) al)),(9,.v (.bool true))] aT iw fun pK ix=>?_
   refine qag (qab ?_)
   refine wp_ret ?_
   refine qaG ix aT.cells (v:=.tuple #[.slice ak ((((([]:Bs) ++ [by8 0,by8 0,by8 0,by8 0] ++ be 2 83 ++ be 2 (IntKind.i16.wrap v) ++ be 4 num) ++ (be 2 txt.size ++ sb txt)) ++ qaa (IntKind.i16.wrap v) aa).length) al,.bool true]) kz ?_
   have iy:be 4 (IntKind.i32.wrap ((((((([]:Bs) ++ [by8 0,by8 0,by8 0,by8 0] ++ be 2 83 ++ be 2 (IntKind.i16.wrap v) ++ be 4 num) ++ (be 2 txt.size ++ sb txt)) ++ qaa (IntKind.i16.wrap v) aa).length) - 4:Nat):Int)) ++ (((([]:Bs) ++ [by8 0,by8 0,by8 0,by8 0] ++ be 2 83 ++ be 2 (IntKind.i16.wrap v) ++ be 4 num) ++ (be 2 txt.size ++ sb txt)) ++ qaa (IntKind.i16.wrap v) aa).drop 4 = (qbb 83 (IntKind.i16.wrap v) num has (sb txt) (decide ((IntKind.i16.wrap v) ≥ 0)) (qaa (IntKind.i16.wrap v) aa)):=qcO (R:=outB 83 (IntKind.i16.wrap v) num has (sb txt) (decide ((IntKind.i16.wrap v) ≥ 0)) (qaa (IntKind.i16.wrap v) aa)) (by simp [outB,qd2,qbW,aJ,bf])
   exact qcP aT (k:=1) rfl (iy.trans (by rw [ba])) (by simp only [List.length_append,List.length_cons,List.length_nil]; omega)
  refine (qbz dl (t:=24) (A:=ak) (m:=((((([]:Bs) ++ [by8 0,by8 0,by8 0,by8 0] ++ be 2 83 ++ be 2 (IntKind.i16.wrap v) ++ be 4 num) ++ (be 2 txt.size ++ sb txt)) ++ qaa (IntKind.i16.wrap v) aa).length)) (cp:=al) (q:=4) (d:=55) (j:=4) kz (e:=5) (bytes:=1) kz (rfl) (by first | omega | (simp only [List.length_append,List.length_cons,List.length_nil]; omega)) fun pL iz=>?_)
  refine ⟨fun _=>bj,?_⟩
  refine qa4 [4,5] [(1,.v (.slice ak ((((([]:Bs) ++ [by8 0,by8 0,by8 0,by8 0] ++ be 2 83 ++ be 2 (IntKind.i16.wrap v) ++ be 4 num) ++ (be 2 txt.size ++ sb txt)) ++ qaa (IntKind.i16.wrap v) aa).length) al)),(52,.v (.slice ak ((((([]:Bs) ++ [by8 0,by8 0,by8 0,by8 0] ++ be 2 83 ++ be 2 (IntKind.i16.wrap v) ++ be 4 num) ++ (be 2 txt.size ++ sb txt)) ++ qaa (IntKind.i16.wrap v) aa).length) al)),(57,.v (.int .i32 (IntKind.i32.wrap ((((((([]:Bs) ++ [by8 0,by8 0,by8 0,by8 0] ++ be 2 83 ++ be 2 (IntKind.i16.wrap v) ++ be 4 num) ++ (be 2 txt.size ++ sb txt)) ++ qaa (IntKind.i16.wrap v) aa).length) - 4:Nat):Int))))] 2 (qad qaj) (fun _ h=>h.cells) bj iz fun pM iA=>?_
  refine qaR (i:=1) kz (qbH iA (t:=24) (A:=ak) (m:=(((([]:Bs) ++ [by8 0,by8 0,by8 0,by8 0] ++ be 2 83 ++ be 2 (IntKind.i16.wrap v) ++ be 4 num) ++ (be 2 txt.size ++ sb txt)) ++ qaa (IntKind.i16.wrap v) aa).length) (cp:=al) (q:=0) (d:=53) (j:=0) kz (e:=5) (size:=1) (bytes:=1) kz (rfl) (by omega) fun pN iB=>?_)
  refine ⟨fun _=>bj,?_⟩
  refine qaR (i:=6) kz (qan iB (f:=133) (vs:=[.slice ak 0 al,.int .i32 (IntKind.i32.wrap ((((((([]:Bs) ++ [by8 0,by8 0,by8 0,by8 0] ++ be 2 83 ++ be 2 (IntKind.i16.wrap v) ++ be 4 num) ++ (be 2 txt.size ++ sb txt)) ++ qaa (IntKind.i16.wrap v) aa).length) - 4:Nat):Int))]) (d:=58) kz Tryz.call133 (qbK (IntKind.i32.wrap ((((((([]:Bs) ++ [by8 0,by8 0,by8 0,by8 0] ++ be 2 83 ++ be 2 (IntKind.i16.wrap v) ++ be 4 num) ++ (be 2 txt.size ++ sb txt)) ++ qaa (IntKind.i16.wrap v) aa).length) - 4:Nat):Int)) ak al (((([]:Bs) ++ [by8 0,by8 0,by8 0,by8 0] ++ be 2 83 ++ be 2 (IntKind.i16.wrap v) ++ be 4 num) ++ (be 2 txt.size ++ sb txt)) ++ qaa (IntKind.i16.wrap v) aa) _ (bW.own 1 _ rfl) (by simp only [List.length_append,List.length_cons,List.length_nil]; omega)) ?_)
  rintro e_ pO ⟨rfl,iC,dq⟩
  refine ⟨_,rfl,fun pP iD=>?_⟩
  have aU:WOk _ _ _ _ [⟨some ⟨au,0,none⟩,1,96,1,1,[.iface 147 (.agg #[.func (.func 131) #[] #[.pointer (some ⟨ab,0,none⟩)]])]⟩,⟨ak,al,5,1,(((([]:Bs) ++ [by8 0,by8 0,by8 0,by8 0] ++ be 2 83 ++ be 2 (IntKind.i16.wrap v) ++ be 4 num) ++ (be 2 txt.size ++ sb txt)) ++ qaa (IntKind.i16.wrap v) aa).length,bc (be 4 (IntKind.i32.wrap ((((((([]:Bs) ++ [by8 0,by8 0,by8 0,by8 0] ++ be 2 83 ++ be 2 (IntKind.i16.wrap v) ++ be 4 num) ++ (be 2 txt.size ++ sb txt)) ++ qaa (IntKind.i16.wrap v) aa).length) - 4:Nat):Int)) ++ (((([]:Bs) ++ [by8 0,by8 0,by8 0,by8 0] ++ be 2 83 ++ be 2 (IntKind.i16.wrap v) ++ be 4 num) ++ (be 2 txt.size ++ sb txt)) ++ qaa (IntKind.i16.wrap v) aa).drop 4)⟩]:=bW.grow (k:=1) (r':=⟨ak,al,5,1,(((([]:Bs) ++ [by8 0,by8 0,by8 0,by8 0] ++ be 2 83 ++ be 2 (IntKind.i16.wrap v) ++ be 4 num) ++ (be 2 txt.size ++ sb txt)) ++ qaa (IntKind.i16.wrap v) aa).length,bc (be 4 (IntKind.i32.wrap ((((((([]:Bs) ++ [by8 0,by8 0,by8 0,by8 0] ++ be 2 83 ++ be 2 (IntKind.i16.wrap v) ++ be 4 num) ++ (be 2 txt.size ++ sb txt)) ++ qaa (IntKind.i16.wrap v) aa).length) - 4:Nat):Int)) ++ (((([]:Bs) ++ [by8 0,by8 0,by8 0,by8 0] ++ be 2 83 ++ be 2 (IntKind.i16.wrap v) ++ be 4 num) ++ (be 2 txt.size ++ sb txt)) ++ qaa (IntKind.i16.wrap v) aa).drop 4)⟩) rfl dq iC (fun g' hg'=>.inl hg')
  have iE:=Fr.grow [⟨b1,0,[.bool has,.string txt],true⟩,⟨ac,0,[.int .i16 (IntKind.i16.wrap v),.string ((aa.f 0).s),.slice ((aa.f 1).A) ((aa.f 1).l) ((aa.f 1).c),.map aa.m],true⟩,⟨af,0,[.bool has,.string txt],true⟩,⟨ae,0,[.pointer none],true⟩,⟨ab,0,[.string txt],true⟩,⟨ag,0,[.pointer (some ⟨ab,0,none⟩)],true⟩,⟨ah,0,[.func (.func 131) #[] #[.pointer (some ⟨ab,0,none⟩)]],true⟩] (k:=1) (rs:=[⟨some ⟨au,0,none⟩,1,96,1,1,[.iface 147 (.agg #[.func (.func 131) #[] #[.pointer (some ⟨ab,0,none⟩)]])]⟩,brow ak al 5 (((([]:Bs) ++ [by8 0,by8 0,by8 0,by8 0] ++ be 2 83 ++ be 2 (IntKind.i16.wrap v) ++ be 4 num) ++ (be 2 txt.size ++ sb txt)) ++ qaa (IntKind.i16.wrap v) aa)]) (r':=⟨ak,al,5,1,(((([]:Bs) ++ [by8 0,by8 0,by8 0,by8 0] ++ be 2 83 ++ be 2 (IntKind.i16.wrap v) ++ be 4 num) ++ (be 2 txt.size ++ sb txt)) ++ qaa (IntKind.i16.wrap v) aa).length,bc (be 4 (IntKind.i32.wrap ((((((([]:Bs) ++ [by8 0,by8 0,by8 0,by8 0] ++ be 2 83 ++ be 2 (IntKind.i16.wrap v) ++ be 4 num) ++ (be 2 txt.size ++ sb txt)) ++ qaa (IntKind.i16.wrap v) aa).length) - 4:Nat):Int)) ++ (((([]:Bs) ++ [by8 0,by8 0,by8 0,by8 0] ++ be 2 83 ++ be 2 (IntKind.i16.wrap v) ++ be 4 num) ++ (be 2 txt.size ++ sb txt)) ++ qaa (IntKind.i16.wrap v) aa).drop 4)⟩) rfl dq (fun g' hg'=>.inl hg')
  have iF:=TT.ofW iE aU
  refine ⟨fun _=>iF,?_⟩
  refine qa3 kz ?_ _
  refine qab ?_
  refine qat [(8,.v (.slice ak ((((([]:Bs) ++ [by8 0,by8 0,by8 0,by8 0] ++ be 2 83 ++ be 2 (IntKind.i16.wrap v) ++ be 4 num) ++ (be 2 txt.size ++ sb txt)) ++ qaa (IntKind.i16.wrap v) aa).length) al))] aU iD fun pQ iG=>?_
  refine wp_ret ?_
  refine qaG iG aU.cells (v:=.slice ak ((((([]:Bs) ++ [by8 0,by8 0,by8 0,by8 0] ++ be 2 83 ++ be 2 (IntKind.i16.wrap v) ++ be 4 num) ++ (be 2 txt.size ++ sb txt)) ++ qaa (IntKind.i16.wrap v) aa).length) al) kz ?_
  refine ⟨_,rfl,fun pR iH=>?_⟩
  have iI:=(EnvOk.places (tb':=[⟨b1,0,[.bool has,.string txt],true⟩,⟨ac,0,[.int .i16 (IntKind.i16.wrap v),.string ((aa.f 0).s),.slice ((aa.f 1).A) ((aa.f 1).l) ((aa.f 1).c),.map aa.m],true⟩,⟨af,0,[.bool has,.string txt],true⟩,⟨ae,0,[.pointer none],true⟩,⟨ab,0,[.string txt],true⟩,⟨ag,0,[.pointer (some ⟨ab,0,none⟩)],true⟩,⟨ah,0,[.func (.func 131) #[] #[.pointer (some ⟨ab,0,none⟩)]],true⟩]) iH (show Pl [⟨b1,0,[.bool has,.string txt],true⟩,⟨ac,0,[.int .i16 (IntKind.i16.wrap v),.string ((aa.f 0).s),.slice ((aa.f 1).A) ((aa.f 1).l) ((aa.f 1).c),.map aa.m],true⟩,⟨af,0,[.bool has,.string txt],true⟩,⟨ae,0,[.pointer none],true⟩,⟨ab,0,[.string txt],true⟩,⟨ag,0,[.pointer (some ⟨ab,0,none⟩)],true⟩,⟨ah,0,[.func (.func 131) #[] #[.pointer (some ⟨ab,0,none⟩)]],true⟩] [⟨b1,0,[.bool has,.string txt],true⟩,⟨ac,0,[.int .i16 (IntKind.i16.wrap v),.string ((aa.f 0).s),.slice ((aa.f 1).A) ((aa.f 1).l) ((aa.f 1).c),.map aa.m],true⟩,⟨af,0,[.bool has,.string txt],true⟩,⟨ae,0,[.pointer none],true⟩,⟨ab,0,[.string txt],true⟩,⟨ag,0,[.pointer (some ⟨ab,0,none⟩)],true⟩,⟨ah,0,[.func (.func 131) #[] #[.pointer (some ⟨ab,0,none⟩)]],true⟩] from ⟨rfl,rfl,⟨rfl,rfl,⟨rfl,rfl,⟨rfl,rfl,⟨rfl,rfl,⟨rfl,rfl,⟨rfl,rfl,trivial⟩⟩⟩⟩⟩⟩⟩)).pk (env':=[(19,.v (.slice ak ((((([]:Bs) ++ [by8 0,by8 0,by8 0,by8 0] ++ be 2 83 ++ be 2 (IntKind.i16.wrap v) ++ be 4 num) ++ (be 2 txt.size ++ sb txt)) ++ qaa (IntKind.i16.wrap v) aa).length) al)),(16,.p 5 0),(17,.v (.iface 69 (.pointer (some ⟨ac,0,none⟩)))),(18,.v (.int .i32 num))])
  refine qal [4] [] [(6,.v (.slice ak ((((([]:Bs) ++ [by8 0,by8 0,by8 0,by8 0] ++ be 2 83 ++ be 2 (IntKind.i16.wrap v) ++ be 4 num) ++ (be 2 txt.size ++ sb txt)) ++ qaa (IntKind.i16.wrap v) aa).length) al))] aU iI fun pS iJ=>?_
  refine qag (qab ?_)
  refine wp_ret ?_
  refine qaG iJ aU.cells (v:=.slice ak ((((([]:Bs) ++ [by8 0,by8 0,by8 0,by8 0] ++ be 2 83 ++ be 2 (IntKind.i16.wrap v) ++ be 4 num) ++ (be 2 txt.size ++ sb txt)) ++ qaa (IntKind.i16.wrap v) aa).length) al) kz ?_
  refine ⟨_,rfl,fun pT iK=>?_⟩
  have iL:=(EnvOk.places (tb':=[⟨b1,0,[.bool has,.string txt],true⟩,⟨ac,0,[.int .i16 (IntKind.i16.wrap v),.string ((aa.f 0).s),.slice ((aa.f 1).A) ((aa.f 1).l) ((aa.f 1).c),.map aa.m],true⟩,⟨af,0,[.bool has,.string txt],true⟩,⟨ae,0,[.pointer none],true⟩,⟨ab,0,[.string txt],true⟩,⟨ag,0,[.pointer (some ⟨ab,0,none⟩)],true⟩,⟨ah,0,[.func (.func 131) #[] #[.pointer (some ⟨ab,0,none⟩)]],true⟩]) iK (show Pl [⟨b1,0,[.bool has,.string txt],true⟩,⟨ac,0,[.int .i16 (IntKind.i16.wrap v),.string ((aa.f 0).s),.slice ((aa.f 1).A) ((aa.f 1).l) ((aa.f 1).c),.map aa.m],true⟩] [⟨b1,0,[.bool has,.string txt],true⟩,⟨ac,0,[.int .i16 (IntKind.i16.wrap v),.string ((aa.f 0).s),.slice ((aa.f 1).A) ((aa.f 1).l) ((aa.f 1).c),.map aa.m],true⟩,⟨af,0,[.bool has,.string txt],true⟩,⟨ae,0,[.pointer none],true⟩,⟨ab,0,[.string txt],true⟩,⟨ag,0,[.pointer (some ⟨ab,0,none⟩)],true⟩,⟨ah,0,[.func (.func 131) #[] #[.pointer (some ⟨ab,0,none⟩)]],true⟩] from ⟨rfl,rfl,⟨rfl,rfl,trivial⟩⟩)).pk (env':=[(25,.v (.slice ak ((((([]:Bs) ++ [by8 0,by8 0,by8 0,by8 0] ++ be 2 83 ++ be 2 (IntKind.i16.wrap v) ++ be 4 num) ++ (be 2 txt.size ++ sb txt)) ++ qaa (IntKind.i16.wrap v) aa).length) al)),(21,.v (.agg #[.bool has,.string txt])),(23,.v (.iface 69 (.pointer (some ⟨ac,0,none⟩)))),(24,.v (.int .i32 num))])
  refine qal [5,6] [] [(8,.v (.slice ak ((((([]:Bs) ++ [by8 0,by8 0,by8 0,by8 0] ++ be 2 83 ++ be 2 (IntKind.i16.wrap v) ++ be 4 num) ++ (be 2 txt.size ++ sb txt)) ++ qaa (IntKind.i16.wrap v) aa).length) al)),(9,.v (.bool true))] aU iL fun pU iM=>?_
  refine qag (qab ?_)
  refine wp_ret ?_
  refine qaG iM aU.cells (v:=.tuple #[.slice ak ((((([]:Bs) ++ [by8 0,by8 0,by8 0,by8 0] ++ be 2 83 ++ be 2 (IntKind.i16.wrap v) ++ be 4 num) ++ (be 2 txt.size ++ sb txt)) ++ qaa (IntKind.i16.wrap v) aa).length) al,.bool true]) kz ?_
  have iN:be 4 (IntKind.i32.wrap ((((((([]:Bs) ++ [by8 0,by8 0,by8 0,by8 0] ++ be 2 83 ++ be 2 (IntKind.i16.wrap v) ++ be 4 num) ++ (be 2 txt.size ++ sb txt)) ++ qaa (IntKind.i16.wrap v) aa).length) - 4:Nat):Int)) ++ (((([]:Bs) ++ [by8 0,by8 0,by8 0,by8 0] ++ be 2 83 ++ be 2 (IntKind.i16.wrap v) ++ be 4 num) ++ (be 2 txt.size ++ sb txt)) ++ qaa (IntKind.i16.wrap v) aa).drop 4 = (qbb 83 (IntKind.i16.wrap v) num has (sb txt) (decide ((IntKind.i16.wrap v) ≥ 0)) (qaa (IntKind.i16.wrap v) aa)):=qcO (R:=outB 83 (IntKind.i16.wrap v) num has (sb txt) (decide ((IntKind.i16.wrap v) ≥ 0)) (qaa (IntKind.i16.wrap v) aa)) (by simp [outB,qd2,qbW,aJ,bf])
  exact qcP aU (k:=1) rfl (iN.trans (by rw [ba])) (by simp only [List.length_append,List.length_cons,List.length_nil]; omega)
 refine wp_skip ?_
 refine qab ?_
 refine qae [0,1,2,3,4] kz ?_
 refine qal [0,1,2] [3,4] [(16,.p 3 0),(17,.v (.iface 69 (.pointer (some ⟨ac,0,none⟩)))),(18,.v (.int .i32 num))] av cC fun pV iO=>?_
 refine qao (qbf iO (f:=91) (vs:=[.pointer (some ⟨ae,0,none⟩),.slice none 0 0,.iface 69 (.pointer (some ⟨ac,0,none⟩)),.int .i32 num]) (d:=19) (n':=60) kz Tryz.call91 Tryz.func91 rfl Tryz.ntmps91 kz fun pW iP=>?_)
 have iQ:=iP.recast 0 (.v (.pointer (some ⟨ae,0,none⟩))) (.p 3 0) rfl rfl (Nat.le_of_ble_eq_true (n:=4) rfl)
 refine qat [(0,.p 3 0),(1,.v (.slice none 0 0)),(2,.v (.iface 69 (.pointer (some ⟨ac,0,none⟩)))),(3,.v (.int .i32 num))] av iQ fun pX iR=>?_
 refine qae [0,1,2,3] kz ?_
 refine qal [0] [1,2,3] [(0,.p 3 0),(2,.v (.iface 69 (.pointer (some ⟨ac,0,none⟩)))),(3,.v (.int .i32 num)),(12,.v (.slice none 0 0))] av iR fun pY iS=>?_
 have iT:=av.addNil 5 1
 have bX:=av.frNil 5 1
 refine qbw iT iS (k:=0) (e:=5) (size:=1) (len:=4) (cs:=[.int .u8 0,.int .u8 0,.int .u8 0,.int .u8 0]) (d1:=13) (d:=14) kz (t:=24) (bytes:=1) kz (fun _=>by kernel_rfl) rfl kz (by first | omega | (simp only [List.length_append,List.length_cons,List.length_nil,be_length,qbW]; omega) | (simp; omega)) fun aH aI pZ p4 bY iU ⟨_,iV⟩=>?_
 have iW:(⟨aH,aI,5,1,([]:Bs).length + 4,bc ([]:Bs) ++ [.int .u8 0,.int .u8 0,.int .u8 0,.int .u8 0]⟩:Rw) = brow aH aI 5 (([]:Bs) ++ [by8 0,by8 0,by8 0,by8 0]):=qa7 (by simp only [bc,List.map,qbG]; try rfl) rfl
 obtain ⟨ay,bZ⟩:=iU.rowEq 0 [brow aH aI 5 (([]:Bs) ++ [by8 0,by8 0,by8 0,by8 0])] iW
 have iX:=EnvOk.pick iV (ks:=[0,2,3,12,14]) (env':=[(0,.p 3 0),(2,.v (.iface 69 (.pointer (some ⟨ac,0,none⟩)))),(3,.v (.int .i32 num)),(12,.v (.slice none 0 0)),(14,.v (.slice aH (([]:Bs).length + 4) aI))]) kz
 have iY:=iX.cast (env':=[(0,.p 3 0),(2,.v (.iface 69 (.pointer (some ⟨ac,0,none⟩)))),(3,.v (.int .i32 num)),(12,.v (.slice none 0 0)),(14,.v (.slice aH ((([]:Bs) ++ [by8 0,by8 0,by8 0,by8 0]).length) aI))]) (by simp only [List.length_append,List.length_cons,List.length_nil,Nat.zero_add])
 refine qal [3] [] [(0,.p 3 0),(1,.v (.slice aH ((([]:Bs) ++ [by8 0,by8 0,by8 0,by8 0]).length) aI)),(2,.v (.iface 69 (.pointer (some ⟨ac,0,none⟩)))),(3,.v (.int .i32 num))] ay iY fun p5 iZ=>?_
 refine qag (qab ?_)
 refine qae [0,1,2] kz ?_
 refine qal [0] [1,2] [(0,.p 3 0),(1,.v (.slice aH ((([]:Bs) ++ [by8 0,by8 0,by8 0,by8 0]).length) aI)),(2,.v (.iface 69 (.pointer (some ⟨ac,0,none⟩)))),(3,.v (.int .i32 num)),(15,.v (.iface 69 (.pointer (some ⟨ac,0,none⟩))))] ay iZ fun p6 i6=>?_
 refine qao (qcg i6 (t := 69) (v := (.pointer (some ⟨ac, 0, none⟩))) (v' := (.pointer (some ⟨ac, 0, none⟩))) (name := "Key") (f := 252) (vs := []) (d := 16) (n' := 3) kz (fun _ => by kernel_rfl) Tryz.call252 Tryz.func252 rfl Tryz.ntmps252 kz fun p7 i7 => ?_)
 have ja:=i7.recast 0 (.v (.pointer (some ⟨ac,0,none⟩))) (.p 1 0) rfl rfl (Nat.le_of_ble_eq_true (n:=2) rfl)
 refine qat [] ay ja fun p8 jb=>?_
 refine qat [(2,.v (.int .i16 83))] ay jb fun p9 jc=>?_
 refine wp_ret ?_
 refine qaG jc ay.cells (v:=.int .i16 83) kz ?_
 refine ⟨_,rfl,fun qa jd=>?_⟩
 have je:=(EnvOk.places (tb':=[⟨b1,0,[.bool has,.string txt],true⟩,⟨ac,0,[.int .i16 (IntKind.i16.wrap v),.string ((aa.f 0).s),.slice ((aa.f 1).A) ((aa.f 1).l) ((aa.f 1).c),.map aa.m],true⟩,⟨af,0,[.bool has,.string txt],true⟩,⟨ae,0,[.pointer none],true⟩]) jd (show Pl [⟨b1,0,[.bool has,.string txt],true⟩,⟨ac,0,[.int .i16 (IntKind.i16.wrap v),.string ((aa.f 0).s),.slice ((aa.f 1).A) ((aa.f 1).l) ((aa.f 1).c),.map aa.m],true⟩,⟨af,0,[.bool has,.string txt],true⟩,⟨ae,0,[.pointer none],true⟩] [⟨b1,0,[.bool has,.string txt],true⟩,⟨ac,0,[.int .i16 (IntKind.i16.wrap v),.string ((aa.f 0).s),.slice ((aa.f 1).A) ((aa.f 1).l) ((aa.f 1).c),.map aa.m],true⟩,⟨af,0,[.bool has,.string txt],true⟩,⟨ae,0,[.pointer none],true⟩] from ⟨rfl,rfl,⟨rfl,rfl,⟨rfl,rfl,⟨rfl,rfl,trivial⟩⟩⟩⟩)).pk (env':=[(16,.v (.int .i16 83)),(0,.p 3 0),(1,.v (.slice aH ((([]:Bs) ++ [by8 0,by8 0,by8 0,by8 0]).length) aI)),(2,.v (.iface 69 (.pointer (some ⟨ac,0,none⟩)))),(3,.v (.int .i32 num)),(15,.v (.iface 69 (.pointer (some ⟨ac,0,none⟩))))])
 refine qal [2] [] [(0,.p 3 0),(1,.v (.slice aH ((([]:Bs) ++ [by8 0,by8 0,by8 0,by8 0]).length) aI)),(2,.v (.iface 69 (.pointer (some ⟨ac,0,none⟩)))),(3,.v (.int .i32 num)),(9,.v (.int .i16 83))] ay je fun qb jf=>?_
 refine qag (qab ?_)
 refine qae [0,1,2] kz ?_
 refine qal [0] [1,2] [(0,.p 3 0),(1,.v (.slice aH ((([]:Bs) ++ [by8 0,by8 0,by8 0,by8 0]).length) aI)),(2,.v (.iface 69 (.pointer (some ⟨ac,0,none⟩)))),(3,.v (.int .i32 num)),(9,.v (.int .i16 83)),(17,.v (.iface 69 (.pointer (some ⟨ac,0,none⟩))))] ay jf fun qc jg=>?_
 refine qao (qcg jg (t := 69) (v := (.pointer (some ⟨ac, 0, none⟩))) (v' := (.pointer (some ⟨ac, 0, none⟩))) (name := "GetVersion") (f := 250) (vs := []) (d := 18) (n' := 7) kz (fun _ => by kernel_rfl) Tryz.call250 Tryz.func250 rfl Tryz.ntmps250 kz fun qd jh => ?_)
 have ji:=jh.recast 0 (.v (.pointer (some ⟨ac,0,none⟩))) (.p 1 0) rfl rfl (Nat.le_of_ble_eq_true (n:=2) rfl)
 refine qat [(0,.p 1 0)] ay ji fun qe jj=>?_
 refine qat [(2,.v (.int .i16 (IntKind.i16.wrap v)))] ay jj fun qf jk=>?_
 refine wp_ret ?_
 refine qaG jk ay.cells (v:=.int .i16 (IntKind.i16.wrap v)) kz ?_
 refine ⟨_,rfl,fun qg jl=>?_⟩
 have jm:=(EnvOk.places (tb':=[⟨b1,0,[.bool has,.string txt],true⟩,⟨ac,0,[.int .i16 (IntKind.i16.wrap v),.string ((aa.f 0).s),.slice ((aa.f 1).A) ((aa.f 1).l) ((aa.f 1).c),.map aa.m],true⟩,⟨af,0,[.bool has,.string txt],true⟩,⟨ae,0,[.pointer none],true⟩]) jl (show Pl [⟨b1,0,[.bool has,.string txt],true⟩,⟨ac,0,[.int .i16 (IntKind.i16.wrap v),.string ((aa.f 0).s),.slice ((aa.f 1).A) ((aa.f 1).l) ((aa.f 1).c),.map aa.m],true⟩,⟨af,0,[.bool has,.string txt],true⟩,⟨ae,0,[.pointer none],true⟩] [⟨b1,0,[.bool has,.string txt],true⟩,⟨ac,0,[.int .i16 (IntKind.i16.wrap v),.string ((aa.f 0).s),.slice ((aa.f 1).A) ((aa.f 1).l) ((aa.f 1).c),.map aa.m],true⟩,⟨af,0,[.bool has,.string txt],true⟩,⟨ae,0,[.pointer none],true⟩] from ⟨rfl,rfl,⟨rfl,rfl,⟨rfl,rfl,⟨rfl,rfl,trivial⟩⟩⟩⟩)).pk (env':=[(18,.v (.int .i16 (IntKind.i16.wrap v))),(0,.p 3 0),(1,.v (.slice aH ((([]:Bs) ++ [by8 0,by8 0,by8 0,by8 0]).length) aI)),(2,.v (.iface 69 (.pointer (some ⟨ac,0,none⟩)))),(3,.v (.int .i32 num)),(9,.v (.int .i16 83)),(17,.v (.iface 69 (.pointer (some ⟨ac,0,none⟩))))])
 refine qal [2] [] [(0,.p 3 0),(1,.v (.slice aH ((([]:Bs) ++ [by8 0,by8 0,by8 0,by8 0]).length) aI)),(2,.v (.iface 69 (.pointer (some ⟨ac,0,none⟩)))),(3,.v (.int .i32 num)),(9,.v (.int .i16 83)),(10,.v (.int .i16 (IntKind.i16.wrap v)))] ay jm fun qh jn=>?_
 refine qag (qab ?_)
 refine qae [0,1,2,3] kz ?_
 refine qal [0,1] [2,3] [(0,.p 3 0),(2,.v (.iface 69 (.pointer (some ⟨ac,0,none⟩)))),(3,.v (.int .i32 num)),(9,.v (.int .i16 83)),(10,.v (.int .i16 (IntKind.i16.wrap v))),(19,.v (.slice aH ((([]:Bs) ++ [by8 0,by8 0,by8 0,by8 0]).length) aI)),(20,.v (.int .i16 83))] ay jn fun qi jo=>?_
 refine qao (qan jo (f:=132) (vs:=[.slice aH ((([]:Bs) ++ [by8 0,by8 0,by8 0,by8 0]).length) aI,.int .i16 83]) (d:=21) kz Tryz.call132 (qcx aH aI (([]:Bs) ++ [by8 0,by8 0,by8 0,by8 0]) 83 _ (ay.own 0 _ rfl) (by first | omega | (simp only [List.length_append,List.length_cons,List.length_nil,be_length,qbW]; omega) | (simp; omega))) ?_)
 rintro e_ qj ⟨bB,bC,rfl,jp,dr,dt⟩
 refine ⟨_,rfl,fun qk jq=>?_⟩
 have b8:WOk _ _ _ _ [brow bB bC 5 (([]:Bs) ++ [by8 0,by8 0,by8 0,by8 0] ++ be 2 83)]:=ay.grow (k:=0) rfl dr jp dt
 have cd:Fr _ [⟨b1,0,[.bool has,.string txt],true⟩,⟨ac,0,[.int .i16 (IntKind.i16.wrap v),.string ((aa.f 0).s),.slice ((aa.f 1).A) ((aa.f 1).l) ((aa.f 1).c),.map aa.m],true⟩,⟨af,0,[.bool has,.string txt],true⟩,⟨ae,0,[.pointer none],true⟩] [brow aH aI 5 (([]:Bs) ++ [by8 0,by8 0,by8 0,by8 0])] _ [⟨b1,0,[.bool has,.string txt],true⟩,⟨ac,0,[.int .i16 (IntKind.i16.wrap v),.string ((aa.f 0).s),.slice ((aa.f 1).A) ((aa.f 1).l) ((aa.f 1).c),.map aa.m],true⟩,⟨af,0,[.bool has,.string txt],true⟩,⟨ae,0,[.pointer none],true⟩] [brow bB bC 5 (([]:Bs) ++ [by8 0,by8 0,by8 0,by8 0] ++ be 2 83)]:=Fr.grow _ (k:=0) (r':=(brow bB bC 5 (([]:Bs) ++ [by8 0,by8 0,by8 0,by8 0] ++ be 2 83))) rfl dr dt
 refine qal [3] [] [(0,.p 3 0),(1,.v (.slice bB ((([]:Bs) ++ [by8 0,by8 0,by8 0,by8 0] ++ be 2 83).length) bC)),(2,.v (.iface 69 (.pointer (some ⟨ac,0,none⟩)))),(3,.v (.int .i32 num)),(9,.v (.int .i16 83)),(10,.v (.int .i16 (IntKind.i16.wrap v)))] b8 jq fun ql jr=>?_
 refine qag (qab ?_)
 refine qae [0,1,2,3] kz ?_
 refine qal [0,1] [2,3] [(0,.p 3 0),(2,.v (.iface 69 (.pointer (some ⟨ac,0,none⟩)))),(3,.v (.int .i32 num)),(9,.v (.int .i16 83)),(10,.v (.int .i16 (IntKind.i16.wrap v))),(22,.v (.slice bB ((([]:Bs) ++ [by8 0,by8 0,by8 0,by8 0] ++ be 2 83).length) bC)),(23,.v (.int .i16 (IntKind.i16.wrap v)))] b8 jr fun qm js=>?_
 refine qao (qan js (f:=132) (vs:=[.slice bB ((([]:Bs) ++ [by8 0,by8 0,by8 0,by8 0] ++ be 2 83).length) bC,.int .i16 (IntKind.i16.wrap v)]) (d:=24) kz Tryz.call132 (qcx bB bC (([]:Bs) ++ [by8 0,by8 0,by8 0,by8 0] ++ be 2 83) (IntKind.i16.wrap v) _ (b8.own 0 _ rfl) (by first | omega | (simp only [List.length_append,List.length_cons,List.length_nil,be_length,qbW]; omega) | (simp; omega))) ?_)
 rintro e_ qn ⟨bD,bE,rfl,jt,du,dv⟩
 refine ⟨_,rfl,fun qo ju=>?_⟩
 have ce:WOk _ _ _ _ [brow bD bE 5 (([]:Bs) ++ [by8 0,by8 0,by8 0,by8 0] ++ be 2 83 ++ be 2 (IntKind.i16.wrap v))]:=b8.grow (k:=0) rfl du jt dv
 have cg:Fr _ [⟨b1,0,[.bool has,.string txt],true⟩,⟨ac,0,[.int .i16 (IntKind.i16.wrap v),.string ((aa.f 0).s),.slice ((aa.f 1).A) ((aa.f 1).l) ((aa.f 1).c),.map aa.m],true⟩,⟨af,0,[.bool has,.string txt],true⟩,⟨ae,0,[.pointer none],true⟩] [brow bB bC 5 (([]:Bs) ++ [by8 0,by8 0,by8 0,by8 0] ++ be 2 83)] _ [⟨b1,0,[.bool has,.string txt],true⟩,⟨ac,0,[.int .i16 (IntKind.i16.wrap v),.string ((aa.f 0).s),.slice ((aa.f 1).A) ((aa.f 1).l) ((aa.f 1).c),.map aa.m],true⟩,⟨af,0,[.bool has,.string txt],true⟩,⟨ae,0,[.pointer none],true⟩] [brow bD bE 5 (([]:Bs) ++ [by8 0,by8 0,by8 0,by8 0] ++ be 2 83 ++ be 2 (IntKind.i16.wrap v))]:=Fr.grow _ (k:=0) (r':=(brow bD bE 5 (([]:Bs) ++ [by8 0,by8 0,by8 0,by8 0] ++ be 2 83 ++ be 2 (IntKind.i16.wrap v)))) rfl du dv
 refine qal [3] [] [(0,.p 3 0),(1,.v (.slice bD ((([]:Bs) ++ [by8 0,by8 0,by8 0,by8 0] ++ be 2 83 ++ be 2 (IntKind.i16.wrap v)).length) bE)),(2,.v (.iface 69 (.pointer (some ⟨ac,0,none⟩)))),(3,.v (.int .i32 num)),(9,.v (.int .i16 83)),(10,.v (.int .i16 (IntKind.i16.wrap v)))] ce ju fun qp jv=>?_
 refine qag (qab ?_)
 refine qae [0,1,2,3] kz ?_
 refine qal [0,1] [2,3] [(0,.p 3 0),(2,.v (.iface 69 (.pointer (some ⟨ac,0,none⟩)))),(9,.v (.int .i16 83)),(10,.v (.int .i16 (IntKind.i16.wrap v))),(25,.v (.slice bD ((([]:Bs) ++ [by8 0,by8 0,by8 0,by8 0] ++ be 2 83 ++ be 2 (IntKind.i16.wrap v)).length) bE)),(26,.v (.int .i32 num))] ce jv fun qq jw=>?_
 refine qao (qan jw (f:=133) (vs:=[.slice bD ((([]:Bs) ++ [by8 0,by8 0,by8 0,by8 0] ++ be 2 83 ++ be 2 (IntKind.i16.wrap v)).length) bE,.int .i32 num]) (d:=27) kz Tryz.call133 (qcN bD bE (([]:Bs) ++ [by8 0,by8 0,by8 0,by8 0] ++ be 2 83 ++ be 2 (IntKind.i16.wrap v)) num _ (ce.own 0 _ rfl) (by first | omega | (simp only [List.length_append,List.length_cons,List.length_nil,be_length,qbW]; omega) | (simp; omega))) ?_)
 rintro e_ qr ⟨aN,aO,rfl,jx,dw,dx⟩
 refine ⟨_,rfl,fun qs jy=>?_⟩
 have aV:WOk _ _ _ _ [brow aN aO 5 (([]:Bs) ++ [by8 0,by8 0,by8 0,by8 0] ++ be 2 83 ++ be 2 (IntKind.i16.wrap v) ++ be 4 num)]:=ce.grow (k:=0) rfl dw jx dx
 have cm:Fr _ [⟨b1,0,[.bool has,.string txt],true⟩,⟨ac,0,[.int .i16 (IntKind.i16.wrap v),.string ((aa.f 0).s),.slice ((aa.f 1).A) ((aa.f 1).l) ((aa.f 1).c),.map aa.m],true⟩,⟨af,0,[.bool has,.string txt],true⟩,⟨ae,0,[.pointer none],true⟩] [brow bD bE 5 (([]:Bs) ++ [by8 0,by8 0,by8 0,by8 0] ++ be 2 83 ++ be 2 (IntKind.i16.wrap v))] _ [⟨b1,0,[.bool has,.string txt],true⟩,⟨ac,0,[.int .i16 (IntKind.i16.wrap v),.string ((aa.f 0).s),.slice ((aa.f 1).A) ((aa.f 1).l) ((aa.f 1).c),.map aa.m],true⟩,⟨af,0,[.bool has,.string txt],true⟩,⟨ae,0,[.pointer none],true⟩] [brow aN aO 5 (([]:Bs) ++ [by8 0,by8 0,by8 0,by8 0] ++ be 2 83 ++ be 2 (IntKind.i16.wrap v) ++ be 4 num)]:=Fr.grow _ (k:=0) (r':=(brow aN aO 5 (([]:Bs) ++ [by8 0,by8 0,by8 0,by8 0] ++ be 2 83 ++ be 2 (IntKind.i16.wrap v) ++ be 4 num))) rfl dw dx
 refine qal [3] [] [(0,.p 3 0),(1,.v (.slice aN ((([]:Bs) ++ [by8 0,by8 0,by8 0,by8 0] ++ be 2 83 ++ be 2 (IntKind.i16.wrap v) ++ be 4 num).length) aO)),(2,.v (.iface 69 (.pointer (some ⟨ac,0,none⟩)))),(9,.v (.int .i16 83)),(10,.v (.int .i16 (IntKind.i16.wrap v)))] aV jy fun qt jz=>?_
 refine qag (qab ?_)
 refine wp_seq ?_
 refine qat [(0,.p 3 0),(1,.v (.slice aN ((([]:Bs) ++ [by8 0,by8 0,by8 0,by8 0] ++ be 2 83 ++ be 2 (IntKind.i16.wrap v) ++ be 4 num).length) aO)),(2,.v (.iface 69 (.pointer (some ⟨ac,0,none⟩)))),(33,.v (.bool false))] aV jz fun qu dy=>?_
 refine qaw dy (b:=false) kz rfl ?_
 refine wp_skip ?_
 refine qab ?_
 refine qae [0,1,2,3,4,5,6] kz ?_
 refine qal [0,1,2,3,4] [5,6] [(2,.v (.iface 69 (.pointer (some ⟨ac,0,none⟩)))),(35,.v (.slice aN ((([]:Bs) ++ [by8 0,by8 0,by8 0,by8 0] ++ be 2 83 ++ be 2 (IntKind.i16.wrap v) ++ be 4 num).length) aO)),(39,.v (.pointer none))] aV dy fun qv jA=>?_
 refine qao (qbf jA (f:=134) (vs:=[.slice aN ((([]:Bs) ++ [by8 0,by8 0,by8 0,by8 0] ++ be 2 83 ++ be 2 (IntKind.i16.wrap v) ++ be 4 num).length) aO,.pointer none]) (d:=40) (n':=14) kz Tryz.call134 Tryz.func134 rfl Tryz.ntmps134 kz fun qw jB=>?_)
 refine qat [(0,.v (.slice aN ((([]:Bs) ++ [by8 0,by8 0,by8 0,by8 0] ++ be 2 83 ++ be 2 (IntKind.i16.wrap v) ++ be 4 num).length) aO)),(1,.v (.pointer none))] aV jB fun qx jC=>?_
 refine wp_seq ?_
 refine qat [(0,.v (.slice aN ((([]:Bs) ++ [by8 0,by8 0,by8 0,by8 0] ++ be 2 83 ++ be 2 (IntKind.i16.wrap v) ++ be 4 num).length) aO)),(1,.v (.pointer none)),(6,.v (.bool true))] aV jC fun qy dz=>?_
 refine qbR dz (b:=true) kz rfl ?_
 refine qae [0,1,2] kz ?_
 refine qal [0] [1,2] [(7,.v (.slice aN ((([]:Bs) ++ [by8 0,by8 0,by8 0,by8 0] ++ be 2 83 ++ be 2 (IntKind.i16.wrap v) ++ be 4 num).length) aO))] aV dz fun qz jD=>?_
 refine qao (qan jD (f:=132) (vs:=[.slice aN ((([]:Bs) ++ [by8 0,by8 0,by8 0,by8 0] ++ be 2 83 ++ be 2 (IntKind.i16.wrap v) ++ be 4 num).length) aO,.int .i16 (-1)]) (d:=8) kz Tryz.call132 (qcx aN aO (([]:Bs) ++ [by8 0,by8 0,by8 0,by8 0] ++ be 2 83 ++ be 2 (IntKind.i16.wrap v) ++ be 4 num) (-1) _ (aV.own 0 _ rfl) (by first | omega | (simp only [List.length_append,List.length_cons,List.length_nil,be_length,qbW]; omega) | (simp; omega))) ?_)
 rintro e_ qA ⟨aB,aC,rfl,jE,dA,dB⟩
 refine ⟨_,rfl,fun qB jF=>?_⟩
 have az:WOk _ _ _ _ [brow aB aC 5 (([]:Bs) ++ [by8 0,by8 0,by8 0,by8 0] ++ be 2 83 ++ be 2 (IntKind.i16.wrap v) ++ be 4 num ++ be 2 (-1))]:=aV.grow (k:=0) rfl dA jE dB
 have cq:Fr _ [⟨b1,0,[.bool has,.string txt],true⟩,⟨ac,0,[.int .i16 (IntKind.i16.wrap v),.string ((aa.f 0).s),.slice ((aa.f 1).A) ((aa.f 1).l) ((aa.f 1).c),.map aa.m],true⟩,⟨af,0,[.bool has,.string txt],true⟩,⟨ae,0,[.pointer none],true⟩] [brow aN aO 5 (([]:Bs) ++ [by8 0,by8 0,by8 0,by8 0] ++ be 2 83 ++ be 2 (IntKind.i16.wrap v) ++ be 4 num)] _ [⟨b1,0,[.bool has,.string txt],true⟩,⟨ac,0,[.int .i16 (IntKind.i16.wrap v),.string ((aa.f 0).s),.slice ((aa.f 1).A) ((aa.f 1).l) ((aa.f 1).c),.map aa.m],true⟩,⟨af,0,[.bool has,.string txt],true⟩,⟨ae,0,[.pointer none],true⟩] [brow aB aC 5 (([]:Bs) ++ [by8 0,by8 0,by8 0,by8 0] ++ be 2 83 ++ be 2 (IntKind.i16.wrap v) ++ be 4 num ++ be 2 (-1))]:=Fr.grow _ (k:=0) (r':=(brow aB aC 5 (([]:Bs) ++ [by8 0,by8 0,by8 0,by8 0] ++ be 2 83 ++ be 2 (IntKind.i16.wrap v) ++ be 4 num ++ be 2 (-1)))) rfl dA dB
 refine qal [2] [] [(4,.v (.slice aB ((([]:Bs) ++ [by8 0,by8 0,by8 0,by8 0] ++ be 2 83 ++ be 2 (IntKind.i16.wrap v) ++ be 4 num ++ be 2 (-1)).length) aC))] az jF fun qC jG=>?_
 refine qag (qab ?_)
 refine wp_ret ?_
 refine qaH ?_
 refine qaG jG az.cells (v:=.slice aB ((([]:Bs) ++ [by8 0,by8 0,by8 0,by8 0] ++ be 2 83 ++ be 2 (IntKind.i16.wrap v) ++ be 4 num ++ be 2 (-1)).length) aC) kz ?_
 refine ⟨_,rfl,fun qD jH=>?_⟩
 have jI:=(EnvOk.places (tb':=[⟨b1,0,[.bool has,.string txt],true⟩,⟨ac,0,[.int .i16 (IntKind.i16.wrap v),.string ((aa.f 0).s),.slice ((aa.f 1).A) ((aa.f 1).l) ((aa.f 1).c),.map aa.m],true⟩,⟨af,0,[.bool has,.string txt],true⟩,⟨ae,0,[.pointer none],true⟩]) jH (show Pl [⟨b1,0,[.bool has,.string txt],true⟩,⟨ac,0,[.int .i16 (IntKind.i16.wrap v),.string ((aa.f 0).s),.slice ((aa.f 1).A) ((aa.f 1).l) ((aa.f 1).c),.map aa.m],true⟩,⟨af,0,[.bool has,.string txt],true⟩,⟨ae,0,[.pointer none],true⟩] [⟨b1,0,[.bool has,.string txt],true⟩,⟨ac,0,[.int .i16 (IntKind.i16.wrap v),.string ((aa.f 0).s),.slice ((aa.f 1).A) ((aa.f 1).l) ((aa.f 1).c),.map aa.m],true⟩,⟨af,0,[.bool has,.string txt],true⟩,⟨ae,0,[.pointer none],true⟩] from ⟨rfl,rfl,⟨rfl,rfl,⟨rfl,rfl,⟨rfl,rfl,trivial⟩⟩⟩⟩)).pk (env':=[(40,.v (.slice aB ((([]:Bs) ++ [by8 0,by8 0,by8 0,by8 0] ++ be 2 83 ++ be 2 (IntKind.i16.wrap v) ++ be 4 num ++ be 2 (-1)).length) aC)),(2,.v (.iface 69 (.pointer (some ⟨ac,0,none⟩)))),(35,.v (.slice aN ((([]:Bs) ++ [by8 0,by8 0,by8 0,by8 0] ++ be 2 83 ++ be 2 (IntKind.i16.wrap v) ++ be 4 num).length) aO)),(39,.v (.pointer none))])
 refine qal [6] [] [(1,.v (.slice aB ((([]:Bs) ++ [by8 0,by8 0,by8 0,by8 0] ++ be 2 83 ++ be 2 (IntKind.i16.wrap v) ++ be 4 num ++ be 2 (-1)).length) aC)),(2,.v (.iface 69 (.pointer (some ⟨ac,0,none⟩))))] az jI fun qE jJ=>?_
 refine qag (qab ?_)
 refine wp_seq ?_
 refine qae [0,1] kz ?_
 refine qal [0] [1] [(1,.v (.slice aB ((([]:Bs) ++ [by8 0,by8 0,by8 0,by8 0] ++ be 2 83 ++ be 2 (IntKind.i16.wrap v) ++ be 4 num ++ be 2 (-1)).length) aC)),(2,.v (.iface 69 (.pointer (some ⟨ac,0,none⟩)))),(41,.v (.iface 69 (.pointer (some ⟨ac,0,none⟩))))] az jJ fun qF jK=>?_
 refine qao (qcg jK (t := 69) (v := (.pointer (some ⟨ac, 0, none⟩))) (v' := (.pointer (some ⟨ac, 0, none⟩))) (name := "IsFlexible") (f := 251) (vs := []) (d := 42) (n' := 8) kz (fun _ => by kernel_rfl) Tryz.call251 Tryz.func251 rfl Tryz.ntmps251 kz fun qG jL => ?_)
 have jM:=jL.recast 0 (.v (.pointer (some ⟨ac,0,none⟩))) (.p 1 0) rfl rfl (Nat.le_of_ble_eq_true (n:=2) rfl)
 refine qat [(0,.p 1 0)] az jM fun qH jN=>?_
 refine qat [(2,.v (.bool (decide ((IntKind.i16.wrap v) ≥ 0))))] az jN fun qI jO=>?_
 refine wp_ret ?_
 refine qaG jO az.cells (v:=.bool (decide ((IntKind.i16.wrap v) ≥ 0))) kz ?_
 refine ⟨_,rfl,fun qJ jP=>?_⟩
 have cG:=(EnvOk.places (tb':=[⟨b1,0,[.bool has,.string txt],true⟩,⟨ac,0,[.int .i16 (IntKind.i16.wrap v),.string ((aa.f 0).s),.slice ((aa.f 1).A) ((aa.f 1).l) ((aa.f 1).c),.map aa.m],true⟩,⟨af,0,[.bool has,.string txt],true⟩,⟨ae,0,[.pointer none],true⟩]) jP (show Pl [⟨b1,0,[.bool has,.string txt],true⟩,⟨ac,0,[.int .i16 (IntKind.i16.wrap v),.string ((aa.f 0).s),.slice ((aa.f 1).A) ((aa.f 1).l) ((aa.f 1).c),.map aa.m],true⟩,⟨af,0,[.bool has,.string txt],true⟩,⟨ae,0,[.pointer none],true⟩] [⟨b1,0,[.bool has,.string txt],true⟩,⟨ac,0,[.int .i16 (IntKind.i16.wrap v),.string ((aa.f 0).s),.slice ((aa.f 1).A) ((aa.f 1).l) ((aa.f 1).c),.map aa.m],true⟩,⟨af,0,[.bool has,.string txt],true⟩,⟨ae,0,[.pointer none],true⟩] from ⟨rfl,rfl,⟨rfl,rfl,⟨rfl,rfl,⟨rfl,rfl,trivial⟩⟩⟩⟩)).pk (env':=[(42,.v (.bool (decide ((IntKind.i16.wrap v) ≥ 0)))),(1,.v (.slice aB ((([]:Bs) ++ [by8 0,by8 0,by8 0,by8 0] ++ be 2 83 ++ be 2 (IntKind.i16.wrap v) ++ be 4 num ++ be 2 (-1)).length) aC)),(2,.v (.iface 69 (.pointer (some ⟨ac,0,none⟩)))),(41,.v (.iface 69 (.pointer (some ⟨ac,0,none⟩))))])
 refine qag (qab ?_)
 refine qaC cG (b:=decide ((IntKind.i16.wrap v) ≥ 0)) kz (fun bk=>?_) (fun bk=>?_)
 ·
  have mu:=of_decide_eq_true bk
  refine qat [(1,.v (.slice aB ((([]:Bs) ++ [by8 0,by8 0,by8 0,by8 0] ++ be 2 83 ++ be 2 (IntKind.i16.wrap v) ++ be 4 num ++ be 2 (-1)).length) aC)),(2,.v (.iface 69 (.pointer (some ⟨ac,0,none⟩)))),(11,.v (.int .u8 0))] az cG fun qK jQ=>?_
  refine qae [0,1,2,3,4] kz ?_
  refine qal [0,1] [2,3,4] [(2,.v (.iface 69 (.pointer (some ⟨ac,0,none⟩)))),(11,.v (.int .u8 0)),(43,.v (.slice aB ((([]:Bs) ++ [by8 0,by8 0,by8 0,by8 0] ++ be 2 83 ++ be 2 (IntKind.i16.wrap v) ++ be 4 num ++ be 2 (-1)).length) aC)),(44,.v (.int .u8 0))] az jQ fun qL jR=>?_
  refine qbw az jR (k:=0) (e:=5) (size:=1) (len:=1) (cs:=[.int .u8 0]) (d1:=45) (d:=46) kz (t:=24) (bytes:=1) kz (fun _=>by kernel_rfl) rfl kz (by first | omega | (simp only [List.length_append,List.length_cons,List.length_nil,be_length,qbW]; omega) | (simp; omega)) fun bn bo qM qN dC jS ⟨_,jT⟩=>?_
  have jU:(⟨bn,bo,5,1,(([]:Bs) ++ [by8 0,by8 0,by8 0,by8 0] ++ be 2 83 ++ be 2 (IntKind.i16.wrap v) ++ be 4 num ++ be 2 (-1)).length + 1,bc (([]:Bs) ++ [by8 0,by8 0,by8 0,by8 0] ++ be 2 83 ++ be 2 (IntKind.i16.wrap v) ++ be 4 num ++ be 2 (-1)) ++ [.int .u8 0]⟩:Rw) = brow bn bo 5 (([]:Bs) ++ [by8 0,by8 0,by8 0,by8 0] ++ be 2 83 ++ be 2 (IntKind.i16.wrap v) ++ be 4 num ++ be 2 (-1) ++ [by8 0]):=qa7 (by simp only [bc,List.map,qbG]; try rfl) rfl
  obtain ⟨bu,dD⟩:=jS.rowEq 0 [brow bn bo 5 (([]:Bs) ++ [by8 0,by8 0,by8 0,by8 0] ++ be 2 83 ++ be 2 (IntKind.i16.wrap v) ++ be 4 num ++ be 2 (-1) ++ [by8 0])] jU
  have jV:=EnvOk.pick jT (ks:=[2,11,43,44,46]) (env':=[(2,.v (.iface 69 (.pointer (some ⟨ac,0,none⟩)))),(11,.v (.int .u8 0)),(43,.v (.slice aB ((([]:Bs) ++ [by8 0,by8 0,by8 0,by8 0] ++ be 2 83 ++ be 2 (IntKind.i16.wrap v) ++ be 4 num ++ be 2 (-1)).length) aC)),(44,.v (.int .u8 0)),(46,.v (.slice bn ((([]:Bs) ++ [by8 0,by8 0,by8 0,by8 0] ++ be 2 83 ++ be 2 (IntKind.i16.wrap v) ++ be 4 num ++ be 2 (-1)).length + 1) bo))]) kz
  have jW:=jV.cast (env':=[(2,.v (.iface 69 (.pointer (some ⟨ac,0,none⟩)))),(11,.v (.int .u8 0)),(43,.v (.slice aB ((([]:Bs) ++ [by8 0,by8 0,by8 0,by8 0] ++ be 2 83 ++ be 2 (IntKind.i16.wrap v) ++ be 4 num ++ be 2 (-1)).length) aC)),(44,.v (.int .u8 0)),(46,.v (.slice bn ((([]:Bs) ++ [by8 0,by8 0,by8 0,by8 0] ++ be 2 83 ++ be 2 (IntKind.i16.wrap v) ++ be 4 num ++ be 2 (-1) ++ [by8 0]).length) bo))]) (by simp only [List.length_append,List.length_cons,List.length_nil,Nat.zero_add])
  refine qal [4] [] [(1,.v (.slice bn ((([]:Bs) ++ [by8 0,by8 0,by8 0,by8 0] ++ be 2 83 ++ be 2 (IntKind.i16.wrap v) ++ be 4 num ++ be 2 (-1) ++ [by8 0]).length) bo)),(2,.v (.iface 69 (.pointer (some ⟨ac,0,none⟩)))),(11,.v (.int .u8 0))] bu jW fun qO jX=>?_
  refine qag (qab ?_)
  refine qat [(1,.v (.slice bn ((([]:Bs) ++ [by8 0,by8 0,by8 0,by8 0] ++ be 2 83 ++ be 2 (IntKind.i16.wrap v) ++ be 4 num ++ be 2 (-1) ++ [by8 0]).length) bo)),(2,.v (.iface 69 (.pointer (some ⟨ac,0,none⟩)))),(48,.v (.bool false))] bu jX fun qP dE=>?_
  refine qaw dE (b:=false) kz rfl ?_
  refine wp_skip ?_
  refine qab ?_
  refine qae [0,1,2,3] kz ?_
  refine qal [0,1] [2,3] [(49,.v (.iface 69 (.pointer (some ⟨ac,0,none⟩)))),(50,.v (.slice bn ((([]:Bs) ++ [by8 0,by8 0,by8 0,by8 0] ++ be 2 83 ++ be 2 (IntKind.i16.wrap v) ++ be 4 num ++ be 2 (-1) ++ [by8 0]).length) bo))] bu dE fun qQ jY=>?_
  have jZ:=(qaI _ ((((((((((aP.trans aQ).trans bX).trans bY).trans bZ).trans cd).trans cg).trans cm).trans cq).trans dC).trans dD).step immM ((((((((((aP.trans aQ).trans bX).trans bY).trans bZ).trans cd).trans cg).trans cm).trans cq).trans dC).trans dD).to' cJ)
  have dV:=bu.strImm (G:=F) 1 rfl
  have hk_:=qaI _ (Step.refl _ Nil) nilM (fun b o h_ _=>qge h_) jZ
  refine qao (qc3 jY (t := 69) (v := (.pointer (some ⟨ac, 0, none⟩))) (v' := (.pointer (some ⟨ac, 0, none⟩))) (name := "AppendTo") (f := 249) (vs := [.slice bn ((([] : Bs) ++ [by8 0, by8 0, by8 0, by8 0] ++ be 2 83 ++ be 2 (IntKind.i16.wrap v) ++ be 4 num ++ be 2 (-1) ++ [by8 0]).length) bo]) (d := 51) kz (fun _ => by kernel_rfl) Tryz.call249 (qbk (IntKind.i16.wrap v) aa ac 0 bn bo (([] : Bs) ++ [by8 0, by8 0, by8 0, by8 0] ++ be 2 83 ++ be 2 (IntKind.i16.wrap v) ++ be 4 num ++ be 2 (-1) ++ [by8 0]) _ _ dV hk_ (qgc 0 rfl) (bu.own 0 _ rfl) (by first | omega | (simp only [List.length_append, List.length_cons, List.length_nil, be_length, qbW]; omega) | (simp; omega))) ?_)
  rintro e_ qR ⟨am,ao,rfl,j0,dF,dG⟩
  refine ⟨_,rfl,fun qS j1=>?_⟩
  have dH:WOk _ _ _ _ [brow am ao 5 ((([]:Bs) ++ [by8 0,by8 0,by8 0,by8 0] ++ be 2 83 ++ be 2 (IntKind.i16.wrap v) ++ be 4 num ++ be 2 (-1) ++ [by8 0]) ++ qaa (IntKind.i16.wrap v) aa)]:=bu.grow (k:=0) rfl dF j0 dG
  have mw:=Fr.grow [⟨b1,0,[.bool has,.string txt],true⟩,⟨ac,0,[.int .i16 (IntKind.i16.wrap v),.string ((aa.f 0).s),.slice ((aa.f 1).A) ((aa.f 1).l) ((aa.f 1).c),.map aa.m],true⟩,⟨af,0,[.bool has,.string txt],true⟩,⟨ae,0,[.pointer none],true⟩] (k:=0) (rs:=[brow bn bo 5 (([]:Bs) ++ [by8 0,by8 0,by8 0,by8 0] ++ be 2 83 ++ be 2 (IntKind.i16.wrap v) ++ be 4 num ++ be 2 (-1) ++ [by8 0])]) (r':=(brow am ao 5 ((([]:Bs) ++ [by8 0,by8 0,by8 0,by8 0] ++ be 2 83 ++ be 2 (IntKind.i16.wrap v) ++ be 4 num ++ be 2 (-1) ++ [by8 0]) ++ qaa (IntKind.i16.wrap v) aa))) rfl dF dG
  refine qal [3] [] [(1,.v (.slice am (((([]:Bs) ++ [by8 0,by8 0,by8 0,by8 0] ++ be 2 83 ++ be 2 (IntKind.i16.wrap v) ++ be 4 num ++ be 2 (-1) ++ [by8 0]) ++ qaa (IntKind.i16.wrap v) aa).length) ao))] dH j1 fun qT j2=>?_
  refine qag (qab ?_)
  refine qbp 7 kz dH fun qU mx cr bp=>?_
  refine qa4 [0,2] [(1,.v (.slice am (((([]:Bs) ++ [by8 0,by8 0,by8 0,by8 0] ++ be 2 83 ++ be 2 (IntKind.i16.wrap v) ++ be 4 num ++ be 2 (-1) ++ [by8 0]) ++ qaa (IntKind.i16.wrap v) aa).length) ao)),(52,.v (.slice am (((([]:Bs) ++ [by8 0,by8 0,by8 0,by8 0] ++ be 2 83 ++ be 2 (IntKind.i16.wrap v) ++ be 4 num ++ be 2 (-1) ++ [by8 0]) ++ qaa (IntKind.i16.wrap v) aa).length) ao)),(54,.v (.slice am (((([]:Bs) ++ [by8 0,by8 0,by8 0,by8 0] ++ be 2 83 ++ be 2 (IntKind.i16.wrap v) ++ be 4 num ++ be 2 (-1) ++ [by8 0]) ++ qaa (IntKind.i16.wrap v) aa).length) ao))] 5 (qad qaj) (fun _ h=>h.cells) bp j2 fun qV dI=>?_
  refine qeH (i:=1) (j:=3) kz ?_ ?_
  ·
   refine (qbH dI (t:=24) (A:=am) (m:=((([]:Bs) ++ [by8 0,by8 0,by8 0,by8 0] ++ be 2 83 ++ be 2 (IntKind.i16.wrap v) ++ be 4 num ++ be 2 (-1) ++ [by8 0]) ++ qaa (IntKind.i16.wrap v) aa).length) (cp:=ao) (q:=0) (d:=53) (j:=0) kz (e:=5) (size:=1) (bytes:=1) kz (rfl) (by omega) fun qW j3=>?_)
   refine ⟨fun _=>bp,?_⟩
   refine qaR (i:=3) kz (qbz j3 (t:=24) (A:=am) (m:=(((([]:Bs) ++ [by8 0,by8 0,by8 0,by8 0] ++ be 2 83 ++ be 2 (IntKind.i16.wrap v) ++ be 4 num ++ be 2 (-1) ++ [by8 0]) ++ qaa (IntKind.i16.wrap v) aa).length)) (cp:=ao) (q:=4) (d:=55) (j:=4) kz (e:=5) (bytes:=1) kz (rfl) (by first | omega | (simp only [List.length_append,List.length_cons,List.length_nil]; omega)) fun qX j4=>?_)
   refine ⟨fun _=>bp,?_⟩
   refine qa4 [4,5] [(1,.v (.slice am (((([]:Bs) ++ [by8 0,by8 0,by8 0,by8 0] ++ be 2 83 ++ be 2 (IntKind.i16.wrap v) ++ be 4 num ++ be 2 (-1) ++ [by8 0]) ++ qaa (IntKind.i16.wrap v) aa).length) ao)),(53,.v (.slice am 0 ao)),(57,.v (.int .i32 (IntKind.i32.wrap (((((([]:Bs) ++ [by8 0,by8 0,by8 0,by8 0] ++ be 2 83 ++ be 2 (IntKind.i16.wrap v) ++ be 4 num ++ be 2 (-1) ++ [by8 0]) ++ qaa (IntKind.i16.wrap v) aa).length) - 4:Nat):Int))))] 1 (qad qaj) (fun _ h=>h.cells) bp j4 fun qY j5=>?_
   refine qaR (i:=6) kz (qan j5 (f:=133) (vs:=[.slice am 0 ao,.int .i32 (IntKind.i32.wrap (((((([]:Bs) ++ [by8 0,by8 0,by8 0,by8 0] ++ be 2 83 ++ be 2 (IntKind.i16.wrap v) ++ be 4 num ++ be 2 (-1) ++ [by8 0]) ++ qaa (IntKind.i16.wrap v) aa).length) - 4:Nat):Int))]) (d:=58) kz Tryz.call133 (qbK (IntKind.i32.wrap (((((([]:Bs) ++ [by8 0,by8 0,by8 0,by8 0] ++ be 2 83 ++ be 2 (IntKind.i16.wrap v) ++ be 4 num ++ be 2 (-1) ++ [by8 0]) ++ qaa (IntKind.i16.wrap v) aa).length) - 4:Nat):Int)) am ao ((([]:Bs) ++ [by8 0,by8 0,by8 0,by8 0] ++ be 2 83 ++ be 2 (IntKind.i16.wrap v) ++ be 4 num ++ be 2 (-1) ++ [by8 0]) ++ qaa (IntKind.i16.wrap v) aa) _ (cr.own 0 _ rfl) (by simp only [List.length_append,List.length_cons,List.length_nil]; omega)) ?_)
   rintro e_ qZ ⟨rfl,j6,dJ⟩
   refine ⟨_,rfl,fun q0 j7=>?_⟩
   have aW:WOk _ _ _ _ [⟨am,ao,5,1,((([]:Bs) ++ [by8 0,by8 0,by8 0,by8 0] ++ be 2 83 ++ be 2 (IntKind.i16.wrap v) ++ be 4 num ++ be 2 (-1) ++ [by8 0]) ++ qaa (IntKind.i16.wrap v) aa).length,bc (be 4 (IntKind.i32.wrap (((((([]:Bs) ++ [by8 0,by8 0,by8 0,by8 0] ++ be 2 83 ++ be 2 (IntKind.i16.wrap v) ++ be 4 num ++ be 2 (-1) ++ [by8 0]) ++ qaa (IntKind.i16.wrap v) aa).length) - 4:Nat):Int)) ++ ((([]:Bs) ++ [by8 0,by8 0,by8 0,by8 0] ++ be 2 83 ++ be 2 (IntKind.i16.wrap v) ++ be 4 num ++ be 2 (-1) ++ [by8 0]) ++ qaa (IntKind.i16.wrap v) aa).drop 4)⟩]:=cr.grow (k:=0) (r':=⟨am,ao,5,1,((([]:Bs) ++ [by8 0,by8 0,by8 0,by8 0] ++ be 2 83 ++ be 2 (IntKind.i16.wrap v) ++ be 4 num ++ be 2 (-1) ++ [by8 0]) ++ qaa (IntKind.i16.wrap v) aa).length,bc (be 4 (IntKind.i32.wrap (((((([]:Bs) ++ [by8 0,by8 0,by8 0,by8 0] ++ be 2 83 ++ be 2 (IntKind.i16.wrap v) ++ be 4 num ++ be 2 (-1) ++ [by8 0]) ++ qaa (IntKind.i16.wrap v) aa).length) - 4:Nat):Int)) ++ ((([]:Bs) ++ [by8 0,by8 0,by8 0,by8 0] ++ be 2 83 ++ be 2 (IntKind.i16.wrap v) ++ be 4 num ++ be 2 (-1) ++ [by8 0]) ++ qaa (IntKind.i16.wrap v) aa).drop 4)⟩) rfl dJ j6 (fun g' hg'=>.inl hg')
   have j8:=Fr.grow [⟨b1,0,[.bool has,.string txt],true⟩,⟨ac,0,[.int .i16 (IntKind.i16.wrap v),.string ((aa.f 0).s),.slice ((aa.f 1).A) ((aa.f 1).l) ((aa.f 1).c),.map aa.m],true⟩,⟨af,0,[.bool has,.string txt],true⟩,⟨ae,0,[.pointer none],true⟩] (k:=0) (rs:=[brow am ao 5 ((([]:Bs) ++ [by8 0,by8 0,by8 0,by8 0] ++ be 2 83 ++ be 2 (IntKind.i16.wrap v) ++ be 4 num ++ be 2 (-1) ++ [by8 0]) ++ qaa (IntKind.i16.wrap v) aa)]) (r':=⟨am,ao,5,1,((([]:Bs) ++ [by8 0,by8 0,by8 0,by8 0] ++ be 2 83 ++ be 2 (IntKind.i16.wrap v) ++ be 4 num ++ be 2 (-1) ++ [by8 0]) ++ qaa (IntKind.i16.wrap v) aa).length,bc (be 4 (IntKind.i32.wrap (((((([]:Bs) ++ [by8 0,by8 0,by8 0,by8 0] ++ be 2 83 ++ be 2 (IntKind.i16.wrap v) ++ be 4 num ++ be 2 (-1) ++ [by8 0]) ++ qaa (IntKind.i16.wrap v) aa).length) - 4:Nat):Int)) ++ ((([]:Bs) ++ [by8 0,by8 0,by8 0,by8 0] ++ be 2 83 ++ be 2 (IntKind.i16.wrap v) ++ be 4 num ++ be 2 (-1) ++ [by8 0]) ++ qaa (IntKind.i16.wrap v) aa).drop 4)⟩) rfl dJ (fun g' hg'=>.inl hg')
   have j9:=TT.ofW j8 aW
   refine ⟨fun _=>j9,?_⟩
   refine qa3 kz ?_ _
   refine qab ?_
   refine qat [(8,.v (.slice am (((([]:Bs) ++ [by8 0,by8 0,by8 0,by8 0] ++ be 2 83 ++ be 2 (IntKind.i16.wrap v) ++ be 4 num ++ be 2 (-1) ++ [by8 0]) ++ qaa (IntKind.i16.wrap v) aa).length) ao))] aW j7 fun q4 ka=>?_
   refine wp_ret ?_
   refine qaG ka aW.cells (v:=.slice am (((([]:Bs) ++ [by8 0,by8 0,by8 0,by8 0] ++ be 2 83 ++ be 2 (IntKind.i16.wrap v) ++ be 4 num ++ be 2 (-1) ++ [by8 0]) ++ qaa (IntKind.i16.wrap v) aa).length) ao) kz ?_
   refine ⟨_,rfl,fun q5 kd=>?_⟩
   have ke:=(EnvOk.places (tb':=[⟨b1,0,[.bool has,.string txt],true⟩,⟨ac,0,[.int .i16 (IntKind.i16.wrap v),.string ((aa.f 0).s),.slice ((aa.f 1).A) ((aa.f 1).l) ((aa.f 1).c),.map aa.m],true⟩,⟨af,0,[.bool has,.string txt],true⟩,⟨ae,0,[.pointer none],true⟩]) kd (show Pl [⟨b1,0,[.bool has,.string txt],true⟩,⟨ac,0,[.int .i16 (IntKind.i16.wrap v),.string ((aa.f 0).s),.slice ((aa.f 1).A) ((aa.f 1).l) ((aa.f 1).c),.map aa.m],true⟩,⟨af,0,[.bool has,.string txt],true⟩,⟨ae,0,[.pointer none],true⟩] [⟨b1,0,[.bool has,.string txt],true⟩,⟨ac,0,[.int .i16 (IntKind.i16.wrap v),.string ((aa.f 0).s),.slice ((aa.f 1).A) ((aa.f 1).l) ((aa.f 1).c),.map aa.m],true⟩,⟨af,0,[.bool has,.string txt],true⟩,⟨ae,0,[.pointer none],true⟩] from ⟨rfl,rfl,⟨rfl,rfl,⟨rfl,rfl,⟨rfl,rfl,trivial⟩⟩⟩⟩)).pk (env':=[(19,.v (.slice am (((([]:Bs) ++ [by8 0,by8 0,by8 0,by8 0] ++ be 2 83 ++ be 2 (IntKind.i16.wrap v) ++ be 4 num ++ be 2 (-1) ++ [by8 0]) ++ qaa (IntKind.i16.wrap v) aa).length) ao)),(16,.p 3 0),(17,.v (.iface 69 (.pointer (some ⟨ac,0,none⟩)))),(18,.v (.int .i32 num))])
   refine qal [4] [] [(6,.v (.slice am (((([]:Bs) ++ [by8 0,by8 0,by8 0,by8 0] ++ be 2 83 ++ be 2 (IntKind.i16.wrap v) ++ be 4 num ++ be 2 (-1) ++ [by8 0]) ++ qaa (IntKind.i16.wrap v) aa).length) ao))] aW ke fun q6 kf=>?_
   refine qag (qab ?_)
   refine wp_ret ?_
   refine qaG kf aW.cells (v:=.slice am (((([]:Bs) ++ [by8 0,by8 0,by8 0,by8 0] ++ be 2 83 ++ be 2 (IntKind.i16.wrap v) ++ be 4 num ++ be 2 (-1) ++ [by8 0]) ++ qaa (IntKind.i16.wrap v) aa).length) ao) kz ?_
   refine ⟨_,rfl,fun q7 kg=>?_⟩
   have kh:=(EnvOk.places (tb':=[⟨b1,0,[.bool has,.string txt],true⟩,⟨ac,0,[.int .i16 (IntKind.i16.wrap v),.string ((aa.f 0).s),.slice ((aa.f 1).A) ((aa.f 1).l) ((aa.f 1).c),.map aa.m],true⟩,⟨af,0,[.bool has,.string txt],true⟩,⟨ae,0,[.pointer none],true⟩]) kg (show Pl [⟨b1,0,[.bool has,.string txt],true⟩,⟨ac,0,[.int .i16 (IntKind.i16.wrap v),.string ((aa.f 0).s),.slice ((aa.f 1).A) ((aa.f 1).l) ((aa.f 1).c),.map aa.m],true⟩] [⟨b1,0,[.bool has,.string txt],true⟩,⟨ac,0,[.int .i16 (IntKind.i16.wrap v),.string ((aa.f 0).s),.slice ((aa.f 1).A) ((aa.f 1).l) ((aa.f 1).c),.map aa.m],true⟩,⟨af,0,[.bool has,.string txt],true⟩,⟨ae,0,[.pointer none],true⟩] from ⟨rfl,rfl,⟨rfl,rfl,trivial⟩⟩)).pk (env':=[(25,.v (.slice am (((([]:Bs) ++ [by8 0,by8 0,by8 0,by8 0] ++ be 2 83 ++ be 2 (IntKind.i16.wrap v) ++ be 4 num ++ be 2 (-1) ++ [by8 0]) ++ qaa (IntKind.i16.wrap v) aa).length) ao)),(21,.v (.agg #[.bool has,.string txt])),(23,.v (.iface 69 (.pointer (some ⟨ac,0,none⟩)))),(24,.v (.int .i32 num))])
   refine qal [5,6] [] [(8,.v (.slice am (((([]:Bs) ++ [by8 0,by8 0,by8 0,by8 0] ++ be 2 83 ++ be 2 (IntKind.i16.wrap v) ++ be 4 num ++ be 2 (-1) ++ [by8 0]) ++ qaa (IntKind.i16.wrap v) aa).length) ao)),(9,.v (.bool true))] aW kh fun q8 ki=>?_
   refine qag (qab ?_)
   refine wp_ret ?_
   refine qaG ki aW.cells (v:=.tuple #[.slice am (((([]:Bs) ++ [by8 0,by8 0,by8 0,by8 0] ++ be 2 83 ++ be 2 (IntKind.i16.wrap v) ++ be 4 num ++ be 2 (-1) ++ [by8 0]) ++ qaa (IntKind.i16.wrap v) aa).length) ao,.bool true]) kz ?_
   have kj:be 4 (IntKind.i32.wrap (((((([]:Bs) ++ [by8 0,by8 0,by8 0,by8 0] ++ be 2 83 ++ be 2 (IntKind.i16.wrap v) ++ be 4 num ++ be 2 (-1) ++ [by8 0]) ++ qaa (IntKind.i16.wrap v) aa).length) - 4:Nat):Int)) ++ ((([]:Bs) ++ [by8 0,by8 0,by8 0,by8 0] ++ be 2 83 ++ be 2 (IntKind.i16.wrap v) ++ be 4 num ++ be 2 (-1) ++ [by8 0]) ++ qaa (IntKind.i16.wrap v) aa).drop 4 = (qbb 83 (IntKind.i16.wrap v) num has (sb txt) (decide ((IntKind.i16.wrap v) ≥ 0)) (qaa (IntKind.i16.wrap v) aa)):=qcO (R:=outB 83 (IntKind.i16.wrap v) num has (sb txt) (decide ((IntKind.i16.wrap v) ≥ 0)) (qaa (IntKind.i16.wrap v) aa)) (by simp [outB,qd2,qbW,aJ,bk])
   exact qcP aW (k:=0) rfl (kj.trans (by rw [ba])) (by simp only [List.length_append,List.length_cons,List.length_nil]; omega)
  refine (qbz dI (t:=24) (A:=am) (m:=(((([]:Bs) ++ [by8 0,by8 0,by8 0,by8 0] ++ be 2 83 ++ be 2 (IntKind.i16.wrap v) ++ be 4 num ++ be 2 (-1) ++ [by8 0]) ++ qaa (IntKind.i16.wrap v) aa).length)) (cp:=ao) (q:=4) (d:=55) (j:=4) kz (e:=5) (bytes:=1) kz (rfl) (by first | omega | (simp only [List.length_append,List.length_cons,List.length_nil]; omega)) fun q9 km=>?_)
  refine ⟨fun _=>bp,?_⟩
  refine qa4 [4,5] [(1,.v (.slice am (((([]:Bs) ++ [by8 0,by8 0,by8 0,by8 0] ++ be 2 83 ++ be 2 (IntKind.i16.wrap v) ++ be 4 num ++ be 2 (-1) ++ [by8 0]) ++ qaa (IntKind.i16.wrap v) aa).length) ao)),(52,.v (.slice am (((([]:Bs) ++ [by8 0,by8 0,by8 0,by8 0] ++ be 2 83 ++ be 2 (IntKind.i16.wrap v) ++ be 4 num ++ be 2 (-1) ++ [by8 0]) ++ qaa (IntKind.i16.wrap v) aa).length) ao)),(57,.v (.int .i32 (IntKind.i32.wrap (((((([]:Bs) ++ [by8 0,by8 0,by8 0,by8 0] ++ be 2 83 ++ be 2 (IntKind.i16.wrap v) ++ be 4 num ++ be 2 (-1) ++ [by8 0]) ++ qaa (IntKind.i16.wrap v) aa).length) - 4:Nat):Int))))] 2 (qad qaj) (fun _ h=>h.cells) bp km fun ra ko=>?_
  refine qaR (i:=1) kz (qbH ko (t:=24) (A:=am) (m:=((([]:Bs) ++ [by8 0,by8 0,by8 0,by8 0] ++ be 2 83 ++ be 2 (IntKind.i16.wrap v) ++ be 4 num ++ be 2 (-1) ++ [by8 0]) ++ qaa (IntKind.i16.wrap v) aa).length) (cp:=ao) (q:=0) (d:=53) (j:=0) kz (e:=5) (size:=1) (bytes:=1) kz (rfl) (by omega) fun rb kp=>?_)
  refine ⟨fun _=>bp,?_⟩
  refine qaR (i:=6) kz (qan kp (f:=133) (vs:=[.slice am 0 ao,.int .i32 (IntKind.i32.wrap (((((([]:Bs) ++ [by8 0,by8 0,by8 0,by8 0] ++ be 2 83 ++ be 2 (IntKind.i16.wrap v) ++ be 4 num ++ be 2 (-1) ++ [by8 0]) ++ qaa (IntKind.i16.wrap v) aa).length) - 4:Nat):Int))]) (d:=58) kz Tryz.call133 (qbK (IntKind.i32.wrap (((((([]:Bs) ++ [by8 0,by8 0,by8 0,by8 0] ++ be 2 83 ++ be 2 (IntKind.i16.wrap v) ++ be 4 num ++ be 2 (-1) ++ [by8 0]) ++ qaa (IntKind.i16.wrap v) aa).length) - 4:Nat):Int)) am ao ((([]:Bs) ++ [by8 0,by8 0,by8 0,by8 0] ++ be 2 83 ++ be 2 (IntKind.i16.wrap v) ++ be 4 num ++ be 2 (-1) ++ [by8 0]) ++ qaa (IntKind.i16.wrap v) aa) _ (cr.own 0 _ rfl) (by simp only [List.length_append,List.length_cons,List.length_nil]; omega)) ?_)
  rintro e_ rc ⟨rfl,kq,dK⟩
  refine ⟨_,rfl,fun re ku=>?_⟩
  have aX:WOk _ _ _ _ [⟨am,ao,5,1,((([]:Bs) ++ [by8 0,by8 0,by8 0,by8 0] ++ be 2 83 ++ be 2 (IntKind.i16.wrap v) ++ be 4 num ++ be 2 (-1) ++ [by8 0]) ++ qaa (IntKind.i16.wrap v) aa).length,bc (be 4 (IntKind.i32.wrap (((((([]:Bs) ++ [by8 0,by8 0,by8 0,by8 0] ++ be 2 83 ++ be 2 (IntKind.i16.wrap v) ++ be 4 num ++ be 2 (-1) ++ [by8 0]) ++ qaa (IntKind.i16.wrap v) aa).length) - 4:Nat):Int)) ++ ((([]:Bs) ++ [by8 0,by8 0,by8 0,by8 0] ++ be 2 83 ++ be 2 (IntKind.i16.wrap v) ++ be 4 num ++ be 2 (-1) ++ [by8 0]) ++ qaa (IntKind.i16.wrap v) aa).drop 4)⟩]:=cr.grow (k:=0) (r':=⟨am,ao,5,1,((([]:Bs) ++ [by8 0,by8 0,by8 0,by8 0] ++ be 2 83 ++ be 2 (IntKind.i16.wrap v) ++ be 4 num ++ be 2 (-1) ++ [by8 0]) ++ qaa (IntKind.i16.wrap v) aa).length,bc (be 4 (IntKind.i32.wrap (((((([]:Bs) ++ [by8 0,by8 0,by8 0,by8 0] ++ be 2 83 ++ be 2 (IntKind.i16.wrap v) ++ be 4 num ++ be 2 (-1) ++ [by8 0]) ++ qaa (IntKind.i16.wrap v) aa).length) - 4:Nat):Int)) ++ ((([]:Bs) ++ [by8 0,by8 0,by8 0,by8 0] ++ be 2 83 ++ be 2 (IntKind.i16.wrap v) ++ be 4 num ++ be 2 (-1) ++ [by8 0]) ++ qaa (IntKind.i16.wrap v) aa).drop 4)⟩) rfl dK kq (fun g' hg'=>.inl hg')
  have kv:=Fr.grow [⟨b1,0,[.bool has,.string txt],true⟩,⟨ac,0,[.int .i16 (IntKind.i16.wrap v),.string ((aa.f 0).s),.slice ((aa.f 1).A) ((aa.f 1).l) ((aa.f 1).c),.map aa.m],true⟩,⟨af,0,[.bool has,.string txt],true⟩,⟨ae,0,[.pointer none],true⟩] (k:=0) (rs:=[brow am ao 5 ((([]:Bs) ++ [by8 0,by8 0,by8 0,by8 0] ++ be 2 83 ++ be 2 (IntKind.i16.wrap v) ++ be 4 num ++ be 2 (-1) ++ [by8 0]) ++ qaa (IntKind.i16.wrap v) aa)]) (r':=⟨am,ao,5,1,((([]:Bs) ++ [by8 0,by8 0,by8 0,by8 0] ++ be 2 83 ++ be 2 (IntKind.i16.wrap v) ++ be 4 num ++ be 2 (-1) ++ [by8 0]) ++ qaa (IntKind.i16.wrap v) aa).length,bc (be 4 (IntKind.i32.wrap (((((([]:Bs) ++ [by8 0,by8 0,by8 0,by8 0] ++ be 2 83 ++ be 2 (IntKind.i16.wrap v) ++ be 4 num ++ be 2 (-1) ++ [by8 0]) ++ qaa (IntKind.i16.wrap v) aa).length) - 4:Nat):Int)) ++ ((([]:Bs) ++ [by8 0,by8 0,by8 0,by8 0] ++ be 2 83 ++ be 2 (IntKind.i16.wrap v) ++ be 4 num ++ be 2 (-1) ++ [by8 0]) ++ qaa (IntKind.i16.wrap v) aa).drop 4)⟩) rfl dK (fun g' hg'=>.inl hg')
  have kw:=TT.ofW kv aX
  refine ⟨fun _=>kw,?_⟩
  refine qa3 kz ?_ _
  refine qab ?_
  refine qat [(8,.v (.slice am (((([]:Bs) ++ [by8 0,by8 0,by8 0,by8 0] ++ be 2 83 ++ be 2 (IntKind.i16.wrap v) ++ be 4 num ++ be 2 (-1) ++ [by8 0]) ++ qaa (IntKind.i16.wrap v) aa).length) ao))] aX ku fun rf kx=>?_
  refine wp_ret ?_
  refine qaG kx aX.cells (v:=.slice am (((([]:Bs) ++ [by8 0,by8 0,by8 0,by8 0] ++ be 2 83 ++ be 2 (IntKind.i16.wrap v) ++ be 4 num ++ be 2 (-1) ++ [by8 0]) ++ qaa (IntKind.i16.wrap v) aa).length) ao) kz ?_
  refine ⟨_,rfl,fun rg ky=>?_⟩
  have kA:=(EnvOk.places (tb':=[⟨b1,0,[.bool has,.string txt],true⟩,⟨ac,0,[.int .i16 (IntKind.i16.wrap v),.string ((aa.f 0).s),.slice ((aa.f 1).A) ((aa.f 1).l) ((aa.f 1).c),.map aa.m],true⟩,⟨af,0,[.bool has,.string txt],true⟩,⟨ae,0,[.pointer none],true⟩]) ky (show Pl [⟨b1,0,[.bool has,.string txt],true⟩,⟨ac,0,[.int .i16 (IntKind.i16.wrap v),.string ((aa.f 0).s),.slice ((aa.f 1).A) ((aa.f 1).l) ((aa.f 1).c),.map aa.m],true⟩,⟨af,0,[.bool has,.string txt],true⟩,⟨ae,0,[.pointer none],true⟩] [⟨b1,0,[.bool has,.string txt],true⟩,⟨ac,0,[.int .i16 (IntKind.i16.wrap v),.string ((aa.f 0).s),.slice ((aa.f 1).A) ((aa.f 1).l) ((aa.f 1).c),.map aa.m],true⟩,⟨af,0,[.bool has,.string txt],true⟩,⟨ae,0,[.pointer none],true⟩] from ⟨rfl,rfl,⟨rfl,rfl,⟨rfl,rfl,⟨rfl,rfl,trivial⟩⟩⟩⟩)).pk (env':=[(19,.v (.slice am (((([]:Bs) ++ [by8 0,by8 0,by8 0,by8 0] ++ be 2 83 ++ be 2 (IntKind.i16.wrap v) ++ be 4 num ++ be 2 (-1) ++ [by8 0]) ++ qaa (IntKind.i16.wrap v) aa).length) ao)),(16,.p 3 0),(17,.v (.iface 69 (.pointer (some ⟨ac,0,none⟩)))),(18,.v (.int .i32 num))])
  refine qal [4] [] [(6,.v (.slice am (((([]:Bs) ++ [by8 0,by8 0,by8 0,by8 0] ++ be 2 83 ++ be 2 (IntKind.i16.wrap v) ++ be 4 num ++ be 2 (-1) ++ [by8 0]) ++ qaa (IntKind.i16.wrap v) aa).length) ao))] aX kA fun rh kB=>?_
  refine qag (qab ?_)
  refine wp_ret ?_
  refine qaG kB aX.cells (v:=.slice am (((([]:Bs) ++ [by8 0,by8 0,by8 0,by8 0] ++ be 2 83 ++ be 2 (IntKind.i16.wrap v) ++ be 4 num ++ be 2 (-1) ++ [by8 0]) ++ qaa (IntKind.i16.wrap v) aa).length) ao) kz ?_
  refine ⟨_,rfl,fun ri kC=>?_⟩
  have kD:=(EnvOk.places (tb':=[⟨b1,0,[.bool has,.string txt],true⟩,⟨ac,0,[.int .i16 (IntKind.i16.wrap v),.string ((aa.f 0).s),.slice ((aa.f 1).A) ((aa.f 1).l) ((aa.f 1).c),.map aa.m],true⟩,⟨af,0,[.bool has,.string txt],true⟩,⟨ae,0,[.pointer none],true⟩]) kC (show Pl [⟨b1,0,[.bool has,.string txt],true⟩,⟨ac,0,[.int .i16 (IntKind.i16.wrap v),.string ((aa.f 0).s),.slice ((aa.f 1).A) ((aa.f 1).l) ((aa.f 1).c),.map aa.m],true⟩] [⟨b1,0,[.bool has,.string txt],true⟩,⟨ac,0,[.int .i16 (IntKind.i16.wrap v),.string ((aa.f 0).s),.slice ((aa.f 1).A) ((aa.f 1).l) ((aa.f 1).c),.map aa.m],true⟩,⟨af,0,[.bool has,.string txt],true⟩,⟨ae,0,[.pointer none],true⟩] from ⟨rfl,rfl,⟨rfl,rfl,trivial⟩⟩)).pk (env':=[(25,.v (.slice am (((([]:Bs) ++ [by8 0,by8 0,by8 0,by8 0] ++ be 2 83 ++ be 2 (IntKind.i16.wrap v) ++ be 4 num ++ be 2 (-1) ++ [by8 0]) ++ qaa (IntKind.i16.wrap v) aa).length) ao)),(21,.v (.agg #[.bool has,.string txt])),(23,.v (.iface 69 (.pointer (some ⟨ac,0,none⟩)))),(24,.v (.int .i32 num))])
  refine qal [5,6] [] [(8,.v (.slice am (((([]:Bs) ++ [by8 0,by8 0,by8 0,by8 0] ++ be 2 83 ++ be 2 (IntKind.i16.wrap v) ++ be 4 num ++ be 2 (-1) ++ [by8 0]) ++ qaa (IntKind.i16.wrap v) aa).length) ao)),(9,.v (.bool true))] aX kD fun rj kE=>?_
  refine qag (qab ?_)
  refine wp_ret ?_
  refine qaG kE aX.cells (v:=.tuple #[.slice am (((([]:Bs) ++ [by8 0,by8 0,by8 0,by8 0] ++ be 2 83 ++ be 2 (IntKind.i16.wrap v) ++ be 4 num ++ be 2 (-1) ++ [by8 0]) ++ qaa (IntKind.i16.wrap v) aa).length) ao,.bool true]) kz ?_
  have kF:be 4 (IntKind.i32.wrap (((((([]:Bs) ++ [by8 0,by8 0,by8 0,by8 0] ++ be 2 83 ++ be 2 (IntKind.i16.wrap v) ++ be 4 num ++ be 2 (-1) ++ [by8 0]) ++ qaa (IntKind.i16.wrap v) aa).length) - 4:Nat):Int)) ++ ((([]:Bs) ++ [by8 0,by8 0,by8 0,by8 0] ++ be 2 83 ++ be 2 (IntKind.i16.wrap v) ++ be 4 num ++ be 2 (-1) ++ [by8 0]) ++ qaa (IntKind.i16.wrap v) aa).drop 4 = (qbb 83 (IntKind.i16.wrap v) num has (sb txt) (decide ((IntKind.i16.wrap v) ≥ 0)) (qaa (IntKind.i16.wrap v) aa)):=qcO (R:=outB 83 (IntKind.i16.wrap v) num has (sb txt) (decide ((IntKind.i16.wrap v) ≥ 0)) (qaa (IntKind.i16.wrap v) aa)) (by simp [outB,qd2,qbW,aJ,bk])
  exact qcP aX (k:=0) rfl (kF.trans (by rw [ba])) (by simp only [List.length_append,List.length_cons,List.length_nil]; omega)
 have my:=of_decide_eq_false bk
 refine wp_skip ?_
 refine qab ?_
 refine qae [0,1,2,3] kz ?_
 refine qal [0,1] [2,3] [(49,.v (.iface 69 (.pointer (some ⟨ac,0,none⟩)))),(50,.v (.slice aB ((([]:Bs) ++ [by8 0,by8 0,by8 0,by8 0] ++ be 2 83 ++ be 2 (IntKind.i16.wrap v) ++ be 4 num ++ be 2 (-1)).length) aC))] az cG fun rl kG=>?_
 have kH:=(qaI _ ((((((((aP.trans aQ).trans bX).trans bY).trans bZ).trans cd).trans cg).trans cm).trans cq).step immM ((((((((aP.trans aQ).trans bX).trans bY).trans bZ).trans cd).trans cg).trans cm).trans cq).to' cJ)
 have dW:=az.strImm (G:=F) 1 rfl
 have hk_:=qaI _ (Step.refl _ Nil) nilM (fun b o h_ _=>qge h_) kH
 refine qao (qc3 kG (t := 69) (v := (.pointer (some ⟨ac, 0, none⟩))) (v' := (.pointer (some ⟨ac, 0, none⟩))) (name := "AppendTo") (f := 249) (vs := [.slice aB ((([] : Bs) ++ [by8 0, by8 0, by8 0, by8 0] ++ be 2 83 ++ be 2 (IntKind.i16.wrap v) ++ be 4 num ++ be 2 (-1)).length) aC]) (d := 51) kz (fun _ => by kernel_rfl) Tryz.call249 (qbk (IntKind.i16.wrap v) aa ac 0 aB aC (([] : Bs) ++ [by8 0, by8 0, by8 0, by8 0] ++ be 2 83 ++ be 2 (IntKind.i16.wrap v) ++ be 4 num ++ be 2 (-1)) _ _ dW hk_ (qgc 0 rfl) (az.own 0 _ rfl) (by first | omega | (simp only [List.length_append, List.length_cons, List.length_nil, be_length, qbW]; omega) | (simp; omega))) ?_)
 rintro e_ rm ⟨ap,ar,rfl,kI,dL,dM⟩
 refine ⟨_,rfl,fun rn kJ=>?_⟩
 have dN:WOk _ _ _ _ [brow ap ar 5 ((([]:Bs) ++ [by8 0,by8 0,by8 0,by8 0] ++ be 2 83 ++ be 2 (IntKind.i16.wrap v) ++ be 4 num ++ be 2 (-1)) ++ qaa (IntKind.i16.wrap v) aa)]:=az.grow (k:=0) rfl dL kI dM
 have mz:=Fr.grow [⟨b1,0,[.bool has,.string txt],true⟩,⟨ac,0,[.int .i16 (IntKind.i16.wrap v),.string ((aa.f 0).s),.slice ((aa.f 1).A) ((aa.f 1).l) ((aa.f 1).c),.map aa.m],true⟩,⟨af,0,[.bool has,.string txt],true⟩,⟨ae,0,[.pointer none],true⟩] (k:=0) (rs:=[brow aB aC 5 (([]:Bs) ++ [by8 0,by8 0,by8 0,by8 0] ++ be 2 83 ++ be 2 (IntKind.i16.wrap v) ++ be 4 num ++ be 2 (-1))]) (r':=(brow ap ar 5 ((([]:Bs) ++ [by8 0,by8 0,by8 0,by8 0] ++ be 2 83 ++ be 2 (IntKind.i16.wrap v) ++ be 4 num ++ be 2 (-1)) ++ qaa (IntKind.i16.wrap v) aa))) rfl dL dM
 refine qal [3] [] [(1,.v (.slice ap (((([]:Bs) ++ [by8 0,by8 0,by8 0,by8 0] ++ be 2 83 ++ be 2 (IntKind.i16.wrap v) ++ be 4 num ++ be 2 (-1)) ++ qaa (IntKind.i16.wrap v) aa).length) ar))] dN kJ fun ro kK=>?_
 refine qag (qab ?_)
 refine qbp 7 kz dN fun rp mA cu bq=>?_
 refine qa4 [0,2] [(1,.v (.slice ap (((([]:Bs) ++ [by8 0,by8 0,by8 0,by8 0] ++ be 2 83 ++ be 2 (IntKind.i16.wrap v) ++ be 4 num ++ be 2 (-1)) ++ qaa (IntKind.i16.wrap v) aa).length) ar)),(52,.v (.slice ap (((([]:Bs) ++ [by8 0,by8 0,by8 0,by8 0] ++ be 2 83 ++ be 2 (IntKind.i16.wrap v) ++ be 4 num ++ be 2 (-1)) ++ qaa (IntKind.i16.wrap v) aa).length) ar)),(54,.v (.slice ap (((([]:Bs) ++ [by8 0,by8 0,by8 0,by8 0] ++ be 2 83 ++ be 2 (IntKind.i16.wrap v) ++ be 4 num ++ be 2 (-1)) ++ qaa (IntKind.i16.wrap v) aa).length) ar))] 5 (qad qaj) (fun _ h=>h.cells) bq kK fun rq dO=>?_
 refine qeH (i:=1) (j:=3) kz ?_ ?_
 ·
  refine (qbH dO (t:=24) (A:=ap) (m:=((([]:Bs) ++ [by8 0,by8 0,by8 0,by8 0] ++ be 2 83 ++ be 2 (IntKind.i16.wrap v) ++ be 4 num ++ be 2 (-1)) ++ qaa (IntKind.i16.wrap v) aa).length) (cp:=ar) (q:=0) (d:=53) (j:=0) kz (e:=5) (size:=1) (bytes:=1) kz (rfl) (by omega) fun rt kL=>?_)
  refine ⟨fun _=>bq,?_⟩
  refine qaR (i:=3) kz (qbz kL (t:=24) (A:=ap) (m:=(((([]:Bs) ++ [by8 0,by8 0,by8 0,by8 0] ++ be 2 83 ++ be 2 (IntKind.i16.wrap v) ++ be 4 num ++ be 2 (-1)) ++ qaa (IntKind.i16.wrap v) aa).length)) (cp:=ar) (q:=4) (d:=55) (j:=4) kz (e:=5) (bytes:=1) kz (rfl) (by first | omega | (simp only [List.length_append,List.length_cons,List.length_nil]; omega)) fun ru kM=>?_)
  refine ⟨fun _=>bq,?_⟩
  refine qa4 [4,5] [(1,.v (.slice ap (((([]:Bs) ++ [by8 0,by8 0,by8 0,by8 0] ++ be 2 83 ++ be 2 (IntKind.i16.wrap v) ++ be 4 num ++ be 2 (-1)) ++ qaa (IntKind.i16.wrap v) aa).length) ar)),(53,.v (.slice ap 0 ar)),(57,.v (.int .i32 (IntKind.i32.wrap (((((([]:Bs) ++ [by8 0,by8 0,by8 0,by8 0] ++ be 2 83 ++ be 2 (IntKind.i16.wrap v) ++ be 4 num ++ be 2 (-1)) ++ qaa (IntKind.i16.wrap v) aa).length) - 4:Nat):Int))))] 1 (qad qaj) (fun _ h=>h.cells) bq kM fun rv kN=>?_
  refine qaR (i:=6) kz (qan kN (f:=133) (vs:=[.slice ap 0 ar,.int .i32 (IntKind.i32.wrap (((((([]:Bs) ++ [by8 0,by8 0,by8 0,by8 0] ++ be 2 83 ++ be 2 (IntKind.i16.wrap v) ++ be 4 num ++ be 2 (-1)) ++ qaa (IntKind.i16.wrap v) aa).length) - 4:Nat):Int))]) (d:=58) kz Tryz.call133 (qbK (IntKind.i32.wrap (((((([]:Bs) ++ [by8 0,by8 0,by8 0,by8 0] ++ be 2 83 ++ be 2 (IntKind.i16.wrap v) ++ be 4 num ++ be 2 (-1)) ++ qaa (IntKind.i16.wrap v) aa).length) - 4:Nat):Int)) ap ar ((([]:Bs) ++ [by8 0,by8 0,by8 0,by8 0] ++ be 2 83 ++ be 2 (IntKind.i16.wrap v) ++ be 4 num ++ be 2 (-1)) ++ qaa (IntKind.i16.wrap v) aa) _ (cu.own 0 _ rfl) (by simp only [List.length_append,List.length_cons,List.length_nil]; omega)) ?_)
  rintro e_ rx ⟨rfl,kO,dP⟩
  refine ⟨_,rfl,fun ry kP=>?_⟩
  have aY:WOk _ _ _ _ [⟨ap,ar,5,1,((([]:Bs) ++ [by8 0,by8 0,by8 0,by8 0] ++ be 2 83 ++ be 2 (IntKind.i16.wrap v) ++ be 4 num ++ be 2 (-1)) ++ qaa (IntKind.i16.wrap v) aa).length,bc (be 4 (IntKind.i32.wrap (((((([]:Bs) ++ [by8 0,by8 0,by8 0,by8 0] ++ be 2 83 ++ be 2 (IntKind.i16.wrap v) ++ be 4 num ++ be 2 (-1)) ++ qaa (IntKind.i16.wrap v) aa).length) - 4:Nat):Int)) ++ ((([]:Bs) ++ [by8 0,by8 0,by8 0,by8 0] ++ be 2 83 ++ be 2 (IntKind.i16.wrap v) ++ be 4 num ++ be 2 (-1)) ++ qaa (IntKind.i16.wrap v) aa).drop 4)⟩]:=cu.grow (k:=0) (r':=⟨ap,ar,5,1,((([]:Bs) ++ [by8 0,by8 0,by8 0,by8 0] ++ be 2 83 ++ be 2 (IntKind.i16.wrap v) ++ be 4 num ++ be 2 (-1)) ++ qaa (IntKind.i16.wrap v) aa).length,bc (be 4 (IntKind.i32.wrap (((((([]:Bs) ++ [by8 0,by8 0,by8 0,by8 0] ++ be 2 83 ++ be 2 (IntKind.i16.wrap v) ++ be 4 num ++ be 2 (-1)) ++ qaa (IntKind.i16.wrap v) aa).length) - 4:Nat):Int)) ++ ((([]:Bs) ++ [by8 0,by8 0,by8 0,by8 0] ++ be 2 83 ++ be 2 (IntKind.i16.wrap v) ++ be 4 num ++ be 2 (-1)) ++ qaa (IntKind.i16.wrap v) aa).drop 4)⟩) rfl dP kO (fun g' hg'=>.inl hg')
  have kQ:=Fr.grow [⟨b1,0,[.bool has,.string txt],true⟩,⟨ac,0,[.int .i16 (IntKind.i16.wrap v),.string ((aa.f 0).s),.slice ((aa.f 1).A) ((aa.f 1).l) ((aa.f 1).c),.map aa.m],true⟩,⟨af,0,[.bool has,.string txt],true⟩,⟨ae,0,[.pointer none],true⟩] (k:=0) (rs:=[brow ap ar 5 ((([]:Bs) ++ [by8 0,by8 0,by8 0,by8 0] ++ be 2 83 ++ be 2 (IntKind.i16.wrap v) ++ be 4 num ++ be 2 (-1)) ++ qaa (IntKind.i16.wrap v) aa)]) (r':=⟨ap,ar,5,1,((([]:Bs) ++ [by8 0,by8 0,by8 0,by8 0] ++ be 2 83 ++ be 2 (IntKind.i16.wrap v) ++ be 4 num ++ be 2 (-1)) ++ qaa (IntKind.i16.wrap v) aa).length,bc (be 4 (IntKind.i32.wrap (((((([]:Bs) ++ [by8 0,by8 0,by8 0,by8 0] ++ be 2 83 ++ be 2 (IntKind.i16.wrap v) ++ be 4 num ++ be 2 (-1)) ++ qaa (IntKind.i16.wrap v) aa).length) - 4:Nat):Int)) ++ ((([]:Bs) ++ [by8 0,by8 0,by8 0,by8 0] ++ be 2 83 ++ be 2 (IntKind.i16.wrap v) ++ be 4 num ++ be 2 (-1)) ++ qaa (IntKind.i16.wrap v) aa).drop 4)⟩) rfl dP (fun g' hg'=>.inl hg')
  have kR:=TT.ofW kQ aY
  refine ⟨fun _=>kR,?_⟩
  refine qa3 kz ?_ _
  refine qab ?_
  refine qat [(8,.v (.slice ap (((([]:Bs) ++ [by8 0,by8 0,by8 0,by8 0] ++ be 2 83 ++ be 2 (IntKind.i16.wrap v) ++ be 4 num ++ be 2 (-1)) ++ qaa (IntKind.i16.wrap v) aa).length) ar))] aY kP fun rz kS=>?_
  refine wp_ret ?_
  refine qaG kS aY.cells (v:=.slice ap (((([]:Bs) ++ [by8 0,by8 0,by8 0,by8 0] ++ be 2 83 ++ be 2 (IntKind.i16.wrap v) ++ be 4 num ++ be 2 (-1)) ++ qaa (IntKind.i16.wrap v) aa).length) ar) kz ?_
  refine ⟨_,rfl,fun rA kT=>?_⟩
  have kU:=(EnvOk.places (tb':=[⟨b1,0,[.bool has,.string txt],true⟩,⟨ac,0,[.int .i16 (IntKind.i16.wrap v),.string ((aa.f 0).s),.slice ((aa.f 1).A) ((aa.f 1).l) ((aa.f 1).c),.map aa.m],true⟩,⟨af,0,[.bool has,.string txt],true⟩,⟨ae,0,[.pointer none],true⟩]) kT (show Pl [⟨b1,0,[.bool has,.string txt],true⟩,⟨ac,0,[.int .i16 (IntKind.i16.wrap v),.string ((aa.f 0).s),.slice ((aa.f 1).A) ((aa.f 1).l) ((aa.f 1).c),.map aa.m],true⟩,⟨af,0,[.bool has,.string txt],true⟩,⟨ae,0,[.pointer none],true⟩] [⟨b1,0,[.bool has,.string txt],true⟩,⟨ac,0,[.int .i16 (IntKind.i16.wrap v),.string ((aa.f 0).s),.slice ((aa.f 1).A) ((aa.f 1).l) ((aa.f 1).c),.map aa.m],true⟩,⟨af,0,[.bool has,.string txt],true⟩,⟨ae,0,[.pointer none],true⟩] from ⟨rfl,rfl,⟨rfl,rfl,⟨rfl,rfl,⟨rfl,rfl,trivial⟩⟩⟩⟩)).pk (env':=[(19,.v (.slice ap (((([]:Bs) ++ [by8 0,by8 0,by8 0,by8 0] ++ be 2 83 ++ be 2 (IntKind.i16.wrap v) ++ be 4 num ++ be 2 (-1)) ++ qaa (IntKind.i16.wrap v) aa).length) ar)),(16,.p 3 0),(17,.v (.iface 69 (.pointer (some ⟨ac,0,none⟩)))),(18,.v (.int .i32 num))])
  refine qal [4] [] [(6,.v (.slice ap (((([]:Bs) ++ [by8 0,by8 0,by8 0,by8 0] ++ be 2 83 ++ be 2 (IntKind.i16.wrap v) ++ be 4 num ++ be 2 (-1)) ++ qaa (IntKind.i16.wrap v) aa).length) ar))] aY kU fun rB kV=>?_
  refine qag (qab ?_)
  refine wp_ret ?_
  refine qaG kV aY.cells (v:=.slice ap (((([]:Bs) ++ [by8 0,by8 0,by8 0,by8 0] ++ be 2 83 ++ be 2 (IntKind.i16.wrap v) ++ be 4 num ++ be 2 (-1)) ++ qaa (IntKind.i16.wrap v) aa).length) ar) kz ?_
  refine ⟨_,rfl,fun rC kW=>?_⟩
  have kX:=(EnvOk.places (tb':=[⟨b1,0,[.bool has,.string txt],true⟩,⟨ac,0,[.int .i16 (IntKind.i16.wrap v),.string ((aa.f 0).s),.slice ((aa.f 1).A) ((aa.f 1).l) ((aa.f 1).c),.map aa.m],true⟩,⟨af,0,[.bool has,.string txt],true⟩,⟨ae,0,[.pointer none],true⟩]) kW (show Pl [⟨b1,0,[.bool has,.string txt],true⟩,⟨ac,0,[.int .i16 (IntKind.i16.wrap v),.string ((aa.f 0).s),.slice ((aa.f 1).A) ((aa.f 1).l) ((aa.f 1).c),.map aa.m],true⟩] [⟨b1,0,[.bool has,.string txt],true⟩,⟨ac,0,[.int .i16 (IntKind.i16.wrap v),.string ((aa.f 0).s),.slice ((aa.f 1).A) ((aa.f 1).l) ((aa.f 1).c),.map aa.m],true⟩,⟨af,0,[.bool has,.string txt],true⟩,⟨ae,0,[.pointer none],true⟩] from ⟨rfl,rfl,⟨rfl,rfl,trivial⟩⟩)).pk (env':=[(25,.v (.slice ap (((([]:Bs) ++ [by8 0,by8 0,by8 0,by8 0] ++ be 2 83 ++ be 2 (IntKind.i16.wrap v) ++ be 4 num ++ be 2 (-1)) ++ qaa (IntKind.i16.wrap v) aa).length) ar)),(21,.v (.agg #[.bool has,.string txt])),(23,.v (.iface 69 (.pointer (some ⟨ac,0,none⟩)))),(24,.v (.int .i32 num))])
  refine qal [5,6] [] [(8,.v (.slice ap (((([]:Bs) ++ [by8 0,by8 0,by8 0,by8 0] ++ be 2 83 ++ be 2 (IntKind.i16.wrap v) ++ be 4 num ++ be 2 (-1)) ++ qaa (IntKind.i16.wrap v) aa).length) ar)),(9,.v (.bool true))] aY kX fun rD kY=>?_
  refine qag (qab ?_)
  refine wp_ret ?_
  refine qaG kY aY.cells (v:=.tuple #[.slice ap (((([]:Bs) ++ [by8 0,by8 0,by8 0,by8 0] ++ be 2 83 ++ be 2 (IntKind.i16.wrap v) ++ be 4 num ++ be 2 (-1)) ++ qaa (IntKind.i16.wrap v) aa).length) ar,.bool true]) kz ?_
  have kZ:be 4 (IntKind.i32.wrap (((((([]:Bs) ++ [by8 0,by8 0,by8 0,by8 0] ++ be 2 83 ++ be 2 (IntKind.i16.wrap v) ++ be 4 num ++ be 2 (-1)) ++ qaa (IntKind.i16.wrap v) aa).length) - 4:Nat):Int)) ++ ((([]:Bs) ++ [by8 0,by8 0,by8 0,by8 0] ++ be 2 83 ++ be 2 (IntKind.i16.wrap v) ++ be 4 num ++ be 2 (-1)) ++ qaa (IntKind.i16.wrap v) aa).drop 4 = (qbb 83 (IntKind.i16.wrap v) num has (sb txt) (decide ((IntKind.i16.wrap v) ≥ 0)) (qaa (IntKind.i16.wrap v) aa)):=qcO (R:=outB 83 (IntKind.i16.wrap v) num has (sb txt) (decide ((IntKind.i16.wrap v) ≥ 0)) (qaa (IntKind.i16.wrap v) aa)) (by simp [outB,qd2,qbW,aJ,bk])
  exact qcP aY (k:=0) rfl (kZ.trans (by rw [ba])) (by simp only [List.length_append,List.length_cons,List.length_nil]; omega)
 refine (qbz dO (t:=24) (A:=ap) (m:=(((([]:Bs) ++ [by8 0,by8 0,by8 0,by8 0] ++ be 2 83 ++ be 2 (IntKind.i16.wrap v) ++ be 4 num ++ be 2 (-1)) ++ qaa (IntKind.i16.wrap v) aa).length)) (cp:=ar) (q:=4) (d:=55) (j:=4) kz (e:=5) (bytes:=1) kz (rfl) (by first | omega | (simp only [List.length_append,List.length_cons,List.length_nil]; omega)) fun rE k5=>?_)
 refine ⟨fun _=>bq,?_⟩
 refine qa4 [4,5] [(1,.v (.slice ap (((([]:Bs) ++ [by8 0,by8 0,by8 0,by8 0] ++ be 2 83 ++ be 2 (IntKind.i16.wrap v) ++ be 4 num ++ be 2 (-1)) ++ qaa (IntKind.i16.wrap v) aa).length) ar)),(52,.v (.slice ap (((([]:Bs) ++ [by8 0,by8 0,by8 0,by8 0] ++ be 2 83 ++ be 2 (IntKind.i16.wrap v) ++ be 4 num ++ be 2 (-1)) ++ qaa (IntKind.i16.wrap v) aa).length) ar)),(57,.v (.int .i32 (IntKind.i32.wrap (((((([]:Bs) ++ [by8 0,by8 0,by8 0,by8 0] ++ be 2 83 ++ be 2 (IntKind.i16.wrap v) ++ be 4 num ++ be 2 (-1)) ++ qaa (IntKind.i16.wrap v) aa).length) - 4:Nat):Int))))] 2 (qad qaj) (fun _ h=>h.cells) bq k5 fun rF k6=>?_
 refine qaR (i:=1) kz (qbH k6 (t:=24) (A:=ap) (m:=((([]:Bs) ++ [by8 0,by8 0,by8 0,by8 0] ++ be 2 83 ++ be 2 (IntKind.i16.wrap v) ++ be 4 num ++ be 2 (-1)) ++ qaa (IntKind.i16.wrap v) aa).length) (cp:=ar) (q:=0) (d:=53) (j:=0) kz (e:=5) (size:=1) (bytes:=1) kz (rfl) (by omega) fun rG k7=>?_)
 refine ⟨fun _=>bq,?_⟩
 refine qaR (i:=6) kz (qan k7 (f:=133) (vs:=[.slice ap 0 ar,.int .i32 (IntKind.i32.wrap (((((([]:Bs) ++ [by8 0,by8 0,by8 0,by8 0] ++ be 2 83 ++ be 2 (IntKind.i16.wrap v) ++ be 4 num ++ be 2 (-1)) ++ qaa (IntKind.i16.wrap v) aa).length) - 4:Nat):Int))]) (d:=58) kz Tryz.call133 (qbK (IntKind.i32.wrap (((((([]:Bs) ++ [by8 0,by8 0,by8 0,by8 0] ++ be 2 83 ++ be 2 (IntKind.i16.wrap v) ++ be 4 num ++ be 2 (-1)) ++ qaa (IntKind.i16.wrap v) aa).length) - 4:Nat):Int)) ap ar ((([]:Bs) ++ [by8 0,by8 0,by8 0,by8 0] ++ be 2 83 ++ be 2 (IntKind.i16.wrap v) ++ be 4 num ++ be 2 (-1)) ++ qaa (IntKind.i16.wrap v) aa) _ (cu.own 0 _ rfl) (by simp only [List.length_append,List.length_cons,List.length_nil]; omega)) ?_)
 rintro e_ rH ⟨rfl,k8,dQ⟩
 refine ⟨_,rfl,fun rI k9=>?_⟩
 have aZ:WOk _ _ _ _ [⟨ap,ar,5,1,((([]:Bs) ++ [by8 0,by8 0,by8 0,by8 0] ++ be 2 83 ++ be 2 (IntKind.i16.wrap v) ++ be 4 num ++ be 2 (-1)) ++ qaa (IntKind.i16.wrap v) aa).length,bc (be 4 (IntKind.i32.wrap (((((([]:Bs) ++ [by8 0,by8 0,by8 0,by8 0] ++ be 2 83 ++ be 2 (IntKind.i16.wrap v) ++ be 4 num ++ be 2 (-1)) ++ qaa (IntKind.i16.wrap v) aa).length) - 4:Nat):Int)) ++ ((([]:Bs) ++ [by8 0,by8 0,by8 0,by8 0] ++ be 2 83 ++ be 2 (IntKind.i16.wrap v) ++ be 4 num ++ be 2 (-1)) ++ qaa (IntKind.i16.wrap v) aa).drop 4)⟩]:=cu.grow (k:=0) (r':=⟨ap,ar,5,1,((([]:Bs) ++ [by8 0,by8 0,by8 0,by8 0] ++ be 2 83 ++ be 2 (IntKind.i16.wrap v) ++ be 4 num ++ be 2 (-1)) ++ qaa (IntKind.i16.wrap v) aa).length,bc (be 4 (IntKind.i32.wrap (((((([]:Bs) ++ [by8 0,by8 0,by8 0,by8 0] ++ be 2 83 ++ be 2 (IntKind.i16.wrap v) ++ be 4 num ++ be 2 (-1)) ++ qaa (IntKind.i16.wrap v) aa).length) - 4:Nat):Int)) ++ ((([]:Bs) ++ [by8 0,by8 0,by8 0,by8 0] ++ be 2 83 ++ be 2 (IntKind.i16.wrap v) ++ be 4 num ++ be 2 (-1)) ++ qaa (IntKind.i16.wrap v) aa).drop 4)⟩) rfl dQ k8 (fun g' hg'=>.inl hg')
 have la:=Fr.grow [⟨b1,0,[.bool has,.string txt],true⟩,⟨ac,0,[.int .i16 (IntKind.i16.wrap v),.string ((aa.f 0).s),.slice ((aa.f 1).A) ((aa.f 1).l) ((aa.f 1).c),.map aa.m],true⟩,⟨af,0,[.bool has,.string txt],true⟩,⟨ae,0,[.pointer none],true⟩] (k:=0) (rs:=[brow ap ar 5 ((([]:Bs) ++ [by8 0,by8 0,by8 0,by8 0] ++ be 2 83 ++ be 2 (IntKind.i16.wrap v) ++ be 4 num ++ be 2 (-1)) ++ qaa (IntKind.i16.wrap v) aa)]) (r':=⟨ap,ar,5,1,((([]:Bs) ++ [by8 0,by8 0,by8 0,by8 0] ++ be 2 83 ++ be 2 (IntKind.i16.wrap v) ++ be 4 num ++ be 2 (-1)) ++ qaa (IntKind.i16.wrap v) aa).length,bc (be 4 (IntKind.i32.wrap (((((([]:Bs) ++ [by8 0,by8 0,by8 0,by8 0] ++ be 2 83 ++ be 2 (IntKind.i16.wrap v) ++ be 4 num ++ be 2 (-1)) ++ qaa (IntKind.i16.wrap v) aa).length) - 4:Nat):Int)) ++ ((([]:Bs) ++ [by8 0,by8 0,by8 0,by8 0] ++ be 2 83 ++ be 2 (IntKind.i16.wrap v) ++ be 4 num ++ be 2 (-1)) ++ qaa (IntKind.i16.wrap v) aa).drop 4)⟩) rfl dQ (fun g' hg'=>.inl hg')
 have lb:=TT.ofW la aZ
 refine ⟨fun _=>lb,?_⟩
 refine qa3 kz ?_ _
 refine qab ?_
 refine qat [(8,.v (.slice ap (((([]:Bs) ++ [by8 0,by8 0,by8 0,by8 0] ++ be 2 83 ++ be 2 (IntKind.i16.wrap v) ++ be 4 num ++ be 2 (-1)) ++ qaa (IntKind.i16.wrap v) aa).length) ar))] aZ k9 fun rJ lc=>?_
 refine wp_ret ?_
 refine qaG lc aZ.cells (v:=.slice ap (((([]:Bs) ++ [by8 0,by8 0,by8 0,by8 0] ++ be 2 83 ++ be 2 (IntKind.i16.wrap v) ++ be 4 num ++ be 2 (-1)) ++ qaa (IntKind.i16.wrap v) aa).length) ar) kz ?_
 refine ⟨_,rfl,fun rK ld=>?_⟩
 have lf:=(EnvOk.places (tb':=[⟨b1,0,[.bool has,.string txt],true⟩,⟨ac,0,[.int .i16 (IntKind.i16.wrap v),.string ((aa.f 0).s),.slice ((aa.f 1).A) ((aa.f 1).l) ((aa.f 1).c),.map aa.m],true⟩,⟨af,0,[.bool has,.string txt],true⟩,⟨ae,0,[.pointer none],true⟩]) ld (show Pl [⟨b1,0,[.bool has,.string txt],true⟩,⟨ac,0,[.int .i16 (IntKind.i16.wrap v),.string ((aa.f 0).s),.slice ((aa.f 1).A) ((aa.f 1).l) ((aa.f 1).c),.map aa.m],true⟩,⟨af,0,[.bool has,.string txt],true⟩,⟨ae,0,[.pointer none],true⟩] [⟨b1,0,[.bool has,.string txt],true⟩,⟨ac,0,[.int .i16 (IntKind.i16.wrap v),.string ((aa.f 0).s),.slice ((aa.f 1).A) ((aa.f 1).l) ((aa.f 1).c),.map aa.m],true⟩,⟨af,0,[.bool has,.string txt],true⟩,⟨ae,0,[.pointer none],true⟩] from ⟨rfl,rfl,⟨rfl,rfl,⟨rfl,rfl,⟨rfl,rfl,trivial⟩⟩⟩⟩)).pk (env':=[(19,.v (.slice ap (((([]:Bs) ++ [by8 0,by8 0,by8 0,by8 0] ++ be 2 83 ++ be 2 (IntKind.i16.wrap v) ++ be 4 num ++ be 2 (-1)) ++ qaa (IntKind.i16.wrap v) aa).length) ar)),(16,.p 3 0),(17,.v (.iface 69 (.pointer (some ⟨ac,0,none⟩)))),(18,.v (.int .i32 num))])
 refine qal [4] [] [(6,.v (.slice ap (((([]:Bs) ++ [by8 0,by8 0,by8 0,by8 0] ++ be 2 83 ++ be 2 (IntKind.i16.wrap v) ++ be 4 num ++ be 2 (-1)) ++ qaa (IntKind.i16.wrap v) aa).length) ar))] aZ lf fun rL lg=>?_
 refine qag (qab ?_)
 refine wp_ret ?_
 refine qaG lg aZ.cells (v:=.slice ap (((([]:Bs) ++ [by8 0,by8 0,by8 0,by8 0] ++ be 2 83 ++ be 2 (IntKind.i16.wrap v) ++ be 4 num ++ be 2 (-1)) ++ qaa (IntKind.i16.wrap v) aa).length) ar) kz ?_
 refine ⟨_,rfl,fun rM lh=>?_⟩
 have li:=(EnvOk.places (tb':=[⟨b1,0,[.bool has,.string txt],true⟩,⟨ac,0,[.int .i16 (IntKind.i16.wrap v),.string ((aa.f 0).s),.slice ((aa.f 1).A) ((aa.f 1).l) ((aa.f 1).c),.map aa.m],true⟩,⟨af,0,[.bool has,.string txt],true⟩,⟨ae,0,[.pointer none],true⟩]) lh (show Pl [⟨b1,0,[.bool has,.string txt],true⟩,⟨ac,0,[.int .i16 (IntKind.i16.wrap v),.string ((aa.f 0).s),.slice ((aa.f 1).A) ((aa.f 1).l) ((aa.f 1).c),.map aa.m],true⟩] [⟨b1,0,[.bool has,.string txt],true⟩,⟨ac,0,[.int .i16 (IntKind.i16.wrap v),.string ((aa.f 0).s),.slice ((aa.f 1).A) ((aa.f 1).l) ((aa.f 1).c),.map aa.m],true⟩,⟨af,0,[.bool has,.string txt],true⟩,⟨ae,0,[.pointer none],true⟩] from ⟨rfl,rfl,⟨rfl,rfl,trivial⟩⟩)).pk (env':=[(25,.v (.slice ap (((([]:Bs) ++ [by8 0,by8 0,by8 0,by8 0] ++ be 2 83 ++ be 2 (IntKind.i16.wrap v) ++ be 4 num ++ be 2 (-1)) ++ qaa (IntKind.i16.wrap v) aa).length) ar)),(21,.v (.agg #[.bool has,.string txt])),(23,.v (.iface 69 (.pointer (some ⟨ac,0,none⟩)))),(24,.v (.int .i32 num))])
 refine qal [5,6] [] [(8,.v (.slice ap (((([]:Bs) ++ [by8 0,by8 0,by8 0,by8 0] ++ be 2 83 ++ be 2 (IntKind.i16.wrap v) ++ be 4 num ++ be 2 (-1)) ++ qaa (IntKind.i16.wrap v) aa).length) ar)),(9,.v (.bool true))] aZ li fun rN lj=>?_
 refine qag (qab ?_)
 refine wp_ret ?_
 refine qaG lj aZ.cells (v:=.tuple #[.slice ap (((([]:Bs) ++ [by8 0,by8 0,by8 0,by8 0] ++ be 2 83 ++ be 2 (IntKind.i16.wrap v) ++ be 4 num ++ be 2 (-1)) ++ qaa (IntKind.i16.wrap v) aa).length) ar,.bool true]) kz ?_
 have lm:be 4 (IntKind.i32.wrap (((((([]:Bs) ++ [by8 0,by8 0,by8 0,by8 0] ++ be 2 83 ++ be 2 (IntKind.i16.wrap v) ++ be 4 num ++ be 2 (-1)) ++ qaa (IntKind.i16.wrap v) aa).length) - 4:Nat):Int)) ++ ((([]:Bs) ++ [by8 0,by8 0,by8 0,by8 0] ++ be 2 83 ++ be 2 (IntKind.i16.wrap v) ++ be 4 num ++ be 2 (-1)) ++ qaa (IntKind.i16.wrap v) aa).drop 4 = (qbb 83 (IntKind.i16.wrap v) num has (sb txt) (decide ((IntKind.i16.wrap v) ≥ 0)) (qaa (IntKind.i16.wrap v) aa)):=qcO (R:=outB 83 (IntKind.i16.wrap v) num has (sb txt) (decide ((IntKind.i16.wrap v) ≥ 0)) (qaa (IntKind.i16.wrap v) aa)) (by simp [outB,qd2,qbW,aJ,bk])
 exact qcP aZ (k:=0) rfl (lm.trans (by rw [ba])) (by simp only [List.length_append,List.length_cons,List.length_nil]; omega)
theorem qcv (has:Bool) (txt:ByteArray) (num v:Int) (T:Tree) (B:Bs) {A2:Option Addr} {c2:Nat} {w:World} {F:Nat → Nat → Prop} (hB:qai (IntKind.i16.wrap v) T = B) (hs_:Octs w F A2 c2 B) (hc:qaP T) (hkey:T.ranged) (htx:txt.size ≤ 32767) (hroom:txt.size + B.length + 64 ≤ 1099511627776) :
  Calls Tryz.prog 37 #[.agg #[.bool has,.string txt],.int .i32 num,.int .i64 v,.slice A2 B.length c2] w (fun e w'=>∃ A c,e = .returned (.tuple #[.slice A (qbb 83 (IntKind.i16.wrap v) num has (sb txt) (decide ((IntKind.i16.wrap v) ≥ 0)) B).length c,.bool true]) ∧ w'.ownsRow w.heap.size 5 1 (.slice A (qbb 83 (IntKind.i16.wrap v) num has (sb txt) (decide ((IntKind.i16.wrap v) ≥ 0)) B).length c) (qbb 83 (IntKind.i16.wrap v) num has (sb txt) (decide ((IntKind.i16.wrap v) ≥ 0)) B).length (bc (qbb 83 (IntKind.i16.wrap v) num has (sb txt) (decide ((IntKind.i16.wrap v) ≥ 0)) B)) ∧ Step w w' Nil):=by
 subst hB
 exact qcA has txt num v T hs_ hc hkey htx hroom
end Go.Proofs.YtogokkkdfcgncaaGreatDoor.ME
namespace Go.Proofs.YtogokkkdfcgncaaGreatDoor.ME
open Go
open Go.RowKit
set_option linter.unusedVariables false
set_option linter.unusedSimpArgs false
set_option maxRecDepth 20000
section
variable {P:Program} {ops:Array Oper} {Q:Exit → Act → World → Prop} {n:Nat} {tb:Tb} {env:Env} {rs:List Rw} {w0:World} {M:Nat → Nat → Prop} {a:Act} {w:World}
theorem qfL {i d:Nat} {src dst e:TypeId} {s:ByteArray} {N:Act → World → Prop} (hW:WOk w0 M w tb rs) (hE:EnvOk n tb env a) (hsm:s.size ≤ 1099511627776)
  (K:∀ b c a' w',Fr w tb rs w' tb rs → WOk w0 M w' tb rs → (∀ G,Octs w' (Imm G w0 w' tb rs) (some ⟨b,0,none⟩) c (sb s)) → EnvOk n tb ((d,.v (.slice (some ⟨b,0,none⟩) (sb s).length c)) :: env) a' → N a' w')
  (h:qkl tb env ops n i = some (src,dst,.string s,d):=by kernel_rfl) (hs:P.underlying src = some .string:=by kernel_rfl) (hd:P.underlying dst = some (.slice e):=by kernel_rfl) (he:P.underlying e = some (.int .u8):=by kernel_rfl):wpOp P ops Q i N a w:=by
 unfold qkl at h
 split at h
 ·rename_i src' dst' x d' hop
  split at h
  ·rename_i v hx
   simp only [Option.some.injEq,Prod.mk.injEq] at h
   obtain ⟨rfl,rfl,rfl,rfl⟩:=h
   have hdn:=(qbo hE hop).choose_spec.2.2.2.1
   have hrun:=Lib.run_convert_string_bytes (P:=P) w src' dst' e s hs hd he
   have hst:Step w (Lib.bytesWorld w e s) Nil:=⟨rfl,rfl,by rw [Lib.bytesWorld_size]; omega,fun b hb=>by rw [Lib.bytesWorld_at_old w e s b hb]; exact Keeps.refl _ _⟩
   have hlen:(sb s).length = s.size:=qeq s
   have e1:=(qa0 hE hx).1
   refine qa5 hE hop (v:=.slice (some ⟨w.heap.size,0,none⟩) (sb s).length (grownCap w s.size 0 e)) (w':=Lib.bytesWorld w e s) (fun o' ho'=>?_) (K w.heap.size _ _ _ (Fr.nil tb rs hst) (hW.next_nil hst) (fun G=>?_) (hE.put hdn (.v _) trivial))
   ·unfold execOp
    rw [ho']
    simp only [SV.val] at e1
    simp only [e1,Sem.run_bind,hrun,Result.andThen_ok,Sem.run_pure,hlen]
   refine ⟨by rw [hlen]; exact grownCap_ge w s.size 0 e,by rw [hlen]; exact hsm,fun h=>(by cases h),fun ad hA _=>?_⟩
   obtain rfl:=Option.some.inj hA
   refine ⟨w.heap.size,0,rfl,fun q hq=>⟨rfl,fun j v hj=>?_⟩⟩
   have hj0:j = 0:=by
    cases j with
    | zero=>rfl
    | succ j=>simp at hj
   subst hj0
   simp only [List.getElem?_cons_zero,Option.some.injEq] at hj
   subst hj
   have h2:(Lib.bytesWorld w e s).heap.size = w.heap.size + 1:=Lib.bytesWorld_size w e s
   refine ⟨⟨.inr hW.step.size,by rw [h2]; exact Nat.lt_succ_self _,fun ha=>?_⟩,?_⟩
   ·have:=hW.act_live ha
    exact absurd this (Nat.lt_irrefl _)
   rw [Nat.zero_add,Nat.mul_one,Nat.add_zero,Lib.bytesWorld_cell w e s q (by rw [← hlen]; exact hq)]
   rfl
  cases h
 cases h
end
theorem qcH (w:World):Calls Tryz.prog 35 #[] w (qcI w (.int .i64 0)):=by
 refine enter (n:=4) Tryz.func35 rfl Tryz.ntmps35 kz fun a hE=>?_
 have hW:=WOk.start w Nil
 refine qat [] hW hE fun a1 hE2=>?_
 refine qae [0,1,2,3] kz ?_
 refine qao (qbf hE2 (f:=72) (vs:=[]) (d:=1) (n':=3) kz Tryz.call72 Tryz.func72 rfl Tryz.ntmps72 kz fun a3 hE4=>?_)
 refine qat [] hW hE4 fun a5 hE6=>?_
 refine qae [0] kz ?_
 refine qao (qbl hW hE6 (d:=1) (cs:=[.int .i16 0,.string ByteArray.empty,.slice none 0 0,.map none]) kz fun b7 a8 w9 ax ay az aa ab=>?_)
 refine qag (qab ?_)
 refine qae [0] kz ?_
 refine qao (qbf ab (f:=105) (vs:=[.pointer (some ⟨b7,0,none⟩)]) (d:=2) (n':=2) kz Tryz.call105 Tryz.func105 rfl Tryz.ntmps105 kz fun aA ac=>?_)
 have ae:=ac.recast 0 (.v (.pointer (some ⟨b7,0,none⟩))) (.p 0 0) rfl rfl (Nat.le_of_ble_eq_true (n:=1) rfl)
 refine wp_skip ?_
 refine qb9 ae aa.cells (v:=.tuple #[]) kz ?_
 refine ⟨_,rfl,fun aB af=>?_⟩
 have ag:=(EnvOk.places (tb':=[⟨b7,0,[.int .i16 0,.string ByteArray.empty,.slice none 0 0,.map none],true⟩]) af (show Pl [⟨b7,0,[.int .i16 0,.string ByteArray.empty,.slice none 0 0,.map none],true⟩] [⟨b7,0,[.int .i16 0,.string ByteArray.empty,.slice none 0 0,.map none],true⟩] from ⟨rfl,rfl,trivial⟩)).pk (env':=[(2,.v (.tuple #[])),(1,.p 0 0)])
 refine qag (qab ?_)
 refine qat [(0,.p 0 0)] aa ag fun aC ah=>?_
 refine wp_ret ?_
 refine qaG ah aa.cells (v:=.pointer (some ⟨b7,0,none⟩)) kz ?_
 refine ⟨_,rfl,fun aD ai=>?_⟩
 have aj:=(EnvOk.places (tb':=[⟨b7,0,[.int .i16 0,.string ByteArray.empty,.slice none 0 0,.map none],true⟩]) ai (show Pl [] [⟨b7,0,[.int .i16 0,.string ByteArray.empty,.slice none 0 0,.map none],true⟩] from trivial)).pk (env':=[(1,.v (.pointer (some ⟨b7,0,none⟩)))])
 have ak:=aj.recast 1 (.v (.pointer (some ⟨b7,0,none⟩))) (.p 0 0) rfl rfl (Nat.le_of_ble_eq_true (n:=1) rfl)
 have al:=ak.pick (ks:=[1]) (env':=[(1,.p 0 0)]) kz
 refine qao (qbf al (f:=73) (vs:=[.pointer (some ⟨b7,0,none⟩)]) (d:=2) (n':=3) kz Tryz.call73 Tryz.func73 rfl Tryz.ntmps73 kz fun aE am=>?_)
 have ao:=am.recast 0 (.v (.pointer (some ⟨b7,0,none⟩))) (.p 0 0) rfl rfl (Nat.le_of_ble_eq_true (n:=1) rfl)
 refine qat [] aa ao fun aF ap=>?_
 refine qat [(2,.v (.int .i16 0))] aa ap fun aG ar=>?_
 refine wp_ret ?_
 refine qaG ar aa.cells (v:=.int .i16 0) kz ?_
 refine ⟨_,rfl,fun aH au=>?_⟩
 have av:=(EnvOk.places (tb':=[⟨b7,0,[.int .i16 0,.string ByteArray.empty,.slice none 0 0,.map none],true⟩]) au (show Pl [⟨b7,0,[.int .i16 0,.string ByteArray.empty,.slice none 0 0,.map none],true⟩] [⟨b7,0,[.int .i16 0,.string ByteArray.empty,.slice none 0 0,.map none],true⟩] from ⟨rfl,rfl,trivial⟩)).pk (env':=[(2,.v (.int .i16 0)),(1,.p 0 0)])
 refine qal [2,3] [] [(0,.v (.int .i64 0))] aa av fun aI aw=>?_
 refine qag (qab ?_)
 refine wp_ret ?_
 refine qaG aw aa.cells (v:=.int .i64 0) kz ?_
 exact ⟨rfl,aa.step⟩
theorem qci:depths sInitializeShareGroupStateRequestF ≤ 8:=by simp [sInitializeShareGroupStateRequestF,Fld.depth.depths,Fld.depth]
theorem qbN (A:Option Addr) (c:Nat) (v:Int) (w:World):Calls Tryz.prog 19 #[.agg #[.slice A sInitializeShareGroupStateRequestF.length c,.int .i64 qac],.int .i64 v] w (qcI w (.bool (decide (v ≥ qac)))):=by
 refine enter (n:=14) Tryz.func19 rfl Tryz.ntmps19 kz fun a hE=>?_
 have hW:=WOk.start w Nil
 refine qae [0,1] kz ?_
 refine qao (qbm hW hE (d:=2) (cs:=[.slice A sInitializeShareGroupStateRequestF.length c,.int .i64 qac]) kz fun b1 a2 w3 hb4 hz5 hF6 hW7 hE8=>?_)
 refine qal [1] [] [(1,.v (.int .i64 v)),(2,.p 0 0)] hW7 hE8 fun a9 aa=>?_
 refine qag (qab ?_)
 refine qae [0,1,2,3,4,5,6,7,8,9] kz ?_
 refine qal [0,1,2,3] [4,5,6,7,8,9] [(1,.v (.int .i64 v)),(2,.p 0 0),(8,.v (.bool (decide (qac ≥ 0))))] hW7 aa fun ag ab=>?_
 have ac:(decide (qac ≥ 0)) = true:=by decide
 have ae:=ab.cast (env':=[(1,.v (.int .i64 v)),(2,.p 0 0),(8,.v (.bool true))]) (by rw [ac])
 refine qal [4,5,6,7,8,9] [] [(4,.v (.bool (decide (v ≥ qac))))] hW7 ae fun ah af=>?_
 refine qag (qab ?_)
 refine wp_ret ?_
 refine qaG af hW7.cells (v:=.bool (decide (v ≥ qac))) kz ?_
 exact ⟨rfl,hW7.step⟩
set_option maxHeartbeats 4000000 in
theorem qcw (x:Int) (hx:0 ≤ x) (hx':x < 256) (has:Bool) (txt:ByteArray) (htl:txt.size ≤ 1048576) (num:Int) (ct:List Value) (t:Tree) (w:World) (F:Nat → Nat → Prop) (ht:TreeR w F ct t) (hroom1:(qbg 8 sInitializeShareGroupStateRequestF qac (Int.tmod x (0 + 1)) t).length + 1048700 ≤ 1099511627776) (hcan:qaP (fitT (Int.tmod x (0 + 1)) 8 sInitializeShareGroupStateRequestF t)) (hkey:Tree.ranged (fitT (Int.tmod x (0 + 1)) 8 sInitializeShareGroupStateRequestF t)) (hfr:(qbb 83 (IntKind.i16.wrap (Int.tmod x (0 + 1))) num has (sb txt) (decide ((IntKind.i16.wrap (Int.tmod x (0 + 1))) ≥ 0)) (qbg 8 sInitializeShareGroupStateRequestF qac (Int.tmod x (0 + 1)) t)) = (qbb 83 (Int.tmod x (0 + 1)) num has (sb txt) (decide ((Int.tmod x (0 + 1)) ≥ qac)) (qbg 8 sInitializeShareGroupStateRequestF qac (Int.tmod x (0 + 1)) t))) (hpure:qai (IntKind.i16.wrap (Int.tmod x (0 + 1))) (fitT (Int.tmod x (0 + 1)) 8 sInitializeShareGroupStateRequestF t) = qbg 8 sInitializeShareGroupStateRequestF qac (Int.tmod x (0 + 1)) t) :
  Calls Tryz.prog 9 #[.int .u8 x,.agg #[.bool has,.string txt],.int .i32 num,.agg ct.toArray] w (qcI w (.bool true)):=by
 obtain ⟨n1,s2,b3,l4,u5,A6,c7,A8,c9,aX,aY,db,rfl,rfl,dc,de,ef,eg⟩:=ht.open_
 have cU:=dc.small
 have cV:=de.small
 refine enter (n:=63) Tryz.func9 rfl Tryz.ntmps9 kz fun a hE=>?_
 have hW:=WOk.start w Nil
 refine qae [0,1,2] kz ?_
 refine qao (qbm hW hE (d:=5) (cs:=[.bool has,.string txt]) kz fun df eh ei dg dh di cu cv=>?_)
 refine qao (qbm cu cv (d:=7) (cs:=[.int .i64 n1,.slice A6 s2.length c7,.bool b3,.slice A8 l4.length c9,.slice aX u5.length aY]) kz fun dj ej ek dl dp dq aD cw=>?_)
 refine qal [2] [] [(0,.v (.int .u8 x)),(2,.v (.int .i32 num)),(5,.p 0 0),(7,.p 1 0)] aD cw fun em cz=>?_
 refine qag (qab ?_)
 refine wp_seq ?_
 refine qae [0,1,2,3,4,5,6,7] kz ?_
 refine qal [0] [1,2,3,4,5,6,7] [(0,.v (.int .u8 x)),(2,.v (.int .i32 num)),(5,.p 0 0),(7,.p 1 0),(15,.v (.agg #[.bool has,.string txt]))] aD cz fun eo cA=>?_
 refine qao (qan cA (f:=10) (vs:=[.agg #[.bool has,.string txt]]) (d:=16) kz Tryz.call10 (ql5 _ _ htl _) ?_)
 rintro e_ ep ⟨rfl,aZ⟩
 refine ⟨_,rfl,fun eu cB=>?_⟩
 have ap:=aD.next_nil aZ
 have dr:=aD.frN aZ
 refine qal [2,3,4] [5,6,7] [(0,.v (.int .u8 x)),(2,.v (.int .i32 num)),(5,.p 0 0),(7,.p 1 0),(18,.v (.bool false)),(19,.v (.agg #[.int .i64 n1,.slice A6 s2.length c7,.bool b3,.slice A8 l4.length c9,.slice aX u5.length aY]))] ap cB fun ev cC=>?_
 refine qao (qan cC (f:=11) (vs:=[.agg #[.int .i64 n1,.slice A6 s2.length c7,.bool b3,.slice A8 l4.length c9,.slice aX u5.length aY]]) (d:=20) kz Tryz.call11 (ql4 _ _ _ _ (ht.move ap.step nilM ap.imm)) ?_)
 rintro e_ ew ⟨cW,rfl,ba⟩
 refine ⟨_,rfl,fun ey cD=>?_⟩
 have ao:=ap.next_nil ba
 have dt:=ap.frN ba
 refine qal [6,7] [] [(0,.v (.int .u8 x)),(2,.v (.int .i32 num)),(5,.p 0 0),(7,.p 1 0),(22,.v (.bool (!cW)))] ao cD fun ez aS=>?_
 refine qag (qab ?_)
 refine qaC aS (b:=!cW) kz (fun cE=>?_) (fun cE=>?_)
 ·
  refine qat [(8,.v (.bool true))] ao aS fun eB cG=>?_
  refine wp_ret ?_
  refine qaH ?_
  refine qaG cG ao.cells (v:=.bool true) kz ?_
  exact ⟨rfl,ao.step⟩
 refine wp_skip ?_
 refine qab ?_
 refine qae [0,1] kz ?_
 refine qao (qan aS (f:=35) (vs:=[]) (d:=23) kz Tryz.call35 (qcH _) ?_)
 rintro e_ du ⟨rfl,bd⟩
 refine ⟨_,rfl,fun eC cH=>?_⟩
 have ar:=ao.next_nil bd
 have dv:=ao.frN bd
 refine qal [1] [] [(0,.v (.int .u8 x)),(2,.v (.int .i32 num)),(5,.p 0 0),(7,.p 1 0),(9,.v (.int .i64 0))] ar cH fun eD cI=>?_
 refine qag (qab ?_)
 refine wp_seq ?_
 refine qat [(0,.v (.int .u8 x)),(2,.v (.int .i32 num)),(5,.p 0 0),(7,.p 1 0),(9,.v (.int .i64 0)),(25,.v (.bool false))] ar cI fun eE bf=>?_
 refine qaw bf (b:=false) kz rfl ?_
 refine wp_skip ?_
 refine qab ?_
 refine qae [0,1,2,3,4,5,6] kz ?_
 refine qao (qan bf (f:=36) (vs:=[]) (d:=26) kz Tryz.call36 (qcE _ (Imm F w du [⟨df,0,[.bool has,.string txt],true⟩,⟨dj,0,[.int .i64 n1,.slice A6 s2.length c7,.bool b3,.slice A8 l4.length c9,.slice aX u5.length aY],true⟩] [])) ?_)
 rintro e_ eF ⟨aT,aU,rfl,cJ,aV⟩
 obtain ⟨cK,dw,dx⟩:=cJ.move (Step.refl _ Nil) nilM (ar.laid (G:=F) aV)
 refine ⟨_,rfl,fun eG cL=>?_⟩
 have aW:=ar.next_nil aV
 have dy:=ar.frN aV
 refine qal [1,2] [3,4,5,6] [(2,.v (.int .i32 num)),(5,.p 0 0),(7,.p 1 0),(26,.v (.agg #[.slice aT sInitializeShareGroupStateRequestF.length aU,.int .i64 qac])),(27,.v (.int .u8 x)),(28,.v (.int .i64 0))] aW cL fun eH cM=>?_
 refine qao (qan cM (f:=14) (vs:=[.int .u8 x,.int .i64 0]) (d:=29) kz Tryz.call14 (qkr x 0 hx hx' (by decide) (by decide) _) ?_)
 rintro e_ eI ⟨rfl,bg⟩
 refine ⟨_,rfl,fun eJ cN=>?_⟩
 have cO:=aW.next_nil bg
 have aE:=aW.frN bg
 refine qao (qbl cO cN (d:=10) (cs:=[.slice none 0 0,.int .i64 0]) kz fun eK eL eM dz dA aF cP bh=>?_)
 refine qao (qaX cP bh (oi:=2) (cs:=[.slice aT sInitializeShareGroupStateRequestF.length aU,.int .i64 qac]) kz fun dB ah aa bi=>?_)
 refine qal [6] [] [(2,.v (.int .i32 num)),(5,.p 0 0),(7,.p 1 0),(10,.p 2 0),(11,.v (.int .i64 (Int.tmod x (0 + 1))))] aa bi fun dC bj=>?_
 refine qag (qab ?_)
 refine wp_seq ?_
 refine qat [(2,.v (.int .i32 num)),(5,.p 0 0),(7,.p 1 0),(10,.p 2 0),(11,.v (.int .i64 (Int.tmod x (0 + 1)))),(33,.v (.bool (decide ((txt.size:Int) > 32767))))] aa bj fun dD au=>?_
 refine qaC au (b:=decide ((txt.size:Int) > 32767)) kz (fun av=>?_) (fun av=>?_)
 ·
  have cX:=of_decide_eq_true av
  refine qat [(8,.v (.bool true))] aa au fun dE bk=>?_
  refine wp_ret ?_
  refine qaH ?_
  refine qaG bk aa.cells (v:=.bool true) kz ?_
  exact ⟨rfl,aa.step⟩
 have cY:=of_decide_eq_false av
 refine wp_skip ?_
 refine qab ?_
 refine qae [0,1,2,3,4] kz ?_
 refine qal [0,1,2] [3,4] [(2,.v (.int .i32 num)),(5,.p 0 0),(10,.p 2 0),(11,.v (.int .i64 (Int.tmod x (0 + 1)))),(34,.v (.agg #[.slice aT sInitializeShareGroupStateRequestF.length aU,.int .i64 qac])),(35,.v (.int .i64 (Int.tmod x (0 + 1)))),(36,.v (.agg #[.int .i64 n1,.slice A6 s2.length c7,.bool b3,.slice A8 l4.length c9,.slice aX u5.length aY]))] aa au fun dF bn=>?_
 refine qao (qan bn (f:=15) (vs:=[.agg #[.slice aT sInitializeShareGroupStateRequestF.length aU,.int .i64 qac],.int .i64 (Int.tmod x (0 + 1)),.agg #[.int .i64 n1,.slice A6 s2.length c7,.bool b3,.slice A8 l4.length c9,.slice aX u5.length aY]]) (d:=37) kz Tryz.call15 (qlP _ _ sInitializeShareGroupStateRequestF qac (Int.tmod x (0 + 1)) _ (Tree.mk n1 s2 b3 l4 u5) _ _ ⟨cK,(dw.move ((aE.trans aF).trans ah).step immM ((aE.trans aF).trans ah).to'),(fun i_ x_ h_=>((dx i_ x_ h_).move ((aE.trans aF).trans ah).step immM ((aE.trans aF).trans ah).to'))⟩ qci (ht.move aa.step nilM aa.imm) (Nat.le_trans (Nat.le_add_right _ _) hroom1)) ?_)
 rintro e_ dG ⟨ab,ac,rfl,bo,bp⟩
 refine ⟨_,rfl,fun dH bq=>?_⟩
 obtain ⟨ai,cZ⟩:=aa.frFresh bp (brow ab ac 5 (qbg 8 sInitializeShareGroupStateRequestF qac (Int.tmod x (0 + 1)) (Tree.mk n1 s2 b3 l4 u5))) (Nat.le_refl _) bo
 refine qal [4] [] [(2,.v (.int .i32 num)),(5,.p 0 0),(10,.p 2 0),(11,.v (.int .i64 (Int.tmod x (0 + 1)))),(12,.v (.slice ab ((qbg 8 sInitializeShareGroupStateRequestF qac (Int.tmod x (0 + 1)) (Tree.mk n1 s2 b3 l4 u5)).length) ac))] ai bq fun dI bt=>?_
 refine qag (qab ?_)
 refine qae [0,1,2,3,4,5,6,7,8,9] kz ?_
 refine qal [0,1,2,3] [4,5,6,7,8,9] [(2,.v (.int .i32 num)),(5,.p 0 0),(10,.p 2 0),(11,.v (.int .i64 (Int.tmod x (0 + 1)))),(12,.v (.slice ab ((qbg 8 sInitializeShareGroupStateRequestF qac (Int.tmod x (0 + 1)) (Tree.mk n1 s2 b3 l4 u5)).length) ac)),(39,.v (.agg #[.bool has,.string txt])),(40,.v (.int .i32 num)),(41,.v (.int .i64 (Int.tmod x (0 + 1)))),(42,.v (.slice ab ((qbg 8 sInitializeShareGroupStateRequestF qac (Int.tmod x (0 + 1)) (Tree.mk n1 s2 b3 l4 u5)).length) ac))] ai bt fun dJ bu=>?_
 refine qao (qan bu (f:=37) (vs:=[.agg #[.bool has,.string txt],.int .i32 num,.int .i64 (Int.tmod x (0 + 1)),.slice ab ((qbg 8 sInitializeShareGroupStateRequestF qac (Int.tmod x (0 + 1)) (Tree.mk n1 s2 b3 l4 u5)).length) ac]) (d:=43) kz Tryz.call37 (qcv has txt num (Int.tmod x (0 + 1)) _ (qbg 8 sInitializeShareGroupStateRequestF qac (Int.tmod x (0 + 1)) (Tree.mk n1 s2 b3 l4 u5)) hpure (qcL (ai.own 0 _ rfl) (by first | omega | (rw [qbx]; decide) | (simp only [be_length]; exact Nat.le_trans (qbc _) (by decide)) | (have:=hroom; omega) | (have:=hmade; omega) | (simp only [List.length_append,List.length_nil]; omega)) (F:=fun _ _=>True) (fun _ _ _=>trivial)) hcan hkey (by omega) (by first | omega | (have:=hroom1; omega))) ?_)
 rintro e_ dK ⟨aw,ax,rfl,aG,bw⟩
 rw [hfr] at aG
 rw [hfr]
 refine ⟨_,rfl,fun dL bx=>?_⟩
 have hfl:=qjO (key:=83) (v:=(Int.tmod x (0 + 1))) (num:=num) (has:=has) (txt:=sb txt) (flex:=decide ((Int.tmod x (0 + 1)) ≥ qac)) (body:=(qbg 8 sInitializeShareGroupStateRequestF qac (Int.tmod x (0 + 1)) (Tree.mk n1 s2 b3 l4 u5)))
 have hsl:=qbW txt
 obtain ⟨aH,c5⟩:=ai.frFresh bw (brow aw ax 5 (qbb 83 (Int.tmod x (0 + 1)) num has (sb txt) (decide ((Int.tmod x (0 + 1)) ≥ qac)) (qbg 8 sInitializeShareGroupStateRequestF qac (Int.tmod x (0 + 1)) (Tree.mk n1 s2 b3 l4 u5)))) (Nat.le_refl _) aG
 refine qal [5,6,7,8,9] [] [(2,.v (.int .i32 num)),(5,.p 0 0),(10,.p 2 0),(11,.v (.int .i64 (Int.tmod x (0 + 1)))),(12,.v (.slice ab ((qbg 8 sInitializeShareGroupStateRequestF qac (Int.tmod x (0 + 1)) (Tree.mk n1 s2 b3 l4 u5)).length) ac)),(13,.v (.slice aw ((qbb 83 (Int.tmod x (0 + 1)) num has (sb txt) (decide ((Int.tmod x (0 + 1)) ≥ qac)) (qbg 8 sInitializeShareGroupStateRequestF qac (Int.tmod x (0 + 1)) (Tree.mk n1 s2 b3 l4 u5))).length) ax)),(14,.v (.bool true))] aH bx fun dM bz=>?_
 refine qag (qab ?_)
 refine qbp 17 kz aH fun dN da ay bA=>?_
 refine qa4 [0,1,2,3,4,5,6,7,8,10,11,13] [(47,.v (.bool true)),(48,.v (.slice aw ((qbb 83 (Int.tmod x (0 + 1)) num has (sb txt) (decide ((Int.tmod x (0 + 1)) ≥ qac)) (qbg 8 sInitializeShareGroupStateRequestF qac (Int.tmod x (0 + 1)) (Tree.mk n1 s2 b3 l4 u5))).length) ax)),(49,.v (.int .i64 (Int.tmod x (0 + 1)))),(50,.v (.int .i32 num)),(52,.v (.bool has)),(54,.v (.string txt)),(56,.v (.agg #[.slice aT sInitializeShareGroupStateRequestF.length aU,.int .i64 qac])),(57,.v (.int .i64 (Int.tmod x (0 + 1)))),(59,.v (.slice ab ((qbg 8 sInitializeShareGroupStateRequestF qac (Int.tmod x (0 + 1)) (Tree.mk n1 s2 b3 l4 u5)).length) ac))] 6 (qad qaj) (fun _ h=>h.cells) bA bz fun dO aI=>?_
 refine qeH (i:=9) (j:=12) kz ?_ ?_
 ·
  refine (qfL (d:=55) (src:=9) (dst:=24) (e:=5) (s:=txt) ay aI (by omega) fun cQ cR dP dQ aj az bB bC=>?_)
  have bD:=bB F
  have bE:=TT.ofW aj az
  refine ⟨fun _=>bE,?_⟩
  refine qaR (i:=12) kz (qan bC (f:=19) (vs:=[.agg #[.slice aT sInitializeShareGroupStateRequestF.length aU,.int .i64 qac],.int .i64 (Int.tmod x (0 + 1))]) (d:=58) kz Tryz.call19 (qbN _ _ _ _) ?_)
  rintro e_ dR ⟨rfl,aJ⟩
  refine ⟨_,rfl,fun dS bF=>?_⟩
  have aA:=az.next_nil aJ
  have ae:=az.frN aJ
  have bG:=TT.ofW (aj.trans ae) aA
  refine ⟨fun _=>bG,?_⟩
  refine qaR (i:=14) kz (qan bF (f:=18) (vs:=[.int .i64 83,.int .i64 (Int.tmod x (0 + 1)),.int .i32 num,.bool has,.slice (some ⟨cQ,0,none⟩) ((sb txt).length) cR,.bool (decide ((Int.tmod x (0 + 1)) ≥ qac)),.slice ab ((qbg 8 sInitializeShareGroupStateRequestF qac (Int.tmod x (0 + 1)) (Tree.mk n1 s2 b3 l4 u5)).length) ac]) (d:=60) kz Tryz.call18 (qkN 83 (Int.tmod x (0 + 1)) num has (decide ((Int.tmod x (0 + 1)) ≥ qac)) _ _ (sb txt) _ _ (qbg 8 sInitializeShareGroupStateRequestF qac (Int.tmod x (0 + 1)) (Tree.mk n1 s2 b3 l4 u5)) _ (fun _ _=>True) ((bD.move ae.step immM ae.to').move (Step.refl _ Nil) nilM allF) (qcL (aA.own 0 _ rfl) (by first | omega | (rw [qbx]; decide) | (simp only [be_length]; exact Nat.le_trans (qbc _) (by decide)) | (have:=hroom; omega) | (have:=hmade; omega) | (simp only [List.length_append,List.length_nil]; omega)) (F:=fun _ _=>True) (fun _ _ _=>trivial)) (by first | omega | (have:=hroom1; simp only [qbW]; omega))) ?_)
  rintro e_ dT ⟨bH,bI,rfl,bJ,bK⟩
  refine ⟨_,rfl,fun dU bL=>?_⟩
  obtain ⟨af,aK⟩:=aA.frFresh bK (brow bH bI 5 (qbb 83 (Int.tmod x (0 + 1)) num has (sb txt) (decide ((Int.tmod x (0 + 1)) ≥ qac)) (qbg 8 sInitializeShareGroupStateRequestF qac (Int.tmod x (0 + 1)) (Tree.mk n1 s2 b3 l4 u5)))) (Nat.le_refl _) bJ
  have bM:=TT.ofW ((aj.trans ae).trans aK) af
  refine ⟨fun _=>bM,?_⟩
  refine qaR (i:=15) kz (qan bL (f:=17) (vs:=[.slice aw ((qbb 83 (Int.tmod x (0 + 1)) num has (sb txt) (decide ((Int.tmod x (0 + 1)) ≥ qac)) (qbg 8 sInitializeShareGroupStateRequestF qac (Int.tmod x (0 + 1)) (Tree.mk n1 s2 b3 l4 u5))).length) ax,.slice bH ((qbb 83 (Int.tmod x (0 + 1)) num has (sb txt) (decide ((Int.tmod x (0 + 1)) ≥ qac)) (qbg 8 sInitializeShareGroupStateRequestF qac (Int.tmod x (0 + 1)) (Tree.mk n1 s2 b3 l4 u5))).length) bI]) (d:=61) kz Tryz.call17 (qk9 _ _ _ _ (qbb 83 (Int.tmod x (0 + 1)) num has (sb txt) (decide ((Int.tmod x (0 + 1)) ≥ qac)) (qbg 8 sInitializeShareGroupStateRequestF qac (Int.tmod x (0 + 1)) (Tree.mk n1 s2 b3 l4 u5))) (qbb 83 (Int.tmod x (0 + 1)) num has (sb txt) (decide ((Int.tmod x (0 + 1)) ≥ qac)) (qbg 8 sInitializeShareGroupStateRequestF qac (Int.tmod x (0 + 1)) (Tree.mk n1 s2 b3 l4 u5))) _ _ (qcL (af.own 1 _ rfl) (by first | omega | (rw [qbx]; decide) | (simp only [be_length]; exact Nat.le_trans (qbc _) (by decide)) | (have:=hroom; omega) | (have:=hmade; omega) | (simp only [List.length_append,List.length_nil]; omega)) (F:=fun _ _=>True) (fun _ _ _=>trivial)) (qcL (af.own 2 _ rfl) (by first | omega | (rw [qbx]; decide) | (simp only [be_length]; exact Nat.le_trans (qbc _) (by decide)) | (have:=hroom; omega) | (have:=hmade; omega) | (simp only [List.length_append,List.length_nil]; omega)) (F:=fun _ _=>True) (fun _ _ _=>trivial))) ?_)
  rintro e_ dV ⟨rfl,aL⟩
  refine ⟨_,rfl,fun dW bN=>?_⟩
  have ak:=af.next_nil aL
  have bO:=af.frN aL
  have aM:=TT.ofW (((aj.trans ae).trans aK).trans bO) ak
  refine ⟨fun _=>aM,?_⟩
  refine qa4 [16] [(62,.v (.bool (decide ((qbb 83 (Int.tmod x (0 + 1)) num has (sb txt) (decide ((Int.tmod x (0 + 1)) ≥ qac)) (qbg 8 sInitializeShareGroupStateRequestF qac (Int.tmod x (0 + 1)) (Tree.mk n1 s2 b3 l4 u5))) = qbb 83 (Int.tmod x (0 + 1)) num has (sb txt) (decide ((Int.tmod x (0 + 1)) ≥ qac)) (qbg 8 sInitializeShareGroupStateRequestF qac (Int.tmod x (0 + 1)) (Tree.mk n1 s2 b3 l4 u5))))))] 1 (qad qaj) (fun _ h=>h.cells) aM bN fun dX bP=>?_
  refine qaR (i:=17) kz (qcb [8] ak.cells bP (env':=[(8,.v (.bool (decide ((qbb 83 (Int.tmod x (0 + 1)) num has (sb txt) (decide ((Int.tmod x (0 + 1)) ≥ qac)) (qbg 8 sInitializeShareGroupStateRequestF qac (Int.tmod x (0 + 1)) (Tree.mk n1 s2 b3 l4 u5))) = qbb 83 (Int.tmod x (0 + 1)) num has (sb txt) (decide ((Int.tmod x (0 + 1)) ≥ qac)) (qbg 8 sInitializeShareGroupStateRequestF qac (Int.tmod x (0 + 1)) (Tree.mk n1 s2 b3 l4 u5))))))]) kz fun dY bQ=>?_)
  refine ⟨fun h=>absurd rfl h,?_⟩
  refine qa3 kz ?_ _
  refine qab ?_
  refine wp_ret ?_
  refine qaG bQ ak.cells (v:=.bool (decide ((qbb 83 (Int.tmod x (0 + 1)) num has (sb txt) (decide ((Int.tmod x (0 + 1)) ≥ qac)) (qbg 8 sInitializeShareGroupStateRequestF qac (Int.tmod x (0 + 1)) (Tree.mk n1 s2 b3 l4 u5))) = qbb 83 (Int.tmod x (0 + 1)) num has (sb txt) (decide ((Int.tmod x (0 + 1)) ≥ qac)) (qbg 8 sInitializeShareGroupStateRequestF qac (Int.tmod x (0 + 1)) (Tree.mk n1 s2 b3 l4 u5))))) kz ?_
  exact ⟨by simp,ak.step⟩
 refine (qan aI (f:=19) (vs:=[.agg #[.slice aT sInitializeShareGroupStateRequestF.length aU,.int .i64 qac],.int .i64 (Int.tmod x (0 + 1))]) (d:=58) kz Tryz.call19 (qbN _ _ _ _) ?_)
 rintro e_ dZ ⟨rfl,aN⟩
 refine ⟨_,rfl,fun d5 bR=>?_⟩
 have aO:=ay.next_nil aN
 have al:=ay.frN aN
 have bS:=TT.ofW al aO
 refine ⟨fun _=>bS,?_⟩
 refine qaR (i:=9) kz (qfL (d:=55) (src:=9) (dst:=24) (e:=5) (s:=txt) aO bR (by omega) fun cS cT d6 d7 aB aC bT bU=>?_)
 have bV:=bT F
 have bW:=TT.ofW (al.trans aB) aC
 refine ⟨fun _=>bW,?_⟩
 refine qaR (i:=14) kz (qan bU (f:=18) (vs:=[.int .i64 83,.int .i64 (Int.tmod x (0 + 1)),.int .i32 num,.bool has,.slice (some ⟨cS,0,none⟩) ((sb txt).length) cT,.bool (decide ((Int.tmod x (0 + 1)) ≥ qac)),.slice ab ((qbg 8 sInitializeShareGroupStateRequestF qac (Int.tmod x (0 + 1)) (Tree.mk n1 s2 b3 l4 u5)).length) ac]) (d:=60) kz Tryz.call18 (qkN 83 (Int.tmod x (0 + 1)) num has (decide ((Int.tmod x (0 + 1)) ≥ qac)) _ _ (sb txt) _ _ (qbg 8 sInitializeShareGroupStateRequestF qac (Int.tmod x (0 + 1)) (Tree.mk n1 s2 b3 l4 u5)) _ (fun _ _=>True) (bV.move (Step.refl _ Nil) nilM allF) (qcL (aC.own 0 _ rfl) (by first | omega | (rw [qbx]; decide) | (simp only [be_length]; exact Nat.le_trans (qbc _) (by decide)) | (have:=hroom; omega) | (have:=hmade; omega) | (simp only [List.length_append,List.length_nil]; omega)) (F:=fun _ _=>True) (fun _ _ _=>trivial)) (by first | omega | (have:=hroom1; simp only [qbW]; omega))) ?_)
 rintro e_ d8 ⟨bX,bY,rfl,bZ,b8⟩
 refine ⟨_,rfl,fun d9 cd=>?_⟩
 obtain ⟨ag,aP⟩:=aC.frFresh b8 (brow bX bY 5 (qbb 83 (Int.tmod x (0 + 1)) num has (sb txt) (decide ((Int.tmod x (0 + 1)) ≥ qac)) (qbg 8 sInitializeShareGroupStateRequestF qac (Int.tmod x (0 + 1)) (Tree.mk n1 s2 b3 l4 u5)))) (Nat.le_refl _) bZ
 have ce:=TT.ofW ((al.trans aB).trans aP) ag
 refine ⟨fun _=>ce,?_⟩
 refine qaR (i:=15) kz (qan cd (f:=17) (vs:=[.slice aw ((qbb 83 (Int.tmod x (0 + 1)) num has (sb txt) (decide ((Int.tmod x (0 + 1)) ≥ qac)) (qbg 8 sInitializeShareGroupStateRequestF qac (Int.tmod x (0 + 1)) (Tree.mk n1 s2 b3 l4 u5))).length) ax,.slice bX ((qbb 83 (Int.tmod x (0 + 1)) num has (sb txt) (decide ((Int.tmod x (0 + 1)) ≥ qac)) (qbg 8 sInitializeShareGroupStateRequestF qac (Int.tmod x (0 + 1)) (Tree.mk n1 s2 b3 l4 u5))).length) bY]) (d:=61) kz Tryz.call17 (qk9 _ _ _ _ (qbb 83 (Int.tmod x (0 + 1)) num has (sb txt) (decide ((Int.tmod x (0 + 1)) ≥ qac)) (qbg 8 sInitializeShareGroupStateRequestF qac (Int.tmod x (0 + 1)) (Tree.mk n1 s2 b3 l4 u5))) (qbb 83 (Int.tmod x (0 + 1)) num has (sb txt) (decide ((Int.tmod x (0 + 1)) ≥ qac)) (qbg 8 sInitializeShareGroupStateRequestF qac (Int.tmod x (0 + 1)) (Tree.mk n1 s2 b3 l4 u5))) _ _ (qcL (ag.own 1 _ rfl) (by first | omega | (rw [qbx]; decide) | (simp only [be_length]; exact Nat.le_trans (qbc _) (by decide)) | (have:=hroom; omega) | (have:=hmade; omega) | (simp only [List.length_append,List.length_nil]; omega)) (F:=fun _ _=>True) (fun _ _ _=>trivial)) (qcL (ag.own 2 _ rfl) (by first | omega | (rw [qbx]; decide) | (simp only [be_length]; exact Nat.le_trans (qbc _) (by decide)) | (have:=hroom; omega) | (have:=hmade; omega) | (simp only [List.length_append,List.length_nil]; omega)) (F:=fun _ _=>True) (fun _ _ _=>trivial))) ?_)
 rintro e_ ea ⟨rfl,aQ⟩
 refine ⟨_,rfl,fun eb cg=>?_⟩
 have am:=ag.next_nil aQ
 have cm:=ag.frN aQ
 have aR:=TT.ofW (((al.trans aB).trans aP).trans cm) am
 refine ⟨fun _=>aR,?_⟩
 refine qa4 [16] [(62,.v (.bool (decide ((qbb 83 (Int.tmod x (0 + 1)) num has (sb txt) (decide ((Int.tmod x (0 + 1)) ≥ qac)) (qbg 8 sInitializeShareGroupStateRequestF qac (Int.tmod x (0 + 1)) (Tree.mk n1 s2 b3 l4 u5))) = qbb 83 (Int.tmod x (0 + 1)) num has (sb txt) (decide ((Int.tmod x (0 + 1)) ≥ qac)) (qbg 8 sInitializeShareGroupStateRequestF qac (Int.tmod x (0 + 1)) (Tree.mk n1 s2 b3 l4 u5))))))] 1 (qad qaj) (fun _ h=>h.cells) aR cg fun ec cq=>?_
 refine qaR (i:=17) kz (qcb [8] am.cells cq (env':=[(8,.v (.bool (decide ((qbb 83 (Int.tmod x (0 + 1)) num has (sb txt) (decide ((Int.tmod x (0 + 1)) ≥ qac)) (qbg 8 sInitializeShareGroupStateRequestF qac (Int.tmod x (0 + 1)) (Tree.mk n1 s2 b3 l4 u5))) = qbb 83 (Int.tmod x (0 + 1)) num has (sb txt) (decide ((Int.tmod x (0 + 1)) ≥ qac)) (qbg 8 sInitializeShareGroupStateRequestF qac (Int.tmod x (0 + 1)) (Tree.mk n1 s2 b3 l4 u5))))))]) kz fun ee cr=>?_)
 refine ⟨fun h=>absurd rfl h,?_⟩
 refine qa3 kz ?_ _
 refine qab ?_
 refine wp_ret ?_
 refine qaG cr am.cells (v:=.bool (decide ((qbb 83 (Int.tmod x (0 + 1)) num has (sb txt) (decide ((Int.tmod x (0 + 1)) ≥ qac)) (qbg 8 sInitializeShareGroupStateRequestF qac (Int.tmod x (0 + 1)) (Tree.mk n1 s2 b3 l4 u5))) = qbb 83 (Int.tmod x (0 + 1)) num has (sb txt) (decide ((Int.tmod x (0 + 1)) ≥ qac)) (qbg 8 sInitializeShareGroupStateRequestF qac (Int.tmod x (0 + 1)) (Tree.mk n1 s2 b3 l4 u5))))) kz ?_
 exact ⟨by simp,am.step⟩
theorem qcp (x:Int) (hx:0 ≤ x ∧ x ≤ 255) (has:Bool) (txt:ByteArray) (num:Int) (ct:List Value) (t:Tree) (w:World) (F:Nat → Nat → Prop) (htl:txt.size ≤ 1048576) (hnum:-2147483648 ≤ num ∧ num ≤ 2147483647) (ht:TreeR w F ct t) (hsz:t.size ≤ 8388608):Calls Tryz.prog 9 #[.int .u8 x,.agg #[.bool has,.string txt],.int .i32 num,.agg ct.toArray] w (qcI w (.bool true)):=by
 obtain ⟨g0,g1⟩:=qlL (m:=0 + 1) hx.1 hx.2 (by decide) (by decide)
 have hp:qai (IntKind.i16.wrap (Int.tmod x (0 + 1))) (fitT (Int.tmod x (0 + 1)) 8 sInitializeShareGroupStateRequestF t) = qbg 8 sInitializeShareGroupStateRequestF qac (Int.tmod x (0 + 1)) t:=by rw [qgG g0 g1]; exact qcs (Int.tmod x (0 + 1)) g0 g1 t
 have h1:=qjp 8 sInitializeShareGroupStateRequestF qac (Int.tmod x (0 + 1)) t
 have h2:qhk sInitializeShareGroupStateRequestF ≤ 131000:=by decide +kernel
 have h3:=Nat.mul_le_mul h2 hsz
 exact qcw x hx.1 (by omega) has txt htl num ct t w F ht (by omega) (qcl (Int.tmod x (0 + 1)) t) (qip _ _ _ _ ht.ranged) (by rw [qgG g0 g1]; rfl) hp
end Go.Proofs.YtogokkkdfcgncaaGreatDoor.ME