/- The texts of a claim, put together: the engine, the contracts, the law. Own work. -/
import Derived.Test.YtogokkkdfcgncaaGreatDoorWf2P5
import Derived.Lib.ConvBytes
namespace Go.Proofs.YtogokkkdfcgncaaGreatDoor.ME
open Go
open Go.RowKit
set_option linter.unusedVariables false
set_option linter.unusedSimpArgs false
set_option maxRecDepth 20000
abbrev z1 (x0) (x1:DV):=([.int .i16 (IntKind.i16.wrap x0),.string ((x1.f 0).s),.int .i32 ((x1.f 1).n),.string ((x1.f 2).s),.pointer ((x1.f 3).A),.int .i64 ((x1.f 4).n),.slice ((x1.f 5).A) ((x1.f 5).l) ((x1.f 5).c),.map x1.m]:List Value)
abbrev z0 (x0) (x1) (x2) (x3) (x4) (x5:DV) (x6) (x7) (x8) (x9) (x10):=([⟨x0,0,[.bool x1,.string x2],true⟩,⟨x3,0,[.int .i16 (IntKind.i16.wrap x4),.string ((x5.f 0).s),.int .i32 ((x5.f 1).n),.string ((x5.f 2).s),.pointer ((x5.f 3).A),.int .i64 ((x5.f 4).n),.slice ((x5.f 5).A) ((x5.f 5).l) ((x5.f 5).c),.map x5.m],true⟩,⟨x6,0,[.bool x1,.string x2],true⟩,⟨x7,0,[.pointer none],true⟩,⟨x8,0,[.string x2],true⟩,⟨x9,0,[.pointer (some ⟨x8,0,none⟩)],true⟩,⟨x10,0,[.func (.func 131) #[] #[.pointer (some ⟨x8,0,none⟩)]],true⟩]:Tb)
abbrev z2 (x0) (x1) (x2) (x3) (x4) (x5:DV) (x6) (x7):=([⟨x0,0,[.bool x1,.string x2],true⟩,⟨x3,0,[.int .i16 (IntKind.i16.wrap x4),.string ((x5.f 0).s),.int .i32 ((x5.f 1).n),.string ((x5.f 2).s),.pointer ((x5.f 3).A),.int .i64 ((x5.f 4).n),.slice ((x5.f 5).A) ((x5.f 5).l) ((x5.f 5).c),.map x5.m],true⟩,⟨x6,0,[.bool x1,.string x2],true⟩,⟨x7,0,[.pointer none],true⟩]:Tb)
abbrev z13 (x0) (x1) (x2) (x3) (x4) (x5) (x6) (x7) (x8):=([⟨some ⟨x0,0,none⟩,1,96,1,1,[.iface 147 (.agg #[.func (.func 131) #[] #[.pointer (some ⟨x1,0,none⟩)]])]⟩,brow x2 x3 5 (((([]:Bs) ++ [by8 0,by8 0,by8 0,by8 0] ++ be 2 8 ++ be 2 (IntKind.i16.wrap x4) ++ be 4 x5) ++ (be 2 x6 ++ sb x7) ++ [by8 0]) ++ qab (IntKind.i16.wrap x4) x8)]:List Rw)
abbrev z8 (x0) (x1) (x2) (x3) (x4) (x5) (x6) (x7) (x8):=([⟨some ⟨x0,0,none⟩,1,96,1,1,[.iface 147 (.agg #[.func (.func 131) #[] #[.pointer (some ⟨x1,0,none⟩)]])]⟩,⟨x2,x3,5,1,(((([]:Bs) ++ [by8 0,by8 0,by8 0,by8 0] ++ be 2 8 ++ be 2 (IntKind.i16.wrap x4) ++ be 4 x5) ++ (be 2 x6 ++ sb x7) ++ [by8 0]) ++ qab (IntKind.i16.wrap x4) x8).length,bc (be 4 (IntKind.i32.wrap ((((((([]:Bs) ++ [by8 0,by8 0,by8 0,by8 0] ++ be 2 8 ++ be 2 (IntKind.i16.wrap x4) ++ be 4 x5) ++ (be 2 x6 ++ sb x7) ++ [by8 0]) ++ qab (IntKind.i16.wrap x4) x8).length) - 4:Nat):Int)) ++ (((([]:Bs) ++ [by8 0,by8 0,by8 0,by8 0] ++ be 2 8 ++ be 2 (IntKind.i16.wrap x4) ++ be 4 x5) ++ (be 2 x6 ++ sb x7) ++ [by8 0]) ++ qab (IntKind.i16.wrap x4) x8).drop 4)⟩]:List Rw)
abbrev z14 (x0) (x1) (x2) (x3) (x4) (x5) (x6) (x7) (x8):=([⟨some ⟨x0,0,none⟩,1,96,1,1,[.iface 147 (.agg #[.func (.func 131) #[] #[.pointer (some ⟨x1,0,none⟩)]])]⟩,brow x2 x3 5 (((([]:Bs) ++ [by8 0,by8 0,by8 0,by8 0] ++ be 2 8 ++ be 2 (IntKind.i16.wrap x4) ++ be 4 x5) ++ (be 2 x6 ++ sb x7)) ++ qab (IntKind.i16.wrap x4) x8)]:List Rw)
abbrev z11 (x0) (x1) (x2) (x3) (x4) (x5) (x6) (x7) (x8):=([⟨some ⟨x0,0,none⟩,1,96,1,1,[.iface 147 (.agg #[.func (.func 131) #[] #[.pointer (some ⟨x1,0,none⟩)]])]⟩,⟨x2,x3,5,1,(((([]:Bs) ++ [by8 0,by8 0,by8 0,by8 0] ++ be 2 8 ++ be 2 (IntKind.i16.wrap x4) ++ be 4 x5) ++ (be 2 x6 ++ sb x7)) ++ qab (IntKind.i16.wrap x4) x8).length,bc (be 4 (IntKind.i32.wrap ((((((([]:Bs) ++ [by8 0,by8 0,by8 0,by8 0] ++ be 2 8 ++ be 2 (IntKind.i16.wrap x4) ++ be 4 x5) ++ (be 2 x6 ++ sb x7)) ++ qab (IntKind.i16.wrap x4) x8).length) - 4:Nat):Int)) ++ (((([]:Bs) ++ [by8 0,by8 0,by8 0,by8 0] ++ be 2 8 ++ be 2 (IntKind.i16.wrap x4) ++ be 4 x5) ++ (be 2 x6 ++ sb x7)) ++ qab (IntKind.i16.wrap x4) x8).drop 4)⟩]:List Rw)
abbrev z12 (x0) (x1) (x2) (x3) (x4):=([⟨x0,x1,5,1,((([]:Bs) ++ [by8 0,by8 0,by8 0,by8 0] ++ be 2 8 ++ be 2 (IntKind.i16.wrap x2) ++ be 4 x3 ++ be 2 (-1) ++ [by8 0]) ++ qab (IntKind.i16.wrap x2) x4).length,bc (be 4 (IntKind.i32.wrap (((((([]:Bs) ++ [by8 0,by8 0,by8 0,by8 0] ++ be 2 8 ++ be 2 (IntKind.i16.wrap x2) ++ be 4 x3 ++ be 2 (-1) ++ [by8 0]) ++ qab (IntKind.i16.wrap x2) x4).length) - 4:Nat):Int)) ++ ((([]:Bs) ++ [by8 0,by8 0,by8 0,by8 0] ++ be 2 8 ++ be 2 (IntKind.i16.wrap x2) ++ be 4 x3 ++ be 2 (-1) ++ [by8 0]) ++ qab (IntKind.i16.wrap x2) x4).drop 4)⟩]:List Rw)
abbrev z15 (x0) (x1) (x2) (x3) (x4):=([⟨x0,x1,5,1,((([]:Bs) ++ [by8 0,by8 0,by8 0,by8 0] ++ be 2 8 ++ be 2 (IntKind.i16.wrap x2) ++ be 4 x3 ++ be 2 (-1)) ++ qab (IntKind.i16.wrap x2) x4).length,bc (be 4 (IntKind.i32.wrap (((((([]:Bs) ++ [by8 0,by8 0,by8 0,by8 0] ++ be 2 8 ++ be 2 (IntKind.i16.wrap x2) ++ be 4 x3 ++ be 2 (-1)) ++ qab (IntKind.i16.wrap x2) x4).length) - 4:Nat):Int)) ++ ((([]:Bs) ++ [by8 0,by8 0,by8 0,by8 0] ++ be 2 8 ++ be 2 (IntKind.i16.wrap x2) ++ be 4 x3 ++ be 2 (-1)) ++ qab (IntKind.i16.wrap x2) x4).drop 4)⟩]:List Rw)
abbrev z19 (x0) (x1) (x2) (x3):=([⟨some ⟨x0,0,none⟩,1,96,1,1,[.iface 147 (.agg #[.func (.func 131) #[] #[.pointer (some ⟨x1,0,none⟩)]])]⟩,brow x2 x3 5 (([]:Bs) ++ [by8 0,by8 0,by8 0,by8 0] ++ be 2 8)]:List Rw)
abbrev z17 (x0) (x1) (x2) (x3) (x4):=([⟨some ⟨x0,0,none⟩,1,96,1,1,[.iface 147 (.agg #[.func (.func 131) #[] #[.pointer (some ⟨x1,0,none⟩)]])]⟩,brow x2 x3 5 (([]:Bs) ++ [by8 0,by8 0,by8 0,by8 0] ++ be 2 8 ++ be 2 (IntKind.i16.wrap x4))]:List Rw)
abbrev z16 (x0) (x1) (x2) (x3) (x4) (x5):=([⟨some ⟨x0,0,none⟩,1,96,1,1,[.iface 147 (.agg #[.func (.func 131) #[] #[.pointer (some ⟨x1,0,none⟩)]])]⟩,brow x2 x3 5 (([]:Bs) ++ [by8 0,by8 0,by8 0,by8 0] ++ be 2 8 ++ be 2 (IntKind.i16.wrap x4) ++ be 4 x5)]:List Rw)
abbrev z30 :=([.int .i16 0,.string ByteArray.empty,.int .i32 0,.string ByteArray.empty,.pointer none,.int .i64 0,.slice none 0 0,.map none]:List Value)
abbrev z29 :=([.int .i16 0,.string ByteArray.empty,.int .i32 (-1),.string ByteArray.empty,.pointer none,.int .i64 0,.slice none 0 0,.map none]:List Value)
abbrev z28 :=([.int .i16 0,.string ByteArray.empty,.int .i32 (-1),.string ByteArray.empty,.pointer none,.int .i64 (-1),.slice none 0 0,.map none]:List Value)
abbrev z31 (x0) (x1) (x2) (x3):=([⟨some ⟨x0,0,none⟩,1,96,1,1,[.iface 147 (.agg #[.func (.func 131) #[] #[.pointer (some ⟨x1,0,none⟩)]])]⟩,brow x2 x3 5 (([]:Bs) ++ [by8 0,by8 0,by8 0,by8 0])]:List Rw)
abbrev z25 (x0) (x1) (x2) (x3) (x4) (x5) (x6) (x7):=([⟨some ⟨x0,0,none⟩,1,96,1,1,[.iface 147 (.agg #[.func (.func 131) #[] #[.pointer (some ⟨x1,0,none⟩)]])]⟩,brow x2 x3 5 ((([]:Bs) ++ [by8 0,by8 0,by8 0,by8 0] ++ be 2 8 ++ be 2 (IntKind.i16.wrap x4) ++ be 4 x5) ++ (be 2 x6 ++ sb x7))]:List Rw)
abbrev z24 (x0) (x1) (x2) (x3) (x4) (x5) (x6) (x7):=([⟨some ⟨x0,0,none⟩,1,96,1,1,[.iface 147 (.agg #[.func (.func 131) #[] #[.pointer (some ⟨x1,0,none⟩)]])]⟩,brow x2 x3 5 ((([]:Bs) ++ [by8 0,by8 0,by8 0,by8 0] ++ be 2 8 ++ be 2 (IntKind.i16.wrap x4) ++ be 4 x5) ++ (be 2 x6 ++ sb x7) ++ [by8 0])]:List Rw)
set_option maxHeartbeats 4000000 in
theorem qd5 (has:Bool) (txt:ByteArray) (num v:Int) (T:Tree) {A2:Option Addr} {c2:Nat} {w:World} {F:Nat → Nat → Prop} (hs_:Octs w F A2 c2 (qak (IntKind.i16.wrap v) T)) (hc:qbg T) (hkey:T.ranged) (htx:txt.size ≤ 32767) (hroom:txt.size + (qak (IntKind.i16.wrap v) T).length + 64 ≤ 1099511627776) :
  Calls Tryz.prog 16 #[.agg #[.bool has,.string txt],.int .i32 num,.int .i64 v,.slice A2 (qak (IntKind.i16.wrap v) T).length c2] w (fun e w'=>∃ A c,e = .returned (.tuple #[.slice A (qa6 8 (IntKind.i16.wrap v) num has (sb txt) (decide ((IntKind.i16.wrap v) ≥ 8)) (qak (IntKind.i16.wrap v) T)).length c,.bool true]) ∧ w'.ownsRow w.heap.size 5 1 (.slice A (qa6 8 (IntKind.i16.wrap v) num has (sb txt) (decide ((IntKind.i16.wrap v) ≥ 8)) (qak (IntKind.i16.wrap v) T)).length c) (qa6 8 (IntKind.i16.wrap v) num has (sb txt) (decide ((IntKind.i16.wrap v) ≥ 8)) (qak (IntKind.i16.wrap v) T)).length (bc (qa6 8 (IntKind.i16.wrap v) num has (sb txt) (decide ((IntKind.i16.wrap v) ≥ 8)) (qak (IntKind.i16.wrap v) T))) ∧ Step w w' Nil):=by
 refine enter (n:=26) Tryz.func16 rfl Tryz.ntmps16 kz fun a hE=>?_
 have hW:=WOk.start w Nil
 have hsm2:=Slots.small hs_
 refine qae [0,1,2] kz ?_
 refine qam (qbk hW hE (d:=4) (cs:=[.bool has,.string txt]) kz fun b1 a2 w3 hb4 hz5 hF6 hW7 hE8=>?_)
 refine qaj [1,2] [] [(1,.v (.int .i32 num)),(2,.v (.int .i64 v)),(3,.v (.slice A2 ((qak (IntKind.i16.wrap v) T).length) c2)),(4,.p 0 0)] hW7 hE8 fun a9 lx=>?_
 refine qaf (qaa ?_)
 refine qae [0,1] kz ?_
 refine qam (qa5 lx (f:=39) (vs:=[]) (d:=11) (n':=3) kz Tryz.call39 Tryz.func39 rfl Tryz.ntmps39 kz fun r2 ly=>?_)
 refine qas [] hW7 ly fun r3 lz=>?_
 refine qae [0] kz ?_
 refine qam (qa9 hW7 lz (d:=1) (cs:=z30) kz fun ac r4 r5 mI mJ mK dZ lA=>?_)
 refine qaf (qaa ?_)
 refine qae [0] kz ?_
 refine qam (qa5 lA (f:=78) (vs:=[.pointer (some ⟨ac,0,none⟩)]) (d:=2) (n':=8) kz Tryz.call78 Tryz.func78 rfl Tryz.ntmps78 kz fun r6 lB=>?_)
 have lC:=lB.recast 0 (.v (.pointer (some ⟨ac,0,none⟩))) (.p 1 0) rfl rfl (Nat.le_of_ble_eq_true (n:=2) rfl)
 refine qae [0,1,2,3] kz ?_
 refine qaj [0,1,2] [3] [(0,.p 1 0),(4,.p 1 2)] dZ lC fun r7 lD=>?_
 refine qam (qaI dZ lD (oi:=1) (cs:=z29) kz fun r8 mL d5 lE=>?_)
 refine qaf (qaa ?_)
 refine qar [0,1,2,3] kz ?_
 refine qaj [0,1,2] [3] [(7,.p 1 5)] d5 lE fun r9 lF=>?_
 refine qam (qaI d5 lF (oi:=1) (cs:=z28) kz fun sa mM bF lG=>?_)
 refine qaf (qcq lG bF.cells (v:=.tuple #[]) kz ?_)
 refine ⟨_,rfl,fun sc lH=>?_⟩
 have lI:=(EnvOk.places (tb':=[⟨b1,0,[.bool has,.string txt],true⟩,⟨ac,0,[.int .i16 0,.string ByteArray.empty,.int .i32 (-1),.string ByteArray.empty,.pointer none,.int .i64 (-1),.slice none 0 0,.map none],true⟩]) lH (show Pl [⟨b1,0,[.bool has,.string txt],true⟩,⟨ac,0,[.int .i16 0,.string ByteArray.empty,.int .i32 0,.string ByteArray.empty,.pointer none,.int .i64 0,.slice none 0 0,.map none],true⟩] [⟨b1,0,[.bool has,.string txt],true⟩,⟨ac,0,[.int .i16 0,.string ByteArray.empty,.int .i32 (-1),.string ByteArray.empty,.pointer none,.int .i64 (-1),.slice none 0 0,.map none],true⟩] from ⟨rfl,rfl,⟨rfl,rfl,trivial⟩⟩)).pk (env':=[(2,.v (.tuple #[])),(1,.p 1 0)])
 refine qaf (qaa ?_)
 refine qas [(0,.p 1 0)] bF lI fun sd lJ=>?_
 refine wp_ret (qaD lJ bF.cells (v:=.pointer (some ⟨ac,0,none⟩)) kz ?_)
 refine ⟨_,rfl,fun se lK=>?_⟩
 have lL:=(EnvOk.places (tb':=[⟨b1,0,[.bool has,.string txt],true⟩,⟨ac,0,[.int .i16 0,.string ByteArray.empty,.int .i32 (-1),.string ByteArray.empty,.pointer none,.int .i64 (-1),.slice none 0 0,.map none],true⟩]) lK (show Pl [⟨b1,0,[.bool has,.string txt],true⟩] [⟨b1,0,[.bool has,.string txt],true⟩,⟨ac,0,[.int .i16 0,.string ByteArray.empty,.int .i32 (-1),.string ByteArray.empty,.pointer none,.int .i64 (-1),.slice none 0 0,.map none],true⟩] from ⟨rfl,rfl,trivial⟩)).pk (env':=[(11,.v (.pointer (some ⟨ac,0,none⟩))),(1,.v (.int .i32 num)),(2,.v (.int .i64 v)),(3,.v (.slice A2 ((qak (IntKind.i16.wrap v) T).length) c2)),(4,.p 0 0)])
 have lM:=lL.recast 11 (.v (.pointer (some ⟨ac,0,none⟩))) (.p 1 0) rfl rfl (Nat.le_of_ble_eq_true (n:=2) rfl)
 have lN:=lM.pick (ks:=[1,2,3,4,11]) (env':=[(1,.v (.int .i32 num)),(2,.v (.int .i64 v)),(3,.v (.slice A2 ((qak (IntKind.i16.wrap v) T).length) c2)),(4,.p 0 0),(11,.p 1 0)]) kz
 refine qaj [1] [] [(1,.v (.int .i32 num)),(2,.v (.int .i64 v)),(3,.v (.slice A2 ((qak (IntKind.i16.wrap v) T).length) c2)),(4,.p 0 0),(10,.p 1 0)] bF lN fun sf lO=>?_
 refine qaf (qaa ?_)
 refine qae [0,1,2,3] kz ?_
 refine qaj [0,1,2] [3] [(1,.v (.int .i32 num)),(3,.v (.slice A2 ((qak (IntKind.i16.wrap v) T).length) c2)),(4,.p 0 0),(10,.p 1 0),(12,.p 1 0),(14,.v (.int .i16 (IntKind.i16.wrap v)))] bF lO fun sg lP=>?_
 refine qam (qa5 lP (f:=43) (vs:=[.pointer (some ⟨ac,0,none⟩),.int .i16 (IntKind.i16.wrap v)]) (d:=15) (n':=8) kz Tryz.call43 Tryz.func43 rfl Tryz.ntmps43 kz fun sh lQ=>?_)
 have lR:=lQ.recast 0 (.v (.pointer (some ⟨ac,0,none⟩))) (.p 1 0) rfl rfl (Nat.le_of_ble_eq_true (n:=2) rfl)
 refine qar [0,1,2,3,4] kz ?_
 refine qaj [0,1,2,3] [4] [(5,.v (.int .i16 (IntKind.i16.wrap v))),(7,.p 1 0)] bF lR fun si lS=>?_
 refine qam (qaI bF lS (oi:=1) (cs:=[.int .i16 (IntKind.i16.wrap v),.string ByteArray.empty,.int .i32 (-1),.string ByteArray.empty,.pointer none,.int .i64 (-1),.slice none 0 0,.map none]) kz fun sj mN cI lT=>?_)
 refine qaf (qcq lT cI.cells (v:=.tuple #[]) kz ?_)
 refine ⟨_,rfl,fun sk lU=>?_⟩
 have lV:=(EnvOk.places (tb':=[⟨b1,0,[.bool has,.string txt],true⟩,⟨ac,0,[.int .i16 (IntKind.i16.wrap v),.string ByteArray.empty,.int .i32 (-1),.string ByteArray.empty,.pointer none,.int .i64 (-1),.slice none 0 0,.map none],true⟩]) lU (show Pl [⟨b1,0,[.bool has,.string txt],true⟩,⟨ac,0,[.int .i16 0,.string ByteArray.empty,.int .i32 (-1),.string ByteArray.empty,.pointer none,.int .i64 (-1),.slice none 0 0,.map none],true⟩] [⟨b1,0,[.bool has,.string txt],true⟩,⟨ac,0,[.int .i16 (IntKind.i16.wrap v),.string ByteArray.empty,.int .i32 (-1),.string ByteArray.empty,.pointer none,.int .i64 (-1),.slice none 0 0,.map none],true⟩] from ⟨rfl,rfl,⟨rfl,rfl,trivial⟩⟩)).pk (env':=[(15,.v (.tuple #[])),(1,.v (.int .i32 num)),(3,.v (.slice A2 ((qak (IntKind.i16.wrap v) T).length) c2)),(4,.p 0 0),(10,.p 1 0),(12,.p 1 0),(14,.v (.int .i16 (IntKind.i16.wrap v)))])
 refine qaf (qaa ?_)
 refine wp_seq (qae [0,1,2,3,4] kz ?_)
 refine qaj [0,1] [2,3,4] [(1,.v (.int .i32 num)),(4,.p 0 0),(10,.p 1 0),(16,.p 1 0),(17,.v (.slice A2 ((qak (IntKind.i16.wrap v) T).length) c2))] cI lV fun sl lW=>?_
 have cA:=cI.addNil 5 1
 have mO:=cI.frNil 5 1
 refine qam (qaJ cA lW (k:=0) (d:=18) (t:=24) (e:=5) (size:=1) (bytes:=1) (A:=none) (As:=A2) (m0:=0) (c:=0) (m:=((qak (IntKind.i16.wrap v) T).length)) (cs:=c2) (xs:=[]) (news:=bc (qak (IntKind.i16.wrap v) T)) kz kz rfl (hs_.move cA.step nilM cA.imm).src (hs_.move cA.step nilM cA.imm).cap (by first | omega | (simp only [List.length_append,List.length_cons,List.length_nil,be_length,qbU]; omega) | (simp; omega)) fun cw cz sm sn mQ lX lY=>?_)
 have lZ:(⟨cw,cz,5,1,0 + (qak (IntKind.i16.wrap v) T).length,[] ++ bc (qak (IntKind.i16.wrap v) T)⟩:Rw) = brow cw cz 5 (qak (IntKind.i16.wrap v) T):=by rw [List.nil_append,Nat.zero_add]
 obtain ⟨cJ,mR⟩:=lX.rowEq 0 [brow cw cz 5 (qak (IntKind.i16.wrap v) T)] lZ
 have l0:=EnvOk.pick lY (ks:=[1,4,10,16,17,18]) (env':=[(1,.v (.int .i32 num)),(4,.p 0 0),(10,.p 1 0),(16,.p 1 0),(17,.v (.slice A2 ((qak (IntKind.i16.wrap v) T).length) c2)),(18,.v (.slice cw (0 + (qak (IntKind.i16.wrap v) T).length) cz))]) kz
 have l3:=l0.cast (env':=[(1,.v (.int .i32 num)),(4,.p 0 0),(10,.p 1 0),(16,.p 1 0),(17,.v (.slice A2 ((qak (IntKind.i16.wrap v) T).length) c2)),(18,.v (.slice cw ((qak (IntKind.i16.wrap v) T).length) cz))]) (by simp only [List.length_append,List.length_cons,List.length_nil,Nat.zero_add])
 refine qam (qa5 l3 (f:=44) (vs:=[.pointer (some ⟨ac,0,none⟩),.slice cw ((qak (IntKind.i16.wrap v) T).length) cz]) (d:=19) (n':=8) kz Tryz.call44 Tryz.func44 rfl Tryz.ntmps44 kz fun sq l5=>?_)
 have l6:=l5.recast 0 (.v (.pointer (some ⟨ac,0,none⟩))) (.p 1 0) rfl rfl (Nat.le_of_ble_eq_true (n:=2) rfl)
 refine qas [(0,.p 1 0),(1,.v (.slice cw ((qak (IntKind.i16.wrap v) T).length) cz))] cJ l6 fun sr l7=>?_
 refine qae [0,1,2,3] kz ?_
 refine qaj [0,1] [2,3] [(5,.p 1 0),(6,.v (.slice cw ((qak (IntKind.i16.wrap v) T).length) cz))] cJ l7 fun ss l9=>?_
 have ma:=cJ.giveUp (G:=F) 0 [] (show _ = some (brow cw cz 5 (qak (IntKind.i16.wrap v) T)) from rfl) (by omega)
 obtain ⟨d6,mS⟩:=cJ.cutR 0 []
 refine qam (qal l9 (f:=88) (vs:=[.pointer (some ⟨ac,0,none⟩),.slice cw ((qak (IntKind.i16.wrap v) T).length) cz,.bool false]) (d:=7) kz Tryz.call88 (qd3 (IntKind.i16.wrap v) T (Str.of d6 1 rfl) ma (qmD 1 rfl) hc hkey) ?_)
 rintro e_ su ⟨aa,rfl,mc,md,ba,d7⟩
 replace ba:=qd4 _ _ _ ba
 obtain ⟨cB,mT,me⟩:=d6.wrote 1 [⟨b1,0,[.bool has,.string txt],true⟩,⟨ac,0,(z1 v aa),true⟩] rfl d7 mc
 have bG:=qa2 _ (Step.refl _ Nil) nilM me md
 refine ⟨_,rfl,fun sw d8=>?_⟩
 have d9:=(EnvOk.places (tb':=[⟨b1,0,[.bool has,.string txt],true⟩,⟨ac,0,[.int .i16 (IntKind.i16.wrap v),.string ((aa.f 0).s),.int .i32 ((aa.f 1).n),.string ((aa.f 2).s),.pointer ((aa.f 3).A),.int .i64 ((aa.f 4).n),.slice ((aa.f 5).A) ((aa.f 5).l) ((aa.f 5).c),.map aa.m],true⟩]) d8 (show Pl [⟨b1,0,[.bool has,.string txt],true⟩,⟨ac,0,[.int .i16 (IntKind.i16.wrap v),.string ByteArray.empty,.int .i32 (-1),.string ByteArray.empty,.pointer none,.int .i64 (-1),.slice none 0 0,.map none],true⟩] [⟨b1,0,[.bool has,.string txt],true⟩,⟨ac,0,[.int .i16 (IntKind.i16.wrap v),.string ((aa.f 0).s),.int .i32 ((aa.f 1).n),.string ((aa.f 2).s),.pointer ((aa.f 3).A),.int .i64 ((aa.f 4).n),.slice ((aa.f 5).A) ((aa.f 5).l) ((aa.f 5).c),.map aa.m],true⟩] from ⟨rfl,rfl,⟨rfl,rfl,trivial⟩⟩)).pk (env':=[(7,.v (.nilIface)),(5,.p 1 0),(6,.v (.slice cw ((qak (IntKind.i16.wrap v) T).length) cz))])
 have hv94l:=congrArg List.length ba
 refine qaj [3] [] [(4,.v (.nilIface))] cB d9 fun mU ea=>?_
 refine qaf (qaa ?_)
 refine wp_ret (qaD ea cB.cells (v:=.nilIface) kz ?_)
 refine ⟨_,rfl,fun mV eb=>?_⟩
 have ec:=(EnvOk.places (tb':=[⟨b1,0,[.bool has,.string txt],true⟩,⟨ac,0,[.int .i16 (IntKind.i16.wrap v),.string ((aa.f 0).s),.int .i32 ((aa.f 1).n),.string ((aa.f 2).s),.pointer ((aa.f 3).A),.int .i64 ((aa.f 4).n),.slice ((aa.f 5).A) ((aa.f 5).l) ((aa.f 5).c),.map aa.m],true⟩]) eb (show Pl [⟨b1,0,[.bool has,.string txt],true⟩,⟨ac,0,[.int .i16 (IntKind.i16.wrap v),.string ByteArray.empty,.int .i32 (-1),.string ByteArray.empty,.pointer none,.int .i64 (-1),.slice none 0 0,.map none],true⟩] [⟨b1,0,[.bool has,.string txt],true⟩,⟨ac,0,[.int .i16 (IntKind.i16.wrap v),.string ((aa.f 0).s),.int .i32 ((aa.f 1).n),.string ((aa.f 2).s),.pointer ((aa.f 3).A),.int .i64 ((aa.f 4).n),.slice ((aa.f 5).A) ((aa.f 5).l) ((aa.f 5).c),.map aa.m],true⟩] from ⟨rfl,rfl,⟨rfl,rfl,trivial⟩⟩)).pk (env':=[(19,.v (.nilIface)),(1,.v (.int .i32 num)),(4,.p 0 0),(10,.p 1 0),(16,.p 1 0),(17,.v (.slice A2 ((qak (IntKind.i16.wrap v) T).length) c2)),(18,.v (.slice cw ((qak (IntKind.i16.wrap v) T).length) cz))])
 refine qaj [4] [] [(1,.v (.int .i32 num)),(4,.p 0 0),(10,.p 1 0),(20,.v (.bool false))] cB ec fun mW cK=>?_
 refine qaf (qaa ?_)
 refine qau cK (b:=false) kz rfl ?_
 refine wp_skip (qaa (qae [0,1,2,3,4,5,6] kz ?_))
 refine qaj [0,1,2,3] [4,5,6] [(21,.v (.agg #[.bool has,.string txt])),(23,.v (.iface 46 (.pointer (some ⟨ac,0,none⟩)))),(24,.v (.int .i32 num))] cB cK fun mX ee=>?_
 refine qam (qa5 ee (f:=45) (vs:=[.agg #[.bool has,.string txt],.iface 46 (.pointer (some ⟨ac,0,none⟩)),.int .i32 num]) (d:=25) (n':=20) kz Tryz.call45 Tryz.func45 rfl Tryz.ntmps45 kz fun mY ef=>?_)
 refine qae [0,1] kz ?_
 refine qam (qbk cB ef (d:=3) (cs:=[.bool has,.string txt]) kz fun af mZ m4 mf mg aP cC eg=>?_)
 refine qaj [1] [] [(1,.v (.iface 46 (.pointer (some ⟨ac,0,none⟩)))),(2,.v (.int .i32 num)),(3,.p 2 0)] cC eg fun m5 eh=>?_
 refine qaf (qaa ?_)
 refine qae [0,1] kz ?_
 refine qam (qa5 eh (f:=89) (vs:=[.slice none 0 0]) (d:=8) (n':=18) kz Tryz.call89 Tryz.func89 rfl Tryz.ntmps89 kz fun m6 ei=>?_)
 refine qas [(0,.v (.slice none 0 0))] cC ei fun m7 ej=>?_
 refine qae [0,1] kz ?_
 refine qam (qa9 cC ej (d:=6) (cs:=[.pointer none]) kz fun ae m8 m9 mh mi aQ av ek=>?_)
 refine qaj [1] [] [(0,.v (.slice none 0 0)),(3,.p 3 0)] av ek fun nf em=>?_
 refine qaf (qaa ?_)
 refine wp_seq (qas [(3,.p 3 0),(7,.v (.slice none 0 0)),(8,.v (.int .i64 0)),(9,.v (.int .i64 0))] av em fun ng eo=>?_)
 refine wp_block (wp_loop_rounds 1 ?_)
 refine qgG (qas [(3,.p 3 0),(7,.v (.slice none 0 0)),(8,.v (.int .i64 0)),(9,.v (.int .i64 0)),(10,.v (.bool false))] av eo fun nh cL=>?_)
 refine wp_seq (qau cL (b:=false) kz rfl ?_)
 refine wp_exit (qaz (qaz (qaQ (qaa (qas [(2,.p 3 0)] av cL fun ni ep=>?_)))))
 refine wp_ret (qaD ep av.cells (v:=.pointer (some ⟨ae,0,none⟩)) kz ?_)
 refine ⟨_,rfl,fun nj eu=>?_⟩
 have ev:=(EnvOk.places (tb':=[⟨b1,0,[.bool has,.string txt],true⟩,⟨ac,0,[.int .i16 (IntKind.i16.wrap v),.string ((aa.f 0).s),.int .i32 ((aa.f 1).n),.string ((aa.f 2).s),.pointer ((aa.f 3).A),.int .i64 ((aa.f 4).n),.slice ((aa.f 5).A) ((aa.f 5).l) ((aa.f 5).c),.map aa.m],true⟩,⟨af,0,[.bool has,.string txt],true⟩,⟨ae,0,[.pointer none],true⟩]) eu (show Pl [⟨b1,0,[.bool has,.string txt],true⟩,⟨ac,0,[.int .i16 (IntKind.i16.wrap v),.string ((aa.f 0).s),.int .i32 ((aa.f 1).n),.string ((aa.f 2).s),.pointer ((aa.f 3).A),.int .i64 ((aa.f 4).n),.slice ((aa.f 5).A) ((aa.f 5).l) ((aa.f 5).c),.map aa.m],true⟩,⟨af,0,[.bool has,.string txt],true⟩] [⟨b1,0,[.bool has,.string txt],true⟩,⟨ac,0,[.int .i16 (IntKind.i16.wrap v),.string ((aa.f 0).s),.int .i32 ((aa.f 1).n),.string ((aa.f 2).s),.pointer ((aa.f 3).A),.int .i64 ((aa.f 4).n),.slice ((aa.f 5).A) ((aa.f 5).l) ((aa.f 5).c),.map aa.m],true⟩,⟨af,0,[.bool has,.string txt],true⟩,⟨ae,0,[.pointer none],true⟩] from ⟨rfl,rfl,⟨rfl,rfl,⟨rfl,rfl,trivial⟩⟩⟩)).pk (env':=[(8,.v (.pointer (some ⟨ae,0,none⟩))),(1,.v (.iface 46 (.pointer (some ⟨ac,0,none⟩)))),(2,.v (.int .i32 num)),(3,.p 2 0)])
 have ew:=ev.recast 8 (.v (.pointer (some ⟨ae,0,none⟩))) (.p 3 0) rfl rfl (Nat.le_of_ble_eq_true (n:=4) rfl)
 have ey:=ew.pick (ks:=[1,2,3,8]) (env':=[(1,.v (.iface 46 (.pointer (some ⟨ac,0,none⟩)))),(2,.v (.int .i32 num)),(3,.p 2 0),(8,.p 3 0)]) kz
 refine qaj [1] [] [(1,.v (.iface 46 (.pointer (some ⟨ac,0,none⟩)))),(2,.v (.int .i32 num)),(3,.p 2 0),(7,.p 3 0)] av ey fun nk ez=>?_
 refine qaf (qaa ?_)
 refine wp_seq (qas [(1,.v (.iface 46 (.pointer (some ⟨ac,0,none⟩)))),(2,.v (.int .i32 num)),(3,.p 2 0),(7,.p 3 0),(10,.v (.bool has))] av ez fun nl cD=>?_)
 refine qax cD (b:=has) kz (fun aJ=>?_) (fun aJ=>?_)
 ·
  refine qar [0,1,2,3,4,5] kz ?_
  refine qaj [0,1] [2,3,4,5] [(1,.v (.iface 46 (.pointer (some ⟨ac,0,none⟩)))),(2,.v (.int .i32 num)),(12,.v (.string txt))] av cD fun np eB=>?_
  refine qam (qa5 eB (f:=90) (vs:=[.string txt]) (d:=13) (n':=6) kz Tryz.call90 Tryz.func90 rfl Tryz.ntmps90 kz fun nr eC=>?_)
  refine qae [0,1] kz ?_
  refine qam (qbk av eC (d:=1) (cs:=[.string txt]) kz fun ab ns nt mj ml bH bI eD=>?_)
  refine qaj [1] [] [(1,.p 4 0)] bI eD fun nu eE=>?_
  refine qaf (qaa ?_)
  refine qae [0,1,2,3] kz ?_
  refine qam (qgr eE (v:=.func (.func 131) #[] #[.pointer (some ⟨ab,0,none⟩)]) (d:=3) kz fun nv eF=>?_)
  refine qaj [1,2,3] [] [(2,.v (.iface 147 (.agg #[.func (.func 131) #[] #[.pointer (some ⟨ab,0,none⟩)]])))] bI eF fun nw eG=>?_
  refine qaf (qaa ?_)
  refine wp_ret (qaD eG bI.cells (v:=.iface 147 (.agg #[.func (.func 131) #[] #[.pointer (some ⟨ab,0,none⟩)]])) kz ?_)
  refine ⟨_,rfl,fun nx eH=>?_⟩
  have eI:=(EnvOk.places (tb':=[⟨b1,0,[.bool has,.string txt],true⟩,⟨ac,0,[.int .i16 (IntKind.i16.wrap v),.string ((aa.f 0).s),.int .i32 ((aa.f 1).n),.string ((aa.f 2).s),.pointer ((aa.f 3).A),.int .i64 ((aa.f 4).n),.slice ((aa.f 5).A) ((aa.f 5).l) ((aa.f 5).c),.map aa.m],true⟩,⟨af,0,[.bool has,.string txt],true⟩,⟨ae,0,[.pointer none],true⟩,⟨ab,0,[.string txt],true⟩]) eH (show Pl [⟨b1,0,[.bool has,.string txt],true⟩,⟨ac,0,[.int .i16 (IntKind.i16.wrap v),.string ((aa.f 0).s),.int .i32 ((aa.f 1).n),.string ((aa.f 2).s),.pointer ((aa.f 3).A),.int .i64 ((aa.f 4).n),.slice ((aa.f 5).A) ((aa.f 5).l) ((aa.f 5).c),.map aa.m],true⟩,⟨af,0,[.bool has,.string txt],true⟩,⟨ae,0,[.pointer none],true⟩] [⟨b1,0,[.bool has,.string txt],true⟩,⟨ac,0,[.int .i16 (IntKind.i16.wrap v),.string ((aa.f 0).s),.int .i32 ((aa.f 1).n),.string ((aa.f 2).s),.pointer ((aa.f 3).A),.int .i64 ((aa.f 4).n),.slice ((aa.f 5).A) ((aa.f 5).l) ((aa.f 5).c),.map aa.m],true⟩,⟨af,0,[.bool has,.string txt],true⟩,⟨ae,0,[.pointer none],true⟩,⟨ab,0,[.string txt],true⟩] from ⟨rfl,rfl,⟨rfl,rfl,⟨rfl,rfl,⟨rfl,rfl,trivial⟩⟩⟩⟩)).pk (env':=[(13,.v (.iface 147 (.agg #[.func (.func 131) #[] #[.pointer (some ⟨ab,0,none⟩)]]))),(1,.v (.iface 46 (.pointer (some ⟨ac,0,none⟩)))),(2,.v (.int .i32 num)),(12,.v (.string txt))])
  refine qam (qd9 bI eI (e:=96) (size:=1) (len:=1) (cs:=[.iface 147 (.agg #[.func (.func 131) #[] #[.pointer (some ⟨ab,0,none⟩)]])]) (d:=14) kz kz fun au ny nz mn mo bJ cM eJ=>?_)
  refine qam (qa5 eJ (f:=89) (vs:=[.slice (some ⟨au,0,none⟩) 1 1]) (d:=15) (n':=18) kz Tryz.call89 Tryz.func89 rfl Tryz.ntmps89 kz fun nA eK=>?_)
  refine qas [(0,.v (.slice (some ⟨au,0,none⟩) 1 1))] cM eK fun nB eL=>?_
  refine qae [0,1] kz ?_
  refine qam (qa9 cM eL (d:=6) (cs:=[.pointer none]) kz fun ag nC nD mp mq bK bd eM=>?_)
  refine qaj [1] [] [(0,.v (.slice (some ⟨au,0,none⟩) 1 1)),(3,.p 5 0)] bd eM fun nE eN=>?_
  refine qaf (qaa ?_)
  refine wp_seq (qas [(3,.p 5 0),(7,.v (.slice (some ⟨au,0,none⟩) 1 1)),(8,.v (.int .i64 1)),(9,.v (.int .i64 0))] bd eN fun nF eO=>?_)
  refine wp_block (wp_loop_rounds 2 ?_)
  refine qgG (qas [(3,.p 5 0),(7,.v (.slice (some ⟨au,0,none⟩) 1 1)),(8,.v (.int .i64 1)),(9,.v (.int .i64 0)),(10,.v (.bool true))] bd eO fun nG cN=>?_)
  refine wp_seq (qbF cN (b:=true) kz rfl ?_)
  refine wp_skip (qaa (wp_seq (wp_block (qae [0,1,2] kz ?_))))
  have dT:=qgP (o:=0 * 1) (cs:=[.iface 147 (.agg #[.func (.func 131) #[] #[.pointer (some ⟨ab,0,none⟩)]])]) (bd.own 0 _ rfl) rfl (fun j_ v_ h_=>by simpa using h_)
  refine qam (qay cN (t:=142) (A:=(some ⟨au,0,none⟩)) (m:=1) (q:=0) (d:=11) kz (e:=96) (size:=1) (bytes:=16) kz (b:=au) (o:=0) (j:=0) rfl (rfl) (by omega) fun nH eP=>?_)
  refine qam (qaH eP (t:=96) (b:=au) (o:=0 + 0 * 1) (d:=12) kz (cs:=[.iface 147 (.agg #[.func (.func 131) #[] #[.pointer (some ⟨ab,0,none⟩)]])]) (v:=.iface 147 (.agg #[.func (.func 131) #[] #[.pointer (some ⟨ab,0,none⟩)]])) kz dT fun nI eQ=>?_)
  refine qaj [2] [] [(3,.p 5 0),(5,.v (.iface 147 (.agg #[.func (.func 131) #[] #[.pointer (some ⟨ab,0,none⟩)]]))),(7,.v (.slice (some ⟨au,0,none⟩) 1 1)),(8,.v (.int .i64 1)),(9,.v (.int .i64 0))] bd eQ fun nJ eR=>?_
  refine qaf (qaa ?_)
  refine qar [0,1,2] kz ?_
  refine qaj [0,1] [2] [(3,.p 5 0),(7,.v (.slice (some ⟨au,0,none⟩) 1 1)),(8,.v (.int .i64 1)),(9,.v (.int .i64 0)),(13,.v (.iface 147 (.agg #[.func (.func 131) #[] #[.pointer (some ⟨ab,0,none⟩)]]))),(14,.p 5 0)] bd eR fun nK eS=>?_
  refine qam (qcj eS (t := 147) (v := (.agg #[.func (.func 131) #[] #[.pointer (some ⟨ab, 0, none⟩)]])) (v' := (.agg #[.func (.func 131) #[] #[.pointer (some ⟨ab, 0, none⟩)]])) (name := "pub-mailsack/pub/kmsg.apply") (f := 254) (vs := [.pointer (some ⟨ag, 0, none⟩)]) (d := 15) (n' := 8) kz (fun _ => by kernel_rfl) Tryz.call254 Tryz.func254 rfl Tryz.ntmps254 kz fun nL eT => ?_)
  have eU:=eT.recast 1 (.v (.pointer (some ⟨ag,0,none⟩))) (.p 5 0) rfl rfl (Nat.le_of_ble_eq_true (n:=6) rfl)
  refine qae [0] kz ?_
  refine qam (qbk bd eU (d:=2) (cs:=[.func (.func 131) #[] #[.pointer (some ⟨ab,0,none⟩)]]) kz fun ah nM nN mr mt bL cE eV=>?_)
  refine qaf (qaa ?_)
  refine qar [0,1,2,3] kz ?_
  refine qaj [0,1,2] [3] [(5,.v (.func (.func 131) #[] #[.pointer (some ⟨ab,0,none⟩)])),(6,.p 5 0)] cE eV fun nO eW=>?_
  refine qam (qa5 eW (f:=131) (vs:=[.pointer (some ⟨ag,0,none⟩),.pointer (some ⟨ab,0,none⟩)]) (d:=7) (n':=6) kz Tryz.call131 Tryz.func131 rfl Tryz.ntmps131 kz fun nP eX=>?_)
  have eY:=eX.recast 0 (.v (.pointer (some ⟨ag,0,none⟩))) (.p 5 0) rfl rfl (Nat.le_of_ble_eq_true (n:=6) rfl)
  have eZ:=eY.recast 1 (.v (.pointer (some ⟨ab,0,none⟩))) (.p 4 0) rfl rfl (Nat.le_of_ble_eq_true (n:=5) rfl)
  refine qar [0,1,2,3] kz ?_
  refine qaj [0,1,2] [3] [(1,.p 4 0),(5,.p 5 0)] cE eZ fun nQ e9=>?_
  refine qam (qaI cE e9 (oi:=5) (cs:=[.pointer (some ⟨ab,0,none⟩)]) kz fun nR bM aA fa=>?_)
  refine qaf (qcq fa aA.cells (v:=.tuple #[]) kz ?_)
  refine ⟨_,rfl,fun nS fb=>?_⟩
  have fe:=(EnvOk.places (tb':=[⟨b1,0,[.bool has,.string txt],true⟩,⟨ac,0,[.int .i16 (IntKind.i16.wrap v),.string ((aa.f 0).s),.int .i32 ((aa.f 1).n),.string ((aa.f 2).s),.pointer ((aa.f 3).A),.int .i64 ((aa.f 4).n),.slice ((aa.f 5).A) ((aa.f 5).l) ((aa.f 5).c),.map aa.m],true⟩,⟨af,0,[.bool has,.string txt],true⟩,⟨ae,0,[.pointer none],true⟩,⟨ab,0,[.string txt],true⟩,⟨ag,0,[.pointer (some ⟨ab,0,none⟩)],true⟩,⟨ah,0,[.func (.func 131) #[] #[.pointer (some ⟨ab,0,none⟩)]],true⟩]) fb (show Pl [⟨b1,0,[.bool has,.string txt],true⟩,⟨ac,0,[.int .i16 (IntKind.i16.wrap v),.string ((aa.f 0).s),.int .i32 ((aa.f 1).n),.string ((aa.f 2).s),.pointer ((aa.f 3).A),.int .i64 ((aa.f 4).n),.slice ((aa.f 5).A) ((aa.f 5).l) ((aa.f 5).c),.map aa.m],true⟩,⟨af,0,[.bool has,.string txt],true⟩,⟨ae,0,[.pointer none],true⟩,⟨ab,0,[.string txt],true⟩,⟨ag,0,[.pointer none],true⟩,⟨ah,0,[.func (.func 131) #[] #[.pointer (some ⟨ab,0,none⟩)]],true⟩] [⟨b1,0,[.bool has,.string txt],true⟩,⟨ac,0,[.int .i16 (IntKind.i16.wrap v),.string ((aa.f 0).s),.int .i32 ((aa.f 1).n),.string ((aa.f 2).s),.pointer ((aa.f 3).A),.int .i64 ((aa.f 4).n),.slice ((aa.f 5).A) ((aa.f 5).l) ((aa.f 5).c),.map aa.m],true⟩,⟨af,0,[.bool has,.string txt],true⟩,⟨ae,0,[.pointer none],true⟩,⟨ab,0,[.string txt],true⟩,⟨ag,0,[.pointer (some ⟨ab,0,none⟩)],true⟩,⟨ah,0,[.func (.func 131) #[] #[.pointer (some ⟨ab,0,none⟩)]],true⟩] from ⟨rfl,rfl,⟨rfl,rfl,⟨rfl,rfl,⟨rfl,rfl,⟨rfl,rfl,⟨rfl,rfl,⟨rfl,rfl,trivial⟩⟩⟩⟩⟩⟩⟩)).pk (env':=[(7,.v (.tuple #[])),(5,.v (.func (.func 131) #[] #[.pointer (some ⟨ab,0,none⟩)])),(6,.p 5 0)])
  refine qaf (qcq fe aA.cells (v:=.tuple #[]) kz ?_)
  refine ⟨_,rfl,fun nT ff=>?_⟩
  have fg:=(EnvOk.places (tb':=[⟨b1,0,[.bool has,.string txt],true⟩,⟨ac,0,[.int .i16 (IntKind.i16.wrap v),.string ((aa.f 0).s),.int .i32 ((aa.f 1).n),.string ((aa.f 2).s),.pointer ((aa.f 3).A),.int .i64 ((aa.f 4).n),.slice ((aa.f 5).A) ((aa.f 5).l) ((aa.f 5).c),.map aa.m],true⟩,⟨af,0,[.bool has,.string txt],true⟩,⟨ae,0,[.pointer none],true⟩,⟨ab,0,[.string txt],true⟩,⟨ag,0,[.pointer (some ⟨ab,0,none⟩)],true⟩,⟨ah,0,[.func (.func 131) #[] #[.pointer (some ⟨ab,0,none⟩)]],true⟩]) ff (show Pl [⟨b1,0,[.bool has,.string txt],true⟩,⟨ac,0,[.int .i16 (IntKind.i16.wrap v),.string ((aa.f 0).s),.int .i32 ((aa.f 1).n),.string ((aa.f 2).s),.pointer ((aa.f 3).A),.int .i64 ((aa.f 4).n),.slice ((aa.f 5).A) ((aa.f 5).l) ((aa.f 5).c),.map aa.m],true⟩,⟨af,0,[.bool has,.string txt],true⟩,⟨ae,0,[.pointer none],true⟩,⟨ab,0,[.string txt],true⟩,⟨ag,0,[.pointer none],true⟩] [⟨b1,0,[.bool has,.string txt],true⟩,⟨ac,0,[.int .i16 (IntKind.i16.wrap v),.string ((aa.f 0).s),.int .i32 ((aa.f 1).n),.string ((aa.f 2).s),.pointer ((aa.f 3).A),.int .i64 ((aa.f 4).n),.slice ((aa.f 5).A) ((aa.f 5).l) ((aa.f 5).c),.map aa.m],true⟩,⟨af,0,[.bool has,.string txt],true⟩,⟨ae,0,[.pointer none],true⟩,⟨ab,0,[.string txt],true⟩,⟨ag,0,[.pointer (some ⟨ab,0,none⟩)],true⟩,⟨ah,0,[.func (.func 131) #[] #[.pointer (some ⟨ab,0,none⟩)]],true⟩] from ⟨rfl,rfl,⟨rfl,rfl,⟨rfl,rfl,⟨rfl,rfl,⟨rfl,rfl,⟨rfl,rfl,trivial⟩⟩⟩⟩⟩⟩)).pk (env':=[(15,.v (.tuple #[])),(3,.p 5 0),(7,.v (.slice (some ⟨au,0,none⟩) 1 1)),(8,.v (.int .i64 1)),(9,.v (.int .i64 0)),(13,.v (.iface 147 (.agg #[.func (.func 131) #[] #[.pointer (some ⟨ab,0,none⟩)]]))),(14,.p 5 0)])
  refine qaf (qaE (qaa (qar [0,1] kz ?_)))
  refine qaj [0,1] [] [(3,.p 5 0),(7,.v (.slice (some ⟨au,0,none⟩) 1 1)),(8,.v (.int .i64 1)),(9,.v (.int .i64 1))] aA fg fun nU fh=>?_
  refine qaf (qaa ?_)
  refine qgG (qas [(3,.p 5 0),(7,.v (.slice (some ⟨au,0,none⟩) 1 1)),(8,.v (.int .i64 1)),(9,.v (.int .i64 1)),(10,.v (.bool false))] aA fh fun nV cO=>?_)
  refine wp_seq (qau cO (b:=false) kz rfl ?_)
  refine wp_exit (qaz (qaz (qaQ (qaa (qas [(2,.p 5 0)] aA cO fun nW fi=>?_)))))
  refine wp_ret (qaD fi aA.cells (v:=.pointer (some ⟨ag,0,none⟩)) kz ?_)
  refine ⟨_,rfl,fun nX fj=>?_⟩
  have fk:=(EnvOk.places (tb':=[⟨b1,0,[.bool has,.string txt],true⟩,⟨ac,0,[.int .i16 (IntKind.i16.wrap v),.string ((aa.f 0).s),.int .i32 ((aa.f 1).n),.string ((aa.f 2).s),.pointer ((aa.f 3).A),.int .i64 ((aa.f 4).n),.slice ((aa.f 5).A) ((aa.f 5).l) ((aa.f 5).c),.map aa.m],true⟩,⟨af,0,[.bool has,.string txt],true⟩,⟨ae,0,[.pointer none],true⟩,⟨ab,0,[.string txt],true⟩,⟨ag,0,[.pointer (some ⟨ab,0,none⟩)],true⟩,⟨ah,0,[.func (.func 131) #[] #[.pointer (some ⟨ab,0,none⟩)]],true⟩]) fj (show Pl [⟨b1,0,[.bool has,.string txt],true⟩,⟨ac,0,[.int .i16 (IntKind.i16.wrap v),.string ((aa.f 0).s),.int .i32 ((aa.f 1).n),.string ((aa.f 2).s),.pointer ((aa.f 3).A),.int .i64 ((aa.f 4).n),.slice ((aa.f 5).A) ((aa.f 5).l) ((aa.f 5).c),.map aa.m],true⟩,⟨af,0,[.bool has,.string txt],true⟩,⟨ae,0,[.pointer none],true⟩,⟨ab,0,[.string txt],true⟩] [⟨b1,0,[.bool has,.string txt],true⟩,⟨ac,0,[.int .i16 (IntKind.i16.wrap v),.string ((aa.f 0).s),.int .i32 ((aa.f 1).n),.string ((aa.f 2).s),.pointer ((aa.f 3).A),.int .i64 ((aa.f 4).n),.slice ((aa.f 5).A) ((aa.f 5).l) ((aa.f 5).c),.map aa.m],true⟩,⟨af,0,[.bool has,.string txt],true⟩,⟨ae,0,[.pointer none],true⟩,⟨ab,0,[.string txt],true⟩,⟨ag,0,[.pointer (some ⟨ab,0,none⟩)],true⟩,⟨ah,0,[.func (.func 131) #[] #[.pointer (some ⟨ab,0,none⟩)]],true⟩] from ⟨rfl,rfl,⟨rfl,rfl,⟨rfl,rfl,⟨rfl,rfl,⟨rfl,rfl,trivial⟩⟩⟩⟩⟩)).pk (env':=[(15,.v (.pointer (some ⟨ag,0,none⟩))),(1,.v (.iface 46 (.pointer (some ⟨ac,0,none⟩)))),(2,.v (.int .i32 num)),(12,.v (.string txt)),(13,.v (.iface 147 (.agg #[.func (.func 131) #[] #[.pointer (some ⟨ab,0,none⟩)]]))),(14,.v (.slice (some ⟨au,0,none⟩) 1 1))])
  have fl:=fk.recast 15 (.v (.pointer (some ⟨ag,0,none⟩))) (.p 5 0) rfl rfl (Nat.le_of_ble_eq_true (n:=6) rfl)
  have fm:=fl.pick (ks:=[1,2,12,13,14,15]) (env':=[(1,.v (.iface 46 (.pointer (some ⟨ac,0,none⟩)))),(2,.v (.int .i32 num)),(12,.v (.string txt)),(13,.v (.iface 147 (.agg #[.func (.func 131) #[] #[.pointer (some ⟨ab,0,none⟩)]]))),(14,.v (.slice (some ⟨au,0,none⟩) 1 1)),(15,.p 5 0)]) kz
  refine qaj [5] [] [(1,.v (.iface 46 (.pointer (some ⟨ac,0,none⟩)))),(2,.v (.int .i32 num)),(7,.p 5 0)] aA fm fun nY fo=>?_
  refine qaf (qaa ?_)
  refine qae [0,1,2,3,4] kz ?_
  refine qaj [0,1,2] [3,4] [(16,.p 5 0),(17,.v (.iface 46 (.pointer (some ⟨ac,0,none⟩)))),(18,.v (.int .i32 num))] aA fo fun nZ fq=>?_
  refine qam (qa5 fq (f:=91) (vs:=[.pointer (some ⟨ag,0,none⟩),.slice none 0 0,.iface 46 (.pointer (some ⟨ac,0,none⟩)),.int .i32 num]) (d:=19) (n':=60) kz Tryz.call91 Tryz.func91 rfl Tryz.ntmps91 kz fun n4 fr=>?_)
  have ft:=fr.recast 0 (.v (.pointer (some ⟨ag,0,none⟩))) (.p 5 0) rfl rfl (Nat.le_of_ble_eq_true (n:=6) rfl)
  refine qas [(0,.p 5 0),(1,.v (.slice none 0 0)),(2,.v (.iface 46 (.pointer (some ⟨ac,0,none⟩)))),(3,.v (.int .i32 num))] aA ft fun n5 fu=>?_
  refine qae [0,1,2,3] kz ?_
  refine qaj [0] [1,2,3] [(0,.p 5 0),(2,.v (.iface 46 (.pointer (some ⟨ac,0,none⟩)))),(3,.v (.int .i32 num)),(12,.v (.slice none 0 0))] aA fu fun n8 fv=>?_
  have fw:=aA.addNil 5 1
  have bN:=aA.frNil 5 1
  refine qbu fw fv (k:=1) (e:=5) (size:=1) (len:=4) (cs:=[.int .u8 0,.int .u8 0,.int .u8 0,.int .u8 0]) (d1:=13) (d:=14) kz (t:=24) (bytes:=1) kz (fun _=>by kernel_rfl) rfl kz (by first | omega | (simp only [List.length_append,List.length_cons,List.length_nil,be_length,qbU]; omega) | (simp; omega)) fun aD aE oa od bO fx ⟨_,fy⟩=>?_
  have fz:(⟨aD,aE,5,1,([]:Bs).length + 4,bc ([]:Bs) ++ [.int .u8 0,.int .u8 0,.int .u8 0,.int .u8 0]⟩:Rw) = brow aD aE 5 (([]:Bs) ++ [by8 0,by8 0,by8 0,by8 0]):=qa0 (by simp only [bc,List.map,qbC]; try rfl) rfl
  obtain ⟨aw,bP⟩:=fx.rowEq 1 (z31 au ab aD aE) fz
  have fA:=EnvOk.pick fy (ks:=[0,2,3,12,14]) (env':=[(0,.p 5 0),(2,.v (.iface 46 (.pointer (some ⟨ac,0,none⟩)))),(3,.v (.int .i32 num)),(12,.v (.slice none 0 0)),(14,.v (.slice aD (([]:Bs).length + 4) aE))]) kz
  have fB:=fA.cast (env':=[(0,.p 5 0),(2,.v (.iface 46 (.pointer (some ⟨ac,0,none⟩)))),(3,.v (.int .i32 num)),(12,.v (.slice none 0 0)),(14,.v (.slice aD ((([]:Bs) ++ [by8 0,by8 0,by8 0,by8 0]).length) aE))]) (by simp only [List.length_append,List.length_cons,List.length_nil,Nat.zero_add])
  refine qaj [3] [] [(0,.p 5 0),(1,.v (.slice aD ((([]:Bs) ++ [by8 0,by8 0,by8 0,by8 0]).length) aE)),(2,.v (.iface 46 (.pointer (some ⟨ac,0,none⟩)))),(3,.v (.int .i32 num))] aw fB fun oe fC=>?_
  refine qaf (qaa ?_)
  refine qae [0,1,2] kz ?_
  refine qaj [0] [1,2] [(0,.p 5 0),(1,.v (.slice aD ((([]:Bs) ++ [by8 0,by8 0,by8 0,by8 0]).length) aE)),(2,.v (.iface 46 (.pointer (some ⟨ac,0,none⟩)))),(3,.v (.int .i32 num)),(15,.v (.iface 46 (.pointer (some ⟨ac,0,none⟩))))] aw fC fun og fD=>?_
  refine qam (qcj fD (t := 46) (v := (.pointer (some ⟨ac, 0, none⟩))) (v' := (.pointer (some ⟨ac, 0, none⟩))) (name := "Key") (f := 179) (vs := []) (d := 16) (n' := 3) kz (fun _ => by kernel_rfl) Tryz.call179 Tryz.func179 rfl Tryz.ntmps179 kz fun oh fE => ?_)
  have fF:=fE.recast 0 (.v (.pointer (some ⟨ac,0,none⟩))) (.p 1 0) rfl rfl (Nat.le_of_ble_eq_true (n:=2) rfl)
  refine qas [] aw fF fun ol fG=>?_
  refine qas [(2,.v (.int .i16 8))] aw fG fun om fH=>?_
  refine wp_ret (qaD fH aw.cells (v:=.int .i16 8) kz ?_)
  refine ⟨_,rfl,fun oq fI=>?_⟩
  have fJ:=(EnvOk.places (tb':=[⟨b1,0,[.bool has,.string txt],true⟩,⟨ac,0,[.int .i16 (IntKind.i16.wrap v),.string ((aa.f 0).s),.int .i32 ((aa.f 1).n),.string ((aa.f 2).s),.pointer ((aa.f 3).A),.int .i64 ((aa.f 4).n),.slice ((aa.f 5).A) ((aa.f 5).l) ((aa.f 5).c),.map aa.m],true⟩,⟨af,0,[.bool has,.string txt],true⟩,⟨ae,0,[.pointer none],true⟩,⟨ab,0,[.string txt],true⟩,⟨ag,0,[.pointer (some ⟨ab,0,none⟩)],true⟩,⟨ah,0,[.func (.func 131) #[] #[.pointer (some ⟨ab,0,none⟩)]],true⟩]) fI (show Pl [⟨b1,0,[.bool has,.string txt],true⟩,⟨ac,0,[.int .i16 (IntKind.i16.wrap v),.string ((aa.f 0).s),.int .i32 ((aa.f 1).n),.string ((aa.f 2).s),.pointer ((aa.f 3).A),.int .i64 ((aa.f 4).n),.slice ((aa.f 5).A) ((aa.f 5).l) ((aa.f 5).c),.map aa.m],true⟩,⟨af,0,[.bool has,.string txt],true⟩,⟨ae,0,[.pointer none],true⟩,⟨ab,0,[.string txt],true⟩,⟨ag,0,[.pointer (some ⟨ab,0,none⟩)],true⟩,⟨ah,0,[.func (.func 131) #[] #[.pointer (some ⟨ab,0,none⟩)]],true⟩] [⟨b1,0,[.bool has,.string txt],true⟩,⟨ac,0,[.int .i16 (IntKind.i16.wrap v),.string ((aa.f 0).s),.int .i32 ((aa.f 1).n),.string ((aa.f 2).s),.pointer ((aa.f 3).A),.int .i64 ((aa.f 4).n),.slice ((aa.f 5).A) ((aa.f 5).l) ((aa.f 5).c),.map aa.m],true⟩,⟨af,0,[.bool has,.string txt],true⟩,⟨ae,0,[.pointer none],true⟩,⟨ab,0,[.string txt],true⟩,⟨ag,0,[.pointer (some ⟨ab,0,none⟩)],true⟩,⟨ah,0,[.func (.func 131) #[] #[.pointer (some ⟨ab,0,none⟩)]],true⟩] from ⟨rfl,rfl,⟨rfl,rfl,⟨rfl,rfl,⟨rfl,rfl,⟨rfl,rfl,⟨rfl,rfl,⟨rfl,rfl,trivial⟩⟩⟩⟩⟩⟩⟩)).pk (env':=[(16,.v (.int .i16 8)),(0,.p 5 0),(1,.v (.slice aD ((([]:Bs) ++ [by8 0,by8 0,by8 0,by8 0]).length) aE)),(2,.v (.iface 46 (.pointer (some ⟨ac,0,none⟩)))),(3,.v (.int .i32 num)),(15,.v (.iface 46 (.pointer (some ⟨ac,0,none⟩))))])
  refine qaj [2] [] [(0,.p 5 0),(1,.v (.slice aD ((([]:Bs) ++ [by8 0,by8 0,by8 0,by8 0]).length) aE)),(2,.v (.iface 46 (.pointer (some ⟨ac,0,none⟩)))),(3,.v (.int .i32 num)),(9,.v (.int .i16 8))] aw fJ fun ot fK=>?_
  refine qaf (qaa ?_)
  refine qae [0,1,2] kz ?_
  refine qaj [0] [1,2] [(0,.p 5 0),(1,.v (.slice aD ((([]:Bs) ++ [by8 0,by8 0,by8 0,by8 0]).length) aE)),(2,.v (.iface 46 (.pointer (some ⟨ac,0,none⟩)))),(3,.v (.int .i32 num)),(9,.v (.int .i16 8)),(17,.v (.iface 46 (.pointer (some ⟨ac,0,none⟩))))] aw fK fun ou fL=>?_
  refine qam (qcj fL (t := 46) (v := (.pointer (some ⟨ac, 0, none⟩))) (v' := (.pointer (some ⟨ac, 0, none⟩))) (name := "GetVersion") (f := 177) (vs := []) (d := 18) (n' := 7) kz (fun _ => by kernel_rfl) Tryz.call177 Tryz.func177 rfl Tryz.ntmps177 kz fun ov fM => ?_)
  have fN:=fM.recast 0 (.v (.pointer (some ⟨ac,0,none⟩))) (.p 1 0) rfl rfl (Nat.le_of_ble_eq_true (n:=2) rfl)
  refine qas [(0,.p 1 0)] aw fN fun ow fO=>?_
  refine qas [(2,.v (.int .i16 (IntKind.i16.wrap v)))] aw fO fun ox fP=>?_
  refine wp_ret (qaD fP aw.cells (v:=.int .i16 (IntKind.i16.wrap v)) kz ?_)
  refine ⟨_,rfl,fun oy fQ=>?_⟩
  have fR:=(EnvOk.places (tb':=[⟨b1,0,[.bool has,.string txt],true⟩,⟨ac,0,[.int .i16 (IntKind.i16.wrap v),.string ((aa.f 0).s),.int .i32 ((aa.f 1).n),.string ((aa.f 2).s),.pointer ((aa.f 3).A),.int .i64 ((aa.f 4).n),.slice ((aa.f 5).A) ((aa.f 5).l) ((aa.f 5).c),.map aa.m],true⟩,⟨af,0,[.bool has,.string txt],true⟩,⟨ae,0,[.pointer none],true⟩,⟨ab,0,[.string txt],true⟩,⟨ag,0,[.pointer (some ⟨ab,0,none⟩)],true⟩,⟨ah,0,[.func (.func 131) #[] #[.pointer (some ⟨ab,0,none⟩)]],true⟩]) fQ (show Pl [⟨b1,0,[.bool has,.string txt],true⟩,⟨ac,0,[.int .i16 (IntKind.i16.wrap v),.string ((aa.f 0).s),.int .i32 ((aa.f 1).n),.string ((aa.f 2).s),.pointer ((aa.f 3).A),.int .i64 ((aa.f 4).n),.slice ((aa.f 5).A) ((aa.f 5).l) ((aa.f 5).c),.map aa.m],true⟩,⟨af,0,[.bool has,.string txt],true⟩,⟨ae,0,[.pointer none],true⟩,⟨ab,0,[.string txt],true⟩,⟨ag,0,[.pointer (some ⟨ab,0,none⟩)],true⟩,⟨ah,0,[.func (.func 131) #[] #[.pointer (some ⟨ab,0,none⟩)]],true⟩] [⟨b1,0,[.bool has,.string txt],true⟩,⟨ac,0,[.int .i16 (IntKind.i16.wrap v),.string ((aa.f 0).s),.int .i32 ((aa.f 1).n),.string ((aa.f 2).s),.pointer ((aa.f 3).A),.int .i64 ((aa.f 4).n),.slice ((aa.f 5).A) ((aa.f 5).l) ((aa.f 5).c),.map aa.m],true⟩,⟨af,0,[.bool has,.string txt],true⟩,⟨ae,0,[.pointer none],true⟩,⟨ab,0,[.string txt],true⟩,⟨ag,0,[.pointer (some ⟨ab,0,none⟩)],true⟩,⟨ah,0,[.func (.func 131) #[] #[.pointer (some ⟨ab,0,none⟩)]],true⟩] from ⟨rfl,rfl,⟨rfl,rfl,⟨rfl,rfl,⟨rfl,rfl,⟨rfl,rfl,⟨rfl,rfl,⟨rfl,rfl,trivial⟩⟩⟩⟩⟩⟩⟩)).pk (env':=[(18,.v (.int .i16 (IntKind.i16.wrap v))),(0,.p 5 0),(1,.v (.slice aD ((([]:Bs) ++ [by8 0,by8 0,by8 0,by8 0]).length) aE)),(2,.v (.iface 46 (.pointer (some ⟨ac,0,none⟩)))),(3,.v (.int .i32 num)),(9,.v (.int .i16 8)),(17,.v (.iface 46 (.pointer (some ⟨ac,0,none⟩))))])
  refine qaj [2] [] [(0,.p 5 0),(1,.v (.slice aD ((([]:Bs) ++ [by8 0,by8 0,by8 0,by8 0]).length) aE)),(2,.v (.iface 46 (.pointer (some ⟨ac,0,none⟩)))),(3,.v (.int .i32 num)),(9,.v (.int .i16 8)),(10,.v (.int .i16 (IntKind.i16.wrap v)))] aw fR fun oz fS=>?_
  refine qaf (qaa ?_)
  refine qae [0,1,2,3] kz ?_
  refine qaj [0,1] [2,3] [(0,.p 5 0),(2,.v (.iface 46 (.pointer (some ⟨ac,0,none⟩)))),(3,.v (.int .i32 num)),(9,.v (.int .i16 8)),(10,.v (.int .i16 (IntKind.i16.wrap v))),(19,.v (.slice aD ((([]:Bs) ++ [by8 0,by8 0,by8 0,by8 0]).length) aE)),(20,.v (.int .i16 8))] aw fS fun oA fT=>?_
  refine qam (qal fT (f:=132) (vs:=[.slice aD ((([]:Bs) ++ [by8 0,by8 0,by8 0,by8 0]).length) aE,.int .i16 8]) (d:=21) kz Tryz.call132 (qcg aD aE (([]:Bs) ++ [by8 0,by8 0,by8 0,by8 0]) 8 _ (aw.own 1 _ rfl) (by first | omega | (simp only [List.length_append,List.length_cons,List.length_nil,be_length,qbU]; omega) | (simp; omega))) ?_)
  rintro e_ oB ⟨bw,bx,rfl,fU,cP,cQ⟩
  refine ⟨_,rfl,fun oC fV=>?_⟩
  have bQ:WOk _ _ _ _ (z19 au ab bw bx):=aw.grow (k:=1) rfl cP fU cQ
  have bR:Fr _ (z0 b1 has txt ac v aa af ae ab ag ah) (z31 au ab aD aE) _ (z0 b1 has txt ac v aa af ae ab ag ah) (z19 au ab bw bx):=Fr.grow _ (k:=1) (r':=(brow bw bx 5 (([]:Bs) ++ [by8 0,by8 0,by8 0,by8 0] ++ be 2 8))) rfl cP cQ
  refine qaj [3] [] [(0,.p 5 0),(1,.v (.slice bw ((([]:Bs) ++ [by8 0,by8 0,by8 0,by8 0] ++ be 2 8).length) bx)),(2,.v (.iface 46 (.pointer (some ⟨ac,0,none⟩)))),(3,.v (.int .i32 num)),(9,.v (.int .i16 8)),(10,.v (.int .i16 (IntKind.i16.wrap v)))] bQ fV fun oD fW=>?_
  refine qaf (qaa ?_)
  refine qae [0,1,2,3] kz ?_
  refine qaj [0,1] [2,3] [(0,.p 5 0),(2,.v (.iface 46 (.pointer (some ⟨ac,0,none⟩)))),(3,.v (.int .i32 num)),(9,.v (.int .i16 8)),(10,.v (.int .i16 (IntKind.i16.wrap v))),(22,.v (.slice bw ((([]:Bs) ++ [by8 0,by8 0,by8 0,by8 0] ++ be 2 8).length) bx)),(23,.v (.int .i16 (IntKind.i16.wrap v)))] bQ fW fun oE fX=>?_
  refine qam (qal fX (f:=132) (vs:=[.slice bw ((([]:Bs) ++ [by8 0,by8 0,by8 0,by8 0] ++ be 2 8).length) bx,.int .i16 (IntKind.i16.wrap v)]) (d:=24) kz Tryz.call132 (qcg bw bx (([]:Bs) ++ [by8 0,by8 0,by8 0,by8 0] ++ be 2 8) (IntKind.i16.wrap v) _ (bQ.own 1 _ rfl) (by first | omega | (simp only [List.length_append,List.length_cons,List.length_nil,be_length,qbU]; omega) | (simp; omega))) ?_)
  rintro e_ oF ⟨bz,bA,rfl,fY,cR,cS⟩
  refine ⟨_,rfl,fun oG fZ=>?_⟩
  have bS:WOk _ _ _ _ (z17 au ab bz bA v):=bQ.grow (k:=1) rfl cR fY cS
  have bT:Fr _ (z0 b1 has txt ac v aa af ae ab ag ah) (z19 au ab bw bx) _ (z0 b1 has txt ac v aa af ae ab ag ah) (z17 au ab bz bA v):=Fr.grow _ (k:=1) (r':=(brow bz bA 5 (([]:Bs) ++ [by8 0,by8 0,by8 0,by8 0] ++ be 2 8 ++ be 2 (IntKind.i16.wrap v)))) rfl cR cS
  refine qaj [3] [] [(0,.p 5 0),(1,.v (.slice bz ((([]:Bs) ++ [by8 0,by8 0,by8 0,by8 0] ++ be 2 8 ++ be 2 (IntKind.i16.wrap v)).length) bA)),(2,.v (.iface 46 (.pointer (some ⟨ac,0,none⟩)))),(3,.v (.int .i32 num)),(9,.v (.int .i16 8)),(10,.v (.int .i16 (IntKind.i16.wrap v)))] bS fZ fun oH f5=>?_
  refine qaf (qaa ?_)
  refine qae [0,1,2,3] kz ?_
  refine qaj [0,1] [2,3] [(0,.p 5 0),(2,.v (.iface 46 (.pointer (some ⟨ac,0,none⟩)))),(9,.v (.int .i16 8)),(10,.v (.int .i16 (IntKind.i16.wrap v))),(25,.v (.slice bz ((([]:Bs) ++ [by8 0,by8 0,by8 0,by8 0] ++ be 2 8 ++ be 2 (IntKind.i16.wrap v)).length) bA)),(26,.v (.int .i32 num))] bS f5 fun oI f7=>?_
  refine qam (qal f7 (f:=133) (vs:=[.slice bz ((([]:Bs) ++ [by8 0,by8 0,by8 0,by8 0] ++ be 2 8 ++ be 2 (IntKind.i16.wrap v)).length) bA,.int .i32 num]) (d:=27) kz Tryz.call133 (qcx bz bA (([]:Bs) ++ [by8 0,by8 0,by8 0,by8 0] ++ be 2 8 ++ be 2 (IntKind.i16.wrap v)) num _ (bS.own 1 _ rfl) (by first | omega | (simp only [List.length_append,List.length_cons,List.length_nil,be_length,qbU]; omega) | (simp; omega))) ?_)
  rintro e_ oJ ⟨aK,aL,rfl,f8,cT,cU⟩
  refine ⟨_,rfl,fun oK f9=>?_⟩
  have aM:WOk _ _ _ _ (z16 au ab aK aL v num):=bS.grow (k:=1) rfl cT f8 cU
  have bU:Fr _ (z0 b1 has txt ac v aa af ae ab ag ah) (z17 au ab bz bA v) _ (z0 b1 has txt ac v aa af ae ab ag ah) (z16 au ab aK aL v num):=Fr.grow _ (k:=1) (r':=(brow aK aL 5 (([]:Bs) ++ [by8 0,by8 0,by8 0,by8 0] ++ be 2 8 ++ be 2 (IntKind.i16.wrap v) ++ be 4 num))) rfl cT cU
  refine qaj [3] [] [(0,.p 5 0),(1,.v (.slice aK ((([]:Bs) ++ [by8 0,by8 0,by8 0,by8 0] ++ be 2 8 ++ be 2 (IntKind.i16.wrap v) ++ be 4 num).length) aL)),(2,.v (.iface 46 (.pointer (some ⟨ac,0,none⟩)))),(9,.v (.int .i16 8)),(10,.v (.int .i16 (IntKind.i16.wrap v)))] aM f9 fun oL ga=>?_
  refine qaf (qaa ?_)
  refine wp_seq (qas [(0,.p 5 0),(1,.v (.slice aK ((([]:Bs) ++ [by8 0,by8 0,by8 0,by8 0] ++ be 2 8 ++ be 2 (IntKind.i16.wrap v) ++ be 4 num).length) aL)),(2,.v (.iface 46 (.pointer (some ⟨ac,0,none⟩)))),(33,.v (.bool false))] aM ga fun oM cV=>?_)
  refine qau cV (b:=false) kz rfl ?_
  refine wp_skip (qaa (qae [0,1,2,3,4,5,6] kz ?_))
  refine qaj [0,1,2,3,4] [5,6] [(2,.v (.iface 46 (.pointer (some ⟨ac,0,none⟩)))),(35,.v (.slice aK ((([]:Bs) ++ [by8 0,by8 0,by8 0,by8 0] ++ be 2 8 ++ be 2 (IntKind.i16.wrap v) ++ be 4 num).length) aL)),(39,.v (.pointer (some ⟨ab,0,none⟩)))] aM cV fun oN gb=>?_
  refine qam (qa5 gb (f:=134) (vs:=[.slice aK ((([]:Bs) ++ [by8 0,by8 0,by8 0,by8 0] ++ be 2 8 ++ be 2 (IntKind.i16.wrap v) ++ be 4 num).length) aL,.pointer (some ⟨ab,0,none⟩)]) (d:=40) (n':=14) kz Tryz.call134 Tryz.func134 rfl Tryz.ntmps134 kz fun oO gc=>?_)
  refine qas [(0,.v (.slice aK ((([]:Bs) ++ [by8 0,by8 0,by8 0,by8 0] ++ be 2 8 ++ be 2 (IntKind.i16.wrap v) ++ be 4 num).length) aL)),(1,.v (.pointer (some ⟨ab,0,none⟩)))] aM gc fun oP gd=>?_
  refine wp_seq (qas [(0,.v (.slice aK ((([]:Bs) ++ [by8 0,by8 0,by8 0,by8 0] ++ be 2 8 ++ be 2 (IntKind.i16.wrap v) ++ be 4 num).length) aL)),(1,.v (.pointer (some ⟨ab,0,none⟩))),(6,.v (.bool false))] aM gd fun oQ cW=>?_)
  refine qau cW (b:=false) kz rfl ?_
  refine wp_skip (qaa (qae [0,1,2,3,4,5] kz ?_))
  refine qaj [0,1,2] [3,4,5] [(9,.v (.slice aK ((([]:Bs) ++ [by8 0,by8 0,by8 0,by8 0] ++ be 2 8 ++ be 2 (IntKind.i16.wrap v) ++ be 4 num).length) aL)),(11,.v (.pointer (some ⟨ab,0,none⟩)))] aM cW fun oR ge=>?_
  have dU:=(Str.of aM 4 rfl).atF.at_
  refine qam (qaH ge (t:=9) (b:=ab) (o:=0) (d:=12) kz (cs:=[.string txt]) (v:=.string txt) kz dU fun oS gg=>?_)
  refine qam (qal gg (f:=156) (vs:=[.slice aK ((([]:Bs) ++ [by8 0,by8 0,by8 0,by8 0] ++ be 2 8 ++ be 2 (IntKind.i16.wrap v) ++ be 4 num).length) aL,.string txt]) (d:=13) kz Tryz.call156 (qcz txt aK aL (([]:Bs) ++ [by8 0,by8 0,by8 0,by8 0] ++ be 2 8 ++ be 2 (IntKind.i16.wrap v) ++ be 4 num) _ (aM.own 1 _ rfl) (by first | omega | (simp only [List.length_append,List.length_cons,List.length_nil,be_length,qbU]; omega) | (simp; omega))) ?_)
  rintro e_ oT ⟨aF,aG,rfl,gh,cX,cY⟩
  refine ⟨_,rfl,fun oU gi=>?_⟩
  have ax:WOk _ _ _ _ (z25 au ab aF aG v num txt.size txt):=aM.grow (k:=1) rfl cX gh cY
  have bV:=Fr.grow (z0 b1 has txt ac v aa af ae ab ag ah) (k:=1) (rs:=(z16 au ab aK aL v num)) (r':=(brow aF aG 5 ((([]:Bs) ++ [by8 0,by8 0,by8 0,by8 0] ++ be 2 8 ++ be 2 (IntKind.i16.wrap v) ++ be 4 num) ++ (be 2 txt.size ++ sb txt)))) rfl cX cY
  refine qaj [5] [] [(4,.v (.slice aF (((([]:Bs) ++ [by8 0,by8 0,by8 0,by8 0] ++ be 2 8 ++ be 2 (IntKind.i16.wrap v) ++ be 4 num) ++ (be 2 txt.size ++ sb txt)).length) aG))] ax gi fun oV gj=>?_
  refine qaf (qaa ?_)
  refine wp_ret (qaD gj ax.cells (v:=.slice aF (((([]:Bs) ++ [by8 0,by8 0,by8 0,by8 0] ++ be 2 8 ++ be 2 (IntKind.i16.wrap v) ++ be 4 num) ++ (be 2 txt.size ++ sb txt)).length) aG) kz ?_)
  refine ⟨_,rfl,fun oW gk=>?_⟩
  have gl:=(EnvOk.places (tb':=[⟨b1,0,[.bool has,.string txt],true⟩,⟨ac,0,[.int .i16 (IntKind.i16.wrap v),.string ((aa.f 0).s),.int .i32 ((aa.f 1).n),.string ((aa.f 2).s),.pointer ((aa.f 3).A),.int .i64 ((aa.f 4).n),.slice ((aa.f 5).A) ((aa.f 5).l) ((aa.f 5).c),.map aa.m],true⟩,⟨af,0,[.bool has,.string txt],true⟩,⟨ae,0,[.pointer none],true⟩,⟨ab,0,[.string txt],true⟩,⟨ag,0,[.pointer (some ⟨ab,0,none⟩)],true⟩,⟨ah,0,[.func (.func 131) #[] #[.pointer (some ⟨ab,0,none⟩)]],true⟩]) gk (show Pl [⟨b1,0,[.bool has,.string txt],true⟩,⟨ac,0,[.int .i16 (IntKind.i16.wrap v),.string ((aa.f 0).s),.int .i32 ((aa.f 1).n),.string ((aa.f 2).s),.pointer ((aa.f 3).A),.int .i64 ((aa.f 4).n),.slice ((aa.f 5).A) ((aa.f 5).l) ((aa.f 5).c),.map aa.m],true⟩,⟨af,0,[.bool has,.string txt],true⟩,⟨ae,0,[.pointer none],true⟩,⟨ab,0,[.string txt],true⟩,⟨ag,0,[.pointer (some ⟨ab,0,none⟩)],true⟩,⟨ah,0,[.func (.func 131) #[] #[.pointer (some ⟨ab,0,none⟩)]],true⟩] [⟨b1,0,[.bool has,.string txt],true⟩,⟨ac,0,[.int .i16 (IntKind.i16.wrap v),.string ((aa.f 0).s),.int .i32 ((aa.f 1).n),.string ((aa.f 2).s),.pointer ((aa.f 3).A),.int .i64 ((aa.f 4).n),.slice ((aa.f 5).A) ((aa.f 5).l) ((aa.f 5).c),.map aa.m],true⟩,⟨af,0,[.bool has,.string txt],true⟩,⟨ae,0,[.pointer none],true⟩,⟨ab,0,[.string txt],true⟩,⟨ag,0,[.pointer (some ⟨ab,0,none⟩)],true⟩,⟨ah,0,[.func (.func 131) #[] #[.pointer (some ⟨ab,0,none⟩)]],true⟩] from ⟨rfl,rfl,⟨rfl,rfl,⟨rfl,rfl,⟨rfl,rfl,⟨rfl,rfl,⟨rfl,rfl,⟨rfl,rfl,trivial⟩⟩⟩⟩⟩⟩⟩)).pk (env':=[(40,.v (.slice aF (((([]:Bs) ++ [by8 0,by8 0,by8 0,by8 0] ++ be 2 8 ++ be 2 (IntKind.i16.wrap v) ++ be 4 num) ++ (be 2 txt.size ++ sb txt)).length) aG)),(2,.v (.iface 46 (.pointer (some ⟨ac,0,none⟩)))),(35,.v (.slice aK ((([]:Bs) ++ [by8 0,by8 0,by8 0,by8 0] ++ be 2 8 ++ be 2 (IntKind.i16.wrap v) ++ be 4 num).length) aL)),(39,.v (.pointer (some ⟨ab,0,none⟩)))])
  refine qaj [6] [] [(1,.v (.slice aF (((([]:Bs) ++ [by8 0,by8 0,by8 0,by8 0] ++ be 2 8 ++ be 2 (IntKind.i16.wrap v) ++ be 4 num) ++ (be 2 txt.size ++ sb txt)).length) aG)),(2,.v (.iface 46 (.pointer (some ⟨ac,0,none⟩))))] ax gl fun oX gm=>?_
  refine qaf (qaa ?_)
  refine wp_seq (qae [0,1] kz ?_)
  refine qaj [0] [1] [(1,.v (.slice aF (((([]:Bs) ++ [by8 0,by8 0,by8 0,by8 0] ++ be 2 8 ++ be 2 (IntKind.i16.wrap v) ++ be 4 num) ++ (be 2 txt.size ++ sb txt)).length) aG)),(2,.v (.iface 46 (.pointer (some ⟨ac,0,none⟩)))),(41,.v (.iface 46 (.pointer (some ⟨ac,0,none⟩))))] ax gm fun oY gn=>?_
  refine qam (qcj gn (t := 46) (v := (.pointer (some ⟨ac, 0, none⟩))) (v' := (.pointer (some ⟨ac, 0, none⟩))) (name := "IsFlexible") (f := 178) (vs := []) (d := 42) (n' := 8) kz (fun _ => by kernel_rfl) Tryz.call178 Tryz.func178 rfl Tryz.ntmps178 kz fun oZ gp => ?_)
  have gq:=gp.recast 0 (.v (.pointer (some ⟨ac,0,none⟩))) (.p 1 0) rfl rfl (Nat.le_of_ble_eq_true (n:=2) rfl)
  refine qas [(0,.p 1 0)] ax gq fun o5 gt=>?_
  refine qas [(2,.v (.bool (decide ((IntKind.i16.wrap v) ≥ 8))))] ax gt fun o6 gv=>?_
  refine wp_ret (qaD gv ax.cells (v:=.bool (decide ((IntKind.i16.wrap v) ≥ 8))) kz ?_)
  refine ⟨_,rfl,fun o7 gw=>?_⟩
  have cG:=(EnvOk.places (tb':=[⟨b1,0,[.bool has,.string txt],true⟩,⟨ac,0,[.int .i16 (IntKind.i16.wrap v),.string ((aa.f 0).s),.int .i32 ((aa.f 1).n),.string ((aa.f 2).s),.pointer ((aa.f 3).A),.int .i64 ((aa.f 4).n),.slice ((aa.f 5).A) ((aa.f 5).l) ((aa.f 5).c),.map aa.m],true⟩,⟨af,0,[.bool has,.string txt],true⟩,⟨ae,0,[.pointer none],true⟩,⟨ab,0,[.string txt],true⟩,⟨ag,0,[.pointer (some ⟨ab,0,none⟩)],true⟩,⟨ah,0,[.func (.func 131) #[] #[.pointer (some ⟨ab,0,none⟩)]],true⟩]) gw (show Pl [⟨b1,0,[.bool has,.string txt],true⟩,⟨ac,0,[.int .i16 (IntKind.i16.wrap v),.string ((aa.f 0).s),.int .i32 ((aa.f 1).n),.string ((aa.f 2).s),.pointer ((aa.f 3).A),.int .i64 ((aa.f 4).n),.slice ((aa.f 5).A) ((aa.f 5).l) ((aa.f 5).c),.map aa.m],true⟩,⟨af,0,[.bool has,.string txt],true⟩,⟨ae,0,[.pointer none],true⟩,⟨ab,0,[.string txt],true⟩,⟨ag,0,[.pointer (some ⟨ab,0,none⟩)],true⟩,⟨ah,0,[.func (.func 131) #[] #[.pointer (some ⟨ab,0,none⟩)]],true⟩] [⟨b1,0,[.bool has,.string txt],true⟩,⟨ac,0,[.int .i16 (IntKind.i16.wrap v),.string ((aa.f 0).s),.int .i32 ((aa.f 1).n),.string ((aa.f 2).s),.pointer ((aa.f 3).A),.int .i64 ((aa.f 4).n),.slice ((aa.f 5).A) ((aa.f 5).l) ((aa.f 5).c),.map aa.m],true⟩,⟨af,0,[.bool has,.string txt],true⟩,⟨ae,0,[.pointer none],true⟩,⟨ab,0,[.string txt],true⟩,⟨ag,0,[.pointer (some ⟨ab,0,none⟩)],true⟩,⟨ah,0,[.func (.func 131) #[] #[.pointer (some ⟨ab,0,none⟩)]],true⟩] from ⟨rfl,rfl,⟨rfl,rfl,⟨rfl,rfl,⟨rfl,rfl,⟨rfl,rfl,⟨rfl,rfl,⟨rfl,rfl,trivial⟩⟩⟩⟩⟩⟩⟩)).pk (env':=[(42,.v (.bool (decide ((IntKind.i16.wrap v) ≥ 8)))),(1,.v (.slice aF (((([]:Bs) ++ [by8 0,by8 0,by8 0,by8 0] ++ be 2 8 ++ be 2 (IntKind.i16.wrap v) ++ be 4 num) ++ (be 2 txt.size ++ sb txt)).length) aG)),(2,.v (.iface 46 (.pointer (some ⟨ac,0,none⟩)))),(41,.v (.iface 46 (.pointer (some ⟨ac,0,none⟩))))])
  refine qaf (qaa ?_)
  refine qax cG (b:=decide ((IntKind.i16.wrap v) ≥ 8)) kz (fun bf=>?_) (fun bf=>?_)
  ·
   have mu:=of_decide_eq_true bf
   refine qas [(1,.v (.slice aF (((([]:Bs) ++ [by8 0,by8 0,by8 0,by8 0] ++ be 2 8 ++ be 2 (IntKind.i16.wrap v) ++ be 4 num) ++ (be 2 txt.size ++ sb txt)).length) aG)),(2,.v (.iface 46 (.pointer (some ⟨ac,0,none⟩)))),(11,.v (.int .u8 0))] ax cG fun o9 gx=>?_
   refine qae [0,1,2,3,4] kz ?_
   refine qaj [0,1] [2,3,4] [(2,.v (.iface 46 (.pointer (some ⟨ac,0,none⟩)))),(11,.v (.int .u8 0)),(43,.v (.slice aF (((([]:Bs) ++ [by8 0,by8 0,by8 0,by8 0] ++ be 2 8 ++ be 2 (IntKind.i16.wrap v) ++ be 4 num) ++ (be 2 txt.size ++ sb txt)).length) aG)),(44,.v (.int .u8 0))] ax gx fun pa gy=>?_
   refine qbu ax gy (k:=1) (e:=5) (size:=1) (len:=1) (cs:=[.int .u8 0]) (d1:=45) (d:=46) kz (t:=24) (bytes:=1) kz (fun _=>by kernel_rfl) rfl kz (by first | omega | (simp only [List.length_append,List.length_cons,List.length_nil,be_length,qbU]; omega) | (simp; omega)) fun bg bh pb pc cZ gz ⟨_,gA⟩=>?_
   have gB:(⟨bg,bh,5,1,((([]:Bs) ++ [by8 0,by8 0,by8 0,by8 0] ++ be 2 8 ++ be 2 (IntKind.i16.wrap v) ++ be 4 num) ++ (be 2 txt.size ++ sb txt)).length + 1,bc ((([]:Bs) ++ [by8 0,by8 0,by8 0,by8 0] ++ be 2 8 ++ be 2 (IntKind.i16.wrap v) ++ be 4 num) ++ (be 2 txt.size ++ sb txt)) ++ [.int .u8 0]⟩:Rw) = brow bg bh 5 ((([]:Bs) ++ [by8 0,by8 0,by8 0,by8 0] ++ be 2 8 ++ be 2 (IntKind.i16.wrap v) ++ be 4 num) ++ (be 2 txt.size ++ sb txt) ++ [by8 0]):=qa0 (by simp only [bc,List.map,qbC]; try rfl) rfl
   obtain ⟨bt,da⟩:=gz.rowEq 1 (z24 au ab bg bh v num txt.size txt) gB
   have gC:=EnvOk.pick gA (ks:=[2,11,43,44,46]) (env':=[(2,.v (.iface 46 (.pointer (some ⟨ac,0,none⟩)))),(11,.v (.int .u8 0)),(43,.v (.slice aF (((([]:Bs) ++ [by8 0,by8 0,by8 0,by8 0] ++ be 2 8 ++ be 2 (IntKind.i16.wrap v) ++ be 4 num) ++ (be 2 txt.size ++ sb txt)).length) aG)),(44,.v (.int .u8 0)),(46,.v (.slice bg (((([]:Bs) ++ [by8 0,by8 0,by8 0,by8 0] ++ be 2 8 ++ be 2 (IntKind.i16.wrap v) ++ be 4 num) ++ (be 2 txt.size ++ sb txt)).length + 1) bh))]) kz
   have gD:=gC.cast (env':=[(2,.v (.iface 46 (.pointer (some ⟨ac,0,none⟩)))),(11,.v (.int .u8 0)),(43,.v (.slice aF (((([]:Bs) ++ [by8 0,by8 0,by8 0,by8 0] ++ be 2 8 ++ be 2 (IntKind.i16.wrap v) ++ be 4 num) ++ (be 2 txt.size ++ sb txt)).length) aG)),(44,.v (.int .u8 0)),(46,.v (.slice bg (((([]:Bs) ++ [by8 0,by8 0,by8 0,by8 0] ++ be 2 8 ++ be 2 (IntKind.i16.wrap v) ++ be 4 num) ++ (be 2 txt.size ++ sb txt) ++ [by8 0]).length) bh))]) (by simp only [List.length_append,List.length_cons,List.length_nil,Nat.zero_add])
   refine qaj [4] [] [(1,.v (.slice bg (((([]:Bs) ++ [by8 0,by8 0,by8 0,by8 0] ++ be 2 8 ++ be 2 (IntKind.i16.wrap v) ++ be 4 num) ++ (be 2 txt.size ++ sb txt) ++ [by8 0]).length) bh)),(2,.v (.iface 46 (.pointer (some ⟨ac,0,none⟩)))),(11,.v (.int .u8 0))] bt gD fun pd gE=>?_
   refine qaf (qaa ?_)
   refine qas [(1,.v (.slice bg (((([]:Bs) ++ [by8 0,by8 0,by8 0,by8 0] ++ be 2 8 ++ be 2 (IntKind.i16.wrap v) ++ be 4 num) ++ (be 2 txt.size ++ sb txt) ++ [by8 0]).length) bh)),(2,.v (.iface 46 (.pointer (some ⟨ac,0,none⟩)))),(48,.v (.bool false))] bt gE fun pe db=>?_
   refine qau db (b:=false) kz rfl ?_
   refine wp_skip (qaa (qae [0,1,2,3] kz ?_))
   refine qaj [0,1] [2,3] [(49,.v (.iface 46 (.pointer (some ⟨ac,0,none⟩)))),(50,.v (.slice bg (((([]:Bs) ++ [by8 0,by8 0,by8 0,by8 0] ++ be 2 8 ++ be 2 (IntKind.i16.wrap v) ++ be 4 num) ++ (be 2 txt.size ++ sb txt) ++ [by8 0]).length) bh))] bt db fun pf gF=>?_
   have gG:=(qa2 _ (((((((((((((((aP.trans aQ).trans bH).trans bJ).trans bK).trans bL).trans bM).trans bN).trans bO).trans bP).trans bR).trans bT).trans bU).trans bV).trans cZ).trans da).step immM (((((((((((((((aP.trans aQ).trans bH).trans bJ).trans bK).trans bL).trans bM).trans bN).trans bO).trans bP).trans bR).trans bT).trans bU).trans bV).trans cZ).trans da).to' bG)
   have dV:=bt.strImm (G:=F) 1 rfl
   have hk_:=qa2 _ (Step.refl _ Nil) nilM (fun b o h_ _=>qgD h_) gG
   refine qam (qc6 gF (t := 46) (v := (.pointer (some ⟨ac, 0, none⟩))) (v' := (.pointer (some ⟨ac, 0, none⟩))) (name := "AppendTo") (f := 176) (vs := [.slice bg (((([] : Bs) ++ [by8 0, by8 0, by8 0, by8 0] ++ be 2 8 ++ be 2 (IntKind.i16.wrap v) ++ be 4 num) ++ (be 2 txt.size ++ sb txt) ++ [by8 0]).length) bh]) (d := 51) kz (fun _ => by kernel_rfl) Tryz.call176 (qbX (IntKind.i16.wrap v) aa ac 0 bg bh ((([] : Bs) ++ [by8 0, by8 0, by8 0, by8 0] ++ be 2 8 ++ be 2 (IntKind.i16.wrap v) ++ be 4 num) ++ (be 2 txt.size ++ sb txt) ++ [by8 0]) _ _ dV hk_ (qgB 1 rfl) (bt.own 1 _ rfl) (by first | omega | (simp only [List.length_append, List.length_cons, List.length_nil, be_length, qbU]; omega) | (simp; omega))) ?_)
   rintro e_ pg ⟨ai,aj,rfl,gH,dc,de⟩
   refine ⟨_,rfl,fun ph gI=>?_⟩
   have df:WOk _ _ _ _ (z13 au ab ai aj v num txt.size txt aa):=bt.grow (k:=1) rfl dc gH de
   have mw:=Fr.grow (z0 b1 has txt ac v aa af ae ab ag ah) (k:=1) (rs:=(z24 au ab bg bh v num txt.size txt)) (r':=(brow ai aj 5 (((([]:Bs) ++ [by8 0,by8 0,by8 0,by8 0] ++ be 2 8 ++ be 2 (IntKind.i16.wrap v) ++ be 4 num) ++ (be 2 txt.size ++ sb txt) ++ [by8 0]) ++ qab (IntKind.i16.wrap v) aa))) rfl dc de
   refine qaj [3] [] [(1,.v (.slice ai ((((([]:Bs) ++ [by8 0,by8 0,by8 0,by8 0] ++ be 2 8 ++ be 2 (IntKind.i16.wrap v) ++ be 4 num) ++ (be 2 txt.size ++ sb txt) ++ [by8 0]) ++ qab (IntKind.i16.wrap v) aa).length) aj))] df gI fun pi gJ=>?_
   refine qaf (qaa ?_)
   refine qbm 7 kz df fun pj mx bW bi=>?_
   refine qaY [0,2] [(1,.v (.slice ai ((((([]:Bs) ++ [by8 0,by8 0,by8 0,by8 0] ++ be 2 8 ++ be 2 (IntKind.i16.wrap v) ++ be 4 num) ++ (be 2 txt.size ++ sb txt) ++ [by8 0]) ++ qab (IntKind.i16.wrap v) aa).length) aj)),(52,.v (.slice ai ((((([]:Bs) ++ [by8 0,by8 0,by8 0,by8 0] ++ be 2 8 ++ be 2 (IntKind.i16.wrap v) ++ be 4 num) ++ (be 2 txt.size ++ sb txt) ++ [by8 0]) ++ qab (IntKind.i16.wrap v) aa).length) aj)),(54,.v (.slice ai ((((([]:Bs) ++ [by8 0,by8 0,by8 0,by8 0] ++ be 2 8 ++ be 2 (IntKind.i16.wrap v) ++ be 4 num) ++ (be 2 txt.size ++ sb txt) ++ [by8 0]) ++ qab (IntKind.i16.wrap v) aa).length) aj))] 5 (qad qah) (fun _ h=>h.cells) bi gJ fun pl dg=>?_
   refine qe4 (i:=1) (j:=3) kz ?_ ?_
   ·
    refine (qbD dg (t:=24) (A:=ai) (m:=(((([]:Bs) ++ [by8 0,by8 0,by8 0,by8 0] ++ be 2 8 ++ be 2 (IntKind.i16.wrap v) ++ be 4 num) ++ (be 2 txt.size ++ sb txt) ++ [by8 0]) ++ qab (IntKind.i16.wrap v) aa).length) (cp:=aj) (q:=0) (d:=53) (j:=0) kz (e:=5) (size:=1) (bytes:=1) kz (rfl) (by omega) fun pm gK=>?_)
    refine ⟨fun _=>bi,?_⟩
    refine qaN (i:=3) kz (qby gK (t:=24) (A:=ai) (m:=((((([]:Bs) ++ [by8 0,by8 0,by8 0,by8 0] ++ be 2 8 ++ be 2 (IntKind.i16.wrap v) ++ be 4 num) ++ (be 2 txt.size ++ sb txt) ++ [by8 0]) ++ qab (IntKind.i16.wrap v) aa).length)) (cp:=aj) (q:=4) (d:=55) (j:=4) kz (e:=5) (bytes:=1) kz (rfl) (by first | omega | (simp only [List.length_append,List.length_cons,List.length_nil]; omega)) fun pn gL=>?_)
    refine ⟨fun _=>bi,?_⟩
    refine qaY [4,5] [(1,.v (.slice ai ((((([]:Bs) ++ [by8 0,by8 0,by8 0,by8 0] ++ be 2 8 ++ be 2 (IntKind.i16.wrap v) ++ be 4 num) ++ (be 2 txt.size ++ sb txt) ++ [by8 0]) ++ qab (IntKind.i16.wrap v) aa).length) aj)),(53,.v (.slice ai 0 aj)),(57,.v (.int .i32 (IntKind.i32.wrap ((((((([]:Bs) ++ [by8 0,by8 0,by8 0,by8 0] ++ be 2 8 ++ be 2 (IntKind.i16.wrap v) ++ be 4 num) ++ (be 2 txt.size ++ sb txt) ++ [by8 0]) ++ qab (IntKind.i16.wrap v) aa).length) - 4:Nat):Int))))] 1 (qad qah) (fun _ h=>h.cells) bi gL fun po gM=>?_
    refine qaN (i:=6) kz (qal gM (f:=133) (vs:=[.slice ai 0 aj,.int .i32 (IntKind.i32.wrap ((((((([]:Bs) ++ [by8 0,by8 0,by8 0,by8 0] ++ be 2 8 ++ be 2 (IntKind.i16.wrap v) ++ be 4 num) ++ (be 2 txt.size ++ sb txt) ++ [by8 0]) ++ qab (IntKind.i16.wrap v) aa).length) - 4:Nat):Int))]) (d:=58) kz Tryz.call133 (qbJ (IntKind.i32.wrap ((((((([]:Bs) ++ [by8 0,by8 0,by8 0,by8 0] ++ be 2 8 ++ be 2 (IntKind.i16.wrap v) ++ be 4 num) ++ (be 2 txt.size ++ sb txt) ++ [by8 0]) ++ qab (IntKind.i16.wrap v) aa).length) - 4:Nat):Int)) ai aj (((([]:Bs) ++ [by8 0,by8 0,by8 0,by8 0] ++ be 2 8 ++ be 2 (IntKind.i16.wrap v) ++ be 4 num) ++ (be 2 txt.size ++ sb txt) ++ [by8 0]) ++ qab (IntKind.i16.wrap v) aa) _ (bW.own 1 _ rfl) (by simp only [List.length_append,List.length_cons,List.length_nil]; omega)) ?_)
    rintro e_ pp ⟨rfl,gN,dh⟩
    refine ⟨_,rfl,fun pq gO=>?_⟩
    have aR:WOk _ _ _ _ (z8 au ab ai aj v num txt.size txt aa):=bW.grow (k:=1) (r':=⟨ai,aj,5,1,(((([]:Bs) ++ [by8 0,by8 0,by8 0,by8 0] ++ be 2 8 ++ be 2 (IntKind.i16.wrap v) ++ be 4 num) ++ (be 2 txt.size ++ sb txt) ++ [by8 0]) ++ qab (IntKind.i16.wrap v) aa).length,bc (be 4 (IntKind.i32.wrap ((((((([]:Bs) ++ [by8 0,by8 0,by8 0,by8 0] ++ be 2 8 ++ be 2 (IntKind.i16.wrap v) ++ be 4 num) ++ (be 2 txt.size ++ sb txt) ++ [by8 0]) ++ qab (IntKind.i16.wrap v) aa).length) - 4:Nat):Int)) ++ (((([]:Bs) ++ [by8 0,by8 0,by8 0,by8 0] ++ be 2 8 ++ be 2 (IntKind.i16.wrap v) ++ be 4 num) ++ (be 2 txt.size ++ sb txt) ++ [by8 0]) ++ qab (IntKind.i16.wrap v) aa).drop 4)⟩) rfl dh gN (fun g' hg'=>.inl hg')
    have gP:=Fr.grow (z0 b1 has txt ac v aa af ae ab ag ah) (k:=1) (rs:=(z13 au ab ai aj v num txt.size txt aa)) (r':=⟨ai,aj,5,1,(((([]:Bs) ++ [by8 0,by8 0,by8 0,by8 0] ++ be 2 8 ++ be 2 (IntKind.i16.wrap v) ++ be 4 num) ++ (be 2 txt.size ++ sb txt) ++ [by8 0]) ++ qab (IntKind.i16.wrap v) aa).length,bc (be 4 (IntKind.i32.wrap ((((((([]:Bs) ++ [by8 0,by8 0,by8 0,by8 0] ++ be 2 8 ++ be 2 (IntKind.i16.wrap v) ++ be 4 num) ++ (be 2 txt.size ++ sb txt) ++ [by8 0]) ++ qab (IntKind.i16.wrap v) aa).length) - 4:Nat):Int)) ++ (((([]:Bs) ++ [by8 0,by8 0,by8 0,by8 0] ++ be 2 8 ++ be 2 (IntKind.i16.wrap v) ++ be 4 num) ++ (be 2 txt.size ++ sb txt) ++ [by8 0]) ++ qab (IntKind.i16.wrap v) aa).drop 4)⟩) rfl dh (fun g' hg'=>.inl hg')
    have gQ:=TT.ofW gP aR
    refine ⟨fun _=>gQ,?_⟩
    refine qaX kz ?_ _
    refine qaa (qas [(8,.v (.slice ai ((((([]:Bs) ++ [by8 0,by8 0,by8 0,by8 0] ++ be 2 8 ++ be 2 (IntKind.i16.wrap v) ++ be 4 num) ++ (be 2 txt.size ++ sb txt) ++ [by8 0]) ++ qab (IntKind.i16.wrap v) aa).length) aj))] aR gO fun pr gR=>?_)
    refine wp_ret (qaD gR aR.cells (v:=.slice ai ((((([]:Bs) ++ [by8 0,by8 0,by8 0,by8 0] ++ be 2 8 ++ be 2 (IntKind.i16.wrap v) ++ be 4 num) ++ (be 2 txt.size ++ sb txt) ++ [by8 0]) ++ qab (IntKind.i16.wrap v) aa).length) aj) kz ?_)
    refine ⟨_,rfl,fun pt gS=>?_⟩
    have gT:=(EnvOk.places (tb':=[⟨b1,0,[.bool has,.string txt],true⟩,⟨ac,0,[.int .i16 (IntKind.i16.wrap v),.string ((aa.f 0).s),.int .i32 ((aa.f 1).n),.string ((aa.f 2).s),.pointer ((aa.f 3).A),.int .i64 ((aa.f 4).n),.slice ((aa.f 5).A) ((aa.f 5).l) ((aa.f 5).c),.map aa.m],true⟩,⟨af,0,[.bool has,.string txt],true⟩,⟨ae,0,[.pointer none],true⟩,⟨ab,0,[.string txt],true⟩,⟨ag,0,[.pointer (some ⟨ab,0,none⟩)],true⟩,⟨ah,0,[.func (.func 131) #[] #[.pointer (some ⟨ab,0,none⟩)]],true⟩]) gS (show Pl [⟨b1,0,[.bool has,.string txt],true⟩,⟨ac,0,[.int .i16 (IntKind.i16.wrap v),.string ((aa.f 0).s),.int .i32 ((aa.f 1).n),.string ((aa.f 2).s),.pointer ((aa.f 3).A),.int .i64 ((aa.f 4).n),.slice ((aa.f 5).A) ((aa.f 5).l) ((aa.f 5).c),.map aa.m],true⟩,⟨af,0,[.bool has,.string txt],true⟩,⟨ae,0,[.pointer none],true⟩,⟨ab,0,[.string txt],true⟩,⟨ag,0,[.pointer (some ⟨ab,0,none⟩)],true⟩,⟨ah,0,[.func (.func 131) #[] #[.pointer (some ⟨ab,0,none⟩)]],true⟩] [⟨b1,0,[.bool has,.string txt],true⟩,⟨ac,0,[.int .i16 (IntKind.i16.wrap v),.string ((aa.f 0).s),.int .i32 ((aa.f 1).n),.string ((aa.f 2).s),.pointer ((aa.f 3).A),.int .i64 ((aa.f 4).n),.slice ((aa.f 5).A) ((aa.f 5).l) ((aa.f 5).c),.map aa.m],true⟩,⟨af,0,[.bool has,.string txt],true⟩,⟨ae,0,[.pointer none],true⟩,⟨ab,0,[.string txt],true⟩,⟨ag,0,[.pointer (some ⟨ab,0,none⟩)],true⟩,⟨ah,0,[.func (.func 131) #[] #[.pointer (some ⟨ab,0,none⟩)]],true⟩] from ⟨rfl,rfl,⟨rfl,rfl,⟨rfl,rfl,⟨rfl,rfl,⟨rfl,rfl,⟨rfl,rfl,⟨rfl,rfl,trivial⟩⟩⟩⟩⟩⟩⟩)).pk (env':=[(19,.v (.slice ai ((((([]:Bs) ++ [by8 0,by8 0,by8 0,by8 0] ++ be 2 8 ++ be 2 (IntKind.i16.wrap v) ++ be 4 num) ++ (be 2 txt.size ++ sb txt) ++ [by8 0]) ++ qab (IntKind.i16.wrap v) aa).length) aj)),(16,.p 5 0),(17,.v (.iface 46 (.pointer (some ⟨ac,0,none⟩)))),(18,.v (.int .i32 num))])
    refine qaj [4] [] [(6,.v (.slice ai ((((([]:Bs) ++ [by8 0,by8 0,by8 0,by8 0] ++ be 2 8 ++ be 2 (IntKind.i16.wrap v) ++ be 4 num) ++ (be 2 txt.size ++ sb txt) ++ [by8 0]) ++ qab (IntKind.i16.wrap v) aa).length) aj))] aR gT fun pu gU=>?_
    refine qaf (qaa ?_)
    refine wp_ret (qaD gU aR.cells (v:=.slice ai ((((([]:Bs) ++ [by8 0,by8 0,by8 0,by8 0] ++ be 2 8 ++ be 2 (IntKind.i16.wrap v) ++ be 4 num) ++ (be 2 txt.size ++ sb txt) ++ [by8 0]) ++ qab (IntKind.i16.wrap v) aa).length) aj) kz ?_)
    refine ⟨_,rfl,fun pv gV=>?_⟩
    have gW:=(EnvOk.places (tb':=[⟨b1,0,[.bool has,.string txt],true⟩,⟨ac,0,[.int .i16 (IntKind.i16.wrap v),.string ((aa.f 0).s),.int .i32 ((aa.f 1).n),.string ((aa.f 2).s),.pointer ((aa.f 3).A),.int .i64 ((aa.f 4).n),.slice ((aa.f 5).A) ((aa.f 5).l) ((aa.f 5).c),.map aa.m],true⟩,⟨af,0,[.bool has,.string txt],true⟩,⟨ae,0,[.pointer none],true⟩,⟨ab,0,[.string txt],true⟩,⟨ag,0,[.pointer (some ⟨ab,0,none⟩)],true⟩,⟨ah,0,[.func (.func 131) #[] #[.pointer (some ⟨ab,0,none⟩)]],true⟩]) gV (show Pl [⟨b1,0,[.bool has,.string txt],true⟩,⟨ac,0,[.int .i16 (IntKind.i16.wrap v),.string ((aa.f 0).s),.int .i32 ((aa.f 1).n),.string ((aa.f 2).s),.pointer ((aa.f 3).A),.int .i64 ((aa.f 4).n),.slice ((aa.f 5).A) ((aa.f 5).l) ((aa.f 5).c),.map aa.m],true⟩] [⟨b1,0,[.bool has,.string txt],true⟩,⟨ac,0,[.int .i16 (IntKind.i16.wrap v),.string ((aa.f 0).s),.int .i32 ((aa.f 1).n),.string ((aa.f 2).s),.pointer ((aa.f 3).A),.int .i64 ((aa.f 4).n),.slice ((aa.f 5).A) ((aa.f 5).l) ((aa.f 5).c),.map aa.m],true⟩,⟨af,0,[.bool has,.string txt],true⟩,⟨ae,0,[.pointer none],true⟩,⟨ab,0,[.string txt],true⟩,⟨ag,0,[.pointer (some ⟨ab,0,none⟩)],true⟩,⟨ah,0,[.func (.func 131) #[] #[.pointer (some ⟨ab,0,none⟩)]],true⟩] from ⟨rfl,rfl,⟨rfl,rfl,trivial⟩⟩)).pk (env':=[(25,.v (.slice ai ((((([]:Bs) ++ [by8 0,by8 0,by8 0,by8 0] ++ be 2 8 ++ be 2 (IntKind.i16.wrap v) ++ be 4 num) ++ (be 2 txt.size ++ sb txt) ++ [by8 0]) ++ qab (IntKind.i16.wrap v) aa).length) aj)),(21,.v (.agg #[.bool has,.string txt])),(23,.v (.iface 46 (.pointer (some ⟨ac,0,none⟩)))),(24,.v (.int .i32 num))])
    refine qaj [5,6] [] [(8,.v (.slice ai ((((([]:Bs) ++ [by8 0,by8 0,by8 0,by8 0] ++ be 2 8 ++ be 2 (IntKind.i16.wrap v) ++ be 4 num) ++ (be 2 txt.size ++ sb txt) ++ [by8 0]) ++ qab (IntKind.i16.wrap v) aa).length) aj)),(9,.v (.bool true))] aR gW fun pw gX=>?_
    refine qaf (qaa ?_)
    refine wp_ret (qaD gX aR.cells (v:=.tuple #[.slice ai ((((([]:Bs) ++ [by8 0,by8 0,by8 0,by8 0] ++ be 2 8 ++ be 2 (IntKind.i16.wrap v) ++ be 4 num) ++ (be 2 txt.size ++ sb txt) ++ [by8 0]) ++ qab (IntKind.i16.wrap v) aa).length) aj,.bool true]) kz ?_)
    have gY:be 4 (IntKind.i32.wrap ((((((([]:Bs) ++ [by8 0,by8 0,by8 0,by8 0] ++ be 2 8 ++ be 2 (IntKind.i16.wrap v) ++ be 4 num) ++ (be 2 txt.size ++ sb txt) ++ [by8 0]) ++ qab (IntKind.i16.wrap v) aa).length) - 4:Nat):Int)) ++ (((([]:Bs) ++ [by8 0,by8 0,by8 0,by8 0] ++ be 2 8 ++ be 2 (IntKind.i16.wrap v) ++ be 4 num) ++ (be 2 txt.size ++ sb txt) ++ [by8 0]) ++ qab (IntKind.i16.wrap v) aa).drop 4 = (qa6 8 (IntKind.i16.wrap v) num has (sb txt) (decide ((IntKind.i16.wrap v) ≥ 8)) (qab (IntKind.i16.wrap v) aa)):=qcN (R:=outB 8 (IntKind.i16.wrap v) num has (sb txt) (decide ((IntKind.i16.wrap v) ≥ 8)) (qab (IntKind.i16.wrap v) aa)) (by simp [outB,qer,qbU,aJ,bf])
    exact qcO aR (k:=1) rfl (gY.trans (by rw [ba])) (by simp only [List.length_append,List.length_cons,List.length_nil]; omega)
   refine (qby dg (t:=24) (A:=ai) (m:=((((([]:Bs) ++ [by8 0,by8 0,by8 0,by8 0] ++ be 2 8 ++ be 2 (IntKind.i16.wrap v) ++ be 4 num) ++ (be 2 txt.size ++ sb txt) ++ [by8 0]) ++ qab (IntKind.i16.wrap v) aa).length)) (cp:=aj) (q:=4) (d:=55) (j:=4) kz (e:=5) (bytes:=1) kz (rfl) (by first | omega | (simp only [List.length_append,List.length_cons,List.length_nil]; omega)) fun px gZ=>?_)
   refine ⟨fun _=>bi,?_⟩
   refine qaY [4,5] [(1,.v (.slice ai ((((([]:Bs) ++ [by8 0,by8 0,by8 0,by8 0] ++ be 2 8 ++ be 2 (IntKind.i16.wrap v) ++ be 4 num) ++ (be 2 txt.size ++ sb txt) ++ [by8 0]) ++ qab (IntKind.i16.wrap v) aa).length) aj)),(52,.v (.slice ai ((((([]:Bs) ++ [by8 0,by8 0,by8 0,by8 0] ++ be 2 8 ++ be 2 (IntKind.i16.wrap v) ++ be 4 num) ++ (be 2 txt.size ++ sb txt) ++ [by8 0]) ++ qab (IntKind.i16.wrap v) aa).length) aj)),(57,.v (.int .i32 (IntKind.i32.wrap ((((((([]:Bs) ++ [by8 0,by8 0,by8 0,by8 0] ++ be 2 8 ++ be 2 (IntKind.i16.wrap v) ++ be 4 num) ++ (be 2 txt.size ++ sb txt) ++ [by8 0]) ++ qab (IntKind.i16.wrap v) aa).length) - 4:Nat):Int))))] 2 (qad qah) (fun _ h=>h.cells) bi gZ fun pz g6=>?_
   refine qaN (i:=1) kz (qbD g6 (t:=24) (A:=ai) (m:=(((([]:Bs) ++ [by8 0,by8 0,by8 0,by8 0] ++ be 2 8 ++ be 2 (IntKind.i16.wrap v) ++ be 4 num) ++ (be 2 txt.size ++ sb txt) ++ [by8 0]) ++ qab (IntKind.i16.wrap v) aa).length) (cp:=aj) (q:=0) (d:=53) (j:=0) kz (e:=5) (size:=1) (bytes:=1) kz (rfl) (by omega) fun pA g7=>?_)
   refine ⟨fun _=>bi,?_⟩
   refine qaN (i:=6) kz (qal g7 (f:=133) (vs:=[.slice ai 0 aj,.int .i32 (IntKind.i32.wrap ((((((([]:Bs) ++ [by8 0,by8 0,by8 0,by8 0] ++ be 2 8 ++ be 2 (IntKind.i16.wrap v) ++ be 4 num) ++ (be 2 txt.size ++ sb txt) ++ [by8 0]) ++ qab (IntKind.i16.wrap v) aa).length) - 4:Nat):Int))]) (d:=58) kz Tryz.call133 (qbJ (IntKind.i32.wrap ((((((([]:Bs) ++ [by8 0,by8 0,by8 0,by8 0] ++ be 2 8 ++ be 2 (IntKind.i16.wrap v) ++ be 4 num) ++ (be 2 txt.size ++ sb txt) ++ [by8 0]) ++ qab (IntKind.i16.wrap v) aa).length) - 4:Nat):Int)) ai aj (((([]:Bs) ++ [by8 0,by8 0,by8 0,by8 0] ++ be 2 8 ++ be 2 (IntKind.i16.wrap v) ++ be 4 num) ++ (be 2 txt.size ++ sb txt) ++ [by8 0]) ++ qab (IntKind.i16.wrap v) aa) _ (bW.own 1 _ rfl) (by simp only [List.length_append,List.length_cons,List.length_nil]; omega)) ?_)
   rintro e_ pB ⟨rfl,g8,di⟩
   refine ⟨_,rfl,fun pC g9=>?_⟩
   have aS:WOk _ _ _ _ (z8 au ab ai aj v num txt.size txt aa):=bW.grow (k:=1) (r':=⟨ai,aj,5,1,(((([]:Bs) ++ [by8 0,by8 0,by8 0,by8 0] ++ be 2 8 ++ be 2 (IntKind.i16.wrap v) ++ be 4 num) ++ (be 2 txt.size ++ sb txt) ++ [by8 0]) ++ qab (IntKind.i16.wrap v) aa).length,bc (be 4 (IntKind.i32.wrap ((((((([]:Bs) ++ [by8 0,by8 0,by8 0,by8 0] ++ be 2 8 ++ be 2 (IntKind.i16.wrap v) ++ be 4 num) ++ (be 2 txt.size ++ sb txt) ++ [by8 0]) ++ qab (IntKind.i16.wrap v) aa).length) - 4:Nat):Int)) ++ (((([]:Bs) ++ [by8 0,by8 0,by8 0,by8 0] ++ be 2 8 ++ be 2 (IntKind.i16.wrap v) ++ be 4 num) ++ (be 2 txt.size ++ sb txt) ++ [by8 0]) ++ qab (IntKind.i16.wrap v) aa).drop 4)⟩) rfl di g8 (fun g' hg'=>.inl hg')
   have hC:=Fr.grow (z0 b1 has txt ac v aa af ae ab ag ah) (k:=1) (rs:=(z13 au ab ai aj v num txt.size txt aa)) (r':=⟨ai,aj,5,1,(((([]:Bs) ++ [by8 0,by8 0,by8 0,by8 0] ++ be 2 8 ++ be 2 (IntKind.i16.wrap v) ++ be 4 num) ++ (be 2 txt.size ++ sb txt) ++ [by8 0]) ++ qab (IntKind.i16.wrap v) aa).length,bc (be 4 (IntKind.i32.wrap ((((((([]:Bs) ++ [by8 0,by8 0,by8 0,by8 0] ++ be 2 8 ++ be 2 (IntKind.i16.wrap v) ++ be 4 num) ++ (be 2 txt.size ++ sb txt) ++ [by8 0]) ++ qab (IntKind.i16.wrap v) aa).length) - 4:Nat):Int)) ++ (((([]:Bs) ++ [by8 0,by8 0,by8 0,by8 0] ++ be 2 8 ++ be 2 (IntKind.i16.wrap v) ++ be 4 num) ++ (be 2 txt.size ++ sb txt) ++ [by8 0]) ++ qab (IntKind.i16.wrap v) aa).drop 4)⟩) rfl di (fun g' hg'=>.inl hg')
   have hJ:=TT.ofW hC aS
   refine ⟨fun _=>hJ,?_⟩
   refine qaX kz ?_ _
   refine qaa (qas [(8,.v (.slice ai ((((([]:Bs) ++ [by8 0,by8 0,by8 0,by8 0] ++ be 2 8 ++ be 2 (IntKind.i16.wrap v) ++ be 4 num) ++ (be 2 txt.size ++ sb txt) ++ [by8 0]) ++ qab (IntKind.i16.wrap v) aa).length) aj))] aS g9 fun pD hK=>?_)
   refine wp_ret (qaD hK aS.cells (v:=.slice ai ((((([]:Bs) ++ [by8 0,by8 0,by8 0,by8 0] ++ be 2 8 ++ be 2 (IntKind.i16.wrap v) ++ be 4 num) ++ (be 2 txt.size ++ sb txt) ++ [by8 0]) ++ qab (IntKind.i16.wrap v) aa).length) aj) kz ?_)
   refine ⟨_,rfl,fun pE hZ=>?_⟩
   have ia:=(EnvOk.places (tb':=[⟨b1,0,[.bool has,.string txt],true⟩,⟨ac,0,[.int .i16 (IntKind.i16.wrap v),.string ((aa.f 0).s),.int .i32 ((aa.f 1).n),.string ((aa.f 2).s),.pointer ((aa.f 3).A),.int .i64 ((aa.f 4).n),.slice ((aa.f 5).A) ((aa.f 5).l) ((aa.f 5).c),.map aa.m],true⟩,⟨af,0,[.bool has,.string txt],true⟩,⟨ae,0,[.pointer none],true⟩,⟨ab,0,[.string txt],true⟩,⟨ag,0,[.pointer (some ⟨ab,0,none⟩)],true⟩,⟨ah,0,[.func (.func 131) #[] #[.pointer (some ⟨ab,0,none⟩)]],true⟩]) hZ (show Pl [⟨b1,0,[.bool has,.string txt],true⟩,⟨ac,0,[.int .i16 (IntKind.i16.wrap v),.string ((aa.f 0).s),.int .i32 ((aa.f 1).n),.string ((aa.f 2).s),.pointer ((aa.f 3).A),.int .i64 ((aa.f 4).n),.slice ((aa.f 5).A) ((aa.f 5).l) ((aa.f 5).c),.map aa.m],true⟩,⟨af,0,[.bool has,.string txt],true⟩,⟨ae,0,[.pointer none],true⟩,⟨ab,0,[.string txt],true⟩,⟨ag,0,[.pointer (some ⟨ab,0,none⟩)],true⟩,⟨ah,0,[.func (.func 131) #[] #[.pointer (some ⟨ab,0,none⟩)]],true⟩] [⟨b1,0,[.bool has,.string txt],true⟩,⟨ac,0,[.int .i16 (IntKind.i16.wrap v),.string ((aa.f 0).s),.int .i32 ((aa.f 1).n),.string ((aa.f 2).s),.pointer ((aa.f 3).A),.int .i64 ((aa.f 4).n),.slice ((aa.f 5).A) ((aa.f 5).l) ((aa.f 5).c),.map aa.m],true⟩,⟨af,0,[.bool has,.string txt],true⟩,⟨ae,0,[.pointer none],true⟩,⟨ab,0,[.string txt],true⟩,⟨ag,0,[.pointer (some ⟨ab,0,none⟩)],true⟩,⟨ah,0,[.func (.func 131) #[] #[.pointer (some ⟨ab,0,none⟩)]],true⟩] from ⟨rfl,rfl,⟨rfl,rfl,⟨rfl,rfl,⟨rfl,rfl,⟨rfl,rfl,⟨rfl,rfl,⟨rfl,rfl,trivial⟩⟩⟩⟩⟩⟩⟩)).pk (env':=[(19,.v (.slice ai ((((([]:Bs) ++ [by8 0,by8 0,by8 0,by8 0] ++ be 2 8 ++ be 2 (IntKind.i16.wrap v) ++ be 4 num) ++ (be 2 txt.size ++ sb txt) ++ [by8 0]) ++ qab (IntKind.i16.wrap v) aa).length) aj)),(16,.p 5 0),(17,.v (.iface 46 (.pointer (some ⟨ac,0,none⟩)))),(18,.v (.int .i32 num))])
   refine qaj [4] [] [(6,.v (.slice ai ((((([]:Bs) ++ [by8 0,by8 0,by8 0,by8 0] ++ be 2 8 ++ be 2 (IntKind.i16.wrap v) ++ be 4 num) ++ (be 2 txt.size ++ sb txt) ++ [by8 0]) ++ qab (IntKind.i16.wrap v) aa).length) aj))] aS ia fun pF ib=>?_
   refine qaf (qaa ?_)
   refine wp_ret (qaD ib aS.cells (v:=.slice ai ((((([]:Bs) ++ [by8 0,by8 0,by8 0,by8 0] ++ be 2 8 ++ be 2 (IntKind.i16.wrap v) ++ be 4 num) ++ (be 2 txt.size ++ sb txt) ++ [by8 0]) ++ qab (IntKind.i16.wrap v) aa).length) aj) kz ?_)
   refine ⟨_,rfl,fun pG ic=>?_⟩
   have ig:=(EnvOk.places (tb':=[⟨b1,0,[.bool has,.string txt],true⟩,⟨ac,0,[.int .i16 (IntKind.i16.wrap v),.string ((aa.f 0).s),.int .i32 ((aa.f 1).n),.string ((aa.f 2).s),.pointer ((aa.f 3).A),.int .i64 ((aa.f 4).n),.slice ((aa.f 5).A) ((aa.f 5).l) ((aa.f 5).c),.map aa.m],true⟩,⟨af,0,[.bool has,.string txt],true⟩,⟨ae,0,[.pointer none],true⟩,⟨ab,0,[.string txt],true⟩,⟨ag,0,[.pointer (some ⟨ab,0,none⟩)],true⟩,⟨ah,0,[.func (.func 131) #[] #[.pointer (some ⟨ab,0,none⟩)]],true⟩]) ic (show Pl [⟨b1,0,[.bool has,.string txt],true⟩,⟨ac,0,[.int .i16 (IntKind.i16.wrap v),.string ((aa.f 0).s),.int .i32 ((aa.f 1).n),.string ((aa.f 2).s),.pointer ((aa.f 3).A),.int .i64 ((aa.f 4).n),.slice ((aa.f 5).A) ((aa.f 5).l) ((aa.f 5).c),.map aa.m],true⟩] [⟨b1,0,[.bool has,.string txt],true⟩,⟨ac,0,[.int .i16 (IntKind.i16.wrap v),.string ((aa.f 0).s),.int .i32 ((aa.f 1).n),.string ((aa.f 2).s),.pointer ((aa.f 3).A),.int .i64 ((aa.f 4).n),.slice ((aa.f 5).A) ((aa.f 5).l) ((aa.f 5).c),.map aa.m],true⟩,⟨af,0,[.bool has,.string txt],true⟩,⟨ae,0,[.pointer none],true⟩,⟨ab,0,[.string txt],true⟩,⟨ag,0,[.pointer (some ⟨ab,0,none⟩)],true⟩,⟨ah,0,[.func (.func 131) #[] #[.pointer (some ⟨ab,0,none⟩)]],true⟩] from ⟨rfl,rfl,⟨rfl,rfl,trivial⟩⟩)).pk (env':=[(25,.v (.slice ai ((((([]:Bs) ++ [by8 0,by8 0,by8 0,by8 0] ++ be 2 8 ++ be 2 (IntKind.i16.wrap v) ++ be 4 num) ++ (be 2 txt.size ++ sb txt) ++ [by8 0]) ++ qab (IntKind.i16.wrap v) aa).length) aj)),(21,.v (.agg #[.bool has,.string txt])),(23,.v (.iface 46 (.pointer (some ⟨ac,0,none⟩)))),(24,.v (.int .i32 num))])
   refine qaj [5,6] [] [(8,.v (.slice ai ((((([]:Bs) ++ [by8 0,by8 0,by8 0,by8 0] ++ be 2 8 ++ be 2 (IntKind.i16.wrap v) ++ be 4 num) ++ (be 2 txt.size ++ sb txt) ++ [by8 0]) ++ qab (IntKind.i16.wrap v) aa).length) aj)),(9,.v (.bool true))] aS ig fun pH ii=>?_
   refine qaf (qaa ?_)
   refine wp_ret (qaD ii aS.cells (v:=.tuple #[.slice ai ((((([]:Bs) ++ [by8 0,by8 0,by8 0,by8 0] ++ be 2 8 ++ be 2 (IntKind.i16.wrap v) ++ be 4 num) ++ (be 2 txt.size ++ sb txt) ++ [by8 0]) ++ qab (IntKind.i16.wrap v) aa).length) aj,.bool true]) kz ?_)
   have ij:be 4 (IntKind.i32.wrap ((((((([]:Bs) ++ [by8 0,by8 0,by8 0,by8 0] ++ be 2 8 ++ be 2 (IntKind.i16.wrap v) ++ be 4 num) ++ (be 2 txt.size ++ sb txt) ++ [by8 0]) ++ qab (IntKind.i16.wrap v) aa).length) - 4:Nat):Int)) ++ (((([]:Bs) ++ [by8 0,by8 0,by8 0,by8 0] ++ be 2 8 ++ be 2 (IntKind.i16.wrap v) ++ be 4 num) ++ (be 2 txt.size ++ sb txt) ++ [by8 0]) ++ qab (IntKind.i16.wrap v) aa).drop 4 = (qa6 8 (IntKind.i16.wrap v) num has (sb txt) (decide ((IntKind.i16.wrap v) ≥ 8)) (qab (IntKind.i16.wrap v) aa)):=qcN (R:=outB 8 (IntKind.i16.wrap v) num has (sb txt) (decide ((IntKind.i16.wrap v) ≥ 8)) (qab (IntKind.i16.wrap v) aa)) (by simp [outB,qer,qbU,aJ,bf])
   exact qcO aS (k:=1) rfl (ij.trans (by rw [ba])) (by simp only [List.length_append,List.length_cons,List.length_nil]; omega)
  have my:=of_decide_eq_false bf
  refine wp_skip (qaa (qae [0,1,2,3] kz ?_))
  refine qaj [0,1] [2,3] [(49,.v (.iface 46 (.pointer (some ⟨ac,0,none⟩)))),(50,.v (.slice aF (((([]:Bs) ++ [by8 0,by8 0,by8 0,by8 0] ++ be 2 8 ++ be 2 (IntKind.i16.wrap v) ++ be 4 num) ++ (be 2 txt.size ++ sb txt)).length) aG))] ax cG fun pI ik=>?_
  have il:=(qa2 _ (((((((((((((aP.trans aQ).trans bH).trans bJ).trans bK).trans bL).trans bM).trans bN).trans bO).trans bP).trans bR).trans bT).trans bU).trans bV).step immM (((((((((((((aP.trans aQ).trans bH).trans bJ).trans bK).trans bL).trans bM).trans bN).trans bO).trans bP).trans bR).trans bT).trans bU).trans bV).to' bG)
  have dW:=ax.strImm (G:=F) 1 rfl
  have hk_:=qa2 _ (Step.refl _ Nil) nilM (fun b o h_ _=>qgD h_) il
  refine qam (qc6 ik (t := 46) (v := (.pointer (some ⟨ac, 0, none⟩))) (v' := (.pointer (some ⟨ac, 0, none⟩))) (name := "AppendTo") (f := 176) (vs := [.slice aF (((([] : Bs) ++ [by8 0, by8 0, by8 0, by8 0] ++ be 2 8 ++ be 2 (IntKind.i16.wrap v) ++ be 4 num) ++ (be 2 txt.size ++ sb txt)).length) aG]) (d := 51) kz (fun _ => by kernel_rfl) Tryz.call176 (qbX (IntKind.i16.wrap v) aa ac 0 aF aG ((([] : Bs) ++ [by8 0, by8 0, by8 0, by8 0] ++ be 2 8 ++ be 2 (IntKind.i16.wrap v) ++ be 4 num) ++ (be 2 txt.size ++ sb txt)) _ _ dW hk_ (qgB 1 rfl) (ax.own 1 _ rfl) (by first | omega | (simp only [List.length_append, List.length_cons, List.length_nil, be_length, qbU]; omega) | (simp; omega))) ?_)
  rintro e_ pJ ⟨ak,al,rfl,im,dj,dl⟩
  refine ⟨_,rfl,fun pK io=>?_⟩
  have dp:WOk _ _ _ _ (z14 au ab ak al v num txt.size txt aa):=ax.grow (k:=1) rfl dj im dl
  have mz:=Fr.grow (z0 b1 has txt ac v aa af ae ab ag ah) (k:=1) (rs:=(z25 au ab aF aG v num txt.size txt)) (r':=(brow ak al 5 (((([]:Bs) ++ [by8 0,by8 0,by8 0,by8 0] ++ be 2 8 ++ be 2 (IntKind.i16.wrap v) ++ be 4 num) ++ (be 2 txt.size ++ sb txt)) ++ qab (IntKind.i16.wrap v) aa))) rfl dj dl
  refine qaj [3] [] [(1,.v (.slice ak ((((([]:Bs) ++ [by8 0,by8 0,by8 0,by8 0] ++ be 2 8 ++ be 2 (IntKind.i16.wrap v) ++ be 4 num) ++ (be 2 txt.size ++ sb txt)) ++ qab (IntKind.i16.wrap v) aa).length) al))] dp io fun pL ip=>?_
  refine qaf (qaa ?_)
  refine qbm 7 kz dp fun pM mA bX bj=>?_
  refine qaY [0,2] [(1,.v (.slice ak ((((([]:Bs) ++ [by8 0,by8 0,by8 0,by8 0] ++ be 2 8 ++ be 2 (IntKind.i16.wrap v) ++ be 4 num) ++ (be 2 txt.size ++ sb txt)) ++ qab (IntKind.i16.wrap v) aa).length) al)),(52,.v (.slice ak ((((([]:Bs) ++ [by8 0,by8 0,by8 0,by8 0] ++ be 2 8 ++ be 2 (IntKind.i16.wrap v) ++ be 4 num) ++ (be 2 txt.size ++ sb txt)) ++ qab (IntKind.i16.wrap v) aa).length) al)),(54,.v (.slice ak ((((([]:Bs) ++ [by8 0,by8 0,by8 0,by8 0] ++ be 2 8 ++ be 2 (IntKind.i16.wrap v) ++ be 4 num) ++ (be 2 txt.size ++ sb txt)) ++ qab (IntKind.i16.wrap v) aa).length) al))] 5 (qad qah) (fun _ h=>h.cells) bj ip fun pN dq=>?_
  refine qe4 (i:=1) (j:=3) kz ?_ ?_
  ·
   refine (qbD dq (t:=24) (A:=ak) (m:=(((([]:Bs) ++ [by8 0,by8 0,by8 0,by8 0] ++ be 2 8 ++ be 2 (IntKind.i16.wrap v) ++ be 4 num) ++ (be 2 txt.size ++ sb txt)) ++ qab (IntKind.i16.wrap v) aa).length) (cp:=al) (q:=0) (d:=53) (j:=0) kz (e:=5) (size:=1) (bytes:=1) kz (rfl) (by omega) fun pO iq=>?_)
   refine ⟨fun _=>bj,?_⟩
   refine qaN (i:=3) kz (qby iq (t:=24) (A:=ak) (m:=((((([]:Bs) ++ [by8 0,by8 0,by8 0,by8 0] ++ be 2 8 ++ be 2 (IntKind.i16.wrap v) ++ be 4 num) ++ (be 2 txt.size ++ sb txt)) ++ qab (IntKind.i16.wrap v) aa).length)) (cp:=al) (q:=4) (d:=55) (j:=4) kz (e:=5) (bytes:=1) kz (rfl) (by first | omega | (simp only [List.length_append,List.length_cons,List.length_nil]; omega)) fun pP ir=>?_)
   refine ⟨fun _=>bj,?_⟩
   refine qaY [4,5] [(1,.v (.slice ak ((((([]:Bs) ++ [by8 0,by8 0,by8 0,by8 0] ++ be 2 8 ++ be 2 (IntKind.i16.wrap v) ++ be 4 num) ++ (be 2 txt.size ++ sb txt)) ++ qab (IntKind.i16.wrap v) aa).length) al)),(53,.v (.slice ak 0 al)),(57,.v (.int .i32 (IntKind.i32.wrap ((((((([]:Bs) ++ [by8 0,by8 0,by8 0,by8 0] ++ be 2 8 ++ be 2 (IntKind.i16.wrap v) ++ be 4 num) ++ (be 2 txt.size ++ sb txt)) ++ qab (IntKind.i16.wrap v) aa).length) - 4:Nat):Int))))] 1 (qad qah) (fun _ h=>h.cells) bj ir fun pQ iu=>?_
   refine qaN (i:=6) kz (qal iu (f:=133) (vs:=[.slice ak 0 al,.int .i32 (IntKind.i32.wrap ((((((([]:Bs) ++ [by8 0,by8 0,by8 0,by8 0] ++ be 2 8 ++ be 2 (IntKind.i16.wrap v) ++ be 4 num) ++ (be 2 txt.size ++ sb txt)) ++ qab (IntKind.i16.wrap v) aa).length) - 4:Nat):Int))]) (d:=58) kz Tryz.call133 (qbJ (IntKind.i32.wrap ((((((([]:Bs) ++ [by8 0,by8 0,by8 0,by8 0] ++ be 2 8 ++ be 2 (IntKind.i16.wrap v) ++ be 4 num) ++ (be 2 txt.size ++ sb txt)) ++ qab (IntKind.i16.wrap v) aa).length) - 4:Nat):Int)) ak al (((([]:Bs) ++ [by8 0,by8 0,by8 0,by8 0] ++ be 2 8 ++ be 2 (IntKind.i16.wrap v) ++ be 4 num) ++ (be 2 txt.size ++ sb txt)) ++ qab (IntKind.i16.wrap v) aa) _ (bX.own 1 _ rfl) (by simp only [List.length_append,List.length_cons,List.length_nil]; omega)) ?_)
   rintro e_ pR ⟨rfl,iv,dr⟩
   refine ⟨_,rfl,fun pS iw=>?_⟩
   have aT:WOk _ _ _ _ (z11 au ab ak al v num txt.size txt aa):=bX.grow (k:=1) (r':=⟨ak,al,5,1,(((([]:Bs) ++ [by8 0,by8 0,by8 0,by8 0] ++ be 2 8 ++ be 2 (IntKind.i16.wrap v) ++ be 4 num) ++ (be 2 txt.size ++ sb txt)) ++ qab (IntKind.i16.wrap v) aa).length,bc (be 4 (IntKind.i32.wrap ((((((([]:Bs) ++ [by8 0,by8 0,by8 0,by8 0] ++ be 2 8 ++ be 2 (IntKind.i16.wrap v) ++ be 4 num) ++ (be 2 txt.size ++ sb txt)) ++ qab (IntKind.i16.wrap v) aa).length) - 4:Nat):Int)) ++ (((([]:Bs) ++ [by8 0,by8 0,by8 0,by8 0] ++ be 2 8 ++ be 2 (IntKind.i16.wrap v) ++ be 4 num) ++ (be 2 txt.size ++ sb txt)) ++ qab (IntKind.i16.wrap v) aa).drop 4)⟩) rfl dr iv (fun g' hg'=>.inl hg')
   have ix:=Fr.grow (z0 b1 has txt ac v aa af ae ab ag ah) (k:=1) (rs:=(z14 au ab ak al v num txt.size txt aa)) (r':=⟨ak,al,5,1,(((([]:Bs) ++ [by8 0,by8 0,by8 0,by8 0] ++ be 2 8 ++ be 2 (IntKind.i16.wrap v) ++ be 4 num) ++ (be 2 txt.size ++ sb txt)) ++ qab (IntKind.i16.wrap v) aa).length,bc (be 4 (IntKind.i32.wrap ((((((([]:Bs) ++ [by8 0,by8 0,by8 0,by8 0] ++ be 2 8 ++ be 2 (IntKind.i16.wrap v) ++ be 4 num) ++ (be 2 txt.size ++ sb txt)) ++ qab (IntKind.i16.wrap v) aa).length) - 4:Nat):Int)) ++ (((([]:Bs) ++ [by8 0,by8 0,by8 0,by8 0] ++ be 2 8 ++ be 2 (IntKind.i16.wrap v) ++ be 4 num) ++ (be 2 txt.size ++ sb txt)) ++ qab (IntKind.i16.wrap v) aa).drop 4)⟩) rfl dr (fun g' hg'=>.inl hg')
   have iy:=TT.ofW ix aT
   refine ⟨fun _=>iy,?_⟩
   refine qaX kz ?_ _
   refine qaa (qas [(8,.v (.slice ak ((((([]:Bs) ++ [by8 0,by8 0,by8 0,by8 0] ++ be 2 8 ++ be 2 (IntKind.i16.wrap v) ++ be 4 num) ++ (be 2 txt.size ++ sb txt)) ++ qab (IntKind.i16.wrap v) aa).length) al))] aT iw fun pT iz=>?_)
   refine wp_ret (qaD iz aT.cells (v:=.slice ak ((((([]:Bs) ++ [by8 0,by8 0,by8 0,by8 0] ++ be 2 8 ++ be 2 (IntKind.i16.wrap v) ++ be 4 num) ++ (be 2 txt.size ++ sb txt)) ++ qab (IntKind.i16.wrap v) aa).length) al) kz ?_)
   refine ⟨_,rfl,fun pU iA=>?_⟩
   have iB:=(EnvOk.places (tb':=[⟨b1,0,[.bool has,.string txt],true⟩,⟨ac,0,[.int .i16 (IntKind.i16.wrap v),.string ((aa.f 0).s),.int .i32 ((aa.f 1).n),.string ((aa.f 2).s),.pointer ((aa.f 3).A),.int .i64 ((aa.f 4).n),.slice ((aa.f 5).A) ((aa.f 5).l) ((aa.f 5).c),.map aa.m],true⟩,⟨af,0,[.bool has,.string txt],true⟩,⟨ae,0,[.pointer none],true⟩,⟨ab,0,[.string txt],true⟩,⟨ag,0,[.pointer (some ⟨ab,0,none⟩)],true⟩,⟨ah,0,[.func (.func 131) #[] #[.pointer (some ⟨ab,0,none⟩)]],true⟩]) iA (show Pl [⟨b1,0,[.bool has,.string txt],true⟩,⟨ac,0,[.int .i16 (IntKind.i16.wrap v),.string ((aa.f 0).s),.int .i32 ((aa.f 1).n),.string ((aa.f 2).s),.pointer ((aa.f 3).A),.int .i64 ((aa.f 4).n),.slice ((aa.f 5).A) ((aa.f 5).l) ((aa.f 5).c),.map aa.m],true⟩,⟨af,0,[.bool has,.string txt],true⟩,⟨ae,0,[.pointer none],true⟩,⟨ab,0,[.string txt],true⟩,⟨ag,0,[.pointer (some ⟨ab,0,none⟩)],true⟩,⟨ah,0,[.func (.func 131) #[] #[.pointer (some ⟨ab,0,none⟩)]],true⟩] [⟨b1,0,[.bool has,.string txt],true⟩,⟨ac,0,[.int .i16 (IntKind.i16.wrap v),.string ((aa.f 0).s),.int .i32 ((aa.f 1).n),.string ((aa.f 2).s),.pointer ((aa.f 3).A),.int .i64 ((aa.f 4).n),.slice ((aa.f 5).A) ((aa.f 5).l) ((aa.f 5).c),.map aa.m],true⟩,⟨af,0,[.bool has,.string txt],true⟩,⟨ae,0,[.pointer none],true⟩,⟨ab,0,[.string txt],true⟩,⟨ag,0,[.pointer (some ⟨ab,0,none⟩)],true⟩,⟨ah,0,[.func (.func 131) #[] #[.pointer (some ⟨ab,0,none⟩)]],true⟩] from ⟨rfl,rfl,⟨rfl,rfl,⟨rfl,rfl,⟨rfl,rfl,⟨rfl,rfl,⟨rfl,rfl,⟨rfl,rfl,trivial⟩⟩⟩⟩⟩⟩⟩)).pk (env':=[(19,.v (.slice ak ((((([]:Bs) ++ [by8 0,by8 0,by8 0,by8 0] ++ be 2 8 ++ be 2 (IntKind.i16.wrap v) ++ be 4 num) ++ (be 2 txt.size ++ sb txt)) ++ qab (IntKind.i16.wrap v) aa).length) al)),(16,.p 5 0),(17,.v (.iface 46 (.pointer (some ⟨ac,0,none⟩)))),(18,.v (.int .i32 num))])
   refine qaj [4] [] [(6,.v (.slice ak ((((([]:Bs) ++ [by8 0,by8 0,by8 0,by8 0] ++ be 2 8 ++ be 2 (IntKind.i16.wrap v) ++ be 4 num) ++ (be 2 txt.size ++ sb txt)) ++ qab (IntKind.i16.wrap v) aa).length) al))] aT iB fun pV iC=>?_
   refine qaf (qaa ?_)
   refine wp_ret (qaD iC aT.cells (v:=.slice ak ((((([]:Bs) ++ [by8 0,by8 0,by8 0,by8 0] ++ be 2 8 ++ be 2 (IntKind.i16.wrap v) ++ be 4 num) ++ (be 2 txt.size ++ sb txt)) ++ qab (IntKind.i16.wrap v) aa).length) al) kz ?_)
   refine ⟨_,rfl,fun pW iD=>?_⟩
   have iE:=(EnvOk.places (tb':=[⟨b1,0,[.bool has,.string txt],true⟩,⟨ac,0,[.int .i16 (IntKind.i16.wrap v),.string ((aa.f 0).s),.int .i32 ((aa.f 1).n),.string ((aa.f 2).s),.pointer ((aa.f 3).A),.int .i64 ((aa.f 4).n),.slice ((aa.f 5).A) ((aa.f 5).l) ((aa.f 5).c),.map aa.m],true⟩,⟨af,0,[.bool has,.string txt],true⟩,⟨ae,0,[.pointer none],true⟩,⟨ab,0,[.string txt],true⟩,⟨ag,0,[.pointer (some ⟨ab,0,none⟩)],true⟩,⟨ah,0,[.func (.func 131) #[] #[.pointer (some ⟨ab,0,none⟩)]],true⟩]) iD (show Pl [⟨b1,0,[.bool has,.string txt],true⟩,⟨ac,0,[.int .i16 (IntKind.i16.wrap v),.string ((aa.f 0).s),.int .i32 ((aa.f 1).n),.string ((aa.f 2).s),.pointer ((aa.f 3).A),.int .i64 ((aa.f 4).n),.slice ((aa.f 5).A) ((aa.f 5).l) ((aa.f 5).c),.map aa.m],true⟩] [⟨b1,0,[.bool has,.string txt],true⟩,⟨ac,0,[.int .i16 (IntKind.i16.wrap v),.string ((aa.f 0).s),.int .i32 ((aa.f 1).n),.string ((aa.f 2).s),.pointer ((aa.f 3).A),.int .i64 ((aa.f 4).n),.slice ((aa.f 5).A) ((aa.f 5).l) ((aa.f 5).c),.map aa.m],true⟩,⟨af,0,[.bool has,.string txt],true⟩,⟨ae,0,[.pointer none],true⟩,⟨ab,0,[.string txt],true⟩,⟨ag,0,[.pointer (some ⟨ab,0,none⟩)],true⟩,⟨ah,0,[.func (.func 131) #[] #[.pointer (some ⟨ab,0,none⟩)]],true⟩] from ⟨rfl,rfl,⟨rfl,rfl,trivial⟩⟩)).pk (env':=[(25,.v (.slice ak ((((([]:Bs) ++ [by8 0,by8 0,by8 0,by8 0] ++ be 2 8 ++ be 2 (IntKind.i16.wrap v) ++ be 4 num) ++ (be 2 txt.size ++ sb txt)) ++ qab (IntKind.i16.wrap v) aa).length) al)),(21,.v (.agg #[.bool has,.string txt])),(23,.v (.iface 46 (.pointer (some ⟨ac,0,none⟩)))),(24,.v (.int .i32 num))])
   refine qaj [5,6] [] [(8,.v (.slice ak ((((([]:Bs) ++ [by8 0,by8 0,by8 0,by8 0] ++ be 2 8 ++ be 2 (IntKind.i16.wrap v) ++ be 4 num) ++ (be 2 txt.size ++ sb txt)) ++ qab (IntKind.i16.wrap v) aa).length) al)),(9,.v (.bool true))] aT iE fun pX iF=>?_
   refine qaf (qaa ?_)
   refine wp_ret (qaD iF aT.cells (v:=.tuple #[.slice ak ((((([]:Bs) ++ [by8 0,by8 0,by8 0,by8 0] ++ be 2 8 ++ be 2 (IntKind.i16.wrap v) ++ be 4 num) ++ (be 2 txt.size ++ sb txt)) ++ qab (IntKind.i16.wrap v) aa).length) al,.bool true]) kz ?_)
   have iG:be 4 (IntKind.i32.wrap ((((((([]:Bs) ++ [by8 0,by8 0,by8 0,by8 0] ++ be 2 8 ++ be 2 (IntKind.i16.wrap v) ++ be 4 num) ++ (be 2 txt.size ++ sb txt)) ++ qab (IntKind.i16.wrap v) aa).length) - 4:Nat):Int)) ++ (((([]:Bs) ++ [by8 0,by8 0,by8 0,by8 0] ++ be 2 8 ++ be 2 (IntKind.i16.wrap v) ++ be 4 num) ++ (be 2 txt.size ++ sb txt)) ++ qab (IntKind.i16.wrap v) aa).drop 4 = (qa6 8 (IntKind.i16.wrap v) num has (sb txt) (decide ((IntKind.i16.wrap v) ≥ 8)) (qab (IntKind.i16.wrap v) aa)):=qcN (R:=outB 8 (IntKind.i16.wrap v) num has (sb txt) (decide ((IntKind.i16.wrap v) ≥ 8)) (qab (IntKind.i16.wrap v) aa)) (by simp [outB,qer,qbU,aJ,bf])
   exact qcO aT (k:=1) rfl (iG.trans (by rw [ba])) (by simp only [List.length_append,List.length_cons,List.length_nil]; omega)
  refine (qby dq (t:=24) (A:=ak) (m:=((((([]:Bs) ++ [by8 0,by8 0,by8 0,by8 0] ++ be 2 8 ++ be 2 (IntKind.i16.wrap v) ++ be 4 num) ++ (be 2 txt.size ++ sb txt)) ++ qab (IntKind.i16.wrap v) aa).length)) (cp:=al) (q:=4) (d:=55) (j:=4) kz (e:=5) (bytes:=1) kz (rfl) (by first | omega | (simp only [List.length_append,List.length_cons,List.length_nil]; omega)) fun pY iH=>?_)
  refine ⟨fun _=>bj,?_⟩
  refine qaY [4,5] [(1,.v (.slice ak ((((([]:Bs) ++ [by8 0,by8 0,by8 0,by8 0] ++ be 2 8 ++ be 2 (IntKind.i16.wrap v) ++ be 4 num) ++ (be 2 txt.size ++ sb txt)) ++ qab (IntKind.i16.wrap v) aa).length) al)),(52,.v (.slice ak ((((([]:Bs) ++ [by8 0,by8 0,by8 0,by8 0] ++ be 2 8 ++ be 2 (IntKind.i16.wrap v) ++ be 4 num) ++ (be 2 txt.size ++ sb txt)) ++ qab (IntKind.i16.wrap v) aa).length) al)),(57,.v (.int .i32 (IntKind.i32.wrap ((((((([]:Bs) ++ [by8 0,by8 0,by8 0,by8 0] ++ be 2 8 ++ be 2 (IntKind.i16.wrap v) ++ be 4 num) ++ (be 2 txt.size ++ sb txt)) ++ qab (IntKind.i16.wrap v) aa).length) - 4:Nat):Int))))] 2 (qad qah) (fun _ h=>h.cells) bj iH fun pZ iI=>?_
  refine qaN (i:=1) kz (qbD iI (t:=24) (A:=ak) (m:=(((([]:Bs) ++ [by8 0,by8 0,by8 0,by8 0] ++ be 2 8 ++ be 2 (IntKind.i16.wrap v) ++ be 4 num) ++ (be 2 txt.size ++ sb txt)) ++ qab (IntKind.i16.wrap v) aa).length) (cp:=al) (q:=0) (d:=53) (j:=0) kz (e:=5) (size:=1) (bytes:=1) kz (rfl) (by omega) fun p4 iJ=>?_)
  refine ⟨fun _=>bj,?_⟩
  refine qaN (i:=6) kz (qal iJ (f:=133) (vs:=[.slice ak 0 al,.int .i32 (IntKind.i32.wrap ((((((([]:Bs) ++ [by8 0,by8 0,by8 0,by8 0] ++ be 2 8 ++ be 2 (IntKind.i16.wrap v) ++ be 4 num) ++ (be 2 txt.size ++ sb txt)) ++ qab (IntKind.i16.wrap v) aa).length) - 4:Nat):Int))]) (d:=58) kz Tryz.call133 (qbJ (IntKind.i32.wrap ((((((([]:Bs) ++ [by8 0,by8 0,by8 0,by8 0] ++ be 2 8 ++ be 2 (IntKind.i16.wrap v) ++ be 4 num) ++ (be 2 txt.size ++ sb txt)) ++ qab (IntKind.i16.wrap v) aa).length) - 4:Nat):Int)) ak al (((([]:Bs) ++ [by8 0,by8 0,by8 0,by8 0] ++ be 2 8 ++ be 2 (IntKind.i16.wrap v) ++ be 4 num) ++ (be 2 txt.size ++ sb txt)) ++ qab (IntKind.i16.wrap v) aa) _ (bX.own 1 _ rfl) (by simp only [List.length_append,List.length_cons,List.length_nil]; omega)) ?_)
  rintro e_ p5 ⟨rfl,iK,dt⟩
  refine ⟨_,rfl,fun p6 iL=>?_⟩
  have aU:WOk _ _ _ _ (z11 au ab ak al v num txt.size txt aa):=bX.grow (k:=1) (r':=⟨ak,al,5,1,(((([]:Bs) ++ [by8 0,by8 0,by8 0,by8 0] ++ be 2 8 ++ be 2 (IntKind.i16.wrap v) ++ be 4 num) ++ (be 2 txt.size ++ sb txt)) ++ qab (IntKind.i16.wrap v) aa).length,bc (be 4 (IntKind.i32.wrap ((((((([]:Bs) ++ [by8 0,by8 0,by8 0,by8 0] ++ be 2 8 ++ be 2 (IntKind.i16.wrap v) ++ be 4 num) ++ (be 2 txt.size ++ sb txt)) ++ qab (IntKind.i16.wrap v) aa).length) - 4:Nat):Int)) ++ (((([]:Bs) ++ [by8 0,by8 0,by8 0,by8 0] ++ be 2 8 ++ be 2 (IntKind.i16.wrap v) ++ be 4 num) ++ (be 2 txt.size ++ sb txt)) ++ qab (IntKind.i16.wrap v) aa).drop 4)⟩) rfl dt iK (fun g' hg'=>.inl hg')
  have iM:=Fr.grow (z0 b1 has txt ac v aa af ae ab ag ah) (k:=1) (rs:=(z14 au ab ak al v num txt.size txt aa)) (r':=⟨ak,al,5,1,(((([]:Bs) ++ [by8 0,by8 0,by8 0,by8 0] ++ be 2 8 ++ be 2 (IntKind.i16.wrap v) ++ be 4 num) ++ (be 2 txt.size ++ sb txt)) ++ qab (IntKind.i16.wrap v) aa).length,bc (be 4 (IntKind.i32.wrap ((((((([]:Bs) ++ [by8 0,by8 0,by8 0,by8 0] ++ be 2 8 ++ be 2 (IntKind.i16.wrap v) ++ be 4 num) ++ (be 2 txt.size ++ sb txt)) ++ qab (IntKind.i16.wrap v) aa).length) - 4:Nat):Int)) ++ (((([]:Bs) ++ [by8 0,by8 0,by8 0,by8 0] ++ be 2 8 ++ be 2 (IntKind.i16.wrap v) ++ be 4 num) ++ (be 2 txt.size ++ sb txt)) ++ qab (IntKind.i16.wrap v) aa).drop 4)⟩) rfl dt (fun g' hg'=>.inl hg')
  have iN:=TT.ofW iM aU
  refine ⟨fun _=>iN,?_⟩
  refine qaX kz ?_ _
  refine qaa (qas [(8,.v (.slice ak ((((([]:Bs) ++ [by8 0,by8 0,by8 0,by8 0] ++ be 2 8 ++ be 2 (IntKind.i16.wrap v) ++ be 4 num) ++ (be 2 txt.size ++ sb txt)) ++ qab (IntKind.i16.wrap v) aa).length) al))] aU iL fun p7 iO=>?_)
  refine wp_ret (qaD iO aU.cells (v:=.slice ak ((((([]:Bs) ++ [by8 0,by8 0,by8 0,by8 0] ++ be 2 8 ++ be 2 (IntKind.i16.wrap v) ++ be 4 num) ++ (be 2 txt.size ++ sb txt)) ++ qab (IntKind.i16.wrap v) aa).length) al) kz ?_)
  refine ⟨_,rfl,fun p8 iP=>?_⟩
  have iQ:=(EnvOk.places (tb':=[⟨b1,0,[.bool has,.string txt],true⟩,⟨ac,0,[.int .i16 (IntKind.i16.wrap v),.string ((aa.f 0).s),.int .i32 ((aa.f 1).n),.string ((aa.f 2).s),.pointer ((aa.f 3).A),.int .i64 ((aa.f 4).n),.slice ((aa.f 5).A) ((aa.f 5).l) ((aa.f 5).c),.map aa.m],true⟩,⟨af,0,[.bool has,.string txt],true⟩,⟨ae,0,[.pointer none],true⟩,⟨ab,0,[.string txt],true⟩,⟨ag,0,[.pointer (some ⟨ab,0,none⟩)],true⟩,⟨ah,0,[.func (.func 131) #[] #[.pointer (some ⟨ab,0,none⟩)]],true⟩]) iP (show Pl [⟨b1,0,[.bool has,.string txt],true⟩,⟨ac,0,[.int .i16 (IntKind.i16.wrap v),.string ((aa.f 0).s),.int .i32 ((aa.f 1).n),.string ((aa.f 2).s),.pointer ((aa.f 3).A),.int .i64 ((aa.f 4).n),.slice ((aa.f 5).A) ((aa.f 5).l) ((aa.f 5).c),.map aa.m],true⟩,⟨af,0,[.bool has,.string txt],true⟩,⟨ae,0,[.pointer none],true⟩,⟨ab,0,[.string txt],true⟩,⟨ag,0,[.pointer (some ⟨ab,0,none⟩)],true⟩,⟨ah,0,[.func (.func 131) #[] #[.pointer (some ⟨ab,0,none⟩)]],true⟩] [⟨b1,0,[.bool has,.string txt],true⟩,⟨ac,0,[.int .i16 (IntKind.i16.wrap v),.string ((aa.f 0).s),.int .i32 ((aa.f 1).n),.string ((aa.f 2).s),.pointer ((aa.f 3).A),.int .i64 ((aa.f 4).n),.slice ((aa.f 5).A) ((aa.f 5).l) ((aa.f 5).c),.map aa.m],true⟩,⟨af,0,[.bool has,.string txt],true⟩,⟨ae,0,[.pointer none],true⟩,⟨ab,0,[.string txt],true⟩,⟨ag,0,[.pointer (some ⟨ab,0,none⟩)],true⟩,⟨ah,0,[.func (.func 131) #[] #[.pointer (some ⟨ab,0,none⟩)]],true⟩] from ⟨rfl,rfl,⟨rfl,rfl,⟨rfl,rfl,⟨rfl,rfl,⟨rfl,rfl,⟨rfl,rfl,⟨rfl,rfl,trivial⟩⟩⟩⟩⟩⟩⟩)).pk (env':=[(19,.v (.slice ak ((((([]:Bs) ++ [by8 0,by8 0,by8 0,by8 0] ++ be 2 8 ++ be 2 (IntKind.i16.wrap v) ++ be 4 num) ++ (be 2 txt.size ++ sb txt)) ++ qab (IntKind.i16.wrap v) aa).length) al)),(16,.p 5 0),(17,.v (.iface 46 (.pointer (some ⟨ac,0,none⟩)))),(18,.v (.int .i32 num))])
  refine qaj [4] [] [(6,.v (.slice ak ((((([]:Bs) ++ [by8 0,by8 0,by8 0,by8 0] ++ be 2 8 ++ be 2 (IntKind.i16.wrap v) ++ be 4 num) ++ (be 2 txt.size ++ sb txt)) ++ qab (IntKind.i16.wrap v) aa).length) al))] aU iQ fun p9 iR=>?_
  refine qaf (qaa ?_)
  refine wp_ret (qaD iR aU.cells (v:=.slice ak ((((([]:Bs) ++ [by8 0,by8 0,by8 0,by8 0] ++ be 2 8 ++ be 2 (IntKind.i16.wrap v) ++ be 4 num) ++ (be 2 txt.size ++ sb txt)) ++ qab (IntKind.i16.wrap v) aa).length) al) kz ?_)
  refine ⟨_,rfl,fun qa iS=>?_⟩
  have iT:=(EnvOk.places (tb':=[⟨b1,0,[.bool has,.string txt],true⟩,⟨ac,0,[.int .i16 (IntKind.i16.wrap v),.string ((aa.f 0).s),.int .i32 ((aa.f 1).n),.string ((aa.f 2).s),.pointer ((aa.f 3).A),.int .i64 ((aa.f 4).n),.slice ((aa.f 5).A) ((aa.f 5).l) ((aa.f 5).c),.map aa.m],true⟩,⟨af,0,[.bool has,.string txt],true⟩,⟨ae,0,[.pointer none],true⟩,⟨ab,0,[.string txt],true⟩,⟨ag,0,[.pointer (some ⟨ab,0,none⟩)],true⟩,⟨ah,0,[.func (.func 131) #[] #[.pointer (some ⟨ab,0,none⟩)]],true⟩]) iS (show Pl [⟨b1,0,[.bool has,.string txt],true⟩,⟨ac,0,[.int .i16 (IntKind.i16.wrap v),.string ((aa.f 0).s),.int .i32 ((aa.f 1).n),.string ((aa.f 2).s),.pointer ((aa.f 3).A),.int .i64 ((aa.f 4).n),.slice ((aa.f 5).A) ((aa.f 5).l) ((aa.f 5).c),.map aa.m],true⟩] [⟨b1,0,[.bool has,.string txt],true⟩,⟨ac,0,[.int .i16 (IntKind.i16.wrap v),.string ((aa.f 0).s),.int .i32 ((aa.f 1).n),.string ((aa.f 2).s),.pointer ((aa.f 3).A),.int .i64 ((aa.f 4).n),.slice ((aa.f 5).A) ((aa.f 5).l) ((aa.f 5).c),.map aa.m],true⟩,⟨af,0,[.bool has,.string txt],true⟩,⟨ae,0,[.pointer none],true⟩,⟨ab,0,[.string txt],true⟩,⟨ag,0,[.pointer (some ⟨ab,0,none⟩)],true⟩,⟨ah,0,[.func (.func 131) #[] #[.pointer (some ⟨ab,0,none⟩)]],true⟩] from ⟨rfl,rfl,⟨rfl,rfl,trivial⟩⟩)).pk (env':=[(25,.v (.slice ak ((((([]:Bs) ++ [by8 0,by8 0,by8 0,by8 0] ++ be 2 8 ++ be 2 (IntKind.i16.wrap v) ++ be 4 num) ++ (be 2 txt.size ++ sb txt)) ++ qab (IntKind.i16.wrap v) aa).length) al)),(21,.v (.agg #[.bool has,.string txt])),(23,.v (.iface 46 (.pointer (some ⟨ac,0,none⟩)))),(24,.v (.int .i32 num))])
  refine qaj [5,6] [] [(8,.v (.slice ak ((((([]:Bs) ++ [by8 0,by8 0,by8 0,by8 0] ++ be 2 8 ++ be 2 (IntKind.i16.wrap v) ++ be 4 num) ++ (be 2 txt.size ++ sb txt)) ++ qab (IntKind.i16.wrap v) aa).length) al)),(9,.v (.bool true))] aU iT fun qb iU=>?_
  refine qaf (qaa ?_)
  refine wp_ret (qaD iU aU.cells (v:=.tuple #[.slice ak ((((([]:Bs) ++ [by8 0,by8 0,by8 0,by8 0] ++ be 2 8 ++ be 2 (IntKind.i16.wrap v) ++ be 4 num) ++ (be 2 txt.size ++ sb txt)) ++ qab (IntKind.i16.wrap v) aa).length) al,.bool true]) kz ?_)
  have iV:be 4 (IntKind.i32.wrap ((((((([]:Bs) ++ [by8 0,by8 0,by8 0,by8 0] ++ be 2 8 ++ be 2 (IntKind.i16.wrap v) ++ be 4 num) ++ (be 2 txt.size ++ sb txt)) ++ qab (IntKind.i16.wrap v) aa).length) - 4:Nat):Int)) ++ (((([]:Bs) ++ [by8 0,by8 0,by8 0,by8 0] ++ be 2 8 ++ be 2 (IntKind.i16.wrap v) ++ be 4 num) ++ (be 2 txt.size ++ sb txt)) ++ qab (IntKind.i16.wrap v) aa).drop 4 = (qa6 8 (IntKind.i16.wrap v) num has (sb txt) (decide ((IntKind.i16.wrap v) ≥ 8)) (qab (IntKind.i16.wrap v) aa)):=qcN (R:=outB 8 (IntKind.i16.wrap v) num has (sb txt) (decide ((IntKind.i16.wrap v) ≥ 8)) (qab (IntKind.i16.wrap v) aa)) (by simp [outB,qer,qbU,aJ,bf])
  exact qcO aU (k:=1) rfl (iV.trans (by rw [ba])) (by simp only [List.length_append,List.length_cons,List.length_nil]; omega)
 refine wp_skip (qaa (qae [0,1,2,3,4] kz ?_))
 refine qaj [0,1,2] [3,4] [(16,.p 3 0),(17,.v (.iface 46 (.pointer (some ⟨ac,0,none⟩)))),(18,.v (.int .i32 num))] av cD fun qc iW=>?_
 refine qam (qa5 iW (f:=91) (vs:=[.pointer (some ⟨ae,0,none⟩),.slice none 0 0,.iface 46 (.pointer (some ⟨ac,0,none⟩)),.int .i32 num]) (d:=19) (n':=60) kz Tryz.call91 Tryz.func91 rfl Tryz.ntmps91 kz fun qd iX=>?_)
 have iY:=iX.recast 0 (.v (.pointer (some ⟨ae,0,none⟩))) (.p 3 0) rfl rfl (Nat.le_of_ble_eq_true (n:=4) rfl)
 refine qas [(0,.p 3 0),(1,.v (.slice none 0 0)),(2,.v (.iface 46 (.pointer (some ⟨ac,0,none⟩)))),(3,.v (.int .i32 num))] av iY fun qe iZ=>?_
 refine qae [0,1,2,3] kz ?_
 refine qaj [0] [1,2,3] [(0,.p 3 0),(2,.v (.iface 46 (.pointer (some ⟨ac,0,none⟩)))),(3,.v (.int .i32 num)),(12,.v (.slice none 0 0))] av iZ fun qf i6=>?_
 have i7:=av.addNil 5 1
 have bY:=av.frNil 5 1
 refine qbu i7 i6 (k:=0) (e:=5) (size:=1) (len:=4) (cs:=[.int .u8 0,.int .u8 0,.int .u8 0,.int .u8 0]) (d1:=13) (d:=14) kz (t:=24) (bytes:=1) kz (fun _=>by kernel_rfl) rfl kz (by first | omega | (simp only [List.length_append,List.length_cons,List.length_nil,be_length,qbU]; omega) | (simp; omega)) fun aH aI qg qh bZ ja ⟨_,jb⟩=>?_
 have jc:(⟨aH,aI,5,1,([]:Bs).length + 4,bc ([]:Bs) ++ [.int .u8 0,.int .u8 0,.int .u8 0,.int .u8 0]⟩:Rw) = brow aH aI 5 (([]:Bs) ++ [by8 0,by8 0,by8 0,by8 0]):=qa0 (by simp only [bc,List.map,qbC]; try rfl) rfl
 obtain ⟨ay,b8⟩:=ja.rowEq 0 [brow aH aI 5 (([]:Bs) ++ [by8 0,by8 0,by8 0,by8 0])] jc
 have jd:=EnvOk.pick jb (ks:=[0,2,3,12,14]) (env':=[(0,.p 3 0),(2,.v (.iface 46 (.pointer (some ⟨ac,0,none⟩)))),(3,.v (.int .i32 num)),(12,.v (.slice none 0 0)),(14,.v (.slice aH (([]:Bs).length + 4) aI))]) kz
 have je:=jd.cast (env':=[(0,.p 3 0),(2,.v (.iface 46 (.pointer (some ⟨ac,0,none⟩)))),(3,.v (.int .i32 num)),(12,.v (.slice none 0 0)),(14,.v (.slice aH ((([]:Bs) ++ [by8 0,by8 0,by8 0,by8 0]).length) aI))]) (by simp only [List.length_append,List.length_cons,List.length_nil,Nat.zero_add])
 refine qaj [3] [] [(0,.p 3 0),(1,.v (.slice aH ((([]:Bs) ++ [by8 0,by8 0,by8 0,by8 0]).length) aI)),(2,.v (.iface 46 (.pointer (some ⟨ac,0,none⟩)))),(3,.v (.int .i32 num))] ay je fun qi jf=>?_
 refine qaf (qaa ?_)
 refine qae [0,1,2] kz ?_
 refine qaj [0] [1,2] [(0,.p 3 0),(1,.v (.slice aH ((([]:Bs) ++ [by8 0,by8 0,by8 0,by8 0]).length) aI)),(2,.v (.iface 46 (.pointer (some ⟨ac,0,none⟩)))),(3,.v (.int .i32 num)),(15,.v (.iface 46 (.pointer (some ⟨ac,0,none⟩))))] ay jf fun qj jg=>?_
 refine qam (qcj jg (t := 46) (v := (.pointer (some ⟨ac, 0, none⟩))) (v' := (.pointer (some ⟨ac, 0, none⟩))) (name := "Key") (f := 179) (vs := []) (d := 16) (n' := 3) kz (fun _ => by kernel_rfl) Tryz.call179 Tryz.func179 rfl Tryz.ntmps179 kz fun qk jh => ?_)
 have ji:=jh.recast 0 (.v (.pointer (some ⟨ac,0,none⟩))) (.p 1 0) rfl rfl (Nat.le_of_ble_eq_true (n:=2) rfl)
 refine qas [] ay ji fun ql jj=>?_
 refine qas [(2,.v (.int .i16 8))] ay jj fun qm jk=>?_
 refine wp_ret (qaD jk ay.cells (v:=.int .i16 8) kz ?_)
 refine ⟨_,rfl,fun qn jl=>?_⟩
 have jm:=(EnvOk.places (tb':=[⟨b1,0,[.bool has,.string txt],true⟩,⟨ac,0,[.int .i16 (IntKind.i16.wrap v),.string ((aa.f 0).s),.int .i32 ((aa.f 1).n),.string ((aa.f 2).s),.pointer ((aa.f 3).A),.int .i64 ((aa.f 4).n),.slice ((aa.f 5).A) ((aa.f 5).l) ((aa.f 5).c),.map aa.m],true⟩,⟨af,0,[.bool has,.string txt],true⟩,⟨ae,0,[.pointer none],true⟩]) jl (show Pl [⟨b1,0,[.bool has,.string txt],true⟩,⟨ac,0,[.int .i16 (IntKind.i16.wrap v),.string ((aa.f 0).s),.int .i32 ((aa.f 1).n),.string ((aa.f 2).s),.pointer ((aa.f 3).A),.int .i64 ((aa.f 4).n),.slice ((aa.f 5).A) ((aa.f 5).l) ((aa.f 5).c),.map aa.m],true⟩,⟨af,0,[.bool has,.string txt],true⟩,⟨ae,0,[.pointer none],true⟩] [⟨b1,0,[.bool has,.string txt],true⟩,⟨ac,0,[.int .i16 (IntKind.i16.wrap v),.string ((aa.f 0).s),.int .i32 ((aa.f 1).n),.string ((aa.f 2).s),.pointer ((aa.f 3).A),.int .i64 ((aa.f 4).n),.slice ((aa.f 5).A) ((aa.f 5).l) ((aa.f 5).c),.map aa.m],true⟩,⟨af,0,[.bool has,.string txt],true⟩,⟨ae,0,[.pointer none],true⟩] from ⟨rfl,rfl,⟨rfl,rfl,⟨rfl,rfl,⟨rfl,rfl,trivial⟩⟩⟩⟩)).pk (env':=[(16,.v (.int .i16 8)),(0,.p 3 0),(1,.v (.slice aH ((([]:Bs) ++ [by8 0,by8 0,by8 0,by8 0]).length) aI)),(2,.v (.iface 46 (.pointer (some ⟨ac,0,none⟩)))),(3,.v (.int .i32 num)),(15,.v (.iface 46 (.pointer (some ⟨ac,0,none⟩))))])
 refine qaj [2] [] [(0,.p 3 0),(1,.v (.slice aH ((([]:Bs) ++ [by8 0,by8 0,by8 0,by8 0]).length) aI)),(2,.v (.iface 46 (.pointer (some ⟨ac,0,none⟩)))),(3,.v (.int .i32 num)),(9,.v (.int .i16 8))] ay jm fun qo jn=>?_
 refine qaf (qaa ?_)
 refine qae [0,1,2] kz ?_
 refine qaj [0] [1,2] [(0,.p 3 0),(1,.v (.slice aH ((([]:Bs) ++ [by8 0,by8 0,by8 0,by8 0]).length) aI)),(2,.v (.iface 46 (.pointer (some ⟨ac,0,none⟩)))),(3,.v (.int .i32 num)),(9,.v (.int .i16 8)),(17,.v (.iface 46 (.pointer (some ⟨ac,0,none⟩))))] ay jn fun qp jo=>?_
 refine qam (qcj jo (t := 46) (v := (.pointer (some ⟨ac, 0, none⟩))) (v' := (.pointer (some ⟨ac, 0, none⟩))) (name := "GetVersion") (f := 177) (vs := []) (d := 18) (n' := 7) kz (fun _ => by kernel_rfl) Tryz.call177 Tryz.func177 rfl Tryz.ntmps177 kz fun qq jp => ?_)
 have jq:=jp.recast 0 (.v (.pointer (some ⟨ac,0,none⟩))) (.p 1 0) rfl rfl (Nat.le_of_ble_eq_true (n:=2) rfl)
 refine qas [(0,.p 1 0)] ay jq fun qr jr=>?_
 refine qas [(2,.v (.int .i16 (IntKind.i16.wrap v)))] ay jr fun qs js=>?_
 refine wp_ret (qaD js ay.cells (v:=.int .i16 (IntKind.i16.wrap v)) kz ?_)
 refine ⟨_,rfl,fun qt jt=>?_⟩
 have ju:=(EnvOk.places (tb':=[⟨b1,0,[.bool has,.string txt],true⟩,⟨ac,0,[.int .i16 (IntKind.i16.wrap v),.string ((aa.f 0).s),.int .i32 ((aa.f 1).n),.string ((aa.f 2).s),.pointer ((aa.f 3).A),.int .i64 ((aa.f 4).n),.slice ((aa.f 5).A) ((aa.f 5).l) ((aa.f 5).c),.map aa.m],true⟩,⟨af,0,[.bool has,.string txt],true⟩,⟨ae,0,[.pointer none],true⟩]) jt (show Pl [⟨b1,0,[.bool has,.string txt],true⟩,⟨ac,0,[.int .i16 (IntKind.i16.wrap v),.string ((aa.f 0).s),.int .i32 ((aa.f 1).n),.string ((aa.f 2).s),.pointer ((aa.f 3).A),.int .i64 ((aa.f 4).n),.slice ((aa.f 5).A) ((aa.f 5).l) ((aa.f 5).c),.map aa.m],true⟩,⟨af,0,[.bool has,.string txt],true⟩,⟨ae,0,[.pointer none],true⟩] [⟨b1,0,[.bool has,.string txt],true⟩,⟨ac,0,[.int .i16 (IntKind.i16.wrap v),.string ((aa.f 0).s),.int .i32 ((aa.f 1).n),.string ((aa.f 2).s),.pointer ((aa.f 3).A),.int .i64 ((aa.f 4).n),.slice ((aa.f 5).A) ((aa.f 5).l) ((aa.f 5).c),.map aa.m],true⟩,⟨af,0,[.bool has,.string txt],true⟩,⟨ae,0,[.pointer none],true⟩] from ⟨rfl,rfl,⟨rfl,rfl,⟨rfl,rfl,⟨rfl,rfl,trivial⟩⟩⟩⟩)).pk (env':=[(18,.v (.int .i16 (IntKind.i16.wrap v))),(0,.p 3 0),(1,.v (.slice aH ((([]:Bs) ++ [by8 0,by8 0,by8 0,by8 0]).length) aI)),(2,.v (.iface 46 (.pointer (some ⟨ac,0,none⟩)))),(3,.v (.int .i32 num)),(9,.v (.int .i16 8)),(17,.v (.iface 46 (.pointer (some ⟨ac,0,none⟩))))])
 refine qaj [2] [] [(0,.p 3 0),(1,.v (.slice aH ((([]:Bs) ++ [by8 0,by8 0,by8 0,by8 0]).length) aI)),(2,.v (.iface 46 (.pointer (some ⟨ac,0,none⟩)))),(3,.v (.int .i32 num)),(9,.v (.int .i16 8)),(10,.v (.int .i16 (IntKind.i16.wrap v)))] ay ju fun qu jv=>?_
 refine qaf (qaa ?_)
 refine qae [0,1,2,3] kz ?_
 refine qaj [0,1] [2,3] [(0,.p 3 0),(2,.v (.iface 46 (.pointer (some ⟨ac,0,none⟩)))),(3,.v (.int .i32 num)),(9,.v (.int .i16 8)),(10,.v (.int .i16 (IntKind.i16.wrap v))),(19,.v (.slice aH ((([]:Bs) ++ [by8 0,by8 0,by8 0,by8 0]).length) aI)),(20,.v (.int .i16 8))] ay jv fun qv jw=>?_
 refine qam (qal jw (f:=132) (vs:=[.slice aH ((([]:Bs) ++ [by8 0,by8 0,by8 0,by8 0]).length) aI,.int .i16 8]) (d:=21) kz Tryz.call132 (qcg aH aI (([]:Bs) ++ [by8 0,by8 0,by8 0,by8 0]) 8 _ (ay.own 0 _ rfl) (by first | omega | (simp only [List.length_append,List.length_cons,List.length_nil,be_length,qbU]; omega) | (simp; omega))) ?_)
 rintro e_ qw ⟨bB,bC,rfl,jx,du,dv⟩
 refine ⟨_,rfl,fun qx jy=>?_⟩
 have cd:WOk _ _ _ _ [brow bB bC 5 (([]:Bs) ++ [by8 0,by8 0,by8 0,by8 0] ++ be 2 8)]:=ay.grow (k:=0) rfl du jx dv
 have ce:Fr _ (z2 b1 has txt ac v aa af ae) [brow aH aI 5 (([]:Bs) ++ [by8 0,by8 0,by8 0,by8 0])] _ (z2 b1 has txt ac v aa af ae) [brow bB bC 5 (([]:Bs) ++ [by8 0,by8 0,by8 0,by8 0] ++ be 2 8)]:=Fr.grow _ (k:=0) (r':=(brow bB bC 5 (([]:Bs) ++ [by8 0,by8 0,by8 0,by8 0] ++ be 2 8))) rfl du dv
 refine qaj [3] [] [(0,.p 3 0),(1,.v (.slice bB ((([]:Bs) ++ [by8 0,by8 0,by8 0,by8 0] ++ be 2 8).length) bC)),(2,.v (.iface 46 (.pointer (some ⟨ac,0,none⟩)))),(3,.v (.int .i32 num)),(9,.v (.int .i16 8)),(10,.v (.int .i16 (IntKind.i16.wrap v)))] cd jy fun qy jz=>?_
 refine qaf (qaa ?_)
 refine qae [0,1,2,3] kz ?_
 refine qaj [0,1] [2,3] [(0,.p 3 0),(2,.v (.iface 46 (.pointer (some ⟨ac,0,none⟩)))),(3,.v (.int .i32 num)),(9,.v (.int .i16 8)),(10,.v (.int .i16 (IntKind.i16.wrap v))),(22,.v (.slice bB ((([]:Bs) ++ [by8 0,by8 0,by8 0,by8 0] ++ be 2 8).length) bC)),(23,.v (.int .i16 (IntKind.i16.wrap v)))] cd jz fun qz jA=>?_
 refine qam (qal jA (f:=132) (vs:=[.slice bB ((([]:Bs) ++ [by8 0,by8 0,by8 0,by8 0] ++ be 2 8).length) bC,.int .i16 (IntKind.i16.wrap v)]) (d:=24) kz Tryz.call132 (qcg bB bC (([]:Bs) ++ [by8 0,by8 0,by8 0,by8 0] ++ be 2 8) (IntKind.i16.wrap v) _ (cd.own 0 _ rfl) (by first | omega | (simp only [List.length_append,List.length_cons,List.length_nil,be_length,qbU]; omega) | (simp; omega))) ?_)
 rintro e_ qA ⟨bD,bE,rfl,jB,dw,dx⟩
 refine ⟨_,rfl,fun qB jC=>?_⟩
 have cg:WOk _ _ _ _ [brow bD bE 5 (([]:Bs) ++ [by8 0,by8 0,by8 0,by8 0] ++ be 2 8 ++ be 2 (IntKind.i16.wrap v))]:=cd.grow (k:=0) rfl dw jB dx
 have cm:Fr _ (z2 b1 has txt ac v aa af ae) [brow bB bC 5 (([]:Bs) ++ [by8 0,by8 0,by8 0,by8 0] ++ be 2 8)] _ (z2 b1 has txt ac v aa af ae) [brow bD bE 5 (([]:Bs) ++ [by8 0,by8 0,by8 0,by8 0] ++ be 2 8 ++ be 2 (IntKind.i16.wrap v))]:=Fr.grow _ (k:=0) (r':=(brow bD bE 5 (([]:Bs) ++ [by8 0,by8 0,by8 0,by8 0] ++ be 2 8 ++ be 2 (IntKind.i16.wrap v)))) rfl dw dx
 refine qaj [3] [] [(0,.p 3 0),(1,.v (.slice bD ((([]:Bs) ++ [by8 0,by8 0,by8 0,by8 0] ++ be 2 8 ++ be 2 (IntKind.i16.wrap v)).length) bE)),(2,.v (.iface 46 (.pointer (some ⟨ac,0,none⟩)))),(3,.v (.int .i32 num)),(9,.v (.int .i16 8)),(10,.v (.int .i16 (IntKind.i16.wrap v)))] cg jC fun qC jD=>?_
 refine qaf (qaa ?_)
 refine qae [0,1,2,3] kz ?_
 refine qaj [0,1] [2,3] [(0,.p 3 0),(2,.v (.iface 46 (.pointer (some ⟨ac,0,none⟩)))),(9,.v (.int .i16 8)),(10,.v (.int .i16 (IntKind.i16.wrap v))),(25,.v (.slice bD ((([]:Bs) ++ [by8 0,by8 0,by8 0,by8 0] ++ be 2 8 ++ be 2 (IntKind.i16.wrap v)).length) bE)),(26,.v (.int .i32 num))] cg jD fun qD jE=>?_
 refine qam (qal jE (f:=133) (vs:=[.slice bD ((([]:Bs) ++ [by8 0,by8 0,by8 0,by8 0] ++ be 2 8 ++ be 2 (IntKind.i16.wrap v)).length) bE,.int .i32 num]) (d:=27) kz Tryz.call133 (qcx bD bE (([]:Bs) ++ [by8 0,by8 0,by8 0,by8 0] ++ be 2 8 ++ be 2 (IntKind.i16.wrap v)) num _ (cg.own 0 _ rfl) (by first | omega | (simp only [List.length_append,List.length_cons,List.length_nil,be_length,qbU]; omega) | (simp; omega))) ?_)
 rintro e_ qE ⟨aN,aO,rfl,jF,dy,dz⟩
 refine ⟨_,rfl,fun qF jG=>?_⟩
 have aV:WOk _ _ _ _ [brow aN aO 5 (([]:Bs) ++ [by8 0,by8 0,by8 0,by8 0] ++ be 2 8 ++ be 2 (IntKind.i16.wrap v) ++ be 4 num)]:=cg.grow (k:=0) rfl dy jF dz
 have cq:Fr _ (z2 b1 has txt ac v aa af ae) [brow bD bE 5 (([]:Bs) ++ [by8 0,by8 0,by8 0,by8 0] ++ be 2 8 ++ be 2 (IntKind.i16.wrap v))] _ (z2 b1 has txt ac v aa af ae) [brow aN aO 5 (([]:Bs) ++ [by8 0,by8 0,by8 0,by8 0] ++ be 2 8 ++ be 2 (IntKind.i16.wrap v) ++ be 4 num)]:=Fr.grow _ (k:=0) (r':=(brow aN aO 5 (([]:Bs) ++ [by8 0,by8 0,by8 0,by8 0] ++ be 2 8 ++ be 2 (IntKind.i16.wrap v) ++ be 4 num))) rfl dy dz
 refine qaj [3] [] [(0,.p 3 0),(1,.v (.slice aN ((([]:Bs) ++ [by8 0,by8 0,by8 0,by8 0] ++ be 2 8 ++ be 2 (IntKind.i16.wrap v) ++ be 4 num).length) aO)),(2,.v (.iface 46 (.pointer (some ⟨ac,0,none⟩)))),(9,.v (.int .i16 8)),(10,.v (.int .i16 (IntKind.i16.wrap v)))] aV jG fun qG jH=>?_
 refine qaf (qaa ?_)
 refine wp_seq (qas [(0,.p 3 0),(1,.v (.slice aN ((([]:Bs) ++ [by8 0,by8 0,by8 0,by8 0] ++ be 2 8 ++ be 2 (IntKind.i16.wrap v) ++ be 4 num).length) aO)),(2,.v (.iface 46 (.pointer (some ⟨ac,0,none⟩)))),(33,.v (.bool false))] aV jH fun qH dA=>?_)
 refine qau dA (b:=false) kz rfl ?_
 refine wp_skip (qaa (qae [0,1,2,3,4,5,6] kz ?_))
 refine qaj [0,1,2,3,4] [5,6] [(2,.v (.iface 46 (.pointer (some ⟨ac,0,none⟩)))),(35,.v (.slice aN ((([]:Bs) ++ [by8 0,by8 0,by8 0,by8 0] ++ be 2 8 ++ be 2 (IntKind.i16.wrap v) ++ be 4 num).length) aO)),(39,.v (.pointer none))] aV dA fun qI jI=>?_
 refine qam (qa5 jI (f:=134) (vs:=[.slice aN ((([]:Bs) ++ [by8 0,by8 0,by8 0,by8 0] ++ be 2 8 ++ be 2 (IntKind.i16.wrap v) ++ be 4 num).length) aO,.pointer none]) (d:=40) (n':=14) kz Tryz.call134 Tryz.func134 rfl Tryz.ntmps134 kz fun qJ jJ=>?_)
 refine qas [(0,.v (.slice aN ((([]:Bs) ++ [by8 0,by8 0,by8 0,by8 0] ++ be 2 8 ++ be 2 (IntKind.i16.wrap v) ++ be 4 num).length) aO)),(1,.v (.pointer none))] aV jJ fun qK jK=>?_
 refine wp_seq (qas [(0,.v (.slice aN ((([]:Bs) ++ [by8 0,by8 0,by8 0,by8 0] ++ be 2 8 ++ be 2 (IntKind.i16.wrap v) ++ be 4 num).length) aO)),(1,.v (.pointer none)),(6,.v (.bool true))] aV jK fun qL dB=>?_)
 refine qbF dB (b:=true) kz rfl ?_
 refine qae [0,1,2] kz ?_
 refine qaj [0] [1,2] [(7,.v (.slice aN ((([]:Bs) ++ [by8 0,by8 0,by8 0,by8 0] ++ be 2 8 ++ be 2 (IntKind.i16.wrap v) ++ be 4 num).length) aO))] aV dB fun qM jL=>?_
 refine qam (qal jL (f:=132) (vs:=[.slice aN ((([]:Bs) ++ [by8 0,by8 0,by8 0,by8 0] ++ be 2 8 ++ be 2 (IntKind.i16.wrap v) ++ be 4 num).length) aO,.int .i16 (-1)]) (d:=8) kz Tryz.call132 (qcg aN aO (([]:Bs) ++ [by8 0,by8 0,by8 0,by8 0] ++ be 2 8 ++ be 2 (IntKind.i16.wrap v) ++ be 4 num) (-1) _ (aV.own 0 _ rfl) (by first | omega | (simp only [List.length_append,List.length_cons,List.length_nil,be_length,qbU]; omega) | (simp; omega))) ?_)
 rintro e_ qN ⟨aB,aC,rfl,jM,dC,dD⟩
 refine ⟨_,rfl,fun qO jN=>?_⟩
 have az:WOk _ _ _ _ [brow aB aC 5 (([]:Bs) ++ [by8 0,by8 0,by8 0,by8 0] ++ be 2 8 ++ be 2 (IntKind.i16.wrap v) ++ be 4 num ++ be 2 (-1))]:=aV.grow (k:=0) rfl dC jM dD
 have cr:Fr _ (z2 b1 has txt ac v aa af ae) [brow aN aO 5 (([]:Bs) ++ [by8 0,by8 0,by8 0,by8 0] ++ be 2 8 ++ be 2 (IntKind.i16.wrap v) ++ be 4 num)] _ (z2 b1 has txt ac v aa af ae) [brow aB aC 5 (([]:Bs) ++ [by8 0,by8 0,by8 0,by8 0] ++ be 2 8 ++ be 2 (IntKind.i16.wrap v) ++ be 4 num ++ be 2 (-1))]:=Fr.grow _ (k:=0) (r':=(brow aB aC 5 (([]:Bs) ++ [by8 0,by8 0,by8 0,by8 0] ++ be 2 8 ++ be 2 (IntKind.i16.wrap v) ++ be 4 num ++ be 2 (-1)))) rfl dC dD
 refine qaj [2] [] [(4,.v (.slice aB ((([]:Bs) ++ [by8 0,by8 0,by8 0,by8 0] ++ be 2 8 ++ be 2 (IntKind.i16.wrap v) ++ be 4 num ++ be 2 (-1)).length) aC))] az jN fun qP jO=>?_
 refine qaf (qaa ?_)
 refine wp_ret (qaC (qaD jO az.cells (v:=.slice aB ((([]:Bs) ++ [by8 0,by8 0,by8 0,by8 0] ++ be 2 8 ++ be 2 (IntKind.i16.wrap v) ++ be 4 num ++ be 2 (-1)).length) aC) kz ?_))
 refine ⟨_,rfl,fun qQ jP=>?_⟩
 have jQ:=(EnvOk.places (tb':=[⟨b1,0,[.bool has,.string txt],true⟩,⟨ac,0,[.int .i16 (IntKind.i16.wrap v),.string ((aa.f 0).s),.int .i32 ((aa.f 1).n),.string ((aa.f 2).s),.pointer ((aa.f 3).A),.int .i64 ((aa.f 4).n),.slice ((aa.f 5).A) ((aa.f 5).l) ((aa.f 5).c),.map aa.m],true⟩,⟨af,0,[.bool has,.string txt],true⟩,⟨ae,0,[.pointer none],true⟩]) jP (show Pl [⟨b1,0,[.bool has,.string txt],true⟩,⟨ac,0,[.int .i16 (IntKind.i16.wrap v),.string ((aa.f 0).s),.int .i32 ((aa.f 1).n),.string ((aa.f 2).s),.pointer ((aa.f 3).A),.int .i64 ((aa.f 4).n),.slice ((aa.f 5).A) ((aa.f 5).l) ((aa.f 5).c),.map aa.m],true⟩,⟨af,0,[.bool has,.string txt],true⟩,⟨ae,0,[.pointer none],true⟩] [⟨b1,0,[.bool has,.string txt],true⟩,⟨ac,0,[.int .i16 (IntKind.i16.wrap v),.string ((aa.f 0).s),.int .i32 ((aa.f 1).n),.string ((aa.f 2).s),.pointer ((aa.f 3).A),.int .i64 ((aa.f 4).n),.slice ((aa.f 5).A) ((aa.f 5).l) ((aa.f 5).c),.map aa.m],true⟩,⟨af,0,[.bool has,.string txt],true⟩,⟨ae,0,[.pointer none],true⟩] from ⟨rfl,rfl,⟨rfl,rfl,⟨rfl,rfl,⟨rfl,rfl,trivial⟩⟩⟩⟩)).pk (env':=[(40,.v (.slice aB ((([]:Bs) ++ [by8 0,by8 0,by8 0,by8 0] ++ be 2 8 ++ be 2 (IntKind.i16.wrap v) ++ be 4 num ++ be 2 (-1)).length) aC)),(2,.v (.iface 46 (.pointer (some ⟨ac,0,none⟩)))),(35,.v (.slice aN ((([]:Bs) ++ [by8 0,by8 0,by8 0,by8 0] ++ be 2 8 ++ be 2 (IntKind.i16.wrap v) ++ be 4 num).length) aO)),(39,.v (.pointer none))])
 refine qaj [6] [] [(1,.v (.slice aB ((([]:Bs) ++ [by8 0,by8 0,by8 0,by8 0] ++ be 2 8 ++ be 2 (IntKind.i16.wrap v) ++ be 4 num ++ be 2 (-1)).length) aC)),(2,.v (.iface 46 (.pointer (some ⟨ac,0,none⟩))))] az jQ fun qR jR=>?_
 refine qaf (qaa ?_)
 refine wp_seq (qae [0,1] kz ?_)
 refine qaj [0] [1] [(1,.v (.slice aB ((([]:Bs) ++ [by8 0,by8 0,by8 0,by8 0] ++ be 2 8 ++ be 2 (IntKind.i16.wrap v) ++ be 4 num ++ be 2 (-1)).length) aC)),(2,.v (.iface 46 (.pointer (some ⟨ac,0,none⟩)))),(41,.v (.iface 46 (.pointer (some ⟨ac,0,none⟩))))] az jR fun qS jS=>?_
 refine qam (qcj jS (t := 46) (v := (.pointer (some ⟨ac, 0, none⟩))) (v' := (.pointer (some ⟨ac, 0, none⟩))) (name := "IsFlexible") (f := 178) (vs := []) (d := 42) (n' := 8) kz (fun _ => by kernel_rfl) Tryz.call178 Tryz.func178 rfl Tryz.ntmps178 kz fun qT jT => ?_)
 have jU:=jT.recast 0 (.v (.pointer (some ⟨ac,0,none⟩))) (.p 1 0) rfl rfl (Nat.le_of_ble_eq_true (n:=2) rfl)
 refine qas [(0,.p 1 0)] az jU fun qU jV=>?_
 refine qas [(2,.v (.bool (decide ((IntKind.i16.wrap v) ≥ 8))))] az jV fun qV jW=>?_
 refine wp_ret (qaD jW az.cells (v:=.bool (decide ((IntKind.i16.wrap v) ≥ 8))) kz ?_)
 refine ⟨_,rfl,fun qW jX=>?_⟩
 have cH:=(EnvOk.places (tb':=[⟨b1,0,[.bool has,.string txt],true⟩,⟨ac,0,[.int .i16 (IntKind.i16.wrap v),.string ((aa.f 0).s),.int .i32 ((aa.f 1).n),.string ((aa.f 2).s),.pointer ((aa.f 3).A),.int .i64 ((aa.f 4).n),.slice ((aa.f 5).A) ((aa.f 5).l) ((aa.f 5).c),.map aa.m],true⟩,⟨af,0,[.bool has,.string txt],true⟩,⟨ae,0,[.pointer none],true⟩]) jX (show Pl [⟨b1,0,[.bool has,.string txt],true⟩,⟨ac,0,[.int .i16 (IntKind.i16.wrap v),.string ((aa.f 0).s),.int .i32 ((aa.f 1).n),.string ((aa.f 2).s),.pointer ((aa.f 3).A),.int .i64 ((aa.f 4).n),.slice ((aa.f 5).A) ((aa.f 5).l) ((aa.f 5).c),.map aa.m],true⟩,⟨af,0,[.bool has,.string txt],true⟩,⟨ae,0,[.pointer none],true⟩] [⟨b1,0,[.bool has,.string txt],true⟩,⟨ac,0,[.int .i16 (IntKind.i16.wrap v),.string ((aa.f 0).s),.int .i32 ((aa.f 1).n),.string ((aa.f 2).s),.pointer ((aa.f 3).A),.int .i64 ((aa.f 4).n),.slice ((aa.f 5).A) ((aa.f 5).l) ((aa.f 5).c),.map aa.m],true⟩,⟨af,0,[.bool has,.string txt],true⟩,⟨ae,0,[.pointer none],true⟩] from ⟨rfl,rfl,⟨rfl,rfl,⟨rfl,rfl,⟨rfl,rfl,trivial⟩⟩⟩⟩)).pk (env':=[(42,.v (.bool (decide ((IntKind.i16.wrap v) ≥ 8)))),(1,.v (.slice aB ((([]:Bs) ++ [by8 0,by8 0,by8 0,by8 0] ++ be 2 8 ++ be 2 (IntKind.i16.wrap v) ++ be 4 num ++ be 2 (-1)).length) aC)),(2,.v (.iface 46 (.pointer (some ⟨ac,0,none⟩)))),(41,.v (.iface 46 (.pointer (some ⟨ac,0,none⟩))))])
 refine qaf (qaa ?_)
 refine qax cH (b:=decide ((IntKind.i16.wrap v) ≥ 8)) kz (fun bk=>?_) (fun bk=>?_)
 ·
  have mB:=of_decide_eq_true bk
  refine qas [(1,.v (.slice aB ((([]:Bs) ++ [by8 0,by8 0,by8 0,by8 0] ++ be 2 8 ++ be 2 (IntKind.i16.wrap v) ++ be 4 num ++ be 2 (-1)).length) aC)),(2,.v (.iface 46 (.pointer (some ⟨ac,0,none⟩)))),(11,.v (.int .u8 0))] az cH fun qX jY=>?_
  refine qae [0,1,2,3,4] kz ?_
  refine qaj [0,1] [2,3,4] [(2,.v (.iface 46 (.pointer (some ⟨ac,0,none⟩)))),(11,.v (.int .u8 0)),(43,.v (.slice aB ((([]:Bs) ++ [by8 0,by8 0,by8 0,by8 0] ++ be 2 8 ++ be 2 (IntKind.i16.wrap v) ++ be 4 num ++ be 2 (-1)).length) aC)),(44,.v (.int .u8 0))] az jY fun qY jZ=>?_
  refine qbu az jZ (k:=0) (e:=5) (size:=1) (len:=1) (cs:=[.int .u8 0]) (d1:=45) (d:=46) kz (t:=24) (bytes:=1) kz (fun _=>by kernel_rfl) rfl kz (by first | omega | (simp only [List.length_append,List.length_cons,List.length_nil,be_length,qbU]; omega) | (simp; omega)) fun bn bo qZ q0 dE j0 ⟨_,j1⟩=>?_
  have j2:(⟨bn,bo,5,1,(([]:Bs) ++ [by8 0,by8 0,by8 0,by8 0] ++ be 2 8 ++ be 2 (IntKind.i16.wrap v) ++ be 4 num ++ be 2 (-1)).length + 1,bc (([]:Bs) ++ [by8 0,by8 0,by8 0,by8 0] ++ be 2 8 ++ be 2 (IntKind.i16.wrap v) ++ be 4 num ++ be 2 (-1)) ++ [.int .u8 0]⟩:Rw) = brow bn bo 5 (([]:Bs) ++ [by8 0,by8 0,by8 0,by8 0] ++ be 2 8 ++ be 2 (IntKind.i16.wrap v) ++ be 4 num ++ be 2 (-1) ++ [by8 0]):=qa0 (by simp only [bc,List.map,qbC]; try rfl) rfl
  obtain ⟨bu,dF⟩:=j0.rowEq 0 [brow bn bo 5 (([]:Bs) ++ [by8 0,by8 0,by8 0,by8 0] ++ be 2 8 ++ be 2 (IntKind.i16.wrap v) ++ be 4 num ++ be 2 (-1) ++ [by8 0])] j2
  have j3:=EnvOk.pick j1 (ks:=[2,11,43,44,46]) (env':=[(2,.v (.iface 46 (.pointer (some ⟨ac,0,none⟩)))),(11,.v (.int .u8 0)),(43,.v (.slice aB ((([]:Bs) ++ [by8 0,by8 0,by8 0,by8 0] ++ be 2 8 ++ be 2 (IntKind.i16.wrap v) ++ be 4 num ++ be 2 (-1)).length) aC)),(44,.v (.int .u8 0)),(46,.v (.slice bn ((([]:Bs) ++ [by8 0,by8 0,by8 0,by8 0] ++ be 2 8 ++ be 2 (IntKind.i16.wrap v) ++ be 4 num ++ be 2 (-1)).length + 1) bo))]) kz
  have j4:=j3.cast (env':=[(2,.v (.iface 46 (.pointer (some ⟨ac,0,none⟩)))),(11,.v (.int .u8 0)),(43,.v (.slice aB ((([]:Bs) ++ [by8 0,by8 0,by8 0,by8 0] ++ be 2 8 ++ be 2 (IntKind.i16.wrap v) ++ be 4 num ++ be 2 (-1)).length) aC)),(44,.v (.int .u8 0)),(46,.v (.slice bn ((([]:Bs) ++ [by8 0,by8 0,by8 0,by8 0] ++ be 2 8 ++ be 2 (IntKind.i16.wrap v) ++ be 4 num ++ be 2 (-1) ++ [by8 0]).length) bo))]) (by simp only [List.length_append,List.length_cons,List.length_nil,Nat.zero_add])
  refine qaj [4] [] [(1,.v (.slice bn ((([]:Bs) ++ [by8 0,by8 0,by8 0,by8 0] ++ be 2 8 ++ be 2 (IntKind.i16.wrap v) ++ be 4 num ++ be 2 (-1) ++ [by8 0]).length) bo)),(2,.v (.iface 46 (.pointer (some ⟨ac,0,none⟩)))),(11,.v (.int .u8 0))] bu j4 fun q4 j5=>?_
  refine qaf (qaa ?_)
  refine qas [(1,.v (.slice bn ((([]:Bs) ++ [by8 0,by8 0,by8 0,by8 0] ++ be 2 8 ++ be 2 (IntKind.i16.wrap v) ++ be 4 num ++ be 2 (-1) ++ [by8 0]).length) bo)),(2,.v (.iface 46 (.pointer (some ⟨ac,0,none⟩)))),(48,.v (.bool false))] bu j5 fun q5 dG=>?_
  refine qau dG (b:=false) kz rfl ?_
  refine wp_skip (qaa (qae [0,1,2,3] kz ?_))
  refine qaj [0,1] [2,3] [(49,.v (.iface 46 (.pointer (some ⟨ac,0,none⟩)))),(50,.v (.slice bn ((([]:Bs) ++ [by8 0,by8 0,by8 0,by8 0] ++ be 2 8 ++ be 2 (IntKind.i16.wrap v) ++ be 4 num ++ be 2 (-1) ++ [by8 0]).length) bo))] bu dG fun q6 j6=>?_
  have j7:=(qa2 _ ((((((((((aP.trans aQ).trans bY).trans bZ).trans b8).trans ce).trans cm).trans cq).trans cr).trans dE).trans dF).step immM ((((((((((aP.trans aQ).trans bY).trans bZ).trans b8).trans ce).trans cm).trans cq).trans cr).trans dE).trans dF).to' bG)
  have dX:=bu.strImm (G:=F) 1 rfl
  have hk_:=qa2 _ (Step.refl _ Nil) nilM (fun b o h_ _=>qgD h_) j7
  refine qam (qc6 j6 (t := 46) (v := (.pointer (some ⟨ac, 0, none⟩))) (v' := (.pointer (some ⟨ac, 0, none⟩))) (name := "AppendTo") (f := 176) (vs := [.slice bn ((([] : Bs) ++ [by8 0, by8 0, by8 0, by8 0] ++ be 2 8 ++ be 2 (IntKind.i16.wrap v) ++ be 4 num ++ be 2 (-1) ++ [by8 0]).length) bo]) (d := 51) kz (fun _ => by kernel_rfl) Tryz.call176 (qbX (IntKind.i16.wrap v) aa ac 0 bn bo (([] : Bs) ++ [by8 0, by8 0, by8 0, by8 0] ++ be 2 8 ++ be 2 (IntKind.i16.wrap v) ++ be 4 num ++ be 2 (-1) ++ [by8 0]) _ _ dX hk_ (qgB 0 rfl) (bu.own 0 _ rfl) (by first | omega | (simp only [List.length_append, List.length_cons, List.length_nil, be_length, qbU]; omega) | (simp; omega))) ?_)
  rintro e_ q7 ⟨am,ao,rfl,j8,dH,dI⟩
  refine ⟨_,rfl,fun q8 j9=>?_⟩
  have dJ:WOk _ _ _ _ [brow am ao 5 ((([]:Bs) ++ [by8 0,by8 0,by8 0,by8 0] ++ be 2 8 ++ be 2 (IntKind.i16.wrap v) ++ be 4 num ++ be 2 (-1) ++ [by8 0]) ++ qab (IntKind.i16.wrap v) aa)]:=bu.grow (k:=0) rfl dH j8 dI
  have mC:=Fr.grow (z2 b1 has txt ac v aa af ae) (k:=0) (rs:=[brow bn bo 5 (([]:Bs) ++ [by8 0,by8 0,by8 0,by8 0] ++ be 2 8 ++ be 2 (IntKind.i16.wrap v) ++ be 4 num ++ be 2 (-1) ++ [by8 0])]) (r':=(brow am ao 5 ((([]:Bs) ++ [by8 0,by8 0,by8 0,by8 0] ++ be 2 8 ++ be 2 (IntKind.i16.wrap v) ++ be 4 num ++ be 2 (-1) ++ [by8 0]) ++ qab (IntKind.i16.wrap v) aa))) rfl dH dI
  refine qaj [3] [] [(1,.v (.slice am (((([]:Bs) ++ [by8 0,by8 0,by8 0,by8 0] ++ be 2 8 ++ be 2 (IntKind.i16.wrap v) ++ be 4 num ++ be 2 (-1) ++ [by8 0]) ++ qab (IntKind.i16.wrap v) aa).length) ao))] dJ j9 fun q9 ka=>?_
  refine qaf (qaa ?_)
  refine qbm 7 kz dJ fun ra mD cu bp=>?_
  refine qaY [0,2] [(1,.v (.slice am (((([]:Bs) ++ [by8 0,by8 0,by8 0,by8 0] ++ be 2 8 ++ be 2 (IntKind.i16.wrap v) ++ be 4 num ++ be 2 (-1) ++ [by8 0]) ++ qab (IntKind.i16.wrap v) aa).length) ao)),(52,.v (.slice am (((([]:Bs) ++ [by8 0,by8 0,by8 0,by8 0] ++ be 2 8 ++ be 2 (IntKind.i16.wrap v) ++ be 4 num ++ be 2 (-1) ++ [by8 0]) ++ qab (IntKind.i16.wrap v) aa).length) ao)),(54,.v (.slice am (((([]:Bs) ++ [by8 0,by8 0,by8 0,by8 0] ++ be 2 8 ++ be 2 (IntKind.i16.wrap v) ++ be 4 num ++ be 2 (-1) ++ [by8 0]) ++ qab (IntKind.i16.wrap v) aa).length) ao))] 5 (qad qah) (fun _ h=>h.cells) bp ka fun rb dK=>?_
  refine qe4 (i:=1) (j:=3) kz ?_ ?_
  ·
   refine (qbD dK (t:=24) (A:=am) (m:=((([]:Bs) ++ [by8 0,by8 0,by8 0,by8 0] ++ be 2 8 ++ be 2 (IntKind.i16.wrap v) ++ be 4 num ++ be 2 (-1) ++ [by8 0]) ++ qab (IntKind.i16.wrap v) aa).length) (cp:=ao) (q:=0) (d:=53) (j:=0) kz (e:=5) (size:=1) (bytes:=1) kz (rfl) (by omega) fun rc kd=>?_)
   refine ⟨fun _=>bp,?_⟩
   refine qaN (i:=3) kz (qby kd (t:=24) (A:=am) (m:=(((([]:Bs) ++ [by8 0,by8 0,by8 0,by8 0] ++ be 2 8 ++ be 2 (IntKind.i16.wrap v) ++ be 4 num ++ be 2 (-1) ++ [by8 0]) ++ qab (IntKind.i16.wrap v) aa).length)) (cp:=ao) (q:=4) (d:=55) (j:=4) kz (e:=5) (bytes:=1) kz (rfl) (by first | omega | (simp only [List.length_append,List.length_cons,List.length_nil]; omega)) fun re ke=>?_)
   refine ⟨fun _=>bp,?_⟩
   refine qaY [4,5] [(1,.v (.slice am (((([]:Bs) ++ [by8 0,by8 0,by8 0,by8 0] ++ be 2 8 ++ be 2 (IntKind.i16.wrap v) ++ be 4 num ++ be 2 (-1) ++ [by8 0]) ++ qab (IntKind.i16.wrap v) aa).length) ao)),(53,.v (.slice am 0 ao)),(57,.v (.int .i32 (IntKind.i32.wrap (((((([]:Bs) ++ [by8 0,by8 0,by8 0,by8 0] ++ be 2 8 ++ be 2 (IntKind.i16.wrap v) ++ be 4 num ++ be 2 (-1) ++ [by8 0]) ++ qab (IntKind.i16.wrap v) aa).length) - 4:Nat):Int))))] 1 (qad qah) (fun _ h=>h.cells) bp ke fun rf kf=>?_
   refine qaN (i:=6) kz (qal kf (f:=133) (vs:=[.slice am 0 ao,.int .i32 (IntKind.i32.wrap (((((([]:Bs) ++ [by8 0,by8 0,by8 0,by8 0] ++ be 2 8 ++ be 2 (IntKind.i16.wrap v) ++ be 4 num ++ be 2 (-1) ++ [by8 0]) ++ qab (IntKind.i16.wrap v) aa).length) - 4:Nat):Int))]) (d:=58) kz Tryz.call133 (qbJ (IntKind.i32.wrap (((((([]:Bs) ++ [by8 0,by8 0,by8 0,by8 0] ++ be 2 8 ++ be 2 (IntKind.i16.wrap v) ++ be 4 num ++ be 2 (-1) ++ [by8 0]) ++ qab (IntKind.i16.wrap v) aa).length) - 4:Nat):Int)) am ao ((([]:Bs) ++ [by8 0,by8 0,by8 0,by8 0] ++ be 2 8 ++ be 2 (IntKind.i16.wrap v) ++ be 4 num ++ be 2 (-1) ++ [by8 0]) ++ qab (IntKind.i16.wrap v) aa) _ (cu.own 0 _ rfl) (by simp only [List.length_append,List.length_cons,List.length_nil]; omega)) ?_)
   rintro e_ rg ⟨rfl,kg,dL⟩
   refine ⟨_,rfl,fun rh kh=>?_⟩
   have aW:WOk _ _ _ _ (z12 am ao v num aa):=cu.grow (k:=0) (r':=⟨am,ao,5,1,((([]:Bs) ++ [by8 0,by8 0,by8 0,by8 0] ++ be 2 8 ++ be 2 (IntKind.i16.wrap v) ++ be 4 num ++ be 2 (-1) ++ [by8 0]) ++ qab (IntKind.i16.wrap v) aa).length,bc (be 4 (IntKind.i32.wrap (((((([]:Bs) ++ [by8 0,by8 0,by8 0,by8 0] ++ be 2 8 ++ be 2 (IntKind.i16.wrap v) ++ be 4 num ++ be 2 (-1) ++ [by8 0]) ++ qab (IntKind.i16.wrap v) aa).length) - 4:Nat):Int)) ++ ((([]:Bs) ++ [by8 0,by8 0,by8 0,by8 0] ++ be 2 8 ++ be 2 (IntKind.i16.wrap v) ++ be 4 num ++ be 2 (-1) ++ [by8 0]) ++ qab (IntKind.i16.wrap v) aa).drop 4)⟩) rfl dL kg (fun g' hg'=>.inl hg')
   have ki:=Fr.grow (z2 b1 has txt ac v aa af ae) (k:=0) (rs:=[brow am ao 5 ((([]:Bs) ++ [by8 0,by8 0,by8 0,by8 0] ++ be 2 8 ++ be 2 (IntKind.i16.wrap v) ++ be 4 num ++ be 2 (-1) ++ [by8 0]) ++ qab (IntKind.i16.wrap v) aa)]) (r':=⟨am,ao,5,1,((([]:Bs) ++ [by8 0,by8 0,by8 0,by8 0] ++ be 2 8 ++ be 2 (IntKind.i16.wrap v) ++ be 4 num ++ be 2 (-1) ++ [by8 0]) ++ qab (IntKind.i16.wrap v) aa).length,bc (be 4 (IntKind.i32.wrap (((((([]:Bs) ++ [by8 0,by8 0,by8 0,by8 0] ++ be 2 8 ++ be 2 (IntKind.i16.wrap v) ++ be 4 num ++ be 2 (-1) ++ [by8 0]) ++ qab (IntKind.i16.wrap v) aa).length) - 4:Nat):Int)) ++ ((([]:Bs) ++ [by8 0,by8 0,by8 0,by8 0] ++ be 2 8 ++ be 2 (IntKind.i16.wrap v) ++ be 4 num ++ be 2 (-1) ++ [by8 0]) ++ qab (IntKind.i16.wrap v) aa).drop 4)⟩) rfl dL (fun g' hg'=>.inl hg')
   have kj:=TT.ofW ki aW
   refine ⟨fun _=>kj,?_⟩
   refine qaX kz ?_ _
   refine qaa (qas [(8,.v (.slice am (((([]:Bs) ++ [by8 0,by8 0,by8 0,by8 0] ++ be 2 8 ++ be 2 (IntKind.i16.wrap v) ++ be 4 num ++ be 2 (-1) ++ [by8 0]) ++ qab (IntKind.i16.wrap v) aa).length) ao))] aW kh fun ri km=>?_)
   refine wp_ret (qaD km aW.cells (v:=.slice am (((([]:Bs) ++ [by8 0,by8 0,by8 0,by8 0] ++ be 2 8 ++ be 2 (IntKind.i16.wrap v) ++ be 4 num ++ be 2 (-1) ++ [by8 0]) ++ qab (IntKind.i16.wrap v) aa).length) ao) kz ?_)
   refine ⟨_,rfl,fun rj ko=>?_⟩
   have kp:=(EnvOk.places (tb':=[⟨b1,0,[.bool has,.string txt],true⟩,⟨ac,0,[.int .i16 (IntKind.i16.wrap v),.string ((aa.f 0).s),.int .i32 ((aa.f 1).n),.string ((aa.f 2).s),.pointer ((aa.f 3).A),.int .i64 ((aa.f 4).n),.slice ((aa.f 5).A) ((aa.f 5).l) ((aa.f 5).c),.map aa.m],true⟩,⟨af,0,[.bool has,.string txt],true⟩,⟨ae,0,[.pointer none],true⟩]) ko (show Pl [⟨b1,0,[.bool has,.string txt],true⟩,⟨ac,0,[.int .i16 (IntKind.i16.wrap v),.string ((aa.f 0).s),.int .i32 ((aa.f 1).n),.string ((aa.f 2).s),.pointer ((aa.f 3).A),.int .i64 ((aa.f 4).n),.slice ((aa.f 5).A) ((aa.f 5).l) ((aa.f 5).c),.map aa.m],true⟩,⟨af,0,[.bool has,.string txt],true⟩,⟨ae,0,[.pointer none],true⟩] [⟨b1,0,[.bool has,.string txt],true⟩,⟨ac,0,[.int .i16 (IntKind.i16.wrap v),.string ((aa.f 0).s),.int .i32 ((aa.f 1).n),.string ((aa.f 2).s),.pointer ((aa.f 3).A),.int .i64 ((aa.f 4).n),.slice ((aa.f 5).A) ((aa.f 5).l) ((aa.f 5).c),.map aa.m],true⟩,⟨af,0,[.bool has,.string txt],true⟩,⟨ae,0,[.pointer none],true⟩] from ⟨rfl,rfl,⟨rfl,rfl,⟨rfl,rfl,⟨rfl,rfl,trivial⟩⟩⟩⟩)).pk (env':=[(19,.v (.slice am (((([]:Bs) ++ [by8 0,by8 0,by8 0,by8 0] ++ be 2 8 ++ be 2 (IntKind.i16.wrap v) ++ be 4 num ++ be 2 (-1) ++ [by8 0]) ++ qab (IntKind.i16.wrap v) aa).length) ao)),(16,.p 3 0),(17,.v (.iface 46 (.pointer (some ⟨ac,0,none⟩)))),(18,.v (.int .i32 num))])
   refine qaj [4] [] [(6,.v (.slice am (((([]:Bs) ++ [by8 0,by8 0,by8 0,by8 0] ++ be 2 8 ++ be 2 (IntKind.i16.wrap v) ++ be 4 num ++ be 2 (-1) ++ [by8 0]) ++ qab (IntKind.i16.wrap v) aa).length) ao))] aW kp fun rl kq=>?_
   refine qaf (qaa ?_)
   refine wp_ret (qaD kq aW.cells (v:=.slice am (((([]:Bs) ++ [by8 0,by8 0,by8 0,by8 0] ++ be 2 8 ++ be 2 (IntKind.i16.wrap v) ++ be 4 num ++ be 2 (-1) ++ [by8 0]) ++ qab (IntKind.i16.wrap v) aa).length) ao) kz ?_)
   refine ⟨_,rfl,fun rm ku=>?_⟩
   have kv:=(EnvOk.places (tb':=[⟨b1,0,[.bool has,.string txt],true⟩,⟨ac,0,[.int .i16 (IntKind.i16.wrap v),.string ((aa.f 0).s),.int .i32 ((aa.f 1).n),.string ((aa.f 2).s),.pointer ((aa.f 3).A),.int .i64 ((aa.f 4).n),.slice ((aa.f 5).A) ((aa.f 5).l) ((aa.f 5).c),.map aa.m],true⟩,⟨af,0,[.bool has,.string txt],true⟩,⟨ae,0,[.pointer none],true⟩]) ku (show Pl [⟨b1,0,[.bool has,.string txt],true⟩,⟨ac,0,[.int .i16 (IntKind.i16.wrap v),.string ((aa.f 0).s),.int .i32 ((aa.f 1).n),.string ((aa.f 2).s),.pointer ((aa.f 3).A),.int .i64 ((aa.f 4).n),.slice ((aa.f 5).A) ((aa.f 5).l) ((aa.f 5).c),.map aa.m],true⟩] [⟨b1,0,[.bool has,.string txt],true⟩,⟨ac,0,[.int .i16 (IntKind.i16.wrap v),.string ((aa.f 0).s),.int .i32 ((aa.f 1).n),.string ((aa.f 2).s),.pointer ((aa.f 3).A),.int .i64 ((aa.f 4).n),.slice ((aa.f 5).A) ((aa.f 5).l) ((aa.f 5).c),.map aa.m],true⟩,⟨af,0,[.bool has,.string txt],true⟩,⟨ae,0,[.pointer none],true⟩] from ⟨rfl,rfl,⟨rfl,rfl,trivial⟩⟩)).pk (env':=[(25,.v (.slice am (((([]:Bs) ++ [by8 0,by8 0,by8 0,by8 0] ++ be 2 8 ++ be 2 (IntKind.i16.wrap v) ++ be 4 num ++ be 2 (-1) ++ [by8 0]) ++ qab (IntKind.i16.wrap v) aa).length) ao)),(21,.v (.agg #[.bool has,.string txt])),(23,.v (.iface 46 (.pointer (some ⟨ac,0,none⟩)))),(24,.v (.int .i32 num))])
   refine qaj [5,6] [] [(8,.v (.slice am (((([]:Bs) ++ [by8 0,by8 0,by8 0,by8 0] ++ be 2 8 ++ be 2 (IntKind.i16.wrap v) ++ be 4 num ++ be 2 (-1) ++ [by8 0]) ++ qab (IntKind.i16.wrap v) aa).length) ao)),(9,.v (.bool true))] aW kv fun rn kw=>?_
   refine qaf (qaa ?_)
   refine wp_ret (qaD kw aW.cells (v:=.tuple #[.slice am (((([]:Bs) ++ [by8 0,by8 0,by8 0,by8 0] ++ be 2 8 ++ be 2 (IntKind.i16.wrap v) ++ be 4 num ++ be 2 (-1) ++ [by8 0]) ++ qab (IntKind.i16.wrap v) aa).length) ao,.bool true]) kz ?_)
   have kx:be 4 (IntKind.i32.wrap (((((([]:Bs) ++ [by8 0,by8 0,by8 0,by8 0] ++ be 2 8 ++ be 2 (IntKind.i16.wrap v) ++ be 4 num ++ be 2 (-1) ++ [by8 0]) ++ qab (IntKind.i16.wrap v) aa).length) - 4:Nat):Int)) ++ ((([]:Bs) ++ [by8 0,by8 0,by8 0,by8 0] ++ be 2 8 ++ be 2 (IntKind.i16.wrap v) ++ be 4 num ++ be 2 (-1) ++ [by8 0]) ++ qab (IntKind.i16.wrap v) aa).drop 4 = (qa6 8 (IntKind.i16.wrap v) num has (sb txt) (decide ((IntKind.i16.wrap v) ≥ 8)) (qab (IntKind.i16.wrap v) aa)):=qcN (R:=outB 8 (IntKind.i16.wrap v) num has (sb txt) (decide ((IntKind.i16.wrap v) ≥ 8)) (qab (IntKind.i16.wrap v) aa)) (by simp [outB,qer,qbU,aJ,bk])
   exact qcO aW (k:=0) rfl (kx.trans (by rw [ba])) (by simp only [List.length_append,List.length_cons,List.length_nil]; omega)
  refine (qby dK (t:=24) (A:=am) (m:=(((([]:Bs) ++ [by8 0,by8 0,by8 0,by8 0] ++ be 2 8 ++ be 2 (IntKind.i16.wrap v) ++ be 4 num ++ be 2 (-1) ++ [by8 0]) ++ qab (IntKind.i16.wrap v) aa).length)) (cp:=ao) (q:=4) (d:=55) (j:=4) kz (e:=5) (bytes:=1) kz (rfl) (by first | omega | (simp only [List.length_append,List.length_cons,List.length_nil]; omega)) fun ro ky=>?_)
  refine ⟨fun _=>bp,?_⟩
  refine qaY [4,5] [(1,.v (.slice am (((([]:Bs) ++ [by8 0,by8 0,by8 0,by8 0] ++ be 2 8 ++ be 2 (IntKind.i16.wrap v) ++ be 4 num ++ be 2 (-1) ++ [by8 0]) ++ qab (IntKind.i16.wrap v) aa).length) ao)),(52,.v (.slice am (((([]:Bs) ++ [by8 0,by8 0,by8 0,by8 0] ++ be 2 8 ++ be 2 (IntKind.i16.wrap v) ++ be 4 num ++ be 2 (-1) ++ [by8 0]) ++ qab (IntKind.i16.wrap v) aa).length) ao)),(57,.v (.int .i32 (IntKind.i32.wrap (((((([]:Bs) ++ [by8 0,by8 0,by8 0,by8 0] ++ be 2 8 ++ be 2 (IntKind.i16.wrap v) ++ be 4 num ++ be 2 (-1) ++ [by8 0]) ++ qab (IntKind.i16.wrap v) aa).length) - 4:Nat):Int))))] 2 (qad qah) (fun _ h=>h.cells) bp ky fun rp kA=>?_
  refine qaN (i:=1) kz (qbD kA (t:=24) (A:=am) (m:=((([]:Bs) ++ [by8 0,by8 0,by8 0,by8 0] ++ be 2 8 ++ be 2 (IntKind.i16.wrap v) ++ be 4 num ++ be 2 (-1) ++ [by8 0]) ++ qab (IntKind.i16.wrap v) aa).length) (cp:=ao) (q:=0) (d:=53) (j:=0) kz (e:=5) (size:=1) (bytes:=1) kz (rfl) (by omega) fun rq kB=>?_)
  refine ⟨fun _=>bp,?_⟩
  refine qaN (i:=6) kz (qal kB (f:=133) (vs:=[.slice am 0 ao,.int .i32 (IntKind.i32.wrap (((((([]:Bs) ++ [by8 0,by8 0,by8 0,by8 0] ++ be 2 8 ++ be 2 (IntKind.i16.wrap v) ++ be 4 num ++ be 2 (-1) ++ [by8 0]) ++ qab (IntKind.i16.wrap v) aa).length) - 4:Nat):Int))]) (d:=58) kz Tryz.call133 (qbJ (IntKind.i32.wrap (((((([]:Bs) ++ [by8 0,by8 0,by8 0,by8 0] ++ be 2 8 ++ be 2 (IntKind.i16.wrap v) ++ be 4 num ++ be 2 (-1) ++ [by8 0]) ++ qab (IntKind.i16.wrap v) aa).length) - 4:Nat):Int)) am ao ((([]:Bs) ++ [by8 0,by8 0,by8 0,by8 0] ++ be 2 8 ++ be 2 (IntKind.i16.wrap v) ++ be 4 num ++ be 2 (-1) ++ [by8 0]) ++ qab (IntKind.i16.wrap v) aa) _ (cu.own 0 _ rfl) (by simp only [List.length_append,List.length_cons,List.length_nil]; omega)) ?_)
  rintro e_ rt ⟨rfl,kC,dM⟩
  refine ⟨_,rfl,fun ru kD=>?_⟩
  have aX:WOk _ _ _ _ (z12 am ao v num aa):=cu.grow (k:=0) (r':=⟨am,ao,5,1,((([]:Bs) ++ [by8 0,by8 0,by8 0,by8 0] ++ be 2 8 ++ be 2 (IntKind.i16.wrap v) ++ be 4 num ++ be 2 (-1) ++ [by8 0]) ++ qab (IntKind.i16.wrap v) aa).length,bc (be 4 (IntKind.i32.wrap (((((([]:Bs) ++ [by8 0,by8 0,by8 0,by8 0] ++ be 2 8 ++ be 2 (IntKind.i16.wrap v) ++ be 4 num ++ be 2 (-1) ++ [by8 0]) ++ qab (IntKind.i16.wrap v) aa).length) - 4:Nat):Int)) ++ ((([]:Bs) ++ [by8 0,by8 0,by8 0,by8 0] ++ be 2 8 ++ be 2 (IntKind.i16.wrap v) ++ be 4 num ++ be 2 (-1) ++ [by8 0]) ++ qab (IntKind.i16.wrap v) aa).drop 4)⟩) rfl dM kC (fun g' hg'=>.inl hg')
  have kE:=Fr.grow (z2 b1 has txt ac v aa af ae) (k:=0) (rs:=[brow am ao 5 ((([]:Bs) ++ [by8 0,by8 0,by8 0,by8 0] ++ be 2 8 ++ be 2 (IntKind.i16.wrap v) ++ be 4 num ++ be 2 (-1) ++ [by8 0]) ++ qab (IntKind.i16.wrap v) aa)]) (r':=⟨am,ao,5,1,((([]:Bs) ++ [by8 0,by8 0,by8 0,by8 0] ++ be 2 8 ++ be 2 (IntKind.i16.wrap v) ++ be 4 num ++ be 2 (-1) ++ [by8 0]) ++ qab (IntKind.i16.wrap v) aa).length,bc (be 4 (IntKind.i32.wrap (((((([]:Bs) ++ [by8 0,by8 0,by8 0,by8 0] ++ be 2 8 ++ be 2 (IntKind.i16.wrap v) ++ be 4 num ++ be 2 (-1) ++ [by8 0]) ++ qab (IntKind.i16.wrap v) aa).length) - 4:Nat):Int)) ++ ((([]:Bs) ++ [by8 0,by8 0,by8 0,by8 0] ++ be 2 8 ++ be 2 (IntKind.i16.wrap v) ++ be 4 num ++ be 2 (-1) ++ [by8 0]) ++ qab (IntKind.i16.wrap v) aa).drop 4)⟩) rfl dM (fun g' hg'=>.inl hg')
  have kF:=TT.ofW kE aX
  refine ⟨fun _=>kF,?_⟩
  refine qaX kz ?_ _
  refine qaa (qas [(8,.v (.slice am (((([]:Bs) ++ [by8 0,by8 0,by8 0,by8 0] ++ be 2 8 ++ be 2 (IntKind.i16.wrap v) ++ be 4 num ++ be 2 (-1) ++ [by8 0]) ++ qab (IntKind.i16.wrap v) aa).length) ao))] aX kD fun rv kG=>?_)
  refine wp_ret (qaD kG aX.cells (v:=.slice am (((([]:Bs) ++ [by8 0,by8 0,by8 0,by8 0] ++ be 2 8 ++ be 2 (IntKind.i16.wrap v) ++ be 4 num ++ be 2 (-1) ++ [by8 0]) ++ qab (IntKind.i16.wrap v) aa).length) ao) kz ?_)
  refine ⟨_,rfl,fun rx kH=>?_⟩
  have kI:=(EnvOk.places (tb':=[⟨b1,0,[.bool has,.string txt],true⟩,⟨ac,0,[.int .i16 (IntKind.i16.wrap v),.string ((aa.f 0).s),.int .i32 ((aa.f 1).n),.string ((aa.f 2).s),.pointer ((aa.f 3).A),.int .i64 ((aa.f 4).n),.slice ((aa.f 5).A) ((aa.f 5).l) ((aa.f 5).c),.map aa.m],true⟩,⟨af,0,[.bool has,.string txt],true⟩,⟨ae,0,[.pointer none],true⟩]) kH (show Pl [⟨b1,0,[.bool has,.string txt],true⟩,⟨ac,0,[.int .i16 (IntKind.i16.wrap v),.string ((aa.f 0).s),.int .i32 ((aa.f 1).n),.string ((aa.f 2).s),.pointer ((aa.f 3).A),.int .i64 ((aa.f 4).n),.slice ((aa.f 5).A) ((aa.f 5).l) ((aa.f 5).c),.map aa.m],true⟩,⟨af,0,[.bool has,.string txt],true⟩,⟨ae,0,[.pointer none],true⟩] [⟨b1,0,[.bool has,.string txt],true⟩,⟨ac,0,[.int .i16 (IntKind.i16.wrap v),.string ((aa.f 0).s),.int .i32 ((aa.f 1).n),.string ((aa.f 2).s),.pointer ((aa.f 3).A),.int .i64 ((aa.f 4).n),.slice ((aa.f 5).A) ((aa.f 5).l) ((aa.f 5).c),.map aa.m],true⟩,⟨af,0,[.bool has,.string txt],true⟩,⟨ae,0,[.pointer none],true⟩] from ⟨rfl,rfl,⟨rfl,rfl,⟨rfl,rfl,⟨rfl,rfl,trivial⟩⟩⟩⟩)).pk (env':=[(19,.v (.slice am (((([]:Bs) ++ [by8 0,by8 0,by8 0,by8 0] ++ be 2 8 ++ be 2 (IntKind.i16.wrap v) ++ be 4 num ++ be 2 (-1) ++ [by8 0]) ++ qab (IntKind.i16.wrap v) aa).length) ao)),(16,.p 3 0),(17,.v (.iface 46 (.pointer (some ⟨ac,0,none⟩)))),(18,.v (.int .i32 num))])
  refine qaj [4] [] [(6,.v (.slice am (((([]:Bs) ++ [by8 0,by8 0,by8 0,by8 0] ++ be 2 8 ++ be 2 (IntKind.i16.wrap v) ++ be 4 num ++ be 2 (-1) ++ [by8 0]) ++ qab (IntKind.i16.wrap v) aa).length) ao))] aX kI fun ry kJ=>?_
  refine qaf (qaa ?_)
  refine wp_ret (qaD kJ aX.cells (v:=.slice am (((([]:Bs) ++ [by8 0,by8 0,by8 0,by8 0] ++ be 2 8 ++ be 2 (IntKind.i16.wrap v) ++ be 4 num ++ be 2 (-1) ++ [by8 0]) ++ qab (IntKind.i16.wrap v) aa).length) ao) kz ?_)
  refine ⟨_,rfl,fun rz kK=>?_⟩
  have kL:=(EnvOk.places (tb':=[⟨b1,0,[.bool has,.string txt],true⟩,⟨ac,0,[.int .i16 (IntKind.i16.wrap v),.string ((aa.f 0).s),.int .i32 ((aa.f 1).n),.string ((aa.f 2).s),.pointer ((aa.f 3).A),.int .i64 ((aa.f 4).n),.slice ((aa.f 5).A) ((aa.f 5).l) ((aa.f 5).c),.map aa.m],true⟩,⟨af,0,[.bool has,.string txt],true⟩,⟨ae,0,[.pointer none],true⟩]) kK (show Pl [⟨b1,0,[.bool has,.string txt],true⟩,⟨ac,0,[.int .i16 (IntKind.i16.wrap v),.string ((aa.f 0).s),.int .i32 ((aa.f 1).n),.string ((aa.f 2).s),.pointer ((aa.f 3).A),.int .i64 ((aa.f 4).n),.slice ((aa.f 5).A) ((aa.f 5).l) ((aa.f 5).c),.map aa.m],true⟩] [⟨b1,0,[.bool has,.string txt],true⟩,⟨ac,0,[.int .i16 (IntKind.i16.wrap v),.string ((aa.f 0).s),.int .i32 ((aa.f 1).n),.string ((aa.f 2).s),.pointer ((aa.f 3).A),.int .i64 ((aa.f 4).n),.slice ((aa.f 5).A) ((aa.f 5).l) ((aa.f 5).c),.map aa.m],true⟩,⟨af,0,[.bool has,.string txt],true⟩,⟨ae,0,[.pointer none],true⟩] from ⟨rfl,rfl,⟨rfl,rfl,trivial⟩⟩)).pk (env':=[(25,.v (.slice am (((([]:Bs) ++ [by8 0,by8 0,by8 0,by8 0] ++ be 2 8 ++ be 2 (IntKind.i16.wrap v) ++ be 4 num ++ be 2 (-1) ++ [by8 0]) ++ qab (IntKind.i16.wrap v) aa).length) ao)),(21,.v (.agg #[.bool has,.string txt])),(23,.v (.iface 46 (.pointer (some ⟨ac,0,none⟩)))),(24,.v (.int .i32 num))])
  refine qaj [5,6] [] [(8,.v (.slice am (((([]:Bs) ++ [by8 0,by8 0,by8 0,by8 0] ++ be 2 8 ++ be 2 (IntKind.i16.wrap v) ++ be 4 num ++ be 2 (-1) ++ [by8 0]) ++ qab (IntKind.i16.wrap v) aa).length) ao)),(9,.v (.bool true))] aX kL fun rA kM=>?_
  refine qaf (qaa ?_)
  refine wp_ret (qaD kM aX.cells (v:=.tuple #[.slice am (((([]:Bs) ++ [by8 0,by8 0,by8 0,by8 0] ++ be 2 8 ++ be 2 (IntKind.i16.wrap v) ++ be 4 num ++ be 2 (-1) ++ [by8 0]) ++ qab (IntKind.i16.wrap v) aa).length) ao,.bool true]) kz ?_)
  have kN:be 4 (IntKind.i32.wrap (((((([]:Bs) ++ [by8 0,by8 0,by8 0,by8 0] ++ be 2 8 ++ be 2 (IntKind.i16.wrap v) ++ be 4 num ++ be 2 (-1) ++ [by8 0]) ++ qab (IntKind.i16.wrap v) aa).length) - 4:Nat):Int)) ++ ((([]:Bs) ++ [by8 0,by8 0,by8 0,by8 0] ++ be 2 8 ++ be 2 (IntKind.i16.wrap v) ++ be 4 num ++ be 2 (-1) ++ [by8 0]) ++ qab (IntKind.i16.wrap v) aa).drop 4 = (qa6 8 (IntKind.i16.wrap v) num has (sb txt) (decide ((IntKind.i16.wrap v) ≥ 8)) (qab (IntKind.i16.wrap v) aa)):=qcN (R:=outB 8 (IntKind.i16.wrap v) num has (sb txt) (decide ((IntKind.i16.wrap v) ≥ 8)) (qab (IntKind.i16.wrap v) aa)) (by simp [outB,qer,qbU,aJ,bk])
  exact qcO aX (k:=0) rfl (kN.trans (by rw [ba])) (by simp only [List.length_append,List.length_cons,List.length_nil]; omega)
 have mF:=of_decide_eq_false bk
 refine wp_skip (qaa (qae [0,1,2,3] kz ?_))
 refine qaj [0,1] [2,3] [(49,.v (.iface 46 (.pointer (some ⟨ac,0,none⟩)))),(50,.v (.slice aB ((([]:Bs) ++ [by8 0,by8 0,by8 0,by8 0] ++ be 2 8 ++ be 2 (IntKind.i16.wrap v) ++ be 4 num ++ be 2 (-1)).length) aC))] az cH fun rB kO=>?_
 have kP:=(qa2 _ ((((((((aP.trans aQ).trans bY).trans bZ).trans b8).trans ce).trans cm).trans cq).trans cr).step immM ((((((((aP.trans aQ).trans bY).trans bZ).trans b8).trans ce).trans cm).trans cq).trans cr).to' bG)
 have dY:=az.strImm (G:=F) 1 rfl
 have hk_:=qa2 _ (Step.refl _ Nil) nilM (fun b o h_ _=>qgD h_) kP
 refine qam (qc6 kO (t := 46) (v := (.pointer (some ⟨ac, 0, none⟩))) (v' := (.pointer (some ⟨ac, 0, none⟩))) (name := "AppendTo") (f := 176) (vs := [.slice aB ((([] : Bs) ++ [by8 0, by8 0, by8 0, by8 0] ++ be 2 8 ++ be 2 (IntKind.i16.wrap v) ++ be 4 num ++ be 2 (-1)).length) aC]) (d := 51) kz (fun _ => by kernel_rfl) Tryz.call176 (qbX (IntKind.i16.wrap v) aa ac 0 aB aC (([] : Bs) ++ [by8 0, by8 0, by8 0, by8 0] ++ be 2 8 ++ be 2 (IntKind.i16.wrap v) ++ be 4 num ++ be 2 (-1)) _ _ dY hk_ (qgB 0 rfl) (az.own 0 _ rfl) (by first | omega | (simp only [List.length_append, List.length_cons, List.length_nil, be_length, qbU]; omega) | (simp; omega))) ?_)
 rintro e_ rC ⟨ap,ar,rfl,kQ,dN,dO⟩
 refine ⟨_,rfl,fun rD kR=>?_⟩
 have dP:WOk _ _ _ _ [brow ap ar 5 ((([]:Bs) ++ [by8 0,by8 0,by8 0,by8 0] ++ be 2 8 ++ be 2 (IntKind.i16.wrap v) ++ be 4 num ++ be 2 (-1)) ++ qab (IntKind.i16.wrap v) aa)]:=az.grow (k:=0) rfl dN kQ dO
 have mG:=Fr.grow (z2 b1 has txt ac v aa af ae) (k:=0) (rs:=[brow aB aC 5 (([]:Bs) ++ [by8 0,by8 0,by8 0,by8 0] ++ be 2 8 ++ be 2 (IntKind.i16.wrap v) ++ be 4 num ++ be 2 (-1))]) (r':=(brow ap ar 5 ((([]:Bs) ++ [by8 0,by8 0,by8 0,by8 0] ++ be 2 8 ++ be 2 (IntKind.i16.wrap v) ++ be 4 num ++ be 2 (-1)) ++ qab (IntKind.i16.wrap v) aa))) rfl dN dO
 refine qaj [3] [] [(1,.v (.slice ap (((([]:Bs) ++ [by8 0,by8 0,by8 0,by8 0] ++ be 2 8 ++ be 2 (IntKind.i16.wrap v) ++ be 4 num ++ be 2 (-1)) ++ qab (IntKind.i16.wrap v) aa).length) ar))] dP kR fun rE kS=>?_
 refine qaf (qaa ?_)
 refine qbm 7 kz dP fun rF mH cv bq=>?_
 refine qaY [0,2] [(1,.v (.slice ap (((([]:Bs) ++ [by8 0,by8 0,by8 0,by8 0] ++ be 2 8 ++ be 2 (IntKind.i16.wrap v) ++ be 4 num ++ be 2 (-1)) ++ qab (IntKind.i16.wrap v) aa).length) ar)),(52,.v (.slice ap (((([]:Bs) ++ [by8 0,by8 0,by8 0,by8 0] ++ be 2 8 ++ be 2 (IntKind.i16.wrap v) ++ be 4 num ++ be 2 (-1)) ++ qab (IntKind.i16.wrap v) aa).length) ar)),(54,.v (.slice ap (((([]:Bs) ++ [by8 0,by8 0,by8 0,by8 0] ++ be 2 8 ++ be 2 (IntKind.i16.wrap v) ++ be 4 num ++ be 2 (-1)) ++ qab (IntKind.i16.wrap v) aa).length) ar))] 5 (qad qah) (fun _ h=>h.cells) bq kS fun rG dQ=>?_
 refine qe4 (i:=1) (j:=3) kz ?_ ?_
 ·
  refine (qbD dQ (t:=24) (A:=ap) (m:=((([]:Bs) ++ [by8 0,by8 0,by8 0,by8 0] ++ be 2 8 ++ be 2 (IntKind.i16.wrap v) ++ be 4 num ++ be 2 (-1)) ++ qab (IntKind.i16.wrap v) aa).length) (cp:=ar) (q:=0) (d:=53) (j:=0) kz (e:=5) (size:=1) (bytes:=1) kz (rfl) (by omega) fun rH kT=>?_)
  refine ⟨fun _=>bq,?_⟩
  refine qaN (i:=3) kz (qby kT (t:=24) (A:=ap) (m:=(((([]:Bs) ++ [by8 0,by8 0,by8 0,by8 0] ++ be 2 8 ++ be 2 (IntKind.i16.wrap v) ++ be 4 num ++ be 2 (-1)) ++ qab (IntKind.i16.wrap v) aa).length)) (cp:=ar) (q:=4) (d:=55) (j:=4) kz (e:=5) (bytes:=1) kz (rfl) (by first | omega | (simp only [List.length_append,List.length_cons,List.length_nil]; omega)) fun rI kU=>?_)
  refine ⟨fun _=>bq,?_⟩
  refine qaY [4,5] [(1,.v (.slice ap (((([]:Bs) ++ [by8 0,by8 0,by8 0,by8 0] ++ be 2 8 ++ be 2 (IntKind.i16.wrap v) ++ be 4 num ++ be 2 (-1)) ++ qab (IntKind.i16.wrap v) aa).length) ar)),(53,.v (.slice ap 0 ar)),(57,.v (.int .i32 (IntKind.i32.wrap (((((([]:Bs) ++ [by8 0,by8 0,by8 0,by8 0] ++ be 2 8 ++ be 2 (IntKind.i16.wrap v) ++ be 4 num ++ be 2 (-1)) ++ qab (IntKind.i16.wrap v) aa).length) - 4:Nat):Int))))] 1 (qad qah) (fun _ h=>h.cells) bq kU fun rJ kV=>?_
  refine qaN (i:=6) kz (qal kV (f:=133) (vs:=[.slice ap 0 ar,.int .i32 (IntKind.i32.wrap (((((([]:Bs) ++ [by8 0,by8 0,by8 0,by8 0] ++ be 2 8 ++ be 2 (IntKind.i16.wrap v) ++ be 4 num ++ be 2 (-1)) ++ qab (IntKind.i16.wrap v) aa).length) - 4:Nat):Int))]) (d:=58) kz Tryz.call133 (qbJ (IntKind.i32.wrap (((((([]:Bs) ++ [by8 0,by8 0,by8 0,by8 0] ++ be 2 8 ++ be 2 (IntKind.i16.wrap v) ++ be 4 num ++ be 2 (-1)) ++ qab (IntKind.i16.wrap v) aa).length) - 4:Nat):Int)) ap ar ((([]:Bs) ++ [by8 0,by8 0,by8 0,by8 0] ++ be 2 8 ++ be 2 (IntKind.i16.wrap v) ++ be 4 num ++ be 2 (-1)) ++ qab (IntKind.i16.wrap v) aa) _ (cv.own 0 _ rfl) (by simp only [List.length_append,List.length_cons,List.length_nil]; omega)) ?_)
  rintro e_ rK ⟨rfl,kW,dR⟩
  refine ⟨_,rfl,fun rL kX=>?_⟩
  have aY:WOk _ _ _ _ (z15 ap ar v num aa):=cv.grow (k:=0) (r':=⟨ap,ar,5,1,((([]:Bs) ++ [by8 0,by8 0,by8 0,by8 0] ++ be 2 8 ++ be 2 (IntKind.i16.wrap v) ++ be 4 num ++ be 2 (-1)) ++ qab (IntKind.i16.wrap v) aa).length,bc (be 4 (IntKind.i32.wrap (((((([]:Bs) ++ [by8 0,by8 0,by8 0,by8 0] ++ be 2 8 ++ be 2 (IntKind.i16.wrap v) ++ be 4 num ++ be 2 (-1)) ++ qab (IntKind.i16.wrap v) aa).length) - 4:Nat):Int)) ++ ((([]:Bs) ++ [by8 0,by8 0,by8 0,by8 0] ++ be 2 8 ++ be 2 (IntKind.i16.wrap v) ++ be 4 num ++ be 2 (-1)) ++ qab (IntKind.i16.wrap v) aa).drop 4)⟩) rfl dR kW (fun g' hg'=>.inl hg')
  have kY:=Fr.grow (z2 b1 has txt ac v aa af ae) (k:=0) (rs:=[brow ap ar 5 ((([]:Bs) ++ [by8 0,by8 0,by8 0,by8 0] ++ be 2 8 ++ be 2 (IntKind.i16.wrap v) ++ be 4 num ++ be 2 (-1)) ++ qab (IntKind.i16.wrap v) aa)]) (r':=⟨ap,ar,5,1,((([]:Bs) ++ [by8 0,by8 0,by8 0,by8 0] ++ be 2 8 ++ be 2 (IntKind.i16.wrap v) ++ be 4 num ++ be 2 (-1)) ++ qab (IntKind.i16.wrap v) aa).length,bc (be 4 (IntKind.i32.wrap (((((([]:Bs) ++ [by8 0,by8 0,by8 0,by8 0] ++ be 2 8 ++ be 2 (IntKind.i16.wrap v) ++ be 4 num ++ be 2 (-1)) ++ qab (IntKind.i16.wrap v) aa).length) - 4:Nat):Int)) ++ ((([]:Bs) ++ [by8 0,by8 0,by8 0,by8 0] ++ be 2 8 ++ be 2 (IntKind.i16.wrap v) ++ be 4 num ++ be 2 (-1)) ++ qab (IntKind.i16.wrap v) aa).drop 4)⟩) rfl dR (fun g' hg'=>.inl hg')
  have kZ:=TT.ofW kY aY
  refine ⟨fun _=>kZ,?_⟩
  refine qaX kz ?_ _
  refine qaa (qas [(8,.v (.slice ap (((([]:Bs) ++ [by8 0,by8 0,by8 0,by8 0] ++ be 2 8 ++ be 2 (IntKind.i16.wrap v) ++ be 4 num ++ be 2 (-1)) ++ qab (IntKind.i16.wrap v) aa).length) ar))] aY kX fun rM k5=>?_)
  refine wp_ret (qaD k5 aY.cells (v:=.slice ap (((([]:Bs) ++ [by8 0,by8 0,by8 0,by8 0] ++ be 2 8 ++ be 2 (IntKind.i16.wrap v) ++ be 4 num ++ be 2 (-1)) ++ qab (IntKind.i16.wrap v) aa).length) ar) kz ?_)
  refine ⟨_,rfl,fun rN k6=>?_⟩
  have k7:=(EnvOk.places (tb':=[⟨b1,0,[.bool has,.string txt],true⟩,⟨ac,0,[.int .i16 (IntKind.i16.wrap v),.string ((aa.f 0).s),.int .i32 ((aa.f 1).n),.string ((aa.f 2).s),.pointer ((aa.f 3).A),.int .i64 ((aa.f 4).n),.slice ((aa.f 5).A) ((aa.f 5).l) ((aa.f 5).c),.map aa.m],true⟩,⟨af,0,[.bool has,.string txt],true⟩,⟨ae,0,[.pointer none],true⟩]) k6 (show Pl [⟨b1,0,[.bool has,.string txt],true⟩,⟨ac,0,[.int .i16 (IntKind.i16.wrap v),.string ((aa.f 0).s),.int .i32 ((aa.f 1).n),.string ((aa.f 2).s),.pointer ((aa.f 3).A),.int .i64 ((aa.f 4).n),.slice ((aa.f 5).A) ((aa.f 5).l) ((aa.f 5).c),.map aa.m],true⟩,⟨af,0,[.bool has,.string txt],true⟩,⟨ae,0,[.pointer none],true⟩] [⟨b1,0,[.bool has,.string txt],true⟩,⟨ac,0,[.int .i16 (IntKind.i16.wrap v),.string ((aa.f 0).s),.int .i32 ((aa.f 1).n),.string ((aa.f 2).s),.pointer ((aa.f 3).A),.int .i64 ((aa.f 4).n),.slice ((aa.f 5).A) ((aa.f 5).l) ((aa.f 5).c),.map aa.m],true⟩,⟨af,0,[.bool has,.string txt],true⟩,⟨ae,0,[.pointer none],true⟩] from ⟨rfl,rfl,⟨rfl,rfl,⟨rfl,rfl,⟨rfl,rfl,trivial⟩⟩⟩⟩)).pk (env':=[(19,.v (.slice ap (((([]:Bs) ++ [by8 0,by8 0,by8 0,by8 0] ++ be 2 8 ++ be 2 (IntKind.i16.wrap v) ++ be 4 num ++ be 2 (-1)) ++ qab (IntKind.i16.wrap v) aa).length) ar)),(16,.p 3 0),(17,.v (.iface 46 (.pointer (some ⟨ac,0,none⟩)))),(18,.v (.int .i32 num))])
  refine qaj [4] [] [(6,.v (.slice ap (((([]:Bs) ++ [by8 0,by8 0,by8 0,by8 0] ++ be 2 8 ++ be 2 (IntKind.i16.wrap v) ++ be 4 num ++ be 2 (-1)) ++ qab (IntKind.i16.wrap v) aa).length) ar))] aY k7 fun rO k8=>?_
  refine qaf (qaa ?_)
  refine wp_ret (qaD k8 aY.cells (v:=.slice ap (((([]:Bs) ++ [by8 0,by8 0,by8 0,by8 0] ++ be 2 8 ++ be 2 (IntKind.i16.wrap v) ++ be 4 num ++ be 2 (-1)) ++ qab (IntKind.i16.wrap v) aa).length) ar) kz ?_)
  refine ⟨_,rfl,fun rP k9=>?_⟩
  have la:=(EnvOk.places (tb':=[⟨b1,0,[.bool has,.string txt],true⟩,⟨ac,0,[.int .i16 (IntKind.i16.wrap v),.string ((aa.f 0).s),.int .i32 ((aa.f 1).n),.string ((aa.f 2).s),.pointer ((aa.f 3).A),.int .i64 ((aa.f 4).n),.slice ((aa.f 5).A) ((aa.f 5).l) ((aa.f 5).c),.map aa.m],true⟩,⟨af,0,[.bool has,.string txt],true⟩,⟨ae,0,[.pointer none],true⟩]) k9 (show Pl [⟨b1,0,[.bool has,.string txt],true⟩,⟨ac,0,[.int .i16 (IntKind.i16.wrap v),.string ((aa.f 0).s),.int .i32 ((aa.f 1).n),.string ((aa.f 2).s),.pointer ((aa.f 3).A),.int .i64 ((aa.f 4).n),.slice ((aa.f 5).A) ((aa.f 5).l) ((aa.f 5).c),.map aa.m],true⟩] [⟨b1,0,[.bool has,.string txt],true⟩,⟨ac,0,[.int .i16 (IntKind.i16.wrap v),.string ((aa.f 0).s),.int .i32 ((aa.f 1).n),.string ((aa.f 2).s),.pointer ((aa.f 3).A),.int .i64 ((aa.f 4).n),.slice ((aa.f 5).A) ((aa.f 5).l) ((aa.f 5).c),.map aa.m],true⟩,⟨af,0,[.bool has,.string txt],true⟩,⟨ae,0,[.pointer none],true⟩] from ⟨rfl,rfl,⟨rfl,rfl,trivial⟩⟩)).pk (env':=[(25,.v (.slice ap (((([]:Bs) ++ [by8 0,by8 0,by8 0,by8 0] ++ be 2 8 ++ be 2 (IntKind.i16.wrap v) ++ be 4 num ++ be 2 (-1)) ++ qab (IntKind.i16.wrap v) aa).length) ar)),(21,.v (.agg #[.bool has,.string txt])),(23,.v (.iface 46 (.pointer (some ⟨ac,0,none⟩)))),(24,.v (.int .i32 num))])
  refine qaj [5,6] [] [(8,.v (.slice ap (((([]:Bs) ++ [by8 0,by8 0,by8 0,by8 0] ++ be 2 8 ++ be 2 (IntKind.i16.wrap v) ++ be 4 num ++ be 2 (-1)) ++ qab (IntKind.i16.wrap v) aa).length) ar)),(9,.v (.bool true))] aY la fun rQ lb=>?_
  refine qaf (qaa ?_)
  refine wp_ret (qaD lb aY.cells (v:=.tuple #[.slice ap (((([]:Bs) ++ [by8 0,by8 0,by8 0,by8 0] ++ be 2 8 ++ be 2 (IntKind.i16.wrap v) ++ be 4 num ++ be 2 (-1)) ++ qab (IntKind.i16.wrap v) aa).length) ar,.bool true]) kz ?_)
  have lc:be 4 (IntKind.i32.wrap (((((([]:Bs) ++ [by8 0,by8 0,by8 0,by8 0] ++ be 2 8 ++ be 2 (IntKind.i16.wrap v) ++ be 4 num ++ be 2 (-1)) ++ qab (IntKind.i16.wrap v) aa).length) - 4:Nat):Int)) ++ ((([]:Bs) ++ [by8 0,by8 0,by8 0,by8 0] ++ be 2 8 ++ be 2 (IntKind.i16.wrap v) ++ be 4 num ++ be 2 (-1)) ++ qab (IntKind.i16.wrap v) aa).drop 4 = (qa6 8 (IntKind.i16.wrap v) num has (sb txt) (decide ((IntKind.i16.wrap v) ≥ 8)) (qab (IntKind.i16.wrap v) aa)):=qcN (R:=outB 8 (IntKind.i16.wrap v) num has (sb txt) (decide ((IntKind.i16.wrap v) ≥ 8)) (qab (IntKind.i16.wrap v) aa)) (by simp [outB,qer,qbU,aJ,bk])
  exact qcO aY (k:=0) rfl (lc.trans (by rw [ba])) (by simp only [List.length_append,List.length_cons,List.length_nil]; omega)
 refine (qby dQ (t:=24) (A:=ap) (m:=(((([]:Bs) ++ [by8 0,by8 0,by8 0,by8 0] ++ be 2 8 ++ be 2 (IntKind.i16.wrap v) ++ be 4 num ++ be 2 (-1)) ++ qab (IntKind.i16.wrap v) aa).length)) (cp:=ar) (q:=4) (d:=55) (j:=4) kz (e:=5) (bytes:=1) kz (rfl) (by first | omega | (simp only [List.length_append,List.length_cons,List.length_nil]; omega)) fun rR ld=>?_)
 refine ⟨fun _=>bq,?_⟩
 refine qaY [4,5] [(1,.v (.slice ap (((([]:Bs) ++ [by8 0,by8 0,by8 0,by8 0] ++ be 2 8 ++ be 2 (IntKind.i16.wrap v) ++ be 4 num ++ be 2 (-1)) ++ qab (IntKind.i16.wrap v) aa).length) ar)),(52,.v (.slice ap (((([]:Bs) ++ [by8 0,by8 0,by8 0,by8 0] ++ be 2 8 ++ be 2 (IntKind.i16.wrap v) ++ be 4 num ++ be 2 (-1)) ++ qab (IntKind.i16.wrap v) aa).length) ar)),(57,.v (.int .i32 (IntKind.i32.wrap (((((([]:Bs) ++ [by8 0,by8 0,by8 0,by8 0] ++ be 2 8 ++ be 2 (IntKind.i16.wrap v) ++ be 4 num ++ be 2 (-1)) ++ qab (IntKind.i16.wrap v) aa).length) - 4:Nat):Int))))] 2 (qad qah) (fun _ h=>h.cells) bq ld fun rS lf=>?_
 refine qaN (i:=1) kz (qbD lf (t:=24) (A:=ap) (m:=((([]:Bs) ++ [by8 0,by8 0,by8 0,by8 0] ++ be 2 8 ++ be 2 (IntKind.i16.wrap v) ++ be 4 num ++ be 2 (-1)) ++ qab (IntKind.i16.wrap v) aa).length) (cp:=ar) (q:=0) (d:=53) (j:=0) kz (e:=5) (size:=1) (bytes:=1) kz (rfl) (by omega) fun rT lg=>?_)
 refine ⟨fun _=>bq,?_⟩
 refine qaN (i:=6) kz (qal lg (f:=133) (vs:=[.slice ap 0 ar,.int .i32 (IntKind.i32.wrap (((((([]:Bs) ++ [by8 0,by8 0,by8 0,by8 0] ++ be 2 8 ++ be 2 (IntKind.i16.wrap v) ++ be 4 num ++ be 2 (-1)) ++ qab (IntKind.i16.wrap v) aa).length) - 4:Nat):Int))]) (d:=58) kz Tryz.call133 (qbJ (IntKind.i32.wrap (((((([]:Bs) ++ [by8 0,by8 0,by8 0,by8 0] ++ be 2 8 ++ be 2 (IntKind.i16.wrap v) ++ be 4 num ++ be 2 (-1)) ++ qab (IntKind.i16.wrap v) aa).length) - 4:Nat):Int)) ap ar ((([]:Bs) ++ [by8 0,by8 0,by8 0,by8 0] ++ be 2 8 ++ be 2 (IntKind.i16.wrap v) ++ be 4 num ++ be 2 (-1)) ++ qab (IntKind.i16.wrap v) aa) _ (cv.own 0 _ rfl) (by simp only [List.length_append,List.length_cons,List.length_nil]; omega)) ?_)
 rintro e_ rU ⟨rfl,lh,dS⟩
 refine ⟨_,rfl,fun rV li=>?_⟩
 have aZ:WOk _ _ _ _ (z15 ap ar v num aa):=cv.grow (k:=0) (r':=⟨ap,ar,5,1,((([]:Bs) ++ [by8 0,by8 0,by8 0,by8 0] ++ be 2 8 ++ be 2 (IntKind.i16.wrap v) ++ be 4 num ++ be 2 (-1)) ++ qab (IntKind.i16.wrap v) aa).length,bc (be 4 (IntKind.i32.wrap (((((([]:Bs) ++ [by8 0,by8 0,by8 0,by8 0] ++ be 2 8 ++ be 2 (IntKind.i16.wrap v) ++ be 4 num ++ be 2 (-1)) ++ qab (IntKind.i16.wrap v) aa).length) - 4:Nat):Int)) ++ ((([]:Bs) ++ [by8 0,by8 0,by8 0,by8 0] ++ be 2 8 ++ be 2 (IntKind.i16.wrap v) ++ be 4 num ++ be 2 (-1)) ++ qab (IntKind.i16.wrap v) aa).drop 4)⟩) rfl dS lh (fun g' hg'=>.inl hg')
 have lj:=Fr.grow (z2 b1 has txt ac v aa af ae) (k:=0) (rs:=[brow ap ar 5 ((([]:Bs) ++ [by8 0,by8 0,by8 0,by8 0] ++ be 2 8 ++ be 2 (IntKind.i16.wrap v) ++ be 4 num ++ be 2 (-1)) ++ qab (IntKind.i16.wrap v) aa)]) (r':=⟨ap,ar,5,1,((([]:Bs) ++ [by8 0,by8 0,by8 0,by8 0] ++ be 2 8 ++ be 2 (IntKind.i16.wrap v) ++ be 4 num ++ be 2 (-1)) ++ qab (IntKind.i16.wrap v) aa).length,bc (be 4 (IntKind.i32.wrap (((((([]:Bs) ++ [by8 0,by8 0,by8 0,by8 0] ++ be 2 8 ++ be 2 (IntKind.i16.wrap v) ++ be 4 num ++ be 2 (-1)) ++ qab (IntKind.i16.wrap v) aa).length) - 4:Nat):Int)) ++ ((([]:Bs) ++ [by8 0,by8 0,by8 0,by8 0] ++ be 2 8 ++ be 2 (IntKind.i16.wrap v) ++ be 4 num ++ be 2 (-1)) ++ qab (IntKind.i16.wrap v) aa).drop 4)⟩) rfl dS (fun g' hg'=>.inl hg')
 have lm:=TT.ofW lj aZ
 refine ⟨fun _=>lm,?_⟩
 refine qaX kz ?_ _
 refine qaa (qas [(8,.v (.slice ap (((([]:Bs) ++ [by8 0,by8 0,by8 0,by8 0] ++ be 2 8 ++ be 2 (IntKind.i16.wrap v) ++ be 4 num ++ be 2 (-1)) ++ qab (IntKind.i16.wrap v) aa).length) ar))] aZ li fun rW ln=>?_)
 refine wp_ret (qaD ln aZ.cells (v:=.slice ap (((([]:Bs) ++ [by8 0,by8 0,by8 0,by8 0] ++ be 2 8 ++ be 2 (IntKind.i16.wrap v) ++ be 4 num ++ be 2 (-1)) ++ qab (IntKind.i16.wrap v) aa).length) ar) kz ?_)
 refine ⟨_,rfl,fun rX lp=>?_⟩
 have lq:=(EnvOk.places (tb':=[⟨b1,0,[.bool has,.string txt],true⟩,⟨ac,0,[.int .i16 (IntKind.i16.wrap v),.string ((aa.f 0).s),.int .i32 ((aa.f 1).n),.string ((aa.f 2).s),.pointer ((aa.f 3).A),.int .i64 ((aa.f 4).n),.slice ((aa.f 5).A) ((aa.f 5).l) ((aa.f 5).c),.map aa.m],true⟩,⟨af,0,[.bool has,.string txt],true⟩,⟨ae,0,[.pointer none],true⟩]) lp (show Pl [⟨b1,0,[.bool has,.string txt],true⟩,⟨ac,0,[.int .i16 (IntKind.i16.wrap v),.string ((aa.f 0).s),.int .i32 ((aa.f 1).n),.string ((aa.f 2).s),.pointer ((aa.f 3).A),.int .i64 ((aa.f 4).n),.slice ((aa.f 5).A) ((aa.f 5).l) ((aa.f 5).c),.map aa.m],true⟩,⟨af,0,[.bool has,.string txt],true⟩,⟨ae,0,[.pointer none],true⟩] [⟨b1,0,[.bool has,.string txt],true⟩,⟨ac,0,[.int .i16 (IntKind.i16.wrap v),.string ((aa.f 0).s),.int .i32 ((aa.f 1).n),.string ((aa.f 2).s),.pointer ((aa.f 3).A),.int .i64 ((aa.f 4).n),.slice ((aa.f 5).A) ((aa.f 5).l) ((aa.f 5).c),.map aa.m],true⟩,⟨af,0,[.bool has,.string txt],true⟩,⟨ae,0,[.pointer none],true⟩] from ⟨rfl,rfl,⟨rfl,rfl,⟨rfl,rfl,⟨rfl,rfl,trivial⟩⟩⟩⟩)).pk (env':=[(19,.v (.slice ap (((([]:Bs) ++ [by8 0,by8 0,by8 0,by8 0] ++ be 2 8 ++ be 2 (IntKind.i16.wrap v) ++ be 4 num ++ be 2 (-1)) ++ qab (IntKind.i16.wrap v) aa).length) ar)),(16,.p 3 0),(17,.v (.iface 46 (.pointer (some ⟨ac,0,none⟩)))),(18,.v (.int .i32 num))])
 refine qaj [4] [] [(6,.v (.slice ap (((([]:Bs) ++ [by8 0,by8 0,by8 0,by8 0] ++ be 2 8 ++ be 2 (IntKind.i16.wrap v) ++ be 4 num ++ be 2 (-1)) ++ qab (IntKind.i16.wrap v) aa).length) ar))] aZ lq fun rY lr=>?_
 refine qaf (qaa ?_)
 refine wp_ret (qaD lr aZ.cells (v:=.slice ap (((([]:Bs) ++ [by8 0,by8 0,by8 0,by8 0] ++ be 2 8 ++ be 2 (IntKind.i16.wrap v) ++ be 4 num ++ be 2 (-1)) ++ qab (IntKind.i16.wrap v) aa).length) ar) kz ?_)
 refine ⟨_,rfl,fun rZ ls=>?_⟩
 have lu:=(EnvOk.places (tb':=[⟨b1,0,[.bool has,.string txt],true⟩,⟨ac,0,[.int .i16 (IntKind.i16.wrap v),.string ((aa.f 0).s),.int .i32 ((aa.f 1).n),.string ((aa.f 2).s),.pointer ((aa.f 3).A),.int .i64 ((aa.f 4).n),.slice ((aa.f 5).A) ((aa.f 5).l) ((aa.f 5).c),.map aa.m],true⟩,⟨af,0,[.bool has,.string txt],true⟩,⟨ae,0,[.pointer none],true⟩]) ls (show Pl [⟨b1,0,[.bool has,.string txt],true⟩,⟨ac,0,[.int .i16 (IntKind.i16.wrap v),.string ((aa.f 0).s),.int .i32 ((aa.f 1).n),.string ((aa.f 2).s),.pointer ((aa.f 3).A),.int .i64 ((aa.f 4).n),.slice ((aa.f 5).A) ((aa.f 5).l) ((aa.f 5).c),.map aa.m],true⟩] [⟨b1,0,[.bool has,.string txt],true⟩,⟨ac,0,[.int .i16 (IntKind.i16.wrap v),.string ((aa.f 0).s),.int .i32 ((aa.f 1).n),.string ((aa.f 2).s),.pointer ((aa.f 3).A),.int .i64 ((aa.f 4).n),.slice ((aa.f 5).A) ((aa.f 5).l) ((aa.f 5).c),.map aa.m],true⟩,⟨af,0,[.bool has,.string txt],true⟩,⟨ae,0,[.pointer none],true⟩] from ⟨rfl,rfl,⟨rfl,rfl,trivial⟩⟩)).pk (env':=[(25,.v (.slice ap (((([]:Bs) ++ [by8 0,by8 0,by8 0,by8 0] ++ be 2 8 ++ be 2 (IntKind.i16.wrap v) ++ be 4 num ++ be 2 (-1)) ++ qab (IntKind.i16.wrap v) aa).length) ar)),(21,.v (.agg #[.bool has,.string txt])),(23,.v (.iface 46 (.pointer (some ⟨ac,0,none⟩)))),(24,.v (.int .i32 num))])
 refine qaj [5,6] [] [(8,.v (.slice ap (((([]:Bs) ++ [by8 0,by8 0,by8 0,by8 0] ++ be 2 8 ++ be 2 (IntKind.i16.wrap v) ++ be 4 num ++ be 2 (-1)) ++ qab (IntKind.i16.wrap v) aa).length) ar)),(9,.v (.bool true))] aZ lu fun r0 lv=>?_
 refine qaf (qaa ?_)
 refine wp_ret (qaD lv aZ.cells (v:=.tuple #[.slice ap (((([]:Bs) ++ [by8 0,by8 0,by8 0,by8 0] ++ be 2 8 ++ be 2 (IntKind.i16.wrap v) ++ be 4 num ++ be 2 (-1)) ++ qab (IntKind.i16.wrap v) aa).length) ar,.bool true]) kz ?_)
 have lw:be 4 (IntKind.i32.wrap (((((([]:Bs) ++ [by8 0,by8 0,by8 0,by8 0] ++ be 2 8 ++ be 2 (IntKind.i16.wrap v) ++ be 4 num ++ be 2 (-1)) ++ qab (IntKind.i16.wrap v) aa).length) - 4:Nat):Int)) ++ ((([]:Bs) ++ [by8 0,by8 0,by8 0,by8 0] ++ be 2 8 ++ be 2 (IntKind.i16.wrap v) ++ be 4 num ++ be 2 (-1)) ++ qab (IntKind.i16.wrap v) aa).drop 4 = (qa6 8 (IntKind.i16.wrap v) num has (sb txt) (decide ((IntKind.i16.wrap v) ≥ 8)) (qab (IntKind.i16.wrap v) aa)):=qcN (R:=outB 8 (IntKind.i16.wrap v) num has (sb txt) (decide ((IntKind.i16.wrap v) ≥ 8)) (qab (IntKind.i16.wrap v) aa)) (by simp [outB,qer,qbU,aJ,bk])
 exact qcO aZ (k:=0) rfl (lw.trans (by rw [ba])) (by simp only [List.length_append,List.length_cons,List.length_nil]; omega)
theorem qdF (has:Bool) (txt:ByteArray) (num v:Int) (T:Tree) (B:Bs) {A2:Option Addr} {c2:Nat} {w:World} {F:Nat → Nat → Prop} (hB:qak (IntKind.i16.wrap v) T = B) (hs_:Octs w F A2 c2 B) (hc:qbg T) (hkey:T.ranged) (htx:txt.size ≤ 32767) (hroom:txt.size + B.length + 64 ≤ 1099511627776) :
  Calls Tryz.prog 16 #[.agg #[.bool has,.string txt],.int .i32 num,.int .i64 v,.slice A2 B.length c2] w (fun e w'=>∃ A c,e = .returned (.tuple #[.slice A (qa6 8 (IntKind.i16.wrap v) num has (sb txt) (decide ((IntKind.i16.wrap v) ≥ 8)) B).length c,.bool true]) ∧ w'.ownsRow w.heap.size 5 1 (.slice A (qa6 8 (IntKind.i16.wrap v) num has (sb txt) (decide ((IntKind.i16.wrap v) ≥ 8)) B).length c) (qa6 8 (IntKind.i16.wrap v) num has (sb txt) (decide ((IntKind.i16.wrap v) ≥ 8)) B).length (bc (qa6 8 (IntKind.i16.wrap v) num has (sb txt) (decide ((IntKind.i16.wrap v) ≥ 8)) B)) ∧ Step w w' Nil):=by
 subst hB
 exact qd5 has txt num v T hs_ hc hkey htx hroom
end Go.Proofs.YtogokkkdfcgncaaGreatDoor.ME
namespace Go.Proofs.YtogokkkdfcgncaaGreatDoor.ME
open Go
open Go.RowKit
set_option linter.unusedVariables false
set_option linter.unusedSimpArgs false
set_option maxRecDepth 20000
section
variable {P:Program} {ops:Array Oper} {Q:Exit → Act → World → Prop} {n:Nat} {tb:Tb} {env:Env} {rs:List Rw} {w0:World} {M:Nat → Nat → Prop} {a:Act} {w:World}
theorem qga {i d:Nat} {src dst e:TypeId} {s:ByteArray} {N:Act → World → Prop} (hW:WOk w0 M w tb rs) (hE:EnvOk n tb env a) (hsm:s.size ≤ 1099511627776)
  (K:∀ b c a' w',Fr w tb rs w' tb rs → WOk w0 M w' tb rs → (∀ G,Octs w' (Imm G w0 w' tb rs) (some ⟨b,0,none⟩) c (sb s)) → EnvOk n tb ((d,.v (.slice (some ⟨b,0,none⟩) (sb s).length c)) :: env) a' → N a' w')
  (h:qkQ tb env ops n i = some (src,dst,.string s,d):=by kernel_rfl) (hs:P.underlying src = some .string:=by kernel_rfl) (hd:P.underlying dst = some (.slice e):=by kernel_rfl) (he:P.underlying e = some (.int .u8):=by kernel_rfl):wpOp P ops Q i N a w:=by
 unfold qkQ at h
 split at h
 ·rename_i src' dst' x d' hop
  split at h
  ·rename_i v hx
   simp only [Option.some.injEq,Prod.mk.injEq] at h
   obtain ⟨rfl,rfl,rfl,rfl⟩:=h
   have hdn:=(qbl hE hop).choose_spec.2.2.2.1
   have hrun:=Lib.run_convert_string_bytes (P:=P) w src' dst' e s hs hd he
   have hst:Step w (Lib.bytesWorld w e s) Nil:=⟨rfl,rfl,by rw [Lib.bytesWorld_size]; omega,fun b hb=>by rw [Lib.bytesWorld_at_old w e s b hb]; exact Keeps.refl _ _⟩
   have hlen:(sb s).length = s.size:=qeO s
   have e1:=(qaT hE hx).1
   refine qaZ hE hop (v:=.slice (some ⟨w.heap.size,0,none⟩) (sb s).length (grownCap w s.size 0 e)) (w':=Lib.bytesWorld w e s) (fun o' ho'=>?_) (K w.heap.size _ _ _ (Fr.nil tb rs hst) (hW.next_nil hst) (fun G=>?_) (hE.put hdn (.v _) trivial))
   ·unfold execOp
    rw [ho']
    simp only [SV.val] at e1
    simp only [e1,Sem.run_bind,hrun,Result.andThen_ok,Sem.run_pure,hlen]
   refine ⟨by rw [hlen]; exact grownCap_ge w s.size 0 e,by rw [hlen]; exact hsm,fun h=>(by cases h),fun ad hA _=>?_⟩
   obtain rfl:=Option.some.inj hA
   refine ⟨w.heap.size,0,rfl,fun q hq=>⟨rfl,fun j v hj=>?_⟩⟩
   have hj0:j = 0:=by
    cases j with
    | zero=>rfl
    | succ j=>simp at hj
   subst hj0
   simp only [List.getElem?_cons_zero,Option.some.injEq] at hj
   subst hj
   have h2:(Lib.bytesWorld w e s).heap.size = w.heap.size + 1:=Lib.bytesWorld_size w e s
   refine ⟨⟨.inr hW.step.size,by rw [h2]; exact Nat.lt_succ_self _,fun ha=>?_⟩,?_⟩
   ·have:=hW.act_live ha
    exact absurd this (Nat.lt_irrefl _)
   rw [Nat.zero_add,Nat.mul_one,Nat.add_zero,Lib.bytesWorld_cell w e s q (by rw [← hlen]; exact hq)]
   rfl
  cases h
 cases h
end
theorem qes (w:World):Calls Tryz.prog 12 #[] w (qcF w (.int .i64 10)):=by
 refine enter (n:=4) Tryz.func12 rfl Tryz.ntmps12 kz fun a hE=>?_
 have hW:=WOk.start w Nil
 refine qas [] hW hE fun a1 hE2=>?_
 refine qae [0,1,2,3] kz ?_
 refine qam (qa5 hE2 (f:=39) (vs:=[]) (d:=1) (n':=3) kz Tryz.call39 Tryz.func39 rfl Tryz.ntmps39 kz fun a3 hE4=>?_)
 refine qas [] hW hE4 fun a5 hE6=>?_
 refine qae [0] kz ?_
 refine qam (qa9 hW hE6 (d:=1) (cs:=z30) kz fun b7 a8 w9 aD aE aF ab ae=>?_)
 refine qaf (qaa ?_)
 refine qae [0] kz ?_
 refine qam (qa5 ae (f:=78) (vs:=[.pointer (some ⟨b7,0,none⟩)]) (d:=2) (n':=8) kz Tryz.call78 Tryz.func78 rfl Tryz.ntmps78 kz fun aI af=>?_)
 have ag:=af.recast 0 (.v (.pointer (some ⟨b7,0,none⟩))) (.p 0 0) rfl rfl (Nat.le_of_ble_eq_true (n:=1) rfl)
 refine qae [0,1,2,3] kz ?_
 refine qaj [0,1,2] [3] [(0,.p 0 0),(4,.p 0 2)] ab ag fun aJ ah=>?_
 refine qam (qaI ab ah (oi:=0) (cs:=z29) kz fun aK aG ac ai=>?_)
 refine qaf (qaa ?_)
 refine qar [0,1,2,3] kz ?_
 refine qaj [0,1,2] [3] [(7,.p 0 5)] ac ai fun aL aj=>?_
 refine qam (qaI ac aj (oi:=0) (cs:=z28) kz fun aM aH aa ak=>?_)
 refine qaf (qcq ak aa.cells (v:=.tuple #[]) kz ?_)
 refine ⟨_,rfl,fun aN al=>?_⟩
 have am:=(EnvOk.places (tb':=[⟨b7,0,[.int .i16 0,.string ByteArray.empty,.int .i32 (-1),.string ByteArray.empty,.pointer none,.int .i64 (-1),.slice none 0 0,.map none],true⟩]) al (show Pl [⟨b7,0,[.int .i16 0,.string ByteArray.empty,.int .i32 0,.string ByteArray.empty,.pointer none,.int .i64 0,.slice none 0 0,.map none],true⟩] [⟨b7,0,[.int .i16 0,.string ByteArray.empty,.int .i32 (-1),.string ByteArray.empty,.pointer none,.int .i64 (-1),.slice none 0 0,.map none],true⟩] from ⟨rfl,rfl,trivial⟩)).pk (env':=[(2,.v (.tuple #[])),(1,.p 0 0)])
 refine qaf (qaa ?_)
 refine qas [(0,.p 0 0)] aa am fun aO ao=>?_
 refine wp_ret (qaD ao aa.cells (v:=.pointer (some ⟨b7,0,none⟩)) kz ?_)
 refine ⟨_,rfl,fun aP ap=>?_⟩
 have ar:=(EnvOk.places (tb':=[⟨b7,0,[.int .i16 0,.string ByteArray.empty,.int .i32 (-1),.string ByteArray.empty,.pointer none,.int .i64 (-1),.slice none 0 0,.map none],true⟩]) ap (show Pl [] [⟨b7,0,[.int .i16 0,.string ByteArray.empty,.int .i32 (-1),.string ByteArray.empty,.pointer none,.int .i64 (-1),.slice none 0 0,.map none],true⟩] from trivial)).pk (env':=[(1,.v (.pointer (some ⟨b7,0,none⟩)))])
 have au:=ar.recast 1 (.v (.pointer (some ⟨b7,0,none⟩))) (.p 0 0) rfl rfl (Nat.le_of_ble_eq_true (n:=1) rfl)
 have av:=au.pick (ks:=[1]) (env':=[(1,.p 0 0)]) kz
 refine qam (qa5 av (f:=40) (vs:=[.pointer (some ⟨b7,0,none⟩)]) (d:=2) (n':=3) kz Tryz.call40 Tryz.func40 rfl Tryz.ntmps40 kz fun aQ aw=>?_)
 have ax:=aw.recast 0 (.v (.pointer (some ⟨b7,0,none⟩))) (.p 0 0) rfl rfl (Nat.le_of_ble_eq_true (n:=1) rfl)
 refine qas [] aa ax fun aR ay=>?_
 refine qas [(2,.v (.int .i16 10))] aa ay fun aS az=>?_
 refine wp_ret (qaD az aa.cells (v:=.int .i16 10) kz ?_)
 refine ⟨_,rfl,fun aT aA=>?_⟩
 have aB:=(EnvOk.places (tb':=[⟨b7,0,[.int .i16 0,.string ByteArray.empty,.int .i32 (-1),.string ByteArray.empty,.pointer none,.int .i64 (-1),.slice none 0 0,.map none],true⟩]) aA (show Pl [⟨b7,0,[.int .i16 0,.string ByteArray.empty,.int .i32 (-1),.string ByteArray.empty,.pointer none,.int .i64 (-1),.slice none 0 0,.map none],true⟩] [⟨b7,0,[.int .i16 0,.string ByteArray.empty,.int .i32 (-1),.string ByteArray.empty,.pointer none,.int .i64 (-1),.slice none 0 0,.map none],true⟩] from ⟨rfl,rfl,trivial⟩)).pk (env':=[(2,.v (.int .i16 10)),(1,.p 0 0)])
 refine qaj [2,3] [] [(0,.v (.int .i64 10))] aa aB fun aU aC=>?_
 refine qaf (qaa ?_)
 refine wp_ret (qaD aC aa.cells (v:=.int .i64 10) kz ?_)
 exact ⟨rfl,aa.step⟩
theorem qc8:depths sOffsetCommitRequestF ≤ 8:=by simp [sOffsetCommitRequestF,Fld.depth.depths,Fld.depth]
theorem qcQ (A:Option Addr) (c:Nat) (v:Int) (w:World):Calls Tryz.prog 19 #[.agg #[.slice A sOffsetCommitRequestF.length c,.int .i64 qag],.int .i64 v] w (qcF w (.bool (decide (v ≥ qag)))):=by
 refine enter (n:=14) Tryz.func19 rfl Tryz.ntmps19 kz fun a hE=>?_
 have hW:=WOk.start w Nil
 refine qae [0,1] kz ?_
 refine qam (qbk hW hE (d:=2) (cs:=[.slice A sOffsetCommitRequestF.length c,.int .i64 qag]) kz fun b1 a2 w3 hb4 hz5 hF6 hW7 hE8=>?_)
 refine qaj [1] [] [(1,.v (.int .i64 v)),(2,.p 0 0)] hW7 hE8 fun a9 aa=>?_
 refine qaf (qaa ?_)
 refine qae [0,1,2,3,4,5,6,7,8,9] kz ?_
 refine qaj [0,1,2,3] [4,5,6,7,8,9] [(1,.v (.int .i64 v)),(2,.p 0 0),(8,.v (.bool (decide (qag ≥ 0))))] hW7 aa fun ag ab=>?_
 have ac:(decide (qag ≥ 0)) = true:=by decide
 have ae:=ab
 rw [ac] at ae
 refine qaj [4,5,6,7,8,9] [] [(4,.v (.bool (decide (v ≥ qag))))] hW7 ae fun ah af=>?_
 refine qaf (qaa ?_)
 refine wp_ret (qaD af hW7.cells (v:=.bool (decide (v ≥ qag))) kz ?_)
 exact ⟨rfl,hW7.step⟩
set_option maxHeartbeats 4000000 in
theorem qdG (x:Int) (hx:0 ≤ x) (hx':x < 256) (has:Bool) (txt:ByteArray) (htl:txt.size ≤ 1048576) (num:Int) (ct:List Value) (t:Tree) (w:World) (F:Nat → Nat → Prop) (ht:TreeR w F ct t) (hroom1:(qbe 8 sOffsetCommitRequestF qag (Int.tmod x (10 + 1)) t).length + 1048700 ≤ 1099511627776) (hcan:qbg (fitT (Int.tmod x (10 + 1)) 8 sOffsetCommitRequestF t)) (hkey:Tree.ranged (fitT (Int.tmod x (10 + 1)) 8 sOffsetCommitRequestF t)) (hfr:(qa6 8 (IntKind.i16.wrap (Int.tmod x (10 + 1))) num has (sb txt) (decide ((IntKind.i16.wrap (Int.tmod x (10 + 1))) ≥ 8)) (qbe 8 sOffsetCommitRequestF qag (Int.tmod x (10 + 1)) t)) = (qa6 8 (Int.tmod x (10 + 1)) num has (sb txt) (decide ((Int.tmod x (10 + 1)) ≥ qag)) (qbe 8 sOffsetCommitRequestF qag (Int.tmod x (10 + 1)) t))) (hpure:qak (IntKind.i16.wrap (Int.tmod x (10 + 1))) (fitT (Int.tmod x (10 + 1)) 8 sOffsetCommitRequestF t) = qbe 8 sOffsetCommitRequestF qag (Int.tmod x (10 + 1)) t) :
  Calls Tryz.prog 3 #[.int .u8 x,.agg #[.bool has,.string txt],.int .i32 num,.agg ct.toArray] w (qcF w (.bool true)):=by
 obtain ⟨n1,s2,b3,l4,u5,A6,c7,A8,c9,aX,aY,dc,rfl,rfl,de,df,eg,eh⟩:=ht.open_
 have cU:=de.small
 have cV:=df.small
 refine enter (n:=63) Tryz.func3 rfl Tryz.ntmps3 kz fun a hE=>?_
 have hW:=WOk.start w Nil
 refine qae [0,1,2] kz ?_
 refine qam (qbk hW hE (d:=5) (cs:=[.bool has,.string txt]) kz fun dg ei ej dh di dj cu cv=>?_)
 refine qam (qbk cu cv (d:=7) (cs:=(z10 n1 A6 s2.length c7 b3 A8 l4.length c9 aX u5.length aY)) kz fun dl ek em dp dq dr aD cw=>?_)
 refine qaj [2] [] [(0,.v (.int .u8 x)),(2,.v (.int .i32 num)),(5,.p 0 0),(7,.p 1 0)] aD cw fun eo cz=>?_
 refine qaf (qaa ?_)
 refine wp_seq (qae [0,1,2,3,4,5,6,7] kz ?_)
 refine qaj [0] [1,2,3,4,5,6,7] [(0,.v (.int .u8 x)),(2,.v (.int .i32 num)),(5,.p 0 0),(7,.p 1 0),(15,.v (.agg #[.bool has,.string txt]))] aD cz fun ep cA=>?_
 refine qam (qal cA (f:=10) (vs:=[.agg #[.bool has,.string txt]]) (d:=16) kz Tryz.call10 (qmx _ _ htl _) ?_)
 rintro e_ eu ⟨rfl,aZ⟩
 refine ⟨_,rfl,fun ev cB=>?_⟩
 have ap:=aD.next_nil aZ
 have dt:=aD.frN aZ
 refine qaj [2,3,4] [5,6,7] [(0,.v (.int .u8 x)),(2,.v (.int .i32 num)),(5,.p 0 0),(7,.p 1 0),(18,.v (.bool false)),(19,.v (.agg #[.int .i64 n1,.slice A6 s2.length c7,.bool b3,.slice A8 l4.length c9,.slice aX u5.length aY]))] ap cB fun ew cC=>?_
 refine qam (qal cC (f:=11) (vs:=[.agg #[.int .i64 n1,.slice A6 s2.length c7,.bool b3,.slice A8 l4.length c9,.slice aX u5.length aY]]) (d:=20) kz Tryz.call11 (qmw _ _ _ _ (ht.move ap.step nilM ap.imm)) ?_)
 rintro e_ ey ⟨cW,rfl,ba⟩
 refine ⟨_,rfl,fun ez cD=>?_⟩
 have ao:=ap.next_nil ba
 have du:=ap.frN ba
 refine qaj [6,7] [] [(0,.v (.int .u8 x)),(2,.v (.int .i32 num)),(5,.p 0 0),(7,.p 1 0),(22,.v (.bool (!cW)))] ao cD fun eB aS=>?_
 refine qaf (qaa ?_)
 refine qax aS (b:=!cW) kz (fun cE=>?_) (fun cE=>?_)
 ·
  refine qas [(8,.v (.bool true))] ao aS fun eC cG=>?_
  refine wp_ret (qaC (qaD cG ao.cells (v:=.bool true) kz ?_))
  exact ⟨rfl,ao.step⟩
 refine wp_skip (qaa (qae [0,1] kz ?_))
 refine qam (qal aS (f:=12) (vs:=[]) (d:=23) kz Tryz.call12 (qes _) ?_)
 rintro e_ dv ⟨rfl,bd⟩
 refine ⟨_,rfl,fun eD cH=>?_⟩
 have ar:=ao.next_nil bd
 have dw:=ao.frN bd
 refine qaj [1] [] [(0,.v (.int .u8 x)),(2,.v (.int .i32 num)),(5,.p 0 0),(7,.p 1 0),(9,.v (.int .i64 10))] ar cH fun eE cI=>?_
 refine qaf (qaa ?_)
 refine wp_seq (qas [(0,.v (.int .u8 x)),(2,.v (.int .i32 num)),(5,.p 0 0),(7,.p 1 0),(9,.v (.int .i64 10)),(25,.v (.bool false))] ar cI fun eF bf=>?_)
 refine qau bf (b:=false) kz rfl ?_
 refine wp_skip (qaa (qae [0,1,2,3,4,5,6] kz ?_))
 refine qam (qal bf (f:=13) (vs:=[]) (d:=26) kz Tryz.call13 (qeq _ (Imm F w dv [⟨dg,0,[.bool has,.string txt],true⟩,⟨dl,0,(z10 n1 A6 s2.length c7 b3 A8 l4.length c9 aX u5.length aY),true⟩] [])) ?_)
 rintro e_ eG ⟨aT,aU,rfl,cJ,aV⟩
 obtain ⟨cK,dx,dy⟩:=cJ.move (Step.refl _ Nil) nilM (ar.laid (G:=F) aV)
 refine ⟨_,rfl,fun eH cL=>?_⟩
 have aW:=ar.next_nil aV
 have dz:=ar.frN aV
 refine qaj [1,2] [3,4,5,6] [(2,.v (.int .i32 num)),(5,.p 0 0),(7,.p 1 0),(26,.v (.agg #[.slice aT sOffsetCommitRequestF.length aU,.int .i64 qag])),(27,.v (.int .u8 x)),(28,.v (.int .i64 10))] aW cL fun eI cM=>?_
 refine qam (qal cM (f:=14) (vs:=[.int .u8 x,.int .i64 10]) (d:=29) kz Tryz.call14 (qkX x 10 hx hx' (by decide) (by decide) _) ?_)
 rintro e_ eJ ⟨rfl,bg⟩
 refine ⟨_,rfl,fun eK cN=>?_⟩
 have cO:=aW.next_nil bg
 have aE:=aW.frN bg
 refine qam (qa9 cO cN (d:=10) (cs:=[.slice none 0 0,.int .i64 0]) kz fun eL eM eN dA dB aF cP bh=>?_)
 refine qam (qaI cP bh (oi:=2) (cs:=[.slice aT sOffsetCommitRequestF.length aU,.int .i64 qag]) kz fun dC ah aa bi=>?_)
 refine qaj [6] [] [(2,.v (.int .i32 num)),(5,.p 0 0),(7,.p 1 0),(10,.p 2 0),(11,.v (.int .i64 (Int.tmod x (10 + 1))))] aa bi fun dD bj=>?_
 refine qaf (qaa ?_)
 refine wp_seq (qas [(2,.v (.int .i32 num)),(5,.p 0 0),(7,.p 1 0),(10,.p 2 0),(11,.v (.int .i64 (Int.tmod x (10 + 1)))),(33,.v (.bool (decide ((txt.size:Int) > 32767))))] aa bj fun dE au=>?_)
 refine qax au (b:=decide ((txt.size:Int) > 32767)) kz (fun av=>?_) (fun av=>?_)
 ·
  have cX:=of_decide_eq_true av
  refine qas [(8,.v (.bool true))] aa au fun dF bk=>?_
  refine wp_ret (qaC (qaD bk aa.cells (v:=.bool true) kz ?_))
  exact ⟨rfl,aa.step⟩
 have cY:=of_decide_eq_false av
 refine wp_skip (qaa (qae [0,1,2,3,4] kz ?_))
 refine qaj [0,1,2] [3,4] [(2,.v (.int .i32 num)),(5,.p 0 0),(10,.p 2 0),(11,.v (.int .i64 (Int.tmod x (10 + 1)))),(34,.v (.agg #[.slice aT sOffsetCommitRequestF.length aU,.int .i64 qag])),(35,.v (.int .i64 (Int.tmod x (10 + 1)))),(36,.v (.agg #[.int .i64 n1,.slice A6 s2.length c7,.bool b3,.slice A8 l4.length c9,.slice aX u5.length aY]))] aa au fun dG bn=>?_
 refine qam (qal bn (f:=15) (vs:=[.agg #[.slice aT sOffsetCommitRequestF.length aU,.int .i64 qag],.int .i64 (Int.tmod x (10 + 1)),.agg #[.int .i64 n1,.slice A6 s2.length c7,.bool b3,.slice A8 l4.length c9,.slice aX u5.length aY]]) (d:=37) kz Tryz.call15 (qmj _ _ sOffsetCommitRequestF qag (Int.tmod x (10 + 1)) _ (Tree.mk n1 s2 b3 l4 u5) _ _ ⟨cK,(dx.move ((aE.trans aF).trans ah).step immM ((aE.trans aF).trans ah).to'),(fun i_ x_ h_=>((dy i_ x_ h_).move ((aE.trans aF).trans ah).step immM ((aE.trans aF).trans ah).to'))⟩ qc8 (ht.move aa.step nilM aa.imm) (Nat.le_trans (Nat.le_add_right _ _) hroom1)) ?_)
 rintro e_ dH ⟨ab,ac,rfl,bo,bp⟩
 refine ⟨_,rfl,fun dI bq=>?_⟩
 obtain ⟨ai,cZ⟩:=aa.frFresh bp (brow ab ac 5 (qbe 8 sOffsetCommitRequestF qag (Int.tmod x (10 + 1)) (Tree.mk n1 s2 b3 l4 u5))) (Nat.le_refl _) bo
 refine qaj [4] [] [(2,.v (.int .i32 num)),(5,.p 0 0),(10,.p 2 0),(11,.v (.int .i64 (Int.tmod x (10 + 1)))),(12,.v (.slice ab ((qbe 8 sOffsetCommitRequestF qag (Int.tmod x (10 + 1)) (Tree.mk n1 s2 b3 l4 u5)).length) ac))] ai bq fun dJ bt=>?_
 refine qaf (qaa ?_)
 refine qae [0,1,2,3,4,5,6,7,8,9] kz ?_
 refine qaj [0,1,2,3] [4,5,6,7,8,9] [(2,.v (.int .i32 num)),(5,.p 0 0),(10,.p 2 0),(11,.v (.int .i64 (Int.tmod x (10 + 1)))),(12,.v (.slice ab ((qbe 8 sOffsetCommitRequestF qag (Int.tmod x (10 + 1)) (Tree.mk n1 s2 b3 l4 u5)).length) ac)),(39,.v (.agg #[.bool has,.string txt])),(40,.v (.int .i32 num)),(41,.v (.int .i64 (Int.tmod x (10 + 1)))),(42,.v (.slice ab ((qbe 8 sOffsetCommitRequestF qag (Int.tmod x (10 + 1)) (Tree.mk n1 s2 b3 l4 u5)).length) ac))] ai bt fun dK bu=>?_
 refine qam (qal bu (f:=16) (vs:=[.agg #[.bool has,.string txt],.int .i32 num,.int .i64 (Int.tmod x (10 + 1)),.slice ab ((qbe 8 sOffsetCommitRequestF qag (Int.tmod x (10 + 1)) (Tree.mk n1 s2 b3 l4 u5)).length) ac]) (d:=43) kz Tryz.call16 (qdF has txt num (Int.tmod x (10 + 1)) _ (qbe 8 sOffsetCommitRequestF qag (Int.tmod x (10 + 1)) (Tree.mk n1 s2 b3 l4 u5)) hpure (qcK (ai.own 0 _ rfl) (by first | omega | (rw [qbv]; decide) | (simp only [be_length]; exact Nat.le_trans (qa8 _) (by decide)) | (have:=hroom; omega) | (have:=hmade; omega) | (simp only [List.length_append,List.length_nil]; omega)) (F:=fun _ _=>True) (fun _ _ _=>trivial)) hcan hkey (by omega) (by first | omega | (have:=hroom1; omega))) ?_)
 rintro e_ dL ⟨aw,ax,rfl,aG,bw⟩
 rw [hfr] at aG
 rw [hfr]
 refine ⟨_,rfl,fun dM bx=>?_⟩
 have hfl:=qkj (key:=8) (v:=(Int.tmod x (10 + 1))) (num:=num) (has:=has) (txt:=sb txt) (flex:=decide ((Int.tmod x (10 + 1)) ≥ qag)) (body:=(qbe 8 sOffsetCommitRequestF qag (Int.tmod x (10 + 1)) (Tree.mk n1 s2 b3 l4 u5)))
 have hsl:=qbU txt
 obtain ⟨aH,da⟩:=ai.frFresh bw (brow aw ax 5 (qa6 8 (Int.tmod x (10 + 1)) num has (sb txt) (decide ((Int.tmod x (10 + 1)) ≥ qag)) (qbe 8 sOffsetCommitRequestF qag (Int.tmod x (10 + 1)) (Tree.mk n1 s2 b3 l4 u5)))) (Nat.le_refl _) aG
 refine qaj [5,6,7,8,9] [] [(2,.v (.int .i32 num)),(5,.p 0 0),(10,.p 2 0),(11,.v (.int .i64 (Int.tmod x (10 + 1)))),(12,.v (.slice ab ((qbe 8 sOffsetCommitRequestF qag (Int.tmod x (10 + 1)) (Tree.mk n1 s2 b3 l4 u5)).length) ac)),(13,.v (.slice aw ((qa6 8 (Int.tmod x (10 + 1)) num has (sb txt) (decide ((Int.tmod x (10 + 1)) ≥ qag)) (qbe 8 sOffsetCommitRequestF qag (Int.tmod x (10 + 1)) (Tree.mk n1 s2 b3 l4 u5))).length) ax)),(14,.v (.bool true))] aH bx fun dN bz=>?_
 refine qaf (qaa ?_)
 refine qbm 17 kz aH fun dO db ay bA=>?_
 refine qaY [0,1,2,3,4,5,6,7,8,10,11,13] [(47,.v (.bool true)),(48,.v (.slice aw ((qa6 8 (Int.tmod x (10 + 1)) num has (sb txt) (decide ((Int.tmod x (10 + 1)) ≥ qag)) (qbe 8 sOffsetCommitRequestF qag (Int.tmod x (10 + 1)) (Tree.mk n1 s2 b3 l4 u5))).length) ax)),(49,.v (.int .i64 (Int.tmod x (10 + 1)))),(50,.v (.int .i32 num)),(52,.v (.bool has)),(54,.v (.string txt)),(56,.v (.agg #[.slice aT sOffsetCommitRequestF.length aU,.int .i64 qag])),(57,.v (.int .i64 (Int.tmod x (10 + 1)))),(59,.v (.slice ab ((qbe 8 sOffsetCommitRequestF qag (Int.tmod x (10 + 1)) (Tree.mk n1 s2 b3 l4 u5)).length) ac))] 6 (qad qah) (fun _ h=>h.cells) bA bz fun dP aI=>?_
 refine qe4 (i:=9) (j:=12) kz ?_ ?_
 ·
  refine (qga (d:=55) (src:=9) (dst:=24) (e:=5) (s:=txt) ay aI (by omega) fun cQ cR dQ dR aj az bB bC=>?_)
  have bD:=bB F
  have bE:=TT.ofW aj az
  refine ⟨fun _=>bE,?_⟩
  refine qaN (i:=12) kz (qal bC (f:=19) (vs:=[.agg #[.slice aT sOffsetCommitRequestF.length aU,.int .i64 qag],.int .i64 (Int.tmod x (10 + 1))]) (d:=58) kz Tryz.call19 (qcQ _ _ _ _) ?_)
  rintro e_ dS ⟨rfl,aJ⟩
  refine ⟨_,rfl,fun dT bF=>?_⟩
  have aA:=az.next_nil aJ
  have ae:=az.frN aJ
  have bG:=TT.ofW (aj.trans ae) aA
  refine ⟨fun _=>bG,?_⟩
  refine qaN (i:=14) kz (qal bF (f:=18) (vs:=[.int .i64 8,.int .i64 (Int.tmod x (10 + 1)),.int .i32 num,.bool has,.slice (some ⟨cQ,0,none⟩) ((sb txt).length) cR,.bool (decide ((Int.tmod x (10 + 1)) ≥ qag)),.slice ab ((qbe 8 sOffsetCommitRequestF qag (Int.tmod x (10 + 1)) (Tree.mk n1 s2 b3 l4 u5)).length) ac]) (d:=60) kz Tryz.call18 (qlj 8 (Int.tmod x (10 + 1)) num has (decide ((Int.tmod x (10 + 1)) ≥ qag)) _ _ (sb txt) _ _ (qbe 8 sOffsetCommitRequestF qag (Int.tmod x (10 + 1)) (Tree.mk n1 s2 b3 l4 u5)) _ (fun _ _=>True) ((bD.move ae.step immM ae.to').move (Step.refl _ Nil) nilM allF) (qcK (aA.own 0 _ rfl) (by first | omega | (rw [qbv]; decide) | (simp only [be_length]; exact Nat.le_trans (qa8 _) (by decide)) | (have:=hroom; omega) | (have:=hmade; omega) | (simp only [List.length_append,List.length_nil]; omega)) (F:=fun _ _=>True) (fun _ _ _=>trivial)) (by first | omega | (have:=hroom1; simp only [qbU]; omega))) ?_)
  rintro e_ dU ⟨bH,bI,rfl,bJ,bK⟩
  refine ⟨_,rfl,fun dV bL=>?_⟩
  obtain ⟨af,aK⟩:=aA.frFresh bK (brow bH bI 5 (qa6 8 (Int.tmod x (10 + 1)) num has (sb txt) (decide ((Int.tmod x (10 + 1)) ≥ qag)) (qbe 8 sOffsetCommitRequestF qag (Int.tmod x (10 + 1)) (Tree.mk n1 s2 b3 l4 u5)))) (Nat.le_refl _) bJ
  have bM:=TT.ofW ((aj.trans ae).trans aK) af
  refine ⟨fun _=>bM,?_⟩
  refine qaN (i:=15) kz (qal bL (f:=17) (vs:=[.slice aw ((qa6 8 (Int.tmod x (10 + 1)) num has (sb txt) (decide ((Int.tmod x (10 + 1)) ≥ qag)) (qbe 8 sOffsetCommitRequestF qag (Int.tmod x (10 + 1)) (Tree.mk n1 s2 b3 l4 u5))).length) ax,.slice bH ((qa6 8 (Int.tmod x (10 + 1)) num has (sb txt) (decide ((Int.tmod x (10 + 1)) ≥ qag)) (qbe 8 sOffsetCommitRequestF qag (Int.tmod x (10 + 1)) (Tree.mk n1 s2 b3 l4 u5))).length) bI]) (d:=61) kz Tryz.call17 (qlD _ _ _ _ (qa6 8 (Int.tmod x (10 + 1)) num has (sb txt) (decide ((Int.tmod x (10 + 1)) ≥ qag)) (qbe 8 sOffsetCommitRequestF qag (Int.tmod x (10 + 1)) (Tree.mk n1 s2 b3 l4 u5))) (qa6 8 (Int.tmod x (10 + 1)) num has (sb txt) (decide ((Int.tmod x (10 + 1)) ≥ qag)) (qbe 8 sOffsetCommitRequestF qag (Int.tmod x (10 + 1)) (Tree.mk n1 s2 b3 l4 u5))) _ _ (qcK (af.own 1 _ rfl) (by first | omega | (rw [qbv]; decide) | (simp only [be_length]; exact Nat.le_trans (qa8 _) (by decide)) | (have:=hroom; omega) | (have:=hmade; omega) | (simp only [List.length_append,List.length_nil]; omega)) (F:=fun _ _=>True) (fun _ _ _=>trivial)) (qcK (af.own 2 _ rfl) (by first | omega | (rw [qbv]; decide) | (simp only [be_length]; exact Nat.le_trans (qa8 _) (by decide)) | (have:=hroom; omega) | (have:=hmade; omega) | (simp only [List.length_append,List.length_nil]; omega)) (F:=fun _ _=>True) (fun _ _ _=>trivial))) ?_)
  rintro e_ dW ⟨rfl,aL⟩
  refine ⟨_,rfl,fun dX bN=>?_⟩
  have ak:=af.next_nil aL
  have bO:=af.frN aL
  have aM:=TT.ofW (((aj.trans ae).trans aK).trans bO) ak
  refine ⟨fun _=>aM,?_⟩
  refine qaY [16] [(62,.v (.bool (decide ((qa6 8 (Int.tmod x (10 + 1)) num has (sb txt) (decide ((Int.tmod x (10 + 1)) ≥ qag)) (qbe 8 sOffsetCommitRequestF qag (Int.tmod x (10 + 1)) (Tree.mk n1 s2 b3 l4 u5))) = qa6 8 (Int.tmod x (10 + 1)) num has (sb txt) (decide ((Int.tmod x (10 + 1)) ≥ qag)) (qbe 8 sOffsetCommitRequestF qag (Int.tmod x (10 + 1)) (Tree.mk n1 s2 b3 l4 u5))))))] 1 (qad qah) (fun _ h=>h.cells) aM bN fun dY bP=>?_
  refine qaN (i:=17) kz (qcd [8] ak.cells bP (env':=[(8,.v (.bool (decide ((qa6 8 (Int.tmod x (10 + 1)) num has (sb txt) (decide ((Int.tmod x (10 + 1)) ≥ qag)) (qbe 8 sOffsetCommitRequestF qag (Int.tmod x (10 + 1)) (Tree.mk n1 s2 b3 l4 u5))) = qa6 8 (Int.tmod x (10 + 1)) num has (sb txt) (decide ((Int.tmod x (10 + 1)) ≥ qag)) (qbe 8 sOffsetCommitRequestF qag (Int.tmod x (10 + 1)) (Tree.mk n1 s2 b3 l4 u5))))))]) kz fun dZ bQ=>?_)
  refine ⟨fun h=>absurd rfl h,?_⟩
  refine qaX kz ?_ _
  refine qaa (wp_ret (qaD bQ ak.cells (v:=.bool (decide ((qa6 8 (Int.tmod x (10 + 1)) num has (sb txt) (decide ((Int.tmod x (10 + 1)) ≥ qag)) (qbe 8 sOffsetCommitRequestF qag (Int.tmod x (10 + 1)) (Tree.mk n1 s2 b3 l4 u5))) = qa6 8 (Int.tmod x (10 + 1)) num has (sb txt) (decide ((Int.tmod x (10 + 1)) ≥ qag)) (qbe 8 sOffsetCommitRequestF qag (Int.tmod x (10 + 1)) (Tree.mk n1 s2 b3 l4 u5))))) kz ?_))
  exact ⟨by simp,ak.step⟩
 refine (qal aI (f:=19) (vs:=[.agg #[.slice aT sOffsetCommitRequestF.length aU,.int .i64 qag],.int .i64 (Int.tmod x (10 + 1))]) (d:=58) kz Tryz.call19 (qcQ _ _ _ _) ?_)
 rintro e_ d5 ⟨rfl,aN⟩
 refine ⟨_,rfl,fun d6 bR=>?_⟩
 have aO:=ay.next_nil aN
 have al:=ay.frN aN
 have bS:=TT.ofW al aO
 refine ⟨fun _=>bS,?_⟩
 refine qaN (i:=9) kz (qga (d:=55) (src:=9) (dst:=24) (e:=5) (s:=txt) aO bR (by omega) fun cS cT d7 d8 aB aC bT bU=>?_)
 have bV:=bT F
 have bW:=TT.ofW (al.trans aB) aC
 refine ⟨fun _=>bW,?_⟩
 refine qaN (i:=14) kz (qal bU (f:=18) (vs:=[.int .i64 8,.int .i64 (Int.tmod x (10 + 1)),.int .i32 num,.bool has,.slice (some ⟨cS,0,none⟩) ((sb txt).length) cT,.bool (decide ((Int.tmod x (10 + 1)) ≥ qag)),.slice ab ((qbe 8 sOffsetCommitRequestF qag (Int.tmod x (10 + 1)) (Tree.mk n1 s2 b3 l4 u5)).length) ac]) (d:=60) kz Tryz.call18 (qlj 8 (Int.tmod x (10 + 1)) num has (decide ((Int.tmod x (10 + 1)) ≥ qag)) _ _ (sb txt) _ _ (qbe 8 sOffsetCommitRequestF qag (Int.tmod x (10 + 1)) (Tree.mk n1 s2 b3 l4 u5)) _ (fun _ _=>True) (bV.move (Step.refl _ Nil) nilM allF) (qcK (aC.own 0 _ rfl) (by first | omega | (rw [qbv]; decide) | (simp only [be_length]; exact Nat.le_trans (qa8 _) (by decide)) | (have:=hroom; omega) | (have:=hmade; omega) | (simp only [List.length_append,List.length_nil]; omega)) (F:=fun _ _=>True) (fun _ _ _=>trivial)) (by first | omega | (have:=hroom1; simp only [qbU]; omega))) ?_)
 rintro e_ d9 ⟨bX,bY,rfl,bZ,b8⟩
 refine ⟨_,rfl,fun ea cd=>?_⟩
 obtain ⟨ag,aP⟩:=aC.frFresh b8 (brow bX bY 5 (qa6 8 (Int.tmod x (10 + 1)) num has (sb txt) (decide ((Int.tmod x (10 + 1)) ≥ qag)) (qbe 8 sOffsetCommitRequestF qag (Int.tmod x (10 + 1)) (Tree.mk n1 s2 b3 l4 u5)))) (Nat.le_refl _) bZ
 have ce:=TT.ofW ((al.trans aB).trans aP) ag
 refine ⟨fun _=>ce,?_⟩
 refine qaN (i:=15) kz (qal cd (f:=17) (vs:=[.slice aw ((qa6 8 (Int.tmod x (10 + 1)) num has (sb txt) (decide ((Int.tmod x (10 + 1)) ≥ qag)) (qbe 8 sOffsetCommitRequestF qag (Int.tmod x (10 + 1)) (Tree.mk n1 s2 b3 l4 u5))).length) ax,.slice bX ((qa6 8 (Int.tmod x (10 + 1)) num has (sb txt) (decide ((Int.tmod x (10 + 1)) ≥ qag)) (qbe 8 sOffsetCommitRequestF qag (Int.tmod x (10 + 1)) (Tree.mk n1 s2 b3 l4 u5))).length) bY]) (d:=61) kz Tryz.call17 (qlD _ _ _ _ (qa6 8 (Int.tmod x (10 + 1)) num has (sb txt) (decide ((Int.tmod x (10 + 1)) ≥ qag)) (qbe 8 sOffsetCommitRequestF qag (Int.tmod x (10 + 1)) (Tree.mk n1 s2 b3 l4 u5))) (qa6 8 (Int.tmod x (10 + 1)) num has (sb txt) (decide ((Int.tmod x (10 + 1)) ≥ qag)) (qbe 8 sOffsetCommitRequestF qag (Int.tmod x (10 + 1)) (Tree.mk n1 s2 b3 l4 u5))) _ _ (qcK (ag.own 1 _ rfl) (by first | omega | (rw [qbv]; decide) | (simp only [be_length]; exact Nat.le_trans (qa8 _) (by decide)) | (have:=hroom; omega) | (have:=hmade; omega) | (simp only [List.length_append,List.length_nil]; omega)) (F:=fun _ _=>True) (fun _ _ _=>trivial)) (qcK (ag.own 2 _ rfl) (by first | omega | (rw [qbv]; decide) | (simp only [be_length]; exact Nat.le_trans (qa8 _) (by decide)) | (have:=hroom; omega) | (have:=hmade; omega) | (simp only [List.length_append,List.length_nil]; omega)) (F:=fun _ _=>True) (fun _ _ _=>trivial))) ?_)
 rintro e_ eb ⟨rfl,aQ⟩
 refine ⟨_,rfl,fun ec cg=>?_⟩
 have am:=ag.next_nil aQ
 have cm:=ag.frN aQ
 have aR:=TT.ofW (((al.trans aB).trans aP).trans cm) am
 refine ⟨fun _=>aR,?_⟩
 refine qaY [16] [(62,.v (.bool (decide ((qa6 8 (Int.tmod x (10 + 1)) num has (sb txt) (decide ((Int.tmod x (10 + 1)) ≥ qag)) (qbe 8 sOffsetCommitRequestF qag (Int.tmod x (10 + 1)) (Tree.mk n1 s2 b3 l4 u5))) = qa6 8 (Int.tmod x (10 + 1)) num has (sb txt) (decide ((Int.tmod x (10 + 1)) ≥ qag)) (qbe 8 sOffsetCommitRequestF qag (Int.tmod x (10 + 1)) (Tree.mk n1 s2 b3 l4 u5))))))] 1 (qad qah) (fun _ h=>h.cells) aR cg fun ee cq=>?_
 refine qaN (i:=17) kz (qcd [8] am.cells cq (env':=[(8,.v (.bool (decide ((qa6 8 (Int.tmod x (10 + 1)) num has (sb txt) (decide ((Int.tmod x (10 + 1)) ≥ qag)) (qbe 8 sOffsetCommitRequestF qag (Int.tmod x (10 + 1)) (Tree.mk n1 s2 b3 l4 u5))) = qa6 8 (Int.tmod x (10 + 1)) num has (sb txt) (decide ((Int.tmod x (10 + 1)) ≥ qag)) (qbe 8 sOffsetCommitRequestF qag (Int.tmod x (10 + 1)) (Tree.mk n1 s2 b3 l4 u5))))))]) kz fun ef cr=>?_)
 refine ⟨fun h=>absurd rfl h,?_⟩
 refine qaX kz ?_ _
 refine qaa (wp_ret (qaD cr am.cells (v:=.bool (decide ((qa6 8 (Int.tmod x (10 + 1)) num has (sb txt) (decide ((Int.tmod x (10 + 1)) ≥ qag)) (qbe 8 sOffsetCommitRequestF qag (Int.tmod x (10 + 1)) (Tree.mk n1 s2 b3 l4 u5))) = qa6 8 (Int.tmod x (10 + 1)) num has (sb txt) (decide ((Int.tmod x (10 + 1)) ≥ qag)) (qbe 8 sOffsetCommitRequestF qag (Int.tmod x (10 + 1)) (Tree.mk n1 s2 b3 l4 u5))))) kz ?_))
 exact ⟨by simp,am.step⟩
theorem qdp (x:Int) (hx:0 ≤ x ∧ x ≤ 255) (has:Bool) (txt:ByteArray) (num:Int) (ct:List Value) (t:Tree) (w:World) (F:Nat → Nat → Prop) (htl:txt.size ≤ 1048576) (hnum:-2147483648 ≤ num ∧ num ≤ 2147483647) (ht:TreeR w F ct t) (hsz:t.size ≤ 8388608):Calls Tryz.prog 3 #[.int .u8 x,.agg #[.bool has,.string txt],.int .i32 num,.agg ct.toArray] w (qcF w (.bool true)):=by
 obtain ⟨g0,g1⟩:=qmg (m:=10 + 1) hx.1 hx.2 (by decide) (by decide)
 have hp:qak (IntKind.i16.wrap (Int.tmod x (10 + 1))) (fitT (Int.tmod x (10 + 1)) 8 sOffsetCommitRequestF t) = qbe 8 sOffsetCommitRequestF qag (Int.tmod x (10 + 1)) t:=by rw [qg5 g0 g1]; exact qdw (Int.tmod x (10 + 1)) g0 g1 t
 have h1:=qjO 8 sOffsetCommitRequestF qag (Int.tmod x (10 + 1)) t
 have h2:qhG sOffsetCommitRequestF ≤ 131000:=by decide +kernel
 have h3:=Nat.mul_le_mul h2 hsz
 exact qdG x hx.1 (by omega) has txt htl num ct t w F ht (by omega) (qdh (Int.tmod x (10 + 1)) t) (qiN _ _ _ _ ht.ranged) (by rw [qg5 g0 g1]; rfl) hp
end Go.Proofs.YtogokkkdfcgncaaGreatDoor.ME