/- The texts of a claim, put together: the engine, the contracts, the law. Own work. -/
import Derived.Test.YtogokkkdfcgncaaGreatDoorWf5P5
import Derived.Lib.ConvBytes
namespace Go.Proofs.YtogokkkdfcgncaaGreatDoor.ME
open Go
open Go.RowKit
set_option linter.unusedVariables false
set_option linter.unusedSimpArgs false
set_option maxRecDepth 20000
abbrev z0 (x0) (x1:DV):=([.int .i16 (IntKind.i16.wrap x0),.string ((x1.f 0).s),.string ((x1.f 1).s),.int .i64 ((x1.f 2).n),.int .i16 ((x1.f 3).n),.int .i32 ((x1.f 4).n),.string ((x1.f 5).s),.pointer ((x1.f 6).A),.slice ((x1.f 7).A) ((x1.f 7).l) ((x1.f 7).c),.map x1.m]:List Value)
abbrev z1 (x0) (x1) (x2) (x3) (x4) (x5:DV) (x6) (x7) (x8) (x9) (x10):=([⟨x0,0,[.bool x1,.string x2],true⟩,⟨x3,0,[.int .i16 (IntKind.i16.wrap x4),.string ((x5.f 0).s),.string ((x5.f 1).s),.int .i64 ((x5.f 2).n),.int .i16 ((x5.f 3).n),.int .i32 ((x5.f 4).n),.string ((x5.f 5).s),.pointer ((x5.f 6).A),.slice ((x5.f 7).A) ((x5.f 7).l) ((x5.f 7).c),.map x5.m],true⟩,⟨x6,0,[.bool x1,.string x2],true⟩,⟨x7,0,[.pointer none],true⟩,⟨x8,0,[.string x2],true⟩,⟨x9,0,[.pointer (some ⟨x8,0,none⟩)],true⟩,⟨x10,0,[.func (.func 131) #[] #[.pointer (some ⟨x8,0,none⟩)]],true⟩]:Tb)
abbrev z2 (x0) (x1) (x2) (x3) (x4) (x5:DV) (x6) (x7):=([⟨x0,0,[.bool x1,.string x2],true⟩,⟨x3,0,[.int .i16 (IntKind.i16.wrap x4),.string ((x5.f 0).s),.string ((x5.f 1).s),.int .i64 ((x5.f 2).n),.int .i16 ((x5.f 3).n),.int .i32 ((x5.f 4).n),.string ((x5.f 5).s),.pointer ((x5.f 6).A),.slice ((x5.f 7).A) ((x5.f 7).l) ((x5.f 7).c),.map x5.m],true⟩,⟨x6,0,[.bool x1,.string x2],true⟩,⟨x7,0,[.pointer none],true⟩]:Tb)
abbrev z13 (x0) (x1) (x2) (x3) (x4) (x5) (x6) (x7) (x8):=([⟨some ⟨x0,0,none⟩,1,96,1,1,[.iface 147 (.agg #[.func (.func 131) #[] #[.pointer (some ⟨x1,0,none⟩)]])]⟩,brow x2 x3 5 (((([]:Bs) ++ [by8 0,by8 0,by8 0,by8 0] ++ be 2 28 ++ be 2 (IntKind.i16.wrap x4) ++ be 4 x5) ++ (be 2 x6 ++ sb x7) ++ [by8 0]) ++ qaa (IntKind.i16.wrap x4) x8)]:List Rw)
abbrev z8 (x0) (x1) (x2) (x3) (x4) (x5) (x6) (x7) (x8):=([⟨some ⟨x0,0,none⟩,1,96,1,1,[.iface 147 (.agg #[.func (.func 131) #[] #[.pointer (some ⟨x1,0,none⟩)]])]⟩,⟨x2,x3,5,1,(((([]:Bs) ++ [by8 0,by8 0,by8 0,by8 0] ++ be 2 28 ++ be 2 (IntKind.i16.wrap x4) ++ be 4 x5) ++ (be 2 x6 ++ sb x7) ++ [by8 0]) ++ qaa (IntKind.i16.wrap x4) x8).length,bc (be 4 (IntKind.i32.wrap ((((((([]:Bs) ++ [by8 0,by8 0,by8 0,by8 0] ++ be 2 28 ++ be 2 (IntKind.i16.wrap x4) ++ be 4 x5) ++ (be 2 x6 ++ sb x7) ++ [by8 0]) ++ qaa (IntKind.i16.wrap x4) x8).length) - 4:Nat):Int)) ++ (((([]:Bs) ++ [by8 0,by8 0,by8 0,by8 0] ++ be 2 28 ++ be 2 (IntKind.i16.wrap x4) ++ be 4 x5) ++ (be 2 x6 ++ sb x7) ++ [by8 0]) ++ qaa (IntKind.i16.wrap x4) x8).drop 4)⟩]:List Rw)
abbrev z14 (x0) (x1) (x2) (x3) (x4) (x5) (x6) (x7) (x8):=([⟨some ⟨x0,0,none⟩,1,96,1,1,[.iface 147 (.agg #[.func (.func 131) #[] #[.pointer (some ⟨x1,0,none⟩)]])]⟩,brow x2 x3 5 (((([]:Bs) ++ [by8 0,by8 0,by8 0,by8 0] ++ be 2 28 ++ be 2 (IntKind.i16.wrap x4) ++ be 4 x5) ++ (be 2 x6 ++ sb x7)) ++ qaa (IntKind.i16.wrap x4) x8)]:List Rw)
abbrev z10 (x0) (x1) (x2) (x3) (x4) (x5) (x6) (x7) (x8):=([⟨some ⟨x0,0,none⟩,1,96,1,1,[.iface 147 (.agg #[.func (.func 131) #[] #[.pointer (some ⟨x1,0,none⟩)]])]⟩,⟨x2,x3,5,1,(((([]:Bs) ++ [by8 0,by8 0,by8 0,by8 0] ++ be 2 28 ++ be 2 (IntKind.i16.wrap x4) ++ be 4 x5) ++ (be 2 x6 ++ sb x7)) ++ qaa (IntKind.i16.wrap x4) x8).length,bc (be 4 (IntKind.i32.wrap ((((((([]:Bs) ++ [by8 0,by8 0,by8 0,by8 0] ++ be 2 28 ++ be 2 (IntKind.i16.wrap x4) ++ be 4 x5) ++ (be 2 x6 ++ sb x7)) ++ qaa (IntKind.i16.wrap x4) x8).length) - 4:Nat):Int)) ++ (((([]:Bs) ++ [by8 0,by8 0,by8 0,by8 0] ++ be 2 28 ++ be 2 (IntKind.i16.wrap x4) ++ be 4 x5) ++ (be 2 x6 ++ sb x7)) ++ qaa (IntKind.i16.wrap x4) x8).drop 4)⟩]:List Rw)
abbrev z11 (x0) (x1) (x2) (x3) (x4):=([⟨x0,x1,5,1,((([]:Bs) ++ [by8 0,by8 0,by8 0,by8 0] ++ be 2 28 ++ be 2 (IntKind.i16.wrap x2) ++ be 4 x3 ++ be 2 (-1) ++ [by8 0]) ++ qaa (IntKind.i16.wrap x2) x4).length,bc (be 4 (IntKind.i32.wrap (((((([]:Bs) ++ [by8 0,by8 0,by8 0,by8 0] ++ be 2 28 ++ be 2 (IntKind.i16.wrap x2) ++ be 4 x3 ++ be 2 (-1) ++ [by8 0]) ++ qaa (IntKind.i16.wrap x2) x4).length) - 4:Nat):Int)) ++ ((([]:Bs) ++ [by8 0,by8 0,by8 0,by8 0] ++ be 2 28 ++ be 2 (IntKind.i16.wrap x2) ++ be 4 x3 ++ be 2 (-1) ++ [by8 0]) ++ qaa (IntKind.i16.wrap x2) x4).drop 4)⟩]:List Rw)
abbrev z15 (x0) (x1) (x2) (x3) (x4):=([⟨x0,x1,5,1,((([]:Bs) ++ [by8 0,by8 0,by8 0,by8 0] ++ be 2 28 ++ be 2 (IntKind.i16.wrap x2) ++ be 4 x3 ++ be 2 (-1)) ++ qaa (IntKind.i16.wrap x2) x4).length,bc (be 4 (IntKind.i32.wrap (((((([]:Bs) ++ [by8 0,by8 0,by8 0,by8 0] ++ be 2 28 ++ be 2 (IntKind.i16.wrap x2) ++ be 4 x3 ++ be 2 (-1)) ++ qaa (IntKind.i16.wrap x2) x4).length) - 4:Nat):Int)) ++ ((([]:Bs) ++ [by8 0,by8 0,by8 0,by8 0] ++ be 2 28 ++ be 2 (IntKind.i16.wrap x2) ++ be 4 x3 ++ be 2 (-1)) ++ qaa (IntKind.i16.wrap x2) x4).drop 4)⟩]:List Rw)
abbrev z19 (x0) (x1) (x2) (x3):=([⟨some ⟨x0,0,none⟩,1,96,1,1,[.iface 147 (.agg #[.func (.func 131) #[] #[.pointer (some ⟨x1,0,none⟩)]])]⟩,brow x2 x3 5 (([]:Bs) ++ [by8 0,by8 0,by8 0,by8 0] ++ be 2 28)]:List Rw)
abbrev z17 (x0) (x1) (x2) (x3) (x4):=([⟨some ⟨x0,0,none⟩,1,96,1,1,[.iface 147 (.agg #[.func (.func 131) #[] #[.pointer (some ⟨x1,0,none⟩)]])]⟩,brow x2 x3 5 (([]:Bs) ++ [by8 0,by8 0,by8 0,by8 0] ++ be 2 28 ++ be 2 (IntKind.i16.wrap x4))]:List Rw)
abbrev z16 (x0) (x1) (x2) (x3) (x4) (x5):=([⟨some ⟨x0,0,none⟩,1,96,1,1,[.iface 147 (.agg #[.func (.func 131) #[] #[.pointer (some ⟨x1,0,none⟩)]])]⟩,brow x2 x3 5 (([]:Bs) ++ [by8 0,by8 0,by8 0,by8 0] ++ be 2 28 ++ be 2 (IntKind.i16.wrap x4) ++ be 4 x5)]:List Rw)
abbrev z25 :=([.int .i16 0,.string ByteArray.empty,.string ByteArray.empty,.int .i64 0,.int .i16 0,.int .i32 0,.string ByteArray.empty,.pointer none,.slice none 0 0,.map none]:List Value)
abbrev z24 :=([.int .i16 0,.string ByteArray.empty,.string ByteArray.empty,.int .i64 0,.int .i16 0,.int .i32 (-1),.string ByteArray.empty,.pointer none,.slice none 0 0,.map none]:List Value)
abbrev z30 (x0) (x1) (x2) (x3):=([⟨some ⟨x0,0,none⟩,1,96,1,1,[.iface 147 (.agg #[.func (.func 131) #[] #[.pointer (some ⟨x1,0,none⟩)]])]⟩,brow x2 x3 5 (([]:Bs) ++ [by8 0,by8 0,by8 0,by8 0])]:List Rw)
abbrev z27 (x0) (x1) (x2) (x3) (x4) (x5) (x6) (x7):=([⟨some ⟨x0,0,none⟩,1,96,1,1,[.iface 147 (.agg #[.func (.func 131) #[] #[.pointer (some ⟨x1,0,none⟩)]])]⟩,brow x2 x3 5 ((([]:Bs) ++ [by8 0,by8 0,by8 0,by8 0] ++ be 2 28 ++ be 2 (IntKind.i16.wrap x4) ++ be 4 x5) ++ (be 2 x6 ++ sb x7))]:List Rw)
abbrev z26 (x0) (x1) (x2) (x3) (x4) (x5) (x6) (x7):=([⟨some ⟨x0,0,none⟩,1,96,1,1,[.iface 147 (.agg #[.func (.func 131) #[] #[.pointer (some ⟨x1,0,none⟩)]])]⟩,brow x2 x3 5 ((([]:Bs) ++ [by8 0,by8 0,by8 0,by8 0] ++ be 2 28 ++ be 2 (IntKind.i16.wrap x4) ++ be 4 x5) ++ (be 2 x6 ++ sb x7) ++ [by8 0])]:List Rw)
set_option maxHeartbeats 4000000 in
theorem qds (has:Bool) (txt:ByteArray) (num v:Int) (T:Tree) {A2:Option Addr} {c2:Nat} {w:World} {F:Nat → Nat → Prop} (hs_:Octs w F A2 c2 (qaj (IntKind.i16.wrap v) T)) (hc:qa5 T) (hkey:T.ranged) (htx:txt.size ≤ 32767) (hroom:txt.size + (qaj (IntKind.i16.wrap v) T).length + 64 ≤ 1099511627776) :
  Calls Tryz.prog 22 #[.agg #[.bool has,.string txt],.int .i32 num,.int .i64 v,.slice A2 (qaj (IntKind.i16.wrap v) T).length c2] w (fun e w'=>∃ A c,e = .returned (.tuple #[.slice A (qba 28 (IntKind.i16.wrap v) num has (sb txt) (decide ((IntKind.i16.wrap v) ≥ 3)) (qaj (IntKind.i16.wrap v) T)).length c,.bool true]) ∧ w'.ownsRow w.heap.size 5 1 (.slice A (qba 28 (IntKind.i16.wrap v) num has (sb txt) (decide ((IntKind.i16.wrap v) ≥ 3)) (qaj (IntKind.i16.wrap v) T)).length c) (qba 28 (IntKind.i16.wrap v) num has (sb txt) (decide ((IntKind.i16.wrap v) ≥ 3)) (qaj (IntKind.i16.wrap v) T)).length (bc (qba 28 (IntKind.i16.wrap v) num has (sb txt) (decide ((IntKind.i16.wrap v) ≥ 3)) (qaj (IntKind.i16.wrap v) T))) ∧ Step w w' Nil):=by
 refine enter (n:=26) Tryz.func22 rfl Tryz.ntmps22 kz fun a hE=>?_
 have hW:=WOk.start w Nil
 have hsm2:=Slots.small hs_
 refine qae [0,1,2] kz ?_
 refine qam (qbk hW hE (d:=4) (cs:=[.bool has,.string txt]) kz fun b1 a2 w3 hb4 hz5 hF6 hW7 hE8=>?_)
 refine qak [1,2] [] [(1,.v (.int .i32 num)),(2,.v (.int .i64 v)),(3,.v (.slice A2 ((qaj (IntKind.i16.wrap v) T).length) c2)),(4,.p 0 0)] hW7 hE8 fun a9 lu=>?_
 refine qaf (qab ?_)
 refine qae [0,1] kz ?_
 refine qam (qa9 lu (f:=47) (vs:=[]) (d:=11) (n':=3) kz Tryz.call47 Tryz.func47 rfl Tryz.ntmps47 kz fun rW lv=>?_)
 refine qar [] hW7 lv fun rX lw=>?_
 refine qae [0] kz ?_
 refine qam (qbc hW7 lw (d:=1) (cs:=z25) kz fun ac rY rZ mG mH mI dY lx=>?_)
 refine qaf (qab ?_)
 refine qae [0] kz ?_
 refine qam (qa9 lx (f:=92) (vs:=[.pointer (some ⟨ac,0,none⟩)]) (d:=2) (n':=5) kz Tryz.call92 Tryz.func92 rfl Tryz.ntmps92 kz fun r0 ly=>?_)
 have lz:=ly.recast 0 (.v (.pointer (some ⟨ac,0,none⟩))) (.p 1 0) rfl rfl (Nat.le_of_ble_eq_true (n:=2) rfl)
 refine qas [0,1,2,3] kz ?_
 refine qak [0,1,2] [3] [(4,.p 1 5)] dY lz fun r2 lA=>?_
 refine qam (qaM dY lA (oi:=1) (cs:=z24) kz fun r3 mJ bF lB=>?_)
 refine qaf (qcr lB bF.cells (v:=.tuple #[]) kz ?_)
 refine ⟨_,rfl,fun r4 lC=>?_⟩
 have lD:=(EnvOk.places (tb':=[⟨b1,0,[.bool has,.string txt],true⟩,⟨ac,0,[.int .i16 0,.string ByteArray.empty,.string ByteArray.empty,.int .i64 0,.int .i16 0,.int .i32 (-1),.string ByteArray.empty,.pointer none,.slice none 0 0,.map none],true⟩]) lC (show Pl [⟨b1,0,[.bool has,.string txt],true⟩,⟨ac,0,[.int .i16 0,.string ByteArray.empty,.string ByteArray.empty,.int .i64 0,.int .i16 0,.int .i32 0,.string ByteArray.empty,.pointer none,.slice none 0 0,.map none],true⟩] [⟨b1,0,[.bool has,.string txt],true⟩,⟨ac,0,[.int .i16 0,.string ByteArray.empty,.string ByteArray.empty,.int .i64 0,.int .i16 0,.int .i32 (-1),.string ByteArray.empty,.pointer none,.slice none 0 0,.map none],true⟩] from ⟨rfl,rfl,⟨rfl,rfl,trivial⟩⟩)).pk (env':=[(2,.v (.tuple #[])),(1,.p 1 0)])
 refine qaf (qab ?_)
 refine qar [(0,.p 1 0)] bF lD fun r5 lE=>?_
 refine wp_ret (qaE lE bF.cells (v:=.pointer (some ⟨ac,0,none⟩)) kz ?_)
 refine ⟨_,rfl,fun r6 lF=>?_⟩
 have lG:=(EnvOk.places (tb':=[⟨b1,0,[.bool has,.string txt],true⟩,⟨ac,0,[.int .i16 0,.string ByteArray.empty,.string ByteArray.empty,.int .i64 0,.int .i16 0,.int .i32 (-1),.string ByteArray.empty,.pointer none,.slice none 0 0,.map none],true⟩]) lF (show Pl [⟨b1,0,[.bool has,.string txt],true⟩] [⟨b1,0,[.bool has,.string txt],true⟩,⟨ac,0,[.int .i16 0,.string ByteArray.empty,.string ByteArray.empty,.int .i64 0,.int .i16 0,.int .i32 (-1),.string ByteArray.empty,.pointer none,.slice none 0 0,.map none],true⟩] from ⟨rfl,rfl,trivial⟩)).pk (env':=[(11,.v (.pointer (some ⟨ac,0,none⟩))),(1,.v (.int .i32 num)),(2,.v (.int .i64 v)),(3,.v (.slice A2 ((qaj (IntKind.i16.wrap v) T).length) c2)),(4,.p 0 0)])
 have lH:=lG.recast 11 (.v (.pointer (some ⟨ac,0,none⟩))) (.p 1 0) rfl rfl (Nat.le_of_ble_eq_true (n:=2) rfl)
 have lI:=lH.pick (ks:=[1,2,3,4,11]) (env':=[(1,.v (.int .i32 num)),(2,.v (.int .i64 v)),(3,.v (.slice A2 ((qaj (IntKind.i16.wrap v) T).length) c2)),(4,.p 0 0),(11,.p 1 0)]) kz
 refine qak [1] [] [(1,.v (.int .i32 num)),(2,.v (.int .i64 v)),(3,.v (.slice A2 ((qaj (IntKind.i16.wrap v) T).length) c2)),(4,.p 0 0),(10,.p 1 0)] bF lI fun r7 lJ=>?_
 refine qaf (qab ?_)
 refine qae [0,1,2,3] kz ?_
 refine qak [0,1,2] [3] [(1,.v (.int .i32 num)),(3,.v (.slice A2 ((qaj (IntKind.i16.wrap v) T).length) c2)),(4,.p 0 0),(10,.p 1 0),(12,.p 1 0),(14,.v (.int .i16 (IntKind.i16.wrap v)))] bF lJ fun r8 lK=>?_
 refine qam (qa9 lK (f:=50) (vs:=[.pointer (some ⟨ac,0,none⟩),.int .i16 (IntKind.i16.wrap v)]) (d:=15) (n':=8) kz Tryz.call50 Tryz.func50 rfl Tryz.ntmps50 kz fun r9 lL=>?_)
 have lM:=lL.recast 0 (.v (.pointer (some ⟨ac,0,none⟩))) (.p 1 0) rfl rfl (Nat.le_of_ble_eq_true (n:=2) rfl)
 refine qas [0,1,2,3,4] kz ?_
 refine qak [0,1,2,3] [4] [(5,.v (.int .i16 (IntKind.i16.wrap v))),(7,.p 1 0)] bF lM fun sa lN=>?_
 refine qam (qaM bF lN (oi:=1) (cs:=[.int .i16 (IntKind.i16.wrap v),.string ByteArray.empty,.string ByteArray.empty,.int .i64 0,.int .i16 0,.int .i32 (-1),.string ByteArray.empty,.pointer none,.slice none 0 0,.map none]) kz fun sc mK cH lO=>?_)
 refine qaf (qcr lO cH.cells (v:=.tuple #[]) kz ?_)
 refine ⟨_,rfl,fun sd lP=>?_⟩
 have lQ:=(EnvOk.places (tb':=[⟨b1,0,[.bool has,.string txt],true⟩,⟨ac,0,[.int .i16 (IntKind.i16.wrap v),.string ByteArray.empty,.string ByteArray.empty,.int .i64 0,.int .i16 0,.int .i32 (-1),.string ByteArray.empty,.pointer none,.slice none 0 0,.map none],true⟩]) lP (show Pl [⟨b1,0,[.bool has,.string txt],true⟩,⟨ac,0,[.int .i16 0,.string ByteArray.empty,.string ByteArray.empty,.int .i64 0,.int .i16 0,.int .i32 (-1),.string ByteArray.empty,.pointer none,.slice none 0 0,.map none],true⟩] [⟨b1,0,[.bool has,.string txt],true⟩,⟨ac,0,[.int .i16 (IntKind.i16.wrap v),.string ByteArray.empty,.string ByteArray.empty,.int .i64 0,.int .i16 0,.int .i32 (-1),.string ByteArray.empty,.pointer none,.slice none 0 0,.map none],true⟩] from ⟨rfl,rfl,⟨rfl,rfl,trivial⟩⟩)).pk (env':=[(15,.v (.tuple #[])),(1,.v (.int .i32 num)),(3,.v (.slice A2 ((qaj (IntKind.i16.wrap v) T).length) c2)),(4,.p 0 0),(10,.p 1 0),(12,.p 1 0),(14,.v (.int .i16 (IntKind.i16.wrap v)))])
 refine qaf (qab ?_)
 refine wp_seq (qae [0,1,2,3,4] kz ?_)
 refine qak [0,1] [2,3,4] [(1,.v (.int .i32 num)),(4,.p 0 0),(10,.p 1 0),(16,.p 1 0),(17,.v (.slice A2 ((qaj (IntKind.i16.wrap v) T).length) c2))] cH lQ fun se lR=>?_
 have cz:=cH.addNil 5 1
 have mL:=cH.frNil 5 1
 refine qam (qaJ cz lR (k:=0) (d:=18) (t:=24) (e:=5) (size:=1) (bytes:=1) (A:=none) (As:=A2) (m0:=0) (c:=0) (m:=((qaj (IntKind.i16.wrap v) T).length)) (cs:=c2) (xs:=[]) (news:=bc (qaj (IntKind.i16.wrap v) T)) kz kz rfl (hs_.move cz.step nilM cz.imm).src (hs_.move cz.step nilM cz.imm).cap (by first | omega | (simp only [List.length_append,List.length_cons,List.length_nil,be_length,qbX]; omega) | (simp; omega)) fun cv cw sf sg mM lS lT=>?_)
 have lU:(⟨cv,cw,5,1,0 + (qaj (IntKind.i16.wrap v) T).length,[] ++ bc (qaj (IntKind.i16.wrap v) T)⟩:Rw) = brow cv cw 5 (qaj (IntKind.i16.wrap v) T):=by rw [List.nil_append,Nat.zero_add]
 obtain ⟨cI,mN⟩:=lS.rowEq 0 [brow cv cw 5 (qaj (IntKind.i16.wrap v) T)] lU
 have lV:=EnvOk.pick lT (ks:=[1,4,10,16,17,18]) (env':=[(1,.v (.int .i32 num)),(4,.p 0 0),(10,.p 1 0),(16,.p 1 0),(17,.v (.slice A2 ((qaj (IntKind.i16.wrap v) T).length) c2)),(18,.v (.slice cv (0 + (qaj (IntKind.i16.wrap v) T).length) cw))]) kz
 have lW:=lV.cast (env':=[(1,.v (.int .i32 num)),(4,.p 0 0),(10,.p 1 0),(16,.p 1 0),(17,.v (.slice A2 ((qaj (IntKind.i16.wrap v) T).length) c2)),(18,.v (.slice cv ((qaj (IntKind.i16.wrap v) T).length) cw))]) (by simp only [List.length_append,List.length_cons,List.length_nil,Nat.zero_add])
 refine qam (qa9 lW (f:=51) (vs:=[.pointer (some ⟨ac,0,none⟩),.slice cv ((qaj (IntKind.i16.wrap v) T).length) cw]) (d:=19) (n':=8) kz Tryz.call51 Tryz.func51 rfl Tryz.ntmps51 kz fun sh lX=>?_)
 have lY:=lX.recast 0 (.v (.pointer (some ⟨ac,0,none⟩))) (.p 1 0) rfl rfl (Nat.le_of_ble_eq_true (n:=2) rfl)
 refine qar [(0,.p 1 0),(1,.v (.slice cv ((qaj (IntKind.i16.wrap v) T).length) cw))] cI lY fun si lZ=>?_
 refine qae [0,1,2,3] kz ?_
 refine qak [0,1] [2,3] [(5,.p 1 0),(6,.v (.slice cv ((qaj (IntKind.i16.wrap v) T).length) cw))] cI lZ fun sj l0=>?_
 have l3:=cI.giveUp (G:=F) 0 [] (show _ = some (brow cv cw 5 (qaj (IntKind.i16.wrap v) T)) from rfl) (by omega)
 obtain ⟨dZ,mO⟩:=cI.cutR 0 []
 refine qam (qal l0 (f:=94) (vs:=[.pointer (some ⟨ac,0,none⟩),.slice cv ((qaj (IntKind.i16.wrap v) T).length) cw,.bool false]) (d:=7) kz Tryz.call94 (qdq (IntKind.i16.wrap v) T (Str.of dZ 1 rfl) l3 (qmE 1 rfl) hc hkey) ?_)
 rintro e_ sk ⟨aa,rfl,l5,l6,ba,d5⟩
 replace ba:=qdr _ _ _ ba
 obtain ⟨cA,mQ,l7⟩:=dZ.wrote 1 [⟨b1,0,[.bool has,.string txt],true⟩,⟨ac,0,(z0 v aa),true⟩] rfl d5 l5
 have cJ:=qaW _ (Step.refl _ Nil) nilM l7 l6
 refine ⟨_,rfl,fun sl l9=>?_⟩
 have ma:=(EnvOk.places (tb':=[⟨b1,0,[.bool has,.string txt],true⟩,⟨ac,0,[.int .i16 (IntKind.i16.wrap v),.string ((aa.f 0).s),.string ((aa.f 1).s),.int .i64 ((aa.f 2).n),.int .i16 ((aa.f 3).n),.int .i32 ((aa.f 4).n),.string ((aa.f 5).s),.pointer ((aa.f 6).A),.slice ((aa.f 7).A) ((aa.f 7).l) ((aa.f 7).c),.map aa.m],true⟩]) l9 (show Pl [⟨b1,0,[.bool has,.string txt],true⟩,⟨ac,0,[.int .i16 (IntKind.i16.wrap v),.string ByteArray.empty,.string ByteArray.empty,.int .i64 0,.int .i16 0,.int .i32 (-1),.string ByteArray.empty,.pointer none,.slice none 0 0,.map none],true⟩] [⟨b1,0,[.bool has,.string txt],true⟩,⟨ac,0,[.int .i16 (IntKind.i16.wrap v),.string ((aa.f 0).s),.string ((aa.f 1).s),.int .i64 ((aa.f 2).n),.int .i16 ((aa.f 3).n),.int .i32 ((aa.f 4).n),.string ((aa.f 5).s),.pointer ((aa.f 6).A),.slice ((aa.f 7).A) ((aa.f 7).l) ((aa.f 7).c),.map aa.m],true⟩] from ⟨rfl,rfl,⟨rfl,rfl,trivial⟩⟩)).pk (env':=[(7,.v (.nilIface)),(5,.p 1 0),(6,.v (.slice cv ((qaj (IntKind.i16.wrap v) T).length) cw))])
 have hv88l:=congrArg List.length ba
 refine qak [3] [] [(4,.v (.nilIface))] cA ma fun sm mc=>?_
 refine qaf (qab ?_)
 refine wp_ret (qaE mc cA.cells (v:=.nilIface) kz ?_)
 refine ⟨_,rfl,fun sn d6=>?_⟩
 have d7:=(EnvOk.places (tb':=[⟨b1,0,[.bool has,.string txt],true⟩,⟨ac,0,[.int .i16 (IntKind.i16.wrap v),.string ((aa.f 0).s),.string ((aa.f 1).s),.int .i64 ((aa.f 2).n),.int .i16 ((aa.f 3).n),.int .i32 ((aa.f 4).n),.string ((aa.f 5).s),.pointer ((aa.f 6).A),.slice ((aa.f 7).A) ((aa.f 7).l) ((aa.f 7).c),.map aa.m],true⟩]) d6 (show Pl [⟨b1,0,[.bool has,.string txt],true⟩,⟨ac,0,[.int .i16 (IntKind.i16.wrap v),.string ByteArray.empty,.string ByteArray.empty,.int .i64 0,.int .i16 0,.int .i32 (-1),.string ByteArray.empty,.pointer none,.slice none 0 0,.map none],true⟩] [⟨b1,0,[.bool has,.string txt],true⟩,⟨ac,0,[.int .i16 (IntKind.i16.wrap v),.string ((aa.f 0).s),.string ((aa.f 1).s),.int .i64 ((aa.f 2).n),.int .i16 ((aa.f 3).n),.int .i32 ((aa.f 4).n),.string ((aa.f 5).s),.pointer ((aa.f 6).A),.slice ((aa.f 7).A) ((aa.f 7).l) ((aa.f 7).c),.map aa.m],true⟩] from ⟨rfl,rfl,⟨rfl,rfl,trivial⟩⟩)).pk (env':=[(19,.v (.nilIface)),(1,.v (.int .i32 num)),(4,.p 0 0),(10,.p 1 0),(16,.p 1 0),(17,.v (.slice A2 ((qaj (IntKind.i16.wrap v) T).length) c2)),(18,.v (.slice cv ((qaj (IntKind.i16.wrap v) T).length) cw))])
 refine qak [4] [] [(1,.v (.int .i32 num)),(4,.p 0 0),(10,.p 1 0),(20,.v (.bool false))] cA d7 fun mR cK=>?_
 refine qaf (qab ?_)
 refine qau cK (b:=false) kz rfl ?_
 refine wp_skip (qab (qae [0,1,2,3,4,5,6] kz ?_))
 refine qak [0,1,2,3] [4,5,6] [(21,.v (.agg #[.bool has,.string txt])),(23,.v (.iface 59 (.pointer (some ⟨ac,0,none⟩)))),(24,.v (.int .i32 num))] cA cK fun mS d8=>?_
 refine qam (qa9 d8 (f:=45) (vs:=[.agg #[.bool has,.string txt],.iface 59 (.pointer (some ⟨ac,0,none⟩)),.int .i32 num]) (d:=25) (n':=20) kz Tryz.call45 Tryz.func45 rfl Tryz.ntmps45 kz fun mT d9=>?_)
 refine qae [0,1] kz ?_
 refine qam (qbk cA d9 (d:=3) (cs:=[.bool has,.string txt]) kz fun af mU mV md me aP cB ea=>?_)
 refine qak [1] [] [(1,.v (.iface 59 (.pointer (some ⟨ac,0,none⟩)))),(2,.v (.int .i32 num)),(3,.p 2 0)] cB ea fun mW eb=>?_
 refine qaf (qab ?_)
 refine qae [0,1] kz ?_
 refine qam (qa9 eb (f:=89) (vs:=[.slice none 0 0]) (d:=8) (n':=18) kz Tryz.call89 Tryz.func89 rfl Tryz.ntmps89 kz fun mX ec=>?_)
 refine qar [(0,.v (.slice none 0 0))] cB ec fun mY ee=>?_
 refine qae [0,1] kz ?_
 refine qam (qbc cB ee (d:=6) (cs:=[.pointer none]) kz fun ae mZ m4 mf mg aQ av ef=>?_)
 refine qak [1] [] [(0,.v (.slice none 0 0)),(3,.p 3 0)] av ef fun m5 eg=>?_
 refine qaf (qab ?_)
 refine wp_seq (qar [(3,.p 3 0),(7,.v (.slice none 0 0)),(8,.v (.int .i64 0)),(9,.v (.int .i64 0))] av eg fun m6 eh=>?_)
 refine wp_block (wp_loop_rounds 1 ?_)
 refine qgF (qar [(3,.p 3 0),(7,.v (.slice none 0 0)),(8,.v (.int .i64 0)),(9,.v (.int .i64 0)),(10,.v (.bool false))] av eh fun m7 cL=>?_)
 refine wp_seq (qau cL (b:=false) kz rfl ?_)
 refine wp_exit (qaz (qaz (qaR (qab (qar [(2,.p 3 0)] av cL fun m8 ei=>?_)))))
 refine wp_ret (qaE ei av.cells (v:=.pointer (some ⟨ae,0,none⟩)) kz ?_)
 refine ⟨_,rfl,fun m9 ej=>?_⟩
 have ek:=(EnvOk.places (tb':=[⟨b1,0,[.bool has,.string txt],true⟩,⟨ac,0,[.int .i16 (IntKind.i16.wrap v),.string ((aa.f 0).s),.string ((aa.f 1).s),.int .i64 ((aa.f 2).n),.int .i16 ((aa.f 3).n),.int .i32 ((aa.f 4).n),.string ((aa.f 5).s),.pointer ((aa.f 6).A),.slice ((aa.f 7).A) ((aa.f 7).l) ((aa.f 7).c),.map aa.m],true⟩,⟨af,0,[.bool has,.string txt],true⟩,⟨ae,0,[.pointer none],true⟩]) ej (show Pl [⟨b1,0,[.bool has,.string txt],true⟩,⟨ac,0,[.int .i16 (IntKind.i16.wrap v),.string ((aa.f 0).s),.string ((aa.f 1).s),.int .i64 ((aa.f 2).n),.int .i16 ((aa.f 3).n),.int .i32 ((aa.f 4).n),.string ((aa.f 5).s),.pointer ((aa.f 6).A),.slice ((aa.f 7).A) ((aa.f 7).l) ((aa.f 7).c),.map aa.m],true⟩,⟨af,0,[.bool has,.string txt],true⟩] [⟨b1,0,[.bool has,.string txt],true⟩,⟨ac,0,[.int .i16 (IntKind.i16.wrap v),.string ((aa.f 0).s),.string ((aa.f 1).s),.int .i64 ((aa.f 2).n),.int .i16 ((aa.f 3).n),.int .i32 ((aa.f 4).n),.string ((aa.f 5).s),.pointer ((aa.f 6).A),.slice ((aa.f 7).A) ((aa.f 7).l) ((aa.f 7).c),.map aa.m],true⟩,⟨af,0,[.bool has,.string txt],true⟩,⟨ae,0,[.pointer none],true⟩] from ⟨rfl,rfl,⟨rfl,rfl,⟨rfl,rfl,trivial⟩⟩⟩)).pk (env':=[(8,.v (.pointer (some ⟨ae,0,none⟩))),(1,.v (.iface 59 (.pointer (some ⟨ac,0,none⟩)))),(2,.v (.int .i32 num)),(3,.p 2 0)])
 have em:=ek.recast 8 (.v (.pointer (some ⟨ae,0,none⟩))) (.p 3 0) rfl rfl (Nat.le_of_ble_eq_true (n:=4) rfl)
 have eo:=em.pick (ks:=[1,2,3,8]) (env':=[(1,.v (.iface 59 (.pointer (some ⟨ac,0,none⟩)))),(2,.v (.int .i32 num)),(3,.p 2 0),(8,.p 3 0)]) kz
 refine qak [1] [] [(1,.v (.iface 59 (.pointer (some ⟨ac,0,none⟩)))),(2,.v (.int .i32 num)),(3,.p 2 0),(7,.p 3 0)] av eo fun nf ep=>?_
 refine qaf (qab ?_)
 refine wp_seq (qar [(1,.v (.iface 59 (.pointer (some ⟨ac,0,none⟩)))),(2,.v (.int .i32 num)),(3,.p 2 0),(7,.p 3 0),(10,.v (.bool has))] av ep fun ng cC=>?_)
 refine qay cC (b:=has) kz (fun aJ=>?_) (fun aJ=>?_)
 ·
  refine qas [0,1,2,3,4,5] kz ?_
  refine qak [0,1] [2,3,4,5] [(1,.v (.iface 59 (.pointer (some ⟨ac,0,none⟩)))),(2,.v (.int .i32 num)),(12,.v (.string txt))] av cC fun nh eu=>?_
  refine qam (qa9 eu (f:=90) (vs:=[.string txt]) (d:=13) (n':=6) kz Tryz.call90 Tryz.func90 rfl Tryz.ntmps90 kz fun ni ev=>?_)
  refine qae [0,1] kz ?_
  refine qam (qbk av ev (d:=1) (cs:=[.string txt]) kz fun ab nj nk mh mi bG bH ew=>?_)
  refine qak [1] [] [(1,.p 4 0)] bH ew fun nl ey=>?_
  refine qaf (qab ?_)
  refine qae [0,1,2,3] kz ?_
  refine qam (qgr ey (v:=.func (.func 131) #[] #[.pointer (some ⟨ab,0,none⟩)]) (d:=3) kz fun np ez=>?_)
  refine qak [1,2,3] [] [(2,.v (.iface 147 (.agg #[.func (.func 131) #[] #[.pointer (some ⟨ab,0,none⟩)]])))] bH ez fun nr eB=>?_
  refine qaf (qab ?_)
  refine wp_ret (qaE eB bH.cells (v:=.iface 147 (.agg #[.func (.func 131) #[] #[.pointer (some ⟨ab,0,none⟩)]])) kz ?_)
  refine ⟨_,rfl,fun ns eC=>?_⟩
  have eD:=(EnvOk.places (tb':=[⟨b1,0,[.bool has,.string txt],true⟩,⟨ac,0,[.int .i16 (IntKind.i16.wrap v),.string ((aa.f 0).s),.string ((aa.f 1).s),.int .i64 ((aa.f 2).n),.int .i16 ((aa.f 3).n),.int .i32 ((aa.f 4).n),.string ((aa.f 5).s),.pointer ((aa.f 6).A),.slice ((aa.f 7).A) ((aa.f 7).l) ((aa.f 7).c),.map aa.m],true⟩,⟨af,0,[.bool has,.string txt],true⟩,⟨ae,0,[.pointer none],true⟩,⟨ab,0,[.string txt],true⟩]) eC (show Pl [⟨b1,0,[.bool has,.string txt],true⟩,⟨ac,0,[.int .i16 (IntKind.i16.wrap v),.string ((aa.f 0).s),.string ((aa.f 1).s),.int .i64 ((aa.f 2).n),.int .i16 ((aa.f 3).n),.int .i32 ((aa.f 4).n),.string ((aa.f 5).s),.pointer ((aa.f 6).A),.slice ((aa.f 7).A) ((aa.f 7).l) ((aa.f 7).c),.map aa.m],true⟩,⟨af,0,[.bool has,.string txt],true⟩,⟨ae,0,[.pointer none],true⟩] [⟨b1,0,[.bool has,.string txt],true⟩,⟨ac,0,[.int .i16 (IntKind.i16.wrap v),.string ((aa.f 0).s),.string ((aa.f 1).s),.int .i64 ((aa.f 2).n),.int .i16 ((aa.f 3).n),.int .i32 ((aa.f 4).n),.string ((aa.f 5).s),.pointer ((aa.f 6).A),.slice ((aa.f 7).A) ((aa.f 7).l) ((aa.f 7).c),.map aa.m],true⟩,⟨af,0,[.bool has,.string txt],true⟩,⟨ae,0,[.pointer none],true⟩,⟨ab,0,[.string txt],true⟩] from ⟨rfl,rfl,⟨rfl,rfl,⟨rfl,rfl,⟨rfl,rfl,trivial⟩⟩⟩⟩)).pk (env':=[(13,.v (.iface 147 (.agg #[.func (.func 131) #[] #[.pointer (some ⟨ab,0,none⟩)]]))),(1,.v (.iface 59 (.pointer (some ⟨ac,0,none⟩)))),(2,.v (.int .i32 num)),(12,.v (.string txt))])
  refine qam (qd9 bH eD (e:=96) (size:=1) (len:=1) (cs:=[.iface 147 (.agg #[.func (.func 131) #[] #[.pointer (some ⟨ab,0,none⟩)]])]) (d:=14) kz kz fun au nt nu mj ml bI cM eE=>?_)
  refine qam (qa9 eE (f:=89) (vs:=[.slice (some ⟨au,0,none⟩) 1 1]) (d:=15) (n':=18) kz Tryz.call89 Tryz.func89 rfl Tryz.ntmps89 kz fun nv eF=>?_)
  refine qar [(0,.v (.slice (some ⟨au,0,none⟩) 1 1))] cM eF fun nw eG=>?_
  refine qae [0,1] kz ?_
  refine qam (qbc cM eG (d:=6) (cs:=[.pointer none]) kz fun ag nx ny mn mo bJ bd eH=>?_)
  refine qak [1] [] [(0,.v (.slice (some ⟨au,0,none⟩) 1 1)),(3,.p 5 0)] bd eH fun nz eI=>?_
  refine qaf (qab ?_)
  refine wp_seq (qar [(3,.p 5 0),(7,.v (.slice (some ⟨au,0,none⟩) 1 1)),(8,.v (.int .i64 1)),(9,.v (.int .i64 0))] bd eI fun nA eJ=>?_)
  refine wp_block (wp_loop_rounds 2 ?_)
  refine qgF (qar [(3,.p 5 0),(7,.v (.slice (some ⟨au,0,none⟩) 1 1)),(8,.v (.int .i64 1)),(9,.v (.int .i64 0)),(10,.v (.bool true))] bd eJ fun nB cN=>?_)
  refine wp_seq (qbw cN (b:=true) kz rfl ?_)
  refine wp_skip (qab (wp_seq (wp_block (qae [0,1,2] kz ?_))))
  have dS:=qgO (o:=0 * 1) (cs:=[.iface 147 (.agg #[.func (.func 131) #[] #[.pointer (some ⟨ab,0,none⟩)]])]) (bd.own 0 _ rfl) rfl (fun j_ v_ h_=>by simpa using h_)
  refine qam (qax cN (t:=142) (A:=(some ⟨au,0,none⟩)) (m:=1) (q:=0) (d:=11) kz (e:=96) (size:=1) (bytes:=16) kz (b:=au) (o:=0) (j:=0) rfl (rfl) (by omega) fun nC eK=>?_)
  refine qam (qaH eK (t:=96) (b:=au) (o:=0 + 0 * 1) (d:=12) kz (cs:=[.iface 147 (.agg #[.func (.func 131) #[] #[.pointer (some ⟨ab,0,none⟩)]])]) (v:=.iface 147 (.agg #[.func (.func 131) #[] #[.pointer (some ⟨ab,0,none⟩)]])) kz dS fun nD eL=>?_)
  refine qak [2] [] [(3,.p 5 0),(5,.v (.iface 147 (.agg #[.func (.func 131) #[] #[.pointer (some ⟨ab,0,none⟩)]]))),(7,.v (.slice (some ⟨au,0,none⟩) 1 1)),(8,.v (.int .i64 1)),(9,.v (.int .i64 0))] bd eL fun nE eM=>?_
  refine qaf (qab ?_)
  refine qas [0,1,2] kz ?_
  refine qak [0,1] [2] [(3,.p 5 0),(7,.v (.slice (some ⟨au,0,none⟩) 1 1)),(8,.v (.int .i64 1)),(9,.v (.int .i64 0)),(13,.v (.iface 147 (.agg #[.func (.func 131) #[] #[.pointer (some ⟨ab,0,none⟩)]]))),(14,.p 5 0)] bd eM fun nF eN=>?_
  refine qam (qck eN (t := 147) (v := (.agg #[.func (.func 131) #[] #[.pointer (some ⟨ab, 0, none⟩)]])) (v' := (.agg #[.func (.func 131) #[] #[.pointer (some ⟨ab, 0, none⟩)]])) (name := "pub-mailsack/pub/kmsg.apply") (f := 254) (vs := [.pointer (some ⟨ag, 0, none⟩)]) (d := 15) (n' := 8) kz (fun _ => by kernel_rfl) Tryz.call254 Tryz.func254 rfl Tryz.ntmps254 kz fun nG eO => ?_)
  have eP:=eO.recast 1 (.v (.pointer (some ⟨ag,0,none⟩))) (.p 5 0) rfl rfl (Nat.le_of_ble_eq_true (n:=6) rfl)
  refine qae [0] kz ?_
  refine qam (qbk bd eP (d:=2) (cs:=[.func (.func 131) #[] #[.pointer (some ⟨ab,0,none⟩)]]) kz fun ah nH nI mp mq bK cD eQ=>?_)
  refine qaf (qab ?_)
  refine qas [0,1,2,3] kz ?_
  refine qak [0,1,2] [3] [(5,.v (.func (.func 131) #[] #[.pointer (some ⟨ab,0,none⟩)])),(6,.p 5 0)] cD eQ fun nJ eR=>?_
  refine qam (qa9 eR (f:=131) (vs:=[.pointer (some ⟨ag,0,none⟩),.pointer (some ⟨ab,0,none⟩)]) (d:=7) (n':=6) kz Tryz.call131 Tryz.func131 rfl Tryz.ntmps131 kz fun nK eS=>?_)
  have eT:=eS.recast 0 (.v (.pointer (some ⟨ag,0,none⟩))) (.p 5 0) rfl rfl (Nat.le_of_ble_eq_true (n:=6) rfl)
  have eU:=eT.recast 1 (.v (.pointer (some ⟨ab,0,none⟩))) (.p 4 0) rfl rfl (Nat.le_of_ble_eq_true (n:=5) rfl)
  refine qas [0,1,2,3] kz ?_
  refine qak [0,1,2] [3] [(1,.p 4 0),(5,.p 5 0)] cD eU fun nL eV=>?_
  refine qam (qaM cD eV (oi:=5) (cs:=[.pointer (some ⟨ab,0,none⟩)]) kz fun nM bL aA eW=>?_)
  refine qaf (qcr eW aA.cells (v:=.tuple #[]) kz ?_)
  refine ⟨_,rfl,fun nN eX=>?_⟩
  have eY:=(EnvOk.places (tb':=[⟨b1,0,[.bool has,.string txt],true⟩,⟨ac,0,[.int .i16 (IntKind.i16.wrap v),.string ((aa.f 0).s),.string ((aa.f 1).s),.int .i64 ((aa.f 2).n),.int .i16 ((aa.f 3).n),.int .i32 ((aa.f 4).n),.string ((aa.f 5).s),.pointer ((aa.f 6).A),.slice ((aa.f 7).A) ((aa.f 7).l) ((aa.f 7).c),.map aa.m],true⟩,⟨af,0,[.bool has,.string txt],true⟩,⟨ae,0,[.pointer none],true⟩,⟨ab,0,[.string txt],true⟩,⟨ag,0,[.pointer (some ⟨ab,0,none⟩)],true⟩,⟨ah,0,[.func (.func 131) #[] #[.pointer (some ⟨ab,0,none⟩)]],true⟩]) eX (show Pl [⟨b1,0,[.bool has,.string txt],true⟩,⟨ac,0,[.int .i16 (IntKind.i16.wrap v),.string ((aa.f 0).s),.string ((aa.f 1).s),.int .i64 ((aa.f 2).n),.int .i16 ((aa.f 3).n),.int .i32 ((aa.f 4).n),.string ((aa.f 5).s),.pointer ((aa.f 6).A),.slice ((aa.f 7).A) ((aa.f 7).l) ((aa.f 7).c),.map aa.m],true⟩,⟨af,0,[.bool has,.string txt],true⟩,⟨ae,0,[.pointer none],true⟩,⟨ab,0,[.string txt],true⟩,⟨ag,0,[.pointer none],true⟩,⟨ah,0,[.func (.func 131) #[] #[.pointer (some ⟨ab,0,none⟩)]],true⟩] [⟨b1,0,[.bool has,.string txt],true⟩,⟨ac,0,[.int .i16 (IntKind.i16.wrap v),.string ((aa.f 0).s),.string ((aa.f 1).s),.int .i64 ((aa.f 2).n),.int .i16 ((aa.f 3).n),.int .i32 ((aa.f 4).n),.string ((aa.f 5).s),.pointer ((aa.f 6).A),.slice ((aa.f 7).A) ((aa.f 7).l) ((aa.f 7).c),.map aa.m],true⟩,⟨af,0,[.bool has,.string txt],true⟩,⟨ae,0,[.pointer none],true⟩,⟨ab,0,[.string txt],true⟩,⟨ag,0,[.pointer (some ⟨ab,0,none⟩)],true⟩,⟨ah,0,[.func (.func 131) #[] #[.pointer (some ⟨ab,0,none⟩)]],true⟩] from ⟨rfl,rfl,⟨rfl,rfl,⟨rfl,rfl,⟨rfl,rfl,⟨rfl,rfl,⟨rfl,rfl,⟨rfl,rfl,trivial⟩⟩⟩⟩⟩⟩⟩)).pk (env':=[(7,.v (.tuple #[])),(5,.v (.func (.func 131) #[] #[.pointer (some ⟨ab,0,none⟩)])),(6,.p 5 0)])
  refine qaf (qcr eY aA.cells (v:=.tuple #[]) kz ?_)
  refine ⟨_,rfl,fun nO eZ=>?_⟩
  have e9:=(EnvOk.places (tb':=[⟨b1,0,[.bool has,.string txt],true⟩,⟨ac,0,[.int .i16 (IntKind.i16.wrap v),.string ((aa.f 0).s),.string ((aa.f 1).s),.int .i64 ((aa.f 2).n),.int .i16 ((aa.f 3).n),.int .i32 ((aa.f 4).n),.string ((aa.f 5).s),.pointer ((aa.f 6).A),.slice ((aa.f 7).A) ((aa.f 7).l) ((aa.f 7).c),.map aa.m],true⟩,⟨af,0,[.bool has,.string txt],true⟩,⟨ae,0,[.pointer none],true⟩,⟨ab,0,[.string txt],true⟩,⟨ag,0,[.pointer (some ⟨ab,0,none⟩)],true⟩,⟨ah,0,[.func (.func 131) #[] #[.pointer (some ⟨ab,0,none⟩)]],true⟩]) eZ (show Pl [⟨b1,0,[.bool has,.string txt],true⟩,⟨ac,0,[.int .i16 (IntKind.i16.wrap v),.string ((aa.f 0).s),.string ((aa.f 1).s),.int .i64 ((aa.f 2).n),.int .i16 ((aa.f 3).n),.int .i32 ((aa.f 4).n),.string ((aa.f 5).s),.pointer ((aa.f 6).A),.slice ((aa.f 7).A) ((aa.f 7).l) ((aa.f 7).c),.map aa.m],true⟩,⟨af,0,[.bool has,.string txt],true⟩,⟨ae,0,[.pointer none],true⟩,⟨ab,0,[.string txt],true⟩,⟨ag,0,[.pointer none],true⟩] [⟨b1,0,[.bool has,.string txt],true⟩,⟨ac,0,[.int .i16 (IntKind.i16.wrap v),.string ((aa.f 0).s),.string ((aa.f 1).s),.int .i64 ((aa.f 2).n),.int .i16 ((aa.f 3).n),.int .i32 ((aa.f 4).n),.string ((aa.f 5).s),.pointer ((aa.f 6).A),.slice ((aa.f 7).A) ((aa.f 7).l) ((aa.f 7).c),.map aa.m],true⟩,⟨af,0,[.bool has,.string txt],true⟩,⟨ae,0,[.pointer none],true⟩,⟨ab,0,[.string txt],true⟩,⟨ag,0,[.pointer (some ⟨ab,0,none⟩)],true⟩,⟨ah,0,[.func (.func 131) #[] #[.pointer (some ⟨ab,0,none⟩)]],true⟩] from ⟨rfl,rfl,⟨rfl,rfl,⟨rfl,rfl,⟨rfl,rfl,⟨rfl,rfl,⟨rfl,rfl,trivial⟩⟩⟩⟩⟩⟩)).pk (env':=[(15,.v (.tuple #[])),(3,.p 5 0),(7,.v (.slice (some ⟨au,0,none⟩) 1 1)),(8,.v (.int .i64 1)),(9,.v (.int .i64 0)),(13,.v (.iface 147 (.agg #[.func (.func 131) #[] #[.pointer (some ⟨ab,0,none⟩)]]))),(14,.p 5 0)])
  refine qaf (qaF (qab (qas [0,1] kz ?_)))
  refine qak [0,1] [] [(3,.p 5 0),(7,.v (.slice (some ⟨au,0,none⟩) 1 1)),(8,.v (.int .i64 1)),(9,.v (.int .i64 1))] aA e9 fun nP fa=>?_
  refine qaf (qab ?_)
  refine qgF (qar [(3,.p 5 0),(7,.v (.slice (some ⟨au,0,none⟩) 1 1)),(8,.v (.int .i64 1)),(9,.v (.int .i64 1)),(10,.v (.bool false))] aA fa fun nQ cO=>?_)
  refine wp_seq (qau cO (b:=false) kz rfl ?_)
  refine wp_exit (qaz (qaz (qaR (qab (qar [(2,.p 5 0)] aA cO fun nR fb=>?_)))))
  refine wp_ret (qaE fb aA.cells (v:=.pointer (some ⟨ag,0,none⟩)) kz ?_)
  refine ⟨_,rfl,fun nS fe=>?_⟩
  have ff:=(EnvOk.places (tb':=[⟨b1,0,[.bool has,.string txt],true⟩,⟨ac,0,[.int .i16 (IntKind.i16.wrap v),.string ((aa.f 0).s),.string ((aa.f 1).s),.int .i64 ((aa.f 2).n),.int .i16 ((aa.f 3).n),.int .i32 ((aa.f 4).n),.string ((aa.f 5).s),.pointer ((aa.f 6).A),.slice ((aa.f 7).A) ((aa.f 7).l) ((aa.f 7).c),.map aa.m],true⟩,⟨af,0,[.bool has,.string txt],true⟩,⟨ae,0,[.pointer none],true⟩,⟨ab,0,[.string txt],true⟩,⟨ag,0,[.pointer (some ⟨ab,0,none⟩)],true⟩,⟨ah,0,[.func (.func 131) #[] #[.pointer (some ⟨ab,0,none⟩)]],true⟩]) fe (show Pl [⟨b1,0,[.bool has,.string txt],true⟩,⟨ac,0,[.int .i16 (IntKind.i16.wrap v),.string ((aa.f 0).s),.string ((aa.f 1).s),.int .i64 ((aa.f 2).n),.int .i16 ((aa.f 3).n),.int .i32 ((aa.f 4).n),.string ((aa.f 5).s),.pointer ((aa.f 6).A),.slice ((aa.f 7).A) ((aa.f 7).l) ((aa.f 7).c),.map aa.m],true⟩,⟨af,0,[.bool has,.string txt],true⟩,⟨ae,0,[.pointer none],true⟩,⟨ab,0,[.string txt],true⟩] [⟨b1,0,[.bool has,.string txt],true⟩,⟨ac,0,[.int .i16 (IntKind.i16.wrap v),.string ((aa.f 0).s),.string ((aa.f 1).s),.int .i64 ((aa.f 2).n),.int .i16 ((aa.f 3).n),.int .i32 ((aa.f 4).n),.string ((aa.f 5).s),.pointer ((aa.f 6).A),.slice ((aa.f 7).A) ((aa.f 7).l) ((aa.f 7).c),.map aa.m],true⟩,⟨af,0,[.bool has,.string txt],true⟩,⟨ae,0,[.pointer none],true⟩,⟨ab,0,[.string txt],true⟩,⟨ag,0,[.pointer (some ⟨ab,0,none⟩)],true⟩,⟨ah,0,[.func (.func 131) #[] #[.pointer (some ⟨ab,0,none⟩)]],true⟩] from ⟨rfl,rfl,⟨rfl,rfl,⟨rfl,rfl,⟨rfl,rfl,⟨rfl,rfl,trivial⟩⟩⟩⟩⟩)).pk (env':=[(15,.v (.pointer (some ⟨ag,0,none⟩))),(1,.v (.iface 59 (.pointer (some ⟨ac,0,none⟩)))),(2,.v (.int .i32 num)),(12,.v (.string txt)),(13,.v (.iface 147 (.agg #[.func (.func 131) #[] #[.pointer (some ⟨ab,0,none⟩)]]))),(14,.v (.slice (some ⟨au,0,none⟩) 1 1))])
  have fg:=ff.recast 15 (.v (.pointer (some ⟨ag,0,none⟩))) (.p 5 0) rfl rfl (Nat.le_of_ble_eq_true (n:=6) rfl)
  have fh:=fg.pick (ks:=[1,2,12,13,14,15]) (env':=[(1,.v (.iface 59 (.pointer (some ⟨ac,0,none⟩)))),(2,.v (.int .i32 num)),(12,.v (.string txt)),(13,.v (.iface 147 (.agg #[.func (.func 131) #[] #[.pointer (some ⟨ab,0,none⟩)]]))),(14,.v (.slice (some ⟨au,0,none⟩) 1 1)),(15,.p 5 0)]) kz
  refine qak [5] [] [(1,.v (.iface 59 (.pointer (some ⟨ac,0,none⟩)))),(2,.v (.int .i32 num)),(7,.p 5 0)] aA fh fun nT fi=>?_
  refine qaf (qab ?_)
  refine qae [0,1,2,3,4] kz ?_
  refine qak [0,1,2] [3,4] [(16,.p 5 0),(17,.v (.iface 59 (.pointer (some ⟨ac,0,none⟩)))),(18,.v (.int .i32 num))] aA fi fun nU fj=>?_
  refine qam (qa9 fj (f:=91) (vs:=[.pointer (some ⟨ag,0,none⟩),.slice none 0 0,.iface 59 (.pointer (some ⟨ac,0,none⟩)),.int .i32 num]) (d:=19) (n':=60) kz Tryz.call91 Tryz.func91 rfl Tryz.ntmps91 kz fun nV fk=>?_)
  have fl:=fk.recast 0 (.v (.pointer (some ⟨ag,0,none⟩))) (.p 5 0) rfl rfl (Nat.le_of_ble_eq_true (n:=6) rfl)
  refine qar [(0,.p 5 0),(1,.v (.slice none 0 0)),(2,.v (.iface 59 (.pointer (some ⟨ac,0,none⟩)))),(3,.v (.int .i32 num))] aA fl fun nW fm=>?_
  refine qae [0,1,2,3] kz ?_
  refine qak [0] [1,2,3] [(0,.p 5 0),(2,.v (.iface 59 (.pointer (some ⟨ac,0,none⟩)))),(3,.v (.int .i32 num)),(12,.v (.slice none 0 0))] aA fm fun nX fo=>?_
  have fq:=aA.addNil 5 1
  have bM:=aA.frNil 5 1
  refine qbu fq fo (k:=1) (e:=5) (size:=1) (len:=4) (cs:=[.int .u8 0,.int .u8 0,.int .u8 0,.int .u8 0]) (d1:=13) (d:=14) kz (t:=24) (bytes:=1) kz (fun _=>by kernel_rfl) rfl kz (by first | omega | (simp only [List.length_append,List.length_cons,List.length_nil,be_length,qbX]; omega) | (simp; omega)) fun aD aE nY nZ bN fr ⟨_,ft⟩=>?_
  have fu:(⟨aD,aE,5,1,([]:Bs).length + 4,bc ([]:Bs) ++ [.int .u8 0,.int .u8 0,.int .u8 0,.int .u8 0]⟩:Rw) = brow aD aE 5 (([]:Bs) ++ [by8 0,by8 0,by8 0,by8 0]):=qa2 (by simp only [bc,List.map,qbE]; try rfl) rfl
  obtain ⟨aw,bO⟩:=fr.rowEq 1 (z30 au ab aD aE) fu
  have fv:=EnvOk.pick ft (ks:=[0,2,3,12,14]) (env':=[(0,.p 5 0),(2,.v (.iface 59 (.pointer (some ⟨ac,0,none⟩)))),(3,.v (.int .i32 num)),(12,.v (.slice none 0 0)),(14,.v (.slice aD (([]:Bs).length + 4) aE))]) kz
  have fw:=fv.cast (env':=[(0,.p 5 0),(2,.v (.iface 59 (.pointer (some ⟨ac,0,none⟩)))),(3,.v (.int .i32 num)),(12,.v (.slice none 0 0)),(14,.v (.slice aD ((([]:Bs) ++ [by8 0,by8 0,by8 0,by8 0]).length) aE))]) (by simp only [List.length_append,List.length_cons,List.length_nil,Nat.zero_add])
  refine qak [3] [] [(0,.p 5 0),(1,.v (.slice aD ((([]:Bs) ++ [by8 0,by8 0,by8 0,by8 0]).length) aE)),(2,.v (.iface 59 (.pointer (some ⟨ac,0,none⟩)))),(3,.v (.int .i32 num))] aw fw fun n4 fx=>?_
  refine qaf (qab ?_)
  refine qae [0,1,2] kz ?_
  refine qak [0] [1,2] [(0,.p 5 0),(1,.v (.slice aD ((([]:Bs) ++ [by8 0,by8 0,by8 0,by8 0]).length) aE)),(2,.v (.iface 59 (.pointer (some ⟨ac,0,none⟩)))),(3,.v (.int .i32 num)),(15,.v (.iface 59 (.pointer (some ⟨ac,0,none⟩))))] aw fx fun n5 fy=>?_
  refine qam (qck fy (t := 59) (v := (.pointer (some ⟨ac, 0, none⟩))) (v' := (.pointer (some ⟨ac, 0, none⟩))) (name := "Key") (f := 228) (vs := []) (d := 16) (n' := 3) kz (fun _ => by kernel_rfl) Tryz.call228 Tryz.func228 rfl Tryz.ntmps228 kz fun n8 fz => ?_)
  have fA:=fz.recast 0 (.v (.pointer (some ⟨ac,0,none⟩))) (.p 1 0) rfl rfl (Nat.le_of_ble_eq_true (n:=2) rfl)
  refine qar [] aw fA fun oa fB=>?_
  refine qar [(2,.v (.int .i16 28))] aw fB fun od fC=>?_
  refine wp_ret (qaE fC aw.cells (v:=.int .i16 28) kz ?_)
  refine ⟨_,rfl,fun oe fD=>?_⟩
  have fE:=(EnvOk.places (tb':=[⟨b1,0,[.bool has,.string txt],true⟩,⟨ac,0,[.int .i16 (IntKind.i16.wrap v),.string ((aa.f 0).s),.string ((aa.f 1).s),.int .i64 ((aa.f 2).n),.int .i16 ((aa.f 3).n),.int .i32 ((aa.f 4).n),.string ((aa.f 5).s),.pointer ((aa.f 6).A),.slice ((aa.f 7).A) ((aa.f 7).l) ((aa.f 7).c),.map aa.m],true⟩,⟨af,0,[.bool has,.string txt],true⟩,⟨ae,0,[.pointer none],true⟩,⟨ab,0,[.string txt],true⟩,⟨ag,0,[.pointer (some ⟨ab,0,none⟩)],true⟩,⟨ah,0,[.func (.func 131) #[] #[.pointer (some ⟨ab,0,none⟩)]],true⟩]) fD (show Pl [⟨b1,0,[.bool has,.string txt],true⟩,⟨ac,0,[.int .i16 (IntKind.i16.wrap v),.string ((aa.f 0).s),.string ((aa.f 1).s),.int .i64 ((aa.f 2).n),.int .i16 ((aa.f 3).n),.int .i32 ((aa.f 4).n),.string ((aa.f 5).s),.pointer ((aa.f 6).A),.slice ((aa.f 7).A) ((aa.f 7).l) ((aa.f 7).c),.map aa.m],true⟩,⟨af,0,[.bool has,.string txt],true⟩,⟨ae,0,[.pointer none],true⟩,⟨ab,0,[.string txt],true⟩,⟨ag,0,[.pointer (some ⟨ab,0,none⟩)],true⟩,⟨ah,0,[.func (.func 131) #[] #[.pointer (some ⟨ab,0,none⟩)]],true⟩] [⟨b1,0,[.bool has,.string txt],true⟩,⟨ac,0,[.int .i16 (IntKind.i16.wrap v),.string ((aa.f 0).s),.string ((aa.f 1).s),.int .i64 ((aa.f 2).n),.int .i16 ((aa.f 3).n),.int .i32 ((aa.f 4).n),.string ((aa.f 5).s),.pointer ((aa.f 6).A),.slice ((aa.f 7).A) ((aa.f 7).l) ((aa.f 7).c),.map aa.m],true⟩,⟨af,0,[.bool has,.string txt],true⟩,⟨ae,0,[.pointer none],true⟩,⟨ab,0,[.string txt],true⟩,⟨ag,0,[.pointer (some ⟨ab,0,none⟩)],true⟩,⟨ah,0,[.func (.func 131) #[] #[.pointer (some ⟨ab,0,none⟩)]],true⟩] from ⟨rfl,rfl,⟨rfl,rfl,⟨rfl,rfl,⟨rfl,rfl,⟨rfl,rfl,⟨rfl,rfl,⟨rfl,rfl,trivial⟩⟩⟩⟩⟩⟩⟩)).pk (env':=[(16,.v (.int .i16 28)),(0,.p 5 0),(1,.v (.slice aD ((([]:Bs) ++ [by8 0,by8 0,by8 0,by8 0]).length) aE)),(2,.v (.iface 59 (.pointer (some ⟨ac,0,none⟩)))),(3,.v (.int .i32 num)),(15,.v (.iface 59 (.pointer (some ⟨ac,0,none⟩))))])
  refine qak [2] [] [(0,.p 5 0),(1,.v (.slice aD ((([]:Bs) ++ [by8 0,by8 0,by8 0,by8 0]).length) aE)),(2,.v (.iface 59 (.pointer (some ⟨ac,0,none⟩)))),(3,.v (.int .i32 num)),(9,.v (.int .i16 28))] aw fE fun og fF=>?_
  refine qaf (qab ?_)
  refine qae [0,1,2] kz ?_
  refine qak [0] [1,2] [(0,.p 5 0),(1,.v (.slice aD ((([]:Bs) ++ [by8 0,by8 0,by8 0,by8 0]).length) aE)),(2,.v (.iface 59 (.pointer (some ⟨ac,0,none⟩)))),(3,.v (.int .i32 num)),(9,.v (.int .i16 28)),(17,.v (.iface 59 (.pointer (some ⟨ac,0,none⟩))))] aw fF fun oh fG=>?_
  refine qam (qck fG (t := 59) (v := (.pointer (some ⟨ac, 0, none⟩))) (v' := (.pointer (some ⟨ac, 0, none⟩))) (name := "GetVersion") (f := 226) (vs := []) (d := 18) (n' := 7) kz (fun _ => by kernel_rfl) Tryz.call226 Tryz.func226 rfl Tryz.ntmps226 kz fun ol fH => ?_)
  have fI:=fH.recast 0 (.v (.pointer (some ⟨ac,0,none⟩))) (.p 1 0) rfl rfl (Nat.le_of_ble_eq_true (n:=2) rfl)
  refine qar [(0,.p 1 0)] aw fI fun om fJ=>?_
  refine qar [(2,.v (.int .i16 (IntKind.i16.wrap v)))] aw fJ fun oq fK=>?_
  refine wp_ret (qaE fK aw.cells (v:=.int .i16 (IntKind.i16.wrap v)) kz ?_)
  refine ⟨_,rfl,fun ot fL=>?_⟩
  have fM:=(EnvOk.places (tb':=[⟨b1,0,[.bool has,.string txt],true⟩,⟨ac,0,[.int .i16 (IntKind.i16.wrap v),.string ((aa.f 0).s),.string ((aa.f 1).s),.int .i64 ((aa.f 2).n),.int .i16 ((aa.f 3).n),.int .i32 ((aa.f 4).n),.string ((aa.f 5).s),.pointer ((aa.f 6).A),.slice ((aa.f 7).A) ((aa.f 7).l) ((aa.f 7).c),.map aa.m],true⟩,⟨af,0,[.bool has,.string txt],true⟩,⟨ae,0,[.pointer none],true⟩,⟨ab,0,[.string txt],true⟩,⟨ag,0,[.pointer (some ⟨ab,0,none⟩)],true⟩,⟨ah,0,[.func (.func 131) #[] #[.pointer (some ⟨ab,0,none⟩)]],true⟩]) fL (show Pl [⟨b1,0,[.bool has,.string txt],true⟩,⟨ac,0,[.int .i16 (IntKind.i16.wrap v),.string ((aa.f 0).s),.string ((aa.f 1).s),.int .i64 ((aa.f 2).n),.int .i16 ((aa.f 3).n),.int .i32 ((aa.f 4).n),.string ((aa.f 5).s),.pointer ((aa.f 6).A),.slice ((aa.f 7).A) ((aa.f 7).l) ((aa.f 7).c),.map aa.m],true⟩,⟨af,0,[.bool has,.string txt],true⟩,⟨ae,0,[.pointer none],true⟩,⟨ab,0,[.string txt],true⟩,⟨ag,0,[.pointer (some ⟨ab,0,none⟩)],true⟩,⟨ah,0,[.func (.func 131) #[] #[.pointer (some ⟨ab,0,none⟩)]],true⟩] [⟨b1,0,[.bool has,.string txt],true⟩,⟨ac,0,[.int .i16 (IntKind.i16.wrap v),.string ((aa.f 0).s),.string ((aa.f 1).s),.int .i64 ((aa.f 2).n),.int .i16 ((aa.f 3).n),.int .i32 ((aa.f 4).n),.string ((aa.f 5).s),.pointer ((aa.f 6).A),.slice ((aa.f 7).A) ((aa.f 7).l) ((aa.f 7).c),.map aa.m],true⟩,⟨af,0,[.bool has,.string txt],true⟩,⟨ae,0,[.pointer none],true⟩,⟨ab,0,[.string txt],true⟩,⟨ag,0,[.pointer (some ⟨ab,0,none⟩)],true⟩,⟨ah,0,[.func (.func 131) #[] #[.pointer (some ⟨ab,0,none⟩)]],true⟩] from ⟨rfl,rfl,⟨rfl,rfl,⟨rfl,rfl,⟨rfl,rfl,⟨rfl,rfl,⟨rfl,rfl,⟨rfl,rfl,trivial⟩⟩⟩⟩⟩⟩⟩)).pk (env':=[(18,.v (.int .i16 (IntKind.i16.wrap v))),(0,.p 5 0),(1,.v (.slice aD ((([]:Bs) ++ [by8 0,by8 0,by8 0,by8 0]).length) aE)),(2,.v (.iface 59 (.pointer (some ⟨ac,0,none⟩)))),(3,.v (.int .i32 num)),(9,.v (.int .i16 28)),(17,.v (.iface 59 (.pointer (some ⟨ac,0,none⟩))))])
  refine qak [2] [] [(0,.p 5 0),(1,.v (.slice aD ((([]:Bs) ++ [by8 0,by8 0,by8 0,by8 0]).length) aE)),(2,.v (.iface 59 (.pointer (some ⟨ac,0,none⟩)))),(3,.v (.int .i32 num)),(9,.v (.int .i16 28)),(10,.v (.int .i16 (IntKind.i16.wrap v)))] aw fM fun ou fN=>?_
  refine qaf (qab ?_)
  refine qae [0,1,2,3] kz ?_
  refine qak [0,1] [2,3] [(0,.p 5 0),(2,.v (.iface 59 (.pointer (some ⟨ac,0,none⟩)))),(3,.v (.int .i32 num)),(9,.v (.int .i16 28)),(10,.v (.int .i16 (IntKind.i16.wrap v))),(19,.v (.slice aD ((([]:Bs) ++ [by8 0,by8 0,by8 0,by8 0]).length) aE)),(20,.v (.int .i16 28))] aw fN fun ov fO=>?_
  refine qam (qal fO (f:=132) (vs:=[.slice aD ((([]:Bs) ++ [by8 0,by8 0,by8 0,by8 0]).length) aE,.int .i16 28]) (d:=21) kz Tryz.call132 (qb7 aD aE (([]:Bs) ++ [by8 0,by8 0,by8 0,by8 0]) 28 _ (aw.own 1 _ rfl) (by first | omega | (simp only [List.length_append,List.length_cons,List.length_nil,be_length,qbX]; omega) | (simp; omega))) ?_)
  rintro e_ ow ⟨bw,bx,rfl,fP,cP,cQ⟩
  refine ⟨_,rfl,fun ox fQ=>?_⟩
  have bP:WOk _ _ _ _ (z19 au ab bw bx):=aw.grow (k:=1) rfl cP fP cQ
  have bQ:Fr _ (z1 b1 has txt ac v aa af ae ab ag ah) (z30 au ab aD aE) _ (z1 b1 has txt ac v aa af ae ab ag ah) (z19 au ab bw bx):=Fr.grow _ (k:=1) (r':=(brow bw bx 5 (([]:Bs) ++ [by8 0,by8 0,by8 0,by8 0] ++ be 2 28))) rfl cP cQ
  refine qak [3] [] [(0,.p 5 0),(1,.v (.slice bw ((([]:Bs) ++ [by8 0,by8 0,by8 0,by8 0] ++ be 2 28).length) bx)),(2,.v (.iface 59 (.pointer (some ⟨ac,0,none⟩)))),(3,.v (.int .i32 num)),(9,.v (.int .i16 28)),(10,.v (.int .i16 (IntKind.i16.wrap v)))] bP fQ fun oy fR=>?_
  refine qaf (qab ?_)
  refine qae [0,1,2,3] kz ?_
  refine qak [0,1] [2,3] [(0,.p 5 0),(2,.v (.iface 59 (.pointer (some ⟨ac,0,none⟩)))),(3,.v (.int .i32 num)),(9,.v (.int .i16 28)),(10,.v (.int .i16 (IntKind.i16.wrap v))),(22,.v (.slice bw ((([]:Bs) ++ [by8 0,by8 0,by8 0,by8 0] ++ be 2 28).length) bx)),(23,.v (.int .i16 (IntKind.i16.wrap v)))] bP fR fun oz fS=>?_
  refine qam (qal fS (f:=132) (vs:=[.slice bw ((([]:Bs) ++ [by8 0,by8 0,by8 0,by8 0] ++ be 2 28).length) bx,.int .i16 (IntKind.i16.wrap v)]) (d:=24) kz Tryz.call132 (qb7 bw bx (([]:Bs) ++ [by8 0,by8 0,by8 0,by8 0] ++ be 2 28) (IntKind.i16.wrap v) _ (bP.own 1 _ rfl) (by first | omega | (simp only [List.length_append,List.length_cons,List.length_nil,be_length,qbX]; omega) | (simp; omega))) ?_)
  rintro e_ oA ⟨bz,bA,rfl,fT,cR,cS⟩
  refine ⟨_,rfl,fun oB fU=>?_⟩
  have bR:WOk _ _ _ _ (z17 au ab bz bA v):=bP.grow (k:=1) rfl cR fT cS
  have bS:Fr _ (z1 b1 has txt ac v aa af ae ab ag ah) (z19 au ab bw bx) _ (z1 b1 has txt ac v aa af ae ab ag ah) (z17 au ab bz bA v):=Fr.grow _ (k:=1) (r':=(brow bz bA 5 (([]:Bs) ++ [by8 0,by8 0,by8 0,by8 0] ++ be 2 28 ++ be 2 (IntKind.i16.wrap v)))) rfl cR cS
  refine qak [3] [] [(0,.p 5 0),(1,.v (.slice bz ((([]:Bs) ++ [by8 0,by8 0,by8 0,by8 0] ++ be 2 28 ++ be 2 (IntKind.i16.wrap v)).length) bA)),(2,.v (.iface 59 (.pointer (some ⟨ac,0,none⟩)))),(3,.v (.int .i32 num)),(9,.v (.int .i16 28)),(10,.v (.int .i16 (IntKind.i16.wrap v)))] bR fU fun oC fV=>?_
  refine qaf (qab ?_)
  refine qae [0,1,2,3] kz ?_
  refine qak [0,1] [2,3] [(0,.p 5 0),(2,.v (.iface 59 (.pointer (some ⟨ac,0,none⟩)))),(9,.v (.int .i16 28)),(10,.v (.int .i16 (IntKind.i16.wrap v))),(25,.v (.slice bz ((([]:Bs) ++ [by8 0,by8 0,by8 0,by8 0] ++ be 2 28 ++ be 2 (IntKind.i16.wrap v)).length) bA)),(26,.v (.int .i32 num))] bR fV fun oD fW=>?_
  refine qam (qal fW (f:=133) (vs:=[.slice bz ((([]:Bs) ++ [by8 0,by8 0,by8 0,by8 0] ++ be 2 28 ++ be 2 (IntKind.i16.wrap v)).length) bA,.int .i32 num]) (d:=27) kz Tryz.call133 (qcx bz bA (([]:Bs) ++ [by8 0,by8 0,by8 0,by8 0] ++ be 2 28 ++ be 2 (IntKind.i16.wrap v)) num _ (bR.own 1 _ rfl) (by first | omega | (simp only [List.length_append,List.length_cons,List.length_nil,be_length,qbX]; omega) | (simp; omega))) ?_)
  rintro e_ oE ⟨aK,aL,rfl,fX,cT,cU⟩
  refine ⟨_,rfl,fun oF fY=>?_⟩
  have aM:WOk _ _ _ _ (z16 au ab aK aL v num):=bR.grow (k:=1) rfl cT fX cU
  have bT:Fr _ (z1 b1 has txt ac v aa af ae ab ag ah) (z17 au ab bz bA v) _ (z1 b1 has txt ac v aa af ae ab ag ah) (z16 au ab aK aL v num):=Fr.grow _ (k:=1) (r':=(brow aK aL 5 (([]:Bs) ++ [by8 0,by8 0,by8 0,by8 0] ++ be 2 28 ++ be 2 (IntKind.i16.wrap v) ++ be 4 num))) rfl cT cU
  refine qak [3] [] [(0,.p 5 0),(1,.v (.slice aK ((([]:Bs) ++ [by8 0,by8 0,by8 0,by8 0] ++ be 2 28 ++ be 2 (IntKind.i16.wrap v) ++ be 4 num).length) aL)),(2,.v (.iface 59 (.pointer (some ⟨ac,0,none⟩)))),(9,.v (.int .i16 28)),(10,.v (.int .i16 (IntKind.i16.wrap v)))] aM fY fun oG fZ=>?_
  refine qaf (qab ?_)
  refine wp_seq (qar [(0,.p 5 0),(1,.v (.slice aK ((([]:Bs) ++ [by8 0,by8 0,by8 0,by8 0] ++ be 2 28 ++ be 2 (IntKind.i16.wrap v) ++ be 4 num).length) aL)),(2,.v (.iface 59 (.pointer (some ⟨ac,0,none⟩)))),(33,.v (.bool false))] aM fZ fun oH cV=>?_)
  refine qau cV (b:=false) kz rfl ?_
  refine wp_skip (qab (qae [0,1,2,3,4,5,6] kz ?_))
  refine qak [0,1,2,3,4] [5,6] [(2,.v (.iface 59 (.pointer (some ⟨ac,0,none⟩)))),(35,.v (.slice aK ((([]:Bs) ++ [by8 0,by8 0,by8 0,by8 0] ++ be 2 28 ++ be 2 (IntKind.i16.wrap v) ++ be 4 num).length) aL)),(39,.v (.pointer (some ⟨ab,0,none⟩)))] aM cV fun oI f5=>?_
  refine qam (qa9 f5 (f:=134) (vs:=[.slice aK ((([]:Bs) ++ [by8 0,by8 0,by8 0,by8 0] ++ be 2 28 ++ be 2 (IntKind.i16.wrap v) ++ be 4 num).length) aL,.pointer (some ⟨ab,0,none⟩)]) (d:=40) (n':=14) kz Tryz.call134 Tryz.func134 rfl Tryz.ntmps134 kz fun oJ f7=>?_)
  refine qar [(0,.v (.slice aK ((([]:Bs) ++ [by8 0,by8 0,by8 0,by8 0] ++ be 2 28 ++ be 2 (IntKind.i16.wrap v) ++ be 4 num).length) aL)),(1,.v (.pointer (some ⟨ab,0,none⟩)))] aM f7 fun oK f8=>?_
  refine wp_seq (qar [(0,.v (.slice aK ((([]:Bs) ++ [by8 0,by8 0,by8 0,by8 0] ++ be 2 28 ++ be 2 (IntKind.i16.wrap v) ++ be 4 num).length) aL)),(1,.v (.pointer (some ⟨ab,0,none⟩))),(6,.v (.bool false))] aM f8 fun oL cW=>?_)
  refine qau cW (b:=false) kz rfl ?_
  refine wp_skip (qab (qae [0,1,2,3,4,5] kz ?_))
  refine qak [0,1,2] [3,4,5] [(9,.v (.slice aK ((([]:Bs) ++ [by8 0,by8 0,by8 0,by8 0] ++ be 2 28 ++ be 2 (IntKind.i16.wrap v) ++ be 4 num).length) aL)),(11,.v (.pointer (some ⟨ab,0,none⟩)))] aM cW fun oM f9=>?_
  have dT:=(Str.of aM 4 rfl).atF.at_
  refine qam (qaH f9 (t:=9) (b:=ab) (o:=0) (d:=12) kz (cs:=[.string txt]) (v:=.string txt) kz dT fun oN ga=>?_)
  refine qam (qal ga (f:=156) (vs:=[.slice aK ((([]:Bs) ++ [by8 0,by8 0,by8 0,by8 0] ++ be 2 28 ++ be 2 (IntKind.i16.wrap v) ++ be 4 num).length) aL,.string txt]) (d:=13) kz Tryz.call156 (qcn txt aK aL (([]:Bs) ++ [by8 0,by8 0,by8 0,by8 0] ++ be 2 28 ++ be 2 (IntKind.i16.wrap v) ++ be 4 num) _ (aM.own 1 _ rfl) (by first | omega | (simp only [List.length_append,List.length_cons,List.length_nil,be_length,qbX]; omega) | (simp; omega))) ?_)
  rintro e_ oO ⟨aF,aG,rfl,gb,cX,cY⟩
  refine ⟨_,rfl,fun oP gc=>?_⟩
  have ax:WOk _ _ _ _ (z27 au ab aF aG v num txt.size txt):=aM.grow (k:=1) rfl cX gb cY
  have bU:=Fr.grow (z1 b1 has txt ac v aa af ae ab ag ah) (k:=1) (rs:=(z16 au ab aK aL v num)) (r':=(brow aF aG 5 ((([]:Bs) ++ [by8 0,by8 0,by8 0,by8 0] ++ be 2 28 ++ be 2 (IntKind.i16.wrap v) ++ be 4 num) ++ (be 2 txt.size ++ sb txt)))) rfl cX cY
  refine qak [5] [] [(4,.v (.slice aF (((([]:Bs) ++ [by8 0,by8 0,by8 0,by8 0] ++ be 2 28 ++ be 2 (IntKind.i16.wrap v) ++ be 4 num) ++ (be 2 txt.size ++ sb txt)).length) aG))] ax gc fun oQ gd=>?_
  refine qaf (qab ?_)
  refine wp_ret (qaE gd ax.cells (v:=.slice aF (((([]:Bs) ++ [by8 0,by8 0,by8 0,by8 0] ++ be 2 28 ++ be 2 (IntKind.i16.wrap v) ++ be 4 num) ++ (be 2 txt.size ++ sb txt)).length) aG) kz ?_)
  refine ⟨_,rfl,fun oR ge=>?_⟩
  have gg:=(EnvOk.places (tb':=[⟨b1,0,[.bool has,.string txt],true⟩,⟨ac,0,[.int .i16 (IntKind.i16.wrap v),.string ((aa.f 0).s),.string ((aa.f 1).s),.int .i64 ((aa.f 2).n),.int .i16 ((aa.f 3).n),.int .i32 ((aa.f 4).n),.string ((aa.f 5).s),.pointer ((aa.f 6).A),.slice ((aa.f 7).A) ((aa.f 7).l) ((aa.f 7).c),.map aa.m],true⟩,⟨af,0,[.bool has,.string txt],true⟩,⟨ae,0,[.pointer none],true⟩,⟨ab,0,[.string txt],true⟩,⟨ag,0,[.pointer (some ⟨ab,0,none⟩)],true⟩,⟨ah,0,[.func (.func 131) #[] #[.pointer (some ⟨ab,0,none⟩)]],true⟩]) ge (show Pl [⟨b1,0,[.bool has,.string txt],true⟩,⟨ac,0,[.int .i16 (IntKind.i16.wrap v),.string ((aa.f 0).s),.string ((aa.f 1).s),.int .i64 ((aa.f 2).n),.int .i16 ((aa.f 3).n),.int .i32 ((aa.f 4).n),.string ((aa.f 5).s),.pointer ((aa.f 6).A),.slice ((aa.f 7).A) ((aa.f 7).l) ((aa.f 7).c),.map aa.m],true⟩,⟨af,0,[.bool has,.string txt],true⟩,⟨ae,0,[.pointer none],true⟩,⟨ab,0,[.string txt],true⟩,⟨ag,0,[.pointer (some ⟨ab,0,none⟩)],true⟩,⟨ah,0,[.func (.func 131) #[] #[.pointer (some ⟨ab,0,none⟩)]],true⟩] [⟨b1,0,[.bool has,.string txt],true⟩,⟨ac,0,[.int .i16 (IntKind.i16.wrap v),.string ((aa.f 0).s),.string ((aa.f 1).s),.int .i64 ((aa.f 2).n),.int .i16 ((aa.f 3).n),.int .i32 ((aa.f 4).n),.string ((aa.f 5).s),.pointer ((aa.f 6).A),.slice ((aa.f 7).A) ((aa.f 7).l) ((aa.f 7).c),.map aa.m],true⟩,⟨af,0,[.bool has,.string txt],true⟩,⟨ae,0,[.pointer none],true⟩,⟨ab,0,[.string txt],true⟩,⟨ag,0,[.pointer (some ⟨ab,0,none⟩)],true⟩,⟨ah,0,[.func (.func 131) #[] #[.pointer (some ⟨ab,0,none⟩)]],true⟩] from ⟨rfl,rfl,⟨rfl,rfl,⟨rfl,rfl,⟨rfl,rfl,⟨rfl,rfl,⟨rfl,rfl,⟨rfl,rfl,trivial⟩⟩⟩⟩⟩⟩⟩)).pk (env':=[(40,.v (.slice aF (((([]:Bs) ++ [by8 0,by8 0,by8 0,by8 0] ++ be 2 28 ++ be 2 (IntKind.i16.wrap v) ++ be 4 num) ++ (be 2 txt.size ++ sb txt)).length) aG)),(2,.v (.iface 59 (.pointer (some ⟨ac,0,none⟩)))),(35,.v (.slice aK ((([]:Bs) ++ [by8 0,by8 0,by8 0,by8 0] ++ be 2 28 ++ be 2 (IntKind.i16.wrap v) ++ be 4 num).length) aL)),(39,.v (.pointer (some ⟨ab,0,none⟩)))])
  refine qak [6] [] [(1,.v (.slice aF (((([]:Bs) ++ [by8 0,by8 0,by8 0,by8 0] ++ be 2 28 ++ be 2 (IntKind.i16.wrap v) ++ be 4 num) ++ (be 2 txt.size ++ sb txt)).length) aG)),(2,.v (.iface 59 (.pointer (some ⟨ac,0,none⟩))))] ax gg fun oS gh=>?_
  refine qaf (qab ?_)
  refine wp_seq (qae [0,1] kz ?_)
  refine qak [0] [1] [(1,.v (.slice aF (((([]:Bs) ++ [by8 0,by8 0,by8 0,by8 0] ++ be 2 28 ++ be 2 (IntKind.i16.wrap v) ++ be 4 num) ++ (be 2 txt.size ++ sb txt)).length) aG)),(2,.v (.iface 59 (.pointer (some ⟨ac,0,none⟩)))),(41,.v (.iface 59 (.pointer (some ⟨ac,0,none⟩))))] ax gh fun oT gi=>?_
  refine qam (qck gi (t := 59) (v := (.pointer (some ⟨ac, 0, none⟩))) (v' := (.pointer (some ⟨ac, 0, none⟩))) (name := "IsFlexible") (f := 227) (vs := []) (d := 42) (n' := 8) kz (fun _ => by kernel_rfl) Tryz.call227 Tryz.func227 rfl Tryz.ntmps227 kz fun oU gj => ?_)
  have gk:=gj.recast 0 (.v (.pointer (some ⟨ac,0,none⟩))) (.p 1 0) rfl rfl (Nat.le_of_ble_eq_true (n:=2) rfl)
  refine qar [(0,.p 1 0)] ax gk fun oV gl=>?_
  refine qar [(2,.v (.bool (decide ((IntKind.i16.wrap v) ≥ 3))))] ax gl fun oW gm=>?_
  refine wp_ret (qaE gm ax.cells (v:=.bool (decide ((IntKind.i16.wrap v) ≥ 3))) kz ?_)
  refine ⟨_,rfl,fun oX gn=>?_⟩
  have cE:=(EnvOk.places (tb':=[⟨b1,0,[.bool has,.string txt],true⟩,⟨ac,0,[.int .i16 (IntKind.i16.wrap v),.string ((aa.f 0).s),.string ((aa.f 1).s),.int .i64 ((aa.f 2).n),.int .i16 ((aa.f 3).n),.int .i32 ((aa.f 4).n),.string ((aa.f 5).s),.pointer ((aa.f 6).A),.slice ((aa.f 7).A) ((aa.f 7).l) ((aa.f 7).c),.map aa.m],true⟩,⟨af,0,[.bool has,.string txt],true⟩,⟨ae,0,[.pointer none],true⟩,⟨ab,0,[.string txt],true⟩,⟨ag,0,[.pointer (some ⟨ab,0,none⟩)],true⟩,⟨ah,0,[.func (.func 131) #[] #[.pointer (some ⟨ab,0,none⟩)]],true⟩]) gn (show Pl [⟨b1,0,[.bool has,.string txt],true⟩,⟨ac,0,[.int .i16 (IntKind.i16.wrap v),.string ((aa.f 0).s),.string ((aa.f 1).s),.int .i64 ((aa.f 2).n),.int .i16 ((aa.f 3).n),.int .i32 ((aa.f 4).n),.string ((aa.f 5).s),.pointer ((aa.f 6).A),.slice ((aa.f 7).A) ((aa.f 7).l) ((aa.f 7).c),.map aa.m],true⟩,⟨af,0,[.bool has,.string txt],true⟩,⟨ae,0,[.pointer none],true⟩,⟨ab,0,[.string txt],true⟩,⟨ag,0,[.pointer (some ⟨ab,0,none⟩)],true⟩,⟨ah,0,[.func (.func 131) #[] #[.pointer (some ⟨ab,0,none⟩)]],true⟩] [⟨b1,0,[.bool has,.string txt],true⟩,⟨ac,0,[.int .i16 (IntKind.i16.wrap v),.string ((aa.f 0).s),.string ((aa.f 1).s),.int .i64 ((aa.f 2).n),.int .i16 ((aa.f 3).n),.int .i32 ((aa.f 4).n),.string ((aa.f 5).s),.pointer ((aa.f 6).A),.slice ((aa.f 7).A) ((aa.f 7).l) ((aa.f 7).c),.map aa.m],true⟩,⟨af,0,[.bool has,.string txt],true⟩,⟨ae,0,[.pointer none],true⟩,⟨ab,0,[.string txt],true⟩,⟨ag,0,[.pointer (some ⟨ab,0,none⟩)],true⟩,⟨ah,0,[.func (.func 131) #[] #[.pointer (some ⟨ab,0,none⟩)]],true⟩] from ⟨rfl,rfl,⟨rfl,rfl,⟨rfl,rfl,⟨rfl,rfl,⟨rfl,rfl,⟨rfl,rfl,⟨rfl,rfl,trivial⟩⟩⟩⟩⟩⟩⟩)).pk (env':=[(42,.v (.bool (decide ((IntKind.i16.wrap v) ≥ 3)))),(1,.v (.slice aF (((([]:Bs) ++ [by8 0,by8 0,by8 0,by8 0] ++ be 2 28 ++ be 2 (IntKind.i16.wrap v) ++ be 4 num) ++ (be 2 txt.size ++ sb txt)).length) aG)),(2,.v (.iface 59 (.pointer (some ⟨ac,0,none⟩)))),(41,.v (.iface 59 (.pointer (some ⟨ac,0,none⟩))))])
  refine qaf (qab ?_)
  refine qay cE (b:=decide ((IntKind.i16.wrap v) ≥ 3)) kz (fun bf=>?_) (fun bf=>?_)
  ·
   have mr:=of_decide_eq_true bf
   refine qar [(1,.v (.slice aF (((([]:Bs) ++ [by8 0,by8 0,by8 0,by8 0] ++ be 2 28 ++ be 2 (IntKind.i16.wrap v) ++ be 4 num) ++ (be 2 txt.size ++ sb txt)).length) aG)),(2,.v (.iface 59 (.pointer (some ⟨ac,0,none⟩)))),(11,.v (.int .u8 0))] ax cE fun oY gp=>?_
   refine qae [0,1,2,3,4] kz ?_
   refine qak [0,1] [2,3,4] [(2,.v (.iface 59 (.pointer (some ⟨ac,0,none⟩)))),(11,.v (.int .u8 0)),(43,.v (.slice aF (((([]:Bs) ++ [by8 0,by8 0,by8 0,by8 0] ++ be 2 28 ++ be 2 (IntKind.i16.wrap v) ++ be 4 num) ++ (be 2 txt.size ++ sb txt)).length) aG)),(44,.v (.int .u8 0))] ax gp fun oZ gq=>?_
   refine qbu ax gq (k:=1) (e:=5) (size:=1) (len:=1) (cs:=[.int .u8 0]) (d1:=45) (d:=46) kz (t:=24) (bytes:=1) kz (fun _=>by kernel_rfl) rfl kz (by first | omega | (simp only [List.length_append,List.length_cons,List.length_nil,be_length,qbX]; omega) | (simp; omega)) fun bg bh o5 o6 cZ gt ⟨_,gv⟩=>?_
   have gw:(⟨bg,bh,5,1,((([]:Bs) ++ [by8 0,by8 0,by8 0,by8 0] ++ be 2 28 ++ be 2 (IntKind.i16.wrap v) ++ be 4 num) ++ (be 2 txt.size ++ sb txt)).length + 1,bc ((([]:Bs) ++ [by8 0,by8 0,by8 0,by8 0] ++ be 2 28 ++ be 2 (IntKind.i16.wrap v) ++ be 4 num) ++ (be 2 txt.size ++ sb txt)) ++ [.int .u8 0]⟩:Rw) = brow bg bh 5 ((([]:Bs) ++ [by8 0,by8 0,by8 0,by8 0] ++ be 2 28 ++ be 2 (IntKind.i16.wrap v) ++ be 4 num) ++ (be 2 txt.size ++ sb txt) ++ [by8 0]):=qa2 (by simp only [bc,List.map,qbE]; try rfl) rfl
   obtain ⟨bt,c5⟩:=gt.rowEq 1 (z26 au ab bg bh v num txt.size txt) gw
   have gx:=EnvOk.pick gv (ks:=[2,11,43,44,46]) (env':=[(2,.v (.iface 59 (.pointer (some ⟨ac,0,none⟩)))),(11,.v (.int .u8 0)),(43,.v (.slice aF (((([]:Bs) ++ [by8 0,by8 0,by8 0,by8 0] ++ be 2 28 ++ be 2 (IntKind.i16.wrap v) ++ be 4 num) ++ (be 2 txt.size ++ sb txt)).length) aG)),(44,.v (.int .u8 0)),(46,.v (.slice bg (((([]:Bs) ++ [by8 0,by8 0,by8 0,by8 0] ++ be 2 28 ++ be 2 (IntKind.i16.wrap v) ++ be 4 num) ++ (be 2 txt.size ++ sb txt)).length + 1) bh))]) kz
   have gy:=gx.cast (env':=[(2,.v (.iface 59 (.pointer (some ⟨ac,0,none⟩)))),(11,.v (.int .u8 0)),(43,.v (.slice aF (((([]:Bs) ++ [by8 0,by8 0,by8 0,by8 0] ++ be 2 28 ++ be 2 (IntKind.i16.wrap v) ++ be 4 num) ++ (be 2 txt.size ++ sb txt)).length) aG)),(44,.v (.int .u8 0)),(46,.v (.slice bg (((([]:Bs) ++ [by8 0,by8 0,by8 0,by8 0] ++ be 2 28 ++ be 2 (IntKind.i16.wrap v) ++ be 4 num) ++ (be 2 txt.size ++ sb txt) ++ [by8 0]).length) bh))]) (by simp only [List.length_append,List.length_cons,List.length_nil,Nat.zero_add])
   refine qak [4] [] [(1,.v (.slice bg (((([]:Bs) ++ [by8 0,by8 0,by8 0,by8 0] ++ be 2 28 ++ be 2 (IntKind.i16.wrap v) ++ be 4 num) ++ (be 2 txt.size ++ sb txt) ++ [by8 0]).length) bh)),(2,.v (.iface 59 (.pointer (some ⟨ac,0,none⟩)))),(11,.v (.int .u8 0))] bt gy fun o7 gz=>?_
   refine qaf (qab ?_)
   refine qar [(1,.v (.slice bg (((([]:Bs) ++ [by8 0,by8 0,by8 0,by8 0] ++ be 2 28 ++ be 2 (IntKind.i16.wrap v) ++ be 4 num) ++ (be 2 txt.size ++ sb txt) ++ [by8 0]).length) bh)),(2,.v (.iface 59 (.pointer (some ⟨ac,0,none⟩)))),(48,.v (.bool false))] bt gz fun o9 da=>?_
   refine qau da (b:=false) kz rfl ?_
   refine wp_skip (qab (qae [0,1,2,3] kz ?_))
   refine qak [0,1] [2,3] [(49,.v (.iface 59 (.pointer (some ⟨ac,0,none⟩)))),(50,.v (.slice bg (((([]:Bs) ++ [by8 0,by8 0,by8 0,by8 0] ++ be 2 28 ++ be 2 (IntKind.i16.wrap v) ++ be 4 num) ++ (be 2 txt.size ++ sb txt) ++ [by8 0]).length) bh))] bt da fun pa gA=>?_
   have gB:=(qaW _ (((((((((((((((aP.trans aQ).trans bG).trans bI).trans bJ).trans bK).trans bL).trans bM).trans bN).trans bO).trans bQ).trans bS).trans bT).trans bU).trans cZ).trans c5).step immM (((((((((((((((aP.trans aQ).trans bG).trans bI).trans bJ).trans bK).trans bL).trans bM).trans bN).trans bO).trans bQ).trans bS).trans bT).trans bU).trans cZ).trans c5).to' cJ)
   have dU:=bt.strImm (G:=F) 1 rfl
   have hk_:=qaW _ (Step.refl _ Nil) nilM (fun b o h_ _=>qgC h_) gB
   refine qam (qc9 gA (t := 59) (v := (.pointer (some ⟨ac, 0, none⟩))) (v' := (.pointer (some ⟨ac, 0, none⟩))) (name := "AppendTo") (f := 225) (vs := [.slice bg (((([] : Bs) ++ [by8 0, by8 0, by8 0, by8 0] ++ be 2 28 ++ be 2 (IntKind.i16.wrap v) ++ be 4 num) ++ (be 2 txt.size ++ sb txt) ++ [by8 0]).length) bh]) (d := 51) kz (fun _ => by kernel_rfl) Tryz.call225 (qbN (IntKind.i16.wrap v) aa ac 0 bg bh ((([] : Bs) ++ [by8 0, by8 0, by8 0, by8 0] ++ be 2 28 ++ be 2 (IntKind.i16.wrap v) ++ be 4 num) ++ (be 2 txt.size ++ sb txt) ++ [by8 0]) _ _ dU hk_ (qgA 1 rfl) (bt.own 1 _ rfl) (by first | omega | (simp only [List.length_append, List.length_cons, List.length_nil, be_length, qbX]; omega) | (simp; omega))) ?_)
   rintro e_ pb ⟨ai,aj,rfl,gC,db,dc⟩
   refine ⟨_,rfl,fun pc gD=>?_⟩
   have de:WOk _ _ _ _ (z13 au ab ai aj v num txt.size txt aa):=bt.grow (k:=1) rfl db gC dc
   have mt:=Fr.grow (z1 b1 has txt ac v aa af ae ab ag ah) (k:=1) (rs:=(z26 au ab bg bh v num txt.size txt)) (r':=(brow ai aj 5 (((([]:Bs) ++ [by8 0,by8 0,by8 0,by8 0] ++ be 2 28 ++ be 2 (IntKind.i16.wrap v) ++ be 4 num) ++ (be 2 txt.size ++ sb txt) ++ [by8 0]) ++ qaa (IntKind.i16.wrap v) aa))) rfl db dc
   refine qak [3] [] [(1,.v (.slice ai ((((([]:Bs) ++ [by8 0,by8 0,by8 0,by8 0] ++ be 2 28 ++ be 2 (IntKind.i16.wrap v) ++ be 4 num) ++ (be 2 txt.size ++ sb txt) ++ [by8 0]) ++ qaa (IntKind.i16.wrap v) aa).length) aj))] de gD fun pd gE=>?_
   refine qaf (qab ?_)
   refine qbm 7 kz de fun pe mu bV bi=>?_
   refine qa0 [0,2] [(1,.v (.slice ai ((((([]:Bs) ++ [by8 0,by8 0,by8 0,by8 0] ++ be 2 28 ++ be 2 (IntKind.i16.wrap v) ++ be 4 num) ++ (be 2 txt.size ++ sb txt) ++ [by8 0]) ++ qaa (IntKind.i16.wrap v) aa).length) aj)),(52,.v (.slice ai ((((([]:Bs) ++ [by8 0,by8 0,by8 0,by8 0] ++ be 2 28 ++ be 2 (IntKind.i16.wrap v) ++ be 4 num) ++ (be 2 txt.size ++ sb txt) ++ [by8 0]) ++ qaa (IntKind.i16.wrap v) aa).length) aj)),(54,.v (.slice ai ((((([]:Bs) ++ [by8 0,by8 0,by8 0,by8 0] ++ be 2 28 ++ be 2 (IntKind.i16.wrap v) ++ be 4 num) ++ (be 2 txt.size ++ sb txt) ++ [by8 0]) ++ qaa (IntKind.i16.wrap v) aa).length) aj))] 5 (qac qah) (fun _ h=>h.cells) bi gE fun pf df=>?_
   refine qe2 (i:=1) (j:=3) kz ?_ ?_
   ·
    refine (qbH df (t:=24) (A:=ai) (m:=(((([]:Bs) ++ [by8 0,by8 0,by8 0,by8 0] ++ be 2 28 ++ be 2 (IntKind.i16.wrap v) ++ be 4 num) ++ (be 2 txt.size ++ sb txt) ++ [by8 0]) ++ qaa (IntKind.i16.wrap v) aa).length) (cp:=aj) (q:=0) (d:=53) (j:=0) kz (e:=5) (size:=1) (bytes:=1) kz (rfl) (by omega) fun pg gF=>?_)
    refine ⟨fun _=>bi,?_⟩
    refine qaO (i:=3) kz (qbz gF (t:=24) (A:=ai) (m:=((((([]:Bs) ++ [by8 0,by8 0,by8 0,by8 0] ++ be 2 28 ++ be 2 (IntKind.i16.wrap v) ++ be 4 num) ++ (be 2 txt.size ++ sb txt) ++ [by8 0]) ++ qaa (IntKind.i16.wrap v) aa).length)) (cp:=aj) (q:=4) (d:=55) (j:=4) kz (e:=5) (bytes:=1) kz (rfl) (by first | omega | (simp only [List.length_append,List.length_cons,List.length_nil]; omega)) fun ph gG=>?_)
    refine ⟨fun _=>bi,?_⟩
    refine qa0 [4,5] [(1,.v (.slice ai ((((([]:Bs) ++ [by8 0,by8 0,by8 0,by8 0] ++ be 2 28 ++ be 2 (IntKind.i16.wrap v) ++ be 4 num) ++ (be 2 txt.size ++ sb txt) ++ [by8 0]) ++ qaa (IntKind.i16.wrap v) aa).length) aj)),(53,.v (.slice ai 0 aj)),(57,.v (.int .i32 (IntKind.i32.wrap ((((((([]:Bs) ++ [by8 0,by8 0,by8 0,by8 0] ++ be 2 28 ++ be 2 (IntKind.i16.wrap v) ++ be 4 num) ++ (be 2 txt.size ++ sb txt) ++ [by8 0]) ++ qaa (IntKind.i16.wrap v) aa).length) - 4:Nat):Int))))] 1 (qac qah) (fun _ h=>h.cells) bi gG fun pi gH=>?_
    refine qaO (i:=6) kz (qal gH (f:=133) (vs:=[.slice ai 0 aj,.int .i32 (IntKind.i32.wrap ((((((([]:Bs) ++ [by8 0,by8 0,by8 0,by8 0] ++ be 2 28 ++ be 2 (IntKind.i16.wrap v) ++ be 4 num) ++ (be 2 txt.size ++ sb txt) ++ [by8 0]) ++ qaa (IntKind.i16.wrap v) aa).length) - 4:Nat):Int))]) (d:=58) kz Tryz.call133 (qbP (IntKind.i32.wrap ((((((([]:Bs) ++ [by8 0,by8 0,by8 0,by8 0] ++ be 2 28 ++ be 2 (IntKind.i16.wrap v) ++ be 4 num) ++ (be 2 txt.size ++ sb txt) ++ [by8 0]) ++ qaa (IntKind.i16.wrap v) aa).length) - 4:Nat):Int)) ai aj (((([]:Bs) ++ [by8 0,by8 0,by8 0,by8 0] ++ be 2 28 ++ be 2 (IntKind.i16.wrap v) ++ be 4 num) ++ (be 2 txt.size ++ sb txt) ++ [by8 0]) ++ qaa (IntKind.i16.wrap v) aa) _ (bV.own 1 _ rfl) (by simp only [List.length_append,List.length_cons,List.length_nil]; omega)) ?_)
    rintro e_ pj ⟨rfl,gI,dg⟩
    refine ⟨_,rfl,fun pl gJ=>?_⟩
    have aR:WOk _ _ _ _ (z8 au ab ai aj v num txt.size txt aa):=bV.grow (k:=1) (r':=⟨ai,aj,5,1,(((([]:Bs) ++ [by8 0,by8 0,by8 0,by8 0] ++ be 2 28 ++ be 2 (IntKind.i16.wrap v) ++ be 4 num) ++ (be 2 txt.size ++ sb txt) ++ [by8 0]) ++ qaa (IntKind.i16.wrap v) aa).length,bc (be 4 (IntKind.i32.wrap ((((((([]:Bs) ++ [by8 0,by8 0,by8 0,by8 0] ++ be 2 28 ++ be 2 (IntKind.i16.wrap v) ++ be 4 num) ++ (be 2 txt.size ++ sb txt) ++ [by8 0]) ++ qaa (IntKind.i16.wrap v) aa).length) - 4:Nat):Int)) ++ (((([]:Bs) ++ [by8 0,by8 0,by8 0,by8 0] ++ be 2 28 ++ be 2 (IntKind.i16.wrap v) ++ be 4 num) ++ (be 2 txt.size ++ sb txt) ++ [by8 0]) ++ qaa (IntKind.i16.wrap v) aa).drop 4)⟩) rfl dg gI (fun g' hg'=>.inl hg')
    have gK:=Fr.grow (z1 b1 has txt ac v aa af ae ab ag ah) (k:=1) (rs:=(z13 au ab ai aj v num txt.size txt aa)) (r':=⟨ai,aj,5,1,(((([]:Bs) ++ [by8 0,by8 0,by8 0,by8 0] ++ be 2 28 ++ be 2 (IntKind.i16.wrap v) ++ be 4 num) ++ (be 2 txt.size ++ sb txt) ++ [by8 0]) ++ qaa (IntKind.i16.wrap v) aa).length,bc (be 4 (IntKind.i32.wrap ((((((([]:Bs) ++ [by8 0,by8 0,by8 0,by8 0] ++ be 2 28 ++ be 2 (IntKind.i16.wrap v) ++ be 4 num) ++ (be 2 txt.size ++ sb txt) ++ [by8 0]) ++ qaa (IntKind.i16.wrap v) aa).length) - 4:Nat):Int)) ++ (((([]:Bs) ++ [by8 0,by8 0,by8 0,by8 0] ++ be 2 28 ++ be 2 (IntKind.i16.wrap v) ++ be 4 num) ++ (be 2 txt.size ++ sb txt) ++ [by8 0]) ++ qaa (IntKind.i16.wrap v) aa).drop 4)⟩) rfl dg (fun g' hg'=>.inl hg')
    have gL:=TT.ofW gK aR
    refine ⟨fun _=>gL,?_⟩
    refine qaZ kz ?_ _
    refine qab (qar [(8,.v (.slice ai ((((([]:Bs) ++ [by8 0,by8 0,by8 0,by8 0] ++ be 2 28 ++ be 2 (IntKind.i16.wrap v) ++ be 4 num) ++ (be 2 txt.size ++ sb txt) ++ [by8 0]) ++ qaa (IntKind.i16.wrap v) aa).length) aj))] aR gJ fun pm gM=>?_)
    refine wp_ret (qaE gM aR.cells (v:=.slice ai ((((([]:Bs) ++ [by8 0,by8 0,by8 0,by8 0] ++ be 2 28 ++ be 2 (IntKind.i16.wrap v) ++ be 4 num) ++ (be 2 txt.size ++ sb txt) ++ [by8 0]) ++ qaa (IntKind.i16.wrap v) aa).length) aj) kz ?_)
    refine ⟨_,rfl,fun pn gN=>?_⟩
    have gO:=(EnvOk.places (tb':=[⟨b1,0,[.bool has,.string txt],true⟩,⟨ac,0,[.int .i16 (IntKind.i16.wrap v),.string ((aa.f 0).s),.string ((aa.f 1).s),.int .i64 ((aa.f 2).n),.int .i16 ((aa.f 3).n),.int .i32 ((aa.f 4).n),.string ((aa.f 5).s),.pointer ((aa.f 6).A),.slice ((aa.f 7).A) ((aa.f 7).l) ((aa.f 7).c),.map aa.m],true⟩,⟨af,0,[.bool has,.string txt],true⟩,⟨ae,0,[.pointer none],true⟩,⟨ab,0,[.string txt],true⟩,⟨ag,0,[.pointer (some ⟨ab,0,none⟩)],true⟩,⟨ah,0,[.func (.func 131) #[] #[.pointer (some ⟨ab,0,none⟩)]],true⟩]) gN (show Pl [⟨b1,0,[.bool has,.string txt],true⟩,⟨ac,0,[.int .i16 (IntKind.i16.wrap v),.string ((aa.f 0).s),.string ((aa.f 1).s),.int .i64 ((aa.f 2).n),.int .i16 ((aa.f 3).n),.int .i32 ((aa.f 4).n),.string ((aa.f 5).s),.pointer ((aa.f 6).A),.slice ((aa.f 7).A) ((aa.f 7).l) ((aa.f 7).c),.map aa.m],true⟩,⟨af,0,[.bool has,.string txt],true⟩,⟨ae,0,[.pointer none],true⟩,⟨ab,0,[.string txt],true⟩,⟨ag,0,[.pointer (some ⟨ab,0,none⟩)],true⟩,⟨ah,0,[.func (.func 131) #[] #[.pointer (some ⟨ab,0,none⟩)]],true⟩] [⟨b1,0,[.bool has,.string txt],true⟩,⟨ac,0,[.int .i16 (IntKind.i16.wrap v),.string ((aa.f 0).s),.string ((aa.f 1).s),.int .i64 ((aa.f 2).n),.int .i16 ((aa.f 3).n),.int .i32 ((aa.f 4).n),.string ((aa.f 5).s),.pointer ((aa.f 6).A),.slice ((aa.f 7).A) ((aa.f 7).l) ((aa.f 7).c),.map aa.m],true⟩,⟨af,0,[.bool has,.string txt],true⟩,⟨ae,0,[.pointer none],true⟩,⟨ab,0,[.string txt],true⟩,⟨ag,0,[.pointer (some ⟨ab,0,none⟩)],true⟩,⟨ah,0,[.func (.func 131) #[] #[.pointer (some ⟨ab,0,none⟩)]],true⟩] from ⟨rfl,rfl,⟨rfl,rfl,⟨rfl,rfl,⟨rfl,rfl,⟨rfl,rfl,⟨rfl,rfl,⟨rfl,rfl,trivial⟩⟩⟩⟩⟩⟩⟩)).pk (env':=[(19,.v (.slice ai ((((([]:Bs) ++ [by8 0,by8 0,by8 0,by8 0] ++ be 2 28 ++ be 2 (IntKind.i16.wrap v) ++ be 4 num) ++ (be 2 txt.size ++ sb txt) ++ [by8 0]) ++ qaa (IntKind.i16.wrap v) aa).length) aj)),(16,.p 5 0),(17,.v (.iface 59 (.pointer (some ⟨ac,0,none⟩)))),(18,.v (.int .i32 num))])
    refine qak [4] [] [(6,.v (.slice ai ((((([]:Bs) ++ [by8 0,by8 0,by8 0,by8 0] ++ be 2 28 ++ be 2 (IntKind.i16.wrap v) ++ be 4 num) ++ (be 2 txt.size ++ sb txt) ++ [by8 0]) ++ qaa (IntKind.i16.wrap v) aa).length) aj))] aR gO fun po gP=>?_
    refine qaf (qab ?_)
    refine wp_ret (qaE gP aR.cells (v:=.slice ai ((((([]:Bs) ++ [by8 0,by8 0,by8 0,by8 0] ++ be 2 28 ++ be 2 (IntKind.i16.wrap v) ++ be 4 num) ++ (be 2 txt.size ++ sb txt) ++ [by8 0]) ++ qaa (IntKind.i16.wrap v) aa).length) aj) kz ?_)
    refine ⟨_,rfl,fun pp gQ=>?_⟩
    have gR:=(EnvOk.places (tb':=[⟨b1,0,[.bool has,.string txt],true⟩,⟨ac,0,[.int .i16 (IntKind.i16.wrap v),.string ((aa.f 0).s),.string ((aa.f 1).s),.int .i64 ((aa.f 2).n),.int .i16 ((aa.f 3).n),.int .i32 ((aa.f 4).n),.string ((aa.f 5).s),.pointer ((aa.f 6).A),.slice ((aa.f 7).A) ((aa.f 7).l) ((aa.f 7).c),.map aa.m],true⟩,⟨af,0,[.bool has,.string txt],true⟩,⟨ae,0,[.pointer none],true⟩,⟨ab,0,[.string txt],true⟩,⟨ag,0,[.pointer (some ⟨ab,0,none⟩)],true⟩,⟨ah,0,[.func (.func 131) #[] #[.pointer (some ⟨ab,0,none⟩)]],true⟩]) gQ (show Pl [⟨b1,0,[.bool has,.string txt],true⟩,⟨ac,0,[.int .i16 (IntKind.i16.wrap v),.string ((aa.f 0).s),.string ((aa.f 1).s),.int .i64 ((aa.f 2).n),.int .i16 ((aa.f 3).n),.int .i32 ((aa.f 4).n),.string ((aa.f 5).s),.pointer ((aa.f 6).A),.slice ((aa.f 7).A) ((aa.f 7).l) ((aa.f 7).c),.map aa.m],true⟩] [⟨b1,0,[.bool has,.string txt],true⟩,⟨ac,0,[.int .i16 (IntKind.i16.wrap v),.string ((aa.f 0).s),.string ((aa.f 1).s),.int .i64 ((aa.f 2).n),.int .i16 ((aa.f 3).n),.int .i32 ((aa.f 4).n),.string ((aa.f 5).s),.pointer ((aa.f 6).A),.slice ((aa.f 7).A) ((aa.f 7).l) ((aa.f 7).c),.map aa.m],true⟩,⟨af,0,[.bool has,.string txt],true⟩,⟨ae,0,[.pointer none],true⟩,⟨ab,0,[.string txt],true⟩,⟨ag,0,[.pointer (some ⟨ab,0,none⟩)],true⟩,⟨ah,0,[.func (.func 131) #[] #[.pointer (some ⟨ab,0,none⟩)]],true⟩] from ⟨rfl,rfl,⟨rfl,rfl,trivial⟩⟩)).pk (env':=[(25,.v (.slice ai ((((([]:Bs) ++ [by8 0,by8 0,by8 0,by8 0] ++ be 2 28 ++ be 2 (IntKind.i16.wrap v) ++ be 4 num) ++ (be 2 txt.size ++ sb txt) ++ [by8 0]) ++ qaa (IntKind.i16.wrap v) aa).length) aj)),(21,.v (.agg #[.bool has,.string txt])),(23,.v (.iface 59 (.pointer (some ⟨ac,0,none⟩)))),(24,.v (.int .i32 num))])
    refine qak [5,6] [] [(8,.v (.slice ai ((((([]:Bs) ++ [by8 0,by8 0,by8 0,by8 0] ++ be 2 28 ++ be 2 (IntKind.i16.wrap v) ++ be 4 num) ++ (be 2 txt.size ++ sb txt) ++ [by8 0]) ++ qaa (IntKind.i16.wrap v) aa).length) aj)),(9,.v (.bool true))] aR gR fun pq gS=>?_
    refine qaf (qab ?_)
    refine wp_ret (qaE gS aR.cells (v:=.tuple #[.slice ai ((((([]:Bs) ++ [by8 0,by8 0,by8 0,by8 0] ++ be 2 28 ++ be 2 (IntKind.i16.wrap v) ++ be 4 num) ++ (be 2 txt.size ++ sb txt) ++ [by8 0]) ++ qaa (IntKind.i16.wrap v) aa).length) aj,.bool true]) kz ?_)
    have gT:be 4 (IntKind.i32.wrap ((((((([]:Bs) ++ [by8 0,by8 0,by8 0,by8 0] ++ be 2 28 ++ be 2 (IntKind.i16.wrap v) ++ be 4 num) ++ (be 2 txt.size ++ sb txt) ++ [by8 0]) ++ qaa (IntKind.i16.wrap v) aa).length) - 4:Nat):Int)) ++ (((([]:Bs) ++ [by8 0,by8 0,by8 0,by8 0] ++ be 2 28 ++ be 2 (IntKind.i16.wrap v) ++ be 4 num) ++ (be 2 txt.size ++ sb txt) ++ [by8 0]) ++ qaa (IntKind.i16.wrap v) aa).drop 4 = (qba 28 (IntKind.i16.wrap v) num has (sb txt) (decide ((IntKind.i16.wrap v) ≥ 3)) (qaa (IntKind.i16.wrap v) aa)):=qcP (R:=outB 28 (IntKind.i16.wrap v) num has (sb txt) (decide ((IntKind.i16.wrap v) ≥ 3)) (qaa (IntKind.i16.wrap v) aa)) (by simp [outB,qeq,qbX,aJ,bf])
    exact qcQ aR (k:=1) rfl (gT.trans (by rw [ba])) (by simp only [List.length_append,List.length_cons,List.length_nil]; omega)
   refine (qbz df (t:=24) (A:=ai) (m:=((((([]:Bs) ++ [by8 0,by8 0,by8 0,by8 0] ++ be 2 28 ++ be 2 (IntKind.i16.wrap v) ++ be 4 num) ++ (be 2 txt.size ++ sb txt) ++ [by8 0]) ++ qaa (IntKind.i16.wrap v) aa).length)) (cp:=aj) (q:=4) (d:=55) (j:=4) kz (e:=5) (bytes:=1) kz (rfl) (by first | omega | (simp only [List.length_append,List.length_cons,List.length_nil]; omega)) fun pr gU=>?_)
   refine ⟨fun _=>bi,?_⟩
   refine qa0 [4,5] [(1,.v (.slice ai ((((([]:Bs) ++ [by8 0,by8 0,by8 0,by8 0] ++ be 2 28 ++ be 2 (IntKind.i16.wrap v) ++ be 4 num) ++ (be 2 txt.size ++ sb txt) ++ [by8 0]) ++ qaa (IntKind.i16.wrap v) aa).length) aj)),(52,.v (.slice ai ((((([]:Bs) ++ [by8 0,by8 0,by8 0,by8 0] ++ be 2 28 ++ be 2 (IntKind.i16.wrap v) ++ be 4 num) ++ (be 2 txt.size ++ sb txt) ++ [by8 0]) ++ qaa (IntKind.i16.wrap v) aa).length) aj)),(57,.v (.int .i32 (IntKind.i32.wrap ((((((([]:Bs) ++ [by8 0,by8 0,by8 0,by8 0] ++ be 2 28 ++ be 2 (IntKind.i16.wrap v) ++ be 4 num) ++ (be 2 txt.size ++ sb txt) ++ [by8 0]) ++ qaa (IntKind.i16.wrap v) aa).length) - 4:Nat):Int))))] 2 (qac qah) (fun _ h=>h.cells) bi gU fun pt gV=>?_
   refine qaO (i:=1) kz (qbH gV (t:=24) (A:=ai) (m:=(((([]:Bs) ++ [by8 0,by8 0,by8 0,by8 0] ++ be 2 28 ++ be 2 (IntKind.i16.wrap v) ++ be 4 num) ++ (be 2 txt.size ++ sb txt) ++ [by8 0]) ++ qaa (IntKind.i16.wrap v) aa).length) (cp:=aj) (q:=0) (d:=53) (j:=0) kz (e:=5) (size:=1) (bytes:=1) kz (rfl) (by omega) fun pu gW=>?_)
   refine ⟨fun _=>bi,?_⟩
   refine qaO (i:=6) kz (qal gW (f:=133) (vs:=[.slice ai 0 aj,.int .i32 (IntKind.i32.wrap ((((((([]:Bs) ++ [by8 0,by8 0,by8 0,by8 0] ++ be 2 28 ++ be 2 (IntKind.i16.wrap v) ++ be 4 num) ++ (be 2 txt.size ++ sb txt) ++ [by8 0]) ++ qaa (IntKind.i16.wrap v) aa).length) - 4:Nat):Int))]) (d:=58) kz Tryz.call133 (qbP (IntKind.i32.wrap ((((((([]:Bs) ++ [by8 0,by8 0,by8 0,by8 0] ++ be 2 28 ++ be 2 (IntKind.i16.wrap v) ++ be 4 num) ++ (be 2 txt.size ++ sb txt) ++ [by8 0]) ++ qaa (IntKind.i16.wrap v) aa).length) - 4:Nat):Int)) ai aj (((([]:Bs) ++ [by8 0,by8 0,by8 0,by8 0] ++ be 2 28 ++ be 2 (IntKind.i16.wrap v) ++ be 4 num) ++ (be 2 txt.size ++ sb txt) ++ [by8 0]) ++ qaa (IntKind.i16.wrap v) aa) _ (bV.own 1 _ rfl) (by simp only [List.length_append,List.length_cons,List.length_nil]; omega)) ?_)
   rintro e_ pv ⟨rfl,gX,dh⟩
   refine ⟨_,rfl,fun pw gY=>?_⟩
   have aS:WOk _ _ _ _ (z8 au ab ai aj v num txt.size txt aa):=bV.grow (k:=1) (r':=⟨ai,aj,5,1,(((([]:Bs) ++ [by8 0,by8 0,by8 0,by8 0] ++ be 2 28 ++ be 2 (IntKind.i16.wrap v) ++ be 4 num) ++ (be 2 txt.size ++ sb txt) ++ [by8 0]) ++ qaa (IntKind.i16.wrap v) aa).length,bc (be 4 (IntKind.i32.wrap ((((((([]:Bs) ++ [by8 0,by8 0,by8 0,by8 0] ++ be 2 28 ++ be 2 (IntKind.i16.wrap v) ++ be 4 num) ++ (be 2 txt.size ++ sb txt) ++ [by8 0]) ++ qaa (IntKind.i16.wrap v) aa).length) - 4:Nat):Int)) ++ (((([]:Bs) ++ [by8 0,by8 0,by8 0,by8 0] ++ be 2 28 ++ be 2 (IntKind.i16.wrap v) ++ be 4 num) ++ (be 2 txt.size ++ sb txt) ++ [by8 0]) ++ qaa (IntKind.i16.wrap v) aa).drop 4)⟩) rfl dh gX (fun g' hg'=>.inl hg')
   have gZ:=Fr.grow (z1 b1 has txt ac v aa af ae ab ag ah) (k:=1) (rs:=(z13 au ab ai aj v num txt.size txt aa)) (r':=⟨ai,aj,5,1,(((([]:Bs) ++ [by8 0,by8 0,by8 0,by8 0] ++ be 2 28 ++ be 2 (IntKind.i16.wrap v) ++ be 4 num) ++ (be 2 txt.size ++ sb txt) ++ [by8 0]) ++ qaa (IntKind.i16.wrap v) aa).length,bc (be 4 (IntKind.i32.wrap ((((((([]:Bs) ++ [by8 0,by8 0,by8 0,by8 0] ++ be 2 28 ++ be 2 (IntKind.i16.wrap v) ++ be 4 num) ++ (be 2 txt.size ++ sb txt) ++ [by8 0]) ++ qaa (IntKind.i16.wrap v) aa).length) - 4:Nat):Int)) ++ (((([]:Bs) ++ [by8 0,by8 0,by8 0,by8 0] ++ be 2 28 ++ be 2 (IntKind.i16.wrap v) ++ be 4 num) ++ (be 2 txt.size ++ sb txt) ++ [by8 0]) ++ qaa (IntKind.i16.wrap v) aa).drop 4)⟩) rfl dh (fun g' hg'=>.inl hg')
   have g8:=TT.ofW gZ aS
   refine ⟨fun _=>g8,?_⟩
   refine qaZ kz ?_ _
   refine qab (qar [(8,.v (.slice ai ((((([]:Bs) ++ [by8 0,by8 0,by8 0,by8 0] ++ be 2 28 ++ be 2 (IntKind.i16.wrap v) ++ be 4 num) ++ (be 2 txt.size ++ sb txt) ++ [by8 0]) ++ qaa (IntKind.i16.wrap v) aa).length) aj))] aS gY fun px g9=>?_)
   refine wp_ret (qaE g9 aS.cells (v:=.slice ai ((((([]:Bs) ++ [by8 0,by8 0,by8 0,by8 0] ++ be 2 28 ++ be 2 (IntKind.i16.wrap v) ++ be 4 num) ++ (be 2 txt.size ++ sb txt) ++ [by8 0]) ++ qaa (IntKind.i16.wrap v) aa).length) aj) kz ?_)
   refine ⟨_,rfl,fun pz hC=>?_⟩
   have hJ:=(EnvOk.places (tb':=[⟨b1,0,[.bool has,.string txt],true⟩,⟨ac,0,[.int .i16 (IntKind.i16.wrap v),.string ((aa.f 0).s),.string ((aa.f 1).s),.int .i64 ((aa.f 2).n),.int .i16 ((aa.f 3).n),.int .i32 ((aa.f 4).n),.string ((aa.f 5).s),.pointer ((aa.f 6).A),.slice ((aa.f 7).A) ((aa.f 7).l) ((aa.f 7).c),.map aa.m],true⟩,⟨af,0,[.bool has,.string txt],true⟩,⟨ae,0,[.pointer none],true⟩,⟨ab,0,[.string txt],true⟩,⟨ag,0,[.pointer (some ⟨ab,0,none⟩)],true⟩,⟨ah,0,[.func (.func 131) #[] #[.pointer (some ⟨ab,0,none⟩)]],true⟩]) hC (show Pl [⟨b1,0,[.bool has,.string txt],true⟩,⟨ac,0,[.int .i16 (IntKind.i16.wrap v),.string ((aa.f 0).s),.string ((aa.f 1).s),.int .i64 ((aa.f 2).n),.int .i16 ((aa.f 3).n),.int .i32 ((aa.f 4).n),.string ((aa.f 5).s),.pointer ((aa.f 6).A),.slice ((aa.f 7).A) ((aa.f 7).l) ((aa.f 7).c),.map aa.m],true⟩,⟨af,0,[.bool has,.string txt],true⟩,⟨ae,0,[.pointer none],true⟩,⟨ab,0,[.string txt],true⟩,⟨ag,0,[.pointer (some ⟨ab,0,none⟩)],true⟩,⟨ah,0,[.func (.func 131) #[] #[.pointer (some ⟨ab,0,none⟩)]],true⟩] [⟨b1,0,[.bool has,.string txt],true⟩,⟨ac,0,[.int .i16 (IntKind.i16.wrap v),.string ((aa.f 0).s),.string ((aa.f 1).s),.int .i64 ((aa.f 2).n),.int .i16 ((aa.f 3).n),.int .i32 ((aa.f 4).n),.string ((aa.f 5).s),.pointer ((aa.f 6).A),.slice ((aa.f 7).A) ((aa.f 7).l) ((aa.f 7).c),.map aa.m],true⟩,⟨af,0,[.bool has,.string txt],true⟩,⟨ae,0,[.pointer none],true⟩,⟨ab,0,[.string txt],true⟩,⟨ag,0,[.pointer (some ⟨ab,0,none⟩)],true⟩,⟨ah,0,[.func (.func 131) #[] #[.pointer (some ⟨ab,0,none⟩)]],true⟩] from ⟨rfl,rfl,⟨rfl,rfl,⟨rfl,rfl,⟨rfl,rfl,⟨rfl,rfl,⟨rfl,rfl,⟨rfl,rfl,trivial⟩⟩⟩⟩⟩⟩⟩)).pk (env':=[(19,.v (.slice ai ((((([]:Bs) ++ [by8 0,by8 0,by8 0,by8 0] ++ be 2 28 ++ be 2 (IntKind.i16.wrap v) ++ be 4 num) ++ (be 2 txt.size ++ sb txt) ++ [by8 0]) ++ qaa (IntKind.i16.wrap v) aa).length) aj)),(16,.p 5 0),(17,.v (.iface 59 (.pointer (some ⟨ac,0,none⟩)))),(18,.v (.int .i32 num))])
   refine qak [4] [] [(6,.v (.slice ai ((((([]:Bs) ++ [by8 0,by8 0,by8 0,by8 0] ++ be 2 28 ++ be 2 (IntKind.i16.wrap v) ++ be 4 num) ++ (be 2 txt.size ++ sb txt) ++ [by8 0]) ++ qaa (IntKind.i16.wrap v) aa).length) aj))] aS hJ fun pA hK=>?_
   refine qaf (qab ?_)
   refine wp_ret (qaE hK aS.cells (v:=.slice ai ((((([]:Bs) ++ [by8 0,by8 0,by8 0,by8 0] ++ be 2 28 ++ be 2 (IntKind.i16.wrap v) ++ be 4 num) ++ (be 2 txt.size ++ sb txt) ++ [by8 0]) ++ qaa (IntKind.i16.wrap v) aa).length) aj) kz ?_)
   refine ⟨_,rfl,fun pB hZ=>?_⟩
   have ia:=(EnvOk.places (tb':=[⟨b1,0,[.bool has,.string txt],true⟩,⟨ac,0,[.int .i16 (IntKind.i16.wrap v),.string ((aa.f 0).s),.string ((aa.f 1).s),.int .i64 ((aa.f 2).n),.int .i16 ((aa.f 3).n),.int .i32 ((aa.f 4).n),.string ((aa.f 5).s),.pointer ((aa.f 6).A),.slice ((aa.f 7).A) ((aa.f 7).l) ((aa.f 7).c),.map aa.m],true⟩,⟨af,0,[.bool has,.string txt],true⟩,⟨ae,0,[.pointer none],true⟩,⟨ab,0,[.string txt],true⟩,⟨ag,0,[.pointer (some ⟨ab,0,none⟩)],true⟩,⟨ah,0,[.func (.func 131) #[] #[.pointer (some ⟨ab,0,none⟩)]],true⟩]) hZ (show Pl [⟨b1,0,[.bool has,.string txt],true⟩,⟨ac,0,[.int .i16 (IntKind.i16.wrap v),.string ((aa.f 0).s),.string ((aa.f 1).s),.int .i64 ((aa.f 2).n),.int .i16 ((aa.f 3).n),.int .i32 ((aa.f 4).n),.string ((aa.f 5).s),.pointer ((aa.f 6).A),.slice ((aa.f 7).A) ((aa.f 7).l) ((aa.f 7).c),.map aa.m],true⟩] [⟨b1,0,[.bool has,.string txt],true⟩,⟨ac,0,[.int .i16 (IntKind.i16.wrap v),.string ((aa.f 0).s),.string ((aa.f 1).s),.int .i64 ((aa.f 2).n),.int .i16 ((aa.f 3).n),.int .i32 ((aa.f 4).n),.string ((aa.f 5).s),.pointer ((aa.f 6).A),.slice ((aa.f 7).A) ((aa.f 7).l) ((aa.f 7).c),.map aa.m],true⟩,⟨af,0,[.bool has,.string txt],true⟩,⟨ae,0,[.pointer none],true⟩,⟨ab,0,[.string txt],true⟩,⟨ag,0,[.pointer (some ⟨ab,0,none⟩)],true⟩,⟨ah,0,[.func (.func 131) #[] #[.pointer (some ⟨ab,0,none⟩)]],true⟩] from ⟨rfl,rfl,⟨rfl,rfl,trivial⟩⟩)).pk (env':=[(25,.v (.slice ai ((((([]:Bs) ++ [by8 0,by8 0,by8 0,by8 0] ++ be 2 28 ++ be 2 (IntKind.i16.wrap v) ++ be 4 num) ++ (be 2 txt.size ++ sb txt) ++ [by8 0]) ++ qaa (IntKind.i16.wrap v) aa).length) aj)),(21,.v (.agg #[.bool has,.string txt])),(23,.v (.iface 59 (.pointer (some ⟨ac,0,none⟩)))),(24,.v (.int .i32 num))])
   refine qak [5,6] [] [(8,.v (.slice ai ((((([]:Bs) ++ [by8 0,by8 0,by8 0,by8 0] ++ be 2 28 ++ be 2 (IntKind.i16.wrap v) ++ be 4 num) ++ (be 2 txt.size ++ sb txt) ++ [by8 0]) ++ qaa (IntKind.i16.wrap v) aa).length) aj)),(9,.v (.bool true))] aS ia fun pC ib=>?_
   refine qaf (qab ?_)
   refine wp_ret (qaE ib aS.cells (v:=.tuple #[.slice ai ((((([]:Bs) ++ [by8 0,by8 0,by8 0,by8 0] ++ be 2 28 ++ be 2 (IntKind.i16.wrap v) ++ be 4 num) ++ (be 2 txt.size ++ sb txt) ++ [by8 0]) ++ qaa (IntKind.i16.wrap v) aa).length) aj,.bool true]) kz ?_)
   have ic:be 4 (IntKind.i32.wrap ((((((([]:Bs) ++ [by8 0,by8 0,by8 0,by8 0] ++ be 2 28 ++ be 2 (IntKind.i16.wrap v) ++ be 4 num) ++ (be 2 txt.size ++ sb txt) ++ [by8 0]) ++ qaa (IntKind.i16.wrap v) aa).length) - 4:Nat):Int)) ++ (((([]:Bs) ++ [by8 0,by8 0,by8 0,by8 0] ++ be 2 28 ++ be 2 (IntKind.i16.wrap v) ++ be 4 num) ++ (be 2 txt.size ++ sb txt) ++ [by8 0]) ++ qaa (IntKind.i16.wrap v) aa).drop 4 = (qba 28 (IntKind.i16.wrap v) num has (sb txt) (decide ((IntKind.i16.wrap v) ≥ 3)) (qaa (IntKind.i16.wrap v) aa)):=qcP (R:=outB 28 (IntKind.i16.wrap v) num has (sb txt) (decide ((IntKind.i16.wrap v) ≥ 3)) (qaa (IntKind.i16.wrap v) aa)) (by simp [outB,qeq,qbX,aJ,bf])
   exact qcQ aS (k:=1) rfl (ic.trans (by rw [ba])) (by simp only [List.length_append,List.length_cons,List.length_nil]; omega)
  have mw:=of_decide_eq_false bf
  refine wp_skip (qab (qae [0,1,2,3] kz ?_))
  refine qak [0,1] [2,3] [(49,.v (.iface 59 (.pointer (some ⟨ac,0,none⟩)))),(50,.v (.slice aF (((([]:Bs) ++ [by8 0,by8 0,by8 0,by8 0] ++ be 2 28 ++ be 2 (IntKind.i16.wrap v) ++ be 4 num) ++ (be 2 txt.size ++ sb txt)).length) aG))] ax cE fun pD ig=>?_
  have ii:=(qaW _ (((((((((((((aP.trans aQ).trans bG).trans bI).trans bJ).trans bK).trans bL).trans bM).trans bN).trans bO).trans bQ).trans bS).trans bT).trans bU).step immM (((((((((((((aP.trans aQ).trans bG).trans bI).trans bJ).trans bK).trans bL).trans bM).trans bN).trans bO).trans bQ).trans bS).trans bT).trans bU).to' cJ)
  have dV:=ax.strImm (G:=F) 1 rfl
  have hk_:=qaW _ (Step.refl _ Nil) nilM (fun b o h_ _=>qgC h_) ii
  refine qam (qc9 ig (t := 59) (v := (.pointer (some ⟨ac, 0, none⟩))) (v' := (.pointer (some ⟨ac, 0, none⟩))) (name := "AppendTo") (f := 225) (vs := [.slice aF (((([] : Bs) ++ [by8 0, by8 0, by8 0, by8 0] ++ be 2 28 ++ be 2 (IntKind.i16.wrap v) ++ be 4 num) ++ (be 2 txt.size ++ sb txt)).length) aG]) (d := 51) kz (fun _ => by kernel_rfl) Tryz.call225 (qbN (IntKind.i16.wrap v) aa ac 0 aF aG ((([] : Bs) ++ [by8 0, by8 0, by8 0, by8 0] ++ be 2 28 ++ be 2 (IntKind.i16.wrap v) ++ be 4 num) ++ (be 2 txt.size ++ sb txt)) _ _ dV hk_ (qgA 1 rfl) (ax.own 1 _ rfl) (by first | omega | (simp only [List.length_append, List.length_cons, List.length_nil, be_length, qbX]; omega) | (simp; omega))) ?_)
  rintro e_ pE ⟨ak,al,rfl,ij,di,dj⟩
  refine ⟨_,rfl,fun pF ik=>?_⟩
  have dl:WOk _ _ _ _ (z14 au ab ak al v num txt.size txt aa):=ax.grow (k:=1) rfl di ij dj
  have mx:=Fr.grow (z1 b1 has txt ac v aa af ae ab ag ah) (k:=1) (rs:=(z27 au ab aF aG v num txt.size txt)) (r':=(brow ak al 5 (((([]:Bs) ++ [by8 0,by8 0,by8 0,by8 0] ++ be 2 28 ++ be 2 (IntKind.i16.wrap v) ++ be 4 num) ++ (be 2 txt.size ++ sb txt)) ++ qaa (IntKind.i16.wrap v) aa))) rfl di dj
  refine qak [3] [] [(1,.v (.slice ak ((((([]:Bs) ++ [by8 0,by8 0,by8 0,by8 0] ++ be 2 28 ++ be 2 (IntKind.i16.wrap v) ++ be 4 num) ++ (be 2 txt.size ++ sb txt)) ++ qaa (IntKind.i16.wrap v) aa).length) al))] dl ik fun pG il=>?_
  refine qaf (qab ?_)
  refine qbm 7 kz dl fun pH my bW bj=>?_
  refine qa0 [0,2] [(1,.v (.slice ak ((((([]:Bs) ++ [by8 0,by8 0,by8 0,by8 0] ++ be 2 28 ++ be 2 (IntKind.i16.wrap v) ++ be 4 num) ++ (be 2 txt.size ++ sb txt)) ++ qaa (IntKind.i16.wrap v) aa).length) al)),(52,.v (.slice ak ((((([]:Bs) ++ [by8 0,by8 0,by8 0,by8 0] ++ be 2 28 ++ be 2 (IntKind.i16.wrap v) ++ be 4 num) ++ (be 2 txt.size ++ sb txt)) ++ qaa (IntKind.i16.wrap v) aa).length) al)),(54,.v (.slice ak ((((([]:Bs) ++ [by8 0,by8 0,by8 0,by8 0] ++ be 2 28 ++ be 2 (IntKind.i16.wrap v) ++ be 4 num) ++ (be 2 txt.size ++ sb txt)) ++ qaa (IntKind.i16.wrap v) aa).length) al))] 5 (qac qah) (fun _ h=>h.cells) bj il fun pI dp=>?_
  refine qe2 (i:=1) (j:=3) kz ?_ ?_
  ·
   refine (qbH dp (t:=24) (A:=ak) (m:=(((([]:Bs) ++ [by8 0,by8 0,by8 0,by8 0] ++ be 2 28 ++ be 2 (IntKind.i16.wrap v) ++ be 4 num) ++ (be 2 txt.size ++ sb txt)) ++ qaa (IntKind.i16.wrap v) aa).length) (cp:=al) (q:=0) (d:=53) (j:=0) kz (e:=5) (size:=1) (bytes:=1) kz (rfl) (by omega) fun pJ im=>?_)
   refine ⟨fun _=>bj,?_⟩
   refine qaO (i:=3) kz (qbz im (t:=24) (A:=ak) (m:=((((([]:Bs) ++ [by8 0,by8 0,by8 0,by8 0] ++ be 2 28 ++ be 2 (IntKind.i16.wrap v) ++ be 4 num) ++ (be 2 txt.size ++ sb txt)) ++ qaa (IntKind.i16.wrap v) aa).length)) (cp:=al) (q:=4) (d:=55) (j:=4) kz (e:=5) (bytes:=1) kz (rfl) (by first | omega | (simp only [List.length_append,List.length_cons,List.length_nil]; omega)) fun pK io=>?_)
   refine ⟨fun _=>bj,?_⟩
   refine qa0 [4,5] [(1,.v (.slice ak ((((([]:Bs) ++ [by8 0,by8 0,by8 0,by8 0] ++ be 2 28 ++ be 2 (IntKind.i16.wrap v) ++ be 4 num) ++ (be 2 txt.size ++ sb txt)) ++ qaa (IntKind.i16.wrap v) aa).length) al)),(53,.v (.slice ak 0 al)),(57,.v (.int .i32 (IntKind.i32.wrap ((((((([]:Bs) ++ [by8 0,by8 0,by8 0,by8 0] ++ be 2 28 ++ be 2 (IntKind.i16.wrap v) ++ be 4 num) ++ (be 2 txt.size ++ sb txt)) ++ qaa (IntKind.i16.wrap v) aa).length) - 4:Nat):Int))))] 1 (qac qah) (fun _ h=>h.cells) bj io fun pL ip=>?_
   refine qaO (i:=6) kz (qal ip (f:=133) (vs:=[.slice ak 0 al,.int .i32 (IntKind.i32.wrap ((((((([]:Bs) ++ [by8 0,by8 0,by8 0,by8 0] ++ be 2 28 ++ be 2 (IntKind.i16.wrap v) ++ be 4 num) ++ (be 2 txt.size ++ sb txt)) ++ qaa (IntKind.i16.wrap v) aa).length) - 4:Nat):Int))]) (d:=58) kz Tryz.call133 (qbP (IntKind.i32.wrap ((((((([]:Bs) ++ [by8 0,by8 0,by8 0,by8 0] ++ be 2 28 ++ be 2 (IntKind.i16.wrap v) ++ be 4 num) ++ (be 2 txt.size ++ sb txt)) ++ qaa (IntKind.i16.wrap v) aa).length) - 4:Nat):Int)) ak al (((([]:Bs) ++ [by8 0,by8 0,by8 0,by8 0] ++ be 2 28 ++ be 2 (IntKind.i16.wrap v) ++ be 4 num) ++ (be 2 txt.size ++ sb txt)) ++ qaa (IntKind.i16.wrap v) aa) _ (bW.own 1 _ rfl) (by simp only [List.length_append,List.length_cons,List.length_nil]; omega)) ?_)
   rintro e_ pM ⟨rfl,iq,dq⟩
   refine ⟨_,rfl,fun pN ir=>?_⟩
   have aT:WOk _ _ _ _ (z10 au ab ak al v num txt.size txt aa):=bW.grow (k:=1) (r':=⟨ak,al,5,1,(((([]:Bs) ++ [by8 0,by8 0,by8 0,by8 0] ++ be 2 28 ++ be 2 (IntKind.i16.wrap v) ++ be 4 num) ++ (be 2 txt.size ++ sb txt)) ++ qaa (IntKind.i16.wrap v) aa).length,bc (be 4 (IntKind.i32.wrap ((((((([]:Bs) ++ [by8 0,by8 0,by8 0,by8 0] ++ be 2 28 ++ be 2 (IntKind.i16.wrap v) ++ be 4 num) ++ (be 2 txt.size ++ sb txt)) ++ qaa (IntKind.i16.wrap v) aa).length) - 4:Nat):Int)) ++ (((([]:Bs) ++ [by8 0,by8 0,by8 0,by8 0] ++ be 2 28 ++ be 2 (IntKind.i16.wrap v) ++ be 4 num) ++ (be 2 txt.size ++ sb txt)) ++ qaa (IntKind.i16.wrap v) aa).drop 4)⟩) rfl dq iq (fun g' hg'=>.inl hg')
   have iu:=Fr.grow (z1 b1 has txt ac v aa af ae ab ag ah) (k:=1) (rs:=(z14 au ab ak al v num txt.size txt aa)) (r':=⟨ak,al,5,1,(((([]:Bs) ++ [by8 0,by8 0,by8 0,by8 0] ++ be 2 28 ++ be 2 (IntKind.i16.wrap v) ++ be 4 num) ++ (be 2 txt.size ++ sb txt)) ++ qaa (IntKind.i16.wrap v) aa).length,bc (be 4 (IntKind.i32.wrap ((((((([]:Bs) ++ [by8 0,by8 0,by8 0,by8 0] ++ be 2 28 ++ be 2 (IntKind.i16.wrap v) ++ be 4 num) ++ (be 2 txt.size ++ sb txt)) ++ qaa (IntKind.i16.wrap v) aa).length) - 4:Nat):Int)) ++ (((([]:Bs) ++ [by8 0,by8 0,by8 0,by8 0] ++ be 2 28 ++ be 2 (IntKind.i16.wrap v) ++ be 4 num) ++ (be 2 txt.size ++ sb txt)) ++ qaa (IntKind.i16.wrap v) aa).drop 4)⟩) rfl dq (fun g' hg'=>.inl hg')
   have iv:=TT.ofW iu aT
   refine ⟨fun _=>iv,?_⟩
   refine qaZ kz ?_ _
   refine qab (qar [(8,.v (.slice ak ((((([]:Bs) ++ [by8 0,by8 0,by8 0,by8 0] ++ be 2 28 ++ be 2 (IntKind.i16.wrap v) ++ be 4 num) ++ (be 2 txt.size ++ sb txt)) ++ qaa (IntKind.i16.wrap v) aa).length) al))] aT ir fun pO iw=>?_)
   refine wp_ret (qaE iw aT.cells (v:=.slice ak ((((([]:Bs) ++ [by8 0,by8 0,by8 0,by8 0] ++ be 2 28 ++ be 2 (IntKind.i16.wrap v) ++ be 4 num) ++ (be 2 txt.size ++ sb txt)) ++ qaa (IntKind.i16.wrap v) aa).length) al) kz ?_)
   refine ⟨_,rfl,fun pP ix=>?_⟩
   have iy:=(EnvOk.places (tb':=[⟨b1,0,[.bool has,.string txt],true⟩,⟨ac,0,[.int .i16 (IntKind.i16.wrap v),.string ((aa.f 0).s),.string ((aa.f 1).s),.int .i64 ((aa.f 2).n),.int .i16 ((aa.f 3).n),.int .i32 ((aa.f 4).n),.string ((aa.f 5).s),.pointer ((aa.f 6).A),.slice ((aa.f 7).A) ((aa.f 7).l) ((aa.f 7).c),.map aa.m],true⟩,⟨af,0,[.bool has,.string txt],true⟩,⟨ae,0,[.pointer none],true⟩,⟨ab,0,[.string txt],true⟩,⟨ag,0,[.pointer (some ⟨ab,0,none⟩)],true⟩,⟨ah,0,[.func (.func 131) #[] #[.pointer (some ⟨ab,0,none⟩)]],true⟩]) ix (show Pl [⟨b1,0,[.bool has,.string txt],true⟩,⟨ac,0,[.int .i16 (IntKind.i16.wrap v),.string ((aa.f 0).s),.string ((aa.f 1).s),.int .i64 ((aa.f 2).n),.int .i16 ((aa.f 3).n),.int .i32 ((aa.f 4).n),.string ((aa.f 5).s),.pointer ((aa.f 6).A),.slice ((aa.f 7).A) ((aa.f 7).l) ((aa.f 7).c),.map aa.m],true⟩,⟨af,0,[.bool has,.string txt],true⟩,⟨ae,0,[.pointer none],true⟩,⟨ab,0,[.string txt],true⟩,⟨ag,0,[.pointer (some ⟨ab,0,none⟩)],true⟩,⟨ah,0,[.func (.func 131) #[] #[.pointer (some ⟨ab,0,none⟩)]],true⟩] [⟨b1,0,[.bool has,.string txt],true⟩,⟨ac,0,[.int .i16 (IntKind.i16.wrap v),.string ((aa.f 0).s),.string ((aa.f 1).s),.int .i64 ((aa.f 2).n),.int .i16 ((aa.f 3).n),.int .i32 ((aa.f 4).n),.string ((aa.f 5).s),.pointer ((aa.f 6).A),.slice ((aa.f 7).A) ((aa.f 7).l) ((aa.f 7).c),.map aa.m],true⟩,⟨af,0,[.bool has,.string txt],true⟩,⟨ae,0,[.pointer none],true⟩,⟨ab,0,[.string txt],true⟩,⟨ag,0,[.pointer (some ⟨ab,0,none⟩)],true⟩,⟨ah,0,[.func (.func 131) #[] #[.pointer (some ⟨ab,0,none⟩)]],true⟩] from ⟨rfl,rfl,⟨rfl,rfl,⟨rfl,rfl,⟨rfl,rfl,⟨rfl,rfl,⟨rfl,rfl,⟨rfl,rfl,trivial⟩⟩⟩⟩⟩⟩⟩)).pk (env':=[(19,.v (.slice ak ((((([]:Bs) ++ [by8 0,by8 0,by8 0,by8 0] ++ be 2 28 ++ be 2 (IntKind.i16.wrap v) ++ be 4 num) ++ (be 2 txt.size ++ sb txt)) ++ qaa (IntKind.i16.wrap v) aa).length) al)),(16,.p 5 0),(17,.v (.iface 59 (.pointer (some ⟨ac,0,none⟩)))),(18,.v (.int .i32 num))])
   refine qak [4] [] [(6,.v (.slice ak ((((([]:Bs) ++ [by8 0,by8 0,by8 0,by8 0] ++ be 2 28 ++ be 2 (IntKind.i16.wrap v) ++ be 4 num) ++ (be 2 txt.size ++ sb txt)) ++ qaa (IntKind.i16.wrap v) aa).length) al))] aT iy fun pQ iz=>?_
   refine qaf (qab ?_)
   refine wp_ret (qaE iz aT.cells (v:=.slice ak ((((([]:Bs) ++ [by8 0,by8 0,by8 0,by8 0] ++ be 2 28 ++ be 2 (IntKind.i16.wrap v) ++ be 4 num) ++ (be 2 txt.size ++ sb txt)) ++ qaa (IntKind.i16.wrap v) aa).length) al) kz ?_)
   refine ⟨_,rfl,fun pR iA=>?_⟩
   have iB:=(EnvOk.places (tb':=[⟨b1,0,[.bool has,.string txt],true⟩,⟨ac,0,[.int .i16 (IntKind.i16.wrap v),.string ((aa.f 0).s),.string ((aa.f 1).s),.int .i64 ((aa.f 2).n),.int .i16 ((aa.f 3).n),.int .i32 ((aa.f 4).n),.string ((aa.f 5).s),.pointer ((aa.f 6).A),.slice ((aa.f 7).A) ((aa.f 7).l) ((aa.f 7).c),.map aa.m],true⟩,⟨af,0,[.bool has,.string txt],true⟩,⟨ae,0,[.pointer none],true⟩,⟨ab,0,[.string txt],true⟩,⟨ag,0,[.pointer (some ⟨ab,0,none⟩)],true⟩,⟨ah,0,[.func (.func 131) #[] #[.pointer (some ⟨ab,0,none⟩)]],true⟩]) iA (show Pl [⟨b1,0,[.bool has,.string txt],true⟩,⟨ac,0,[.int .i16 (IntKind.i16.wrap v),.string ((aa.f 0).s),.string ((aa.f 1).s),.int .i64 ((aa.f 2).n),.int .i16 ((aa.f 3).n),.int .i32 ((aa.f 4).n),.string ((aa.f 5).s),.pointer ((aa.f 6).A),.slice ((aa.f 7).A) ((aa.f 7).l) ((aa.f 7).c),.map aa.m],true⟩] [⟨b1,0,[.bool has,.string txt],true⟩,⟨ac,0,[.int .i16 (IntKind.i16.wrap v),.string ((aa.f 0).s),.string ((aa.f 1).s),.int .i64 ((aa.f 2).n),.int .i16 ((aa.f 3).n),.int .i32 ((aa.f 4).n),.string ((aa.f 5).s),.pointer ((aa.f 6).A),.slice ((aa.f 7).A) ((aa.f 7).l) ((aa.f 7).c),.map aa.m],true⟩,⟨af,0,[.bool has,.string txt],true⟩,⟨ae,0,[.pointer none],true⟩,⟨ab,0,[.string txt],true⟩,⟨ag,0,[.pointer (some ⟨ab,0,none⟩)],true⟩,⟨ah,0,[.func (.func 131) #[] #[.pointer (some ⟨ab,0,none⟩)]],true⟩] from ⟨rfl,rfl,⟨rfl,rfl,trivial⟩⟩)).pk (env':=[(25,.v (.slice ak ((((([]:Bs) ++ [by8 0,by8 0,by8 0,by8 0] ++ be 2 28 ++ be 2 (IntKind.i16.wrap v) ++ be 4 num) ++ (be 2 txt.size ++ sb txt)) ++ qaa (IntKind.i16.wrap v) aa).length) al)),(21,.v (.agg #[.bool has,.string txt])),(23,.v (.iface 59 (.pointer (some ⟨ac,0,none⟩)))),(24,.v (.int .i32 num))])
   refine qak [5,6] [] [(8,.v (.slice ak ((((([]:Bs) ++ [by8 0,by8 0,by8 0,by8 0] ++ be 2 28 ++ be 2 (IntKind.i16.wrap v) ++ be 4 num) ++ (be 2 txt.size ++ sb txt)) ++ qaa (IntKind.i16.wrap v) aa).length) al)),(9,.v (.bool true))] aT iB fun pS iC=>?_
   refine qaf (qab ?_)
   refine wp_ret (qaE iC aT.cells (v:=.tuple #[.slice ak ((((([]:Bs) ++ [by8 0,by8 0,by8 0,by8 0] ++ be 2 28 ++ be 2 (IntKind.i16.wrap v) ++ be 4 num) ++ (be 2 txt.size ++ sb txt)) ++ qaa (IntKind.i16.wrap v) aa).length) al,.bool true]) kz ?_)
   have iD:be 4 (IntKind.i32.wrap ((((((([]:Bs) ++ [by8 0,by8 0,by8 0,by8 0] ++ be 2 28 ++ be 2 (IntKind.i16.wrap v) ++ be 4 num) ++ (be 2 txt.size ++ sb txt)) ++ qaa (IntKind.i16.wrap v) aa).length) - 4:Nat):Int)) ++ (((([]:Bs) ++ [by8 0,by8 0,by8 0,by8 0] ++ be 2 28 ++ be 2 (IntKind.i16.wrap v) ++ be 4 num) ++ (be 2 txt.size ++ sb txt)) ++ qaa (IntKind.i16.wrap v) aa).drop 4 = (qba 28 (IntKind.i16.wrap v) num has (sb txt) (decide ((IntKind.i16.wrap v) ≥ 3)) (qaa (IntKind.i16.wrap v) aa)):=qcP (R:=outB 28 (IntKind.i16.wrap v) num has (sb txt) (decide ((IntKind.i16.wrap v) ≥ 3)) (qaa (IntKind.i16.wrap v) aa)) (by simp [outB,qeq,qbX,aJ,bf])
   exact qcQ aT (k:=1) rfl (iD.trans (by rw [ba])) (by simp only [List.length_append,List.length_cons,List.length_nil]; omega)
  refine (qbz dp (t:=24) (A:=ak) (m:=((((([]:Bs) ++ [by8 0,by8 0,by8 0,by8 0] ++ be 2 28 ++ be 2 (IntKind.i16.wrap v) ++ be 4 num) ++ (be 2 txt.size ++ sb txt)) ++ qaa (IntKind.i16.wrap v) aa).length)) (cp:=al) (q:=4) (d:=55) (j:=4) kz (e:=5) (bytes:=1) kz (rfl) (by first | omega | (simp only [List.length_append,List.length_cons,List.length_nil]; omega)) fun pT iE=>?_)
  refine ⟨fun _=>bj,?_⟩
  refine qa0 [4,5] [(1,.v (.slice ak ((((([]:Bs) ++ [by8 0,by8 0,by8 0,by8 0] ++ be 2 28 ++ be 2 (IntKind.i16.wrap v) ++ be 4 num) ++ (be 2 txt.size ++ sb txt)) ++ qaa (IntKind.i16.wrap v) aa).length) al)),(52,.v (.slice ak ((((([]:Bs) ++ [by8 0,by8 0,by8 0,by8 0] ++ be 2 28 ++ be 2 (IntKind.i16.wrap v) ++ be 4 num) ++ (be 2 txt.size ++ sb txt)) ++ qaa (IntKind.i16.wrap v) aa).length) al)),(57,.v (.int .i32 (IntKind.i32.wrap ((((((([]:Bs) ++ [by8 0,by8 0,by8 0,by8 0] ++ be 2 28 ++ be 2 (IntKind.i16.wrap v) ++ be 4 num) ++ (be 2 txt.size ++ sb txt)) ++ qaa (IntKind.i16.wrap v) aa).length) - 4:Nat):Int))))] 2 (qac qah) (fun _ h=>h.cells) bj iE fun pU iF=>?_
  refine qaO (i:=1) kz (qbH iF (t:=24) (A:=ak) (m:=(((([]:Bs) ++ [by8 0,by8 0,by8 0,by8 0] ++ be 2 28 ++ be 2 (IntKind.i16.wrap v) ++ be 4 num) ++ (be 2 txt.size ++ sb txt)) ++ qaa (IntKind.i16.wrap v) aa).length) (cp:=al) (q:=0) (d:=53) (j:=0) kz (e:=5) (size:=1) (bytes:=1) kz (rfl) (by omega) fun pV iG=>?_)
  refine ⟨fun _=>bj,?_⟩
  refine qaO (i:=6) kz (qal iG (f:=133) (vs:=[.slice ak 0 al,.int .i32 (IntKind.i32.wrap ((((((([]:Bs) ++ [by8 0,by8 0,by8 0,by8 0] ++ be 2 28 ++ be 2 (IntKind.i16.wrap v) ++ be 4 num) ++ (be 2 txt.size ++ sb txt)) ++ qaa (IntKind.i16.wrap v) aa).length) - 4:Nat):Int))]) (d:=58) kz Tryz.call133 (qbP (IntKind.i32.wrap ((((((([]:Bs) ++ [by8 0,by8 0,by8 0,by8 0] ++ be 2 28 ++ be 2 (IntKind.i16.wrap v) ++ be 4 num) ++ (be 2 txt.size ++ sb txt)) ++ qaa (IntKind.i16.wrap v) aa).length) - 4:Nat):Int)) ak al (((([]:Bs) ++ [by8 0,by8 0,by8 0,by8 0] ++ be 2 28 ++ be 2 (IntKind.i16.wrap v) ++ be 4 num) ++ (be 2 txt.size ++ sb txt)) ++ qaa (IntKind.i16.wrap v) aa) _ (bW.own 1 _ rfl) (by simp only [List.length_append,List.length_cons,List.length_nil]; omega)) ?_)
  rintro e_ pW ⟨rfl,iH,dr⟩
  refine ⟨_,rfl,fun pX iI=>?_⟩
  have aU:WOk _ _ _ _ (z10 au ab ak al v num txt.size txt aa):=bW.grow (k:=1) (r':=⟨ak,al,5,1,(((([]:Bs) ++ [by8 0,by8 0,by8 0,by8 0] ++ be 2 28 ++ be 2 (IntKind.i16.wrap v) ++ be 4 num) ++ (be 2 txt.size ++ sb txt)) ++ qaa (IntKind.i16.wrap v) aa).length,bc (be 4 (IntKind.i32.wrap ((((((([]:Bs) ++ [by8 0,by8 0,by8 0,by8 0] ++ be 2 28 ++ be 2 (IntKind.i16.wrap v) ++ be 4 num) ++ (be 2 txt.size ++ sb txt)) ++ qaa (IntKind.i16.wrap v) aa).length) - 4:Nat):Int)) ++ (((([]:Bs) ++ [by8 0,by8 0,by8 0,by8 0] ++ be 2 28 ++ be 2 (IntKind.i16.wrap v) ++ be 4 num) ++ (be 2 txt.size ++ sb txt)) ++ qaa (IntKind.i16.wrap v) aa).drop 4)⟩) rfl dr iH (fun g' hg'=>.inl hg')
  have iJ:=Fr.grow (z1 b1 has txt ac v aa af ae ab ag ah) (k:=1) (rs:=(z14 au ab ak al v num txt.size txt aa)) (r':=⟨ak,al,5,1,(((([]:Bs) ++ [by8 0,by8 0,by8 0,by8 0] ++ be 2 28 ++ be 2 (IntKind.i16.wrap v) ++ be 4 num) ++ (be 2 txt.size ++ sb txt)) ++ qaa (IntKind.i16.wrap v) aa).length,bc (be 4 (IntKind.i32.wrap ((((((([]:Bs) ++ [by8 0,by8 0,by8 0,by8 0] ++ be 2 28 ++ be 2 (IntKind.i16.wrap v) ++ be 4 num) ++ (be 2 txt.size ++ sb txt)) ++ qaa (IntKind.i16.wrap v) aa).length) - 4:Nat):Int)) ++ (((([]:Bs) ++ [by8 0,by8 0,by8 0,by8 0] ++ be 2 28 ++ be 2 (IntKind.i16.wrap v) ++ be 4 num) ++ (be 2 txt.size ++ sb txt)) ++ qaa (IntKind.i16.wrap v) aa).drop 4)⟩) rfl dr (fun g' hg'=>.inl hg')
  have iK:=TT.ofW iJ aU
  refine ⟨fun _=>iK,?_⟩
  refine qaZ kz ?_ _
  refine qab (qar [(8,.v (.slice ak ((((([]:Bs) ++ [by8 0,by8 0,by8 0,by8 0] ++ be 2 28 ++ be 2 (IntKind.i16.wrap v) ++ be 4 num) ++ (be 2 txt.size ++ sb txt)) ++ qaa (IntKind.i16.wrap v) aa).length) al))] aU iI fun pY iL=>?_)
  refine wp_ret (qaE iL aU.cells (v:=.slice ak ((((([]:Bs) ++ [by8 0,by8 0,by8 0,by8 0] ++ be 2 28 ++ be 2 (IntKind.i16.wrap v) ++ be 4 num) ++ (be 2 txt.size ++ sb txt)) ++ qaa (IntKind.i16.wrap v) aa).length) al) kz ?_)
  refine ⟨_,rfl,fun pZ iM=>?_⟩
  have iN:=(EnvOk.places (tb':=[⟨b1,0,[.bool has,.string txt],true⟩,⟨ac,0,[.int .i16 (IntKind.i16.wrap v),.string ((aa.f 0).s),.string ((aa.f 1).s),.int .i64 ((aa.f 2).n),.int .i16 ((aa.f 3).n),.int .i32 ((aa.f 4).n),.string ((aa.f 5).s),.pointer ((aa.f 6).A),.slice ((aa.f 7).A) ((aa.f 7).l) ((aa.f 7).c),.map aa.m],true⟩,⟨af,0,[.bool has,.string txt],true⟩,⟨ae,0,[.pointer none],true⟩,⟨ab,0,[.string txt],true⟩,⟨ag,0,[.pointer (some ⟨ab,0,none⟩)],true⟩,⟨ah,0,[.func (.func 131) #[] #[.pointer (some ⟨ab,0,none⟩)]],true⟩]) iM (show Pl [⟨b1,0,[.bool has,.string txt],true⟩,⟨ac,0,[.int .i16 (IntKind.i16.wrap v),.string ((aa.f 0).s),.string ((aa.f 1).s),.int .i64 ((aa.f 2).n),.int .i16 ((aa.f 3).n),.int .i32 ((aa.f 4).n),.string ((aa.f 5).s),.pointer ((aa.f 6).A),.slice ((aa.f 7).A) ((aa.f 7).l) ((aa.f 7).c),.map aa.m],true⟩,⟨af,0,[.bool has,.string txt],true⟩,⟨ae,0,[.pointer none],true⟩,⟨ab,0,[.string txt],true⟩,⟨ag,0,[.pointer (some ⟨ab,0,none⟩)],true⟩,⟨ah,0,[.func (.func 131) #[] #[.pointer (some ⟨ab,0,none⟩)]],true⟩] [⟨b1,0,[.bool has,.string txt],true⟩,⟨ac,0,[.int .i16 (IntKind.i16.wrap v),.string ((aa.f 0).s),.string ((aa.f 1).s),.int .i64 ((aa.f 2).n),.int .i16 ((aa.f 3).n),.int .i32 ((aa.f 4).n),.string ((aa.f 5).s),.pointer ((aa.f 6).A),.slice ((aa.f 7).A) ((aa.f 7).l) ((aa.f 7).c),.map aa.m],true⟩,⟨af,0,[.bool has,.string txt],true⟩,⟨ae,0,[.pointer none],true⟩,⟨ab,0,[.string txt],true⟩,⟨ag,0,[.pointer (some ⟨ab,0,none⟩)],true⟩,⟨ah,0,[.func (.func 131) #[] #[.pointer (some ⟨ab,0,none⟩)]],true⟩] from ⟨rfl,rfl,⟨rfl,rfl,⟨rfl,rfl,⟨rfl,rfl,⟨rfl,rfl,⟨rfl,rfl,⟨rfl,rfl,trivial⟩⟩⟩⟩⟩⟩⟩)).pk (env':=[(19,.v (.slice ak ((((([]:Bs) ++ [by8 0,by8 0,by8 0,by8 0] ++ be 2 28 ++ be 2 (IntKind.i16.wrap v) ++ be 4 num) ++ (be 2 txt.size ++ sb txt)) ++ qaa (IntKind.i16.wrap v) aa).length) al)),(16,.p 5 0),(17,.v (.iface 59 (.pointer (some ⟨ac,0,none⟩)))),(18,.v (.int .i32 num))])
  refine qak [4] [] [(6,.v (.slice ak ((((([]:Bs) ++ [by8 0,by8 0,by8 0,by8 0] ++ be 2 28 ++ be 2 (IntKind.i16.wrap v) ++ be 4 num) ++ (be 2 txt.size ++ sb txt)) ++ qaa (IntKind.i16.wrap v) aa).length) al))] aU iN fun p4 iO=>?_
  refine qaf (qab ?_)
  refine wp_ret (qaE iO aU.cells (v:=.slice ak ((((([]:Bs) ++ [by8 0,by8 0,by8 0,by8 0] ++ be 2 28 ++ be 2 (IntKind.i16.wrap v) ++ be 4 num) ++ (be 2 txt.size ++ sb txt)) ++ qaa (IntKind.i16.wrap v) aa).length) al) kz ?_)
  refine ⟨_,rfl,fun p5 iP=>?_⟩
  have iQ:=(EnvOk.places (tb':=[⟨b1,0,[.bool has,.string txt],true⟩,⟨ac,0,[.int .i16 (IntKind.i16.wrap v),.string ((aa.f 0).s),.string ((aa.f 1).s),.int .i64 ((aa.f 2).n),.int .i16 ((aa.f 3).n),.int .i32 ((aa.f 4).n),.string ((aa.f 5).s),.pointer ((aa.f 6).A),.slice ((aa.f 7).A) ((aa.f 7).l) ((aa.f 7).c),.map aa.m],true⟩,⟨af,0,[.bool has,.string txt],true⟩,⟨ae,0,[.pointer none],true⟩,⟨ab,0,[.string txt],true⟩,⟨ag,0,[.pointer (some ⟨ab,0,none⟩)],true⟩,⟨ah,0,[.func (.func 131) #[] #[.pointer (some ⟨ab,0,none⟩)]],true⟩]) iP (show Pl [⟨b1,0,[.bool has,.string txt],true⟩,⟨ac,0,[.int .i16 (IntKind.i16.wrap v),.string ((aa.f 0).s),.string ((aa.f 1).s),.int .i64 ((aa.f 2).n),.int .i16 ((aa.f 3).n),.int .i32 ((aa.f 4).n),.string ((aa.f 5).s),.pointer ((aa.f 6).A),.slice ((aa.f 7).A) ((aa.f 7).l) ((aa.f 7).c),.map aa.m],true⟩] [⟨b1,0,[.bool has,.string txt],true⟩,⟨ac,0,[.int .i16 (IntKind.i16.wrap v),.string ((aa.f 0).s),.string ((aa.f 1).s),.int .i64 ((aa.f 2).n),.int .i16 ((aa.f 3).n),.int .i32 ((aa.f 4).n),.string ((aa.f 5).s),.pointer ((aa.f 6).A),.slice ((aa.f 7).A) ((aa.f 7).l) ((aa.f 7).c),.map aa.m],true⟩,⟨af,0,[.bool has,.string txt],true⟩,⟨ae,0,[.pointer none],true⟩,⟨ab,0,[.string txt],true⟩,⟨ag,0,[.pointer (some ⟨ab,0,none⟩)],true⟩,⟨ah,0,[.func (.func 131) #[] #[.pointer (some ⟨ab,0,none⟩)]],true⟩] from ⟨rfl,rfl,⟨rfl,rfl,trivial⟩⟩)).pk (env':=[(25,.v (.slice ak ((((([]:Bs) ++ [by8 0,by8 0,by8 0,by8 0] ++ be 2 28 ++ be 2 (IntKind.i16.wrap v) ++ be 4 num) ++ (be 2 txt.size ++ sb txt)) ++ qaa (IntKind.i16.wrap v) aa).length) al)),(21,.v (.agg #[.bool has,.string txt])),(23,.v (.iface 59 (.pointer (some ⟨ac,0,none⟩)))),(24,.v (.int .i32 num))])
  refine qak [5,6] [] [(8,.v (.slice ak ((((([]:Bs) ++ [by8 0,by8 0,by8 0,by8 0] ++ be 2 28 ++ be 2 (IntKind.i16.wrap v) ++ be 4 num) ++ (be 2 txt.size ++ sb txt)) ++ qaa (IntKind.i16.wrap v) aa).length) al)),(9,.v (.bool true))] aU iQ fun p6 iR=>?_
  refine qaf (qab ?_)
  refine wp_ret (qaE iR aU.cells (v:=.tuple #[.slice ak ((((([]:Bs) ++ [by8 0,by8 0,by8 0,by8 0] ++ be 2 28 ++ be 2 (IntKind.i16.wrap v) ++ be 4 num) ++ (be 2 txt.size ++ sb txt)) ++ qaa (IntKind.i16.wrap v) aa).length) al,.bool true]) kz ?_)
  have iS:be 4 (IntKind.i32.wrap ((((((([]:Bs) ++ [by8 0,by8 0,by8 0,by8 0] ++ be 2 28 ++ be 2 (IntKind.i16.wrap v) ++ be 4 num) ++ (be 2 txt.size ++ sb txt)) ++ qaa (IntKind.i16.wrap v) aa).length) - 4:Nat):Int)) ++ (((([]:Bs) ++ [by8 0,by8 0,by8 0,by8 0] ++ be 2 28 ++ be 2 (IntKind.i16.wrap v) ++ be 4 num) ++ (be 2 txt.size ++ sb txt)) ++ qaa (IntKind.i16.wrap v) aa).drop 4 = (qba 28 (IntKind.i16.wrap v) num has (sb txt) (decide ((IntKind.i16.wrap v) ≥ 3)) (qaa (IntKind.i16.wrap v) aa)):=qcP (R:=outB 28 (IntKind.i16.wrap v) num has (sb txt) (decide ((IntKind.i16.wrap v) ≥ 3)) (qaa (IntKind.i16.wrap v) aa)) (by simp [outB,qeq,qbX,aJ,bf])
  exact qcQ aU (k:=1) rfl (iS.trans (by rw [ba])) (by simp only [List.length_append,List.length_cons,List.length_nil]; omega)
 refine wp_skip (qab (qae [0,1,2,3,4] kz ?_))
 refine qak [0,1,2] [3,4] [(16,.p 3 0),(17,.v (.iface 59 (.pointer (some ⟨ac,0,none⟩)))),(18,.v (.int .i32 num))] av cC fun p7 iT=>?_
 refine qam (qa9 iT (f:=91) (vs:=[.pointer (some ⟨ae,0,none⟩),.slice none 0 0,.iface 59 (.pointer (some ⟨ac,0,none⟩)),.int .i32 num]) (d:=19) (n':=60) kz Tryz.call91 Tryz.func91 rfl Tryz.ntmps91 kz fun p8 iU=>?_)
 have iV:=iU.recast 0 (.v (.pointer (some ⟨ae,0,none⟩))) (.p 3 0) rfl rfl (Nat.le_of_ble_eq_true (n:=4) rfl)
 refine qar [(0,.p 3 0),(1,.v (.slice none 0 0)),(2,.v (.iface 59 (.pointer (some ⟨ac,0,none⟩)))),(3,.v (.int .i32 num))] av iV fun p9 iW=>?_
 refine qae [0,1,2,3] kz ?_
 refine qak [0] [1,2,3] [(0,.p 3 0),(2,.v (.iface 59 (.pointer (some ⟨ac,0,none⟩)))),(3,.v (.int .i32 num)),(12,.v (.slice none 0 0))] av iW fun qa iX=>?_
 have iY:=av.addNil 5 1
 have bX:=av.frNil 5 1
 refine qbu iY iX (k:=0) (e:=5) (size:=1) (len:=4) (cs:=[.int .u8 0,.int .u8 0,.int .u8 0,.int .u8 0]) (d1:=13) (d:=14) kz (t:=24) (bytes:=1) kz (fun _=>by kernel_rfl) rfl kz (by first | omega | (simp only [List.length_append,List.length_cons,List.length_nil,be_length,qbX]; omega) | (simp; omega)) fun aH aI qb qc bY iZ ⟨_,i6⟩=>?_
 have i7:(⟨aH,aI,5,1,([]:Bs).length + 4,bc ([]:Bs) ++ [.int .u8 0,.int .u8 0,.int .u8 0,.int .u8 0]⟩:Rw) = brow aH aI 5 (([]:Bs) ++ [by8 0,by8 0,by8 0,by8 0]):=qa2 (by simp only [bc,List.map,qbE]; try rfl) rfl
 obtain ⟨ay,bZ⟩:=iZ.rowEq 0 [brow aH aI 5 (([]:Bs) ++ [by8 0,by8 0,by8 0,by8 0])] i7
 have ja:=EnvOk.pick i6 (ks:=[0,2,3,12,14]) (env':=[(0,.p 3 0),(2,.v (.iface 59 (.pointer (some ⟨ac,0,none⟩)))),(3,.v (.int .i32 num)),(12,.v (.slice none 0 0)),(14,.v (.slice aH (([]:Bs).length + 4) aI))]) kz
 have jb:=ja.cast (env':=[(0,.p 3 0),(2,.v (.iface 59 (.pointer (some ⟨ac,0,none⟩)))),(3,.v (.int .i32 num)),(12,.v (.slice none 0 0)),(14,.v (.slice aH ((([]:Bs) ++ [by8 0,by8 0,by8 0,by8 0]).length) aI))]) (by simp only [List.length_append,List.length_cons,List.length_nil,Nat.zero_add])
 refine qak [3] [] [(0,.p 3 0),(1,.v (.slice aH ((([]:Bs) ++ [by8 0,by8 0,by8 0,by8 0]).length) aI)),(2,.v (.iface 59 (.pointer (some ⟨ac,0,none⟩)))),(3,.v (.int .i32 num))] ay jb fun qd jc=>?_
 refine qaf (qab ?_)
 refine qae [0,1,2] kz ?_
 refine qak [0] [1,2] [(0,.p 3 0),(1,.v (.slice aH ((([]:Bs) ++ [by8 0,by8 0,by8 0,by8 0]).length) aI)),(2,.v (.iface 59 (.pointer (some ⟨ac,0,none⟩)))),(3,.v (.int .i32 num)),(15,.v (.iface 59 (.pointer (some ⟨ac,0,none⟩))))] ay jc fun qe jd=>?_
 refine qam (qck jd (t := 59) (v := (.pointer (some ⟨ac, 0, none⟩))) (v' := (.pointer (some ⟨ac, 0, none⟩))) (name := "Key") (f := 228) (vs := []) (d := 16) (n' := 3) kz (fun _ => by kernel_rfl) Tryz.call228 Tryz.func228 rfl Tryz.ntmps228 kz fun qf je => ?_)
 have jf:=je.recast 0 (.v (.pointer (some ⟨ac,0,none⟩))) (.p 1 0) rfl rfl (Nat.le_of_ble_eq_true (n:=2) rfl)
 refine qar [] ay jf fun qg jg=>?_
 refine qar [(2,.v (.int .i16 28))] ay jg fun qh jh=>?_
 refine wp_ret (qaE jh ay.cells (v:=.int .i16 28) kz ?_)
 refine ⟨_,rfl,fun qi ji=>?_⟩
 have jj:=(EnvOk.places (tb':=[⟨b1,0,[.bool has,.string txt],true⟩,⟨ac,0,[.int .i16 (IntKind.i16.wrap v),.string ((aa.f 0).s),.string ((aa.f 1).s),.int .i64 ((aa.f 2).n),.int .i16 ((aa.f 3).n),.int .i32 ((aa.f 4).n),.string ((aa.f 5).s),.pointer ((aa.f 6).A),.slice ((aa.f 7).A) ((aa.f 7).l) ((aa.f 7).c),.map aa.m],true⟩,⟨af,0,[.bool has,.string txt],true⟩,⟨ae,0,[.pointer none],true⟩]) ji (show Pl [⟨b1,0,[.bool has,.string txt],true⟩,⟨ac,0,[.int .i16 (IntKind.i16.wrap v),.string ((aa.f 0).s),.string ((aa.f 1).s),.int .i64 ((aa.f 2).n),.int .i16 ((aa.f 3).n),.int .i32 ((aa.f 4).n),.string ((aa.f 5).s),.pointer ((aa.f 6).A),.slice ((aa.f 7).A) ((aa.f 7).l) ((aa.f 7).c),.map aa.m],true⟩,⟨af,0,[.bool has,.string txt],true⟩,⟨ae,0,[.pointer none],true⟩] [⟨b1,0,[.bool has,.string txt],true⟩,⟨ac,0,[.int .i16 (IntKind.i16.wrap v),.string ((aa.f 0).s),.string ((aa.f 1).s),.int .i64 ((aa.f 2).n),.int .i16 ((aa.f 3).n),.int .i32 ((aa.f 4).n),.string ((aa.f 5).s),.pointer ((aa.f 6).A),.slice ((aa.f 7).A) ((aa.f 7).l) ((aa.f 7).c),.map aa.m],true⟩,⟨af,0,[.bool has,.string txt],true⟩,⟨ae,0,[.pointer none],true⟩] from ⟨rfl,rfl,⟨rfl,rfl,⟨rfl,rfl,⟨rfl,rfl,trivial⟩⟩⟩⟩)).pk (env':=[(16,.v (.int .i16 28)),(0,.p 3 0),(1,.v (.slice aH ((([]:Bs) ++ [by8 0,by8 0,by8 0,by8 0]).length) aI)),(2,.v (.iface 59 (.pointer (some ⟨ac,0,none⟩)))),(3,.v (.int .i32 num)),(15,.v (.iface 59 (.pointer (some ⟨ac,0,none⟩))))])
 refine qak [2] [] [(0,.p 3 0),(1,.v (.slice aH ((([]:Bs) ++ [by8 0,by8 0,by8 0,by8 0]).length) aI)),(2,.v (.iface 59 (.pointer (some ⟨ac,0,none⟩)))),(3,.v (.int .i32 num)),(9,.v (.int .i16 28))] ay jj fun qj jk=>?_
 refine qaf (qab ?_)
 refine qae [0,1,2] kz ?_
 refine qak [0] [1,2] [(0,.p 3 0),(1,.v (.slice aH ((([]:Bs) ++ [by8 0,by8 0,by8 0,by8 0]).length) aI)),(2,.v (.iface 59 (.pointer (some ⟨ac,0,none⟩)))),(3,.v (.int .i32 num)),(9,.v (.int .i16 28)),(17,.v (.iface 59 (.pointer (some ⟨ac,0,none⟩))))] ay jk fun qk jl=>?_
 refine qam (qck jl (t := 59) (v := (.pointer (some ⟨ac, 0, none⟩))) (v' := (.pointer (some ⟨ac, 0, none⟩))) (name := "GetVersion") (f := 226) (vs := []) (d := 18) (n' := 7) kz (fun _ => by kernel_rfl) Tryz.call226 Tryz.func226 rfl Tryz.ntmps226 kz fun ql jm => ?_)
 have jn:=jm.recast 0 (.v (.pointer (some ⟨ac,0,none⟩))) (.p 1 0) rfl rfl (Nat.le_of_ble_eq_true (n:=2) rfl)
 refine qar [(0,.p 1 0)] ay jn fun qm jo=>?_
 refine qar [(2,.v (.int .i16 (IntKind.i16.wrap v)))] ay jo fun qn jp=>?_
 refine wp_ret (qaE jp ay.cells (v:=.int .i16 (IntKind.i16.wrap v)) kz ?_)
 refine ⟨_,rfl,fun qo jq=>?_⟩
 have jr:=(EnvOk.places (tb':=[⟨b1,0,[.bool has,.string txt],true⟩,⟨ac,0,[.int .i16 (IntKind.i16.wrap v),.string ((aa.f 0).s),.string ((aa.f 1).s),.int .i64 ((aa.f 2).n),.int .i16 ((aa.f 3).n),.int .i32 ((aa.f 4).n),.string ((aa.f 5).s),.pointer ((aa.f 6).A),.slice ((aa.f 7).A) ((aa.f 7).l) ((aa.f 7).c),.map aa.m],true⟩,⟨af,0,[.bool has,.string txt],true⟩,⟨ae,0,[.pointer none],true⟩]) jq (show Pl [⟨b1,0,[.bool has,.string txt],true⟩,⟨ac,0,[.int .i16 (IntKind.i16.wrap v),.string ((aa.f 0).s),.string ((aa.f 1).s),.int .i64 ((aa.f 2).n),.int .i16 ((aa.f 3).n),.int .i32 ((aa.f 4).n),.string ((aa.f 5).s),.pointer ((aa.f 6).A),.slice ((aa.f 7).A) ((aa.f 7).l) ((aa.f 7).c),.map aa.m],true⟩,⟨af,0,[.bool has,.string txt],true⟩,⟨ae,0,[.pointer none],true⟩] [⟨b1,0,[.bool has,.string txt],true⟩,⟨ac,0,[.int .i16 (IntKind.i16.wrap v),.string ((aa.f 0).s),.string ((aa.f 1).s),.int .i64 ((aa.f 2).n),.int .i16 ((aa.f 3).n),.int .i32 ((aa.f 4).n),.string ((aa.f 5).s),.pointer ((aa.f 6).A),.slice ((aa.f 7).A) ((aa.f 7).l) ((aa.f 7).c),.map aa.m],true⟩,⟨af,0,[.bool has,.string txt],true⟩,⟨ae,0,[.pointer none],true⟩] from ⟨rfl,rfl,⟨rfl,rfl,⟨rfl,rfl,⟨rfl,rfl,trivial⟩⟩⟩⟩)).pk (env':=[(18,.v (.int .i16 (IntKind.i16.wrap v))),(0,.p 3 0),(1,.v (.slice aH ((([]:Bs) ++ [by8 0,by8 0,by8 0,by8 0]).length) aI)),(2,.v (.iface 59 (.pointer (some ⟨ac,0,none⟩)))),(3,.v (.int .i32 num)),(9,.v (.int .i16 28)),(17,.v (.iface 59 (.pointer (some ⟨ac,0,none⟩))))])
 refine qak [2] [] [(0,.p 3 0),(1,.v (.slice aH ((([]:Bs) ++ [by8 0,by8 0,by8 0,by8 0]).length) aI)),(2,.v (.iface 59 (.pointer (some ⟨ac,0,none⟩)))),(3,.v (.int .i32 num)),(9,.v (.int .i16 28)),(10,.v (.int .i16 (IntKind.i16.wrap v)))] ay jr fun qp js=>?_
 refine qaf (qab ?_)
 refine qae [0,1,2,3] kz ?_
 refine qak [0,1] [2,3] [(0,.p 3 0),(2,.v (.iface 59 (.pointer (some ⟨ac,0,none⟩)))),(3,.v (.int .i32 num)),(9,.v (.int .i16 28)),(10,.v (.int .i16 (IntKind.i16.wrap v))),(19,.v (.slice aH ((([]:Bs) ++ [by8 0,by8 0,by8 0,by8 0]).length) aI)),(20,.v (.int .i16 28))] ay js fun qq jt=>?_
 refine qam (qal jt (f:=132) (vs:=[.slice aH ((([]:Bs) ++ [by8 0,by8 0,by8 0,by8 0]).length) aI,.int .i16 28]) (d:=21) kz Tryz.call132 (qb7 aH aI (([]:Bs) ++ [by8 0,by8 0,by8 0,by8 0]) 28 _ (ay.own 0 _ rfl) (by first | omega | (simp only [List.length_append,List.length_cons,List.length_nil,be_length,qbX]; omega) | (simp; omega))) ?_)
 rintro e_ qr ⟨bB,bC,rfl,ju,dt,du⟩
 refine ⟨_,rfl,fun qs jv=>?_⟩
 have b8:WOk _ _ _ _ [brow bB bC 5 (([]:Bs) ++ [by8 0,by8 0,by8 0,by8 0] ++ be 2 28)]:=ay.grow (k:=0) rfl dt ju du
 have cd:Fr _ (z2 b1 has txt ac v aa af ae) [brow aH aI 5 (([]:Bs) ++ [by8 0,by8 0,by8 0,by8 0])] _ (z2 b1 has txt ac v aa af ae) [brow bB bC 5 (([]:Bs) ++ [by8 0,by8 0,by8 0,by8 0] ++ be 2 28)]:=Fr.grow _ (k:=0) (r':=(brow bB bC 5 (([]:Bs) ++ [by8 0,by8 0,by8 0,by8 0] ++ be 2 28))) rfl dt du
 refine qak [3] [] [(0,.p 3 0),(1,.v (.slice bB ((([]:Bs) ++ [by8 0,by8 0,by8 0,by8 0] ++ be 2 28).length) bC)),(2,.v (.iface 59 (.pointer (some ⟨ac,0,none⟩)))),(3,.v (.int .i32 num)),(9,.v (.int .i16 28)),(10,.v (.int .i16 (IntKind.i16.wrap v)))] b8 jv fun qt jw=>?_
 refine qaf (qab ?_)
 refine qae [0,1,2,3] kz ?_
 refine qak [0,1] [2,3] [(0,.p 3 0),(2,.v (.iface 59 (.pointer (some ⟨ac,0,none⟩)))),(3,.v (.int .i32 num)),(9,.v (.int .i16 28)),(10,.v (.int .i16 (IntKind.i16.wrap v))),(22,.v (.slice bB ((([]:Bs) ++ [by8 0,by8 0,by8 0,by8 0] ++ be 2 28).length) bC)),(23,.v (.int .i16 (IntKind.i16.wrap v)))] b8 jw fun qu jx=>?_
 refine qam (qal jx (f:=132) (vs:=[.slice bB ((([]:Bs) ++ [by8 0,by8 0,by8 0,by8 0] ++ be 2 28).length) bC,.int .i16 (IntKind.i16.wrap v)]) (d:=24) kz Tryz.call132 (qb7 bB bC (([]:Bs) ++ [by8 0,by8 0,by8 0,by8 0] ++ be 2 28) (IntKind.i16.wrap v) _ (b8.own 0 _ rfl) (by first | omega | (simp only [List.length_append,List.length_cons,List.length_nil,be_length,qbX]; omega) | (simp; omega))) ?_)
 rintro e_ qv ⟨bD,bE,rfl,jy,dv,dw⟩
 refine ⟨_,rfl,fun qw jz=>?_⟩
 have ce:WOk _ _ _ _ [brow bD bE 5 (([]:Bs) ++ [by8 0,by8 0,by8 0,by8 0] ++ be 2 28 ++ be 2 (IntKind.i16.wrap v))]:=b8.grow (k:=0) rfl dv jy dw
 have cg:Fr _ (z2 b1 has txt ac v aa af ae) [brow bB bC 5 (([]:Bs) ++ [by8 0,by8 0,by8 0,by8 0] ++ be 2 28)] _ (z2 b1 has txt ac v aa af ae) [brow bD bE 5 (([]:Bs) ++ [by8 0,by8 0,by8 0,by8 0] ++ be 2 28 ++ be 2 (IntKind.i16.wrap v))]:=Fr.grow _ (k:=0) (r':=(brow bD bE 5 (([]:Bs) ++ [by8 0,by8 0,by8 0,by8 0] ++ be 2 28 ++ be 2 (IntKind.i16.wrap v)))) rfl dv dw
 refine qak [3] [] [(0,.p 3 0),(1,.v (.slice bD ((([]:Bs) ++ [by8 0,by8 0,by8 0,by8 0] ++ be 2 28 ++ be 2 (IntKind.i16.wrap v)).length) bE)),(2,.v (.iface 59 (.pointer (some ⟨ac,0,none⟩)))),(3,.v (.int .i32 num)),(9,.v (.int .i16 28)),(10,.v (.int .i16 (IntKind.i16.wrap v)))] ce jz fun qx jA=>?_
 refine qaf (qab ?_)
 refine qae [0,1,2,3] kz ?_
 refine qak [0,1] [2,3] [(0,.p 3 0),(2,.v (.iface 59 (.pointer (some ⟨ac,0,none⟩)))),(9,.v (.int .i16 28)),(10,.v (.int .i16 (IntKind.i16.wrap v))),(25,.v (.slice bD ((([]:Bs) ++ [by8 0,by8 0,by8 0,by8 0] ++ be 2 28 ++ be 2 (IntKind.i16.wrap v)).length) bE)),(26,.v (.int .i32 num))] ce jA fun qy jB=>?_
 refine qam (qal jB (f:=133) (vs:=[.slice bD ((([]:Bs) ++ [by8 0,by8 0,by8 0,by8 0] ++ be 2 28 ++ be 2 (IntKind.i16.wrap v)).length) bE,.int .i32 num]) (d:=27) kz Tryz.call133 (qcx bD bE (([]:Bs) ++ [by8 0,by8 0,by8 0,by8 0] ++ be 2 28 ++ be 2 (IntKind.i16.wrap v)) num _ (ce.own 0 _ rfl) (by first | omega | (simp only [List.length_append,List.length_cons,List.length_nil,be_length,qbX]; omega) | (simp; omega))) ?_)
 rintro e_ qz ⟨aN,aO,rfl,jC,dx,dy⟩
 refine ⟨_,rfl,fun qA jD=>?_⟩
 have aV:WOk _ _ _ _ [brow aN aO 5 (([]:Bs) ++ [by8 0,by8 0,by8 0,by8 0] ++ be 2 28 ++ be 2 (IntKind.i16.wrap v) ++ be 4 num)]:=ce.grow (k:=0) rfl dx jC dy
 have cm:Fr _ (z2 b1 has txt ac v aa af ae) [brow bD bE 5 (([]:Bs) ++ [by8 0,by8 0,by8 0,by8 0] ++ be 2 28 ++ be 2 (IntKind.i16.wrap v))] _ (z2 b1 has txt ac v aa af ae) [brow aN aO 5 (([]:Bs) ++ [by8 0,by8 0,by8 0,by8 0] ++ be 2 28 ++ be 2 (IntKind.i16.wrap v) ++ be 4 num)]:=Fr.grow _ (k:=0) (r':=(brow aN aO 5 (([]:Bs) ++ [by8 0,by8 0,by8 0,by8 0] ++ be 2 28 ++ be 2 (IntKind.i16.wrap v) ++ be 4 num))) rfl dx dy
 refine qak [3] [] [(0,.p 3 0),(1,.v (.slice aN ((([]:Bs) ++ [by8 0,by8 0,by8 0,by8 0] ++ be 2 28 ++ be 2 (IntKind.i16.wrap v) ++ be 4 num).length) aO)),(2,.v (.iface 59 (.pointer (some ⟨ac,0,none⟩)))),(9,.v (.int .i16 28)),(10,.v (.int .i16 (IntKind.i16.wrap v)))] aV jD fun qB jE=>?_
 refine qaf (qab ?_)
 refine wp_seq (qar [(0,.p 3 0),(1,.v (.slice aN ((([]:Bs) ++ [by8 0,by8 0,by8 0,by8 0] ++ be 2 28 ++ be 2 (IntKind.i16.wrap v) ++ be 4 num).length) aO)),(2,.v (.iface 59 (.pointer (some ⟨ac,0,none⟩)))),(33,.v (.bool false))] aV jE fun qC dz=>?_)
 refine qau dz (b:=false) kz rfl ?_
 refine wp_skip (qab (qae [0,1,2,3,4,5,6] kz ?_))
 refine qak [0,1,2,3,4] [5,6] [(2,.v (.iface 59 (.pointer (some ⟨ac,0,none⟩)))),(35,.v (.slice aN ((([]:Bs) ++ [by8 0,by8 0,by8 0,by8 0] ++ be 2 28 ++ be 2 (IntKind.i16.wrap v) ++ be 4 num).length) aO)),(39,.v (.pointer none))] aV dz fun qD jF=>?_
 refine qam (qa9 jF (f:=134) (vs:=[.slice aN ((([]:Bs) ++ [by8 0,by8 0,by8 0,by8 0] ++ be 2 28 ++ be 2 (IntKind.i16.wrap v) ++ be 4 num).length) aO,.pointer none]) (d:=40) (n':=14) kz Tryz.call134 Tryz.func134 rfl Tryz.ntmps134 kz fun qE jG=>?_)
 refine qar [(0,.v (.slice aN ((([]:Bs) ++ [by8 0,by8 0,by8 0,by8 0] ++ be 2 28 ++ be 2 (IntKind.i16.wrap v) ++ be 4 num).length) aO)),(1,.v (.pointer none))] aV jG fun qF jH=>?_
 refine wp_seq (qar [(0,.v (.slice aN ((([]:Bs) ++ [by8 0,by8 0,by8 0,by8 0] ++ be 2 28 ++ be 2 (IntKind.i16.wrap v) ++ be 4 num).length) aO)),(1,.v (.pointer none)),(6,.v (.bool true))] aV jH fun qG dA=>?_)
 refine qbw dA (b:=true) kz rfl ?_
 refine qae [0,1,2] kz ?_
 refine qak [0] [1,2] [(7,.v (.slice aN ((([]:Bs) ++ [by8 0,by8 0,by8 0,by8 0] ++ be 2 28 ++ be 2 (IntKind.i16.wrap v) ++ be 4 num).length) aO))] aV dA fun qH jI=>?_
 refine qam (qal jI (f:=132) (vs:=[.slice aN ((([]:Bs) ++ [by8 0,by8 0,by8 0,by8 0] ++ be 2 28 ++ be 2 (IntKind.i16.wrap v) ++ be 4 num).length) aO,.int .i16 (-1)]) (d:=8) kz Tryz.call132 (qb7 aN aO (([]:Bs) ++ [by8 0,by8 0,by8 0,by8 0] ++ be 2 28 ++ be 2 (IntKind.i16.wrap v) ++ be 4 num) (-1) _ (aV.own 0 _ rfl) (by first | omega | (simp only [List.length_append,List.length_cons,List.length_nil,be_length,qbX]; omega) | (simp; omega))) ?_)
 rintro e_ qI ⟨aB,aC,rfl,jJ,dB,dC⟩
 refine ⟨_,rfl,fun qJ jK=>?_⟩
 have az:WOk _ _ _ _ [brow aB aC 5 (([]:Bs) ++ [by8 0,by8 0,by8 0,by8 0] ++ be 2 28 ++ be 2 (IntKind.i16.wrap v) ++ be 4 num ++ be 2 (-1))]:=aV.grow (k:=0) rfl dB jJ dC
 have cq:Fr _ (z2 b1 has txt ac v aa af ae) [brow aN aO 5 (([]:Bs) ++ [by8 0,by8 0,by8 0,by8 0] ++ be 2 28 ++ be 2 (IntKind.i16.wrap v) ++ be 4 num)] _ (z2 b1 has txt ac v aa af ae) [brow aB aC 5 (([]:Bs) ++ [by8 0,by8 0,by8 0,by8 0] ++ be 2 28 ++ be 2 (IntKind.i16.wrap v) ++ be 4 num ++ be 2 (-1))]:=Fr.grow _ (k:=0) (r':=(brow aB aC 5 (([]:Bs) ++ [by8 0,by8 0,by8 0,by8 0] ++ be 2 28 ++ be 2 (IntKind.i16.wrap v) ++ be 4 num ++ be 2 (-1)))) rfl dB dC
 refine qak [2] [] [(4,.v (.slice aB ((([]:Bs) ++ [by8 0,by8 0,by8 0,by8 0] ++ be 2 28 ++ be 2 (IntKind.i16.wrap v) ++ be 4 num ++ be 2 (-1)).length) aC))] az jK fun qK jL=>?_
 refine qaf (qab ?_)
 refine wp_ret (qaD (qaE jL az.cells (v:=.slice aB ((([]:Bs) ++ [by8 0,by8 0,by8 0,by8 0] ++ be 2 28 ++ be 2 (IntKind.i16.wrap v) ++ be 4 num ++ be 2 (-1)).length) aC) kz ?_))
 refine ⟨_,rfl,fun qL jM=>?_⟩
 have jN:=(EnvOk.places (tb':=[⟨b1,0,[.bool has,.string txt],true⟩,⟨ac,0,[.int .i16 (IntKind.i16.wrap v),.string ((aa.f 0).s),.string ((aa.f 1).s),.int .i64 ((aa.f 2).n),.int .i16 ((aa.f 3).n),.int .i32 ((aa.f 4).n),.string ((aa.f 5).s),.pointer ((aa.f 6).A),.slice ((aa.f 7).A) ((aa.f 7).l) ((aa.f 7).c),.map aa.m],true⟩,⟨af,0,[.bool has,.string txt],true⟩,⟨ae,0,[.pointer none],true⟩]) jM (show Pl [⟨b1,0,[.bool has,.string txt],true⟩,⟨ac,0,[.int .i16 (IntKind.i16.wrap v),.string ((aa.f 0).s),.string ((aa.f 1).s),.int .i64 ((aa.f 2).n),.int .i16 ((aa.f 3).n),.int .i32 ((aa.f 4).n),.string ((aa.f 5).s),.pointer ((aa.f 6).A),.slice ((aa.f 7).A) ((aa.f 7).l) ((aa.f 7).c),.map aa.m],true⟩,⟨af,0,[.bool has,.string txt],true⟩,⟨ae,0,[.pointer none],true⟩] [⟨b1,0,[.bool has,.string txt],true⟩,⟨ac,0,[.int .i16 (IntKind.i16.wrap v),.string ((aa.f 0).s),.string ((aa.f 1).s),.int .i64 ((aa.f 2).n),.int .i16 ((aa.f 3).n),.int .i32 ((aa.f 4).n),.string ((aa.f 5).s),.pointer ((aa.f 6).A),.slice ((aa.f 7).A) ((aa.f 7).l) ((aa.f 7).c),.map aa.m],true⟩,⟨af,0,[.bool has,.string txt],true⟩,⟨ae,0,[.pointer none],true⟩] from ⟨rfl,rfl,⟨rfl,rfl,⟨rfl,rfl,⟨rfl,rfl,trivial⟩⟩⟩⟩)).pk (env':=[(40,.v (.slice aB ((([]:Bs) ++ [by8 0,by8 0,by8 0,by8 0] ++ be 2 28 ++ be 2 (IntKind.i16.wrap v) ++ be 4 num ++ be 2 (-1)).length) aC)),(2,.v (.iface 59 (.pointer (some ⟨ac,0,none⟩)))),(35,.v (.slice aN ((([]:Bs) ++ [by8 0,by8 0,by8 0,by8 0] ++ be 2 28 ++ be 2 (IntKind.i16.wrap v) ++ be 4 num).length) aO)),(39,.v (.pointer none))])
 refine qak [6] [] [(1,.v (.slice aB ((([]:Bs) ++ [by8 0,by8 0,by8 0,by8 0] ++ be 2 28 ++ be 2 (IntKind.i16.wrap v) ++ be 4 num ++ be 2 (-1)).length) aC)),(2,.v (.iface 59 (.pointer (some ⟨ac,0,none⟩))))] az jN fun qM jO=>?_
 refine qaf (qab ?_)
 refine wp_seq (qae [0,1] kz ?_)
 refine qak [0] [1] [(1,.v (.slice aB ((([]:Bs) ++ [by8 0,by8 0,by8 0,by8 0] ++ be 2 28 ++ be 2 (IntKind.i16.wrap v) ++ be 4 num ++ be 2 (-1)).length) aC)),(2,.v (.iface 59 (.pointer (some ⟨ac,0,none⟩)))),(41,.v (.iface 59 (.pointer (some ⟨ac,0,none⟩))))] az jO fun qN jP=>?_
 refine qam (qck jP (t := 59) (v := (.pointer (some ⟨ac, 0, none⟩))) (v' := (.pointer (some ⟨ac, 0, none⟩))) (name := "IsFlexible") (f := 227) (vs := []) (d := 42) (n' := 8) kz (fun _ => by kernel_rfl) Tryz.call227 Tryz.func227 rfl Tryz.ntmps227 kz fun qO jQ => ?_)
 have jR:=jQ.recast 0 (.v (.pointer (some ⟨ac,0,none⟩))) (.p 1 0) rfl rfl (Nat.le_of_ble_eq_true (n:=2) rfl)
 refine qar [(0,.p 1 0)] az jR fun qP jS=>?_
 refine qar [(2,.v (.bool (decide ((IntKind.i16.wrap v) ≥ 3))))] az jS fun qQ jT=>?_
 refine wp_ret (qaE jT az.cells (v:=.bool (decide ((IntKind.i16.wrap v) ≥ 3))) kz ?_)
 refine ⟨_,rfl,fun qR jU=>?_⟩
 have cG:=(EnvOk.places (tb':=[⟨b1,0,[.bool has,.string txt],true⟩,⟨ac,0,[.int .i16 (IntKind.i16.wrap v),.string ((aa.f 0).s),.string ((aa.f 1).s),.int .i64 ((aa.f 2).n),.int .i16 ((aa.f 3).n),.int .i32 ((aa.f 4).n),.string ((aa.f 5).s),.pointer ((aa.f 6).A),.slice ((aa.f 7).A) ((aa.f 7).l) ((aa.f 7).c),.map aa.m],true⟩,⟨af,0,[.bool has,.string txt],true⟩,⟨ae,0,[.pointer none],true⟩]) jU (show Pl [⟨b1,0,[.bool has,.string txt],true⟩,⟨ac,0,[.int .i16 (IntKind.i16.wrap v),.string ((aa.f 0).s),.string ((aa.f 1).s),.int .i64 ((aa.f 2).n),.int .i16 ((aa.f 3).n),.int .i32 ((aa.f 4).n),.string ((aa.f 5).s),.pointer ((aa.f 6).A),.slice ((aa.f 7).A) ((aa.f 7).l) ((aa.f 7).c),.map aa.m],true⟩,⟨af,0,[.bool has,.string txt],true⟩,⟨ae,0,[.pointer none],true⟩] [⟨b1,0,[.bool has,.string txt],true⟩,⟨ac,0,[.int .i16 (IntKind.i16.wrap v),.string ((aa.f 0).s),.string ((aa.f 1).s),.int .i64 ((aa.f 2).n),.int .i16 ((aa.f 3).n),.int .i32 ((aa.f 4).n),.string ((aa.f 5).s),.pointer ((aa.f 6).A),.slice ((aa.f 7).A) ((aa.f 7).l) ((aa.f 7).c),.map aa.m],true⟩,⟨af,0,[.bool has,.string txt],true⟩,⟨ae,0,[.pointer none],true⟩] from ⟨rfl,rfl,⟨rfl,rfl,⟨rfl,rfl,⟨rfl,rfl,trivial⟩⟩⟩⟩)).pk (env':=[(42,.v (.bool (decide ((IntKind.i16.wrap v) ≥ 3)))),(1,.v (.slice aB ((([]:Bs) ++ [by8 0,by8 0,by8 0,by8 0] ++ be 2 28 ++ be 2 (IntKind.i16.wrap v) ++ be 4 num ++ be 2 (-1)).length) aC)),(2,.v (.iface 59 (.pointer (some ⟨ac,0,none⟩)))),(41,.v (.iface 59 (.pointer (some ⟨ac,0,none⟩))))])
 refine qaf (qab ?_)
 refine qay cG (b:=decide ((IntKind.i16.wrap v) ≥ 3)) kz (fun bk=>?_) (fun bk=>?_)
 ·
  have mz:=of_decide_eq_true bk
  refine qar [(1,.v (.slice aB ((([]:Bs) ++ [by8 0,by8 0,by8 0,by8 0] ++ be 2 28 ++ be 2 (IntKind.i16.wrap v) ++ be 4 num ++ be 2 (-1)).length) aC)),(2,.v (.iface 59 (.pointer (some ⟨ac,0,none⟩)))),(11,.v (.int .u8 0))] az cG fun qS jV=>?_
  refine qae [0,1,2,3,4] kz ?_
  refine qak [0,1] [2,3,4] [(2,.v (.iface 59 (.pointer (some ⟨ac,0,none⟩)))),(11,.v (.int .u8 0)),(43,.v (.slice aB ((([]:Bs) ++ [by8 0,by8 0,by8 0,by8 0] ++ be 2 28 ++ be 2 (IntKind.i16.wrap v) ++ be 4 num ++ be 2 (-1)).length) aC)),(44,.v (.int .u8 0))] az jV fun qT jW=>?_
  refine qbu az jW (k:=0) (e:=5) (size:=1) (len:=1) (cs:=[.int .u8 0]) (d1:=45) (d:=46) kz (t:=24) (bytes:=1) kz (fun _=>by kernel_rfl) rfl kz (by first | omega | (simp only [List.length_append,List.length_cons,List.length_nil,be_length,qbX]; omega) | (simp; omega)) fun bn bo qU qV dD jX ⟨_,jY⟩=>?_
  have jZ:(⟨bn,bo,5,1,(([]:Bs) ++ [by8 0,by8 0,by8 0,by8 0] ++ be 2 28 ++ be 2 (IntKind.i16.wrap v) ++ be 4 num ++ be 2 (-1)).length + 1,bc (([]:Bs) ++ [by8 0,by8 0,by8 0,by8 0] ++ be 2 28 ++ be 2 (IntKind.i16.wrap v) ++ be 4 num ++ be 2 (-1)) ++ [.int .u8 0]⟩:Rw) = brow bn bo 5 (([]:Bs) ++ [by8 0,by8 0,by8 0,by8 0] ++ be 2 28 ++ be 2 (IntKind.i16.wrap v) ++ be 4 num ++ be 2 (-1) ++ [by8 0]):=qa2 (by simp only [bc,List.map,qbE]; try rfl) rfl
  obtain ⟨bu,dE⟩:=jX.rowEq 0 [brow bn bo 5 (([]:Bs) ++ [by8 0,by8 0,by8 0,by8 0] ++ be 2 28 ++ be 2 (IntKind.i16.wrap v) ++ be 4 num ++ be 2 (-1) ++ [by8 0])] jZ
  have j0:=EnvOk.pick jY (ks:=[2,11,43,44,46]) (env':=[(2,.v (.iface 59 (.pointer (some ⟨ac,0,none⟩)))),(11,.v (.int .u8 0)),(43,.v (.slice aB ((([]:Bs) ++ [by8 0,by8 0,by8 0,by8 0] ++ be 2 28 ++ be 2 (IntKind.i16.wrap v) ++ be 4 num ++ be 2 (-1)).length) aC)),(44,.v (.int .u8 0)),(46,.v (.slice bn ((([]:Bs) ++ [by8 0,by8 0,by8 0,by8 0] ++ be 2 28 ++ be 2 (IntKind.i16.wrap v) ++ be 4 num ++ be 2 (-1)).length + 1) bo))]) kz
  have j1:=j0.cast (env':=[(2,.v (.iface 59 (.pointer (some ⟨ac,0,none⟩)))),(11,.v (.int .u8 0)),(43,.v (.slice aB ((([]:Bs) ++ [by8 0,by8 0,by8 0,by8 0] ++ be 2 28 ++ be 2 (IntKind.i16.wrap v) ++ be 4 num ++ be 2 (-1)).length) aC)),(44,.v (.int .u8 0)),(46,.v (.slice bn ((([]:Bs) ++ [by8 0,by8 0,by8 0,by8 0] ++ be 2 28 ++ be 2 (IntKind.i16.wrap v) ++ be 4 num ++ be 2 (-1) ++ [by8 0]).length) bo))]) (by simp only [List.length_append,List.length_cons,List.length_nil,Nat.zero_add])
  refine qak [4] [] [(1,.v (.slice bn ((([]:Bs) ++ [by8 0,by8 0,by8 0,by8 0] ++ be 2 28 ++ be 2 (IntKind.i16.wrap v) ++ be 4 num ++ be 2 (-1) ++ [by8 0]).length) bo)),(2,.v (.iface 59 (.pointer (some ⟨ac,0,none⟩)))),(11,.v (.int .u8 0))] bu j1 fun qW j2=>?_
  refine qaf (qab ?_)
  refine qar [(1,.v (.slice bn ((([]:Bs) ++ [by8 0,by8 0,by8 0,by8 0] ++ be 2 28 ++ be 2 (IntKind.i16.wrap v) ++ be 4 num ++ be 2 (-1) ++ [by8 0]).length) bo)),(2,.v (.iface 59 (.pointer (some ⟨ac,0,none⟩)))),(48,.v (.bool false))] bu j2 fun qX dF=>?_
  refine qau dF (b:=false) kz rfl ?_
  refine wp_skip (qab (qae [0,1,2,3] kz ?_))
  refine qak [0,1] [2,3] [(49,.v (.iface 59 (.pointer (some ⟨ac,0,none⟩)))),(50,.v (.slice bn ((([]:Bs) ++ [by8 0,by8 0,by8 0,by8 0] ++ be 2 28 ++ be 2 (IntKind.i16.wrap v) ++ be 4 num ++ be 2 (-1) ++ [by8 0]).length) bo))] bu dF fun qY j3=>?_
  have j4:=(qaW _ ((((((((((aP.trans aQ).trans bX).trans bY).trans bZ).trans cd).trans cg).trans cm).trans cq).trans dD).trans dE).step immM ((((((((((aP.trans aQ).trans bX).trans bY).trans bZ).trans cd).trans cg).trans cm).trans cq).trans dD).trans dE).to' cJ)
  have dW:=bu.strImm (G:=F) 1 rfl
  have hk_:=qaW _ (Step.refl _ Nil) nilM (fun b o h_ _=>qgC h_) j4
  refine qam (qc9 j3 (t := 59) (v := (.pointer (some ⟨ac, 0, none⟩))) (v' := (.pointer (some ⟨ac, 0, none⟩))) (name := "AppendTo") (f := 225) (vs := [.slice bn ((([] : Bs) ++ [by8 0, by8 0, by8 0, by8 0] ++ be 2 28 ++ be 2 (IntKind.i16.wrap v) ++ be 4 num ++ be 2 (-1) ++ [by8 0]).length) bo]) (d := 51) kz (fun _ => by kernel_rfl) Tryz.call225 (qbN (IntKind.i16.wrap v) aa ac 0 bn bo (([] : Bs) ++ [by8 0, by8 0, by8 0, by8 0] ++ be 2 28 ++ be 2 (IntKind.i16.wrap v) ++ be 4 num ++ be 2 (-1) ++ [by8 0]) _ _ dW hk_ (qgA 0 rfl) (bu.own 0 _ rfl) (by first | omega | (simp only [List.length_append, List.length_cons, List.length_nil, be_length, qbX]; omega) | (simp; omega))) ?_)
  rintro e_ qZ ⟨am,ao,rfl,j5,dG,dH⟩
  refine ⟨_,rfl,fun q0 j6=>?_⟩
  have dI:WOk _ _ _ _ [brow am ao 5 ((([]:Bs) ++ [by8 0,by8 0,by8 0,by8 0] ++ be 2 28 ++ be 2 (IntKind.i16.wrap v) ++ be 4 num ++ be 2 (-1) ++ [by8 0]) ++ qaa (IntKind.i16.wrap v) aa)]:=bu.grow (k:=0) rfl dG j5 dH
  have mA:=Fr.grow (z2 b1 has txt ac v aa af ae) (k:=0) (rs:=[brow bn bo 5 (([]:Bs) ++ [by8 0,by8 0,by8 0,by8 0] ++ be 2 28 ++ be 2 (IntKind.i16.wrap v) ++ be 4 num ++ be 2 (-1) ++ [by8 0])]) (r':=(brow am ao 5 ((([]:Bs) ++ [by8 0,by8 0,by8 0,by8 0] ++ be 2 28 ++ be 2 (IntKind.i16.wrap v) ++ be 4 num ++ be 2 (-1) ++ [by8 0]) ++ qaa (IntKind.i16.wrap v) aa))) rfl dG dH
  refine qak [3] [] [(1,.v (.slice am (((([]:Bs) ++ [by8 0,by8 0,by8 0,by8 0] ++ be 2 28 ++ be 2 (IntKind.i16.wrap v) ++ be 4 num ++ be 2 (-1) ++ [by8 0]) ++ qaa (IntKind.i16.wrap v) aa).length) ao))] dI j6 fun q4 j7=>?_
  refine qaf (qab ?_)
  refine qbm 7 kz dI fun q5 mB cr bp=>?_
  refine qa0 [0,2] [(1,.v (.slice am (((([]:Bs) ++ [by8 0,by8 0,by8 0,by8 0] ++ be 2 28 ++ be 2 (IntKind.i16.wrap v) ++ be 4 num ++ be 2 (-1) ++ [by8 0]) ++ qaa (IntKind.i16.wrap v) aa).length) ao)),(52,.v (.slice am (((([]:Bs) ++ [by8 0,by8 0,by8 0,by8 0] ++ be 2 28 ++ be 2 (IntKind.i16.wrap v) ++ be 4 num ++ be 2 (-1) ++ [by8 0]) ++ qaa (IntKind.i16.wrap v) aa).length) ao)),(54,.v (.slice am (((([]:Bs) ++ [by8 0,by8 0,by8 0,by8 0] ++ be 2 28 ++ be 2 (IntKind.i16.wrap v) ++ be 4 num ++ be 2 (-1) ++ [by8 0]) ++ qaa (IntKind.i16.wrap v) aa).length) ao))] 5 (qac qah) (fun _ h=>h.cells) bp j7 fun q6 dJ=>?_
  refine qe2 (i:=1) (j:=3) kz ?_ ?_
  ·
   refine (qbH dJ (t:=24) (A:=am) (m:=((([]:Bs) ++ [by8 0,by8 0,by8 0,by8 0] ++ be 2 28 ++ be 2 (IntKind.i16.wrap v) ++ be 4 num ++ be 2 (-1) ++ [by8 0]) ++ qaa (IntKind.i16.wrap v) aa).length) (cp:=ao) (q:=0) (d:=53) (j:=0) kz (e:=5) (size:=1) (bytes:=1) kz (rfl) (by omega) fun q7 j8=>?_)
   refine ⟨fun _=>bp,?_⟩
   refine qaO (i:=3) kz (qbz j8 (t:=24) (A:=am) (m:=(((([]:Bs) ++ [by8 0,by8 0,by8 0,by8 0] ++ be 2 28 ++ be 2 (IntKind.i16.wrap v) ++ be 4 num ++ be 2 (-1) ++ [by8 0]) ++ qaa (IntKind.i16.wrap v) aa).length)) (cp:=ao) (q:=4) (d:=55) (j:=4) kz (e:=5) (bytes:=1) kz (rfl) (by first | omega | (simp only [List.length_append,List.length_cons,List.length_nil]; omega)) fun q8 j9=>?_)
   refine ⟨fun _=>bp,?_⟩
   refine qa0 [4,5] [(1,.v (.slice am (((([]:Bs) ++ [by8 0,by8 0,by8 0,by8 0] ++ be 2 28 ++ be 2 (IntKind.i16.wrap v) ++ be 4 num ++ be 2 (-1) ++ [by8 0]) ++ qaa (IntKind.i16.wrap v) aa).length) ao)),(53,.v (.slice am 0 ao)),(57,.v (.int .i32 (IntKind.i32.wrap (((((([]:Bs) ++ [by8 0,by8 0,by8 0,by8 0] ++ be 2 28 ++ be 2 (IntKind.i16.wrap v) ++ be 4 num ++ be 2 (-1) ++ [by8 0]) ++ qaa (IntKind.i16.wrap v) aa).length) - 4:Nat):Int))))] 1 (qac qah) (fun _ h=>h.cells) bp j9 fun q9 ka=>?_
   refine qaO (i:=6) kz (qal ka (f:=133) (vs:=[.slice am 0 ao,.int .i32 (IntKind.i32.wrap (((((([]:Bs) ++ [by8 0,by8 0,by8 0,by8 0] ++ be 2 28 ++ be 2 (IntKind.i16.wrap v) ++ be 4 num ++ be 2 (-1) ++ [by8 0]) ++ qaa (IntKind.i16.wrap v) aa).length) - 4:Nat):Int))]) (d:=58) kz Tryz.call133 (qbP (IntKind.i32.wrap (((((([]:Bs) ++ [by8 0,by8 0,by8 0,by8 0] ++ be 2 28 ++ be 2 (IntKind.i16.wrap v) ++ be 4 num ++ be 2 (-1) ++ [by8 0]) ++ qaa (IntKind.i16.wrap v) aa).length) - 4:Nat):Int)) am ao ((([]:Bs) ++ [by8 0,by8 0,by8 0,by8 0] ++ be 2 28 ++ be 2 (IntKind.i16.wrap v) ++ be 4 num ++ be 2 (-1) ++ [by8 0]) ++ qaa (IntKind.i16.wrap v) aa) _ (cr.own 0 _ rfl) (by simp only [List.length_append,List.length_cons,List.length_nil]; omega)) ?_)
   rintro e_ ra ⟨rfl,kd,dK⟩
   refine ⟨_,rfl,fun rb ke=>?_⟩
   have aW:WOk _ _ _ _ (z11 am ao v num aa):=cr.grow (k:=0) (r':=⟨am,ao,5,1,((([]:Bs) ++ [by8 0,by8 0,by8 0,by8 0] ++ be 2 28 ++ be 2 (IntKind.i16.wrap v) ++ be 4 num ++ be 2 (-1) ++ [by8 0]) ++ qaa (IntKind.i16.wrap v) aa).length,bc (be 4 (IntKind.i32.wrap (((((([]:Bs) ++ [by8 0,by8 0,by8 0,by8 0] ++ be 2 28 ++ be 2 (IntKind.i16.wrap v) ++ be 4 num ++ be 2 (-1) ++ [by8 0]) ++ qaa (IntKind.i16.wrap v) aa).length) - 4:Nat):Int)) ++ ((([]:Bs) ++ [by8 0,by8 0,by8 0,by8 0] ++ be 2 28 ++ be 2 (IntKind.i16.wrap v) ++ be 4 num ++ be 2 (-1) ++ [by8 0]) ++ qaa (IntKind.i16.wrap v) aa).drop 4)⟩) rfl dK kd (fun g' hg'=>.inl hg')
   have kf:=Fr.grow (z2 b1 has txt ac v aa af ae) (k:=0) (rs:=[brow am ao 5 ((([]:Bs) ++ [by8 0,by8 0,by8 0,by8 0] ++ be 2 28 ++ be 2 (IntKind.i16.wrap v) ++ be 4 num ++ be 2 (-1) ++ [by8 0]) ++ qaa (IntKind.i16.wrap v) aa)]) (r':=⟨am,ao,5,1,((([]:Bs) ++ [by8 0,by8 0,by8 0,by8 0] ++ be 2 28 ++ be 2 (IntKind.i16.wrap v) ++ be 4 num ++ be 2 (-1) ++ [by8 0]) ++ qaa (IntKind.i16.wrap v) aa).length,bc (be 4 (IntKind.i32.wrap (((((([]:Bs) ++ [by8 0,by8 0,by8 0,by8 0] ++ be 2 28 ++ be 2 (IntKind.i16.wrap v) ++ be 4 num ++ be 2 (-1) ++ [by8 0]) ++ qaa (IntKind.i16.wrap v) aa).length) - 4:Nat):Int)) ++ ((([]:Bs) ++ [by8 0,by8 0,by8 0,by8 0] ++ be 2 28 ++ be 2 (IntKind.i16.wrap v) ++ be 4 num ++ be 2 (-1) ++ [by8 0]) ++ qaa (IntKind.i16.wrap v) aa).drop 4)⟩) rfl dK (fun g' hg'=>.inl hg')
   have kg:=TT.ofW kf aW
   refine ⟨fun _=>kg,?_⟩
   refine qaZ kz ?_ _
   refine qab (qar [(8,.v (.slice am (((([]:Bs) ++ [by8 0,by8 0,by8 0,by8 0] ++ be 2 28 ++ be 2 (IntKind.i16.wrap v) ++ be 4 num ++ be 2 (-1) ++ [by8 0]) ++ qaa (IntKind.i16.wrap v) aa).length) ao))] aW ke fun rc kh=>?_)
   refine wp_ret (qaE kh aW.cells (v:=.slice am (((([]:Bs) ++ [by8 0,by8 0,by8 0,by8 0] ++ be 2 28 ++ be 2 (IntKind.i16.wrap v) ++ be 4 num ++ be 2 (-1) ++ [by8 0]) ++ qaa (IntKind.i16.wrap v) aa).length) ao) kz ?_)
   refine ⟨_,rfl,fun re ki=>?_⟩
   have kj:=(EnvOk.places (tb':=[⟨b1,0,[.bool has,.string txt],true⟩,⟨ac,0,[.int .i16 (IntKind.i16.wrap v),.string ((aa.f 0).s),.string ((aa.f 1).s),.int .i64 ((aa.f 2).n),.int .i16 ((aa.f 3).n),.int .i32 ((aa.f 4).n),.string ((aa.f 5).s),.pointer ((aa.f 6).A),.slice ((aa.f 7).A) ((aa.f 7).l) ((aa.f 7).c),.map aa.m],true⟩,⟨af,0,[.bool has,.string txt],true⟩,⟨ae,0,[.pointer none],true⟩]) ki (show Pl [⟨b1,0,[.bool has,.string txt],true⟩,⟨ac,0,[.int .i16 (IntKind.i16.wrap v),.string ((aa.f 0).s),.string ((aa.f 1).s),.int .i64 ((aa.f 2).n),.int .i16 ((aa.f 3).n),.int .i32 ((aa.f 4).n),.string ((aa.f 5).s),.pointer ((aa.f 6).A),.slice ((aa.f 7).A) ((aa.f 7).l) ((aa.f 7).c),.map aa.m],true⟩,⟨af,0,[.bool has,.string txt],true⟩,⟨ae,0,[.pointer none],true⟩] [⟨b1,0,[.bool has,.string txt],true⟩,⟨ac,0,[.int .i16 (IntKind.i16.wrap v),.string ((aa.f 0).s),.string ((aa.f 1).s),.int .i64 ((aa.f 2).n),.int .i16 ((aa.f 3).n),.int .i32 ((aa.f 4).n),.string ((aa.f 5).s),.pointer ((aa.f 6).A),.slice ((aa.f 7).A) ((aa.f 7).l) ((aa.f 7).c),.map aa.m],true⟩,⟨af,0,[.bool has,.string txt],true⟩,⟨ae,0,[.pointer none],true⟩] from ⟨rfl,rfl,⟨rfl,rfl,⟨rfl,rfl,⟨rfl,rfl,trivial⟩⟩⟩⟩)).pk (env':=[(19,.v (.slice am (((([]:Bs) ++ [by8 0,by8 0,by8 0,by8 0] ++ be 2 28 ++ be 2 (IntKind.i16.wrap v) ++ be 4 num ++ be 2 (-1) ++ [by8 0]) ++ qaa (IntKind.i16.wrap v) aa).length) ao)),(16,.p 3 0),(17,.v (.iface 59 (.pointer (some ⟨ac,0,none⟩)))),(18,.v (.int .i32 num))])
   refine qak [4] [] [(6,.v (.slice am (((([]:Bs) ++ [by8 0,by8 0,by8 0,by8 0] ++ be 2 28 ++ be 2 (IntKind.i16.wrap v) ++ be 4 num ++ be 2 (-1) ++ [by8 0]) ++ qaa (IntKind.i16.wrap v) aa).length) ao))] aW kj fun rf km=>?_
   refine qaf (qab ?_)
   refine wp_ret (qaE km aW.cells (v:=.slice am (((([]:Bs) ++ [by8 0,by8 0,by8 0,by8 0] ++ be 2 28 ++ be 2 (IntKind.i16.wrap v) ++ be 4 num ++ be 2 (-1) ++ [by8 0]) ++ qaa (IntKind.i16.wrap v) aa).length) ao) kz ?_)
   refine ⟨_,rfl,fun rg ko=>?_⟩
   have kp:=(EnvOk.places (tb':=[⟨b1,0,[.bool has,.string txt],true⟩,⟨ac,0,[.int .i16 (IntKind.i16.wrap v),.string ((aa.f 0).s),.string ((aa.f 1).s),.int .i64 ((aa.f 2).n),.int .i16 ((aa.f 3).n),.int .i32 ((aa.f 4).n),.string ((aa.f 5).s),.pointer ((aa.f 6).A),.slice ((aa.f 7).A) ((aa.f 7).l) ((aa.f 7).c),.map aa.m],true⟩,⟨af,0,[.bool has,.string txt],true⟩,⟨ae,0,[.pointer none],true⟩]) ko (show Pl [⟨b1,0,[.bool has,.string txt],true⟩,⟨ac,0,[.int .i16 (IntKind.i16.wrap v),.string ((aa.f 0).s),.string ((aa.f 1).s),.int .i64 ((aa.f 2).n),.int .i16 ((aa.f 3).n),.int .i32 ((aa.f 4).n),.string ((aa.f 5).s),.pointer ((aa.f 6).A),.slice ((aa.f 7).A) ((aa.f 7).l) ((aa.f 7).c),.map aa.m],true⟩] [⟨b1,0,[.bool has,.string txt],true⟩,⟨ac,0,[.int .i16 (IntKind.i16.wrap v),.string ((aa.f 0).s),.string ((aa.f 1).s),.int .i64 ((aa.f 2).n),.int .i16 ((aa.f 3).n),.int .i32 ((aa.f 4).n),.string ((aa.f 5).s),.pointer ((aa.f 6).A),.slice ((aa.f 7).A) ((aa.f 7).l) ((aa.f 7).c),.map aa.m],true⟩,⟨af,0,[.bool has,.string txt],true⟩,⟨ae,0,[.pointer none],true⟩] from ⟨rfl,rfl,⟨rfl,rfl,trivial⟩⟩)).pk (env':=[(25,.v (.slice am (((([]:Bs) ++ [by8 0,by8 0,by8 0,by8 0] ++ be 2 28 ++ be 2 (IntKind.i16.wrap v) ++ be 4 num ++ be 2 (-1) ++ [by8 0]) ++ qaa (IntKind.i16.wrap v) aa).length) ao)),(21,.v (.agg #[.bool has,.string txt])),(23,.v (.iface 59 (.pointer (some ⟨ac,0,none⟩)))),(24,.v (.int .i32 num))])
   refine qak [5,6] [] [(8,.v (.slice am (((([]:Bs) ++ [by8 0,by8 0,by8 0,by8 0] ++ be 2 28 ++ be 2 (IntKind.i16.wrap v) ++ be 4 num ++ be 2 (-1) ++ [by8 0]) ++ qaa (IntKind.i16.wrap v) aa).length) ao)),(9,.v (.bool true))] aW kp fun rh kq=>?_
   refine qaf (qab ?_)
   refine wp_ret (qaE kq aW.cells (v:=.tuple #[.slice am (((([]:Bs) ++ [by8 0,by8 0,by8 0,by8 0] ++ be 2 28 ++ be 2 (IntKind.i16.wrap v) ++ be 4 num ++ be 2 (-1) ++ [by8 0]) ++ qaa (IntKind.i16.wrap v) aa).length) ao,.bool true]) kz ?_)
   have ku:be 4 (IntKind.i32.wrap (((((([]:Bs) ++ [by8 0,by8 0,by8 0,by8 0] ++ be 2 28 ++ be 2 (IntKind.i16.wrap v) ++ be 4 num ++ be 2 (-1) ++ [by8 0]) ++ qaa (IntKind.i16.wrap v) aa).length) - 4:Nat):Int)) ++ ((([]:Bs) ++ [by8 0,by8 0,by8 0,by8 0] ++ be 2 28 ++ be 2 (IntKind.i16.wrap v) ++ be 4 num ++ be 2 (-1) ++ [by8 0]) ++ qaa (IntKind.i16.wrap v) aa).drop 4 = (qba 28 (IntKind.i16.wrap v) num has (sb txt) (decide ((IntKind.i16.wrap v) ≥ 3)) (qaa (IntKind.i16.wrap v) aa)):=qcP (R:=outB 28 (IntKind.i16.wrap v) num has (sb txt) (decide ((IntKind.i16.wrap v) ≥ 3)) (qaa (IntKind.i16.wrap v) aa)) (by simp [outB,qeq,qbX,aJ,bk])
   exact qcQ aW (k:=0) rfl (ku.trans (by rw [ba])) (by simp only [List.length_append,List.length_cons,List.length_nil]; omega)
  refine (qbz dJ (t:=24) (A:=am) (m:=(((([]:Bs) ++ [by8 0,by8 0,by8 0,by8 0] ++ be 2 28 ++ be 2 (IntKind.i16.wrap v) ++ be 4 num ++ be 2 (-1) ++ [by8 0]) ++ qaa (IntKind.i16.wrap v) aa).length)) (cp:=ao) (q:=4) (d:=55) (j:=4) kz (e:=5) (bytes:=1) kz (rfl) (by first | omega | (simp only [List.length_append,List.length_cons,List.length_nil]; omega)) fun ri kv=>?_)
  refine ⟨fun _=>bp,?_⟩
  refine qa0 [4,5] [(1,.v (.slice am (((([]:Bs) ++ [by8 0,by8 0,by8 0,by8 0] ++ be 2 28 ++ be 2 (IntKind.i16.wrap v) ++ be 4 num ++ be 2 (-1) ++ [by8 0]) ++ qaa (IntKind.i16.wrap v) aa).length) ao)),(52,.v (.slice am (((([]:Bs) ++ [by8 0,by8 0,by8 0,by8 0] ++ be 2 28 ++ be 2 (IntKind.i16.wrap v) ++ be 4 num ++ be 2 (-1) ++ [by8 0]) ++ qaa (IntKind.i16.wrap v) aa).length) ao)),(57,.v (.int .i32 (IntKind.i32.wrap (((((([]:Bs) ++ [by8 0,by8 0,by8 0,by8 0] ++ be 2 28 ++ be 2 (IntKind.i16.wrap v) ++ be 4 num ++ be 2 (-1) ++ [by8 0]) ++ qaa (IntKind.i16.wrap v) aa).length) - 4:Nat):Int))))] 2 (qac qah) (fun _ h=>h.cells) bp kv fun rj kw=>?_
  refine qaO (i:=1) kz (qbH kw (t:=24) (A:=am) (m:=((([]:Bs) ++ [by8 0,by8 0,by8 0,by8 0] ++ be 2 28 ++ be 2 (IntKind.i16.wrap v) ++ be 4 num ++ be 2 (-1) ++ [by8 0]) ++ qaa (IntKind.i16.wrap v) aa).length) (cp:=ao) (q:=0) (d:=53) (j:=0) kz (e:=5) (size:=1) (bytes:=1) kz (rfl) (by omega) fun rl kx=>?_)
  refine ⟨fun _=>bp,?_⟩
  refine qaO (i:=6) kz (qal kx (f:=133) (vs:=[.slice am 0 ao,.int .i32 (IntKind.i32.wrap (((((([]:Bs) ++ [by8 0,by8 0,by8 0,by8 0] ++ be 2 28 ++ be 2 (IntKind.i16.wrap v) ++ be 4 num ++ be 2 (-1) ++ [by8 0]) ++ qaa (IntKind.i16.wrap v) aa).length) - 4:Nat):Int))]) (d:=58) kz Tryz.call133 (qbP (IntKind.i32.wrap (((((([]:Bs) ++ [by8 0,by8 0,by8 0,by8 0] ++ be 2 28 ++ be 2 (IntKind.i16.wrap v) ++ be 4 num ++ be 2 (-1) ++ [by8 0]) ++ qaa (IntKind.i16.wrap v) aa).length) - 4:Nat):Int)) am ao ((([]:Bs) ++ [by8 0,by8 0,by8 0,by8 0] ++ be 2 28 ++ be 2 (IntKind.i16.wrap v) ++ be 4 num ++ be 2 (-1) ++ [by8 0]) ++ qaa (IntKind.i16.wrap v) aa) _ (cr.own 0 _ rfl) (by simp only [List.length_append,List.length_cons,List.length_nil]; omega)) ?_)
  rintro e_ rm ⟨rfl,ky,dL⟩
  refine ⟨_,rfl,fun rn kA=>?_⟩
  have aX:WOk _ _ _ _ (z11 am ao v num aa):=cr.grow (k:=0) (r':=⟨am,ao,5,1,((([]:Bs) ++ [by8 0,by8 0,by8 0,by8 0] ++ be 2 28 ++ be 2 (IntKind.i16.wrap v) ++ be 4 num ++ be 2 (-1) ++ [by8 0]) ++ qaa (IntKind.i16.wrap v) aa).length,bc (be 4 (IntKind.i32.wrap (((((([]:Bs) ++ [by8 0,by8 0,by8 0,by8 0] ++ be 2 28 ++ be 2 (IntKind.i16.wrap v) ++ be 4 num ++ be 2 (-1) ++ [by8 0]) ++ qaa (IntKind.i16.wrap v) aa).length) - 4:Nat):Int)) ++ ((([]:Bs) ++ [by8 0,by8 0,by8 0,by8 0] ++ be 2 28 ++ be 2 (IntKind.i16.wrap v) ++ be 4 num ++ be 2 (-1) ++ [by8 0]) ++ qaa (IntKind.i16.wrap v) aa).drop 4)⟩) rfl dL ky (fun g' hg'=>.inl hg')
  have kB:=Fr.grow (z2 b1 has txt ac v aa af ae) (k:=0) (rs:=[brow am ao 5 ((([]:Bs) ++ [by8 0,by8 0,by8 0,by8 0] ++ be 2 28 ++ be 2 (IntKind.i16.wrap v) ++ be 4 num ++ be 2 (-1) ++ [by8 0]) ++ qaa (IntKind.i16.wrap v) aa)]) (r':=⟨am,ao,5,1,((([]:Bs) ++ [by8 0,by8 0,by8 0,by8 0] ++ be 2 28 ++ be 2 (IntKind.i16.wrap v) ++ be 4 num ++ be 2 (-1) ++ [by8 0]) ++ qaa (IntKind.i16.wrap v) aa).length,bc (be 4 (IntKind.i32.wrap (((((([]:Bs) ++ [by8 0,by8 0,by8 0,by8 0] ++ be 2 28 ++ be 2 (IntKind.i16.wrap v) ++ be 4 num ++ be 2 (-1) ++ [by8 0]) ++ qaa (IntKind.i16.wrap v) aa).length) - 4:Nat):Int)) ++ ((([]:Bs) ++ [by8 0,by8 0,by8 0,by8 0] ++ be 2 28 ++ be 2 (IntKind.i16.wrap v) ++ be 4 num ++ be 2 (-1) ++ [by8 0]) ++ qaa (IntKind.i16.wrap v) aa).drop 4)⟩) rfl dL (fun g' hg'=>.inl hg')
  have kC:=TT.ofW kB aX
  refine ⟨fun _=>kC,?_⟩
  refine qaZ kz ?_ _
  refine qab (qar [(8,.v (.slice am (((([]:Bs) ++ [by8 0,by8 0,by8 0,by8 0] ++ be 2 28 ++ be 2 (IntKind.i16.wrap v) ++ be 4 num ++ be 2 (-1) ++ [by8 0]) ++ qaa (IntKind.i16.wrap v) aa).length) ao))] aX kA fun ro kD=>?_)
  refine wp_ret (qaE kD aX.cells (v:=.slice am (((([]:Bs) ++ [by8 0,by8 0,by8 0,by8 0] ++ be 2 28 ++ be 2 (IntKind.i16.wrap v) ++ be 4 num ++ be 2 (-1) ++ [by8 0]) ++ qaa (IntKind.i16.wrap v) aa).length) ao) kz ?_)
  refine ⟨_,rfl,fun rp kE=>?_⟩
  have kF:=(EnvOk.places (tb':=[⟨b1,0,[.bool has,.string txt],true⟩,⟨ac,0,[.int .i16 (IntKind.i16.wrap v),.string ((aa.f 0).s),.string ((aa.f 1).s),.int .i64 ((aa.f 2).n),.int .i16 ((aa.f 3).n),.int .i32 ((aa.f 4).n),.string ((aa.f 5).s),.pointer ((aa.f 6).A),.slice ((aa.f 7).A) ((aa.f 7).l) ((aa.f 7).c),.map aa.m],true⟩,⟨af,0,[.bool has,.string txt],true⟩,⟨ae,0,[.pointer none],true⟩]) kE (show Pl [⟨b1,0,[.bool has,.string txt],true⟩,⟨ac,0,[.int .i16 (IntKind.i16.wrap v),.string ((aa.f 0).s),.string ((aa.f 1).s),.int .i64 ((aa.f 2).n),.int .i16 ((aa.f 3).n),.int .i32 ((aa.f 4).n),.string ((aa.f 5).s),.pointer ((aa.f 6).A),.slice ((aa.f 7).A) ((aa.f 7).l) ((aa.f 7).c),.map aa.m],true⟩,⟨af,0,[.bool has,.string txt],true⟩,⟨ae,0,[.pointer none],true⟩] [⟨b1,0,[.bool has,.string txt],true⟩,⟨ac,0,[.int .i16 (IntKind.i16.wrap v),.string ((aa.f 0).s),.string ((aa.f 1).s),.int .i64 ((aa.f 2).n),.int .i16 ((aa.f 3).n),.int .i32 ((aa.f 4).n),.string ((aa.f 5).s),.pointer ((aa.f 6).A),.slice ((aa.f 7).A) ((aa.f 7).l) ((aa.f 7).c),.map aa.m],true⟩,⟨af,0,[.bool has,.string txt],true⟩,⟨ae,0,[.pointer none],true⟩] from ⟨rfl,rfl,⟨rfl,rfl,⟨rfl,rfl,⟨rfl,rfl,trivial⟩⟩⟩⟩)).pk (env':=[(19,.v (.slice am (((([]:Bs) ++ [by8 0,by8 0,by8 0,by8 0] ++ be 2 28 ++ be 2 (IntKind.i16.wrap v) ++ be 4 num ++ be 2 (-1) ++ [by8 0]) ++ qaa (IntKind.i16.wrap v) aa).length) ao)),(16,.p 3 0),(17,.v (.iface 59 (.pointer (some ⟨ac,0,none⟩)))),(18,.v (.int .i32 num))])
  refine qak [4] [] [(6,.v (.slice am (((([]:Bs) ++ [by8 0,by8 0,by8 0,by8 0] ++ be 2 28 ++ be 2 (IntKind.i16.wrap v) ++ be 4 num ++ be 2 (-1) ++ [by8 0]) ++ qaa (IntKind.i16.wrap v) aa).length) ao))] aX kF fun rq kG=>?_
  refine qaf (qab ?_)
  refine wp_ret (qaE kG aX.cells (v:=.slice am (((([]:Bs) ++ [by8 0,by8 0,by8 0,by8 0] ++ be 2 28 ++ be 2 (IntKind.i16.wrap v) ++ be 4 num ++ be 2 (-1) ++ [by8 0]) ++ qaa (IntKind.i16.wrap v) aa).length) ao) kz ?_)
  refine ⟨_,rfl,fun rt kH=>?_⟩
  have kI:=(EnvOk.places (tb':=[⟨b1,0,[.bool has,.string txt],true⟩,⟨ac,0,[.int .i16 (IntKind.i16.wrap v),.string ((aa.f 0).s),.string ((aa.f 1).s),.int .i64 ((aa.f 2).n),.int .i16 ((aa.f 3).n),.int .i32 ((aa.f 4).n),.string ((aa.f 5).s),.pointer ((aa.f 6).A),.slice ((aa.f 7).A) ((aa.f 7).l) ((aa.f 7).c),.map aa.m],true⟩,⟨af,0,[.bool has,.string txt],true⟩,⟨ae,0,[.pointer none],true⟩]) kH (show Pl [⟨b1,0,[.bool has,.string txt],true⟩,⟨ac,0,[.int .i16 (IntKind.i16.wrap v),.string ((aa.f 0).s),.string ((aa.f 1).s),.int .i64 ((aa.f 2).n),.int .i16 ((aa.f 3).n),.int .i32 ((aa.f 4).n),.string ((aa.f 5).s),.pointer ((aa.f 6).A),.slice ((aa.f 7).A) ((aa.f 7).l) ((aa.f 7).c),.map aa.m],true⟩] [⟨b1,0,[.bool has,.string txt],true⟩,⟨ac,0,[.int .i16 (IntKind.i16.wrap v),.string ((aa.f 0).s),.string ((aa.f 1).s),.int .i64 ((aa.f 2).n),.int .i16 ((aa.f 3).n),.int .i32 ((aa.f 4).n),.string ((aa.f 5).s),.pointer ((aa.f 6).A),.slice ((aa.f 7).A) ((aa.f 7).l) ((aa.f 7).c),.map aa.m],true⟩,⟨af,0,[.bool has,.string txt],true⟩,⟨ae,0,[.pointer none],true⟩] from ⟨rfl,rfl,⟨rfl,rfl,trivial⟩⟩)).pk (env':=[(25,.v (.slice am (((([]:Bs) ++ [by8 0,by8 0,by8 0,by8 0] ++ be 2 28 ++ be 2 (IntKind.i16.wrap v) ++ be 4 num ++ be 2 (-1) ++ [by8 0]) ++ qaa (IntKind.i16.wrap v) aa).length) ao)),(21,.v (.agg #[.bool has,.string txt])),(23,.v (.iface 59 (.pointer (some ⟨ac,0,none⟩)))),(24,.v (.int .i32 num))])
  refine qak [5,6] [] [(8,.v (.slice am (((([]:Bs) ++ [by8 0,by8 0,by8 0,by8 0] ++ be 2 28 ++ be 2 (IntKind.i16.wrap v) ++ be 4 num ++ be 2 (-1) ++ [by8 0]) ++ qaa (IntKind.i16.wrap v) aa).length) ao)),(9,.v (.bool true))] aX kI fun ru kJ=>?_
  refine qaf (qab ?_)
  refine wp_ret (qaE kJ aX.cells (v:=.tuple #[.slice am (((([]:Bs) ++ [by8 0,by8 0,by8 0,by8 0] ++ be 2 28 ++ be 2 (IntKind.i16.wrap v) ++ be 4 num ++ be 2 (-1) ++ [by8 0]) ++ qaa (IntKind.i16.wrap v) aa).length) ao,.bool true]) kz ?_)
  have kK:be 4 (IntKind.i32.wrap (((((([]:Bs) ++ [by8 0,by8 0,by8 0,by8 0] ++ be 2 28 ++ be 2 (IntKind.i16.wrap v) ++ be 4 num ++ be 2 (-1) ++ [by8 0]) ++ qaa (IntKind.i16.wrap v) aa).length) - 4:Nat):Int)) ++ ((([]:Bs) ++ [by8 0,by8 0,by8 0,by8 0] ++ be 2 28 ++ be 2 (IntKind.i16.wrap v) ++ be 4 num ++ be 2 (-1) ++ [by8 0]) ++ qaa (IntKind.i16.wrap v) aa).drop 4 = (qba 28 (IntKind.i16.wrap v) num has (sb txt) (decide ((IntKind.i16.wrap v) ≥ 3)) (qaa (IntKind.i16.wrap v) aa)):=qcP (R:=outB 28 (IntKind.i16.wrap v) num has (sb txt) (decide ((IntKind.i16.wrap v) ≥ 3)) (qaa (IntKind.i16.wrap v) aa)) (by simp [outB,qeq,qbX,aJ,bk])
  exact qcQ aX (k:=0) rfl (kK.trans (by rw [ba])) (by simp only [List.length_append,List.length_cons,List.length_nil]; omega)
 have mC:=of_decide_eq_false bk
 refine wp_skip (qab (qae [0,1,2,3] kz ?_))
 refine qak [0,1] [2,3] [(49,.v (.iface 59 (.pointer (some ⟨ac,0,none⟩)))),(50,.v (.slice aB ((([]:Bs) ++ [by8 0,by8 0,by8 0,by8 0] ++ be 2 28 ++ be 2 (IntKind.i16.wrap v) ++ be 4 num ++ be 2 (-1)).length) aC))] az cG fun rv kL=>?_
 have kM:=(qaW _ ((((((((aP.trans aQ).trans bX).trans bY).trans bZ).trans cd).trans cg).trans cm).trans cq).step immM ((((((((aP.trans aQ).trans bX).trans bY).trans bZ).trans cd).trans cg).trans cm).trans cq).to' cJ)
 have dX:=az.strImm (G:=F) 1 rfl
 have hk_:=qaW _ (Step.refl _ Nil) nilM (fun b o h_ _=>qgC h_) kM
 refine qam (qc9 kL (t := 59) (v := (.pointer (some ⟨ac, 0, none⟩))) (v' := (.pointer (some ⟨ac, 0, none⟩))) (name := "AppendTo") (f := 225) (vs := [.slice aB ((([] : Bs) ++ [by8 0, by8 0, by8 0, by8 0] ++ be 2 28 ++ be 2 (IntKind.i16.wrap v) ++ be 4 num ++ be 2 (-1)).length) aC]) (d := 51) kz (fun _ => by kernel_rfl) Tryz.call225 (qbN (IntKind.i16.wrap v) aa ac 0 aB aC (([] : Bs) ++ [by8 0, by8 0, by8 0, by8 0] ++ be 2 28 ++ be 2 (IntKind.i16.wrap v) ++ be 4 num ++ be 2 (-1)) _ _ dX hk_ (qgA 0 rfl) (az.own 0 _ rfl) (by first | omega | (simp only [List.length_append, List.length_cons, List.length_nil, be_length, qbX]; omega) | (simp; omega))) ?_)
 rintro e_ rx ⟨ap,ar,rfl,kN,dM,dN⟩
 refine ⟨_,rfl,fun ry kO=>?_⟩
 have dO:WOk _ _ _ _ [brow ap ar 5 ((([]:Bs) ++ [by8 0,by8 0,by8 0,by8 0] ++ be 2 28 ++ be 2 (IntKind.i16.wrap v) ++ be 4 num ++ be 2 (-1)) ++ qaa (IntKind.i16.wrap v) aa)]:=az.grow (k:=0) rfl dM kN dN
 have mD:=Fr.grow (z2 b1 has txt ac v aa af ae) (k:=0) (rs:=[brow aB aC 5 (([]:Bs) ++ [by8 0,by8 0,by8 0,by8 0] ++ be 2 28 ++ be 2 (IntKind.i16.wrap v) ++ be 4 num ++ be 2 (-1))]) (r':=(brow ap ar 5 ((([]:Bs) ++ [by8 0,by8 0,by8 0,by8 0] ++ be 2 28 ++ be 2 (IntKind.i16.wrap v) ++ be 4 num ++ be 2 (-1)) ++ qaa (IntKind.i16.wrap v) aa))) rfl dM dN
 refine qak [3] [] [(1,.v (.slice ap (((([]:Bs) ++ [by8 0,by8 0,by8 0,by8 0] ++ be 2 28 ++ be 2 (IntKind.i16.wrap v) ++ be 4 num ++ be 2 (-1)) ++ qaa (IntKind.i16.wrap v) aa).length) ar))] dO kO fun rz kP=>?_
 refine qaf (qab ?_)
 refine qbm 7 kz dO fun rA mF cu bq=>?_
 refine qa0 [0,2] [(1,.v (.slice ap (((([]:Bs) ++ [by8 0,by8 0,by8 0,by8 0] ++ be 2 28 ++ be 2 (IntKind.i16.wrap v) ++ be 4 num ++ be 2 (-1)) ++ qaa (IntKind.i16.wrap v) aa).length) ar)),(52,.v (.slice ap (((([]:Bs) ++ [by8 0,by8 0,by8 0,by8 0] ++ be 2 28 ++ be 2 (IntKind.i16.wrap v) ++ be 4 num ++ be 2 (-1)) ++ qaa (IntKind.i16.wrap v) aa).length) ar)),(54,.v (.slice ap (((([]:Bs) ++ [by8 0,by8 0,by8 0,by8 0] ++ be 2 28 ++ be 2 (IntKind.i16.wrap v) ++ be 4 num ++ be 2 (-1)) ++ qaa (IntKind.i16.wrap v) aa).length) ar))] 5 (qac qah) (fun _ h=>h.cells) bq kP fun rB dP=>?_
 refine qe2 (i:=1) (j:=3) kz ?_ ?_
 ·
  refine (qbH dP (t:=24) (A:=ap) (m:=((([]:Bs) ++ [by8 0,by8 0,by8 0,by8 0] ++ be 2 28 ++ be 2 (IntKind.i16.wrap v) ++ be 4 num ++ be 2 (-1)) ++ qaa (IntKind.i16.wrap v) aa).length) (cp:=ar) (q:=0) (d:=53) (j:=0) kz (e:=5) (size:=1) (bytes:=1) kz (rfl) (by omega) fun rC kQ=>?_)
  refine ⟨fun _=>bq,?_⟩
  refine qaO (i:=3) kz (qbz kQ (t:=24) (A:=ap) (m:=(((([]:Bs) ++ [by8 0,by8 0,by8 0,by8 0] ++ be 2 28 ++ be 2 (IntKind.i16.wrap v) ++ be 4 num ++ be 2 (-1)) ++ qaa (IntKind.i16.wrap v) aa).length)) (cp:=ar) (q:=4) (d:=55) (j:=4) kz (e:=5) (bytes:=1) kz (rfl) (by first | omega | (simp only [List.length_append,List.length_cons,List.length_nil]; omega)) fun rD kR=>?_)
  refine ⟨fun _=>bq,?_⟩
  refine qa0 [4,5] [(1,.v (.slice ap (((([]:Bs) ++ [by8 0,by8 0,by8 0,by8 0] ++ be 2 28 ++ be 2 (IntKind.i16.wrap v) ++ be 4 num ++ be 2 (-1)) ++ qaa (IntKind.i16.wrap v) aa).length) ar)),(53,.v (.slice ap 0 ar)),(57,.v (.int .i32 (IntKind.i32.wrap (((((([]:Bs) ++ [by8 0,by8 0,by8 0,by8 0] ++ be 2 28 ++ be 2 (IntKind.i16.wrap v) ++ be 4 num ++ be 2 (-1)) ++ qaa (IntKind.i16.wrap v) aa).length) - 4:Nat):Int))))] 1 (qac qah) (fun _ h=>h.cells) bq kR fun rE kS=>?_
  refine qaO (i:=6) kz (qal kS (f:=133) (vs:=[.slice ap 0 ar,.int .i32 (IntKind.i32.wrap (((((([]:Bs) ++ [by8 0,by8 0,by8 0,by8 0] ++ be 2 28 ++ be 2 (IntKind.i16.wrap v) ++ be 4 num ++ be 2 (-1)) ++ qaa (IntKind.i16.wrap v) aa).length) - 4:Nat):Int))]) (d:=58) kz Tryz.call133 (qbP (IntKind.i32.wrap (((((([]:Bs) ++ [by8 0,by8 0,by8 0,by8 0] ++ be 2 28 ++ be 2 (IntKind.i16.wrap v) ++ be 4 num ++ be 2 (-1)) ++ qaa (IntKind.i16.wrap v) aa).length) - 4:Nat):Int)) ap ar ((([]:Bs) ++ [by8 0,by8 0,by8 0,by8 0] ++ be 2 28 ++ be 2 (IntKind.i16.wrap v) ++ be 4 num ++ be 2 (-1)) ++ qaa (IntKind.i16.wrap v) aa) _ (cu.own 0 _ rfl) (by simp only [List.length_append,List.length_cons,List.length_nil]; omega)) ?_)
  rintro e_ rF ⟨rfl,kT,dQ⟩
  refine ⟨_,rfl,fun rG kU=>?_⟩
  have aY:WOk _ _ _ _ (z15 ap ar v num aa):=cu.grow (k:=0) (r':=⟨ap,ar,5,1,((([]:Bs) ++ [by8 0,by8 0,by8 0,by8 0] ++ be 2 28 ++ be 2 (IntKind.i16.wrap v) ++ be 4 num ++ be 2 (-1)) ++ qaa (IntKind.i16.wrap v) aa).length,bc (be 4 (IntKind.i32.wrap (((((([]:Bs) ++ [by8 0,by8 0,by8 0,by8 0] ++ be 2 28 ++ be 2 (IntKind.i16.wrap v) ++ be 4 num ++ be 2 (-1)) ++ qaa (IntKind.i16.wrap v) aa).length) - 4:Nat):Int)) ++ ((([]:Bs) ++ [by8 0,by8 0,by8 0,by8 0] ++ be 2 28 ++ be 2 (IntKind.i16.wrap v) ++ be 4 num ++ be 2 (-1)) ++ qaa (IntKind.i16.wrap v) aa).drop 4)⟩) rfl dQ kT (fun g' hg'=>.inl hg')
  have kV:=Fr.grow (z2 b1 has txt ac v aa af ae) (k:=0) (rs:=[brow ap ar 5 ((([]:Bs) ++ [by8 0,by8 0,by8 0,by8 0] ++ be 2 28 ++ be 2 (IntKind.i16.wrap v) ++ be 4 num ++ be 2 (-1)) ++ qaa (IntKind.i16.wrap v) aa)]) (r':=⟨ap,ar,5,1,((([]:Bs) ++ [by8 0,by8 0,by8 0,by8 0] ++ be 2 28 ++ be 2 (IntKind.i16.wrap v) ++ be 4 num ++ be 2 (-1)) ++ qaa (IntKind.i16.wrap v) aa).length,bc (be 4 (IntKind.i32.wrap (((((([]:Bs) ++ [by8 0,by8 0,by8 0,by8 0] ++ be 2 28 ++ be 2 (IntKind.i16.wrap v) ++ be 4 num ++ be 2 (-1)) ++ qaa (IntKind.i16.wrap v) aa).length) - 4:Nat):Int)) ++ ((([]:Bs) ++ [by8 0,by8 0,by8 0,by8 0] ++ be 2 28 ++ be 2 (IntKind.i16.wrap v) ++ be 4 num ++ be 2 (-1)) ++ qaa (IntKind.i16.wrap v) aa).drop 4)⟩) rfl dQ (fun g' hg'=>.inl hg')
  have kW:=TT.ofW kV aY
  refine ⟨fun _=>kW,?_⟩
  refine qaZ kz ?_ _
  refine qab (qar [(8,.v (.slice ap (((([]:Bs) ++ [by8 0,by8 0,by8 0,by8 0] ++ be 2 28 ++ be 2 (IntKind.i16.wrap v) ++ be 4 num ++ be 2 (-1)) ++ qaa (IntKind.i16.wrap v) aa).length) ar))] aY kU fun rH kX=>?_)
  refine wp_ret (qaE kX aY.cells (v:=.slice ap (((([]:Bs) ++ [by8 0,by8 0,by8 0,by8 0] ++ be 2 28 ++ be 2 (IntKind.i16.wrap v) ++ be 4 num ++ be 2 (-1)) ++ qaa (IntKind.i16.wrap v) aa).length) ar) kz ?_)
  refine ⟨_,rfl,fun rI kY=>?_⟩
  have kZ:=(EnvOk.places (tb':=[⟨b1,0,[.bool has,.string txt],true⟩,⟨ac,0,[.int .i16 (IntKind.i16.wrap v),.string ((aa.f 0).s),.string ((aa.f 1).s),.int .i64 ((aa.f 2).n),.int .i16 ((aa.f 3).n),.int .i32 ((aa.f 4).n),.string ((aa.f 5).s),.pointer ((aa.f 6).A),.slice ((aa.f 7).A) ((aa.f 7).l) ((aa.f 7).c),.map aa.m],true⟩,⟨af,0,[.bool has,.string txt],true⟩,⟨ae,0,[.pointer none],true⟩]) kY (show Pl [⟨b1,0,[.bool has,.string txt],true⟩,⟨ac,0,[.int .i16 (IntKind.i16.wrap v),.string ((aa.f 0).s),.string ((aa.f 1).s),.int .i64 ((aa.f 2).n),.int .i16 ((aa.f 3).n),.int .i32 ((aa.f 4).n),.string ((aa.f 5).s),.pointer ((aa.f 6).A),.slice ((aa.f 7).A) ((aa.f 7).l) ((aa.f 7).c),.map aa.m],true⟩,⟨af,0,[.bool has,.string txt],true⟩,⟨ae,0,[.pointer none],true⟩] [⟨b1,0,[.bool has,.string txt],true⟩,⟨ac,0,[.int .i16 (IntKind.i16.wrap v),.string ((aa.f 0).s),.string ((aa.f 1).s),.int .i64 ((aa.f 2).n),.int .i16 ((aa.f 3).n),.int .i32 ((aa.f 4).n),.string ((aa.f 5).s),.pointer ((aa.f 6).A),.slice ((aa.f 7).A) ((aa.f 7).l) ((aa.f 7).c),.map aa.m],true⟩,⟨af,0,[.bool has,.string txt],true⟩,⟨ae,0,[.pointer none],true⟩] from ⟨rfl,rfl,⟨rfl,rfl,⟨rfl,rfl,⟨rfl,rfl,trivial⟩⟩⟩⟩)).pk (env':=[(19,.v (.slice ap (((([]:Bs) ++ [by8 0,by8 0,by8 0,by8 0] ++ be 2 28 ++ be 2 (IntKind.i16.wrap v) ++ be 4 num ++ be 2 (-1)) ++ qaa (IntKind.i16.wrap v) aa).length) ar)),(16,.p 3 0),(17,.v (.iface 59 (.pointer (some ⟨ac,0,none⟩)))),(18,.v (.int .i32 num))])
  refine qak [4] [] [(6,.v (.slice ap (((([]:Bs) ++ [by8 0,by8 0,by8 0,by8 0] ++ be 2 28 ++ be 2 (IntKind.i16.wrap v) ++ be 4 num ++ be 2 (-1)) ++ qaa (IntKind.i16.wrap v) aa).length) ar))] aY kZ fun rJ k5=>?_
  refine qaf (qab ?_)
  refine wp_ret (qaE k5 aY.cells (v:=.slice ap (((([]:Bs) ++ [by8 0,by8 0,by8 0,by8 0] ++ be 2 28 ++ be 2 (IntKind.i16.wrap v) ++ be 4 num ++ be 2 (-1)) ++ qaa (IntKind.i16.wrap v) aa).length) ar) kz ?_)
  refine ⟨_,rfl,fun rK k6=>?_⟩
  have k7:=(EnvOk.places (tb':=[⟨b1,0,[.bool has,.string txt],true⟩,⟨ac,0,[.int .i16 (IntKind.i16.wrap v),.string ((aa.f 0).s),.string ((aa.f 1).s),.int .i64 ((aa.f 2).n),.int .i16 ((aa.f 3).n),.int .i32 ((aa.f 4).n),.string ((aa.f 5).s),.pointer ((aa.f 6).A),.slice ((aa.f 7).A) ((aa.f 7).l) ((aa.f 7).c),.map aa.m],true⟩,⟨af,0,[.bool has,.string txt],true⟩,⟨ae,0,[.pointer none],true⟩]) k6 (show Pl [⟨b1,0,[.bool has,.string txt],true⟩,⟨ac,0,[.int .i16 (IntKind.i16.wrap v),.string ((aa.f 0).s),.string ((aa.f 1).s),.int .i64 ((aa.f 2).n),.int .i16 ((aa.f 3).n),.int .i32 ((aa.f 4).n),.string ((aa.f 5).s),.pointer ((aa.f 6).A),.slice ((aa.f 7).A) ((aa.f 7).l) ((aa.f 7).c),.map aa.m],true⟩] [⟨b1,0,[.bool has,.string txt],true⟩,⟨ac,0,[.int .i16 (IntKind.i16.wrap v),.string ((aa.f 0).s),.string ((aa.f 1).s),.int .i64 ((aa.f 2).n),.int .i16 ((aa.f 3).n),.int .i32 ((aa.f 4).n),.string ((aa.f 5).s),.pointer ((aa.f 6).A),.slice ((aa.f 7).A) ((aa.f 7).l) ((aa.f 7).c),.map aa.m],true⟩,⟨af,0,[.bool has,.string txt],true⟩,⟨ae,0,[.pointer none],true⟩] from ⟨rfl,rfl,⟨rfl,rfl,trivial⟩⟩)).pk (env':=[(25,.v (.slice ap (((([]:Bs) ++ [by8 0,by8 0,by8 0,by8 0] ++ be 2 28 ++ be 2 (IntKind.i16.wrap v) ++ be 4 num ++ be 2 (-1)) ++ qaa (IntKind.i16.wrap v) aa).length) ar)),(21,.v (.agg #[.bool has,.string txt])),(23,.v (.iface 59 (.pointer (some ⟨ac,0,none⟩)))),(24,.v (.int .i32 num))])
  refine qak [5,6] [] [(8,.v (.slice ap (((([]:Bs) ++ [by8 0,by8 0,by8 0,by8 0] ++ be 2 28 ++ be 2 (IntKind.i16.wrap v) ++ be 4 num ++ be 2 (-1)) ++ qaa (IntKind.i16.wrap v) aa).length) ar)),(9,.v (.bool true))] aY k7 fun rL k8=>?_
  refine qaf (qab ?_)
  refine wp_ret (qaE k8 aY.cells (v:=.tuple #[.slice ap (((([]:Bs) ++ [by8 0,by8 0,by8 0,by8 0] ++ be 2 28 ++ be 2 (IntKind.i16.wrap v) ++ be 4 num ++ be 2 (-1)) ++ qaa (IntKind.i16.wrap v) aa).length) ar,.bool true]) kz ?_)
  have k9:be 4 (IntKind.i32.wrap (((((([]:Bs) ++ [by8 0,by8 0,by8 0,by8 0] ++ be 2 28 ++ be 2 (IntKind.i16.wrap v) ++ be 4 num ++ be 2 (-1)) ++ qaa (IntKind.i16.wrap v) aa).length) - 4:Nat):Int)) ++ ((([]:Bs) ++ [by8 0,by8 0,by8 0,by8 0] ++ be 2 28 ++ be 2 (IntKind.i16.wrap v) ++ be 4 num ++ be 2 (-1)) ++ qaa (IntKind.i16.wrap v) aa).drop 4 = (qba 28 (IntKind.i16.wrap v) num has (sb txt) (decide ((IntKind.i16.wrap v) ≥ 3)) (qaa (IntKind.i16.wrap v) aa)):=qcP (R:=outB 28 (IntKind.i16.wrap v) num has (sb txt) (decide ((IntKind.i16.wrap v) ≥ 3)) (qaa (IntKind.i16.wrap v) aa)) (by simp [outB,qeq,qbX,aJ,bk])
  exact qcQ aY (k:=0) rfl (k9.trans (by rw [ba])) (by simp only [List.length_append,List.length_cons,List.length_nil]; omega)
 refine (qbz dP (t:=24) (A:=ap) (m:=(((([]:Bs) ++ [by8 0,by8 0,by8 0,by8 0] ++ be 2 28 ++ be 2 (IntKind.i16.wrap v) ++ be 4 num ++ be 2 (-1)) ++ qaa (IntKind.i16.wrap v) aa).length)) (cp:=ar) (q:=4) (d:=55) (j:=4) kz (e:=5) (bytes:=1) kz (rfl) (by first | omega | (simp only [List.length_append,List.length_cons,List.length_nil]; omega)) fun rM la=>?_)
 refine ⟨fun _=>bq,?_⟩
 refine qa0 [4,5] [(1,.v (.slice ap (((([]:Bs) ++ [by8 0,by8 0,by8 0,by8 0] ++ be 2 28 ++ be 2 (IntKind.i16.wrap v) ++ be 4 num ++ be 2 (-1)) ++ qaa (IntKind.i16.wrap v) aa).length) ar)),(52,.v (.slice ap (((([]:Bs) ++ [by8 0,by8 0,by8 0,by8 0] ++ be 2 28 ++ be 2 (IntKind.i16.wrap v) ++ be 4 num ++ be 2 (-1)) ++ qaa (IntKind.i16.wrap v) aa).length) ar)),(57,.v (.int .i32 (IntKind.i32.wrap (((((([]:Bs) ++ [by8 0,by8 0,by8 0,by8 0] ++ be 2 28 ++ be 2 (IntKind.i16.wrap v) ++ be 4 num ++ be 2 (-1)) ++ qaa (IntKind.i16.wrap v) aa).length) - 4:Nat):Int))))] 2 (qac qah) (fun _ h=>h.cells) bq la fun rN lb=>?_
 refine qaO (i:=1) kz (qbH lb (t:=24) (A:=ap) (m:=((([]:Bs) ++ [by8 0,by8 0,by8 0,by8 0] ++ be 2 28 ++ be 2 (IntKind.i16.wrap v) ++ be 4 num ++ be 2 (-1)) ++ qaa (IntKind.i16.wrap v) aa).length) (cp:=ar) (q:=0) (d:=53) (j:=0) kz (e:=5) (size:=1) (bytes:=1) kz (rfl) (by omega) fun rO lc=>?_)
 refine ⟨fun _=>bq,?_⟩
 refine qaO (i:=6) kz (qal lc (f:=133) (vs:=[.slice ap 0 ar,.int .i32 (IntKind.i32.wrap (((((([]:Bs) ++ [by8 0,by8 0,by8 0,by8 0] ++ be 2 28 ++ be 2 (IntKind.i16.wrap v) ++ be 4 num ++ be 2 (-1)) ++ qaa (IntKind.i16.wrap v) aa).length) - 4:Nat):Int))]) (d:=58) kz Tryz.call133 (qbP (IntKind.i32.wrap (((((([]:Bs) ++ [by8 0,by8 0,by8 0,by8 0] ++ be 2 28 ++ be 2 (IntKind.i16.wrap v) ++ be 4 num ++ be 2 (-1)) ++ qaa (IntKind.i16.wrap v) aa).length) - 4:Nat):Int)) ap ar ((([]:Bs) ++ [by8 0,by8 0,by8 0,by8 0] ++ be 2 28 ++ be 2 (IntKind.i16.wrap v) ++ be 4 num ++ be 2 (-1)) ++ qaa (IntKind.i16.wrap v) aa) _ (cu.own 0 _ rfl) (by simp only [List.length_append,List.length_cons,List.length_nil]; omega)) ?_)
 rintro e_ rP ⟨rfl,ld,dR⟩
 refine ⟨_,rfl,fun rQ lf=>?_⟩
 have aZ:WOk _ _ _ _ (z15 ap ar v num aa):=cu.grow (k:=0) (r':=⟨ap,ar,5,1,((([]:Bs) ++ [by8 0,by8 0,by8 0,by8 0] ++ be 2 28 ++ be 2 (IntKind.i16.wrap v) ++ be 4 num ++ be 2 (-1)) ++ qaa (IntKind.i16.wrap v) aa).length,bc (be 4 (IntKind.i32.wrap (((((([]:Bs) ++ [by8 0,by8 0,by8 0,by8 0] ++ be 2 28 ++ be 2 (IntKind.i16.wrap v) ++ be 4 num ++ be 2 (-1)) ++ qaa (IntKind.i16.wrap v) aa).length) - 4:Nat):Int)) ++ ((([]:Bs) ++ [by8 0,by8 0,by8 0,by8 0] ++ be 2 28 ++ be 2 (IntKind.i16.wrap v) ++ be 4 num ++ be 2 (-1)) ++ qaa (IntKind.i16.wrap v) aa).drop 4)⟩) rfl dR ld (fun g' hg'=>.inl hg')
 have lg:=Fr.grow (z2 b1 has txt ac v aa af ae) (k:=0) (rs:=[brow ap ar 5 ((([]:Bs) ++ [by8 0,by8 0,by8 0,by8 0] ++ be 2 28 ++ be 2 (IntKind.i16.wrap v) ++ be 4 num ++ be 2 (-1)) ++ qaa (IntKind.i16.wrap v) aa)]) (r':=⟨ap,ar,5,1,((([]:Bs) ++ [by8 0,by8 0,by8 0,by8 0] ++ be 2 28 ++ be 2 (IntKind.i16.wrap v) ++ be 4 num ++ be 2 (-1)) ++ qaa (IntKind.i16.wrap v) aa).length,bc (be 4 (IntKind.i32.wrap (((((([]:Bs) ++ [by8 0,by8 0,by8 0,by8 0] ++ be 2 28 ++ be 2 (IntKind.i16.wrap v) ++ be 4 num ++ be 2 (-1)) ++ qaa (IntKind.i16.wrap v) aa).length) - 4:Nat):Int)) ++ ((([]:Bs) ++ [by8 0,by8 0,by8 0,by8 0] ++ be 2 28 ++ be 2 (IntKind.i16.wrap v) ++ be 4 num ++ be 2 (-1)) ++ qaa (IntKind.i16.wrap v) aa).drop 4)⟩) rfl dR (fun g' hg'=>.inl hg')
 have lh:=TT.ofW lg aZ
 refine ⟨fun _=>lh,?_⟩
 refine qaZ kz ?_ _
 refine qab (qar [(8,.v (.slice ap (((([]:Bs) ++ [by8 0,by8 0,by8 0,by8 0] ++ be 2 28 ++ be 2 (IntKind.i16.wrap v) ++ be 4 num ++ be 2 (-1)) ++ qaa (IntKind.i16.wrap v) aa).length) ar))] aZ lf fun rR li=>?_)
 refine wp_ret (qaE li aZ.cells (v:=.slice ap (((([]:Bs) ++ [by8 0,by8 0,by8 0,by8 0] ++ be 2 28 ++ be 2 (IntKind.i16.wrap v) ++ be 4 num ++ be 2 (-1)) ++ qaa (IntKind.i16.wrap v) aa).length) ar) kz ?_)
 refine ⟨_,rfl,fun rS lj=>?_⟩
 have lm:=(EnvOk.places (tb':=[⟨b1,0,[.bool has,.string txt],true⟩,⟨ac,0,[.int .i16 (IntKind.i16.wrap v),.string ((aa.f 0).s),.string ((aa.f 1).s),.int .i64 ((aa.f 2).n),.int .i16 ((aa.f 3).n),.int .i32 ((aa.f 4).n),.string ((aa.f 5).s),.pointer ((aa.f 6).A),.slice ((aa.f 7).A) ((aa.f 7).l) ((aa.f 7).c),.map aa.m],true⟩,⟨af,0,[.bool has,.string txt],true⟩,⟨ae,0,[.pointer none],true⟩]) lj (show Pl [⟨b1,0,[.bool has,.string txt],true⟩,⟨ac,0,[.int .i16 (IntKind.i16.wrap v),.string ((aa.f 0).s),.string ((aa.f 1).s),.int .i64 ((aa.f 2).n),.int .i16 ((aa.f 3).n),.int .i32 ((aa.f 4).n),.string ((aa.f 5).s),.pointer ((aa.f 6).A),.slice ((aa.f 7).A) ((aa.f 7).l) ((aa.f 7).c),.map aa.m],true⟩,⟨af,0,[.bool has,.string txt],true⟩,⟨ae,0,[.pointer none],true⟩] [⟨b1,0,[.bool has,.string txt],true⟩,⟨ac,0,[.int .i16 (IntKind.i16.wrap v),.string ((aa.f 0).s),.string ((aa.f 1).s),.int .i64 ((aa.f 2).n),.int .i16 ((aa.f 3).n),.int .i32 ((aa.f 4).n),.string ((aa.f 5).s),.pointer ((aa.f 6).A),.slice ((aa.f 7).A) ((aa.f 7).l) ((aa.f 7).c),.map aa.m],true⟩,⟨af,0,[.bool has,.string txt],true⟩,⟨ae,0,[.pointer none],true⟩] from ⟨rfl,rfl,⟨rfl,rfl,⟨rfl,rfl,⟨rfl,rfl,trivial⟩⟩⟩⟩)).pk (env':=[(19,.v (.slice ap (((([]:Bs) ++ [by8 0,by8 0,by8 0,by8 0] ++ be 2 28 ++ be 2 (IntKind.i16.wrap v) ++ be 4 num ++ be 2 (-1)) ++ qaa (IntKind.i16.wrap v) aa).length) ar)),(16,.p 3 0),(17,.v (.iface 59 (.pointer (some ⟨ac,0,none⟩)))),(18,.v (.int .i32 num))])
 refine qak [4] [] [(6,.v (.slice ap (((([]:Bs) ++ [by8 0,by8 0,by8 0,by8 0] ++ be 2 28 ++ be 2 (IntKind.i16.wrap v) ++ be 4 num ++ be 2 (-1)) ++ qaa (IntKind.i16.wrap v) aa).length) ar))] aZ lm fun rT ln=>?_
 refine qaf (qab ?_)
 refine wp_ret (qaE ln aZ.cells (v:=.slice ap (((([]:Bs) ++ [by8 0,by8 0,by8 0,by8 0] ++ be 2 28 ++ be 2 (IntKind.i16.wrap v) ++ be 4 num ++ be 2 (-1)) ++ qaa (IntKind.i16.wrap v) aa).length) ar) kz ?_)
 refine ⟨_,rfl,fun rU lp=>?_⟩
 have lq:=(EnvOk.places (tb':=[⟨b1,0,[.bool has,.string txt],true⟩,⟨ac,0,[.int .i16 (IntKind.i16.wrap v),.string ((aa.f 0).s),.string ((aa.f 1).s),.int .i64 ((aa.f 2).n),.int .i16 ((aa.f 3).n),.int .i32 ((aa.f 4).n),.string ((aa.f 5).s),.pointer ((aa.f 6).A),.slice ((aa.f 7).A) ((aa.f 7).l) ((aa.f 7).c),.map aa.m],true⟩,⟨af,0,[.bool has,.string txt],true⟩,⟨ae,0,[.pointer none],true⟩]) lp (show Pl [⟨b1,0,[.bool has,.string txt],true⟩,⟨ac,0,[.int .i16 (IntKind.i16.wrap v),.string ((aa.f 0).s),.string ((aa.f 1).s),.int .i64 ((aa.f 2).n),.int .i16 ((aa.f 3).n),.int .i32 ((aa.f 4).n),.string ((aa.f 5).s),.pointer ((aa.f 6).A),.slice ((aa.f 7).A) ((aa.f 7).l) ((aa.f 7).c),.map aa.m],true⟩] [⟨b1,0,[.bool has,.string txt],true⟩,⟨ac,0,[.int .i16 (IntKind.i16.wrap v),.string ((aa.f 0).s),.string ((aa.f 1).s),.int .i64 ((aa.f 2).n),.int .i16 ((aa.f 3).n),.int .i32 ((aa.f 4).n),.string ((aa.f 5).s),.pointer ((aa.f 6).A),.slice ((aa.f 7).A) ((aa.f 7).l) ((aa.f 7).c),.map aa.m],true⟩,⟨af,0,[.bool has,.string txt],true⟩,⟨ae,0,[.pointer none],true⟩] from ⟨rfl,rfl,⟨rfl,rfl,trivial⟩⟩)).pk (env':=[(25,.v (.slice ap (((([]:Bs) ++ [by8 0,by8 0,by8 0,by8 0] ++ be 2 28 ++ be 2 (IntKind.i16.wrap v) ++ be 4 num ++ be 2 (-1)) ++ qaa (IntKind.i16.wrap v) aa).length) ar)),(21,.v (.agg #[.bool has,.string txt])),(23,.v (.iface 59 (.pointer (some ⟨ac,0,none⟩)))),(24,.v (.int .i32 num))])
 refine qak [5,6] [] [(8,.v (.slice ap (((([]:Bs) ++ [by8 0,by8 0,by8 0,by8 0] ++ be 2 28 ++ be 2 (IntKind.i16.wrap v) ++ be 4 num ++ be 2 (-1)) ++ qaa (IntKind.i16.wrap v) aa).length) ar)),(9,.v (.bool true))] aZ lq fun rV lr=>?_
 refine qaf (qab ?_)
 refine wp_ret (qaE lr aZ.cells (v:=.tuple #[.slice ap (((([]:Bs) ++ [by8 0,by8 0,by8 0,by8 0] ++ be 2 28 ++ be 2 (IntKind.i16.wrap v) ++ be 4 num ++ be 2 (-1)) ++ qaa (IntKind.i16.wrap v) aa).length) ar,.bool true]) kz ?_)
 have ls:be 4 (IntKind.i32.wrap (((((([]:Bs) ++ [by8 0,by8 0,by8 0,by8 0] ++ be 2 28 ++ be 2 (IntKind.i16.wrap v) ++ be 4 num ++ be 2 (-1)) ++ qaa (IntKind.i16.wrap v) aa).length) - 4:Nat):Int)) ++ ((([]:Bs) ++ [by8 0,by8 0,by8 0,by8 0] ++ be 2 28 ++ be 2 (IntKind.i16.wrap v) ++ be 4 num ++ be 2 (-1)) ++ qaa (IntKind.i16.wrap v) aa).drop 4 = (qba 28 (IntKind.i16.wrap v) num has (sb txt) (decide ((IntKind.i16.wrap v) ≥ 3)) (qaa (IntKind.i16.wrap v) aa)):=qcP (R:=outB 28 (IntKind.i16.wrap v) num has (sb txt) (decide ((IntKind.i16.wrap v) ≥ 3)) (qaa (IntKind.i16.wrap v) aa)) (by simp [outB,qeq,qbX,aJ,bk])
 exact qcQ aZ (k:=0) rfl (ls.trans (by rw [ba])) (by simp only [List.length_append,List.length_cons,List.length_nil]; omega)
theorem qdi (has:Bool) (txt:ByteArray) (num v:Int) (T:Tree) (B:Bs) {A2:Option Addr} {c2:Nat} {w:World} {F:Nat → Nat → Prop} (hB:qaj (IntKind.i16.wrap v) T = B) (hs_:Octs w F A2 c2 B) (hc:qa5 T) (hkey:T.ranged) (htx:txt.size ≤ 32767) (hroom:txt.size + B.length + 64 ≤ 1099511627776) :
  Calls Tryz.prog 22 #[.agg #[.bool has,.string txt],.int .i32 num,.int .i64 v,.slice A2 B.length c2] w (fun e w'=>∃ A c,e = .returned (.tuple #[.slice A (qba 28 (IntKind.i16.wrap v) num has (sb txt) (decide ((IntKind.i16.wrap v) ≥ 3)) B).length c,.bool true]) ∧ w'.ownsRow w.heap.size 5 1 (.slice A (qba 28 (IntKind.i16.wrap v) num has (sb txt) (decide ((IntKind.i16.wrap v) ≥ 3)) B).length c) (qba 28 (IntKind.i16.wrap v) num has (sb txt) (decide ((IntKind.i16.wrap v) ≥ 3)) B).length (bc (qba 28 (IntKind.i16.wrap v) num has (sb txt) (decide ((IntKind.i16.wrap v) ≥ 3)) B)) ∧ Step w w' Nil):=by
 subst hB
 exact qds has txt num v T hs_ hc hkey htx hroom
end Go.Proofs.YtogokkkdfcgncaaGreatDoor.ME
namespace Go.Proofs.YtogokkkdfcgncaaGreatDoor.ME
open Go
open Go.RowKit
set_option linter.unusedVariables false
set_option linter.unusedSimpArgs false
set_option maxRecDepth 20000
section
variable {P:Program} {ops:Array Oper} {Q:Exit → Act → World → Prop} {n:Nat} {tb:Tb} {env:Env} {rs:List Rw} {w0:World} {M:Nat → Nat → Prop} {a:Act} {w:World}
theorem qga {i d:Nat} {src dst e:TypeId} {s:ByteArray} {N:Act → World → Prop} (hW:WOk w0 M w tb rs) (hE:EnvOk n tb env a) (hsm:s.size ≤ 1099511627776)
  (K:∀ b c a' w',Fr w tb rs w' tb rs → WOk w0 M w' tb rs → (∀ G,Octs w' (Imm G w0 w' tb rs) (some ⟨b,0,none⟩) c (sb s)) → EnvOk n tb ((d,.v (.slice (some ⟨b,0,none⟩) (sb s).length c)) :: env) a' → N a' w')
  (h:qkO tb env ops n i = some (src,dst,.string s,d):=by kernel_rfl) (hs:P.underlying src = some .string:=by kernel_rfl) (hd:P.underlying dst = some (.slice e):=by kernel_rfl) (he:P.underlying e = some (.int .u8):=by kernel_rfl):wpOp P ops Q i N a w:=by
 unfold qkO at h
 split at h
 ·rename_i src' dst' x d' hop
  split at h
  ·rename_i v hx
   simp only [Option.some.injEq,Prod.mk.injEq] at h
   obtain ⟨rfl,rfl,rfl,rfl⟩:=h
   have hdn:=(qbl hE hop).choose_spec.2.2.2.1
   have hrun:=Lib.run_convert_string_bytes (P:=P) w src' dst' e s hs hd he
   have hst:Step w (Lib.bytesWorld w e s) Nil:=⟨rfl,rfl,by rw [Lib.bytesWorld_size]; omega,fun b hb=>by rw [Lib.bytesWorld_at_old w e s b hb]; exact Keeps.refl _ _⟩
   have hlen:(sb s).length = s.size:=qeN s
   have e1:=(qaU hE hx).1
   refine qa1 hE hop (v:=.slice (some ⟨w.heap.size,0,none⟩) (sb s).length (grownCap w s.size 0 e)) (w':=Lib.bytesWorld w e s) (fun o' ho'=>?_) (K w.heap.size _ _ _ (Fr.nil tb rs hst) (hW.next_nil hst) (fun G=>?_) (hE.put hdn (.v _) trivial))
   ·unfold execOp
    rw [ho']
    simp only [SV.val] at e1
    simp only [e1,Sem.run_bind,hrun,Result.andThen_ok,Sem.run_pure,hlen]
   refine ⟨by rw [hlen]; exact grownCap_ge w s.size 0 e,by rw [hlen]; exact hsm,fun h=>(by cases h),fun ad hA _=>?_⟩
   obtain rfl:=Option.some.inj hA
   refine ⟨w.heap.size,0,rfl,fun q hq=>⟨rfl,fun j v hj=>?_⟩⟩
   have hj0:j = 0:=by
    cases j with
    | zero=>rfl
    | succ j=>simp at hj
   subst hj0
   simp only [List.getElem?_cons_zero,Option.some.injEq] at hj
   subst hj
   have h2:(Lib.bytesWorld w e s).heap.size = w.heap.size + 1:=Lib.bytesWorld_size w e s
   refine ⟨⟨.inr hW.step.size,by rw [h2]; exact Nat.lt_succ_self _,fun ha=>?_⟩,?_⟩
   ·have:=hW.act_live ha
    exact absurd this (Nat.lt_irrefl _)
   rw [Nat.zero_add,Nat.mul_one,Nat.add_zero,Lib.bytesWorld_cell w e s q (by rw [← hlen]; exact hq)]
   rfl
  cases h
 cases h
end
theorem qdG (w:World):Calls Tryz.prog 20 #[] w (qcF w (.int .i64 6)):=by
 refine enter (n:=4) Tryz.func20 rfl Tryz.ntmps20 kz fun a hE=>?_
 have hW:=WOk.start w Nil
 refine qar [] hW hE fun a1 hE2=>?_
 refine qae [0,1,2,3] kz ?_
 refine qam (qa9 hE2 (f:=47) (vs:=[]) (d:=1) (n':=3) kz Tryz.call47 Tryz.func47 rfl Tryz.ntmps47 kz fun a3 hE4=>?_)
 refine qar [] hW hE4 fun a5 hE6=>?_
 refine qae [0] kz ?_
 refine qam (qbc hW hE6 (d:=1) (cs:=z25) kz fun b7 a8 w9 aA aB aC ab ac=>?_)
 refine qaf (qab ?_)
 refine qae [0] kz ?_
 refine qam (qa9 ac (f:=92) (vs:=[.pointer (some ⟨b7,0,none⟩)]) (d:=2) (n':=5) kz Tryz.call92 Tryz.func92 rfl Tryz.ntmps92 kz fun aE ae=>?_)
 have af:=ae.recast 0 (.v (.pointer (some ⟨b7,0,none⟩))) (.p 0 0) rfl rfl (Nat.le_of_ble_eq_true (n:=1) rfl)
 refine qas [0,1,2,3] kz ?_
 refine qak [0,1,2] [3] [(4,.p 0 5)] ab af fun aF ag=>?_
 refine qam (qaM ab ag (oi:=0) (cs:=z24) kz fun aG aD aa ah=>?_)
 refine qaf (qcr ah aa.cells (v:=.tuple #[]) kz ?_)
 refine ⟨_,rfl,fun aH ai=>?_⟩
 have aj:=(EnvOk.places (tb':=[⟨b7,0,[.int .i16 0,.string ByteArray.empty,.string ByteArray.empty,.int .i64 0,.int .i16 0,.int .i32 (-1),.string ByteArray.empty,.pointer none,.slice none 0 0,.map none],true⟩]) ai (show Pl [⟨b7,0,[.int .i16 0,.string ByteArray.empty,.string ByteArray.empty,.int .i64 0,.int .i16 0,.int .i32 0,.string ByteArray.empty,.pointer none,.slice none 0 0,.map none],true⟩] [⟨b7,0,[.int .i16 0,.string ByteArray.empty,.string ByteArray.empty,.int .i64 0,.int .i16 0,.int .i32 (-1),.string ByteArray.empty,.pointer none,.slice none 0 0,.map none],true⟩] from ⟨rfl,rfl,trivial⟩)).pk (env':=[(2,.v (.tuple #[])),(1,.p 0 0)])
 refine qaf (qab ?_)
 refine qar [(0,.p 0 0)] aa aj fun aI ak=>?_
 refine wp_ret (qaE ak aa.cells (v:=.pointer (some ⟨b7,0,none⟩)) kz ?_)
 refine ⟨_,rfl,fun aJ al=>?_⟩
 have am:=(EnvOk.places (tb':=[⟨b7,0,[.int .i16 0,.string ByteArray.empty,.string ByteArray.empty,.int .i64 0,.int .i16 0,.int .i32 (-1),.string ByteArray.empty,.pointer none,.slice none 0 0,.map none],true⟩]) al (show Pl [] [⟨b7,0,[.int .i16 0,.string ByteArray.empty,.string ByteArray.empty,.int .i64 0,.int .i16 0,.int .i32 (-1),.string ByteArray.empty,.pointer none,.slice none 0 0,.map none],true⟩] from trivial)).pk (env':=[(1,.v (.pointer (some ⟨b7,0,none⟩)))])
 have ao:=am.recast 1 (.v (.pointer (some ⟨b7,0,none⟩))) (.p 0 0) rfl rfl (Nat.le_of_ble_eq_true (n:=1) rfl)
 have ap:=ao.pick (ks:=[1]) (env':=[(1,.p 0 0)]) kz
 refine qam (qa9 ap (f:=48) (vs:=[.pointer (some ⟨b7,0,none⟩)]) (d:=2) (n':=3) kz Tryz.call48 Tryz.func48 rfl Tryz.ntmps48 kz fun aK ar=>?_)
 have au:=ar.recast 0 (.v (.pointer (some ⟨b7,0,none⟩))) (.p 0 0) rfl rfl (Nat.le_of_ble_eq_true (n:=1) rfl)
 refine qar [] aa au fun aL av=>?_
 refine qar [(2,.v (.int .i16 6))] aa av fun aM aw=>?_
 refine wp_ret (qaE aw aa.cells (v:=.int .i16 6) kz ?_)
 refine ⟨_,rfl,fun aN ax=>?_⟩
 have ay:=(EnvOk.places (tb':=[⟨b7,0,[.int .i16 0,.string ByteArray.empty,.string ByteArray.empty,.int .i64 0,.int .i16 0,.int .i32 (-1),.string ByteArray.empty,.pointer none,.slice none 0 0,.map none],true⟩]) ax (show Pl [⟨b7,0,[.int .i16 0,.string ByteArray.empty,.string ByteArray.empty,.int .i64 0,.int .i16 0,.int .i32 (-1),.string ByteArray.empty,.pointer none,.slice none 0 0,.map none],true⟩] [⟨b7,0,[.int .i16 0,.string ByteArray.empty,.string ByteArray.empty,.int .i64 0,.int .i16 0,.int .i32 (-1),.string ByteArray.empty,.pointer none,.slice none 0 0,.map none],true⟩] from ⟨rfl,rfl,trivial⟩)).pk (env':=[(2,.v (.int .i16 6)),(1,.p 0 0)])
 refine qak [2,3] [] [(0,.v (.int .i64 6))] aa ay fun aO az=>?_
 refine qaf (qab ?_)
 refine wp_ret (qaE az aa.cells (v:=.int .i64 6) kz ?_)
 exact ⟨rfl,aa.step⟩
theorem qcU:depths sTxnOffsetCommitRequestF ≤ 8:=by simp [sTxnOffsetCommitRequestF,Fld.depth.depths,Fld.depth]
theorem qcz (A:Option Addr) (c:Nat) (v:Int) (w:World):Calls Tryz.prog 19 #[.agg #[.slice A sTxnOffsetCommitRequestF.length c,.int .i64 qag],.int .i64 v] w (qcF w (.bool (decide (v ≥ qag)))):=by
 refine enter (n:=14) Tryz.func19 rfl Tryz.ntmps19 kz fun a hE=>?_
 have hW:=WOk.start w Nil
 refine qae [0,1] kz ?_
 refine qam (qbk hW hE (d:=2) (cs:=[.slice A sTxnOffsetCommitRequestF.length c,.int .i64 qag]) kz fun b1 a2 w3 hb4 hz5 hF6 hW7 hE8=>?_)
 refine qak [1] [] [(1,.v (.int .i64 v)),(2,.p 0 0)] hW7 hE8 fun a9 aa=>?_
 refine qaf (qab ?_)
 refine qae [0,1,2,3,4,5,6,7,8,9] kz ?_
 refine qak [0,1,2,3] [4,5,6,7,8,9] [(1,.v (.int .i64 v)),(2,.p 0 0),(8,.v (.bool (decide (qag ≥ 0))))] hW7 aa fun ag ab=>?_
 have ac:(decide (qag ≥ 0)) = true:=by decide
 have ae:=ab
 rw [ac] at ae
 refine qak [4,5,6,7,8,9] [] [(4,.v (.bool (decide (v ≥ qag))))] hW7 ae fun ah af=>?_
 refine qaf (qab ?_)
 refine wp_ret (qaE af hW7.cells (v:=.bool (decide (v ≥ qag))) kz ?_)
 exact ⟨rfl,hW7.step⟩
set_option maxHeartbeats 4000000 in
theorem qdj (x:Int) (hx:0 ≤ x) (hx':x < 256) (has:Bool) (txt:ByteArray) (htl:txt.size ≤ 1048576) (num:Int) (ct:List Value) (t:Tree) (w:World) (F:Nat → Nat → Prop) (ht:TreeR w F ct t) (hroom1:(qbf 8 sTxnOffsetCommitRequestF qag (Int.tmod x (6 + 1)) t).length + 1048700 ≤ 1099511627776) (hcan:qa5 (fitT (Int.tmod x (6 + 1)) 8 sTxnOffsetCommitRequestF t)) (hkey:Tree.ranged (fitT (Int.tmod x (6 + 1)) 8 sTxnOffsetCommitRequestF t)) (hfr:(qba 28 (IntKind.i16.wrap (Int.tmod x (6 + 1))) num has (sb txt) (decide ((IntKind.i16.wrap (Int.tmod x (6 + 1))) ≥ 3)) (qbf 8 sTxnOffsetCommitRequestF qag (Int.tmod x (6 + 1)) t)) = (qba 28 (Int.tmod x (6 + 1)) num has (sb txt) (decide ((Int.tmod x (6 + 1)) ≥ qag)) (qbf 8 sTxnOffsetCommitRequestF qag (Int.tmod x (6 + 1)) t))) (hpure:qaj (IntKind.i16.wrap (Int.tmod x (6 + 1))) (fitT (Int.tmod x (6 + 1)) 8 sTxnOffsetCommitRequestF t) = qbf 8 sTxnOffsetCommitRequestF qag (Int.tmod x (6 + 1)) t) :
  Calls Tryz.prog 4 #[.int .u8 x,.agg #[.bool has,.string txt],.int .i32 num,.agg ct.toArray] w (qcF w (.bool true)):=by
 obtain ⟨n1,s2,b3,l4,u5,A6,c7,A8,c9,aX,aY,db,rfl,rfl,dc,de,ef,eg⟩:=ht.open_
 have cU:=dc.small
 have cV:=de.small
 refine enter (n:=63) Tryz.func4 rfl Tryz.ntmps4 kz fun a hE=>?_
 have hW:=WOk.start w Nil
 refine qae [0,1,2] kz ?_
 refine qam (qbk hW hE (d:=5) (cs:=[.bool has,.string txt]) kz fun df eh ei dg dh di cu cv=>?_)
 refine qam (qbk cu cv (d:=7) (cs:=(z9 n1 A6 s2.length c7 b3 A8 l4.length c9 aX u5.length aY)) kz fun dj ej ek dl dp dq aD cw=>?_)
 refine qak [2] [] [(0,.v (.int .u8 x)),(2,.v (.int .i32 num)),(5,.p 0 0),(7,.p 1 0)] aD cw fun em cz=>?_
 refine qaf (qab ?_)
 refine wp_seq (qae [0,1,2,3,4,5,6,7] kz ?_)
 refine qak [0] [1,2,3,4,5,6,7] [(0,.v (.int .u8 x)),(2,.v (.int .i32 num)),(5,.p 0 0),(7,.p 1 0),(15,.v (.agg #[.bool has,.string txt]))] aD cz fun eo cA=>?_
 refine qam (qal cA (f:=10) (vs:=[.agg #[.bool has,.string txt]]) (d:=16) kz Tryz.call10 (qmy _ _ htl _) ?_)
 rintro e_ ep ⟨rfl,aZ⟩
 refine ⟨_,rfl,fun eu cB=>?_⟩
 have ap:=aD.next_nil aZ
 have dr:=aD.frN aZ
 refine qak [2,3,4] [5,6,7] [(0,.v (.int .u8 x)),(2,.v (.int .i32 num)),(5,.p 0 0),(7,.p 1 0),(18,.v (.bool false)),(19,.v (.agg #[.int .i64 n1,.slice A6 s2.length c7,.bool b3,.slice A8 l4.length c9,.slice aX u5.length aY]))] ap cB fun ev cC=>?_
 refine qam (qal cC (f:=11) (vs:=[.agg #[.int .i64 n1,.slice A6 s2.length c7,.bool b3,.slice A8 l4.length c9,.slice aX u5.length aY]]) (d:=20) kz Tryz.call11 (qmx _ _ _ _ (ht.move ap.step nilM ap.imm)) ?_)
 rintro e_ ew ⟨cW,rfl,ba⟩
 refine ⟨_,rfl,fun ey cD=>?_⟩
 have ao:=ap.next_nil ba
 have dt:=ap.frN ba
 refine qak [6,7] [] [(0,.v (.int .u8 x)),(2,.v (.int .i32 num)),(5,.p 0 0),(7,.p 1 0),(22,.v (.bool (!cW)))] ao cD fun ez aS=>?_
 refine qaf (qab ?_)
 refine qay aS (b:=!cW) kz (fun cE=>?_) (fun cE=>?_)
 ·
  refine qar [(8,.v (.bool true))] ao aS fun eB cG=>?_
  refine wp_ret (qaD (qaE cG ao.cells (v:=.bool true) kz ?_))
  exact ⟨rfl,ao.step⟩
 refine wp_skip (qab (qae [0,1] kz ?_))
 refine qam (qal aS (f:=20) (vs:=[]) (d:=23) kz Tryz.call20 (qdG _) ?_)
 rintro e_ du ⟨rfl,bd⟩
 refine ⟨_,rfl,fun eC cH=>?_⟩
 have ar:=ao.next_nil bd
 have dv:=ao.frN bd
 refine qak [1] [] [(0,.v (.int .u8 x)),(2,.v (.int .i32 num)),(5,.p 0 0),(7,.p 1 0),(9,.v (.int .i64 6))] ar cH fun eD cI=>?_
 refine qaf (qab ?_)
 refine wp_seq (qar [(0,.v (.int .u8 x)),(2,.v (.int .i32 num)),(5,.p 0 0),(7,.p 1 0),(9,.v (.int .i64 6)),(25,.v (.bool false))] ar cI fun eE bf=>?_)
 refine qau bf (b:=false) kz rfl ?_
 refine wp_skip (qab (qae [0,1,2,3,4,5,6] kz ?_))
 refine qam (qal bf (f:=21) (vs:=[]) (d:=26) kz Tryz.call21 (qdC _ (Imm F w du [⟨df,0,[.bool has,.string txt],true⟩,⟨dj,0,(z9 n1 A6 s2.length c7 b3 A8 l4.length c9 aX u5.length aY),true⟩] [])) ?_)
 rintro e_ eF ⟨aT,aU,rfl,cJ,aV⟩
 obtain ⟨cK,dw,dx⟩:=cJ.move (Step.refl _ Nil) nilM (ar.laid (G:=F) aV)
 refine ⟨_,rfl,fun eG cL=>?_⟩
 have aW:=ar.next_nil aV
 have dy:=ar.frN aV
 refine qak [1,2] [3,4,5,6] [(2,.v (.int .i32 num)),(5,.p 0 0),(7,.p 1 0),(26,.v (.agg #[.slice aT sTxnOffsetCommitRequestF.length aU,.int .i64 qag])),(27,.v (.int .u8 x)),(28,.v (.int .i64 6))] aW cL fun eH cM=>?_
 refine qam (qal cM (f:=14) (vs:=[.int .u8 x,.int .i64 6]) (d:=29) kz Tryz.call14 (qkV x 6 hx hx' (by decide) (by decide) _) ?_)
 rintro e_ eI ⟨rfl,bg⟩
 refine ⟨_,rfl,fun eJ cN=>?_⟩
 have cO:=aW.next_nil bg
 have aE:=aW.frN bg
 refine qam (qbc cO cN (d:=10) (cs:=[.slice none 0 0,.int .i64 0]) kz fun eK eL eM dz dA aF cP bh=>?_)
 refine qam (qaM cP bh (oi:=2) (cs:=[.slice aT sTxnOffsetCommitRequestF.length aU,.int .i64 qag]) kz fun dB ah aa bi=>?_)
 refine qak [6] [] [(2,.v (.int .i32 num)),(5,.p 0 0),(7,.p 1 0),(10,.p 2 0),(11,.v (.int .i64 (Int.tmod x (6 + 1))))] aa bi fun dC bj=>?_
 refine qaf (qab ?_)
 refine wp_seq (qar [(2,.v (.int .i32 num)),(5,.p 0 0),(7,.p 1 0),(10,.p 2 0),(11,.v (.int .i64 (Int.tmod x (6 + 1)))),(33,.v (.bool (decide ((txt.size:Int) > 32767))))] aa bj fun dD au=>?_)
 refine qay au (b:=decide ((txt.size:Int) > 32767)) kz (fun av=>?_) (fun av=>?_)
 ·
  have cX:=of_decide_eq_true av
  refine qar [(8,.v (.bool true))] aa au fun dE bk=>?_
  refine wp_ret (qaD (qaE bk aa.cells (v:=.bool true) kz ?_))
  exact ⟨rfl,aa.step⟩
 have cY:=of_decide_eq_false av
 refine wp_skip (qab (qae [0,1,2,3,4] kz ?_))
 refine qak [0,1,2] [3,4] [(2,.v (.int .i32 num)),(5,.p 0 0),(10,.p 2 0),(11,.v (.int .i64 (Int.tmod x (6 + 1)))),(34,.v (.agg #[.slice aT sTxnOffsetCommitRequestF.length aU,.int .i64 qag])),(35,.v (.int .i64 (Int.tmod x (6 + 1)))),(36,.v (.agg #[.int .i64 n1,.slice A6 s2.length c7,.bool b3,.slice A8 l4.length c9,.slice aX u5.length aY]))] aa au fun dF bn=>?_
 refine qam (qal bn (f:=15) (vs:=[.agg #[.slice aT sTxnOffsetCommitRequestF.length aU,.int .i64 qag],.int .i64 (Int.tmod x (6 + 1)),.agg #[.int .i64 n1,.slice A6 s2.length c7,.bool b3,.slice A8 l4.length c9,.slice aX u5.length aY]]) (d:=37) kz Tryz.call15 (qmj _ _ sTxnOffsetCommitRequestF qag (Int.tmod x (6 + 1)) _ (Tree.mk n1 s2 b3 l4 u5) _ _ ⟨cK,(dw.move ((aE.trans aF).trans ah).step immM ((aE.trans aF).trans ah).to'),(fun i_ x_ h_=>((dx i_ x_ h_).move ((aE.trans aF).trans ah).step immM ((aE.trans aF).trans ah).to'))⟩ qcU (ht.move aa.step nilM aa.imm) (Nat.le_trans (Nat.le_add_right _ _) hroom1)) ?_)
 rintro e_ dG ⟨ab,ac,rfl,bo,bp⟩
 refine ⟨_,rfl,fun dH bq=>?_⟩
 obtain ⟨ai,cZ⟩:=aa.frFresh bp (brow ab ac 5 (qbf 8 sTxnOffsetCommitRequestF qag (Int.tmod x (6 + 1)) (Tree.mk n1 s2 b3 l4 u5))) (Nat.le_refl _) bo
 refine qak [4] [] [(2,.v (.int .i32 num)),(5,.p 0 0),(10,.p 2 0),(11,.v (.int .i64 (Int.tmod x (6 + 1)))),(12,.v (.slice ab ((qbf 8 sTxnOffsetCommitRequestF qag (Int.tmod x (6 + 1)) (Tree.mk n1 s2 b3 l4 u5)).length) ac))] ai bq fun dI bt=>?_
 refine qaf (qab ?_)
 refine qae [0,1,2,3,4,5,6,7,8,9] kz ?_
 refine qak [0,1,2,3] [4,5,6,7,8,9] [(2,.v (.int .i32 num)),(5,.p 0 0),(10,.p 2 0),(11,.v (.int .i64 (Int.tmod x (6 + 1)))),(12,.v (.slice ab ((qbf 8 sTxnOffsetCommitRequestF qag (Int.tmod x (6 + 1)) (Tree.mk n1 s2 b3 l4 u5)).length) ac)),(39,.v (.agg #[.bool has,.string txt])),(40,.v (.int .i32 num)),(41,.v (.int .i64 (Int.tmod x (6 + 1)))),(42,.v (.slice ab ((qbf 8 sTxnOffsetCommitRequestF qag (Int.tmod x (6 + 1)) (Tree.mk n1 s2 b3 l4 u5)).length) ac))] ai bt fun dJ bu=>?_
 refine qam (qal bu (f:=22) (vs:=[.agg #[.bool has,.string txt],.int .i32 num,.int .i64 (Int.tmod x (6 + 1)),.slice ab ((qbf 8 sTxnOffsetCommitRequestF qag (Int.tmod x (6 + 1)) (Tree.mk n1 s2 b3 l4 u5)).length) ac]) (d:=43) kz Tryz.call22 (qdi has txt num (Int.tmod x (6 + 1)) _ (qbf 8 sTxnOffsetCommitRequestF qag (Int.tmod x (6 + 1)) (Tree.mk n1 s2 b3 l4 u5)) hpure (qcK (ai.own 0 _ rfl) (by first | omega | (rw [qbv]; decide) | (simp only [be_length]; exact Nat.le_trans (qbb _) (by decide)) | (have:=hroom; omega) | (have:=hmade; omega) | (simp only [List.length_append,List.length_nil]; omega)) (F:=fun _ _=>True) (fun _ _ _=>trivial)) hcan hkey (by omega) (by first | omega | (have:=hroom1; omega))) ?_)
 rintro e_ dK ⟨aw,ax,rfl,aG,bw⟩
 rw [hfr] at aG
 rw [hfr]
 refine ⟨_,rfl,fun dL bx=>?_⟩
 have hfl:=qkg (key:=28) (v:=(Int.tmod x (6 + 1))) (num:=num) (has:=has) (txt:=sb txt) (flex:=decide ((Int.tmod x (6 + 1)) ≥ qag)) (body:=(qbf 8 sTxnOffsetCommitRequestF qag (Int.tmod x (6 + 1)) (Tree.mk n1 s2 b3 l4 u5)))
 have hsl:=qbX txt
 obtain ⟨aH,c5⟩:=ai.frFresh bw (brow aw ax 5 (qba 28 (Int.tmod x (6 + 1)) num has (sb txt) (decide ((Int.tmod x (6 + 1)) ≥ qag)) (qbf 8 sTxnOffsetCommitRequestF qag (Int.tmod x (6 + 1)) (Tree.mk n1 s2 b3 l4 u5)))) (Nat.le_refl _) aG
 refine qak [5,6,7,8,9] [] [(2,.v (.int .i32 num)),(5,.p 0 0),(10,.p 2 0),(11,.v (.int .i64 (Int.tmod x (6 + 1)))),(12,.v (.slice ab ((qbf 8 sTxnOffsetCommitRequestF qag (Int.tmod x (6 + 1)) (Tree.mk n1 s2 b3 l4 u5)).length) ac)),(13,.v (.slice aw ((qba 28 (Int.tmod x (6 + 1)) num has (sb txt) (decide ((Int.tmod x (6 + 1)) ≥ qag)) (qbf 8 sTxnOffsetCommitRequestF qag (Int.tmod x (6 + 1)) (Tree.mk n1 s2 b3 l4 u5))).length) ax)),(14,.v (.bool true))] aH bx fun dM bz=>?_
 refine qaf (qab ?_)
 refine qbm 17 kz aH fun dN da ay bA=>?_
 refine qa0 [0,1,2,3,4,5,6,7,8,10,11,13] [(47,.v (.bool true)),(48,.v (.slice aw ((qba 28 (Int.tmod x (6 + 1)) num has (sb txt) (decide ((Int.tmod x (6 + 1)) ≥ qag)) (qbf 8 sTxnOffsetCommitRequestF qag (Int.tmod x (6 + 1)) (Tree.mk n1 s2 b3 l4 u5))).length) ax)),(49,.v (.int .i64 (Int.tmod x (6 + 1)))),(50,.v (.int .i32 num)),(52,.v (.bool has)),(54,.v (.string txt)),(56,.v (.agg #[.slice aT sTxnOffsetCommitRequestF.length aU,.int .i64 qag])),(57,.v (.int .i64 (Int.tmod x (6 + 1)))),(59,.v (.slice ab ((qbf 8 sTxnOffsetCommitRequestF qag (Int.tmod x (6 + 1)) (Tree.mk n1 s2 b3 l4 u5)).length) ac))] 6 (qac qah) (fun _ h=>h.cells) bA bz fun dO aI=>?_
 refine qe2 (i:=9) (j:=12) kz ?_ ?_
 ·
  refine (qga (d:=55) (src:=9) (dst:=24) (e:=5) (s:=txt) ay aI (by omega) fun cQ cR dP dQ aj az bB bC=>?_)
  have bD:=bB F
  have bE:=TT.ofW aj az
  refine ⟨fun _=>bE,?_⟩
  refine qaO (i:=12) kz (qal bC (f:=19) (vs:=[.agg #[.slice aT sTxnOffsetCommitRequestF.length aU,.int .i64 qag],.int .i64 (Int.tmod x (6 + 1))]) (d:=58) kz Tryz.call19 (qcz _ _ _ _) ?_)
  rintro e_ dR ⟨rfl,aJ⟩
  refine ⟨_,rfl,fun dS bF=>?_⟩
  have aA:=az.next_nil aJ
  have ae:=az.frN aJ
  have bG:=TT.ofW (aj.trans ae) aA
  refine ⟨fun _=>bG,?_⟩
  refine qaO (i:=14) kz (qal bF (f:=18) (vs:=[.int .i64 28,.int .i64 (Int.tmod x (6 + 1)),.int .i32 num,.bool has,.slice (some ⟨cQ,0,none⟩) ((sb txt).length) cR,.bool (decide ((Int.tmod x (6 + 1)) ≥ qag)),.slice ab ((qbf 8 sTxnOffsetCommitRequestF qag (Int.tmod x (6 + 1)) (Tree.mk n1 s2 b3 l4 u5)).length) ac]) (d:=60) kz Tryz.call18 (qli 28 (Int.tmod x (6 + 1)) num has (decide ((Int.tmod x (6 + 1)) ≥ qag)) _ _ (sb txt) _ _ (qbf 8 sTxnOffsetCommitRequestF qag (Int.tmod x (6 + 1)) (Tree.mk n1 s2 b3 l4 u5)) _ (fun _ _=>True) ((bD.move ae.step immM ae.to').move (Step.refl _ Nil) nilM allF) (qcK (aA.own 0 _ rfl) (by first | omega | (rw [qbv]; decide) | (simp only [be_length]; exact Nat.le_trans (qbb _) (by decide)) | (have:=hroom; omega) | (have:=hmade; omega) | (simp only [List.length_append,List.length_nil]; omega)) (F:=fun _ _=>True) (fun _ _ _=>trivial)) (by first | omega | (have:=hroom1; simp only [qbX]; omega))) ?_)
  rintro e_ dT ⟨bH,bI,rfl,bJ,bK⟩
  refine ⟨_,rfl,fun dU bL=>?_⟩
  obtain ⟨af,aK⟩:=aA.frFresh bK (brow bH bI 5 (qba 28 (Int.tmod x (6 + 1)) num has (sb txt) (decide ((Int.tmod x (6 + 1)) ≥ qag)) (qbf 8 sTxnOffsetCommitRequestF qag (Int.tmod x (6 + 1)) (Tree.mk n1 s2 b3 l4 u5)))) (Nat.le_refl _) bJ
  have bM:=TT.ofW ((aj.trans ae).trans aK) af
  refine ⟨fun _=>bM,?_⟩
  refine qaO (i:=15) kz (qal bL (f:=17) (vs:=[.slice aw ((qba 28 (Int.tmod x (6 + 1)) num has (sb txt) (decide ((Int.tmod x (6 + 1)) ≥ qag)) (qbf 8 sTxnOffsetCommitRequestF qag (Int.tmod x (6 + 1)) (Tree.mk n1 s2 b3 l4 u5))).length) ax,.slice bH ((qba 28 (Int.tmod x (6 + 1)) num has (sb txt) (decide ((Int.tmod x (6 + 1)) ≥ qag)) (qbf 8 sTxnOffsetCommitRequestF qag (Int.tmod x (6 + 1)) (Tree.mk n1 s2 b3 l4 u5))).length) bI]) (d:=61) kz Tryz.call17 (qlC _ _ _ _ (qba 28 (Int.tmod x (6 + 1)) num has (sb txt) (decide ((Int.tmod x (6 + 1)) ≥ qag)) (qbf 8 sTxnOffsetCommitRequestF qag (Int.tmod x (6 + 1)) (Tree.mk n1 s2 b3 l4 u5))) (qba 28 (Int.tmod x (6 + 1)) num has (sb txt) (decide ((Int.tmod x (6 + 1)) ≥ qag)) (qbf 8 sTxnOffsetCommitRequestF qag (Int.tmod x (6 + 1)) (Tree.mk n1 s2 b3 l4 u5))) _ _ (qcK (af.own 1 _ rfl) (by first | omega | (rw [qbv]; decide) | (simp only [be_length]; exact Nat.le_trans (qbb _) (by decide)) | (have:=hroom; omega) | (have:=hmade; omega) | (simp only [List.length_append,List.length_nil]; omega)) (F:=fun _ _=>True) (fun _ _ _=>trivial)) (qcK (af.own 2 _ rfl) (by first | omega | (rw [qbv]; decide) | (simp only [be_length]; exact Nat.le_trans (qbb _) (by decide)) | (have:=hroom; omega) | (have:=hmade; omega) | (simp only [List.length_append,List.length_nil]; omega)) (F:=fun _ _=>True) (fun _ _ _=>trivial))) ?_)
  rintro e_ dV ⟨rfl,aL⟩
  refine ⟨_,rfl,fun dW bN=>?_⟩
  have ak:=af.next_nil aL
  have bO:=af.frN aL
  have aM:=TT.ofW (((aj.trans ae).trans aK).trans bO) ak
  refine ⟨fun _=>aM,?_⟩
  refine qa0 [16] [(62,.v (.bool (decide ((qba 28 (Int.tmod x (6 + 1)) num has (sb txt) (decide ((Int.tmod x (6 + 1)) ≥ qag)) (qbf 8 sTxnOffsetCommitRequestF qag (Int.tmod x (6 + 1)) (Tree.mk n1 s2 b3 l4 u5))) = qba 28 (Int.tmod x (6 + 1)) num has (sb txt) (decide ((Int.tmod x (6 + 1)) ≥ qag)) (qbf 8 sTxnOffsetCommitRequestF qag (Int.tmod x (6 + 1)) (Tree.mk n1 s2 b3 l4 u5))))))] 1 (qac qah) (fun _ h=>h.cells) aM bN fun dX bP=>?_
  refine qaO (i:=17) kz (qcf [8] ak.cells bP (env':=[(8,.v (.bool (decide ((qba 28 (Int.tmod x (6 + 1)) num has (sb txt) (decide ((Int.tmod x (6 + 1)) ≥ qag)) (qbf 8 sTxnOffsetCommitRequestF qag (Int.tmod x (6 + 1)) (Tree.mk n1 s2 b3 l4 u5))) = qba 28 (Int.tmod x (6 + 1)) num has (sb txt) (decide ((Int.tmod x (6 + 1)) ≥ qag)) (qbf 8 sTxnOffsetCommitRequestF qag (Int.tmod x (6 + 1)) (Tree.mk n1 s2 b3 l4 u5))))))]) kz fun dY bQ=>?_)
  refine ⟨fun h=>absurd rfl h,?_⟩
  refine qaZ kz ?_ _
  refine qab (wp_ret (qaE bQ ak.cells (v:=.bool (decide ((qba 28 (Int.tmod x (6 + 1)) num has (sb txt) (decide ((Int.tmod x (6 + 1)) ≥ qag)) (qbf 8 sTxnOffsetCommitRequestF qag (Int.tmod x (6 + 1)) (Tree.mk n1 s2 b3 l4 u5))) = qba 28 (Int.tmod x (6 + 1)) num has (sb txt) (decide ((Int.tmod x (6 + 1)) ≥ qag)) (qbf 8 sTxnOffsetCommitRequestF qag (Int.tmod x (6 + 1)) (Tree.mk n1 s2 b3 l4 u5))))) kz ?_))
  exact ⟨by simp,ak.step⟩
 refine (qal aI (f:=19) (vs:=[.agg #[.slice aT sTxnOffsetCommitRequestF.length aU,.int .i64 qag],.int .i64 (Int.tmod x (6 + 1))]) (d:=58) kz Tryz.call19 (qcz _ _ _ _) ?_)
 rintro e_ dZ ⟨rfl,aN⟩
 refine ⟨_,rfl,fun d5 bR=>?_⟩
 have aO:=ay.next_nil aN
 have al:=ay.frN aN
 have bS:=TT.ofW al aO
 refine ⟨fun _=>bS,?_⟩
 refine qaO (i:=9) kz (qga (d:=55) (src:=9) (dst:=24) (e:=5) (s:=txt) aO bR (by omega) fun cS cT d6 d7 aB aC bT bU=>?_)
 have bV:=bT F
 have bW:=TT.ofW (al.trans aB) aC
 refine ⟨fun _=>bW,?_⟩
 refine qaO (i:=14) kz (qal bU (f:=18) (vs:=[.int .i64 28,.int .i64 (Int.tmod x (6 + 1)),.int .i32 num,.bool has,.slice (some ⟨cS,0,none⟩) ((sb txt).length) cT,.bool (decide ((Int.tmod x (6 + 1)) ≥ qag)),.slice ab ((qbf 8 sTxnOffsetCommitRequestF qag (Int.tmod x (6 + 1)) (Tree.mk n1 s2 b3 l4 u5)).length) ac]) (d:=60) kz Tryz.call18 (qli 28 (Int.tmod x (6 + 1)) num has (decide ((Int.tmod x (6 + 1)) ≥ qag)) _ _ (sb txt) _ _ (qbf 8 sTxnOffsetCommitRequestF qag (Int.tmod x (6 + 1)) (Tree.mk n1 s2 b3 l4 u5)) _ (fun _ _=>True) (bV.move (Step.refl _ Nil) nilM allF) (qcK (aC.own 0 _ rfl) (by first | omega | (rw [qbv]; decide) | (simp only [be_length]; exact Nat.le_trans (qbb _) (by decide)) | (have:=hroom; omega) | (have:=hmade; omega) | (simp only [List.length_append,List.length_nil]; omega)) (F:=fun _ _=>True) (fun _ _ _=>trivial)) (by first | omega | (have:=hroom1; simp only [qbX]; omega))) ?_)
 rintro e_ d8 ⟨bX,bY,rfl,bZ,b8⟩
 refine ⟨_,rfl,fun d9 cd=>?_⟩
 obtain ⟨ag,aP⟩:=aC.frFresh b8 (brow bX bY 5 (qba 28 (Int.tmod x (6 + 1)) num has (sb txt) (decide ((Int.tmod x (6 + 1)) ≥ qag)) (qbf 8 sTxnOffsetCommitRequestF qag (Int.tmod x (6 + 1)) (Tree.mk n1 s2 b3 l4 u5)))) (Nat.le_refl _) bZ
 have ce:=TT.ofW ((al.trans aB).trans aP) ag
 refine ⟨fun _=>ce,?_⟩
 refine qaO (i:=15) kz (qal cd (f:=17) (vs:=[.slice aw ((qba 28 (Int.tmod x (6 + 1)) num has (sb txt) (decide ((Int.tmod x (6 + 1)) ≥ qag)) (qbf 8 sTxnOffsetCommitRequestF qag (Int.tmod x (6 + 1)) (Tree.mk n1 s2 b3 l4 u5))).length) ax,.slice bX ((qba 28 (Int.tmod x (6 + 1)) num has (sb txt) (decide ((Int.tmod x (6 + 1)) ≥ qag)) (qbf 8 sTxnOffsetCommitRequestF qag (Int.tmod x (6 + 1)) (Tree.mk n1 s2 b3 l4 u5))).length) bY]) (d:=61) kz Tryz.call17 (qlC _ _ _ _ (qba 28 (Int.tmod x (6 + 1)) num has (sb txt) (decide ((Int.tmod x (6 + 1)) ≥ qag)) (qbf 8 sTxnOffsetCommitRequestF qag (Int.tmod x (6 + 1)) (Tree.mk n1 s2 b3 l4 u5))) (qba 28 (Int.tmod x (6 + 1)) num has (sb txt) (decide ((Int.tmod x (6 + 1)) ≥ qag)) (qbf 8 sTxnOffsetCommitRequestF qag (Int.tmod x (6 + 1)) (Tree.mk n1 s2 b3 l4 u5))) _ _ (qcK (ag.own 1 _ rfl) (by first | omega | (rw [qbv]; decide) | (simp only [be_length]; exact Nat.le_trans (qbb _) (by decide)) | (have:=hroom; omega) | (have:=hmade; omega) | (simp only [List.length_append,List.length_nil]; omega)) (F:=fun _ _=>True) (fun _ _ _=>trivial)) (qcK (ag.own 2 _ rfl) (by first | omega | (rw [qbv]; decide) | (simp only [be_length]; exact Nat.le_trans (qbb _) (by decide)) | (have:=hroom; omega) | (have:=hmade; omega) | (simp only [List.length_append,List.length_nil]; omega)) (F:=fun _ _=>True) (fun _ _ _=>trivial))) ?_)
 rintro e_ ea ⟨rfl,aQ⟩
 refine ⟨_,rfl,fun eb cg=>?_⟩
 have am:=ag.next_nil aQ
 have cm:=ag.frN aQ
 have aR:=TT.ofW (((al.trans aB).trans aP).trans cm) am
 refine ⟨fun _=>aR,?_⟩
 refine qa0 [16] [(62,.v (.bool (decide ((qba 28 (Int.tmod x (6 + 1)) num has (sb txt) (decide ((Int.tmod x (6 + 1)) ≥ qag)) (qbf 8 sTxnOffsetCommitRequestF qag (Int.tmod x (6 + 1)) (Tree.mk n1 s2 b3 l4 u5))) = qba 28 (Int.tmod x (6 + 1)) num has (sb txt) (decide ((Int.tmod x (6 + 1)) ≥ qag)) (qbf 8 sTxnOffsetCommitRequestF qag (Int.tmod x (6 + 1)) (Tree.mk n1 s2 b3 l4 u5))))))] 1 (qac qah) (fun _ h=>h.cells) aR cg fun ec cq=>?_
 refine qaO (i:=17) kz (qcf [8] am.cells cq (env':=[(8,.v (.bool (decide ((qba 28 (Int.tmod x (6 + 1)) num has (sb txt) (decide ((Int.tmod x (6 + 1)) ≥ qag)) (qbf 8 sTxnOffsetCommitRequestF qag (Int.tmod x (6 + 1)) (Tree.mk n1 s2 b3 l4 u5))) = qba 28 (Int.tmod x (6 + 1)) num has (sb txt) (decide ((Int.tmod x (6 + 1)) ≥ qag)) (qbf 8 sTxnOffsetCommitRequestF qag (Int.tmod x (6 + 1)) (Tree.mk n1 s2 b3 l4 u5))))))]) kz fun ee cr=>?_)
 refine ⟨fun h=>absurd rfl h,?_⟩
 refine qaZ kz ?_ _
 refine qab (wp_ret (qaE cr am.cells (v:=.bool (decide ((qba 28 (Int.tmod x (6 + 1)) num has (sb txt) (decide ((Int.tmod x (6 + 1)) ≥ qag)) (qbf 8 sTxnOffsetCommitRequestF qag (Int.tmod x (6 + 1)) (Tree.mk n1 s2 b3 l4 u5))) = qba 28 (Int.tmod x (6 + 1)) num has (sb txt) (decide ((Int.tmod x (6 + 1)) ≥ qag)) (qbf 8 sTxnOffsetCommitRequestF qag (Int.tmod x (6 + 1)) (Tree.mk n1 s2 b3 l4 u5))))) kz ?_))
 exact ⟨by simp,am.step⟩
theorem qda (x:Int) (hx:0 ≤ x ∧ x ≤ 255) (has:Bool) (txt:ByteArray) (num:Int) (ct:List Value) (t:Tree) (w:World) (F:Nat → Nat → Prop) (htl:txt.size ≤ 1048576) (hnum:-2147483648 ≤ num ∧ num ≤ 2147483647) (ht:TreeR w F ct t) (hsz:t.size ≤ 8388608):Calls Tryz.prog 4 #[.int .u8 x,.agg #[.bool has,.string txt],.int .i32 num,.agg ct.toArray] w (qcF w (.bool true)):=by
 obtain ⟨g0,g1⟩:=qmg (m:=6 + 1) hx.1 hx.2 (by decide) (by decide)
 have hp:qaj (IntKind.i16.wrap (Int.tmod x (6 + 1))) (fitT (Int.tmod x (6 + 1)) 8 sTxnOffsetCommitRequestF t) = qbf 8 sTxnOffsetCommitRequestF qag (Int.tmod x (6 + 1)) t:=by rw [qg4 g0 g1]; exact qdb (Int.tmod x (6 + 1)) g0 g1 t
 have h1:=qjP 8 sTxnOffsetCommitRequestF qag (Int.tmod x (6 + 1)) t
 have h2:qhH sTxnOffsetCommitRequestF ≤ 131000:=by decide +kernel
 have h3:=Nat.mul_le_mul h2 hsz
 exact qdj x hx.1 (by omega) has txt htl num ct t w F ht (by omega) (qcZ (Int.tmod x (6 + 1)) t) (qiO _ _ _ _ ht.ranged) (by rw [qg4 g0 g1]; rfl) hp
end Go.Proofs.YtogokkkdfcgncaaGreatDoor.ME