/- The texts of a claim, put together: the engine, the contracts, the law. Own work. -/
import Derived.Test.YtogokkkdfcgncaaGreatDoorWf5P3
import Derived.Test.YtogokkkdfcgncaaGreatDoorProg
import Derived.Deep.LoopGhost
import Derived.LoopN
namespace Go.Proofs.YtogokkkdfcgncaaGreatDoor.ME
open Go
open Go.RowKit
set_option linter.unusedVariables false
set_option linter.unusedSimpArgs false
set_option maxRecDepth 20000
theorem qmG {A:Option Addr} {c:Nat} (s:Bs) {w:World} {F:Nat → Nat → Prop} (ho:Octs w F A c s) (hl:2 ≤ s.length) :
  Calls Tryz.prog 157 #[.agg #[],.slice A s.length c] w (qcF w (.int .u16 (be16 s))):=by
 refine enter (n:=18) Tryz.func157 rfl Tryz.ntmps157 kz fun a hE=>?_
 have hW:=WOk.start w Nil
 have ob0:=qbY s 0
 have ob1:=qbY s 1
 refine qae [0,1] kz ?_
 refine qam (qbk hW hE (d:=2) (cs:=[]) kz fun b1 a2 w3 hb4 hz5 hF6 hW7 hE8=>?_)
 refine qak [1] [] [(1,.v (.slice A s.length c))] hW7 hE8 fun a9 af=>?_
 refine qaf (qab ?_)
 refine qae [0,1,2] kz ?_
 refine qak [0] [1,2] [(1,.v (.slice A s.length c)),(5,.v (.slice A s.length c))] hW7 af fun aC ag=>?_
 obtain ⟨av,aw,ac,ax,ab⟩:=Slots.get ho (i:=1) (by omega)
 refine qam (qax ag (t:=24) (A:=A) (m:=s.length) (q:=1) (d:=6) kz (e:=5) (size:=1) (bytes:=1) (j:=1) kz ac rfl (by omega) fun aD ah=>?_)
 refine qam (qaH ah (t:=5) (b:=av) (o:=aw + 1 * 1) (d:=7) kz (cs:=[.int .u8 ((s.getD 1 0).toNat:Int)]) (v:=.int .u8 ((s.getD 1 0).toNat:Int)) kz (AtF.move ab hW7.step nilM qbg).at_ fun aE ai=>?_)
 refine qaf (qab ?_)
 refine qch kz hW7 fun aF ay aa=>?_
 refine qa0 [0,4] [(8,.v (.slice A s.length c)),(12,.v (.slice A s.length c))] 9 (qac qah) (fun _ h=>h ▸ aa.cells) rfl ai fun aG aj=>?_
 refine qbe aj (i:=1) (t:=24) (A:=A) (m:=s.length) (q:=1) (d:=9) kz (e:=5) (size:=1) (bytes:=1) (j:=1) kz ac rfl (by omega) kz kz (qac qah) rfl fun aH ak=>?_
 refine qbd ak (i:=2) (t:=5) (b:=av) (o:=aw + 1 * 1) (d:=10) kz (cs:=[.int .u8 ((s.getD 1 0).toNat:Int)]) (v:=.int .u8 ((s.getD 1 0).toNat:Int)) kz (fun w' h'=>h' ▸ (AtF.move ab aa.step nilM qbg).at_) kz kz (qac qah) rfl fun aI al=>?_
 refine qa0 [3] [(11,.v (.int .u16 (IntKind.u16.wrap ((s.getD 1 0).toNat:Int)))),(12,.v (.slice A s.length c))] 6 (qac qah) (fun _ h=>h ▸ aa.cells) rfl al fun aJ am=>?_
 obtain ⟨az,aA,ao,aB,ae⟩:=Slots.get ho (i:=0) (by omega)
 refine qbe am (i:=5) (t:=24) (A:=A) (m:=s.length) (q:=0) (d:=13) kz (e:=5) (size:=1) (bytes:=1) (j:=0) kz ao rfl (by omega) kz kz (qac qah) rfl fun aK ap=>?_
 refine qbd ap (i:=6) (t:=5) (b:=az) (o:=aA + 0 * 1) (d:=14) kz (cs:=[.int .u8 ((s.getD 0 0).toNat:Int)]) (v:=.int .u8 ((s.getD 0 0).toNat:Int)) kz (fun w' h'=>h' ▸ (AtF.move ae aa.step nilM qbg).at_) kz kz (qac qah) rfl fun aL ar=>?_
 refine qa0 [7,8,9,10] [(4,.v (.int .u16 (IntKind.u16.wrap (BitVec.ofInt 16 (IntKind.u16.wrap ((s.getD 1 0).toNat:Int)) ||| BitVec.ofInt 16 (IntKind.u16.wrap ((IntKind.u16.wrap ((s.getD 0 0).toNat:Int)) * 256))).toNat)))] 0 (qac qah) (fun _ h=>h ▸ aa.cells) rfl ar fun aM au=>?_
 refine qaZ kz ?_ _
 refine qab (wp_ret (qaE au aa.cells (v:=.int .u16 (IntKind.u16.wrap (BitVec.ofInt 16 (IntKind.u16.wrap ((s.getD 1 0).toNat:Int)) ||| BitVec.ofInt 16 (IntKind.u16.wrap ((IntKind.u16.wrap ((s.getD 0 0).toNat:Int)) * 256))).toNat)) kz ?_))
 exact ⟨congrArg Ending.returned (congrArg (Value.int IntKind.u16) (qml (oc s 0) (oc s 1) ob0 ob1)),aa.step⟩
theorem qmH {A:Option Addr} {c:Nat} (s:Bs) {w:World} {F:Nat → Nat → Prop} (ho:Octs w F A c s) (hl:4 ≤ s.length) :
  Calls Tryz.prog 151 #[.agg #[],.slice A s.length c] w (qcF w (.int .u32 (be32 s))):=by
 refine enter (n:=30) Tryz.func151 rfl Tryz.ntmps151 kz fun a hE=>?_
 have hW:=WOk.start w Nil
 have ob0:=qbY s 0
 have ob1:=qbY s 1
 have ob2:=qbY s 2
 have ob3:=qbY s 3
 refine qae [0,1] kz ?_
 refine qam (qbk hW hE (d:=2) (cs:=[]) kz fun b1 a2 w3 hb4 hz5 hF6 hW7 hE8=>?_)
 refine qak [1] [] [(1,.v (.slice A s.length c))] hW7 hE8 fun a9 ah=>?_
 refine qaf (qab ?_)
 refine qae [0,1,2] kz ?_
 refine qak [0] [1,2] [(1,.v (.slice A s.length c)),(5,.v (.slice A s.length c))] hW7 ah fun aS ai=>?_
 obtain ⟨aF,aG,ac,aH,ab⟩:=Slots.get ho (i:=3) (by omega)
 refine qam (qax ai (t:=24) (A:=A) (m:=s.length) (q:=3) (d:=6) kz (e:=5) (size:=1) (bytes:=1) (j:=3) kz ac rfl (by omega) fun aT aj=>?_)
 refine qam (qaH aj (t:=5) (b:=aF) (o:=aG + 3 * 1) (d:=7) kz (cs:=[.int .u8 ((s.getD 3 0).toNat:Int)]) (v:=.int .u8 ((s.getD 3 0).toNat:Int)) kz (AtF.move ab hW7.step nilM qbg).at_ fun aU ak=>?_)
 refine qaf (qab ?_)
 refine qch kz hW7 fun aV aI aa=>?_
 refine qa0 [0,4,10,16] [(8,.v (.slice A s.length c)),(12,.v (.slice A s.length c)),(18,.v (.slice A s.length c)),(24,.v (.slice A s.length c))] 19 (qac qah) (fun _ h=>h ▸ aa.cells) rfl ak fun aW al=>?_
 refine qbe al (i:=1) (t:=24) (A:=A) (m:=s.length) (q:=3) (d:=9) kz (e:=5) (size:=1) (bytes:=1) (j:=3) kz ac rfl (by omega) kz kz (qac qah) rfl fun aX am=>?_
 refine qbd am (i:=2) (t:=5) (b:=aF) (o:=aG + 3 * 1) (d:=10) kz (cs:=[.int .u8 ((s.getD 3 0).toNat:Int)]) (v:=.int .u8 ((s.getD 3 0).toNat:Int)) kz (fun w' h'=>h' ▸ (AtF.move ab aa.step nilM qbg).at_) kz kz (qac qah) rfl fun aY ao=>?_
 refine qa0 [3] [(11,.v (.int .u32 (IntKind.u32.wrap ((s.getD 3 0).toNat:Int)))),(12,.v (.slice A s.length c)),(18,.v (.slice A s.length c)),(24,.v (.slice A s.length c))] 16 (qac qah) (fun _ h=>h ▸ aa.cells) rfl ao fun aZ ap=>?_
 obtain ⟨aJ,aK,ar,aL,ae⟩:=Slots.get ho (i:=2) (by omega)
 refine qbe ap (i:=5) (t:=24) (A:=A) (m:=s.length) (q:=2) (d:=13) kz (e:=5) (size:=1) (bytes:=1) (j:=2) kz ar rfl (by omega) kz kz (qac qah) rfl fun ba au=>?_
 refine qbd au (i:=6) (t:=5) (b:=aJ) (o:=aK + 2 * 1) (d:=14) kz (cs:=[.int .u8 ((s.getD 2 0).toNat:Int)]) (v:=.int .u8 ((s.getD 2 0).toNat:Int)) kz (fun w' h'=>h' ▸ (AtF.move ae aa.step nilM qbg).at_) kz kz (qac qah) rfl fun bd av=>?_
 refine qa0 [7,8,9] [(17,.v (.int .u32 (IntKind.u32.wrap (BitVec.ofInt 32 (IntKind.u32.wrap ((s.getD 3 0).toNat:Int)) ||| BitVec.ofInt 32 (IntKind.u32.wrap ((IntKind.u32.wrap ((s.getD 2 0).toNat:Int)) * 256))).toNat))),(18,.v (.slice A s.length c)),(24,.v (.slice A s.length c))] 11 (qac qah) (fun _ h=>h ▸ aa.cells) rfl av fun bf aw=>?_
 obtain ⟨aM,aN,ax,aO,af⟩:=Slots.get ho (i:=1) (by omega)
 refine qbe aw (i:=11) (t:=24) (A:=A) (m:=s.length) (q:=1) (d:=19) kz (e:=5) (size:=1) (bytes:=1) (j:=1) kz ax rfl (by omega) kz kz (qac qah) rfl fun bg ay=>?_
 refine qbd ay (i:=12) (t:=5) (b:=aM) (o:=aN + 1 * 1) (d:=20) kz (cs:=[.int .u8 ((s.getD 1 0).toNat:Int)]) (v:=.int .u8 ((s.getD 1 0).toNat:Int)) kz (fun w' h'=>h' ▸ (AtF.move af aa.step nilM qbg).at_) kz kz (qac qah) rfl fun bh az=>?_
 refine qa0 [13,14,15] [(23,.v (.int .u32 (IntKind.u32.wrap (BitVec.ofInt 32 (IntKind.u32.wrap (BitVec.ofInt 32 (IntKind.u32.wrap ((s.getD 3 0).toNat:Int)) ||| BitVec.ofInt 32 (IntKind.u32.wrap ((IntKind.u32.wrap ((s.getD 2 0).toNat:Int)) * 256))).toNat) ||| BitVec.ofInt 32 (IntKind.u32.wrap ((IntKind.u32.wrap ((s.getD 1 0).toNat:Int)) * 65536))).toNat))),(24,.v (.slice A s.length c))] 6 (qac qah) (fun _ h=>h ▸ aa.cells) rfl az fun bi aA=>?_
 obtain ⟨aP,aQ,aB,aR,ag⟩:=Slots.get ho (i:=0) (by omega)
 refine qbe aA (i:=17) (t:=24) (A:=A) (m:=s.length) (q:=0) (d:=25) kz (e:=5) (size:=1) (bytes:=1) (j:=0) kz aB rfl (by omega) kz kz (qac qah) rfl fun bj aC=>?_
 refine qbd aC (i:=18) (t:=5) (b:=aP) (o:=aQ + 0 * 1) (d:=26) kz (cs:=[.int .u8 ((s.getD 0 0).toNat:Int)]) (v:=.int .u8 ((s.getD 0 0).toNat:Int)) kz (fun w' h'=>h' ▸ (AtF.move ag aa.step nilM qbg).at_) kz kz (qac qah) rfl fun bk aD=>?_
 refine qa0 [19,20,21,22] [(4,.v (.int .u32 (IntKind.u32.wrap (BitVec.ofInt 32 (IntKind.u32.wrap (BitVec.ofInt 32 (IntKind.u32.wrap (BitVec.ofInt 32 (IntKind.u32.wrap ((s.getD 3 0).toNat:Int)) ||| BitVec.ofInt 32 (IntKind.u32.wrap ((IntKind.u32.wrap ((s.getD 2 0).toNat:Int)) * 256))).toNat) ||| BitVec.ofInt 32 (IntKind.u32.wrap ((IntKind.u32.wrap ((s.getD 1 0).toNat:Int)) * 65536))).toNat) ||| BitVec.ofInt 32 (IntKind.u32.wrap ((IntKind.u32.wrap ((s.getD 0 0).toNat:Int)) * 16777216))).toNat)))] 0 (qac qah) (fun _ h=>h ▸ aa.cells) rfl aD fun bn aE=>?_
 refine qaZ kz ?_ _
 refine qab (wp_ret (qaE aE aa.cells (v:=.int .u32 (IntKind.u32.wrap (BitVec.ofInt 32 (IntKind.u32.wrap (BitVec.ofInt 32 (IntKind.u32.wrap (BitVec.ofInt 32 (IntKind.u32.wrap ((s.getD 3 0).toNat:Int)) ||| BitVec.ofInt 32 (IntKind.u32.wrap ((IntKind.u32.wrap ((s.getD 2 0).toNat:Int)) * 256))).toNat) ||| BitVec.ofInt 32 (IntKind.u32.wrap ((IntKind.u32.wrap ((s.getD 1 0).toNat:Int)) * 65536))).toNat) ||| BitVec.ofInt 32 (IntKind.u32.wrap ((IntKind.u32.wrap ((s.getD 0 0).toNat:Int)) * 16777216))).toNat)) kz ?_))
 exact ⟨congrArg Ending.returned (congrArg (Value.int IntKind.u32) (qmm (oc s 0) (oc s 1) (oc s 2) (oc s 3) ob0 ob1 ob2 ob3)),aa.step⟩
theorem qmI {A:Option Addr} {c:Nat} (s:Bs) {w:World} {F:Nat → Nat → Prop} (ho:Octs w F A c s) (hl:8 ≤ s.length) :
  Calls Tryz.prog 159 #[.agg #[],.slice A s.length c] w (qcF w (.int .u64 (be64 s))):=by
 refine enter (n:=54) Tryz.func159 rfl Tryz.ntmps159 kz fun a hE=>?_
 have hW:=WOk.start w Nil
 have ob0:=qbY s 0
 have ob1:=qbY s 1
 have ob2:=qbY s 2
 have ob3:=qbY s 3
 have ob4:=qbY s 4
 have ob5:=qbY s 5
 have ob6:=qbY s 6
 have ob7:=qbY s 7
 refine qae [0,1] kz ?_
 refine qam (qbk hW hE (d:=2) (cs:=[]) kz fun b1 a2 w3 hb4 hz5 hF6 hW7 hE8=>?_)
 refine qak [1] [] [(1,.v (.slice A s.length c))] hW7 hE8 fun a9 ar=>?_
 refine qaf (qab ?_)
 refine qae [0,1,2] kz ?_
 refine qak [0] [1,2] [(1,.v (.slice A s.length c)),(5,.v (.slice A s.length c))] hW7 ar fun bK au=>?_
 obtain ⟨ba,bd,ae,bg,ab⟩:=Slots.get ho (i:=7) (by omega)
 refine qam (qax au (t:=24) (A:=A) (m:=s.length) (q:=7) (d:=6) kz (e:=5) (size:=1) (bytes:=1) (j:=7) kz ae rfl (by omega) fun bL av=>?_)
 refine qam (qaH av (t:=5) (b:=ba) (o:=bd + 7 * 1) (d:=7) kz (cs:=[.int .u8 ((s.getD 7 0).toNat:Int)]) (v:=.int .u8 ((s.getD 7 0).toNat:Int)) kz (AtF.move ab hW7.step nilM qbg).at_ fun bM aw=>?_)
 refine qaf (qab ?_)
 refine qch kz hW7 fun bN bh aa=>?_
 refine qa0 [0,4,10,16,22,28,34,40] [(8,.v (.slice A s.length c)),(12,.v (.slice A s.length c)),(18,.v (.slice A s.length c)),(24,.v (.slice A s.length c)),(30,.v (.slice A s.length c)),(36,.v (.slice A s.length c)),(42,.v (.slice A s.length c)),(48,.v (.slice A s.length c))] 39 (qac qah) (fun _ h=>h ▸ aa.cells) rfl aw fun bO ax=>?_
 refine qbe ax (i:=1) (t:=24) (A:=A) (m:=s.length) (q:=7) (d:=9) kz (e:=5) (size:=1) (bytes:=1) (j:=7) kz ae rfl (by omega) kz kz (qac qah) rfl fun bP ay=>?_
 refine qbd ay (i:=2) (t:=5) (b:=ba) (o:=bd + 7 * 1) (d:=10) kz (cs:=[.int .u8 ((s.getD 7 0).toNat:Int)]) (v:=.int .u8 ((s.getD 7 0).toNat:Int)) kz (fun w' h'=>h' ▸ (AtF.move ab aa.step nilM qbg).at_) kz kz (qac qah) rfl fun bQ az=>?_
 refine qa0 [3] [(11,.v (.int .u64 (IntKind.u64.wrap ((s.getD 7 0).toNat:Int)))),(12,.v (.slice A s.length c)),(18,.v (.slice A s.length c)),(24,.v (.slice A s.length c)),(30,.v (.slice A s.length c)),(36,.v (.slice A s.length c)),(42,.v (.slice A s.length c)),(48,.v (.slice A s.length c))] 36 (qac qah) (fun _ h=>h ▸ aa.cells) rfl az fun bR aA=>?_
 obtain ⟨bi,bj,aB,bk,af⟩:=Slots.get ho (i:=6) (by omega)
 refine qbe aA (i:=5) (t:=24) (A:=A) (m:=s.length) (q:=6) (d:=13) kz (e:=5) (size:=1) (bytes:=1) (j:=6) kz aB rfl (by omega) kz kz (qac qah) rfl fun bS aC=>?_
 refine qbd aC (i:=6) (t:=5) (b:=bi) (o:=bj + 6 * 1) (d:=14) kz (cs:=[.int .u8 ((s.getD 6 0).toNat:Int)]) (v:=.int .u8 ((s.getD 6 0).toNat:Int)) kz (fun w' h'=>h' ▸ (AtF.move af aa.step nilM qbg).at_) kz kz (qac qah) rfl fun bT aD=>?_
 refine qa0 [7,8,9] [(17,.v (.int .u64 (IntKind.u64.wrap (BitVec.ofInt 64 (IntKind.u64.wrap ((s.getD 7 0).toNat:Int)) ||| BitVec.ofInt 64 (IntKind.u64.wrap ((IntKind.u64.wrap ((s.getD 6 0).toNat:Int)) * 256))).toNat))),(18,.v (.slice A s.length c)),(24,.v (.slice A s.length c)),(30,.v (.slice A s.length c)),(36,.v (.slice A s.length c)),(42,.v (.slice A s.length c)),(48,.v (.slice A s.length c))] 31 (qac qah) (fun _ h=>h ▸ aa.cells) rfl aD fun bU aE=>?_
 obtain ⟨bn,bo,aF,bp,ag⟩:=Slots.get ho (i:=5) (by omega)
 refine qbe aE (i:=11) (t:=24) (A:=A) (m:=s.length) (q:=5) (d:=19) kz (e:=5) (size:=1) (bytes:=1) (j:=5) kz aF rfl (by omega) kz kz (qac qah) rfl fun bV aG=>?_
 refine qbd aG (i:=12) (t:=5) (b:=bn) (o:=bo + 5 * 1) (d:=20) kz (cs:=[.int .u8 ((s.getD 5 0).toNat:Int)]) (v:=.int .u8 ((s.getD 5 0).toNat:Int)) kz (fun w' h'=>h' ▸ (AtF.move ag aa.step nilM qbg).at_) kz kz (qac qah) rfl fun bW aH=>?_
 refine qa0 [13,14,15] [(23,.v (.int .u64 (IntKind.u64.wrap (BitVec.ofInt 64 (IntKind.u64.wrap (BitVec.ofInt 64 (IntKind.u64.wrap ((s.getD 7 0).toNat:Int)) ||| BitVec.ofInt 64 (IntKind.u64.wrap ((IntKind.u64.wrap ((s.getD 6 0).toNat:Int)) * 256))).toNat) ||| BitVec.ofInt 64 (IntKind.u64.wrap ((IntKind.u64.wrap ((s.getD 5 0).toNat:Int)) * 65536))).toNat))),(24,.v (.slice A s.length c)),(30,.v (.slice A s.length c)),(36,.v (.slice A s.length c)),(42,.v (.slice A s.length c)),(48,.v (.slice A s.length c))] 26 (qac qah) (fun _ h=>h ▸ aa.cells) rfl aH fun bX aI=>?_
 obtain ⟨bq,bt,aJ,bu,ah⟩:=Slots.get ho (i:=4) (by omega)
 refine qbe aI (i:=17) (t:=24) (A:=A) (m:=s.length) (q:=4) (d:=25) kz (e:=5) (size:=1) (bytes:=1) (j:=4) kz aJ rfl (by omega) kz kz (qac qah) rfl fun bY aK=>?_
 refine qbd aK (i:=18) (t:=5) (b:=bq) (o:=bt + 4 * 1) (d:=26) kz (cs:=[.int .u8 ((s.getD 4 0).toNat:Int)]) (v:=.int .u8 ((s.getD 4 0).toNat:Int)) kz (fun w' h'=>h' ▸ (AtF.move ah aa.step nilM qbg).at_) kz kz (qac qah) rfl fun bZ aL=>?_
 refine qa0 [19,20,21] [(29,.v (.int .u64 (IntKind.u64.wrap (BitVec.ofInt 64 (IntKind.u64.wrap (BitVec.ofInt 64 (IntKind.u64.wrap (BitVec.ofInt 64 (IntKind.u64.wrap ((s.getD 7 0).toNat:Int)) ||| BitVec.ofInt 64 (IntKind.u64.wrap ((IntKind.u64.wrap ((s.getD 6 0).toNat:Int)) * 256))).toNat) ||| BitVec.ofInt 64 (IntKind.u64.wrap ((IntKind.u64.wrap ((s.getD 5 0).toNat:Int)) * 65536))).toNat) ||| BitVec.ofInt 64 (IntKind.u64.wrap ((IntKind.u64.wrap ((s.getD 4 0).toNat:Int)) * 16777216))).toNat))),(30,.v (.slice A s.length c)),(36,.v (.slice A s.length c)),(42,.v (.slice A s.length c)),(48,.v (.slice A s.length c))] 21 (qac qah) (fun _ h=>h ▸ aa.cells) rfl aL fun b8 aM=>?_
 obtain ⟨bw,bx,aN,bz,ai⟩:=Slots.get ho (i:=3) (by omega)
 refine qbe aM (i:=23) (t:=24) (A:=A) (m:=s.length) (q:=3) (d:=31) kz (e:=5) (size:=1) (bytes:=1) (j:=3) kz aN rfl (by omega) kz kz (qac qah) rfl fun cd aO=>?_
 refine qbd aO (i:=24) (t:=5) (b:=bw) (o:=bx + 3 * 1) (d:=32) kz (cs:=[.int .u8 ((s.getD 3 0).toNat:Int)]) (v:=.int .u8 ((s.getD 3 0).toNat:Int)) kz (fun w' h'=>h' ▸ (AtF.move ai aa.step nilM qbg).at_) kz kz (qac qah) rfl fun ce aP=>?_
 refine qa0 [25,26,27] [(35,.v (.int .u64 (IntKind.u64.wrap (BitVec.ofInt 64 (IntKind.u64.wrap (BitVec.ofInt 64 (IntKind.u64.wrap (BitVec.ofInt 64 (IntKind.u64.wrap (BitVec.ofInt 64 (IntKind.u64.wrap ((s.getD 7 0).toNat:Int)) ||| BitVec.ofInt 64 (IntKind.u64.wrap ((IntKind.u64.wrap ((s.getD 6 0).toNat:Int)) * 256))).toNat) ||| BitVec.ofInt 64 (IntKind.u64.wrap ((IntKind.u64.wrap ((s.getD 5 0).toNat:Int)) * 65536))).toNat) ||| BitVec.ofInt 64 (IntKind.u64.wrap ((IntKind.u64.wrap ((s.getD 4 0).toNat:Int)) * 16777216))).toNat) ||| BitVec.ofInt 64 (IntKind.u64.wrap ((IntKind.u64.wrap ((s.getD 3 0).toNat:Int)) * 4294967296))).toNat))),(36,.v (.slice A s.length c)),(42,.v (.slice A s.length c)),(48,.v (.slice A s.length c))] 16 (qac qah) (fun _ h=>h ▸ aa.cells) rfl aP fun cg aQ=>?_
 obtain ⟨bA,bB,aR,bC,aj⟩:=Slots.get ho (i:=2) (by omega)
 refine qbe aQ (i:=29) (t:=24) (A:=A) (m:=s.length) (q:=2) (d:=37) kz (e:=5) (size:=1) (bytes:=1) (j:=2) kz aR rfl (by omega) kz kz (qac qah) rfl fun cm aS=>?_
 refine qbd aS (i:=30) (t:=5) (b:=bA) (o:=bB + 2 * 1) (d:=38) kz (cs:=[.int .u8 ((s.getD 2 0).toNat:Int)]) (v:=.int .u8 ((s.getD 2 0).toNat:Int)) kz (fun w' h'=>h' ▸ (AtF.move aj aa.step nilM qbg).at_) kz kz (qac qah) rfl fun cq aT=>?_
 refine qa0 [31,32,33] [(41,.v (.int .u64 (IntKind.u64.wrap (BitVec.ofInt 64 (IntKind.u64.wrap (BitVec.ofInt 64 (IntKind.u64.wrap (BitVec.ofInt 64 (IntKind.u64.wrap (BitVec.ofInt 64 (IntKind.u64.wrap (BitVec.ofInt 64 (IntKind.u64.wrap ((s.getD 7 0).toNat:Int)) ||| BitVec.ofInt 64 (IntKind.u64.wrap ((IntKind.u64.wrap ((s.getD 6 0).toNat:Int)) * 256))).toNat) ||| BitVec.ofInt 64 (IntKind.u64.wrap ((IntKind.u64.wrap ((s.getD 5 0).toNat:Int)) * 65536))).toNat) ||| BitVec.ofInt 64 (IntKind.u64.wrap ((IntKind.u64.wrap ((s.getD 4 0).toNat:Int)) * 16777216))).toNat) ||| BitVec.ofInt 64 (IntKind.u64.wrap ((IntKind.u64.wrap ((s.getD 3 0).toNat:Int)) * 4294967296))).toNat) ||| BitVec.ofInt 64 (IntKind.u64.wrap ((IntKind.u64.wrap ((s.getD 2 0).toNat:Int)) * 1099511627776))).toNat))),(42,.v (.slice A s.length c)),(48,.v (.slice A s.length c))] 11 (qac qah) (fun _ h=>h ▸ aa.cells) rfl aT fun cr aU=>?_
 obtain ⟨bD,bE,aV,bF,ak⟩:=Slots.get ho (i:=1) (by omega)
 refine qbe aU (i:=35) (t:=24) (A:=A) (m:=s.length) (q:=1) (d:=43) kz (e:=5) (size:=1) (bytes:=1) (j:=1) kz aV rfl (by omega) kz kz (qac qah) rfl fun cu aW=>?_
 refine qbd aW (i:=36) (t:=5) (b:=bD) (o:=bE + 1 * 1) (d:=44) kz (cs:=[.int .u8 ((s.getD 1 0).toNat:Int)]) (v:=.int .u8 ((s.getD 1 0).toNat:Int)) kz (fun w' h'=>h' ▸ (AtF.move ak aa.step nilM qbg).at_) kz kz (qac qah) rfl fun cv aX=>?_
 refine qa0 [37,38,39] [(47,.v (.int .u64 (IntKind.u64.wrap (BitVec.ofInt 64 (IntKind.u64.wrap (BitVec.ofInt 64 (IntKind.u64.wrap (BitVec.ofInt 64 (IntKind.u64.wrap (BitVec.ofInt 64 (IntKind.u64.wrap (BitVec.ofInt 64 (IntKind.u64.wrap (BitVec.ofInt 64 (IntKind.u64.wrap ((s.getD 7 0).toNat:Int)) ||| BitVec.ofInt 64 (IntKind.u64.wrap ((IntKind.u64.wrap ((s.getD 6 0).toNat:Int)) * 256))).toNat) ||| BitVec.ofInt 64 (IntKind.u64.wrap ((IntKind.u64.wrap ((s.getD 5 0).toNat:Int)) * 65536))).toNat) ||| BitVec.ofInt 64 (IntKind.u64.wrap ((IntKind.u64.wrap ((s.getD 4 0).toNat:Int)) * 16777216))).toNat) ||| BitVec.ofInt 64 (IntKind.u64.wrap ((IntKind.u64.wrap ((s.getD 3 0).toNat:Int)) * 4294967296))).toNat) ||| BitVec.ofInt 64 (IntKind.u64.wrap ((IntKind.u64.wrap ((s.getD 2 0).toNat:Int)) * 1099511627776))).toNat) ||| BitVec.ofInt 64 (IntKind.u64.wrap ((IntKind.u64.wrap ((s.getD 1 0).toNat:Int)) * 281474976710656))).toNat))),(48,.v (.slice A s.length c))] 6 (qac qah) (fun _ h=>h ▸ aa.cells) rfl aX fun cw aY=>?_
 obtain ⟨bG,aZ,al,bf,ac⟩:=Slots.get ho (i:=0) (by omega)
 refine qbe aY (i:=41) (t:=24) (A:=A) (m:=s.length) (q:=0) (d:=49) kz (e:=5) (size:=1) (bytes:=1) (j:=0) kz al rfl (by omega) kz kz (qac qah) rfl fun bH am=>?_
 refine qbd am (i:=42) (t:=5) (b:=bG) (o:=aZ + 0 * 1) (d:=50) kz (cs:=[.int .u8 ((s.getD 0 0).toNat:Int)]) (v:=.int .u8 ((s.getD 0 0).toNat:Int)) kz (fun w' h'=>h' ▸ (AtF.move ac aa.step nilM qbg).at_) kz kz (qac qah) rfl fun bI ao=>?_
 refine qa0 [43,44,45,46] [(4,.v (.int .u64 (IntKind.u64.wrap (BitVec.ofInt 64 (IntKind.u64.wrap (BitVec.ofInt 64 (IntKind.u64.wrap (BitVec.ofInt 64 (IntKind.u64.wrap (BitVec.ofInt 64 (IntKind.u64.wrap (BitVec.ofInt 64 (IntKind.u64.wrap (BitVec.ofInt 64 (IntKind.u64.wrap (BitVec.ofInt 64 (IntKind.u64.wrap ((s.getD 7 0).toNat:Int)) ||| BitVec.ofInt 64 (IntKind.u64.wrap ((IntKind.u64.wrap ((s.getD 6 0).toNat:Int)) * 256))).toNat) ||| BitVec.ofInt 64 (IntKind.u64.wrap ((IntKind.u64.wrap ((s.getD 5 0).toNat:Int)) * 65536))).toNat) ||| BitVec.ofInt 64 (IntKind.u64.wrap ((IntKind.u64.wrap ((s.getD 4 0).toNat:Int)) * 16777216))).toNat) ||| BitVec.ofInt 64 (IntKind.u64.wrap ((IntKind.u64.wrap ((s.getD 3 0).toNat:Int)) * 4294967296))).toNat) ||| BitVec.ofInt 64 (IntKind.u64.wrap ((IntKind.u64.wrap ((s.getD 2 0).toNat:Int)) * 1099511627776))).toNat) ||| BitVec.ofInt 64 (IntKind.u64.wrap ((IntKind.u64.wrap ((s.getD 1 0).toNat:Int)) * 281474976710656))).toNat) ||| BitVec.ofInt 64 (IntKind.u64.wrap ((IntKind.u64.wrap ((s.getD 0 0).toNat:Int)) * 72057594037927936))).toNat)))] 0 (qac qah) (fun _ h=>h ▸ aa.cells) rfl ao fun bJ ap=>?_
 refine qaZ kz ?_ _
 refine qab (wp_ret (qaE ap aa.cells (v:=.int .u64 (IntKind.u64.wrap (BitVec.ofInt 64 (IntKind.u64.wrap (BitVec.ofInt 64 (IntKind.u64.wrap (BitVec.ofInt 64 (IntKind.u64.wrap (BitVec.ofInt 64 (IntKind.u64.wrap (BitVec.ofInt 64 (IntKind.u64.wrap (BitVec.ofInt 64 (IntKind.u64.wrap (BitVec.ofInt 64 (IntKind.u64.wrap ((s.getD 7 0).toNat:Int)) ||| BitVec.ofInt 64 (IntKind.u64.wrap ((IntKind.u64.wrap ((s.getD 6 0).toNat:Int)) * 256))).toNat) ||| BitVec.ofInt 64 (IntKind.u64.wrap ((IntKind.u64.wrap ((s.getD 5 0).toNat:Int)) * 65536))).toNat) ||| BitVec.ofInt 64 (IntKind.u64.wrap ((IntKind.u64.wrap ((s.getD 4 0).toNat:Int)) * 16777216))).toNat) ||| BitVec.ofInt 64 (IntKind.u64.wrap ((IntKind.u64.wrap ((s.getD 3 0).toNat:Int)) * 4294967296))).toNat) ||| BitVec.ofInt 64 (IntKind.u64.wrap ((IntKind.u64.wrap ((s.getD 2 0).toNat:Int)) * 1099511627776))).toNat) ||| BitVec.ofInt 64 (IntKind.u64.wrap ((IntKind.u64.wrap ((s.getD 1 0).toNat:Int)) * 281474976710656))).toNat) ||| BitVec.ofInt 64 (IntKind.u64.wrap ((IntKind.u64.wrap ((s.getD 0 0).toNat:Int)) * 72057594037927936))).toNat)) kz ?_))
 exact ⟨congrArg Ending.returned (congrArg (Value.int IntKind.u64) (qmn (oc s 0) (oc s 1) (oc s 2) (oc s 3) (oc s 4) (oc s 5) (oc s 6) (oc s 7) ob0 ob1 ob2 ob3 ob4 ob5 ob6 ob7)),aa.step⟩
theorem qim (x:Int) (rest:Bs)  {br:Nat} {A:Option Addr} {m c:Nat} {w:World} {F:Nat → Nat → Prop} (hst:Str w br [.slice A m c,.bool false]) (hr:RdS w F A m c (be 2 x ++ rest)) (hFd:∀ b o,F b o → ¬ RdM br b o) :
  Calls Tryz.prog 135 #[.pointer (some ⟨br,0,none⟩)] w (RdPost w br F rest fun v w'=>v = .int .i16 (IntKind.i16.wrap x)):=by
 obtain ⟨hm,ho⟩:=hr
 subst hm
 have hle:=ho.le
 refine enter (n:=32) Tryz.func135 rfl Tryz.ntmps135 kz fun a hE=>?_
 have hW:WOk w (RdM br) w [⟨br,0,[.slice A ((be 2 x ++ rest).length) c,.bool false],true⟩] []:=WOk.startStr hst
 have hE1:=(hE.grow ⟨br,0,[.slice A ((be 2 x ++ rest).length) c,.bool false],true⟩).recast 0 (.v (.pointer (some ⟨br,0,none⟩))) (.p 0 0) rfl rfl (Nat.le_of_ble_eq_true (n:=1) rfl)
 refine qar [(0,.p 0 0)] hW hE1 fun a1 hE2=>?_
 refine wp_seq (qar [(0,.p 0 0),(9,.v (.bool (decide ((((be 2 x ++ rest).length:Nat):Int) < 2))))] hW hE2 fun a3 hE4=>?_)
 refine qau hE4 (b:=decide ((((be 2 x ++ rest).length:Nat):Int) < 2)) kz (decide_eq_false (by first | omega | (simp only [List.length_append,be_length,List.length_cons,List.length_nil] at *; omega))) ?_
 refine wp_skip (qab (qbm 7 kz hW fun w5 hF6 hW7 hT8=>?_))
 refine qa0 [1,2,3,4] [(0,.p 0 0),(20,.v (.slice A ((be 2 x ++ rest).length) c))] 4 (qac qah) (fun _ h=>h.cells) hT8 hE4 fun a9 af=>?_
 refine qbd af (i:=0) (t:=191) (b:=0) (o:=0) (d:=16) kz (cs:=[]) (v:=.agg #[]) kz (fun w' h'=>(fun j_ v_ h_=>by simp at h_)) kz kz (qac qah) hT8 fun av ag=>?_
 refine qaO (i:=5) kz (qal ag (f:=157) (vs:=[.agg #[],.slice A ((be 2 x ++ rest).length) c]) (d:=21) kz Tryz.call157 (qmG _ (ho.move hW7.step (fun b_ o_ h_ _=>hFd b_ o_ h_) (hW7.immM hFd)) (by first | omega | (simp only [List.length_append,be_length,List.length_cons,List.length_nil] at *; omega))) ?_)
 rintro e_ aw ⟨rfl,ac⟩
 refine ⟨_,rfl,fun ax ah=>?_⟩
 have aa:=hW7.next_nil ac
 have ai:=hW7.frN ac
 have ae:=TT.ofW ai aa
 refine ⟨fun _=>ae,?_⟩
 refine qa0 [6] [(0,.p 0 0),(22,.v (.int .i16 (IntKind.i16.wrap (be16 (be 2 x ++ rest)))))] 1 (qac qah) (fun _ h=>h.cells) ae ah fun ay aj=>?_
 refine qaO (i:=7) kz (qcf [0,3] aa.cells aj (env':=[(0,.p 0 0),(3,.v (.int .i16 (IntKind.i16.wrap (be16 (be 2 x ++ rest)))))]) kz fun az ak=>?_)
 refine ⟨fun h=>absurd rfl h,?_⟩
 refine qaZ kz ?_ _
 refine qab (qae [0,1,2,3,4,5,6,7,8] kz ?_)
 refine qak [0,1,2,3,4] [5,6,7,8] [(3,.v (.int .i16 (IntKind.i16.wrap (be16 (be 2 x ++ rest))))),(23,.p 0 0),(27,.v (.slice A ((be 2 x ++ rest).length) c))] aa ak fun aA al=>?_
 refine qam (qbz al (t:=24) (A:=A) (m:=((be 2 x ++ rest).length)) (cp:=c) (q:=2) (d:=28) (j:=2) kz (e:=5) (bytes:=1) kz (rfl) (by first | omega | (simp only [List.length_append,be_length,List.length_cons,List.length_nil] at *; omega)) fun aB am=>?_)
 refine qak [6,7] [8] [(3,.v (.int .i16 (IntKind.i16.wrap (be16 (be 2 x ++ rest))))),(28,.v (.slice (cutA A c 2) (((be 2 x ++ rest).length) - 2) (c - 2))),(30,.p 0 0)] aa am fun aC ao=>?_
 refine qam (qaM aa ao (oi:=0) (cs:=[.slice (cutA A c 2) (((be 2 x ++ rest).length) - 2) (c - 2),.bool false]) kz fun aD au ab ap=>?_)
 refine qaf (qab ?_)
 refine qar [(2,.v (.int .i16 (IntKind.i16.wrap (be16 (be 2 x ++ rest)))))] ab ap fun aE ar=>?_
 refine wp_ret (qaE ar ab.cells (v:=.int .i16 (IntKind.i16.wrap (be16 (be 2 x ++ rest)))) kz ?_)
 exact ⟨_,_,_,_,rfl,Str.of ab 0 rfl,RdS.drop (s:=be 2 x) ⟨rfl,ho.move ab.step (fun b_ o_ h_ _=>hFd b_ o_ h_) qbg⟩ (by simp only [be_length,List.length_cons,List.length_nil]),ab.step,by rw [qlE,qlH]⟩
theorem qle (x:Int) (rest:Bs)  {br:Nat} {A:Option Addr} {m c:Nat} {w:World} {F:Nat → Nat → Prop} (hst:Str w br [.slice A m c,.bool false]) (hr:RdS w F A m c (be 4 x ++ rest)) (hFd:∀ b o,F b o → ¬ RdM br b o) :
  Calls Tryz.prog 117 #[.pointer (some ⟨br,0,none⟩)] w (RdPost w br F rest fun v w'=>v = .int .i32 (IntKind.i32.wrap x)):=by
 obtain ⟨hm,ho⟩:=hr
 subst hm
 have hle:=ho.le
 refine enter (n:=32) Tryz.func117 rfl Tryz.ntmps117 kz fun a hE=>?_
 have hW:WOk w (RdM br) w [⟨br,0,[.slice A ((be 4 x ++ rest).length) c,.bool false],true⟩] []:=WOk.startStr hst
 have hE1:=(hE.grow ⟨br,0,[.slice A ((be 4 x ++ rest).length) c,.bool false],true⟩).recast 0 (.v (.pointer (some ⟨br,0,none⟩))) (.p 0 0) rfl rfl (Nat.le_of_ble_eq_true (n:=1) rfl)
 refine qar [(0,.p 0 0)] hW hE1 fun a1 hE2=>?_
 refine wp_seq (qar [(0,.p 0 0),(9,.v (.bool (decide ((((be 4 x ++ rest).length:Nat):Int) < 4))))] hW hE2 fun a3 hE4=>?_)
 refine qau hE4 (b:=decide ((((be 4 x ++ rest).length:Nat):Int) < 4)) kz (decide_eq_false (by first | omega | (simp only [List.length_append,be_length,List.length_cons,List.length_nil] at *; omega))) ?_
 refine wp_skip (qab (qbm 7 kz hW fun w5 hF6 hW7 hT8=>?_))
 refine qa0 [1,2,3,4] [(0,.p 0 0),(20,.v (.slice A ((be 4 x ++ rest).length) c))] 4 (qac qah) (fun _ h=>h.cells) hT8 hE4 fun a9 af=>?_
 refine qbd af (i:=0) (t:=191) (b:=0) (o:=0) (d:=16) kz (cs:=[]) (v:=.agg #[]) kz (fun w' h'=>(fun j_ v_ h_=>by simp at h_)) kz kz (qac qah) hT8 fun av ag=>?_
 refine qaO (i:=5) kz (qal ag (f:=151) (vs:=[.agg #[],.slice A ((be 4 x ++ rest).length) c]) (d:=21) kz Tryz.call151 (qmH _ (ho.move hW7.step (fun b_ o_ h_ _=>hFd b_ o_ h_) (hW7.immM hFd)) (by first | omega | (simp only [List.length_append,be_length,List.length_cons,List.length_nil] at *; omega))) ?_)
 rintro e_ aw ⟨rfl,ac⟩
 refine ⟨_,rfl,fun ax ah=>?_⟩
 have aa:=hW7.next_nil ac
 have ai:=hW7.frN ac
 have ae:=TT.ofW ai aa
 refine ⟨fun _=>ae,?_⟩
 refine qa0 [6] [(0,.p 0 0),(22,.v (.int .i32 (IntKind.i32.wrap (be32 (be 4 x ++ rest)))))] 1 (qac qah) (fun _ h=>h.cells) ae ah fun ay aj=>?_
 refine qaO (i:=7) kz (qcf [0,3] aa.cells aj (env':=[(0,.p 0 0),(3,.v (.int .i32 (IntKind.i32.wrap (be32 (be 4 x ++ rest)))))]) kz fun az ak=>?_)
 refine ⟨fun h=>absurd rfl h,?_⟩
 refine qaZ kz ?_ _
 refine qab (qae [0,1,2,3,4,5,6,7,8] kz ?_)
 refine qak [0,1,2,3,4] [5,6,7,8] [(3,.v (.int .i32 (IntKind.i32.wrap (be32 (be 4 x ++ rest))))),(23,.p 0 0),(27,.v (.slice A ((be 4 x ++ rest).length) c))] aa ak fun aA al=>?_
 refine qam (qbz al (t:=24) (A:=A) (m:=((be 4 x ++ rest).length)) (cp:=c) (q:=4) (d:=28) (j:=4) kz (e:=5) (bytes:=1) kz (rfl) (by first | omega | (simp only [List.length_append,be_length,List.length_cons,List.length_nil] at *; omega)) fun aB am=>?_)
 refine qak [6,7] [8] [(3,.v (.int .i32 (IntKind.i32.wrap (be32 (be 4 x ++ rest))))),(28,.v (.slice (cutA A c 4) (((be 4 x ++ rest).length) - 4) (c - 4))),(30,.p 0 0)] aa am fun aC ao=>?_
 refine qam (qaM aa ao (oi:=0) (cs:=[.slice (cutA A c 4) (((be 4 x ++ rest).length) - 4) (c - 4),.bool false]) kz fun aD au ab ap=>?_)
 refine qaf (qab ?_)
 refine qar [(2,.v (.int .i32 (IntKind.i32.wrap (be32 (be 4 x ++ rest)))))] ab ap fun aE ar=>?_
 refine wp_ret (qaE ar ab.cells (v:=.int .i32 (IntKind.i32.wrap (be32 (be 4 x ++ rest)))) kz ?_)
 exact ⟨_,_,_,_,rfl,Str.of ab 0 rfl,RdS.drop (s:=be 4 x) ⟨rfl,ho.move ab.step (fun b_ o_ h_ _=>hFd b_ o_ h_) qbg⟩ (by simp only [be_length,List.length_cons,List.length_nil]),ab.step,by rw [qlF,qlI]⟩
theorem qlO (x:Int) (rest:Bs)  {br:Nat} {A:Option Addr} {m c:Nat} {w:World} {F:Nat → Nat → Prop} (hst:Str w br [.slice A m c,.bool false]) (hr:RdS w F A m c (be 8 x ++ rest)) (hFd:∀ b o,F b o → ¬ RdM br b o) :
  Calls Tryz.prog 152 #[.pointer (some ⟨br,0,none⟩)] w (RdPost w br F rest fun v w'=>v = .int .u64 (IntKind.u64.wrap x)):=by
 obtain ⟨hm,ho⟩:=hr
 subst hm
 have hle:=ho.le
 refine enter (n:=31) Tryz.func152 rfl Tryz.ntmps152 kz fun a hE=>?_
 have hW:WOk w (RdM br) w [⟨br,0,[.slice A ((be 8 x ++ rest).length) c,.bool false],true⟩] []:=WOk.startStr hst
 have hE1:=(hE.grow ⟨br,0,[.slice A ((be 8 x ++ rest).length) c,.bool false],true⟩).recast 0 (.v (.pointer (some ⟨br,0,none⟩))) (.p 0 0) rfl rfl (Nat.le_of_ble_eq_true (n:=1) rfl)
 refine qar [(0,.p 0 0)] hW hE1 fun a1 hE2=>?_
 refine wp_seq (qar [(0,.p 0 0),(9,.v (.bool (decide ((((be 8 x ++ rest).length:Nat):Int) < 8))))] hW hE2 fun a3 hE4=>?_)
 refine qau hE4 (b:=decide ((((be 8 x ++ rest).length:Nat):Int) < 8)) kz (decide_eq_false (by first | omega | (simp only [List.length_append,be_length,List.length_cons,List.length_nil] at *; omega))) ?_
 refine wp_skip (qab (qbm 6 kz hW fun w5 hF6 hW7 hT8=>?_))
 refine qa0 [1,2,3,4] [(0,.p 0 0),(20,.v (.slice A ((be 8 x ++ rest).length) c))] 3 (qac qah) (fun _ h=>h.cells) hT8 hE4 fun a9 ae=>?_
 refine qbd ae (i:=0) (t:=191) (b:=0) (o:=0) (d:=16) kz (cs:=[]) (v:=.agg #[]) kz (fun w' h'=>(fun j_ v_ h_=>by simp at h_)) kz kz (qac qah) hT8 fun au af=>?_
 refine qaO (i:=5) kz (qal af (f:=159) (vs:=[.agg #[],.slice A ((be 8 x ++ rest).length) c]) (d:=21) kz Tryz.call159 (qmI _ (ho.move hW7.step (fun b_ o_ h_ _=>hFd b_ o_ h_) (hW7.immM hFd)) (by first | omega | (simp only [List.length_append,be_length,List.length_cons,List.length_nil] at *; omega))) ?_)
 rintro e_ av ⟨rfl,ac⟩
 refine ⟨_,rfl,fun aw ag=>?_⟩
 have aa:=hW7.next_nil ac
 have ah:=hW7.frN ac
 have ai:=TT.ofW ah aa
 refine ⟨fun _=>ai,?_⟩
 refine qaO (i:=6) kz (qcf [0,3] aa.cells ag (env':=[(0,.p 0 0),(3,.v (.int .u64 (be64 (be 8 x ++ rest))))]) kz fun ax aj=>?_)
 refine ⟨fun h=>absurd rfl h,?_⟩
 refine qaZ kz ?_ _
 refine qab (qae [0,1,2,3,4,5,6,7,8] kz ?_)
 refine qak [0,1,2,3,4] [5,6,7,8] [(3,.v (.int .u64 (be64 (be 8 x ++ rest)))),(22,.p 0 0),(26,.v (.slice A ((be 8 x ++ rest).length) c))] aa aj fun ay ak=>?_
 refine qam (qbz ak (t:=24) (A:=A) (m:=((be 8 x ++ rest).length)) (cp:=c) (q:=8) (d:=27) (j:=8) kz (e:=5) (bytes:=1) kz (rfl) (by first | omega | (simp only [List.length_append,be_length,List.length_cons,List.length_nil] at *; omega)) fun az al=>?_)
 refine qak [6,7] [8] [(3,.v (.int .u64 (be64 (be 8 x ++ rest)))),(27,.v (.slice (cutA A c 8) (((be 8 x ++ rest).length) - 8) (c - 8))),(29,.p 0 0)] aa al fun aA am=>?_
 refine qam (qaM aa am (oi:=0) (cs:=[.slice (cutA A c 8) (((be 8 x ++ rest).length) - 8) (c - 8),.bool false]) kz fun aB ar ab ao=>?_)
 refine qaf (qab ?_)
 refine qar [(2,.v (.int .u64 (be64 (be 8 x ++ rest))))] ab ao fun aC ap=>?_
 refine wp_ret (qaE ap ab.cells (v:=.int .u64 (be64 (be 8 x ++ rest))) kz ?_)
 exact ⟨_,_,_,_,rfl,Str.of ab 0 rfl,RdS.drop (s:=be 8 x) ⟨rfl,ho.move ab.step (fun b_ o_ h_ _=>hFd b_ o_ h_) qbg⟩ (by simp only [be_length,List.length_cons,List.length_nil]),ab.step,by rw [qlG]⟩
abbrev z29 (x0) (x1) (x2):=([(0,.v (.slice x0 x1 x2)),(9,.v (.slice x0 x1 x2))]:Env)
theorem rUv1 {A:Option Addr} {c:Nat} (s:Bs) {w:World} {F:Nat → Nat → Prop} (ho:Octs w F A c s) (hl:1 ≤ s.length) (d0:Nat) (h0:oc s 0 = d0) (g0:d0 < 128) :
  Calls Tryz.prog 158 #[.slice A s.length c] w (qcF w (.tuple #[.int .u32 ((d0:Nat):Int),.int .i64 1])):=by
 refine enter (n:=87) Tryz.func158 rfl Tryz.ntmps158 kz fun a hE=>?_
 have hW:=WOk.start w Nil
 refine qar [(0,.v (.slice A s.length c))] hW hE fun a1 hE2=>?_
 refine wp_scope_straight (qar [(0,.v (.slice A s.length c))] hW hE2 fun a3 hE4=>?_)
 refine qar [(0,.v (.slice A s.length c))] hW hE4 fun a5 hE6=>?_
 refine wp_seq (qar [(0,.v (.slice A s.length c)),(8,.v (.bool (decide (((s.length:Nat):Int) < 1))))] hW hE6 fun a7 hE8=>?_)
 refine qau hE8 (b:=decide (((s.length:Nat):Int) < 1)) kz (decide_eq_false (by omega)) ?_
 refine wp_skip (qab (qae [0,1,2,3,4,5] kz ?_))
 refine qak [0] [1,2,3,4,5] (z29 A s.length c) hW hE8 fun a9 ae=>?_
 obtain ⟨am,ao,ab,ap,aa⟩:=Slots.get ho (i:=0) (by first | omega | (simp only [List.length_append,be_length,List.length_cons,List.length_nil] at *; omega))
 refine qam (qax ae (t:=24) (A:=A) (m:=s.length) (q:=0) (d:=10) kz (e:=5) (size:=1) (bytes:=1) (j:=0) kz ab rfl (by first | omega | (simp only [List.length_append,be_length,List.length_cons,List.length_nil] at *; omega)) fun ar af=>?_)
 refine qam (qaH af (t:=5) (b:=am) (o:=ao + 0 * 1) (d:=11) kz (cs:=[.int .u8 ((s.getD 0 0).toNat:Int)]) (v:=.int .u8 ((s.getD 0 0).toNat:Int)) kz (AtF.move aa hW.step nilM qbg).at_ fun au ag=>?_)
 refine qak [3,4,5] [] [(0,.v (.slice A s.length c)),(4,.v (.int .u32 (IntKind.u32.wrap (IntKind.u8.wrap (BitVec.ofInt 8 ((s.getD 0 0).toNat:Int) &&& BitVec.ofInt 8 127).toNat))))] hW ag fun av ah=>?_
 refine qaf (qab ?_)
 refine wp_seq (qae [0,1,2,3,4] kz ?_)
 refine qak [0] [1,2,3,4] [(0,.v (.slice A s.length c)),(4,.v (.int .u32 (IntKind.u32.wrap (IntKind.u8.wrap (BitVec.ofInt 8 ((s.getD 0 0).toNat:Int) &&& BitVec.ofInt 8 127).toNat)))),(14,.v (.slice A s.length c))] hW ah fun aw ai=>?_
 refine qam (qax ai (t:=24) (A:=A) (m:=s.length) (q:=0) (d:=15) kz (e:=5) (size:=1) (bytes:=1) (j:=0) kz ab rfl (by first | omega | (simp only [List.length_append,be_length,List.length_cons,List.length_nil] at *; omega)) fun ax aj=>?_)
 refine qam (qaH aj (t:=5) (b:=am) (o:=ao + 0 * 1) (d:=16) kz (cs:=[.int .u8 ((s.getD 0 0).toNat:Int)]) (v:=.int .u8 ((s.getD 0 0).toNat:Int)) kz (AtF.move aa hW.step nilM qbg).at_ fun ay ak=>?_)
 refine qak [3,4] [] [(0,.v (.slice A s.length c)),(4,.v (.int .u32 (IntKind.u32.wrap (IntKind.u8.wrap (BitVec.ofInt 8 ((s.getD 0 0).toNat:Int) &&& BitVec.ofInt 8 127).toNat)))),(18,.v (.bool ((IntKind.u8.wrap (BitVec.ofInt 8 ((s.getD 0 0).toNat:Int) &&& BitVec.ofInt 8 128).toNat) == 0)))] hW ak fun az ac=>?_
 refine qaf (qab ?_)
 refine qbw ac (b:=(IntKind.u8.wrap (BitVec.ofInt 8 ((s.getD 0 0).toNat:Int) &&& BitVec.ofInt 8 128).toNat) == 0) kz ((qdc _ (qbY s 0)).trans (decide_eq_true (by have:=h0; unfold oc at this; omega))) ?_
 refine qar [(2,.v (.int .u32 (IntKind.u32.wrap (IntKind.u8.wrap (BitVec.ofInt 8 ((s.getD 0 0).toNat:Int) &&& BitVec.ofInt 8 127).toNat)))),(3,.v (.int .i64 1))] hW ac fun aA al=>?_
 refine wp_ret (qaD (qd3 (qaE al hW.cells (v:=.tuple #[.int .u32 (IntKind.u32.wrap (IntKind.u8.wrap (BitVec.ofInt 8 ((s.getD 0 0).toNat:Int) &&& BitVec.ofInt 8 127).toNat)),.int .i64 1]) kz ?_)))
 have e_:=uv_1 (oc s 0) (qbY s 0)
 refine ⟨congrArg (fun z_:Int=>Ending.returned (.tuple #[.int .u32 z_,.int .i64 1])) (Eq.trans e_ ?_),hW.step⟩
 omega
theorem rUv2 {A:Option Addr} {c:Nat} (s:Bs) {w:World} {F:Nat → Nat → Prop} (ho:Octs w F A c s) (hl:2 ≤ s.length) (d0 d1:Nat) (h0:oc s 0 = d0 + 128) (h1:oc s 1 = d1) (g0:d0 < 128) (g1:d1 < 128) :
  Calls Tryz.prog 158 #[.slice A s.length c] w (qcF w (.tuple #[.int .u32 ((d0 + d1 * 128:Nat):Int),.int .i64 2])):=by
 refine enter (n:=87) Tryz.func158 rfl Tryz.ntmps158 kz fun a hE=>?_
 have hW:=WOk.start w Nil
 refine qar [(0,.v (.slice A s.length c))] hW hE fun a1 hE2=>?_
 refine wp_scope_straight (qar [(0,.v (.slice A s.length c))] hW hE2 fun a3 hE4=>?_)
 refine qar [(0,.v (.slice A s.length c))] hW hE4 fun a5 hE6=>?_
 refine wp_seq (qar [(0,.v (.slice A s.length c)),(8,.v (.bool (decide (((s.length:Nat):Int) < 1))))] hW hE6 fun a7 hE8=>?_)
 refine qau hE8 (b:=decide (((s.length:Nat):Int) < 1)) kz (decide_eq_false (by omega)) ?_
 refine wp_skip (qab (qae [0,1,2,3,4,5] kz ?_))
 refine qak [0] [1,2,3,4,5] (z29 A s.length c) hW hE8 fun a9 ai=>?_
 obtain ⟨aB,aC,ac,aF,aa⟩:=Slots.get ho (i:=0) (by first | omega | (simp only [List.length_append,be_length,List.length_cons,List.length_nil] at *; omega))
 refine qam (qax ai (t:=24) (A:=A) (m:=s.length) (q:=0) (d:=10) kz (e:=5) (size:=1) (bytes:=1) (j:=0) kz ac rfl (by first | omega | (simp only [List.length_append,be_length,List.length_cons,List.length_nil] at *; omega)) fun aH aj=>?_)
 refine qam (qaH aj (t:=5) (b:=aB) (o:=aC + 0 * 1) (d:=11) kz (cs:=[.int .u8 ((s.getD 0 0).toNat:Int)]) (v:=.int .u8 ((s.getD 0 0).toNat:Int)) kz (AtF.move aa hW.step nilM qbg).at_ fun aI ak=>?_)
 refine qak [3,4,5] [] [(0,.v (.slice A s.length c)),(4,.v (.int .u32 (IntKind.u32.wrap (IntKind.u8.wrap (BitVec.ofInt 8 ((s.getD 0 0).toNat:Int) &&& BitVec.ofInt 8 127).toNat))))] hW ak fun aJ al=>?_
 refine qaf (qab ?_)
 refine wp_seq (qae [0,1,2,3,4] kz ?_)
 refine qak [0] [1,2,3,4] [(0,.v (.slice A s.length c)),(4,.v (.int .u32 (IntKind.u32.wrap (IntKind.u8.wrap (BitVec.ofInt 8 ((s.getD 0 0).toNat:Int) &&& BitVec.ofInt 8 127).toNat)))),(14,.v (.slice A s.length c))] hW al fun aK am=>?_
 refine qam (qax am (t:=24) (A:=A) (m:=s.length) (q:=0) (d:=15) kz (e:=5) (size:=1) (bytes:=1) (j:=0) kz ac rfl (by first | omega | (simp only [List.length_append,be_length,List.length_cons,List.length_nil] at *; omega)) fun aL ao=>?_)
 refine qam (qaH ao (t:=5) (b:=aB) (o:=aC + 0 * 1) (d:=16) kz (cs:=[.int .u8 ((s.getD 0 0).toNat:Int)]) (v:=.int .u8 ((s.getD 0 0).toNat:Int)) kz (AtF.move aa hW.step nilM qbg).at_ fun aM ap=>?_)
 refine qak [3,4] [] [(0,.v (.slice A s.length c)),(4,.v (.int .u32 (IntKind.u32.wrap (IntKind.u8.wrap (BitVec.ofInt 8 ((s.getD 0 0).toNat:Int) &&& BitVec.ofInt 8 127).toNat)))),(18,.v (.bool ((IntKind.u8.wrap (BitVec.ofInt 8 ((s.getD 0 0).toNat:Int) &&& BitVec.ofInt 8 128).toNat) == 0)))] hW ap fun aN ae=>?_
 refine qaf (qab ?_)
 refine qau ae (b:=(IntKind.u8.wrap (BitVec.ofInt 8 ((s.getD 0 0).toNat:Int) &&& BitVec.ofInt 8 128).toNat) == 0) kz ((qdc _ (qbY s 0)).trans (decide_eq_false (by have:=h0; unfold oc at this; omega))) ?_
 refine qar [(0,.v (.slice A s.length c)),(4,.v (.int .u32 (IntKind.u32.wrap (IntKind.u8.wrap (BitVec.ofInt 8 ((s.getD 0 0).toNat:Int) &&& BitVec.ofInt 8 127).toNat)))),(22,.v (.bool (decide (((s.length:Nat):Int) < 2))))] hW ae fun aO af=>?_
 refine qau af (b:=decide (((s.length:Nat):Int) < 2)) kz (decide_eq_false (by omega)) ?_
 refine wp_skip (qab (qae [0,1,2,3,4,5,6,7,8] kz ?_))
 refine qak [0,1] [2,3,4,5,6,7,8] [(0,.v (.slice A s.length c)),(23,.v (.int .u32 (IntKind.u32.wrap (IntKind.u8.wrap (BitVec.ofInt 8 ((s.getD 0 0).toNat:Int) &&& BitVec.ofInt 8 127).toNat)))),(24,.v (.slice A s.length c))] hW af fun aP ar=>?_
 obtain ⟨aD,aE,ag,aG,ab⟩:=Slots.get ho (i:=1) (by first | omega | (simp only [List.length_append,be_length,List.length_cons,List.length_nil] at *; omega))
 refine qam (qax ar (t:=24) (A:=A) (m:=s.length) (q:=1) (d:=25) kz (e:=5) (size:=1) (bytes:=1) (j:=1) kz ag rfl (by first | omega | (simp only [List.length_append,be_length,List.length_cons,List.length_nil] at *; omega)) fun aQ au=>?_)
 refine qam (qaH au (t:=5) (b:=aD) (o:=aE + 1 * 1) (d:=26) kz (cs:=[.int .u8 ((s.getD 1 0).toNat:Int)]) (v:=.int .u8 ((s.getD 1 0).toNat:Int)) kz (AtF.move ab hW.step nilM qbg).at_ fun aR av=>?_)
 refine qak [4,5,6,7,8] [] [(0,.v (.slice A s.length c)),(4,.v (.int .u32 (IntKind.u32.wrap (BitVec.ofInt 32 (IntKind.u32.wrap (IntKind.u8.wrap (BitVec.ofInt 8 ((s.getD 0 0).toNat:Int) &&& BitVec.ofInt 8 127).toNat)) ||| BitVec.ofInt 32 (IntKind.u32.wrap ((IntKind.u32.wrap (IntKind.u8.wrap (BitVec.ofInt 8 ((s.getD 1 0).toNat:Int) &&& BitVec.ofInt 8 127).toNat)) * 128))).toNat)))] hW av fun aS aw=>?_
 refine qaf (qab ?_)
 refine wp_seq (qae [0,1,2,3,4] kz ?_)
 refine qak [0] [1,2,3,4] [(0,.v (.slice A s.length c)),(4,.v (.int .u32 (IntKind.u32.wrap (BitVec.ofInt 32 (IntKind.u32.wrap (IntKind.u8.wrap (BitVec.ofInt 8 ((s.getD 0 0).toNat:Int) &&& BitVec.ofInt 8 127).toNat)) ||| BitVec.ofInt 32 (IntKind.u32.wrap ((IntKind.u32.wrap (IntKind.u8.wrap (BitVec.ofInt 8 ((s.getD 1 0).toNat:Int) &&& BitVec.ofInt 8 127).toNat)) * 128))).toNat))),(31,.v (.slice A s.length c))] hW aw fun aT ax=>?_
 refine qam (qax ax (t:=24) (A:=A) (m:=s.length) (q:=1) (d:=32) kz (e:=5) (size:=1) (bytes:=1) (j:=1) kz ag rfl (by first | omega | (simp only [List.length_append,be_length,List.length_cons,List.length_nil] at *; omega)) fun aU ay=>?_)
 refine qam (qaH ay (t:=5) (b:=aD) (o:=aE + 1 * 1) (d:=33) kz (cs:=[.int .u8 ((s.getD 1 0).toNat:Int)]) (v:=.int .u8 ((s.getD 1 0).toNat:Int)) kz (AtF.move ab hW.step nilM qbg).at_ fun aV az=>?_)
 refine qak [3,4] [] [(0,.v (.slice A s.length c)),(4,.v (.int .u32 (IntKind.u32.wrap (BitVec.ofInt 32 (IntKind.u32.wrap (IntKind.u8.wrap (BitVec.ofInt 8 ((s.getD 0 0).toNat:Int) &&& BitVec.ofInt 8 127).toNat)) ||| BitVec.ofInt 32 (IntKind.u32.wrap ((IntKind.u32.wrap (IntKind.u8.wrap (BitVec.ofInt 8 ((s.getD 1 0).toNat:Int) &&& BitVec.ofInt 8 127).toNat)) * 128))).toNat))),(35,.v (.bool ((IntKind.u8.wrap (BitVec.ofInt 8 ((s.getD 1 0).toNat:Int) &&& BitVec.ofInt 8 128).toNat) == 0)))] hW az fun aW ah=>?_
 refine qaf (qab ?_)
 refine qbw ah (b:=(IntKind.u8.wrap (BitVec.ofInt 8 ((s.getD 1 0).toNat:Int) &&& BitVec.ofInt 8 128).toNat) == 0) kz ((qdc _ (qbY s 1)).trans (decide_eq_true (by have:=h1; unfold oc at this; omega))) ?_
 refine qar [(2,.v (.int .u32 (IntKind.u32.wrap (BitVec.ofInt 32 (IntKind.u32.wrap (IntKind.u8.wrap (BitVec.ofInt 8 ((s.getD 0 0).toNat:Int) &&& BitVec.ofInt 8 127).toNat)) ||| BitVec.ofInt 32 (IntKind.u32.wrap ((IntKind.u32.wrap (IntKind.u8.wrap (BitVec.ofInt 8 ((s.getD 1 0).toNat:Int) &&& BitVec.ofInt 8 127).toNat)) * 128))).toNat))),(3,.v (.int .i64 2))] hW ah fun aX aA=>?_
 refine wp_ret (qaD (qd3 (qaE aA hW.cells (v:=.tuple #[.int .u32 (IntKind.u32.wrap (BitVec.ofInt 32 (IntKind.u32.wrap (IntKind.u8.wrap (BitVec.ofInt 8 ((s.getD 0 0).toNat:Int) &&& BitVec.ofInt 8 127).toNat)) ||| BitVec.ofInt 32 (IntKind.u32.wrap ((IntKind.u32.wrap (IntKind.u8.wrap (BitVec.ofInt 8 ((s.getD 1 0).toNat:Int) &&& BitVec.ofInt 8 127).toNat)) * 128))).toNat),.int .i64 2]) kz ?_)))
 have e_:=uv_2 (oc s 0) (oc s 1) (qbY s 0) (qbY s 1)
 refine ⟨congrArg (fun z_:Int=>Ending.returned (.tuple #[.int .u32 z_,.int .i64 2])) (Eq.trans e_ ?_),hW.step⟩
 omega
theorem rUv3 {A:Option Addr} {c:Nat} (s:Bs) {w:World} {F:Nat → Nat → Prop} (ho:Octs w F A c s) (hl:3 ≤ s.length) (d0 d1 d2:Nat) (h0:oc s 0 = d0 + 128) (h1:oc s 1 = d1 + 128) (h2:oc s 2 = d2) (g0:d0 < 128) (g1:d1 < 128) (g2:d2 < 128) :
  Calls Tryz.prog 158 #[.slice A s.length c] w (qcF w (.tuple #[.int .u32 ((d0 + d1 * 128 + d2 * 16384:Nat):Int),.int .i64 3])):=by
 refine enter (n:=87) Tryz.func158 rfl Tryz.ntmps158 kz fun a hE=>?_
 have hW:=WOk.start w Nil
 refine qar [(0,.v (.slice A s.length c))] hW hE fun a1 hE2=>?_
 refine wp_scope_straight (qar [(0,.v (.slice A s.length c))] hW hE2 fun a3 hE4=>?_)
 refine qar [(0,.v (.slice A s.length c))] hW hE4 fun a5 hE6=>?_
 refine wp_seq (qar [(0,.v (.slice A s.length c)),(8,.v (.bool (decide (((s.length:Nat):Int) < 1))))] hW hE6 fun a7 hE8=>?_)
 refine qau hE8 (b:=decide (((s.length:Nat):Int) < 1)) kz (decide_eq_false (by omega)) ?_
 refine wp_skip (qab (qae [0,1,2,3,4,5] kz ?_))
 refine qak [0] [1,2,3,4,5] (z29 A s.length c) hW hE8 fun a9 am=>?_
 obtain ⟨aM,aN,ae,aS,aa⟩:=Slots.get ho (i:=0) (by first | omega | (simp only [List.length_append,be_length,List.length_cons,List.length_nil] at *; omega))
 refine qam (qax am (t:=24) (A:=A) (m:=s.length) (q:=0) (d:=10) kz (e:=5) (size:=1) (bytes:=1) (j:=0) kz ae rfl (by first | omega | (simp only [List.length_append,be_length,List.length_cons,List.length_nil] at *; omega)) fun aV ao=>?_)
 refine qam (qaH ao (t:=5) (b:=aM) (o:=aN + 0 * 1) (d:=11) kz (cs:=[.int .u8 ((s.getD 0 0).toNat:Int)]) (v:=.int .u8 ((s.getD 0 0).toNat:Int)) kz (AtF.move aa hW.step nilM qbg).at_ fun aW ap=>?_)
 refine qak [3,4,5] [] [(0,.v (.slice A s.length c)),(4,.v (.int .u32 (IntKind.u32.wrap (IntKind.u8.wrap (BitVec.ofInt 8 ((s.getD 0 0).toNat:Int) &&& BitVec.ofInt 8 127).toNat))))] hW ap fun aX ar=>?_
 refine qaf (qab ?_)
 refine wp_seq (qae [0,1,2,3,4] kz ?_)
 refine qak [0] [1,2,3,4] [(0,.v (.slice A s.length c)),(4,.v (.int .u32 (IntKind.u32.wrap (IntKind.u8.wrap (BitVec.ofInt 8 ((s.getD 0 0).toNat:Int) &&& BitVec.ofInt 8 127).toNat)))),(14,.v (.slice A s.length c))] hW ar fun aY au=>?_
 refine qam (qax au (t:=24) (A:=A) (m:=s.length) (q:=0) (d:=15) kz (e:=5) (size:=1) (bytes:=1) (j:=0) kz ae rfl (by first | omega | (simp only [List.length_append,be_length,List.length_cons,List.length_nil] at *; omega)) fun aZ av=>?_)
 refine qam (qaH av (t:=5) (b:=aM) (o:=aN + 0 * 1) (d:=16) kz (cs:=[.int .u8 ((s.getD 0 0).toNat:Int)]) (v:=.int .u8 ((s.getD 0 0).toNat:Int)) kz (AtF.move aa hW.step nilM qbg).at_ fun ba aw=>?_)
 refine qak [3,4] [] [(0,.v (.slice A s.length c)),(4,.v (.int .u32 (IntKind.u32.wrap (IntKind.u8.wrap (BitVec.ofInt 8 ((s.getD 0 0).toNat:Int) &&& BitVec.ofInt 8 127).toNat)))),(18,.v (.bool ((IntKind.u8.wrap (BitVec.ofInt 8 ((s.getD 0 0).toNat:Int) &&& BitVec.ofInt 8 128).toNat) == 0)))] hW aw fun bd af=>?_
 refine qaf (qab ?_)
 refine qau af (b:=(IntKind.u8.wrap (BitVec.ofInt 8 ((s.getD 0 0).toNat:Int) &&& BitVec.ofInt 8 128).toNat) == 0) kz ((qdc _ (qbY s 0)).trans (decide_eq_false (by have:=h0; unfold oc at this; omega))) ?_
 refine qar [(0,.v (.slice A s.length c)),(4,.v (.int .u32 (IntKind.u32.wrap (IntKind.u8.wrap (BitVec.ofInt 8 ((s.getD 0 0).toNat:Int) &&& BitVec.ofInt 8 127).toNat)))),(22,.v (.bool (decide (((s.length:Nat):Int) < 2))))] hW af fun bf ag=>?_
 refine qau ag (b:=decide (((s.length:Nat):Int) < 2)) kz (decide_eq_false (by omega)) ?_
 refine wp_skip (qab (qae [0,1,2,3,4,5,6,7,8] kz ?_))
 refine qak [0,1] [2,3,4,5,6,7,8] [(0,.v (.slice A s.length c)),(23,.v (.int .u32 (IntKind.u32.wrap (IntKind.u8.wrap (BitVec.ofInt 8 ((s.getD 0 0).toNat:Int) &&& BitVec.ofInt 8 127).toNat)))),(24,.v (.slice A s.length c))] hW ag fun bg ax=>?_
 obtain ⟨aO,aP,ah,aT,ab⟩:=Slots.get ho (i:=1) (by first | omega | (simp only [List.length_append,be_length,List.length_cons,List.length_nil] at *; omega))
 refine qam (qax ax (t:=24) (A:=A) (m:=s.length) (q:=1) (d:=25) kz (e:=5) (size:=1) (bytes:=1) (j:=1) kz ah rfl (by first | omega | (simp only [List.length_append,be_length,List.length_cons,List.length_nil] at *; omega)) fun bh ay=>?_)
 refine qam (qaH ay (t:=5) (b:=aO) (o:=aP + 1 * 1) (d:=26) kz (cs:=[.int .u8 ((s.getD 1 0).toNat:Int)]) (v:=.int .u8 ((s.getD 1 0).toNat:Int)) kz (AtF.move ab hW.step nilM qbg).at_ fun bi az=>?_)
 refine qak [4,5,6,7,8] [] [(0,.v (.slice A s.length c)),(4,.v (.int .u32 (IntKind.u32.wrap (BitVec.ofInt 32 (IntKind.u32.wrap (IntKind.u8.wrap (BitVec.ofInt 8 ((s.getD 0 0).toNat:Int) &&& BitVec.ofInt 8 127).toNat)) ||| BitVec.ofInt 32 (IntKind.u32.wrap ((IntKind.u32.wrap (IntKind.u8.wrap (BitVec.ofInt 8 ((s.getD 1 0).toNat:Int) &&& BitVec.ofInt 8 127).toNat)) * 128))).toNat)))] hW az fun bj aA=>?_
 refine qaf (qab ?_)
 refine wp_seq (qae [0,1,2,3,4] kz ?_)
 refine qak [0] [1,2,3,4] [(0,.v (.slice A s.length c)),(4,.v (.int .u32 (IntKind.u32.wrap (BitVec.ofInt 32 (IntKind.u32.wrap (IntKind.u8.wrap (BitVec.ofInt 8 ((s.getD 0 0).toNat:Int) &&& BitVec.ofInt 8 127).toNat)) ||| BitVec.ofInt 32 (IntKind.u32.wrap ((IntKind.u32.wrap (IntKind.u8.wrap (BitVec.ofInt 8 ((s.getD 1 0).toNat:Int) &&& BitVec.ofInt 8 127).toNat)) * 128))).toNat))),(31,.v (.slice A s.length c))] hW aA fun bk aB=>?_
 refine qam (qax aB (t:=24) (A:=A) (m:=s.length) (q:=1) (d:=32) kz (e:=5) (size:=1) (bytes:=1) (j:=1) kz ah rfl (by first | omega | (simp only [List.length_append,be_length,List.length_cons,List.length_nil] at *; omega)) fun bn aC=>?_)
 refine qam (qaH aC (t:=5) (b:=aO) (o:=aP + 1 * 1) (d:=33) kz (cs:=[.int .u8 ((s.getD 1 0).toNat:Int)]) (v:=.int .u8 ((s.getD 1 0).toNat:Int)) kz (AtF.move ab hW.step nilM qbg).at_ fun bo aD=>?_)
 refine qak [3,4] [] [(0,.v (.slice A s.length c)),(4,.v (.int .u32 (IntKind.u32.wrap (BitVec.ofInt 32 (IntKind.u32.wrap (IntKind.u8.wrap (BitVec.ofInt 8 ((s.getD 0 0).toNat:Int) &&& BitVec.ofInt 8 127).toNat)) ||| BitVec.ofInt 32 (IntKind.u32.wrap ((IntKind.u32.wrap (IntKind.u8.wrap (BitVec.ofInt 8 ((s.getD 1 0).toNat:Int) &&& BitVec.ofInt 8 127).toNat)) * 128))).toNat))),(35,.v (.bool ((IntKind.u8.wrap (BitVec.ofInt 8 ((s.getD 1 0).toNat:Int) &&& BitVec.ofInt 8 128).toNat) == 0)))] hW aD fun bp ai=>?_
 refine qaf (qab ?_)
 refine qau ai (b:=(IntKind.u8.wrap (BitVec.ofInt 8 ((s.getD 1 0).toNat:Int) &&& BitVec.ofInt 8 128).toNat) == 0) kz ((qdc _ (qbY s 1)).trans (decide_eq_false (by have:=h1; unfold oc at this; omega))) ?_
 refine qar [(0,.v (.slice A s.length c)),(4,.v (.int .u32 (IntKind.u32.wrap (BitVec.ofInt 32 (IntKind.u32.wrap (IntKind.u8.wrap (BitVec.ofInt 8 ((s.getD 0 0).toNat:Int) &&& BitVec.ofInt 8 127).toNat)) ||| BitVec.ofInt 32 (IntKind.u32.wrap ((IntKind.u32.wrap (IntKind.u8.wrap (BitVec.ofInt 8 ((s.getD 1 0).toNat:Int) &&& BitVec.ofInt 8 127).toNat)) * 128))).toNat))),(39,.v (.bool (decide (((s.length:Nat):Int) < 3))))] hW ai fun bq aj=>?_
 refine qau aj (b:=decide (((s.length:Nat):Int) < 3)) kz (decide_eq_false (by omega)) ?_
 refine wp_skip (qab (qae [0,1,2,3,4,5,6,7,8] kz ?_))
 refine qak [0,1] [2,3,4,5,6,7,8] [(0,.v (.slice A s.length c)),(40,.v (.int .u32 (IntKind.u32.wrap (BitVec.ofInt 32 (IntKind.u32.wrap (IntKind.u8.wrap (BitVec.ofInt 8 ((s.getD 0 0).toNat:Int) &&& BitVec.ofInt 8 127).toNat)) ||| BitVec.ofInt 32 (IntKind.u32.wrap ((IntKind.u32.wrap (IntKind.u8.wrap (BitVec.ofInt 8 ((s.getD 1 0).toNat:Int) &&& BitVec.ofInt 8 127).toNat)) * 128))).toNat))),(41,.v (.slice A s.length c))] hW aj fun bt aE=>?_
 obtain ⟨aQ,aR,ak,aU,ac⟩:=Slots.get ho (i:=2) (by first | omega | (simp only [List.length_append,be_length,List.length_cons,List.length_nil] at *; omega))
 refine qam (qax aE (t:=24) (A:=A) (m:=s.length) (q:=2) (d:=42) kz (e:=5) (size:=1) (bytes:=1) (j:=2) kz ak rfl (by first | omega | (simp only [List.length_append,be_length,List.length_cons,List.length_nil] at *; omega)) fun bu aF=>?_)
 refine qam (qaH aF (t:=5) (b:=aQ) (o:=aR + 2 * 1) (d:=43) kz (cs:=[.int .u8 ((s.getD 2 0).toNat:Int)]) (v:=.int .u8 ((s.getD 2 0).toNat:Int)) kz (AtF.move ac hW.step nilM qbg).at_ fun bw aG=>?_)
 refine qak [4,5,6,7,8] [] [(0,.v (.slice A s.length c)),(4,.v (.int .u32 (IntKind.u32.wrap (BitVec.ofInt 32 (IntKind.u32.wrap (BitVec.ofInt 32 (IntKind.u32.wrap (IntKind.u8.wrap (BitVec.ofInt 8 ((s.getD 0 0).toNat:Int) &&& BitVec.ofInt 8 127).toNat)) ||| BitVec.ofInt 32 (IntKind.u32.wrap ((IntKind.u32.wrap (IntKind.u8.wrap (BitVec.ofInt 8 ((s.getD 1 0).toNat:Int) &&& BitVec.ofInt 8 127).toNat)) * 128))).toNat) ||| BitVec.ofInt 32 (IntKind.u32.wrap ((IntKind.u32.wrap (IntKind.u8.wrap (BitVec.ofInt 8 ((s.getD 2 0).toNat:Int) &&& BitVec.ofInt 8 127).toNat)) * 16384))).toNat)))] hW aG fun bx aH=>?_
 refine qaf (qab ?_)
 refine wp_seq (qae [0,1,2,3,4] kz ?_)
 refine qak [0] [1,2,3,4] [(0,.v (.slice A s.length c)),(4,.v (.int .u32 (IntKind.u32.wrap (BitVec.ofInt 32 (IntKind.u32.wrap (BitVec.ofInt 32 (IntKind.u32.wrap (IntKind.u8.wrap (BitVec.ofInt 8 ((s.getD 0 0).toNat:Int) &&& BitVec.ofInt 8 127).toNat)) ||| BitVec.ofInt 32 (IntKind.u32.wrap ((IntKind.u32.wrap (IntKind.u8.wrap (BitVec.ofInt 8 ((s.getD 1 0).toNat:Int) &&& BitVec.ofInt 8 127).toNat)) * 128))).toNat) ||| BitVec.ofInt 32 (IntKind.u32.wrap ((IntKind.u32.wrap (IntKind.u8.wrap (BitVec.ofInt 8 ((s.getD 2 0).toNat:Int) &&& BitVec.ofInt 8 127).toNat)) * 16384))).toNat))),(48,.v (.slice A s.length c))] hW aH fun bz aI=>?_
 refine qam (qax aI (t:=24) (A:=A) (m:=s.length) (q:=2) (d:=49) kz (e:=5) (size:=1) (bytes:=1) (j:=2) kz ak rfl (by first | omega | (simp only [List.length_append,be_length,List.length_cons,List.length_nil] at *; omega)) fun bA aJ=>?_)
 refine qam (qaH aJ (t:=5) (b:=aQ) (o:=aR + 2 * 1) (d:=50) kz (cs:=[.int .u8 ((s.getD 2 0).toNat:Int)]) (v:=.int .u8 ((s.getD 2 0).toNat:Int)) kz (AtF.move ac hW.step nilM qbg).at_ fun bB aK=>?_)
 refine qak [3,4] [] [(0,.v (.slice A s.length c)),(4,.v (.int .u32 (IntKind.u32.wrap (BitVec.ofInt 32 (IntKind.u32.wrap (BitVec.ofInt 32 (IntKind.u32.wrap (IntKind.u8.wrap (BitVec.ofInt 8 ((s.getD 0 0).toNat:Int) &&& BitVec.ofInt 8 127).toNat)) ||| BitVec.ofInt 32 (IntKind.u32.wrap ((IntKind.u32.wrap (IntKind.u8.wrap (BitVec.ofInt 8 ((s.getD 1 0).toNat:Int) &&& BitVec.ofInt 8 127).toNat)) * 128))).toNat) ||| BitVec.ofInt 32 (IntKind.u32.wrap ((IntKind.u32.wrap (IntKind.u8.wrap (BitVec.ofInt 8 ((s.getD 2 0).toNat:Int) &&& BitVec.ofInt 8 127).toNat)) * 16384))).toNat))),(52,.v (.bool ((IntKind.u8.wrap (BitVec.ofInt 8 ((s.getD 2 0).toNat:Int) &&& BitVec.ofInt 8 128).toNat) == 0)))] hW aK fun bC al=>?_
 refine qaf (qab ?_)
 refine qbw al (b:=(IntKind.u8.wrap (BitVec.ofInt 8 ((s.getD 2 0).toNat:Int) &&& BitVec.ofInt 8 128).toNat) == 0) kz ((qdc _ (qbY s 2)).trans (decide_eq_true (by have:=h2; unfold oc at this; omega))) ?_
 refine qar [(2,.v (.int .u32 (IntKind.u32.wrap (BitVec.ofInt 32 (IntKind.u32.wrap (BitVec.ofInt 32 (IntKind.u32.wrap (IntKind.u8.wrap (BitVec.ofInt 8 ((s.getD 0 0).toNat:Int) &&& BitVec.ofInt 8 127).toNat)) ||| BitVec.ofInt 32 (IntKind.u32.wrap ((IntKind.u32.wrap (IntKind.u8.wrap (BitVec.ofInt 8 ((s.getD 1 0).toNat:Int) &&& BitVec.ofInt 8 127).toNat)) * 128))).toNat) ||| BitVec.ofInt 32 (IntKind.u32.wrap ((IntKind.u32.wrap (IntKind.u8.wrap (BitVec.ofInt 8 ((s.getD 2 0).toNat:Int) &&& BitVec.ofInt 8 127).toNat)) * 16384))).toNat))),(3,.v (.int .i64 3))] hW al fun bD aL=>?_
 refine wp_ret (qaD (qd3 (qaE aL hW.cells (v:=.tuple #[.int .u32 (IntKind.u32.wrap (BitVec.ofInt 32 (IntKind.u32.wrap (BitVec.ofInt 32 (IntKind.u32.wrap (IntKind.u8.wrap (BitVec.ofInt 8 ((s.getD 0 0).toNat:Int) &&& BitVec.ofInt 8 127).toNat)) ||| BitVec.ofInt 32 (IntKind.u32.wrap ((IntKind.u32.wrap (IntKind.u8.wrap (BitVec.ofInt 8 ((s.getD 1 0).toNat:Int) &&& BitVec.ofInt 8 127).toNat)) * 128))).toNat) ||| BitVec.ofInt 32 (IntKind.u32.wrap ((IntKind.u32.wrap (IntKind.u8.wrap (BitVec.ofInt 8 ((s.getD 2 0).toNat:Int) &&& BitVec.ofInt 8 127).toNat)) * 16384))).toNat),.int .i64 3]) kz ?_)))
 have e_:=uv_3 (oc s 0) (oc s 1) (oc s 2) (qbY s 0) (qbY s 1) (qbY s 2)
 refine ⟨congrArg (fun z_:Int=>Ending.returned (.tuple #[.int .u32 z_,.int .i64 3])) (Eq.trans e_ ?_),hW.step⟩
 omega
theorem rUv4 {A:Option Addr} {c:Nat} (s:Bs) {w:World} {F:Nat → Nat → Prop} (ho:Octs w F A c s) (hl:4 ≤ s.length) (d0 d1 d2 d3:Nat) (h0:oc s 0 = d0 + 128) (h1:oc s 1 = d1 + 128) (h2:oc s 2 = d2 + 128) (h3:oc s 3 = d3) (g0:d0 < 128) (g1:d1 < 128) (g2:d2 < 128) (g3:d3 < 128) :
  Calls Tryz.prog 158 #[.slice A s.length c] w (qcF w (.tuple #[.int .u32 ((d0 + d1 * 128 + d2 * 16384 + d3 * 2097152:Nat):Int),.int .i64 4])):=by
 refine enter (n:=87) Tryz.func158 rfl Tryz.ntmps158 kz fun a hE=>?_
 have hW:=WOk.start w Nil
 refine qar [(0,.v (.slice A s.length c))] hW hE fun a1 hE2=>?_
 refine wp_scope_straight (qar [(0,.v (.slice A s.length c))] hW hE2 fun a3 hE4=>?_)
 refine qar [(0,.v (.slice A s.length c))] hW hE4 fun a5 hE6=>?_
 refine wp_seq (qar [(0,.v (.slice A s.length c)),(8,.v (.bool (decide (((s.length:Nat):Int) < 1))))] hW hE6 fun a7 hE8=>?_)
 refine qau hE8 (b:=decide (((s.length:Nat):Int) < 1)) kz (decide_eq_false (by omega)) ?_
 refine wp_skip (qab (qae [0,1,2,3,4,5] kz ?_))
 refine qak [0] [1,2,3,4,5] (z29 A s.length c) hW hE8 fun a9 av=>?_
 obtain ⟨aX,aY,af,bi,aa⟩:=Slots.get ho (i:=0) (by first | omega | (simp only [List.length_append,be_length,List.length_cons,List.length_nil] at *; omega))
 refine qam (qax av (t:=24) (A:=A) (m:=s.length) (q:=0) (d:=10) kz (e:=5) (size:=1) (bytes:=1) (j:=0) kz af rfl (by first | omega | (simp only [List.length_append,be_length,List.length_cons,List.length_nil] at *; omega)) fun bo aw=>?_)
 refine qam (qaH aw (t:=5) (b:=aX) (o:=aY + 0 * 1) (d:=11) kz (cs:=[.int .u8 ((s.getD 0 0).toNat:Int)]) (v:=.int .u8 ((s.getD 0 0).toNat:Int)) kz (AtF.move aa hW.step nilM qbg).at_ fun bp ax=>?_)
 refine qak [3,4,5] [] [(0,.v (.slice A s.length c)),(4,.v (.int .u32 (IntKind.u32.wrap (IntKind.u8.wrap (BitVec.ofInt 8 ((s.getD 0 0).toNat:Int) &&& BitVec.ofInt 8 127).toNat))))] hW ax fun bq ay=>?_
 refine qaf (qab ?_)
 refine wp_seq (qae [0,1,2,3,4] kz ?_)
 refine qak [0] [1,2,3,4] [(0,.v (.slice A s.length c)),(4,.v (.int .u32 (IntKind.u32.wrap (IntKind.u8.wrap (BitVec.ofInt 8 ((s.getD 0 0).toNat:Int) &&& BitVec.ofInt 8 127).toNat)))),(14,.v (.slice A s.length c))] hW ay fun bt az=>?_
 refine qam (qax az (t:=24) (A:=A) (m:=s.length) (q:=0) (d:=15) kz (e:=5) (size:=1) (bytes:=1) (j:=0) kz af rfl (by first | omega | (simp only [List.length_append,be_length,List.length_cons,List.length_nil] at *; omega)) fun bu aA=>?_)
 refine qam (qaH aA (t:=5) (b:=aX) (o:=aY + 0 * 1) (d:=16) kz (cs:=[.int .u8 ((s.getD 0 0).toNat:Int)]) (v:=.int .u8 ((s.getD 0 0).toNat:Int)) kz (AtF.move aa hW.step nilM qbg).at_ fun bw aB=>?_)
 refine qak [3,4] [] [(0,.v (.slice A s.length c)),(4,.v (.int .u32 (IntKind.u32.wrap (IntKind.u8.wrap (BitVec.ofInt 8 ((s.getD 0 0).toNat:Int) &&& BitVec.ofInt 8 127).toNat)))),(18,.v (.bool ((IntKind.u8.wrap (BitVec.ofInt 8 ((s.getD 0 0).toNat:Int) &&& BitVec.ofInt 8 128).toNat) == 0)))] hW aB fun bx ag=>?_
 refine qaf (qab ?_)
 refine qau ag (b:=(IntKind.u8.wrap (BitVec.ofInt 8 ((s.getD 0 0).toNat:Int) &&& BitVec.ofInt 8 128).toNat) == 0) kz ((qdc _ (qbY s 0)).trans (decide_eq_false (by have:=h0; unfold oc at this; omega))) ?_
 refine qar [(0,.v (.slice A s.length c)),(4,.v (.int .u32 (IntKind.u32.wrap (IntKind.u8.wrap (BitVec.ofInt 8 ((s.getD 0 0).toNat:Int) &&& BitVec.ofInt 8 127).toNat)))),(22,.v (.bool (decide (((s.length:Nat):Int) < 2))))] hW ag fun bz ah=>?_
 refine qau ah (b:=decide (((s.length:Nat):Int) < 2)) kz (decide_eq_false (by omega)) ?_
 refine wp_skip (qab (qae [0,1,2,3,4,5,6,7,8] kz ?_))
 refine qak [0,1] [2,3,4,5,6,7,8] [(0,.v (.slice A s.length c)),(23,.v (.int .u32 (IntKind.u32.wrap (IntKind.u8.wrap (BitVec.ofInt 8 ((s.getD 0 0).toNat:Int) &&& BitVec.ofInt 8 127).toNat)))),(24,.v (.slice A s.length c))] hW ah fun bA aC=>?_
 obtain ⟨aZ,ba,ai,bj,ab⟩:=Slots.get ho (i:=1) (by first | omega | (simp only [List.length_append,be_length,List.length_cons,List.length_nil] at *; omega))
 refine qam (qax aC (t:=24) (A:=A) (m:=s.length) (q:=1) (d:=25) kz (e:=5) (size:=1) (bytes:=1) (j:=1) kz ai rfl (by first | omega | (simp only [List.length_append,be_length,List.length_cons,List.length_nil] at *; omega)) fun bB aD=>?_)
 refine qam (qaH aD (t:=5) (b:=aZ) (o:=ba + 1 * 1) (d:=26) kz (cs:=[.int .u8 ((s.getD 1 0).toNat:Int)]) (v:=.int .u8 ((s.getD 1 0).toNat:Int)) kz (AtF.move ab hW.step nilM qbg).at_ fun bC aE=>?_)
 refine qak [4,5,6,7,8] [] [(0,.v (.slice A s.length c)),(4,.v (.int .u32 (IntKind.u32.wrap (BitVec.ofInt 32 (IntKind.u32.wrap (IntKind.u8.wrap (BitVec.ofInt 8 ((s.getD 0 0).toNat:Int) &&& BitVec.ofInt 8 127).toNat)) ||| BitVec.ofInt 32 (IntKind.u32.wrap ((IntKind.u32.wrap (IntKind.u8.wrap (BitVec.ofInt 8 ((s.getD 1 0).toNat:Int) &&& BitVec.ofInt 8 127).toNat)) * 128))).toNat)))] hW aE fun bD aF=>?_
 refine qaf (qab ?_)
 refine wp_seq (qae [0,1,2,3,4] kz ?_)
 refine qak [0] [1,2,3,4] [(0,.v (.slice A s.length c)),(4,.v (.int .u32 (IntKind.u32.wrap (BitVec.ofInt 32 (IntKind.u32.wrap (IntKind.u8.wrap (BitVec.ofInt 8 ((s.getD 0 0).toNat:Int) &&& BitVec.ofInt 8 127).toNat)) ||| BitVec.ofInt 32 (IntKind.u32.wrap ((IntKind.u32.wrap (IntKind.u8.wrap (BitVec.ofInt 8 ((s.getD 1 0).toNat:Int) &&& BitVec.ofInt 8 127).toNat)) * 128))).toNat))),(31,.v (.slice A s.length c))] hW aF fun bE aG=>?_
 refine qam (qax aG (t:=24) (A:=A) (m:=s.length) (q:=1) (d:=32) kz (e:=5) (size:=1) (bytes:=1) (j:=1) kz ai rfl (by first | omega | (simp only [List.length_append,be_length,List.length_cons,List.length_nil] at *; omega)) fun bF aH=>?_)
 refine qam (qaH aH (t:=5) (b:=aZ) (o:=ba + 1 * 1) (d:=33) kz (cs:=[.int .u8 ((s.getD 1 0).toNat:Int)]) (v:=.int .u8 ((s.getD 1 0).toNat:Int)) kz (AtF.move ab hW.step nilM qbg).at_ fun bG aI=>?_)
 refine qak [3,4] [] [(0,.v (.slice A s.length c)),(4,.v (.int .u32 (IntKind.u32.wrap (BitVec.ofInt 32 (IntKind.u32.wrap (IntKind.u8.wrap (BitVec.ofInt 8 ((s.getD 0 0).toNat:Int) &&& BitVec.ofInt 8 127).toNat)) ||| BitVec.ofInt 32 (IntKind.u32.wrap ((IntKind.u32.wrap (IntKind.u8.wrap (BitVec.ofInt 8 ((s.getD 1 0).toNat:Int) &&& BitVec.ofInt 8 127).toNat)) * 128))).toNat))),(35,.v (.bool ((IntKind.u8.wrap (BitVec.ofInt 8 ((s.getD 1 0).toNat:Int) &&& BitVec.ofInt 8 128).toNat) == 0)))] hW aI fun bH aj=>?_
 refine qaf (qab ?_)
 refine qau aj (b:=(IntKind.u8.wrap (BitVec.ofInt 8 ((s.getD 1 0).toNat:Int) &&& BitVec.ofInt 8 128).toNat) == 0) kz ((qdc _ (qbY s 1)).trans (decide_eq_false (by have:=h1; unfold oc at this; omega))) ?_
 refine qar [(0,.v (.slice A s.length c)),(4,.v (.int .u32 (IntKind.u32.wrap (BitVec.ofInt 32 (IntKind.u32.wrap (IntKind.u8.wrap (BitVec.ofInt 8 ((s.getD 0 0).toNat:Int) &&& BitVec.ofInt 8 127).toNat)) ||| BitVec.ofInt 32 (IntKind.u32.wrap ((IntKind.u32.wrap (IntKind.u8.wrap (BitVec.ofInt 8 ((s.getD 1 0).toNat:Int) &&& BitVec.ofInt 8 127).toNat)) * 128))).toNat))),(39,.v (.bool (decide (((s.length:Nat):Int) < 3))))] hW aj fun bI ak=>?_
 refine qau ak (b:=decide (((s.length:Nat):Int) < 3)) kz (decide_eq_false (by omega)) ?_
 refine wp_skip (qab (qae [0,1,2,3,4,5,6,7,8] kz ?_))
 refine qak [0,1] [2,3,4,5,6,7,8] [(0,.v (.slice A s.length c)),(40,.v (.int .u32 (IntKind.u32.wrap (BitVec.ofInt 32 (IntKind.u32.wrap (IntKind.u8.wrap (BitVec.ofInt 8 ((s.getD 0 0).toNat:Int) &&& BitVec.ofInt 8 127).toNat)) ||| BitVec.ofInt 32 (IntKind.u32.wrap ((IntKind.u32.wrap (IntKind.u8.wrap (BitVec.ofInt 8 ((s.getD 1 0).toNat:Int) &&& BitVec.ofInt 8 127).toNat)) * 128))).toNat))),(41,.v (.slice A s.length c))] hW ak fun bJ aJ=>?_
 obtain ⟨bd,bf,al,bk,ac⟩:=Slots.get ho (i:=2) (by first | omega | (simp only [List.length_append,be_length,List.length_cons,List.length_nil] at *; omega))
 refine qam (qax aJ (t:=24) (A:=A) (m:=s.length) (q:=2) (d:=42) kz (e:=5) (size:=1) (bytes:=1) (j:=2) kz al rfl (by first | omega | (simp only [List.length_append,be_length,List.length_cons,List.length_nil] at *; omega)) fun bK aK=>?_)
 refine qam (qaH aK (t:=5) (b:=bd) (o:=bf + 2 * 1) (d:=43) kz (cs:=[.int .u8 ((s.getD 2 0).toNat:Int)]) (v:=.int .u8 ((s.getD 2 0).toNat:Int)) kz (AtF.move ac hW.step nilM qbg).at_ fun bL aL=>?_)
 refine qak [4,5,6,7,8] [] [(0,.v (.slice A s.length c)),(4,.v (.int .u32 (IntKind.u32.wrap (BitVec.ofInt 32 (IntKind.u32.wrap (BitVec.ofInt 32 (IntKind.u32.wrap (IntKind.u8.wrap (BitVec.ofInt 8 ((s.getD 0 0).toNat:Int) &&& BitVec.ofInt 8 127).toNat)) ||| BitVec.ofInt 32 (IntKind.u32.wrap ((IntKind.u32.wrap (IntKind.u8.wrap (BitVec.ofInt 8 ((s.getD 1 0).toNat:Int) &&& BitVec.ofInt 8 127).toNat)) * 128))).toNat) ||| BitVec.ofInt 32 (IntKind.u32.wrap ((IntKind.u32.wrap (IntKind.u8.wrap (BitVec.ofInt 8 ((s.getD 2 0).toNat:Int) &&& BitVec.ofInt 8 127).toNat)) * 16384))).toNat)))] hW aL fun bM aM=>?_
 refine qaf (qab ?_)
 refine wp_seq (qae [0,1,2,3,4] kz ?_)
 refine qak [0] [1,2,3,4] [(0,.v (.slice A s.length c)),(4,.v (.int .u32 (IntKind.u32.wrap (BitVec.ofInt 32 (IntKind.u32.wrap (BitVec.ofInt 32 (IntKind.u32.wrap (IntKind.u8.wrap (BitVec.ofInt 8 ((s.getD 0 0).toNat:Int) &&& BitVec.ofInt 8 127).toNat)) ||| BitVec.ofInt 32 (IntKind.u32.wrap ((IntKind.u32.wrap (IntKind.u8.wrap (BitVec.ofInt 8 ((s.getD 1 0).toNat:Int) &&& BitVec.ofInt 8 127).toNat)) * 128))).toNat) ||| BitVec.ofInt 32 (IntKind.u32.wrap ((IntKind.u32.wrap (IntKind.u8.wrap (BitVec.ofInt 8 ((s.getD 2 0).toNat:Int) &&& BitVec.ofInt 8 127).toNat)) * 16384))).toNat))),(48,.v (.slice A s.length c))] hW aM fun bN aN=>?_
 refine qam (qax aN (t:=24) (A:=A) (m:=s.length) (q:=2) (d:=49) kz (e:=5) (size:=1) (bytes:=1) (j:=2) kz al rfl (by first | omega | (simp only [List.length_append,be_length,List.length_cons,List.length_nil] at *; omega)) fun bO aO=>?_)
 refine qam (qaH aO (t:=5) (b:=bd) (o:=bf + 2 * 1) (d:=50) kz (cs:=[.int .u8 ((s.getD 2 0).toNat:Int)]) (v:=.int .u8 ((s.getD 2 0).toNat:Int)) kz (AtF.move ac hW.step nilM qbg).at_ fun bP aP=>?_)
 refine qak [3,4] [] [(0,.v (.slice A s.length c)),(4,.v (.int .u32 (IntKind.u32.wrap (BitVec.ofInt 32 (IntKind.u32.wrap (BitVec.ofInt 32 (IntKind.u32.wrap (IntKind.u8.wrap (BitVec.ofInt 8 ((s.getD 0 0).toNat:Int) &&& BitVec.ofInt 8 127).toNat)) ||| BitVec.ofInt 32 (IntKind.u32.wrap ((IntKind.u32.wrap (IntKind.u8.wrap (BitVec.ofInt 8 ((s.getD 1 0).toNat:Int) &&& BitVec.ofInt 8 127).toNat)) * 128))).toNat) ||| BitVec.ofInt 32 (IntKind.u32.wrap ((IntKind.u32.wrap (IntKind.u8.wrap (BitVec.ofInt 8 ((s.getD 2 0).toNat:Int) &&& BitVec.ofInt 8 127).toNat)) * 16384))).toNat))),(52,.v (.bool ((IntKind.u8.wrap (BitVec.ofInt 8 ((s.getD 2 0).toNat:Int) &&& BitVec.ofInt 8 128).toNat) == 0)))] hW aP fun bQ am=>?_
 refine qaf (qab ?_)
 refine qau am (b:=(IntKind.u8.wrap (BitVec.ofInt 8 ((s.getD 2 0).toNat:Int) &&& BitVec.ofInt 8 128).toNat) == 0) kz ((qdc _ (qbY s 2)).trans (decide_eq_false (by have:=h2; unfold oc at this; omega))) ?_
 refine qar [(0,.v (.slice A s.length c)),(4,.v (.int .u32 (IntKind.u32.wrap (BitVec.ofInt 32 (IntKind.u32.wrap (BitVec.ofInt 32 (IntKind.u32.wrap (IntKind.u8.wrap (BitVec.ofInt 8 ((s.getD 0 0).toNat:Int) &&& BitVec.ofInt 8 127).toNat)) ||| BitVec.ofInt 32 (IntKind.u32.wrap ((IntKind.u32.wrap (IntKind.u8.wrap (BitVec.ofInt 8 ((s.getD 1 0).toNat:Int) &&& BitVec.ofInt 8 127).toNat)) * 128))).toNat) ||| BitVec.ofInt 32 (IntKind.u32.wrap ((IntKind.u32.wrap (IntKind.u8.wrap (BitVec.ofInt 8 ((s.getD 2 0).toNat:Int) &&& BitVec.ofInt 8 127).toNat)) * 16384))).toNat))),(56,.v (.bool (decide (((s.length:Nat):Int) < 4))))] hW am fun bR ao=>?_
 refine qau ao (b:=decide (((s.length:Nat):Int) < 4)) kz (decide_eq_false (by omega)) ?_
 refine wp_skip (qab (qae [0,1,2,3,4,5,6,7,8] kz ?_))
 refine qak [0,1] [2,3,4,5,6,7,8] [(0,.v (.slice A s.length c)),(57,.v (.int .u32 (IntKind.u32.wrap (BitVec.ofInt 32 (IntKind.u32.wrap (BitVec.ofInt 32 (IntKind.u32.wrap (IntKind.u8.wrap (BitVec.ofInt 8 ((s.getD 0 0).toNat:Int) &&& BitVec.ofInt 8 127).toNat)) ||| BitVec.ofInt 32 (IntKind.u32.wrap ((IntKind.u32.wrap (IntKind.u8.wrap (BitVec.ofInt 8 ((s.getD 1 0).toNat:Int) &&& BitVec.ofInt 8 127).toNat)) * 128))).toNat) ||| BitVec.ofInt 32 (IntKind.u32.wrap ((IntKind.u32.wrap (IntKind.u8.wrap (BitVec.ofInt 8 ((s.getD 2 0).toNat:Int) &&& BitVec.ofInt 8 127).toNat)) * 16384))).toNat))),(58,.v (.slice A s.length c))] hW ao fun bS aQ=>?_
 obtain ⟨bg,bh,ap,bn,ae⟩:=Slots.get ho (i:=3) (by first | omega | (simp only [List.length_append,be_length,List.length_cons,List.length_nil] at *; omega))
 refine qam (qax aQ (t:=24) (A:=A) (m:=s.length) (q:=3) (d:=59) kz (e:=5) (size:=1) (bytes:=1) (j:=3) kz ap rfl (by first | omega | (simp only [List.length_append,be_length,List.length_cons,List.length_nil] at *; omega)) fun bT aR=>?_)
 refine qam (qaH aR (t:=5) (b:=bg) (o:=bh + 3 * 1) (d:=60) kz (cs:=[.int .u8 ((s.getD 3 0).toNat:Int)]) (v:=.int .u8 ((s.getD 3 0).toNat:Int)) kz (AtF.move ae hW.step nilM qbg).at_ fun bU aS=>?_)
 refine qak [4,5,6,7,8] [] [(0,.v (.slice A s.length c)),(4,.v (.int .u32 (IntKind.u32.wrap (BitVec.ofInt 32 (IntKind.u32.wrap (BitVec.ofInt 32 (IntKind.u32.wrap (BitVec.ofInt 32 (IntKind.u32.wrap (IntKind.u8.wrap (BitVec.ofInt 8 ((s.getD 0 0).toNat:Int) &&& BitVec.ofInt 8 127).toNat)) ||| BitVec.ofInt 32 (IntKind.u32.wrap ((IntKind.u32.wrap (IntKind.u8.wrap (BitVec.ofInt 8 ((s.getD 1 0).toNat:Int) &&& BitVec.ofInt 8 127).toNat)) * 128))).toNat) ||| BitVec.ofInt 32 (IntKind.u32.wrap ((IntKind.u32.wrap (IntKind.u8.wrap (BitVec.ofInt 8 ((s.getD 2 0).toNat:Int) &&& BitVec.ofInt 8 127).toNat)) * 16384))).toNat) ||| BitVec.ofInt 32 (IntKind.u32.wrap ((IntKind.u32.wrap (IntKind.u8.wrap (BitVec.ofInt 8 ((s.getD 3 0).toNat:Int) &&& BitVec.ofInt 8 127).toNat)) * 2097152))).toNat)))] hW aS fun bV aT=>?_
 refine qaf (qab ?_)
 refine wp_seq (qae [0,1,2,3,4] kz ?_)
 refine qak [0] [1,2,3,4] [(0,.v (.slice A s.length c)),(4,.v (.int .u32 (IntKind.u32.wrap (BitVec.ofInt 32 (IntKind.u32.wrap (BitVec.ofInt 32 (IntKind.u32.wrap (BitVec.ofInt 32 (IntKind.u32.wrap (IntKind.u8.wrap (BitVec.ofInt 8 ((s.getD 0 0).toNat:Int) &&& BitVec.ofInt 8 127).toNat)) ||| BitVec.ofInt 32 (IntKind.u32.wrap ((IntKind.u32.wrap (IntKind.u8.wrap (BitVec.ofInt 8 ((s.getD 1 0).toNat:Int) &&& BitVec.ofInt 8 127).toNat)) * 128))).toNat) ||| BitVec.ofInt 32 (IntKind.u32.wrap ((IntKind.u32.wrap (IntKind.u8.wrap (BitVec.ofInt 8 ((s.getD 2 0).toNat:Int) &&& BitVec.ofInt 8 127).toNat)) * 16384))).toNat) ||| BitVec.ofInt 32 (IntKind.u32.wrap ((IntKind.u32.wrap (IntKind.u8.wrap (BitVec.ofInt 8 ((s.getD 3 0).toNat:Int) &&& BitVec.ofInt 8 127).toNat)) * 2097152))).toNat))),(65,.v (.slice A s.length c))] hW aT fun bW aU=>?_
 refine qam (qax aU (t:=24) (A:=A) (m:=s.length) (q:=3) (d:=66) kz (e:=5) (size:=1) (bytes:=1) (j:=3) kz ap rfl (by first | omega | (simp only [List.length_append,be_length,List.length_cons,List.length_nil] at *; omega)) fun bX aV=>?_)
 refine qam (qaH aV (t:=5) (b:=bg) (o:=bh + 3 * 1) (d:=67) kz (cs:=[.int .u8 ((s.getD 3 0).toNat:Int)]) (v:=.int .u8 ((s.getD 3 0).toNat:Int)) kz (AtF.move ae hW.step nilM qbg).at_ fun bY aW=>?_)
 refine qak [3,4] [] [(0,.v (.slice A s.length c)),(4,.v (.int .u32 (IntKind.u32.wrap (BitVec.ofInt 32 (IntKind.u32.wrap (BitVec.ofInt 32 (IntKind.u32.wrap (BitVec.ofInt 32 (IntKind.u32.wrap (IntKind.u8.wrap (BitVec.ofInt 8 ((s.getD 0 0).toNat:Int) &&& BitVec.ofInt 8 127).toNat)) ||| BitVec.ofInt 32 (IntKind.u32.wrap ((IntKind.u32.wrap (IntKind.u8.wrap (BitVec.ofInt 8 ((s.getD 1 0).toNat:Int) &&& BitVec.ofInt 8 127).toNat)) * 128))).toNat) ||| BitVec.ofInt 32 (IntKind.u32.wrap ((IntKind.u32.wrap (IntKind.u8.wrap (BitVec.ofInt 8 ((s.getD 2 0).toNat:Int) &&& BitVec.ofInt 8 127).toNat)) * 16384))).toNat) ||| BitVec.ofInt 32 (IntKind.u32.wrap ((IntKind.u32.wrap (IntKind.u8.wrap (BitVec.ofInt 8 ((s.getD 3 0).toNat:Int) &&& BitVec.ofInt 8 127).toNat)) * 2097152))).toNat))),(69,.v (.bool ((IntKind.u8.wrap (BitVec.ofInt 8 ((s.getD 3 0).toNat:Int) &&& BitVec.ofInt 8 128).toNat) == 0)))] hW aW fun bZ ar=>?_
 refine qaf (qab ?_)
 refine qbw ar (b:=(IntKind.u8.wrap (BitVec.ofInt 8 ((s.getD 3 0).toNat:Int) &&& BitVec.ofInt 8 128).toNat) == 0) kz ((qdc _ (qbY s 3)).trans (decide_eq_true (by have:=h3; unfold oc at this; omega))) ?_
 refine qar [(2,.v (.int .u32 (IntKind.u32.wrap (BitVec.ofInt 32 (IntKind.u32.wrap (BitVec.ofInt 32 (IntKind.u32.wrap (BitVec.ofInt 32 (IntKind.u32.wrap (IntKind.u8.wrap (BitVec.ofInt 8 ((s.getD 0 0).toNat:Int) &&& BitVec.ofInt 8 127).toNat)) ||| BitVec.ofInt 32 (IntKind.u32.wrap ((IntKind.u32.wrap (IntKind.u8.wrap (BitVec.ofInt 8 ((s.getD 1 0).toNat:Int) &&& BitVec.ofInt 8 127).toNat)) * 128))).toNat) ||| BitVec.ofInt 32 (IntKind.u32.wrap ((IntKind.u32.wrap (IntKind.u8.wrap (BitVec.ofInt 8 ((s.getD 2 0).toNat:Int) &&& BitVec.ofInt 8 127).toNat)) * 16384))).toNat) ||| BitVec.ofInt 32 (IntKind.u32.wrap ((IntKind.u32.wrap (IntKind.u8.wrap (BitVec.ofInt 8 ((s.getD 3 0).toNat:Int) &&& BitVec.ofInt 8 127).toNat)) * 2097152))).toNat))),(3,.v (.int .i64 4))] hW ar fun b8 au=>?_
 refine wp_ret (qaD (qd3 (qaE au hW.cells (v:=.tuple #[.int .u32 (IntKind.u32.wrap (BitVec.ofInt 32 (IntKind.u32.wrap (BitVec.ofInt 32 (IntKind.u32.wrap (BitVec.ofInt 32 (IntKind.u32.wrap (IntKind.u8.wrap (BitVec.ofInt 8 ((s.getD 0 0).toNat:Int) &&& BitVec.ofInt 8 127).toNat)) ||| BitVec.ofInt 32 (IntKind.u32.wrap ((IntKind.u32.wrap (IntKind.u8.wrap (BitVec.ofInt 8 ((s.getD 1 0).toNat:Int) &&& BitVec.ofInt 8 127).toNat)) * 128))).toNat) ||| BitVec.ofInt 32 (IntKind.u32.wrap ((IntKind.u32.wrap (IntKind.u8.wrap (BitVec.ofInt 8 ((s.getD 2 0).toNat:Int) &&& BitVec.ofInt 8 127).toNat)) * 16384))).toNat) ||| BitVec.ofInt 32 (IntKind.u32.wrap ((IntKind.u32.wrap (IntKind.u8.wrap (BitVec.ofInt 8 ((s.getD 3 0).toNat:Int) &&& BitVec.ofInt 8 127).toNat)) * 2097152))).toNat),.int .i64 4]) kz ?_)))
 have e_:=uv_4 (oc s 0) (oc s 1) (oc s 2) (oc s 3) (qbY s 0) (qbY s 1) (qbY s 2) (qbY s 3)
 refine ⟨congrArg (fun z_:Int=>Ending.returned (.tuple #[.int .u32 z_,.int .i64 4])) (Eq.trans e_ ?_),hW.step⟩
 omega
theorem rUv5 {A:Option Addr} {c:Nat} (s:Bs) {w:World} {F:Nat → Nat → Prop} (ho:Octs w F A c s) (hl:5 ≤ s.length) (d0 d1 d2 d3 d4:Nat) (h0:oc s 0 = d0 + 128) (h1:oc s 1 = d1 + 128) (h2:oc s 2 = d2 + 128) (h3:oc s 3 = d3 + 128) (h4:oc s 4 = d4) (g0:d0 < 128) (g1:d1 < 128) (g2:d2 < 128) (g3:d3 < 128) (g4:d4 < 16) :
  Calls Tryz.prog 158 #[.slice A s.length c] w (qcF w (.tuple #[.int .u32 ((d0 + d1 * 128 + d2 * 16384 + d3 * 2097152 + d4 * 268435456:Nat):Int),.int .i64 5])):=by
 refine enter (n:=87) Tryz.func158 rfl Tryz.ntmps158 kz fun a hE=>?_
 have hW:=WOk.start w Nil
 refine qar [(0,.v (.slice A s.length c))] hW hE fun a1 hE2=>?_
 refine wp_scope_straight (qar [(0,.v (.slice A s.length c))] hW hE2 fun a3 hE4=>?_)
 refine qar [(0,.v (.slice A s.length c))] hW hE4 fun a5 hE6=>?_
 refine wp_seq (qar [(0,.v (.slice A s.length c)),(8,.v (.bool (decide (((s.length:Nat):Int) < 1))))] hW hE6 fun a7 hE8=>?_)
 refine qau hE8 (b:=decide (((s.length:Nat):Int) < 1)) kz (decide_eq_false (by omega)) ?_
 refine wp_skip (qab (qae [0,1,2,3,4,5] kz ?_))
 refine qak [0] [1,2,3,4,5] (z29 A s.length c) hW hE8 fun a9 aI=>?_
 obtain ⟨bp,bq,aj,bC,ab⟩:=Slots.get ho (i:=0) (by first | omega | (simp only [List.length_append,be_length,List.length_cons,List.length_nil] at *; omega))
 refine qam (qax aI (t:=24) (A:=A) (m:=s.length) (q:=0) (d:=10) kz (e:=5) (size:=1) (bytes:=1) (j:=0) kz aj rfl (by first | omega | (simp only [List.length_append,be_length,List.length_cons,List.length_nil] at *; omega)) fun bP aJ=>?_)
 refine qam (qaH aJ (t:=5) (b:=bp) (o:=bq + 0 * 1) (d:=11) kz (cs:=[.int .u8 ((s.getD 0 0).toNat:Int)]) (v:=.int .u8 ((s.getD 0 0).toNat:Int)) kz (AtF.move ab hW.step nilM qbg).at_ fun bQ aK=>?_)
 refine qak [3,4,5] [] [(0,.v (.slice A s.length c)),(4,.v (.int .u32 (IntKind.u32.wrap (IntKind.u8.wrap (BitVec.ofInt 8 ((s.getD 0 0).toNat:Int) &&& BitVec.ofInt 8 127).toNat))))] hW aK fun bR aL=>?_
 refine qaf (qab ?_)
 refine wp_seq (qae [0,1,2,3,4] kz ?_)
 refine qak [0] [1,2,3,4] [(0,.v (.slice A s.length c)),(4,.v (.int .u32 (IntKind.u32.wrap (IntKind.u8.wrap (BitVec.ofInt 8 ((s.getD 0 0).toNat:Int) &&& BitVec.ofInt 8 127).toNat)))),(14,.v (.slice A s.length c))] hW aL fun bS aM=>?_
 refine qam (qax aM (t:=24) (A:=A) (m:=s.length) (q:=0) (d:=15) kz (e:=5) (size:=1) (bytes:=1) (j:=0) kz aj rfl (by first | omega | (simp only [List.length_append,be_length,List.length_cons,List.length_nil] at *; omega)) fun bT aN=>?_)
 refine qam (qaH aN (t:=5) (b:=bp) (o:=bq + 0 * 1) (d:=16) kz (cs:=[.int .u8 ((s.getD 0 0).toNat:Int)]) (v:=.int .u8 ((s.getD 0 0).toNat:Int)) kz (AtF.move ab hW.step nilM qbg).at_ fun bU aO=>?_)
 refine qak [3,4] [] [(0,.v (.slice A s.length c)),(4,.v (.int .u32 (IntKind.u32.wrap (IntKind.u8.wrap (BitVec.ofInt 8 ((s.getD 0 0).toNat:Int) &&& BitVec.ofInt 8 127).toNat)))),(18,.v (.bool ((IntKind.u8.wrap (BitVec.ofInt 8 ((s.getD 0 0).toNat:Int) &&& BitVec.ofInt 8 128).toNat) == 0)))] hW aO fun bV ak=>?_
 refine qaf (qab ?_)
 refine qau ak (b:=(IntKind.u8.wrap (BitVec.ofInt 8 ((s.getD 0 0).toNat:Int) &&& BitVec.ofInt 8 128).toNat) == 0) kz ((qdc _ (qbY s 0)).trans (decide_eq_false (by have:=h0; unfold oc at this; omega))) ?_
 refine qar [(0,.v (.slice A s.length c)),(4,.v (.int .u32 (IntKind.u32.wrap (IntKind.u8.wrap (BitVec.ofInt 8 ((s.getD 0 0).toNat:Int) &&& BitVec.ofInt 8 127).toNat)))),(22,.v (.bool (decide (((s.length:Nat):Int) < 2))))] hW ak fun bW al=>?_
 refine qau al (b:=decide (((s.length:Nat):Int) < 2)) kz (decide_eq_false (by omega)) ?_
 refine wp_skip (qab (qae [0,1,2,3,4,5,6,7,8] kz ?_))
 refine qak [0,1] [2,3,4,5,6,7,8] [(0,.v (.slice A s.length c)),(23,.v (.int .u32 (IntKind.u32.wrap (IntKind.u8.wrap (BitVec.ofInt 8 ((s.getD 0 0).toNat:Int) &&& BitVec.ofInt 8 127).toNat)))),(24,.v (.slice A s.length c))] hW al fun bX aP=>?_
 obtain ⟨bt,bu,am,bD,ac⟩:=Slots.get ho (i:=1) (by first | omega | (simp only [List.length_append,be_length,List.length_cons,List.length_nil] at *; omega))
 refine qam (qax aP (t:=24) (A:=A) (m:=s.length) (q:=1) (d:=25) kz (e:=5) (size:=1) (bytes:=1) (j:=1) kz am rfl (by first | omega | (simp only [List.length_append,be_length,List.length_cons,List.length_nil] at *; omega)) fun bY aQ=>?_)
 refine qam (qaH aQ (t:=5) (b:=bt) (o:=bu + 1 * 1) (d:=26) kz (cs:=[.int .u8 ((s.getD 1 0).toNat:Int)]) (v:=.int .u8 ((s.getD 1 0).toNat:Int)) kz (AtF.move ac hW.step nilM qbg).at_ fun bZ aR=>?_)
 refine qak [4,5,6,7,8] [] [(0,.v (.slice A s.length c)),(4,.v (.int .u32 (IntKind.u32.wrap (BitVec.ofInt 32 (IntKind.u32.wrap (IntKind.u8.wrap (BitVec.ofInt 8 ((s.getD 0 0).toNat:Int) &&& BitVec.ofInt 8 127).toNat)) ||| BitVec.ofInt 32 (IntKind.u32.wrap ((IntKind.u32.wrap (IntKind.u8.wrap (BitVec.ofInt 8 ((s.getD 1 0).toNat:Int) &&& BitVec.ofInt 8 127).toNat)) * 128))).toNat)))] hW aR fun b8 aS=>?_
 refine qaf (qab ?_)
 refine wp_seq (qae [0,1,2,3,4] kz ?_)
 refine qak [0] [1,2,3,4] [(0,.v (.slice A s.length c)),(4,.v (.int .u32 (IntKind.u32.wrap (BitVec.ofInt 32 (IntKind.u32.wrap (IntKind.u8.wrap (BitVec.ofInt 8 ((s.getD 0 0).toNat:Int) &&& BitVec.ofInt 8 127).toNat)) ||| BitVec.ofInt 32 (IntKind.u32.wrap ((IntKind.u32.wrap (IntKind.u8.wrap (BitVec.ofInt 8 ((s.getD 1 0).toNat:Int) &&& BitVec.ofInt 8 127).toNat)) * 128))).toNat))),(31,.v (.slice A s.length c))] hW aS fun cd aT=>?_
 refine qam (qax aT (t:=24) (A:=A) (m:=s.length) (q:=1) (d:=32) kz (e:=5) (size:=1) (bytes:=1) (j:=1) kz am rfl (by first | omega | (simp only [List.length_append,be_length,List.length_cons,List.length_nil] at *; omega)) fun ce aU=>?_)
 refine qam (qaH aU (t:=5) (b:=bt) (o:=bu + 1 * 1) (d:=33) kz (cs:=[.int .u8 ((s.getD 1 0).toNat:Int)]) (v:=.int .u8 ((s.getD 1 0).toNat:Int)) kz (AtF.move ac hW.step nilM qbg).at_ fun cg aV=>?_)
 refine qak [3,4] [] [(0,.v (.slice A s.length c)),(4,.v (.int .u32 (IntKind.u32.wrap (BitVec.ofInt 32 (IntKind.u32.wrap (IntKind.u8.wrap (BitVec.ofInt 8 ((s.getD 0 0).toNat:Int) &&& BitVec.ofInt 8 127).toNat)) ||| BitVec.ofInt 32 (IntKind.u32.wrap ((IntKind.u32.wrap (IntKind.u8.wrap (BitVec.ofInt 8 ((s.getD 1 0).toNat:Int) &&& BitVec.ofInt 8 127).toNat)) * 128))).toNat))),(35,.v (.bool ((IntKind.u8.wrap (BitVec.ofInt 8 ((s.getD 1 0).toNat:Int) &&& BitVec.ofInt 8 128).toNat) == 0)))] hW aV fun cm ao=>?_
 refine qaf (qab ?_)
 refine qau ao (b:=(IntKind.u8.wrap (BitVec.ofInt 8 ((s.getD 1 0).toNat:Int) &&& BitVec.ofInt 8 128).toNat) == 0) kz ((qdc _ (qbY s 1)).trans (decide_eq_false (by have:=h1; unfold oc at this; omega))) ?_
 refine qar [(0,.v (.slice A s.length c)),(4,.v (.int .u32 (IntKind.u32.wrap (BitVec.ofInt 32 (IntKind.u32.wrap (IntKind.u8.wrap (BitVec.ofInt 8 ((s.getD 0 0).toNat:Int) &&& BitVec.ofInt 8 127).toNat)) ||| BitVec.ofInt 32 (IntKind.u32.wrap ((IntKind.u32.wrap (IntKind.u8.wrap (BitVec.ofInt 8 ((s.getD 1 0).toNat:Int) &&& BitVec.ofInt 8 127).toNat)) * 128))).toNat))),(39,.v (.bool (decide (((s.length:Nat):Int) < 3))))] hW ao fun cq ap=>?_
 refine qau ap (b:=decide (((s.length:Nat):Int) < 3)) kz (decide_eq_false (by omega)) ?_
 refine wp_skip (qab (qae [0,1,2,3,4,5,6,7,8] kz ?_))
 refine qak [0,1] [2,3,4,5,6,7,8] [(0,.v (.slice A s.length c)),(40,.v (.int .u32 (IntKind.u32.wrap (BitVec.ofInt 32 (IntKind.u32.wrap (IntKind.u8.wrap (BitVec.ofInt 8 ((s.getD 0 0).toNat:Int) &&& BitVec.ofInt 8 127).toNat)) ||| BitVec.ofInt 32 (IntKind.u32.wrap ((IntKind.u32.wrap (IntKind.u8.wrap (BitVec.ofInt 8 ((s.getD 1 0).toNat:Int) &&& BitVec.ofInt 8 127).toNat)) * 128))).toNat))),(41,.v (.slice A s.length c))] hW ap fun cr aW=>?_
 obtain ⟨bw,bx,ar,bE,ae⟩:=Slots.get ho (i:=2) (by first | omega | (simp only [List.length_append,be_length,List.length_cons,List.length_nil] at *; omega))
 refine qam (qax aW (t:=24) (A:=A) (m:=s.length) (q:=2) (d:=42) kz (e:=5) (size:=1) (bytes:=1) (j:=2) kz ar rfl (by first | omega | (simp only [List.length_append,be_length,List.length_cons,List.length_nil] at *; omega)) fun cu aX=>?_)
 refine qam (qaH aX (t:=5) (b:=bw) (o:=bx + 2 * 1) (d:=43) kz (cs:=[.int .u8 ((s.getD 2 0).toNat:Int)]) (v:=.int .u8 ((s.getD 2 0).toNat:Int)) kz (AtF.move ae hW.step nilM qbg).at_ fun cv aY=>?_)
 refine qak [4,5,6,7,8] [] [(0,.v (.slice A s.length c)),(4,.v (.int .u32 (IntKind.u32.wrap (BitVec.ofInt 32 (IntKind.u32.wrap (BitVec.ofInt 32 (IntKind.u32.wrap (IntKind.u8.wrap (BitVec.ofInt 8 ((s.getD 0 0).toNat:Int) &&& BitVec.ofInt 8 127).toNat)) ||| BitVec.ofInt 32 (IntKind.u32.wrap ((IntKind.u32.wrap (IntKind.u8.wrap (BitVec.ofInt 8 ((s.getD 1 0).toNat:Int) &&& BitVec.ofInt 8 127).toNat)) * 128))).toNat) ||| BitVec.ofInt 32 (IntKind.u32.wrap ((IntKind.u32.wrap (IntKind.u8.wrap (BitVec.ofInt 8 ((s.getD 2 0).toNat:Int) &&& BitVec.ofInt 8 127).toNat)) * 16384))).toNat)))] hW aY fun cw aZ=>?_
 refine qaf (qab ?_)
 refine wp_seq (qae [0,1,2,3,4] kz ?_)
 refine qak [0] [1,2,3,4] [(0,.v (.slice A s.length c)),(4,.v (.int .u32 (IntKind.u32.wrap (BitVec.ofInt 32 (IntKind.u32.wrap (BitVec.ofInt 32 (IntKind.u32.wrap (IntKind.u8.wrap (BitVec.ofInt 8 ((s.getD 0 0).toNat:Int) &&& BitVec.ofInt 8 127).toNat)) ||| BitVec.ofInt 32 (IntKind.u32.wrap ((IntKind.u32.wrap (IntKind.u8.wrap (BitVec.ofInt 8 ((s.getD 1 0).toNat:Int) &&& BitVec.ofInt 8 127).toNat)) * 128))).toNat) ||| BitVec.ofInt 32 (IntKind.u32.wrap ((IntKind.u32.wrap (IntKind.u8.wrap (BitVec.ofInt 8 ((s.getD 2 0).toNat:Int) &&& BitVec.ofInt 8 127).toNat)) * 16384))).toNat))),(48,.v (.slice A s.length c))] hW aZ fun cz ba=>?_
 refine qam (qax ba (t:=24) (A:=A) (m:=s.length) (q:=2) (d:=49) kz (e:=5) (size:=1) (bytes:=1) (j:=2) kz ar rfl (by first | omega | (simp only [List.length_append,be_length,List.length_cons,List.length_nil] at *; omega)) fun cA bd=>?_)
 refine qam (qaH bd (t:=5) (b:=bw) (o:=bx + 2 * 1) (d:=50) kz (cs:=[.int .u8 ((s.getD 2 0).toNat:Int)]) (v:=.int .u8 ((s.getD 2 0).toNat:Int)) kz (AtF.move ae hW.step nilM qbg).at_ fun cB bf=>?_)
 refine qak [3,4] [] [(0,.v (.slice A s.length c)),(4,.v (.int .u32 (IntKind.u32.wrap (BitVec.ofInt 32 (IntKind.u32.wrap (BitVec.ofInt 32 (IntKind.u32.wrap (IntKind.u8.wrap (BitVec.ofInt 8 ((s.getD 0 0).toNat:Int) &&& BitVec.ofInt 8 127).toNat)) ||| BitVec.ofInt 32 (IntKind.u32.wrap ((IntKind.u32.wrap (IntKind.u8.wrap (BitVec.ofInt 8 ((s.getD 1 0).toNat:Int) &&& BitVec.ofInt 8 127).toNat)) * 128))).toNat) ||| BitVec.ofInt 32 (IntKind.u32.wrap ((IntKind.u32.wrap (IntKind.u8.wrap (BitVec.ofInt 8 ((s.getD 2 0).toNat:Int) &&& BitVec.ofInt 8 127).toNat)) * 16384))).toNat))),(52,.v (.bool ((IntKind.u8.wrap (BitVec.ofInt 8 ((s.getD 2 0).toNat:Int) &&& BitVec.ofInt 8 128).toNat) == 0)))] hW bf fun cC au=>?_
 refine qaf (qab ?_)
 refine qau au (b:=(IntKind.u8.wrap (BitVec.ofInt 8 ((s.getD 2 0).toNat:Int) &&& BitVec.ofInt 8 128).toNat) == 0) kz ((qdc _ (qbY s 2)).trans (decide_eq_false (by have:=h2; unfold oc at this; omega))) ?_
 refine qar [(0,.v (.slice A s.length c)),(4,.v (.int .u32 (IntKind.u32.wrap (BitVec.ofInt 32 (IntKind.u32.wrap (BitVec.ofInt 32 (IntKind.u32.wrap (IntKind.u8.wrap (BitVec.ofInt 8 ((s.getD 0 0).toNat:Int) &&& BitVec.ofInt 8 127).toNat)) ||| BitVec.ofInt 32 (IntKind.u32.wrap ((IntKind.u32.wrap (IntKind.u8.wrap (BitVec.ofInt 8 ((s.getD 1 0).toNat:Int) &&& BitVec.ofInt 8 127).toNat)) * 128))).toNat) ||| BitVec.ofInt 32 (IntKind.u32.wrap ((IntKind.u32.wrap (IntKind.u8.wrap (BitVec.ofInt 8 ((s.getD 2 0).toNat:Int) &&& BitVec.ofInt 8 127).toNat)) * 16384))).toNat))),(56,.v (.bool (decide (((s.length:Nat):Int) < 4))))] hW au fun cD av=>?_
 refine qau av (b:=decide (((s.length:Nat):Int) < 4)) kz (decide_eq_false (by omega)) ?_
 refine wp_skip (qab (qae [0,1,2,3,4,5,6,7,8] kz ?_))
 refine qak [0,1] [2,3,4,5,6,7,8] [(0,.v (.slice A s.length c)),(57,.v (.int .u32 (IntKind.u32.wrap (BitVec.ofInt 32 (IntKind.u32.wrap (BitVec.ofInt 32 (IntKind.u32.wrap (IntKind.u8.wrap (BitVec.ofInt 8 ((s.getD 0 0).toNat:Int) &&& BitVec.ofInt 8 127).toNat)) ||| BitVec.ofInt 32 (IntKind.u32.wrap ((IntKind.u32.wrap (IntKind.u8.wrap (BitVec.ofInt 8 ((s.getD 1 0).toNat:Int) &&& BitVec.ofInt 8 127).toNat)) * 128))).toNat) ||| BitVec.ofInt 32 (IntKind.u32.wrap ((IntKind.u32.wrap (IntKind.u8.wrap (BitVec.ofInt 8 ((s.getD 2 0).toNat:Int) &&& BitVec.ofInt 8 127).toNat)) * 16384))).toNat))),(58,.v (.slice A s.length c))] hW av fun cE bg=>?_
 obtain ⟨bz,bA,aw,bF,af⟩:=Slots.get ho (i:=3) (by first | omega | (simp only [List.length_append,be_length,List.length_cons,List.length_nil] at *; omega))
 refine qam (qax bg (t:=24) (A:=A) (m:=s.length) (q:=3) (d:=59) kz (e:=5) (size:=1) (bytes:=1) (j:=3) kz aw rfl (by first | omega | (simp only [List.length_append,be_length,List.length_cons,List.length_nil] at *; omega)) fun cG bh=>?_)
 refine qam (qaH bh (t:=5) (b:=bz) (o:=bA + 3 * 1) (d:=60) kz (cs:=[.int .u8 ((s.getD 3 0).toNat:Int)]) (v:=.int .u8 ((s.getD 3 0).toNat:Int)) kz (AtF.move af hW.step nilM qbg).at_ fun cH bi=>?_)
 refine qak [4,5,6,7,8] [] [(0,.v (.slice A s.length c)),(4,.v (.int .u32 (IntKind.u32.wrap (BitVec.ofInt 32 (IntKind.u32.wrap (BitVec.ofInt 32 (IntKind.u32.wrap (BitVec.ofInt 32 (IntKind.u32.wrap (IntKind.u8.wrap (BitVec.ofInt 8 ((s.getD 0 0).toNat:Int) &&& BitVec.ofInt 8 127).toNat)) ||| BitVec.ofInt 32 (IntKind.u32.wrap ((IntKind.u32.wrap (IntKind.u8.wrap (BitVec.ofInt 8 ((s.getD 1 0).toNat:Int) &&& BitVec.ofInt 8 127).toNat)) * 128))).toNat) ||| BitVec.ofInt 32 (IntKind.u32.wrap ((IntKind.u32.wrap (IntKind.u8.wrap (BitVec.ofInt 8 ((s.getD 2 0).toNat:Int) &&& BitVec.ofInt 8 127).toNat)) * 16384))).toNat) ||| BitVec.ofInt 32 (IntKind.u32.wrap ((IntKind.u32.wrap (IntKind.u8.wrap (BitVec.ofInt 8 ((s.getD 3 0).toNat:Int) &&& BitVec.ofInt 8 127).toNat)) * 2097152))).toNat)))] hW bi fun cI bj=>?_
 refine qaf (qab ?_)
 refine wp_seq (qae [0,1,2,3,4] kz ?_)
 refine qak [0] [1,2,3,4] [(0,.v (.slice A s.length c)),(4,.v (.int .u32 (IntKind.u32.wrap (BitVec.ofInt 32 (IntKind.u32.wrap (BitVec.ofInt 32 (IntKind.u32.wrap (BitVec.ofInt 32 (IntKind.u32.wrap (IntKind.u8.wrap (BitVec.ofInt 8 ((s.getD 0 0).toNat:Int) &&& BitVec.ofInt 8 127).toNat)) ||| BitVec.ofInt 32 (IntKind.u32.wrap ((IntKind.u32.wrap (IntKind.u8.wrap (BitVec.ofInt 8 ((s.getD 1 0).toNat:Int) &&& BitVec.ofInt 8 127).toNat)) * 128))).toNat) ||| BitVec.ofInt 32 (IntKind.u32.wrap ((IntKind.u32.wrap (IntKind.u8.wrap (BitVec.ofInt 8 ((s.getD 2 0).toNat:Int) &&& BitVec.ofInt 8 127).toNat)) * 16384))).toNat) ||| BitVec.ofInt 32 (IntKind.u32.wrap ((IntKind.u32.wrap (IntKind.u8.wrap (BitVec.ofInt 8 ((s.getD 3 0).toNat:Int) &&& BitVec.ofInt 8 127).toNat)) * 2097152))).toNat))),(65,.v (.slice A s.length c))] hW bj fun cJ bk=>?_
 refine qam (qax bk (t:=24) (A:=A) (m:=s.length) (q:=3) (d:=66) kz (e:=5) (size:=1) (bytes:=1) (j:=3) kz aw rfl (by first | omega | (simp only [List.length_append,be_length,List.length_cons,List.length_nil] at *; omega)) fun cK bn=>?_)
 refine qam (qaH bn (t:=5) (b:=bz) (o:=bA + 3 * 1) (d:=67) kz (cs:=[.int .u8 ((s.getD 3 0).toNat:Int)]) (v:=.int .u8 ((s.getD 3 0).toNat:Int)) kz (AtF.move af hW.step nilM qbg).at_ fun cL bo=>?_)
 refine qak [3,4] [] [(0,.v (.slice A s.length c)),(4,.v (.int .u32 (IntKind.u32.wrap (BitVec.ofInt 32 (IntKind.u32.wrap (BitVec.ofInt 32 (IntKind.u32.wrap (BitVec.ofInt 32 (IntKind.u32.wrap (IntKind.u8.wrap (BitVec.ofInt 8 ((s.getD 0 0).toNat:Int) &&& BitVec.ofInt 8 127).toNat)) ||| BitVec.ofInt 32 (IntKind.u32.wrap ((IntKind.u32.wrap (IntKind.u8.wrap (BitVec.ofInt 8 ((s.getD 1 0).toNat:Int) &&& BitVec.ofInt 8 127).toNat)) * 128))).toNat) ||| BitVec.ofInt 32 (IntKind.u32.wrap ((IntKind.u32.wrap (IntKind.u8.wrap (BitVec.ofInt 8 ((s.getD 2 0).toNat:Int) &&& BitVec.ofInt 8 127).toNat)) * 16384))).toNat) ||| BitVec.ofInt 32 (IntKind.u32.wrap ((IntKind.u32.wrap (IntKind.u8.wrap (BitVec.ofInt 8 ((s.getD 3 0).toNat:Int) &&& BitVec.ofInt 8 127).toNat)) * 2097152))).toNat))),(69,.v (.bool ((IntKind.u8.wrap (BitVec.ofInt 8 ((s.getD 3 0).toNat:Int) &&& BitVec.ofInt 8 128).toNat) == 0)))] hW bo fun cM ax=>?_
 refine qaf (qab ?_)
 refine qau ax (b:=(IntKind.u8.wrap (BitVec.ofInt 8 ((s.getD 3 0).toNat:Int) &&& BitVec.ofInt 8 128).toNat) == 0) kz ((qdc _ (qbY s 3)).trans (decide_eq_false (by have:=h3; unfold oc at this; omega))) ?_
 refine qar [(0,.v (.slice A s.length c)),(4,.v (.int .u32 (IntKind.u32.wrap (BitVec.ofInt 32 (IntKind.u32.wrap (BitVec.ofInt 32 (IntKind.u32.wrap (BitVec.ofInt 32 (IntKind.u32.wrap (IntKind.u8.wrap (BitVec.ofInt 8 ((s.getD 0 0).toNat:Int) &&& BitVec.ofInt 8 127).toNat)) ||| BitVec.ofInt 32 (IntKind.u32.wrap ((IntKind.u32.wrap (IntKind.u8.wrap (BitVec.ofInt 8 ((s.getD 1 0).toNat:Int) &&& BitVec.ofInt 8 127).toNat)) * 128))).toNat) ||| BitVec.ofInt 32 (IntKind.u32.wrap ((IntKind.u32.wrap (IntKind.u8.wrap (BitVec.ofInt 8 ((s.getD 2 0).toNat:Int) &&& BitVec.ofInt 8 127).toNat)) * 16384))).toNat) ||| BitVec.ofInt 32 (IntKind.u32.wrap ((IntKind.u32.wrap (IntKind.u8.wrap (BitVec.ofInt 8 ((s.getD 3 0).toNat:Int) &&& BitVec.ofInt 8 127).toNat)) * 2097152))).toNat))),(73,.v (.bool (decide (((s.length:Nat):Int) < 5))))] hW ax fun cN ag=>?_
 refine qau ag (b:=decide (((s.length:Nat):Int) < 5)) kz (decide_eq_false (by omega)) ?_
 refine wp_skip (qab (qae [0,1,2,3,4,5,6,7] kz ?_))
 refine qak [0,1] [2,3,4,5,6,7] [(0,.v (.slice A s.length c)),(74,.v (.int .u32 (IntKind.u32.wrap (BitVec.ofInt 32 (IntKind.u32.wrap (BitVec.ofInt 32 (IntKind.u32.wrap (BitVec.ofInt 32 (IntKind.u32.wrap (IntKind.u8.wrap (BitVec.ofInt 8 ((s.getD 0 0).toNat:Int) &&& BitVec.ofInt 8 127).toNat)) ||| BitVec.ofInt 32 (IntKind.u32.wrap ((IntKind.u32.wrap (IntKind.u8.wrap (BitVec.ofInt 8 ((s.getD 1 0).toNat:Int) &&& BitVec.ofInt 8 127).toNat)) * 128))).toNat) ||| BitVec.ofInt 32 (IntKind.u32.wrap ((IntKind.u32.wrap (IntKind.u8.wrap (BitVec.ofInt 8 ((s.getD 2 0).toNat:Int) &&& BitVec.ofInt 8 127).toNat)) * 16384))).toNat) ||| BitVec.ofInt 32 (IntKind.u32.wrap ((IntKind.u32.wrap (IntKind.u8.wrap (BitVec.ofInt 8 ((s.getD 3 0).toNat:Int) &&& BitVec.ofInt 8 127).toNat)) * 2097152))).toNat))),(75,.v (.slice A s.length c))] hW ag fun bG ay=>?_
 obtain ⟨az,aA,ah,bB,aa⟩:=Slots.get ho (i:=4) (by first | omega | (simp only [List.length_append,be_length,List.length_cons,List.length_nil] at *; omega))
 refine qam (qax ay (t:=24) (A:=A) (m:=s.length) (q:=4) (d:=76) kz (e:=5) (size:=1) (bytes:=1) (j:=4) kz ah rfl (by first | omega | (simp only [List.length_append,be_length,List.length_cons,List.length_nil] at *; omega)) fun bH aB=>?_)
 refine qam (qaH aB (t:=5) (b:=az) (o:=aA + 4 * 1) (d:=77) kz (cs:=[.int .u8 ((s.getD 4 0).toNat:Int)]) (v:=.int .u8 ((s.getD 4 0).toNat:Int)) kz (AtF.move aa hW.step nilM qbg).at_ fun bI aC=>?_)
 refine qak [4,5,6,7] [] [(0,.v (.slice A s.length c)),(4,.v (.int .u32 (IntKind.u32.wrap (BitVec.ofInt 32 (IntKind.u32.wrap (BitVec.ofInt 32 (IntKind.u32.wrap (BitVec.ofInt 32 (IntKind.u32.wrap (BitVec.ofInt 32 (IntKind.u32.wrap (IntKind.u8.wrap (BitVec.ofInt 8 ((s.getD 0 0).toNat:Int) &&& BitVec.ofInt 8 127).toNat)) ||| BitVec.ofInt 32 (IntKind.u32.wrap ((IntKind.u32.wrap (IntKind.u8.wrap (BitVec.ofInt 8 ((s.getD 1 0).toNat:Int) &&& BitVec.ofInt 8 127).toNat)) * 128))).toNat) ||| BitVec.ofInt 32 (IntKind.u32.wrap ((IntKind.u32.wrap (IntKind.u8.wrap (BitVec.ofInt 8 ((s.getD 2 0).toNat:Int) &&& BitVec.ofInt 8 127).toNat)) * 16384))).toNat) ||| BitVec.ofInt 32 (IntKind.u32.wrap ((IntKind.u32.wrap (IntKind.u8.wrap (BitVec.ofInt 8 ((s.getD 3 0).toNat:Int) &&& BitVec.ofInt 8 127).toNat)) * 2097152))).toNat) ||| BitVec.ofInt 32 (IntKind.u32.wrap ((IntKind.u32.wrap ((s.getD 4 0).toNat:Int)) * 268435456))).toNat)))] hW aC fun bJ aD=>?_
 refine qaf (qab ?_)
 refine wp_seq (qae [0,1,2,3] kz ?_)
 refine qak [0] [1,2,3] [(4,.v (.int .u32 (IntKind.u32.wrap (BitVec.ofInt 32 (IntKind.u32.wrap (BitVec.ofInt 32 (IntKind.u32.wrap (BitVec.ofInt 32 (IntKind.u32.wrap (BitVec.ofInt 32 (IntKind.u32.wrap (IntKind.u8.wrap (BitVec.ofInt 8 ((s.getD 0 0).toNat:Int) &&& BitVec.ofInt 8 127).toNat)) ||| BitVec.ofInt 32 (IntKind.u32.wrap ((IntKind.u32.wrap (IntKind.u8.wrap (BitVec.ofInt 8 ((s.getD 1 0).toNat:Int) &&& BitVec.ofInt 8 127).toNat)) * 128))).toNat) ||| BitVec.ofInt 32 (IntKind.u32.wrap ((IntKind.u32.wrap (IntKind.u8.wrap (BitVec.ofInt 8 ((s.getD 2 0).toNat:Int) &&& BitVec.ofInt 8 127).toNat)) * 16384))).toNat) ||| BitVec.ofInt 32 (IntKind.u32.wrap ((IntKind.u32.wrap (IntKind.u8.wrap (BitVec.ofInt 8 ((s.getD 3 0).toNat:Int) &&& BitVec.ofInt 8 127).toNat)) * 2097152))).toNat) ||| BitVec.ofInt 32 (IntKind.u32.wrap ((IntKind.u32.wrap ((s.getD 4 0).toNat:Int)) * 268435456))).toNat))),(81,.v (.slice A s.length c))] hW aD fun bK aE=>?_
 refine qam (qax aE (t:=24) (A:=A) (m:=s.length) (q:=4) (d:=82) kz (e:=5) (size:=1) (bytes:=1) (j:=4) kz ah rfl (by first | omega | (simp only [List.length_append,be_length,List.length_cons,List.length_nil] at *; omega)) fun bL aF=>?_)
 refine qam (qaH aF (t:=5) (b:=az) (o:=aA + 4 * 1) (d:=83) kz (cs:=[.int .u8 ((s.getD 4 0).toNat:Int)]) (v:=.int .u8 ((s.getD 4 0).toNat:Int)) kz (AtF.move aa hW.step nilM qbg).at_ fun bM aG=>?_)
 refine qak [3] [] [(4,.v (.int .u32 (IntKind.u32.wrap (BitVec.ofInt 32 (IntKind.u32.wrap (BitVec.ofInt 32 (IntKind.u32.wrap (BitVec.ofInt 32 (IntKind.u32.wrap (BitVec.ofInt 32 (IntKind.u32.wrap (IntKind.u8.wrap (BitVec.ofInt 8 ((s.getD 0 0).toNat:Int) &&& BitVec.ofInt 8 127).toNat)) ||| BitVec.ofInt 32 (IntKind.u32.wrap ((IntKind.u32.wrap (IntKind.u8.wrap (BitVec.ofInt 8 ((s.getD 1 0).toNat:Int) &&& BitVec.ofInt 8 127).toNat)) * 128))).toNat) ||| BitVec.ofInt 32 (IntKind.u32.wrap ((IntKind.u32.wrap (IntKind.u8.wrap (BitVec.ofInt 8 ((s.getD 2 0).toNat:Int) &&& BitVec.ofInt 8 127).toNat)) * 16384))).toNat) ||| BitVec.ofInt 32 (IntKind.u32.wrap ((IntKind.u32.wrap (IntKind.u8.wrap (BitVec.ofInt 8 ((s.getD 3 0).toNat:Int) &&& BitVec.ofInt 8 127).toNat)) * 2097152))).toNat) ||| BitVec.ofInt 32 (IntKind.u32.wrap ((IntKind.u32.wrap ((s.getD 4 0).toNat:Int)) * 268435456))).toNat))),(84,.v (.bool (decide (((s.getD 4 0).toNat:Int) ≤ 15))))] hW aG fun bN ai=>?_
 refine qaf (qab ?_)
 refine qbw ai (b:=decide (((s.getD 4 0).toNat:Int) ≤ 15)) kz (decide_eq_true (by have:=h4; unfold oc at this; omega)) ?_
 refine qar [(2,.v (.int .u32 (IntKind.u32.wrap (BitVec.ofInt 32 (IntKind.u32.wrap (BitVec.ofInt 32 (IntKind.u32.wrap (BitVec.ofInt 32 (IntKind.u32.wrap (BitVec.ofInt 32 (IntKind.u32.wrap (IntKind.u8.wrap (BitVec.ofInt 8 ((s.getD 0 0).toNat:Int) &&& BitVec.ofInt 8 127).toNat)) ||| BitVec.ofInt 32 (IntKind.u32.wrap ((IntKind.u32.wrap (IntKind.u8.wrap (BitVec.ofInt 8 ((s.getD 1 0).toNat:Int) &&& BitVec.ofInt 8 127).toNat)) * 128))).toNat) ||| BitVec.ofInt 32 (IntKind.u32.wrap ((IntKind.u32.wrap (IntKind.u8.wrap (BitVec.ofInt 8 ((s.getD 2 0).toNat:Int) &&& BitVec.ofInt 8 127).toNat)) * 16384))).toNat) ||| BitVec.ofInt 32 (IntKind.u32.wrap ((IntKind.u32.wrap (IntKind.u8.wrap (BitVec.ofInt 8 ((s.getD 3 0).toNat:Int) &&& BitVec.ofInt 8 127).toNat)) * 2097152))).toNat) ||| BitVec.ofInt 32 (IntKind.u32.wrap ((IntKind.u32.wrap ((s.getD 4 0).toNat:Int)) * 268435456))).toNat))),(3,.v (.int .i64 5))] hW ai fun bO aH=>?_
 refine wp_ret (qaD (qd3 (qaE aH hW.cells (v:=.tuple #[.int .u32 (IntKind.u32.wrap (BitVec.ofInt 32 (IntKind.u32.wrap (BitVec.ofInt 32 (IntKind.u32.wrap (BitVec.ofInt 32 (IntKind.u32.wrap (BitVec.ofInt 32 (IntKind.u32.wrap (IntKind.u8.wrap (BitVec.ofInt 8 ((s.getD 0 0).toNat:Int) &&& BitVec.ofInt 8 127).toNat)) ||| BitVec.ofInt 32 (IntKind.u32.wrap ((IntKind.u32.wrap (IntKind.u8.wrap (BitVec.ofInt 8 ((s.getD 1 0).toNat:Int) &&& BitVec.ofInt 8 127).toNat)) * 128))).toNat) ||| BitVec.ofInt 32 (IntKind.u32.wrap ((IntKind.u32.wrap (IntKind.u8.wrap (BitVec.ofInt 8 ((s.getD 2 0).toNat:Int) &&& BitVec.ofInt 8 127).toNat)) * 16384))).toNat) ||| BitVec.ofInt 32 (IntKind.u32.wrap ((IntKind.u32.wrap (IntKind.u8.wrap (BitVec.ofInt 8 ((s.getD 3 0).toNat:Int) &&& BitVec.ofInt 8 127).toNat)) * 2097152))).toNat) ||| BitVec.ofInt 32 (IntKind.u32.wrap ((IntKind.u32.wrap ((s.getD 4 0).toNat:Int)) * 268435456))).toNat),.int .i64 5]) kz ?_)))
 have e_:=uv_5 (oc s 0) (oc s 1) (oc s 2) (oc s 3) (oc s 4) (qbY s 0) (qbY s 1) (qbY s 2) (qbY s 3) (by omega)
 refine ⟨congrArg (fun z_:Int=>Ending.returned (.tuple #[.int .u32 z_,.int .i64 5])) (Eq.trans e_ ?_),hW.step⟩
 omega
theorem rUv (x:Nat) (hx:x < 4294967296) (rest:Bs) {A:Option Addr} {c:Nat} {w:World} {F:Nat → Nat → Prop} (ho:Octs w F A c (uv x ++ rest)) :
  Calls Tryz.prog 158 #[.slice A (uv x ++ rest).length c] w (qcF w (.tuple #[.int .u32 ((x:Nat):Int),.int .i64 (((uv x).length:Nat):Int)])):=by
 have hl:=qc5 hx
 have hL:(uv x ++ rest).length = (uv x).length + rest.length:=List.length_append
 by_cases h1:x < 128
 ·rw [if_pos h1] at hl
  have h:=rUv1 (uv x ++ rest) ho (by omega) x (by rw [qgB,if_pos h1]) h1
  rw [hl]; simpa using h
 rw [if_neg h1] at hl
 have o0:oc (uv x ++ rest) 0 = x % 128 + 128:=by rw [qgB,if_neg h1]
 have o1:oc (uv x ++ rest) 1 = oc (uv (x / 128) ++ rest) 0:=qet (by omega) rest 0
 by_cases h2:x < 16384
 ·rw [if_pos h2] at hl
  rw [qgB,if_pos (by omega)] at o1
  have h:=rUv2 (uv x ++ rest) ho (by omega) (x % 128) (x / 128) o0 o1 (by omega) (by omega)
  rw [show x % 128 + x / 128 * 128 = x by omega] at h
  rw [hl]; exact h
 rw [if_neg h2] at hl
 have o2:oc (uv x ++ rest) 2 = oc (uv (x / 128 / 128) ++ rest) 0:=(qet (by omega) rest 1).trans (qet (by omega) rest 0)
 rw [qgB,if_neg (by omega)] at o1
 by_cases h3:x < 2097152
 ·rw [if_pos h3] at hl
  rw [qgB,if_pos (by omega)] at o2
  have h:=rUv3 (uv x ++ rest) ho (by omega) (x % 128) (x / 128 % 128) (x / 128 / 128) o0 o1 o2 (by omega) (by omega) (by omega)
  rw [show x % 128 + x / 128 % 128 * 128 + x / 128 / 128 * 16384 = x by omega] at h
  rw [hl]; exact h
 rw [if_neg h3] at hl
 have o3:oc (uv x ++ rest) 3 = oc (uv (x / 128 / 128 / 128) ++ rest) 0:=(qet (by omega) rest 2).trans ((qet (by omega) rest 1).trans (qet (by omega) rest 0))
 rw [qgB,if_neg (by omega)] at o2
 by_cases h4:x < 268435456
 ·rw [if_pos h4] at hl
  rw [qgB,if_pos (by omega)] at o3
  have h:=rUv4 (uv x ++ rest) ho (by omega) (x % 128) (x / 128 % 128) (x / 128 / 128 % 128) (x / 128 / 128 / 128) o0 o1 o2 o3 (by omega) (by omega) (by omega) (by omega)
  rw [show x % 128 + x / 128 % 128 * 128 + x / 128 / 128 % 128 * 16384 + x / 128 / 128 / 128 * 2097152 = x by omega] at h
  rw [hl]; exact h
 rw [if_neg h4] at hl
 have o4:oc (uv x ++ rest) 4 = oc (uv (x / 128 / 128 / 128 / 128) ++ rest) 0:=(qet (by omega) rest 3).trans ((qet (by omega) rest 2).trans ((qet (by omega) rest 1).trans (qet (by omega) rest 0)))
 rw [qgB,if_neg (by omega)] at o3
 rw [qgB,if_pos (by omega)] at o4
 have h:=rUv5 (uv x ++ rest) ho (by omega) (x % 128) (x / 128 % 128) (x / 128 / 128 % 128) (x / 128 / 128 / 128 % 128) (x / 128 / 128 / 128 / 128) o0 o1 o2 o3 o4 (by omega) (by omega) (by omega) (by omega) (by omega)
 rw [show x % 128 + x / 128 % 128 * 128 + x / 128 / 128 % 128 * 16384 + x / 128 / 128 / 128 % 128 * 2097152 + x / 128 / 128 / 128 / 128 * 268435456 = x by omega] at h
 rw [hl]; exact h
theorem qdD (x:Nat) (hx:x < 4294967296) (rest:Bs)  {br:Nat} {A:Option Addr} {m c:Nat} {w:World} {F:Nat → Nat → Prop} (hst:Str w br [.slice A m c,.bool false]) (hr:RdS w F A m c (uv x ++ rest)) (hFd:∀ b o,F b o → ¬ RdM br b o) :
  Calls Tryz.prog 148 #[.pointer (some ⟨br,0,none⟩)] w (RdPost w br F rest fun v w'=>v = .int .u32 ((x:Nat):Int)):=by
 obtain ⟨hm,ho⟩:=hr
 subst hm
 have hle:=ho.le
 have hpos:=qee x
 refine enter (n:=31) Tryz.func148 rfl Tryz.ntmps148 kz fun a hE=>?_
 have hW:WOk w (RdM br) w [⟨br,0,[.slice A ((uv x ++ rest).length) c,.bool false],true⟩] []:=WOk.startStr hst
 have hE1:=(hE.grow ⟨br,0,[.slice A ((uv x ++ rest).length) c,.bool false],true⟩).recast 0 (.v (.pointer (some ⟨br,0,none⟩))) (.p 0 0) rfl rfl (Nat.le_of_ble_eq_true (n:=1) rfl)
 refine qar [(0,.p 0 0)] hW hE1 fun a1 hE2=>?_
 refine qae [0,1,2,3,4,5,6,7,8,9] kz ?_
 refine qak [0,1,2,3] [4,5,6,7,8,9] [(0,.p 0 0),(9,.v (.slice A ((uv x ++ rest).length) c))] hW hE2 fun a3 hE4=>?_
 refine qam (qal hE4 (f:=158) (vs:=[.slice A ((uv x ++ rest).length) c]) (d:=10) kz Tryz.call158 (rUv x hx rest (ho.move hW.step (fun b_ o_ h_ _=>hFd b_ o_ h_) (hW.immM hFd))) ?_)
 rintro e_ w6 ⟨rfl,hs5⟩
 refine ⟨_,rfl,fun a7 hE8=>?_⟩
 have hW9:=hW.next_nil hs5
 have aj:=hW.frN hs5
 refine qak [5,6,7,8,9] [] [(0,.p 0 0),(3,.v (.int .u32 ((x:Nat):Int))),(4,.v (.int .i64 (((uv x).length:Nat):Int)))] hW9 hE8 fun al ac=>?_
 refine qaf (qab ?_)
 refine wp_seq (qar [(0,.p 0 0),(3,.v (.int .u32 ((x:Nat):Int))),(4,.v (.int .i64 (((uv x).length:Nat):Int))),(14,.v (.bool (decide ((((uv x).length:Nat):Int) ≤ 0))))] hW9 ac fun am ab=>?_)
 refine qau ab (b:=decide ((((uv x).length:Nat):Int) ≤ 0)) kz (decide_eq_false (by omega)) ?_
 refine wp_skip (qab (qae [0,1,2,3,4,5,6,7,8,9] kz ?_))
 refine qak [0,1,2,3,4,5] [6,7,8,9] [(3,.v (.int .u32 ((x:Nat):Int))),(21,.p 0 0),(25,.v (.slice A ((uv x ++ rest).length) c)),(26,.v (.int .i64 (((uv x).length:Nat):Int)))] hW9 ab fun ao ae=>?_
 refine qam (qbz ae (t:=24) (A:=A) (m:=((uv x ++ rest).length)) (cp:=c) (q:=(((uv x).length:Nat):Int)) (d:=27) (j:=((uv x).length)) kz (e:=5) (bytes:=1) kz (rfl) (by first | omega | (simp only [List.length_append,be_length,List.length_cons,List.length_nil] at *; omega)) fun ap af=>?_)
 refine qak [7,8] [9] [(3,.v (.int .u32 ((x:Nat):Int))),(27,.v (.slice (cutA A c ((uv x).length)) (((uv x ++ rest).length) - ((uv x).length)) (c - ((uv x).length)))),(29,.p 0 0)] hW9 af fun ar ag=>?_
 refine qam (qaM hW9 ag (oi:=0) (cs:=[.slice (cutA A c ((uv x).length)) (((uv x ++ rest).length) - ((uv x).length)) (c - ((uv x).length)),.bool false]) kz fun au ak aa ah=>?_)
 refine qaf (qab ?_)
 refine qar [(2,.v (.int .u32 ((x:Nat):Int)))] aa ah fun av ai=>?_
 refine wp_ret (qaE ai aa.cells (v:=.int .u32 ((x:Nat):Int)) kz ?_)
 exact ⟨_,_,_,_,rfl,Str.of aa 0 rfl,RdS.drop (s:=uv x) ⟨rfl,ho.move aa.step (fun b_ o_ h_ _=>hFd b_ o_ h_) qbg⟩ (rfl),aa.step,rfl⟩
theorem qiR (X:Bs) (rest:Bs)  {br:Nat} {A:Option Addr} {m c:Nat} {w:World} {F:Nat → Nat → Prop} (hst:Str w br [.slice A m c,.bool false]) (hr:RdS w F A m c (X ++ rest)) (hFd:∀ b o,F b o → ¬ RdM br b o) :
  Calls Tryz.prog 150 #[.pointer (some ⟨br,0,none⟩),.int .i64 ((X.length:Nat):Int)] w (RdPost w br F rest fun v w'=>∃ A2,v = .slice A2 X.length X.length ∧ Octs w' F A2 X.length X):=by
 obtain ⟨hm,ho⟩:=hr
 subst hm
 have hle:=ho.le
 refine enter (n:=40) Tryz.func150 rfl Tryz.ntmps150 kz fun a hE=>?_
 have hW:WOk w (RdM br) w [⟨br,0,[.slice A ((X ++ rest).length) c,.bool false],true⟩] []:=WOk.startStr hst
 have hE1:=(hE.grow ⟨br,0,[.slice A ((X ++ rest).length) c,.bool false],true⟩).recast 0 (.v (.pointer (some ⟨br,0,none⟩))) (.p 0 0) rfl rfl (Nat.le_of_ble_eq_true (n:=1) rfl)
 refine qar [(0,.p 0 0),(1,.v (.int .i64 ((X.length:Nat):Int)))] hW hE1 fun a1 hE2=>?_
 refine wp_seq (qae [0,1,2,3,4,5,6,7,8,9,10] kz ?_)
 refine qak [0,1,2,3,4,5,6,7] [8,9,10] [(0,.p 0 0),(1,.v (.int .i64 ((X.length:Nat):Int))),(13,.v (.bool (decide ((((X ++ rest).length:Nat):Int) < ((X.length:Nat):Int)))))] hW hE2 fun a3 hE4=>?_
 have hc5:(decide ((((X ++ rest).length:Nat):Int) < ((X.length:Nat):Int))) = false:=decide_eq_false (by first | omega | (simp only [List.length_append,be_length,List.length_cons,List.length_nil] at *; omega))
 have hE6:=hE4
 rw [hc5] at hE6
 refine qak [8,9,10] [] [(0,.p 0 0),(1,.v (.int .i64 ((X.length:Nat):Int))),(16,.v (.bool (decide (((X.length:Nat):Int) < 0))))] hW hE6 fun a7 hE8=>?_
 refine qaf (qab ?_)
 refine qau hE8 (b:=decide (((X.length:Nat):Int) < 0)) kz (decide_eq_false (by first | omega | (simp only [List.length_append,be_length,List.length_cons,List.length_nil] at *; omega))) ?_
 refine wp_skip (qab (qae [0,1,2,3,4,5,6,7] kz ?_))
 refine qak [0,1,2,3,4,5] [6,7] [(0,.p 0 0),(1,.v (.int .i64 ((X.length:Nat):Int))),(26,.v (.slice A ((X ++ rest).length) c)),(27,.v (.int .i64 ((X.length:Nat):Int))),(28,.v (.int .i64 ((X.length:Nat):Int)))] hW hE8 fun a9 ab=>?_
 refine qam (qj4 ab (t:=24) (A:=A) (m:=((X ++ rest).length)) (cp:=c) (k:=.i64) (q:=((X.length:Nat):Int)) (d:=29) (j:=X.length) kz (e:=5) (bytes:=1) kz (rfl) (by first | omega | (simp only [List.length_append,be_length,List.length_cons,List.length_nil] at *; omega)) fun al ac=>?_)
 refine qak [7] [] [(0,.p 0 0),(1,.v (.int .i64 ((X.length:Nat):Int))),(5,.v (.slice A X.length X.length))] hW ac fun am ae=>?_
 refine qaf (qab ?_)
 refine qae [0,1,2,3,4,5,6,7,8,9] kz ?_
 refine qak [0,1,2,3,4,5] [6,7,8,9] [(5,.v (.slice A X.length X.length)),(30,.p 0 0),(34,.v (.slice A ((X ++ rest).length) c)),(35,.v (.int .i64 ((X.length:Nat):Int)))] hW ae fun ao af=>?_
 refine qam (qbz af (t:=24) (A:=A) (m:=((X ++ rest).length)) (cp:=c) (q:=((X.length:Nat):Int)) (d:=36) (j:=X.length) kz (e:=5) (bytes:=1) kz (rfl) (by first | omega | (simp only [List.length_append,be_length,List.length_cons,List.length_nil] at *; omega)) fun ap ag=>?_)
 refine qak [7,8] [9] [(5,.v (.slice A X.length X.length)),(36,.v (.slice (cutA A c X.length) (((X ++ rest).length) - X.length) (c - X.length))),(38,.p 0 0)] hW ag fun ar ah=>?_
 refine qam (qaM hW ah (oi:=0) (cs:=[.slice (cutA A c X.length) (((X ++ rest).length) - X.length) (c - X.length),.bool false]) kz fun au ak aa ai=>?_)
 refine qaf (qab ?_)
 refine qar [(4,.v (.slice A X.length X.length))] aa ai fun av aj=>?_
 refine wp_ret (qaE aj aa.cells (v:=.slice A X.length X.length) kz ?_)
 exact ⟨_,_,_,_,rfl,Str.of aa 0 rfl,RdS.drop (s:=X) ⟨rfl,ho.move aa.step (fun b_ o_ h_ _=>hFd b_ o_ h_) qbg⟩ (rfl),aa.step,A,rfl,RdS.front (s:=X) ⟨rfl,ho.move aa.step (fun b_ o_ h_ _=>hFd b_ o_ h_) qbg⟩ rfl⟩
abbrev z4 (x0) (x1) (x2) (x3):=([⟨x0,0,[.slice x1 x2 x3,.bool false],true⟩]:Tb)
theorem qka {br:Nat} {A:Option Addr} {m c:Nat} {w:World} (hst:Str w br [.slice A m c,.bool false]) :
  Calls Tryz.prog 126 #[.pointer (some ⟨br,0,none⟩)] w (fun e w'=>e = .returned .nilIface ∧ w' = w):=by
 refine enter (n:=8) Tryz.func126 rfl Tryz.ntmps126 kz fun a hE=>?_
 have hW:WOk w (RdM br) w (z4 br A m c) []:=WOk.startStr hst
 have hE1:=(hE.grow ⟨br,0,[.slice A m c,.bool false],true⟩).recast 0 (.v (.pointer (some ⟨br,0,none⟩))) (.p 0 0) rfl rfl (Nat.le_of_ble_eq_true (n:=1) rfl)
 refine qar [(0,.p 0 0)] hW hE1 fun a1 hE2=>?_
 refine wp_seq (qar [(6,.v (.bool false))] hW hE2 fun a3 hE4=>?_)
 refine qau hE4 (b:=false) kz rfl ?_
 refine wp_skip (qab (qar [(2,.v (.nilIface))] hW hE4 fun a5 hE6=>?_))
 refine wp_ret (qaE hE6 hW.cells (v:=.nilIface) kz ?_)
 exact ⟨rfl,rfl⟩
structure TR (w w':World) (br p2 p3:Nat) (F:Nat → Nat → Prop) (A:Option Addr) (n c:Nat) (s:Bs) (m:Option Nat) (u:List (Int × Bs)):Prop where
 step:Step w w' (RdM br)
 old:br < w.heap.size
 new2:w.heap.size ≤ p2
 new3:w.heap.size ≤ p3
 ne:p2 ≠ p3
 rd:Str w' br [.slice A n c,.bool false]
 s2:Str w' p2 [.map none]
 s3:Str w' p3 [.map m]
 oct:RdS w' (fun b o=>F b o ∧ b < w.heap.size) A n c s
 own:OwnM w' (fun b o=>F b o ∧ b < w.heap.size) m u
 new:∀ r,m = some r → w.heap.size ≤ r
theorem TR.mne {w w':World} {br p2 p3:Nat} {F:Nat → Nat → Prop} {A:Option Addr} {n c:Nat} {s:Bs} {m:Option Nat} {u:List (Int × Bs)} (h:TR w w' br p2 p3 F A n c s m u):m ≠ some p2 ∧ m ≠ some p3:=by
 refine ⟨fun e=>?_,fun e=>?_⟩
 ·obtain ⟨es,clk,h1,_⟩:=h.own.some_ p2 e
  exact qe5 (h.s2.at_ 0 _ rfl) h1 rfl
 obtain ⟨es,clk,h1,_⟩:=h.own.some_ p3 e
 exact qe5 (h.s3.at_ 0 _ rfl) h1 rfl
theorem TR.read {w w' w1:World} {br p2 p3:Nat} {F:Nat → Nat → Prop} {A A':Option Addr} {n c n' c':Nat} {s s':Bs} {m:Option Nat} {u:List (Int × Bs)} (h:TR w w' br p2 p3 F A n c s m u) (hFd:∀ b o,F b o → ¬ RdM br b o) (hs:Str w1 br [.slice A' n' c',.bool false]) (hr:RdS w1 (fun b o=>F b o ∧ b < w.heap.size) A' n' c' s') (hst:Step w' w1 (RdM br)):TR w w1 br p2 p3 F A' n' c' s' m u:=by
 have ho:=h.old
 have h2:=h.new2
 have h3:=h.new3
 refine ⟨h.step.trans hst fun _ _ _ e=>e,ho,h2,h3,h.ne,hs,h.s2.move hst fun o e=>?_,h.s3.move hst fun o e=>?_,hr,h.own.move hst (fun b o hg _=>hFd b o hg.1) qbg (fun r o e he=>?_),h.new⟩
 ·have:=e.1; omega
 ·have:=e.1; omega
 have:=h.new r e; have:=he.1; omega
theorem TR.set {w w':World} {br p2 p3:Nat} {F:Nat → Nat → Prop} {A A1:Option Addr} {n c c1 j:Nat} {s x:Bs} {k:Int} {m:Option Nat} {u:List (Int × Bs)} (h:TR w w' br p2 p3 F A n c s m (u.take j)) (hsort:qd1 u) (hj:u[j]? = some (k,x)) (hx:Octs w' (fun b o=>F b o ∧ b < w.heap.size) A1 c1 x) (hk:0 ≤ k ∧ k < 4294967296) :
  Calls Tryz.prog 153 [.pointer (some ⟨p3,0,none⟩),.int .u32 k,.slice A1 x.length c1].toArray w' (fun e w1=>e = .returned (.tuple #[]) ∧ ∃ r,TR w w1 br p2 p3 F A n c s (some r) (u.take (j + 1))):=by
 have hcell:w'.cell? ⟨p3,0,none⟩ = some (.map m):=h.s3.at_ 0 _ rfl
 have hfz:w'.frozen? ⟨p3,0,none⟩ = false:=h.s3.frz 0 (by simp)
 have hnew:=h.new
 have h2:=h.new2
 have h3:=h.new3
 have ho:=h.old
 have hsz:=h.step.size
 obtain ⟨m2,m3⟩:=h.mne
 refine (qkD hcell hfz h.own hx hk (fun b' o' hg=>⟨fun e=>?_,fun e=>?_⟩) (fun b' o' hg=>Nat.lt_of_lt_of_le hg.2 hsz)).mono ?_
 ·have:=hg.2; omega
 ·have:=hnew b' e; have:=hg.2; omega
 rintro e w1 ⟨rfl,r,g1,g2,g3,g4,g5⟩
 rw [qjw hsort hj] at g3
 refine ⟨rfl,r,h.step.trans g5 fun b o hl e=>?_,ho,h2,h3,h.ne,h.rd.move g5 fun o e=>?_,h.s2.move g5 fun o e=>?_,⟨fun i v hi=>?_,fun i hi=>?_⟩,⟨h.oct.len,Octs.move h.oct.oct g5 (fun b o hg _ e=>?_) qbg⟩,g3,fun r' hr'=>?_⟩
 ·rcases e with ⟨e1,_⟩ | e1
  ·omega
  have:=hnew b e1; omega
 ·rcases e with ⟨e1,_⟩ | e1
  ·omega
  have:=hnew br e1; omega
 ·rcases e with ⟨e1,_⟩ | e1
  ·exact h.ne e1
  exact m2 e1
 ·cases i with
  | zero =>
   simp only [List.getElem?_cons_zero,Option.some.injEq] at hi
   subst hi
   exact g1
  | succ i=>simp at hi
 ·have:i = 0:=by simp at hi; omega
  subst this
  exact g2
 ·have:=hg.2
  rcases e with ⟨e1,_⟩ | e1
  ·omega
  have:=hnew b e1; omega
 obtain rfl:=Option.some.inj hr'
 rcases g4 with g4 | g4
 ·exact hnew _ g4
 exact Nat.le_trans hsz g4
theorem qiS (x:Int × Bs) (u:List (Int × Bs)):qbx (x :: u) = tagR x.1 x.2 ++ qbx u:=by unfold qbx; rw [List.flatMap_cons]
theorem qiT {u:List (Int × Bs)} {j:Nat} {k:Int} {x:Bs} (h:u[j]? = some (k,x)) (rest:Bs):qbx (u.drop j) ++ rest = uv k.toNat ++ (uv x.length ++ (x ++ (qbx (u.drop (j + 1)) ++ rest))):=by
 obtain ⟨hlt,he⟩:=List.getElem?_eq_some_iff.1 h
 rw [List.drop_eq_getElem_cons hlt,he,qiS]
 simp only [tagR,List.append_assoc]
abbrev z23 (x0) (x1):=([.pointer (some ⟨x0,0,none⟩),.int .i64 ((x1:Nat):Int)]:List Value)
theorem qmJ (u:List (Int × Bs)) (rest:Bs) (hsort:qd1 u) (hk:∀ x ∈ u,0 ≤ x.1 ∧ x.1 < 4294967296) (hul:u.length ≤ 1000000) (hxl:∀ x ∈ u,x.2.length < 4294967296) {br:Nat} {A:Option Addr} {m c:Nat} {w:World} {F:Nat → Nat → Prop} (hst:Str w br [.slice A m c,.bool false]) (hr:RdS w F A m c (uv u.length ++ (qbx u ++ rest))) (hFd:∀ b o,F b o → ¬ RdM br b o) :
  Calls Tryz.prog 130 #[.pointer (some ⟨br,0,none⟩)] w (RdPost w br (Fp F w) rest fun v w'=>∃ mm,v = .agg #[.map mm] ∧ MapR w' (Fp F w) mm u):=by
 have hbr:br < w.heap.size:=World.lt_of_cell (hst.at_ 0 _ rfl)
 refine enter (n:=24) (vs:=[.pointer (some ⟨br,0,none⟩)]) Tryz.func130 rfl Tryz.ntmps130 kz fun a hE=>?_
 have hW:=WOk.start w Nil
 refine qae [0] kz ?_
 refine qam (qbc hW hE (d:=2) (cs:=[.map none]) kz fun p2 a1 w1 hp2 hz2 hF1 hW1 hE1=>qaf (qab ?_))
 refine qae [0] kz ?_
 refine qam (qbc hW1 hE1 (d:=3) (cs:=[.map none]) kz fun p3 a2 w2 hp3 hz3 hF2 hW2 hE2=>qaf (qab ?_))
 have hne:p2 ≠ p3:=by
  have h1:=hW1.live 0 _ rfl
  simp only at h1
  omega
 have hS:Step w w2 Nil:=hW2.step
 have hT0:TR w w2 br p2 p3 F A m c (uv u.length ++ (qbx u ++ rest)) none (u.take 0):=by
  refine ⟨hS.mono fun _ _ _ h=>h.elim,hbr,hz2,hz3,hne,hst.move hS (fun _ h=>h),Str.of hW2 0 rfl,Str.of hW2 1 rfl,hr.move hS nilM (fun b o h hb=>⟨h,hb⟩),?_,fun _ h=>by cases h⟩
  rw [List.take_zero]
  exact OwnM.nil _ _
 refine wp_seq ?_
 have hE3:=(((hE2.recast 2 (.p 0 0) (.v (.pointer (some ⟨p2,0,none⟩))) rfl rfl trivial).recast 3 (.p 1 0) (.v (.pointer (some ⟨p3,0,none⟩))) rfl rfl trivial).pick (ks:=[0,2,3]) (env':=[(0,.v (.pointer (some ⟨br,0,none⟩))),(2,.v (.pointer (some ⟨p2,0,none⟩))),(3,.v (.pointer (some ⟨p3,0,none⟩)))]) kz).cutTb 0 kz
 have hWz:=WOk.start w2 Nil
 refine qae [0,1,2] kz ?_
 refine qak [0] [1,2] [(0,.v (.pointer (some ⟨br,0,none⟩))),(2,.v (.pointer (some ⟨p2,0,none⟩))),(3,.v (.pointer (some ⟨p3,0,none⟩))),(7,.v (.pointer (some ⟨br,0,none⟩)))] hWz hE3 fun a3 hE4=>?_
 have hFd':∀ b o,(F b o ∧ b < w.heap.size) → ¬ RdM br b o:=fun b o h=>hFd b o h.1
 refine qam (qal hE4 (f:=148) (vs:=[.pointer (some ⟨br,0,none⟩)]) (d:=8) kz Tryz.call148 (qdD u.length (by omega) (qbx u ++ rest) hT0.rd hT0.oct hFd') ?_)
 rintro e_ w3 ⟨_,A3,n3,c3,rfl,hs3,hr3,hst3,rfl⟩
 have hT1:=hT0.read hFd hs3 hr3 hst3
 refine ⟨_,rfl,fun a4 hE5=>?_⟩
 refine qak [2] [] [(0,.v (.pointer (some ⟨br,0,none⟩))),(2,.v (.pointer (some ⟨p2,0,none⟩))),(3,.v (.pointer (some ⟨p3,0,none⟩))),(4,.v (.int .u32 ((u.length:Nat):Int)))] (WOk.start w3 Nil) hE5 fun a5 hE6=>qaf (qab ?_)
 refine wp_block ?_
 refine wp_loop_ghost (fun q a_ w_=>∃ (j:Nat) (m_:Option Nat) (A_:Option Addr) (n_ c_:Nat),q = u.length - j ∧ j ≤ u.length ∧ EnvOk 24 [] [(0,.v (.pointer (some ⟨br,0,none⟩))),(2,.v (.pointer (some ⟨p2,0,none⟩))),(3,.v (.pointer (some ⟨p3,0,none⟩))),(4,.v (.int .u32 ((u.length - j:Nat):Int)))] a_ ∧ TR w w_ br p2 p3 F A_ n_ c_ (qbx (u.drop j) ++ rest) m_ (u.take j)) u.length
  ⟨0,none,A3,n3,c3,by omega,by omega,hE6,hT1⟩ ?_
 rintro q aq wq ⟨j,m_,A_,n_,c_,rfl,hj,hEq,hT⟩
 have hWq:=WOk.start wq Nil
 refine wp_seq (qar [(0,.v (.pointer (some ⟨br,0,none⟩))),(2,.v (.pointer (some ⟨p2,0,none⟩))),(3,.v (.pointer (some ⟨p3,0,none⟩))),(4,.v (.int .u32 ((u.length - j:Nat):Int))),(10,.v (.bool (decide (((u.length - j:Nat):Int) > 0))))] hWq hEq fun aq1 hE7=>?_)
 refine qay hE7 (b:=decide (((u.length - j:Nat):Int) > 0)) kz (fun hc=>?_) (fun hc=>?_)
 ·have hlt:j < u.length:=by have:=of_decide_eq_true hc; omega
  obtain ⟨⟨k,x⟩,hu⟩:∃ y,u[j]? = some y:=⟨_,List.getElem?_eq_getElem hlt⟩
  have hk':=hk (k,x) (List.mem_of_getElem? hu)
  have hx':=hxl (k,x) (List.mem_of_getElem? hu)
  dsimp only at hk' hx'
  have hoct:=hT.oct
  rw [qiT hu rest] at hoct
  refine wp_skip (qab (wp_seq (wp_block ?_)))
  refine qae [0,1,2,3,4,5] kz ?_
  refine qak [0] [1,2,3,4,5] [(0,.v (.pointer (some ⟨br,0,none⟩))),(2,.v (.pointer (some ⟨p2,0,none⟩))),(3,.v (.pointer (some ⟨p3,0,none⟩))),(4,.v (.int .u32 ((u.length - j:Nat):Int))),(13,.v (.pointer (some ⟨br,0,none⟩)))] hWq hE7 fun aq2 hE8=>?_
  refine qam (qal hE8 (f:=148) (vs:=[.pointer (some ⟨br,0,none⟩)]) (d:=14) kz Tryz.call148 (qdD k.toNat (by omega) _ hT.rd hoct hFd') ?_)
  rintro e_ wa ⟨_,Aa,na,ca,rfl,hsa,hra,hsta,rfl⟩
  have hTa:=hT.read hFd hsa hra hsta
  refine ⟨_,rfl,fun aq3 hE9=>?_⟩
  refine qak [2] [3,4,5] [(0,.v (.pointer (some ⟨br,0,none⟩))),(2,.v (.pointer (some ⟨p2,0,none⟩))),(3,.v (.pointer (some ⟨p3,0,none⟩))),(4,.v (.int .u32 ((u.length - j:Nat):Int))),(14,.v (.int .u32 ((k.toNat:Nat):Int))),(15,.v (.pointer (some ⟨br,0,none⟩)))] (WOk.start wa Nil) hE9 fun aq4 hE10=>?_
  refine qam (qal hE10 (f:=148) (vs:=[.pointer (some ⟨br,0,none⟩)]) (d:=16) kz Tryz.call148 (qdD x.length hx' _ hTa.rd hTa.oct hFd') ?_)
  rintro e_ wb ⟨_,Ab,nb,cb,rfl,hsb,hrb,hstb,rfl⟩
  have hTb:=hTa.read hFd hsb hrb hstb
  refine ⟨_,rfl,fun aq5 hE11=>?_⟩
  refine qak [4,5] [] [(0,.v (.pointer (some ⟨br,0,none⟩))),(2,.v (.pointer (some ⟨p2,0,none⟩))),(3,.v (.pointer (some ⟨p3,0,none⟩))),(4,.v (.int .u32 ((u.length - j:Nat):Int))),(5,.v (.int .u32 ((k.toNat:Nat):Int))),(6,.v (.int .u32 ((x.length:Nat):Int)))] (WOk.start wb Nil) hE11 fun aq6 hE12=>qaf (qab ?_)
  refine qas [0,1,2,3,4,5] kz ?_
  refine qak [0,1,2,3] [4,5] [(0,.v (.pointer (some ⟨br,0,none⟩))),(2,.v (.pointer (some ⟨p2,0,none⟩))),(3,.v (.pointer (some ⟨p3,0,none⟩))),(4,.v (.int .u32 ((u.length - j:Nat):Int))),(17,.v (.int .u32 ((k.toNat:Nat):Int))),(18,.v (.pointer (some ⟨br,0,none⟩))),(20,.v (.int .i64 (IntKind.i64.wrap ((x.length:Nat):Int))))] (WOk.start wb Nil) hE12 fun aq7 hE13=>?_
  rw [show IntKind.i64.wrap ((x.length:Nat):Int) = ((x.length:Nat):Int) by rw [i64w]; omega,show ((k.toNat:Nat):Int) = k by omega] at hE13
  refine qam (qal hE13 (f:=150) (vs:=(z23 br x.length)) (d:=21) kz Tryz.call150 (qiR x _ hTb.rd hTb.oct hFd') ?_)
  rintro e_ wc ⟨_,Ac,nc,cc,rfl,hsc,hrc,hstc,Ax,rfl,hox⟩
  have hTc:=hTb.read hFd hsc hrc hstc
  refine ⟨_,rfl,fun aq8 hE14=>?_⟩
  refine qam (qal hE14 (f:=153) (vs:=[.pointer (some ⟨p3,0,none⟩),.int .u32 k,.slice Ax x.length x.length]) (d:=22) kz Tryz.call153 (hTc.set hsort hu hox hk') ?_)
  rintro e_ wd ⟨rfl,r,hTd⟩
  refine ⟨_,rfl,fun aq9 hE15=>qaf (qaF (qab ?_))⟩
  refine qas [0,1,2] kz (qak [0,1,2] [] [(0,.v (.pointer (some ⟨br,0,none⟩))),(2,.v (.pointer (some ⟨p2,0,none⟩))),(3,.v (.pointer (some ⟨p3,0,none⟩))),(4,.v (.int .u32 (IntKind.u32.wrap (((u.length - j:Nat):Int) - 1))))] (WOk.start wd Nil) hE15 fun aqa hE16=>qaf (qab ?_))
  rw [show IntKind.u32.wrap (((u.length - j:Nat):Int) - 1) = ((u.length - (j + 1):Nat):Int) by rw [qaq]; omega] at hE16
  exact ⟨u.length - (j + 1),by omega,j + 1,some r,Ac,nc,cc,rfl,by omega,hE16,hTd⟩
 obtain rfl:j = u.length:=by have:=of_decide_eq_false hc; omega
 refine wp_exit (qaz (qaz (qaR (qab ?_))))
 rw [List.take_length,List.drop_length] at hT
 have hT':TR w wq br p2 p3 F A_ n_ c_ rest m_ u:=hT
 have h2:=hT'.new2
 have h3:=hT'.new3
 have hW9:WOk w (RdM br) wq ([] ++ [⟨p3,0,[.map m_],true⟩] ++ [⟨p2,0,[.map none],true⟩]) []:=by
  have hb:WOk w (RdM br) wq [] []:=⟨hT'.step,fun i o hi=>by simp at hi,fun i o hi=>by simp at hi,fun i o hi=>by simp at hi,fun i j o o' _ hi=>by simp at hi,fun i r hi=>by simp at hi,fun i r hi=>by simp at hi,fun i r hi=>by simp at hi,fun i j r r' _ hi=>by simp at hi⟩
  have h4:=hb.add ⟨p3,0,[.map m_],true⟩ (World.lt_of_cell (hT'.s3.at_ 0 _ rfl)) (fun j v hj=>by rw [Nat.zero_add]; exact hT'.s3.at_ j v hj) (fun _ j hj=>⟨.inl h3,by rw [Nat.zero_add]; exact hT'.s3.frz j hj⟩) (fun i o hi=>by simp at hi) (fun i r hi=>by simp at hi)
  refine h4.add ⟨p2,0,[.map none],true⟩ (World.lt_of_cell (hT'.s2.at_ 0 _ rfl)) (fun j v hj=>by rw [Nat.zero_add]; exact hT'.s2.at_ j v hj) (fun _ j hj=>⟨.inl h2,by rw [Nat.zero_add]; exact hT'.s2.frz j hj⟩) (fun i o hi _=>.inl ?_) (fun i r hi=>by simp at hi)
  have:o = ⟨p3,0,[.map m_],true⟩:=by
   have hm:=List.mem_of_getElem? hi
   simpa using hm
  rw [this]
  exact fun e=>hT'.ne e.symm
 have hE17:=(((hE7.retable [⟨p3,0,[.map m_],true⟩,⟨p2,0,[.map none],true⟩]).recast 3 (.v (.pointer (some ⟨p3,0,none⟩))) (.p 0 0) rfl rfl (Nat.le_of_ble_eq_true (n:=1) rfl)).recast 2 (.v (.pointer (some ⟨p2,0,none⟩))) (.p 1 0) rfl rfl (Nat.le_of_ble_eq_true (n:=2) rfl))
 have hE18:EnvOk 24 [⟨p3,0,[.map m_],true⟩,⟨p2,0,[.map none],true⟩] [(2,.p 1 0),(3,.p 0 0)] _:=hE17.pk
 refine qae [0,1] kz ?_
 refine qak [0] [1] [(2,.p 1 0),(23,.v (.agg #[.map m_]))] hW9 hE18 fun aqb hE19=>?_
 refine qam (qaM hW9 hE19 (oi:=1) (cs:=[.map m_]) kz fun wz hFz hWz hEz=>qaf (qab (wp_ret ?_)))
 have hsz:=hT'.step.size
 have hstz:Step wq wz (fun b o=>b = p2 ∨ b = p3):=hFz.step.mono fun b o _ ha=>by
  rcases ha with ⟨i,ob,hi,_,rfl,_⟩ | ⟨i,r,hi,_⟩
  ·have hm:=List.mem_of_getElem? hi
   simp only [List.nil_append,List.cons_append,List.mem_cons,List.not_mem_nil,or_false] at hm
   rcases hm with rfl | rfl
   ·exact .inr rfl
   exact .inl rfl
  simp at hi
 obtain ⟨m2,m3⟩:=hT'.mne
 refine qaE hEz hWz.cells (v:=.agg #[.map m_]) kz ⟨_,A_,n_,c_,rfl,hT'.rd.move hstz (fun o e=>?_),hT'.oct.move hstz (fun b o hg _ e=>?_) (fun b o hg _=>.inl hg.1),hWz.step,m_,rfl,?_⟩
 ·have:=hT'.old; rcases e with e | e <;> omega
 ·have:=hg.2; rcases e with e | e <;> omega
 refine (hT'.own.move hstz (fun b o hg _ e=>?_) qbg (fun r o e he=>?_)).map (fun b o h=>.inl h.1) (fun r o e=>.inr (hT'.new r e)) hsort hk
 ·have:=hg.2; rcases e with e | e <;> omega
 rcases he with he | he
 ·exact m2 (by rw [e,he])
 exact m3 (by rw [e,he])
theorem qmp (x:Int) (rest:Bs)  {br:Nat} {A:Option Addr} {m c:Nat} {w:World} {F:Nat → Nat → Prop} (hst:Str w br [.slice A m c,.bool false]) (hr:RdS w F A m c ((be 8 x) ++ rest)) (hFd:∀ b o,F b o → ¬ RdM br b o) :
  Calls Tryz.prog 122 #[.pointer (some ⟨br,0,none⟩)] w (RdPost w br (Fp F w) rest fun v w'=>v = .int .i64 (IntKind.i64.wrap x)):=by
 refine enter (n:=6) Tryz.func122 rfl Tryz.ntmps122 kz fun a hE=>?_
 have hW:WOk w (RdM br) w (z4 br A m c) []:=WOk.startStr hst
 have hE1:=(hE.grow ⟨br,0,[.slice A m c,.bool false],true⟩).recast 0 (.v (.pointer (some ⟨br,0,none⟩))) (.p 0 0) rfl rfl (Nat.le_of_ble_eq_true (n:=1) rfl)
 refine qar [(0,.p 0 0)] hW hE1 fun a1 hE2=>?_
 refine qae [0,1,2,3] kz ?_
 refine qak [0] [1,2,3] [(3,.p 0 0)] hW hE2 fun a3 hE4=>?_
 refine qam (qal hE4 (f:=152) (vs:=[.pointer (some ⟨br,0,none⟩)]) (d:=4) kz Tryz.call152 (qlO x (rest) (Str.of hW 0 rfl) (hr.move hW.step (fun b_ o_ h_ _=>hFd b_ o_ h_) (hW.immM hFd)) (qc7 0 rfl)) ?_)
 rintro e_ w5 ⟨_,A6,n7,c8,rfl,hs9,ac,ab,rfl⟩
 obtain ⟨aa,ae,aj⟩:=hW.wrote 0 (z4 br A6 n7 c8) rfl ab hs9
 have af:=ac.move (Step.refl _ Nil) nilM (fun b_ o_ h_ _=>ae.to b_ o_ h_)
 refine ⟨_,rfl,fun ak ag=>?_⟩
 have ah:EnvOk 6 (z4 br A6 n7 c8) [(4,.v (.int .u64 (IntKind.u64.wrap x))),(3,.p 0 0)] _:=ag.places (⟨rfl,rfl,trivial⟩)
 refine qak [2,3] [] [(2,.v (.int .i64 (IntKind.i64.wrap (IntKind.u64.wrap x))))] aa ah fun al ai=>?_
 refine qaf (qab ?_)
 refine wp_ret (qaE ai aa.cells (v:=.int .i64 (IntKind.i64.wrap (IntKind.u64.wrap x))) kz ?_)
 refine ⟨_,_,_,_,rfl,Str.of aa 0 rfl,(af.move (Step.refl _ Nil) nilM qdI),aa.step,by rw [qlJ]⟩
theorem qlP (X:Bs) (hX:X.length ≤ 32767) (rest:Bs)  {br:Nat} {A:Option Addr} {m c:Nat} {w:World} {F:Nat → Nat → Prop} (hst:Str w br [.slice A m c,.bool false]) (hr:RdS w F A m c ((be 2 ((X.length:Nat):Int)) ++ (X ++ rest))) (hFd:∀ b o,F b o → ¬ RdM br b o) :
  Calls Tryz.prog 116 #[.pointer (some ⟨br,0,none⟩)] w (RdPost w br (Fp F w) rest fun v w'=>v = .string (bs X)):=by
 refine enter (n:=11) Tryz.func116 rfl Tryz.ntmps116 kz fun a hE=>?_
 have hW:WOk w (RdM br) w (z4 br A m c) []:=WOk.startStr hst
 have hE1:=(hE.grow ⟨br,0,[.slice A m c,.bool false],true⟩).recast 0 (.v (.pointer (some ⟨br,0,none⟩))) (.p 0 0) rfl rfl (Nat.le_of_ble_eq_true (n:=1) rfl)
 refine qar [(0,.p 0 0)] hW hE1 fun a1 hE2=>?_
 refine qae [0,1,2] kz ?_
 refine qak [0] [1,2] [(0,.p 0 0),(4,.p 0 0)] hW hE2 fun a3 hE4=>?_
 refine qam (qal hE4 (f:=135) (vs:=[.pointer (some ⟨br,0,none⟩)]) (d:=5) kz Tryz.call135 (qim ((X.length:Nat):Int) (X ++ rest) (Str.of hW 0 rfl) (hr.move hW.step (fun b_ o_ h_ _=>hFd b_ o_ h_) (hW.immM hFd)) (qc7 0 rfl)) ?_)
 rintro e_ w5 ⟨_,A6,n7,c8,rfl,hs9,ag,ac,rfl⟩
 obtain ⟨aa,ah,aG⟩:=hW.wrote 0 (z4 br A6 n7 c8) rfl ac hs9
 have ai:=ag.move (Step.refl _ Nil) nilM (fun b_ o_ h_ _=>ah.to b_ o_ h_)
 refine ⟨_,rfl,fun aJ aj=>?_⟩
 have ak:EnvOk 11 (z4 br A6 n7 c8) [(5,.v (.int .i16 (IntKind.i16.wrap ((X.length:Nat):Int)))),(0,.p 0 0),(4,.p 0 0)] _:=aj.places (⟨rfl,rfl,trivial⟩)
 refine qak [2] [] [(0,.p 0 0),(3,.v (.int .i16 (IntKind.i16.wrap ((X.length:Nat):Int))))] aa ak fun aK al=>?_
 refine qaf (qab ?_)
 refine qae [0,1,2,3,4,5] kz ?_
 refine qak [0,1,2] [3,4,5] [(6,.p 0 0),(8,.v (.int .i64 (IntKind.i64.wrap (IntKind.i16.wrap ((X.length:Nat):Int)))))] aa al fun aL am=>?_
 have ao:IntKind.i64.wrap (IntKind.i16.wrap ((X.length:Nat):Int)) = ((X.length:Nat):Int):=by simp only [i16w,i32w,i64w]; omega
 have ap:=EnvOk.pick am (ks:=[6,8]) (env':=[(6,.p 0 0),(8,.v (.int .i64 (IntKind.i64.wrap (IntKind.i16.wrap ((X.length:Nat):Int)))))]) kz
 have ar:=ap
 rw [ao] at ar
 refine qam (qal ar (f:=150) (vs:=(z23 br X.length)) (d:=9) kz Tryz.call150 (qiR X (rest) (Str.of aa 0 rfl) ai (qc7 0 rfl)) ?_)
 rintro e_ aM ⟨_,aD,aE,aF,rfl,au,av,ae,⟨aH,rfl,aw⟩⟩
 obtain ⟨ab,af,aI⟩:=aa.wrote 0 (z4 br aD aE aF) rfl ae au
 have ax:=av.move (Step.refl _ Nil) nilM (fun b_ o_ h_ _=>af.to b_ o_ h_)
 refine ⟨_,rfl,fun aN ay=>?_⟩
 have az:EnvOk 11 (z4 br aD aE aF) [(9,.v (.slice aH X.length X.length)),(6,.p 0 0),(8,.v (.int .i64 ((X.length:Nat):Int)))] _:=ay.places (⟨rfl,rfl,trivial⟩)
 have aA:=aw.move (Step.refl _ Nil) nilM (fun b_ o_ h_ _=>af.to b_ o_ h_)
 refine qam (qe1 az (src:=24) (dst:=9) (e:=5) (d:=10) kz kz kz kz aA fun aO aB=>?_)
 refine qak [5] [] [(2,.v (.string (bs X)))] ab aB fun aP aC=>?_
 refine qaf (qab ?_)
 refine wp_ret (qaE aC ab.cells (v:=.string (bs X)) kz ?_)
 refine ⟨_,_,_,_,rfl,Str.of ab 0 rfl,(ax.move (Step.refl _ Nil) nilM qdI),ab.step,rfl⟩
theorem qfT (X:Bs) (hX:X.length ≤ 1000000) (rest:Bs)  {br:Nat} {A:Option Addr} {m c:Nat} {w:World} {F:Nat → Nat → Prop} (hst:Str w br [.slice A m c,.bool false]) (hr:RdS w F A m c ((uv (X.length + 1)) ++ (X ++ rest))) (hFd:∀ b o,F b o → ¬ RdM br b o) :
  Calls Tryz.prog 115 #[.pointer (some ⟨br,0,none⟩)] w (RdPost w br (Fp F w) rest fun v w'=>v = .string (bs X)):=by
 refine enter (n:=12) Tryz.func115 rfl Tryz.ntmps115 kz fun a hE=>?_
 have hW:WOk w (RdM br) w (z4 br A m c) []:=WOk.startStr hst
 have hE1:=(hE.grow ⟨br,0,[.slice A m c,.bool false],true⟩).recast 0 (.v (.pointer (some ⟨br,0,none⟩))) (.p 0 0) rfl rfl (Nat.le_of_ble_eq_true (n:=1) rfl)
 refine qar [(0,.p 0 0)] hW hE1 fun a1 hE2=>?_
 refine qae [0,1,2,3,4] kz ?_
 refine qak [0] [1,2,3,4] [(0,.p 0 0),(4,.p 0 0)] hW hE2 fun a3 hE4=>?_
 refine qam (qal hE4 (f:=148) (vs:=[.pointer (some ⟨br,0,none⟩)]) (d:=5) kz Tryz.call148 (qdD (X.length + 1) (by omega) (X ++ rest) (Str.of hW 0 rfl) (hr.move hW.step (fun b_ o_ h_ _=>hFd b_ o_ h_) (hW.immM hFd)) (qc7 0 rfl)) ?_)
 rintro e_ w5 ⟨_,A6,n7,c8,rfl,hs9,ag,ac,rfl⟩
 obtain ⟨aa,ah,aG⟩:=hW.wrote 0 (z4 br A6 n7 c8) rfl ac hs9
 have ai:=ag.move (Step.refl _ Nil) nilM (fun b_ o_ h_ _=>ah.to b_ o_ h_)
 refine ⟨_,rfl,fun aJ aj=>?_⟩
 have ak:EnvOk 12 (z4 br A6 n7 c8) [(5,.v (.int .u32 ((X.length + 1:Nat):Int))),(0,.p 0 0),(4,.p 0 0)] _:=aj.places (⟨rfl,rfl,trivial⟩)
 refine qak [2,3,4] [] [(0,.p 0 0),(3,.v (.int .i64 (IntKind.i64.wrap ((IntKind.i64.wrap ((X.length + 1:Nat):Int)) - 1))))] aa ak fun aK al=>?_
 refine qaf (qab ?_)
 refine qae [0,1,2,3,4] kz ?_
 refine qak [0,1] [2,3,4] [(8,.p 0 0),(9,.v (.int .i64 (IntKind.i64.wrap ((IntKind.i64.wrap ((X.length + 1:Nat):Int)) - 1))))] aa al fun aL am=>?_
 have ao:IntKind.i64.wrap ((IntKind.i64.wrap ((X.length + 1:Nat):Int)) - 1) = ((X.length:Nat):Int):=by simp only [i16w,i32w,i64w]; omega
 have ap:=EnvOk.pick am (ks:=[8,9]) (env':=[(8,.p 0 0),(9,.v (.int .i64 (IntKind.i64.wrap ((IntKind.i64.wrap ((X.length + 1:Nat):Int)) - 1))))]) kz
 have ar:=ap
 rw [ao] at ar
 refine qam (qal ar (f:=150) (vs:=(z23 br X.length)) (d:=10) kz Tryz.call150 (qiR X (rest) (Str.of aa 0 rfl) ai (qc7 0 rfl)) ?_)
 rintro e_ aM ⟨_,aD,aE,aF,rfl,au,av,ae,⟨aH,rfl,aw⟩⟩
 obtain ⟨ab,af,aI⟩:=aa.wrote 0 (z4 br aD aE aF) rfl ae au
 have ax:=av.move (Step.refl _ Nil) nilM (fun b_ o_ h_ _=>af.to b_ o_ h_)
 refine ⟨_,rfl,fun aN ay=>?_⟩
 have az:EnvOk 12 (z4 br aD aE aF) [(10,.v (.slice aH X.length X.length)),(8,.p 0 0),(9,.v (.int .i64 ((X.length:Nat):Int)))] _:=ay.places (⟨rfl,rfl,trivial⟩)
 have aA:=aw.move (Step.refl _ Nil) nilM (fun b_ o_ h_ _=>af.to b_ o_ h_)
 refine qam (qe1 az (src:=24) (dst:=9) (e:=5) (d:=11) kz kz kz kz aA fun aO aB=>?_)
 refine qak [4] [] [(2,.v (.string (bs X)))] ab aB fun aP aC=>?_
 refine qaf (qab ?_)
 refine wp_ret (qaE aC ab.cells (v:=.string (bs X)) kz ?_)
 refine ⟨_,_,_,_,rfl,Str.of ab 0 rfl,(ax.move (Step.refl _ Nil) nilM qdI),ab.step,rfl⟩
theorem qfi (X:Bs) (rest:Bs)  {br:Nat} {A:Option Addr} {m c:Nat} {w:World} {F:Nat → Nat → Prop} (hst:Str w br [.slice A m c,.bool false]) (hr:RdS w F A m c ((be 2 (-1)) ++ rest)) (hFd:∀ b o,F b o → ¬ RdM br b o) :
  Calls Tryz.prog 121 #[.pointer (some ⟨br,0,none⟩)] w (RdPost w br (Fp F w) rest fun v w'=>∃ A2,v = .pointer A2 ∧ (∀ ad,A2 = some ad → ∃ b o,ad = ⟨b,o,none⟩ ∧ AtF w' (Fp F w) b o [.string (bs X)]) ∧ A2.isNone = true):=by
 refine enter (n:=14) Tryz.func121 rfl Tryz.ntmps121 kz fun a hE=>?_
 have hW:WOk w (RdM br) w (z4 br A m c) []:=WOk.startStr hst
 have hE1:=(hE.grow ⟨br,0,[.slice A m c,.bool false],true⟩).recast 0 (.v (.pointer (some ⟨br,0,none⟩))) (.p 0 0) rfl rfl (Nat.le_of_ble_eq_true (n:=1) rfl)
 refine qar [(0,.p 0 0)] hW hE1 fun a1 hE2=>?_
 refine qae [0,1,2] kz ?_
 refine qak [0] [1,2] [(0,.p 0 0),(5,.p 0 0)] hW hE2 fun a3 hE4=>?_
 refine qam (qal hE4 (f:=135) (vs:=[.pointer (some ⟨br,0,none⟩)]) (d:=6) kz Tryz.call135 (qim (-1) (rest) (Str.of hW 0 rfl) (hr.move hW.step (fun b_ o_ h_ _=>hFd b_ o_ h_) (hW.immM hFd)) (qc7 0 rfl)) ?_)
 rintro e_ w5 ⟨_,A6,n7,c8,rfl,hs9,ae,ab,rfl⟩
 obtain ⟨aa,af,al⟩:=hW.wrote 0 (z4 br A6 n7 c8) rfl ab hs9
 have ag:=ae.move (Step.refl _ Nil) nilM (fun b_ o_ h_ _=>af.to b_ o_ h_)
 refine ⟨_,rfl,fun am ah=>?_⟩
 have ai:EnvOk 14 (z4 br A6 n7 c8) [(6,.v (.int .i16 (IntKind.i16.wrap (-1)))),(0,.p 0 0),(5,.p 0 0)] _:=ah.places (⟨rfl,rfl,trivial⟩)
 refine qak [2] [] [(0,.p 0 0),(3,.v (.int .i16 (IntKind.i16.wrap (-1))))] aa ai fun ao aj=>?_
 refine qaf (qab ?_)
 refine wp_seq (qar [(0,.p 0 0),(3,.v (.int .i16 (IntKind.i16.wrap (-1)))),(8,.v (.bool (decide ((IntKind.i16.wrap (-1)) < 0))))] aa aj fun ap ac=>?_)
 refine qbw ac (b:=decide ((IntKind.i16.wrap (-1)) < 0)) kz (decide_eq_true (by simp only [i16w,i32w,i64w]; omega)) ?_
 refine qar [(2,.v (.pointer none))] aa ac fun ar ak=>?_
 refine wp_ret (qaD (qaE ak aa.cells (v:=.pointer none) kz ?_))
 refine ⟨_,_,_,_,rfl,Str.of aa 0 rfl,(ag.move (Step.refl _ Nil) nilM qdI),aa.step,_,rfl,(fun ad h_=>by cases h_),rfl⟩
theorem qfj (X:Bs) (hX:X.length ≤ 32767) (rest:Bs)  {br:Nat} {A:Option Addr} {m c:Nat} {w:World} {F:Nat → Nat → Prop} (hst:Str w br [.slice A m c,.bool false]) (hr:RdS w F A m c ((be 2 ((X.length:Nat):Int)) ++ (X ++ rest))) (hFd:∀ b o,F b o → ¬ RdM br b o) :
  Calls Tryz.prog 121 #[.pointer (some ⟨br,0,none⟩)] w (RdPost w br (Fp F w) rest fun v w'=>∃ A2,v = .pointer A2 ∧ (∀ ad,A2 = some ad → ∃ b o,ad = ⟨b,o,none⟩ ∧ AtF w' (Fp F w) b o [.string (bs X)]) ∧ A2.isNone = false):=by
 refine enter (n:=14) Tryz.func121 rfl Tryz.ntmps121 kz fun a hE=>?_
 have hW:WOk w (RdM br) w (z4 br A m c) []:=WOk.startStr hst
 have hE1:=(hE.grow ⟨br,0,[.slice A m c,.bool false],true⟩).recast 0 (.v (.pointer (some ⟨br,0,none⟩))) (.p 0 0) rfl rfl (Nat.le_of_ble_eq_true (n:=1) rfl)
 refine qar [(0,.p 0 0)] hW hE1 fun a1 hE2=>?_
 refine qae [0,1,2] kz ?_
 refine qak [0] [1,2] [(0,.p 0 0),(5,.p 0 0)] hW hE2 fun a3 hE4=>?_
 refine qam (qal hE4 (f:=135) (vs:=[.pointer (some ⟨br,0,none⟩)]) (d:=6) kz Tryz.call135 (qim ((X.length:Nat):Int) (X ++ rest) (Str.of hW 0 rfl) (hr.move hW.step (fun b_ o_ h_ _=>hFd b_ o_ h_) (hW.immM hFd)) (qc7 0 rfl)) ?_)
 rintro e_ w5 ⟨_,A6,n7,c8,rfl,hs9,aj,ac,rfl⟩
 obtain ⟨aa,ak,aN⟩:=hW.wrote 0 (z4 br A6 n7 c8) rfl ac hs9
 have al:=aj.move (Step.refl _ Nil) nilM (fun b_ o_ h_ _=>ak.to b_ o_ h_)
 refine ⟨_,rfl,fun aT am=>?_⟩
 have ao:EnvOk 14 (z4 br A6 n7 c8) [(6,.v (.int .i16 (IntKind.i16.wrap ((X.length:Nat):Int)))),(0,.p 0 0),(5,.p 0 0)] _:=am.places (⟨rfl,rfl,trivial⟩)
 refine qak [2] [] [(0,.p 0 0),(3,.v (.int .i16 (IntKind.i16.wrap ((X.length:Nat):Int))))] aa ao fun aU ap=>?_
 refine qaf (qab ?_)
 refine wp_seq (qar [(0,.p 0 0),(3,.v (.int .i16 (IntKind.i16.wrap ((X.length:Nat):Int)))),(8,.v (.bool (decide ((IntKind.i16.wrap ((X.length:Nat):Int)) < 0))))] aa ap fun aV ae=>?_)
 refine qau ae (b:=decide ((IntKind.i16.wrap ((X.length:Nat):Int)) < 0)) kz (decide_eq_false (by simp only [i16w,i32w,i64w]; omega)) ?_
 refine wp_skip (qab (qae [0,1,2,3,4,5,6] kz ?_))
 refine qak [0,1,2] [3,4,5,6] [(9,.p 0 0),(11,.v (.int .i64 (IntKind.i64.wrap (IntKind.i16.wrap ((X.length:Nat):Int)))))] aa ae fun aW ar=>?_
 have au:IntKind.i64.wrap (IntKind.i16.wrap ((X.length:Nat):Int)) = ((X.length:Nat):Int):=by simp only [i16w,i32w,i64w]; omega
 have av:=EnvOk.pick ar (ks:=[9,11]) (env':=[(9,.p 0 0),(11,.v (.int .i64 (IntKind.i64.wrap (IntKind.i16.wrap ((X.length:Nat):Int)))))]) kz
 have aw:=av
 rw [au] at aw
 refine qam (qal aw (f:=150) (vs:=(z23 br X.length)) (d:=12) kz Tryz.call150 (qiR X (rest) (Str.of aa 0 rfl) al (qc7 0 rfl)) ?_)
 rintro e_ aX ⟨_,aK,aL,aM,rfl,ax,ay,af,⟨aO,rfl,az⟩⟩
 obtain ⟨aA,ag,aP⟩:=aa.wrote 0 (z4 br aK aL aM) rfl af ax
 have aB:=ay.move (Step.refl _ Nil) nilM (fun b_ o_ h_ _=>ag.to b_ o_ h_)
 refine ⟨_,rfl,fun aY aC=>?_⟩
 have aD:EnvOk 14 (z4 br aK aL aM) [(12,.v (.slice aO X.length X.length)),(9,.p 0 0),(11,.v (.int .i64 ((X.length:Nat):Int)))] _:=aC.places (⟨rfl,rfl,trivial⟩)
 have aE:=az.move (Step.refl _ Nil) nilM (fun b_ o_ h_ _=>ag.to b_ o_ h_)
 refine qam (qe1 aD (src:=24) (dst:=9) (e:=5) (d:=13) kz kz kz kz aE fun aZ aF=>?_)
 refine qam (qbc aA aF (d:=4) (cs:=[.string ByteArray.empty]) kz fun aQ ba bd aR aS ah aG aH=>?_)
 refine qam (qaM aG aH (oi:=1) (cs:=[.string (bs X)]) kz fun bf ai ab aI=>?_)
 refine qaf (qab ?_)
 refine qar [(2,.p 1 0)] ab aI fun bg aJ=>?_
 refine wp_ret (qaE aJ ab.cells (v:=.pointer (some ⟨aQ,0,none⟩)) kz ?_)
 refine ⟨_,_,_,_,rfl,Str.of ab 0 rfl,((aB.move (ah.trans ai).step immM (ah.trans ai).to').move (Step.refl _ Nil) nilM qdI),ab.step,_,rfl,(fun ad h_=>by
  obtain rfl:=Option.some.inj h_
  exact ⟨_,0,rfl,fun j v_ hj=>⟨.inr ‹_›,ab.cells 1 _ rfl j v_ hj⟩⟩),rfl⟩
theorem qfN (nul:Bool) (X:Bs) (hX:X.length ≤ 32767) (rest:Bs) {br:Nat} {A:Option Addr} {m c:Nat} {w:World} {F:Nat → Nat → Prop} (hst:Str w br [.slice A m c,.bool false]) (hr:RdS w F A m c ((if nul = true then be 2 (-1) else be 2 ((X.length:Nat):Int) ++ X) ++ rest)) (hFd:∀ b o,F b o → ¬ RdM br b o) :
  Calls Tryz.prog 121 #[.pointer (some ⟨br,0,none⟩)] w (RdPost w br (Fp F w) rest fun v w'=>∃ A2,v = .pointer A2 ∧ (∀ ad,A2 = some ad → ∃ b o,ad = ⟨b,o,none⟩ ∧ AtF w' (Fp F w) b o [.string (bs X)]) ∧ A2.isNone = nul):=by
 cases nul
 ·exact qfj X hX rest hst (hr.cast (by simp only [Bool.false_eq_true,if_false,List.append_assoc])) hFd
 exact qfi X rest hst (hr.cast (by simp only [if_true])) hFd
theorem qdE (X:Bs) (rest:Bs)  {br:Nat} {A:Option Addr} {m c:Nat} {w:World} {F:Nat → Nat → Prop} (hst:Str w br [.slice A m c,.bool false]) (hr:RdS w F A m c ((uv 0) ++ rest)) (hFd:∀ b o,F b o → ¬ RdM br b o) :
  Calls Tryz.prog 119 #[.pointer (some ⟨br,0,none⟩)] w (RdPost w br (Fp F w) rest fun v w'=>∃ A2,v = .pointer A2 ∧ (∀ ad,A2 = some ad → ∃ b o,ad = ⟨b,o,none⟩ ∧ AtF w' (Fp F w) b o [.string (bs X)]) ∧ A2.isNone = true):=by
 refine enter (n:=15) Tryz.func119 rfl Tryz.ntmps119 kz fun a hE=>?_
 have hW:WOk w (RdM br) w (z4 br A m c) []:=WOk.startStr hst
 have hE1:=(hE.grow ⟨br,0,[.slice A m c,.bool false],true⟩).recast 0 (.v (.pointer (some ⟨br,0,none⟩))) (.p 0 0) rfl rfl (Nat.le_of_ble_eq_true (n:=1) rfl)
 refine qar [(0,.p 0 0)] hW hE1 fun a1 hE2=>?_
 refine qae [0,1,2,3,4] kz ?_
 refine qak [0] [1,2,3,4] [(0,.p 0 0),(5,.p 0 0)] hW hE2 fun a3 hE4=>?_
 refine qam (qal hE4 (f:=148) (vs:=[.pointer (some ⟨br,0,none⟩)]) (d:=6) kz Tryz.call148 (qdD 0 (by omega) (rest) (Str.of hW 0 rfl) (hr.move hW.step (fun b_ o_ h_ _=>hFd b_ o_ h_) (hW.immM hFd)) (qc7 0 rfl)) ?_)
 rintro e_ w5 ⟨_,A6,n7,c8,rfl,hs9,ae,ab,rfl⟩
 obtain ⟨aa,af,al⟩:=hW.wrote 0 (z4 br A6 n7 c8) rfl ab hs9
 have ag:=ae.move (Step.refl _ Nil) nilM (fun b_ o_ h_ _=>af.to b_ o_ h_)
 refine ⟨_,rfl,fun am ah=>?_⟩
 have ai:EnvOk 15 (z4 br A6 n7 c8) [(6,.v (.int .u32 ((0:Nat):Int))),(0,.p 0 0),(5,.p 0 0)] _:=ah.places (⟨rfl,rfl,trivial⟩)
 refine qak [2,3,4] [] [(0,.p 0 0),(3,.v (.int .i64 (IntKind.i64.wrap ((IntKind.i64.wrap ((0:Nat):Int)) - 1))))] aa ai fun ao aj=>?_
 refine qaf (qab ?_)
 refine wp_seq (qar [(0,.p 0 0),(3,.v (.int .i64 (IntKind.i64.wrap ((IntKind.i64.wrap ((0:Nat):Int)) - 1)))),(10,.v (.bool (decide ((IntKind.i64.wrap ((IntKind.i64.wrap ((0:Nat):Int)) - 1)) < 0))))] aa aj fun ap ac=>?_)
 refine qbw ac (b:=decide ((IntKind.i64.wrap ((IntKind.i64.wrap ((0:Nat):Int)) - 1)) < 0)) kz (decide_eq_true (by simp only [i16w,i32w,i64w]; omega)) ?_
 refine qar [(2,.v (.pointer none))] aa ac fun ar ak=>?_
 refine wp_ret (qaD (qaE ak aa.cells (v:=.pointer none) kz ?_))
 refine ⟨_,_,_,_,rfl,Str.of aa 0 rfl,(ag.move (Step.refl _ Nil) nilM qdI),aa.step,_,rfl,(fun ad h_=>by cases h_),rfl⟩
theorem qdF (X:Bs) (hX:X.length ≤ 1000000) (rest:Bs)  {br:Nat} {A:Option Addr} {m c:Nat} {w:World} {F:Nat → Nat → Prop} (hst:Str w br [.slice A m c,.bool false]) (hr:RdS w F A m c ((uv (X.length + 1)) ++ (X ++ rest))) (hFd:∀ b o,F b o → ¬ RdM br b o) :
  Calls Tryz.prog 119 #[.pointer (some ⟨br,0,none⟩)] w (RdPost w br (Fp F w) rest fun v w'=>∃ A2,v = .pointer A2 ∧ (∀ ad,A2 = some ad → ∃ b o,ad = ⟨b,o,none⟩ ∧ AtF w' (Fp F w) b o [.string (bs X)]) ∧ A2.isNone = false):=by
 refine enter (n:=15) Tryz.func119 rfl Tryz.ntmps119 kz fun a hE=>?_
 have hW:WOk w (RdM br) w (z4 br A m c) []:=WOk.startStr hst
 have hE1:=(hE.grow ⟨br,0,[.slice A m c,.bool false],true⟩).recast 0 (.v (.pointer (some ⟨br,0,none⟩))) (.p 0 0) rfl rfl (Nat.le_of_ble_eq_true (n:=1) rfl)
 refine qar [(0,.p 0 0)] hW hE1 fun a1 hE2=>?_
 refine qae [0,1,2,3,4] kz ?_
 refine qak [0] [1,2,3,4] [(0,.p 0 0),(5,.p 0 0)] hW hE2 fun a3 hE4=>?_
 refine qam (qal hE4 (f:=148) (vs:=[.pointer (some ⟨br,0,none⟩)]) (d:=6) kz Tryz.call148 (qdD (X.length + 1) (by omega) (X ++ rest) (Str.of hW 0 rfl) (hr.move hW.step (fun b_ o_ h_ _=>hFd b_ o_ h_) (hW.immM hFd)) (qc7 0 rfl)) ?_)
 rintro e_ w5 ⟨_,A6,n7,c8,rfl,hs9,aj,ac,rfl⟩
 obtain ⟨aa,ak,aN⟩:=hW.wrote 0 (z4 br A6 n7 c8) rfl ac hs9
 have al:=aj.move (Step.refl _ Nil) nilM (fun b_ o_ h_ _=>ak.to b_ o_ h_)
 refine ⟨_,rfl,fun aT am=>?_⟩
 have ao:EnvOk 15 (z4 br A6 n7 c8) [(6,.v (.int .u32 ((X.length + 1:Nat):Int))),(0,.p 0 0),(5,.p 0 0)] _:=am.places (⟨rfl,rfl,trivial⟩)
 refine qak [2,3,4] [] [(0,.p 0 0),(3,.v (.int .i64 (IntKind.i64.wrap ((IntKind.i64.wrap ((X.length + 1:Nat):Int)) - 1))))] aa ao fun aU ap=>?_
 refine qaf (qab ?_)
 refine wp_seq (qar [(0,.p 0 0),(3,.v (.int .i64 (IntKind.i64.wrap ((IntKind.i64.wrap ((X.length + 1:Nat):Int)) - 1)))),(10,.v (.bool (decide ((IntKind.i64.wrap ((IntKind.i64.wrap ((X.length + 1:Nat):Int)) - 1)) < 0))))] aa ap fun aV ae=>?_)
 refine qau ae (b:=decide ((IntKind.i64.wrap ((IntKind.i64.wrap ((X.length + 1:Nat):Int)) - 1)) < 0)) kz (decide_eq_false (by simp only [i16w,i32w,i64w]; omega)) ?_
 refine wp_skip (qab (qae [0,1,2,3,4,5] kz ?_))
 refine qak [0,1] [2,3,4,5] [(11,.p 0 0),(12,.v (.int .i64 (IntKind.i64.wrap ((IntKind.i64.wrap ((X.length + 1:Nat):Int)) - 1))))] aa ae fun aW ar=>?_
 have au:IntKind.i64.wrap ((IntKind.i64.wrap ((X.length + 1:Nat):Int)) - 1) = ((X.length:Nat):Int):=by simp only [i16w,i32w,i64w]; omega
 have av:=EnvOk.pick ar (ks:=[11,12]) (env':=[(11,.p 0 0),(12,.v (.int .i64 (IntKind.i64.wrap ((IntKind.i64.wrap ((X.length + 1:Nat):Int)) - 1))))]) kz
 have aw:=av
 rw [au] at aw
 refine qam (qal aw (f:=150) (vs:=(z23 br X.length)) (d:=13) kz Tryz.call150 (qiR X (rest) (Str.of aa 0 rfl) al (qc7 0 rfl)) ?_)
 rintro e_ aX ⟨_,aK,aL,aM,rfl,ax,ay,af,⟨aO,rfl,az⟩⟩
 obtain ⟨aA,ag,aP⟩:=aa.wrote 0 (z4 br aK aL aM) rfl af ax
 have aB:=ay.move (Step.refl _ Nil) nilM (fun b_ o_ h_ _=>ag.to b_ o_ h_)
 refine ⟨_,rfl,fun aY aC=>?_⟩
 have aD:EnvOk 15 (z4 br aK aL aM) [(13,.v (.slice aO X.length X.length)),(11,.p 0 0),(12,.v (.int .i64 ((X.length:Nat):Int)))] _:=aC.places (⟨rfl,rfl,trivial⟩)
 have aE:=az.move (Step.refl _ Nil) nilM (fun b_ o_ h_ _=>ag.to b_ o_ h_)
 refine qam (qe1 aD (src:=24) (dst:=9) (e:=5) (d:=14) kz kz kz kz aE fun aZ aF=>?_)
 refine qam (qbc aA aF (d:=4) (cs:=[.string ByteArray.empty]) kz fun aQ ba bd aR aS ah aG aH=>?_)
 refine qam (qaM aG aH (oi:=1) (cs:=[.string (bs X)]) kz fun bf ai ab aI=>?_)
 refine qaf (qab ?_)
 refine qar [(2,.p 1 0)] ab aI fun bg aJ=>?_
 refine wp_ret (qaE aJ ab.cells (v:=.pointer (some ⟨aQ,0,none⟩)) kz ?_)
 refine ⟨_,_,_,_,rfl,Str.of ab 0 rfl,((aB.move (ah.trans ai).step immM (ah.trans ai).to').move (Step.refl _ Nil) nilM qdI),ab.step,_,rfl,(fun ad h_=>by
  obtain rfl:=Option.some.inj h_
  exact ⟨_,0,rfl,fun j v_ hj=>⟨.inr ‹_›,ab.cells 1 _ rfl j v_ hj⟩⟩),rfl⟩
theorem qdL (nul:Bool) (X:Bs) (hX:X.length ≤ 1000000) (rest:Bs) {br:Nat} {A:Option Addr} {m c:Nat} {w:World} {F:Nat → Nat → Prop} (hst:Str w br [.slice A m c,.bool false]) (hr:RdS w F A m c ((if nul = true then uv 0 else uv (X.length + 1) ++ X) ++ rest)) (hFd:∀ b o,F b o → ¬ RdM br b o) :
  Calls Tryz.prog 119 #[.pointer (some ⟨br,0,none⟩)] w (RdPost w br (Fp F w) rest fun v w'=>∃ A2,v = .pointer A2 ∧ (∀ ad,A2 = some ad → ∃ b o,ad = ⟨b,o,none⟩ ∧ AtF w' (Fp F w) b o [.string (bs X)]) ∧ A2.isNone = nul):=by
 cases nul
 ·exact qdF X hX rest hst (hr.cast (by simp only [Bool.false_eq_true,if_false,List.append_assoc])) hFd
 exact qdE X rest hst (hr.cast (by simp only [if_true])) hFd
theorem qkb (x:Int) (hx:-1 ≤ x ∧ x ≤ 32767) (rest:Bs) (hl:x ≤ ((rest.length:Nat):Int)) {br:Nat} {A:Option Addr} {m c:Nat} {w:World} {F:Nat → Nat → Prop} (hst:Str w br [.slice A m c,.bool false]) (hr:RdS w F A m c ((be 4 x) ++ rest)) (hFd:∀ b o,F b o → ¬ RdM br b o) :
  Calls Tryz.prog 124 #[.pointer (some ⟨br,0,none⟩)] w (RdPost w br (Fp F w) rest fun v w'=>v = .int .i32 x):=by
 refine enter (n:=21) Tryz.func124 rfl Tryz.ntmps124 kz fun a hE=>?_
 have hW:WOk w (RdM br) w (z4 br A m c) []:=WOk.startStr hst
 have hE1:=(hE.grow ⟨br,0,[.slice A m c,.bool false],true⟩).recast 0 (.v (.pointer (some ⟨br,0,none⟩))) (.p 0 0) rfl rfl (Nat.le_of_ble_eq_true (n:=1) rfl)
 refine qar [(0,.p 0 0)] hW hE1 fun a1 hE2=>?_
 refine qae [0,1,2] kz ?_
 refine qak [0] [1,2] [(0,.p 0 0),(4,.p 0 0)] hW hE2 fun a3 hE4=>?_
 refine qam (qal hE4 (f:=117) (vs:=[.pointer (some ⟨br,0,none⟩)]) (d:=5) kz Tryz.call117 (qle x (rest) (Str.of hW 0 rfl) (hr.move hW.step (fun b_ o_ h_ _=>hFd b_ o_ h_) (hW.immM hFd)) (qc7 0 rfl)) ?_)
 rintro e_ w5 ⟨_,A6,n7,c8,rfl,hs9,af,ab,rfl⟩
 obtain ⟨aa,ag,al⟩:=hW.wrote 0 (z4 br A6 n7 c8) rfl ab hs9
 have ac:=af.move (Step.refl _ Nil) nilM (fun b_ o_ h_ _=>ag.to b_ o_ h_)
 refine ⟨_,rfl,fun am ah=>?_⟩
 have ai:EnvOk 21 (z4 br A6 n7 c8) [(5,.v (.int .i32 (IntKind.i32.wrap x))),(0,.p 0 0),(4,.p 0 0)] _:=ah.places (⟨rfl,rfl,trivial⟩)
 refine qak [2] [] [(0,.p 0 0),(3,.v (.int .i32 (IntKind.i32.wrap x)))] aa ai fun ao aj=>?_
 refine qaf (qab ?_)
 refine wp_seq (qar [(0,.p 0 0),(3,.v (.int .i32 (IntKind.i32.wrap x))),(13,.v (.bool (decide (((n7:Nat):Int) < (IntKind.i64.wrap (IntKind.i32.wrap x))))))] aa aj fun ap ae=>?_)
 refine qau ae (b:=decide (((n7:Nat):Int) < (IntKind.i64.wrap (IntKind.i32.wrap x)))) kz (decide_eq_false (by have h_:=ac.len; simp only [i32w,i64w]; omega)) ?_
 refine wp_skip (qab (qar [(2,.v (.int .i32 (IntKind.i32.wrap x)))] aa ae fun ar ak=>?_))
 refine wp_ret (qaE ak aa.cells (v:=.int .i32 (IntKind.i32.wrap x)) kz ?_)
 refine ⟨_,_,_,_,rfl,Str.of aa 0 rfl,(ac.move (Step.refl _ Nil) nilM qdI),aa.step,congrArg (Value.int .i32) (by simp only [i32w]; omega)⟩
theorem qfk (n:Nat) (hn:n ≤ 32768) (rest:Bs) (hl:n ≤ rest.length + 1) {br:Nat} {A:Option Addr} {m c:Nat} {w:World} {F:Nat → Nat → Prop} (hst:Str w br [.slice A m c,.bool false]) (hr:RdS w F A m c ((uv n) ++ rest)) (hFd:∀ b o,F b o → ¬ RdM br b o) :
  Calls Tryz.prog 123 #[.pointer (some ⟨br,0,none⟩)] w (RdPost w br (Fp F w) rest fun v w'=>v = .int .i32 (((n:Nat):Int) - 1)):=by
 refine enter (n:=23) Tryz.func123 rfl Tryz.ntmps123 kz fun a hE=>?_
 have hW:WOk w (RdM br) w (z4 br A m c) []:=WOk.startStr hst
 have hE1:=(hE.grow ⟨br,0,[.slice A m c,.bool false],true⟩).recast 0 (.v (.pointer (some ⟨br,0,none⟩))) (.p 0 0) rfl rfl (Nat.le_of_ble_eq_true (n:=1) rfl)
 refine qar [(0,.p 0 0)] hW hE1 fun a1 hE2=>?_
 refine qae [0,1,2,3,4] kz ?_
 refine qak [0] [1,2,3,4] [(0,.p 0 0),(4,.p 0 0)] hW hE2 fun a3 hE4=>?_
 refine qam (qal hE4 (f:=148) (vs:=[.pointer (some ⟨br,0,none⟩)]) (d:=5) kz Tryz.call148 (qdD n (by omega) (rest) (Str.of hW 0 rfl) (hr.move hW.step (fun b_ o_ h_ _=>hFd b_ o_ h_) (hW.immM hFd)) (qc7 0 rfl)) ?_)
 rintro e_ w5 ⟨_,A6,n7,c8,rfl,hs9,af,ab,rfl⟩
 obtain ⟨aa,ag,al⟩:=hW.wrote 0 (z4 br A6 n7 c8) rfl ab hs9
 have ac:=af.move (Step.refl _ Nil) nilM (fun b_ o_ h_ _=>ag.to b_ o_ h_)
 refine ⟨_,rfl,fun am ah=>?_⟩
 have ai:EnvOk 23 (z4 br A6 n7 c8) [(5,.v (.int .u32 ((n:Nat):Int))),(0,.p 0 0),(4,.p 0 0)] _:=ah.places (⟨rfl,rfl,trivial⟩)
 refine qak [2,3,4] [] [(0,.p 0 0),(3,.v (.int .i32 (IntKind.i32.wrap ((IntKind.i32.wrap ((n:Nat):Int)) - 1))))] aa ai fun ao aj=>?_
 refine qaf (qab ?_)
 refine wp_seq (qar [(0,.p 0 0),(3,.v (.int .i32 (IntKind.i32.wrap ((IntKind.i32.wrap ((n:Nat):Int)) - 1)))),(15,.v (.bool (decide (((n7:Nat):Int) < (IntKind.i64.wrap (IntKind.i32.wrap ((IntKind.i32.wrap ((n:Nat):Int)) - 1)))))))] aa aj fun ap ae=>?_)
 refine qau ae (b:=decide (((n7:Nat):Int) < (IntKind.i64.wrap (IntKind.i32.wrap ((IntKind.i32.wrap ((n:Nat):Int)) - 1))))) kz (decide_eq_false (by have h_:=ac.len; simp only [i32w,i64w]; omega)) ?_
 refine wp_skip (qab (qar [(2,.v (.int .i32 (IntKind.i32.wrap ((IntKind.i32.wrap ((n:Nat):Int)) - 1))))] aa ae fun ar ak=>?_))
 refine wp_ret (qaE ak aa.cells (v:=.int .i32 (IntKind.i32.wrap ((IntKind.i32.wrap ((n:Nat):Int)) - 1))) kz ?_)
 refine ⟨_,_,_,_,rfl,Str.of aa 0 rfl,(ac.move (Step.refl _ Nil) nilM qdI),aa.step,congrArg (Value.int .i32) (by simp only [i32w]; omega)⟩
theorem rOk  (rest:Bs)  {br:Nat} {A:Option Addr} {m c:Nat} {w:World} {F:Nat → Nat → Prop} (hst:Str w br [.slice A m c,.bool false]) (hr:RdS w F A m c (rest)) (hFd:∀ b o,F b o → ¬ RdM br b o) :
  Calls Tryz.prog 125 #[.pointer (some ⟨br,0,none⟩)] w (RdPost w br (Fp F w) rest fun v w'=>v = .bool true):=by
 refine enter (n:=8) Tryz.func125 rfl Tryz.ntmps125 kz fun a hE=>?_
 have hW:WOk w (RdM br) w (z4 br A m c) []:=WOk.startStr hst
 have hE1:=(hE.grow ⟨br,0,[.slice A m c,.bool false],true⟩).recast 0 (.v (.pointer (some ⟨br,0,none⟩))) (.p 0 0) rfl rfl (Nat.le_of_ble_eq_true (n:=1) rfl)
 refine qar [(0,.p 0 0)] hW hE1 fun a1 hE2=>?_
 refine qar [(2,.v (.bool true))] hW hE2 fun a3 hE4=>?_
 refine wp_ret (qaE hE4 hW.cells (v:=.bool true) kz ?_)
 refine ⟨_,_,_,_,rfl,Str.of hW 0 rfl,((hr.move hW.step (fun b_ o_ h_ _=>hFd b_ o_ h_) (hW.immM hFd)).move (Step.refl _ Nil) nilM qdI),hW.step,rfl⟩
theorem qcM {P:Program} {c:Code} {Mid:Act → World → Prop} {Q:Exit → Act → World → Prop} {a:Act} {w:World} (h1:c.wp P (Exit.then Mid Q) a w) (h2:∀ a' w',Mid a' w' → Q .normal a' w'):c.wp P Q a w :=
 wp_mono h1 fun e a' w' h=>by
  cases e <;> first | exact h2 a' w' h | exact h
theorem qin {k:Nat} (h:k < 32768):IntKind.i32.wrap (((k:Nat):Int) + 1) = ((k + 1:Nat):Int):=by rw [i32w]; omega
theorem qkc {g:Tree → Bs}:∀ {L:List Tree},(∀ t,0 < (g t).length) → L.length ≤ (L.flatMap g).length
 | [],_=>Nat.zero_le _
 | t :: r,h=>by
  have h1:=h t
  have h2:=qkc (L:=r) h
  rw [List.flatMap_cons,List.length_append,List.length_cons]; omega
theorem flat_ge' {g:Tree → Bs} {L:List Tree} (h:∀ t,0 < (g t).length) (rest:Bs):L.length ≤ (L.flatMap g ++ rest).length:=by
 have:=qkc (L:=L) h
 rw [List.length_append]; omega
theorem qdM {a b c d:Bs} (h:a = b) (h':c = d):a ++ c = b ++ d:=by rw [h,h']
theorem if_c {c:Bool} {a b:Bs} (h:c = true → a = b):(if c = true then a else []) = (if c = true then b else []):=by
 cases c
 ·rfl
 rw [h rfl]
theorem qlQ {x y:Bs} (h:0 < x.length):0 < (x ++ y).length:=by rw [List.length_append]; omega
theorem qmq {x y:Bs} (h:0 < y.length):0 < (x ++ y).length:=by rw [List.length_append]; omega
theorem qmr {b:Bool} {x y:Bs} (h:0 < x.length) (h':0 < y.length):0 < (if b = true then x else y).length:=by split <;> assumption
theorem qlf {m:Nat} {x:Int} (h:0 < m):0 < (be m x).length:=by rw [be_length]; exact h
section
variable {Pr:Program} {ops:Array Oper} {Q:Exit → Act → World → Prop} {w0:World} {M F:Nat → Nat → Prop} {n br:Nat} {tb:Tb} {env:Env} {P:qco} {s:Bs} {a:Act} {w:World}
theorem qkd {id d:Nat} {t e:TypeId} {size bytes m cp:Nat} {A0:Option Addr} (env1 env':Env) (i:Nat) (h:RS w0 M F n br tb env P s a w) (K:∀ a',RS w0 M F n br tb env' P s a' w → Q .normal a' w)
  (hr:List.range ops.size = List.range i ++ (i :: (List.range ops.size).drop (i + 1)):=by kernel_rfl) (e1:∀ A m c,qb3 Pr ops n (rdo br A m c :: tb) (List.range i) (qb6 env1) env = some env1:=by intro _ _ _; kernel_rfl)
  (hc:∀ A m_ c,cutE (rdo br A m_ c :: tb) env1 ops n i = some (t,.slice A0 m cp,none,some 0,d):=by intro _ _ _; kernel_rfl) (ht:qcs Pr t = some (e,size,bytes):=by kernel_rfl)
  (e2:∀ A m_ c,qb3 Pr ops n (rdo br A m_ c :: tb) ((List.range ops.size).drop (i + 1)) (qb6 env') ((d,.v (.slice A0 0 cp)) :: env1) = some env':=by intro _ _ _; kernel_rfl):(Code.region id ops false).wp Pr Q a w:=by
 refine qas _ hr (qc8 (List.range i) _ env1 h (fun a1 h1=>?_) e1 rfl)
 obtain ⟨A,m1,c,hW,hrd,hE,hP⟩:=h1.open_
 refine qam (qbH hE (hc A m1 c) ht (j:=0) rfl (Nat.zero_le _) fun a2 hE2=>?_)
 exact qc8 _ [] env' (RS.mk' hW hrd hE2 h1.mv hP) (fun a3 h3=>qaf (K a3 h3)) e2 (List.append_nil _).symm
theorem qms {i d:Nat} {f:FuncId} {vs:List Value} {v0:Value} {N:Act → World → Prop} (h:RS w0 M F n br tb env P s a w) (hc:∀ w,Calls Pr f vs.toArray w (fun e w'=>e = .returned v0 ∧ w' = w))
  (hf:∀ args w,(callFunc f args).run Pr w = .ok (.enter f args) w) (K:∀ a',RS w0 M F n br tb ((d,.v v0) :: env) P s a' w → N a' w)
  (he:∀ A m c,qdu (rdo br A m c :: tb) env ops n i = some (f,vs,d):=by intro _ _ _; kernel_rfl):wpOp Pr ops Q i N a w:=by
 obtain ⟨A,m,c,hW,hr,hE,hP⟩:=h.open_
 refine qal hE (he A m c) hf (hc w) ?_
 rintro e_ _ ⟨rfl,rfl⟩
 exact ⟨_,rfl,fun a1 hE1=>K a1 (RS.mk' hW hr hE1 h.mv hP)⟩
theorem qmt {id d:Nat} {f:FuncId} {v0:Value} (env':Env) (h:RS w0 M F n br tb env P s a w) (hc:qdd Pr f [] s v0)
  (hf:∀ args w,(callFunc f args).run Pr w = .ok (.enter f args) w) (K:∀ a' w',RS w0 M F n br tb env' P s a' w' → Q .normal a' w')
  (he:∀ A m c,qdu (rdo br A m c :: tb) env ops n 0 = some (f,[.pointer (some ⟨br,0,none⟩)],d):=by intro _ _ _; kernel_rfl)
  (e:∀ A m c,qb3 Pr ops n (rdo br A m c :: tb) ((List.range ops.size).drop 1) (qb6 env') ((d,.v v0) :: env) = some env':=by intro _ _ _; kernel_rfl) (hs:Nat.blt 0 ops.size = true:=by kernel_rfl):(Code.region id ops false).wp Pr Q a w :=
 qeu (X:=[]) (rest:=s) env' h hc hf K he e hs
theorem qkU {i d k l g size bytes:Nat} {t e:TypeId} {z:Value} {N:Act → World → Prop} (h:RS w0 M F n br (tb ++ [qbo g size z l k]) env P s a w) (hk:k < l) (hz:z.cells.size = size) (hl:qdK (tb.length + 1) env = true)
  (K:∀ a',RS w0 M F n br (tb ++ [qbo g size z l (k + 1),⟨g,k * size,z.cells.toList,true⟩]) ((d,.p (tb.length + 2) 0) :: env) P s a' w → N a' w)
  (he:∀ A m c,idxE (rdo br A m c :: (tb ++ [qbo g size z l k])) env ops n i = some (t,some ⟨g,0,none⟩,l,((k:Nat):Int),d):=by intro _ _ _; kernel_rfl) (ht:qcs Pr t = some (e,size,bytes):=by kernel_rfl):wpOp Pr ops Q i N a w:=by
 obtain ⟨A,m,c,hW,hr,hE,hP⟩:=h.open_
 refine qax hE (he A m c) ht rfl rfl hk fun a1 hE1=>K a1 ?_
 have h1:RS w0 M F n br (tb ++ [qbo g size z l k]) ((d,.v (.pointer (some ⟨g,0 + k * size,none⟩))) :: env) P s a1 w:=RS.mk' hW hr hE1 h.mv hP
 have h2:=h1.next hk hz (by simpa only [qdK] using hl)
 have h3:=h2.recast d (.v (.pointer (some ⟨g,0 + k * size,none⟩))) (.p (tb.length + 2) 0) (by simp [lk]) ?_ (by show tb.length + 2 < _; simp)
 ·refine ⟨h3.mv,h3.ex,?_,h3.fact⟩
  refine ⟨h3.env_.defers,h3.env_.size,fun q x hx=>h3.env_.at_ q x ?_⟩
  simp only [lk] at hx ⊢
  split at hx
  ·exact hx
  exact hx
 have:obAt (rdo br none 0 0 :: (tb ++ [qbo g size z l (k + 1),⟨g,k * size,z.cells.toList,true⟩])) (tb.length + 2) = ⟨g,k * size,z.cells.toList,true⟩:=by
  simp only [obAt,List.getD_eq_getElem?_getD]
  rw [show tb.length + 2 = (tb.length + 1) + 1 from rfl,List.getElem?_cons_succ,List.getElem?_append_right (by omega)]
  simp
 simp only [SV.val,this]
 simp
theorem qke {id d k l g size bytes:Nat} {t e:TypeId} {z:Value} (env1 env':Env) (i:Nat) (h:RS w0 M F n br (tb ++ [qbo g size z l k]) env P s a w) (hk:k < l) (hz:z.cells.size = size) (hl:qdK (tb.length + 1) env1 = true)
  (K:∀ a',RS w0 M F n br (tb ++ [qbo g size z l (k + 1),⟨g,k * size,z.cells.toList,true⟩]) env' P s a' w → Q .normal a' w)
  (hr:List.range ops.size = List.range i ++ (i :: (List.range ops.size).drop (i + 1)):=by kernel_rfl) (e1:∀ A m c,qb3 Pr ops n (rdo br A m c :: (tb ++ [qbo g size z l k])) (List.range i) (qb6 env1) env = some env1:=by intro _ _ _; kernel_rfl)
  (he:∀ A m c,idxE (rdo br A m c :: (tb ++ [qbo g size z l k])) env1 ops n i = some (t,some ⟨g,0,none⟩,l,((k:Nat):Int),d):=by intro _ _ _; kernel_rfl) (ht:qcs Pr t = some (e,size,bytes):=by kernel_rfl)
  (e2:∀ A m c,qb3 Pr ops n (rdo br A m c :: (tb ++ [qbo g size z l (k + 1),⟨g,k * size,z.cells.toList,true⟩])) ((List.range ops.size).drop (i + 1)) (qb6 env') ((d,.p (tb.length + 2) 0) :: env1) = some env':=by intro _ _ _; kernel_rfl):(Code.region id ops false).wp Pr Q a w:=by
 refine qas _ hr (qc8 (List.range i) _ env1 h (fun a1 h1=>qam (qkU h1 hk hz hl (fun a2 h2=>?_) he ht)) e1 rfl)
 exact qc8 _ [] env' h2 (fun a3 h3=>qaf (K a3 h3)) e2 (List.append_nil _).symm
end
theorem qmK (X:Bs) (hX:X.length = 16) (rest:Bs) {br:Nat} {A:Option Addr} {m c:Nat} {w:World} {F:Nat → Nat → Prop} (hst:Str w br [.slice A m c,.bool false]) (hr:RdS w F A m c (X ++ rest)) (hFd:∀ b o,F b o → ¬ RdM br b o) :
  Calls Tryz.prog 128 #[.pointer (some ⟨br,0,none⟩)] w (RdPost w br (Fp F w) rest fun v w'=>v = .agg ((List.range 16).map fun i=>qad (X.getD i 0)).toArray):=by
 have hbr:br < w.heap.size:=World.lt_of_cell (hst.at_ 0 _ rfl)
 refine enter (n:=9) (vs:=[.pointer (some ⟨br,0,none⟩)]) Tryz.func128 rfl Tryz.ntmps128 kz fun a hE=>?_
 refine qae [0] kz ?_
 refine qam (qfI hE (d:=2) (cs:=(List.range 16).map fun _=>qad 0) kz fun t0 a1 hE1=>qaf (qab ?_))
 have hs1:=Step.alloc w (.cells ((List.range 16).map fun _=>qad 0).toArray t0)
 have hz1:=qdm w (.cells ((List.range 16).map fun _=>qad 0).toArray t0)
 have hh1:=qcX w (.cells ((List.range 16).map fun _=>qad 0).toArray t0)
 generalize w.alloc (.cells ((List.range 16).map fun _=>qad 0).toArray t0) = w1 at hs1 hz1 hh1
 refine qae [0] kz ?_
 refine qam (qfI hE1 (d:=3) (cs:=(List.range 16).map fun _=>qad 0) kz fun t1 a2 hE2=>qaf (qab ?_))
 have hs2:=Step.alloc w1 (.cells ((List.range 16).map fun _=>qad 0).toArray t1)
 have hz2:=qdm w1 (.cells ((List.range 16).map fun _=>qad 0).toArray t1)
 have hh2:=qcX w1 (.cells ((List.range 16).map fun _=>qad 0).toArray t1)
 generalize hp2:w.heap.size = p2 at hE1 hE2 hh1 hz1
 generalize hp3:w1.heap.size = p3 at hE2 hh2 hz2
 generalize w1.alloc (.cells ((List.range 16).map fun _=>qad 0).toArray t1) = w2 at hs2 hz2 hh2
 refine qev (fun _=>True) 4 kz ?_
 have hsd:=Step.drew w2
 have hhd:w2.drew.heap[p3]? = some (.cells ((List.range 16).map fun _=>qad 0).toArray t1):=hh2
 have hS:Step w w2.drew Nil:=(hs1.trans hs2 fun _ _ _ h=>h).trans hsd fun _ _ _ h=>h
 have hh1d:w2.drew.heap[p2]? = some (.cells ((List.range 16).map fun _=>qad 0).toArray t0):=(hs2.trans hsd fun _ _ _ h=>h).heap (fun _ h=>h) hh1
 generalize w2.drew = wd at hsd hhd hS hh1d
 have hE3:EnvOk 9 [⟨p3,0,[],true⟩] [(0,.v (.pointer (some ⟨br,0,none⟩))),(2,.v (.pointer (some ⟨p2,0,none⟩))),(3,.p 0 0)] _:=((hE2.grow ⟨p3,0,[],true⟩).recast 3 (.v (.pointer (some ⟨p3,0,none⟩))) (.p 0 0) rfl rfl (Nat.le_of_ble_eq_true (n:=1) rfl)).pk
 refine qa0 [0,1] [(0,.v (.pointer (some ⟨br,0,none⟩))),(2,.v (.pointer (some ⟨p2,0,none⟩))),(3,.p 0 0),(4,.v (.slice (some ⟨p3,0,none⟩) 16 16)),(5,.v (.pointer (some ⟨br,0,none⟩)))] 2 (qac qah) (fun w' _ i o hi j v hj=>by
  cases i with
  | zero =>
   simp only [List.getElem?_cons_zero,Option.some.injEq] at hi
   subst hi
   simp at hj
  | succ i=>simp at hi) trivial hE3 fun a3 hE4=>?_
 have hst':=hst.move hS (fun _ h=>h)
 have hr':=hr.move hS nilM (fun b o h hb=>(⟨h,hb⟩:F b o ∧ b < w.heap.size))
 have hFd':∀ b o,(F b o ∧ b < w.heap.size) → ¬ RdM br b o:=fun b o h=>hFd b o h.1
 have hSp:=qiR X rest hst' hr' hFd'
 rw [show ((X.length:Nat):Int) = 16 by omega] at hSp
 refine qaO (i:=2) kz (qal hE4 (f:=150) (vs:=[.pointer (some ⟨br,0,none⟩),.int .i64 16]) (d:=6) kz Tryz.call150 hSp ?_)
 rintro e_ w3 ⟨_,A1,n1,c1,rfl,hs,hr1,hst3,Ax,rfl,hox⟩
 refine ⟨_,rfl,fun a4 hE5=>⟨fun _=>trivial,?_⟩⟩
 have hh3:=hst3.heap (fun o e=>by have:=e.1; have:=hS.size; omega) hhd
 have hh13:=hst3.heap (fun o e=>by have:=e.1; omega) hh1d
 refine qaO (i:=3) kz (qhI hE5 (t:=24) (u:=24) (e:=5) (bytes:=1) (b:=p3) (s:=X) (d:=7) kz kz hh3 rfl hox fun a5 w4 hst4 hat hfz hE6=>⟨fun _=>trivial,qaZ kz (qab ?_) _⟩)
 obtain ⟨v,hE6⟩:=hE6
 have hh14:=hst4.heap (fun o e=>by have:=hz1; omega) hh13
 have hst04:Step w w4 (RdM br):=((hS.mono fun _ _ _ f=>f.elim).trans hst3 fun _ _ _ e=>e).trans hst4 fun b o hb e=>by have:=hs1.size; omega
 have h2l:p2 < w4.heap.size:=(Array.getElem?_eq_some_iff.1 hh14).1
 have hW4:WOk w (RdM br) w4 ([] ++ [⟨p2,0,(List.range 16).map fun _=>qad 0,true⟩] ++ [⟨p3,0,(List.range 16).map fun i=>qad (X.getD i 0),true⟩]) []:=by
  have hb:WOk w (RdM br) w4 [] []:=⟨hst04,fun i o hi=>by simp at hi,fun i o hi=>by simp at hi,fun i o hi=>by simp at hi,fun i j o o' _ hi=>by simp at hi,fun i r hi=>by simp at hi,fun i r hi=>by simp at hi,fun i r hi=>by simp at hi,fun i j r r' _ hi=>by simp at hi⟩
  have h4:=hb.add ⟨p2,0,(List.range 16).map fun _=>qad 0,true⟩ h2l (fun j v hj=>by
   dsimp only at hj ⊢
   rw [Nat.zero_add]
   simp only [World.cell?,hh14]
   simpa using hj) (fun _ j hj=>⟨.inl (by dsimp only; omega),by simp [World.frozen?,hh14]⟩) (fun i o hi=>by simp at hi) (fun i r hi=>by simp at hi)
  refine h4.add ⟨p3,0,(List.range 16).map fun i=>qad (X.getD i 0),true⟩ (World.lt_of_cell (hat 0 _ rfl)) (fun j v hj=>hat j v hj) (fun _ j hj=>⟨.inl (by dsimp only; have:=hs1.size; omega),hfz _⟩) (fun i o hi _=>.inl ?_) (fun i r hi=>by simp at hi)
  have hm:=List.mem_of_getElem? hi
  have:o = ⟨p2,0,(List.range 16).map fun _=>qad 0,true⟩:=by simpa using hm
  rw [this]
  dsimp only; omega
 have hE7:EnvOk 9 [⟨p2,0,(List.range 16).map fun _=>qad 0,true⟩,⟨p3,0,(List.range 16).map fun i=>qad (X.getD i 0),true⟩] [(2,.p 0 0),(3,.p 1 0)] _ :=
  (((((hE6.pick (ks:=[2,3]) (env':=[(2,.v (.pointer (some ⟨p2,0,none⟩))),(3,.p 0 0)]) kz).recast 3 (.p 0 0) (.v (.pointer (some ⟨p3,0,none⟩))) rfl rfl trivial).pick (ks:=[2,3]) (env':=[(2,.v (.pointer (some ⟨p2,0,none⟩))),(3,.v (.pointer (some ⟨p3,0,none⟩)))]) kz).cutTb 0 kz).retable [⟨p2,0,(List.range 16).map fun _=>qad 0,true⟩,⟨p3,0,(List.range 16).map fun i=>qad (X.getD i 0),true⟩] |>.recast 2 (.v (.pointer (some ⟨p2,0,none⟩))) (.p 0 0) rfl rfl (Nat.le_of_ble_eq_true (n:=1) rfl) |>.recast 3 (.v (.pointer (some ⟨p3,0,none⟩))) (.p 1 0) rfl rfl (Nat.le_of_ble_eq_true (n:=2) rfl)).pk
 refine qae [0,1] kz ?_
 refine qak [0] [1] [(2,.p 0 0),(8,.v (.agg ((List.range 16).map fun i=>qad (X.getD i 0)).toArray))] hW4 hE7 fun a6 hE8=>?_
 refine qam (qaM hW4 hE8 (oi:=0) (cs:=(List.range 16).map fun i=>qad (X.getD i 0)) kz fun w5 hF5 hW5 hE9=>qaf (qab (wp_ret ?_)))
 have hstz:Step w4 w5 (fun b o=>b = p2 ∨ b = p3):=hF5.step.mono fun b o _ ha=>by
  rcases ha with ⟨i,ob,hi,_,rfl,_⟩ | ⟨i,r,hi,_⟩
  ·have hm:=List.mem_of_getElem? hi
   simp only [List.nil_append,List.cons_append,List.mem_cons,List.not_mem_nil,or_false] at hm
   rcases hm with rfl | rfl
   ·exact .inl rfl
   exact .inr rfl
  simp at hi
 have hsz:=hs1.size
 refine qaE hE9 hW5.cells (v:=.agg ((List.range 16).map fun i=>qad (X.getD i 0)).toArray) kz ⟨_,A1,n1,c1,rfl,(hs.move hst4 fun o e=>?_).move hstz (fun o e=>?_),(hr1.move hst4 (fun b o hg _ e=>?_) (fun b o hg _=>hg)).move hstz (fun b o hg _ e=>?_) (fun b o hg _=>.inl hg.1),hW5.step,rfl⟩
 ·omega
 ·rcases e with e | e <;> omega
 ·have:=hg.2; omega
 have:=hg.2; rcases e with e | e <;> omega
theorem qmu (x:Int) (rest:Bs):qdd Tryz.prog 135 (be 2 (IntKind.i16.wrap x)) rest (.int .i16 (IntKind.i16.wrap x)):=fun hs hr hF=>(qim _ rest hs hr hF).mono fun e w' hp=>hp.fp fun v w' h=>by rw [h,ww16]
theorem qkf (x:Int) (rest:Bs):qdd Tryz.prog 117 (be 4 (IntKind.i32.wrap x)) rest (.int .i32 (IntKind.i32.wrap x)):=fun hs hr hF=>(qle _ rest hs hr hF).mono fun e w' hp=>hp.fp fun v w' h=>by rw [h,ww32]
theorem qlg (x:Int) (rest:Bs):qdd Tryz.prog 122 (be 8 x) rest (.int .i64 (IntKind.i64.wrap x)):=fun hs hr hF=>(qmp x rest hs hr hF).mono fun e w' hp=>hp.q fun v w' h=>h
theorem qhR (S:Bs) (hS:S.length ≤ 32767) (rest:Bs):qdd Tryz.prog 116 (be 2 S.length ++ S) rest (.string (bs S)):=fun hs hr hF=>(qlP S hS rest hs (hr.cast (by simp only [List.append_assoc])) hF).mono fun e w' hp=>hp.q fun v w' h=>h
theorem qcN (S:Bs) (hS:S.length ≤ 32767) (rest:Bs):qdd Tryz.prog 115 (uv (S.length + 1) ++ S) rest (.string (bs S)):=fun hs hr hF=>(qfT S (by omega) rest hs (hr.cast (by simp only [List.append_assoc])) hF).mono fun e w' hp=>hp.q fun v w' h=>h
theorem qfO (nul:Bool) (S:Bs) (hS:S.length ≤ 32767) (rest:Bs):qj7 Tryz.prog 121 (if nul = true then be 2 (-1) else be 2 S.length ++ S) rest (fun A:Option Addr=>.pointer A) (fun A=>andF (qkQ A S) (isF (A.isNone = nul))):=fun hs hr hF=>(qfN nul S (by omega) rest hs hr hF).mono fun e w' hp=>hp.q fun v w' h=>by
 obtain ⟨A,h1,h2,h3⟩:=h
 exact ⟨A,h1,h2,h3⟩
theorem qcH (nul:Bool) (S:Bs) (hS:S.length ≤ 32767) (rest:Bs):qj7 Tryz.prog 119 (if nul = true then uv 0 else uv (S.length + 1) ++ S) rest (fun A:Option Addr=>.pointer A) (fun A=>andF (qkQ A S) (isF (A.isNone = nul))):=fun hs hr hF=>(qdL nul S (by omega) rest hs hr hF).mono fun e w' hp=>hp.q fun v w' h=>by
 obtain ⟨A,h1,h2,h3⟩:=h
 exact ⟨A,h1,h2,h3⟩
theorem qhg (n:Nat) (hn:n ≤ 32767) (rest:Bs) (hl:n ≤ rest.length):qdd Tryz.prog 124 (be 4 n) rest (.int .i32 ((n:Nat):Int)):=fun hs hr hF=>(qkb ((n:Nat):Int) (by omega) rest (by omega) hs hr hF).mono fun e w' hp=>hp.q fun v w' h=>h
theorem qdJ (n:Nat) (hn:n ≤ 32767) (rest:Bs) (hl:n ≤ rest.length):qdd Tryz.prog 123 (uv (n + 1)) rest (.int .i32 ((n:Nat):Int)):=fun hs hr hF=>(qfk (n + 1) (by omega) rest (by omega) hs hr hF).mono fun e w' hp=>hp.q fun v w' h=>h.trans (congrArg (Value.int .i32) (by omega))
theorem qmL (S:Bs) (rest:Bs):qdd Tryz.prog 128 (qap S) rest (.agg #[qad ((qap S).getD 0 0),qad ((qap S).getD 1 0),qad ((qap S).getD 2 0),qad ((qap S).getD 3 0),qad ((qap S).getD 4 0),qad ((qap S).getD 5 0),qad ((qap S).getD 6 0),qad ((qap S).getD 7 0),qad ((qap S).getD 8 0),qad ((qap S).getD 9 0),qad ((qap S).getD 10 0),qad ((qap S).getD 11 0),qad ((qap S).getD 12 0),qad ((qap S).getD 13 0),qad ((qap S).getD 14 0),qad ((qap S).getD 15 0)]):=fun hs hr hF=>(qmK (qap S) (qfg S) rest hs hr hF).mono fun e w' hp=>hp.q fun v w' h=>h
theorem pOk (rest:Bs):qdd Tryz.prog 125 [] rest (.bool true):=fun hs hr hF=>(rOk rest hs hr hF).mono fun e w' hp=>hp.q fun v w' h=>h
theorem qlR (u:List (Int × Bs)) (hU:canU u) (hk:∀ x ∈ u,0 ≤ x.1 ∧ x.1 < 4294967296) (rest:Bs):qj7 Tryz.prog 130 (uv u.length ++ qbx u) rest (fun m:Option Nat=>.agg #[.map m]) (fun m=>qmo m u):=fun hs hr hF=>(qmJ u rest hU.1 hk hU.2.1 hU.2.2 hs (hr.cast (by simp only [List.append_assoc])) hF).mono fun e w' hp=>hp.q fun v w' h=>h
theorem qmv (k:Int) (A:Option Addr) (m c:Nat) (w:World):Calls Tryz.prog 77 #[.agg #[.int .u32 k,.slice A m c]] w (qjH w):=by
 refine enter (n:=7) Tryz.func77 rfl Tryz.ntmps77 kz fun a hE=>?_
 have hW:=WOk.start w Nil
 refine qae [0,1] kz ?_
 refine qam (qbk hW hE (d:=1) (cs:=[.int .u32 k,.slice A m c]) kz fun b1 a2 w3 hb4 hz5 hF6 hW7 hE8=>?_)
 refine qak [1] [] [(1,.p 0 0)] hW7 hE8 fun a9 ac=>?_
 refine qaf (qab ?_)
 refine wp_seq (qar [(6,.v (.bool (decide (((m:Nat):Int) > 2147483647))))] hW7 ac fun ai aa=>?_)
 refine qay aa (b:=decide (((m:Nat):Int) > 2147483647)) kz (fun ab=>?_) (fun ab=>?_)
 ·
  have ag:=of_decide_eq_true ab
  refine qar [(2,.v (.bool false))] hW7 aa fun aj ae=>?_
  refine wp_ret (qaD (qaE ae hW7.cells (v:=.bool false) kz ?_))
  exact ⟨_,rfl,hW7.step⟩
 have ah:=of_decide_eq_false ab
 refine wp_skip (qab (qar [(2,.v (.bool true))] hW7 aa fun ak af=>?_))
 refine wp_ret (qaE af hW7.cells (v:=.bool true) kz ?_)
 exact ⟨_,rfl,hW7.step⟩
theorem qmw (A:Option Addr) (c:Nat) (u:List (Int × Bs)) (w:World) (F:Nat → Nat → Prop) (hu:TagsR w F A c u):Calls Tryz.prog 38 #[.slice A u.length c] w (qjH w):=by
 obtain ⟨xu,h1,h2⟩:=hu.ex
 have hsm:=h1.small
 refine enter (n:=18) Tryz.func38 rfl Tryz.ntmps38 kz fun a hE=>?_
 have hW:=WOk.start w Nil
 refine qar [(0,.v (.slice A u.length c))] hW hE fun a1 hE2=>?_
 refine wp_seq (qar [(0,.v (.slice A u.length c)),(7,.v (.bool (decide (((u.length:Nat):Int) > 2147483647))))] hW hE2 fun a3 hE4=>?_)
 refine qay hE4 (b:=decide (((u.length:Nat):Int) > 2147483647)) kz (fun hc5=>?_) (fun hc5=>?_)
 ·
  have hf6:=of_decide_eq_true hc5
  refine qar [(2,.v (.bool false))] hW hE4 fun a7 hE8=>?_
  refine wp_ret (qaD (qaE hE8 hW.cells (v:=.bool false) kz ?_))
  exact ⟨_,rfl,hW.step⟩
 have hf9:=of_decide_eq_false hc5
 refine wp_skip (qab (wp_seq (qar [(8,.v (.slice A u.length c)),(9,.v (.int .i64 ((u.length:Nat):Int))),(10,.v (.int .i64 0))] hW hE4 fun ba ar=>?_)))
 refine wp_block (wp_loop_ghost (fun n_ a_ w_=>∃ (k:Nat),n_ = u.length - k ∧ k ≤ u.length ∧ LInv hW 18 [] [] [(8,.v (.slice A u.length c)),(9,.v (.int .i64 ((u.length:Nat):Int))),(10,.v (.int .i64 ((k:Nat):Int)))] a_ w_) (u.length) ⟨0,by omega,by omega,ar.pk,hW,Fr.refl _ _ _⟩ ?_)
 rintro bd bf bg ⟨k,aQ,aR,au,aa,av⟩
 refine qar [(8,.v (.slice A u.length c)),(9,.v (.int .i64 ((u.length:Nat):Int))),(10,.v (.int .i64 ((k:Nat):Int))),(11,.v (.bool (decide (((k:Nat):Int) < ((u.length:Nat):Int)))))] aa au fun bh ae=>?_
 refine wp_seq (qay ae (b:=decide (((k:Nat):Int) < ((u.length:Nat):Int))) kz (fun af=>?_) (fun af=>?_))
 ·
  have aS:=of_decide_eq_true af
  refine wp_skip (qab (wp_seq (wp_block (qae [0,1,2,3] kz ?_))))
  obtain ⟨aT,aU,aw,aV,ac⟩:=Slots.get h1 (i:=k) (by omega)
  obtain ⟨⟨ai,aj⟩,ax⟩:∃ x,u[k]? = some x:=⟨_,List.getElem?_eq_getElem (by omega)⟩
  obtain ⟨⟨ak,al,am,aW⟩,bi,bj⟩:=h2 k ai aj ax
  rw [am] at ac
  refine qam (qax ae (t:=26) (A:=A) (m:=u.length) (q:=((k:Nat):Int)) (d:=12) kz (e:=73) (size:=2) (bytes:=32) kz aw rfl (by omega) fun bk ay=>?_)
  refine qam (qaH ay (t:=73) (b:=aT) (o:=aU + k * 2) (d:=13) kz (cs:=[.int .u32 ai,.slice ak aj.length al]) (v:=.agg #[.int .u32 ai,.slice ak aj.length al]) kz (AtF.move ac aa.step nilM qbg).at_ fun bn az=>?_)
  refine qam (qbc aa az (d:=4) (cs:=[.int .u32 0,.slice none 0 0]) kz fun bo bp bq aX aY aA aB aC=>?_)
  refine qam (qaM aB aC (oi:=0) (cs:=[.int .u32 ai,.slice ak aj.length al]) kz fun bt aD ag aE=>?_)
  refine qaf (qab ?_)
  refine qae [0,1,2] kz ?_
  refine qak [0] [1,2] [(8,.v (.slice A u.length c)),(9,.v (.int .i64 ((u.length:Nat):Int))),(10,.v (.int .i64 ((k:Nat):Int))),(14,.v (.agg #[.int .u32 ai,.slice ak aj.length al]))] ag aE fun bu aF=>?_
  refine qam (qal aF (f:=77) (vs:=[.agg #[.int .u32 ai,.slice ak aj.length al]]) (d:=15) kz Tryz.call77 (qmv _ _ _ _ _) ?_)
  rintro e_ bw ⟨aP,rfl,ao⟩
  refine ⟨_,rfl,fun bx aG=>?_⟩
  have ab:=ag.next_nil ao
  have aH:=ag.frN ao
  refine qak [2] [] [(8,.v (.slice A u.length c)),(9,.v (.int .i64 ((u.length:Nat):Int))),(10,.v (.int .i64 ((k:Nat):Int))),(16,.v (.bool (!aP)))] ab aG fun bz ah=>?_
  refine qaf (qab ?_)
  refine qay ah (b:=!aP) kz (fun aI=>?_) (fun aI=>?_)
  ·
   refine qar [(2,.v (.bool false))] ab ah fun bA aJ=>?_
   refine wp_ret (qaY (qaD (qaD (qaY (qaD (qaE aJ ab.cells (v:=.bool false) kz ?_))))))
   exact ⟨_,rfl,ab.step⟩
  refine wp_skip (qaF (qab (qas [0,1] kz ?_)))
  refine qak [0,1] [] [(8,.v (.slice A u.length c)),(9,.v (.int .i64 ((u.length:Nat):Int))),(10,.v (.int .i64 (IntKind.i64.wrap (((k:Nat):Int) + 1))))] ab ah fun bB aK=>?_
  refine qaf (qab ?_)
  obtain ⟨ap,aL,aM⟩:=ab.cutB aK 0 [] [(8,.v (.slice A u.length c)),(9,.v (.int .i64 ((u.length:Nat):Int))),(10,.v (.int .i64 (IntKind.i64.wrap (((k:Nat):Int) + 1))))]
  have aN:IntKind.i64.wrap (((k:Nat):Int) + 1) = ((k + 1:Nat):Int):=qbh (by omega)
  rw [aN] at ap
  exact ⟨u.length - (k + 1),by omega,k + 1,rfl,by omega,ap.pk,aL,((((av.trans aA).trans aD).trans aH).trans aM)⟩
 have aZ:=of_decide_eq_false af
 refine wp_exit (qaz (qaz (qaR (qab (qar [(2,.v (.bool true))] aa ae fun bC aO=>?_)))))
 refine wp_ret (qaE aO aa.cells (v:=.bool true) kz ?_)
 exact ⟨_,rfl,aa.step⟩
theorem qmx (ct:List Value) (t:Tree) (w:World) (F:Nat → Nat → Prop) (ht:TreeR w F ct t):Calls Tryz.prog 11 #[.agg ct.toArray] w (qjH w):=by
 obtain ⟨n1,s2,b3,l4,u5,A6,c7,A8,c9,aj,ak,aB,rfl,rfl,aC,aD,aN,aE⟩:=ht.open_
 have ay:=aC.small
 have az:=aD.small
 refine enter (n:=15) Tryz.func11 rfl Tryz.ntmps11 kz fun a hE=>?_
 have hW:=WOk.start w Nil
 refine qae [0,1] kz ?_
 refine qam (qbk hW hE (d:=1) (cs:=(z9 n1 A6 s2.length c7 b3 A8 l4.length c9 aj u5.length ak)) kz fun aO aP aQ aF aG aH aa al=>?_)
 refine qak [1] [] [(1,.p 0 0)] aa al fun aR am=>?_
 refine qaf (qab ?_)
 refine wp_seq (qar [(1,.p 0 0),(6,.v (.bool (decide (((s2.length:Nat):Int) > 2147483647))))] aa am fun aS ac=>?_)
 refine qay ac (b:=decide (((s2.length:Nat):Int) > 2147483647)) kz (fun ae=>?_) (fun ae=>?_)
 ·
  have aI:=of_decide_eq_true ae
  refine qar [(2,.v (.bool false))] aa ac fun aT ao=>?_
  refine wp_ret (qaD (qaE ao aa.cells (v:=.bool false) kz ?_))
  exact ⟨_,rfl,aa.step⟩
 have aJ:=of_decide_eq_false ae
 refine wp_skip (qab (wp_seq (qar [(1,.p 0 0),(10,.v (.bool (decide (((l4.length:Nat):Int) > 2147483647))))] aa ac fun aU af=>?_)))
 refine qay af (b:=decide (((l4.length:Nat):Int) > 2147483647)) kz (fun ag=>?_) (fun ag=>?_)
 ·
  have aK:=of_decide_eq_true ag
  refine qar [(2,.v (.bool false))] aa af fun aV ap=>?_
  refine wp_ret (qaD (qaE ap aa.cells (v:=.bool false) kz ?_))
  exact ⟨_,rfl,aa.step⟩
 have aL:=of_decide_eq_false ag
 refine wp_skip (qab (wp_seq (qae [0,1,2,3] kz ?_)))
 refine qak [0,1] [2,3] [(12,.v (.slice aj u5.length ak))] aa af fun aW ar=>?_
 refine qam (qal ar (f:=38) (vs:=[.slice aj u5.length ak]) (d:=13) kz Tryz.call38 (qmw _ _ u5 _ _ (aE.move aa.step nilM aa.imm)) ?_)
 rintro e_ aX ⟨aA,rfl,ai⟩
 refine ⟨_,rfl,fun aY au=>?_⟩
 have ab:=aa.next_nil ai
 have aM:=aa.frN ai
 refine qak [3] [] [(14,.v (.bool (!aA)))] ab au fun aZ ah=>?_
 refine qaf (qab ?_)
 refine qay ah (b:=!aA) kz (fun av=>?_) (fun av=>?_)
 ·
  refine qar [(2,.v (.bool false))] ab ah fun ba aw=>?_
  refine wp_ret (qaD (qaE aw ab.cells (v:=.bool false) kz ?_))
  exact ⟨_,rfl,ab.step⟩
 refine wp_skip (qab (qar [(2,.v (.bool true))] ab ah fun bd ax=>?_))
 refine wp_ret (qaE ax ab.cells (v:=.bool true) kz ?_)
 exact ⟨_,rfl,ab.step⟩
theorem qkV (x m:Int) (hx:0 ≤ x) (hx':x < 256) (hm:0 ≤ m) (hm':m < 32768) (w:World):Calls Tryz.prog 14 #[.int .u8 x,.int .i64 m] w (qcF w (.int .i64 (Int.tmod x (m + 1)))):=by
 refine enter (n:=10) Tryz.func14 rfl Tryz.ntmps14 kz fun a hE=>?_
 have hW:=WOk.start w Nil
 refine qar [(0,.v (.int .u8 x)),(1,.v (.int .i64 m))] hW hE fun a1 hE2=>?_
 refine qae [0,1,2,3,4,5] kz ?_
 refine qak [0,1,2,3] [4,5] [(6,.v (.int .i64 (IntKind.i64.wrap x))),(8,.v (.int .i64 (IntKind.i64.wrap (m + 1))))] hW hE2 fun a3 hE4=>?_
 refine qam (qkt hE4 (k:=.i64) (p:=(IntKind.i64.wrap x)) (q:=(IntKind.i64.wrap (m + 1))) (d:=9) kz (by simp only [IntKind.wrap_i64]; omega) fun a5 hE6=>?_)
 refine qak [5] [] [(4,.v (.int .i64 (Int.tmod (IntKind.i64.wrap x) (IntKind.i64.wrap (m + 1)))))] hW hE6 fun a7 hE8=>?_
 refine qaf (qab ?_)
 refine wp_ret (qaE hE8 hW.cells (v:=.int .i64 (Int.tmod (IntKind.i64.wrap x) (IntKind.i64.wrap (m + 1)))) kz ?_)
 exact ⟨by rw [wrap_i64 (by omega) (by omega),wrap_i64 (by omega) (by omega)],hW.step⟩
section
variable {P:Program} {ops:Array Oper} {Q:Exit → Act → World → Prop} {n:Nat} {tb:Tb} {env:Env} {a:Act} {w:World}
def invE (tb:Tb) (env:Env) (ops:Array Oper) (n i:Nat):Option (TypeId × Value × String × List Value × Nat) :=
 match opAt env ops n i with
 | some (.call c,d)=>match c.callee with
  | .invoke x name=>match opd env x,qhj tb env c.args.toList with
   | some (.v (.iface t v)),some vs=>some (t,v,name,vs,d)
   | _,_=>none
  | _=>none
 | _=>none
theorem qc9 {i d:Nat} {f:FuncId} {t:TypeId} {v v':Value} {name:String} {vs:List Value} {N:Act → World → Prop} {R:Ending → World → Prop} (hE:EnvOk n tb env a) (h:invE tb env ops n i = some (t,v,name,vs,d))
  (hm:∀ w,(method (P.types.size + Made.depth) t v name).run P w = .ok (f,v') w)
  (hf:∀ args w,(callFunc f args).run P w = .ok (.enter f args) w) (hc:Calls P f (v' :: vs).toArray w R)
  (k:∀ e w',R e w' → ∃ v,e = .returned v ∧ ∀ a',EnvOk n tb ((d,.v v) :: env) a' → N a' w'):wpOp P ops Q i N a w:=by
 unfold invE at h
 split at h
 ·rename_i c d' ho
  split at h
  ·rename_i x nm hcal
   split at h
   ·rename_i t0 v0 vs' hx hargs
    simp only [Option.some.injEq,Prod.mk.injEq] at h
    obtain ⟨rfl,rfl,rfl,rfl,rfl⟩:=h
    obtain ⟨o,h1,h2,h3,h4,h5⟩:=qbl hE ho
    have hx':=(qaU hE hx).1
    have ha':c.args.map a.eval = vs'.toArray:=by
     apply Array.ext'
     simpa using qfl hE hargs
    simp only [wpOp,h1]
    have:Region.wanted o (yielded ops a.tmps) = true:=by first | exact h2 | simp [Region.wanted,h2]
    rw [this]
    simp only [if_true]
    refine .inl ?_
    have hr:(execOp a.eval o).run P w = .ok (.enter f (v' :: vs').toArray) w:=by
     have e1:((#[Value.iface t0 v0] ++ vs'.toArray).extract 1 (#[Value.iface t0 v0] ++ vs'.toArray).size) = vs'.toArray:=by
      apply Array.ext'
      simp
     have e2:(#[Value.iface t0 v0] ++ vs'.toArray)[0]? = some (Value.iface t0 v0):=by simp
     have e3:(#[v'] ++ vs'.toArray) = (v' :: vs').toArray:=by
      apply Array.ext'
      simp
     unfold execOp
     rw [h5]
     simp only [resolve,hcal,hx',SV.val,ha',invoke,e1,e2,callMethod,Sem.run_bind,Sem.run_pure,Result.andThen_ok,hm,hf,e3,run_program]
    unfold Oper.wp
    rw [hr,Oper.upon]
    refine hc.mono fun e w' he=>?_
    obtain ⟨v,rfl,hk⟩:=k e w' he
    show N (a.put o.dst v) w'
    rw [h3]
    exact hk _ (hE.put h4 (.v v) trivial)
   cases h
  cases h
 cases h
theorem qck {i d n':Nat} {f:FuncId} {fn:Func} {c:Code} {t:TypeId} {v v':Value} {name:String} {vs:List Value} {N:Act → World → Prop} (hE:EnvOk n tb env a) (h:invE tb env ops n i = some (t,v,name,vs,d))
  (hm:∀ w,(method (P.types.size + Made.depth) t v name).run P w = .ok (f,v') w)
  (hf:∀ args w,(callFunc f args).run P w = .ok (.enter f args) w) (hfn:P.funcs[f]? = some fn) (hb:fn.body = some c) (hn:fn.ntmps = n') (hl:Nat.ble (v' :: vs).length n' = true)
  (K:∀ a2,EnvOk n' tb (qdT 0 (v' :: vs)) a2 → c.wp P (bodyPost P fn (fun e w'=>∃ v,e = .returned v ∧ ∀ a',EnvOk n tb ((d,.v v) :: env) a' → N a' w')) a2 w):wpOp P ops Q i N a w :=
 qc9 hE h hm hf (R:=fun e w'=>∃ v,e = .returned v ∧ ∀ a',EnvOk n tb ((d,.v v) :: env) a' → N a' w')
  (enter hfn hb hn hl fun a2 h2=>K a2 (h2.table fun i hi=>by simp at hi)) fun e w' h=>h
theorem qgF {c:Code} {k:Nat} (h:c.wp P (Exit.then (Code.rounds P c Q k) Q) a w):Code.rounds P c Q (k + 1) a w:=h
end
section
variable {P:Program} {ops:Array Oper} {Q:Exit → Act → World → Prop} {n:Nat} {tb:Tb} {env:Env} {rs:List Rw} {w0:World} {M:Nat → Nat → Prop} {a:Act} {w:World}
theorem qhh {i d k g m0 c m cs:Nat} {t e:TypeId} {size bytes:Nat} {ad:Addr} {xs news:List Value} {N:Act → World → Prop} (hW:WOk w0 M w tb rs) (hE:EnvOk n tb env a)
  (h:appE tb env ops n i = some (t,t,.slice (some ⟨g,0,none⟩) 0 c,.slice (some ad) m cs,d)) (ht:qcs P t = some (e,size,bytes)) (hk:rs[k]? = some ⟨some ⟨g,0,none⟩,c,e,size,m0,xs⟩)
  (hs:Src w (some ad) m size news) (hm:m ≤ m0)
  (K:∀ a' w',Fr w tb rs w' tb (rs.set k ⟨some ⟨g,0,none⟩,c,e,size,m0,qbr xs 0 news⟩) → WOk w0 M w' tb (rs.set k ⟨some ⟨g,0,none⟩,c,e,size,m0,qbr xs 0 news⟩) →
   EnvOk n tb ((d,.v (.slice (some ⟨g,0,none⟩) m c)) :: env) a' → N a' w'):wpOp P ops Q i N a w:=by
 obtain ⟨ht',inf,z,hi,hz,hzs,rfl,rfl,hsz,hbp⟩:=qcl ht
 obtain ⟨op,ho,hd,hrun⟩:=qgc (P:=P) (w:=w) hE h
 obtain ⟨o,h1,h2,h3,h4,h5⟩:=qbl hE ho
 have hown:w.ownsRow 0 e inf.size (.slice (some ⟨g,0,none⟩) m0 c) m0 xs:=hW.own k _ hk
 have hl:=hs.len
 have hmm:m * inf.size ≤ m0 * inf.size:=Nat.mul_le_mul_right _ hm
 obtain ⟨cur,hg,hsz',hown'⟩:=qht (o:=0) (vs:=news) hown (by rw [hl]; omega)
 have hc:m0 ≤ c:=by
  rcases hown.2 with ⟨hv,_⟩ | ⟨g',cap,cur',hv,_,_,hnc,_⟩
  ·cases hv
  simp only [Value.slice.injEq] at hv
  obtain ⟨_,_,rfl⟩:=hv
  exact hnc
 have hr:=run_append_room (P:=P) w t o.type e inf ht' hi g 0 c cur hg ad m cs news hl (fun j u hu=>hs.cells ad rfl j u hu) (fun u hu=>hs.one u hu) (by omega) (by omega)
 simp only [Nat.zero_mul,Nat.zero_add] at hr hown'
 have hst:Step w (w.setRow g (cur.toList.take 0 ++ news ++ cur.toList.drop news.length).toArray) (Blk (some ⟨g,0,none⟩)):=(Step.setRow w g _).mono fun b _ _ hb=>by rw [hb]; rfl
 simp only [wpOp,h1]
 have:Region.wanted o (yielded ops a.tmps) = true:=by first | exact h2 | simp [Region.wanted,h2]
 rw [this]
 simp only [if_true]
 refine .inl ?_
 unfold Oper.wp
 rw [hrun o _ _ h5 hr,Oper.upon,h3]
 exact K _ _ (Fr.grow tb (r':=⟨some ⟨g,0,none⟩,c,e,inf.size,m0,qbr xs 0 news⟩) hk hst fun g' hg'=>.inl hg') (hW.grow (r':=⟨some ⟨g,0,none⟩,c,e,inf.size,m0,qbr xs 0 news⟩) hk hst hown' fun g' hg'=>.inl hg') (hE.put hd (.v _) trivial)
theorem qhS {i j d1 d k g m0 c:Nat} {t e:TypeId} {size bytes len:Nat} {xs cs:List Value} {rest:List Nat} (hW:WOk w0 M w tb rs) (hE:EnvOk n tb env a)
  (h1:litE P tb env ops n i = some (e,size,len,cs,d1)) (ht:qcs P t = some (e,size,bytes))
  (h2:∀ b,appE tb ((d1,.v (.slice (some ⟨b,0,none⟩) len len)) :: env) ops n j = some (t,t,.slice (some ⟨g,0,none⟩) 0 c,.slice (some ⟨b,0,none⟩) len len,d))
  (hk:rs[k]? = some ⟨some ⟨g,0,none⟩,c,e,size,m0,xs⟩) (hone:qeJ cs = true) (hm:len ≤ m0)
  (K:∀ a' w',Fr w tb rs w' tb (rs.set k ⟨some ⟨g,0,none⟩,c,e,size,m0,qbr xs 0 cs⟩) → WOk w0 M w' tb (rs.set k ⟨some ⟨g,0,none⟩,c,e,size,m0,qbr xs 0 cs⟩) →
   (∃ b,EnvOk n tb ((d,.v (.slice (some ⟨g,0,none⟩) len c)) :: (d1,.v (.slice (some ⟨b,0,none⟩) len len)) :: env) a') → wpOps P ops Q rest a' w'):wpOps P ops Q (i :: j :: rest) a w:=by
 obtain ⟨op,ho,hd,hl,hrun⟩:=qhk (P:=P) (w:=w) hE h1
 rw [wpOps_cons]
 refine qa1 hE ho hrun ?_
 rw [wpOps_cons]
 have hF1:Fr w tb rs (w.alloc (.cells cs.toArray e)) tb rs:=Fr.nil tb rs (Step.alloc _ _)
 have hW1:=hW.next_nil (Step.alloc w (.cells cs.toArray e))
 have hE1:=hE.put hd (.v (.slice (some ⟨w.heap.size,0,none⟩) len len)) trivial
 have hs:Src (w.alloc (.cells cs.toArray e)) (some ⟨w.heap.size,0,none⟩) len size cs:=by
  refine ⟨hl,fun h=>by (cases h),fun ad hA q u hu=>?_,qdS hone⟩
  simp only [Option.some.injEq] at hA
  subst hA
  rw [qbU,Nat.zero_add,qdf]
  simpa using hu
 refine qhh hW1 hE1 (h2 w.heap.size) ht hk hs hm fun a' w' hF hW' hE'=>?_
 exact K a' w' (hF1.trans hF) hW' ⟨w.heap.size,hE'⟩
end
theorem qd4 (x:Int):be 2 (IntKind.i64.wrap x) = be 2 x:=by
 rw [IntKind.wrap_i64]
 simp only [be,List.cons.injEq,and_true]
 exact ⟨qaS (by simp only [Int.reducePow]; omega),qaS (by simp only [Int.reducePow]; omega)⟩
theorem qd5 (x:Int):be 4 (IntKind.i64.wrap x) = be 4 x:=by
 rw [IntKind.wrap_i64]
 simp only [be,List.cons.injEq,and_true]
 refine ⟨qaS ?_,qaS ?_,qaS ?_,qaS ?_⟩ <;> simp only [Int.reducePow] <;> omega
def outB (key v num:Int) (has:Bool) (txt:Bs) (flex:Bool) (body:Bs):Bs :=
 be 2 key ++ (be 2 v ++ (be 4 num ++ ((if has = true then be 2 ((txt.length:Nat):Int) ++ txt else be 2 (-1)) ++ ((if flex = true then [0] else []) ++ body))))
def qba (key v num:Int) (has:Bool) (txt:Bs) (flex:Bool) (body:Bs):Bs :=
 be 4 (((outB key v num has txt flex body).length:Nat):Int) ++ outB key v num has txt flex body
theorem qlS {key v num:Int} {has flex:Bool} {txt body:Bs}:(outB key v num has txt flex body).length ≤ txt.length + body.length + 16:=by
 unfold outB
 simp only [List.length_append,be_length]
 cases has <;> cases flex <;> simp <;> omega
theorem qkg {key v num:Int} {has flex:Bool} {txt body:Bs}:(qba key v num has txt flex body).length ≤ txt.length + body.length + 20:=by
 have:=qlS (key:=key) (v:=v) (num:=num) (has:=has) (txt:=txt) (flex:=flex) (body:=body)
 unfold qba
 simp only [List.length_append,be_length]
 omega
theorem qhT {s:Bs} {x:Int} {cs:List Value} (hc:cs = bc (be 4 x)):qbr (bc s) 0 cs = bc (be 4 x ++ s.drop 4):=by
 subst hc
 have e:(bc (be 4 x)).length = 4:=by simp [bc]
 unfold qbr
 rw [e]
 simp only [List.take_zero,List.nil_append,Nat.zero_add,bc,List.map_append,List.map_drop]
def qlh (w:World) (A:Option Addr) (c:Nat) (s:Bs) (x:Int):Ending → World → Prop:=fun e w' =>
 e = .returned (.slice A 4 c) ∧ w'.ownsRow 0 5 1 (.slice A s.length c) s.length (bc (be 4 x ++ s.drop 4)) ∧ Step w w' (Blk A)
abbrev z28 (x0):=([.int .u8 (IntKind.u8.wrap (Int.fdiv x0 16777216)),.int .u8 (IntKind.u8.wrap (Int.fdiv x0 65536)),.int .u8 (IntKind.u8.wrap (Int.fdiv x0 256)),.int .u8 (IntKind.u8.wrap x0)]:List Value)
theorem qfP (x:Int) (A:Option Addr) (c:Nat) (s:Bs) (w:World) (ho:w.ownsRow 0 5 1 (.slice A s.length c) s.length (bc s)) (h4:4 ≤ s.length) :
  Calls Tryz.prog 155 #[.slice A 0 c,.int .u32 x] w (qlh w A c s x):=by
 obtain ⟨g,rfl⟩:=qcL ho (by omega)
 refine enter (n:=19) Tryz.func155 rfl Tryz.ntmps155 kz fun a hE=>?_
 have hW:=WOk.startRow w ho
 refine qae [0] kz ?_
 refine qaP [0] [] [0,1] hW hE (env':=[(0,.v (.slice (some ⟨g,0,none⟩) 0 c)),(1,.v (.int .u32 x))]) kz rfl fun a1 hE1=>?_
 refine qaf (qab ?_)
 refine qae [0,1,2,3,4,5,6,7,8,9,10,11,12,13,14] kz ?_
 refine qaP [0,1,2,3,4,5,6,7,8,9,10,11] [12,13,14] [5,8,11,14,16] hW hE1 (env':=[(5,.v (.slice (some ⟨g,0,none⟩) 0 c)),(8,.v (.int .u8 (IntKind.u8.wrap (Int.fdiv x 16777216)))),(11,.v (.int .u8 (IntKind.u8.wrap (Int.fdiv x 65536)))),(14,.v (.int .u8 (IntKind.u8.wrap (Int.fdiv x 256)))),(16,.v (.int .u8 (IntKind.u8.wrap x)))]) kz rfl fun a2 hE2=>?_
 refine qhS hW hE2 (k:=0) (g:=g) (c:=c) (m0:=s.length) (e:=5) (size:=1) (len:=4) (cs:=(z28 x)) (d1:=17) (d:=18) kz (t:=24) (bytes:=1) kz (fun _=>by kernel_rfl) rfl kz h4 fun a3 w3 hF3 hW3 ⟨_,hE3⟩=>?_
 refine qaP [14] [] [4] hW3 hE3 (env':=[(4,.v (.slice (some ⟨g,0,none⟩) 4 c))]) kz rfl fun a4 hE4=>?_
 refine qaf (qab ?_)
 refine wp_ret (qaE hE4 hW3.cells (v:=.slice (some ⟨g,0,none⟩) 4 c) kz ?_)
 have h0:w3.ownsRow 0 5 1 (.slice (some ⟨g,0,none⟩) s.length c) s.length (qbr (bc s) 0 (z28 x)):=hW3.own 0 _ rfl
 have hc:([.int .u8 (IntKind.u8.wrap (Int.fdiv x 16777216)),.int .u8 (IntKind.u8.wrap (Int.fdiv x 65536)),.int .u8 (IntKind.u8.wrap (Int.fdiv x 256)),.int .u8 (IntKind.u8.wrap x)]:List Value) = bc (be 4 x):=by
  rw [show be 4 x = [by8 (Int.fdiv x 16777216),by8 (Int.fdiv x 65536),by8 (Int.fdiv x 256),by8 x] by simp [be,Int.fdiv_eq_ediv_of_nonneg]]
  simp only [bc,List.map,qbE]
  try rfl
 rw [qhT hc] at h0
 exact ⟨rfl,h0,hW3.step⟩
theorem qbP (x:Int) (A:Option Addr) (c:Nat) (s:Bs) (w:World) (ho:w.ownsRow 0 5 1 (.slice A s.length c) s.length (bc s)) (h4:4 ≤ s.length) :
  Calls Tryz.prog 133 #[.slice A 0 c,.int .i32 x] w (qlh w A c s x):=by
 refine enter (n:=9) Tryz.func133 rfl Tryz.ntmps133 kz fun a hE=>?_
 have hW:=WOk.startRow w ho
 refine qae [0] kz ?_
 refine qaP [0] [] [0,1] hW hE (env':=[(0,.v (.slice A 0 c)),(1,.v (.int .i32 x))]) kz rfl fun a1 hE1=>?_
 refine qaf (qab ?_)
 refine qae [0,1,2,3,4] kz ?_
 refine qaP [0,1,2] [3,4] [5,7] hW hE1 (env':=[(5,.v (.slice A 0 c)),(7,.v (.int .u32 (IntKind.u32.wrap x)))]) kz rfl fun a2 hE2=>?_
 refine qam (qal hE2 (f:=155) (vs:=[.slice A 0 c,.int .u32 (IntKind.u32.wrap x)]) (d:=8) kz Tryz.call155 (qfP (IntKind.u32.wrap x) A c s _ (hW.own 0 _ rfl) h4) ?_)
 rintro e_ w3 ⟨rfl,ho3,hs3⟩
 refine ⟨_,rfl,fun a3 hE3=>?_⟩
 have hW3:WOk _ _ _ _ [⟨A,c,5,1,s.length,bc (be 4 (IntKind.u32.wrap x) ++ s.drop 4)⟩]:=hW.grow (k:=0) (r':=⟨A,c,5,1,s.length,bc (be 4 (IntKind.u32.wrap x) ++ s.drop 4)⟩) rfl hs3 ho3 fun g' hg'=>.inl hg'
 refine qaP [4] [] [4] hW3 hE3 (env':=[(4,.v (.slice A 4 c))]) kz rfl fun a4 hE4=>?_
 refine qaf (qab ?_)
 refine wp_ret (qaE hE4 hW3.cells (v:=.slice A 4 c) kz ?_)
 have h0:w3.ownsRow 0 5 1 (.slice A s.length c) s.length (bc (be 4 (IntKind.u32.wrap x) ++ s.drop 4)):=ho3
 rw [qhX] at h0
 exact ⟨rfl,h0,hs3⟩
theorem qeq:by8 0 = 0:=rfl
theorem qbX (t:ByteArray):(sb t).length = t.size:=by simp [sb]
theorem qcP {S R:Bs} {key v num:Int} {has flex:Bool} {txt body:Bs} (hS:S = [0,0,0,0] ++ R) (hR:R = outB key v num has txt flex body:=by rfl):be 4 (IntKind.i32.wrap (((S.length - 4:Nat):Int))) ++ S.drop 4 = qba key v num has txt flex body:=by
 subst hS
 subst hR
 have e:([0,0,0,0] ++ outB key v num has txt flex body).length - 4 = (outB key v num has txt flex body).length:=by
  rw [List.length_append]
  show 4 + (outB key v num has txt flex body).length - 4 = _
  omega
 rw [be4_i32',e]
 rfl
theorem qcQ {w0 w:World} {tb:Tb} {rs:List Rw} {k e c:Nat} {x:Int} {A:Option Addr} {S:Bs} (hW:WOk w0 Nil w tb rs) (hk:rs[k]? = some ⟨A,c,e,1,S.length,bc (be 4 x ++ S.drop 4)⟩) {Z:Bs} (hY:be 4 x ++ S.drop 4 = Z) (h4:4 ≤ S.length):∃ A' c',(Ending.returned (.tuple #[.slice A S.length c,.bool true])) = .returned (.tuple #[.slice A' Z.length c',.bool true]) ∧ w.ownsRow w0.heap.size e 1 (.slice A' Z.length c') Z.length (bc Z) ∧ Step w0 w Nil:=by
 have hl:S.length = Z.length:=by
  rw [← hY,List.length_append,be_length,List.length_drop]; omega
 rw [hY] at hk
 rw [hl] at hk ⊢
 exact ⟨A,c,rfl,qgL hW hk rfl (hW.own k _ hk),hW.step⟩
theorem qli (key v num:Int) (has flex:Bool) (A1:Option Addr) (c1:Nat) (id:Bs) (A2:Option Addr) (c2:Nat) (body:Bs) (w:World) (F:Nat → Nat → Prop) (h1:Octs w F A1 c1 id) (h2:Octs w F A2 c2 body) (hroom:id.length + body.length + 64 ≤ 1099511627776) :
  Calls Tryz.prog 18 #[.int .i64 key,.int .i64 v,.int .i32 num,.bool has,.slice A1 id.length c1,.bool flex,.slice A2 body.length c2] w (qdV w 5 (qba key v num has id flex body)):=by
 refine enter (n:=49) Tryz.func18 rfl Tryz.ntmps18 kz fun a hE=>?_
 have hW:=WOk.start w Nil
 refine qar [(0,.v (.int .i64 key)),(1,.v (.int .i64 v)),(2,.v (.int .i32 num)),(3,.v (.bool has)),(4,.v (.slice A1 id.length c1)),(5,.v (.bool flex)),(6,.v (.slice A2 body.length c2))] hW hE fun a1 hE2=>?_
 refine qae [0,1,2,3,4,5] kz ?_
 refine qak [0] [1,2,3,4,5] [(1,.v (.int .i64 v)),(2,.v (.int .i32 num)),(3,.v (.bool has)),(4,.v (.slice A1 id.length c1)),(5,.v (.bool flex)),(6,.v (.slice A2 body.length c2)),(16,.v (.int .i64 key))] hW hE2 fun a3 hE4=>?_
 refine qam (qal hE4 (f:=46) (vs:=[.int .i64 key,.int .i64 2]) (d:=17) kz Tryz.call46 (qcV key 2 (by first | decide | exact qbb _ | omega) _) ?_)
 rintro e_ w9 ⟨A7,c8,rfl,ho6,hs5⟩
 refine ⟨_,rfl,fun gP d8=>?_⟩
 obtain ⟨bL,fu⟩:=hW.frFresh hs5 (brow A7 c8 5 (be 2 key)) (Nat.le_refl _) ho6
 refine qak [2] [3,4,5] [(2,.v (.int .i32 num)),(3,.v (.bool has)),(4,.v (.slice A1 id.length c1)),(5,.v (.bool flex)),(6,.v (.slice A2 body.length c2)),(17,.v (.slice A7 ((be 2 key).length) c8)),(18,.v (.int .i64 v))] bL d8 fun gQ d9=>?_
 refine qam (qal d9 (f:=46) (vs:=[.int .i64 v,.int .i64 2]) (d:=19) kz Tryz.call46 (qcV v 2 (by first | decide | exact qbb _ | omega) _) ?_)
 rintro e_ gR ⟨az,aA,rfl,ea,eb⟩
 refine ⟨_,rfl,fun gS ec=>?_⟩
 obtain ⟨bG,fv⟩:=bL.frFresh eb (brow az aA 5 (be 2 v)) (Nat.le_refl _) ea
 refine qam (qaJ bG ec (k:=0) (d:=20) (t:=24) (e:=5) (size:=1) (bytes:=1) (A:=A7) (As:=az) (m0:=((be 2 key).length)) (c:=c8) (m:=((be 2 v).length)) (cs:=aA) (xs:=(bc (be 2 key))) (news:=bc (be 2 v)) kz kz rfl (qbZ (bG.own 1 _ rfl) (qcq _)) (qcc (bG.own 1 _ rfl)) (by first | omega | (simp only [List.length_append,List.length_cons,List.length_nil,be_length]; omega) | (simp; omega)) fun bC bD gT gU fw ee ef=>?_)
 have eg:(⟨bC,bD,5,1,(be 2 key).length + (be 2 v).length,bc (be 2 key) ++ bc (be 2 v)⟩:Rw) = brow bC bD 5 (be 2 key ++ (be 2 v)):=qa2 (rfl) rfl
 obtain ⟨bH,fx⟩:=ee.rowEq 0 [brow bC bD 5 (be 2 key ++ (be 2 v)),brow az aA 5 (be 2 v)] eg
 have eh:=EnvOk.pick ef (ks:=[2,3,4,5,6,17,18,19,20]) (env':=[(2,.v (.int .i32 num)),(3,.v (.bool has)),(4,.v (.slice A1 id.length c1)),(5,.v (.bool flex)),(6,.v (.slice A2 body.length c2)),(17,.v (.slice A7 ((be 2 key).length) c8)),(18,.v (.int .i64 v)),(19,.v (.slice az ((be 2 v).length) aA)),(20,.v (.slice bC ((be 2 key).length + (be 2 v).length) bD))]) kz
 have ei:=eh.cast (env':=[(2,.v (.int .i32 num)),(3,.v (.bool has)),(4,.v (.slice A1 id.length c1)),(5,.v (.bool flex)),(6,.v (.slice A2 body.length c2)),(17,.v (.slice A7 ((be 2 key).length) c8)),(18,.v (.int .i64 v)),(19,.v (.slice az ((be 2 v).length) aA)),(20,.v (.slice bC ((be 2 key ++ (be 2 v)).length) bD))]) (by simp only [List.length_append,List.length_cons,List.length_nil,Nat.zero_add])
 refine qak [5] [] [(2,.v (.int .i32 num)),(3,.v (.bool has)),(4,.v (.slice A1 id.length c1)),(5,.v (.bool flex)),(6,.v (.slice A2 body.length c2)),(15,.v (.slice bC ((be 2 key ++ (be 2 v)).length) bD))] bH ei fun gV ej=>?_
 refine qaf (qab ?_)
 refine qae [0,1,2,3,4,5] kz ?_
 refine qak [0,1,2] [3,4,5] [(3,.v (.bool has)),(4,.v (.slice A1 id.length c1)),(5,.v (.bool flex)),(6,.v (.slice A2 body.length c2)),(21,.v (.slice bC ((be 2 key ++ (be 2 v)).length) bD)),(23,.v (.int .i64 (IntKind.i64.wrap num)))] bH ej fun gW ek=>?_
 refine qam (qal ek (f:=46) (vs:=[.int .i64 (IntKind.i64.wrap num),.int .i64 4]) (d:=24) kz Tryz.call46 (qcV (IntKind.i64.wrap num) 4 (by first | decide | exact qbb _ | omega) _) ?_)
 rintro e_ gX ⟨aC,aD,rfl,em,eo⟩
 refine ⟨_,rfl,fun gY ep=>?_⟩
 obtain ⟨bI,fy⟩:=bH.frFresh eo (brow aC aD 5 (be 4 (IntKind.i64.wrap num))) (Nat.le_refl _) em
 refine qam (qaJ bI ep (k:=0) (d:=25) (t:=24) (e:=5) (size:=1) (bytes:=1) (A:=bC) (As:=aC) (m0:=((be 2 key ++ (be 2 v)).length)) (c:=bD) (m:=((be 4 (IntKind.i64.wrap num)).length)) (cs:=aD) (xs:=(bc (be 2 key ++ (be 2 v)))) (news:=bc (be 4 (IntKind.i64.wrap num))) kz kz rfl (qbZ (bI.own 2 _ rfl) (qcq _)) (qcc (bI.own 2 _ rfl)) (by first | omega | (simp only [List.length_append,List.length_cons,List.length_nil,be_length]; omega) | (simp; omega)) fun aG aH gZ g8 fz eu ev=>?_)
 have ew:(⟨aG,aH,5,1,(be 2 key ++ (be 2 v)).length + (be 4 (IntKind.i64.wrap num)).length,bc (be 2 key ++ (be 2 v)) ++ bc (be 4 (IntKind.i64.wrap num))⟩:Rw) = brow aG aH 5 (be 2 key ++ (be 2 v) ++ (be 4 (IntKind.i64.wrap num))):=qa2 (rfl) rfl
 obtain ⟨aW,fA⟩:=eu.rowEq 0 [brow aG aH 5 (be 2 key ++ (be 2 v) ++ (be 4 (IntKind.i64.wrap num))),brow az aA 5 (be 2 v),brow aC aD 5 (be 4 (IntKind.i64.wrap num))] ew
 have ey:=EnvOk.pick ev (ks:=[3,4,5,6,21,23,24,25]) (env':=[(3,.v (.bool has)),(4,.v (.slice A1 id.length c1)),(5,.v (.bool flex)),(6,.v (.slice A2 body.length c2)),(21,.v (.slice bC ((be 2 key ++ (be 2 v)).length) bD)),(23,.v (.int .i64 (IntKind.i64.wrap num))),(24,.v (.slice aC ((be 4 (IntKind.i64.wrap num)).length) aD)),(25,.v (.slice aG ((be 2 key ++ (be 2 v)).length + (be 4 (IntKind.i64.wrap num)).length) aH))]) kz
 have ez:=ey.cast (env':=[(3,.v (.bool has)),(4,.v (.slice A1 id.length c1)),(5,.v (.bool flex)),(6,.v (.slice A2 body.length c2)),(21,.v (.slice bC ((be 2 key ++ (be 2 v)).length) bD)),(23,.v (.int .i64 (IntKind.i64.wrap num))),(24,.v (.slice aC ((be 4 (IntKind.i64.wrap num)).length) aD)),(25,.v (.slice aG ((be 2 key ++ (be 2 v) ++ (be 4 (IntKind.i64.wrap num))).length) aH))]) (by simp only [List.length_append,List.length_cons,List.length_nil,Nat.zero_add])
 refine qak [5] [] [(3,.v (.bool has)),(4,.v (.slice A1 id.length c1)),(5,.v (.bool flex)),(6,.v (.slice A2 body.length c2)),(15,.v (.slice aG ((be 2 key ++ (be 2 v) ++ (be 4 (IntKind.i64.wrap num))).length) aH))] aW ez fun g9 eB=>?_
 refine qaf (qab ?_)
 refine wp_seq (qar [(4,.v (.slice A1 id.length c1)),(5,.v (.bool flex)),(6,.v (.slice A2 body.length c2)),(15,.v (.slice aG ((be 2 key ++ (be 2 v) ++ (be 4 (IntKind.i64.wrap num))).length) aH)),(26,.v (.bool has))] aW eB fun hC bJ=>?_)
 refine qay bJ (b:=has) kz (fun aB=>?_) (fun aB=>?_)
 ·
  refine qas [0,1,2,3,4,5,6,7] kz ?_
  refine qak [0,1,2] [3,4,5,6,7] [(4,.v (.slice A1 id.length c1)),(5,.v (.bool flex)),(6,.v (.slice A2 body.length c2)),(27,.v (.slice aG ((be 2 key ++ (be 2 v) ++ (be 4 (IntKind.i64.wrap num))).length) aH)),(29,.v (.int .i64 ((id.length:Nat):Int)))] aW bJ fun hJ eC=>?_
  refine qam (qal eC (f:=46) (vs:=[.int .i64 ((id.length:Nat):Int),.int .i64 2]) (d:=30) kz Tryz.call46 (qcV ((id.length:Nat):Int) 2 (by first | decide | exact qbb _ | omega) _) ?_)
  rintro e_ hK ⟨aY,aZ,rfl,eD,eE⟩
  refine ⟨_,rfl,fun hZ eF=>?_⟩
  obtain ⟨bK,fB⟩:=aW.frFresh eE (brow aY aZ 5 (be 2 ((id.length:Nat):Int))) (Nat.le_refl _) eD
  refine qam (qaJ bK eF (k:=0) (d:=31) (t:=24) (e:=5) (size:=1) (bytes:=1) (A:=aG) (As:=aY) (m0:=((be 2 key ++ (be 2 v) ++ (be 4 (IntKind.i64.wrap num))).length)) (c:=aH) (m:=((be 2 ((id.length:Nat):Int)).length)) (cs:=aZ) (xs:=(bc (be 2 key ++ (be 2 v) ++ (be 4 (IntKind.i64.wrap num))))) (news:=bc (be 2 ((id.length:Nat):Int))) kz kz rfl (qbZ (bK.own 3 _ rfl) (qcq _)) (qcc (bK.own 3 _ rfl)) (by first | omega | (simp only [List.length_append,List.length_cons,List.length_nil,be_length]; omega) | (simp; omega)) fun bE bF ia ib fC eG eH=>?_)
  have eI:(⟨bE,bF,5,1,(be 2 key ++ (be 2 v) ++ (be 4 (IntKind.i64.wrap num))).length + (be 2 ((id.length:Nat):Int)).length,bc (be 2 key ++ (be 2 v) ++ (be 4 (IntKind.i64.wrap num))) ++ bc (be 2 ((id.length:Nat):Int))⟩:Rw) = brow bE bF 5 (be 2 key ++ (be 2 v) ++ (be 4 (IntKind.i64.wrap num)) ++ (be 2 ((id.length:Nat):Int))):=qa2 (rfl) rfl
  obtain ⟨aX,fD⟩:=eG.rowEq 0 [brow bE bF 5 (be 2 key ++ (be 2 v) ++ (be 4 (IntKind.i64.wrap num)) ++ (be 2 ((id.length:Nat):Int))),brow az aA 5 (be 2 v),brow aC aD 5 (be 4 (IntKind.i64.wrap num)),brow aY aZ 5 (be 2 ((id.length:Nat):Int))] eI
  have eJ:=EnvOk.pick eH (ks:=[4,5,6,27,29,30,31]) (env':=[(4,.v (.slice A1 id.length c1)),(5,.v (.bool flex)),(6,.v (.slice A2 body.length c2)),(27,.v (.slice aG ((be 2 key ++ (be 2 v) ++ (be 4 (IntKind.i64.wrap num))).length) aH)),(29,.v (.int .i64 ((id.length:Nat):Int))),(30,.v (.slice aY ((be 2 ((id.length:Nat):Int)).length) aZ)),(31,.v (.slice bE ((be 2 key ++ (be 2 v) ++ (be 4 (IntKind.i64.wrap num))).length + (be 2 ((id.length:Nat):Int)).length) bF))]) kz
  have eK:=eJ.cast (env':=[(4,.v (.slice A1 id.length c1)),(5,.v (.bool flex)),(6,.v (.slice A2 body.length c2)),(27,.v (.slice aG ((be 2 key ++ (be 2 v) ++ (be 4 (IntKind.i64.wrap num))).length) aH)),(29,.v (.int .i64 ((id.length:Nat):Int))),(30,.v (.slice aY ((be 2 ((id.length:Nat):Int)).length) aZ)),(31,.v (.slice bE ((be 2 key ++ (be 2 v) ++ (be 4 (IntKind.i64.wrap num)) ++ (be 2 ((id.length:Nat):Int))).length) bF))]) (by simp only [List.length_append,List.length_cons,List.length_nil,Nat.zero_add])
  refine qak [5] [6,7] [(5,.v (.bool flex)),(6,.v (.slice A2 body.length c2)),(31,.v (.slice bE ((be 2 key ++ (be 2 v) ++ (be 4 (IntKind.i64.wrap num)) ++ (be 2 ((id.length:Nat):Int))).length) bF)),(32,.v (.slice A1 id.length c1))] aX eK fun ic eL=>?_
  refine qam (qaJ aX eL (k:=0) (d:=33) (t:=24) (e:=5) (size:=1) (bytes:=1) (A:=bE) (As:=A1) (m0:=((be 2 key ++ (be 2 v) ++ (be 4 (IntKind.i64.wrap num)) ++ (be 2 ((id.length:Nat):Int))).length)) (c:=bF) (m:=id.length) (cs:=c1) (xs:=(bc (be 2 key ++ (be 2 v) ++ (be 4 (IntKind.i64.wrap num)) ++ (be 2 ((id.length:Nat):Int))))) (news:=bc id) kz kz rfl (h1.move aX.step nilM aX.imm).src (h1.move aX.step nilM aX.imm).cap (by first | omega | (simp only [List.length_append,List.length_cons,List.length_nil,be_length]; omega) | (simp; omega)) fun aQ aR ig ii fE eM eN=>?_)
  have bM:(⟨aQ,aR,5,1,(be 2 key ++ (be 2 v) ++ (be 4 (IntKind.i64.wrap num)) ++ (be 2 ((id.length:Nat):Int))).length + id.length,bc (be 2 key ++ (be 2 v) ++ (be 4 (IntKind.i64.wrap num)) ++ (be 2 ((id.length:Nat):Int))) ++ bc id⟩:Rw) = brow aQ aR 5 (be 2 key ++ (be 2 v) ++ (be 4 (IntKind.i64.wrap num)) ++ (be 2 ((id.length:Nat):Int)) ++ id):=qa2 (rfl) rfl
  obtain ⟨aa,eO⟩:=eM.rowEq 0 [brow aQ aR 5 (be 2 key ++ (be 2 v) ++ (be 4 (IntKind.i64.wrap num)) ++ (be 2 ((id.length:Nat):Int)) ++ id),brow az aA 5 (be 2 v),brow aC aD 5 (be 4 (IntKind.i64.wrap num)),brow aY aZ 5 (be 2 ((id.length:Nat):Int))] bM
  have bN:=EnvOk.pick eN (ks:=[5,6,31,32,33]) (env':=[(5,.v (.bool flex)),(6,.v (.slice A2 body.length c2)),(31,.v (.slice bE ((be 2 key ++ (be 2 v) ++ (be 4 (IntKind.i64.wrap num)) ++ (be 2 ((id.length:Nat):Int))).length) bF)),(32,.v (.slice A1 id.length c1)),(33,.v (.slice aQ ((be 2 key ++ (be 2 v) ++ (be 4 (IntKind.i64.wrap num)) ++ (be 2 ((id.length:Nat):Int))).length + id.length) aR))]) kz
  have bO:=bN.cast (env':=[(5,.v (.bool flex)),(6,.v (.slice A2 body.length c2)),(31,.v (.slice bE ((be 2 key ++ (be 2 v) ++ (be 4 (IntKind.i64.wrap num)) ++ (be 2 ((id.length:Nat):Int))).length) bF)),(32,.v (.slice A1 id.length c1)),(33,.v (.slice aQ ((be 2 key ++ (be 2 v) ++ (be 4 (IntKind.i64.wrap num)) ++ (be 2 ((id.length:Nat):Int)) ++ id).length) aR))]) (by simp only [List.length_append,List.length_cons,List.length_nil,Nat.zero_add])
  refine qak [7] [] [(5,.v (.bool flex)),(6,.v (.slice A2 body.length c2)),(15,.v (.slice aQ ((be 2 key ++ (be 2 v) ++ (be 4 (IntKind.i64.wrap num)) ++ (be 2 ((id.length:Nat):Int)) ++ id).length) aR))] aa bO fun fF bP=>?_
  refine qaf (qab ?_)
  refine wp_seq (qar [(6,.v (.slice A2 body.length c2)),(15,.v (.slice aQ ((be 2 key ++ (be 2 v) ++ (be 4 (IntKind.i64.wrap num)) ++ (be 2 ((id.length:Nat):Int)) ++ id).length) aR)),(37,.v (.bool flex))] aa bP fun fG ba=>?_)
  refine qay ba (b:=flex) kz (fun aE=>?_) (fun aE=>?_)
  ·
   refine qas [0,1,2,3] kz ?_
   refine qak [0] [1,2,3] [(6,.v (.slice A2 body.length c2)),(38,.v (.slice aQ ((be 2 key ++ (be 2 v) ++ (be 4 (IntKind.i64.wrap num)) ++ (be 2 ((id.length:Nat):Int)) ++ id).length) aR))] aa ba fun fH bQ=>?_
   refine qbu aa bQ (k:=0) (e:=5) (size:=1) (len:=1) (cs:=[.int .u8 0]) (d1:=39) (d:=40) kz (t:=24) (bytes:=1) kz (fun _=>by kernel_rfl) rfl kz (by first | omega | (simp only [List.length_append,List.length_cons,List.length_nil,be_length]; omega) | (simp; omega)) fun ar au fI fJ eP bR ⟨_,bS⟩=>?_
   have bT:(⟨ar,au,5,1,(be 2 key ++ (be 2 v) ++ (be 4 (IntKind.i64.wrap num)) ++ (be 2 ((id.length:Nat):Int)) ++ id).length + 1,bc (be 2 key ++ (be 2 v) ++ (be 4 (IntKind.i64.wrap num)) ++ (be 2 ((id.length:Nat):Int)) ++ id) ++ [.int .u8 0]⟩:Rw) = brow ar au 5 (be 2 key ++ (be 2 v) ++ (be 4 (IntKind.i64.wrap num)) ++ (be 2 ((id.length:Nat):Int)) ++ id ++ [by8 0]):=qa2 (by simp only [bc,List.map,qbE]; try rfl) rfl
   obtain ⟨ao,eQ⟩:=bR.rowEq 0 [brow ar au 5 (be 2 key ++ (be 2 v) ++ (be 4 (IntKind.i64.wrap num)) ++ (be 2 ((id.length:Nat):Int)) ++ id ++ [by8 0]),brow az aA 5 (be 2 v),brow aC aD 5 (be 4 (IntKind.i64.wrap num)),brow aY aZ 5 (be 2 ((id.length:Nat):Int))] bT
   have bU:=EnvOk.pick bS (ks:=[6,38,40]) (env':=[(6,.v (.slice A2 body.length c2)),(38,.v (.slice aQ ((be 2 key ++ (be 2 v) ++ (be 4 (IntKind.i64.wrap num)) ++ (be 2 ((id.length:Nat):Int)) ++ id).length) aR)),(40,.v (.slice ar ((be 2 key ++ (be 2 v) ++ (be 4 (IntKind.i64.wrap num)) ++ (be 2 ((id.length:Nat):Int)) ++ id).length + 1) au))]) kz
   have bV:=bU.cast (env':=[(6,.v (.slice A2 body.length c2)),(38,.v (.slice aQ ((be 2 key ++ (be 2 v) ++ (be 4 (IntKind.i64.wrap num)) ++ (be 2 ((id.length:Nat):Int)) ++ id).length) aR)),(40,.v (.slice ar ((be 2 key ++ (be 2 v) ++ (be 4 (IntKind.i64.wrap num)) ++ (be 2 ((id.length:Nat):Int)) ++ id ++ [by8 0]).length) au))]) (by simp only [List.length_append,List.length_cons,List.length_nil,Nat.zero_add])
   refine qak [3] [] [(6,.v (.slice A2 body.length c2)),(15,.v (.slice ar ((be 2 key ++ (be 2 v) ++ (be 4 (IntKind.i64.wrap num)) ++ (be 2 ((id.length:Nat):Int)) ++ id ++ [by8 0]).length) au))] ao bV fun fK bW=>?_
   refine qaf (qab ?_)
   refine qae [0,1,2,3] kz ?_
   refine qak [0,1] [2,3] [(41,.v (.slice ar ((be 2 key ++ (be 2 v) ++ (be 4 (IntKind.i64.wrap num)) ++ (be 2 ((id.length:Nat):Int)) ++ id ++ [by8 0]).length) au)),(42,.v (.slice A2 body.length c2))] ao bW fun fL bX=>?_
   refine qam (qaJ ao bX (k:=0) (d:=43) (t:=24) (e:=5) (size:=1) (bytes:=1) (A:=ar) (As:=A2) (m0:=((be 2 key ++ (be 2 v) ++ (be 4 (IntKind.i64.wrap num)) ++ (be 2 ((id.length:Nat):Int)) ++ id ++ [by8 0]).length)) (c:=au) (m:=body.length) (cs:=c2) (xs:=(bc (be 2 key ++ (be 2 v) ++ (be 4 (IntKind.i64.wrap num)) ++ (be 2 ((id.length:Nat):Int)) ++ id ++ [by8 0]))) (news:=bc body) kz kz rfl (h2.move ao.step nilM ao.imm).src (h2.move ao.step nilM ao.imm).cap (by first | omega | (simp only [List.length_append,List.length_cons,List.length_nil,be_length]; omega) | (simp; omega)) fun af ag fM fN eR bY bZ=>?_)
   have b8:(⟨af,ag,5,1,(be 2 key ++ (be 2 v) ++ (be 4 (IntKind.i64.wrap num)) ++ (be 2 ((id.length:Nat):Int)) ++ id ++ [by8 0]).length + body.length,bc (be 2 key ++ (be 2 v) ++ (be 4 (IntKind.i64.wrap num)) ++ (be 2 ((id.length:Nat):Int)) ++ id ++ [by8 0]) ++ bc body⟩:Rw) = brow af ag 5 (be 2 key ++ (be 2 v) ++ (be 4 (IntKind.i64.wrap num)) ++ (be 2 ((id.length:Nat):Int)) ++ id ++ [by8 0] ++ body):=qa2 (rfl) rfl
   obtain ⟨bd,eS⟩:=bY.rowEq 0 [brow af ag 5 (be 2 key ++ (be 2 v) ++ (be 4 (IntKind.i64.wrap num)) ++ (be 2 ((id.length:Nat):Int)) ++ id ++ [by8 0] ++ body),brow az aA 5 (be 2 v),brow aC aD 5 (be 4 (IntKind.i64.wrap num)),brow aY aZ 5 (be 2 ((id.length:Nat):Int))] b8
   have cd:=EnvOk.pick bZ (ks:=[41,42,43]) (env':=[(41,.v (.slice ar ((be 2 key ++ (be 2 v) ++ (be 4 (IntKind.i64.wrap num)) ++ (be 2 ((id.length:Nat):Int)) ++ id ++ [by8 0]).length) au)),(42,.v (.slice A2 body.length c2)),(43,.v (.slice af ((be 2 key ++ (be 2 v) ++ (be 4 (IntKind.i64.wrap num)) ++ (be 2 ((id.length:Nat):Int)) ++ id ++ [by8 0]).length + body.length) ag))]) kz
   have ce:=cd.cast (env':=[(41,.v (.slice ar ((be 2 key ++ (be 2 v) ++ (be 4 (IntKind.i64.wrap num)) ++ (be 2 ((id.length:Nat):Int)) ++ id ++ [by8 0]).length) au)),(42,.v (.slice A2 body.length c2)),(43,.v (.slice af ((be 2 key ++ (be 2 v) ++ (be 4 (IntKind.i64.wrap num)) ++ (be 2 ((id.length:Nat):Int)) ++ id ++ [by8 0] ++ body).length) ag))]) (by simp only [List.length_append,List.length_cons,List.length_nil,Nat.zero_add])
   refine qak [3] [] [(15,.v (.slice af ((be 2 key ++ (be 2 v) ++ (be 4 (IntKind.i64.wrap num)) ++ (be 2 ((id.length:Nat):Int)) ++ id ++ [by8 0] ++ body).length) ag))] bd ce fun fO cg=>?_
   refine qaf (qab ?_)
   refine qae [0,1,2,3,4,5] kz ?_
   refine qak [0,1] [2,3,4,5] [(15,.v (.slice af ((be 2 key ++ (be 2 v) ++ (be 4 (IntKind.i64.wrap num)) ++ (be 2 ((id.length:Nat):Int)) ++ id ++ [by8 0] ++ body).length) ag)),(45,.v (.int .i64 (((be 2 key ++ (be 2 v) ++ (be 4 (IntKind.i64.wrap num)) ++ (be 2 ((id.length:Nat):Int)) ++ id ++ [by8 0] ++ body).length:Nat):Int)))] bd cg fun fP cm=>?_
   refine qam (qal cm (f:=46) (vs:=[.int .i64 (((be 2 key ++ (be 2 v) ++ (be 4 (IntKind.i64.wrap num)) ++ (be 2 ((id.length:Nat):Int)) ++ id ++ [by8 0] ++ body).length:Nat):Int),.int .i64 4]) (d:=46) kz Tryz.call46 (qcV (((be 2 key ++ (be 2 v) ++ (be 4 (IntKind.i64.wrap num)) ++ (be 2 ((id.length:Nat):Int)) ++ id ++ [by8 0] ++ body).length:Nat):Int) 4 (by first | decide | exact qbb _ | omega) _) ?_)
   rintro e_ fQ ⟨bf,bg,rfl,cq,cr⟩
   refine ⟨_,rfl,fun fR cu=>?_⟩
   obtain ⟨aS,eT⟩:=bd.frFresh cr (brow bf bg 5 (be 4 (((be 2 key ++ (be 2 v) ++ (be 4 (IntKind.i64.wrap num)) ++ (be 2 ((id.length:Nat):Int)) ++ id ++ [by8 0] ++ body).length:Nat):Int))) (Nat.le_refl _) cq
   refine qak [3] [4,5] [(46,.v (.slice bf ((be 4 (((be 2 key ++ (be 2 v) ++ (be 4 (IntKind.i64.wrap num)) ++ (be 2 ((id.length:Nat):Int)) ++ id ++ [by8 0] ++ body).length:Nat):Int)).length) bg)),(47,.v (.slice af ((be 2 key ++ (be 2 v) ++ (be 4 (IntKind.i64.wrap num)) ++ (be 2 ((id.length:Nat):Int)) ++ id ++ [by8 0] ++ body).length) ag))] aS cu fun fS cv=>?_
   refine qam (qaJ aS cv (k:=4) (d:=48) (t:=24) (e:=5) (size:=1) (bytes:=1) (A:=bf) (As:=af) (m0:=((be 4 (((be 2 key ++ (be 2 v) ++ (be 4 (IntKind.i64.wrap num)) ++ (be 2 ((id.length:Nat):Int)) ++ id ++ [by8 0] ++ body).length:Nat):Int)).length)) (c:=bg) (m:=((be 2 key ++ (be 2 v) ++ (be 4 (IntKind.i64.wrap num)) ++ (be 2 ((id.length:Nat):Int)) ++ id ++ [by8 0] ++ body).length)) (cs:=ag) (xs:=(bc (be 4 (((be 2 key ++ (be 2 v) ++ (be 4 (IntKind.i64.wrap num)) ++ (be 2 ((id.length:Nat):Int)) ++ id ++ [by8 0] ++ body).length:Nat):Int)))) (news:=bc (be 2 key ++ (be 2 v) ++ (be 4 (IntKind.i64.wrap num)) ++ (be 2 ((id.length:Nat):Int)) ++ id ++ [by8 0] ++ body)) kz kz rfl (qbZ (aS.own 0 _ rfl) (qcq _)) (qcc (aS.own 0 _ rfl)) (by first | omega | (simp only [List.length_append,List.length_cons,List.length_nil,be_length]; omega) | (simp; omega)) fun aI aJ fT fU eU cw cz=>?_)
   have cA:(⟨aI,aJ,5,1,(be 4 (((be 2 key ++ (be 2 v) ++ (be 4 (IntKind.i64.wrap num)) ++ (be 2 ((id.length:Nat):Int)) ++ id ++ [by8 0] ++ body).length:Nat):Int)).length + (be 2 key ++ (be 2 v) ++ (be 4 (IntKind.i64.wrap num)) ++ (be 2 ((id.length:Nat):Int)) ++ id ++ [by8 0] ++ body).length,bc (be 4 (((be 2 key ++ (be 2 v) ++ (be 4 (IntKind.i64.wrap num)) ++ (be 2 ((id.length:Nat):Int)) ++ id ++ [by8 0] ++ body).length:Nat):Int)) ++ bc (be 2 key ++ (be 2 v) ++ (be 4 (IntKind.i64.wrap num)) ++ (be 2 ((id.length:Nat):Int)) ++ id ++ [by8 0] ++ body)⟩:Rw) = brow aI aJ 5 (be 4 (((be 2 key ++ (be 2 v) ++ (be 4 (IntKind.i64.wrap num)) ++ (be 2 ((id.length:Nat):Int)) ++ id ++ [by8 0] ++ body).length:Nat):Int) ++ (be 2 key ++ (be 2 v) ++ (be 4 (IntKind.i64.wrap num)) ++ (be 2 ((id.length:Nat):Int)) ++ id ++ [by8 0] ++ body)):=qa2 (rfl) rfl
   obtain ⟨bh,eV⟩:=cw.rowEq 4 [brow af ag 5 (be 2 key ++ (be 2 v) ++ (be 4 (IntKind.i64.wrap num)) ++ (be 2 ((id.length:Nat):Int)) ++ id ++ [by8 0] ++ body),brow az aA 5 (be 2 v),brow aC aD 5 (be 4 (IntKind.i64.wrap num)),brow aY aZ 5 (be 2 ((id.length:Nat):Int)),brow aI aJ 5 (be 4 (((be 2 key ++ (be 2 v) ++ (be 4 (IntKind.i64.wrap num)) ++ (be 2 ((id.length:Nat):Int)) ++ id ++ [by8 0] ++ body).length:Nat):Int) ++ (be 2 key ++ (be 2 v) ++ (be 4 (IntKind.i64.wrap num)) ++ (be 2 ((id.length:Nat):Int)) ++ id ++ [by8 0] ++ body))] cA
   have cB:=EnvOk.pick cz (ks:=[46,47,48]) (env':=[(46,.v (.slice bf ((be 4 (((be 2 key ++ (be 2 v) ++ (be 4 (IntKind.i64.wrap num)) ++ (be 2 ((id.length:Nat):Int)) ++ id ++ [by8 0] ++ body).length:Nat):Int)).length) bg)),(47,.v (.slice af ((be 2 key ++ (be 2 v) ++ (be 4 (IntKind.i64.wrap num)) ++ (be 2 ((id.length:Nat):Int)) ++ id ++ [by8 0] ++ body).length) ag)),(48,.v (.slice aI ((be 4 (((be 2 key ++ (be 2 v) ++ (be 4 (IntKind.i64.wrap num)) ++ (be 2 ((id.length:Nat):Int)) ++ id ++ [by8 0] ++ body).length:Nat):Int)).length + (be 2 key ++ (be 2 v) ++ (be 4 (IntKind.i64.wrap num)) ++ (be 2 ((id.length:Nat):Int)) ++ id ++ [by8 0] ++ body).length) aJ))]) kz
   have cC:=cB.cast (env':=[(46,.v (.slice bf ((be 4 (((be 2 key ++ (be 2 v) ++ (be 4 (IntKind.i64.wrap num)) ++ (be 2 ((id.length:Nat):Int)) ++ id ++ [by8 0] ++ body).length:Nat):Int)).length) bg)),(47,.v (.slice af ((be 2 key ++ (be 2 v) ++ (be 4 (IntKind.i64.wrap num)) ++ (be 2 ((id.length:Nat):Int)) ++ id ++ [by8 0] ++ body).length) ag)),(48,.v (.slice aI ((be 4 (((be 2 key ++ (be 2 v) ++ (be 4 (IntKind.i64.wrap num)) ++ (be 2 ((id.length:Nat):Int)) ++ id ++ [by8 0] ++ body).length:Nat):Int) ++ (be 2 key ++ (be 2 v) ++ (be 4 (IntKind.i64.wrap num)) ++ (be 2 ((id.length:Nat):Int)) ++ id ++ [by8 0] ++ body)).length) aJ))]) (by simp only [List.length_append,List.length_cons,List.length_nil,Nat.zero_add])
   refine qak [5] [] [(14,.v (.slice aI ((be 4 (((be 2 key ++ (be 2 v) ++ (be 4 (IntKind.i64.wrap num)) ++ (be 2 ((id.length:Nat):Int)) ++ id ++ [by8 0] ++ body).length:Nat):Int) ++ (be 2 key ++ (be 2 v) ++ (be 4 (IntKind.i64.wrap num)) ++ (be 2 ((id.length:Nat):Int)) ++ id ++ [by8 0] ++ body)).length) aJ))] bh cC fun fV cD=>?_
   refine qaf (qab ?_)
   refine wp_ret (qaE cD bh.cells (v:=.slice aI ((be 4 (((be 2 key ++ (be 2 v) ++ (be 4 (IntKind.i64.wrap num)) ++ (be 2 ((id.length:Nat):Int)) ++ id ++ [by8 0] ++ body).length:Nat):Int) ++ (be 2 key ++ (be 2 v) ++ (be 4 (IntKind.i64.wrap num)) ++ (be 2 ((id.length:Nat):Int)) ++ id ++ [by8 0] ++ body)).length) aJ) kz ?_)
   exact qa8 bh (k:=4) rfl (by first | (simp [qba,outB,qd4,qd5,qeq,aB,aE]; done) | (simp [qba,outB,qd4,qd5,qeq,aB,aE]; omega))
  refine wp_skip (qab (qae [0,1,2,3] kz ?_))
  refine qak [0,1] [2,3] [(41,.v (.slice aQ ((be 2 key ++ (be 2 v) ++ (be 4 (IntKind.i64.wrap num)) ++ (be 2 ((id.length:Nat):Int)) ++ id).length) aR)),(42,.v (.slice A2 body.length c2))] aa ba fun fW cE=>?_
  refine qam (qaJ aa cE (k:=0) (d:=43) (t:=24) (e:=5) (size:=1) (bytes:=1) (A:=aQ) (As:=A2) (m0:=((be 2 key ++ (be 2 v) ++ (be 4 (IntKind.i64.wrap num)) ++ (be 2 ((id.length:Nat):Int)) ++ id).length)) (c:=aR) (m:=body.length) (cs:=c2) (xs:=(bc (be 2 key ++ (be 2 v) ++ (be 4 (IntKind.i64.wrap num)) ++ (be 2 ((id.length:Nat):Int)) ++ id))) (news:=bc body) kz kz rfl (h2.move aa.step nilM aa.imm).src (h2.move aa.step nilM aa.imm).cap (by first | omega | (simp only [List.length_append,List.length_cons,List.length_nil,be_length]; omega) | (simp; omega)) fun ah ai fX fY eW cG cH=>?_)
  have cI:(⟨ah,ai,5,1,(be 2 key ++ (be 2 v) ++ (be 4 (IntKind.i64.wrap num)) ++ (be 2 ((id.length:Nat):Int)) ++ id).length + body.length,bc (be 2 key ++ (be 2 v) ++ (be 4 (IntKind.i64.wrap num)) ++ (be 2 ((id.length:Nat):Int)) ++ id) ++ bc body⟩:Rw) = brow ah ai 5 (be 2 key ++ (be 2 v) ++ (be 4 (IntKind.i64.wrap num)) ++ (be 2 ((id.length:Nat):Int)) ++ id ++ body):=qa2 (rfl) rfl
  obtain ⟨bi,eX⟩:=cG.rowEq 0 [brow ah ai 5 (be 2 key ++ (be 2 v) ++ (be 4 (IntKind.i64.wrap num)) ++ (be 2 ((id.length:Nat):Int)) ++ id ++ body),brow az aA 5 (be 2 v),brow aC aD 5 (be 4 (IntKind.i64.wrap num)),brow aY aZ 5 (be 2 ((id.length:Nat):Int))] cI
  have cJ:=EnvOk.pick cH (ks:=[41,42,43]) (env':=[(41,.v (.slice aQ ((be 2 key ++ (be 2 v) ++ (be 4 (IntKind.i64.wrap num)) ++ (be 2 ((id.length:Nat):Int)) ++ id).length) aR)),(42,.v (.slice A2 body.length c2)),(43,.v (.slice ah ((be 2 key ++ (be 2 v) ++ (be 4 (IntKind.i64.wrap num)) ++ (be 2 ((id.length:Nat):Int)) ++ id).length + body.length) ai))]) kz
  have cK:=cJ.cast (env':=[(41,.v (.slice aQ ((be 2 key ++ (be 2 v) ++ (be 4 (IntKind.i64.wrap num)) ++ (be 2 ((id.length:Nat):Int)) ++ id).length) aR)),(42,.v (.slice A2 body.length c2)),(43,.v (.slice ah ((be 2 key ++ (be 2 v) ++ (be 4 (IntKind.i64.wrap num)) ++ (be 2 ((id.length:Nat):Int)) ++ id ++ body).length) ai))]) (by simp only [List.length_append,List.length_cons,List.length_nil,Nat.zero_add])
  refine qak [3] [] [(15,.v (.slice ah ((be 2 key ++ (be 2 v) ++ (be 4 (IntKind.i64.wrap num)) ++ (be 2 ((id.length:Nat):Int)) ++ id ++ body).length) ai))] bi cK fun fZ cL=>?_
  refine qaf (qab ?_)
  refine qae [0,1,2,3,4,5] kz ?_
  refine qak [0,1] [2,3,4,5] [(15,.v (.slice ah ((be 2 key ++ (be 2 v) ++ (be 4 (IntKind.i64.wrap num)) ++ (be 2 ((id.length:Nat):Int)) ++ id ++ body).length) ai)),(45,.v (.int .i64 (((be 2 key ++ (be 2 v) ++ (be 4 (IntKind.i64.wrap num)) ++ (be 2 ((id.length:Nat):Int)) ++ id ++ body).length:Nat):Int)))] bi cL fun f5 cM=>?_
  refine qam (qal cM (f:=46) (vs:=[.int .i64 (((be 2 key ++ (be 2 v) ++ (be 4 (IntKind.i64.wrap num)) ++ (be 2 ((id.length:Nat):Int)) ++ id ++ body).length:Nat):Int),.int .i64 4]) (d:=46) kz Tryz.call46 (qcV (((be 2 key ++ (be 2 v) ++ (be 4 (IntKind.i64.wrap num)) ++ (be 2 ((id.length:Nat):Int)) ++ id ++ body).length:Nat):Int) 4 (by first | decide | exact qbb _ | omega) _) ?_)
  rintro e_ f7 ⟨bj,bk,rfl,cN,cO⟩
  refine ⟨_,rfl,fun f8 cP=>?_⟩
  obtain ⟨aT,eY⟩:=bi.frFresh cO (brow bj bk 5 (be 4 (((be 2 key ++ (be 2 v) ++ (be 4 (IntKind.i64.wrap num)) ++ (be 2 ((id.length:Nat):Int)) ++ id ++ body).length:Nat):Int))) (Nat.le_refl _) cN
  refine qak [3] [4,5] [(46,.v (.slice bj ((be 4 (((be 2 key ++ (be 2 v) ++ (be 4 (IntKind.i64.wrap num)) ++ (be 2 ((id.length:Nat):Int)) ++ id ++ body).length:Nat):Int)).length) bk)),(47,.v (.slice ah ((be 2 key ++ (be 2 v) ++ (be 4 (IntKind.i64.wrap num)) ++ (be 2 ((id.length:Nat):Int)) ++ id ++ body).length) ai))] aT cP fun f9 cQ=>?_
  refine qam (qaJ aT cQ (k:=4) (d:=48) (t:=24) (e:=5) (size:=1) (bytes:=1) (A:=bj) (As:=ah) (m0:=((be 4 (((be 2 key ++ (be 2 v) ++ (be 4 (IntKind.i64.wrap num)) ++ (be 2 ((id.length:Nat):Int)) ++ id ++ body).length:Nat):Int)).length)) (c:=bk) (m:=((be 2 key ++ (be 2 v) ++ (be 4 (IntKind.i64.wrap num)) ++ (be 2 ((id.length:Nat):Int)) ++ id ++ body).length)) (cs:=ai) (xs:=(bc (be 4 (((be 2 key ++ (be 2 v) ++ (be 4 (IntKind.i64.wrap num)) ++ (be 2 ((id.length:Nat):Int)) ++ id ++ body).length:Nat):Int)))) (news:=bc (be 2 key ++ (be 2 v) ++ (be 4 (IntKind.i64.wrap num)) ++ (be 2 ((id.length:Nat):Int)) ++ id ++ body)) kz kz rfl (qbZ (aT.own 0 _ rfl) (qcq _)) (qcc (aT.own 0 _ rfl)) (by first | omega | (simp only [List.length_append,List.length_cons,List.length_nil,be_length]; omega) | (simp; omega)) fun aK aL ga gb eZ cR cS=>?_)
  have cT:(⟨aK,aL,5,1,(be 4 (((be 2 key ++ (be 2 v) ++ (be 4 (IntKind.i64.wrap num)) ++ (be 2 ((id.length:Nat):Int)) ++ id ++ body).length:Nat):Int)).length + (be 2 key ++ (be 2 v) ++ (be 4 (IntKind.i64.wrap num)) ++ (be 2 ((id.length:Nat):Int)) ++ id ++ body).length,bc (be 4 (((be 2 key ++ (be 2 v) ++ (be 4 (IntKind.i64.wrap num)) ++ (be 2 ((id.length:Nat):Int)) ++ id ++ body).length:Nat):Int)) ++ bc (be 2 key ++ (be 2 v) ++ (be 4 (IntKind.i64.wrap num)) ++ (be 2 ((id.length:Nat):Int)) ++ id ++ body)⟩:Rw) = brow aK aL 5 (be 4 (((be 2 key ++ (be 2 v) ++ (be 4 (IntKind.i64.wrap num)) ++ (be 2 ((id.length:Nat):Int)) ++ id ++ body).length:Nat):Int) ++ (be 2 key ++ (be 2 v) ++ (be 4 (IntKind.i64.wrap num)) ++ (be 2 ((id.length:Nat):Int)) ++ id ++ body)):=qa2 (rfl) rfl
  obtain ⟨bn,e9⟩:=cR.rowEq 4 [brow ah ai 5 (be 2 key ++ (be 2 v) ++ (be 4 (IntKind.i64.wrap num)) ++ (be 2 ((id.length:Nat):Int)) ++ id ++ body),brow az aA 5 (be 2 v),brow aC aD 5 (be 4 (IntKind.i64.wrap num)),brow aY aZ 5 (be 2 ((id.length:Nat):Int)),brow aK aL 5 (be 4 (((be 2 key ++ (be 2 v) ++ (be 4 (IntKind.i64.wrap num)) ++ (be 2 ((id.length:Nat):Int)) ++ id ++ body).length:Nat):Int) ++ (be 2 key ++ (be 2 v) ++ (be 4 (IntKind.i64.wrap num)) ++ (be 2 ((id.length:Nat):Int)) ++ id ++ body))] cT
  have cU:=EnvOk.pick cS (ks:=[46,47,48]) (env':=[(46,.v (.slice bj ((be 4 (((be 2 key ++ (be 2 v) ++ (be 4 (IntKind.i64.wrap num)) ++ (be 2 ((id.length:Nat):Int)) ++ id ++ body).length:Nat):Int)).length) bk)),(47,.v (.slice ah ((be 2 key ++ (be 2 v) ++ (be 4 (IntKind.i64.wrap num)) ++ (be 2 ((id.length:Nat):Int)) ++ id ++ body).length) ai)),(48,.v (.slice aK ((be 4 (((be 2 key ++ (be 2 v) ++ (be 4 (IntKind.i64.wrap num)) ++ (be 2 ((id.length:Nat):Int)) ++ id ++ body).length:Nat):Int)).length + (be 2 key ++ (be 2 v) ++ (be 4 (IntKind.i64.wrap num)) ++ (be 2 ((id.length:Nat):Int)) ++ id ++ body).length) aL))]) kz
  have cV:=cU.cast (env':=[(46,.v (.slice bj ((be 4 (((be 2 key ++ (be 2 v) ++ (be 4 (IntKind.i64.wrap num)) ++ (be 2 ((id.length:Nat):Int)) ++ id ++ body).length:Nat):Int)).length) bk)),(47,.v (.slice ah ((be 2 key ++ (be 2 v) ++ (be 4 (IntKind.i64.wrap num)) ++ (be 2 ((id.length:Nat):Int)) ++ id ++ body).length) ai)),(48,.v (.slice aK ((be 4 (((be 2 key ++ (be 2 v) ++ (be 4 (IntKind.i64.wrap num)) ++ (be 2 ((id.length:Nat):Int)) ++ id ++ body).length:Nat):Int) ++ (be 2 key ++ (be 2 v) ++ (be 4 (IntKind.i64.wrap num)) ++ (be 2 ((id.length:Nat):Int)) ++ id ++ body)).length) aL))]) (by simp only [List.length_append,List.length_cons,List.length_nil,Nat.zero_add])
  refine qak [5] [] [(14,.v (.slice aK ((be 4 (((be 2 key ++ (be 2 v) ++ (be 4 (IntKind.i64.wrap num)) ++ (be 2 ((id.length:Nat):Int)) ++ id ++ body).length:Nat):Int) ++ (be 2 key ++ (be 2 v) ++ (be 4 (IntKind.i64.wrap num)) ++ (be 2 ((id.length:Nat):Int)) ++ id ++ body)).length) aL))] bn cV fun gc cW=>?_
  refine qaf (qab ?_)
  refine wp_ret (qaE cW bn.cells (v:=.slice aK ((be 4 (((be 2 key ++ (be 2 v) ++ (be 4 (IntKind.i64.wrap num)) ++ (be 2 ((id.length:Nat):Int)) ++ id ++ body).length:Nat):Int) ++ (be 2 key ++ (be 2 v) ++ (be 4 (IntKind.i64.wrap num)) ++ (be 2 ((id.length:Nat):Int)) ++ id ++ body)).length) aL) kz ?_)
  exact qa8 bn (k:=4) rfl (by first | (simp [qba,outB,qd4,qd5,qeq,aB,aE]; done) | (simp [qba,outB,qd4,qd5,qeq,aB,aE]; omega))
 refine qas [0,1,2,3] kz ?_
 refine qak [0] [1,2,3] [(5,.v (.bool flex)),(6,.v (.slice A2 body.length c2)),(34,.v (.slice aG ((be 2 key ++ (be 2 v) ++ (be 4 (IntKind.i64.wrap num))).length) aH))] aW bJ fun gd cX=>?_
 refine qam (qal cX (f:=46) (vs:=[.int .i64 (-1),.int .i64 2]) (d:=35) kz Tryz.call46 (qcV (-1) 2 (by first | decide | exact qbb _ | omega) _) ?_)
 rintro e_ ge ⟨av,aw,rfl,cY,cZ⟩
 refine ⟨_,rfl,fun gg c5=>?_⟩
 obtain ⟨bo,fa⟩:=aW.frFresh cZ (brow av aw 5 (be 2 (-1))) (Nat.le_refl _) cY
 refine qam (qaJ bo c5 (k:=0) (d:=36) (t:=24) (e:=5) (size:=1) (bytes:=1) (A:=aG) (As:=av) (m0:=((be 2 key ++ (be 2 v) ++ (be 4 (IntKind.i64.wrap num))).length)) (c:=aH) (m:=((be 2 (-1)).length)) (cs:=aw) (xs:=(bc (be 2 key ++ (be 2 v) ++ (be 4 (IntKind.i64.wrap num))))) (news:=bc (be 2 (-1))) kz kz rfl (qbZ (bo.own 3 _ rfl) (qcq _)) (qcc (bo.own 3 _ rfl)) (by first | omega | (simp only [List.length_append,List.length_cons,List.length_nil,be_length]; omega) | (simp; omega)) fun ac ae gh gi fb da db=>?_)
 have dc:(⟨ac,ae,5,1,(be 2 key ++ (be 2 v) ++ (be 4 (IntKind.i64.wrap num))).length + (be 2 (-1)).length,bc (be 2 key ++ (be 2 v) ++ (be 4 (IntKind.i64.wrap num))) ++ bc (be 2 (-1))⟩:Rw) = brow ac ae 5 (be 2 key ++ (be 2 v) ++ (be 4 (IntKind.i64.wrap num)) ++ (be 2 (-1))):=qa2 (rfl) rfl
 obtain ⟨ab,fe⟩:=da.rowEq 0 [brow ac ae 5 (be 2 key ++ (be 2 v) ++ (be 4 (IntKind.i64.wrap num)) ++ (be 2 (-1))),brow az aA 5 (be 2 v),brow aC aD 5 (be 4 (IntKind.i64.wrap num)),brow av aw 5 (be 2 (-1))] dc
 have de:=EnvOk.pick db (ks:=[5,6,34,35,36]) (env':=[(5,.v (.bool flex)),(6,.v (.slice A2 body.length c2)),(34,.v (.slice aG ((be 2 key ++ (be 2 v) ++ (be 4 (IntKind.i64.wrap num))).length) aH)),(35,.v (.slice av ((be 2 (-1)).length) aw)),(36,.v (.slice ac ((be 2 key ++ (be 2 v) ++ (be 4 (IntKind.i64.wrap num))).length + (be 2 (-1)).length) ae))]) kz
 have df:=de.cast (env':=[(5,.v (.bool flex)),(6,.v (.slice A2 body.length c2)),(34,.v (.slice aG ((be 2 key ++ (be 2 v) ++ (be 4 (IntKind.i64.wrap num))).length) aH)),(35,.v (.slice av ((be 2 (-1)).length) aw)),(36,.v (.slice ac ((be 2 key ++ (be 2 v) ++ (be 4 (IntKind.i64.wrap num)) ++ (be 2 (-1))).length) ae))]) (by simp only [List.length_append,List.length_cons,List.length_nil,Nat.zero_add])
 refine qak [3] [] [(5,.v (.bool flex)),(6,.v (.slice A2 body.length c2)),(15,.v (.slice ac ((be 2 key ++ (be 2 v) ++ (be 4 (IntKind.i64.wrap num)) ++ (be 2 (-1))).length) ae))] ab df fun gj dg=>?_
 refine qaf (qab ?_)
 refine wp_seq (qar [(6,.v (.slice A2 body.length c2)),(15,.v (.slice ac ((be 2 key ++ (be 2 v) ++ (be 4 (IntKind.i64.wrap num)) ++ (be 2 (-1))).length) ae)),(37,.v (.bool flex))] ab dg fun gk bp=>?_)
 refine qay bp (b:=flex) kz (fun aF=>?_) (fun aF=>?_)
 ·
  refine qas [0,1,2,3] kz ?_
  refine qak [0] [1,2,3] [(6,.v (.slice A2 body.length c2)),(38,.v (.slice ac ((be 2 key ++ (be 2 v) ++ (be 4 (IntKind.i64.wrap num)) ++ (be 2 (-1))).length) ae))] ab bp fun gl dh=>?_
  refine qbu ab dh (k:=0) (e:=5) (size:=1) (len:=1) (cs:=[.int .u8 0]) (d1:=39) (d:=40) kz (t:=24) (bytes:=1) kz (fun _=>by kernel_rfl) rfl kz (by first | omega | (simp only [List.length_append,List.length_cons,List.length_nil,be_length]; omega) | (simp; omega)) fun ax ay gm gn ff di ⟨_,dj⟩=>?_
  have dl:(⟨ax,ay,5,1,(be 2 key ++ (be 2 v) ++ (be 4 (IntKind.i64.wrap num)) ++ (be 2 (-1))).length + 1,bc (be 2 key ++ (be 2 v) ++ (be 4 (IntKind.i64.wrap num)) ++ (be 2 (-1))) ++ [.int .u8 0]⟩:Rw) = brow ax ay 5 (be 2 key ++ (be 2 v) ++ (be 4 (IntKind.i64.wrap num)) ++ (be 2 (-1)) ++ [by8 0]):=qa2 (by simp only [bc,List.map,qbE]; try rfl) rfl
  obtain ⟨ap,fg⟩:=di.rowEq 0 [brow ax ay 5 (be 2 key ++ (be 2 v) ++ (be 4 (IntKind.i64.wrap num)) ++ (be 2 (-1)) ++ [by8 0]),brow az aA 5 (be 2 v),brow aC aD 5 (be 4 (IntKind.i64.wrap num)),brow av aw 5 (be 2 (-1))] dl
  have dp:=EnvOk.pick dj (ks:=[6,38,40]) (env':=[(6,.v (.slice A2 body.length c2)),(38,.v (.slice ac ((be 2 key ++ (be 2 v) ++ (be 4 (IntKind.i64.wrap num)) ++ (be 2 (-1))).length) ae)),(40,.v (.slice ax ((be 2 key ++ (be 2 v) ++ (be 4 (IntKind.i64.wrap num)) ++ (be 2 (-1))).length + 1) ay))]) kz
  have dq:=dp.cast (env':=[(6,.v (.slice A2 body.length c2)),(38,.v (.slice ac ((be 2 key ++ (be 2 v) ++ (be 4 (IntKind.i64.wrap num)) ++ (be 2 (-1))).length) ae)),(40,.v (.slice ax ((be 2 key ++ (be 2 v) ++ (be 4 (IntKind.i64.wrap num)) ++ (be 2 (-1)) ++ [by8 0]).length) ay))]) (by simp only [List.length_append,List.length_cons,List.length_nil,Nat.zero_add])
  refine qak [3] [] [(6,.v (.slice A2 body.length c2)),(15,.v (.slice ax ((be 2 key ++ (be 2 v) ++ (be 4 (IntKind.i64.wrap num)) ++ (be 2 (-1)) ++ [by8 0]).length) ay))] ap dq fun gp dr=>?_
  refine qaf (qab ?_)
  refine qae [0,1,2,3] kz ?_
  refine qak [0,1] [2,3] [(41,.v (.slice ax ((be 2 key ++ (be 2 v) ++ (be 4 (IntKind.i64.wrap num)) ++ (be 2 (-1)) ++ [by8 0]).length) ay)),(42,.v (.slice A2 body.length c2))] ap dr fun gq dt=>?_
  refine qam (qaJ ap dt (k:=0) (d:=43) (t:=24) (e:=5) (size:=1) (bytes:=1) (A:=ax) (As:=A2) (m0:=((be 2 key ++ (be 2 v) ++ (be 4 (IntKind.i64.wrap num)) ++ (be 2 (-1)) ++ [by8 0]).length)) (c:=ay) (m:=body.length) (cs:=c2) (xs:=(bc (be 2 key ++ (be 2 v) ++ (be 4 (IntKind.i64.wrap num)) ++ (be 2 (-1)) ++ [by8 0]))) (news:=bc body) kz kz rfl (h2.move ap.step nilM ap.imm).src (h2.move ap.step nilM ap.imm).cap (by first | omega | (simp only [List.length_append,List.length_cons,List.length_nil,be_length]; omega) | (simp; omega)) fun aj ak gt gv fh du dv=>?_)
  have dw:(⟨aj,ak,5,1,(be 2 key ++ (be 2 v) ++ (be 4 (IntKind.i64.wrap num)) ++ (be 2 (-1)) ++ [by8 0]).length + body.length,bc (be 2 key ++ (be 2 v) ++ (be 4 (IntKind.i64.wrap num)) ++ (be 2 (-1)) ++ [by8 0]) ++ bc body⟩:Rw) = brow aj ak 5 (be 2 key ++ (be 2 v) ++ (be 4 (IntKind.i64.wrap num)) ++ (be 2 (-1)) ++ [by8 0] ++ body):=qa2 (rfl) rfl
  obtain ⟨bq,fi⟩:=du.rowEq 0 [brow aj ak 5 (be 2 key ++ (be 2 v) ++ (be 4 (IntKind.i64.wrap num)) ++ (be 2 (-1)) ++ [by8 0] ++ body),brow az aA 5 (be 2 v),brow aC aD 5 (be 4 (IntKind.i64.wrap num)),brow av aw 5 (be 2 (-1))] dw
  have dx:=EnvOk.pick dv (ks:=[41,42,43]) (env':=[(41,.v (.slice ax ((be 2 key ++ (be 2 v) ++ (be 4 (IntKind.i64.wrap num)) ++ (be 2 (-1)) ++ [by8 0]).length) ay)),(42,.v (.slice A2 body.length c2)),(43,.v (.slice aj ((be 2 key ++ (be 2 v) ++ (be 4 (IntKind.i64.wrap num)) ++ (be 2 (-1)) ++ [by8 0]).length + body.length) ak))]) kz
  have dy:=dx.cast (env':=[(41,.v (.slice ax ((be 2 key ++ (be 2 v) ++ (be 4 (IntKind.i64.wrap num)) ++ (be 2 (-1)) ++ [by8 0]).length) ay)),(42,.v (.slice A2 body.length c2)),(43,.v (.slice aj ((be 2 key ++ (be 2 v) ++ (be 4 (IntKind.i64.wrap num)) ++ (be 2 (-1)) ++ [by8 0] ++ body).length) ak))]) (by simp only [List.length_append,List.length_cons,List.length_nil,Nat.zero_add])
  refine qak [3] [] [(15,.v (.slice aj ((be 2 key ++ (be 2 v) ++ (be 4 (IntKind.i64.wrap num)) ++ (be 2 (-1)) ++ [by8 0] ++ body).length) ak))] bq dy fun gw dz=>?_
  refine qaf (qab ?_)
  refine qae [0,1,2,3,4,5] kz ?_
  refine qak [0,1] [2,3,4,5] [(15,.v (.slice aj ((be 2 key ++ (be 2 v) ++ (be 4 (IntKind.i64.wrap num)) ++ (be 2 (-1)) ++ [by8 0] ++ body).length) ak)),(45,.v (.int .i64 (((be 2 key ++ (be 2 v) ++ (be 4 (IntKind.i64.wrap num)) ++ (be 2 (-1)) ++ [by8 0] ++ body).length:Nat):Int)))] bq dz fun gx dA=>?_
  refine qam (qal dA (f:=46) (vs:=[.int .i64 (((be 2 key ++ (be 2 v) ++ (be 4 (IntKind.i64.wrap num)) ++ (be 2 (-1)) ++ [by8 0] ++ body).length:Nat):Int),.int .i64 4]) (d:=46) kz Tryz.call46 (qcV (((be 2 key ++ (be 2 v) ++ (be 4 (IntKind.i64.wrap num)) ++ (be 2 (-1)) ++ [by8 0] ++ body).length:Nat):Int) 4 (by first | decide | exact qbb _ | omega) _) ?_)
  rintro e_ gy ⟨bt,bu,rfl,dB,dC⟩
  refine ⟨_,rfl,fun gz dD=>?_⟩
  obtain ⟨aU,fj⟩:=bq.frFresh dC (brow bt bu 5 (be 4 (((be 2 key ++ (be 2 v) ++ (be 4 (IntKind.i64.wrap num)) ++ (be 2 (-1)) ++ [by8 0] ++ body).length:Nat):Int))) (Nat.le_refl _) dB
  refine qak [3] [4,5] [(46,.v (.slice bt ((be 4 (((be 2 key ++ (be 2 v) ++ (be 4 (IntKind.i64.wrap num)) ++ (be 2 (-1)) ++ [by8 0] ++ body).length:Nat):Int)).length) bu)),(47,.v (.slice aj ((be 2 key ++ (be 2 v) ++ (be 4 (IntKind.i64.wrap num)) ++ (be 2 (-1)) ++ [by8 0] ++ body).length) ak))] aU dD fun gA dE=>?_
  refine qam (qaJ aU dE (k:=4) (d:=48) (t:=24) (e:=5) (size:=1) (bytes:=1) (A:=bt) (As:=aj) (m0:=((be 4 (((be 2 key ++ (be 2 v) ++ (be 4 (IntKind.i64.wrap num)) ++ (be 2 (-1)) ++ [by8 0] ++ body).length:Nat):Int)).length)) (c:=bu) (m:=((be 2 key ++ (be 2 v) ++ (be 4 (IntKind.i64.wrap num)) ++ (be 2 (-1)) ++ [by8 0] ++ body).length)) (cs:=ak) (xs:=(bc (be 4 (((be 2 key ++ (be 2 v) ++ (be 4 (IntKind.i64.wrap num)) ++ (be 2 (-1)) ++ [by8 0] ++ body).length:Nat):Int)))) (news:=bc (be 2 key ++ (be 2 v) ++ (be 4 (IntKind.i64.wrap num)) ++ (be 2 (-1)) ++ [by8 0] ++ body)) kz kz rfl (qbZ (aU.own 0 _ rfl) (qcq _)) (qcc (aU.own 0 _ rfl)) (by first | omega | (simp only [List.length_append,List.length_cons,List.length_nil,be_length]; omega) | (simp; omega)) fun aM aN gB gC fk dF dG=>?_)
  have dH:(⟨aM,aN,5,1,(be 4 (((be 2 key ++ (be 2 v) ++ (be 4 (IntKind.i64.wrap num)) ++ (be 2 (-1)) ++ [by8 0] ++ body).length:Nat):Int)).length + (be 2 key ++ (be 2 v) ++ (be 4 (IntKind.i64.wrap num)) ++ (be 2 (-1)) ++ [by8 0] ++ body).length,bc (be 4 (((be 2 key ++ (be 2 v) ++ (be 4 (IntKind.i64.wrap num)) ++ (be 2 (-1)) ++ [by8 0] ++ body).length:Nat):Int)) ++ bc (be 2 key ++ (be 2 v) ++ (be 4 (IntKind.i64.wrap num)) ++ (be 2 (-1)) ++ [by8 0] ++ body)⟩:Rw) = brow aM aN 5 (be 4 (((be 2 key ++ (be 2 v) ++ (be 4 (IntKind.i64.wrap num)) ++ (be 2 (-1)) ++ [by8 0] ++ body).length:Nat):Int) ++ (be 2 key ++ (be 2 v) ++ (be 4 (IntKind.i64.wrap num)) ++ (be 2 (-1)) ++ [by8 0] ++ body)):=qa2 (rfl) rfl
  obtain ⟨bw,fl⟩:=dF.rowEq 4 [brow aj ak 5 (be 2 key ++ (be 2 v) ++ (be 4 (IntKind.i64.wrap num)) ++ (be 2 (-1)) ++ [by8 0] ++ body),brow az aA 5 (be 2 v),brow aC aD 5 (be 4 (IntKind.i64.wrap num)),brow av aw 5 (be 2 (-1)),brow aM aN 5 (be 4 (((be 2 key ++ (be 2 v) ++ (be 4 (IntKind.i64.wrap num)) ++ (be 2 (-1)) ++ [by8 0] ++ body).length:Nat):Int) ++ (be 2 key ++ (be 2 v) ++ (be 4 (IntKind.i64.wrap num)) ++ (be 2 (-1)) ++ [by8 0] ++ body))] dH
  have dI:=EnvOk.pick dG (ks:=[46,47,48]) (env':=[(46,.v (.slice bt ((be 4 (((be 2 key ++ (be 2 v) ++ (be 4 (IntKind.i64.wrap num)) ++ (be 2 (-1)) ++ [by8 0] ++ body).length:Nat):Int)).length) bu)),(47,.v (.slice aj ((be 2 key ++ (be 2 v) ++ (be 4 (IntKind.i64.wrap num)) ++ (be 2 (-1)) ++ [by8 0] ++ body).length) ak)),(48,.v (.slice aM ((be 4 (((be 2 key ++ (be 2 v) ++ (be 4 (IntKind.i64.wrap num)) ++ (be 2 (-1)) ++ [by8 0] ++ body).length:Nat):Int)).length + (be 2 key ++ (be 2 v) ++ (be 4 (IntKind.i64.wrap num)) ++ (be 2 (-1)) ++ [by8 0] ++ body).length) aN))]) kz
  have dJ:=dI.cast (env':=[(46,.v (.slice bt ((be 4 (((be 2 key ++ (be 2 v) ++ (be 4 (IntKind.i64.wrap num)) ++ (be 2 (-1)) ++ [by8 0] ++ body).length:Nat):Int)).length) bu)),(47,.v (.slice aj ((be 2 key ++ (be 2 v) ++ (be 4 (IntKind.i64.wrap num)) ++ (be 2 (-1)) ++ [by8 0] ++ body).length) ak)),(48,.v (.slice aM ((be 4 (((be 2 key ++ (be 2 v) ++ (be 4 (IntKind.i64.wrap num)) ++ (be 2 (-1)) ++ [by8 0] ++ body).length:Nat):Int) ++ (be 2 key ++ (be 2 v) ++ (be 4 (IntKind.i64.wrap num)) ++ (be 2 (-1)) ++ [by8 0] ++ body)).length) aN))]) (by simp only [List.length_append,List.length_cons,List.length_nil,Nat.zero_add])
  refine qak [5] [] [(14,.v (.slice aM ((be 4 (((be 2 key ++ (be 2 v) ++ (be 4 (IntKind.i64.wrap num)) ++ (be 2 (-1)) ++ [by8 0] ++ body).length:Nat):Int) ++ (be 2 key ++ (be 2 v) ++ (be 4 (IntKind.i64.wrap num)) ++ (be 2 (-1)) ++ [by8 0] ++ body)).length) aN))] bw dJ fun gD dK=>?_
  refine qaf (qab ?_)
  refine wp_ret (qaE dK bw.cells (v:=.slice aM ((be 4 (((be 2 key ++ (be 2 v) ++ (be 4 (IntKind.i64.wrap num)) ++ (be 2 (-1)) ++ [by8 0] ++ body).length:Nat):Int) ++ (be 2 key ++ (be 2 v) ++ (be 4 (IntKind.i64.wrap num)) ++ (be 2 (-1)) ++ [by8 0] ++ body)).length) aN) kz ?_)
  exact qa8 bw (k:=4) rfl (by first | (simp [qba,outB,qd4,qd5,qeq,aB,aF]; done) | (simp [qba,outB,qd4,qd5,qeq,aB,aF]; omega))
 refine wp_skip (qab (qae [0,1,2,3] kz ?_))
 refine qak [0,1] [2,3] [(41,.v (.slice ac ((be 2 key ++ (be 2 v) ++ (be 4 (IntKind.i64.wrap num)) ++ (be 2 (-1))).length) ae)),(42,.v (.slice A2 body.length c2))] ab bp fun gE dL=>?_
 refine qam (qaJ ab dL (k:=0) (d:=43) (t:=24) (e:=5) (size:=1) (bytes:=1) (A:=ac) (As:=A2) (m0:=((be 2 key ++ (be 2 v) ++ (be 4 (IntKind.i64.wrap num)) ++ (be 2 (-1))).length)) (c:=ae) (m:=body.length) (cs:=c2) (xs:=(bc (be 2 key ++ (be 2 v) ++ (be 4 (IntKind.i64.wrap num)) ++ (be 2 (-1))))) (news:=bc body) kz kz rfl (h2.move ab.step nilM ab.imm).src (h2.move ab.step nilM ab.imm).cap (by first | omega | (simp only [List.length_append,List.length_cons,List.length_nil,be_length]; omega) | (simp; omega)) fun al am gF gG fm dM dN=>?_)
 have dO:(⟨al,am,5,1,(be 2 key ++ (be 2 v) ++ (be 4 (IntKind.i64.wrap num)) ++ (be 2 (-1))).length + body.length,bc (be 2 key ++ (be 2 v) ++ (be 4 (IntKind.i64.wrap num)) ++ (be 2 (-1))) ++ bc body⟩:Rw) = brow al am 5 (be 2 key ++ (be 2 v) ++ (be 4 (IntKind.i64.wrap num)) ++ (be 2 (-1)) ++ body):=qa2 (rfl) rfl
 obtain ⟨bx,fo⟩:=dM.rowEq 0 [brow al am 5 (be 2 key ++ (be 2 v) ++ (be 4 (IntKind.i64.wrap num)) ++ (be 2 (-1)) ++ body),brow az aA 5 (be 2 v),brow aC aD 5 (be 4 (IntKind.i64.wrap num)),brow av aw 5 (be 2 (-1))] dO
 have dP:=EnvOk.pick dN (ks:=[41,42,43]) (env':=[(41,.v (.slice ac ((be 2 key ++ (be 2 v) ++ (be 4 (IntKind.i64.wrap num)) ++ (be 2 (-1))).length) ae)),(42,.v (.slice A2 body.length c2)),(43,.v (.slice al ((be 2 key ++ (be 2 v) ++ (be 4 (IntKind.i64.wrap num)) ++ (be 2 (-1))).length + body.length) am))]) kz
 have dQ:=dP.cast (env':=[(41,.v (.slice ac ((be 2 key ++ (be 2 v) ++ (be 4 (IntKind.i64.wrap num)) ++ (be 2 (-1))).length) ae)),(42,.v (.slice A2 body.length c2)),(43,.v (.slice al ((be 2 key ++ (be 2 v) ++ (be 4 (IntKind.i64.wrap num)) ++ (be 2 (-1)) ++ body).length) am))]) (by simp only [List.length_append,List.length_cons,List.length_nil,Nat.zero_add])
 refine qak [3] [] [(15,.v (.slice al ((be 2 key ++ (be 2 v) ++ (be 4 (IntKind.i64.wrap num)) ++ (be 2 (-1)) ++ body).length) am))] bx dQ fun gH dR=>?_
 refine qaf (qab ?_)
 refine qae [0,1,2,3,4,5] kz ?_
 refine qak [0,1] [2,3,4,5] [(15,.v (.slice al ((be 2 key ++ (be 2 v) ++ (be 4 (IntKind.i64.wrap num)) ++ (be 2 (-1)) ++ body).length) am)),(45,.v (.int .i64 (((be 2 key ++ (be 2 v) ++ (be 4 (IntKind.i64.wrap num)) ++ (be 2 (-1)) ++ body).length:Nat):Int)))] bx dR fun gI dS=>?_
 refine qam (qal dS (f:=46) (vs:=[.int .i64 (((be 2 key ++ (be 2 v) ++ (be 4 (IntKind.i64.wrap num)) ++ (be 2 (-1)) ++ body).length:Nat):Int),.int .i64 4]) (d:=46) kz Tryz.call46 (qcV (((be 2 key ++ (be 2 v) ++ (be 4 (IntKind.i64.wrap num)) ++ (be 2 (-1)) ++ body).length:Nat):Int) 4 (by first | decide | exact qbb _ | omega) _) ?_)
 rintro e_ gJ ⟨bz,bA,rfl,dT,dU⟩
 refine ⟨_,rfl,fun gK dV=>?_⟩
 obtain ⟨aV,fq⟩:=bx.frFresh dU (brow bz bA 5 (be 4 (((be 2 key ++ (be 2 v) ++ (be 4 (IntKind.i64.wrap num)) ++ (be 2 (-1)) ++ body).length:Nat):Int))) (Nat.le_refl _) dT
 refine qak [3] [4,5] [(46,.v (.slice bz ((be 4 (((be 2 key ++ (be 2 v) ++ (be 4 (IntKind.i64.wrap num)) ++ (be 2 (-1)) ++ body).length:Nat):Int)).length) bA)),(47,.v (.slice al ((be 2 key ++ (be 2 v) ++ (be 4 (IntKind.i64.wrap num)) ++ (be 2 (-1)) ++ body).length) am))] aV dV fun gL dW=>?_
 refine qam (qaJ aV dW (k:=4) (d:=48) (t:=24) (e:=5) (size:=1) (bytes:=1) (A:=bz) (As:=al) (m0:=((be 4 (((be 2 key ++ (be 2 v) ++ (be 4 (IntKind.i64.wrap num)) ++ (be 2 (-1)) ++ body).length:Nat):Int)).length)) (c:=bA) (m:=((be 2 key ++ (be 2 v) ++ (be 4 (IntKind.i64.wrap num)) ++ (be 2 (-1)) ++ body).length)) (cs:=am) (xs:=(bc (be 4 (((be 2 key ++ (be 2 v) ++ (be 4 (IntKind.i64.wrap num)) ++ (be 2 (-1)) ++ body).length:Nat):Int)))) (news:=bc (be 2 key ++ (be 2 v) ++ (be 4 (IntKind.i64.wrap num)) ++ (be 2 (-1)) ++ body)) kz kz rfl (qbZ (aV.own 0 _ rfl) (qcq _)) (qcc (aV.own 0 _ rfl)) (by first | omega | (simp only [List.length_append,List.length_cons,List.length_nil,be_length]; omega) | (simp; omega)) fun aO aP gM gN fr dX dY=>?_)
 have dZ:(⟨aO,aP,5,1,(be 4 (((be 2 key ++ (be 2 v) ++ (be 4 (IntKind.i64.wrap num)) ++ (be 2 (-1)) ++ body).length:Nat):Int)).length + (be 2 key ++ (be 2 v) ++ (be 4 (IntKind.i64.wrap num)) ++ (be 2 (-1)) ++ body).length,bc (be 4 (((be 2 key ++ (be 2 v) ++ (be 4 (IntKind.i64.wrap num)) ++ (be 2 (-1)) ++ body).length:Nat):Int)) ++ bc (be 2 key ++ (be 2 v) ++ (be 4 (IntKind.i64.wrap num)) ++ (be 2 (-1)) ++ body)⟩:Rw) = brow aO aP 5 (be 4 (((be 2 key ++ (be 2 v) ++ (be 4 (IntKind.i64.wrap num)) ++ (be 2 (-1)) ++ body).length:Nat):Int) ++ (be 2 key ++ (be 2 v) ++ (be 4 (IntKind.i64.wrap num)) ++ (be 2 (-1)) ++ body)):=qa2 (rfl) rfl
 obtain ⟨bB,ft⟩:=dX.rowEq 4 [brow al am 5 (be 2 key ++ (be 2 v) ++ (be 4 (IntKind.i64.wrap num)) ++ (be 2 (-1)) ++ body),brow az aA 5 (be 2 v),brow aC aD 5 (be 4 (IntKind.i64.wrap num)),brow av aw 5 (be 2 (-1)),brow aO aP 5 (be 4 (((be 2 key ++ (be 2 v) ++ (be 4 (IntKind.i64.wrap num)) ++ (be 2 (-1)) ++ body).length:Nat):Int) ++ (be 2 key ++ (be 2 v) ++ (be 4 (IntKind.i64.wrap num)) ++ (be 2 (-1)) ++ body))] dZ
 have d5:=EnvOk.pick dY (ks:=[46,47,48]) (env':=[(46,.v (.slice bz ((be 4 (((be 2 key ++ (be 2 v) ++ (be 4 (IntKind.i64.wrap num)) ++ (be 2 (-1)) ++ body).length:Nat):Int)).length) bA)),(47,.v (.slice al ((be 2 key ++ (be 2 v) ++ (be 4 (IntKind.i64.wrap num)) ++ (be 2 (-1)) ++ body).length) am)),(48,.v (.slice aO ((be 4 (((be 2 key ++ (be 2 v) ++ (be 4 (IntKind.i64.wrap num)) ++ (be 2 (-1)) ++ body).length:Nat):Int)).length + (be 2 key ++ (be 2 v) ++ (be 4 (IntKind.i64.wrap num)) ++ (be 2 (-1)) ++ body).length) aP))]) kz
 have d6:=d5.cast (env':=[(46,.v (.slice bz ((be 4 (((be 2 key ++ (be 2 v) ++ (be 4 (IntKind.i64.wrap num)) ++ (be 2 (-1)) ++ body).length:Nat):Int)).length) bA)),(47,.v (.slice al ((be 2 key ++ (be 2 v) ++ (be 4 (IntKind.i64.wrap num)) ++ (be 2 (-1)) ++ body).length) am)),(48,.v (.slice aO ((be 4 (((be 2 key ++ (be 2 v) ++ (be 4 (IntKind.i64.wrap num)) ++ (be 2 (-1)) ++ body).length:Nat):Int) ++ (be 2 key ++ (be 2 v) ++ (be 4 (IntKind.i64.wrap num)) ++ (be 2 (-1)) ++ body)).length) aP))]) (by simp only [List.length_append,List.length_cons,List.length_nil,Nat.zero_add])
 refine qak [5] [] [(14,.v (.slice aO ((be 4 (((be 2 key ++ (be 2 v) ++ (be 4 (IntKind.i64.wrap num)) ++ (be 2 (-1)) ++ body).length:Nat):Int) ++ (be 2 key ++ (be 2 v) ++ (be 4 (IntKind.i64.wrap num)) ++ (be 2 (-1)) ++ body)).length) aP))] bB d6 fun gO d7=>?_
 refine qaf (qab ?_)
 refine wp_ret (qaE d7 bB.cells (v:=.slice aO ((be 4 (((be 2 key ++ (be 2 v) ++ (be 4 (IntKind.i64.wrap num)) ++ (be 2 (-1)) ++ body).length:Nat):Int) ++ (be 2 key ++ (be 2 v) ++ (be 4 (IntKind.i64.wrap num)) ++ (be 2 (-1)) ++ body)).length) aP) kz ?_)
 exact qa8 bB (k:=4) rfl (by first | (simp [qba,outB,qd4,qd5,qeq,aB,aF]; done) | (simp [qba,outB,qd4,qd5,qeq,aB,aF]; omega))
theorem qmy (has:Bool) (txt:ByteArray) (h:txt.size ≤ 1048576) (w:World):Calls Tryz.prog 10 #[.agg #[.bool has,.string txt]] w (qcF w (.bool true)):=by
 refine enter (n:=7) Tryz.func10 rfl Tryz.ntmps10 kz fun a hE=>?_
 have hW:=WOk.start w Nil
 refine qae [0,1] kz ?_
 refine qam (qbk hW hE (d:=1) (cs:=[.bool has,.string txt]) kz fun b1 a2 w3 hb4 hz5 hF6 hW7 hE8=>?_)
 refine qak [1] [] [(1,.p 0 0)] hW7 hE8 fun a9 ab=>?_
 refine qaf (qab ?_)
 refine wp_seq (qar [(6,.v (.bool (decide ((txt.size:Int) > 2147483647))))] hW7 ab fun ae aa=>?_)
 refine qau aa (b:=decide ((txt.size:Int) > 2147483647)) kz (decide_eq_false (by omega)) ?_
 refine wp_skip (qab (qar [(2,.v (.bool true))] hW7 aa fun af ac=>?_))
 refine wp_ret (qaE ac hW7.cells (v:=.bool true) kz ?_)
 exact ⟨rfl,hW7.step⟩
end Go.Proofs.YtogokkkdfcgncaaGreatDoor.ME