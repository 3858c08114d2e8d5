/- The texts of a claim, put together: the engine, the contracts, the law. Own work. -/
import Derived.Test.YtmpejmiiphddhaaDoorRWu0P0
import Derived.Test.YtmpejmiiphddhaaDoorRProg
import Derived.ScopeJumps
import Derived.Lib.ConvBytes
namespace Go.Proofs.YtmpejmiiphddhaaDoorR.ME
open Go
open Go.RowKit
set_option linter.unusedVariables false
set_option linter.unusedSimpArgs false
set_option maxRecDepth 20000
theorem qfP {A:Option Addr} {c:Nat} (s:Bs) {w:World} {F:Nat → Nat → Prop} (ho:Octs w F A c s) (hl:4 ≤ s.length) :
  Calls Tryd.prog 67 #[.agg #[],.slice A s.length c] w (qbv w (.int .u32 (be32 s))):=by
 refine enter (n:=30) Tryd.func67 rfl Tryd.ntmps67 kz fun a hE=>?_
 have hW:=WOk.start w Nil
 have ob0:=qaG s 0
 have ob1:=qaG s 1
 have ob2:=qaG s 2
 have ob3:=qaG s 3
 refine qac [0,1] kz ?_
 refine qag (qb2 hW hE (d:=2) (cs:=[]) kz fun b1 a2 w3 hb4 hz5 hF6 hW7 hE8=>?_)
 refine qai [1] [] [(1,.v (.slice A s.length c))] hW7 hE8 fun a9 ah=>?_
 refine qad (qab ?_)
 refine qac [0,1,2] kz ?_
 refine qai [0] [1,2] [(1,.v (.slice A s.length c)),(5,.v (.slice A s.length c))] hW7 ah fun aT ai=>?_
 obtain ⟨aF,aG,ac,aH,ab⟩:=Slots.get ho (i:=3) (by omega)
 refine qag (qak ai (t:=22) (A:=A) (m:=s.length) (q:=3) (d:=6) kz (e:=5) (size:=1) (bytes:=1) (j:=3) kz ac rfl (by omega) fun aU aj=>?_)
 refine qag (qal aj (t:=5) (b:=aF) (o:=aG + 3 * 1) (d:=7) kz (cs:=[.int .u8 ((s.getD 3 0).toNat:Int)]) (v:=.int .u8 ((s.getD 3 0).toNat:Int)) kz (AtF.move ab hW7.step nilM qat).at_ fun aV ak=>?_)
 refine qad (qab ?_)
 refine qbz kz hW7 fun aW aI aa=>?_
 refine qaF [0,4,10,16] [(8,.v (.slice A s.length c)),(12,.v (.slice A s.length c)),(18,.v (.slice A s.length c)),(24,.v (.slice A s.length c))] 19 (qaa qaf) (fun _ h=>h ▸ aa.cells) rfl ak fun aX al=>?_
 refine qax al (i:=1) (t:=22) (A:=A) (m:=s.length) (q:=3) (d:=9) kz (e:=5) (size:=1) (bytes:=1) (j:=3) kz ac rfl (by omega) kz kz (qaa qaf) rfl fun aY am=>?_
 refine qaz am (i:=2) (t:=5) (b:=aF) (o:=aG + 3 * 1) (d:=10) kz (cs:=[.int .u8 ((s.getD 3 0).toNat:Int)]) (v:=.int .u8 ((s.getD 3 0).toNat:Int)) kz (fun w' h'=>h' ▸ (AtF.move ab aa.step nilM qat).at_) kz kz (qaa qaf) rfl fun aZ ao=>?_
 refine qaF [3] [(11,.v (.int .u32 (IntKind.u32.wrap ((s.getD 3 0).toNat:Int)))),(12,.v (.slice A s.length c)),(18,.v (.slice A s.length c)),(24,.v (.slice A s.length c))] 16 (qaa qaf) (fun _ h=>h ▸ aa.cells) rfl ao fun ba ap=>?_
 obtain ⟨aJ,aK,ar,aL,ae⟩:=Slots.get ho (i:=2) (by omega)
 refine qax ap (i:=5) (t:=22) (A:=A) (m:=s.length) (q:=2) (d:=13) kz (e:=5) (size:=1) (bytes:=1) (j:=2) kz ar rfl (by omega) kz kz (qaa qaf) rfl fun bf au=>?_
 refine qaz au (i:=6) (t:=5) (b:=aJ) (o:=aK + 2 * 1) (d:=14) kz (cs:=[.int .u8 ((s.getD 2 0).toNat:Int)]) (v:=.int .u8 ((s.getD 2 0).toNat:Int)) kz (fun w' h'=>h' ▸ (AtF.move ae aa.step nilM qat).at_) kz kz (qaa qaf) rfl fun bg av=>?_
 refine qaF [7,8,9] [(17,.v (.int .u32 (IntKind.u32.wrap (BitVec.ofInt 32 (IntKind.u32.wrap ((s.getD 3 0).toNat:Int)) ||| BitVec.ofInt 32 (IntKind.u32.wrap ((IntKind.u32.wrap ((s.getD 2 0).toNat:Int)) * 256))).toNat))),(18,.v (.slice A s.length c)),(24,.v (.slice A s.length c))] 11 (qaa qaf) (fun _ h=>h ▸ aa.cells) rfl av fun bh aw=>?_
 obtain ⟨aM,aO,ax,aP,af⟩:=Slots.get ho (i:=1) (by omega)
 refine qax aw (i:=11) (t:=22) (A:=A) (m:=s.length) (q:=1) (d:=19) kz (e:=5) (size:=1) (bytes:=1) (j:=1) kz ax rfl (by omega) kz kz (qaa qaf) rfl fun bi ay=>?_
 refine qaz ay (i:=12) (t:=5) (b:=aM) (o:=aO + 1 * 1) (d:=20) kz (cs:=[.int .u8 ((s.getD 1 0).toNat:Int)]) (v:=.int .u8 ((s.getD 1 0).toNat:Int)) kz (fun w' h'=>h' ▸ (AtF.move af aa.step nilM qat).at_) kz kz (qaa qaf) rfl fun bj az=>?_
 refine qaF [13,14,15] [(23,.v (.int .u32 (IntKind.u32.wrap (BitVec.ofInt 32 (IntKind.u32.wrap (BitVec.ofInt 32 (IntKind.u32.wrap ((s.getD 3 0).toNat:Int)) ||| BitVec.ofInt 32 (IntKind.u32.wrap ((IntKind.u32.wrap ((s.getD 2 0).toNat:Int)) * 256))).toNat) ||| BitVec.ofInt 32 (IntKind.u32.wrap ((IntKind.u32.wrap ((s.getD 1 0).toNat:Int)) * 65536))).toNat))),(24,.v (.slice A s.length c))] 6 (qaa qaf) (fun _ h=>h ▸ aa.cells) rfl az fun bk aA=>?_
 obtain ⟨aQ,aR,aB,aS,ag⟩:=Slots.get ho (i:=0) (by omega)
 refine qax aA (i:=17) (t:=22) (A:=A) (m:=s.length) (q:=0) (d:=25) kz (e:=5) (size:=1) (bytes:=1) (j:=0) kz aB rfl (by omega) kz kz (qaa qaf) rfl fun bn aC=>?_
 refine qaz aC (i:=18) (t:=5) (b:=aQ) (o:=aR + 0 * 1) (d:=26) kz (cs:=[.int .u8 ((s.getD 0 0).toNat:Int)]) (v:=.int .u8 ((s.getD 0 0).toNat:Int)) kz (fun w' h'=>h' ▸ (AtF.move ag aa.step nilM qat).at_) kz kz (qaa qaf) rfl fun bo aD=>?_
 refine qaF [19,20,21,22] [(4,.v (.int .u32 (IntKind.u32.wrap (BitVec.ofInt 32 (IntKind.u32.wrap (BitVec.ofInt 32 (IntKind.u32.wrap (BitVec.ofInt 32 (IntKind.u32.wrap ((s.getD 3 0).toNat:Int)) ||| BitVec.ofInt 32 (IntKind.u32.wrap ((IntKind.u32.wrap ((s.getD 2 0).toNat:Int)) * 256))).toNat) ||| BitVec.ofInt 32 (IntKind.u32.wrap ((IntKind.u32.wrap ((s.getD 1 0).toNat:Int)) * 65536))).toNat) ||| BitVec.ofInt 32 (IntKind.u32.wrap ((IntKind.u32.wrap ((s.getD 0 0).toNat:Int)) * 16777216))).toNat)))] 0 (qaa qaf) (fun _ h=>h ▸ aa.cells) rfl aD fun bp aE=>?_
 refine qaV kz ?_ _
 refine qab ?_
 refine wp_ret ?_
 refine qaO aE aa.cells (v:=.int .u32 (IntKind.u32.wrap (BitVec.ofInt 32 (IntKind.u32.wrap (BitVec.ofInt 32 (IntKind.u32.wrap (BitVec.ofInt 32 (IntKind.u32.wrap ((s.getD 3 0).toNat:Int)) ||| BitVec.ofInt 32 (IntKind.u32.wrap ((IntKind.u32.wrap ((s.getD 2 0).toNat:Int)) * 256))).toNat) ||| BitVec.ofInt 32 (IntKind.u32.wrap ((IntKind.u32.wrap ((s.getD 1 0).toNat:Int)) * 65536))).toNat) ||| BitVec.ofInt 32 (IntKind.u32.wrap ((IntKind.u32.wrap ((s.getD 0 0).toNat:Int)) * 16777216))).toNat)) kz ?_
 exact ⟨congrArg Ending.returned (congrArg (Value.int IntKind.u32) (qfE (oc s 0) (oc s 1) (oc s 2) (oc s 3) ob0 ob1 ob2 ob3)),aa.step⟩
theorem qfQ {A:Option Addr} {c:Nat} (s:Bs) {w:World} {F:Nat → Nat → Prop} (ho:Octs w F A c s) (hl:8 ≤ s.length) :
  Calls Tryd.prog 70 #[.agg #[],.slice A s.length c] w (qbv w (.int .u64 (be64 s))):=by
 refine enter (n:=54) Tryd.func70 rfl Tryd.ntmps70 kz fun a hE=>?_
 have hW:=WOk.start w Nil
 have ob0:=qaG s 0
 have ob1:=qaG s 1
 have ob2:=qaG s 2
 have ob3:=qaG s 3
 have ob4:=qaG s 4
 have ob5:=qaG s 5
 have ob6:=qaG s 6
 have ob7:=qaG s 7
 refine qac [0,1] kz ?_
 refine qag (qb2 hW hE (d:=2) (cs:=[]) kz fun b1 a2 w3 hb4 hz5 hF6 hW7 hE8=>?_)
 refine qai [1] [] [(1,.v (.slice A s.length c))] hW7 hE8 fun a9 ar=>?_
 refine qad (qab ?_)
 refine qac [0,1,2] kz ?_
 refine qai [0] [1,2] [(1,.v (.slice A s.length c)),(5,.v (.slice A s.length c))] hW7 ar fun bM au=>?_
 obtain ⟨bf,bg,ae,bi,ab⟩:=Slots.get ho (i:=7) (by omega)
 refine qag (qak au (t:=22) (A:=A) (m:=s.length) (q:=7) (d:=6) kz (e:=5) (size:=1) (bytes:=1) (j:=7) kz ae rfl (by omega) fun bN av=>?_)
 refine qag (qal av (t:=5) (b:=bf) (o:=bg + 7 * 1) (d:=7) kz (cs:=[.int .u8 ((s.getD 7 0).toNat:Int)]) (v:=.int .u8 ((s.getD 7 0).toNat:Int)) kz (AtF.move ab hW7.step nilM qat).at_ fun bO aw=>?_)
 refine qad (qab ?_)
 refine qbz kz hW7 fun bP bj aa=>?_
 refine qaF [0,4,10,16,22,28,34,40] [(8,.v (.slice A s.length c)),(12,.v (.slice A s.length c)),(18,.v (.slice A s.length c)),(24,.v (.slice A s.length c)),(30,.v (.slice A s.length c)),(36,.v (.slice A s.length c)),(42,.v (.slice A s.length c)),(48,.v (.slice A s.length c))] 39 (qaa qaf) (fun _ h=>h ▸ aa.cells) rfl aw fun bQ ax=>?_
 refine qax ax (i:=1) (t:=22) (A:=A) (m:=s.length) (q:=7) (d:=9) kz (e:=5) (size:=1) (bytes:=1) (j:=7) kz ae rfl (by omega) kz kz (qaa qaf) rfl fun bR ay=>?_
 refine qaz ay (i:=2) (t:=5) (b:=bf) (o:=bg + 7 * 1) (d:=10) kz (cs:=[.int .u8 ((s.getD 7 0).toNat:Int)]) (v:=.int .u8 ((s.getD 7 0).toNat:Int)) kz (fun w' h'=>h' ▸ (AtF.move ab aa.step nilM qat).at_) kz kz (qaa qaf) rfl fun bS az=>?_
 refine qaF [3] [(11,.v (.int .u64 (IntKind.u64.wrap ((s.getD 7 0).toNat:Int)))),(12,.v (.slice A s.length c)),(18,.v (.slice A s.length c)),(24,.v (.slice A s.length c)),(30,.v (.slice A s.length c)),(36,.v (.slice A s.length c)),(42,.v (.slice A s.length c)),(48,.v (.slice A s.length c))] 36 (qaa qaf) (fun _ h=>h ▸ aa.cells) rfl az fun bT aA=>?_
 obtain ⟨bk,bn,aB,bo,af⟩:=Slots.get ho (i:=6) (by omega)
 refine qax aA (i:=5) (t:=22) (A:=A) (m:=s.length) (q:=6) (d:=13) kz (e:=5) (size:=1) (bytes:=1) (j:=6) kz aB rfl (by omega) kz kz (qaa qaf) rfl fun bU aC=>?_
 refine qaz aC (i:=6) (t:=5) (b:=bk) (o:=bn + 6 * 1) (d:=14) kz (cs:=[.int .u8 ((s.getD 6 0).toNat:Int)]) (v:=.int .u8 ((s.getD 6 0).toNat:Int)) kz (fun w' h'=>h' ▸ (AtF.move af aa.step nilM qat).at_) kz kz (qaa qaf) rfl fun bV aD=>?_
 refine qaF [7,8,9] [(17,.v (.int .u64 (IntKind.u64.wrap (BitVec.ofInt 64 (IntKind.u64.wrap ((s.getD 7 0).toNat:Int)) ||| BitVec.ofInt 64 (IntKind.u64.wrap ((IntKind.u64.wrap ((s.getD 6 0).toNat:Int)) * 256))).toNat))),(18,.v (.slice A s.length c)),(24,.v (.slice A s.length c)),(30,.v (.slice A s.length c)),(36,.v (.slice A s.length c)),(42,.v (.slice A s.length c)),(48,.v (.slice A s.length c))] 31 (qaa qaf) (fun _ h=>h ▸ aa.cells) rfl aD fun bW aE=>?_
 obtain ⟨bp,bq,aF,bt,ag⟩:=Slots.get ho (i:=5) (by omega)
 refine qax aE (i:=11) (t:=22) (A:=A) (m:=s.length) (q:=5) (d:=19) kz (e:=5) (size:=1) (bytes:=1) (j:=5) kz aF rfl (by omega) kz kz (qaa qaf) rfl fun bX aG=>?_
 refine qaz aG (i:=12) (t:=5) (b:=bp) (o:=bq + 5 * 1) (d:=20) kz (cs:=[.int .u8 ((s.getD 5 0).toNat:Int)]) (v:=.int .u8 ((s.getD 5 0).toNat:Int)) kz (fun w' h'=>h' ▸ (AtF.move ag aa.step nilM qat).at_) kz kz (qaa qaf) rfl fun bY aH=>?_
 refine qaF [13,14,15] [(23,.v (.int .u64 (IntKind.u64.wrap (BitVec.ofInt 64 (IntKind.u64.wrap (BitVec.ofInt 64 (IntKind.u64.wrap ((s.getD 7 0).toNat:Int)) ||| BitVec.ofInt 64 (IntKind.u64.wrap ((IntKind.u64.wrap ((s.getD 6 0).toNat:Int)) * 256))).toNat) ||| BitVec.ofInt 64 (IntKind.u64.wrap ((IntKind.u64.wrap ((s.getD 5 0).toNat:Int)) * 65536))).toNat))),(24,.v (.slice A s.length c)),(30,.v (.slice A s.length c)),(36,.v (.slice A s.length c)),(42,.v (.slice A s.length c)),(48,.v (.slice A s.length c))] 26 (qaa qaf) (fun _ h=>h ▸ aa.cells) rfl aH fun bZ aI=>?_
 obtain ⟨bu,bw,aJ,bx,ah⟩:=Slots.get ho (i:=4) (by omega)
 refine qax aI (i:=17) (t:=22) (A:=A) (m:=s.length) (q:=4) (d:=25) kz (e:=5) (size:=1) (bytes:=1) (j:=4) kz aJ rfl (by omega) kz kz (qaa qaf) rfl fun b8 aK=>?_
 refine qaz aK (i:=18) (t:=5) (b:=bu) (o:=bw + 4 * 1) (d:=26) kz (cs:=[.int .u8 ((s.getD 4 0).toNat:Int)]) (v:=.int .u8 ((s.getD 4 0).toNat:Int)) kz (fun w' h'=>h' ▸ (AtF.move ah aa.step nilM qat).at_) kz kz (qaa qaf) rfl fun b9 aL=>?_
 refine qaF [19,20,21] [(29,.v (.int .u64 (IntKind.u64.wrap (BitVec.ofInt 64 (IntKind.u64.wrap (BitVec.ofInt 64 (IntKind.u64.wrap (BitVec.ofInt 64 (IntKind.u64.wrap ((s.getD 7 0).toNat:Int)) ||| BitVec.ofInt 64 (IntKind.u64.wrap ((IntKind.u64.wrap ((s.getD 6 0).toNat:Int)) * 256))).toNat) ||| BitVec.ofInt 64 (IntKind.u64.wrap ((IntKind.u64.wrap ((s.getD 5 0).toNat:Int)) * 65536))).toNat) ||| BitVec.ofInt 64 (IntKind.u64.wrap ((IntKind.u64.wrap ((s.getD 4 0).toNat:Int)) * 16777216))).toNat))),(30,.v (.slice A s.length c)),(36,.v (.slice A s.length c)),(42,.v (.slice A s.length c)),(48,.v (.slice A s.length c))] 21 (qaa qaf) (fun _ h=>h ▸ aa.cells) rfl aL fun cd aM=>?_
 obtain ⟨bz,bA,aO,bB,ai⟩:=Slots.get ho (i:=3) (by omega)
 refine qax aM (i:=23) (t:=22) (A:=A) (m:=s.length) (q:=3) (d:=31) kz (e:=5) (size:=1) (bytes:=1) (j:=3) kz aO rfl (by omega) kz kz (qaa qaf) rfl fun ce aP=>?_
 refine qaz aP (i:=24) (t:=5) (b:=bz) (o:=bA + 3 * 1) (d:=32) kz (cs:=[.int .u8 ((s.getD 3 0).toNat:Int)]) (v:=.int .u8 ((s.getD 3 0).toNat:Int)) kz (fun w' h'=>h' ▸ (AtF.move ai aa.step nilM qat).at_) kz kz (qaa qaf) rfl fun cg aQ=>?_
 refine qaF [25,26,27] [(35,.v (.int .u64 (IntKind.u64.wrap (BitVec.ofInt 64 (IntKind.u64.wrap (BitVec.ofInt 64 (IntKind.u64.wrap (BitVec.ofInt 64 (IntKind.u64.wrap (BitVec.ofInt 64 (IntKind.u64.wrap ((s.getD 7 0).toNat:Int)) ||| BitVec.ofInt 64 (IntKind.u64.wrap ((IntKind.u64.wrap ((s.getD 6 0).toNat:Int)) * 256))).toNat) ||| BitVec.ofInt 64 (IntKind.u64.wrap ((IntKind.u64.wrap ((s.getD 5 0).toNat:Int)) * 65536))).toNat) ||| BitVec.ofInt 64 (IntKind.u64.wrap ((IntKind.u64.wrap ((s.getD 4 0).toNat:Int)) * 16777216))).toNat) ||| BitVec.ofInt 64 (IntKind.u64.wrap ((IntKind.u64.wrap ((s.getD 3 0).toNat:Int)) * 4294967296))).toNat))),(36,.v (.slice A s.length c)),(42,.v (.slice A s.length c)),(48,.v (.slice A s.length c))] 16 (qaa qaf) (fun _ h=>h ▸ aa.cells) rfl aQ fun cm aR=>?_
 obtain ⟨bC,bD,aS,bE,aj⟩:=Slots.get ho (i:=2) (by omega)
 refine qax aR (i:=29) (t:=22) (A:=A) (m:=s.length) (q:=2) (d:=37) kz (e:=5) (size:=1) (bytes:=1) (j:=2) kz aS rfl (by omega) kz kz (qaa qaf) rfl fun cn aT=>?_
 refine qaz aT (i:=30) (t:=5) (b:=bC) (o:=bD + 2 * 1) (d:=38) kz (cs:=[.int .u8 ((s.getD 2 0).toNat:Int)]) (v:=.int .u8 ((s.getD 2 0).toNat:Int)) kz (fun w' h'=>h' ▸ (AtF.move aj aa.step nilM qat).at_) kz kz (qaa qaf) rfl fun cq aU=>?_
 refine qaF [31,32,33] [(41,.v (.int .u64 (IntKind.u64.wrap (BitVec.ofInt 64 (IntKind.u64.wrap (BitVec.ofInt 64 (IntKind.u64.wrap (BitVec.ofInt 64 (IntKind.u64.wrap (BitVec.ofInt 64 (IntKind.u64.wrap (BitVec.ofInt 64 (IntKind.u64.wrap ((s.getD 7 0).toNat:Int)) ||| BitVec.ofInt 64 (IntKind.u64.wrap ((IntKind.u64.wrap ((s.getD 6 0).toNat:Int)) * 256))).toNat) ||| BitVec.ofInt 64 (IntKind.u64.wrap ((IntKind.u64.wrap ((s.getD 5 0).toNat:Int)) * 65536))).toNat) ||| BitVec.ofInt 64 (IntKind.u64.wrap ((IntKind.u64.wrap ((s.getD 4 0).toNat:Int)) * 16777216))).toNat) ||| BitVec.ofInt 64 (IntKind.u64.wrap ((IntKind.u64.wrap ((s.getD 3 0).toNat:Int)) * 4294967296))).toNat) ||| BitVec.ofInt 64 (IntKind.u64.wrap ((IntKind.u64.wrap ((s.getD 2 0).toNat:Int)) * 1099511627776))).toNat))),(42,.v (.slice A s.length c)),(48,.v (.slice A s.length c))] 11 (qaa qaf) (fun _ h=>h ▸ aa.cells) rfl aU fun cr aV=>?_
 obtain ⟨bF,bG,aW,bH,ak⟩:=Slots.get ho (i:=1) (by omega)
 refine qax aV (i:=35) (t:=22) (A:=A) (m:=s.length) (q:=1) (d:=43) kz (e:=5) (size:=1) (bytes:=1) (j:=1) kz aW rfl (by omega) kz kz (qaa qaf) rfl fun cu aX=>?_
 refine qaz aX (i:=36) (t:=5) (b:=bF) (o:=bG + 1 * 1) (d:=44) kz (cs:=[.int .u8 ((s.getD 1 0).toNat:Int)]) (v:=.int .u8 ((s.getD 1 0).toNat:Int)) kz (fun w' h'=>h' ▸ (AtF.move ak aa.step nilM qat).at_) kz kz (qaa qaf) rfl fun cw aY=>?_
 refine qaF [37,38,39] [(47,.v (.int .u64 (IntKind.u64.wrap (BitVec.ofInt 64 (IntKind.u64.wrap (BitVec.ofInt 64 (IntKind.u64.wrap (BitVec.ofInt 64 (IntKind.u64.wrap (BitVec.ofInt 64 (IntKind.u64.wrap (BitVec.ofInt 64 (IntKind.u64.wrap (BitVec.ofInt 64 (IntKind.u64.wrap ((s.getD 7 0).toNat:Int)) ||| BitVec.ofInt 64 (IntKind.u64.wrap ((IntKind.u64.wrap ((s.getD 6 0).toNat:Int)) * 256))).toNat) ||| BitVec.ofInt 64 (IntKind.u64.wrap ((IntKind.u64.wrap ((s.getD 5 0).toNat:Int)) * 65536))).toNat) ||| BitVec.ofInt 64 (IntKind.u64.wrap ((IntKind.u64.wrap ((s.getD 4 0).toNat:Int)) * 16777216))).toNat) ||| BitVec.ofInt 64 (IntKind.u64.wrap ((IntKind.u64.wrap ((s.getD 3 0).toNat:Int)) * 4294967296))).toNat) ||| BitVec.ofInt 64 (IntKind.u64.wrap ((IntKind.u64.wrap ((s.getD 2 0).toNat:Int)) * 1099511627776))).toNat) ||| BitVec.ofInt 64 (IntKind.u64.wrap ((IntKind.u64.wrap ((s.getD 1 0).toNat:Int)) * 281474976710656))).toNat))),(48,.v (.slice A s.length c))] 6 (qaa qaf) (fun _ h=>h ▸ aa.cells) rfl aY fun cz aZ=>?_
 obtain ⟨bI,ba,al,bh,ac⟩:=Slots.get ho (i:=0) (by omega)
 refine qax aZ (i:=41) (t:=22) (A:=A) (m:=s.length) (q:=0) (d:=49) kz (e:=5) (size:=1) (bytes:=1) (j:=0) kz al rfl (by omega) kz kz (qaa qaf) rfl fun bJ am=>?_
 refine qaz am (i:=42) (t:=5) (b:=bI) (o:=ba + 0 * 1) (d:=50) kz (cs:=[.int .u8 ((s.getD 0 0).toNat:Int)]) (v:=.int .u8 ((s.getD 0 0).toNat:Int)) kz (fun w' h'=>h' ▸ (AtF.move ac aa.step nilM qat).at_) kz kz (qaa qaf) rfl fun bK ao=>?_
 refine qaF [43,44,45,46] [(4,.v (.int .u64 (IntKind.u64.wrap (BitVec.ofInt 64 (IntKind.u64.wrap (BitVec.ofInt 64 (IntKind.u64.wrap (BitVec.ofInt 64 (IntKind.u64.wrap (BitVec.ofInt 64 (IntKind.u64.wrap (BitVec.ofInt 64 (IntKind.u64.wrap (BitVec.ofInt 64 (IntKind.u64.wrap (BitVec.ofInt 64 (IntKind.u64.wrap ((s.getD 7 0).toNat:Int)) ||| BitVec.ofInt 64 (IntKind.u64.wrap ((IntKind.u64.wrap ((s.getD 6 0).toNat:Int)) * 256))).toNat) ||| BitVec.ofInt 64 (IntKind.u64.wrap ((IntKind.u64.wrap ((s.getD 5 0).toNat:Int)) * 65536))).toNat) ||| BitVec.ofInt 64 (IntKind.u64.wrap ((IntKind.u64.wrap ((s.getD 4 0).toNat:Int)) * 16777216))).toNat) ||| BitVec.ofInt 64 (IntKind.u64.wrap ((IntKind.u64.wrap ((s.getD 3 0).toNat:Int)) * 4294967296))).toNat) ||| BitVec.ofInt 64 (IntKind.u64.wrap ((IntKind.u64.wrap ((s.getD 2 0).toNat:Int)) * 1099511627776))).toNat) ||| BitVec.ofInt 64 (IntKind.u64.wrap ((IntKind.u64.wrap ((s.getD 1 0).toNat:Int)) * 281474976710656))).toNat) ||| BitVec.ofInt 64 (IntKind.u64.wrap ((IntKind.u64.wrap ((s.getD 0 0).toNat:Int)) * 72057594037927936))).toNat)))] 0 (qaa qaf) (fun _ h=>h ▸ aa.cells) rfl ao fun bL ap=>?_
 refine qaV kz ?_ _
 refine qab ?_
 refine wp_ret ?_
 refine qaO ap aa.cells (v:=.int .u64 (IntKind.u64.wrap (BitVec.ofInt 64 (IntKind.u64.wrap (BitVec.ofInt 64 (IntKind.u64.wrap (BitVec.ofInt 64 (IntKind.u64.wrap (BitVec.ofInt 64 (IntKind.u64.wrap (BitVec.ofInt 64 (IntKind.u64.wrap (BitVec.ofInt 64 (IntKind.u64.wrap (BitVec.ofInt 64 (IntKind.u64.wrap ((s.getD 7 0).toNat:Int)) ||| BitVec.ofInt 64 (IntKind.u64.wrap ((IntKind.u64.wrap ((s.getD 6 0).toNat:Int)) * 256))).toNat) ||| BitVec.ofInt 64 (IntKind.u64.wrap ((IntKind.u64.wrap ((s.getD 5 0).toNat:Int)) * 65536))).toNat) ||| BitVec.ofInt 64 (IntKind.u64.wrap ((IntKind.u64.wrap ((s.getD 4 0).toNat:Int)) * 16777216))).toNat) ||| BitVec.ofInt 64 (IntKind.u64.wrap ((IntKind.u64.wrap ((s.getD 3 0).toNat:Int)) * 4294967296))).toNat) ||| BitVec.ofInt 64 (IntKind.u64.wrap ((IntKind.u64.wrap ((s.getD 2 0).toNat:Int)) * 1099511627776))).toNat) ||| BitVec.ofInt 64 (IntKind.u64.wrap ((IntKind.u64.wrap ((s.getD 1 0).toNat:Int)) * 281474976710656))).toNat) ||| BitVec.ofInt 64 (IntKind.u64.wrap ((IntKind.u64.wrap ((s.getD 0 0).toNat:Int)) * 72057594037927936))).toNat)) kz ?_
 exact ⟨congrArg Ending.returned (congrArg (Value.int IntKind.u64) (qfF (oc s 0) (oc s 1) (oc s 2) (oc s 3) (oc s 4) (oc s 5) (oc s 6) (oc s 7) ob0 ob1 ob2 ob3 ob4 ob5 ob6 ob7)),aa.step⟩
theorem rUv1 {A:Option Addr} {c:Nat} (s:Bs) {w:World} {F:Nat → Nat → Prop} (ho:Octs w F A c s) (hl:1 ≤ s.length) (d0:Nat) (h0:oc s 0 = d0) (g0:d0 < 128) :
  Calls Tryd.prog 68 #[.slice A s.length c] w (qbv w (.tuple #[.int .u32 ((d0:Nat):Int),.int .i64 1])):=by
 refine enter (n:=87) Tryd.func68 rfl Tryd.ntmps68 kz fun a hE=>?_
 have hW:=WOk.start w Nil
 refine qan [(0,.v (.slice A s.length c))] hW hE fun a1 hE2=>?_
 refine wp_scope_straight ?_
 refine qan [(0,.v (.slice A s.length c))] hW hE2 fun a3 hE4=>?_
 refine qan [(0,.v (.slice A s.length c))] hW hE4 fun a5 hE6=>?_
 refine wp_seq ?_
 refine qan [(0,.v (.slice A s.length c)),(8,.v (.bool (decide (((s.length:Nat):Int) < 1))))] hW hE6 fun a7 hE8=>?_
 refine qah hE8 (b:=decide (((s.length:Nat):Int) < 1)) kz (decide_eq_false (by omega)) ?_
 refine wp_skip ?_
 refine qab ?_
 refine qac [0,1,2,3,4,5] kz ?_
 refine qai [0] [1,2,3,4,5] [(0,.v (.slice A s.length c)),(9,.v (.slice A s.length c))] hW hE8 fun a9 ae=>?_
 obtain ⟨am,ao,ab,ap,aa⟩:=Slots.get ho (i:=0) (by first | omega | (simp only [List.length_append,be_length,List.length_cons,List.length_nil] at *; omega))
 refine qag (qak ae (t:=22) (A:=A) (m:=s.length) (q:=0) (d:=10) kz (e:=5) (size:=1) (bytes:=1) (j:=0) kz ab rfl (by first | omega | (simp only [List.length_append,be_length,List.length_cons,List.length_nil] at *; omega)) fun ar af=>?_)
 refine qag (qal af (t:=5) (b:=am) (o:=ao + 0 * 1) (d:=11) kz (cs:=[.int .u8 ((s.getD 0 0).toNat:Int)]) (v:=.int .u8 ((s.getD 0 0).toNat:Int)) kz (AtF.move aa hW.step nilM qat).at_ fun au ag=>?_)
 refine qai [3,4,5] [] [(0,.v (.slice A s.length c)),(4,.v (.int .u32 (IntKind.u32.wrap (IntKind.u8.wrap (BitVec.ofInt 8 ((s.getD 0 0).toNat:Int) &&& BitVec.ofInt 8 127).toNat))))] hW ag fun av ah=>?_
 refine qad (qab ?_)
 refine wp_seq ?_
 refine qac [0,1,2,3,4] kz ?_
 refine qai [0] [1,2,3,4] [(0,.v (.slice A s.length c)),(4,.v (.int .u32 (IntKind.u32.wrap (IntKind.u8.wrap (BitVec.ofInt 8 ((s.getD 0 0).toNat:Int) &&& BitVec.ofInt 8 127).toNat)))),(14,.v (.slice A s.length c))] hW ah fun aw ai=>?_
 refine qag (qak ai (t:=22) (A:=A) (m:=s.length) (q:=0) (d:=15) kz (e:=5) (size:=1) (bytes:=1) (j:=0) kz ab rfl (by first | omega | (simp only [List.length_append,be_length,List.length_cons,List.length_nil] at *; omega)) fun ax aj=>?_)
 refine qag (qal aj (t:=5) (b:=am) (o:=ao + 0 * 1) (d:=16) kz (cs:=[.int .u8 ((s.getD 0 0).toNat:Int)]) (v:=.int .u8 ((s.getD 0 0).toNat:Int)) kz (AtF.move aa hW.step nilM qat).at_ fun ay ak=>?_)
 refine qai [3,4] [] [(0,.v (.slice A s.length c)),(4,.v (.int .u32 (IntKind.u32.wrap (IntKind.u8.wrap (BitVec.ofInt 8 ((s.getD 0 0).toNat:Int) &&& BitVec.ofInt 8 127).toNat)))),(18,.v (.bool ((IntKind.u8.wrap (BitVec.ofInt 8 ((s.getD 0 0).toNat:Int) &&& BitVec.ofInt 8 128).toNat) == 0)))] hW ak fun az ac=>?_
 refine qad (qab ?_)
 refine qaK ac (b:=(IntKind.u8.wrap (BitVec.ofInt 8 ((s.getD 0 0).toNat:Int) &&& BitVec.ofInt 8 128).toNat) == 0) kz ((qa3 _ (qaG s 0)).trans (decide_eq_true (by have:=h0; unfold oc at this; omega))) ?_
 refine qan [(2,.v (.int .u32 (IntKind.u32.wrap (IntKind.u8.wrap (BitVec.ofInt 8 ((s.getD 0 0).toNat:Int) &&& BitVec.ofInt 8 127).toNat)))),(3,.v (.int .i64 1))] hW ac fun aA al=>?_
 refine wp_ret ?_
 refine qaP ?_
 refine qbC ?_
 refine qaO al hW.cells (v:=.tuple #[.int .u32 (IntKind.u32.wrap (IntKind.u8.wrap (BitVec.ofInt 8 ((s.getD 0 0).toNat:Int) &&& BitVec.ofInt 8 127).toNat)),.int .i64 1]) kz ?_
 have e_:=uv_1 (oc s 0) (qaG s 0)
 refine ⟨congrArg (fun z_:Int=>Ending.returned (.tuple #[.int .u32 z_,.int .i64 1])) (Eq.trans e_ ?_),hW.step⟩
 omega
theorem rUv2 {A:Option Addr} {c:Nat} (s:Bs) {w:World} {F:Nat → Nat → Prop} (ho:Octs w F A c s) (hl:2 ≤ s.length) (d0 d1:Nat) (h0:oc s 0 = d0 + 128) (h1:oc s 1 = d1) (g0:d0 < 128) (g1:d1 < 128) :
  Calls Tryd.prog 68 #[.slice A s.length c] w (qbv w (.tuple #[.int .u32 ((d0 + d1 * 128:Nat):Int),.int .i64 2])):=by
 refine enter (n:=87) Tryd.func68 rfl Tryd.ntmps68 kz fun a hE=>?_
 have hW:=WOk.start w Nil
 refine qan [(0,.v (.slice A s.length c))] hW hE fun a1 hE2=>?_
 refine wp_scope_straight ?_
 refine qan [(0,.v (.slice A s.length c))] hW hE2 fun a3 hE4=>?_
 refine qan [(0,.v (.slice A s.length c))] hW hE4 fun a5 hE6=>?_
 refine wp_seq ?_
 refine qan [(0,.v (.slice A s.length c)),(8,.v (.bool (decide (((s.length:Nat):Int) < 1))))] hW hE6 fun a7 hE8=>?_
 refine qah hE8 (b:=decide (((s.length:Nat):Int) < 1)) kz (decide_eq_false (by omega)) ?_
 refine wp_skip ?_
 refine qab ?_
 refine qac [0,1,2,3,4,5] kz ?_
 refine qai [0] [1,2,3,4,5] [(0,.v (.slice A s.length c)),(9,.v (.slice A s.length c))] hW hE8 fun a9 ai=>?_
 obtain ⟨aB,aC,ac,aF,aa⟩:=Slots.get ho (i:=0) (by first | omega | (simp only [List.length_append,be_length,List.length_cons,List.length_nil] at *; omega))
 refine qag (qak ai (t:=22) (A:=A) (m:=s.length) (q:=0) (d:=10) kz (e:=5) (size:=1) (bytes:=1) (j:=0) kz ac rfl (by first | omega | (simp only [List.length_append,be_length,List.length_cons,List.length_nil] at *; omega)) fun aH aj=>?_)
 refine qag (qal aj (t:=5) (b:=aB) (o:=aC + 0 * 1) (d:=11) kz (cs:=[.int .u8 ((s.getD 0 0).toNat:Int)]) (v:=.int .u8 ((s.getD 0 0).toNat:Int)) kz (AtF.move aa hW.step nilM qat).at_ fun aI ak=>?_)
 refine qai [3,4,5] [] [(0,.v (.slice A s.length c)),(4,.v (.int .u32 (IntKind.u32.wrap (IntKind.u8.wrap (BitVec.ofInt 8 ((s.getD 0 0).toNat:Int) &&& BitVec.ofInt 8 127).toNat))))] hW ak fun aJ al=>?_
 refine qad (qab ?_)
 refine wp_seq ?_
 refine qac [0,1,2,3,4] kz ?_
 refine qai [0] [1,2,3,4] [(0,.v (.slice A s.length c)),(4,.v (.int .u32 (IntKind.u32.wrap (IntKind.u8.wrap (BitVec.ofInt 8 ((s.getD 0 0).toNat:Int) &&& BitVec.ofInt 8 127).toNat)))),(14,.v (.slice A s.length c))] hW al fun aK am=>?_
 refine qag (qak am (t:=22) (A:=A) (m:=s.length) (q:=0) (d:=15) kz (e:=5) (size:=1) (bytes:=1) (j:=0) kz ac rfl (by first | omega | (simp only [List.length_append,be_length,List.length_cons,List.length_nil] at *; omega)) fun aL ao=>?_)
 refine qag (qal ao (t:=5) (b:=aB) (o:=aC + 0 * 1) (d:=16) kz (cs:=[.int .u8 ((s.getD 0 0).toNat:Int)]) (v:=.int .u8 ((s.getD 0 0).toNat:Int)) kz (AtF.move aa hW.step nilM qat).at_ fun aM ap=>?_)
 refine qai [3,4] [] [(0,.v (.slice A s.length c)),(4,.v (.int .u32 (IntKind.u32.wrap (IntKind.u8.wrap (BitVec.ofInt 8 ((s.getD 0 0).toNat:Int) &&& BitVec.ofInt 8 127).toNat)))),(18,.v (.bool ((IntKind.u8.wrap (BitVec.ofInt 8 ((s.getD 0 0).toNat:Int) &&& BitVec.ofInt 8 128).toNat) == 0)))] hW ap fun aO ae=>?_
 refine qad (qab ?_)
 refine qah ae (b:=(IntKind.u8.wrap (BitVec.ofInt 8 ((s.getD 0 0).toNat:Int) &&& BitVec.ofInt 8 128).toNat) == 0) kz ((qa3 _ (qaG s 0)).trans (decide_eq_false (by have:=h0; unfold oc at this; omega))) ?_
 refine qan [(0,.v (.slice A s.length c)),(4,.v (.int .u32 (IntKind.u32.wrap (IntKind.u8.wrap (BitVec.ofInt 8 ((s.getD 0 0).toNat:Int) &&& BitVec.ofInt 8 127).toNat)))),(22,.v (.bool (decide (((s.length:Nat):Int) < 2))))] hW ae fun aP af=>?_
 refine qah af (b:=decide (((s.length:Nat):Int) < 2)) kz (decide_eq_false (by omega)) ?_
 refine wp_skip ?_
 refine qab ?_
 refine qac [0,1,2,3,4,5,6,7,8] kz ?_
 refine qai [0,1] [2,3,4,5,6,7,8] [(0,.v (.slice A s.length c)),(23,.v (.int .u32 (IntKind.u32.wrap (IntKind.u8.wrap (BitVec.ofInt 8 ((s.getD 0 0).toNat:Int) &&& BitVec.ofInt 8 127).toNat)))),(24,.v (.slice A s.length c))] hW af fun aQ ar=>?_
 obtain ⟨aD,aE,ag,aG,ab⟩:=Slots.get ho (i:=1) (by first | omega | (simp only [List.length_append,be_length,List.length_cons,List.length_nil] at *; omega))
 refine qag (qak ar (t:=22) (A:=A) (m:=s.length) (q:=1) (d:=25) kz (e:=5) (size:=1) (bytes:=1) (j:=1) kz ag rfl (by first | omega | (simp only [List.length_append,be_length,List.length_cons,List.length_nil] at *; omega)) fun aR au=>?_)
 refine qag (qal au (t:=5) (b:=aD) (o:=aE + 1 * 1) (d:=26) kz (cs:=[.int .u8 ((s.getD 1 0).toNat:Int)]) (v:=.int .u8 ((s.getD 1 0).toNat:Int)) kz (AtF.move ab hW.step nilM qat).at_ fun aS av=>?_)
 refine qai [4,5,6,7,8] [] [(0,.v (.slice A s.length c)),(4,.v (.int .u32 (IntKind.u32.wrap (BitVec.ofInt 32 (IntKind.u32.wrap (IntKind.u8.wrap (BitVec.ofInt 8 ((s.getD 0 0).toNat:Int) &&& BitVec.ofInt 8 127).toNat)) ||| BitVec.ofInt 32 (IntKind.u32.wrap ((IntKind.u32.wrap (IntKind.u8.wrap (BitVec.ofInt 8 ((s.getD 1 0).toNat:Int) &&& BitVec.ofInt 8 127).toNat)) * 128))).toNat)))] hW av fun aT aw=>?_
 refine qad (qab ?_)
 refine wp_seq ?_
 refine qac [0,1,2,3,4] kz ?_
 refine qai [0] [1,2,3,4] [(0,.v (.slice A s.length c)),(4,.v (.int .u32 (IntKind.u32.wrap (BitVec.ofInt 32 (IntKind.u32.wrap (IntKind.u8.wrap (BitVec.ofInt 8 ((s.getD 0 0).toNat:Int) &&& BitVec.ofInt 8 127).toNat)) ||| BitVec.ofInt 32 (IntKind.u32.wrap ((IntKind.u32.wrap (IntKind.u8.wrap (BitVec.ofInt 8 ((s.getD 1 0).toNat:Int) &&& BitVec.ofInt 8 127).toNat)) * 128))).toNat))),(31,.v (.slice A s.length c))] hW aw fun aU ax=>?_
 refine qag (qak ax (t:=22) (A:=A) (m:=s.length) (q:=1) (d:=32) kz (e:=5) (size:=1) (bytes:=1) (j:=1) kz ag rfl (by first | omega | (simp only [List.length_append,be_length,List.length_cons,List.length_nil] at *; omega)) fun aV ay=>?_)
 refine qag (qal ay (t:=5) (b:=aD) (o:=aE + 1 * 1) (d:=33) kz (cs:=[.int .u8 ((s.getD 1 0).toNat:Int)]) (v:=.int .u8 ((s.getD 1 0).toNat:Int)) kz (AtF.move ab hW.step nilM qat).at_ fun aW az=>?_)
 refine qai [3,4] [] [(0,.v (.slice A s.length c)),(4,.v (.int .u32 (IntKind.u32.wrap (BitVec.ofInt 32 (IntKind.u32.wrap (IntKind.u8.wrap (BitVec.ofInt 8 ((s.getD 0 0).toNat:Int) &&& BitVec.ofInt 8 127).toNat)) ||| BitVec.ofInt 32 (IntKind.u32.wrap ((IntKind.u32.wrap (IntKind.u8.wrap (BitVec.ofInt 8 ((s.getD 1 0).toNat:Int) &&& BitVec.ofInt 8 127).toNat)) * 128))).toNat))),(35,.v (.bool ((IntKind.u8.wrap (BitVec.ofInt 8 ((s.getD 1 0).toNat:Int) &&& BitVec.ofInt 8 128).toNat) == 0)))] hW az fun aX ah=>?_
 refine qad (qab ?_)
 refine qaK ah (b:=(IntKind.u8.wrap (BitVec.ofInt 8 ((s.getD 1 0).toNat:Int) &&& BitVec.ofInt 8 128).toNat) == 0) kz ((qa3 _ (qaG s 1)).trans (decide_eq_true (by have:=h1; unfold oc at this; omega))) ?_
 refine qan [(2,.v (.int .u32 (IntKind.u32.wrap (BitVec.ofInt 32 (IntKind.u32.wrap (IntKind.u8.wrap (BitVec.ofInt 8 ((s.getD 0 0).toNat:Int) &&& BitVec.ofInt 8 127).toNat)) ||| BitVec.ofInt 32 (IntKind.u32.wrap ((IntKind.u32.wrap (IntKind.u8.wrap (BitVec.ofInt 8 ((s.getD 1 0).toNat:Int) &&& BitVec.ofInt 8 127).toNat)) * 128))).toNat))),(3,.v (.int .i64 2))] hW ah fun aY aA=>?_
 refine wp_ret ?_
 refine qaP ?_
 refine qbC ?_
 refine qaO aA hW.cells (v:=.tuple #[.int .u32 (IntKind.u32.wrap (BitVec.ofInt 32 (IntKind.u32.wrap (IntKind.u8.wrap (BitVec.ofInt 8 ((s.getD 0 0).toNat:Int) &&& BitVec.ofInt 8 127).toNat)) ||| BitVec.ofInt 32 (IntKind.u32.wrap ((IntKind.u32.wrap (IntKind.u8.wrap (BitVec.ofInt 8 ((s.getD 1 0).toNat:Int) &&& BitVec.ofInt 8 127).toNat)) * 128))).toNat),.int .i64 2]) kz ?_
 have e_:=uv_2 (oc s 0) (oc s 1) (qaG s 0) (qaG s 1)
 refine ⟨congrArg (fun z_:Int=>Ending.returned (.tuple #[.int .u32 z_,.int .i64 2])) (Eq.trans e_ ?_),hW.step⟩
 omega
theorem rUv3 {A:Option Addr} {c:Nat} (s:Bs) {w:World} {F:Nat → Nat → Prop} (ho:Octs w F A c s) (hl:3 ≤ s.length) (d0 d1 d2:Nat) (h0:oc s 0 = d0 + 128) (h1:oc s 1 = d1 + 128) (h2:oc s 2 = d2) (g0:d0 < 128) (g1:d1 < 128) (g2:d2 < 128) :
  Calls Tryd.prog 68 #[.slice A s.length c] w (qbv w (.tuple #[.int .u32 ((d0 + d1 * 128 + d2 * 16384:Nat):Int),.int .i64 3])):=by
 refine enter (n:=87) Tryd.func68 rfl Tryd.ntmps68 kz fun a hE=>?_
 have hW:=WOk.start w Nil
 refine qan [(0,.v (.slice A s.length c))] hW hE fun a1 hE2=>?_
 refine wp_scope_straight ?_
 refine qan [(0,.v (.slice A s.length c))] hW hE2 fun a3 hE4=>?_
 refine qan [(0,.v (.slice A s.length c))] hW hE4 fun a5 hE6=>?_
 refine wp_seq ?_
 refine qan [(0,.v (.slice A s.length c)),(8,.v (.bool (decide (((s.length:Nat):Int) < 1))))] hW hE6 fun a7 hE8=>?_
 refine qah hE8 (b:=decide (((s.length:Nat):Int) < 1)) kz (decide_eq_false (by omega)) ?_
 refine wp_skip ?_
 refine qab ?_
 refine qac [0,1,2,3,4,5] kz ?_
 refine qai [0] [1,2,3,4,5] [(0,.v (.slice A s.length c)),(9,.v (.slice A s.length c))] hW hE8 fun a9 am=>?_
 obtain ⟨aM,aO,ae,aT,aa⟩:=Slots.get ho (i:=0) (by first | omega | (simp only [List.length_append,be_length,List.length_cons,List.length_nil] at *; omega))
 refine qag (qak am (t:=22) (A:=A) (m:=s.length) (q:=0) (d:=10) kz (e:=5) (size:=1) (bytes:=1) (j:=0) kz ae rfl (by first | omega | (simp only [List.length_append,be_length,List.length_cons,List.length_nil] at *; omega)) fun aW ao=>?_)
 refine qag (qal ao (t:=5) (b:=aM) (o:=aO + 0 * 1) (d:=11) kz (cs:=[.int .u8 ((s.getD 0 0).toNat:Int)]) (v:=.int .u8 ((s.getD 0 0).toNat:Int)) kz (AtF.move aa hW.step nilM qat).at_ fun aX ap=>?_)
 refine qai [3,4,5] [] [(0,.v (.slice A s.length c)),(4,.v (.int .u32 (IntKind.u32.wrap (IntKind.u8.wrap (BitVec.ofInt 8 ((s.getD 0 0).toNat:Int) &&& BitVec.ofInt 8 127).toNat))))] hW ap fun aY ar=>?_
 refine qad (qab ?_)
 refine wp_seq ?_
 refine qac [0,1,2,3,4] kz ?_
 refine qai [0] [1,2,3,4] [(0,.v (.slice A s.length c)),(4,.v (.int .u32 (IntKind.u32.wrap (IntKind.u8.wrap (BitVec.ofInt 8 ((s.getD 0 0).toNat:Int) &&& BitVec.ofInt 8 127).toNat)))),(14,.v (.slice A s.length c))] hW ar fun aZ au=>?_
 refine qag (qak au (t:=22) (A:=A) (m:=s.length) (q:=0) (d:=15) kz (e:=5) (size:=1) (bytes:=1) (j:=0) kz ae rfl (by first | omega | (simp only [List.length_append,be_length,List.length_cons,List.length_nil] at *; omega)) fun ba av=>?_)
 refine qag (qal av (t:=5) (b:=aM) (o:=aO + 0 * 1) (d:=16) kz (cs:=[.int .u8 ((s.getD 0 0).toNat:Int)]) (v:=.int .u8 ((s.getD 0 0).toNat:Int)) kz (AtF.move aa hW.step nilM qat).at_ fun bf aw=>?_)
 refine qai [3,4] [] [(0,.v (.slice A s.length c)),(4,.v (.int .u32 (IntKind.u32.wrap (IntKind.u8.wrap (BitVec.ofInt 8 ((s.getD 0 0).toNat:Int) &&& BitVec.ofInt 8 127).toNat)))),(18,.v (.bool ((IntKind.u8.wrap (BitVec.ofInt 8 ((s.getD 0 0).toNat:Int) &&& BitVec.ofInt 8 128).toNat) == 0)))] hW aw fun bg af=>?_
 refine qad (qab ?_)
 refine qah af (b:=(IntKind.u8.wrap (BitVec.ofInt 8 ((s.getD 0 0).toNat:Int) &&& BitVec.ofInt 8 128).toNat) == 0) kz ((qa3 _ (qaG s 0)).trans (decide_eq_false (by have:=h0; unfold oc at this; omega))) ?_
 refine qan [(0,.v (.slice A s.length c)),(4,.v (.int .u32 (IntKind.u32.wrap (IntKind.u8.wrap (BitVec.ofInt 8 ((s.getD 0 0).toNat:Int) &&& BitVec.ofInt 8 127).toNat)))),(22,.v (.bool (decide (((s.length:Nat):Int) < 2))))] hW af fun bh ag=>?_
 refine qah ag (b:=decide (((s.length:Nat):Int) < 2)) kz (decide_eq_false (by omega)) ?_
 refine wp_skip ?_
 refine qab ?_
 refine qac [0,1,2,3,4,5,6,7,8] kz ?_
 refine qai [0,1] [2,3,4,5,6,7,8] [(0,.v (.slice A s.length c)),(23,.v (.int .u32 (IntKind.u32.wrap (IntKind.u8.wrap (BitVec.ofInt 8 ((s.getD 0 0).toNat:Int) &&& BitVec.ofInt 8 127).toNat)))),(24,.v (.slice A s.length c))] hW ag fun bi ax=>?_
 obtain ⟨aP,aQ,ah,aU,ab⟩:=Slots.get ho (i:=1) (by first | omega | (simp only [List.length_append,be_length,List.length_cons,List.length_nil] at *; omega))
 refine qag (qak ax (t:=22) (A:=A) (m:=s.length) (q:=1) (d:=25) kz (e:=5) (size:=1) (bytes:=1) (j:=1) kz ah rfl (by first | omega | (simp only [List.length_append,be_length,List.length_cons,List.length_nil] at *; omega)) fun bj ay=>?_)
 refine qag (qal ay (t:=5) (b:=aP) (o:=aQ + 1 * 1) (d:=26) kz (cs:=[.int .u8 ((s.getD 1 0).toNat:Int)]) (v:=.int .u8 ((s.getD 1 0).toNat:Int)) kz (AtF.move ab hW.step nilM qat).at_ fun bk az=>?_)
 refine qai [4,5,6,7,8] [] [(0,.v (.slice A s.length c)),(4,.v (.int .u32 (IntKind.u32.wrap (BitVec.ofInt 32 (IntKind.u32.wrap (IntKind.u8.wrap (BitVec.ofInt 8 ((s.getD 0 0).toNat:Int) &&& BitVec.ofInt 8 127).toNat)) ||| BitVec.ofInt 32 (IntKind.u32.wrap ((IntKind.u32.wrap (IntKind.u8.wrap (BitVec.ofInt 8 ((s.getD 1 0).toNat:Int) &&& BitVec.ofInt 8 127).toNat)) * 128))).toNat)))] hW az fun bn aA=>?_
 refine qad (qab ?_)
 refine wp_seq ?_
 refine qac [0,1,2,3,4] kz ?_
 refine qai [0] [1,2,3,4] [(0,.v (.slice A s.length c)),(4,.v (.int .u32 (IntKind.u32.wrap (BitVec.ofInt 32 (IntKind.u32.wrap (IntKind.u8.wrap (BitVec.ofInt 8 ((s.getD 0 0).toNat:Int) &&& BitVec.ofInt 8 127).toNat)) ||| BitVec.ofInt 32 (IntKind.u32.wrap ((IntKind.u32.wrap (IntKind.u8.wrap (BitVec.ofInt 8 ((s.getD 1 0).toNat:Int) &&& BitVec.ofInt 8 127).toNat)) * 128))).toNat))),(31,.v (.slice A s.length c))] hW aA fun bo aB=>?_
 refine qag (qak aB (t:=22) (A:=A) (m:=s.length) (q:=1) (d:=32) kz (e:=5) (size:=1) (bytes:=1) (j:=1) kz ah rfl (by first | omega | (simp only [List.length_append,be_length,List.length_cons,List.length_nil] at *; omega)) fun bp aC=>?_)
 refine qag (qal aC (t:=5) (b:=aP) (o:=aQ + 1 * 1) (d:=33) kz (cs:=[.int .u8 ((s.getD 1 0).toNat:Int)]) (v:=.int .u8 ((s.getD 1 0).toNat:Int)) kz (AtF.move ab hW.step nilM qat).at_ fun bq aD=>?_)
 refine qai [3,4] [] [(0,.v (.slice A s.length c)),(4,.v (.int .u32 (IntKind.u32.wrap (BitVec.ofInt 32 (IntKind.u32.wrap (IntKind.u8.wrap (BitVec.ofInt 8 ((s.getD 0 0).toNat:Int) &&& BitVec.ofInt 8 127).toNat)) ||| BitVec.ofInt 32 (IntKind.u32.wrap ((IntKind.u32.wrap (IntKind.u8.wrap (BitVec.ofInt 8 ((s.getD 1 0).toNat:Int) &&& BitVec.ofInt 8 127).toNat)) * 128))).toNat))),(35,.v (.bool ((IntKind.u8.wrap (BitVec.ofInt 8 ((s.getD 1 0).toNat:Int) &&& BitVec.ofInt 8 128).toNat) == 0)))] hW aD fun bt ai=>?_
 refine qad (qab ?_)
 refine qah ai (b:=(IntKind.u8.wrap (BitVec.ofInt 8 ((s.getD 1 0).toNat:Int) &&& BitVec.ofInt 8 128).toNat) == 0) kz ((qa3 _ (qaG s 1)).trans (decide_eq_false (by have:=h1; unfold oc at this; omega))) ?_
 refine qan [(0,.v (.slice A s.length c)),(4,.v (.int .u32 (IntKind.u32.wrap (BitVec.ofInt 32 (IntKind.u32.wrap (IntKind.u8.wrap (BitVec.ofInt 8 ((s.getD 0 0).toNat:Int) &&& BitVec.ofInt 8 127).toNat)) ||| BitVec.ofInt 32 (IntKind.u32.wrap ((IntKind.u32.wrap (IntKind.u8.wrap (BitVec.ofInt 8 ((s.getD 1 0).toNat:Int) &&& BitVec.ofInt 8 127).toNat)) * 128))).toNat))),(39,.v (.bool (decide (((s.length:Nat):Int) < 3))))] hW ai fun bu aj=>?_
 refine qah aj (b:=decide (((s.length:Nat):Int) < 3)) kz (decide_eq_false (by omega)) ?_
 refine wp_skip ?_
 refine qab ?_
 refine qac [0,1,2,3,4,5,6,7,8] kz ?_
 refine qai [0,1] [2,3,4,5,6,7,8] [(0,.v (.slice A s.length c)),(40,.v (.int .u32 (IntKind.u32.wrap (BitVec.ofInt 32 (IntKind.u32.wrap (IntKind.u8.wrap (BitVec.ofInt 8 ((s.getD 0 0).toNat:Int) &&& BitVec.ofInt 8 127).toNat)) ||| BitVec.ofInt 32 (IntKind.u32.wrap ((IntKind.u32.wrap (IntKind.u8.wrap (BitVec.ofInt 8 ((s.getD 1 0).toNat:Int) &&& BitVec.ofInt 8 127).toNat)) * 128))).toNat))),(41,.v (.slice A s.length c))] hW aj fun bw aE=>?_
 obtain ⟨aR,aS,ak,aV,ac⟩:=Slots.get ho (i:=2) (by first | omega | (simp only [List.length_append,be_length,List.length_cons,List.length_nil] at *; omega))
 refine qag (qak aE (t:=22) (A:=A) (m:=s.length) (q:=2) (d:=42) kz (e:=5) (size:=1) (bytes:=1) (j:=2) kz ak rfl (by first | omega | (simp only [List.length_append,be_length,List.length_cons,List.length_nil] at *; omega)) fun bx aF=>?_)
 refine qag (qal aF (t:=5) (b:=aR) (o:=aS + 2 * 1) (d:=43) kz (cs:=[.int .u8 ((s.getD 2 0).toNat:Int)]) (v:=.int .u8 ((s.getD 2 0).toNat:Int)) kz (AtF.move ac hW.step nilM qat).at_ fun bz aG=>?_)
 refine qai [4,5,6,7,8] [] [(0,.v (.slice A s.length c)),(4,.v (.int .u32 (IntKind.u32.wrap (BitVec.ofInt 32 (IntKind.u32.wrap (BitVec.ofInt 32 (IntKind.u32.wrap (IntKind.u8.wrap (BitVec.ofInt 8 ((s.getD 0 0).toNat:Int) &&& BitVec.ofInt 8 127).toNat)) ||| BitVec.ofInt 32 (IntKind.u32.wrap ((IntKind.u32.wrap (IntKind.u8.wrap (BitVec.ofInt 8 ((s.getD 1 0).toNat:Int) &&& BitVec.ofInt 8 127).toNat)) * 128))).toNat) ||| BitVec.ofInt 32 (IntKind.u32.wrap ((IntKind.u32.wrap (IntKind.u8.wrap (BitVec.ofInt 8 ((s.getD 2 0).toNat:Int) &&& BitVec.ofInt 8 127).toNat)) * 16384))).toNat)))] hW aG fun bA aH=>?_
 refine qad (qab ?_)
 refine wp_seq ?_
 refine qac [0,1,2,3,4] kz ?_
 refine qai [0] [1,2,3,4] [(0,.v (.slice A s.length c)),(4,.v (.int .u32 (IntKind.u32.wrap (BitVec.ofInt 32 (IntKind.u32.wrap (BitVec.ofInt 32 (IntKind.u32.wrap (IntKind.u8.wrap (BitVec.ofInt 8 ((s.getD 0 0).toNat:Int) &&& BitVec.ofInt 8 127).toNat)) ||| BitVec.ofInt 32 (IntKind.u32.wrap ((IntKind.u32.wrap (IntKind.u8.wrap (BitVec.ofInt 8 ((s.getD 1 0).toNat:Int) &&& BitVec.ofInt 8 127).toNat)) * 128))).toNat) ||| BitVec.ofInt 32 (IntKind.u32.wrap ((IntKind.u32.wrap (IntKind.u8.wrap (BitVec.ofInt 8 ((s.getD 2 0).toNat:Int) &&& BitVec.ofInt 8 127).toNat)) * 16384))).toNat))),(48,.v (.slice A s.length c))] hW aH fun bB aI=>?_
 refine qag (qak aI (t:=22) (A:=A) (m:=s.length) (q:=2) (d:=49) kz (e:=5) (size:=1) (bytes:=1) (j:=2) kz ak rfl (by first | omega | (simp only [List.length_append,be_length,List.length_cons,List.length_nil] at *; omega)) fun bC aJ=>?_)
 refine qag (qal aJ (t:=5) (b:=aR) (o:=aS + 2 * 1) (d:=50) kz (cs:=[.int .u8 ((s.getD 2 0).toNat:Int)]) (v:=.int .u8 ((s.getD 2 0).toNat:Int)) kz (AtF.move ac hW.step nilM qat).at_ fun bD aK=>?_)
 refine qai [3,4] [] [(0,.v (.slice A s.length c)),(4,.v (.int .u32 (IntKind.u32.wrap (BitVec.ofInt 32 (IntKind.u32.wrap (BitVec.ofInt 32 (IntKind.u32.wrap (IntKind.u8.wrap (BitVec.ofInt 8 ((s.getD 0 0).toNat:Int) &&& BitVec.ofInt 8 127).toNat)) ||| BitVec.ofInt 32 (IntKind.u32.wrap ((IntKind.u32.wrap (IntKind.u8.wrap (BitVec.ofInt 8 ((s.getD 1 0).toNat:Int) &&& BitVec.ofInt 8 127).toNat)) * 128))).toNat) ||| BitVec.ofInt 32 (IntKind.u32.wrap ((IntKind.u32.wrap (IntKind.u8.wrap (BitVec.ofInt 8 ((s.getD 2 0).toNat:Int) &&& BitVec.ofInt 8 127).toNat)) * 16384))).toNat))),(52,.v (.bool ((IntKind.u8.wrap (BitVec.ofInt 8 ((s.getD 2 0).toNat:Int) &&& BitVec.ofInt 8 128).toNat) == 0)))] hW aK fun bE al=>?_
 refine qad (qab ?_)
 refine qaK al (b:=(IntKind.u8.wrap (BitVec.ofInt 8 ((s.getD 2 0).toNat:Int) &&& BitVec.ofInt 8 128).toNat) == 0) kz ((qa3 _ (qaG s 2)).trans (decide_eq_true (by have:=h2; unfold oc at this; omega))) ?_
 refine qan [(2,.v (.int .u32 (IntKind.u32.wrap (BitVec.ofInt 32 (IntKind.u32.wrap (BitVec.ofInt 32 (IntKind.u32.wrap (IntKind.u8.wrap (BitVec.ofInt 8 ((s.getD 0 0).toNat:Int) &&& BitVec.ofInt 8 127).toNat)) ||| BitVec.ofInt 32 (IntKind.u32.wrap ((IntKind.u32.wrap (IntKind.u8.wrap (BitVec.ofInt 8 ((s.getD 1 0).toNat:Int) &&& BitVec.ofInt 8 127).toNat)) * 128))).toNat) ||| BitVec.ofInt 32 (IntKind.u32.wrap ((IntKind.u32.wrap (IntKind.u8.wrap (BitVec.ofInt 8 ((s.getD 2 0).toNat:Int) &&& BitVec.ofInt 8 127).toNat)) * 16384))).toNat))),(3,.v (.int .i64 3))] hW al fun bF aL=>?_
 refine wp_ret ?_
 refine qaP ?_
 refine qbC ?_
 refine qaO aL hW.cells (v:=.tuple #[.int .u32 (IntKind.u32.wrap (BitVec.ofInt 32 (IntKind.u32.wrap (BitVec.ofInt 32 (IntKind.u32.wrap (IntKind.u8.wrap (BitVec.ofInt 8 ((s.getD 0 0).toNat:Int) &&& BitVec.ofInt 8 127).toNat)) ||| BitVec.ofInt 32 (IntKind.u32.wrap ((IntKind.u32.wrap (IntKind.u8.wrap (BitVec.ofInt 8 ((s.getD 1 0).toNat:Int) &&& BitVec.ofInt 8 127).toNat)) * 128))).toNat) ||| BitVec.ofInt 32 (IntKind.u32.wrap ((IntKind.u32.wrap (IntKind.u8.wrap (BitVec.ofInt 8 ((s.getD 2 0).toNat:Int) &&& BitVec.ofInt 8 127).toNat)) * 16384))).toNat),.int .i64 3]) kz ?_
 have e_:=uv_3 (oc s 0) (oc s 1) (oc s 2) (qaG s 0) (qaG s 1) (qaG s 2)
 refine ⟨congrArg (fun z_:Int=>Ending.returned (.tuple #[.int .u32 z_,.int .i64 3])) (Eq.trans e_ ?_),hW.step⟩
 omega
theorem rUv4 {A:Option Addr} {c:Nat} (s:Bs) {w:World} {F:Nat → Nat → Prop} (ho:Octs w F A c s) (hl:4 ≤ s.length) (d0 d1 d2 d3:Nat) (h0:oc s 0 = d0 + 128) (h1:oc s 1 = d1 + 128) (h2:oc s 2 = d2 + 128) (h3:oc s 3 = d3) (g0:d0 < 128) (g1:d1 < 128) (g2:d2 < 128) (g3:d3 < 128) :
  Calls Tryd.prog 68 #[.slice A s.length c] w (qbv w (.tuple #[.int .u32 ((d0 + d1 * 128 + d2 * 16384 + d3 * 2097152:Nat):Int),.int .i64 4])):=by
 refine enter (n:=87) Tryd.func68 rfl Tryd.ntmps68 kz fun a hE=>?_
 have hW:=WOk.start w Nil
 refine qan [(0,.v (.slice A s.length c))] hW hE fun a1 hE2=>?_
 refine wp_scope_straight ?_
 refine qan [(0,.v (.slice A s.length c))] hW hE2 fun a3 hE4=>?_
 refine qan [(0,.v (.slice A s.length c))] hW hE4 fun a5 hE6=>?_
 refine wp_seq ?_
 refine qan [(0,.v (.slice A s.length c)),(8,.v (.bool (decide (((s.length:Nat):Int) < 1))))] hW hE6 fun a7 hE8=>?_
 refine qah hE8 (b:=decide (((s.length:Nat):Int) < 1)) kz (decide_eq_false (by omega)) ?_
 refine wp_skip ?_
 refine qab ?_
 refine qac [0,1,2,3,4,5] kz ?_
 refine qai [0] [1,2,3,4,5] [(0,.v (.slice A s.length c)),(9,.v (.slice A s.length c))] hW hE8 fun a9 av=>?_
 obtain ⟨aY,aZ,af,bk,aa⟩:=Slots.get ho (i:=0) (by first | omega | (simp only [List.length_append,be_length,List.length_cons,List.length_nil] at *; omega))
 refine qag (qak av (t:=22) (A:=A) (m:=s.length) (q:=0) (d:=10) kz (e:=5) (size:=1) (bytes:=1) (j:=0) kz af rfl (by first | omega | (simp only [List.length_append,be_length,List.length_cons,List.length_nil] at *; omega)) fun bq aw=>?_)
 refine qag (qal aw (t:=5) (b:=aY) (o:=aZ + 0 * 1) (d:=11) kz (cs:=[.int .u8 ((s.getD 0 0).toNat:Int)]) (v:=.int .u8 ((s.getD 0 0).toNat:Int)) kz (AtF.move aa hW.step nilM qat).at_ fun bt ax=>?_)
 refine qai [3,4,5] [] [(0,.v (.slice A s.length c)),(4,.v (.int .u32 (IntKind.u32.wrap (IntKind.u8.wrap (BitVec.ofInt 8 ((s.getD 0 0).toNat:Int) &&& BitVec.ofInt 8 127).toNat))))] hW ax fun bu ay=>?_
 refine qad (qab ?_)
 refine wp_seq ?_
 refine qac [0,1,2,3,4] kz ?_
 refine qai [0] [1,2,3,4] [(0,.v (.slice A s.length c)),(4,.v (.int .u32 (IntKind.u32.wrap (IntKind.u8.wrap (BitVec.ofInt 8 ((s.getD 0 0).toNat:Int) &&& BitVec.ofInt 8 127).toNat)))),(14,.v (.slice A s.length c))] hW ay fun bw az=>?_
 refine qag (qak az (t:=22) (A:=A) (m:=s.length) (q:=0) (d:=15) kz (e:=5) (size:=1) (bytes:=1) (j:=0) kz af rfl (by first | omega | (simp only [List.length_append,be_length,List.length_cons,List.length_nil] at *; omega)) fun bx aA=>?_)
 refine qag (qal aA (t:=5) (b:=aY) (o:=aZ + 0 * 1) (d:=16) kz (cs:=[.int .u8 ((s.getD 0 0).toNat:Int)]) (v:=.int .u8 ((s.getD 0 0).toNat:Int)) kz (AtF.move aa hW.step nilM qat).at_ fun bz aB=>?_)
 refine qai [3,4] [] [(0,.v (.slice A s.length c)),(4,.v (.int .u32 (IntKind.u32.wrap (IntKind.u8.wrap (BitVec.ofInt 8 ((s.getD 0 0).toNat:Int) &&& BitVec.ofInt 8 127).toNat)))),(18,.v (.bool ((IntKind.u8.wrap (BitVec.ofInt 8 ((s.getD 0 0).toNat:Int) &&& BitVec.ofInt 8 128).toNat) == 0)))] hW aB fun bA ag=>?_
 refine qad (qab ?_)
 refine qah ag (b:=(IntKind.u8.wrap (BitVec.ofInt 8 ((s.getD 0 0).toNat:Int) &&& BitVec.ofInt 8 128).toNat) == 0) kz ((qa3 _ (qaG s 0)).trans (decide_eq_false (by have:=h0; unfold oc at this; omega))) ?_
 refine qan [(0,.v (.slice A s.length c)),(4,.v (.int .u32 (IntKind.u32.wrap (IntKind.u8.wrap (BitVec.ofInt 8 ((s.getD 0 0).toNat:Int) &&& BitVec.ofInt 8 127).toNat)))),(22,.v (.bool (decide (((s.length:Nat):Int) < 2))))] hW ag fun bB ah=>?_
 refine qah ah (b:=decide (((s.length:Nat):Int) < 2)) kz (decide_eq_false (by omega)) ?_
 refine wp_skip ?_
 refine qab ?_
 refine qac [0,1,2,3,4,5,6,7,8] kz ?_
 refine qai [0,1] [2,3,4,5,6,7,8] [(0,.v (.slice A s.length c)),(23,.v (.int .u32 (IntKind.u32.wrap (IntKind.u8.wrap (BitVec.ofInt 8 ((s.getD 0 0).toNat:Int) &&& BitVec.ofInt 8 127).toNat)))),(24,.v (.slice A s.length c))] hW ah fun bC aC=>?_
 obtain ⟨ba,bf,ai,bn,ab⟩:=Slots.get ho (i:=1) (by first | omega | (simp only [List.length_append,be_length,List.length_cons,List.length_nil] at *; omega))
 refine qag (qak aC (t:=22) (A:=A) (m:=s.length) (q:=1) (d:=25) kz (e:=5) (size:=1) (bytes:=1) (j:=1) kz ai rfl (by first | omega | (simp only [List.length_append,be_length,List.length_cons,List.length_nil] at *; omega)) fun bD aD=>?_)
 refine qag (qal aD (t:=5) (b:=ba) (o:=bf + 1 * 1) (d:=26) kz (cs:=[.int .u8 ((s.getD 1 0).toNat:Int)]) (v:=.int .u8 ((s.getD 1 0).toNat:Int)) kz (AtF.move ab hW.step nilM qat).at_ fun bE aE=>?_)
 refine qai [4,5,6,7,8] [] [(0,.v (.slice A s.length c)),(4,.v (.int .u32 (IntKind.u32.wrap (BitVec.ofInt 32 (IntKind.u32.wrap (IntKind.u8.wrap (BitVec.ofInt 8 ((s.getD 0 0).toNat:Int) &&& BitVec.ofInt 8 127).toNat)) ||| BitVec.ofInt 32 (IntKind.u32.wrap ((IntKind.u32.wrap (IntKind.u8.wrap (BitVec.ofInt 8 ((s.getD 1 0).toNat:Int) &&& BitVec.ofInt 8 127).toNat)) * 128))).toNat)))] hW aE fun bF aF=>?_
 refine qad (qab ?_)
 refine wp_seq ?_
 refine qac [0,1,2,3,4] kz ?_
 refine qai [0] [1,2,3,4] [(0,.v (.slice A s.length c)),(4,.v (.int .u32 (IntKind.u32.wrap (BitVec.ofInt 32 (IntKind.u32.wrap (IntKind.u8.wrap (BitVec.ofInt 8 ((s.getD 0 0).toNat:Int) &&& BitVec.ofInt 8 127).toNat)) ||| BitVec.ofInt 32 (IntKind.u32.wrap ((IntKind.u32.wrap (IntKind.u8.wrap (BitVec.ofInt 8 ((s.getD 1 0).toNat:Int) &&& BitVec.ofInt 8 127).toNat)) * 128))).toNat))),(31,.v (.slice A s.length c))] hW aF fun bG aG=>?_
 refine qag (qak aG (t:=22) (A:=A) (m:=s.length) (q:=1) (d:=32) kz (e:=5) (size:=1) (bytes:=1) (j:=1) kz ai rfl (by first | omega | (simp only [List.length_append,be_length,List.length_cons,List.length_nil] at *; omega)) fun bH aH=>?_)
 refine qag (qal aH (t:=5) (b:=ba) (o:=bf + 1 * 1) (d:=33) kz (cs:=[.int .u8 ((s.getD 1 0).toNat:Int)]) (v:=.int .u8 ((s.getD 1 0).toNat:Int)) kz (AtF.move ab hW.step nilM qat).at_ fun bI aI=>?_)
 refine qai [3,4] [] [(0,.v (.slice A s.length c)),(4,.v (.int .u32 (IntKind.u32.wrap (BitVec.ofInt 32 (IntKind.u32.wrap (IntKind.u8.wrap (BitVec.ofInt 8 ((s.getD 0 0).toNat:Int) &&& BitVec.ofInt 8 127).toNat)) ||| BitVec.ofInt 32 (IntKind.u32.wrap ((IntKind.u32.wrap (IntKind.u8.wrap (BitVec.ofInt 8 ((s.getD 1 0).toNat:Int) &&& BitVec.ofInt 8 127).toNat)) * 128))).toNat))),(35,.v (.bool ((IntKind.u8.wrap (BitVec.ofInt 8 ((s.getD 1 0).toNat:Int) &&& BitVec.ofInt 8 128).toNat) == 0)))] hW aI fun bJ aj=>?_
 refine qad (qab ?_)
 refine qah aj (b:=(IntKind.u8.wrap (BitVec.ofInt 8 ((s.getD 1 0).toNat:Int) &&& BitVec.ofInt 8 128).toNat) == 0) kz ((qa3 _ (qaG s 1)).trans (decide_eq_false (by have:=h1; unfold oc at this; omega))) ?_
 refine qan [(0,.v (.slice A s.length c)),(4,.v (.int .u32 (IntKind.u32.wrap (BitVec.ofInt 32 (IntKind.u32.wrap (IntKind.u8.wrap (BitVec.ofInt 8 ((s.getD 0 0).toNat:Int) &&& BitVec.ofInt 8 127).toNat)) ||| BitVec.ofInt 32 (IntKind.u32.wrap ((IntKind.u32.wrap (IntKind.u8.wrap (BitVec.ofInt 8 ((s.getD 1 0).toNat:Int) &&& BitVec.ofInt 8 127).toNat)) * 128))).toNat))),(39,.v (.bool (decide (((s.length:Nat):Int) < 3))))] hW aj fun bK ak=>?_
 refine qah ak (b:=decide (((s.length:Nat):Int) < 3)) kz (decide_eq_false (by omega)) ?_
 refine wp_skip ?_
 refine qab ?_
 refine qac [0,1,2,3,4,5,6,7,8] kz ?_
 refine qai [0,1] [2,3,4,5,6,7,8] [(0,.v (.slice A s.length c)),(40,.v (.int .u32 (IntKind.u32.wrap (BitVec.ofInt 32 (IntKind.u32.wrap (IntKind.u8.wrap (BitVec.ofInt 8 ((s.getD 0 0).toNat:Int) &&& BitVec.ofInt 8 127).toNat)) ||| BitVec.ofInt 32 (IntKind.u32.wrap ((IntKind.u32.wrap (IntKind.u8.wrap (BitVec.ofInt 8 ((s.getD 1 0).toNat:Int) &&& BitVec.ofInt 8 127).toNat)) * 128))).toNat))),(41,.v (.slice A s.length c))] hW ak fun bL aJ=>?_
 obtain ⟨bg,bh,al,bo,ac⟩:=Slots.get ho (i:=2) (by first | omega | (simp only [List.length_append,be_length,List.length_cons,List.length_nil] at *; omega))
 refine qag (qak aJ (t:=22) (A:=A) (m:=s.length) (q:=2) (d:=42) kz (e:=5) (size:=1) (bytes:=1) (j:=2) kz al rfl (by first | omega | (simp only [List.length_append,be_length,List.length_cons,List.length_nil] at *; omega)) fun bM aK=>?_)
 refine qag (qal aK (t:=5) (b:=bg) (o:=bh + 2 * 1) (d:=43) kz (cs:=[.int .u8 ((s.getD 2 0).toNat:Int)]) (v:=.int .u8 ((s.getD 2 0).toNat:Int)) kz (AtF.move ac hW.step nilM qat).at_ fun bN aL=>?_)
 refine qai [4,5,6,7,8] [] [(0,.v (.slice A s.length c)),(4,.v (.int .u32 (IntKind.u32.wrap (BitVec.ofInt 32 (IntKind.u32.wrap (BitVec.ofInt 32 (IntKind.u32.wrap (IntKind.u8.wrap (BitVec.ofInt 8 ((s.getD 0 0).toNat:Int) &&& BitVec.ofInt 8 127).toNat)) ||| BitVec.ofInt 32 (IntKind.u32.wrap ((IntKind.u32.wrap (IntKind.u8.wrap (BitVec.ofInt 8 ((s.getD 1 0).toNat:Int) &&& BitVec.ofInt 8 127).toNat)) * 128))).toNat) ||| BitVec.ofInt 32 (IntKind.u32.wrap ((IntKind.u32.wrap (IntKind.u8.wrap (BitVec.ofInt 8 ((s.getD 2 0).toNat:Int) &&& BitVec.ofInt 8 127).toNat)) * 16384))).toNat)))] hW aL fun bO aM=>?_
 refine qad (qab ?_)
 refine wp_seq ?_
 refine qac [0,1,2,3,4] kz ?_
 refine qai [0] [1,2,3,4] [(0,.v (.slice A s.length c)),(4,.v (.int .u32 (IntKind.u32.wrap (BitVec.ofInt 32 (IntKind.u32.wrap (BitVec.ofInt 32 (IntKind.u32.wrap (IntKind.u8.wrap (BitVec.ofInt 8 ((s.getD 0 0).toNat:Int) &&& BitVec.ofInt 8 127).toNat)) ||| BitVec.ofInt 32 (IntKind.u32.wrap ((IntKind.u32.wrap (IntKind.u8.wrap (BitVec.ofInt 8 ((s.getD 1 0).toNat:Int) &&& BitVec.ofInt 8 127).toNat)) * 128))).toNat) ||| BitVec.ofInt 32 (IntKind.u32.wrap ((IntKind.u32.wrap (IntKind.u8.wrap (BitVec.ofInt 8 ((s.getD 2 0).toNat:Int) &&& BitVec.ofInt 8 127).toNat)) * 16384))).toNat))),(48,.v (.slice A s.length c))] hW aM fun bP aO=>?_
 refine qag (qak aO (t:=22) (A:=A) (m:=s.length) (q:=2) (d:=49) kz (e:=5) (size:=1) (bytes:=1) (j:=2) kz al rfl (by first | omega | (simp only [List.length_append,be_length,List.length_cons,List.length_nil] at *; omega)) fun bQ aP=>?_)
 refine qag (qal aP (t:=5) (b:=bg) (o:=bh + 2 * 1) (d:=50) kz (cs:=[.int .u8 ((s.getD 2 0).toNat:Int)]) (v:=.int .u8 ((s.getD 2 0).toNat:Int)) kz (AtF.move ac hW.step nilM qat).at_ fun bR aQ=>?_)
 refine qai [3,4] [] [(0,.v (.slice A s.length c)),(4,.v (.int .u32 (IntKind.u32.wrap (BitVec.ofInt 32 (IntKind.u32.wrap (BitVec.ofInt 32 (IntKind.u32.wrap (IntKind.u8.wrap (BitVec.ofInt 8 ((s.getD 0 0).toNat:Int) &&& BitVec.ofInt 8 127).toNat)) ||| BitVec.ofInt 32 (IntKind.u32.wrap ((IntKind.u32.wrap (IntKind.u8.wrap (BitVec.ofInt 8 ((s.getD 1 0).toNat:Int) &&& BitVec.ofInt 8 127).toNat)) * 128))).toNat) ||| BitVec.ofInt 32 (IntKind.u32.wrap ((IntKind.u32.wrap (IntKind.u8.wrap (BitVec.ofInt 8 ((s.getD 2 0).toNat:Int) &&& BitVec.ofInt 8 127).toNat)) * 16384))).toNat))),(52,.v (.bool ((IntKind.u8.wrap (BitVec.ofInt 8 ((s.getD 2 0).toNat:Int) &&& BitVec.ofInt 8 128).toNat) == 0)))] hW aQ fun bS am=>?_
 refine qad (qab ?_)
 refine qah am (b:=(IntKind.u8.wrap (BitVec.ofInt 8 ((s.getD 2 0).toNat:Int) &&& BitVec.ofInt 8 128).toNat) == 0) kz ((qa3 _ (qaG s 2)).trans (decide_eq_false (by have:=h2; unfold oc at this; omega))) ?_
 refine qan [(0,.v (.slice A s.length c)),(4,.v (.int .u32 (IntKind.u32.wrap (BitVec.ofInt 32 (IntKind.u32.wrap (BitVec.ofInt 32 (IntKind.u32.wrap (IntKind.u8.wrap (BitVec.ofInt 8 ((s.getD 0 0).toNat:Int) &&& BitVec.ofInt 8 127).toNat)) ||| BitVec.ofInt 32 (IntKind.u32.wrap ((IntKind.u32.wrap (IntKind.u8.wrap (BitVec.ofInt 8 ((s.getD 1 0).toNat:Int) &&& BitVec.ofInt 8 127).toNat)) * 128))).toNat) ||| BitVec.ofInt 32 (IntKind.u32.wrap ((IntKind.u32.wrap (IntKind.u8.wrap (BitVec.ofInt 8 ((s.getD 2 0).toNat:Int) &&& BitVec.ofInt 8 127).toNat)) * 16384))).toNat))),(56,.v (.bool (decide (((s.length:Nat):Int) < 4))))] hW am fun bT ao=>?_
 refine qah ao (b:=decide (((s.length:Nat):Int) < 4)) kz (decide_eq_false (by omega)) ?_
 refine wp_skip ?_
 refine qab ?_
 refine qac [0,1,2,3,4,5,6,7,8] kz ?_
 refine qai [0,1] [2,3,4,5,6,7,8] [(0,.v (.slice A s.length c)),(57,.v (.int .u32 (IntKind.u32.wrap (BitVec.ofInt 32 (IntKind.u32.wrap (BitVec.ofInt 32 (IntKind.u32.wrap (IntKind.u8.wrap (BitVec.ofInt 8 ((s.getD 0 0).toNat:Int) &&& BitVec.ofInt 8 127).toNat)) ||| BitVec.ofInt 32 (IntKind.u32.wrap ((IntKind.u32.wrap (IntKind.u8.wrap (BitVec.ofInt 8 ((s.getD 1 0).toNat:Int) &&& BitVec.ofInt 8 127).toNat)) * 128))).toNat) ||| BitVec.ofInt 32 (IntKind.u32.wrap ((IntKind.u32.wrap (IntKind.u8.wrap (BitVec.ofInt 8 ((s.getD 2 0).toNat:Int) &&& BitVec.ofInt 8 127).toNat)) * 16384))).toNat))),(58,.v (.slice A s.length c))] hW ao fun bU aR=>?_
 obtain ⟨bi,bj,ap,bp,ae⟩:=Slots.get ho (i:=3) (by first | omega | (simp only [List.length_append,be_length,List.length_cons,List.length_nil] at *; omega))
 refine qag (qak aR (t:=22) (A:=A) (m:=s.length) (q:=3) (d:=59) kz (e:=5) (size:=1) (bytes:=1) (j:=3) kz ap rfl (by first | omega | (simp only [List.length_append,be_length,List.length_cons,List.length_nil] at *; omega)) fun bV aS=>?_)
 refine qag (qal aS (t:=5) (b:=bi) (o:=bj + 3 * 1) (d:=60) kz (cs:=[.int .u8 ((s.getD 3 0).toNat:Int)]) (v:=.int .u8 ((s.getD 3 0).toNat:Int)) kz (AtF.move ae hW.step nilM qat).at_ fun bW aT=>?_)
 refine qai [4,5,6,7,8] [] [(0,.v (.slice A s.length c)),(4,.v (.int .u32 (IntKind.u32.wrap (BitVec.ofInt 32 (IntKind.u32.wrap (BitVec.ofInt 32 (IntKind.u32.wrap (BitVec.ofInt 32 (IntKind.u32.wrap (IntKind.u8.wrap (BitVec.ofInt 8 ((s.getD 0 0).toNat:Int) &&& BitVec.ofInt 8 127).toNat)) ||| BitVec.ofInt 32 (IntKind.u32.wrap ((IntKind.u32.wrap (IntKind.u8.wrap (BitVec.ofInt 8 ((s.getD 1 0).toNat:Int) &&& BitVec.ofInt 8 127).toNat)) * 128))).toNat) ||| BitVec.ofInt 32 (IntKind.u32.wrap ((IntKind.u32.wrap (IntKind.u8.wrap (BitVec.ofInt 8 ((s.getD 2 0).toNat:Int) &&& BitVec.ofInt 8 127).toNat)) * 16384))).toNat) ||| BitVec.ofInt 32 (IntKind.u32.wrap ((IntKind.u32.wrap (IntKind.u8.wrap (BitVec.ofInt 8 ((s.getD 3 0).toNat:Int) &&& BitVec.ofInt 8 127).toNat)) * 2097152))).toNat)))] hW aT fun bX aU=>?_
 refine qad (qab ?_)
 refine wp_seq ?_
 refine qac [0,1,2,3,4] kz ?_
 refine qai [0] [1,2,3,4] [(0,.v (.slice A s.length c)),(4,.v (.int .u32 (IntKind.u32.wrap (BitVec.ofInt 32 (IntKind.u32.wrap (BitVec.ofInt 32 (IntKind.u32.wrap (BitVec.ofInt 32 (IntKind.u32.wrap (IntKind.u8.wrap (BitVec.ofInt 8 ((s.getD 0 0).toNat:Int) &&& BitVec.ofInt 8 127).toNat)) ||| BitVec.ofInt 32 (IntKind.u32.wrap ((IntKind.u32.wrap (IntKind.u8.wrap (BitVec.ofInt 8 ((s.getD 1 0).toNat:Int) &&& BitVec.ofInt 8 127).toNat)) * 128))).toNat) ||| BitVec.ofInt 32 (IntKind.u32.wrap ((IntKind.u32.wrap (IntKind.u8.wrap (BitVec.ofInt 8 ((s.getD 2 0).toNat:Int) &&& BitVec.ofInt 8 127).toNat)) * 16384))).toNat) ||| BitVec.ofInt 32 (IntKind.u32.wrap ((IntKind.u32.wrap (IntKind.u8.wrap (BitVec.ofInt 8 ((s.getD 3 0).toNat:Int) &&& BitVec.ofInt 8 127).toNat)) * 2097152))).toNat))),(65,.v (.slice A s.length c))] hW aU fun bY aV=>?_
 refine qag (qak aV (t:=22) (A:=A) (m:=s.length) (q:=3) (d:=66) kz (e:=5) (size:=1) (bytes:=1) (j:=3) kz ap rfl (by first | omega | (simp only [List.length_append,be_length,List.length_cons,List.length_nil] at *; omega)) fun bZ aW=>?_)
 refine qag (qal aW (t:=5) (b:=bi) (o:=bj + 3 * 1) (d:=67) kz (cs:=[.int .u8 ((s.getD 3 0).toNat:Int)]) (v:=.int .u8 ((s.getD 3 0).toNat:Int)) kz (AtF.move ae hW.step nilM qat).at_ fun b8 aX=>?_)
 refine qai [3,4] [] [(0,.v (.slice A s.length c)),(4,.v (.int .u32 (IntKind.u32.wrap (BitVec.ofInt 32 (IntKind.u32.wrap (BitVec.ofInt 32 (IntKind.u32.wrap (BitVec.ofInt 32 (IntKind.u32.wrap (IntKind.u8.wrap (BitVec.ofInt 8 ((s.getD 0 0).toNat:Int) &&& BitVec.ofInt 8 127).toNat)) ||| BitVec.ofInt 32 (IntKind.u32.wrap ((IntKind.u32.wrap (IntKind.u8.wrap (BitVec.ofInt 8 ((s.getD 1 0).toNat:Int) &&& BitVec.ofInt 8 127).toNat)) * 128))).toNat) ||| BitVec.ofInt 32 (IntKind.u32.wrap ((IntKind.u32.wrap (IntKind.u8.wrap (BitVec.ofInt 8 ((s.getD 2 0).toNat:Int) &&& BitVec.ofInt 8 127).toNat)) * 16384))).toNat) ||| BitVec.ofInt 32 (IntKind.u32.wrap ((IntKind.u32.wrap (IntKind.u8.wrap (BitVec.ofInt 8 ((s.getD 3 0).toNat:Int) &&& BitVec.ofInt 8 127).toNat)) * 2097152))).toNat))),(69,.v (.bool ((IntKind.u8.wrap (BitVec.ofInt 8 ((s.getD 3 0).toNat:Int) &&& BitVec.ofInt 8 128).toNat) == 0)))] hW aX fun b9 ar=>?_
 refine qad (qab ?_)
 refine qaK ar (b:=(IntKind.u8.wrap (BitVec.ofInt 8 ((s.getD 3 0).toNat:Int) &&& BitVec.ofInt 8 128).toNat) == 0) kz ((qa3 _ (qaG s 3)).trans (decide_eq_true (by have:=h3; unfold oc at this; omega))) ?_
 refine qan [(2,.v (.int .u32 (IntKind.u32.wrap (BitVec.ofInt 32 (IntKind.u32.wrap (BitVec.ofInt 32 (IntKind.u32.wrap (BitVec.ofInt 32 (IntKind.u32.wrap (IntKind.u8.wrap (BitVec.ofInt 8 ((s.getD 0 0).toNat:Int) &&& BitVec.ofInt 8 127).toNat)) ||| BitVec.ofInt 32 (IntKind.u32.wrap ((IntKind.u32.wrap (IntKind.u8.wrap (BitVec.ofInt 8 ((s.getD 1 0).toNat:Int) &&& BitVec.ofInt 8 127).toNat)) * 128))).toNat) ||| BitVec.ofInt 32 (IntKind.u32.wrap ((IntKind.u32.wrap (IntKind.u8.wrap (BitVec.ofInt 8 ((s.getD 2 0).toNat:Int) &&& BitVec.ofInt 8 127).toNat)) * 16384))).toNat) ||| BitVec.ofInt 32 (IntKind.u32.wrap ((IntKind.u32.wrap (IntKind.u8.wrap (BitVec.ofInt 8 ((s.getD 3 0).toNat:Int) &&& BitVec.ofInt 8 127).toNat)) * 2097152))).toNat))),(3,.v (.int .i64 4))] hW ar fun cd au=>?_
 refine wp_ret ?_
 refine qaP ?_
 refine qbC ?_
 refine qaO au hW.cells (v:=.tuple #[.int .u32 (IntKind.u32.wrap (BitVec.ofInt 32 (IntKind.u32.wrap (BitVec.ofInt 32 (IntKind.u32.wrap (BitVec.ofInt 32 (IntKind.u32.wrap (IntKind.u8.wrap (BitVec.ofInt 8 ((s.getD 0 0).toNat:Int) &&& BitVec.ofInt 8 127).toNat)) ||| BitVec.ofInt 32 (IntKind.u32.wrap ((IntKind.u32.wrap (IntKind.u8.wrap (BitVec.ofInt 8 ((s.getD 1 0).toNat:Int) &&& BitVec.ofInt 8 127).toNat)) * 128))).toNat) ||| BitVec.ofInt 32 (IntKind.u32.wrap ((IntKind.u32.wrap (IntKind.u8.wrap (BitVec.ofInt 8 ((s.getD 2 0).toNat:Int) &&& BitVec.ofInt 8 127).toNat)) * 16384))).toNat) ||| BitVec.ofInt 32 (IntKind.u32.wrap ((IntKind.u32.wrap (IntKind.u8.wrap (BitVec.ofInt 8 ((s.getD 3 0).toNat:Int) &&& BitVec.ofInt 8 127).toNat)) * 2097152))).toNat),.int .i64 4]) kz ?_
 have e_:=uv_4 (oc s 0) (oc s 1) (oc s 2) (oc s 3) (qaG s 0) (qaG s 1) (qaG s 2) (qaG s 3)
 refine ⟨congrArg (fun z_:Int=>Ending.returned (.tuple #[.int .u32 z_,.int .i64 4])) (Eq.trans e_ ?_),hW.step⟩
 omega
theorem rUv5 {A:Option Addr} {c:Nat} (s:Bs) {w:World} {F:Nat → Nat → Prop} (ho:Octs w F A c s) (hl:5 ≤ s.length) (d0 d1 d2 d3 d4:Nat) (h0:oc s 0 = d0 + 128) (h1:oc s 1 = d1 + 128) (h2:oc s 2 = d2 + 128) (h3:oc s 3 = d3 + 128) (h4:oc s 4 = d4) (g0:d0 < 128) (g1:d1 < 128) (g2:d2 < 128) (g3:d3 < 128) (g4:d4 < 16) :
  Calls Tryd.prog 68 #[.slice A s.length c] w (qbv w (.tuple #[.int .u32 ((d0 + d1 * 128 + d2 * 16384 + d3 * 2097152 + d4 * 268435456:Nat):Int),.int .i64 5])):=by
 refine enter (n:=87) Tryd.func68 rfl Tryd.ntmps68 kz fun a hE=>?_
 have hW:=WOk.start w Nil
 refine qan [(0,.v (.slice A s.length c))] hW hE fun a1 hE2=>?_
 refine wp_scope_straight ?_
 refine qan [(0,.v (.slice A s.length c))] hW hE2 fun a3 hE4=>?_
 refine qan [(0,.v (.slice A s.length c))] hW hE4 fun a5 hE6=>?_
 refine wp_seq ?_
 refine qan [(0,.v (.slice A s.length c)),(8,.v (.bool (decide (((s.length:Nat):Int) < 1))))] hW hE6 fun a7 hE8=>?_
 refine qah hE8 (b:=decide (((s.length:Nat):Int) < 1)) kz (decide_eq_false (by omega)) ?_
 refine wp_skip ?_
 refine qab ?_
 refine qac [0,1,2,3,4,5] kz ?_
 refine qai [0] [1,2,3,4,5] [(0,.v (.slice A s.length c)),(9,.v (.slice A s.length c))] hW hE8 fun a9 aI=>?_
 obtain ⟨bt,bu,aj,bE,ab⟩:=Slots.get ho (i:=0) (by first | omega | (simp only [List.length_append,be_length,List.length_cons,List.length_nil] at *; omega))
 refine qag (qak aI (t:=22) (A:=A) (m:=s.length) (q:=0) (d:=10) kz (e:=5) (size:=1) (bytes:=1) (j:=0) kz aj rfl (by first | omega | (simp only [List.length_append,be_length,List.length_cons,List.length_nil] at *; omega)) fun bR aJ=>?_)
 refine qag (qal aJ (t:=5) (b:=bt) (o:=bu + 0 * 1) (d:=11) kz (cs:=[.int .u8 ((s.getD 0 0).toNat:Int)]) (v:=.int .u8 ((s.getD 0 0).toNat:Int)) kz (AtF.move ab hW.step nilM qat).at_ fun bS aK=>?_)
 refine qai [3,4,5] [] [(0,.v (.slice A s.length c)),(4,.v (.int .u32 (IntKind.u32.wrap (IntKind.u8.wrap (BitVec.ofInt 8 ((s.getD 0 0).toNat:Int) &&& BitVec.ofInt 8 127).toNat))))] hW aK fun bT aL=>?_
 refine qad (qab ?_)
 refine wp_seq ?_
 refine qac [0,1,2,3,4] kz ?_
 refine qai [0] [1,2,3,4] [(0,.v (.slice A s.length c)),(4,.v (.int .u32 (IntKind.u32.wrap (IntKind.u8.wrap (BitVec.ofInt 8 ((s.getD 0 0).toNat:Int) &&& BitVec.ofInt 8 127).toNat)))),(14,.v (.slice A s.length c))] hW aL fun bU aM=>?_
 refine qag (qak aM (t:=22) (A:=A) (m:=s.length) (q:=0) (d:=15) kz (e:=5) (size:=1) (bytes:=1) (j:=0) kz aj rfl (by first | omega | (simp only [List.length_append,be_length,List.length_cons,List.length_nil] at *; omega)) fun bV aO=>?_)
 refine qag (qal aO (t:=5) (b:=bt) (o:=bu + 0 * 1) (d:=16) kz (cs:=[.int .u8 ((s.getD 0 0).toNat:Int)]) (v:=.int .u8 ((s.getD 0 0).toNat:Int)) kz (AtF.move ab hW.step nilM qat).at_ fun bW aP=>?_)
 refine qai [3,4] [] [(0,.v (.slice A s.length c)),(4,.v (.int .u32 (IntKind.u32.wrap (IntKind.u8.wrap (BitVec.ofInt 8 ((s.getD 0 0).toNat:Int) &&& BitVec.ofInt 8 127).toNat)))),(18,.v (.bool ((IntKind.u8.wrap (BitVec.ofInt 8 ((s.getD 0 0).toNat:Int) &&& BitVec.ofInt 8 128).toNat) == 0)))] hW aP fun bX ak=>?_
 refine qad (qab ?_)
 refine qah ak (b:=(IntKind.u8.wrap (BitVec.ofInt 8 ((s.getD 0 0).toNat:Int) &&& BitVec.ofInt 8 128).toNat) == 0) kz ((qa3 _ (qaG s 0)).trans (decide_eq_false (by have:=h0; unfold oc at this; omega))) ?_
 refine qan [(0,.v (.slice A s.length c)),(4,.v (.int .u32 (IntKind.u32.wrap (IntKind.u8.wrap (BitVec.ofInt 8 ((s.getD 0 0).toNat:Int) &&& BitVec.ofInt 8 127).toNat)))),(22,.v (.bool (decide (((s.length:Nat):Int) < 2))))] hW ak fun bY al=>?_
 refine qah al (b:=decide (((s.length:Nat):Int) < 2)) kz (decide_eq_false (by omega)) ?_
 refine wp_skip ?_
 refine qab ?_
 refine qac [0,1,2,3,4,5,6,7,8] kz ?_
 refine qai [0,1] [2,3,4,5,6,7,8] [(0,.v (.slice A s.length c)),(23,.v (.int .u32 (IntKind.u32.wrap (IntKind.u8.wrap (BitVec.ofInt 8 ((s.getD 0 0).toNat:Int) &&& BitVec.ofInt 8 127).toNat)))),(24,.v (.slice A s.length c))] hW al fun bZ aQ=>?_
 obtain ⟨bw,bx,am,bF,ac⟩:=Slots.get ho (i:=1) (by first | omega | (simp only [List.length_append,be_length,List.length_cons,List.length_nil] at *; omega))
 refine qag (qak aQ (t:=22) (A:=A) (m:=s.length) (q:=1) (d:=25) kz (e:=5) (size:=1) (bytes:=1) (j:=1) kz am rfl (by first | omega | (simp only [List.length_append,be_length,List.length_cons,List.length_nil] at *; omega)) fun b8 aR=>?_)
 refine qag (qal aR (t:=5) (b:=bw) (o:=bx + 1 * 1) (d:=26) kz (cs:=[.int .u8 ((s.getD 1 0).toNat:Int)]) (v:=.int .u8 ((s.getD 1 0).toNat:Int)) kz (AtF.move ac hW.step nilM qat).at_ fun b9 aS=>?_)
 refine qai [4,5,6,7,8] [] [(0,.v (.slice A s.length c)),(4,.v (.int .u32 (IntKind.u32.wrap (BitVec.ofInt 32 (IntKind.u32.wrap (IntKind.u8.wrap (BitVec.ofInt 8 ((s.getD 0 0).toNat:Int) &&& BitVec.ofInt 8 127).toNat)) ||| BitVec.ofInt 32 (IntKind.u32.wrap ((IntKind.u32.wrap (IntKind.u8.wrap (BitVec.ofInt 8 ((s.getD 1 0).toNat:Int) &&& BitVec.ofInt 8 127).toNat)) * 128))).toNat)))] hW aS fun cd aT=>?_
 refine qad (qab ?_)
 refine wp_seq ?_
 refine qac [0,1,2,3,4] kz ?_
 refine qai [0] [1,2,3,4] [(0,.v (.slice A s.length c)),(4,.v (.int .u32 (IntKind.u32.wrap (BitVec.ofInt 32 (IntKind.u32.wrap (IntKind.u8.wrap (BitVec.ofInt 8 ((s.getD 0 0).toNat:Int) &&& BitVec.ofInt 8 127).toNat)) ||| BitVec.ofInt 32 (IntKind.u32.wrap ((IntKind.u32.wrap (IntKind.u8.wrap (BitVec.ofInt 8 ((s.getD 1 0).toNat:Int) &&& BitVec.ofInt 8 127).toNat)) * 128))).toNat))),(31,.v (.slice A s.length c))] hW aT fun ce aU=>?_
 refine qag (qak aU (t:=22) (A:=A) (m:=s.length) (q:=1) (d:=32) kz (e:=5) (size:=1) (bytes:=1) (j:=1) kz am rfl (by first | omega | (simp only [List.length_append,be_length,List.length_cons,List.length_nil] at *; omega)) fun cg aV=>?_)
 refine qag (qal aV (t:=5) (b:=bw) (o:=bx + 1 * 1) (d:=33) kz (cs:=[.int .u8 ((s.getD 1 0).toNat:Int)]) (v:=.int .u8 ((s.getD 1 0).toNat:Int)) kz (AtF.move ac hW.step nilM qat).at_ fun cm aW=>?_)
 refine qai [3,4] [] [(0,.v (.slice A s.length c)),(4,.v (.int .u32 (IntKind.u32.wrap (BitVec.ofInt 32 (IntKind.u32.wrap (IntKind.u8.wrap (BitVec.ofInt 8 ((s.getD 0 0).toNat:Int) &&& BitVec.ofInt 8 127).toNat)) ||| BitVec.ofInt 32 (IntKind.u32.wrap ((IntKind.u32.wrap (IntKind.u8.wrap (BitVec.ofInt 8 ((s.getD 1 0).toNat:Int) &&& BitVec.ofInt 8 127).toNat)) * 128))).toNat))),(35,.v (.bool ((IntKind.u8.wrap (BitVec.ofInt 8 ((s.getD 1 0).toNat:Int) &&& BitVec.ofInt 8 128).toNat) == 0)))] hW aW fun cn ao=>?_
 refine qad (qab ?_)
 refine qah ao (b:=(IntKind.u8.wrap (BitVec.ofInt 8 ((s.getD 1 0).toNat:Int) &&& BitVec.ofInt 8 128).toNat) == 0) kz ((qa3 _ (qaG s 1)).trans (decide_eq_false (by have:=h1; unfold oc at this; omega))) ?_
 refine qan [(0,.v (.slice A s.length c)),(4,.v (.int .u32 (IntKind.u32.wrap (BitVec.ofInt 32 (IntKind.u32.wrap (IntKind.u8.wrap (BitVec.ofInt 8 ((s.getD 0 0).toNat:Int) &&& BitVec.ofInt 8 127).toNat)) ||| BitVec.ofInt 32 (IntKind.u32.wrap ((IntKind.u32.wrap (IntKind.u8.wrap (BitVec.ofInt 8 ((s.getD 1 0).toNat:Int) &&& BitVec.ofInt 8 127).toNat)) * 128))).toNat))),(39,.v (.bool (decide (((s.length:Nat):Int) < 3))))] hW ao fun cq ap=>?_
 refine qah ap (b:=decide (((s.length:Nat):Int) < 3)) kz (decide_eq_false (by omega)) ?_
 refine wp_skip ?_
 refine qab ?_
 refine qac [0,1,2,3,4,5,6,7,8] kz ?_
 refine qai [0,1] [2,3,4,5,6,7,8] [(0,.v (.slice A s.length c)),(40,.v (.int .u32 (IntKind.u32.wrap (BitVec.ofInt 32 (IntKind.u32.wrap (IntKind.u8.wrap (BitVec.ofInt 8 ((s.getD 0 0).toNat:Int) &&& BitVec.ofInt 8 127).toNat)) ||| BitVec.ofInt 32 (IntKind.u32.wrap ((IntKind.u32.wrap (IntKind.u8.wrap (BitVec.ofInt 8 ((s.getD 1 0).toNat:Int) &&& BitVec.ofInt 8 127).toNat)) * 128))).toNat))),(41,.v (.slice A s.length c))] hW ap fun cr aX=>?_
 obtain ⟨bz,bA,ar,bG,ae⟩:=Slots.get ho (i:=2) (by first | omega | (simp only [List.length_append,be_length,List.length_cons,List.length_nil] at *; omega))
 refine qag (qak aX (t:=22) (A:=A) (m:=s.length) (q:=2) (d:=42) kz (e:=5) (size:=1) (bytes:=1) (j:=2) kz ar rfl (by first | omega | (simp only [List.length_append,be_length,List.length_cons,List.length_nil] at *; omega)) fun cu aY=>?_)
 refine qag (qal aY (t:=5) (b:=bz) (o:=bA + 2 * 1) (d:=43) kz (cs:=[.int .u8 ((s.getD 2 0).toNat:Int)]) (v:=.int .u8 ((s.getD 2 0).toNat:Int)) kz (AtF.move ae hW.step nilM qat).at_ fun cw aZ=>?_)
 refine qai [4,5,6,7,8] [] [(0,.v (.slice A s.length c)),(4,.v (.int .u32 (IntKind.u32.wrap (BitVec.ofInt 32 (IntKind.u32.wrap (BitVec.ofInt 32 (IntKind.u32.wrap (IntKind.u8.wrap (BitVec.ofInt 8 ((s.getD 0 0).toNat:Int) &&& BitVec.ofInt 8 127).toNat)) ||| BitVec.ofInt 32 (IntKind.u32.wrap ((IntKind.u32.wrap (IntKind.u8.wrap (BitVec.ofInt 8 ((s.getD 1 0).toNat:Int) &&& BitVec.ofInt 8 127).toNat)) * 128))).toNat) ||| BitVec.ofInt 32 (IntKind.u32.wrap ((IntKind.u32.wrap (IntKind.u8.wrap (BitVec.ofInt 8 ((s.getD 2 0).toNat:Int) &&& BitVec.ofInt 8 127).toNat)) * 16384))).toNat)))] hW aZ fun cz ba=>?_
 refine qad (qab ?_)
 refine wp_seq ?_
 refine qac [0,1,2,3,4] kz ?_
 refine qai [0] [1,2,3,4] [(0,.v (.slice A s.length c)),(4,.v (.int .u32 (IntKind.u32.wrap (BitVec.ofInt 32 (IntKind.u32.wrap (BitVec.ofInt 32 (IntKind.u32.wrap (IntKind.u8.wrap (BitVec.ofInt 8 ((s.getD 0 0).toNat:Int) &&& BitVec.ofInt 8 127).toNat)) ||| BitVec.ofInt 32 (IntKind.u32.wrap ((IntKind.u32.wrap (IntKind.u8.wrap (BitVec.ofInt 8 ((s.getD 1 0).toNat:Int) &&& BitVec.ofInt 8 127).toNat)) * 128))).toNat) ||| BitVec.ofInt 32 (IntKind.u32.wrap ((IntKind.u32.wrap (IntKind.u8.wrap (BitVec.ofInt 8 ((s.getD 2 0).toNat:Int) &&& BitVec.ofInt 8 127).toNat)) * 16384))).toNat))),(48,.v (.slice A s.length c))] hW ba fun cA bf=>?_
 refine qag (qak bf (t:=22) (A:=A) (m:=s.length) (q:=2) (d:=49) kz (e:=5) (size:=1) (bytes:=1) (j:=2) kz ar rfl (by first | omega | (simp only [List.length_append,be_length,List.length_cons,List.length_nil] at *; omega)) fun cB bg=>?_)
 refine qag (qal bg (t:=5) (b:=bz) (o:=bA + 2 * 1) (d:=50) kz (cs:=[.int .u8 ((s.getD 2 0).toNat:Int)]) (v:=.int .u8 ((s.getD 2 0).toNat:Int)) kz (AtF.move ae hW.step nilM qat).at_ fun cC bh=>?_)
 refine qai [3,4] [] [(0,.v (.slice A s.length c)),(4,.v (.int .u32 (IntKind.u32.wrap (BitVec.ofInt 32 (IntKind.u32.wrap (BitVec.ofInt 32 (IntKind.u32.wrap (IntKind.u8.wrap (BitVec.ofInt 8 ((s.getD 0 0).toNat:Int) &&& BitVec.ofInt 8 127).toNat)) ||| BitVec.ofInt 32 (IntKind.u32.wrap ((IntKind.u32.wrap (IntKind.u8.wrap (BitVec.ofInt 8 ((s.getD 1 0).toNat:Int) &&& BitVec.ofInt 8 127).toNat)) * 128))).toNat) ||| BitVec.ofInt 32 (IntKind.u32.wrap ((IntKind.u32.wrap (IntKind.u8.wrap (BitVec.ofInt 8 ((s.getD 2 0).toNat:Int) &&& BitVec.ofInt 8 127).toNat)) * 16384))).toNat))),(52,.v (.bool ((IntKind.u8.wrap (BitVec.ofInt 8 ((s.getD 2 0).toNat:Int) &&& BitVec.ofInt 8 128).toNat) == 0)))] hW bh fun cD au=>?_
 refine qad (qab ?_)
 refine qah au (b:=(IntKind.u8.wrap (BitVec.ofInt 8 ((s.getD 2 0).toNat:Int) &&& BitVec.ofInt 8 128).toNat) == 0) kz ((qa3 _ (qaG s 2)).trans (decide_eq_false (by have:=h2; unfold oc at this; omega))) ?_
 refine qan [(0,.v (.slice A s.length c)),(4,.v (.int .u32 (IntKind.u32.wrap (BitVec.ofInt 32 (IntKind.u32.wrap (BitVec.ofInt 32 (IntKind.u32.wrap (IntKind.u8.wrap (BitVec.ofInt 8 ((s.getD 0 0).toNat:Int) &&& BitVec.ofInt 8 127).toNat)) ||| BitVec.ofInt 32 (IntKind.u32.wrap ((IntKind.u32.wrap (IntKind.u8.wrap (BitVec.ofInt 8 ((s.getD 1 0).toNat:Int) &&& BitVec.ofInt 8 127).toNat)) * 128))).toNat) ||| BitVec.ofInt 32 (IntKind.u32.wrap ((IntKind.u32.wrap (IntKind.u8.wrap (BitVec.ofInt 8 ((s.getD 2 0).toNat:Int) &&& BitVec.ofInt 8 127).toNat)) * 16384))).toNat))),(56,.v (.bool (decide (((s.length:Nat):Int) < 4))))] hW au fun cE av=>?_
 refine qah av (b:=decide (((s.length:Nat):Int) < 4)) kz (decide_eq_false (by omega)) ?_
 refine wp_skip ?_
 refine qab ?_
 refine qac [0,1,2,3,4,5,6,7,8] kz ?_
 refine qai [0,1] [2,3,4,5,6,7,8] [(0,.v (.slice A s.length c)),(57,.v (.int .u32 (IntKind.u32.wrap (BitVec.ofInt 32 (IntKind.u32.wrap (BitVec.ofInt 32 (IntKind.u32.wrap (IntKind.u8.wrap (BitVec.ofInt 8 ((s.getD 0 0).toNat:Int) &&& BitVec.ofInt 8 127).toNat)) ||| BitVec.ofInt 32 (IntKind.u32.wrap ((IntKind.u32.wrap (IntKind.u8.wrap (BitVec.ofInt 8 ((s.getD 1 0).toNat:Int) &&& BitVec.ofInt 8 127).toNat)) * 128))).toNat) ||| BitVec.ofInt 32 (IntKind.u32.wrap ((IntKind.u32.wrap (IntKind.u8.wrap (BitVec.ofInt 8 ((s.getD 2 0).toNat:Int) &&& BitVec.ofInt 8 127).toNat)) * 16384))).toNat))),(58,.v (.slice A s.length c))] hW av fun cF bi=>?_
 obtain ⟨bB,bC,aw,bH,af⟩:=Slots.get ho (i:=3) (by first | omega | (simp only [List.length_append,be_length,List.length_cons,List.length_nil] at *; omega))
 refine qag (qak bi (t:=22) (A:=A) (m:=s.length) (q:=3) (d:=59) kz (e:=5) (size:=1) (bytes:=1) (j:=3) kz aw rfl (by first | omega | (simp only [List.length_append,be_length,List.length_cons,List.length_nil] at *; omega)) fun cG bj=>?_)
 refine qag (qal bj (t:=5) (b:=bB) (o:=bC + 3 * 1) (d:=60) kz (cs:=[.int .u8 ((s.getD 3 0).toNat:Int)]) (v:=.int .u8 ((s.getD 3 0).toNat:Int)) kz (AtF.move af hW.step nilM qat).at_ fun cH bk=>?_)
 refine qai [4,5,6,7,8] [] [(0,.v (.slice A s.length c)),(4,.v (.int .u32 (IntKind.u32.wrap (BitVec.ofInt 32 (IntKind.u32.wrap (BitVec.ofInt 32 (IntKind.u32.wrap (BitVec.ofInt 32 (IntKind.u32.wrap (IntKind.u8.wrap (BitVec.ofInt 8 ((s.getD 0 0).toNat:Int) &&& BitVec.ofInt 8 127).toNat)) ||| BitVec.ofInt 32 (IntKind.u32.wrap ((IntKind.u32.wrap (IntKind.u8.wrap (BitVec.ofInt 8 ((s.getD 1 0).toNat:Int) &&& BitVec.ofInt 8 127).toNat)) * 128))).toNat) ||| BitVec.ofInt 32 (IntKind.u32.wrap ((IntKind.u32.wrap (IntKind.u8.wrap (BitVec.ofInt 8 ((s.getD 2 0).toNat:Int) &&& BitVec.ofInt 8 127).toNat)) * 16384))).toNat) ||| BitVec.ofInt 32 (IntKind.u32.wrap ((IntKind.u32.wrap (IntKind.u8.wrap (BitVec.ofInt 8 ((s.getD 3 0).toNat:Int) &&& BitVec.ofInt 8 127).toNat)) * 2097152))).toNat)))] hW bk fun cI bn=>?_
 refine qad (qab ?_)
 refine wp_seq ?_
 refine qac [0,1,2,3,4] kz ?_
 refine qai [0] [1,2,3,4] [(0,.v (.slice A s.length c)),(4,.v (.int .u32 (IntKind.u32.wrap (BitVec.ofInt 32 (IntKind.u32.wrap (BitVec.ofInt 32 (IntKind.u32.wrap (BitVec.ofInt 32 (IntKind.u32.wrap (IntKind.u8.wrap (BitVec.ofInt 8 ((s.getD 0 0).toNat:Int) &&& BitVec.ofInt 8 127).toNat)) ||| BitVec.ofInt 32 (IntKind.u32.wrap ((IntKind.u32.wrap (IntKind.u8.wrap (BitVec.ofInt 8 ((s.getD 1 0).toNat:Int) &&& BitVec.ofInt 8 127).toNat)) * 128))).toNat) ||| BitVec.ofInt 32 (IntKind.u32.wrap ((IntKind.u32.wrap (IntKind.u8.wrap (BitVec.ofInt 8 ((s.getD 2 0).toNat:Int) &&& BitVec.ofInt 8 127).toNat)) * 16384))).toNat) ||| BitVec.ofInt 32 (IntKind.u32.wrap ((IntKind.u32.wrap (IntKind.u8.wrap (BitVec.ofInt 8 ((s.getD 3 0).toNat:Int) &&& BitVec.ofInt 8 127).toNat)) * 2097152))).toNat))),(65,.v (.slice A s.length c))] hW bn fun cJ bo=>?_
 refine qag (qak bo (t:=22) (A:=A) (m:=s.length) (q:=3) (d:=66) kz (e:=5) (size:=1) (bytes:=1) (j:=3) kz aw rfl (by first | omega | (simp only [List.length_append,be_length,List.length_cons,List.length_nil] at *; omega)) fun cK bp=>?_)
 refine qag (qal bp (t:=5) (b:=bB) (o:=bC + 3 * 1) (d:=67) kz (cs:=[.int .u8 ((s.getD 3 0).toNat:Int)]) (v:=.int .u8 ((s.getD 3 0).toNat:Int)) kz (AtF.move af hW.step nilM qat).at_ fun cL bq=>?_)
 refine qai [3,4] [] [(0,.v (.slice A s.length c)),(4,.v (.int .u32 (IntKind.u32.wrap (BitVec.ofInt 32 (IntKind.u32.wrap (BitVec.ofInt 32 (IntKind.u32.wrap (BitVec.ofInt 32 (IntKind.u32.wrap (IntKind.u8.wrap (BitVec.ofInt 8 ((s.getD 0 0).toNat:Int) &&& BitVec.ofInt 8 127).toNat)) ||| BitVec.ofInt 32 (IntKind.u32.wrap ((IntKind.u32.wrap (IntKind.u8.wrap (BitVec.ofInt 8 ((s.getD 1 0).toNat:Int) &&& BitVec.ofInt 8 127).toNat)) * 128))).toNat) ||| BitVec.ofInt 32 (IntKind.u32.wrap ((IntKind.u32.wrap (IntKind.u8.wrap (BitVec.ofInt 8 ((s.getD 2 0).toNat:Int) &&& BitVec.ofInt 8 127).toNat)) * 16384))).toNat) ||| BitVec.ofInt 32 (IntKind.u32.wrap ((IntKind.u32.wrap (IntKind.u8.wrap (BitVec.ofInt 8 ((s.getD 3 0).toNat:Int) &&& BitVec.ofInt 8 127).toNat)) * 2097152))).toNat))),(69,.v (.bool ((IntKind.u8.wrap (BitVec.ofInt 8 ((s.getD 3 0).toNat:Int) &&& BitVec.ofInt 8 128).toNat) == 0)))] hW bq fun cM ax=>?_
 refine qad (qab ?_)
 refine qah ax (b:=(IntKind.u8.wrap (BitVec.ofInt 8 ((s.getD 3 0).toNat:Int) &&& BitVec.ofInt 8 128).toNat) == 0) kz ((qa3 _ (qaG s 3)).trans (decide_eq_false (by have:=h3; unfold oc at this; omega))) ?_
 refine qan [(0,.v (.slice A s.length c)),(4,.v (.int .u32 (IntKind.u32.wrap (BitVec.ofInt 32 (IntKind.u32.wrap (BitVec.ofInt 32 (IntKind.u32.wrap (BitVec.ofInt 32 (IntKind.u32.wrap (IntKind.u8.wrap (BitVec.ofInt 8 ((s.getD 0 0).toNat:Int) &&& BitVec.ofInt 8 127).toNat)) ||| BitVec.ofInt 32 (IntKind.u32.wrap ((IntKind.u32.wrap (IntKind.u8.wrap (BitVec.ofInt 8 ((s.getD 1 0).toNat:Int) &&& BitVec.ofInt 8 127).toNat)) * 128))).toNat) ||| BitVec.ofInt 32 (IntKind.u32.wrap ((IntKind.u32.wrap (IntKind.u8.wrap (BitVec.ofInt 8 ((s.getD 2 0).toNat:Int) &&& BitVec.ofInt 8 127).toNat)) * 16384))).toNat) ||| BitVec.ofInt 32 (IntKind.u32.wrap ((IntKind.u32.wrap (IntKind.u8.wrap (BitVec.ofInt 8 ((s.getD 3 0).toNat:Int) &&& BitVec.ofInt 8 127).toNat)) * 2097152))).toNat))),(73,.v (.bool (decide (((s.length:Nat):Int) < 5))))] hW ax fun cN ag=>?_
 refine qah ag (b:=decide (((s.length:Nat):Int) < 5)) kz (decide_eq_false (by omega)) ?_
 refine wp_skip ?_
 refine qab ?_
 refine qac [0,1,2,3,4,5,6,7] kz ?_
 refine qai [0,1] [2,3,4,5,6,7] [(0,.v (.slice A s.length c)),(74,.v (.int .u32 (IntKind.u32.wrap (BitVec.ofInt 32 (IntKind.u32.wrap (BitVec.ofInt 32 (IntKind.u32.wrap (BitVec.ofInt 32 (IntKind.u32.wrap (IntKind.u8.wrap (BitVec.ofInt 8 ((s.getD 0 0).toNat:Int) &&& BitVec.ofInt 8 127).toNat)) ||| BitVec.ofInt 32 (IntKind.u32.wrap ((IntKind.u32.wrap (IntKind.u8.wrap (BitVec.ofInt 8 ((s.getD 1 0).toNat:Int) &&& BitVec.ofInt 8 127).toNat)) * 128))).toNat) ||| BitVec.ofInt 32 (IntKind.u32.wrap ((IntKind.u32.wrap (IntKind.u8.wrap (BitVec.ofInt 8 ((s.getD 2 0).toNat:Int) &&& BitVec.ofInt 8 127).toNat)) * 16384))).toNat) ||| BitVec.ofInt 32 (IntKind.u32.wrap ((IntKind.u32.wrap (IntKind.u8.wrap (BitVec.ofInt 8 ((s.getD 3 0).toNat:Int) &&& BitVec.ofInt 8 127).toNat)) * 2097152))).toNat))),(75,.v (.slice A s.length c))] hW ag fun bI ay=>?_
 obtain ⟨az,aA,ah,bD,aa⟩:=Slots.get ho (i:=4) (by first | omega | (simp only [List.length_append,be_length,List.length_cons,List.length_nil] at *; omega))
 refine qag (qak ay (t:=22) (A:=A) (m:=s.length) (q:=4) (d:=76) kz (e:=5) (size:=1) (bytes:=1) (j:=4) kz ah rfl (by first | omega | (simp only [List.length_append,be_length,List.length_cons,List.length_nil] at *; omega)) fun bJ aB=>?_)
 refine qag (qal aB (t:=5) (b:=az) (o:=aA + 4 * 1) (d:=77) kz (cs:=[.int .u8 ((s.getD 4 0).toNat:Int)]) (v:=.int .u8 ((s.getD 4 0).toNat:Int)) kz (AtF.move aa hW.step nilM qat).at_ fun bK aC=>?_)
 refine qai [4,5,6,7] [] [(0,.v (.slice A s.length c)),(4,.v (.int .u32 (IntKind.u32.wrap (BitVec.ofInt 32 (IntKind.u32.wrap (BitVec.ofInt 32 (IntKind.u32.wrap (BitVec.ofInt 32 (IntKind.u32.wrap (BitVec.ofInt 32 (IntKind.u32.wrap (IntKind.u8.wrap (BitVec.ofInt 8 ((s.getD 0 0).toNat:Int) &&& BitVec.ofInt 8 127).toNat)) ||| BitVec.ofInt 32 (IntKind.u32.wrap ((IntKind.u32.wrap (IntKind.u8.wrap (BitVec.ofInt 8 ((s.getD 1 0).toNat:Int) &&& BitVec.ofInt 8 127).toNat)) * 128))).toNat) ||| BitVec.ofInt 32 (IntKind.u32.wrap ((IntKind.u32.wrap (IntKind.u8.wrap (BitVec.ofInt 8 ((s.getD 2 0).toNat:Int) &&& BitVec.ofInt 8 127).toNat)) * 16384))).toNat) ||| BitVec.ofInt 32 (IntKind.u32.wrap ((IntKind.u32.wrap (IntKind.u8.wrap (BitVec.ofInt 8 ((s.getD 3 0).toNat:Int) &&& BitVec.ofInt 8 127).toNat)) * 2097152))).toNat) ||| BitVec.ofInt 32 (IntKind.u32.wrap ((IntKind.u32.wrap ((s.getD 4 0).toNat:Int)) * 268435456))).toNat)))] hW aC fun bL aD=>?_
 refine qad (qab ?_)
 refine wp_seq ?_
 refine qac [0,1,2,3] kz ?_
 refine qai [0] [1,2,3] [(4,.v (.int .u32 (IntKind.u32.wrap (BitVec.ofInt 32 (IntKind.u32.wrap (BitVec.ofInt 32 (IntKind.u32.wrap (BitVec.ofInt 32 (IntKind.u32.wrap (BitVec.ofInt 32 (IntKind.u32.wrap (IntKind.u8.wrap (BitVec.ofInt 8 ((s.getD 0 0).toNat:Int) &&& BitVec.ofInt 8 127).toNat)) ||| BitVec.ofInt 32 (IntKind.u32.wrap ((IntKind.u32.wrap (IntKind.u8.wrap (BitVec.ofInt 8 ((s.getD 1 0).toNat:Int) &&& BitVec.ofInt 8 127).toNat)) * 128))).toNat) ||| BitVec.ofInt 32 (IntKind.u32.wrap ((IntKind.u32.wrap (IntKind.u8.wrap (BitVec.ofInt 8 ((s.getD 2 0).toNat:Int) &&& BitVec.ofInt 8 127).toNat)) * 16384))).toNat) ||| BitVec.ofInt 32 (IntKind.u32.wrap ((IntKind.u32.wrap (IntKind.u8.wrap (BitVec.ofInt 8 ((s.getD 3 0).toNat:Int) &&& BitVec.ofInt 8 127).toNat)) * 2097152))).toNat) ||| BitVec.ofInt 32 (IntKind.u32.wrap ((IntKind.u32.wrap ((s.getD 4 0).toNat:Int)) * 268435456))).toNat))),(81,.v (.slice A s.length c))] hW aD fun bM aE=>?_
 refine qag (qak aE (t:=22) (A:=A) (m:=s.length) (q:=4) (d:=82) kz (e:=5) (size:=1) (bytes:=1) (j:=4) kz ah rfl (by first | omega | (simp only [List.length_append,be_length,List.length_cons,List.length_nil] at *; omega)) fun bN aF=>?_)
 refine qag (qal aF (t:=5) (b:=az) (o:=aA + 4 * 1) (d:=83) kz (cs:=[.int .u8 ((s.getD 4 0).toNat:Int)]) (v:=.int .u8 ((s.getD 4 0).toNat:Int)) kz (AtF.move aa hW.step nilM qat).at_ fun bO aG=>?_)
 refine qai [3] [] [(4,.v (.int .u32 (IntKind.u32.wrap (BitVec.ofInt 32 (IntKind.u32.wrap (BitVec.ofInt 32 (IntKind.u32.wrap (BitVec.ofInt 32 (IntKind.u32.wrap (BitVec.ofInt 32 (IntKind.u32.wrap (IntKind.u8.wrap (BitVec.ofInt 8 ((s.getD 0 0).toNat:Int) &&& BitVec.ofInt 8 127).toNat)) ||| BitVec.ofInt 32 (IntKind.u32.wrap ((IntKind.u32.wrap (IntKind.u8.wrap (BitVec.ofInt 8 ((s.getD 1 0).toNat:Int) &&& BitVec.ofInt 8 127).toNat)) * 128))).toNat) ||| BitVec.ofInt 32 (IntKind.u32.wrap ((IntKind.u32.wrap (IntKind.u8.wrap (BitVec.ofInt 8 ((s.getD 2 0).toNat:Int) &&& BitVec.ofInt 8 127).toNat)) * 16384))).toNat) ||| BitVec.ofInt 32 (IntKind.u32.wrap ((IntKind.u32.wrap (IntKind.u8.wrap (BitVec.ofInt 8 ((s.getD 3 0).toNat:Int) &&& BitVec.ofInt 8 127).toNat)) * 2097152))).toNat) ||| BitVec.ofInt 32 (IntKind.u32.wrap ((IntKind.u32.wrap ((s.getD 4 0).toNat:Int)) * 268435456))).toNat))),(84,.v (.bool (decide (((s.getD 4 0).toNat:Int) ≤ 15))))] hW aG fun bP ai=>?_
 refine qad (qab ?_)
 refine qaK ai (b:=decide (((s.getD 4 0).toNat:Int) ≤ 15)) kz (decide_eq_true (by have:=h4; unfold oc at this; omega)) ?_
 refine qan [(2,.v (.int .u32 (IntKind.u32.wrap (BitVec.ofInt 32 (IntKind.u32.wrap (BitVec.ofInt 32 (IntKind.u32.wrap (BitVec.ofInt 32 (IntKind.u32.wrap (BitVec.ofInt 32 (IntKind.u32.wrap (IntKind.u8.wrap (BitVec.ofInt 8 ((s.getD 0 0).toNat:Int) &&& BitVec.ofInt 8 127).toNat)) ||| BitVec.ofInt 32 (IntKind.u32.wrap ((IntKind.u32.wrap (IntKind.u8.wrap (BitVec.ofInt 8 ((s.getD 1 0).toNat:Int) &&& BitVec.ofInt 8 127).toNat)) * 128))).toNat) ||| BitVec.ofInt 32 (IntKind.u32.wrap ((IntKind.u32.wrap (IntKind.u8.wrap (BitVec.ofInt 8 ((s.getD 2 0).toNat:Int) &&& BitVec.ofInt 8 127).toNat)) * 16384))).toNat) ||| BitVec.ofInt 32 (IntKind.u32.wrap ((IntKind.u32.wrap (IntKind.u8.wrap (BitVec.ofInt 8 ((s.getD 3 0).toNat:Int) &&& BitVec.ofInt 8 127).toNat)) * 2097152))).toNat) ||| BitVec.ofInt 32 (IntKind.u32.wrap ((IntKind.u32.wrap ((s.getD 4 0).toNat:Int)) * 268435456))).toNat))),(3,.v (.int .i64 5))] hW ai fun bQ aH=>?_
 refine wp_ret ?_
 refine qaP ?_
 refine qbC ?_
 refine qaO aH hW.cells (v:=.tuple #[.int .u32 (IntKind.u32.wrap (BitVec.ofInt 32 (IntKind.u32.wrap (BitVec.ofInt 32 (IntKind.u32.wrap (BitVec.ofInt 32 (IntKind.u32.wrap (BitVec.ofInt 32 (IntKind.u32.wrap (IntKind.u8.wrap (BitVec.ofInt 8 ((s.getD 0 0).toNat:Int) &&& BitVec.ofInt 8 127).toNat)) ||| BitVec.ofInt 32 (IntKind.u32.wrap ((IntKind.u32.wrap (IntKind.u8.wrap (BitVec.ofInt 8 ((s.getD 1 0).toNat:Int) &&& BitVec.ofInt 8 127).toNat)) * 128))).toNat) ||| BitVec.ofInt 32 (IntKind.u32.wrap ((IntKind.u32.wrap (IntKind.u8.wrap (BitVec.ofInt 8 ((s.getD 2 0).toNat:Int) &&& BitVec.ofInt 8 127).toNat)) * 16384))).toNat) ||| BitVec.ofInt 32 (IntKind.u32.wrap ((IntKind.u32.wrap (IntKind.u8.wrap (BitVec.ofInt 8 ((s.getD 3 0).toNat:Int) &&& BitVec.ofInt 8 127).toNat)) * 2097152))).toNat) ||| BitVec.ofInt 32 (IntKind.u32.wrap ((IntKind.u32.wrap ((s.getD 4 0).toNat:Int)) * 268435456))).toNat),.int .i64 5]) kz ?_
 have e_:=uv_5 (oc s 0) (oc s 1) (oc s 2) (oc s 3) (oc s 4) (qaG s 0) (qaG s 1) (qaG s 2) (qaG s 3) (by omega)
 refine ⟨congrArg (fun z_:Int=>Ending.returned (.tuple #[.int .u32 z_,.int .i64 5])) (Eq.trans e_ ?_),hW.step⟩
 omega
theorem qei {br:Nat} {A:Option Addr} {m c:Nat} {w:World} (hst:Str w br [.slice A m c,.bool false]) :
  Calls Tryd.prog 44 #[.pointer (some ⟨br,0,none⟩)] w (fun e w'=>e = .returned .nilIface ∧ w' = w):=by
 refine enter (n:=8) Tryd.func44 rfl Tryd.ntmps44 kz fun a hE=>?_
 have hW:WOk w (RdM br) w [⟨br,0,[.slice A m c,.bool false],true⟩] []:=WOk.startStr hst
 have hE1:=(hE.grow ⟨br,0,[.slice A m c,.bool false],true⟩).recast 0 (.v (.pointer (some ⟨br,0,none⟩))) (.p 0 0) rfl rfl (Nat.le_of_ble_eq_true (n:=1) rfl)
 refine qan [(0,.p 0 0)] hW hE1 fun a1 hE2=>?_
 refine wp_seq ?_
 refine qan [(6,.v (.bool false))] hW hE2 fun a3 hE4=>?_
 refine qah hE4 (b:=false) kz rfl ?_
 refine wp_skip ?_
 refine qab ?_
 refine qan [(2,.v (.nilIface))] hW hE4 fun a5 hE6=>?_
 refine wp_ret ?_
 refine qaO hE6 hW.cells (v:=.nilIface) kz ?_
 exact ⟨rfl,rfl⟩
theorem qdr {P:Program} {c:Code} {Mid:Act → World → Prop} {Q:Exit → Act → World → Prop} {a:Act} {w:World} (h1:c.wp P (Exit.then Mid Q) a w) (h2:∀ a' w',Mid a' w' → Q .normal a' w'):c.wp P Q a w :=
 wp_mono h1 fun e a' w' h=>by
  cases e <;> first | exact h2 a' w' h | exact h
abbrev Sg:=Bool × Bs
abbrev rdoU (br:Nat) (bd:Bool) (A:Option Addr) (m c:Nat):Ob:=⟨br,0,[.slice A m c,.bool bd],true⟩
theorem qeP {br:Nat} {bd bd':Bool} {A A':Option Addr} {m c m' c':Nat} {tb:Tb} {rs:List Rw} {b o:Nat} (h:Act_ (rdoU br bd A m c :: tb) rs b o):Act_ (rdoU br bd' A' m' c' :: tb) rs b o:=by
 rcases h with ⟨i,ob,hi,h1⟩ | h
 ·cases i with
  | zero =>
   simp only [List.getElem?_cons_zero,Option.some.injEq] at hi
   subst hi
   exact .inl ⟨0,_,rfl,h1⟩
  | succ i=>exact .inl ⟨i + 1,ob,hi,h1⟩
 exact .inr h
theorem qci {G:Nat → Nat → Prop} {w0 w:World} {br:Nat} {bd bd':Bool} {A A':Option Addr} {m c m' c':Nat} {tb:Tb} {rs:List Rw} {b o:Nat} (h:Imm G w0 w (rdoU br bd A m c :: tb) rs b o):Imm G w0 w (rdoU br bd' A' m' c' :: tb) rs b o :=
 ⟨h.1,h.2.1,fun ha=>h.2.2 (qeP ha)⟩
theorem qcj {n br:Nat} {bd bd':Bool} {A A':Option Addr} {m c m' c':Nat} {tb:Tb} {env:Env} {a:Act} (h:EnvOk n (rdoU br bd A m c :: tb) env a):EnvOk n (rdoU br bd' A' m' c' :: tb) env a:=by
 refine h.table fun i hi=>?_
 cases i with
 | zero=>exact ⟨by simp,rfl,rfl⟩
 | succ i=>exact ⟨by simpa using hi,rfl,rfl⟩
structure RSU (w0:World) (M F:Nat → Nat → Prop) (n br:Nat) (tb:Tb) (env:Env) (P:qbT) (σ:Sg) (a:Act) (w:World):Prop where
 mv:MvF P
 ex:∃ A m c,WOk w0 M w (rdoU br σ.1 A m c :: tb) [] ∧ RdS w (Imm F w0 w (rdoU br false none 0 0 :: tb) []) A m c σ.2
 env_:EnvOk n (rdoU br false none 0 0 :: tb) env a
 fact:P w (Imm F w0 w (rdoU br false none 0 0 :: tb) [])
 lim:σ.2.length ≤ 1000
section
variable {Pr:Program} {ops opsA opsB opsC:Array Oper} {Q:Exit → Act → World → Prop} {w0:World} {M F:Nat → Nat → Prop} {n br:Nat} {tb:Tb} {env:Env} {P:qbT} {σ:Sg} {a:Act} {w:World}
theorem RSU.mk' {A:Option Addr} {m c:Nat} (hW:WOk w0 M w (rdoU br σ.1 A m c :: tb) []) (hr:RdS w (Imm F w0 w (rdoU br σ.1 A m c :: tb) []) A m c σ.2) (hE:EnvOk n (rdoU br σ.1 A m c :: tb) env a) (mv:MvF P) (hP:P w (Imm F w0 w (rdoU br σ.1 A m c :: tb) [])) (lim:σ.2.length ≤ 1000):RSU w0 M F n br tb env P σ a w :=
 ⟨mv,⟨A,m,c,hW,hr.move (Step.refl w Nil) nilM fun b o h _=>qci h⟩,(qcj hE),mv.mono (fun b o h _=>qci h) hP,lim⟩
theorem RSU.open_ (h:RSU w0 M F n br tb env P σ a w):∃ A m c,WOk w0 M w (rdoU br σ.1 A m c :: tb) [] ∧ RdS w (Imm F w0 w (rdoU br σ.1 A m c :: tb) []) A m c σ.2 ∧ EnvOk n (rdoU br σ.1 A m c :: tb) env a ∧ P w (Imm F w0 w (rdoU br σ.1 A m c :: tb) []):=by
 obtain ⟨A,m,c,hW,hr⟩:=h.ex
 exact ⟨A,m,c,hW,hr.move (Step.refl w Nil) nilM fun b o h _=>qci h,(qcj h.env_),h.mv.mono (fun b o h _=>qci h) h.fact⟩
theorem RSU.cast {σ':Sg} (h:RSU w0 M F n br tb env P σ a w) (e:σ = σ'):RSU w0 M F n br tb env P σ' a w:=e ▸ h
theorem RSU.pk {env':Env} (h:RSU w0 M F n br tb env P σ a w) (e:ME.pick env (qbu env') = some env':=by kernel_rfl):RSU w0 M F n br tb env' P σ a w:=⟨h.mv,h.ex,h.env_.pk e,h.fact,h.lim⟩
theorem qcJ {L:List Nat} (idxs rest:List Nat) (env':Env) (h:RSU w0 M F n br tb env P σ a w) (k:∀ a',RSU w0 M F n br tb env' P σ a' w → wpOps Pr ops Q rest a' w) (e:∀ bd A m c,qct Pr ops n (rdoU br bd A m c :: tb) idxs (qbu env') env = some env':=by intro _ _ _ _; kernel_rfl) (hl:L = idxs ++ rest:=by rfl):wpOps Pr ops Q L a w:=by
 obtain ⟨A,m,c,hW,hr,hE,hP⟩:=h.open_
 exact qa2 idxs rest (qbu env') hW hE (e _ A m c) hl fun a' hE'=>k a' (RSU.mk' hW hr hE' h.mv hP h.lim)
theorem qcx {id:Nat} (env':Env) (h:RSU w0 M F n br tb env P σ a w) (k:∀ a',RSU w0 M F n br tb env' P σ a' w → Q .normal a' w) (e:∀ bd A m c,qct Pr ops n (rdoU br bd A m c :: tb) (List.range ops.size) (qbu env') env = some env':=by intro _ _ _ _; kernel_rfl):(Code.region id ops false).wp Pr Q a w :=
 qaw (List.range ops.size) rfl (qcJ (List.range ops.size) [] env' h (fun a' h'=>qad (k a' h')) e (List.append_nil _).symm)
def RdPostT (w:World) (br:Nat) (F:Nat → Nat → Prop) (σ':Sg) (Q:Value → World → Prop):Ending → World → Prop:=fun e w' =>
 ∃ v A' n' c',e = .returned v ∧ Str w' br [.slice A' n' c',.bool σ'.1] ∧ RdS w' F A' n' c' σ'.2 ∧ Step w w' (RdM br) ∧ Q v w'
structure RPrimU (Pr:Program) (f:FuncId) {τ:Type} (σ σ':Sg) (val:τ → Value) (fact:τ → qbT):Prop where
 len:σ'.2.length ≤ σ.2.length
 go:∀ {br:Nat} {A:Option Addr} {m c:Nat} {w:World} {F:Nat → Nat → Prop},Str w br [.slice A m c,.bool σ.1] → RdS w F A m c σ.2 → (∀ b o,F b o → ¬ RdM br b o) →
  Calls Pr f #[.pointer (some ⟨br,0,none⟩)] w (RdPostT w br (Fp F w) σ' fun v w'=>∃ x,v = val x ∧ fact x w' (Fp F w))
structure RPrim0U (Pr:Program) (f:FuncId) (σ σ':Sg) (v0:Value):Prop where
 len:σ'.2.length ≤ σ.2.length
 go:∀ {br:Nat} {A:Option Addr} {m c:Nat} {w:World} {F:Nat → Nat → Prop},Str w br [.slice A m c,.bool σ.1] → RdS w F A m c σ.2 → (∀ b o,F b o → ¬ RdM br b o) →
  Calls Pr f #[.pointer (some ⟨br,0,none⟩)] w (RdPostT w br (Fp F w) σ' fun v w'=>v = v0)
theorem RdPostT.fp {w:World} {br:Nat} {F:Nat → Nat → Prop} {σ':Sg} {Q Q':Value → World → Prop} {e:Ending} {w':World} (hq:∀ v w',Q v w' → Q' v w') (h:RdPostT w br F σ' Q e w'):RdPostT w br (Fp F w) σ' Q' e w':=by
 obtain ⟨v,A',n',c',h1,h2,h3,h4,h5⟩:=h
 exact ⟨v,A',n',c',h1,h2,h3.move (Step.refl _ Nil) nilM fun b o g _=>.inl g,h4,hq _ _ h5⟩
theorem RdPostT.q {w:World} {br:Nat} {F:Nat → Nat → Prop} {σ':Sg} {Q Q':Value → World → Prop} {e:Ending} {w':World} (hq:∀ v w',Q v w' → Q' v w') (h:RdPostT w br F σ' Q e w'):RdPostT w br F σ' Q' e w':=by
 obtain ⟨v,A',n',c',h1,h2,h3,h4,h5⟩:=h
 exact ⟨v,A',n',c',h1,h2,h3,h4,hq _ _ h5⟩
theorem qeQ {i d:Nat} {f:FuncId} {τ:Type} {σ':Sg} {val:τ → Value} {fact:τ → qbT} {N:Act → World → Prop} (h:RSU w0 M F n br tb env P σ a w) (hc:RPrimU Pr f σ σ' val fact) (hm:∀ x,MvF (fact x))
  (hf:∀ args w,(callFunc f args).run Pr w = .ok (.enter f args) w) (K:∀ x P' a' w',(∀ w F,P' w F → P w F ∧ fact x w F) → RSU w0 M F n br tb ((d,.v (val x)) :: env) P' σ' a' w' → N a' w')
  (he:∀ bd A m c,qcY (rdoU br bd A m c :: tb) env ops n i = some (f,[.pointer (some ⟨br,0,none⟩)],d):=by intro _ _ _ _; kernel_rfl):wpOp Pr ops Q i N a w:=by
 obtain ⟨A,m,c,hW,hr,hE,hP⟩:=h.open_
 refine qaq hE (he _ A m c) hf (hc.go (Str.of hW 0 rfl) hr (qdp 0 rfl)) ?_
 rintro e_ w1 ⟨_,A1,n1,c1,rfl,hs,hr1,hst,x,rfl,hx⟩
 refine ⟨_,rfl,fun a1 hE1=>?_⟩
 obtain ⟨hW2,hF2,hL⟩:=hW.wrote 0 (rdoU br σ'.1 A1 n1 c1 :: tb) rfl hst hs
 exact K x (andF P (fact x)) a1 w1 (fun _ _ g=>g) (RSU.mk' hW2 (hr1.move (Step.refl _ Nil) nilM hL) (qcj hE1) (h.mv.and (hm x)) ⟨h.mv.move hF2.step immM hF2.to' hP,(hm x).mono hL hx⟩ (Nat.le_trans hc.len h.lim))
theorem qej {i d:Nat} {f:FuncId} {σ':Sg} {v0:Value} {N:Act → World → Prop} (h:RSU w0 M F n br tb env P σ a w) (hc:RPrim0U Pr f σ σ' v0)
  (hf:∀ args w,(callFunc f args).run Pr w = .ok (.enter f args) w) (K:∀ a' w',RSU w0 M F n br tb ((d,.v v0) :: env) P σ' a' w' → N a' w')
  (he:∀ bd A m c,qcY (rdoU br bd A m c :: tb) env ops n i = some (f,[.pointer (some ⟨br,0,none⟩)],d):=by intro _ _ _ _; kernel_rfl):wpOp Pr ops Q i N a w:=by
 obtain ⟨A,m,c,hW,hr,hE,hP⟩:=h.open_
 refine qaq hE (he _ A m c) hf (hc.go (Str.of hW 0 rfl) hr (qdp 0 rfl)) ?_
 rintro e_ w1 ⟨_,A1,n1,c1,rfl,hs,hr1,hst,rfl⟩
 refine ⟨_,rfl,fun a1 hE1=>?_⟩
 obtain ⟨hW2,hF2,hL⟩:=hW.wrote 0 (rdoU br σ'.1 A1 n1 c1 :: tb) rfl hst hs
 exact K a1 w1 (RSU.mk' hW2 (hr1.move (Step.refl _ Nil) nilM hL) (qcj hE1) h.mv (h.mv.move hF2.step immM hF2.to' hP) (Nat.le_trans hc.len h.lim))
theorem qc5 {i d:Nat} {f:FuncId} {v0:Value} {N:Act → World → Prop} (h:RSU w0 M F n br tb env P σ a w) (hc:∀ {br:Nat} {A:Option Addr} {m c:Nat} {w:World},Str w br [.slice A m c,.bool σ.1] → Calls Pr f #[.pointer (some ⟨br,0,none⟩)] w (fun e w'=>e = .returned v0 ∧ w' = w))
  (hf:∀ args w,(callFunc f args).run Pr w = .ok (.enter f args) w) (K:∀ a',RSU w0 M F n br tb ((d,.v v0) :: env) P σ a' w → N a' w)
  (he:∀ bd A m c,qcY (rdoU br bd A m c :: tb) env ops n i = some (f,[.pointer (some ⟨br,0,none⟩)],d):=by intro _ _ _ _; kernel_rfl):wpOp Pr ops Q i N a w:=by
 obtain ⟨A,m,c,hW,hr,hE,hP⟩:=h.open_
 refine qaq hE (he _ A m c) hf (hc (Str.of hW 0 rfl)) ?_
 rintro e_ _ ⟨rfl,rfl⟩
 exact ⟨_,rfl,fun a1 hE1=>K a1 (RSU.mk' hW hr hE1 h.mv hP h.lim)⟩
theorem qek {i:Nat} (tb':Tb) (j:Nat) {N:Act → World → Prop} (h:RSU w0 M F n br tb env P σ a w) (K:∀ w',RSU w0 M F n br tb' env P σ a w' → N a w')
  (he:∀ bd A m c,qdh Pr (rdoU br bd A m c :: tb) env ops i = some (j + 1,(obAt tb' j).cells):=by intro _ _ _ _; kernel_rfl) (ht:Tb.put tb j (obAt tb' j).cells = tb':=by rfl):wpOp Pr ops Q i N a w:=by
 obtain ⟨A,m,c,hW,hr,hE,hP⟩:=h.open_
 refine qam hW hE (he _ A m c) fun w1 hF1 hW1 hE1=>K w1 ?_
 have e:Tb.put (rdoU br σ.1 A m c :: tb) (j + 1) (obAt tb' j).cells = rdoU br σ.1 A m c :: tb':=by
  show rdoU br σ.1 A m c :: Tb.put tb j (obAt tb' j).cells = _
  rw [ht]
 rw [e] at hF1 hW1 hE1
 exact RSU.mk' hW1 (hr.move hF1.step immM hF1.to') hE1 h.mv (h.mv.move hF1.step immM hF1.to' hP) h.lim
theorem qel {id d:Nat} {f:FuncId} {σ':Sg} {v0:Value} (env':Env) (h:RSU w0 M F n br tb env P σ a w) (hc:RPrim0U Pr f σ σ' v0)
  (hf:∀ args w,(callFunc f args).run Pr w = .ok (.enter f args) w) (K:∀ a' w',RSU w0 M F n br tb env' P σ' a' w' → Q .normal a' w')
  (he:∀ bd A m c,qcY (rdoU br bd A m c :: tb) env ops n 0 = some (f,[.pointer (some ⟨br,0,none⟩)],d):=by intro _ _ _ _; kernel_rfl)
  (e:∀ bd A m c,qct Pr ops n (rdoU br bd A m c :: tb) ((List.range ops.size).drop 1) (qbu env') ((d,.v v0) :: env) = some env':=by intro _ _ _ _; kernel_rfl) (hs:Nat.blt 0 ops.size = true:=by kernel_rfl):(Code.region id ops false).wp Pr Q a w:=by
 refine qaw _ (qdO hs) (qag (qej h hc hf (fun a' w' hS=>?_) he))
 exact qcJ ((List.range ops.size).drop 1) [] env' hS (fun a2 h2=>qad (K a2 w' h2)) e (List.append_nil _).symm
theorem qem {id:Nat} (tb':Tb) (j:Nat) (env':Env) (h:RSU w0 M F n br tb env P σ a w) (K:∀ a' w',RSU w0 M F n br tb' env' P σ a' w' → Q .normal a' w')
  (he:∀ bd A m c,stoE Pr ops n (rdoU br bd A m c :: tb) env (qbu env') = some (j + 1,(obAt tb' j).cells,env'):=by intro _ _ _ _; kernel_rfl) (ht:Tb.put tb j (obAt tb' j).cells = tb':=by rfl) (hs:Nat.blt 0 ops.size = true:=by kernel_rfl):(Code.region id ops false).wp Pr Q a w:=by
 obtain ⟨A,m,c,hW,hr,hE,hP⟩:=h.open_
 have h1:=he σ.1 A m c
 unfold stoE at h1
 split at h1
 ·rename_i e he'
  split at h1
  ·rename_i i cs e' g1 g2
   simp only [Option.some.injEq,Prod.mk.injEq] at h1
   obtain ⟨rfl,rfl,rfl⟩:=h1
   have hr0:List.range ops.size = List.range (ops.size - 1) ++ [ops.size - 1]:=by
    have:0 < ops.size:=by simpa [Nat.blt_eq] using hs
    rw [← List.range_succ]; congr 1; omega
   refine qaw _ hr0 (qbQ hW.cells hE he' fun a1 hE1=>qag (qam hW hE1 g1 fun w1 hF1 hW1 hE2=>qad (K a1 w1 ?_)))
   have e:Tb.put (rdoU br σ.1 A m c :: tb) (j + 1) (obAt tb' j).cells = rdoU br σ.1 A m c :: tb':=by
    show rdoU br σ.1 A m c :: Tb.put tb j (obAt tb' j).cells = _
    rw [ht]
   rw [e] at hF1 hW1 hE2
   exact RSU.mk' hW1 (hr.move hF1.step immM hF1.to') (hE2.pick g2) h.mv (h.mv.move hF1.step immM hF1.to' hP) h.lim
  cases h1
 cases h1
end
theorem RdS.dropT {w:World} {F:Nat → Nat → Prop} {A:Option Addr} {n c j:Nat} {s:Bs} (h:RdS w F A n c s) (hj:j ≤ s.length):RdS w F (cutA A c j) (n - j) (c - j) (s.drop j) :=
 ⟨by rw [h.len,List.length_drop],h.oct.drop hj⟩
theorem RdS.nil_ (w:World) (F:Nat → Nat → Prop):RdS w F none 0 0 []:=⟨rfl,Octs.nil _ _⟩
theorem qcc {l:Nat} {J:Act → World → Prop} {Q:Exit → Act → World → Prop} {a:Act} {w:World} (h:Q .ret a w):Exit.jump l J Q .ret a w:=h
def badS:Sg:=(true,[])
def aN (k:Nat) (σ:Sg):Sg:=if σ.2.length < k then badS else (σ.1,σ.2.drop k)
def uI32 (σ:Sg):Int:=if σ.2.length < 4 then 0 else IntKind.i32.wrap (be32 σ.2)
def uI64 (σ:Sg):Int:=if σ.2.length < 8 then 0 else IntKind.i64.wrap (be64 σ.2)
def uvG (s:Bs):Nat × Int :=
 if s.length < 1 then (0,0) else if oc s 0 < 128 then (oc s 0,1) else
 if s.length < 2 then (0,0) else if oc s 1 < 128 then (oc s 0 - 128 + oc s 1 * 128,2) else
 if s.length < 3 then (0,0) else if oc s 2 < 128 then (oc s 0 - 128 + (oc s 1 - 128) * 128 + oc s 2 * 16384,3) else
 if s.length < 4 then (0,0) else if oc s 3 < 128 then (oc s 0 - 128 + (oc s 1 - 128) * 128 + (oc s 2 - 128) * 16384 + oc s 3 * 2097152,4) else
 if s.length < 5 then (0,0) else if oc s 4 < 16 then (oc s 0 - 128 + (oc s 1 - 128) * 128 + (oc s 2 - 128) * 16384 + (oc s 3 - 128) * 2097152 + oc s 4 * 268435456,5) else (0,-5)
theorem qcV (s:Bs):(uvG s).2 ≤ (s.length:Int) ∧ (uvG s).1 < 4294967296:=by
 have h0:=qaG s 0
 have h1:=qaG s 1
 have h2:=qaG s 2
 have h3:=qaG s 3
 unfold uvG
 repeat' split
 all_goals (refine ⟨?_,?_⟩ <;> dsimp only <;> omega)
def uUv (σ:Sg):Nat:=if (uvG σ.2).2 ≤ 0 then 0 else (uvG σ.2).1
def aUv (σ:Sg):Sg:=if (uvG σ.2).2 ≤ 0 then badS else (σ.1,σ.2.drop (uvG σ.2).2.toNat)
def uSp (l:Int) (σ:Sg):Bs:=if (σ.2.length:Int) < l ∨ l < 0 then [] else σ.2.take l.toNat
def aSp (l:Int) (σ:Sg):Sg:=if (σ.2.length:Int) < l ∨ l < 0 then badS else (σ.1,σ.2.drop l.toNat)
def tag1 (u:List (Int × Bs)) (σ:Sg):List (Int × Bs):=setT u (uUv σ:Int) (uSp (uUv (aUv σ):Int) (aUv (aUv σ)))
def aTag (σ:Sg):Sg:=aSp (uUv (aUv σ):Int) (aUv (aUv σ))
def qcA:Nat → List (Int × Bs) → Sg → List (Int × Bs) × Sg
 | 0,u,σ=>(u,σ)
 | n + 1,u,σ=>qcA n (tag1 u σ) (aTag σ)
def qcy (σ:Sg):List (Int × Bs):=(qcA (uUv σ) [] (aUv σ)).1
def qdP (σ:Sg):Sg:=(qcA (uUv σ) [] (aUv σ)).2
structure Mn (f:Sg → Sg):Prop where
 len:∀ σ,(f σ).2.length ≤ σ.2.length
 bad:∀ σ,σ.1 = true → (f σ).1 = true
theorem Mn.id_:Mn (fun σ=>σ):=⟨fun _=>Nat.le_refl _,fun _ h=>h⟩
theorem Mn.ite {f g:Sg → Sg} {p:Sg → Prop} [∀ σ,Decidable (p σ)] (h:Mn f) (h':Mn g):Mn (fun σ=>if p σ then f σ else g σ):=⟨fun σ=>by
 split
 ·exact h.len σ
 ·exact h'.len σ,fun σ hb=>by
 split
 ·exact h.bad σ hb
 exact h'.bad σ hb⟩
theorem Mn.badS_:Mn (fun _=>badS):=⟨fun _=>Nat.zero_le _,fun _ _=>rfl⟩
theorem Mn.drop_ (k:Sg → Nat):Mn (fun σ=>(σ.1,σ.2.drop (k σ))):=⟨fun σ=>by dsimp only; rw [List.length_drop]; omega,fun _ h=>h⟩
theorem mn_N (k:Nat):Mn (aN k):=Mn.ite (p:=fun σ=>σ.2.length < k) Mn.badS_ (Mn.drop_ fun _=>k)
theorem mn_Uv:Mn aUv:=Mn.ite (p:=fun σ=>(uvG σ.2).2 ≤ 0) Mn.badS_ (Mn.drop_ fun σ=>(uvG σ.2).2.toNat)
theorem qfq (l:Int):Mn (aSp l):=Mn.ite (p:=fun σ=>(σ.2.length:Int) < l ∨ l < 0) Mn.badS_ (Mn.drop_ fun _=>l.toNat)
theorem mn_Tag:Mn aTag:=⟨fun σ=>Nat.le_trans ((qfq _).len _) (Nat.le_trans (mn_Uv.len _) (mn_Uv.len σ)),fun σ h=>(qfq _).bad _ (mn_Uv.bad _ (mn_Uv.bad σ h))⟩
theorem qck:∀ n u,Mn (fun σ=>(qcA n u σ).2)
 | 0,_=>Mn.id_
 | n + 1,u=>⟨fun σ=>Nat.le_trans ((qck n _).len _) (mn_Tag.len σ),fun σ h=>(qck n _).bad _ (mn_Tag.bad σ h)⟩
theorem mn_Tags:Mn qdP:=⟨fun σ=>Nat.le_trans ((qck _ _).len _) (mn_Uv.len σ),fun σ h=>(qck _ _).bad _ (mn_Uv.bad σ h)⟩
theorem qfr (l:Int) (σ:Sg):(uSp l σ).length ≤ σ.2.length:=by
 unfold uSp
 split
 ·exact Nat.zero_le _
 rw [List.length_take]; omega
theorem qen (bd:Bool) (s:Bs) (hl:4 ≤ s.length) {br:Nat} {A:Option Addr} {m c:Nat} {w:World} {F:Nat → Nat → Prop} (hst:Str w br [.slice A m c,.bool bd]) (hr:RdS w F A m c s) (hFd:∀ b o,F b o → ¬ RdM br b o) :
  Calls Tryd.prog 55 #[.pointer (some ⟨br,0,none⟩)] w (RdPostT w br F (bd,s.drop 4) fun v w'=>v = .int .i32 (IntKind.i32.wrap (be32 s))):=by
 obtain ⟨hm,ho⟩:=hr
 subst hm
 have hle:=ho.le
 have hsm:=ho.small
 refine enter (n:=32) Tryd.func55 rfl Tryd.ntmps55 kz fun a hE=>?_
 have hW:WOk w (RdM br) w [⟨br,0,[.slice A s.length c,.bool bd],true⟩] []:=WOk.startStr hst
 have hE1:=(hE.grow ⟨br,0,[.slice A s.length c,.bool bd],true⟩).recast 0 (.v (.pointer (some ⟨br,0,none⟩))) (.p 0 0) rfl rfl (Nat.le_of_ble_eq_true (n:=1) rfl)
 refine qan [(0,.p 0 0)] hW hE1 fun a1 hE2=>?_
 refine wp_seq ?_
 refine qan [(0,.p 0 0),(9,.v (.bool (decide (((s.length:Nat):Int) < 4))))] hW hE2 fun a3 hE4=>?_
 refine qah hE4 (b:=decide (((s.length:Nat):Int) < 4)) kz (decide_eq_false (by omega)) ?_
 refine wp_skip ?_
 refine qab ?_
 refine qa5 7 kz hW fun w5 hF6 hW7 hT8=>?_
 refine qaF [1,2,3,4] [(0,.p 0 0),(20,.v (.slice A s.length c))] 4 (qaa qaf) (fun _ h=>h.cells) hT8 hE4 fun a9 hE10=>?_
 refine qaz hE10 (i:=0) (t:=105) (b:=1) (o:=0) (d:=16) kz (cs:=[]) (v:=.agg #[]) kz (fun w' h'=>(fun j_ v_ h_=>by simp at h_)) kz kz (qaa qaf) hT8 fun a11 hE12=>?_
 refine qa1 (i:=5) kz (qaq hE12 (f:=67) (vs:=[.agg #[],.slice A s.length c]) (d:=21) kz Tryd.call67 (qfP _ (ho.move hW7.step (fun b_ o_ h_ _=>hFd b_ o_ h_) (hW7.immM hFd)) (by omega)) ?_)
 rintro e_ w14 ⟨rfl,hs13⟩
 refine ⟨_,rfl,fun a15 hE16=>?_⟩
 have hW17:=hW7.next_nil hs13
 have hF18:=hW7.frN hs13
 have hT19:=TT.ofW hF18 hW17
 refine ⟨fun _=>hT19,?_⟩
 refine qaF [6] [(0,.p 0 0),(22,.v (.int .i32 (IntKind.i32.wrap (be32 s))))] 1 (qaa qaf) (fun _ h=>h.cells) hT19 hE16 fun a20 hE21=>?_
 refine qa1 (i:=7) kz (qb6 [0,3] hW17.cells hE21 (env':=[(0,.p 0 0),(3,.v (.int .i32 (IntKind.i32.wrap (be32 s))))]) kz fun a22 hE23=>?_)
 refine ⟨fun h=>absurd rfl h,?_⟩
 refine qaV kz ?_ _
 refine qab ?_
 refine qac [0,1,2,3,4,5,6,7,8] kz ?_
 refine qai [0,1,2,3,4] [5,6,7,8] [(3,.v (.int .i32 (IntKind.i32.wrap (be32 s)))),(23,.p 0 0),(27,.v (.slice A s.length c))] hW17 hE23 fun a24 hE25=>?_
 refine qag (qbF hE25 (t:=22) (A:=A) (m:=s.length) (cp:=c) (q:=4) (d:=28) (j:=4) kz (e:=5) (bytes:=1) kz (rfl) (by omega) fun a26 hE27=>?_)
 refine qai [6,7] [8] [(3,.v (.int .i32 (IntKind.i32.wrap (be32 s)))),(28,.v (.slice (cutA A c 4) (s.length - 4) (c - 4))),(30,.p 0 0)] hW17 hE27 fun a28 hE29=>?_
 refine qag (qam hW17 hE29 (oi:=0) (cs:=[.slice (cutA A c 4) (s.length - 4) (c - 4),.bool bd]) kz fun w30 hF31 hW32 hE33=>?_)
 refine qad (qab ?_)
 refine qan [(2,.v (.int .i32 (IntKind.i32.wrap (be32 s))))] hW32 hE33 fun a34 hE35=>?_
 refine wp_ret ?_
 refine qaO hE35 hW32.cells (v:=.int .i32 (IntKind.i32.wrap (be32 s))) kz ?_
 exact ⟨_,_,_,_,rfl,Str.of hW32 0 rfl,RdS.dropT (j:=4) ⟨rfl,ho.move hW32.step (fun b_ o_ h_ _=>hFd b_ o_ h_) qat⟩ (by omega),hW32.step,rfl⟩
theorem qeo (bd:Bool) (s:Bs) (hl:s.length < 4) {br:Nat} {A:Option Addr} {m c:Nat} {w:World} {F:Nat → Nat → Prop} (hst:Str w br [.slice A m c,.bool bd]) (hr:RdS w F A m c s) (hFd:∀ b o,F b o → ¬ RdM br b o) :
  Calls Tryd.prog 55 #[.pointer (some ⟨br,0,none⟩)] w (RdPostT w br F (true,[]) fun v w'=>v = .int .i32 0):=by
 obtain ⟨hm,ho⟩:=hr
 subst hm
 have hle:=ho.le
 have hsm:=ho.small
 refine enter (n:=32) Tryd.func55 rfl Tryd.ntmps55 kz fun a hE=>?_
 have hW:WOk w (RdM br) w [⟨br,0,[.slice A s.length c,.bool bd],true⟩] []:=WOk.startStr hst
 have hE1:=(hE.grow ⟨br,0,[.slice A s.length c,.bool bd],true⟩).recast 0 (.v (.pointer (some ⟨br,0,none⟩))) (.p 0 0) rfl rfl (Nat.le_of_ble_eq_true (n:=1) rfl)
 refine qan [(0,.p 0 0)] hW hE1 fun a1 hE2=>?_
 refine wp_seq ?_
 refine qan [(0,.p 0 0),(9,.v (.bool (decide (((s.length:Nat):Int) < 4))))] hW hE2 fun a3 hE4=>?_
 refine qaK hE4 (b:=decide (((s.length:Nat):Int) < 4)) kz (decide_eq_true (by omega)) ?_
 refine qac [0,1,2,3] kz ?_
 refine qai [0,1,2] [3] [(0,.p 0 0),(12,.p 0 1)] hW hE4 fun a5 hE6=>?_
 refine qag (qam hW hE6 (oi:=0) (cs:=[.slice A s.length c,.bool true]) kz fun w7 hF8 hW9 hE10=>?_)
 refine qad (qab ?_)
 refine qac [0,1,2,3] kz ?_
 refine qai [0,1,2] [3] [(15,.p 0 0)] hW9 hE10 fun a11 hE12=>?_
 refine qag (qam hW9 hE12 (oi:=0) (cs:=[.slice none 0 0,.bool true]) kz fun w13 hF14 hW15 hE16=>?_)
 refine qad (qab ?_)
 refine qan [(2,.v (.int .i32 0))] hW15 hE16 fun a17 hE18=>?_
 refine wp_ret ?_
 refine qaP ?_
 refine qaO hE18 hW15.cells (v:=.int .i32 0) kz ?_
 exact ⟨_,_,_,_,rfl,Str.of hW15 0 rfl,RdS.nil_ _ _,hW15.step,rfl⟩
theorem qcB (bd:Bool) (s:Bs) (hl:8 ≤ s.length) {br:Nat} {A:Option Addr} {m c:Nat} {w:World} {F:Nat → Nat → Prop} (hst:Str w br [.slice A m c,.bool bd]) (hr:RdS w F A m c s) (hFd:∀ b o,F b o → ¬ RdM br b o) :
  Calls Tryd.prog 61 #[.pointer (some ⟨br,0,none⟩)] w (RdPostT w br F (bd,s.drop 8) fun v w'=>v = .int .u64 (be64 s)):=by
 obtain ⟨hm,ho⟩:=hr
 subst hm
 have hle:=ho.le
 have hsm:=ho.small
 refine enter (n:=31) Tryd.func61 rfl Tryd.ntmps61 kz fun a hE=>?_
 have hW:WOk w (RdM br) w [⟨br,0,[.slice A s.length c,.bool bd],true⟩] []:=WOk.startStr hst
 have hE1:=(hE.grow ⟨br,0,[.slice A s.length c,.bool bd],true⟩).recast 0 (.v (.pointer (some ⟨br,0,none⟩))) (.p 0 0) rfl rfl (Nat.le_of_ble_eq_true (n:=1) rfl)
 refine qan [(0,.p 0 0)] hW hE1 fun a1 hE2=>?_
 refine wp_seq ?_
 refine qan [(0,.p 0 0),(9,.v (.bool (decide (((s.length:Nat):Int) < 8))))] hW hE2 fun a3 hE4=>?_
 refine qah hE4 (b:=decide (((s.length:Nat):Int) < 8)) kz (decide_eq_false (by omega)) ?_
 refine wp_skip ?_
 refine qab ?_
 refine qa5 6 kz hW fun w5 hF6 hW7 hT8=>?_
 refine qaF [1,2,3,4] [(0,.p 0 0),(20,.v (.slice A s.length c))] 3 (qaa qaf) (fun _ h=>h.cells) hT8 hE4 fun a9 hE10=>?_
 refine qaz hE10 (i:=0) (t:=105) (b:=1) (o:=0) (d:=16) kz (cs:=[]) (v:=.agg #[]) kz (fun w' h'=>(fun j_ v_ h_=>by simp at h_)) kz kz (qaa qaf) hT8 fun a11 hE12=>?_
 refine qa1 (i:=5) kz (qaq hE12 (f:=70) (vs:=[.agg #[],.slice A s.length c]) (d:=21) kz Tryd.call70 (qfQ _ (ho.move hW7.step (fun b_ o_ h_ _=>hFd b_ o_ h_) (hW7.immM hFd)) (by omega)) ?_)
 rintro e_ w14 ⟨rfl,hs13⟩
 refine ⟨_,rfl,fun a15 hE16=>?_⟩
 have hW17:=hW7.next_nil hs13
 have hF18:=hW7.frN hs13
 have hT19:=TT.ofW hF18 hW17
 refine ⟨fun _=>hT19,?_⟩
 refine qa1 (i:=6) kz (qb6 [0,3] hW17.cells hE16 (env':=[(0,.p 0 0),(3,.v (.int .u64 (be64 s)))]) kz fun a20 hE21=>?_)
 refine ⟨fun h=>absurd rfl h,?_⟩
 refine qaV kz ?_ _
 refine qab ?_
 refine qac [0,1,2,3,4,5,6,7,8] kz ?_
 refine qai [0,1,2,3,4] [5,6,7,8] [(3,.v (.int .u64 (be64 s))),(22,.p 0 0),(26,.v (.slice A s.length c))] hW17 hE21 fun a22 hE23=>?_
 refine qag (qbF hE23 (t:=22) (A:=A) (m:=s.length) (cp:=c) (q:=8) (d:=27) (j:=8) kz (e:=5) (bytes:=1) kz (rfl) (by omega) fun a24 hE25=>?_)
 refine qai [6,7] [8] [(3,.v (.int .u64 (be64 s))),(27,.v (.slice (cutA A c 8) (s.length - 8) (c - 8))),(29,.p 0 0)] hW17 hE25 fun a26 hE27=>?_
 refine qag (qam hW17 hE27 (oi:=0) (cs:=[.slice (cutA A c 8) (s.length - 8) (c - 8),.bool bd]) kz fun w28 hF29 hW30 hE31=>?_)
 refine qad (qab ?_)
 refine qan [(2,.v (.int .u64 (be64 s)))] hW30 hE31 fun a32 hE33=>?_
 refine wp_ret ?_
 refine qaO hE33 hW30.cells (v:=.int .u64 (be64 s)) kz ?_
 exact ⟨_,_,_,_,rfl,Str.of hW30 0 rfl,RdS.dropT (j:=8) ⟨rfl,ho.move hW30.step (fun b_ o_ h_ _=>hFd b_ o_ h_) qat⟩ (by omega),hW30.step,rfl⟩
theorem qcC (bd:Bool) (s:Bs) (hl:s.length < 8) {br:Nat} {A:Option Addr} {m c:Nat} {w:World} {F:Nat → Nat → Prop} (hst:Str w br [.slice A m c,.bool bd]) (hr:RdS w F A m c s) (hFd:∀ b o,F b o → ¬ RdM br b o) :
  Calls Tryd.prog 61 #[.pointer (some ⟨br,0,none⟩)] w (RdPostT w br F (true,[]) fun v w'=>v = .int .u64 0):=by
 obtain ⟨hm,ho⟩:=hr
 subst hm
 have hle:=ho.le
 have hsm:=ho.small
 refine enter (n:=31) Tryd.func61 rfl Tryd.ntmps61 kz fun a hE=>?_
 have hW:WOk w (RdM br) w [⟨br,0,[.slice A s.length c,.bool bd],true⟩] []:=WOk.startStr hst
 have hE1:=(hE.grow ⟨br,0,[.slice A s.length c,.bool bd],true⟩).recast 0 (.v (.pointer (some ⟨br,0,none⟩))) (.p 0 0) rfl rfl (Nat.le_of_ble_eq_true (n:=1) rfl)
 refine qan [(0,.p 0 0)] hW hE1 fun a1 hE2=>?_
 refine wp_seq ?_
 refine qan [(0,.p 0 0),(9,.v (.bool (decide (((s.length:Nat):Int) < 8))))] hW hE2 fun a3 hE4=>?_
 refine qaK hE4 (b:=decide (((s.length:Nat):Int) < 8)) kz (decide_eq_true (by omega)) ?_
 refine qac [0,1,2,3] kz ?_
 refine qai [0,1,2] [3] [(0,.p 0 0),(12,.p 0 1)] hW hE4 fun a5 hE6=>?_
 refine qag (qam hW hE6 (oi:=0) (cs:=[.slice A s.length c,.bool true]) kz fun w7 hF8 hW9 hE10=>?_)
 refine qad (qab ?_)
 refine qac [0,1,2,3] kz ?_
 refine qai [0,1,2] [3] [(15,.p 0 0)] hW9 hE10 fun a11 hE12=>?_
 refine qag (qam hW9 hE12 (oi:=0) (cs:=[.slice none 0 0,.bool true]) kz fun w13 hF14 hW15 hE16=>?_)
 refine qad (qab ?_)
 refine qan [(2,.v (.int .u64 0))] hW15 hE16 fun a17 hE18=>?_
 refine wp_ret ?_
 refine qaP ?_
 refine qaO hE18 hW15.cells (v:=.int .u64 0) kz ?_
 exact ⟨_,_,_,_,rfl,Str.of hW15 0 rfl,RdS.nil_ _ _,hW15.step,rfl⟩
theorem qds (σ:Sg):uUv σ < 4294967296:=by
 unfold uUv
 have:=(qcV σ.2).2
 split <;> omega
theorem qfH (σ:Sg):RPrim0U Tryd.prog 55 σ (aN 4 σ) (.int .i32 (uI32 σ)):=⟨(mn_N 4).len σ,fun hst hr hF=>by
 unfold aN uI32
 by_cases h:σ.2.length < 4
 ·simp only [if_pos h]
  exact (qeo σ.1 σ.2 h hst hr hF).mono fun e w' hp=>hp.fp fun v w' h=>h
 simp only [if_neg h]
 exact (qen σ.1 σ.2 (by omega) hst hr hF).mono fun e w' hp=>hp.fp fun v w' h=>h⟩
def uU64 (σ:Sg):Int:=if σ.2.length < 8 then 0 else be64 σ.2
theorem qU64 (σ:Sg):RPrim0U Tryd.prog 61 σ (aN 8 σ) (.int .u64 (uU64 σ)):=⟨(mn_N 8).len σ,fun hst hr hF=>by
 unfold aN uU64
 by_cases h:σ.2.length < 8
 ·simp only [if_pos h]
  exact (qcC σ.1 σ.2 h hst hr hF).mono fun e w' hp=>hp.fp fun v w' h=>h
 simp only [if_neg h]
 exact (qcB σ.1 σ.2 (by omega) hst hr hF).mono fun e w' hp=>hp.fp fun v w' h=>h⟩
theorem qfR {A:Option Addr} {c:Nat} (s:Bs) {w:World} {F:Nat → Nat → Prop} (ho:Octs w F A c s) (hl:s.length = 0)  :
  Calls Tryd.prog 68 #[.slice A s.length c] w (qbv w (.tuple #[.int .u32 0,.int .i64 (0)])):=by
 refine enter (n:=87) Tryd.func68 rfl Tryd.ntmps68 kz fun a hE=>?_
 have hW:=WOk.start w Nil
 refine qan [(0,.v (.slice A s.length c))] hW hE fun a1 hE2=>?_
 refine wp_scope_jumps 0 (fun a_ w_=>w_ = w ∧ EnvOk 87 [] [(5,.v (.int .i64 0))] a_) (fun _ _=>0) rfl ?_ ?_
 ·
  refine qan [(0,.v (.slice A s.length c))] hW hE2 fun a6 hE7=>?_
  refine qan [(0,.v (.slice A s.length c)),(5,.v (.int .i64 0))] hW hE7 fun a8 hE9=>?_
  refine wp_seq ?_
  refine qan [(0,.v (.slice A s.length c)),(5,.v (.int .i64 0)),(8,.v (.bool (decide (((s.length:Nat):Int) < 1))))] hW hE9 fun a10 hE11=>?_
  refine qaK hE11 (b:=decide (((s.length:Nat):Int) < 1)) kz (decide_eq_true (by omega)) ?_
  refine wp_goto ?_
  exact ⟨rfl,rfl,hE11.pk (env':=[(5,.v (.int .i64 0))])⟩
 rintro a3 _ ⟨rfl,hE5⟩
 refine wp_seq ?_
 refine wp_skip ?_
 refine qab ?_
 refine qan [(2,.v (.int .u32 0)),(3,.v (.int .i64 0))] hW hE5 fun a12 hE13=>?_
 refine wp_ret ?_
 refine qcc ?_
 refine qaO hE13 hW.cells (v:=.tuple #[.int .u32 0,.int .i64 0]) kz ?_
 exact ⟨rfl,hW.step⟩
theorem qfS {A:Option Addr} {c:Nat} (s:Bs) {w:World} {F:Nat → Nat → Prop} (ho:Octs w F A c s) (hl:s.length = 1) (g0:128 ≤ oc s 0) :
  Calls Tryd.prog 68 #[.slice A s.length c] w (qbv w (.tuple #[.int .u32 0,.int .i64 (0)])):=by
 refine enter (n:=87) Tryd.func68 rfl Tryd.ntmps68 kz fun a hE=>?_
 have hW:=WOk.start w Nil
 refine qan [(0,.v (.slice A s.length c))] hW hE fun a1 hE2=>?_
 refine wp_scope_jumps 0 (fun a_ w_=>w_ = w ∧ EnvOk 87 [] [(5,.v (.int .i64 0))] a_) (fun _ _=>0) rfl ?_ ?_
 ·
  refine qan [(0,.v (.slice A s.length c))] hW hE2 fun a6 hE7=>?_
  refine qan [(0,.v (.slice A s.length c)),(5,.v (.int .i64 0))] hW hE7 fun a8 hE9=>?_
  refine wp_seq ?_
  refine qan [(0,.v (.slice A s.length c)),(5,.v (.int .i64 0)),(8,.v (.bool (decide (((s.length:Nat):Int) < 1))))] hW hE9 fun a10 hE11=>?_
  refine qah hE11 (b:=decide (((s.length:Nat):Int) < 1)) kz (decide_eq_false (by omega)) ?_
  refine wp_skip ?_
  refine qab ?_
  refine qac [0,1,2,3,4,5] kz ?_
  refine qai [0] [1,2,3,4,5] [(0,.v (.slice A s.length c)),(5,.v (.int .i64 0)),(9,.v (.slice A s.length c))] hW hE11 fun a12 hE13=>?_
  obtain ⟨b14,o15,hA16,hl17,hat18⟩:=Slots.get ho (i:=0) (by omega)
  refine qag (qak hE13 (t:=22) (A:=A) (m:=s.length) (q:=0) (d:=10) kz (e:=5) (size:=1) (bytes:=1) (j:=0) kz hA16 rfl (by omega) fun a19 hE20=>?_)
  refine qag (qal hE20 (t:=5) (b:=b14) (o:=o15 + 0 * 1) (d:=11) kz (cs:=[.int .u8 ((s.getD 0 0).toNat:Int)]) (v:=.int .u8 ((s.getD 0 0).toNat:Int)) kz (AtF.move hat18 hW.step nilM qat).at_ fun a21 hE22=>?_)
  refine qai [3,4,5] [] [(0,.v (.slice A s.length c)),(4,.v (.int .u32 (IntKind.u32.wrap (IntKind.u8.wrap (BitVec.ofInt 8 ((s.getD 0 0).toNat:Int) &&& BitVec.ofInt 8 127).toNat)))),(5,.v (.int .i64 0))] hW hE22 fun a23 hE24=>?_
  refine qad (qab ?_)
  refine wp_seq ?_
  refine qac [0,1,2,3,4] kz ?_
  refine qai [0] [1,2,3,4] [(0,.v (.slice A s.length c)),(4,.v (.int .u32 (IntKind.u32.wrap (IntKind.u8.wrap (BitVec.ofInt 8 ((s.getD 0 0).toNat:Int) &&& BitVec.ofInt 8 127).toNat)))),(5,.v (.int .i64 0)),(14,.v (.slice A s.length c))] hW hE24 fun a25 hE26=>?_
  refine qag (qak hE26 (t:=22) (A:=A) (m:=s.length) (q:=0) (d:=15) kz (e:=5) (size:=1) (bytes:=1) (j:=0) kz hA16 rfl (by omega) fun a27 hE28=>?_)
  refine qag (qal hE28 (t:=5) (b:=b14) (o:=o15 + 0 * 1) (d:=16) kz (cs:=[.int .u8 ((s.getD 0 0).toNat:Int)]) (v:=.int .u8 ((s.getD 0 0).toNat:Int)) kz (AtF.move hat18 hW.step nilM qat).at_ fun a29 hE30=>?_)
  refine qai [3,4] [] [(0,.v (.slice A s.length c)),(4,.v (.int .u32 (IntKind.u32.wrap (IntKind.u8.wrap (BitVec.ofInt 8 ((s.getD 0 0).toNat:Int) &&& BitVec.ofInt 8 127).toNat)))),(5,.v (.int .i64 0)),(18,.v (.bool ((IntKind.u8.wrap (BitVec.ofInt 8 ((s.getD 0 0).toNat:Int) &&& BitVec.ofInt 8 128).toNat) == 0)))] hW hE30 fun a31 hE32=>?_
  refine qad (qab ?_)
  refine qah hE32 (b:=(IntKind.u8.wrap (BitVec.ofInt 8 ((s.getD 0 0).toNat:Int) &&& BitVec.ofInt 8 128).toNat) == 0) kz ((qa3 _ (qaG s 0)).trans (decide_eq_false (by have:=g0; unfold oc at this; omega))) ?_
  refine qan [(0,.v (.slice A s.length c)),(4,.v (.int .u32 (IntKind.u32.wrap (IntKind.u8.wrap (BitVec.ofInt 8 ((s.getD 0 0).toNat:Int) &&& BitVec.ofInt 8 127).toNat)))),(5,.v (.int .i64 0)),(22,.v (.bool (decide (((s.length:Nat):Int) < 2))))] hW hE32 fun a33 hE34=>?_
  refine qaK hE34 (b:=decide (((s.length:Nat):Int) < 2)) kz (decide_eq_true (by omega)) ?_
  refine wp_goto ?_
  exact ⟨rfl,rfl,hE34.pk (env':=[(5,.v (.int .i64 0))])⟩
 rintro a3 _ ⟨rfl,hE5⟩
 refine wp_seq ?_
 refine wp_skip ?_
 refine qab ?_
 refine qan [(2,.v (.int .u32 0)),(3,.v (.int .i64 0))] hW hE5 fun a35 hE36=>?_
 refine wp_ret ?_
 refine qcc ?_
 refine qaO hE36 hW.cells (v:=.tuple #[.int .u32 0,.int .i64 0]) kz ?_
 exact ⟨rfl,hW.step⟩
theorem qfT {A:Option Addr} {c:Nat} (s:Bs) {w:World} {F:Nat → Nat → Prop} (ho:Octs w F A c s) (hl:s.length = 2) (g0:128 ≤ oc s 0) (g1:128 ≤ oc s 1) :
  Calls Tryd.prog 68 #[.slice A s.length c] w (qbv w (.tuple #[.int .u32 0,.int .i64 (0)])):=by
 refine enter (n:=87) Tryd.func68 rfl Tryd.ntmps68 kz fun a hE=>?_
 have hW:=WOk.start w Nil
 refine qan [(0,.v (.slice A s.length c))] hW hE fun a1 hE2=>?_
 refine wp_scope_jumps 0 (fun a_ w_=>w_ = w ∧ EnvOk 87 [] [(5,.v (.int .i64 0))] a_) (fun _ _=>0) rfl ?_ ?_
 ·
  refine qan [(0,.v (.slice A s.length c))] hW hE2 fun a6 hE7=>?_
  refine qan [(0,.v (.slice A s.length c)),(5,.v (.int .i64 0))] hW hE7 fun a8 hE9=>?_
  refine wp_seq ?_
  refine qan [(0,.v (.slice A s.length c)),(5,.v (.int .i64 0)),(8,.v (.bool (decide (((s.length:Nat):Int) < 1))))] hW hE9 fun a10 hE11=>?_
  refine qah hE11 (b:=decide (((s.length:Nat):Int) < 1)) kz (decide_eq_false (by omega)) ?_
  refine wp_skip ?_
  refine qab ?_
  refine qac [0,1,2,3,4,5] kz ?_
  refine qai [0] [1,2,3,4,5] [(0,.v (.slice A s.length c)),(5,.v (.int .i64 0)),(9,.v (.slice A s.length c))] hW hE11 fun a12 hE13=>?_
  obtain ⟨b14,o15,hA16,hl17,hat18⟩:=Slots.get ho (i:=0) (by omega)
  refine qag (qak hE13 (t:=22) (A:=A) (m:=s.length) (q:=0) (d:=10) kz (e:=5) (size:=1) (bytes:=1) (j:=0) kz hA16 rfl (by omega) fun a19 hE20=>?_)
  refine qag (qal hE20 (t:=5) (b:=b14) (o:=o15 + 0 * 1) (d:=11) kz (cs:=[.int .u8 ((s.getD 0 0).toNat:Int)]) (v:=.int .u8 ((s.getD 0 0).toNat:Int)) kz (AtF.move hat18 hW.step nilM qat).at_ fun a21 hE22=>?_)
  refine qai [3,4,5] [] [(0,.v (.slice A s.length c)),(4,.v (.int .u32 (IntKind.u32.wrap (IntKind.u8.wrap (BitVec.ofInt 8 ((s.getD 0 0).toNat:Int) &&& BitVec.ofInt 8 127).toNat)))),(5,.v (.int .i64 0))] hW hE22 fun a23 hE24=>?_
  refine qad (qab ?_)
  refine wp_seq ?_
  refine qac [0,1,2,3,4] kz ?_
  refine qai [0] [1,2,3,4] [(0,.v (.slice A s.length c)),(4,.v (.int .u32 (IntKind.u32.wrap (IntKind.u8.wrap (BitVec.ofInt 8 ((s.getD 0 0).toNat:Int) &&& BitVec.ofInt 8 127).toNat)))),(5,.v (.int .i64 0)),(14,.v (.slice A s.length c))] hW hE24 fun a25 hE26=>?_
  refine qag (qak hE26 (t:=22) (A:=A) (m:=s.length) (q:=0) (d:=15) kz (e:=5) (size:=1) (bytes:=1) (j:=0) kz hA16 rfl (by omega) fun a27 hE28=>?_)
  refine qag (qal hE28 (t:=5) (b:=b14) (o:=o15 + 0 * 1) (d:=16) kz (cs:=[.int .u8 ((s.getD 0 0).toNat:Int)]) (v:=.int .u8 ((s.getD 0 0).toNat:Int)) kz (AtF.move hat18 hW.step nilM qat).at_ fun a29 hE30=>?_)
  refine qai [3,4] [] [(0,.v (.slice A s.length c)),(4,.v (.int .u32 (IntKind.u32.wrap (IntKind.u8.wrap (BitVec.ofInt 8 ((s.getD 0 0).toNat:Int) &&& BitVec.ofInt 8 127).toNat)))),(5,.v (.int .i64 0)),(18,.v (.bool ((IntKind.u8.wrap (BitVec.ofInt 8 ((s.getD 0 0).toNat:Int) &&& BitVec.ofInt 8 128).toNat) == 0)))] hW hE30 fun a31 hE32=>?_
  refine qad (qab ?_)
  refine qah hE32 (b:=(IntKind.u8.wrap (BitVec.ofInt 8 ((s.getD 0 0).toNat:Int) &&& BitVec.ofInt 8 128).toNat) == 0) kz ((qa3 _ (qaG s 0)).trans (decide_eq_false (by have:=g0; unfold oc at this; omega))) ?_
  refine qan [(0,.v (.slice A s.length c)),(4,.v (.int .u32 (IntKind.u32.wrap (IntKind.u8.wrap (BitVec.ofInt 8 ((s.getD 0 0).toNat:Int) &&& BitVec.ofInt 8 127).toNat)))),(5,.v (.int .i64 0)),(22,.v (.bool (decide (((s.length:Nat):Int) < 2))))] hW hE32 fun a33 hE34=>?_
  refine qah hE34 (b:=decide (((s.length:Nat):Int) < 2)) kz (decide_eq_false (by omega)) ?_
  refine wp_skip ?_
  refine qab ?_
  refine qac [0,1,2,3,4,5,6,7,8] kz ?_
  refine qai [0,1] [2,3,4,5,6,7,8] [(0,.v (.slice A s.length c)),(5,.v (.int .i64 0)),(23,.v (.int .u32 (IntKind.u32.wrap (IntKind.u8.wrap (BitVec.ofInt 8 ((s.getD 0 0).toNat:Int) &&& BitVec.ofInt 8 127).toNat)))),(24,.v (.slice A s.length c))] hW hE34 fun a35 hE36=>?_
  obtain ⟨b37,o38,hA39,hl40,hat41⟩:=Slots.get ho (i:=1) (by omega)
  refine qag (qak hE36 (t:=22) (A:=A) (m:=s.length) (q:=1) (d:=25) kz (e:=5) (size:=1) (bytes:=1) (j:=1) kz hA39 rfl (by omega) fun a42 hE43=>?_)
  refine qag (qal hE43 (t:=5) (b:=b37) (o:=o38 + 1 * 1) (d:=26) kz (cs:=[.int .u8 ((s.getD 1 0).toNat:Int)]) (v:=.int .u8 ((s.getD 1 0).toNat:Int)) kz (AtF.move hat41 hW.step nilM qat).at_ fun a44 hE45=>?_)
  refine qai [4,5,6,7,8] [] [(0,.v (.slice A s.length c)),(4,.v (.int .u32 (IntKind.u32.wrap (BitVec.ofInt 32 (IntKind.u32.wrap (IntKind.u8.wrap (BitVec.ofInt 8 ((s.getD 0 0).toNat:Int) &&& BitVec.ofInt 8 127).toNat)) ||| BitVec.ofInt 32 (IntKind.u32.wrap ((IntKind.u32.wrap (IntKind.u8.wrap (BitVec.ofInt 8 ((s.getD 1 0).toNat:Int) &&& BitVec.ofInt 8 127).toNat)) * 128))).toNat))),(5,.v (.int .i64 0))] hW hE45 fun a46 hE47=>?_
  refine qad (qab ?_)
  refine wp_seq ?_
  refine qac [0,1,2,3,4] kz ?_
  refine qai [0] [1,2,3,4] [(0,.v (.slice A s.length c)),(4,.v (.int .u32 (IntKind.u32.wrap (BitVec.ofInt 32 (IntKind.u32.wrap (IntKind.u8.wrap (BitVec.ofInt 8 ((s.getD 0 0).toNat:Int) &&& BitVec.ofInt 8 127).toNat)) ||| BitVec.ofInt 32 (IntKind.u32.wrap ((IntKind.u32.wrap (IntKind.u8.wrap (BitVec.ofInt 8 ((s.getD 1 0).toNat:Int) &&& BitVec.ofInt 8 127).toNat)) * 128))).toNat))),(5,.v (.int .i64 0)),(31,.v (.slice A s.length c))] hW hE47 fun a48 hE49=>?_
  refine qag (qak hE49 (t:=22) (A:=A) (m:=s.length) (q:=1) (d:=32) kz (e:=5) (size:=1) (bytes:=1) (j:=1) kz hA39 rfl (by omega) fun a50 hE51=>?_)
  refine qag (qal hE51 (t:=5) (b:=b37) (o:=o38 + 1 * 1) (d:=33) kz (cs:=[.int .u8 ((s.getD 1 0).toNat:Int)]) (v:=.int .u8 ((s.getD 1 0).toNat:Int)) kz (AtF.move hat41 hW.step nilM qat).at_ fun a52 hE53=>?_)
  refine qai [3,4] [] [(0,.v (.slice A s.length c)),(4,.v (.int .u32 (IntKind.u32.wrap (BitVec.ofInt 32 (IntKind.u32.wrap (IntKind.u8.wrap (BitVec.ofInt 8 ((s.getD 0 0).toNat:Int) &&& BitVec.ofInt 8 127).toNat)) ||| BitVec.ofInt 32 (IntKind.u32.wrap ((IntKind.u32.wrap (IntKind.u8.wrap (BitVec.ofInt 8 ((s.getD 1 0).toNat:Int) &&& BitVec.ofInt 8 127).toNat)) * 128))).toNat))),(5,.v (.int .i64 0)),(35,.v (.bool ((IntKind.u8.wrap (BitVec.ofInt 8 ((s.getD 1 0).toNat:Int) &&& BitVec.ofInt 8 128).toNat) == 0)))] hW hE53 fun a54 hE55=>?_
  refine qad (qab ?_)
  refine qah hE55 (b:=(IntKind.u8.wrap (BitVec.ofInt 8 ((s.getD 1 0).toNat:Int) &&& BitVec.ofInt 8 128).toNat) == 0) kz ((qa3 _ (qaG s 1)).trans (decide_eq_false (by have:=g1; unfold oc at this; omega))) ?_
  refine qan [(0,.v (.slice A s.length c)),(4,.v (.int .u32 (IntKind.u32.wrap (BitVec.ofInt 32 (IntKind.u32.wrap (IntKind.u8.wrap (BitVec.ofInt 8 ((s.getD 0 0).toNat:Int) &&& BitVec.ofInt 8 127).toNat)) ||| BitVec.ofInt 32 (IntKind.u32.wrap ((IntKind.u32.wrap (IntKind.u8.wrap (BitVec.ofInt 8 ((s.getD 1 0).toNat:Int) &&& BitVec.ofInt 8 127).toNat)) * 128))).toNat))),(5,.v (.int .i64 0)),(39,.v (.bool (decide (((s.length:Nat):Int) < 3))))] hW hE55 fun a56 hE57=>?_
  refine qaK hE57 (b:=decide (((s.length:Nat):Int) < 3)) kz (decide_eq_true (by omega)) ?_
  refine wp_goto ?_
  exact ⟨rfl,rfl,hE57.pk (env':=[(5,.v (.int .i64 0))])⟩
 rintro a3 _ ⟨rfl,hE5⟩
 refine wp_seq ?_
 refine wp_skip ?_
 refine qab ?_
 refine qan [(2,.v (.int .u32 0)),(3,.v (.int .i64 0))] hW hE5 fun a58 hE59=>?_
 refine wp_ret ?_
 refine qcc ?_
 refine qaO hE59 hW.cells (v:=.tuple #[.int .u32 0,.int .i64 0]) kz ?_
 exact ⟨rfl,hW.step⟩
theorem qfU {A:Option Addr} {c:Nat} (s:Bs) {w:World} {F:Nat → Nat → Prop} (ho:Octs w F A c s) (hl:s.length = 3) (g0:128 ≤ oc s 0) (g1:128 ≤ oc s 1) (g2:128 ≤ oc s 2) :
  Calls Tryd.prog 68 #[.slice A s.length c] w (qbv w (.tuple #[.int .u32 0,.int .i64 (0)])):=by
 refine enter (n:=87) Tryd.func68 rfl Tryd.ntmps68 kz fun a hE=>?_
 have hW:=WOk.start w Nil
 refine qan [(0,.v (.slice A s.length c))] hW hE fun a1 hE2=>?_
 refine wp_scope_jumps 0 (fun a_ w_=>w_ = w ∧ EnvOk 87 [] [(5,.v (.int .i64 0))] a_) (fun _ _=>0) rfl ?_ ?_
 ·
  refine qan [(0,.v (.slice A s.length c))] hW hE2 fun a6 hE7=>?_
  refine qan [(0,.v (.slice A s.length c)),(5,.v (.int .i64 0))] hW hE7 fun a8 hE9=>?_
  refine wp_seq ?_
  refine qan [(0,.v (.slice A s.length c)),(5,.v (.int .i64 0)),(8,.v (.bool (decide (((s.length:Nat):Int) < 1))))] hW hE9 fun a10 hE11=>?_
  refine qah hE11 (b:=decide (((s.length:Nat):Int) < 1)) kz (decide_eq_false (by omega)) ?_
  refine wp_skip ?_
  refine qab ?_
  refine qac [0,1,2,3,4,5] kz ?_
  refine qai [0] [1,2,3,4,5] [(0,.v (.slice A s.length c)),(5,.v (.int .i64 0)),(9,.v (.slice A s.length c))] hW hE11 fun a12 hE13=>?_
  obtain ⟨b14,o15,hA16,hl17,hat18⟩:=Slots.get ho (i:=0) (by omega)
  refine qag (qak hE13 (t:=22) (A:=A) (m:=s.length) (q:=0) (d:=10) kz (e:=5) (size:=1) (bytes:=1) (j:=0) kz hA16 rfl (by omega) fun a19 hE20=>?_)
  refine qag (qal hE20 (t:=5) (b:=b14) (o:=o15 + 0 * 1) (d:=11) kz (cs:=[.int .u8 ((s.getD 0 0).toNat:Int)]) (v:=.int .u8 ((s.getD 0 0).toNat:Int)) kz (AtF.move hat18 hW.step nilM qat).at_ fun a21 hE22=>?_)
  refine qai [3,4,5] [] [(0,.v (.slice A s.length c)),(4,.v (.int .u32 (IntKind.u32.wrap (IntKind.u8.wrap (BitVec.ofInt 8 ((s.getD 0 0).toNat:Int) &&& BitVec.ofInt 8 127).toNat)))),(5,.v (.int .i64 0))] hW hE22 fun a23 hE24=>?_
  refine qad (qab ?_)
  refine wp_seq ?_
  refine qac [0,1,2,3,4] kz ?_
  refine qai [0] [1,2,3,4] [(0,.v (.slice A s.length c)),(4,.v (.int .u32 (IntKind.u32.wrap (IntKind.u8.wrap (BitVec.ofInt 8 ((s.getD 0 0).toNat:Int) &&& BitVec.ofInt 8 127).toNat)))),(5,.v (.int .i64 0)),(14,.v (.slice A s.length c))] hW hE24 fun a25 hE26=>?_
  refine qag (qak hE26 (t:=22) (A:=A) (m:=s.length) (q:=0) (d:=15) kz (e:=5) (size:=1) (bytes:=1) (j:=0) kz hA16 rfl (by omega) fun a27 hE28=>?_)
  refine qag (qal hE28 (t:=5) (b:=b14) (o:=o15 + 0 * 1) (d:=16) kz (cs:=[.int .u8 ((s.getD 0 0).toNat:Int)]) (v:=.int .u8 ((s.getD 0 0).toNat:Int)) kz (AtF.move hat18 hW.step nilM qat).at_ fun a29 hE30=>?_)
  refine qai [3,4] [] [(0,.v (.slice A s.length c)),(4,.v (.int .u32 (IntKind.u32.wrap (IntKind.u8.wrap (BitVec.ofInt 8 ((s.getD 0 0).toNat:Int) &&& BitVec.ofInt 8 127).toNat)))),(5,.v (.int .i64 0)),(18,.v (.bool ((IntKind.u8.wrap (BitVec.ofInt 8 ((s.getD 0 0).toNat:Int) &&& BitVec.ofInt 8 128).toNat) == 0)))] hW hE30 fun a31 hE32=>?_
  refine qad (qab ?_)
  refine qah hE32 (b:=(IntKind.u8.wrap (BitVec.ofInt 8 ((s.getD 0 0).toNat:Int) &&& BitVec.ofInt 8 128).toNat) == 0) kz ((qa3 _ (qaG s 0)).trans (decide_eq_false (by have:=g0; unfold oc at this; omega))) ?_
  refine qan [(0,.v (.slice A s.length c)),(4,.v (.int .u32 (IntKind.u32.wrap (IntKind.u8.wrap (BitVec.ofInt 8 ((s.getD 0 0).toNat:Int) &&& BitVec.ofInt 8 127).toNat)))),(5,.v (.int .i64 0)),(22,.v (.bool (decide (((s.length:Nat):Int) < 2))))] hW hE32 fun a33 hE34=>?_
  refine qah hE34 (b:=decide (((s.length:Nat):Int) < 2)) kz (decide_eq_false (by omega)) ?_
  refine wp_skip ?_
  refine qab ?_
  refine qac [0,1,2,3,4,5,6,7,8] kz ?_
  refine qai [0,1] [2,3,4,5,6,7,8] [(0,.v (.slice A s.length c)),(5,.v (.int .i64 0)),(23,.v (.int .u32 (IntKind.u32.wrap (IntKind.u8.wrap (BitVec.ofInt 8 ((s.getD 0 0).toNat:Int) &&& BitVec.ofInt 8 127).toNat)))),(24,.v (.slice A s.length c))] hW hE34 fun a35 hE36=>?_
  obtain ⟨b37,o38,hA39,hl40,hat41⟩:=Slots.get ho (i:=1) (by omega)
  refine qag (qak hE36 (t:=22) (A:=A) (m:=s.length) (q:=1) (d:=25) kz (e:=5) (size:=1) (bytes:=1) (j:=1) kz hA39 rfl (by omega) fun a42 hE43=>?_)
  refine qag (qal hE43 (t:=5) (b:=b37) (o:=o38 + 1 * 1) (d:=26) kz (cs:=[.int .u8 ((s.getD 1 0).toNat:Int)]) (v:=.int .u8 ((s.getD 1 0).toNat:Int)) kz (AtF.move hat41 hW.step nilM qat).at_ fun a44 hE45=>?_)
  refine qai [4,5,6,7,8] [] [(0,.v (.slice A s.length c)),(4,.v (.int .u32 (IntKind.u32.wrap (BitVec.ofInt 32 (IntKind.u32.wrap (IntKind.u8.wrap (BitVec.ofInt 8 ((s.getD 0 0).toNat:Int) &&& BitVec.ofInt 8 127).toNat)) ||| BitVec.ofInt 32 (IntKind.u32.wrap ((IntKind.u32.wrap (IntKind.u8.wrap (BitVec.ofInt 8 ((s.getD 1 0).toNat:Int) &&& BitVec.ofInt 8 127).toNat)) * 128))).toNat))),(5,.v (.int .i64 0))] hW hE45 fun a46 hE47=>?_
  refine qad (qab ?_)
  refine wp_seq ?_
  refine qac [0,1,2,3,4] kz ?_
  refine qai [0] [1,2,3,4] [(0,.v (.slice A s.length c)),(4,.v (.int .u32 (IntKind.u32.wrap (BitVec.ofInt 32 (IntKind.u32.wrap (IntKind.u8.wrap (BitVec.ofInt 8 ((s.getD 0 0).toNat:Int) &&& BitVec.ofInt 8 127).toNat)) ||| BitVec.ofInt 32 (IntKind.u32.wrap ((IntKind.u32.wrap (IntKind.u8.wrap (BitVec.ofInt 8 ((s.getD 1 0).toNat:Int) &&& BitVec.ofInt 8 127).toNat)) * 128))).toNat))),(5,.v (.int .i64 0)),(31,.v (.slice A s.length c))] hW hE47 fun a48 hE49=>?_
  refine qag (qak hE49 (t:=22) (A:=A) (m:=s.length) (q:=1) (d:=32) kz (e:=5) (size:=1) (bytes:=1) (j:=1) kz hA39 rfl (by omega) fun a50 hE51=>?_)
  refine qag (qal hE51 (t:=5) (b:=b37) (o:=o38 + 1 * 1) (d:=33) kz (cs:=[.int .u8 ((s.getD 1 0).toNat:Int)]) (v:=.int .u8 ((s.getD 1 0).toNat:Int)) kz (AtF.move hat41 hW.step nilM qat).at_ fun a52 hE53=>?_)
  refine qai [3,4] [] [(0,.v (.slice A s.length c)),(4,.v (.int .u32 (IntKind.u32.wrap (BitVec.ofInt 32 (IntKind.u32.wrap (IntKind.u8.wrap (BitVec.ofInt 8 ((s.getD 0 0).toNat:Int) &&& BitVec.ofInt 8 127).toNat)) ||| BitVec.ofInt 32 (IntKind.u32.wrap ((IntKind.u32.wrap (IntKind.u8.wrap (BitVec.ofInt 8 ((s.getD 1 0).toNat:Int) &&& BitVec.ofInt 8 127).toNat)) * 128))).toNat))),(5,.v (.int .i64 0)),(35,.v (.bool ((IntKind.u8.wrap (BitVec.ofInt 8 ((s.getD 1 0).toNat:Int) &&& BitVec.ofInt 8 128).toNat) == 0)))] hW hE53 fun a54 hE55=>?_
  refine qad (qab ?_)
  refine qah hE55 (b:=(IntKind.u8.wrap (BitVec.ofInt 8 ((s.getD 1 0).toNat:Int) &&& BitVec.ofInt 8 128).toNat) == 0) kz ((qa3 _ (qaG s 1)).trans (decide_eq_false (by have:=g1; unfold oc at this; omega))) ?_
  refine qan [(0,.v (.slice A s.length c)),(4,.v (.int .u32 (IntKind.u32.wrap (BitVec.ofInt 32 (IntKind.u32.wrap (IntKind.u8.wrap (BitVec.ofInt 8 ((s.getD 0 0).toNat:Int) &&& BitVec.ofInt 8 127).toNat)) ||| BitVec.ofInt 32 (IntKind.u32.wrap ((IntKind.u32.wrap (IntKind.u8.wrap (BitVec.ofInt 8 ((s.getD 1 0).toNat:Int) &&& BitVec.ofInt 8 127).toNat)) * 128))).toNat))),(5,.v (.int .i64 0)),(39,.v (.bool (decide (((s.length:Nat):Int) < 3))))] hW hE55 fun a56 hE57=>?_
  refine qah hE57 (b:=decide (((s.length:Nat):Int) < 3)) kz (decide_eq_false (by omega)) ?_
  refine wp_skip ?_
  refine qab ?_
  refine qac [0,1,2,3,4,5,6,7,8] kz ?_
  refine qai [0,1] [2,3,4,5,6,7,8] [(0,.v (.slice A s.length c)),(5,.v (.int .i64 0)),(40,.v (.int .u32 (IntKind.u32.wrap (BitVec.ofInt 32 (IntKind.u32.wrap (IntKind.u8.wrap (BitVec.ofInt 8 ((s.getD 0 0).toNat:Int) &&& BitVec.ofInt 8 127).toNat)) ||| BitVec.ofInt 32 (IntKind.u32.wrap ((IntKind.u32.wrap (IntKind.u8.wrap (BitVec.ofInt 8 ((s.getD 1 0).toNat:Int) &&& BitVec.ofInt 8 127).toNat)) * 128))).toNat))),(41,.v (.slice A s.length c))] hW hE57 fun a58 hE59=>?_
  obtain ⟨b60,o61,hA62,hl63,hat64⟩:=Slots.get ho (i:=2) (by omega)
  refine qag (qak hE59 (t:=22) (A:=A) (m:=s.length) (q:=2) (d:=42) kz (e:=5) (size:=1) (bytes:=1) (j:=2) kz hA62 rfl (by omega) fun a65 hE66=>?_)
  refine qag (qal hE66 (t:=5) (b:=b60) (o:=o61 + 2 * 1) (d:=43) kz (cs:=[.int .u8 ((s.getD 2 0).toNat:Int)]) (v:=.int .u8 ((s.getD 2 0).toNat:Int)) kz (AtF.move hat64 hW.step nilM qat).at_ fun a67 hE68=>?_)
  refine qai [4,5,6,7,8] [] [(0,.v (.slice A s.length c)),(4,.v (.int .u32 (IntKind.u32.wrap (BitVec.ofInt 32 (IntKind.u32.wrap (BitVec.ofInt 32 (IntKind.u32.wrap (IntKind.u8.wrap (BitVec.ofInt 8 ((s.getD 0 0).toNat:Int) &&& BitVec.ofInt 8 127).toNat)) ||| BitVec.ofInt 32 (IntKind.u32.wrap ((IntKind.u32.wrap (IntKind.u8.wrap (BitVec.ofInt 8 ((s.getD 1 0).toNat:Int) &&& BitVec.ofInt 8 127).toNat)) * 128))).toNat) ||| BitVec.ofInt 32 (IntKind.u32.wrap ((IntKind.u32.wrap (IntKind.u8.wrap (BitVec.ofInt 8 ((s.getD 2 0).toNat:Int) &&& BitVec.ofInt 8 127).toNat)) * 16384))).toNat))),(5,.v (.int .i64 0))] hW hE68 fun a69 hE70=>?_
  refine qad (qab ?_)
  refine wp_seq ?_
  refine qac [0,1,2,3,4] kz ?_
  refine qai [0] [1,2,3,4] [(0,.v (.slice A s.length c)),(4,.v (.int .u32 (IntKind.u32.wrap (BitVec.ofInt 32 (IntKind.u32.wrap (BitVec.ofInt 32 (IntKind.u32.wrap (IntKind.u8.wrap (BitVec.ofInt 8 ((s.getD 0 0).toNat:Int) &&& BitVec.ofInt 8 127).toNat)) ||| BitVec.ofInt 32 (IntKind.u32.wrap ((IntKind.u32.wrap (IntKind.u8.wrap (BitVec.ofInt 8 ((s.getD 1 0).toNat:Int) &&& BitVec.ofInt 8 127).toNat)) * 128))).toNat) ||| BitVec.ofInt 32 (IntKind.u32.wrap ((IntKind.u32.wrap (IntKind.u8.wrap (BitVec.ofInt 8 ((s.getD 2 0).toNat:Int) &&& BitVec.ofInt 8 127).toNat)) * 16384))).toNat))),(5,.v (.int .i64 0)),(48,.v (.slice A s.length c))] hW hE70 fun a71 hE72=>?_
  refine qag (qak hE72 (t:=22) (A:=A) (m:=s.length) (q:=2) (d:=49) kz (e:=5) (size:=1) (bytes:=1) (j:=2) kz hA62 rfl (by omega) fun a73 hE74=>?_)
  refine qag (qal hE74 (t:=5) (b:=b60) (o:=o61 + 2 * 1) (d:=50) kz (cs:=[.int .u8 ((s.getD 2 0).toNat:Int)]) (v:=.int .u8 ((s.getD 2 0).toNat:Int)) kz (AtF.move hat64 hW.step nilM qat).at_ fun a75 hE76=>?_)
  refine qai [3,4] [] [(0,.v (.slice A s.length c)),(4,.v (.int .u32 (IntKind.u32.wrap (BitVec.ofInt 32 (IntKind.u32.wrap (BitVec.ofInt 32 (IntKind.u32.wrap (IntKind.u8.wrap (BitVec.ofInt 8 ((s.getD 0 0).toNat:Int) &&& BitVec.ofInt 8 127).toNat)) ||| BitVec.ofInt 32 (IntKind.u32.wrap ((IntKind.u32.wrap (IntKind.u8.wrap (BitVec.ofInt 8 ((s.getD 1 0).toNat:Int) &&& BitVec.ofInt 8 127).toNat)) * 128))).toNat) ||| BitVec.ofInt 32 (IntKind.u32.wrap ((IntKind.u32.wrap (IntKind.u8.wrap (BitVec.ofInt 8 ((s.getD 2 0).toNat:Int) &&& BitVec.ofInt 8 127).toNat)) * 16384))).toNat))),(5,.v (.int .i64 0)),(52,.v (.bool ((IntKind.u8.wrap (BitVec.ofInt 8 ((s.getD 2 0).toNat:Int) &&& BitVec.ofInt 8 128).toNat) == 0)))] hW hE76 fun a77 hE78=>?_
  refine qad (qab ?_)
  refine qah hE78 (b:=(IntKind.u8.wrap (BitVec.ofInt 8 ((s.getD 2 0).toNat:Int) &&& BitVec.ofInt 8 128).toNat) == 0) kz ((qa3 _ (qaG s 2)).trans (decide_eq_false (by have:=g2; unfold oc at this; omega))) ?_
  refine qan [(0,.v (.slice A s.length c)),(4,.v (.int .u32 (IntKind.u32.wrap (BitVec.ofInt 32 (IntKind.u32.wrap (BitVec.ofInt 32 (IntKind.u32.wrap (IntKind.u8.wrap (BitVec.ofInt 8 ((s.getD 0 0).toNat:Int) &&& BitVec.ofInt 8 127).toNat)) ||| BitVec.ofInt 32 (IntKind.u32.wrap ((IntKind.u32.wrap (IntKind.u8.wrap (BitVec.ofInt 8 ((s.getD 1 0).toNat:Int) &&& BitVec.ofInt 8 127).toNat)) * 128))).toNat) ||| BitVec.ofInt 32 (IntKind.u32.wrap ((IntKind.u32.wrap (IntKind.u8.wrap (BitVec.ofInt 8 ((s.getD 2 0).toNat:Int) &&& BitVec.ofInt 8 127).toNat)) * 16384))).toNat))),(5,.v (.int .i64 0)),(56,.v (.bool (decide (((s.length:Nat):Int) < 4))))] hW hE78 fun a79 hE80=>?_
  refine qaK hE80 (b:=decide (((s.length:Nat):Int) < 4)) kz (decide_eq_true (by omega)) ?_
  refine wp_goto ?_
  exact ⟨rfl,rfl,hE80.pk (env':=[(5,.v (.int .i64 0))])⟩
 rintro a3 _ ⟨rfl,hE5⟩
 refine wp_seq ?_
 refine wp_skip ?_
 refine qab ?_
 refine qan [(2,.v (.int .u32 0)),(3,.v (.int .i64 0))] hW hE5 fun a81 hE82=>?_
 refine wp_ret ?_
 refine qcc ?_
 refine qaO hE82 hW.cells (v:=.tuple #[.int .u32 0,.int .i64 0]) kz ?_
 exact ⟨rfl,hW.step⟩
theorem qfV {A:Option Addr} {c:Nat} (s:Bs) {w:World} {F:Nat → Nat → Prop} (ho:Octs w F A c s) (hl:s.length = 4) (g0:128 ≤ oc s 0) (g1:128 ≤ oc s 1) (g2:128 ≤ oc s 2) (g3:128 ≤ oc s 3) :
  Calls Tryd.prog 68 #[.slice A s.length c] w (qbv w (.tuple #[.int .u32 0,.int .i64 (0)])):=by
 refine enter (n:=87) Tryd.func68 rfl Tryd.ntmps68 kz fun a hE=>?_
 have hW:=WOk.start w Nil
 refine qan [(0,.v (.slice A s.length c))] hW hE fun a1 hE2=>?_
 refine wp_scope_jumps 0 (fun a_ w_=>w_ = w ∧ EnvOk 87 [] [(5,.v (.int .i64 0))] a_) (fun _ _=>0) rfl ?_ ?_
 ·
  refine qan [(0,.v (.slice A s.length c))] hW hE2 fun a6 hE7=>?_
  refine qan [(0,.v (.slice A s.length c)),(5,.v (.int .i64 0))] hW hE7 fun a8 hE9=>?_
  refine wp_seq ?_
  refine qan [(0,.v (.slice A s.length c)),(5,.v (.int .i64 0)),(8,.v (.bool (decide (((s.length:Nat):Int) < 1))))] hW hE9 fun a10 hE11=>?_
  refine qah hE11 (b:=decide (((s.length:Nat):Int) < 1)) kz (decide_eq_false (by omega)) ?_
  refine wp_skip ?_
  refine qab ?_
  refine qac [0,1,2,3,4,5] kz ?_
  refine qai [0] [1,2,3,4,5] [(0,.v (.slice A s.length c)),(5,.v (.int .i64 0)),(9,.v (.slice A s.length c))] hW hE11 fun a12 hE13=>?_
  obtain ⟨b14,o15,hA16,hl17,hat18⟩:=Slots.get ho (i:=0) (by omega)
  refine qag (qak hE13 (t:=22) (A:=A) (m:=s.length) (q:=0) (d:=10) kz (e:=5) (size:=1) (bytes:=1) (j:=0) kz hA16 rfl (by omega) fun a19 hE20=>?_)
  refine qag (qal hE20 (t:=5) (b:=b14) (o:=o15 + 0 * 1) (d:=11) kz (cs:=[.int .u8 ((s.getD 0 0).toNat:Int)]) (v:=.int .u8 ((s.getD 0 0).toNat:Int)) kz (AtF.move hat18 hW.step nilM qat).at_ fun a21 hE22=>?_)
  refine qai [3,4,5] [] [(0,.v (.slice A s.length c)),(4,.v (.int .u32 (IntKind.u32.wrap (IntKind.u8.wrap (BitVec.ofInt 8 ((s.getD 0 0).toNat:Int) &&& BitVec.ofInt 8 127).toNat)))),(5,.v (.int .i64 0))] hW hE22 fun a23 hE24=>?_
  refine qad (qab ?_)
  refine wp_seq ?_
  refine qac [0,1,2,3,4] kz ?_
  refine qai [0] [1,2,3,4] [(0,.v (.slice A s.length c)),(4,.v (.int .u32 (IntKind.u32.wrap (IntKind.u8.wrap (BitVec.ofInt 8 ((s.getD 0 0).toNat:Int) &&& BitVec.ofInt 8 127).toNat)))),(5,.v (.int .i64 0)),(14,.v (.slice A s.length c))] hW hE24 fun a25 hE26=>?_
  refine qag (qak hE26 (t:=22) (A:=A) (m:=s.length) (q:=0) (d:=15) kz (e:=5) (size:=1) (bytes:=1) (j:=0) kz hA16 rfl (by omega) fun a27 hE28=>?_)
  refine qag (qal hE28 (t:=5) (b:=b14) (o:=o15 + 0 * 1) (d:=16) kz (cs:=[.int .u8 ((s.getD 0 0).toNat:Int)]) (v:=.int .u8 ((s.getD 0 0).toNat:Int)) kz (AtF.move hat18 hW.step nilM qat).at_ fun a29 hE30=>?_)
  refine qai [3,4] [] [(0,.v (.slice A s.length c)),(4,.v (.int .u32 (IntKind.u32.wrap (IntKind.u8.wrap (BitVec.ofInt 8 ((s.getD 0 0).toNat:Int) &&& BitVec.ofInt 8 127).toNat)))),(5,.v (.int .i64 0)),(18,.v (.bool ((IntKind.u8.wrap (BitVec.ofInt 8 ((s.getD 0 0).toNat:Int) &&& BitVec.ofInt 8 128).toNat) == 0)))] hW hE30 fun a31 hE32=>?_
  refine qad (qab ?_)
  refine qah hE32 (b:=(IntKind.u8.wrap (BitVec.ofInt 8 ((s.getD 0 0).toNat:Int) &&& BitVec.ofInt 8 128).toNat) == 0) kz ((qa3 _ (qaG s 0)).trans (decide_eq_false (by have:=g0; unfold oc at this; omega))) ?_
  refine qan [(0,.v (.slice A s.length c)),(4,.v (.int .u32 (IntKind.u32.wrap (IntKind.u8.wrap (BitVec.ofInt 8 ((s.getD 0 0).toNat:Int) &&& BitVec.ofInt 8 127).toNat)))),(5,.v (.int .i64 0)),(22,.v (.bool (decide (((s.length:Nat):Int) < 2))))] hW hE32 fun a33 hE34=>?_
  refine qah hE34 (b:=decide (((s.length:Nat):Int) < 2)) kz (decide_eq_false (by omega)) ?_
  refine wp_skip ?_
  refine qab ?_
  refine qac [0,1,2,3,4,5,6,7,8] kz ?_
  refine qai [0,1] [2,3,4,5,6,7,8] [(0,.v (.slice A s.length c)),(5,.v (.int .i64 0)),(23,.v (.int .u32 (IntKind.u32.wrap (IntKind.u8.wrap (BitVec.ofInt 8 ((s.getD 0 0).toNat:Int) &&& BitVec.ofInt 8 127).toNat)))),(24,.v (.slice A s.length c))] hW hE34 fun a35 hE36=>?_
  obtain ⟨b37,o38,hA39,hl40,hat41⟩:=Slots.get ho (i:=1) (by omega)
  refine qag (qak hE36 (t:=22) (A:=A) (m:=s.length) (q:=1) (d:=25) kz (e:=5) (size:=1) (bytes:=1) (j:=1) kz hA39 rfl (by omega) fun a42 hE43=>?_)
  refine qag (qal hE43 (t:=5) (b:=b37) (o:=o38 + 1 * 1) (d:=26) kz (cs:=[.int .u8 ((s.getD 1 0).toNat:Int)]) (v:=.int .u8 ((s.getD 1 0).toNat:Int)) kz (AtF.move hat41 hW.step nilM qat).at_ fun a44 hE45=>?_)
  refine qai [4,5,6,7,8] [] [(0,.v (.slice A s.length c)),(4,.v (.int .u32 (IntKind.u32.wrap (BitVec.ofInt 32 (IntKind.u32.wrap (IntKind.u8.wrap (BitVec.ofInt 8 ((s.getD 0 0).toNat:Int) &&& BitVec.ofInt 8 127).toNat)) ||| BitVec.ofInt 32 (IntKind.u32.wrap ((IntKind.u32.wrap (IntKind.u8.wrap (BitVec.ofInt 8 ((s.getD 1 0).toNat:Int) &&& BitVec.ofInt 8 127).toNat)) * 128))).toNat))),(5,.v (.int .i64 0))] hW hE45 fun a46 hE47=>?_
  refine qad (qab ?_)
  refine wp_seq ?_
  refine qac [0,1,2,3,4] kz ?_
  refine qai [0] [1,2,3,4] [(0,.v (.slice A s.length c)),(4,.v (.int .u32 (IntKind.u32.wrap (BitVec.ofInt 32 (IntKind.u32.wrap (IntKind.u8.wrap (BitVec.ofInt 8 ((s.getD 0 0).toNat:Int) &&& BitVec.ofInt 8 127).toNat)) ||| BitVec.ofInt 32 (IntKind.u32.wrap ((IntKind.u32.wrap (IntKind.u8.wrap (BitVec.ofInt 8 ((s.getD 1 0).toNat:Int) &&& BitVec.ofInt 8 127).toNat)) * 128))).toNat))),(5,.v (.int .i64 0)),(31,.v (.slice A s.length c))] hW hE47 fun a48 hE49=>?_
  refine qag (qak hE49 (t:=22) (A:=A) (m:=s.length) (q:=1) (d:=32) kz (e:=5) (size:=1) (bytes:=1) (j:=1) kz hA39 rfl (by omega) fun a50 hE51=>?_)
  refine qag (qal hE51 (t:=5) (b:=b37) (o:=o38 + 1 * 1) (d:=33) kz (cs:=[.int .u8 ((s.getD 1 0).toNat:Int)]) (v:=.int .u8 ((s.getD 1 0).toNat:Int)) kz (AtF.move hat41 hW.step nilM qat).at_ fun a52 hE53=>?_)
  refine qai [3,4] [] [(0,.v (.slice A s.length c)),(4,.v (.int .u32 (IntKind.u32.wrap (BitVec.ofInt 32 (IntKind.u32.wrap (IntKind.u8.wrap (BitVec.ofInt 8 ((s.getD 0 0).toNat:Int) &&& BitVec.ofInt 8 127).toNat)) ||| BitVec.ofInt 32 (IntKind.u32.wrap ((IntKind.u32.wrap (IntKind.u8.wrap (BitVec.ofInt 8 ((s.getD 1 0).toNat:Int) &&& BitVec.ofInt 8 127).toNat)) * 128))).toNat))),(5,.v (.int .i64 0)),(35,.v (.bool ((IntKind.u8.wrap (BitVec.ofInt 8 ((s.getD 1 0).toNat:Int) &&& BitVec.ofInt 8 128).toNat) == 0)))] hW hE53 fun a54 hE55=>?_
  refine qad (qab ?_)
  refine qah hE55 (b:=(IntKind.u8.wrap (BitVec.ofInt 8 ((s.getD 1 0).toNat:Int) &&& BitVec.ofInt 8 128).toNat) == 0) kz ((qa3 _ (qaG s 1)).trans (decide_eq_false (by have:=g1; unfold oc at this; omega))) ?_
  refine qan [(0,.v (.slice A s.length c)),(4,.v (.int .u32 (IntKind.u32.wrap (BitVec.ofInt 32 (IntKind.u32.wrap (IntKind.u8.wrap (BitVec.ofInt 8 ((s.getD 0 0).toNat:Int) &&& BitVec.ofInt 8 127).toNat)) ||| BitVec.ofInt 32 (IntKind.u32.wrap ((IntKind.u32.wrap (IntKind.u8.wrap (BitVec.ofInt 8 ((s.getD 1 0).toNat:Int) &&& BitVec.ofInt 8 127).toNat)) * 128))).toNat))),(5,.v (.int .i64 0)),(39,.v (.bool (decide (((s.length:Nat):Int) < 3))))] hW hE55 fun a56 hE57=>?_
  refine qah hE57 (b:=decide (((s.length:Nat):Int) < 3)) kz (decide_eq_false (by omega)) ?_
  refine wp_skip ?_
  refine qab ?_
  refine qac [0,1,2,3,4,5,6,7,8] kz ?_
  refine qai [0,1] [2,3,4,5,6,7,8] [(0,.v (.slice A s.length c)),(5,.v (.int .i64 0)),(40,.v (.int .u32 (IntKind.u32.wrap (BitVec.ofInt 32 (IntKind.u32.wrap (IntKind.u8.wrap (BitVec.ofInt 8 ((s.getD 0 0).toNat:Int) &&& BitVec.ofInt 8 127).toNat)) ||| BitVec.ofInt 32 (IntKind.u32.wrap ((IntKind.u32.wrap (IntKind.u8.wrap (BitVec.ofInt 8 ((s.getD 1 0).toNat:Int) &&& BitVec.ofInt 8 127).toNat)) * 128))).toNat))),(41,.v (.slice A s.length c))] hW hE57 fun a58 hE59=>?_
  obtain ⟨b60,o61,hA62,hl63,hat64⟩:=Slots.get ho (i:=2) (by omega)
  refine qag (qak hE59 (t:=22) (A:=A) (m:=s.length) (q:=2) (d:=42) kz (e:=5) (size:=1) (bytes:=1) (j:=2) kz hA62 rfl (by omega) fun a65 hE66=>?_)
  refine qag (qal hE66 (t:=5) (b:=b60) (o:=o61 + 2 * 1) (d:=43) kz (cs:=[.int .u8 ((s.getD 2 0).toNat:Int)]) (v:=.int .u8 ((s.getD 2 0).toNat:Int)) kz (AtF.move hat64 hW.step nilM qat).at_ fun a67 hE68=>?_)
  refine qai [4,5,6,7,8] [] [(0,.v (.slice A s.length c)),(4,.v (.int .u32 (IntKind.u32.wrap (BitVec.ofInt 32 (IntKind.u32.wrap (BitVec.ofInt 32 (IntKind.u32.wrap (IntKind.u8.wrap (BitVec.ofInt 8 ((s.getD 0 0).toNat:Int) &&& BitVec.ofInt 8 127).toNat)) ||| BitVec.ofInt 32 (IntKind.u32.wrap ((IntKind.u32.wrap (IntKind.u8.wrap (BitVec.ofInt 8 ((s.getD 1 0).toNat:Int) &&& BitVec.ofInt 8 127).toNat)) * 128))).toNat) ||| BitVec.ofInt 32 (IntKind.u32.wrap ((IntKind.u32.wrap (IntKind.u8.wrap (BitVec.ofInt 8 ((s.getD 2 0).toNat:Int) &&& BitVec.ofInt 8 127).toNat)) * 16384))).toNat))),(5,.v (.int .i64 0))] hW hE68 fun a69 hE70=>?_
  refine qad (qab ?_)
  refine wp_seq ?_
  refine qac [0,1,2,3,4] kz ?_
  refine qai [0] [1,2,3,4] [(0,.v (.slice A s.length c)),(4,.v (.int .u32 (IntKind.u32.wrap (BitVec.ofInt 32 (IntKind.u32.wrap (BitVec.ofInt 32 (IntKind.u32.wrap (IntKind.u8.wrap (BitVec.ofInt 8 ((s.getD 0 0).toNat:Int) &&& BitVec.ofInt 8 127).toNat)) ||| BitVec.ofInt 32 (IntKind.u32.wrap ((IntKind.u32.wrap (IntKind.u8.wrap (BitVec.ofInt 8 ((s.getD 1 0).toNat:Int) &&& BitVec.ofInt 8 127).toNat)) * 128))).toNat) ||| BitVec.ofInt 32 (IntKind.u32.wrap ((IntKind.u32.wrap (IntKind.u8.wrap (BitVec.ofInt 8 ((s.getD 2 0).toNat:Int) &&& BitVec.ofInt 8 127).toNat)) * 16384))).toNat))),(5,.v (.int .i64 0)),(48,.v (.slice A s.length c))] hW hE70 fun a71 hE72=>?_
  refine qag (qak hE72 (t:=22) (A:=A) (m:=s.length) (q:=2) (d:=49) kz (e:=5) (size:=1) (bytes:=1) (j:=2) kz hA62 rfl (by omega) fun a73 hE74=>?_)
  refine qag (qal hE74 (t:=5) (b:=b60) (o:=o61 + 2 * 1) (d:=50) kz (cs:=[.int .u8 ((s.getD 2 0).toNat:Int)]) (v:=.int .u8 ((s.getD 2 0).toNat:Int)) kz (AtF.move hat64 hW.step nilM qat).at_ fun a75 hE76=>?_)
  refine qai [3,4] [] [(0,.v (.slice A s.length c)),(4,.v (.int .u32 (IntKind.u32.wrap (BitVec.ofInt 32 (IntKind.u32.wrap (BitVec.ofInt 32 (IntKind.u32.wrap (IntKind.u8.wrap (BitVec.ofInt 8 ((s.getD 0 0).toNat:Int) &&& BitVec.ofInt 8 127).toNat)) ||| BitVec.ofInt 32 (IntKind.u32.wrap ((IntKind.u32.wrap (IntKind.u8.wrap (BitVec.ofInt 8 ((s.getD 1 0).toNat:Int) &&& BitVec.ofInt 8 127).toNat)) * 128))).toNat) ||| BitVec.ofInt 32 (IntKind.u32.wrap ((IntKind.u32.wrap (IntKind.u8.wrap (BitVec.ofInt 8 ((s.getD 2 0).toNat:Int) &&& BitVec.ofInt 8 127).toNat)) * 16384))).toNat))),(5,.v (.int .i64 0)),(52,.v (.bool ((IntKind.u8.wrap (BitVec.ofInt 8 ((s.getD 2 0).toNat:Int) &&& BitVec.ofInt 8 128).toNat) == 0)))] hW hE76 fun a77 hE78=>?_
  refine qad (qab ?_)
  refine qah hE78 (b:=(IntKind.u8.wrap (BitVec.ofInt 8 ((s.getD 2 0).toNat:Int) &&& BitVec.ofInt 8 128).toNat) == 0) kz ((qa3 _ (qaG s 2)).trans (decide_eq_false (by have:=g2; unfold oc at this; omega))) ?_
  refine qan [(0,.v (.slice A s.length c)),(4,.v (.int .u32 (IntKind.u32.wrap (BitVec.ofInt 32 (IntKind.u32.wrap (BitVec.ofInt 32 (IntKind.u32.wrap (IntKind.u8.wrap (BitVec.ofInt 8 ((s.getD 0 0).toNat:Int) &&& BitVec.ofInt 8 127).toNat)) ||| BitVec.ofInt 32 (IntKind.u32.wrap ((IntKind.u32.wrap (IntKind.u8.wrap (BitVec.ofInt 8 ((s.getD 1 0).toNat:Int) &&& BitVec.ofInt 8 127).toNat)) * 128))).toNat) ||| BitVec.ofInt 32 (IntKind.u32.wrap ((IntKind.u32.wrap (IntKind.u8.wrap (BitVec.ofInt 8 ((s.getD 2 0).toNat:Int) &&& BitVec.ofInt 8 127).toNat)) * 16384))).toNat))),(5,.v (.int .i64 0)),(56,.v (.bool (decide (((s.length:Nat):Int) < 4))))] hW hE78 fun a79 hE80=>?_
  refine qah hE80 (b:=decide (((s.length:Nat):Int) < 4)) kz (decide_eq_false (by omega)) ?_
  refine wp_skip ?_
  refine qab ?_
  refine qac [0,1,2,3,4,5,6,7,8] kz ?_
  refine qai [0,1] [2,3,4,5,6,7,8] [(0,.v (.slice A s.length c)),(5,.v (.int .i64 0)),(57,.v (.int .u32 (IntKind.u32.wrap (BitVec.ofInt 32 (IntKind.u32.wrap (BitVec.ofInt 32 (IntKind.u32.wrap (IntKind.u8.wrap (BitVec.ofInt 8 ((s.getD 0 0).toNat:Int) &&& BitVec.ofInt 8 127).toNat)) ||| BitVec.ofInt 32 (IntKind.u32.wrap ((IntKind.u32.wrap (IntKind.u8.wrap (BitVec.ofInt 8 ((s.getD 1 0).toNat:Int) &&& BitVec.ofInt 8 127).toNat)) * 128))).toNat) ||| BitVec.ofInt 32 (IntKind.u32.wrap ((IntKind.u32.wrap (IntKind.u8.wrap (BitVec.ofInt 8 ((s.getD 2 0).toNat:Int) &&& BitVec.ofInt 8 127).toNat)) * 16384))).toNat))),(58,.v (.slice A s.length c))] hW hE80 fun a81 hE82=>?_
  obtain ⟨b83,o84,hA85,hl86,hat87⟩:=Slots.get ho (i:=3) (by omega)
  refine qag (qak hE82 (t:=22) (A:=A) (m:=s.length) (q:=3) (d:=59) kz (e:=5) (size:=1) (bytes:=1) (j:=3) kz hA85 rfl (by omega) fun a88 hE89=>?_)
  refine qag (qal hE89 (t:=5) (b:=b83) (o:=o84 + 3 * 1) (d:=60) kz (cs:=[.int .u8 ((s.getD 3 0).toNat:Int)]) (v:=.int .u8 ((s.getD 3 0).toNat:Int)) kz (AtF.move hat87 hW.step nilM qat).at_ fun a90 hE91=>?_)
  refine qai [4,5,6,7,8] [] [(0,.v (.slice A s.length c)),(4,.v (.int .u32 (IntKind.u32.wrap (BitVec.ofInt 32 (IntKind.u32.wrap (BitVec.ofInt 32 (IntKind.u32.wrap (BitVec.ofInt 32 (IntKind.u32.wrap (IntKind.u8.wrap (BitVec.ofInt 8 ((s.getD 0 0).toNat:Int) &&& BitVec.ofInt 8 127).toNat)) ||| BitVec.ofInt 32 (IntKind.u32.wrap ((IntKind.u32.wrap (IntKind.u8.wrap (BitVec.ofInt 8 ((s.getD 1 0).toNat:Int) &&& BitVec.ofInt 8 127).toNat)) * 128))).toNat) ||| BitVec.ofInt 32 (IntKind.u32.wrap ((IntKind.u32.wrap (IntKind.u8.wrap (BitVec.ofInt 8 ((s.getD 2 0).toNat:Int) &&& BitVec.ofInt 8 127).toNat)) * 16384))).toNat) ||| BitVec.ofInt 32 (IntKind.u32.wrap ((IntKind.u32.wrap (IntKind.u8.wrap (BitVec.ofInt 8 ((s.getD 3 0).toNat:Int) &&& BitVec.ofInt 8 127).toNat)) * 2097152))).toNat))),(5,.v (.int .i64 0))] hW hE91 fun a92 hE93=>?_
  refine qad (qab ?_)
  refine wp_seq ?_
  refine qac [0,1,2,3,4] kz ?_
  refine qai [0] [1,2,3,4] [(0,.v (.slice A s.length c)),(4,.v (.int .u32 (IntKind.u32.wrap (BitVec.ofInt 32 (IntKind.u32.wrap (BitVec.ofInt 32 (IntKind.u32.wrap (BitVec.ofInt 32 (IntKind.u32.wrap (IntKind.u8.wrap (BitVec.ofInt 8 ((s.getD 0 0).toNat:Int) &&& BitVec.ofInt 8 127).toNat)) ||| BitVec.ofInt 32 (IntKind.u32.wrap ((IntKind.u32.wrap (IntKind.u8.wrap (BitVec.ofInt 8 ((s.getD 1 0).toNat:Int) &&& BitVec.ofInt 8 127).toNat)) * 128))).toNat) ||| BitVec.ofInt 32 (IntKind.u32.wrap ((IntKind.u32.wrap (IntKind.u8.wrap (BitVec.ofInt 8 ((s.getD 2 0).toNat:Int) &&& BitVec.ofInt 8 127).toNat)) * 16384))).toNat) ||| BitVec.ofInt 32 (IntKind.u32.wrap ((IntKind.u32.wrap (IntKind.u8.wrap (BitVec.ofInt 8 ((s.getD 3 0).toNat:Int) &&& BitVec.ofInt 8 127).toNat)) * 2097152))).toNat))),(5,.v (.int .i64 0)),(65,.v (.slice A s.length c))] hW hE93 fun a94 hE95=>?_
  refine qag (qak hE95 (t:=22) (A:=A) (m:=s.length) (q:=3) (d:=66) kz (e:=5) (size:=1) (bytes:=1) (j:=3) kz hA85 rfl (by omega) fun a96 hE97=>?_)
  refine qag (qal hE97 (t:=5) (b:=b83) (o:=o84 + 3 * 1) (d:=67) kz (cs:=[.int .u8 ((s.getD 3 0).toNat:Int)]) (v:=.int .u8 ((s.getD 3 0).toNat:Int)) kz (AtF.move hat87 hW.step nilM qat).at_ fun a98 hE99=>?_)
  refine qai [3,4] [] [(0,.v (.slice A s.length c)),(4,.v (.int .u32 (IntKind.u32.wrap (BitVec.ofInt 32 (IntKind.u32.wrap (BitVec.ofInt 32 (IntKind.u32.wrap (BitVec.ofInt 32 (IntKind.u32.wrap (IntKind.u8.wrap (BitVec.ofInt 8 ((s.getD 0 0).toNat:Int) &&& BitVec.ofInt 8 127).toNat)) ||| BitVec.ofInt 32 (IntKind.u32.wrap ((IntKind.u32.wrap (IntKind.u8.wrap (BitVec.ofInt 8 ((s.getD 1 0).toNat:Int) &&& BitVec.ofInt 8 127).toNat)) * 128))).toNat) ||| BitVec.ofInt 32 (IntKind.u32.wrap ((IntKind.u32.wrap (IntKind.u8.wrap (BitVec.ofInt 8 ((s.getD 2 0).toNat:Int) &&& BitVec.ofInt 8 127).toNat)) * 16384))).toNat) ||| BitVec.ofInt 32 (IntKind.u32.wrap ((IntKind.u32.wrap (IntKind.u8.wrap (BitVec.ofInt 8 ((s.getD 3 0).toNat:Int) &&& BitVec.ofInt 8 127).toNat)) * 2097152))).toNat))),(5,.v (.int .i64 0)),(69,.v (.bool ((IntKind.u8.wrap (BitVec.ofInt 8 ((s.getD 3 0).toNat:Int) &&& BitVec.ofInt 8 128).toNat) == 0)))] hW hE99 fun a100 hE101=>?_
  refine qad (qab ?_)
  refine qah hE101 (b:=(IntKind.u8.wrap (BitVec.ofInt 8 ((s.getD 3 0).toNat:Int) &&& BitVec.ofInt 8 128).toNat) == 0) kz ((qa3 _ (qaG s 3)).trans (decide_eq_false (by have:=g3; unfold oc at this; omega))) ?_
  refine qan [(0,.v (.slice A s.length c)),(4,.v (.int .u32 (IntKind.u32.wrap (BitVec.ofInt 32 (IntKind.u32.wrap (BitVec.ofInt 32 (IntKind.u32.wrap (BitVec.ofInt 32 (IntKind.u32.wrap (IntKind.u8.wrap (BitVec.ofInt 8 ((s.getD 0 0).toNat:Int) &&& BitVec.ofInt 8 127).toNat)) ||| BitVec.ofInt 32 (IntKind.u32.wrap ((IntKind.u32.wrap (IntKind.u8.wrap (BitVec.ofInt 8 ((s.getD 1 0).toNat:Int) &&& BitVec.ofInt 8 127).toNat)) * 128))).toNat) ||| BitVec.ofInt 32 (IntKind.u32.wrap ((IntKind.u32.wrap (IntKind.u8.wrap (BitVec.ofInt 8 ((s.getD 2 0).toNat:Int) &&& BitVec.ofInt 8 127).toNat)) * 16384))).toNat) ||| BitVec.ofInt 32 (IntKind.u32.wrap ((IntKind.u32.wrap (IntKind.u8.wrap (BitVec.ofInt 8 ((s.getD 3 0).toNat:Int) &&& BitVec.ofInt 8 127).toNat)) * 2097152))).toNat))),(5,.v (.int .i64 0)),(73,.v (.bool (decide (((s.length:Nat):Int) < 5))))] hW hE101 fun a102 hE103=>?_
  refine qaK hE103 (b:=decide (((s.length:Nat):Int) < 5)) kz (decide_eq_true (by omega)) ?_
  refine wp_goto ?_
  exact ⟨rfl,rfl,hE103.pk (env':=[(5,.v (.int .i64 0))])⟩
 rintro a3 _ ⟨rfl,hE5⟩
 refine wp_seq ?_
 refine wp_skip ?_
 refine qab ?_
 refine qan [(2,.v (.int .u32 0)),(3,.v (.int .i64 0))] hW hE5 fun a104 hE105=>?_
 refine wp_ret ?_
 refine qcc ?_
 refine qaO hE105 hW.cells (v:=.tuple #[.int .u32 0,.int .i64 0]) kz ?_
 exact ⟨rfl,hW.step⟩
theorem qfW {A:Option Addr} {c:Nat} (s:Bs) {w:World} {F:Nat → Nat → Prop} (ho:Octs w F A c s) (hl:5 ≤ s.length) (g0:128 ≤ oc s 0) (g1:128 ≤ oc s 1) (g2:128 ≤ oc s 2) (g3:128 ≤ oc s 3) (g4:16 ≤ oc s 4) :
  Calls Tryd.prog 68 #[.slice A s.length c] w (qbv w (.tuple #[.int .u32 0,.int .i64 (-5)])):=by
 refine enter (n:=87) Tryd.func68 rfl Tryd.ntmps68 kz fun a hE=>?_
 have hW:=WOk.start w Nil
 refine qan [(0,.v (.slice A s.length c))] hW hE fun a1 hE2=>?_
 refine wp_scope_straight ?_
 refine qan [(0,.v (.slice A s.length c))] hW hE2 fun a3 hE4=>?_
 refine qan [(0,.v (.slice A s.length c)),(5,.v (.int .i64 0))] hW hE4 fun a5 hE6=>?_
 refine wp_seq ?_
 refine qan [(0,.v (.slice A s.length c)),(5,.v (.int .i64 0)),(8,.v (.bool (decide (((s.length:Nat):Int) < 1))))] hW hE6 fun a7 hE8=>?_
 refine qah hE8 (b:=decide (((s.length:Nat):Int) < 1)) kz (decide_eq_false (by omega)) ?_
 refine wp_skip ?_
 refine qab ?_
 refine qac [0,1,2,3,4,5] kz ?_
 refine qai [0] [1,2,3,4,5] [(0,.v (.slice A s.length c)),(5,.v (.int .i64 0)),(9,.v (.slice A s.length c))] hW hE8 fun a9 hE10=>?_
 obtain ⟨b11,o12,hA13,hl14,hat15⟩:=Slots.get ho (i:=0) (by omega)
 refine qag (qak hE10 (t:=22) (A:=A) (m:=s.length) (q:=0) (d:=10) kz (e:=5) (size:=1) (bytes:=1) (j:=0) kz hA13 rfl (by omega) fun a16 hE17=>?_)
 refine qag (qal hE17 (t:=5) (b:=b11) (o:=o12 + 0 * 1) (d:=11) kz (cs:=[.int .u8 ((s.getD 0 0).toNat:Int)]) (v:=.int .u8 ((s.getD 0 0).toNat:Int)) kz (AtF.move hat15 hW.step nilM qat).at_ fun a18 hE19=>?_)
 refine qai [3,4,5] [] [(0,.v (.slice A s.length c)),(4,.v (.int .u32 (IntKind.u32.wrap (IntKind.u8.wrap (BitVec.ofInt 8 ((s.getD 0 0).toNat:Int) &&& BitVec.ofInt 8 127).toNat)))),(5,.v (.int .i64 0))] hW hE19 fun a20 hE21=>?_
 refine qad (qab ?_)
 refine wp_seq ?_
 refine qac [0,1,2,3,4] kz ?_
 refine qai [0] [1,2,3,4] [(0,.v (.slice A s.length c)),(4,.v (.int .u32 (IntKind.u32.wrap (IntKind.u8.wrap (BitVec.ofInt 8 ((s.getD 0 0).toNat:Int) &&& BitVec.ofInt 8 127).toNat)))),(5,.v (.int .i64 0)),(14,.v (.slice A s.length c))] hW hE21 fun a22 hE23=>?_
 refine qag (qak hE23 (t:=22) (A:=A) (m:=s.length) (q:=0) (d:=15) kz (e:=5) (size:=1) (bytes:=1) (j:=0) kz hA13 rfl (by omega) fun a24 hE25=>?_)
 refine qag (qal hE25 (t:=5) (b:=b11) (o:=o12 + 0 * 1) (d:=16) kz (cs:=[.int .u8 ((s.getD 0 0).toNat:Int)]) (v:=.int .u8 ((s.getD 0 0).toNat:Int)) kz (AtF.move hat15 hW.step nilM qat).at_ fun a26 hE27=>?_)
 refine qai [3,4] [] [(0,.v (.slice A s.length c)),(4,.v (.int .u32 (IntKind.u32.wrap (IntKind.u8.wrap (BitVec.ofInt 8 ((s.getD 0 0).toNat:Int) &&& BitVec.ofInt 8 127).toNat)))),(5,.v (.int .i64 0)),(18,.v (.bool ((IntKind.u8.wrap (BitVec.ofInt 8 ((s.getD 0 0).toNat:Int) &&& BitVec.ofInt 8 128).toNat) == 0)))] hW hE27 fun a28 hE29=>?_
 refine qad (qab ?_)
 refine qah hE29 (b:=(IntKind.u8.wrap (BitVec.ofInt 8 ((s.getD 0 0).toNat:Int) &&& BitVec.ofInt 8 128).toNat) == 0) kz ((qa3 _ (qaG s 0)).trans (decide_eq_false (by have:=g0; unfold oc at this; omega))) ?_
 refine qan [(0,.v (.slice A s.length c)),(4,.v (.int .u32 (IntKind.u32.wrap (IntKind.u8.wrap (BitVec.ofInt 8 ((s.getD 0 0).toNat:Int) &&& BitVec.ofInt 8 127).toNat)))),(5,.v (.int .i64 0)),(22,.v (.bool (decide (((s.length:Nat):Int) < 2))))] hW hE29 fun a30 hE31=>?_
 refine qah hE31 (b:=decide (((s.length:Nat):Int) < 2)) kz (decide_eq_false (by omega)) ?_
 refine wp_skip ?_
 refine qab ?_
 refine qac [0,1,2,3,4,5,6,7,8] kz ?_
 refine qai [0,1] [2,3,4,5,6,7,8] [(0,.v (.slice A s.length c)),(5,.v (.int .i64 0)),(23,.v (.int .u32 (IntKind.u32.wrap (IntKind.u8.wrap (BitVec.ofInt 8 ((s.getD 0 0).toNat:Int) &&& BitVec.ofInt 8 127).toNat)))),(24,.v (.slice A s.length c))] hW hE31 fun a32 hE33=>?_
 obtain ⟨b34,o35,hA36,hl37,hat38⟩:=Slots.get ho (i:=1) (by omega)
 refine qag (qak hE33 (t:=22) (A:=A) (m:=s.length) (q:=1) (d:=25) kz (e:=5) (size:=1) (bytes:=1) (j:=1) kz hA36 rfl (by omega) fun a39 hE40=>?_)
 refine qag (qal hE40 (t:=5) (b:=b34) (o:=o35 + 1 * 1) (d:=26) kz (cs:=[.int .u8 ((s.getD 1 0).toNat:Int)]) (v:=.int .u8 ((s.getD 1 0).toNat:Int)) kz (AtF.move hat38 hW.step nilM qat).at_ fun a41 hE42=>?_)
 refine qai [4,5,6,7,8] [] [(0,.v (.slice A s.length c)),(4,.v (.int .u32 (IntKind.u32.wrap (BitVec.ofInt 32 (IntKind.u32.wrap (IntKind.u8.wrap (BitVec.ofInt 8 ((s.getD 0 0).toNat:Int) &&& BitVec.ofInt 8 127).toNat)) ||| BitVec.ofInt 32 (IntKind.u32.wrap ((IntKind.u32.wrap (IntKind.u8.wrap (BitVec.ofInt 8 ((s.getD 1 0).toNat:Int) &&& BitVec.ofInt 8 127).toNat)) * 128))).toNat))),(5,.v (.int .i64 0))] hW hE42 fun a43 hE44=>?_
 refine qad (qab ?_)
 refine wp_seq ?_
 refine qac [0,1,2,3,4] kz ?_
 refine qai [0] [1,2,3,4] [(0,.v (.slice A s.length c)),(4,.v (.int .u32 (IntKind.u32.wrap (BitVec.ofInt 32 (IntKind.u32.wrap (IntKind.u8.wrap (BitVec.ofInt 8 ((s.getD 0 0).toNat:Int) &&& BitVec.ofInt 8 127).toNat)) ||| BitVec.ofInt 32 (IntKind.u32.wrap ((IntKind.u32.wrap (IntKind.u8.wrap (BitVec.ofInt 8 ((s.getD 1 0).toNat:Int) &&& BitVec.ofInt 8 127).toNat)) * 128))).toNat))),(5,.v (.int .i64 0)),(31,.v (.slice A s.length c))] hW hE44 fun a45 hE46=>?_
 refine qag (qak hE46 (t:=22) (A:=A) (m:=s.length) (q:=1) (d:=32) kz (e:=5) (size:=1) (bytes:=1) (j:=1) kz hA36 rfl (by omega) fun a47 hE48=>?_)
 refine qag (qal hE48 (t:=5) (b:=b34) (o:=o35 + 1 * 1) (d:=33) kz (cs:=[.int .u8 ((s.getD 1 0).toNat:Int)]) (v:=.int .u8 ((s.getD 1 0).toNat:Int)) kz (AtF.move hat38 hW.step nilM qat).at_ fun a49 hE50=>?_)
 refine qai [3,4] [] [(0,.v (.slice A s.length c)),(4,.v (.int .u32 (IntKind.u32.wrap (BitVec.ofInt 32 (IntKind.u32.wrap (IntKind.u8.wrap (BitVec.ofInt 8 ((s.getD 0 0).toNat:Int) &&& BitVec.ofInt 8 127).toNat)) ||| BitVec.ofInt 32 (IntKind.u32.wrap ((IntKind.u32.wrap (IntKind.u8.wrap (BitVec.ofInt 8 ((s.getD 1 0).toNat:Int) &&& BitVec.ofInt 8 127).toNat)) * 128))).toNat))),(5,.v (.int .i64 0)),(35,.v (.bool ((IntKind.u8.wrap (BitVec.ofInt 8 ((s.getD 1 0).toNat:Int) &&& BitVec.ofInt 8 128).toNat) == 0)))] hW hE50 fun a51 hE52=>?_
 refine qad (qab ?_)
 refine qah hE52 (b:=(IntKind.u8.wrap (BitVec.ofInt 8 ((s.getD 1 0).toNat:Int) &&& BitVec.ofInt 8 128).toNat) == 0) kz ((qa3 _ (qaG s 1)).trans (decide_eq_false (by have:=g1; unfold oc at this; omega))) ?_
 refine qan [(0,.v (.slice A s.length c)),(4,.v (.int .u32 (IntKind.u32.wrap (BitVec.ofInt 32 (IntKind.u32.wrap (IntKind.u8.wrap (BitVec.ofInt 8 ((s.getD 0 0).toNat:Int) &&& BitVec.ofInt 8 127).toNat)) ||| BitVec.ofInt 32 (IntKind.u32.wrap ((IntKind.u32.wrap (IntKind.u8.wrap (BitVec.ofInt 8 ((s.getD 1 0).toNat:Int) &&& BitVec.ofInt 8 127).toNat)) * 128))).toNat))),(5,.v (.int .i64 0)),(39,.v (.bool (decide (((s.length:Nat):Int) < 3))))] hW hE52 fun a53 hE54=>?_
 refine qah hE54 (b:=decide (((s.length:Nat):Int) < 3)) kz (decide_eq_false (by omega)) ?_
 refine wp_skip ?_
 refine qab ?_
 refine qac [0,1,2,3,4,5,6,7,8] kz ?_
 refine qai [0,1] [2,3,4,5,6,7,8] [(0,.v (.slice A s.length c)),(5,.v (.int .i64 0)),(40,.v (.int .u32 (IntKind.u32.wrap (BitVec.ofInt 32 (IntKind.u32.wrap (IntKind.u8.wrap (BitVec.ofInt 8 ((s.getD 0 0).toNat:Int) &&& BitVec.ofInt 8 127).toNat)) ||| BitVec.ofInt 32 (IntKind.u32.wrap ((IntKind.u32.wrap (IntKind.u8.wrap (BitVec.ofInt 8 ((s.getD 1 0).toNat:Int) &&& BitVec.ofInt 8 127).toNat)) * 128))).toNat))),(41,.v (.slice A s.length c))] hW hE54 fun a55 hE56=>?_
 obtain ⟨b57,o58,hA59,hl60,hat61⟩:=Slots.get ho (i:=2) (by omega)
 refine qag (qak hE56 (t:=22) (A:=A) (m:=s.length) (q:=2) (d:=42) kz (e:=5) (size:=1) (bytes:=1) (j:=2) kz hA59 rfl (by omega) fun a62 hE63=>?_)
 refine qag (qal hE63 (t:=5) (b:=b57) (o:=o58 + 2 * 1) (d:=43) kz (cs:=[.int .u8 ((s.getD 2 0).toNat:Int)]) (v:=.int .u8 ((s.getD 2 0).toNat:Int)) kz (AtF.move hat61 hW.step nilM qat).at_ fun a64 hE65=>?_)
 refine qai [4,5,6,7,8] [] [(0,.v (.slice A s.length c)),(4,.v (.int .u32 (IntKind.u32.wrap (BitVec.ofInt 32 (IntKind.u32.wrap (BitVec.ofInt 32 (IntKind.u32.wrap (IntKind.u8.wrap (BitVec.ofInt 8 ((s.getD 0 0).toNat:Int) &&& BitVec.ofInt 8 127).toNat)) ||| BitVec.ofInt 32 (IntKind.u32.wrap ((IntKind.u32.wrap (IntKind.u8.wrap (BitVec.ofInt 8 ((s.getD 1 0).toNat:Int) &&& BitVec.ofInt 8 127).toNat)) * 128))).toNat) ||| BitVec.ofInt 32 (IntKind.u32.wrap ((IntKind.u32.wrap (IntKind.u8.wrap (BitVec.ofInt 8 ((s.getD 2 0).toNat:Int) &&& BitVec.ofInt 8 127).toNat)) * 16384))).toNat))),(5,.v (.int .i64 0))] hW hE65 fun a66 hE67=>?_
 refine qad (qab ?_)
 refine wp_seq ?_
 refine qac [0,1,2,3,4] kz ?_
 refine qai [0] [1,2,3,4] [(0,.v (.slice A s.length c)),(4,.v (.int .u32 (IntKind.u32.wrap (BitVec.ofInt 32 (IntKind.u32.wrap (BitVec.ofInt 32 (IntKind.u32.wrap (IntKind.u8.wrap (BitVec.ofInt 8 ((s.getD 0 0).toNat:Int) &&& BitVec.ofInt 8 127).toNat)) ||| BitVec.ofInt 32 (IntKind.u32.wrap ((IntKind.u32.wrap (IntKind.u8.wrap (BitVec.ofInt 8 ((s.getD 1 0).toNat:Int) &&& BitVec.ofInt 8 127).toNat)) * 128))).toNat) ||| BitVec.ofInt 32 (IntKind.u32.wrap ((IntKind.u32.wrap (IntKind.u8.wrap (BitVec.ofInt 8 ((s.getD 2 0).toNat:Int) &&& BitVec.ofInt 8 127).toNat)) * 16384))).toNat))),(5,.v (.int .i64 0)),(48,.v (.slice A s.length c))] hW hE67 fun a68 hE69=>?_
 refine qag (qak hE69 (t:=22) (A:=A) (m:=s.length) (q:=2) (d:=49) kz (e:=5) (size:=1) (bytes:=1) (j:=2) kz hA59 rfl (by omega) fun a70 hE71=>?_)
 refine qag (qal hE71 (t:=5) (b:=b57) (o:=o58 + 2 * 1) (d:=50) kz (cs:=[.int .u8 ((s.getD 2 0).toNat:Int)]) (v:=.int .u8 ((s.getD 2 0).toNat:Int)) kz (AtF.move hat61 hW.step nilM qat).at_ fun a72 hE73=>?_)
 refine qai [3,4] [] [(0,.v (.slice A s.length c)),(4,.v (.int .u32 (IntKind.u32.wrap (BitVec.ofInt 32 (IntKind.u32.wrap (BitVec.ofInt 32 (IntKind.u32.wrap (IntKind.u8.wrap (BitVec.ofInt 8 ((s.getD 0 0).toNat:Int) &&& BitVec.ofInt 8 127).toNat)) ||| BitVec.ofInt 32 (IntKind.u32.wrap ((IntKind.u32.wrap (IntKind.u8.wrap (BitVec.ofInt 8 ((s.getD 1 0).toNat:Int) &&& BitVec.ofInt 8 127).toNat)) * 128))).toNat) ||| BitVec.ofInt 32 (IntKind.u32.wrap ((IntKind.u32.wrap (IntKind.u8.wrap (BitVec.ofInt 8 ((s.getD 2 0).toNat:Int) &&& BitVec.ofInt 8 127).toNat)) * 16384))).toNat))),(5,.v (.int .i64 0)),(52,.v (.bool ((IntKind.u8.wrap (BitVec.ofInt 8 ((s.getD 2 0).toNat:Int) &&& BitVec.ofInt 8 128).toNat) == 0)))] hW hE73 fun a74 hE75=>?_
 refine qad (qab ?_)
 refine qah hE75 (b:=(IntKind.u8.wrap (BitVec.ofInt 8 ((s.getD 2 0).toNat:Int) &&& BitVec.ofInt 8 128).toNat) == 0) kz ((qa3 _ (qaG s 2)).trans (decide_eq_false (by have:=g2; unfold oc at this; omega))) ?_
 refine qan [(0,.v (.slice A s.length c)),(4,.v (.int .u32 (IntKind.u32.wrap (BitVec.ofInt 32 (IntKind.u32.wrap (BitVec.ofInt 32 (IntKind.u32.wrap (IntKind.u8.wrap (BitVec.ofInt 8 ((s.getD 0 0).toNat:Int) &&& BitVec.ofInt 8 127).toNat)) ||| BitVec.ofInt 32 (IntKind.u32.wrap ((IntKind.u32.wrap (IntKind.u8.wrap (BitVec.ofInt 8 ((s.getD 1 0).toNat:Int) &&& BitVec.ofInt 8 127).toNat)) * 128))).toNat) ||| BitVec.ofInt 32 (IntKind.u32.wrap ((IntKind.u32.wrap (IntKind.u8.wrap (BitVec.ofInt 8 ((s.getD 2 0).toNat:Int) &&& BitVec.ofInt 8 127).toNat)) * 16384))).toNat))),(5,.v (.int .i64 0)),(56,.v (.bool (decide (((s.length:Nat):Int) < 4))))] hW hE75 fun a76 hE77=>?_
 refine qah hE77 (b:=decide (((s.length:Nat):Int) < 4)) kz (decide_eq_false (by omega)) ?_
 refine wp_skip ?_
 refine qab ?_
 refine qac [0,1,2,3,4,5,6,7,8] kz ?_
 refine qai [0,1] [2,3,4,5,6,7,8] [(0,.v (.slice A s.length c)),(5,.v (.int .i64 0)),(57,.v (.int .u32 (IntKind.u32.wrap (BitVec.ofInt 32 (IntKind.u32.wrap (BitVec.ofInt 32 (IntKind.u32.wrap (IntKind.u8.wrap (BitVec.ofInt 8 ((s.getD 0 0).toNat:Int) &&& BitVec.ofInt 8 127).toNat)) ||| BitVec.ofInt 32 (IntKind.u32.wrap ((IntKind.u32.wrap (IntKind.u8.wrap (BitVec.ofInt 8 ((s.getD 1 0).toNat:Int) &&& BitVec.ofInt 8 127).toNat)) * 128))).toNat) ||| BitVec.ofInt 32 (IntKind.u32.wrap ((IntKind.u32.wrap (IntKind.u8.wrap (BitVec.ofInt 8 ((s.getD 2 0).toNat:Int) &&& BitVec.ofInt 8 127).toNat)) * 16384))).toNat))),(58,.v (.slice A s.length c))] hW hE77 fun a78 hE79=>?_
 obtain ⟨b80,o81,hA82,hl83,hat84⟩:=Slots.get ho (i:=3) (by omega)
 refine qag (qak hE79 (t:=22) (A:=A) (m:=s.length) (q:=3) (d:=59) kz (e:=5) (size:=1) (bytes:=1) (j:=3) kz hA82 rfl (by omega) fun a85 hE86=>?_)
 refine qag (qal hE86 (t:=5) (b:=b80) (o:=o81 + 3 * 1) (d:=60) kz (cs:=[.int .u8 ((s.getD 3 0).toNat:Int)]) (v:=.int .u8 ((s.getD 3 0).toNat:Int)) kz (AtF.move hat84 hW.step nilM qat).at_ fun a87 hE88=>?_)
 refine qai [4,5,6,7,8] [] [(0,.v (.slice A s.length c)),(4,.v (.int .u32 (IntKind.u32.wrap (BitVec.ofInt 32 (IntKind.u32.wrap (BitVec.ofInt 32 (IntKind.u32.wrap (BitVec.ofInt 32 (IntKind.u32.wrap (IntKind.u8.wrap (BitVec.ofInt 8 ((s.getD 0 0).toNat:Int) &&& BitVec.ofInt 8 127).toNat)) ||| BitVec.ofInt 32 (IntKind.u32.wrap ((IntKind.u32.wrap (IntKind.u8.wrap (BitVec.ofInt 8 ((s.getD 1 0).toNat:Int) &&& BitVec.ofInt 8 127).toNat)) * 128))).toNat) ||| BitVec.ofInt 32 (IntKind.u32.wrap ((IntKind.u32.wrap (IntKind.u8.wrap (BitVec.ofInt 8 ((s.getD 2 0).toNat:Int) &&& BitVec.ofInt 8 127).toNat)) * 16384))).toNat) ||| BitVec.ofInt 32 (IntKind.u32.wrap ((IntKind.u32.wrap (IntKind.u8.wrap (BitVec.ofInt 8 ((s.getD 3 0).toNat:Int) &&& BitVec.ofInt 8 127).toNat)) * 2097152))).toNat))),(5,.v (.int .i64 0))] hW hE88 fun a89 hE90=>?_
 refine qad (qab ?_)
 refine wp_seq ?_
 refine qac [0,1,2,3,4] kz ?_
 refine qai [0] [1,2,3,4] [(0,.v (.slice A s.length c)),(4,.v (.int .u32 (IntKind.u32.wrap (BitVec.ofInt 32 (IntKind.u32.wrap (BitVec.ofInt 32 (IntKind.u32.wrap (BitVec.ofInt 32 (IntKind.u32.wrap (IntKind.u8.wrap (BitVec.ofInt 8 ((s.getD 0 0).toNat:Int) &&& BitVec.ofInt 8 127).toNat)) ||| BitVec.ofInt 32 (IntKind.u32.wrap ((IntKind.u32.wrap (IntKind.u8.wrap (BitVec.ofInt 8 ((s.getD 1 0).toNat:Int) &&& BitVec.ofInt 8 127).toNat)) * 128))).toNat) ||| BitVec.ofInt 32 (IntKind.u32.wrap ((IntKind.u32.wrap (IntKind.u8.wrap (BitVec.ofInt 8 ((s.getD 2 0).toNat:Int) &&& BitVec.ofInt 8 127).toNat)) * 16384))).toNat) ||| BitVec.ofInt 32 (IntKind.u32.wrap ((IntKind.u32.wrap (IntKind.u8.wrap (BitVec.ofInt 8 ((s.getD 3 0).toNat:Int) &&& BitVec.ofInt 8 127).toNat)) * 2097152))).toNat))),(5,.v (.int .i64 0)),(65,.v (.slice A s.length c))] hW hE90 fun a91 hE92=>?_
 refine qag (qak hE92 (t:=22) (A:=A) (m:=s.length) (q:=3) (d:=66) kz (e:=5) (size:=1) (bytes:=1) (j:=3) kz hA82 rfl (by omega) fun a93 hE94=>?_)
 refine qag (qal hE94 (t:=5) (b:=b80) (o:=o81 + 3 * 1) (d:=67) kz (cs:=[.int .u8 ((s.getD 3 0).toNat:Int)]) (v:=.int .u8 ((s.getD 3 0).toNat:Int)) kz (AtF.move hat84 hW.step nilM qat).at_ fun a95 hE96=>?_)
 refine qai [3,4] [] [(0,.v (.slice A s.length c)),(4,.v (.int .u32 (IntKind.u32.wrap (BitVec.ofInt 32 (IntKind.u32.wrap (BitVec.ofInt 32 (IntKind.u32.wrap (BitVec.ofInt 32 (IntKind.u32.wrap (IntKind.u8.wrap (BitVec.ofInt 8 ((s.getD 0 0).toNat:Int) &&& BitVec.ofInt 8 127).toNat)) ||| BitVec.ofInt 32 (IntKind.u32.wrap ((IntKind.u32.wrap (IntKind.u8.wrap (BitVec.ofInt 8 ((s.getD 1 0).toNat:Int) &&& BitVec.ofInt 8 127).toNat)) * 128))).toNat) ||| BitVec.ofInt 32 (IntKind.u32.wrap ((IntKind.u32.wrap (IntKind.u8.wrap (BitVec.ofInt 8 ((s.getD 2 0).toNat:Int) &&& BitVec.ofInt 8 127).toNat)) * 16384))).toNat) ||| BitVec.ofInt 32 (IntKind.u32.wrap ((IntKind.u32.wrap (IntKind.u8.wrap (BitVec.ofInt 8 ((s.getD 3 0).toNat:Int) &&& BitVec.ofInt 8 127).toNat)) * 2097152))).toNat))),(5,.v (.int .i64 0)),(69,.v (.bool ((IntKind.u8.wrap (BitVec.ofInt 8 ((s.getD 3 0).toNat:Int) &&& BitVec.ofInt 8 128).toNat) == 0)))] hW hE96 fun a97 hE98=>?_
 refine qad (qab ?_)
 refine qah hE98 (b:=(IntKind.u8.wrap (BitVec.ofInt 8 ((s.getD 3 0).toNat:Int) &&& BitVec.ofInt 8 128).toNat) == 0) kz ((qa3 _ (qaG s 3)).trans (decide_eq_false (by have:=g3; unfold oc at this; omega))) ?_
 refine qan [(0,.v (.slice A s.length c)),(4,.v (.int .u32 (IntKind.u32.wrap (BitVec.ofInt 32 (IntKind.u32.wrap (BitVec.ofInt 32 (IntKind.u32.wrap (BitVec.ofInt 32 (IntKind.u32.wrap (IntKind.u8.wrap (BitVec.ofInt 8 ((s.getD 0 0).toNat:Int) &&& BitVec.ofInt 8 127).toNat)) ||| BitVec.ofInt 32 (IntKind.u32.wrap ((IntKind.u32.wrap (IntKind.u8.wrap (BitVec.ofInt 8 ((s.getD 1 0).toNat:Int) &&& BitVec.ofInt 8 127).toNat)) * 128))).toNat) ||| BitVec.ofInt 32 (IntKind.u32.wrap ((IntKind.u32.wrap (IntKind.u8.wrap (BitVec.ofInt 8 ((s.getD 2 0).toNat:Int) &&& BitVec.ofInt 8 127).toNat)) * 16384))).toNat) ||| BitVec.ofInt 32 (IntKind.u32.wrap ((IntKind.u32.wrap (IntKind.u8.wrap (BitVec.ofInt 8 ((s.getD 3 0).toNat:Int) &&& BitVec.ofInt 8 127).toNat)) * 2097152))).toNat))),(5,.v (.int .i64 0)),(73,.v (.bool (decide (((s.length:Nat):Int) < 5))))] hW hE98 fun a99 hE100=>?_
 refine qah hE100 (b:=decide (((s.length:Nat):Int) < 5)) kz (decide_eq_false (by omega)) ?_
 refine wp_skip ?_
 refine qab ?_
 refine qac [0,1,2,3,4,5,6,7] kz ?_
 refine qai [0,1] [2,3,4,5,6,7] [(0,.v (.slice A s.length c)),(74,.v (.int .u32 (IntKind.u32.wrap (BitVec.ofInt 32 (IntKind.u32.wrap (BitVec.ofInt 32 (IntKind.u32.wrap (BitVec.ofInt 32 (IntKind.u32.wrap (IntKind.u8.wrap (BitVec.ofInt 8 ((s.getD 0 0).toNat:Int) &&& BitVec.ofInt 8 127).toNat)) ||| BitVec.ofInt 32 (IntKind.u32.wrap ((IntKind.u32.wrap (IntKind.u8.wrap (BitVec.ofInt 8 ((s.getD 1 0).toNat:Int) &&& BitVec.ofInt 8 127).toNat)) * 128))).toNat) ||| BitVec.ofInt 32 (IntKind.u32.wrap ((IntKind.u32.wrap (IntKind.u8.wrap (BitVec.ofInt 8 ((s.getD 2 0).toNat:Int) &&& BitVec.ofInt 8 127).toNat)) * 16384))).toNat) ||| BitVec.ofInt 32 (IntKind.u32.wrap ((IntKind.u32.wrap (IntKind.u8.wrap (BitVec.ofInt 8 ((s.getD 3 0).toNat:Int) &&& BitVec.ofInt 8 127).toNat)) * 2097152))).toNat))),(75,.v (.slice A s.length c))] hW hE100 fun a101 hE102=>?_
 obtain ⟨b103,o104,hA105,hl106,hat107⟩:=Slots.get ho (i:=4) (by omega)
 refine qag (qak hE102 (t:=22) (A:=A) (m:=s.length) (q:=4) (d:=76) kz (e:=5) (size:=1) (bytes:=1) (j:=4) kz hA105 rfl (by omega) fun a108 hE109=>?_)
 refine qag (qal hE109 (t:=5) (b:=b103) (o:=o104 + 4 * 1) (d:=77) kz (cs:=[.int .u8 ((s.getD 4 0).toNat:Int)]) (v:=.int .u8 ((s.getD 4 0).toNat:Int)) kz (AtF.move hat107 hW.step nilM qat).at_ fun a110 hE111=>?_)
 refine qai [4,5,6,7] [] [(0,.v (.slice A s.length c)),(4,.v (.int .u32 (IntKind.u32.wrap (BitVec.ofInt 32 (IntKind.u32.wrap (BitVec.ofInt 32 (IntKind.u32.wrap (BitVec.ofInt 32 (IntKind.u32.wrap (BitVec.ofInt 32 (IntKind.u32.wrap (IntKind.u8.wrap (BitVec.ofInt 8 ((s.getD 0 0).toNat:Int) &&& BitVec.ofInt 8 127).toNat)) ||| BitVec.ofInt 32 (IntKind.u32.wrap ((IntKind.u32.wrap (IntKind.u8.wrap (BitVec.ofInt 8 ((s.getD 1 0).toNat:Int) &&& BitVec.ofInt 8 127).toNat)) * 128))).toNat) ||| BitVec.ofInt 32 (IntKind.u32.wrap ((IntKind.u32.wrap (IntKind.u8.wrap (BitVec.ofInt 8 ((s.getD 2 0).toNat:Int) &&& BitVec.ofInt 8 127).toNat)) * 16384))).toNat) ||| BitVec.ofInt 32 (IntKind.u32.wrap ((IntKind.u32.wrap (IntKind.u8.wrap (BitVec.ofInt 8 ((s.getD 3 0).toNat:Int) &&& BitVec.ofInt 8 127).toNat)) * 2097152))).toNat) ||| BitVec.ofInt 32 (IntKind.u32.wrap ((IntKind.u32.wrap ((s.getD 4 0).toNat:Int)) * 268435456))).toNat)))] hW hE111 fun a112 hE113=>?_
 refine qad (qab ?_)
 refine wp_seq ?_
 refine qac [0,1,2,3] kz ?_
 refine qai [0] [1,2,3] [(4,.v (.int .u32 (IntKind.u32.wrap (BitVec.ofInt 32 (IntKind.u32.wrap (BitVec.ofInt 32 (IntKind.u32.wrap (BitVec.ofInt 32 (IntKind.u32.wrap (BitVec.ofInt 32 (IntKind.u32.wrap (IntKind.u8.wrap (BitVec.ofInt 8 ((s.getD 0 0).toNat:Int) &&& BitVec.ofInt 8 127).toNat)) ||| BitVec.ofInt 32 (IntKind.u32.wrap ((IntKind.u32.wrap (IntKind.u8.wrap (BitVec.ofInt 8 ((s.getD 1 0).toNat:Int) &&& BitVec.ofInt 8 127).toNat)) * 128))).toNat) ||| BitVec.ofInt 32 (IntKind.u32.wrap ((IntKind.u32.wrap (IntKind.u8.wrap (BitVec.ofInt 8 ((s.getD 2 0).toNat:Int) &&& BitVec.ofInt 8 127).toNat)) * 16384))).toNat) ||| BitVec.ofInt 32 (IntKind.u32.wrap ((IntKind.u32.wrap (IntKind.u8.wrap (BitVec.ofInt 8 ((s.getD 3 0).toNat:Int) &&& BitVec.ofInt 8 127).toNat)) * 2097152))).toNat) ||| BitVec.ofInt 32 (IntKind.u32.wrap ((IntKind.u32.wrap ((s.getD 4 0).toNat:Int)) * 268435456))).toNat))),(81,.v (.slice A s.length c))] hW hE113 fun a114 hE115=>?_
 refine qag (qak hE115 (t:=22) (A:=A) (m:=s.length) (q:=4) (d:=82) kz (e:=5) (size:=1) (bytes:=1) (j:=4) kz hA105 rfl (by omega) fun a116 hE117=>?_)
 refine qag (qal hE117 (t:=5) (b:=b103) (o:=o104 + 4 * 1) (d:=83) kz (cs:=[.int .u8 ((s.getD 4 0).toNat:Int)]) (v:=.int .u8 ((s.getD 4 0).toNat:Int)) kz (AtF.move hat107 hW.step nilM qat).at_ fun a118 hE119=>?_)
 refine qai [3] [] [(4,.v (.int .u32 (IntKind.u32.wrap (BitVec.ofInt 32 (IntKind.u32.wrap (BitVec.ofInt 32 (IntKind.u32.wrap (BitVec.ofInt 32 (IntKind.u32.wrap (BitVec.ofInt 32 (IntKind.u32.wrap (IntKind.u8.wrap (BitVec.ofInt 8 ((s.getD 0 0).toNat:Int) &&& BitVec.ofInt 8 127).toNat)) ||| BitVec.ofInt 32 (IntKind.u32.wrap ((IntKind.u32.wrap (IntKind.u8.wrap (BitVec.ofInt 8 ((s.getD 1 0).toNat:Int) &&& BitVec.ofInt 8 127).toNat)) * 128))).toNat) ||| BitVec.ofInt 32 (IntKind.u32.wrap ((IntKind.u32.wrap (IntKind.u8.wrap (BitVec.ofInt 8 ((s.getD 2 0).toNat:Int) &&& BitVec.ofInt 8 127).toNat)) * 16384))).toNat) ||| BitVec.ofInt 32 (IntKind.u32.wrap ((IntKind.u32.wrap (IntKind.u8.wrap (BitVec.ofInt 8 ((s.getD 3 0).toNat:Int) &&& BitVec.ofInt 8 127).toNat)) * 2097152))).toNat) ||| BitVec.ofInt 32 (IntKind.u32.wrap ((IntKind.u32.wrap ((s.getD 4 0).toNat:Int)) * 268435456))).toNat))),(84,.v (.bool (decide (((s.getD 4 0).toNat:Int) ≤ 15))))] hW hE119 fun a120 hE121=>?_
 refine qad (qab ?_)
 refine qah hE121 (b:=decide (((s.getD 4 0).toNat:Int) ≤ 15)) kz (decide_eq_false (by have:=g4; unfold oc at this; omega)) ?_
 refine wp_skip ?_
 refine qab ?_
 refine qan [(5,.v (.int .i64 (-5)))] hW hE121 fun a122 hE123=>?_
 refine wp_seq ?_
 refine wp_label ?_
 refine qab ?_
 refine qan [(2,.v (.int .u32 0)),(3,.v (.int .i64 (-5)))] hW hE123 fun a124 hE125=>?_
 refine wp_ret ?_
 refine qbC ?_
 refine qaO hE125 hW.cells (v:=.tuple #[.int .u32 0,.int .i64 (-5)]) kz ?_
 exact ⟨rfl,hW.step⟩
theorem uUvF (s:Bs) {A:Option Addr} {c:Nat} {w:World} {F:Nat → Nat → Prop} (ho:Octs w F A c s):Calls Tryd.prog 68 #[.slice A s.length c] w (qbv w (.tuple #[.int .u32 (((uvG s).1:Nat):Int),.int .i64 (uvG s).2])):=by
 unfold uvG
 by_cases l0:s.length < 1
 ·simp only [if_pos l0]; exact qfR s ho (by omega)
 simp only [if_neg l0]
 by_cases h0:oc s 0 < 128
 ·simp only [if_pos h0]; exact rUv1 s ho (by omega) (oc s 0) rfl h0
 simp only [if_neg h0]
 by_cases l1:s.length < 2
 ·simp only [if_pos l1]; exact qfS s ho (by omega) (by omega)
 simp only [if_neg l1]
 by_cases h1:oc s 1 < 128
 ·simp only [if_pos h1]; exact rUv2 s ho (by omega) (oc s 0 - 128) (oc s 1) (by omega) rfl (by have:=qaG s 0; omega) h1
 simp only [if_neg h1]
 by_cases l2:s.length < 3
 ·simp only [if_pos l2]; exact qfT s ho (by omega) (by omega) (by omega)
 simp only [if_neg l2]
 by_cases h2:oc s 2 < 128
 ·simp only [if_pos h2]; exact rUv3 s ho (by omega) (oc s 0 - 128) (oc s 1 - 128) (oc s 2) (by omega) (by omega) rfl (by have:=qaG s 0; omega) (by have:=qaG s 1; omega) h2
 simp only [if_neg h2]
 by_cases l3:s.length < 4
 ·simp only [if_pos l3]; exact qfU s ho (by omega) (by omega) (by omega) (by omega)
 simp only [if_neg l3]
 by_cases h3:oc s 3 < 128
 ·simp only [if_pos h3]; exact rUv4 s ho (by omega) (oc s 0 - 128) (oc s 1 - 128) (oc s 2 - 128) (oc s 3) (by omega) (by omega) (by omega) rfl (by have:=qaG s 0; omega) (by have:=qaG s 1; omega) (by have:=qaG s 2; omega) h3
 simp only [if_neg h3]
 by_cases l4:s.length < 5
 ·simp only [if_pos l4]; exact qfV s ho (by omega) (by omega) (by omega) (by omega) (by omega)
 simp only [if_neg l4]
 by_cases h4:oc s 4 < 16
 ·simp only [if_pos h4]; exact rUv5 s ho (by omega) (oc s 0 - 128) (oc s 1 - 128) (oc s 2 - 128) (oc s 3 - 128) (oc s 4) (by omega) (by omega) (by omega) (by omega) rfl (by have:=qaG s 0; omega) (by have:=qaG s 1; omega) (by have:=qaG s 2; omega) (by have:=qaG s 3; omega) h4
 simp only [if_neg h4]
 exact qfW s ho (by omega) (by omega) (by omega) (by omega) (by omega) (by omega)
theorem qdc (bd:Bool) (s:Bs) (hp:0 < (uvG s).2) {br:Nat} {A:Option Addr} {m c:Nat} {w:World} {F:Nat → Nat → Prop} (hst:Str w br [.slice A m c,.bool bd]) (hr:RdS w F A m c s) (hFd:∀ b o,F b o → ¬ RdM br b o) :
  Calls Tryd.prog 56 #[.pointer (some ⟨br,0,none⟩)] w (RdPostT w br F (bd,s.drop ((uvG s).2.toNat)) fun v w'=>v = .int .u32 (((uvG s).1:Nat):Int)):=by
 obtain ⟨hm,ho⟩:=hr
 subst hm
 have hle:=ho.le
 have hsm:=ho.small
 refine enter (n:=31) Tryd.func56 rfl Tryd.ntmps56 kz fun a hE=>?_
 have hW:WOk w (RdM br) w [⟨br,0,[.slice A s.length c,.bool bd],true⟩] []:=WOk.startStr hst
 have hE1:=(hE.grow ⟨br,0,[.slice A s.length c,.bool bd],true⟩).recast 0 (.v (.pointer (some ⟨br,0,none⟩))) (.p 0 0) rfl rfl (Nat.le_of_ble_eq_true (n:=1) rfl)
 refine qan [(0,.p 0 0)] hW hE1 fun a1 hE2=>?_
 refine qac [0,1,2,3,4,5,6,7,8,9] kz ?_
 refine qai [0,1,2,3] [4,5,6,7,8,9] [(0,.p 0 0),(9,.v (.slice A s.length c))] hW hE2 fun a3 hE4=>?_
 refine qag (qaq hE4 (f:=68) (vs:=[.slice A s.length c]) (d:=10) kz Tryd.call68 (uUvF s (ho.move hW.step (fun b_ o_ h_ _=>hFd b_ o_ h_) (hW.immM hFd))) ?_)
 rintro e_ w6 ⟨rfl,hs5⟩
 refine ⟨_,rfl,fun a7 hE8=>?_⟩
 have hW9:=hW.next_nil hs5
 have hF10:=hW.frN hs5
 refine qai [5,6,7,8,9] [] [(0,.p 0 0),(3,.v (.int .u32 (((uvG s).1:Nat):Int))),(4,.v (.int .i64 ((uvG s).2)))] hW9 hE8 fun a11 hE12=>?_
 refine qad (qab ?_)
 refine wp_seq ?_
 refine qan [(0,.p 0 0),(3,.v (.int .u32 (((uvG s).1:Nat):Int))),(4,.v (.int .i64 ((uvG s).2))),(14,.v (.bool (decide (((uvG s).2) ≤ 0))))] hW9 hE12 fun a13 hE14=>?_
 refine qah hE14 (b:=decide (((uvG s).2) ≤ 0)) kz (decide_eq_false (by omega)) ?_
 refine wp_skip ?_
 refine qab ?_
 refine qac [0,1,2,3,4,5,6,7,8,9] kz ?_
 refine qai [0,1,2,3,4,5] [6,7,8,9] [(3,.v (.int .u32 (((uvG s).1:Nat):Int))),(21,.p 0 0),(25,.v (.slice A s.length c)),(26,.v (.int .i64 ((uvG s).2)))] hW9 hE14 fun a15 hE16=>?_
 refine qag (qbF hE16 (t:=22) (A:=A) (m:=s.length) (cp:=c) (q:=((uvG s).2)) (d:=27) (j:=((uvG s).2.toNat)) kz (e:=5) (bytes:=1) kz (by omega) (by have:=(qcV s).1; omega) fun a17 hE18=>?_)
 refine qai [7,8] [9] [(3,.v (.int .u32 (((uvG s).1:Nat):Int))),(27,.v (.slice (cutA A c ((uvG s).2.toNat)) (s.length - ((uvG s).2.toNat)) (c - ((uvG s).2.toNat)))),(29,.p 0 0)] hW9 hE18 fun a19 hE20=>?_
 refine qag (qam hW9 hE20 (oi:=0) (cs:=[.slice (cutA A c ((uvG s).2.toNat)) (s.length - ((uvG s).2.toNat)) (c - ((uvG s).2.toNat)),.bool bd]) kz fun w21 hF22 hW23 hE24=>?_)
 refine qad (qab ?_)
 refine qan [(2,.v (.int .u32 (((uvG s).1:Nat):Int)))] hW23 hE24 fun a25 hE26=>?_
 refine wp_ret ?_
 refine qaO hE26 hW23.cells (v:=.int .u32 (((uvG s).1:Nat):Int)) kz ?_
 exact ⟨_,_,_,_,rfl,Str.of hW23 0 rfl,RdS.dropT (j:=(uvG s).2.toNat) ⟨rfl,ho.move hW23.step (fun b_ o_ h_ _=>hFd b_ o_ h_) qat⟩ (by have:=(qcV s).1; omega),hW23.step,rfl⟩
theorem qdd (bd:Bool) (s:Bs) (hp:(uvG s).2 ≤ 0) {br:Nat} {A:Option Addr} {m c:Nat} {w:World} {F:Nat → Nat → Prop} (hst:Str w br [.slice A m c,.bool bd]) (hr:RdS w F A m c s) (hFd:∀ b o,F b o → ¬ RdM br b o) :
  Calls Tryd.prog 56 #[.pointer (some ⟨br,0,none⟩)] w (RdPostT w br F (true,[]) fun v w'=>v = .int .u32 0):=by
 obtain ⟨hm,ho⟩:=hr
 subst hm
 have hle:=ho.le
 have hsm:=ho.small
 refine enter (n:=31) Tryd.func56 rfl Tryd.ntmps56 kz fun a hE=>?_
 have hW:WOk w (RdM br) w [⟨br,0,[.slice A s.length c,.bool bd],true⟩] []:=WOk.startStr hst
 have hE1:=(hE.grow ⟨br,0,[.slice A s.length c,.bool bd],true⟩).recast 0 (.v (.pointer (some ⟨br,0,none⟩))) (.p 0 0) rfl rfl (Nat.le_of_ble_eq_true (n:=1) rfl)
 refine qan [(0,.p 0 0)] hW hE1 fun a1 hE2=>?_
 refine qac [0,1,2,3,4,5,6,7,8,9] kz ?_
 refine qai [0,1,2,3] [4,5,6,7,8,9] [(0,.p 0 0),(9,.v (.slice A s.length c))] hW hE2 fun a3 hE4=>?_
 refine qag (qaq hE4 (f:=68) (vs:=[.slice A s.length c]) (d:=10) kz Tryd.call68 (uUvF s (ho.move hW.step (fun b_ o_ h_ _=>hFd b_ o_ h_) (hW.immM hFd))) ?_)
 rintro e_ w6 ⟨rfl,hs5⟩
 refine ⟨_,rfl,fun a7 hE8=>?_⟩
 have hW9:=hW.next_nil hs5
 have hF10:=hW.frN hs5
 refine qai [5,6,7,8,9] [] [(0,.p 0 0),(3,.v (.int .u32 (((uvG s).1:Nat):Int))),(4,.v (.int .i64 ((uvG s).2)))] hW9 hE8 fun a11 hE12=>?_
 refine qad (qab ?_)
 refine wp_seq ?_
 refine qan [(0,.p 0 0),(3,.v (.int .u32 (((uvG s).1:Nat):Int))),(4,.v (.int .i64 ((uvG s).2))),(14,.v (.bool (decide (((uvG s).2) ≤ 0))))] hW9 hE12 fun a13 hE14=>?_
 refine qaK hE14 (b:=decide (((uvG s).2) ≤ 0)) kz (decide_eq_true (by omega)) ?_
 refine qac [0,1,2,3] kz ?_
 refine qai [0,1,2] [3] [(0,.p 0 0),(17,.p 0 1)] hW9 hE14 fun a15 hE16=>?_
 refine qag (qam hW9 hE16 (oi:=0) (cs:=[.slice A s.length c,.bool true]) kz fun w17 hF18 hW19 hE20=>?_)
 refine qad (qab ?_)
 refine qac [0,1,2,3] kz ?_
 refine qai [0,1,2] [3] [(20,.p 0 0)] hW19 hE20 fun a21 hE22=>?_
 refine qag (qam hW19 hE22 (oi:=0) (cs:=[.slice none 0 0,.bool true]) kz fun w23 hF24 hW25 hE26=>?_)
 refine qad (qab ?_)
 refine qan [(2,.v (.int .u32 0))] hW25 hE26 fun a27 hE28=>?_
 refine wp_ret ?_
 refine qaP ?_
 refine qaO hE28 hW25.cells (v:=.int .u32 0) kz ?_
 exact ⟨_,_,_,_,rfl,Str.of hW25 0 rfl,RdS.nil_ _ _,hW25.step,rfl⟩
theorem qcz (σ:Sg) {br:Nat} {A:Option Addr} {m c:Nat} {w:World} {F:Nat → Nat → Prop} (hst:Str w br [.slice A m c,.bool σ.1]) (hr:RdS w F A m c σ.2) (hF:∀ b o,F b o → ¬ RdM br b o):Calls Tryd.prog 56 #[.pointer (some ⟨br,0,none⟩)] w (RdPostT w br F (aUv σ) fun v w'=>v = .int .u32 ((uUv σ:Nat):Int)):=by
 unfold aUv uUv
 by_cases h:(uvG σ.2).2 ≤ 0
 ·simp only [if_pos h]
  exact qdd σ.1 σ.2 h hst hr hF
 simp only [if_neg h]
 exact qdc σ.1 σ.2 (by omega) hst hr hF
theorem qeR (l:Int) (bd:Bool) (s:Bs) (h0:0 ≤ l) (h1:l ≤ (s.length:Int)) {br:Nat} {A:Option Addr} {m c:Nat} {w:World} {F:Nat → Nat → Prop} (hst:Str w br [.slice A m c,.bool bd]) (hr:RdS w F A m c s) (hFd:∀ b o,F b o → ¬ RdM br b o) :
  Calls Tryd.prog 58 #[.pointer (some ⟨br,0,none⟩),.int .i64 l] w (RdPostT w br F (bd,s.drop l.toNat) fun v w'=>∃ A2,v = .slice A2 l.toNat l.toNat ∧ Octs w' F A2 l.toNat (s.take l.toNat)):=by
 obtain ⟨hm,ho⟩:=hr
 subst hm
 have hle:=ho.le
 have hsm:=ho.small
 refine enter (n:=40) Tryd.func58 rfl Tryd.ntmps58 kz fun a hE=>?_
 have hW:WOk w (RdM br) w [⟨br,0,[.slice A s.length c,.bool bd],true⟩] []:=WOk.startStr hst
 have hE1:=(hE.grow ⟨br,0,[.slice A s.length c,.bool bd],true⟩).recast 0 (.v (.pointer (some ⟨br,0,none⟩))) (.p 0 0) rfl rfl (Nat.le_of_ble_eq_true (n:=1) rfl)
 refine qan [(0,.p 0 0),(1,.v (.int .i64 l))] hW hE1 fun a1 hE2=>?_
 refine wp_seq ?_
 refine qac [0,1,2,3,4,5,6,7,8,9,10] kz ?_
 refine qai [0,1,2,3,4,5,6,7] [8,9,10] [(0,.p 0 0),(1,.v (.int .i64 l)),(13,.v (.bool (decide (((s.length:Nat):Int) < l))))] hW hE2 fun a3 hE4=>?_
 have hc5:(decide (((s.length:Nat):Int) < l)) = false:=decide_eq_false (by omega)
 have hE6:=hE4.cast (env':=[(0,.p 0 0),(1,.v (.int .i64 l)),(13,.v (.bool false))]) (by rw [hc5])
 refine qai [8,9,10] [] [(0,.p 0 0),(1,.v (.int .i64 l)),(16,.v (.bool (decide (l < 0))))] hW hE6 fun a7 hE8=>?_
 refine qad (qab ?_)
 refine qah hE8 (b:=decide (l < 0)) kz (decide_eq_false (by omega)) ?_
 refine wp_skip ?_
 refine qab ?_
 refine qac [0,1,2,3,4,5,6,7] kz ?_
 refine qai [0,1,2,3,4,5] [6,7] [(0,.p 0 0),(1,.v (.int .i64 l)),(26,.v (.slice A s.length c)),(27,.v (.int .i64 l)),(28,.v (.int .i64 l))] hW hE8 fun a9 hE10=>?_
 refine qag (qee hE10 (t:=22) (A:=A) (m:=s.length) (cp:=c) (k:=.i64) (q:=l) (d:=29) (j:=l.toNat) kz (e:=5) (bytes:=1) kz (by omega) (by omega) fun a11 hE12=>?_)
 refine qai [7] [] [(0,.p 0 0),(1,.v (.int .i64 l)),(5,.v (.slice A l.toNat l.toNat))] hW hE12 fun a13 hE14=>?_
 refine qad (qab ?_)
 refine qac [0,1,2,3,4,5,6,7,8,9] kz ?_
 refine qai [0,1,2,3,4,5] [6,7,8,9] [(5,.v (.slice A l.toNat l.toNat)),(30,.p 0 0),(34,.v (.slice A s.length c)),(35,.v (.int .i64 l))] hW hE14 fun a15 hE16=>?_
 refine qag (qbF hE16 (t:=22) (A:=A) (m:=s.length) (cp:=c) (q:=l) (d:=36) (j:=l.toNat) kz (e:=5) (bytes:=1) kz (by omega) (by omega) fun a17 hE18=>?_)
 refine qai [7,8] [9] [(5,.v (.slice A l.toNat l.toNat)),(36,.v (.slice (cutA A c l.toNat) (s.length - l.toNat) (c - l.toNat))),(38,.p 0 0)] hW hE18 fun a19 hE20=>?_
 refine qag (qam hW hE20 (oi:=0) (cs:=[.slice (cutA A c l.toNat) (s.length - l.toNat) (c - l.toNat),.bool bd]) kz fun w21 hF22 hW23 hE24=>?_)
 refine qad (qab ?_)
 refine qan [(4,.v (.slice A l.toNat l.toNat))] hW23 hE24 fun a25 hE26=>?_
 refine wp_ret ?_
 refine qaO hE26 hW23.cells (v:=.slice A l.toNat l.toNat) kz ?_
 exact ⟨_,_,_,_,rfl,Str.of hW23 0 rfl,RdS.dropT (j:=l.toNat) ⟨rfl,ho.move hW23.step (fun b_ o_ h_ _=>hFd b_ o_ h_) qat⟩ (by omega),hW23.step,A,rfl,(ho.move hW23.step (fun b_ o_ h_ _=>hFd b_ o_ h_) qat).cutS (by omega)⟩
theorem qeS (l:Int) (bd:Bool) (s:Bs) (h1:(s.length:Int) < l) {br:Nat} {A:Option Addr} {m c:Nat} {w:World} {F:Nat → Nat → Prop} (hst:Str w br [.slice A m c,.bool bd]) (hr:RdS w F A m c s) (hFd:∀ b o,F b o → ¬ RdM br b o) :
  Calls Tryd.prog 58 #[.pointer (some ⟨br,0,none⟩),.int .i64 l] w (RdPostT w br F (true,[]) fun v w'=>v = .slice none 0 0):=by
 obtain ⟨hm,ho⟩:=hr
 subst hm
 have hle:=ho.le
 have hsm:=ho.small
 refine enter (n:=40) Tryd.func58 rfl Tryd.ntmps58 kz fun a hE=>?_
 have hW:WOk w (RdM br) w [⟨br,0,[.slice A s.length c,.bool bd],true⟩] []:=WOk.startStr hst
 have hE1:=(hE.grow ⟨br,0,[.slice A s.length c,.bool bd],true⟩).recast 0 (.v (.pointer (some ⟨br,0,none⟩))) (.p 0 0) rfl rfl (Nat.le_of_ble_eq_true (n:=1) rfl)
 refine qan [(0,.p 0 0),(1,.v (.int .i64 l))] hW hE1 fun a1 hE2=>?_
 refine wp_seq ?_
 refine qac [0,1,2,3,4,5,6,7,8,9,10] kz ?_
 refine qai [0,1,2,3,4,5,6,7] [8,9,10] [(0,.p 0 0),(1,.v (.int .i64 l)),(13,.v (.bool (decide (((s.length:Nat):Int) < l))))] hW hE2 fun a3 hE4=>?_
 have hc5:(decide (((s.length:Nat):Int) < l)) = true:=decide_eq_true (by omega)
 have hE6:=hE4.cast (env':=[(0,.p 0 0),(1,.v (.int .i64 l)),(13,.v (.bool true))]) (by rw [hc5])
 refine qai [8,9,10] [] [(0,.p 0 0),(1,.v (.int .i64 l)),(16,.v (.bool true))] hW hE6 fun a7 hE8=>?_
 refine qad (qab ?_)
 refine qaK hE8 (b:=true) kz rfl ?_
 refine qac [0,1,2,3] kz ?_
 refine qai [0,1,2] [3] [(0,.p 0 0),(19,.p 0 1)] hW hE8 fun a9 hE10=>?_
 refine qag (qam hW hE10 (oi:=0) (cs:=[.slice A s.length c,.bool true]) kz fun w11 hF12 hW13 hE14=>?_)
 refine qad (qab ?_)
 refine qac [0,1,2,3] kz ?_
 refine qai [0,1,2] [3] [(22,.p 0 0)] hW13 hE14 fun a15 hE16=>?_
 refine qag (qam hW13 hE16 (oi:=0) (cs:=[.slice none 0 0,.bool true]) kz fun w17 hF18 hW19 hE20=>?_)
 refine qad (qab ?_)
 refine qan [(4,.v (.slice none 0 0))] hW19 hE20 fun a21 hE22=>?_
 refine wp_ret ?_
 refine qaP ?_
 refine qaO hE22 hW19.cells (v:=.slice none 0 0) kz ?_
 exact ⟨_,_,_,_,rfl,Str.of hW19 0 rfl,RdS.nil_ _ _,hW19.step,rfl⟩
theorem qeT (l:Int) (bd:Bool) (s:Bs) (h0:l < 0) {br:Nat} {A:Option Addr} {m c:Nat} {w:World} {F:Nat → Nat → Prop} (hst:Str w br [.slice A m c,.bool bd]) (hr:RdS w F A m c s) (hFd:∀ b o,F b o → ¬ RdM br b o) :
  Calls Tryd.prog 58 #[.pointer (some ⟨br,0,none⟩),.int .i64 l] w (RdPostT w br F (true,[]) fun v w'=>v = .slice none 0 0):=by
 obtain ⟨hm,ho⟩:=hr
 subst hm
 have hle:=ho.le
 have hsm:=ho.small
 refine enter (n:=40) Tryd.func58 rfl Tryd.ntmps58 kz fun a hE=>?_
 have hW:WOk w (RdM br) w [⟨br,0,[.slice A s.length c,.bool bd],true⟩] []:=WOk.startStr hst
 have hE1:=(hE.grow ⟨br,0,[.slice A s.length c,.bool bd],true⟩).recast 0 (.v (.pointer (some ⟨br,0,none⟩))) (.p 0 0) rfl rfl (Nat.le_of_ble_eq_true (n:=1) rfl)
 refine qan [(0,.p 0 0),(1,.v (.int .i64 l))] hW hE1 fun a1 hE2=>?_
 refine wp_seq ?_
 refine qac [0,1,2,3,4,5,6,7,8,9,10] kz ?_
 refine qai [0,1,2,3,4,5,6,7] [8,9,10] [(0,.p 0 0),(1,.v (.int .i64 l)),(13,.v (.bool (decide (((s.length:Nat):Int) < l))))] hW hE2 fun a3 hE4=>?_
 have hc5:(decide (((s.length:Nat):Int) < l)) = false:=decide_eq_false (by omega)
 have hE6:=hE4.cast (env':=[(0,.p 0 0),(1,.v (.int .i64 l)),(13,.v (.bool false))]) (by rw [hc5])
 refine qai [8,9,10] [] [(0,.p 0 0),(1,.v (.int .i64 l)),(16,.v (.bool (decide (l < 0))))] hW hE6 fun a7 hE8=>?_
 refine qad (qab ?_)
 refine qaK hE8 (b:=decide (l < 0)) kz (decide_eq_true (by omega)) ?_
 refine qac [0,1,2,3] kz ?_
 refine qai [0,1,2] [3] [(0,.p 0 0),(19,.p 0 1)] hW hE8 fun a9 hE10=>?_
 refine qag (qam hW hE10 (oi:=0) (cs:=[.slice A s.length c,.bool true]) kz fun w11 hF12 hW13 hE14=>?_)
 refine qad (qab ?_)
 refine qac [0,1,2,3] kz ?_
 refine qai [0,1,2] [3] [(22,.p 0 0)] hW13 hE14 fun a15 hE16=>?_
 refine qag (qam hW13 hE16 (oi:=0) (cs:=[.slice none 0 0,.bool true]) kz fun w17 hF18 hW19 hE20=>?_)
 refine qad (qab ?_)
 refine qan [(4,.v (.slice none 0 0))] hW19 hE20 fun a21 hE22=>?_
 refine wp_ret ?_
 refine qaP ?_
 refine qaO hE22 hW19.cells (v:=.slice none 0 0) kz ?_
 exact ⟨_,_,_,_,rfl,Str.of hW19 0 rfl,RdS.nil_ _ _,hW19.step,rfl⟩
theorem qfX (l:Int) (σ:Sg) {br:Nat} {A:Option Addr} {m c:Nat} {w:World} {F:Nat → Nat → Prop} (hst:Str w br [.slice A m c,.bool σ.1]) (hr:RdS w F A m c σ.2) (hFd:∀ b o,F b o → ¬ RdM br b o) :
  Calls Tryd.prog 58 #[.pointer (some ⟨br,0,none⟩),.int .i64 l] w (RdPostT w br F (aSp l σ) fun v w'=>∃ A2 c2,v = .slice A2 (uSp l σ).length c2 ∧ Octs w' F A2 c2 (uSp l σ)):=by
 unfold aSp uSp
 by_cases h0:l < 0
 ·simp only [if_pos (Or.inr h0:(σ.2.length:Int) < l ∨ l < 0)]
  exact (qeT l σ.1 σ.2 h0 hst hr hFd).mono fun e w' hp=>hp.q fun v w' h=>⟨none,0,h,Octs.nil _ _⟩
 by_cases h1:(σ.2.length:Int) < l
 ·simp only [if_pos (Or.inl h1:(σ.2.length:Int) < l ∨ l < 0)]
  exact (qeS l σ.1 σ.2 h1 hst hr hFd).mono fun e w' hp=>hp.q fun v w' h=>⟨none,0,h,Octs.nil _ _⟩
 simp only [if_neg (fun h=>h.elim h1 h0:¬ ((σ.2.length:Int) < l ∨ l < 0))]
 refine (qeR l σ.1 σ.2 (by omega) (by omega) hst hr hFd).mono fun e w' hp=>hp.q fun v w' h=>?_
 obtain ⟨A2,rfl,h⟩:=h
 exact ⟨A2,l.toNat,by rw [List.length_take,Nat.min_eq_left (by omega)],h⟩
theorem qfs (σ:Sg)  {br:Nat} {A:Option Addr} {m c:Nat} {w:World} {F:Nat → Nat → Prop} (hst:Str w br [.slice A m c,.bool σ.1]) (hr:RdS w F A m c σ.2) (hFd:∀ b o,F b o → ¬ RdM br b o) :
  Calls Tryd.prog 51 #[.pointer (some ⟨br,0,none⟩)] w (RdPostT w br (Fp F w) (aN 8 σ) fun v w'=>v = .int .i64 (uI64 σ)):=by
 refine enter (n:=6) Tryd.func51 rfl Tryd.ntmps51 kz fun a hE=>?_
 have hW:WOk w (RdM br) w [⟨br,0,[.slice A m c,.bool σ.1],true⟩] []:=WOk.startStr hst
 have hE1:=(hE.grow ⟨br,0,[.slice A m c,.bool σ.1],true⟩).recast 0 (.v (.pointer (some ⟨br,0,none⟩))) (.p 0 0) rfl rfl (Nat.le_of_ble_eq_true (n:=1) rfl)
 refine qan [(0,.p 0 0)] hW hE1 fun a1 hE2=>?_
 refine qac [0,1,2,3] kz ?_
 refine qai [0] [1,2,3] [(3,.p 0 0)] hW hE2 fun a3 hE4=>?_
 refine qag (qaq hE4 (f:=61) (vs:=[.pointer (some ⟨br,0,none⟩)]) (d:=4) kz Tryd.call61 ((qU64 σ).go (Str.of hW 0 rfl) (hr.move hW.step (fun b_ o_ h_ _=>hFd b_ o_ h_) (hW.immM hFd)) (qdp 0 rfl)) ?_)
 rintro e_ w5 ⟨_,A6,n7,c8,rfl,hs9,hr10,hst11,rfl⟩
 obtain ⟨hW12,hF13,hl17⟩:=hW.wrote 0 [⟨br,0,[.slice A6 n7 c8,.bool ((aN 8 σ).1)],true⟩] rfl hst11 hs9
 have hr21:=hr10.move (Step.refl _ Nil) nilM hl17
 refine ⟨_,rfl,fun a14 hE15=>?_⟩
 have hE16:EnvOk 6 [⟨br,0,[.slice A6 n7 c8,.bool ((aN 8 σ).1)],true⟩] [(4,.v (.int .u64 (uU64 σ))),(3,.p 0 0)] _:=hE15.places (⟨rfl,rfl,trivial⟩)
 refine qai [2,3] [] [(2,.v (.int .i64 (IntKind.i64.wrap (uU64 σ))))] hW12 hE16 fun a22 hE23=>?_
 refine qad (qab ?_)
 refine wp_ret ?_
 refine qaO hE23 hW12.cells (v:=.int .i64 (IntKind.i64.wrap (uU64 σ))) kz ?_
 refine ⟨_,_,_,_,rfl,Str.of hW12 0 rfl,(hr21.move (Step.refl _ Nil) nilM qb8),hW12.step,by unfold uI64 uU64; split <;> first | rfl | rw [i64_u64b]⟩
theorem qdQ {ev:Value} {br:Nat} {A:Option Addr} {m c:Nat} {w:World} {F:Nat → Nat → Prop} (hst:Str w br [.slice A m c,.bool true]) (hg:AtF w F 0 0 [ev]) (hFd:∀ b o,F b o → ¬ RdM br b o) :
  Calls Tryd.prog 44 #[.pointer (some ⟨br,0,none⟩)] w (fun e w'=>e = .returned ev ∧ w' = w):=by
 refine enter (n:=8) Tryd.func44 rfl Tryd.ntmps44 kz fun a hE=>?_
 have hW:WOk w (RdM br) w [⟨br,0,[.slice A m c,.bool true],true⟩] []:=WOk.startStr hst
 have hE1:=(hE.grow ⟨br,0,[.slice A m c,.bool true],true⟩).recast 0 (.v (.pointer (some ⟨br,0,none⟩))) (.p 0 0) rfl rfl (Nat.le_of_ble_eq_true (n:=1) rfl)
 refine qan [(0,.p 0 0)] hW hE1 fun a1 hE2=>?_
 refine wp_seq ?_
 refine qan [(6,.v (.bool true))] hW hE2 fun a3 hE4=>?_
 refine qaK hE4 (b:=true) kz rfl ?_
 refine qac [0,1] kz ?_
 refine qag (qal hE4 (t:=44) (b:=0) (o:=0) (d:=7) kz (cs:=[ev]) (v:=ev) kz (AtF.move hg hW.step (fun b_ o_ h_ _=>hFd b_ o_ h_) qat).at_ fun a5 hE6=>?_)
 refine qai [1] [] [(2,.v (ev))] hW hE6 fun a7 hE8=>?_
 refine qad (qab ?_)
 refine wp_ret ?_
 refine qaP ?_
 refine qaO hE8 hW.cells (v:=ev) kz ?_
 exact ⟨rfl,rfl⟩
theorem qfI (σ:Sg):RPrim0U Tryd.prog 51 σ (aN 8 σ) (.int .i64 (uI64 σ)):=⟨(mn_N 8).len σ,fun hst hr hF=>qfs σ hst hr hF⟩
end Go.Proofs.YtmpejmiiphddhaaDoorR.ME
namespace Go.Proofs.YtmpejmiiphddhaaDoorR.ME
open Go
open Go.RowKit
open Go.ChangeMaps (setBlock)
set_option linter.unusedVariables false
set_option linter.unusedSimpArgs false
set_option maxRecDepth 20000
abbrev cloV (fc:Nat) (cap:Value):Value:=.func (.func fc) #[] #[cap]
theorem qfJ {fc:Nat} {cap:Value} {m:Option Nat} {u:List (Int × Bs)} {b o:Nat} {w:World} {F M:Nat → Nat → Prop} (hcf:∀ args w,(callFunc fc args).run Tryd.prog w = .ok (.enter fc args) w) (I:World → Nat → World → Prop) (hat:AtF w F b o [.map m]) (hm:MapR w F m u) (hMF:∀ b o,F b o → ¬ M b o) (hMlt:∀ b o,M b o → b < w.heap.size)
  (hI0:∀ w7,Step w w7 Nil → I w7 0 w7) (hIs:∀ w7 j w8,I w7 j w8 → Step w7 w8 M)
  (hI1:∀ w7,Step w w7 Nil → ∀ j k x w8 Ax cx,I w7 j w8 → u[j]? = some (k,x) → (0 ≤ k ∧ k < 4294967296) → Octs w8 (fun b o=>F b o ∧ b < w7.heap.size) Ax cx x → Calls Tryd.prog fc [.int .u32 k,.slice Ax x.length cx,cap].toArray w8 (fun e w9=>e = .returned (.tuple #[]) ∧ I w7 (j + 1) w9)) (hul:u.length ≤ 1000000) :
  Calls Tryd.prog 31 [.pointer (some ⟨b,o,none⟩),cloV fc cap].toArray w (fun e w'=>e = .returned (.tuple #[]) ∧ ∃ w7,Step w w7 Nil ∧ I w7 u.length w'):=by
 refine enter (n:=53) Tryd.func31 rfl Tryd.ntmps31 kz fun a hE=>?_
 have hW:WOk w Nil w [⟨b,o,[.map m],false⟩] []:=(WOk.start w Nil).start1 hat rfl rfl
 refine wp_seq (wp_seq ?_)
 refine qaw [0,1,2,3,4,5] kz ?_
 refine qa2 [0,1,2,3] [4,5] [0,1,11] hW (EnvOk.ptr0 (cs:=[.map m]) (r:=false) hE) (env':=[(0,.p 0 0),(1,.v (cloV fc cap)),(11,.v (.map m))]) kz rfl fun a1 hE1=>?_
 refine qag (qc2 (t:=57) (kt:=48) (et:=22) hE1 (m:=m) (d:=12) kz kz hm fun a2 hE2=>?_)
 refine qa2 [5] [] [0,1,13] hW hE2 (env':=[(0,.p 0 0),(1,.v (cloV fc cap)),(13,.v (.bool (((u.length:Nat):Int) == 0)))]) kz rfl fun a3 hE3=>qad (qab ?_)
 refine qa6 hE3 (b:=((u.length:Nat):Int) == 0) kz (fun hb=>?_) (fun hb=>?_)
 ·-- none
  have hu:u = []:=List.eq_nil_of_length_eq_zero (by have:=eq_of_beq hb; omega)
  subst hu
  refine wp_ret (qaP ?_)
  exact qaO hE3 hW.cells (v:=.tuple #[]) kz ⟨rfl,w,Step.refl _ _,hI0 w (Step.refl _ _)⟩
 have hu0:0 < u.length:=by have:=ne_of_beq_false hb; omega
 cases m with
 | none=>rw [hm.none_ rfl] at hu0; cases hu0
 | some mb =>
 obtain ⟨hFm,es,clk,hes,hperm,hborn,hnod,hcont⟩:=hm.some_ mb rfl
 have hmlt:mb < w.heap.size:=(Array.getElem?_eq_some_iff.1 hes).1
 have hesz:es.size = u.length:=MapR.size (w:=w) (F:=F) hperm
 refine wp_skip (qab ?_)
 refine qac [0,1,2,3,4,5,6,7] kz ?_
 refine qa2 [0,1,2,3] [4,5,6,7] [0,1,17] hW hE3 (env':=[(0,.p 0 0),(1,.v (cloV fc cap)),(17,.v (.map (some mb)))]) kz rfl fun a4 hE4=>?_
 refine qag (qc2 (t:=57) (kt:=48) (et:=22) hE4 (m:=some mb) (d:=18) kz kz hm fun a5 hE5=>?_)
 refine qag (qdE (e:=48) (size:=1) (bytes:=4) (j:=u.length) (t:=84) (d:=19) hW hE5 (p:=0) (q:=((u.length:Nat):Int)) kz kz rfl rfl (by omega) fun kr a6 w1 hkr hkr0 hF1 hW1 hE6=>?_)
 refine qag (qaB hW1 hE6 (d:=4) (cs:=[.slice none 0 0]) kz fun kb a7 w2 hkb hkb0 hF2 hW2 hE7=>?_)
 refine qag (qam hW2 hE7 (oi:=1) (cs:=[.slice (some ⟨kr,0,none⟩) 0 u.length]) kz fun w3 hF3 hW3 hE8=>qad (qab ?_))
 refine wp_seq (qac [0,1,2,3,4] kz ?_)
 refine qa2 [0,1,2,3] [4] [0,1,4,23] hW3 hE8 (env':=[(0,.p 0 0),(1,.v (cloV fc cap)),(4,.p 1 0),(23,.v (.map (some mb)))]) kz rfl fun a8 hE9=>?_
 have hes3:=hW3.step.heap (fun o h=>h) hes
 refine qag (qdG (t:=57) (kt:=48) (et:=22) (d:=24) (r:=mb) hE9 kz kz hes3 fun a9 hE10=>qad (qab ?_))
 have hW4:=hW3.next_nil (Step.alloc w3 (.mapIter (some mb) clk #[] clk))
 have hr4:(w3.alloc (.mapIter (some mb) clk #[] clk)).heap[w3.heap.size]? = some (.mapIter (some mb) clk #[] clk):=qb1 _ _
 have hE11:=hE10.pick (ks:=[0,1,4,24]) (env':=[(0,.p 0 0),(1,.v (cloV fc cap)),(4,.p 1 0),(24,.v (.pointer (some ⟨w3.heap.size,0,none⟩)))]) kz
 have hrlt:w3.heap.size < (w3.alloc (.mapIter (some mb) clk #[] clk)).heap.size:=by rw [qcd]; omega
 have hr0:w.heap.size ≤ w3.heap.size:=hW3.step.size
 have hkbr:kb ≠ w3.heap.size:=by have:=hW3.live 1 _ rfl; show ¬ _; intro e; rw [← e] at this; exact absurd this (Nat.lt_irrefl _)
 have hkrr:kr ≠ w3.heap.size:=by have:=qba (hW3.own 0 _ rfl) (g:=kr) rfl; omega
 generalize hR:w3.heap.size = R at hr4 hE11 hrlt hkbr hkrr
 generalize hw4:w3.alloc (.mapIter (some mb) clk #[] clk) = w4 at hW4 hr4 hrlt
 refine wp_block ?_
 refine wp_loop_ghost (fun q a_ w_=>∃ (vis:List MapEntry) (seen:Array Nat) (K:Option Addr) (kc c0:Nat),q = (leftOf es seen).size ∧ Vis es.toList vis seen ∧ vis.length + (leftOf es seen).size ≤ es.size ∧
   EnvOk 53 [⟨b,o,[.map (some mb)],false⟩,⟨kb,0,[.slice K vis.length kc],true⟩] [(0,.p 0 0),(1,.v (cloV fc cap)),(4,.p 1 0),(24,.v (.pointer (some ⟨R,0,none⟩)))] a_ ∧
   WOk w Nil w_ [⟨b,o,[.map (some mb)],false⟩,⟨kb,0,[.slice K vis.length kc],true⟩] [⟨K,kc,48,1,vis.length,(vis.map fun e=>kOf e.key).map (Value.int .u32)⟩] ∧
   w_.heap[R]? = some (.mapIter (some mb) clk seen c0) ∧ clk ≤ c0 ∧ K.map (·.block) ≠ some R) (leftOf es #[]).size
  ⟨[],#[],some ⟨kr,0,none⟩,u.length,clk,rfl,Vis.nil _,by rw [List.length_nil,Nat.zero_add]; exact Array.size_filter_le,by rw [← hw4] at *; exact hE11,hW4,hr4,Nat.le_refl _,by simpa using hkrr⟩ ?_
 rintro q a10 w5 ⟨vis,seen,K,kc,c0,rfl,hv,hvl,hE12,hW5,hr5,hc0,hKR⟩
 have hes5:=hW5.step.heap (fun o h=>h) hes
 refine qac [0,1] kz ?_
 refine qag (qd9 hE12 (d:=25) (r:=R) kz hr5 hes5 hborn hc0 (fun h0 a11 hE13=>?_) (fun e he w6 hw6 a11 hE13=>?_))
 ·-- behind it
  refine qa2 [1] [] [0,1,4,26] hW5 hE13 (env':=[(0,.p 0 0),(1,.v (cloV fc cap)),(4,.p 1 0),(26,.v (.bool false))]) kz rfl fun a12 hE14=>qad (qab (wp_seq ?_))
  refine qa6 hE14 (b:=false) kz (fun hb=>by cases hb) (fun _=>?_)
  refine wp_exit (qaE (qaE (qa4 (qab ?_))))
  have hpe:=hv.all h0 hnod
  have hvu:vis.length = u.length:=by rw [hpe.length_eq,Array.length_toList,hesz]
  have hkp:(vis.map fun e=>kOf e.key).Perm (u.map Prod.fst):=by
   have h1:=(hpe.map fun e=>kOf e.key)
   have h2:=hperm.map kOf
   rw [List.map_map,List.map_map] at h2
   exact h1.trans h2
  have hkl:(vis.map fun e=>kOf e.key).length = vis.length:=by simp
  generalize (vis.map fun e=>kOf e.key) = ks at hkp hkl hW5
  have hown4:w5.ownsRow 0 48 1 (.slice K vis.length kc) vis.length (ks.map (Value.int .u32)):=hW5.own 0 _ rfl
  obtain ⟨g,rfl⟩:=qeE hown4 (by omega)
  have hown5:w5.ownsRow 0 48 1 (.slice (some ⟨g,0,none⟩) vis.length kc) vis.length (ks.map (Value.int .u32)):=hown4
  have hg0:w.heap.size ≤ g:=by
   rcases hW5.ownM 0 _ rfl g rfl with h | h
   ·exact h
   exact (h 0).elim
  refine qac [0,1,2,3] kz ?_
  refine qa2 [0,1] [2,3] [0,1,4,34] hW5 hE14 (env':=[(0,.p 0 0),(1,.v (cloV fc cap)),(4,.p 1 0),(34,.v (.iface 84 (.slice (some ⟨g,0,none⟩) vis.length kc)))]) kz rfl fun a13 hE15=>?_
  refine qag (qdm hE15 (v:=.func (.func 54) #[] #[.pointer (some ⟨kb,0,none⟩)]) (d:=35) kz fun a14 hE16=>?_)
  have hS:=Tryd.sortKeys g kc kb ks.toArray (by simp; omega) (by simp; omega) w5 (by simp only [List.size_toArray,hkl]; exact hW5.cells 1 _ rfl 0 _ rfl) (fun e=>hW5.rtb 0 _ rfl g rfl 1 _ rfl e) (qc3 hkl hown5) (qba (hW5.own 0 _ rfl) (g:=g) rfl) (hW5.live 1 _ rfl)
  rw [List.size_toArray,hkl] at hS
  refine qag (qaq hE16 (f:=53) (vs:=[.iface 84 (.slice (some ⟨g,0,none⟩) vis.length kc),.func (.func 54) #[] #[.pointer (some ⟨kb,0,none⟩)]]) (d:=36) kz Tryd.call53 hS ?_)
  rintro e_ w7 ⟨rfl,d',nd,os,hd1,hd2,hd3,rfl⟩
  refine ⟨_,rfl,fun a15 hE17=>qad (qab ?_)⟩
  have hus:d'.toList = u.map Prod.fst:=qea hd2 (by rw [hd1]; exact hd3) hkp (List.pairwise_map.2 hm.sorted)
  obtain ⟨hst7,hown7⟩:=qeI (n:=nd) (os:=os) hkl hown5 (by rw [hd1,hkl])
  rw [hus] at hown7
  generalize Sort.grow (Sort.putRow (Value.int .u32) (Sort.ahead w5 nd) g 0 d') os = w7 at hst7 hown7
  have hW7:WOk w Nil w7 [⟨b,o,[.map (some mb)],false⟩,⟨kb,0,[.slice (some ⟨g,0,none⟩) vis.length kc],true⟩] [⟨some ⟨g,0,none⟩,kc,48,1,vis.length,(u.map Prod.fst).map (Value.int .u32)⟩] :=
   hW5.grow (k:=0) (r':=⟨some ⟨g,0,none⟩,kc,48,1,vis.length,(u.map Prod.fst).map (Value.int .u32)⟩) rfl (hst7.mono fun b' _ _ hb'=>by rw [hb']; rfl) hown7 (fun g' h=>.inl h)
  refine qac [0,1,2] kz ?_
  refine qa2 [0,1,2] [] [0,1,37,38,39] hW7 hE17 (env':=[(0,.p 0 0),(1,.v (cloV fc cap)),(37,.v (.slice (some ⟨g,0,none⟩) vis.length kc)),(38,.v (.int .i64 ((vis.length:Nat):Int))),(39,.v (.int .i64 0))]) kz rfl fun a16 hE18=>qad (qab ?_)
  have hE19:=EnvOk.cutTb 1 hE18 kz
  have hat7:=hat.move hW7.step nilM qat
  have hm7:=hm.move hW7.step nilM qat
  have hg7:g < w7.heap.size:=qba (hW7.own 0 _ rfl) (g:=g) rfl
  have hkeys:=qc3 (by simpa using hvu.symm) hown7
  rw [hvu] at hE19
  refine wp_block ?_
  refine wp_loop_ghost (fun q a_ w_=>∃ (j:Nat),q = u.length - j ∧ j ≤ u.length ∧ EnvOk 53 [⟨b,o,[.map (some mb)],false⟩] [(0,.p 0 0),(1,.v (cloV fc cap)),(37,.v (.slice (some ⟨g,0,none⟩) u.length kc)),(38,.v (.int .i64 ((u.length:Nat):Int))),(39,.v (.int .i64 ((j:Nat):Int)))] a_ ∧
   I w7 j w_) u.length
   ⟨0,by omega,by omega,hE19,hI0 w7 hW7.step⟩ ?_
  rintro q a17 w8 ⟨j,rfl,hj,hE20,hD⟩
  have hS8:=hIs w7 j w8 hD
  have hat8:=hat7.move hS8 (fun b o hf _=>hMF b o hf) qat
  have hm8:MapR w8 (fun b' o'=>F b' o' ∧ b' < w7.heap.size) (some mb) u:=hm7.move hS8 (fun b o hf _=>hMF b o hf) (fun b' o' hf hl=>⟨hf,hl⟩)
  have hW8:WOk w8 Nil w8 [⟨b,o,[.map (some mb)],false⟩] []:=(WOk.start w8 Nil).start1 hat8 rfl rfl
  refine qac [0] kz (qa2 [0] [] [0,1,37,38,39,40] hW8 hE20 (env':=[(0,.p 0 0),(1,.v (cloV fc cap)),(37,.v (.slice (some ⟨g,0,none⟩) u.length kc)),(38,.v (.int .i64 ((u.length:Nat):Int))),(39,.v (.int .i64 ((j:Nat):Int))),(40,.v (.bool (decide (((j:Nat):Int) < ((u.length:Nat):Int)))))]) kz rfl fun a18 hE21=>qad (qab (wp_seq ?_)))
  refine qa6 hE21 (b:=decide (((j:Nat):Int) < ((u.length:Nat):Int))) kz (fun hc=>?_) (fun hc=>?_)
  ·have hlt:j < u.length:=by have:=of_decide_eq_true hc; omega
   refine wp_skip (qab (wp_seq (wp_block ?_)))
   obtain ⟨⟨k,x⟩,hu⟩:∃ y,u[j]? = some y:=⟨_,List.getElem?_eq_getElem hlt⟩
   have hmem:=List.mem_of_getElem? hu
   have hkr:=hm.range _ hmem
   have hcell:At w8 g (0 + j * 1) [.int .u32 k]:=by
    intro i v hi
    have hi0:i = 0:=by
     have:=(List.getElem?_eq_some_iff.1 hi).1
     simp at this; omega
    subst hi0
    simp only [List.getElem?_cons_zero,Option.some.injEq] at hi
    subst hi
    refine hS8.cell (fun hbm=>?_) ?_
    ·have:=hMlt _ _ hbm; omega
    have h1:=(hkeys j (by simpa using hlt)).1
    have h2:(u.map Prod.fst).toArray[j]! = k:=by
     rw [getElem!_pos _ j (by simpa using hlt)]
     have:(u.map Prod.fst)[j]? = some k:=by rw [List.getElem?_map,hu]; rfl
     simpa using (List.getElem?_eq_some_iff.1 this).2
    rw [h2] at h1
    simpa using h1
   refine qac [0,1,2] kz ?_
   refine qag (qak hE21 (t:=84) (e:=48) (size:=1) (bytes:=4) (d:=41) (b:=g) (o:=0) (m:=u.length) (j:=j) kz kz rfl rfl hlt fun a19 hE22=>?_)
   refine qag (qal hE22 (t:=48) (d:=42) (cs:=[.int .u32 k]) (v:=.int .u32 k) kz kz hcell fun a20 hE23=>?_)
   refine qa2 [2] [] [0,1,37,38,39,7] hW8 hE23 (env':=[(0,.p 0 0),(1,.v (cloV fc cap)),(37,.v (.slice (some ⟨g,0,none⟩) u.length kc)),(38,.v (.int .i64 ((u.length:Nat):Int))),(39,.v (.int .i64 ((j:Nat):Int))),(7,.v (.int .u32 k))]) kz rfl fun a21 hE24=>qad (qab ?_)
   refine qaw [0,1,2,3,4,5,6,7,8] kz ?_
   refine qa2 [0,1,2,3,4,5,6] [7,8] [0,1,37,38,39,43,44,48,49] hW8 hE24 (env':=[(0,.p 0 0),(1,.v (cloV fc cap)),(37,.v (.slice (some ⟨g,0,none⟩) u.length kc)),(38,.v (.int .i64 ((u.length:Nat):Int))),(39,.v (.int .i64 ((j:Nat):Int))),(43,.v (cloV fc cap)),(44,.v (.int .u32 k)),(48,.v (.map (some mb))),(49,.v (.int .u32 k))]) kz rfl fun a22 hE25=>?_
   refine qag (qd7 hE25 (t:=57) (kt:=48) (et:=22) (m:=some mb) (k:=k) (s:=x) (d:=50) kz kz kz hm8 hmem fun a23 Ax cx hox hE26=>?_)
   refine qag (qaq hE26 (f:=fc) (vs:=[.int .u32 k,.slice Ax x.length cx,cap]) (d:=51) kz hcf (hI1 w7 hW7.step j k x w8 Ax cx hD hu hkr hox) ?_)
   rintro e_ w9 ⟨rfl,hD2⟩
   refine ⟨_,rfl,fun a24 hE27=>qad (qaU (qab ?_))⟩
   have hS9:=hIs w7 (j + 1) w9 hD2
   have hat9:=hat7.move hS9 (fun b o hf _=>hMF b o hf) qat
   have hW9:WOk w9 Nil w9 [⟨b,o,[.map (some mb)],false⟩] []:=(WOk.start w9 Nil).start1 hat9 rfl rfl
   refine qaw [0,1] kz (qa2 [0,1] [] [0,1,37,38,39] hW9 hE27 (env':=[(0,.p 0 0),(1,.v (cloV fc cap)),(37,.v (.slice (some ⟨g,0,none⟩) u.length kc)),(38,.v (.int .i64 ((u.length:Nat):Int))),(39,.v (.int .i64 (IntKind.i64.wrap (((j:Nat):Int) + 1))))]) kz rfl fun a25 hE28=>qad (qab ?_))
   rw [qbp (by omega)] at hE28
   exact ⟨u.length - (j + 1),by omega,j + 1,rfl,by omega,hE28,hD2⟩
  obtain rfl:j = u.length:=by have:=of_decide_eq_false hc; omega
  refine wp_exit (qaE (qaE (qa4 ?_)))
  exact qa0 hE21 hW8.cells (v:=.tuple #[]) kz ⟨rfl,w7,hW7.step,hD⟩
 -- one more
 have hst6:Step w5 w6 Nil:=by
  rcases hw6 with rfl | rfl
  ·exact Step.refl _ _
  exact Step.drew _
 have hr6:w6.heap[R]? = some (.mapIter (some mb) clk seen c0):=hst6.heap (fun o h=>h) hr5
 have hW6:=hW5.next_nil hst6
 obtain ⟨hml,_⟩:=mem_left he
 obtain ⟨k,sx,Ax,cx,hk1,hk2,hk3,hk4⟩:=hcont e hml
 have hR6:R < w6.heap.size:=(Array.getElem?_eq_some_iff.1 hr6).1
 have hW7:WOk w Nil (setBlock w6 R (.mapIter (some mb) clk (seen.push e.born) clk)) [⟨b,o,[.map (some mb)],false⟩,⟨kb,0,[.slice K vis.length kc],true⟩] [⟨K,kc,48,1,vis.length,(vis.map fun e=>kOf e.key).map (Value.int .u32)⟩]:=by
  refine hW6.next (Step.setBlock w6 R _) (fun b' o' hb' hN=>by omega) (fun i ob hi j hj hN=>?_) (fun i q hi g' hg' o' hN=>?_)
  ·match i,hi with
   | 0,hi =>
    simp only [List.getElem?_cons_zero,Option.some.injEq] at hi; subst hi
    have:=World.lt_of_cell (hat 0 _ rfl).2
    simp only at hN; omega
   | 1,hi =>
    simp only [List.getElem?_cons_succ,List.getElem?_cons_zero,Option.some.injEq] at hi; subst hi
    exact hkbr hN
   | i + 2,hi=>simp at hi
  match i,hi with
  | 0,hi =>
   simp only [List.getElem?_cons_zero,Option.some.injEq] at hi; subst hi
   exact hKR (by rw [← hN]; exact hg')
  | i + 1,hi=>simp at hi
 have hr7:(setBlock w6 R (.mapIter (some mb) clk (seen.push e.born) clk)).heap[R]? = some (.mapIter (some mb) clk (seen.push e.born) clk):=qb9 hr6
 generalize hw7:setBlock w6 R (.mapIter (some mb) clk (seen.push e.born) clk) = w7 at hW7 hr7
 refine qa2 [1] [] [0,1,4,24,26] hW7 hE13 (env':=[(0,.p 0 0),(1,.v (cloV fc cap)),(4,.p 1 0),(24,.v (.pointer (some ⟨R,0,none⟩))),(26,.v (.bool true))]) kz rfl fun a12 hE14=>qad (qab (wp_seq ?_))
 refine qa6 hE14 (b:=true) kz (fun _=>?_) (fun hb=>by cases hb)
 refine wp_skip (qab (wp_block ?_))
 have hes7:=hW7.step.heap (fun o h=>h) hes
 refine qac [0,1,2] kz ?_
 refine qag (qdH hE14 (d:=27) (r:=R) kz hr7 hes7 hml hnod fun a13 hE15=>?_)
 rw [hk1] at hE15
 refine qa2 [1,2] [] [0,1,4,24,5] hW7 hE15 (env':=[(0,.p 0 0),(1,.v (cloV fc cap)),(4,.p 1 0),(24,.v (.pointer (some ⟨R,0,none⟩))),(5,.v (.int .u32 k))]) kz rfl fun a14 hE16=>qad (qab ?_)
 refine qaw [0,1,2,3,4] kz ?_
 refine qa2 [0,1] [2,3,4] [0,1,4,24,29,30] hW7 hE16 (env':=[(0,.p 0 0),(1,.v (cloV fc cap)),(4,.p 1 0),(24,.v (.pointer (some ⟨R,0,none⟩))),(29,.v (.slice K vis.length kc)),(30,.v (.int .u32 k))]) kz rfl fun a15 hE17=>?_
 have hsh:=left_shrinks es seen e he
 refine qcI (t:=84) (e:=48) (size:=1) (bytes:=4) (len:=1) (cs:=[.int .u32 k]) (d1:=31) (d:=32) (k:=0) hW7 hE17 kz kz (fun _=>by kernel_rfl) rfl kz (by omega) fun K2 kc2 a16 w8 hF8 hW8 hE18=>?_
 obtain ⟨bl,hE18⟩:=hE18
 have hR7:R < w7.heap.size:=(Array.getElem?_eq_some_iff.1 hr7).1
 have hna:∀ {o'},¬ Act_ [⟨b,o,[.map (some mb)],false⟩,⟨kb,0,[.slice K vis.length kc],true⟩] [⟨K,kc,48,1,vis.length,(vis.map fun e=>kOf e.key).map (Value.int .u32)⟩] R o':=by
  rintro o' (⟨i,ob,hi,hrw,hb,_⟩ | ⟨i,q,hi,hq⟩)
  ·match i,hi with
   | 0,hi =>
    simp only [List.getElem?_cons_zero,Option.some.injEq] at hi; subst hi
    cases hrw
   | 1,hi =>
    simp only [List.getElem?_cons_succ,List.getElem?_cons_zero,Option.some.injEq] at hi; subst hi
    exact hkbr hb
   | i + 2,hi=>simp at hi
  match i,hi with
  | 0,hi =>
   simp only [List.getElem?_cons_zero,Option.some.injEq] at hi; subst hi
   exact hKR hq
  | i + 1,hi=>simp at hi
 have hK2:K2.map (·.block) ≠ some R:=fun hk=>by
  exact hF8.imm R 0 hR7 hna (.inr ⟨0,_,rfl,hk⟩)
 refine qag (qam hW8 hE18 (oi:=1) (cs:=[.slice K2 (vis.length + 1) kc2]) kz fun w9 hF9 hW9 hE19=>qad (qaU (qab ?_)))
 have hr8:w9.heap[R]? = some (.mapIter (some mb) clk (seen.push e.born) clk) :=
  hF9.step.heap (fun o'=>hF8.imm R o' hR7 hna) (hF8.step.heap (fun o'=>hna) hr7)
 refine ⟨(leftOf es (seen.push e.born)).size,hsh,vis ++ [e],seen.push e.born,K2,kc2,clk,rfl,hv.push he,by rw [List.length_append,List.length_singleton]; omega,?_,?_,hr8,Nat.le_refl _,hK2⟩
 ·rw [List.length_append,List.length_singleton]
  exact hE19.pick (ks:=[0,1,4,24]) kz
 rw [List.length_append,List.length_singleton,List.map_append,List.map_append,List.map_cons,List.map_cons,hk1]
 exact hW9
end Go.Proofs.YtmpejmiiphddhaaDoorR.ME
namespace Go.Proofs.YtmpejmiiphddhaaDoorR.ME
open Go
open Go.RowKit
set_option linter.unusedVariables false
set_option linter.unusedSimpArgs false
set_option maxRecDepth 20000
section
variable {P:Program} {ops:Array Oper} {Q:Exit → Act → World → Prop} {n:Nat} {tb:Tb} {env:Env} {rs:List Rw} {w0:World} {M:Nat → Nat → Prop} {a:Act} {w:World}
theorem qdR {i d j:Nat} {t e:TypeId} {size bytes:Nat} (z:Value) (cs:List Value) {N:Act → World → Prop} (hW:WOk w0 M w tb rs) (hE:EnvOk n tb env a)
  (K:∀ b a' w',b = w.heap.size → w0.heap.size ≤ b → Fr w tb rs w' (tb ++ [⟨b,0,cs,true⟩]) rs → WOk w0 M w' (tb ++ [⟨b,0,cs,true⟩]) rs → EnvOk n (tb ++ [⟨b,0,cs,true⟩]) ((d,.v (.slice (some ⟨b,0,none⟩) j j)) :: env) a' → N a' w')
  (h:qeD env ops n i = some (t,((j:Nat):Int),((j:Nat):Int),d):=by kernel_rfl) (ht:qbW P t = some (e,size,bytes):=by kernel_rfl) (hz:(P.info? e).bind (·.zero) = some z:=by kernel_rfl) (hcs:(madeCells z.cells (j * size)).toList = cs:=by kernel_rfl) (hb:Nat.ble (bytes * j) 1000000 = true:=by kernel_rfl):wpOp P ops Q i N a w:=by
 obtain ⟨ht',inf,z',hi,hz',hzs,hs1,rfl,hsz,hbp⟩:=qbD ht
 obtain ⟨op,ho,hd,kl,kc,hrun⟩:=qdl (P:=P) (w:=w) hE h
 have hzz:z' = z:=by rw [hi] at hz; simp only [Option.bind_some,hz',Option.some.injEq] at hz; exact hz
 subst hzz
 have hb':=Nat.le_of_ble_eq_true hb
 have hjm:j ≤ 1000000:=by
  have:=Nat.le_mul_of_pos_left j hbp
  omega
 have hr:=run_make (P:=P) w t e inf z' ht' hi hz' kl kc (j:Int) (j:Int) (by omega) (Int.le_refl _) (by
  have:((inf.bytes * j:Nat):Int) ≤ 281474976710656:=by omega
  rwa [Int.natCast_mul] at this) (by omega)
 simp only [Int.toNat_natCast,hs1] at hr
 have hca:madeCells z'.cells (j * size) = cs.toArray:=by rw [← hcs]
 rw [hca] at hr
 refine qaJ hE ho (fun o hop=>hrun o _ _ hop hr) ?_
 refine K w.heap.size _ _ rfl hW.step.size (Fr.alloc w tb rs _ cs true) (hW.alloc cs e) ?_
 exact (hE.put hd (.v (.slice (some ⟨w.heap.size,0,none⟩) j j)) trivial).grow _
end
structure TBox (w:World) (B eT:Nat) (A:Option Addr) (cp n:Nat) (x0 x1 x2 x3:Value) (xs:List Value):Prop where
 str:Str w B [x0,x1,x2,x3,.slice A n cp]
 own:w.ownsRow 0 eT 2 (.slice A n cp) n xs
 ne:A.map (·.block) ≠ some B
def TM (B:Nat) (A:Option Addr):Nat → Nat → Prop:=fun b o=>(b = B ∧ o < 5) ∨ Blk A b o
def qeU (w:World) (B eT:Nat) (A:Option Addr) (n:Nat) (x0 x1 x2 x3:Value) (xs:List Value) (k:Int) (x:Bs):Ending → World → Prop:=fun en w' =>
 en = .returned (.tuple #[]) ∧ ∃ A' cp' Av cv,TBox w' B eT A' cp' (n + 1) x0 x1 x2 x3 (xs ++ [.int .u32 k,.slice Av x.length cv]) ∧ Octs w' (fun b o=>(w.heap.size ≤ b ∨ A.map (·.block) = some b) ∧ ¬ TM B A' b o) Av cv x ∧ Near w A A' ∧ Step w w' (TM B A)
def qep (P:Program) (fc eT:Nat):Prop:=∀ (w:World) (B cp c n:Nat) (k:Int) (A Av:Option Addr) (x:Bs) (x0 x1 x2 x3:Value) (xs:List Value) (G:Nat → Nat → Prop),TBox w B eT A cp n x0 x1 x2 x3 xs → Octs w G Av c x → (∀ b o,G b o → ¬ TM B A b o) → n ≤ 1000000 →
 Calls P fc [.int .u32 k,.slice Av x.length c,.pointer (some ⟨B,0,none⟩)].toArray w (qeU w B eT A n x0 x1 x2 x3 xs k x)
theorem TBox.wok {w:World} {B eT cp n:Nat} {A:Option Addr} {x0 x1 x2 x3:Value} {xs:List Value} (h:TBox w B eT A cp n x0 x1 x2 x3 xs):WOk w (TM B A) w [⟨B,0,[x0,x1,x2,x3,.slice A n cp],true⟩] [⟨A,cp,eT,2,n,xs⟩]:=by
 have h1:WOk w (TM B A) w [⟨B,0,[x0,x1,x2,x3,.slice A n cp],true⟩] [] :=
  (WOk.start w _).add ⟨B,0,[x0,x1,x2,x3,.slice A n cp],true⟩ (World.lt_of_cell (h.str.at_ 0 _ rfl)) (fun j v hj=>by rw [Nat.zero_add]; exact h.str.at_ j v hj) (fun _ j hj=>⟨.inr (.inl ⟨rfl,by rw [Nat.zero_add]; exact hj⟩),by rw [Nat.zero_add]; exact h.str.frz j hj⟩) (fun i ob hi=>by simp at hi) (fun i r hi=>by simp at hi)
 refine h1.addRow ⟨A,cp,eT,2,n,xs⟩ h.own (fun g hg=>.inr fun o=>.inr hg) (fun i ob hi=>?_) (fun i r hi=>by simp at hi)
 cases i with
 | zero =>
  simp only [List.getElem?_cons_zero,Option.some.injEq] at hi; subst hi
  exact h.ne
 | succ i=>simp at hi
theorem qft {w0 w:World} {B eT cp n:Nat} {A0 A:Option Addr} {x0 x1 x2 x3:Value} {xs:List Value} {rs:List Rw} (hW:WOk w0 (TM B A0) w [⟨B,0,[x0,x1,x2,x3,.slice A n cp],true⟩] (⟨A,cp,eT,2,n,xs⟩ :: rs)) (hB:B < w0.heap.size):TBox w B eT A cp n x0 x1 x2 x3 xs ∧ Near w0 A0 A ∧ Step w0 w (TM B A0):=by
 refine ⟨⟨Str.of hW 0 rfl,hW.own 0 _ rfl,fun e=>hW.rtb 0 _ rfl B e 0 _ rfl rfl⟩,fun g hg=>?_,hW.step⟩
 rcases hW.ownM 0 _ rfl g hg with h | h
 ·exact .inr h
 rcases h 5 with ⟨_,h⟩ | h
 ·omega
 exact .inl h
theorem qeq {w0 w:World} {B eT cp n c e8:Nat} {A0 A Av:Option Addr} {cs:List Value} {xs:List Value} {s:Bs} (hl:cs.length = 5) (hW:WOk w0 (TM B A0) w [⟨B,0,cs,true⟩] [⟨A,cp,eT,2,n,xs⟩,brow Av c e8 s]) (hsm:s.length ≤ 1099511627776):Octs w (fun b o=>(w0.heap.size ≤ b ∨ A0.map (·.block) = some b) ∧ ¬ TM B A b o) Av c s:=by
 refine qdk (hW.own 1 _ rfl) hsm fun g hg o=>⟨?_,?_⟩
 ·rcases hW.ownM 1 _ rfl g hg with h | h
  ·exact .inl h
  rcases h 5 with ⟨_,h⟩ | h
  ·omega
  exact .inr h
 rintro (⟨rfl,_⟩ | h)
 ·exact hW.rtb 1 _ rfl g hg 0 _ rfl rfl
 exact hW.rr 1 0 _ _ (by decide) rfl rfl g hg h
theorem qer {fc eT B b o:Nat} {m:Option Nat} {u:List (Int × Bs)} {w:World} {F:Nat → Nat → Prop} {x0 x1 x2 x3:Value} (hcf:∀ args w,(callFunc fc args).run Tryd.prog w = .ok (.enter fc args) w) (hone:qep Tryd.prog fc eT) (hat:AtF w F b o [.map m]) (hm:MapR w F m u) (hB:Str w B [x0,x1,x2,x3,.slice none 0 0]) (hF:∀ b o,F b o → ¬ (b = B ∧ o < 5)) (hul:u.length ≤ 1000000) :
  Calls Tryd.prog 31 [.pointer (some ⟨b,o,none⟩),cloV fc (.pointer (some ⟨B,0,none⟩))].toArray w (fun e w'=>e = .returned (.tuple #[]) ∧ ∃ A c,Str w' B [x0,x1,x2,x3,.slice A u.length c] ∧ TagsR w' (fun b o=>w.heap.size ≤ b) A c u ∧ Step w w' (fun b o=>b = B ∧ o < 5)):=by
 have hBl:B < w.heap.size:=World.lt_of_cell (hB.at_ 0 _ rfl)
 refine (qfJ (M:=fun b o=>b = B ∧ o < 5) hcf (fun w7 j w8=>∃ A cp xs css,TBox w8 B eT A cp j x0 x1 x2 x3 xs ∧ Tags w8 (fun b o=>w7.heap.size ≤ b ∧ ¬ TM B A b o) xs (u.take j) css ∧ (∀ g,A.map (·.block) = some g → w7.heap.size ≤ g) ∧ Step w7 w8 (fun b o=>b = B ∧ o < 5)) hat hm hF (fun b o h=>by rw [h.1]; exact hBl) (fun w7 hs=>?_) (fun w7 j w8 h=>by obtain ⟨_,_,_,_,_,_,_,h⟩:=h; exact h) (fun w7 hs j k x w8 Ax cx hI hu hk hox=>?_) hul).mono ?_
 ·exact ⟨none,0,[],[],⟨hB.move hs fun _ h=>h,World.ownsRow_nil _ 0 eT 2,fun h=>by cases h⟩,Tags.nil _ _,fun g h=>(by cases h),Step.refl _ _⟩
 ·obtain ⟨A,cp,xs,css,hbx,hT,hA,hs8⟩:=hI
  have hj:j < u.length:=(List.getElem?_eq_some_iff.1 hu).1
  refine (hone w8 B cp cx j k A Ax x x0 x1 x2 x3 xs _ hbx hox (fun b o hf=>?_) (by omega)).mono ?_
  ·rintro (h | h)
   ·exact hF _ _ hf.1 h
   have:=hA b h; have:=hf.2; omega
  rintro e w9 ⟨rfl,A',cp',Av,cv,hbx',ho',hn,hs9⟩
  refine ⟨rfl,A',cp',_,css ++ [[.int .u32 k,.slice Av x.length cv]],hbx',?_,fun g hg=>?_,hs8.trans hs9 fun b o hb h=>?_⟩
  ·rw [qbN hu]
   have e1:Tags w9 (fun b o=>w7.heap.size ≤ b ∧ ¬ TM B A' b o) xs (u.take j) css:=hT.move hs9 (fun b o h _=>h.2) (fun b o h hb=>⟨h.1,fun h'=>by
    rcases h' with h' | h'
    ·exact h.2 (.inl h')
    rcases hn b h' with h' | h'
    ·exact h.2 (.inr h')
    omega⟩)
   have e2:Octs w9 (fun b o=>w7.heap.size ≤ b ∧ ¬ TM B A' b o) Av cv x:=ho'.move (Step.refl _ Nil) nilM fun b o h _=>⟨by
    rcases h.1 with h' | h'
    ·exact Nat.le_trans hs8.size h'
    exact hA b h',h.2⟩
   exact e1.snoc (c:=[.int .u32 k,.slice Av x.length cv]) (x:=(k,x)) ⟨⟨_,_,rfl,e2⟩,hk.1,hk.2⟩
  ·rcases hn g hg with h | h
   ·exact hA g h
   exact Nat.le_trans hs8.size h
  rcases h with h | h
  ·exact h
  have:=hA b h; omega
 rintro e w' ⟨rfl,w7,hs,A,cp,xs,css,hbx,hT,hA,hs8⟩
 rw [List.take_length] at hT
 refine ⟨rfl,A,cp,hbx.str,?_,(hs.mono (N:=fun b o=>b = B ∧ o < 5) fun _ _ _ f=>f.elim).trans hs8 fun b o _ h=>h⟩
 exact ((hT.move (Step.refl _ Nil) nilM fun b o h _=>Nat.le_trans hs.size h.1).slots (F:=fun b o=>w.heap.size ≤ b) hbx.own rfl (by omega) fun g hg o=>Nat.le_trans hs.size (hA g hg))
theorem WOk.strOut {G:Nat → Nat → Prop} {w0 w:World} {tb:Tb} {rs:List Rw} {p:Nat} {cs:List Value} (tb':Tb) (hW:WOk w0 Nil w tb rs) (ht:tb' ++ [⟨p,0,cs,true⟩] = tb:=by rfl):AtF w (Imm G w0 w tb' rs) p 0 cs:=fun j v hj=>by
 subst ht
 have hi:(tb' ++ [(⟨p,0,cs,true⟩:Ob)])[tb'.length]? = some ⟨p,0,cs,true⟩:=by rw [List.getElem?_append_right (Nat.le_refl _),Nat.sub_self]; rfl
 have h1:=hW.cells _ _ hi j v hj
 have hlt:j < cs.length:=(List.getElem?_eq_some_iff.1 hj).1
 refine ⟨⟨?_,hW.live _ _ hi,fun ha=>?_⟩,h1⟩
 ·rcases (hW.rw_ _ _ hi rfl j hlt).1 with h2 | h2
  ·exact .inr h2
  exact h2.elim
 rcases ha with ⟨k,ob,h2,h3,h4,h5,h6⟩ | ⟨k,r,h2,h3⟩
 ·have hk:k < tb'.length:=(List.getElem?_eq_some_iff.1 h2).1
  have h7:(tb' ++ [(⟨p,0,cs,true⟩:Ob)])[k]? = some ob:=by rw [List.getElem?_append_left hk]; exact h2
  rcases hW.apart k _ ob _ (by omega) h7 hi (.inr rfl) with h8 | h8 | h8
  ·exact h8 h4
  ·simp only [Nat.zero_add] at h5 h6; simp only [Nat.le_zero] at h8; omega
  simp only [Nat.zero_add] at h5 h6 h8; omega
 exact hW.rtb k r h2 p h3 _ _ hi rfl
theorem qdS {u:List (Int × Bs)} (h:qbV u) {i j:Nat} {k k':Int} {s s':Bs} (hi:u[i]? = some (k,s)) (hj:u[j]? = some (k',s')) (hij:j < i):¬ k < k':=by
 obtain ⟨h1,h2⟩:=List.getElem?_eq_some_iff.1 hi
 obtain ⟨h3,h4⟩:=List.getElem?_eq_some_iff.1 hj
 have:=List.pairwise_iff_getElem.1 h j i h3 h1 hij
 rw [h2,h4] at this
 simp only at this
 omega
section
variable {w0 w:World} {tb:Tb} {rs:List Rw} {F:Nat → Nat → Prop}
theorem WOk.objFp (hW:WOk w0 Nil w tb rs) (i:Nat) {b:Nat} {cs:List Value} (hi:tb[i]? = some ⟨b,0,cs,true⟩):AtF w (Fp F w0) b 0 cs:=fun j v hj=>by
 have hlt:=(List.getElem?_eq_some_iff.1 hj).1
 refine ⟨?_,hW.cells i _ hi j v hj⟩
 rcases (hW.rw_ i _ hi rfl j hlt).1 with h | h
 ·exact .inr h
 exact h.elim
def TrL (w:World) (F:Nat → Nat → Prop):List (List Value) → List Tree → Prop
 | [],[]=>True
 | c :: cs,x :: xs=>TreeR w F c x ∧ TrL w F cs xs
 | _,_=>False
theorem TrL.move {w w':World} {F F' M:Nat → Nat → Prop} (hs:Step w w' M) (hM:∀ b o,F b o → b < w.heap.size → ¬ M b o) (hF:∀ b o,F b o → b < w.heap.size → F' b o):∀ {cs:List (List Value)} {l:List Tree},TrL w F cs l → TrL w' F' cs l
 | [],[],_=>trivial
 | _ :: _,_ :: _,h=>⟨h.1.move hs hM hF,TrL.move hs hM hF h.2⟩
 | [],_ :: _,h=>h.elim
 | _ :: _,[],h=>h.elim
theorem TrL.len:∀ {cs:List (List Value)} {l:List Tree},TrL w F cs l → cs.length = l.length
 | [],[],_=>rfl
 | _ :: _,_ :: _,h=>congrArg (· + 1) (TrL.len h.2)
 | [],_ :: _,h=>h.elim
 | _ :: _,[],h=>h.elim
theorem TrL.five:∀ {cs:List (List Value)} {l:List Tree},TrL w F cs l → ∀ c ∈ cs,c.length = 5
 | [],[],_=>fun c hc=>by cases hc
 | _ :: _,_ :: _,h=>fun c hc=>by
  rcases List.mem_cons.1 hc with rfl | hc
  ·exact h.1.five
  exact TrL.five h.2 c hc
 | [],_ :: _,h=>h.elim
 | _ :: _,[],h=>h.elim
theorem TrL.get:∀ {cs:List (List Value)} {l:List Tree},TrL w F cs l → ∀ (i:Nat) (x:Tree),l[i]? = some x → TreeR w F (cs.getD i []) x
 | [],[],_,i,x,hx=>by simp at hx
 | _ :: _,_ :: _,h,0,x,hx=>by
  simp only [List.getElem?_cons_zero,Option.some.injEq] at hx
  subst hx
  exact h.1
 | _ :: _,_ :: _,h,i + 1,x,hx=>TrL.get h.2 i x hx
 | [],_ :: _,h,_,_,_=>h.elim
 | _ :: _,[],h,_,_,_=>h.elim
theorem qfK {b:Nat}:∀ (css:List (List Value)) (o:Nat),AtF w F b o css.flatten → (∀ c ∈ css,c.length = 5) → ∀ i,i < css.length → (css.getD i []).length = 5 ∧ AtF w F b (o + i * 5) (css.getD i [])
 | [],o,h,hl,i,hi=>absurd hi (Nat.not_lt_zero _)
 | c :: r,o,h,hl,0,_=>⟨hl c List.mem_cons_self,fun j v hj=>by
   have hj':c[j]? = some v:=hj
   have:=h j v (by rw [List.flatten_cons,List.getElem?_append_left (List.getElem?_eq_some_iff.1 hj').1]; exact hj')
   rw [show o + 0 * 5 + j = o + j by omega]
   exact this⟩
 | c :: r,o,h,hl,i + 1,hi=>by
  have hc:=hl c List.mem_cons_self
  have:=qfK r (o + 5) (fun j v hj=>by
   have:=h (5 + j) v (by rw [List.flatten_cons,List.getElem?_append_right (by omega),show 5 + j - c.length = j by omega]; exact hj)
   rw [show o + 5 + j = o + (5 + j) by omega]
   exact this) (fun d hd=>hl d (List.mem_cons_of_mem _ hd)) i (by simpa using hi)
  rw [show o + (i + 1) * 5 = o + 5 + i * 5 by omega]
  exact this
theorem qdT {b:Nat} {css:List (List Value)} {l:List Tree} (h:AtF w F b 0 css.flatten) (hT:TrL w F css l) (hsm:l.length ≤ 1099511627776):Slots w F 5 (some ⟨b,0,none⟩) l.length l.length (fun i=>css.getD i []) :=
 ⟨Nat.le_refl _,hsm,fun h=>(by cases h),fun ad hA _=>⟨b,0,(Option.some.inj hA).symm,fun i hi=>qfK css 0 h hT.five i (by rw [hT.len]; exact hi)⟩⟩
theorem qeV (hW:WOk w0 Nil w tb rs) (i:Nat) {b n2 c3:Nat} {A3:Option Addr} {u:List (Int × Bs)} {css:List (List Value)} {cs:List Value} {l:List Tree} (hi:tb[i]? = some ⟨b,0,cs,true⟩) (hT':TrL w (Fp F w0) css l) (hU:TagsR w (Fp F w0) A3 c3 u) (hf:css.flatten = cs:=by rfl) (hl:l.length = n2:=by rfl) (hn:Nat.ble n2 1000000 = true:=by kernel_rfl) :
  qc1 w0 F (.mk 0 [] false l u) (.returned (.agg #[.int .i64 0,.slice none 0 0,.bool false,.slice (some ⟨b,0,none⟩) n2 n2,.slice A3 u.length c3])) w:=by
 subst hf
 subst hl
 have hn':=Nat.le_of_ble_eq_true hn
 exact ⟨_,rfl,TreeR.mk (s:=[]) _ (Octs.nil _ _) (qdT (hW.objFp i hi) hT' (by omega)) hT'.get hU,hW.step⟩
end
def qay (w:World) (F:Nat → Nat → Prop) (D:DV):Prop:=(True) ∧ (True) ∧ MapR w F D.m D.u ∧ D.u.length ≤ 1000000 ∧ (∀ x ∈ D.u,x.2.length < 4294967296) ∧ True
theorem qaM:qfO qay:=by
 intro w w' F F' M d hs hM hF h
 unfold qay at h ⊢
 obtain ⟨g0,g1,t1,t2,t3,_⟩:=h
 exact ⟨g0,g1,t1.move hs hM hF,t2,t3,trivial⟩
def qaD (D:DV):Tree:=.mk 0 [] false [.mk (IntKind.i64.wrap (D.f 0).n) [] false [] [],.mk ((D.f 1).n) [] false [] []] D.u
theorem qfL (A A':Option Addr) (c c':Nat) (s t:Bs) (w:World) (F:Nat → Nat → Prop) (hs:Octs w F A c s) (ht:Octs w F A' c' t) :
  Calls Tryd.prog 20 #[.slice A s.length c,.slice A' t.length c'] w (qbv w (.bool (decide (s = t)))):=by
 refine enter (n:=26) Tryd.func20 rfl Tryd.ntmps20 kz fun a hE=>?_
 have hW:=WOk.start w Nil
 have hl:=Slots.small hs
 refine qan [(0,.v (.slice A s.length c)),(1,.v (.slice A' t.length c'))] hW hE fun a1 hE2=>?_
 refine wp_seq ?_
 refine qan [(0,.v (.slice A s.length c)),(1,.v (.slice A' t.length c')),(10,.v (.bool (((s.length:Nat):Int) != ((t.length:Nat):Int))))] hW hE2 fun a3 hE4=>?_
 refine qa6 hE4 (b:=((s.length:Nat):Int) != ((t.length:Nat):Int)) kz (fun hc5=>?_) (fun hc5=>?_)
 ·
  have hf6:((s.length:Nat):Int) ≠ ((t.length:Nat):Int):=by simpa using hc5
  refine qan [(4,.v (.bool false))] hW hE4 fun a7 hE8=>?_
  refine wp_ret ?_
  refine qaP ?_
  refine qaO hE8 hW.cells (v:=.bool false) kz ?_
  exact ⟨by first | rw [← qcR hq (by omega) hlen] | rw [← qc9 ‹_›] | rw [← qcQ ‹_›],hW.step⟩
 have hf9:((s.length:Nat):Int) = ((t.length:Nat):Int):=by simpa using hc5
 refine wp_skip ?_
 refine qab ?_
 refine wp_seq ?_
 refine qan [(0,.v (.slice A s.length c)),(1,.v (.slice A' t.length c')),(12,.v (.int .i64 ((s.length:Nat):Int))),(13,.v (.int .i64 0))] hW hE4 fun aQ ak=>?_
 refine wp_block ?_
 have hlen:s.length = t.length:=by omega
 refine wp_loop_ghost (fun n_ a_ w_=>∃ (k:Nat),n_ = s.length - k ∧ k ≤ s.length ∧ (s.take k = t.take k) ∧ LInv hW 26 [] [] [(0,.v (.slice A s.length c)),(1,.v (.slice A' t.length c')),(12,.v (.int .i64 ((s.length:Nat):Int))),(13,.v (.int .i64 ((k:Nat):Int)))] a_ w_) (s.length) ⟨0,by omega,by omega,rfl,ak.pk,hW,Fr.refl _ _ _⟩ ?_
 rintro aR aS aT ⟨k,aD,aE,hq,al,ab,am⟩
 refine qan [(0,.v (.slice A s.length c)),(1,.v (.slice A' t.length c')),(12,.v (.int .i64 ((s.length:Nat):Int))),(13,.v (.int .i64 ((k:Nat):Int))),(14,.v (.bool (decide (((k:Nat):Int) < ((s.length:Nat):Int)))))] ab al fun aU ac=>?_
 refine wp_seq ?_
 refine qa6 ac (b:=decide (((k:Nat):Int) < ((s.length:Nat):Int))) kz (fun ae=>?_) (fun ae=>?_)
 ·
  have aF:=of_decide_eq_true ae
  refine wp_skip ?_
  refine qab ?_
  refine wp_seq ?_
  refine wp_block ?_
  refine qan [(0,.v (.slice A s.length c)),(1,.v (.slice A' t.length c')),(5,.v (.int .i64 ((k:Nat):Int))),(12,.v (.int .i64 ((s.length:Nat):Int))),(13,.v (.int .i64 ((k:Nat):Int)))] ab ac fun aV ao=>?_
  refine qbz kz ab fun aW ap aa=>?_
  refine qaF [0,1,4,5] [(0,.v (.slice A s.length c)),(1,.v (.slice A' t.length c')),(12,.v (.int .i64 ((s.length:Nat):Int))),(13,.v (.int .i64 ((k:Nat):Int))),(16,.v (.slice A s.length c)),(17,.v (.int .i64 ((k:Nat):Int))),(20,.v (.slice A' t.length c')),(21,.v (.int .i64 ((k:Nat):Int)))] 5 (qaa (qae (qaa (qaa (qae (qaa qaf)))))) (fun _ h=>h ▸ aa.cells) rfl ao fun aX ar=>?_
  obtain ⟨aG,aH,au,aI,ah⟩:=Slots.get hs (i:=k) (by omega)
  refine qax ar (i:=2) (t:=22) (A:=A) (m:=s.length) (q:=((k:Nat):Int)) (d:=18) kz (e:=5) (size:=1) (bytes:=1) kz au rfl (by omega) kz kz (qaa (qae (qaa (qaa (qae (qaa qaf)))))) rfl fun aY av=>?_
  refine qaz av (i:=3) (t:=5) (b:=aG) (o:=aH + k * 1) (d:=19) kz (cs:=[.int .u8 ((s.getD k 0).toNat:Int)]) (v:=.int .u8 ((s.getD k 0).toNat:Int)) kz (fun w' h'=>h' ▸ (AtF.move ah aa.step nilM qat).at_) kz kz (qaa (qae (qaa (qaa (qae (qaa qaf)))))) rfl fun aZ aw=>?_
  obtain ⟨aJ,aK,ax,aL,ai⟩:=Slots.get ht (i:=k) (by omega)
  refine qax aw (i:=6) (t:=22) (A:=A') (m:=t.length) (q:=((k:Nat):Int)) (d:=22) kz (e:=5) (size:=1) (bytes:=1) kz ax rfl (by omega) kz kz (qaa (qae (qaa (qaa (qae (qaa qaf)))))) rfl fun ba ay=>?_
  refine qaz ay (i:=7) (t:=5) (b:=aJ) (o:=aK + k * 1) (d:=23) kz (cs:=[.int .u8 ((t.getD k 0).toNat:Int)]) (v:=.int .u8 ((t.getD k 0).toNat:Int)) kz (fun w' h'=>h' ▸ (AtF.move ai aa.step nilM qat).at_) kz kz (qaa (qae (qaa (qaa (qae (qaa qaf)))))) rfl fun bf az=>?_
  refine qaF [8] [(0,.v (.slice A s.length c)),(1,.v (.slice A' t.length c')),(12,.v (.int .i64 ((s.length:Nat):Int))),(13,.v (.int .i64 ((k:Nat):Int))),(24,.v (.bool (((s.getD k 0).toNat:Int) != ((t.getD k 0).toNat:Int))))] 0 (qaa (qae (qaa (qaa (qae (qaa qaf)))))) (fun _ h=>h ▸ aa.cells) rfl az fun bg af=>?_
  refine qaV kz ?_ _
  refine qab ?_
  refine qa6 af (b:=((s.getD k 0).toNat:Int) != ((t.getD k 0).toNat:Int)) kz (fun ag=>?_) (fun ag=>?_)
  ·
   have aM:((s.getD k 0).toNat:Int) ≠ ((t.getD k 0).toNat:Int):=by simpa using ag
   refine qan [(4,.v (.bool false))] aa af fun bh aA=>?_
   refine wp_ret ?_
   refine qcZ ?_
   refine qaP ?_
   refine qaP ?_
   refine qcZ ?_
   refine qaP ?_
   refine qaO aA aa.cells (v:=.bool false) kz ?_
   exact ⟨by first | rw [← qcR hq (by omega) hlen] | rw [← qc9 ‹_›] | rw [← qcQ ‹_›],aa.step⟩
  have aO:((s.getD k 0).toNat:Int) = ((t.getD k 0).toNat:Int):=by simpa using ag
  refine wp_skip ?_
  refine qaU ?_
  refine qab ?_
  refine qaw [0,1] kz ?_
  refine qai [0,1] [] [(0,.v (.slice A s.length c)),(1,.v (.slice A' t.length c')),(12,.v (.int .i64 ((s.length:Nat):Int))),(13,.v (.int .i64 (IntKind.i64.wrap (((k:Nat):Int) + 1))))] aa af fun bi aj=>?_
  refine qad (qab ?_)
  have aB:IntKind.i64.wrap (((k:Nat):Int) + 1) = ((k + 1:Nat):Int):=qbp (by omega)
  rw [aB] at aj
  exact ⟨s.length - (k + 1),by omega,k + 1,rfl,by omega,qd4 hq (by omega) hlen ‹_›,aj.pk,aa,(am.trans ap)⟩
 have aP:=of_decide_eq_false ae
 refine wp_exit ?_
 refine qaE ?_
 refine qaE ?_
 refine qa4 ?_
 refine qab ?_
 refine qan [(4,.v (.bool true))] ab ac fun bj aC=>?_
 refine wp_ret ?_
 refine qaO aC ab.cells (v:=.bool true) kz ?_
 exact ⟨by first | rw [← qcR hq (by omega) hlen] | rw [← qc9 ‹_›] | rw [← qcQ ‹_›],ab.step⟩
theorem qcl (x m:Int) (hx:0 ≤ x) (hx':x < 256) (hm:0 ≤ m) (hm':m < 32768) (w:World):Calls Tryd.prog 7 #[.int .u8 x,.int .i64 m] w (qbv w (.int .i64 (Int.tmod x (m + 1)))):=by
 refine enter (n:=10) Tryd.func7 rfl Tryd.ntmps7 kz fun a hE=>?_
 have hW:=WOk.start w Nil
 refine qan [(0,.v (.int .u8 x)),(1,.v (.int .i64 m))] hW hE fun a1 hE2=>?_
 refine qac [0,1,2,3,4,5] kz ?_
 refine qai [0,1,2,3] [4,5] [(6,.v (.int .i64 (IntKind.i64.wrap x))),(8,.v (.int .i64 (IntKind.i64.wrap (m + 1))))] hW hE2 fun a3 hE4=>?_
 refine qag (qeF hE4 (k:=.i64) (p:=(IntKind.i64.wrap x)) (q:=(IntKind.i64.wrap (m + 1))) (d:=9) kz (by simp only [IntKind.wrap_i64]; omega) fun a5 hE6=>?_)
 refine qai [5] [] [(4,.v (.int .i64 (Int.tmod (IntKind.i64.wrap x) (IntKind.i64.wrap (m + 1)))))] hW hE6 fun a7 hE8=>?_
 refine qad (qab ?_)
 refine wp_ret ?_
 refine qaO hE8 hW.cells (v:=.int .i64 (Int.tmod (IntKind.i64.wrap x) (IntKind.i64.wrap (m + 1)))) kz ?_
 exact ⟨by rw [wrap_i64 (by omega) (by omega),wrap_i64 (by omega) (by omega)],hW.step⟩
end Go.Proofs.YtmpejmiiphddhaaDoorR.ME