/- The texts of a claim, put together: the engine, the contracts, the law. Own work. -/
import Derived.Test.YtdlaobdadlmcdabDoorWt0P2
import Derived.Test.YtdlaobdadlmcdabDoorProg
import Derived.Deep.LoopGhost
namespace Go.Proofs.YtdlaobdadlmcdabDoor.ME
open Go
open Go.RowKit
set_option linter.unusedVariables false
set_option linter.unusedSimpArgs false
set_option maxRecDepth 20000
theorem qlw {A:Option Addr} {c:Nat} (s:Bs) {w:World} {F:Nat → Nat → Prop} (ho:Octs w F A c s) (hl:4 ≤ s.length) :
  Calls Tryd.prog 58 #[.agg #[],.slice A s.length c] w (qbO w (.int .u32 (be32 s))):=by
 refine enter (n:=30) Tryd.func58 rfl Tryd.ntmps58 kz fun a hE=>?_
 have hW:=WOk.start w Nil
 have ob0:=qbu s 0
 have ob1:=qbu s 1
 have ob2:=qbu s 2
 have ob3:=qbu s 3
 refine qag [0,1] kz ?_
 refine qam (qa7 hW hE (d:=2) (cs:=[]) kz fun b1 a2 w3 hb4 hz5 hF6 hW7 hE8=>?_)
 refine qaj [1] [] [(1,.v (.slice A s.length c))] hW7 hE8 fun a9 ah=>?_
 refine qaf (qab ?_)
 refine qag [0,1,2] kz ?_
 refine qaj [0] [1,2] [(1,.v (.slice A s.length c)),(5,.v (.slice A s.length c))] hW7 ah fun aS ai=>?_
 obtain ⟨aF,aG,ac,aH,ab⟩:=Slots.get ho (i:=3) (by omega)
 refine qam (qaC ai (t:=22) (A:=A) (m:=s.length) (q:=3) (d:=6) kz (e:=5) (size:=1) (bytes:=1) (j:=3) kz ac rfl (by omega) fun aT aj=>?_)
 refine qam (qaM aj (t:=5) (b:=aF) (o:=aG + 3 * 1) (d:=7) kz (cs:=[.int .u8 ((s.getD 3 0).toNat:Int)]) (v:=.int .u8 ((s.getD 3 0).toNat:Int)) kz (AtF.move ab hW7.step nilM qaX).at_ fun aU ak=>?_)
 refine qaf (qab ?_)
 refine qbD kz hW7 fun aV aI aa=>?_
 refine qaD [0,4,10,16] [(8,.v (.slice A s.length c)),(12,.v (.slice A s.length c)),(18,.v (.slice A s.length c)),(24,.v (.slice A s.length c))] 19 (qaa qad) (fun _ h=>h ▸ aa.cells) rfl ak fun aW al=>?_
 refine qaH al (i:=1) (t:=22) (A:=A) (m:=s.length) (q:=3) (d:=9) kz (e:=5) (size:=1) (bytes:=1) (j:=3) kz ac rfl (by omega) kz kz (qaa qad) rfl fun aX am=>?_
 refine qaT am (i:=2) (t:=5) (b:=aF) (o:=aG + 3 * 1) (d:=10) kz (cs:=[.int .u8 ((s.getD 3 0).toNat:Int)]) (v:=.int .u8 ((s.getD 3 0).toNat:Int)) kz (fun w' h'=>h' ▸ (AtF.move ab aa.step nilM qaX).at_) kz kz (qaa qad) rfl fun aY ao=>?_
 refine qaD [3] [(11,.v (.int .u32 (IntKind.u32.wrap ((s.getD 3 0).toNat:Int)))),(12,.v (.slice A s.length c)),(18,.v (.slice A s.length c)),(24,.v (.slice A s.length c))] 16 (qaa qad) (fun _ h=>h ▸ aa.cells) rfl ao fun aZ ap=>?_
 obtain ⟨aJ,aK,ar,aL,ae⟩:=Slots.get ho (i:=2) (by omega)
 refine qaH ap (i:=5) (t:=22) (A:=A) (m:=s.length) (q:=2) (d:=13) kz (e:=5) (size:=1) (bytes:=1) (j:=2) kz ar rfl (by omega) kz kz (qaa qad) rfl fun ba au=>?_
 refine qaT au (i:=6) (t:=5) (b:=aJ) (o:=aK + 2 * 1) (d:=14) kz (cs:=[.int .u8 ((s.getD 2 0).toNat:Int)]) (v:=.int .u8 ((s.getD 2 0).toNat:Int)) kz (fun w' h'=>h' ▸ (AtF.move ae aa.step nilM qaX).at_) kz kz (qaa qad) rfl fun bd av=>?_
 refine qaD [7,8,9] [(17,.v (.int .u32 (IntKind.u32.wrap (BitVec.ofInt 32 (IntKind.u32.wrap ((s.getD 3 0).toNat:Int)) ||| BitVec.ofInt 32 (IntKind.u32.wrap ((IntKind.u32.wrap ((s.getD 2 0).toNat:Int)) * 256))).toNat))),(18,.v (.slice A s.length c)),(24,.v (.slice A s.length c))] 11 (qaa qad) (fun _ h=>h ▸ aa.cells) rfl av fun bf aw=>?_
 obtain ⟨aM,aN,ax,aO,af⟩:=Slots.get ho (i:=1) (by omega)
 refine qaH aw (i:=11) (t:=22) (A:=A) (m:=s.length) (q:=1) (d:=19) kz (e:=5) (size:=1) (bytes:=1) (j:=1) kz ax rfl (by omega) kz kz (qaa qad) rfl fun bg ay=>?_
 refine qaT ay (i:=12) (t:=5) (b:=aM) (o:=aN + 1 * 1) (d:=20) kz (cs:=[.int .u8 ((s.getD 1 0).toNat:Int)]) (v:=.int .u8 ((s.getD 1 0).toNat:Int)) kz (fun w' h'=>h' ▸ (AtF.move af aa.step nilM qaX).at_) kz kz (qaa qad) rfl fun bh az=>?_
 refine qaD [13,14,15] [(23,.v (.int .u32 (IntKind.u32.wrap (BitVec.ofInt 32 (IntKind.u32.wrap (BitVec.ofInt 32 (IntKind.u32.wrap ((s.getD 3 0).toNat:Int)) ||| BitVec.ofInt 32 (IntKind.u32.wrap ((IntKind.u32.wrap ((s.getD 2 0).toNat:Int)) * 256))).toNat) ||| BitVec.ofInt 32 (IntKind.u32.wrap ((IntKind.u32.wrap ((s.getD 1 0).toNat:Int)) * 65536))).toNat))),(24,.v (.slice A s.length c))] 6 (qaa qad) (fun _ h=>h ▸ aa.cells) rfl az fun bj aA=>?_
 obtain ⟨aP,aQ,aB,aR,ag⟩:=Slots.get ho (i:=0) (by omega)
 refine qaH aA (i:=17) (t:=22) (A:=A) (m:=s.length) (q:=0) (d:=25) kz (e:=5) (size:=1) (bytes:=1) (j:=0) kz aB rfl (by omega) kz kz (qaa qad) rfl fun bk aC=>?_
 refine qaT aC (i:=18) (t:=5) (b:=aP) (o:=aQ + 0 * 1) (d:=26) kz (cs:=[.int .u8 ((s.getD 0 0).toNat:Int)]) (v:=.int .u8 ((s.getD 0 0).toNat:Int)) kz (fun w' h'=>h' ▸ (AtF.move ag aa.step nilM qaX).at_) kz kz (qaa qad) rfl fun bn aD=>?_
 refine qaD [19,20,21,22] [(4,.v (.int .u32 (IntKind.u32.wrap (BitVec.ofInt 32 (IntKind.u32.wrap (BitVec.ofInt 32 (IntKind.u32.wrap (BitVec.ofInt 32 (IntKind.u32.wrap ((s.getD 3 0).toNat:Int)) ||| BitVec.ofInt 32 (IntKind.u32.wrap ((IntKind.u32.wrap ((s.getD 2 0).toNat:Int)) * 256))).toNat) ||| BitVec.ofInt 32 (IntKind.u32.wrap ((IntKind.u32.wrap ((s.getD 1 0).toNat:Int)) * 65536))).toNat) ||| BitVec.ofInt 32 (IntKind.u32.wrap ((IntKind.u32.wrap ((s.getD 0 0).toNat:Int)) * 16777216))).toNat)))] 0 (qaa qad) (fun _ h=>h ▸ aa.cells) rfl aD fun bo aE=>?_
 refine qaF kz ?_ _
 refine qab ?_
 refine wp_ret ?_
 refine qaJ aE aa.cells (v:=.int .u32 (IntKind.u32.wrap (BitVec.ofInt 32 (IntKind.u32.wrap (BitVec.ofInt 32 (IntKind.u32.wrap (BitVec.ofInt 32 (IntKind.u32.wrap ((s.getD 3 0).toNat:Int)) ||| BitVec.ofInt 32 (IntKind.u32.wrap ((IntKind.u32.wrap ((s.getD 2 0).toNat:Int)) * 256))).toNat) ||| BitVec.ofInt 32 (IntKind.u32.wrap ((IntKind.u32.wrap ((s.getD 1 0).toNat:Int)) * 65536))).toNat) ||| BitVec.ofInt 32 (IntKind.u32.wrap ((IntKind.u32.wrap ((s.getD 0 0).toNat:Int)) * 16777216))).toNat)) kz ?_
 exact ⟨congrArg Ending.returned (congrArg (Value.int IntKind.u32) (qk1 (oc s 0) (oc s 1) (oc s 2) (oc s 3) ob0 ob1 ob2 ob3)),aa.step⟩
theorem qlx {A:Option Addr} {c:Nat} (s:Bs) {w:World} {F:Nat → Nat → Prop} (ho:Octs w F A c s) (hl:8 ≤ s.length) :
  Calls Tryd.prog 66 #[.agg #[],.slice A s.length c] w (qbO w (.int .u64 (be64 s))):=by
 refine enter (n:=54) Tryd.func66 rfl Tryd.ntmps66 kz fun a hE=>?_
 have hW:=WOk.start w Nil
 have ob0:=qbu s 0
 have ob1:=qbu s 1
 have ob2:=qbu s 2
 have ob3:=qbu s 3
 have ob4:=qbu s 4
 have ob5:=qbu s 5
 have ob6:=qbu s 6
 have ob7:=qbu s 7
 refine qag [0,1] kz ?_
 refine qam (qa7 hW hE (d:=2) (cs:=[]) kz fun b1 a2 w3 hb4 hz5 hF6 hW7 hE8=>?_)
 refine qaj [1] [] [(1,.v (.slice A s.length c))] hW7 hE8 fun a9 ar=>?_
 refine qaf (qab ?_)
 refine qag [0,1,2] kz ?_
 refine qaj [0] [1,2] [(1,.v (.slice A s.length c)),(5,.v (.slice A s.length c))] hW7 ar fun bL au=>?_
 obtain ⟨ba,bd,ae,bg,ab⟩:=Slots.get ho (i:=7) (by omega)
 refine qam (qaC au (t:=22) (A:=A) (m:=s.length) (q:=7) (d:=6) kz (e:=5) (size:=1) (bytes:=1) (j:=7) kz ae rfl (by omega) fun bM av=>?_)
 refine qam (qaM av (t:=5) (b:=ba) (o:=bd + 7 * 1) (d:=7) kz (cs:=[.int .u8 ((s.getD 7 0).toNat:Int)]) (v:=.int .u8 ((s.getD 7 0).toNat:Int)) kz (AtF.move ab hW7.step nilM qaX).at_ fun bN aw=>?_)
 refine qaf (qab ?_)
 refine qbD kz hW7 fun bO bh aa=>?_
 refine qaD [0,4,10,16,22,28,34,40] [(8,.v (.slice A s.length c)),(12,.v (.slice A s.length c)),(18,.v (.slice A s.length c)),(24,.v (.slice A s.length c)),(30,.v (.slice A s.length c)),(36,.v (.slice A s.length c)),(42,.v (.slice A s.length c)),(48,.v (.slice A s.length c))] 39 (qaa qad) (fun _ h=>h ▸ aa.cells) rfl aw fun bP ax=>?_
 refine qaH ax (i:=1) (t:=22) (A:=A) (m:=s.length) (q:=7) (d:=9) kz (e:=5) (size:=1) (bytes:=1) (j:=7) kz ae rfl (by omega) kz kz (qaa qad) rfl fun bQ ay=>?_
 refine qaT ay (i:=2) (t:=5) (b:=ba) (o:=bd + 7 * 1) (d:=10) kz (cs:=[.int .u8 ((s.getD 7 0).toNat:Int)]) (v:=.int .u8 ((s.getD 7 0).toNat:Int)) kz (fun w' h'=>h' ▸ (AtF.move ab aa.step nilM qaX).at_) kz kz (qaa qad) rfl fun bR az=>?_
 refine qaD [3] [(11,.v (.int .u64 (IntKind.u64.wrap ((s.getD 7 0).toNat:Int)))),(12,.v (.slice A s.length c)),(18,.v (.slice A s.length c)),(24,.v (.slice A s.length c)),(30,.v (.slice A s.length c)),(36,.v (.slice A s.length c)),(42,.v (.slice A s.length c)),(48,.v (.slice A s.length c))] 36 (qaa qad) (fun _ h=>h ▸ aa.cells) rfl az fun bS aA=>?_
 obtain ⟨bj,bk,aB,bn,af⟩:=Slots.get ho (i:=6) (by omega)
 refine qaH aA (i:=5) (t:=22) (A:=A) (m:=s.length) (q:=6) (d:=13) kz (e:=5) (size:=1) (bytes:=1) (j:=6) kz aB rfl (by omega) kz kz (qaa qad) rfl fun bT aC=>?_
 refine qaT aC (i:=6) (t:=5) (b:=bj) (o:=bk + 6 * 1) (d:=14) kz (cs:=[.int .u8 ((s.getD 6 0).toNat:Int)]) (v:=.int .u8 ((s.getD 6 0).toNat:Int)) kz (fun w' h'=>h' ▸ (AtF.move af aa.step nilM qaX).at_) kz kz (qaa qad) rfl fun bU aD=>?_
 refine qaD [7,8,9] [(17,.v (.int .u64 (IntKind.u64.wrap (BitVec.ofInt 64 (IntKind.u64.wrap ((s.getD 7 0).toNat:Int)) ||| BitVec.ofInt 64 (IntKind.u64.wrap ((IntKind.u64.wrap ((s.getD 6 0).toNat:Int)) * 256))).toNat))),(18,.v (.slice A s.length c)),(24,.v (.slice A s.length c)),(30,.v (.slice A s.length c)),(36,.v (.slice A s.length c)),(42,.v (.slice A s.length c)),(48,.v (.slice A s.length c))] 31 (qaa qad) (fun _ h=>h ▸ aa.cells) rfl aD fun bV aE=>?_
 obtain ⟨bo,bp,aF,bq,ag⟩:=Slots.get ho (i:=5) (by omega)
 refine qaH aE (i:=11) (t:=22) (A:=A) (m:=s.length) (q:=5) (d:=19) kz (e:=5) (size:=1) (bytes:=1) (j:=5) kz aF rfl (by omega) kz kz (qaa qad) rfl fun bW aG=>?_
 refine qaT aG (i:=12) (t:=5) (b:=bo) (o:=bp + 5 * 1) (d:=20) kz (cs:=[.int .u8 ((s.getD 5 0).toNat:Int)]) (v:=.int .u8 ((s.getD 5 0).toNat:Int)) kz (fun w' h'=>h' ▸ (AtF.move ag aa.step nilM qaX).at_) kz kz (qaa qad) rfl fun bX aH=>?_
 refine qaD [13,14,15] [(23,.v (.int .u64 (IntKind.u64.wrap (BitVec.ofInt 64 (IntKind.u64.wrap (BitVec.ofInt 64 (IntKind.u64.wrap ((s.getD 7 0).toNat:Int)) ||| BitVec.ofInt 64 (IntKind.u64.wrap ((IntKind.u64.wrap ((s.getD 6 0).toNat:Int)) * 256))).toNat) ||| BitVec.ofInt 64 (IntKind.u64.wrap ((IntKind.u64.wrap ((s.getD 5 0).toNat:Int)) * 65536))).toNat))),(24,.v (.slice A s.length c)),(30,.v (.slice A s.length c)),(36,.v (.slice A s.length c)),(42,.v (.slice A s.length c)),(48,.v (.slice A s.length c))] 26 (qaa qad) (fun _ h=>h ▸ aa.cells) rfl aH fun bY aI=>?_
 obtain ⟨bt,bu,aJ,bw,ah⟩:=Slots.get ho (i:=4) (by omega)
 refine qaH aI (i:=17) (t:=22) (A:=A) (m:=s.length) (q:=4) (d:=25) kz (e:=5) (size:=1) (bytes:=1) (j:=4) kz aJ rfl (by omega) kz kz (qaa qad) rfl fun bZ aK=>?_
 refine qaT aK (i:=18) (t:=5) (b:=bt) (o:=bu + 4 * 1) (d:=26) kz (cs:=[.int .u8 ((s.getD 4 0).toNat:Int)]) (v:=.int .u8 ((s.getD 4 0).toNat:Int)) kz (fun w' h'=>h' ▸ (AtF.move ah aa.step nilM qaX).at_) kz kz (qaa qad) rfl fun b8 aL=>?_
 refine qaD [19,20,21] [(29,.v (.int .u64 (IntKind.u64.wrap (BitVec.ofInt 64 (IntKind.u64.wrap (BitVec.ofInt 64 (IntKind.u64.wrap (BitVec.ofInt 64 (IntKind.u64.wrap ((s.getD 7 0).toNat:Int)) ||| BitVec.ofInt 64 (IntKind.u64.wrap ((IntKind.u64.wrap ((s.getD 6 0).toNat:Int)) * 256))).toNat) ||| BitVec.ofInt 64 (IntKind.u64.wrap ((IntKind.u64.wrap ((s.getD 5 0).toNat:Int)) * 65536))).toNat) ||| BitVec.ofInt 64 (IntKind.u64.wrap ((IntKind.u64.wrap ((s.getD 4 0).toNat:Int)) * 16777216))).toNat))),(30,.v (.slice A s.length c)),(36,.v (.slice A s.length c)),(42,.v (.slice A s.length c)),(48,.v (.slice A s.length c))] 21 (qaa qad) (fun _ h=>h ▸ aa.cells) rfl aL fun ca aM=>?_
 obtain ⟨bx,bz,aN,bA,ai⟩:=Slots.get ho (i:=3) (by omega)
 refine qaH aM (i:=23) (t:=22) (A:=A) (m:=s.length) (q:=3) (d:=31) kz (e:=5) (size:=1) (bytes:=1) (j:=3) kz aN rfl (by omega) kz kz (qaa qad) rfl fun cb aO=>?_
 refine qaT aO (i:=24) (t:=5) (b:=bx) (o:=bz + 3 * 1) (d:=32) kz (cs:=[.int .u8 ((s.getD 3 0).toNat:Int)]) (v:=.int .u8 ((s.getD 3 0).toNat:Int)) kz (fun w' h'=>h' ▸ (AtF.move ai aa.step nilM qaX).at_) kz kz (qaa qad) rfl fun cc aP=>?_
 refine qaD [25,26,27] [(35,.v (.int .u64 (IntKind.u64.wrap (BitVec.ofInt 64 (IntKind.u64.wrap (BitVec.ofInt 64 (IntKind.u64.wrap (BitVec.ofInt 64 (IntKind.u64.wrap (BitVec.ofInt 64 (IntKind.u64.wrap ((s.getD 7 0).toNat:Int)) ||| BitVec.ofInt 64 (IntKind.u64.wrap ((IntKind.u64.wrap ((s.getD 6 0).toNat:Int)) * 256))).toNat) ||| BitVec.ofInt 64 (IntKind.u64.wrap ((IntKind.u64.wrap ((s.getD 5 0).toNat:Int)) * 65536))).toNat) ||| BitVec.ofInt 64 (IntKind.u64.wrap ((IntKind.u64.wrap ((s.getD 4 0).toNat:Int)) * 16777216))).toNat) ||| BitVec.ofInt 64 (IntKind.u64.wrap ((IntKind.u64.wrap ((s.getD 3 0).toNat:Int)) * 4294967296))).toNat))),(36,.v (.slice A s.length c)),(42,.v (.slice A s.length c)),(48,.v (.slice A s.length c))] 16 (qaa qad) (fun _ h=>h ▸ aa.cells) rfl aP fun cd aQ=>?_
 obtain ⟨bB,bC,aR,bD,aj⟩:=Slots.get ho (i:=2) (by omega)
 refine qaH aQ (i:=29) (t:=22) (A:=A) (m:=s.length) (q:=2) (d:=37) kz (e:=5) (size:=1) (bytes:=1) (j:=2) kz aR rfl (by omega) kz kz (qaa qad) rfl fun ce aS=>?_
 refine qaT aS (i:=30) (t:=5) (b:=bB) (o:=bC + 2 * 1) (d:=38) kz (cs:=[.int .u8 ((s.getD 2 0).toNat:Int)]) (v:=.int .u8 ((s.getD 2 0).toNat:Int)) kz (fun w' h'=>h' ▸ (AtF.move aj aa.step nilM qaX).at_) kz kz (qaa qad) rfl fun cm aT=>?_
 refine qaD [31,32,33] [(41,.v (.int .u64 (IntKind.u64.wrap (BitVec.ofInt 64 (IntKind.u64.wrap (BitVec.ofInt 64 (IntKind.u64.wrap (BitVec.ofInt 64 (IntKind.u64.wrap (BitVec.ofInt 64 (IntKind.u64.wrap (BitVec.ofInt 64 (IntKind.u64.wrap ((s.getD 7 0).toNat:Int)) ||| BitVec.ofInt 64 (IntKind.u64.wrap ((IntKind.u64.wrap ((s.getD 6 0).toNat:Int)) * 256))).toNat) ||| BitVec.ofInt 64 (IntKind.u64.wrap ((IntKind.u64.wrap ((s.getD 5 0).toNat:Int)) * 65536))).toNat) ||| BitVec.ofInt 64 (IntKind.u64.wrap ((IntKind.u64.wrap ((s.getD 4 0).toNat:Int)) * 16777216))).toNat) ||| BitVec.ofInt 64 (IntKind.u64.wrap ((IntKind.u64.wrap ((s.getD 3 0).toNat:Int)) * 4294967296))).toNat) ||| BitVec.ofInt 64 (IntKind.u64.wrap ((IntKind.u64.wrap ((s.getD 2 0).toNat:Int)) * 1099511627776))).toNat))),(42,.v (.slice A s.length c)),(48,.v (.slice A s.length c))] 11 (qaa qad) (fun _ h=>h ▸ aa.cells) rfl aT fun cq aU=>?_
 obtain ⟨bE,bF,aV,bG,ak⟩:=Slots.get ho (i:=1) (by omega)
 refine qaH aU (i:=35) (t:=22) (A:=A) (m:=s.length) (q:=1) (d:=43) kz (e:=5) (size:=1) (bytes:=1) (j:=1) kz aV rfl (by omega) kz kz (qaa qad) rfl fun cr aW=>?_
 refine qaT aW (i:=36) (t:=5) (b:=bE) (o:=bF + 1 * 1) (d:=44) kz (cs:=[.int .u8 ((s.getD 1 0).toNat:Int)]) (v:=.int .u8 ((s.getD 1 0).toNat:Int)) kz (fun w' h'=>h' ▸ (AtF.move ak aa.step nilM qaX).at_) kz kz (qaa qad) rfl fun cu aX=>?_
 refine qaD [37,38,39] [(47,.v (.int .u64 (IntKind.u64.wrap (BitVec.ofInt 64 (IntKind.u64.wrap (BitVec.ofInt 64 (IntKind.u64.wrap (BitVec.ofInt 64 (IntKind.u64.wrap (BitVec.ofInt 64 (IntKind.u64.wrap (BitVec.ofInt 64 (IntKind.u64.wrap (BitVec.ofInt 64 (IntKind.u64.wrap ((s.getD 7 0).toNat:Int)) ||| BitVec.ofInt 64 (IntKind.u64.wrap ((IntKind.u64.wrap ((s.getD 6 0).toNat:Int)) * 256))).toNat) ||| BitVec.ofInt 64 (IntKind.u64.wrap ((IntKind.u64.wrap ((s.getD 5 0).toNat:Int)) * 65536))).toNat) ||| BitVec.ofInt 64 (IntKind.u64.wrap ((IntKind.u64.wrap ((s.getD 4 0).toNat:Int)) * 16777216))).toNat) ||| BitVec.ofInt 64 (IntKind.u64.wrap ((IntKind.u64.wrap ((s.getD 3 0).toNat:Int)) * 4294967296))).toNat) ||| BitVec.ofInt 64 (IntKind.u64.wrap ((IntKind.u64.wrap ((s.getD 2 0).toNat:Int)) * 1099511627776))).toNat) ||| BitVec.ofInt 64 (IntKind.u64.wrap ((IntKind.u64.wrap ((s.getD 1 0).toNat:Int)) * 281474976710656))).toNat))),(48,.v (.slice A s.length c))] 6 (qaa qad) (fun _ h=>h ▸ aa.cells) rfl aX fun cw aY=>?_
 obtain ⟨bH,aZ,al,bf,ac⟩:=Slots.get ho (i:=0) (by omega)
 refine qaH aY (i:=41) (t:=22) (A:=A) (m:=s.length) (q:=0) (d:=49) kz (e:=5) (size:=1) (bytes:=1) (j:=0) kz al rfl (by omega) kz kz (qaa qad) rfl fun bI am=>?_
 refine qaT am (i:=42) (t:=5) (b:=bH) (o:=aZ + 0 * 1) (d:=50) kz (cs:=[.int .u8 ((s.getD 0 0).toNat:Int)]) (v:=.int .u8 ((s.getD 0 0).toNat:Int)) kz (fun w' h'=>h' ▸ (AtF.move ac aa.step nilM qaX).at_) kz kz (qaa qad) rfl fun bJ ao=>?_
 refine qaD [43,44,45,46] [(4,.v (.int .u64 (IntKind.u64.wrap (BitVec.ofInt 64 (IntKind.u64.wrap (BitVec.ofInt 64 (IntKind.u64.wrap (BitVec.ofInt 64 (IntKind.u64.wrap (BitVec.ofInt 64 (IntKind.u64.wrap (BitVec.ofInt 64 (IntKind.u64.wrap (BitVec.ofInt 64 (IntKind.u64.wrap (BitVec.ofInt 64 (IntKind.u64.wrap ((s.getD 7 0).toNat:Int)) ||| BitVec.ofInt 64 (IntKind.u64.wrap ((IntKind.u64.wrap ((s.getD 6 0).toNat:Int)) * 256))).toNat) ||| BitVec.ofInt 64 (IntKind.u64.wrap ((IntKind.u64.wrap ((s.getD 5 0).toNat:Int)) * 65536))).toNat) ||| BitVec.ofInt 64 (IntKind.u64.wrap ((IntKind.u64.wrap ((s.getD 4 0).toNat:Int)) * 16777216))).toNat) ||| BitVec.ofInt 64 (IntKind.u64.wrap ((IntKind.u64.wrap ((s.getD 3 0).toNat:Int)) * 4294967296))).toNat) ||| BitVec.ofInt 64 (IntKind.u64.wrap ((IntKind.u64.wrap ((s.getD 2 0).toNat:Int)) * 1099511627776))).toNat) ||| BitVec.ofInt 64 (IntKind.u64.wrap ((IntKind.u64.wrap ((s.getD 1 0).toNat:Int)) * 281474976710656))).toNat) ||| BitVec.ofInt 64 (IntKind.u64.wrap ((IntKind.u64.wrap ((s.getD 0 0).toNat:Int)) * 72057594037927936))).toNat)))] 0 (qaa qad) (fun _ h=>h ▸ aa.cells) rfl ao fun bK ap=>?_
 refine qaF kz ?_ _
 refine qab ?_
 refine wp_ret ?_
 refine qaJ ap aa.cells (v:=.int .u64 (IntKind.u64.wrap (BitVec.ofInt 64 (IntKind.u64.wrap (BitVec.ofInt 64 (IntKind.u64.wrap (BitVec.ofInt 64 (IntKind.u64.wrap (BitVec.ofInt 64 (IntKind.u64.wrap (BitVec.ofInt 64 (IntKind.u64.wrap (BitVec.ofInt 64 (IntKind.u64.wrap (BitVec.ofInt 64 (IntKind.u64.wrap ((s.getD 7 0).toNat:Int)) ||| BitVec.ofInt 64 (IntKind.u64.wrap ((IntKind.u64.wrap ((s.getD 6 0).toNat:Int)) * 256))).toNat) ||| BitVec.ofInt 64 (IntKind.u64.wrap ((IntKind.u64.wrap ((s.getD 5 0).toNat:Int)) * 65536))).toNat) ||| BitVec.ofInt 64 (IntKind.u64.wrap ((IntKind.u64.wrap ((s.getD 4 0).toNat:Int)) * 16777216))).toNat) ||| BitVec.ofInt 64 (IntKind.u64.wrap ((IntKind.u64.wrap ((s.getD 3 0).toNat:Int)) * 4294967296))).toNat) ||| BitVec.ofInt 64 (IntKind.u64.wrap ((IntKind.u64.wrap ((s.getD 2 0).toNat:Int)) * 1099511627776))).toNat) ||| BitVec.ofInt 64 (IntKind.u64.wrap ((IntKind.u64.wrap ((s.getD 1 0).toNat:Int)) * 281474976710656))).toNat) ||| BitVec.ofInt 64 (IntKind.u64.wrap ((IntKind.u64.wrap ((s.getD 0 0).toNat:Int)) * 72057594037927936))).toNat)) kz ?_
 exact ⟨congrArg Ending.returned (congrArg (Value.int IntKind.u64) (qk2 (oc s 0) (oc s 1) (oc s 2) (oc s 3) (oc s 4) (oc s 5) (oc s 6) (oc s 7) ob0 ob1 ob2 ob3 ob4 ob5 ob6 ob7)),aa.step⟩
theorem qk6 (x:Int) (rest:Bs)  {br:Nat} {A:Option Addr} {m c:Nat} {w:World} {F:Nat → Nat → Prop} (hst:Str w br [.slice A m c,.bool false]) (hr:RdS w F A m c (be 4 x ++ rest)) (hFd:∀ b o,F b o → ¬ RdM br b o) :
  Calls Tryd.prog 43 #[.pointer (some ⟨br,0,none⟩)] w (RdPost w br F rest fun v w'=>v = .int .i32 (IntKind.i32.wrap x)):=by
 obtain ⟨hm,ho⟩:=hr
 subst hm
 have hle:=ho.le
 refine enter (n:=32) Tryd.func43 rfl Tryd.ntmps43 kz fun a hE=>?_
 have hW:WOk w (RdM br) w [⟨br,0,[.slice A ((be 4 x ++ rest).length) c,.bool false],true⟩] []:=WOk.startStr hst
 have hE1:=(hE.grow ⟨br,0,[.slice A ((be 4 x ++ rest).length) c,.bool false],true⟩).recast 0 (.v (.pointer (some ⟨br,0,none⟩))) (.p 0 0) rfl rfl (Nat.le_of_ble_eq_true (n:=1) rfl)
 refine qar [(0,.p 0 0)] hW hE1 fun a1 hE2=>?_
 refine wp_seq ?_
 refine qar [(0,.p 0 0),(9,.v (.bool (decide ((((be 4 x ++ rest).length:Nat):Int) < 4))))] hW hE2 fun a3 hE4=>?_
 refine qap hE4 (b:=decide ((((be 4 x ++ rest).length:Nat):Int) < 4)) kz (decide_eq_false (by first | omega | (simp only [List.length_append,be_length,List.length_cons,List.length_nil] at *; omega))) ?_
 refine wp_skip ?_
 refine qab ?_
 refine qaG 7 kz hW fun w5 hF6 hW7 hT8=>?_
 refine qaD [1,2,3,4] [(0,.p 0 0),(20,.v (.slice A ((be 4 x ++ rest).length) c))] 4 (qaa qad) (fun _ h=>h.cells) hT8 hE4 fun a9 af=>?_
 refine qaT af (i:=0) (t:=111) (b:=0) (o:=0) (d:=16) kz (cs:=[]) (v:=.agg #[]) kz (fun w' h'=>(fun j_ v_ h_=>by simp at h_)) kz kz (qaa qad) hT8 fun av ag=>?_
 refine qaw (i:=5) kz (qal ag (f:=58) (vs:=[.agg #[],.slice A ((be 4 x ++ rest).length) c]) (d:=21) kz Tryd.call58 (qlw _ (ho.move hW7.step (fun b_ o_ h_ _=>hFd b_ o_ h_) (hW7.immM hFd)) (by first | omega | (simp only [List.length_append,be_length,List.length_cons,List.length_nil] at *; omega))) ?_)
 rintro e_ aw ⟨rfl,ac⟩
 refine ⟨_,rfl,fun ax ah=>?_⟩
 have aa:=hW7.next_nil ac
 have ai:=hW7.frN ac
 have ae:=TT.ofW ai aa
 refine ⟨fun _=>ae,?_⟩
 refine qaD [6] [(0,.p 0 0),(22,.v (.int .i32 (IntKind.i32.wrap (be32 (be 4 x ++ rest)))))] 1 (qaa qad) (fun _ h=>h.cells) ae ah fun ay aj=>?_
 refine qaw (i:=7) kz (qa9 [0,3] aa.cells aj (env':=[(0,.p 0 0),(3,.v (.int .i32 (IntKind.i32.wrap (be32 (be 4 x ++ rest)))))]) kz fun az ak=>?_)
 refine ⟨fun h=>absurd rfl h,?_⟩
 refine qaF kz ?_ _
 refine qab ?_
 refine qag [0,1,2,3,4,5,6,7,8] kz ?_
 refine qaj [0,1,2,3,4] [5,6,7,8] [(3,.v (.int .i32 (IntKind.i32.wrap (be32 (be 4 x ++ rest))))),(23,.p 0 0),(27,.v (.slice A ((be 4 x ++ rest).length) c))] aa ak fun aA al=>?_
 refine qam (qcp al (t:=22) (A:=A) (m:=((be 4 x ++ rest).length)) (cp:=c) (q:=4) (d:=28) (j:=4) kz (e:=5) (bytes:=1) kz (rfl) (by first | omega | (simp only [List.length_append,be_length,List.length_cons,List.length_nil] at *; omega)) fun aB am=>?_)
 refine qaj [6,7] [8] [(3,.v (.int .i32 (IntKind.i32.wrap (be32 (be 4 x ++ rest))))),(28,.v (.slice (cutA A c 4) (((be 4 x ++ rest).length) - 4) (c - 4))),(30,.p 0 0)] aa am fun aC ao=>?_
 refine qam (qav aa ao (oi:=0) (cs:=[.slice (cutA A c 4) (((be 4 x ++ rest).length) - 4) (c - 4),.bool false]) kz fun aD au ab ap=>?_)
 refine qaf (qab ?_)
 refine qar [(2,.v (.int .i32 (IntKind.i32.wrap (be32 (be 4 x ++ rest)))))] ab ap fun aE ar=>?_
 refine wp_ret ?_
 refine qaJ ar ab.cells (v:=.int .i32 (IntKind.i32.wrap (be32 (be 4 x ++ rest)))) kz ?_
 exact ⟨_,_,_,_,rfl,Str.of ab 0 rfl,RdS.drop (s:=be 4 x) ⟨rfl,ho.move ab.step (fun b_ o_ h_ _=>hFd b_ o_ h_) qaX⟩ (by simp only [be_length,List.length_cons,List.length_nil]),ab.step,by rw [qkv,qkx]⟩
theorem qkB (x:Int) (rest:Bs)  {br:Nat} {A:Option Addr} {m c:Nat} {w:World} {F:Nat → Nat → Prop} (hst:Str w br [.slice A m c,.bool false]) (hr:RdS w F A m c (be 8 x ++ rest)) (hFd:∀ b o,F b o → ¬ RdM br b o) :
  Calls Tryd.prog 59 #[.pointer (some ⟨br,0,none⟩)] w (RdPost w br F rest fun v w'=>v = .int .u64 (IntKind.u64.wrap x)):=by
 obtain ⟨hm,ho⟩:=hr
 subst hm
 have hle:=ho.le
 refine enter (n:=31) Tryd.func59 rfl Tryd.ntmps59 kz fun a hE=>?_
 have hW:WOk w (RdM br) w [⟨br,0,[.slice A ((be 8 x ++ rest).length) c,.bool false],true⟩] []:=WOk.startStr hst
 have hE1:=(hE.grow ⟨br,0,[.slice A ((be 8 x ++ rest).length) c,.bool false],true⟩).recast 0 (.v (.pointer (some ⟨br,0,none⟩))) (.p 0 0) rfl rfl (Nat.le_of_ble_eq_true (n:=1) rfl)
 refine qar [(0,.p 0 0)] hW hE1 fun a1 hE2=>?_
 refine wp_seq ?_
 refine qar [(0,.p 0 0),(9,.v (.bool (decide ((((be 8 x ++ rest).length:Nat):Int) < 8))))] hW hE2 fun a3 hE4=>?_
 refine qap hE4 (b:=decide ((((be 8 x ++ rest).length:Nat):Int) < 8)) kz (decide_eq_false (by first | omega | (simp only [List.length_append,be_length,List.length_cons,List.length_nil] at *; omega))) ?_
 refine wp_skip ?_
 refine qab ?_
 refine qaG 6 kz hW fun w5 hF6 hW7 hT8=>?_
 refine qaD [1,2,3,4] [(0,.p 0 0),(20,.v (.slice A ((be 8 x ++ rest).length) c))] 3 (qaa qad) (fun _ h=>h.cells) hT8 hE4 fun a9 ae=>?_
 refine qaT ae (i:=0) (t:=111) (b:=0) (o:=0) (d:=16) kz (cs:=[]) (v:=.agg #[]) kz (fun w' h'=>(fun j_ v_ h_=>by simp at h_)) kz kz (qaa qad) hT8 fun au af=>?_
 refine qaw (i:=5) kz (qal af (f:=66) (vs:=[.agg #[],.slice A ((be 8 x ++ rest).length) c]) (d:=21) kz Tryd.call66 (qlx _ (ho.move hW7.step (fun b_ o_ h_ _=>hFd b_ o_ h_) (hW7.immM hFd)) (by first | omega | (simp only [List.length_append,be_length,List.length_cons,List.length_nil] at *; omega))) ?_)
 rintro e_ av ⟨rfl,ac⟩
 refine ⟨_,rfl,fun aw ag=>?_⟩
 have aa:=hW7.next_nil ac
 have ah:=hW7.frN ac
 have ai:=TT.ofW ah aa
 refine ⟨fun _=>ai,?_⟩
 refine qaw (i:=6) kz (qa9 [0,3] aa.cells ag (env':=[(0,.p 0 0),(3,.v (.int .u64 (be64 (be 8 x ++ rest))))]) kz fun ax aj=>?_)
 refine ⟨fun h=>absurd rfl h,?_⟩
 refine qaF kz ?_ _
 refine qab ?_
 refine qag [0,1,2,3,4,5,6,7,8] kz ?_
 refine qaj [0,1,2,3,4] [5,6,7,8] [(3,.v (.int .u64 (be64 (be 8 x ++ rest)))),(22,.p 0 0),(26,.v (.slice A ((be 8 x ++ rest).length) c))] aa aj fun ay ak=>?_
 refine qam (qcp ak (t:=22) (A:=A) (m:=((be 8 x ++ rest).length)) (cp:=c) (q:=8) (d:=27) (j:=8) kz (e:=5) (bytes:=1) kz (rfl) (by first | omega | (simp only [List.length_append,be_length,List.length_cons,List.length_nil] at *; omega)) fun az al=>?_)
 refine qaj [6,7] [8] [(3,.v (.int .u64 (be64 (be 8 x ++ rest)))),(27,.v (.slice (cutA A c 8) (((be 8 x ++ rest).length) - 8) (c - 8))),(29,.p 0 0)] aa al fun aA am=>?_
 refine qam (qav aa am (oi:=0) (cs:=[.slice (cutA A c 8) (((be 8 x ++ rest).length) - 8) (c - 8),.bool false]) kz fun aB ar ab ao=>?_)
 refine qaf (qab ?_)
 refine qar [(2,.v (.int .u64 (be64 (be 8 x ++ rest))))] ab ao fun aC ap=>?_
 refine wp_ret ?_
 refine qaJ ap ab.cells (v:=.int .u64 (be64 (be 8 x ++ rest))) kz ?_
 exact ⟨_,_,_,_,rfl,Str.of ab 0 rfl,RdS.drop (s:=be 8 x) ⟨rfl,ho.move ab.step (fun b_ o_ h_ _=>hFd b_ o_ h_) qaX⟩ (by simp only [be_length,List.length_cons,List.length_nil]),ab.step,by rw [qkw]⟩
theorem qly (y:Bool) (rest:Bs)  {br:Nat} {A:Option Addr} {m c:Nat} {w:World} {F:Nat → Nat → Prop} (hst:Str w br [.slice A m c,.bool false]) (hr:RdS w F A m c ([by8 (if y then 1 else 0)] ++ rest)) (hFd:∀ b o,F b o → ¬ RdM br b o) :
  Calls Tryd.prog 45 #[.pointer (some ⟨br,0,none⟩)] w (RdPost w br F rest fun v w'=>v = .bool y):=by
 obtain ⟨hm,ho⟩:=hr
 subst hm
 have hle:=ho.le
 refine enter (n:=32) Tryd.func45 rfl Tryd.ntmps45 kz fun a hE=>?_
 have hW:WOk w (RdM br) w [⟨br,0,[.slice A (([by8 (if y then 1 else 0)] ++ rest).length) c,.bool false],true⟩] []:=WOk.startStr hst
 have hE1:=(hE.grow ⟨br,0,[.slice A (([by8 (if y then 1 else 0)] ++ rest).length) c,.bool false],true⟩).recast 0 (.v (.pointer (some ⟨br,0,none⟩))) (.p 0 0) rfl rfl (Nat.le_of_ble_eq_true (n:=1) rfl)
 refine qar [(0,.p 0 0)] hW hE1 fun a1 hE2=>?_
 refine wp_seq ?_
 refine qar [(0,.p 0 0),(9,.v (.bool (decide (((([by8 (if y then 1 else 0)] ++ rest).length:Nat):Int) < 1))))] hW hE2 fun a3 hE4=>?_
 refine qap hE4 (b:=decide (((([by8 (if y then 1 else 0)] ++ rest).length:Nat):Int) < 1)) kz (decide_eq_false (by first | omega | (simp only [List.length_append,be_length,List.length_cons,List.length_nil] at *; omega))) ?_
 refine wp_skip ?_
 refine qab ?_
 refine qag [0,1,2,3,4,5,6,7] kz ?_
 refine qaj [0,1,2,3] [4,5,6,7] [(0,.p 0 0),(19,.v (.slice A (([by8 (if y then 1 else 0)] ++ rest).length) c))] hW hE4 fun a5 hE6=>?_
 obtain ⟨b7,o8,hA9,al,ab⟩:=Slots.get ho (i:=0) (by first | omega | (simp only [List.length_append,be_length,List.length_cons,List.length_nil] at *; omega))
 refine qam (qaC hE6 (t:=22) (A:=A) (m:=(([by8 (if y then 1 else 0)] ++ rest).length)) (q:=0) (d:=20) kz (e:=5) (size:=1) (bytes:=1) (j:=0) kz hA9 rfl (by first | omega | (simp only [List.length_append,be_length,List.length_cons,List.length_nil] at *; omega)) fun ao ac=>?_)
 refine qam (qaM ac (t:=5) (b:=b7) (o:=o8 + 0 * 1) (d:=21) kz (cs:=[.int .u8 ((([by8 (if y then 1 else 0)] ++ rest).getD 0 0).toNat:Int)]) (v:=.int .u8 ((([by8 (if y then 1 else 0)] ++ rest).getD 0 0).toNat:Int)) kz (AtF.move ab hW.step (fun b_ o_ h_ _=>hFd b_ o_ h_) qaX).at_ fun ap ae=>?_)
 refine qaj [6,7] [] [(0,.p 0 0),(3,.v (.bool (((([by8 (if y then 1 else 0)] ++ rest).getD 0 0).toNat:Int) != 0)))] hW ae fun ar af=>?_
 refine qaf (qab ?_)
 refine qag [0,1,2,3,4,5,6,7,8] kz ?_
 refine qaj [0,1,2,3,4] [5,6,7,8] [(3,.v (.bool (((([by8 (if y then 1 else 0)] ++ rest).getD 0 0).toNat:Int) != 0))),(23,.p 0 0),(27,.v (.slice A (([by8 (if y then 1 else 0)] ++ rest).length) c))] hW af fun au ag=>?_
 refine qam (qcp ag (t:=22) (A:=A) (m:=(([by8 (if y then 1 else 0)] ++ rest).length)) (cp:=c) (q:=1) (d:=28) (j:=1) kz (e:=5) (bytes:=1) kz (rfl) (by first | omega | (simp only [List.length_append,be_length,List.length_cons,List.length_nil] at *; omega)) fun av ah=>?_)
 refine qaj [6,7] [8] [(3,.v (.bool (((([by8 (if y then 1 else 0)] ++ rest).getD 0 0).toNat:Int) != 0))),(28,.v (.slice (cutA A c 1) ((([by8 (if y then 1 else 0)] ++ rest).length) - 1) (c - 1))),(30,.p 0 0)] hW ah fun aw ai=>?_
 refine qam (qav hW ai (oi:=0) (cs:=[.slice (cutA A c 1) ((([by8 (if y then 1 else 0)] ++ rest).length) - 1) (c - 1),.bool false]) kz fun ax am aa aj=>?_)
 refine qaf (qab ?_)
 refine qar [(2,.v (.bool (((([by8 (if y then 1 else 0)] ++ rest).getD 0 0).toNat:Int) != 0)))] aa aj fun ay ak=>?_
 refine wp_ret ?_
 refine qaJ ak aa.cells (v:=.bool (((([by8 (if y then 1 else 0)] ++ rest).getD 0 0).toNat:Int) != 0)) kz ?_
 exact ⟨_,_,_,_,rfl,Str.of aa 0 rfl,RdS.drop (s:=[by8 (if y then 1 else 0)]) ⟨rfl,ho.move aa.step (fun b_ o_ h_ _=>hFd b_ o_ h_) qaX⟩ (by simp only [be_length,List.length_cons,List.length_nil]),aa.step,by cases y <;> rfl⟩
theorem rUv1 {A:Option Addr} {c:Nat} (s:Bs) {w:World} {F:Nat → Nat → Prop} (ho:Octs w F A c s) (hl:1 ≤ s.length) (d0:Nat) (h0:oc s 0 = d0) (g0:d0 < 128) :
  Calls Tryd.prog 60 #[.slice A s.length c] w (qbO w (.tuple #[.int .u32 ((d0:Nat):Int),.int .i64 1])):=by
 refine enter (n:=87) Tryd.func60 rfl Tryd.ntmps60 kz fun a hE=>?_
 have hW:=WOk.start w Nil
 refine qar [(0,.v (.slice A s.length c))] hW hE fun a1 hE2=>?_
 refine wp_scope_straight ?_
 refine qar [(0,.v (.slice A s.length c))] hW hE2 fun a3 hE4=>?_
 refine qar [(0,.v (.slice A s.length c))] hW hE4 fun a5 hE6=>?_
 refine wp_seq ?_
 refine qar [(0,.v (.slice A s.length c)),(8,.v (.bool (decide (((s.length:Nat):Int) < 1))))] hW hE6 fun a7 hE8=>?_
 refine qap hE8 (b:=decide (((s.length:Nat):Int) < 1)) kz (decide_eq_false (by omega)) ?_
 refine wp_skip ?_
 refine qab ?_
 refine qag [0,1,2,3,4,5] kz ?_
 refine qaj [0] [1,2,3,4,5] [(0,.v (.slice A s.length c)),(9,.v (.slice A s.length c))] hW hE8 fun a9 ae=>?_
 obtain ⟨am,ao,ab,ap,aa⟩:=Slots.get ho (i:=0) (by first | omega | (simp only [List.length_append,be_length,List.length_cons,List.length_nil] at *; omega))
 refine qam (qaC ae (t:=22) (A:=A) (m:=s.length) (q:=0) (d:=10) kz (e:=5) (size:=1) (bytes:=1) (j:=0) kz ab rfl (by first | omega | (simp only [List.length_append,be_length,List.length_cons,List.length_nil] at *; omega)) fun ar af=>?_)
 refine qam (qaM af (t:=5) (b:=am) (o:=ao + 0 * 1) (d:=11) kz (cs:=[.int .u8 ((s.getD 0 0).toNat:Int)]) (v:=.int .u8 ((s.getD 0 0).toNat:Int)) kz (AtF.move aa hW.step nilM qaX).at_ fun au ag=>?_)
 refine qaj [3,4,5] [] [(0,.v (.slice A s.length c)),(4,.v (.int .u32 (IntKind.u32.wrap (IntKind.u8.wrap (BitVec.ofInt 8 ((s.getD 0 0).toNat:Int) &&& BitVec.ofInt 8 127).toNat))))] hW ag fun av ah=>?_
 refine qaf (qab ?_)
 refine wp_seq ?_
 refine qag [0,1,2,3,4] kz ?_
 refine qaj [0] [1,2,3,4] [(0,.v (.slice A s.length c)),(4,.v (.int .u32 (IntKind.u32.wrap (IntKind.u8.wrap (BitVec.ofInt 8 ((s.getD 0 0).toNat:Int) &&& BitVec.ofInt 8 127).toNat)))),(14,.v (.slice A s.length c))] hW ah fun aw ai=>?_
 refine qam (qaC ai (t:=22) (A:=A) (m:=s.length) (q:=0) (d:=15) kz (e:=5) (size:=1) (bytes:=1) (j:=0) kz ab rfl (by first | omega | (simp only [List.length_append,be_length,List.length_cons,List.length_nil] at *; omega)) fun ax aj=>?_)
 refine qam (qaM aj (t:=5) (b:=am) (o:=ao + 0 * 1) (d:=16) kz (cs:=[.int .u8 ((s.getD 0 0).toNat:Int)]) (v:=.int .u8 ((s.getD 0 0).toNat:Int)) kz (AtF.move aa hW.step nilM qaX).at_ fun ay ak=>?_)
 refine qaj [3,4] [] [(0,.v (.slice A s.length c)),(4,.v (.int .u32 (IntKind.u32.wrap (IntKind.u8.wrap (BitVec.ofInt 8 ((s.getD 0 0).toNat:Int) &&& BitVec.ofInt 8 127).toNat)))),(18,.v (.bool ((IntKind.u8.wrap (BitVec.ofInt 8 ((s.getD 0 0).toNat:Int) &&& BitVec.ofInt 8 128).toNat) == 0)))] hW ak fun az ac=>?_
 refine qaf (qab ?_)
 refine qaU ac (b:=(IntKind.u8.wrap (BitVec.ofInt 8 ((s.getD 0 0).toNat:Int) &&& BitVec.ofInt 8 128).toNat) == 0) kz ((qcx _ (qbu s 0)).trans (decide_eq_true (by have:=h0; unfold oc at this; omega))) ?_
 refine qar [(2,.v (.int .u32 (IntKind.u32.wrap (IntKind.u8.wrap (BitVec.ofInt 8 ((s.getD 0 0).toNat:Int) &&& BitVec.ofInt 8 127).toNat)))),(3,.v (.int .i64 1))] hW ac fun aA al=>?_
 refine wp_ret ?_
 refine qao ?_
 refine qc7 ?_
 refine qaJ al hW.cells (v:=.tuple #[.int .u32 (IntKind.u32.wrap (IntKind.u8.wrap (BitVec.ofInt 8 ((s.getD 0 0).toNat:Int) &&& BitVec.ofInt 8 127).toNat)),.int .i64 1]) kz ?_
 have e_:=uv_1 (oc s 0) (qbu s 0)
 refine ⟨congrArg (fun z_:Int=>Ending.returned (.tuple #[.int .u32 z_,.int .i64 1])) (Eq.trans e_ ?_),hW.step⟩
 omega
theorem rUv2 {A:Option Addr} {c:Nat} (s:Bs) {w:World} {F:Nat → Nat → Prop} (ho:Octs w F A c s) (hl:2 ≤ s.length) (d0 d1:Nat) (h0:oc s 0 = d0 + 128) (h1:oc s 1 = d1) (g0:d0 < 128) (g1:d1 < 128) :
  Calls Tryd.prog 60 #[.slice A s.length c] w (qbO w (.tuple #[.int .u32 ((d0 + d1 * 128:Nat):Int),.int .i64 2])):=by
 refine enter (n:=87) Tryd.func60 rfl Tryd.ntmps60 kz fun a hE=>?_
 have hW:=WOk.start w Nil
 refine qar [(0,.v (.slice A s.length c))] hW hE fun a1 hE2=>?_
 refine wp_scope_straight ?_
 refine qar [(0,.v (.slice A s.length c))] hW hE2 fun a3 hE4=>?_
 refine qar [(0,.v (.slice A s.length c))] hW hE4 fun a5 hE6=>?_
 refine wp_seq ?_
 refine qar [(0,.v (.slice A s.length c)),(8,.v (.bool (decide (((s.length:Nat):Int) < 1))))] hW hE6 fun a7 hE8=>?_
 refine qap hE8 (b:=decide (((s.length:Nat):Int) < 1)) kz (decide_eq_false (by omega)) ?_
 refine wp_skip ?_
 refine qab ?_
 refine qag [0,1,2,3,4,5] kz ?_
 refine qaj [0] [1,2,3,4,5] [(0,.v (.slice A s.length c)),(9,.v (.slice A s.length c))] hW hE8 fun a9 ai=>?_
 obtain ⟨aB,aC,ac,aF,aa⟩:=Slots.get ho (i:=0) (by first | omega | (simp only [List.length_append,be_length,List.length_cons,List.length_nil] at *; omega))
 refine qam (qaC ai (t:=22) (A:=A) (m:=s.length) (q:=0) (d:=10) kz (e:=5) (size:=1) (bytes:=1) (j:=0) kz ac rfl (by first | omega | (simp only [List.length_append,be_length,List.length_cons,List.length_nil] at *; omega)) fun aH aj=>?_)
 refine qam (qaM aj (t:=5) (b:=aB) (o:=aC + 0 * 1) (d:=11) kz (cs:=[.int .u8 ((s.getD 0 0).toNat:Int)]) (v:=.int .u8 ((s.getD 0 0).toNat:Int)) kz (AtF.move aa hW.step nilM qaX).at_ fun aI ak=>?_)
 refine qaj [3,4,5] [] [(0,.v (.slice A s.length c)),(4,.v (.int .u32 (IntKind.u32.wrap (IntKind.u8.wrap (BitVec.ofInt 8 ((s.getD 0 0).toNat:Int) &&& BitVec.ofInt 8 127).toNat))))] hW ak fun aJ al=>?_
 refine qaf (qab ?_)
 refine wp_seq ?_
 refine qag [0,1,2,3,4] kz ?_
 refine qaj [0] [1,2,3,4] [(0,.v (.slice A s.length c)),(4,.v (.int .u32 (IntKind.u32.wrap (IntKind.u8.wrap (BitVec.ofInt 8 ((s.getD 0 0).toNat:Int) &&& BitVec.ofInt 8 127).toNat)))),(14,.v (.slice A s.length c))] hW al fun aK am=>?_
 refine qam (qaC am (t:=22) (A:=A) (m:=s.length) (q:=0) (d:=15) kz (e:=5) (size:=1) (bytes:=1) (j:=0) kz ac rfl (by first | omega | (simp only [List.length_append,be_length,List.length_cons,List.length_nil] at *; omega)) fun aL ao=>?_)
 refine qam (qaM ao (t:=5) (b:=aB) (o:=aC + 0 * 1) (d:=16) kz (cs:=[.int .u8 ((s.getD 0 0).toNat:Int)]) (v:=.int .u8 ((s.getD 0 0).toNat:Int)) kz (AtF.move aa hW.step nilM qaX).at_ fun aM ap=>?_)
 refine qaj [3,4] [] [(0,.v (.slice A s.length c)),(4,.v (.int .u32 (IntKind.u32.wrap (IntKind.u8.wrap (BitVec.ofInt 8 ((s.getD 0 0).toNat:Int) &&& BitVec.ofInt 8 127).toNat)))),(18,.v (.bool ((IntKind.u8.wrap (BitVec.ofInt 8 ((s.getD 0 0).toNat:Int) &&& BitVec.ofInt 8 128).toNat) == 0)))] hW ap fun aN ae=>?_
 refine qaf (qab ?_)
 refine qap ae (b:=(IntKind.u8.wrap (BitVec.ofInt 8 ((s.getD 0 0).toNat:Int) &&& BitVec.ofInt 8 128).toNat) == 0) kz ((qcx _ (qbu s 0)).trans (decide_eq_false (by have:=h0; unfold oc at this; omega))) ?_
 refine qar [(0,.v (.slice A s.length c)),(4,.v (.int .u32 (IntKind.u32.wrap (IntKind.u8.wrap (BitVec.ofInt 8 ((s.getD 0 0).toNat:Int) &&& BitVec.ofInt 8 127).toNat)))),(22,.v (.bool (decide (((s.length:Nat):Int) < 2))))] hW ae fun aO af=>?_
 refine qap af (b:=decide (((s.length:Nat):Int) < 2)) kz (decide_eq_false (by omega)) ?_
 refine wp_skip ?_
 refine qab ?_
 refine qag [0,1,2,3,4,5,6,7,8] kz ?_
 refine qaj [0,1] [2,3,4,5,6,7,8] [(0,.v (.slice A s.length c)),(23,.v (.int .u32 (IntKind.u32.wrap (IntKind.u8.wrap (BitVec.ofInt 8 ((s.getD 0 0).toNat:Int) &&& BitVec.ofInt 8 127).toNat)))),(24,.v (.slice A s.length c))] hW af fun aP ar=>?_
 obtain ⟨aD,aE,ag,aG,ab⟩:=Slots.get ho (i:=1) (by first | omega | (simp only [List.length_append,be_length,List.length_cons,List.length_nil] at *; omega))
 refine qam (qaC ar (t:=22) (A:=A) (m:=s.length) (q:=1) (d:=25) kz (e:=5) (size:=1) (bytes:=1) (j:=1) kz ag rfl (by first | omega | (simp only [List.length_append,be_length,List.length_cons,List.length_nil] at *; omega)) fun aQ au=>?_)
 refine qam (qaM au (t:=5) (b:=aD) (o:=aE + 1 * 1) (d:=26) kz (cs:=[.int .u8 ((s.getD 1 0).toNat:Int)]) (v:=.int .u8 ((s.getD 1 0).toNat:Int)) kz (AtF.move ab hW.step nilM qaX).at_ fun aR av=>?_)
 refine qaj [4,5,6,7,8] [] [(0,.v (.slice A s.length c)),(4,.v (.int .u32 (IntKind.u32.wrap (BitVec.ofInt 32 (IntKind.u32.wrap (IntKind.u8.wrap (BitVec.ofInt 8 ((s.getD 0 0).toNat:Int) &&& BitVec.ofInt 8 127).toNat)) ||| BitVec.ofInt 32 (IntKind.u32.wrap ((IntKind.u32.wrap (IntKind.u8.wrap (BitVec.ofInt 8 ((s.getD 1 0).toNat:Int) &&& BitVec.ofInt 8 127).toNat)) * 128))).toNat)))] hW av fun aS aw=>?_
 refine qaf (qab ?_)
 refine wp_seq ?_
 refine qag [0,1,2,3,4] kz ?_
 refine qaj [0] [1,2,3,4] [(0,.v (.slice A s.length c)),(4,.v (.int .u32 (IntKind.u32.wrap (BitVec.ofInt 32 (IntKind.u32.wrap (IntKind.u8.wrap (BitVec.ofInt 8 ((s.getD 0 0).toNat:Int) &&& BitVec.ofInt 8 127).toNat)) ||| BitVec.ofInt 32 (IntKind.u32.wrap ((IntKind.u32.wrap (IntKind.u8.wrap (BitVec.ofInt 8 ((s.getD 1 0).toNat:Int) &&& BitVec.ofInt 8 127).toNat)) * 128))).toNat))),(31,.v (.slice A s.length c))] hW aw fun aT ax=>?_
 refine qam (qaC ax (t:=22) (A:=A) (m:=s.length) (q:=1) (d:=32) kz (e:=5) (size:=1) (bytes:=1) (j:=1) kz ag rfl (by first | omega | (simp only [List.length_append,be_length,List.length_cons,List.length_nil] at *; omega)) fun aU ay=>?_)
 refine qam (qaM ay (t:=5) (b:=aD) (o:=aE + 1 * 1) (d:=33) kz (cs:=[.int .u8 ((s.getD 1 0).toNat:Int)]) (v:=.int .u8 ((s.getD 1 0).toNat:Int)) kz (AtF.move ab hW.step nilM qaX).at_ fun aV az=>?_)
 refine qaj [3,4] [] [(0,.v (.slice A s.length c)),(4,.v (.int .u32 (IntKind.u32.wrap (BitVec.ofInt 32 (IntKind.u32.wrap (IntKind.u8.wrap (BitVec.ofInt 8 ((s.getD 0 0).toNat:Int) &&& BitVec.ofInt 8 127).toNat)) ||| BitVec.ofInt 32 (IntKind.u32.wrap ((IntKind.u32.wrap (IntKind.u8.wrap (BitVec.ofInt 8 ((s.getD 1 0).toNat:Int) &&& BitVec.ofInt 8 127).toNat)) * 128))).toNat))),(35,.v (.bool ((IntKind.u8.wrap (BitVec.ofInt 8 ((s.getD 1 0).toNat:Int) &&& BitVec.ofInt 8 128).toNat) == 0)))] hW az fun aW ah=>?_
 refine qaf (qab ?_)
 refine qaU ah (b:=(IntKind.u8.wrap (BitVec.ofInt 8 ((s.getD 1 0).toNat:Int) &&& BitVec.ofInt 8 128).toNat) == 0) kz ((qcx _ (qbu s 1)).trans (decide_eq_true (by have:=h1; unfold oc at this; omega))) ?_
 refine qar [(2,.v (.int .u32 (IntKind.u32.wrap (BitVec.ofInt 32 (IntKind.u32.wrap (IntKind.u8.wrap (BitVec.ofInt 8 ((s.getD 0 0).toNat:Int) &&& BitVec.ofInt 8 127).toNat)) ||| BitVec.ofInt 32 (IntKind.u32.wrap ((IntKind.u32.wrap (IntKind.u8.wrap (BitVec.ofInt 8 ((s.getD 1 0).toNat:Int) &&& BitVec.ofInt 8 127).toNat)) * 128))).toNat))),(3,.v (.int .i64 2))] hW ah fun aX aA=>?_
 refine wp_ret ?_
 refine qao ?_
 refine qc7 ?_
 refine qaJ aA hW.cells (v:=.tuple #[.int .u32 (IntKind.u32.wrap (BitVec.ofInt 32 (IntKind.u32.wrap (IntKind.u8.wrap (BitVec.ofInt 8 ((s.getD 0 0).toNat:Int) &&& BitVec.ofInt 8 127).toNat)) ||| BitVec.ofInt 32 (IntKind.u32.wrap ((IntKind.u32.wrap (IntKind.u8.wrap (BitVec.ofInt 8 ((s.getD 1 0).toNat:Int) &&& BitVec.ofInt 8 127).toNat)) * 128))).toNat),.int .i64 2]) kz ?_
 have e_:=uv_2 (oc s 0) (oc s 1) (qbu s 0) (qbu s 1)
 refine ⟨congrArg (fun z_:Int=>Ending.returned (.tuple #[.int .u32 z_,.int .i64 2])) (Eq.trans e_ ?_),hW.step⟩
 omega
theorem rUv3 {A:Option Addr} {c:Nat} (s:Bs) {w:World} {F:Nat → Nat → Prop} (ho:Octs w F A c s) (hl:3 ≤ s.length) (d0 d1 d2:Nat) (h0:oc s 0 = d0 + 128) (h1:oc s 1 = d1 + 128) (h2:oc s 2 = d2) (g0:d0 < 128) (g1:d1 < 128) (g2:d2 < 128) :
  Calls Tryd.prog 60 #[.slice A s.length c] w (qbO w (.tuple #[.int .u32 ((d0 + d1 * 128 + d2 * 16384:Nat):Int),.int .i64 3])):=by
 refine enter (n:=87) Tryd.func60 rfl Tryd.ntmps60 kz fun a hE=>?_
 have hW:=WOk.start w Nil
 refine qar [(0,.v (.slice A s.length c))] hW hE fun a1 hE2=>?_
 refine wp_scope_straight ?_
 refine qar [(0,.v (.slice A s.length c))] hW hE2 fun a3 hE4=>?_
 refine qar [(0,.v (.slice A s.length c))] hW hE4 fun a5 hE6=>?_
 refine wp_seq ?_
 refine qar [(0,.v (.slice A s.length c)),(8,.v (.bool (decide (((s.length:Nat):Int) < 1))))] hW hE6 fun a7 hE8=>?_
 refine qap hE8 (b:=decide (((s.length:Nat):Int) < 1)) kz (decide_eq_false (by omega)) ?_
 refine wp_skip ?_
 refine qab ?_
 refine qag [0,1,2,3,4,5] kz ?_
 refine qaj [0] [1,2,3,4,5] [(0,.v (.slice A s.length c)),(9,.v (.slice A s.length c))] hW hE8 fun a9 am=>?_
 obtain ⟨aM,aN,ae,aS,aa⟩:=Slots.get ho (i:=0) (by first | omega | (simp only [List.length_append,be_length,List.length_cons,List.length_nil] at *; omega))
 refine qam (qaC am (t:=22) (A:=A) (m:=s.length) (q:=0) (d:=10) kz (e:=5) (size:=1) (bytes:=1) (j:=0) kz ae rfl (by first | omega | (simp only [List.length_append,be_length,List.length_cons,List.length_nil] at *; omega)) fun aV ao=>?_)
 refine qam (qaM ao (t:=5) (b:=aM) (o:=aN + 0 * 1) (d:=11) kz (cs:=[.int .u8 ((s.getD 0 0).toNat:Int)]) (v:=.int .u8 ((s.getD 0 0).toNat:Int)) kz (AtF.move aa hW.step nilM qaX).at_ fun aW ap=>?_)
 refine qaj [3,4,5] [] [(0,.v (.slice A s.length c)),(4,.v (.int .u32 (IntKind.u32.wrap (IntKind.u8.wrap (BitVec.ofInt 8 ((s.getD 0 0).toNat:Int) &&& BitVec.ofInt 8 127).toNat))))] hW ap fun aX ar=>?_
 refine qaf (qab ?_)
 refine wp_seq ?_
 refine qag [0,1,2,3,4] kz ?_
 refine qaj [0] [1,2,3,4] [(0,.v (.slice A s.length c)),(4,.v (.int .u32 (IntKind.u32.wrap (IntKind.u8.wrap (BitVec.ofInt 8 ((s.getD 0 0).toNat:Int) &&& BitVec.ofInt 8 127).toNat)))),(14,.v (.slice A s.length c))] hW ar fun aY au=>?_
 refine qam (qaC au (t:=22) (A:=A) (m:=s.length) (q:=0) (d:=15) kz (e:=5) (size:=1) (bytes:=1) (j:=0) kz ae rfl (by first | omega | (simp only [List.length_append,be_length,List.length_cons,List.length_nil] at *; omega)) fun aZ av=>?_)
 refine qam (qaM av (t:=5) (b:=aM) (o:=aN + 0 * 1) (d:=16) kz (cs:=[.int .u8 ((s.getD 0 0).toNat:Int)]) (v:=.int .u8 ((s.getD 0 0).toNat:Int)) kz (AtF.move aa hW.step nilM qaX).at_ fun ba aw=>?_)
 refine qaj [3,4] [] [(0,.v (.slice A s.length c)),(4,.v (.int .u32 (IntKind.u32.wrap (IntKind.u8.wrap (BitVec.ofInt 8 ((s.getD 0 0).toNat:Int) &&& BitVec.ofInt 8 127).toNat)))),(18,.v (.bool ((IntKind.u8.wrap (BitVec.ofInt 8 ((s.getD 0 0).toNat:Int) &&& BitVec.ofInt 8 128).toNat) == 0)))] hW aw fun bd af=>?_
 refine qaf (qab ?_)
 refine qap af (b:=(IntKind.u8.wrap (BitVec.ofInt 8 ((s.getD 0 0).toNat:Int) &&& BitVec.ofInt 8 128).toNat) == 0) kz ((qcx _ (qbu s 0)).trans (decide_eq_false (by have:=h0; unfold oc at this; omega))) ?_
 refine qar [(0,.v (.slice A s.length c)),(4,.v (.int .u32 (IntKind.u32.wrap (IntKind.u8.wrap (BitVec.ofInt 8 ((s.getD 0 0).toNat:Int) &&& BitVec.ofInt 8 127).toNat)))),(22,.v (.bool (decide (((s.length:Nat):Int) < 2))))] hW af fun bf ag=>?_
 refine qap ag (b:=decide (((s.length:Nat):Int) < 2)) kz (decide_eq_false (by omega)) ?_
 refine wp_skip ?_
 refine qab ?_
 refine qag [0,1,2,3,4,5,6,7,8] kz ?_
 refine qaj [0,1] [2,3,4,5,6,7,8] [(0,.v (.slice A s.length c)),(23,.v (.int .u32 (IntKind.u32.wrap (IntKind.u8.wrap (BitVec.ofInt 8 ((s.getD 0 0).toNat:Int) &&& BitVec.ofInt 8 127).toNat)))),(24,.v (.slice A s.length c))] hW ag fun bg ax=>?_
 obtain ⟨aO,aP,ah,aT,ab⟩:=Slots.get ho (i:=1) (by first | omega | (simp only [List.length_append,be_length,List.length_cons,List.length_nil] at *; omega))
 refine qam (qaC ax (t:=22) (A:=A) (m:=s.length) (q:=1) (d:=25) kz (e:=5) (size:=1) (bytes:=1) (j:=1) kz ah rfl (by first | omega | (simp only [List.length_append,be_length,List.length_cons,List.length_nil] at *; omega)) fun bh ay=>?_)
 refine qam (qaM ay (t:=5) (b:=aO) (o:=aP + 1 * 1) (d:=26) kz (cs:=[.int .u8 ((s.getD 1 0).toNat:Int)]) (v:=.int .u8 ((s.getD 1 0).toNat:Int)) kz (AtF.move ab hW.step nilM qaX).at_ fun bj az=>?_)
 refine qaj [4,5,6,7,8] [] [(0,.v (.slice A s.length c)),(4,.v (.int .u32 (IntKind.u32.wrap (BitVec.ofInt 32 (IntKind.u32.wrap (IntKind.u8.wrap (BitVec.ofInt 8 ((s.getD 0 0).toNat:Int) &&& BitVec.ofInt 8 127).toNat)) ||| BitVec.ofInt 32 (IntKind.u32.wrap ((IntKind.u32.wrap (IntKind.u8.wrap (BitVec.ofInt 8 ((s.getD 1 0).toNat:Int) &&& BitVec.ofInt 8 127).toNat)) * 128))).toNat)))] hW az fun bk aA=>?_
 refine qaf (qab ?_)
 refine wp_seq ?_
 refine qag [0,1,2,3,4] kz ?_
 refine qaj [0] [1,2,3,4] [(0,.v (.slice A s.length c)),(4,.v (.int .u32 (IntKind.u32.wrap (BitVec.ofInt 32 (IntKind.u32.wrap (IntKind.u8.wrap (BitVec.ofInt 8 ((s.getD 0 0).toNat:Int) &&& BitVec.ofInt 8 127).toNat)) ||| BitVec.ofInt 32 (IntKind.u32.wrap ((IntKind.u32.wrap (IntKind.u8.wrap (BitVec.ofInt 8 ((s.getD 1 0).toNat:Int) &&& BitVec.ofInt 8 127).toNat)) * 128))).toNat))),(31,.v (.slice A s.length c))] hW aA fun bn aB=>?_
 refine qam (qaC aB (t:=22) (A:=A) (m:=s.length) (q:=1) (d:=32) kz (e:=5) (size:=1) (bytes:=1) (j:=1) kz ah rfl (by first | omega | (simp only [List.length_append,be_length,List.length_cons,List.length_nil] at *; omega)) fun bo aC=>?_)
 refine qam (qaM aC (t:=5) (b:=aO) (o:=aP + 1 * 1) (d:=33) kz (cs:=[.int .u8 ((s.getD 1 0).toNat:Int)]) (v:=.int .u8 ((s.getD 1 0).toNat:Int)) kz (AtF.move ab hW.step nilM qaX).at_ fun bp aD=>?_)
 refine qaj [3,4] [] [(0,.v (.slice A s.length c)),(4,.v (.int .u32 (IntKind.u32.wrap (BitVec.ofInt 32 (IntKind.u32.wrap (IntKind.u8.wrap (BitVec.ofInt 8 ((s.getD 0 0).toNat:Int) &&& BitVec.ofInt 8 127).toNat)) ||| BitVec.ofInt 32 (IntKind.u32.wrap ((IntKind.u32.wrap (IntKind.u8.wrap (BitVec.ofInt 8 ((s.getD 1 0).toNat:Int) &&& BitVec.ofInt 8 127).toNat)) * 128))).toNat))),(35,.v (.bool ((IntKind.u8.wrap (BitVec.ofInt 8 ((s.getD 1 0).toNat:Int) &&& BitVec.ofInt 8 128).toNat) == 0)))] hW aD fun bq ai=>?_
 refine qaf (qab ?_)
 refine qap ai (b:=(IntKind.u8.wrap (BitVec.ofInt 8 ((s.getD 1 0).toNat:Int) &&& BitVec.ofInt 8 128).toNat) == 0) kz ((qcx _ (qbu s 1)).trans (decide_eq_false (by have:=h1; unfold oc at this; omega))) ?_
 refine qar [(0,.v (.slice A s.length c)),(4,.v (.int .u32 (IntKind.u32.wrap (BitVec.ofInt 32 (IntKind.u32.wrap (IntKind.u8.wrap (BitVec.ofInt 8 ((s.getD 0 0).toNat:Int) &&& BitVec.ofInt 8 127).toNat)) ||| BitVec.ofInt 32 (IntKind.u32.wrap ((IntKind.u32.wrap (IntKind.u8.wrap (BitVec.ofInt 8 ((s.getD 1 0).toNat:Int) &&& BitVec.ofInt 8 127).toNat)) * 128))).toNat))),(39,.v (.bool (decide (((s.length:Nat):Int) < 3))))] hW ai fun bt aj=>?_
 refine qap aj (b:=decide (((s.length:Nat):Int) < 3)) kz (decide_eq_false (by omega)) ?_
 refine wp_skip ?_
 refine qab ?_
 refine qag [0,1,2,3,4,5,6,7,8] kz ?_
 refine qaj [0,1] [2,3,4,5,6,7,8] [(0,.v (.slice A s.length c)),(40,.v (.int .u32 (IntKind.u32.wrap (BitVec.ofInt 32 (IntKind.u32.wrap (IntKind.u8.wrap (BitVec.ofInt 8 ((s.getD 0 0).toNat:Int) &&& BitVec.ofInt 8 127).toNat)) ||| BitVec.ofInt 32 (IntKind.u32.wrap ((IntKind.u32.wrap (IntKind.u8.wrap (BitVec.ofInt 8 ((s.getD 1 0).toNat:Int) &&& BitVec.ofInt 8 127).toNat)) * 128))).toNat))),(41,.v (.slice A s.length c))] hW aj fun bu aE=>?_
 obtain ⟨aQ,aR,ak,aU,ac⟩:=Slots.get ho (i:=2) (by first | omega | (simp only [List.length_append,be_length,List.length_cons,List.length_nil] at *; omega))
 refine qam (qaC aE (t:=22) (A:=A) (m:=s.length) (q:=2) (d:=42) kz (e:=5) (size:=1) (bytes:=1) (j:=2) kz ak rfl (by first | omega | (simp only [List.length_append,be_length,List.length_cons,List.length_nil] at *; omega)) fun bw aF=>?_)
 refine qam (qaM aF (t:=5) (b:=aQ) (o:=aR + 2 * 1) (d:=43) kz (cs:=[.int .u8 ((s.getD 2 0).toNat:Int)]) (v:=.int .u8 ((s.getD 2 0).toNat:Int)) kz (AtF.move ac hW.step nilM qaX).at_ fun bx aG=>?_)
 refine qaj [4,5,6,7,8] [] [(0,.v (.slice A s.length c)),(4,.v (.int .u32 (IntKind.u32.wrap (BitVec.ofInt 32 (IntKind.u32.wrap (BitVec.ofInt 32 (IntKind.u32.wrap (IntKind.u8.wrap (BitVec.ofInt 8 ((s.getD 0 0).toNat:Int) &&& BitVec.ofInt 8 127).toNat)) ||| BitVec.ofInt 32 (IntKind.u32.wrap ((IntKind.u32.wrap (IntKind.u8.wrap (BitVec.ofInt 8 ((s.getD 1 0).toNat:Int) &&& BitVec.ofInt 8 127).toNat)) * 128))).toNat) ||| BitVec.ofInt 32 (IntKind.u32.wrap ((IntKind.u32.wrap (IntKind.u8.wrap (BitVec.ofInt 8 ((s.getD 2 0).toNat:Int) &&& BitVec.ofInt 8 127).toNat)) * 16384))).toNat)))] hW aG fun bz aH=>?_
 refine qaf (qab ?_)
 refine wp_seq ?_
 refine qag [0,1,2,3,4] kz ?_
 refine qaj [0] [1,2,3,4] [(0,.v (.slice A s.length c)),(4,.v (.int .u32 (IntKind.u32.wrap (BitVec.ofInt 32 (IntKind.u32.wrap (BitVec.ofInt 32 (IntKind.u32.wrap (IntKind.u8.wrap (BitVec.ofInt 8 ((s.getD 0 0).toNat:Int) &&& BitVec.ofInt 8 127).toNat)) ||| BitVec.ofInt 32 (IntKind.u32.wrap ((IntKind.u32.wrap (IntKind.u8.wrap (BitVec.ofInt 8 ((s.getD 1 0).toNat:Int) &&& BitVec.ofInt 8 127).toNat)) * 128))).toNat) ||| BitVec.ofInt 32 (IntKind.u32.wrap ((IntKind.u32.wrap (IntKind.u8.wrap (BitVec.ofInt 8 ((s.getD 2 0).toNat:Int) &&& BitVec.ofInt 8 127).toNat)) * 16384))).toNat))),(48,.v (.slice A s.length c))] hW aH fun bA aI=>?_
 refine qam (qaC aI (t:=22) (A:=A) (m:=s.length) (q:=2) (d:=49) kz (e:=5) (size:=1) (bytes:=1) (j:=2) kz ak rfl (by first | omega | (simp only [List.length_append,be_length,List.length_cons,List.length_nil] at *; omega)) fun bB aJ=>?_)
 refine qam (qaM aJ (t:=5) (b:=aQ) (o:=aR + 2 * 1) (d:=50) kz (cs:=[.int .u8 ((s.getD 2 0).toNat:Int)]) (v:=.int .u8 ((s.getD 2 0).toNat:Int)) kz (AtF.move ac hW.step nilM qaX).at_ fun bC aK=>?_)
 refine qaj [3,4] [] [(0,.v (.slice A s.length c)),(4,.v (.int .u32 (IntKind.u32.wrap (BitVec.ofInt 32 (IntKind.u32.wrap (BitVec.ofInt 32 (IntKind.u32.wrap (IntKind.u8.wrap (BitVec.ofInt 8 ((s.getD 0 0).toNat:Int) &&& BitVec.ofInt 8 127).toNat)) ||| BitVec.ofInt 32 (IntKind.u32.wrap ((IntKind.u32.wrap (IntKind.u8.wrap (BitVec.ofInt 8 ((s.getD 1 0).toNat:Int) &&& BitVec.ofInt 8 127).toNat)) * 128))).toNat) ||| BitVec.ofInt 32 (IntKind.u32.wrap ((IntKind.u32.wrap (IntKind.u8.wrap (BitVec.ofInt 8 ((s.getD 2 0).toNat:Int) &&& BitVec.ofInt 8 127).toNat)) * 16384))).toNat))),(52,.v (.bool ((IntKind.u8.wrap (BitVec.ofInt 8 ((s.getD 2 0).toNat:Int) &&& BitVec.ofInt 8 128).toNat) == 0)))] hW aK fun bD al=>?_
 refine qaf (qab ?_)
 refine qaU al (b:=(IntKind.u8.wrap (BitVec.ofInt 8 ((s.getD 2 0).toNat:Int) &&& BitVec.ofInt 8 128).toNat) == 0) kz ((qcx _ (qbu s 2)).trans (decide_eq_true (by have:=h2; unfold oc at this; omega))) ?_
 refine qar [(2,.v (.int .u32 (IntKind.u32.wrap (BitVec.ofInt 32 (IntKind.u32.wrap (BitVec.ofInt 32 (IntKind.u32.wrap (IntKind.u8.wrap (BitVec.ofInt 8 ((s.getD 0 0).toNat:Int) &&& BitVec.ofInt 8 127).toNat)) ||| BitVec.ofInt 32 (IntKind.u32.wrap ((IntKind.u32.wrap (IntKind.u8.wrap (BitVec.ofInt 8 ((s.getD 1 0).toNat:Int) &&& BitVec.ofInt 8 127).toNat)) * 128))).toNat) ||| BitVec.ofInt 32 (IntKind.u32.wrap ((IntKind.u32.wrap (IntKind.u8.wrap (BitVec.ofInt 8 ((s.getD 2 0).toNat:Int) &&& BitVec.ofInt 8 127).toNat)) * 16384))).toNat))),(3,.v (.int .i64 3))] hW al fun bE aL=>?_
 refine wp_ret ?_
 refine qao ?_
 refine qc7 ?_
 refine qaJ aL hW.cells (v:=.tuple #[.int .u32 (IntKind.u32.wrap (BitVec.ofInt 32 (IntKind.u32.wrap (BitVec.ofInt 32 (IntKind.u32.wrap (IntKind.u8.wrap (BitVec.ofInt 8 ((s.getD 0 0).toNat:Int) &&& BitVec.ofInt 8 127).toNat)) ||| BitVec.ofInt 32 (IntKind.u32.wrap ((IntKind.u32.wrap (IntKind.u8.wrap (BitVec.ofInt 8 ((s.getD 1 0).toNat:Int) &&& BitVec.ofInt 8 127).toNat)) * 128))).toNat) ||| BitVec.ofInt 32 (IntKind.u32.wrap ((IntKind.u32.wrap (IntKind.u8.wrap (BitVec.ofInt 8 ((s.getD 2 0).toNat:Int) &&& BitVec.ofInt 8 127).toNat)) * 16384))).toNat),.int .i64 3]) kz ?_
 have e_:=uv_3 (oc s 0) (oc s 1) (oc s 2) (qbu s 0) (qbu s 1) (qbu s 2)
 refine ⟨congrArg (fun z_:Int=>Ending.returned (.tuple #[.int .u32 z_,.int .i64 3])) (Eq.trans e_ ?_),hW.step⟩
 omega
theorem rUv4 {A:Option Addr} {c:Nat} (s:Bs) {w:World} {F:Nat → Nat → Prop} (ho:Octs w F A c s) (hl:4 ≤ s.length) (d0 d1 d2 d3:Nat) (h0:oc s 0 = d0 + 128) (h1:oc s 1 = d1 + 128) (h2:oc s 2 = d2 + 128) (h3:oc s 3 = d3) (g0:d0 < 128) (g1:d1 < 128) (g2:d2 < 128) (g3:d3 < 128) :
  Calls Tryd.prog 60 #[.slice A s.length c] w (qbO w (.tuple #[.int .u32 ((d0 + d1 * 128 + d2 * 16384 + d3 * 2097152:Nat):Int),.int .i64 4])):=by
 refine enter (n:=87) Tryd.func60 rfl Tryd.ntmps60 kz fun a hE=>?_
 have hW:=WOk.start w Nil
 refine qar [(0,.v (.slice A s.length c))] hW hE fun a1 hE2=>?_
 refine wp_scope_straight ?_
 refine qar [(0,.v (.slice A s.length c))] hW hE2 fun a3 hE4=>?_
 refine qar [(0,.v (.slice A s.length c))] hW hE4 fun a5 hE6=>?_
 refine wp_seq ?_
 refine qar [(0,.v (.slice A s.length c)),(8,.v (.bool (decide (((s.length:Nat):Int) < 1))))] hW hE6 fun a7 hE8=>?_
 refine qap hE8 (b:=decide (((s.length:Nat):Int) < 1)) kz (decide_eq_false (by omega)) ?_
 refine wp_skip ?_
 refine qab ?_
 refine qag [0,1,2,3,4,5] kz ?_
 refine qaj [0] [1,2,3,4,5] [(0,.v (.slice A s.length c)),(9,.v (.slice A s.length c))] hW hE8 fun a9 av=>?_
 obtain ⟨aX,aY,af,bj,aa⟩:=Slots.get ho (i:=0) (by first | omega | (simp only [List.length_append,be_length,List.length_cons,List.length_nil] at *; omega))
 refine qam (qaC av (t:=22) (A:=A) (m:=s.length) (q:=0) (d:=10) kz (e:=5) (size:=1) (bytes:=1) (j:=0) kz af rfl (by first | omega | (simp only [List.length_append,be_length,List.length_cons,List.length_nil] at *; omega)) fun bp aw=>?_)
 refine qam (qaM aw (t:=5) (b:=aX) (o:=aY + 0 * 1) (d:=11) kz (cs:=[.int .u8 ((s.getD 0 0).toNat:Int)]) (v:=.int .u8 ((s.getD 0 0).toNat:Int)) kz (AtF.move aa hW.step nilM qaX).at_ fun bq ax=>?_)
 refine qaj [3,4,5] [] [(0,.v (.slice A s.length c)),(4,.v (.int .u32 (IntKind.u32.wrap (IntKind.u8.wrap (BitVec.ofInt 8 ((s.getD 0 0).toNat:Int) &&& BitVec.ofInt 8 127).toNat))))] hW ax fun bt ay=>?_
 refine qaf (qab ?_)
 refine wp_seq ?_
 refine qag [0,1,2,3,4] kz ?_
 refine qaj [0] [1,2,3,4] [(0,.v (.slice A s.length c)),(4,.v (.int .u32 (IntKind.u32.wrap (IntKind.u8.wrap (BitVec.ofInt 8 ((s.getD 0 0).toNat:Int) &&& BitVec.ofInt 8 127).toNat)))),(14,.v (.slice A s.length c))] hW ay fun bu az=>?_
 refine qam (qaC az (t:=22) (A:=A) (m:=s.length) (q:=0) (d:=15) kz (e:=5) (size:=1) (bytes:=1) (j:=0) kz af rfl (by first | omega | (simp only [List.length_append,be_length,List.length_cons,List.length_nil] at *; omega)) fun bw aA=>?_)
 refine qam (qaM aA (t:=5) (b:=aX) (o:=aY + 0 * 1) (d:=16) kz (cs:=[.int .u8 ((s.getD 0 0).toNat:Int)]) (v:=.int .u8 ((s.getD 0 0).toNat:Int)) kz (AtF.move aa hW.step nilM qaX).at_ fun bx aB=>?_)
 refine qaj [3,4] [] [(0,.v (.slice A s.length c)),(4,.v (.int .u32 (IntKind.u32.wrap (IntKind.u8.wrap (BitVec.ofInt 8 ((s.getD 0 0).toNat:Int) &&& BitVec.ofInt 8 127).toNat)))),(18,.v (.bool ((IntKind.u8.wrap (BitVec.ofInt 8 ((s.getD 0 0).toNat:Int) &&& BitVec.ofInt 8 128).toNat) == 0)))] hW aB fun bz ag=>?_
 refine qaf (qab ?_)
 refine qap ag (b:=(IntKind.u8.wrap (BitVec.ofInt 8 ((s.getD 0 0).toNat:Int) &&& BitVec.ofInt 8 128).toNat) == 0) kz ((qcx _ (qbu s 0)).trans (decide_eq_false (by have:=h0; unfold oc at this; omega))) ?_
 refine qar [(0,.v (.slice A s.length c)),(4,.v (.int .u32 (IntKind.u32.wrap (IntKind.u8.wrap (BitVec.ofInt 8 ((s.getD 0 0).toNat:Int) &&& BitVec.ofInt 8 127).toNat)))),(22,.v (.bool (decide (((s.length:Nat):Int) < 2))))] hW ag fun bA ah=>?_
 refine qap ah (b:=decide (((s.length:Nat):Int) < 2)) kz (decide_eq_false (by omega)) ?_
 refine wp_skip ?_
 refine qab ?_
 refine qag [0,1,2,3,4,5,6,7,8] kz ?_
 refine qaj [0,1] [2,3,4,5,6,7,8] [(0,.v (.slice A s.length c)),(23,.v (.int .u32 (IntKind.u32.wrap (IntKind.u8.wrap (BitVec.ofInt 8 ((s.getD 0 0).toNat:Int) &&& BitVec.ofInt 8 127).toNat)))),(24,.v (.slice A s.length c))] hW ah fun bB aC=>?_
 obtain ⟨aZ,ba,ai,bk,ab⟩:=Slots.get ho (i:=1) (by first | omega | (simp only [List.length_append,be_length,List.length_cons,List.length_nil] at *; omega))
 refine qam (qaC aC (t:=22) (A:=A) (m:=s.length) (q:=1) (d:=25) kz (e:=5) (size:=1) (bytes:=1) (j:=1) kz ai rfl (by first | omega | (simp only [List.length_append,be_length,List.length_cons,List.length_nil] at *; omega)) fun bC aD=>?_)
 refine qam (qaM aD (t:=5) (b:=aZ) (o:=ba + 1 * 1) (d:=26) kz (cs:=[.int .u8 ((s.getD 1 0).toNat:Int)]) (v:=.int .u8 ((s.getD 1 0).toNat:Int)) kz (AtF.move ab hW.step nilM qaX).at_ fun bD aE=>?_)
 refine qaj [4,5,6,7,8] [] [(0,.v (.slice A s.length c)),(4,.v (.int .u32 (IntKind.u32.wrap (BitVec.ofInt 32 (IntKind.u32.wrap (IntKind.u8.wrap (BitVec.ofInt 8 ((s.getD 0 0).toNat:Int) &&& BitVec.ofInt 8 127).toNat)) ||| BitVec.ofInt 32 (IntKind.u32.wrap ((IntKind.u32.wrap (IntKind.u8.wrap (BitVec.ofInt 8 ((s.getD 1 0).toNat:Int) &&& BitVec.ofInt 8 127).toNat)) * 128))).toNat)))] hW aE fun bE aF=>?_
 refine qaf (qab ?_)
 refine wp_seq ?_
 refine qag [0,1,2,3,4] kz ?_
 refine qaj [0] [1,2,3,4] [(0,.v (.slice A s.length c)),(4,.v (.int .u32 (IntKind.u32.wrap (BitVec.ofInt 32 (IntKind.u32.wrap (IntKind.u8.wrap (BitVec.ofInt 8 ((s.getD 0 0).toNat:Int) &&& BitVec.ofInt 8 127).toNat)) ||| BitVec.ofInt 32 (IntKind.u32.wrap ((IntKind.u32.wrap (IntKind.u8.wrap (BitVec.ofInt 8 ((s.getD 1 0).toNat:Int) &&& BitVec.ofInt 8 127).toNat)) * 128))).toNat))),(31,.v (.slice A s.length c))] hW aF fun bF aG=>?_
 refine qam (qaC aG (t:=22) (A:=A) (m:=s.length) (q:=1) (d:=32) kz (e:=5) (size:=1) (bytes:=1) (j:=1) kz ai rfl (by first | omega | (simp only [List.length_append,be_length,List.length_cons,List.length_nil] at *; omega)) fun bG aH=>?_)
 refine qam (qaM aH (t:=5) (b:=aZ) (o:=ba + 1 * 1) (d:=33) kz (cs:=[.int .u8 ((s.getD 1 0).toNat:Int)]) (v:=.int .u8 ((s.getD 1 0).toNat:Int)) kz (AtF.move ab hW.step nilM qaX).at_ fun bH aI=>?_)
 refine qaj [3,4] [] [(0,.v (.slice A s.length c)),(4,.v (.int .u32 (IntKind.u32.wrap (BitVec.ofInt 32 (IntKind.u32.wrap (IntKind.u8.wrap (BitVec.ofInt 8 ((s.getD 0 0).toNat:Int) &&& BitVec.ofInt 8 127).toNat)) ||| BitVec.ofInt 32 (IntKind.u32.wrap ((IntKind.u32.wrap (IntKind.u8.wrap (BitVec.ofInt 8 ((s.getD 1 0).toNat:Int) &&& BitVec.ofInt 8 127).toNat)) * 128))).toNat))),(35,.v (.bool ((IntKind.u8.wrap (BitVec.ofInt 8 ((s.getD 1 0).toNat:Int) &&& BitVec.ofInt 8 128).toNat) == 0)))] hW aI fun bI aj=>?_
 refine qaf (qab ?_)
 refine qap aj (b:=(IntKind.u8.wrap (BitVec.ofInt 8 ((s.getD 1 0).toNat:Int) &&& BitVec.ofInt 8 128).toNat) == 0) kz ((qcx _ (qbu s 1)).trans (decide_eq_false (by have:=h1; unfold oc at this; omega))) ?_
 refine qar [(0,.v (.slice A s.length c)),(4,.v (.int .u32 (IntKind.u32.wrap (BitVec.ofInt 32 (IntKind.u32.wrap (IntKind.u8.wrap (BitVec.ofInt 8 ((s.getD 0 0).toNat:Int) &&& BitVec.ofInt 8 127).toNat)) ||| BitVec.ofInt 32 (IntKind.u32.wrap ((IntKind.u32.wrap (IntKind.u8.wrap (BitVec.ofInt 8 ((s.getD 1 0).toNat:Int) &&& BitVec.ofInt 8 127).toNat)) * 128))).toNat))),(39,.v (.bool (decide (((s.length:Nat):Int) < 3))))] hW aj fun bJ ak=>?_
 refine qap ak (b:=decide (((s.length:Nat):Int) < 3)) kz (decide_eq_false (by omega)) ?_
 refine wp_skip ?_
 refine qab ?_
 refine qag [0,1,2,3,4,5,6,7,8] kz ?_
 refine qaj [0,1] [2,3,4,5,6,7,8] [(0,.v (.slice A s.length c)),(40,.v (.int .u32 (IntKind.u32.wrap (BitVec.ofInt 32 (IntKind.u32.wrap (IntKind.u8.wrap (BitVec.ofInt 8 ((s.getD 0 0).toNat:Int) &&& BitVec.ofInt 8 127).toNat)) ||| BitVec.ofInt 32 (IntKind.u32.wrap ((IntKind.u32.wrap (IntKind.u8.wrap (BitVec.ofInt 8 ((s.getD 1 0).toNat:Int) &&& BitVec.ofInt 8 127).toNat)) * 128))).toNat))),(41,.v (.slice A s.length c))] hW ak fun bK aJ=>?_
 obtain ⟨bd,bf,al,bn,ac⟩:=Slots.get ho (i:=2) (by first | omega | (simp only [List.length_append,be_length,List.length_cons,List.length_nil] at *; omega))
 refine qam (qaC aJ (t:=22) (A:=A) (m:=s.length) (q:=2) (d:=42) kz (e:=5) (size:=1) (bytes:=1) (j:=2) kz al rfl (by first | omega | (simp only [List.length_append,be_length,List.length_cons,List.length_nil] at *; omega)) fun bL aK=>?_)
 refine qam (qaM aK (t:=5) (b:=bd) (o:=bf + 2 * 1) (d:=43) kz (cs:=[.int .u8 ((s.getD 2 0).toNat:Int)]) (v:=.int .u8 ((s.getD 2 0).toNat:Int)) kz (AtF.move ac hW.step nilM qaX).at_ fun bM aL=>?_)
 refine qaj [4,5,6,7,8] [] [(0,.v (.slice A s.length c)),(4,.v (.int .u32 (IntKind.u32.wrap (BitVec.ofInt 32 (IntKind.u32.wrap (BitVec.ofInt 32 (IntKind.u32.wrap (IntKind.u8.wrap (BitVec.ofInt 8 ((s.getD 0 0).toNat:Int) &&& BitVec.ofInt 8 127).toNat)) ||| BitVec.ofInt 32 (IntKind.u32.wrap ((IntKind.u32.wrap (IntKind.u8.wrap (BitVec.ofInt 8 ((s.getD 1 0).toNat:Int) &&& BitVec.ofInt 8 127).toNat)) * 128))).toNat) ||| BitVec.ofInt 32 (IntKind.u32.wrap ((IntKind.u32.wrap (IntKind.u8.wrap (BitVec.ofInt 8 ((s.getD 2 0).toNat:Int) &&& BitVec.ofInt 8 127).toNat)) * 16384))).toNat)))] hW aL fun bN aM=>?_
 refine qaf (qab ?_)
 refine wp_seq ?_
 refine qag [0,1,2,3,4] kz ?_
 refine qaj [0] [1,2,3,4] [(0,.v (.slice A s.length c)),(4,.v (.int .u32 (IntKind.u32.wrap (BitVec.ofInt 32 (IntKind.u32.wrap (BitVec.ofInt 32 (IntKind.u32.wrap (IntKind.u8.wrap (BitVec.ofInt 8 ((s.getD 0 0).toNat:Int) &&& BitVec.ofInt 8 127).toNat)) ||| BitVec.ofInt 32 (IntKind.u32.wrap ((IntKind.u32.wrap (IntKind.u8.wrap (BitVec.ofInt 8 ((s.getD 1 0).toNat:Int) &&& BitVec.ofInt 8 127).toNat)) * 128))).toNat) ||| BitVec.ofInt 32 (IntKind.u32.wrap ((IntKind.u32.wrap (IntKind.u8.wrap (BitVec.ofInt 8 ((s.getD 2 0).toNat:Int) &&& BitVec.ofInt 8 127).toNat)) * 16384))).toNat))),(48,.v (.slice A s.length c))] hW aM fun bO aN=>?_
 refine qam (qaC aN (t:=22) (A:=A) (m:=s.length) (q:=2) (d:=49) kz (e:=5) (size:=1) (bytes:=1) (j:=2) kz al rfl (by first | omega | (simp only [List.length_append,be_length,List.length_cons,List.length_nil] at *; omega)) fun bP aO=>?_)
 refine qam (qaM aO (t:=5) (b:=bd) (o:=bf + 2 * 1) (d:=50) kz (cs:=[.int .u8 ((s.getD 2 0).toNat:Int)]) (v:=.int .u8 ((s.getD 2 0).toNat:Int)) kz (AtF.move ac hW.step nilM qaX).at_ fun bQ aP=>?_)
 refine qaj [3,4] [] [(0,.v (.slice A s.length c)),(4,.v (.int .u32 (IntKind.u32.wrap (BitVec.ofInt 32 (IntKind.u32.wrap (BitVec.ofInt 32 (IntKind.u32.wrap (IntKind.u8.wrap (BitVec.ofInt 8 ((s.getD 0 0).toNat:Int) &&& BitVec.ofInt 8 127).toNat)) ||| BitVec.ofInt 32 (IntKind.u32.wrap ((IntKind.u32.wrap (IntKind.u8.wrap (BitVec.ofInt 8 ((s.getD 1 0).toNat:Int) &&& BitVec.ofInt 8 127).toNat)) * 128))).toNat) ||| BitVec.ofInt 32 (IntKind.u32.wrap ((IntKind.u32.wrap (IntKind.u8.wrap (BitVec.ofInt 8 ((s.getD 2 0).toNat:Int) &&& BitVec.ofInt 8 127).toNat)) * 16384))).toNat))),(52,.v (.bool ((IntKind.u8.wrap (BitVec.ofInt 8 ((s.getD 2 0).toNat:Int) &&& BitVec.ofInt 8 128).toNat) == 0)))] hW aP fun bR am=>?_
 refine qaf (qab ?_)
 refine qap am (b:=(IntKind.u8.wrap (BitVec.ofInt 8 ((s.getD 2 0).toNat:Int) &&& BitVec.ofInt 8 128).toNat) == 0) kz ((qcx _ (qbu s 2)).trans (decide_eq_false (by have:=h2; unfold oc at this; omega))) ?_
 refine qar [(0,.v (.slice A s.length c)),(4,.v (.int .u32 (IntKind.u32.wrap (BitVec.ofInt 32 (IntKind.u32.wrap (BitVec.ofInt 32 (IntKind.u32.wrap (IntKind.u8.wrap (BitVec.ofInt 8 ((s.getD 0 0).toNat:Int) &&& BitVec.ofInt 8 127).toNat)) ||| BitVec.ofInt 32 (IntKind.u32.wrap ((IntKind.u32.wrap (IntKind.u8.wrap (BitVec.ofInt 8 ((s.getD 1 0).toNat:Int) &&& BitVec.ofInt 8 127).toNat)) * 128))).toNat) ||| BitVec.ofInt 32 (IntKind.u32.wrap ((IntKind.u32.wrap (IntKind.u8.wrap (BitVec.ofInt 8 ((s.getD 2 0).toNat:Int) &&& BitVec.ofInt 8 127).toNat)) * 16384))).toNat))),(56,.v (.bool (decide (((s.length:Nat):Int) < 4))))] hW am fun bS ao=>?_
 refine qap ao (b:=decide (((s.length:Nat):Int) < 4)) kz (decide_eq_false (by omega)) ?_
 refine wp_skip ?_
 refine qab ?_
 refine qag [0,1,2,3,4,5,6,7,8] kz ?_
 refine qaj [0,1] [2,3,4,5,6,7,8] [(0,.v (.slice A s.length c)),(57,.v (.int .u32 (IntKind.u32.wrap (BitVec.ofInt 32 (IntKind.u32.wrap (BitVec.ofInt 32 (IntKind.u32.wrap (IntKind.u8.wrap (BitVec.ofInt 8 ((s.getD 0 0).toNat:Int) &&& BitVec.ofInt 8 127).toNat)) ||| BitVec.ofInt 32 (IntKind.u32.wrap ((IntKind.u32.wrap (IntKind.u8.wrap (BitVec.ofInt 8 ((s.getD 1 0).toNat:Int) &&& BitVec.ofInt 8 127).toNat)) * 128))).toNat) ||| BitVec.ofInt 32 (IntKind.u32.wrap ((IntKind.u32.wrap (IntKind.u8.wrap (BitVec.ofInt 8 ((s.getD 2 0).toNat:Int) &&& BitVec.ofInt 8 127).toNat)) * 16384))).toNat))),(58,.v (.slice A s.length c))] hW ao fun bT aQ=>?_
 obtain ⟨bg,bh,ap,bo,ae⟩:=Slots.get ho (i:=3) (by first | omega | (simp only [List.length_append,be_length,List.length_cons,List.length_nil] at *; omega))
 refine qam (qaC aQ (t:=22) (A:=A) (m:=s.length) (q:=3) (d:=59) kz (e:=5) (size:=1) (bytes:=1) (j:=3) kz ap rfl (by first | omega | (simp only [List.length_append,be_length,List.length_cons,List.length_nil] at *; omega)) fun bU aR=>?_)
 refine qam (qaM aR (t:=5) (b:=bg) (o:=bh + 3 * 1) (d:=60) kz (cs:=[.int .u8 ((s.getD 3 0).toNat:Int)]) (v:=.int .u8 ((s.getD 3 0).toNat:Int)) kz (AtF.move ae hW.step nilM qaX).at_ fun bV aS=>?_)
 refine qaj [4,5,6,7,8] [] [(0,.v (.slice A s.length c)),(4,.v (.int .u32 (IntKind.u32.wrap (BitVec.ofInt 32 (IntKind.u32.wrap (BitVec.ofInt 32 (IntKind.u32.wrap (BitVec.ofInt 32 (IntKind.u32.wrap (IntKind.u8.wrap (BitVec.ofInt 8 ((s.getD 0 0).toNat:Int) &&& BitVec.ofInt 8 127).toNat)) ||| BitVec.ofInt 32 (IntKind.u32.wrap ((IntKind.u32.wrap (IntKind.u8.wrap (BitVec.ofInt 8 ((s.getD 1 0).toNat:Int) &&& BitVec.ofInt 8 127).toNat)) * 128))).toNat) ||| BitVec.ofInt 32 (IntKind.u32.wrap ((IntKind.u32.wrap (IntKind.u8.wrap (BitVec.ofInt 8 ((s.getD 2 0).toNat:Int) &&& BitVec.ofInt 8 127).toNat)) * 16384))).toNat) ||| BitVec.ofInt 32 (IntKind.u32.wrap ((IntKind.u32.wrap (IntKind.u8.wrap (BitVec.ofInt 8 ((s.getD 3 0).toNat:Int) &&& BitVec.ofInt 8 127).toNat)) * 2097152))).toNat)))] hW aS fun bW aT=>?_
 refine qaf (qab ?_)
 refine wp_seq ?_
 refine qag [0,1,2,3,4] kz ?_
 refine qaj [0] [1,2,3,4] [(0,.v (.slice A s.length c)),(4,.v (.int .u32 (IntKind.u32.wrap (BitVec.ofInt 32 (IntKind.u32.wrap (BitVec.ofInt 32 (IntKind.u32.wrap (BitVec.ofInt 32 (IntKind.u32.wrap (IntKind.u8.wrap (BitVec.ofInt 8 ((s.getD 0 0).toNat:Int) &&& BitVec.ofInt 8 127).toNat)) ||| BitVec.ofInt 32 (IntKind.u32.wrap ((IntKind.u32.wrap (IntKind.u8.wrap (BitVec.ofInt 8 ((s.getD 1 0).toNat:Int) &&& BitVec.ofInt 8 127).toNat)) * 128))).toNat) ||| BitVec.ofInt 32 (IntKind.u32.wrap ((IntKind.u32.wrap (IntKind.u8.wrap (BitVec.ofInt 8 ((s.getD 2 0).toNat:Int) &&& BitVec.ofInt 8 127).toNat)) * 16384))).toNat) ||| BitVec.ofInt 32 (IntKind.u32.wrap ((IntKind.u32.wrap (IntKind.u8.wrap (BitVec.ofInt 8 ((s.getD 3 0).toNat:Int) &&& BitVec.ofInt 8 127).toNat)) * 2097152))).toNat))),(65,.v (.slice A s.length c))] hW aT fun bX aU=>?_
 refine qam (qaC aU (t:=22) (A:=A) (m:=s.length) (q:=3) (d:=66) kz (e:=5) (size:=1) (bytes:=1) (j:=3) kz ap rfl (by first | omega | (simp only [List.length_append,be_length,List.length_cons,List.length_nil] at *; omega)) fun bY aV=>?_)
 refine qam (qaM aV (t:=5) (b:=bg) (o:=bh + 3 * 1) (d:=67) kz (cs:=[.int .u8 ((s.getD 3 0).toNat:Int)]) (v:=.int .u8 ((s.getD 3 0).toNat:Int)) kz (AtF.move ae hW.step nilM qaX).at_ fun bZ aW=>?_)
 refine qaj [3,4] [] [(0,.v (.slice A s.length c)),(4,.v (.int .u32 (IntKind.u32.wrap (BitVec.ofInt 32 (IntKind.u32.wrap (BitVec.ofInt 32 (IntKind.u32.wrap (BitVec.ofInt 32 (IntKind.u32.wrap (IntKind.u8.wrap (BitVec.ofInt 8 ((s.getD 0 0).toNat:Int) &&& BitVec.ofInt 8 127).toNat)) ||| BitVec.ofInt 32 (IntKind.u32.wrap ((IntKind.u32.wrap (IntKind.u8.wrap (BitVec.ofInt 8 ((s.getD 1 0).toNat:Int) &&& BitVec.ofInt 8 127).toNat)) * 128))).toNat) ||| BitVec.ofInt 32 (IntKind.u32.wrap ((IntKind.u32.wrap (IntKind.u8.wrap (BitVec.ofInt 8 ((s.getD 2 0).toNat:Int) &&& BitVec.ofInt 8 127).toNat)) * 16384))).toNat) ||| BitVec.ofInt 32 (IntKind.u32.wrap ((IntKind.u32.wrap (IntKind.u8.wrap (BitVec.ofInt 8 ((s.getD 3 0).toNat:Int) &&& BitVec.ofInt 8 127).toNat)) * 2097152))).toNat))),(69,.v (.bool ((IntKind.u8.wrap (BitVec.ofInt 8 ((s.getD 3 0).toNat:Int) &&& BitVec.ofInt 8 128).toNat) == 0)))] hW aW fun b8 ar=>?_
 refine qaf (qab ?_)
 refine qaU ar (b:=(IntKind.u8.wrap (BitVec.ofInt 8 ((s.getD 3 0).toNat:Int) &&& BitVec.ofInt 8 128).toNat) == 0) kz ((qcx _ (qbu s 3)).trans (decide_eq_true (by have:=h3; unfold oc at this; omega))) ?_
 refine qar [(2,.v (.int .u32 (IntKind.u32.wrap (BitVec.ofInt 32 (IntKind.u32.wrap (BitVec.ofInt 32 (IntKind.u32.wrap (BitVec.ofInt 32 (IntKind.u32.wrap (IntKind.u8.wrap (BitVec.ofInt 8 ((s.getD 0 0).toNat:Int) &&& BitVec.ofInt 8 127).toNat)) ||| BitVec.ofInt 32 (IntKind.u32.wrap ((IntKind.u32.wrap (IntKind.u8.wrap (BitVec.ofInt 8 ((s.getD 1 0).toNat:Int) &&& BitVec.ofInt 8 127).toNat)) * 128))).toNat) ||| BitVec.ofInt 32 (IntKind.u32.wrap ((IntKind.u32.wrap (IntKind.u8.wrap (BitVec.ofInt 8 ((s.getD 2 0).toNat:Int) &&& BitVec.ofInt 8 127).toNat)) * 16384))).toNat) ||| BitVec.ofInt 32 (IntKind.u32.wrap ((IntKind.u32.wrap (IntKind.u8.wrap (BitVec.ofInt 8 ((s.getD 3 0).toNat:Int) &&& BitVec.ofInt 8 127).toNat)) * 2097152))).toNat))),(3,.v (.int .i64 4))] hW ar fun ca au=>?_
 refine wp_ret ?_
 refine qao ?_
 refine qc7 ?_
 refine qaJ au hW.cells (v:=.tuple #[.int .u32 (IntKind.u32.wrap (BitVec.ofInt 32 (IntKind.u32.wrap (BitVec.ofInt 32 (IntKind.u32.wrap (BitVec.ofInt 32 (IntKind.u32.wrap (IntKind.u8.wrap (BitVec.ofInt 8 ((s.getD 0 0).toNat:Int) &&& BitVec.ofInt 8 127).toNat)) ||| BitVec.ofInt 32 (IntKind.u32.wrap ((IntKind.u32.wrap (IntKind.u8.wrap (BitVec.ofInt 8 ((s.getD 1 0).toNat:Int) &&& BitVec.ofInt 8 127).toNat)) * 128))).toNat) ||| BitVec.ofInt 32 (IntKind.u32.wrap ((IntKind.u32.wrap (IntKind.u8.wrap (BitVec.ofInt 8 ((s.getD 2 0).toNat:Int) &&& BitVec.ofInt 8 127).toNat)) * 16384))).toNat) ||| BitVec.ofInt 32 (IntKind.u32.wrap ((IntKind.u32.wrap (IntKind.u8.wrap (BitVec.ofInt 8 ((s.getD 3 0).toNat:Int) &&& BitVec.ofInt 8 127).toNat)) * 2097152))).toNat),.int .i64 4]) kz ?_
 have e_:=uv_4 (oc s 0) (oc s 1) (oc s 2) (oc s 3) (qbu s 0) (qbu s 1) (qbu s 2) (qbu s 3)
 refine ⟨congrArg (fun z_:Int=>Ending.returned (.tuple #[.int .u32 z_,.int .i64 4])) (Eq.trans e_ ?_),hW.step⟩
 omega
theorem rUv5 {A:Option Addr} {c:Nat} (s:Bs) {w:World} {F:Nat → Nat → Prop} (ho:Octs w F A c s) (hl:5 ≤ s.length) (d0 d1 d2 d3 d4:Nat) (h0:oc s 0 = d0 + 128) (h1:oc s 1 = d1 + 128) (h2:oc s 2 = d2 + 128) (h3:oc s 3 = d3 + 128) (h4:oc s 4 = d4) (g0:d0 < 128) (g1:d1 < 128) (g2:d2 < 128) (g3:d3 < 128) (g4:d4 < 16) :
  Calls Tryd.prog 60 #[.slice A s.length c] w (qbO w (.tuple #[.int .u32 ((d0 + d1 * 128 + d2 * 16384 + d3 * 2097152 + d4 * 268435456:Nat):Int),.int .i64 5])):=by
 refine enter (n:=87) Tryd.func60 rfl Tryd.ntmps60 kz fun a hE=>?_
 have hW:=WOk.start w Nil
 refine qar [(0,.v (.slice A s.length c))] hW hE fun a1 hE2=>?_
 refine wp_scope_straight ?_
 refine qar [(0,.v (.slice A s.length c))] hW hE2 fun a3 hE4=>?_
 refine qar [(0,.v (.slice A s.length c))] hW hE4 fun a5 hE6=>?_
 refine wp_seq ?_
 refine qar [(0,.v (.slice A s.length c)),(8,.v (.bool (decide (((s.length:Nat):Int) < 1))))] hW hE6 fun a7 hE8=>?_
 refine qap hE8 (b:=decide (((s.length:Nat):Int) < 1)) kz (decide_eq_false (by omega)) ?_
 refine wp_skip ?_
 refine qab ?_
 refine qag [0,1,2,3,4,5] kz ?_
 refine qaj [0] [1,2,3,4,5] [(0,.v (.slice A s.length c)),(9,.v (.slice A s.length c))] hW hE8 fun a9 aI=>?_
 obtain ⟨bq,bt,aj,bD,ab⟩:=Slots.get ho (i:=0) (by first | omega | (simp only [List.length_append,be_length,List.length_cons,List.length_nil] at *; omega))
 refine qam (qaC aI (t:=22) (A:=A) (m:=s.length) (q:=0) (d:=10) kz (e:=5) (size:=1) (bytes:=1) (j:=0) kz aj rfl (by first | omega | (simp only [List.length_append,be_length,List.length_cons,List.length_nil] at *; omega)) fun bQ aJ=>?_)
 refine qam (qaM aJ (t:=5) (b:=bq) (o:=bt + 0 * 1) (d:=11) kz (cs:=[.int .u8 ((s.getD 0 0).toNat:Int)]) (v:=.int .u8 ((s.getD 0 0).toNat:Int)) kz (AtF.move ab hW.step nilM qaX).at_ fun bR aK=>?_)
 refine qaj [3,4,5] [] [(0,.v (.slice A s.length c)),(4,.v (.int .u32 (IntKind.u32.wrap (IntKind.u8.wrap (BitVec.ofInt 8 ((s.getD 0 0).toNat:Int) &&& BitVec.ofInt 8 127).toNat))))] hW aK fun bS aL=>?_
 refine qaf (qab ?_)
 refine wp_seq ?_
 refine qag [0,1,2,3,4] kz ?_
 refine qaj [0] [1,2,3,4] [(0,.v (.slice A s.length c)),(4,.v (.int .u32 (IntKind.u32.wrap (IntKind.u8.wrap (BitVec.ofInt 8 ((s.getD 0 0).toNat:Int) &&& BitVec.ofInt 8 127).toNat)))),(14,.v (.slice A s.length c))] hW aL fun bT aM=>?_
 refine qam (qaC aM (t:=22) (A:=A) (m:=s.length) (q:=0) (d:=15) kz (e:=5) (size:=1) (bytes:=1) (j:=0) kz aj rfl (by first | omega | (simp only [List.length_append,be_length,List.length_cons,List.length_nil] at *; omega)) fun bU aN=>?_)
 refine qam (qaM aN (t:=5) (b:=bq) (o:=bt + 0 * 1) (d:=16) kz (cs:=[.int .u8 ((s.getD 0 0).toNat:Int)]) (v:=.int .u8 ((s.getD 0 0).toNat:Int)) kz (AtF.move ab hW.step nilM qaX).at_ fun bV aO=>?_)
 refine qaj [3,4] [] [(0,.v (.slice A s.length c)),(4,.v (.int .u32 (IntKind.u32.wrap (IntKind.u8.wrap (BitVec.ofInt 8 ((s.getD 0 0).toNat:Int) &&& BitVec.ofInt 8 127).toNat)))),(18,.v (.bool ((IntKind.u8.wrap (BitVec.ofInt 8 ((s.getD 0 0).toNat:Int) &&& BitVec.ofInt 8 128).toNat) == 0)))] hW aO fun bW ak=>?_
 refine qaf (qab ?_)
 refine qap ak (b:=(IntKind.u8.wrap (BitVec.ofInt 8 ((s.getD 0 0).toNat:Int) &&& BitVec.ofInt 8 128).toNat) == 0) kz ((qcx _ (qbu s 0)).trans (decide_eq_false (by have:=h0; unfold oc at this; omega))) ?_
 refine qar [(0,.v (.slice A s.length c)),(4,.v (.int .u32 (IntKind.u32.wrap (IntKind.u8.wrap (BitVec.ofInt 8 ((s.getD 0 0).toNat:Int) &&& BitVec.ofInt 8 127).toNat)))),(22,.v (.bool (decide (((s.length:Nat):Int) < 2))))] hW ak fun bX al=>?_
 refine qap al (b:=decide (((s.length:Nat):Int) < 2)) kz (decide_eq_false (by omega)) ?_
 refine wp_skip ?_
 refine qab ?_
 refine qag [0,1,2,3,4,5,6,7,8] kz ?_
 refine qaj [0,1] [2,3,4,5,6,7,8] [(0,.v (.slice A s.length c)),(23,.v (.int .u32 (IntKind.u32.wrap (IntKind.u8.wrap (BitVec.ofInt 8 ((s.getD 0 0).toNat:Int) &&& BitVec.ofInt 8 127).toNat)))),(24,.v (.slice A s.length c))] hW al fun bY aP=>?_
 obtain ⟨bu,bw,am,bE,ac⟩:=Slots.get ho (i:=1) (by first | omega | (simp only [List.length_append,be_length,List.length_cons,List.length_nil] at *; omega))
 refine qam (qaC aP (t:=22) (A:=A) (m:=s.length) (q:=1) (d:=25) kz (e:=5) (size:=1) (bytes:=1) (j:=1) kz am rfl (by first | omega | (simp only [List.length_append,be_length,List.length_cons,List.length_nil] at *; omega)) fun bZ aQ=>?_)
 refine qam (qaM aQ (t:=5) (b:=bu) (o:=bw + 1 * 1) (d:=26) kz (cs:=[.int .u8 ((s.getD 1 0).toNat:Int)]) (v:=.int .u8 ((s.getD 1 0).toNat:Int)) kz (AtF.move ac hW.step nilM qaX).at_ fun b8 aR=>?_)
 refine qaj [4,5,6,7,8] [] [(0,.v (.slice A s.length c)),(4,.v (.int .u32 (IntKind.u32.wrap (BitVec.ofInt 32 (IntKind.u32.wrap (IntKind.u8.wrap (BitVec.ofInt 8 ((s.getD 0 0).toNat:Int) &&& BitVec.ofInt 8 127).toNat)) ||| BitVec.ofInt 32 (IntKind.u32.wrap ((IntKind.u32.wrap (IntKind.u8.wrap (BitVec.ofInt 8 ((s.getD 1 0).toNat:Int) &&& BitVec.ofInt 8 127).toNat)) * 128))).toNat)))] hW aR fun ca aS=>?_
 refine qaf (qab ?_)
 refine wp_seq ?_
 refine qag [0,1,2,3,4] kz ?_
 refine qaj [0] [1,2,3,4] [(0,.v (.slice A s.length c)),(4,.v (.int .u32 (IntKind.u32.wrap (BitVec.ofInt 32 (IntKind.u32.wrap (IntKind.u8.wrap (BitVec.ofInt 8 ((s.getD 0 0).toNat:Int) &&& BitVec.ofInt 8 127).toNat)) ||| BitVec.ofInt 32 (IntKind.u32.wrap ((IntKind.u32.wrap (IntKind.u8.wrap (BitVec.ofInt 8 ((s.getD 1 0).toNat:Int) &&& BitVec.ofInt 8 127).toNat)) * 128))).toNat))),(31,.v (.slice A s.length c))] hW aS fun cb aT=>?_
 refine qam (qaC aT (t:=22) (A:=A) (m:=s.length) (q:=1) (d:=32) kz (e:=5) (size:=1) (bytes:=1) (j:=1) kz am rfl (by first | omega | (simp only [List.length_append,be_length,List.length_cons,List.length_nil] at *; omega)) fun cc aU=>?_)
 refine qam (qaM aU (t:=5) (b:=bu) (o:=bw + 1 * 1) (d:=33) kz (cs:=[.int .u8 ((s.getD 1 0).toNat:Int)]) (v:=.int .u8 ((s.getD 1 0).toNat:Int)) kz (AtF.move ac hW.step nilM qaX).at_ fun cd aV=>?_)
 refine qaj [3,4] [] [(0,.v (.slice A s.length c)),(4,.v (.int .u32 (IntKind.u32.wrap (BitVec.ofInt 32 (IntKind.u32.wrap (IntKind.u8.wrap (BitVec.ofInt 8 ((s.getD 0 0).toNat:Int) &&& BitVec.ofInt 8 127).toNat)) ||| BitVec.ofInt 32 (IntKind.u32.wrap ((IntKind.u32.wrap (IntKind.u8.wrap (BitVec.ofInt 8 ((s.getD 1 0).toNat:Int) &&& BitVec.ofInt 8 127).toNat)) * 128))).toNat))),(35,.v (.bool ((IntKind.u8.wrap (BitVec.ofInt 8 ((s.getD 1 0).toNat:Int) &&& BitVec.ofInt 8 128).toNat) == 0)))] hW aV fun ce ao=>?_
 refine qaf (qab ?_)
 refine qap ao (b:=(IntKind.u8.wrap (BitVec.ofInt 8 ((s.getD 1 0).toNat:Int) &&& BitVec.ofInt 8 128).toNat) == 0) kz ((qcx _ (qbu s 1)).trans (decide_eq_false (by have:=h1; unfold oc at this; omega))) ?_
 refine qar [(0,.v (.slice A s.length c)),(4,.v (.int .u32 (IntKind.u32.wrap (BitVec.ofInt 32 (IntKind.u32.wrap (IntKind.u8.wrap (BitVec.ofInt 8 ((s.getD 0 0).toNat:Int) &&& BitVec.ofInt 8 127).toNat)) ||| BitVec.ofInt 32 (IntKind.u32.wrap ((IntKind.u32.wrap (IntKind.u8.wrap (BitVec.ofInt 8 ((s.getD 1 0).toNat:Int) &&& BitVec.ofInt 8 127).toNat)) * 128))).toNat))),(39,.v (.bool (decide (((s.length:Nat):Int) < 3))))] hW ao fun cm ap=>?_
 refine qap ap (b:=decide (((s.length:Nat):Int) < 3)) kz (decide_eq_false (by omega)) ?_
 refine wp_skip ?_
 refine qab ?_
 refine qag [0,1,2,3,4,5,6,7,8] kz ?_
 refine qaj [0,1] [2,3,4,5,6,7,8] [(0,.v (.slice A s.length c)),(40,.v (.int .u32 (IntKind.u32.wrap (BitVec.ofInt 32 (IntKind.u32.wrap (IntKind.u8.wrap (BitVec.ofInt 8 ((s.getD 0 0).toNat:Int) &&& BitVec.ofInt 8 127).toNat)) ||| BitVec.ofInt 32 (IntKind.u32.wrap ((IntKind.u32.wrap (IntKind.u8.wrap (BitVec.ofInt 8 ((s.getD 1 0).toNat:Int) &&& BitVec.ofInt 8 127).toNat)) * 128))).toNat))),(41,.v (.slice A s.length c))] hW ap fun cq aW=>?_
 obtain ⟨bx,bz,ar,bF,ae⟩:=Slots.get ho (i:=2) (by first | omega | (simp only [List.length_append,be_length,List.length_cons,List.length_nil] at *; omega))
 refine qam (qaC aW (t:=22) (A:=A) (m:=s.length) (q:=2) (d:=42) kz (e:=5) (size:=1) (bytes:=1) (j:=2) kz ar rfl (by first | omega | (simp only [List.length_append,be_length,List.length_cons,List.length_nil] at *; omega)) fun cr aX=>?_)
 refine qam (qaM aX (t:=5) (b:=bx) (o:=bz + 2 * 1) (d:=43) kz (cs:=[.int .u8 ((s.getD 2 0).toNat:Int)]) (v:=.int .u8 ((s.getD 2 0).toNat:Int)) kz (AtF.move ae hW.step nilM qaX).at_ fun cu aY=>?_)
 refine qaj [4,5,6,7,8] [] [(0,.v (.slice A s.length c)),(4,.v (.int .u32 (IntKind.u32.wrap (BitVec.ofInt 32 (IntKind.u32.wrap (BitVec.ofInt 32 (IntKind.u32.wrap (IntKind.u8.wrap (BitVec.ofInt 8 ((s.getD 0 0).toNat:Int) &&& BitVec.ofInt 8 127).toNat)) ||| BitVec.ofInt 32 (IntKind.u32.wrap ((IntKind.u32.wrap (IntKind.u8.wrap (BitVec.ofInt 8 ((s.getD 1 0).toNat:Int) &&& BitVec.ofInt 8 127).toNat)) * 128))).toNat) ||| BitVec.ofInt 32 (IntKind.u32.wrap ((IntKind.u32.wrap (IntKind.u8.wrap (BitVec.ofInt 8 ((s.getD 2 0).toNat:Int) &&& BitVec.ofInt 8 127).toNat)) * 16384))).toNat)))] hW aY fun cw aZ=>?_
 refine qaf (qab ?_)
 refine wp_seq ?_
 refine qag [0,1,2,3,4] kz ?_
 refine qaj [0] [1,2,3,4] [(0,.v (.slice A s.length c)),(4,.v (.int .u32 (IntKind.u32.wrap (BitVec.ofInt 32 (IntKind.u32.wrap (BitVec.ofInt 32 (IntKind.u32.wrap (IntKind.u8.wrap (BitVec.ofInt 8 ((s.getD 0 0).toNat:Int) &&& BitVec.ofInt 8 127).toNat)) ||| BitVec.ofInt 32 (IntKind.u32.wrap ((IntKind.u32.wrap (IntKind.u8.wrap (BitVec.ofInt 8 ((s.getD 1 0).toNat:Int) &&& BitVec.ofInt 8 127).toNat)) * 128))).toNat) ||| BitVec.ofInt 32 (IntKind.u32.wrap ((IntKind.u32.wrap (IntKind.u8.wrap (BitVec.ofInt 8 ((s.getD 2 0).toNat:Int) &&& BitVec.ofInt 8 127).toNat)) * 16384))).toNat))),(48,.v (.slice A s.length c))] hW aZ fun cz ba=>?_
 refine qam (qaC ba (t:=22) (A:=A) (m:=s.length) (q:=2) (d:=49) kz (e:=5) (size:=1) (bytes:=1) (j:=2) kz ar rfl (by first | omega | (simp only [List.length_append,be_length,List.length_cons,List.length_nil] at *; omega)) fun cA bd=>?_)
 refine qam (qaM bd (t:=5) (b:=bx) (o:=bz + 2 * 1) (d:=50) kz (cs:=[.int .u8 ((s.getD 2 0).toNat:Int)]) (v:=.int .u8 ((s.getD 2 0).toNat:Int)) kz (AtF.move ae hW.step nilM qaX).at_ fun cB bf=>?_)
 refine qaj [3,4] [] [(0,.v (.slice A s.length c)),(4,.v (.int .u32 (IntKind.u32.wrap (BitVec.ofInt 32 (IntKind.u32.wrap (BitVec.ofInt 32 (IntKind.u32.wrap (IntKind.u8.wrap (BitVec.ofInt 8 ((s.getD 0 0).toNat:Int) &&& BitVec.ofInt 8 127).toNat)) ||| BitVec.ofInt 32 (IntKind.u32.wrap ((IntKind.u32.wrap (IntKind.u8.wrap (BitVec.ofInt 8 ((s.getD 1 0).toNat:Int) &&& BitVec.ofInt 8 127).toNat)) * 128))).toNat) ||| BitVec.ofInt 32 (IntKind.u32.wrap ((IntKind.u32.wrap (IntKind.u8.wrap (BitVec.ofInt 8 ((s.getD 2 0).toNat:Int) &&& BitVec.ofInt 8 127).toNat)) * 16384))).toNat))),(52,.v (.bool ((IntKind.u8.wrap (BitVec.ofInt 8 ((s.getD 2 0).toNat:Int) &&& BitVec.ofInt 8 128).toNat) == 0)))] hW bf fun cC au=>?_
 refine qaf (qab ?_)
 refine qap au (b:=(IntKind.u8.wrap (BitVec.ofInt 8 ((s.getD 2 0).toNat:Int) &&& BitVec.ofInt 8 128).toNat) == 0) kz ((qcx _ (qbu s 2)).trans (decide_eq_false (by have:=h2; unfold oc at this; omega))) ?_
 refine qar [(0,.v (.slice A s.length c)),(4,.v (.int .u32 (IntKind.u32.wrap (BitVec.ofInt 32 (IntKind.u32.wrap (BitVec.ofInt 32 (IntKind.u32.wrap (IntKind.u8.wrap (BitVec.ofInt 8 ((s.getD 0 0).toNat:Int) &&& BitVec.ofInt 8 127).toNat)) ||| BitVec.ofInt 32 (IntKind.u32.wrap ((IntKind.u32.wrap (IntKind.u8.wrap (BitVec.ofInt 8 ((s.getD 1 0).toNat:Int) &&& BitVec.ofInt 8 127).toNat)) * 128))).toNat) ||| BitVec.ofInt 32 (IntKind.u32.wrap ((IntKind.u32.wrap (IntKind.u8.wrap (BitVec.ofInt 8 ((s.getD 2 0).toNat:Int) &&& BitVec.ofInt 8 127).toNat)) * 16384))).toNat))),(56,.v (.bool (decide (((s.length:Nat):Int) < 4))))] hW au fun cD av=>?_
 refine qap av (b:=decide (((s.length:Nat):Int) < 4)) kz (decide_eq_false (by omega)) ?_
 refine wp_skip ?_
 refine qab ?_
 refine qag [0,1,2,3,4,5,6,7,8] kz ?_
 refine qaj [0,1] [2,3,4,5,6,7,8] [(0,.v (.slice A s.length c)),(57,.v (.int .u32 (IntKind.u32.wrap (BitVec.ofInt 32 (IntKind.u32.wrap (BitVec.ofInt 32 (IntKind.u32.wrap (IntKind.u8.wrap (BitVec.ofInt 8 ((s.getD 0 0).toNat:Int) &&& BitVec.ofInt 8 127).toNat)) ||| BitVec.ofInt 32 (IntKind.u32.wrap ((IntKind.u32.wrap (IntKind.u8.wrap (BitVec.ofInt 8 ((s.getD 1 0).toNat:Int) &&& BitVec.ofInt 8 127).toNat)) * 128))).toNat) ||| BitVec.ofInt 32 (IntKind.u32.wrap ((IntKind.u32.wrap (IntKind.u8.wrap (BitVec.ofInt 8 ((s.getD 2 0).toNat:Int) &&& BitVec.ofInt 8 127).toNat)) * 16384))).toNat))),(58,.v (.slice A s.length c))] hW av fun cE bg=>?_
 obtain ⟨bA,bB,aw,bG,af⟩:=Slots.get ho (i:=3) (by first | omega | (simp only [List.length_append,be_length,List.length_cons,List.length_nil] at *; omega))
 refine qam (qaC bg (t:=22) (A:=A) (m:=s.length) (q:=3) (d:=59) kz (e:=5) (size:=1) (bytes:=1) (j:=3) kz aw rfl (by first | omega | (simp only [List.length_append,be_length,List.length_cons,List.length_nil] at *; omega)) fun cG bh=>?_)
 refine qam (qaM bh (t:=5) (b:=bA) (o:=bB + 3 * 1) (d:=60) kz (cs:=[.int .u8 ((s.getD 3 0).toNat:Int)]) (v:=.int .u8 ((s.getD 3 0).toNat:Int)) kz (AtF.move af hW.step nilM qaX).at_ fun cH bj=>?_)
 refine qaj [4,5,6,7,8] [] [(0,.v (.slice A s.length c)),(4,.v (.int .u32 (IntKind.u32.wrap (BitVec.ofInt 32 (IntKind.u32.wrap (BitVec.ofInt 32 (IntKind.u32.wrap (BitVec.ofInt 32 (IntKind.u32.wrap (IntKind.u8.wrap (BitVec.ofInt 8 ((s.getD 0 0).toNat:Int) &&& BitVec.ofInt 8 127).toNat)) ||| BitVec.ofInt 32 (IntKind.u32.wrap ((IntKind.u32.wrap (IntKind.u8.wrap (BitVec.ofInt 8 ((s.getD 1 0).toNat:Int) &&& BitVec.ofInt 8 127).toNat)) * 128))).toNat) ||| BitVec.ofInt 32 (IntKind.u32.wrap ((IntKind.u32.wrap (IntKind.u8.wrap (BitVec.ofInt 8 ((s.getD 2 0).toNat:Int) &&& BitVec.ofInt 8 127).toNat)) * 16384))).toNat) ||| BitVec.ofInt 32 (IntKind.u32.wrap ((IntKind.u32.wrap (IntKind.u8.wrap (BitVec.ofInt 8 ((s.getD 3 0).toNat:Int) &&& BitVec.ofInt 8 127).toNat)) * 2097152))).toNat)))] hW bj fun cI bk=>?_
 refine qaf (qab ?_)
 refine wp_seq ?_
 refine qag [0,1,2,3,4] kz ?_
 refine qaj [0] [1,2,3,4] [(0,.v (.slice A s.length c)),(4,.v (.int .u32 (IntKind.u32.wrap (BitVec.ofInt 32 (IntKind.u32.wrap (BitVec.ofInt 32 (IntKind.u32.wrap (BitVec.ofInt 32 (IntKind.u32.wrap (IntKind.u8.wrap (BitVec.ofInt 8 ((s.getD 0 0).toNat:Int) &&& BitVec.ofInt 8 127).toNat)) ||| BitVec.ofInt 32 (IntKind.u32.wrap ((IntKind.u32.wrap (IntKind.u8.wrap (BitVec.ofInt 8 ((s.getD 1 0).toNat:Int) &&& BitVec.ofInt 8 127).toNat)) * 128))).toNat) ||| BitVec.ofInt 32 (IntKind.u32.wrap ((IntKind.u32.wrap (IntKind.u8.wrap (BitVec.ofInt 8 ((s.getD 2 0).toNat:Int) &&& BitVec.ofInt 8 127).toNat)) * 16384))).toNat) ||| BitVec.ofInt 32 (IntKind.u32.wrap ((IntKind.u32.wrap (IntKind.u8.wrap (BitVec.ofInt 8 ((s.getD 3 0).toNat:Int) &&& BitVec.ofInt 8 127).toNat)) * 2097152))).toNat))),(65,.v (.slice A s.length c))] hW bk fun cJ bn=>?_
 refine qam (qaC bn (t:=22) (A:=A) (m:=s.length) (q:=3) (d:=66) kz (e:=5) (size:=1) (bytes:=1) (j:=3) kz aw rfl (by first | omega | (simp only [List.length_append,be_length,List.length_cons,List.length_nil] at *; omega)) fun cK bo=>?_)
 refine qam (qaM bo (t:=5) (b:=bA) (o:=bB + 3 * 1) (d:=67) kz (cs:=[.int .u8 ((s.getD 3 0).toNat:Int)]) (v:=.int .u8 ((s.getD 3 0).toNat:Int)) kz (AtF.move af hW.step nilM qaX).at_ fun cL bp=>?_)
 refine qaj [3,4] [] [(0,.v (.slice A s.length c)),(4,.v (.int .u32 (IntKind.u32.wrap (BitVec.ofInt 32 (IntKind.u32.wrap (BitVec.ofInt 32 (IntKind.u32.wrap (BitVec.ofInt 32 (IntKind.u32.wrap (IntKind.u8.wrap (BitVec.ofInt 8 ((s.getD 0 0).toNat:Int) &&& BitVec.ofInt 8 127).toNat)) ||| BitVec.ofInt 32 (IntKind.u32.wrap ((IntKind.u32.wrap (IntKind.u8.wrap (BitVec.ofInt 8 ((s.getD 1 0).toNat:Int) &&& BitVec.ofInt 8 127).toNat)) * 128))).toNat) ||| BitVec.ofInt 32 (IntKind.u32.wrap ((IntKind.u32.wrap (IntKind.u8.wrap (BitVec.ofInt 8 ((s.getD 2 0).toNat:Int) &&& BitVec.ofInt 8 127).toNat)) * 16384))).toNat) ||| BitVec.ofInt 32 (IntKind.u32.wrap ((IntKind.u32.wrap (IntKind.u8.wrap (BitVec.ofInt 8 ((s.getD 3 0).toNat:Int) &&& BitVec.ofInt 8 127).toNat)) * 2097152))).toNat))),(69,.v (.bool ((IntKind.u8.wrap (BitVec.ofInt 8 ((s.getD 3 0).toNat:Int) &&& BitVec.ofInt 8 128).toNat) == 0)))] hW bp fun cM ax=>?_
 refine qaf (qab ?_)
 refine qap ax (b:=(IntKind.u8.wrap (BitVec.ofInt 8 ((s.getD 3 0).toNat:Int) &&& BitVec.ofInt 8 128).toNat) == 0) kz ((qcx _ (qbu s 3)).trans (decide_eq_false (by have:=h3; unfold oc at this; omega))) ?_
 refine qar [(0,.v (.slice A s.length c)),(4,.v (.int .u32 (IntKind.u32.wrap (BitVec.ofInt 32 (IntKind.u32.wrap (BitVec.ofInt 32 (IntKind.u32.wrap (BitVec.ofInt 32 (IntKind.u32.wrap (IntKind.u8.wrap (BitVec.ofInt 8 ((s.getD 0 0).toNat:Int) &&& BitVec.ofInt 8 127).toNat)) ||| BitVec.ofInt 32 (IntKind.u32.wrap ((IntKind.u32.wrap (IntKind.u8.wrap (BitVec.ofInt 8 ((s.getD 1 0).toNat:Int) &&& BitVec.ofInt 8 127).toNat)) * 128))).toNat) ||| BitVec.ofInt 32 (IntKind.u32.wrap ((IntKind.u32.wrap (IntKind.u8.wrap (BitVec.ofInt 8 ((s.getD 2 0).toNat:Int) &&& BitVec.ofInt 8 127).toNat)) * 16384))).toNat) ||| BitVec.ofInt 32 (IntKind.u32.wrap ((IntKind.u32.wrap (IntKind.u8.wrap (BitVec.ofInt 8 ((s.getD 3 0).toNat:Int) &&& BitVec.ofInt 8 127).toNat)) * 2097152))).toNat))),(73,.v (.bool (decide (((s.length:Nat):Int) < 5))))] hW ax fun cN ag=>?_
 refine qap ag (b:=decide (((s.length:Nat):Int) < 5)) kz (decide_eq_false (by omega)) ?_
 refine wp_skip ?_
 refine qab ?_
 refine qag [0,1,2,3,4,5,6,7] kz ?_
 refine qaj [0,1] [2,3,4,5,6,7] [(0,.v (.slice A s.length c)),(74,.v (.int .u32 (IntKind.u32.wrap (BitVec.ofInt 32 (IntKind.u32.wrap (BitVec.ofInt 32 (IntKind.u32.wrap (BitVec.ofInt 32 (IntKind.u32.wrap (IntKind.u8.wrap (BitVec.ofInt 8 ((s.getD 0 0).toNat:Int) &&& BitVec.ofInt 8 127).toNat)) ||| BitVec.ofInt 32 (IntKind.u32.wrap ((IntKind.u32.wrap (IntKind.u8.wrap (BitVec.ofInt 8 ((s.getD 1 0).toNat:Int) &&& BitVec.ofInt 8 127).toNat)) * 128))).toNat) ||| BitVec.ofInt 32 (IntKind.u32.wrap ((IntKind.u32.wrap (IntKind.u8.wrap (BitVec.ofInt 8 ((s.getD 2 0).toNat:Int) &&& BitVec.ofInt 8 127).toNat)) * 16384))).toNat) ||| BitVec.ofInt 32 (IntKind.u32.wrap ((IntKind.u32.wrap (IntKind.u8.wrap (BitVec.ofInt 8 ((s.getD 3 0).toNat:Int) &&& BitVec.ofInt 8 127).toNat)) * 2097152))).toNat))),(75,.v (.slice A s.length c))] hW ag fun bH ay=>?_
 obtain ⟨az,aA,ah,bC,aa⟩:=Slots.get ho (i:=4) (by first | omega | (simp only [List.length_append,be_length,List.length_cons,List.length_nil] at *; omega))
 refine qam (qaC ay (t:=22) (A:=A) (m:=s.length) (q:=4) (d:=76) kz (e:=5) (size:=1) (bytes:=1) (j:=4) kz ah rfl (by first | omega | (simp only [List.length_append,be_length,List.length_cons,List.length_nil] at *; omega)) fun bI aB=>?_)
 refine qam (qaM aB (t:=5) (b:=az) (o:=aA + 4 * 1) (d:=77) kz (cs:=[.int .u8 ((s.getD 4 0).toNat:Int)]) (v:=.int .u8 ((s.getD 4 0).toNat:Int)) kz (AtF.move aa hW.step nilM qaX).at_ fun bJ aC=>?_)
 refine qaj [4,5,6,7] [] [(0,.v (.slice A s.length c)),(4,.v (.int .u32 (IntKind.u32.wrap (BitVec.ofInt 32 (IntKind.u32.wrap (BitVec.ofInt 32 (IntKind.u32.wrap (BitVec.ofInt 32 (IntKind.u32.wrap (BitVec.ofInt 32 (IntKind.u32.wrap (IntKind.u8.wrap (BitVec.ofInt 8 ((s.getD 0 0).toNat:Int) &&& BitVec.ofInt 8 127).toNat)) ||| BitVec.ofInt 32 (IntKind.u32.wrap ((IntKind.u32.wrap (IntKind.u8.wrap (BitVec.ofInt 8 ((s.getD 1 0).toNat:Int) &&& BitVec.ofInt 8 127).toNat)) * 128))).toNat) ||| BitVec.ofInt 32 (IntKind.u32.wrap ((IntKind.u32.wrap (IntKind.u8.wrap (BitVec.ofInt 8 ((s.getD 2 0).toNat:Int) &&& BitVec.ofInt 8 127).toNat)) * 16384))).toNat) ||| BitVec.ofInt 32 (IntKind.u32.wrap ((IntKind.u32.wrap (IntKind.u8.wrap (BitVec.ofInt 8 ((s.getD 3 0).toNat:Int) &&& BitVec.ofInt 8 127).toNat)) * 2097152))).toNat) ||| BitVec.ofInt 32 (IntKind.u32.wrap ((IntKind.u32.wrap ((s.getD 4 0).toNat:Int)) * 268435456))).toNat)))] hW aC fun bK aD=>?_
 refine qaf (qab ?_)
 refine wp_seq ?_
 refine qag [0,1,2,3] kz ?_
 refine qaj [0] [1,2,3] [(4,.v (.int .u32 (IntKind.u32.wrap (BitVec.ofInt 32 (IntKind.u32.wrap (BitVec.ofInt 32 (IntKind.u32.wrap (BitVec.ofInt 32 (IntKind.u32.wrap (BitVec.ofInt 32 (IntKind.u32.wrap (IntKind.u8.wrap (BitVec.ofInt 8 ((s.getD 0 0).toNat:Int) &&& BitVec.ofInt 8 127).toNat)) ||| BitVec.ofInt 32 (IntKind.u32.wrap ((IntKind.u32.wrap (IntKind.u8.wrap (BitVec.ofInt 8 ((s.getD 1 0).toNat:Int) &&& BitVec.ofInt 8 127).toNat)) * 128))).toNat) ||| BitVec.ofInt 32 (IntKind.u32.wrap ((IntKind.u32.wrap (IntKind.u8.wrap (BitVec.ofInt 8 ((s.getD 2 0).toNat:Int) &&& BitVec.ofInt 8 127).toNat)) * 16384))).toNat) ||| BitVec.ofInt 32 (IntKind.u32.wrap ((IntKind.u32.wrap (IntKind.u8.wrap (BitVec.ofInt 8 ((s.getD 3 0).toNat:Int) &&& BitVec.ofInt 8 127).toNat)) * 2097152))).toNat) ||| BitVec.ofInt 32 (IntKind.u32.wrap ((IntKind.u32.wrap ((s.getD 4 0).toNat:Int)) * 268435456))).toNat))),(81,.v (.slice A s.length c))] hW aD fun bL aE=>?_
 refine qam (qaC aE (t:=22) (A:=A) (m:=s.length) (q:=4) (d:=82) kz (e:=5) (size:=1) (bytes:=1) (j:=4) kz ah rfl (by first | omega | (simp only [List.length_append,be_length,List.length_cons,List.length_nil] at *; omega)) fun bM aF=>?_)
 refine qam (qaM aF (t:=5) (b:=az) (o:=aA + 4 * 1) (d:=83) kz (cs:=[.int .u8 ((s.getD 4 0).toNat:Int)]) (v:=.int .u8 ((s.getD 4 0).toNat:Int)) kz (AtF.move aa hW.step nilM qaX).at_ fun bN aG=>?_)
 refine qaj [3] [] [(4,.v (.int .u32 (IntKind.u32.wrap (BitVec.ofInt 32 (IntKind.u32.wrap (BitVec.ofInt 32 (IntKind.u32.wrap (BitVec.ofInt 32 (IntKind.u32.wrap (BitVec.ofInt 32 (IntKind.u32.wrap (IntKind.u8.wrap (BitVec.ofInt 8 ((s.getD 0 0).toNat:Int) &&& BitVec.ofInt 8 127).toNat)) ||| BitVec.ofInt 32 (IntKind.u32.wrap ((IntKind.u32.wrap (IntKind.u8.wrap (BitVec.ofInt 8 ((s.getD 1 0).toNat:Int) &&& BitVec.ofInt 8 127).toNat)) * 128))).toNat) ||| BitVec.ofInt 32 (IntKind.u32.wrap ((IntKind.u32.wrap (IntKind.u8.wrap (BitVec.ofInt 8 ((s.getD 2 0).toNat:Int) &&& BitVec.ofInt 8 127).toNat)) * 16384))).toNat) ||| BitVec.ofInt 32 (IntKind.u32.wrap ((IntKind.u32.wrap (IntKind.u8.wrap (BitVec.ofInt 8 ((s.getD 3 0).toNat:Int) &&& BitVec.ofInt 8 127).toNat)) * 2097152))).toNat) ||| BitVec.ofInt 32 (IntKind.u32.wrap ((IntKind.u32.wrap ((s.getD 4 0).toNat:Int)) * 268435456))).toNat))),(84,.v (.bool (decide (((s.getD 4 0).toNat:Int) ≤ 15))))] hW aG fun bO ai=>?_
 refine qaf (qab ?_)
 refine qaU ai (b:=decide (((s.getD 4 0).toNat:Int) ≤ 15)) kz (decide_eq_true (by have:=h4; unfold oc at this; omega)) ?_
 refine qar [(2,.v (.int .u32 (IntKind.u32.wrap (BitVec.ofInt 32 (IntKind.u32.wrap (BitVec.ofInt 32 (IntKind.u32.wrap (BitVec.ofInt 32 (IntKind.u32.wrap (BitVec.ofInt 32 (IntKind.u32.wrap (IntKind.u8.wrap (BitVec.ofInt 8 ((s.getD 0 0).toNat:Int) &&& BitVec.ofInt 8 127).toNat)) ||| BitVec.ofInt 32 (IntKind.u32.wrap ((IntKind.u32.wrap (IntKind.u8.wrap (BitVec.ofInt 8 ((s.getD 1 0).toNat:Int) &&& BitVec.ofInt 8 127).toNat)) * 128))).toNat) ||| BitVec.ofInt 32 (IntKind.u32.wrap ((IntKind.u32.wrap (IntKind.u8.wrap (BitVec.ofInt 8 ((s.getD 2 0).toNat:Int) &&& BitVec.ofInt 8 127).toNat)) * 16384))).toNat) ||| BitVec.ofInt 32 (IntKind.u32.wrap ((IntKind.u32.wrap (IntKind.u8.wrap (BitVec.ofInt 8 ((s.getD 3 0).toNat:Int) &&& BitVec.ofInt 8 127).toNat)) * 2097152))).toNat) ||| BitVec.ofInt 32 (IntKind.u32.wrap ((IntKind.u32.wrap ((s.getD 4 0).toNat:Int)) * 268435456))).toNat))),(3,.v (.int .i64 5))] hW ai fun bP aH=>?_
 refine wp_ret ?_
 refine qao ?_
 refine qc7 ?_
 refine qaJ aH hW.cells (v:=.tuple #[.int .u32 (IntKind.u32.wrap (BitVec.ofInt 32 (IntKind.u32.wrap (BitVec.ofInt 32 (IntKind.u32.wrap (BitVec.ofInt 32 (IntKind.u32.wrap (BitVec.ofInt 32 (IntKind.u32.wrap (IntKind.u8.wrap (BitVec.ofInt 8 ((s.getD 0 0).toNat:Int) &&& BitVec.ofInt 8 127).toNat)) ||| BitVec.ofInt 32 (IntKind.u32.wrap ((IntKind.u32.wrap (IntKind.u8.wrap (BitVec.ofInt 8 ((s.getD 1 0).toNat:Int) &&& BitVec.ofInt 8 127).toNat)) * 128))).toNat) ||| BitVec.ofInt 32 (IntKind.u32.wrap ((IntKind.u32.wrap (IntKind.u8.wrap (BitVec.ofInt 8 ((s.getD 2 0).toNat:Int) &&& BitVec.ofInt 8 127).toNat)) * 16384))).toNat) ||| BitVec.ofInt 32 (IntKind.u32.wrap ((IntKind.u32.wrap (IntKind.u8.wrap (BitVec.ofInt 8 ((s.getD 3 0).toNat:Int) &&& BitVec.ofInt 8 127).toNat)) * 2097152))).toNat) ||| BitVec.ofInt 32 (IntKind.u32.wrap ((IntKind.u32.wrap ((s.getD 4 0).toNat:Int)) * 268435456))).toNat),.int .i64 5]) kz ?_
 have e_:=uv_5 (oc s 0) (oc s 1) (oc s 2) (oc s 3) (oc s 4) (qbu s 0) (qbu s 1) (qbu s 2) (qbu s 3) (by omega)
 refine ⟨congrArg (fun z_:Int=>Ending.returned (.tuple #[.int .u32 z_,.int .i64 5])) (Eq.trans e_ ?_),hW.step⟩
 omega
theorem rUv (x:Nat) (hx:x < 4294967296) (rest:Bs) {A:Option Addr} {c:Nat} {w:World} {F:Nat → Nat → Prop} (ho:Octs w F A c (uv x ++ rest)) :
  Calls Tryd.prog 60 #[.slice A (uv x ++ rest).length c] w (qbO w (.tuple #[.int .u32 ((x:Nat):Int),.int .i64 (((uv x).length:Nat):Int)])):=by
 have hl:=qif hx
 have hL:(uv x ++ rest).length = (uv x).length + rest.length:=List.length_append
 by_cases h1:x < 128
 ·rw [if_pos h1] at hl
  have h:=rUv1 (uv x ++ rest) ho (by omega) x (by rw [qfx,if_pos h1]) h1
  rw [hl]; simpa using h
 rw [if_neg h1] at hl
 have o0:oc (uv x ++ rest) 0 = x % 128 + 128:=by rw [qfx,if_neg h1]
 have o1:oc (uv x ++ rest) 1 = oc (uv (x / 128) ++ rest) 0:=qdC (by omega) rest 0
 by_cases h2:x < 16384
 ·rw [if_pos h2] at hl
  rw [qfx,if_pos (by omega)] at o1
  have h:=rUv2 (uv x ++ rest) ho (by omega) (x % 128) (x / 128) o0 o1 (by omega) (by omega)
  rw [show x % 128 + x / 128 * 128 = x by omega] at h
  rw [hl]; exact h
 rw [if_neg h2] at hl
 have o2:oc (uv x ++ rest) 2 = oc (uv (x / 128 / 128) ++ rest) 0:=(qdC (by omega) rest 1).trans (qdC (by omega) rest 0)
 rw [qfx,if_neg (by omega)] at o1
 by_cases h3:x < 2097152
 ·rw [if_pos h3] at hl
  rw [qfx,if_pos (by omega)] at o2
  have h:=rUv3 (uv x ++ rest) ho (by omega) (x % 128) (x / 128 % 128) (x / 128 / 128) o0 o1 o2 (by omega) (by omega) (by omega)
  rw [show x % 128 + x / 128 % 128 * 128 + x / 128 / 128 * 16384 = x by omega] at h
  rw [hl]; exact h
 rw [if_neg h3] at hl
 have o3:oc (uv x ++ rest) 3 = oc (uv (x / 128 / 128 / 128) ++ rest) 0:=(qdC (by omega) rest 2).trans ((qdC (by omega) rest 1).trans (qdC (by omega) rest 0))
 rw [qfx,if_neg (by omega)] at o2
 by_cases h4:x < 268435456
 ·rw [if_pos h4] at hl
  rw [qfx,if_pos (by omega)] at o3
  have h:=rUv4 (uv x ++ rest) ho (by omega) (x % 128) (x / 128 % 128) (x / 128 / 128 % 128) (x / 128 / 128 / 128) o0 o1 o2 o3 (by omega) (by omega) (by omega) (by omega)
  rw [show x % 128 + x / 128 % 128 * 128 + x / 128 / 128 % 128 * 16384 + x / 128 / 128 / 128 * 2097152 = x by omega] at h
  rw [hl]; exact h
 rw [if_neg h4] at hl
 have o4:oc (uv x ++ rest) 4 = oc (uv (x / 128 / 128 / 128 / 128) ++ rest) 0:=(qdC (by omega) rest 3).trans ((qdC (by omega) rest 2).trans ((qdC (by omega) rest 1).trans (qdC (by omega) rest 0)))
 rw [qfx,if_neg (by omega)] at o3
 rw [qfx,if_pos (by omega)] at o4
 have h:=rUv5 (uv x ++ rest) ho (by omega) (x % 128) (x / 128 % 128) (x / 128 / 128 % 128) (x / 128 / 128 / 128 % 128) (x / 128 / 128 / 128 / 128) o0 o1 o2 o3 o4 (by omega) (by omega) (by omega) (by omega) (by omega)
 rw [show x % 128 + x / 128 % 128 * 128 + x / 128 / 128 % 128 * 16384 + x / 128 / 128 / 128 % 128 * 2097152 + x / 128 / 128 / 128 / 128 * 268435456 = x by omega] at h
 rw [hl]; exact h
theorem qeB (x:Nat) (hx:x < 4294967296) (rest:Bs)  {br:Nat} {A:Option Addr} {m c:Nat} {w:World} {F:Nat → Nat → Prop} (hst:Str w br [.slice A m c,.bool false]) (hr:RdS w F A m c (uv x ++ rest)) (hFd:∀ b o,F b o → ¬ RdM br b o) :
  Calls Tryd.prog 46 #[.pointer (some ⟨br,0,none⟩)] w (RdPost w br F rest fun v w'=>v = .int .u32 ((x:Nat):Int)):=by
 obtain ⟨hm,ho⟩:=hr
 subst hm
 have hle:=ho.le
 have hpos:=qhu x
 refine enter (n:=31) Tryd.func46 rfl Tryd.ntmps46 kz fun a hE=>?_
 have hW:WOk w (RdM br) w [⟨br,0,[.slice A ((uv x ++ rest).length) c,.bool false],true⟩] []:=WOk.startStr hst
 have hE1:=(hE.grow ⟨br,0,[.slice A ((uv x ++ rest).length) c,.bool false],true⟩).recast 0 (.v (.pointer (some ⟨br,0,none⟩))) (.p 0 0) rfl rfl (Nat.le_of_ble_eq_true (n:=1) rfl)
 refine qar [(0,.p 0 0)] hW hE1 fun a1 hE2=>?_
 refine qag [0,1,2,3,4,5,6,7,8,9] kz ?_
 refine qaj [0,1,2,3] [4,5,6,7,8,9] [(0,.p 0 0),(9,.v (.slice A ((uv x ++ rest).length) c))] hW hE2 fun a3 hE4=>?_
 refine qam (qal hE4 (f:=60) (vs:=[.slice A ((uv x ++ rest).length) c]) (d:=10) kz Tryd.call60 (rUv x hx rest (ho.move hW.step (fun b_ o_ h_ _=>hFd b_ o_ h_) (hW.immM hFd))) ?_)
 rintro e_ w6 ⟨rfl,hs5⟩
 refine ⟨_,rfl,fun a7 hE8=>?_⟩
 have hW9:=hW.next_nil hs5
 have aj:=hW.frN hs5
 refine qaj [5,6,7,8,9] [] [(0,.p 0 0),(3,.v (.int .u32 ((x:Nat):Int))),(4,.v (.int .i64 (((uv x).length:Nat):Int)))] hW9 hE8 fun al ac=>?_
 refine qaf (qab ?_)
 refine wp_seq ?_
 refine qar [(0,.p 0 0),(3,.v (.int .u32 ((x:Nat):Int))),(4,.v (.int .i64 (((uv x).length:Nat):Int))),(14,.v (.bool (decide ((((uv x).length:Nat):Int) ≤ 0))))] hW9 ac fun am ab=>?_
 refine qap ab (b:=decide ((((uv x).length:Nat):Int) ≤ 0)) kz (decide_eq_false (by omega)) ?_
 refine wp_skip ?_
 refine qab ?_
 refine qag [0,1,2,3,4,5,6,7,8,9] kz ?_
 refine qaj [0,1,2,3,4,5] [6,7,8,9] [(3,.v (.int .u32 ((x:Nat):Int))),(21,.p 0 0),(25,.v (.slice A ((uv x ++ rest).length) c)),(26,.v (.int .i64 (((uv x).length:Nat):Int)))] hW9 ab fun ao ae=>?_
 refine qam (qcp ae (t:=22) (A:=A) (m:=((uv x ++ rest).length)) (cp:=c) (q:=(((uv x).length:Nat):Int)) (d:=27) (j:=((uv x).length)) kz (e:=5) (bytes:=1) kz (rfl) (by first | omega | (simp only [List.length_append,be_length,List.length_cons,List.length_nil] at *; omega)) fun ap af=>?_)
 refine qaj [7,8] [9] [(3,.v (.int .u32 ((x:Nat):Int))),(27,.v (.slice (cutA A c ((uv x).length)) (((uv x ++ rest).length) - ((uv x).length)) (c - ((uv x).length)))),(29,.p 0 0)] hW9 af fun ar ag=>?_
 refine qam (qav hW9 ag (oi:=0) (cs:=[.slice (cutA A c ((uv x).length)) (((uv x ++ rest).length) - ((uv x).length)) (c - ((uv x).length)),.bool false]) kz fun au ak aa ah=>?_)
 refine qaf (qab ?_)
 refine qar [(2,.v (.int .u32 ((x:Nat):Int)))] aa ah fun av ai=>?_
 refine wp_ret ?_
 refine qaJ ai aa.cells (v:=.int .u32 ((x:Nat):Int)) kz ?_
 exact ⟨_,_,_,_,rfl,Str.of aa 0 rfl,RdS.drop (s:=uv x) ⟨rfl,ho.move aa.step (fun b_ o_ h_ _=>hFd b_ o_ h_) qaX⟩ (rfl),aa.step,rfl⟩
theorem qjF (X:Bs) (rest:Bs)  {br:Nat} {A:Option Addr} {m c:Nat} {w:World} {F:Nat → Nat → Prop} (hst:Str w br [.slice A m c,.bool false]) (hr:RdS w F A m c (X ++ rest)) (hFd:∀ b o,F b o → ¬ RdM br b o) :
  Calls Tryd.prog 48 #[.pointer (some ⟨br,0,none⟩),.int .i64 ((X.length:Nat):Int)] w (RdPost w br F rest fun v w'=>∃ A2,v = .slice A2 X.length X.length ∧ Octs w' F A2 X.length X):=by
 obtain ⟨hm,ho⟩:=hr
 subst hm
 have hle:=ho.le
 refine enter (n:=40) Tryd.func48 rfl Tryd.ntmps48 kz fun a hE=>?_
 have hW:WOk w (RdM br) w [⟨br,0,[.slice A ((X ++ rest).length) c,.bool false],true⟩] []:=WOk.startStr hst
 have hE1:=(hE.grow ⟨br,0,[.slice A ((X ++ rest).length) c,.bool false],true⟩).recast 0 (.v (.pointer (some ⟨br,0,none⟩))) (.p 0 0) rfl rfl (Nat.le_of_ble_eq_true (n:=1) rfl)
 refine qar [(0,.p 0 0),(1,.v (.int .i64 ((X.length:Nat):Int)))] hW hE1 fun a1 hE2=>?_
 refine wp_seq ?_
 refine qag [0,1,2,3,4,5,6,7,8,9,10] kz ?_
 refine qaj [0,1,2,3,4,5,6,7] [8,9,10] [(0,.p 0 0),(1,.v (.int .i64 ((X.length:Nat):Int))),(13,.v (.bool (decide ((((X ++ rest).length:Nat):Int) < ((X.length:Nat):Int)))))] hW hE2 fun a3 hE4=>?_
 have hc5:(decide ((((X ++ rest).length:Nat):Int) < ((X.length:Nat):Int))) = false:=decide_eq_false (by first | omega | (simp only [List.length_append,be_length,List.length_cons,List.length_nil] at *; omega))
 have hE6:=hE4.cast (env':=[(0,.p 0 0),(1,.v (.int .i64 ((X.length:Nat):Int))),(13,.v (.bool false))]) (by rw [hc5])
 refine qaj [8,9,10] [] [(0,.p 0 0),(1,.v (.int .i64 ((X.length:Nat):Int))),(16,.v (.bool (decide (((X.length:Nat):Int) < 0))))] hW hE6 fun a7 hE8=>?_
 refine qaf (qab ?_)
 refine qap hE8 (b:=decide (((X.length:Nat):Int) < 0)) kz (decide_eq_false (by first | omega | (simp only [List.length_append,be_length,List.length_cons,List.length_nil] at *; omega))) ?_
 refine wp_skip ?_
 refine qab ?_
 refine qag [0,1,2,3,4,5,6,7] kz ?_
 refine qaj [0,1,2,3,4,5] [6,7] [(0,.p 0 0),(1,.v (.int .i64 ((X.length:Nat):Int))),(26,.v (.slice A ((X ++ rest).length) c)),(27,.v (.int .i64 ((X.length:Nat):Int))),(28,.v (.int .i64 ((X.length:Nat):Int)))] hW hE8 fun a9 ab=>?_
 refine qam (qiS ab (t:=22) (A:=A) (m:=((X ++ rest).length)) (cp:=c) (k:=.i64) (q:=((X.length:Nat):Int)) (d:=29) (j:=X.length) kz (e:=5) (bytes:=1) kz (rfl) (by first | omega | (simp only [List.length_append,be_length,List.length_cons,List.length_nil] at *; omega)) fun al ac=>?_)
 refine qaj [7] [] [(0,.p 0 0),(1,.v (.int .i64 ((X.length:Nat):Int))),(5,.v (.slice A X.length X.length))] hW ac fun am ae=>?_
 refine qaf (qab ?_)
 refine qag [0,1,2,3,4,5,6,7,8,9] kz ?_
 refine qaj [0,1,2,3,4,5] [6,7,8,9] [(5,.v (.slice A X.length X.length)),(30,.p 0 0),(34,.v (.slice A ((X ++ rest).length) c)),(35,.v (.int .i64 ((X.length:Nat):Int)))] hW ae fun ao af=>?_
 refine qam (qcp af (t:=22) (A:=A) (m:=((X ++ rest).length)) (cp:=c) (q:=((X.length:Nat):Int)) (d:=36) (j:=X.length) kz (e:=5) (bytes:=1) kz (rfl) (by first | omega | (simp only [List.length_append,be_length,List.length_cons,List.length_nil] at *; omega)) fun ap ag=>?_)
 refine qaj [7,8] [9] [(5,.v (.slice A X.length X.length)),(36,.v (.slice (cutA A c X.length) (((X ++ rest).length) - X.length) (c - X.length))),(38,.p 0 0)] hW ag fun ar ah=>?_
 refine qam (qav hW ah (oi:=0) (cs:=[.slice (cutA A c X.length) (((X ++ rest).length) - X.length) (c - X.length),.bool false]) kz fun au ak aa ai=>?_)
 refine qaf (qab ?_)
 refine qar [(4,.v (.slice A X.length X.length))] aa ai fun av aj=>?_
 refine wp_ret ?_
 refine qaJ aj aa.cells (v:=.slice A X.length X.length) kz ?_
 exact ⟨_,_,_,_,rfl,Str.of aa 0 rfl,RdS.drop (s:=X) ⟨rfl,ho.move aa.step (fun b_ o_ h_ _=>hFd b_ o_ h_) qaX⟩ (rfl),aa.step,A,rfl,RdS.front (s:=X) ⟨rfl,ho.move aa.step (fun b_ o_ h_ _=>hFd b_ o_ h_) qaX⟩ rfl⟩
theorem qeV {br:Nat} {A:Option Addr} {m c:Nat} {w:World} (hst:Str w br [.slice A m c,.bool false]) :
  Calls Tryd.prog 52 #[.pointer (some ⟨br,0,none⟩)] w (fun e w'=>e = .returned .nilIface ∧ w' = w):=by
 refine enter (n:=8) Tryd.func52 rfl Tryd.ntmps52 kz fun a hE=>?_
 have hW:WOk w (RdM br) w [⟨br,0,[.slice A m c,.bool false],true⟩] []:=WOk.startStr hst
 have hE1:=(hE.grow ⟨br,0,[.slice A m c,.bool false],true⟩).recast 0 (.v (.pointer (some ⟨br,0,none⟩))) (.p 0 0) rfl rfl (Nat.le_of_ble_eq_true (n:=1) rfl)
 refine qar [(0,.p 0 0)] hW hE1 fun a1 hE2=>?_
 refine wp_seq ?_
 refine qar [(6,.v (.bool false))] hW hE2 fun a3 hE4=>?_
 refine qap hE4 (b:=false) kz rfl ?_
 refine wp_skip ?_
 refine qab ?_
 refine qar [(2,.v (.nilIface))] hW hE4 fun a5 hE6=>?_
 refine wp_ret ?_
 refine qaJ hE6 hW.cells (v:=.nilIface) kz ?_
 exact ⟨rfl,rfl⟩
theorem qhN (x:Int × Bs) (u:List (Int × Bs)):qdZ (x :: u) = tagR x.1 x.2 ++ qdZ u:=by unfold qdZ; rw [List.flatMap_cons]
theorem qhO {u:List (Int × Bs)} {j:Nat} {k:Int} {x:Bs} (h:u[j]? = some (k,x)) (rest:Bs):qdZ (u.drop j) ++ rest = uv k.toNat ++ (uv x.length ++ (x ++ (qdZ (u.drop (j + 1)) ++ rest))):=by
 obtain ⟨hlt,he⟩:=List.getElem?_eq_some_iff.1 h
 rw [List.drop_eq_getElem_cons hlt,he,qhN]
 simp only [tagR,List.append_assoc]
theorem qk7 (x:Int) (rest:Bs)  {br:Nat} {A:Option Addr} {m c:Nat} {w:World} {F:Nat → Nat → Prop} (hst:Str w br [.slice A m c,.bool false]) (hr:RdS w F A m c ((be 8 x) ++ rest)) (hFd:∀ b o,F b o → ¬ RdM br b o) :
  Calls Tryd.prog 44 #[.pointer (some ⟨br,0,none⟩)] w (RdPost w br (Fp F w) rest fun v w'=>v = .int .i64 (IntKind.i64.wrap x)):=by
 refine enter (n:=6) Tryd.func44 rfl Tryd.ntmps44 kz fun a hE=>?_
 have hW:WOk w (RdM br) w [⟨br,0,[.slice A m c,.bool false],true⟩] []:=WOk.startStr hst
 have hE1:=(hE.grow ⟨br,0,[.slice A m c,.bool false],true⟩).recast 0 (.v (.pointer (some ⟨br,0,none⟩))) (.p 0 0) rfl rfl (Nat.le_of_ble_eq_true (n:=1) rfl)
 refine qar [(0,.p 0 0)] hW hE1 fun a1 hE2=>?_
 refine qag [0,1,2,3] kz ?_
 refine qaj [0] [1,2,3] [(3,.p 0 0)] hW hE2 fun a3 hE4=>?_
 refine qam (qal hE4 (f:=59) (vs:=[.pointer (some ⟨br,0,none⟩)]) (d:=4) kz Tryd.call59 (qkB x (rest) (Str.of hW 0 rfl) (hr.move hW.step (fun b_ o_ h_ _=>hFd b_ o_ h_) (hW.immM hFd)) (qfe 0 rfl)) ?_)
 rintro e_ w5 ⟨_,A6,n7,c8,rfl,hs9,ac,ab,rfl⟩
 obtain ⟨aa,ae,aj⟩:=hW.wrote 0 [⟨br,0,[.slice A6 n7 c8,.bool false],true⟩] rfl ab hs9
 have af:=ac.move (Step.refl _ Nil) nilM (fun b_ o_ h_ _=>ae.to b_ o_ h_)
 refine ⟨_,rfl,fun ak ag=>?_⟩
 have ah:EnvOk 6 [⟨br,0,[.slice A6 n7 c8,.bool false],true⟩] [(4,.v (.int .u64 (IntKind.u64.wrap x))),(3,.p 0 0)] _:=ag.places (⟨rfl,rfl,trivial⟩)
 refine qaj [2,3] [] [(2,.v (.int .i64 (IntKind.i64.wrap (IntKind.u64.wrap x))))] aa ah fun al ai=>?_
 refine qaf (qab ?_)
 refine wp_ret ?_
 refine qaJ ai aa.cells (v:=.int .i64 (IntKind.i64.wrap (IntKind.u64.wrap x))) kz ?_
 refine ⟨_,_,_,_,rfl,Str.of aa 0 rfl,(af.move (Step.refl _ Nil) nilM qb9),aa.step,by rw [qky]⟩
theorem qet (n:Nat) (hn:n ≤ 32768) (rest:Bs) (hl:n ≤ rest.length + 1) {br:Nat} {A:Option Addr} {m c:Nat} {w:World} {F:Nat → Nat → Prop} (hst:Str w br [.slice A m c,.bool false]) (hr:RdS w F A m c ((uv n) ++ rest)) (hFd:∀ b o,F b o → ¬ RdM br b o) :
  Calls Tryd.prog 49 #[.pointer (some ⟨br,0,none⟩)] w (RdPost w br (Fp F w) rest fun v w'=>v = .int .i32 (((n:Nat):Int) - 1)):=by
 refine enter (n:=23) Tryd.func49 rfl Tryd.ntmps49 kz fun a hE=>?_
 have hW:WOk w (RdM br) w [⟨br,0,[.slice A m c,.bool false],true⟩] []:=WOk.startStr hst
 have hE1:=(hE.grow ⟨br,0,[.slice A m c,.bool false],true⟩).recast 0 (.v (.pointer (some ⟨br,0,none⟩))) (.p 0 0) rfl rfl (Nat.le_of_ble_eq_true (n:=1) rfl)
 refine qar [(0,.p 0 0)] hW hE1 fun a1 hE2=>?_
 refine qag [0,1,2,3,4] kz ?_
 refine qaj [0] [1,2,3,4] [(0,.p 0 0),(4,.p 0 0)] hW hE2 fun a3 hE4=>?_
 refine qam (qal hE4 (f:=46) (vs:=[.pointer (some ⟨br,0,none⟩)]) (d:=5) kz Tryd.call46 (qeB n (by omega) (rest) (Str.of hW 0 rfl) (hr.move hW.step (fun b_ o_ h_ _=>hFd b_ o_ h_) (hW.immM hFd)) (qfe 0 rfl)) ?_)
 rintro e_ w5 ⟨_,A6,n7,c8,rfl,hs9,af,ab,rfl⟩
 obtain ⟨aa,ag,al⟩:=hW.wrote 0 [⟨br,0,[.slice A6 n7 c8,.bool false],true⟩] rfl ab hs9
 have ac:=af.move (Step.refl _ Nil) nilM (fun b_ o_ h_ _=>ag.to b_ o_ h_)
 refine ⟨_,rfl,fun am ah=>?_⟩
 have ai:EnvOk 23 [⟨br,0,[.slice A6 n7 c8,.bool false],true⟩] [(5,.v (.int .u32 ((n:Nat):Int))),(0,.p 0 0),(4,.p 0 0)] _:=ah.places (⟨rfl,rfl,trivial⟩)
 refine qaj [2,3,4] [] [(0,.p 0 0),(3,.v (.int .i32 (IntKind.i32.wrap ((IntKind.i32.wrap ((n:Nat):Int)) - 1))))] aa ai fun ao aj=>?_
 refine qaf (qab ?_)
 refine wp_seq ?_
 refine qar [(0,.p 0 0),(3,.v (.int .i32 (IntKind.i32.wrap ((IntKind.i32.wrap ((n:Nat):Int)) - 1)))),(15,.v (.bool (decide (((n7:Nat):Int) < (IntKind.i64.wrap (IntKind.i32.wrap ((IntKind.i32.wrap ((n:Nat):Int)) - 1)))))))] aa aj fun ap ae=>?_
 refine qap ae (b:=decide (((n7:Nat):Int) < (IntKind.i64.wrap (IntKind.i32.wrap ((IntKind.i32.wrap ((n:Nat):Int)) - 1))))) kz (decide_eq_false (by have h_:=ac.len; simp only [i32w,i64w]; omega)) ?_
 refine wp_skip ?_
 refine qab ?_
 refine qar [(2,.v (.int .i32 (IntKind.i32.wrap ((IntKind.i32.wrap ((n:Nat):Int)) - 1))))] aa ae fun ar ak=>?_
 refine wp_ret ?_
 refine qaJ ak aa.cells (v:=.int .i32 (IntKind.i32.wrap ((IntKind.i32.wrap ((n:Nat):Int)) - 1))) kz ?_
 refine ⟨_,_,_,_,rfl,Str.of aa 0 rfl,(ac.move (Step.refl _ Nil) nilM qb9),aa.step,congrArg (Value.int .i32) (by simp only [i32w]; omega)⟩
theorem rOk  (rest:Bs)  {br:Nat} {A:Option Addr} {m c:Nat} {w:World} {F:Nat → Nat → Prop} (hst:Str w br [.slice A m c,.bool false]) (hr:RdS w F A m c (rest)) (hFd:∀ b o,F b o → ¬ RdM br b o) :
  Calls Tryd.prog 51 #[.pointer (some ⟨br,0,none⟩)] w (RdPost w br (Fp F w) rest fun v w'=>v = .bool true):=by
 refine enter (n:=8) Tryd.func51 rfl Tryd.ntmps51 kz fun a hE=>?_
 have hW:WOk w (RdM br) w [⟨br,0,[.slice A m c,.bool false],true⟩] []:=WOk.startStr hst
 have hE1:=(hE.grow ⟨br,0,[.slice A m c,.bool false],true⟩).recast 0 (.v (.pointer (some ⟨br,0,none⟩))) (.p 0 0) rfl rfl (Nat.le_of_ble_eq_true (n:=1) rfl)
 refine qar [(0,.p 0 0)] hW hE1 fun a1 hE2=>?_
 refine qar [(2,.v (.bool true))] hW hE2 fun a3 hE4=>?_
 refine wp_ret ?_
 refine qaJ hE4 hW.cells (v:=.bool true) kz ?_
 refine ⟨_,_,_,_,rfl,Str.of hW 0 rfl,((hr.move hW.step (fun b_ o_ h_ _=>hFd b_ o_ h_) (hW.immM hFd)).move (Step.refl _ Nil) nilM qb9),hW.step,rfl⟩
theorem qjG {P:Program} {c:Code} {Mid:Act → World → Prop} {Q:Exit → Act → World → Prop} {a:Act} {w:World} (h1:c.wp P (Exit.then Mid Q) a w) (h2:∀ a' w',Mid a' w' → Q .normal a' w'):c.wp P Q a w :=
 wp_mono h1 fun e a' w' h=>by
  cases e <;> first | exact h2 a' w' h | exact h
theorem qg5 {k:Nat} (h:k < 32768):IntKind.i32.wrap (((k:Nat):Int) + 1) = ((k + 1:Nat):Int):=by rw [i32w]; omega
theorem qiX {g:Tree → Bs}:∀ {L:List Tree},(∀ t,0 < (g t).length) → L.length ≤ (L.flatMap g).length
 | [],_=>Nat.zero_le _
 | t :: r,h=>by
  have h1:=h t
  have h2:=qiX (L:=r) h
  rw [List.flatMap_cons,List.length_append,List.length_cons]; omega
theorem flat_ge' {g:Tree → Bs} {L:List Tree} (h:∀ t,0 < (g t).length) (rest:Bs):L.length ≤ (L.flatMap g ++ rest).length:=by
 have:=qiX (L:=L) h
 rw [List.length_append]; omega
section
variable {Pr:Program} {ops:Array Oper} {Q:Exit → Act → World → Prop} {w0:World} {M F:Nat → Nat → Prop} {n br:Nat} {tb:Tb} {env:Env} {P:qbQ} {s:Bs} {a:Act} {w:World}
theorem qiY {id d:Nat} {t e:TypeId} {size bytes m cp:Nat} {A0:Option Addr} (env1 env':Env) (i:Nat) (h:RS w0 M F n br tb env P s a w) (K:∀ a',RS w0 M F n br tb env' P s a' w → Q .normal a' w)
  (hr:List.range ops.size = List.range i ++ (i :: (List.range ops.size).drop (i + 1)):=by kernel_rfl) (e1:∀ A m c,qdw Pr ops n (rdo br A m c :: tb) (List.range i) (qbJ env1) env = some env1:=by intro _ _ _; kernel_rfl)
  (hc:∀ A m_ c,cutE (rdo br A m_ c :: tb) env1 ops n i = some (t,.slice A0 m cp,none,some 0,d):=by intro _ _ _; kernel_rfl) (ht:qcb Pr t = some (e,size,bytes):=by kernel_rfl)
  (e2:∀ A m_ c,qdw Pr ops n (rdo br A m_ c :: tb) ((List.range ops.size).drop (i + 1)) (qbJ env') ((d,.v (.slice A0 0 cp)) :: env1) = some env':=by intro _ _ _; kernel_rfl):(Code.region id ops false).wp Pr Q a w:=by
 refine qat _ hr (qcT (List.range i) _ env1 h (fun a1 h1=>?_) e1 rfl)
 obtain ⟨A,m1,c,hW,hrd,hE,hP⟩:=h1.open_
 refine qam (qcQ hE (hc A m1 c) ht (j:=0) rfl (Nat.zero_le _) fun a2 hE2=>?_)
 exact qcT _ [] env' (RS.mk' hW hrd hE2 h1.mv hP) (fun a3 h3=>qaf (K a3 h3)) e2 (List.append_nil _).symm
theorem qk8 {id d:Nat} {f:FuncId} {v0:Value} (env':Env) (h:RS w0 M F n br tb env P s a w) (hc:qcX Pr f [] s v0)
  (hf:∀ args w,(callFunc f args).run Pr w = .ok (.enter f args) w) (K:∀ a' w',RS w0 M F n br tb env' P s a' w' → Q .normal a' w')
  (he:∀ A m c,qer (rdo br A m c :: tb) env ops n 0 = some (f,[.pointer (some ⟨br,0,none⟩)],d):=by intro _ _ _; kernel_rfl)
  (e:∀ A m c,qdw Pr ops n (rdo br A m c :: tb) ((List.range ops.size).drop 1) (qbJ env') ((d,.v v0) :: env) = some env':=by intro _ _ _; kernel_rfl) (hs:Nat.blt 0 ops.size = true:=by kernel_rfl):(Code.region id ops false).wp Pr Q a w :=
 qc8 (X:=[]) (rest:=s) env' h hc hf K he e hs
theorem qg6 {i d k l g size bytes:Nat} {t e:TypeId} {z:Value} {N:Act → World → Prop} (h:RS w0 M F n br (tb ++ [qbR g size z l k]) env P s a w) (hk:k < l) (hz:z.cells.size = size) (hl:qdW (tb.length + 1) env = true)
  (K:∀ a',RS w0 M F n br (tb ++ [qbR g size z l (k + 1),⟨g,k * size,z.cells.toList,true⟩]) ((d,.p (tb.length + 2) 0) :: env) P s a' w → N a' w)
  (he:∀ A m c,idxE (rdo br A m c :: (tb ++ [qbR g size z l k])) env ops n i = some (t,some ⟨g,0,none⟩,l,((k:Nat):Int),d):=by intro _ _ _; kernel_rfl) (ht:qcb Pr t = some (e,size,bytes):=by kernel_rfl):wpOp Pr ops Q i N a w:=by
 obtain ⟨A,m,c,hW,hr,hE,hP⟩:=h.open_
 refine qaC hE (he A m c) ht rfl rfl hk fun a1 hE1=>K a1 ?_
 have h1:RS w0 M F n br (tb ++ [qbR g size z l k]) ((d,.v (.pointer (some ⟨g,0 + k * size,none⟩))) :: env) P s a1 w:=RS.mk' hW hr hE1 h.mv hP
 have h2:=h1.next hk hz (by simpa only [qdW] using hl)
 have h3:=h2.recast d (.v (.pointer (some ⟨g,0 + k * size,none⟩))) (.p (tb.length + 2) 0) (by simp [lk]) ?_ (by show tb.length + 2 < _; simp)
 ·refine ⟨h3.mv,h3.ex,?_,h3.fact⟩
  refine ⟨h3.env_.defers,h3.env_.size,fun q x hx=>h3.env_.at_ q x ?_⟩
  simp only [lk] at hx ⊢
  split at hx
  ·exact hx
  exact hx
 have:obAt (rdo br none 0 0 :: (tb ++ [qbR g size z l (k + 1),⟨g,k * size,z.cells.toList,true⟩])) (tb.length + 2) = ⟨g,k * size,z.cells.toList,true⟩:=by
  simp only [obAt,List.getD_eq_getElem?_getD]
  rw [show tb.length + 2 = (tb.length + 1) + 1 from rfl,List.getElem?_cons_succ,List.getElem?_append_right (by omega)]
  simp
 simp only [SV.val,this]
 simp
end
theorem qlz (X:Bs) (hX:X.length = 16) (rest:Bs) {br:Nat} {A:Option Addr} {m c:Nat} {w:World} {F:Nat → Nat → Prop} (hst:Str w br [.slice A m c,.bool false]) (hr:RdS w F A m c (X ++ rest)) (hFd:∀ b o,F b o → ¬ RdM br b o) :
  Calls Tryd.prog 53 #[.pointer (some ⟨br,0,none⟩)] w (RdPost w br (Fp F w) rest fun v w'=>v = .agg ((List.range 16).map fun i=>qae (X.getD i 0)).toArray):=by
 have hbr:br < w.heap.size:=World.lt_of_cell (hst.at_ 0 _ rfl)
 refine enter (n:=9) (vs:=[.pointer (some ⟨br,0,none⟩)]) Tryd.func53 rfl Tryd.ntmps53 kz fun a hE=>?_
 refine qag [0] kz ?_
 refine qam (qeP hE (d:=2) (cs:=(List.range 16).map fun _=>qae 0) kz fun t0 a1 hE1=>qaf (qab ?_))
 have hs1:=Step.alloc w (.cells ((List.range 16).map fun _=>qae 0).toArray t0)
 have hz1:=qcG w (.cells ((List.range 16).map fun _=>qae 0).toArray t0)
 have hh1:=qca w (.cells ((List.range 16).map fun _=>qae 0).toArray t0)
 generalize w.alloc (.cells ((List.range 16).map fun _=>qae 0).toArray t0) = w1 at hs1 hz1 hh1
 refine qag [0] kz ?_
 refine qam (qeP hE1 (d:=3) (cs:=(List.range 16).map fun _=>qae 0) kz fun t1 a2 hE2=>qaf (qab ?_))
 have hs2:=Step.alloc w1 (.cells ((List.range 16).map fun _=>qae 0).toArray t1)
 have hz2:=qcG w1 (.cells ((List.range 16).map fun _=>qae 0).toArray t1)
 have hh2:=qca w1 (.cells ((List.range 16).map fun _=>qae 0).toArray t1)
 generalize hp2:w.heap.size = p2 at hE1 hE2 hh1 hz1
 generalize hp3:w1.heap.size = p3 at hE2 hh2 hz2
 generalize w1.alloc (.cells ((List.range 16).map fun _=>qae 0).toArray t1) = w2 at hs2 hz2 hh2
 refine qdF (fun _=>True) 4 kz ?_
 have hsd:=Step.drew w2
 have hhd:w2.drew.heap[p3]? = some (.cells ((List.range 16).map fun _=>qae 0).toArray t1):=hh2
 have hS:Step w w2.drew Nil:=(hs1.trans hs2 fun _ _ _ h=>h).trans hsd fun _ _ _ h=>h
 have hh1d:w2.drew.heap[p2]? = some (.cells ((List.range 16).map fun _=>qae 0).toArray t0):=(hs2.trans hsd fun _ _ _ h=>h).heap (fun _ h=>h) hh1
 generalize w2.drew = wd at hsd hhd hS hh1d
 have hE3:EnvOk 9 [⟨p3,0,[],true⟩] [(0,.v (.pointer (some ⟨br,0,none⟩))),(2,.v (.pointer (some ⟨p2,0,none⟩))),(3,.p 0 0)] _:=((hE2.grow ⟨p3,0,[],true⟩).recast 3 (.v (.pointer (some ⟨p3,0,none⟩))) (.p 0 0) rfl rfl (Nat.le_of_ble_eq_true (n:=1) rfl)).pk
 refine qaD [0,1] [(0,.v (.pointer (some ⟨br,0,none⟩))),(2,.v (.pointer (some ⟨p2,0,none⟩))),(3,.p 0 0),(4,.v (.slice (some ⟨p3,0,none⟩) 16 16)),(5,.v (.pointer (some ⟨br,0,none⟩)))] 2 (qaa qad) (fun w' _ i o hi j v hj=>by
  cases i with
  | zero =>
   simp only [List.getElem?_cons_zero,Option.some.injEq] at hi
   subst hi
   simp at hj
  | succ i=>simp at hi) trivial hE3 fun a3 hE4=>?_
 have hst':=hst.move hS (fun _ h=>h)
 have hr':=hr.move hS nilM (fun b o h hb=>(⟨h,hb⟩:F b o ∧ b < w.heap.size))
 have hFd':∀ b o,(F b o ∧ b < w.heap.size) → ¬ RdM br b o:=fun b o h=>hFd b o h.1
 have hSp:=qjF X rest hst' hr' hFd'
 rw [show ((X.length:Nat):Int) = 16 by omega] at hSp
 refine qaw (i:=2) kz (qal hE4 (f:=48) (vs:=[.pointer (some ⟨br,0,none⟩),.int .i64 16]) (d:=6) kz Tryd.call48 hSp ?_)
 rintro e_ w3 ⟨_,A1,n1,c1,rfl,hs,hr1,hst3,Ax,rfl,hox⟩
 refine ⟨_,rfl,fun a4 hE5=>⟨fun _=>trivial,?_⟩⟩
 have hh3:=hst3.heap (fun o e=>by have:=e.1; have:=hS.size; omega) hhd
 have hh13:=hst3.heap (fun o e=>by have:=e.1; omega) hh1d
 refine qaw (i:=3) kz (qgy hE5 (t:=22) (u:=22) (e:=5) (bytes:=1) (b:=p3) (s:=X) (d:=7) kz kz hh3 rfl hox fun a5 w4 hst4 hat hfz hE6=>⟨fun _=>trivial,qaF kz (qab ?_) _⟩)
 obtain ⟨v,hE6⟩:=hE6
 have hh14:=hst4.heap (fun o e=>by have:=hz1; omega) hh13
 have hst04:Step w w4 (RdM br):=((hS.mono fun _ _ _ f=>f.elim).trans hst3 fun _ _ _ e=>e).trans hst4 fun b o hb e=>by have:=hs1.size; omega
 have h2l:p2 < w4.heap.size:=(Array.getElem?_eq_some_iff.1 hh14).1
 have hW4:WOk w (RdM br) w4 ([] ++ [⟨p2,0,(List.range 16).map fun _=>qae 0,true⟩] ++ [⟨p3,0,(List.range 16).map fun i=>qae (X.getD i 0),true⟩]) []:=by
  have hb:WOk w (RdM br) w4 [] []:=⟨hst04,fun i o hi=>by simp at hi,fun i o hi=>by simp at hi,fun i o hi=>by simp at hi,fun i j o o' _ hi=>by simp at hi,fun i r hi=>by simp at hi,fun i r hi=>by simp at hi,fun i r hi=>by simp at hi,fun i j r r' _ hi=>by simp at hi⟩
  have h4:=hb.add ⟨p2,0,(List.range 16).map fun _=>qae 0,true⟩ h2l (fun j v hj=>by
   dsimp only at hj ⊢
   rw [Nat.zero_add]
   simp only [World.cell?,hh14]
   simpa using hj) (fun _ j hj=>⟨.inl (by dsimp only; omega),by simp [World.frozen?,hh14]⟩) (fun i o hi=>by simp at hi) (fun i r hi=>by simp at hi)
  refine h4.add ⟨p3,0,(List.range 16).map fun i=>qae (X.getD i 0),true⟩ (World.lt_of_cell (hat 0 _ rfl)) (fun j v hj=>hat j v hj) (fun _ j hj=>⟨.inl (by dsimp only; have:=hs1.size; omega),hfz _⟩) (fun i o hi _=>.inl ?_) (fun i r hi=>by simp at hi)
  have hm:=List.mem_of_getElem? hi
  have:o = ⟨p2,0,(List.range 16).map fun _=>qae 0,true⟩:=by simpa using hm
  rw [this]
  dsimp only; omega
 have hE7:EnvOk 9 [⟨p2,0,(List.range 16).map fun _=>qae 0,true⟩,⟨p3,0,(List.range 16).map fun i=>qae (X.getD i 0),true⟩] [(2,.p 0 0),(3,.p 1 0)] _ :=
  (((((hE6.pick (ks:=[2,3]) (env':=[(2,.v (.pointer (some ⟨p2,0,none⟩))),(3,.p 0 0)]) kz).recast 3 (.p 0 0) (.v (.pointer (some ⟨p3,0,none⟩))) rfl rfl trivial).pick (ks:=[2,3]) (env':=[(2,.v (.pointer (some ⟨p2,0,none⟩))),(3,.v (.pointer (some ⟨p3,0,none⟩)))]) kz).cutTb 0 kz).retable [⟨p2,0,(List.range 16).map fun _=>qae 0,true⟩,⟨p3,0,(List.range 16).map fun i=>qae (X.getD i 0),true⟩] |>.recast 2 (.v (.pointer (some ⟨p2,0,none⟩))) (.p 0 0) rfl rfl (Nat.le_of_ble_eq_true (n:=1) rfl) |>.recast 3 (.v (.pointer (some ⟨p3,0,none⟩))) (.p 1 0) rfl rfl (Nat.le_of_ble_eq_true (n:=2) rfl)).pk
 refine qag [0,1] kz ?_
 refine qaj [0] [1] [(2,.p 0 0),(8,.v (.agg ((List.range 16).map fun i=>qae (X.getD i 0)).toArray))] hW4 hE7 fun a6 hE8=>?_
 refine qam (qav hW4 hE8 (oi:=0) (cs:=(List.range 16).map fun i=>qae (X.getD i 0)) kz fun w5 hF5 hW5 hE9=>qaf (qab (wp_ret ?_)))
 have hstz:Step w4 w5 (fun b o=>b = p2 ∨ b = p3):=hF5.step.mono fun b o _ ha=>by
  rcases ha with ⟨i,ob,hi,_,rfl,_⟩ | ⟨i,r,hi,_⟩
  ·have hm:=List.mem_of_getElem? hi
   simp only [List.nil_append,List.cons_append,List.mem_cons,List.not_mem_nil,or_false] at hm
   rcases hm with rfl | rfl
   ·exact .inl rfl
   exact .inr rfl
  simp at hi
 have hsz:=hs1.size
 refine qaJ hE9 hW5.cells (v:=.agg ((List.range 16).map fun i=>qae (X.getD i 0)).toArray) kz ⟨_,A1,n1,c1,rfl,(hs.move hst4 fun o e=>?_).move hstz (fun o e=>?_),(hr1.move hst4 (fun b o hg _ e=>?_) (fun b o hg _=>hg)).move hstz (fun b o hg _ e=>?_) (fun b o hg _=>.inl hg.1),hW5.step,rfl⟩
 ·omega
 ·rcases e with e | e <;> omega
 ·have:=hg.2; omega
 have:=hg.2; rcases e with e | e <;> omega
theorem qk9 (x:Int) (rest:Bs):qcX Tryd.prog 43 (be 4 (IntKind.i32.wrap x)) rest (.int .i32 (IntKind.i32.wrap x)):=fun hs hr hF=>(qk6 _ rest hs hr hF).mono fun e w' hp=>hp.fp fun v w' h=>by rw [h,ww32]
theorem qj1 (x:Int) (rest:Bs):qcX Tryd.prog 44 (be 8 x) rest (.int .i64 (IntKind.i64.wrap x)):=fun hs hr hF=>(qk7 x rest hs hr hF).mono fun e w' hp=>hp.q fun v w' h=>h
theorem qla (y:Bool) (rest:Bs):qcX Tryd.prog 45 [by8 (if y then 1 else 0)] rest (.bool y):=fun hs hr hF=>(qly y rest hs hr hF).mono fun e w' hp=>hp.fp fun v w' h=>h
theorem qcY (n:Nat) (hn:n ≤ 32767) (rest:Bs) (hl:n ≤ rest.length):qcX Tryd.prog 49 (uv (n + 1)) rest (.int .i32 ((n:Nat):Int)):=fun hs hr hF=>(qet (n + 1) (by omega) rest (by omega) hs hr hF).mono fun e w' hp=>hp.q fun v w' h=>h.trans (congrArg (Value.int .i32) (by omega))
theorem qlb (S:Bs) (rest:Bs):qcX Tryd.prog 53 (qah S) rest (.agg #[qae ((qah S).getD 0 0),qae ((qah S).getD 1 0),qae ((qah S).getD 2 0),qae ((qah S).getD 3 0),qae ((qah S).getD 4 0),qae ((qah S).getD 5 0),qae ((qah S).getD 6 0),qae ((qah S).getD 7 0),qae ((qah S).getD 8 0),qae ((qah S).getD 9 0),qae ((qah S).getD 10 0),qae ((qah S).getD 11 0),qae ((qah S).getD 12 0),qae ((qah S).getD 13 0),qae ((qah S).getD 14 0),qae ((qah S).getD 15 0)]):=fun hs hr hF=>(qlz (qah S) (qbS S) rest hs hr hF).mono fun e w' hp=>hp.q fun v w' h=>h
theorem pOk (rest:Bs):qcX Tryd.prog 51 [] rest (.bool true):=fun hs hr hF=>(rOk rest hs hr hF).mono fun e w' hp=>hp.q fun v w' h=>h
theorem qlc (k:Int) (A:Option Addr) (m c:Nat) (w:World):Calls Tryd.prog 28 #[.agg #[.int .u32 k,.slice A m c]] w (qiw w):=by
 refine enter (n:=7) Tryd.func28 rfl Tryd.ntmps28 kz fun a hE=>?_
 have hW:=WOk.start w Nil
 refine qag [0,1] kz ?_
 refine qam (qa7 hW hE (d:=1) (cs:=[.int .u32 k,.slice A m c]) kz fun b1 a2 w3 hb4 hz5 hF6 hW7 hE8=>?_)
 refine qaj [1] [] [(1,.p 0 0)] hW7 hE8 fun a9 ac=>?_
 refine qaf (qab ?_)
 refine wp_seq ?_
 refine qar [(6,.v (.bool (decide (((m:Nat):Int) > 2147483647))))] hW7 ac fun ai aa=>?_
 refine qay aa (b:=decide (((m:Nat):Int) > 2147483647)) kz (fun ab=>?_) (fun ab=>?_)
 ·
  have ag:=of_decide_eq_true ab
  refine qar [(2,.v (.bool false))] hW7 aa fun aj ae=>?_
  refine wp_ret ?_
  refine qao ?_
  refine qaJ ae hW7.cells (v:=.bool false) kz ?_
  exact ⟨_,rfl,hW7.step⟩
 have ah:=of_decide_eq_false ab
 refine wp_skip ?_
 refine qab ?_
 refine qar [(2,.v (.bool true))] hW7 aa fun ak af=>?_
 refine wp_ret ?_
 refine qaJ af hW7.cells (v:=.bool true) kz ?_
 exact ⟨_,rfl,hW7.step⟩
theorem qld (A:Option Addr) (c:Nat) (u:List (Int × Bs)) (w:World) (F:Nat → Nat → Prop) (hu:TagsR w F A c u):Calls Tryd.prog 13 #[.slice A u.length c] w (qiw w):=by
 obtain ⟨xu,h1,h2⟩:=hu.ex
 have hsm:=h1.small
 refine enter (n:=18) Tryd.func13 rfl Tryd.ntmps13 kz fun a hE=>?_
 have hW:=WOk.start w Nil
 refine qar [(0,.v (.slice A u.length c))] hW hE fun a1 hE2=>?_
 refine wp_seq ?_
 refine qar [(0,.v (.slice A u.length c)),(7,.v (.bool (decide (((u.length:Nat):Int) > 2147483647))))] hW hE2 fun a3 hE4=>?_
 refine qay hE4 (b:=decide (((u.length:Nat):Int) > 2147483647)) kz (fun hc5=>?_) (fun hc5=>?_)
 ·
  have hf6:=of_decide_eq_true hc5
  refine qar [(2,.v (.bool false))] hW hE4 fun a7 hE8=>?_
  refine wp_ret ?_
  refine qao ?_
  refine qaJ hE8 hW.cells (v:=.bool false) kz ?_
  exact ⟨_,rfl,hW.step⟩
 have hf9:=of_decide_eq_false hc5
 refine wp_skip ?_
 refine qab ?_
 refine wp_seq ?_
 refine qar [(8,.v (.slice A u.length c)),(9,.v (.int .i64 ((u.length:Nat):Int))),(10,.v (.int .i64 0))] hW hE4 fun ba ar=>?_
 refine wp_block ?_
 refine wp_loop_ghost (fun n_ a_ w_=>∃ (k:Nat),n_ = u.length - k ∧ k ≤ u.length ∧ LInv hW 18 [] [] [(8,.v (.slice A u.length c)),(9,.v (.int .i64 ((u.length:Nat):Int))),(10,.v (.int .i64 ((k:Nat):Int)))] a_ w_) (u.length) ⟨0,by omega,by omega,ar.pk,hW,Fr.refl _ _ _⟩ ?_
 rintro bd bf bg ⟨k,aQ,aR,au,aa,av⟩
 refine qar [(8,.v (.slice A u.length c)),(9,.v (.int .i64 ((u.length:Nat):Int))),(10,.v (.int .i64 ((k:Nat):Int))),(11,.v (.bool (decide (((k:Nat):Int) < ((u.length:Nat):Int)))))] aa au fun bh ae=>?_
 refine wp_seq ?_
 refine qay ae (b:=decide (((k:Nat):Int) < ((u.length:Nat):Int))) kz (fun af=>?_) (fun af=>?_)
 ·
  have aS:=of_decide_eq_true af
  refine wp_skip ?_
  refine qab ?_
  refine wp_seq ?_
  refine wp_block ?_
  refine qag [0,1,2,3] kz ?_
  obtain ⟨aT,aU,aw,aV,ac⟩:=Slots.get h1 (i:=k) (by omega)
  obtain ⟨⟨ai,aj⟩,ax⟩:∃ x,u[k]? = some x:=⟨_,List.getElem?_eq_getElem (by omega)⟩
  obtain ⟨⟨ak,al,am,aW⟩,bj,bk⟩:=h2 k ai aj ax
  rw [am] at ac
  refine qam (qaC ae (t:=24) (A:=A) (m:=u.length) (q:=((k:Nat):Int)) (d:=12) kz (e:=65) (size:=2) (bytes:=32) kz aw rfl (by omega) fun bn ay=>?_)
  refine qam (qaM ay (t:=65) (b:=aT) (o:=aU + k * 2) (d:=13) kz (cs:=[.int .u32 ai,.slice ak aj.length al]) (v:=.agg #[.int .u32 ai,.slice ak aj.length al]) kz (AtF.move ac aa.step nilM qaX).at_ fun bo az=>?_)
  refine qam (qaR aa az (d:=4) (cs:=[.int .u32 0,.slice none 0 0]) kz fun bp bq bt aX aY aA aB aC=>?_)
  refine qam (qav aB aC (oi:=0) (cs:=[.int .u32 ai,.slice ak aj.length al]) kz fun bu aD ag aE=>?_)
  refine qaf (qab ?_)
  refine qag [0,1,2] kz ?_
  refine qaj [0] [1,2] [(8,.v (.slice A u.length c)),(9,.v (.int .i64 ((u.length:Nat):Int))),(10,.v (.int .i64 ((k:Nat):Int))),(14,.v (.agg #[.int .u32 ai,.slice ak aj.length al]))] ag aE fun bw aF=>?_
  refine qam (qal aF (f:=28) (vs:=[.agg #[.int .u32 ai,.slice ak aj.length al]]) (d:=15) kz Tryd.call28 (qlc _ _ _ _ _) ?_)
  rintro e_ bx ⟨aP,rfl,ao⟩
  refine ⟨_,rfl,fun bz aG=>?_⟩
  have ab:=ag.next_nil ao
  have aH:=ag.frN ao
  refine qaj [2] [] [(8,.v (.slice A u.length c)),(9,.v (.int .i64 ((u.length:Nat):Int))),(10,.v (.int .i64 ((k:Nat):Int))),(16,.v (.bool (!aP)))] ab aG fun bA ah=>?_
  refine qaf (qab ?_)
  refine qay ah (b:=!aP) kz (fun aI=>?_) (fun aI=>?_)
  ·
   refine qar [(2,.v (.bool false))] ab ah fun bB aJ=>?_
   refine wp_ret ?_
   refine qax ?_
   refine qao ?_
   refine qao ?_
   refine qax ?_
   refine qao ?_
   refine qaJ aJ ab.cells (v:=.bool false) kz ?_
   exact ⟨_,rfl,ab.step⟩
  refine wp_skip ?_
  refine qaq ?_
  refine qab ?_
  refine qat [0,1] kz ?_
  refine qaj [0,1] [] [(8,.v (.slice A u.length c)),(9,.v (.int .i64 ((u.length:Nat):Int))),(10,.v (.int .i64 (IntKind.i64.wrap (((k:Nat):Int) + 1))))] ab ah fun bC aK=>?_
  refine qaf (qab ?_)
  obtain ⟨ap,aL,aM⟩:=ab.cutB aK 0 [] [(8,.v (.slice A u.length c)),(9,.v (.int .i64 ((u.length:Nat):Int))),(10,.v (.int .i64 (IntKind.i64.wrap (((k:Nat):Int) + 1))))]
  have aN:IntKind.i64.wrap (((k:Nat):Int) + 1) = ((k + 1:Nat):Int):=qaN (by omega)
  rw [aN] at ap
  exact ⟨u.length - (k + 1),by omega,k + 1,rfl,by omega,ap.pk,aL,((((av.trans aA).trans aD).trans aH).trans aM)⟩
 have aZ:=of_decide_eq_false af
 refine wp_exit ?_
 refine qaB ?_
 refine qaB ?_
 refine qaL ?_
 refine qab ?_
 refine qar [(2,.v (.bool true))] aa ae fun bD aO=>?_
 refine wp_ret ?_
 refine qaJ aO aa.cells (v:=.bool true) kz ?_
 exact ⟨_,rfl,aa.step⟩
theorem qle (ct:List Value) (t:Tree) (w:World) (F:Nat → Nat → Prop) (ht:TreeR w F ct t):Calls Tryd.prog 4 #[.agg ct.toArray] w (qiw w):=by
 obtain ⟨n1,s2,b3,l4,u5,A6,c7,A8,c9,aj,ak,aB,rfl,rfl,aC,aD,aN,aE⟩:=ht.open_
 have ay:=aC.small
 have az:=aD.small
 refine enter (n:=15) Tryd.func4 rfl Tryd.ntmps4 kz fun a hE=>?_
 have hW:=WOk.start w Nil
 refine qag [0,1] kz ?_
 refine qam (qa7 hW hE (d:=1) (cs:=[.int .i64 n1,.slice A6 s2.length c7,.bool b3,.slice A8 l4.length c9,.slice aj u5.length ak]) kz fun aO aP aQ aF aG aH aa al=>?_)
 refine qaj [1] [] [(1,.p 0 0)] aa al fun aR am=>?_
 refine qaf (qab ?_)
 refine wp_seq ?_
 refine qar [(1,.p 0 0),(6,.v (.bool (decide (((s2.length:Nat):Int) > 2147483647))))] aa am fun aS ac=>?_
 refine qay ac (b:=decide (((s2.length:Nat):Int) > 2147483647)) kz (fun ae=>?_) (fun ae=>?_)
 ·
  have aI:=of_decide_eq_true ae
  refine qar [(2,.v (.bool false))] aa ac fun aT ao=>?_
  refine wp_ret ?_
  refine qao ?_
  refine qaJ ao aa.cells (v:=.bool false) kz ?_
  exact ⟨_,rfl,aa.step⟩
 have aJ:=of_decide_eq_false ae
 refine wp_skip ?_
 refine qab ?_
 refine wp_seq ?_
 refine qar [(1,.p 0 0),(10,.v (.bool (decide (((l4.length:Nat):Int) > 2147483647))))] aa ac fun aU af=>?_
 refine qay af (b:=decide (((l4.length:Nat):Int) > 2147483647)) kz (fun ag=>?_) (fun ag=>?_)
 ·
  have aK:=of_decide_eq_true ag
  refine qar [(2,.v (.bool false))] aa af fun aV ap=>?_
  refine wp_ret ?_
  refine qao ?_
  refine qaJ ap aa.cells (v:=.bool false) kz ?_
  exact ⟨_,rfl,aa.step⟩
 have aL:=of_decide_eq_false ag
 refine wp_skip ?_
 refine qab ?_
 refine wp_seq ?_
 refine qag [0,1,2,3] kz ?_
 refine qaj [0,1] [2,3] [(12,.v (.slice aj u5.length ak))] aa af fun aW ar=>?_
 refine qam (qal ar (f:=13) (vs:=[.slice aj u5.length ak]) (d:=13) kz Tryd.call13 (qld _ _ u5 _ _ (aE.move aa.step nilM aa.imm)) ?_)
 rintro e_ aX ⟨aA,rfl,ai⟩
 refine ⟨_,rfl,fun aY au=>?_⟩
 have ab:=aa.next_nil ai
 have aM:=aa.frN ai
 refine qaj [3] [] [(14,.v (.bool (!aA)))] ab au fun aZ ah=>?_
 refine qaf (qab ?_)
 refine qay ah (b:=!aA) kz (fun av=>?_) (fun av=>?_)
 ·
  refine qar [(2,.v (.bool false))] ab ah fun ba aw=>?_
  refine wp_ret ?_
  refine qao ?_
  refine qaJ aw ab.cells (v:=.bool false) kz ?_
  exact ⟨_,rfl,ab.step⟩
 refine wp_skip ?_
 refine qab ?_
 refine qar [(2,.v (.bool true))] ab ah fun bd ax=>?_
 refine wp_ret ?_
 refine qaJ ax ab.cells (v:=.bool true) kz ?_
 exact ⟨_,rfl,ab.step⟩
theorem qjH (x m:Int) (hx:0 ≤ x) (hx':x < 256) (hm:0 ≤ m) (hm':m < 32768) (w:World):Calls Tryd.prog 7 #[.int .u8 x,.int .i64 m] w (qbO w (.int .i64 (Int.tmod x (m + 1)))):=by
 refine enter (n:=10) Tryd.func7 rfl Tryd.ntmps7 kz fun a hE=>?_
 have hW:=WOk.start w Nil
 refine qar [(0,.v (.int .u8 x)),(1,.v (.int .i64 m))] hW hE fun a1 hE2=>?_
 refine qag [0,1,2,3,4,5] kz ?_
 refine qaj [0,1,2,3] [4,5] [(6,.v (.int .i64 (IntKind.i64.wrap x))),(8,.v (.int .i64 (IntKind.i64.wrap (m + 1))))] hW hE2 fun a3 hE4=>?_
 refine qam (qjr hE4 (k:=.i64) (p:=(IntKind.i64.wrap x)) (q:=(IntKind.i64.wrap (m + 1))) (d:=9) kz (by simp only [IntKind.wrap_i64]; omega) fun a5 hE6=>?_)
 refine qaj [5] [] [(4,.v (.int .i64 (Int.tmod (IntKind.i64.wrap x) (IntKind.i64.wrap (m + 1)))))] hW hE6 fun a7 hE8=>?_
 refine qaf (qab ?_)
 refine wp_ret ?_
 refine qaJ hE8 hW.cells (v:=.int .i64 (Int.tmod (IntKind.i64.wrap x) (IntKind.i64.wrap (m + 1)))) kz ?_
 exact ⟨by rw [wrap_i64 (by omega) (by omega),wrap_i64 (by omega) (by omega)],hW.step⟩
def sx (k i:Nat):Nat:=if i = 0 then k else if i = k then 0 else i
theorem qjI (k i:Nat):sx k (sx k i) = i:=by
 unfold sx
 by_cases h:i = 0
 ·subst h
  rw [if_pos rfl]
  by_cases h2:k = 0
  ·rw [if_pos h2]; exact h2
  rw [if_neg h2,if_pos rfl]
 rw [if_neg h]
 by_cases h2:i = k
 ·rw [if_pos h2,if_pos rfl]; exact h2.symm
 rw [if_neg h2,if_neg h,if_neg h2]
theorem qlf {k i j:Nat} (h:sx k i = sx k j):i = j:=by rw [← qjI k i,h,qjI]
theorem qep {α:Type} {x y:α} {l:List α} (i:Nat):(y :: (l ++ [x]))[i]? = (x :: (l ++ [y]))[sx (l.length + 1) i]?:=by
 unfold sx
 cases i with
 | zero=>simp
 | succ i =>
  rw [if_neg (by omega)]
  by_cases h:i = l.length
  ·subst h; simp
  rw [if_neg (by omega)]
  simp only [List.getElem?_cons_succ]
  by_cases h2:i < l.length
  ·rw [List.getElem?_append_left h2,List.getElem?_append_left h2]
  rw [List.getElem?_eq_none (by simp; omega),List.getElem?_eq_none (by simp; omega)]
theorem WOk.swapK {w0 w:World} {M:Nat → Nat → Prop} {o1 o2:Ob} {tb:Tb} (h:WOk w0 M w (o1 :: (tb ++ [o2])) []):WOk w0 M w (o2 :: (tb ++ [o1])) [] :=
 ⟨h.step,fun i o hi=>h.cells _ o (by rw [← qep]; exact hi),fun i o hi=>h.live _ o (by rw [← qep]; exact hi),fun i o hi=>h.rw_ _ o (by rw [← qep]; exact hi),fun i j o o' hij hi hj hw=>h.apart (sx (tb.length + 1) i) (sx (tb.length + 1) j) o o' (fun e=>hij (qlf e)) (by rw [← qep]; exact hi) (by rw [← qep]; exact hj) hw,h.own,h.ownM,fun i r hi=>by simp at hi,h.rr⟩
theorem qgg {o1 o2:Ob} {tb:Tb} {b o:Nat} (h:Act_ (o2 :: (tb ++ [o1])) [] b o):Act_ (o1 :: (tb ++ [o2])) [] b o:=by
 rcases h with ⟨i,ob,hi,h1⟩ | ⟨i,r,hi,_⟩
 ·exact .inl ⟨_,ob,by rw [← qep]; exact hi,h1⟩
 simp at hi
def qdD (k:Nat):Env → Env
 | []=>[]
 | (t,.v x) :: r=>(t,.v x) :: qdD k r
 | (t,.p i j) :: r=>(t,.p (match Nat.beq i 0 with | true=>k | false=>match Nat.beq i k with | true=>0 | false=>i) j) :: qdD k r
theorem qlg (k i:Nat):(match Nat.beq i 0 with | true=>k | false=>match Nat.beq i k with | true=>0 | false=>i) = sx k i:=by
 unfold sx
 by_cases h:i = 0
 ·subst h; rfl
 rw [if_neg h,show Nat.beq i 0 = false from by cases hq:Nat.beq i 0 with | false=>rfl | true=>exact absurd (Nat.eq_of_beq_eq_true hq) h]
 by_cases h2:i = k
 ·rw [if_pos h2,show Nat.beq i k = true from by subst h2; exact Nat.beq_refl i]
 rw [if_neg h2,show Nat.beq i k = false from by cases hq:Nat.beq i k with | false=>rfl | true=>exact absurd (Nat.eq_of_beq_eq_true hq) h2]
theorem qg7 {n:Nat} {o1 o2:Ob} {tb:Tb} {env:Env} {a:Act} (h:EnvOk n (o1 :: (tb ++ [o2])) env a):EnvOk n (o2 :: (tb ++ [o1])) (qdD (tb.length + 1) env) a:=by
 have ob:∀ i,obAt (o2 :: (tb ++ [o1])) (sx (tb.length + 1) i) = obAt (o1 :: (tb ++ [o2])) i:=fun i=>by
  unfold obAt
  rw [List.getD_eq_getElem?_getD,List.getD_eq_getElem?_getD,qep,qjI]
 have key:∀ (env:Env) (k:Nat) (x:SV),lk (qdD (tb.length + 1) env) k = some x → ∃ y,lk env k = some y ∧ (y.ok (o1 :: (tb ++ [o2])) → x.val (o2 :: (tb ++ [o1])) = y.val (o1 :: (tb ++ [o2])) ∧ x.ok (o2 :: (tb ++ [o1]))):=by
  intro env
  induction env with
  | nil=>intro k x hx; cases hx
  | cons e r ih =>
   obtain ⟨k',sv⟩:=e
   intro k x hx
   cases sv with
   | v y =>
    simp only [qdD,lk] at hx ⊢
    split at hx
    ·rename_i hb
     simp only [Option.some.injEq] at hx
     subst hx
     exact ⟨_,rfl,fun _=>⟨rfl,trivial⟩⟩
    exact ih k x hx
   | p i j =>
    rw [qdD,qlg] at hx
    simp only [lk] at hx ⊢
    split at hx
    ·rename_i hb
     simp only [Option.some.injEq] at hx
     subst hx
     refine ⟨_,rfl,fun hok=>⟨?_,?_⟩⟩
     ·simp only [SV.val,ob]
     have hok':i < (o1 :: (tb ++ [o2])).length:=hok
     have g:(o2 :: (tb ++ [o1]))[sx (tb.length + 1) i]? = (o1 :: (tb ++ [o2]))[i]?:=by rw [qep,qjI]
     rw [List.getElem?_eq_getElem hok'] at g
     exact (List.getElem?_eq_some_iff.1 g).1
    exact ih k x hx
 refine ⟨h.defers,h.size,fun k x hx=>?_⟩
 obtain ⟨y,hy,hv⟩:=key env k x hx
 obtain ⟨h1,h2⟩:=h.at_ k y hy
 obtain ⟨h3,h4⟩:=hv h2
 exact ⟨by rw [h3]; exact h1,h4⟩
def rdF (A:Option Addr) (m c:Nat) (s:Bs):qbQ:=fun w F=>RdS w F A m c s
theorem MvF.rd (A:Option Addr) (m c:Nat) (s:Bs):MvF (rdF A m c s):=⟨fun hs hM hF g=>RdS.move g hs hM hF⟩
section
variable {Pr:Program} {ops:Array Oper} {Q:Exit → Act → World → Prop} {w0:World} {M F:Nat → Nat → Prop} {n br:Nat} {tb:Tb} {env:Env} {P:qbQ} {s:Bs} {a:Act} {w:World}
theorem RS.nest {bi ci:Nat} {Ai:Option Addr} {si:Bs} (h:RS w0 M F n br (tb ++ [rdo bi Ai si.length ci]) env P s a w) (hs:∀ w F,P w F → Octs w F Ai ci si):∃ A m c,RS w0 M F n bi (tb ++ [rdo br A m c]) (qdD (tb.length + 1) env) (andF P (rdF A m c s)) si a w:=by
 obtain ⟨A,m,c,hW,hr,hE,hP⟩:=h.open_
 have mvI:∀ b o,Imm F w0 w (rdo br A m c :: (tb ++ [rdo bi Ai si.length ci])) [] b o → b < w.heap.size → Imm F w0 w (rdo bi Ai si.length ci :: (tb ++ [rdo br A m c])) [] b o:=fun b o g _=>⟨g.1,g.2.1,fun ha=>g.2.2 (qgg ha)⟩
 exact ⟨A,m,c,RS.mk' hW.swapK ⟨rfl,(hs _ _ hP).move (Step.refl w Nil) nilM mvI⟩ (qg7 hE) (h.mv.and (MvF.rd A m c s)) ⟨h.mv.mono mvI hP,hr.move (Step.refl w Nil) nilM mvI⟩⟩
theorem RS.unnest {bi m c:Nat} {A:Option Addr} {so:Bs} (h:RS w0 M F n bi (tb ++ [rdo br A m c]) env P s a w) (hs:∀ w F,P w F → RdS w F A m c so) (hb:w0.heap.size ≤ bi) (hl:qdW (tb.length + 1) (qdD (tb.length + 1) env) = true):RS w0 M F n br tb (qdD (tb.length + 1) env) P so a w:=by
 obtain ⟨Ai,mi,ci,hW,hr,hE,hP⟩:=h.open_
 have mvI:∀ b o,Imm F w0 w (rdo bi Ai mi ci :: (tb ++ [rdo br A m c])) [] b o → b < w.heap.size → Imm F w0 w (rdo br A m c :: (tb ++ [rdo bi Ai mi ci])) [] b o:=fun b o g _=>⟨g.1,g.2.1,fun ha=>g.2.2 (qgg ha)⟩
 have h2:RS w0 M F n br (tb ++ [rdo bi Ai mi ci]) (qdD (tb.length + 1) env) P so a w:=RS.mk' hW.swapK ((hs _ _ hP).move (Step.refl w Nil) nilM mvI) (qg7 hE) h.mv (h.mv.mono mvI hP)
 exact h2.dropT hb hl
theorem qiZ {i d:Nat} {f:FuncId} {X rest:Bs} {q:Int} {N:Act → World → Prop} (h:RS w0 M F n br tb env P (X ++ rest) a w) (hq:q = ((X.length:Nat):Int))
  (hc:∀ {br:Nat} {A:Option Addr} {m c:Nat} {w:World} {F:Nat → Nat → Prop},Str w br [.slice A m c,.bool false] → RdS w F A m c (X ++ rest) → (∀ b o,F b o → ¬ RdM br b o) → Calls Pr f #[.pointer (some ⟨br,0,none⟩),.int .i64 ((X.length:Nat):Int)] w (RdPost w br F rest fun v w'=>∃ A2,v = .slice A2 X.length X.length ∧ Octs w' F A2 X.length X))
  (hf:∀ args w,(callFunc f args).run Pr w = .ok (.enter f args) w) (K:∀ A2 P' a' w',(∀ w F,P' w F → P w F ∧ Octs w F A2 X.length X) → RS w0 M F n br tb ((d,.v (.slice A2 X.length X.length)) :: env) P' rest a' w' → N a' w')
  (he:∀ A m c,qer (rdo br A m c :: tb) env ops n i = some (f,[.pointer (some ⟨br,0,none⟩),.int .i64 q],d):=by intro _ _ _; kernel_rfl):wpOp Pr ops Q i N a w:=by
 subst hq
 obtain ⟨A,m,c,hW,hr,hE,hP⟩:=h.open_
 refine qal hE (he A m c) hf (hc (Str.of hW 0 rfl) hr (qfe 0 rfl)) ?_
 rintro e_ w1 ⟨_,A1,n1,c1,rfl,hs,hr1,hst,A2,rfl,hx⟩
 refine ⟨_,rfl,fun a1 hE1=>?_⟩
 obtain ⟨hW2,hF2,hL⟩:=hW.wrote 0 (rdo br A1 n1 c1 :: tb) rfl hst hs
 exact K A2 (andF P (qk4 A2 X.length X)) a1 w1 (fun _ _ g=>g) (RS.mk' hW2 (hr1.move (Step.refl _ Nil) nilM (fun b o g hb=>hL b o (.inl g) hb)) hE1.rdo (h.mv.and (MvF.octs _ _ _)) ⟨h.mv.move hF2.step immM hF2.to' hP,Octs.move hx (Step.refl _ Nil) nilM (fun b o g hb=>hL b o (.inl g) hb)⟩)
end
theorem WOk.wrote1 {w0 w w':World} {M N:Nat → Nat → Prop} {tb:Tb} (hW:WOk w0 M w tb []) (k:Nat) {ob:Ob} {cs':List Value} (hi:tb[k]? = some ob) (hrw:ob.rw = true) (hl:cs'.length = ob.cells.length) (hst:Step w w' N) (hN:∀ b o,b < w0.heap.size → N b o → M b o)
  (hc:∀ j v,cs'[j]? = some v → w'.cell? ⟨ob.blk,ob.off + j,none⟩ = some v) (hz:∀ j,j < cs'.length → w'.frozen? ⟨ob.blk,ob.off + j,none⟩ = false)
  (far:∀ (j:Nat) (o:Ob),j ≠ k → tb[j]? = some o → ∀ q,q < o.cells.length → ¬ N o.blk (o.off + q)):WOk w0 M w' (tb.set k { ob with cells:=cs' }) []:=by
 have key:∀ (j:Nat) (o:Ob),(tb.set k { ob with cells:=cs' })[j]? = some o → (j = k ∧ o = { ob with cells:=cs' }) ∨ (j ≠ k ∧ tb[j]? = some o):=fun j o hj=>by
  rcases qcj hj with ⟨h1,h2,_⟩ | ⟨h1,h2⟩
  ·exact .inl ⟨h1,h2⟩
  exact .inr ⟨h1,h2⟩
 refine ⟨hW.step.trans hst hN,?_,?_,?_,?_,fun i r hi=>by simp at hi,fun i r hi=>by simp at hi,fun i r hi=>by simp at hi,fun i j r r' _ hi=>by simp at hi⟩
 ·intro j o hj q v hv
  rcases key j o hj with ⟨rfl,rfl⟩ | ⟨hne,hj⟩
  ·exact hc q v hv
  exact hst.cell (far j o hne hj q (List.getElem?_eq_some_iff.1 hv).1) (hW.cells j o hj q v hv)
 ·intro j o hj
  rcases key j o hj with ⟨rfl,rfl⟩ | ⟨_,hj⟩
  ·exact Nat.lt_of_lt_of_le (show ob.blk < _ from hW.live j ob hi) hst.size
  exact Nat.lt_of_lt_of_le (hW.live j o hj) hst.size
 ·intro j o hj hr q hq
  rcases key j o hj with ⟨rfl,rfl⟩ | ⟨hne,hj⟩
  ·exact ⟨(hW.rw_ j _ hi hrw q (by simpa [hl] using hq)).1,hz q hq⟩
  obtain ⟨h1,h2⟩:=hW.rw_ j o hj hr q hq
  exact ⟨h1,hst.frozen (far j o hne hj q hq) (hW.cells j o hj q _ (List.getElem?_eq_getElem hq)) h2⟩
 intro j q o o' hjk hj hk hw
 rcases key j o hj with ⟨rfl,rfl⟩ | ⟨hne,hj'⟩
 ·rcases key q o' hk with ⟨rfl,rfl⟩ | ⟨hne',hk'⟩
  ·exact absurd rfl hjk
  have:=hW.apart j q _ o' hjk hi hk' (.inl hrw)
  simpa [hl] using this
 rcases key q o' hk with ⟨rfl,rfl⟩ | ⟨hne',hk'⟩
 ·have:=hW.apart j q o _ hjk hj' hi (.inr hrw)
  simpa [hl] using this
 exact hW.apart j q o o' hjk hj' hk' hw
structure TU (w0 w1:World) (M F:Nat → Nat → Prop) (n br:Nat) (tb0 tb:Tb) (env:Env) (P:qbQ) (s:Bs) (m:Option Nat) (u:List (Int × Bs)) (a:Act) (w:World):Prop where
 mv:MvF P
 big:w1.heap.size ≤ w.heap.size
 base:w0.heap.size ≤ w1.heap.size
 old:br < w1.heap.size
 ex:∃ A q c,WOk w0 M w (rdo br A q c :: tb) [] ∧ RdS w (Imm F w0 w1 (rdo br none 0 0 :: tb0) []) A q c s
 act:∀ b o,Act_ (rdo br none 0 0 :: tb) [] b o → Act_ (rdo br none 0 0 :: tb0) [] b o
 env_:EnvOk n (rdo br none 0 0 :: tb) env a
 fact:P w (Imm F w0 w1 (rdo br none 0 0 :: tb0) [])
 own:OwnM w (Imm F w0 w1 (rdo br none 0 0 :: tb0) []) m u
 new:∀ r,m = some r → w1.heap.size ≤ r
section
variable {Pr:Program} {ops:Array Oper} {Q:Exit → Act → World → Prop} {w0 w1:World} {M F:Nat → Nat → Prop} {n br:Nat} {tb0 tb:Tb} {env:Env} {P:qbQ} {s:Bs} {m:Option Nat} {u:List (Int × Bs)} {a:Act} {w:World}
theorem TU.start (h:RS w0 M F n br tb env P s a w):TU w0 w M F n br tb tb env P s none [] a w:=by
 obtain ⟨A,m,c,hW,hr⟩:=h.ex
 exact ⟨h.mv,Nat.le_refl _,hW.step.size,hW.live 0 _ rfl,⟨A,m,c,hW,hr⟩,fun _ _ g=>g,h.env_,h.fact,OwnM.nil _ _,fun _ h=>by cases h⟩
theorem TU.cast {t:Bs} (h:TU w0 w1 M F n br tb0 tb env P s m u a w) (e:s = t):TU w0 w1 M F n br tb0 tb env P t m u a w:=e ▸ h
theorem TU.finish (h:TU w0 w1 M F n br tb0 tb env P s m u a w) (hs:qcu u) (hr:∀ x ∈ u,0 ≤ x.1 ∧ x.1 < 4294967296):RS w0 M F n br tb env (andF P (qk5 m u)) s a w:=by
 have mvI:∀ b o,Imm F w0 w1 (rdo br none 0 0 :: tb0) [] b o → Imm F w0 w (rdo br none 0 0 :: tb) [] b o:=fun b o g=>⟨g.1,Nat.lt_of_lt_of_le g.2.1 h.big,fun ha=>g.2.2 (h.act b o ha)⟩
 obtain ⟨A,q,c,hW,hrd⟩:=h.ex
 refine ⟨h.mv.and (MvF.tags _ _),⟨A,q,c,hW,hrd.move (Step.refl w Nil) nilM fun b o g _=>mvI b o g⟩,h.env_,h.mv.mono (fun b o g _=>mvI b o g) h.fact,h.own.map mvI (fun r o e=>?_) hs hr⟩
 obtain ⟨es,clk,h1,_⟩:=h.own.some_ r e
 refine ⟨.inr (Nat.le_trans h.base (h.new r e)),(Array.getElem?_eq_some_iff.1 h1).1,fun ha=>?_⟩
 rcases ha with ⟨i,ob,hi,hrw,rfl,h2,h3⟩ | ⟨i,r,hi,_⟩
 ·have hc:∃ ob',(rdo br A q c :: tb)[i]? = some ob' ∧ ob'.blk = ob.blk ∧ ob'.off = ob.off ∧ ob'.cells.length = ob.cells.length:=by
   cases i with
   | zero =>
    simp only [List.getElem?_cons_zero,Option.some.injEq] at hi
    subst hi
    exact ⟨_,rfl,rfl,rfl,rfl⟩
   | succ i=>exact ⟨ob,hi,rfl,rfl,rfl⟩
  obtain ⟨ob',g1,g2,g3,g4⟩:=hc
  have g5:o - ob.off < ob'.cells.length:=by omega
  have g6:=hW.cells i ob' g1 (o - ob.off) _ (List.getElem?_eq_getElem g5)
  rw [g2] at g6
  exact qdk g6 h1 rfl
 simp at hi
theorem qlh {L:List Nat} (idxs rest:List Nat) (env':Env) (h:TU w0 w1 M F n br tb0 tb env P s m u a w) (k:∀ a',TU w0 w1 M F n br tb0 tb env' P s m u a' w → wpOps Pr ops Q rest a' w) (e:∀ A m c,qdw Pr ops n (rdo br A m c :: tb) idxs (qbJ env') env = some env':=by intro _ _ _; kernel_rfl) (hl:L = idxs ++ rest:=by rfl):wpOps Pr ops Q L a w:=by
 obtain ⟨A,q,c,hW,hr⟩:=h.ex
 exact qbk idxs rest (qbJ env') hW h.env_.rdo (e A q c) hl fun a' hE'=>k a' { h with env_:=hE'.rdo }
theorem qi0 {id:Nat} (env':Env) (h:TU w0 w1 M F n br tb0 tb env P s m u a w) (k:∀ a',TU w0 w1 M F n br tb0 tb env' P s m u a' w → Q .normal a' w) (e:∀ A m c,qdw Pr ops n (rdo br A m c :: tb) (List.range ops.size) (qbJ env') env = some env':=by intro _ _ _; kernel_rfl):(Code.region id ops false).wp Pr Q a w :=
 qat (List.range ops.size) rfl (qlh (List.range ops.size) [] env' h (fun a' h'=>qaf (k a' h')) e (List.append_nil _).symm)
theorem qkC {i d:Nat} {f:FuncId} {X rest:Bs} {vs vs':List Value} {Qv:Value → World → (Nat → Nat → Prop) → Prop} {N:Act → World → Prop} (h:TU w0 w1 M F n br tb0 tb env P (X ++ rest) m u a w)
  (hc:∀ {br:Nat} {A:Option Addr} {m c:Nat} {w:World} {F:Nat → Nat → Prop},Str w br [.slice A m c,.bool false] → RdS w F A m c (X ++ rest) → (∀ b o,F b o → ¬ RdM br b o) → Calls Pr f (.pointer (some ⟨br,0,none⟩) :: vs).toArray w (RdPost w br F rest fun v w'=>Qv v w' F)) (hv:vs' = vs)
  (hf:∀ args w,(callFunc f args).run Pr w = .ok (.enter f args) w) (K:∀ v a' w',Qv v w' (Imm F w0 w1 (rdo br none 0 0 :: tb0) []) → TU w0 w1 M F n br tb0 tb ((d,.v v) :: env) P rest m u a' w' → N a' w')
  (he:∀ A m c,qer (rdo br A m c :: tb) env ops n i = some (f,.pointer (some ⟨br,0,none⟩) :: vs',d):=by intro _ _ _; kernel_rfl):wpOp Pr ops Q i N a w:=by
 subst hv
 obtain ⟨A,q,c,hW,hr⟩:=h.ex
 have hG:∀ b o,Imm F w0 w1 (rdo br none 0 0 :: tb0) [] b o → ¬ RdM br b o:=qfe 0 rfl
 refine qal h.env_.rdo (he A q c) hf (hc (Str.of hW 0 rfl) hr hG) ?_
 rintro e_ w2 ⟨v,A1,n1,c1,rfl,hs,hr1,hst,hx⟩
 refine ⟨_,rfl,fun a1 hE1=>?_⟩
 obtain ⟨hW2,hF2,hL⟩:=hW.wrote 0 (rdo br A1 n1 c1 :: tb) rfl hst hs
 refine K v a1 w2 hx ⟨h.mv,Nat.le_trans h.big hst.size,h.base,h.old,⟨A1,n1,c1,hW2,hr1⟩,h.act,hE1.rdo,h.mv.move hst (fun b o g _=>hG b o g) qaX h.fact,h.own.move hst (fun b o g _=>hG b o g) qaX (fun r o e he=>?_),h.new⟩
 have h1:=h.new r e
 have h2:=h.old
 have h3:=he.1
 omega
theorem qlC {i d j k off c:Nat} {key:Int} {x:Bs} {A:Option Addr} {ob:Ob} {N:Act → World → Prop} (h:TU w0 w1 M F n br tb0 tb env P s m (u.take j) a w) (hsort:qcu u) (hj:u[j]? = some (key,x)) (hx:Octs w (Imm F w0 w1 (rdo br none 0 0 :: tb0) []) A c x) (hk:0 ≤ key ∧ key < 4294967296)
  (K:∀ r a' w',TU w0 w1 M F n br tb0 (tb.set k { ob with cells:=ob.cells.set off (.map (some r)) }) ((d,.v (.tuple #[])) :: env) P s (some r) (u.take (j + 1)) a' w' → N a' w')
  (hp:∀ args w,(callFunc 47 args).run Tryd.prog w = .ok (.enter 47 args) w)
  (tk:tb[k]? = some ob) (hrw:ob.rw = true) (hoff:ob.cells[off]? = some (.map m))
  (he:∀ A' m' c',qer (rdo br A' m' c' :: tb) env ops n i = some (47,[.pointer (some ⟨ob.blk,ob.off + off,none⟩),.int .u32 key,.slice A x.length c],d)):wpOp Tryd.prog ops Q i N a w:=by
 obtain ⟨A',q,c',hW,hr⟩:=h.ex
 have tk':(rdo br A' q c' :: tb)[k + 1]? = some ob:=tk
 have hlt:off < ob.cells.length:=(List.getElem?_eq_some_iff.1 hoff).1
 have hcell:w.cell? ⟨ob.blk,ob.off + off,none⟩ = some (.map m):=hW.cells (k + 1) ob tk' off _ hoff
 obtain ⟨hM,hfz⟩:=hW.rw_ (k + 1) ob tk' hrw off hlt
 have hact:Act_ (rdo br none 0 0 :: tb0) [] ob.blk (ob.off + off):=h.act _ _ (.inl ⟨k + 1,ob,tk,hrw,rfl,by omega,by omega⟩)
 have hbig:=h.big
 have hbase:=h.base
 have hmo:∀ {b o:Nat} {v:Value},w.cell? ⟨b,o,none⟩ = some v → m ≠ some b:=fun hb e=>by
  obtain ⟨es,clk,h1,_⟩:=h.own.some_ _ e
  exact qdk hb h1 rfl
 have hG:∀ b' o',Imm F w0 w1 (rdo br none 0 0 :: tb0) [] b' o' → ¬ ((b' = ob.blk ∧ o' = ob.off + off) ∨ m = some b'):=fun b' o' hg e=>by
  rcases e with ⟨rfl,rfl⟩ | e
  ·exact hg.2.2 hact
  have:=h.new b' e; have:=hg.2.1; omega
 refine qal h.env_.rdo (he A' q c') hp (qgL hcell hfz h.own hx hk (fun b' o' hg=>⟨fun e=>hG b' o' hg (.inl e),fun e=>hG b' o' hg (.inr e)⟩) (fun b' o' hg=>Nat.lt_of_lt_of_le hg.2.1 hbig)) ?_
 rintro e_ w2 ⟨rfl,r,g1,g2,g3,g4,g5⟩
 rw [qfT hsort hj] at g3
 refine ⟨_,rfl,fun a1 hE1=>K r a1 w2 ?_⟩
 have hW2:=hW.wrote1 (k + 1) (cs':=ob.cells.set off (.map (some r))) tk' hrw (by simp) g5 (fun b o hb hN=>?_) (fun j' v hv=>?_) (fun j' hj'=>?_) (fun j' o hne hjo q' hq' hN=>?_)
 ·refine ⟨h.mv,Nat.le_trans hbig g5.size,hbase,h.old,⟨A',q,c',hW2,hr.move g5 (fun b o g _=>hG b o g) qaX⟩,fun b o ha=>h.act b o ?_,?_,h.mv.move g5 (fun b o g _=>hG b o g) qaX h.fact,g3,fun r' hr'=>?_⟩
  ·rcases ha with ⟨i',ob',hi,h1,h2,h3,h4⟩ | ha
   ·cases i' with
    | zero=>exact .inl ⟨0,ob',hi,h1,h2,h3,h4⟩
    | succ i' =>
     rw [List.getElem?_cons_succ] at hi
     rcases qcj hi with ⟨e1,e2,_⟩ | ⟨_,e2⟩
     ·subst e2
      exact .inl ⟨k + 1,ob,tk,hrw,h2,h3,by simpa using h4⟩
     exact .inl ⟨i' + 1,ob',e2,h1,h2,h3,h4⟩
   exact .inr ha
  ·refine hE1.table fun i' hi'=>?_
   cases i' with
   | zero=>exact ⟨by simp,rfl,rfl⟩
   | succ i' =>
    have hi2:i' < tb.length:=by simpa using hi'
    refine ⟨by simpa using hi2,?_⟩
    by_cases e:i' = k
    ·subst e
     have g6:obAt (rdo br A' q c' :: tb) (i' + 1) = ob:=by simp [obAt,tk]
     have g7:obAt (rdo br none 0 0 :: tb.set i' { ob with cells:=ob.cells.set off (.map (some r)) }) (i' + 1) = { ob with cells:=ob.cells.set off (.map (some r)) }:=by simp [obAt,hi2]
     rw [g6,g7]
     exact ⟨rfl,rfl⟩
    have g7:obAt (rdo br none 0 0 :: tb.set k { ob with cells:=ob.cells.set off (.map (some r)) }) (i' + 1) = obAt (rdo br A' q c' :: tb) (i' + 1):=by
     simp [obAt,List.getElem?_set,Ne.symm e]
    rw [g7]
    exact ⟨rfl,rfl⟩
  obtain rfl:=Option.some.inj hr'
  rcases g4 with g4 | g4
  ·exact h.new _ g4
  exact Nat.le_trans hbig g4
 ·rcases hN with ⟨rfl,rfl⟩ | e
  ·rcases hM with g | g
   ·omega
   exact g
  have:=h.new b e; omega
 ·rw [List.getElem?_set] at hv
  by_cases e:off = j'
  ·subst e
   rw [if_pos rfl,if_pos hlt] at hv
   rw [← Option.some.inj hv]; exact g1
  rw [if_neg e] at hv
  have g6:=hW.cells (k + 1) ob tk' j' v hv
  refine g5.cell (fun hN=>?_) g6
  rcases hN with ⟨_,e1⟩ | e1
  ·omega
  exact hmo g6 e1
 ·by_cases e:off = j'
  ·subst e; exact g2
  rw [List.length_set] at hj'
  have g6:=hW.cells (k + 1) ob tk' j' _ (List.getElem?_eq_getElem hj')
  refine g5.frozen (fun hN=>?_) g6 (hW.rw_ (k + 1) ob tk' hrw j' hj').2
  rcases hN with ⟨_,e1⟩ | e1
  ·omega
  exact hmo g6 e1
 have g6:=hW.cells j' o hjo q' _ (List.getElem?_eq_getElem hq')
 rcases hN with ⟨e1,e2⟩ | e1
 ·rcases hW.apart j' (k + 1) o ob hne hjo tk' (.inr hrw) with g | g | g
  ·exact g e1
  ·omega
  omega
 exact hmo g6 e1
theorem qkD {i d j k off c:Nat} {env1:Env} {a1:Act} {key:Int} {x:Bs} {A:Option Addr} {ob:Ob} {N:Act → World → Prop} (h:TU w0 w1 M F n br tb0 tb env1 P s m (u.take j) a1 w) (hE:EnvOk n [] env a) (hsort:qcu u) (hj:u[j]? = some (key,x)) (hx:Octs w (Imm F w0 w1 (rdo br none 0 0 :: tb0) []) A c x) (hk:0 ≤ key ∧ key < 4294967296)
  (K:∀ r a' w',TU w0 w1 M F n br tb0 (tb.set k { ob with cells:=ob.cells.set off (.map (some r)) }) [] P s (some r) (u.take (j + 1)) a' w' → EnvOk n [] ((d,.v (.tuple #[])) :: env) a' → N a' w')
  (hp:∀ args w,(callFunc 47 args).run Tryd.prog w = .ok (.enter 47 args) w)
  (tk:tb[k]? = some ob) (hrw:ob.rw = true) (hoff:ob.cells[off]? = some (.map m))
  (he:qer [] env ops n i = some (47,[.pointer (some ⟨ob.blk,ob.off + off,none⟩),.int .u32 key,.slice A x.length c],d)):wpOp Tryd.prog ops Q i N a w:=by
 obtain ⟨A',q,c',hW,hr⟩:=h.ex
 have tk':(rdo br A' q c' :: tb)[k + 1]? = some ob:=tk
 have hlt:off < ob.cells.length:=(List.getElem?_eq_some_iff.1 hoff).1
 have hcell:w.cell? ⟨ob.blk,ob.off + off,none⟩ = some (.map m):=hW.cells (k + 1) ob tk' off _ hoff
 obtain ⟨hM,hfz⟩:=hW.rw_ (k + 1) ob tk' hrw off hlt
 have hact:Act_ (rdo br none 0 0 :: tb0) [] ob.blk (ob.off + off):=h.act _ _ (.inl ⟨k + 1,ob,tk,hrw,rfl,by omega,by omega⟩)
 have hbig:=h.big
 have hbase:=h.base
 have hmo:∀ {b o:Nat} {v:Value},w.cell? ⟨b,o,none⟩ = some v → m ≠ some b:=fun hb e=>by
  obtain ⟨es,clk,h1,_⟩:=h.own.some_ _ e
  exact qdk hb h1 rfl
 have hG:∀ b' o',Imm F w0 w1 (rdo br none 0 0 :: tb0) [] b' o' → ¬ ((b' = ob.blk ∧ o' = ob.off + off) ∨ m = some b'):=fun b' o' hg e=>by
  rcases e with ⟨rfl,rfl⟩ | e
  ·exact hg.2.2 hact
  have:=h.new b' e; have:=hg.2.1; omega
 refine qal hE he hp (qgL hcell hfz h.own hx hk (fun b' o' hg=>⟨fun e=>hG b' o' hg (.inl e),fun e=>hG b' o' hg (.inr e)⟩) (fun b' o' hg=>Nat.lt_of_lt_of_le hg.2.1 hbig)) ?_
 rintro e_ w2 ⟨rfl,r,g1,g2,g3,g4,g5⟩
 rw [qfT hsort hj] at g3
 refine ⟨_,rfl,fun a2 hE1=>K r a2 w2 ?_ hE1⟩
 have hW2:=hW.wrote1 (k + 1) (cs':=ob.cells.set off (.map (some r))) tk' hrw (by simp) g5 (fun b o hb hN=>?_) (fun j' v hv=>?_) (fun j' hj'=>?_) (fun j' o hne hjo q' hq' hN=>?_)
 ·refine ⟨h.mv,Nat.le_trans hbig g5.size,hbase,h.old,⟨A',q,c',hW2,hr.move g5 (fun b o g _=>hG b o g) qaX⟩,fun b o ha=>h.act b o ?_,?_,h.mv.move g5 (fun b o g _=>hG b o g) qaX h.fact,g3,fun r' hr'=>?_⟩
  ·rcases ha with ⟨i',ob',hi,h1,h2,h3,h4⟩ | ha
   ·cases i' with
    | zero=>exact .inl ⟨0,ob',hi,h1,h2,h3,h4⟩
    | succ i' =>
     rw [List.getElem?_cons_succ] at hi
     rcases qcj hi with ⟨e1,e2,_⟩ | ⟨_,e2⟩
     ·subst e2
      exact .inl ⟨k + 1,ob,tk,hrw,h2,h3,by simpa using h4⟩
     exact .inl ⟨i' + 1,ob',e2,h1,h2,h3,h4⟩
   exact .inr ha
  ·exact ⟨hE1.defers,hE1.size,fun _ _ hl=>by cases hl⟩
  obtain rfl:=Option.some.inj hr'
  rcases g4 with g4 | g4
  ·exact h.new _ g4
  exact Nat.le_trans hbig g4
 ·rcases hN with ⟨rfl,rfl⟩ | e
  ·rcases hM with g | g
   ·omega
   exact g
  have:=h.new b e; omega
 ·rw [List.getElem?_set] at hv
  by_cases e:off = j'
  ·subst e
   rw [if_pos rfl,if_pos hlt] at hv
   rw [← Option.some.inj hv]; exact g1
  rw [if_neg e] at hv
  have g6:=hW.cells (k + 1) ob tk' j' v hv
  refine g5.cell (fun hN=>?_) g6
  rcases hN with ⟨_,e1⟩ | e1
  ·omega
  exact hmo g6 e1
 ·by_cases e:off = j'
  ·subst e; exact g2
  rw [List.length_set] at hj'
  have g6:=hW.cells (k + 1) ob tk' j' _ (List.getElem?_eq_getElem hj')
  refine g5.frozen (fun hN=>?_) g6 (hW.rw_ (k + 1) ob tk' hrw j' hj').2
  rcases hN with ⟨_,e1⟩ | e1
  ·omega
  exact hmo g6 e1
 have g6:=hW.cells j' o hjo q' _ (List.getElem?_eq_getElem hq')
 rcases hN with ⟨e1,e2⟩ | e1
 ·rcases hW.apart j' (k + 1) o ob hne hjo tk' (.inr hrw) with g | g | g
  ·exact g e1
  ·omega
  omega
 exact hmo g6 e1
theorem TU.env0 {env':Env} {a':Act} (h:TU w0 w1 M F n br tb0 tb env P s m u a w) (hE:EnvOk n (rdo br none 0 0 :: tb) env' a'):TU w0 w1 M F n br tb0 tb env' P s m u a' w:=⟨h.mv,h.big,h.base,h.old,h.ex,h.act,hE,h.fact,h.own,h.new⟩
theorem TU.drew (h:TU w0 w1 M F n br tb0 tb env P s m u a w):TU w0 w1 M F n br tb0 tb env P s m u a w.drew:=by
 obtain ⟨A,q,c,hW,hr⟩:=h.ex
 have hs:=Step.drew w
 exact ⟨h.mv,h.big,h.base,h.old,⟨A,q,c,hW.drew,hr.move hs nilM qaX⟩,h.act,h.env_,h.mv.move hs nilM qaX h.fact,h.own.move hs nilM qaX (fun _ _ _ h=>h),h.new⟩
theorem qg8 {i d:Nat} {f:FuncId} {X rest:Bs} {vs vs':List Value} {env1:Env} {a1:Act} {Qv:Value → World → (Nat → Nat → Prop) → Prop} {N:Act → World → Prop} (h:TU w0 w1 M F n br tb0 tb env1 P (X ++ rest) m u a1 w) (hE:EnvOk n [] env a)
  (hc:∀ {br:Nat} {A:Option Addr} {m c:Nat} {w:World} {F:Nat → Nat → Prop},Str w br [.slice A m c,.bool false] → RdS w F A m c (X ++ rest) → (∀ b o,F b o → ¬ RdM br b o) → Calls Pr f (.pointer (some ⟨br,0,none⟩) :: vs).toArray w (RdPost w br F rest fun v w'=>Qv v w' F)) (hv:vs' = vs)
  (hf:∀ args w,(callFunc f args).run Pr w = .ok (.enter f args) w) (K:∀ v a' w',Qv v w' (Imm F w0 w1 (rdo br none 0 0 :: tb0) []) → TU w0 w1 M F n br tb0 tb [] P rest m u a' w' → EnvOk n [] ((d,.v v) :: env) a' → N a' w')
  (he:qer [] env ops n i = some (f,.pointer (some ⟨br,0,none⟩) :: vs',d)):wpOp Pr ops Q i N a w:=by
 subst hv
 obtain ⟨A,q,c,hW,hr⟩:=h.ex
 have hG:∀ b o,Imm F w0 w1 (rdo br none 0 0 :: tb0) [] b o → ¬ RdM br b o:=qfe 0 rfl
 refine qal hE he hf (hc (Str.of hW 0 rfl) hr hG) ?_
 rintro e_ w2 ⟨v,A1,n1,c1,rfl,hs,hr1,hst,hx⟩
 refine ⟨_,rfl,fun a1 hE1=>?_⟩
 obtain ⟨hW2,hF2,hL⟩:=hW.wrote 0 (rdo br A1 n1 c1 :: tb) rfl hst hs
 refine K v a1 w2 hx ⟨h.mv,Nat.le_trans h.big hst.size,h.base,h.old,⟨A1,n1,c1,hW2,hr1⟩,h.act,⟨hE1.defers,hE1.size,fun _ _ hl=>by cases hl⟩,h.mv.move hst (fun b o g _=>hG b o g) qaX h.fact,h.own.move hst (fun b o g _=>hG b o g) qaX (fun r o e he=>?_),h.new⟩ hE1
 have h1:=h.new r e
 have h2:=h.old
 have h3:=he.1
 omega
theorem qi1 (w:World):CellsOk w []:=fun i o hi=>by simp at hi
end
theorem pUv (x:Nat) (hx:x < 4294967296) (rest:Bs):qcX Tryd.prog 46 (uv x) rest (.int .u32 ((x:Nat):Int)):=fun hs hr hF=>(qeB x hx rest hs hr hF).mono fun e w' hp=>hp.fp fun v w' h=>h
theorem qgE {a b:Nat} (h:a = 1 + b) (hb:b < 4294967296):IntKind.u32.wrap (((a:Nat):Int) - 1) = ((b:Nat):Int):=by
 subst h
 have:IntKind.u32.wrap (((1 + b:Nat):Int) - 1) = (((1 + b:Nat):Int) - 1) % 4294967296:=by simp [IntKind.wrap,IntKind.signed,IntKind.bits]
 rw [this]; omega
theorem qj2:∀ L:List Tree,(L.flatMap fun E=>qah E.S).length = 16 * L.length
 | []=>rfl
 | x :: r=>by rw [List.flatMap_cons,List.length_append,qj2 r,qbS,List.length_cons]; omega
theorem qg9 {b:Bool} {L:List Tree} (h:L.length ≤ 32767):((if b = true then uv (L.length + 1) else be 4 L.length) ++ (L.flatMap fun E=>qah E.S)).length < 4294967296:=by
 rw [List.length_append,qj2]
 have h1:(if b = true then uv (L.length + 1) else be 4 L.length).length ≤ L.length + 10:=by
  have:=qiA (L.length + 1)
  split
  ·omega
  rw [be_length]; omega
 omega
end Go.Proofs.YtdlaobdadlmcdabDoor.ME