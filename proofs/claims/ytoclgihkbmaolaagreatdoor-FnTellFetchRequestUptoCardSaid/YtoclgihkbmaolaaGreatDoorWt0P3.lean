/- Packed. Own work. -/
import Derived.Test.YtoclgihkbmaolaaGreatDoorWt0P2
import Derived.Test.YtoclgihkbmaolaaGreatDoorProg
import Derived.Deep.LoopGhost
namespace Go.Proofs.YtoclgihkbmaolaaGreatDoor.ME
open Go
open Go.RowKit
set_option linter.unusedVariables false
set_option linter.unusedSimpArgs false
set_option maxRecDepth 20000
theorem MP {A:Option Addr} {c:Nat} (s:Bs) {w:World} {F:Nat → Nat → Prop} (ho:Octs w F A c s) (hl:2 ≤ s.length) :
  Calls Tryz.prog 93 #[.agg #[],.slice A s.length c] w (L5 w (.int .u16 (O0 s))):=by
 refine enter (n:=18) Tryz.func93 rfl Tryz.ntmps93 kz fun a hE=>?_
 have hW:=WOk.start w C1
 have ob0:=H2 s 0
 have ob1:=H2 s 1
 refine C0 [0,1] kz ?_
 refine B2 (K9 hW hE (d:=2) (cs:=[]) kz fun b1 a2 w3 hb4 hz5 hF6 hW7 hE8=>?_)
 refine B1 [1] [] [(1,.v (.slice A s.length c))] hW7 hE8 fun a9 af=>?_
 refine B5 (A4 ?_)
 refine C0 [0,1,2] kz ?_
 refine B1 [0] [1,2] [(1,.v (.slice A s.length c)),(5,.v (.slice A s.length c))] hW7 af fun aC ag=>?_
 obtain ⟨av,aw,ac,ax,ab⟩:=Slots.get ho (i:=1) (by omega)
 refine B2 (G6 ag (t:=22) (A:=A) (m:=s.length) (q:=1) (d:=6) kz (e:=5) (size:=1) (bytes:=1) (j:=1) kz ac rfl (by omega) fun aD ah=>?_)
 refine B2 (K3 ah (t:=5) (b:=av) (o:=aw + 1 * 1) (d:=7) kz (cs:=[.int .u8 ((s.getD 1 0).toNat:Int)]) (v:=.int .u8 ((s.getD 1 0).toNat:Int)) kz (AtF.move ab hW7.step A7 E8).at_ fun aE ai=>?_)
 refine B5 (A4 ?_)
 refine Bc kz hW7 fun aF ay aa=>?_
 refine C7 [0,4] [(8,.v (.slice A s.length c)),(12,.v (.slice A s.length c))] 9 (A5 B8) (fun _ h=>h ▸ aa.cells) rfl ai fun aG aj=>?_
 refine F6 aj (i:=1) (t:=22) (A:=A) (m:=s.length) (q:=1) (d:=9) kz (e:=5) (size:=1) (bytes:=1) (j:=1) kz ac rfl (by omega) kz kz (A5 B8) rfl fun aH ak=>?_
 refine J4 ak (i:=2) (t:=5) (b:=av) (o:=aw + 1 * 1) (d:=10) kz (cs:=[.int .u8 ((s.getD 1 0).toNat:Int)]) (v:=.int .u8 ((s.getD 1 0).toNat:Int)) kz (fun w' h'=>h' ▸ (AtF.move ab aa.step A7 E8).at_) kz kz (A5 B8) rfl fun aI al=>?_
 refine C7 [3] [(11,.v (.int .u16 (IntKind.u16.wrap ((s.getD 1 0).toNat:Int)))),(12,.v (.slice A s.length c))] 6 (A5 B8) (fun _ h=>h ▸ aa.cells) rfl al fun aJ am=>?_
 obtain ⟨az,aA,ao,aB,ae⟩:=Slots.get ho (i:=0) (by omega)
 refine F6 am (i:=5) (t:=22) (A:=A) (m:=s.length) (q:=0) (d:=13) kz (e:=5) (size:=1) (bytes:=1) (j:=0) kz ao rfl (by omega) kz kz (A5 B8) rfl fun aK ap=>?_
 refine J4 ap (i:=6) (t:=5) (b:=az) (o:=aA + 0 * 1) (d:=14) kz (cs:=[.int .u8 ((s.getD 0 0).toNat:Int)]) (v:=.int .u8 ((s.getD 0 0).toNat:Int)) kz (fun w' h'=>h' ▸ (AtF.move ae aa.step A7 E8).at_) kz kz (A5 B8) rfl fun aL ar=>?_
 refine C7 [7,8,9,10] [(4,.v (.int .u16 (IntKind.u16.wrap (BitVec.ofInt 16 (IntKind.u16.wrap ((s.getD 1 0).toNat:Int)) ||| BitVec.ofInt 16 (IntKind.u16.wrap ((IntKind.u16.wrap ((s.getD 0 0).toNat:Int)) * 256))).toNat)))] 0 (A5 B8) (fun _ h=>h ▸ aa.cells) rfl ar fun aM au=>?_
 refine E5 kz ?_ _
 refine A4 (wp_ret (C8 au aa.cells (v:=.int .u16 (IntKind.u16.wrap (BitVec.ofInt 16 (IntKind.u16.wrap ((s.getD 1 0).toNat:Int)) ||| BitVec.ofInt 16 (IntKind.u16.wrap ((IntKind.u16.wrap ((s.getD 0 0).toNat:Int)) * 256))).toNat)) kz ?_))
 exact ⟨congrArg Ending.returned (congrArg (Value.int IntKind.u16) (MB (oc s 0) (oc s 1) ob0 ob1)),aa.step⟩
theorem MQ {A:Option Addr} {c:Nat} (s:Bs) {w:World} {F:Nat → Nat → Prop} (ho:Octs w F A c s) (hl:4 ≤ s.length) :
  Calls Tryz.prog 82 #[.agg #[],.slice A s.length c] w (L5 w (.int .u32 (O1 s))):=by
 refine enter (n:=30) Tryz.func82 rfl Tryz.ntmps82 kz fun a hE=>?_
 have hW:=WOk.start w C1
 have ob0:=H2 s 0
 have ob1:=H2 s 1
 have ob2:=H2 s 2
 have ob3:=H2 s 3
 refine C0 [0,1] kz ?_
 refine B2 (K9 hW hE (d:=2) (cs:=[]) kz fun b1 a2 w3 hb4 hz5 hF6 hW7 hE8=>?_)
 refine B1 [1] [] [(1,.v (.slice A s.length c))] hW7 hE8 fun a9 aj=>?_
 refine B5 (A4 ?_)
 refine C0 [0,1,2] kz ?_
 refine B1 [0] [1,2] [(1,.v (.slice A s.length c)),(5,.v (.slice A s.length c))] hW7 aj fun aU ak=>?_
 obtain ⟨aH,aI,af,aJ,ae⟩:=Slots.get ho (i:=3) (by omega)
 refine B2 (G6 ak (t:=22) (A:=A) (m:=s.length) (q:=3) (d:=6) kz (e:=5) (size:=1) (bytes:=1) (j:=3) kz af rfl (by omega) fun aV al=>?_)
 refine B2 (K3 al (t:=5) (b:=aH) (o:=aI + 3 * 1) (d:=7) kz (cs:=[.int .u8 ((s.getD 3 0).toNat:Int)]) (v:=.int .u8 ((s.getD 3 0).toNat:Int)) kz (AtF.move ae hW7.step A7 E8).at_ fun aW am=>?_)
 refine B5 (A4 ?_)
 refine Bc kz hW7 fun aX aK aa=>?_
 let ac:Nat × SV:=(18,.v (.slice A s.length c))
 let ab:Nat × SV:=(24,.v (.slice A s.length c))
 refine C7 [0,4,10,16] [(8,.v (.slice A s.length c)),(12,.v (.slice A s.length c)),ac,ab] 19 (A5 B8) (fun _ h=>h ▸ aa.cells) rfl am fun aY ao=>?_
 refine F6 ao (i:=1) (t:=22) (A:=A) (m:=s.length) (q:=3) (d:=9) kz (e:=5) (size:=1) (bytes:=1) (j:=3) kz af rfl (by omega) kz kz (A5 B8) rfl fun aZ ap=>?_
 refine J4 ap (i:=2) (t:=5) (b:=aH) (o:=aI + 3 * 1) (d:=10) kz (cs:=[.int .u8 ((s.getD 3 0).toNat:Int)]) (v:=.int .u8 ((s.getD 3 0).toNat:Int)) kz (fun w' h'=>h' ▸ (AtF.move ae aa.step A7 E8).at_) kz kz (A5 B8) rfl fun ba ar=>?_
 refine C7 [3] [(11,.v (.int .u32 (IntKind.u32.wrap ((s.getD 3 0).toNat:Int)))),(12,.v (.slice A s.length c)),ac,ab] 16 (A5 B8) (fun _ h=>h ▸ aa.cells) rfl ar fun bd au=>?_
 obtain ⟨aL,aM,av,aN,ag⟩:=Slots.get ho (i:=2) (by omega)
 refine F6 au (i:=5) (t:=22) (A:=A) (m:=s.length) (q:=2) (d:=13) kz (e:=5) (size:=1) (bytes:=1) (j:=2) kz av rfl (by omega) kz kz (A5 B8) rfl fun bf aw=>?_
 refine J4 aw (i:=6) (t:=5) (b:=aL) (o:=aM + 2 * 1) (d:=14) kz (cs:=[.int .u8 ((s.getD 2 0).toNat:Int)]) (v:=.int .u8 ((s.getD 2 0).toNat:Int)) kz (fun w' h'=>h' ▸ (AtF.move ag aa.step A7 E8).at_) kz kz (A5 B8) rfl fun bg ax=>?_
 refine C7 [7,8,9] [(17,.v (.int .u32 (IntKind.u32.wrap (BitVec.ofInt 32 (IntKind.u32.wrap ((s.getD 3 0).toNat:Int)) ||| BitVec.ofInt 32 (IntKind.u32.wrap ((IntKind.u32.wrap ((s.getD 2 0).toNat:Int)) * 256))).toNat))),ac,ab] 11 (A5 B8) (fun _ h=>h ▸ aa.cells) rfl ax fun bh ay=>?_
 obtain ⟨aO,aP,az,aQ,ah⟩:=Slots.get ho (i:=1) (by omega)
 refine F6 ay (i:=11) (t:=22) (A:=A) (m:=s.length) (q:=1) (d:=19) kz (e:=5) (size:=1) (bytes:=1) (j:=1) kz az rfl (by omega) kz kz (A5 B8) rfl fun bj aA=>?_
 refine J4 aA (i:=12) (t:=5) (b:=aO) (o:=aP + 1 * 1) (d:=20) kz (cs:=[.int .u8 ((s.getD 1 0).toNat:Int)]) (v:=.int .u8 ((s.getD 1 0).toNat:Int)) kz (fun w' h'=>h' ▸ (AtF.move ah aa.step A7 E8).at_) kz kz (A5 B8) rfl fun bk aB=>?_
 refine C7 [13,14,15] [(23,.v (.int .u32 (IntKind.u32.wrap (BitVec.ofInt 32 (IntKind.u32.wrap (BitVec.ofInt 32 (IntKind.u32.wrap ((s.getD 3 0).toNat:Int)) ||| BitVec.ofInt 32 (IntKind.u32.wrap ((IntKind.u32.wrap ((s.getD 2 0).toNat:Int)) * 256))).toNat) ||| BitVec.ofInt 32 (IntKind.u32.wrap ((IntKind.u32.wrap ((s.getD 1 0).toNat:Int)) * 65536))).toNat))),ab] 6 (A5 B8) (fun _ h=>h ▸ aa.cells) rfl aB fun bn aC=>?_
 obtain ⟨aR,aS,aD,aT,ai⟩:=Slots.get ho (i:=0) (by omega)
 refine F6 aC (i:=17) (t:=22) (A:=A) (m:=s.length) (q:=0) (d:=25) kz (e:=5) (size:=1) (bytes:=1) (j:=0) kz aD rfl (by omega) kz kz (A5 B8) rfl fun bo aE=>?_
 refine J4 aE (i:=18) (t:=5) (b:=aR) (o:=aS + 0 * 1) (d:=26) kz (cs:=[.int .u8 ((s.getD 0 0).toNat:Int)]) (v:=.int .u8 ((s.getD 0 0).toNat:Int)) kz (fun w' h'=>h' ▸ (AtF.move ai aa.step A7 E8).at_) kz kz (A5 B8) rfl fun bp aF=>?_
 refine C7 [19,20,21,22] [(4,.v (.int .u32 (IntKind.u32.wrap (BitVec.ofInt 32 (IntKind.u32.wrap (BitVec.ofInt 32 (IntKind.u32.wrap (BitVec.ofInt 32 (IntKind.u32.wrap ((s.getD 3 0).toNat:Int)) ||| BitVec.ofInt 32 (IntKind.u32.wrap ((IntKind.u32.wrap ((s.getD 2 0).toNat:Int)) * 256))).toNat) ||| BitVec.ofInt 32 (IntKind.u32.wrap ((IntKind.u32.wrap ((s.getD 1 0).toNat:Int)) * 65536))).toNat) ||| BitVec.ofInt 32 (IntKind.u32.wrap ((IntKind.u32.wrap ((s.getD 0 0).toNat:Int)) * 16777216))).toNat)))] 0 (A5 B8) (fun _ h=>h ▸ aa.cells) rfl aF fun bq aG=>?_
 refine E5 kz ?_ _
 refine A4 (wp_ret (C8 aG aa.cells (v:=.int .u32 (IntKind.u32.wrap (BitVec.ofInt 32 (IntKind.u32.wrap (BitVec.ofInt 32 (IntKind.u32.wrap (BitVec.ofInt 32 (IntKind.u32.wrap ((s.getD 3 0).toNat:Int)) ||| BitVec.ofInt 32 (IntKind.u32.wrap ((IntKind.u32.wrap ((s.getD 2 0).toNat:Int)) * 256))).toNat) ||| BitVec.ofInt 32 (IntKind.u32.wrap ((IntKind.u32.wrap ((s.getD 1 0).toNat:Int)) * 65536))).toNat) ||| BitVec.ofInt 32 (IntKind.u32.wrap ((IntKind.u32.wrap ((s.getD 0 0).toNat:Int)) * 16777216))).toNat)) kz ?_))
 exact ⟨congrArg Ending.returned (congrArg (Value.int IntKind.u32) (MC (oc s 0) (oc s 1) (oc s 2) (oc s 3) ob0 ob1 ob2 ob3)),aa.step⟩
theorem MR {A:Option Addr} {c:Nat} (s:Bs) {w:World} {F:Nat → Nat → Prop} (ho:Octs w F A c s) (hl:8 ≤ s.length) :
  Calls Tryz.prog 94 #[.agg #[],.slice A s.length c] w (L5 w (.int .u64 (P3 s))):=by
 refine enter (n:=54) Tryz.func94 rfl Tryz.ntmps94 kz fun a hE=>?_
 have hW:=WOk.start w C1
 have ob0:=H2 s 0
 have ob1:=H2 s 1
 have ob2:=H2 s 2
 have ob3:=H2 s 3
 have ob4:=H2 s 4
 have ob5:=H2 s 5
 have ob6:=H2 s 6
 have ob7:=H2 s 7
 refine C0 [0,1] kz ?_
 refine B2 (K9 hW hE (d:=2) (cs:=[]) kz fun b1 a2 w3 hb4 hz5 hF6 hW7 hE8=>?_)
 refine B1 [1] [] [(1,.v (.slice A s.length c))] hW7 hE8 fun a9 az=>?_
 refine B5 (A4 ?_)
 refine C0 [0,1,2] kz ?_
 refine B1 [0] [1,2] [(1,.v (.slice A s.length c)),(5,.v (.slice A s.length c))] hW7 az fun bR aA=>?_
 obtain ⟨bk,bn,ak,bp,ai⟩:=Slots.get ho (i:=7) (by omega)
 refine B2 (G6 aA (t:=22) (A:=A) (m:=s.length) (q:=7) (d:=6) kz (e:=5) (size:=1) (bytes:=1) (j:=7) kz ak rfl (by omega) fun bS aB=>?_)
 refine B2 (K3 aB (t:=5) (b:=bk) (o:=bn + 7 * 1) (d:=7) kz (cs:=[.int .u8 ((s.getD 7 0).toNat:Int)]) (v:=.int .u8 ((s.getD 7 0).toNat:Int)) kz (AtF.move ai hW7.step A7 E8).at_ fun bT aC=>?_)
 refine B5 (A4 ?_)
 refine Bc kz hW7 fun bU bq aa=>?_
 let ah:Nat × SV:=(18,.v (.slice A s.length c))
 let ag:Nat × SV:=(24,.v (.slice A s.length c))
 let af:Nat × SV:=(30,.v (.slice A s.length c))
 let ae:Nat × SV:=(36,.v (.slice A s.length c))
 let ac:Nat × SV:=(42,.v (.slice A s.length c))
 let ab:Nat × SV:=(48,.v (.slice A s.length c))
 refine C7 [0,4,10,16,22,28,34,40] [(8,.v (.slice A s.length c)),(12,.v (.slice A s.length c)),ah,ag,af,ae,ac,ab] 39 (A5 B8) (fun _ h=>h ▸ aa.cells) rfl aC fun bV aD=>?_
 refine F6 aD (i:=1) (t:=22) (A:=A) (m:=s.length) (q:=7) (d:=9) kz (e:=5) (size:=1) (bytes:=1) (j:=7) kz ak rfl (by omega) kz kz (A5 B8) rfl fun bW aE=>?_
 refine J4 aE (i:=2) (t:=5) (b:=bk) (o:=bn + 7 * 1) (d:=10) kz (cs:=[.int .u8 ((s.getD 7 0).toNat:Int)]) (v:=.int .u8 ((s.getD 7 0).toNat:Int)) kz (fun w' h'=>h' ▸ (AtF.move ai aa.step A7 E8).at_) kz kz (A5 B8) rfl fun bX aF=>?_
 refine C7 [3] [(11,.v (.int .u64 (IntKind.u64.wrap ((s.getD 7 0).toNat:Int)))),(12,.v (.slice A s.length c)),ah,ag,af,ae,ac,ab] 36 (A5 B8) (fun _ h=>h ▸ aa.cells) rfl aF fun bY aG=>?_
 obtain ⟨bt,bu,aH,bw,al⟩:=Slots.get ho (i:=6) (by omega)
 refine F6 aG (i:=5) (t:=22) (A:=A) (m:=s.length) (q:=6) (d:=13) kz (e:=5) (size:=1) (bytes:=1) (j:=6) kz aH rfl (by omega) kz kz (A5 B8) rfl fun bZ aI=>?_
 refine J4 aI (i:=6) (t:=5) (b:=bt) (o:=bu + 6 * 1) (d:=14) kz (cs:=[.int .u8 ((s.getD 6 0).toNat:Int)]) (v:=.int .u8 ((s.getD 6 0).toNat:Int)) kz (fun w' h'=>h' ▸ (AtF.move al aa.step A7 E8).at_) kz kz (A5 B8) rfl fun b8 aJ=>?_
 refine C7 [7,8,9] [(17,.v (.int .u64 (IntKind.u64.wrap (BitVec.ofInt 64 (IntKind.u64.wrap ((s.getD 7 0).toNat:Int)) ||| BitVec.ofInt 64 (IntKind.u64.wrap ((IntKind.u64.wrap ((s.getD 6 0).toNat:Int)) * 256))).toNat))),ah,ag,af,ae,ac,ab] 31 (A5 B8) (fun _ h=>h ▸ aa.cells) rfl aJ fun cd aK=>?_
 obtain ⟨bx,bz,aL,bA,am⟩:=Slots.get ho (i:=5) (by omega)
 refine F6 aK (i:=11) (t:=22) (A:=A) (m:=s.length) (q:=5) (d:=19) kz (e:=5) (size:=1) (bytes:=1) (j:=5) kz aL rfl (by omega) kz kz (A5 B8) rfl fun ce aM=>?_
 refine J4 aM (i:=12) (t:=5) (b:=bx) (o:=bz + 5 * 1) (d:=20) kz (cs:=[.int .u8 ((s.getD 5 0).toNat:Int)]) (v:=.int .u8 ((s.getD 5 0).toNat:Int)) kz (fun w' h'=>h' ▸ (AtF.move am aa.step A7 E8).at_) kz kz (A5 B8) rfl fun cm aN=>?_
 refine C7 [13,14,15] [(23,.v (.int .u64 (IntKind.u64.wrap (BitVec.ofInt 64 (IntKind.u64.wrap (BitVec.ofInt 64 (IntKind.u64.wrap ((s.getD 7 0).toNat:Int)) ||| BitVec.ofInt 64 (IntKind.u64.wrap ((IntKind.u64.wrap ((s.getD 6 0).toNat:Int)) * 256))).toNat) ||| BitVec.ofInt 64 (IntKind.u64.wrap ((IntKind.u64.wrap ((s.getD 5 0).toNat:Int)) * 65536))).toNat))),ag,af,ae,ac,ab] 26 (A5 B8) (fun _ h=>h ▸ aa.cells) rfl aN fun cq aO=>?_
 obtain ⟨bB,bC,aP,bD,ao⟩:=Slots.get ho (i:=4) (by omega)
 refine F6 aO (i:=17) (t:=22) (A:=A) (m:=s.length) (q:=4) (d:=25) kz (e:=5) (size:=1) (bytes:=1) (j:=4) kz aP rfl (by omega) kz kz (A5 B8) rfl fun cr aQ=>?_
 refine J4 aQ (i:=18) (t:=5) (b:=bB) (o:=bC + 4 * 1) (d:=26) kz (cs:=[.int .u8 ((s.getD 4 0).toNat:Int)]) (v:=.int .u8 ((s.getD 4 0).toNat:Int)) kz (fun w' h'=>h' ▸ (AtF.move ao aa.step A7 E8).at_) kz kz (A5 B8) rfl fun cu aR=>?_
 refine C7 [19,20,21] [(29,.v (.int .u64 (IntKind.u64.wrap (BitVec.ofInt 64 (IntKind.u64.wrap (BitVec.ofInt 64 (IntKind.u64.wrap (BitVec.ofInt 64 (IntKind.u64.wrap ((s.getD 7 0).toNat:Int)) ||| BitVec.ofInt 64 (IntKind.u64.wrap ((IntKind.u64.wrap ((s.getD 6 0).toNat:Int)) * 256))).toNat) ||| BitVec.ofInt 64 (IntKind.u64.wrap ((IntKind.u64.wrap ((s.getD 5 0).toNat:Int)) * 65536))).toNat) ||| BitVec.ofInt 64 (IntKind.u64.wrap ((IntKind.u64.wrap ((s.getD 4 0).toNat:Int)) * 16777216))).toNat))),af,ae,ac,ab] 21 (A5 B8) (fun _ h=>h ▸ aa.cells) rfl aR fun cw aS=>?_
 obtain ⟨bE,bF,aT,bG,ap⟩:=Slots.get ho (i:=3) (by omega)
 refine F6 aS (i:=23) (t:=22) (A:=A) (m:=s.length) (q:=3) (d:=31) kz (e:=5) (size:=1) (bytes:=1) (j:=3) kz aT rfl (by omega) kz kz (A5 B8) rfl fun cz aU=>?_
 refine J4 aU (i:=24) (t:=5) (b:=bE) (o:=bF + 3 * 1) (d:=32) kz (cs:=[.int .u8 ((s.getD 3 0).toNat:Int)]) (v:=.int .u8 ((s.getD 3 0).toNat:Int)) kz (fun w' h'=>h' ▸ (AtF.move ap aa.step A7 E8).at_) kz kz (A5 B8) rfl fun cA aV=>?_
 refine C7 [25,26,27] [(35,.v (.int .u64 (IntKind.u64.wrap (BitVec.ofInt 64 (IntKind.u64.wrap (BitVec.ofInt 64 (IntKind.u64.wrap (BitVec.ofInt 64 (IntKind.u64.wrap (BitVec.ofInt 64 (IntKind.u64.wrap ((s.getD 7 0).toNat:Int)) ||| BitVec.ofInt 64 (IntKind.u64.wrap ((IntKind.u64.wrap ((s.getD 6 0).toNat:Int)) * 256))).toNat) ||| BitVec.ofInt 64 (IntKind.u64.wrap ((IntKind.u64.wrap ((s.getD 5 0).toNat:Int)) * 65536))).toNat) ||| BitVec.ofInt 64 (IntKind.u64.wrap ((IntKind.u64.wrap ((s.getD 4 0).toNat:Int)) * 16777216))).toNat) ||| BitVec.ofInt 64 (IntKind.u64.wrap ((IntKind.u64.wrap ((s.getD 3 0).toNat:Int)) * 4294967296))).toNat))),ae,ac,ab] 16 (A5 B8) (fun _ h=>h ▸ aa.cells) rfl aV fun cB aW=>?_
 obtain ⟨bH,bI,aX,bJ,ar⟩:=Slots.get ho (i:=2) (by omega)
 refine F6 aW (i:=29) (t:=22) (A:=A) (m:=s.length) (q:=2) (d:=37) kz (e:=5) (size:=1) (bytes:=1) (j:=2) kz aX rfl (by omega) kz kz (A5 B8) rfl fun cC aY=>?_
 refine J4 aY (i:=30) (t:=5) (b:=bH) (o:=bI + 2 * 1) (d:=38) kz (cs:=[.int .u8 ((s.getD 2 0).toNat:Int)]) (v:=.int .u8 ((s.getD 2 0).toNat:Int)) kz (fun w' h'=>h' ▸ (AtF.move ar aa.step A7 E8).at_) kz kz (A5 B8) rfl fun cD aZ=>?_
 refine C7 [31,32,33] [(41,.v (.int .u64 (IntKind.u64.wrap (BitVec.ofInt 64 (IntKind.u64.wrap (BitVec.ofInt 64 (IntKind.u64.wrap (BitVec.ofInt 64 (IntKind.u64.wrap (BitVec.ofInt 64 (IntKind.u64.wrap (BitVec.ofInt 64 (IntKind.u64.wrap ((s.getD 7 0).toNat:Int)) ||| BitVec.ofInt 64 (IntKind.u64.wrap ((IntKind.u64.wrap ((s.getD 6 0).toNat:Int)) * 256))).toNat) ||| BitVec.ofInt 64 (IntKind.u64.wrap ((IntKind.u64.wrap ((s.getD 5 0).toNat:Int)) * 65536))).toNat) ||| BitVec.ofInt 64 (IntKind.u64.wrap ((IntKind.u64.wrap ((s.getD 4 0).toNat:Int)) * 16777216))).toNat) ||| BitVec.ofInt 64 (IntKind.u64.wrap ((IntKind.u64.wrap ((s.getD 3 0).toNat:Int)) * 4294967296))).toNat) ||| BitVec.ofInt 64 (IntKind.u64.wrap ((IntKind.u64.wrap ((s.getD 2 0).toNat:Int)) * 1099511627776))).toNat))),ac,ab] 11 (A5 B8) (fun _ h=>h ▸ aa.cells) rfl aZ fun cE ba=>?_
 obtain ⟨bK,bL,bd,bM,au⟩:=Slots.get ho (i:=1) (by omega)
 refine F6 ba (i:=35) (t:=22) (A:=A) (m:=s.length) (q:=1) (d:=43) kz (e:=5) (size:=1) (bytes:=1) (j:=1) kz bd rfl (by omega) kz kz (A5 B8) rfl fun cG bf=>?_
 refine J4 bf (i:=36) (t:=5) (b:=bK) (o:=bL + 1 * 1) (d:=44) kz (cs:=[.int .u8 ((s.getD 1 0).toNat:Int)]) (v:=.int .u8 ((s.getD 1 0).toNat:Int)) kz (fun w' h'=>h' ▸ (AtF.move au aa.step A7 E8).at_) kz kz (A5 B8) rfl fun cH bg=>?_
 refine C7 [37,38,39] [(47,.v (.int .u64 (IntKind.u64.wrap (BitVec.ofInt 64 (IntKind.u64.wrap (BitVec.ofInt 64 (IntKind.u64.wrap (BitVec.ofInt 64 (IntKind.u64.wrap (BitVec.ofInt 64 (IntKind.u64.wrap (BitVec.ofInt 64 (IntKind.u64.wrap (BitVec.ofInt 64 (IntKind.u64.wrap ((s.getD 7 0).toNat:Int)) ||| BitVec.ofInt 64 (IntKind.u64.wrap ((IntKind.u64.wrap ((s.getD 6 0).toNat:Int)) * 256))).toNat) ||| BitVec.ofInt 64 (IntKind.u64.wrap ((IntKind.u64.wrap ((s.getD 5 0).toNat:Int)) * 65536))).toNat) ||| BitVec.ofInt 64 (IntKind.u64.wrap ((IntKind.u64.wrap ((s.getD 4 0).toNat:Int)) * 16777216))).toNat) ||| BitVec.ofInt 64 (IntKind.u64.wrap ((IntKind.u64.wrap ((s.getD 3 0).toNat:Int)) * 4294967296))).toNat) ||| BitVec.ofInt 64 (IntKind.u64.wrap ((IntKind.u64.wrap ((s.getD 2 0).toNat:Int)) * 1099511627776))).toNat) ||| BitVec.ofInt 64 (IntKind.u64.wrap ((IntKind.u64.wrap ((s.getD 1 0).toNat:Int)) * 281474976710656))).toNat))),ab] 6 (A5 B8) (fun _ h=>h ▸ aa.cells) rfl bg fun cI bh=>?_
 obtain ⟨bN,bj,av,bo,aj⟩:=Slots.get ho (i:=0) (by omega)
 refine F6 bh (i:=41) (t:=22) (A:=A) (m:=s.length) (q:=0) (d:=49) kz (e:=5) (size:=1) (bytes:=1) (j:=0) kz av rfl (by omega) kz kz (A5 B8) rfl fun bO aw=>?_
 refine J4 aw (i:=42) (t:=5) (b:=bN) (o:=bj + 0 * 1) (d:=50) kz (cs:=[.int .u8 ((s.getD 0 0).toNat:Int)]) (v:=.int .u8 ((s.getD 0 0).toNat:Int)) kz (fun w' h'=>h' ▸ (AtF.move aj aa.step A7 E8).at_) kz kz (A5 B8) rfl fun bP ax=>?_
 refine C7 [43,44,45,46] [(4,.v (.int .u64 (IntKind.u64.wrap (BitVec.ofInt 64 (IntKind.u64.wrap (BitVec.ofInt 64 (IntKind.u64.wrap (BitVec.ofInt 64 (IntKind.u64.wrap (BitVec.ofInt 64 (IntKind.u64.wrap (BitVec.ofInt 64 (IntKind.u64.wrap (BitVec.ofInt 64 (IntKind.u64.wrap (BitVec.ofInt 64 (IntKind.u64.wrap ((s.getD 7 0).toNat:Int)) ||| BitVec.ofInt 64 (IntKind.u64.wrap ((IntKind.u64.wrap ((s.getD 6 0).toNat:Int)) * 256))).toNat) ||| BitVec.ofInt 64 (IntKind.u64.wrap ((IntKind.u64.wrap ((s.getD 5 0).toNat:Int)) * 65536))).toNat) ||| BitVec.ofInt 64 (IntKind.u64.wrap ((IntKind.u64.wrap ((s.getD 4 0).toNat:Int)) * 16777216))).toNat) ||| BitVec.ofInt 64 (IntKind.u64.wrap ((IntKind.u64.wrap ((s.getD 3 0).toNat:Int)) * 4294967296))).toNat) ||| BitVec.ofInt 64 (IntKind.u64.wrap ((IntKind.u64.wrap ((s.getD 2 0).toNat:Int)) * 1099511627776))).toNat) ||| BitVec.ofInt 64 (IntKind.u64.wrap ((IntKind.u64.wrap ((s.getD 1 0).toNat:Int)) * 281474976710656))).toNat) ||| BitVec.ofInt 64 (IntKind.u64.wrap ((IntKind.u64.wrap ((s.getD 0 0).toNat:Int)) * 72057594037927936))).toNat)))] 0 (A5 B8) (fun _ h=>h ▸ aa.cells) rfl ax fun bQ ay=>?_
 refine E5 kz ?_ _
 refine A4 (wp_ret (C8 ay aa.cells (v:=.int .u64 (IntKind.u64.wrap (BitVec.ofInt 64 (IntKind.u64.wrap (BitVec.ofInt 64 (IntKind.u64.wrap (BitVec.ofInt 64 (IntKind.u64.wrap (BitVec.ofInt 64 (IntKind.u64.wrap (BitVec.ofInt 64 (IntKind.u64.wrap (BitVec.ofInt 64 (IntKind.u64.wrap (BitVec.ofInt 64 (IntKind.u64.wrap ((s.getD 7 0).toNat:Int)) ||| BitVec.ofInt 64 (IntKind.u64.wrap ((IntKind.u64.wrap ((s.getD 6 0).toNat:Int)) * 256))).toNat) ||| BitVec.ofInt 64 (IntKind.u64.wrap ((IntKind.u64.wrap ((s.getD 5 0).toNat:Int)) * 65536))).toNat) ||| BitVec.ofInt 64 (IntKind.u64.wrap ((IntKind.u64.wrap ((s.getD 4 0).toNat:Int)) * 16777216))).toNat) ||| BitVec.ofInt 64 (IntKind.u64.wrap ((IntKind.u64.wrap ((s.getD 3 0).toNat:Int)) * 4294967296))).toNat) ||| BitVec.ofInt 64 (IntKind.u64.wrap ((IntKind.u64.wrap ((s.getD 2 0).toNat:Int)) * 1099511627776))).toNat) ||| BitVec.ofInt 64 (IntKind.u64.wrap ((IntKind.u64.wrap ((s.getD 1 0).toNat:Int)) * 281474976710656))).toNat) ||| BitVec.ofInt 64 (IntKind.u64.wrap ((IntKind.u64.wrap ((s.getD 0 0).toNat:Int)) * 72057594037927936))).toNat)) kz ?_))
 exact ⟨congrArg Ending.returned (congrArg (Value.int IntKind.u64) (MD (oc s 0) (oc s 1) (oc s 2) (oc s 3) (oc s 4) (oc s 5) (oc s 6) (oc s 7) ob0 ob1 ob2 ob3 ob4 ob5 ob6 ob7)),aa.step⟩
theorem MS (x:Int) (rest:Bs)  {br:Nat} {A:Option Addr} {m c:Nat} {w:World} {F:Nat → Nat → Prop} (hst:Str w br [.slice A m c,.bool false]) (hr:RdS w F A m c (be 2 x ++ rest)) (hFd:∀ b o,F b o → ¬ H1 br b o) :
  Calls Tryz.prog 84 #[.pointer (some ⟨br,0,none⟩)] w (RdPost w br F rest fun v w'=>v = .int .i16 (IntKind.i16.wrap x)):=by
 obtain ⟨hm,ho⟩:=hr
 subst hm
 have hle:=ho.le
 refine enter (n:=32) Tryz.func84 rfl Tryz.ntmps84 kz fun a hE=>?_
 let aa:Value:=.slice A ((be 2 x ++ rest).length) c
 have hW:WOk w (H1 br) w [⟨br,0,[aa,.bool false],true⟩] []:=WOk.startStr hst
 have hE1:=(hE.grow ⟨br,0,[aa,.bool false],true⟩).recast 0 (.v (.pointer (some ⟨br,0,none⟩))) (.p 0 0) rfl rfl (Nat.le_of_ble_eq_true (n:=1) rfl)
 refine B7 [(0,.p 0 0)] hW hE1 fun a1 hE2=>?_
 refine wp_seq (B7 [(0,.p 0 0),(9,.v (.bool (decide ((((be 2 x ++ rest).length:Nat):Int) < 2))))] hW hE2 fun a3 hE4=>?_)
 refine E6 hE4 (b:=decide ((((be 2 x ++ rest).length:Nat):Int) < 2)) kz (decide_eq_false (by first | omega | (simp only [List.length_append,be_length,List.length_cons,List.length_nil] at *; omega))) ?_
 refine wp_skip (A4 (G0 7 kz hW fun w5 hF6 hW7 hT8=>?_))
 refine C7 [1,2,3,4] [(0,.p 0 0),(20,.v (.slice A ((be 2 x ++ rest).length) c))] 4 (A5 B8) (fun _ h=>h.cells) hT8 hE4 fun a9 ag=>?_
 refine J4 ag (i:=0) (t:=136) (b:=0) (o:=0) (d:=16) kz (cs:=[]) (v:=.agg #[]) kz (fun w' h'=>(fun j_ v_ h_=>by simp at h_)) kz kz (A5 B8) hT8 fun aw ah=>?_
 refine C2 (i:=5) kz (D3 ah (f:=93) (vs:=[.agg #[],aa]) (d:=21) kz Tryz.call93 (MP _ (ho.move hW7.step (fun b_ o_ h_ _=>hFd b_ o_ h_) (hW7.immM hFd)) (by first | omega | (simp only [List.length_append,be_length,List.length_cons,List.length_nil] at *; omega))) ?_)
 rintro e_ ax ⟨rfl,ae⟩
 refine ⟨_,rfl,fun ay ai=>?_⟩
 have ab:=hW7.next_nil ae
 have aj:=hW7.frN ae
 have af:=TT.ofW aj ab
 refine ⟨fun _=>af,?_⟩
 refine C7 [6] [(0,.p 0 0),(22,.v (.int .i16 (IntKind.i16.wrap (O0 (be 2 x ++ rest)))))] 1 (A5 B8) (fun _ h=>h.cells) af ai fun az ak=>?_
 refine C2 (i:=7) kz (L4 [0,3] ab.cells ak (env':=[(0,.p 0 0),(3,.v (.int .i16 (IntKind.i16.wrap (O0 (be 2 x ++ rest)))))]) kz fun aA al=>?_)
 refine ⟨fun h=>absurd rfl h,?_⟩
 refine E5 kz ?_ _
 refine A4 (C0 [0,1,2,3,4,5,6,7,8] kz ?_)
 refine B1 [0,1,2,3,4] [5,6,7,8] [(3,.v (.int .i16 (IntKind.i16.wrap (O0 (be 2 x ++ rest))))),(23,.p 0 0),(27,.v (.slice A ((be 2 x ++ rest).length) c))] ab al fun aB am=>?_
 refine B2 (CB am (t:=22) (A:=A) (m:=((be 2 x ++ rest).length)) (cp:=c) (q:=2) (d:=28) (j:=2) kz (e:=5) (bytes:=1) kz (rfl) (by first | omega | (simp only [List.length_append,be_length,List.length_cons,List.length_nil] at *; omega)) fun aC ao=>?_)
 refine B1 [6,7] [8] [(3,.v (.int .i16 (IntKind.i16.wrap (O0 (be 2 x ++ rest))))),(28,.v (.slice (J2 A c 2) (((be 2 x ++ rest).length) - 2) (c - 2))),(30,.p 0 0)] ab ao fun aD ap=>?_
 refine B2 (D5 ab ap (oi:=0) (cs:=[.slice (J2 A c 2) (((be 2 x ++ rest).length) - 2) (c - 2),.bool false]) kz fun aE av ac ar=>?_)
 refine B5 (A4 ?_)
 refine B7 [(2,.v (.int .i16 (IntKind.i16.wrap (O0 (be 2 x ++ rest)))))] ac ar fun aF au=>?_
 refine wp_ret (C8 au ac.cells (v:=.int .i16 (IntKind.i16.wrap (O0 (be 2 x ++ rest)))) kz ?_)
 exact ⟨_,_,_,_,rfl,Str.of ac 0 rfl,RdS.drop (s:=be 2 x) ⟨rfl,ho.move ac.step (fun b_ o_ h_ _=>hFd b_ o_ h_) E8⟩ (by simp only [be_length,List.length_cons,List.length_nil]),ac.step,by rw [Ms,Mw]⟩
theorem Jt (x:Int) (rest:Bs)  {br:Nat} {A:Option Addr} {m c:Nat} {w:World} {F:Nat → Nat → Prop} (hst:Str w br [.slice A m c,.bool false]) (hr:RdS w F A m c (be 4 x ++ rest)) (hFd:∀ b o,F b o → ¬ H1 br b o) :
  Calls Tryz.prog 50 #[.pointer (some ⟨br,0,none⟩)] w (RdPost w br F rest fun v w'=>v = .int .i32 (IntKind.i32.wrap x)):=by
 obtain ⟨hm,ho⟩:=hr
 subst hm
 have hle:=ho.le
 refine enter (n:=32) Tryz.func50 rfl Tryz.ntmps50 kz fun a hE=>?_
 let aa:Value:=.slice A ((be 4 x ++ rest).length) c
 have hW:WOk w (H1 br) w [⟨br,0,[aa,.bool false],true⟩] []:=WOk.startStr hst
 have hE1:=(hE.grow ⟨br,0,[aa,.bool false],true⟩).recast 0 (.v (.pointer (some ⟨br,0,none⟩))) (.p 0 0) rfl rfl (Nat.le_of_ble_eq_true (n:=1) rfl)
 refine B7 [(0,.p 0 0)] hW hE1 fun a1 hE2=>?_
 refine wp_seq (B7 [(0,.p 0 0),(9,.v (.bool (decide ((((be 4 x ++ rest).length:Nat):Int) < 4))))] hW hE2 fun a3 hE4=>?_)
 refine E6 hE4 (b:=decide ((((be 4 x ++ rest).length:Nat):Int) < 4)) kz (decide_eq_false (by first | omega | (simp only [List.length_append,be_length,List.length_cons,List.length_nil] at *; omega))) ?_
 refine wp_skip (A4 (G0 7 kz hW fun w5 hF6 hW7 hT8=>?_))
 refine C7 [1,2,3,4] [(0,.p 0 0),(20,.v (.slice A ((be 4 x ++ rest).length) c))] 4 (A5 B8) (fun _ h=>h.cells) hT8 hE4 fun a9 ag=>?_
 refine J4 ag (i:=0) (t:=136) (b:=0) (o:=0) (d:=16) kz (cs:=[]) (v:=.agg #[]) kz (fun w' h'=>(fun j_ v_ h_=>by simp at h_)) kz kz (A5 B8) hT8 fun aw ah=>?_
 refine C2 (i:=5) kz (D3 ah (f:=82) (vs:=[.agg #[],aa]) (d:=21) kz Tryz.call82 (MQ _ (ho.move hW7.step (fun b_ o_ h_ _=>hFd b_ o_ h_) (hW7.immM hFd)) (by first | omega | (simp only [List.length_append,be_length,List.length_cons,List.length_nil] at *; omega))) ?_)
 rintro e_ ax ⟨rfl,ae⟩
 refine ⟨_,rfl,fun ay ai=>?_⟩
 have ab:=hW7.next_nil ae
 have aj:=hW7.frN ae
 have af:=TT.ofW aj ab
 refine ⟨fun _=>af,?_⟩
 refine C7 [6] [(0,.p 0 0),(22,.v (.int .i32 (IntKind.i32.wrap (O1 (be 4 x ++ rest)))))] 1 (A5 B8) (fun _ h=>h.cells) af ai fun az ak=>?_
 refine C2 (i:=7) kz (L4 [0,3] ab.cells ak (env':=[(0,.p 0 0),(3,.v (.int .i32 (IntKind.i32.wrap (O1 (be 4 x ++ rest)))))]) kz fun aA al=>?_)
 refine ⟨fun h=>absurd rfl h,?_⟩
 refine E5 kz ?_ _
 refine A4 (C0 [0,1,2,3,4,5,6,7,8] kz ?_)
 refine B1 [0,1,2,3,4] [5,6,7,8] [(3,.v (.int .i32 (IntKind.i32.wrap (O1 (be 4 x ++ rest))))),(23,.p 0 0),(27,.v (.slice A ((be 4 x ++ rest).length) c))] ab al fun aB am=>?_
 refine B2 (CB am (t:=22) (A:=A) (m:=((be 4 x ++ rest).length)) (cp:=c) (q:=4) (d:=28) (j:=4) kz (e:=5) (bytes:=1) kz (rfl) (by first | omega | (simp only [List.length_append,be_length,List.length_cons,List.length_nil] at *; omega)) fun aC ao=>?_)
 refine B1 [6,7] [8] [(3,.v (.int .i32 (IntKind.i32.wrap (O1 (be 4 x ++ rest))))),(28,.v (.slice (J2 A c 4) (((be 4 x ++ rest).length) - 4) (c - 4))),(30,.p 0 0)] ab ao fun aD ap=>?_
 refine B2 (D5 ab ap (oi:=0) (cs:=[.slice (J2 A c 4) (((be 4 x ++ rest).length) - 4) (c - 4),.bool false]) kz fun aE av ac ar=>?_)
 refine B5 (A4 ?_)
 refine B7 [(2,.v (.int .i32 (IntKind.i32.wrap (O1 (be 4 x ++ rest)))))] ac ar fun aF au=>?_
 refine wp_ret (C8 au ac.cells (v:=.int .i32 (IntKind.i32.wrap (O1 (be 4 x ++ rest)))) kz ?_)
 exact ⟨_,_,_,_,rfl,Str.of ac 0 rfl,RdS.drop (s:=be 4 x) ⟨rfl,ho.move ac.step (fun b_ o_ h_ _=>hFd b_ o_ h_) E8⟩ (by simp only [be_length,List.length_cons,List.length_nil]),ac.step,by rw [Mt,Mx]⟩
theorem MT (x:Int) (rest:Bs)  {br:Nat} {A:Option Addr} {m c:Nat} {w:World} {F:Nat → Nat → Prop} (hst:Str w br [.slice A m c,.bool false]) (hr:RdS w F A m c (be 8 x ++ rest)) (hFd:∀ b o,F b o → ¬ H1 br b o) :
  Calls Tryz.prog 85 #[.pointer (some ⟨br,0,none⟩)] w (RdPost w br F rest fun v w'=>v = .int .u64 (IntKind.u64.wrap x)):=by
 obtain ⟨hm,ho⟩:=hr
 subst hm
 have hle:=ho.le
 refine enter (n:=31) Tryz.func85 rfl Tryz.ntmps85 kz fun a hE=>?_
 let aa:Value:=.slice A ((be 8 x ++ rest).length) c
 have hW:WOk w (H1 br) w [⟨br,0,[aa,.bool false],true⟩] []:=WOk.startStr hst
 have hE1:=(hE.grow ⟨br,0,[aa,.bool false],true⟩).recast 0 (.v (.pointer (some ⟨br,0,none⟩))) (.p 0 0) rfl rfl (Nat.le_of_ble_eq_true (n:=1) rfl)
 refine B7 [(0,.p 0 0)] hW hE1 fun a1 hE2=>?_
 refine wp_seq (B7 [(0,.p 0 0),(9,.v (.bool (decide ((((be 8 x ++ rest).length:Nat):Int) < 8))))] hW hE2 fun a3 hE4=>?_)
 refine E6 hE4 (b:=decide ((((be 8 x ++ rest).length:Nat):Int) < 8)) kz (decide_eq_false (by first | omega | (simp only [List.length_append,be_length,List.length_cons,List.length_nil] at *; omega))) ?_
 refine wp_skip (A4 (G0 6 kz hW fun w5 hF6 hW7 hT8=>?_))
 refine C7 [1,2,3,4] [(0,.p 0 0),(20,.v (.slice A ((be 8 x ++ rest).length) c))] 3 (A5 B8) (fun _ h=>h.cells) hT8 hE4 fun a9 af=>?_
 refine J4 af (i:=0) (t:=136) (b:=0) (o:=0) (d:=16) kz (cs:=[]) (v:=.agg #[]) kz (fun w' h'=>(fun j_ v_ h_=>by simp at h_)) kz kz (A5 B8) hT8 fun av ag=>?_
 refine C2 (i:=5) kz (D3 ag (f:=94) (vs:=[.agg #[],aa]) (d:=21) kz Tryz.call94 (MR _ (ho.move hW7.step (fun b_ o_ h_ _=>hFd b_ o_ h_) (hW7.immM hFd)) (by first | omega | (simp only [List.length_append,be_length,List.length_cons,List.length_nil] at *; omega))) ?_)
 rintro e_ aw ⟨rfl,ae⟩
 refine ⟨_,rfl,fun ax ah=>?_⟩
 have ab:=hW7.next_nil ae
 have ai:=hW7.frN ae
 have aj:=TT.ofW ai ab
 refine ⟨fun _=>aj,?_⟩
 refine C2 (i:=6) kz (L4 [0,3] ab.cells ah (env':=[(0,.p 0 0),(3,.v (.int .u64 (P3 (be 8 x ++ rest))))]) kz fun ay ak=>?_)
 refine ⟨fun h=>absurd rfl h,?_⟩
 refine E5 kz ?_ _
 refine A4 (C0 [0,1,2,3,4,5,6,7,8] kz ?_)
 refine B1 [0,1,2,3,4] [5,6,7,8] [(3,.v (.int .u64 (P3 (be 8 x ++ rest)))),(22,.p 0 0),(26,.v (.slice A ((be 8 x ++ rest).length) c))] ab ak fun az al=>?_
 refine B2 (CB al (t:=22) (A:=A) (m:=((be 8 x ++ rest).length)) (cp:=c) (q:=8) (d:=27) (j:=8) kz (e:=5) (bytes:=1) kz (rfl) (by first | omega | (simp only [List.length_append,be_length,List.length_cons,List.length_nil] at *; omega)) fun aA am=>?_)
 refine B1 [6,7] [8] [(3,.v (.int .u64 (P3 (be 8 x ++ rest)))),(27,.v (.slice (J2 A c 8) (((be 8 x ++ rest).length) - 8) (c - 8))),(29,.p 0 0)] ab am fun aB ao=>?_
 refine B2 (D5 ab ao (oi:=0) (cs:=[.slice (J2 A c 8) (((be 8 x ++ rest).length) - 8) (c - 8),.bool false]) kz fun aC au ac ap=>?_)
 refine B5 (A4 ?_)
 refine B7 [(2,.v (.int .u64 (P3 (be 8 x ++ rest))))] ac ap fun aD ar=>?_
 refine wp_ret (C8 ar ac.cells (v:=.int .u64 (P3 (be 8 x ++ rest))) kz ?_)
 exact ⟨_,_,_,_,rfl,Str.of ac 0 rfl,RdS.drop (s:=be 8 x) ⟨rfl,ho.move ac.step (fun b_ o_ h_ _=>hFd b_ o_ h_) E8⟩ (by simp only [be_length,List.length_cons,List.length_nil]),ac.step,by rw [Mu]⟩
theorem MU (x:Int) (rest:Bs)  {br:Nat} {A:Option Addr} {m c:Nat} {w:World} {F:Nat → Nat → Prop} (hst:Str w br [.slice A m c,.bool false]) (hr:RdS w F A m c (be 1 x ++ rest)) (hFd:∀ b o,F b o → ¬ H1 br b o) :
  Calls Tryz.prog 51 #[.pointer (some ⟨br,0,none⟩)] w (RdPost w br F rest fun v w'=>v = .int .i8 (IntKind.i8.wrap x)):=by
 obtain ⟨hm,ho⟩:=hr
 subst hm
 have hle:=ho.le
 refine enter (n:=32) Tryz.func51 rfl Tryz.ntmps51 kz fun a hE=>?_
 let ac:Value:=.slice A ((be 1 x ++ rest).length) c
 have hW:WOk w (H1 br) w [⟨br,0,[ac,.bool false],true⟩] []:=WOk.startStr hst
 have hE1:=(hE.grow ⟨br,0,[ac,.bool false],true⟩).recast 0 (.v (.pointer (some ⟨br,0,none⟩))) (.p 0 0) rfl rfl (Nat.le_of_ble_eq_true (n:=1) rfl)
 refine B7 [(0,.p 0 0)] hW hE1 fun a1 hE2=>?_
 refine wp_seq (B7 [(0,.p 0 0),(9,.v (.bool (decide ((((be 1 x ++ rest).length:Nat):Int) < 1))))] hW hE2 fun a3 hE4=>?_)
 refine E6 hE4 (b:=decide ((((be 1 x ++ rest).length:Nat):Int) < 1)) kz (decide_eq_false (by first | omega | (simp only [List.length_append,be_length,List.length_cons,List.length_nil] at *; omega))) ?_
 refine wp_skip (A4 (C0 [0,1,2,3,4,5,6] kz ?_))
 refine B1 [0,1,2,3] [4,5,6] [(0,.p 0 0),(19,.v (.slice A ((be 1 x ++ rest).length) c))] hW hE4 fun a5 hE6=>?_
 obtain ⟨b7,o8,hA9,ao,ae⟩:=Slots.get ho (i:=0) (by first | omega | (simp only [List.length_append,be_length,List.length_cons,List.length_nil] at *; omega))
 refine B2 (G6 hE6 (t:=22) (A:=A) (m:=((be 1 x ++ rest).length)) (q:=0) (d:=20) kz (e:=5) (size:=1) (bytes:=1) (j:=0) kz hA9 rfl (by first | omega | (simp only [List.length_append,be_length,List.length_cons,List.length_nil] at *; omega)) fun ar af=>?_)
 refine B2 (K3 af (t:=5) (b:=b7) (o:=o8 + 0 * 1) (d:=21) kz (cs:=[.int .u8 (((be 1 x ++ rest).getD 0 0).toNat:Int)]) (v:=.int .u8 (((be 1 x ++ rest).getD 0 0).toNat:Int)) kz (AtF.move ae hW.step (fun b_ o_ h_ _=>hFd b_ o_ h_) E8).at_ fun au ag=>?_)
 let aa:Nat × SV:=(3,.v (.int .u8 (((be 1 x ++ rest).getD 0 0).toNat:Int)))
 refine B1 [6] [] [(0,.p 0 0),aa] hW ag fun av ah=>?_
 refine B5 (A4 ?_)
 refine C0 [0,1,2,3,4,5,6,7,8] kz ?_
 refine B1 [0,1,2,3,4] [5,6,7,8] [aa,(22,.p 0 0),(26,.v (.slice A ((be 1 x ++ rest).length) c))] hW ah fun aw ai=>?_
 refine B2 (CB ai (t:=22) (A:=A) (m:=((be 1 x ++ rest).length)) (cp:=c) (q:=1) (d:=27) (j:=1) kz (e:=5) (bytes:=1) kz (rfl) (by first | omega | (simp only [List.length_append,be_length,List.length_cons,List.length_nil] at *; omega)) fun ax aj=>?_)
 refine B1 [6,7] [8] [aa,(27,.v (.slice (J2 A c 1) (((be 1 x ++ rest).length) - 1) (c - 1))),(29,.p 0 0)] hW aj fun ay ak=>?_
 refine B2 (D5 hW ak (oi:=0) (cs:=[.slice (J2 A c 1) (((be 1 x ++ rest).length) - 1) (c - 1),.bool false]) kz fun az ap ab al=>?_)
 refine B5 (A4 ?_)
 refine B7 [(2,.v (.int .i8 (IntKind.i8.wrap (((be 1 x ++ rest).getD 0 0).toNat:Int))))] ab al fun aA am=>?_
 refine wp_ret (C8 am ab.cells (v:=.int .i8 (IntKind.i8.wrap (((be 1 x ++ rest).getD 0 0).toNat:Int))) kz ?_)
 exact ⟨_,_,_,_,rfl,Str.of ab 0 rfl,RdS.drop (s:=be 1 x) ⟨rfl,ho.move ab.step (fun b_ o_ h_ _=>hFd b_ o_ h_) E8⟩ (by simp only [be_length,List.length_cons,List.length_nil]),ab.step,by rw [Mv,Mz]⟩
def M4 (s:Bs):Nat × Nat:=if oc s 0 < 128 then (oc s 0,1) else if oc s 1 < 128 then (oc s 0 - 128 + oc s 1 * 128,2) else if oc s 2 < 128 then (oc s 0 - 128 + (oc s 1 - 128) * 128 + oc s 2 * 16384,3) else if oc s 3 < 128 then (oc s 0 - 128 + (oc s 1 - 128) * 128 + (oc s 2 - 128) * 16384 + oc s 3 * 2097152,4) else (oc s 0 - 128 + (oc s 1 - 128) * 128 + (oc s 2 - 128) * 16384 + (oc s 3 - 128) * 2097152 + oc s 4 * 268435456,5)
theorem MV {s:Bs} :1 ≤ (M4 s).2:=by
 unfold M4
 repeat' split
 all_goals (first | exact Nat.le_refl _ | (simp only []; omega) | decide)
theorem MW {s:Bs} (q0:¬ oc s 0 < 128):2 ≤ (M4 s).2:=by
 unfold M4
 rw [if_neg q0]
 repeat' split
 all_goals (first | exact Nat.le_refl _ | (simp only []; omega) | decide)
theorem MX {s:Bs} (q0:¬ oc s 0 < 128) (q1:¬ oc s 1 < 128):3 ≤ (M4 s).2:=by
 unfold M4
 rw [if_neg q0,if_neg q1]
 repeat' split
 all_goals (first | exact Nat.le_refl _ | (simp only []; omega) | decide)
theorem MY {s:Bs} (q0:¬ oc s 0 < 128) (q1:¬ oc s 1 < 128) (q2:¬ oc s 2 < 128):4 ≤ (M4 s).2:=by
 unfold M4
 rw [if_neg q0,if_neg q1,if_neg q2]
 repeat' split
 all_goals (first | exact Nat.le_refl _ | (simp only []; omega) | decide)
theorem Ju {s:Bs} (q0:¬ oc s 0 < 128) (q1:¬ oc s 1 < 128) (q2:¬ oc s 2 < 128) (q3:¬ oc s 3 < 128):(M4 s).2 = 5:=by
 unfold M4
 rw [if_neg q0,if_neg q1,if_neg q2,if_neg q3]
theorem GK {A:Option Addr} {c:Nat} (s:Bs) {w:World} {F:Nat → Nat → Prop} (ho:Octs w F A c s) (hl:(M4 s).2 ≤ s.length) (g4:(M4 s).2 = 5 → oc s 4 < 16) :
  Calls Tryz.prog 86 #[.slice A s.length c] w (L5 w (.tuple #[.int .u32 (((M4 s).1:Nat):Int),.int .i64 (((M4 s).2:Nat):Int)])):=by
 refine enter (n:=87) Tryz.func86 rfl Tryz.ntmps86 kz fun a hE=>?_
 have hW:=WOk.start w C1
 have hl1:=Nat.le_trans (MV (s:=s)) hl
 let aa:Nat × SV:=(0,.v (.slice A s.length c))
 refine B7 [aa] hW hE fun a1 hE2=>?_
 refine wp_scope_straight (B7 [aa] hW hE2 fun a3 hE4=>?_)
 refine B7 [aa] hW hE4 fun a5 hE6=>?_
 refine wp_seq (B7 [aa,(8,.v (.bool (decide (((s.length:Nat):Int) < 1))))] hW hE6 fun a7 hE8=>?_)
 refine E6 hE8 (b:=decide (((s.length:Nat):Int) < 1)) kz (decide_eq_false (by omega)) ?_
 refine wp_skip (A4 (C0 [0,1,2,3,4,5] kz ?_))
 refine B1 [0] [1,2,3,4,5] [aa,(9,.v (.slice A s.length c))] hW hE8 fun a9 aR=>?_
 obtain ⟨bD,bE,aw,bM,af⟩:=Slots.get ho (i:=0) (by first | omega | (simp only [List.length_append,be_length,List.length_cons,List.length_nil] at *; omega))
 refine B2 (G6 aR (t:=22) (A:=A) (m:=s.length) (q:=0) (d:=10) kz (e:=5) (size:=1) (bytes:=1) (j:=0) kz aw rfl (by first | omega | (simp only [List.length_append,be_length,List.length_cons,List.length_nil] at *; omega)) fun cr aS=>?_)
 refine B2 (K3 aS (t:=5) (b:=bD) (o:=bE + 0 * 1) (d:=11) kz (cs:=[.int .u8 ((s.getD 0 0).toNat:Int)]) (v:=.int .u8 ((s.getD 0 0).toNat:Int)) kz (AtF.move af hW.step A7 E8).at_ fun cu aT=>?_)
 refine B1 [3,4,5] [] [aa,(4,.v (.int .u32 (IntKind.u32.wrap (IntKind.u8.wrap (BitVec.ofInt 8 ((s.getD 0 0).toNat:Int) &&& BitVec.ofInt 8 127).toNat))))] hW aT fun cw aU=>?_
 refine B5 (A4 ?_)
 refine wp_seq (C0 [0,1,2,3,4] kz ?_)
 refine B1 [0] [1,2,3,4] [aa,(4,.v (.int .u32 (IntKind.u32.wrap (IntKind.u8.wrap (BitVec.ofInt 8 ((s.getD 0 0).toNat:Int) &&& BitVec.ofInt 8 127).toNat)))),(14,.v (.slice A s.length c))] hW aU fun cz aV=>?_
 refine B2 (G6 aV (t:=22) (A:=A) (m:=s.length) (q:=0) (d:=15) kz (e:=5) (size:=1) (bytes:=1) (j:=0) kz aw rfl (by first | omega | (simp only [List.length_append,be_length,List.length_cons,List.length_nil] at *; omega)) fun cA aW=>?_)
 refine B2 (K3 aW (t:=5) (b:=bD) (o:=bE + 0 * 1) (d:=16) kz (cs:=[.int .u8 ((s.getD 0 0).toNat:Int)]) (v:=.int .u8 ((s.getD 0 0).toNat:Int)) kz (AtF.move af hW.step A7 E8).at_ fun cB aX=>?_)
 refine B1 [3,4] [] [aa,(4,.v (.int .u32 (IntKind.u32.wrap (IntKind.u8.wrap (BitVec.ofInt 8 ((s.getD 0 0).toNat:Int) &&& BitVec.ofInt 8 127).toNat)))),(18,.v (.bool ((IntKind.u8.wrap (BitVec.ofInt 8 ((s.getD 0 0).toNat:Int) &&& BitVec.ofInt 8 128).toNat) == 0)))] hW aX fun cC am=>?_
 refine B5 (A4 ?_)
 refine D4 am (b:=(IntKind.u8.wrap (BitVec.ofInt 8 ((s.getD 0 0).toNat:Int) &&& BitVec.ofInt 8 128).toNat) == 0) kz (fun ao=>?_) (fun ao=>?_)
 ·
  have q0:oc s 0 < 128:=of_decide_eq_true ((Bj _ (H2 s 0)).symm.trans ao)
  refine B7 [(2,.v (.int .u32 (IntKind.u32.wrap (IntKind.u8.wrap (BitVec.ofInt 8 ((s.getD 0 0).toNat:Int) &&& BitVec.ofInt 8 127).toNat)))),(3,.v (.int .i64 1))] hW am fun cD aY=>?_
  refine wp_ret (D6 (Do (C8 aY hW.cells (v:=.tuple #[.int .u32 (IntKind.u32.wrap (IntKind.u8.wrap (BitVec.ofInt 8 ((s.getD 0 0).toNat:Int) &&& BitVec.ofInt 8 127).toNat)),.int .i64 1]) kz ?_)))
  have e_:=GD (oc s 0) (H2 s 0)
  have r_:M4 s = (oc s 0,1):=by unfold M4; rw [if_pos q0]
  have b0_:=H2 s 0
  rw [r_]
  refine ⟨congrArg (fun z_:Int=>Ending.returned (.tuple #[.int .u32 z_,.int .i64 1])) (Eq.trans e_ ?_),hW.step⟩
  show _ = ((oc s 0:Nat):Int)
  omega
 have q0:¬ oc s 0 < 128:=of_decide_eq_false ((Bj _ (H2 s 0)).symm.trans ao)
 have hl2:=Nat.le_trans (MW q0) hl
 refine B7 [aa,(4,.v (.int .u32 (IntKind.u32.wrap (IntKind.u8.wrap (BitVec.ofInt 8 ((s.getD 0 0).toNat:Int) &&& BitVec.ofInt 8 127).toNat)))),(22,.v (.bool (decide (((s.length:Nat):Int) < 2))))] hW am fun cE ax=>?_
 refine E6 ax (b:=decide (((s.length:Nat):Int) < 2)) kz (decide_eq_false (by omega)) ?_
 refine wp_skip (A4 (C0 [0,1,2,3,4,5,6,7,8] kz ?_))
 refine B1 [0,1] [2,3,4,5,6,7,8] [aa,(23,.v (.int .u32 (IntKind.u32.wrap (IntKind.u8.wrap (BitVec.ofInt 8 ((s.getD 0 0).toNat:Int) &&& BitVec.ofInt 8 127).toNat)))),(24,.v (.slice A s.length c))] hW ax fun cG aZ=>?_
 obtain ⟨bF,bG,ay,bN,ag⟩:=Slots.get ho (i:=1) (by first | omega | (simp only [List.length_append,be_length,List.length_cons,List.length_nil] at *; omega))
 refine B2 (G6 aZ (t:=22) (A:=A) (m:=s.length) (q:=1) (d:=25) kz (e:=5) (size:=1) (bytes:=1) (j:=1) kz ay rfl (by first | omega | (simp only [List.length_append,be_length,List.length_cons,List.length_nil] at *; omega)) fun cH ba=>?_)
 refine B2 (K3 ba (t:=5) (b:=bF) (o:=bG + 1 * 1) (d:=26) kz (cs:=[.int .u8 ((s.getD 1 0).toNat:Int)]) (v:=.int .u8 ((s.getD 1 0).toNat:Int)) kz (AtF.move ag hW.step A7 E8).at_ fun cI bd=>?_)
 refine B1 [4,5,6,7,8] [] [aa,(4,.v (.int .u32 (IntKind.u32.wrap (BitVec.ofInt 32 (IntKind.u32.wrap (IntKind.u8.wrap (BitVec.ofInt 8 ((s.getD 0 0).toNat:Int) &&& BitVec.ofInt 8 127).toNat)) ||| BitVec.ofInt 32 (IntKind.u32.wrap ((IntKind.u32.wrap (IntKind.u8.wrap (BitVec.ofInt 8 ((s.getD 1 0).toNat:Int) &&& BitVec.ofInt 8 127).toNat)) * 128))).toNat)))] hW bd fun cJ bf=>?_
 refine B5 (A4 ?_)
 refine wp_seq (C0 [0,1,2,3,4] kz ?_)
 refine B1 [0] [1,2,3,4] [aa,(4,.v (.int .u32 (IntKind.u32.wrap (BitVec.ofInt 32 (IntKind.u32.wrap (IntKind.u8.wrap (BitVec.ofInt 8 ((s.getD 0 0).toNat:Int) &&& BitVec.ofInt 8 127).toNat)) ||| BitVec.ofInt 32 (IntKind.u32.wrap ((IntKind.u32.wrap (IntKind.u8.wrap (BitVec.ofInt 8 ((s.getD 1 0).toNat:Int) &&& BitVec.ofInt 8 127).toNat)) * 128))).toNat))),(31,.v (.slice A s.length c))] hW bf fun cK bg=>?_
 refine B2 (G6 bg (t:=22) (A:=A) (m:=s.length) (q:=1) (d:=32) kz (e:=5) (size:=1) (bytes:=1) (j:=1) kz ay rfl (by first | omega | (simp only [List.length_append,be_length,List.length_cons,List.length_nil] at *; omega)) fun cL bh=>?_)
 refine B2 (K3 bh (t:=5) (b:=bF) (o:=bG + 1 * 1) (d:=33) kz (cs:=[.int .u8 ((s.getD 1 0).toNat:Int)]) (v:=.int .u8 ((s.getD 1 0).toNat:Int)) kz (AtF.move ag hW.step A7 E8).at_ fun cM bj=>?_)
 refine B1 [3,4] [] [aa,(4,.v (.int .u32 (IntKind.u32.wrap (BitVec.ofInt 32 (IntKind.u32.wrap (IntKind.u8.wrap (BitVec.ofInt 8 ((s.getD 0 0).toNat:Int) &&& BitVec.ofInt 8 127).toNat)) ||| BitVec.ofInt 32 (IntKind.u32.wrap ((IntKind.u32.wrap (IntKind.u8.wrap (BitVec.ofInt 8 ((s.getD 1 0).toNat:Int) &&& BitVec.ofInt 8 127).toNat)) * 128))).toNat))),(35,.v (.bool ((IntKind.u8.wrap (BitVec.ofInt 8 ((s.getD 1 0).toNat:Int) &&& BitVec.ofInt 8 128).toNat) == 0)))] hW bj fun cN ap=>?_
 refine B5 (A4 ?_)
 refine D4 ap (b:=(IntKind.u8.wrap (BitVec.ofInt 8 ((s.getD 1 0).toNat:Int) &&& BitVec.ofInt 8 128).toNat) == 0) kz (fun ar=>?_) (fun ar=>?_)
 ·
  have q1:oc s 1 < 128:=of_decide_eq_true ((Bj _ (H2 s 1)).symm.trans ar)
  refine B7 [(2,.v (.int .u32 (IntKind.u32.wrap (BitVec.ofInt 32 (IntKind.u32.wrap (IntKind.u8.wrap (BitVec.ofInt 8 ((s.getD 0 0).toNat:Int) &&& BitVec.ofInt 8 127).toNat)) ||| BitVec.ofInt 32 (IntKind.u32.wrap ((IntKind.u32.wrap (IntKind.u8.wrap (BitVec.ofInt 8 ((s.getD 1 0).toNat:Int) &&& BitVec.ofInt 8 127).toNat)) * 128))).toNat))),(3,.v (.int .i64 2))] hW ap fun cO bk=>?_
  refine wp_ret (D6 (Do (C8 bk hW.cells (v:=.tuple #[.int .u32 (IntKind.u32.wrap (BitVec.ofInt 32 (IntKind.u32.wrap (IntKind.u8.wrap (BitVec.ofInt 8 ((s.getD 0 0).toNat:Int) &&& BitVec.ofInt 8 127).toNat)) ||| BitVec.ofInt 32 (IntKind.u32.wrap ((IntKind.u32.wrap (IntKind.u8.wrap (BitVec.ofInt 8 ((s.getD 1 0).toNat:Int) &&& BitVec.ofInt 8 127).toNat)) * 128))).toNat),.int .i64 2]) kz ?_)))
  have e_:=GE (oc s 0) (oc s 1) (H2 s 0) (H2 s 1)
  have r_:M4 s = (oc s 0 - 128 + oc s 1 * 128,2):=by unfold M4; rw [if_neg q0,if_pos q1]
  have b0_:=H2 s 0
  have b1_:=H2 s 1
  rw [r_]
  refine ⟨congrArg (fun z_:Int=>Ending.returned (.tuple #[.int .u32 z_,.int .i64 2])) (Eq.trans e_ ?_),hW.step⟩
  show _ = ((oc s 0 - 128 + oc s 1 * 128:Nat):Int)
  omega
 have q1:¬ oc s 1 < 128:=of_decide_eq_false ((Bj _ (H2 s 1)).symm.trans ar)
 have hl3:=Nat.le_trans (MX q0 q1) hl
 refine B7 [aa,(4,.v (.int .u32 (IntKind.u32.wrap (BitVec.ofInt 32 (IntKind.u32.wrap (IntKind.u8.wrap (BitVec.ofInt 8 ((s.getD 0 0).toNat:Int) &&& BitVec.ofInt 8 127).toNat)) ||| BitVec.ofInt 32 (IntKind.u32.wrap ((IntKind.u32.wrap (IntKind.u8.wrap (BitVec.ofInt 8 ((s.getD 1 0).toNat:Int) &&& BitVec.ofInt 8 127).toNat)) * 128))).toNat))),(39,.v (.bool (decide (((s.length:Nat):Int) < 3))))] hW ap fun cP az=>?_
 refine E6 az (b:=decide (((s.length:Nat):Int) < 3)) kz (decide_eq_false (by omega)) ?_
 refine wp_skip (A4 (C0 [0,1,2,3,4,5,6,7,8] kz ?_))
 refine B1 [0,1] [2,3,4,5,6,7,8] [aa,(40,.v (.int .u32 (IntKind.u32.wrap (BitVec.ofInt 32 (IntKind.u32.wrap (IntKind.u8.wrap (BitVec.ofInt 8 ((s.getD 0 0).toNat:Int) &&& BitVec.ofInt 8 127).toNat)) ||| BitVec.ofInt 32 (IntKind.u32.wrap ((IntKind.u32.wrap (IntKind.u8.wrap (BitVec.ofInt 8 ((s.getD 1 0).toNat:Int) &&& BitVec.ofInt 8 127).toNat)) * 128))).toNat))),(41,.v (.slice A s.length c))] hW az fun cQ bn=>?_
 obtain ⟨bH,bI,aA,bO,ah⟩:=Slots.get ho (i:=2) (by first | omega | (simp only [List.length_append,be_length,List.length_cons,List.length_nil] at *; omega))
 refine B2 (G6 bn (t:=22) (A:=A) (m:=s.length) (q:=2) (d:=42) kz (e:=5) (size:=1) (bytes:=1) (j:=2) kz aA rfl (by first | omega | (simp only [List.length_append,be_length,List.length_cons,List.length_nil] at *; omega)) fun cR bo=>?_)
 refine B2 (K3 bo (t:=5) (b:=bH) (o:=bI + 2 * 1) (d:=43) kz (cs:=[.int .u8 ((s.getD 2 0).toNat:Int)]) (v:=.int .u8 ((s.getD 2 0).toNat:Int)) kz (AtF.move ah hW.step A7 E8).at_ fun cS bp=>?_)
 refine B1 [4,5,6,7,8] [] [aa,(4,.v (.int .u32 (IntKind.u32.wrap (BitVec.ofInt 32 (IntKind.u32.wrap (BitVec.ofInt 32 (IntKind.u32.wrap (IntKind.u8.wrap (BitVec.ofInt 8 ((s.getD 0 0).toNat:Int) &&& BitVec.ofInt 8 127).toNat)) ||| BitVec.ofInt 32 (IntKind.u32.wrap ((IntKind.u32.wrap (IntKind.u8.wrap (BitVec.ofInt 8 ((s.getD 1 0).toNat:Int) &&& BitVec.ofInt 8 127).toNat)) * 128))).toNat) ||| BitVec.ofInt 32 (IntKind.u32.wrap ((IntKind.u32.wrap (IntKind.u8.wrap (BitVec.ofInt 8 ((s.getD 2 0).toNat:Int) &&& BitVec.ofInt 8 127).toNat)) * 16384))).toNat)))] hW bp fun cT bq=>?_
 refine B5 (A4 ?_)
 refine wp_seq (C0 [0,1,2,3,4] kz ?_)
 refine B1 [0] [1,2,3,4] [aa,(4,.v (.int .u32 (IntKind.u32.wrap (BitVec.ofInt 32 (IntKind.u32.wrap (BitVec.ofInt 32 (IntKind.u32.wrap (IntKind.u8.wrap (BitVec.ofInt 8 ((s.getD 0 0).toNat:Int) &&& BitVec.ofInt 8 127).toNat)) ||| BitVec.ofInt 32 (IntKind.u32.wrap ((IntKind.u32.wrap (IntKind.u8.wrap (BitVec.ofInt 8 ((s.getD 1 0).toNat:Int) &&& BitVec.ofInt 8 127).toNat)) * 128))).toNat) ||| BitVec.ofInt 32 (IntKind.u32.wrap ((IntKind.u32.wrap (IntKind.u8.wrap (BitVec.ofInt 8 ((s.getD 2 0).toNat:Int) &&& BitVec.ofInt 8 127).toNat)) * 16384))).toNat))),(48,.v (.slice A s.length c))] hW bq fun cU bt=>?_
 refine B2 (G6 bt (t:=22) (A:=A) (m:=s.length) (q:=2) (d:=49) kz (e:=5) (size:=1) (bytes:=1) (j:=2) kz aA rfl (by first | omega | (simp only [List.length_append,be_length,List.length_cons,List.length_nil] at *; omega)) fun cV bu=>?_)
 refine B2 (K3 bu (t:=5) (b:=bH) (o:=bI + 2 * 1) (d:=50) kz (cs:=[.int .u8 ((s.getD 2 0).toNat:Int)]) (v:=.int .u8 ((s.getD 2 0).toNat:Int)) kz (AtF.move ah hW.step A7 E8).at_ fun cW bw=>?_)
 refine B1 [3,4] [] [aa,(4,.v (.int .u32 (IntKind.u32.wrap (BitVec.ofInt 32 (IntKind.u32.wrap (BitVec.ofInt 32 (IntKind.u32.wrap (IntKind.u8.wrap (BitVec.ofInt 8 ((s.getD 0 0).toNat:Int) &&& BitVec.ofInt 8 127).toNat)) ||| BitVec.ofInt 32 (IntKind.u32.wrap ((IntKind.u32.wrap (IntKind.u8.wrap (BitVec.ofInt 8 ((s.getD 1 0).toNat:Int) &&& BitVec.ofInt 8 127).toNat)) * 128))).toNat) ||| BitVec.ofInt 32 (IntKind.u32.wrap ((IntKind.u32.wrap (IntKind.u8.wrap (BitVec.ofInt 8 ((s.getD 2 0).toNat:Int) &&& BitVec.ofInt 8 127).toNat)) * 16384))).toNat))),(52,.v (.bool ((IntKind.u8.wrap (BitVec.ofInt 8 ((s.getD 2 0).toNat:Int) &&& BitVec.ofInt 8 128).toNat) == 0)))] hW bw fun cX au=>?_
 refine B5 (A4 ?_)
 refine D4 au (b:=(IntKind.u8.wrap (BitVec.ofInt 8 ((s.getD 2 0).toNat:Int) &&& BitVec.ofInt 8 128).toNat) == 0) kz (fun av=>?_) (fun av=>?_)
 ·
  have q2:oc s 2 < 128:=of_decide_eq_true ((Bj _ (H2 s 2)).symm.trans av)
  refine B7 [(2,.v (.int .u32 (IntKind.u32.wrap (BitVec.ofInt 32 (IntKind.u32.wrap (BitVec.ofInt 32 (IntKind.u32.wrap (IntKind.u8.wrap (BitVec.ofInt 8 ((s.getD 0 0).toNat:Int) &&& BitVec.ofInt 8 127).toNat)) ||| BitVec.ofInt 32 (IntKind.u32.wrap ((IntKind.u32.wrap (IntKind.u8.wrap (BitVec.ofInt 8 ((s.getD 1 0).toNat:Int) &&& BitVec.ofInt 8 127).toNat)) * 128))).toNat) ||| BitVec.ofInt 32 (IntKind.u32.wrap ((IntKind.u32.wrap (IntKind.u8.wrap (BitVec.ofInt 8 ((s.getD 2 0).toNat:Int) &&& BitVec.ofInt 8 127).toNat)) * 16384))).toNat))),(3,.v (.int .i64 3))] hW au fun cY bx=>?_
  refine wp_ret (D6 (Do (C8 bx hW.cells (v:=.tuple #[.int .u32 (IntKind.u32.wrap (BitVec.ofInt 32 (IntKind.u32.wrap (BitVec.ofInt 32 (IntKind.u32.wrap (IntKind.u8.wrap (BitVec.ofInt 8 ((s.getD 0 0).toNat:Int) &&& BitVec.ofInt 8 127).toNat)) ||| BitVec.ofInt 32 (IntKind.u32.wrap ((IntKind.u32.wrap (IntKind.u8.wrap (BitVec.ofInt 8 ((s.getD 1 0).toNat:Int) &&& BitVec.ofInt 8 127).toNat)) * 128))).toNat) ||| BitVec.ofInt 32 (IntKind.u32.wrap ((IntKind.u32.wrap (IntKind.u8.wrap (BitVec.ofInt 8 ((s.getD 2 0).toNat:Int) &&& BitVec.ofInt 8 127).toNat)) * 16384))).toNat),.int .i64 3]) kz ?_)))
  have e_:=GF (oc s 0) (oc s 1) (oc s 2) (H2 s 0) (H2 s 1) (H2 s 2)
  have r_:M4 s = (oc s 0 - 128 + (oc s 1 - 128) * 128 + oc s 2 * 16384,3):=by unfold M4; rw [if_neg q0,if_neg q1,if_pos q2]
  have b0_:=H2 s 0
  have b1_:=H2 s 1
  have b2_:=H2 s 2
  rw [r_]
  refine ⟨congrArg (fun z_:Int=>Ending.returned (.tuple #[.int .u32 z_,.int .i64 3])) (Eq.trans e_ ?_),hW.step⟩
  show _ = ((oc s 0 - 128 + (oc s 1 - 128) * 128 + oc s 2 * 16384:Nat):Int)
  omega
 have q2:¬ oc s 2 < 128:=of_decide_eq_false ((Bj _ (H2 s 2)).symm.trans av)
 have hl4:=Nat.le_trans (MY q0 q1 q2) hl
 refine B7 [aa,(4,.v (.int .u32 (IntKind.u32.wrap (BitVec.ofInt 32 (IntKind.u32.wrap (BitVec.ofInt 32 (IntKind.u32.wrap (IntKind.u8.wrap (BitVec.ofInt 8 ((s.getD 0 0).toNat:Int) &&& BitVec.ofInt 8 127).toNat)) ||| BitVec.ofInt 32 (IntKind.u32.wrap ((IntKind.u32.wrap (IntKind.u8.wrap (BitVec.ofInt 8 ((s.getD 1 0).toNat:Int) &&& BitVec.ofInt 8 127).toNat)) * 128))).toNat) ||| BitVec.ofInt 32 (IntKind.u32.wrap ((IntKind.u32.wrap (IntKind.u8.wrap (BitVec.ofInt 8 ((s.getD 2 0).toNat:Int) &&& BitVec.ofInt 8 127).toNat)) * 16384))).toNat))),(56,.v (.bool (decide (((s.length:Nat):Int) < 4))))] hW au fun cZ aB=>?_
 refine E6 aB (b:=decide (((s.length:Nat):Int) < 4)) kz (decide_eq_false (by omega)) ?_
 refine wp_skip (A4 (C0 [0,1,2,3,4,5,6,7,8] kz ?_))
 refine B1 [0,1] [2,3,4,5,6,7,8] [aa,(57,.v (.int .u32 (IntKind.u32.wrap (BitVec.ofInt 32 (IntKind.u32.wrap (BitVec.ofInt 32 (IntKind.u32.wrap (IntKind.u8.wrap (BitVec.ofInt 8 ((s.getD 0 0).toNat:Int) &&& BitVec.ofInt 8 127).toNat)) ||| BitVec.ofInt 32 (IntKind.u32.wrap ((IntKind.u32.wrap (IntKind.u8.wrap (BitVec.ofInt 8 ((s.getD 1 0).toNat:Int) &&& BitVec.ofInt 8 127).toNat)) * 128))).toNat) ||| BitVec.ofInt 32 (IntKind.u32.wrap ((IntKind.u32.wrap (IntKind.u8.wrap (BitVec.ofInt 8 ((s.getD 2 0).toNat:Int) &&& BitVec.ofInt 8 127).toNat)) * 16384))).toNat))),(58,.v (.slice A s.length c))] hW aB fun da bz=>?_
 obtain ⟨bJ,bK,aC,bP,ai⟩:=Slots.get ho (i:=3) (by first | omega | (simp only [List.length_append,be_length,List.length_cons,List.length_nil] at *; omega))
 refine B2 (G6 bz (t:=22) (A:=A) (m:=s.length) (q:=3) (d:=59) kz (e:=5) (size:=1) (bytes:=1) (j:=3) kz aC rfl (by first | omega | (simp only [List.length_append,be_length,List.length_cons,List.length_nil] at *; omega)) fun db bA=>?_)
 refine B2 (K3 bA (t:=5) (b:=bJ) (o:=bK + 3 * 1) (d:=60) kz (cs:=[.int .u8 ((s.getD 3 0).toNat:Int)]) (v:=.int .u8 ((s.getD 3 0).toNat:Int)) kz (AtF.move ai hW.step A7 E8).at_ fun dc bB=>?_)
 refine B1 [4,5,6,7,8] [] [aa,(4,.v (.int .u32 (IntKind.u32.wrap (BitVec.ofInt 32 (IntKind.u32.wrap (BitVec.ofInt 32 (IntKind.u32.wrap (BitVec.ofInt 32 (IntKind.u32.wrap (IntKind.u8.wrap (BitVec.ofInt 8 ((s.getD 0 0).toNat:Int) &&& BitVec.ofInt 8 127).toNat)) ||| BitVec.ofInt 32 (IntKind.u32.wrap ((IntKind.u32.wrap (IntKind.u8.wrap (BitVec.ofInt 8 ((s.getD 1 0).toNat:Int) &&& BitVec.ofInt 8 127).toNat)) * 128))).toNat) ||| BitVec.ofInt 32 (IntKind.u32.wrap ((IntKind.u32.wrap (IntKind.u8.wrap (BitVec.ofInt 8 ((s.getD 2 0).toNat:Int) &&& BitVec.ofInt 8 127).toNat)) * 16384))).toNat) ||| BitVec.ofInt 32 (IntKind.u32.wrap ((IntKind.u32.wrap (IntKind.u8.wrap (BitVec.ofInt 8 ((s.getD 3 0).toNat:Int) &&& BitVec.ofInt 8 127).toNat)) * 2097152))).toNat)))] hW bB fun de bC=>?_
 refine B5 (A4 ?_)
 refine wp_seq (C0 [0,1,2,3,4] kz ?_)
 refine B1 [0] [1,2,3,4] [aa,(4,.v (.int .u32 (IntKind.u32.wrap (BitVec.ofInt 32 (IntKind.u32.wrap (BitVec.ofInt 32 (IntKind.u32.wrap (BitVec.ofInt 32 (IntKind.u32.wrap (IntKind.u8.wrap (BitVec.ofInt 8 ((s.getD 0 0).toNat:Int) &&& BitVec.ofInt 8 127).toNat)) ||| BitVec.ofInt 32 (IntKind.u32.wrap ((IntKind.u32.wrap (IntKind.u8.wrap (BitVec.ofInt 8 ((s.getD 1 0).toNat:Int) &&& BitVec.ofInt 8 127).toNat)) * 128))).toNat) ||| BitVec.ofInt 32 (IntKind.u32.wrap ((IntKind.u32.wrap (IntKind.u8.wrap (BitVec.ofInt 8 ((s.getD 2 0).toNat:Int) &&& BitVec.ofInt 8 127).toNat)) * 16384))).toNat) ||| BitVec.ofInt 32 (IntKind.u32.wrap ((IntKind.u32.wrap (IntKind.u8.wrap (BitVec.ofInt 8 ((s.getD 3 0).toNat:Int) &&& BitVec.ofInt 8 127).toNat)) * 2097152))).toNat))),(65,.v (.slice A s.length c))] hW bC fun bQ aD=>?_
 refine B2 (G6 aD (t:=22) (A:=A) (m:=s.length) (q:=3) (d:=66) kz (e:=5) (size:=1) (bytes:=1) (j:=3) kz aC rfl (by first | omega | (simp only [List.length_append,be_length,List.length_cons,List.length_nil] at *; omega)) fun bR aE=>?_)
 refine B2 (K3 aE (t:=5) (b:=bJ) (o:=bK + 3 * 1) (d:=67) kz (cs:=[.int .u8 ((s.getD 3 0).toNat:Int)]) (v:=.int .u8 ((s.getD 3 0).toNat:Int)) kz (AtF.move ai hW.step A7 E8).at_ fun bS aF=>?_)
 refine B1 [3,4] [] [aa,(4,.v (.int .u32 (IntKind.u32.wrap (BitVec.ofInt 32 (IntKind.u32.wrap (BitVec.ofInt 32 (IntKind.u32.wrap (BitVec.ofInt 32 (IntKind.u32.wrap (IntKind.u8.wrap (BitVec.ofInt 8 ((s.getD 0 0).toNat:Int) &&& BitVec.ofInt 8 127).toNat)) ||| BitVec.ofInt 32 (IntKind.u32.wrap ((IntKind.u32.wrap (IntKind.u8.wrap (BitVec.ofInt 8 ((s.getD 1 0).toNat:Int) &&& BitVec.ofInt 8 127).toNat)) * 128))).toNat) ||| BitVec.ofInt 32 (IntKind.u32.wrap ((IntKind.u32.wrap (IntKind.u8.wrap (BitVec.ofInt 8 ((s.getD 2 0).toNat:Int) &&& BitVec.ofInt 8 127).toNat)) * 16384))).toNat) ||| BitVec.ofInt 32 (IntKind.u32.wrap ((IntKind.u32.wrap (IntKind.u8.wrap (BitVec.ofInt 8 ((s.getD 3 0).toNat:Int) &&& BitVec.ofInt 8 127).toNat)) * 2097152))).toNat))),(69,.v (.bool ((IntKind.u8.wrap (BitVec.ofInt 8 ((s.getD 3 0).toNat:Int) &&& BitVec.ofInt 8 128).toNat) == 0)))] hW aF fun bT ab=>?_
 refine B5 (A4 ?_)
 refine D4 ab (b:=(IntKind.u8.wrap (BitVec.ofInt 8 ((s.getD 3 0).toNat:Int) &&& BitVec.ofInt 8 128).toNat) == 0) kz (fun ac=>?_) (fun ac=>?_)
 ·
  have q3:oc s 3 < 128:=of_decide_eq_true ((Bj _ (H2 s 3)).symm.trans ac)
  refine B7 [(2,.v (.int .u32 (IntKind.u32.wrap (BitVec.ofInt 32 (IntKind.u32.wrap (BitVec.ofInt 32 (IntKind.u32.wrap (BitVec.ofInt 32 (IntKind.u32.wrap (IntKind.u8.wrap (BitVec.ofInt 8 ((s.getD 0 0).toNat:Int) &&& BitVec.ofInt 8 127).toNat)) ||| BitVec.ofInt 32 (IntKind.u32.wrap ((IntKind.u32.wrap (IntKind.u8.wrap (BitVec.ofInt 8 ((s.getD 1 0).toNat:Int) &&& BitVec.ofInt 8 127).toNat)) * 128))).toNat) ||| BitVec.ofInt 32 (IntKind.u32.wrap ((IntKind.u32.wrap (IntKind.u8.wrap (BitVec.ofInt 8 ((s.getD 2 0).toNat:Int) &&& BitVec.ofInt 8 127).toNat)) * 16384))).toNat) ||| BitVec.ofInt 32 (IntKind.u32.wrap ((IntKind.u32.wrap (IntKind.u8.wrap (BitVec.ofInt 8 ((s.getD 3 0).toNat:Int) &&& BitVec.ofInt 8 127).toNat)) * 2097152))).toNat))),(3,.v (.int .i64 4))] hW ab fun bU aG=>?_
  refine wp_ret (D6 (Do (C8 aG hW.cells (v:=.tuple #[.int .u32 (IntKind.u32.wrap (BitVec.ofInt 32 (IntKind.u32.wrap (BitVec.ofInt 32 (IntKind.u32.wrap (BitVec.ofInt 32 (IntKind.u32.wrap (IntKind.u8.wrap (BitVec.ofInt 8 ((s.getD 0 0).toNat:Int) &&& BitVec.ofInt 8 127).toNat)) ||| BitVec.ofInt 32 (IntKind.u32.wrap ((IntKind.u32.wrap (IntKind.u8.wrap (BitVec.ofInt 8 ((s.getD 1 0).toNat:Int) &&& BitVec.ofInt 8 127).toNat)) * 128))).toNat) ||| BitVec.ofInt 32 (IntKind.u32.wrap ((IntKind.u32.wrap (IntKind.u8.wrap (BitVec.ofInt 8 ((s.getD 2 0).toNat:Int) &&& BitVec.ofInt 8 127).toNat)) * 16384))).toNat) ||| BitVec.ofInt 32 (IntKind.u32.wrap ((IntKind.u32.wrap (IntKind.u8.wrap (BitVec.ofInt 8 ((s.getD 3 0).toNat:Int) &&& BitVec.ofInt 8 127).toNat)) * 2097152))).toNat),.int .i64 4]) kz ?_)))
  have e_:=GG (oc s 0) (oc s 1) (oc s 2) (oc s 3) (H2 s 0) (H2 s 1) (H2 s 2) (H2 s 3)
  have r_:M4 s = (oc s 0 - 128 + (oc s 1 - 128) * 128 + (oc s 2 - 128) * 16384 + oc s 3 * 2097152,4):=by unfold M4; rw [if_neg q0,if_neg q1,if_neg q2,if_pos q3]
  have b0_:=H2 s 0
  have b1_:=H2 s 1
  have b2_:=H2 s 2
  have b3_:=H2 s 3
  rw [r_]
  refine ⟨congrArg (fun z_:Int=>Ending.returned (.tuple #[.int .u32 z_,.int .i64 4])) (Eq.trans e_ ?_),hW.step⟩
  show _ = ((oc s 0 - 128 + (oc s 1 - 128) * 128 + (oc s 2 - 128) * 16384 + oc s 3 * 2097152:Nat):Int)
  omega
 have q3:¬ oc s 3 < 128:=of_decide_eq_false ((Bj _ (H2 s 3)).symm.trans ac)
 have hl5:5 ≤ s.length:=by have:=Ju q0 q1 q2 q3; omega
 have g5:=g4 (Ju q0 q1 q2 q3)
 refine B7 [aa,(4,.v (.int .u32 (IntKind.u32.wrap (BitVec.ofInt 32 (IntKind.u32.wrap (BitVec.ofInt 32 (IntKind.u32.wrap (BitVec.ofInt 32 (IntKind.u32.wrap (IntKind.u8.wrap (BitVec.ofInt 8 ((s.getD 0 0).toNat:Int) &&& BitVec.ofInt 8 127).toNat)) ||| BitVec.ofInt 32 (IntKind.u32.wrap ((IntKind.u32.wrap (IntKind.u8.wrap (BitVec.ofInt 8 ((s.getD 1 0).toNat:Int) &&& BitVec.ofInt 8 127).toNat)) * 128))).toNat) ||| BitVec.ofInt 32 (IntKind.u32.wrap ((IntKind.u32.wrap (IntKind.u8.wrap (BitVec.ofInt 8 ((s.getD 2 0).toNat:Int) &&& BitVec.ofInt 8 127).toNat)) * 16384))).toNat) ||| BitVec.ofInt 32 (IntKind.u32.wrap ((IntKind.u32.wrap (IntKind.u8.wrap (BitVec.ofInt 8 ((s.getD 3 0).toNat:Int) &&& BitVec.ofInt 8 127).toNat)) * 2097152))).toNat))),(73,.v (.bool (decide (((s.length:Nat):Int) < 5))))] hW ab fun bV aj=>?_
 refine E6 aj (b:=decide (((s.length:Nat):Int) < 5)) kz (decide_eq_false (by omega)) ?_
 refine wp_skip (A4 (C0 [0,1,2,3,4,5,6,7] kz ?_))
 refine B1 [0,1] [2,3,4,5,6,7] [aa,(74,.v (.int .u32 (IntKind.u32.wrap (BitVec.ofInt 32 (IntKind.u32.wrap (BitVec.ofInt 32 (IntKind.u32.wrap (BitVec.ofInt 32 (IntKind.u32.wrap (IntKind.u8.wrap (BitVec.ofInt 8 ((s.getD 0 0).toNat:Int) &&& BitVec.ofInt 8 127).toNat)) ||| BitVec.ofInt 32 (IntKind.u32.wrap ((IntKind.u32.wrap (IntKind.u8.wrap (BitVec.ofInt 8 ((s.getD 1 0).toNat:Int) &&& BitVec.ofInt 8 127).toNat)) * 128))).toNat) ||| BitVec.ofInt 32 (IntKind.u32.wrap ((IntKind.u32.wrap (IntKind.u8.wrap (BitVec.ofInt 8 ((s.getD 2 0).toNat:Int) &&& BitVec.ofInt 8 127).toNat)) * 16384))).toNat) ||| BitVec.ofInt 32 (IntKind.u32.wrap ((IntKind.u32.wrap (IntKind.u8.wrap (BitVec.ofInt 8 ((s.getD 3 0).toNat:Int) &&& BitVec.ofInt 8 127).toNat)) * 2097152))).toNat))),(75,.v (.slice A s.length c))] hW aj fun bW aH=>?_
 obtain ⟨aI,aJ,ak,bL,ae⟩:=Slots.get ho (i:=4) (by first | omega | (simp only [List.length_append,be_length,List.length_cons,List.length_nil] at *; omega))
 refine B2 (G6 aH (t:=22) (A:=A) (m:=s.length) (q:=4) (d:=76) kz (e:=5) (size:=1) (bytes:=1) (j:=4) kz ak rfl (by first | omega | (simp only [List.length_append,be_length,List.length_cons,List.length_nil] at *; omega)) fun bX aK=>?_)
 refine B2 (K3 aK (t:=5) (b:=aI) (o:=aJ + 4 * 1) (d:=77) kz (cs:=[.int .u8 ((s.getD 4 0).toNat:Int)]) (v:=.int .u8 ((s.getD 4 0).toNat:Int)) kz (AtF.move ae hW.step A7 E8).at_ fun bY aL=>?_)
 refine B1 [4,5,6,7] [] [aa,(4,.v (.int .u32 (IntKind.u32.wrap (BitVec.ofInt 32 (IntKind.u32.wrap (BitVec.ofInt 32 (IntKind.u32.wrap (BitVec.ofInt 32 (IntKind.u32.wrap (BitVec.ofInt 32 (IntKind.u32.wrap (IntKind.u8.wrap (BitVec.ofInt 8 ((s.getD 0 0).toNat:Int) &&& BitVec.ofInt 8 127).toNat)) ||| BitVec.ofInt 32 (IntKind.u32.wrap ((IntKind.u32.wrap (IntKind.u8.wrap (BitVec.ofInt 8 ((s.getD 1 0).toNat:Int) &&& BitVec.ofInt 8 127).toNat)) * 128))).toNat) ||| BitVec.ofInt 32 (IntKind.u32.wrap ((IntKind.u32.wrap (IntKind.u8.wrap (BitVec.ofInt 8 ((s.getD 2 0).toNat:Int) &&& BitVec.ofInt 8 127).toNat)) * 16384))).toNat) ||| BitVec.ofInt 32 (IntKind.u32.wrap ((IntKind.u32.wrap (IntKind.u8.wrap (BitVec.ofInt 8 ((s.getD 3 0).toNat:Int) &&& BitVec.ofInt 8 127).toNat)) * 2097152))).toNat) ||| BitVec.ofInt 32 (IntKind.u32.wrap ((IntKind.u32.wrap ((s.getD 4 0).toNat:Int)) * 268435456))).toNat)))] hW aL fun bZ aM=>?_
 refine B5 (A4 ?_)
 refine wp_seq (C0 [0,1,2,3] kz ?_)
 refine B1 [0] [1,2,3] [(4,.v (.int .u32 (IntKind.u32.wrap (BitVec.ofInt 32 (IntKind.u32.wrap (BitVec.ofInt 32 (IntKind.u32.wrap (BitVec.ofInt 32 (IntKind.u32.wrap (BitVec.ofInt 32 (IntKind.u32.wrap (IntKind.u8.wrap (BitVec.ofInt 8 ((s.getD 0 0).toNat:Int) &&& BitVec.ofInt 8 127).toNat)) ||| BitVec.ofInt 32 (IntKind.u32.wrap ((IntKind.u32.wrap (IntKind.u8.wrap (BitVec.ofInt 8 ((s.getD 1 0).toNat:Int) &&& BitVec.ofInt 8 127).toNat)) * 128))).toNat) ||| BitVec.ofInt 32 (IntKind.u32.wrap ((IntKind.u32.wrap (IntKind.u8.wrap (BitVec.ofInt 8 ((s.getD 2 0).toNat:Int) &&& BitVec.ofInt 8 127).toNat)) * 16384))).toNat) ||| BitVec.ofInt 32 (IntKind.u32.wrap ((IntKind.u32.wrap (IntKind.u8.wrap (BitVec.ofInt 8 ((s.getD 3 0).toNat:Int) &&& BitVec.ofInt 8 127).toNat)) * 2097152))).toNat) ||| BitVec.ofInt 32 (IntKind.u32.wrap ((IntKind.u32.wrap ((s.getD 4 0).toNat:Int)) * 268435456))).toNat))),(81,.v (.slice A s.length c))] hW aM fun b8 aN=>?_
 refine B2 (G6 aN (t:=22) (A:=A) (m:=s.length) (q:=4) (d:=82) kz (e:=5) (size:=1) (bytes:=1) (j:=4) kz ak rfl (by first | omega | (simp only [List.length_append,be_length,List.length_cons,List.length_nil] at *; omega)) fun cd aO=>?_)
 refine B2 (K3 aO (t:=5) (b:=aI) (o:=aJ + 4 * 1) (d:=83) kz (cs:=[.int .u8 ((s.getD 4 0).toNat:Int)]) (v:=.int .u8 ((s.getD 4 0).toNat:Int)) kz (AtF.move ae hW.step A7 E8).at_ fun ce aP=>?_)
 refine B1 [3] [] [(4,.v (.int .u32 (IntKind.u32.wrap (BitVec.ofInt 32 (IntKind.u32.wrap (BitVec.ofInt 32 (IntKind.u32.wrap (BitVec.ofInt 32 (IntKind.u32.wrap (BitVec.ofInt 32 (IntKind.u32.wrap (IntKind.u8.wrap (BitVec.ofInt 8 ((s.getD 0 0).toNat:Int) &&& BitVec.ofInt 8 127).toNat)) ||| BitVec.ofInt 32 (IntKind.u32.wrap ((IntKind.u32.wrap (IntKind.u8.wrap (BitVec.ofInt 8 ((s.getD 1 0).toNat:Int) &&& BitVec.ofInt 8 127).toNat)) * 128))).toNat) ||| BitVec.ofInt 32 (IntKind.u32.wrap ((IntKind.u32.wrap (IntKind.u8.wrap (BitVec.ofInt 8 ((s.getD 2 0).toNat:Int) &&& BitVec.ofInt 8 127).toNat)) * 16384))).toNat) ||| BitVec.ofInt 32 (IntKind.u32.wrap ((IntKind.u32.wrap (IntKind.u8.wrap (BitVec.ofInt 8 ((s.getD 3 0).toNat:Int) &&& BitVec.ofInt 8 127).toNat)) * 2097152))).toNat) ||| BitVec.ofInt 32 (IntKind.u32.wrap ((IntKind.u32.wrap ((s.getD 4 0).toNat:Int)) * 268435456))).toNat))),(84,.v (.bool (decide (((s.getD 4 0).toNat:Int) ≤ 15))))] hW aP fun cm al=>?_
 refine B5 (A4 ?_)
 refine I7 al (b:=decide (((s.getD 4 0).toNat:Int) ≤ 15)) kz (decide_eq_true (by have:=g5; unfold oc at this; omega)) ?_
 refine B7 [(2,.v (.int .u32 (IntKind.u32.wrap (BitVec.ofInt 32 (IntKind.u32.wrap (BitVec.ofInt 32 (IntKind.u32.wrap (BitVec.ofInt 32 (IntKind.u32.wrap (BitVec.ofInt 32 (IntKind.u32.wrap (IntKind.u8.wrap (BitVec.ofInt 8 ((s.getD 0 0).toNat:Int) &&& BitVec.ofInt 8 127).toNat)) ||| BitVec.ofInt 32 (IntKind.u32.wrap ((IntKind.u32.wrap (IntKind.u8.wrap (BitVec.ofInt 8 ((s.getD 1 0).toNat:Int) &&& BitVec.ofInt 8 127).toNat)) * 128))).toNat) ||| BitVec.ofInt 32 (IntKind.u32.wrap ((IntKind.u32.wrap (IntKind.u8.wrap (BitVec.ofInt 8 ((s.getD 2 0).toNat:Int) &&& BitVec.ofInt 8 127).toNat)) * 16384))).toNat) ||| BitVec.ofInt 32 (IntKind.u32.wrap ((IntKind.u32.wrap (IntKind.u8.wrap (BitVec.ofInt 8 ((s.getD 3 0).toNat:Int) &&& BitVec.ofInt 8 127).toNat)) * 2097152))).toNat) ||| BitVec.ofInt 32 (IntKind.u32.wrap ((IntKind.u32.wrap ((s.getD 4 0).toNat:Int)) * 268435456))).toNat))),(3,.v (.int .i64 5))] hW al fun cq aQ=>?_
 refine wp_ret (D6 (Do (C8 aQ hW.cells (v:=.tuple #[.int .u32 (IntKind.u32.wrap (BitVec.ofInt 32 (IntKind.u32.wrap (BitVec.ofInt 32 (IntKind.u32.wrap (BitVec.ofInt 32 (IntKind.u32.wrap (BitVec.ofInt 32 (IntKind.u32.wrap (IntKind.u8.wrap (BitVec.ofInt 8 ((s.getD 0 0).toNat:Int) &&& BitVec.ofInt 8 127).toNat)) ||| BitVec.ofInt 32 (IntKind.u32.wrap ((IntKind.u32.wrap (IntKind.u8.wrap (BitVec.ofInt 8 ((s.getD 1 0).toNat:Int) &&& BitVec.ofInt 8 127).toNat)) * 128))).toNat) ||| BitVec.ofInt 32 (IntKind.u32.wrap ((IntKind.u32.wrap (IntKind.u8.wrap (BitVec.ofInt 8 ((s.getD 2 0).toNat:Int) &&& BitVec.ofInt 8 127).toNat)) * 16384))).toNat) ||| BitVec.ofInt 32 (IntKind.u32.wrap ((IntKind.u32.wrap (IntKind.u8.wrap (BitVec.ofInt 8 ((s.getD 3 0).toNat:Int) &&& BitVec.ofInt 8 127).toNat)) * 2097152))).toNat) ||| BitVec.ofInt 32 (IntKind.u32.wrap ((IntKind.u32.wrap ((s.getD 4 0).toNat:Int)) * 268435456))).toNat),.int .i64 5]) kz ?_)))
 have e_:=GH (oc s 0) (oc s 1) (oc s 2) (oc s 3) (oc s 4) (H2 s 0) (H2 s 1) (H2 s 2) (H2 s 3) g5
 have r_:M4 s = (oc s 0 - 128 + (oc s 1 - 128) * 128 + (oc s 2 - 128) * 16384 + (oc s 3 - 128) * 2097152 + oc s 4 * 268435456,5):=by unfold M4; rw [if_neg q0,if_neg q1,if_neg q2,if_neg q3]
 have b0_:=H2 s 0
 have b1_:=H2 s 1
 have b2_:=H2 s 2
 have b3_:=H2 s 3
 have b4_:=H2 s 4
 rw [r_]
 refine ⟨congrArg (fun z_:Int=>Ending.returned (.tuple #[.int .u32 z_,.int .i64 5])) (Eq.trans e_ ?_),hW.step⟩
 show _ = ((oc s 0 - 128 + (oc s 1 - 128) * 128 + (oc s 2 - 128) * 16384 + (oc s 3 - 128) * 2097152 + oc s 4 * 268435456:Nat):Int)
 omega
theorem MZ (x:Nat) (hx:x < 4294967296) (rest:Bs):M4 (uv x ++ rest) = (x,(uv x).length) ∧ ((uv x).length = 5 → oc (uv x ++ rest) 4 < 16):=by
 have hl:=KW hx
 unfold M4
 by_cases h1:x < 128
 ·rw [if_pos h1] at hl
  have o0:oc (uv x ++ rest) 0 = x:=by rw [Y9,if_pos h1]
  exact ⟨by rw [if_pos (by omega),o0,hl],fun h=>by omega⟩
 rw [if_neg h1] at hl
 have o0:oc (uv x ++ rest) 0 = x % 128 + 128:=by rw [Y9,if_neg h1]
 have o1:oc (uv x ++ rest) 1 = oc (uv (x / 128) ++ rest) 0:=W8 (by omega) rest 0
 by_cases h2:x < 16384
 ·rw [if_pos h2] at hl
  rw [Y9,if_pos (by omega)] at o1
  exact ⟨by rw [if_neg (by omega),if_pos (by omega),o0,o1,hl]; exact congrArg (fun z_=>(z_,2)) (by omega),fun h=>by omega⟩
 rw [if_neg h2] at hl
 have o2:oc (uv x ++ rest) 2 = oc (uv (x / 128 / 128) ++ rest) 0:=(W8 (by omega) rest 1).trans (W8 (by omega) rest 0)
 rw [Y9,if_neg (by omega)] at o1
 by_cases h3:x < 2097152
 ·rw [if_pos h3] at hl
  rw [Y9,if_pos (by omega)] at o2
  exact ⟨by rw [if_neg (by omega),if_neg (by omega),if_pos (by omega),o0,o1,o2,hl]; exact congrArg (fun z_=>(z_,3)) (by omega),fun h=>by omega⟩
 rw [if_neg h3] at hl
 have o3:oc (uv x ++ rest) 3 = oc (uv (x / 128 / 128 / 128) ++ rest) 0:=(W8 (by omega) rest 2).trans ((W8 (by omega) rest 1).trans (W8 (by omega) rest 0))
 rw [Y9,if_neg (by omega)] at o2
 by_cases h4:x < 268435456
 ·rw [if_pos h4] at hl
  rw [Y9,if_pos (by omega)] at o3
  exact ⟨by rw [if_neg (by omega),if_neg (by omega),if_neg (by omega),if_pos (by omega),o0,o1,o2,o3,hl]; exact congrArg (fun z_=>(z_,4)) (by omega),fun h=>by omega⟩
 rw [if_neg h4] at hl
 have o4:oc (uv x ++ rest) 4 = oc (uv (x / 128 / 128 / 128 / 128) ++ rest) 0:=(W8 (by omega) rest 3).trans ((W8 (by omega) rest 2).trans ((W8 (by omega) rest 1).trans (W8 (by omega) rest 0)))
 rw [Y9,if_neg (by omega)] at o3
 rw [Y9,if_pos (by omega)] at o4
 exact ⟨by rw [if_neg (by omega),if_neg (by omega),if_neg (by omega),if_neg (by omega),o0,o1,o2,o3,o4,hl]; exact congrArg (fun z_=>(z_,5)) (by omega),fun h=>by omega⟩
theorem Na (x:Nat) (hx:x < 4294967296) (rest:Bs) {A:Option Addr} {c:Nat} {w:World} {F:Nat → Nat → Prop} (ho:Octs w F A c (uv x ++ rest)) :
  Calls Tryz.prog 86 #[.slice A (uv x ++ rest).length c] w (L5 w (.tuple #[.int .u32 ((x:Nat):Int),.int .i64 (((uv x).length:Nat):Int)])):=by
 have h:=MZ x hx rest
 have h2:=GK (uv x ++ rest) ho (by rw [h.1,List.length_append]; exact Nat.le_add_right _ _) (fun e=>h.2 (by rw [h.1] at e; exact e))
 rw [h.1] at h2
 exact h2
theorem T6 (x:Nat) (hx:x < 4294967296) (rest:Bs)  {br:Nat} {A:Option Addr} {m c:Nat} {w:World} {F:Nat → Nat → Prop} (hst:Str w br [.slice A m c,.bool false]) (hr:RdS w F A m c (uv x ++ rest)) (hFd:∀ b o,F b o → ¬ H1 br b o) :
  Calls Tryz.prog 64 #[.pointer (some ⟨br,0,none⟩)] w (RdPost w br F rest fun v w'=>v = .int .u32 ((x:Nat):Int)):=by
 obtain ⟨hm,ho⟩:=hr
 subst hm
 have hle:=ho.le
 have hpos:=KV x
 refine enter (n:=31) Tryz.func64 rfl Tryz.ntmps64 kz fun a hE=>?_
 let ab:Value:=.slice A ((uv x ++ rest).length) c
 have hW:WOk w (H1 br) w [⟨br,0,[ab,.bool false],true⟩] []:=WOk.startStr hst
 have hE1:=(hE.grow ⟨br,0,[ab,.bool false],true⟩).recast 0 (.v (.pointer (some ⟨br,0,none⟩))) (.p 0 0) rfl rfl (Nat.le_of_ble_eq_true (n:=1) rfl)
 refine B7 [(0,.p 0 0)] hW hE1 fun a1 hE2=>?_
 refine C0 [0,1,2,3,4,5,6,7,8,9] kz ?_
 refine B1 [0,1,2,3] [4,5,6,7,8,9] [(0,.p 0 0),(9,.v (.slice A ((uv x ++ rest).length) c))] hW hE2 fun a3 hE4=>?_
 refine B2 (D3 hE4 (f:=86) (vs:=[ab]) (d:=10) kz Tryz.call86 (Na x hx rest (ho.move hW.step (fun b_ o_ h_ _=>hFd b_ o_ h_) (hW.immM hFd))) ?_)
 rintro e_ w6 ⟨rfl,hs5⟩
 refine ⟨_,rfl,fun a7 hE8=>?_⟩
 have hW9:=hW.next_nil hs5
 have am:=hW.frN hs5
 let aa:Nat × SV:=(3,.v (.int .u32 ((x:Nat):Int)))
 let ae:Nat × SV:=(4,.v (.int .i64 (((uv x).length:Nat):Int)))
 refine B1 [5,6,7,8,9] [] [(0,.p 0 0),aa,ae] hW9 hE8 fun ap ag=>?_
 refine B5 (A4 ?_)
 refine wp_seq (B7 [(0,.p 0 0),aa,ae,(14,.v (.bool (decide ((((uv x).length:Nat):Int) ≤ 0))))] hW9 ag fun ar af=>?_)
 refine E6 af (b:=decide ((((uv x).length:Nat):Int) ≤ 0)) kz (decide_eq_false (by omega)) ?_
 refine wp_skip (A4 (C0 [0,1,2,3,4,5,6,7,8,9] kz ?_))
 refine B1 [0,1,2,3,4,5] [6,7,8,9] [aa,(21,.p 0 0),(25,.v (.slice A ((uv x ++ rest).length) c)),(26,.v (.int .i64 (((uv x).length:Nat):Int)))] hW9 af fun au ah=>?_
 refine B2 (CB ah (t:=22) (A:=A) (m:=((uv x ++ rest).length)) (cp:=c) (q:=(((uv x).length:Nat):Int)) (d:=27) (j:=((uv x).length)) kz (e:=5) (bytes:=1) kz (rfl) (by first | omega | (simp only [List.length_append,be_length,List.length_cons,List.length_nil] at *; omega)) fun av ai=>?_)
 refine B1 [7,8] [9] [aa,(27,.v (.slice (J2 A c ((uv x).length)) (((uv x ++ rest).length) - ((uv x).length)) (c - ((uv x).length)))),(29,.p 0 0)] hW9 ai fun aw aj=>?_
 refine B2 (D5 hW9 aj (oi:=0) (cs:=[.slice (J2 A c ((uv x).length)) (((uv x ++ rest).length) - ((uv x).length)) (c - ((uv x).length)),.bool false]) kz fun ax ao ac ak=>?_)
 refine B5 (A4 ?_)
 refine B7 [(2,.v (.int .u32 ((x:Nat):Int)))] ac ak fun ay al=>?_
 refine wp_ret (C8 al ac.cells (v:=.int .u32 ((x:Nat):Int)) kz ?_)
 exact ⟨_,_,_,_,rfl,Str.of ac 0 rfl,RdS.drop (s:=uv x) ⟨rfl,ho.move ac.step (fun b_ o_ h_ _=>hFd b_ o_ h_) E8⟩ (rfl),ac.step,rfl⟩
theorem V5 (X:Bs) (rest:Bs)  {br:Nat} {A:Option Addr} {m c:Nat} {w:World} {F:Nat → Nat → Prop} (hst:Str w br [.slice A m c,.bool false]) (hr:RdS w F A m c (X ++ rest)) (hFd:∀ b o,F b o → ¬ H1 br b o) :
  Calls Tryz.prog 66 #[.pointer (some ⟨br,0,none⟩),.int .i64 ((X.length:Nat):Int)] w (RdPost w br F rest fun v w'=>∃ A2,v = .slice A2 X.length X.length ∧ Octs w' F A2 X.length X):=by
 obtain ⟨hm,ho⟩:=hr
 subst hm
 have hle:=ho.le
 refine enter (n:=40) Tryz.func66 rfl Tryz.ntmps66 kz fun a hE=>?_
 have hW:WOk w (H1 br) w [⟨br,0,[.slice A ((X ++ rest).length) c,.bool false],true⟩] []:=WOk.startStr hst
 have hE1:=(hE.grow ⟨br,0,[.slice A ((X ++ rest).length) c,.bool false],true⟩).recast 0 (.v (.pointer (some ⟨br,0,none⟩))) (.p 0 0) rfl rfl (Nat.le_of_ble_eq_true (n:=1) rfl)
 let aa:Nat × SV:=(0,.p 0 0)
 let ab:Nat × SV:=(1,.v (.int .i64 ((X.length:Nat):Int)))
 refine B7 [aa,ab] hW hE1 fun a1 hE2=>?_
 refine wp_seq (C0 [0,1,2,3,4,5,6,7,8,9,10] kz ?_)
 refine B1 [0,1,2,3,4,5,6,7] [8,9,10] [aa,ab,(13,.v (.bool (decide ((((X ++ rest).length:Nat):Int) < ((X.length:Nat):Int)))))] hW hE2 fun a3 hE4=>?_
 have hc5:(decide ((((X ++ rest).length:Nat):Int) < ((X.length:Nat):Int))) = false:=decide_eq_false (by first | omega | (simp only [List.length_append,be_length,List.length_cons,List.length_nil] at *; omega))
 have hE6:=hE4
 rw [hc5] at hE6
 refine B1 [8,9,10] [] [aa,ab,(16,.v (.bool (decide (((X.length:Nat):Int) < 0))))] hW hE6 fun a7 hE8=>?_
 refine B5 (A4 ?_)
 refine E6 hE8 (b:=decide (((X.length:Nat):Int) < 0)) kz (decide_eq_false (by first | omega | (simp only [List.length_append,be_length,List.length_cons,List.length_nil] at *; omega))) ?_
 refine wp_skip (A4 (C0 [0,1,2,3,4,5,6,7] kz ?_))
 refine B1 [0,1,2,3,4,5] [6,7] [aa,ab,(26,.v (.slice A ((X ++ rest).length) c)),(27,.v (.int .i64 ((X.length:Nat):Int))),(28,.v (.int .i64 ((X.length:Nat):Int)))] hW hE8 fun a9 af=>?_
 refine B2 (Mq af (t:=22) (A:=A) (m:=((X ++ rest).length)) (cp:=c) (k:=.i64) (q:=((X.length:Nat):Int)) (d:=29) (j:=X.length) kz (e:=5) (bytes:=1) kz (rfl) (by first | omega | (simp only [List.length_append,be_length,List.length_cons,List.length_nil] at *; omega)) fun ap ag=>?_)
 let ae:Nat × SV:=(5,.v (.slice A X.length X.length))
 refine B1 [7] [] [aa,ab,ae] hW ag fun ar ah=>?_
 refine B5 (A4 ?_)
 refine C0 [0,1,2,3,4,5,6,7,8,9] kz ?_
 refine B1 [0,1,2,3,4,5] [6,7,8,9] [ae,(30,.p 0 0),(34,.v (.slice A ((X ++ rest).length) c)),(35,.v (.int .i64 ((X.length:Nat):Int)))] hW ah fun au ai=>?_
 refine B2 (CB ai (t:=22) (A:=A) (m:=((X ++ rest).length)) (cp:=c) (q:=((X.length:Nat):Int)) (d:=36) (j:=X.length) kz (e:=5) (bytes:=1) kz (rfl) (by first | omega | (simp only [List.length_append,be_length,List.length_cons,List.length_nil] at *; omega)) fun av aj=>?_)
 refine B1 [7,8] [9] [ae,(36,.v (.slice (J2 A c X.length) (((X ++ rest).length) - X.length) (c - X.length))),(38,.p 0 0)] hW aj fun aw ak=>?_
 refine B2 (D5 hW ak (oi:=0) (cs:=[.slice (J2 A c X.length) (((X ++ rest).length) - X.length) (c - X.length),.bool false]) kz fun ax ao ac al=>?_)
 refine B5 (A4 ?_)
 refine B7 [(4,.v (.slice A X.length X.length))] ac al fun ay am=>?_
 refine wp_ret (C8 am ac.cells (v:=.slice A X.length X.length) kz ?_)
 exact ⟨_,_,_,_,rfl,Str.of ac 0 rfl,RdS.drop (s:=X) ⟨rfl,ho.move ac.step (fun b_ o_ h_ _=>hFd b_ o_ h_) E8⟩ (rfl),ac.step,A,rfl,RdS.front (s:=X) ⟨rfl,ho.move ac.step (fun b_ o_ h_ _=>hFd b_ o_ h_) E8⟩ rfl⟩
abbrev z3 (x0) (x1) (x2) (x3):=([⟨x0,0,[.slice x1 x2 x3,.bool false],true⟩]:Tb)
theorem Ds {br:Nat} {A:Option Addr} {m c:Nat} {w:World} (hst:Str w br [.slice A m c,.bool false]) :
  Calls Tryz.prog 55 #[.pointer (some ⟨br,0,none⟩)] w (fun e w'=>e = .returned .nilIface ∧ w' = w):=by
 refine enter (n:=8) Tryz.func55 rfl Tryz.ntmps55 kz fun a hE=>?_
 have hW:WOk w (H1 br) w (z3 br A m c) []:=WOk.startStr hst
 have hE1:=(hE.grow ⟨br,0,[.slice A m c,.bool false],true⟩).recast 0 (.v (.pointer (some ⟨br,0,none⟩))) (.p 0 0) rfl rfl (Nat.le_of_ble_eq_true (n:=1) rfl)
 refine B7 [(0,.p 0 0)] hW hE1 fun a1 hE2=>?_
 refine wp_seq (B7 [(6,.v (.bool false))] hW hE2 fun a3 hE4=>?_)
 refine E6 hE4 (b:=false) kz rfl ?_
 refine wp_skip (A4 (B7 [(2,.v (.nilIface))] hW hE4 fun a5 hE6=>?_))
 refine wp_ret (C8 hE6 hW.cells (v:=.nilIface) kz ?_)
 exact ⟨rfl,rfl⟩
structure TR (w w':World) (br p2 p3:Nat) (F:Nat → Nat → Prop) (A:Option Addr) (n c:Nat) (s:Bs) (m:Option Nat) (u:List (Int × Bs)):Prop where
 step:Step w w' (H1 br)
 old:br < w.heap.size
 new2:w.heap.size ≤ p2
 new3:w.heap.size ≤ p3
 ne:p2 ≠ p3
 rd:Str w' br [.slice A n c,.bool false]
 s2:Str w' p2 [.map none]
 s3:Str w' p3 [.map m]
 oct:RdS w' (fun b o=>F b o ∧ b < w.heap.size) A n c s
 own:OwnM w' (fun b o=>F b o ∧ b < w.heap.size) m u
 new:∀ r,m = some r → w.heap.size ≤ r
theorem TR.mne {w w':World} {br p2 p3:Nat} {F:Nat → Nat → Prop} {A:Option Addr} {n c:Nat} {s:Bs} {m:Option Nat} {u:List (Int × Bs)} (h:TR w w' br p2 p3 F A n c s m u):m ≠ some p2 ∧ m ≠ some p3:=by
 refine ⟨fun e=>?_,fun e=>?_⟩
 ·obtain ⟨es,clk,h1,_⟩:=h.own.some_ p2 e
  exact Cp (h.s2.at_ 0 _ rfl) h1 rfl
 obtain ⟨es,clk,h1,_⟩:=h.own.some_ p3 e
 exact Cp (h.s3.at_ 0 _ rfl) h1 rfl
theorem TR.read {w w' w1:World} {br p2 p3:Nat} {F:Nat → Nat → Prop} {A A':Option Addr} {n c n' c':Nat} {s s':Bs} {m:Option Nat} {u:List (Int × Bs)} (h:TR w w' br p2 p3 F A n c s m u) (hFd:∀ b o,F b o → ¬ H1 br b o) (hs:Str w1 br [.slice A' n' c',.bool false]) (hr:RdS w1 (fun b o=>F b o ∧ b < w.heap.size) A' n' c' s') (hst:Step w' w1 (H1 br)):TR w w1 br p2 p3 F A' n' c' s' m u:=by
 have ho:=h.old
 have h2:=h.new2
 have h3:=h.new3
 refine ⟨h.step.trans hst fun _ _ _ e=>e,ho,h2,h3,h.ne,hs,h.s2.move hst fun o e=>?_,h.s3.move hst fun o e=>?_,hr,h.own.move hst (fun b o hg _=>hFd b o hg.1) E8 (fun r o e he=>?_),h.new⟩
 ·have:=e.1; omega
 ·have:=e.1; omega
 have:=h.new r e; have:=he.1; omega
theorem TR.set {w w':World} {br p2 p3:Nat} {F:Nat → Nat → Prop} {A A1:Option Addr} {n c c1 j:Nat} {s x:Bs} {k:Int} {m:Option Nat} {u:List (Int × Bs)} (h:TR w w' br p2 p3 F A n c s m (u.take j)) (hsort:Q0 u) (hj:u[j]? = some (k,x)) (hx:Octs w' (fun b o=>F b o ∧ b < w.heap.size) A1 c1 x) (hk:0 ≤ k ∧ k < 4294967296) :
  Calls Tryz.prog 65 [.pointer (some ⟨p3,0,none⟩),.int .u32 k,.slice A1 x.length c1].toArray w' (fun e w1=>e = .returned (.tuple #[]) ∧ ∃ r,TR w w1 br p2 p3 F A n c s (some r) (u.take (j + 1))):=by
 have hcell:w'.cell? ⟨p3,0,none⟩ = some (.map m):=h.s3.at_ 0 _ rfl
 have hfz:w'.frozen? ⟨p3,0,none⟩ = false:=h.s3.frz 0 (by simp)
 have hnew:=h.new
 have h2:=h.new2
 have h3:=h.new3
 have ho:=h.old
 have hsz:=h.step.size
 obtain ⟨m2,m3⟩:=h.mne
 refine (FQ hcell hfz h.own hx hk (fun b' o' hg=>⟨fun e=>?_,fun e=>?_⟩) (fun b' o' hg=>Nat.lt_of_lt_of_le hg.2 hsz)).mono ?_
 ·have:=hg.2; omega
 ·have:=hnew b' e; have:=hg.2; omega
 rintro e w1 ⟨rfl,r,g1,g2,g3,g4,g5⟩
 rw [FR hsort hj] at g3
 refine ⟨rfl,r,h.step.trans g5 fun b o hl e=>?_,ho,h2,h3,h.ne,h.rd.move g5 fun o e=>?_,h.s2.move g5 fun o e=>?_,⟨fun i v hi=>?_,fun i hi=>?_⟩,⟨h.oct.len,Octs.move h.oct.oct g5 (fun b o hg _ e=>?_) E8⟩,g3,fun r' hr'=>?_⟩
 ·rcases e with ⟨e1,_⟩ | e1
  ·omega
  have:=hnew b e1; omega
 ·rcases e with ⟨e1,_⟩ | e1
  ·omega
  have:=hnew br e1; omega
 ·rcases e with ⟨e1,_⟩ | e1
  ·exact h.ne e1
  exact m2 e1
 ·cases i with
  | zero =>
   simp only [List.getElem?_cons_zero,Option.some.injEq] at hi
   subst hi
   exact g1
  | succ i=>simp at hi
 ·have:i = 0:=by simp at hi; omega
  subst this
  exact g2
 ·have:=hg.2
  rcases e with ⟨e1,_⟩ | e1
  ·omega
  have:=hnew b e1; omega
 obtain rfl:=Option.some.inj hr'
 rcases g4 with g4 | g4
 ·exact hnew _ g4
 exact Nat.le_trans hsz g4
theorem Nb (x:Int × Bs) (u:List (Int × Bs)):I1 (x :: u) = S5 x.1 x.2 ++ I1 u:=by unfold I1; rw [List.flatMap_cons]
theorem GL {u:List (Int × Bs)} {j:Nat} {k:Int} {x:Bs} (h:u[j]? = some (k,x)) (rest:Bs):I1 (u.drop j) ++ rest = uv k.toNat ++ (uv x.length ++ (x ++ (I1 (u.drop (j + 1)) ++ rest))):=by
 obtain ⟨hlt,he⟩:=List.getElem?_eq_some_iff.1 h
 rw [List.drop_eq_getElem_cons hlt,he,Nb]
 simp only [S5,List.append_assoc]
abbrev z9 (x0) (x1):=([.pointer (some ⟨x0,0,none⟩),.int .i64 ((x1:Nat):Int)]:List Value)
theorem Nc (u:List (Int × Bs)) (rest:Bs) (hsort:Q0 u) (hk:∀ x ∈ u,0 ≤ x.1 ∧ x.1 < 4294967296) (hul:u.length ≤ 1000000) (hxl:∀ x ∈ u,x.2.length < 4294967296) {br:Nat} {A:Option Addr} {m c:Nat} {w:World} {F:Nat → Nat → Prop} (hst:Str w br [.slice A m c,.bool false]) (hr:RdS w F A m c (uv u.length ++ (I1 u ++ rest))) (hFd:∀ b o,F b o → ¬ H1 br b o) :
  Calls Tryz.prog 67 #[.pointer (some ⟨br,0,none⟩)] w (RdPost w br (Fp F w) rest fun v w'=>∃ mm,v = .agg #[.map mm] ∧ MapR w' (Fp F w) mm u):=by
 have hbr:br < w.heap.size:=World.lt_of_cell (hst.at_ 0 _ rfl)
 refine enter (n:=24) (vs:=[.pointer (some ⟨br,0,none⟩)]) Tryz.func67 rfl Tryz.ntmps67 kz fun a hE=>?_
 have hW:=WOk.start w C1
 refine C0 [0] kz ?_
 refine B2 (H4 hW hE (d:=2) (cs:=[.map none]) kz fun p2 a1 w1 hp2 hz2 hF1 hW1 hE1=>B5 (A4 ?_))
 refine C0 [0] kz ?_
 refine B2 (H4 hW1 hE1 (d:=3) (cs:=[.map none]) kz fun p3 a2 w2 hp3 hz3 hF2 hW2 hE2=>B5 (A4 ?_))
 have hne:p2 ≠ p3:=by
  have h1:=hW1.live 0 _ rfl
  simp only at h1
  omega
 have hS:Step w w2 C1:=hW2.step
 have hT0:TR w w2 br p2 p3 F A m c (uv u.length ++ (I1 u ++ rest)) none (u.take 0):=by
  refine ⟨hS.mono fun _ _ _ h=>h.elim,hbr,hz2,hz3,hne,hst.move hS (fun _ h=>h),Str.of hW2 0 rfl,Str.of hW2 1 rfl,hr.move hS A7 (fun b o h hb=>⟨h,hb⟩),?_,fun _ h=>by cases h⟩
  rw [List.take_zero]
  exact OwnM.nil _ _
 refine wp_seq ?_
 have hE3:=(((hE2.recast 2 (.p 0 0) (.v (.pointer (some ⟨p2,0,none⟩))) rfl rfl trivial).recast 3 (.p 1 0) (.v (.pointer (some ⟨p3,0,none⟩))) rfl rfl trivial).pick (ks:=[0,2,3]) (env':=[(0,.v (.pointer (some ⟨br,0,none⟩))),(2,.v (.pointer (some ⟨p2,0,none⟩))),(3,.v (.pointer (some ⟨p3,0,none⟩)))]) kz).cutTb 0 kz
 have hWz:=WOk.start w2 C1
 refine C0 [0,1,2] kz ?_
 refine B1 [0] [1,2] [(0,.v (.pointer (some ⟨br,0,none⟩))),(2,.v (.pointer (some ⟨p2,0,none⟩))),(3,.v (.pointer (some ⟨p3,0,none⟩))),(7,.v (.pointer (some ⟨br,0,none⟩)))] hWz hE3 fun a3 hE4=>?_
 have hFd':∀ b o,(F b o ∧ b < w.heap.size) → ¬ H1 br b o:=fun b o h=>hFd b o h.1
 refine B2 (D3 hE4 (f:=64) (vs:=[.pointer (some ⟨br,0,none⟩)]) (d:=8) kz Tryz.call64 (T6 u.length (by omega) (I1 u ++ rest) hT0.rd hT0.oct hFd') ?_)
 rintro e_ w3 ⟨_,A3,n3,c3,rfl,hs3,hr3,hst3,rfl⟩
 have hT1:=hT0.read hFd hs3 hr3 hst3
 refine ⟨_,rfl,fun a4 hE5=>?_⟩
 refine B1 [2] [] [(0,.v (.pointer (some ⟨br,0,none⟩))),(2,.v (.pointer (some ⟨p2,0,none⟩))),(3,.v (.pointer (some ⟨p3,0,none⟩))),(4,.v (.int .u32 ((u.length:Nat):Int)))] (WOk.start w3 C1) hE5 fun a5 hE6=>B5 (A4 ?_)
 refine wp_block ?_
 refine wp_loop_ghost (fun q a_ w_=>∃ (j:Nat) (m_:Option Nat) (A_:Option Addr) (n_ c_:Nat),q = u.length - j ∧ j ≤ u.length ∧ EnvOk 24 [] [(0,.v (.pointer (some ⟨br,0,none⟩))),(2,.v (.pointer (some ⟨p2,0,none⟩))),(3,.v (.pointer (some ⟨p3,0,none⟩))),(4,.v (.int .u32 ((u.length - j:Nat):Int)))] a_ ∧ TR w w_ br p2 p3 F A_ n_ c_ (I1 (u.drop j) ++ rest) m_ (u.take j)) u.length
  ⟨0,none,A3,n3,c3,by omega,by omega,hE6,hT1⟩ ?_
 rintro q aq wq ⟨j,m_,A_,n_,c_,rfl,hj,hEq,hT⟩
 have hWq:=WOk.start wq C1
 refine wp_seq (B7 [(0,.v (.pointer (some ⟨br,0,none⟩))),(2,.v (.pointer (some ⟨p2,0,none⟩))),(3,.v (.pointer (some ⟨p3,0,none⟩))),(4,.v (.int .u32 ((u.length - j:Nat):Int))),(10,.v (.bool (decide (((u.length - j:Nat):Int) > 0))))] hWq hEq fun aq1 hE7=>?_)
 refine D4 hE7 (b:=decide (((u.length - j:Nat):Int) > 0)) kz (fun hc=>?_) (fun hc=>?_)
 ·have hlt:j < u.length:=by have:=of_decide_eq_true hc; omega
  obtain ⟨⟨k,x⟩,hu⟩:∃ y,u[j]? = some y:=⟨_,List.getElem?_eq_getElem hlt⟩
  have hk':=hk (k,x) (List.mem_of_getElem? hu)
  have hx':=hxl (k,x) (List.mem_of_getElem? hu)
  dsimp only at hk' hx'
  have hoct:=hT.oct
  rw [GL hu rest] at hoct
  refine wp_skip (A4 (wp_seq (wp_block ?_)))
  refine C0 [0,1,2,3,4,5] kz ?_
  refine B1 [0] [1,2,3,4,5] [(0,.v (.pointer (some ⟨br,0,none⟩))),(2,.v (.pointer (some ⟨p2,0,none⟩))),(3,.v (.pointer (some ⟨p3,0,none⟩))),(4,.v (.int .u32 ((u.length - j:Nat):Int))),(13,.v (.pointer (some ⟨br,0,none⟩)))] hWq hE7 fun aq2 hE8=>?_
  refine B2 (D3 hE8 (f:=64) (vs:=[.pointer (some ⟨br,0,none⟩)]) (d:=14) kz Tryz.call64 (T6 k.toNat (by omega) _ hT.rd hoct hFd') ?_)
  rintro e_ wa ⟨_,Aa,na,ca,rfl,hsa,hra,hsta,rfl⟩
  have hTa:=hT.read hFd hsa hra hsta
  refine ⟨_,rfl,fun aq3 hE9=>?_⟩
  refine B1 [2] [3,4,5] [(0,.v (.pointer (some ⟨br,0,none⟩))),(2,.v (.pointer (some ⟨p2,0,none⟩))),(3,.v (.pointer (some ⟨p3,0,none⟩))),(4,.v (.int .u32 ((u.length - j:Nat):Int))),(14,.v (.int .u32 ((k.toNat:Nat):Int))),(15,.v (.pointer (some ⟨br,0,none⟩)))] (WOk.start wa C1) hE9 fun aq4 hE10=>?_
  refine B2 (D3 hE10 (f:=64) (vs:=[.pointer (some ⟨br,0,none⟩)]) (d:=16) kz Tryz.call64 (T6 x.length hx' _ hTa.rd hTa.oct hFd') ?_)
  rintro e_ wb ⟨_,Ab,nb,cb,rfl,hsb,hrb,hstb,rfl⟩
  have hTb:=hTa.read hFd hsb hrb hstb
  refine ⟨_,rfl,fun aq5 hE11=>?_⟩
  refine B1 [4,5] [] [(0,.v (.pointer (some ⟨br,0,none⟩))),(2,.v (.pointer (some ⟨p2,0,none⟩))),(3,.v (.pointer (some ⟨p3,0,none⟩))),(4,.v (.int .u32 ((u.length - j:Nat):Int))),(5,.v (.int .u32 ((k.toNat:Nat):Int))),(6,.v (.int .u32 ((x.length:Nat):Int)))] (WOk.start wb C1) hE11 fun aq6 hE12=>B5 (A4 ?_)
  refine D7 [0,1,2,3,4,5] kz ?_
  refine B1 [0,1,2,3] [4,5] [(0,.v (.pointer (some ⟨br,0,none⟩))),(2,.v (.pointer (some ⟨p2,0,none⟩))),(3,.v (.pointer (some ⟨p3,0,none⟩))),(4,.v (.int .u32 ((u.length - j:Nat):Int))),(17,.v (.int .u32 ((k.toNat:Nat):Int))),(18,.v (.pointer (some ⟨br,0,none⟩))),(20,.v (.int .i64 (IntKind.i64.wrap ((x.length:Nat):Int))))] (WOk.start wb C1) hE12 fun aq7 hE13=>?_
  rw [show IntKind.i64.wrap ((x.length:Nat):Int) = ((x.length:Nat):Int) by rw [N6]; omega,show ((k.toNat:Nat):Int) = k by omega] at hE13
  refine B2 (D3 hE13 (f:=66) (vs:=(z9 br x.length)) (d:=21) kz Tryz.call66 (V5 x _ hTb.rd hTb.oct hFd') ?_)
  rintro e_ wc ⟨_,Ac,nc,cc,rfl,hsc,hrc,hstc,Ax,rfl,hox⟩
  have hTc:=hTb.read hFd hsc hrc hstc
  refine ⟨_,rfl,fun aq8 hE14=>?_⟩
  refine B2 (D3 hE14 (f:=65) (vs:=[.pointer (some ⟨p3,0,none⟩),.int .u32 k,.slice Ax x.length x.length]) (d:=22) kz Tryz.call65 (hTc.set hsort hu hox hk') ?_)
  rintro e_ wd ⟨rfl,r,hTd⟩
  refine ⟨_,rfl,fun aq9 hE15=>B5 (F2 (A4 ?_))⟩
  refine D7 [0,1,2] kz (B1 [0,1,2] [] [(0,.v (.pointer (some ⟨br,0,none⟩))),(2,.v (.pointer (some ⟨p2,0,none⟩))),(3,.v (.pointer (some ⟨p3,0,none⟩))),(4,.v (.int .u32 (IntKind.u32.wrap (((u.length - j:Nat):Int) - 1))))] (WOk.start wd C1) hE15 fun aqa hE16=>B5 (A4 ?_))
  rw [show IntKind.u32.wrap (((u.length - j:Nat):Int) - 1) = ((u.length - (j + 1):Nat):Int) by rw [E3]; omega] at hE16
  exact ⟨u.length - (j + 1),by omega,j + 1,some r,Ac,nc,cc,rfl,by omega,hE16,hTd⟩
 obtain rfl:j = u.length:=by have:=of_decide_eq_false hc; omega
 refine wp_exit (E7 (E7 (G9 (A4 ?_))))
 rw [List.take_length,List.drop_length] at hT
 have hT':TR w wq br p2 p3 F A_ n_ c_ rest m_ u:=hT
 have h2:=hT'.new2
 have h3:=hT'.new3
 have hW9:WOk w (H1 br) wq ([] ++ [⟨p3,0,[.map m_],true⟩] ++ [⟨p2,0,[.map none],true⟩]) []:=by
  have hb:WOk w (H1 br) wq [] []:=⟨hT'.step,fun i o hi=>by simp at hi,fun i o hi=>by simp at hi,fun i o hi=>by simp at hi,fun i j o o' _ hi=>by simp at hi,fun i r hi=>by simp at hi,fun i r hi=>by simp at hi,fun i r hi=>by simp at hi,fun i j r r' _ hi=>by simp at hi⟩
  have h4:=hb.add ⟨p3,0,[.map m_],true⟩ (World.lt_of_cell (hT'.s3.at_ 0 _ rfl)) (fun j v hj=>by rw [Nat.zero_add]; exact hT'.s3.at_ j v hj) (fun _ j hj=>⟨.inl h3,by rw [Nat.zero_add]; exact hT'.s3.frz j hj⟩) (fun i o hi=>by simp at hi) (fun i r hi=>by simp at hi)
  refine h4.add ⟨p2,0,[.map none],true⟩ (World.lt_of_cell (hT'.s2.at_ 0 _ rfl)) (fun j v hj=>by rw [Nat.zero_add]; exact hT'.s2.at_ j v hj) (fun _ j hj=>⟨.inl h2,by rw [Nat.zero_add]; exact hT'.s2.frz j hj⟩) (fun i o hi _=>.inl ?_) (fun i r hi=>by simp at hi)
  have:o = ⟨p3,0,[.map m_],true⟩:=by
   have hm:=List.mem_of_getElem? hi
   simpa using hm
  rw [this]
  exact fun e=>hT'.ne e.symm
 have hE17:=(((hE7.retable [⟨p3,0,[.map m_],true⟩,⟨p2,0,[.map none],true⟩]).recast 3 (.v (.pointer (some ⟨p3,0,none⟩))) (.p 0 0) rfl rfl (Nat.le_of_ble_eq_true (n:=1) rfl)).recast 2 (.v (.pointer (some ⟨p2,0,none⟩))) (.p 1 0) rfl rfl (Nat.le_of_ble_eq_true (n:=2) rfl))
 have hE18:EnvOk 24 [⟨p3,0,[.map m_],true⟩,⟨p2,0,[.map none],true⟩] [(2,.p 1 0),(3,.p 0 0)] _:=hE17.pk
 refine C0 [0,1] kz ?_
 refine B1 [0] [1] [(2,.p 1 0),(23,.v (.agg #[.map m_]))] hW9 hE18 fun aqb hE19=>?_
 refine B2 (D5 hW9 hE19 (oi:=1) (cs:=[.map m_]) kz fun wz hFz hWz hEz=>B5 (A4 (wp_ret ?_)))
 have hsz:=hT'.step.size
 have hstz:Step wq wz (fun b o=>b = p2 ∨ b = p3):=hFz.step.mono fun b o _ ha=>by
  rcases ha with ⟨i,ob,hi,_,rfl,_⟩ | ⟨i,r,hi,_⟩
  ·have hm:=List.mem_of_getElem? hi
   simp only [List.nil_append,List.cons_append,List.mem_cons,List.not_mem_nil,or_false] at hm
   rcases hm with rfl | rfl
   ·exact .inr rfl
   exact .inl rfl
  simp at hi
 obtain ⟨m2,m3⟩:=hT'.mne
 refine C8 hEz hWz.cells (v:=.agg #[.map m_]) kz ⟨_,A_,n_,c_,rfl,hT'.rd.move hstz (fun o e=>?_),hT'.oct.move hstz (fun b o hg _ e=>?_) (fun b o hg _=>.inl hg.1),hWz.step,m_,rfl,?_⟩
 ·have:=hT'.old; rcases e with e | e <;> omega
 ·have:=hg.2; rcases e with e | e <;> omega
 refine (hT'.own.move hstz (fun b o hg _ e=>?_) E8 (fun r o e he=>?_)).map (fun b o h=>.inl h.1) (fun r o e=>.inr (hT'.new r e)) hsort hk
 ·have:=hg.2; rcases e with e | e <;> omega
 rcases he with he | he
 ·exact m2 (by rw [e,he])
 exact m3 (by rw [e,he])
theorem Nd (x:Int) (rest:Bs)  {br:Nat} {A:Option Addr} {m c:Nat} {w:World} {F:Nat → Nat → Prop} (hst:Str w br [.slice A m c,.bool false]) (hr:RdS w F A m c ((be 8 x) ++ rest)) (hFd:∀ b o,F b o → ¬ H1 br b o) :
  Calls Tryz.prog 63 #[.pointer (some ⟨br,0,none⟩)] w (RdPost w br (Fp F w) rest fun v w'=>v = .int .i64 (IntKind.i64.wrap x)):=by
 refine enter (n:=6) Tryz.func63 rfl Tryz.ntmps63 kz fun a hE=>?_
 have hW:WOk w (H1 br) w (z3 br A m c) []:=WOk.startStr hst
 have hE1:=(hE.grow ⟨br,0,[.slice A m c,.bool false],true⟩).recast 0 (.v (.pointer (some ⟨br,0,none⟩))) (.p 0 0) rfl rfl (Nat.le_of_ble_eq_true (n:=1) rfl)
 refine B7 [(0,.p 0 0)] hW hE1 fun a1 hE2=>?_
 refine C0 [0,1,2,3] kz ?_
 refine B1 [0] [1,2,3] [(3,.p 0 0)] hW hE2 fun a3 hE4=>?_
 refine B2 (D3 hE4 (f:=85) (vs:=[.pointer (some ⟨br,0,none⟩)]) (d:=4) kz Tryz.call85 (MT x (rest) (Str.of hW 0 rfl) (hr.move hW.step (fun b_ o_ h_ _=>hFd b_ o_ h_) (hW.immM hFd)) (R2 0 rfl)) ?_)
 rintro e_ w5 ⟨_,A6,n7,c8,rfl,hs9,ac,ab,rfl⟩
 obtain ⟨aa,ae,aj⟩:=hW.wrote 0 (z3 br A6 n7 c8) rfl ab hs9
 have af:=ac.move (Step.refl _ C1) A7 (fun b_ o_ h_ _=>ae.to b_ o_ h_)
 refine ⟨_,rfl,fun ak ag=>?_⟩
 have ah:EnvOk 6 (z3 br A6 n7 c8) [(4,.v (.int .u64 (IntKind.u64.wrap x))),(3,.p 0 0)] _:=ag.places (⟨rfl,rfl,trivial⟩)
 refine B1 [2,3] [] [(2,.v (.int .i64 (IntKind.i64.wrap (IntKind.u64.wrap x))))] aa ah fun al ai=>?_
 refine B5 (A4 ?_)
 refine wp_ret (C8 ai aa.cells (v:=.int .i64 (IntKind.i64.wrap (IntKind.u64.wrap x))) kz ?_)
 refine ⟨_,_,_,_,rfl,Str.of aa 0 rfl,(af.move (Step.refl _ C1) A7 I8),aa.step,by rw [My]⟩
theorem Nf (X:Bs) (hX:X.length ≤ 32767) (rest:Bs)  {br:Nat} {A:Option Addr} {m c:Nat} {w:World} {F:Nat → Nat → Prop} (hst:Str w br [.slice A m c,.bool false]) (hr:RdS w F A m c ((be 2 ((X.length:Nat):Int)) ++ (X ++ rest))) (hFd:∀ b o,F b o → ¬ H1 br b o) :
  Calls Tryz.prog 60 #[.pointer (some ⟨br,0,none⟩)] w (RdPost w br (Fp F w) rest fun v w'=>v = .string (bs X)):=by
 refine enter (n:=11) Tryz.func60 rfl Tryz.ntmps60 kz fun a hE=>?_
 have hW:WOk w (H1 br) w (z3 br A m c) []:=WOk.startStr hst
 have hE1:=(hE.grow ⟨br,0,[.slice A m c,.bool false],true⟩).recast 0 (.v (.pointer (some ⟨br,0,none⟩))) (.p 0 0) rfl rfl (Nat.le_of_ble_eq_true (n:=1) rfl)
 refine B7 [(0,.p 0 0)] hW hE1 fun a1 hE2=>?_
 refine C0 [0,1,2] kz ?_
 refine B1 [0] [1,2] [(0,.p 0 0),(4,.p 0 0)] hW hE2 fun a3 hE4=>?_
 refine B2 (D3 hE4 (f:=84) (vs:=[.pointer (some ⟨br,0,none⟩)]) (d:=5) kz Tryz.call84 (MS ((X.length:Nat):Int) (X ++ rest) (Str.of hW 0 rfl) (hr.move hW.step (fun b_ o_ h_ _=>hFd b_ o_ h_) (hW.immM hFd)) (R2 0 rfl)) ?_)
 rintro e_ w5 ⟨_,A6,n7,c8,rfl,hs9,aj,ag,rfl⟩
 let ae:Ob:=⟨br,0,[.slice A6 n7 c8,.bool false],true⟩
 obtain ⟨ab,ak,aG⟩:=hW.wrote 0 [ae] rfl ag hs9
 have al:=aj.move (Step.refl _ C1) A7 (fun b_ o_ h_ _=>ak.to b_ o_ h_)
 refine ⟨_,rfl,fun aM am=>?_⟩
 have ao:EnvOk 11 [ae] [(5,.v (.int .i16 (IntKind.i16.wrap ((X.length:Nat):Int)))),(0,.p 0 0),(4,.p 0 0)] _:=am.places (⟨rfl,rfl,trivial⟩)
 refine B1 [2] [] [(0,.p 0 0),(3,.v (.int .i16 (IntKind.i16.wrap ((X.length:Nat):Int))))] ab ao fun aN ap=>?_
 refine B5 (A4 ?_)
 refine C0 [0,1,2,3,4,5] kz ?_
 refine B1 [0,1,2] [3,4,5] [(6,.p 0 0),(8,.v (.int .i64 (IntKind.i64.wrap (IntKind.i16.wrap ((X.length:Nat):Int)))))] ab ap fun aO ar=>?_
 have au:IntKind.i64.wrap (IntKind.i16.wrap ((X.length:Nat):Int)) = ((X.length:Nat):Int):=by simp only [R1,L2,N6]; omega
 have av:=EnvOk.pick ar (ks:=[6,8]) (env':=[(6,.p 0 0),(8,.v (.int .i64 (IntKind.i64.wrap (IntKind.i16.wrap ((X.length:Nat):Int)))))]) kz
 let aa:Nat × SV:=(8,.v (.int .i64 ((X.length:Nat):Int)))
 have aw:=av.cast (env':=[(6,.p 0 0),aa]) (by simp only [aa,au]; try rfl)
 refine B2 (D3 aw (f:=66) (vs:=(z9 br X.length)) (d:=9) kz Tryz.call66 (V5 X (rest) (Str.of ab 0 rfl) al (R2 0 rfl)) ?_)
 rintro e_ aP ⟨_,aH,aI,aJ,rfl,ax,ay,ah,⟨aK,rfl,az⟩⟩
 let af:Ob:=⟨br,0,[.slice aH aI aJ,.bool false],true⟩
 obtain ⟨ac,ai,aL⟩:=ab.wrote 0 [af] rfl ah ax
 have aA:=ay.move (Step.refl _ C1) A7 (fun b_ o_ h_ _=>ai.to b_ o_ h_)
 refine ⟨_,rfl,fun aQ aB=>?_⟩
 have aC:EnvOk 11 [af] [(9,.v (.slice aK X.length X.length)),(6,.p 0 0),aa] _:=aB.places (⟨rfl,rfl,trivial⟩)
 have aD:=az.move (Step.refl _ C1) A7 (fun b_ o_ h_ _=>ai.to b_ o_ h_)
 refine B2 (Gi aC (src:=22) (dst:=9) (e:=5) (d:=10) kz kz kz kz aD fun aR aE=>?_)
 refine B1 [5] [] [(2,.v (.string (bs X)))] ac aE fun aS aF=>?_
 refine B5 (A4 ?_)
 refine wp_ret (C8 aF ac.cells (v:=.string (bs X)) kz ?_)
 refine ⟨_,_,_,_,rfl,Str.of ac 0 rfl,(aA.move (Step.refl _ C1) A7 I8),ac.step,rfl⟩
theorem Ng (X:Bs) (hX:X.length ≤ 1000000) (rest:Bs)  {br:Nat} {A:Option Addr} {m c:Nat} {w:World} {F:Nat → Nat → Prop} (hst:Str w br [.slice A m c,.bool false]) (hr:RdS w F A m c ((uv (X.length + 1)) ++ (X ++ rest))) (hFd:∀ b o,F b o → ¬ H1 br b o) :
  Calls Tryz.prog 59 #[.pointer (some ⟨br,0,none⟩)] w (RdPost w br (Fp F w) rest fun v w'=>v = .string (bs X)):=by
 refine enter (n:=12) Tryz.func59 rfl Tryz.ntmps59 kz fun a hE=>?_
 have hW:WOk w (H1 br) w (z3 br A m c) []:=WOk.startStr hst
 have hE1:=(hE.grow ⟨br,0,[.slice A m c,.bool false],true⟩).recast 0 (.v (.pointer (some ⟨br,0,none⟩))) (.p 0 0) rfl rfl (Nat.le_of_ble_eq_true (n:=1) rfl)
 refine B7 [(0,.p 0 0)] hW hE1 fun a1 hE2=>?_
 refine C0 [0,1,2,3,4] kz ?_
 refine B1 [0] [1,2,3,4] [(0,.p 0 0),(4,.p 0 0)] hW hE2 fun a3 hE4=>?_
 refine B2 (D3 hE4 (f:=64) (vs:=[.pointer (some ⟨br,0,none⟩)]) (d:=5) kz Tryz.call64 (T6 (X.length + 1) (by omega) (X ++ rest) (Str.of hW 0 rfl) (hr.move hW.step (fun b_ o_ h_ _=>hFd b_ o_ h_) (hW.immM hFd)) (R2 0 rfl)) ?_)
 rintro e_ w5 ⟨_,A6,n7,c8,rfl,hs9,aj,ag,rfl⟩
 let ae:Ob:=⟨br,0,[.slice A6 n7 c8,.bool false],true⟩
 obtain ⟨ab,ak,aG⟩:=hW.wrote 0 [ae] rfl ag hs9
 have al:=aj.move (Step.refl _ C1) A7 (fun b_ o_ h_ _=>ak.to b_ o_ h_)
 refine ⟨_,rfl,fun aM am=>?_⟩
 have ao:EnvOk 12 [ae] [(5,.v (.int .u32 ((X.length + 1:Nat):Int))),(0,.p 0 0),(4,.p 0 0)] _:=am.places (⟨rfl,rfl,trivial⟩)
 refine B1 [2,3,4] [] [(0,.p 0 0),(3,.v (.int .i64 (IntKind.i64.wrap ((IntKind.i64.wrap ((X.length + 1:Nat):Int)) - 1))))] ab ao fun aN ap=>?_
 refine B5 (A4 ?_)
 refine C0 [0,1,2,3,4] kz ?_
 refine B1 [0,1] [2,3,4] [(8,.p 0 0),(9,.v (.int .i64 (IntKind.i64.wrap ((IntKind.i64.wrap ((X.length + 1:Nat):Int)) - 1))))] ab ap fun aO ar=>?_
 have au:IntKind.i64.wrap ((IntKind.i64.wrap ((X.length + 1:Nat):Int)) - 1) = ((X.length:Nat):Int):=by simp only [R1,L2,N6]; omega
 have av:=EnvOk.pick ar (ks:=[8,9]) (env':=[(8,.p 0 0),(9,.v (.int .i64 (IntKind.i64.wrap ((IntKind.i64.wrap ((X.length + 1:Nat):Int)) - 1))))]) kz
 let aa:Nat × SV:=(9,.v (.int .i64 ((X.length:Nat):Int)))
 have aw:=av.cast (env':=[(8,.p 0 0),aa]) (by simp only [aa,au]; try rfl)
 refine B2 (D3 aw (f:=66) (vs:=(z9 br X.length)) (d:=10) kz Tryz.call66 (V5 X (rest) (Str.of ab 0 rfl) al (R2 0 rfl)) ?_)
 rintro e_ aP ⟨_,aH,aI,aJ,rfl,ax,ay,ah,⟨aK,rfl,az⟩⟩
 let af:Ob:=⟨br,0,[.slice aH aI aJ,.bool false],true⟩
 obtain ⟨ac,ai,aL⟩:=ab.wrote 0 [af] rfl ah ax
 have aA:=ay.move (Step.refl _ C1) A7 (fun b_ o_ h_ _=>ai.to b_ o_ h_)
 refine ⟨_,rfl,fun aQ aB=>?_⟩
 have aC:EnvOk 12 [af] [(10,.v (.slice aK X.length X.length)),(8,.p 0 0),aa] _:=aB.places (⟨rfl,rfl,trivial⟩)
 have aD:=az.move (Step.refl _ C1) A7 (fun b_ o_ h_ _=>ai.to b_ o_ h_)
 refine B2 (Gi aC (src:=22) (dst:=9) (e:=5) (d:=11) kz kz kz kz aD fun aR aE=>?_)
 refine B1 [4] [] [(2,.v (.string (bs X)))] ac aE fun aS aF=>?_
 refine B5 (A4 ?_)
 refine wp_ret (C8 aF ac.cells (v:=.string (bs X)) kz ?_)
 refine ⟨_,_,_,_,rfl,Str.of ac 0 rfl,(aA.move (Step.refl _ C1) A7 I8),ac.step,rfl⟩
theorem Nh (X:Bs) (rest:Bs)  {br:Nat} {A:Option Addr} {m c:Nat} {w:World} {F:Nat → Nat → Prop} (hst:Str w br [.slice A m c,.bool false]) (hr:RdS w F A m c ((uv 0) ++ rest)) (hFd:∀ b o,F b o → ¬ H1 br b o) :
  Calls Tryz.prog 70 #[.pointer (some ⟨br,0,none⟩)] w (RdPost w br (Fp F w) rest fun v w'=>∃ A2,v = .pointer A2 ∧ (∀ ad,A2 = some ad → ∃ b o,ad = ⟨b,o,none⟩ ∧ AtF w' (Fp F w) b o [.string (bs X)]) ∧ A2.isNone = true):=by
 refine enter (n:=15) Tryz.func70 rfl Tryz.ntmps70 kz fun a hE=>?_
 have hW:WOk w (H1 br) w (z3 br A m c) []:=WOk.startStr hst
 have hE1:=(hE.grow ⟨br,0,[.slice A m c,.bool false],true⟩).recast 0 (.v (.pointer (some ⟨br,0,none⟩))) (.p 0 0) rfl rfl (Nat.le_of_ble_eq_true (n:=1) rfl)
 refine B7 [(0,.p 0 0)] hW hE1 fun a1 hE2=>?_
 refine C0 [0,1,2,3,4] kz ?_
 refine B1 [0] [1,2,3,4] [(0,.p 0 0),(5,.p 0 0)] hW hE2 fun a3 hE4=>?_
 refine B2 (D3 hE4 (f:=64) (vs:=[.pointer (some ⟨br,0,none⟩)]) (d:=6) kz Tryz.call64 (T6 0 (by omega) (rest) (Str.of hW 0 rfl) (hr.move hW.step (fun b_ o_ h_ _=>hFd b_ o_ h_) (hW.immM hFd)) (R2 0 rfl)) ?_)
 rintro e_ w5 ⟨_,A6,n7,c8,rfl,hs9,ae,ab,rfl⟩
 obtain ⟨aa,af,al⟩:=hW.wrote 0 (z3 br A6 n7 c8) rfl ab hs9
 have ag:=ae.move (Step.refl _ C1) A7 (fun b_ o_ h_ _=>af.to b_ o_ h_)
 refine ⟨_,rfl,fun am ah=>?_⟩
 have ai:EnvOk 15 (z3 br A6 n7 c8) [(6,.v (.int .u32 ((0:Nat):Int))),(0,.p 0 0),(5,.p 0 0)] _:=ah.places (⟨rfl,rfl,trivial⟩)
 refine B1 [2,3,4] [] [(0,.p 0 0),(3,.v (.int .i64 (IntKind.i64.wrap ((IntKind.i64.wrap ((0:Nat):Int)) - 1))))] aa ai fun ao aj=>?_
 refine B5 (A4 ?_)
 refine wp_seq (B7 [(0,.p 0 0),(3,.v (.int .i64 (IntKind.i64.wrap ((IntKind.i64.wrap ((0:Nat):Int)) - 1)))),(10,.v (.bool (decide ((IntKind.i64.wrap ((IntKind.i64.wrap ((0:Nat):Int)) - 1)) < 0))))] aa aj fun ap ac=>?_)
 refine I7 ac (b:=decide ((IntKind.i64.wrap ((IntKind.i64.wrap ((0:Nat):Int)) - 1)) < 0)) kz (decide_eq_true (by simp only [R1,L2,N6]; omega)) ?_
 refine B7 [(2,.v (.pointer none))] aa ac fun ar ak=>?_
 refine wp_ret (D6 (C8 ak aa.cells (v:=.pointer none) kz ?_))
 refine ⟨_,_,_,_,rfl,Str.of aa 0 rfl,(ag.move (Step.refl _ C1) A7 I8),aa.step,_,rfl,(fun ad h_=>by cases h_),rfl⟩
theorem Ni (X:Bs) (hX:X.length ≤ 1000000) (rest:Bs)  {br:Nat} {A:Option Addr} {m c:Nat} {w:World} {F:Nat → Nat → Prop} (hst:Str w br [.slice A m c,.bool false]) (hr:RdS w F A m c ((uv (X.length + 1)) ++ (X ++ rest))) (hFd:∀ b o,F b o → ¬ H1 br b o) :
  Calls Tryz.prog 70 #[.pointer (some ⟨br,0,none⟩)] w (RdPost w br (Fp F w) rest fun v w'=>∃ A2,v = .pointer A2 ∧ (∀ ad,A2 = some ad → ∃ b o,ad = ⟨b,o,none⟩ ∧ AtF w' (Fp F w) b o [.string (bs X)]) ∧ A2.isNone = false):=by
 refine enter (n:=15) Tryz.func70 rfl Tryz.ntmps70 kz fun a hE=>?_
 have hW:WOk w (H1 br) w (z3 br A m c) []:=WOk.startStr hst
 have hE1:=(hE.grow ⟨br,0,[.slice A m c,.bool false],true⟩).recast 0 (.v (.pointer (some ⟨br,0,none⟩))) (.p 0 0) rfl rfl (Nat.le_of_ble_eq_true (n:=1) rfl)
 refine B7 [(0,.p 0 0)] hW hE1 fun a1 hE2=>?_
 refine C0 [0,1,2,3,4] kz ?_
 refine B1 [0] [1,2,3,4] [(0,.p 0 0),(5,.p 0 0)] hW hE2 fun a3 hE4=>?_
 refine B2 (D3 hE4 (f:=64) (vs:=[.pointer (some ⟨br,0,none⟩)]) (d:=6) kz Tryz.call64 (T6 (X.length + 1) (by omega) (X ++ rest) (Str.of hW 0 rfl) (hr.move hW.step (fun b_ o_ h_ _=>hFd b_ o_ h_) (hW.immM hFd)) (R2 0 rfl)) ?_)
 rintro e_ w5 ⟨_,A6,n7,c8,rfl,hs9,am,ag,rfl⟩
 let ae:Ob:=⟨br,0,[.slice A6 n7 c8,.bool false],true⟩
 obtain ⟨aa,ao,aN⟩:=hW.wrote 0 [ae] rfl ag hs9
 have ap:=am.move (Step.refl _ C1) A7 (fun b_ o_ h_ _=>ao.to b_ o_ h_)
 refine ⟨_,rfl,fun aW ar=>?_⟩
 have au:EnvOk 15 [ae] [(6,.v (.int .u32 ((X.length + 1:Nat):Int))),(0,.p 0 0),(5,.p 0 0)] _:=ar.places (⟨rfl,rfl,trivial⟩)
 refine B1 [2,3,4] [] [(0,.p 0 0),(3,.v (.int .i64 (IntKind.i64.wrap ((IntKind.i64.wrap ((X.length + 1:Nat):Int)) - 1))))] aa au fun aX av=>?_
 refine B5 (A4 ?_)
 refine wp_seq (B7 [(0,.p 0 0),(3,.v (.int .i64 (IntKind.i64.wrap ((IntKind.i64.wrap ((X.length + 1:Nat):Int)) - 1)))),(10,.v (.bool (decide ((IntKind.i64.wrap ((IntKind.i64.wrap ((X.length + 1:Nat):Int)) - 1)) < 0))))] aa av fun aY ah=>?_)
 refine E6 ah (b:=decide ((IntKind.i64.wrap ((IntKind.i64.wrap ((X.length + 1:Nat):Int)) - 1)) < 0)) kz (decide_eq_false (by simp only [R1,L2,N6]; omega)) ?_
 refine wp_skip (A4 (C0 [0,1,2,3,4,5] kz ?_))
 refine B1 [0,1] [2,3,4,5] [(11,.p 0 0),(12,.v (.int .i64 (IntKind.i64.wrap ((IntKind.i64.wrap ((X.length + 1:Nat):Int)) - 1))))] aa ah fun aZ aw=>?_
 have ax:IntKind.i64.wrap ((IntKind.i64.wrap ((X.length + 1:Nat):Int)) - 1) = ((X.length:Nat):Int):=by simp only [R1,L2,N6]; omega
 have ay:=EnvOk.pick aw (ks:=[11,12]) (env':=[(11,.p 0 0),(12,.v (.int .i64 (IntKind.i64.wrap ((IntKind.i64.wrap ((X.length + 1:Nat):Int)) - 1))))]) kz
 let ab:Nat × SV:=(12,.v (.int .i64 ((X.length:Nat):Int)))
 have az:=ay.cast (env':=[(11,.p 0 0),ab]) (by simp only [ab,ax]; try rfl)
 refine B2 (D3 az (f:=66) (vs:=(z9 br X.length)) (d:=13) kz Tryz.call66 (V5 X (rest) (Str.of aa 0 rfl) ap (R2 0 rfl)) ?_)
 rintro e_ ba ⟨_,aO,aP,aQ,rfl,aA,aB,ai,⟨aR,rfl,aC⟩⟩
 let af:Ob:=⟨br,0,[.slice aO aP aQ,.bool false],true⟩
 obtain ⟨aD,aj,aS⟩:=aa.wrote 0 [af] rfl ai aA
 have aE:=aB.move (Step.refl _ C1) A7 (fun b_ o_ h_ _=>aj.to b_ o_ h_)
 refine ⟨_,rfl,fun bd aF=>?_⟩
 have aG:EnvOk 15 [af] [(13,.v (.slice aR X.length X.length)),(11,.p 0 0),ab] _:=aF.places (⟨rfl,rfl,trivial⟩)
 have aH:=aC.move (Step.refl _ C1) A7 (fun b_ o_ h_ _=>aj.to b_ o_ h_)
 refine B2 (Gi aG (src:=22) (dst:=9) (e:=5) (d:=14) kz kz kz kz aH fun bf aI=>?_)
 refine B2 (H4 aD aI (d:=4) (cs:=[.string ByteArray.empty]) kz fun aT bg bh aU aV ak aJ aK=>?_)
 refine B2 (D5 aJ aK (oi:=1) (cs:=[.string (bs X)]) kz fun bj al ac aL=>?_)
 refine B5 (A4 ?_)
 refine B7 [(2,.p 1 0)] ac aL fun bk aM=>?_
 refine wp_ret (C8 aM ac.cells (v:=.pointer (some ⟨aT,0,none⟩)) kz ?_)
 refine ⟨_,_,_,_,rfl,Str.of ac 0 rfl,((aE.move (ak.trans al).step immM (ak.trans al).to').move (Step.refl _ C1) A7 I8),ac.step,_,rfl,(fun ad h_=>by
  obtain rfl:=Option.some.inj h_
  exact ⟨_,0,rfl,fun j v_ hj=>⟨.inr ‹_›,ac.cells 1 _ rfl j v_ hj⟩⟩),rfl⟩
theorem Nj (nul:Bool) (X:Bs) (hX:X.length ≤ 1000000) (rest:Bs) {br:Nat} {A:Option Addr} {m c:Nat} {w:World} {F:Nat → Nat → Prop} (hst:Str w br [.slice A m c,.bool false]) (hr:RdS w F A m c ((if nul = true then uv 0 else uv (X.length + 1) ++ X) ++ rest)) (hFd:∀ b o,F b o → ¬ H1 br b o) :
  Calls Tryz.prog 70 #[.pointer (some ⟨br,0,none⟩)] w (RdPost w br (Fp F w) rest fun v w'=>∃ A2,v = .pointer A2 ∧ (∀ ad,A2 = some ad → ∃ b o,ad = ⟨b,o,none⟩ ∧ AtF w' (Fp F w) b o [.string (bs X)]) ∧ A2.isNone = nul):=by
 cases nul
 ·exact Ni X hX rest hst (hr.cast (by simp only [Bool.false_eq_true,if_false,List.append_assoc])) hFd
 exact Nh X rest hst (hr.cast (by simp only [if_true])) hFd
theorem Nk (x:Int) (hx:-1 ≤ x ∧ x ≤ 32767) (rest:Bs) (hl:x ≤ ((rest.length:Nat):Int)) {br:Nat} {A:Option Addr} {m c:Nat} {w:World} {F:Nat → Nat → Prop} (hst:Str w br [.slice A m c,.bool false]) (hr:RdS w F A m c ((be 4 x) ++ rest)) (hFd:∀ b o,F b o → ¬ H1 br b o) :
  Calls Tryz.prog 53 #[.pointer (some ⟨br,0,none⟩)] w (RdPost w br (Fp F w) rest fun v w'=>v = .int .i32 x):=by
 refine enter (n:=21) Tryz.func53 rfl Tryz.ntmps53 kz fun a hE=>?_
 have hW:WOk w (H1 br) w (z3 br A m c) []:=WOk.startStr hst
 have hE1:=(hE.grow ⟨br,0,[.slice A m c,.bool false],true⟩).recast 0 (.v (.pointer (some ⟨br,0,none⟩))) (.p 0 0) rfl rfl (Nat.le_of_ble_eq_true (n:=1) rfl)
 refine B7 [(0,.p 0 0)] hW hE1 fun a1 hE2=>?_
 refine C0 [0,1,2] kz ?_
 refine B1 [0] [1,2] [(0,.p 0 0),(4,.p 0 0)] hW hE2 fun a3 hE4=>?_
 refine B2 (D3 hE4 (f:=50) (vs:=[.pointer (some ⟨br,0,none⟩)]) (d:=5) kz Tryz.call50 (Jt x (rest) (Str.of hW 0 rfl) (hr.move hW.step (fun b_ o_ h_ _=>hFd b_ o_ h_) (hW.immM hFd)) (R2 0 rfl)) ?_)
 rintro e_ w5 ⟨_,A6,n7,c8,rfl,hs9,af,ab,rfl⟩
 obtain ⟨aa,ag,al⟩:=hW.wrote 0 (z3 br A6 n7 c8) rfl ab hs9
 have ac:=af.move (Step.refl _ C1) A7 (fun b_ o_ h_ _=>ag.to b_ o_ h_)
 refine ⟨_,rfl,fun am ah=>?_⟩
 have ai:EnvOk 21 (z3 br A6 n7 c8) [(5,.v (.int .i32 (IntKind.i32.wrap x))),(0,.p 0 0),(4,.p 0 0)] _:=ah.places (⟨rfl,rfl,trivial⟩)
 refine B1 [2] [] [(0,.p 0 0),(3,.v (.int .i32 (IntKind.i32.wrap x)))] aa ai fun ao aj=>?_
 refine B5 (A4 ?_)
 refine wp_seq (B7 [(0,.p 0 0),(3,.v (.int .i32 (IntKind.i32.wrap x))),(13,.v (.bool (decide (((n7:Nat):Int) < (IntKind.i64.wrap (IntKind.i32.wrap x))))))] aa aj fun ap ae=>?_)
 refine E6 ae (b:=decide (((n7:Nat):Int) < (IntKind.i64.wrap (IntKind.i32.wrap x)))) kz (decide_eq_false (by have h_:=ac.len; simp only [L2,N6]; omega)) ?_
 refine wp_skip (A4 (B7 [(2,.v (.int .i32 (IntKind.i32.wrap x)))] aa ae fun ar ak=>?_))
 refine wp_ret (C8 ak aa.cells (v:=.int .i32 (IntKind.i32.wrap x)) kz ?_)
 refine ⟨_,_,_,_,rfl,Str.of aa 0 rfl,(ac.move (Step.refl _ C1) A7 I8),aa.step,congrArg (Value.int .i32) (by simp only [L2]; omega)⟩
theorem Nl (n:Nat) (hn:n ≤ 32768) (rest:Bs) (hl:n ≤ rest.length + 1) {br:Nat} {A:Option Addr} {m c:Nat} {w:World} {F:Nat → Nat → Prop} (hst:Str w br [.slice A m c,.bool false]) (hr:RdS w F A m c ((uv n) ++ rest)) (hFd:∀ b o,F b o → ¬ H1 br b o) :
  Calls Tryz.prog 52 #[.pointer (some ⟨br,0,none⟩)] w (RdPost w br (Fp F w) rest fun v w'=>v = .int .i32 (((n:Nat):Int) - 1)):=by
 refine enter (n:=23) Tryz.func52 rfl Tryz.ntmps52 kz fun a hE=>?_
 have hW:WOk w (H1 br) w (z3 br A m c) []:=WOk.startStr hst
 have hE1:=(hE.grow ⟨br,0,[.slice A m c,.bool false],true⟩).recast 0 (.v (.pointer (some ⟨br,0,none⟩))) (.p 0 0) rfl rfl (Nat.le_of_ble_eq_true (n:=1) rfl)
 refine B7 [(0,.p 0 0)] hW hE1 fun a1 hE2=>?_
 refine C0 [0,1,2,3,4] kz ?_
 refine B1 [0] [1,2,3,4] [(0,.p 0 0),(4,.p 0 0)] hW hE2 fun a3 hE4=>?_
 refine B2 (D3 hE4 (f:=64) (vs:=[.pointer (some ⟨br,0,none⟩)]) (d:=5) kz Tryz.call64 (T6 n (by omega) (rest) (Str.of hW 0 rfl) (hr.move hW.step (fun b_ o_ h_ _=>hFd b_ o_ h_) (hW.immM hFd)) (R2 0 rfl)) ?_)
 rintro e_ w5 ⟨_,A6,n7,c8,rfl,hs9,af,ab,rfl⟩
 obtain ⟨aa,ag,al⟩:=hW.wrote 0 (z3 br A6 n7 c8) rfl ab hs9
 have ac:=af.move (Step.refl _ C1) A7 (fun b_ o_ h_ _=>ag.to b_ o_ h_)
 refine ⟨_,rfl,fun am ah=>?_⟩
 have ai:EnvOk 23 (z3 br A6 n7 c8) [(5,.v (.int .u32 ((n:Nat):Int))),(0,.p 0 0),(4,.p 0 0)] _:=ah.places (⟨rfl,rfl,trivial⟩)
 refine B1 [2,3,4] [] [(0,.p 0 0),(3,.v (.int .i32 (IntKind.i32.wrap ((IntKind.i32.wrap ((n:Nat):Int)) - 1))))] aa ai fun ao aj=>?_
 refine B5 (A4 ?_)
 refine wp_seq (B7 [(0,.p 0 0),(3,.v (.int .i32 (IntKind.i32.wrap ((IntKind.i32.wrap ((n:Nat):Int)) - 1)))),(15,.v (.bool (decide (((n7:Nat):Int) < (IntKind.i64.wrap (IntKind.i32.wrap ((IntKind.i32.wrap ((n:Nat):Int)) - 1)))))))] aa aj fun ap ae=>?_)
 refine E6 ae (b:=decide (((n7:Nat):Int) < (IntKind.i64.wrap (IntKind.i32.wrap ((IntKind.i32.wrap ((n:Nat):Int)) - 1))))) kz (decide_eq_false (by have h_:=ac.len; simp only [L2,N6]; omega)) ?_
 refine wp_skip (A4 (B7 [(2,.v (.int .i32 (IntKind.i32.wrap ((IntKind.i32.wrap ((n:Nat):Int)) - 1))))] aa ae fun ar ak=>?_))
 refine wp_ret (C8 ak aa.cells (v:=.int .i32 (IntKind.i32.wrap ((IntKind.i32.wrap ((n:Nat):Int)) - 1))) kz ?_)
 refine ⟨_,_,_,_,rfl,Str.of aa 0 rfl,(ac.move (Step.refl _ C1) A7 I8),aa.step,congrArg (Value.int .i32) (by simp only [L2]; omega)⟩
theorem Nm  (rest:Bs)  {br:Nat} {A:Option Addr} {m c:Nat} {w:World} {F:Nat → Nat → Prop} (hst:Str w br [.slice A m c,.bool false]) (hr:RdS w F A m c (rest)) (hFd:∀ b o,F b o → ¬ H1 br b o) :
  Calls Tryz.prog 54 #[.pointer (some ⟨br,0,none⟩)] w (RdPost w br (Fp F w) rest fun v w'=>v = .bool true):=by
 refine enter (n:=8) Tryz.func54 rfl Tryz.ntmps54 kz fun a hE=>?_
 have hW:WOk w (H1 br) w (z3 br A m c) []:=WOk.startStr hst
 have hE1:=(hE.grow ⟨br,0,[.slice A m c,.bool false],true⟩).recast 0 (.v (.pointer (some ⟨br,0,none⟩))) (.p 0 0) rfl rfl (Nat.le_of_ble_eq_true (n:=1) rfl)
 refine B7 [(0,.p 0 0)] hW hE1 fun a1 hE2=>?_
 refine B7 [(2,.v (.bool true))] hW hE2 fun a3 hE4=>?_
 refine wp_ret (C8 hE4 hW.cells (v:=.bool true) kz ?_)
 refine ⟨_,_,_,_,rfl,Str.of hW 0 rfl,((hr.move hW.step (fun b_ o_ h_ _=>hFd b_ o_ h_) (hW.immM hFd)).move (Step.refl _ C1) A7 I8),hW.step,rfl⟩
theorem P0 {P:Program} {c:Code} {Mid:Act → World → Prop} {Q:Exit → Act → World → Prop} {a:Act} {w:World} (h1:c.wp P (Exit.then Mid Q) a w) (h2:∀ a' w',Mid a' w' → Q .normal a' w'):c.wp P Q a w :=
 wp_mono h1 fun e a' w' h=>by
  cases e <;> first | exact h2 a' w' h | exact h
theorem EO {k:Nat} (h:k < 32768):IntKind.i32.wrap (((k:Nat):Int) + 1) = ((k + 1:Nat):Int):=by rw [L2]; omega
theorem Jv {g:Tree → Bs}:∀ {L:List Tree},(∀ t,0 < (g t).length) → L.length ≤ (L.flatMap g).length
 | [],_=>Nat.zero_le _
 | t :: r,h=>by
  have h1:=h t
  have h2:=Jv (L:=r) h
  rw [List.flatMap_cons,List.length_append,List.length_cons]; omega
theorem flat_ge' {g:Tree → Bs} {L:List Tree} (h:∀ t,0 < (g t).length) (rest:Bs):L.length ≤ (L.flatMap g ++ rest).length:=by
 have:=Jv (L:=L) h
 rw [List.length_append]; omega
theorem Dt {x y:Bs} (h:0 < x.length):0 < (x ++ y).length:=by rw [List.length_append]; omega
theorem EP {x y:Bs} (h:0 < y.length):0 < (x ++ y).length:=by rw [List.length_append]; omega
theorem Jw {b:Bool} {x y:Bs} (h:0 < x.length) (h':0 < y.length):0 < (if b = true then x else y).length:=by split <;> assumption
theorem Du {m:Nat} {x:Int} (h:0 < m):0 < (be m x).length:=by rw [be_length]; exact h
section
variable {Pr:Program} {ops:Array Oper} {Q:Exit → Act → World → Prop} {w0:World} {M F:Nat → Nat → Prop} {n br:Nat} {tb:Tb} {env:C6} {P:G5} {s:Bs} {a:Act} {w:World}
theorem EQ {id d:Nat} {t e:TypeId} {size bytes m cp:Nat} {A0:Option Addr} (env1 env':C6) (i:Nat) (h:RS w0 M F n br tb env P s a w) (K:∀ a',RS w0 M F n br tb env' P s a' w → Q .normal a' w)
  (hr:List.range ops.size = List.range i ++ (i :: (List.range ops.size).drop (i + 1)):=by kernel_rfl) (e1:∀ A m c,N0 Pr ops n (rdo br A m c :: tb) (List.range i) (L1 env1) env = some env1:=by intro _ _ _; kernel_rfl)
  (hc:∀ A m_ c,U2 (rdo br A m_ c :: tb) env1 ops n i = some (t,.slice A0 m cp,none,some 0,d):=by intro _ _ _; kernel_rfl) (ht:M6 Pr t = some (e,size,bytes):=by kernel_rfl)
  (e2:∀ A m_ c,N0 Pr ops n (rdo br A m_ c :: tb) ((List.range ops.size).drop (i + 1)) (L1 env') ((d,.v (.slice A0 0 cp)) :: env1) = some env':=by intro _ _ _; kernel_rfl):(Code.region id ops false).wp Pr Q a w:=by
 refine D7 _ hr (H7 (List.range i) _ env1 h (fun a1 h1=>?_) e1 rfl)
 obtain ⟨A,m1,c,hW,hrd,hE,hP⟩:=h1.open_
 refine B2 (DU hE (hc A m1 c) ht (j:=0) rfl (Nat.zero_le _) fun a2 hE2=>?_)
 exact H7 _ [] env' (RS.mk' hW hrd hE2 h1.mv hP) (fun a3 h3=>B5 (K a3 h3)) e2 (List.append_nil _).symm
theorem Jx {i d:Nat} {f:FuncId} {vs:List Value} {v0:Value} {N:Act → World → Prop} (h:RS w0 M F n br tb env P s a w) (hc:∀ w,Calls Pr f vs.toArray w (fun e w'=>e = .returned v0 ∧ w' = w))
  (hf:∀ args w,(callFunc f args).run Pr w = .ok (.enter f args) w) (K:∀ a',RS w0 M F n br tb ((d,.v v0) :: env) P s a' w → N a' w)
  (he:∀ A m c,O7 (rdo br A m c :: tb) env ops n i = some (f,vs,d):=by intro _ _ _; kernel_rfl):wpOp Pr ops Q i N a w:=by
 obtain ⟨A,m,c,hW,hr,hE,hP⟩:=h.open_
 refine D3 hE (he A m c) hf (hc w) ?_
 rintro e_ _ ⟨rfl,rfl⟩
 exact ⟨_,rfl,fun a1 hE1=>K a1 (RS.mk' hW hr hE1 h.mv hP)⟩
theorem ER {id d:Nat} {f:FuncId} {v0:Value} (env':C6) (h:RS w0 M F n br tb env P s a w) (hc:O3 Pr f [] s v0)
  (hf:∀ args w,(callFunc f args).run Pr w = .ok (.enter f args) w) (K:∀ a' w',RS w0 M F n br tb env' P s a' w' → Q .normal a' w')
  (he:∀ A m c,O7 (rdo br A m c :: tb) env ops n 0 = some (f,[.pointer (some ⟨br,0,none⟩)],d):=by intro _ _ _; kernel_rfl)
  (e:∀ A m c,N0 Pr ops n (rdo br A m c :: tb) ((List.range ops.size).drop 1) (L1 env') ((d,.v v0) :: env) = some env':=by intro _ _ _; kernel_rfl) (hs:Nat.blt 0 ops.size = true:=by kernel_rfl):(Code.region id ops false).wp Pr Q a w :=
 M3 (X:=[]) (rest:=s) env' h hc hf K he e hs
theorem Jy {i d k l g size bytes:Nat} {t e:TypeId} {z:Value} {N:Act → World → Prop} (h:RS w0 M F n br (tb ++ [J1 g size z l k]) env P s a w) (hk:k < l) (hz:z.cells.size = size) (hl:Q7 (tb.length + 1) env = true)
  (K:∀ a',RS w0 M F n br (tb ++ [J1 g size z l (k + 1),⟨g,k * size,z.cells.toList,true⟩]) ((d,.p (tb.length + 2) 0) :: env) P s a' w → N a' w)
  (he:∀ A m c,S1 (rdo br A m c :: (tb ++ [J1 g size z l k])) env ops n i = some (t,some ⟨g,0,none⟩,l,((k:Nat):Int),d):=by intro _ _ _; kernel_rfl) (ht:M6 Pr t = some (e,size,bytes):=by kernel_rfl):wpOp Pr ops Q i N a w:=by
 obtain ⟨A,m,c,hW,hr,hE,hP⟩:=h.open_
 refine G6 hE (he A m c) ht rfl rfl hk fun a1 hE1=>K a1 ?_
 have h1:RS w0 M F n br (tb ++ [J1 g size z l k]) ((d,.v (.pointer (some ⟨g,0 + k * size,none⟩))) :: env) P s a1 w:=RS.mk' hW hr hE1 h.mv hP
 have h2:=h1.next hk hz (by simpa only [Q7] using hl)
 have h3:=h2.recast d (.v (.pointer (some ⟨g,0 + k * size,none⟩))) (.p (tb.length + 2) 0) (by simp [lk]) ?_ (by show tb.length + 2 < _; simp)
 ·refine ⟨h3.mv,h3.ex,?_,h3.fact⟩
  refine ⟨h3.env_.defers,h3.env_.size,fun q x hx=>h3.env_.at_ q x ?_⟩
  simp only [lk] at hx ⊢
  split at hx
  ·exact hx
  exact hx
 have:C9 (rdo br none 0 0 :: (tb ++ [J1 g size z l (k + 1),⟨g,k * size,z.cells.toList,true⟩])) (tb.length + 2) = ⟨g,k * size,z.cells.toList,true⟩:=by
  simp only [C9,List.getD_eq_getElem?_getD]
  rw [show tb.length + 2 = (tb.length + 1) + 1 from rfl,List.getElem?_cons_succ,List.getElem?_append_right (by omega)]
  simp
 simp only [SV.val,this]
 simp
theorem GM {id d k l g size bytes:Nat} {t e:TypeId} {z:Value} (env1 env':C6) (i:Nat) (h:RS w0 M F n br (tb ++ [J1 g size z l k]) env P s a w) (hk:k < l) (hz:z.cells.size = size) (hl:Q7 (tb.length + 1) env1 = true)
  (K:∀ a',RS w0 M F n br (tb ++ [J1 g size z l (k + 1),⟨g,k * size,z.cells.toList,true⟩]) env' P s a' w → Q .normal a' w)
  (hr:List.range ops.size = List.range i ++ (i :: (List.range ops.size).drop (i + 1)):=by kernel_rfl) (e1:∀ A m c,N0 Pr ops n (rdo br A m c :: (tb ++ [J1 g size z l k])) (List.range i) (L1 env1) env = some env1:=by intro _ _ _; kernel_rfl)
  (he:∀ A m c,S1 (rdo br A m c :: (tb ++ [J1 g size z l k])) env1 ops n i = some (t,some ⟨g,0,none⟩,l,((k:Nat):Int),d):=by intro _ _ _; kernel_rfl) (ht:M6 Pr t = some (e,size,bytes):=by kernel_rfl)
  (e2:∀ A m c,N0 Pr ops n (rdo br A m c :: (tb ++ [J1 g size z l (k + 1),⟨g,k * size,z.cells.toList,true⟩])) ((List.range ops.size).drop (i + 1)) (L1 env') ((d,.p (tb.length + 2) 0) :: env1) = some env':=by intro _ _ _; kernel_rfl):(Code.region id ops false).wp Pr Q a w:=by
 refine D7 _ hr (H7 (List.range i) _ env1 h (fun a1 h1=>B2 (Jy h1 hk hz hl (fun a2 h2=>?_) he ht)) e1 rfl)
 exact H7 _ [] env' h2 (fun a3 h3=>B5 (K a3 h3)) e2 (List.append_nil _).symm
end
theorem Nn (X:Bs) (hX:X.length = 16) (rest:Bs) {br:Nat} {A:Option Addr} {m c:Nat} {w:World} {F:Nat → Nat → Prop} (hst:Str w br [.slice A m c,.bool false]) (hr:RdS w F A m c (X ++ rest)) (hFd:∀ b o,F b o → ¬ H1 br b o) :
  Calls Tryz.prog 61 #[.pointer (some ⟨br,0,none⟩)] w (RdPost w br (Fp F w) rest fun v w'=>v = .agg ((List.range 16).map fun i=>B0 (X.getD i 0)).toArray):=by
 have hbr:br < w.heap.size:=World.lt_of_cell (hst.at_ 0 _ rfl)
 refine enter (n:=9) (vs:=[.pointer (some ⟨br,0,none⟩)]) Tryz.func61 rfl Tryz.ntmps61 kz fun a hE=>?_
 refine C0 [0] kz ?_
 refine B2 (Jc hE (d:=2) (cs:=(List.range 16).map fun _=>B0 0) kz fun t0 a1 hE1=>B5 (A4 ?_))
 have hs1:=Step.alloc w (.cells ((List.range 16).map fun _=>B0 0).toArray t0)
 have hz1:=CQ w (.cells ((List.range 16).map fun _=>B0 0).toArray t0)
 have hh1:=X8 w (.cells ((List.range 16).map fun _=>B0 0).toArray t0)
 generalize w.alloc (.cells ((List.range 16).map fun _=>B0 0).toArray t0) = w1 at hs1 hz1 hh1
 refine C0 [0] kz ?_
 refine B2 (Jc hE1 (d:=3) (cs:=(List.range 16).map fun _=>B0 0) kz fun t1 a2 hE2=>B5 (A4 ?_))
 have hs2:=Step.alloc w1 (.cells ((List.range 16).map fun _=>B0 0).toArray t1)
 have hz2:=CQ w1 (.cells ((List.range 16).map fun _=>B0 0).toArray t1)
 have hh2:=X8 w1 (.cells ((List.range 16).map fun _=>B0 0).toArray t1)
 generalize hp2:w.heap.size = p2 at hE1 hE2 hh1 hz1
 generalize hp3:w1.heap.size = p3 at hE2 hh2 hz2
 generalize w1.alloc (.cells ((List.range 16).map fun _=>B0 0).toArray t1) = w2 at hs2 hz2 hh2
 refine FC (fun _=>True) 4 kz ?_
 have hsd:=Step.drew w2
 have hhd:w2.drew.heap[p3]? = some (.cells ((List.range 16).map fun _=>B0 0).toArray t1):=hh2
 have hS:Step w w2.drew C1:=(hs1.trans hs2 fun _ _ _ h=>h).trans hsd fun _ _ _ h=>h
 have hh1d:w2.drew.heap[p2]? = some (.cells ((List.range 16).map fun _=>B0 0).toArray t0):=(hs2.trans hsd fun _ _ _ h=>h).heap (fun _ h=>h) hh1
 generalize w2.drew = wd at hsd hhd hS hh1d
 have hE3:EnvOk 9 [⟨p3,0,[],true⟩] [(0,.v (.pointer (some ⟨br,0,none⟩))),(2,.v (.pointer (some ⟨p2,0,none⟩))),(3,.p 0 0)] _:=((hE2.grow ⟨p3,0,[],true⟩).recast 3 (.v (.pointer (some ⟨p3,0,none⟩))) (.p 0 0) rfl rfl (Nat.le_of_ble_eq_true (n:=1) rfl)).pk
 refine C7 [0,1] [(0,.v (.pointer (some ⟨br,0,none⟩))),(2,.v (.pointer (some ⟨p2,0,none⟩))),(3,.p 0 0),(4,.v (.slice (some ⟨p3,0,none⟩) 16 16)),(5,.v (.pointer (some ⟨br,0,none⟩)))] 2 (A5 B8) (fun w' _ i o hi j v hj=>by
  cases i with
  | zero =>
   simp only [List.getElem?_cons_zero,Option.some.injEq] at hi
   subst hi
   simp at hj
  | succ i=>simp at hi) trivial hE3 fun a3 hE4=>?_
 have hst':=hst.move hS (fun _ h=>h)
 have hr':=hr.move hS A7 (fun b o h hb=>(⟨h,hb⟩:F b o ∧ b < w.heap.size))
 have hFd':∀ b o,(F b o ∧ b < w.heap.size) → ¬ H1 br b o:=fun b o h=>hFd b o h.1
 have hSp:=V5 X rest hst' hr' hFd'
 rw [show ((X.length:Nat):Int) = 16 by omega] at hSp
 refine C2 (i:=2) kz (D3 hE4 (f:=66) (vs:=[.pointer (some ⟨br,0,none⟩),.int .i64 16]) (d:=6) kz Tryz.call66 hSp ?_)
 rintro e_ w3 ⟨_,A1,n1,c1,rfl,hs,hr1,hst3,Ax,rfl,hox⟩
 refine ⟨_,rfl,fun a4 hE5=>⟨fun _=>trivial,?_⟩⟩
 have hh3:=hst3.heap (fun o e=>by have:=e.1; have:=hS.size; omega) hhd
 have hh13:=hst3.heap (fun o e=>by have:=e.1; omega) hh1d
 refine C2 (i:=3) kz (Mb hE5 (t:=22) (u:=22) (e:=5) (bytes:=1) (b:=p3) (s:=X) (d:=7) kz kz hh3 rfl hox fun a5 w4 hst4 hat hfz hE6=>⟨fun _=>trivial,E5 kz (A4 ?_) _⟩)
 obtain ⟨v,hE6⟩:=hE6
 have hh14:=hst4.heap (fun o e=>by have:=hz1; omega) hh13
 have hst04:Step w w4 (H1 br):=((hS.mono fun _ _ _ f=>f.elim).trans hst3 fun _ _ _ e=>e).trans hst4 fun b o hb e=>by have:=hs1.size; omega
 have h2l:p2 < w4.heap.size:=(Array.getElem?_eq_some_iff.1 hh14).1
 have hW4:WOk w (H1 br) w4 ([] ++ [⟨p2,0,(List.range 16).map fun _=>B0 0,true⟩] ++ [⟨p3,0,(List.range 16).map fun i=>B0 (X.getD i 0),true⟩]) []:=by
  have hb:WOk w (H1 br) w4 [] []:=⟨hst04,fun i o hi=>by simp at hi,fun i o hi=>by simp at hi,fun i o hi=>by simp at hi,fun i j o o' _ hi=>by simp at hi,fun i r hi=>by simp at hi,fun i r hi=>by simp at hi,fun i r hi=>by simp at hi,fun i j r r' _ hi=>by simp at hi⟩
  have h4:=hb.add ⟨p2,0,(List.range 16).map fun _=>B0 0,true⟩ h2l (fun j v hj=>by
   dsimp only at hj ⊢
   rw [Nat.zero_add]
   simp only [World.cell?,hh14]
   simpa using hj) (fun _ j hj=>⟨.inl (by dsimp only; omega),by simp [World.frozen?,hh14]⟩) (fun i o hi=>by simp at hi) (fun i r hi=>by simp at hi)
  refine h4.add ⟨p3,0,(List.range 16).map fun i=>B0 (X.getD i 0),true⟩ (World.lt_of_cell (hat 0 _ rfl)) (fun j v hj=>hat j v hj) (fun _ j hj=>⟨.inl (by dsimp only; have:=hs1.size; omega),hfz _⟩) (fun i o hi _=>.inl ?_) (fun i r hi=>by simp at hi)
  have hm:=List.mem_of_getElem? hi
  have:o = ⟨p2,0,(List.range 16).map fun _=>B0 0,true⟩:=by simpa using hm
  rw [this]
  dsimp only; omega
 have hE7:EnvOk 9 [⟨p2,0,(List.range 16).map fun _=>B0 0,true⟩,⟨p3,0,(List.range 16).map fun i=>B0 (X.getD i 0),true⟩] [(2,.p 0 0),(3,.p 1 0)] _ :=
  (((((hE6.pick (ks:=[2,3]) (env':=[(2,.v (.pointer (some ⟨p2,0,none⟩))),(3,.p 0 0)]) kz).recast 3 (.p 0 0) (.v (.pointer (some ⟨p3,0,none⟩))) rfl rfl trivial).pick (ks:=[2,3]) (env':=[(2,.v (.pointer (some ⟨p2,0,none⟩))),(3,.v (.pointer (some ⟨p3,0,none⟩)))]) kz).cutTb 0 kz).retable [⟨p2,0,(List.range 16).map fun _=>B0 0,true⟩,⟨p3,0,(List.range 16).map fun i=>B0 (X.getD i 0),true⟩] |>.recast 2 (.v (.pointer (some ⟨p2,0,none⟩))) (.p 0 0) rfl rfl (Nat.le_of_ble_eq_true (n:=1) rfl) |>.recast 3 (.v (.pointer (some ⟨p3,0,none⟩))) (.p 1 0) rfl rfl (Nat.le_of_ble_eq_true (n:=2) rfl)).pk
 refine C0 [0,1] kz ?_
 refine B1 [0] [1] [(2,.p 0 0),(8,.v (.agg ((List.range 16).map fun i=>B0 (X.getD i 0)).toArray))] hW4 hE7 fun a6 hE8=>?_
 refine B2 (D5 hW4 hE8 (oi:=0) (cs:=(List.range 16).map fun i=>B0 (X.getD i 0)) kz fun w5 hF5 hW5 hE9=>B5 (A4 (wp_ret ?_)))
 have hstz:Step w4 w5 (fun b o=>b = p2 ∨ b = p3):=hF5.step.mono fun b o _ ha=>by
  rcases ha with ⟨i,ob,hi,_,rfl,_⟩ | ⟨i,r,hi,_⟩
  ·have hm:=List.mem_of_getElem? hi
   simp only [List.nil_append,List.cons_append,List.mem_cons,List.not_mem_nil,or_false] at hm
   rcases hm with rfl | rfl
   ·exact .inl rfl
   exact .inr rfl
  simp at hi
 have hsz:=hs1.size
 refine C8 hE9 hW5.cells (v:=.agg ((List.range 16).map fun i=>B0 (X.getD i 0)).toArray) kz ⟨_,A1,n1,c1,rfl,(hs.move hst4 fun o e=>?_).move hstz (fun o e=>?_),(hr1.move hst4 (fun b o hg _ e=>?_) (fun b o hg _=>hg)).move hstz (fun b o hg _ e=>?_) (fun b o hg _=>.inl hg.1),hW5.step,rfl⟩
 ·omega
 ·rcases e with e | e <;> omega
 ·have:=hg.2; omega
 have:=hg.2; rcases e with e | e <;> omega
theorem No (x:Int) (rest:Bs):O3 Tryz.prog 51 (be 1 (IntKind.i8.wrap x)) rest (.int .i8 (IntKind.i8.wrap x)):=fun hs hr hF=>(MU _ rest hs hr hF).mono fun e w' hp=>hp.fp fun v w' h=>by rw [h,MA]
theorem T7 (x:Int) (rest:Bs):O3 Tryz.prog 50 (be 4 (IntKind.i32.wrap x)) rest (.int .i32 (IntKind.i32.wrap x)):=fun hs hr hF=>(Jt _ rest hs hr hF).mono fun e w' hp=>hp.fp fun v w' h=>by rw [h,GC]
theorem ES (x:Int) (rest:Bs):O3 Tryz.prog 63 (be 8 x) rest (.int .i64 (IntKind.i64.wrap x)):=fun hs hr hF=>(Nd x rest hs hr hF).mono fun e w' hp=>hp.q fun v w' h=>h
theorem GN (S:Bs) (hS:S.length ≤ 32767) (rest:Bs):O3 Tryz.prog 60 (be 2 S.length ++ S) rest (.string (bs S)):=fun hs hr hF=>(Nf S hS rest hs (hr.cast (by simp only [List.append_assoc])) hF).mono fun e w' hp=>hp.q fun v w' h=>h
theorem GO (S:Bs) (hS:S.length ≤ 32767) (rest:Bs):O3 Tryz.prog 59 (uv (S.length + 1) ++ S) rest (.string (bs S)):=fun hs hr hF=>(Ng S (by omega) rest hs (hr.cast (by simp only [List.append_assoc])) hF).mono fun e w' hp=>hp.q fun v w' h=>h
theorem Np (nul:Bool) (S:Bs) (hS:S.length ≤ 32767) (rest:Bs):EI Tryz.prog 70 (if nul = true then uv 0 else uv (S.length + 1) ++ S) rest (fun A:Option Addr=>.pointer A) (fun A=>J8 (Jn A S) (Jm (A.isNone = nul))):=fun hs hr hF=>(Nj nul S (by omega) rest hs hr hF).mono fun e w' hp=>hp.q fun v w' h=>by
 obtain ⟨A,h1,h2,h3⟩:=h
 exact ⟨A,h1,h2,h3⟩
theorem ET (n:Nat) (hn:n ≤ 32767) (rest:Bs) (hl:n ≤ rest.length):O3 Tryz.prog 53 (be 4 n) rest (.int .i32 ((n:Nat):Int)):=fun hs hr hF=>(Nk ((n:Nat):Int) (by omega) rest (by omega) hs hr hF).mono fun e w' hp=>hp.q fun v w' h=>h
theorem EU (n:Nat) (hn:n ≤ 32767) (rest:Bs) (hl:n ≤ rest.length):O3 Tryz.prog 52 (uv (n + 1)) rest (.int .i32 ((n:Nat):Int)):=fun hs hr hF=>(Nl (n + 1) (by omega) rest (by omega) hs hr hF).mono fun e w' hp=>hp.q fun v w' h=>h.trans (congrArg (Value.int .i32) (by omega))
theorem GP (S:Bs) (rest:Bs):O3 Tryz.prog 61 (C3 S) rest (.agg #[B0 ((C3 S).getD 0 0),B0 ((C3 S).getD 1 0),B0 ((C3 S).getD 2 0),B0 ((C3 S).getD 3 0),B0 ((C3 S).getD 4 0),B0 ((C3 S).getD 5 0),B0 ((C3 S).getD 6 0),B0 ((C3 S).getD 7 0),B0 ((C3 S).getD 8 0),B0 ((C3 S).getD 9 0),B0 ((C3 S).getD 10 0),B0 ((C3 S).getD 11 0),B0 ((C3 S).getD 12 0),B0 ((C3 S).getD 13 0),B0 ((C3 S).getD 14 0),B0 ((C3 S).getD 15 0)]):=fun hs hr hF=>(Nn (C3 S) (Di S) rest hs hr hF).mono fun e w' hp=>hp.q fun v w' h=>h
theorem EV (rest:Bs):O3 Tryz.prog 54 [] rest (.bool true):=fun hs hr hF=>(Nm rest hs hr hF).mono fun e w' hp=>hp.q fun v w' h=>h
theorem GQ (u:List (Int × Bs)) (hU:Q8 u) (hk:∀ x ∈ u,0 ≤ x.1 ∧ x.1 < 4294967296) (rest:Bs):EI Tryz.prog 67 (uv u.length ++ I1 u) rest (fun m:Option Nat=>.agg #[.map m]) (fun m=>GJ m u):=fun hs hr hF=>(Nc u rest hU.1 hk hU.2.1 hU.2.2 hs (hr.cast (by simp only [List.append_assoc])) hF).mono fun e w' hp=>hp.q fun v w' h=>h
theorem Nq (k:Int) (A:Option Addr) (m c:Nat) (w:World):Calls Tryz.prog 31 #[.agg #[.int .u32 k,.slice A m c]] w (FX w):=by
 refine enter (n:=7) Tryz.func31 rfl Tryz.ntmps31 kz fun a hE=>?_
 have hW:=WOk.start w C1
 refine C0 [0,1] kz ?_
 refine B2 (K9 hW hE (d:=1) (cs:=[.int .u32 k,.slice A m c]) kz fun b1 a2 w3 hb4 hz5 hF6 hW7 hE8=>?_)
 refine B1 [1] [] [(1,.p 0 0)] hW7 hE8 fun a9 ac=>?_
 refine B5 (A4 ?_)
 refine wp_seq (B7 [(6,.v (.bool (decide (((m:Nat):Int) > 2147483647))))] hW7 ac fun ai aa=>?_)
 refine D4 aa (b:=decide (((m:Nat):Int) > 2147483647)) kz (fun ab=>?_) (fun ab=>?_)
 ·
  have ag:=of_decide_eq_true ab
  refine B7 [(2,.v (.bool false))] hW7 aa fun aj ae=>?_
  refine wp_ret (D6 (C8 ae hW7.cells (v:=.bool false) kz ?_))
  exact ⟨_,rfl,hW7.step⟩
 have ah:=of_decide_eq_false ab
 refine wp_skip (A4 (B7 [(2,.v (.bool true))] hW7 aa fun ak af=>?_))
 refine wp_ret (C8 af hW7.cells (v:=.bool true) kz ?_)
 exact ⟨_,rfl,hW7.step⟩
theorem Nr (A:Option Addr) (c:Nat) (u:List (Int × Bs)) (w:World) (F:Nat → Nat → Prop) (hu:TagsR w F A c u):Calls Tryz.prog 13 #[.slice A u.length c] w (FX w):=by
 obtain ⟨xu,h1,h2⟩:=hu.ex
 have hsm:=h1.small
 refine enter (n:=18) Tryz.func13 rfl Tryz.ntmps13 kz fun a hE=>?_
 have hW:=WOk.start w C1
 refine B7 [(0,.v (.slice A u.length c))] hW hE fun a1 hE2=>?_
 refine wp_seq (B7 [(0,.v (.slice A u.length c)),(7,.v (.bool (decide (((u.length:Nat):Int) > 2147483647))))] hW hE2 fun a3 hE4=>?_)
 refine D4 hE4 (b:=decide (((u.length:Nat):Int) > 2147483647)) kz (fun hc5=>?_) (fun hc5=>?_)
 ·
  have hf6:=of_decide_eq_true hc5
  refine B7 [(2,.v (.bool false))] hW hE4 fun a7 hE8=>?_
  refine wp_ret (D6 (C8 hE8 hW.cells (v:=.bool false) kz ?_))
  exact ⟨_,rfl,hW.step⟩
 have hf9:=of_decide_eq_false hc5
 refine wp_skip (A4 (wp_seq ?_))
 let aa:Nat × SV:=(8,.v (.slice A u.length c))
 let ab:Nat × SV:=(9,.v (.int .i64 ((u.length:Nat):Int)))
 refine B7 [aa,ab,(10,.v (.int .i64 0))] hW hE4 fun bk au=>?_
 refine wp_block (wp_loop_ghost (fun n_ a_ w_=>∃ (k:Nat),n_ = u.length - k ∧ k ≤ u.length ∧ F9 hW 18 [] [] [aa,ab,(10,.v (.int .i64 ((k:Nat):Int)))] a_ w_) (u.length) ⟨0,by omega,by omega,au.pk,hW,Fr.refl _ _ _⟩ ?_)
 rintro bn bo bp ⟨k,aW,aX,av,af,aw⟩
 let ah:Nat × SV:=(10,.v (.int .i64 ((k:Nat):Int)))
 refine B7 [aa,ab,ah,(11,.v (.bool (decide (((k:Nat):Int) < ((u.length:Nat):Int)))))] af av fun bq aj=>?_
 refine wp_seq (D4 aj (b:=decide (((k:Nat):Int) < ((u.length:Nat):Int))) kz (fun ak=>?_) (fun ak=>?_))
 ·
  have aY:=of_decide_eq_true ak
  refine wp_skip (A4 (wp_seq (wp_block (C0 [0,1,2,3] kz ?_))))
  obtain ⟨aZ,ba,ax,bd,ai⟩:=Slots.get h1 (i:=k) (by omega)
  obtain ⟨⟨ay,az⟩,aA⟩:∃ x,u[k]? = some x:=⟨_,List.getElem?_eq_getElem (by omega)⟩
  obtain ⟨⟨aS,aT,ao,bf⟩,bt,bu⟩:=h2 k ay az aA
  rw [ao] at ai
  refine B2 (G6 aj (t:=24) (A:=A) (m:=u.length) (q:=((k:Nat):Int)) (d:=12) kz (e:=66) (size:=2) (bytes:=32) kz ax rfl (by omega) fun bw aB=>?_)
  let ac:Value:=.int .u32 ay
  let ae:Value:=.slice aS az.length aT
  let aU:Value:=.agg #[.int .u32 ay,.slice aS az.length aT]
  refine B2 (K3 aB (t:=66) (b:=aZ) (o:=ba + k * 2) (d:=13) kz (cs:=[ac,ae]) (v:=.agg #[ac,ae]) kz (AtF.move ai af.step A7 E8).at_ fun bx aC=>?_)
  refine B2 (H4 af aC (d:=4) (cs:=[.int .u32 0,.slice none 0 0]) kz fun bz bA bB bg bh aD aE aF=>?_)
  refine B2 (D5 aE aF (oi:=0) (cs:=[ac,ae]) kz fun bC aG al aH=>?_)
  refine B5 (A4 ?_)
  refine C0 [0,1,2] kz ?_
  refine B1 [0] [1,2] [aa,ab,ah,(14,.v (.agg #[ac,ae]))] al aH fun bD aI=>?_
  refine B2 (D3 aI (f:=31) (vs:=[.agg #[ac,ae]]) (d:=15) kz Tryz.call31 (Nq _ _ _ _ _) ?_)
  rintro e_ bE ⟨aV,rfl,ap⟩
  refine ⟨_,rfl,fun bF aJ=>?_⟩
  have ag:=al.next_nil ap
  have aK:=al.frN ap
  refine B1 [2] [] [aa,ab,ah,(16,.v (.bool (!aV)))] ag aJ fun bG am=>?_
  refine B5 (A4 ?_)
  refine D4 am (b:=!aV) kz (fun aL=>?_) (fun aL=>?_)
  ·
   refine B7 [(2,.v (.bool false))] ag am fun bH aM=>?_
   refine wp_ret (F3 (D6 (D6 (F3 (D6 (C8 aM ag.cells (v:=.bool false) kz ?_))))))
   exact ⟨_,rfl,ag.step⟩
  refine wp_skip (F2 (A4 (D7 [0,1] kz ?_)))
  refine B1 [0,1] [] [aa,ab,(10,.v (.int .i64 (IntKind.i64.wrap (((k:Nat):Int) + 1))))] ag am fun bI aN=>?_
  refine B5 (A4 ?_)
  obtain ⟨ar,aO,aP⟩:=ag.cutB aN 0 [] [aa,ab,(10,.v (.int .i64 (IntKind.i64.wrap (((k:Nat):Int) + 1))))]
  have aQ:IntKind.i64.wrap (((k:Nat):Int) + 1) = ((k + 1:Nat):Int):=G8 (by omega)
  rw [aQ] at ar
  exact ⟨u.length - (k + 1),by omega,k + 1,rfl,by omega,ar.pk,aO,((((aw.trans aD).trans aG).trans aK).trans aP)⟩
 have bj:=of_decide_eq_false ak
 refine wp_exit (E7 (E7 (G9 (A4 (B7 [(2,.v (.bool true))] af aj fun bJ aR=>?_)))))
 refine wp_ret (C8 aR af.cells (v:=.bool true) kz ?_)
 exact ⟨_,rfl,af.step⟩
theorem Ns (ct:List Value) (t:Tree) (w:World) (F:Nat → Nat → Prop) (ht:TreeR w F ct t):Calls Tryz.prog 4 #[.agg ct.toArray] w (FX w):=by
 obtain ⟨n1,s2,b3,l4,u5,A6,c7,A8,c9,ak,al,aC,rfl,rfl,aD,aE,aO,aF⟩:=ht.open_
 have az:=aD.small
 have aA:=aE.small
 refine enter (n:=15) Tryz.func4 rfl Tryz.ntmps4 kz fun a hE=>?_
 have hW:=WOk.start w C1
 refine C0 [0,1] kz ?_
 refine B2 (K9 hW hE (d:=1) (cs:=[.int .i64 n1,.slice A6 s2.length c7,.bool b3,.slice A8 l4.length c9,.slice ak u5.length al]) kz fun aP aQ aR aG aH aI aa am=>?_)
 refine B1 [1] [] [(1,.p 0 0)] aa am fun aS ao=>?_
 refine B5 (A4 ?_)
 refine wp_seq (B7 [(1,.p 0 0),(6,.v (.bool (decide (((s2.length:Nat):Int) > 2147483647))))] aa ao fun aT ae=>?_)
 let ac:Nat × SV:=(2,.v (.bool false))
 refine D4 ae (b:=decide (((s2.length:Nat):Int) > 2147483647)) kz (fun af=>?_) (fun af=>?_)
 ·
  have aJ:=of_decide_eq_true af
  refine B7 [ac] aa ae fun aU ap=>?_
  refine wp_ret (D6 (C8 ap aa.cells (v:=.bool false) kz ?_))
  exact ⟨_,rfl,aa.step⟩
 have aK:=of_decide_eq_false af
 refine wp_skip (A4 (wp_seq (B7 [(1,.p 0 0),(10,.v (.bool (decide (((l4.length:Nat):Int) > 2147483647))))] aa ae fun aV ag=>?_)))
 refine D4 ag (b:=decide (((l4.length:Nat):Int) > 2147483647)) kz (fun ah=>?_) (fun ah=>?_)
 ·
  have aL:=of_decide_eq_true ah
  refine B7 [ac] aa ag fun aW ar=>?_
  refine wp_ret (D6 (C8 ar aa.cells (v:=.bool false) kz ?_))
  exact ⟨_,rfl,aa.step⟩
 have aM:=of_decide_eq_false ah
 refine wp_skip (A4 (wp_seq (C0 [0,1,2,3] kz ?_)))
 refine B1 [0,1] [2,3] [(12,.v (.slice ak u5.length al))] aa ag fun aX au=>?_
 refine B2 (D3 au (f:=13) (vs:=[.slice ak u5.length al]) (d:=13) kz Tryz.call13 (Nr _ _ u5 _ _ (aF.move aa.step A7 aa.imm)) ?_)
 rintro e_ aY ⟨aB,rfl,aj⟩
 refine ⟨_,rfl,fun aZ av=>?_⟩
 have ab:=aa.next_nil aj
 have aN:=aa.frN aj
 refine B1 [3] [] [(14,.v (.bool (!aB)))] ab av fun ba ai=>?_
 refine B5 (A4 ?_)
 refine D4 ai (b:=!aB) kz (fun aw=>?_) (fun aw=>?_)
 ·
  refine B7 [ac] ab ai fun bd ax=>?_
  refine wp_ret (D6 (C8 ax ab.cells (v:=.bool false) kz ?_))
  exact ⟨_,rfl,ab.step⟩
 refine wp_skip (A4 (B7 [(2,.v (.bool true))] ab ai fun bf ay=>?_))
 refine wp_ret (C8 ay ab.cells (v:=.bool true) kz ?_)
 exact ⟨_,rfl,ab.step⟩
theorem Nt (x m:Int) (hx:0 ≤ x) (hx':x < 256) (hm:0 ≤ m) (hm':m < 32768) (w:World):Calls Tryz.prog 7 #[.int .u8 x,.int .i64 m] w (L5 w (.int .i64 (Int.tmod x (m + 1)))):=by
 refine enter (n:=10) Tryz.func7 rfl Tryz.ntmps7 kz fun a hE=>?_
 have hW:=WOk.start w C1
 refine B7 [(0,.v (.int .u8 x)),(1,.v (.int .i64 m))] hW hE fun a1 hE2=>?_
 refine C0 [0,1,2,3,4,5] kz ?_
 refine B1 [0,1,2,3] [4,5] [(6,.v (.int .i64 (IntKind.i64.wrap x))),(8,.v (.int .i64 (IntKind.i64.wrap (m + 1))))] hW hE2 fun a3 hE4=>?_
 refine B2 (KN hE4 (k:=.i64) (p:=(IntKind.i64.wrap x)) (q:=(IntKind.i64.wrap (m + 1))) (d:=9) kz (by simp only [IntKind.wrap_i64]; omega) fun a5 hE6=>?_)
 refine B1 [5] [] [(4,.v (.int .i64 (Int.tmod (IntKind.i64.wrap x) (IntKind.i64.wrap (m + 1)))))] hW hE6 fun a7 hE8=>?_
 refine B5 (A4 ?_)
 refine wp_ret (C8 hE8 hW.cells (v:=.int .i64 (Int.tmod (IntKind.i64.wrap x) (IntKind.i64.wrap (m + 1)))) kz ?_)
 exact ⟨by rw [wrap_i64 (by omega) (by omega),wrap_i64 (by omega) (by omega)],hW.step⟩
def sx (k i:Nat):Nat:=if i = 0 then k else if i = k then 0 else i
theorem EW (k i:Nat):sx k (sx k i) = i:=by
 unfold sx
 by_cases h:i = 0
 ·subst h
  rw [if_pos rfl]
  by_cases h2:k = 0
  ·rw [if_pos h2]; exact h2
  rw [if_neg h2,if_pos rfl]
 rw [if_neg h]
 by_cases h2:i = k
 ·rw [if_pos h2,if_pos rfl]; exact h2.symm
 rw [if_neg h2,if_neg h,if_neg h2]
theorem Nu {k i j:Nat} (h:sx k i = sx k j):i = j:=by rw [← EW k i,h,EW]
theorem Bm {α:Type} {x y:α} {l:List α} (i:Nat):(y :: (l ++ [x]))[i]? = (x :: (l ++ [y]))[sx (l.length + 1) i]?:=by
 unfold sx
 cases i with
 | zero=>simp
 | succ i =>
  rw [if_neg (by omega)]
  by_cases h:i = l.length
  ·subst h; simp
  rw [if_neg (by omega)]
  simp only [List.getElem?_cons_succ]
  by_cases h2:i < l.length
  ·rw [List.getElem?_append_left h2,List.getElem?_append_left h2]
  rw [List.getElem?_eq_none (by simp; omega),List.getElem?_eq_none (by simp; omega)]
theorem WOk.swapK {w0 w:World} {M:Nat → Nat → Prop} {o1 o2:Ob} {tb:Tb} (h:WOk w0 M w (o1 :: (tb ++ [o2])) []):WOk w0 M w (o2 :: (tb ++ [o1])) [] :=
 ⟨h.step,fun i o hi=>h.cells _ o (by rw [← Bm]; exact hi),fun i o hi=>h.live _ o (by rw [← Bm]; exact hi),fun i o hi=>h.rw_ _ o (by rw [← Bm]; exact hi),fun i j o o' hij hi hj hw=>h.apart (sx (tb.length + 1) i) (sx (tb.length + 1) j) o o' (fun e=>hij (Nu e)) (by rw [← Bm]; exact hi) (by rw [← Bm]; exact hj) hw,h.own,h.ownM,fun i r hi=>by simp at hi,h.rr⟩
theorem Jz {o1 o2:Ob} {tb:Tb} {b o:Nat} (h:H3 (o2 :: (tb ++ [o1])) [] b o):H3 (o1 :: (tb ++ [o2])) [] b o:=by
 rcases h with ⟨i,ob,hi,h1⟩ | ⟨i,r,hi,_⟩
 ·exact .inl ⟨_,ob,by rw [← Bm]; exact hi,h1⟩
 simp at hi
def W9 (k:Nat):C6 → C6
 | []=>[]
 | (t,.v x) :: r=>(t,.v x) :: W9 k r
 | (t,.p i j) :: r=>(t,.p (match Nat.beq i 0 with | true=>k | false=>match Nat.beq i k with | true=>0 | false=>i) j) :: W9 k r
theorem Nv (k i:Nat):(match Nat.beq i 0 with | true=>k | false=>match Nat.beq i k with | true=>0 | false=>i) = sx k i:=by
 unfold sx
 by_cases h:i = 0
 ·subst h; rfl
 rw [if_neg h,show Nat.beq i 0 = false from by cases hq:Nat.beq i 0 with | false=>rfl | true=>exact absurd (Nat.eq_of_beq_eq_true hq) h]
 by_cases h2:i = k
 ·rw [if_pos h2,show Nat.beq i k = true from by subst h2; exact Nat.beq_refl i]
 rw [if_neg h2,show Nat.beq i k = false from by cases hq:Nat.beq i k with | false=>rfl | true=>exact absurd (Nat.eq_of_beq_eq_true hq) h2]
theorem JA {n:Nat} {o1 o2:Ob} {tb:Tb} {env:C6} {a:Act} (h:EnvOk n (o1 :: (tb ++ [o2])) env a):EnvOk n (o2 :: (tb ++ [o1])) (W9 (tb.length + 1) env) a:=by
 have ob:∀ i,C9 (o2 :: (tb ++ [o1])) (sx (tb.length + 1) i) = C9 (o1 :: (tb ++ [o2])) i:=fun i=>by
  unfold C9
  rw [List.getD_eq_getElem?_getD,List.getD_eq_getElem?_getD,Bm,EW]
 have key:∀ (env:C6) (k:Nat) (x:SV),lk (W9 (tb.length + 1) env) k = some x → ∃ y,lk env k = some y ∧ (y.ok (o1 :: (tb ++ [o2])) → x.val (o2 :: (tb ++ [o1])) = y.val (o1 :: (tb ++ [o2])) ∧ x.ok (o2 :: (tb ++ [o1]))):=by
  intro env
  induction env with
  | nil=>intro k x hx; cases hx
  | cons e r ih =>
   obtain ⟨k',sv⟩:=e
   intro k x hx
   cases sv with
   | v y =>
    simp only [W9,lk] at hx ⊢
    split at hx
    ·rename_i hb
     simp only [Option.some.injEq] at hx
     subst hx
     exact ⟨_,rfl,fun _=>⟨rfl,trivial⟩⟩
    exact ih k x hx
   | p i j =>
    rw [W9,Nv] at hx
    simp only [lk] at hx ⊢
    split at hx
    ·rename_i hb
     simp only [Option.some.injEq] at hx
     subst hx
     refine ⟨_,rfl,fun hok=>⟨?_,?_⟩⟩
     ·simp only [SV.val,ob]
     have hok':i < (o1 :: (tb ++ [o2])).length:=hok
     have g:(o2 :: (tb ++ [o1]))[sx (tb.length + 1) i]? = (o1 :: (tb ++ [o2]))[i]?:=by rw [Bm,EW]
     rw [List.getElem?_eq_getElem hok'] at g
     exact (List.getElem?_eq_some_iff.1 g).1
    exact ih k x hx
 refine ⟨h.defers,h.size,fun k x hx=>?_⟩
 obtain ⟨y,hy,hv⟩:=key env k x hx
 obtain ⟨h1,h2⟩:=h.at_ k y hy
 obtain ⟨h3,h4⟩:=hv h2
 exact ⟨by rw [h3]; exact h1,h4⟩
def JB (A:Option Addr) (m c:Nat) (s:Bs):G5:=fun w F=>RdS w F A m c s
theorem MvF.rd (A:Option Addr) (m c:Nat) (s:Bs):MvF (JB A m c s):=⟨fun hs hM hF g=>RdS.move g hs hM hF⟩
section
variable {Pr:Program} {ops:Array Oper} {Q:Exit → Act → World → Prop} {w0:World} {M F:Nat → Nat → Prop} {n br:Nat} {tb:Tb} {env:C6} {P:G5} {s:Bs} {a:Act} {w:World}
theorem RS.nest {bi ci:Nat} {Ai:Option Addr} {si:Bs} (h:RS w0 M F n br (tb ++ [rdo bi Ai si.length ci]) env P s a w) (hs:∀ w F,P w F → Octs w F Ai ci si):∃ A m c,RS w0 M F n bi (tb ++ [rdo br A m c]) (W9 (tb.length + 1) env) (J8 P (JB A m c s)) si a w:=by
 obtain ⟨A,m,c,hW,hr,hE,hP⟩:=h.open_
 have mvI:∀ b o,E9 F w0 w (rdo br A m c :: (tb ++ [rdo bi Ai si.length ci])) [] b o → b < w.heap.size → E9 F w0 w (rdo bi Ai si.length ci :: (tb ++ [rdo br A m c])) [] b o:=fun b o g _=>⟨g.1,g.2.1,fun ha=>g.2.2 (Jz ha)⟩
 exact ⟨A,m,c,RS.mk' hW.swapK ⟨rfl,(hs _ _ hP).move (Step.refl w C1) A7 mvI⟩ (JA hE) (h.mv.and (MvF.rd A m c s)) ⟨h.mv.mono mvI hP,hr.move (Step.refl w C1) A7 mvI⟩⟩
theorem RS.unnest {bi m c:Nat} {A:Option Addr} {so:Bs} (h:RS w0 M F n bi (tb ++ [rdo br A m c]) env P s a w) (hs:∀ w F,P w F → RdS w F A m c so) (hb:w0.heap.size ≤ bi) (hl:Q7 (tb.length + 1) (W9 (tb.length + 1) env) = true):RS w0 M F n br tb (W9 (tb.length + 1) env) P so a w:=by
 obtain ⟨Ai,mi,ci,hW,hr,hE,hP⟩:=h.open_
 have mvI:∀ b o,E9 F w0 w (rdo bi Ai mi ci :: (tb ++ [rdo br A m c])) [] b o → b < w.heap.size → E9 F w0 w (rdo br A m c :: (tb ++ [rdo bi Ai mi ci])) [] b o:=fun b o g _=>⟨g.1,g.2.1,fun ha=>g.2.2 (Jz ha)⟩
 have h2:RS w0 M F n br (tb ++ [rdo bi Ai mi ci]) (W9 (tb.length + 1) env) P so a w:=RS.mk' hW.swapK ((hs _ _ hP).move (Step.refl w C1) A7 mvI) (JA hE) h.mv (h.mv.mono mvI hP)
 exact h2.dropT hb hl
theorem EX {i d:Nat} {f:FuncId} {X rest:Bs} {q:Int} {N:Act → World → Prop} (h:RS w0 M F n br tb env P (X ++ rest) a w) (hq:q = ((X.length:Nat):Int))
  (hc:∀ {br:Nat} {A:Option Addr} {m c:Nat} {w:World} {F:Nat → Nat → Prop},Str w br [.slice A m c,.bool false] → RdS w F A m c (X ++ rest) → (∀ b o,F b o → ¬ H1 br b o) → Calls Pr f #[.pointer (some ⟨br,0,none⟩),.int .i64 ((X.length:Nat):Int)] w (RdPost w br F rest fun v w'=>∃ A2,v = .slice A2 X.length X.length ∧ Octs w' F A2 X.length X))
  (hf:∀ args w,(callFunc f args).run Pr w = .ok (.enter f args) w) (K:∀ A2 P' a' w',(∀ w F,P' w F → P w F ∧ Octs w F A2 X.length X) → RS w0 M F n br tb ((d,.v (.slice A2 X.length X.length)) :: env) P' rest a' w' → N a' w')
  (he:∀ A m c,O7 (rdo br A m c :: tb) env ops n i = some (f,[.pointer (some ⟨br,0,none⟩),.int .i64 q],d):=by intro _ _ _; kernel_rfl):wpOp Pr ops Q i N a w:=by
 subst hq
 obtain ⟨A,m,c,hW,hr,hE,hP⟩:=h.open_
 refine D3 hE (he A m c) hf (hc (Str.of hW 0 rfl) hr (R2 0 rfl)) ?_
 rintro e_ w1 ⟨_,A1,n1,c1,rfl,hs,hr1,hst,A2,rfl,hx⟩
 refine ⟨_,rfl,fun a1 hE1=>?_⟩
 obtain ⟨hW2,hF2,hL⟩:=hW.wrote 0 (rdo br A1 n1 c1 :: tb) rfl hst hs
 exact K A2 (J8 P (Jo A2 X.length X)) a1 w1 (fun _ _ g=>g) (RS.mk' hW2 (hr1.move (Step.refl _ C1) A7 (fun b o g hb=>hL b o (.inl g) hb)) hE1.rdo (h.mv.and (MvF.octs _ _ _)) ⟨h.mv.move hF2.step immM hF2.to' hP,Octs.move hx (Step.refl _ C1) A7 (fun b o g hb=>hL b o (.inl g) hb)⟩)
end
theorem WOk.wrote1 {w0 w w':World} {M N:Nat → Nat → Prop} {tb:Tb} (hW:WOk w0 M w tb []) (k:Nat) {ob:Ob} {cs':List Value} (hi:tb[k]? = some ob) (hrw:ob.rw = true) (hl:cs'.length = ob.cells.length) (hst:Step w w' N) (hN:∀ b o,b < w0.heap.size → N b o → M b o)
  (hc:∀ j v,cs'[j]? = some v → w'.cell? ⟨ob.blk,ob.off + j,none⟩ = some v) (hz:∀ j,j < cs'.length → w'.frozen? ⟨ob.blk,ob.off + j,none⟩ = false)
  (far:∀ (j:Nat) (o:Ob),j ≠ k → tb[j]? = some o → ∀ q,q < o.cells.length → ¬ N o.blk (o.off + q)):WOk w0 M w' (tb.set k { ob with cells:=cs' }) []:=by
 have key:∀ (j:Nat) (o:Ob),(tb.set k { ob with cells:=cs' })[j]? = some o → (j = k ∧ o = { ob with cells:=cs' }) ∨ (j ≠ k ∧ tb[j]? = some o):=fun j o hj=>by
  rcases T9 hj with ⟨h1,h2,_⟩ | ⟨h1,h2⟩
  ·exact .inl ⟨h1,h2⟩
  exact .inr ⟨h1,h2⟩
 refine ⟨hW.step.trans hst hN,?_,?_,?_,?_,fun i r hi=>by simp at hi,fun i r hi=>by simp at hi,fun i r hi=>by simp at hi,fun i j r r' _ hi=>by simp at hi⟩
 ·intro j o hj q v hv
  rcases key j o hj with ⟨rfl,rfl⟩ | ⟨hne,hj⟩
  ·exact hc q v hv
  exact hst.cell (far j o hne hj q (List.getElem?_eq_some_iff.1 hv).1) (hW.cells j o hj q v hv)
 ·intro j o hj
  rcases key j o hj with ⟨rfl,rfl⟩ | ⟨_,hj⟩
  ·exact Nat.lt_of_lt_of_le (show ob.blk < _ from hW.live j ob hi) hst.size
  exact Nat.lt_of_lt_of_le (hW.live j o hj) hst.size
 ·intro j o hj hr q hq
  rcases key j o hj with ⟨rfl,rfl⟩ | ⟨hne,hj⟩
  ·exact ⟨(hW.rw_ j _ hi hrw q (by simpa [hl] using hq)).1,hz q hq⟩
  obtain ⟨h1,h2⟩:=hW.rw_ j o hj hr q hq
  exact ⟨h1,hst.frozen (far j o hne hj q hq) (hW.cells j o hj q _ (List.getElem?_eq_getElem hq)) h2⟩
 intro j q o o' hjk hj hk hw
 rcases key j o hj with ⟨rfl,rfl⟩ | ⟨hne,hj'⟩
 ·rcases key q o' hk with ⟨rfl,rfl⟩ | ⟨hne',hk'⟩
  ·exact absurd rfl hjk
  have:=hW.apart j q _ o' hjk hi hk' (.inl hrw)
  simpa [hl] using this
 rcases key q o' hk with ⟨rfl,rfl⟩ | ⟨hne',hk'⟩
 ·have:=hW.apart j q o _ hjk hj' hi (.inr hrw)
  simpa [hl] using this
 exact hW.apart j q o o' hjk hj' hk' hw
structure TU (w0 w1:World) (M F:Nat → Nat → Prop) (n br:Nat) (tb0 tb:Tb) (env:C6) (P:G5) (s:Bs) (m:Option Nat) (u:List (Int × Bs)) (a:Act) (w:World):Prop where
 mv:MvF P
 big:w1.heap.size ≤ w.heap.size
 base:w0.heap.size ≤ w1.heap.size
 old:br < w1.heap.size
 ex:∃ A q c,WOk w0 M w (rdo br A q c :: tb) [] ∧ RdS w (E9 F w0 w1 (rdo br none 0 0 :: tb0) []) A q c s
 act:∀ b o,H3 (rdo br none 0 0 :: tb) [] b o → H3 (rdo br none 0 0 :: tb0) [] b o
 env_:EnvOk n (rdo br none 0 0 :: tb) env a
 fact:P w (E9 F w0 w1 (rdo br none 0 0 :: tb0) [])
 own:OwnM w (E9 F w0 w1 (rdo br none 0 0 :: tb0) []) m u
 new:∀ r,m = some r → w1.heap.size ≤ r
section
variable {Pr:Program} {ops:Array Oper} {Q:Exit → Act → World → Prop} {w0 w1:World} {M F:Nat → Nat → Prop} {n br:Nat} {tb0 tb:Tb} {env:C6} {P:G5} {s:Bs} {m:Option Nat} {u:List (Int × Bs)} {a:Act} {w:World}
theorem TU.start (h:RS w0 M F n br tb env P s a w):TU w0 w M F n br tb tb env P s none [] a w:=by
 obtain ⟨A,m,c,hW,hr⟩:=h.ex
 exact ⟨h.mv,Nat.le_refl _,hW.step.size,hW.live 0 _ rfl,⟨A,m,c,hW,hr⟩,fun _ _ g=>g,h.env_,h.fact,OwnM.nil _ _,fun _ h=>by cases h⟩
theorem TU.cast {t:Bs} (h:TU w0 w1 M F n br tb0 tb env P s m u a w) (e:s = t):TU w0 w1 M F n br tb0 tb env P t m u a w:=e ▸ h
theorem TU.finish (h:TU w0 w1 M F n br tb0 tb env P s m u a w) (hs:Q0 u) (hr:∀ x ∈ u,0 ≤ x.1 ∧ x.1 < 4294967296):RS w0 M F n br tb env (J8 P (GJ m u)) s a w:=by
 have mvI:∀ b o,E9 F w0 w1 (rdo br none 0 0 :: tb0) [] b o → E9 F w0 w (rdo br none 0 0 :: tb) [] b o:=fun b o g=>⟨g.1,Nat.lt_of_lt_of_le g.2.1 h.big,fun ha=>g.2.2 (h.act b o ha)⟩
 obtain ⟨A,q,c,hW,hrd⟩:=h.ex
 refine ⟨h.mv.and (MvF.tags _ _),⟨A,q,c,hW,hrd.move (Step.refl w C1) A7 fun b o g _=>mvI b o g⟩,h.env_,h.mv.mono (fun b o g _=>mvI b o g) h.fact,h.own.map mvI (fun r o e=>?_) hs hr⟩
 obtain ⟨es,clk,h1,_⟩:=h.own.some_ r e
 refine ⟨.inr (Nat.le_trans h.base (h.new r e)),(Array.getElem?_eq_some_iff.1 h1).1,fun ha=>?_⟩
 rcases ha with ⟨i,ob,hi,hrw,rfl,h2,h3⟩ | ⟨i,r,hi,_⟩
 ·have hc:∃ ob',(rdo br A q c :: tb)[i]? = some ob' ∧ ob'.blk = ob.blk ∧ ob'.off = ob.off ∧ ob'.cells.length = ob.cells.length:=by
   cases i with
   | zero =>
    simp only [List.getElem?_cons_zero,Option.some.injEq] at hi
    subst hi
    exact ⟨_,rfl,rfl,rfl,rfl⟩
   | succ i=>exact ⟨ob,hi,rfl,rfl,rfl⟩
  obtain ⟨ob',g1,g2,g3,g4⟩:=hc
  have g5:o - ob.off < ob'.cells.length:=by omega
  have g6:=hW.cells i ob' g1 (o - ob.off) _ (List.getElem?_eq_getElem g5)
  rw [g2] at g6
  exact Cp g6 h1 rfl
 simp at hi
theorem GR {L:List Nat} (idxs rest:List Nat) (env':C6) (h:TU w0 w1 M F n br tb0 tb env P s m u a w) (k:∀ a',TU w0 w1 M F n br tb0 tb env' P s m u a' w → wpOps Pr ops Q rest a' w) (e:∀ A m c,N0 Pr ops n (rdo br A m c :: tb) idxs (L1 env') env = some env':=by intro _ _ _; kernel_rfl) (hl:L = idxs ++ rest:=by rfl):wpOps Pr ops Q L a w:=by
 obtain ⟨A,q,c,hW,hr⟩:=h.ex
 exact N1 idxs rest (L1 env') hW h.env_.rdo (e A q c) hl fun a' hE'=>k a' { h with env_:=hE'.rdo }
theorem X0 {id:Nat} (env':C6) (h:TU w0 w1 M F n br tb0 tb env P s m u a w) (k:∀ a',TU w0 w1 M F n br tb0 tb env' P s m u a' w → Q .normal a' w) (e:∀ A m c,N0 Pr ops n (rdo br A m c :: tb) (List.range ops.size) (L1 env') env = some env':=by intro _ _ _; kernel_rfl):(Code.region id ops false).wp Pr Q a w :=
 D7 (List.range ops.size) rfl (GR (List.range ops.size) [] env' h (fun a' h'=>B5 (k a' h')) e (List.append_nil _).symm)
theorem JC {i d:Nat} {f:FuncId} {X rest:Bs} {vs vs':List Value} {Qv:Value → World → (Nat → Nat → Prop) → Prop} {N:Act → World → Prop} (h:TU w0 w1 M F n br tb0 tb env P (X ++ rest) m u a w)
  (hc:∀ {br:Nat} {A:Option Addr} {m c:Nat} {w:World} {F:Nat → Nat → Prop},Str w br [.slice A m c,.bool false] → RdS w F A m c (X ++ rest) → (∀ b o,F b o → ¬ H1 br b o) → Calls Pr f (.pointer (some ⟨br,0,none⟩) :: vs).toArray w (RdPost w br F rest fun v w'=>Qv v w' F)) (hv:vs' = vs)
  (hf:∀ args w,(callFunc f args).run Pr w = .ok (.enter f args) w) (K:∀ v a' w',Qv v w' (E9 F w0 w1 (rdo br none 0 0 :: tb0) []) → TU w0 w1 M F n br tb0 tb ((d,.v v) :: env) P rest m u a' w' → N a' w')
  (he:∀ A m c,O7 (rdo br A m c :: tb) env ops n i = some (f,.pointer (some ⟨br,0,none⟩) :: vs',d):=by intro _ _ _; kernel_rfl):wpOp Pr ops Q i N a w:=by
 subst hv
 obtain ⟨A,q,c,hW,hr⟩:=h.ex
 have hG:∀ b o,E9 F w0 w1 (rdo br none 0 0 :: tb0) [] b o → ¬ H1 br b o:=R2 0 rfl
 refine D3 h.env_.rdo (he A q c) hf (hc (Str.of hW 0 rfl) hr hG) ?_
 rintro e_ w2 ⟨v,A1,n1,c1,rfl,hs,hr1,hst,hx⟩
 refine ⟨_,rfl,fun a1 hE1=>?_⟩
 obtain ⟨hW2,hF2,hL⟩:=hW.wrote 0 (rdo br A1 n1 c1 :: tb) rfl hst hs
 refine K v a1 w2 hx ⟨h.mv,Nat.le_trans h.big hst.size,h.base,h.old,⟨A1,n1,c1,hW2,hr1⟩,h.act,hE1.rdo,h.mv.move hst (fun b o g _=>hG b o g) E8 h.fact,h.own.move hst (fun b o g _=>hG b o g) E8 (fun r o e he=>?_),h.new⟩
 have h1:=h.new r e
 have h2:=h.old
 have h3:=he.1
 omega
theorem PJ {i d j k off c:Nat} {key:Int} {x:Bs} {A:Option Addr} {ob:Ob} {N:Act → World → Prop} (h:TU w0 w1 M F n br tb0 tb env P s m (u.take j) a w) (hsort:Q0 u) (hj:u[j]? = some (key,x)) (hx:Octs w (E9 F w0 w1 (rdo br none 0 0 :: tb0) []) A c x) (hk:0 ≤ key ∧ key < 4294967296)
  (K:∀ r a' w',TU w0 w1 M F n br tb0 (tb.set k { ob with cells:=ob.cells.set off (.map (some r)) }) ((d,.v (.tuple #[])) :: env) P s (some r) (u.take (j + 1)) a' w' → N a' w')
  (hp:∀ args w,(callFunc 65 args).run Tryz.prog w = .ok (.enter 65 args) w)
  (tk:tb[k]? = some ob) (hrw:ob.rw = true) (hoff:ob.cells[off]? = some (.map m))
  (he:∀ A' m' c',O7 (rdo br A' m' c' :: tb) env ops n i = some (65,[.pointer (some ⟨ob.blk,ob.off + off,none⟩),.int .u32 key,.slice A x.length c],d)):wpOp Tryz.prog ops Q i N a w:=by
 obtain ⟨A',q,c',hW,hr⟩:=h.ex
 have tk':(rdo br A' q c' :: tb)[k + 1]? = some ob:=tk
 have hlt:off < ob.cells.length:=(List.getElem?_eq_some_iff.1 hoff).1
 have hcell:w.cell? ⟨ob.blk,ob.off + off,none⟩ = some (.map m):=hW.cells (k + 1) ob tk' off _ hoff
 obtain ⟨hM,hfz⟩:=hW.rw_ (k + 1) ob tk' hrw off hlt
 have hact:H3 (rdo br none 0 0 :: tb0) [] ob.blk (ob.off + off):=h.act _ _ (.inl ⟨k + 1,ob,tk,hrw,rfl,by omega,by omega⟩)
 have hbig:=h.big
 have hbase:=h.base
 have hmo:∀ {b o:Nat} {v:Value},w.cell? ⟨b,o,none⟩ = some v → m ≠ some b:=fun hb e=>by
  obtain ⟨es,clk,h1,_⟩:=h.own.some_ _ e
  exact Cp hb h1 rfl
 have hG:∀ b' o',E9 F w0 w1 (rdo br none 0 0 :: tb0) [] b' o' → ¬ ((b' = ob.blk ∧ o' = ob.off + off) ∨ m = some b'):=fun b' o' hg e=>by
  rcases e with ⟨rfl,rfl⟩ | e
  ·exact hg.2.2 hact
  have:=h.new b' e; have:=hg.2.1; omega
 refine D3 h.env_.rdo (he A' q c') hp (FQ hcell hfz h.own hx hk (fun b' o' hg=>⟨fun e=>hG b' o' hg (.inl e),fun e=>hG b' o' hg (.inr e)⟩) (fun b' o' hg=>Nat.lt_of_lt_of_le hg.2.1 hbig)) ?_
 rintro e_ w2 ⟨rfl,r,g1,g2,g3,g4,g5⟩
 rw [FR hsort hj] at g3
 refine ⟨_,rfl,fun a1 hE1=>K r a1 w2 ?_⟩
 have hW2:=hW.wrote1 (k + 1) (cs':=ob.cells.set off (.map (some r))) tk' hrw (by simp) g5 (fun b o hb hN=>?_) (fun j' v hv=>?_) (fun j' hj'=>?_) (fun j' o hne hjo q' hq' hN=>?_)
 ·refine ⟨h.mv,Nat.le_trans hbig g5.size,hbase,h.old,⟨A',q,c',hW2,hr.move g5 (fun b o g _=>hG b o g) E8⟩,fun b o ha=>h.act b o ?_,?_,h.mv.move g5 (fun b o g _=>hG b o g) E8 h.fact,g3,fun r' hr'=>?_⟩
  ·rcases ha with ⟨i',ob',hi,h1,h2,h3,h4⟩ | ha
   ·cases i' with
    | zero=>exact .inl ⟨0,ob',hi,h1,h2,h3,h4⟩
    | succ i' =>
     rw [List.getElem?_cons_succ] at hi
     rcases T9 hi with ⟨e1,e2,_⟩ | ⟨_,e2⟩
     ·subst e2
      exact .inl ⟨k + 1,ob,tk,hrw,h2,h3,by simpa using h4⟩
     exact .inl ⟨i' + 1,ob',e2,h1,h2,h3,h4⟩
   exact .inr ha
  ·refine hE1.table fun i' hi'=>?_
   cases i' with
   | zero=>exact ⟨by simp,rfl,rfl⟩
   | succ i' =>
    have hi2:i' < tb.length:=by simpa using hi'
    refine ⟨by simpa using hi2,?_⟩
    by_cases e:i' = k
    ·subst e
     have g6:C9 (rdo br A' q c' :: tb) (i' + 1) = ob:=by simp [C9,tk]
     have g7:C9 (rdo br none 0 0 :: tb.set i' { ob with cells:=ob.cells.set off (.map (some r)) }) (i' + 1) = { ob with cells:=ob.cells.set off (.map (some r)) }:=by simp [C9,hi2]
     rw [g6,g7]
     exact ⟨rfl,rfl⟩
    have g7:C9 (rdo br none 0 0 :: tb.set k { ob with cells:=ob.cells.set off (.map (some r)) }) (i' + 1) = C9 (rdo br A' q c' :: tb) (i' + 1):=by
     simp [C9,List.getElem?_set,Ne.symm e]
    rw [g7]
    exact ⟨rfl,rfl⟩
  obtain rfl:=Option.some.inj hr'
  rcases g4 with g4 | g4
  ·exact h.new _ g4
  exact Nat.le_trans hbig g4
 ·rcases hN with ⟨rfl,rfl⟩ | e
  ·rcases hM with g | g
   ·omega
   exact g
  have:=h.new b e; omega
 ·rw [List.getElem?_set] at hv
  by_cases e:off = j'
  ·subst e
   rw [if_pos rfl,if_pos hlt] at hv
   rw [← Option.some.inj hv]; exact g1
  rw [if_neg e] at hv
  have g6:=hW.cells (k + 1) ob tk' j' v hv
  refine g5.cell (fun hN=>?_) g6
  rcases hN with ⟨_,e1⟩ | e1
  ·omega
  exact hmo g6 e1
 ·by_cases e:off = j'
  ·subst e; exact g2
  rw [List.length_set] at hj'
  have g6:=hW.cells (k + 1) ob tk' j' _ (List.getElem?_eq_getElem hj')
  refine g5.frozen (fun hN=>?_) g6 (hW.rw_ (k + 1) ob tk' hrw j' hj').2
  rcases hN with ⟨_,e1⟩ | e1
  ·omega
  exact hmo g6 e1
 have g6:=hW.cells j' o hjo q' _ (List.getElem?_eq_getElem hq')
 rcases hN with ⟨e1,e2⟩ | e1
 ·rcases hW.apart j' (k + 1) o ob hne hjo tk' (.inr hrw) with g | g | g
  ·exact g e1
  ·omega
  omega
 exact hmo g6 e1
theorem JD {i d j k off c:Nat} {env1:C6} {a1:Act} {key:Int} {x:Bs} {A:Option Addr} {ob:Ob} {N:Act → World → Prop} (h:TU w0 w1 M F n br tb0 tb env1 P s m (u.take j) a1 w) (hE:EnvOk n [] env a) (hsort:Q0 u) (hj:u[j]? = some (key,x)) (hx:Octs w (E9 F w0 w1 (rdo br none 0 0 :: tb0) []) A c x) (hk:0 ≤ key ∧ key < 4294967296)
  (K:∀ r a' w',TU w0 w1 M F n br tb0 (tb.set k { ob with cells:=ob.cells.set off (.map (some r)) }) [] P s (some r) (u.take (j + 1)) a' w' → EnvOk n [] ((d,.v (.tuple #[])) :: env) a' → N a' w')
  (hp:∀ args w,(callFunc 65 args).run Tryz.prog w = .ok (.enter 65 args) w)
  (tk:tb[k]? = some ob) (hrw:ob.rw = true) (hoff:ob.cells[off]? = some (.map m))
  (he:O7 [] env ops n i = some (65,[.pointer (some ⟨ob.blk,ob.off + off,none⟩),.int .u32 key,.slice A x.length c],d)):wpOp Tryz.prog ops Q i N a w:=by
 obtain ⟨A',q,c',hW,hr⟩:=h.ex
 have tk':(rdo br A' q c' :: tb)[k + 1]? = some ob:=tk
 have hlt:off < ob.cells.length:=(List.getElem?_eq_some_iff.1 hoff).1
 have hcell:w.cell? ⟨ob.blk,ob.off + off,none⟩ = some (.map m):=hW.cells (k + 1) ob tk' off _ hoff
 obtain ⟨hM,hfz⟩:=hW.rw_ (k + 1) ob tk' hrw off hlt
 have hact:H3 (rdo br none 0 0 :: tb0) [] ob.blk (ob.off + off):=h.act _ _ (.inl ⟨k + 1,ob,tk,hrw,rfl,by omega,by omega⟩)
 have hbig:=h.big
 have hbase:=h.base
 have hmo:∀ {b o:Nat} {v:Value},w.cell? ⟨b,o,none⟩ = some v → m ≠ some b:=fun hb e=>by
  obtain ⟨es,clk,h1,_⟩:=h.own.some_ _ e
  exact Cp hb h1 rfl
 have hG:∀ b' o',E9 F w0 w1 (rdo br none 0 0 :: tb0) [] b' o' → ¬ ((b' = ob.blk ∧ o' = ob.off + off) ∨ m = some b'):=fun b' o' hg e=>by
  rcases e with ⟨rfl,rfl⟩ | e
  ·exact hg.2.2 hact
  have:=h.new b' e; have:=hg.2.1; omega
 refine D3 hE he hp (FQ hcell hfz h.own hx hk (fun b' o' hg=>⟨fun e=>hG b' o' hg (.inl e),fun e=>hG b' o' hg (.inr e)⟩) (fun b' o' hg=>Nat.lt_of_lt_of_le hg.2.1 hbig)) ?_
 rintro e_ w2 ⟨rfl,r,g1,g2,g3,g4,g5⟩
 rw [FR hsort hj] at g3
 refine ⟨_,rfl,fun a2 hE1=>K r a2 w2 ?_ hE1⟩
 have hW2:=hW.wrote1 (k + 1) (cs':=ob.cells.set off (.map (some r))) tk' hrw (by simp) g5 (fun b o hb hN=>?_) (fun j' v hv=>?_) (fun j' hj'=>?_) (fun j' o hne hjo q' hq' hN=>?_)
 ·refine ⟨h.mv,Nat.le_trans hbig g5.size,hbase,h.old,⟨A',q,c',hW2,hr.move g5 (fun b o g _=>hG b o g) E8⟩,fun b o ha=>h.act b o ?_,?_,h.mv.move g5 (fun b o g _=>hG b o g) E8 h.fact,g3,fun r' hr'=>?_⟩
  ·rcases ha with ⟨i',ob',hi,h1,h2,h3,h4⟩ | ha
   ·cases i' with
    | zero=>exact .inl ⟨0,ob',hi,h1,h2,h3,h4⟩
    | succ i' =>
     rw [List.getElem?_cons_succ] at hi
     rcases T9 hi with ⟨e1,e2,_⟩ | ⟨_,e2⟩
     ·subst e2
      exact .inl ⟨k + 1,ob,tk,hrw,h2,h3,by simpa using h4⟩
     exact .inl ⟨i' + 1,ob',e2,h1,h2,h3,h4⟩
   exact .inr ha
  ·exact ⟨hE1.defers,hE1.size,fun _ _ hl=>by cases hl⟩
  obtain rfl:=Option.some.inj hr'
  rcases g4 with g4 | g4
  ·exact h.new _ g4
  exact Nat.le_trans hbig g4
 ·rcases hN with ⟨rfl,rfl⟩ | e
  ·rcases hM with g | g
   ·omega
   exact g
  have:=h.new b e; omega
 ·rw [List.getElem?_set] at hv
  by_cases e:off = j'
  ·subst e
   rw [if_pos rfl,if_pos hlt] at hv
   rw [← Option.some.inj hv]; exact g1
  rw [if_neg e] at hv
  have g6:=hW.cells (k + 1) ob tk' j' v hv
  refine g5.cell (fun hN=>?_) g6
  rcases hN with ⟨_,e1⟩ | e1
  ·omega
  exact hmo g6 e1
 ·by_cases e:off = j'
  ·subst e; exact g2
  rw [List.length_set] at hj'
  have g6:=hW.cells (k + 1) ob tk' j' _ (List.getElem?_eq_getElem hj')
  refine g5.frozen (fun hN=>?_) g6 (hW.rw_ (k + 1) ob tk' hrw j' hj').2
  rcases hN with ⟨_,e1⟩ | e1
  ·omega
  exact hmo g6 e1
 have g6:=hW.cells j' o hjo q' _ (List.getElem?_eq_getElem hq')
 rcases hN with ⟨e1,e2⟩ | e1
 ·rcases hW.apart j' (k + 1) o ob hne hjo tk' (.inr hrw) with g | g | g
  ·exact g e1
  ·omega
  omega
 exact hmo g6 e1
theorem TU.env0 {env':C6} {a':Act} (h:TU w0 w1 M F n br tb0 tb env P s m u a w) (hE:EnvOk n (rdo br none 0 0 :: tb) env' a'):TU w0 w1 M F n br tb0 tb env' P s m u a' w:=⟨h.mv,h.big,h.base,h.old,h.ex,h.act,hE,h.fact,h.own,h.new⟩
theorem TU.drew (h:TU w0 w1 M F n br tb0 tb env P s m u a w):TU w0 w1 M F n br tb0 tb env P s m u a w.drew:=by
 obtain ⟨A,q,c,hW,hr⟩:=h.ex
 have hs:=Step.drew w
 exact ⟨h.mv,h.big,h.base,h.old,⟨A,q,c,hW.drew,hr.move hs A7 E8⟩,h.act,h.env_,h.mv.move hs A7 E8 h.fact,h.own.move hs A7 E8 (fun _ _ _ h=>h),h.new⟩
theorem EY {i d:Nat} {f:FuncId} {X rest:Bs} {vs vs':List Value} {env1:C6} {a1:Act} {Qv:Value → World → (Nat → Nat → Prop) → Prop} {N:Act → World → Prop} (h:TU w0 w1 M F n br tb0 tb env1 P (X ++ rest) m u a1 w) (hE:EnvOk n [] env a)
  (hc:∀ {br:Nat} {A:Option Addr} {m c:Nat} {w:World} {F:Nat → Nat → Prop},Str w br [.slice A m c,.bool false] → RdS w F A m c (X ++ rest) → (∀ b o,F b o → ¬ H1 br b o) → Calls Pr f (.pointer (some ⟨br,0,none⟩) :: vs).toArray w (RdPost w br F rest fun v w'=>Qv v w' F)) (hv:vs' = vs)
  (hf:∀ args w,(callFunc f args).run Pr w = .ok (.enter f args) w) (K:∀ v a' w',Qv v w' (E9 F w0 w1 (rdo br none 0 0 :: tb0) []) → TU w0 w1 M F n br tb0 tb [] P rest m u a' w' → EnvOk n [] ((d,.v v) :: env) a' → N a' w')
  (he:O7 [] env ops n i = some (f,.pointer (some ⟨br,0,none⟩) :: vs',d)):wpOp Pr ops Q i N a w:=by
 subst hv
 obtain ⟨A,q,c,hW,hr⟩:=h.ex
 have hG:∀ b o,E9 F w0 w1 (rdo br none 0 0 :: tb0) [] b o → ¬ H1 br b o:=R2 0 rfl
 refine D3 hE he hf (hc (Str.of hW 0 rfl) hr hG) ?_
 rintro e_ w2 ⟨v,A1,n1,c1,rfl,hs,hr1,hst,hx⟩
 refine ⟨_,rfl,fun a1 hE1=>?_⟩
 obtain ⟨hW2,hF2,hL⟩:=hW.wrote 0 (rdo br A1 n1 c1 :: tb) rfl hst hs
 refine K v a1 w2 hx ⟨h.mv,Nat.le_trans h.big hst.size,h.base,h.old,⟨A1,n1,c1,hW2,hr1⟩,h.act,⟨hE1.defers,hE1.size,fun _ _ hl=>by cases hl⟩,h.mv.move hst (fun b o g _=>hG b o g) E8 h.fact,h.own.move hst (fun b o g _=>hG b o g) E8 (fun r o e he=>?_),h.new⟩ hE1
 have h1:=h.new r e
 have h2:=h.old
 have h3:=he.1
 omega
theorem EZ (w:World):CellsOk w []:=fun i o hi=>by simp at hi
end
theorem X3 (x:Nat) (hx:x < 4294967296) (rest:Bs):O3 Tryz.prog 64 (uv x) rest (.int .u32 ((x:Nat):Int)):=fun hs hr hF=>(T6 x hx rest hs hr hF).mono fun e w' hp=>hp.fp fun v w' h=>h
theorem CD {a b:Nat} (h:a = 1 + b) (hb:b < 4294967296):IntKind.u32.wrap (((a:Nat):Int) - 1) = ((b:Nat):Int):=by
 subst h
 have:IntKind.u32.wrap (((1 + b:Nat):Int) - 1) = (((1 + b:Nat):Int) - 1) % 4294967296:=by simp [IntKind.wrap,IntKind.signed,IntKind.bits]
 rw [this]; omega
theorem JE (s:Bs):(C3 s).length < 4294967296:=by rw [Di]; decide
theorem JF (m:Nat) (x:Int) (h:m ≤ 8:=by decide):(be m x).length < 4294967296:=by rw [be_length]; omega
theorem JG {b n:Bool} {s:Bs} (h:s.length ≤ 32767):(if b = true then (if n = true then uv 0 else uv (s.length + 1) ++ s) else (if n = true then be 2 (-1) else be 2 s.length ++ s)).length < 4294967296:=by
 have h1:=Dk (s.length + 1)
 have h2:=Dk 0
 split <;> split <;> first | omega | (simp only [List.length_append,be_length]; omega)
theorem JH {b:Bool} {u:List (Int × Bs)} (h:Y7 u) (hr:∀ x ∈ u,0 ≤ x.1 ∧ x.1 < 4294967296):(if b = true then uv u.length ++ I1 u else []).length ≤ 1100100000:=by
 have h1:=Dk u.length
 have h2:=h.1
 have h3:=Mf h hr
 split
 ·rw [List.length_append]; omega
 exact Nat.zero_le _
end Go.Proofs.YtoclgihkbmaolaaGreatDoor.ME