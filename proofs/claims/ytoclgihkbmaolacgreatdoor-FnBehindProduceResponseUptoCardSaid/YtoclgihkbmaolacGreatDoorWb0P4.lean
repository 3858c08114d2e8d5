/- Packed. Own work. -/
import Derived.Test.YtoclgihkbmaolacGreatDoorWb0P3
import Derived.Test.YtoclgihkbmaolacGreatDoorProg
import Derived.Deep.LoopGhost
namespace Go.Proofs.YtoclgihkbmaolacGreatDoor.ME
open Go
open Go.RowKit
set_option linter.unusedVariables false
set_option linter.unusedSimpArgs false
set_option maxRecDepth 20000
theorem NW {A:Option Addr} {c:Nat} (s:Bs) {w:World} {F:Nat → Nat → Prop} (ho:Octs w F A c s) (hl:2 ≤ s.length) :
  Calls Tryz.prog 89 #[.agg #[],.slice A s.length c] w (J9 w (.int .u16 (P2 s))):=by
 refine enter (n:=18) Tryz.func89 rfl Tryz.ntmps89 kz fun a hE=>?_
 have hW:=WOk.start w C7
 have ob0:=H0 s 0
 have ob1:=H0 s 1
 refine C1 [0,1] kz ?_
 refine B1 (M2 hW hE (d:=2) (cs:=[]) kz fun b1 a2 w3 hb4 hz5 hF6 hW7 hE8=>?_)
 refine B3 [1] [] [(1,.v (.slice A s.length c))] hW7 hE8 fun a9 ag=>?_
 refine B4 (A4 ?_)
 refine C1 [0,1,2] kz ?_
 refine B3 [0] [1,2] [(1,.v (.slice A s.length c)),(5,.v (.slice A s.length c))] hW7 ag fun aD ah=>?_
 obtain ⟨aw,ax,ae,ay,ac⟩:=Slots.get ho (i:=1) (by omega)
 refine B1 (J7 ah (t:=22) (A:=A) (m:=s.length) (q:=1) (d:=6) kz (e:=5) (size:=1) (bytes:=1) (j:=1) kz ae rfl (by omega) fun aE ai=>?_)
 refine B1 (M7 ai (t:=5) (b:=aw) (o:=ax + 1 * 1) (d:=7) kz (cs:=[.int .u8 ((s.getD 1 0).toNat:Int)]) (v:=.int .u8 ((s.getD 1 0).toNat:Int)) kz (AtF.move ac hW7.step B2 F3).at_ fun aF aj=>?_)
 refine B4 (A4 ?_)
 refine BA kz hW7 fun aG az ab=>?_
 refine G4 [0,4] [(8,.v (.slice A s.length c)),(12,.v (.slice A s.length c))] 9 (B6 E0) (fun _ h=>h ▸ ab.cells) rfl aj fun aH ak=>?_
 refine P1 ak (i:=1) (t:=22) (A:=A) (m:=s.length) (q:=1) (d:=9) kz (e:=5) (size:=1) (bytes:=1) (j:=1) kz ae rfl (by omega) kz kz (B6 E0) rfl fun aI al=>?_
 refine O2 al (i:=2) (t:=5) (b:=aw) (o:=ax + 1 * 1) (d:=10) kz (cs:=[.int .u8 ((s.getD 1 0).toNat:Int)]) (v:=.int .u8 ((s.getD 1 0).toNat:Int)) kz (fun w' h'=>h' ▸ (AtF.move ac ab.step B2 F3).at_) kz kz (B6 E0) rfl fun aJ am=>?_
 refine G4 [3] [(11,.v (.int .u16 (IntKind.u16.wrap ((s.getD 1 0).toNat:Int)))),(12,.v (.slice A s.length c))] 6 (B6 E0) (fun _ h=>h ▸ ab.cells) rfl am fun aK ao=>?_
 obtain ⟨aA,aB,ap,aC,af⟩:=Slots.get ho (i:=0) (by omega)
 refine P1 ao (i:=5) (t:=22) (A:=A) (m:=s.length) (q:=0) (d:=13) kz (e:=5) (size:=1) (bytes:=1) (j:=0) kz ap rfl (by omega) kz kz (B6 E0) rfl fun aL ar=>?_
 refine O2 ar (i:=6) (t:=5) (b:=aA) (o:=aB + 0 * 1) (d:=14) kz (cs:=[.int .u8 ((s.getD 0 0).toNat:Int)]) (v:=.int .u8 ((s.getD 0 0).toNat:Int)) kz (fun w' h'=>h' ▸ (AtF.move af ab.step B2 F3).at_) kz kz (B6 E0) rfl fun aM au=>?_
 refine G4 [7,8,9,10] [(4,.v (.int .u16 (IntKind.u16.wrap (BitVec.ofInt 16 (IntKind.u16.wrap ((s.getD 1 0).toNat:Int)) ||| BitVec.ofInt 16 (IntKind.u16.wrap ((IntKind.u16.wrap ((s.getD 0 0).toNat:Int)) * 256))).toNat)))] 0 (B6 E0) (fun _ h=>h ▸ ab.cells) rfl au fun aN av=>?_
 refine L6 kz ?_ _
 refine A4 (wp_ret (D1 av ab.cells (v:=.int .u16 (IntKind.u16.wrap (BitVec.ofInt 16 (IntKind.u16.wrap ((s.getD 1 0).toNat:Int)) ||| BitVec.ofInt 16 (IntKind.u16.wrap ((IntKind.u16.wrap ((s.getD 0 0).toNat:Int)) * 256))).toNat)) kz ?_))
 exact ⟨congrArg Ending.returned (congrArg (Value.int IntKind.u16) (Na (oc s 0) (oc s 1) ob0 ob1)),ab.step⟩
theorem NX {A:Option Addr} {c:Nat} (s:Bs) {w:World} {F:Nat → Nat → Prop} (ho:Octs w F A c s) (hl:4 ≤ s.length) :
  Calls Tryz.prog 88 #[.agg #[],.slice A s.length c] w (J9 w (.int .u32 (P3 s))):=by
 refine enter (n:=30) Tryz.func88 rfl Tryz.ntmps88 kz fun a hE=>?_
 have hW:=WOk.start w C7
 have ob0:=H0 s 0
 have ob1:=H0 s 1
 have ob2:=H0 s 2
 have ob3:=H0 s 3
 refine C1 [0,1] kz ?_
 refine B1 (M2 hW hE (d:=2) (cs:=[]) kz fun b1 a2 w3 hb4 hz5 hF6 hW7 hE8=>?_)
 refine B3 [1] [] [(1,.v (.slice A s.length c))] hW7 hE8 fun a9 ak=>?_
 refine B4 (A4 ?_)
 refine C1 [0,1,2] kz ?_
 refine B3 [0] [1,2] [(1,.v (.slice A s.length c)),(5,.v (.slice A s.length c))] hW7 ak fun aV al=>?_
 obtain ⟨aI,aJ,ag,aK,af⟩:=Slots.get ho (i:=3) (by omega)
 refine B1 (J7 al (t:=22) (A:=A) (m:=s.length) (q:=3) (d:=6) kz (e:=5) (size:=1) (bytes:=1) (j:=3) kz ag rfl (by omega) fun aW am=>?_)
 refine B1 (M7 am (t:=5) (b:=aI) (o:=aJ + 3 * 1) (d:=7) kz (cs:=[.int .u8 ((s.getD 3 0).toNat:Int)]) (v:=.int .u8 ((s.getD 3 0).toNat:Int)) kz (AtF.move af hW7.step B2 F3).at_ fun aX ao=>?_)
 refine B4 (A4 ?_)
 refine BA kz hW7 fun aY aL ab=>?_
 let ae:Nat × SV:=(18,.v (.slice A s.length c))
 let ac:Nat × SV:=(24,.v (.slice A s.length c))
 refine G4 [0,4,10,16] [(8,.v (.slice A s.length c)),(12,.v (.slice A s.length c)),ae,ac] 19 (B6 E0) (fun _ h=>h ▸ ab.cells) rfl ao fun aZ ap=>?_
 refine P1 ap (i:=1) (t:=22) (A:=A) (m:=s.length) (q:=3) (d:=9) kz (e:=5) (size:=1) (bytes:=1) (j:=3) kz ag rfl (by omega) kz kz (B6 E0) rfl fun ba ar=>?_
 refine O2 ar (i:=2) (t:=5) (b:=aI) (o:=aJ + 3 * 1) (d:=10) kz (cs:=[.int .u8 ((s.getD 3 0).toNat:Int)]) (v:=.int .u8 ((s.getD 3 0).toNat:Int)) kz (fun w' h'=>h' ▸ (AtF.move af ab.step B2 F3).at_) kz kz (B6 E0) rfl fun bd au=>?_
 refine G4 [3] [(11,.v (.int .u32 (IntKind.u32.wrap ((s.getD 3 0).toNat:Int)))),(12,.v (.slice A s.length c)),ae,ac] 16 (B6 E0) (fun _ h=>h ▸ ab.cells) rfl au fun bf av=>?_
 obtain ⟨aM,aN,aw,aO,ah⟩:=Slots.get ho (i:=2) (by omega)
 refine P1 av (i:=5) (t:=22) (A:=A) (m:=s.length) (q:=2) (d:=13) kz (e:=5) (size:=1) (bytes:=1) (j:=2) kz aw rfl (by omega) kz kz (B6 E0) rfl fun bg ax=>?_
 refine O2 ax (i:=6) (t:=5) (b:=aM) (o:=aN + 2 * 1) (d:=14) kz (cs:=[.int .u8 ((s.getD 2 0).toNat:Int)]) (v:=.int .u8 ((s.getD 2 0).toNat:Int)) kz (fun w' h'=>h' ▸ (AtF.move ah ab.step B2 F3).at_) kz kz (B6 E0) rfl fun bh ay=>?_
 refine G4 [7,8,9] [(17,.v (.int .u32 (IntKind.u32.wrap (BitVec.ofInt 32 (IntKind.u32.wrap ((s.getD 3 0).toNat:Int)) ||| BitVec.ofInt 32 (IntKind.u32.wrap ((IntKind.u32.wrap ((s.getD 2 0).toNat:Int)) * 256))).toNat))),ae,ac] 11 (B6 E0) (fun _ h=>h ▸ ab.cells) rfl ay fun bj az=>?_
 obtain ⟨aP,aQ,aA,aR,ai⟩:=Slots.get ho (i:=1) (by omega)
 refine P1 az (i:=11) (t:=22) (A:=A) (m:=s.length) (q:=1) (d:=19) kz (e:=5) (size:=1) (bytes:=1) (j:=1) kz aA rfl (by omega) kz kz (B6 E0) rfl fun bk aB=>?_
 refine O2 aB (i:=12) (t:=5) (b:=aP) (o:=aQ + 1 * 1) (d:=20) kz (cs:=[.int .u8 ((s.getD 1 0).toNat:Int)]) (v:=.int .u8 ((s.getD 1 0).toNat:Int)) kz (fun w' h'=>h' ▸ (AtF.move ai ab.step B2 F3).at_) kz kz (B6 E0) rfl fun bn aC=>?_
 refine G4 [13,14,15] [(23,.v (.int .u32 (IntKind.u32.wrap (BitVec.ofInt 32 (IntKind.u32.wrap (BitVec.ofInt 32 (IntKind.u32.wrap ((s.getD 3 0).toNat:Int)) ||| BitVec.ofInt 32 (IntKind.u32.wrap ((IntKind.u32.wrap ((s.getD 2 0).toNat:Int)) * 256))).toNat) ||| BitVec.ofInt 32 (IntKind.u32.wrap ((IntKind.u32.wrap ((s.getD 1 0).toNat:Int)) * 65536))).toNat))),ac] 6 (B6 E0) (fun _ h=>h ▸ ab.cells) rfl aC fun bo aD=>?_
 obtain ⟨aS,aT,aE,aU,aj⟩:=Slots.get ho (i:=0) (by omega)
 refine P1 aD (i:=17) (t:=22) (A:=A) (m:=s.length) (q:=0) (d:=25) kz (e:=5) (size:=1) (bytes:=1) (j:=0) kz aE rfl (by omega) kz kz (B6 E0) rfl fun bp aF=>?_
 refine O2 aF (i:=18) (t:=5) (b:=aS) (o:=aT + 0 * 1) (d:=26) kz (cs:=[.int .u8 ((s.getD 0 0).toNat:Int)]) (v:=.int .u8 ((s.getD 0 0).toNat:Int)) kz (fun w' h'=>h' ▸ (AtF.move aj ab.step B2 F3).at_) kz kz (B6 E0) rfl fun bq aG=>?_
 refine G4 [19,20,21,22] [(4,.v (.int .u32 (IntKind.u32.wrap (BitVec.ofInt 32 (IntKind.u32.wrap (BitVec.ofInt 32 (IntKind.u32.wrap (BitVec.ofInt 32 (IntKind.u32.wrap ((s.getD 3 0).toNat:Int)) ||| BitVec.ofInt 32 (IntKind.u32.wrap ((IntKind.u32.wrap ((s.getD 2 0).toNat:Int)) * 256))).toNat) ||| BitVec.ofInt 32 (IntKind.u32.wrap ((IntKind.u32.wrap ((s.getD 1 0).toNat:Int)) * 65536))).toNat) ||| BitVec.ofInt 32 (IntKind.u32.wrap ((IntKind.u32.wrap ((s.getD 0 0).toNat:Int)) * 16777216))).toNat)))] 0 (B6 E0) (fun _ h=>h ▸ ab.cells) rfl aG fun bt aH=>?_
 refine L6 kz ?_ _
 refine A4 (wp_ret (D1 aH ab.cells (v:=.int .u32 (IntKind.u32.wrap (BitVec.ofInt 32 (IntKind.u32.wrap (BitVec.ofInt 32 (IntKind.u32.wrap (BitVec.ofInt 32 (IntKind.u32.wrap ((s.getD 3 0).toNat:Int)) ||| BitVec.ofInt 32 (IntKind.u32.wrap ((IntKind.u32.wrap ((s.getD 2 0).toNat:Int)) * 256))).toNat) ||| BitVec.ofInt 32 (IntKind.u32.wrap ((IntKind.u32.wrap ((s.getD 1 0).toNat:Int)) * 65536))).toNat) ||| BitVec.ofInt 32 (IntKind.u32.wrap ((IntKind.u32.wrap ((s.getD 0 0).toNat:Int)) * 16777216))).toNat)) kz ?_))
 exact ⟨congrArg Ending.returned (congrArg (Value.int IntKind.u32) (Nb (oc s 0) (oc s 1) (oc s 2) (oc s 3) ob0 ob1 ob2 ob3)),ab.step⟩
theorem NY {A:Option Addr} {c:Nat} (s:Bs) {w:World} {F:Nat → Nat → Prop} (ho:Octs w F A c s) (hl:8 ≤ s.length) :
  Calls Tryz.prog 95 #[.agg #[],.slice A s.length c] w (J9 w (.int .u64 (Q3 s))):=by
 refine enter (n:=54) Tryz.func95 rfl Tryz.ntmps95 kz fun a hE=>?_
 have hW:=WOk.start w C7
 have ob0:=H0 s 0
 have ob1:=H0 s 1
 have ob2:=H0 s 2
 have ob3:=H0 s 3
 have ob4:=H0 s 4
 have ob5:=H0 s 5
 have ob6:=H0 s 6
 have ob7:=H0 s 7
 refine C1 [0,1] kz ?_
 refine B1 (M2 hW hE (d:=2) (cs:=[]) kz fun b1 a2 w3 hb4 hz5 hF6 hW7 hE8=>?_)
 refine B3 [1] [] [(1,.v (.slice A s.length c))] hW7 hE8 fun a9 aA=>?_
 refine B4 (A4 ?_)
 refine C1 [0,1,2] kz ?_
 refine B3 [0] [1,2] [(1,.v (.slice A s.length c)),(5,.v (.slice A s.length c))] hW7 aA fun bS aB=>?_
 obtain ⟨bn,bo,al,bq,aj⟩:=Slots.get ho (i:=7) (by omega)
 refine B1 (J7 aB (t:=22) (A:=A) (m:=s.length) (q:=7) (d:=6) kz (e:=5) (size:=1) (bytes:=1) (j:=7) kz al rfl (by omega) fun bT aC=>?_)
 refine B1 (M7 aC (t:=5) (b:=bn) (o:=bo + 7 * 1) (d:=7) kz (cs:=[.int .u8 ((s.getD 7 0).toNat:Int)]) (v:=.int .u8 ((s.getD 7 0).toNat:Int)) kz (AtF.move aj hW7.step B2 F3).at_ fun bU aD=>?_)
 refine B4 (A4 ?_)
 refine BA kz hW7 fun bV bt ab=>?_
 let ai:Nat × SV:=(18,.v (.slice A s.length c))
 let ah:Nat × SV:=(24,.v (.slice A s.length c))
 let ag:Nat × SV:=(30,.v (.slice A s.length c))
 let af:Nat × SV:=(36,.v (.slice A s.length c))
 let ae:Nat × SV:=(42,.v (.slice A s.length c))
 let ac:Nat × SV:=(48,.v (.slice A s.length c))
 refine G4 [0,4,10,16,22,28,34,40] [(8,.v (.slice A s.length c)),(12,.v (.slice A s.length c)),ai,ah,ag,af,ae,ac] 39 (B6 E0) (fun _ h=>h ▸ ab.cells) rfl aD fun bW aE=>?_
 refine P1 aE (i:=1) (t:=22) (A:=A) (m:=s.length) (q:=7) (d:=9) kz (e:=5) (size:=1) (bytes:=1) (j:=7) kz al rfl (by omega) kz kz (B6 E0) rfl fun bX aF=>?_
 refine O2 aF (i:=2) (t:=5) (b:=bn) (o:=bo + 7 * 1) (d:=10) kz (cs:=[.int .u8 ((s.getD 7 0).toNat:Int)]) (v:=.int .u8 ((s.getD 7 0).toNat:Int)) kz (fun w' h'=>h' ▸ (AtF.move aj ab.step B2 F3).at_) kz kz (B6 E0) rfl fun bY aG=>?_
 refine G4 [3] [(11,.v (.int .u64 (IntKind.u64.wrap ((s.getD 7 0).toNat:Int)))),(12,.v (.slice A s.length c)),ai,ah,ag,af,ae,ac] 36 (B6 E0) (fun _ h=>h ▸ ab.cells) rfl aG fun bZ aH=>?_
 obtain ⟨bu,bw,aI,bx,am⟩:=Slots.get ho (i:=6) (by omega)
 refine P1 aH (i:=5) (t:=22) (A:=A) (m:=s.length) (q:=6) (d:=13) kz (e:=5) (size:=1) (bytes:=1) (j:=6) kz aI rfl (by omega) kz kz (B6 E0) rfl fun b8 aJ=>?_
 refine O2 aJ (i:=6) (t:=5) (b:=bu) (o:=bw + 6 * 1) (d:=14) kz (cs:=[.int .u8 ((s.getD 6 0).toNat:Int)]) (v:=.int .u8 ((s.getD 6 0).toNat:Int)) kz (fun w' h'=>h' ▸ (AtF.move am ab.step B2 F3).at_) kz kz (B6 E0) rfl fun cd aK=>?_
 refine G4 [7,8,9] [(17,.v (.int .u64 (IntKind.u64.wrap (BitVec.ofInt 64 (IntKind.u64.wrap ((s.getD 7 0).toNat:Int)) ||| BitVec.ofInt 64 (IntKind.u64.wrap ((IntKind.u64.wrap ((s.getD 6 0).toNat:Int)) * 256))).toNat))),ai,ah,ag,af,ae,ac] 31 (B6 E0) (fun _ h=>h ▸ ab.cells) rfl aK fun ce aL=>?_
 obtain ⟨bz,bA,aM,bB,ao⟩:=Slots.get ho (i:=5) (by omega)
 refine P1 aL (i:=11) (t:=22) (A:=A) (m:=s.length) (q:=5) (d:=19) kz (e:=5) (size:=1) (bytes:=1) (j:=5) kz aM rfl (by omega) kz kz (B6 E0) rfl fun cg aN=>?_
 refine O2 aN (i:=12) (t:=5) (b:=bz) (o:=bA + 5 * 1) (d:=20) kz (cs:=[.int .u8 ((s.getD 5 0).toNat:Int)]) (v:=.int .u8 ((s.getD 5 0).toNat:Int)) kz (fun w' h'=>h' ▸ (AtF.move ao ab.step B2 F3).at_) kz kz (B6 E0) rfl fun cm aO=>?_
 refine G4 [13,14,15] [(23,.v (.int .u64 (IntKind.u64.wrap (BitVec.ofInt 64 (IntKind.u64.wrap (BitVec.ofInt 64 (IntKind.u64.wrap ((s.getD 7 0).toNat:Int)) ||| BitVec.ofInt 64 (IntKind.u64.wrap ((IntKind.u64.wrap ((s.getD 6 0).toNat:Int)) * 256))).toNat) ||| BitVec.ofInt 64 (IntKind.u64.wrap ((IntKind.u64.wrap ((s.getD 5 0).toNat:Int)) * 65536))).toNat))),ah,ag,af,ae,ac] 26 (B6 E0) (fun _ h=>h ▸ ab.cells) rfl aO fun cq aP=>?_
 obtain ⟨bC,bD,aQ,bE,ap⟩:=Slots.get ho (i:=4) (by omega)
 refine P1 aP (i:=17) (t:=22) (A:=A) (m:=s.length) (q:=4) (d:=25) kz (e:=5) (size:=1) (bytes:=1) (j:=4) kz aQ rfl (by omega) kz kz (B6 E0) rfl fun cr aR=>?_
 refine O2 aR (i:=18) (t:=5) (b:=bC) (o:=bD + 4 * 1) (d:=26) kz (cs:=[.int .u8 ((s.getD 4 0).toNat:Int)]) (v:=.int .u8 ((s.getD 4 0).toNat:Int)) kz (fun w' h'=>h' ▸ (AtF.move ap ab.step B2 F3).at_) kz kz (B6 E0) rfl fun cu aS=>?_
 refine G4 [19,20,21] [(29,.v (.int .u64 (IntKind.u64.wrap (BitVec.ofInt 64 (IntKind.u64.wrap (BitVec.ofInt 64 (IntKind.u64.wrap (BitVec.ofInt 64 (IntKind.u64.wrap ((s.getD 7 0).toNat:Int)) ||| BitVec.ofInt 64 (IntKind.u64.wrap ((IntKind.u64.wrap ((s.getD 6 0).toNat:Int)) * 256))).toNat) ||| BitVec.ofInt 64 (IntKind.u64.wrap ((IntKind.u64.wrap ((s.getD 5 0).toNat:Int)) * 65536))).toNat) ||| BitVec.ofInt 64 (IntKind.u64.wrap ((IntKind.u64.wrap ((s.getD 4 0).toNat:Int)) * 16777216))).toNat))),ag,af,ae,ac] 21 (B6 E0) (fun _ h=>h ▸ ab.cells) rfl aS fun cv aT=>?_
 obtain ⟨bF,bG,aU,bH,ar⟩:=Slots.get ho (i:=3) (by omega)
 refine P1 aT (i:=23) (t:=22) (A:=A) (m:=s.length) (q:=3) (d:=31) kz (e:=5) (size:=1) (bytes:=1) (j:=3) kz aU rfl (by omega) kz kz (B6 E0) rfl fun cw aV=>?_
 refine O2 aV (i:=24) (t:=5) (b:=bF) (o:=bG + 3 * 1) (d:=32) kz (cs:=[.int .u8 ((s.getD 3 0).toNat:Int)]) (v:=.int .u8 ((s.getD 3 0).toNat:Int)) kz (fun w' h'=>h' ▸ (AtF.move ar ab.step B2 F3).at_) kz kz (B6 E0) rfl fun cy aW=>?_
 refine G4 [25,26,27] [(35,.v (.int .u64 (IntKind.u64.wrap (BitVec.ofInt 64 (IntKind.u64.wrap (BitVec.ofInt 64 (IntKind.u64.wrap (BitVec.ofInt 64 (IntKind.u64.wrap (BitVec.ofInt 64 (IntKind.u64.wrap ((s.getD 7 0).toNat:Int)) ||| BitVec.ofInt 64 (IntKind.u64.wrap ((IntKind.u64.wrap ((s.getD 6 0).toNat:Int)) * 256))).toNat) ||| BitVec.ofInt 64 (IntKind.u64.wrap ((IntKind.u64.wrap ((s.getD 5 0).toNat:Int)) * 65536))).toNat) ||| BitVec.ofInt 64 (IntKind.u64.wrap ((IntKind.u64.wrap ((s.getD 4 0).toNat:Int)) * 16777216))).toNat) ||| BitVec.ofInt 64 (IntKind.u64.wrap ((IntKind.u64.wrap ((s.getD 3 0).toNat:Int)) * 4294967296))).toNat))),af,ae,ac] 16 (B6 E0) (fun _ h=>h ▸ ab.cells) rfl aW fun cz aX=>?_
 obtain ⟨bI,bJ,aY,bK,au⟩:=Slots.get ho (i:=2) (by omega)
 refine P1 aX (i:=29) (t:=22) (A:=A) (m:=s.length) (q:=2) (d:=37) kz (e:=5) (size:=1) (bytes:=1) (j:=2) kz aY rfl (by omega) kz kz (B6 E0) rfl fun cA aZ=>?_
 refine O2 aZ (i:=30) (t:=5) (b:=bI) (o:=bJ + 2 * 1) (d:=38) kz (cs:=[.int .u8 ((s.getD 2 0).toNat:Int)]) (v:=.int .u8 ((s.getD 2 0).toNat:Int)) kz (fun w' h'=>h' ▸ (AtF.move au ab.step B2 F3).at_) kz kz (B6 E0) rfl fun cB ba=>?_
 refine G4 [31,32,33] [(41,.v (.int .u64 (IntKind.u64.wrap (BitVec.ofInt 64 (IntKind.u64.wrap (BitVec.ofInt 64 (IntKind.u64.wrap (BitVec.ofInt 64 (IntKind.u64.wrap (BitVec.ofInt 64 (IntKind.u64.wrap (BitVec.ofInt 64 (IntKind.u64.wrap ((s.getD 7 0).toNat:Int)) ||| BitVec.ofInt 64 (IntKind.u64.wrap ((IntKind.u64.wrap ((s.getD 6 0).toNat:Int)) * 256))).toNat) ||| BitVec.ofInt 64 (IntKind.u64.wrap ((IntKind.u64.wrap ((s.getD 5 0).toNat:Int)) * 65536))).toNat) ||| BitVec.ofInt 64 (IntKind.u64.wrap ((IntKind.u64.wrap ((s.getD 4 0).toNat:Int)) * 16777216))).toNat) ||| BitVec.ofInt 64 (IntKind.u64.wrap ((IntKind.u64.wrap ((s.getD 3 0).toNat:Int)) * 4294967296))).toNat) ||| BitVec.ofInt 64 (IntKind.u64.wrap ((IntKind.u64.wrap ((s.getD 2 0).toNat:Int)) * 1099511627776))).toNat))),ae,ac] 11 (B6 E0) (fun _ h=>h ▸ ab.cells) rfl ba fun cC bd=>?_
 obtain ⟨bL,bM,bf,bN,av⟩:=Slots.get ho (i:=1) (by omega)
 refine P1 bd (i:=35) (t:=22) (A:=A) (m:=s.length) (q:=1) (d:=43) kz (e:=5) (size:=1) (bytes:=1) (j:=1) kz bf rfl (by omega) kz kz (B6 E0) rfl fun cE bg=>?_
 refine O2 bg (i:=36) (t:=5) (b:=bL) (o:=bM + 1 * 1) (d:=44) kz (cs:=[.int .u8 ((s.getD 1 0).toNat:Int)]) (v:=.int .u8 ((s.getD 1 0).toNat:Int)) kz (fun w' h'=>h' ▸ (AtF.move av ab.step B2 F3).at_) kz kz (B6 E0) rfl fun cG bh=>?_
 refine G4 [37,38,39] [(47,.v (.int .u64 (IntKind.u64.wrap (BitVec.ofInt 64 (IntKind.u64.wrap (BitVec.ofInt 64 (IntKind.u64.wrap (BitVec.ofInt 64 (IntKind.u64.wrap (BitVec.ofInt 64 (IntKind.u64.wrap (BitVec.ofInt 64 (IntKind.u64.wrap (BitVec.ofInt 64 (IntKind.u64.wrap ((s.getD 7 0).toNat:Int)) ||| BitVec.ofInt 64 (IntKind.u64.wrap ((IntKind.u64.wrap ((s.getD 6 0).toNat:Int)) * 256))).toNat) ||| BitVec.ofInt 64 (IntKind.u64.wrap ((IntKind.u64.wrap ((s.getD 5 0).toNat:Int)) * 65536))).toNat) ||| BitVec.ofInt 64 (IntKind.u64.wrap ((IntKind.u64.wrap ((s.getD 4 0).toNat:Int)) * 16777216))).toNat) ||| BitVec.ofInt 64 (IntKind.u64.wrap ((IntKind.u64.wrap ((s.getD 3 0).toNat:Int)) * 4294967296))).toNat) ||| BitVec.ofInt 64 (IntKind.u64.wrap ((IntKind.u64.wrap ((s.getD 2 0).toNat:Int)) * 1099511627776))).toNat) ||| BitVec.ofInt 64 (IntKind.u64.wrap ((IntKind.u64.wrap ((s.getD 1 0).toNat:Int)) * 281474976710656))).toNat))),ac] 6 (B6 E0) (fun _ h=>h ▸ ab.cells) rfl bh fun cH bj=>?_
 obtain ⟨bO,bk,aw,bp,ak⟩:=Slots.get ho (i:=0) (by omega)
 refine P1 bj (i:=41) (t:=22) (A:=A) (m:=s.length) (q:=0) (d:=49) kz (e:=5) (size:=1) (bytes:=1) (j:=0) kz aw rfl (by omega) kz kz (B6 E0) rfl fun bP ax=>?_
 refine O2 ax (i:=42) (t:=5) (b:=bO) (o:=bk + 0 * 1) (d:=50) kz (cs:=[.int .u8 ((s.getD 0 0).toNat:Int)]) (v:=.int .u8 ((s.getD 0 0).toNat:Int)) kz (fun w' h'=>h' ▸ (AtF.move ak ab.step B2 F3).at_) kz kz (B6 E0) rfl fun bQ ay=>?_
 refine G4 [43,44,45,46] [(4,.v (.int .u64 (IntKind.u64.wrap (BitVec.ofInt 64 (IntKind.u64.wrap (BitVec.ofInt 64 (IntKind.u64.wrap (BitVec.ofInt 64 (IntKind.u64.wrap (BitVec.ofInt 64 (IntKind.u64.wrap (BitVec.ofInt 64 (IntKind.u64.wrap (BitVec.ofInt 64 (IntKind.u64.wrap (BitVec.ofInt 64 (IntKind.u64.wrap ((s.getD 7 0).toNat:Int)) ||| BitVec.ofInt 64 (IntKind.u64.wrap ((IntKind.u64.wrap ((s.getD 6 0).toNat:Int)) * 256))).toNat) ||| BitVec.ofInt 64 (IntKind.u64.wrap ((IntKind.u64.wrap ((s.getD 5 0).toNat:Int)) * 65536))).toNat) ||| BitVec.ofInt 64 (IntKind.u64.wrap ((IntKind.u64.wrap ((s.getD 4 0).toNat:Int)) * 16777216))).toNat) ||| BitVec.ofInt 64 (IntKind.u64.wrap ((IntKind.u64.wrap ((s.getD 3 0).toNat:Int)) * 4294967296))).toNat) ||| BitVec.ofInt 64 (IntKind.u64.wrap ((IntKind.u64.wrap ((s.getD 2 0).toNat:Int)) * 1099511627776))).toNat) ||| BitVec.ofInt 64 (IntKind.u64.wrap ((IntKind.u64.wrap ((s.getD 1 0).toNat:Int)) * 281474976710656))).toNat) ||| BitVec.ofInt 64 (IntKind.u64.wrap ((IntKind.u64.wrap ((s.getD 0 0).toNat:Int)) * 72057594037927936))).toNat)))] 0 (B6 E0) (fun _ h=>h ▸ ab.cells) rfl ay fun bR az=>?_
 refine L6 kz ?_ _
 refine A4 (wp_ret (D1 az ab.cells (v:=.int .u64 (IntKind.u64.wrap (BitVec.ofInt 64 (IntKind.u64.wrap (BitVec.ofInt 64 (IntKind.u64.wrap (BitVec.ofInt 64 (IntKind.u64.wrap (BitVec.ofInt 64 (IntKind.u64.wrap (BitVec.ofInt 64 (IntKind.u64.wrap (BitVec.ofInt 64 (IntKind.u64.wrap (BitVec.ofInt 64 (IntKind.u64.wrap ((s.getD 7 0).toNat:Int)) ||| BitVec.ofInt 64 (IntKind.u64.wrap ((IntKind.u64.wrap ((s.getD 6 0).toNat:Int)) * 256))).toNat) ||| BitVec.ofInt 64 (IntKind.u64.wrap ((IntKind.u64.wrap ((s.getD 5 0).toNat:Int)) * 65536))).toNat) ||| BitVec.ofInt 64 (IntKind.u64.wrap ((IntKind.u64.wrap ((s.getD 4 0).toNat:Int)) * 16777216))).toNat) ||| BitVec.ofInt 64 (IntKind.u64.wrap ((IntKind.u64.wrap ((s.getD 3 0).toNat:Int)) * 4294967296))).toNat) ||| BitVec.ofInt 64 (IntKind.u64.wrap ((IntKind.u64.wrap ((s.getD 2 0).toNat:Int)) * 1099511627776))).toNat) ||| BitVec.ofInt 64 (IntKind.u64.wrap ((IntKind.u64.wrap ((s.getD 1 0).toNat:Int)) * 281474976710656))).toNat) ||| BitVec.ofInt 64 (IntKind.u64.wrap ((IntKind.u64.wrap ((s.getD 0 0).toNat:Int)) * 72057594037927936))).toNat)) kz ?_))
 exact ⟨congrArg Ending.returned (congrArg (Value.int IntKind.u64) (Nc (oc s 0) (oc s 1) (oc s 2) (oc s 3) (oc s 4) (oc s 5) (oc s 6) (oc s 7) ob0 ob1 ob2 ob3 ob4 ob5 ob6 ob7)),ab.step⟩
theorem EI (x:Int) (rest:Bs)  {br:Nat} {A:Option Addr} {m c:Nat} {w:World} {F:Nat → Nat → Prop} (hst:Str w br [.slice A m c,.bool false]) (hr:RdS w F A m c (be 2 x ++ rest)) (hFd:∀ b o,F b o → ¬ G5 br b o) :
  Calls Tryz.prog 68 #[.pointer (some ⟨br,0,none⟩)] w (RdPost w br F rest fun v w'=>v = .int .i16 (IntKind.i16.wrap x)):=by
 obtain ⟨hm,ho⟩:=hr
 subst hm
 have hle:=ho.le
 refine enter (n:=32) Tryz.func68 rfl Tryz.ntmps68 kz fun a hE=>?_
 let ab:Value:=.slice A ((be 2 x ++ rest).length) c
 have hW:WOk w (G5 br) w [⟨br,0,[ab,.bool false],true⟩] []:=WOk.startStr hst
 have hE1:=(hE.grow ⟨br,0,[ab,.bool false],true⟩).recast 0 (.v (.pointer (some ⟨br,0,none⟩))) (.p 0 0) rfl rfl (Nat.le_of_ble_eq_true (n:=1) rfl)
 refine B9 [(0,.p 0 0)] hW hE1 fun a1 hE2=>?_
 refine wp_seq (B9 [(0,.p 0 0),(9,.v (.bool (decide ((((be 2 x ++ rest).length:Nat):Int) < 2))))] hW hE2 fun a3 hE4=>?_)
 refine G6 hE4 (b:=decide ((((be 2 x ++ rest).length:Nat):Int) < 2)) kz (decide_eq_false (by first | omega | (simp only [List.length_append,be_length,List.length_cons,List.length_nil] at *; omega))) ?_
 refine wp_skip (A4 (X8 7 kz hW fun w5 hF6 hW7 hT8=>?_))
 refine G4 [1,2,3,4] [(0,.p 0 0),(20,.v (.slice A ((be 2 x ++ rest).length) c))] 4 (B6 E0) (fun _ h=>h.cells) hT8 hE4 fun a9 ah=>?_
 refine O2 ah (i:=0) (t:=133) (b:=1) (o:=0) (d:=16) kz (cs:=[]) (v:=.agg #[]) kz (fun w' h'=>(fun j_ v_ h_=>by simp at h_)) kz kz (B6 E0) hT8 fun ax ai=>?_
 refine H6 (i:=5) kz (D6 ai (f:=89) (vs:=[.agg #[],ab]) (d:=21) kz Tryz.call89 (NW _ (ho.move hW7.step (fun b_ o_ h_ _=>hFd b_ o_ h_) (hW7.immM hFd)) (by first | omega | (simp only [List.length_append,be_length,List.length_cons,List.length_nil] at *; omega))) ?_)
 rintro e_ ay ⟨rfl,af⟩
 refine ⟨_,rfl,fun az aj=>?_⟩
 have ac:=hW7.next_nil af
 have ak:=hW7.frN af
 have ag:=TT.ofW ak ac
 refine ⟨fun _=>ag,?_⟩
 refine G4 [6] [(0,.p 0 0),(22,.v (.int .i16 (IntKind.i16.wrap (P2 (be 2 x ++ rest)))))] 1 (B6 E0) (fun _ h=>h.cells) ag aj fun aA al=>?_
 refine H6 (i:=7) kz (W1 [0,3] ac.cells al (env':=[(0,.p 0 0),(3,.v (.int .i16 (IntKind.i16.wrap (P2 (be 2 x ++ rest)))))]) kz fun aB am=>?_)
 refine ⟨fun h=>absurd rfl h,?_⟩
 refine L6 kz ?_ _
 refine A4 (C1 [0,1,2,3,4,5,6,7,8] kz ?_)
 refine B3 [0,1,2,3,4] [5,6,7,8] [(3,.v (.int .i16 (IntKind.i16.wrap (P2 (be 2 x ++ rest))))),(23,.p 0 0),(27,.v (.slice A ((be 2 x ++ rest).length) c))] ac am fun aC ao=>?_
 refine B1 (Di ao (t:=22) (A:=A) (m:=((be 2 x ++ rest).length)) (cp:=c) (q:=2) (d:=28) (j:=2) kz (e:=5) (bytes:=1) kz (rfl) (by first | omega | (simp only [List.length_append,be_length,List.length_cons,List.length_nil] at *; omega)) fun aD ap=>?_)
 refine B3 [6,7] [8] [(3,.v (.int .i16 (IntKind.i16.wrap (P2 (be 2 x ++ rest))))),(28,.v (.slice (I2 A c 2) (((be 2 x ++ rest).length) - 2) (c - 2))),(30,.p 0 0)] ac ap fun aE ar=>?_
 refine B1 (I9 ac ar (oi:=0) (cs:=[.slice (I2 A c 2) (((be 2 x ++ rest).length) - 2) (c - 2),.bool false]) kz fun aF aw ae au=>?_)
 refine B4 (A4 ?_)
 refine B9 [(2,.v (.int .i16 (IntKind.i16.wrap (P2 (be 2 x ++ rest)))))] ae au fun aG av=>?_
 refine wp_ret (D1 av ae.cells (v:=.int .i16 (IntKind.i16.wrap (P2 (be 2 x ++ rest)))) kz ?_)
 exact ⟨_,_,_,_,rfl,Str.of ae 0 rfl,RdS.drop (s:=be 2 x) ⟨rfl,ho.move ae.step (fun b_ o_ h_ _=>hFd b_ o_ h_) F3⟩ (by simp only [be_length,List.length_cons,List.length_nil]),ae.step,by rw [MV,MX]⟩
theorem JK (x:Int) (rest:Bs)  {br:Nat} {A:Option Addr} {m c:Nat} {w:World} {F:Nat → Nat → Prop} (hst:Str w br [.slice A m c,.bool false]) (hr:RdS w F A m c (be 4 x ++ rest)) (hFd:∀ b o,F b o → ¬ G5 br b o) :
  Calls Tryz.prog 67 #[.pointer (some ⟨br,0,none⟩)] w (RdPost w br F rest fun v w'=>v = .int .i32 (IntKind.i32.wrap x)):=by
 obtain ⟨hm,ho⟩:=hr
 subst hm
 have hle:=ho.le
 refine enter (n:=32) Tryz.func67 rfl Tryz.ntmps67 kz fun a hE=>?_
 let ab:Value:=.slice A ((be 4 x ++ rest).length) c
 have hW:WOk w (G5 br) w [⟨br,0,[ab,.bool false],true⟩] []:=WOk.startStr hst
 have hE1:=(hE.grow ⟨br,0,[ab,.bool false],true⟩).recast 0 (.v (.pointer (some ⟨br,0,none⟩))) (.p 0 0) rfl rfl (Nat.le_of_ble_eq_true (n:=1) rfl)
 refine B9 [(0,.p 0 0)] hW hE1 fun a1 hE2=>?_
 refine wp_seq (B9 [(0,.p 0 0),(9,.v (.bool (decide ((((be 4 x ++ rest).length:Nat):Int) < 4))))] hW hE2 fun a3 hE4=>?_)
 refine G6 hE4 (b:=decide ((((be 4 x ++ rest).length:Nat):Int) < 4)) kz (decide_eq_false (by first | omega | (simp only [List.length_append,be_length,List.length_cons,List.length_nil] at *; omega))) ?_
 refine wp_skip (A4 (X8 7 kz hW fun w5 hF6 hW7 hT8=>?_))
 refine G4 [1,2,3,4] [(0,.p 0 0),(20,.v (.slice A ((be 4 x ++ rest).length) c))] 4 (B6 E0) (fun _ h=>h.cells) hT8 hE4 fun a9 ah=>?_
 refine O2 ah (i:=0) (t:=133) (b:=1) (o:=0) (d:=16) kz (cs:=[]) (v:=.agg #[]) kz (fun w' h'=>(fun j_ v_ h_=>by simp at h_)) kz kz (B6 E0) hT8 fun ax ai=>?_
 refine H6 (i:=5) kz (D6 ai (f:=88) (vs:=[.agg #[],ab]) (d:=21) kz Tryz.call88 (NX _ (ho.move hW7.step (fun b_ o_ h_ _=>hFd b_ o_ h_) (hW7.immM hFd)) (by first | omega | (simp only [List.length_append,be_length,List.length_cons,List.length_nil] at *; omega))) ?_)
 rintro e_ ay ⟨rfl,af⟩
 refine ⟨_,rfl,fun az aj=>?_⟩
 have ac:=hW7.next_nil af
 have ak:=hW7.frN af
 have ag:=TT.ofW ak ac
 refine ⟨fun _=>ag,?_⟩
 refine G4 [6] [(0,.p 0 0),(22,.v (.int .i32 (IntKind.i32.wrap (P3 (be 4 x ++ rest)))))] 1 (B6 E0) (fun _ h=>h.cells) ag aj fun aA al=>?_
 refine H6 (i:=7) kz (W1 [0,3] ac.cells al (env':=[(0,.p 0 0),(3,.v (.int .i32 (IntKind.i32.wrap (P3 (be 4 x ++ rest)))))]) kz fun aB am=>?_)
 refine ⟨fun h=>absurd rfl h,?_⟩
 refine L6 kz ?_ _
 refine A4 (C1 [0,1,2,3,4,5,6,7,8] kz ?_)
 refine B3 [0,1,2,3,4] [5,6,7,8] [(3,.v (.int .i32 (IntKind.i32.wrap (P3 (be 4 x ++ rest))))),(23,.p 0 0),(27,.v (.slice A ((be 4 x ++ rest).length) c))] ac am fun aC ao=>?_
 refine B1 (Di ao (t:=22) (A:=A) (m:=((be 4 x ++ rest).length)) (cp:=c) (q:=4) (d:=28) (j:=4) kz (e:=5) (bytes:=1) kz (rfl) (by first | omega | (simp only [List.length_append,be_length,List.length_cons,List.length_nil] at *; omega)) fun aD ap=>?_)
 refine B3 [6,7] [8] [(3,.v (.int .i32 (IntKind.i32.wrap (P3 (be 4 x ++ rest))))),(28,.v (.slice (I2 A c 4) (((be 4 x ++ rest).length) - 4) (c - 4))),(30,.p 0 0)] ac ap fun aE ar=>?_
 refine B1 (I9 ac ar (oi:=0) (cs:=[.slice (I2 A c 4) (((be 4 x ++ rest).length) - 4) (c - 4),.bool false]) kz fun aF aw ae au=>?_)
 refine B4 (A4 ?_)
 refine B9 [(2,.v (.int .i32 (IntKind.i32.wrap (P3 (be 4 x ++ rest)))))] ae au fun aG av=>?_
 refine wp_ret (D1 av ae.cells (v:=.int .i32 (IntKind.i32.wrap (P3 (be 4 x ++ rest)))) kz ?_)
 exact ⟨_,_,_,_,rfl,Str.of ae 0 rfl,RdS.drop (s:=be 4 x) ⟨rfl,ho.move ae.step (fun b_ o_ h_ _=>hFd b_ o_ h_) F3⟩ (by simp only [be_length,List.length_cons,List.length_nil]),ae.step,by rw [Gv,MY]⟩
theorem NZ (x:Int) (rest:Bs)  {br:Nat} {A:Option Addr} {m c:Nat} {w:World} {F:Nat → Nat → Prop} (hst:Str w br [.slice A m c,.bool false]) (hr:RdS w F A m c (be 8 x ++ rest)) (hFd:∀ b o,F b o → ¬ G5 br b o) :
  Calls Tryz.prog 90 #[.pointer (some ⟨br,0,none⟩)] w (RdPost w br F rest fun v w'=>v = .int .u64 (IntKind.u64.wrap x)):=by
 obtain ⟨hm,ho⟩:=hr
 subst hm
 have hle:=ho.le
 refine enter (n:=31) Tryz.func90 rfl Tryz.ntmps90 kz fun a hE=>?_
 let ab:Value:=.slice A ((be 8 x ++ rest).length) c
 have hW:WOk w (G5 br) w [⟨br,0,[ab,.bool false],true⟩] []:=WOk.startStr hst
 have hE1:=(hE.grow ⟨br,0,[ab,.bool false],true⟩).recast 0 (.v (.pointer (some ⟨br,0,none⟩))) (.p 0 0) rfl rfl (Nat.le_of_ble_eq_true (n:=1) rfl)
 refine B9 [(0,.p 0 0)] hW hE1 fun a1 hE2=>?_
 refine wp_seq (B9 [(0,.p 0 0),(9,.v (.bool (decide ((((be 8 x ++ rest).length:Nat):Int) < 8))))] hW hE2 fun a3 hE4=>?_)
 refine G6 hE4 (b:=decide ((((be 8 x ++ rest).length:Nat):Int) < 8)) kz (decide_eq_false (by first | omega | (simp only [List.length_append,be_length,List.length_cons,List.length_nil] at *; omega))) ?_
 refine wp_skip (A4 (X8 6 kz hW fun w5 hF6 hW7 hT8=>?_))
 refine G4 [1,2,3,4] [(0,.p 0 0),(20,.v (.slice A ((be 8 x ++ rest).length) c))] 3 (B6 E0) (fun _ h=>h.cells) hT8 hE4 fun a9 ag=>?_
 refine O2 ag (i:=0) (t:=133) (b:=1) (o:=0) (d:=16) kz (cs:=[]) (v:=.agg #[]) kz (fun w' h'=>(fun j_ v_ h_=>by simp at h_)) kz kz (B6 E0) hT8 fun aw ah=>?_
 refine H6 (i:=5) kz (D6 ah (f:=95) (vs:=[.agg #[],ab]) (d:=21) kz Tryz.call95 (NY _ (ho.move hW7.step (fun b_ o_ h_ _=>hFd b_ o_ h_) (hW7.immM hFd)) (by first | omega | (simp only [List.length_append,be_length,List.length_cons,List.length_nil] at *; omega))) ?_)
 rintro e_ ax ⟨rfl,af⟩
 refine ⟨_,rfl,fun ay ai=>?_⟩
 have ac:=hW7.next_nil af
 have aj:=hW7.frN af
 have ak:=TT.ofW aj ac
 refine ⟨fun _=>ak,?_⟩
 refine H6 (i:=6) kz (W1 [0,3] ac.cells ai (env':=[(0,.p 0 0),(3,.v (.int .u64 (Q3 (be 8 x ++ rest))))]) kz fun az al=>?_)
 refine ⟨fun h=>absurd rfl h,?_⟩
 refine L6 kz ?_ _
 refine A4 (C1 [0,1,2,3,4,5,6,7,8] kz ?_)
 refine B3 [0,1,2,3,4] [5,6,7,8] [(3,.v (.int .u64 (Q3 (be 8 x ++ rest)))),(22,.p 0 0),(26,.v (.slice A ((be 8 x ++ rest).length) c))] ac al fun aA am=>?_
 refine B1 (Di am (t:=22) (A:=A) (m:=((be 8 x ++ rest).length)) (cp:=c) (q:=8) (d:=27) (j:=8) kz (e:=5) (bytes:=1) kz (rfl) (by first | omega | (simp only [List.length_append,be_length,List.length_cons,List.length_nil] at *; omega)) fun aB ao=>?_)
 refine B3 [6,7] [8] [(3,.v (.int .u64 (Q3 (be 8 x ++ rest)))),(27,.v (.slice (I2 A c 8) (((be 8 x ++ rest).length) - 8) (c - 8))),(29,.p 0 0)] ac ao fun aC ap=>?_
 refine B1 (I9 ac ap (oi:=0) (cs:=[.slice (I2 A c 8) (((be 8 x ++ rest).length) - 8) (c - 8),.bool false]) kz fun aD av ae ar=>?_)
 refine B4 (A4 ?_)
 refine B9 [(2,.v (.int .u64 (Q3 (be 8 x ++ rest))))] ae ar fun aE au=>?_
 refine wp_ret (D1 au ae.cells (v:=.int .u64 (Q3 (be 8 x ++ rest))) kz ?_)
 exact ⟨_,_,_,_,rfl,Str.of ae 0 rfl,RdS.drop (s:=be 8 x) ⟨rfl,ho.move ae.step (fun b_ o_ h_ _=>hFd b_ o_ h_) F3⟩ (by simp only [be_length,List.length_cons,List.length_nil]),ae.step,by rw [MW]⟩
def M4 (s:Bs):Nat × Nat:=if oc s 0 < 128 then (oc s 0,1) else if oc s 1 < 128 then (oc s 0 - 128 + oc s 1 * 128,2) else if oc s 2 < 128 then (oc s 0 - 128 + (oc s 1 - 128) * 128 + oc s 2 * 16384,3) else if oc s 3 < 128 then (oc s 0 - 128 + (oc s 1 - 128) * 128 + (oc s 2 - 128) * 16384 + oc s 3 * 2097152,4) else (oc s 0 - 128 + (oc s 1 - 128) * 128 + (oc s 2 - 128) * 16384 + (oc s 3 - 128) * 2097152 + oc s 4 * 268435456,5)
theorem Pa {s:Bs} :1 ≤ (M4 s).2:=by
 unfold M4
 repeat' split
 all_goals (first | exact Nat.le_refl _ | (simp only []; omega) | decide)
theorem Pb {s:Bs} (q0:¬ oc s 0 < 128):2 ≤ (M4 s).2:=by
 unfold M4
 rw [if_neg q0]
 repeat' split
 all_goals (first | exact Nat.le_refl _ | (simp only []; omega) | decide)
theorem Pc {s:Bs} (q0:¬ oc s 0 < 128) (q1:¬ oc s 1 < 128):3 ≤ (M4 s).2:=by
 unfold M4
 rw [if_neg q0,if_neg q1]
 repeat' split
 all_goals (first | exact Nat.le_refl _ | (simp only []; omega) | decide)
theorem Pd {s:Bs} (q0:¬ oc s 0 < 128) (q1:¬ oc s 1 < 128) (q2:¬ oc s 2 < 128):4 ≤ (M4 s).2:=by
 unfold M4
 rw [if_neg q0,if_neg q1,if_neg q2]
 repeat' split
 all_goals (first | exact Nat.le_refl _ | (simp only []; omega) | decide)
theorem JL {s:Bs} (q0:¬ oc s 0 < 128) (q1:¬ oc s 1 < 128) (q2:¬ oc s 2 < 128) (q3:¬ oc s 3 < 128):(M4 s).2 = 5:=by
 unfold M4
 rw [if_neg q0,if_neg q1,if_neg q2,if_neg q3]
theorem GT {A:Option Addr} {c:Nat} (s:Bs) {w:World} {F:Nat → Nat → Prop} (ho:Octs w F A c s) (hl:(M4 s).2 ≤ s.length) (g4:(M4 s).2 = 5 → oc s 4 < 16) :
  Calls Tryz.prog 91 #[.slice A s.length c] w (J9 w (.tuple #[.int .u32 (((M4 s).1:Nat):Int),.int .i64 (((M4 s).2:Nat):Int)])):=by
 refine enter (n:=87) Tryz.func91 rfl Tryz.ntmps91 kz fun a hE=>?_
 have hW:=WOk.start w C7
 have hl1:=Nat.le_trans (Pa (s:=s)) hl
 let ab:Nat × SV:=(0,.v (.slice A s.length c))
 refine B9 [ab] hW hE fun a1 hE2=>?_
 refine wp_scope_straight (B9 [ab] hW hE2 fun a3 hE4=>?_)
 refine B9 [ab] hW hE4 fun a5 hE6=>?_
 refine wp_seq (B9 [ab,(8,.v (.bool (decide (((s.length:Nat):Int) < 1))))] hW hE6 fun a7 hE8=>?_)
 refine G6 hE8 (b:=decide (((s.length:Nat):Int) < 1)) kz (decide_eq_false (by omega)) ?_
 refine wp_skip (A4 (C1 [0,1,2,3,4,5] kz ?_))
 refine B3 [0] [1,2,3,4,5] [ab,(9,.v (.slice A s.length c))] hW hE8 fun a9 aS=>?_
 obtain ⟨bE,bF,ax,bN,ag⟩:=Slots.get ho (i:=0) (by first | omega | (simp only [List.length_append,be_length,List.length_cons,List.length_nil] at *; omega))
 refine B1 (J7 aS (t:=22) (A:=A) (m:=s.length) (q:=0) (d:=10) kz (e:=5) (size:=1) (bytes:=1) (j:=0) kz ax rfl (by first | omega | (simp only [List.length_append,be_length,List.length_cons,List.length_nil] at *; omega)) fun cr aT=>?_)
 refine B1 (M7 aT (t:=5) (b:=bE) (o:=bF + 0 * 1) (d:=11) kz (cs:=[.int .u8 ((s.getD 0 0).toNat:Int)]) (v:=.int .u8 ((s.getD 0 0).toNat:Int)) kz (AtF.move ag hW.step B2 F3).at_ fun cu aU=>?_)
 refine B3 [3,4,5] [] [ab,(4,.v (.int .u32 (IntKind.u32.wrap (IntKind.u8.wrap (BitVec.ofInt 8 ((s.getD 0 0).toNat:Int) &&& BitVec.ofInt 8 127).toNat))))] hW aU fun cv aV=>?_
 refine B4 (A4 ?_)
 refine wp_seq (C1 [0,1,2,3,4] kz ?_)
 refine B3 [0] [1,2,3,4] [ab,(4,.v (.int .u32 (IntKind.u32.wrap (IntKind.u8.wrap (BitVec.ofInt 8 ((s.getD 0 0).toNat:Int) &&& BitVec.ofInt 8 127).toNat)))),(14,.v (.slice A s.length c))] hW aV fun cw aW=>?_
 refine B1 (J7 aW (t:=22) (A:=A) (m:=s.length) (q:=0) (d:=15) kz (e:=5) (size:=1) (bytes:=1) (j:=0) kz ax rfl (by first | omega | (simp only [List.length_append,be_length,List.length_cons,List.length_nil] at *; omega)) fun cy aX=>?_)
 refine B1 (M7 aX (t:=5) (b:=bE) (o:=bF + 0 * 1) (d:=16) kz (cs:=[.int .u8 ((s.getD 0 0).toNat:Int)]) (v:=.int .u8 ((s.getD 0 0).toNat:Int)) kz (AtF.move ag hW.step B2 F3).at_ fun cz aY=>?_)
 refine B3 [3,4] [] [ab,(4,.v (.int .u32 (IntKind.u32.wrap (IntKind.u8.wrap (BitVec.ofInt 8 ((s.getD 0 0).toNat:Int) &&& BitVec.ofInt 8 127).toNat)))),(18,.v (.bool ((IntKind.u8.wrap (BitVec.ofInt 8 ((s.getD 0 0).toNat:Int) &&& BitVec.ofInt 8 128).toNat) == 0)))] hW aY fun cA ao=>?_
 refine B4 (A4 ?_)
 refine E2 ao (b:=(IntKind.u8.wrap (BitVec.ofInt 8 ((s.getD 0 0).toNat:Int) &&& BitVec.ofInt 8 128).toNat) == 0) kz (fun ap=>?_) (fun ap=>?_)
 ·
  have q0:oc s 0 < 128:=of_decide_eq_true ((Bj _ (H0 s 0)).symm.trans ap)
  refine B9 [(2,.v (.int .u32 (IntKind.u32.wrap (IntKind.u8.wrap (BitVec.ofInt 8 ((s.getD 0 0).toNat:Int) &&& BitVec.ofInt 8 127).toNat)))),(3,.v (.int .i64 1))] hW ao fun cB aZ=>?_
  refine wp_ret (F5 (Dj (D1 aZ hW.cells (v:=.tuple #[.int .u32 (IntKind.u32.wrap (IntKind.u8.wrap (BitVec.ofInt 8 ((s.getD 0 0).toNat:Int) &&& BitVec.ofInt 8 127).toNat)),.int .i64 1]) kz ?_)))
  have e_:=Gy (oc s 0) (H0 s 0)
  have r_:M4 s = (oc s 0,1):=by unfold M4; rw [if_pos q0]
  have b0_:=H0 s 0
  rw [r_]
  refine ⟨congrArg (fun z_:Int=>Ending.returned (.tuple #[.int .u32 z_,.int .i64 1])) (Eq.trans e_ ?_),hW.step⟩
  show _ = ((oc s 0:Nat):Int)
  omega
 have q0:¬ oc s 0 < 128:=of_decide_eq_false ((Bj _ (H0 s 0)).symm.trans ap)
 have hl2:=Nat.le_trans (Pb q0) hl
 refine B9 [ab,(4,.v (.int .u32 (IntKind.u32.wrap (IntKind.u8.wrap (BitVec.ofInt 8 ((s.getD 0 0).toNat:Int) &&& BitVec.ofInt 8 127).toNat)))),(22,.v (.bool (decide (((s.length:Nat):Int) < 2))))] hW ao fun cC ay=>?_
 refine G6 ay (b:=decide (((s.length:Nat):Int) < 2)) kz (decide_eq_false (by omega)) ?_
 refine wp_skip (A4 (C1 [0,1,2,3,4,5,6,7,8] kz ?_))
 refine B3 [0,1] [2,3,4,5,6,7,8] [ab,(23,.v (.int .u32 (IntKind.u32.wrap (IntKind.u8.wrap (BitVec.ofInt 8 ((s.getD 0 0).toNat:Int) &&& BitVec.ofInt 8 127).toNat)))),(24,.v (.slice A s.length c))] hW ay fun cE ba=>?_
 obtain ⟨bG,bH,az,bO,ah⟩:=Slots.get ho (i:=1) (by first | omega | (simp only [List.length_append,be_length,List.length_cons,List.length_nil] at *; omega))
 refine B1 (J7 ba (t:=22) (A:=A) (m:=s.length) (q:=1) (d:=25) kz (e:=5) (size:=1) (bytes:=1) (j:=1) kz az rfl (by first | omega | (simp only [List.length_append,be_length,List.length_cons,List.length_nil] at *; omega)) fun cG bd=>?_)
 refine B1 (M7 bd (t:=5) (b:=bG) (o:=bH + 1 * 1) (d:=26) kz (cs:=[.int .u8 ((s.getD 1 0).toNat:Int)]) (v:=.int .u8 ((s.getD 1 0).toNat:Int)) kz (AtF.move ah hW.step B2 F3).at_ fun cH bf=>?_)
 refine B3 [4,5,6,7,8] [] [ab,(4,.v (.int .u32 (IntKind.u32.wrap (BitVec.ofInt 32 (IntKind.u32.wrap (IntKind.u8.wrap (BitVec.ofInt 8 ((s.getD 0 0).toNat:Int) &&& BitVec.ofInt 8 127).toNat)) ||| BitVec.ofInt 32 (IntKind.u32.wrap ((IntKind.u32.wrap (IntKind.u8.wrap (BitVec.ofInt 8 ((s.getD 1 0).toNat:Int) &&& BitVec.ofInt 8 127).toNat)) * 128))).toNat)))] hW bf fun cI bg=>?_
 refine B4 (A4 ?_)
 refine wp_seq (C1 [0,1,2,3,4] kz ?_)
 refine B3 [0] [1,2,3,4] [ab,(4,.v (.int .u32 (IntKind.u32.wrap (BitVec.ofInt 32 (IntKind.u32.wrap (IntKind.u8.wrap (BitVec.ofInt 8 ((s.getD 0 0).toNat:Int) &&& BitVec.ofInt 8 127).toNat)) ||| BitVec.ofInt 32 (IntKind.u32.wrap ((IntKind.u32.wrap (IntKind.u8.wrap (BitVec.ofInt 8 ((s.getD 1 0).toNat:Int) &&& BitVec.ofInt 8 127).toNat)) * 128))).toNat))),(31,.v (.slice A s.length c))] hW bg fun cJ bh=>?_
 refine B1 (J7 bh (t:=22) (A:=A) (m:=s.length) (q:=1) (d:=32) kz (e:=5) (size:=1) (bytes:=1) (j:=1) kz az rfl (by first | omega | (simp only [List.length_append,be_length,List.length_cons,List.length_nil] at *; omega)) fun cK bj=>?_)
 refine B1 (M7 bj (t:=5) (b:=bG) (o:=bH + 1 * 1) (d:=33) kz (cs:=[.int .u8 ((s.getD 1 0).toNat:Int)]) (v:=.int .u8 ((s.getD 1 0).toNat:Int)) kz (AtF.move ah hW.step B2 F3).at_ fun cL bk=>?_)
 refine B3 [3,4] [] [ab,(4,.v (.int .u32 (IntKind.u32.wrap (BitVec.ofInt 32 (IntKind.u32.wrap (IntKind.u8.wrap (BitVec.ofInt 8 ((s.getD 0 0).toNat:Int) &&& BitVec.ofInt 8 127).toNat)) ||| BitVec.ofInt 32 (IntKind.u32.wrap ((IntKind.u32.wrap (IntKind.u8.wrap (BitVec.ofInt 8 ((s.getD 1 0).toNat:Int) &&& BitVec.ofInt 8 127).toNat)) * 128))).toNat))),(35,.v (.bool ((IntKind.u8.wrap (BitVec.ofInt 8 ((s.getD 1 0).toNat:Int) &&& BitVec.ofInt 8 128).toNat) == 0)))] hW bk fun cM ar=>?_
 refine B4 (A4 ?_)
 refine E2 ar (b:=(IntKind.u8.wrap (BitVec.ofInt 8 ((s.getD 1 0).toNat:Int) &&& BitVec.ofInt 8 128).toNat) == 0) kz (fun au=>?_) (fun au=>?_)
 ·
  have q1:oc s 1 < 128:=of_decide_eq_true ((Bj _ (H0 s 1)).symm.trans au)
  refine B9 [(2,.v (.int .u32 (IntKind.u32.wrap (BitVec.ofInt 32 (IntKind.u32.wrap (IntKind.u8.wrap (BitVec.ofInt 8 ((s.getD 0 0).toNat:Int) &&& BitVec.ofInt 8 127).toNat)) ||| BitVec.ofInt 32 (IntKind.u32.wrap ((IntKind.u32.wrap (IntKind.u8.wrap (BitVec.ofInt 8 ((s.getD 1 0).toNat:Int) &&& BitVec.ofInt 8 127).toNat)) * 128))).toNat))),(3,.v (.int .i64 2))] hW ar fun cN bn=>?_
  refine wp_ret (F5 (Dj (D1 bn hW.cells (v:=.tuple #[.int .u32 (IntKind.u32.wrap (BitVec.ofInt 32 (IntKind.u32.wrap (IntKind.u8.wrap (BitVec.ofInt 8 ((s.getD 0 0).toNat:Int) &&& BitVec.ofInt 8 127).toNat)) ||| BitVec.ofInt 32 (IntKind.u32.wrap ((IntKind.u32.wrap (IntKind.u8.wrap (BitVec.ofInt 8 ((s.getD 1 0).toNat:Int) &&& BitVec.ofInt 8 127).toNat)) * 128))).toNat),.int .i64 2]) kz ?_)))
  have e_:=Gz (oc s 0) (oc s 1) (H0 s 0) (H0 s 1)
  have r_:M4 s = (oc s 0 - 128 + oc s 1 * 128,2):=by unfold M4; rw [if_neg q0,if_pos q1]
  have b0_:=H0 s 0
  have b1_:=H0 s 1
  rw [r_]
  refine ⟨congrArg (fun z_:Int=>Ending.returned (.tuple #[.int .u32 z_,.int .i64 2])) (Eq.trans e_ ?_),hW.step⟩
  show _ = ((oc s 0 - 128 + oc s 1 * 128:Nat):Int)
  omega
 have q1:¬ oc s 1 < 128:=of_decide_eq_false ((Bj _ (H0 s 1)).symm.trans au)
 have hl3:=Nat.le_trans (Pc q0 q1) hl
 refine B9 [ab,(4,.v (.int .u32 (IntKind.u32.wrap (BitVec.ofInt 32 (IntKind.u32.wrap (IntKind.u8.wrap (BitVec.ofInt 8 ((s.getD 0 0).toNat:Int) &&& BitVec.ofInt 8 127).toNat)) ||| BitVec.ofInt 32 (IntKind.u32.wrap ((IntKind.u32.wrap (IntKind.u8.wrap (BitVec.ofInt 8 ((s.getD 1 0).toNat:Int) &&& BitVec.ofInt 8 127).toNat)) * 128))).toNat))),(39,.v (.bool (decide (((s.length:Nat):Int) < 3))))] hW ar fun cO aA=>?_
 refine G6 aA (b:=decide (((s.length:Nat):Int) < 3)) kz (decide_eq_false (by omega)) ?_
 refine wp_skip (A4 (C1 [0,1,2,3,4,5,6,7,8] kz ?_))
 refine B3 [0,1] [2,3,4,5,6,7,8] [ab,(40,.v (.int .u32 (IntKind.u32.wrap (BitVec.ofInt 32 (IntKind.u32.wrap (IntKind.u8.wrap (BitVec.ofInt 8 ((s.getD 0 0).toNat:Int) &&& BitVec.ofInt 8 127).toNat)) ||| BitVec.ofInt 32 (IntKind.u32.wrap ((IntKind.u32.wrap (IntKind.u8.wrap (BitVec.ofInt 8 ((s.getD 1 0).toNat:Int) &&& BitVec.ofInt 8 127).toNat)) * 128))).toNat))),(41,.v (.slice A s.length c))] hW aA fun cP bo=>?_
 obtain ⟨bI,bJ,aB,bP,ai⟩:=Slots.get ho (i:=2) (by first | omega | (simp only [List.length_append,be_length,List.length_cons,List.length_nil] at *; omega))
 refine B1 (J7 bo (t:=22) (A:=A) (m:=s.length) (q:=2) (d:=42) kz (e:=5) (size:=1) (bytes:=1) (j:=2) kz aB rfl (by first | omega | (simp only [List.length_append,be_length,List.length_cons,List.length_nil] at *; omega)) fun cQ bp=>?_)
 refine B1 (M7 bp (t:=5) (b:=bI) (o:=bJ + 2 * 1) (d:=43) kz (cs:=[.int .u8 ((s.getD 2 0).toNat:Int)]) (v:=.int .u8 ((s.getD 2 0).toNat:Int)) kz (AtF.move ai hW.step B2 F3).at_ fun cR bq=>?_)
 refine B3 [4,5,6,7,8] [] [ab,(4,.v (.int .u32 (IntKind.u32.wrap (BitVec.ofInt 32 (IntKind.u32.wrap (BitVec.ofInt 32 (IntKind.u32.wrap (IntKind.u8.wrap (BitVec.ofInt 8 ((s.getD 0 0).toNat:Int) &&& BitVec.ofInt 8 127).toNat)) ||| BitVec.ofInt 32 (IntKind.u32.wrap ((IntKind.u32.wrap (IntKind.u8.wrap (BitVec.ofInt 8 ((s.getD 1 0).toNat:Int) &&& BitVec.ofInt 8 127).toNat)) * 128))).toNat) ||| BitVec.ofInt 32 (IntKind.u32.wrap ((IntKind.u32.wrap (IntKind.u8.wrap (BitVec.ofInt 8 ((s.getD 2 0).toNat:Int) &&& BitVec.ofInt 8 127).toNat)) * 16384))).toNat)))] hW bq fun cS bt=>?_
 refine B4 (A4 ?_)
 refine wp_seq (C1 [0,1,2,3,4] kz ?_)
 refine B3 [0] [1,2,3,4] [ab,(4,.v (.int .u32 (IntKind.u32.wrap (BitVec.ofInt 32 (IntKind.u32.wrap (BitVec.ofInt 32 (IntKind.u32.wrap (IntKind.u8.wrap (BitVec.ofInt 8 ((s.getD 0 0).toNat:Int) &&& BitVec.ofInt 8 127).toNat)) ||| BitVec.ofInt 32 (IntKind.u32.wrap ((IntKind.u32.wrap (IntKind.u8.wrap (BitVec.ofInt 8 ((s.getD 1 0).toNat:Int) &&& BitVec.ofInt 8 127).toNat)) * 128))).toNat) ||| BitVec.ofInt 32 (IntKind.u32.wrap ((IntKind.u32.wrap (IntKind.u8.wrap (BitVec.ofInt 8 ((s.getD 2 0).toNat:Int) &&& BitVec.ofInt 8 127).toNat)) * 16384))).toNat))),(48,.v (.slice A s.length c))] hW bt fun cU bu=>?_
 refine B1 (J7 bu (t:=22) (A:=A) (m:=s.length) (q:=2) (d:=49) kz (e:=5) (size:=1) (bytes:=1) (j:=2) kz aB rfl (by first | omega | (simp only [List.length_append,be_length,List.length_cons,List.length_nil] at *; omega)) fun cV bw=>?_)
 refine B1 (M7 bw (t:=5) (b:=bI) (o:=bJ + 2 * 1) (d:=50) kz (cs:=[.int .u8 ((s.getD 2 0).toNat:Int)]) (v:=.int .u8 ((s.getD 2 0).toNat:Int)) kz (AtF.move ai hW.step B2 F3).at_ fun cW bx=>?_)
 refine B3 [3,4] [] [ab,(4,.v (.int .u32 (IntKind.u32.wrap (BitVec.ofInt 32 (IntKind.u32.wrap (BitVec.ofInt 32 (IntKind.u32.wrap (IntKind.u8.wrap (BitVec.ofInt 8 ((s.getD 0 0).toNat:Int) &&& BitVec.ofInt 8 127).toNat)) ||| BitVec.ofInt 32 (IntKind.u32.wrap ((IntKind.u32.wrap (IntKind.u8.wrap (BitVec.ofInt 8 ((s.getD 1 0).toNat:Int) &&& BitVec.ofInt 8 127).toNat)) * 128))).toNat) ||| BitVec.ofInt 32 (IntKind.u32.wrap ((IntKind.u32.wrap (IntKind.u8.wrap (BitVec.ofInt 8 ((s.getD 2 0).toNat:Int) &&& BitVec.ofInt 8 127).toNat)) * 16384))).toNat))),(52,.v (.bool ((IntKind.u8.wrap (BitVec.ofInt 8 ((s.getD 2 0).toNat:Int) &&& BitVec.ofInt 8 128).toNat) == 0)))] hW bx fun cX av=>?_
 refine B4 (A4 ?_)
 refine E2 av (b:=(IntKind.u8.wrap (BitVec.ofInt 8 ((s.getD 2 0).toNat:Int) &&& BitVec.ofInt 8 128).toNat) == 0) kz (fun aw=>?_) (fun aw=>?_)
 ·
  have q2:oc s 2 < 128:=of_decide_eq_true ((Bj _ (H0 s 2)).symm.trans aw)
  refine B9 [(2,.v (.int .u32 (IntKind.u32.wrap (BitVec.ofInt 32 (IntKind.u32.wrap (BitVec.ofInt 32 (IntKind.u32.wrap (IntKind.u8.wrap (BitVec.ofInt 8 ((s.getD 0 0).toNat:Int) &&& BitVec.ofInt 8 127).toNat)) ||| BitVec.ofInt 32 (IntKind.u32.wrap ((IntKind.u32.wrap (IntKind.u8.wrap (BitVec.ofInt 8 ((s.getD 1 0).toNat:Int) &&& BitVec.ofInt 8 127).toNat)) * 128))).toNat) ||| BitVec.ofInt 32 (IntKind.u32.wrap ((IntKind.u32.wrap (IntKind.u8.wrap (BitVec.ofInt 8 ((s.getD 2 0).toNat:Int) &&& BitVec.ofInt 8 127).toNat)) * 16384))).toNat))),(3,.v (.int .i64 3))] hW av fun cY bz=>?_
  refine wp_ret (F5 (Dj (D1 bz hW.cells (v:=.tuple #[.int .u32 (IntKind.u32.wrap (BitVec.ofInt 32 (IntKind.u32.wrap (BitVec.ofInt 32 (IntKind.u32.wrap (IntKind.u8.wrap (BitVec.ofInt 8 ((s.getD 0 0).toNat:Int) &&& BitVec.ofInt 8 127).toNat)) ||| BitVec.ofInt 32 (IntKind.u32.wrap ((IntKind.u32.wrap (IntKind.u8.wrap (BitVec.ofInt 8 ((s.getD 1 0).toNat:Int) &&& BitVec.ofInt 8 127).toNat)) * 128))).toNat) ||| BitVec.ofInt 32 (IntKind.u32.wrap ((IntKind.u32.wrap (IntKind.u8.wrap (BitVec.ofInt 8 ((s.getD 2 0).toNat:Int) &&& BitVec.ofInt 8 127).toNat)) * 16384))).toNat),.int .i64 3]) kz ?_)))
  have e_:=GA (oc s 0) (oc s 1) (oc s 2) (H0 s 0) (H0 s 1) (H0 s 2)
  have r_:M4 s = (oc s 0 - 128 + (oc s 1 - 128) * 128 + oc s 2 * 16384,3):=by unfold M4; rw [if_neg q0,if_neg q1,if_pos q2]
  have b0_:=H0 s 0
  have b1_:=H0 s 1
  have b2_:=H0 s 2
  rw [r_]
  refine ⟨congrArg (fun z_:Int=>Ending.returned (.tuple #[.int .u32 z_,.int .i64 3])) (Eq.trans e_ ?_),hW.step⟩
  show _ = ((oc s 0 - 128 + (oc s 1 - 128) * 128 + oc s 2 * 16384:Nat):Int)
  omega
 have q2:¬ oc s 2 < 128:=of_decide_eq_false ((Bj _ (H0 s 2)).symm.trans aw)
 have hl4:=Nat.le_trans (Pd q0 q1 q2) hl
 refine B9 [ab,(4,.v (.int .u32 (IntKind.u32.wrap (BitVec.ofInt 32 (IntKind.u32.wrap (BitVec.ofInt 32 (IntKind.u32.wrap (IntKind.u8.wrap (BitVec.ofInt 8 ((s.getD 0 0).toNat:Int) &&& BitVec.ofInt 8 127).toNat)) ||| BitVec.ofInt 32 (IntKind.u32.wrap ((IntKind.u32.wrap (IntKind.u8.wrap (BitVec.ofInt 8 ((s.getD 1 0).toNat:Int) &&& BitVec.ofInt 8 127).toNat)) * 128))).toNat) ||| BitVec.ofInt 32 (IntKind.u32.wrap ((IntKind.u32.wrap (IntKind.u8.wrap (BitVec.ofInt 8 ((s.getD 2 0).toNat:Int) &&& BitVec.ofInt 8 127).toNat)) * 16384))).toNat))),(56,.v (.bool (decide (((s.length:Nat):Int) < 4))))] hW av fun cZ aC=>?_
 refine G6 aC (b:=decide (((s.length:Nat):Int) < 4)) kz (decide_eq_false (by omega)) ?_
 refine wp_skip (A4 (C1 [0,1,2,3,4,5,6,7,8] kz ?_))
 refine B3 [0,1] [2,3,4,5,6,7,8] [ab,(57,.v (.int .u32 (IntKind.u32.wrap (BitVec.ofInt 32 (IntKind.u32.wrap (BitVec.ofInt 32 (IntKind.u32.wrap (IntKind.u8.wrap (BitVec.ofInt 8 ((s.getD 0 0).toNat:Int) &&& BitVec.ofInt 8 127).toNat)) ||| BitVec.ofInt 32 (IntKind.u32.wrap ((IntKind.u32.wrap (IntKind.u8.wrap (BitVec.ofInt 8 ((s.getD 1 0).toNat:Int) &&& BitVec.ofInt 8 127).toNat)) * 128))).toNat) ||| BitVec.ofInt 32 (IntKind.u32.wrap ((IntKind.u32.wrap (IntKind.u8.wrap (BitVec.ofInt 8 ((s.getD 2 0).toNat:Int) &&& BitVec.ofInt 8 127).toNat)) * 16384))).toNat))),(58,.v (.slice A s.length c))] hW aC fun da bA=>?_
 obtain ⟨bK,bL,aD,bQ,aj⟩:=Slots.get ho (i:=3) (by first | omega | (simp only [List.length_append,be_length,List.length_cons,List.length_nil] at *; omega))
 refine B1 (J7 bA (t:=22) (A:=A) (m:=s.length) (q:=3) (d:=59) kz (e:=5) (size:=1) (bytes:=1) (j:=3) kz aD rfl (by first | omega | (simp only [List.length_append,be_length,List.length_cons,List.length_nil] at *; omega)) fun db bB=>?_)
 refine B1 (M7 bB (t:=5) (b:=bK) (o:=bL + 3 * 1) (d:=60) kz (cs:=[.int .u8 ((s.getD 3 0).toNat:Int)]) (v:=.int .u8 ((s.getD 3 0).toNat:Int)) kz (AtF.move aj hW.step B2 F3).at_ fun dc bC=>?_)
 refine B3 [4,5,6,7,8] [] [ab,(4,.v (.int .u32 (IntKind.u32.wrap (BitVec.ofInt 32 (IntKind.u32.wrap (BitVec.ofInt 32 (IntKind.u32.wrap (BitVec.ofInt 32 (IntKind.u32.wrap (IntKind.u8.wrap (BitVec.ofInt 8 ((s.getD 0 0).toNat:Int) &&& BitVec.ofInt 8 127).toNat)) ||| BitVec.ofInt 32 (IntKind.u32.wrap ((IntKind.u32.wrap (IntKind.u8.wrap (BitVec.ofInt 8 ((s.getD 1 0).toNat:Int) &&& BitVec.ofInt 8 127).toNat)) * 128))).toNat) ||| BitVec.ofInt 32 (IntKind.u32.wrap ((IntKind.u32.wrap (IntKind.u8.wrap (BitVec.ofInt 8 ((s.getD 2 0).toNat:Int) &&& BitVec.ofInt 8 127).toNat)) * 16384))).toNat) ||| BitVec.ofInt 32 (IntKind.u32.wrap ((IntKind.u32.wrap (IntKind.u8.wrap (BitVec.ofInt 8 ((s.getD 3 0).toNat:Int) &&& BitVec.ofInt 8 127).toNat)) * 2097152))).toNat)))] hW bC fun de bD=>?_
 refine B4 (A4 ?_)
 refine wp_seq (C1 [0,1,2,3,4] kz ?_)
 refine B3 [0] [1,2,3,4] [ab,(4,.v (.int .u32 (IntKind.u32.wrap (BitVec.ofInt 32 (IntKind.u32.wrap (BitVec.ofInt 32 (IntKind.u32.wrap (BitVec.ofInt 32 (IntKind.u32.wrap (IntKind.u8.wrap (BitVec.ofInt 8 ((s.getD 0 0).toNat:Int) &&& BitVec.ofInt 8 127).toNat)) ||| BitVec.ofInt 32 (IntKind.u32.wrap ((IntKind.u32.wrap (IntKind.u8.wrap (BitVec.ofInt 8 ((s.getD 1 0).toNat:Int) &&& BitVec.ofInt 8 127).toNat)) * 128))).toNat) ||| BitVec.ofInt 32 (IntKind.u32.wrap ((IntKind.u32.wrap (IntKind.u8.wrap (BitVec.ofInt 8 ((s.getD 2 0).toNat:Int) &&& BitVec.ofInt 8 127).toNat)) * 16384))).toNat) ||| BitVec.ofInt 32 (IntKind.u32.wrap ((IntKind.u32.wrap (IntKind.u8.wrap (BitVec.ofInt 8 ((s.getD 3 0).toNat:Int) &&& BitVec.ofInt 8 127).toNat)) * 2097152))).toNat))),(65,.v (.slice A s.length c))] hW bD fun bR aE=>?_
 refine B1 (J7 aE (t:=22) (A:=A) (m:=s.length) (q:=3) (d:=66) kz (e:=5) (size:=1) (bytes:=1) (j:=3) kz aD rfl (by first | omega | (simp only [List.length_append,be_length,List.length_cons,List.length_nil] at *; omega)) fun bS aF=>?_)
 refine B1 (M7 aF (t:=5) (b:=bK) (o:=bL + 3 * 1) (d:=67) kz (cs:=[.int .u8 ((s.getD 3 0).toNat:Int)]) (v:=.int .u8 ((s.getD 3 0).toNat:Int)) kz (AtF.move aj hW.step B2 F3).at_ fun bT aG=>?_)
 refine B3 [3,4] [] [ab,(4,.v (.int .u32 (IntKind.u32.wrap (BitVec.ofInt 32 (IntKind.u32.wrap (BitVec.ofInt 32 (IntKind.u32.wrap (BitVec.ofInt 32 (IntKind.u32.wrap (IntKind.u8.wrap (BitVec.ofInt 8 ((s.getD 0 0).toNat:Int) &&& BitVec.ofInt 8 127).toNat)) ||| BitVec.ofInt 32 (IntKind.u32.wrap ((IntKind.u32.wrap (IntKind.u8.wrap (BitVec.ofInt 8 ((s.getD 1 0).toNat:Int) &&& BitVec.ofInt 8 127).toNat)) * 128))).toNat) ||| BitVec.ofInt 32 (IntKind.u32.wrap ((IntKind.u32.wrap (IntKind.u8.wrap (BitVec.ofInt 8 ((s.getD 2 0).toNat:Int) &&& BitVec.ofInt 8 127).toNat)) * 16384))).toNat) ||| BitVec.ofInt 32 (IntKind.u32.wrap ((IntKind.u32.wrap (IntKind.u8.wrap (BitVec.ofInt 8 ((s.getD 3 0).toNat:Int) &&& BitVec.ofInt 8 127).toNat)) * 2097152))).toNat))),(69,.v (.bool ((IntKind.u8.wrap (BitVec.ofInt 8 ((s.getD 3 0).toNat:Int) &&& BitVec.ofInt 8 128).toNat) == 0)))] hW aG fun bU ac=>?_
 refine B4 (A4 ?_)
 refine E2 ac (b:=(IntKind.u8.wrap (BitVec.ofInt 8 ((s.getD 3 0).toNat:Int) &&& BitVec.ofInt 8 128).toNat) == 0) kz (fun ae=>?_) (fun ae=>?_)
 ·
  have q3:oc s 3 < 128:=of_decide_eq_true ((Bj _ (H0 s 3)).symm.trans ae)
  refine B9 [(2,.v (.int .u32 (IntKind.u32.wrap (BitVec.ofInt 32 (IntKind.u32.wrap (BitVec.ofInt 32 (IntKind.u32.wrap (BitVec.ofInt 32 (IntKind.u32.wrap (IntKind.u8.wrap (BitVec.ofInt 8 ((s.getD 0 0).toNat:Int) &&& BitVec.ofInt 8 127).toNat)) ||| BitVec.ofInt 32 (IntKind.u32.wrap ((IntKind.u32.wrap (IntKind.u8.wrap (BitVec.ofInt 8 ((s.getD 1 0).toNat:Int) &&& BitVec.ofInt 8 127).toNat)) * 128))).toNat) ||| BitVec.ofInt 32 (IntKind.u32.wrap ((IntKind.u32.wrap (IntKind.u8.wrap (BitVec.ofInt 8 ((s.getD 2 0).toNat:Int) &&& BitVec.ofInt 8 127).toNat)) * 16384))).toNat) ||| BitVec.ofInt 32 (IntKind.u32.wrap ((IntKind.u32.wrap (IntKind.u8.wrap (BitVec.ofInt 8 ((s.getD 3 0).toNat:Int) &&& BitVec.ofInt 8 127).toNat)) * 2097152))).toNat))),(3,.v (.int .i64 4))] hW ac fun bV aH=>?_
  refine wp_ret (F5 (Dj (D1 aH hW.cells (v:=.tuple #[.int .u32 (IntKind.u32.wrap (BitVec.ofInt 32 (IntKind.u32.wrap (BitVec.ofInt 32 (IntKind.u32.wrap (BitVec.ofInt 32 (IntKind.u32.wrap (IntKind.u8.wrap (BitVec.ofInt 8 ((s.getD 0 0).toNat:Int) &&& BitVec.ofInt 8 127).toNat)) ||| BitVec.ofInt 32 (IntKind.u32.wrap ((IntKind.u32.wrap (IntKind.u8.wrap (BitVec.ofInt 8 ((s.getD 1 0).toNat:Int) &&& BitVec.ofInt 8 127).toNat)) * 128))).toNat) ||| BitVec.ofInt 32 (IntKind.u32.wrap ((IntKind.u32.wrap (IntKind.u8.wrap (BitVec.ofInt 8 ((s.getD 2 0).toNat:Int) &&& BitVec.ofInt 8 127).toNat)) * 16384))).toNat) ||| BitVec.ofInt 32 (IntKind.u32.wrap ((IntKind.u32.wrap (IntKind.u8.wrap (BitVec.ofInt 8 ((s.getD 3 0).toNat:Int) &&& BitVec.ofInt 8 127).toNat)) * 2097152))).toNat),.int .i64 4]) kz ?_)))
  have e_:=GB (oc s 0) (oc s 1) (oc s 2) (oc s 3) (H0 s 0) (H0 s 1) (H0 s 2) (H0 s 3)
  have r_:M4 s = (oc s 0 - 128 + (oc s 1 - 128) * 128 + (oc s 2 - 128) * 16384 + oc s 3 * 2097152,4):=by unfold M4; rw [if_neg q0,if_neg q1,if_neg q2,if_pos q3]
  have b0_:=H0 s 0
  have b1_:=H0 s 1
  have b2_:=H0 s 2
  have b3_:=H0 s 3
  rw [r_]
  refine ⟨congrArg (fun z_:Int=>Ending.returned (.tuple #[.int .u32 z_,.int .i64 4])) (Eq.trans e_ ?_),hW.step⟩
  show _ = ((oc s 0 - 128 + (oc s 1 - 128) * 128 + (oc s 2 - 128) * 16384 + oc s 3 * 2097152:Nat):Int)
  omega
 have q3:¬ oc s 3 < 128:=of_decide_eq_false ((Bj _ (H0 s 3)).symm.trans ae)
 have hl5:5 ≤ s.length:=by have:=JL q0 q1 q2 q3; omega
 have g5:=g4 (JL q0 q1 q2 q3)
 refine B9 [ab,(4,.v (.int .u32 (IntKind.u32.wrap (BitVec.ofInt 32 (IntKind.u32.wrap (BitVec.ofInt 32 (IntKind.u32.wrap (BitVec.ofInt 32 (IntKind.u32.wrap (IntKind.u8.wrap (BitVec.ofInt 8 ((s.getD 0 0).toNat:Int) &&& BitVec.ofInt 8 127).toNat)) ||| BitVec.ofInt 32 (IntKind.u32.wrap ((IntKind.u32.wrap (IntKind.u8.wrap (BitVec.ofInt 8 ((s.getD 1 0).toNat:Int) &&& BitVec.ofInt 8 127).toNat)) * 128))).toNat) ||| BitVec.ofInt 32 (IntKind.u32.wrap ((IntKind.u32.wrap (IntKind.u8.wrap (BitVec.ofInt 8 ((s.getD 2 0).toNat:Int) &&& BitVec.ofInt 8 127).toNat)) * 16384))).toNat) ||| BitVec.ofInt 32 (IntKind.u32.wrap ((IntKind.u32.wrap (IntKind.u8.wrap (BitVec.ofInt 8 ((s.getD 3 0).toNat:Int) &&& BitVec.ofInt 8 127).toNat)) * 2097152))).toNat))),(73,.v (.bool (decide (((s.length:Nat):Int) < 5))))] hW ac fun bW ak=>?_
 refine G6 ak (b:=decide (((s.length:Nat):Int) < 5)) kz (decide_eq_false (by omega)) ?_
 refine wp_skip (A4 (C1 [0,1,2,3,4,5,6,7] kz ?_))
 refine B3 [0,1] [2,3,4,5,6,7] [ab,(74,.v (.int .u32 (IntKind.u32.wrap (BitVec.ofInt 32 (IntKind.u32.wrap (BitVec.ofInt 32 (IntKind.u32.wrap (BitVec.ofInt 32 (IntKind.u32.wrap (IntKind.u8.wrap (BitVec.ofInt 8 ((s.getD 0 0).toNat:Int) &&& BitVec.ofInt 8 127).toNat)) ||| BitVec.ofInt 32 (IntKind.u32.wrap ((IntKind.u32.wrap (IntKind.u8.wrap (BitVec.ofInt 8 ((s.getD 1 0).toNat:Int) &&& BitVec.ofInt 8 127).toNat)) * 128))).toNat) ||| BitVec.ofInt 32 (IntKind.u32.wrap ((IntKind.u32.wrap (IntKind.u8.wrap (BitVec.ofInt 8 ((s.getD 2 0).toNat:Int) &&& BitVec.ofInt 8 127).toNat)) * 16384))).toNat) ||| BitVec.ofInt 32 (IntKind.u32.wrap ((IntKind.u32.wrap (IntKind.u8.wrap (BitVec.ofInt 8 ((s.getD 3 0).toNat:Int) &&& BitVec.ofInt 8 127).toNat)) * 2097152))).toNat))),(75,.v (.slice A s.length c))] hW ak fun bX aI=>?_
 obtain ⟨aJ,aK,al,bM,af⟩:=Slots.get ho (i:=4) (by first | omega | (simp only [List.length_append,be_length,List.length_cons,List.length_nil] at *; omega))
 refine B1 (J7 aI (t:=22) (A:=A) (m:=s.length) (q:=4) (d:=76) kz (e:=5) (size:=1) (bytes:=1) (j:=4) kz al rfl (by first | omega | (simp only [List.length_append,be_length,List.length_cons,List.length_nil] at *; omega)) fun bY aL=>?_)
 refine B1 (M7 aL (t:=5) (b:=aJ) (o:=aK + 4 * 1) (d:=77) kz (cs:=[.int .u8 ((s.getD 4 0).toNat:Int)]) (v:=.int .u8 ((s.getD 4 0).toNat:Int)) kz (AtF.move af hW.step B2 F3).at_ fun bZ aM=>?_)
 refine B3 [4,5,6,7] [] [ab,(4,.v (.int .u32 (IntKind.u32.wrap (BitVec.ofInt 32 (IntKind.u32.wrap (BitVec.ofInt 32 (IntKind.u32.wrap (BitVec.ofInt 32 (IntKind.u32.wrap (BitVec.ofInt 32 (IntKind.u32.wrap (IntKind.u8.wrap (BitVec.ofInt 8 ((s.getD 0 0).toNat:Int) &&& BitVec.ofInt 8 127).toNat)) ||| BitVec.ofInt 32 (IntKind.u32.wrap ((IntKind.u32.wrap (IntKind.u8.wrap (BitVec.ofInt 8 ((s.getD 1 0).toNat:Int) &&& BitVec.ofInt 8 127).toNat)) * 128))).toNat) ||| BitVec.ofInt 32 (IntKind.u32.wrap ((IntKind.u32.wrap (IntKind.u8.wrap (BitVec.ofInt 8 ((s.getD 2 0).toNat:Int) &&& BitVec.ofInt 8 127).toNat)) * 16384))).toNat) ||| BitVec.ofInt 32 (IntKind.u32.wrap ((IntKind.u32.wrap (IntKind.u8.wrap (BitVec.ofInt 8 ((s.getD 3 0).toNat:Int) &&& BitVec.ofInt 8 127).toNat)) * 2097152))).toNat) ||| BitVec.ofInt 32 (IntKind.u32.wrap ((IntKind.u32.wrap ((s.getD 4 0).toNat:Int)) * 268435456))).toNat)))] hW aM fun b8 aN=>?_
 refine B4 (A4 ?_)
 refine wp_seq (C1 [0,1,2,3] kz ?_)
 refine B3 [0] [1,2,3] [(4,.v (.int .u32 (IntKind.u32.wrap (BitVec.ofInt 32 (IntKind.u32.wrap (BitVec.ofInt 32 (IntKind.u32.wrap (BitVec.ofInt 32 (IntKind.u32.wrap (BitVec.ofInt 32 (IntKind.u32.wrap (IntKind.u8.wrap (BitVec.ofInt 8 ((s.getD 0 0).toNat:Int) &&& BitVec.ofInt 8 127).toNat)) ||| BitVec.ofInt 32 (IntKind.u32.wrap ((IntKind.u32.wrap (IntKind.u8.wrap (BitVec.ofInt 8 ((s.getD 1 0).toNat:Int) &&& BitVec.ofInt 8 127).toNat)) * 128))).toNat) ||| BitVec.ofInt 32 (IntKind.u32.wrap ((IntKind.u32.wrap (IntKind.u8.wrap (BitVec.ofInt 8 ((s.getD 2 0).toNat:Int) &&& BitVec.ofInt 8 127).toNat)) * 16384))).toNat) ||| BitVec.ofInt 32 (IntKind.u32.wrap ((IntKind.u32.wrap (IntKind.u8.wrap (BitVec.ofInt 8 ((s.getD 3 0).toNat:Int) &&& BitVec.ofInt 8 127).toNat)) * 2097152))).toNat) ||| BitVec.ofInt 32 (IntKind.u32.wrap ((IntKind.u32.wrap ((s.getD 4 0).toNat:Int)) * 268435456))).toNat))),(81,.v (.slice A s.length c))] hW aN fun cd aO=>?_
 refine B1 (J7 aO (t:=22) (A:=A) (m:=s.length) (q:=4) (d:=82) kz (e:=5) (size:=1) (bytes:=1) (j:=4) kz al rfl (by first | omega | (simp only [List.length_append,be_length,List.length_cons,List.length_nil] at *; omega)) fun ce aP=>?_)
 refine B1 (M7 aP (t:=5) (b:=aJ) (o:=aK + 4 * 1) (d:=83) kz (cs:=[.int .u8 ((s.getD 4 0).toNat:Int)]) (v:=.int .u8 ((s.getD 4 0).toNat:Int)) kz (AtF.move af hW.step B2 F3).at_ fun cg aQ=>?_)
 refine B3 [3] [] [(4,.v (.int .u32 (IntKind.u32.wrap (BitVec.ofInt 32 (IntKind.u32.wrap (BitVec.ofInt 32 (IntKind.u32.wrap (BitVec.ofInt 32 (IntKind.u32.wrap (BitVec.ofInt 32 (IntKind.u32.wrap (IntKind.u8.wrap (BitVec.ofInt 8 ((s.getD 0 0).toNat:Int) &&& BitVec.ofInt 8 127).toNat)) ||| BitVec.ofInt 32 (IntKind.u32.wrap ((IntKind.u32.wrap (IntKind.u8.wrap (BitVec.ofInt 8 ((s.getD 1 0).toNat:Int) &&& BitVec.ofInt 8 127).toNat)) * 128))).toNat) ||| BitVec.ofInt 32 (IntKind.u32.wrap ((IntKind.u32.wrap (IntKind.u8.wrap (BitVec.ofInt 8 ((s.getD 2 0).toNat:Int) &&& BitVec.ofInt 8 127).toNat)) * 16384))).toNat) ||| BitVec.ofInt 32 (IntKind.u32.wrap ((IntKind.u32.wrap (IntKind.u8.wrap (BitVec.ofInt 8 ((s.getD 3 0).toNat:Int) &&& BitVec.ofInt 8 127).toNat)) * 2097152))).toNat) ||| BitVec.ofInt 32 (IntKind.u32.wrap ((IntKind.u32.wrap ((s.getD 4 0).toNat:Int)) * 268435456))).toNat))),(84,.v (.bool (decide (((s.getD 4 0).toNat:Int) ≤ 15))))] hW aQ fun cm am=>?_
 refine B4 (A4 ?_)
 refine N7 am (b:=decide (((s.getD 4 0).toNat:Int) ≤ 15)) kz (decide_eq_true (by have:=g5; unfold oc at this; omega)) ?_
 refine B9 [(2,.v (.int .u32 (IntKind.u32.wrap (BitVec.ofInt 32 (IntKind.u32.wrap (BitVec.ofInt 32 (IntKind.u32.wrap (BitVec.ofInt 32 (IntKind.u32.wrap (BitVec.ofInt 32 (IntKind.u32.wrap (IntKind.u8.wrap (BitVec.ofInt 8 ((s.getD 0 0).toNat:Int) &&& BitVec.ofInt 8 127).toNat)) ||| BitVec.ofInt 32 (IntKind.u32.wrap ((IntKind.u32.wrap (IntKind.u8.wrap (BitVec.ofInt 8 ((s.getD 1 0).toNat:Int) &&& BitVec.ofInt 8 127).toNat)) * 128))).toNat) ||| BitVec.ofInt 32 (IntKind.u32.wrap ((IntKind.u32.wrap (IntKind.u8.wrap (BitVec.ofInt 8 ((s.getD 2 0).toNat:Int) &&& BitVec.ofInt 8 127).toNat)) * 16384))).toNat) ||| BitVec.ofInt 32 (IntKind.u32.wrap ((IntKind.u32.wrap (IntKind.u8.wrap (BitVec.ofInt 8 ((s.getD 3 0).toNat:Int) &&& BitVec.ofInt 8 127).toNat)) * 2097152))).toNat) ||| BitVec.ofInt 32 (IntKind.u32.wrap ((IntKind.u32.wrap ((s.getD 4 0).toNat:Int)) * 268435456))).toNat))),(3,.v (.int .i64 5))] hW am fun cq aR=>?_
 refine wp_ret (F5 (Dj (D1 aR hW.cells (v:=.tuple #[.int .u32 (IntKind.u32.wrap (BitVec.ofInt 32 (IntKind.u32.wrap (BitVec.ofInt 32 (IntKind.u32.wrap (BitVec.ofInt 32 (IntKind.u32.wrap (BitVec.ofInt 32 (IntKind.u32.wrap (IntKind.u8.wrap (BitVec.ofInt 8 ((s.getD 0 0).toNat:Int) &&& BitVec.ofInt 8 127).toNat)) ||| BitVec.ofInt 32 (IntKind.u32.wrap ((IntKind.u32.wrap (IntKind.u8.wrap (BitVec.ofInt 8 ((s.getD 1 0).toNat:Int) &&& BitVec.ofInt 8 127).toNat)) * 128))).toNat) ||| BitVec.ofInt 32 (IntKind.u32.wrap ((IntKind.u32.wrap (IntKind.u8.wrap (BitVec.ofInt 8 ((s.getD 2 0).toNat:Int) &&& BitVec.ofInt 8 127).toNat)) * 16384))).toNat) ||| BitVec.ofInt 32 (IntKind.u32.wrap ((IntKind.u32.wrap (IntKind.u8.wrap (BitVec.ofInt 8 ((s.getD 3 0).toNat:Int) &&& BitVec.ofInt 8 127).toNat)) * 2097152))).toNat) ||| BitVec.ofInt 32 (IntKind.u32.wrap ((IntKind.u32.wrap ((s.getD 4 0).toNat:Int)) * 268435456))).toNat),.int .i64 5]) kz ?_)))
 have e_:=GC (oc s 0) (oc s 1) (oc s 2) (oc s 3) (oc s 4) (H0 s 0) (H0 s 1) (H0 s 2) (H0 s 3) g5
 have r_:M4 s = (oc s 0 - 128 + (oc s 1 - 128) * 128 + (oc s 2 - 128) * 16384 + (oc s 3 - 128) * 2097152 + oc s 4 * 268435456,5):=by unfold M4; rw [if_neg q0,if_neg q1,if_neg q2,if_neg q3]
 have b0_:=H0 s 0
 have b1_:=H0 s 1
 have b2_:=H0 s 2
 have b3_:=H0 s 3
 have b4_:=H0 s 4
 rw [r_]
 refine ⟨congrArg (fun z_:Int=>Ending.returned (.tuple #[.int .u32 z_,.int .i64 5])) (Eq.trans e_ ?_),hW.step⟩
 show _ = ((oc s 0 - 128 + (oc s 1 - 128) * 128 + (oc s 2 - 128) * 16384 + (oc s 3 - 128) * 2097152 + oc s 4 * 268435456:Nat):Int)
 omega
theorem Pe (x:Nat) (hx:x < 4294967296) (rest:Bs):M4 (uv x ++ rest) = (x,(uv x).length) ∧ ((uv x).length = 5 → oc (uv x ++ rest) 4 < 16):=by
 have hl:=BC hx
 unfold M4
 by_cases h1:x < 128
 ·rw [if_pos h1] at hl
  have o0:oc (uv x ++ rest) 0 = x:=by rw [Y5,if_pos h1]
  exact ⟨by rw [if_pos (by omega),o0,hl],fun h=>by omega⟩
 rw [if_neg h1] at hl
 have o0:oc (uv x ++ rest) 0 = x % 128 + 128:=by rw [Y5,if_neg h1]
 have o1:oc (uv x ++ rest) 1 = oc (uv (x / 128) ++ rest) 0:=W7 (by omega) rest 0
 by_cases h2:x < 16384
 ·rw [if_pos h2] at hl
  rw [Y5,if_pos (by omega)] at o1
  exact ⟨by rw [if_neg (by omega),if_pos (by omega),o0,o1,hl]; exact congrArg (fun z_=>(z_,2)) (by omega),fun h=>by omega⟩
 rw [if_neg h2] at hl
 have o2:oc (uv x ++ rest) 2 = oc (uv (x / 128 / 128) ++ rest) 0:=(W7 (by omega) rest 1).trans (W7 (by omega) rest 0)
 rw [Y5,if_neg (by omega)] at o1
 by_cases h3:x < 2097152
 ·rw [if_pos h3] at hl
  rw [Y5,if_pos (by omega)] at o2
  exact ⟨by rw [if_neg (by omega),if_neg (by omega),if_pos (by omega),o0,o1,o2,hl]; exact congrArg (fun z_=>(z_,3)) (by omega),fun h=>by omega⟩
 rw [if_neg h3] at hl
 have o3:oc (uv x ++ rest) 3 = oc (uv (x / 128 / 128 / 128) ++ rest) 0:=(W7 (by omega) rest 2).trans ((W7 (by omega) rest 1).trans (W7 (by omega) rest 0))
 rw [Y5,if_neg (by omega)] at o2
 by_cases h4:x < 268435456
 ·rw [if_pos h4] at hl
  rw [Y5,if_pos (by omega)] at o3
  exact ⟨by rw [if_neg (by omega),if_neg (by omega),if_neg (by omega),if_pos (by omega),o0,o1,o2,o3,hl]; exact congrArg (fun z_=>(z_,4)) (by omega),fun h=>by omega⟩
 rw [if_neg h4] at hl
 have o4:oc (uv x ++ rest) 4 = oc (uv (x / 128 / 128 / 128 / 128) ++ rest) 0:=(W7 (by omega) rest 3).trans ((W7 (by omega) rest 2).trans ((W7 (by omega) rest 1).trans (W7 (by omega) rest 0)))
 rw [Y5,if_neg (by omega)] at o3
 rw [Y5,if_pos (by omega)] at o4
 exact ⟨by rw [if_neg (by omega),if_neg (by omega),if_neg (by omega),if_neg (by omega),o0,o1,o2,o3,o4,hl]; exact congrArg (fun z_=>(z_,5)) (by omega),fun h=>by omega⟩
theorem Pf (x:Nat) (hx:x < 4294967296) (rest:Bs) {A:Option Addr} {c:Nat} {w:World} {F:Nat → Nat → Prop} (ho:Octs w F A c (uv x ++ rest)) :
  Calls Tryz.prog 91 #[.slice A (uv x ++ rest).length c] w (J9 w (.tuple #[.int .u32 ((x:Nat):Int),.int .i64 (((uv x).length:Nat):Int)])):=by
 have h:=Pe x hx rest
 have h2:=GT (uv x ++ rest) ho (by rw [h.1,List.length_append]; exact Nat.le_add_right _ _) (fun e=>h.2 (by rw [h.1] at e; exact e))
 rw [h.1] at h2
 exact h2
theorem T9 (x:Nat) (hx:x < 4294967296) (rest:Bs)  {br:Nat} {A:Option Addr} {m c:Nat} {w:World} {F:Nat → Nat → Prop} (hst:Str w br [.slice A m c,.bool false]) (hr:RdS w F A m c (uv x ++ rest)) (hFd:∀ b o,F b o → ¬ G5 br b o) :
  Calls Tryz.prog 76 #[.pointer (some ⟨br,0,none⟩)] w (RdPost w br F rest fun v w'=>v = .int .u32 ((x:Nat):Int)):=by
 obtain ⟨hm,ho⟩:=hr
 subst hm
 have hle:=ho.le
 have hpos:=DO x
 refine enter (n:=31) Tryz.func76 rfl Tryz.ntmps76 kz fun a hE=>?_
 let ac:Value:=.slice A ((uv x ++ rest).length) c
 have hW:WOk w (G5 br) w [⟨br,0,[ac,.bool false],true⟩] []:=WOk.startStr hst
 have hE1:=(hE.grow ⟨br,0,[ac,.bool false],true⟩).recast 0 (.v (.pointer (some ⟨br,0,none⟩))) (.p 0 0) rfl rfl (Nat.le_of_ble_eq_true (n:=1) rfl)
 refine B9 [(0,.p 0 0)] hW hE1 fun a1 hE2=>?_
 refine C1 [0,1,2,3,4,5,6,7,8,9] kz ?_
 refine B3 [0,1,2,3] [4,5,6,7,8,9] [(0,.p 0 0),(9,.v (.slice A ((uv x ++ rest).length) c))] hW hE2 fun a3 hE4=>?_
 refine B1 (D6 hE4 (f:=91) (vs:=[ac]) (d:=10) kz Tryz.call91 (Pf x hx rest (ho.move hW.step (fun b_ o_ h_ _=>hFd b_ o_ h_) (hW.immM hFd))) ?_)
 rintro e_ w6 ⟨rfl,hs5⟩
 refine ⟨_,rfl,fun a7 hE8=>?_⟩
 have hW9:=hW.next_nil hs5
 have ao:=hW.frN hs5
 let ab:Nat × SV:=(3,.v (.int .u32 ((x:Nat):Int)))
 let af:Nat × SV:=(4,.v (.int .i64 (((uv x).length:Nat):Int)))
 refine B3 [5,6,7,8,9] [] [(0,.p 0 0),ab,af] hW9 hE8 fun ar ah=>?_
 refine B4 (A4 ?_)
 refine wp_seq (B9 [(0,.p 0 0),ab,af,(14,.v (.bool (decide ((((uv x).length:Nat):Int) ≤ 0))))] hW9 ah fun au ag=>?_)
 refine G6 ag (b:=decide ((((uv x).length:Nat):Int) ≤ 0)) kz (decide_eq_false (by omega)) ?_
 refine wp_skip (A4 (C1 [0,1,2,3,4,5,6,7,8,9] kz ?_))
 refine B3 [0,1,2,3,4,5] [6,7,8,9] [ab,(21,.p 0 0),(25,.v (.slice A ((uv x ++ rest).length) c)),(26,.v (.int .i64 (((uv x).length:Nat):Int)))] hW9 ag fun av ai=>?_
 refine B1 (Di ai (t:=22) (A:=A) (m:=((uv x ++ rest).length)) (cp:=c) (q:=(((uv x).length:Nat):Int)) (d:=27) (j:=((uv x).length)) kz (e:=5) (bytes:=1) kz (rfl) (by first | omega | (simp only [List.length_append,be_length,List.length_cons,List.length_nil] at *; omega)) fun aw aj=>?_)
 refine B3 [7,8] [9] [ab,(27,.v (.slice (I2 A c ((uv x).length)) (((uv x ++ rest).length) - ((uv x).length)) (c - ((uv x).length)))),(29,.p 0 0)] hW9 aj fun ax ak=>?_
 refine B1 (I9 hW9 ak (oi:=0) (cs:=[.slice (I2 A c ((uv x).length)) (((uv x ++ rest).length) - ((uv x).length)) (c - ((uv x).length)),.bool false]) kz fun ay ap ae al=>?_)
 refine B4 (A4 ?_)
 refine B9 [(2,.v (.int .u32 ((x:Nat):Int)))] ae al fun az am=>?_
 refine wp_ret (D1 am ae.cells (v:=.int .u32 ((x:Nat):Int)) kz ?_)
 exact ⟨_,_,_,_,rfl,Str.of ae 0 rfl,RdS.drop (s:=uv x) ⟨rfl,ho.move ae.step (fun b_ o_ h_ _=>hFd b_ o_ h_) F3⟩ (rfl),ae.step,rfl⟩
theorem W9 (X:Bs) (rest:Bs)  {br:Nat} {A:Option Addr} {m c:Nat} {w:World} {F:Nat → Nat → Prop} (hst:Str w br [.slice A m c,.bool false]) (hr:RdS w F A m c (X ++ rest)) (hFd:∀ b o,F b o → ¬ G5 br b o) :
  Calls Tryz.prog 78 #[.pointer (some ⟨br,0,none⟩),.int .i64 ((X.length:Nat):Int)] w (RdPost w br F rest fun v w'=>∃ A2,v = .slice A2 X.length X.length ∧ Octs w' F A2 X.length X):=by
 obtain ⟨hm,ho⟩:=hr
 subst hm
 have hle:=ho.le
 refine enter (n:=40) Tryz.func78 rfl Tryz.ntmps78 kz fun a hE=>?_
 have hW:WOk w (G5 br) w [⟨br,0,[.slice A ((X ++ rest).length) c,.bool false],true⟩] []:=WOk.startStr hst
 have hE1:=(hE.grow ⟨br,0,[.slice A ((X ++ rest).length) c,.bool false],true⟩).recast 0 (.v (.pointer (some ⟨br,0,none⟩))) (.p 0 0) rfl rfl (Nat.le_of_ble_eq_true (n:=1) rfl)
 let ab:Nat × SV:=(0,.p 0 0)
 let ac:Nat × SV:=(1,.v (.int .i64 ((X.length:Nat):Int)))
 refine B9 [ab,ac] hW hE1 fun a1 hE2=>?_
 refine wp_seq (C1 [0,1,2,3,4,5,6,7,8,9,10] kz ?_)
 refine B3 [0,1,2,3,4,5,6,7] [8,9,10] [ab,ac,(13,.v (.bool (decide ((((X ++ rest).length:Nat):Int) < ((X.length:Nat):Int)))))] hW hE2 fun a3 hE4=>?_
 have hc5:(decide ((((X ++ rest).length:Nat):Int) < ((X.length:Nat):Int))) = false:=decide_eq_false (by first | omega | (simp only [List.length_append,be_length,List.length_cons,List.length_nil] at *; omega))
 have hE6:=hE4
 rw [hc5] at hE6
 refine B3 [8,9,10] [] [ab,ac,(16,.v (.bool (decide (((X.length:Nat):Int) < 0))))] hW hE6 fun a7 hE8=>?_
 refine B4 (A4 ?_)
 refine G6 hE8 (b:=decide (((X.length:Nat):Int) < 0)) kz (decide_eq_false (by first | omega | (simp only [List.length_append,be_length,List.length_cons,List.length_nil] at *; omega))) ?_
 refine wp_skip (A4 (C1 [0,1,2,3,4,5,6,7] kz ?_))
 refine B3 [0,1,2,3,4,5] [6,7] [ab,ac,(26,.v (.slice A ((X ++ rest).length) c)),(27,.v (.int .i64 ((X.length:Nat):Int))),(28,.v (.int .i64 ((X.length:Nat):Int)))] hW hE8 fun a9 ag=>?_
 refine B1 (MS ag (t:=22) (A:=A) (m:=((X ++ rest).length)) (cp:=c) (k:=.i64) (q:=((X.length:Nat):Int)) (d:=29) (j:=X.length) kz (e:=5) (bytes:=1) kz (rfl) (by first | omega | (simp only [List.length_append,be_length,List.length_cons,List.length_nil] at *; omega)) fun ar ah=>?_)
 let af:Nat × SV:=(5,.v (.slice A X.length X.length))
 refine B3 [7] [] [ab,ac,af] hW ah fun au ai=>?_
 refine B4 (A4 ?_)
 refine C1 [0,1,2,3,4,5,6,7,8,9] kz ?_
 refine B3 [0,1,2,3,4,5] [6,7,8,9] [af,(30,.p 0 0),(34,.v (.slice A ((X ++ rest).length) c)),(35,.v (.int .i64 ((X.length:Nat):Int)))] hW ai fun av aj=>?_
 refine B1 (Di aj (t:=22) (A:=A) (m:=((X ++ rest).length)) (cp:=c) (q:=((X.length:Nat):Int)) (d:=36) (j:=X.length) kz (e:=5) (bytes:=1) kz (rfl) (by first | omega | (simp only [List.length_append,be_length,List.length_cons,List.length_nil] at *; omega)) fun aw ak=>?_)
 refine B3 [7,8] [9] [af,(36,.v (.slice (I2 A c X.length) (((X ++ rest).length) - X.length) (c - X.length))),(38,.p 0 0)] hW ak fun ax al=>?_
 refine B1 (I9 hW al (oi:=0) (cs:=[.slice (I2 A c X.length) (((X ++ rest).length) - X.length) (c - X.length),.bool false]) kz fun ay ap ae am=>?_)
 refine B4 (A4 ?_)
 refine B9 [(4,.v (.slice A X.length X.length))] ae am fun az ao=>?_
 refine wp_ret (D1 ao ae.cells (v:=.slice A X.length X.length) kz ?_)
 exact ⟨_,_,_,_,rfl,Str.of ae 0 rfl,RdS.drop (s:=X) ⟨rfl,ho.move ae.step (fun b_ o_ h_ _=>hFd b_ o_ h_) F3⟩ (rfl),ae.step,A,rfl,RdS.front (s:=X) ⟨rfl,ho.move ae.step (fun b_ o_ h_ _=>hFd b_ o_ h_) F3⟩ rfl⟩
abbrev z2 (x0) (x1) (x2) (x3):=([⟨x0,0,[.slice x1 x2 x3,.bool false],true⟩]:Tb)
theorem GU {br:Nat} {A:Option Addr} {m c:Nat} {w:World} (hst:Str w br [.slice A m c,.bool false]) :
  Calls Tryz.prog 59 #[.pointer (some ⟨br,0,none⟩)] w (fun e w'=>e = .returned .nilIface ∧ w' = w):=by
 refine enter (n:=8) Tryz.func59 rfl Tryz.ntmps59 kz fun a hE=>?_
 have hW:WOk w (G5 br) w (z2 br A m c) []:=WOk.startStr hst
 have hE1:=(hE.grow ⟨br,0,[.slice A m c,.bool false],true⟩).recast 0 (.v (.pointer (some ⟨br,0,none⟩))) (.p 0 0) rfl rfl (Nat.le_of_ble_eq_true (n:=1) rfl)
 refine B9 [(0,.p 0 0)] hW hE1 fun a1 hE2=>?_
 refine wp_seq (B9 [(6,.v (.bool false))] hW hE2 fun a3 hE4=>?_)
 refine G6 hE4 (b:=false) kz rfl ?_
 refine wp_skip (A4 (B9 [(2,.v (.nilIface))] hW hE4 fun a5 hE6=>?_))
 refine wp_ret (D1 hE6 hW.cells (v:=.nilIface) kz ?_)
 exact ⟨rfl,rfl⟩
structure TR (w w':World) (br p2 p3:Nat) (F:Nat → Nat → Prop) (A:Option Addr) (n c:Nat) (s:Bs) (m:Option Nat) (u:List (Int × Bs)):Prop where
 step:Step w w' (G5 br)
 old:br < w.heap.size
 new2:w.heap.size ≤ p2
 new3:w.heap.size ≤ p3
 ne:p2 ≠ p3
 rd:Str w' br [.slice A n c,.bool false]
 s2:Str w' p2 [.map none]
 s3:Str w' p3 [.map m]
 oct:RdS w' (fun b o=>F b o ∧ b < w.heap.size) A n c s
 own:OwnM w' (fun b o=>F b o ∧ b < w.heap.size) m u
 new:∀ r,m = some r → w.heap.size ≤ r
theorem TR.mne {w w':World} {br p2 p3:Nat} {F:Nat → Nat → Prop} {A:Option Addr} {n c:Nat} {s:Bs} {m:Option Nat} {u:List (Int × Bs)} (h:TR w w' br p2 p3 F A n c s m u):m ≠ some p2 ∧ m ≠ some p3:=by
 refine ⟨fun e=>?_,fun e=>?_⟩
 ·obtain ⟨es,clk,h1,_⟩:=h.own.some_ p2 e
  exact Co (h.s2.at_ 0 _ rfl) h1 rfl
 obtain ⟨es,clk,h1,_⟩:=h.own.some_ p3 e
 exact Co (h.s3.at_ 0 _ rfl) h1 rfl
theorem TR.read {w w' w1:World} {br p2 p3:Nat} {F:Nat → Nat → Prop} {A A':Option Addr} {n c n' c':Nat} {s s':Bs} {m:Option Nat} {u:List (Int × Bs)} (h:TR w w' br p2 p3 F A n c s m u) (hFd:∀ b o,F b o → ¬ G5 br b o) (hs:Str w1 br [.slice A' n' c',.bool false]) (hr:RdS w1 (fun b o=>F b o ∧ b < w.heap.size) A' n' c' s') (hst:Step w' w1 (G5 br)):TR w w1 br p2 p3 F A' n' c' s' m u:=by
 have ho:=h.old
 have h2:=h.new2
 have h3:=h.new3
 refine ⟨h.step.trans hst fun _ _ _ e=>e,ho,h2,h3,h.ne,hs,h.s2.move hst fun o e=>?_,h.s3.move hst fun o e=>?_,hr,h.own.move hst (fun b o hg _=>hFd b o hg.1) F3 (fun r o e he=>?_),h.new⟩
 ·have:=e.1; omega
 ·have:=e.1; omega
 have:=h.new r e; have:=he.1; omega
theorem TR.set {w w':World} {br p2 p3:Nat} {F:Nat → Nat → Prop} {A A1:Option Addr} {n c c1 j:Nat} {s x:Bs} {k:Int} {m:Option Nat} {u:List (Int × Bs)} (h:TR w w' br p2 p3 F A n c s m (u.take j)) (hsort:R9 u) (hj:u[j]? = some (k,x)) (hx:Octs w' (fun b o=>F b o ∧ b < w.heap.size) A1 c1 x) (hk:0 ≤ k ∧ k < 4294967296) :
  Calls Tryz.prog 77 [.pointer (some ⟨p3,0,none⟩),.int .u32 k,.slice A1 x.length c1].toArray w' (fun e w1=>e = .returned (.tuple #[]) ∧ ∃ r,TR w w1 br p2 p3 F A n c s (some r) (u.take (j + 1))):=by
 have hcell:w'.cell? ⟨p3,0,none⟩ = some (.map m):=h.s3.at_ 0 _ rfl
 have hfz:w'.frozen? ⟨p3,0,none⟩ = false:=h.s3.frz 0 (by simp)
 have hnew:=h.new
 have h2:=h.new2
 have h3:=h.new3
 have ho:=h.old
 have hsz:=h.step.size
 obtain ⟨m2,m3⟩:=h.mne
 refine (FL hcell hfz h.own hx hk (fun b' o' hg=>⟨fun e=>?_,fun e=>?_⟩) (fun b' o' hg=>Nat.lt_of_lt_of_le hg.2 hsz)).mono ?_
 ·have:=hg.2; omega
 ·have:=hnew b' e; have:=hg.2; omega
 rintro e w1 ⟨rfl,r,g1,g2,g3,g4,g5⟩
 rw [FR hsort hj] at g3
 refine ⟨rfl,r,h.step.trans g5 fun b o hl e=>?_,ho,h2,h3,h.ne,h.rd.move g5 fun o e=>?_,h.s2.move g5 fun o e=>?_,⟨fun i v hi=>?_,fun i hi=>?_⟩,⟨h.oct.len,Octs.move h.oct.oct g5 (fun b o hg _ e=>?_) F3⟩,g3,fun r' hr'=>?_⟩
 ·rcases e with ⟨e1,_⟩ | e1
  ·omega
  have:=hnew b e1; omega
 ·rcases e with ⟨e1,_⟩ | e1
  ·omega
  have:=hnew br e1; omega
 ·rcases e with ⟨e1,_⟩ | e1
  ·exact h.ne e1
  exact m2 e1
 ·cases i with
  | zero =>
   simp only [List.getElem?_cons_zero,Option.some.injEq] at hi
   subst hi
   exact g1
  | succ i=>simp at hi
 ·have:i = 0:=by simp at hi; omega
  subst this
  exact g2
 ·have:=hg.2
  rcases e with ⟨e1,_⟩ | e1
  ·omega
  have:=hnew b e1; omega
 obtain rfl:=Option.some.inj hr'
 rcases g4 with g4 | g4
 ·exact hnew _ g4
 exact Nat.le_trans hsz g4
theorem Pg (x:Int × Bs) (u:List (Int × Bs)):D7 (x :: u) = L7 x.1 x.2 ++ D7 u:=by unfold D7; rw [List.flatMap_cons]
theorem GV {u:List (Int × Bs)} {j:Nat} {k:Int} {x:Bs} (h:u[j]? = some (k,x)) (rest:Bs):D7 (u.drop j) ++ rest = uv k.toNat ++ (uv x.length ++ (x ++ (D7 (u.drop (j + 1)) ++ rest))):=by
 obtain ⟨hlt,he⟩:=List.getElem?_eq_some_iff.1 h
 rw [List.drop_eq_getElem_cons hlt,he,Pg]
 simp only [L7,List.append_assoc]
abbrev z5 (x0) (x1):=([.pointer (some ⟨x0,0,none⟩),.int .i64 ((x1:Nat):Int)]:List Value)
theorem Ph (u:List (Int × Bs)) (rest:Bs) (hsort:R9 u) (hk:∀ x ∈ u,0 ≤ x.1 ∧ x.1 < 4294967296) (hul:u.length ≤ 1000000) (hxl:∀ x ∈ u,x.2.length < 4294967296) {br:Nat} {A:Option Addr} {m c:Nat} {w:World} {F:Nat → Nat → Prop} (hst:Str w br [.slice A m c,.bool false]) (hr:RdS w F A m c (uv u.length ++ (D7 u ++ rest))) (hFd:∀ b o,F b o → ¬ G5 br b o) :
  Calls Tryz.prog 75 #[.pointer (some ⟨br,0,none⟩)] w (RdPost w br (Fp F w) rest fun v w'=>∃ mm,v = .agg #[.map mm] ∧ MapR w' (Fp F w) mm u ∧ (u = [] → mm = none)):=by
 have hbr:br < w.heap.size:=World.lt_of_cell (hst.at_ 0 _ rfl)
 refine enter (n:=24) (vs:=[.pointer (some ⟨br,0,none⟩)]) Tryz.func75 rfl Tryz.ntmps75 kz fun a hE=>?_
 have hW:=WOk.start w C7
 refine C1 [0] kz ?_
 refine B1 (N6 hW hE (d:=2) (cs:=[.map none]) kz fun p2 a1 w1 hp2 hz2 hF1 hW1 hE1=>B4 (A4 ?_))
 refine C1 [0] kz ?_
 refine B1 (N6 hW1 hE1 (d:=3) (cs:=[.map none]) kz fun p3 a2 w2 hp3 hz3 hF2 hW2 hE2=>B4 (A4 ?_))
 have hne:p2 ≠ p3:=by
  have h1:=hW1.live 0 _ rfl
  simp only at h1
  omega
 have hS:Step w w2 C7:=hW2.step
 have hT0:TR w w2 br p2 p3 F A m c (uv u.length ++ (D7 u ++ rest)) none (u.take 0):=by
  refine ⟨hS.mono fun _ _ _ h=>h.elim,hbr,hz2,hz3,hne,hst.move hS (fun _ h=>h),Str.of hW2 0 rfl,Str.of hW2 1 rfl,hr.move hS B2 (fun b o h hb=>⟨h,hb⟩),?_,fun _ h=>by cases h⟩
  rw [List.take_zero]
  exact OwnM.nil _ _
 refine wp_seq ?_
 have hE3:=(((hE2.recast 2 (.p 0 0) (.v (.pointer (some ⟨p2,0,none⟩))) rfl rfl trivial).recast 3 (.p 1 0) (.v (.pointer (some ⟨p3,0,none⟩))) rfl rfl trivial).pick (ks:=[0,2,3]) (env':=[(0,.v (.pointer (some ⟨br,0,none⟩))),(2,.v (.pointer (some ⟨p2,0,none⟩))),(3,.v (.pointer (some ⟨p3,0,none⟩)))]) kz).cutTb 0 kz
 have hWz:=WOk.start w2 C7
 refine C1 [0,1,2] kz ?_
 refine B3 [0] [1,2] [(0,.v (.pointer (some ⟨br,0,none⟩))),(2,.v (.pointer (some ⟨p2,0,none⟩))),(3,.v (.pointer (some ⟨p3,0,none⟩))),(7,.v (.pointer (some ⟨br,0,none⟩)))] hWz hE3 fun a3 hE4=>?_
 have hFd':∀ b o,(F b o ∧ b < w.heap.size) → ¬ G5 br b o:=fun b o h=>hFd b o h.1
 refine B1 (D6 hE4 (f:=76) (vs:=[.pointer (some ⟨br,0,none⟩)]) (d:=8) kz Tryz.call76 (T9 u.length (by omega) (D7 u ++ rest) hT0.rd hT0.oct hFd') ?_)
 rintro e_ w3 ⟨_,A3,n3,c3,rfl,hs3,hr3,hst3,rfl⟩
 have hT1:=hT0.read hFd hs3 hr3 hst3
 refine ⟨_,rfl,fun a4 hE5=>?_⟩
 refine B3 [2] [] [(0,.v (.pointer (some ⟨br,0,none⟩))),(2,.v (.pointer (some ⟨p2,0,none⟩))),(3,.v (.pointer (some ⟨p3,0,none⟩))),(4,.v (.int .u32 ((u.length:Nat):Int)))] (WOk.start w3 C7) hE5 fun a5 hE6=>B4 (A4 ?_)
 refine wp_block ?_
 refine wp_loop_ghost (fun q a_ w_=>∃ (j:Nat) (m_:Option Nat) (A_:Option Addr) (n_ c_:Nat),(j = 0 → m_ = none) ∧ q = u.length - j ∧ j ≤ u.length ∧ EnvOk 24 [] [(0,.v (.pointer (some ⟨br,0,none⟩))),(2,.v (.pointer (some ⟨p2,0,none⟩))),(3,.v (.pointer (some ⟨p3,0,none⟩))),(4,.v (.int .u32 ((u.length - j:Nat):Int)))] a_ ∧ TR w w_ br p2 p3 F A_ n_ c_ (D7 (u.drop j) ++ rest) m_ (u.take j)) u.length
  ⟨0,none,A3,n3,c3,fun _=>rfl,by omega,by omega,hE6,hT1⟩ ?_
 rintro q aq wq ⟨j,m_,A_,n_,c_,hj0,rfl,hj,hEq,hT⟩
 have hWq:=WOk.start wq C7
 refine wp_seq (B9 [(0,.v (.pointer (some ⟨br,0,none⟩))),(2,.v (.pointer (some ⟨p2,0,none⟩))),(3,.v (.pointer (some ⟨p3,0,none⟩))),(4,.v (.int .u32 ((u.length - j:Nat):Int))),(10,.v (.bool (decide (((u.length - j:Nat):Int) > 0))))] hWq hEq fun aq1 hE7=>?_)
 refine E2 hE7 (b:=decide (((u.length - j:Nat):Int) > 0)) kz (fun hc=>?_) (fun hc=>?_)
 ·have hlt:j < u.length:=by have:=of_decide_eq_true hc; omega
  obtain ⟨⟨k,x⟩,hu⟩:∃ y,u[j]? = some y:=⟨_,List.getElem?_eq_getElem hlt⟩
  have hk':=hk (k,x) (List.mem_of_getElem? hu)
  have hx':=hxl (k,x) (List.mem_of_getElem? hu)
  dsimp only at hk' hx'
  have hoct:=hT.oct
  rw [GV hu rest] at hoct
  refine wp_skip (A4 (wp_seq (wp_block ?_)))
  refine C1 [0,1,2,3,4,5] kz ?_
  refine B3 [0] [1,2,3,4,5] [(0,.v (.pointer (some ⟨br,0,none⟩))),(2,.v (.pointer (some ⟨p2,0,none⟩))),(3,.v (.pointer (some ⟨p3,0,none⟩))),(4,.v (.int .u32 ((u.length - j:Nat):Int))),(13,.v (.pointer (some ⟨br,0,none⟩)))] hWq hE7 fun aq2 hE8=>?_
  refine B1 (D6 hE8 (f:=76) (vs:=[.pointer (some ⟨br,0,none⟩)]) (d:=14) kz Tryz.call76 (T9 k.toNat (by omega) _ hT.rd hoct hFd') ?_)
  rintro e_ wa ⟨_,Aa,na,ca,rfl,hsa,hra,hsta,rfl⟩
  have hTa:=hT.read hFd hsa hra hsta
  refine ⟨_,rfl,fun aq3 hE9=>?_⟩
  refine B3 [2] [3,4,5] [(0,.v (.pointer (some ⟨br,0,none⟩))),(2,.v (.pointer (some ⟨p2,0,none⟩))),(3,.v (.pointer (some ⟨p3,0,none⟩))),(4,.v (.int .u32 ((u.length - j:Nat):Int))),(14,.v (.int .u32 ((k.toNat:Nat):Int))),(15,.v (.pointer (some ⟨br,0,none⟩)))] (WOk.start wa C7) hE9 fun aq4 hE10=>?_
  refine B1 (D6 hE10 (f:=76) (vs:=[.pointer (some ⟨br,0,none⟩)]) (d:=16) kz Tryz.call76 (T9 x.length hx' _ hTa.rd hTa.oct hFd') ?_)
  rintro e_ wb ⟨_,Ab,nb,cb,rfl,hsb,hrb,hstb,rfl⟩
  have hTb:=hTa.read hFd hsb hrb hstb
  refine ⟨_,rfl,fun aq5 hE11=>?_⟩
  refine B3 [4,5] [] [(0,.v (.pointer (some ⟨br,0,none⟩))),(2,.v (.pointer (some ⟨p2,0,none⟩))),(3,.v (.pointer (some ⟨p3,0,none⟩))),(4,.v (.int .u32 ((u.length - j:Nat):Int))),(5,.v (.int .u32 ((k.toNat:Nat):Int))),(6,.v (.int .u32 ((x.length:Nat):Int)))] (WOk.start wb C7) hE11 fun aq6 hE12=>B4 (A4 ?_)
  refine E4 [0,1,2,3,4,5] kz ?_
  refine B3 [0,1,2,3] [4,5] [(0,.v (.pointer (some ⟨br,0,none⟩))),(2,.v (.pointer (some ⟨p2,0,none⟩))),(3,.v (.pointer (some ⟨p3,0,none⟩))),(4,.v (.int .u32 ((u.length - j:Nat):Int))),(17,.v (.int .u32 ((k.toNat:Nat):Int))),(18,.v (.pointer (some ⟨br,0,none⟩))),(20,.v (.int .i64 (IntKind.i64.wrap ((x.length:Nat):Int))))] (WOk.start wb C7) hE12 fun aq7 hE13=>?_
  rw [show IntKind.i64.wrap ((x.length:Nat):Int) = ((x.length:Nat):Int) by rw [L9]; omega,show ((k.toNat:Nat):Int) = k by omega] at hE13
  refine B1 (D6 hE13 (f:=78) (vs:=(z5 br x.length)) (d:=21) kz Tryz.call78 (W9 x _ hTb.rd hTb.oct hFd') ?_)
  rintro e_ wc ⟨_,Ac,nc,cc,rfl,hsc,hrc,hstc,Ax,rfl,hox⟩
  have hTc:=hTb.read hFd hsc hrc hstc
  refine ⟨_,rfl,fun aq8 hE14=>?_⟩
  refine B1 (D6 hE14 (f:=77) (vs:=[.pointer (some ⟨p3,0,none⟩),.int .u32 k,.slice Ax x.length x.length]) (d:=22) kz Tryz.call77 (hTc.set hsort hu hox hk') ?_)
  rintro e_ wd ⟨rfl,r,hTd⟩
  refine ⟨_,rfl,fun aq9 hE15=>B4 (H7 (A4 ?_))⟩
  refine E4 [0,1,2] kz (B3 [0,1,2] [] [(0,.v (.pointer (some ⟨br,0,none⟩))),(2,.v (.pointer (some ⟨p2,0,none⟩))),(3,.v (.pointer (some ⟨p3,0,none⟩))),(4,.v (.int .u32 (IntKind.u32.wrap (((u.length - j:Nat):Int) - 1))))] (WOk.start wd C7) hE15 fun aqa hE16=>B4 (A4 ?_))
  rw [show IntKind.u32.wrap (((u.length - j:Nat):Int) - 1) = ((u.length - (j + 1):Nat):Int) by rw [D5]; omega] at hE16
  exact ⟨u.length - (j + 1),by omega,j + 1,some r,Ac,nc,cc,(fun h=>by omega),rfl,by omega,hE16,hTd⟩
 obtain rfl:j = u.length:=by have:=of_decide_eq_false hc; omega
 refine wp_exit (F2 (F2 (I7 (A4 ?_))))
 rw [List.take_length,List.drop_length] at hT
 have hT':TR w wq br p2 p3 F A_ n_ c_ rest m_ u:=hT
 have h2:=hT'.new2
 have h3:=hT'.new3
 have hW9:WOk w (G5 br) wq ([] ++ [⟨p3,0,[.map m_],true⟩] ++ [⟨p2,0,[.map none],true⟩]) []:=by
  have hb:WOk w (G5 br) wq [] []:=⟨hT'.step,fun i o hi=>by simp at hi,fun i o hi=>by simp at hi,fun i o hi=>by simp at hi,fun i j o o' _ hi=>by simp at hi,fun i r hi=>by simp at hi,fun i r hi=>by simp at hi,fun i r hi=>by simp at hi,fun i j r r' _ hi=>by simp at hi⟩
  have h4:=hb.add ⟨p3,0,[.map m_],true⟩ (World.lt_of_cell (hT'.s3.at_ 0 _ rfl)) (fun j v hj=>by rw [Nat.zero_add]; exact hT'.s3.at_ j v hj) (fun _ j hj=>⟨.inl h3,by rw [Nat.zero_add]; exact hT'.s3.frz j hj⟩) (fun i o hi=>by simp at hi) (fun i r hi=>by simp at hi)
  refine h4.add ⟨p2,0,[.map none],true⟩ (World.lt_of_cell (hT'.s2.at_ 0 _ rfl)) (fun j v hj=>by rw [Nat.zero_add]; exact hT'.s2.at_ j v hj) (fun _ j hj=>⟨.inl h2,by rw [Nat.zero_add]; exact hT'.s2.frz j hj⟩) (fun i o hi _=>.inl ?_) (fun i r hi=>by simp at hi)
  have:o = ⟨p3,0,[.map m_],true⟩:=by
   have hm:=List.mem_of_getElem? hi
   simpa using hm
  rw [this]
  exact fun e=>hT'.ne e.symm
 have hE17:=(((hE7.retable [⟨p3,0,[.map m_],true⟩,⟨p2,0,[.map none],true⟩]).recast 3 (.v (.pointer (some ⟨p3,0,none⟩))) (.p 0 0) rfl rfl (Nat.le_of_ble_eq_true (n:=1) rfl)).recast 2 (.v (.pointer (some ⟨p2,0,none⟩))) (.p 1 0) rfl rfl (Nat.le_of_ble_eq_true (n:=2) rfl))
 have hE18:EnvOk 24 [⟨p3,0,[.map m_],true⟩,⟨p2,0,[.map none],true⟩] [(2,.p 1 0),(3,.p 0 0)] _:=hE17.pk
 refine C1 [0,1] kz ?_
 refine B3 [0] [1] [(2,.p 1 0),(23,.v (.agg #[.map m_]))] hW9 hE18 fun aqb hE19=>?_
 refine B1 (I9 hW9 hE19 (oi:=1) (cs:=[.map m_]) kz fun wz hFz hWz hEz=>B4 (A4 (wp_ret ?_)))
 have hsz:=hT'.step.size
 have hstz:Step wq wz (fun b o=>b = p2 ∨ b = p3):=hFz.step.mono fun b o _ ha=>by
  rcases ha with ⟨i,ob,hi,_,rfl,_⟩ | ⟨i,r,hi,_⟩
  ·have hm:=List.mem_of_getElem? hi
   simp only [List.nil_append,List.cons_append,List.mem_cons,List.not_mem_nil,or_false] at hm
   rcases hm with rfl | rfl
   ·exact .inr rfl
   exact .inl rfl
  simp at hi
 obtain ⟨m2,m3⟩:=hT'.mne
 refine D1 hEz hWz.cells (v:=.agg #[.map m_]) kz ⟨_,A_,n_,c_,rfl,hT'.rd.move hstz (fun o e=>?_),hT'.oct.move hstz (fun b o hg _ e=>?_) (fun b o hg _=>.inl hg.1),hWz.step,m_,rfl,?_,?_⟩
 ·have:=hT'.old; rcases e with e | e <;> omega
 ·have:=hg.2; rcases e with e | e <;> omega
 ·refine (hT'.own.move hstz (fun b o hg _ e=>?_) F3 (fun r o e he=>?_)).map (fun b o h=>.inl h.1) (fun r o e=>.inr (hT'.new r e)) hsort hk
  ·have:=hg.2; rcases e with e | e <;> omega
  rcases he with he | he
  ·exact m2 (by rw [e,he])
  exact m3 (by rw [e,he])
 exact fun e=>hj0 (by rw [e]; rfl)
theorem Pi (x:Int) (rest:Bs)  {br:Nat} {A:Option Addr} {m c:Nat} {w:World} {F:Nat → Nat → Prop} (hst:Str w br [.slice A m c,.bool false]) (hr:RdS w F A m c ((be 8 x) ++ rest)) (hFd:∀ b o,F b o → ¬ G5 br b o) :
  Calls Tryz.prog 69 #[.pointer (some ⟨br,0,none⟩)] w (RdPost w br (Fp F w) rest fun v w'=>v = .int .i64 (IntKind.i64.wrap x)):=by
 refine enter (n:=6) Tryz.func69 rfl Tryz.ntmps69 kz fun a hE=>?_
 have hW:WOk w (G5 br) w (z2 br A m c) []:=WOk.startStr hst
 have hE1:=(hE.grow ⟨br,0,[.slice A m c,.bool false],true⟩).recast 0 (.v (.pointer (some ⟨br,0,none⟩))) (.p 0 0) rfl rfl (Nat.le_of_ble_eq_true (n:=1) rfl)
 refine B9 [(0,.p 0 0)] hW hE1 fun a1 hE2=>?_
 refine C1 [0,1,2,3] kz ?_
 refine B3 [0] [1,2,3] [(3,.p 0 0)] hW hE2 fun a3 hE4=>?_
 refine B1 (D6 hE4 (f:=90) (vs:=[.pointer (some ⟨br,0,none⟩)]) (d:=4) kz Tryz.call90 (NZ x (rest) (Str.of hW 0 rfl) (hr.move hW.step (fun b_ o_ h_ _=>hFd b_ o_ h_) (hW.immM hFd)) (P8 0 rfl)) ?_)
 rintro e_ w5 ⟨_,A6,n7,c8,rfl,hs9,ae,ac,rfl⟩
 obtain ⟨ab,af,ak⟩:=hW.wrote 0 (z2 br A6 n7 c8) rfl ac hs9
 have ag:=ae.move (Step.refl _ C7) B2 (fun b_ o_ h_ _=>af.to b_ o_ h_)
 refine ⟨_,rfl,fun al ah=>?_⟩
 have ai:EnvOk 6 (z2 br A6 n7 c8) [(4,.v (.int .u64 (IntKind.u64.wrap x))),(3,.p 0 0)] _:=ah.places (⟨rfl,rfl,trivial⟩)
 refine B3 [2,3] [] [(2,.v (.int .i64 (IntKind.i64.wrap (IntKind.u64.wrap x))))] ab ai fun am aj=>?_
 refine B4 (A4 ?_)
 refine wp_ret (D1 aj ab.cells (v:=.int .i64 (IntKind.i64.wrap (IntKind.u64.wrap x))) kz ?_)
 refine ⟨_,_,_,_,rfl,Str.of ab 0 rfl,(ag.move (Step.refl _ C7) B2 T3),ab.step,by rw [MZ]⟩
theorem Pj (X:Bs) (hX:X.length ≤ 32767) (rest:Bs)  {br:Nat} {A:Option Addr} {m c:Nat} {w:World} {F:Nat → Nat → Prop} (hst:Str w br [.slice A m c,.bool false]) (hr:RdS w F A m c ((be 2 ((X.length:Nat):Int)) ++ (X ++ rest))) (hFd:∀ b o,F b o → ¬ G5 br b o) :
  Calls Tryz.prog 64 #[.pointer (some ⟨br,0,none⟩)] w (RdPost w br (Fp F w) rest fun v w'=>v = .string (bs X)):=by
 refine enter (n:=11) Tryz.func64 rfl Tryz.ntmps64 kz fun a hE=>?_
 have hW:WOk w (G5 br) w (z2 br A m c) []:=WOk.startStr hst
 have hE1:=(hE.grow ⟨br,0,[.slice A m c,.bool false],true⟩).recast 0 (.v (.pointer (some ⟨br,0,none⟩))) (.p 0 0) rfl rfl (Nat.le_of_ble_eq_true (n:=1) rfl)
 refine B9 [(0,.p 0 0)] hW hE1 fun a1 hE2=>?_
 refine C1 [0,1,2] kz ?_
 refine B3 [0] [1,2] [(0,.p 0 0),(4,.p 0 0)] hW hE2 fun a3 hE4=>?_
 refine B1 (D6 hE4 (f:=68) (vs:=[.pointer (some ⟨br,0,none⟩)]) (d:=5) kz Tryz.call68 (EI ((X.length:Nat):Int) (X ++ rest) (Str.of hW 0 rfl) (hr.move hW.step (fun b_ o_ h_ _=>hFd b_ o_ h_) (hW.immM hFd)) (P8 0 rfl)) ?_)
 rintro e_ w5 ⟨_,A6,n7,c8,rfl,hs9,ak,ah,rfl⟩
 let af:Ob:=⟨br,0,[.slice A6 n7 c8,.bool false],true⟩
 obtain ⟨ac,al,aH⟩:=hW.wrote 0 [af] rfl ah hs9
 have am:=ak.move (Step.refl _ C7) B2 (fun b_ o_ h_ _=>al.to b_ o_ h_)
 refine ⟨_,rfl,fun aN ao=>?_⟩
 have ap:EnvOk 11 [af] [(5,.v (.int .i16 (IntKind.i16.wrap ((X.length:Nat):Int)))),(0,.p 0 0),(4,.p 0 0)] _:=ao.places (⟨rfl,rfl,trivial⟩)
 refine B3 [2] [] [(0,.p 0 0),(3,.v (.int .i16 (IntKind.i16.wrap ((X.length:Nat):Int))))] ac ap fun aO ar=>?_
 refine B4 (A4 ?_)
 refine C1 [0,1,2,3,4,5] kz ?_
 refine B3 [0,1,2] [3,4,5] [(6,.p 0 0),(8,.v (.int .i64 (IntKind.i64.wrap (IntKind.i16.wrap ((X.length:Nat):Int)))))] ac ar fun aP au=>?_
 have av:IntKind.i64.wrap (IntKind.i16.wrap ((X.length:Nat):Int)) = ((X.length:Nat):Int):=by simp only [M9,I3,L9]; omega
 have aw:=EnvOk.pick au (ks:=[6,8]) (env':=[(6,.p 0 0),(8,.v (.int .i64 (IntKind.i64.wrap (IntKind.i16.wrap ((X.length:Nat):Int)))))]) kz
 let ab:Nat × SV:=(8,.v (.int .i64 ((X.length:Nat):Int)))
 have ax:=aw.cast (env':=[(6,.p 0 0),ab]) (by simp only [ab,av]; try rfl)
 refine B1 (D6 ax (f:=78) (vs:=(z5 br X.length)) (d:=9) kz Tryz.call78 (W9 X (rest) (Str.of ac 0 rfl) am (P8 0 rfl)) ?_)
 rintro e_ aQ ⟨_,aI,aJ,aK,rfl,ay,az,ai,⟨aL,rfl,aA⟩⟩
 let ag:Ob:=⟨br,0,[.slice aI aJ aK,.bool false],true⟩
 obtain ⟨ae,aj,aM⟩:=ac.wrote 0 [ag] rfl ai ay
 have aB:=az.move (Step.refl _ C7) B2 (fun b_ o_ h_ _=>aj.to b_ o_ h_)
 refine ⟨_,rfl,fun aR aC=>?_⟩
 have aD:EnvOk 11 [ag] [(9,.v (.slice aL X.length X.length)),(6,.p 0 0),ab] _:=aC.places (⟨rfl,rfl,trivial⟩)
 have aE:=aA.move (Step.refl _ C7) B2 (fun b_ o_ h_ _=>aj.to b_ o_ h_)
 refine B1 (Eg aD (src:=22) (dst:=9) (e:=5) (d:=10) kz kz kz kz aE fun aS aF=>?_)
 refine B3 [5] [] [(2,.v (.string (bs X)))] ae aF fun aT aG=>?_
 refine B4 (A4 ?_)
 refine wp_ret (D1 aG ae.cells (v:=.string (bs X)) kz ?_)
 refine ⟨_,_,_,_,rfl,Str.of ae 0 rfl,(aB.move (Step.refl _ C7) B2 T3),ae.step,rfl⟩
theorem Pk (X:Bs) (hX:X.length ≤ 1000000) (rest:Bs)  {br:Nat} {A:Option Addr} {m c:Nat} {w:World} {F:Nat → Nat → Prop} (hst:Str w br [.slice A m c,.bool false]) (hr:RdS w F A m c ((uv (X.length + 1)) ++ (X ++ rest))) (hFd:∀ b o,F b o → ¬ G5 br b o) :
  Calls Tryz.prog 63 #[.pointer (some ⟨br,0,none⟩)] w (RdPost w br (Fp F w) rest fun v w'=>v = .string (bs X)):=by
 refine enter (n:=12) Tryz.func63 rfl Tryz.ntmps63 kz fun a hE=>?_
 have hW:WOk w (G5 br) w (z2 br A m c) []:=WOk.startStr hst
 have hE1:=(hE.grow ⟨br,0,[.slice A m c,.bool false],true⟩).recast 0 (.v (.pointer (some ⟨br,0,none⟩))) (.p 0 0) rfl rfl (Nat.le_of_ble_eq_true (n:=1) rfl)
 refine B9 [(0,.p 0 0)] hW hE1 fun a1 hE2=>?_
 refine C1 [0,1,2,3,4] kz ?_
 refine B3 [0] [1,2,3,4] [(0,.p 0 0),(4,.p 0 0)] hW hE2 fun a3 hE4=>?_
 refine B1 (D6 hE4 (f:=76) (vs:=[.pointer (some ⟨br,0,none⟩)]) (d:=5) kz Tryz.call76 (T9 (X.length + 1) (by omega) (X ++ rest) (Str.of hW 0 rfl) (hr.move hW.step (fun b_ o_ h_ _=>hFd b_ o_ h_) (hW.immM hFd)) (P8 0 rfl)) ?_)
 rintro e_ w5 ⟨_,A6,n7,c8,rfl,hs9,ak,ah,rfl⟩
 let af:Ob:=⟨br,0,[.slice A6 n7 c8,.bool false],true⟩
 obtain ⟨ac,al,aH⟩:=hW.wrote 0 [af] rfl ah hs9
 have am:=ak.move (Step.refl _ C7) B2 (fun b_ o_ h_ _=>al.to b_ o_ h_)
 refine ⟨_,rfl,fun aN ao=>?_⟩
 have ap:EnvOk 12 [af] [(5,.v (.int .u32 ((X.length + 1:Nat):Int))),(0,.p 0 0),(4,.p 0 0)] _:=ao.places (⟨rfl,rfl,trivial⟩)
 refine B3 [2,3,4] [] [(0,.p 0 0),(3,.v (.int .i64 (IntKind.i64.wrap ((IntKind.i64.wrap ((X.length + 1:Nat):Int)) - 1))))] ac ap fun aO ar=>?_
 refine B4 (A4 ?_)
 refine C1 [0,1,2,3,4] kz ?_
 refine B3 [0,1] [2,3,4] [(8,.p 0 0),(9,.v (.int .i64 (IntKind.i64.wrap ((IntKind.i64.wrap ((X.length + 1:Nat):Int)) - 1))))] ac ar fun aP au=>?_
 have av:IntKind.i64.wrap ((IntKind.i64.wrap ((X.length + 1:Nat):Int)) - 1) = ((X.length:Nat):Int):=by simp only [M9,I3,L9]; omega
 have aw:=EnvOk.pick au (ks:=[8,9]) (env':=[(8,.p 0 0),(9,.v (.int .i64 (IntKind.i64.wrap ((IntKind.i64.wrap ((X.length + 1:Nat):Int)) - 1))))]) kz
 let ab:Nat × SV:=(9,.v (.int .i64 ((X.length:Nat):Int)))
 have ax:=aw.cast (env':=[(8,.p 0 0),ab]) (by simp only [ab,av]; try rfl)
 refine B1 (D6 ax (f:=78) (vs:=(z5 br X.length)) (d:=10) kz Tryz.call78 (W9 X (rest) (Str.of ac 0 rfl) am (P8 0 rfl)) ?_)
 rintro e_ aQ ⟨_,aI,aJ,aK,rfl,ay,az,ai,⟨aL,rfl,aA⟩⟩
 let ag:Ob:=⟨br,0,[.slice aI aJ aK,.bool false],true⟩
 obtain ⟨ae,aj,aM⟩:=ac.wrote 0 [ag] rfl ai ay
 have aB:=az.move (Step.refl _ C7) B2 (fun b_ o_ h_ _=>aj.to b_ o_ h_)
 refine ⟨_,rfl,fun aR aC=>?_⟩
 have aD:EnvOk 12 [ag] [(10,.v (.slice aL X.length X.length)),(8,.p 0 0),ab] _:=aC.places (⟨rfl,rfl,trivial⟩)
 have aE:=aA.move (Step.refl _ C7) B2 (fun b_ o_ h_ _=>aj.to b_ o_ h_)
 refine B1 (Eg aD (src:=22) (dst:=9) (e:=5) (d:=11) kz kz kz kz aE fun aS aF=>?_)
 refine B3 [4] [] [(2,.v (.string (bs X)))] ae aF fun aT aG=>?_
 refine B4 (A4 ?_)
 refine wp_ret (D1 aG ae.cells (v:=.string (bs X)) kz ?_)
 refine ⟨_,_,_,_,rfl,Str.of ae 0 rfl,(aB.move (Step.refl _ C7) B2 T3),ae.step,rfl⟩
theorem Pm (X:Bs) (rest:Bs)  {br:Nat} {A:Option Addr} {m c:Nat} {w:World} {F:Nat → Nat → Prop} (hst:Str w br [.slice A m c,.bool false]) (hr:RdS w F A m c ((be 2 (-1)) ++ rest)) (hFd:∀ b o,F b o → ¬ G5 br b o) :
  Calls Tryz.prog 74 #[.pointer (some ⟨br,0,none⟩)] w (RdPost w br (Fp F w) rest fun v w'=>∃ A2,v = .pointer A2 ∧ (∀ ad,A2 = some ad → ∃ b o,ad = ⟨b,o,none⟩ ∧ AtF w' (Fp F w) b o [.string (bs X)]) ∧ A2.isNone = true):=by
 refine enter (n:=14) Tryz.func74 rfl Tryz.ntmps74 kz fun a hE=>?_
 have hW:WOk w (G5 br) w (z2 br A m c) []:=WOk.startStr hst
 have hE1:=(hE.grow ⟨br,0,[.slice A m c,.bool false],true⟩).recast 0 (.v (.pointer (some ⟨br,0,none⟩))) (.p 0 0) rfl rfl (Nat.le_of_ble_eq_true (n:=1) rfl)
 refine B9 [(0,.p 0 0)] hW hE1 fun a1 hE2=>?_
 refine C1 [0,1,2] kz ?_
 refine B3 [0] [1,2] [(0,.p 0 0),(5,.p 0 0)] hW hE2 fun a3 hE4=>?_
 refine B1 (D6 hE4 (f:=68) (vs:=[.pointer (some ⟨br,0,none⟩)]) (d:=6) kz Tryz.call68 (EI (-1) (rest) (Str.of hW 0 rfl) (hr.move hW.step (fun b_ o_ h_ _=>hFd b_ o_ h_) (hW.immM hFd)) (P8 0 rfl)) ?_)
 rintro e_ w5 ⟨_,A6,n7,c8,rfl,hs9,af,ac,rfl⟩
 obtain ⟨ab,ag,am⟩:=hW.wrote 0 (z2 br A6 n7 c8) rfl ac hs9
 have ah:=af.move (Step.refl _ C7) B2 (fun b_ o_ h_ _=>ag.to b_ o_ h_)
 refine ⟨_,rfl,fun ao ai=>?_⟩
 have aj:EnvOk 14 (z2 br A6 n7 c8) [(6,.v (.int .i16 (IntKind.i16.wrap (-1)))),(0,.p 0 0),(5,.p 0 0)] _:=ai.places (⟨rfl,rfl,trivial⟩)
 refine B3 [2] [] [(0,.p 0 0),(3,.v (.int .i16 (IntKind.i16.wrap (-1))))] ab aj fun ap ak=>?_
 refine B4 (A4 ?_)
 refine wp_seq (B9 [(0,.p 0 0),(3,.v (.int .i16 (IntKind.i16.wrap (-1)))),(8,.v (.bool (decide ((IntKind.i16.wrap (-1)) < 0))))] ab ak fun ar ae=>?_)
 refine N7 ae (b:=decide ((IntKind.i16.wrap (-1)) < 0)) kz (decide_eq_true (by simp only [M9,I3,L9]; omega)) ?_
 refine B9 [(2,.v (.pointer none))] ab ae fun au al=>?_
 refine wp_ret (F5 (D1 al ab.cells (v:=.pointer none) kz ?_))
 refine ⟨_,_,_,_,rfl,Str.of ab 0 rfl,(ah.move (Step.refl _ C7) B2 T3),ab.step,_,rfl,(fun ad h_=>by cases h_),rfl⟩
theorem Pn (X:Bs) (hX:X.length ≤ 32767) (rest:Bs)  {br:Nat} {A:Option Addr} {m c:Nat} {w:World} {F:Nat → Nat → Prop} (hst:Str w br [.slice A m c,.bool false]) (hr:RdS w F A m c ((be 2 ((X.length:Nat):Int)) ++ (X ++ rest))) (hFd:∀ b o,F b o → ¬ G5 br b o) :
  Calls Tryz.prog 74 #[.pointer (some ⟨br,0,none⟩)] w (RdPost w br (Fp F w) rest fun v w'=>∃ A2,v = .pointer A2 ∧ (∀ ad,A2 = some ad → ∃ b o,ad = ⟨b,o,none⟩ ∧ AtF w' (Fp F w) b o [.string (bs X)]) ∧ A2.isNone = false):=by
 refine enter (n:=14) Tryz.func74 rfl Tryz.ntmps74 kz fun a hE=>?_
 have hW:WOk w (G5 br) w (z2 br A m c) []:=WOk.startStr hst
 have hE1:=(hE.grow ⟨br,0,[.slice A m c,.bool false],true⟩).recast 0 (.v (.pointer (some ⟨br,0,none⟩))) (.p 0 0) rfl rfl (Nat.le_of_ble_eq_true (n:=1) rfl)
 refine B9 [(0,.p 0 0)] hW hE1 fun a1 hE2=>?_
 refine C1 [0,1,2] kz ?_
 refine B3 [0] [1,2] [(0,.p 0 0),(5,.p 0 0)] hW hE2 fun a3 hE4=>?_
 refine B1 (D6 hE4 (f:=68) (vs:=[.pointer (some ⟨br,0,none⟩)]) (d:=6) kz Tryz.call68 (EI ((X.length:Nat):Int) (X ++ rest) (Str.of hW 0 rfl) (hr.move hW.step (fun b_ o_ h_ _=>hFd b_ o_ h_) (hW.immM hFd)) (P8 0 rfl)) ?_)
 rintro e_ w5 ⟨_,A6,n7,c8,rfl,hs9,ao,ah,rfl⟩
 let af:Ob:=⟨br,0,[.slice A6 n7 c8,.bool false],true⟩
 obtain ⟨ab,ap,aO⟩:=hW.wrote 0 [af] rfl ah hs9
 have ar:=ao.move (Step.refl _ C7) B2 (fun b_ o_ h_ _=>ap.to b_ o_ h_)
 refine ⟨_,rfl,fun aX au=>?_⟩
 have av:EnvOk 14 [af] [(6,.v (.int .i16 (IntKind.i16.wrap ((X.length:Nat):Int)))),(0,.p 0 0),(5,.p 0 0)] _:=au.places (⟨rfl,rfl,trivial⟩)
 refine B3 [2] [] [(0,.p 0 0),(3,.v (.int .i16 (IntKind.i16.wrap ((X.length:Nat):Int))))] ab av fun aY aw=>?_
 refine B4 (A4 ?_)
 refine wp_seq (B9 [(0,.p 0 0),(3,.v (.int .i16 (IntKind.i16.wrap ((X.length:Nat):Int)))),(8,.v (.bool (decide ((IntKind.i16.wrap ((X.length:Nat):Int)) < 0))))] ab aw fun aZ ai=>?_)
 refine G6 ai (b:=decide ((IntKind.i16.wrap ((X.length:Nat):Int)) < 0)) kz (decide_eq_false (by simp only [M9,I3,L9]; omega)) ?_
 refine wp_skip (A4 (C1 [0,1,2,3,4,5,6] kz ?_))
 refine B3 [0,1,2] [3,4,5,6] [(9,.p 0 0),(11,.v (.int .i64 (IntKind.i64.wrap (IntKind.i16.wrap ((X.length:Nat):Int)))))] ab ai fun ba ax=>?_
 have ay:IntKind.i64.wrap (IntKind.i16.wrap ((X.length:Nat):Int)) = ((X.length:Nat):Int):=by simp only [M9,I3,L9]; omega
 have az:=EnvOk.pick ax (ks:=[9,11]) (env':=[(9,.p 0 0),(11,.v (.int .i64 (IntKind.i64.wrap (IntKind.i16.wrap ((X.length:Nat):Int)))))]) kz
 let ac:Nat × SV:=(11,.v (.int .i64 ((X.length:Nat):Int)))
 have aA:=az.cast (env':=[(9,.p 0 0),ac]) (by simp only [ac,ay]; try rfl)
 refine B1 (D6 aA (f:=78) (vs:=(z5 br X.length)) (d:=12) kz Tryz.call78 (W9 X (rest) (Str.of ab 0 rfl) ar (P8 0 rfl)) ?_)
 rintro e_ bd ⟨_,aP,aQ,aR,rfl,aB,aC,aj,⟨aS,rfl,aD⟩⟩
 let ag:Ob:=⟨br,0,[.slice aP aQ aR,.bool false],true⟩
 obtain ⟨aE,ak,aT⟩:=ab.wrote 0 [ag] rfl aj aB
 have aF:=aC.move (Step.refl _ C7) B2 (fun b_ o_ h_ _=>ak.to b_ o_ h_)
 refine ⟨_,rfl,fun bf aG=>?_⟩
 have aH:EnvOk 14 [ag] [(12,.v (.slice aS X.length X.length)),(9,.p 0 0),ac] _:=aG.places (⟨rfl,rfl,trivial⟩)
 have aI:=aD.move (Step.refl _ C7) B2 (fun b_ o_ h_ _=>ak.to b_ o_ h_)
 refine B1 (Eg aH (src:=22) (dst:=9) (e:=5) (d:=13) kz kz kz kz aI fun bg aJ=>?_)
 refine B1 (N6 aE aJ (d:=4) (cs:=[.string ByteArray.empty]) kz fun aU bh bj aV aW al aK aL=>?_)
 refine B1 (I9 aK aL (oi:=1) (cs:=[.string (bs X)]) kz fun bk am ae aM=>?_)
 refine B4 (A4 ?_)
 refine B9 [(2,.p 1 0)] ae aM fun bn aN=>?_
 refine wp_ret (D1 aN ae.cells (v:=.pointer (some ⟨aU,0,none⟩)) kz ?_)
 refine ⟨_,_,_,_,rfl,Str.of ae 0 rfl,((aF.move (al.trans am).step immM (al.trans am).to').move (Step.refl _ C7) B2 T3),ae.step,_,rfl,(fun ad h_=>by
  obtain rfl:=Option.some.inj h_
  exact ⟨_,0,rfl,fun j v_ hj=>⟨.inr ‹_›,ae.cells 1 _ rfl j v_ hj⟩⟩),rfl⟩
theorem Po (nul:Bool) (X:Bs) (hX:X.length ≤ 32767) (rest:Bs) {br:Nat} {A:Option Addr} {m c:Nat} {w:World} {F:Nat → Nat → Prop} (hst:Str w br [.slice A m c,.bool false]) (hr:RdS w F A m c ((if nul = true then be 2 (-1) else be 2 ((X.length:Nat):Int) ++ X) ++ rest)) (hFd:∀ b o,F b o → ¬ G5 br b o) :
  Calls Tryz.prog 74 #[.pointer (some ⟨br,0,none⟩)] w (RdPost w br (Fp F w) rest fun v w'=>∃ A2,v = .pointer A2 ∧ (∀ ad,A2 = some ad → ∃ b o,ad = ⟨b,o,none⟩ ∧ AtF w' (Fp F w) b o [.string (bs X)]) ∧ A2.isNone = nul):=by
 cases nul
 ·exact Pn X hX rest hst (hr.cast (by simp only [Bool.false_eq_true,if_false,List.append_assoc])) hFd
 exact Pm X rest hst (hr.cast (by simp only [if_true])) hFd
theorem Pp (X:Bs) (rest:Bs)  {br:Nat} {A:Option Addr} {m c:Nat} {w:World} {F:Nat → Nat → Prop} (hst:Str w br [.slice A m c,.bool false]) (hr:RdS w F A m c ((uv 0) ++ rest)) (hFd:∀ b o,F b o → ¬ G5 br b o) :
  Calls Tryz.prog 72 #[.pointer (some ⟨br,0,none⟩)] w (RdPost w br (Fp F w) rest fun v w'=>∃ A2,v = .pointer A2 ∧ (∀ ad,A2 = some ad → ∃ b o,ad = ⟨b,o,none⟩ ∧ AtF w' (Fp F w) b o [.string (bs X)]) ∧ A2.isNone = true):=by
 refine enter (n:=15) Tryz.func72 rfl Tryz.ntmps72 kz fun a hE=>?_
 have hW:WOk w (G5 br) w (z2 br A m c) []:=WOk.startStr hst
 have hE1:=(hE.grow ⟨br,0,[.slice A m c,.bool false],true⟩).recast 0 (.v (.pointer (some ⟨br,0,none⟩))) (.p 0 0) rfl rfl (Nat.le_of_ble_eq_true (n:=1) rfl)
 refine B9 [(0,.p 0 0)] hW hE1 fun a1 hE2=>?_
 refine C1 [0,1,2,3,4] kz ?_
 refine B3 [0] [1,2,3,4] [(0,.p 0 0),(5,.p 0 0)] hW hE2 fun a3 hE4=>?_
 refine B1 (D6 hE4 (f:=76) (vs:=[.pointer (some ⟨br,0,none⟩)]) (d:=6) kz Tryz.call76 (T9 0 (by omega) (rest) (Str.of hW 0 rfl) (hr.move hW.step (fun b_ o_ h_ _=>hFd b_ o_ h_) (hW.immM hFd)) (P8 0 rfl)) ?_)
 rintro e_ w5 ⟨_,A6,n7,c8,rfl,hs9,af,ac,rfl⟩
 obtain ⟨ab,ag,am⟩:=hW.wrote 0 (z2 br A6 n7 c8) rfl ac hs9
 have ah:=af.move (Step.refl _ C7) B2 (fun b_ o_ h_ _=>ag.to b_ o_ h_)
 refine ⟨_,rfl,fun ao ai=>?_⟩
 have aj:EnvOk 15 (z2 br A6 n7 c8) [(6,.v (.int .u32 ((0:Nat):Int))),(0,.p 0 0),(5,.p 0 0)] _:=ai.places (⟨rfl,rfl,trivial⟩)
 refine B3 [2,3,4] [] [(0,.p 0 0),(3,.v (.int .i64 (IntKind.i64.wrap ((IntKind.i64.wrap ((0:Nat):Int)) - 1))))] ab aj fun ap ak=>?_
 refine B4 (A4 ?_)
 refine wp_seq (B9 [(0,.p 0 0),(3,.v (.int .i64 (IntKind.i64.wrap ((IntKind.i64.wrap ((0:Nat):Int)) - 1)))),(10,.v (.bool (decide ((IntKind.i64.wrap ((IntKind.i64.wrap ((0:Nat):Int)) - 1)) < 0))))] ab ak fun ar ae=>?_)
 refine N7 ae (b:=decide ((IntKind.i64.wrap ((IntKind.i64.wrap ((0:Nat):Int)) - 1)) < 0)) kz (decide_eq_true (by simp only [M9,I3,L9]; omega)) ?_
 refine B9 [(2,.v (.pointer none))] ab ae fun au al=>?_
 refine wp_ret (F5 (D1 al ab.cells (v:=.pointer none) kz ?_))
 refine ⟨_,_,_,_,rfl,Str.of ab 0 rfl,(ah.move (Step.refl _ C7) B2 T3),ab.step,_,rfl,(fun ad h_=>by cases h_),rfl⟩
theorem Pq (X:Bs) (hX:X.length ≤ 1000000) (rest:Bs)  {br:Nat} {A:Option Addr} {m c:Nat} {w:World} {F:Nat → Nat → Prop} (hst:Str w br [.slice A m c,.bool false]) (hr:RdS w F A m c ((uv (X.length + 1)) ++ (X ++ rest))) (hFd:∀ b o,F b o → ¬ G5 br b o) :
  Calls Tryz.prog 72 #[.pointer (some ⟨br,0,none⟩)] w (RdPost w br (Fp F w) rest fun v w'=>∃ A2,v = .pointer A2 ∧ (∀ ad,A2 = some ad → ∃ b o,ad = ⟨b,o,none⟩ ∧ AtF w' (Fp F w) b o [.string (bs X)]) ∧ A2.isNone = false):=by
 refine enter (n:=15) Tryz.func72 rfl Tryz.ntmps72 kz fun a hE=>?_
 have hW:WOk w (G5 br) w (z2 br A m c) []:=WOk.startStr hst
 have hE1:=(hE.grow ⟨br,0,[.slice A m c,.bool false],true⟩).recast 0 (.v (.pointer (some ⟨br,0,none⟩))) (.p 0 0) rfl rfl (Nat.le_of_ble_eq_true (n:=1) rfl)
 refine B9 [(0,.p 0 0)] hW hE1 fun a1 hE2=>?_
 refine C1 [0,1,2,3,4] kz ?_
 refine B3 [0] [1,2,3,4] [(0,.p 0 0),(5,.p 0 0)] hW hE2 fun a3 hE4=>?_
 refine B1 (D6 hE4 (f:=76) (vs:=[.pointer (some ⟨br,0,none⟩)]) (d:=6) kz Tryz.call76 (T9 (X.length + 1) (by omega) (X ++ rest) (Str.of hW 0 rfl) (hr.move hW.step (fun b_ o_ h_ _=>hFd b_ o_ h_) (hW.immM hFd)) (P8 0 rfl)) ?_)
 rintro e_ w5 ⟨_,A6,n7,c8,rfl,hs9,ao,ah,rfl⟩
 let af:Ob:=⟨br,0,[.slice A6 n7 c8,.bool false],true⟩
 obtain ⟨ab,ap,aO⟩:=hW.wrote 0 [af] rfl ah hs9
 have ar:=ao.move (Step.refl _ C7) B2 (fun b_ o_ h_ _=>ap.to b_ o_ h_)
 refine ⟨_,rfl,fun aX au=>?_⟩
 have av:EnvOk 15 [af] [(6,.v (.int .u32 ((X.length + 1:Nat):Int))),(0,.p 0 0),(5,.p 0 0)] _:=au.places (⟨rfl,rfl,trivial⟩)
 refine B3 [2,3,4] [] [(0,.p 0 0),(3,.v (.int .i64 (IntKind.i64.wrap ((IntKind.i64.wrap ((X.length + 1:Nat):Int)) - 1))))] ab av fun aY aw=>?_
 refine B4 (A4 ?_)
 refine wp_seq (B9 [(0,.p 0 0),(3,.v (.int .i64 (IntKind.i64.wrap ((IntKind.i64.wrap ((X.length + 1:Nat):Int)) - 1)))),(10,.v (.bool (decide ((IntKind.i64.wrap ((IntKind.i64.wrap ((X.length + 1:Nat):Int)) - 1)) < 0))))] ab aw fun aZ ai=>?_)
 refine G6 ai (b:=decide ((IntKind.i64.wrap ((IntKind.i64.wrap ((X.length + 1:Nat):Int)) - 1)) < 0)) kz (decide_eq_false (by simp only [M9,I3,L9]; omega)) ?_
 refine wp_skip (A4 (C1 [0,1,2,3,4,5] kz ?_))
 refine B3 [0,1] [2,3,4,5] [(11,.p 0 0),(12,.v (.int .i64 (IntKind.i64.wrap ((IntKind.i64.wrap ((X.length + 1:Nat):Int)) - 1))))] ab ai fun ba ax=>?_
 have ay:IntKind.i64.wrap ((IntKind.i64.wrap ((X.length + 1:Nat):Int)) - 1) = ((X.length:Nat):Int):=by simp only [M9,I3,L9]; omega
 have az:=EnvOk.pick ax (ks:=[11,12]) (env':=[(11,.p 0 0),(12,.v (.int .i64 (IntKind.i64.wrap ((IntKind.i64.wrap ((X.length + 1:Nat):Int)) - 1))))]) kz
 let ac:Nat × SV:=(12,.v (.int .i64 ((X.length:Nat):Int)))
 have aA:=az.cast (env':=[(11,.p 0 0),ac]) (by simp only [ac,ay]; try rfl)
 refine B1 (D6 aA (f:=78) (vs:=(z5 br X.length)) (d:=13) kz Tryz.call78 (W9 X (rest) (Str.of ab 0 rfl) ar (P8 0 rfl)) ?_)
 rintro e_ bd ⟨_,aP,aQ,aR,rfl,aB,aC,aj,⟨aS,rfl,aD⟩⟩
 let ag:Ob:=⟨br,0,[.slice aP aQ aR,.bool false],true⟩
 obtain ⟨aE,ak,aT⟩:=ab.wrote 0 [ag] rfl aj aB
 have aF:=aC.move (Step.refl _ C7) B2 (fun b_ o_ h_ _=>ak.to b_ o_ h_)
 refine ⟨_,rfl,fun bf aG=>?_⟩
 have aH:EnvOk 15 [ag] [(13,.v (.slice aS X.length X.length)),(11,.p 0 0),ac] _:=aG.places (⟨rfl,rfl,trivial⟩)
 have aI:=aD.move (Step.refl _ C7) B2 (fun b_ o_ h_ _=>ak.to b_ o_ h_)
 refine B1 (Eg aH (src:=22) (dst:=9) (e:=5) (d:=14) kz kz kz kz aI fun bg aJ=>?_)
 refine B1 (N6 aE aJ (d:=4) (cs:=[.string ByteArray.empty]) kz fun aU bh bj aV aW al aK aL=>?_)
 refine B1 (I9 aK aL (oi:=1) (cs:=[.string (bs X)]) kz fun bk am ae aM=>?_)
 refine B4 (A4 ?_)
 refine B9 [(2,.p 1 0)] ae aM fun bn aN=>?_
 refine wp_ret (D1 aN ae.cells (v:=.pointer (some ⟨aU,0,none⟩)) kz ?_)
 refine ⟨_,_,_,_,rfl,Str.of ae 0 rfl,((aF.move (al.trans am).step immM (al.trans am).to').move (Step.refl _ C7) B2 T3),ae.step,_,rfl,(fun ad h_=>by
  obtain rfl:=Option.some.inj h_
  exact ⟨_,0,rfl,fun j v_ hj=>⟨.inr ‹_›,ae.cells 1 _ rfl j v_ hj⟩⟩),rfl⟩
theorem Ps (nul:Bool) (X:Bs) (hX:X.length ≤ 1000000) (rest:Bs) {br:Nat} {A:Option Addr} {m c:Nat} {w:World} {F:Nat → Nat → Prop} (hst:Str w br [.slice A m c,.bool false]) (hr:RdS w F A m c ((if nul = true then uv 0 else uv (X.length + 1) ++ X) ++ rest)) (hFd:∀ b o,F b o → ¬ G5 br b o) :
  Calls Tryz.prog 72 #[.pointer (some ⟨br,0,none⟩)] w (RdPost w br (Fp F w) rest fun v w'=>∃ A2,v = .pointer A2 ∧ (∀ ad,A2 = some ad → ∃ b o,ad = ⟨b,o,none⟩ ∧ AtF w' (Fp F w) b o [.string (bs X)]) ∧ A2.isNone = nul):=by
 cases nul
 ·exact Pq X hX rest hst (hr.cast (by simp only [Bool.false_eq_true,if_false,List.append_assoc])) hFd
 exact Pp X rest hst (hr.cast (by simp only [if_true])) hFd
theorem Pt (x:Int) (hx:-1 ≤ x ∧ x ≤ 32767) (rest:Bs) (hl:x ≤ ((rest.length:Nat):Int)) {br:Nat} {A:Option Addr} {m c:Nat} {w:World} {F:Nat → Nat → Prop} (hst:Str w br [.slice A m c,.bool false]) (hr:RdS w F A m c ((be 4 x) ++ rest)) (hFd:∀ b o,F b o → ¬ G5 br b o) :
  Calls Tryz.prog 57 #[.pointer (some ⟨br,0,none⟩)] w (RdPost w br (Fp F w) rest fun v w'=>v = .int .i32 x):=by
 refine enter (n:=21) Tryz.func57 rfl Tryz.ntmps57 kz fun a hE=>?_
 have hW:WOk w (G5 br) w (z2 br A m c) []:=WOk.startStr hst
 have hE1:=(hE.grow ⟨br,0,[.slice A m c,.bool false],true⟩).recast 0 (.v (.pointer (some ⟨br,0,none⟩))) (.p 0 0) rfl rfl (Nat.le_of_ble_eq_true (n:=1) rfl)
 refine B9 [(0,.p 0 0)] hW hE1 fun a1 hE2=>?_
 refine C1 [0,1,2] kz ?_
 refine B3 [0] [1,2] [(0,.p 0 0),(4,.p 0 0)] hW hE2 fun a3 hE4=>?_
 refine B1 (D6 hE4 (f:=67) (vs:=[.pointer (some ⟨br,0,none⟩)]) (d:=5) kz Tryz.call67 (JK x (rest) (Str.of hW 0 rfl) (hr.move hW.step (fun b_ o_ h_ _=>hFd b_ o_ h_) (hW.immM hFd)) (P8 0 rfl)) ?_)
 rintro e_ w5 ⟨_,A6,n7,c8,rfl,hs9,ag,ac,rfl⟩
 obtain ⟨ab,ah,am⟩:=hW.wrote 0 (z2 br A6 n7 c8) rfl ac hs9
 have ae:=ag.move (Step.refl _ C7) B2 (fun b_ o_ h_ _=>ah.to b_ o_ h_)
 refine ⟨_,rfl,fun ao ai=>?_⟩
 have aj:EnvOk 21 (z2 br A6 n7 c8) [(5,.v (.int .i32 (IntKind.i32.wrap x))),(0,.p 0 0),(4,.p 0 0)] _:=ai.places (⟨rfl,rfl,trivial⟩)
 refine B3 [2] [] [(0,.p 0 0),(3,.v (.int .i32 (IntKind.i32.wrap x)))] ab aj fun ap ak=>?_
 refine B4 (A4 ?_)
 refine wp_seq (B9 [(0,.p 0 0),(3,.v (.int .i32 (IntKind.i32.wrap x))),(13,.v (.bool (decide (((n7:Nat):Int) < (IntKind.i64.wrap (IntKind.i32.wrap x))))))] ab ak fun ar af=>?_)
 refine G6 af (b:=decide (((n7:Nat):Int) < (IntKind.i64.wrap (IntKind.i32.wrap x)))) kz (decide_eq_false (by have h_:=ae.len; simp only [I3,L9]; omega)) ?_
 refine wp_skip (A4 (B9 [(2,.v (.int .i32 (IntKind.i32.wrap x)))] ab af fun au al=>?_))
 refine wp_ret (D1 al ab.cells (v:=.int .i32 (IntKind.i32.wrap x)) kz ?_)
 refine ⟨_,_,_,_,rfl,Str.of ab 0 rfl,(ae.move (Step.refl _ C7) B2 T3),ab.step,congrArg (Value.int .i32) (by simp only [I3]; omega)⟩
theorem Pu (n:Nat) (hn:n ≤ 32768) (rest:Bs) (hl:n ≤ rest.length + 1) {br:Nat} {A:Option Addr} {m c:Nat} {w:World} {F:Nat → Nat → Prop} (hst:Str w br [.slice A m c,.bool false]) (hr:RdS w F A m c ((uv n) ++ rest)) (hFd:∀ b o,F b o → ¬ G5 br b o) :
  Calls Tryz.prog 56 #[.pointer (some ⟨br,0,none⟩)] w (RdPost w br (Fp F w) rest fun v w'=>v = .int .i32 (((n:Nat):Int) - 1)):=by
 refine enter (n:=23) Tryz.func56 rfl Tryz.ntmps56 kz fun a hE=>?_
 have hW:WOk w (G5 br) w (z2 br A m c) []:=WOk.startStr hst
 have hE1:=(hE.grow ⟨br,0,[.slice A m c,.bool false],true⟩).recast 0 (.v (.pointer (some ⟨br,0,none⟩))) (.p 0 0) rfl rfl (Nat.le_of_ble_eq_true (n:=1) rfl)
 refine B9 [(0,.p 0 0)] hW hE1 fun a1 hE2=>?_
 refine C1 [0,1,2,3,4] kz ?_
 refine B3 [0] [1,2,3,4] [(0,.p 0 0),(4,.p 0 0)] hW hE2 fun a3 hE4=>?_
 refine B1 (D6 hE4 (f:=76) (vs:=[.pointer (some ⟨br,0,none⟩)]) (d:=5) kz Tryz.call76 (T9 n (by omega) (rest) (Str.of hW 0 rfl) (hr.move hW.step (fun b_ o_ h_ _=>hFd b_ o_ h_) (hW.immM hFd)) (P8 0 rfl)) ?_)
 rintro e_ w5 ⟨_,A6,n7,c8,rfl,hs9,ag,ac,rfl⟩
 obtain ⟨ab,ah,am⟩:=hW.wrote 0 (z2 br A6 n7 c8) rfl ac hs9
 have ae:=ag.move (Step.refl _ C7) B2 (fun b_ o_ h_ _=>ah.to b_ o_ h_)
 refine ⟨_,rfl,fun ao ai=>?_⟩
 have aj:EnvOk 23 (z2 br A6 n7 c8) [(5,.v (.int .u32 ((n:Nat):Int))),(0,.p 0 0),(4,.p 0 0)] _:=ai.places (⟨rfl,rfl,trivial⟩)
 refine B3 [2,3,4] [] [(0,.p 0 0),(3,.v (.int .i32 (IntKind.i32.wrap ((IntKind.i32.wrap ((n:Nat):Int)) - 1))))] ab aj fun ap ak=>?_
 refine B4 (A4 ?_)
 refine wp_seq (B9 [(0,.p 0 0),(3,.v (.int .i32 (IntKind.i32.wrap ((IntKind.i32.wrap ((n:Nat):Int)) - 1)))),(15,.v (.bool (decide (((n7:Nat):Int) < (IntKind.i64.wrap (IntKind.i32.wrap ((IntKind.i32.wrap ((n:Nat):Int)) - 1)))))))] ab ak fun ar af=>?_)
 refine G6 af (b:=decide (((n7:Nat):Int) < (IntKind.i64.wrap (IntKind.i32.wrap ((IntKind.i32.wrap ((n:Nat):Int)) - 1))))) kz (decide_eq_false (by have h_:=ae.len; simp only [I3,L9]; omega)) ?_
 refine wp_skip (A4 (B9 [(2,.v (.int .i32 (IntKind.i32.wrap ((IntKind.i32.wrap ((n:Nat):Int)) - 1))))] ab af fun au al=>?_))
 refine wp_ret (D1 al ab.cells (v:=.int .i32 (IntKind.i32.wrap ((IntKind.i32.wrap ((n:Nat):Int)) - 1))) kz ?_)
 refine ⟨_,_,_,_,rfl,Str.of ab 0 rfl,(ae.move (Step.refl _ C7) B2 T3),ab.step,congrArg (Value.int .i32) (by simp only [I3]; omega)⟩
theorem Pv  (rest:Bs)  {br:Nat} {A:Option Addr} {m c:Nat} {w:World} {F:Nat → Nat → Prop} (hst:Str w br [.slice A m c,.bool false]) (hr:RdS w F A m c (rest)) (hFd:∀ b o,F b o → ¬ G5 br b o) :
  Calls Tryz.prog 58 #[.pointer (some ⟨br,0,none⟩)] w (RdPost w br (Fp F w) rest fun v w'=>v = .bool true):=by
 refine enter (n:=8) Tryz.func58 rfl Tryz.ntmps58 kz fun a hE=>?_
 have hW:WOk w (G5 br) w (z2 br A m c) []:=WOk.startStr hst
 have hE1:=(hE.grow ⟨br,0,[.slice A m c,.bool false],true⟩).recast 0 (.v (.pointer (some ⟨br,0,none⟩))) (.p 0 0) rfl rfl (Nat.le_of_ble_eq_true (n:=1) rfl)
 refine B9 [(0,.p 0 0)] hW hE1 fun a1 hE2=>?_
 refine B9 [(2,.v (.bool true))] hW hE2 fun a3 hE4=>?_
 refine wp_ret (D1 hE4 hW.cells (v:=.bool true) kz ?_)
 refine ⟨_,_,_,_,rfl,Str.of hW 0 rfl,((hr.move hW.step (fun b_ o_ h_ _=>hFd b_ o_ h_) (hW.immM hFd)).move (Step.refl _ C7) B2 T3),hW.step,rfl⟩
theorem S9 {P:Program} {c:Code} {Mid:Act → World → Prop} {Q:Exit → Act → World → Prop} {a:Act} {w:World} (h1:c.wp P (Exit.then Mid Q) a w) (h2:∀ a' w',Mid a' w' → Q .normal a' w'):c.wp P Q a w :=
 wp_mono h1 fun e a' w' h=>by
  cases e <;> first | exact h2 a' w' h | exact h
theorem EJ {k:Nat} (h:k < 32768):IntKind.i32.wrap (((k:Nat):Int) + 1) = ((k + 1:Nat):Int):=by rw [I3]; omega
theorem JM {g:Tree → Bs}:∀ {L:List Tree},(∀ t,0 < (g t).length) → L.length ≤ (L.flatMap g).length
 | [],_=>Nat.zero_le _
 | t :: r,h=>by
  have h1:=h t
  have h2:=JM (L:=r) h
  rw [List.flatMap_cons,List.length_append,List.length_cons]; omega
theorem flat_ge' {g:Tree → Bs} {L:List Tree} (h:∀ t,0 < (g t).length) (rest:Bs):L.length ≤ (L.flatMap g ++ rest).length:=by
 have:=JM (L:=L) h
 rw [List.length_append]; omega
theorem M5 {a b c d:Bs} (h:a = b) (h':c = d):a ++ c = b ++ d:=by rw [h,h']
theorem M1 {c:Bool} {a b:Bs} (h:c = true → a = b):(if c = true then a else []) = (if c = true then b else []):=by
 cases c
 ·rfl
 rw [h rfl]
theorem Dq {x y:Bs} (h:0 < x.length):0 < (x ++ y).length:=by rw [List.length_append]; omega
theorem JN {x y:Bs} (h:0 < y.length):0 < (x ++ y).length:=by rw [List.length_append]; omega
theorem Pw {b:Bool} {x y:Bs} (h:0 < x.length) (h':0 < y.length):0 < (if b = true then x else y).length:=by split <;> assumption
theorem EK {m:Nat} {x:Int} (h:0 < m):0 < (be m x).length:=by rw [be_length]; exact h
section
variable {Pr:Program} {ops:Array Oper} {Q:Exit → Act → World → Prop} {w0:World} {M F:Nat → Nat → Prop} {n br:Nat} {tb:Tb} {env:B8} {P:G9} {s:Bs} {a:Act} {w:World}
theorem EL {id d:Nat} {t e:TypeId} {size bytes m cp:Nat} {A0:Option Addr} (env1 env':B8) (i:Nat) (h:RS w0 M F n br tb env P s a w) (K:∀ a',RS w0 M F n br tb env' P s a' w → Q .normal a' w)
  (hr:List.range ops.size = List.range i ++ (i :: (List.range ops.size).drop (i + 1)):=by kernel_rfl) (e1:∀ A m c,G7 Pr ops n (rdo br A m c :: tb) (List.range i) (K3 env1) env = some env1:=by intro _ _ _; kernel_rfl)
  (hc:∀ A m_ c,N9 (rdo br A m_ c :: tb) env1 ops n i = some (t,.slice A0 m cp,none,some 0,d):=by intro _ _ _; kernel_rfl) (ht:J0 Pr t = some (e,size,bytes):=by kernel_rfl)
  (e2:∀ A m_ c,G7 Pr ops n (rdo br A m_ c :: tb) ((List.range ops.size).drop (i + 1)) (K3 env') ((d,.v (.slice A0 0 cp)) :: env1) = some env':=by intro _ _ _; kernel_rfl):(Code.region id ops false).wp Pr Q a w:=by
 refine E4 _ hr (I4 (List.range i) _ env1 h (fun a1 h1=>?_) e1 rfl)
 obtain ⟨A,m1,c,hW,hrd,hE,hP⟩:=h1.open_
 refine B1 (DA hE (hc A m1 c) ht (j:=0) rfl (Nat.zero_le _) fun a2 hE2=>?_)
 exact I4 _ [] env' (RS.mk' hW hrd hE2 h1.mv hP) (fun a3 h3=>B4 (K a3 h3)) e2 (List.append_nil _).symm
theorem GW {i d:Nat} {f:FuncId} {vs:List Value} {v0:Value} {N:Act → World → Prop} (h:RS w0 M F n br tb env P s a w) (hc:∀ w,Calls Pr f vs.toArray w (fun e w'=>e = .returned v0 ∧ w' = w))
  (hf:∀ args w,(callFunc f args).run Pr w = .ok (.enter f args) w) (K:∀ a',RS w0 M F n br tb ((d,.v v0) :: env) P s a' w → N a' w)
  (he:∀ A m c,L5 (rdo br A m c :: tb) env ops n i = some (f,vs,d):=by intro _ _ _; kernel_rfl):wpOp Pr ops Q i N a w:=by
 obtain ⟨A,m,c,hW,hr,hE,hP⟩:=h.open_
 refine D6 hE (he A m c) hf (hc w) ?_
 rintro e_ _ ⟨rfl,rfl⟩
 exact ⟨_,rfl,fun a1 hE1=>K a1 (RS.mk' hW hr hE1 h.mv hP)⟩
theorem EM {id d:Nat} {f:FuncId} {v0:Value} (env':B8) (h:RS w0 M F n br tb env P s a w) (hc:Q4 Pr f [] s v0)
  (hf:∀ args w,(callFunc f args).run Pr w = .ok (.enter f args) w) (K:∀ a' w',RS w0 M F n br tb env' P s a' w' → Q .normal a' w')
  (he:∀ A m c,L5 (rdo br A m c :: tb) env ops n 0 = some (f,[.pointer (some ⟨br,0,none⟩)],d):=by intro _ _ _; kernel_rfl)
  (e:∀ A m c,G7 Pr ops n (rdo br A m c :: tb) ((List.range ops.size).drop 1) (K3 env') ((d,.v v0) :: env) = some env':=by intro _ _ _; kernel_rfl) (hs:Nat.blt 0 ops.size = true:=by kernel_rfl):(Code.region id ops false).wp Pr Q a w :=
 O6 (X:=[]) (rest:=s) env' h hc hf K he e hs
theorem Px {i d k l g size bytes:Nat} {t e:TypeId} {z:Value} {N:Act → World → Prop} (h:RS w0 M F n br (tb ++ [I5 g size z l k]) env P s a w) (hk:k < l) (hz:z.cells.size = size) (hl:O0 (tb.length + 1) env = true)
  (K:∀ a',RS w0 M F n br (tb ++ [I5 g size z l (k + 1),⟨g,k * size,z.cells.toList,true⟩]) ((d,.p (tb.length + 2) 0) :: env) P s a' w → N a' w)
  (he:∀ A m c,P0 (rdo br A m c :: (tb ++ [I5 g size z l k])) env ops n i = some (t,some ⟨g,0,none⟩,l,((k:Nat):Int),d):=by intro _ _ _; kernel_rfl) (ht:J0 Pr t = some (e,size,bytes):=by kernel_rfl):wpOp Pr ops Q i N a w:=by
 obtain ⟨A,m,c,hW,hr,hE,hP⟩:=h.open_
 refine J7 hE (he A m c) ht rfl rfl hk fun a1 hE1=>K a1 ?_
 have h1:RS w0 M F n br (tb ++ [I5 g size z l k]) ((d,.v (.pointer (some ⟨g,0 + k * size,none⟩))) :: env) P s a1 w:=RS.mk' hW hr hE1 h.mv hP
 have h2:=h1.next hk hz (by simpa only [O0] using hl)
 have h3:=h2.recast d (.v (.pointer (some ⟨g,0 + k * size,none⟩))) (.p (tb.length + 2) 0) (by simp [lk]) ?_ (by show tb.length + 2 < _; simp)
 ·refine ⟨h3.mv,h3.ex,?_,h3.fact⟩
  refine ⟨h3.env_.defers,h3.env_.size,fun q x hx=>h3.env_.at_ q x ?_⟩
  simp only [lk] at hx ⊢
  split at hx
  ·exact hx
  exact hx
 have:C0 (rdo br none 0 0 :: (tb ++ [I5 g size z l (k + 1),⟨g,k * size,z.cells.toList,true⟩])) (tb.length + 2) = ⟨g,k * size,z.cells.toList,true⟩:=by
  simp only [C0,List.getD_eq_getElem?_getD]
  rw [show tb.length + 2 = (tb.length + 1) + 1 from rfl,List.getElem?_cons_succ,List.getElem?_append_right (by omega)]
  simp
 simp only [SV.val,this]
 simp
theorem EN {id d k l g size bytes:Nat} {t e:TypeId} {z:Value} (env1 env':B8) (i:Nat) (h:RS w0 M F n br (tb ++ [I5 g size z l k]) env P s a w) (hk:k < l) (hz:z.cells.size = size) (hl:O0 (tb.length + 1) env1 = true)
  (K:∀ a',RS w0 M F n br (tb ++ [I5 g size z l (k + 1),⟨g,k * size,z.cells.toList,true⟩]) env' P s a' w → Q .normal a' w)
  (hr:List.range ops.size = List.range i ++ (i :: (List.range ops.size).drop (i + 1)):=by kernel_rfl) (e1:∀ A m c,G7 Pr ops n (rdo br A m c :: (tb ++ [I5 g size z l k])) (List.range i) (K3 env1) env = some env1:=by intro _ _ _; kernel_rfl)
  (he:∀ A m c,P0 (rdo br A m c :: (tb ++ [I5 g size z l k])) env1 ops n i = some (t,some ⟨g,0,none⟩,l,((k:Nat):Int),d):=by intro _ _ _; kernel_rfl) (ht:J0 Pr t = some (e,size,bytes):=by kernel_rfl)
  (e2:∀ A m c,G7 Pr ops n (rdo br A m c :: (tb ++ [I5 g size z l (k + 1),⟨g,k * size,z.cells.toList,true⟩])) ((List.range ops.size).drop (i + 1)) (K3 env') ((d,.p (tb.length + 2) 0) :: env1) = some env':=by intro _ _ _; kernel_rfl):(Code.region id ops false).wp Pr Q a w:=by
 refine E4 _ hr (I4 (List.range i) _ env1 h (fun a1 h1=>B1 (Px h1 hk hz hl (fun a2 h2=>?_) he ht)) e1 rfl)
 exact I4 _ [] env' h2 (fun a3 h3=>B4 (K a3 h3)) e2 (List.append_nil _).symm
end
theorem Py (X:Bs) (hX:X.length = 16) (rest:Bs) {br:Nat} {A:Option Addr} {m c:Nat} {w:World} {F:Nat → Nat → Prop} (hst:Str w br [.slice A m c,.bool false]) (hr:RdS w F A m c (X ++ rest)) (hFd:∀ b o,F b o → ¬ G5 br b o) :
  Calls Tryz.prog 65 #[.pointer (some ⟨br,0,none⟩)] w (RdPost w br (Fp F w) rest fun v w'=>v = .agg ((List.range 16).map fun i=>B7 (X.getD i 0)).toArray):=by
 have hbr:br < w.heap.size:=World.lt_of_cell (hst.at_ 0 _ rfl)
 refine enter (n:=9) (vs:=[.pointer (some ⟨br,0,none⟩)]) Tryz.func65 rfl Tryz.ntmps65 kz fun a hE=>?_
 refine C1 [0] kz ?_
 refine B1 (Jc hE (d:=2) (cs:=(List.range 16).map fun _=>B7 0) kz fun t0 a1 hE1=>B4 (A4 ?_))
 have hs1:=Step.alloc w (.cells ((List.range 16).map fun _=>B7 0).toArray t0)
 have hz1:=CO w (.cells ((List.range 16).map fun _=>B7 0).toArray t0)
 have hh1:=X4 w (.cells ((List.range 16).map fun _=>B7 0).toArray t0)
 generalize w.alloc (.cells ((List.range 16).map fun _=>B7 0).toArray t0) = w1 at hs1 hz1 hh1
 refine C1 [0] kz ?_
 refine B1 (Jc hE1 (d:=3) (cs:=(List.range 16).map fun _=>B7 0) kz fun t1 a2 hE2=>B4 (A4 ?_))
 have hs2:=Step.alloc w1 (.cells ((List.range 16).map fun _=>B7 0).toArray t1)
 have hz2:=CO w1 (.cells ((List.range 16).map fun _=>B7 0).toArray t1)
 have hh2:=X4 w1 (.cells ((List.range 16).map fun _=>B7 0).toArray t1)
 generalize hp2:w.heap.size = p2 at hE1 hE2 hh1 hz1
 generalize hp3:w1.heap.size = p3 at hE2 hh2 hz2
 generalize w1.alloc (.cells ((List.range 16).map fun _=>B7 0).toArray t1) = w2 at hs2 hz2 hh2
 refine Fl (fun _=>True) 4 kz ?_
 have hsd:=Step.drew w2
 have hhd:w2.drew.heap[p3]? = some (.cells ((List.range 16).map fun _=>B7 0).toArray t1):=hh2
 have hS:Step w w2.drew C7:=(hs1.trans hs2 fun _ _ _ h=>h).trans hsd fun _ _ _ h=>h
 have hh1d:w2.drew.heap[p2]? = some (.cells ((List.range 16).map fun _=>B7 0).toArray t0):=(hs2.trans hsd fun _ _ _ h=>h).heap (fun _ h=>h) hh1
 generalize w2.drew = wd at hsd hhd hS hh1d
 have hE3:EnvOk 9 [⟨p3,0,[],true⟩] [(0,.v (.pointer (some ⟨br,0,none⟩))),(2,.v (.pointer (some ⟨p2,0,none⟩))),(3,.p 0 0)] _:=((hE2.grow ⟨p3,0,[],true⟩).recast 3 (.v (.pointer (some ⟨p3,0,none⟩))) (.p 0 0) rfl rfl (Nat.le_of_ble_eq_true (n:=1) rfl)).pk
 refine G4 [0,1] [(0,.v (.pointer (some ⟨br,0,none⟩))),(2,.v (.pointer (some ⟨p2,0,none⟩))),(3,.p 0 0),(4,.v (.slice (some ⟨p3,0,none⟩) 16 16)),(5,.v (.pointer (some ⟨br,0,none⟩)))] 2 (B6 E0) (fun w' _ i o hi j v hj=>by
  cases i with
  | zero =>
   simp only [List.getElem?_cons_zero,Option.some.injEq] at hi
   subst hi
   simp at hj
  | succ i=>simp at hi) trivial hE3 fun a3 hE4=>?_
 have hst':=hst.move hS (fun _ h=>h)
 have hr':=hr.move hS B2 (fun b o h hb=>(⟨h,hb⟩:F b o ∧ b < w.heap.size))
 have hFd':∀ b o,(F b o ∧ b < w.heap.size) → ¬ G5 br b o:=fun b o h=>hFd b o h.1
 have hSp:=W9 X rest hst' hr' hFd'
 rw [show ((X.length:Nat):Int) = 16 by omega] at hSp
 refine H6 (i:=2) kz (D6 hE4 (f:=78) (vs:=[.pointer (some ⟨br,0,none⟩),.int .i64 16]) (d:=6) kz Tryz.call78 hSp ?_)
 rintro e_ w3 ⟨_,A1,n1,c1,rfl,hs,hr1,hst3,Ax,rfl,hox⟩
 refine ⟨_,rfl,fun a4 hE5=>⟨fun _=>trivial,?_⟩⟩
 have hh3:=hst3.heap (fun o e=>by have:=e.1; have:=hS.size; omega) hhd
 have hh13:=hst3.heap (fun o e=>by have:=e.1; omega) hh1d
 refine H6 (i:=3) kz (MI hE5 (t:=22) (u:=22) (e:=5) (bytes:=1) (b:=p3) (s:=X) (d:=7) kz kz hh3 rfl hox fun a5 w4 hst4 hat hfz hE6=>⟨fun _=>trivial,L6 kz (A4 ?_) _⟩)
 obtain ⟨v,hE6⟩:=hE6
 have hh14:=hst4.heap (fun o e=>by have:=hz1; omega) hh13
 have hst04:Step w w4 (G5 br):=((hS.mono fun _ _ _ f=>f.elim).trans hst3 fun _ _ _ e=>e).trans hst4 fun b o hb e=>by have:=hs1.size; omega
 have h2l:p2 < w4.heap.size:=(Array.getElem?_eq_some_iff.1 hh14).1
 have hW4:WOk w (G5 br) w4 ([] ++ [⟨p2,0,(List.range 16).map fun _=>B7 0,true⟩] ++ [⟨p3,0,(List.range 16).map fun i=>B7 (X.getD i 0),true⟩]) []:=by
  have hb:WOk w (G5 br) w4 [] []:=⟨hst04,fun i o hi=>by simp at hi,fun i o hi=>by simp at hi,fun i o hi=>by simp at hi,fun i j o o' _ hi=>by simp at hi,fun i r hi=>by simp at hi,fun i r hi=>by simp at hi,fun i r hi=>by simp at hi,fun i j r r' _ hi=>by simp at hi⟩
  have h4:=hb.add ⟨p2,0,(List.range 16).map fun _=>B7 0,true⟩ h2l (fun j v hj=>by
   dsimp only at hj ⊢
   rw [Nat.zero_add]
   simp only [World.cell?,hh14]
   simpa using hj) (fun _ j hj=>⟨.inl (by dsimp only; omega),by simp [World.frozen?,hh14]⟩) (fun i o hi=>by simp at hi) (fun i r hi=>by simp at hi)
  refine h4.add ⟨p3,0,(List.range 16).map fun i=>B7 (X.getD i 0),true⟩ (World.lt_of_cell (hat 0 _ rfl)) (fun j v hj=>hat j v hj) (fun _ j hj=>⟨.inl (by dsimp only; have:=hs1.size; omega),hfz _⟩) (fun i o hi _=>.inl ?_) (fun i r hi=>by simp at hi)
  have hm:=List.mem_of_getElem? hi
  have:o = ⟨p2,0,(List.range 16).map fun _=>B7 0,true⟩:=by simpa using hm
  rw [this]
  dsimp only; omega
 have hE7:EnvOk 9 [⟨p2,0,(List.range 16).map fun _=>B7 0,true⟩,⟨p3,0,(List.range 16).map fun i=>B7 (X.getD i 0),true⟩] [(2,.p 0 0),(3,.p 1 0)] _ :=
  (((((hE6.pick (ks:=[2,3]) (env':=[(2,.v (.pointer (some ⟨p2,0,none⟩))),(3,.p 0 0)]) kz).recast 3 (.p 0 0) (.v (.pointer (some ⟨p3,0,none⟩))) rfl rfl trivial).pick (ks:=[2,3]) (env':=[(2,.v (.pointer (some ⟨p2,0,none⟩))),(3,.v (.pointer (some ⟨p3,0,none⟩)))]) kz).cutTb 0 kz).retable [⟨p2,0,(List.range 16).map fun _=>B7 0,true⟩,⟨p3,0,(List.range 16).map fun i=>B7 (X.getD i 0),true⟩] |>.recast 2 (.v (.pointer (some ⟨p2,0,none⟩))) (.p 0 0) rfl rfl (Nat.le_of_ble_eq_true (n:=1) rfl) |>.recast 3 (.v (.pointer (some ⟨p3,0,none⟩))) (.p 1 0) rfl rfl (Nat.le_of_ble_eq_true (n:=2) rfl)).pk
 refine C1 [0,1] kz ?_
 refine B3 [0] [1] [(2,.p 0 0),(8,.v (.agg ((List.range 16).map fun i=>B7 (X.getD i 0)).toArray))] hW4 hE7 fun a6 hE8=>?_
 refine B1 (I9 hW4 hE8 (oi:=0) (cs:=(List.range 16).map fun i=>B7 (X.getD i 0)) kz fun w5 hF5 hW5 hE9=>B4 (A4 (wp_ret ?_)))
 have hstz:Step w4 w5 (fun b o=>b = p2 ∨ b = p3):=hF5.step.mono fun b o _ ha=>by
  rcases ha with ⟨i,ob,hi,_,rfl,_⟩ | ⟨i,r,hi,_⟩
  ·have hm:=List.mem_of_getElem? hi
   simp only [List.nil_append,List.cons_append,List.mem_cons,List.not_mem_nil,or_false] at hm
   rcases hm with rfl | rfl
   ·exact .inl rfl
   exact .inr rfl
  simp at hi
 have hsz:=hs1.size
 refine D1 hE9 hW5.cells (v:=.agg ((List.range 16).map fun i=>B7 (X.getD i 0)).toArray) kz ⟨_,A1,n1,c1,rfl,(hs.move hst4 fun o e=>?_).move hstz (fun o e=>?_),(hr1.move hst4 (fun b o hg _ e=>?_) (fun b o hg _=>hg)).move hstz (fun b o hg _ e=>?_) (fun b o hg _=>.inl hg.1),hW5.step,rfl⟩
 ·omega
 ·rcases e with e | e <;> omega
 ·have:=hg.2; omega
 have:=hg.2; rcases e with e | e <;> omega
theorem Pz (x:Int) (rest:Bs):Q4 Tryz.prog 68 (be 2 (IntKind.i16.wrap x)) rest (.int .i16 (IntKind.i16.wrap x)):=fun hs hr hF=>(EI _ rest hs hr hF).mono fun e w' hp=>hp.fp fun v w' h=>by rw [h,Gw]
theorem BS (x:Int) (rest:Bs):Q4 Tryz.prog 67 (be 4 (IntKind.i32.wrap x)) rest (.int .i32 (IntKind.i32.wrap x)):=fun hs hr hF=>(JK _ rest hs hr hF).mono fun e w' hp=>hp.fp fun v w' h=>by rw [h,Gx]
theorem GX (x:Int) (rest:Bs):Q4 Tryz.prog 69 (be 8 x) rest (.int .i64 (IntKind.i64.wrap x)):=fun hs hr hF=>(Pi x rest hs hr hF).mono fun e w' hp=>hp.q fun v w' h=>h
theorem PA (S:Bs) (hS:S.length ≤ 32767) (rest:Bs):Q4 Tryz.prog 64 (be 2 S.length ++ S) rest (.string (bs S)):=fun hs hr hF=>(Pj S hS rest hs (hr.cast (by simp only [List.append_assoc])) hF).mono fun e w' hp=>hp.q fun v w' h=>h
theorem JO (S:Bs) (hS:S.length ≤ 32767) (rest:Bs):Q4 Tryz.prog 63 (uv (S.length + 1) ++ S) rest (.string (bs S)):=fun hs hr hF=>(Pk S (by omega) rest hs (hr.cast (by simp only [List.append_assoc])) hF).mono fun e w' hp=>hp.q fun v w' h=>h
theorem JP (nul:Bool) (S:Bs) (hS:S.length ≤ 32767) (rest:Bs):Dm Tryz.prog 74 (if nul = true then be 2 (-1) else be 2 S.length ++ S) rest (fun A:Option Addr=>.pointer A) (fun A=>J2 (Dl A S) (GQ (A.isNone = nul))):=fun hs hr hF=>(Po nul S (by omega) rest hs hr hF).mono fun e w' hp=>hp.q fun v w' h=>by
 obtain ⟨A,h1,h2,h3⟩:=h
 exact ⟨A,h1,h2,h3⟩
theorem GY (nul:Bool) (S:Bs) (hS:S.length ≤ 32767) (rest:Bs):Dm Tryz.prog 72 (if nul = true then uv 0 else uv (S.length + 1) ++ S) rest (fun A:Option Addr=>.pointer A) (fun A=>J2 (Dl A S) (GQ (A.isNone = nul))):=fun hs hr hF=>(Ps nul S (by omega) rest hs hr hF).mono fun e w' hp=>hp.q fun v w' h=>by
 obtain ⟨A,h1,h2,h3⟩:=h
 exact ⟨A,h1,h2,h3⟩
theorem GZ (n:Nat) (hn:n ≤ 32767) (rest:Bs) (hl:n ≤ rest.length):Q4 Tryz.prog 57 (be 4 n) rest (.int .i32 ((n:Nat):Int)):=fun hs hr hF=>(Pt ((n:Nat):Int) (by omega) rest (by omega) hs hr hF).mono fun e w' hp=>hp.q fun v w' h=>h
theorem EO (n:Nat) (hn:n ≤ 32767) (rest:Bs) (hl:n ≤ rest.length):Q4 Tryz.prog 56 (uv (n + 1)) rest (.int .i32 ((n:Nat):Int)):=fun hs hr hF=>(Pu (n + 1) (by omega) rest (by omega) hs hr hF).mono fun e w' hp=>hp.q fun v w' h=>h.trans (congrArg (Value.int .i32) (by omega))
theorem PB (S:Bs) (rest:Bs):Q4 Tryz.prog 65 (E8 S) rest (.agg #[B7 ((E8 S).getD 0 0),B7 ((E8 S).getD 1 0),B7 ((E8 S).getD 2 0),B7 ((E8 S).getD 3 0),B7 ((E8 S).getD 4 0),B7 ((E8 S).getD 5 0),B7 ((E8 S).getD 6 0),B7 ((E8 S).getD 7 0),B7 ((E8 S).getD 8 0),B7 ((E8 S).getD 9 0),B7 ((E8 S).getD 10 0),B7 ((E8 S).getD 11 0),B7 ((E8 S).getD 12 0),B7 ((E8 S).getD 13 0),B7 ((E8 S).getD 14 0),B7 ((E8 S).getD 15 0)]):=fun hs hr hF=>(Py (E8 S) (ID S) rest hs hr hF).mono fun e w' hp=>hp.q fun v w' h=>h
theorem EP (rest:Bs):Q4 Tryz.prog 58 [] rest (.bool true):=fun hs hr hF=>(Pv rest hs hr hF).mono fun e w' hp=>hp.q fun v w' h=>h
theorem EQ (u:List (Int × Bs)) (hU:Q2 u) (hk:∀ x ∈ u,0 ≤ x.1 ∧ x.1 < 4294967296) (rest:Bs):Dm Tryz.prog 75 (uv u.length ++ D7 u) rest (fun m:Option Nat=>.agg #[.map m]) (fun m=>tagsM m u):=fun hs hr hF=>(Ph u rest hU.1 hk hU.2.1 hU.2.2 hs (hr.cast (by simp only [List.append_assoc])) hF).mono fun e w' hp=>hp.q fun v w' h=>h
theorem PC (k:Int) (A:Option Addr) (m c:Nat) (w:World):Calls Tryz.prog 20 #[.agg #[.int .u32 k,.slice A m c]] w (FW w):=by
 refine enter (n:=7) Tryz.func20 rfl Tryz.ntmps20 kz fun a hE=>?_
 have hW:=WOk.start w C7
 refine C1 [0,1] kz ?_
 refine B1 (M2 hW hE (d:=1) (cs:=[.int .u32 k,.slice A m c]) kz fun b1 a2 w3 hb4 hz5 hF6 hW7 hE8=>?_)
 refine B3 [1] [] [(1,.p 0 0)] hW7 hE8 fun a9 ae=>?_
 refine B4 (A4 ?_)
 refine wp_seq (B9 [(6,.v (.bool (decide (((m:Nat):Int) > 2147483647))))] hW7 ae fun aj ab=>?_)
 refine E2 ab (b:=decide (((m:Nat):Int) > 2147483647)) kz (fun ac=>?_) (fun ac=>?_)
 ·
  have ah:=of_decide_eq_true ac
  refine B9 [(2,.v (.bool false))] hW7 ab fun ak af=>?_
  refine wp_ret (F5 (D1 af hW7.cells (v:=.bool false) kz ?_))
  exact ⟨_,rfl,hW7.step⟩
 have ai:=of_decide_eq_false ac
 refine wp_skip (A4 (B9 [(2,.v (.bool true))] hW7 ab fun al ag=>?_))
 refine wp_ret (D1 ag hW7.cells (v:=.bool true) kz ?_)
 exact ⟨_,rfl,hW7.step⟩
theorem PD (A:Option Addr) (c:Nat) (u:List (Int × Bs)) (w:World) (F:Nat → Nat → Prop) (hu:TagsR w F A c u):Calls Tryz.prog 11 #[.slice A u.length c] w (FW w):=by
 obtain ⟨xu,h1,h2⟩:=hu.ex
 have hsm:=h1.small
 refine enter (n:=18) Tryz.func11 rfl Tryz.ntmps11 kz fun a hE=>?_
 have hW:=WOk.start w C7
 refine B9 [(0,.v (.slice A u.length c))] hW hE fun a1 hE2=>?_
 refine wp_seq (B9 [(0,.v (.slice A u.length c)),(7,.v (.bool (decide (((u.length:Nat):Int) > 2147483647))))] hW hE2 fun a3 hE4=>?_)
 refine E2 hE4 (b:=decide (((u.length:Nat):Int) > 2147483647)) kz (fun hc5=>?_) (fun hc5=>?_)
 ·
  have hf6:=of_decide_eq_true hc5
  refine B9 [(2,.v (.bool false))] hW hE4 fun a7 hE8=>?_
  refine wp_ret (F5 (D1 hE8 hW.cells (v:=.bool false) kz ?_))
  exact ⟨_,rfl,hW.step⟩
 have hf9:=of_decide_eq_false hc5
 refine wp_skip (A4 (wp_seq ?_))
 let ab:Nat × SV:=(8,.v (.slice A u.length c))
 let ac:Nat × SV:=(9,.v (.int .i64 ((u.length:Nat):Int)))
 refine B9 [ab,ac,(10,.v (.int .i64 0))] hW hE4 fun bn av=>?_
 refine wp_block (wp_loop_ghost (fun n_ a_ w_=>∃ (k:Nat),n_ = u.length - k ∧ k ≤ u.length ∧ J1 hW 18 [] [] [ab,ac,(10,.v (.int .i64 ((k:Nat):Int)))] a_ w_) (u.length) ⟨0,by omega,by omega,av.pk,hW,Fr.refl _ _ _⟩ ?_)
 rintro bo bp bq ⟨k,aX,aY,aw,ag,ax⟩
 let ai:Nat × SV:=(10,.v (.int .i64 ((k:Nat):Int)))
 refine B9 [ab,ac,ai,(11,.v (.bool (decide (((k:Nat):Int) < ((u.length:Nat):Int)))))] ag aw fun bt ak=>?_
 refine wp_seq (E2 ak (b:=decide (((k:Nat):Int) < ((u.length:Nat):Int))) kz (fun al=>?_) (fun al=>?_))
 ·
  have aZ:=of_decide_eq_true al
  refine wp_skip (A4 (wp_seq (wp_block (C1 [0,1,2,3] kz ?_))))
  obtain ⟨ba,bd,ay,bf,aj⟩:=Slots.get h1 (i:=k) (by omega)
  obtain ⟨⟨az,aA⟩,aB⟩:∃ x,u[k]? = some x:=⟨_,List.getElem?_eq_getElem (by omega)⟩
  obtain ⟨⟨aT,aU,ap,bg⟩,bu,bw⟩:=h2 k az aA aB
  rw [ap] at aj
  refine B1 (J7 ak (t:=24) (A:=A) (m:=u.length) (q:=((k:Nat):Int)) (d:=12) kz (e:=55) (size:=2) (bytes:=32) kz ay rfl (by omega) fun bx aC=>?_)
  let ae:Value:=.int .u32 az
  let af:Value:=.slice aT aA.length aU
  let aV:Value:=.agg #[.int .u32 az,.slice aT aA.length aU]
  refine B1 (M7 aC (t:=55) (b:=ba) (o:=bd + k * 2) (d:=13) kz (cs:=[ae,af]) (v:=.agg #[ae,af]) kz (AtF.move aj ag.step B2 F3).at_ fun bz aD=>?_)
  refine B1 (N6 ag aD (d:=4) (cs:=[.int .u32 0,.slice none 0 0]) kz fun bA bB bC bh bj aE aF aG=>?_)
  refine B1 (I9 aF aG (oi:=0) (cs:=[ae,af]) kz fun bD aH am aI=>?_)
  refine B4 (A4 ?_)
  refine C1 [0,1,2] kz ?_
  refine B3 [0] [1,2] [ab,ac,ai,(14,.v (.agg #[ae,af]))] am aI fun bE aJ=>?_
  refine B1 (D6 aJ (f:=20) (vs:=[.agg #[ae,af]]) (d:=15) kz Tryz.call20 (PC _ _ _ _ _) ?_)
  rintro e_ bF ⟨aW,rfl,ar⟩
  refine ⟨_,rfl,fun bG aK=>?_⟩
  have ah:=am.next_nil ar
  have aL:=am.frN ar
  refine B3 [2] [] [ab,ac,ai,(16,.v (.bool (!aW)))] ah aK fun bH ao=>?_
  refine B4 (A4 ?_)
  refine E2 ao (b:=!aW) kz (fun aM=>?_) (fun aM=>?_)
  ·
   refine B9 [(2,.v (.bool false))] ah ao fun bI aN=>?_
   refine wp_ret (J6 (F5 (F5 (J6 (F5 (D1 aN ah.cells (v:=.bool false) kz ?_))))))
   exact ⟨_,rfl,ah.step⟩
  refine wp_skip (H7 (A4 (E4 [0,1] kz ?_)))
  refine B3 [0,1] [] [ab,ac,(10,.v (.int .i64 (IntKind.i64.wrap (((k:Nat):Int) + 1))))] ah ao fun bJ aO=>?_
  refine B4 (A4 ?_)
  obtain ⟨au,aP,aQ⟩:=ah.cutB aO 0 [] [ab,ac,(10,.v (.int .i64 (IntKind.i64.wrap (((k:Nat):Int) + 1))))]
  have aR:IntKind.i64.wrap (((k:Nat):Int) + 1) = ((k + 1:Nat):Int):=N0 (by omega)
  rw [aR] at au
  exact ⟨u.length - (k + 1),by omega,k + 1,rfl,by omega,au.pk,aP,((((ax.trans aE).trans aH).trans aL).trans aQ)⟩
 have bk:=of_decide_eq_false al
 refine wp_exit (F2 (F2 (I7 (A4 (B9 [(2,.v (.bool true))] ag ak fun bK aS=>?_)))))
 refine wp_ret (D1 aS ag.cells (v:=.bool true) kz ?_)
 exact ⟨_,rfl,ag.step⟩
theorem PE (ct:List Value) (t:Tree) (w:World) (F:Nat → Nat → Prop) (ht:TreeR w F ct t):Calls Tryz.prog 4 #[.agg ct.toArray] w (FW w):=by
 obtain ⟨n1,s2,b3,l4,u5,A6,c7,A8,c9,al,am,aD,rfl,rfl,aE,aF,aP,aG⟩:=ht.open_
 have aA:=aE.small
 have aB:=aF.small
 refine enter (n:=15) Tryz.func4 rfl Tryz.ntmps4 kz fun a hE=>?_
 have hW:=WOk.start w C7
 refine C1 [0,1] kz ?_
 refine B1 (M2 hW hE (d:=1) (cs:=[.int .i64 n1,.slice A6 s2.length c7,.bool b3,.slice A8 l4.length c9,.slice al u5.length am]) kz fun aQ aR aS aH aI aJ ab ao=>?_)
 refine B3 [1] [] [(1,.p 0 0)] ab ao fun aT ap=>?_
 refine B4 (A4 ?_)
 refine wp_seq (B9 [(1,.p 0 0),(6,.v (.bool (decide (((s2.length:Nat):Int) > 2147483647))))] ab ap fun aU af=>?_)
 let ae:Nat × SV:=(2,.v (.bool false))
 refine E2 af (b:=decide (((s2.length:Nat):Int) > 2147483647)) kz (fun ag=>?_) (fun ag=>?_)
 ·
  have aK:=of_decide_eq_true ag
  refine B9 [ae] ab af fun aV ar=>?_
  refine wp_ret (F5 (D1 ar ab.cells (v:=.bool false) kz ?_))
  exact ⟨_,rfl,ab.step⟩
 have aL:=of_decide_eq_false ag
 refine wp_skip (A4 (wp_seq (B9 [(1,.p 0 0),(10,.v (.bool (decide (((l4.length:Nat):Int) > 2147483647))))] ab af fun aW ah=>?_)))
 refine E2 ah (b:=decide (((l4.length:Nat):Int) > 2147483647)) kz (fun ai=>?_) (fun ai=>?_)
 ·
  have aM:=of_decide_eq_true ai
  refine B9 [ae] ab ah fun aX au=>?_
  refine wp_ret (F5 (D1 au ab.cells (v:=.bool false) kz ?_))
  exact ⟨_,rfl,ab.step⟩
 have aN:=of_decide_eq_false ai
 refine wp_skip (A4 (wp_seq (C1 [0,1,2,3] kz ?_)))
 refine B3 [0,1] [2,3] [(12,.v (.slice al u5.length am))] ab ah fun aY av=>?_
 refine B1 (D6 av (f:=11) (vs:=[.slice al u5.length am]) (d:=13) kz Tryz.call11 (PD _ _ u5 _ _ (aG.move ab.step B2 ab.imm)) ?_)
 rintro e_ aZ ⟨aC,rfl,ak⟩
 refine ⟨_,rfl,fun ba aw=>?_⟩
 have ac:=ab.next_nil ak
 have aO:=ab.frN ak
 refine B3 [3] [] [(14,.v (.bool (!aC)))] ac aw fun bd aj=>?_
 refine B4 (A4 ?_)
 refine E2 aj (b:=!aC) kz (fun ax=>?_) (fun ax=>?_)
 ·
  refine B9 [ae] ac aj fun bf ay=>?_
  refine wp_ret (F5 (D1 ay ac.cells (v:=.bool false) kz ?_))
  exact ⟨_,rfl,ac.step⟩
 refine wp_skip (A4 (B9 [(2,.v (.bool true))] ac aj fun bg az=>?_))
 refine wp_ret (D1 az ac.cells (v:=.bool true) kz ?_)
 exact ⟨_,rfl,ac.step⟩
theorem PF (x m:Int) (hx:0 ≤ x) (hx':x < 256) (hm:0 ≤ m) (hm':m < 32768) (w:World):Calls Tryz.prog 7 #[.int .u8 x,.int .i64 m] w (J9 w (.int .i64 (Int.tmod x (m + 1)))):=by
 refine enter (n:=10) Tryz.func7 rfl Tryz.ntmps7 kz fun a hE=>?_
 have hW:=WOk.start w C7
 refine B9 [(0,.v (.int .u8 x)),(1,.v (.int .i64 m))] hW hE fun a1 hE2=>?_
 refine C1 [0,1,2,3,4,5] kz ?_
 refine B3 [0,1,2,3] [4,5] [(6,.v (.int .i64 (IntKind.i64.wrap x))),(8,.v (.int .i64 (IntKind.i64.wrap (m + 1))))] hW hE2 fun a3 hE4=>?_
 refine B1 (KS hE4 (k:=.i64) (p:=(IntKind.i64.wrap x)) (q:=(IntKind.i64.wrap (m + 1))) (d:=9) kz (by simp only [IntKind.wrap_i64]; omega) fun a5 hE6=>?_)
 refine B3 [5] [] [(4,.v (.int .i64 (Int.tmod (IntKind.i64.wrap x) (IntKind.i64.wrap (m + 1)))))] hW hE6 fun a7 hE8=>?_
 refine B4 (A4 ?_)
 refine wp_ret (D1 hE8 hW.cells (v:=.int .i64 (Int.tmod (IntKind.i64.wrap x) (IntKind.i64.wrap (m + 1)))) kz ?_)
 exact ⟨by rw [wrap_i64 (by omega) (by omega),wrap_i64 (by omega) (by omega)],hW.step⟩
def sx (k i:Nat):Nat:=if i = 0 then k else if i = k then 0 else i
theorem ER (k i:Nat):sx k (sx k i) = i:=by
 unfold sx
 by_cases h:i = 0
 ·subst h
  rw [if_pos rfl]
  by_cases h2:k = 0
  ·rw [if_pos h2]; exact h2
  rw [if_neg h2,if_pos rfl]
 rw [if_neg h]
 by_cases h2:i = k
 ·rw [if_pos h2,if_pos rfl]; exact h2.symm
 rw [if_neg h2,if_neg h,if_neg h2]
theorem PG {k i j:Nat} (h:sx k i = sx k j):i = j:=by rw [← ER k i,h,ER]
theorem Bn {α:Type} {x y:α} {l:List α} (i:Nat):(y :: (l ++ [x]))[i]? = (x :: (l ++ [y]))[sx (l.length + 1) i]?:=by
 unfold sx
 cases i with
 | zero=>simp
 | succ i =>
  rw [if_neg (by omega)]
  by_cases h:i = l.length
  ·subst h; simp
  rw [if_neg (by omega)]
  simp only [List.getElem?_cons_succ]
  by_cases h2:i < l.length
  ·rw [List.getElem?_append_left h2,List.getElem?_append_left h2]
  rw [List.getElem?_eq_none (by simp; omega),List.getElem?_eq_none (by simp; omega)]
theorem WOk.swapK {w0 w:World} {M:Nat → Nat → Prop} {o1 o2:Ob} {tb:Tb} (h:WOk w0 M w (o1 :: (tb ++ [o2])) []):WOk w0 M w (o2 :: (tb ++ [o1])) [] :=
 ⟨h.step,fun i o hi=>h.cells _ o (by rw [← Bn]; exact hi),fun i o hi=>h.live _ o (by rw [← Bn]; exact hi),fun i o hi=>h.rw_ _ o (by rw [← Bn]; exact hi),fun i j o o' hij hi hj hw=>h.apart (sx (tb.length + 1) i) (sx (tb.length + 1) j) o o' (fun e=>hij (PG e)) (by rw [← Bn]; exact hi) (by rw [← Bn]; exact hj) hw,h.own,h.ownM,fun i r hi=>by simp at hi,h.rr⟩
theorem JQ {o1 o2:Ob} {tb:Tb} {b o:Nat} (h:H2 (o2 :: (tb ++ [o1])) [] b o):H2 (o1 :: (tb ++ [o2])) [] b o:=by
 rcases h with ⟨i,ob,hi,h1⟩ | ⟨i,r,hi,_⟩
 ·exact .inl ⟨_,ob,by rw [← Bn]; exact hi,h1⟩
 simp at hi
def X0 (k:Nat):B8 → B8
 | []=>[]
 | (t,.v x) :: r=>(t,.v x) :: X0 k r
 | (t,.p i j) :: r=>(t,.p (match Nat.beq i 0 with | true=>k | false=>match Nat.beq i k with | true=>0 | false=>i) j) :: X0 k r
theorem PH (k i:Nat):(match Nat.beq i 0 with | true=>k | false=>match Nat.beq i k with | true=>0 | false=>i) = sx k i:=by
 unfold sx
 by_cases h:i = 0
 ·subst h; rfl
 rw [if_neg h,show Nat.beq i 0 = false from by cases hq:Nat.beq i 0 with | false=>rfl | true=>exact absurd (Nat.eq_of_beq_eq_true hq) h]
 by_cases h2:i = k
 ·rw [if_pos h2,show Nat.beq i k = true from by subst h2; exact Nat.beq_refl i]
 rw [if_neg h2,show Nat.beq i k = false from by cases hq:Nat.beq i k with | false=>rfl | true=>exact absurd (Nat.eq_of_beq_eq_true hq) h2]
theorem JR {n:Nat} {o1 o2:Ob} {tb:Tb} {env:B8} {a:Act} (h:EnvOk n (o1 :: (tb ++ [o2])) env a):EnvOk n (o2 :: (tb ++ [o1])) (X0 (tb.length + 1) env) a:=by
 have ob:∀ i,C0 (o2 :: (tb ++ [o1])) (sx (tb.length + 1) i) = C0 (o1 :: (tb ++ [o2])) i:=fun i=>by
  unfold C0
  rw [List.getD_eq_getElem?_getD,List.getD_eq_getElem?_getD,Bn,ER]
 have key:∀ (env:B8) (k:Nat) (x:SV),lk (X0 (tb.length + 1) env) k = some x → ∃ y,lk env k = some y ∧ (y.ok (o1 :: (tb ++ [o2])) → x.val (o2 :: (tb ++ [o1])) = y.val (o1 :: (tb ++ [o2])) ∧ x.ok (o2 :: (tb ++ [o1]))):=by
  intro env
  induction env with
  | nil=>intro k x hx; cases hx
  | cons e r ih =>
   obtain ⟨k',sv⟩:=e
   intro k x hx
   cases sv with
   | v y =>
    simp only [X0,lk] at hx ⊢
    split at hx
    ·rename_i hb
     simp only [Option.some.injEq] at hx
     subst hx
     exact ⟨_,rfl,fun _=>⟨rfl,trivial⟩⟩
    exact ih k x hx
   | p i j =>
    rw [X0,PH] at hx
    simp only [lk] at hx ⊢
    split at hx
    ·rename_i hb
     simp only [Option.some.injEq] at hx
     subst hx
     refine ⟨_,rfl,fun hok=>⟨?_,?_⟩⟩
     ·simp only [SV.val,ob]
     have hok':i < (o1 :: (tb ++ [o2])).length:=hok
     have g:(o2 :: (tb ++ [o1]))[sx (tb.length + 1) i]? = (o1 :: (tb ++ [o2]))[i]?:=by rw [Bn,ER]
     rw [List.getElem?_eq_getElem hok'] at g
     exact (List.getElem?_eq_some_iff.1 g).1
    exact ih k x hx
 refine ⟨h.defers,h.size,fun k x hx=>?_⟩
 obtain ⟨y,hy,hv⟩:=key env k x hx
 obtain ⟨h1,h2⟩:=h.at_ k y hy
 obtain ⟨h3,h4⟩:=hv h2
 exact ⟨by rw [h3]; exact h1,h4⟩
def JS (A:Option Addr) (m c:Nat) (s:Bs):G9:=fun w F=>RdS w F A m c s
theorem MvF.rd (A:Option Addr) (m c:Nat) (s:Bs):MvF (JS A m c s):=⟨fun hs hM hF g=>RdS.move g hs hM hF⟩
section
variable {Pr:Program} {ops:Array Oper} {Q:Exit → Act → World → Prop} {w0:World} {M F:Nat → Nat → Prop} {n br:Nat} {tb:Tb} {env:B8} {P:G9} {s:Bs} {a:Act} {w:World}
theorem RS.nest {bi ci:Nat} {Ai:Option Addr} {si:Bs} (h:RS w0 M F n br (tb ++ [rdo bi Ai si.length ci]) env P s a w) (hs:∀ w F,P w F → Octs w F Ai ci si):∃ A m c,RS w0 M F n bi (tb ++ [rdo br A m c]) (X0 (tb.length + 1) env) (J2 P (JS A m c s)) si a w:=by
 obtain ⟨A,m,c,hW,hr,hE,hP⟩:=h.open_
 have mvI:∀ b o,H1 F w0 w (rdo br A m c :: (tb ++ [rdo bi Ai si.length ci])) [] b o → b < w.heap.size → H1 F w0 w (rdo bi Ai si.length ci :: (tb ++ [rdo br A m c])) [] b o:=fun b o g _=>⟨g.1,g.2.1,fun ha=>g.2.2 (JQ ha)⟩
 exact ⟨A,m,c,RS.mk' hW.swapK ⟨rfl,(hs _ _ hP).move (Step.refl w C7) B2 mvI⟩ (JR hE) (h.mv.and (MvF.rd A m c s)) ⟨h.mv.mono mvI hP,hr.move (Step.refl w C7) B2 mvI⟩⟩
theorem RS.unnest {bi m c:Nat} {A:Option Addr} {so:Bs} (h:RS w0 M F n bi (tb ++ [rdo br A m c]) env P s a w) (hs:∀ w F,P w F → RdS w F A m c so) (hb:w0.heap.size ≤ bi) (hl:O0 (tb.length + 1) (X0 (tb.length + 1) env) = true):RS w0 M F n br tb (X0 (tb.length + 1) env) P so a w:=by
 obtain ⟨Ai,mi,ci,hW,hr,hE,hP⟩:=h.open_
 have mvI:∀ b o,H1 F w0 w (rdo bi Ai mi ci :: (tb ++ [rdo br A m c])) [] b o → b < w.heap.size → H1 F w0 w (rdo br A m c :: (tb ++ [rdo bi Ai mi ci])) [] b o:=fun b o g _=>⟨g.1,g.2.1,fun ha=>g.2.2 (JQ ha)⟩
 have h2:RS w0 M F n br (tb ++ [rdo bi Ai mi ci]) (X0 (tb.length + 1) env) P so a w:=RS.mk' hW.swapK ((hs _ _ hP).move (Step.refl w C7) B2 mvI) (JR hE) h.mv (h.mv.mono mvI hP)
 exact h2.dropT hb hl
theorem JT {i d:Nat} {f:FuncId} {X rest:Bs} {q:Int} {N:Act → World → Prop} (h:RS w0 M F n br tb env P (X ++ rest) a w) (hq:q = ((X.length:Nat):Int))
  (hc:∀ {br:Nat} {A:Option Addr} {m c:Nat} {w:World} {F:Nat → Nat → Prop},Str w br [.slice A m c,.bool false] → RdS w F A m c (X ++ rest) → (∀ b o,F b o → ¬ G5 br b o) → Calls Pr f #[.pointer (some ⟨br,0,none⟩),.int .i64 ((X.length:Nat):Int)] w (RdPost w br F rest fun v w'=>∃ A2,v = .slice A2 X.length X.length ∧ Octs w' F A2 X.length X))
  (hf:∀ args w,(callFunc f args).run Pr w = .ok (.enter f args) w) (K:∀ A2 P' a' w',(∀ w F,P' w F → P w F ∧ Octs w F A2 X.length X) → RS w0 M F n br tb ((d,.v (.slice A2 X.length X.length)) :: env) P' rest a' w' → N a' w')
  (he:∀ A m c,L5 (rdo br A m c :: tb) env ops n i = some (f,[.pointer (some ⟨br,0,none⟩),.int .i64 q],d):=by intro _ _ _; kernel_rfl):wpOp Pr ops Q i N a w:=by
 subst hq
 obtain ⟨A,m,c,hW,hr,hE,hP⟩:=h.open_
 refine D6 hE (he A m c) hf (hc (Str.of hW 0 rfl) hr (P8 0 rfl)) ?_
 rintro e_ w1 ⟨_,A1,n1,c1,rfl,hs,hr1,hst,A2,rfl,hx⟩
 refine ⟨_,rfl,fun a1 hE1=>?_⟩
 obtain ⟨hW2,hF2,hL⟩:=hW.wrote 0 (rdo br A1 n1 c1 :: tb) rfl hst hs
 exact K A2 (J2 P (JD A2 X.length X)) a1 w1 (fun _ _ g=>g) (RS.mk' hW2 (hr1.move (Step.refl _ C7) B2 (fun b o g hb=>hL b o (.inl g) hb)) hE1.rdo (h.mv.and (MvF.octs _ _ _)) ⟨h.mv.move hF2.step immM hF2.to' hP,Octs.move hx (Step.refl _ C7) B2 (fun b o g hb=>hL b o (.inl g) hb)⟩)
end
theorem WOk.wrote1 {w0 w w':World} {M N:Nat → Nat → Prop} {tb:Tb} (hW:WOk w0 M w tb []) (k:Nat) {ob:Ob} {cs':List Value} (hi:tb[k]? = some ob) (hrw:ob.rw = true) (hl:cs'.length = ob.cells.length) (hst:Step w w' N) (hN:∀ b o,b < w0.heap.size → N b o → M b o)
  (hc:∀ j v,cs'[j]? = some v → w'.cell? ⟨ob.blk,ob.off + j,none⟩ = some v) (hz:∀ j,j < cs'.length → w'.frozen? ⟨ob.blk,ob.off + j,none⟩ = false)
  (far:∀ (j:Nat) (o:Ob),j ≠ k → tb[j]? = some o → ∀ q,q < o.cells.length → ¬ N o.blk (o.off + q)):WOk w0 M w' (tb.set k { ob with cells:=cs' }) []:=by
 have key:∀ (j:Nat) (o:Ob),(tb.set k { ob with cells:=cs' })[j]? = some o → (j = k ∧ o = { ob with cells:=cs' }) ∨ (j ≠ k ∧ tb[j]? = some o):=fun j o hj=>by
  rcases U2 hj with ⟨h1,h2,_⟩ | ⟨h1,h2⟩
  ·exact .inl ⟨h1,h2⟩
  exact .inr ⟨h1,h2⟩
 refine ⟨hW.step.trans hst hN,?_,?_,?_,?_,fun i r hi=>by simp at hi,fun i r hi=>by simp at hi,fun i r hi=>by simp at hi,fun i j r r' _ hi=>by simp at hi⟩
 ·intro j o hj q v hv
  rcases key j o hj with ⟨rfl,rfl⟩ | ⟨hne,hj⟩
  ·exact hc q v hv
  exact hst.cell (far j o hne hj q (List.getElem?_eq_some_iff.1 hv).1) (hW.cells j o hj q v hv)
 ·intro j o hj
  rcases key j o hj with ⟨rfl,rfl⟩ | ⟨_,hj⟩
  ·exact Nat.lt_of_lt_of_le (show ob.blk < _ from hW.live j ob hi) hst.size
  exact Nat.lt_of_lt_of_le (hW.live j o hj) hst.size
 ·intro j o hj hr q hq
  rcases key j o hj with ⟨rfl,rfl⟩ | ⟨hne,hj⟩
  ·exact ⟨(hW.rw_ j _ hi hrw q (by simpa [hl] using hq)).1,hz q hq⟩
  obtain ⟨h1,h2⟩:=hW.rw_ j o hj hr q hq
  exact ⟨h1,hst.frozen (far j o hne hj q hq) (hW.cells j o hj q _ (List.getElem?_eq_getElem hq)) h2⟩
 intro j q o o' hjk hj hk hw
 rcases key j o hj with ⟨rfl,rfl⟩ | ⟨hne,hj'⟩
 ·rcases key q o' hk with ⟨rfl,rfl⟩ | ⟨hne',hk'⟩
  ·exact absurd rfl hjk
  have:=hW.apart j q _ o' hjk hi hk' (.inl hrw)
  simpa [hl] using this
 rcases key q o' hk with ⟨rfl,rfl⟩ | ⟨hne',hk'⟩
 ·have:=hW.apart j q o _ hjk hj' hi (.inr hrw)
  simpa [hl] using this
 exact hW.apart j q o o' hjk hj' hk' hw
structure TU (w0 w1:World) (M F:Nat → Nat → Prop) (n br:Nat) (tb0 tb:Tb) (env:B8) (P:G9) (s:Bs) (m:Option Nat) (u:List (Int × Bs)) (a:Act) (w:World):Prop where
 mv:MvF P
 big:w1.heap.size ≤ w.heap.size
 base:w0.heap.size ≤ w1.heap.size
 old:br < w1.heap.size
 ex:∃ A q c,WOk w0 M w (rdo br A q c :: tb) [] ∧ RdS w (H1 F w0 w1 (rdo br none 0 0 :: tb0) []) A q c s
 act:∀ b o,H2 (rdo br none 0 0 :: tb) [] b o → H2 (rdo br none 0 0 :: tb0) [] b o
 env_:EnvOk n (rdo br none 0 0 :: tb) env a
 fact:P w (H1 F w0 w1 (rdo br none 0 0 :: tb0) [])
 own:OwnM w (H1 F w0 w1 (rdo br none 0 0 :: tb0) []) m u
 new:∀ r,m = some r → w1.heap.size ≤ r
section
variable {Pr:Program} {ops:Array Oper} {Q:Exit → Act → World → Prop} {w0 w1:World} {M F:Nat → Nat → Prop} {n br:Nat} {tb0 tb:Tb} {env:B8} {P:G9} {s:Bs} {m:Option Nat} {u:List (Int × Bs)} {a:Act} {w:World}
theorem TU.start (h:RS w0 M F n br tb env P s a w):TU w0 w M F n br tb tb env P s none [] a w:=by
 obtain ⟨A,m,c,hW,hr⟩:=h.ex
 exact ⟨h.mv,Nat.le_refl _,hW.step.size,hW.live 0 _ rfl,⟨A,m,c,hW,hr⟩,fun _ _ g=>g,h.env_,h.fact,OwnM.nil _ _,fun _ h=>by cases h⟩
theorem TU.cast {t:Bs} (h:TU w0 w1 M F n br tb0 tb env P s m u a w) (e:s = t):TU w0 w1 M F n br tb0 tb env P t m u a w:=e ▸ h
theorem TU.finish (h:TU w0 w1 M F n br tb0 tb env P s m u a w) (hs:R9 u) (hr:∀ x ∈ u,0 ≤ x.1 ∧ x.1 < 4294967296):RS w0 M F n br tb env (J2 P (JE m u)) s a w:=by
 have mvI:∀ b o,H1 F w0 w1 (rdo br none 0 0 :: tb0) [] b o → H1 F w0 w (rdo br none 0 0 :: tb) [] b o:=fun b o g=>⟨g.1,Nat.lt_of_lt_of_le g.2.1 h.big,fun ha=>g.2.2 (h.act b o ha)⟩
 obtain ⟨A,q,c,hW,hrd⟩:=h.ex
 refine ⟨h.mv.and (MvF.tags _ _),⟨A,q,c,hW,hrd.move (Step.refl w C7) B2 fun b o g _=>mvI b o g⟩,h.env_,h.mv.mono (fun b o g _=>mvI b o g) h.fact,h.own.map mvI (fun r o e=>?_) hs hr⟩
 obtain ⟨es,clk,h1,_⟩:=h.own.some_ r e
 refine ⟨.inr (Nat.le_trans h.base (h.new r e)),(Array.getElem?_eq_some_iff.1 h1).1,fun ha=>?_⟩
 rcases ha with ⟨i,ob,hi,hrw,rfl,h2,h3⟩ | ⟨i,r,hi,_⟩
 ·have hc:∃ ob',(rdo br A q c :: tb)[i]? = some ob' ∧ ob'.blk = ob.blk ∧ ob'.off = ob.off ∧ ob'.cells.length = ob.cells.length:=by
   cases i with
   | zero =>
    simp only [List.getElem?_cons_zero,Option.some.injEq] at hi
    subst hi
    exact ⟨_,rfl,rfl,rfl,rfl⟩
   | succ i=>exact ⟨ob,hi,rfl,rfl,rfl⟩
  obtain ⟨ob',g1,g2,g3,g4⟩:=hc
  have g5:o - ob.off < ob'.cells.length:=by omega
  have g6:=hW.cells i ob' g1 (o - ob.off) _ (List.getElem?_eq_getElem g5)
  rw [g2] at g6
  exact Co g6 h1 rfl
 simp at hi
theorem Ha {L:List Nat} (idxs rest:List Nat) (env':B8) (h:TU w0 w1 M F n br tb0 tb env P s m u a w) (k:∀ a',TU w0 w1 M F n br tb0 tb env' P s m u a' w → wpOps Pr ops Q rest a' w) (e:∀ A m c,G7 Pr ops n (rdo br A m c :: tb) idxs (K3 env') env = some env':=by intro _ _ _; kernel_rfl) (hl:L = idxs ++ rest:=by rfl):wpOps Pr ops Q L a w:=by
 obtain ⟨A,q,c,hW,hr⟩:=h.ex
 exact F9 idxs rest (K3 env') hW h.env_.rdo (e A q c) hl fun a' hE'=>k a' { h with env_:=hE'.rdo }
theorem Bo {id:Nat} (env':B8) (h:TU w0 w1 M F n br tb0 tb env P s m u a w) (k:∀ a',TU w0 w1 M F n br tb0 tb env' P s m u a' w → Q .normal a' w) (e:∀ A m c,G7 Pr ops n (rdo br A m c :: tb) (List.range ops.size) (K3 env') env = some env':=by intro _ _ _; kernel_rfl):(Code.region id ops false).wp Pr Q a w :=
 E4 (List.range ops.size) rfl (Ha (List.range ops.size) [] env' h (fun a' h'=>B4 (k a' h')) e (List.append_nil _).symm)
theorem JU {i d:Nat} {f:FuncId} {X rest:Bs} {vs vs':List Value} {Qv:Value → World → (Nat → Nat → Prop) → Prop} {N:Act → World → Prop} (h:TU w0 w1 M F n br tb0 tb env P (X ++ rest) m u a w)
  (hc:∀ {br:Nat} {A:Option Addr} {m c:Nat} {w:World} {F:Nat → Nat → Prop},Str w br [.slice A m c,.bool false] → RdS w F A m c (X ++ rest) → (∀ b o,F b o → ¬ G5 br b o) → Calls Pr f (.pointer (some ⟨br,0,none⟩) :: vs).toArray w (RdPost w br F rest fun v w'=>Qv v w' F)) (hv:vs' = vs)
  (hf:∀ args w,(callFunc f args).run Pr w = .ok (.enter f args) w) (K:∀ v a' w',Qv v w' (H1 F w0 w1 (rdo br none 0 0 :: tb0) []) → TU w0 w1 M F n br tb0 tb ((d,.v v) :: env) P rest m u a' w' → N a' w')
  (he:∀ A m c,L5 (rdo br A m c :: tb) env ops n i = some (f,.pointer (some ⟨br,0,none⟩) :: vs',d):=by intro _ _ _; kernel_rfl):wpOp Pr ops Q i N a w:=by
 subst hv
 obtain ⟨A,q,c,hW,hr⟩:=h.ex
 have hG:∀ b o,H1 F w0 w1 (rdo br none 0 0 :: tb0) [] b o → ¬ G5 br b o:=P8 0 rfl
 refine D6 h.env_.rdo (he A q c) hf (hc (Str.of hW 0 rfl) hr hG) ?_
 rintro e_ w2 ⟨v,A1,n1,c1,rfl,hs,hr1,hst,hx⟩
 refine ⟨_,rfl,fun a1 hE1=>?_⟩
 obtain ⟨hW2,hF2,hL⟩:=hW.wrote 0 (rdo br A1 n1 c1 :: tb) rfl hst hs
 refine K v a1 w2 hx ⟨h.mv,Nat.le_trans h.big hst.size,h.base,h.old,⟨A1,n1,c1,hW2,hr1⟩,h.act,hE1.rdo,h.mv.move hst (fun b o g _=>hG b o g) F3 h.fact,h.own.move hst (fun b o g _=>hG b o g) F3 (fun r o e he=>?_),h.new⟩
 have h1:=h.new r e
 have h2:=h.old
 have h3:=he.1
 omega
theorem Ql {i d j k off c:Nat} {key:Int} {x:Bs} {A:Option Addr} {ob:Ob} {N:Act → World → Prop} (h:TU w0 w1 M F n br tb0 tb env P s m (u.take j) a w) (hsort:R9 u) (hj:u[j]? = some (key,x)) (hx:Octs w (H1 F w0 w1 (rdo br none 0 0 :: tb0) []) A c x) (hk:0 ≤ key ∧ key < 4294967296)
  (K:∀ r a' w',TU w0 w1 M F n br tb0 (tb.set k { ob with cells:=ob.cells.set off (.map (some r)) }) ((d,.v (.tuple #[])) :: env) P s (some r) (u.take (j + 1)) a' w' → N a' w')
  (hp:∀ args w,(callFunc 77 args).run Tryz.prog w = .ok (.enter 77 args) w)
  (tk:tb[k]? = some ob) (hrw:ob.rw = true) (hoff:ob.cells[off]? = some (.map m))
  (he:∀ A' m' c',L5 (rdo br A' m' c' :: tb) env ops n i = some (77,[.pointer (some ⟨ob.blk,ob.off + off,none⟩),.int .u32 key,.slice A x.length c],d)):wpOp Tryz.prog ops Q i N a w:=by
 obtain ⟨A',q,c',hW,hr⟩:=h.ex
 have tk':(rdo br A' q c' :: tb)[k + 1]? = some ob:=tk
 have hlt:off < ob.cells.length:=(List.getElem?_eq_some_iff.1 hoff).1
 have hcell:w.cell? ⟨ob.blk,ob.off + off,none⟩ = some (.map m):=hW.cells (k + 1) ob tk' off _ hoff
 obtain ⟨hM,hfz⟩:=hW.rw_ (k + 1) ob tk' hrw off hlt
 have hact:H2 (rdo br none 0 0 :: tb0) [] ob.blk (ob.off + off):=h.act _ _ (.inl ⟨k + 1,ob,tk,hrw,rfl,by omega,by omega⟩)
 have hbig:=h.big
 have hbase:=h.base
 have hmo:∀ {b o:Nat} {v:Value},w.cell? ⟨b,o,none⟩ = some v → m ≠ some b:=fun hb e=>by
  obtain ⟨es,clk,h1,_⟩:=h.own.some_ _ e
  exact Co hb h1 rfl
 have hG:∀ b' o',H1 F w0 w1 (rdo br none 0 0 :: tb0) [] b' o' → ¬ ((b' = ob.blk ∧ o' = ob.off + off) ∨ m = some b'):=fun b' o' hg e=>by
  rcases e with ⟨rfl,rfl⟩ | e
  ·exact hg.2.2 hact
  have:=h.new b' e; have:=hg.2.1; omega
 refine D6 h.env_.rdo (he A' q c') hp (FL hcell hfz h.own hx hk (fun b' o' hg=>⟨fun e=>hG b' o' hg (.inl e),fun e=>hG b' o' hg (.inr e)⟩) (fun b' o' hg=>Nat.lt_of_lt_of_le hg.2.1 hbig)) ?_
 rintro e_ w2 ⟨rfl,r,g1,g2,g3,g4,g5⟩
 rw [FR hsort hj] at g3
 refine ⟨_,rfl,fun a1 hE1=>K r a1 w2 ?_⟩
 have hW2:=hW.wrote1 (k + 1) (cs':=ob.cells.set off (.map (some r))) tk' hrw (by simp) g5 (fun b o hb hN=>?_) (fun j' v hv=>?_) (fun j' hj'=>?_) (fun j' o hne hjo q' hq' hN=>?_)
 ·refine ⟨h.mv,Nat.le_trans hbig g5.size,hbase,h.old,⟨A',q,c',hW2,hr.move g5 (fun b o g _=>hG b o g) F3⟩,fun b o ha=>h.act b o ?_,?_,h.mv.move g5 (fun b o g _=>hG b o g) F3 h.fact,g3,fun r' hr'=>?_⟩
  ·rcases ha with ⟨i',ob',hi,h1,h2,h3,h4⟩ | ha
   ·cases i' with
    | zero=>exact .inl ⟨0,ob',hi,h1,h2,h3,h4⟩
    | succ i' =>
     rw [List.getElem?_cons_succ] at hi
     rcases U2 hi with ⟨e1,e2,_⟩ | ⟨_,e2⟩
     ·subst e2
      exact .inl ⟨k + 1,ob,tk,hrw,h2,h3,by simpa using h4⟩
     exact .inl ⟨i' + 1,ob',e2,h1,h2,h3,h4⟩
   exact .inr ha
  ·refine hE1.table fun i' hi'=>?_
   cases i' with
   | zero=>exact ⟨by simp,rfl,rfl⟩
   | succ i' =>
    have hi2:i' < tb.length:=by simpa using hi'
    refine ⟨by simpa using hi2,?_⟩
    by_cases e:i' = k
    ·subst e
     have g6:C0 (rdo br A' q c' :: tb) (i' + 1) = ob:=by simp [C0,tk]
     have g7:C0 (rdo br none 0 0 :: tb.set i' { ob with cells:=ob.cells.set off (.map (some r)) }) (i' + 1) = { ob with cells:=ob.cells.set off (.map (some r)) }:=by simp [C0,hi2]
     rw [g6,g7]
     exact ⟨rfl,rfl⟩
    have g7:C0 (rdo br none 0 0 :: tb.set k { ob with cells:=ob.cells.set off (.map (some r)) }) (i' + 1) = C0 (rdo br A' q c' :: tb) (i' + 1):=by
     simp [C0,List.getElem?_set,Ne.symm e]
    rw [g7]
    exact ⟨rfl,rfl⟩
  obtain rfl:=Option.some.inj hr'
  rcases g4 with g4 | g4
  ·exact h.new _ g4
  exact Nat.le_trans hbig g4
 ·rcases hN with ⟨rfl,rfl⟩ | e
  ·rcases hM with g | g
   ·omega
   exact g
  have:=h.new b e; omega
 ·rw [List.getElem?_set] at hv
  by_cases e:off = j'
  ·subst e
   rw [if_pos rfl,if_pos hlt] at hv
   rw [← Option.some.inj hv]; exact g1
  rw [if_neg e] at hv
  have g6:=hW.cells (k + 1) ob tk' j' v hv
  refine g5.cell (fun hN=>?_) g6
  rcases hN with ⟨_,e1⟩ | e1
  ·omega
  exact hmo g6 e1
 ·by_cases e:off = j'
  ·subst e; exact g2
  rw [List.length_set] at hj'
  have g6:=hW.cells (k + 1) ob tk' j' _ (List.getElem?_eq_getElem hj')
  refine g5.frozen (fun hN=>?_) g6 (hW.rw_ (k + 1) ob tk' hrw j' hj').2
  rcases hN with ⟨_,e1⟩ | e1
  ·omega
  exact hmo g6 e1
 have g6:=hW.cells j' o hjo q' _ (List.getElem?_eq_getElem hq')
 rcases hN with ⟨e1,e2⟩ | e1
 ·rcases hW.apart j' (k + 1) o ob hne hjo tk' (.inr hrw) with g | g | g
  ·exact g e1
  ·omega
  omega
 exact hmo g6 e1
theorem JV {i d j k off c:Nat} {env1:B8} {a1:Act} {key:Int} {x:Bs} {A:Option Addr} {ob:Ob} {N:Act → World → Prop} (h:TU w0 w1 M F n br tb0 tb env1 P s m (u.take j) a1 w) (hE:EnvOk n [] env a) (hsort:R9 u) (hj:u[j]? = some (key,x)) (hx:Octs w (H1 F w0 w1 (rdo br none 0 0 :: tb0) []) A c x) (hk:0 ≤ key ∧ key < 4294967296)
  (K:∀ r a' w',TU w0 w1 M F n br tb0 (tb.set k { ob with cells:=ob.cells.set off (.map (some r)) }) [] P s (some r) (u.take (j + 1)) a' w' → EnvOk n [] ((d,.v (.tuple #[])) :: env) a' → N a' w')
  (hp:∀ args w,(callFunc 77 args).run Tryz.prog w = .ok (.enter 77 args) w)
  (tk:tb[k]? = some ob) (hrw:ob.rw = true) (hoff:ob.cells[off]? = some (.map m))
  (he:L5 [] env ops n i = some (77,[.pointer (some ⟨ob.blk,ob.off + off,none⟩),.int .u32 key,.slice A x.length c],d)):wpOp Tryz.prog ops Q i N a w:=by
 obtain ⟨A',q,c',hW,hr⟩:=h.ex
 have tk':(rdo br A' q c' :: tb)[k + 1]? = some ob:=tk
 have hlt:off < ob.cells.length:=(List.getElem?_eq_some_iff.1 hoff).1
 have hcell:w.cell? ⟨ob.blk,ob.off + off,none⟩ = some (.map m):=hW.cells (k + 1) ob tk' off _ hoff
 obtain ⟨hM,hfz⟩:=hW.rw_ (k + 1) ob tk' hrw off hlt
 have hact:H2 (rdo br none 0 0 :: tb0) [] ob.blk (ob.off + off):=h.act _ _ (.inl ⟨k + 1,ob,tk,hrw,rfl,by omega,by omega⟩)
 have hbig:=h.big
 have hbase:=h.base
 have hmo:∀ {b o:Nat} {v:Value},w.cell? ⟨b,o,none⟩ = some v → m ≠ some b:=fun hb e=>by
  obtain ⟨es,clk,h1,_⟩:=h.own.some_ _ e
  exact Co hb h1 rfl
 have hG:∀ b' o',H1 F w0 w1 (rdo br none 0 0 :: tb0) [] b' o' → ¬ ((b' = ob.blk ∧ o' = ob.off + off) ∨ m = some b'):=fun b' o' hg e=>by
  rcases e with ⟨rfl,rfl⟩ | e
  ·exact hg.2.2 hact
  have:=h.new b' e; have:=hg.2.1; omega
 refine D6 hE he hp (FL hcell hfz h.own hx hk (fun b' o' hg=>⟨fun e=>hG b' o' hg (.inl e),fun e=>hG b' o' hg (.inr e)⟩) (fun b' o' hg=>Nat.lt_of_lt_of_le hg.2.1 hbig)) ?_
 rintro e_ w2 ⟨rfl,r,g1,g2,g3,g4,g5⟩
 rw [FR hsort hj] at g3
 refine ⟨_,rfl,fun a2 hE1=>K r a2 w2 ?_ hE1⟩
 have hW2:=hW.wrote1 (k + 1) (cs':=ob.cells.set off (.map (some r))) tk' hrw (by simp) g5 (fun b o hb hN=>?_) (fun j' v hv=>?_) (fun j' hj'=>?_) (fun j' o hne hjo q' hq' hN=>?_)
 ·refine ⟨h.mv,Nat.le_trans hbig g5.size,hbase,h.old,⟨A',q,c',hW2,hr.move g5 (fun b o g _=>hG b o g) F3⟩,fun b o ha=>h.act b o ?_,?_,h.mv.move g5 (fun b o g _=>hG b o g) F3 h.fact,g3,fun r' hr'=>?_⟩
  ·rcases ha with ⟨i',ob',hi,h1,h2,h3,h4⟩ | ha
   ·cases i' with
    | zero=>exact .inl ⟨0,ob',hi,h1,h2,h3,h4⟩
    | succ i' =>
     rw [List.getElem?_cons_succ] at hi
     rcases U2 hi with ⟨e1,e2,_⟩ | ⟨_,e2⟩
     ·subst e2
      exact .inl ⟨k + 1,ob,tk,hrw,h2,h3,by simpa using h4⟩
     exact .inl ⟨i' + 1,ob',e2,h1,h2,h3,h4⟩
   exact .inr ha
  ·exact ⟨hE1.defers,hE1.size,fun _ _ hl=>by cases hl⟩
  obtain rfl:=Option.some.inj hr'
  rcases g4 with g4 | g4
  ·exact h.new _ g4
  exact Nat.le_trans hbig g4
 ·rcases hN with ⟨rfl,rfl⟩ | e
  ·rcases hM with g | g
   ·omega
   exact g
  have:=h.new b e; omega
 ·rw [List.getElem?_set] at hv
  by_cases e:off = j'
  ·subst e
   rw [if_pos rfl,if_pos hlt] at hv
   rw [← Option.some.inj hv]; exact g1
  rw [if_neg e] at hv
  have g6:=hW.cells (k + 1) ob tk' j' v hv
  refine g5.cell (fun hN=>?_) g6
  rcases hN with ⟨_,e1⟩ | e1
  ·omega
  exact hmo g6 e1
 ·by_cases e:off = j'
  ·subst e; exact g2
  rw [List.length_set] at hj'
  have g6:=hW.cells (k + 1) ob tk' j' _ (List.getElem?_eq_getElem hj')
  refine g5.frozen (fun hN=>?_) g6 (hW.rw_ (k + 1) ob tk' hrw j' hj').2
  rcases hN with ⟨_,e1⟩ | e1
  ·omega
  exact hmo g6 e1
 have g6:=hW.cells j' o hjo q' _ (List.getElem?_eq_getElem hq')
 rcases hN with ⟨e1,e2⟩ | e1
 ·rcases hW.apart j' (k + 1) o ob hne hjo tk' (.inr hrw) with g | g | g
  ·exact g e1
  ·omega
  omega
 exact hmo g6 e1
theorem TU.env0 {env':B8} {a':Act} (h:TU w0 w1 M F n br tb0 tb env P s m u a w) (hE:EnvOk n (rdo br none 0 0 :: tb) env' a'):TU w0 w1 M F n br tb0 tb env' P s m u a' w:=⟨h.mv,h.big,h.base,h.old,h.ex,h.act,hE,h.fact,h.own,h.new⟩
theorem TU.drew (h:TU w0 w1 M F n br tb0 tb env P s m u a w):TU w0 w1 M F n br tb0 tb env P s m u a w.drew:=by
 obtain ⟨A,q,c,hW,hr⟩:=h.ex
 have hs:=Step.drew w
 exact ⟨h.mv,h.big,h.base,h.old,⟨A,q,c,hW.drew,hr.move hs B2 F3⟩,h.act,h.env_,h.mv.move hs B2 F3 h.fact,h.own.move hs B2 F3 (fun _ _ _ h=>h),h.new⟩
theorem ES {i d:Nat} {f:FuncId} {X rest:Bs} {vs vs':List Value} {env1:B8} {a1:Act} {Qv:Value → World → (Nat → Nat → Prop) → Prop} {N:Act → World → Prop} (h:TU w0 w1 M F n br tb0 tb env1 P (X ++ rest) m u a1 w) (hE:EnvOk n [] env a)
  (hc:∀ {br:Nat} {A:Option Addr} {m c:Nat} {w:World} {F:Nat → Nat → Prop},Str w br [.slice A m c,.bool false] → RdS w F A m c (X ++ rest) → (∀ b o,F b o → ¬ G5 br b o) → Calls Pr f (.pointer (some ⟨br,0,none⟩) :: vs).toArray w (RdPost w br F rest fun v w'=>Qv v w' F)) (hv:vs' = vs)
  (hf:∀ args w,(callFunc f args).run Pr w = .ok (.enter f args) w) (K:∀ v a' w',Qv v w' (H1 F w0 w1 (rdo br none 0 0 :: tb0) []) → TU w0 w1 M F n br tb0 tb [] P rest m u a' w' → EnvOk n [] ((d,.v v) :: env) a' → N a' w')
  (he:L5 [] env ops n i = some (f,.pointer (some ⟨br,0,none⟩) :: vs',d)):wpOp Pr ops Q i N a w:=by
 subst hv
 obtain ⟨A,q,c,hW,hr⟩:=h.ex
 have hG:∀ b o,H1 F w0 w1 (rdo br none 0 0 :: tb0) [] b o → ¬ G5 br b o:=P8 0 rfl
 refine D6 hE he hf (hc (Str.of hW 0 rfl) hr hG) ?_
 rintro e_ w2 ⟨v,A1,n1,c1,rfl,hs,hr1,hst,hx⟩
 refine ⟨_,rfl,fun a1 hE1=>?_⟩
 obtain ⟨hW2,hF2,hL⟩:=hW.wrote 0 (rdo br A1 n1 c1 :: tb) rfl hst hs
 refine K v a1 w2 hx ⟨h.mv,Nat.le_trans h.big hst.size,h.base,h.old,⟨A1,n1,c1,hW2,hr1⟩,h.act,⟨hE1.defers,hE1.size,fun _ _ hl=>by cases hl⟩,h.mv.move hst (fun b o g _=>hG b o g) F3 h.fact,h.own.move hst (fun b o g _=>hG b o g) F3 (fun r o e he=>?_),h.new⟩ hE1
 have h1:=h.new r e
 have h2:=h.old
 have h3:=he.1
 omega
theorem EU (w:World):CellsOk w []:=fun i o hi=>by simp at hi
end
theorem CF (x:Nat) (hx:x < 4294967296) (rest:Bs):Q4 Tryz.prog 76 (uv x) rest (.int .u32 ((x:Nat):Int)):=fun hs hr hF=>(T9 x hx rest hs hr hF).mono fun e w' hp=>hp.fp fun v w' h=>h
theorem EV {a b:Nat} (h:a = 1 + b) (hb:b < 4294967296):IntKind.u32.wrap (((a:Nat):Int) - 1) = ((b:Nat):Int):=by
 subst h
 have:IntKind.u32.wrap (((1 + b:Nat):Int) - 1) = (((1 + b:Nat):Int) - 1) % 4294967296:=by simp [IntKind.wrap,IntKind.signed,IntKind.bits]
 rw [this]; omega
theorem JW {b:Bool} {u:List (Int × Bs)} (h:Y7 u) (hr:∀ x ∈ u,0 ≤ x.1 ∧ x.1 < 4294967296):(if b = true then uv u.length ++ D7 u else []).length ≤ 1100100000:=by
 have h1:=Ed u.length
 have h2:=h.1
 have h3:=Jt h hr
 split
 ·rw [List.length_append]; omega
 exact Nat.zero_le _
end Go.Proofs.YtoclgihkbmaolacGreatDoor.ME