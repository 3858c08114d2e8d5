/- The texts of a claim, put together: the engine, the contracts, the law. Own work. -/
import Derived.Test.YtdlaobdadlmcdaaGreatDoorWt0P2
import Derived.Test.YtdlaobdadlmcdaaGreatDoorProg
import Derived.Deep.LoopGhost
namespace Go.Proofs.YtdlaobdadlmcdaaGreatDoor.ME
open Go
open Go.RowKit
set_option linter.unusedVariables false
set_option linter.unusedSimpArgs false
set_option maxRecDepth 20000
theorem qlY {A:Option Addr} {c:Nat} (s:Bs) {w:World} {F:Nat → Nat → Prop} (ho:Octs w F A c s) (hl:2 ≤ s.length) :
  Calls Tryz.prog 135 #[.agg #[],.slice A s.length c] w (qcs w (.int .u16 (be16 s))):=by
 refine enter (n:=18) Tryz.func135 rfl Tryz.ntmps135 kz fun a hE=>?_
 have hW:=WOk.start w Nil
 have ob0:=qb1 s 0
 have ob1:=qb1 s 1
 refine qaf [0,1] kz ?_
 refine qal (qbq hW hE (d:=2) (cs:=[]) kz fun b1 a2 w3 hb4 hz5 hF6 hW7 hE8=>?_)
 refine qai [1] [] [(1,.v (.slice A s.length c))] hW7 hE8 fun a9 af=>?_
 refine qae (qab ?_)
 refine qaf [0,1,2] kz ?_
 refine qai [0] [1,2] [(1,.v (.slice A s.length c)),(5,.v (.slice A s.length c))] hW7 af fun aC ag=>?_
 obtain ⟨av,aw,ac,ax,ab⟩:=Slots.get ho (i:=1) (by omega)
 refine qal (qax ag (t:=22) (A:=A) (m:=s.length) (q:=1) (d:=6) kz (e:=5) (size:=1) (bytes:=1) (j:=1) kz ac rfl (by omega) fun aD ah=>?_)
 refine qal (qaU ah (t:=5) (b:=av) (o:=aw + 1 * 1) (d:=7) kz (cs:=[.int .u8 ((s.getD 1 0).toNat:Int)]) (v:=.int .u8 ((s.getD 1 0).toNat:Int)) kz (AtF.move ab hW7.step nilM qa9).at_ fun aE ai=>?_)
 refine qae (qab ?_)
 refine qcb kz hW7 fun aF ay aa=>?_
 refine qaB [0,4] [(8,.v (.slice A s.length c)),(12,.v (.slice A s.length c))] 9 (qaa qad) (fun _ h=>h ▸ aa.cells) rfl ai fun aG aj=>?_
 refine qaD aj (i:=1) (t:=22) (A:=A) (m:=s.length) (q:=1) (d:=9) kz (e:=5) (size:=1) (bytes:=1) (j:=1) kz ac rfl (by omega) kz kz (qaa qad) rfl fun aH ak=>?_
 refine qa0 ak (i:=2) (t:=5) (b:=av) (o:=aw + 1 * 1) (d:=10) kz (cs:=[.int .u8 ((s.getD 1 0).toNat:Int)]) (v:=.int .u8 ((s.getD 1 0).toNat:Int)) kz (fun w' h'=>h' ▸ (AtF.move ab aa.step nilM qa9).at_) kz kz (qaa qad) rfl fun aI al=>?_
 refine qaB [3] [(11,.v (.int .u16 (IntKind.u16.wrap ((s.getD 1 0).toNat:Int)))),(12,.v (.slice A s.length c))] 6 (qaa qad) (fun _ h=>h ▸ aa.cells) rfl al fun aJ am=>?_
 obtain ⟨az,aA,ao,aB,ae⟩:=Slots.get ho (i:=0) (by omega)
 refine qaD am (i:=5) (t:=22) (A:=A) (m:=s.length) (q:=0) (d:=13) kz (e:=5) (size:=1) (bytes:=1) (j:=0) kz ao rfl (by omega) kz kz (qaa qad) rfl fun aK ap=>?_
 refine qa0 ap (i:=6) (t:=5) (b:=az) (o:=aA + 0 * 1) (d:=14) kz (cs:=[.int .u8 ((s.getD 0 0).toNat:Int)]) (v:=.int .u8 ((s.getD 0 0).toNat:Int)) kz (fun w' h'=>h' ▸ (AtF.move ae aa.step nilM qa9).at_) kz kz (qaa qad) rfl fun aL ar=>?_
 refine qaB [7,8,9,10] [(4,.v (.int .u16 (IntKind.u16.wrap (zB 16 (IntKind.u16.wrap ((s.getD 1 0).toNat:Int)) ||| zB 16 (IntKind.u16.wrap ((IntKind.u16.wrap ((s.getD 0 0).toNat:Int)) * 256))).toNat)))] 0 (qaa qad) (fun _ h=>h ▸ aa.cells) rfl ar fun aM au=>?_
 refine qaz kz ?_ _
 refine qab (wp_ret (qaM au aa.cells (v:=.int .u16 (IntKind.u16.wrap (zB 16 (IntKind.u16.wrap ((s.getD 1 0).toNat:Int)) ||| zB 16 (IntKind.u16.wrap ((IntKind.u16.wrap ((s.getD 0 0).toNat:Int)) * 256))).toNat)) kz ?_))
 exact ⟨congrArg Ending.returned (congrArg (Value.int IntKind.u16) (qlD (oc s 0) (oc s 1) ob0 ob1)),aa.step⟩
theorem qlZ {A:Option Addr} {c:Nat} (s:Bs) {w:World} {F:Nat → Nat → Prop} (ho:Octs w F A c s) (hl:4 ≤ s.length) :
  Calls Tryz.prog 136 #[.agg #[],.slice A s.length c] w (qcs w (.int .u32 (be32 s))):=by
 refine enter (n:=30) Tryz.func136 rfl Tryz.ntmps136 kz fun a hE=>?_
 have hW:=WOk.start w Nil
 have ob0:=qb1 s 0
 have ob1:=qb1 s 1
 have ob2:=qb1 s 2
 have ob3:=qb1 s 3
 refine qaf [0,1] kz ?_
 refine qal (qbq hW hE (d:=2) (cs:=[]) kz fun b1 a2 w3 hb4 hz5 hF6 hW7 hE8=>?_)
 refine qai [1] [] [(1,.v (.slice A s.length c))] hW7 hE8 fun a9 ah=>?_
 refine qae (qab ?_)
 refine qaf [0,1,2] kz ?_
 refine qai [0] [1,2] [(1,.v (.slice A s.length c)),(5,.v (.slice A s.length c))] hW7 ah fun aS ai=>?_
 obtain ⟨aF,aG,ac,aH,ab⟩:=Slots.get ho (i:=3) (by omega)
 refine qal (qax ai (t:=22) (A:=A) (m:=s.length) (q:=3) (d:=6) kz (e:=5) (size:=1) (bytes:=1) (j:=3) kz ac rfl (by omega) fun aT aj=>?_)
 refine qal (qaU aj (t:=5) (b:=aF) (o:=aG + 3 * 1) (d:=7) kz (cs:=[.int .u8 ((s.getD 3 0).toNat:Int)]) (v:=.int .u8 ((s.getD 3 0).toNat:Int)) kz (AtF.move ab hW7.step nilM qa9).at_ fun aU ak=>?_)
 refine qae (qab ?_)
 refine qcb kz hW7 fun aV aI aa=>?_
 refine qaB [0,4,10,16] [(8,.v (.slice A s.length c)),(12,.v (.slice A s.length c)),(18,.v (.slice A s.length c)),(24,.v (.slice A s.length c))] 19 (qaa qad) (fun _ h=>h ▸ aa.cells) rfl ak fun aW al=>?_
 refine qaD al (i:=1) (t:=22) (A:=A) (m:=s.length) (q:=3) (d:=9) kz (e:=5) (size:=1) (bytes:=1) (j:=3) kz ac rfl (by omega) kz kz (qaa qad) rfl fun aX am=>?_
 refine qa0 am (i:=2) (t:=5) (b:=aF) (o:=aG + 3 * 1) (d:=10) kz (cs:=[.int .u8 ((s.getD 3 0).toNat:Int)]) (v:=.int .u8 ((s.getD 3 0).toNat:Int)) kz (fun w' h'=>h' ▸ (AtF.move ab aa.step nilM qa9).at_) kz kz (qaa qad) rfl fun aY ao=>?_
 refine qaB [3] [(11,.v (.int .u32 (zU ((s.getD 3 0).toNat:Int)))),(12,.v (.slice A s.length c)),(18,.v (.slice A s.length c)),(24,.v (.slice A s.length c))] 16 (qaa qad) (fun _ h=>h ▸ aa.cells) rfl ao fun aZ ap=>?_
 obtain ⟨aJ,aK,ar,aL,ae⟩:=Slots.get ho (i:=2) (by omega)
 refine qaD ap (i:=5) (t:=22) (A:=A) (m:=s.length) (q:=2) (d:=13) kz (e:=5) (size:=1) (bytes:=1) (j:=2) kz ar rfl (by omega) kz kz (qaa qad) rfl fun ba au=>?_
 refine qa0 au (i:=6) (t:=5) (b:=aJ) (o:=aK + 2 * 1) (d:=14) kz (cs:=[.int .u8 ((s.getD 2 0).toNat:Int)]) (v:=.int .u8 ((s.getD 2 0).toNat:Int)) kz (fun w' h'=>h' ▸ (AtF.move ae aa.step nilM qa9).at_) kz kz (qaa qad) rfl fun bd av=>?_
 refine qaB [7,8,9] [(17,.v (.int .u32 (zU (zB 32 (zU ((s.getD 3 0).toNat:Int)) ||| zB 32 (zU ((zU ((s.getD 2 0).toNat:Int)) * 256))).toNat))),(18,.v (.slice A s.length c)),(24,.v (.slice A s.length c))] 11 (qaa qad) (fun _ h=>h ▸ aa.cells) rfl av fun bf aw=>?_
 obtain ⟨aM,aN,ax,aO,af⟩:=Slots.get ho (i:=1) (by omega)
 refine qaD aw (i:=11) (t:=22) (A:=A) (m:=s.length) (q:=1) (d:=19) kz (e:=5) (size:=1) (bytes:=1) (j:=1) kz ax rfl (by omega) kz kz (qaa qad) rfl fun bg ay=>?_
 refine qa0 ay (i:=12) (t:=5) (b:=aM) (o:=aN + 1 * 1) (d:=20) kz (cs:=[.int .u8 ((s.getD 1 0).toNat:Int)]) (v:=.int .u8 ((s.getD 1 0).toNat:Int)) kz (fun w' h'=>h' ▸ (AtF.move af aa.step nilM qa9).at_) kz kz (qaa qad) rfl fun bh az=>?_
 refine qaB [13,14,15] [(23,.v (.int .u32 (zU (zB 32 (zU (zB 32 (zU ((s.getD 3 0).toNat:Int)) ||| zB 32 (zU ((zU ((s.getD 2 0).toNat:Int)) * 256))).toNat) ||| zB 32 (zU ((zU ((s.getD 1 0).toNat:Int)) * 65536))).toNat))),(24,.v (.slice A s.length c))] 6 (qaa qad) (fun _ h=>h ▸ aa.cells) rfl az fun bi aA=>?_
 obtain ⟨aP,aQ,aB,aR,ag⟩:=Slots.get ho (i:=0) (by omega)
 refine qaD aA (i:=17) (t:=22) (A:=A) (m:=s.length) (q:=0) (d:=25) kz (e:=5) (size:=1) (bytes:=1) (j:=0) kz aB rfl (by omega) kz kz (qaa qad) rfl fun bj aC=>?_
 refine qa0 aC (i:=18) (t:=5) (b:=aP) (o:=aQ + 0 * 1) (d:=26) kz (cs:=[.int .u8 ((s.getD 0 0).toNat:Int)]) (v:=.int .u8 ((s.getD 0 0).toNat:Int)) kz (fun w' h'=>h' ▸ (AtF.move ag aa.step nilM qa9).at_) kz kz (qaa qad) rfl fun bk aD=>?_
 refine qaB [19,20,21,22] [(4,.v (.int .u32 (zU (zB 32 (zU (zB 32 (zU (zB 32 (zU ((s.getD 3 0).toNat:Int)) ||| zB 32 (zU ((zU ((s.getD 2 0).toNat:Int)) * 256))).toNat) ||| zB 32 (zU ((zU ((s.getD 1 0).toNat:Int)) * 65536))).toNat) ||| zB 32 (zU ((zU ((s.getD 0 0).toNat:Int)) * 16777216))).toNat)))] 0 (qaa qad) (fun _ h=>h ▸ aa.cells) rfl aD fun bn aE=>?_
 refine qaz kz ?_ _
 refine qab (wp_ret (qaM aE aa.cells (v:=.int .u32 (zU (zB 32 (zU (zB 32 (zU (zB 32 (zU ((s.getD 3 0).toNat:Int)) ||| zB 32 (zU ((zU ((s.getD 2 0).toNat:Int)) * 256))).toNat) ||| zB 32 (zU ((zU ((s.getD 1 0).toNat:Int)) * 65536))).toNat) ||| zB 32 (zU ((zU ((s.getD 0 0).toNat:Int)) * 16777216))).toNat)) kz ?_))
 exact ⟨congrArg Ending.returned (congrArg (Value.int IntKind.u32) (qlE (oc s 0) (oc s 1) (oc s 2) (oc s 3) ob0 ob1 ob2 ob3)),aa.step⟩
theorem ql0 {A:Option Addr} {c:Nat} (s:Bs) {w:World} {F:Nat → Nat → Prop} (ho:Octs w F A c s) (hl:8 ≤ s.length) :
  Calls Tryz.prog 147 #[.agg #[],.slice A s.length c] w (qcs w (.int .u64 (be64 s))):=by
 refine enter (n:=54) Tryz.func147 rfl Tryz.ntmps147 kz fun a hE=>?_
 have hW:=WOk.start w Nil
 have ob0:=qb1 s 0
 have ob1:=qb1 s 1
 have ob2:=qb1 s 2
 have ob3:=qb1 s 3
 have ob4:=qb1 s 4
 have ob5:=qb1 s 5
 have ob6:=qb1 s 6
 have ob7:=qb1 s 7
 refine qaf [0,1] kz ?_
 refine qal (qbq hW hE (d:=2) (cs:=[]) kz fun b1 a2 w3 hb4 hz5 hF6 hW7 hE8=>?_)
 refine qai [1] [] [(1,.v (.slice A s.length c))] hW7 hE8 fun a9 ar=>?_
 refine qae (qab ?_)
 refine qaf [0,1,2] kz ?_
 refine qai [0] [1,2] [(1,.v (.slice A s.length c)),(5,.v (.slice A s.length c))] hW7 ar fun bK au=>?_
 obtain ⟨ba,bd,ae,bg,ab⟩:=Slots.get ho (i:=7) (by omega)
 refine qal (qax au (t:=22) (A:=A) (m:=s.length) (q:=7) (d:=6) kz (e:=5) (size:=1) (bytes:=1) (j:=7) kz ae rfl (by omega) fun bL av=>?_)
 refine qal (qaU av (t:=5) (b:=ba) (o:=bd + 7 * 1) (d:=7) kz (cs:=[.int .u8 ((s.getD 7 0).toNat:Int)]) (v:=.int .u8 ((s.getD 7 0).toNat:Int)) kz (AtF.move ab hW7.step nilM qa9).at_ fun bM aw=>?_)
 refine qae (qab ?_)
 refine qcb kz hW7 fun bN bh aa=>?_
 refine qaB [0,4,10,16,22,28,34,40] [(8,.v (.slice A s.length c)),(12,.v (.slice A s.length c)),(18,.v (.slice A s.length c)),(24,.v (.slice A s.length c)),(30,.v (.slice A s.length c)),(36,.v (.slice A s.length c)),(42,.v (.slice A s.length c)),(48,.v (.slice A s.length c))] 39 (qaa qad) (fun _ h=>h ▸ aa.cells) rfl aw fun bO ax=>?_
 refine qaD ax (i:=1) (t:=22) (A:=A) (m:=s.length) (q:=7) (d:=9) kz (e:=5) (size:=1) (bytes:=1) (j:=7) kz ae rfl (by omega) kz kz (qaa qad) rfl fun bP ay=>?_
 refine qa0 ay (i:=2) (t:=5) (b:=ba) (o:=bd + 7 * 1) (d:=10) kz (cs:=[.int .u8 ((s.getD 7 0).toNat:Int)]) (v:=.int .u8 ((s.getD 7 0).toNat:Int)) kz (fun w' h'=>h' ▸ (AtF.move ab aa.step nilM qa9).at_) kz kz (qaa qad) rfl fun bQ az=>?_
 refine qaB [3] [(11,.v (.int .u64 (IntKind.u64.wrap ((s.getD 7 0).toNat:Int)))),(12,.v (.slice A s.length c)),(18,.v (.slice A s.length c)),(24,.v (.slice A s.length c)),(30,.v (.slice A s.length c)),(36,.v (.slice A s.length c)),(42,.v (.slice A s.length c)),(48,.v (.slice A s.length c))] 36 (qaa qad) (fun _ h=>h ▸ aa.cells) rfl az fun bR aA=>?_
 obtain ⟨bi,bj,aB,bk,af⟩:=Slots.get ho (i:=6) (by omega)
 refine qaD aA (i:=5) (t:=22) (A:=A) (m:=s.length) (q:=6) (d:=13) kz (e:=5) (size:=1) (bytes:=1) (j:=6) kz aB rfl (by omega) kz kz (qaa qad) rfl fun bS aC=>?_
 refine qa0 aC (i:=6) (t:=5) (b:=bi) (o:=bj + 6 * 1) (d:=14) kz (cs:=[.int .u8 ((s.getD 6 0).toNat:Int)]) (v:=.int .u8 ((s.getD 6 0).toNat:Int)) kz (fun w' h'=>h' ▸ (AtF.move af aa.step nilM qa9).at_) kz kz (qaa qad) rfl fun bT aD=>?_
 refine qaB [7,8,9] [(17,.v (.int .u64 (IntKind.u64.wrap (zB 64 (IntKind.u64.wrap ((s.getD 7 0).toNat:Int)) ||| zB 64 (IntKind.u64.wrap ((IntKind.u64.wrap ((s.getD 6 0).toNat:Int)) * 256))).toNat))),(18,.v (.slice A s.length c)),(24,.v (.slice A s.length c)),(30,.v (.slice A s.length c)),(36,.v (.slice A s.length c)),(42,.v (.slice A s.length c)),(48,.v (.slice A s.length c))] 31 (qaa qad) (fun _ h=>h ▸ aa.cells) rfl aD fun bU aE=>?_
 obtain ⟨bn,bo,aF,bp,ag⟩:=Slots.get ho (i:=5) (by omega)
 refine qaD aE (i:=11) (t:=22) (A:=A) (m:=s.length) (q:=5) (d:=19) kz (e:=5) (size:=1) (bytes:=1) (j:=5) kz aF rfl (by omega) kz kz (qaa qad) rfl fun bV aG=>?_
 refine qa0 aG (i:=12) (t:=5) (b:=bn) (o:=bo + 5 * 1) (d:=20) kz (cs:=[.int .u8 ((s.getD 5 0).toNat:Int)]) (v:=.int .u8 ((s.getD 5 0).toNat:Int)) kz (fun w' h'=>h' ▸ (AtF.move ag aa.step nilM qa9).at_) kz kz (qaa qad) rfl fun bW aH=>?_
 refine qaB [13,14,15] [(23,.v (.int .u64 (IntKind.u64.wrap (zB 64 (IntKind.u64.wrap (zB 64 (IntKind.u64.wrap ((s.getD 7 0).toNat:Int)) ||| zB 64 (IntKind.u64.wrap ((IntKind.u64.wrap ((s.getD 6 0).toNat:Int)) * 256))).toNat) ||| zB 64 (IntKind.u64.wrap ((IntKind.u64.wrap ((s.getD 5 0).toNat:Int)) * 65536))).toNat))),(24,.v (.slice A s.length c)),(30,.v (.slice A s.length c)),(36,.v (.slice A s.length c)),(42,.v (.slice A s.length c)),(48,.v (.slice A s.length c))] 26 (qaa qad) (fun _ h=>h ▸ aa.cells) rfl aH fun bX aI=>?_
 obtain ⟨bq,bt,aJ,bu,ah⟩:=Slots.get ho (i:=4) (by omega)
 refine qaD aI (i:=17) (t:=22) (A:=A) (m:=s.length) (q:=4) (d:=25) kz (e:=5) (size:=1) (bytes:=1) (j:=4) kz aJ rfl (by omega) kz kz (qaa qad) rfl fun bY aK=>?_
 refine qa0 aK (i:=18) (t:=5) (b:=bq) (o:=bt + 4 * 1) (d:=26) kz (cs:=[.int .u8 ((s.getD 4 0).toNat:Int)]) (v:=.int .u8 ((s.getD 4 0).toNat:Int)) kz (fun w' h'=>h' ▸ (AtF.move ah aa.step nilM qa9).at_) kz kz (qaa qad) rfl fun bZ aL=>?_
 refine qaB [19,20,21] [(29,.v (.int .u64 (IntKind.u64.wrap (zB 64 (IntKind.u64.wrap (zB 64 (IntKind.u64.wrap (zB 64 (IntKind.u64.wrap ((s.getD 7 0).toNat:Int)) ||| zB 64 (IntKind.u64.wrap ((IntKind.u64.wrap ((s.getD 6 0).toNat:Int)) * 256))).toNat) ||| zB 64 (IntKind.u64.wrap ((IntKind.u64.wrap ((s.getD 5 0).toNat:Int)) * 65536))).toNat) ||| zB 64 (IntKind.u64.wrap ((IntKind.u64.wrap ((s.getD 4 0).toNat:Int)) * 16777216))).toNat))),(30,.v (.slice A s.length c)),(36,.v (.slice A s.length c)),(42,.v (.slice A s.length c)),(48,.v (.slice A s.length c))] 21 (qaa qad) (fun _ h=>h ▸ aa.cells) rfl aL fun b8 aM=>?_
 obtain ⟨bw,bx,aN,bz,ai⟩:=Slots.get ho (i:=3) (by omega)
 refine qaD aM (i:=23) (t:=22) (A:=A) (m:=s.length) (q:=3) (d:=31) kz (e:=5) (size:=1) (bytes:=1) (j:=3) kz aN rfl (by omega) kz kz (qaa qad) rfl fun cd aO=>?_
 refine qa0 aO (i:=24) (t:=5) (b:=bw) (o:=bx + 3 * 1) (d:=32) kz (cs:=[.int .u8 ((s.getD 3 0).toNat:Int)]) (v:=.int .u8 ((s.getD 3 0).toNat:Int)) kz (fun w' h'=>h' ▸ (AtF.move ai aa.step nilM qa9).at_) kz kz (qaa qad) rfl fun ce aP=>?_
 refine qaB [25,26,27] [(35,.v (.int .u64 (IntKind.u64.wrap (zB 64 (IntKind.u64.wrap (zB 64 (IntKind.u64.wrap (zB 64 (IntKind.u64.wrap (zB 64 (IntKind.u64.wrap ((s.getD 7 0).toNat:Int)) ||| zB 64 (IntKind.u64.wrap ((IntKind.u64.wrap ((s.getD 6 0).toNat:Int)) * 256))).toNat) ||| zB 64 (IntKind.u64.wrap ((IntKind.u64.wrap ((s.getD 5 0).toNat:Int)) * 65536))).toNat) ||| zB 64 (IntKind.u64.wrap ((IntKind.u64.wrap ((s.getD 4 0).toNat:Int)) * 16777216))).toNat) ||| zB 64 (IntKind.u64.wrap ((IntKind.u64.wrap ((s.getD 3 0).toNat:Int)) * 4294967296))).toNat))),(36,.v (.slice A s.length c)),(42,.v (.slice A s.length c)),(48,.v (.slice A s.length c))] 16 (qaa qad) (fun _ h=>h ▸ aa.cells) rfl aP fun cm aQ=>?_
 obtain ⟨bA,bB,aR,bC,aj⟩:=Slots.get ho (i:=2) (by omega)
 refine qaD aQ (i:=29) (t:=22) (A:=A) (m:=s.length) (q:=2) (d:=37) kz (e:=5) (size:=1) (bytes:=1) (j:=2) kz aR rfl (by omega) kz kz (qaa qad) rfl fun cq aS=>?_
 refine qa0 aS (i:=30) (t:=5) (b:=bA) (o:=bB + 2 * 1) (d:=38) kz (cs:=[.int .u8 ((s.getD 2 0).toNat:Int)]) (v:=.int .u8 ((s.getD 2 0).toNat:Int)) kz (fun w' h'=>h' ▸ (AtF.move aj aa.step nilM qa9).at_) kz kz (qaa qad) rfl fun cr aT=>?_
 refine qaB [31,32,33] [(41,.v (.int .u64 (IntKind.u64.wrap (zB 64 (IntKind.u64.wrap (zB 64 (IntKind.u64.wrap (zB 64 (IntKind.u64.wrap (zB 64 (IntKind.u64.wrap (zB 64 (IntKind.u64.wrap ((s.getD 7 0).toNat:Int)) ||| zB 64 (IntKind.u64.wrap ((IntKind.u64.wrap ((s.getD 6 0).toNat:Int)) * 256))).toNat) ||| zB 64 (IntKind.u64.wrap ((IntKind.u64.wrap ((s.getD 5 0).toNat:Int)) * 65536))).toNat) ||| zB 64 (IntKind.u64.wrap ((IntKind.u64.wrap ((s.getD 4 0).toNat:Int)) * 16777216))).toNat) ||| zB 64 (IntKind.u64.wrap ((IntKind.u64.wrap ((s.getD 3 0).toNat:Int)) * 4294967296))).toNat) ||| zB 64 (IntKind.u64.wrap ((IntKind.u64.wrap ((s.getD 2 0).toNat:Int)) * 1099511627776))).toNat))),(42,.v (.slice A s.length c)),(48,.v (.slice A s.length c))] 11 (qaa qad) (fun _ h=>h ▸ aa.cells) rfl aT fun cu aU=>?_
 obtain ⟨bD,bE,aV,bF,ak⟩:=Slots.get ho (i:=1) (by omega)
 refine qaD aU (i:=35) (t:=22) (A:=A) (m:=s.length) (q:=1) (d:=43) kz (e:=5) (size:=1) (bytes:=1) (j:=1) kz aV rfl (by omega) kz kz (qaa qad) rfl fun cw aW=>?_
 refine qa0 aW (i:=36) (t:=5) (b:=bD) (o:=bE + 1 * 1) (d:=44) kz (cs:=[.int .u8 ((s.getD 1 0).toNat:Int)]) (v:=.int .u8 ((s.getD 1 0).toNat:Int)) kz (fun w' h'=>h' ▸ (AtF.move ak aa.step nilM qa9).at_) kz kz (qaa qad) rfl fun cz aX=>?_
 refine qaB [37,38,39] [(47,.v (.int .u64 (IntKind.u64.wrap (zB 64 (IntKind.u64.wrap (zB 64 (IntKind.u64.wrap (zB 64 (IntKind.u64.wrap (zB 64 (IntKind.u64.wrap (zB 64 (IntKind.u64.wrap (zB 64 (IntKind.u64.wrap ((s.getD 7 0).toNat:Int)) ||| zB 64 (IntKind.u64.wrap ((IntKind.u64.wrap ((s.getD 6 0).toNat:Int)) * 256))).toNat) ||| zB 64 (IntKind.u64.wrap ((IntKind.u64.wrap ((s.getD 5 0).toNat:Int)) * 65536))).toNat) ||| zB 64 (IntKind.u64.wrap ((IntKind.u64.wrap ((s.getD 4 0).toNat:Int)) * 16777216))).toNat) ||| zB 64 (IntKind.u64.wrap ((IntKind.u64.wrap ((s.getD 3 0).toNat:Int)) * 4294967296))).toNat) ||| zB 64 (IntKind.u64.wrap ((IntKind.u64.wrap ((s.getD 2 0).toNat:Int)) * 1099511627776))).toNat) ||| zB 64 (IntKind.u64.wrap ((IntKind.u64.wrap ((s.getD 1 0).toNat:Int)) * 281474976710656))).toNat))),(48,.v (.slice A s.length c))] 6 (qaa qad) (fun _ h=>h ▸ aa.cells) rfl aX fun cA aY=>?_
 obtain ⟨bG,aZ,al,bf,ac⟩:=Slots.get ho (i:=0) (by omega)
 refine qaD aY (i:=41) (t:=22) (A:=A) (m:=s.length) (q:=0) (d:=49) kz (e:=5) (size:=1) (bytes:=1) (j:=0) kz al rfl (by omega) kz kz (qaa qad) rfl fun bH am=>?_
 refine qa0 am (i:=42) (t:=5) (b:=bG) (o:=aZ + 0 * 1) (d:=50) kz (cs:=[.int .u8 ((s.getD 0 0).toNat:Int)]) (v:=.int .u8 ((s.getD 0 0).toNat:Int)) kz (fun w' h'=>h' ▸ (AtF.move ac aa.step nilM qa9).at_) kz kz (qaa qad) rfl fun bI ao=>?_
 refine qaB [43,44,45,46] [(4,.v (.int .u64 (IntKind.u64.wrap (zB 64 (IntKind.u64.wrap (zB 64 (IntKind.u64.wrap (zB 64 (IntKind.u64.wrap (zB 64 (IntKind.u64.wrap (zB 64 (IntKind.u64.wrap (zB 64 (IntKind.u64.wrap (zB 64 (IntKind.u64.wrap ((s.getD 7 0).toNat:Int)) ||| zB 64 (IntKind.u64.wrap ((IntKind.u64.wrap ((s.getD 6 0).toNat:Int)) * 256))).toNat) ||| zB 64 (IntKind.u64.wrap ((IntKind.u64.wrap ((s.getD 5 0).toNat:Int)) * 65536))).toNat) ||| zB 64 (IntKind.u64.wrap ((IntKind.u64.wrap ((s.getD 4 0).toNat:Int)) * 16777216))).toNat) ||| zB 64 (IntKind.u64.wrap ((IntKind.u64.wrap ((s.getD 3 0).toNat:Int)) * 4294967296))).toNat) ||| zB 64 (IntKind.u64.wrap ((IntKind.u64.wrap ((s.getD 2 0).toNat:Int)) * 1099511627776))).toNat) ||| zB 64 (IntKind.u64.wrap ((IntKind.u64.wrap ((s.getD 1 0).toNat:Int)) * 281474976710656))).toNat) ||| zB 64 (IntKind.u64.wrap ((IntKind.u64.wrap ((s.getD 0 0).toNat:Int)) * 72057594037927936))).toNat)))] 0 (qaa qad) (fun _ h=>h ▸ aa.cells) rfl ao fun bJ ap=>?_
 refine qaz kz ?_ _
 refine qab (wp_ret (qaM ap aa.cells (v:=.int .u64 (IntKind.u64.wrap (zB 64 (IntKind.u64.wrap (zB 64 (IntKind.u64.wrap (zB 64 (IntKind.u64.wrap (zB 64 (IntKind.u64.wrap (zB 64 (IntKind.u64.wrap (zB 64 (IntKind.u64.wrap (zB 64 (IntKind.u64.wrap ((s.getD 7 0).toNat:Int)) ||| zB 64 (IntKind.u64.wrap ((IntKind.u64.wrap ((s.getD 6 0).toNat:Int)) * 256))).toNat) ||| zB 64 (IntKind.u64.wrap ((IntKind.u64.wrap ((s.getD 5 0).toNat:Int)) * 65536))).toNat) ||| zB 64 (IntKind.u64.wrap ((IntKind.u64.wrap ((s.getD 4 0).toNat:Int)) * 16777216))).toNat) ||| zB 64 (IntKind.u64.wrap ((IntKind.u64.wrap ((s.getD 3 0).toNat:Int)) * 4294967296))).toNat) ||| zB 64 (IntKind.u64.wrap ((IntKind.u64.wrap ((s.getD 2 0).toNat:Int)) * 1099511627776))).toNat) ||| zB 64 (IntKind.u64.wrap ((IntKind.u64.wrap ((s.getD 1 0).toNat:Int)) * 281474976710656))).toNat) ||| zB 64 (IntKind.u64.wrap ((IntKind.u64.wrap ((s.getD 0 0).toNat:Int)) * 72057594037927936))).toNat)) kz ?_))
 exact ⟨congrArg Ending.returned (congrArg (Value.int IntKind.u64) (qlF (oc s 0) (oc s 1) (oc s 2) (oc s 3) (oc s 4) (oc s 5) (oc s 6) (oc s 7) ob0 ob1 ob2 ob3 ob4 ob5 ob6 ob7)),aa.step⟩
theorem qkG (x:Int) (rest:Bs)  {br:Nat} {A:Option Addr} {m c:Nat} {w:World} {F:Nat → Nat → Prop} (hst:Str w br [.slice A m c,.bool false]) (hr:RdS w F A m c (be 2 x ++ rest)) (hFd:∀ b o,F b o → ¬ RdM br b o) :
  Calls Tryz.prog 89 #[.pointer (some ⟨br,0,none⟩)] w (RdPost w br F rest fun v w'=>v = .int .i16 (IntKind.i16.wrap x)):=by
 obtain ⟨hm,ho⟩:=hr
 subst hm
 have hle:=ho.le
 refine enter (n:=32) Tryz.func89 rfl Tryz.ntmps89 kz fun a hE=>?_
 have hW:WOk w (RdM br) w [⟨br,0,[.slice A ((be 2 x ++ rest).length) c,.bool false],true⟩] []:=WOk.startStr hst
 have hE1:=(hE.grow ⟨br,0,[.slice A ((be 2 x ++ rest).length) c,.bool false],true⟩).recast 0 (.v (.pointer (some ⟨br,0,none⟩))) (.p 0 0) rfl rfl (zN (n:=1) rfl)
 refine qas [(0,.p 0 0)] hW hE1 fun a1 hE2=>?_
 refine wp_seq (qas [(0,.p 0 0),(9,.v (.bool (decide ((((be 2 x ++ rest).length:Nat):Int) < 2))))] hW hE2 fun a3 hE4=>?_)
 refine qan hE4 (b:=decide ((((be 2 x ++ rest).length:Nat):Int) < 2)) kz (decide_eq_false (by first | omega | (simp only [List.length_append,be_length,List.length_cons,List.length_nil] at *; omega))) ?_
 refine wp_skip (qab (qaE 7 kz hW fun w5 hF6 hW7 hT8=>?_))
 refine qaB [1,2,3,4] [(0,.p 0 0),(20,.v (.slice A ((be 2 x ++ rest).length) c))] 4 (qaa qad) (fun _ h=>h.cells) hT8 hE4 fun a9 af=>?_
 refine qa0 af (i:=0) (t:=181) (b:=0) (o:=0) (d:=16) kz (cs:=[]) (v:=.agg #[]) kz (fun w' h'=>(fun j_ v_ h_=>by simp at h_)) kz kz (qaa qad) hT8 fun av ag=>?_
 refine qam (i:=5) kz (qak ag (f:=135) (vs:=[.agg #[],.slice A ((be 2 x ++ rest).length) c]) (d:=21) kz Tryz.call135 (qlY _ (ho.move hW7.step (fun b_ o_ h_ _=>hFd b_ o_ h_) (hW7.immM hFd)) (by first | omega | (simp only [List.length_append,be_length,List.length_cons,List.length_nil] at *; omega))) ?_)
 rintro e_ aw ⟨rfl,ac⟩
 refine ⟨_,rfl,fun ax ah=>?_⟩
 have aa:=hW7.next_nil ac
 have ai:=hW7.frN ac
 have ae:=TT.ofW ai aa
 refine ⟨fun _=>ae,?_⟩
 refine qaB [6] [(0,.p 0 0),(22,.v (.int .i16 (IntKind.i16.wrap (be16 (be 2 x ++ rest)))))] 1 (qaa qad) (fun _ h=>h.cells) ae ah fun ay aj=>?_
 refine qam (i:=7) kz (qbf [0,3] aa.cells aj (env':=[(0,.p 0 0),(3,.v (.int .i16 (IntKind.i16.wrap (be16 (be 2 x ++ rest)))))]) kz fun az ak=>?_)
 refine ⟨fun h=>absurd rfl h,?_⟩
 refine qaz kz ?_ _
 refine qab (qaf [0,1,2,3,4,5,6,7,8] kz ?_)
 refine qai [0,1,2,3,4] [5,6,7,8] [(3,.v (.int .i16 (IntKind.i16.wrap (be16 (be 2 x ++ rest))))),(23,.p 0 0),(27,.v (.slice A ((be 2 x ++ rest).length) c))] aa ak fun aA al=>?_
 refine qal (qcN al (t:=22) (A:=A) (m:=((be 2 x ++ rest).length)) (cp:=c) (q:=2) (d:=28) (j:=2) kz (e:=5) (bytes:=1) kz (rfl) (by first | omega | (simp only [List.length_append,be_length,List.length_cons,List.length_nil] at *; omega)) fun aB am=>?_)
 refine qai [6,7] [8] [(3,.v (.int .i16 (IntKind.i16.wrap (be16 (be 2 x ++ rest))))),(28,.v (.slice (cutA A c 2) (((be 2 x ++ rest).length) - 2) (c - 2))),(30,.p 0 0)] aa am fun aC ao=>?_
 refine qal (qao aa ao (oi:=0) (cs:=[.slice (cutA A c 2) (((be 2 x ++ rest).length) - 2) (c - 2),.bool false]) kz fun aD au ab ap=>?_)
 refine qae (qab ?_)
 refine qas [(2,.v (.int .i16 (IntKind.i16.wrap (be16 (be 2 x ++ rest)))))] ab ap fun aE ar=>?_
 refine wp_ret (qaM ar ab.cells (v:=.int .i16 (IntKind.i16.wrap (be16 (be 2 x ++ rest)))) kz ?_)
 exact ⟨_,_,_,_,rfl,Str.of ab 0 rfl,RdS.drop (s:=be 2 x) ⟨rfl,ho.move ab.step (fun b_ o_ h_ _=>hFd b_ o_ h_) qa9⟩ (by simp only [be_length,List.length_cons,List.length_nil]),ab.step,by rw [qk9,qlc]⟩
theorem qkH (x:Int) (rest:Bs)  {br:Nat} {A:Option Addr} {m c:Nat} {w:World} {F:Nat → Nat → Prop} (hst:Str w br [.slice A m c,.bool false]) (hr:RdS w F A m c (be 4 x ++ rest)) (hFd:∀ b o,F b o → ¬ RdM br b o) :
  Calls Tryz.prog 95 #[.pointer (some ⟨br,0,none⟩)] w (RdPost w br F rest fun v w'=>v = .int .i32 (IntKind.i32.wrap x)):=by
 obtain ⟨hm,ho⟩:=hr
 subst hm
 have hle:=ho.le
 refine enter (n:=32) Tryz.func95 rfl Tryz.ntmps95 kz fun a hE=>?_
 have hW:WOk w (RdM br) w [⟨br,0,[.slice A ((be 4 x ++ rest).length) c,.bool false],true⟩] []:=WOk.startStr hst
 have hE1:=(hE.grow ⟨br,0,[.slice A ((be 4 x ++ rest).length) c,.bool false],true⟩).recast 0 (.v (.pointer (some ⟨br,0,none⟩))) (.p 0 0) rfl rfl (zN (n:=1) rfl)
 refine qas [(0,.p 0 0)] hW hE1 fun a1 hE2=>?_
 refine wp_seq (qas [(0,.p 0 0),(9,.v (.bool (decide ((((be 4 x ++ rest).length:Nat):Int) < 4))))] hW hE2 fun a3 hE4=>?_)
 refine qan hE4 (b:=decide ((((be 4 x ++ rest).length:Nat):Int) < 4)) kz (decide_eq_false (by first | omega | (simp only [List.length_append,be_length,List.length_cons,List.length_nil] at *; omega))) ?_
 refine wp_skip (qab (qaE 7 kz hW fun w5 hF6 hW7 hT8=>?_))
 refine qaB [1,2,3,4] [(0,.p 0 0),(20,.v (.slice A ((be 4 x ++ rest).length) c))] 4 (qaa qad) (fun _ h=>h.cells) hT8 hE4 fun a9 af=>?_
 refine qa0 af (i:=0) (t:=181) (b:=0) (o:=0) (d:=16) kz (cs:=[]) (v:=.agg #[]) kz (fun w' h'=>(fun j_ v_ h_=>by simp at h_)) kz kz (qaa qad) hT8 fun av ag=>?_
 refine qam (i:=5) kz (qak ag (f:=136) (vs:=[.agg #[],.slice A ((be 4 x ++ rest).length) c]) (d:=21) kz Tryz.call136 (qlZ _ (ho.move hW7.step (fun b_ o_ h_ _=>hFd b_ o_ h_) (hW7.immM hFd)) (by first | omega | (simp only [List.length_append,be_length,List.length_cons,List.length_nil] at *; omega))) ?_)
 rintro e_ aw ⟨rfl,ac⟩
 refine ⟨_,rfl,fun ax ah=>?_⟩
 have aa:=hW7.next_nil ac
 have ai:=hW7.frN ac
 have ae:=TT.ofW ai aa
 refine ⟨fun _=>ae,?_⟩
 refine qaB [6] [(0,.p 0 0),(22,.v (.int .i32 (IntKind.i32.wrap (be32 (be 4 x ++ rest)))))] 1 (qaa qad) (fun _ h=>h.cells) ae ah fun ay aj=>?_
 refine qam (i:=7) kz (qbf [0,3] aa.cells aj (env':=[(0,.p 0 0),(3,.v (.int .i32 (IntKind.i32.wrap (be32 (be 4 x ++ rest)))))]) kz fun az ak=>?_)
 refine ⟨fun h=>absurd rfl h,?_⟩
 refine qaz kz ?_ _
 refine qab (qaf [0,1,2,3,4,5,6,7,8] kz ?_)
 refine qai [0,1,2,3,4] [5,6,7,8] [(3,.v (.int .i32 (IntKind.i32.wrap (be32 (be 4 x ++ rest))))),(23,.p 0 0),(27,.v (.slice A ((be 4 x ++ rest).length) c))] aa ak fun aA al=>?_
 refine qal (qcN al (t:=22) (A:=A) (m:=((be 4 x ++ rest).length)) (cp:=c) (q:=4) (d:=28) (j:=4) kz (e:=5) (bytes:=1) kz (rfl) (by first | omega | (simp only [List.length_append,be_length,List.length_cons,List.length_nil] at *; omega)) fun aB am=>?_)
 refine qai [6,7] [8] [(3,.v (.int .i32 (IntKind.i32.wrap (be32 (be 4 x ++ rest))))),(28,.v (.slice (cutA A c 4) (((be 4 x ++ rest).length) - 4) (c - 4))),(30,.p 0 0)] aa am fun aC ao=>?_
 refine qal (qao aa ao (oi:=0) (cs:=[.slice (cutA A c 4) (((be 4 x ++ rest).length) - 4) (c - 4),.bool false]) kz fun aD au ab ap=>?_)
 refine qae (qab ?_)
 refine qas [(2,.v (.int .i32 (IntKind.i32.wrap (be32 (be 4 x ++ rest)))))] ab ap fun aE ar=>?_
 refine wp_ret (qaM ar ab.cells (v:=.int .i32 (IntKind.i32.wrap (be32 (be 4 x ++ rest)))) kz ?_)
 exact ⟨_,_,_,_,rfl,Str.of ab 0 rfl,RdS.drop (s:=be 4 x) ⟨rfl,ho.move ab.step (fun b_ o_ h_ _=>hFd b_ o_ h_) qa9⟩ (by simp only [be_length,List.length_cons,List.length_nil]),ab.step,by rw [qla,qld]⟩
theorem qlh (x:Int) (rest:Bs)  {br:Nat} {A:Option Addr} {m c:Nat} {w:World} {F:Nat → Nat → Prop} (hst:Str w br [.slice A m c,.bool false]) (hr:RdS w F A m c (be 8 x ++ rest)) (hFd:∀ b o,F b o → ¬ RdM br b o) :
  Calls Tryz.prog 134 #[.pointer (some ⟨br,0,none⟩)] w (RdPost w br F rest fun v w'=>v = .int .u64 (IntKind.u64.wrap x)):=by
 obtain ⟨hm,ho⟩:=hr
 subst hm
 have hle:=ho.le
 refine enter (n:=31) Tryz.func134 rfl Tryz.ntmps134 kz fun a hE=>?_
 have hW:WOk w (RdM br) w [⟨br,0,[.slice A ((be 8 x ++ rest).length) c,.bool false],true⟩] []:=WOk.startStr hst
 have hE1:=(hE.grow ⟨br,0,[.slice A ((be 8 x ++ rest).length) c,.bool false],true⟩).recast 0 (.v (.pointer (some ⟨br,0,none⟩))) (.p 0 0) rfl rfl (zN (n:=1) rfl)
 refine qas [(0,.p 0 0)] hW hE1 fun a1 hE2=>?_
 refine wp_seq (qas [(0,.p 0 0),(9,.v (.bool (decide ((((be 8 x ++ rest).length:Nat):Int) < 8))))] hW hE2 fun a3 hE4=>?_)
 refine qan hE4 (b:=decide ((((be 8 x ++ rest).length:Nat):Int) < 8)) kz (decide_eq_false (by first | omega | (simp only [List.length_append,be_length,List.length_cons,List.length_nil] at *; omega))) ?_
 refine wp_skip (qab (qaE 6 kz hW fun w5 hF6 hW7 hT8=>?_))
 refine qaB [1,2,3,4] [(0,.p 0 0),(20,.v (.slice A ((be 8 x ++ rest).length) c))] 3 (qaa qad) (fun _ h=>h.cells) hT8 hE4 fun a9 ae=>?_
 refine qa0 ae (i:=0) (t:=181) (b:=0) (o:=0) (d:=16) kz (cs:=[]) (v:=.agg #[]) kz (fun w' h'=>(fun j_ v_ h_=>by simp at h_)) kz kz (qaa qad) hT8 fun au af=>?_
 refine qam (i:=5) kz (qak af (f:=147) (vs:=[.agg #[],.slice A ((be 8 x ++ rest).length) c]) (d:=21) kz Tryz.call147 (ql0 _ (ho.move hW7.step (fun b_ o_ h_ _=>hFd b_ o_ h_) (hW7.immM hFd)) (by first | omega | (simp only [List.length_append,be_length,List.length_cons,List.length_nil] at *; omega))) ?_)
 rintro e_ av ⟨rfl,ac⟩
 refine ⟨_,rfl,fun aw ag=>?_⟩
 have aa:=hW7.next_nil ac
 have ah:=hW7.frN ac
 have ai:=TT.ofW ah aa
 refine ⟨fun _=>ai,?_⟩
 refine qam (i:=6) kz (qbf [0,3] aa.cells ag (env':=[(0,.p 0 0),(3,.v (.int .u64 (be64 (be 8 x ++ rest))))]) kz fun ax aj=>?_)
 refine ⟨fun h=>absurd rfl h,?_⟩
 refine qaz kz ?_ _
 refine qab (qaf [0,1,2,3,4,5,6,7,8] kz ?_)
 refine qai [0,1,2,3,4] [5,6,7,8] [(3,.v (.int .u64 (be64 (be 8 x ++ rest)))),(22,.p 0 0),(26,.v (.slice A ((be 8 x ++ rest).length) c))] aa aj fun ay ak=>?_
 refine qal (qcN ak (t:=22) (A:=A) (m:=((be 8 x ++ rest).length)) (cp:=c) (q:=8) (d:=27) (j:=8) kz (e:=5) (bytes:=1) kz (rfl) (by first | omega | (simp only [List.length_append,be_length,List.length_cons,List.length_nil] at *; omega)) fun az al=>?_)
 refine qai [6,7] [8] [(3,.v (.int .u64 (be64 (be 8 x ++ rest)))),(27,.v (.slice (cutA A c 8) (((be 8 x ++ rest).length) - 8) (c - 8))),(29,.p 0 0)] aa al fun aA am=>?_
 refine qal (qao aa am (oi:=0) (cs:=[.slice (cutA A c 8) (((be 8 x ++ rest).length) - 8) (c - 8),.bool false]) kz fun aB ar ab ao=>?_)
 refine qae (qab ?_)
 refine qas [(2,.v (.int .u64 (be64 (be 8 x ++ rest))))] ab ao fun aC ap=>?_
 refine wp_ret (qaM ap ab.cells (v:=.int .u64 (be64 (be 8 x ++ rest))) kz ?_)
 exact ⟨_,_,_,_,rfl,Str.of ab 0 rfl,RdS.drop (s:=be 8 x) ⟨rfl,ho.move ab.step (fun b_ o_ h_ _=>hFd b_ o_ h_) qa9⟩ (by simp only [be_length,List.length_cons,List.length_nil]),ab.step,by rw [qlb]⟩
theorem ql1 (y:Bool) (rest:Bs)  {br:Nat} {A:Option Addr} {m c:Nat} {w:World} {F:Nat → Nat → Prop} (hst:Str w br [.slice A m c,.bool false]) (hr:RdS w F A m c ([by8 (if y then 1 else 0)] ++ rest)) (hFd:∀ b o,F b o → ¬ RdM br b o) :
  Calls Tryz.prog 98 #[.pointer (some ⟨br,0,none⟩)] w (RdPost w br F rest fun v w'=>v = .bool y):=by
 obtain ⟨hm,ho⟩:=hr
 subst hm
 have hle:=ho.le
 refine enter (n:=32) Tryz.func98 rfl Tryz.ntmps98 kz fun a hE=>?_
 have hW:WOk w (RdM br) w [⟨br,0,[.slice A (([by8 (if y then 1 else 0)] ++ rest).length) c,.bool false],true⟩] []:=WOk.startStr hst
 have hE1:=(hE.grow ⟨br,0,[.slice A (([by8 (if y then 1 else 0)] ++ rest).length) c,.bool false],true⟩).recast 0 (.v (.pointer (some ⟨br,0,none⟩))) (.p 0 0) rfl rfl (zN (n:=1) rfl)
 refine qas [(0,.p 0 0)] hW hE1 fun a1 hE2=>?_
 refine wp_seq (qas [(0,.p 0 0),(9,.v (.bool (decide (((([by8 (if y then 1 else 0)] ++ rest).length:Nat):Int) < 1))))] hW hE2 fun a3 hE4=>?_)
 refine qan hE4 (b:=decide (((([by8 (if y then 1 else 0)] ++ rest).length:Nat):Int) < 1)) kz (decide_eq_false (by first | omega | (simp only [List.length_append,be_length,List.length_cons,List.length_nil] at *; omega))) ?_
 refine wp_skip (qab (qaf [0,1,2,3,4,5,6,7] kz ?_))
 refine qai [0,1,2,3] [4,5,6,7] [(0,.p 0 0),(19,.v (.slice A (([by8 (if y then 1 else 0)] ++ rest).length) c))] hW hE4 fun a5 hE6=>?_
 obtain ⟨b7,o8,hA9,al,ab⟩:=Slots.get ho (i:=0) (by first | omega | (simp only [List.length_append,be_length,List.length_cons,List.length_nil] at *; omega))
 refine qal (qax hE6 (t:=22) (A:=A) (m:=(([by8 (if y then 1 else 0)] ++ rest).length)) (q:=0) (d:=20) kz (e:=5) (size:=1) (bytes:=1) (j:=0) kz hA9 rfl (by first | omega | (simp only [List.length_append,be_length,List.length_cons,List.length_nil] at *; omega)) fun ao ac=>?_)
 refine qal (qaU ac (t:=5) (b:=b7) (o:=o8 + 0 * 1) (d:=21) kz (cs:=[.int .u8 ((([by8 (if y then 1 else 0)] ++ rest).getD 0 0).toNat:Int)]) (v:=.int .u8 ((([by8 (if y then 1 else 0)] ++ rest).getD 0 0).toNat:Int)) kz (AtF.move ab hW.step (fun b_ o_ h_ _=>hFd b_ o_ h_) qa9).at_ fun ap ae=>?_)
 refine qai [6,7] [] [(0,.p 0 0),(3,.v (.bool (((([by8 (if y then 1 else 0)] ++ rest).getD 0 0).toNat:Int) != 0)))] hW ae fun ar af=>?_
 refine qae (qab ?_)
 refine qaf [0,1,2,3,4,5,6,7,8] kz ?_
 refine qai [0,1,2,3,4] [5,6,7,8] [(3,.v (.bool (((([by8 (if y then 1 else 0)] ++ rest).getD 0 0).toNat:Int) != 0))),(23,.p 0 0),(27,.v (.slice A (([by8 (if y then 1 else 0)] ++ rest).length) c))] hW af fun au ag=>?_
 refine qal (qcN ag (t:=22) (A:=A) (m:=(([by8 (if y then 1 else 0)] ++ rest).length)) (cp:=c) (q:=1) (d:=28) (j:=1) kz (e:=5) (bytes:=1) kz (rfl) (by first | omega | (simp only [List.length_append,be_length,List.length_cons,List.length_nil] at *; omega)) fun av ah=>?_)
 refine qai [6,7] [8] [(3,.v (.bool (((([by8 (if y then 1 else 0)] ++ rest).getD 0 0).toNat:Int) != 0))),(28,.v (.slice (cutA A c 1) ((([by8 (if y then 1 else 0)] ++ rest).length) - 1) (c - 1))),(30,.p 0 0)] hW ah fun aw ai=>?_
 refine qal (qao hW ai (oi:=0) (cs:=[.slice (cutA A c 1) ((([by8 (if y then 1 else 0)] ++ rest).length) - 1) (c - 1),.bool false]) kz fun ax am aa aj=>?_)
 refine qae (qab ?_)
 refine qas [(2,.v (.bool (((([by8 (if y then 1 else 0)] ++ rest).getD 0 0).toNat:Int) != 0)))] aa aj fun ay ak=>?_
 refine wp_ret (qaM ak aa.cells (v:=.bool (((([by8 (if y then 1 else 0)] ++ rest).getD 0 0).toNat:Int) != 0)) kz ?_)
 exact ⟨_,_,_,_,rfl,Str.of aa 0 rfl,RdS.drop (s:=[by8 (if y then 1 else 0)]) ⟨rfl,ho.move aa.step (fun b_ o_ h_ _=>hFd b_ o_ h_) qa9⟩ (by simp only [be_length,List.length_cons,List.length_nil]),aa.step,by cases y <;> rfl⟩
abbrev z76 (x0) (x1) (x2):=([(0,.v (.slice x0 x1 x2)),(9,.v (.slice x0 x1 x2))]:Env)
theorem rUv1 {A:Option Addr} {c:Nat} (s:Bs) {w:World} {F:Nat → Nat → Prop} (ho:Octs w F A c s) (hl:1 ≤ s.length) (d0:Nat) (h0:oc s 0 = d0) (g0:d0 < 128) :
  Calls Tryz.prog 145 #[.slice A s.length c] w (qcs w (.tuple #[.int .u32 ((d0:Nat):Int),.int .i64 1])):=by
 refine enter (n:=87) Tryz.func145 rfl Tryz.ntmps145 kz fun a hE=>?_
 have hW:=WOk.start w Nil
 refine qas (z67 A s.length c) hW hE fun a1 hE2=>?_
 refine wp_scope_straight (qas (z67 A s.length c) hW hE2 fun a3 hE4=>?_)
 refine qas (z67 A s.length c) hW hE4 fun a5 hE6=>?_
 refine wp_seq (qas [(0,.v (.slice A s.length c)),(8,.v (.bool (decide (((s.length:Nat):Int) < 1))))] hW hE6 fun a7 hE8=>?_)
 refine qan hE8 (b:=decide (((s.length:Nat):Int) < 1)) kz (decide_eq_false (by omega)) ?_
 refine wp_skip (qab (qaf [0,1,2,3,4,5] kz ?_))
 refine qai [0] [1,2,3,4,5] (z76 A s.length c) hW hE8 fun a9 ae=>?_
 obtain ⟨am,ao,ab,ap,aa⟩:=Slots.get ho (i:=0) (by first | omega | (simp only [List.length_append,be_length,List.length_cons,List.length_nil] at *; omega))
 refine qal (qax ae (t:=22) (A:=A) (m:=s.length) (q:=0) (d:=10) kz (e:=5) (size:=1) (bytes:=1) (j:=0) kz ab rfl (by first | omega | (simp only [List.length_append,be_length,List.length_cons,List.length_nil] at *; omega)) fun ar af=>?_)
 refine qal (qaU af (t:=5) (b:=am) (o:=ao + 0 * 1) (d:=11) kz (cs:=[.int .u8 ((s.getD 0 0).toNat:Int)]) (v:=.int .u8 ((s.getD 0 0).toNat:Int)) kz (AtF.move aa hW.step nilM qa9).at_ fun au ag=>?_)
 refine qai [3,4,5] [] [(0,.v (.slice A s.length c)),(4,.v (.int .u32 (zU (IntKind.u8.wrap (zB 8 ((s.getD 0 0).toNat:Int) &&& zB 8 127).toNat))))] hW ag fun av ah=>?_
 refine qae (qab ?_)
 refine wp_seq (qaf [0,1,2,3,4] kz ?_)
 refine qai [0] [1,2,3,4] [(0,.v (.slice A s.length c)),(4,.v (.int .u32 (zU (IntKind.u8.wrap (zB 8 ((s.getD 0 0).toNat:Int) &&& zB 8 127).toNat)))),(14,.v (.slice A s.length c))] hW ah fun aw ai=>?_
 refine qal (qax ai (t:=22) (A:=A) (m:=s.length) (q:=0) (d:=15) kz (e:=5) (size:=1) (bytes:=1) (j:=0) kz ab rfl (by first | omega | (simp only [List.length_append,be_length,List.length_cons,List.length_nil] at *; omega)) fun ax aj=>?_)
 refine qal (qaU aj (t:=5) (b:=am) (o:=ao + 0 * 1) (d:=16) kz (cs:=[.int .u8 ((s.getD 0 0).toNat:Int)]) (v:=.int .u8 ((s.getD 0 0).toNat:Int)) kz (AtF.move aa hW.step nilM qa9).at_ fun ay ak=>?_)
 refine qai [3,4] [] [(0,.v (.slice A s.length c)),(4,.v (.int .u32 (zU (IntKind.u8.wrap (zB 8 ((s.getD 0 0).toNat:Int) &&& zB 8 127).toNat)))),(18,.v (.bool ((IntKind.u8.wrap (zB 8 ((s.getD 0 0).toNat:Int) &&& zB 8 128).toNat) == 0)))] hW ak fun az ac=>?_
 refine qae (qab ?_)
 refine qa7 ac (b:=(IntKind.u8.wrap (zB 8 ((s.getD 0 0).toNat:Int) &&& zB 8 128).toNat) == 0) kz ((qdj _ (qb1 s 0)).trans (decide_eq_true (by have:=h0; unfold oc at this; omega))) ?_
 refine qas [(2,.v (.int .u32 (zU (IntKind.u8.wrap (zB 8 ((s.getD 0 0).toNat:Int) &&& zB 8 127).toNat)))),(3,.v (.int .i64 1))] hW ac fun aA al=>?_
 refine wp_ret (qat (qdO (qaM al hW.cells (v:=.tuple #[.int .u32 (zU (IntKind.u8.wrap (zB 8 ((s.getD 0 0).toNat:Int) &&& zB 8 127).toNat)),.int .i64 1]) kz ?_)))
 have e_:=uv_1 (oc s 0) (qb1 s 0)
 refine ⟨congrArg (fun z_:Int=>Ending.returned (.tuple #[.int .u32 z_,.int .i64 1])) (Eq.trans e_ ?_),hW.step⟩
 omega
theorem rUv2 {A:Option Addr} {c:Nat} (s:Bs) {w:World} {F:Nat → Nat → Prop} (ho:Octs w F A c s) (hl:2 ≤ s.length) (d0 d1:Nat) (h0:oc s 0 = d0 + 128) (h1:oc s 1 = d1) (g0:d0 < 128) (g1:d1 < 128) :
  Calls Tryz.prog 145 #[.slice A s.length c] w (qcs w (.tuple #[.int .u32 ((d0 + d1 * 128:Nat):Int),.int .i64 2])):=by
 refine enter (n:=87) Tryz.func145 rfl Tryz.ntmps145 kz fun a hE=>?_
 have hW:=WOk.start w Nil
 refine qas (z67 A s.length c) hW hE fun a1 hE2=>?_
 refine wp_scope_straight (qas (z67 A s.length c) hW hE2 fun a3 hE4=>?_)
 refine qas (z67 A s.length c) hW hE4 fun a5 hE6=>?_
 refine wp_seq (qas [(0,.v (.slice A s.length c)),(8,.v (.bool (decide (((s.length:Nat):Int) < 1))))] hW hE6 fun a7 hE8=>?_)
 refine qan hE8 (b:=decide (((s.length:Nat):Int) < 1)) kz (decide_eq_false (by omega)) ?_
 refine wp_skip (qab (qaf [0,1,2,3,4,5] kz ?_))
 refine qai [0] [1,2,3,4,5] (z76 A s.length c) hW hE8 fun a9 ai=>?_
 obtain ⟨aB,aC,ac,aF,aa⟩:=Slots.get ho (i:=0) (by first | omega | (simp only [List.length_append,be_length,List.length_cons,List.length_nil] at *; omega))
 refine qal (qax ai (t:=22) (A:=A) (m:=s.length) (q:=0) (d:=10) kz (e:=5) (size:=1) (bytes:=1) (j:=0) kz ac rfl (by first | omega | (simp only [List.length_append,be_length,List.length_cons,List.length_nil] at *; omega)) fun aH aj=>?_)
 refine qal (qaU aj (t:=5) (b:=aB) (o:=aC + 0 * 1) (d:=11) kz (cs:=[.int .u8 ((s.getD 0 0).toNat:Int)]) (v:=.int .u8 ((s.getD 0 0).toNat:Int)) kz (AtF.move aa hW.step nilM qa9).at_ fun aI ak=>?_)
 refine qai [3,4,5] [] [(0,.v (.slice A s.length c)),(4,.v (.int .u32 (zU (IntKind.u8.wrap (zB 8 ((s.getD 0 0).toNat:Int) &&& zB 8 127).toNat))))] hW ak fun aJ al=>?_
 refine qae (qab ?_)
 refine wp_seq (qaf [0,1,2,3,4] kz ?_)
 refine qai [0] [1,2,3,4] [(0,.v (.slice A s.length c)),(4,.v (.int .u32 (zU (IntKind.u8.wrap (zB 8 ((s.getD 0 0).toNat:Int) &&& zB 8 127).toNat)))),(14,.v (.slice A s.length c))] hW al fun aK am=>?_
 refine qal (qax am (t:=22) (A:=A) (m:=s.length) (q:=0) (d:=15) kz (e:=5) (size:=1) (bytes:=1) (j:=0) kz ac rfl (by first | omega | (simp only [List.length_append,be_length,List.length_cons,List.length_nil] at *; omega)) fun aL ao=>?_)
 refine qal (qaU ao (t:=5) (b:=aB) (o:=aC + 0 * 1) (d:=16) kz (cs:=[.int .u8 ((s.getD 0 0).toNat:Int)]) (v:=.int .u8 ((s.getD 0 0).toNat:Int)) kz (AtF.move aa hW.step nilM qa9).at_ fun aM ap=>?_)
 refine qai [3,4] [] [(0,.v (.slice A s.length c)),(4,.v (.int .u32 (zU (IntKind.u8.wrap (zB 8 ((s.getD 0 0).toNat:Int) &&& zB 8 127).toNat)))),(18,.v (.bool ((IntKind.u8.wrap (zB 8 ((s.getD 0 0).toNat:Int) &&& zB 8 128).toNat) == 0)))] hW ap fun aN ae=>?_
 refine qae (qab ?_)
 refine qan ae (b:=(IntKind.u8.wrap (zB 8 ((s.getD 0 0).toNat:Int) &&& zB 8 128).toNat) == 0) kz ((qdj _ (qb1 s 0)).trans (decide_eq_false (by have:=h0; unfold oc at this; omega))) ?_
 refine qas [(0,.v (.slice A s.length c)),(4,.v (.int .u32 (zU (IntKind.u8.wrap (zB 8 ((s.getD 0 0).toNat:Int) &&& zB 8 127).toNat)))),(22,.v (.bool (decide (((s.length:Nat):Int) < 2))))] hW ae fun aO af=>?_
 refine qan af (b:=decide (((s.length:Nat):Int) < 2)) kz (decide_eq_false (by omega)) ?_
 refine wp_skip (qab (qaf [0,1,2,3,4,5,6,7,8] kz ?_))
 refine qai [0,1] [2,3,4,5,6,7,8] [(0,.v (.slice A s.length c)),(23,.v (.int .u32 (zU (IntKind.u8.wrap (zB 8 ((s.getD 0 0).toNat:Int) &&& zB 8 127).toNat)))),(24,.v (.slice A s.length c))] hW af fun aP ar=>?_
 obtain ⟨aD,aE,ag,aG,ab⟩:=Slots.get ho (i:=1) (by first | omega | (simp only [List.length_append,be_length,List.length_cons,List.length_nil] at *; omega))
 refine qal (qax ar (t:=22) (A:=A) (m:=s.length) (q:=1) (d:=25) kz (e:=5) (size:=1) (bytes:=1) (j:=1) kz ag rfl (by first | omega | (simp only [List.length_append,be_length,List.length_cons,List.length_nil] at *; omega)) fun aQ au=>?_)
 refine qal (qaU au (t:=5) (b:=aD) (o:=aE + 1 * 1) (d:=26) kz (cs:=[.int .u8 ((s.getD 1 0).toNat:Int)]) (v:=.int .u8 ((s.getD 1 0).toNat:Int)) kz (AtF.move ab hW.step nilM qa9).at_ fun aR av=>?_)
 refine qai [4,5,6,7,8] [] [(0,.v (.slice A s.length c)),(4,.v (.int .u32 (zU (zB 32 (zU (IntKind.u8.wrap (zB 8 ((s.getD 0 0).toNat:Int) &&& zB 8 127).toNat)) ||| zB 32 (zU ((zU (IntKind.u8.wrap (zB 8 ((s.getD 1 0).toNat:Int) &&& zB 8 127).toNat)) * 128))).toNat)))] hW av fun aS aw=>?_
 refine qae (qab ?_)
 refine wp_seq (qaf [0,1,2,3,4] kz ?_)
 refine qai [0] [1,2,3,4] [(0,.v (.slice A s.length c)),(4,.v (.int .u32 (zU (zB 32 (zU (IntKind.u8.wrap (zB 8 ((s.getD 0 0).toNat:Int) &&& zB 8 127).toNat)) ||| zB 32 (zU ((zU (IntKind.u8.wrap (zB 8 ((s.getD 1 0).toNat:Int) &&& zB 8 127).toNat)) * 128))).toNat))),(31,.v (.slice A s.length c))] hW aw fun aT ax=>?_
 refine qal (qax ax (t:=22) (A:=A) (m:=s.length) (q:=1) (d:=32) kz (e:=5) (size:=1) (bytes:=1) (j:=1) kz ag rfl (by first | omega | (simp only [List.length_append,be_length,List.length_cons,List.length_nil] at *; omega)) fun aU ay=>?_)
 refine qal (qaU ay (t:=5) (b:=aD) (o:=aE + 1 * 1) (d:=33) kz (cs:=[.int .u8 ((s.getD 1 0).toNat:Int)]) (v:=.int .u8 ((s.getD 1 0).toNat:Int)) kz (AtF.move ab hW.step nilM qa9).at_ fun aV az=>?_)
 refine qai [3,4] [] [(0,.v (.slice A s.length c)),(4,.v (.int .u32 (zU (zB 32 (zU (IntKind.u8.wrap (zB 8 ((s.getD 0 0).toNat:Int) &&& zB 8 127).toNat)) ||| zB 32 (zU ((zU (IntKind.u8.wrap (zB 8 ((s.getD 1 0).toNat:Int) &&& zB 8 127).toNat)) * 128))).toNat))),(35,.v (.bool ((IntKind.u8.wrap (zB 8 ((s.getD 1 0).toNat:Int) &&& zB 8 128).toNat) == 0)))] hW az fun aW ah=>?_
 refine qae (qab ?_)
 refine qa7 ah (b:=(IntKind.u8.wrap (zB 8 ((s.getD 1 0).toNat:Int) &&& zB 8 128).toNat) == 0) kz ((qdj _ (qb1 s 1)).trans (decide_eq_true (by have:=h1; unfold oc at this; omega))) ?_
 refine qas [(2,.v (.int .u32 (zU (zB 32 (zU (IntKind.u8.wrap (zB 8 ((s.getD 0 0).toNat:Int) &&& zB 8 127).toNat)) ||| zB 32 (zU ((zU (IntKind.u8.wrap (zB 8 ((s.getD 1 0).toNat:Int) &&& zB 8 127).toNat)) * 128))).toNat))),(3,.v (.int .i64 2))] hW ah fun aX aA=>?_
 refine wp_ret (qat (qdO (qaM aA hW.cells (v:=.tuple #[.int .u32 (zU (zB 32 (zU (IntKind.u8.wrap (zB 8 ((s.getD 0 0).toNat:Int) &&& zB 8 127).toNat)) ||| zB 32 (zU ((zU (IntKind.u8.wrap (zB 8 ((s.getD 1 0).toNat:Int) &&& zB 8 127).toNat)) * 128))).toNat),.int .i64 2]) kz ?_)))
 have e_:=uv_2 (oc s 0) (oc s 1) (qb1 s 0) (qb1 s 1)
 refine ⟨congrArg (fun z_:Int=>Ending.returned (.tuple #[.int .u32 z_,.int .i64 2])) (Eq.trans e_ ?_),hW.step⟩
 omega
theorem rUv3 {A:Option Addr} {c:Nat} (s:Bs) {w:World} {F:Nat → Nat → Prop} (ho:Octs w F A c s) (hl:3 ≤ s.length) (d0 d1 d2:Nat) (h0:oc s 0 = d0 + 128) (h1:oc s 1 = d1 + 128) (h2:oc s 2 = d2) (g0:d0 < 128) (g1:d1 < 128) (g2:d2 < 128) :
  Calls Tryz.prog 145 #[.slice A s.length c] w (qcs w (.tuple #[.int .u32 ((d0 + d1 * 128 + d2 * 16384:Nat):Int),.int .i64 3])):=by
 refine enter (n:=87) Tryz.func145 rfl Tryz.ntmps145 kz fun a hE=>?_
 have hW:=WOk.start w Nil
 refine qas (z67 A s.length c) hW hE fun a1 hE2=>?_
 refine wp_scope_straight (qas (z67 A s.length c) hW hE2 fun a3 hE4=>?_)
 refine qas (z67 A s.length c) hW hE4 fun a5 hE6=>?_
 refine wp_seq (qas [(0,.v (.slice A s.length c)),(8,.v (.bool (decide (((s.length:Nat):Int) < 1))))] hW hE6 fun a7 hE8=>?_)
 refine qan hE8 (b:=decide (((s.length:Nat):Int) < 1)) kz (decide_eq_false (by omega)) ?_
 refine wp_skip (qab (qaf [0,1,2,3,4,5] kz ?_))
 refine qai [0] [1,2,3,4,5] (z76 A s.length c) hW hE8 fun a9 am=>?_
 obtain ⟨aM,aN,ae,aS,aa⟩:=Slots.get ho (i:=0) (by first | omega | (simp only [List.length_append,be_length,List.length_cons,List.length_nil] at *; omega))
 refine qal (qax am (t:=22) (A:=A) (m:=s.length) (q:=0) (d:=10) kz (e:=5) (size:=1) (bytes:=1) (j:=0) kz ae rfl (by first | omega | (simp only [List.length_append,be_length,List.length_cons,List.length_nil] at *; omega)) fun aV ao=>?_)
 refine qal (qaU ao (t:=5) (b:=aM) (o:=aN + 0 * 1) (d:=11) kz (cs:=[.int .u8 ((s.getD 0 0).toNat:Int)]) (v:=.int .u8 ((s.getD 0 0).toNat:Int)) kz (AtF.move aa hW.step nilM qa9).at_ fun aW ap=>?_)
 refine qai [3,4,5] [] [(0,.v (.slice A s.length c)),(4,.v (.int .u32 (zU (IntKind.u8.wrap (zB 8 ((s.getD 0 0).toNat:Int) &&& zB 8 127).toNat))))] hW ap fun aX ar=>?_
 refine qae (qab ?_)
 refine wp_seq (qaf [0,1,2,3,4] kz ?_)
 refine qai [0] [1,2,3,4] [(0,.v (.slice A s.length c)),(4,.v (.int .u32 (zU (IntKind.u8.wrap (zB 8 ((s.getD 0 0).toNat:Int) &&& zB 8 127).toNat)))),(14,.v (.slice A s.length c))] hW ar fun aY au=>?_
 refine qal (qax au (t:=22) (A:=A) (m:=s.length) (q:=0) (d:=15) kz (e:=5) (size:=1) (bytes:=1) (j:=0) kz ae rfl (by first | omega | (simp only [List.length_append,be_length,List.length_cons,List.length_nil] at *; omega)) fun aZ av=>?_)
 refine qal (qaU av (t:=5) (b:=aM) (o:=aN + 0 * 1) (d:=16) kz (cs:=[.int .u8 ((s.getD 0 0).toNat:Int)]) (v:=.int .u8 ((s.getD 0 0).toNat:Int)) kz (AtF.move aa hW.step nilM qa9).at_ fun ba aw=>?_)
 refine qai [3,4] [] [(0,.v (.slice A s.length c)),(4,.v (.int .u32 (zU (IntKind.u8.wrap (zB 8 ((s.getD 0 0).toNat:Int) &&& zB 8 127).toNat)))),(18,.v (.bool ((IntKind.u8.wrap (zB 8 ((s.getD 0 0).toNat:Int) &&& zB 8 128).toNat) == 0)))] hW aw fun bd af=>?_
 refine qae (qab ?_)
 refine qan af (b:=(IntKind.u8.wrap (zB 8 ((s.getD 0 0).toNat:Int) &&& zB 8 128).toNat) == 0) kz ((qdj _ (qb1 s 0)).trans (decide_eq_false (by have:=h0; unfold oc at this; omega))) ?_
 refine qas [(0,.v (.slice A s.length c)),(4,.v (.int .u32 (zU (IntKind.u8.wrap (zB 8 ((s.getD 0 0).toNat:Int) &&& zB 8 127).toNat)))),(22,.v (.bool (decide (((s.length:Nat):Int) < 2))))] hW af fun bf ag=>?_
 refine qan ag (b:=decide (((s.length:Nat):Int) < 2)) kz (decide_eq_false (by omega)) ?_
 refine wp_skip (qab (qaf [0,1,2,3,4,5,6,7,8] kz ?_))
 refine qai [0,1] [2,3,4,5,6,7,8] [(0,.v (.slice A s.length c)),(23,.v (.int .u32 (zU (IntKind.u8.wrap (zB 8 ((s.getD 0 0).toNat:Int) &&& zB 8 127).toNat)))),(24,.v (.slice A s.length c))] hW ag fun bg ax=>?_
 obtain ⟨aO,aP,ah,aT,ab⟩:=Slots.get ho (i:=1) (by first | omega | (simp only [List.length_append,be_length,List.length_cons,List.length_nil] at *; omega))
 refine qal (qax ax (t:=22) (A:=A) (m:=s.length) (q:=1) (d:=25) kz (e:=5) (size:=1) (bytes:=1) (j:=1) kz ah rfl (by first | omega | (simp only [List.length_append,be_length,List.length_cons,List.length_nil] at *; omega)) fun bh ay=>?_)
 refine qal (qaU ay (t:=5) (b:=aO) (o:=aP + 1 * 1) (d:=26) kz (cs:=[.int .u8 ((s.getD 1 0).toNat:Int)]) (v:=.int .u8 ((s.getD 1 0).toNat:Int)) kz (AtF.move ab hW.step nilM qa9).at_ fun bi az=>?_)
 refine qai [4,5,6,7,8] [] [(0,.v (.slice A s.length c)),(4,.v (.int .u32 (zU (zB 32 (zU (IntKind.u8.wrap (zB 8 ((s.getD 0 0).toNat:Int) &&& zB 8 127).toNat)) ||| zB 32 (zU ((zU (IntKind.u8.wrap (zB 8 ((s.getD 1 0).toNat:Int) &&& zB 8 127).toNat)) * 128))).toNat)))] hW az fun bj aA=>?_
 refine qae (qab ?_)
 refine wp_seq (qaf [0,1,2,3,4] kz ?_)
 refine qai [0] [1,2,3,4] [(0,.v (.slice A s.length c)),(4,.v (.int .u32 (zU (zB 32 (zU (IntKind.u8.wrap (zB 8 ((s.getD 0 0).toNat:Int) &&& zB 8 127).toNat)) ||| zB 32 (zU ((zU (IntKind.u8.wrap (zB 8 ((s.getD 1 0).toNat:Int) &&& zB 8 127).toNat)) * 128))).toNat))),(31,.v (.slice A s.length c))] hW aA fun bk aB=>?_
 refine qal (qax aB (t:=22) (A:=A) (m:=s.length) (q:=1) (d:=32) kz (e:=5) (size:=1) (bytes:=1) (j:=1) kz ah rfl (by first | omega | (simp only [List.length_append,be_length,List.length_cons,List.length_nil] at *; omega)) fun bn aC=>?_)
 refine qal (qaU aC (t:=5) (b:=aO) (o:=aP + 1 * 1) (d:=33) kz (cs:=[.int .u8 ((s.getD 1 0).toNat:Int)]) (v:=.int .u8 ((s.getD 1 0).toNat:Int)) kz (AtF.move ab hW.step nilM qa9).at_ fun bo aD=>?_)
 refine qai [3,4] [] [(0,.v (.slice A s.length c)),(4,.v (.int .u32 (zU (zB 32 (zU (IntKind.u8.wrap (zB 8 ((s.getD 0 0).toNat:Int) &&& zB 8 127).toNat)) ||| zB 32 (zU ((zU (IntKind.u8.wrap (zB 8 ((s.getD 1 0).toNat:Int) &&& zB 8 127).toNat)) * 128))).toNat))),(35,.v (.bool ((IntKind.u8.wrap (zB 8 ((s.getD 1 0).toNat:Int) &&& zB 8 128).toNat) == 0)))] hW aD fun bp ai=>?_
 refine qae (qab ?_)
 refine qan ai (b:=(IntKind.u8.wrap (zB 8 ((s.getD 1 0).toNat:Int) &&& zB 8 128).toNat) == 0) kz ((qdj _ (qb1 s 1)).trans (decide_eq_false (by have:=h1; unfold oc at this; omega))) ?_
 refine qas [(0,.v (.slice A s.length c)),(4,.v (.int .u32 (zU (zB 32 (zU (IntKind.u8.wrap (zB 8 ((s.getD 0 0).toNat:Int) &&& zB 8 127).toNat)) ||| zB 32 (zU ((zU (IntKind.u8.wrap (zB 8 ((s.getD 1 0).toNat:Int) &&& zB 8 127).toNat)) * 128))).toNat))),(39,.v (.bool (decide (((s.length:Nat):Int) < 3))))] hW ai fun bq aj=>?_
 refine qan aj (b:=decide (((s.length:Nat):Int) < 3)) kz (decide_eq_false (by omega)) ?_
 refine wp_skip (qab (qaf [0,1,2,3,4,5,6,7,8] kz ?_))
 refine qai [0,1] [2,3,4,5,6,7,8] [(0,.v (.slice A s.length c)),(40,.v (.int .u32 (zU (zB 32 (zU (IntKind.u8.wrap (zB 8 ((s.getD 0 0).toNat:Int) &&& zB 8 127).toNat)) ||| zB 32 (zU ((zU (IntKind.u8.wrap (zB 8 ((s.getD 1 0).toNat:Int) &&& zB 8 127).toNat)) * 128))).toNat))),(41,.v (.slice A s.length c))] hW aj fun bt aE=>?_
 obtain ⟨aQ,aR,ak,aU,ac⟩:=Slots.get ho (i:=2) (by first | omega | (simp only [List.length_append,be_length,List.length_cons,List.length_nil] at *; omega))
 refine qal (qax aE (t:=22) (A:=A) (m:=s.length) (q:=2) (d:=42) kz (e:=5) (size:=1) (bytes:=1) (j:=2) kz ak rfl (by first | omega | (simp only [List.length_append,be_length,List.length_cons,List.length_nil] at *; omega)) fun bu aF=>?_)
 refine qal (qaU aF (t:=5) (b:=aQ) (o:=aR + 2 * 1) (d:=43) kz (cs:=[.int .u8 ((s.getD 2 0).toNat:Int)]) (v:=.int .u8 ((s.getD 2 0).toNat:Int)) kz (AtF.move ac hW.step nilM qa9).at_ fun bw aG=>?_)
 refine qai [4,5,6,7,8] [] [(0,.v (.slice A s.length c)),(4,.v (.int .u32 (zU (zB 32 (zU (zB 32 (zU (IntKind.u8.wrap (zB 8 ((s.getD 0 0).toNat:Int) &&& zB 8 127).toNat)) ||| zB 32 (zU ((zU (IntKind.u8.wrap (zB 8 ((s.getD 1 0).toNat:Int) &&& zB 8 127).toNat)) * 128))).toNat) ||| zB 32 (zU ((zU (IntKind.u8.wrap (zB 8 ((s.getD 2 0).toNat:Int) &&& zB 8 127).toNat)) * 16384))).toNat)))] hW aG fun bx aH=>?_
 refine qae (qab ?_)
 refine wp_seq (qaf [0,1,2,3,4] kz ?_)
 refine qai [0] [1,2,3,4] [(0,.v (.slice A s.length c)),(4,.v (.int .u32 (zU (zB 32 (zU (zB 32 (zU (IntKind.u8.wrap (zB 8 ((s.getD 0 0).toNat:Int) &&& zB 8 127).toNat)) ||| zB 32 (zU ((zU (IntKind.u8.wrap (zB 8 ((s.getD 1 0).toNat:Int) &&& zB 8 127).toNat)) * 128))).toNat) ||| zB 32 (zU ((zU (IntKind.u8.wrap (zB 8 ((s.getD 2 0).toNat:Int) &&& zB 8 127).toNat)) * 16384))).toNat))),(48,.v (.slice A s.length c))] hW aH fun bz aI=>?_
 refine qal (qax aI (t:=22) (A:=A) (m:=s.length) (q:=2) (d:=49) kz (e:=5) (size:=1) (bytes:=1) (j:=2) kz ak rfl (by first | omega | (simp only [List.length_append,be_length,List.length_cons,List.length_nil] at *; omega)) fun bA aJ=>?_)
 refine qal (qaU aJ (t:=5) (b:=aQ) (o:=aR + 2 * 1) (d:=50) kz (cs:=[.int .u8 ((s.getD 2 0).toNat:Int)]) (v:=.int .u8 ((s.getD 2 0).toNat:Int)) kz (AtF.move ac hW.step nilM qa9).at_ fun bB aK=>?_)
 refine qai [3,4] [] [(0,.v (.slice A s.length c)),(4,.v (.int .u32 (zU (zB 32 (zU (zB 32 (zU (IntKind.u8.wrap (zB 8 ((s.getD 0 0).toNat:Int) &&& zB 8 127).toNat)) ||| zB 32 (zU ((zU (IntKind.u8.wrap (zB 8 ((s.getD 1 0).toNat:Int) &&& zB 8 127).toNat)) * 128))).toNat) ||| zB 32 (zU ((zU (IntKind.u8.wrap (zB 8 ((s.getD 2 0).toNat:Int) &&& zB 8 127).toNat)) * 16384))).toNat))),(52,.v (.bool ((IntKind.u8.wrap (zB 8 ((s.getD 2 0).toNat:Int) &&& zB 8 128).toNat) == 0)))] hW aK fun bC al=>?_
 refine qae (qab ?_)
 refine qa7 al (b:=(IntKind.u8.wrap (zB 8 ((s.getD 2 0).toNat:Int) &&& zB 8 128).toNat) == 0) kz ((qdj _ (qb1 s 2)).trans (decide_eq_true (by have:=h2; unfold oc at this; omega))) ?_
 refine qas [(2,.v (.int .u32 (zU (zB 32 (zU (zB 32 (zU (IntKind.u8.wrap (zB 8 ((s.getD 0 0).toNat:Int) &&& zB 8 127).toNat)) ||| zB 32 (zU ((zU (IntKind.u8.wrap (zB 8 ((s.getD 1 0).toNat:Int) &&& zB 8 127).toNat)) * 128))).toNat) ||| zB 32 (zU ((zU (IntKind.u8.wrap (zB 8 ((s.getD 2 0).toNat:Int) &&& zB 8 127).toNat)) * 16384))).toNat))),(3,.v (.int .i64 3))] hW al fun bD aL=>?_
 refine wp_ret (qat (qdO (qaM aL hW.cells (v:=.tuple #[.int .u32 (zU (zB 32 (zU (zB 32 (zU (IntKind.u8.wrap (zB 8 ((s.getD 0 0).toNat:Int) &&& zB 8 127).toNat)) ||| zB 32 (zU ((zU (IntKind.u8.wrap (zB 8 ((s.getD 1 0).toNat:Int) &&& zB 8 127).toNat)) * 128))).toNat) ||| zB 32 (zU ((zU (IntKind.u8.wrap (zB 8 ((s.getD 2 0).toNat:Int) &&& zB 8 127).toNat)) * 16384))).toNat),.int .i64 3]) kz ?_)))
 have e_:=uv_3 (oc s 0) (oc s 1) (oc s 2) (qb1 s 0) (qb1 s 1) (qb1 s 2)
 refine ⟨congrArg (fun z_:Int=>Ending.returned (.tuple #[.int .u32 z_,.int .i64 3])) (Eq.trans e_ ?_),hW.step⟩
 omega
theorem rUv4 {A:Option Addr} {c:Nat} (s:Bs) {w:World} {F:Nat → Nat → Prop} (ho:Octs w F A c s) (hl:4 ≤ s.length) (d0 d1 d2 d3:Nat) (h0:oc s 0 = d0 + 128) (h1:oc s 1 = d1 + 128) (h2:oc s 2 = d2 + 128) (h3:oc s 3 = d3) (g0:d0 < 128) (g1:d1 < 128) (g2:d2 < 128) (g3:d3 < 128) :
  Calls Tryz.prog 145 #[.slice A s.length c] w (qcs w (.tuple #[.int .u32 ((d0 + d1 * 128 + d2 * 16384 + d3 * 2097152:Nat):Int),.int .i64 4])):=by
 refine enter (n:=87) Tryz.func145 rfl Tryz.ntmps145 kz fun a hE=>?_
 have hW:=WOk.start w Nil
 refine qas (z67 A s.length c) hW hE fun a1 hE2=>?_
 refine wp_scope_straight (qas (z67 A s.length c) hW hE2 fun a3 hE4=>?_)
 refine qas (z67 A s.length c) hW hE4 fun a5 hE6=>?_
 refine wp_seq (qas [(0,.v (.slice A s.length c)),(8,.v (.bool (decide (((s.length:Nat):Int) < 1))))] hW hE6 fun a7 hE8=>?_)
 refine qan hE8 (b:=decide (((s.length:Nat):Int) < 1)) kz (decide_eq_false (by omega)) ?_
 refine wp_skip (qab (qaf [0,1,2,3,4,5] kz ?_))
 refine qai [0] [1,2,3,4,5] (z76 A s.length c) hW hE8 fun a9 av=>?_
 obtain ⟨aX,aY,af,bi,aa⟩:=Slots.get ho (i:=0) (by first | omega | (simp only [List.length_append,be_length,List.length_cons,List.length_nil] at *; omega))
 refine qal (qax av (t:=22) (A:=A) (m:=s.length) (q:=0) (d:=10) kz (e:=5) (size:=1) (bytes:=1) (j:=0) kz af rfl (by first | omega | (simp only [List.length_append,be_length,List.length_cons,List.length_nil] at *; omega)) fun bo aw=>?_)
 refine qal (qaU aw (t:=5) (b:=aX) (o:=aY + 0 * 1) (d:=11) kz (cs:=[.int .u8 ((s.getD 0 0).toNat:Int)]) (v:=.int .u8 ((s.getD 0 0).toNat:Int)) kz (AtF.move aa hW.step nilM qa9).at_ fun bp ax=>?_)
 refine qai [3,4,5] [] [(0,.v (.slice A s.length c)),(4,.v (.int .u32 (zU (IntKind.u8.wrap (zB 8 ((s.getD 0 0).toNat:Int) &&& zB 8 127).toNat))))] hW ax fun bq ay=>?_
 refine qae (qab ?_)
 refine wp_seq (qaf [0,1,2,3,4] kz ?_)
 refine qai [0] [1,2,3,4] [(0,.v (.slice A s.length c)),(4,.v (.int .u32 (zU (IntKind.u8.wrap (zB 8 ((s.getD 0 0).toNat:Int) &&& zB 8 127).toNat)))),(14,.v (.slice A s.length c))] hW ay fun bt az=>?_
 refine qal (qax az (t:=22) (A:=A) (m:=s.length) (q:=0) (d:=15) kz (e:=5) (size:=1) (bytes:=1) (j:=0) kz af rfl (by first | omega | (simp only [List.length_append,be_length,List.length_cons,List.length_nil] at *; omega)) fun bu aA=>?_)
 refine qal (qaU aA (t:=5) (b:=aX) (o:=aY + 0 * 1) (d:=16) kz (cs:=[.int .u8 ((s.getD 0 0).toNat:Int)]) (v:=.int .u8 ((s.getD 0 0).toNat:Int)) kz (AtF.move aa hW.step nilM qa9).at_ fun bw aB=>?_)
 refine qai [3,4] [] [(0,.v (.slice A s.length c)),(4,.v (.int .u32 (zU (IntKind.u8.wrap (zB 8 ((s.getD 0 0).toNat:Int) &&& zB 8 127).toNat)))),(18,.v (.bool ((IntKind.u8.wrap (zB 8 ((s.getD 0 0).toNat:Int) &&& zB 8 128).toNat) == 0)))] hW aB fun bx ag=>?_
 refine qae (qab ?_)
 refine qan ag (b:=(IntKind.u8.wrap (zB 8 ((s.getD 0 0).toNat:Int) &&& zB 8 128).toNat) == 0) kz ((qdj _ (qb1 s 0)).trans (decide_eq_false (by have:=h0; unfold oc at this; omega))) ?_
 refine qas [(0,.v (.slice A s.length c)),(4,.v (.int .u32 (zU (IntKind.u8.wrap (zB 8 ((s.getD 0 0).toNat:Int) &&& zB 8 127).toNat)))),(22,.v (.bool (decide (((s.length:Nat):Int) < 2))))] hW ag fun bz ah=>?_
 refine qan ah (b:=decide (((s.length:Nat):Int) < 2)) kz (decide_eq_false (by omega)) ?_
 refine wp_skip (qab (qaf [0,1,2,3,4,5,6,7,8] kz ?_))
 refine qai [0,1] [2,3,4,5,6,7,8] [(0,.v (.slice A s.length c)),(23,.v (.int .u32 (zU (IntKind.u8.wrap (zB 8 ((s.getD 0 0).toNat:Int) &&& zB 8 127).toNat)))),(24,.v (.slice A s.length c))] hW ah fun bA aC=>?_
 obtain ⟨aZ,ba,ai,bj,ab⟩:=Slots.get ho (i:=1) (by first | omega | (simp only [List.length_append,be_length,List.length_cons,List.length_nil] at *; omega))
 refine qal (qax aC (t:=22) (A:=A) (m:=s.length) (q:=1) (d:=25) kz (e:=5) (size:=1) (bytes:=1) (j:=1) kz ai rfl (by first | omega | (simp only [List.length_append,be_length,List.length_cons,List.length_nil] at *; omega)) fun bB aD=>?_)
 refine qal (qaU aD (t:=5) (b:=aZ) (o:=ba + 1 * 1) (d:=26) kz (cs:=[.int .u8 ((s.getD 1 0).toNat:Int)]) (v:=.int .u8 ((s.getD 1 0).toNat:Int)) kz (AtF.move ab hW.step nilM qa9).at_ fun bC aE=>?_)
 refine qai [4,5,6,7,8] [] [(0,.v (.slice A s.length c)),(4,.v (.int .u32 (zU (zB 32 (zU (IntKind.u8.wrap (zB 8 ((s.getD 0 0).toNat:Int) &&& zB 8 127).toNat)) ||| zB 32 (zU ((zU (IntKind.u8.wrap (zB 8 ((s.getD 1 0).toNat:Int) &&& zB 8 127).toNat)) * 128))).toNat)))] hW aE fun bD aF=>?_
 refine qae (qab ?_)
 refine wp_seq (qaf [0,1,2,3,4] kz ?_)
 refine qai [0] [1,2,3,4] [(0,.v (.slice A s.length c)),(4,.v (.int .u32 (zU (zB 32 (zU (IntKind.u8.wrap (zB 8 ((s.getD 0 0).toNat:Int) &&& zB 8 127).toNat)) ||| zB 32 (zU ((zU (IntKind.u8.wrap (zB 8 ((s.getD 1 0).toNat:Int) &&& zB 8 127).toNat)) * 128))).toNat))),(31,.v (.slice A s.length c))] hW aF fun bE aG=>?_
 refine qal (qax aG (t:=22) (A:=A) (m:=s.length) (q:=1) (d:=32) kz (e:=5) (size:=1) (bytes:=1) (j:=1) kz ai rfl (by first | omega | (simp only [List.length_append,be_length,List.length_cons,List.length_nil] at *; omega)) fun bF aH=>?_)
 refine qal (qaU aH (t:=5) (b:=aZ) (o:=ba + 1 * 1) (d:=33) kz (cs:=[.int .u8 ((s.getD 1 0).toNat:Int)]) (v:=.int .u8 ((s.getD 1 0).toNat:Int)) kz (AtF.move ab hW.step nilM qa9).at_ fun bG aI=>?_)
 refine qai [3,4] [] [(0,.v (.slice A s.length c)),(4,.v (.int .u32 (zU (zB 32 (zU (IntKind.u8.wrap (zB 8 ((s.getD 0 0).toNat:Int) &&& zB 8 127).toNat)) ||| zB 32 (zU ((zU (IntKind.u8.wrap (zB 8 ((s.getD 1 0).toNat:Int) &&& zB 8 127).toNat)) * 128))).toNat))),(35,.v (.bool ((IntKind.u8.wrap (zB 8 ((s.getD 1 0).toNat:Int) &&& zB 8 128).toNat) == 0)))] hW aI fun bH aj=>?_
 refine qae (qab ?_)
 refine qan aj (b:=(IntKind.u8.wrap (zB 8 ((s.getD 1 0).toNat:Int) &&& zB 8 128).toNat) == 0) kz ((qdj _ (qb1 s 1)).trans (decide_eq_false (by have:=h1; unfold oc at this; omega))) ?_
 refine qas [(0,.v (.slice A s.length c)),(4,.v (.int .u32 (zU (zB 32 (zU (IntKind.u8.wrap (zB 8 ((s.getD 0 0).toNat:Int) &&& zB 8 127).toNat)) ||| zB 32 (zU ((zU (IntKind.u8.wrap (zB 8 ((s.getD 1 0).toNat:Int) &&& zB 8 127).toNat)) * 128))).toNat))),(39,.v (.bool (decide (((s.length:Nat):Int) < 3))))] hW aj fun bI ak=>?_
 refine qan ak (b:=decide (((s.length:Nat):Int) < 3)) kz (decide_eq_false (by omega)) ?_
 refine wp_skip (qab (qaf [0,1,2,3,4,5,6,7,8] kz ?_))
 refine qai [0,1] [2,3,4,5,6,7,8] [(0,.v (.slice A s.length c)),(40,.v (.int .u32 (zU (zB 32 (zU (IntKind.u8.wrap (zB 8 ((s.getD 0 0).toNat:Int) &&& zB 8 127).toNat)) ||| zB 32 (zU ((zU (IntKind.u8.wrap (zB 8 ((s.getD 1 0).toNat:Int) &&& zB 8 127).toNat)) * 128))).toNat))),(41,.v (.slice A s.length c))] hW ak fun bJ aJ=>?_
 obtain ⟨bd,bf,al,bk,ac⟩:=Slots.get ho (i:=2) (by first | omega | (simp only [List.length_append,be_length,List.length_cons,List.length_nil] at *; omega))
 refine qal (qax aJ (t:=22) (A:=A) (m:=s.length) (q:=2) (d:=42) kz (e:=5) (size:=1) (bytes:=1) (j:=2) kz al rfl (by first | omega | (simp only [List.length_append,be_length,List.length_cons,List.length_nil] at *; omega)) fun bK aK=>?_)
 refine qal (qaU aK (t:=5) (b:=bd) (o:=bf + 2 * 1) (d:=43) kz (cs:=[.int .u8 ((s.getD 2 0).toNat:Int)]) (v:=.int .u8 ((s.getD 2 0).toNat:Int)) kz (AtF.move ac hW.step nilM qa9).at_ fun bL aL=>?_)
 refine qai [4,5,6,7,8] [] [(0,.v (.slice A s.length c)),(4,.v (.int .u32 (zU (zB 32 (zU (zB 32 (zU (IntKind.u8.wrap (zB 8 ((s.getD 0 0).toNat:Int) &&& zB 8 127).toNat)) ||| zB 32 (zU ((zU (IntKind.u8.wrap (zB 8 ((s.getD 1 0).toNat:Int) &&& zB 8 127).toNat)) * 128))).toNat) ||| zB 32 (zU ((zU (IntKind.u8.wrap (zB 8 ((s.getD 2 0).toNat:Int) &&& zB 8 127).toNat)) * 16384))).toNat)))] hW aL fun bM aM=>?_
 refine qae (qab ?_)
 refine wp_seq (qaf [0,1,2,3,4] kz ?_)
 refine qai [0] [1,2,3,4] [(0,.v (.slice A s.length c)),(4,.v (.int .u32 (zU (zB 32 (zU (zB 32 (zU (IntKind.u8.wrap (zB 8 ((s.getD 0 0).toNat:Int) &&& zB 8 127).toNat)) ||| zB 32 (zU ((zU (IntKind.u8.wrap (zB 8 ((s.getD 1 0).toNat:Int) &&& zB 8 127).toNat)) * 128))).toNat) ||| zB 32 (zU ((zU (IntKind.u8.wrap (zB 8 ((s.getD 2 0).toNat:Int) &&& zB 8 127).toNat)) * 16384))).toNat))),(48,.v (.slice A s.length c))] hW aM fun bN aN=>?_
 refine qal (qax aN (t:=22) (A:=A) (m:=s.length) (q:=2) (d:=49) kz (e:=5) (size:=1) (bytes:=1) (j:=2) kz al rfl (by first | omega | (simp only [List.length_append,be_length,List.length_cons,List.length_nil] at *; omega)) fun bO aO=>?_)
 refine qal (qaU aO (t:=5) (b:=bd) (o:=bf + 2 * 1) (d:=50) kz (cs:=[.int .u8 ((s.getD 2 0).toNat:Int)]) (v:=.int .u8 ((s.getD 2 0).toNat:Int)) kz (AtF.move ac hW.step nilM qa9).at_ fun bP aP=>?_)
 refine qai [3,4] [] [(0,.v (.slice A s.length c)),(4,.v (.int .u32 (zU (zB 32 (zU (zB 32 (zU (IntKind.u8.wrap (zB 8 ((s.getD 0 0).toNat:Int) &&& zB 8 127).toNat)) ||| zB 32 (zU ((zU (IntKind.u8.wrap (zB 8 ((s.getD 1 0).toNat:Int) &&& zB 8 127).toNat)) * 128))).toNat) ||| zB 32 (zU ((zU (IntKind.u8.wrap (zB 8 ((s.getD 2 0).toNat:Int) &&& zB 8 127).toNat)) * 16384))).toNat))),(52,.v (.bool ((IntKind.u8.wrap (zB 8 ((s.getD 2 0).toNat:Int) &&& zB 8 128).toNat) == 0)))] hW aP fun bQ am=>?_
 refine qae (qab ?_)
 refine qan am (b:=(IntKind.u8.wrap (zB 8 ((s.getD 2 0).toNat:Int) &&& zB 8 128).toNat) == 0) kz ((qdj _ (qb1 s 2)).trans (decide_eq_false (by have:=h2; unfold oc at this; omega))) ?_
 refine qas [(0,.v (.slice A s.length c)),(4,.v (.int .u32 (zU (zB 32 (zU (zB 32 (zU (IntKind.u8.wrap (zB 8 ((s.getD 0 0).toNat:Int) &&& zB 8 127).toNat)) ||| zB 32 (zU ((zU (IntKind.u8.wrap (zB 8 ((s.getD 1 0).toNat:Int) &&& zB 8 127).toNat)) * 128))).toNat) ||| zB 32 (zU ((zU (IntKind.u8.wrap (zB 8 ((s.getD 2 0).toNat:Int) &&& zB 8 127).toNat)) * 16384))).toNat))),(56,.v (.bool (decide (((s.length:Nat):Int) < 4))))] hW am fun bR ao=>?_
 refine qan ao (b:=decide (((s.length:Nat):Int) < 4)) kz (decide_eq_false (by omega)) ?_
 refine wp_skip (qab (qaf [0,1,2,3,4,5,6,7,8] kz ?_))
 refine qai [0,1] [2,3,4,5,6,7,8] [(0,.v (.slice A s.length c)),(57,.v (.int .u32 (zU (zB 32 (zU (zB 32 (zU (IntKind.u8.wrap (zB 8 ((s.getD 0 0).toNat:Int) &&& zB 8 127).toNat)) ||| zB 32 (zU ((zU (IntKind.u8.wrap (zB 8 ((s.getD 1 0).toNat:Int) &&& zB 8 127).toNat)) * 128))).toNat) ||| zB 32 (zU ((zU (IntKind.u8.wrap (zB 8 ((s.getD 2 0).toNat:Int) &&& zB 8 127).toNat)) * 16384))).toNat))),(58,.v (.slice A s.length c))] hW ao fun bS aQ=>?_
 obtain ⟨bg,bh,ap,bn,ae⟩:=Slots.get ho (i:=3) (by first | omega | (simp only [List.length_append,be_length,List.length_cons,List.length_nil] at *; omega))
 refine qal (qax aQ (t:=22) (A:=A) (m:=s.length) (q:=3) (d:=59) kz (e:=5) (size:=1) (bytes:=1) (j:=3) kz ap rfl (by first | omega | (simp only [List.length_append,be_length,List.length_cons,List.length_nil] at *; omega)) fun bT aR=>?_)
 refine qal (qaU aR (t:=5) (b:=bg) (o:=bh + 3 * 1) (d:=60) kz (cs:=[.int .u8 ((s.getD 3 0).toNat:Int)]) (v:=.int .u8 ((s.getD 3 0).toNat:Int)) kz (AtF.move ae hW.step nilM qa9).at_ fun bU aS=>?_)
 refine qai [4,5,6,7,8] [] [(0,.v (.slice A s.length c)),(4,.v (.int .u32 (zU (zB 32 (zU (zB 32 (zU (zB 32 (zU (IntKind.u8.wrap (zB 8 ((s.getD 0 0).toNat:Int) &&& zB 8 127).toNat)) ||| zB 32 (zU ((zU (IntKind.u8.wrap (zB 8 ((s.getD 1 0).toNat:Int) &&& zB 8 127).toNat)) * 128))).toNat) ||| zB 32 (zU ((zU (IntKind.u8.wrap (zB 8 ((s.getD 2 0).toNat:Int) &&& zB 8 127).toNat)) * 16384))).toNat) ||| zB 32 (zU ((zU (IntKind.u8.wrap (zB 8 ((s.getD 3 0).toNat:Int) &&& zB 8 127).toNat)) * 2097152))).toNat)))] hW aS fun bV aT=>?_
 refine qae (qab ?_)
 refine wp_seq (qaf [0,1,2,3,4] kz ?_)
 refine qai [0] [1,2,3,4] [(0,.v (.slice A s.length c)),(4,.v (.int .u32 (zU (zB 32 (zU (zB 32 (zU (zB 32 (zU (IntKind.u8.wrap (zB 8 ((s.getD 0 0).toNat:Int) &&& zB 8 127).toNat)) ||| zB 32 (zU ((zU (IntKind.u8.wrap (zB 8 ((s.getD 1 0).toNat:Int) &&& zB 8 127).toNat)) * 128))).toNat) ||| zB 32 (zU ((zU (IntKind.u8.wrap (zB 8 ((s.getD 2 0).toNat:Int) &&& zB 8 127).toNat)) * 16384))).toNat) ||| zB 32 (zU ((zU (IntKind.u8.wrap (zB 8 ((s.getD 3 0).toNat:Int) &&& zB 8 127).toNat)) * 2097152))).toNat))),(65,.v (.slice A s.length c))] hW aT fun bW aU=>?_
 refine qal (qax aU (t:=22) (A:=A) (m:=s.length) (q:=3) (d:=66) kz (e:=5) (size:=1) (bytes:=1) (j:=3) kz ap rfl (by first | omega | (simp only [List.length_append,be_length,List.length_cons,List.length_nil] at *; omega)) fun bX aV=>?_)
 refine qal (qaU aV (t:=5) (b:=bg) (o:=bh + 3 * 1) (d:=67) kz (cs:=[.int .u8 ((s.getD 3 0).toNat:Int)]) (v:=.int .u8 ((s.getD 3 0).toNat:Int)) kz (AtF.move ae hW.step nilM qa9).at_ fun bY aW=>?_)
 refine qai [3,4] [] [(0,.v (.slice A s.length c)),(4,.v (.int .u32 (zU (zB 32 (zU (zB 32 (zU (zB 32 (zU (IntKind.u8.wrap (zB 8 ((s.getD 0 0).toNat:Int) &&& zB 8 127).toNat)) ||| zB 32 (zU ((zU (IntKind.u8.wrap (zB 8 ((s.getD 1 0).toNat:Int) &&& zB 8 127).toNat)) * 128))).toNat) ||| zB 32 (zU ((zU (IntKind.u8.wrap (zB 8 ((s.getD 2 0).toNat:Int) &&& zB 8 127).toNat)) * 16384))).toNat) ||| zB 32 (zU ((zU (IntKind.u8.wrap (zB 8 ((s.getD 3 0).toNat:Int) &&& zB 8 127).toNat)) * 2097152))).toNat))),(69,.v (.bool ((IntKind.u8.wrap (zB 8 ((s.getD 3 0).toNat:Int) &&& zB 8 128).toNat) == 0)))] hW aW fun bZ ar=>?_
 refine qae (qab ?_)
 refine qa7 ar (b:=(IntKind.u8.wrap (zB 8 ((s.getD 3 0).toNat:Int) &&& zB 8 128).toNat) == 0) kz ((qdj _ (qb1 s 3)).trans (decide_eq_true (by have:=h3; unfold oc at this; omega))) ?_
 refine qas [(2,.v (.int .u32 (zU (zB 32 (zU (zB 32 (zU (zB 32 (zU (IntKind.u8.wrap (zB 8 ((s.getD 0 0).toNat:Int) &&& zB 8 127).toNat)) ||| zB 32 (zU ((zU (IntKind.u8.wrap (zB 8 ((s.getD 1 0).toNat:Int) &&& zB 8 127).toNat)) * 128))).toNat) ||| zB 32 (zU ((zU (IntKind.u8.wrap (zB 8 ((s.getD 2 0).toNat:Int) &&& zB 8 127).toNat)) * 16384))).toNat) ||| zB 32 (zU ((zU (IntKind.u8.wrap (zB 8 ((s.getD 3 0).toNat:Int) &&& zB 8 127).toNat)) * 2097152))).toNat))),(3,.v (.int .i64 4))] hW ar fun b8 au=>?_
 refine wp_ret (qat (qdO (qaM au hW.cells (v:=.tuple #[.int .u32 (zU (zB 32 (zU (zB 32 (zU (zB 32 (zU (IntKind.u8.wrap (zB 8 ((s.getD 0 0).toNat:Int) &&& zB 8 127).toNat)) ||| zB 32 (zU ((zU (IntKind.u8.wrap (zB 8 ((s.getD 1 0).toNat:Int) &&& zB 8 127).toNat)) * 128))).toNat) ||| zB 32 (zU ((zU (IntKind.u8.wrap (zB 8 ((s.getD 2 0).toNat:Int) &&& zB 8 127).toNat)) * 16384))).toNat) ||| zB 32 (zU ((zU (IntKind.u8.wrap (zB 8 ((s.getD 3 0).toNat:Int) &&& zB 8 127).toNat)) * 2097152))).toNat),.int .i64 4]) kz ?_)))
 have e_:=uv_4 (oc s 0) (oc s 1) (oc s 2) (oc s 3) (qb1 s 0) (qb1 s 1) (qb1 s 2) (qb1 s 3)
 refine ⟨congrArg (fun z_:Int=>Ending.returned (.tuple #[.int .u32 z_,.int .i64 4])) (Eq.trans e_ ?_),hW.step⟩
 omega
theorem rUv5 {A:Option Addr} {c:Nat} (s:Bs) {w:World} {F:Nat → Nat → Prop} (ho:Octs w F A c s) (hl:5 ≤ s.length) (d0 d1 d2 d3 d4:Nat) (h0:oc s 0 = d0 + 128) (h1:oc s 1 = d1 + 128) (h2:oc s 2 = d2 + 128) (h3:oc s 3 = d3 + 128) (h4:oc s 4 = d4) (g0:d0 < 128) (g1:d1 < 128) (g2:d2 < 128) (g3:d3 < 128) (g4:d4 < 16) :
  Calls Tryz.prog 145 #[.slice A s.length c] w (qcs w (.tuple #[.int .u32 ((d0 + d1 * 128 + d2 * 16384 + d3 * 2097152 + d4 * 268435456:Nat):Int),.int .i64 5])):=by
 refine enter (n:=87) Tryz.func145 rfl Tryz.ntmps145 kz fun a hE=>?_
 have hW:=WOk.start w Nil
 refine qas (z67 A s.length c) hW hE fun a1 hE2=>?_
 refine wp_scope_straight (qas (z67 A s.length c) hW hE2 fun a3 hE4=>?_)
 refine qas (z67 A s.length c) hW hE4 fun a5 hE6=>?_
 refine wp_seq (qas [(0,.v (.slice A s.length c)),(8,.v (.bool (decide (((s.length:Nat):Int) < 1))))] hW hE6 fun a7 hE8=>?_)
 refine qan hE8 (b:=decide (((s.length:Nat):Int) < 1)) kz (decide_eq_false (by omega)) ?_
 refine wp_skip (qab (qaf [0,1,2,3,4,5] kz ?_))
 refine qai [0] [1,2,3,4,5] (z76 A s.length c) hW hE8 fun a9 aI=>?_
 obtain ⟨bp,bq,aj,bC,ab⟩:=Slots.get ho (i:=0) (by first | omega | (simp only [List.length_append,be_length,List.length_cons,List.length_nil] at *; omega))
 refine qal (qax aI (t:=22) (A:=A) (m:=s.length) (q:=0) (d:=10) kz (e:=5) (size:=1) (bytes:=1) (j:=0) kz aj rfl (by first | omega | (simp only [List.length_append,be_length,List.length_cons,List.length_nil] at *; omega)) fun bP aJ=>?_)
 refine qal (qaU aJ (t:=5) (b:=bp) (o:=bq + 0 * 1) (d:=11) kz (cs:=[.int .u8 ((s.getD 0 0).toNat:Int)]) (v:=.int .u8 ((s.getD 0 0).toNat:Int)) kz (AtF.move ab hW.step nilM qa9).at_ fun bQ aK=>?_)
 refine qai [3,4,5] [] [(0,.v (.slice A s.length c)),(4,.v (.int .u32 (zU (IntKind.u8.wrap (zB 8 ((s.getD 0 0).toNat:Int) &&& zB 8 127).toNat))))] hW aK fun bR aL=>?_
 refine qae (qab ?_)
 refine wp_seq (qaf [0,1,2,3,4] kz ?_)
 refine qai [0] [1,2,3,4] [(0,.v (.slice A s.length c)),(4,.v (.int .u32 (zU (IntKind.u8.wrap (zB 8 ((s.getD 0 0).toNat:Int) &&& zB 8 127).toNat)))),(14,.v (.slice A s.length c))] hW aL fun bS aM=>?_
 refine qal (qax aM (t:=22) (A:=A) (m:=s.length) (q:=0) (d:=15) kz (e:=5) (size:=1) (bytes:=1) (j:=0) kz aj rfl (by first | omega | (simp only [List.length_append,be_length,List.length_cons,List.length_nil] at *; omega)) fun bT aN=>?_)
 refine qal (qaU aN (t:=5) (b:=bp) (o:=bq + 0 * 1) (d:=16) kz (cs:=[.int .u8 ((s.getD 0 0).toNat:Int)]) (v:=.int .u8 ((s.getD 0 0).toNat:Int)) kz (AtF.move ab hW.step nilM qa9).at_ fun bU aO=>?_)
 refine qai [3,4] [] [(0,.v (.slice A s.length c)),(4,.v (.int .u32 (zU (IntKind.u8.wrap (zB 8 ((s.getD 0 0).toNat:Int) &&& zB 8 127).toNat)))),(18,.v (.bool ((IntKind.u8.wrap (zB 8 ((s.getD 0 0).toNat:Int) &&& zB 8 128).toNat) == 0)))] hW aO fun bV ak=>?_
 refine qae (qab ?_)
 refine qan ak (b:=(IntKind.u8.wrap (zB 8 ((s.getD 0 0).toNat:Int) &&& zB 8 128).toNat) == 0) kz ((qdj _ (qb1 s 0)).trans (decide_eq_false (by have:=h0; unfold oc at this; omega))) ?_
 refine qas [(0,.v (.slice A s.length c)),(4,.v (.int .u32 (zU (IntKind.u8.wrap (zB 8 ((s.getD 0 0).toNat:Int) &&& zB 8 127).toNat)))),(22,.v (.bool (decide (((s.length:Nat):Int) < 2))))] hW ak fun bW al=>?_
 refine qan al (b:=decide (((s.length:Nat):Int) < 2)) kz (decide_eq_false (by omega)) ?_
 refine wp_skip (qab (qaf [0,1,2,3,4,5,6,7,8] kz ?_))
 refine qai [0,1] [2,3,4,5,6,7,8] [(0,.v (.slice A s.length c)),(23,.v (.int .u32 (zU (IntKind.u8.wrap (zB 8 ((s.getD 0 0).toNat:Int) &&& zB 8 127).toNat)))),(24,.v (.slice A s.length c))] hW al fun bX aP=>?_
 obtain ⟨bt,bu,am,bD,ac⟩:=Slots.get ho (i:=1) (by first | omega | (simp only [List.length_append,be_length,List.length_cons,List.length_nil] at *; omega))
 refine qal (qax aP (t:=22) (A:=A) (m:=s.length) (q:=1) (d:=25) kz (e:=5) (size:=1) (bytes:=1) (j:=1) kz am rfl (by first | omega | (simp only [List.length_append,be_length,List.length_cons,List.length_nil] at *; omega)) fun bY aQ=>?_)
 refine qal (qaU aQ (t:=5) (b:=bt) (o:=bu + 1 * 1) (d:=26) kz (cs:=[.int .u8 ((s.getD 1 0).toNat:Int)]) (v:=.int .u8 ((s.getD 1 0).toNat:Int)) kz (AtF.move ac hW.step nilM qa9).at_ fun bZ aR=>?_)
 refine qai [4,5,6,7,8] [] [(0,.v (.slice A s.length c)),(4,.v (.int .u32 (zU (zB 32 (zU (IntKind.u8.wrap (zB 8 ((s.getD 0 0).toNat:Int) &&& zB 8 127).toNat)) ||| zB 32 (zU ((zU (IntKind.u8.wrap (zB 8 ((s.getD 1 0).toNat:Int) &&& zB 8 127).toNat)) * 128))).toNat)))] hW aR fun b8 aS=>?_
 refine qae (qab ?_)
 refine wp_seq (qaf [0,1,2,3,4] kz ?_)
 refine qai [0] [1,2,3,4] [(0,.v (.slice A s.length c)),(4,.v (.int .u32 (zU (zB 32 (zU (IntKind.u8.wrap (zB 8 ((s.getD 0 0).toNat:Int) &&& zB 8 127).toNat)) ||| zB 32 (zU ((zU (IntKind.u8.wrap (zB 8 ((s.getD 1 0).toNat:Int) &&& zB 8 127).toNat)) * 128))).toNat))),(31,.v (.slice A s.length c))] hW aS fun cd aT=>?_
 refine qal (qax aT (t:=22) (A:=A) (m:=s.length) (q:=1) (d:=32) kz (e:=5) (size:=1) (bytes:=1) (j:=1) kz am rfl (by first | omega | (simp only [List.length_append,be_length,List.length_cons,List.length_nil] at *; omega)) fun ce aU=>?_)
 refine qal (qaU aU (t:=5) (b:=bt) (o:=bu + 1 * 1) (d:=33) kz (cs:=[.int .u8 ((s.getD 1 0).toNat:Int)]) (v:=.int .u8 ((s.getD 1 0).toNat:Int)) kz (AtF.move ac hW.step nilM qa9).at_ fun cm aV=>?_)
 refine qai [3,4] [] [(0,.v (.slice A s.length c)),(4,.v (.int .u32 (zU (zB 32 (zU (IntKind.u8.wrap (zB 8 ((s.getD 0 0).toNat:Int) &&& zB 8 127).toNat)) ||| zB 32 (zU ((zU (IntKind.u8.wrap (zB 8 ((s.getD 1 0).toNat:Int) &&& zB 8 127).toNat)) * 128))).toNat))),(35,.v (.bool ((IntKind.u8.wrap (zB 8 ((s.getD 1 0).toNat:Int) &&& zB 8 128).toNat) == 0)))] hW aV fun cq ao=>?_
 refine qae (qab ?_)
 refine qan ao (b:=(IntKind.u8.wrap (zB 8 ((s.getD 1 0).toNat:Int) &&& zB 8 128).toNat) == 0) kz ((qdj _ (qb1 s 1)).trans (decide_eq_false (by have:=h1; unfold oc at this; omega))) ?_
 refine qas [(0,.v (.slice A s.length c)),(4,.v (.int .u32 (zU (zB 32 (zU (IntKind.u8.wrap (zB 8 ((s.getD 0 0).toNat:Int) &&& zB 8 127).toNat)) ||| zB 32 (zU ((zU (IntKind.u8.wrap (zB 8 ((s.getD 1 0).toNat:Int) &&& zB 8 127).toNat)) * 128))).toNat))),(39,.v (.bool (decide (((s.length:Nat):Int) < 3))))] hW ao fun cr ap=>?_
 refine qan ap (b:=decide (((s.length:Nat):Int) < 3)) kz (decide_eq_false (by omega)) ?_
 refine wp_skip (qab (qaf [0,1,2,3,4,5,6,7,8] kz ?_))
 refine qai [0,1] [2,3,4,5,6,7,8] [(0,.v (.slice A s.length c)),(40,.v (.int .u32 (zU (zB 32 (zU (IntKind.u8.wrap (zB 8 ((s.getD 0 0).toNat:Int) &&& zB 8 127).toNat)) ||| zB 32 (zU ((zU (IntKind.u8.wrap (zB 8 ((s.getD 1 0).toNat:Int) &&& zB 8 127).toNat)) * 128))).toNat))),(41,.v (.slice A s.length c))] hW ap fun cu aW=>?_
 obtain ⟨bw,bx,ar,bE,ae⟩:=Slots.get ho (i:=2) (by first | omega | (simp only [List.length_append,be_length,List.length_cons,List.length_nil] at *; omega))
 refine qal (qax aW (t:=22) (A:=A) (m:=s.length) (q:=2) (d:=42) kz (e:=5) (size:=1) (bytes:=1) (j:=2) kz ar rfl (by first | omega | (simp only [List.length_append,be_length,List.length_cons,List.length_nil] at *; omega)) fun cw aX=>?_)
 refine qal (qaU aX (t:=5) (b:=bw) (o:=bx + 2 * 1) (d:=43) kz (cs:=[.int .u8 ((s.getD 2 0).toNat:Int)]) (v:=.int .u8 ((s.getD 2 0).toNat:Int)) kz (AtF.move ae hW.step nilM qa9).at_ fun cz aY=>?_)
 refine qai [4,5,6,7,8] [] [(0,.v (.slice A s.length c)),(4,.v (.int .u32 (zU (zB 32 (zU (zB 32 (zU (IntKind.u8.wrap (zB 8 ((s.getD 0 0).toNat:Int) &&& zB 8 127).toNat)) ||| zB 32 (zU ((zU (IntKind.u8.wrap (zB 8 ((s.getD 1 0).toNat:Int) &&& zB 8 127).toNat)) * 128))).toNat) ||| zB 32 (zU ((zU (IntKind.u8.wrap (zB 8 ((s.getD 2 0).toNat:Int) &&& zB 8 127).toNat)) * 16384))).toNat)))] hW aY fun cA aZ=>?_
 refine qae (qab ?_)
 refine wp_seq (qaf [0,1,2,3,4] kz ?_)
 refine qai [0] [1,2,3,4] [(0,.v (.slice A s.length c)),(4,.v (.int .u32 (zU (zB 32 (zU (zB 32 (zU (IntKind.u8.wrap (zB 8 ((s.getD 0 0).toNat:Int) &&& zB 8 127).toNat)) ||| zB 32 (zU ((zU (IntKind.u8.wrap (zB 8 ((s.getD 1 0).toNat:Int) &&& zB 8 127).toNat)) * 128))).toNat) ||| zB 32 (zU ((zU (IntKind.u8.wrap (zB 8 ((s.getD 2 0).toNat:Int) &&& zB 8 127).toNat)) * 16384))).toNat))),(48,.v (.slice A s.length c))] hW aZ fun cB ba=>?_
 refine qal (qax ba (t:=22) (A:=A) (m:=s.length) (q:=2) (d:=49) kz (e:=5) (size:=1) (bytes:=1) (j:=2) kz ar rfl (by first | omega | (simp only [List.length_append,be_length,List.length_cons,List.length_nil] at *; omega)) fun cC bd=>?_)
 refine qal (qaU bd (t:=5) (b:=bw) (o:=bx + 2 * 1) (d:=50) kz (cs:=[.int .u8 ((s.getD 2 0).toNat:Int)]) (v:=.int .u8 ((s.getD 2 0).toNat:Int)) kz (AtF.move ae hW.step nilM qa9).at_ fun cD bf=>?_)
 refine qai [3,4] [] [(0,.v (.slice A s.length c)),(4,.v (.int .u32 (zU (zB 32 (zU (zB 32 (zU (IntKind.u8.wrap (zB 8 ((s.getD 0 0).toNat:Int) &&& zB 8 127).toNat)) ||| zB 32 (zU ((zU (IntKind.u8.wrap (zB 8 ((s.getD 1 0).toNat:Int) &&& zB 8 127).toNat)) * 128))).toNat) ||| zB 32 (zU ((zU (IntKind.u8.wrap (zB 8 ((s.getD 2 0).toNat:Int) &&& zB 8 127).toNat)) * 16384))).toNat))),(52,.v (.bool ((IntKind.u8.wrap (zB 8 ((s.getD 2 0).toNat:Int) &&& zB 8 128).toNat) == 0)))] hW bf fun cE au=>?_
 refine qae (qab ?_)
 refine qan au (b:=(IntKind.u8.wrap (zB 8 ((s.getD 2 0).toNat:Int) &&& zB 8 128).toNat) == 0) kz ((qdj _ (qb1 s 2)).trans (decide_eq_false (by have:=h2; unfold oc at this; omega))) ?_
 refine qas [(0,.v (.slice A s.length c)),(4,.v (.int .u32 (zU (zB 32 (zU (zB 32 (zU (IntKind.u8.wrap (zB 8 ((s.getD 0 0).toNat:Int) &&& zB 8 127).toNat)) ||| zB 32 (zU ((zU (IntKind.u8.wrap (zB 8 ((s.getD 1 0).toNat:Int) &&& zB 8 127).toNat)) * 128))).toNat) ||| zB 32 (zU ((zU (IntKind.u8.wrap (zB 8 ((s.getD 2 0).toNat:Int) &&& zB 8 127).toNat)) * 16384))).toNat))),(56,.v (.bool (decide (((s.length:Nat):Int) < 4))))] hW au fun cG av=>?_
 refine qan av (b:=decide (((s.length:Nat):Int) < 4)) kz (decide_eq_false (by omega)) ?_
 refine wp_skip (qab (qaf [0,1,2,3,4,5,6,7,8] kz ?_))
 refine qai [0,1] [2,3,4,5,6,7,8] [(0,.v (.slice A s.length c)),(57,.v (.int .u32 (zU (zB 32 (zU (zB 32 (zU (IntKind.u8.wrap (zB 8 ((s.getD 0 0).toNat:Int) &&& zB 8 127).toNat)) ||| zB 32 (zU ((zU (IntKind.u8.wrap (zB 8 ((s.getD 1 0).toNat:Int) &&& zB 8 127).toNat)) * 128))).toNat) ||| zB 32 (zU ((zU (IntKind.u8.wrap (zB 8 ((s.getD 2 0).toNat:Int) &&& zB 8 127).toNat)) * 16384))).toNat))),(58,.v (.slice A s.length c))] hW av fun cH bg=>?_
 obtain ⟨bz,bA,aw,bF,af⟩:=Slots.get ho (i:=3) (by first | omega | (simp only [List.length_append,be_length,List.length_cons,List.length_nil] at *; omega))
 refine qal (qax bg (t:=22) (A:=A) (m:=s.length) (q:=3) (d:=59) kz (e:=5) (size:=1) (bytes:=1) (j:=3) kz aw rfl (by first | omega | (simp only [List.length_append,be_length,List.length_cons,List.length_nil] at *; omega)) fun cI bh=>?_)
 refine qal (qaU bh (t:=5) (b:=bz) (o:=bA + 3 * 1) (d:=60) kz (cs:=[.int .u8 ((s.getD 3 0).toNat:Int)]) (v:=.int .u8 ((s.getD 3 0).toNat:Int)) kz (AtF.move af hW.step nilM qa9).at_ fun cJ bi=>?_)
 refine qai [4,5,6,7,8] [] [(0,.v (.slice A s.length c)),(4,.v (.int .u32 (zU (zB 32 (zU (zB 32 (zU (zB 32 (zU (IntKind.u8.wrap (zB 8 ((s.getD 0 0).toNat:Int) &&& zB 8 127).toNat)) ||| zB 32 (zU ((zU (IntKind.u8.wrap (zB 8 ((s.getD 1 0).toNat:Int) &&& zB 8 127).toNat)) * 128))).toNat) ||| zB 32 (zU ((zU (IntKind.u8.wrap (zB 8 ((s.getD 2 0).toNat:Int) &&& zB 8 127).toNat)) * 16384))).toNat) ||| zB 32 (zU ((zU (IntKind.u8.wrap (zB 8 ((s.getD 3 0).toNat:Int) &&& zB 8 127).toNat)) * 2097152))).toNat)))] hW bi fun cK bj=>?_
 refine qae (qab ?_)
 refine wp_seq (qaf [0,1,2,3,4] kz ?_)
 refine qai [0] [1,2,3,4] [(0,.v (.slice A s.length c)),(4,.v (.int .u32 (zU (zB 32 (zU (zB 32 (zU (zB 32 (zU (IntKind.u8.wrap (zB 8 ((s.getD 0 0).toNat:Int) &&& zB 8 127).toNat)) ||| zB 32 (zU ((zU (IntKind.u8.wrap (zB 8 ((s.getD 1 0).toNat:Int) &&& zB 8 127).toNat)) * 128))).toNat) ||| zB 32 (zU ((zU (IntKind.u8.wrap (zB 8 ((s.getD 2 0).toNat:Int) &&& zB 8 127).toNat)) * 16384))).toNat) ||| zB 32 (zU ((zU (IntKind.u8.wrap (zB 8 ((s.getD 3 0).toNat:Int) &&& zB 8 127).toNat)) * 2097152))).toNat))),(65,.v (.slice A s.length c))] hW bj fun cL bk=>?_
 refine qal (qax bk (t:=22) (A:=A) (m:=s.length) (q:=3) (d:=66) kz (e:=5) (size:=1) (bytes:=1) (j:=3) kz aw rfl (by first | omega | (simp only [List.length_append,be_length,List.length_cons,List.length_nil] at *; omega)) fun cM bn=>?_)
 refine qal (qaU bn (t:=5) (b:=bz) (o:=bA + 3 * 1) (d:=67) kz (cs:=[.int .u8 ((s.getD 3 0).toNat:Int)]) (v:=.int .u8 ((s.getD 3 0).toNat:Int)) kz (AtF.move af hW.step nilM qa9).at_ fun cN bo=>?_)
 refine qai [3,4] [] [(0,.v (.slice A s.length c)),(4,.v (.int .u32 (zU (zB 32 (zU (zB 32 (zU (zB 32 (zU (IntKind.u8.wrap (zB 8 ((s.getD 0 0).toNat:Int) &&& zB 8 127).toNat)) ||| zB 32 (zU ((zU (IntKind.u8.wrap (zB 8 ((s.getD 1 0).toNat:Int) &&& zB 8 127).toNat)) * 128))).toNat) ||| zB 32 (zU ((zU (IntKind.u8.wrap (zB 8 ((s.getD 2 0).toNat:Int) &&& zB 8 127).toNat)) * 16384))).toNat) ||| zB 32 (zU ((zU (IntKind.u8.wrap (zB 8 ((s.getD 3 0).toNat:Int) &&& zB 8 127).toNat)) * 2097152))).toNat))),(69,.v (.bool ((IntKind.u8.wrap (zB 8 ((s.getD 3 0).toNat:Int) &&& zB 8 128).toNat) == 0)))] hW bo fun cO ax=>?_
 refine qae (qab ?_)
 refine qan ax (b:=(IntKind.u8.wrap (zB 8 ((s.getD 3 0).toNat:Int) &&& zB 8 128).toNat) == 0) kz ((qdj _ (qb1 s 3)).trans (decide_eq_false (by have:=h3; unfold oc at this; omega))) ?_
 refine qas [(0,.v (.slice A s.length c)),(4,.v (.int .u32 (zU (zB 32 (zU (zB 32 (zU (zB 32 (zU (IntKind.u8.wrap (zB 8 ((s.getD 0 0).toNat:Int) &&& zB 8 127).toNat)) ||| zB 32 (zU ((zU (IntKind.u8.wrap (zB 8 ((s.getD 1 0).toNat:Int) &&& zB 8 127).toNat)) * 128))).toNat) ||| zB 32 (zU ((zU (IntKind.u8.wrap (zB 8 ((s.getD 2 0).toNat:Int) &&& zB 8 127).toNat)) * 16384))).toNat) ||| zB 32 (zU ((zU (IntKind.u8.wrap (zB 8 ((s.getD 3 0).toNat:Int) &&& zB 8 127).toNat)) * 2097152))).toNat))),(73,.v (.bool (decide (((s.length:Nat):Int) < 5))))] hW ax fun cP ag=>?_
 refine qan ag (b:=decide (((s.length:Nat):Int) < 5)) kz (decide_eq_false (by omega)) ?_
 refine wp_skip (qab (qaf [0,1,2,3,4,5,6,7] kz ?_))
 refine qai [0,1] [2,3,4,5,6,7] [(0,.v (.slice A s.length c)),(74,.v (.int .u32 (zU (zB 32 (zU (zB 32 (zU (zB 32 (zU (IntKind.u8.wrap (zB 8 ((s.getD 0 0).toNat:Int) &&& zB 8 127).toNat)) ||| zB 32 (zU ((zU (IntKind.u8.wrap (zB 8 ((s.getD 1 0).toNat:Int) &&& zB 8 127).toNat)) * 128))).toNat) ||| zB 32 (zU ((zU (IntKind.u8.wrap (zB 8 ((s.getD 2 0).toNat:Int) &&& zB 8 127).toNat)) * 16384))).toNat) ||| zB 32 (zU ((zU (IntKind.u8.wrap (zB 8 ((s.getD 3 0).toNat:Int) &&& zB 8 127).toNat)) * 2097152))).toNat))),(75,.v (.slice A s.length c))] hW ag fun bG ay=>?_
 obtain ⟨az,aA,ah,bB,aa⟩:=Slots.get ho (i:=4) (by first | omega | (simp only [List.length_append,be_length,List.length_cons,List.length_nil] at *; omega))
 refine qal (qax ay (t:=22) (A:=A) (m:=s.length) (q:=4) (d:=76) kz (e:=5) (size:=1) (bytes:=1) (j:=4) kz ah rfl (by first | omega | (simp only [List.length_append,be_length,List.length_cons,List.length_nil] at *; omega)) fun bH aB=>?_)
 refine qal (qaU aB (t:=5) (b:=az) (o:=aA + 4 * 1) (d:=77) kz (cs:=[.int .u8 ((s.getD 4 0).toNat:Int)]) (v:=.int .u8 ((s.getD 4 0).toNat:Int)) kz (AtF.move aa hW.step nilM qa9).at_ fun bI aC=>?_)
 refine qai [4,5,6,7] [] [(0,.v (.slice A s.length c)),(4,.v (.int .u32 (zU (zB 32 (zU (zB 32 (zU (zB 32 (zU (zB 32 (zU (IntKind.u8.wrap (zB 8 ((s.getD 0 0).toNat:Int) &&& zB 8 127).toNat)) ||| zB 32 (zU ((zU (IntKind.u8.wrap (zB 8 ((s.getD 1 0).toNat:Int) &&& zB 8 127).toNat)) * 128))).toNat) ||| zB 32 (zU ((zU (IntKind.u8.wrap (zB 8 ((s.getD 2 0).toNat:Int) &&& zB 8 127).toNat)) * 16384))).toNat) ||| zB 32 (zU ((zU (IntKind.u8.wrap (zB 8 ((s.getD 3 0).toNat:Int) &&& zB 8 127).toNat)) * 2097152))).toNat) ||| zB 32 (zU ((zU ((s.getD 4 0).toNat:Int)) * 268435456))).toNat)))] hW aC fun bJ aD=>?_
 refine qae (qab ?_)
 refine wp_seq (qaf [0,1,2,3] kz ?_)
 refine qai [0] [1,2,3] [(4,.v (.int .u32 (zU (zB 32 (zU (zB 32 (zU (zB 32 (zU (zB 32 (zU (IntKind.u8.wrap (zB 8 ((s.getD 0 0).toNat:Int) &&& zB 8 127).toNat)) ||| zB 32 (zU ((zU (IntKind.u8.wrap (zB 8 ((s.getD 1 0).toNat:Int) &&& zB 8 127).toNat)) * 128))).toNat) ||| zB 32 (zU ((zU (IntKind.u8.wrap (zB 8 ((s.getD 2 0).toNat:Int) &&& zB 8 127).toNat)) * 16384))).toNat) ||| zB 32 (zU ((zU (IntKind.u8.wrap (zB 8 ((s.getD 3 0).toNat:Int) &&& zB 8 127).toNat)) * 2097152))).toNat) ||| zB 32 (zU ((zU ((s.getD 4 0).toNat:Int)) * 268435456))).toNat))),(81,.v (.slice A s.length c))] hW aD fun bK aE=>?_
 refine qal (qax aE (t:=22) (A:=A) (m:=s.length) (q:=4) (d:=82) kz (e:=5) (size:=1) (bytes:=1) (j:=4) kz ah rfl (by first | omega | (simp only [List.length_append,be_length,List.length_cons,List.length_nil] at *; omega)) fun bL aF=>?_)
 refine qal (qaU aF (t:=5) (b:=az) (o:=aA + 4 * 1) (d:=83) kz (cs:=[.int .u8 ((s.getD 4 0).toNat:Int)]) (v:=.int .u8 ((s.getD 4 0).toNat:Int)) kz (AtF.move aa hW.step nilM qa9).at_ fun bM aG=>?_)
 refine qai [3] [] [(4,.v (.int .u32 (zU (zB 32 (zU (zB 32 (zU (zB 32 (zU (zB 32 (zU (IntKind.u8.wrap (zB 8 ((s.getD 0 0).toNat:Int) &&& zB 8 127).toNat)) ||| zB 32 (zU ((zU (IntKind.u8.wrap (zB 8 ((s.getD 1 0).toNat:Int) &&& zB 8 127).toNat)) * 128))).toNat) ||| zB 32 (zU ((zU (IntKind.u8.wrap (zB 8 ((s.getD 2 0).toNat:Int) &&& zB 8 127).toNat)) * 16384))).toNat) ||| zB 32 (zU ((zU (IntKind.u8.wrap (zB 8 ((s.getD 3 0).toNat:Int) &&& zB 8 127).toNat)) * 2097152))).toNat) ||| zB 32 (zU ((zU ((s.getD 4 0).toNat:Int)) * 268435456))).toNat))),(84,.v (.bool (decide (((s.getD 4 0).toNat:Int) ≤ 15))))] hW aG fun bN ai=>?_
 refine qae (qab ?_)
 refine qa7 ai (b:=decide (((s.getD 4 0).toNat:Int) ≤ 15)) kz (decide_eq_true (by have:=h4; unfold oc at this; omega)) ?_
 refine qas [(2,.v (.int .u32 (zU (zB 32 (zU (zB 32 (zU (zB 32 (zU (zB 32 (zU (IntKind.u8.wrap (zB 8 ((s.getD 0 0).toNat:Int) &&& zB 8 127).toNat)) ||| zB 32 (zU ((zU (IntKind.u8.wrap (zB 8 ((s.getD 1 0).toNat:Int) &&& zB 8 127).toNat)) * 128))).toNat) ||| zB 32 (zU ((zU (IntKind.u8.wrap (zB 8 ((s.getD 2 0).toNat:Int) &&& zB 8 127).toNat)) * 16384))).toNat) ||| zB 32 (zU ((zU (IntKind.u8.wrap (zB 8 ((s.getD 3 0).toNat:Int) &&& zB 8 127).toNat)) * 2097152))).toNat) ||| zB 32 (zU ((zU ((s.getD 4 0).toNat:Int)) * 268435456))).toNat))),(3,.v (.int .i64 5))] hW ai fun bO aH=>?_
 refine wp_ret (qat (qdO (qaM aH hW.cells (v:=.tuple #[.int .u32 (zU (zB 32 (zU (zB 32 (zU (zB 32 (zU (zB 32 (zU (IntKind.u8.wrap (zB 8 ((s.getD 0 0).toNat:Int) &&& zB 8 127).toNat)) ||| zB 32 (zU ((zU (IntKind.u8.wrap (zB 8 ((s.getD 1 0).toNat:Int) &&& zB 8 127).toNat)) * 128))).toNat) ||| zB 32 (zU ((zU (IntKind.u8.wrap (zB 8 ((s.getD 2 0).toNat:Int) &&& zB 8 127).toNat)) * 16384))).toNat) ||| zB 32 (zU ((zU (IntKind.u8.wrap (zB 8 ((s.getD 3 0).toNat:Int) &&& zB 8 127).toNat)) * 2097152))).toNat) ||| zB 32 (zU ((zU ((s.getD 4 0).toNat:Int)) * 268435456))).toNat),.int .i64 5]) kz ?_)))
 have e_:=uv_5 (oc s 0) (oc s 1) (oc s 2) (oc s 3) (oc s 4) (qb1 s 0) (qb1 s 1) (qb1 s 2) (qb1 s 3) (by omega)
 refine ⟨congrArg (fun z_:Int=>Ending.returned (.tuple #[.int .u32 z_,.int .i64 5])) (Eq.trans e_ ?_),hW.step⟩
 omega
theorem rUv (x:Nat) (hx:x < 4294967296) (rest:Bs) {A:Option Addr} {c:Nat} {w:World} {F:Nat → Nat → Prop} (ho:Octs w F A c (uv x ++ rest)) :
  Calls Tryz.prog 145 #[.slice A (uv x ++ rest).length c] w (qcs w (.tuple #[.int .u32 ((x:Nat):Int),.int .i64 (((uv x).length:Nat):Int)])):=by
 have hl:=qi4 hx
 have hL:(uv x ++ rest).length = (uv x).length + rest.length:=List.length_append
 by_cases h1:x < 128
 ·rw [if_pos h1] at hl
  have h:=rUv1 (uv x ++ rest) ho (by omega) x (by rw [qgv,if_pos h1]) h1
  rw [hl]; simpa using h
 rw [if_neg h1] at hl
 have o0:oc (uv x ++ rest) 0 = x % 128 + 128:=by rw [qgv,if_neg h1]
 have o1:oc (uv x ++ rest) 1 = oc (uv (x / 128) ++ rest) 0:=qei (by omega) rest 0
 by_cases h2:x < 16384
 ·rw [if_pos h2] at hl
  rw [qgv,if_pos (by omega)] at o1
  have h:=rUv2 (uv x ++ rest) ho (by omega) (x % 128) (x / 128) o0 o1 (by omega) (by omega)
  rw [show x % 128 + x / 128 * 128 = x by omega] at h
  rw [hl]; exact h
 rw [if_neg h2] at hl
 have o2:oc (uv x ++ rest) 2 = oc (uv (x / 128 / 128) ++ rest) 0:=(qei (by omega) rest 1).trans (qei (by omega) rest 0)
 rw [qgv,if_neg (by omega)] at o1
 by_cases h3:x < 2097152
 ·rw [if_pos h3] at hl
  rw [qgv,if_pos (by omega)] at o2
  have h:=rUv3 (uv x ++ rest) ho (by omega) (x % 128) (x / 128 % 128) (x / 128 / 128) o0 o1 o2 (by omega) (by omega) (by omega)
  rw [show x % 128 + x / 128 % 128 * 128 + x / 128 / 128 * 16384 = x by omega] at h
  rw [hl]; exact h
 rw [if_neg h3] at hl
 have o3:oc (uv x ++ rest) 3 = oc (uv (x / 128 / 128 / 128) ++ rest) 0:=(qei (by omega) rest 2).trans ((qei (by omega) rest 1).trans (qei (by omega) rest 0))
 rw [qgv,if_neg (by omega)] at o2
 by_cases h4:x < 268435456
 ·rw [if_pos h4] at hl
  rw [qgv,if_pos (by omega)] at o3
  have h:=rUv4 (uv x ++ rest) ho (by omega) (x % 128) (x / 128 % 128) (x / 128 / 128 % 128) (x / 128 / 128 / 128) o0 o1 o2 o3 (by omega) (by omega) (by omega) (by omega)
  rw [show x % 128 + x / 128 % 128 * 128 + x / 128 / 128 % 128 * 16384 + x / 128 / 128 / 128 * 2097152 = x by omega] at h
  rw [hl]; exact h
 rw [if_neg h4] at hl
 have o4:oc (uv x ++ rest) 4 = oc (uv (x / 128 / 128 / 128 / 128) ++ rest) 0:=(qei (by omega) rest 3).trans ((qei (by omega) rest 2).trans ((qei (by omega) rest 1).trans (qei (by omega) rest 0)))
 rw [qgv,if_neg (by omega)] at o3
 rw [qgv,if_pos (by omega)] at o4
 have h:=rUv5 (uv x ++ rest) ho (by omega) (x % 128) (x / 128 % 128) (x / 128 / 128 % 128) (x / 128 / 128 / 128 % 128) (x / 128 / 128 / 128 / 128) o0 o1 o2 o3 o4 (by omega) (by omega) (by omega) (by omega) (by omega)
 rw [show x % 128 + x / 128 % 128 * 128 + x / 128 / 128 % 128 * 16384 + x / 128 / 128 / 128 % 128 * 2097152 + x / 128 / 128 / 128 / 128 * 268435456 = x by omega] at h
 rw [hl]; exact h
theorem qeM (x:Nat) (hx:x < 4294967296) (rest:Bs)  {br:Nat} {A:Option Addr} {m c:Nat} {w:World} {F:Nat → Nat → Prop} (hst:Str w br [.slice A m c,.bool false]) (hr:RdS w F A m c (uv x ++ rest)) (hFd:∀ b o,F b o → ¬ RdM br b o) :
  Calls Tryz.prog 124 #[.pointer (some ⟨br,0,none⟩)] w (RdPost w br F rest fun v w'=>v = .int .u32 ((x:Nat):Int)):=by
 obtain ⟨hm,ho⟩:=hr
 subst hm
 have hle:=ho.le
 have hpos:=qim x
 refine enter (n:=31) Tryz.func124 rfl Tryz.ntmps124 kz fun a hE=>?_
 have hW:WOk w (RdM br) w [⟨br,0,[.slice A ((uv x ++ rest).length) c,.bool false],true⟩] []:=WOk.startStr hst
 have hE1:=(hE.grow ⟨br,0,[.slice A ((uv x ++ rest).length) c,.bool false],true⟩).recast 0 (.v (.pointer (some ⟨br,0,none⟩))) (.p 0 0) rfl rfl (zN (n:=1) rfl)
 refine qas [(0,.p 0 0)] hW hE1 fun a1 hE2=>?_
 refine qaf [0,1,2,3,4,5,6,7,8,9] kz ?_
 refine qai [0,1,2,3] [4,5,6,7,8,9] [(0,.p 0 0),(9,.v (.slice A ((uv x ++ rest).length) c))] hW hE2 fun a3 hE4=>?_
 refine qal (qak hE4 (f:=145) (vs:=[.slice A ((uv x ++ rest).length) c]) (d:=10) kz Tryz.call145 (rUv x hx rest (ho.move hW.step (fun b_ o_ h_ _=>hFd b_ o_ h_) (hW.immM hFd))) ?_)
 rintro e_ w6 ⟨rfl,hs5⟩
 refine ⟨_,rfl,fun a7 hE8=>?_⟩
 have hW9:=hW.next_nil hs5
 have aj:=hW.frN hs5
 refine qai [5,6,7,8,9] [] [(0,.p 0 0),(3,.v (.int .u32 ((x:Nat):Int))),(4,.v (.int .i64 (((uv x).length:Nat):Int)))] hW9 hE8 fun al ac=>?_
 refine qae (qab ?_)
 refine wp_seq (qas [(0,.p 0 0),(3,.v (.int .u32 ((x:Nat):Int))),(4,.v (.int .i64 (((uv x).length:Nat):Int))),(14,.v (.bool (decide ((((uv x).length:Nat):Int) ≤ 0))))] hW9 ac fun am ab=>?_)
 refine qan ab (b:=decide ((((uv x).length:Nat):Int) ≤ 0)) kz (decide_eq_false (by omega)) ?_
 refine wp_skip (qab (qaf [0,1,2,3,4,5,6,7,8,9] kz ?_))
 refine qai [0,1,2,3,4,5] [6,7,8,9] [(3,.v (.int .u32 ((x:Nat):Int))),(21,.p 0 0),(25,.v (.slice A ((uv x ++ rest).length) c)),(26,.v (.int .i64 (((uv x).length:Nat):Int)))] hW9 ab fun ao ae=>?_
 refine qal (qcN ae (t:=22) (A:=A) (m:=((uv x ++ rest).length)) (cp:=c) (q:=(((uv x).length:Nat):Int)) (d:=27) (j:=((uv x).length)) kz (e:=5) (bytes:=1) kz (rfl) (by first | omega | (simp only [List.length_append,be_length,List.length_cons,List.length_nil] at *; omega)) fun ap af=>?_)
 refine qai [7,8] [9] [(3,.v (.int .u32 ((x:Nat):Int))),(27,.v (.slice (cutA A c ((uv x).length)) (((uv x ++ rest).length) - ((uv x).length)) (c - ((uv x).length)))),(29,.p 0 0)] hW9 af fun ar ag=>?_
 refine qal (qao hW9 ag (oi:=0) (cs:=[.slice (cutA A c ((uv x).length)) (((uv x ++ rest).length) - ((uv x).length)) (c - ((uv x).length)),.bool false]) kz fun au ak aa ah=>?_)
 refine qae (qab ?_)
 refine qas [(2,.v (.int .u32 ((x:Nat):Int)))] aa ah fun av ai=>?_
 refine wp_ret (qaM ai aa.cells (v:=.int .u32 ((x:Nat):Int)) kz ?_)
 exact ⟨_,_,_,_,rfl,Str.of aa 0 rfl,RdS.drop (s:=uv x) ⟨rfl,ho.move aa.step (fun b_ o_ h_ _=>hFd b_ o_ h_) qa9⟩ (rfl),aa.step,rfl⟩
theorem qli (X:Bs) (rest:Bs)  {br:Nat} {A:Option Addr} {m c:Nat} {w:World} {F:Nat → Nat → Prop} (hst:Str w br [.slice A m c,.bool false]) (hr:RdS w F A m c (X ++ rest)) (hFd:∀ b o,F b o → ¬ RdM br b o) :
  Calls Tryz.prog 126 #[.pointer (some ⟨br,0,none⟩),.int .i64 ((X.length:Nat):Int)] w (RdPost w br F rest fun v w'=>∃ A2,v = .slice A2 X.length X.length ∧ Octs w' F A2 X.length X):=by
 obtain ⟨hm,ho⟩:=hr
 subst hm
 have hle:=ho.le
 refine enter (n:=40) Tryz.func126 rfl Tryz.ntmps126 kz fun a hE=>?_
 have hW:WOk w (RdM br) w [⟨br,0,[.slice A ((X ++ rest).length) c,.bool false],true⟩] []:=WOk.startStr hst
 have hE1:=(hE.grow ⟨br,0,[.slice A ((X ++ rest).length) c,.bool false],true⟩).recast 0 (.v (.pointer (some ⟨br,0,none⟩))) (.p 0 0) rfl rfl (zN (n:=1) rfl)
 refine qas [(0,.p 0 0),(1,.v (.int .i64 ((X.length:Nat):Int)))] hW hE1 fun a1 hE2=>?_
 refine wp_seq (qaf [0,1,2,3,4,5,6,7,8,9,10] kz ?_)
 refine qai [0,1,2,3,4,5,6,7] [8,9,10] [(0,.p 0 0),(1,.v (.int .i64 ((X.length:Nat):Int))),(13,.v (.bool (decide ((((X ++ rest).length:Nat):Int) < ((X.length:Nat):Int)))))] hW hE2 fun a3 hE4=>?_
 have hc5:(decide ((((X ++ rest).length:Nat):Int) < ((X.length:Nat):Int))) = false:=decide_eq_false (by first | omega | (simp only [List.length_append,be_length,List.length_cons,List.length_nil] at *; omega))
 have hE6:=hE4
 rw [hc5] at hE6
 refine qai [8,9,10] [] [(0,.p 0 0),(1,.v (.int .i64 ((X.length:Nat):Int))),(16,.v (.bool (decide (((X.length:Nat):Int) < 0))))] hW hE6 fun a7 hE8=>?_
 refine qae (qab ?_)
 refine qan hE8 (b:=decide (((X.length:Nat):Int) < 0)) kz (decide_eq_false (by first | omega | (simp only [List.length_append,be_length,List.length_cons,List.length_nil] at *; omega))) ?_
 refine wp_skip (qab (qaf [0,1,2,3,4,5,6,7] kz ?_))
 refine qai [0,1,2,3,4,5] [6,7] [(0,.p 0 0),(1,.v (.int .i64 ((X.length:Nat):Int))),(26,.v (.slice A ((X ++ rest).length) c)),(27,.v (.int .i64 ((X.length:Nat):Int))),(28,.v (.int .i64 ((X.length:Nat):Int)))] hW hE8 fun a9 ab=>?_
 refine qal (qjD ab (t:=22) (A:=A) (m:=((X ++ rest).length)) (cp:=c) (k:=.i64) (q:=((X.length:Nat):Int)) (d:=29) (j:=X.length) kz (e:=5) (bytes:=1) kz (rfl) (by first | omega | (simp only [List.length_append,be_length,List.length_cons,List.length_nil] at *; omega)) fun al ac=>?_)
 refine qai [7] [] [(0,.p 0 0),(1,.v (.int .i64 ((X.length:Nat):Int))),(5,.v (.slice A X.length X.length))] hW ac fun am ae=>?_
 refine qae (qab ?_)
 refine qaf [0,1,2,3,4,5,6,7,8,9] kz ?_
 refine qai [0,1,2,3,4,5] [6,7,8,9] [(5,.v (.slice A X.length X.length)),(30,.p 0 0),(34,.v (.slice A ((X ++ rest).length) c)),(35,.v (.int .i64 ((X.length:Nat):Int)))] hW ae fun ao af=>?_
 refine qal (qcN af (t:=22) (A:=A) (m:=((X ++ rest).length)) (cp:=c) (q:=((X.length:Nat):Int)) (d:=36) (j:=X.length) kz (e:=5) (bytes:=1) kz (rfl) (by first | omega | (simp only [List.length_append,be_length,List.length_cons,List.length_nil] at *; omega)) fun ap ag=>?_)
 refine qai [7,8] [9] [(5,.v (.slice A X.length X.length)),(36,.v (.slice (cutA A c X.length) (((X ++ rest).length) - X.length) (c - X.length))),(38,.p 0 0)] hW ag fun ar ah=>?_
 refine qal (qao hW ah (oi:=0) (cs:=[.slice (cutA A c X.length) (((X ++ rest).length) - X.length) (c - X.length),.bool false]) kz fun au ak aa ai=>?_)
 refine qae (qab ?_)
 refine qas [(4,.v (.slice A X.length X.length))] aa ai fun av aj=>?_
 refine wp_ret (qaM aj aa.cells (v:=.slice A X.length X.length) kz ?_)
 exact ⟨_,_,_,_,rfl,Str.of aa 0 rfl,RdS.drop (s:=X) ⟨rfl,ho.move aa.step (fun b_ o_ h_ _=>hFd b_ o_ h_) qa9⟩ (rfl),aa.step,A,rfl,RdS.front (s:=X) ⟨rfl,ho.move aa.step (fun b_ o_ h_ _=>hFd b_ o_ h_) qa9⟩ rfl⟩
abbrev z24 (x0) (x1) (x2) (x3):=([⟨x0,0,[.slice x1 x2 x3,.bool false],true⟩]:Tb)
theorem qjH {br:Nat} {A:Option Addr} {m c:Nat} {w:World} (hst:Str w br [.slice A m c,.bool false]) :
  Calls Tryz.prog 93 #[.pointer (some ⟨br,0,none⟩)] w (fun e w'=>e = .returned .nilIface ∧ w' = w):=by
 refine enter (n:=8) Tryz.func93 rfl Tryz.ntmps93 kz fun a hE=>?_
 have hW:WOk w (RdM br) w (z24 br A m c) []:=WOk.startStr hst
 have hE1:=(hE.grow ⟨br,0,[.slice A m c,.bool false],true⟩).recast 0 (.v (.pointer (some ⟨br,0,none⟩))) (.p 0 0) rfl rfl (Nat.le_of_ble_eq_true (n:=1) rfl)
 refine qas [(0,.p 0 0)] hW hE1 fun a1 hE2=>?_
 refine wp_seq (qas [(6,.v (.bool false))] hW hE2 fun a3 hE4=>?_)
 refine qan hE4 (b:=false) kz rfl ?_
 refine wp_skip (qab (qas [(2,.v (.nilIface))] hW hE4 fun a5 hE6=>?_))
 refine wp_ret (qaM hE6 hW.cells (v:=.nilIface) kz ?_)
 exact ⟨rfl,rfl⟩
structure TR (w w':World) (br p2 p3:Nat) (F:Nat → Nat → Prop) (A:Option Addr) (n c:Nat) (s:Bs) (m:Option Nat) (u:List (Int × Bs)):Prop where
 step:Step w w' (RdM br)
 old:br < w.heap.size
 new2:w.heap.size ≤ p2
 new3:w.heap.size ≤ p3
 ne:p2 ≠ p3
 rd:Str w' br [.slice A n c,.bool false]
 s2:Str w' p2 [.map none]
 s3:Str w' p3 [.map m]
 oct:RdS w' (fun b o=>F b o ∧ b < w.heap.size) A n c s
 own:OwnM w' (fun b o=>F b o ∧ b < w.heap.size) m u
 new:∀ r,m = some r → w.heap.size ≤ r
theorem TR.mne {w w':World} {br p2 p3:Nat} {F:Nat → Nat → Prop} {A:Option Addr} {n c:Nat} {s:Bs} {m:Option Nat} {u:List (Int × Bs)} (h:TR w w' br p2 p3 F A n c s m u):m ≠ some p2 ∧ m ≠ some p3:=by
 refine ⟨fun e=>?_,fun e=>?_⟩
 ·obtain ⟨es,clk,h1,_⟩:=h.own.some_ p2 e
  exact qeZ (h.s2.at_ 0 _ rfl) h1 rfl
 obtain ⟨es,clk,h1,_⟩:=h.own.some_ p3 e
 exact qeZ (h.s3.at_ 0 _ rfl) h1 rfl
theorem TR.read {w w' w1:World} {br p2 p3:Nat} {F:Nat → Nat → Prop} {A A':Option Addr} {n c n' c':Nat} {s s':Bs} {m:Option Nat} {u:List (Int × Bs)} (h:TR w w' br p2 p3 F A n c s m u) (hFd:∀ b o,F b o → ¬ RdM br b o) (hs:Str w1 br [.slice A' n' c',.bool false]) (hr:RdS w1 (fun b o=>F b o ∧ b < w.heap.size) A' n' c' s') (hst:Step w' w1 (RdM br)):TR w w1 br p2 p3 F A' n' c' s' m u:=by
 have ho:=h.old
 have h2:=h.new2
 have h3:=h.new3
 refine ⟨h.step.trans hst fun _ _ _ e=>e,ho,h2,h3,h.ne,hs,h.s2.move hst fun o e=>?_,h.s3.move hst fun o e=>?_,hr,h.own.move hst (fun b o hg _=>hFd b o hg.1) qa9 (fun r o e he=>?_),h.new⟩
 ·have:=e.1; omega
 ·have:=e.1; omega
 have:=h.new r e; have:=he.1; omega
theorem TR.set {w w':World} {br p2 p3:Nat} {F:Nat → Nat → Prop} {A A1:Option Addr} {n c c1 j:Nat} {s x:Bs} {k:Int} {m:Option Nat} {u:List (Int × Bs)} (h:TR w w' br p2 p3 F A n c s m (u.take j)) (hsort:qdu u) (hj:u[j]? = some (k,x)) (hx:Octs w' (fun b o=>F b o ∧ b < w.heap.size) A1 c1 x) (hk:0 ≤ k ∧ k < 4294967296) :
  Calls Tryz.prog 125 [.pointer (some ⟨p3,0,none⟩),.int .u32 k,.slice A1 x.length c1].toArray w' (fun e w1=>e = .returned (.tuple #[]) ∧ ∃ r,TR w w1 br p2 p3 F A n c s (some r) (u.take (j + 1))):=by
 have hcell:w'.cell? ⟨p3,0,none⟩ = some (.map m):=h.s3.at_ 0 _ rfl
 have hfz:w'.frozen? ⟨p3,0,none⟩ = false:=h.s3.frz 0 (by simp)
 have hnew:=h.new
 have h2:=h.new2
 have h3:=h.new3
 have ho:=h.old
 have hsz:=h.step.size
 obtain ⟨m2,m3⟩:=h.mne
 refine (qj7 hcell hfz h.own hx hk (fun b' o' hg=>⟨fun e=>?_,fun e=>?_⟩) (fun b' o' hg=>Nat.lt_of_lt_of_le hg.2 hsz)).mono ?_
 ·have:=hg.2; omega
 ·have:=hnew b' e; have:=hg.2; omega
 rintro e w1 ⟨rfl,r,g1,g2,g3,g4,g5⟩
 rw [qi9 hsort hj] at g3
 refine ⟨rfl,r,h.step.trans g5 fun b o hl e=>?_,ho,h2,h3,h.ne,h.rd.move g5 fun o e=>?_,h.s2.move g5 fun o e=>?_,⟨fun i v hi=>?_,fun i hi=>?_⟩,⟨h.oct.len,Octs.move h.oct.oct g5 (fun b o hg _ e=>?_) qa9⟩,g3,fun r' hr'=>?_⟩
 ·rcases e with ⟨e1,_⟩ | e1
  ·omega
  have:=hnew b e1; omega
 ·rcases e with ⟨e1,_⟩ | e1
  ·omega
  have:=hnew br e1; omega
 ·rcases e with ⟨e1,_⟩ | e1
  ·exact h.ne e1
  exact m2 e1
 ·cases i with
  | zero =>
   simp only [List.getElem?_cons_zero,Option.some.injEq] at hi
   subst hi
   exact g1
  | succ i=>simp at hi
 ·have:i = 0:=by simp at hi; omega
  subst this
  exact g2
 ·have:=hg.2
  rcases e with ⟨e1,_⟩ | e1
  ·omega
  have:=hnew b e1; omega
 obtain rfl:=Option.some.inj hr'
 rcases g4 with g4 | g4
 ·exact hnew _ g4
 exact Nat.le_trans hsz g4
theorem qiD (x:Int × Bs) (u:List (Int × Bs)):qct (x :: u) = tagR x.1 x.2 ++ qct u:=by unfold qct; rw [List.flatMap_cons]
theorem qiE {u:List (Int × Bs)} {j:Nat} {k:Int} {x:Bs} (h:u[j]? = some (k,x)) (rest:Bs):qct (u.drop j) ++ rest = uv k.toNat ++ (uv x.length ++ (x ++ (qct (u.drop (j + 1)) ++ rest))):=by
 obtain ⟨hlt,he⟩:=List.getElem?_eq_some_iff.1 h
 rw [List.drop_eq_getElem_cons hlt,he,qiD]
 simp only [tagR,List.append_assoc]
abbrev z37 (x0):=([.pointer (some ⟨x0,0,none⟩)]:List Value)
abbrev z103 (x0) (x1):=([.pointer (some ⟨x0,0,none⟩),.int .i64 ((x1:Nat):Int)]:List Value)
theorem ql2 (u:List (Int × Bs)) (rest:Bs) (hsort:qdu u) (hk:∀ x ∈ u,0 ≤ x.1 ∧ x.1 < 4294967296) (hul:u.length ≤ 1000000) (hxl:∀ x ∈ u,x.2.length < 4294967296) {br:Nat} {A:Option Addr} {m c:Nat} {w:World} {F:Nat → Nat → Prop} (hst:Str w br [.slice A m c,.bool false]) (hr:RdS w F A m c (uv u.length ++ (qct u ++ rest))) (hFd:∀ b o,F b o → ¬ RdM br b o) :
  Calls Tryz.prog 96 #[.pointer (some ⟨br,0,none⟩)] w (RdPost w br (Fp F w) rest fun v w'=>∃ mm,v = .agg #[.map mm] ∧ MapR w' (Fp F w) mm u):=by
 have hbr:br < w.heap.size:=World.lt_of_cell (hst.at_ 0 _ rfl)
 refine enter (n:=24) (vs:=(z37 br)) Tryz.func96 rfl Tryz.ntmps96 kz fun a hE=>?_
 have hW:=WOk.start w Nil
 refine qaf [0] kz ?_
 refine qal (qaQ hW hE (d:=2) (cs:=[.map none]) kz fun p2 a1 w1 hp2 hz2 hF1 hW1 hE1=>qae (qab ?_))
 refine qaf [0] kz ?_
 refine qal (qaQ hW1 hE1 (d:=3) (cs:=[.map none]) kz fun p3 a2 w2 hp3 hz3 hF2 hW2 hE2=>qae (qab ?_))
 have hne:p2 ≠ p3:=by
  have h1:=hW1.live 0 _ rfl
  simp only at h1
  omega
 have hS:Step w w2 Nil:=hW2.step
 have hT0:TR w w2 br p2 p3 F A m c (uv u.length ++ (qct u ++ rest)) none (u.take 0):=by
  refine ⟨hS.mono fun _ _ _ h=>h.elim,hbr,hz2,hz3,hne,hst.move hS (fun _ h=>h),Str.of hW2 0 rfl,Str.of hW2 1 rfl,hr.move hS nilM (fun b o h hb=>⟨h,hb⟩),?_,fun _ h=>by cases h⟩
  rw [List.take_zero]
  exact OwnM.nil _ _
 refine wp_seq ?_
 have hE3:=(((hE2.recast 2 (.p 0 0) (.v (.pointer (some ⟨p2,0,none⟩))) rfl rfl trivial).recast 3 (.p 1 0) (.v (.pointer (some ⟨p3,0,none⟩))) rfl rfl trivial).pick (ks:=[0,2,3]) (env':=[(0,.v (.pointer (some ⟨br,0,none⟩))),(2,.v (.pointer (some ⟨p2,0,none⟩))),(3,.v (.pointer (some ⟨p3,0,none⟩)))]) kz).cutTb 0 kz
 have hWz:=WOk.start w2 Nil
 refine qaf [0,1,2] kz ?_
 refine qai [0] [1,2] [(0,.v (.pointer (some ⟨br,0,none⟩))),(2,.v (.pointer (some ⟨p2,0,none⟩))),(3,.v (.pointer (some ⟨p3,0,none⟩))),(7,.v (.pointer (some ⟨br,0,none⟩)))] hWz hE3 fun a3 hE4=>?_
 have hFd':∀ b o,(F b o ∧ b < w.heap.size) → ¬ RdM br b o:=fun b o h=>hFd b o h.1
 refine qal (qak hE4 (f:=124) (vs:=(z37 br)) (d:=8) kz Tryz.call124 (qeM u.length (by omega) (qct u ++ rest) hT0.rd hT0.oct hFd') ?_)
 rintro e_ w3 ⟨_,A3,n3,c3,rfl,hs3,hr3,hst3,rfl⟩
 have hT1:=hT0.read hFd hs3 hr3 hst3
 refine ⟨_,rfl,fun a4 hE5=>?_⟩
 refine qai [2] [] [(0,.v (.pointer (some ⟨br,0,none⟩))),(2,.v (.pointer (some ⟨p2,0,none⟩))),(3,.v (.pointer (some ⟨p3,0,none⟩))),(4,.v (.int .u32 ((u.length:Nat):Int)))] (WOk.start w3 Nil) hE5 fun a5 hE6=>qae (qab ?_)
 refine wp_block ?_
 refine wp_loop_ghost (fun q a_ w_=>∃ (j:Nat) (m_:Option Nat) (A_:Option Addr) (n_ c_:Nat),q = u.length - j ∧ j ≤ u.length ∧ EnvOk 24 [] [(0,.v (.pointer (some ⟨br,0,none⟩))),(2,.v (.pointer (some ⟨p2,0,none⟩))),(3,.v (.pointer (some ⟨p3,0,none⟩))),(4,.v (.int .u32 ((u.length - j:Nat):Int)))] a_ ∧ TR w w_ br p2 p3 F A_ n_ c_ (qct (u.drop j) ++ rest) m_ (u.take j)) u.length
  ⟨0,none,A3,n3,c3,by omega,by omega,hE6,hT1⟩ ?_
 rintro q aq wq ⟨j,m_,A_,n_,c_,rfl,hj,hEq,hT⟩
 have hWq:=WOk.start wq Nil
 refine wp_seq (qas [(0,.v (.pointer (some ⟨br,0,none⟩))),(2,.v (.pointer (some ⟨p2,0,none⟩))),(3,.v (.pointer (some ⟨p3,0,none⟩))),(4,.v (.int .u32 ((u.length - j:Nat):Int))),(10,.v (.bool (decide (((u.length - j:Nat):Int) > 0))))] hWq hEq fun aq1 hE7=>?_)
 refine qaw hE7 (b:=decide (((u.length - j:Nat):Int) > 0)) kz (fun hc=>?_) (fun hc=>?_)
 ·have hlt:j < u.length:=by have:=zD hc; omega
  obtain ⟨⟨k,x⟩,hu⟩:∃ y,u[j]? = some y:=⟨_,List.getElem?_eq_getElem hlt⟩
  have hk':=hk (k,x) (List.mem_of_getElem? hu)
  have hx':=hxl (k,x) (List.mem_of_getElem? hu)
  dsimp only at hk' hx'
  have hoct:=hT.oct
  rw [qiE hu rest] at hoct
  refine wp_skip (qab (wp_seq (wp_block ?_)))
  refine qaf [0,1,2,3,4,5] kz ?_
  refine qai [0] [1,2,3,4,5] [(0,.v (.pointer (some ⟨br,0,none⟩))),(2,.v (.pointer (some ⟨p2,0,none⟩))),(3,.v (.pointer (some ⟨p3,0,none⟩))),(4,.v (.int .u32 ((u.length - j:Nat):Int))),(13,.v (.pointer (some ⟨br,0,none⟩)))] hWq hE7 fun aq2 hE8=>?_
  refine qal (qak hE8 (f:=124) (vs:=(z37 br)) (d:=14) kz Tryz.call124 (qeM k.toNat (by omega) _ hT.rd hoct hFd') ?_)
  rintro e_ wa ⟨_,Aa,na,ca,rfl,hsa,hra,hsta,rfl⟩
  have hTa:=hT.read hFd hsa hra hsta
  refine ⟨_,rfl,fun aq3 hE9=>?_⟩
  refine qai [2] [3,4,5] [(0,.v (.pointer (some ⟨br,0,none⟩))),(2,.v (.pointer (some ⟨p2,0,none⟩))),(3,.v (.pointer (some ⟨p3,0,none⟩))),(4,.v (.int .u32 ((u.length - j:Nat):Int))),(14,.v (.int .u32 ((k.toNat:Nat):Int))),(15,.v (.pointer (some ⟨br,0,none⟩)))] (WOk.start wa Nil) hE9 fun aq4 hE10=>?_
  refine qal (qak hE10 (f:=124) (vs:=(z37 br)) (d:=16) kz Tryz.call124 (qeM x.length hx' _ hTa.rd hTa.oct hFd') ?_)
  rintro e_ wb ⟨_,Ab,nb,cb,rfl,hsb,hrb,hstb,rfl⟩
  have hTb:=hTa.read hFd hsb hrb hstb
  refine ⟨_,rfl,fun aq5 hE11=>?_⟩
  refine qai [4,5] [] [(0,.v (.pointer (some ⟨br,0,none⟩))),(2,.v (.pointer (some ⟨p2,0,none⟩))),(3,.v (.pointer (some ⟨p3,0,none⟩))),(4,.v (.int .u32 ((u.length - j:Nat):Int))),(5,.v (.int .u32 ((k.toNat:Nat):Int))),(6,.v (.int .u32 ((x.length:Nat):Int)))] (WOk.start wb Nil) hE11 fun aq6 hE12=>qae (qab ?_)
  refine qap [0,1,2,3,4,5] kz ?_
  refine qai [0,1,2,3] [4,5] [(0,.v (.pointer (some ⟨br,0,none⟩))),(2,.v (.pointer (some ⟨p2,0,none⟩))),(3,.v (.pointer (some ⟨p3,0,none⟩))),(4,.v (.int .u32 ((u.length - j:Nat):Int))),(17,.v (.int .u32 ((k.toNat:Nat):Int))),(18,.v (.pointer (some ⟨br,0,none⟩))),(20,.v (.int .i64 (IntKind.i64.wrap ((x.length:Nat):Int))))] (WOk.start wb Nil) hE12 fun aq7 hE13=>?_
  rw [show IntKind.i64.wrap ((x.length:Nat):Int) = ((x.length:Nat):Int) by rw [i64w]; omega,show ((k.toNat:Nat):Int) = k by omega] at hE13
  refine qal (qak hE13 (f:=126) (vs:=(z103 br x.length)) (d:=21) kz Tryz.call126 (qli x _ hTb.rd hTb.oct hFd') ?_)
  rintro e_ wc ⟨_,Ac,nc,cc,rfl,hsc,hrc,hstc,Ax,rfl,hox⟩
  have hTc:=hTb.read hFd hsc hrc hstc
  refine ⟨_,rfl,fun aq8 hE14=>?_⟩
  refine qal (qak hE14 (f:=125) (vs:=[.pointer (some ⟨p3,0,none⟩),.int .u32 k,.slice Ax x.length x.length]) (d:=22) kz Tryz.call125 (hTc.set hsort hu hox hk') ?_)
  rintro e_ wd ⟨rfl,r,hTd⟩
  refine ⟨_,rfl,fun aq9 hE15=>qae (qar (qab ?_))⟩
  refine qap [0,1,2] kz (qai [0,1,2] [] [(0,.v (.pointer (some ⟨br,0,none⟩))),(2,.v (.pointer (some ⟨p2,0,none⟩))),(3,.v (.pointer (some ⟨p3,0,none⟩))),(4,.v (.int .u32 (IntKind.u32.wrap (((u.length - j:Nat):Int) - 1))))] (WOk.start wd Nil) hE15 fun aqa hE16=>qae (qab ?_))
  rw [show IntKind.u32.wrap (((u.length - j:Nat):Int) - 1) = ((u.length - (j + 1):Nat):Int) by rw [qaA]; omega] at hE16
  exact ⟨u.length - (j + 1),by omega,j + 1,some r,Ac,nc,cc,rfl,by omega,hE16,hTd⟩
 obtain rfl:j = u.length:=by have:=zF hc; omega
 refine wp_exit (qau (qau (qaI (qab ?_))))
 rw [List.take_length,List.drop_length] at hT
 have hT':TR w wq br p2 p3 F A_ n_ c_ rest m_ u:=hT
 have h2:=hT'.new2
 have h3:=hT'.new3
 have hW9:WOk w (RdM br) wq ([] ++ [⟨p3,0,[.map m_],true⟩] ++ [⟨p2,0,[.map none],true⟩]) []:=by
  have hb:WOk w (RdM br) wq [] []:=⟨hT'.step,fun i o hi=>by simp at hi,fun i o hi=>by simp at hi,fun i o hi=>by simp at hi,fun i j o o' _ hi=>by simp at hi,fun i r hi=>by simp at hi,fun i r hi=>by simp at hi,fun i r hi=>by simp at hi,fun i j r r' _ hi=>by simp at hi⟩
  have h4:=hb.add ⟨p3,0,[.map m_],true⟩ (World.lt_of_cell (hT'.s3.at_ 0 _ rfl)) (fun j v hj=>by rw [Nat.zero_add]; exact hT'.s3.at_ j v hj) (fun _ j hj=>⟨.inl h3,by rw [Nat.zero_add]; exact hT'.s3.frz j hj⟩) (fun i o hi=>by simp at hi) (fun i r hi=>by simp at hi)
  refine h4.add ⟨p2,0,[.map none],true⟩ (World.lt_of_cell (hT'.s2.at_ 0 _ rfl)) (fun j v hj=>by rw [Nat.zero_add]; exact hT'.s2.at_ j v hj) (fun _ j hj=>⟨.inl h2,by rw [Nat.zero_add]; exact hT'.s2.frz j hj⟩) (fun i o hi _=>.inl ?_) (fun i r hi=>by simp at hi)
  have:o = ⟨p3,0,[.map m_],true⟩:=by
   have hm:=List.mem_of_getElem? hi
   simpa using hm
  rw [this]
  exact fun e=>hT'.ne e.symm
 have hE17:=(((hE7.retable [⟨p3,0,[.map m_],true⟩,⟨p2,0,[.map none],true⟩]).recast 3 (.v (.pointer (some ⟨p3,0,none⟩))) (.p 0 0) rfl rfl (zN (n:=1) rfl)).recast 2 (.v (.pointer (some ⟨p2,0,none⟩))) (.p 1 0) rfl rfl (zN (n:=2) rfl))
 have hE18:EnvOk 24 [⟨p3,0,[.map m_],true⟩,⟨p2,0,[.map none],true⟩] [(2,.p 1 0),(3,.p 0 0)] _:=hE17.pk
 refine qaf [0,1] kz ?_
 refine qai [0] [1] [(2,.p 1 0),(23,.v (.agg #[.map m_]))] hW9 hE18 fun aqb hE19=>?_
 refine qal (qao hW9 hE19 (oi:=1) (cs:=[.map m_]) kz fun wz hFz hWz hEz=>qae (qab (wp_ret ?_)))
 have hsz:=hT'.step.size
 have hstz:Step wq wz (fun b o=>b = p2 ∨ b = p3):=hFz.step.mono fun b o _ ha=>by
  rcases ha with ⟨i,ob,hi,_,rfl,_⟩ | ⟨i,r,hi,_⟩
  ·have hm:=List.mem_of_getElem? hi
   simp only [List.nil_append,List.cons_append,List.mem_cons,List.not_mem_nil,or_false] at hm
   rcases hm with rfl | rfl
   ·exact .inr rfl
   exact .inl rfl
  simp at hi
 obtain ⟨m2,m3⟩:=hT'.mne
 refine qaM hEz hWz.cells (v:=.agg #[.map m_]) kz ⟨_,A_,n_,c_,rfl,hT'.rd.move hstz (fun o e=>?_),hT'.oct.move hstz (fun b o hg _ e=>?_) (fun b o hg _=>.inl hg.1),hWz.step,m_,rfl,?_⟩
 ·have:=hT'.old; rcases e with e | e <;> omega
 ·have:=hg.2; rcases e with e | e <;> omega
 refine (hT'.own.move hstz (fun b o hg _ e=>?_) qa9 (fun r o e he=>?_)).map (fun b o h=>.inl h.1) (fun r o e=>.inr (hT'.new r e)) hsort hk
 ·have:=hg.2; rcases e with e | e <;> omega
 rcases he with he | he
 ·exact m2 (by rw [e,he])
 exact m3 (by rw [e,he])
theorem qlI (x:Int) (rest:Bs)  {br:Nat} {A:Option Addr} {m c:Nat} {w:World} {F:Nat → Nat → Prop} (hst:Str w br [.slice A m c,.bool false]) (hr:RdS w F A m c ((be 8 x) ++ rest)) (hFd:∀ b o,F b o → ¬ RdM br b o) :
  Calls Tryz.prog 88 #[.pointer (some ⟨br,0,none⟩)] w (RdPost w br (Fp F w) rest fun v w'=>v = .int .i64 (IntKind.i64.wrap x)):=by
 refine enter (n:=6) Tryz.func88 rfl Tryz.ntmps88 kz fun a hE=>?_
 have hW:WOk w (RdM br) w (z24 br A m c) []:=WOk.startStr hst
 have hE1:=(hE.grow ⟨br,0,[.slice A m c,.bool false],true⟩).recast 0 (.v (.pointer (some ⟨br,0,none⟩))) (.p 0 0) rfl rfl (zN (n:=1) rfl)
 refine qas [(0,.p 0 0)] hW hE1 fun a1 hE2=>?_
 refine qaf [0,1,2,3] kz ?_
 refine qai [0] [1,2,3] [(3,.p 0 0)] hW hE2 fun a3 hE4=>?_
 refine qal (qak hE4 (f:=134) (vs:=(z37 br)) (d:=4) kz Tryz.call134 (qlh x (rest) (Str.of hW 0 rfl) (hr.move hW.step (fun b_ o_ h_ _=>hFd b_ o_ h_) (hW.immM hFd)) (qeK 0 rfl)) ?_)
 rintro e_ w5 ⟨_,A6,n7,c8,rfl,hs9,ac,ab,rfl⟩
 obtain ⟨aa,ae,aj⟩:=hW.wrote 0 (z24 br A6 n7 c8) rfl ab hs9
 have af:=ac.move (Step.refl _ Nil) nilM (fun b_ o_ h_ _=>ae.to b_ o_ h_)
 refine ⟨_,rfl,fun ak ag=>?_⟩
 have ah:EnvOk 6 (z24 br A6 n7 c8) [(4,.v (.int .u64 (IntKind.u64.wrap x))),(3,.p 0 0)] _:=ag.places (⟨rfl,rfl,trivial⟩)
 refine qai [2,3] [] [(2,.v (.int .i64 (IntKind.i64.wrap (IntKind.u64.wrap x))))] aa ah fun al ai=>?_
 refine qae (qab ?_)
 refine wp_ret (qaM ai aa.cells (v:=.int .i64 (IntKind.i64.wrap (IntKind.u64.wrap x))) kz ?_)
 refine ⟨_,_,_,_,rfl,Str.of aa 0 rfl,(af.move (Step.refl _ Nil) nilM qca),aa.step,by rw [qle]⟩
theorem qlj (X:Bs) (hX:X.length ≤ 32767) (rest:Bs)  {br:Nat} {A:Option Addr} {m c:Nat} {w:World} {F:Nat → Nat → Prop} (hst:Str w br [.slice A m c,.bool false]) (hr:RdS w F A m c ((be 2 ((X.length:Nat):Int)) ++ (X ++ rest))) (hFd:∀ b o,F b o → ¬ RdM br b o) :
  Calls Tryz.prog 87 #[.pointer (some ⟨br,0,none⟩)] w (RdPost w br (Fp F w) rest fun v w'=>v = .string (bs X)):=by
 refine enter (n:=11) Tryz.func87 rfl Tryz.ntmps87 kz fun a hE=>?_
 have hW:WOk w (RdM br) w (z24 br A m c) []:=WOk.startStr hst
 have hE1:=(hE.grow ⟨br,0,[.slice A m c,.bool false],true⟩).recast 0 (.v (.pointer (some ⟨br,0,none⟩))) (.p 0 0) rfl rfl (zN (n:=1) rfl)
 refine qas [(0,.p 0 0)] hW hE1 fun a1 hE2=>?_
 refine qaf [0,1,2] kz ?_
 refine qai [0] [1,2] [(0,.p 0 0),(4,.p 0 0)] hW hE2 fun a3 hE4=>?_
 refine qal (qak hE4 (f:=89) (vs:=(z37 br)) (d:=5) kz Tryz.call89 (qkG ((X.length:Nat):Int) (X ++ rest) (Str.of hW 0 rfl) (hr.move hW.step (fun b_ o_ h_ _=>hFd b_ o_ h_) (hW.immM hFd)) (qeK 0 rfl)) ?_)
 rintro e_ w5 ⟨_,A6,n7,c8,rfl,hs9,ag,ac,rfl⟩
 obtain ⟨aa,ah,aG⟩:=hW.wrote 0 (z24 br A6 n7 c8) rfl ac hs9
 have ai:=ag.move (Step.refl _ Nil) nilM (fun b_ o_ h_ _=>ah.to b_ o_ h_)
 refine ⟨_,rfl,fun aJ aj=>?_⟩
 have ak:EnvOk 11 (z24 br A6 n7 c8) [(5,.v (.int .i16 (IntKind.i16.wrap ((X.length:Nat):Int)))),(0,.p 0 0),(4,.p 0 0)] _:=aj.places (⟨rfl,rfl,trivial⟩)
 refine qai [2] [] [(0,.p 0 0),(3,.v (.int .i16 (IntKind.i16.wrap ((X.length:Nat):Int))))] aa ak fun aK al=>?_
 refine qae (qab ?_)
 refine qaf [0,1,2,3,4,5] kz ?_
 refine qai [0,1,2] [3,4,5] [(6,.p 0 0),(8,.v (.int .i64 (IntKind.i64.wrap (IntKind.i16.wrap ((X.length:Nat):Int)))))] aa al fun aL am=>?_
 have ao:IntKind.i64.wrap (IntKind.i16.wrap ((X.length:Nat):Int)) = ((X.length:Nat):Int):=by simp only [i16w,i32w,i64w]; omega
 have ap:=EnvOk.pick am (ks:=[6,8]) (env':=[(6,.p 0 0),(8,.v (.int .i64 (IntKind.i64.wrap (IntKind.i16.wrap ((X.length:Nat):Int)))))]) kz
 have ar:=ap
 rw [ao] at ar
 refine qal (qak ar (f:=126) (vs:=(z103 br X.length)) (d:=9) kz Tryz.call126 (qli X (rest) (Str.of aa 0 rfl) ai (qeK 0 rfl)) ?_)
 rintro e_ aM ⟨_,aD,aE,aF,rfl,au,av,ae,⟨aH,rfl,aw⟩⟩
 obtain ⟨ab,af,aI⟩:=aa.wrote 0 (z24 br aD aE aF) rfl ae au
 have ax:=av.move (Step.refl _ Nil) nilM (fun b_ o_ h_ _=>af.to b_ o_ h_)
 refine ⟨_,rfl,fun aN ay=>?_⟩
 have az:EnvOk 11 (z24 br aD aE aF) [(9,.v (.slice aH X.length X.length)),(6,.p 0 0),(8,.v (.int .i64 ((X.length:Nat):Int)))] _:=ay.places (⟨rfl,rfl,trivial⟩)
 have aA:=aw.move (Step.refl _ Nil) nilM (fun b_ o_ h_ _=>af.to b_ o_ h_)
 refine qal (qhg az (src:=22) (dst:=9) (e:=5) (d:=10) kz kz kz kz aA fun aO aB=>?_)
 refine qai [5] [] [(2,.v (.string (bs X)))] ab aB fun aP aC=>?_
 refine qae (qab ?_)
 refine wp_ret (qaM aC ab.cells (v:=.string (bs X)) kz ?_)
 refine ⟨_,_,_,_,rfl,Str.of ab 0 rfl,(ax.move (Step.refl _ Nil) nilM qca),ab.step,rfl⟩
theorem qfV (X:Bs) (hX:X.length ≤ 1000000) (rest:Bs)  {br:Nat} {A:Option Addr} {m c:Nat} {w:World} {F:Nat → Nat → Prop} (hst:Str w br [.slice A m c,.bool false]) (hr:RdS w F A m c ((uv (X.length + 1)) ++ (X ++ rest))) (hFd:∀ b o,F b o → ¬ RdM br b o) :
  Calls Tryz.prog 86 #[.pointer (some ⟨br,0,none⟩)] w (RdPost w br (Fp F w) rest fun v w'=>v = .string (bs X)):=by
 refine enter (n:=12) Tryz.func86 rfl Tryz.ntmps86 kz fun a hE=>?_
 have hW:WOk w (RdM br) w (z24 br A m c) []:=WOk.startStr hst
 have hE1:=(hE.grow ⟨br,0,[.slice A m c,.bool false],true⟩).recast 0 (.v (.pointer (some ⟨br,0,none⟩))) (.p 0 0) rfl rfl (zN (n:=1) rfl)
 refine qas [(0,.p 0 0)] hW hE1 fun a1 hE2=>?_
 refine qaf [0,1,2,3,4] kz ?_
 refine qai [0] [1,2,3,4] [(0,.p 0 0),(4,.p 0 0)] hW hE2 fun a3 hE4=>?_
 refine qal (qak hE4 (f:=124) (vs:=(z37 br)) (d:=5) kz Tryz.call124 (qeM (X.length + 1) (by omega) (X ++ rest) (Str.of hW 0 rfl) (hr.move hW.step (fun b_ o_ h_ _=>hFd b_ o_ h_) (hW.immM hFd)) (qeK 0 rfl)) ?_)
 rintro e_ w5 ⟨_,A6,n7,c8,rfl,hs9,ag,ac,rfl⟩
 obtain ⟨aa,ah,aG⟩:=hW.wrote 0 (z24 br A6 n7 c8) rfl ac hs9
 have ai:=ag.move (Step.refl _ Nil) nilM (fun b_ o_ h_ _=>ah.to b_ o_ h_)
 refine ⟨_,rfl,fun aJ aj=>?_⟩
 have ak:EnvOk 12 (z24 br A6 n7 c8) [(5,.v (.int .u32 ((X.length + 1:Nat):Int))),(0,.p 0 0),(4,.p 0 0)] _:=aj.places (⟨rfl,rfl,trivial⟩)
 refine qai [2,3,4] [] [(0,.p 0 0),(3,.v (.int .i64 (IntKind.i64.wrap ((IntKind.i64.wrap ((X.length + 1:Nat):Int)) - 1))))] aa ak fun aK al=>?_
 refine qae (qab ?_)
 refine qaf [0,1,2,3,4] kz ?_
 refine qai [0,1] [2,3,4] [(8,.p 0 0),(9,.v (.int .i64 (IntKind.i64.wrap ((IntKind.i64.wrap ((X.length + 1:Nat):Int)) - 1))))] aa al fun aL am=>?_
 have ao:IntKind.i64.wrap ((IntKind.i64.wrap ((X.length + 1:Nat):Int)) - 1) = ((X.length:Nat):Int):=by simp only [i16w,i32w,i64w]; omega
 have ap:=EnvOk.pick am (ks:=[8,9]) (env':=[(8,.p 0 0),(9,.v (.int .i64 (IntKind.i64.wrap ((IntKind.i64.wrap ((X.length + 1:Nat):Int)) - 1))))]) kz
 have ar:=ap
 rw [ao] at ar
 refine qal (qak ar (f:=126) (vs:=(z103 br X.length)) (d:=10) kz Tryz.call126 (qli X (rest) (Str.of aa 0 rfl) ai (qeK 0 rfl)) ?_)
 rintro e_ aM ⟨_,aD,aE,aF,rfl,au,av,ae,⟨aH,rfl,aw⟩⟩
 obtain ⟨ab,af,aI⟩:=aa.wrote 0 (z24 br aD aE aF) rfl ae au
 have ax:=av.move (Step.refl _ Nil) nilM (fun b_ o_ h_ _=>af.to b_ o_ h_)
 refine ⟨_,rfl,fun aN ay=>?_⟩
 have az:EnvOk 12 (z24 br aD aE aF) [(10,.v (.slice aH X.length X.length)),(8,.p 0 0),(9,.v (.int .i64 ((X.length:Nat):Int)))] _:=ay.places (⟨rfl,rfl,trivial⟩)
 have aA:=aw.move (Step.refl _ Nil) nilM (fun b_ o_ h_ _=>af.to b_ o_ h_)
 refine qal (qhg az (src:=22) (dst:=9) (e:=5) (d:=11) kz kz kz kz aA fun aO aB=>?_)
 refine qai [4] [] [(2,.v (.string (bs X)))] ab aB fun aP aC=>?_
 refine qae (qab ?_)
 refine wp_ret (qaM aC ab.cells (v:=.string (bs X)) kz ?_)
 refine ⟨_,_,_,_,rfl,Str.of ab 0 rfl,(ax.move (Step.refl _ Nil) nilM qca),ab.step,rfl⟩
theorem qjI (x:Int) (hx:-1 ≤ x ∧ x ≤ 32767) (rest:Bs) (hl:x ≤ ((rest.length:Nat):Int)) {br:Nat} {A:Option Addr} {m c:Nat} {w:World} {F:Nat → Nat → Prop} (hst:Str w br [.slice A m c,.bool false]) (hr:RdS w F A m c ((be 4 x) ++ rest)) (hFd:∀ b o,F b o → ¬ RdM br b o) :
  Calls Tryz.prog 91 #[.pointer (some ⟨br,0,none⟩)] w (RdPost w br (Fp F w) rest fun v w'=>v = .int .i32 x):=by
 refine enter (n:=21) Tryz.func91 rfl Tryz.ntmps91 kz fun a hE=>?_
 have hW:WOk w (RdM br) w (z24 br A m c) []:=WOk.startStr hst
 have hE1:=(hE.grow ⟨br,0,[.slice A m c,.bool false],true⟩).recast 0 (.v (.pointer (some ⟨br,0,none⟩))) (.p 0 0) rfl rfl (zN (n:=1) rfl)
 refine qas [(0,.p 0 0)] hW hE1 fun a1 hE2=>?_
 refine qaf [0,1,2] kz ?_
 refine qai [0] [1,2] [(0,.p 0 0),(4,.p 0 0)] hW hE2 fun a3 hE4=>?_
 refine qal (qak hE4 (f:=95) (vs:=(z37 br)) (d:=5) kz Tryz.call95 (qkH x (rest) (Str.of hW 0 rfl) (hr.move hW.step (fun b_ o_ h_ _=>hFd b_ o_ h_) (hW.immM hFd)) (qeK 0 rfl)) ?_)
 rintro e_ w5 ⟨_,A6,n7,c8,rfl,hs9,af,ab,rfl⟩
 obtain ⟨aa,ag,al⟩:=hW.wrote 0 (z24 br A6 n7 c8) rfl ab hs9
 have ac:=af.move (Step.refl _ Nil) nilM (fun b_ o_ h_ _=>ag.to b_ o_ h_)
 refine ⟨_,rfl,fun am ah=>?_⟩
 have ai:EnvOk 21 (z24 br A6 n7 c8) [(5,.v (.int .i32 (IntKind.i32.wrap x))),(0,.p 0 0),(4,.p 0 0)] _:=ah.places (⟨rfl,rfl,trivial⟩)
 refine qai [2] [] [(0,.p 0 0),(3,.v (.int .i32 (IntKind.i32.wrap x)))] aa ai fun ao aj=>?_
 refine qae (qab ?_)
 refine wp_seq (qas [(0,.p 0 0),(3,.v (.int .i32 (IntKind.i32.wrap x))),(13,.v (.bool (decide (((n7:Nat):Int) < (IntKind.i64.wrap (IntKind.i32.wrap x))))))] aa aj fun ap ae=>?_)
 refine qan ae (b:=decide (((n7:Nat):Int) < (IntKind.i64.wrap (IntKind.i32.wrap x)))) kz (decide_eq_false (by have h_:=ac.len; simp only [i32w,i64w]; omega)) ?_
 refine wp_skip (qab (qas [(2,.v (.int .i32 (IntKind.i32.wrap x)))] aa ae fun ar ak=>?_))
 refine wp_ret (qaM ak aa.cells (v:=.int .i32 (IntKind.i32.wrap x)) kz ?_)
 refine ⟨_,_,_,_,rfl,Str.of aa 0 rfl,(ac.move (Step.refl _ Nil) nilM qca),aa.step,congrArg (Value.int .i32) (by simp only [i32w]; omega)⟩
theorem qfh (n:Nat) (hn:n ≤ 32768) (rest:Bs) (hl:n ≤ rest.length + 1) {br:Nat} {A:Option Addr} {m c:Nat} {w:World} {F:Nat → Nat → Prop} (hst:Str w br [.slice A m c,.bool false]) (hr:RdS w F A m c ((uv n) ++ rest)) (hFd:∀ b o,F b o → ¬ RdM br b o) :
  Calls Tryz.prog 90 #[.pointer (some ⟨br,0,none⟩)] w (RdPost w br (Fp F w) rest fun v w'=>v = .int .i32 (((n:Nat):Int) - 1)):=by
 refine enter (n:=23) Tryz.func90 rfl Tryz.ntmps90 kz fun a hE=>?_
 have hW:WOk w (RdM br) w (z24 br A m c) []:=WOk.startStr hst
 have hE1:=(hE.grow ⟨br,0,[.slice A m c,.bool false],true⟩).recast 0 (.v (.pointer (some ⟨br,0,none⟩))) (.p 0 0) rfl rfl (zN (n:=1) rfl)
 refine qas [(0,.p 0 0)] hW hE1 fun a1 hE2=>?_
 refine qaf [0,1,2,3,4] kz ?_
 refine qai [0] [1,2,3,4] [(0,.p 0 0),(4,.p 0 0)] hW hE2 fun a3 hE4=>?_
 refine qal (qak hE4 (f:=124) (vs:=(z37 br)) (d:=5) kz Tryz.call124 (qeM n (by omega) (rest) (Str.of hW 0 rfl) (hr.move hW.step (fun b_ o_ h_ _=>hFd b_ o_ h_) (hW.immM hFd)) (qeK 0 rfl)) ?_)
 rintro e_ w5 ⟨_,A6,n7,c8,rfl,hs9,af,ab,rfl⟩
 obtain ⟨aa,ag,al⟩:=hW.wrote 0 (z24 br A6 n7 c8) rfl ab hs9
 have ac:=af.move (Step.refl _ Nil) nilM (fun b_ o_ h_ _=>ag.to b_ o_ h_)
 refine ⟨_,rfl,fun am ah=>?_⟩
 have ai:EnvOk 23 (z24 br A6 n7 c8) [(5,.v (.int .u32 ((n:Nat):Int))),(0,.p 0 0),(4,.p 0 0)] _:=ah.places (⟨rfl,rfl,trivial⟩)
 refine qai [2,3,4] [] [(0,.p 0 0),(3,.v (.int .i32 (IntKind.i32.wrap ((IntKind.i32.wrap ((n:Nat):Int)) - 1))))] aa ai fun ao aj=>?_
 refine qae (qab ?_)
 refine wp_seq (qas [(0,.p 0 0),(3,.v (.int .i32 (IntKind.i32.wrap ((IntKind.i32.wrap ((n:Nat):Int)) - 1)))),(15,.v (.bool (decide (((n7:Nat):Int) < (IntKind.i64.wrap (IntKind.i32.wrap ((IntKind.i32.wrap ((n:Nat):Int)) - 1)))))))] aa aj fun ap ae=>?_)
 refine qan ae (b:=decide (((n7:Nat):Int) < (IntKind.i64.wrap (IntKind.i32.wrap ((IntKind.i32.wrap ((n:Nat):Int)) - 1))))) kz (decide_eq_false (by have h_:=ac.len; simp only [i32w,i64w]; omega)) ?_
 refine wp_skip (qab (qas [(2,.v (.int .i32 (IntKind.i32.wrap ((IntKind.i32.wrap ((n:Nat):Int)) - 1))))] aa ae fun ar ak=>?_))
 refine wp_ret (qaM ak aa.cells (v:=.int .i32 (IntKind.i32.wrap ((IntKind.i32.wrap ((n:Nat):Int)) - 1))) kz ?_)
 refine ⟨_,_,_,_,rfl,Str.of aa 0 rfl,(ac.move (Step.refl _ Nil) nilM qca),aa.step,congrArg (Value.int .i32) (by simp only [i32w]; omega)⟩
theorem rOk  (rest:Bs)  {br:Nat} {A:Option Addr} {m c:Nat} {w:World} {F:Nat → Nat → Prop} (hst:Str w br [.slice A m c,.bool false]) (hr:RdS w F A m c (rest)) (hFd:∀ b o,F b o → ¬ RdM br b o) :
  Calls Tryz.prog 92 #[.pointer (some ⟨br,0,none⟩)] w (RdPost w br (Fp F w) rest fun v w'=>v = .bool true):=by
 refine enter (n:=8) Tryz.func92 rfl Tryz.ntmps92 kz fun a hE=>?_
 have hW:WOk w (RdM br) w (z24 br A m c) []:=WOk.startStr hst
 have hE1:=(hE.grow ⟨br,0,[.slice A m c,.bool false],true⟩).recast 0 (.v (.pointer (some ⟨br,0,none⟩))) (.p 0 0) rfl rfl (Nat.le_of_ble_eq_true (n:=1) rfl)
 refine qas [(0,.p 0 0)] hW hE1 fun a1 hE2=>?_
 refine qas [(2,.v (.bool true))] hW hE2 fun a3 hE4=>?_
 refine wp_ret (qaM hE4 hW.cells (v:=.bool true) kz ?_)
 refine ⟨_,_,_,_,rfl,Str.of hW 0 rfl,((hr.move hW.step (fun b_ o_ h_ _=>hFd b_ o_ h_) (hW.immM hFd)).move (Step.refl _ Nil) nilM qca),hW.step,rfl⟩
theorem qcV {P:Program} {c:Code} {Mid:Act → World → Prop} {Q:Exit → Act → World → Prop} {a:Act} {w:World} (h1:c.wp P (Exit.then Mid Q) a w) (h2:∀ a' w',Mid a' w' → Q .normal a' w'):c.wp P Q a w :=
 wp_mono h1 fun e a' w' h=>by
  cases e <;> first | exact h2 a' w' h | exact h
theorem qeN {k:Nat} (h:k < 32768):IntKind.i32.wrap (((k:Nat):Int) + 1) = ((k + 1:Nat):Int):=by rw [i32w]; omega
theorem qjJ {g:Tree → Bs}:∀ {L:List Tree},(∀ t,0 < (g t).length) → L.length ≤ (L.flatMap g).length
 | [],_=>Nat.zero_le _
 | t :: r,h=>by
  have h1:=h t
  have h2:=qjJ (L:=r) h
  rw [List.flatMap_cons,List.length_append,List.length_cons]; omega
theorem flat_ge' {g:Tree → Bs} {L:List Tree} (h:∀ t,0 < (g t).length) (rest:Bs):L.length ≤ (L.flatMap g ++ rest).length:=by
 have:=qjJ (L:=L) h
 rw [List.length_append]; omega
theorem qgy {x y:Bs} (h:0 < x.length):0 < (x ++ y).length:=by rw [List.length_append]; omega
theorem qjK {b:Bool} {x y:Bs} (h:0 < x.length) (h':0 < y.length):0 < (if b = true then x else y).length:=by split <;> assumption
theorem qfN {m:Nat} {x:Int} (h:0 < m):0 < (be m x).length:=by rw [be_length]; exact h
section
variable {Pr:Program} {ops:Array Oper} {Q:Exit → Act → World → Prop} {w0:World} {M F:Nat → Nat → Prop} {n br:Nat} {tb:Tb} {env:Env} {P:qcr} {s:Bs} {a:Act} {w:World}
theorem qfO {id d:Nat} {t e:TypeId} {size bytes m cp:Nat} {A0:Option Addr} (env1 env':Env) (i:Nat) (h:RS w0 M F n br tb env P s a w) (K:∀ a',RS w0 M F n br tb env' P s a' w → Q .normal a' w)
  (hr:List.range ops.size = List.range i ++ (i :: (List.range ops.size).drop (i + 1)):=by kernel_rfl) (e1:∀ A m c,qdr Pr ops n (rdo br A m c :: tb) (List.range i) (qce env1) env = some env1:=by intro _ _ _; kernel_rfl)
  (hc:∀ A m_ c,cutE (rdo br A m_ c :: tb) env1 ops n i = some (t,.slice A0 m cp,none,some 0,d):=by intro _ _ _; kernel_rfl) (ht:qcT Pr t = some (e,size,bytes):=by kernel_rfl)
  (e2:∀ A m_ c,qdr Pr ops n (rdo br A m_ c :: tb) ((List.range ops.size).drop (i + 1)) (qce env') ((d,.v (.slice A0 0 cp)) :: env1) = some env':=by intro _ _ _; kernel_rfl):(Code.region id ops false).wp Pr Q a w:=by
 refine qap _ hr (qb2 (List.range i) _ env1 h (fun a1 h1=>?_) e1 rfl)
 obtain ⟨A,m1,c,hW,hrd,hE,hP⟩:=h1.open_
 refine qal (qdy hE (hc A m1 c) ht (j:=0) rfl (Nat.zero_le _) fun a2 hE2=>?_)
 exact qb2 _ [] env' (RS.mk' hW hrd hE2 h1.mv hP) (fun a3 h3=>qae (K a3 h3)) e2 (List.append_nil _).symm
theorem qjL {i d:Nat} {f:FuncId} {vs:List Value} {v0:Value} {N:Act → World → Prop} (h:RS w0 M F n br tb env P s a w) (hc:∀ w,Calls Pr f vs.toArray w (fun e w'=>e = .returned v0 ∧ w' = w))
  (hf:∀ args w,(callFunc f args).run Pr w = .ok (.enter f args) w) (K:∀ a',RS w0 M F n br tb ((d,.v v0) :: env) P s a' w → N a' w)
  (he:∀ A m c,qfu (rdo br A m c :: tb) env ops n i = some (f,vs,d):=by intro _ _ _; kernel_rfl):wpOp Pr ops Q i N a w:=by
 obtain ⟨A,m,c,hW,hr,hE,hP⟩:=h.open_
 refine qak hE (he A m c) hf (hc w) ?_
 rintro e_ _ ⟨rfl,rfl⟩
 exact ⟨_,rfl,fun a1 hE1=>K a1 (RS.mk' hW hr hE1 h.mv hP)⟩
theorem qjM {id d:Nat} {f:FuncId} {v0:Value} (env':Env) (h:RS w0 M F n br tb env P s a w) (hc:qdk Pr f [] s v0)
  (hf:∀ args w,(callFunc f args).run Pr w = .ok (.enter f args) w) (K:∀ a' w',RS w0 M F n br tb env' P s a' w' → Q .normal a' w')
  (he:∀ A m c,qfu (rdo br A m c :: tb) env ops n 0 = some (f,[.pointer (some ⟨br,0,none⟩)],d):=by intro _ _ _; kernel_rfl)
  (e:∀ A m c,qdr Pr ops n (rdo br A m c :: tb) ((List.range ops.size).drop 1) (qce env') ((d,.v v0) :: env) = some env':=by intro _ _ _; kernel_rfl) (hs:Nat.blt 0 ops.size = true:=by kernel_rfl):(Code.region id ops false).wp Pr Q a w :=
 qej (X:=[]) (rest:=s) env' h hc hf K he e hs
theorem qgz {i d k l g size bytes:Nat} {t e:TypeId} {z:Value} {N:Act → World → Prop} (h:RS w0 M F n br (tb ++ [qbk g size z l k]) env P s a w) (hk:k < l) (hz:z.cells.size = size) (hl:qeX (tb.length + 1) env = true)
  (K:∀ a',RS w0 M F n br (tb ++ [qbk g size z l (k + 1),⟨g,k * size,z.cells.toList,true⟩]) ((d,.p (tb.length + 2) 0) :: env) P s a' w → N a' w)
  (he:∀ A m c,idxE (rdo br A m c :: (tb ++ [qbk g size z l k])) env ops n i = some (t,some ⟨g,0,none⟩,l,((k:Nat):Int),d):=by intro _ _ _; kernel_rfl) (ht:qcT Pr t = some (e,size,bytes):=by kernel_rfl):wpOp Pr ops Q i N a w:=by
 obtain ⟨A,m,c,hW,hr,hE,hP⟩:=h.open_
 refine qax hE (he A m c) ht rfl rfl hk fun a1 hE1=>K a1 ?_
 have h1:RS w0 M F n br (tb ++ [qbk g size z l k]) ((d,.v (.pointer (some ⟨g,0 + k * size,none⟩))) :: env) P s a1 w:=RS.mk' hW hr hE1 h.mv hP
 have h2:=h1.next hk hz (by simpa only [qeX] using hl)
 have h3:=h2.recast d (.v (.pointer (some ⟨g,0 + k * size,none⟩))) (.p (tb.length + 2) 0) (by simp [lk]) ?_ (by show tb.length + 2 < _; simp)
 ·refine ⟨h3.mv,h3.ex,?_,h3.fact⟩
  refine ⟨h3.env_.defers,h3.env_.size,fun q x hx=>h3.env_.at_ q x ?_⟩
  simp only [lk] at hx ⊢
  split at hx
  ·exact hx
  exact hx
 have:obAt (rdo br none 0 0 :: (tb ++ [qbk g size z l (k + 1),⟨g,k * size,z.cells.toList,true⟩])) (tb.length + 2) = ⟨g,k * size,z.cells.toList,true⟩:=by
  simp only [obAt,List.getD_eq_getElem?_getD]
  rw [show tb.length + 2 = (tb.length + 1) + 1 from rfl,List.getElem?_cons_succ,List.getElem?_append_right (by omega)]
  simp
 simp only [SV.val,this]
 simp
theorem qhJ {id d k l g size bytes:Nat} {t e:TypeId} {z:Value} (env1 env':Env) (i:Nat) (h:RS w0 M F n br (tb ++ [qbk g size z l k]) env P s a w) (hk:k < l) (hz:z.cells.size = size) (hl:qeX (tb.length + 1) env1 = true)
  (K:∀ a',RS w0 M F n br (tb ++ [qbk g size z l (k + 1),⟨g,k * size,z.cells.toList,true⟩]) env' P s a' w → Q .normal a' w)
  (hr:List.range ops.size = List.range i ++ (i :: (List.range ops.size).drop (i + 1)):=by kernel_rfl) (e1:∀ A m c,qdr Pr ops n (rdo br A m c :: (tb ++ [qbk g size z l k])) (List.range i) (qce env1) env = some env1:=by intro _ _ _; kernel_rfl)
  (he:∀ A m c,idxE (rdo br A m c :: (tb ++ [qbk g size z l k])) env1 ops n i = some (t,some ⟨g,0,none⟩,l,((k:Nat):Int),d):=by intro _ _ _; kernel_rfl) (ht:qcT Pr t = some (e,size,bytes):=by kernel_rfl)
  (e2:∀ A m c,qdr Pr ops n (rdo br A m c :: (tb ++ [qbk g size z l (k + 1),⟨g,k * size,z.cells.toList,true⟩])) ((List.range ops.size).drop (i + 1)) (qce env') ((d,.p (tb.length + 2) 0) :: env1) = some env':=by intro _ _ _; kernel_rfl):(Code.region id ops false).wp Pr Q a w:=by
 refine qap _ hr (qb2 (List.range i) _ env1 h (fun a1 h1=>qal (qgz h1 hk hz hl (fun a2 h2=>?_) he ht)) e1 rfl)
 exact qb2 _ [] env' h2 (fun a3 h3=>qae (K a3 h3)) e2 (List.append_nil _).symm
end
theorem qkI (x:Int) (rest:Bs):qdk Tryz.prog 89 (be 2 (IntKind.i16.wrap x)) rest (.int .i16 (IntKind.i16.wrap x)):=fun hs hr hF=>(qkG _ rest hs hr hF).mono fun e w' hp=>hp.fp fun v w' h=>by rw [h,ww16]
theorem qkJ (x:Int) (rest:Bs):qdk Tryz.prog 95 (be 4 (IntKind.i32.wrap x)) rest (.int .i32 (IntKind.i32.wrap x)):=fun hs hr hF=>(qkH _ rest hs hr hF).mono fun e w' hp=>hp.fp fun v w' h=>by rw [h,ww32]
theorem qkK (x:Int) (rest:Bs):qdk Tryz.prog 88 (be 8 x) rest (.int .i64 (IntKind.i64.wrap x)):=fun hs hr hF=>(qlI x rest hs hr hF).mono fun e w' hp=>hp.q fun v w' h=>h
theorem ql3 (y:Bool) (rest:Bs):qdk Tryz.prog 98 [by8 (if y then 1 else 0)] rest (.bool y):=fun hs hr hF=>(ql1 y rest hs hr hF).mono fun e w' hp=>hp.fp fun v w' h=>h
theorem qgA (S:Bs) (hS:S.length ≤ 32767) (rest:Bs):qdk Tryz.prog 87 (be 2 S.length ++ S) rest (.string (bs S)):=fun hs hr hF=>(qlj S hS rest hs (hr.cast (by simp only [List.append_assoc])) hF).mono fun e w' hp=>hp.q fun v w' h=>h
theorem qcP (S:Bs) (hS:S.length ≤ 32767) (rest:Bs):qdk Tryz.prog 86 (uv (S.length + 1) ++ S) rest (.string (bs S)):=fun hs hr hF=>(qfV S (by omega) rest hs (hr.cast (by simp only [List.append_assoc])) hF).mono fun e w' hp=>hp.q fun v w' h=>h
theorem qdP (n:Nat) (hn:n ≤ 32767) (rest:Bs) (hl:n ≤ rest.length):qdk Tryz.prog 91 (be 4 n) rest (.int .i32 ((n:Nat):Int)):=fun hs hr hF=>(qjI ((n:Nat):Int) (by omega) rest (by omega) hs hr hF).mono fun e w' hp=>hp.q fun v w' h=>h
theorem qcf (n:Nat) (hn:n ≤ 32767) (rest:Bs) (hl:n ≤ rest.length):qdk Tryz.prog 90 (uv (n + 1)) rest (.int .i32 ((n:Nat):Int)):=fun hs hr hF=>(qfh (n + 1) (by omega) rest (by omega) hs hr hF).mono fun e w' hp=>hp.q fun v w' h=>h.trans (congrArg (Value.int .i32) (by omega))
theorem pOk (rest:Bs):qdk Tryz.prog 92 [] rest (.bool true):=fun hs hr hF=>(rOk rest hs hr hF).mono fun e w' hp=>hp.q fun v w' h=>h
theorem qkl (u:List (Int × Bs)) (hU:canU u) (hk:∀ x ∈ u,0 ≤ x.1 ∧ x.1 < 4294967296) (rest:Bs):qlH Tryz.prog 96 (uv u.length ++ qct u) rest (fun m:Option Nat=>.agg #[.map m]) (fun m=>qlG m u):=fun hs hr hF=>(ql2 u rest hU.1 hk hU.2.1 hU.2.2 hs (hr.cast (by simp only [List.append_assoc])) hF).mono fun e w' hp=>hp.q fun v w' h=>h
theorem qlJ (k:Int) (A:Option Addr) (m c:Nat) (w:World):Calls Tryz.prog 53 #[.agg #[.int .u32 k,.slice A m c]] w (qjm w):=by
 refine enter (n:=7) Tryz.func53 rfl Tryz.ntmps53 kz fun a hE=>?_
 have hW:=WOk.start w Nil
 refine qaf [0,1] kz ?_
 refine qal (qbq hW hE (d:=1) (cs:=(z42 k A m c)) kz fun b1 a2 w3 hb4 hz5 hF6 hW7 hE8=>?_)
 refine qai [1] [] [(1,.p 0 0)] hW7 hE8 fun a9 ac=>?_
 refine qae (qab ?_)
 refine wp_seq (qas [(6,.v (.bool (decide (((m:Nat):Int) > 2147483647))))] hW7 ac fun ai aa=>?_)
 refine qaw aa (b:=decide (((m:Nat):Int) > 2147483647)) kz (fun ab=>?_) (fun ab=>?_)
 ·
  have ag:=of_decide_eq_true ab
  refine qas [(2,.v (.bool false))] hW7 aa fun aj ae=>?_
  refine wp_ret (qat (qaM ae hW7.cells (v:=.bool false) kz ?_))
  exact ⟨_,rfl,hW7.step⟩
 have ah:=of_decide_eq_false ab
 refine wp_skip (qab (qas [(2,.v (.bool true))] hW7 aa fun ak af=>?_))
 refine wp_ret (qaM af hW7.cells (v:=.bool true) kz ?_)
 exact ⟨_,rfl,hW7.step⟩
theorem qlK (A:Option Addr) (c:Nat) (u:List (Int × Bs)) (w:World) (F:Nat → Nat → Prop) (hu:TagsR w F A c u):Calls Tryz.prog 21 #[.slice A u.length c] w (qjm w):=by
 obtain ⟨xu,h1,h2⟩:=hu.ex
 have hsm:=h1.small
 refine enter (n:=18) Tryz.func21 rfl Tryz.ntmps21 kz fun a hE=>?_
 have hW:=WOk.start w Nil
 refine qas (z67 A u.length c) hW hE fun a1 hE2=>?_
 refine wp_seq (qas [(0,.v (.slice A u.length c)),(7,.v (.bool (decide (((u.length:Nat):Int) > 2147483647))))] hW hE2 fun a3 hE4=>?_)
 refine qaw hE4 (b:=decide (((u.length:Nat):Int) > 2147483647)) kz (fun hc5=>?_) (fun hc5=>?_)
 ·
  have hf6:=zD hc5
  refine qas [(2,.v (.bool false))] hW hE4 fun a7 hE8=>?_
  refine wp_ret (qat (qaM hE8 hW.cells (v:=.bool false) kz ?_))
  exact ⟨_,rfl,hW.step⟩
 have hf9:=zF hc5
 refine wp_skip (qab (wp_seq (qas [(8,.v (.slice A u.length c)),(9,.v (.int .i64 ((u.length:Nat):Int))),(10,.v (.int .i64 0))] hW hE4 fun ba ar=>?_)))
 refine wp_block (wp_loop_ghost (fun n_ a_ w_=>∃ (k:Nat),n_ = u.length - k ∧ k ≤ u.length ∧ LInv hW 18 [] [] [(8,.v (.slice A u.length c)),(9,.v (.int .i64 ((u.length:Nat):Int))),(10,.v (.int .i64 ((k:Nat):Int)))] a_ w_) (u.length) ⟨0,by omega,by omega,ar.pk,hW,Fr.refl _ _ _⟩ ?_)
 rintro bd bf bg ⟨k,aQ,aR,au,aa,av⟩
 refine qas [(8,.v (.slice A u.length c)),(9,.v (.int .i64 ((u.length:Nat):Int))),(10,.v (.int .i64 ((k:Nat):Int))),(11,.v (.bool (decide (((k:Nat):Int) < ((u.length:Nat):Int)))))] aa au fun bh ae=>?_
 refine wp_seq (qaw ae (b:=decide (((k:Nat):Int) < ((u.length:Nat):Int))) kz (fun af=>?_) (fun af=>?_))
 ·
  have aS:=zD af
  refine wp_skip (qab (wp_seq (wp_block (qaf [0,1,2,3] kz ?_))))
  obtain ⟨aT,aU,aw,aV,ac⟩:=Slots.get h1 (i:=k) (by omega)
  obtain ⟨⟨ai,aj⟩,ax⟩:∃ x,u[k]? = some x:=⟨_,List.getElem?_eq_getElem (by omega)⟩
  obtain ⟨⟨ak,al,am,aW⟩,bi,bj⟩:=h2 k ai aj ax
  rw [am] at ac
  refine qal (qax ae (t:=24) (A:=A) (m:=u.length) (q:=((k:Nat):Int)) (d:=12) kz (e:=66) (size:=2) (bytes:=32) kz aw rfl (by omega) fun bk ay=>?_)
  refine qal (qaU ay (t:=66) (b:=aT) (o:=aU + k * 2) (d:=13) kz (cs:=(z42 ai ak aj.length al)) (v:=.agg #[.int .u32 ai,.slice ak aj.length al]) kz (AtF.move ac aa.step nilM qa9).at_ fun bn az=>?_)
  refine qal (qaQ aa az (d:=4) (cs:=z38) kz fun bo bp bq aX aY aA aB aC=>?_)
  refine qal (qao aB aC (oi:=0) (cs:=(z42 ai ak aj.length al)) kz fun bt aD ag aE=>?_)
  refine qae (qab ?_)
  refine qaf [0,1,2] kz ?_
  refine qai [0] [1,2] [(8,.v (.slice A u.length c)),(9,.v (.int .i64 ((u.length:Nat):Int))),(10,.v (.int .i64 ((k:Nat):Int))),(14,.v (.agg #[.int .u32 ai,.slice ak aj.length al]))] ag aE fun bu aF=>?_
  refine qal (qak aF (f:=53) (vs:=[.agg #[.int .u32 ai,.slice ak aj.length al]]) (d:=15) kz Tryz.call53 (qlJ _ _ _ _ _) ?_)
  rintro e_ bw ⟨aP,rfl,ao⟩
  refine ⟨_,rfl,fun bx aG=>?_⟩
  have ab:=ag.next_nil ao
  have aH:=ag.frN ao
  refine qai [2] [] [(8,.v (.slice A u.length c)),(9,.v (.int .i64 ((u.length:Nat):Int))),(10,.v (.int .i64 ((k:Nat):Int))),(16,.v (.bool (!aP)))] ab aG fun bz ah=>?_
  refine qae (qab ?_)
  refine qaw ah (b:=!aP) kz (fun aI=>?_) (fun aI=>?_)
  ·
   refine qas [(2,.v (.bool false))] ab ah fun bA aJ=>?_
   refine wp_ret (qay (qat (qat (qay (qat (qaM aJ ab.cells (v:=.bool false) kz ?_))))))
   exact ⟨_,rfl,ab.step⟩
  refine wp_skip (qar (qab (qap [0,1] kz ?_)))
  refine qai [0,1] [] [(8,.v (.slice A u.length c)),(9,.v (.int .i64 ((u.length:Nat):Int))),(10,.v (.int .i64 (IntKind.i64.wrap (((k:Nat):Int) + 1))))] ab ah fun bB aK=>?_
  refine qae (qab ?_)
  obtain ⟨ap,aL,aM⟩:=ab.cutB aK 0 [] [(8,.v (.slice A u.length c)),(9,.v (.int .i64 ((u.length:Nat):Int))),(10,.v (.int .i64 (IntKind.i64.wrap (((k:Nat):Int) + 1))))]
  have aN:IntKind.i64.wrap (((k:Nat):Int) + 1) = ((k + 1:Nat):Int):=qaO (by omega)
  rw [aN] at ap
  exact ⟨u.length - (k + 1),by omega,k + 1,rfl,by omega,ap.pk,aL,((((av.trans aA).trans aD).trans aH).trans aM)⟩
 have aZ:=zF af
 refine wp_exit (qau (qau (qaI (qab (qas [(2,.v (.bool true))] aa ae fun bC aO=>?_)))))
 refine wp_ret (qaM aO aa.cells (v:=.bool true) kz ?_)
 exact ⟨_,rfl,aa.step⟩
theorem qlL (ct:List Value) (t:Tree) (w:World) (F:Nat → Nat → Prop) (ht:TreeR w F ct t):Calls Tryz.prog 6 #[.agg ct.toArray] w (qjm w):=by
 obtain ⟨n1,s2,b3,l4,u5,A6,c7,A8,c9,aj,ak,aB,rfl,rfl,aC,aD,aN,aE⟩:=ht.open_
 have ay:=aC.small
 have az:=aD.small
 refine enter (n:=15) Tryz.func6 rfl Tryz.ntmps6 kz fun a hE=>?_
 have hW:=WOk.start w Nil
 refine qaf [0,1] kz ?_
 refine qal (qbq hW hE (d:=1) (cs:=(z1 n1 A6 s2.length c7 b3 A8 l4.length c9 aj u5.length ak)) kz fun aO aP aQ aF aG aH aa al=>?_)
 refine qai [1] [] [(1,.p 0 0)] aa al fun aR am=>?_
 refine qae (qab ?_)
 refine wp_seq (qas [(1,.p 0 0),(6,.v (.bool (decide (((s2.length:Nat):Int) > 2147483647))))] aa am fun aS ac=>?_)
 refine qaw ac (b:=decide (((s2.length:Nat):Int) > 2147483647)) kz (fun ae=>?_) (fun ae=>?_)
 ·
  have aI:=zD ae
  refine qas [(2,.v (.bool false))] aa ac fun aT ao=>?_
  refine wp_ret (qat (qaM ao aa.cells (v:=.bool false) kz ?_))
  exact ⟨_,rfl,aa.step⟩
 have aJ:=zF ae
 refine wp_skip (qab (wp_seq (qas [(1,.p 0 0),(10,.v (.bool (decide (((l4.length:Nat):Int) > 2147483647))))] aa ac fun aU af=>?_)))
 refine qaw af (b:=decide (((l4.length:Nat):Int) > 2147483647)) kz (fun ag=>?_) (fun ag=>?_)
 ·
  have aK:=zD ag
  refine qas [(2,.v (.bool false))] aa af fun aV ap=>?_
  refine wp_ret (qat (qaM ap aa.cells (v:=.bool false) kz ?_))
  exact ⟨_,rfl,aa.step⟩
 have aL:=zF ag
 refine wp_skip (qab (wp_seq (qaf [0,1,2,3] kz ?_)))
 refine qai [0,1] [2,3] [(12,.v (.slice aj u5.length ak))] aa af fun aW ar=>?_
 refine qal (qak ar (f:=21) (vs:=[.slice aj u5.length ak]) (d:=13) kz Tryz.call21 (qlK _ _ u5 _ _ (aE.move aa.step nilM aa.imm)) ?_)
 rintro e_ aX ⟨aA,rfl,ai⟩
 refine ⟨_,rfl,fun aY au=>?_⟩
 have ab:=aa.next_nil ai
 have aM:=aa.frN ai
 refine qai [3] [] [(14,.v (.bool (!aA)))] ab au fun aZ ah=>?_
 refine qae (qab ?_)
 refine qaw ah (b:=!aA) kz (fun av=>?_) (fun av=>?_)
 ·
  refine qas [(2,.v (.bool false))] ab ah fun ba aw=>?_
  refine wp_ret (qat (qaM aw ab.cells (v:=.bool false) kz ?_))
  exact ⟨_,rfl,ab.step⟩
 refine wp_skip (qab (qas [(2,.v (.bool true))] ab ah fun bd ax=>?_))
 refine wp_ret (qaM ax ab.cells (v:=.bool true) kz ?_)
 exact ⟨_,rfl,ab.step⟩
theorem qkm (x m:Int) (hx:0 ≤ x) (hx':x < 256) (hm:0 ≤ m) (hm':m < 32768) (w:World):Calls Tryz.prog 9 #[.int .u8 x,.int .i64 m] w (qcs w (.int .i64 (Int.tmod x (m + 1)))):=by
 refine enter (n:=10) Tryz.func9 rfl Tryz.ntmps9 kz fun a hE=>?_
 have hW:=WOk.start w Nil
 refine qas [(0,.v (.int .u8 x)),(1,.v (.int .i64 m))] hW hE fun a1 hE2=>?_
 refine qaf [0,1,2,3,4,5] kz ?_
 refine qai [0,1,2,3] [4,5] [(6,.v (.int .i64 (IntKind.i64.wrap x))),(8,.v (.int .i64 (IntKind.i64.wrap (m + 1))))] hW hE2 fun a3 hE4=>?_
 refine qal (qj4 hE4 (k:=.i64) (p:=(IntKind.i64.wrap x)) (q:=(IntKind.i64.wrap (m + 1))) (d:=9) kz (by simp only [IntKind.wrap_i64]; omega) fun a5 hE6=>?_)
 refine qai [5] [] [(4,.v (.int .i64 (Int.tmod (IntKind.i64.wrap x) (IntKind.i64.wrap (m + 1)))))] hW hE6 fun a7 hE8=>?_
 refine qae (qab ?_)
 refine wp_ret (qaM hE8 hW.cells (v:=.int .i64 (Int.tmod (IntKind.i64.wrap x) (IntKind.i64.wrap (m + 1)))) kz ?_)
 exact ⟨by rw [wrap_i64 (by omega) (by omega),wrap_i64 (by omega) (by omega)],hW.step⟩
end Go.Proofs.YtdlaobdadlmcdaaGreatDoor.ME