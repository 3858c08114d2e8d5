/- The texts of a claim, put together: the engine, the contracts, the law. Own work. -/
import Derived.Test.YtcbpjflgkefidaaGreatDoorWd2P2
import Derived.Test.YtcbpjflgkefidaaGreatDoorProg
import Derived.Deep.LoopGhost
import Derived.Lib.ConvBytes
namespace Go.Proofs.YtcbpjflgkefidaaGreatDoor.ME
open Go
open Go.RowKit
set_option linter.unusedVariables false
set_option linter.unusedSimpArgs false
set_option maxRecDepth 20000
theorem qkU {A:Option Addr} {c:Nat} (s:Bs) {w:World} {F:Nat → Nat → Prop} (ho:Octs w F A c s) (hl:2 ≤ s.length) :
  Calls Tryz.prog 189 #[.agg #[],.slice A s.length c] w (qch w (.int .u16 (be16 s))):=by
 refine enter (n:=18) Tryz.func189 rfl Tryz.ntmps189 kz fun a hE=>?_
 have hW:=WOk.start w Nil
 have ob0:=qbP s 0
 have ob1:=qbP s 1
 refine qac [0,1] kz ?_
 refine qaj (qbi hW hE (d:=2) (cs:=[]) kz fun b1 a2 w3 hb4 hz5 hF6 hW7 hE8=>?_)
 refine qai [1] [] [(1,.v (.slice A s.length c))] hW7 hE8 fun a9 af=>?_
 refine qae (qaa ?_)
 refine qac [0,1,2] kz ?_
 refine qai [0] [1,2] [(1,.v (.slice A s.length c)),(5,.v (.slice A s.length c))] hW7 af fun aC ag=>?_
 obtain ⟨av,aw,ac,ax,ab⟩:=Slots.get ho (i:=1) (by omega)
 refine qaj (qas ag (t:=22) (A:=A) (m:=s.length) (q:=1) (d:=6) kz (e:=5) (size:=1) (bytes:=1) (j:=1) kz ac rfl (by omega) fun aD ah=>?_)
 refine qaj (qaD ah (t:=5) (b:=av) (o:=aw + 1 * 1) (d:=7) kz (cs:=[.int .u8 ((s.getD 1 0).toNat:Int)]) (v:=.int .u8 ((s.getD 1 0).toNat:Int)) kz (AtF.move ab hW7.step nilM qa1).at_ fun aE ai=>?_)
 refine qae (qaa ?_)
 refine qbK kz hW7 fun aF ay aa=>?_
 refine qaF [0,4] [(8,.v (.slice A s.length c)),(12,.v (.slice A s.length c))] 9 (qab qaf) (fun _ h=>h ▸ aa.cells) rfl ai fun aG aj=>?_
 refine qaL aj (i:=1) (t:=22) (A:=A) (m:=s.length) (q:=1) (d:=9) kz (e:=5) (size:=1) (bytes:=1) (j:=1) kz ac rfl (by omega) kz kz (qab qaf) rfl fun aH ak=>?_
 refine qbb ak (i:=2) (t:=5) (b:=av) (o:=aw + 1 * 1) (d:=10) kz (cs:=[.int .u8 ((s.getD 1 0).toNat:Int)]) (v:=.int .u8 ((s.getD 1 0).toNat:Int)) kz (fun w' h'=>h' ▸ (AtF.move ab aa.step nilM qa1).at_) kz kz (qab qaf) rfl fun aI al=>?_
 refine qaF [3] [(11,.v (.int .u16 (IntKind.u16.wrap ((s.getD 1 0).toNat:Int)))),(12,.v (.slice A s.length c))] 6 (qab qaf) (fun _ h=>h ▸ aa.cells) rfl al fun aJ am=>?_
 obtain ⟨az,aA,ao,aB,ae⟩:=Slots.get ho (i:=0) (by omega)
 refine qaL am (i:=5) (t:=22) (A:=A) (m:=s.length) (q:=0) (d:=13) kz (e:=5) (size:=1) (bytes:=1) (j:=0) kz ao rfl (by omega) kz kz (qab qaf) rfl fun aK ap=>?_
 refine qbb ap (i:=6) (t:=5) (b:=az) (o:=aA + 0 * 1) (d:=14) kz (cs:=[.int .u8 ((s.getD 0 0).toNat:Int)]) (v:=.int .u8 ((s.getD 0 0).toNat:Int)) kz (fun w' h'=>h' ▸ (AtF.move ae aa.step nilM qa1).at_) kz kz (qab qaf) rfl fun aL ar=>?_
 refine qaF [7,8,9,10] [(4,.v (.int .u16 (IntKind.u16.wrap (BitVec.ofInt 16 (IntKind.u16.wrap ((s.getD 1 0).toNat:Int)) ||| BitVec.ofInt 16 (IntKind.u16.wrap ((IntKind.u16.wrap ((s.getD 0 0).toNat:Int)) * 256))).toNat)))] 0 (qab qaf) (fun _ h=>h ▸ aa.cells) rfl ar fun aM au=>?_
 refine qaE kz ?_ _
 refine qaa ?_
 refine wp_ret ?_
 refine qaN au aa.cells (v:=.int .u16 (IntKind.u16.wrap (BitVec.ofInt 16 (IntKind.u16.wrap ((s.getD 1 0).toNat:Int)) ||| BitVec.ofInt 16 (IntKind.u16.wrap ((IntKind.u16.wrap ((s.getD 0 0).toNat:Int)) * 256))).toNat)) kz ?_
 exact ⟨congrArg Ending.returned (congrArg (Value.int IntKind.u16) (qkw (oc s 0) (oc s 1) ob0 ob1)),aa.step⟩
theorem qkV {A:Option Addr} {c:Nat} (s:Bs) {w:World} {F:Nat → Nat → Prop} (ho:Octs w F A c s) (hl:4 ≤ s.length) :
  Calls Tryz.prog 188 #[.agg #[],.slice A s.length c] w (qch w (.int .u32 (be32 s))):=by
 refine enter (n:=30) Tryz.func188 rfl Tryz.ntmps188 kz fun a hE=>?_
 have hW:=WOk.start w Nil
 have ob0:=qbP s 0
 have ob1:=qbP s 1
 have ob2:=qbP s 2
 have ob3:=qbP s 3
 refine qac [0,1] kz ?_
 refine qaj (qbi hW hE (d:=2) (cs:=[]) kz fun b1 a2 w3 hb4 hz5 hF6 hW7 hE8=>?_)
 refine qai [1] [] [(1,.v (.slice A s.length c))] hW7 hE8 fun a9 ah=>?_
 refine qae (qaa ?_)
 refine qac [0,1,2] kz ?_
 refine qai [0] [1,2] [(1,.v (.slice A s.length c)),(5,.v (.slice A s.length c))] hW7 ah fun aS ai=>?_
 obtain ⟨aF,aG,ac,aH,ab⟩:=Slots.get ho (i:=3) (by omega)
 refine qaj (qas ai (t:=22) (A:=A) (m:=s.length) (q:=3) (d:=6) kz (e:=5) (size:=1) (bytes:=1) (j:=3) kz ac rfl (by omega) fun aT aj=>?_)
 refine qaj (qaD aj (t:=5) (b:=aF) (o:=aG + 3 * 1) (d:=7) kz (cs:=[.int .u8 ((s.getD 3 0).toNat:Int)]) (v:=.int .u8 ((s.getD 3 0).toNat:Int)) kz (AtF.move ab hW7.step nilM qa1).at_ fun aU ak=>?_)
 refine qae (qaa ?_)
 refine qbK kz hW7 fun aV aI aa=>?_
 refine qaF [0,4,10,16] [(8,.v (.slice A s.length c)),(12,.v (.slice A s.length c)),(18,.v (.slice A s.length c)),(24,.v (.slice A s.length c))] 19 (qab qaf) (fun _ h=>h ▸ aa.cells) rfl ak fun aW al=>?_
 refine qaL al (i:=1) (t:=22) (A:=A) (m:=s.length) (q:=3) (d:=9) kz (e:=5) (size:=1) (bytes:=1) (j:=3) kz ac rfl (by omega) kz kz (qab qaf) rfl fun aX am=>?_
 refine qbb am (i:=2) (t:=5) (b:=aF) (o:=aG + 3 * 1) (d:=10) kz (cs:=[.int .u8 ((s.getD 3 0).toNat:Int)]) (v:=.int .u8 ((s.getD 3 0).toNat:Int)) kz (fun w' h'=>h' ▸ (AtF.move ab aa.step nilM qa1).at_) kz kz (qab qaf) rfl fun aY ao=>?_
 refine qaF [3] [(11,.v (.int .u32 (IntKind.u32.wrap ((s.getD 3 0).toNat:Int)))),(12,.v (.slice A s.length c)),(18,.v (.slice A s.length c)),(24,.v (.slice A s.length c))] 16 (qab qaf) (fun _ h=>h ▸ aa.cells) rfl ao fun aZ ap=>?_
 obtain ⟨aJ,aK,ar,aL,ae⟩:=Slots.get ho (i:=2) (by omega)
 refine qaL ap (i:=5) (t:=22) (A:=A) (m:=s.length) (q:=2) (d:=13) kz (e:=5) (size:=1) (bytes:=1) (j:=2) kz ar rfl (by omega) kz kz (qab qaf) rfl fun ba au=>?_
 refine qbb au (i:=6) (t:=5) (b:=aJ) (o:=aK + 2 * 1) (d:=14) kz (cs:=[.int .u8 ((s.getD 2 0).toNat:Int)]) (v:=.int .u8 ((s.getD 2 0).toNat:Int)) kz (fun w' h'=>h' ▸ (AtF.move ae aa.step nilM qa1).at_) kz kz (qab qaf) rfl fun bd av=>?_
 refine qaF [7,8,9] [(17,.v (.int .u32 (IntKind.u32.wrap (BitVec.ofInt 32 (IntKind.u32.wrap ((s.getD 3 0).toNat:Int)) ||| BitVec.ofInt 32 (IntKind.u32.wrap ((IntKind.u32.wrap ((s.getD 2 0).toNat:Int)) * 256))).toNat))),(18,.v (.slice A s.length c)),(24,.v (.slice A s.length c))] 11 (qab qaf) (fun _ h=>h ▸ aa.cells) rfl av fun bf aw=>?_
 obtain ⟨aM,aN,ax,aO,af⟩:=Slots.get ho (i:=1) (by omega)
 refine qaL aw (i:=11) (t:=22) (A:=A) (m:=s.length) (q:=1) (d:=19) kz (e:=5) (size:=1) (bytes:=1) (j:=1) kz ax rfl (by omega) kz kz (qab qaf) rfl fun bg ay=>?_
 refine qbb ay (i:=12) (t:=5) (b:=aM) (o:=aN + 1 * 1) (d:=20) kz (cs:=[.int .u8 ((s.getD 1 0).toNat:Int)]) (v:=.int .u8 ((s.getD 1 0).toNat:Int)) kz (fun w' h'=>h' ▸ (AtF.move af aa.step nilM qa1).at_) kz kz (qab qaf) rfl fun bh az=>?_
 refine qaF [13,14,15] [(23,.v (.int .u32 (IntKind.u32.wrap (BitVec.ofInt 32 (IntKind.u32.wrap (BitVec.ofInt 32 (IntKind.u32.wrap ((s.getD 3 0).toNat:Int)) ||| BitVec.ofInt 32 (IntKind.u32.wrap ((IntKind.u32.wrap ((s.getD 2 0).toNat:Int)) * 256))).toNat) ||| BitVec.ofInt 32 (IntKind.u32.wrap ((IntKind.u32.wrap ((s.getD 1 0).toNat:Int)) * 65536))).toNat))),(24,.v (.slice A s.length c))] 6 (qab qaf) (fun _ h=>h ▸ aa.cells) rfl az fun bi aA=>?_
 obtain ⟨aP,aQ,aB,aR,ag⟩:=Slots.get ho (i:=0) (by omega)
 refine qaL aA (i:=17) (t:=22) (A:=A) (m:=s.length) (q:=0) (d:=25) kz (e:=5) (size:=1) (bytes:=1) (j:=0) kz aB rfl (by omega) kz kz (qab qaf) rfl fun bj aC=>?_
 refine qbb aC (i:=18) (t:=5) (b:=aP) (o:=aQ + 0 * 1) (d:=26) kz (cs:=[.int .u8 ((s.getD 0 0).toNat:Int)]) (v:=.int .u8 ((s.getD 0 0).toNat:Int)) kz (fun w' h'=>h' ▸ (AtF.move ag aa.step nilM qa1).at_) kz kz (qab qaf) rfl fun bk aD=>?_
 refine qaF [19,20,21,22] [(4,.v (.int .u32 (IntKind.u32.wrap (BitVec.ofInt 32 (IntKind.u32.wrap (BitVec.ofInt 32 (IntKind.u32.wrap (BitVec.ofInt 32 (IntKind.u32.wrap ((s.getD 3 0).toNat:Int)) ||| BitVec.ofInt 32 (IntKind.u32.wrap ((IntKind.u32.wrap ((s.getD 2 0).toNat:Int)) * 256))).toNat) ||| BitVec.ofInt 32 (IntKind.u32.wrap ((IntKind.u32.wrap ((s.getD 1 0).toNat:Int)) * 65536))).toNat) ||| BitVec.ofInt 32 (IntKind.u32.wrap ((IntKind.u32.wrap ((s.getD 0 0).toNat:Int)) * 16777216))).toNat)))] 0 (qab qaf) (fun _ h=>h ▸ aa.cells) rfl aD fun bn aE=>?_
 refine qaE kz ?_ _
 refine qaa ?_
 refine wp_ret ?_
 refine qaN aE aa.cells (v:=.int .u32 (IntKind.u32.wrap (BitVec.ofInt 32 (IntKind.u32.wrap (BitVec.ofInt 32 (IntKind.u32.wrap (BitVec.ofInt 32 (IntKind.u32.wrap ((s.getD 3 0).toNat:Int)) ||| BitVec.ofInt 32 (IntKind.u32.wrap ((IntKind.u32.wrap ((s.getD 2 0).toNat:Int)) * 256))).toNat) ||| BitVec.ofInt 32 (IntKind.u32.wrap ((IntKind.u32.wrap ((s.getD 1 0).toNat:Int)) * 65536))).toNat) ||| BitVec.ofInt 32 (IntKind.u32.wrap ((IntKind.u32.wrap ((s.getD 0 0).toNat:Int)) * 16777216))).toNat)) kz ?_
 exact ⟨congrArg Ending.returned (congrArg (Value.int IntKind.u32) (qkx (oc s 0) (oc s 1) (oc s 2) (oc s 3) ob0 ob1 ob2 ob3)),aa.step⟩
theorem qgS (x:Int) (rest:Bs)  {br:Nat} {A:Option Addr} {m c:Nat} {w:World} {F:Nat → Nat → Prop} (hst:Str w br [.slice A m c,.bool false]) (hr:RdS w F A m c (be 2 x ++ rest)) (hFd:∀ b o,F b o → ¬ RdM br b o) :
  Calls Tryz.prog 141 #[.pointer (some ⟨br,0,none⟩)] w (RdPost w br F rest fun v w'=>v = .int .i16 (IntKind.i16.wrap x)):=by
 obtain ⟨hm,ho⟩:=hr
 subst hm
 have hle:=ho.le
 refine enter (n:=32) Tryz.func141 rfl Tryz.ntmps141 kz fun a hE=>?_
 have hW:WOk w (RdM br) w [⟨br,0,[.slice A ((be 2 x ++ rest).length) c,.bool false],true⟩] []:=WOk.startStr hst
 have hE1:=(hE.grow ⟨br,0,[.slice A ((be 2 x ++ rest).length) c,.bool false],true⟩).recast 0 (.v (.pointer (some ⟨br,0,none⟩))) (.p 0 0) rfl rfl (Nat.le_of_ble_eq_true (n:=1) rfl)
 refine qap [(0,.p 0 0)] hW hE1 fun a1 hE2=>?_
 refine wp_seq ?_
 refine qap [(0,.p 0 0),(9,.v (.bool (decide ((((be 2 x ++ rest).length:Nat):Int) < 2))))] hW hE2 fun a3 hE4=>?_
 refine qar hE4 (b:=decide ((((be 2 x ++ rest).length:Nat):Int) < 2)) kz (decide_eq_false (by first | omega | (simp only [List.length_append,be_length,List.length_cons,List.length_nil] at *; omega))) ?_
 refine wp_skip ?_
 refine qaa ?_
 refine qaO 7 kz hW fun w5 hF6 hW7 hT8=>?_
 refine qaF [1,2,3,4] [(0,.p 0 0),(20,.v (.slice A ((be 2 x ++ rest).length) c))] 4 (qab qaf) (fun _ h=>h.cells) hT8 hE4 fun a9 af=>?_
 refine qbb af (i:=0) (t:=211) (b:=0) (o:=0) (d:=16) kz (cs:=[]) (v:=.agg #[]) kz (fun w' h'=>(fun j_ v_ h_=>by simp at h_)) kz kz (qab qaf) hT8 fun av ag=>?_
 refine qaw (i:=5) kz (qak ag (f:=189) (vs:=[.agg #[],.slice A ((be 2 x ++ rest).length) c]) (d:=21) kz Tryz.call189 (qkU _ (ho.move hW7.step (fun b_ o_ h_ _=>hFd b_ o_ h_) (hW7.immM hFd)) (by first | omega | (simp only [List.length_append,be_length,List.length_cons,List.length_nil] at *; omega))) ?_)
 rintro e_ aw ⟨rfl,ac⟩
 refine ⟨_,rfl,fun ax ah=>?_⟩
 have aa:=hW7.next_nil ac
 have ai:=hW7.frN ac
 have ae:=TT.ofW ai aa
 refine ⟨fun _=>ae,?_⟩
 refine qaF [6] [(0,.p 0 0),(22,.v (.int .i16 (IntKind.i16.wrap (be16 (be 2 x ++ rest)))))] 1 (qab qaf) (fun _ h=>h.cells) ae ah fun ay aj=>?_
 refine qaw (i:=7) kz (qbH [0,3] aa.cells aj (env':=[(0,.p 0 0),(3,.v (.int .i16 (IntKind.i16.wrap (be16 (be 2 x ++ rest)))))]) kz fun az ak=>?_)
 refine ⟨fun h=>absurd rfl h,?_⟩
 refine qaE kz ?_ _
 refine qaa ?_
 refine qac [0,1,2,3,4,5,6,7,8] kz ?_
 refine qai [0,1,2,3,4] [5,6,7,8] [(3,.v (.int .i16 (IntKind.i16.wrap (be16 (be 2 x ++ rest))))),(23,.p 0 0),(27,.v (.slice A ((be 2 x ++ rest).length) c))] aa ak fun aA al=>?_
 refine qaj (qca al (t:=22) (A:=A) (m:=((be 2 x ++ rest).length)) (cp:=c) (q:=2) (d:=28) (j:=2) kz (e:=5) (bytes:=1) kz (rfl) (by first | omega | (simp only [List.length_append,be_length,List.length_cons,List.length_nil] at *; omega)) fun aB am=>?_)
 refine qai [6,7] [8] [(3,.v (.int .i16 (IntKind.i16.wrap (be16 (be 2 x ++ rest))))),(28,.v (.slice (cutA A c 2) (((be 2 x ++ rest).length) - 2) (c - 2))),(30,.p 0 0)] aa am fun aC ao=>?_
 refine qaj (qam aa ao (oi:=0) (cs:=[.slice (cutA A c 2) (((be 2 x ++ rest).length) - 2) (c - 2),.bool false]) kz fun aD au ab ap=>?_)
 refine qae (qaa ?_)
 refine qap [(2,.v (.int .i16 (IntKind.i16.wrap (be16 (be 2 x ++ rest)))))] ab ap fun aE ar=>?_
 refine wp_ret ?_
 refine qaN ar ab.cells (v:=.int .i16 (IntKind.i16.wrap (be16 (be 2 x ++ rest)))) kz ?_
 exact ⟨_,_,_,_,rfl,Str.of ab 0 rfl,RdS.drop (s:=be 2 x) ⟨rfl,ho.move ab.step (fun b_ o_ h_ _=>hFd b_ o_ h_) qa1⟩ (by simp only [be_length,List.length_cons,List.length_nil]),ab.step,by rw [qjZ,qj1]⟩
theorem qjD (x:Int) (rest:Bs)  {br:Nat} {A:Option Addr} {m c:Nat} {w:World} {F:Nat → Nat → Prop} (hst:Str w br [.slice A m c,.bool false]) (hr:RdS w F A m c (be 4 x ++ rest)) (hFd:∀ b o,F b o → ¬ RdM br b o) :
  Calls Tryz.prog 139 #[.pointer (some ⟨br,0,none⟩)] w (RdPost w br F rest fun v w'=>v = .int .i32 (IntKind.i32.wrap x)):=by
 obtain ⟨hm,ho⟩:=hr
 subst hm
 have hle:=ho.le
 refine enter (n:=32) Tryz.func139 rfl Tryz.ntmps139 kz fun a hE=>?_
 have hW:WOk w (RdM br) w [⟨br,0,[.slice A ((be 4 x ++ rest).length) c,.bool false],true⟩] []:=WOk.startStr hst
 have hE1:=(hE.grow ⟨br,0,[.slice A ((be 4 x ++ rest).length) c,.bool false],true⟩).recast 0 (.v (.pointer (some ⟨br,0,none⟩))) (.p 0 0) rfl rfl (Nat.le_of_ble_eq_true (n:=1) rfl)
 refine qap [(0,.p 0 0)] hW hE1 fun a1 hE2=>?_
 refine wp_seq ?_
 refine qap [(0,.p 0 0),(9,.v (.bool (decide ((((be 4 x ++ rest).length:Nat):Int) < 4))))] hW hE2 fun a3 hE4=>?_
 refine qar hE4 (b:=decide ((((be 4 x ++ rest).length:Nat):Int) < 4)) kz (decide_eq_false (by first | omega | (simp only [List.length_append,be_length,List.length_cons,List.length_nil] at *; omega))) ?_
 refine wp_skip ?_
 refine qaa ?_
 refine qaO 7 kz hW fun w5 hF6 hW7 hT8=>?_
 refine qaF [1,2,3,4] [(0,.p 0 0),(20,.v (.slice A ((be 4 x ++ rest).length) c))] 4 (qab qaf) (fun _ h=>h.cells) hT8 hE4 fun a9 af=>?_
 refine qbb af (i:=0) (t:=211) (b:=0) (o:=0) (d:=16) kz (cs:=[]) (v:=.agg #[]) kz (fun w' h'=>(fun j_ v_ h_=>by simp at h_)) kz kz (qab qaf) hT8 fun av ag=>?_
 refine qaw (i:=5) kz (qak ag (f:=188) (vs:=[.agg #[],.slice A ((be 4 x ++ rest).length) c]) (d:=21) kz Tryz.call188 (qkV _ (ho.move hW7.step (fun b_ o_ h_ _=>hFd b_ o_ h_) (hW7.immM hFd)) (by first | omega | (simp only [List.length_append,be_length,List.length_cons,List.length_nil] at *; omega))) ?_)
 rintro e_ aw ⟨rfl,ac⟩
 refine ⟨_,rfl,fun ax ah=>?_⟩
 have aa:=hW7.next_nil ac
 have ai:=hW7.frN ac
 have ae:=TT.ofW ai aa
 refine ⟨fun _=>ae,?_⟩
 refine qaF [6] [(0,.p 0 0),(22,.v (.int .i32 (IntKind.i32.wrap (be32 (be 4 x ++ rest)))))] 1 (qab qaf) (fun _ h=>h.cells) ae ah fun ay aj=>?_
 refine qaw (i:=7) kz (qbH [0,3] aa.cells aj (env':=[(0,.p 0 0),(3,.v (.int .i32 (IntKind.i32.wrap (be32 (be 4 x ++ rest)))))]) kz fun az ak=>?_)
 refine ⟨fun h=>absurd rfl h,?_⟩
 refine qaE kz ?_ _
 refine qaa ?_
 refine qac [0,1,2,3,4,5,6,7,8] kz ?_
 refine qai [0,1,2,3,4] [5,6,7,8] [(3,.v (.int .i32 (IntKind.i32.wrap (be32 (be 4 x ++ rest))))),(23,.p 0 0),(27,.v (.slice A ((be 4 x ++ rest).length) c))] aa ak fun aA al=>?_
 refine qaj (qca al (t:=22) (A:=A) (m:=((be 4 x ++ rest).length)) (cp:=c) (q:=4) (d:=28) (j:=4) kz (e:=5) (bytes:=1) kz (rfl) (by first | omega | (simp only [List.length_append,be_length,List.length_cons,List.length_nil] at *; omega)) fun aB am=>?_)
 refine qai [6,7] [8] [(3,.v (.int .i32 (IntKind.i32.wrap (be32 (be 4 x ++ rest))))),(28,.v (.slice (cutA A c 4) (((be 4 x ++ rest).length) - 4) (c - 4))),(30,.p 0 0)] aa am fun aC ao=>?_
 refine qaj (qam aa ao (oi:=0) (cs:=[.slice (cutA A c 4) (((be 4 x ++ rest).length) - 4) (c - 4),.bool false]) kz fun aD au ab ap=>?_)
 refine qae (qaa ?_)
 refine qap [(2,.v (.int .i32 (IntKind.i32.wrap (be32 (be 4 x ++ rest)))))] ab ap fun aE ar=>?_
 refine wp_ret ?_
 refine qaN ar ab.cells (v:=.int .i32 (IntKind.i32.wrap (be32 (be 4 x ++ rest)))) kz ?_
 exact ⟨_,_,_,_,rfl,Str.of ab 0 rfl,RdS.drop (s:=be 4 x) ⟨rfl,ho.move ab.step (fun b_ o_ h_ _=>hFd b_ o_ h_) qa1⟩ (by simp only [be_length,List.length_cons,List.length_nil]),ab.step,by rw [qj0,qj2]⟩
theorem qkW (x:Int) (rest:Bs)  {br:Nat} {A:Option Addr} {m c:Nat} {w:World} {F:Nat → Nat → Prop} (hst:Str w br [.slice A m c,.bool false]) (hr:RdS w F A m c (be 1 x ++ rest)) (hFd:∀ b o,F b o → ¬ RdM br b o) :
  Calls Tryz.prog 163 #[.pointer (some ⟨br,0,none⟩)] w (RdPost w br F rest fun v w'=>v = .int .i8 (IntKind.i8.wrap x)):=by
 obtain ⟨hm,ho⟩:=hr
 subst hm
 have hle:=ho.le
 refine enter (n:=32) Tryz.func163 rfl Tryz.ntmps163 kz fun a hE=>?_
 have hW:WOk w (RdM br) w [⟨br,0,[.slice A ((be 1 x ++ rest).length) c,.bool false],true⟩] []:=WOk.startStr hst
 have hE1:=(hE.grow ⟨br,0,[.slice A ((be 1 x ++ rest).length) c,.bool false],true⟩).recast 0 (.v (.pointer (some ⟨br,0,none⟩))) (.p 0 0) rfl rfl (Nat.le_of_ble_eq_true (n:=1) rfl)
 refine qap [(0,.p 0 0)] hW hE1 fun a1 hE2=>?_
 refine wp_seq ?_
 refine qap [(0,.p 0 0),(9,.v (.bool (decide ((((be 1 x ++ rest).length:Nat):Int) < 1))))] hW hE2 fun a3 hE4=>?_
 refine qar hE4 (b:=decide ((((be 1 x ++ rest).length:Nat):Int) < 1)) kz (decide_eq_false (by first | omega | (simp only [List.length_append,be_length,List.length_cons,List.length_nil] at *; omega))) ?_
 refine wp_skip ?_
 refine qaa ?_
 refine qac [0,1,2,3,4,5,6] kz ?_
 refine qai [0,1,2,3] [4,5,6] [(0,.p 0 0),(19,.v (.slice A ((be 1 x ++ rest).length) c))] hW hE4 fun a5 hE6=>?_
 obtain ⟨b7,o8,hA9,al,ab⟩:=Slots.get ho (i:=0) (by first | omega | (simp only [List.length_append,be_length,List.length_cons,List.length_nil] at *; omega))
 refine qaj (qas hE6 (t:=22) (A:=A) (m:=((be 1 x ++ rest).length)) (q:=0) (d:=20) kz (e:=5) (size:=1) (bytes:=1) (j:=0) kz hA9 rfl (by first | omega | (simp only [List.length_append,be_length,List.length_cons,List.length_nil] at *; omega)) fun ao ac=>?_)
 refine qaj (qaD ac (t:=5) (b:=b7) (o:=o8 + 0 * 1) (d:=21) kz (cs:=[.int .u8 (((be 1 x ++ rest).getD 0 0).toNat:Int)]) (v:=.int .u8 (((be 1 x ++ rest).getD 0 0).toNat:Int)) kz (AtF.move ab hW.step (fun b_ o_ h_ _=>hFd b_ o_ h_) qa1).at_ fun ap ae=>?_)
 refine qai [6] [] [(0,.p 0 0),(3,.v (.int .u8 (((be 1 x ++ rest).getD 0 0).toNat:Int)))] hW ae fun ar af=>?_
 refine qae (qaa ?_)
 refine qac [0,1,2,3,4,5,6,7,8] kz ?_
 refine qai [0,1,2,3,4] [5,6,7,8] [(3,.v (.int .u8 (((be 1 x ++ rest).getD 0 0).toNat:Int))),(22,.p 0 0),(26,.v (.slice A ((be 1 x ++ rest).length) c))] hW af fun au ag=>?_
 refine qaj (qca ag (t:=22) (A:=A) (m:=((be 1 x ++ rest).length)) (cp:=c) (q:=1) (d:=27) (j:=1) kz (e:=5) (bytes:=1) kz (rfl) (by first | omega | (simp only [List.length_append,be_length,List.length_cons,List.length_nil] at *; omega)) fun av ah=>?_)
 refine qai [6,7] [8] [(3,.v (.int .u8 (((be 1 x ++ rest).getD 0 0).toNat:Int))),(27,.v (.slice (cutA A c 1) (((be 1 x ++ rest).length) - 1) (c - 1))),(29,.p 0 0)] hW ah fun aw ai=>?_
 refine qaj (qam hW ai (oi:=0) (cs:=[.slice (cutA A c 1) (((be 1 x ++ rest).length) - 1) (c - 1),.bool false]) kz fun ax am aa aj=>?_)
 refine qae (qaa ?_)
 refine qap [(2,.v (.int .i8 (IntKind.i8.wrap (((be 1 x ++ rest).getD 0 0).toNat:Int))))] aa aj fun ay ak=>?_
 refine wp_ret ?_
 refine qaN ak aa.cells (v:=.int .i8 (IntKind.i8.wrap (((be 1 x ++ rest).getD 0 0).toNat:Int))) kz ?_
 exact ⟨_,_,_,_,rfl,Str.of aa 0 rfl,RdS.drop (s:=be 1 x) ⟨rfl,ho.move aa.step (fun b_ o_ h_ _=>hFd b_ o_ h_) qa1⟩ (by simp only [be_length,List.length_cons,List.length_nil]),aa.step,by rw [qku,qkv]⟩
theorem qkX (y:Bool) (rest:Bs)  {br:Nat} {A:Option Addr} {m c:Nat} {w:World} {F:Nat → Nat → Prop} (hst:Str w br [.slice A m c,.bool false]) (hr:RdS w F A m c ([by8 (if y then 1 else 0)] ++ rest)) (hFd:∀ b o,F b o → ¬ RdM br b o) :
  Calls Tryz.prog 140 #[.pointer (some ⟨br,0,none⟩)] w (RdPost w br F rest fun v w'=>v = .bool y):=by
 obtain ⟨hm,ho⟩:=hr
 subst hm
 have hle:=ho.le
 refine enter (n:=32) Tryz.func140 rfl Tryz.ntmps140 kz fun a hE=>?_
 have hW:WOk w (RdM br) w [⟨br,0,[.slice A (([by8 (if y then 1 else 0)] ++ rest).length) c,.bool false],true⟩] []:=WOk.startStr hst
 have hE1:=(hE.grow ⟨br,0,[.slice A (([by8 (if y then 1 else 0)] ++ rest).length) c,.bool false],true⟩).recast 0 (.v (.pointer (some ⟨br,0,none⟩))) (.p 0 0) rfl rfl (Nat.le_of_ble_eq_true (n:=1) rfl)
 refine qap [(0,.p 0 0)] hW hE1 fun a1 hE2=>?_
 refine wp_seq ?_
 refine qap [(0,.p 0 0),(9,.v (.bool (decide (((([by8 (if y then 1 else 0)] ++ rest).length:Nat):Int) < 1))))] hW hE2 fun a3 hE4=>?_
 refine qar hE4 (b:=decide (((([by8 (if y then 1 else 0)] ++ rest).length:Nat):Int) < 1)) kz (decide_eq_false (by first | omega | (simp only [List.length_append,be_length,List.length_cons,List.length_nil] at *; omega))) ?_
 refine wp_skip ?_
 refine qaa ?_
 refine qac [0,1,2,3,4,5,6,7] kz ?_
 refine qai [0,1,2,3] [4,5,6,7] [(0,.p 0 0),(19,.v (.slice A (([by8 (if y then 1 else 0)] ++ rest).length) c))] hW hE4 fun a5 hE6=>?_
 obtain ⟨b7,o8,hA9,al,ab⟩:=Slots.get ho (i:=0) (by first | omega | (simp only [List.length_append,be_length,List.length_cons,List.length_nil] at *; omega))
 refine qaj (qas hE6 (t:=22) (A:=A) (m:=(([by8 (if y then 1 else 0)] ++ rest).length)) (q:=0) (d:=20) kz (e:=5) (size:=1) (bytes:=1) (j:=0) kz hA9 rfl (by first | omega | (simp only [List.length_append,be_length,List.length_cons,List.length_nil] at *; omega)) fun ao ac=>?_)
 refine qaj (qaD ac (t:=5) (b:=b7) (o:=o8 + 0 * 1) (d:=21) kz (cs:=[.int .u8 ((([by8 (if y then 1 else 0)] ++ rest).getD 0 0).toNat:Int)]) (v:=.int .u8 ((([by8 (if y then 1 else 0)] ++ rest).getD 0 0).toNat:Int)) kz (AtF.move ab hW.step (fun b_ o_ h_ _=>hFd b_ o_ h_) qa1).at_ fun ap ae=>?_)
 refine qai [6,7] [] [(0,.p 0 0),(3,.v (.bool (((([by8 (if y then 1 else 0)] ++ rest).getD 0 0).toNat:Int) != 0)))] hW ae fun ar af=>?_
 refine qae (qaa ?_)
 refine qac [0,1,2,3,4,5,6,7,8] kz ?_
 refine qai [0,1,2,3,4] [5,6,7,8] [(3,.v (.bool (((([by8 (if y then 1 else 0)] ++ rest).getD 0 0).toNat:Int) != 0))),(23,.p 0 0),(27,.v (.slice A (([by8 (if y then 1 else 0)] ++ rest).length) c))] hW af fun au ag=>?_
 refine qaj (qca ag (t:=22) (A:=A) (m:=(([by8 (if y then 1 else 0)] ++ rest).length)) (cp:=c) (q:=1) (d:=28) (j:=1) kz (e:=5) (bytes:=1) kz (rfl) (by first | omega | (simp only [List.length_append,be_length,List.length_cons,List.length_nil] at *; omega)) fun av ah=>?_)
 refine qai [6,7] [8] [(3,.v (.bool (((([by8 (if y then 1 else 0)] ++ rest).getD 0 0).toNat:Int) != 0))),(28,.v (.slice (cutA A c 1) ((([by8 (if y then 1 else 0)] ++ rest).length) - 1) (c - 1))),(30,.p 0 0)] hW ah fun aw ai=>?_
 refine qaj (qam hW ai (oi:=0) (cs:=[.slice (cutA A c 1) ((([by8 (if y then 1 else 0)] ++ rest).length) - 1) (c - 1),.bool false]) kz fun ax am aa aj=>?_)
 refine qae (qaa ?_)
 refine qap [(2,.v (.bool (((([by8 (if y then 1 else 0)] ++ rest).getD 0 0).toNat:Int) != 0)))] aa aj fun ay ak=>?_
 refine wp_ret ?_
 refine qaN ak aa.cells (v:=.bool (((([by8 (if y then 1 else 0)] ++ rest).getD 0 0).toNat:Int) != 0)) kz ?_
 exact ⟨_,_,_,_,rfl,Str.of aa 0 rfl,RdS.drop (s:=[by8 (if y then 1 else 0)]) ⟨rfl,ho.move aa.step (fun b_ o_ h_ _=>hFd b_ o_ h_) qa1⟩ (by simp only [be_length,List.length_cons,List.length_nil]),aa.step,by cases y <;> rfl⟩
theorem rUv1 {A:Option Addr} {c:Nat} (s:Bs) {w:World} {F:Nat → Nat → Prop} (ho:Octs w F A c s) (hl:1 ≤ s.length) (d0:Nat) (h0:oc s 0 = d0) (g0:d0 < 128) :
  Calls Tryz.prog 205 #[.slice A s.length c] w (qch w (.tuple #[.int .u32 ((d0:Nat):Int),.int .i64 1])):=by
 refine enter (n:=87) Tryz.func205 rfl Tryz.ntmps205 kz fun a hE=>?_
 have hW:=WOk.start w Nil
 refine qap [(0,.v (.slice A s.length c))] hW hE fun a1 hE2=>?_
 refine wp_scope_straight ?_
 refine qap [(0,.v (.slice A s.length c))] hW hE2 fun a3 hE4=>?_
 refine qap [(0,.v (.slice A s.length c))] hW hE4 fun a5 hE6=>?_
 refine wp_seq ?_
 refine qap [(0,.v (.slice A s.length c)),(8,.v (.bool (decide (((s.length:Nat):Int) < 1))))] hW hE6 fun a7 hE8=>?_
 refine qar hE8 (b:=decide (((s.length:Nat):Int) < 1)) kz (decide_eq_false (by omega)) ?_
 refine wp_skip ?_
 refine qaa ?_
 refine qac [0,1,2,3,4,5] kz ?_
 refine qai [0] [1,2,3,4,5] [(0,.v (.slice A s.length c)),(9,.v (.slice A s.length c))] hW hE8 fun a9 ae=>?_
 obtain ⟨am,ao,ab,ap,aa⟩:=Slots.get ho (i:=0) (by first | omega | (simp only [List.length_append,be_length,List.length_cons,List.length_nil] at *; omega))
 refine qaj (qas ae (t:=22) (A:=A) (m:=s.length) (q:=0) (d:=10) kz (e:=5) (size:=1) (bytes:=1) (j:=0) kz ab rfl (by first | omega | (simp only [List.length_append,be_length,List.length_cons,List.length_nil] at *; omega)) fun ar af=>?_)
 refine qaj (qaD af (t:=5) (b:=am) (o:=ao + 0 * 1) (d:=11) kz (cs:=[.int .u8 ((s.getD 0 0).toNat:Int)]) (v:=.int .u8 ((s.getD 0 0).toNat:Int)) kz (AtF.move aa hW.step nilM qa1).at_ fun au ag=>?_)
 refine qai [3,4,5] [] [(0,.v (.slice A s.length c)),(4,.v (.int .u32 (IntKind.u32.wrap (IntKind.u8.wrap (BitVec.ofInt 8 ((s.getD 0 0).toNat:Int) &&& BitVec.ofInt 8 127).toNat))))] hW ag fun av ah=>?_
 refine qae (qaa ?_)
 refine wp_seq ?_
 refine qac [0,1,2,3,4] kz ?_
 refine qai [0] [1,2,3,4] [(0,.v (.slice A s.length c)),(4,.v (.int .u32 (IntKind.u32.wrap (IntKind.u8.wrap (BitVec.ofInt 8 ((s.getD 0 0).toNat:Int) &&& BitVec.ofInt 8 127).toNat)))),(14,.v (.slice A s.length c))] hW ah fun aw ai=>?_
 refine qaj (qas ai (t:=22) (A:=A) (m:=s.length) (q:=0) (d:=15) kz (e:=5) (size:=1) (bytes:=1) (j:=0) kz ab rfl (by first | omega | (simp only [List.length_append,be_length,List.length_cons,List.length_nil] at *; omega)) fun ax aj=>?_)
 refine qaj (qaD aj (t:=5) (b:=am) (o:=ao + 0 * 1) (d:=16) kz (cs:=[.int .u8 ((s.getD 0 0).toNat:Int)]) (v:=.int .u8 ((s.getD 0 0).toNat:Int)) kz (AtF.move aa hW.step nilM qa1).at_ fun ay ak=>?_)
 refine qai [3,4] [] [(0,.v (.slice A s.length c)),(4,.v (.int .u32 (IntKind.u32.wrap (IntKind.u8.wrap (BitVec.ofInt 8 ((s.getD 0 0).toNat:Int) &&& BitVec.ofInt 8 127).toNat)))),(18,.v (.bool ((IntKind.u8.wrap (BitVec.ofInt 8 ((s.getD 0 0).toNat:Int) &&& BitVec.ofInt 8 128).toNat) == 0)))] hW ak fun az ac=>?_
 refine qae (qaa ?_)
 refine qbf ac (b:=(IntKind.u8.wrap (BitVec.ofInt 8 ((s.getD 0 0).toNat:Int) &&& BitVec.ofInt 8 128).toNat) == 0) kz ((qcy _ (qbP s 0)).trans (decide_eq_true (by have:=h0; unfold oc at this; omega))) ?_
 refine qap [(2,.v (.int .u32 (IntKind.u32.wrap (IntKind.u8.wrap (BitVec.ofInt 8 ((s.getD 0 0).toNat:Int) &&& BitVec.ofInt 8 127).toNat)))),(3,.v (.int .i64 1))] hW ac fun aA al=>?_
 refine wp_ret ?_
 refine qax ?_
 refine qda ?_
 refine qaN al hW.cells (v:=.tuple #[.int .u32 (IntKind.u32.wrap (IntKind.u8.wrap (BitVec.ofInt 8 ((s.getD 0 0).toNat:Int) &&& BitVec.ofInt 8 127).toNat)),.int .i64 1]) kz ?_
 have e_:=uv_1 (oc s 0) (qbP s 0)
 refine ⟨congrArg (fun z_:Int=>Ending.returned (.tuple #[.int .u32 z_,.int .i64 1])) (Eq.trans e_ ?_),hW.step⟩
 omega
theorem rUv2 {A:Option Addr} {c:Nat} (s:Bs) {w:World} {F:Nat → Nat → Prop} (ho:Octs w F A c s) (hl:2 ≤ s.length) (d0 d1:Nat) (h0:oc s 0 = d0 + 128) (h1:oc s 1 = d1) (g0:d0 < 128) (g1:d1 < 128) :
  Calls Tryz.prog 205 #[.slice A s.length c] w (qch w (.tuple #[.int .u32 ((d0 + d1 * 128:Nat):Int),.int .i64 2])):=by
 refine enter (n:=87) Tryz.func205 rfl Tryz.ntmps205 kz fun a hE=>?_
 have hW:=WOk.start w Nil
 refine qap [(0,.v (.slice A s.length c))] hW hE fun a1 hE2=>?_
 refine wp_scope_straight ?_
 refine qap [(0,.v (.slice A s.length c))] hW hE2 fun a3 hE4=>?_
 refine qap [(0,.v (.slice A s.length c))] hW hE4 fun a5 hE6=>?_
 refine wp_seq ?_
 refine qap [(0,.v (.slice A s.length c)),(8,.v (.bool (decide (((s.length:Nat):Int) < 1))))] hW hE6 fun a7 hE8=>?_
 refine qar hE8 (b:=decide (((s.length:Nat):Int) < 1)) kz (decide_eq_false (by omega)) ?_
 refine wp_skip ?_
 refine qaa ?_
 refine qac [0,1,2,3,4,5] kz ?_
 refine qai [0] [1,2,3,4,5] [(0,.v (.slice A s.length c)),(9,.v (.slice A s.length c))] hW hE8 fun a9 ai=>?_
 obtain ⟨aB,aC,ac,aF,aa⟩:=Slots.get ho (i:=0) (by first | omega | (simp only [List.length_append,be_length,List.length_cons,List.length_nil] at *; omega))
 refine qaj (qas ai (t:=22) (A:=A) (m:=s.length) (q:=0) (d:=10) kz (e:=5) (size:=1) (bytes:=1) (j:=0) kz ac rfl (by first | omega | (simp only [List.length_append,be_length,List.length_cons,List.length_nil] at *; omega)) fun aH aj=>?_)
 refine qaj (qaD aj (t:=5) (b:=aB) (o:=aC + 0 * 1) (d:=11) kz (cs:=[.int .u8 ((s.getD 0 0).toNat:Int)]) (v:=.int .u8 ((s.getD 0 0).toNat:Int)) kz (AtF.move aa hW.step nilM qa1).at_ fun aI ak=>?_)
 refine qai [3,4,5] [] [(0,.v (.slice A s.length c)),(4,.v (.int .u32 (IntKind.u32.wrap (IntKind.u8.wrap (BitVec.ofInt 8 ((s.getD 0 0).toNat:Int) &&& BitVec.ofInt 8 127).toNat))))] hW ak fun aJ al=>?_
 refine qae (qaa ?_)
 refine wp_seq ?_
 refine qac [0,1,2,3,4] kz ?_
 refine qai [0] [1,2,3,4] [(0,.v (.slice A s.length c)),(4,.v (.int .u32 (IntKind.u32.wrap (IntKind.u8.wrap (BitVec.ofInt 8 ((s.getD 0 0).toNat:Int) &&& BitVec.ofInt 8 127).toNat)))),(14,.v (.slice A s.length c))] hW al fun aK am=>?_
 refine qaj (qas am (t:=22) (A:=A) (m:=s.length) (q:=0) (d:=15) kz (e:=5) (size:=1) (bytes:=1) (j:=0) kz ac rfl (by first | omega | (simp only [List.length_append,be_length,List.length_cons,List.length_nil] at *; omega)) fun aL ao=>?_)
 refine qaj (qaD ao (t:=5) (b:=aB) (o:=aC + 0 * 1) (d:=16) kz (cs:=[.int .u8 ((s.getD 0 0).toNat:Int)]) (v:=.int .u8 ((s.getD 0 0).toNat:Int)) kz (AtF.move aa hW.step nilM qa1).at_ fun aM ap=>?_)
 refine qai [3,4] [] [(0,.v (.slice A s.length c)),(4,.v (.int .u32 (IntKind.u32.wrap (IntKind.u8.wrap (BitVec.ofInt 8 ((s.getD 0 0).toNat:Int) &&& BitVec.ofInt 8 127).toNat)))),(18,.v (.bool ((IntKind.u8.wrap (BitVec.ofInt 8 ((s.getD 0 0).toNat:Int) &&& BitVec.ofInt 8 128).toNat) == 0)))] hW ap fun aN ae=>?_
 refine qae (qaa ?_)
 refine qar ae (b:=(IntKind.u8.wrap (BitVec.ofInt 8 ((s.getD 0 0).toNat:Int) &&& BitVec.ofInt 8 128).toNat) == 0) kz ((qcy _ (qbP s 0)).trans (decide_eq_false (by have:=h0; unfold oc at this; omega))) ?_
 refine qap [(0,.v (.slice A s.length c)),(4,.v (.int .u32 (IntKind.u32.wrap (IntKind.u8.wrap (BitVec.ofInt 8 ((s.getD 0 0).toNat:Int) &&& BitVec.ofInt 8 127).toNat)))),(22,.v (.bool (decide (((s.length:Nat):Int) < 2))))] hW ae fun aO af=>?_
 refine qar af (b:=decide (((s.length:Nat):Int) < 2)) kz (decide_eq_false (by omega)) ?_
 refine wp_skip ?_
 refine qaa ?_
 refine qac [0,1,2,3,4,5,6,7,8] kz ?_
 refine qai [0,1] [2,3,4,5,6,7,8] [(0,.v (.slice A s.length c)),(23,.v (.int .u32 (IntKind.u32.wrap (IntKind.u8.wrap (BitVec.ofInt 8 ((s.getD 0 0).toNat:Int) &&& BitVec.ofInt 8 127).toNat)))),(24,.v (.slice A s.length c))] hW af fun aP ar=>?_
 obtain ⟨aD,aE,ag,aG,ab⟩:=Slots.get ho (i:=1) (by first | omega | (simp only [List.length_append,be_length,List.length_cons,List.length_nil] at *; omega))
 refine qaj (qas ar (t:=22) (A:=A) (m:=s.length) (q:=1) (d:=25) kz (e:=5) (size:=1) (bytes:=1) (j:=1) kz ag rfl (by first | omega | (simp only [List.length_append,be_length,List.length_cons,List.length_nil] at *; omega)) fun aQ au=>?_)
 refine qaj (qaD au (t:=5) (b:=aD) (o:=aE + 1 * 1) (d:=26) kz (cs:=[.int .u8 ((s.getD 1 0).toNat:Int)]) (v:=.int .u8 ((s.getD 1 0).toNat:Int)) kz (AtF.move ab hW.step nilM qa1).at_ fun aR av=>?_)
 refine qai [4,5,6,7,8] [] [(0,.v (.slice A s.length c)),(4,.v (.int .u32 (IntKind.u32.wrap (BitVec.ofInt 32 (IntKind.u32.wrap (IntKind.u8.wrap (BitVec.ofInt 8 ((s.getD 0 0).toNat:Int) &&& BitVec.ofInt 8 127).toNat)) ||| BitVec.ofInt 32 (IntKind.u32.wrap ((IntKind.u32.wrap (IntKind.u8.wrap (BitVec.ofInt 8 ((s.getD 1 0).toNat:Int) &&& BitVec.ofInt 8 127).toNat)) * 128))).toNat)))] hW av fun aS aw=>?_
 refine qae (qaa ?_)
 refine wp_seq ?_
 refine qac [0,1,2,3,4] kz ?_
 refine qai [0] [1,2,3,4] [(0,.v (.slice A s.length c)),(4,.v (.int .u32 (IntKind.u32.wrap (BitVec.ofInt 32 (IntKind.u32.wrap (IntKind.u8.wrap (BitVec.ofInt 8 ((s.getD 0 0).toNat:Int) &&& BitVec.ofInt 8 127).toNat)) ||| BitVec.ofInt 32 (IntKind.u32.wrap ((IntKind.u32.wrap (IntKind.u8.wrap (BitVec.ofInt 8 ((s.getD 1 0).toNat:Int) &&& BitVec.ofInt 8 127).toNat)) * 128))).toNat))),(31,.v (.slice A s.length c))] hW aw fun aT ax=>?_
 refine qaj (qas ax (t:=22) (A:=A) (m:=s.length) (q:=1) (d:=32) kz (e:=5) (size:=1) (bytes:=1) (j:=1) kz ag rfl (by first | omega | (simp only [List.length_append,be_length,List.length_cons,List.length_nil] at *; omega)) fun aU ay=>?_)
 refine qaj (qaD ay (t:=5) (b:=aD) (o:=aE + 1 * 1) (d:=33) kz (cs:=[.int .u8 ((s.getD 1 0).toNat:Int)]) (v:=.int .u8 ((s.getD 1 0).toNat:Int)) kz (AtF.move ab hW.step nilM qa1).at_ fun aV az=>?_)
 refine qai [3,4] [] [(0,.v (.slice A s.length c)),(4,.v (.int .u32 (IntKind.u32.wrap (BitVec.ofInt 32 (IntKind.u32.wrap (IntKind.u8.wrap (BitVec.ofInt 8 ((s.getD 0 0).toNat:Int) &&& BitVec.ofInt 8 127).toNat)) ||| BitVec.ofInt 32 (IntKind.u32.wrap ((IntKind.u32.wrap (IntKind.u8.wrap (BitVec.ofInt 8 ((s.getD 1 0).toNat:Int) &&& BitVec.ofInt 8 127).toNat)) * 128))).toNat))),(35,.v (.bool ((IntKind.u8.wrap (BitVec.ofInt 8 ((s.getD 1 0).toNat:Int) &&& BitVec.ofInt 8 128).toNat) == 0)))] hW az fun aW ah=>?_
 refine qae (qaa ?_)
 refine qbf ah (b:=(IntKind.u8.wrap (BitVec.ofInt 8 ((s.getD 1 0).toNat:Int) &&& BitVec.ofInt 8 128).toNat) == 0) kz ((qcy _ (qbP s 1)).trans (decide_eq_true (by have:=h1; unfold oc at this; omega))) ?_
 refine qap [(2,.v (.int .u32 (IntKind.u32.wrap (BitVec.ofInt 32 (IntKind.u32.wrap (IntKind.u8.wrap (BitVec.ofInt 8 ((s.getD 0 0).toNat:Int) &&& BitVec.ofInt 8 127).toNat)) ||| BitVec.ofInt 32 (IntKind.u32.wrap ((IntKind.u32.wrap (IntKind.u8.wrap (BitVec.ofInt 8 ((s.getD 1 0).toNat:Int) &&& BitVec.ofInt 8 127).toNat)) * 128))).toNat))),(3,.v (.int .i64 2))] hW ah fun aX aA=>?_
 refine wp_ret ?_
 refine qax ?_
 refine qda ?_
 refine qaN aA hW.cells (v:=.tuple #[.int .u32 (IntKind.u32.wrap (BitVec.ofInt 32 (IntKind.u32.wrap (IntKind.u8.wrap (BitVec.ofInt 8 ((s.getD 0 0).toNat:Int) &&& BitVec.ofInt 8 127).toNat)) ||| BitVec.ofInt 32 (IntKind.u32.wrap ((IntKind.u32.wrap (IntKind.u8.wrap (BitVec.ofInt 8 ((s.getD 1 0).toNat:Int) &&& BitVec.ofInt 8 127).toNat)) * 128))).toNat),.int .i64 2]) kz ?_
 have e_:=uv_2 (oc s 0) (oc s 1) (qbP s 0) (qbP s 1)
 refine ⟨congrArg (fun z_:Int=>Ending.returned (.tuple #[.int .u32 z_,.int .i64 2])) (Eq.trans e_ ?_),hW.step⟩
 omega
theorem rUv3 {A:Option Addr} {c:Nat} (s:Bs) {w:World} {F:Nat → Nat → Prop} (ho:Octs w F A c s) (hl:3 ≤ s.length) (d0 d1 d2:Nat) (h0:oc s 0 = d0 + 128) (h1:oc s 1 = d1 + 128) (h2:oc s 2 = d2) (g0:d0 < 128) (g1:d1 < 128) (g2:d2 < 128) :
  Calls Tryz.prog 205 #[.slice A s.length c] w (qch w (.tuple #[.int .u32 ((d0 + d1 * 128 + d2 * 16384:Nat):Int),.int .i64 3])):=by
 refine enter (n:=87) Tryz.func205 rfl Tryz.ntmps205 kz fun a hE=>?_
 have hW:=WOk.start w Nil
 refine qap [(0,.v (.slice A s.length c))] hW hE fun a1 hE2=>?_
 refine wp_scope_straight ?_
 refine qap [(0,.v (.slice A s.length c))] hW hE2 fun a3 hE4=>?_
 refine qap [(0,.v (.slice A s.length c))] hW hE4 fun a5 hE6=>?_
 refine wp_seq ?_
 refine qap [(0,.v (.slice A s.length c)),(8,.v (.bool (decide (((s.length:Nat):Int) < 1))))] hW hE6 fun a7 hE8=>?_
 refine qar hE8 (b:=decide (((s.length:Nat):Int) < 1)) kz (decide_eq_false (by omega)) ?_
 refine wp_skip ?_
 refine qaa ?_
 refine qac [0,1,2,3,4,5] kz ?_
 refine qai [0] [1,2,3,4,5] [(0,.v (.slice A s.length c)),(9,.v (.slice A s.length c))] hW hE8 fun a9 am=>?_
 obtain ⟨aM,aN,ae,aS,aa⟩:=Slots.get ho (i:=0) (by first | omega | (simp only [List.length_append,be_length,List.length_cons,List.length_nil] at *; omega))
 refine qaj (qas am (t:=22) (A:=A) (m:=s.length) (q:=0) (d:=10) kz (e:=5) (size:=1) (bytes:=1) (j:=0) kz ae rfl (by first | omega | (simp only [List.length_append,be_length,List.length_cons,List.length_nil] at *; omega)) fun aV ao=>?_)
 refine qaj (qaD ao (t:=5) (b:=aM) (o:=aN + 0 * 1) (d:=11) kz (cs:=[.int .u8 ((s.getD 0 0).toNat:Int)]) (v:=.int .u8 ((s.getD 0 0).toNat:Int)) kz (AtF.move aa hW.step nilM qa1).at_ fun aW ap=>?_)
 refine qai [3,4,5] [] [(0,.v (.slice A s.length c)),(4,.v (.int .u32 (IntKind.u32.wrap (IntKind.u8.wrap (BitVec.ofInt 8 ((s.getD 0 0).toNat:Int) &&& BitVec.ofInt 8 127).toNat))))] hW ap fun aX ar=>?_
 refine qae (qaa ?_)
 refine wp_seq ?_
 refine qac [0,1,2,3,4] kz ?_
 refine qai [0] [1,2,3,4] [(0,.v (.slice A s.length c)),(4,.v (.int .u32 (IntKind.u32.wrap (IntKind.u8.wrap (BitVec.ofInt 8 ((s.getD 0 0).toNat:Int) &&& BitVec.ofInt 8 127).toNat)))),(14,.v (.slice A s.length c))] hW ar fun aY au=>?_
 refine qaj (qas au (t:=22) (A:=A) (m:=s.length) (q:=0) (d:=15) kz (e:=5) (size:=1) (bytes:=1) (j:=0) kz ae rfl (by first | omega | (simp only [List.length_append,be_length,List.length_cons,List.length_nil] at *; omega)) fun aZ av=>?_)
 refine qaj (qaD av (t:=5) (b:=aM) (o:=aN + 0 * 1) (d:=16) kz (cs:=[.int .u8 ((s.getD 0 0).toNat:Int)]) (v:=.int .u8 ((s.getD 0 0).toNat:Int)) kz (AtF.move aa hW.step nilM qa1).at_ fun ba aw=>?_)
 refine qai [3,4] [] [(0,.v (.slice A s.length c)),(4,.v (.int .u32 (IntKind.u32.wrap (IntKind.u8.wrap (BitVec.ofInt 8 ((s.getD 0 0).toNat:Int) &&& BitVec.ofInt 8 127).toNat)))),(18,.v (.bool ((IntKind.u8.wrap (BitVec.ofInt 8 ((s.getD 0 0).toNat:Int) &&& BitVec.ofInt 8 128).toNat) == 0)))] hW aw fun bd af=>?_
 refine qae (qaa ?_)
 refine qar af (b:=(IntKind.u8.wrap (BitVec.ofInt 8 ((s.getD 0 0).toNat:Int) &&& BitVec.ofInt 8 128).toNat) == 0) kz ((qcy _ (qbP s 0)).trans (decide_eq_false (by have:=h0; unfold oc at this; omega))) ?_
 refine qap [(0,.v (.slice A s.length c)),(4,.v (.int .u32 (IntKind.u32.wrap (IntKind.u8.wrap (BitVec.ofInt 8 ((s.getD 0 0).toNat:Int) &&& BitVec.ofInt 8 127).toNat)))),(22,.v (.bool (decide (((s.length:Nat):Int) < 2))))] hW af fun bf ag=>?_
 refine qar ag (b:=decide (((s.length:Nat):Int) < 2)) kz (decide_eq_false (by omega)) ?_
 refine wp_skip ?_
 refine qaa ?_
 refine qac [0,1,2,3,4,5,6,7,8] kz ?_
 refine qai [0,1] [2,3,4,5,6,7,8] [(0,.v (.slice A s.length c)),(23,.v (.int .u32 (IntKind.u32.wrap (IntKind.u8.wrap (BitVec.ofInt 8 ((s.getD 0 0).toNat:Int) &&& BitVec.ofInt 8 127).toNat)))),(24,.v (.slice A s.length c))] hW ag fun bg ax=>?_
 obtain ⟨aO,aP,ah,aT,ab⟩:=Slots.get ho (i:=1) (by first | omega | (simp only [List.length_append,be_length,List.length_cons,List.length_nil] at *; omega))
 refine qaj (qas ax (t:=22) (A:=A) (m:=s.length) (q:=1) (d:=25) kz (e:=5) (size:=1) (bytes:=1) (j:=1) kz ah rfl (by first | omega | (simp only [List.length_append,be_length,List.length_cons,List.length_nil] at *; omega)) fun bh ay=>?_)
 refine qaj (qaD ay (t:=5) (b:=aO) (o:=aP + 1 * 1) (d:=26) kz (cs:=[.int .u8 ((s.getD 1 0).toNat:Int)]) (v:=.int .u8 ((s.getD 1 0).toNat:Int)) kz (AtF.move ab hW.step nilM qa1).at_ fun bi az=>?_)
 refine qai [4,5,6,7,8] [] [(0,.v (.slice A s.length c)),(4,.v (.int .u32 (IntKind.u32.wrap (BitVec.ofInt 32 (IntKind.u32.wrap (IntKind.u8.wrap (BitVec.ofInt 8 ((s.getD 0 0).toNat:Int) &&& BitVec.ofInt 8 127).toNat)) ||| BitVec.ofInt 32 (IntKind.u32.wrap ((IntKind.u32.wrap (IntKind.u8.wrap (BitVec.ofInt 8 ((s.getD 1 0).toNat:Int) &&& BitVec.ofInt 8 127).toNat)) * 128))).toNat)))] hW az fun bj aA=>?_
 refine qae (qaa ?_)
 refine wp_seq ?_
 refine qac [0,1,2,3,4] kz ?_
 refine qai [0] [1,2,3,4] [(0,.v (.slice A s.length c)),(4,.v (.int .u32 (IntKind.u32.wrap (BitVec.ofInt 32 (IntKind.u32.wrap (IntKind.u8.wrap (BitVec.ofInt 8 ((s.getD 0 0).toNat:Int) &&& BitVec.ofInt 8 127).toNat)) ||| BitVec.ofInt 32 (IntKind.u32.wrap ((IntKind.u32.wrap (IntKind.u8.wrap (BitVec.ofInt 8 ((s.getD 1 0).toNat:Int) &&& BitVec.ofInt 8 127).toNat)) * 128))).toNat))),(31,.v (.slice A s.length c))] hW aA fun bk aB=>?_
 refine qaj (qas aB (t:=22) (A:=A) (m:=s.length) (q:=1) (d:=32) kz (e:=5) (size:=1) (bytes:=1) (j:=1) kz ah rfl (by first | omega | (simp only [List.length_append,be_length,List.length_cons,List.length_nil] at *; omega)) fun bn aC=>?_)
 refine qaj (qaD aC (t:=5) (b:=aO) (o:=aP + 1 * 1) (d:=33) kz (cs:=[.int .u8 ((s.getD 1 0).toNat:Int)]) (v:=.int .u8 ((s.getD 1 0).toNat:Int)) kz (AtF.move ab hW.step nilM qa1).at_ fun bo aD=>?_)
 refine qai [3,4] [] [(0,.v (.slice A s.length c)),(4,.v (.int .u32 (IntKind.u32.wrap (BitVec.ofInt 32 (IntKind.u32.wrap (IntKind.u8.wrap (BitVec.ofInt 8 ((s.getD 0 0).toNat:Int) &&& BitVec.ofInt 8 127).toNat)) ||| BitVec.ofInt 32 (IntKind.u32.wrap ((IntKind.u32.wrap (IntKind.u8.wrap (BitVec.ofInt 8 ((s.getD 1 0).toNat:Int) &&& BitVec.ofInt 8 127).toNat)) * 128))).toNat))),(35,.v (.bool ((IntKind.u8.wrap (BitVec.ofInt 8 ((s.getD 1 0).toNat:Int) &&& BitVec.ofInt 8 128).toNat) == 0)))] hW aD fun bp ai=>?_
 refine qae (qaa ?_)
 refine qar ai (b:=(IntKind.u8.wrap (BitVec.ofInt 8 ((s.getD 1 0).toNat:Int) &&& BitVec.ofInt 8 128).toNat) == 0) kz ((qcy _ (qbP s 1)).trans (decide_eq_false (by have:=h1; unfold oc at this; omega))) ?_
 refine qap [(0,.v (.slice A s.length c)),(4,.v (.int .u32 (IntKind.u32.wrap (BitVec.ofInt 32 (IntKind.u32.wrap (IntKind.u8.wrap (BitVec.ofInt 8 ((s.getD 0 0).toNat:Int) &&& BitVec.ofInt 8 127).toNat)) ||| BitVec.ofInt 32 (IntKind.u32.wrap ((IntKind.u32.wrap (IntKind.u8.wrap (BitVec.ofInt 8 ((s.getD 1 0).toNat:Int) &&& BitVec.ofInt 8 127).toNat)) * 128))).toNat))),(39,.v (.bool (decide (((s.length:Nat):Int) < 3))))] hW ai fun bq aj=>?_
 refine qar aj (b:=decide (((s.length:Nat):Int) < 3)) kz (decide_eq_false (by omega)) ?_
 refine wp_skip ?_
 refine qaa ?_
 refine qac [0,1,2,3,4,5,6,7,8] kz ?_
 refine qai [0,1] [2,3,4,5,6,7,8] [(0,.v (.slice A s.length c)),(40,.v (.int .u32 (IntKind.u32.wrap (BitVec.ofInt 32 (IntKind.u32.wrap (IntKind.u8.wrap (BitVec.ofInt 8 ((s.getD 0 0).toNat:Int) &&& BitVec.ofInt 8 127).toNat)) ||| BitVec.ofInt 32 (IntKind.u32.wrap ((IntKind.u32.wrap (IntKind.u8.wrap (BitVec.ofInt 8 ((s.getD 1 0).toNat:Int) &&& BitVec.ofInt 8 127).toNat)) * 128))).toNat))),(41,.v (.slice A s.length c))] hW aj fun bt aE=>?_
 obtain ⟨aQ,aR,ak,aU,ac⟩:=Slots.get ho (i:=2) (by first | omega | (simp only [List.length_append,be_length,List.length_cons,List.length_nil] at *; omega))
 refine qaj (qas aE (t:=22) (A:=A) (m:=s.length) (q:=2) (d:=42) kz (e:=5) (size:=1) (bytes:=1) (j:=2) kz ak rfl (by first | omega | (simp only [List.length_append,be_length,List.length_cons,List.length_nil] at *; omega)) fun bu aF=>?_)
 refine qaj (qaD aF (t:=5) (b:=aQ) (o:=aR + 2 * 1) (d:=43) kz (cs:=[.int .u8 ((s.getD 2 0).toNat:Int)]) (v:=.int .u8 ((s.getD 2 0).toNat:Int)) kz (AtF.move ac hW.step nilM qa1).at_ fun bw aG=>?_)
 refine qai [4,5,6,7,8] [] [(0,.v (.slice A s.length c)),(4,.v (.int .u32 (IntKind.u32.wrap (BitVec.ofInt 32 (IntKind.u32.wrap (BitVec.ofInt 32 (IntKind.u32.wrap (IntKind.u8.wrap (BitVec.ofInt 8 ((s.getD 0 0).toNat:Int) &&& BitVec.ofInt 8 127).toNat)) ||| BitVec.ofInt 32 (IntKind.u32.wrap ((IntKind.u32.wrap (IntKind.u8.wrap (BitVec.ofInt 8 ((s.getD 1 0).toNat:Int) &&& BitVec.ofInt 8 127).toNat)) * 128))).toNat) ||| BitVec.ofInt 32 (IntKind.u32.wrap ((IntKind.u32.wrap (IntKind.u8.wrap (BitVec.ofInt 8 ((s.getD 2 0).toNat:Int) &&& BitVec.ofInt 8 127).toNat)) * 16384))).toNat)))] hW aG fun bx aH=>?_
 refine qae (qaa ?_)
 refine wp_seq ?_
 refine qac [0,1,2,3,4] kz ?_
 refine qai [0] [1,2,3,4] [(0,.v (.slice A s.length c)),(4,.v (.int .u32 (IntKind.u32.wrap (BitVec.ofInt 32 (IntKind.u32.wrap (BitVec.ofInt 32 (IntKind.u32.wrap (IntKind.u8.wrap (BitVec.ofInt 8 ((s.getD 0 0).toNat:Int) &&& BitVec.ofInt 8 127).toNat)) ||| BitVec.ofInt 32 (IntKind.u32.wrap ((IntKind.u32.wrap (IntKind.u8.wrap (BitVec.ofInt 8 ((s.getD 1 0).toNat:Int) &&& BitVec.ofInt 8 127).toNat)) * 128))).toNat) ||| BitVec.ofInt 32 (IntKind.u32.wrap ((IntKind.u32.wrap (IntKind.u8.wrap (BitVec.ofInt 8 ((s.getD 2 0).toNat:Int) &&& BitVec.ofInt 8 127).toNat)) * 16384))).toNat))),(48,.v (.slice A s.length c))] hW aH fun bz aI=>?_
 refine qaj (qas aI (t:=22) (A:=A) (m:=s.length) (q:=2) (d:=49) kz (e:=5) (size:=1) (bytes:=1) (j:=2) kz ak rfl (by first | omega | (simp only [List.length_append,be_length,List.length_cons,List.length_nil] at *; omega)) fun bA aJ=>?_)
 refine qaj (qaD aJ (t:=5) (b:=aQ) (o:=aR + 2 * 1) (d:=50) kz (cs:=[.int .u8 ((s.getD 2 0).toNat:Int)]) (v:=.int .u8 ((s.getD 2 0).toNat:Int)) kz (AtF.move ac hW.step nilM qa1).at_ fun bB aK=>?_)
 refine qai [3,4] [] [(0,.v (.slice A s.length c)),(4,.v (.int .u32 (IntKind.u32.wrap (BitVec.ofInt 32 (IntKind.u32.wrap (BitVec.ofInt 32 (IntKind.u32.wrap (IntKind.u8.wrap (BitVec.ofInt 8 ((s.getD 0 0).toNat:Int) &&& BitVec.ofInt 8 127).toNat)) ||| BitVec.ofInt 32 (IntKind.u32.wrap ((IntKind.u32.wrap (IntKind.u8.wrap (BitVec.ofInt 8 ((s.getD 1 0).toNat:Int) &&& BitVec.ofInt 8 127).toNat)) * 128))).toNat) ||| BitVec.ofInt 32 (IntKind.u32.wrap ((IntKind.u32.wrap (IntKind.u8.wrap (BitVec.ofInt 8 ((s.getD 2 0).toNat:Int) &&& BitVec.ofInt 8 127).toNat)) * 16384))).toNat))),(52,.v (.bool ((IntKind.u8.wrap (BitVec.ofInt 8 ((s.getD 2 0).toNat:Int) &&& BitVec.ofInt 8 128).toNat) == 0)))] hW aK fun bC al=>?_
 refine qae (qaa ?_)
 refine qbf al (b:=(IntKind.u8.wrap (BitVec.ofInt 8 ((s.getD 2 0).toNat:Int) &&& BitVec.ofInt 8 128).toNat) == 0) kz ((qcy _ (qbP s 2)).trans (decide_eq_true (by have:=h2; unfold oc at this; omega))) ?_
 refine qap [(2,.v (.int .u32 (IntKind.u32.wrap (BitVec.ofInt 32 (IntKind.u32.wrap (BitVec.ofInt 32 (IntKind.u32.wrap (IntKind.u8.wrap (BitVec.ofInt 8 ((s.getD 0 0).toNat:Int) &&& BitVec.ofInt 8 127).toNat)) ||| BitVec.ofInt 32 (IntKind.u32.wrap ((IntKind.u32.wrap (IntKind.u8.wrap (BitVec.ofInt 8 ((s.getD 1 0).toNat:Int) &&& BitVec.ofInt 8 127).toNat)) * 128))).toNat) ||| BitVec.ofInt 32 (IntKind.u32.wrap ((IntKind.u32.wrap (IntKind.u8.wrap (BitVec.ofInt 8 ((s.getD 2 0).toNat:Int) &&& BitVec.ofInt 8 127).toNat)) * 16384))).toNat))),(3,.v (.int .i64 3))] hW al fun bD aL=>?_
 refine wp_ret ?_
 refine qax ?_
 refine qda ?_
 refine qaN aL hW.cells (v:=.tuple #[.int .u32 (IntKind.u32.wrap (BitVec.ofInt 32 (IntKind.u32.wrap (BitVec.ofInt 32 (IntKind.u32.wrap (IntKind.u8.wrap (BitVec.ofInt 8 ((s.getD 0 0).toNat:Int) &&& BitVec.ofInt 8 127).toNat)) ||| BitVec.ofInt 32 (IntKind.u32.wrap ((IntKind.u32.wrap (IntKind.u8.wrap (BitVec.ofInt 8 ((s.getD 1 0).toNat:Int) &&& BitVec.ofInt 8 127).toNat)) * 128))).toNat) ||| BitVec.ofInt 32 (IntKind.u32.wrap ((IntKind.u32.wrap (IntKind.u8.wrap (BitVec.ofInt 8 ((s.getD 2 0).toNat:Int) &&& BitVec.ofInt 8 127).toNat)) * 16384))).toNat),.int .i64 3]) kz ?_
 have e_:=uv_3 (oc s 0) (oc s 1) (oc s 2) (qbP s 0) (qbP s 1) (qbP s 2)
 refine ⟨congrArg (fun z_:Int=>Ending.returned (.tuple #[.int .u32 z_,.int .i64 3])) (Eq.trans e_ ?_),hW.step⟩
 omega
theorem rUv4 {A:Option Addr} {c:Nat} (s:Bs) {w:World} {F:Nat → Nat → Prop} (ho:Octs w F A c s) (hl:4 ≤ s.length) (d0 d1 d2 d3:Nat) (h0:oc s 0 = d0 + 128) (h1:oc s 1 = d1 + 128) (h2:oc s 2 = d2 + 128) (h3:oc s 3 = d3) (g0:d0 < 128) (g1:d1 < 128) (g2:d2 < 128) (g3:d3 < 128) :
  Calls Tryz.prog 205 #[.slice A s.length c] w (qch w (.tuple #[.int .u32 ((d0 + d1 * 128 + d2 * 16384 + d3 * 2097152:Nat):Int),.int .i64 4])):=by
 refine enter (n:=87) Tryz.func205 rfl Tryz.ntmps205 kz fun a hE=>?_
 have hW:=WOk.start w Nil
 refine qap [(0,.v (.slice A s.length c))] hW hE fun a1 hE2=>?_
 refine wp_scope_straight ?_
 refine qap [(0,.v (.slice A s.length c))] hW hE2 fun a3 hE4=>?_
 refine qap [(0,.v (.slice A s.length c))] hW hE4 fun a5 hE6=>?_
 refine wp_seq ?_
 refine qap [(0,.v (.slice A s.length c)),(8,.v (.bool (decide (((s.length:Nat):Int) < 1))))] hW hE6 fun a7 hE8=>?_
 refine qar hE8 (b:=decide (((s.length:Nat):Int) < 1)) kz (decide_eq_false (by omega)) ?_
 refine wp_skip ?_
 refine qaa ?_
 refine qac [0,1,2,3,4,5] kz ?_
 refine qai [0] [1,2,3,4,5] [(0,.v (.slice A s.length c)),(9,.v (.slice A s.length c))] hW hE8 fun a9 av=>?_
 obtain ⟨aX,aY,af,bi,aa⟩:=Slots.get ho (i:=0) (by first | omega | (simp only [List.length_append,be_length,List.length_cons,List.length_nil] at *; omega))
 refine qaj (qas av (t:=22) (A:=A) (m:=s.length) (q:=0) (d:=10) kz (e:=5) (size:=1) (bytes:=1) (j:=0) kz af rfl (by first | omega | (simp only [List.length_append,be_length,List.length_cons,List.length_nil] at *; omega)) fun bo aw=>?_)
 refine qaj (qaD aw (t:=5) (b:=aX) (o:=aY + 0 * 1) (d:=11) kz (cs:=[.int .u8 ((s.getD 0 0).toNat:Int)]) (v:=.int .u8 ((s.getD 0 0).toNat:Int)) kz (AtF.move aa hW.step nilM qa1).at_ fun bp ax=>?_)
 refine qai [3,4,5] [] [(0,.v (.slice A s.length c)),(4,.v (.int .u32 (IntKind.u32.wrap (IntKind.u8.wrap (BitVec.ofInt 8 ((s.getD 0 0).toNat:Int) &&& BitVec.ofInt 8 127).toNat))))] hW ax fun bq ay=>?_
 refine qae (qaa ?_)
 refine wp_seq ?_
 refine qac [0,1,2,3,4] kz ?_
 refine qai [0] [1,2,3,4] [(0,.v (.slice A s.length c)),(4,.v (.int .u32 (IntKind.u32.wrap (IntKind.u8.wrap (BitVec.ofInt 8 ((s.getD 0 0).toNat:Int) &&& BitVec.ofInt 8 127).toNat)))),(14,.v (.slice A s.length c))] hW ay fun bt az=>?_
 refine qaj (qas az (t:=22) (A:=A) (m:=s.length) (q:=0) (d:=15) kz (e:=5) (size:=1) (bytes:=1) (j:=0) kz af rfl (by first | omega | (simp only [List.length_append,be_length,List.length_cons,List.length_nil] at *; omega)) fun bu aA=>?_)
 refine qaj (qaD aA (t:=5) (b:=aX) (o:=aY + 0 * 1) (d:=16) kz (cs:=[.int .u8 ((s.getD 0 0).toNat:Int)]) (v:=.int .u8 ((s.getD 0 0).toNat:Int)) kz (AtF.move aa hW.step nilM qa1).at_ fun bw aB=>?_)
 refine qai [3,4] [] [(0,.v (.slice A s.length c)),(4,.v (.int .u32 (IntKind.u32.wrap (IntKind.u8.wrap (BitVec.ofInt 8 ((s.getD 0 0).toNat:Int) &&& BitVec.ofInt 8 127).toNat)))),(18,.v (.bool ((IntKind.u8.wrap (BitVec.ofInt 8 ((s.getD 0 0).toNat:Int) &&& BitVec.ofInt 8 128).toNat) == 0)))] hW aB fun bx ag=>?_
 refine qae (qaa ?_)
 refine qar ag (b:=(IntKind.u8.wrap (BitVec.ofInt 8 ((s.getD 0 0).toNat:Int) &&& BitVec.ofInt 8 128).toNat) == 0) kz ((qcy _ (qbP s 0)).trans (decide_eq_false (by have:=h0; unfold oc at this; omega))) ?_
 refine qap [(0,.v (.slice A s.length c)),(4,.v (.int .u32 (IntKind.u32.wrap (IntKind.u8.wrap (BitVec.ofInt 8 ((s.getD 0 0).toNat:Int) &&& BitVec.ofInt 8 127).toNat)))),(22,.v (.bool (decide (((s.length:Nat):Int) < 2))))] hW ag fun bz ah=>?_
 refine qar ah (b:=decide (((s.length:Nat):Int) < 2)) kz (decide_eq_false (by omega)) ?_
 refine wp_skip ?_
 refine qaa ?_
 refine qac [0,1,2,3,4,5,6,7,8] kz ?_
 refine qai [0,1] [2,3,4,5,6,7,8] [(0,.v (.slice A s.length c)),(23,.v (.int .u32 (IntKind.u32.wrap (IntKind.u8.wrap (BitVec.ofInt 8 ((s.getD 0 0).toNat:Int) &&& BitVec.ofInt 8 127).toNat)))),(24,.v (.slice A s.length c))] hW ah fun bA aC=>?_
 obtain ⟨aZ,ba,ai,bj,ab⟩:=Slots.get ho (i:=1) (by first | omega | (simp only [List.length_append,be_length,List.length_cons,List.length_nil] at *; omega))
 refine qaj (qas aC (t:=22) (A:=A) (m:=s.length) (q:=1) (d:=25) kz (e:=5) (size:=1) (bytes:=1) (j:=1) kz ai rfl (by first | omega | (simp only [List.length_append,be_length,List.length_cons,List.length_nil] at *; omega)) fun bB aD=>?_)
 refine qaj (qaD aD (t:=5) (b:=aZ) (o:=ba + 1 * 1) (d:=26) kz (cs:=[.int .u8 ((s.getD 1 0).toNat:Int)]) (v:=.int .u8 ((s.getD 1 0).toNat:Int)) kz (AtF.move ab hW.step nilM qa1).at_ fun bC aE=>?_)
 refine qai [4,5,6,7,8] [] [(0,.v (.slice A s.length c)),(4,.v (.int .u32 (IntKind.u32.wrap (BitVec.ofInt 32 (IntKind.u32.wrap (IntKind.u8.wrap (BitVec.ofInt 8 ((s.getD 0 0).toNat:Int) &&& BitVec.ofInt 8 127).toNat)) ||| BitVec.ofInt 32 (IntKind.u32.wrap ((IntKind.u32.wrap (IntKind.u8.wrap (BitVec.ofInt 8 ((s.getD 1 0).toNat:Int) &&& BitVec.ofInt 8 127).toNat)) * 128))).toNat)))] hW aE fun bD aF=>?_
 refine qae (qaa ?_)
 refine wp_seq ?_
 refine qac [0,1,2,3,4] kz ?_
 refine qai [0] [1,2,3,4] [(0,.v (.slice A s.length c)),(4,.v (.int .u32 (IntKind.u32.wrap (BitVec.ofInt 32 (IntKind.u32.wrap (IntKind.u8.wrap (BitVec.ofInt 8 ((s.getD 0 0).toNat:Int) &&& BitVec.ofInt 8 127).toNat)) ||| BitVec.ofInt 32 (IntKind.u32.wrap ((IntKind.u32.wrap (IntKind.u8.wrap (BitVec.ofInt 8 ((s.getD 1 0).toNat:Int) &&& BitVec.ofInt 8 127).toNat)) * 128))).toNat))),(31,.v (.slice A s.length c))] hW aF fun bE aG=>?_
 refine qaj (qas aG (t:=22) (A:=A) (m:=s.length) (q:=1) (d:=32) kz (e:=5) (size:=1) (bytes:=1) (j:=1) kz ai rfl (by first | omega | (simp only [List.length_append,be_length,List.length_cons,List.length_nil] at *; omega)) fun bF aH=>?_)
 refine qaj (qaD aH (t:=5) (b:=aZ) (o:=ba + 1 * 1) (d:=33) kz (cs:=[.int .u8 ((s.getD 1 0).toNat:Int)]) (v:=.int .u8 ((s.getD 1 0).toNat:Int)) kz (AtF.move ab hW.step nilM qa1).at_ fun bG aI=>?_)
 refine qai [3,4] [] [(0,.v (.slice A s.length c)),(4,.v (.int .u32 (IntKind.u32.wrap (BitVec.ofInt 32 (IntKind.u32.wrap (IntKind.u8.wrap (BitVec.ofInt 8 ((s.getD 0 0).toNat:Int) &&& BitVec.ofInt 8 127).toNat)) ||| BitVec.ofInt 32 (IntKind.u32.wrap ((IntKind.u32.wrap (IntKind.u8.wrap (BitVec.ofInt 8 ((s.getD 1 0).toNat:Int) &&& BitVec.ofInt 8 127).toNat)) * 128))).toNat))),(35,.v (.bool ((IntKind.u8.wrap (BitVec.ofInt 8 ((s.getD 1 0).toNat:Int) &&& BitVec.ofInt 8 128).toNat) == 0)))] hW aI fun bH aj=>?_
 refine qae (qaa ?_)
 refine qar aj (b:=(IntKind.u8.wrap (BitVec.ofInt 8 ((s.getD 1 0).toNat:Int) &&& BitVec.ofInt 8 128).toNat) == 0) kz ((qcy _ (qbP s 1)).trans (decide_eq_false (by have:=h1; unfold oc at this; omega))) ?_
 refine qap [(0,.v (.slice A s.length c)),(4,.v (.int .u32 (IntKind.u32.wrap (BitVec.ofInt 32 (IntKind.u32.wrap (IntKind.u8.wrap (BitVec.ofInt 8 ((s.getD 0 0).toNat:Int) &&& BitVec.ofInt 8 127).toNat)) ||| BitVec.ofInt 32 (IntKind.u32.wrap ((IntKind.u32.wrap (IntKind.u8.wrap (BitVec.ofInt 8 ((s.getD 1 0).toNat:Int) &&& BitVec.ofInt 8 127).toNat)) * 128))).toNat))),(39,.v (.bool (decide (((s.length:Nat):Int) < 3))))] hW aj fun bI ak=>?_
 refine qar ak (b:=decide (((s.length:Nat):Int) < 3)) kz (decide_eq_false (by omega)) ?_
 refine wp_skip ?_
 refine qaa ?_
 refine qac [0,1,2,3,4,5,6,7,8] kz ?_
 refine qai [0,1] [2,3,4,5,6,7,8] [(0,.v (.slice A s.length c)),(40,.v (.int .u32 (IntKind.u32.wrap (BitVec.ofInt 32 (IntKind.u32.wrap (IntKind.u8.wrap (BitVec.ofInt 8 ((s.getD 0 0).toNat:Int) &&& BitVec.ofInt 8 127).toNat)) ||| BitVec.ofInt 32 (IntKind.u32.wrap ((IntKind.u32.wrap (IntKind.u8.wrap (BitVec.ofInt 8 ((s.getD 1 0).toNat:Int) &&& BitVec.ofInt 8 127).toNat)) * 128))).toNat))),(41,.v (.slice A s.length c))] hW ak fun bJ aJ=>?_
 obtain ⟨bd,bf,al,bk,ac⟩:=Slots.get ho (i:=2) (by first | omega | (simp only [List.length_append,be_length,List.length_cons,List.length_nil] at *; omega))
 refine qaj (qas aJ (t:=22) (A:=A) (m:=s.length) (q:=2) (d:=42) kz (e:=5) (size:=1) (bytes:=1) (j:=2) kz al rfl (by first | omega | (simp only [List.length_append,be_length,List.length_cons,List.length_nil] at *; omega)) fun bK aK=>?_)
 refine qaj (qaD aK (t:=5) (b:=bd) (o:=bf + 2 * 1) (d:=43) kz (cs:=[.int .u8 ((s.getD 2 0).toNat:Int)]) (v:=.int .u8 ((s.getD 2 0).toNat:Int)) kz (AtF.move ac hW.step nilM qa1).at_ fun bL aL=>?_)
 refine qai [4,5,6,7,8] [] [(0,.v (.slice A s.length c)),(4,.v (.int .u32 (IntKind.u32.wrap (BitVec.ofInt 32 (IntKind.u32.wrap (BitVec.ofInt 32 (IntKind.u32.wrap (IntKind.u8.wrap (BitVec.ofInt 8 ((s.getD 0 0).toNat:Int) &&& BitVec.ofInt 8 127).toNat)) ||| BitVec.ofInt 32 (IntKind.u32.wrap ((IntKind.u32.wrap (IntKind.u8.wrap (BitVec.ofInt 8 ((s.getD 1 0).toNat:Int) &&& BitVec.ofInt 8 127).toNat)) * 128))).toNat) ||| BitVec.ofInt 32 (IntKind.u32.wrap ((IntKind.u32.wrap (IntKind.u8.wrap (BitVec.ofInt 8 ((s.getD 2 0).toNat:Int) &&& BitVec.ofInt 8 127).toNat)) * 16384))).toNat)))] hW aL fun bM aM=>?_
 refine qae (qaa ?_)
 refine wp_seq ?_
 refine qac [0,1,2,3,4] kz ?_
 refine qai [0] [1,2,3,4] [(0,.v (.slice A s.length c)),(4,.v (.int .u32 (IntKind.u32.wrap (BitVec.ofInt 32 (IntKind.u32.wrap (BitVec.ofInt 32 (IntKind.u32.wrap (IntKind.u8.wrap (BitVec.ofInt 8 ((s.getD 0 0).toNat:Int) &&& BitVec.ofInt 8 127).toNat)) ||| BitVec.ofInt 32 (IntKind.u32.wrap ((IntKind.u32.wrap (IntKind.u8.wrap (BitVec.ofInt 8 ((s.getD 1 0).toNat:Int) &&& BitVec.ofInt 8 127).toNat)) * 128))).toNat) ||| BitVec.ofInt 32 (IntKind.u32.wrap ((IntKind.u32.wrap (IntKind.u8.wrap (BitVec.ofInt 8 ((s.getD 2 0).toNat:Int) &&& BitVec.ofInt 8 127).toNat)) * 16384))).toNat))),(48,.v (.slice A s.length c))] hW aM fun bN aN=>?_
 refine qaj (qas aN (t:=22) (A:=A) (m:=s.length) (q:=2) (d:=49) kz (e:=5) (size:=1) (bytes:=1) (j:=2) kz al rfl (by first | omega | (simp only [List.length_append,be_length,List.length_cons,List.length_nil] at *; omega)) fun bO aO=>?_)
 refine qaj (qaD aO (t:=5) (b:=bd) (o:=bf + 2 * 1) (d:=50) kz (cs:=[.int .u8 ((s.getD 2 0).toNat:Int)]) (v:=.int .u8 ((s.getD 2 0).toNat:Int)) kz (AtF.move ac hW.step nilM qa1).at_ fun bP aP=>?_)
 refine qai [3,4] [] [(0,.v (.slice A s.length c)),(4,.v (.int .u32 (IntKind.u32.wrap (BitVec.ofInt 32 (IntKind.u32.wrap (BitVec.ofInt 32 (IntKind.u32.wrap (IntKind.u8.wrap (BitVec.ofInt 8 ((s.getD 0 0).toNat:Int) &&& BitVec.ofInt 8 127).toNat)) ||| BitVec.ofInt 32 (IntKind.u32.wrap ((IntKind.u32.wrap (IntKind.u8.wrap (BitVec.ofInt 8 ((s.getD 1 0).toNat:Int) &&& BitVec.ofInt 8 127).toNat)) * 128))).toNat) ||| BitVec.ofInt 32 (IntKind.u32.wrap ((IntKind.u32.wrap (IntKind.u8.wrap (BitVec.ofInt 8 ((s.getD 2 0).toNat:Int) &&& BitVec.ofInt 8 127).toNat)) * 16384))).toNat))),(52,.v (.bool ((IntKind.u8.wrap (BitVec.ofInt 8 ((s.getD 2 0).toNat:Int) &&& BitVec.ofInt 8 128).toNat) == 0)))] hW aP fun bQ am=>?_
 refine qae (qaa ?_)
 refine qar am (b:=(IntKind.u8.wrap (BitVec.ofInt 8 ((s.getD 2 0).toNat:Int) &&& BitVec.ofInt 8 128).toNat) == 0) kz ((qcy _ (qbP s 2)).trans (decide_eq_false (by have:=h2; unfold oc at this; omega))) ?_
 refine qap [(0,.v (.slice A s.length c)),(4,.v (.int .u32 (IntKind.u32.wrap (BitVec.ofInt 32 (IntKind.u32.wrap (BitVec.ofInt 32 (IntKind.u32.wrap (IntKind.u8.wrap (BitVec.ofInt 8 ((s.getD 0 0).toNat:Int) &&& BitVec.ofInt 8 127).toNat)) ||| BitVec.ofInt 32 (IntKind.u32.wrap ((IntKind.u32.wrap (IntKind.u8.wrap (BitVec.ofInt 8 ((s.getD 1 0).toNat:Int) &&& BitVec.ofInt 8 127).toNat)) * 128))).toNat) ||| BitVec.ofInt 32 (IntKind.u32.wrap ((IntKind.u32.wrap (IntKind.u8.wrap (BitVec.ofInt 8 ((s.getD 2 0).toNat:Int) &&& BitVec.ofInt 8 127).toNat)) * 16384))).toNat))),(56,.v (.bool (decide (((s.length:Nat):Int) < 4))))] hW am fun bR ao=>?_
 refine qar ao (b:=decide (((s.length:Nat):Int) < 4)) kz (decide_eq_false (by omega)) ?_
 refine wp_skip ?_
 refine qaa ?_
 refine qac [0,1,2,3,4,5,6,7,8] kz ?_
 refine qai [0,1] [2,3,4,5,6,7,8] [(0,.v (.slice A s.length c)),(57,.v (.int .u32 (IntKind.u32.wrap (BitVec.ofInt 32 (IntKind.u32.wrap (BitVec.ofInt 32 (IntKind.u32.wrap (IntKind.u8.wrap (BitVec.ofInt 8 ((s.getD 0 0).toNat:Int) &&& BitVec.ofInt 8 127).toNat)) ||| BitVec.ofInt 32 (IntKind.u32.wrap ((IntKind.u32.wrap (IntKind.u8.wrap (BitVec.ofInt 8 ((s.getD 1 0).toNat:Int) &&& BitVec.ofInt 8 127).toNat)) * 128))).toNat) ||| BitVec.ofInt 32 (IntKind.u32.wrap ((IntKind.u32.wrap (IntKind.u8.wrap (BitVec.ofInt 8 ((s.getD 2 0).toNat:Int) &&& BitVec.ofInt 8 127).toNat)) * 16384))).toNat))),(58,.v (.slice A s.length c))] hW ao fun bS aQ=>?_
 obtain ⟨bg,bh,ap,bn,ae⟩:=Slots.get ho (i:=3) (by first | omega | (simp only [List.length_append,be_length,List.length_cons,List.length_nil] at *; omega))
 refine qaj (qas aQ (t:=22) (A:=A) (m:=s.length) (q:=3) (d:=59) kz (e:=5) (size:=1) (bytes:=1) (j:=3) kz ap rfl (by first | omega | (simp only [List.length_append,be_length,List.length_cons,List.length_nil] at *; omega)) fun bT aR=>?_)
 refine qaj (qaD aR (t:=5) (b:=bg) (o:=bh + 3 * 1) (d:=60) kz (cs:=[.int .u8 ((s.getD 3 0).toNat:Int)]) (v:=.int .u8 ((s.getD 3 0).toNat:Int)) kz (AtF.move ae hW.step nilM qa1).at_ fun bU aS=>?_)
 refine qai [4,5,6,7,8] [] [(0,.v (.slice A s.length c)),(4,.v (.int .u32 (IntKind.u32.wrap (BitVec.ofInt 32 (IntKind.u32.wrap (BitVec.ofInt 32 (IntKind.u32.wrap (BitVec.ofInt 32 (IntKind.u32.wrap (IntKind.u8.wrap (BitVec.ofInt 8 ((s.getD 0 0).toNat:Int) &&& BitVec.ofInt 8 127).toNat)) ||| BitVec.ofInt 32 (IntKind.u32.wrap ((IntKind.u32.wrap (IntKind.u8.wrap (BitVec.ofInt 8 ((s.getD 1 0).toNat:Int) &&& BitVec.ofInt 8 127).toNat)) * 128))).toNat) ||| BitVec.ofInt 32 (IntKind.u32.wrap ((IntKind.u32.wrap (IntKind.u8.wrap (BitVec.ofInt 8 ((s.getD 2 0).toNat:Int) &&& BitVec.ofInt 8 127).toNat)) * 16384))).toNat) ||| BitVec.ofInt 32 (IntKind.u32.wrap ((IntKind.u32.wrap (IntKind.u8.wrap (BitVec.ofInt 8 ((s.getD 3 0).toNat:Int) &&& BitVec.ofInt 8 127).toNat)) * 2097152))).toNat)))] hW aS fun bV aT=>?_
 refine qae (qaa ?_)
 refine wp_seq ?_
 refine qac [0,1,2,3,4] kz ?_
 refine qai [0] [1,2,3,4] [(0,.v (.slice A s.length c)),(4,.v (.int .u32 (IntKind.u32.wrap (BitVec.ofInt 32 (IntKind.u32.wrap (BitVec.ofInt 32 (IntKind.u32.wrap (BitVec.ofInt 32 (IntKind.u32.wrap (IntKind.u8.wrap (BitVec.ofInt 8 ((s.getD 0 0).toNat:Int) &&& BitVec.ofInt 8 127).toNat)) ||| BitVec.ofInt 32 (IntKind.u32.wrap ((IntKind.u32.wrap (IntKind.u8.wrap (BitVec.ofInt 8 ((s.getD 1 0).toNat:Int) &&& BitVec.ofInt 8 127).toNat)) * 128))).toNat) ||| BitVec.ofInt 32 (IntKind.u32.wrap ((IntKind.u32.wrap (IntKind.u8.wrap (BitVec.ofInt 8 ((s.getD 2 0).toNat:Int) &&& BitVec.ofInt 8 127).toNat)) * 16384))).toNat) ||| BitVec.ofInt 32 (IntKind.u32.wrap ((IntKind.u32.wrap (IntKind.u8.wrap (BitVec.ofInt 8 ((s.getD 3 0).toNat:Int) &&& BitVec.ofInt 8 127).toNat)) * 2097152))).toNat))),(65,.v (.slice A s.length c))] hW aT fun bW aU=>?_
 refine qaj (qas aU (t:=22) (A:=A) (m:=s.length) (q:=3) (d:=66) kz (e:=5) (size:=1) (bytes:=1) (j:=3) kz ap rfl (by first | omega | (simp only [List.length_append,be_length,List.length_cons,List.length_nil] at *; omega)) fun bX aV=>?_)
 refine qaj (qaD aV (t:=5) (b:=bg) (o:=bh + 3 * 1) (d:=67) kz (cs:=[.int .u8 ((s.getD 3 0).toNat:Int)]) (v:=.int .u8 ((s.getD 3 0).toNat:Int)) kz (AtF.move ae hW.step nilM qa1).at_ fun bY aW=>?_)
 refine qai [3,4] [] [(0,.v (.slice A s.length c)),(4,.v (.int .u32 (IntKind.u32.wrap (BitVec.ofInt 32 (IntKind.u32.wrap (BitVec.ofInt 32 (IntKind.u32.wrap (BitVec.ofInt 32 (IntKind.u32.wrap (IntKind.u8.wrap (BitVec.ofInt 8 ((s.getD 0 0).toNat:Int) &&& BitVec.ofInt 8 127).toNat)) ||| BitVec.ofInt 32 (IntKind.u32.wrap ((IntKind.u32.wrap (IntKind.u8.wrap (BitVec.ofInt 8 ((s.getD 1 0).toNat:Int) &&& BitVec.ofInt 8 127).toNat)) * 128))).toNat) ||| BitVec.ofInt 32 (IntKind.u32.wrap ((IntKind.u32.wrap (IntKind.u8.wrap (BitVec.ofInt 8 ((s.getD 2 0).toNat:Int) &&& BitVec.ofInt 8 127).toNat)) * 16384))).toNat) ||| BitVec.ofInt 32 (IntKind.u32.wrap ((IntKind.u32.wrap (IntKind.u8.wrap (BitVec.ofInt 8 ((s.getD 3 0).toNat:Int) &&& BitVec.ofInt 8 127).toNat)) * 2097152))).toNat))),(69,.v (.bool ((IntKind.u8.wrap (BitVec.ofInt 8 ((s.getD 3 0).toNat:Int) &&& BitVec.ofInt 8 128).toNat) == 0)))] hW aW fun bZ ar=>?_
 refine qae (qaa ?_)
 refine qbf ar (b:=(IntKind.u8.wrap (BitVec.ofInt 8 ((s.getD 3 0).toNat:Int) &&& BitVec.ofInt 8 128).toNat) == 0) kz ((qcy _ (qbP s 3)).trans (decide_eq_true (by have:=h3; unfold oc at this; omega))) ?_
 refine qap [(2,.v (.int .u32 (IntKind.u32.wrap (BitVec.ofInt 32 (IntKind.u32.wrap (BitVec.ofInt 32 (IntKind.u32.wrap (BitVec.ofInt 32 (IntKind.u32.wrap (IntKind.u8.wrap (BitVec.ofInt 8 ((s.getD 0 0).toNat:Int) &&& BitVec.ofInt 8 127).toNat)) ||| BitVec.ofInt 32 (IntKind.u32.wrap ((IntKind.u32.wrap (IntKind.u8.wrap (BitVec.ofInt 8 ((s.getD 1 0).toNat:Int) &&& BitVec.ofInt 8 127).toNat)) * 128))).toNat) ||| BitVec.ofInt 32 (IntKind.u32.wrap ((IntKind.u32.wrap (IntKind.u8.wrap (BitVec.ofInt 8 ((s.getD 2 0).toNat:Int) &&& BitVec.ofInt 8 127).toNat)) * 16384))).toNat) ||| BitVec.ofInt 32 (IntKind.u32.wrap ((IntKind.u32.wrap (IntKind.u8.wrap (BitVec.ofInt 8 ((s.getD 3 0).toNat:Int) &&& BitVec.ofInt 8 127).toNat)) * 2097152))).toNat))),(3,.v (.int .i64 4))] hW ar fun b8 au=>?_
 refine wp_ret ?_
 refine qax ?_
 refine qda ?_
 refine qaN au hW.cells (v:=.tuple #[.int .u32 (IntKind.u32.wrap (BitVec.ofInt 32 (IntKind.u32.wrap (BitVec.ofInt 32 (IntKind.u32.wrap (BitVec.ofInt 32 (IntKind.u32.wrap (IntKind.u8.wrap (BitVec.ofInt 8 ((s.getD 0 0).toNat:Int) &&& BitVec.ofInt 8 127).toNat)) ||| BitVec.ofInt 32 (IntKind.u32.wrap ((IntKind.u32.wrap (IntKind.u8.wrap (BitVec.ofInt 8 ((s.getD 1 0).toNat:Int) &&& BitVec.ofInt 8 127).toNat)) * 128))).toNat) ||| BitVec.ofInt 32 (IntKind.u32.wrap ((IntKind.u32.wrap (IntKind.u8.wrap (BitVec.ofInt 8 ((s.getD 2 0).toNat:Int) &&& BitVec.ofInt 8 127).toNat)) * 16384))).toNat) ||| BitVec.ofInt 32 (IntKind.u32.wrap ((IntKind.u32.wrap (IntKind.u8.wrap (BitVec.ofInt 8 ((s.getD 3 0).toNat:Int) &&& BitVec.ofInt 8 127).toNat)) * 2097152))).toNat),.int .i64 4]) kz ?_
 have e_:=uv_4 (oc s 0) (oc s 1) (oc s 2) (oc s 3) (qbP s 0) (qbP s 1) (qbP s 2) (qbP s 3)
 refine ⟨congrArg (fun z_:Int=>Ending.returned (.tuple #[.int .u32 z_,.int .i64 4])) (Eq.trans e_ ?_),hW.step⟩
 omega
theorem rUv5 {A:Option Addr} {c:Nat} (s:Bs) {w:World} {F:Nat → Nat → Prop} (ho:Octs w F A c s) (hl:5 ≤ s.length) (d0 d1 d2 d3 d4:Nat) (h0:oc s 0 = d0 + 128) (h1:oc s 1 = d1 + 128) (h2:oc s 2 = d2 + 128) (h3:oc s 3 = d3 + 128) (h4:oc s 4 = d4) (g0:d0 < 128) (g1:d1 < 128) (g2:d2 < 128) (g3:d3 < 128) (g4:d4 < 16) :
  Calls Tryz.prog 205 #[.slice A s.length c] w (qch w (.tuple #[.int .u32 ((d0 + d1 * 128 + d2 * 16384 + d3 * 2097152 + d4 * 268435456:Nat):Int),.int .i64 5])):=by
 refine enter (n:=87) Tryz.func205 rfl Tryz.ntmps205 kz fun a hE=>?_
 have hW:=WOk.start w Nil
 refine qap [(0,.v (.slice A s.length c))] hW hE fun a1 hE2=>?_
 refine wp_scope_straight ?_
 refine qap [(0,.v (.slice A s.length c))] hW hE2 fun a3 hE4=>?_
 refine qap [(0,.v (.slice A s.length c))] hW hE4 fun a5 hE6=>?_
 refine wp_seq ?_
 refine qap [(0,.v (.slice A s.length c)),(8,.v (.bool (decide (((s.length:Nat):Int) < 1))))] hW hE6 fun a7 hE8=>?_
 refine qar hE8 (b:=decide (((s.length:Nat):Int) < 1)) kz (decide_eq_false (by omega)) ?_
 refine wp_skip ?_
 refine qaa ?_
 refine qac [0,1,2,3,4,5] kz ?_
 refine qai [0] [1,2,3,4,5] [(0,.v (.slice A s.length c)),(9,.v (.slice A s.length c))] hW hE8 fun a9 aI=>?_
 obtain ⟨bp,bq,aj,bC,ab⟩:=Slots.get ho (i:=0) (by first | omega | (simp only [List.length_append,be_length,List.length_cons,List.length_nil] at *; omega))
 refine qaj (qas aI (t:=22) (A:=A) (m:=s.length) (q:=0) (d:=10) kz (e:=5) (size:=1) (bytes:=1) (j:=0) kz aj rfl (by first | omega | (simp only [List.length_append,be_length,List.length_cons,List.length_nil] at *; omega)) fun bP aJ=>?_)
 refine qaj (qaD aJ (t:=5) (b:=bp) (o:=bq + 0 * 1) (d:=11) kz (cs:=[.int .u8 ((s.getD 0 0).toNat:Int)]) (v:=.int .u8 ((s.getD 0 0).toNat:Int)) kz (AtF.move ab hW.step nilM qa1).at_ fun bQ aK=>?_)
 refine qai [3,4,5] [] [(0,.v (.slice A s.length c)),(4,.v (.int .u32 (IntKind.u32.wrap (IntKind.u8.wrap (BitVec.ofInt 8 ((s.getD 0 0).toNat:Int) &&& BitVec.ofInt 8 127).toNat))))] hW aK fun bR aL=>?_
 refine qae (qaa ?_)
 refine wp_seq ?_
 refine qac [0,1,2,3,4] kz ?_
 refine qai [0] [1,2,3,4] [(0,.v (.slice A s.length c)),(4,.v (.int .u32 (IntKind.u32.wrap (IntKind.u8.wrap (BitVec.ofInt 8 ((s.getD 0 0).toNat:Int) &&& BitVec.ofInt 8 127).toNat)))),(14,.v (.slice A s.length c))] hW aL fun bS aM=>?_
 refine qaj (qas aM (t:=22) (A:=A) (m:=s.length) (q:=0) (d:=15) kz (e:=5) (size:=1) (bytes:=1) (j:=0) kz aj rfl (by first | omega | (simp only [List.length_append,be_length,List.length_cons,List.length_nil] at *; omega)) fun bT aN=>?_)
 refine qaj (qaD aN (t:=5) (b:=bp) (o:=bq + 0 * 1) (d:=16) kz (cs:=[.int .u8 ((s.getD 0 0).toNat:Int)]) (v:=.int .u8 ((s.getD 0 0).toNat:Int)) kz (AtF.move ab hW.step nilM qa1).at_ fun bU aO=>?_)
 refine qai [3,4] [] [(0,.v (.slice A s.length c)),(4,.v (.int .u32 (IntKind.u32.wrap (IntKind.u8.wrap (BitVec.ofInt 8 ((s.getD 0 0).toNat:Int) &&& BitVec.ofInt 8 127).toNat)))),(18,.v (.bool ((IntKind.u8.wrap (BitVec.ofInt 8 ((s.getD 0 0).toNat:Int) &&& BitVec.ofInt 8 128).toNat) == 0)))] hW aO fun bV ak=>?_
 refine qae (qaa ?_)
 refine qar ak (b:=(IntKind.u8.wrap (BitVec.ofInt 8 ((s.getD 0 0).toNat:Int) &&& BitVec.ofInt 8 128).toNat) == 0) kz ((qcy _ (qbP s 0)).trans (decide_eq_false (by have:=h0; unfold oc at this; omega))) ?_
 refine qap [(0,.v (.slice A s.length c)),(4,.v (.int .u32 (IntKind.u32.wrap (IntKind.u8.wrap (BitVec.ofInt 8 ((s.getD 0 0).toNat:Int) &&& BitVec.ofInt 8 127).toNat)))),(22,.v (.bool (decide (((s.length:Nat):Int) < 2))))] hW ak fun bW al=>?_
 refine qar al (b:=decide (((s.length:Nat):Int) < 2)) kz (decide_eq_false (by omega)) ?_
 refine wp_skip ?_
 refine qaa ?_
 refine qac [0,1,2,3,4,5,6,7,8] kz ?_
 refine qai [0,1] [2,3,4,5,6,7,8] [(0,.v (.slice A s.length c)),(23,.v (.int .u32 (IntKind.u32.wrap (IntKind.u8.wrap (BitVec.ofInt 8 ((s.getD 0 0).toNat:Int) &&& BitVec.ofInt 8 127).toNat)))),(24,.v (.slice A s.length c))] hW al fun bX aP=>?_
 obtain ⟨bt,bu,am,bD,ac⟩:=Slots.get ho (i:=1) (by first | omega | (simp only [List.length_append,be_length,List.length_cons,List.length_nil] at *; omega))
 refine qaj (qas aP (t:=22) (A:=A) (m:=s.length) (q:=1) (d:=25) kz (e:=5) (size:=1) (bytes:=1) (j:=1) kz am rfl (by first | omega | (simp only [List.length_append,be_length,List.length_cons,List.length_nil] at *; omega)) fun bY aQ=>?_)
 refine qaj (qaD aQ (t:=5) (b:=bt) (o:=bu + 1 * 1) (d:=26) kz (cs:=[.int .u8 ((s.getD 1 0).toNat:Int)]) (v:=.int .u8 ((s.getD 1 0).toNat:Int)) kz (AtF.move ac hW.step nilM qa1).at_ fun bZ aR=>?_)
 refine qai [4,5,6,7,8] [] [(0,.v (.slice A s.length c)),(4,.v (.int .u32 (IntKind.u32.wrap (BitVec.ofInt 32 (IntKind.u32.wrap (IntKind.u8.wrap (BitVec.ofInt 8 ((s.getD 0 0).toNat:Int) &&& BitVec.ofInt 8 127).toNat)) ||| BitVec.ofInt 32 (IntKind.u32.wrap ((IntKind.u32.wrap (IntKind.u8.wrap (BitVec.ofInt 8 ((s.getD 1 0).toNat:Int) &&& BitVec.ofInt 8 127).toNat)) * 128))).toNat)))] hW aR fun b8 aS=>?_
 refine qae (qaa ?_)
 refine wp_seq ?_
 refine qac [0,1,2,3,4] kz ?_
 refine qai [0] [1,2,3,4] [(0,.v (.slice A s.length c)),(4,.v (.int .u32 (IntKind.u32.wrap (BitVec.ofInt 32 (IntKind.u32.wrap (IntKind.u8.wrap (BitVec.ofInt 8 ((s.getD 0 0).toNat:Int) &&& BitVec.ofInt 8 127).toNat)) ||| BitVec.ofInt 32 (IntKind.u32.wrap ((IntKind.u32.wrap (IntKind.u8.wrap (BitVec.ofInt 8 ((s.getD 1 0).toNat:Int) &&& BitVec.ofInt 8 127).toNat)) * 128))).toNat))),(31,.v (.slice A s.length c))] hW aS fun cd aT=>?_
 refine qaj (qas aT (t:=22) (A:=A) (m:=s.length) (q:=1) (d:=32) kz (e:=5) (size:=1) (bytes:=1) (j:=1) kz am rfl (by first | omega | (simp only [List.length_append,be_length,List.length_cons,List.length_nil] at *; omega)) fun ce aU=>?_)
 refine qaj (qaD aU (t:=5) (b:=bt) (o:=bu + 1 * 1) (d:=33) kz (cs:=[.int .u8 ((s.getD 1 0).toNat:Int)]) (v:=.int .u8 ((s.getD 1 0).toNat:Int)) kz (AtF.move ac hW.step nilM qa1).at_ fun cg aV=>?_)
 refine qai [3,4] [] [(0,.v (.slice A s.length c)),(4,.v (.int .u32 (IntKind.u32.wrap (BitVec.ofInt 32 (IntKind.u32.wrap (IntKind.u8.wrap (BitVec.ofInt 8 ((s.getD 0 0).toNat:Int) &&& BitVec.ofInt 8 127).toNat)) ||| BitVec.ofInt 32 (IntKind.u32.wrap ((IntKind.u32.wrap (IntKind.u8.wrap (BitVec.ofInt 8 ((s.getD 1 0).toNat:Int) &&& BitVec.ofInt 8 127).toNat)) * 128))).toNat))),(35,.v (.bool ((IntKind.u8.wrap (BitVec.ofInt 8 ((s.getD 1 0).toNat:Int) &&& BitVec.ofInt 8 128).toNat) == 0)))] hW aV fun cm ao=>?_
 refine qae (qaa ?_)
 refine qar ao (b:=(IntKind.u8.wrap (BitVec.ofInt 8 ((s.getD 1 0).toNat:Int) &&& BitVec.ofInt 8 128).toNat) == 0) kz ((qcy _ (qbP s 1)).trans (decide_eq_false (by have:=h1; unfold oc at this; omega))) ?_
 refine qap [(0,.v (.slice A s.length c)),(4,.v (.int .u32 (IntKind.u32.wrap (BitVec.ofInt 32 (IntKind.u32.wrap (IntKind.u8.wrap (BitVec.ofInt 8 ((s.getD 0 0).toNat:Int) &&& BitVec.ofInt 8 127).toNat)) ||| BitVec.ofInt 32 (IntKind.u32.wrap ((IntKind.u32.wrap (IntKind.u8.wrap (BitVec.ofInt 8 ((s.getD 1 0).toNat:Int) &&& BitVec.ofInt 8 127).toNat)) * 128))).toNat))),(39,.v (.bool (decide (((s.length:Nat):Int) < 3))))] hW ao fun cq ap=>?_
 refine qar ap (b:=decide (((s.length:Nat):Int) < 3)) kz (decide_eq_false (by omega)) ?_
 refine wp_skip ?_
 refine qaa ?_
 refine qac [0,1,2,3,4,5,6,7,8] kz ?_
 refine qai [0,1] [2,3,4,5,6,7,8] [(0,.v (.slice A s.length c)),(40,.v (.int .u32 (IntKind.u32.wrap (BitVec.ofInt 32 (IntKind.u32.wrap (IntKind.u8.wrap (BitVec.ofInt 8 ((s.getD 0 0).toNat:Int) &&& BitVec.ofInt 8 127).toNat)) ||| BitVec.ofInt 32 (IntKind.u32.wrap ((IntKind.u32.wrap (IntKind.u8.wrap (BitVec.ofInt 8 ((s.getD 1 0).toNat:Int) &&& BitVec.ofInt 8 127).toNat)) * 128))).toNat))),(41,.v (.slice A s.length c))] hW ap fun cr aW=>?_
 obtain ⟨bw,bx,ar,bE,ae⟩:=Slots.get ho (i:=2) (by first | omega | (simp only [List.length_append,be_length,List.length_cons,List.length_nil] at *; omega))
 refine qaj (qas aW (t:=22) (A:=A) (m:=s.length) (q:=2) (d:=42) kz (e:=5) (size:=1) (bytes:=1) (j:=2) kz ar rfl (by first | omega | (simp only [List.length_append,be_length,List.length_cons,List.length_nil] at *; omega)) fun cu aX=>?_)
 refine qaj (qaD aX (t:=5) (b:=bw) (o:=bx + 2 * 1) (d:=43) kz (cs:=[.int .u8 ((s.getD 2 0).toNat:Int)]) (v:=.int .u8 ((s.getD 2 0).toNat:Int)) kz (AtF.move ae hW.step nilM qa1).at_ fun cw aY=>?_)
 refine qai [4,5,6,7,8] [] [(0,.v (.slice A s.length c)),(4,.v (.int .u32 (IntKind.u32.wrap (BitVec.ofInt 32 (IntKind.u32.wrap (BitVec.ofInt 32 (IntKind.u32.wrap (IntKind.u8.wrap (BitVec.ofInt 8 ((s.getD 0 0).toNat:Int) &&& BitVec.ofInt 8 127).toNat)) ||| BitVec.ofInt 32 (IntKind.u32.wrap ((IntKind.u32.wrap (IntKind.u8.wrap (BitVec.ofInt 8 ((s.getD 1 0).toNat:Int) &&& BitVec.ofInt 8 127).toNat)) * 128))).toNat) ||| BitVec.ofInt 32 (IntKind.u32.wrap ((IntKind.u32.wrap (IntKind.u8.wrap (BitVec.ofInt 8 ((s.getD 2 0).toNat:Int) &&& BitVec.ofInt 8 127).toNat)) * 16384))).toNat)))] hW aY fun cz aZ=>?_
 refine qae (qaa ?_)
 refine wp_seq ?_
 refine qac [0,1,2,3,4] kz ?_
 refine qai [0] [1,2,3,4] [(0,.v (.slice A s.length c)),(4,.v (.int .u32 (IntKind.u32.wrap (BitVec.ofInt 32 (IntKind.u32.wrap (BitVec.ofInt 32 (IntKind.u32.wrap (IntKind.u8.wrap (BitVec.ofInt 8 ((s.getD 0 0).toNat:Int) &&& BitVec.ofInt 8 127).toNat)) ||| BitVec.ofInt 32 (IntKind.u32.wrap ((IntKind.u32.wrap (IntKind.u8.wrap (BitVec.ofInt 8 ((s.getD 1 0).toNat:Int) &&& BitVec.ofInt 8 127).toNat)) * 128))).toNat) ||| BitVec.ofInt 32 (IntKind.u32.wrap ((IntKind.u32.wrap (IntKind.u8.wrap (BitVec.ofInt 8 ((s.getD 2 0).toNat:Int) &&& BitVec.ofInt 8 127).toNat)) * 16384))).toNat))),(48,.v (.slice A s.length c))] hW aZ fun cA ba=>?_
 refine qaj (qas ba (t:=22) (A:=A) (m:=s.length) (q:=2) (d:=49) kz (e:=5) (size:=1) (bytes:=1) (j:=2) kz ar rfl (by first | omega | (simp only [List.length_append,be_length,List.length_cons,List.length_nil] at *; omega)) fun cB bd=>?_)
 refine qaj (qaD bd (t:=5) (b:=bw) (o:=bx + 2 * 1) (d:=50) kz (cs:=[.int .u8 ((s.getD 2 0).toNat:Int)]) (v:=.int .u8 ((s.getD 2 0).toNat:Int)) kz (AtF.move ae hW.step nilM qa1).at_ fun cC bf=>?_)
 refine qai [3,4] [] [(0,.v (.slice A s.length c)),(4,.v (.int .u32 (IntKind.u32.wrap (BitVec.ofInt 32 (IntKind.u32.wrap (BitVec.ofInt 32 (IntKind.u32.wrap (IntKind.u8.wrap (BitVec.ofInt 8 ((s.getD 0 0).toNat:Int) &&& BitVec.ofInt 8 127).toNat)) ||| BitVec.ofInt 32 (IntKind.u32.wrap ((IntKind.u32.wrap (IntKind.u8.wrap (BitVec.ofInt 8 ((s.getD 1 0).toNat:Int) &&& BitVec.ofInt 8 127).toNat)) * 128))).toNat) ||| BitVec.ofInt 32 (IntKind.u32.wrap ((IntKind.u32.wrap (IntKind.u8.wrap (BitVec.ofInt 8 ((s.getD 2 0).toNat:Int) &&& BitVec.ofInt 8 127).toNat)) * 16384))).toNat))),(52,.v (.bool ((IntKind.u8.wrap (BitVec.ofInt 8 ((s.getD 2 0).toNat:Int) &&& BitVec.ofInt 8 128).toNat) == 0)))] hW bf fun cD au=>?_
 refine qae (qaa ?_)
 refine qar au (b:=(IntKind.u8.wrap (BitVec.ofInt 8 ((s.getD 2 0).toNat:Int) &&& BitVec.ofInt 8 128).toNat) == 0) kz ((qcy _ (qbP s 2)).trans (decide_eq_false (by have:=h2; unfold oc at this; omega))) ?_
 refine qap [(0,.v (.slice A s.length c)),(4,.v (.int .u32 (IntKind.u32.wrap (BitVec.ofInt 32 (IntKind.u32.wrap (BitVec.ofInt 32 (IntKind.u32.wrap (IntKind.u8.wrap (BitVec.ofInt 8 ((s.getD 0 0).toNat:Int) &&& BitVec.ofInt 8 127).toNat)) ||| BitVec.ofInt 32 (IntKind.u32.wrap ((IntKind.u32.wrap (IntKind.u8.wrap (BitVec.ofInt 8 ((s.getD 1 0).toNat:Int) &&& BitVec.ofInt 8 127).toNat)) * 128))).toNat) ||| BitVec.ofInt 32 (IntKind.u32.wrap ((IntKind.u32.wrap (IntKind.u8.wrap (BitVec.ofInt 8 ((s.getD 2 0).toNat:Int) &&& BitVec.ofInt 8 127).toNat)) * 16384))).toNat))),(56,.v (.bool (decide (((s.length:Nat):Int) < 4))))] hW au fun cE av=>?_
 refine qar av (b:=decide (((s.length:Nat):Int) < 4)) kz (decide_eq_false (by omega)) ?_
 refine wp_skip ?_
 refine qaa ?_
 refine qac [0,1,2,3,4,5,6,7,8] kz ?_
 refine qai [0,1] [2,3,4,5,6,7,8] [(0,.v (.slice A s.length c)),(57,.v (.int .u32 (IntKind.u32.wrap (BitVec.ofInt 32 (IntKind.u32.wrap (BitVec.ofInt 32 (IntKind.u32.wrap (IntKind.u8.wrap (BitVec.ofInt 8 ((s.getD 0 0).toNat:Int) &&& BitVec.ofInt 8 127).toNat)) ||| BitVec.ofInt 32 (IntKind.u32.wrap ((IntKind.u32.wrap (IntKind.u8.wrap (BitVec.ofInt 8 ((s.getD 1 0).toNat:Int) &&& BitVec.ofInt 8 127).toNat)) * 128))).toNat) ||| BitVec.ofInt 32 (IntKind.u32.wrap ((IntKind.u32.wrap (IntKind.u8.wrap (BitVec.ofInt 8 ((s.getD 2 0).toNat:Int) &&& BitVec.ofInt 8 127).toNat)) * 16384))).toNat))),(58,.v (.slice A s.length c))] hW av fun cG bg=>?_
 obtain ⟨bz,bA,aw,bF,af⟩:=Slots.get ho (i:=3) (by first | omega | (simp only [List.length_append,be_length,List.length_cons,List.length_nil] at *; omega))
 refine qaj (qas bg (t:=22) (A:=A) (m:=s.length) (q:=3) (d:=59) kz (e:=5) (size:=1) (bytes:=1) (j:=3) kz aw rfl (by first | omega | (simp only [List.length_append,be_length,List.length_cons,List.length_nil] at *; omega)) fun cH bh=>?_)
 refine qaj (qaD bh (t:=5) (b:=bz) (o:=bA + 3 * 1) (d:=60) kz (cs:=[.int .u8 ((s.getD 3 0).toNat:Int)]) (v:=.int .u8 ((s.getD 3 0).toNat:Int)) kz (AtF.move af hW.step nilM qa1).at_ fun cI bi=>?_)
 refine qai [4,5,6,7,8] [] [(0,.v (.slice A s.length c)),(4,.v (.int .u32 (IntKind.u32.wrap (BitVec.ofInt 32 (IntKind.u32.wrap (BitVec.ofInt 32 (IntKind.u32.wrap (BitVec.ofInt 32 (IntKind.u32.wrap (IntKind.u8.wrap (BitVec.ofInt 8 ((s.getD 0 0).toNat:Int) &&& BitVec.ofInt 8 127).toNat)) ||| BitVec.ofInt 32 (IntKind.u32.wrap ((IntKind.u32.wrap (IntKind.u8.wrap (BitVec.ofInt 8 ((s.getD 1 0).toNat:Int) &&& BitVec.ofInt 8 127).toNat)) * 128))).toNat) ||| BitVec.ofInt 32 (IntKind.u32.wrap ((IntKind.u32.wrap (IntKind.u8.wrap (BitVec.ofInt 8 ((s.getD 2 0).toNat:Int) &&& BitVec.ofInt 8 127).toNat)) * 16384))).toNat) ||| BitVec.ofInt 32 (IntKind.u32.wrap ((IntKind.u32.wrap (IntKind.u8.wrap (BitVec.ofInt 8 ((s.getD 3 0).toNat:Int) &&& BitVec.ofInt 8 127).toNat)) * 2097152))).toNat)))] hW bi fun cJ bj=>?_
 refine qae (qaa ?_)
 refine wp_seq ?_
 refine qac [0,1,2,3,4] kz ?_
 refine qai [0] [1,2,3,4] [(0,.v (.slice A s.length c)),(4,.v (.int .u32 (IntKind.u32.wrap (BitVec.ofInt 32 (IntKind.u32.wrap (BitVec.ofInt 32 (IntKind.u32.wrap (BitVec.ofInt 32 (IntKind.u32.wrap (IntKind.u8.wrap (BitVec.ofInt 8 ((s.getD 0 0).toNat:Int) &&& BitVec.ofInt 8 127).toNat)) ||| BitVec.ofInt 32 (IntKind.u32.wrap ((IntKind.u32.wrap (IntKind.u8.wrap (BitVec.ofInt 8 ((s.getD 1 0).toNat:Int) &&& BitVec.ofInt 8 127).toNat)) * 128))).toNat) ||| BitVec.ofInt 32 (IntKind.u32.wrap ((IntKind.u32.wrap (IntKind.u8.wrap (BitVec.ofInt 8 ((s.getD 2 0).toNat:Int) &&& BitVec.ofInt 8 127).toNat)) * 16384))).toNat) ||| BitVec.ofInt 32 (IntKind.u32.wrap ((IntKind.u32.wrap (IntKind.u8.wrap (BitVec.ofInt 8 ((s.getD 3 0).toNat:Int) &&& BitVec.ofInt 8 127).toNat)) * 2097152))).toNat))),(65,.v (.slice A s.length c))] hW bj fun cK bk=>?_
 refine qaj (qas bk (t:=22) (A:=A) (m:=s.length) (q:=3) (d:=66) kz (e:=5) (size:=1) (bytes:=1) (j:=3) kz aw rfl (by first | omega | (simp only [List.length_append,be_length,List.length_cons,List.length_nil] at *; omega)) fun cL bn=>?_)
 refine qaj (qaD bn (t:=5) (b:=bz) (o:=bA + 3 * 1) (d:=67) kz (cs:=[.int .u8 ((s.getD 3 0).toNat:Int)]) (v:=.int .u8 ((s.getD 3 0).toNat:Int)) kz (AtF.move af hW.step nilM qa1).at_ fun cM bo=>?_)
 refine qai [3,4] [] [(0,.v (.slice A s.length c)),(4,.v (.int .u32 (IntKind.u32.wrap (BitVec.ofInt 32 (IntKind.u32.wrap (BitVec.ofInt 32 (IntKind.u32.wrap (BitVec.ofInt 32 (IntKind.u32.wrap (IntKind.u8.wrap (BitVec.ofInt 8 ((s.getD 0 0).toNat:Int) &&& BitVec.ofInt 8 127).toNat)) ||| BitVec.ofInt 32 (IntKind.u32.wrap ((IntKind.u32.wrap (IntKind.u8.wrap (BitVec.ofInt 8 ((s.getD 1 0).toNat:Int) &&& BitVec.ofInt 8 127).toNat)) * 128))).toNat) ||| BitVec.ofInt 32 (IntKind.u32.wrap ((IntKind.u32.wrap (IntKind.u8.wrap (BitVec.ofInt 8 ((s.getD 2 0).toNat:Int) &&& BitVec.ofInt 8 127).toNat)) * 16384))).toNat) ||| BitVec.ofInt 32 (IntKind.u32.wrap ((IntKind.u32.wrap (IntKind.u8.wrap (BitVec.ofInt 8 ((s.getD 3 0).toNat:Int) &&& BitVec.ofInt 8 127).toNat)) * 2097152))).toNat))),(69,.v (.bool ((IntKind.u8.wrap (BitVec.ofInt 8 ((s.getD 3 0).toNat:Int) &&& BitVec.ofInt 8 128).toNat) == 0)))] hW bo fun cN ax=>?_
 refine qae (qaa ?_)
 refine qar ax (b:=(IntKind.u8.wrap (BitVec.ofInt 8 ((s.getD 3 0).toNat:Int) &&& BitVec.ofInt 8 128).toNat) == 0) kz ((qcy _ (qbP s 3)).trans (decide_eq_false (by have:=h3; unfold oc at this; omega))) ?_
 refine qap [(0,.v (.slice A s.length c)),(4,.v (.int .u32 (IntKind.u32.wrap (BitVec.ofInt 32 (IntKind.u32.wrap (BitVec.ofInt 32 (IntKind.u32.wrap (BitVec.ofInt 32 (IntKind.u32.wrap (IntKind.u8.wrap (BitVec.ofInt 8 ((s.getD 0 0).toNat:Int) &&& BitVec.ofInt 8 127).toNat)) ||| BitVec.ofInt 32 (IntKind.u32.wrap ((IntKind.u32.wrap (IntKind.u8.wrap (BitVec.ofInt 8 ((s.getD 1 0).toNat:Int) &&& BitVec.ofInt 8 127).toNat)) * 128))).toNat) ||| BitVec.ofInt 32 (IntKind.u32.wrap ((IntKind.u32.wrap (IntKind.u8.wrap (BitVec.ofInt 8 ((s.getD 2 0).toNat:Int) &&& BitVec.ofInt 8 127).toNat)) * 16384))).toNat) ||| BitVec.ofInt 32 (IntKind.u32.wrap ((IntKind.u32.wrap (IntKind.u8.wrap (BitVec.ofInt 8 ((s.getD 3 0).toNat:Int) &&& BitVec.ofInt 8 127).toNat)) * 2097152))).toNat))),(73,.v (.bool (decide (((s.length:Nat):Int) < 5))))] hW ax fun cO ag=>?_
 refine qar ag (b:=decide (((s.length:Nat):Int) < 5)) kz (decide_eq_false (by omega)) ?_
 refine wp_skip ?_
 refine qaa ?_
 refine qac [0,1,2,3,4,5,6,7] kz ?_
 refine qai [0,1] [2,3,4,5,6,7] [(0,.v (.slice A s.length c)),(74,.v (.int .u32 (IntKind.u32.wrap (BitVec.ofInt 32 (IntKind.u32.wrap (BitVec.ofInt 32 (IntKind.u32.wrap (BitVec.ofInt 32 (IntKind.u32.wrap (IntKind.u8.wrap (BitVec.ofInt 8 ((s.getD 0 0).toNat:Int) &&& BitVec.ofInt 8 127).toNat)) ||| BitVec.ofInt 32 (IntKind.u32.wrap ((IntKind.u32.wrap (IntKind.u8.wrap (BitVec.ofInt 8 ((s.getD 1 0).toNat:Int) &&& BitVec.ofInt 8 127).toNat)) * 128))).toNat) ||| BitVec.ofInt 32 (IntKind.u32.wrap ((IntKind.u32.wrap (IntKind.u8.wrap (BitVec.ofInt 8 ((s.getD 2 0).toNat:Int) &&& BitVec.ofInt 8 127).toNat)) * 16384))).toNat) ||| BitVec.ofInt 32 (IntKind.u32.wrap ((IntKind.u32.wrap (IntKind.u8.wrap (BitVec.ofInt 8 ((s.getD 3 0).toNat:Int) &&& BitVec.ofInt 8 127).toNat)) * 2097152))).toNat))),(75,.v (.slice A s.length c))] hW ag fun bG ay=>?_
 obtain ⟨az,aA,ah,bB,aa⟩:=Slots.get ho (i:=4) (by first | omega | (simp only [List.length_append,be_length,List.length_cons,List.length_nil] at *; omega))
 refine qaj (qas ay (t:=22) (A:=A) (m:=s.length) (q:=4) (d:=76) kz (e:=5) (size:=1) (bytes:=1) (j:=4) kz ah rfl (by first | omega | (simp only [List.length_append,be_length,List.length_cons,List.length_nil] at *; omega)) fun bH aB=>?_)
 refine qaj (qaD aB (t:=5) (b:=az) (o:=aA + 4 * 1) (d:=77) kz (cs:=[.int .u8 ((s.getD 4 0).toNat:Int)]) (v:=.int .u8 ((s.getD 4 0).toNat:Int)) kz (AtF.move aa hW.step nilM qa1).at_ fun bI aC=>?_)
 refine qai [4,5,6,7] [] [(0,.v (.slice A s.length c)),(4,.v (.int .u32 (IntKind.u32.wrap (BitVec.ofInt 32 (IntKind.u32.wrap (BitVec.ofInt 32 (IntKind.u32.wrap (BitVec.ofInt 32 (IntKind.u32.wrap (BitVec.ofInt 32 (IntKind.u32.wrap (IntKind.u8.wrap (BitVec.ofInt 8 ((s.getD 0 0).toNat:Int) &&& BitVec.ofInt 8 127).toNat)) ||| BitVec.ofInt 32 (IntKind.u32.wrap ((IntKind.u32.wrap (IntKind.u8.wrap (BitVec.ofInt 8 ((s.getD 1 0).toNat:Int) &&& BitVec.ofInt 8 127).toNat)) * 128))).toNat) ||| BitVec.ofInt 32 (IntKind.u32.wrap ((IntKind.u32.wrap (IntKind.u8.wrap (BitVec.ofInt 8 ((s.getD 2 0).toNat:Int) &&& BitVec.ofInt 8 127).toNat)) * 16384))).toNat) ||| BitVec.ofInt 32 (IntKind.u32.wrap ((IntKind.u32.wrap (IntKind.u8.wrap (BitVec.ofInt 8 ((s.getD 3 0).toNat:Int) &&& BitVec.ofInt 8 127).toNat)) * 2097152))).toNat) ||| BitVec.ofInt 32 (IntKind.u32.wrap ((IntKind.u32.wrap ((s.getD 4 0).toNat:Int)) * 268435456))).toNat)))] hW aC fun bJ aD=>?_
 refine qae (qaa ?_)
 refine wp_seq ?_
 refine qac [0,1,2,3] kz ?_
 refine qai [0] [1,2,3] [(4,.v (.int .u32 (IntKind.u32.wrap (BitVec.ofInt 32 (IntKind.u32.wrap (BitVec.ofInt 32 (IntKind.u32.wrap (BitVec.ofInt 32 (IntKind.u32.wrap (BitVec.ofInt 32 (IntKind.u32.wrap (IntKind.u8.wrap (BitVec.ofInt 8 ((s.getD 0 0).toNat:Int) &&& BitVec.ofInt 8 127).toNat)) ||| BitVec.ofInt 32 (IntKind.u32.wrap ((IntKind.u32.wrap (IntKind.u8.wrap (BitVec.ofInt 8 ((s.getD 1 0).toNat:Int) &&& BitVec.ofInt 8 127).toNat)) * 128))).toNat) ||| BitVec.ofInt 32 (IntKind.u32.wrap ((IntKind.u32.wrap (IntKind.u8.wrap (BitVec.ofInt 8 ((s.getD 2 0).toNat:Int) &&& BitVec.ofInt 8 127).toNat)) * 16384))).toNat) ||| BitVec.ofInt 32 (IntKind.u32.wrap ((IntKind.u32.wrap (IntKind.u8.wrap (BitVec.ofInt 8 ((s.getD 3 0).toNat:Int) &&& BitVec.ofInt 8 127).toNat)) * 2097152))).toNat) ||| BitVec.ofInt 32 (IntKind.u32.wrap ((IntKind.u32.wrap ((s.getD 4 0).toNat:Int)) * 268435456))).toNat))),(81,.v (.slice A s.length c))] hW aD fun bK aE=>?_
 refine qaj (qas aE (t:=22) (A:=A) (m:=s.length) (q:=4) (d:=82) kz (e:=5) (size:=1) (bytes:=1) (j:=4) kz ah rfl (by first | omega | (simp only [List.length_append,be_length,List.length_cons,List.length_nil] at *; omega)) fun bL aF=>?_)
 refine qaj (qaD aF (t:=5) (b:=az) (o:=aA + 4 * 1) (d:=83) kz (cs:=[.int .u8 ((s.getD 4 0).toNat:Int)]) (v:=.int .u8 ((s.getD 4 0).toNat:Int)) kz (AtF.move aa hW.step nilM qa1).at_ fun bM aG=>?_)
 refine qai [3] [] [(4,.v (.int .u32 (IntKind.u32.wrap (BitVec.ofInt 32 (IntKind.u32.wrap (BitVec.ofInt 32 (IntKind.u32.wrap (BitVec.ofInt 32 (IntKind.u32.wrap (BitVec.ofInt 32 (IntKind.u32.wrap (IntKind.u8.wrap (BitVec.ofInt 8 ((s.getD 0 0).toNat:Int) &&& BitVec.ofInt 8 127).toNat)) ||| BitVec.ofInt 32 (IntKind.u32.wrap ((IntKind.u32.wrap (IntKind.u8.wrap (BitVec.ofInt 8 ((s.getD 1 0).toNat:Int) &&& BitVec.ofInt 8 127).toNat)) * 128))).toNat) ||| BitVec.ofInt 32 (IntKind.u32.wrap ((IntKind.u32.wrap (IntKind.u8.wrap (BitVec.ofInt 8 ((s.getD 2 0).toNat:Int) &&& BitVec.ofInt 8 127).toNat)) * 16384))).toNat) ||| BitVec.ofInt 32 (IntKind.u32.wrap ((IntKind.u32.wrap (IntKind.u8.wrap (BitVec.ofInt 8 ((s.getD 3 0).toNat:Int) &&& BitVec.ofInt 8 127).toNat)) * 2097152))).toNat) ||| BitVec.ofInt 32 (IntKind.u32.wrap ((IntKind.u32.wrap ((s.getD 4 0).toNat:Int)) * 268435456))).toNat))),(84,.v (.bool (decide (((s.getD 4 0).toNat:Int) ≤ 15))))] hW aG fun bN ai=>?_
 refine qae (qaa ?_)
 refine qbf ai (b:=decide (((s.getD 4 0).toNat:Int) ≤ 15)) kz (decide_eq_true (by have:=h4; unfold oc at this; omega)) ?_
 refine qap [(2,.v (.int .u32 (IntKind.u32.wrap (BitVec.ofInt 32 (IntKind.u32.wrap (BitVec.ofInt 32 (IntKind.u32.wrap (BitVec.ofInt 32 (IntKind.u32.wrap (BitVec.ofInt 32 (IntKind.u32.wrap (IntKind.u8.wrap (BitVec.ofInt 8 ((s.getD 0 0).toNat:Int) &&& BitVec.ofInt 8 127).toNat)) ||| BitVec.ofInt 32 (IntKind.u32.wrap ((IntKind.u32.wrap (IntKind.u8.wrap (BitVec.ofInt 8 ((s.getD 1 0).toNat:Int) &&& BitVec.ofInt 8 127).toNat)) * 128))).toNat) ||| BitVec.ofInt 32 (IntKind.u32.wrap ((IntKind.u32.wrap (IntKind.u8.wrap (BitVec.ofInt 8 ((s.getD 2 0).toNat:Int) &&& BitVec.ofInt 8 127).toNat)) * 16384))).toNat) ||| BitVec.ofInt 32 (IntKind.u32.wrap ((IntKind.u32.wrap (IntKind.u8.wrap (BitVec.ofInt 8 ((s.getD 3 0).toNat:Int) &&& BitVec.ofInt 8 127).toNat)) * 2097152))).toNat) ||| BitVec.ofInt 32 (IntKind.u32.wrap ((IntKind.u32.wrap ((s.getD 4 0).toNat:Int)) * 268435456))).toNat))),(3,.v (.int .i64 5))] hW ai fun bO aH=>?_
 refine wp_ret ?_
 refine qax ?_
 refine qda ?_
 refine qaN aH hW.cells (v:=.tuple #[.int .u32 (IntKind.u32.wrap (BitVec.ofInt 32 (IntKind.u32.wrap (BitVec.ofInt 32 (IntKind.u32.wrap (BitVec.ofInt 32 (IntKind.u32.wrap (BitVec.ofInt 32 (IntKind.u32.wrap (IntKind.u8.wrap (BitVec.ofInt 8 ((s.getD 0 0).toNat:Int) &&& BitVec.ofInt 8 127).toNat)) ||| BitVec.ofInt 32 (IntKind.u32.wrap ((IntKind.u32.wrap (IntKind.u8.wrap (BitVec.ofInt 8 ((s.getD 1 0).toNat:Int) &&& BitVec.ofInt 8 127).toNat)) * 128))).toNat) ||| BitVec.ofInt 32 (IntKind.u32.wrap ((IntKind.u32.wrap (IntKind.u8.wrap (BitVec.ofInt 8 ((s.getD 2 0).toNat:Int) &&& BitVec.ofInt 8 127).toNat)) * 16384))).toNat) ||| BitVec.ofInt 32 (IntKind.u32.wrap ((IntKind.u32.wrap (IntKind.u8.wrap (BitVec.ofInt 8 ((s.getD 3 0).toNat:Int) &&& BitVec.ofInt 8 127).toNat)) * 2097152))).toNat) ||| BitVec.ofInt 32 (IntKind.u32.wrap ((IntKind.u32.wrap ((s.getD 4 0).toNat:Int)) * 268435456))).toNat),.int .i64 5]) kz ?_
 have e_:=uv_5 (oc s 0) (oc s 1) (oc s 2) (oc s 3) (oc s 4) (qbP s 0) (qbP s 1) (qbP s 2) (qbP s 3) (by omega)
 refine ⟨congrArg (fun z_:Int=>Ending.returned (.tuple #[.int .u32 z_,.int .i64 5])) (Eq.trans e_ ?_),hW.step⟩
 omega
theorem rUv (x:Nat) (hx:x < 4294967296) (rest:Bs) {A:Option Addr} {c:Nat} {w:World} {F:Nat → Nat → Prop} (ho:Octs w F A c (uv x ++ rest)) :
  Calls Tryz.prog 205 #[.slice A (uv x ++ rest).length c] w (qch w (.tuple #[.int .u32 ((x:Nat):Int),.int .i64 (((uv x).length:Nat):Int)])):=by
 have hl:=qhP hx
 have hL:(uv x ++ rest).length = (uv x).length + rest.length:=List.length_append
 by_cases h1:x < 128
 ·rw [if_pos h1] at hl
  have h:=rUv1 (uv x ++ rest) ho (by omega) x (by rw [qfr,if_pos h1]) h1
  rw [hl]; simpa using h
 rw [if_neg h1] at hl
 have o0:oc (uv x ++ rest) 0 = x % 128 + 128:=by rw [qfr,if_neg h1]
 have o1:oc (uv x ++ rest) 1 = oc (uv (x / 128) ++ rest) 0:=qdz (by omega) rest 0
 by_cases h2:x < 16384
 ·rw [if_pos h2] at hl
  rw [qfr,if_pos (by omega)] at o1
  have h:=rUv2 (uv x ++ rest) ho (by omega) (x % 128) (x / 128) o0 o1 (by omega) (by omega)
  rw [show x % 128 + x / 128 * 128 = x by omega] at h
  rw [hl]; exact h
 rw [if_neg h2] at hl
 have o2:oc (uv x ++ rest) 2 = oc (uv (x / 128 / 128) ++ rest) 0:=(qdz (by omega) rest 1).trans (qdz (by omega) rest 0)
 rw [qfr,if_neg (by omega)] at o1
 by_cases h3:x < 2097152
 ·rw [if_pos h3] at hl
  rw [qfr,if_pos (by omega)] at o2
  have h:=rUv3 (uv x ++ rest) ho (by omega) (x % 128) (x / 128 % 128) (x / 128 / 128) o0 o1 o2 (by omega) (by omega) (by omega)
  rw [show x % 128 + x / 128 % 128 * 128 + x / 128 / 128 * 16384 = x by omega] at h
  rw [hl]; exact h
 rw [if_neg h3] at hl
 have o3:oc (uv x ++ rest) 3 = oc (uv (x / 128 / 128 / 128) ++ rest) 0:=(qdz (by omega) rest 2).trans ((qdz (by omega) rest 1).trans (qdz (by omega) rest 0))
 rw [qfr,if_neg (by omega)] at o2
 by_cases h4:x < 268435456
 ·rw [if_pos h4] at hl
  rw [qfr,if_pos (by omega)] at o3
  have h:=rUv4 (uv x ++ rest) ho (by omega) (x % 128) (x / 128 % 128) (x / 128 / 128 % 128) (x / 128 / 128 / 128) o0 o1 o2 o3 (by omega) (by omega) (by omega) (by omega)
  rw [show x % 128 + x / 128 % 128 * 128 + x / 128 / 128 % 128 * 16384 + x / 128 / 128 / 128 * 2097152 = x by omega] at h
  rw [hl]; exact h
 rw [if_neg h4] at hl
 have o4:oc (uv x ++ rest) 4 = oc (uv (x / 128 / 128 / 128 / 128) ++ rest) 0:=(qdz (by omega) rest 3).trans ((qdz (by omega) rest 2).trans ((qdz (by omega) rest 1).trans (qdz (by omega) rest 0)))
 rw [qfr,if_neg (by omega)] at o3
 rw [qfr,if_pos (by omega)] at o4
 have h:=rUv5 (uv x ++ rest) ho (by omega) (x % 128) (x / 128 % 128) (x / 128 / 128 % 128) (x / 128 / 128 / 128 % 128) (x / 128 / 128 / 128 / 128) o0 o1 o2 o3 o4 (by omega) (by omega) (by omega) (by omega) (by omega)
 rw [show x % 128 + x / 128 % 128 * 128 + x / 128 / 128 % 128 * 16384 + x / 128 / 128 / 128 % 128 * 2097152 + x / 128 / 128 / 128 / 128 * 268435456 = x by omega] at h
 rw [hl]; exact h
theorem qcV (x:Nat) (hx:x < 4294967296) (rest:Bs)  {br:Nat} {A:Option Addr} {m c:Nat} {w:World} {F:Nat → Nat → Prop} (hst:Str w br [.slice A m c,.bool false]) (hr:RdS w F A m c (uv x ++ rest)) (hFd:∀ b o,F b o → ¬ RdM br b o) :
  Calls Tryz.prog 190 #[.pointer (some ⟨br,0,none⟩)] w (RdPost w br F rest fun v w'=>v = .int .u32 ((x:Nat):Int)):=by
 obtain ⟨hm,ho⟩:=hr
 subst hm
 have hle:=ho.le
 have hpos:=qg6 x
 refine enter (n:=31) Tryz.func190 rfl Tryz.ntmps190 kz fun a hE=>?_
 have hW:WOk w (RdM br) w [⟨br,0,[.slice A ((uv x ++ rest).length) c,.bool false],true⟩] []:=WOk.startStr hst
 have hE1:=(hE.grow ⟨br,0,[.slice A ((uv x ++ rest).length) c,.bool false],true⟩).recast 0 (.v (.pointer (some ⟨br,0,none⟩))) (.p 0 0) rfl rfl (Nat.le_of_ble_eq_true (n:=1) rfl)
 refine qap [(0,.p 0 0)] hW hE1 fun a1 hE2=>?_
 refine qac [0,1,2,3,4,5,6,7,8,9] kz ?_
 refine qai [0,1,2,3] [4,5,6,7,8,9] [(0,.p 0 0),(9,.v (.slice A ((uv x ++ rest).length) c))] hW hE2 fun a3 hE4=>?_
 refine qaj (qak hE4 (f:=205) (vs:=[.slice A ((uv x ++ rest).length) c]) (d:=10) kz Tryz.call205 (rUv x hx rest (ho.move hW.step (fun b_ o_ h_ _=>hFd b_ o_ h_) (hW.immM hFd))) ?_)
 rintro e_ w6 ⟨rfl,hs5⟩
 refine ⟨_,rfl,fun a7 hE8=>?_⟩
 have hW9:=hW.next_nil hs5
 have aj:=hW.frN hs5
 refine qai [5,6,7,8,9] [] [(0,.p 0 0),(3,.v (.int .u32 ((x:Nat):Int))),(4,.v (.int .i64 (((uv x).length:Nat):Int)))] hW9 hE8 fun al ac=>?_
 refine qae (qaa ?_)
 refine wp_seq ?_
 refine qap [(0,.p 0 0),(3,.v (.int .u32 ((x:Nat):Int))),(4,.v (.int .i64 (((uv x).length:Nat):Int))),(14,.v (.bool (decide ((((uv x).length:Nat):Int) ≤ 0))))] hW9 ac fun am ab=>?_
 refine qar ab (b:=decide ((((uv x).length:Nat):Int) ≤ 0)) kz (decide_eq_false (by omega)) ?_
 refine wp_skip ?_
 refine qaa ?_
 refine qac [0,1,2,3,4,5,6,7,8,9] kz ?_
 refine qai [0,1,2,3,4,5] [6,7,8,9] [(3,.v (.int .u32 ((x:Nat):Int))),(21,.p 0 0),(25,.v (.slice A ((uv x ++ rest).length) c)),(26,.v (.int .i64 (((uv x).length:Nat):Int)))] hW9 ab fun ao ae=>?_
 refine qaj (qca ae (t:=22) (A:=A) (m:=((uv x ++ rest).length)) (cp:=c) (q:=(((uv x).length:Nat):Int)) (d:=27) (j:=((uv x).length)) kz (e:=5) (bytes:=1) kz (rfl) (by first | omega | (simp only [List.length_append,be_length,List.length_cons,List.length_nil] at *; omega)) fun ap af=>?_)
 refine qai [7,8] [9] [(3,.v (.int .u32 ((x:Nat):Int))),(27,.v (.slice (cutA A c ((uv x).length)) (((uv x ++ rest).length) - ((uv x).length)) (c - ((uv x).length)))),(29,.p 0 0)] hW9 af fun ar ag=>?_
 refine qaj (qam hW9 ag (oi:=0) (cs:=[.slice (cutA A c ((uv x).length)) (((uv x ++ rest).length) - ((uv x).length)) (c - ((uv x).length)),.bool false]) kz fun au ak aa ah=>?_)
 refine qae (qaa ?_)
 refine qap [(2,.v (.int .u32 ((x:Nat):Int)))] aa ah fun av ai=>?_
 refine wp_ret ?_
 refine qaN ai aa.cells (v:=.int .u32 ((x:Nat):Int)) kz ?_
 exact ⟨_,_,_,_,rfl,Str.of aa 0 rfl,RdS.drop (s:=uv x) ⟨rfl,ho.move aa.step (fun b_ o_ h_ _=>hFd b_ o_ h_) qa1⟩ (rfl),aa.step,rfl⟩
theorem qiz (X:Bs) (rest:Bs)  {br:Nat} {A:Option Addr} {m c:Nat} {w:World} {F:Nat → Nat → Prop} (hst:Str w br [.slice A m c,.bool false]) (hr:RdS w F A m c (X ++ rest)) (hFd:∀ b o,F b o → ¬ RdM br b o) :
  Calls Tryz.prog 192 #[.pointer (some ⟨br,0,none⟩),.int .i64 ((X.length:Nat):Int)] w (RdPost w br F rest fun v w'=>∃ A2,v = .slice A2 X.length X.length ∧ Octs w' F A2 X.length X):=by
 obtain ⟨hm,ho⟩:=hr
 subst hm
 have hle:=ho.le
 refine enter (n:=40) Tryz.func192 rfl Tryz.ntmps192 kz fun a hE=>?_
 have hW:WOk w (RdM br) w [⟨br,0,[.slice A ((X ++ rest).length) c,.bool false],true⟩] []:=WOk.startStr hst
 have hE1:=(hE.grow ⟨br,0,[.slice A ((X ++ rest).length) c,.bool false],true⟩).recast 0 (.v (.pointer (some ⟨br,0,none⟩))) (.p 0 0) rfl rfl (Nat.le_of_ble_eq_true (n:=1) rfl)
 refine qap [(0,.p 0 0),(1,.v (.int .i64 ((X.length:Nat):Int)))] hW hE1 fun a1 hE2=>?_
 refine wp_seq ?_
 refine qac [0,1,2,3,4,5,6,7,8,9,10] kz ?_
 refine qai [0,1,2,3,4,5,6,7] [8,9,10] [(0,.p 0 0),(1,.v (.int .i64 ((X.length:Nat):Int))),(13,.v (.bool (decide ((((X ++ rest).length:Nat):Int) < ((X.length:Nat):Int)))))] hW hE2 fun a3 hE4=>?_
 have hc5:(decide ((((X ++ rest).length:Nat):Int) < ((X.length:Nat):Int))) = false:=decide_eq_false (by first | omega | (simp only [List.length_append,be_length,List.length_cons,List.length_nil] at *; omega))
 have hE6:=hE4.cast (env':=[(0,.p 0 0),(1,.v (.int .i64 ((X.length:Nat):Int))),(13,.v (.bool false))]) (by rw [hc5])
 refine qai [8,9,10] [] [(0,.p 0 0),(1,.v (.int .i64 ((X.length:Nat):Int))),(16,.v (.bool (decide (((X.length:Nat):Int) < 0))))] hW hE6 fun a7 hE8=>?_
 refine qae (qaa ?_)
 refine qar hE8 (b:=decide (((X.length:Nat):Int) < 0)) kz (decide_eq_false (by first | omega | (simp only [List.length_append,be_length,List.length_cons,List.length_nil] at *; omega))) ?_
 refine wp_skip ?_
 refine qaa ?_
 refine qac [0,1,2,3,4,5,6,7] kz ?_
 refine qai [0,1,2,3,4,5] [6,7] [(0,.p 0 0),(1,.v (.int .i64 ((X.length:Nat):Int))),(26,.v (.slice A ((X ++ rest).length) c)),(27,.v (.int .i64 ((X.length:Nat):Int))),(28,.v (.int .i64 ((X.length:Nat):Int)))] hW hE8 fun a9 ab=>?_
 refine qaj (qis ab (t:=22) (A:=A) (m:=((X ++ rest).length)) (cp:=c) (k:=.i64) (q:=((X.length:Nat):Int)) (d:=29) (j:=X.length) kz (e:=5) (bytes:=1) kz (rfl) (by first | omega | (simp only [List.length_append,be_length,List.length_cons,List.length_nil] at *; omega)) fun al ac=>?_)
 refine qai [7] [] [(0,.p 0 0),(1,.v (.int .i64 ((X.length:Nat):Int))),(5,.v (.slice A X.length X.length))] hW ac fun am ae=>?_
 refine qae (qaa ?_)
 refine qac [0,1,2,3,4,5,6,7,8,9] kz ?_
 refine qai [0,1,2,3,4,5] [6,7,8,9] [(5,.v (.slice A X.length X.length)),(30,.p 0 0),(34,.v (.slice A ((X ++ rest).length) c)),(35,.v (.int .i64 ((X.length:Nat):Int)))] hW ae fun ao af=>?_
 refine qaj (qca af (t:=22) (A:=A) (m:=((X ++ rest).length)) (cp:=c) (q:=((X.length:Nat):Int)) (d:=36) (j:=X.length) kz (e:=5) (bytes:=1) kz (rfl) (by first | omega | (simp only [List.length_append,be_length,List.length_cons,List.length_nil] at *; omega)) fun ap ag=>?_)
 refine qai [7,8] [9] [(5,.v (.slice A X.length X.length)),(36,.v (.slice (cutA A c X.length) (((X ++ rest).length) - X.length) (c - X.length))),(38,.p 0 0)] hW ag fun ar ah=>?_
 refine qaj (qam hW ah (oi:=0) (cs:=[.slice (cutA A c X.length) (((X ++ rest).length) - X.length) (c - X.length),.bool false]) kz fun au ak aa ai=>?_)
 refine qae (qaa ?_)
 refine qap [(4,.v (.slice A X.length X.length))] aa ai fun av aj=>?_
 refine wp_ret ?_
 refine qaN aj aa.cells (v:=.slice A X.length X.length) kz ?_
 exact ⟨_,_,_,_,rfl,Str.of aa 0 rfl,RdS.drop (s:=X) ⟨rfl,ho.move aa.step (fun b_ o_ h_ _=>hFd b_ o_ h_) qa1⟩ (rfl),aa.step,A,rfl,RdS.front (s:=X) ⟨rfl,ho.move aa.step (fun b_ o_ h_ _=>hFd b_ o_ h_) qa1⟩ rfl⟩
theorem qiA {br:Nat} {A:Option Addr} {m c:Nat} {w:World} (hst:Str w br [.slice A m c,.bool false]) :
  Calls Tryz.prog 149 #[.pointer (some ⟨br,0,none⟩)] w (fun e w'=>e = .returned .nilIface ∧ w' = w):=by
 refine enter (n:=8) Tryz.func149 rfl Tryz.ntmps149 kz fun a hE=>?_
 have hW:WOk w (RdM br) w [⟨br,0,[.slice A m c,.bool false],true⟩] []:=WOk.startStr hst
 have hE1:=(hE.grow ⟨br,0,[.slice A m c,.bool false],true⟩).recast 0 (.v (.pointer (some ⟨br,0,none⟩))) (.p 0 0) rfl rfl (Nat.le_of_ble_eq_true (n:=1) rfl)
 refine qap [(0,.p 0 0)] hW hE1 fun a1 hE2=>?_
 refine wp_seq ?_
 refine qap [(6,.v (.bool false))] hW hE2 fun a3 hE4=>?_
 refine qar hE4 (b:=false) kz rfl ?_
 refine wp_skip ?_
 refine qaa ?_
 refine qap [(2,.v (.nilIface))] hW hE4 fun a5 hE6=>?_
 refine wp_ret ?_
 refine qaN hE6 hW.cells (v:=.nilIface) kz ?_
 exact ⟨rfl,rfl⟩
structure TR (w w':World) (br p2 p3:Nat) (F:Nat → Nat → Prop) (A:Option Addr) (n c:Nat) (s:Bs) (m:Option Nat) (u:List (Int × Bs)):Prop where
 step:Step w w' (RdM br)
 old:br < w.heap.size
 new2:w.heap.size ≤ p2
 new3:w.heap.size ≤ p3
 ne:p2 ≠ p3
 rd:Str w' br [.slice A n c,.bool false]
 s2:Str w' p2 [.map none]
 s3:Str w' p3 [.map m]
 oct:RdS w' (fun b o=>F b o ∧ b < w.heap.size) A n c s
 own:OwnM w' (fun b o=>F b o ∧ b < w.heap.size) m u
 new:∀ r,m = some r → w.heap.size ≤ r
theorem TR.mne {w w':World} {br p2 p3:Nat} {F:Nat → Nat → Prop} {A:Option Addr} {n c:Nat} {s:Bs} {m:Option Nat} {u:List (Int × Bs)} (h:TR w w' br p2 p3 F A n c s m u):m ≠ some p2 ∧ m ≠ some p3:=by
 refine ⟨fun e=>?_,fun e=>?_⟩
 ·obtain ⟨es,clk,h1,_⟩:=h.own.some_ p2 e
  exact qd3 (h.s2.at_ 0 _ rfl) h1 rfl
 obtain ⟨es,clk,h1,_⟩:=h.own.some_ p3 e
 exact qd3 (h.s3.at_ 0 _ rfl) h1 rfl
theorem TR.read {w w' w1:World} {br p2 p3:Nat} {F:Nat → Nat → Prop} {A A':Option Addr} {n c n' c':Nat} {s s':Bs} {m:Option Nat} {u:List (Int × Bs)} (h:TR w w' br p2 p3 F A n c s m u) (hFd:∀ b o,F b o → ¬ RdM br b o) (hs:Str w1 br [.slice A' n' c',.bool false]) (hr:RdS w1 (fun b o=>F b o ∧ b < w.heap.size) A' n' c' s') (hst:Step w' w1 (RdM br)):TR w w1 br p2 p3 F A' n' c' s' m u:=by
 have ho:=h.old
 have h2:=h.new2
 have h3:=h.new3
 refine ⟨h.step.trans hst fun _ _ _ e=>e,ho,h2,h3,h.ne,hs,h.s2.move hst fun o e=>?_,h.s3.move hst fun o e=>?_,hr,h.own.move hst (fun b o hg _=>hFd b o hg.1) qa1 (fun r o e he=>?_),h.new⟩
 ·have:=e.1; omega
 ·have:=e.1; omega
 have:=h.new r e; have:=he.1; omega
theorem TR.set {w w':World} {br p2 p3:Nat} {F:Nat → Nat → Prop} {A A1:Option Addr} {n c c1 j:Nat} {s x:Bs} {k:Int} {m:Option Nat} {u:List (Int × Bs)} (h:TR w w' br p2 p3 F A n c s m (u.take j)) (hsort:qcN u) (hj:u[j]? = some (k,x)) (hx:Octs w' (fun b o=>F b o ∧ b < w.heap.size) A1 c1 x) (hk:0 ≤ k ∧ k < 4294967296) :
  Calls Tryz.prog 193 [.pointer (some ⟨p3,0,none⟩),.int .u32 k,.slice A1 x.length c1].toArray w' (fun e w1=>e = .returned (.tuple #[]) ∧ ∃ r,TR w w1 br p2 p3 F A n c s (some r) (u.take (j + 1))):=by
 have hcell:w'.cell? ⟨p3,0,none⟩ = some (.map m):=h.s3.at_ 0 _ rfl
 have hfz:w'.frozen? ⟨p3,0,none⟩ = false:=h.s3.frz 0 (by simp)
 have hnew:=h.new
 have h2:=h.new2
 have h3:=h.new3
 have ho:=h.old
 have hsz:=h.step.size
 obtain ⟨m2,m3⟩:=h.mne
 refine (qiY hcell hfz h.own hx hk (fun b' o' hg=>⟨fun e=>?_,fun e=>?_⟩) (fun b' o' hg=>Nat.lt_of_lt_of_le hg.2 hsz)).mono ?_
 ·have:=hg.2; omega
 ·have:=hnew b' e; have:=hg.2; omega
 rintro e w1 ⟨rfl,r,g1,g2,g3,g4,g5⟩
 rw [qhU hsort hj] at g3
 refine ⟨rfl,r,h.step.trans g5 fun b o hl e=>?_,ho,h2,h3,h.ne,h.rd.move g5 fun o e=>?_,h.s2.move g5 fun o e=>?_,⟨fun i v hi=>?_,fun i hi=>?_⟩,⟨h.oct.len,Octs.move h.oct.oct g5 (fun b o hg _ e=>?_) qa1⟩,g3,fun r' hr'=>?_⟩
 ·rcases e with ⟨e1,_⟩ | e1
  ·omega
  have:=hnew b e1; omega
 ·rcases e with ⟨e1,_⟩ | e1
  ·omega
  have:=hnew br e1; omega
 ·rcases e with ⟨e1,_⟩ | e1
  ·exact h.ne e1
  exact m2 e1
 ·cases i with
  | zero =>
   simp only [List.getElem?_cons_zero,Option.some.injEq] at hi
   subst hi
   exact g1
  | succ i=>simp at hi
 ·have:i = 0:=by simp at hi; omega
  subst this
  exact g2
 ·have:=hg.2
  rcases e with ⟨e1,_⟩ | e1
  ·omega
  have:=hnew b e1; omega
 obtain rfl:=Option.some.inj hr'
 rcases g4 with g4 | g4
 ·exact hnew _ g4
 exact Nat.le_trans hsz g4
theorem qhn (x:Int × Bs) (u:List (Int × Bs)):qcD (x :: u) = tagR x.1 x.2 ++ qcD u:=by unfold qcD; rw [List.flatMap_cons]
theorem qho {u:List (Int × Bs)} {j:Nat} {k:Int} {x:Bs} (h:u[j]? = some (k,x)) (rest:Bs):qcD (u.drop j) ++ rest = uv k.toNat ++ (uv x.length ++ (x ++ (qcD (u.drop (j + 1)) ++ rest))):=by
 obtain ⟨hlt,he⟩:=List.getElem?_eq_some_iff.1 h
 rw [List.drop_eq_getElem_cons hlt,he,qhn]
 simp only [tagR,List.append_assoc]
theorem qkY (u:List (Int × Bs)) (rest:Bs) (hsort:qcN u) (hk:∀ x ∈ u,0 ≤ x.1 ∧ x.1 < 4294967296) (hul:u.length ≤ 1000000) (hxl:∀ x ∈ u,x.2.length < 4294967296) {br:Nat} {A:Option Addr} {m c:Nat} {w:World} {F:Nat → Nat → Prop} (hst:Str w br [.slice A m c,.bool false]) (hr:RdS w F A m c (uv u.length ++ (qcD u ++ rest))) (hFd:∀ b o,F b o → ¬ RdM br b o) :
  Calls Tryz.prog 156 #[.pointer (some ⟨br,0,none⟩)] w (RdPost w br (Fp F w) rest fun v w'=>∃ mm,v = .agg #[.map mm] ∧ MapR w' (Fp F w) mm u):=by
 have hbr:br < w.heap.size:=World.lt_of_cell (hst.at_ 0 _ rfl)
 refine enter (n:=24) (vs:=[.pointer (some ⟨br,0,none⟩)]) Tryz.func156 rfl Tryz.ntmps156 kz fun a hE=>?_
 have hW:=WOk.start w Nil
 refine qac [0] kz ?_
 refine qaj (qaJ hW hE (d:=2) (cs:=[.map none]) kz fun p2 a1 w1 hp2 hz2 hF1 hW1 hE1=>qae (qaa ?_))
 refine qac [0] kz ?_
 refine qaj (qaJ hW1 hE1 (d:=3) (cs:=[.map none]) kz fun p3 a2 w2 hp3 hz3 hF2 hW2 hE2=>qae (qaa ?_))
 have hne:p2 ≠ p3:=by
  have h1:=hW1.live 0 _ rfl
  simp only at h1
  omega
 have hS:Step w w2 Nil:=hW2.step
 have hT0:TR w w2 br p2 p3 F A m c (uv u.length ++ (qcD u ++ rest)) none (u.take 0):=by
  refine ⟨hS.mono fun _ _ _ h=>h.elim,hbr,hz2,hz3,hne,hst.move hS (fun _ h=>h),Str.of hW2 0 rfl,Str.of hW2 1 rfl,hr.move hS nilM (fun b o h hb=>⟨h,hb⟩),?_,fun _ h=>by cases h⟩
  rw [List.take_zero]
  exact OwnM.nil _ _
 refine wp_seq ?_
 have hE3:=(((hE2.recast 2 (.p 0 0) (.v (.pointer (some ⟨p2,0,none⟩))) rfl rfl trivial).recast 3 (.p 1 0) (.v (.pointer (some ⟨p3,0,none⟩))) rfl rfl trivial).pick (ks:=[0,2,3]) (env':=[(0,.v (.pointer (some ⟨br,0,none⟩))),(2,.v (.pointer (some ⟨p2,0,none⟩))),(3,.v (.pointer (some ⟨p3,0,none⟩)))]) kz).cutTb 0 kz
 have hWz:=WOk.start w2 Nil
 refine qac [0,1,2] kz ?_
 refine qai [0] [1,2] [(0,.v (.pointer (some ⟨br,0,none⟩))),(2,.v (.pointer (some ⟨p2,0,none⟩))),(3,.v (.pointer (some ⟨p3,0,none⟩))),(7,.v (.pointer (some ⟨br,0,none⟩)))] hWz hE3 fun a3 hE4=>?_
 have hFd':∀ b o,(F b o ∧ b < w.heap.size) → ¬ RdM br b o:=fun b o h=>hFd b o h.1
 refine qaj (qak hE4 (f:=190) (vs:=[.pointer (some ⟨br,0,none⟩)]) (d:=8) kz Tryz.call190 (qcV u.length (by omega) (qcD u ++ rest) hT0.rd hT0.oct hFd') ?_)
 rintro e_ w3 ⟨_,A3,n3,c3,rfl,hs3,hr3,hst3,rfl⟩
 have hT1:=hT0.read hFd hs3 hr3 hst3
 refine ⟨_,rfl,fun a4 hE5=>?_⟩
 refine qai [2] [] [(0,.v (.pointer (some ⟨br,0,none⟩))),(2,.v (.pointer (some ⟨p2,0,none⟩))),(3,.v (.pointer (some ⟨p3,0,none⟩))),(4,.v (.int .u32 ((u.length:Nat):Int)))] (WOk.start w3 Nil) hE5 fun a5 hE6=>qae (qaa ?_)
 refine wp_block ?_
 refine wp_loop_ghost (fun q a_ w_=>∃ (j:Nat) (m_:Option Nat) (A_:Option Addr) (n_ c_:Nat),q = u.length - j ∧ j ≤ u.length ∧ EnvOk 24 [] [(0,.v (.pointer (some ⟨br,0,none⟩))),(2,.v (.pointer (some ⟨p2,0,none⟩))),(3,.v (.pointer (some ⟨p3,0,none⟩))),(4,.v (.int .u32 ((u.length - j:Nat):Int)))] a_ ∧ TR w w_ br p2 p3 F A_ n_ c_ (qcD (u.drop j) ++ rest) m_ (u.take j)) u.length
  ⟨0,none,A3,n3,c3,by omega,by omega,hE6,hT1⟩ ?_
 rintro q aq wq ⟨j,m_,A_,n_,c_,rfl,hj,hEq,hT⟩
 have hWq:=WOk.start wq Nil
 refine wp_seq (qap [(0,.v (.pointer (some ⟨br,0,none⟩))),(2,.v (.pointer (some ⟨p2,0,none⟩))),(3,.v (.pointer (some ⟨p3,0,none⟩))),(4,.v (.int .u32 ((u.length - j:Nat):Int))),(10,.v (.bool (decide (((u.length - j:Nat):Int) > 0))))] hWq hEq fun aq1 hE7=>?_)
 refine qaz hE7 (b:=decide (((u.length - j:Nat):Int) > 0)) kz (fun hc=>?_) (fun hc=>?_)
 ·have hlt:j < u.length:=by have:=of_decide_eq_true hc; omega
  obtain ⟨⟨k,x⟩,hu⟩:∃ y,u[j]? = some y:=⟨_,List.getElem?_eq_getElem hlt⟩
  have hk':=hk (k,x) (List.mem_of_getElem? hu)
  have hx':=hxl (k,x) (List.mem_of_getElem? hu)
  dsimp only at hk' hx'
  have hoct:=hT.oct
  rw [qho hu rest] at hoct
  refine wp_skip (qaa (wp_seq (wp_block ?_)))
  refine qac [0,1,2,3,4,5] kz ?_
  refine qai [0] [1,2,3,4,5] [(0,.v (.pointer (some ⟨br,0,none⟩))),(2,.v (.pointer (some ⟨p2,0,none⟩))),(3,.v (.pointer (some ⟨p3,0,none⟩))),(4,.v (.int .u32 ((u.length - j:Nat):Int))),(13,.v (.pointer (some ⟨br,0,none⟩)))] hWq hE7 fun aq2 hE8=>?_
  refine qaj (qak hE8 (f:=190) (vs:=[.pointer (some ⟨br,0,none⟩)]) (d:=14) kz Tryz.call190 (qcV k.toNat (by omega) _ hT.rd hoct hFd') ?_)
  rintro e_ wa ⟨_,Aa,na,ca,rfl,hsa,hra,hsta,rfl⟩
  have hTa:=hT.read hFd hsa hra hsta
  refine ⟨_,rfl,fun aq3 hE9=>?_⟩
  refine qai [2] [3,4,5] [(0,.v (.pointer (some ⟨br,0,none⟩))),(2,.v (.pointer (some ⟨p2,0,none⟩))),(3,.v (.pointer (some ⟨p3,0,none⟩))),(4,.v (.int .u32 ((u.length - j:Nat):Int))),(14,.v (.int .u32 ((k.toNat:Nat):Int))),(15,.v (.pointer (some ⟨br,0,none⟩)))] (WOk.start wa Nil) hE9 fun aq4 hE10=>?_
  refine qaj (qak hE10 (f:=190) (vs:=[.pointer (some ⟨br,0,none⟩)]) (d:=16) kz Tryz.call190 (qcV x.length hx' _ hTa.rd hTa.oct hFd') ?_)
  rintro e_ wb ⟨_,Ab,nb,cb,rfl,hsb,hrb,hstb,rfl⟩
  have hTb:=hTa.read hFd hsb hrb hstb
  refine ⟨_,rfl,fun aq5 hE11=>?_⟩
  refine qai [4,5] [] [(0,.v (.pointer (some ⟨br,0,none⟩))),(2,.v (.pointer (some ⟨p2,0,none⟩))),(3,.v (.pointer (some ⟨p3,0,none⟩))),(4,.v (.int .u32 ((u.length - j:Nat):Int))),(5,.v (.int .u32 ((k.toNat:Nat):Int))),(6,.v (.int .u32 ((x.length:Nat):Int)))] (WOk.start wb Nil) hE11 fun aq6 hE12=>qae (qaa ?_)
  refine qaq [0,1,2,3,4,5] kz ?_
  refine qai [0,1,2,3] [4,5] [(0,.v (.pointer (some ⟨br,0,none⟩))),(2,.v (.pointer (some ⟨p2,0,none⟩))),(3,.v (.pointer (some ⟨p3,0,none⟩))),(4,.v (.int .u32 ((u.length - j:Nat):Int))),(17,.v (.int .u32 ((k.toNat:Nat):Int))),(18,.v (.pointer (some ⟨br,0,none⟩))),(20,.v (.int .i64 (IntKind.i64.wrap ((x.length:Nat):Int))))] (WOk.start wb Nil) hE12 fun aq7 hE13=>?_
  rw [show IntKind.i64.wrap ((x.length:Nat):Int) = ((x.length:Nat):Int) by rw [i64w]; omega,show ((k.toNat:Nat):Int) = k by omega] at hE13
  refine qaj (qak hE13 (f:=192) (vs:=[.pointer (some ⟨br,0,none⟩),.int .i64 ((x.length:Nat):Int)]) (d:=21) kz Tryz.call192 (qiz x _ hTb.rd hTb.oct hFd') ?_)
  rintro e_ wc ⟨_,Ac,nc,cc,rfl,hsc,hrc,hstc,Ax,rfl,hox⟩
  have hTc:=hTb.read hFd hsc hrc hstc
  refine ⟨_,rfl,fun aq8 hE14=>?_⟩
  refine qaj (qak hE14 (f:=193) (vs:=[.pointer (some ⟨p3,0,none⟩),.int .u32 k,.slice Ax x.length x.length]) (d:=22) kz Tryz.call193 (hTc.set hsort hu hox hk') ?_)
  rintro e_ wd ⟨rfl,r,hTd⟩
  refine ⟨_,rfl,fun aq9 hE15=>qae (qav (qaa ?_))⟩
  refine qaq [0,1,2] kz (qai [0,1,2] [] [(0,.v (.pointer (some ⟨br,0,none⟩))),(2,.v (.pointer (some ⟨p2,0,none⟩))),(3,.v (.pointer (some ⟨p3,0,none⟩))),(4,.v (.int .u32 (IntKind.u32.wrap (((u.length - j:Nat):Int) - 1))))] (WOk.start wd Nil) hE15 fun aqa hE16=>qae (qaa ?_))
  rw [show IntKind.u32.wrap (((u.length - j:Nat):Int) - 1) = ((u.length - (j + 1):Nat):Int) by rw [qan]; omega] at hE16
  exact ⟨u.length - (j + 1),by omega,j + 1,some r,Ac,nc,cc,rfl,by omega,hE16,hTd⟩
 obtain rfl:j = u.length:=by have:=of_decide_eq_false hc; omega
 refine wp_exit (qau (qau (qaM (qaa ?_))))
 rw [List.take_length,List.drop_length] at hT
 have hT':TR w wq br p2 p3 F A_ n_ c_ rest m_ u:=hT
 have h2:=hT'.new2
 have h3:=hT'.new3
 have hW9:WOk w (RdM br) wq ([] ++ [⟨p3,0,[.map m_],true⟩] ++ [⟨p2,0,[.map none],true⟩]) []:=by
  have hb:WOk w (RdM br) wq [] []:=⟨hT'.step,fun i o hi=>by simp at hi,fun i o hi=>by simp at hi,fun i o hi=>by simp at hi,fun i j o o' _ hi=>by simp at hi,fun i r hi=>by simp at hi,fun i r hi=>by simp at hi,fun i r hi=>by simp at hi,fun i j r r' _ hi=>by simp at hi⟩
  have h4:=hb.add ⟨p3,0,[.map m_],true⟩ (World.lt_of_cell (hT'.s3.at_ 0 _ rfl)) (fun j v hj=>by rw [Nat.zero_add]; exact hT'.s3.at_ j v hj) (fun _ j hj=>⟨.inl h3,by rw [Nat.zero_add]; exact hT'.s3.frz j hj⟩) (fun i o hi=>by simp at hi) (fun i r hi=>by simp at hi)
  refine h4.add ⟨p2,0,[.map none],true⟩ (World.lt_of_cell (hT'.s2.at_ 0 _ rfl)) (fun j v hj=>by rw [Nat.zero_add]; exact hT'.s2.at_ j v hj) (fun _ j hj=>⟨.inl h2,by rw [Nat.zero_add]; exact hT'.s2.frz j hj⟩) (fun i o hi _=>.inl ?_) (fun i r hi=>by simp at hi)
  have:o = ⟨p3,0,[.map m_],true⟩:=by
   have hm:=List.mem_of_getElem? hi
   simpa using hm
  rw [this]
  exact fun e=>hT'.ne e.symm
 have hE17:=(((hE7.retable [⟨p3,0,[.map m_],true⟩,⟨p2,0,[.map none],true⟩]).recast 3 (.v (.pointer (some ⟨p3,0,none⟩))) (.p 0 0) rfl rfl (Nat.le_of_ble_eq_true (n:=1) rfl)).recast 2 (.v (.pointer (some ⟨p2,0,none⟩))) (.p 1 0) rfl rfl (Nat.le_of_ble_eq_true (n:=2) rfl))
 have hE18:EnvOk 24 [⟨p3,0,[.map m_],true⟩,⟨p2,0,[.map none],true⟩] [(2,.p 1 0),(3,.p 0 0)] _:=hE17.pk
 refine qac [0,1] kz ?_
 refine qai [0] [1] [(2,.p 1 0),(23,.v (.agg #[.map m_]))] hW9 hE18 fun aqb hE19=>?_
 refine qaj (qam hW9 hE19 (oi:=1) (cs:=[.map m_]) kz fun wz hFz hWz hEz=>qae (qaa (wp_ret ?_)))
 have hsz:=hT'.step.size
 have hstz:Step wq wz (fun b o=>b = p2 ∨ b = p3):=hFz.step.mono fun b o _ ha=>by
  rcases ha with ⟨i,ob,hi,_,rfl,_⟩ | ⟨i,r,hi,_⟩
  ·have hm:=List.mem_of_getElem? hi
   simp only [List.nil_append,List.cons_append,List.mem_cons,List.not_mem_nil,or_false] at hm
   rcases hm with rfl | rfl
   ·exact .inr rfl
   exact .inl rfl
  simp at hi
 obtain ⟨m2,m3⟩:=hT'.mne
 refine qaN hEz hWz.cells (v:=.agg #[.map m_]) kz ⟨_,A_,n_,c_,rfl,hT'.rd.move hstz (fun o e=>?_),hT'.oct.move hstz (fun b o hg _ e=>?_) (fun b o hg _=>.inl hg.1),hWz.step,m_,rfl,?_⟩
 ·have:=hT'.old; rcases e with e | e <;> omega
 ·have:=hg.2; rcases e with e | e <;> omega
 refine (hT'.own.move hstz (fun b o hg _ e=>?_) qa1 (fun r o e he=>?_)).map (fun b o h=>.inl h.1) (fun r o e=>.inr (hT'.new r e)) hsort hk
 ·have:=hg.2; rcases e with e | e <;> omega
 rcases he with he | he
 ·exact m2 (by rw [e,he])
 exact m3 (by rw [e,he])
theorem qj7 (X:Bs) (hX:X.length ≤ 32767) (rest:Bs)  {br:Nat} {A:Option Addr} {m c:Nat} {w:World} {F:Nat → Nat → Prop} (hst:Str w br [.slice A m c,.bool false]) (hr:RdS w F A m c ((be 2 ((X.length:Nat):Int)) ++ (X ++ rest))) (hFd:∀ b o,F b o → ¬ RdM br b o) :
  Calls Tryz.prog 154 #[.pointer (some ⟨br,0,none⟩)] w (RdPost w br (Fp F w) rest fun v w'=>v = .string (bs X)):=by
 refine enter (n:=11) Tryz.func154 rfl Tryz.ntmps154 kz fun a hE=>?_
 have hW:WOk w (RdM br) w [⟨br,0,[.slice A m c,.bool false],true⟩] []:=WOk.startStr hst
 have hE1:=(hE.grow ⟨br,0,[.slice A m c,.bool false],true⟩).recast 0 (.v (.pointer (some ⟨br,0,none⟩))) (.p 0 0) rfl rfl (Nat.le_of_ble_eq_true (n:=1) rfl)
 refine qap [(0,.p 0 0)] hW hE1 fun a1 hE2=>?_
 refine qac [0,1,2] kz ?_
 refine qai [0] [1,2] [(0,.p 0 0),(4,.p 0 0)] hW hE2 fun a3 hE4=>?_
 refine qaj (qak hE4 (f:=141) (vs:=[.pointer (some ⟨br,0,none⟩)]) (d:=5) kz Tryz.call141 (qgS ((X.length:Nat):Int) (X ++ rest) (Str.of hW 0 rfl) (hr.move hW.step (fun b_ o_ h_ _=>hFd b_ o_ h_) (hW.immM hFd)) (qcz 0 rfl)) ?_)
 rintro e_ w5 ⟨_,A6,n7,c8,rfl,hs9,ag,ac,rfl⟩
 obtain ⟨aa,ah,aG⟩:=hW.wrote 0 [⟨br,0,[.slice A6 n7 c8,.bool false],true⟩] rfl ac hs9
 have ai:=ag.move (Step.refl _ Nil) nilM (fun b_ o_ h_ _=>ah.to b_ o_ h_)
 refine ⟨_,rfl,fun aJ aj=>?_⟩
 have ak:EnvOk 11 [⟨br,0,[.slice A6 n7 c8,.bool false],true⟩] [(5,.v (.int .i16 (IntKind.i16.wrap ((X.length:Nat):Int)))),(0,.p 0 0),(4,.p 0 0)] _:=aj.places (⟨rfl,rfl,trivial⟩)
 refine qai [2] [] [(0,.p 0 0),(3,.v (.int .i16 (IntKind.i16.wrap ((X.length:Nat):Int))))] aa ak fun aK al=>?_
 refine qae (qaa ?_)
 refine qac [0,1,2,3,4,5] kz ?_
 refine qai [0,1,2] [3,4,5] [(6,.p 0 0),(8,.v (.int .i64 (IntKind.i64.wrap (IntKind.i16.wrap ((X.length:Nat):Int)))))] aa al fun aL am=>?_
 have ao:IntKind.i64.wrap (IntKind.i16.wrap ((X.length:Nat):Int)) = ((X.length:Nat):Int):=by simp only [i16w,i32w,i64w]; omega
 have ap:=EnvOk.pick am (ks:=[6,8]) (env':=[(6,.p 0 0),(8,.v (.int .i64 (IntKind.i64.wrap (IntKind.i16.wrap ((X.length:Nat):Int)))))]) kz
 have ar:=ap.cast (env':=[(6,.p 0 0),(8,.v (.int .i64 ((X.length:Nat):Int)))]) (by rw [ao])
 refine qaj (qak ar (f:=192) (vs:=[.pointer (some ⟨br,0,none⟩),.int .i64 ((X.length:Nat):Int)]) (d:=9) kz Tryz.call192 (qiz X (rest) (Str.of aa 0 rfl) ai (qcz 0 rfl)) ?_)
 rintro e_ aM ⟨_,aD,aE,aF,rfl,au,av,ae,⟨aH,rfl,aw⟩⟩
 obtain ⟨ab,af,aI⟩:=aa.wrote 0 [⟨br,0,[.slice aD aE aF,.bool false],true⟩] rfl ae au
 have ax:=av.move (Step.refl _ Nil) nilM (fun b_ o_ h_ _=>af.to b_ o_ h_)
 refine ⟨_,rfl,fun aN ay=>?_⟩
 have az:EnvOk 11 [⟨br,0,[.slice aD aE aF,.bool false],true⟩] [(9,.v (.slice aH X.length X.length)),(6,.p 0 0),(8,.v (.int .i64 ((X.length:Nat):Int)))] _:=ay.places (⟨rfl,rfl,trivial⟩)
 have aA:=aw.move (Step.refl _ Nil) nilM (fun b_ o_ h_ _=>af.to b_ o_ h_)
 refine qaj (qdY az (src:=22) (dst:=9) (e:=5) (d:=10) kz kz kz kz aA fun aO aB=>?_)
 refine qai [5] [] [(2,.v (.string (bs X)))] ab aB fun aP aC=>?_
 refine qae (qaa ?_)
 refine wp_ret ?_
 refine qaN aC ab.cells (v:=.string (bs X)) kz ?_
 refine ⟨_,_,_,_,rfl,Str.of ab 0 rfl,(ax.move (Step.refl _ Nil) nilM qbk),ab.step,rfl⟩
theorem qeR (X:Bs) (hX:X.length ≤ 1000000) (rest:Bs)  {br:Nat} {A:Option Addr} {m c:Nat} {w:World} {F:Nat → Nat → Prop} (hst:Str w br [.slice A m c,.bool false]) (hr:RdS w F A m c ((uv (X.length + 1)) ++ (X ++ rest))) (hFd:∀ b o,F b o → ¬ RdM br b o) :
  Calls Tryz.prog 153 #[.pointer (some ⟨br,0,none⟩)] w (RdPost w br (Fp F w) rest fun v w'=>v = .string (bs X)):=by
 refine enter (n:=12) Tryz.func153 rfl Tryz.ntmps153 kz fun a hE=>?_
 have hW:WOk w (RdM br) w [⟨br,0,[.slice A m c,.bool false],true⟩] []:=WOk.startStr hst
 have hE1:=(hE.grow ⟨br,0,[.slice A m c,.bool false],true⟩).recast 0 (.v (.pointer (some ⟨br,0,none⟩))) (.p 0 0) rfl rfl (Nat.le_of_ble_eq_true (n:=1) rfl)
 refine qap [(0,.p 0 0)] hW hE1 fun a1 hE2=>?_
 refine qac [0,1,2,3,4] kz ?_
 refine qai [0] [1,2,3,4] [(0,.p 0 0),(4,.p 0 0)] hW hE2 fun a3 hE4=>?_
 refine qaj (qak hE4 (f:=190) (vs:=[.pointer (some ⟨br,0,none⟩)]) (d:=5) kz Tryz.call190 (qcV (X.length + 1) (by omega) (X ++ rest) (Str.of hW 0 rfl) (hr.move hW.step (fun b_ o_ h_ _=>hFd b_ o_ h_) (hW.immM hFd)) (qcz 0 rfl)) ?_)
 rintro e_ w5 ⟨_,A6,n7,c8,rfl,hs9,ag,ac,rfl⟩
 obtain ⟨aa,ah,aG⟩:=hW.wrote 0 [⟨br,0,[.slice A6 n7 c8,.bool false],true⟩] rfl ac hs9
 have ai:=ag.move (Step.refl _ Nil) nilM (fun b_ o_ h_ _=>ah.to b_ o_ h_)
 refine ⟨_,rfl,fun aJ aj=>?_⟩
 have ak:EnvOk 12 [⟨br,0,[.slice A6 n7 c8,.bool false],true⟩] [(5,.v (.int .u32 ((X.length + 1:Nat):Int))),(0,.p 0 0),(4,.p 0 0)] _:=aj.places (⟨rfl,rfl,trivial⟩)
 refine qai [2,3,4] [] [(0,.p 0 0),(3,.v (.int .i64 (IntKind.i64.wrap ((IntKind.i64.wrap ((X.length + 1:Nat):Int)) - 1))))] aa ak fun aK al=>?_
 refine qae (qaa ?_)
 refine qac [0,1,2,3,4] kz ?_
 refine qai [0,1] [2,3,4] [(8,.p 0 0),(9,.v (.int .i64 (IntKind.i64.wrap ((IntKind.i64.wrap ((X.length + 1:Nat):Int)) - 1))))] aa al fun aL am=>?_
 have ao:IntKind.i64.wrap ((IntKind.i64.wrap ((X.length + 1:Nat):Int)) - 1) = ((X.length:Nat):Int):=by simp only [i16w,i32w,i64w]; omega
 have ap:=EnvOk.pick am (ks:=[8,9]) (env':=[(8,.p 0 0),(9,.v (.int .i64 (IntKind.i64.wrap ((IntKind.i64.wrap ((X.length + 1:Nat):Int)) - 1))))]) kz
 have ar:=ap.cast (env':=[(8,.p 0 0),(9,.v (.int .i64 ((X.length:Nat):Int)))]) (by rw [ao])
 refine qaj (qak ar (f:=192) (vs:=[.pointer (some ⟨br,0,none⟩),.int .i64 ((X.length:Nat):Int)]) (d:=10) kz Tryz.call192 (qiz X (rest) (Str.of aa 0 rfl) ai (qcz 0 rfl)) ?_)
 rintro e_ aM ⟨_,aD,aE,aF,rfl,au,av,ae,⟨aH,rfl,aw⟩⟩
 obtain ⟨ab,af,aI⟩:=aa.wrote 0 [⟨br,0,[.slice aD aE aF,.bool false],true⟩] rfl ae au
 have ax:=av.move (Step.refl _ Nil) nilM (fun b_ o_ h_ _=>af.to b_ o_ h_)
 refine ⟨_,rfl,fun aN ay=>?_⟩
 have az:EnvOk 12 [⟨br,0,[.slice aD aE aF,.bool false],true⟩] [(10,.v (.slice aH X.length X.length)),(8,.p 0 0),(9,.v (.int .i64 ((X.length:Nat):Int)))] _:=ay.places (⟨rfl,rfl,trivial⟩)
 have aA:=aw.move (Step.refl _ Nil) nilM (fun b_ o_ h_ _=>af.to b_ o_ h_)
 refine qaj (qdY az (src:=22) (dst:=9) (e:=5) (d:=11) kz kz kz kz aA fun aO aB=>?_)
 refine qai [4] [] [(2,.v (.string (bs X)))] ab aB fun aP aC=>?_
 refine qae (qaa ?_)
 refine wp_ret ?_
 refine qaN aC ab.cells (v:=.string (bs X)) kz ?_
 refine ⟨_,_,_,_,rfl,Str.of ab 0 rfl,(ax.move (Step.refl _ Nil) nilM qbk),ab.step,rfl⟩
theorem qej (X:Bs) (rest:Bs)  {br:Nat} {A:Option Addr} {m c:Nat} {w:World} {F:Nat → Nat → Prop} (hst:Str w br [.slice A m c,.bool false]) (hr:RdS w F A m c ((be 2 (-1)) ++ rest)) (hFd:∀ b o,F b o → ¬ RdM br b o) :
  Calls Tryz.prog 145 #[.pointer (some ⟨br,0,none⟩)] w (RdPost w br (Fp F w) rest fun v w'=>∃ A2,v = .pointer A2 ∧ (∀ ad,A2 = some ad → ∃ b o,ad = ⟨b,o,none⟩ ∧ AtF w' (Fp F w) b o [.string (bs X)]) ∧ A2.isNone = true):=by
 refine enter (n:=14) Tryz.func145 rfl Tryz.ntmps145 kz fun a hE=>?_
 have hW:WOk w (RdM br) w [⟨br,0,[.slice A m c,.bool false],true⟩] []:=WOk.startStr hst
 have hE1:=(hE.grow ⟨br,0,[.slice A m c,.bool false],true⟩).recast 0 (.v (.pointer (some ⟨br,0,none⟩))) (.p 0 0) rfl rfl (Nat.le_of_ble_eq_true (n:=1) rfl)
 refine qap [(0,.p 0 0)] hW hE1 fun a1 hE2=>?_
 refine qac [0,1,2] kz ?_
 refine qai [0] [1,2] [(0,.p 0 0),(5,.p 0 0)] hW hE2 fun a3 hE4=>?_
 refine qaj (qak hE4 (f:=141) (vs:=[.pointer (some ⟨br,0,none⟩)]) (d:=6) kz Tryz.call141 (qgS (-1) (rest) (Str.of hW 0 rfl) (hr.move hW.step (fun b_ o_ h_ _=>hFd b_ o_ h_) (hW.immM hFd)) (qcz 0 rfl)) ?_)
 rintro e_ w5 ⟨_,A6,n7,c8,rfl,hs9,ae,ab,rfl⟩
 obtain ⟨aa,af,al⟩:=hW.wrote 0 [⟨br,0,[.slice A6 n7 c8,.bool false],true⟩] rfl ab hs9
 have ag:=ae.move (Step.refl _ Nil) nilM (fun b_ o_ h_ _=>af.to b_ o_ h_)
 refine ⟨_,rfl,fun am ah=>?_⟩
 have ai:EnvOk 14 [⟨br,0,[.slice A6 n7 c8,.bool false],true⟩] [(6,.v (.int .i16 (IntKind.i16.wrap (-1)))),(0,.p 0 0),(5,.p 0 0)] _:=ah.places (⟨rfl,rfl,trivial⟩)
 refine qai [2] [] [(0,.p 0 0),(3,.v (.int .i16 (IntKind.i16.wrap (-1))))] aa ai fun ao aj=>?_
 refine qae (qaa ?_)
 refine wp_seq ?_
 refine qap [(0,.p 0 0),(3,.v (.int .i16 (IntKind.i16.wrap (-1)))),(8,.v (.bool (decide ((IntKind.i16.wrap (-1)) < 0))))] aa aj fun ap ac=>?_
 refine qbf ac (b:=decide ((IntKind.i16.wrap (-1)) < 0)) kz (decide_eq_true (by simp only [i16w,i32w,i64w]; omega)) ?_
 refine qap [(2,.v (.pointer none))] aa ac fun ar ak=>?_
 refine wp_ret ?_
 refine qax ?_
 refine qaN ak aa.cells (v:=.pointer none) kz ?_
 refine ⟨_,_,_,_,rfl,Str.of aa 0 rfl,(ag.move (Step.refl _ Nil) nilM qbk),aa.step,_,rfl,(fun ad h_=>by cases h_),rfl⟩
theorem qek (X:Bs) (hX:X.length ≤ 32767) (rest:Bs)  {br:Nat} {A:Option Addr} {m c:Nat} {w:World} {F:Nat → Nat → Prop} (hst:Str w br [.slice A m c,.bool false]) (hr:RdS w F A m c ((be 2 ((X.length:Nat):Int)) ++ (X ++ rest))) (hFd:∀ b o,F b o → ¬ RdM br b o) :
  Calls Tryz.prog 145 #[.pointer (some ⟨br,0,none⟩)] w (RdPost w br (Fp F w) rest fun v w'=>∃ A2,v = .pointer A2 ∧ (∀ ad,A2 = some ad → ∃ b o,ad = ⟨b,o,none⟩ ∧ AtF w' (Fp F w) b o [.string (bs X)]) ∧ A2.isNone = false):=by
 refine enter (n:=14) Tryz.func145 rfl Tryz.ntmps145 kz fun a hE=>?_
 have hW:WOk w (RdM br) w [⟨br,0,[.slice A m c,.bool false],true⟩] []:=WOk.startStr hst
 have hE1:=(hE.grow ⟨br,0,[.slice A m c,.bool false],true⟩).recast 0 (.v (.pointer (some ⟨br,0,none⟩))) (.p 0 0) rfl rfl (Nat.le_of_ble_eq_true (n:=1) rfl)
 refine qap [(0,.p 0 0)] hW hE1 fun a1 hE2=>?_
 refine qac [0,1,2] kz ?_
 refine qai [0] [1,2] [(0,.p 0 0),(5,.p 0 0)] hW hE2 fun a3 hE4=>?_
 refine qaj (qak hE4 (f:=141) (vs:=[.pointer (some ⟨br,0,none⟩)]) (d:=6) kz Tryz.call141 (qgS ((X.length:Nat):Int) (X ++ rest) (Str.of hW 0 rfl) (hr.move hW.step (fun b_ o_ h_ _=>hFd b_ o_ h_) (hW.immM hFd)) (qcz 0 rfl)) ?_)
 rintro e_ w5 ⟨_,A6,n7,c8,rfl,hs9,aj,ac,rfl⟩
 obtain ⟨aa,ak,aN⟩:=hW.wrote 0 [⟨br,0,[.slice A6 n7 c8,.bool false],true⟩] rfl ac hs9
 have al:=aj.move (Step.refl _ Nil) nilM (fun b_ o_ h_ _=>ak.to b_ o_ h_)
 refine ⟨_,rfl,fun aT am=>?_⟩
 have ao:EnvOk 14 [⟨br,0,[.slice A6 n7 c8,.bool false],true⟩] [(6,.v (.int .i16 (IntKind.i16.wrap ((X.length:Nat):Int)))),(0,.p 0 0),(5,.p 0 0)] _:=am.places (⟨rfl,rfl,trivial⟩)
 refine qai [2] [] [(0,.p 0 0),(3,.v (.int .i16 (IntKind.i16.wrap ((X.length:Nat):Int))))] aa ao fun aU ap=>?_
 refine qae (qaa ?_)
 refine wp_seq ?_
 refine qap [(0,.p 0 0),(3,.v (.int .i16 (IntKind.i16.wrap ((X.length:Nat):Int)))),(8,.v (.bool (decide ((IntKind.i16.wrap ((X.length:Nat):Int)) < 0))))] aa ap fun aV ae=>?_
 refine qar ae (b:=decide ((IntKind.i16.wrap ((X.length:Nat):Int)) < 0)) kz (decide_eq_false (by simp only [i16w,i32w,i64w]; omega)) ?_
 refine wp_skip ?_
 refine qaa ?_
 refine qac [0,1,2,3,4,5,6] kz ?_
 refine qai [0,1,2] [3,4,5,6] [(9,.p 0 0),(11,.v (.int .i64 (IntKind.i64.wrap (IntKind.i16.wrap ((X.length:Nat):Int)))))] aa ae fun aW ar=>?_
 have au:IntKind.i64.wrap (IntKind.i16.wrap ((X.length:Nat):Int)) = ((X.length:Nat):Int):=by simp only [i16w,i32w,i64w]; omega
 have av:=EnvOk.pick ar (ks:=[9,11]) (env':=[(9,.p 0 0),(11,.v (.int .i64 (IntKind.i64.wrap (IntKind.i16.wrap ((X.length:Nat):Int)))))]) kz
 have aw:=av.cast (env':=[(9,.p 0 0),(11,.v (.int .i64 ((X.length:Nat):Int)))]) (by rw [au])
 refine qaj (qak aw (f:=192) (vs:=[.pointer (some ⟨br,0,none⟩),.int .i64 ((X.length:Nat):Int)]) (d:=12) kz Tryz.call192 (qiz X (rest) (Str.of aa 0 rfl) al (qcz 0 rfl)) ?_)
 rintro e_ aX ⟨_,aK,aL,aM,rfl,ax,ay,af,⟨aO,rfl,az⟩⟩
 obtain ⟨aA,ag,aP⟩:=aa.wrote 0 [⟨br,0,[.slice aK aL aM,.bool false],true⟩] rfl af ax
 have aB:=ay.move (Step.refl _ Nil) nilM (fun b_ o_ h_ _=>ag.to b_ o_ h_)
 refine ⟨_,rfl,fun aY aC=>?_⟩
 have aD:EnvOk 14 [⟨br,0,[.slice aK aL aM,.bool false],true⟩] [(12,.v (.slice aO X.length X.length)),(9,.p 0 0),(11,.v (.int .i64 ((X.length:Nat):Int)))] _:=aC.places (⟨rfl,rfl,trivial⟩)
 have aE:=az.move (Step.refl _ Nil) nilM (fun b_ o_ h_ _=>ag.to b_ o_ h_)
 refine qaj (qdY aD (src:=22) (dst:=9) (e:=5) (d:=13) kz kz kz kz aE fun aZ aF=>?_)
 refine qaj (qaJ aA aF (d:=4) (cs:=[.string ByteArray.empty]) kz fun aQ ba bd aR aS ah aG aH=>?_)
 refine qaj (qam aG aH (oi:=1) (cs:=[.string (bs X)]) kz fun bf ai ab aI=>?_)
 refine qae (qaa ?_)
 refine qap [(2,.p 1 0)] ab aI fun bg aJ=>?_
 refine wp_ret ?_
 refine qaN aJ ab.cells (v:=.pointer (some ⟨aQ,0,none⟩)) kz ?_
 refine ⟨_,_,_,_,rfl,Str.of ab 0 rfl,((aB.move (ah.trans ai).step immM (ah.trans ai).to').move (Step.refl _ Nil) nilM qbk),ab.step,_,rfl,(fun ad h_=>by
  obtain rfl:=Option.some.inj h_
  exact ⟨_,0,rfl,fun j v_ hj=>⟨.inr ‹_›,ab.cells 1 _ rfl j v_ hj⟩⟩),rfl⟩
theorem qeN (nul:Bool) (X:Bs) (hX:X.length ≤ 32767) (rest:Bs) {br:Nat} {A:Option Addr} {m c:Nat} {w:World} {F:Nat → Nat → Prop} (hst:Str w br [.slice A m c,.bool false]) (hr:RdS w F A m c ((if nul = true then be 2 (-1) else be 2 ((X.length:Nat):Int) ++ X) ++ rest)) (hFd:∀ b o,F b o → ¬ RdM br b o) :
  Calls Tryz.prog 145 #[.pointer (some ⟨br,0,none⟩)] w (RdPost w br (Fp F w) rest fun v w'=>∃ A2,v = .pointer A2 ∧ (∀ ad,A2 = some ad → ∃ b o,ad = ⟨b,o,none⟩ ∧ AtF w' (Fp F w) b o [.string (bs X)]) ∧ A2.isNone = nul):=by
 cases nul
 ·exact qek X hX rest hst (hr.cast (by simp only [Bool.false_eq_true,if_false,List.append_assoc])) hFd
 exact qej X rest hst (hr.cast (by simp only [if_true])) hFd
theorem qcW (X:Bs) (rest:Bs)  {br:Nat} {A:Option Addr} {m c:Nat} {w:World} {F:Nat → Nat → Prop} (hst:Str w br [.slice A m c,.bool false]) (hr:RdS w F A m c ((uv 0) ++ rest)) (hFd:∀ b o,F b o → ¬ RdM br b o) :
  Calls Tryz.prog 143 #[.pointer (some ⟨br,0,none⟩)] w (RdPost w br (Fp F w) rest fun v w'=>∃ A2,v = .pointer A2 ∧ (∀ ad,A2 = some ad → ∃ b o,ad = ⟨b,o,none⟩ ∧ AtF w' (Fp F w) b o [.string (bs X)]) ∧ A2.isNone = true):=by
 refine enter (n:=15) Tryz.func143 rfl Tryz.ntmps143 kz fun a hE=>?_
 have hW:WOk w (RdM br) w [⟨br,0,[.slice A m c,.bool false],true⟩] []:=WOk.startStr hst
 have hE1:=(hE.grow ⟨br,0,[.slice A m c,.bool false],true⟩).recast 0 (.v (.pointer (some ⟨br,0,none⟩))) (.p 0 0) rfl rfl (Nat.le_of_ble_eq_true (n:=1) rfl)
 refine qap [(0,.p 0 0)] hW hE1 fun a1 hE2=>?_
 refine qac [0,1,2,3,4] kz ?_
 refine qai [0] [1,2,3,4] [(0,.p 0 0),(5,.p 0 0)] hW hE2 fun a3 hE4=>?_
 refine qaj (qak hE4 (f:=190) (vs:=[.pointer (some ⟨br,0,none⟩)]) (d:=6) kz Tryz.call190 (qcV 0 (by omega) (rest) (Str.of hW 0 rfl) (hr.move hW.step (fun b_ o_ h_ _=>hFd b_ o_ h_) (hW.immM hFd)) (qcz 0 rfl)) ?_)
 rintro e_ w5 ⟨_,A6,n7,c8,rfl,hs9,ae,ab,rfl⟩
 obtain ⟨aa,af,al⟩:=hW.wrote 0 [⟨br,0,[.slice A6 n7 c8,.bool false],true⟩] rfl ab hs9
 have ag:=ae.move (Step.refl _ Nil) nilM (fun b_ o_ h_ _=>af.to b_ o_ h_)
 refine ⟨_,rfl,fun am ah=>?_⟩
 have ai:EnvOk 15 [⟨br,0,[.slice A6 n7 c8,.bool false],true⟩] [(6,.v (.int .u32 ((0:Nat):Int))),(0,.p 0 0),(5,.p 0 0)] _:=ah.places (⟨rfl,rfl,trivial⟩)
 refine qai [2,3,4] [] [(0,.p 0 0),(3,.v (.int .i64 (IntKind.i64.wrap ((IntKind.i64.wrap ((0:Nat):Int)) - 1))))] aa ai fun ao aj=>?_
 refine qae (qaa ?_)
 refine wp_seq ?_
 refine qap [(0,.p 0 0),(3,.v (.int .i64 (IntKind.i64.wrap ((IntKind.i64.wrap ((0:Nat):Int)) - 1)))),(10,.v (.bool (decide ((IntKind.i64.wrap ((IntKind.i64.wrap ((0:Nat):Int)) - 1)) < 0))))] aa aj fun ap ac=>?_
 refine qbf ac (b:=decide ((IntKind.i64.wrap ((IntKind.i64.wrap ((0:Nat):Int)) - 1)) < 0)) kz (decide_eq_true (by simp only [i16w,i32w,i64w]; omega)) ?_
 refine qap [(2,.v (.pointer none))] aa ac fun ar ak=>?_
 refine wp_ret ?_
 refine qax ?_
 refine qaN ak aa.cells (v:=.pointer none) kz ?_
 refine ⟨_,_,_,_,rfl,Str.of aa 0 rfl,(ag.move (Step.refl _ Nil) nilM qbk),aa.step,_,rfl,(fun ad h_=>by cases h_),rfl⟩
theorem qcX (X:Bs) (hX:X.length ≤ 1000000) (rest:Bs)  {br:Nat} {A:Option Addr} {m c:Nat} {w:World} {F:Nat → Nat → Prop} (hst:Str w br [.slice A m c,.bool false]) (hr:RdS w F A m c ((uv (X.length + 1)) ++ (X ++ rest))) (hFd:∀ b o,F b o → ¬ RdM br b o) :
  Calls Tryz.prog 143 #[.pointer (some ⟨br,0,none⟩)] w (RdPost w br (Fp F w) rest fun v w'=>∃ A2,v = .pointer A2 ∧ (∀ ad,A2 = some ad → ∃ b o,ad = ⟨b,o,none⟩ ∧ AtF w' (Fp F w) b o [.string (bs X)]) ∧ A2.isNone = false):=by
 refine enter (n:=15) Tryz.func143 rfl Tryz.ntmps143 kz fun a hE=>?_
 have hW:WOk w (RdM br) w [⟨br,0,[.slice A m c,.bool false],true⟩] []:=WOk.startStr hst
 have hE1:=(hE.grow ⟨br,0,[.slice A m c,.bool false],true⟩).recast 0 (.v (.pointer (some ⟨br,0,none⟩))) (.p 0 0) rfl rfl (Nat.le_of_ble_eq_true (n:=1) rfl)
 refine qap [(0,.p 0 0)] hW hE1 fun a1 hE2=>?_
 refine qac [0,1,2,3,4] kz ?_
 refine qai [0] [1,2,3,4] [(0,.p 0 0),(5,.p 0 0)] hW hE2 fun a3 hE4=>?_
 refine qaj (qak hE4 (f:=190) (vs:=[.pointer (some ⟨br,0,none⟩)]) (d:=6) kz Tryz.call190 (qcV (X.length + 1) (by omega) (X ++ rest) (Str.of hW 0 rfl) (hr.move hW.step (fun b_ o_ h_ _=>hFd b_ o_ h_) (hW.immM hFd)) (qcz 0 rfl)) ?_)
 rintro e_ w5 ⟨_,A6,n7,c8,rfl,hs9,aj,ac,rfl⟩
 obtain ⟨aa,ak,aN⟩:=hW.wrote 0 [⟨br,0,[.slice A6 n7 c8,.bool false],true⟩] rfl ac hs9
 have al:=aj.move (Step.refl _ Nil) nilM (fun b_ o_ h_ _=>ak.to b_ o_ h_)
 refine ⟨_,rfl,fun aT am=>?_⟩
 have ao:EnvOk 15 [⟨br,0,[.slice A6 n7 c8,.bool false],true⟩] [(6,.v (.int .u32 ((X.length + 1:Nat):Int))),(0,.p 0 0),(5,.p 0 0)] _:=am.places (⟨rfl,rfl,trivial⟩)
 refine qai [2,3,4] [] [(0,.p 0 0),(3,.v (.int .i64 (IntKind.i64.wrap ((IntKind.i64.wrap ((X.length + 1:Nat):Int)) - 1))))] aa ao fun aU ap=>?_
 refine qae (qaa ?_)
 refine wp_seq ?_
 refine qap [(0,.p 0 0),(3,.v (.int .i64 (IntKind.i64.wrap ((IntKind.i64.wrap ((X.length + 1:Nat):Int)) - 1)))),(10,.v (.bool (decide ((IntKind.i64.wrap ((IntKind.i64.wrap ((X.length + 1:Nat):Int)) - 1)) < 0))))] aa ap fun aV ae=>?_
 refine qar ae (b:=decide ((IntKind.i64.wrap ((IntKind.i64.wrap ((X.length + 1:Nat):Int)) - 1)) < 0)) kz (decide_eq_false (by simp only [i16w,i32w,i64w]; omega)) ?_
 refine wp_skip ?_
 refine qaa ?_
 refine qac [0,1,2,3,4,5] kz ?_
 refine qai [0,1] [2,3,4,5] [(11,.p 0 0),(12,.v (.int .i64 (IntKind.i64.wrap ((IntKind.i64.wrap ((X.length + 1:Nat):Int)) - 1))))] aa ae fun aW ar=>?_
 have au:IntKind.i64.wrap ((IntKind.i64.wrap ((X.length + 1:Nat):Int)) - 1) = ((X.length:Nat):Int):=by simp only [i16w,i32w,i64w]; omega
 have av:=EnvOk.pick ar (ks:=[11,12]) (env':=[(11,.p 0 0),(12,.v (.int .i64 (IntKind.i64.wrap ((IntKind.i64.wrap ((X.length + 1:Nat):Int)) - 1))))]) kz
 have aw:=av.cast (env':=[(11,.p 0 0),(12,.v (.int .i64 ((X.length:Nat):Int)))]) (by rw [au])
 refine qaj (qak aw (f:=192) (vs:=[.pointer (some ⟨br,0,none⟩),.int .i64 ((X.length:Nat):Int)]) (d:=13) kz Tryz.call192 (qiz X (rest) (Str.of aa 0 rfl) al (qcz 0 rfl)) ?_)
 rintro e_ aX ⟨_,aK,aL,aM,rfl,ax,ay,af,⟨aO,rfl,az⟩⟩
 obtain ⟨aA,ag,aP⟩:=aa.wrote 0 [⟨br,0,[.slice aK aL aM,.bool false],true⟩] rfl af ax
 have aB:=ay.move (Step.refl _ Nil) nilM (fun b_ o_ h_ _=>ag.to b_ o_ h_)
 refine ⟨_,rfl,fun aY aC=>?_⟩
 have aD:EnvOk 15 [⟨br,0,[.slice aK aL aM,.bool false],true⟩] [(13,.v (.slice aO X.length X.length)),(11,.p 0 0),(12,.v (.int .i64 ((X.length:Nat):Int)))] _:=aC.places (⟨rfl,rfl,trivial⟩)
 have aE:=az.move (Step.refl _ Nil) nilM (fun b_ o_ h_ _=>ag.to b_ o_ h_)
 refine qaj (qdY aD (src:=22) (dst:=9) (e:=5) (d:=14) kz kz kz kz aE fun aZ aF=>?_)
 refine qaj (qaJ aA aF (d:=4) (cs:=[.string ByteArray.empty]) kz fun aQ ba bd aR aS ah aG aH=>?_)
 refine qaj (qam aG aH (oi:=1) (cs:=[.string (bs X)]) kz fun bf ai ab aI=>?_)
 refine qae (qaa ?_)
 refine qap [(2,.p 1 0)] ab aI fun bg aJ=>?_
 refine wp_ret ?_
 refine qaN aJ ab.cells (v:=.pointer (some ⟨aQ,0,none⟩)) kz ?_
 refine ⟨_,_,_,_,rfl,Str.of ab 0 rfl,((aB.move (ah.trans ai).step immM (ah.trans ai).to').move (Step.refl _ Nil) nilM qbk),ab.step,_,rfl,(fun ad h_=>by
  obtain rfl:=Option.some.inj h_
  exact ⟨_,0,rfl,fun j v_ hj=>⟨.inr ‹_›,ab.cells 1 _ rfl j v_ hj⟩⟩),rfl⟩
theorem qc2 (nul:Bool) (X:Bs) (hX:X.length ≤ 1000000) (rest:Bs) {br:Nat} {A:Option Addr} {m c:Nat} {w:World} {F:Nat → Nat → Prop} (hst:Str w br [.slice A m c,.bool false]) (hr:RdS w F A m c ((if nul = true then uv 0 else uv (X.length + 1) ++ X) ++ rest)) (hFd:∀ b o,F b o → ¬ RdM br b o) :
  Calls Tryz.prog 143 #[.pointer (some ⟨br,0,none⟩)] w (RdPost w br (Fp F w) rest fun v w'=>∃ A2,v = .pointer A2 ∧ (∀ ad,A2 = some ad → ∃ b o,ad = ⟨b,o,none⟩ ∧ AtF w' (Fp F w) b o [.string (bs X)]) ∧ A2.isNone = nul):=by
 cases nul
 ·exact qcX X hX rest hst (hr.cast (by simp only [Bool.false_eq_true,if_false,List.append_assoc])) hFd
 exact qcW X rest hst (hr.cast (by simp only [if_true])) hFd
theorem qiB (x:Int) (hx:-1 ≤ x ∧ x ≤ 32767) (rest:Bs) (hl:x ≤ ((rest.length:Nat):Int)) {br:Nat} {A:Option Addr} {m c:Nat} {w:World} {F:Nat → Nat → Prop} (hst:Str w br [.slice A m c,.bool false]) (hr:RdS w F A m c ((be 4 x) ++ rest)) (hFd:∀ b o,F b o → ¬ RdM br b o) :
  Calls Tryz.prog 147 #[.pointer (some ⟨br,0,none⟩)] w (RdPost w br (Fp F w) rest fun v w'=>v = .int .i32 x):=by
 refine enter (n:=21) Tryz.func147 rfl Tryz.ntmps147 kz fun a hE=>?_
 have hW:WOk w (RdM br) w [⟨br,0,[.slice A m c,.bool false],true⟩] []:=WOk.startStr hst
 have hE1:=(hE.grow ⟨br,0,[.slice A m c,.bool false],true⟩).recast 0 (.v (.pointer (some ⟨br,0,none⟩))) (.p 0 0) rfl rfl (Nat.le_of_ble_eq_true (n:=1) rfl)
 refine qap [(0,.p 0 0)] hW hE1 fun a1 hE2=>?_
 refine qac [0,1,2] kz ?_
 refine qai [0] [1,2] [(0,.p 0 0),(4,.p 0 0)] hW hE2 fun a3 hE4=>?_
 refine qaj (qak hE4 (f:=139) (vs:=[.pointer (some ⟨br,0,none⟩)]) (d:=5) kz Tryz.call139 (qjD x (rest) (Str.of hW 0 rfl) (hr.move hW.step (fun b_ o_ h_ _=>hFd b_ o_ h_) (hW.immM hFd)) (qcz 0 rfl)) ?_)
 rintro e_ w5 ⟨_,A6,n7,c8,rfl,hs9,af,ab,rfl⟩
 obtain ⟨aa,ag,al⟩:=hW.wrote 0 [⟨br,0,[.slice A6 n7 c8,.bool false],true⟩] rfl ab hs9
 have ac:=af.move (Step.refl _ Nil) nilM (fun b_ o_ h_ _=>ag.to b_ o_ h_)
 refine ⟨_,rfl,fun am ah=>?_⟩
 have ai:EnvOk 21 [⟨br,0,[.slice A6 n7 c8,.bool false],true⟩] [(5,.v (.int .i32 (IntKind.i32.wrap x))),(0,.p 0 0),(4,.p 0 0)] _:=ah.places (⟨rfl,rfl,trivial⟩)
 refine qai [2] [] [(0,.p 0 0),(3,.v (.int .i32 (IntKind.i32.wrap x)))] aa ai fun ao aj=>?_
 refine qae (qaa ?_)
 refine wp_seq ?_
 refine qap [(0,.p 0 0),(3,.v (.int .i32 (IntKind.i32.wrap x))),(13,.v (.bool (decide (((n7:Nat):Int) < (IntKind.i64.wrap (IntKind.i32.wrap x))))))] aa aj fun ap ae=>?_
 refine qar ae (b:=decide (((n7:Nat):Int) < (IntKind.i64.wrap (IntKind.i32.wrap x)))) kz (decide_eq_false (by have h_:=ac.len; simp only [i32w,i64w]; omega)) ?_
 refine wp_skip ?_
 refine qaa ?_
 refine qap [(2,.v (.int .i32 (IntKind.i32.wrap x)))] aa ae fun ar ak=>?_
 refine wp_ret ?_
 refine qaN ak aa.cells (v:=.int .i32 (IntKind.i32.wrap x)) kz ?_
 refine ⟨_,_,_,_,rfl,Str.of aa 0 rfl,(ac.move (Step.refl _ Nil) nilM qbk),aa.step,congrArg (Value.int .i32) (by simp only [i32w]; omega)⟩
theorem qel (n:Nat) (hn:n ≤ 32768) (rest:Bs) (hl:n ≤ rest.length + 1) {br:Nat} {A:Option Addr} {m c:Nat} {w:World} {F:Nat → Nat → Prop} (hst:Str w br [.slice A m c,.bool false]) (hr:RdS w F A m c ((uv n) ++ rest)) (hFd:∀ b o,F b o → ¬ RdM br b o) :
  Calls Tryz.prog 146 #[.pointer (some ⟨br,0,none⟩)] w (RdPost w br (Fp F w) rest fun v w'=>v = .int .i32 (((n:Nat):Int) - 1)):=by
 refine enter (n:=23) Tryz.func146 rfl Tryz.ntmps146 kz fun a hE=>?_
 have hW:WOk w (RdM br) w [⟨br,0,[.slice A m c,.bool false],true⟩] []:=WOk.startStr hst
 have hE1:=(hE.grow ⟨br,0,[.slice A m c,.bool false],true⟩).recast 0 (.v (.pointer (some ⟨br,0,none⟩))) (.p 0 0) rfl rfl (Nat.le_of_ble_eq_true (n:=1) rfl)
 refine qap [(0,.p 0 0)] hW hE1 fun a1 hE2=>?_
 refine qac [0,1,2,3,4] kz ?_
 refine qai [0] [1,2,3,4] [(0,.p 0 0),(4,.p 0 0)] hW hE2 fun a3 hE4=>?_
 refine qaj (qak hE4 (f:=190) (vs:=[.pointer (some ⟨br,0,none⟩)]) (d:=5) kz Tryz.call190 (qcV n (by omega) (rest) (Str.of hW 0 rfl) (hr.move hW.step (fun b_ o_ h_ _=>hFd b_ o_ h_) (hW.immM hFd)) (qcz 0 rfl)) ?_)
 rintro e_ w5 ⟨_,A6,n7,c8,rfl,hs9,af,ab,rfl⟩
 obtain ⟨aa,ag,al⟩:=hW.wrote 0 [⟨br,0,[.slice A6 n7 c8,.bool false],true⟩] rfl ab hs9
 have ac:=af.move (Step.refl _ Nil) nilM (fun b_ o_ h_ _=>ag.to b_ o_ h_)
 refine ⟨_,rfl,fun am ah=>?_⟩
 have ai:EnvOk 23 [⟨br,0,[.slice A6 n7 c8,.bool false],true⟩] [(5,.v (.int .u32 ((n:Nat):Int))),(0,.p 0 0),(4,.p 0 0)] _:=ah.places (⟨rfl,rfl,trivial⟩)
 refine qai [2,3,4] [] [(0,.p 0 0),(3,.v (.int .i32 (IntKind.i32.wrap ((IntKind.i32.wrap ((n:Nat):Int)) - 1))))] aa ai fun ao aj=>?_
 refine qae (qaa ?_)
 refine wp_seq ?_
 refine qap [(0,.p 0 0),(3,.v (.int .i32 (IntKind.i32.wrap ((IntKind.i32.wrap ((n:Nat):Int)) - 1)))),(15,.v (.bool (decide (((n7:Nat):Int) < (IntKind.i64.wrap (IntKind.i32.wrap ((IntKind.i32.wrap ((n:Nat):Int)) - 1)))))))] aa aj fun ap ae=>?_
 refine qar ae (b:=decide (((n7:Nat):Int) < (IntKind.i64.wrap (IntKind.i32.wrap ((IntKind.i32.wrap ((n:Nat):Int)) - 1))))) kz (decide_eq_false (by have h_:=ac.len; simp only [i32w,i64w]; omega)) ?_
 refine wp_skip ?_
 refine qaa ?_
 refine qap [(2,.v (.int .i32 (IntKind.i32.wrap ((IntKind.i32.wrap ((n:Nat):Int)) - 1))))] aa ae fun ar ak=>?_
 refine wp_ret ?_
 refine qaN ak aa.cells (v:=.int .i32 (IntKind.i32.wrap ((IntKind.i32.wrap ((n:Nat):Int)) - 1))) kz ?_
 refine ⟨_,_,_,_,rfl,Str.of aa 0 rfl,(ac.move (Step.refl _ Nil) nilM qbk),aa.step,congrArg (Value.int .i32) (by simp only [i32w]; omega)⟩
theorem rOk  (rest:Bs)  {br:Nat} {A:Option Addr} {m c:Nat} {w:World} {F:Nat → Nat → Prop} (hst:Str w br [.slice A m c,.bool false]) (hr:RdS w F A m c (rest)) (hFd:∀ b o,F b o → ¬ RdM br b o) :
  Calls Tryz.prog 148 #[.pointer (some ⟨br,0,none⟩)] w (RdPost w br (Fp F w) rest fun v w'=>v = .bool true):=by
 refine enter (n:=8) Tryz.func148 rfl Tryz.ntmps148 kz fun a hE=>?_
 have hW:WOk w (RdM br) w [⟨br,0,[.slice A m c,.bool false],true⟩] []:=WOk.startStr hst
 have hE1:=(hE.grow ⟨br,0,[.slice A m c,.bool false],true⟩).recast 0 (.v (.pointer (some ⟨br,0,none⟩))) (.p 0 0) rfl rfl (Nat.le_of_ble_eq_true (n:=1) rfl)
 refine qap [(0,.p 0 0)] hW hE1 fun a1 hE2=>?_
 refine qap [(2,.v (.bool true))] hW hE2 fun a3 hE4=>?_
 refine wp_ret ?_
 refine qaN hE4 hW.cells (v:=.bool true) kz ?_
 refine ⟨_,_,_,_,rfl,Str.of hW 0 rfl,((hr.move hW.step (fun b_ o_ h_ _=>hFd b_ o_ h_) (hW.immM hFd)).move (Step.refl _ Nil) nilM qbk),hW.step,rfl⟩
theorem qdt {P:Program} {c:Code} {Mid:Act → World → Prop} {Q:Exit → Act → World → Prop} {a:Act} {w:World} (h1:c.wp P (Exit.then Mid Q) a w) (h2:∀ a' w',Mid a' w' → Q .normal a' w'):c.wp P Q a w :=
 wp_mono h1 fun e a' w' h=>by
  cases e <;> first | exact h2 a' w' h | exact h
theorem qjd {k:Nat} (h:k < 32768):IntKind.i32.wrap (((k:Nat):Int) + 1) = ((k + 1:Nat):Int):=by rw [i32w]; omega
theorem qiC {g:Tree → Bs}:∀ {L:List Tree},(∀ t,0 < (g t).length) → L.length ≤ (L.flatMap g).length
 | [],_=>Nat.zero_le _
 | t :: r,h=>by
  have h1:=h t
  have h2:=qiC (L:=r) h
  rw [List.flatMap_cons,List.length_append,List.length_cons]; omega
theorem flat_ge' {g:Tree → Bs} {L:List Tree} (h:∀ t,0 < (g t).length) (rest:Bs):L.length ≤ (L.flatMap g ++ rest).length:=by
 have:=qiC (L:=L) h
 rw [List.length_append]; omega
theorem qkZ {x y:Bs} (h:0 < x.length):0 < (x ++ y).length:=by rw [List.length_append]; omega
theorem qkz {m:Nat} {x:Int} (h:0 < m):0 < (be m x).length:=by rw [be_length]; exact h
section
variable {Pr:Program} {ops:Array Oper} {Q:Exit → Act → World → Prop} {w0:World} {M F:Nat → Nat → Prop} {n br:Nat} {tb:Tb} {env:Env} {P:qb5} {s:Bs} {a:Act} {w:World}
theorem qj8 {id d:Nat} {t e:TypeId} {size bytes m cp:Nat} {A0:Option Addr} (env1 env':Env) (i:Nat) (h:RS w0 M F n br tb env P s a w) (K:∀ a',RS w0 M F n br tb env' P s a' w → Q .normal a' w)
  (hr:List.range ops.size = List.range i ++ (i :: (List.range ops.size).drop (i + 1)):=by kernel_rfl) (e1:∀ A m c,qcC Pr ops n (rdo br A m c :: tb) (List.range i) (qbx env1) env = some env1:=by intro _ _ _; kernel_rfl)
  (hc:∀ A m_ c,cutE (rdo br A m_ c :: tb) env1 ops n i = some (t,.slice A0 m cp,none,some 0,d):=by intro _ _ _; kernel_rfl) (ht:qcf Pr t = some (e,size,bytes):=by kernel_rfl)
  (e2:∀ A m_ c,qcC Pr ops n (rdo br A m_ c :: tb) ((List.range ops.size).drop (i + 1)) (qbx env') ((d,.v (.slice A0 0 cp)) :: env1) = some env':=by intro _ _ _; kernel_rfl):(Code.region id ops false).wp Pr Q a w:=by
 refine qaq _ hr (qdI (List.range i) _ env1 h (fun a1 h1=>?_) e1 rfl)
 obtain ⟨A,m1,c,hW,hrd,hE,hP⟩:=h1.open_
 refine qaj (qcT hE (hc A m1 c) ht (j:=0) rfl (Nat.zero_le _) fun a2 hE2=>?_)
 exact qdI _ [] env' (RS.mk' hW hrd hE2 h1.mv hP) (fun a3 h3=>qae (K a3 h3)) e2 (List.append_nil _).symm
theorem qkA {i d:Nat} {f:FuncId} {vs:List Value} {v0:Value} {N:Act → World → Prop} (h:RS w0 M F n br tb env P s a w) (hc:∀ w,Calls Pr f vs.toArray w (fun e w'=>e = .returned v0 ∧ w' = w))
  (hf:∀ args w,(callFunc f args).run Pr w = .ok (.enter f args) w) (K:∀ a',RS w0 M F n br tb ((d,.v v0) :: env) P s a' w → N a' w)
  (he:∀ A m c,qei (rdo br A m c :: tb) env ops n i = some (f,vs,d):=by intro _ _ _; kernel_rfl):wpOp Pr ops Q i N a w:=by
 obtain ⟨A,m,c,hW,hr,hE,hP⟩:=h.open_
 refine qak hE (he A m c) hf (hc w) ?_
 rintro e_ _ ⟨rfl,rfl⟩
 exact ⟨_,rfl,fun a1 hE1=>K a1 (RS.mk' hW hr hE1 h.mv hP)⟩
theorem qk0 {id d:Nat} {f:FuncId} {v0:Value} (env':Env) (h:RS w0 M F n br tb env P s a w) (hc:qcA Pr f [] s v0)
  (hf:∀ args w,(callFunc f args).run Pr w = .ok (.enter f args) w) (K:∀ a' w',RS w0 M F n br tb env' P s a' w' → Q .normal a' w')
  (he:∀ A m c,qei (rdo br A m c :: tb) env ops n 0 = some (f,[.pointer (some ⟨br,0,none⟩)],d):=by intro _ _ _; kernel_rfl)
  (e:∀ A m c,qcC Pr ops n (rdo br A m c :: tb) ((List.range ops.size).drop 1) (qbx env') ((d,.v v0) :: env) = some env':=by intro _ _ _; kernel_rfl) (hs:Nat.blt 0 ops.size = true:=by kernel_rfl):(Code.region id ops false).wp Pr Q a w :=
 qdb (X:=[]) (rest:=s) env' h hc hf K he e hs
theorem qje {i d k l g size bytes:Nat} {t e:TypeId} {z:Value} {N:Act → World → Prop} (h:RS w0 M F n br (tb ++ [qbD g size z l k]) env P s a w) (hk:k < l) (hz:z.cells.size = size) (hl:qd2 (tb.length + 1) env = true)
  (K:∀ a',RS w0 M F n br (tb ++ [qbD g size z l (k + 1),⟨g,k * size,z.cells.toList,true⟩]) ((d,.p (tb.length + 2) 0) :: env) P s a' w → N a' w)
  (he:∀ A m c,idxE (rdo br A m c :: (tb ++ [qbD g size z l k])) env ops n i = some (t,some ⟨g,0,none⟩,l,((k:Nat):Int),d):=by intro _ _ _; kernel_rfl) (ht:qcf Pr t = some (e,size,bytes):=by kernel_rfl):wpOp Pr ops Q i N a w:=by
 obtain ⟨A,m,c,hW,hr,hE,hP⟩:=h.open_
 refine qas hE (he A m c) ht rfl rfl hk fun a1 hE1=>K a1 ?_
 have h1:RS w0 M F n br (tb ++ [qbD g size z l k]) ((d,.v (.pointer (some ⟨g,0 + k * size,none⟩))) :: env) P s a1 w:=RS.mk' hW hr hE1 h.mv hP
 have h2:=h1.next hk hz (by simpa only [qd2] using hl)
 have h3:=h2.recast d (.v (.pointer (some ⟨g,0 + k * size,none⟩))) (.p (tb.length + 2) 0) (by simp [lk]) ?_ (by show tb.length + 2 < _; simp)
 ·refine ⟨h3.mv,h3.ex,?_,h3.fact⟩
  refine ⟨h3.env_.defers,h3.env_.size,fun q x hx=>h3.env_.at_ q x ?_⟩
  simp only [lk] at hx ⊢
  split at hx
  ·exact hx
  exact hx
 have:obAt (rdo br none 0 0 :: (tb ++ [qbD g size z l (k + 1),⟨g,k * size,z.cells.toList,true⟩])) (tb.length + 2) = ⟨g,k * size,z.cells.toList,true⟩:=by
  simp only [obAt,List.getD_eq_getElem?_getD]
  rw [show tb.length + 2 = (tb.length + 1) + 1 from rfl,List.getElem?_cons_succ,List.getElem?_append_right (by omega)]
  simp
 simp only [SV.val,this]
 simp
theorem qj9 {id d k l g size bytes:Nat} {t e:TypeId} {z:Value} (env1 env':Env) (i:Nat) (h:RS w0 M F n br (tb ++ [qbD g size z l k]) env P s a w) (hk:k < l) (hz:z.cells.size = size) (hl:qd2 (tb.length + 1) env1 = true)
  (K:∀ a',RS w0 M F n br (tb ++ [qbD g size z l (k + 1),⟨g,k * size,z.cells.toList,true⟩]) env' P s a' w → Q .normal a' w)
  (hr:List.range ops.size = List.range i ++ (i :: (List.range ops.size).drop (i + 1)):=by kernel_rfl) (e1:∀ A m c,qcC Pr ops n (rdo br A m c :: (tb ++ [qbD g size z l k])) (List.range i) (qbx env1) env = some env1:=by intro _ _ _; kernel_rfl)
  (he:∀ A m c,idxE (rdo br A m c :: (tb ++ [qbD g size z l k])) env1 ops n i = some (t,some ⟨g,0,none⟩,l,((k:Nat):Int),d):=by intro _ _ _; kernel_rfl) (ht:qcf Pr t = some (e,size,bytes):=by kernel_rfl)
  (e2:∀ A m c,qcC Pr ops n (rdo br A m c :: (tb ++ [qbD g size z l (k + 1),⟨g,k * size,z.cells.toList,true⟩])) ((List.range ops.size).drop (i + 1)) (qbx env') ((d,.p (tb.length + 2) 0) :: env1) = some env':=by intro _ _ _; kernel_rfl):(Code.region id ops false).wp Pr Q a w:=by
 refine qaq _ hr (qdI (List.range i) _ env1 h (fun a1 h1=>qaj (qje h1 hk hz hl (fun a2 h2=>?_) he ht)) e1 rfl)
 exact qdI _ [] env' h2 (fun a3 h3=>qae (K a3 h3)) e2 (List.append_nil _).symm
end
theorem qk1 (x:Int) (rest:Bs):qcA Tryz.prog 163 (be 1 (IntKind.i8.wrap x)) rest (.int .i8 (IntKind.i8.wrap x)):=fun hs hr hF=>(qkW _ rest hs hr hF).mono fun e w' hp=>hp.fp fun v w' h=>by rw [h,ww8]
theorem qkB (x:Int) (rest:Bs):qcA Tryz.prog 141 (be 2 (IntKind.i16.wrap x)) rest (.int .i16 (IntKind.i16.wrap x)):=fun hs hr hF=>(qgS _ rest hs hr hF).mono fun e w' hp=>hp.fp fun v w' h=>by rw [h,ww16]
theorem qf2 (x:Int) (rest:Bs):qcA Tryz.prog 139 (be 4 (IntKind.i32.wrap x)) rest (.int .i32 (IntKind.i32.wrap x)):=fun hs hr hF=>(qjD _ rest hs hr hF).mono fun e w' hp=>hp.fp fun v w' h=>by rw [h,ww32]
theorem qk2 (y:Bool) (rest:Bs):qcA Tryz.prog 140 [by8 (if y then 1 else 0)] rest (.bool y):=fun hs hr hF=>(qkX y rest hs hr hF).mono fun e w' hp=>hp.fp fun v w' h=>h
theorem qiD (S:Bs) (hS:S.length ≤ 32767) (rest:Bs):qcA Tryz.prog 154 (be 2 S.length ++ S) rest (.string (bs S)):=fun hs hr hF=>(qj7 S hS rest hs (hr.cast (by simp only [List.append_assoc])) hF).mono fun e w' hp=>hp.q fun v w' h=>h
theorem qdA (S:Bs) (hS:S.length ≤ 32767) (rest:Bs):qcA Tryz.prog 153 (uv (S.length + 1) ++ S) rest (.string (bs S)):=fun hs hr hF=>(qeR S (by omega) rest hs (hr.cast (by simp only [List.append_assoc])) hF).mono fun e w' hp=>hp.q fun v w' h=>h
theorem qdc (nul:Bool) (S:Bs) (hS:S.length ≤ 32767) (rest:Bs):qiy Tryz.prog 145 (if nul = true then be 2 (-1) else be 2 S.length ++ S) rest (fun A:Option Addr=>.pointer A) (fun A=>andF (qix A S) (isF (A.isNone = nul))):=fun hs hr hF=>(qeN nul S (by omega) rest hs hr hF).mono fun e w' hp=>hp.q fun v w' h=>by
 obtain ⟨A,h1,h2,h3⟩:=h
 exact ⟨A,h1,h2,h3⟩
theorem qb7 (nul:Bool) (S:Bs) (hS:S.length ≤ 32767) (rest:Bs):qiy Tryz.prog 143 (if nul = true then uv 0 else uv (S.length + 1) ++ S) rest (fun A:Option Addr=>.pointer A) (fun A=>andF (qix A S) (isF (A.isNone = nul))):=fun hs hr hF=>(qc2 nul S (by omega) rest hs hr hF).mono fun e w' hp=>hp.q fun v w' h=>by
 obtain ⟨A,h1,h2,h3⟩:=h
 exact ⟨A,h1,h2,h3⟩
theorem qiE (n:Nat) (hn:n ≤ 32767) (rest:Bs) (hl:n ≤ rest.length):qcA Tryz.prog 147 (be 4 n) rest (.int .i32 ((n:Nat):Int)):=fun hs hr hF=>(qiB ((n:Nat):Int) (by omega) rest (by omega) hs hr hF).mono fun e w' hp=>hp.q fun v w' h=>h
theorem qem (n:Nat) (hn:n ≤ 32767) (rest:Bs) (hl:n ≤ rest.length):qcA Tryz.prog 146 (uv (n + 1)) rest (.int .i32 ((n:Nat):Int)):=fun hs hr hF=>(qel (n + 1) (by omega) rest (by omega) hs hr hF).mono fun e w' hp=>hp.q fun v w' h=>h.trans (congrArg (Value.int .i32) (by omega))
theorem pOk (rest:Bs):qcA Tryz.prog 148 [] rest (.bool true):=fun hs hr hF=>(rOk rest hs hr hF).mono fun e w' hp=>hp.q fun v w' h=>h
theorem qkC (u:List (Int × Bs)) (hU:canU u) (hk:∀ x ∈ u,0 ≤ x.1 ∧ x.1 < 4294967296) (rest:Bs):qiy Tryz.prog 156 (uv u.length ++ qcD u) rest (fun m:Option Nat=>.agg #[.map m]) (fun m=>qky m u):=fun hs hr hF=>(qkY u rest hU.1 hk hU.2.1 hU.2.2 hs (hr.cast (by simp only [List.append_assoc])) hF).mono fun e w' hp=>hp.q fun v w' h=>h
theorem qkD (k:Int) (A:Option Addr) (m c:Nat) (w:World):Calls Tryz.prog 97 #[.agg #[.int .u32 k,.slice A m c]] w (qh6 w):=by
 refine enter (n:=7) Tryz.func97 rfl Tryz.ntmps97 kz fun a hE=>?_
 have hW:=WOk.start w Nil
 refine qac [0,1] kz ?_
 refine qaj (qbi hW hE (d:=1) (cs:=[.int .u32 k,.slice A m c]) kz fun b1 a2 w3 hb4 hz5 hF6 hW7 hE8=>?_)
 refine qai [1] [] [(1,.p 0 0)] hW7 hE8 fun a9 ac=>?_
 refine qae (qaa ?_)
 refine wp_seq ?_
 refine qap [(6,.v (.bool (decide (((m:Nat):Int) > 2147483647))))] hW7 ac fun ai aa=>?_
 refine qaz aa (b:=decide (((m:Nat):Int) > 2147483647)) kz (fun ab=>?_) (fun ab=>?_)
 ·
  have ag:=of_decide_eq_true ab
  refine qap [(2,.v (.bool false))] hW7 aa fun aj ae=>?_
  refine wp_ret ?_
  refine qax ?_
  refine qaN ae hW7.cells (v:=.bool false) kz ?_
  exact ⟨_,rfl,hW7.step⟩
 have ah:=of_decide_eq_false ab
 refine wp_skip ?_
 refine qaa ?_
 refine qap [(2,.v (.bool true))] hW7 aa fun ak af=>?_
 refine wp_ret ?_
 refine qaN af hW7.cells (v:=.bool true) kz ?_
 exact ⟨_,rfl,hW7.step⟩
theorem qkE (A:Option Addr) (c:Nat) (u:List (Int × Bs)) (w:World) (F:Nat → Nat → Prop) (hu:TagsR w F A c u):Calls Tryz.prog 38 #[.slice A u.length c] w (qh6 w):=by
 obtain ⟨xu,h1,h2⟩:=hu.ex
 have hsm:=h1.small
 refine enter (n:=18) Tryz.func38 rfl Tryz.ntmps38 kz fun a hE=>?_
 have hW:=WOk.start w Nil
 refine qap [(0,.v (.slice A u.length c))] hW hE fun a1 hE2=>?_
 refine wp_seq ?_
 refine qap [(0,.v (.slice A u.length c)),(7,.v (.bool (decide (((u.length:Nat):Int) > 2147483647))))] hW hE2 fun a3 hE4=>?_
 refine qaz hE4 (b:=decide (((u.length:Nat):Int) > 2147483647)) kz (fun hc5=>?_) (fun hc5=>?_)
 ·
  have hf6:=of_decide_eq_true hc5
  refine qap [(2,.v (.bool false))] hW hE4 fun a7 hE8=>?_
  refine wp_ret ?_
  refine qax ?_
  refine qaN hE8 hW.cells (v:=.bool false) kz ?_
  exact ⟨_,rfl,hW.step⟩
 have hf9:=of_decide_eq_false hc5
 refine wp_skip ?_
 refine qaa ?_
 refine wp_seq ?_
 refine qap [(8,.v (.slice A u.length c)),(9,.v (.int .i64 ((u.length:Nat):Int))),(10,.v (.int .i64 0))] hW hE4 fun ba ar=>?_
 refine wp_block ?_
 refine wp_loop_ghost (fun n_ a_ w_=>∃ (k:Nat),n_ = u.length - k ∧ k ≤ u.length ∧ LInv hW 18 [] [] [(8,.v (.slice A u.length c)),(9,.v (.int .i64 ((u.length:Nat):Int))),(10,.v (.int .i64 ((k:Nat):Int)))] a_ w_) (u.length) ⟨0,by omega,by omega,ar.pk,hW,Fr.refl _ _ _⟩ ?_
 rintro bd bf bg ⟨k,aQ,aR,au,aa,av⟩
 refine qap [(8,.v (.slice A u.length c)),(9,.v (.int .i64 ((u.length:Nat):Int))),(10,.v (.int .i64 ((k:Nat):Int))),(11,.v (.bool (decide (((k:Nat):Int) < ((u.length:Nat):Int)))))] aa au fun bh ae=>?_
 refine wp_seq ?_
 refine qaz ae (b:=decide (((k:Nat):Int) < ((u.length:Nat):Int))) kz (fun af=>?_) (fun af=>?_)
 ·
  have aS:=of_decide_eq_true af
  refine wp_skip ?_
  refine qaa ?_
  refine wp_seq ?_
  refine wp_block ?_
  refine qac [0,1,2,3] kz ?_
  obtain ⟨aT,aU,aw,aV,ac⟩:=Slots.get h1 (i:=k) (by omega)
  obtain ⟨⟨ai,aj⟩,ax⟩:∃ x,u[k]? = some x:=⟨_,List.getElem?_eq_getElem (by omega)⟩
  obtain ⟨⟨ak,al,am,aW⟩,bi,bj⟩:=h2 k ai aj ax
  rw [am] at ac
  refine qaj (qas ae (t:=24) (A:=A) (m:=u.length) (q:=((k:Nat):Int)) (d:=12) kz (e:=65) (size:=2) (bytes:=32) kz aw rfl (by omega) fun bk ay=>?_)
  refine qaj (qaD ay (t:=65) (b:=aT) (o:=aU + k * 2) (d:=13) kz (cs:=[.int .u32 ai,.slice ak aj.length al]) (v:=.agg #[.int .u32 ai,.slice ak aj.length al]) kz (AtF.move ac aa.step nilM qa1).at_ fun bn az=>?_)
  refine qaj (qaJ aa az (d:=4) (cs:=[.int .u32 0,.slice none 0 0]) kz fun bo bp bq aX aY aA aB aC=>?_)
  refine qaj (qam aB aC (oi:=0) (cs:=[.int .u32 ai,.slice ak aj.length al]) kz fun bt aD ag aE=>?_)
  refine qae (qaa ?_)
  refine qac [0,1,2] kz ?_
  refine qai [0] [1,2] [(8,.v (.slice A u.length c)),(9,.v (.int .i64 ((u.length:Nat):Int))),(10,.v (.int .i64 ((k:Nat):Int))),(14,.v (.agg #[.int .u32 ai,.slice ak aj.length al]))] ag aE fun bu aF=>?_
  refine qaj (qak aF (f:=97) (vs:=[.agg #[.int .u32 ai,.slice ak aj.length al]]) (d:=15) kz Tryz.call97 (qkD _ _ _ _ _) ?_)
  rintro e_ bw ⟨aP,rfl,ao⟩
  refine ⟨_,rfl,fun bx aG=>?_⟩
  have ab:=ag.next_nil ao
  have aH:=ag.frN ao
  refine qai [2] [] [(8,.v (.slice A u.length c)),(9,.v (.int .i64 ((u.length:Nat):Int))),(10,.v (.int .i64 ((k:Nat):Int))),(16,.v (.bool (!aP)))] ab aG fun bz ah=>?_
  refine qae (qaa ?_)
  refine qaz ah (b:=!aP) kz (fun aI=>?_) (fun aI=>?_)
  ·
   refine qap [(2,.v (.bool false))] ab ah fun bA aJ=>?_
   refine wp_ret ?_
   refine qaK ?_
   refine qax ?_
   refine qax ?_
   refine qaK ?_
   refine qax ?_
   refine qaN aJ ab.cells (v:=.bool false) kz ?_
   exact ⟨_,rfl,ab.step⟩
  refine wp_skip ?_
  refine qav ?_
  refine qaa ?_
  refine qaq [0,1] kz ?_
  refine qai [0,1] [] [(8,.v (.slice A u.length c)),(9,.v (.int .i64 ((u.length:Nat):Int))),(10,.v (.int .i64 (IntKind.i64.wrap (((k:Nat):Int) + 1))))] ab ah fun bB aK=>?_
  refine qae (qaa ?_)
  obtain ⟨ap,aL,aM⟩:=ab.cutB aK 0 [] [(8,.v (.slice A u.length c)),(9,.v (.int .i64 ((u.length:Nat):Int))),(10,.v (.int .i64 (IntKind.i64.wrap (((k:Nat):Int) + 1))))]
  have aN:IntKind.i64.wrap (((k:Nat):Int) + 1) = ((k + 1:Nat):Int):=qaW (by omega)
  rw [aN] at ap
  exact ⟨u.length - (k + 1),by omega,k + 1,rfl,by omega,ap.pk,aL,((((av.trans aA).trans aD).trans aH).trans aM)⟩
 have aZ:=of_decide_eq_false af
 refine wp_exit ?_
 refine qau ?_
 refine qau ?_
 refine qaM ?_
 refine qaa ?_
 refine qap [(2,.v (.bool true))] aa ae fun bC aO=>?_
 refine wp_ret ?_
 refine qaN aO aa.cells (v:=.bool true) kz ?_
 exact ⟨_,rfl,aa.step⟩
theorem qkF (ct:List Value) (t:Tree) (w:World) (F:Nat → Nat → Prop) (ht:TreeR w F ct t):Calls Tryz.prog 10 #[.agg ct.toArray] w (qh6 w):=by
 obtain ⟨n1,s2,b3,l4,u5,A6,c7,A8,c9,aj,ak,aB,rfl,rfl,aC,aD,aN,aE⟩:=ht.open_
 have ay:=aC.small
 have az:=aD.small
 refine enter (n:=15) Tryz.func10 rfl Tryz.ntmps10 kz fun a hE=>?_
 have hW:=WOk.start w Nil
 refine qac [0,1] kz ?_
 refine qaj (qbi hW hE (d:=1) (cs:=[.int .i64 n1,.slice A6 s2.length c7,.bool b3,.slice A8 l4.length c9,.slice aj u5.length ak]) kz fun aO aP aQ aF aG aH aa al=>?_)
 refine qai [1] [] [(1,.p 0 0)] aa al fun aR am=>?_
 refine qae (qaa ?_)
 refine wp_seq ?_
 refine qap [(1,.p 0 0),(6,.v (.bool (decide (((s2.length:Nat):Int) > 2147483647))))] aa am fun aS ac=>?_
 refine qaz ac (b:=decide (((s2.length:Nat):Int) > 2147483647)) kz (fun ae=>?_) (fun ae=>?_)
 ·
  have aI:=of_decide_eq_true ae
  refine qap [(2,.v (.bool false))] aa ac fun aT ao=>?_
  refine wp_ret ?_
  refine qax ?_
  refine qaN ao aa.cells (v:=.bool false) kz ?_
  exact ⟨_,rfl,aa.step⟩
 have aJ:=of_decide_eq_false ae
 refine wp_skip ?_
 refine qaa ?_
 refine wp_seq ?_
 refine qap [(1,.p 0 0),(10,.v (.bool (decide (((l4.length:Nat):Int) > 2147483647))))] aa ac fun aU af=>?_
 refine qaz af (b:=decide (((l4.length:Nat):Int) > 2147483647)) kz (fun ag=>?_) (fun ag=>?_)
 ·
  have aK:=of_decide_eq_true ag
  refine qap [(2,.v (.bool false))] aa af fun aV ap=>?_
  refine wp_ret ?_
  refine qax ?_
  refine qaN ap aa.cells (v:=.bool false) kz ?_
  exact ⟨_,rfl,aa.step⟩
 have aL:=of_decide_eq_false ag
 refine wp_skip ?_
 refine qaa ?_
 refine wp_seq ?_
 refine qac [0,1,2,3] kz ?_
 refine qai [0,1] [2,3] [(12,.v (.slice aj u5.length ak))] aa af fun aW ar=>?_
 refine qaj (qak ar (f:=38) (vs:=[.slice aj u5.length ak]) (d:=13) kz Tryz.call38 (qkE _ _ u5 _ _ (aE.move aa.step nilM aa.imm)) ?_)
 rintro e_ aX ⟨aA,rfl,ai⟩
 refine ⟨_,rfl,fun aY au=>?_⟩
 have ab:=aa.next_nil ai
 have aM:=aa.frN ai
 refine qai [3] [] [(14,.v (.bool (!aA)))] ab au fun aZ ah=>?_
 refine qae (qaa ?_)
 refine qaz ah (b:=!aA) kz (fun av=>?_) (fun av=>?_)
 ·
  refine qap [(2,.v (.bool false))] ab ah fun ba aw=>?_
  refine wp_ret ?_
  refine qax ?_
  refine qaN aw ab.cells (v:=.bool false) kz ?_
  exact ⟨_,rfl,ab.step⟩
 refine wp_skip ?_
 refine qaa ?_
 refine qap [(2,.v (.bool true))] ab ah fun bd ax=>?_
 refine wp_ret ?_
 refine qaN ax ab.cells (v:=.bool true) kz ?_
 exact ⟨_,rfl,ab.step⟩
theorem qjf (x m:Int) (hx:0 ≤ x) (hx':x < 256) (hm:0 ≤ m) (hm':m < 32768) (w:World):Calls Tryz.prog 13 #[.int .u8 x,.int .i64 m] w (qch w (.int .i64 (Int.tmod x (m + 1)))):=by
 refine enter (n:=10) Tryz.func13 rfl Tryz.ntmps13 kz fun a hE=>?_
 have hW:=WOk.start w Nil
 refine qap [(0,.v (.int .u8 x)),(1,.v (.int .i64 m))] hW hE fun a1 hE2=>?_
 refine qac [0,1,2,3,4,5] kz ?_
 refine qai [0,1,2,3] [4,5] [(6,.v (.int .i64 (IntKind.i64.wrap x))),(8,.v (.int .i64 (IntKind.i64.wrap (m + 1))))] hW hE2 fun a3 hE4=>?_
 refine qaj (qiU hE4 (k:=.i64) (p:=(IntKind.i64.wrap x)) (q:=(IntKind.i64.wrap (m + 1))) (d:=9) kz (by simp only [IntKind.wrap_i64]; omega) fun a5 hE6=>?_)
 refine qai [5] [] [(4,.v (.int .i64 (Int.tmod (IntKind.i64.wrap x) (IntKind.i64.wrap (m + 1)))))] hW hE6 fun a7 hE8=>?_
 refine qae (qaa ?_)
 refine wp_ret ?_
 refine qaN hE8 hW.cells (v:=.int .i64 (Int.tmod (IntKind.i64.wrap x) (IntKind.i64.wrap (m + 1)))) kz ?_
 exact ⟨by rw [wrap_i64 (by omega) (by omega),wrap_i64 (by omega) (by omega)],hW.step⟩
def qaC (v:Int) (T:Tree):Bs:=(be 4 ((IntKind.i32.wrap (T.at_ 0).N))) ++ ((if (decide (v ≥ 0)) = true then (uv ((T.at_ 1).S.length + 1) ++ (T.at_ 1).S) else (be 2 (T.at_ 1).S.length ++ (T.at_ 1).S)) ++ ((be 4 ((IntKind.i32.wrap (T.at_ 2).N))) ++ ((if (decide (v ≥ 0)) = true then (if (T.at_ 3).null = true then uv 0 else uv ((qbg (T.at_ 3)).length + 1) ++ (qbg (T.at_ 3))) else (if (T.at_ 3).null = true then be 2 (-1) else be 2 (qbg (T.at_ 3)).length ++ (qbg (T.at_ 3)))) ++ ((if (decide (v ≥ 2)) = true then [by8 (if (decide ((T.at_ 4).N % 2 = 1)) then 1 else 0)] else []) ++ (if (decide (v ≥ 0)) = true then (uv T.U.length) ++ (qcD T.U) else [])))))
theorem qbp (v:Int) (T:Tree):0 < (qaC v T).length:=qkZ (qkz (by decide))
def qbR (v:Int) (T:Tree):Bs:=(be 4 ((IntKind.i32.wrap (T.at_ 0).N))) ++ ((be 2 ((IntKind.i16.wrap (T.at_ 1).N))) ++ ((if (decide (v ≥ 0)) = true then (if (T.at_ 2).null = true then uv 0 else uv ((qbg (T.at_ 2)).length + 1) ++ (qbg (T.at_ 2))) else (if (T.at_ 2).null = true then be 2 (-1) else be 2 (qbg (T.at_ 2)).length ++ (qbg (T.at_ 2)))) ++ ((if (decide (v ≥ 1)) = true then be 1 ((IntKind.i8.wrap (T.at_ 3).N)) else []) ++ ((if (decide (v ≥ 0)) = true then (uv ((T.at_ 4).S.length + 1) ++ (T.at_ 4).S) else (be 2 (T.at_ 4).S.length ++ (T.at_ 4).S)) ++ ((be 4 ((IntKind.i32.wrap (T.at_ 5).N))) ++ (((if (decide (v ≥ 0)) = true then (uv ((lst (T.at_ 6)).length + 1)) else (be 4 (lst (T.at_ 6)).length)) ++ ((lst (T.at_ 6)).flatMap (qaC v))) ++ ((be 4 ((IntKind.i32.wrap (T.at_ 7).N))) ++ ((if (decide (v ≥ 0)) = true then (uv T.U.length) ++ (qcD T.U) else []) ++ (([]:Bs))))))))))
theorem qcF (v:Int) (T:Tree):qag v T = qbR v T:=rfl
def qbu (d:DV):List Value:=[.int .i32 ((d.f 0).n),.string ((d.f 1).s),.int .i32 ((d.f 2).n),.pointer ((d.f 3).A),.bool ((d.f 4).b),.map d.m]
theorem qaR:qgl qaI:=by
 intro w w' F F' M d hs hM hF h
 unfold qaI at h ⊢
 obtain ⟨g0,g1,g2,⟨g3,g3l⟩,g4,t1,t2,t3,_⟩:=h
 exact ⟨g0,g1,g2,⟨fun ad hA=>by
  obtain ⟨b,o,h1,h2⟩:=g3 ad hA
  exact ⟨b,o,h1,h2.move hs hM hF⟩,g3l⟩,g4,t1.move hs hM hF,t2,t3,trivial⟩
def qa6 (v:Int) (D:DV) (T:Tree):Prop:=((D.f 0).n = IntKind.i32.wrap (T.at_ 0).N) ∧ ((D.f 1).s = bs (T.at_ 1).S) ∧ ((D.f 2).n = IntKind.i32.wrap (T.at_ 2).N) ∧ (((D.f 3).s = bs (qbg (T.at_ 3)) ∧ (D.f 3).A.isNone = (T.at_ 3).null)) ∧ (((decide (v ≥ 2)) = true → (D.f 4).b = decide ((T.at_ 4).N % 2 = 1)) ∧ ((decide (v ≥ 2)) = false → (D.f 4).b = false)) ∧ (((decide (v ≥ 0)) = true → D.u = T.U) ∧ ((decide (v ≥ 0)) = false → D.u = [])) ∧ True
def qbS (v:Int) (D:DV) (T:Tree):Prop:=((D.f 0).n = IntKind.i32.wrap (T.at_ 0).N) ∧ ((D.f 1).n = IntKind.i16.wrap (T.at_ 1).N) ∧ (((D.f 2).s = bs (qbg (T.at_ 2)) ∧ (D.f 2).A.isNone = (T.at_ 2).null)) ∧ (((decide (v ≥ 1)) = true → (D.f 3).n = IntKind.i8.wrap (T.at_ 3).N) ∧ ((decide (v ≥ 1)) = false → (D.f 3).n = 1)) ∧ ((D.f 4).s = bs (T.at_ 4).S) ∧ ((D.f 5).n = IntKind.i32.wrap (T.at_ 5).N) ∧ (((D.f 6).l = (lst (T.at_ 6)).length ∧ ∀ i,i < (D.f 6).l → qa6 v ((D.f 6).f i) ((lst (T.at_ 6)).getD i .zero))) ∧ ((D.f 7).n = IntKind.i32.wrap (T.at_ 7).N) ∧ (((decide (v ≥ 0)) = true → D.u = T.U) ∧ ((decide (v ≥ 0)) = false → D.u = [])) ∧ True
theorem qkG (b o:Nat) (w:World):Calls Tryz.prog 164 #[.pointer (some ⟨b,o,none⟩)] w (fun e w'=>e = .returned (.tuple #[]) ∧ w' = w):=by
 refine enter (n:=2) (vs:=[.pointer (some ⟨b,o,none⟩)]) Tryz.func164 rfl Tryz.ntmps164 kz fun a hE=>?_
 refine wp_skip ?_
 exact qbB hE (WOk.start w Nil).cells (v:=.tuple #[]) kz ⟨rfl,rfl⟩
set_option maxHeartbeats 4000000 in
theorem qcG (v:Int) (T:Tree) {bv:Nat} {A:Option Addr} {c:Nat} {w:World} {F:Nat → Nat → Prop} (hst:Str w bv [.int .i16 v,.int .i32 0,.int .i16 0,.pointer none,.int .i8 1,.string ByteArray.empty,.int .i32 (-1),.slice none 0 0,.int .i32 (-2147483648),.map none]) (ho:Octs w F A c (qag v T)) (hFd:∀ b o,F b o → ¬ (b = bv ∧ o < 10)) (hc:qaX T) (hR:T.ranged) :
  Calls Tryz.prog 109 #[.pointer (some ⟨bv,0,none⟩),.slice A (qag v T).length c,.bool false] w (fun e w'=>∃ D:DV,e = .returned .nilIface ∧ Str w' bv [.int .i16 v,.int .i32 ((D.f 0).n),.int .i16 ((D.f 1).n),.pointer ((D.f 2).A),.int .i8 ((D.f 3).n),.string ((D.f 4).s),.int .i32 ((D.f 5).n),.slice ((D.f 6).A) ((D.f 6).l) ((D.f 6).c),.int .i32 ((D.f 7).n),.map D.m] ∧ qaT w' (Fp F w) D ∧ qbS v D T ∧ Step w w' (fun b o=>b = bv ∧ o < 10)):=by
 refine enter (n:=175) Tryz.func109 rfl Tryz.ntmps109 kz fun a hE=>?_
 have hW:=WOk.startStr hst
 have hE1:=(hE.grow ⟨bv,0,[.int .i16 v,.int .i32 0,.int .i16 0,.pointer none,.int .i8 1,.string ByteArray.empty,.int .i32 (-1),.slice none 0 0,.int .i32 (-2147483648),.map none],true⟩).recast 0 (.v (.pointer (some ⟨bv,0,none⟩))) (.p 0 0) rfl rfl (Nat.le_of_ble_eq_true (n:=1) rfl)
 refine qap [(0,.p 0 0),(1,.v (.slice A ((qag v T).length) c)),(2,.v (.bool false))] hW hE1 fun a1 hE2=>?_
 refine qac [0,1] kz ?_
 refine qai [0] [1] [(0,.p 0 0),(1,.v (.slice A ((qag v T).length) c)),(2,.v (.bool false)),(29,.p 0 0)] hW hE2 fun a3 hE4=>?_
 refine qaj (qbo hE4 (f:=54) (vs:=[.pointer (some ⟨bv,0,none⟩)]) (d:=30) (n':=11) kz Tryz.call54 Tryz.func54 rfl Tryz.ntmps54 kz fun a5 hE6=>?_)
 have hE7:=hE6.recast 0 (.v (.pointer (some ⟨bv,0,none⟩))) (.p 0 0) rfl rfl (Nat.le_of_ble_eq_true (n:=1) rfl)
 refine qac [0,1,2,3] kz ?_
 refine qai [0,1,2] [3] [(0,.p 0 0),(4,.p 0 4)] hW hE7 fun a8 hE9=>?_
 refine qaj (qam hW hE9 (oi:=0) (cs:=[.int .i16 v,.int .i32 0,.int .i16 0,.pointer none,.int .i8 1,.string ByteArray.empty,.int .i32 (-1),.slice none 0 0,.int .i32 (-2147483648),.map none]) kz fun fD fg dB eH=>?_)
 refine qae (qaa ?_)
 refine qac [0,1,2,3] kz ?_
 refine qai [0,1,2] [3] [(0,.p 0 0),(7,.p 0 6)] dB eH fun fE eI=>?_
 refine qaj (qam dB eI (oi:=0) (cs:=[.int .i16 v,.int .i32 0,.int .i16 0,.pointer none,.int .i8 1,.string ByteArray.empty,.int .i32 (-1),.slice none 0 0,.int .i32 (-2147483648),.map none]) kz fun fF fh dC eJ=>?_)
 refine qae (qaa ?_)
 refine qaq [0,1,2,3] kz ?_
 refine qai [0,1,2] [3] [(10,.p 0 8)] dC eJ fun fG eK=>?_
 refine qaj (qam dC eK (oi:=0) (cs:=[.int .i16 v,.int .i32 0,.int .i16 0,.pointer none,.int .i8 1,.string ByteArray.empty,.int .i32 (-1),.slice none 0 0,.int .i32 (-2147483648),.map none]) kz fun fH fi du eL=>?_)
 refine qae ?_
 refine qbB eL du.cells (v:=.tuple #[]) kz ?_
 refine ⟨_,rfl,fun fI eM=>?_⟩
 have eN:EnvOk 175 [⟨bv,0,[.int .i16 v,.int .i32 0,.int .i16 0,.pointer none,.int .i8 1,.string ByteArray.empty,.int .i32 (-1),.slice none 0 0,.int .i32 (-2147483648),.map none],true⟩] [(30,.v (.tuple #[])),(0,.p 0 0),(1,.v (.slice A ((qag v T).length) c)),(2,.v (.bool false)),(29,.p 0 0)] _:=eM.places (⟨rfl,rfl,trivial⟩)
 refine qae (qaa ?_)
 refine qac [0,1,2,3] kz ?_
 refine qai [0,1] [2,3] [(0,.p 0 0),(2,.v (.bool false)),(32,.v (.agg #[.slice A ((qag v T).length) c,.bool false]))] du eN fun fJ eO=>?_
 refine qaj (qaJ du eO (d:=7) (cs:=[.slice none 0 0,.bool false]) kz fun aZ fK fL fj fk fl eP eQ=>?_)
 refine qaj (qam eP eQ (oi:=1) (cs:=[.slice A ((qag v T).length) c,.bool false]) kz fun fM fm dv eR=>?_)
 refine qae (qaa ?_)
 have dD:=RS.start (F:=F) (s:=qag v T) dv eR (ho.move dv.step (fun b_ o_ h_ _=>hFd b_ o_ h_) (dv.immM hFd)) [(0,.p 1 0),(2,.v (.bool false)),(7,.p 0 0)]
 have ff:=hc
 have e44r:=hR
 unfold qaX at ff
 obtain ⟨e44_0,e44_1,e44_2,e44_3,e44_4,e44_5,⟨e44_6,e44_6e⟩,e44_7,e44_U,_⟩:=ff
 obtain ⟨fo,dE⟩:∃ R,R = (if (decide (v ≥ 0)) = true then (uv T.U.length) ++ (qcD T.U) else []) ++ ([]:Bs):=⟨_,rfl⟩
 obtain ⟨ba,dF⟩:∃ R,R = (be 4 ((IntKind.i32.wrap (T.at_ 7).N))) ++ fo:=⟨_,rfl⟩
 obtain ⟨fq,dG⟩:∃ R,R = ((if (decide (v ≥ 0)) = true then (uv ((lst (T.at_ 6)).length + 1)) else (be 4 (lst (T.at_ 6)).length)) ++ ((lst (T.at_ 6)).flatMap (qaC v))) ++ ba:=⟨_,rfl⟩
 obtain ⟨fr,dH⟩:∃ R,R = (be 4 ((IntKind.i32.wrap (T.at_ 5).N))) ++ fq:=⟨_,rfl⟩
 obtain ⟨dI,dJ⟩:∃ R,R = (if (decide (v ≥ 0)) = true then (uv ((T.at_ 4).S.length + 1) ++ (T.at_ 4).S) else (be 2 (T.at_ 4).S.length ++ (T.at_ 4).S)) ++ fr:=⟨_,rfl⟩
 obtain ⟨eE,dK⟩:∃ R,R = (if (decide (v ≥ 1)) = true then be 1 ((IntKind.i8.wrap (T.at_ 3).N)) else []) ++ dI:=⟨_,rfl⟩
 obtain ⟨ft,dL⟩:∃ R,R = (if (decide (v ≥ 0)) = true then (if (T.at_ 2).null = true then uv 0 else uv ((qbg (T.at_ 2)).length + 1) ++ (qbg (T.at_ 2))) else (if (T.at_ 2).null = true then be 2 (-1) else be 2 (qbg (T.at_ 2)).length ++ (qbg (T.at_ 2)))) ++ eE:=⟨_,rfl⟩
 obtain ⟨fu,dM⟩:∃ R,R = (be 2 ((IntKind.i16.wrap (T.at_ 1).N))) ++ ft:=⟨_,rfl⟩
 obtain ⟨fv,dN⟩:∃ R,R = (be 4 ((IntKind.i32.wrap (T.at_ 0).N))) ++ fu:=⟨_,rfl⟩
 have dO:=dD.cast (t:=fv) (by rw [qcF,dN,dM,dL,dK,dJ,dH,dG,dF,dE]; unfold qbR; simp only [List.append_assoc])
 clear dD
 refine wp_seq ?_
 refine qbQ [(0,.p 1 0),(2,.v (.bool false)),(7,.p 0 0),(8,.v (.int .i16 v))] dO fun _ dP=>?_
 clear dO
 refine qaa ?_
 refine wp_seq ?_
 refine qbQ [(0,.p 1 0),(2,.v (.bool false)),(7,.p 0 0),(8,.v (.int .i16 v))] dP fun _ dQ=>?_
 clear dP
 refine qaa ?_
 refine wp_seq ?_
 refine qbQ [(0,.p 1 0),(2,.v (.bool false)),(7,.p 0 0),(8,.v (.int .i16 v)),(9,.v (.bool (decide (v ≥ 0))))] dQ fun _ dR=>?_
 clear dQ
 refine qaa ?_
 refine wp_seq ?_
 refine qbQ [(0,.p 1 0),(2,.v (.bool false)),(7,.p 0 0),(8,.v (.int .i16 v)),(9,.v (.bool (decide (v ≥ 0))))] dR fun _ dS=>?_
 clear dR
 refine qaa ?_
 refine wp_seq ?_
 refine qbQ [(2,.v (.bool false)),(7,.p 0 0),(8,.v (.int .i16 v)),(9,.v (.bool (decide (v ≥ 0)))),(10,.p 1 0)] dS fun _ dT=>?_
 clear dS
 refine qaa ?_
 refine wp_seq ?_
 refine wp_seq ?_
 have dU:=dT.cast dN
 clear dT
 refine qdb (d:=42) [(2,.v (.bool false)),(7,.p 0 0),(8,.v (.int .i16 v)),(9,.v (.bool (decide (v ≥ 0)))),(10,.p 1 0),(11,.v (.int .i32 (IntKind.i32.wrap (T.at_ 0).N)))] dU (qf2 _ _) Tryz.call139 fun _ _ dV=>?_
 clear dU
 refine qaa ?_
 refine qcP [⟨bv,0,[.int .i16 v,.int .i32 (IntKind.i32.wrap (T.at_ 0).N),.int .i16 0,.pointer none,.int .i8 1,.string ByteArray.empty,.int .i32 (-1),.slice none 0 0,.int .i32 (-2147483648),.map none],true⟩] 0 [(2,.v (.bool false)),(7,.p 0 0),(8,.v (.int .i16 v)),(9,.v (.bool (decide (v ≥ 0)))),(10,.p 1 0)] dV fun _ _ dW=>?_
 clear dV
 refine qaa ?_
 refine wp_seq ?_
 refine wp_seq ?_
 have dX:=dW.cast dM
 clear dW
 refine qdb (d:=47) [(2,.v (.bool false)),(7,.p 0 0),(8,.v (.int .i16 v)),(9,.v (.bool (decide (v ≥ 0)))),(10,.p 1 0),(12,.v (.int .i16 (IntKind.i16.wrap (T.at_ 1).N)))] dX (qkB _ _) Tryz.call141 fun _ _ dY=>?_
 clear dX
 refine qaa ?_
 refine qcP [⟨bv,0,[.int .i16 v,.int .i32 (IntKind.i32.wrap (T.at_ 0).N),.int .i16 (IntKind.i16.wrap (T.at_ 1).N),.pointer none,.int .i8 1,.string ByteArray.empty,.int .i32 (-1),.slice none 0 0,.int .i32 (-2147483648),.map none],true⟩] 0 [(2,.v (.bool false)),(7,.p 0 0),(8,.v (.int .i16 v)),(9,.v (.bool (decide (v ≥ 0)))),(10,.p 1 0)] dY fun _ _ dZ=>?_
 clear dY
 refine qaa ?_
 refine wp_seq ?_
 refine wp_seq ?_
 refine qbQ [(2,.v (.bool false)),(7,.p 0 0),(8,.v (.int .i16 v)),(9,.v (.bool (decide (v ≥ 0)))),(10,.p 1 0)] dZ fun _ d5=>?_
 clear dZ
 refine qaa ?_
 refine wp_seq ?_
 have d6:=d5.cast dL
 clear d5
 refine qdt (Mid:=fun a_ w_=>∃ (ai:Option Addr) (P':qb5),(∀ w F,P' w F → noF w F ∧ qix ai (qbg (T.at_ 2)) w F ∧ ai.isNone = (T.at_ 2).null) ∧ RS w (fun b o=>b = bv ∧ o < 10) F 175 aZ [⟨bv,0,[.int .i16 v,.int .i32 (IntKind.i32.wrap (T.at_ 0).N),.int .i16 (IntKind.i16.wrap (T.at_ 1).N),.pointer none,.int .i8 1,.string ByteArray.empty,.int .i32 (-1),.slice none 0 0,.int .i32 (-2147483648),.map none],true⟩] [(2,.v (.bool false)),(7,.p 0 0),(8,.v (.int .i16 v)),(9,.v (.bool (decide (v ≥ 0)))),(10,.p 1 0),(13,.v (.pointer ai))] P' eE a_ w_) ?_ ?_
 ·
  refine wp_seq ?_
  refine qbQ [(2,.v (.bool false)),(7,.p 0 0),(8,.v (.int .i16 v)),(9,.v (.bool (decide (v ≥ 0)))),(10,.p 1 0),(52,.v (.bool (decide (v ≥ 0))))] d6 fun _ aH=>qaa ?_
  clear d6
  refine qaz aH.env_ (b:=decide (v ≥ 0)) kz (fun dw=>?_) (fun dw=>?_)
  ·
   have d7:=aH.cast (t:=(if (T.at_ 2).null = true then uv 0 else uv ((qbg (T.at_ 2)).length + 1) ++ (qbg (T.at_ 2))) ++ eE) (by rw [if_pos dw])
   clear aH
   refine wp_seq ?_
   refine qbQ [(2,.v (.bool false)),(7,.p 0 0),(8,.v (.int .i16 v)),(9,.v (.bool (decide (v ≥ 0)))),(10,.p 1 0),(53,.v (.bool false))] d7 fun _ dx=>qaa ?_
   clear d7
   refine qar dx.env_ (b:=false) kz (rfl) ?_
   refine qja (d:=55) (fun eF=>[(2,.v (.bool false)),(7,.p 0 0),(8,.v (.int .i16 v)),(9,.v (.bool (decide (v ≥ 0)))),(10,.p 1 0),(13,.v (.pointer eF))]) dx (qb7 (T.at_ 2).null (qbg (T.at_ 2)) e44_2 _) (fun _=>(MvF.text _ _).and (MvF.is _)) Tryz.call143 fun eF fN _ _ d8 eS=>?_
   clear dx
   refine qaa ?_
   exact ⟨eF,_,fun w F h_=>⟨(d8 _ _ h_).1,(d8 _ _ h_).2⟩,eS.pk (env':=[(2,.v (.bool false)),(7,.p 0 0),(8,.v (.int .i16 v)),(9,.v (.bool (decide (v ≥ 0)))),(10,.p 1 0),(13,.v (.pointer eF))])⟩
  have d9:=aH.cast (t:=(if (T.at_ 2).null = true then be 2 (-1) else be 2 (qbg (T.at_ 2)).length ++ (qbg (T.at_ 2))) ++ eE) (by rw [if_neg (by rw [dw]; decide)])
  clear aH
  refine wp_seq ?_
  refine qbQ [(2,.v (.bool false)),(7,.p 0 0),(8,.v (.int .i16 v)),(9,.v (.bool (decide (v ≥ 0)))),(10,.p 1 0),(56,.v (.bool false))] d9 fun _ dy=>qaa ?_
  clear d9
  refine qar dy.env_ (b:=false) kz (rfl) ?_
  refine qja (d:=58) (fun eG=>[(2,.v (.bool false)),(7,.p 0 0),(8,.v (.int .i16 v)),(9,.v (.bool (decide (v ≥ 0)))),(10,.p 1 0),(13,.v (.pointer eG))]) dy (qdc (T.at_ 2).null (qbg (T.at_ 2)) e44_2 _) (fun _=>(MvF.text _ _).and (MvF.is _)) Tryz.call145 fun eG fO _ _ ea eU=>?_
  clear dy
  refine qaa ?_
  exact ⟨eG,_,fun w F h_=>⟨(ea _ _ h_).1,(ea _ _ h_).2⟩,eU.pk (env':=[(2,.v (.bool false)),(7,.p 0 0),(8,.v (.int .i16 v)),(9,.v (.bool (decide (v ≥ 0)))),(10,.p 1 0),(13,.v (.pointer eG))])⟩
 rintro _ _ ⟨ai,fw,eb,ec⟩
 refine qaa ?_
 refine qcP [⟨bv,0,[.int .i16 v,.int .i32 (IntKind.i32.wrap (T.at_ 0).N),.int .i16 (IntKind.i16.wrap (T.at_ 1).N),.pointer ai,.int .i8 1,.string ByteArray.empty,.int .i32 (-1),.slice none 0 0,.int .i32 (-2147483648),.map none],true⟩] 0 [(2,.v (.bool false)),(7,.p 0 0),(8,.v (.int .i16 v)),(9,.v (.bool (decide (v ≥ 0)))),(10,.p 1 0)] ec fun _ _ ee=>?_
 clear ec
 refine qaa ?_
 refine wp_seq ?_
 have ef:=ee.cast dK
 clear ee
 refine qdt (Mid:=fun a_ w_=>∃ (aj:DV) (P':qb5),(∀ w F,P' w F → fw w F ∧ (True) ∧ ((decide (v ≥ 1)) = true → aj.n = IntKind.i8.wrap (T.at_ 3).N) ∧ ((decide (v ≥ 1)) = false → aj.n = 1)) ∧ RS w (fun b o=>b = bv ∧ o < 10) F 175 aZ [⟨bv,0,[.int .i16 v,.int .i32 (IntKind.i32.wrap (T.at_ 0).N),.int .i16 (IntKind.i16.wrap (T.at_ 1).N),.pointer ai,.int .i8 aj.n,.string ByteArray.empty,.int .i32 (-1),.slice none 0 0,.int .i32 (-2147483648),.map none],true⟩] [(2,.v (.bool false)),(7,.p 0 0),(8,.v (.int .i16 v)),(9,.v (.bool (decide (v ≥ 0)))),(10,.p 1 0)] P' dI a_ w_) ?_ ?_
 ·
  refine wp_seq ?_
  refine qbQ [(2,.v (.bool false)),(7,.p 0 0),(8,.v (.int .i16 v)),(9,.v (.bool (decide (v ≥ 0)))),(10,.p 1 0),(64,.v (.bool (decide (v ≥ 1))))] ef fun _ ao=>qaa ?_
  clear ef
  refine qaz ao.env_ (b:=decide (v ≥ 1)) kz (fun ap=>?_) (fun ap=>?_)
  ·
   have bd:=ao.cast (t:=(be 1 ((IntKind.i8.wrap (T.at_ 3).N))) ++ dI) (by rw [if_pos ap])
   clear ao
   refine wp_seq ?_
   refine qdb (d:=65) [(2,.v (.bool false)),(7,.p 0 0),(8,.v (.int .i16 v)),(9,.v (.bool (decide (v ≥ 0)))),(10,.p 1 0),(14,.v (.int .i8 (IntKind.i8.wrap (T.at_ 3).N)))] bd (qk1 _ _) Tryz.call163 fun _ _ bf=>?_
   clear bd
   refine qaa ?_
   refine qcP [⟨bv,0,[.int .i16 v,.int .i32 (IntKind.i32.wrap (T.at_ 0).N),.int .i16 (IntKind.i16.wrap (T.at_ 1).N),.pointer ai,.int .i8 (IntKind.i8.wrap (T.at_ 3).N),.string ByteArray.empty,.int .i32 (-1),.slice none 0 0,.int .i32 (-2147483648),.map none],true⟩] 0 [(2,.v (.bool false)),(7,.p 0 0),(8,.v (.int .i16 v)),(9,.v (.bool (decide (v ≥ 0)))),(10,.p 1 0)] bf fun _ _ eg=>?_
   clear bf
   refine qaa ?_
   exact ⟨dvN (IntKind.i8.wrap (T.at_ 3).N),_,fun w F h_=>⟨h_,trivial,⟨fun _=>rfl,(fun e_=>by rw [ap] at e_; cases e_)⟩⟩,eg.pk (env':=[(2,.v (.bool false)),(7,.p 0 0),(8,.v (.int .i16 v)),(9,.v (.bool (decide (v ≥ 0)))),(10,.p 1 0)])⟩
  have bg:=ao.cast (t:=[] ++ dI) (by rw [if_neg (by rw [ap]; decide)])
  clear ao
  have eh:=bg.cast (t:=dI) rfl
  clear bg
  refine wp_skip (qaa ?_)
  exact ⟨dvN (1),_,fun w F h_=>⟨h_,trivial,⟨(fun e_=>by rw [ap] at e_; cases e_),fun _=>rfl⟩⟩,eh.pk (env':=[(2,.v (.bool false)),(7,.p 0 0),(8,.v (.int .i16 v)),(9,.v (.bool (decide (v ≥ 0)))),(10,.p 1 0)])⟩
 rintro _ _ ⟨aj,ei,aE,bh⟩
 refine qaa ?_
 refine wp_seq ?_
 refine wp_seq ?_
 refine qbQ [(2,.v (.bool false)),(7,.p 0 0),(8,.v (.int .i16 v)),(9,.v (.bool (decide (v ≥ 0)))),(10,.p 1 0)] bh fun _ bi=>?_
 clear bh
 refine qaa ?_
 refine wp_seq ?_
 refine wp_seq ?_
 refine qbQ [(2,.v (.bool false)),(7,.p 0 0),(8,.v (.int .i16 v)),(9,.v (.bool (decide (v ≥ 0)))),(10,.p 1 0),(70,.v (.bool false))] bi fun _ aI=>qaa ?_
 clear bi
 refine qar aI.env_ (b:=false) kz (rfl) ?_
 have bj:=aI.cast dJ
 clear aI
 refine qgp (d1:=75) (d2:=76) [(2,.v (.bool false)),(7,.p 0 0),(8,.v (.int .i16 v)),(9,.v (.bool (decide (v ≥ 0)))),(10,.p 1 0),(74,.v (.bool (decide (v ≥ 0))))] [(2,.v (.bool false)),(7,.p 0 0),(8,.v (.int .i16 v)),(9,.v (.bool (decide (v ≥ 0)))),(10,.p 1 0),(15,.v (.string (bs (T.at_ 4).S)))] bj (qdA (T.at_ 4).S e44_4 _) Tryz.call153 (qiD (T.at_ 4).S e44_4 _) Tryz.call154 fun _ _ bk=>?_
 clear bj
 refine qaa ?_
 refine qcP [⟨bv,0,[.int .i16 v,.int .i32 (IntKind.i32.wrap (T.at_ 0).N),.int .i16 (IntKind.i16.wrap (T.at_ 1).N),.pointer ai,.int .i8 aj.n,.string (bs (T.at_ 4).S),.int .i32 (-1),.slice none 0 0,.int .i32 (-2147483648),.map none],true⟩] 0 [(2,.v (.bool false)),(7,.p 0 0),(8,.v (.int .i16 v)),(9,.v (.bool (decide (v ≥ 0)))),(10,.p 1 0)] bk fun _ _ bn=>?_
 clear bk
 refine qaa ?_
 refine wp_seq ?_
 refine wp_seq ?_
 have bo:=bn.cast dH
 clear bn
 refine qdb (d:=81) [(2,.v (.bool false)),(7,.p 0 0),(8,.v (.int .i16 v)),(9,.v (.bool (decide (v ≥ 0)))),(10,.p 1 0),(16,.v (.int .i32 (IntKind.i32.wrap (T.at_ 5).N)))] bo (qf2 _ _) Tryz.call139 fun _ _ bp=>?_
 clear bo
 refine qaa ?_
 refine qcP [⟨bv,0,[.int .i16 v,.int .i32 (IntKind.i32.wrap (T.at_ 0).N),.int .i16 (IntKind.i16.wrap (T.at_ 1).N),.pointer ai,.int .i8 aj.n,.string (bs (T.at_ 4).S),.int .i32 (IntKind.i32.wrap (T.at_ 5).N),.slice none 0 0,.int .i32 (-2147483648),.map none],true⟩] 0 [(2,.v (.bool false)),(7,.p 0 0),(8,.v (.int .i16 v)),(9,.v (.bool (decide (v ≥ 0)))),(10,.p 1 0)] bp fun _ _ bq=>?_
 clear bp
 refine qaa ?_
 refine wp_seq ?_
 refine wp_seq ?_
 refine qbQ [(2,.v (.bool false)),(7,.p 0 0),(8,.v (.int .i16 v)),(9,.v (.bool (decide (v ≥ 0)))),(10,.p 1 0),(17,.v (.slice none 0 0))] bq fun _ bt=>?_
 clear bq
 refine qaa ?_
 refine wp_seq ?_
 refine qbQ [(2,.v (.bool false)),(7,.p 0 0),(8,.v (.int .i16 v)),(9,.v (.bool (decide (v ≥ 0)))),(10,.p 1 0),(18,.v (.slice none 0 0))] bt fun _ bu=>?_
 clear bt
 refine qaa ?_
 refine wp_seq ?_
 refine qbQ [(2,.v (.bool false)),(7,.p 0 0),(8,.v (.int .i16 v)),(9,.v (.bool (decide (v ≥ 0)))),(10,.p 1 0),(18,.v (.slice none 0 0))] bu fun _ bw=>?_
 clear bu
 refine qaa ?_
 refine wp_seq ?_
 have bx:=bw.cast dG
 clear bw
 have bz:=bx.cast (t:=(if (decide (v ≥ 0)) = true then (uv ((lst (T.at_ 6)).length + 1)) else (be 4 (lst (T.at_ 6)).length)) ++ (((lst (T.at_ 6)).flatMap (qaC v)) ++ ba)) (by rw [List.append_assoc])
 clear bx
 refine qgp (d1:=92) (d2:=93) [(2,.v (.bool false)),(7,.p 0 0),(8,.v (.int .i16 v)),(9,.v (.bool (decide (v ≥ 0)))),(10,.p 1 0),(18,.v (.slice none 0 0)),(91,.v (.bool (decide (v ≥ 0))))] [(2,.v (.bool false)),(7,.p 0 0),(8,.v (.int .i16 v)),(9,.v (.bool (decide (v ≥ 0)))),(10,.p 1 0),(18,.v (.slice none 0 0)),(19,.v (.int .i32 (((lst (T.at_ 6)).length:Nat):Int)))] bz (qem ((lst (T.at_ 6)).length) e44_6 _ (flat_ge' (qbp v) _)) Tryz.call146 (qiE ((lst (T.at_ 6)).length) e44_6 _ (flat_ge' (qbp v) _)) Tryz.call147 fun _ _ bA=>?_
 clear bz
 refine qaa ?_
 refine wp_seq ?_
 refine wp_seq ?_
 refine qk0 (d:=94) [(2,.v (.bool false)),(7,.p 0 0),(8,.v (.int .i16 v)),(9,.v (.bool (decide (v ≥ 0)))),(10,.p 1 0),(18,.v (.slice none 0 0)),(19,.v (.int .i32 (((lst (T.at_ 6)).length:Nat):Int))),(95,.v (.bool false))] bA (pOk _) Tryz.call148 fun _ _ aJ=>?_
 clear bA
 refine qaa ?_
 refine qar aJ.env_ (b:=false) kz (rfl) ?_
 refine wp_skip ?_
 refine qaa ?_
 refine wp_seq ?_
 refine qj8 (t:=114) (e:=120) (size:=6) (bytes:=56) (d:=98) (A0:=none) (m:=0) (cp:=0) [(2,.v (.bool false)),(7,.p 0 0),(8,.v (.int .i16 v)),(9,.v (.bool (decide (v ≥ 0)))),(10,.p 1 0),(19,.v (.int .i32 (((lst (T.at_ 6)).length:Nat):Int))),(97,.v (.slice none 0 0))] [(2,.v (.bool false)),(7,.p 0 0),(8,.v (.int .i16 v)),(9,.v (.bool (decide (v ≥ 0)))),(10,.p 1 0),(18,.v (.slice none 0 0)),(19,.v (.int .i32 (((lst (T.at_ 6)).length:Nat):Int)))] 1 aJ fun _ bB=>?_
 clear aJ
 refine qaa ?_
 refine qjc (Mid:=fun a_ w_=>∃ (af:DV) (P':qb5),(∀ w F,P' w F → ei w F ∧ (Slots w F 6 af.A af.c af.l (fun i=>[.int .i32 (((af.f i).f 0).n),.string (((af.f i).f 1).s),.int .i32 (((af.f i).f 2).n),.pointer (((af.f i).f 3).A),.bool (((af.f i).f 4).b),.map ((af.f i).m)]) ∧ af.l ≤ 1000000 ∧ ∀ i,i < af.l → qaI w F (af.f i)) ∧ (af.l = (lst (T.at_ 6)).length ∧ ∀ i,i < af.l → qa6 v (af.f i) ((lst (T.at_ 6)).getD i .zero))) ∧ RS w (fun b o=>b = bv ∧ o < 10) F 175 aZ [⟨bv,0,[.int .i16 v,.int .i32 (IntKind.i32.wrap (T.at_ 0).N),.int .i16 (IntKind.i16.wrap (T.at_ 1).N),.pointer ai,.int .i8 aj.n,.string (bs (T.at_ 4).S),.int .i32 (IntKind.i32.wrap (T.at_ 5).N),.slice none 0 0,.int .i32 (-2147483648),.map none],true⟩] [(7,.p 0 0),(9,.v (.bool (decide (v ≥ 0)))),(10,.p 1 0),(18,.v (.slice af.A af.l af.c))] P' ba a_ w_) ?_ ?_
 ·
  refine wp_seq ?_
  refine qbQ [(2,.v (.bool false)),(7,.p 0 0),(8,.v (.int .i16 v)),(9,.v (.bool (decide (v ≥ 0)))),(10,.p 1 0),(18,.v (.slice none 0 0)),(19,.v (.int .i32 (((lst (T.at_ 6)).length:Nat):Int))),(100,.v (.bool (decide ((((lst (T.at_ 6)).length:Nat):Int) > 0))))] bB fun _ ar=>qaa ?_
  clear bB
  refine qaz ar.env_ (b:=decide ((((lst (T.at_ 6)).length:Nat):Int) > 0)) kz (fun aF=>?_) (fun aF=>?_)
  ·
   have hn_g137:0 < (lst (T.at_ 6)).length:=by have h_:=of_decide_eq_true aF; omega
   refine qaq [0,1,2,3] kz ?_
   refine qdI [0,1] [2,3] [(2,.v (.bool false)),(7,.p 0 0),(8,.v (.int .i16 v)),(9,.v (.bool (decide (v ≥ 0)))),(10,.p 1 0),(19,.v (.int .i32 (((lst (T.at_ 6)).length:Nat):Int))),(101,.v (.slice none 0 0)),(102,.v (.int .i32 (((lst (T.at_ 6)).length:Nat):Int)))] ar fun _ bC=>?_
   clear ar
   refine qaj (qhm (A0:=none) (d:=103) (t:=114) (tn:=21) (e:=120) (size:=6) (bytes:=56) (k:=.i32) (kn:=.i32) (q:=(((lst (T.at_ 6)).length:Nat):Int)) (j:=(lst (T.at_ 6)).length) (.agg #[.int .i32 0,.string ByteArray.empty,.int .i32 0,.pointer none,.bool false,.map none]) bC (fun aa ae _ _ hg_g137 hcap_g137 bD=>?_) rfl hn_g137 (by have:=e44_6; omega))
   clear bC
   refine qdI [3] [] [(2,.v (.bool false)),(7,.p 0 0),(8,.v (.int .i16 v)),(9,.v (.bool (decide (v ≥ 0)))),(10,.p 1 0),(18,.v (.slice (some ⟨aa,0,none⟩) ((lst (T.at_ 6)).length) ae)),(19,.v (.int .i32 (((lst (T.at_ 6)).length:Nat):Int)))] bD fun _ bE=>qae ?_
   clear bD
   refine qaa ?_
   refine wp_seq ?_
   refine qbQ [(2,.v (.bool false)),(7,.p 0 0),(8,.v (.int .i16 v)),(9,.v (.bool (decide (v ≥ 0)))),(10,.p 1 0),(18,.v (.slice (some ⟨aa,0,none⟩) ((lst (T.at_ 6)).length) ae)),(19,.v (.int .i32 (((lst (T.at_ 6)).length:Nat):Int))),(20,.v (.int .i32 0))] bE fun _ aK=>?_
   clear bE
   refine qaa ?_
   refine wp_block ?_
   have aL:=aK.mv
   have ej:=(aK.cast (t:=(lst (T.at_ 6)).flatMap (qaC v) ++ ba) rfl).pk (env':=[(2,.v (.bool false)),(7,.p 0 0),(8,.v (.int .i16 v)),(9,.v (.bool (decide (v ≥ 0)))),(10,.p 1 0),(18,.v (.slice (some ⟨aa,0,none⟩) ((lst (T.at_ 6)).length) ae)),(19,.v (.int .i32 (((lst (T.at_ 6)).length:Nat):Int))),(20,.v (.int .i32 ((0:Nat):Int)))])
   clear aK
   refine qj6 (tb:=[⟨bv,0,[.int .i16 v,.int .i32 (IntKind.i32.wrap (T.at_ 0).N),.int .i16 (IntKind.i16.wrap (T.at_ 1).N),.pointer ai,.int .i8 aj.n,.string (bs (T.at_ 4).S),.int .i32 (IntKind.i32.wrap (T.at_ 5).N),.slice none 0 0,.int .i32 (-2147483648),.map none],true⟩]) (z:=.agg #[.int .i32 0,.string ByteArray.empty,.int .i32 0,.pointer none,.bool false,.map none]) (cl:=qbu) (ok:=qaI) (rel:=(qa6 v)) (L:=lst (T.at_ 6)) (size:=6) (qaC v) ba (fun k=>[(2,.v (.bool false)),(7,.p 0 0),(8,.v (.int .i16 v)),(9,.v (.bool (decide (v ≥ 0)))),(10,.p 1 0),(18,.v (.slice (some ⟨aa,0,none⟩) ((lst (T.at_ 6)).length) ae)),(19,.v (.int .i32 (((lst (T.at_ 6)).length:Nat):Int))),(20,.v (.int .i32 ((k:Nat):Int)))]) ej qaR (fun ac ab _ _ aM ek bF=>?_) (fun _ _ bG=>?_)
   ·
    obtain ⟨eV,bH,bI⟩:∃ P',(∀ w F,P' w F → (ei w F ∧ qft aa 6 qbu qaI (qa6 v) (lst (T.at_ 6)) ac w F)) ∧ RS w (fun b o=>b = bv ∧ o < 10) F 175 aZ [⟨bv,0,[.int .i16 v,.int .i32 (IntKind.i32.wrap (T.at_ 0).N),.int .i16 (IntKind.i16.wrap (T.at_ 1).N),.pointer ai,.int .i8 aj.n,.string (bs (T.at_ 4).S),.int .i32 (IntKind.i32.wrap (T.at_ 5).N),.slice none 0 0,.int .i32 (-2147483648),.map none],true⟩,qbD aa 6 (.agg #[.int .i32 0,.string ByteArray.empty,.int .i32 0,.pointer none,.bool false,.map none]) ((lst (T.at_ 6)).length) ac] [(2,.v (.bool false)),(7,.p 0 0),(8,.v (.int .i16 v)),(9,.v (.bool (decide (v ≥ 0)))),(10,.p 1 0),(18,.v (.slice (some ⟨aa,0,none⟩) ((lst (T.at_ 6)).length) ae)),(19,.v (.int .i32 (((lst (T.at_ 6)).length:Nat):Int))),(20,.v (.int .i32 ((ac:Nat):Int)))] P' ((qaC v) ab ++ (((lst (T.at_ 6)).drop (ac + 1)).flatMap (qaC v) ++ ba)) _ _:=⟨_,fun _ _ h=>h,bF⟩
    clear bF
    obtain ⟨aN,bJ⟩:∃ R,R = ((lst (T.at_ 6)).drop (ac + 1)).flatMap (qaC v) ++ ba:=⟨_,rfl⟩
    have em:=(e44_6e ab (List.mem_of_getElem? aM))
    have e156r:=(qhi (qf0 e44r 6) ab (List.mem_of_getElem? aM))
    unfold qa5 at em
    obtain ⟨e156_0,e156_1,e156_2,e156_3,e156_4,e156_U,_⟩:=em
    obtain ⟨aO,bK⟩:∃ R,R = (if (decide (v ≥ 0)) = true then (uv ab.U.length) ++ (qcD ab.U) else []) ++ aN:=⟨_,rfl⟩
    obtain ⟨aU,bL⟩:∃ R,R = (if (decide (v ≥ 2)) = true then [by8 (if (decide ((ab.at_ 4).N % 2 = 1)) then 1 else 0)] else []) ++ aO:=⟨_,rfl⟩
    obtain ⟨eW,bM⟩:∃ R,R = (if (decide (v ≥ 0)) = true then (if (ab.at_ 3).null = true then uv 0 else uv ((qbg (ab.at_ 3)).length + 1) ++ (qbg (ab.at_ 3))) else (if (ab.at_ 3).null = true then be 2 (-1) else be 2 (qbg (ab.at_ 3)).length ++ (qbg (ab.at_ 3)))) ++ aU:=⟨_,rfl⟩
    obtain ⟨eX,bN⟩:∃ R,R = (be 4 ((IntKind.i32.wrap (ab.at_ 2).N))) ++ eW:=⟨_,rfl⟩
    obtain ⟨eY,bO⟩:∃ R,R = (if (decide (v ≥ 0)) = true then (uv ((ab.at_ 1).S.length + 1) ++ (ab.at_ 1).S) else (be 2 (ab.at_ 1).S.length ++ (ab.at_ 1).S)) ++ eX:=⟨_,rfl⟩
    obtain ⟨eZ,bP⟩:∃ R,R = (be 4 ((IntKind.i32.wrap (ab.at_ 0).N))) ++ eY:=⟨_,rfl⟩
    have bQ:=bI.cast (t:=eZ) (by rw [bP,bO,bN,bM,bL,bK,← bJ]; unfold qaC; simp only [List.append_assoc])
    clear bI
    refine wp_seq ?_
    refine wp_seq ?_
    refine qbQ [(2,.v (.bool false)),(7,.p 0 0),(8,.v (.int .i16 v)),(9,.v (.bool (decide (v ≥ 0)))),(10,.p 1 0),(18,.v (.slice (some ⟨aa,0,none⟩) ((lst (T.at_ 6)).length) ae)),(19,.v (.int .i32 (((lst (T.at_ 6)).length:Nat):Int))),(20,.v (.int .i32 ((ac:Nat):Int))),(106,.v (.bool (decide (((ac:Nat):Int) < (((lst (T.at_ 6)).length:Nat):Int)))))] bQ fun _ aP=>qaa ?_
    clear bQ
    refine qbf aP.env_ (b:=decide (((ac:Nat):Int) < (((lst (T.at_ 6)).length:Nat):Int))) kz (decide_eq_true (by omega)) ?_
    refine wp_skip ?_
    refine qaa ?_
    refine wp_seq ?_
    refine wp_block ?_
    refine wp_seq ?_
    refine qj9 (t:=114) (e:=120) (size:=6) (bytes:=56) (d:=111) (tb:=[⟨bv,0,[.int .i16 v,.int .i32 (IntKind.i32.wrap (T.at_ 0).N),.int .i16 (IntKind.i16.wrap (T.at_ 1).N),.pointer ai,.int .i8 aj.n,.string (bs (T.at_ 4).S),.int .i32 (IntKind.i32.wrap (T.at_ 5).N),.slice none 0 0,.int .i32 (-2147483648),.map none],true⟩]) (z:=.agg #[.int .i32 0,.string ByteArray.empty,.int .i32 0,.pointer none,.bool false,.map none]) [(2,.v (.bool false)),(7,.p 0 0),(8,.v (.int .i16 v)),(9,.v (.bool (decide (v ≥ 0)))),(10,.p 1 0),(18,.v (.slice (some ⟨aa,0,none⟩) ((lst (T.at_ 6)).length) ae)),(19,.v (.int .i32 (((lst (T.at_ 6)).length:Nat):Int))),(20,.v (.int .i32 ((ac:Nat):Int))),(109,.v (.slice (some ⟨aa,0,none⟩) ((lst (T.at_ 6)).length) ae)),(110,.v (.int .i32 ((ac:Nat):Int)))] [(2,.v (.bool false)),(7,.p 0 0),(8,.v (.int .i16 v)),(9,.v (.bool (decide (v ≥ 0)))),(10,.p 1 0),(18,.v (.slice (some ⟨aa,0,none⟩) ((lst (T.at_ 6)).length) ae)),(19,.v (.int .i32 (((lst (T.at_ 6)).length:Nat):Int))),(20,.v (.int .i32 ((ac:Nat):Int))),(21,.p 3 0)] 2 aP ek rfl kz fun _ bR=>?_
    clear aP
    have bS:=bR.tbEq (tb':=[⟨bv,0,[.int .i16 v,.int .i32 (IntKind.i32.wrap (T.at_ 0).N),.int .i16 (IntKind.i16.wrap (T.at_ 1).N),.pointer ai,.int .i8 aj.n,.string (bs (T.at_ 4).S),.int .i32 (IntKind.i32.wrap (T.at_ 5).N),.slice none 0 0,.int .i32 (-2147483648),.map none],true⟩,qbD aa 6 (.agg #[.int .i32 0,.string ByteArray.empty,.int .i32 0,.pointer none,.bool false,.map none]) ((lst (T.at_ 6)).length) (ac + 1),⟨aa,ac * 6,[.int .i32 0,.string ByteArray.empty,.int .i32 0,.pointer none,.bool false,.map none],true⟩]) rfl
    clear bR
    refine qaa ?_
    refine wp_seq ?_
    refine qaq [0,1] kz ?_
    refine qdI [0] [1] [(2,.v (.bool false)),(7,.p 0 0),(8,.v (.int .i16 v)),(9,.v (.bool (decide (v ≥ 0)))),(10,.p 1 0),(18,.v (.slice (some ⟨aa,0,none⟩) ((lst (T.at_ 6)).length) ae)),(19,.v (.int .i32 (((lst (T.at_ 6)).length:Nat):Int))),(20,.v (.int .i32 ((ac:Nat):Int))),(21,.p 3 0),(112,.p 3 0)] bS fun _ bT=>?_
    clear bS
    refine qaj (qkA (d:=113) (vs:=[.pointer (some ⟨aa,ac * 6,none⟩)]) bT (fun _=>qkG _ _ _) Tryz.call164 fun _ bU=>?_)
    clear bT
    refine qae ?_
    have bV:=bU.pk (env':=[(2,.v (.bool false)),(7,.p 0 0),(8,.v (.int .i16 v)),(9,.v (.bool (decide (v ≥ 0)))),(10,.p 1 0),(18,.v (.slice (some ⟨aa,0,none⟩) ((lst (T.at_ 6)).length) ae)),(19,.v (.int .i32 (((lst (T.at_ 6)).length:Nat):Int))),(20,.v (.int .i32 ((ac:Nat):Int))),(21,.p 3 0)])
    clear bU
    refine qaa ?_
    refine wp_seq ?_
    refine qbQ [(2,.v (.bool false)),(7,.p 0 0),(8,.v (.int .i16 v)),(9,.v (.bool (decide (v ≥ 0)))),(10,.p 1 0),(18,.v (.slice (some ⟨aa,0,none⟩) ((lst (T.at_ 6)).length) ae)),(19,.v (.int .i32 (((lst (T.at_ 6)).length:Nat):Int))),(20,.v (.int .i32 ((ac:Nat):Int))),(22,.p 3 0)] bV fun _ bW=>?_
    clear bV
    refine qaa ?_
    refine wp_seq ?_
    refine wp_seq ?_
    have bX:=bW.cast bP
    clear bW
    refine qdb (d:=115) [(2,.v (.bool false)),(7,.p 0 0),(8,.v (.int .i16 v)),(9,.v (.bool (decide (v ≥ 0)))),(10,.p 1 0),(18,.v (.slice (some ⟨aa,0,none⟩) ((lst (T.at_ 6)).length) ae)),(19,.v (.int .i32 (((lst (T.at_ 6)).length:Nat):Int))),(20,.v (.int .i32 ((ac:Nat):Int))),(22,.p 3 0),(23,.v (.int .i32 (IntKind.i32.wrap (ab.at_ 0).N)))] bX (qf2 _ _) Tryz.call139 fun _ _ bY=>?_
    clear bX
    refine qaa ?_
    refine qcP [⟨bv,0,[.int .i16 v,.int .i32 (IntKind.i32.wrap (T.at_ 0).N),.int .i16 (IntKind.i16.wrap (T.at_ 1).N),.pointer ai,.int .i8 aj.n,.string (bs (T.at_ 4).S),.int .i32 (IntKind.i32.wrap (T.at_ 5).N),.slice none 0 0,.int .i32 (-2147483648),.map none],true⟩,qbD aa 6 (.agg #[.int .i32 0,.string ByteArray.empty,.int .i32 0,.pointer none,.bool false,.map none]) ((lst (T.at_ 6)).length) (ac + 1),⟨aa,ac * 6,[.int .i32 (IntKind.i32.wrap (ab.at_ 0).N),.string ByteArray.empty,.int .i32 0,.pointer none,.bool false,.map none],true⟩] 2 [(2,.v (.bool false)),(7,.p 0 0),(8,.v (.int .i16 v)),(9,.v (.bool (decide (v ≥ 0)))),(10,.p 1 0),(18,.v (.slice (some ⟨aa,0,none⟩) ((lst (T.at_ 6)).length) ae)),(19,.v (.int .i32 (((lst (T.at_ 6)).length:Nat):Int))),(20,.v (.int .i32 ((ac:Nat):Int))),(22,.p 3 0)] bY fun _ _ bZ=>?_
    clear bY
    refine qaa ?_
    refine wp_seq ?_
    refine wp_seq ?_
    refine qbQ [(2,.v (.bool false)),(7,.p 0 0),(8,.v (.int .i16 v)),(9,.v (.bool (decide (v ≥ 0)))),(10,.p 1 0),(18,.v (.slice (some ⟨aa,0,none⟩) ((lst (T.at_ 6)).length) ae)),(19,.v (.int .i32 (((lst (T.at_ 6)).length:Nat):Int))),(20,.v (.int .i32 ((ac:Nat):Int))),(22,.p 3 0)] bZ fun _ b8=>?_
    clear bZ
    refine qaa ?_
    refine wp_seq ?_
    refine wp_seq ?_
    refine qbQ [(2,.v (.bool false)),(7,.p 0 0),(8,.v (.int .i16 v)),(9,.v (.bool (decide (v ≥ 0)))),(10,.p 1 0),(18,.v (.slice (some ⟨aa,0,none⟩) ((lst (T.at_ 6)).length) ae)),(19,.v (.int .i32 (((lst (T.at_ 6)).length:Nat):Int))),(20,.v (.int .i32 ((ac:Nat):Int))),(22,.p 3 0),(120,.v (.bool false))] b8 fun _ aQ=>qaa ?_
    clear b8
    refine qar aQ.env_ (b:=false) kz (rfl) ?_
    have cd:=aQ.cast bO
    clear aQ
    refine qgp (d1:=125) (d2:=126) [(2,.v (.bool false)),(7,.p 0 0),(8,.v (.int .i16 v)),(9,.v (.bool (decide (v ≥ 0)))),(10,.p 1 0),(18,.v (.slice (some ⟨aa,0,none⟩) ((lst (T.at_ 6)).length) ae)),(19,.v (.int .i32 (((lst (T.at_ 6)).length:Nat):Int))),(20,.v (.int .i32 ((ac:Nat):Int))),(22,.p 3 0),(124,.v (.bool (decide (v ≥ 0))))] [(2,.v (.bool false)),(7,.p 0 0),(8,.v (.int .i16 v)),(9,.v (.bool (decide (v ≥ 0)))),(10,.p 1 0),(18,.v (.slice (some ⟨aa,0,none⟩) ((lst (T.at_ 6)).length) ae)),(19,.v (.int .i32 (((lst (T.at_ 6)).length:Nat):Int))),(20,.v (.int .i32 ((ac:Nat):Int))),(22,.p 3 0),(24,.v (.string (bs (ab.at_ 1).S)))] cd (qdA (ab.at_ 1).S e156_1 _) Tryz.call153 (qiD (ab.at_ 1).S e156_1 _) Tryz.call154 fun _ _ ce=>?_
    clear cd
    refine qaa ?_
    refine qcP [⟨bv,0,[.int .i16 v,.int .i32 (IntKind.i32.wrap (T.at_ 0).N),.int .i16 (IntKind.i16.wrap (T.at_ 1).N),.pointer ai,.int .i8 aj.n,.string (bs (T.at_ 4).S),.int .i32 (IntKind.i32.wrap (T.at_ 5).N),.slice none 0 0,.int .i32 (-2147483648),.map none],true⟩,qbD aa 6 (.agg #[.int .i32 0,.string ByteArray.empty,.int .i32 0,.pointer none,.bool false,.map none]) ((lst (T.at_ 6)).length) (ac + 1),⟨aa,ac * 6,[.int .i32 (IntKind.i32.wrap (ab.at_ 0).N),.string (bs (ab.at_ 1).S),.int .i32 0,.pointer none,.bool false,.map none],true⟩] 2 [(2,.v (.bool false)),(7,.p 0 0),(8,.v (.int .i16 v)),(9,.v (.bool (decide (v ≥ 0)))),(10,.p 1 0),(18,.v (.slice (some ⟨aa,0,none⟩) ((lst (T.at_ 6)).length) ae)),(19,.v (.int .i32 (((lst (T.at_ 6)).length:Nat):Int))),(20,.v (.int .i32 ((ac:Nat):Int))),(22,.p 3 0)] ce fun _ _ cg=>?_
    clear ce
    refine qaa ?_
    refine wp_seq ?_
    refine wp_seq ?_
    have cm:=cg.cast bN
    clear cg
    refine qdb (d:=131) [(2,.v (.bool false)),(7,.p 0 0),(8,.v (.int .i16 v)),(9,.v (.bool (decide (v ≥ 0)))),(10,.p 1 0),(18,.v (.slice (some ⟨aa,0,none⟩) ((lst (T.at_ 6)).length) ae)),(19,.v (.int .i32 (((lst (T.at_ 6)).length:Nat):Int))),(20,.v (.int .i32 ((ac:Nat):Int))),(22,.p 3 0),(25,.v (.int .i32 (IntKind.i32.wrap (ab.at_ 2).N)))] cm (qf2 _ _) Tryz.call139 fun _ _ cq=>?_
    clear cm
    refine qaa ?_
    refine qcP [⟨bv,0,[.int .i16 v,.int .i32 (IntKind.i32.wrap (T.at_ 0).N),.int .i16 (IntKind.i16.wrap (T.at_ 1).N),.pointer ai,.int .i8 aj.n,.string (bs (T.at_ 4).S),.int .i32 (IntKind.i32.wrap (T.at_ 5).N),.slice none 0 0,.int .i32 (-2147483648),.map none],true⟩,qbD aa 6 (.agg #[.int .i32 0,.string ByteArray.empty,.int .i32 0,.pointer none,.bool false,.map none]) ((lst (T.at_ 6)).length) (ac + 1),⟨aa,ac * 6,[.int .i32 (IntKind.i32.wrap (ab.at_ 0).N),.string (bs (ab.at_ 1).S),.int .i32 (IntKind.i32.wrap (ab.at_ 2).N),.pointer none,.bool false,.map none],true⟩] 2 [(2,.v (.bool false)),(7,.p 0 0),(8,.v (.int .i16 v)),(9,.v (.bool (decide (v ≥ 0)))),(10,.p 1 0),(18,.v (.slice (some ⟨aa,0,none⟩) ((lst (T.at_ 6)).length) ae)),(19,.v (.int .i32 (((lst (T.at_ 6)).length:Nat):Int))),(20,.v (.int .i32 ((ac:Nat):Int))),(22,.p 3 0)] cq fun _ _ cr=>?_
    clear cq
    refine qaa ?_
    refine wp_seq ?_
    refine wp_seq ?_
    refine qbQ [(2,.v (.bool false)),(7,.p 0 0),(8,.v (.int .i16 v)),(9,.v (.bool (decide (v ≥ 0)))),(10,.p 1 0),(18,.v (.slice (some ⟨aa,0,none⟩) ((lst (T.at_ 6)).length) ae)),(19,.v (.int .i32 (((lst (T.at_ 6)).length:Nat):Int))),(20,.v (.int .i32 ((ac:Nat):Int))),(22,.p 3 0)] cr fun _ cu=>?_
    clear cr
    refine qaa ?_
    refine wp_seq ?_
    have cw:=cu.cast bM
    clear cu
    refine qdt (Mid:=fun a_ w_=>∃ (ak:Option Addr) (P':qb5),(∀ w F,P' w F → eV w F ∧ qix ak (qbg (ab.at_ 3)) w F ∧ ak.isNone = (ab.at_ 3).null) ∧ RS w (fun b o=>b = bv ∧ o < 10) F 175 aZ [⟨bv,0,[.int .i16 v,.int .i32 (IntKind.i32.wrap (T.at_ 0).N),.int .i16 (IntKind.i16.wrap (T.at_ 1).N),.pointer ai,.int .i8 aj.n,.string (bs (T.at_ 4).S),.int .i32 (IntKind.i32.wrap (T.at_ 5).N),.slice none 0 0,.int .i32 (-2147483648),.map none],true⟩,qbD aa 6 (.agg #[.int .i32 0,.string ByteArray.empty,.int .i32 0,.pointer none,.bool false,.map none]) ((lst (T.at_ 6)).length) (ac + 1),⟨aa,ac * 6,[.int .i32 (IntKind.i32.wrap (ab.at_ 0).N),.string (bs (ab.at_ 1).S),.int .i32 (IntKind.i32.wrap (ab.at_ 2).N),.pointer none,.bool false,.map none],true⟩] [(2,.v (.bool false)),(7,.p 0 0),(8,.v (.int .i16 v)),(9,.v (.bool (decide (v ≥ 0)))),(10,.p 1 0),(18,.v (.slice (some ⟨aa,0,none⟩) ((lst (T.at_ 6)).length) ae)),(19,.v (.int .i32 (((lst (T.at_ 6)).length:Nat):Int))),(20,.v (.int .i32 ((ac:Nat):Int))),(22,.p 3 0),(26,.v (.pointer ak))] P' aU a_ w_) ?_ ?_
    ·
     refine wp_seq ?_
     refine qbQ [(2,.v (.bool false)),(7,.p 0 0),(8,.v (.int .i16 v)),(9,.v (.bool (decide (v ≥ 0)))),(10,.p 1 0),(18,.v (.slice (some ⟨aa,0,none⟩) ((lst (T.at_ 6)).length) ae)),(19,.v (.int .i32 (((lst (T.at_ 6)).length:Nat):Int))),(20,.v (.int .i32 ((ac:Nat):Int))),(22,.p 3 0),(136,.v (.bool (decide (v ≥ 0))))] cw fun _ au=>qaa ?_
     clear cw
     refine qaz au.env_ (b:=decide (v ≥ 0)) kz (fun aR=>?_) (fun aR=>?_)
     ·
      have cz:=au.cast (t:=(if (ab.at_ 3).null = true then uv 0 else uv ((qbg (ab.at_ 3)).length + 1) ++ (qbg (ab.at_ 3))) ++ aU) (by rw [if_pos aR])
      clear au
      refine wp_seq ?_
      refine qbQ [(2,.v (.bool false)),(7,.p 0 0),(8,.v (.int .i16 v)),(9,.v (.bool (decide (v ≥ 0)))),(10,.p 1 0),(18,.v (.slice (some ⟨aa,0,none⟩) ((lst (T.at_ 6)).length) ae)),(19,.v (.int .i32 (((lst (T.at_ 6)).length:Nat):Int))),(20,.v (.int .i32 ((ac:Nat):Int))),(22,.p 3 0),(137,.v (.bool false))] cz fun _ aS=>qaa ?_
      clear cz
      refine qar aS.env_ (b:=false) kz (rfl) ?_
      refine qja (d:=139) (fun aV=>[(2,.v (.bool false)),(7,.p 0 0),(8,.v (.int .i16 v)),(9,.v (.bool (decide (v ≥ 0)))),(10,.p 1 0),(18,.v (.slice (some ⟨aa,0,none⟩) ((lst (T.at_ 6)).length) ae)),(19,.v (.int .i32 (((lst (T.at_ 6)).length:Nat):Int))),(20,.v (.int .i32 ((ac:Nat):Int))),(22,.p 3 0),(26,.v (.pointer aV))]) aS (qb7 (ab.at_ 3).null (qbg (ab.at_ 3)) e156_3 _) (fun _=>(MvF.text _ _).and (MvF.is _)) Tryz.call143 fun aV fx _ _ cA eo=>?_
      clear aS
      refine qaa ?_
      exact ⟨aV,_,fun w F h_=>⟨(cA _ _ h_).1,(cA _ _ h_).2⟩,eo.pk (env':=[(2,.v (.bool false)),(7,.p 0 0),(8,.v (.int .i16 v)),(9,.v (.bool (decide (v ≥ 0)))),(10,.p 1 0),(18,.v (.slice (some ⟨aa,0,none⟩) ((lst (T.at_ 6)).length) ae)),(19,.v (.int .i32 (((lst (T.at_ 6)).length:Nat):Int))),(20,.v (.int .i32 ((ac:Nat):Int))),(22,.p 3 0),(26,.v (.pointer aV))])⟩
     have cB:=au.cast (t:=(if (ab.at_ 3).null = true then be 2 (-1) else be 2 (qbg (ab.at_ 3)).length ++ (qbg (ab.at_ 3))) ++ aU) (by rw [if_neg (by rw [aR]; decide)])
     clear au
     refine wp_seq ?_
     refine qbQ [(2,.v (.bool false)),(7,.p 0 0),(8,.v (.int .i16 v)),(9,.v (.bool (decide (v ≥ 0)))),(10,.p 1 0),(18,.v (.slice (some ⟨aa,0,none⟩) ((lst (T.at_ 6)).length) ae)),(19,.v (.int .i32 (((lst (T.at_ 6)).length:Nat):Int))),(20,.v (.int .i32 ((ac:Nat):Int))),(22,.p 3 0),(140,.v (.bool false))] cB fun _ aT=>qaa ?_
     clear cB
     refine qar aT.env_ (b:=false) kz (rfl) ?_
     refine qja (d:=142) (fun aW=>[(2,.v (.bool false)),(7,.p 0 0),(8,.v (.int .i16 v)),(9,.v (.bool (decide (v ≥ 0)))),(10,.p 1 0),(18,.v (.slice (some ⟨aa,0,none⟩) ((lst (T.at_ 6)).length) ae)),(19,.v (.int .i32 (((lst (T.at_ 6)).length:Nat):Int))),(20,.v (.int .i32 ((ac:Nat):Int))),(22,.p 3 0),(26,.v (.pointer aW))]) aT (qdc (ab.at_ 3).null (qbg (ab.at_ 3)) e156_3 _) (fun _=>(MvF.text _ _).and (MvF.is _)) Tryz.call145 fun aW fy _ _ cC ep=>?_
     clear aT
     refine qaa ?_
     exact ⟨aW,_,fun w F h_=>⟨(cC _ _ h_).1,(cC _ _ h_).2⟩,ep.pk (env':=[(2,.v (.bool false)),(7,.p 0 0),(8,.v (.int .i16 v)),(9,.v (.bool (decide (v ≥ 0)))),(10,.p 1 0),(18,.v (.slice (some ⟨aa,0,none⟩) ((lst (T.at_ 6)).length) ae)),(19,.v (.int .i32 (((lst (T.at_ 6)).length:Nat):Int))),(20,.v (.int .i32 ((ac:Nat):Int))),(22,.p 3 0),(26,.v (.pointer aW))])⟩
    rintro _ _ ⟨ak,e9,aG,cD⟩
    refine qaa ?_
    refine qcP [⟨bv,0,[.int .i16 v,.int .i32 (IntKind.i32.wrap (T.at_ 0).N),.int .i16 (IntKind.i16.wrap (T.at_ 1).N),.pointer ai,.int .i8 aj.n,.string (bs (T.at_ 4).S),.int .i32 (IntKind.i32.wrap (T.at_ 5).N),.slice none 0 0,.int .i32 (-2147483648),.map none],true⟩,qbD aa 6 (.agg #[.int .i32 0,.string ByteArray.empty,.int .i32 0,.pointer none,.bool false,.map none]) ((lst (T.at_ 6)).length) (ac + 1),⟨aa,ac * 6,[.int .i32 (IntKind.i32.wrap (ab.at_ 0).N),.string (bs (ab.at_ 1).S),.int .i32 (IntKind.i32.wrap (ab.at_ 2).N),.pointer ak,.bool false,.map none],true⟩] 2 [(2,.v (.bool false)),(7,.p 0 0),(8,.v (.int .i16 v)),(9,.v (.bool (decide (v ≥ 0)))),(10,.p 1 0),(18,.v (.slice (some ⟨aa,0,none⟩) ((lst (T.at_ 6)).length) ae)),(19,.v (.int .i32 (((lst (T.at_ 6)).length:Nat):Int))),(20,.v (.int .i32 ((ac:Nat):Int))),(22,.p 3 0)] cD fun _ _ cE=>?_
    clear cD
    refine qaa ?_
    refine wp_seq ?_
    have cG:=cE.cast bL
    clear cE
    refine qdt (Mid:=fun a_ w_=>∃ (aB:DV) (P':qb5),(∀ w F,P' w F → e9 w F ∧ (True) ∧ ((decide (v ≥ 2)) = true → aB.b = decide ((ab.at_ 4).N % 2 = 1)) ∧ ((decide (v ≥ 2)) = false → aB.b = false)) ∧ RS w (fun b o=>b = bv ∧ o < 10) F 175 aZ [⟨bv,0,[.int .i16 v,.int .i32 (IntKind.i32.wrap (T.at_ 0).N),.int .i16 (IntKind.i16.wrap (T.at_ 1).N),.pointer ai,.int .i8 aj.n,.string (bs (T.at_ 4).S),.int .i32 (IntKind.i32.wrap (T.at_ 5).N),.slice none 0 0,.int .i32 (-2147483648),.map none],true⟩,qbD aa 6 (.agg #[.int .i32 0,.string ByteArray.empty,.int .i32 0,.pointer none,.bool false,.map none]) ((lst (T.at_ 6)).length) (ac + 1),⟨aa,ac * 6,[.int .i32 (IntKind.i32.wrap (ab.at_ 0).N),.string (bs (ab.at_ 1).S),.int .i32 (IntKind.i32.wrap (ab.at_ 2).N),.pointer ak,.bool aB.b,.map none],true⟩] [(2,.v (.bool false)),(7,.p 0 0),(8,.v (.int .i16 v)),(9,.v (.bool (decide (v ≥ 0)))),(10,.p 1 0),(18,.v (.slice (some ⟨aa,0,none⟩) ((lst (T.at_ 6)).length) ae)),(19,.v (.int .i32 (((lst (T.at_ 6)).length:Nat):Int))),(20,.v (.int .i32 ((ac:Nat):Int))),(22,.p 3 0)] P' aO a_ w_) ?_ ?_
    ·
     refine wp_seq ?_
     refine qbQ [(2,.v (.bool false)),(7,.p 0 0),(8,.v (.int .i16 v)),(9,.v (.bool (decide (v ≥ 0)))),(10,.p 1 0),(18,.v (.slice (some ⟨aa,0,none⟩) ((lst (T.at_ 6)).length) ae)),(19,.v (.int .i32 (((lst (T.at_ 6)).length:Nat):Int))),(20,.v (.int .i32 ((ac:Nat):Int))),(22,.p 3 0),(148,.v (.bool (decide (v ≥ 2))))] cG fun _ av=>qaa ?_
     clear cG
     refine qaz av.env_ (b:=decide (v ≥ 2)) kz (fun aw=>?_) (fun aw=>?_)
     ·
      have cH:=av.cast (t:=[by8 (if (decide ((ab.at_ 4).N % 2 = 1)) then 1 else 0)] ++ aO) (by rw [if_pos aw])
      clear av
      refine wp_seq ?_
      refine qdb (d:=149) [(2,.v (.bool false)),(7,.p 0 0),(8,.v (.int .i16 v)),(9,.v (.bool (decide (v ≥ 0)))),(10,.p 1 0),(18,.v (.slice (some ⟨aa,0,none⟩) ((lst (T.at_ 6)).length) ae)),(19,.v (.int .i32 (((lst (T.at_ 6)).length:Nat):Int))),(20,.v (.int .i32 ((ac:Nat):Int))),(22,.p 3 0),(27,.v (.bool (decide ((ab.at_ 4).N % 2 = 1))))] cH (qk2 _ _) Tryz.call140 fun _ _ cI=>?_
      clear cH
      refine qaa ?_
      refine qcP [⟨bv,0,[.int .i16 v,.int .i32 (IntKind.i32.wrap (T.at_ 0).N),.int .i16 (IntKind.i16.wrap (T.at_ 1).N),.pointer ai,.int .i8 aj.n,.string (bs (T.at_ 4).S),.int .i32 (IntKind.i32.wrap (T.at_ 5).N),.slice none 0 0,.int .i32 (-2147483648),.map none],true⟩,qbD aa 6 (.agg #[.int .i32 0,.string ByteArray.empty,.int .i32 0,.pointer none,.bool false,.map none]) ((lst (T.at_ 6)).length) (ac + 1),⟨aa,ac * 6,[.int .i32 (IntKind.i32.wrap (ab.at_ 0).N),.string (bs (ab.at_ 1).S),.int .i32 (IntKind.i32.wrap (ab.at_ 2).N),.pointer ak,.bool (decide ((ab.at_ 4).N % 2 = 1)),.map none],true⟩] 2 [(2,.v (.bool false)),(7,.p 0 0),(8,.v (.int .i16 v)),(9,.v (.bool (decide (v ≥ 0)))),(10,.p 1 0),(18,.v (.slice (some ⟨aa,0,none⟩) ((lst (T.at_ 6)).length) ae)),(19,.v (.int .i32 (((lst (T.at_ 6)).length:Nat):Int))),(20,.v (.int .i32 ((ac:Nat):Int))),(22,.p 3 0)] cI fun _ _ eu=>?_
      clear cI
      refine qaa ?_
      exact ⟨dvB (decide ((ab.at_ 4).N % 2 = 1)),_,fun w F h_=>⟨h_,trivial,⟨fun _=>rfl,(fun e_=>by rw [aw] at e_; cases e_)⟩⟩,eu.pk (env':=[(2,.v (.bool false)),(7,.p 0 0),(8,.v (.int .i16 v)),(9,.v (.bool (decide (v ≥ 0)))),(10,.p 1 0),(18,.v (.slice (some ⟨aa,0,none⟩) ((lst (T.at_ 6)).length) ae)),(19,.v (.int .i32 (((lst (T.at_ 6)).length:Nat):Int))),(20,.v (.int .i32 ((ac:Nat):Int))),(22,.p 3 0)])⟩
     have cJ:=av.cast (t:=[] ++ aO) (by rw [if_neg (by rw [aw]; decide)])
     clear av
     have ev:=cJ.cast (t:=aO) rfl
     clear cJ
     refine wp_skip (qaa ?_)
     exact ⟨dvB false,_,fun w F h_=>⟨h_,trivial,⟨(fun e_=>by rw [aw] at e_; cases e_),fun _=>rfl⟩⟩,ev.pk (env':=[(2,.v (.bool false)),(7,.p 0 0),(8,.v (.int .i16 v)),(9,.v (.bool (decide (v ≥ 0)))),(10,.p 1 0),(18,.v (.slice (some ⟨aa,0,none⟩) ((lst (T.at_ 6)).length) ae)),(19,.v (.int .i32 (((lst (T.at_ 6)).length:Nat):Int))),(20,.v (.int .i32 ((ac:Nat):Int))),(22,.p 3 0)])⟩
    rintro _ _ ⟨aB,fa,al,cK⟩
    refine qaa ?_
    have cL:=cK.cast bK
    clear cK
    refine qdt (Mid:=fun a_ w_=>∃ (aX:Option Nat) (aC:List (Int × Bs)) (P':qb5),(∀ w F,P' w F → fa w F ∧ (MapR w F aX aC ∧ aC.length ≤ 1000000 ∧ ∀ x ∈ aC,x.2.length < 4294967296) ∧ ((decide (v ≥ 0)) = true → aC = ab.U) ∧ ((decide (v ≥ 0)) = false → aC = [])) ∧ RS w (fun b o=>b = bv ∧ o < 10) F 175 aZ [⟨bv,0,[.int .i16 v,.int .i32 (IntKind.i32.wrap (T.at_ 0).N),.int .i16 (IntKind.i16.wrap (T.at_ 1).N),.pointer ai,.int .i8 aj.n,.string (bs (T.at_ 4).S),.int .i32 (IntKind.i32.wrap (T.at_ 5).N),.slice none 0 0,.int .i32 (-2147483648),.map none],true⟩,qbD aa 6 (.agg #[.int .i32 0,.string ByteArray.empty,.int .i32 0,.pointer none,.bool false,.map none]) ((lst (T.at_ 6)).length) (ac + 1),⟨aa,ac * 6,[.int .i32 (IntKind.i32.wrap (ab.at_ 0).N),.string (bs (ab.at_ 1).S),.int .i32 (IntKind.i32.wrap (ab.at_ 2).N),.pointer ak,.bool aB.b,.map aX],true⟩] [(2,.v (.bool false)),(7,.p 0 0),(8,.v (.int .i16 v)),(9,.v (.bool (decide (v ≥ 0)))),(10,.p 1 0),(18,.v (.slice (some ⟨aa,0,none⟩) ((lst (T.at_ 6)).length) ae)),(19,.v (.int .i32 (((lst (T.at_ 6)).length:Nat):Int))),(20,.v (.int .i32 ((ac:Nat):Int)))] P' aN a_ w_) ?_ ?_
    ·
     refine wp_seq ?_
     refine qbQ [(2,.v (.bool false)),(7,.p 0 0),(8,.v (.int .i16 v)),(9,.v (.bool (decide (v ≥ 0)))),(10,.p 1 0),(18,.v (.slice (some ⟨aa,0,none⟩) ((lst (T.at_ 6)).length) ae)),(19,.v (.int .i32 (((lst (T.at_ 6)).length:Nat):Int))),(20,.v (.int .i32 ((ac:Nat):Int))),(22,.p 3 0),(154,.v (.bool (decide (v ≥ 0))))] cL fun _ ax=>qaa ?_
     clear cL
     refine qaz ax.env_ (b:=decide (v ≥ 0)) kz (fun ay=>?_) (fun ay=>?_)
     ·
      have cM:=ax.cast (t:=((uv ab.U.length) ++ (qcD ab.U)) ++ aN) (by rw [if_pos ay])
      clear ax
      refine qaq [0,1,2,3,4] kz ?_
      refine qdI [0] [1,2,3,4] [(2,.v (.bool false)),(7,.p 0 0),(8,.v (.int .i16 v)),(9,.v (.bool (decide (v ≥ 0)))),(10,.p 1 0),(18,.v (.slice (some ⟨aa,0,none⟩) ((lst (T.at_ 6)).length) ae)),(19,.v (.int .i32 (((lst (T.at_ 6)).length:Nat):Int))),(20,.v (.int .i32 ((ac:Nat):Int))),(155,.p 3 0)] cM fun _ cN=>?_
      clear cM
      refine qaj (qgn (d:=156) cN (qkC ab.U e156_U (qfp e156r) _) (fun _=>MvF.tags _ _) Tryz.call156 fun dz fz _ _ cO cP=>?_)
      clear cN
      refine qdI [2,3] [4] [(2,.v (.bool false)),(7,.p 0 0),(8,.v (.int .i16 v)),(9,.v (.bool (decide (v ≥ 0)))),(10,.p 1 0),(18,.v (.slice (some ⟨aa,0,none⟩) ((lst (T.at_ 6)).length) ae)),(19,.v (.int .i32 (((lst (T.at_ 6)).length:Nat):Int))),(20,.v (.int .i32 ((ac:Nat):Int))),(156,.v (.agg #[.map dz])),(158,.p 3 5)] cP fun _ cQ=>?_
      clear cP
      refine qaj (qgQ [⟨bv,0,[.int .i16 v,.int .i32 (IntKind.i32.wrap (T.at_ 0).N),.int .i16 (IntKind.i16.wrap (T.at_ 1).N),.pointer ai,.int .i8 aj.n,.string (bs (T.at_ 4).S),.int .i32 (IntKind.i32.wrap (T.at_ 5).N),.slice none 0 0,.int .i32 (-2147483648),.map none],true⟩,qbD aa 6 (.agg #[.int .i32 0,.string ByteArray.empty,.int .i32 0,.pointer none,.bool false,.map none]) ((lst (T.at_ 6)).length) (ac + 1),⟨aa,ac * 6,[.int .i32 (IntKind.i32.wrap (ab.at_ 0).N),.string (bs (ab.at_ 1).S),.int .i32 (IntKind.i32.wrap (ab.at_ 2).N),.pointer ak,.bool aB.b,.map dz],true⟩] 2 cQ fun _ cR=>?_)
      clear cQ
      refine qae ?_
      have ew:=cR.pk (env':=[(2,.v (.bool false)),(7,.p 0 0),(8,.v (.int .i16 v)),(9,.v (.bool (decide (v ≥ 0)))),(10,.p 1 0),(18,.v (.slice (some ⟨aa,0,none⟩) ((lst (T.at_ 6)).length) ae)),(19,.v (.int .i32 (((lst (T.at_ 6)).length:Nat):Int))),(20,.v (.int .i32 ((ac:Nat):Int)))])
      clear cR
      refine qaa ?_
      exact ⟨dz,ab.U,_,fun w F h_=>⟨(cO _ _ h_).1,⟨(cO _ _ h_).2,e156_U.2.1,e156_U.2.2⟩,⟨fun _=>rfl,(fun e_=>by rw [ay] at e_; cases e_)⟩⟩,ew.pk (env':=[(2,.v (.bool false)),(7,.p 0 0),(8,.v (.int .i16 v)),(9,.v (.bool (decide (v ≥ 0)))),(10,.p 1 0),(18,.v (.slice (some ⟨aa,0,none⟩) ((lst (T.at_ 6)).length) ae)),(19,.v (.int .i32 (((lst (T.at_ 6)).length:Nat):Int))),(20,.v (.int .i32 ((ac:Nat):Int)))])⟩
     have cS:=ax.cast (t:=[] ++ aN) (by rw [if_neg (by rw [ay]; decide)])
     clear ax
     have ey:=cS.cast (t:=aN) rfl
     clear cS
     refine wp_skip (qaa ?_)
     exact ⟨none,[],_,fun w F h_=>⟨h_,⟨MapR.nil _ _,Nat.zero_le _,fun _ h=>by cases h⟩,⟨(fun e_=>by rw [ay] at e_; cases e_),fun _=>rfl⟩⟩,ey.pk (env':=[(2,.v (.bool false)),(7,.p 0 0),(8,.v (.int .i16 v)),(9,.v (.bool (decide (v ≥ 0)))),(10,.p 1 0),(18,.v (.slice (some ⟨aa,0,none⟩) ((lst (T.at_ 6)).length) ae)),(19,.v (.int .i32 (((lst (T.at_ 6)).length:Nat):Int))),(20,.v (.int .i32 ((ac:Nat):Int)))])⟩
    rintro _ _ ⟨aX,aC,fA,ag,cT⟩
    refine qav ?_
    refine qaa ?_
    refine qbQ [(2,.v (.bool false)),(7,.p 0 0),(8,.v (.int .i16 v)),(9,.v (.bool (decide (v ≥ 0)))),(10,.p 1 0),(18,.v (.slice (some ⟨aa,0,none⟩) ((lst (T.at_ 6)).length) ae)),(19,.v (.int .i32 (((lst (T.at_ 6)).length:Nat):Int))),(20,.v (.int .i32 (IntKind.i32.wrap (((ac:Nat):Int) + 1))))] cT fun _ cU=>?_
    clear cT
    refine qaa ?_
    have ez:=(cU.envEq (env':=[(2,.v (.bool false)),(7,.p 0 0),(8,.v (.int .i16 v)),(9,.v (.bool (decide (v ≥ 0)))),(10,.p 1 0),(18,.v (.slice (some ⟨aa,0,none⟩) ((lst (T.at_ 6)).length) ae)),(19,.v (.int .i32 (((lst (T.at_ 6)).length:Nat):Int))),(20,.v (.int .i32 ((ac + 1:Nat):Int)))]) (by rw [qjd (by have:=e44_6; omega)])).pk (env':=[(2,.v (.bool false)),(7,.p 0 0),(8,.v (.int .i16 v)),(9,.v (.bool (decide (v ≥ 0)))),(10,.p 1 0),(18,.v (.slice (some ⟨aa,0,none⟩) ((lst (T.at_ 6)).length) ae)),(19,.v (.int .i32 (((lst (T.at_ 6)).length:Nat):Int))),(20,.v (.int .i32 ((ac + 1:Nat):Int)))])
    clear cU
    exact (RS.thing (tb:=[⟨bv,0,[.int .i16 v,.int .i32 (IntKind.i32.wrap (T.at_ 0).N),.int .i16 (IntKind.i16.wrap (T.at_ 1).N),.pointer ai,.int .i8 aj.n,.string (bs (T.at_ 4).S),.int .i32 (IntKind.i32.wrap (T.at_ 5).N),.slice none 0 0,.int .i32 (-2147483648),.map none],true⟩]) (z:=.agg #[.int .i32 0,.string ByteArray.empty,.int .i32 0,.pointer none,.bool false,.map none]) (D:=(dvP aX aC [dvN (IntKind.i32.wrap (ab.at_ 0).N),dvS (bs (ab.at_ 1).S),dvN (IntKind.i32.wrap (ab.at_ 2).N),dvT ak (bs (qbg (ab.at_ 3))),aB])) (ez.cast bJ) hg_g137 aM qaR aL rfl (fun w F h_=>⟨(bH _ _ (aG _ _ (al _ _ (ag _ _ h_).1).1).1).1,(bH _ _ (aG _ _ (al _ _ (ag _ _ h_).1).1).1).2,⟨(trivial),(by show ByteArray.size (bs _) ≤ 1000000; rw [qfo]; exact Nat.le_trans e156_1 (by decide)),(trivial),(⟨(aG _ _ (al _ _ (ag _ _ h_).1).1).2.1,by show ByteArray.size (bs _) ≤ 1000000; rw [qfo]; exact Nat.le_trans e156_3 (by decide)⟩),((al _ _ (ag _ _ h_).1).2.1),(ag _ _ h_).2.1.1,(ag _ _ h_).2.1.2.1,(ag _ _ h_).2.1.2.2,trivial⟩,⟨(rfl),(rfl),(rfl),(⟨rfl,(aG _ _ (al _ _ (ag _ _ h_).1).1).2.2⟩),((al _ _ (ag _ _ h_).1).2.2),(ag _ _ h_).2.2,trivial⟩⟩) kz)
   refine wp_seq ?_
   refine wp_seq ?_
   refine qbQ [(2,.v (.bool false)),(7,.p 0 0),(8,.v (.int .i16 v)),(9,.v (.bool (decide (v ≥ 0)))),(10,.p 1 0),(18,.v (.slice (some ⟨aa,0,none⟩) ((lst (T.at_ 6)).length) ae)),(19,.v (.int .i32 (((lst (T.at_ 6)).length:Nat):Int))),(20,.v (.int .i32 (((lst (T.at_ 6)).length:Nat):Int))),(106,.v (.bool (decide ((((lst (T.at_ 6)).length:Nat):Int) < (((lst (T.at_ 6)).length:Nat):Int)))))] bG fun _ cV=>qaa ?_
   clear bG
   refine qar cV.env_ (b:=decide ((((lst (T.at_ 6)).length:Nat):Int) < (((lst (T.at_ 6)).length:Nat):Int))) kz (decide_eq_false (by omega)) ?_
   refine wp_exit ?_
   refine qau ?_
   refine qau ?_
   refine qaM ?_
   refine qaa ?_
   obtain ⟨fb,eB⟩:=RS.listEnd (tb:=[⟨bv,0,[.int .i16 v,.int .i32 (IntKind.i32.wrap (T.at_ 0).N),.int .i16 (IntKind.i16.wrap (T.at_ 1).N),.pointer ai,.int .i8 aj.n,.string (bs (T.at_ 4).S),.int .i32 (IntKind.i32.wrap (T.at_ 5).N),.slice none 0 0,.int .i32 (-2147483648),.map none],true⟩]) (c:=ae) (cV.pk (env':=[(7,.p 0 0),(9,.v (.bool (decide (v ≥ 0)))),(10,.p 1 0),(18,.v (.slice (some ⟨aa,0,none⟩) ((lst (T.at_ 6)).length) ae))])) hg_g137 qaR aL hcap_g137 (by have:=e44_6; omega) hn_g137 kz
   exact ⟨dvL (some ⟨aa,0,none⟩) (lst (T.at_ 6)).length ae fb,_,fun w F h_=>⟨h_.1,⟨h_.2.1,Nat.le_trans e44_6 (by decide),h_.2.2.1⟩,⟨rfl,h_.2.2.2⟩⟩,eB⟩
  refine wp_skip ?_
  refine qaa ?_
  refine wp_seq ?_
  refine qbQ [(2,.v (.bool false)),(7,.p 0 0),(8,.v (.int .i16 v)),(9,.v (.bool (decide (v ≥ 0)))),(10,.p 1 0),(18,.v (.slice none 0 0)),(19,.v (.int .i32 (((lst (T.at_ 6)).length:Nat):Int))),(20,.v (.int .i32 0))] ar fun _ cW=>?_
  clear ar
  refine qaa ?_
  refine wp_block ?_
  refine qgR ?_
  refine wp_seq ?_
  refine wp_seq ?_
  refine qbQ [(2,.v (.bool false)),(7,.p 0 0),(8,.v (.int .i16 v)),(9,.v (.bool (decide (v ≥ 0)))),(10,.p 1 0),(18,.v (.slice none 0 0)),(19,.v (.int .i32 (((lst (T.at_ 6)).length:Nat):Int))),(20,.v (.int .i32 0)),(106,.v (.bool (decide (0 < (((lst (T.at_ 6)).length:Nat):Int)))))] cW fun _ cX=>qaa ?_
  clear cW
  refine qar cX.env_ (b:=decide (0 < (((lst (T.at_ 6)).length:Nat):Int))) kz (decide_eq_false (by have h_:=of_decide_eq_false aF; omega)) ?_
  refine wp_exit ?_
  refine qau ?_
  refine qau ?_
  refine qaM ?_
  refine qaa ?_
  have hz_:(lst (T.at_ 6)).length = 0:=by have h_:=of_decide_eq_false aF; omega
  exact ⟨dvL none 0 0 (fun _=>dv0),_,fun w F h_=>⟨h_,⟨Slots.nil _ _ _ _,Nat.zero_le _,fun _ h=>absurd h (Nat.not_lt_zero _)⟩,⟨hz_.symm,fun _ h=>absurd h (Nat.not_lt_zero _)⟩⟩,(cX.cast (t:=ba) (by rw [List.eq_nil_of_length_eq_zero hz_]; rfl)).pk (env':=[(7,.p 0 0),(9,.v (.bool (decide (v ≥ 0)))),(10,.p 1 0),(18,.v (.slice none 0 0))])⟩
 rintro _ _ ⟨af,fe,am,cY⟩
 refine wp_seq ?_
 refine qbQ [(7,.p 0 0),(9,.v (.bool (decide (v ≥ 0)))),(10,.p 1 0),(17,.v (.slice af.A af.l af.c))] cY fun _ cZ=>?_
 clear cY
 refine qaa ?_
 refine qcP [⟨bv,0,[.int .i16 v,.int .i32 (IntKind.i32.wrap (T.at_ 0).N),.int .i16 (IntKind.i16.wrap (T.at_ 1).N),.pointer ai,.int .i8 aj.n,.string (bs (T.at_ 4).S),.int .i32 (IntKind.i32.wrap (T.at_ 5).N),.slice af.A af.l af.c,.int .i32 (-2147483648),.map none],true⟩] 0 [(7,.p 0 0),(9,.v (.bool (decide (v ≥ 0)))),(10,.p 1 0)] cZ fun _ _ c5=>?_
 clear cZ
 refine qaa ?_
 refine wp_seq ?_
 refine wp_seq ?_
 have c6:=c5.cast dF
 clear c5
 refine qdb (d:=164) [(7,.p 0 0),(9,.v (.bool (decide (v ≥ 0)))),(10,.p 1 0),(28,.v (.int .i32 (IntKind.i32.wrap (T.at_ 7).N)))] c6 (qf2 _ _) Tryz.call139 fun _ _ da=>?_
 clear c6
 refine qaa ?_
 refine qcP [⟨bv,0,[.int .i16 v,.int .i32 (IntKind.i32.wrap (T.at_ 0).N),.int .i16 (IntKind.i16.wrap (T.at_ 1).N),.pointer ai,.int .i8 aj.n,.string (bs (T.at_ 4).S),.int .i32 (IntKind.i32.wrap (T.at_ 5).N),.slice af.A af.l af.c,.int .i32 (IntKind.i32.wrap (T.at_ 7).N),.map none],true⟩] 0 [(7,.p 0 0),(9,.v (.bool (decide (v ≥ 0)))),(10,.p 1 0)] da fun _ _ db=>?_
 clear da
 refine qaa ?_
 refine wp_seq ?_
 have dc:=db.cast dE
 clear db
 refine qdt (Mid:=fun a_ w_=>∃ (aY:Option Nat) (aD:List (Int × Bs)) (P':qb5),(∀ w F,P' w F → fe w F ∧ (MapR w F aY aD ∧ aD.length ≤ 1000000 ∧ ∀ x ∈ aD,x.2.length < 4294967296) ∧ ((decide (v ≥ 0)) = true → aD = T.U) ∧ ((decide (v ≥ 0)) = false → aD = [])) ∧ RS w (fun b o=>b = bv ∧ o < 10) F 175 aZ [⟨bv,0,[.int .i16 v,.int .i32 (IntKind.i32.wrap (T.at_ 0).N),.int .i16 (IntKind.i16.wrap (T.at_ 1).N),.pointer ai,.int .i8 aj.n,.string (bs (T.at_ 4).S),.int .i32 (IntKind.i32.wrap (T.at_ 5).N),.slice af.A af.l af.c,.int .i32 (IntKind.i32.wrap (T.at_ 7).N),.map aY],true⟩] [(7,.p 0 0)] P' ([]:Bs) a_ w_) ?_ ?_
 ·
  refine wp_seq ?_
  refine qbQ [(7,.p 0 0),(10,.p 1 0),(169,.v (.bool (decide (v ≥ 0))))] dc fun _ az=>qaa ?_
  clear dc
  refine qaz az.env_ (b:=decide (v ≥ 0)) kz (fun aA=>?_) (fun aA=>?_)
  ·
   have de:=az.cast (t:=((uv T.U.length) ++ (qcD T.U)) ++ ([]:Bs)) (by rw [if_pos aA])
   clear az
   refine qaq [0,1,2,3,4] kz ?_
   refine qdI [0] [1,2,3,4] [(7,.p 0 0),(170,.p 1 0)] de fun _ dg=>?_
   clear de
   refine qaj (qgn (d:=171) dg (qkC T.U e44_U (qfp e44r) _) (fun _=>MvF.tags _ _) Tryz.call156 fun dA fB _ _ dh di=>?_)
   clear dg
   refine qdI [2,3] [4] [(7,.p 0 0),(171,.v (.agg #[.map dA])),(173,.p 1 9)] di fun _ dj=>?_
   clear di
   refine qaj (qgQ [⟨bv,0,[.int .i16 v,.int .i32 (IntKind.i32.wrap (T.at_ 0).N),.int .i16 (IntKind.i16.wrap (T.at_ 1).N),.pointer ai,.int .i8 aj.n,.string (bs (T.at_ 4).S),.int .i32 (IntKind.i32.wrap (T.at_ 5).N),.slice af.A af.l af.c,.int .i32 (IntKind.i32.wrap (T.at_ 7).N),.map dA],true⟩] 0 dj fun _ dl=>?_)
   clear dj
   refine qae ?_
   have eC:=dl.pk (env':=[(7,.p 0 0)])
   clear dl
   refine qaa ?_
   exact ⟨dA,T.U,_,fun w F h_=>⟨(dh _ _ h_).1,⟨(dh _ _ h_).2,e44_U.2.1,e44_U.2.2⟩,⟨fun _=>rfl,(fun e_=>by rw [aA] at e_; cases e_)⟩⟩,eC.pk (env':=[(7,.p 0 0)])⟩
  have dp:=az.cast (t:=[] ++ ([]:Bs)) (by rw [if_neg (by rw [aA]; decide)])
  clear az
  have eD:=dp.cast (t:=([]:Bs)) rfl
  clear dp
  refine wp_skip (qaa ?_)
  exact ⟨none,[],_,fun w F h_=>⟨h_,⟨MapR.nil _ _,Nat.zero_le _,fun _ h=>by cases h⟩,⟨(fun e_=>by rw [aA] at e_; cases e_),fun _=>rfl⟩⟩,eD.pk (env':=[(7,.p 0 0)])⟩
 rintro _ _ ⟨aY,aD,fC,ah,dq⟩
 refine qaa ?_
 refine wp_seq ?_
 refine qaq [0,1] kz (qaj (qgo (d:=174) dq qiA Tryz.call149 fun _ dr=>?_))
 clear dq
 refine qdI [1] [] [(6,.v (.nilIface))] dr fun _ dt=>qae ?_
 clear dr
 refine qaa ?_
 refine wp_ret ?_
 obtain ⟨A_,m_,c_,hW_,hr_,hE_,hP_⟩:=dt.open_
 refine qaN hE_ hW_.cells (v:=.nilIface) kz ?_
 have h_:=dt.mv.mono qbk hP_
 refine ⟨(dvP aY aD [dvN (IntKind.i32.wrap (T.at_ 0).N),dvN (IntKind.i16.wrap (T.at_ 1).N),dvT ai (bs (qbg (T.at_ 2))),aj,dvS (bs (T.at_ 4).S),dvN (IntKind.i32.wrap (T.at_ 5).N),af,dvN (IntKind.i32.wrap (T.at_ 7).N)]),rfl,Str.of hW_ 1 rfl,?_,?_,hW_.step⟩
 ·unfold qaT
  exact ⟨(trivial),(trivial),(⟨(eb _ _ (aE _ _ (am _ _ (ah _ _ h_).1).1).1).2.1,by show ByteArray.size (bs _) ≤ 1000000; rw [qfo]; exact Nat.le_trans e44_2 (by decide)⟩),((aE _ _ (am _ _ (ah _ _ h_).1).1).2.1),(by show ByteArray.size (bs _) ≤ 1000000; rw [qfo]; exact Nat.le_trans e44_4 (by decide)),(trivial),((am _ _ (ah _ _ h_).1).2.1),(trivial),(ah _ _ h_).2.1.1,(ah _ _ h_).2.1.2.1,(ah _ _ h_).2.1.2.2,trivial⟩
 unfold qbS
 exact ⟨(rfl),(rfl),(⟨rfl,(eb _ _ (aE _ _ (am _ _ (ah _ _ h_).1).1).1).2.2⟩),((aE _ _ (am _ _ (ah _ _ h_).1).1).2.2),(rfl),(rfl),((am _ _ (ah _ _ h_).1).2.2),(rfl),(ah _ _ h_).2.2,trivial⟩
theorem qbT:qgl qaT:=by
 intro w w' F F' M d hs hM hF h
 unfold qaT at h ⊢
 obtain ⟨g0,g1,⟨g2,g2l⟩,g3,g4,g5,⟨g6,g6l,g6e⟩,g7,t1,t2,t3,_⟩:=h
 exact ⟨g0,g1,⟨fun ad hA=>by
  obtain ⟨b,o,h1,h2⟩:=g2 ad hA
  exact ⟨b,o,h1,h2.move hs hM hF⟩,g2l⟩,g3,g4,g5,⟨g6.move hs hM hF,g6l,fun i hi=>qaR _ hs hM hF (g6e i hi)⟩,g7,t1.move hs hM hF,t2,t3,trivial⟩
end Go.Proofs.YtcbpjflgkefidaaGreatDoor.ME
namespace Go.Proofs.YtcbpjflgkefidaaGreatDoor.ME
open Go
open Go.RowKit
open Go.ChangeMaps (setBlock)
set_option linter.unusedVariables false
set_option linter.unusedSimpArgs false
set_option maxRecDepth 20000
abbrev cloV (fc:Nat) (cap:Value):Value:=.func (.func fc) #[] #[cap]
theorem qkH {fc:Nat} {cap:Value} {m:Option Nat} {u:List (Int × Bs)} {b o:Nat} {w:World} {F M:Nat → Nat → Prop} (hcf:∀ args w,(callFunc fc args).run Tryz.prog w = .ok (.enter fc args) w) (I:World → Nat → World → Prop) (hat:AtF w F b o [.map m]) (hm:MapR w F m u) (hMF:∀ b o,F b o → ¬ M b o) (hMlt:∀ b o,M b o → b < w.heap.size)
  (hI0:∀ w7,Step w w7 Nil → I w7 0 w7) (hIs:∀ w7 j w8,I w7 j w8 → Step w7 w8 M)
  (hI1:∀ w7,Step w w7 Nil → ∀ j k x w8 Ax cx,I w7 j w8 → u[j]? = some (k,x) → (0 ≤ k ∧ k < 4294967296) → Octs w8 (fun b o=>F b o ∧ b < w7.heap.size) Ax cx x → Calls Tryz.prog fc [.int .u32 k,.slice Ax x.length cx,cap].toArray w8 (fun e w9=>e = .returned (.tuple #[]) ∧ I w7 (j + 1) w9)) (hul:u.length ≤ 1000000) :
  Calls Tryz.prog 103 [.pointer (some ⟨b,o,none⟩),cloV fc cap].toArray w (fun e w'=>e = .returned (.tuple #[]) ∧ ∃ w7,Step w w7 Nil ∧ I w7 u.length w'):=by
 refine enter (n:=53) Tryz.func103 rfl Tryz.ntmps103 kz fun a hE=>?_
 have hW:WOk w Nil w [⟨b,o,[.map m],false⟩] []:=(WOk.start w Nil).start1 hat rfl rfl
 refine wp_seq (wp_seq ?_)
 refine qaq [0,1,2,3,4,5] kz ?_
 refine qbn [0,1,2,3] [4,5] [0,1,11] hW (EnvOk.ptr0 (cs:=[.map m]) (r:=false) hE) (env':=[(0,.p 0 0),(1,.v (cloV fc cap)),(11,.v (.map m))]) kz rfl fun a1 hE1=>?_
 refine qaj (qfE (t:=92) (kt:=62) (et:=22) hE1 (m:=m) (d:=12) kz kz hm fun a2 hE2=>?_)
 refine qbn [5] [] [0,1,13] hW hE2 (env':=[(0,.p 0 0),(1,.v (cloV fc cap)),(13,.v (.bool (((u.length:Nat):Int) == 0)))]) kz rfl fun a3 hE3=>qae (qaa ?_)
 refine qaz hE3 (b:=((u.length:Nat):Int) == 0) kz (fun hb=>?_) (fun hb=>?_)
 ·-- none
  have hu:u = []:=List.eq_nil_of_length_eq_zero (by have:=eq_of_beq hb; omega)
  subst hu
  refine wp_ret (qax ?_)
  exact qaN hE3 hW.cells (v:=.tuple #[]) kz ⟨rfl,w,Step.refl _ _,hI0 w (Step.refl _ _)⟩
 have hu0:0 < u.length:=by have:=ne_of_beq_false hb; omega
 cases m with
 | none=>rw [hm.none_ rfl] at hu0; cases hu0
 | some mb =>
 obtain ⟨hFm,es,clk,hes,hperm,hborn,hnod,hcont⟩:=hm.some_ mb rfl
 have hmlt:mb < w.heap.size:=(Array.getElem?_eq_some_iff.1 hes).1
 have hesz:es.size = u.length:=MapR.size (w:=w) (F:=F) hperm
 refine wp_skip (qaa ?_)
 refine qac [0,1,2,3,4,5,6,7] kz ?_
 refine qbn [0,1,2,3] [4,5,6,7] [0,1,17] hW hE3 (env':=[(0,.p 0 0),(1,.v (cloV fc cap)),(17,.v (.map (some mb)))]) kz rfl fun a4 hE4=>?_
 refine qaj (qfE (t:=92) (kt:=62) (et:=22) hE4 (m:=some mb) (d:=18) kz kz hm fun a5 hE5=>?_)
 refine qaj (qg5 (e:=62) (size:=1) (bytes:=4) (j:=u.length) (t:=186) (d:=19) hW hE5 (p:=0) (q:=((u.length:Nat):Int)) kz kz rfl rfl (by omega) fun kr a6 w1 hkr hkr0 hF1 hW1 hE6=>?_)
 refine qaj (qaJ hW1 hE6 (d:=4) (cs:=[.slice none 0 0]) kz fun kb a7 w2 hkb hkb0 hF2 hW2 hE7=>?_)
 refine qaj (qam hW2 hE7 (oi:=1) (cs:=[.slice (some ⟨kr,0,none⟩) 0 u.length]) kz fun w3 hF3 hW3 hE8=>qae (qaa ?_))
 refine wp_seq (qac [0,1,2,3,4] kz ?_)
 refine qbn [0,1,2,3] [4] [0,1,4,23] hW3 hE8 (env':=[(0,.p 0 0),(1,.v (cloV fc cap)),(4,.p 1 0),(23,.v (.map (some mb)))]) kz rfl fun a8 hE9=>?_
 have hes3:=hW3.step.heap (fun o h=>h) hes
 refine qaj (qg8 (t:=92) (kt:=62) (et:=22) (d:=24) (r:=mb) hE9 kz kz hes3 fun a9 hE10=>qae (qaa ?_))
 have hW4:=hW3.next_nil (Step.alloc w3 (.mapIter (some mb) clk #[] clk))
 have hr4:(w3.alloc (.mapIter (some mb) clk #[] clk)).heap[w3.heap.size]? = some (.mapIter (some mb) clk #[] clk):=qcR _ _
 have hE11:=hE10.pick (ks:=[0,1,4,24]) (env':=[(0,.p 0 0),(1,.v (cloV fc cap)),(4,.p 1 0),(24,.v (.pointer (some ⟨w3.heap.size,0,none⟩)))]) kz
 have hrlt:w3.heap.size < (w3.alloc (.mapIter (some mb) clk #[] clk)).heap.size:=by rw [qd0]; omega
 have hr0:w.heap.size ≤ w3.heap.size:=hW3.step.size
 have hkbr:kb ≠ w3.heap.size:=by have:=hW3.live 1 _ rfl; show ¬ _; intro e; rw [← e] at this; exact absurd this (Nat.lt_irrefl _)
 have hkrr:kr ≠ w3.heap.size:=by have:=qby (hW3.own 0 _ rfl) (g:=kr) rfl; omega
 generalize hR:w3.heap.size = R at hr4 hE11 hrlt hkbr hkrr
 generalize hw4:w3.alloc (.mapIter (some mb) clk #[] clk) = w4 at hW4 hr4 hrlt
 refine wp_block ?_
 refine wp_loop_ghost (fun q a_ w_=>∃ (vis:List MapEntry) (seen:Array Nat) (K:Option Addr) (kc c0:Nat),q = (leftOf es seen).size ∧ Vis es.toList vis seen ∧ vis.length + (leftOf es seen).size ≤ es.size ∧
   EnvOk 53 [⟨b,o,[.map (some mb)],false⟩,⟨kb,0,[.slice K vis.length kc],true⟩] [(0,.p 0 0),(1,.v (cloV fc cap)),(4,.p 1 0),(24,.v (.pointer (some ⟨R,0,none⟩)))] a_ ∧
   WOk w Nil w_ [⟨b,o,[.map (some mb)],false⟩,⟨kb,0,[.slice K vis.length kc],true⟩] [⟨K,kc,62,1,vis.length,(vis.map fun e=>kOf e.key).map (Value.int .u32)⟩] ∧
   w_.heap[R]? = some (.mapIter (some mb) clk seen c0) ∧ clk ≤ c0 ∧ K.map (·.block) ≠ some R) (leftOf es #[]).size
  ⟨[],#[],some ⟨kr,0,none⟩,u.length,clk,rfl,Vis.nil _,by rw [List.length_nil,Nat.zero_add]; exact Array.size_filter_le,by rw [← hw4] at *; exact hE11,hW4,hr4,Nat.le_refl _,by simpa using hkrr⟩ ?_
 rintro q a10 w5 ⟨vis,seen,K,kc,c0,rfl,hv,hvl,hE12,hW5,hr5,hc0,hKR⟩
 have hes5:=hW5.step.heap (fun o h=>h) hes
 refine qac [0,1] kz ?_
 refine qaj (qhS hE12 (d:=25) (r:=R) kz hr5 hes5 hborn hc0 (fun h0 a11 hE13=>?_) (fun e he w6 hw6 a11 hE13=>?_))
 ·-- behind it
  refine qbn [1] [] [0,1,4,26] hW5 hE13 (env':=[(0,.p 0 0),(1,.v (cloV fc cap)),(4,.p 1 0),(26,.v (.bool false))]) kz rfl fun a12 hE14=>qae (qaa (wp_seq ?_))
  refine qaz hE14 (b:=false) kz (fun hb=>by cases hb) (fun _=>?_)
  refine wp_exit (qau (qau (qaM (qaa ?_))))
  have hpe:=hv.all h0 hnod
  have hvu:vis.length = u.length:=by rw [hpe.length_eq,Array.length_toList,hesz]
  have hkp:(vis.map fun e=>kOf e.key).Perm (u.map Prod.fst):=by
   have h1:=(hpe.map fun e=>kOf e.key)
   have h2:=hperm.map kOf
   rw [List.map_map,List.map_map] at h2
   exact h1.trans h2
  have hkl:(vis.map fun e=>kOf e.key).length = vis.length:=by simp
  generalize (vis.map fun e=>kOf e.key) = ks at hkp hkl hW5
  have hown4:w5.ownsRow 0 62 1 (.slice K vis.length kc) vis.length (ks.map (Value.int .u32)):=hW5.own 0 _ rfl
  obtain ⟨g,rfl⟩:=qb0 hown4 (by omega)
  have hown5:w5.ownsRow 0 62 1 (.slice (some ⟨g,0,none⟩) vis.length kc) vis.length (ks.map (Value.int .u32)):=hown4
  have hg0:w.heap.size ≤ g:=by
   rcases hW5.ownM 0 _ rfl g rfl with h | h
   ·exact h
   exact (h 0).elim
  refine qac [0,1,2,3] kz ?_
  refine qbn [0,1] [2,3] [0,1,4,34] hW5 hE14 (env':=[(0,.p 0 0),(1,.v (cloV fc cap)),(4,.p 1 0),(34,.v (.iface 186 (.slice (some ⟨g,0,none⟩) vis.length kc)))]) kz rfl fun a13 hE15=>?_
  refine qaj (qfi hE15 (v:=.func (.func 160) #[] #[.pointer (some ⟨kb,0,none⟩)]) (d:=35) kz fun a14 hE16=>?_)
  have hS:=Tryz.sortKeys g kc kb ks.toArray (by simp; omega) (by simp; omega) w5 (by simp only [List.size_toArray,hkl]; exact hW5.cells 1 _ rfl 0 _ rfl) (fun e=>hW5.rtb 0 _ rfl g rfl 1 _ rfl e) (qfG hkl hown5) (qby (hW5.own 0 _ rfl) (g:=g) rfl) (hW5.live 1 _ rfl)
  rw [List.size_toArray,hkl] at hS
  refine qaj (qak hE16 (f:=159) (vs:=[.iface 186 (.slice (some ⟨g,0,none⟩) vis.length kc),.func (.func 160) #[] #[.pointer (some ⟨kb,0,none⟩)]]) (d:=36) kz Tryz.call159 hS ?_)
  rintro e_ w7 ⟨rfl,d',nd,os,hd1,hd2,hd3,rfl⟩
  refine ⟨_,rfl,fun a15 hE17=>qae (qaa ?_)⟩
  have hus:d'.toList = u.map Prod.fst:=qhT hd2 (by rw [hd1]; exact hd3) hkp (List.pairwise_map.2 hm.sorted)
  obtain ⟨hst7,hown7⟩:=qiZ (n:=nd) (os:=os) hkl hown5 (by rw [hd1,hkl])
  rw [hus] at hown7
  generalize Sort.grow (Sort.putRow (Value.int .u32) (Sort.ahead w5 nd) g 0 d') os = w7 at hst7 hown7
  have hW7:WOk w Nil w7 [⟨b,o,[.map (some mb)],false⟩,⟨kb,0,[.slice (some ⟨g,0,none⟩) vis.length kc],true⟩] [⟨some ⟨g,0,none⟩,kc,62,1,vis.length,(u.map Prod.fst).map (Value.int .u32)⟩] :=
   hW5.grow (k:=0) (r':=⟨some ⟨g,0,none⟩,kc,62,1,vis.length,(u.map Prod.fst).map (Value.int .u32)⟩) rfl (hst7.mono fun b' _ _ hb'=>by rw [hb']; rfl) hown7 (fun g' h=>.inl h)
  refine qac [0,1,2] kz ?_
  refine qbn [0,1,2] [] [0,1,37,38,39] hW7 hE17 (env':=[(0,.p 0 0),(1,.v (cloV fc cap)),(37,.v (.slice (some ⟨g,0,none⟩) vis.length kc)),(38,.v (.int .i64 ((vis.length:Nat):Int))),(39,.v (.int .i64 0))]) kz rfl fun a16 hE18=>qae (qaa ?_)
  have hE19:=EnvOk.cutTb 1 hE18 kz
  have hat7:=hat.move hW7.step nilM qa1
  have hm7:=hm.move hW7.step nilM qa1
  have hg7:g < w7.heap.size:=qby (hW7.own 0 _ rfl) (g:=g) rfl
  have hkeys:=qfG (by simpa using hvu.symm) hown7
  rw [hvu] at hE19
  refine wp_block ?_
  refine wp_loop_ghost (fun q a_ w_=>∃ (j:Nat),q = u.length - j ∧ j ≤ u.length ∧ EnvOk 53 [⟨b,o,[.map (some mb)],false⟩] [(0,.p 0 0),(1,.v (cloV fc cap)),(37,.v (.slice (some ⟨g,0,none⟩) u.length kc)),(38,.v (.int .i64 ((u.length:Nat):Int))),(39,.v (.int .i64 ((j:Nat):Int)))] a_ ∧
   I w7 j w_) u.length
   ⟨0,by omega,by omega,hE19,hI0 w7 hW7.step⟩ ?_
  rintro q a17 w8 ⟨j,rfl,hj,hE20,hD⟩
  have hS8:=hIs w7 j w8 hD
  have hat8:=hat7.move hS8 (fun b o hf _=>hMF b o hf) qa1
  have hm8:MapR w8 (fun b' o'=>F b' o' ∧ b' < w7.heap.size) (some mb) u:=hm7.move hS8 (fun b o hf _=>hMF b o hf) (fun b' o' hf hl=>⟨hf,hl⟩)
  have hW8:WOk w8 Nil w8 [⟨b,o,[.map (some mb)],false⟩] []:=(WOk.start w8 Nil).start1 hat8 rfl rfl
  refine qac [0] kz (qbn [0] [] [0,1,37,38,39,40] hW8 hE20 (env':=[(0,.p 0 0),(1,.v (cloV fc cap)),(37,.v (.slice (some ⟨g,0,none⟩) u.length kc)),(38,.v (.int .i64 ((u.length:Nat):Int))),(39,.v (.int .i64 ((j:Nat):Int))),(40,.v (.bool (decide (((j:Nat):Int) < ((u.length:Nat):Int)))))]) kz rfl fun a18 hE21=>qae (qaa (wp_seq ?_)))
  refine qaz hE21 (b:=decide (((j:Nat):Int) < ((u.length:Nat):Int))) kz (fun hc=>?_) (fun hc=>?_)
  ·have hlt:j < u.length:=by have:=of_decide_eq_true hc; omega
   refine wp_skip (qaa (wp_seq (wp_block ?_)))
   obtain ⟨⟨k,x⟩,hu⟩:∃ y,u[j]? = some y:=⟨_,List.getElem?_eq_getElem hlt⟩
   have hmem:=List.mem_of_getElem? hu
   have hkr:=hm.range _ hmem
   have hcell:At w8 g (0 + j * 1) [.int .u32 k]:=by
    intro i v hi
    have hi0:i = 0:=by
     have:=(List.getElem?_eq_some_iff.1 hi).1
     simp at this; omega
    subst hi0
    simp only [List.getElem?_cons_zero,Option.some.injEq] at hi
    subst hi
    refine hS8.cell (fun hbm=>?_) ?_
    ·have:=hMlt _ _ hbm; omega
    have h1:=(hkeys j (by simpa using hlt)).1
    have h2:(u.map Prod.fst).toArray[j]! = k:=by
     rw [getElem!_pos _ j (by simpa using hlt)]
     have:(u.map Prod.fst)[j]? = some k:=by rw [List.getElem?_map,hu]; rfl
     simpa using (List.getElem?_eq_some_iff.1 this).2
    rw [h2] at h1
    simpa using h1
   refine qac [0,1,2] kz ?_
   refine qaj (qas hE21 (t:=186) (e:=62) (size:=1) (bytes:=4) (d:=41) (b:=g) (o:=0) (m:=u.length) (j:=j) kz kz rfl rfl hlt fun a19 hE22=>?_)
   refine qaj (qaD hE22 (t:=62) (d:=42) (cs:=[.int .u32 k]) (v:=.int .u32 k) kz kz hcell fun a20 hE23=>?_)
   refine qbn [2] [] [0,1,37,38,39,7] hW8 hE23 (env':=[(0,.p 0 0),(1,.v (cloV fc cap)),(37,.v (.slice (some ⟨g,0,none⟩) u.length kc)),(38,.v (.int .i64 ((u.length:Nat):Int))),(39,.v (.int .i64 ((j:Nat):Int))),(7,.v (.int .u32 k))]) kz rfl fun a21 hE24=>qae (qaa ?_)
   refine qaq [0,1,2,3,4,5,6,7,8] kz ?_
   refine qbn [0,1,2,3,4,5,6] [7,8] [0,1,37,38,39,43,44,48,49] hW8 hE24 (env':=[(0,.p 0 0),(1,.v (cloV fc cap)),(37,.v (.slice (some ⟨g,0,none⟩) u.length kc)),(38,.v (.int .i64 ((u.length:Nat):Int))),(39,.v (.int .i64 ((j:Nat):Int))),(43,.v (cloV fc cap)),(44,.v (.int .u32 k)),(48,.v (.map (some mb))),(49,.v (.int .u32 k))]) kz rfl fun a22 hE25=>?_
   refine qaj (qhQ hE25 (t:=92) (kt:=62) (et:=22) (m:=some mb) (k:=k) (s:=x) (d:=50) kz kz kz hm8 hmem fun a23 Ax cx hox hE26=>?_)
   refine qaj (qak hE26 (f:=fc) (vs:=[.int .u32 k,.slice Ax x.length cx,cap]) (d:=51) kz hcf (hI1 w7 hW7.step j k x w8 Ax cx hD hu hkr hox) ?_)
   rintro e_ w9 ⟨rfl,hD2⟩
   refine ⟨_,rfl,fun a24 hE27=>qae (qav (qaa ?_))⟩
   have hS9:=hIs w7 (j + 1) w9 hD2
   have hat9:=hat7.move hS9 (fun b o hf _=>hMF b o hf) qa1
   have hW9:WOk w9 Nil w9 [⟨b,o,[.map (some mb)],false⟩] []:=(WOk.start w9 Nil).start1 hat9 rfl rfl
   refine qaq [0,1] kz (qbn [0,1] [] [0,1,37,38,39] hW9 hE27 (env':=[(0,.p 0 0),(1,.v (cloV fc cap)),(37,.v (.slice (some ⟨g,0,none⟩) u.length kc)),(38,.v (.int .i64 ((u.length:Nat):Int))),(39,.v (.int .i64 (IntKind.i64.wrap (((j:Nat):Int) + 1))))]) kz rfl fun a25 hE28=>qae (qaa ?_))
   rw [qaW (by omega)] at hE28
   exact ⟨u.length - (j + 1),by omega,j + 1,rfl,by omega,hE28,hD2⟩
  obtain rfl:j = u.length:=by have:=of_decide_eq_false hc; omega
  refine wp_exit (qau (qau (qaM ?_)))
  exact qbB hE21 hW8.cells (v:=.tuple #[]) kz ⟨rfl,w7,hW7.step,hD⟩
 -- one more
 have hst6:Step w5 w6 Nil:=by
  rcases hw6 with rfl | rfl
  ·exact Step.refl _ _
  exact Step.drew _
 have hr6:w6.heap[R]? = some (.mapIter (some mb) clk seen c0):=hst6.heap (fun o h=>h) hr5
 have hW6:=hW5.next_nil hst6
 obtain ⟨hml,_⟩:=mem_left he
 obtain ⟨k,sx,Ax,cx,hk1,hk2,hk3,hk4⟩:=hcont e hml
 have hR6:R < w6.heap.size:=(Array.getElem?_eq_some_iff.1 hr6).1
 have hW7:WOk w Nil (setBlock w6 R (.mapIter (some mb) clk (seen.push e.born) clk)) [⟨b,o,[.map (some mb)],false⟩,⟨kb,0,[.slice K vis.length kc],true⟩] [⟨K,kc,62,1,vis.length,(vis.map fun e=>kOf e.key).map (Value.int .u32)⟩]:=by
  refine hW6.next (Step.setBlock w6 R _) (fun b' o' hb' hN=>by omega) (fun i ob hi j hj hN=>?_) (fun i q hi g' hg' o' hN=>?_)
  ·match i,hi with
   | 0,hi =>
    simp only [List.getElem?_cons_zero,Option.some.injEq] at hi; subst hi
    have:=World.lt_of_cell (hat 0 _ rfl).2
    simp only at hN; omega
   | 1,hi =>
    simp only [List.getElem?_cons_succ,List.getElem?_cons_zero,Option.some.injEq] at hi; subst hi
    exact hkbr hN
   | i + 2,hi=>simp at hi
  match i,hi with
  | 0,hi =>
   simp only [List.getElem?_cons_zero,Option.some.injEq] at hi; subst hi
   exact hKR (by rw [← hN]; exact hg')
  | i + 1,hi=>simp at hi
 have hr7:(setBlock w6 R (.mapIter (some mb) clk (seen.push e.born) clk)).heap[R]? = some (.mapIter (some mb) clk (seen.push e.born) clk):=qdS hr6
 generalize hw7:setBlock w6 R (.mapIter (some mb) clk (seen.push e.born) clk) = w7 at hW7 hr7
 refine qbn [1] [] [0,1,4,24,26] hW7 hE13 (env':=[(0,.p 0 0),(1,.v (cloV fc cap)),(4,.p 1 0),(24,.v (.pointer (some ⟨R,0,none⟩))),(26,.v (.bool true))]) kz rfl fun a12 hE14=>qae (qaa (wp_seq ?_))
 refine qaz hE14 (b:=true) kz (fun _=>?_) (fun hb=>by cases hb)
 refine wp_skip (qaa (wp_block ?_))
 have hes7:=hW7.step.heap (fun o h=>h) hes
 refine qac [0,1,2] kz ?_
 refine qaj (qg9 hE14 (d:=27) (r:=R) kz hr7 hes7 hml hnod fun a13 hE15=>?_)
 rw [hk1] at hE15
 refine qbn [1,2] [] [0,1,4,24,5] hW7 hE15 (env':=[(0,.p 0 0),(1,.v (cloV fc cap)),(4,.p 1 0),(24,.v (.pointer (some ⟨R,0,none⟩))),(5,.v (.int .u32 k))]) kz rfl fun a14 hE16=>qae (qaa ?_)
 refine qaq [0,1,2,3,4] kz ?_
 refine qbn [0,1] [2,3,4] [0,1,4,24,29,30] hW7 hE16 (env':=[(0,.p 0 0),(1,.v (cloV fc cap)),(4,.p 1 0),(24,.v (.pointer (some ⟨R,0,none⟩))),(29,.v (.slice K vis.length kc)),(30,.v (.int .u32 k))]) kz rfl fun a15 hE17=>?_
 have hsh:=left_shrinks es seen e he
 refine qb8 (t:=186) (e:=62) (size:=1) (bytes:=4) (len:=1) (cs:=[.int .u32 k]) (d1:=31) (d:=32) (k:=0) hW7 hE17 kz kz (fun _=>by kernel_rfl) rfl kz (by omega) fun K2 kc2 a16 w8 hF8 hW8 hE18=>?_
 obtain ⟨bl,hE18⟩:=hE18
 have hR7:R < w7.heap.size:=(Array.getElem?_eq_some_iff.1 hr7).1
 have hna:∀ {o'},¬ Act_ [⟨b,o,[.map (some mb)],false⟩,⟨kb,0,[.slice K vis.length kc],true⟩] [⟨K,kc,62,1,vis.length,(vis.map fun e=>kOf e.key).map (Value.int .u32)⟩] R o':=by
  rintro o' (⟨i,ob,hi,hrw,hb,_⟩ | ⟨i,q,hi,hq⟩)
  ·match i,hi with
   | 0,hi =>
    simp only [List.getElem?_cons_zero,Option.some.injEq] at hi; subst hi
    cases hrw
   | 1,hi =>
    simp only [List.getElem?_cons_succ,List.getElem?_cons_zero,Option.some.injEq] at hi; subst hi
    exact hkbr hb
   | i + 2,hi=>simp at hi
  match i,hi with
  | 0,hi =>
   simp only [List.getElem?_cons_zero,Option.some.injEq] at hi; subst hi
   exact hKR hq
  | i + 1,hi=>simp at hi
 have hK2:K2.map (·.block) ≠ some R:=fun hk=>by
  exact hF8.imm R 0 hR7 hna (.inr ⟨0,_,rfl,hk⟩)
 refine qaj (qam hW8 hE18 (oi:=1) (cs:=[.slice K2 (vis.length + 1) kc2]) kz fun w9 hF9 hW9 hE19=>qae (qav (qaa ?_)))
 have hr8:w9.heap[R]? = some (.mapIter (some mb) clk (seen.push e.born) clk) :=
  hF9.step.heap (fun o'=>hF8.imm R o' hR7 hna) (hF8.step.heap (fun o'=>hna) hr7)
 refine ⟨(leftOf es (seen.push e.born)).size,hsh,vis ++ [e],seen.push e.born,K2,kc2,clk,rfl,hv.push he,by rw [List.length_append,List.length_singleton]; omega,?_,?_,hr8,Nat.le_refl _,hK2⟩
 ·rw [List.length_append,List.length_singleton]
  exact hE19.pick (ks:=[0,1,4,24]) kz
 rw [List.length_append,List.length_singleton,List.map_append,List.map_append,List.map_cons,List.map_cons,hk1]
 exact hW9
end Go.Proofs.YtcbpjflgkefidaaGreatDoor.ME
namespace Go.Proofs.YtcbpjflgkefidaaGreatDoor.ME
open Go
open Go.RowKit
set_option linter.unusedVariables false
set_option linter.unusedSimpArgs false
set_option maxRecDepth 20000
section
variable {P:Program} {ops:Array Oper} {Q:Exit → Act → World → Prop} {n:Nat} {tb:Tb} {env:Env} {rs:List Rw} {w0:World} {M:Nat → Nat → Prop} {a:Act} {w:World}
theorem qe7 {i d j:Nat} {t e:TypeId} {size bytes:Nat} (z:Value) (cs:List Value) {N:Act → World → Prop} (hW:WOk w0 M w tb rs) (hE:EnvOk n tb env a)
  (K:∀ b a' w',b = w.heap.size → w0.heap.size ≤ b → Fr w tb rs w' (tb ++ [⟨b,0,cs,true⟩]) rs → WOk w0 M w' (tb ++ [⟨b,0,cs,true⟩]) rs → EnvOk n (tb ++ [⟨b,0,cs,true⟩]) ((d,.v (.slice (some ⟨b,0,none⟩) j j)) :: env) a' → N a' w')
  (h:qhJ env ops n i = some (t,((j:Nat):Int),((j:Nat):Int),d):=by kernel_rfl) (ht:qcf P t = some (e,size,bytes):=by kernel_rfl) (hz:(P.info? e).bind (·.zero) = some z:=by kernel_rfl) (hcs:(madeCells z.cells (j * size)).toList = cs:=by kernel_rfl) (hb:Nat.ble (bytes * j) 1000000 = true:=by kernel_rfl):wpOp P ops Q i N a w:=by
 obtain ⟨ht',inf,z',hi,hz',hzs,hs1,rfl,hsz,hbp⟩:=qbY ht
 obtain ⟨op,ho,hd,kl,kc,hrun⟩:=qfh (P:=P) (w:=w) hE h
 have hzz:z' = z:=by rw [hi] at hz; simp only [Option.bind_some,hz',Option.some.injEq] at hz; exact hz
 subst hzz
 have hb':=Nat.le_of_ble_eq_true hb
 have hjm:j ≤ 1000000:=by
  have:=Nat.le_mul_of_pos_left j hbp
  omega
 have hr:=run_make (P:=P) w t e inf z' ht' hi hz' kl kc (j:Int) (j:Int) (by omega) (Int.le_refl _) (by
  have:((inf.bytes * j:Nat):Int) ≤ 281474976710656:=by omega
  rwa [Int.natCast_mul] at this) (by omega)
 simp only [Int.toNat_natCast,hs1] at hr
 have hca:madeCells z'.cells (j * size) = cs.toArray:=by rw [← hcs]
 rw [hca] at hr
 refine qaZ hE ho (fun o hop=>hrun o _ _ hop hr) ?_
 refine K w.heap.size _ _ rfl hW.step.size (Fr.alloc w tb rs _ cs true) (hW.alloc cs e) ?_
 exact (hE.put hd (.v (.slice (some ⟨w.heap.size,0,none⟩) j j)) trivial).grow _
theorem qec {i d:Nat} {src dst e:TypeId} {s:ByteArray} {N:Act → World → Prop} (hW:WOk w0 M w tb rs) (hE:EnvOk n tb env a) (hsm:s.size ≤ 1099511627776)
  (K:∀ b c a' w',Fr w tb rs w' tb rs → WOk w0 M w' tb rs → (∀ G,Octs w' (Imm G w0 w' tb rs) (some ⟨b,0,none⟩) c (sb s)) → EnvOk n tb ((d,.v (.slice (some ⟨b,0,none⟩) (sb s).length c)) :: env) a' → N a' w')
  (h:qi7 tb env ops n i = some (src,dst,.string s,d):=by kernel_rfl) (hs:P.underlying src = some .string:=by kernel_rfl) (hd:P.underlying dst = some (.slice e):=by kernel_rfl) (he:P.underlying e = some (.int .u8):=by kernel_rfl):wpOp P ops Q i N a w:=by
 unfold qi7 at h
 split at h
 ·rename_i src' dst' x d' hop
  split at h
  ·rename_i v hx
   simp only [Option.some.injEq,Prod.mk.injEq] at h
   obtain ⟨rfl,rfl,rfl,rfl⟩:=h
   have hdn:=(qa9 hE hop).choose_spec.2.2.2.1
   have hrun:=Lib.run_convert_string_bytes (P:=P) w src' dst' e s hs hd he
   have hst:Step w (Lib.bytesWorld w e s) Nil:=⟨rfl,rfl,by rw [Lib.bytesWorld_size]; omega,fun b hb=>by rw [Lib.bytesWorld_at_old w e s b hb]; exact Keeps.refl _ _⟩
   have hlen:(sb s).length = s.size:=qhG s
   have e1:=(qaV hE hx).1
   refine qaZ hE hop (v:=.slice (some ⟨w.heap.size,0,none⟩) (sb s).length (grownCap w s.size 0 e)) (w':=Lib.bytesWorld w e s) (fun o' ho'=>?_) (K w.heap.size _ _ _ (Fr.nil tb rs hst) (hW.next_nil hst) (fun G=>?_) (hE.put hdn (.v _) trivial))
   ·unfold execOp
    rw [ho']
    simp only [SV.val] at e1
    simp only [e1,Sem.run_bind,hrun,Result.andThen_ok,Sem.run_pure,hlen]
   refine ⟨by rw [hlen]; exact grownCap_ge w s.size 0 e,by rw [hlen]; exact hsm,fun h=>(by cases h),fun ad hA _=>?_⟩
   obtain rfl:=Option.some.inj hA
   refine ⟨w.heap.size,0,rfl,fun q hq=>⟨rfl,fun j v hj=>?_⟩⟩
   have hj0:j = 0:=by
    cases j with
    | zero=>rfl
    | succ j=>simp at hj
   subst hj0
   simp only [List.getElem?_cons_zero,Option.some.injEq] at hj
   subst hj
   have h2:(Lib.bytesWorld w e s).heap.size = w.heap.size + 1:=Lib.bytesWorld_size w e s
   refine ⟨⟨.inr hW.step.size,by rw [h2]; exact Nat.lt_succ_self _,fun ha=>?_⟩,?_⟩
   ·have:=hW.act_live ha
    exact absurd this (Nat.lt_irrefl _)
   rw [Nat.zero_add,Nat.mul_one,Nat.add_zero,Lib.bytesWorld_cell w e s q (by rw [← hlen]; exact hq)]
   rfl
  cases h
 cases h
end
structure TBox (w:World) (B eT:Nat) (A:Option Addr) (cp n:Nat) (x0 x1 x2 x3:Value) (xs:List Value):Prop where
 str:Str w B [x0,x1,x2,x3,.slice A n cp]
 own:w.ownsRow 0 eT 2 (.slice A n cp) n xs
 ne:A.map (·.block) ≠ some B
def TM (B:Nat) (A:Option Addr):Nat → Nat → Prop:=fun b o=>(b = B ∧ o < 5) ∨ Blk A b o
def qjg (w:World) (B eT:Nat) (A:Option Addr) (n:Nat) (x0 x1 x2 x3:Value) (xs:List Value) (k:Int) (x:Bs):Ending → World → Prop:=fun en w' =>
 en = .returned (.tuple #[]) ∧ ∃ A' cp' Av cv,TBox w' B eT A' cp' (n + 1) x0 x1 x2 x3 (xs ++ [.int .u32 k,.slice Av x.length cv]) ∧ Octs w' (fun b o=>(w.heap.size ≤ b ∨ A.map (·.block) = some b) ∧ ¬ TM B A' b o) Av cv x ∧ Near w A A' ∧ Step w w' (TM B A)
def qfu (P:Program) (fc eT:Nat):Prop:=∀ (w:World) (B cp c n:Nat) (k:Int) (A Av:Option Addr) (x:Bs) (x0 x1 x2 x3:Value) (xs:List Value) (G:Nat → Nat → Prop),TBox w B eT A cp n x0 x1 x2 x3 xs → Octs w G Av c x → (∀ b o,G b o → ¬ TM B A b o) → n ≤ 1000000 →
 Calls P fc [.int .u32 k,.slice Av x.length c,.pointer (some ⟨B,0,none⟩)].toArray w (qjg w B eT A n x0 x1 x2 x3 xs k x)
theorem TBox.wok {w:World} {B eT cp n:Nat} {A:Option Addr} {x0 x1 x2 x3:Value} {xs:List Value} (h:TBox w B eT A cp n x0 x1 x2 x3 xs):WOk w (TM B A) w [⟨B,0,[x0,x1,x2,x3,.slice A n cp],true⟩] [⟨A,cp,eT,2,n,xs⟩]:=by
 have h1:WOk w (TM B A) w [⟨B,0,[x0,x1,x2,x3,.slice A n cp],true⟩] [] :=
  (WOk.start w _).add ⟨B,0,[x0,x1,x2,x3,.slice A n cp],true⟩ (World.lt_of_cell (h.str.at_ 0 _ rfl)) (fun j v hj=>by rw [Nat.zero_add]; exact h.str.at_ j v hj) (fun _ j hj=>⟨.inr (.inl ⟨rfl,by rw [Nat.zero_add]; exact hj⟩),by rw [Nat.zero_add]; exact h.str.frz j hj⟩) (fun i ob hi=>by simp at hi) (fun i r hi=>by simp at hi)
 refine h1.addRow ⟨A,cp,eT,2,n,xs⟩ h.own (fun g hg=>.inr fun o=>.inr hg) (fun i ob hi=>?_) (fun i r hi=>by simp at hi)
 cases i with
 | zero =>
  simp only [List.getElem?_cons_zero,Option.some.injEq] at hi; subst hi
  exact h.ne
 | succ i=>simp at hi
theorem qgr {w0 w:World} {B eT cp n:Nat} {A0 A:Option Addr} {x0 x1 x2 x3:Value} {xs:List Value} {rs:List Rw} (hW:WOk w0 (TM B A0) w [⟨B,0,[x0,x1,x2,x3,.slice A n cp],true⟩] (⟨A,cp,eT,2,n,xs⟩ :: rs)) (hB:B < w0.heap.size):TBox w B eT A cp n x0 x1 x2 x3 xs ∧ Near w0 A0 A ∧ Step w0 w (TM B A0):=by
 refine ⟨⟨Str.of hW 0 rfl,hW.own 0 _ rfl,fun e=>hW.rtb 0 _ rfl B e 0 _ rfl rfl⟩,fun g hg=>?_,hW.step⟩
 rcases hW.ownM 0 _ rfl g hg with h | h
 ·exact .inr h
 rcases h 5 with ⟨_,h⟩ | h
 ·omega
 exact .inl h
theorem qeO {w0 w:World} {B eT cp n c e8:Nat} {A0 A Av:Option Addr} {cs:List Value} {xs:List Value} {s:Bs} (hl:cs.length = 5) (hW:WOk w0 (TM B A0) w [⟨B,0,cs,true⟩] [⟨A,cp,eT,2,n,xs⟩,brow Av c e8 s]) (hsm:s.length ≤ 1099511627776):Octs w (fun b o=>(w0.heap.size ≤ b ∨ A0.map (·.block) = some b) ∧ ¬ TM B A b o) Av c s:=by
 refine qdP (hW.own 1 _ rfl) hsm fun g hg o=>⟨?_,?_⟩
 ·rcases hW.ownM 1 _ rfl g hg with h | h
  ·exact .inl h
  rcases h 5 with ⟨_,h⟩ | h
  ·omega
  exact .inr h
 rintro (⟨rfl,_⟩ | h)
 ·exact hW.rtb 1 _ rfl g hg 0 _ rfl rfl
 exact hW.rr 1 0 _ _ (by decide) rfl rfl g hg h
theorem qf3 {fc eT B b o:Nat} {m:Option Nat} {u:List (Int × Bs)} {w:World} {F:Nat → Nat → Prop} {x0 x1 x2 x3:Value} (hcf:∀ args w,(callFunc fc args).run Tryz.prog w = .ok (.enter fc args) w) (hone:qfu Tryz.prog fc eT) (hat:AtF w F b o [.map m]) (hm:MapR w F m u) (hB:Str w B [x0,x1,x2,x3,.slice none 0 0]) (hF:∀ b o,F b o → ¬ (b = B ∧ o < 5)) (hul:u.length ≤ 1000000) :
  Calls Tryz.prog 103 [.pointer (some ⟨b,o,none⟩),cloV fc (.pointer (some ⟨B,0,none⟩))].toArray w (fun e w'=>e = .returned (.tuple #[]) ∧ ∃ A c,Str w' B [x0,x1,x2,x3,.slice A u.length c] ∧ TagsR w' (fun b o=>w.heap.size ≤ b) A c u ∧ Step w w' (fun b o=>b = B ∧ o < 5)):=by
 have hBl:B < w.heap.size:=World.lt_of_cell (hB.at_ 0 _ rfl)
 refine (qkH (M:=fun b o=>b = B ∧ o < 5) hcf (fun w7 j w8=>∃ A cp xs css,TBox w8 B eT A cp j x0 x1 x2 x3 xs ∧ Tags w8 (fun b o=>w7.heap.size ≤ b ∧ ¬ TM B A b o) xs (u.take j) css ∧ (∀ g,A.map (·.block) = some g → w7.heap.size ≤ g) ∧ Step w7 w8 (fun b o=>b = B ∧ o < 5)) hat hm hF (fun b o h=>by rw [h.1]; exact hBl) (fun w7 hs=>?_) (fun w7 j w8 h=>by obtain ⟨_,_,_,_,_,_,_,h⟩:=h; exact h) (fun w7 hs j k x w8 Ax cx hI hu hk hox=>?_) hul).mono ?_
 ·exact ⟨none,0,[],[],⟨hB.move hs fun _ h=>h,World.ownsRow_nil _ 0 eT 2,fun h=>by cases h⟩,Tags.nil _ _,fun g h=>(by cases h),Step.refl _ _⟩
 ·obtain ⟨A,cp,xs,css,hbx,hT,hA,hs8⟩:=hI
  have hj:j < u.length:=(List.getElem?_eq_some_iff.1 hu).1
  refine (hone w8 B cp cx j k A Ax x x0 x1 x2 x3 xs _ hbx hox (fun b o hf=>?_) (by omega)).mono ?_
  ·rintro (h | h)
   ·exact hF _ _ hf.1 h
   have:=hA b h; have:=hf.2; omega
  rintro e w9 ⟨rfl,A',cp',Av,cv,hbx',ho',hn,hs9⟩
  refine ⟨rfl,A',cp',_,css ++ [[.int .u32 k,.slice Av x.length cv]],hbx',?_,fun g hg=>?_,hs8.trans hs9 fun b o hb h=>?_⟩
  ·rw [qcx hu]
   have e1:Tags w9 (fun b o=>w7.heap.size ≤ b ∧ ¬ TM B A' b o) xs (u.take j) css:=hT.move hs9 (fun b o h _=>h.2) (fun b o h hb=>⟨h.1,fun h'=>by
    rcases h' with h' | h'
    ·exact h.2 (.inl h')
    rcases hn b h' with h' | h'
    ·exact h.2 (.inr h')
    omega⟩)
   have e2:Octs w9 (fun b o=>w7.heap.size ≤ b ∧ ¬ TM B A' b o) Av cv x:=ho'.move (Step.refl _ Nil) nilM fun b o h _=>⟨by
    rcases h.1 with h' | h'
    ·exact Nat.le_trans hs8.size h'
    exact hA b h',h.2⟩
   exact e1.snoc (c:=[.int .u32 k,.slice Av x.length cv]) (x:=(k,x)) ⟨⟨_,_,rfl,e2⟩,hk.1,hk.2⟩
  ·rcases hn g hg with h | h
   ·exact hA g h
   exact Nat.le_trans hs8.size h
  rcases h with h | h
  ·exact h
  have:=hA b h; omega
 rintro e w' ⟨rfl,w7,hs,A,cp,xs,css,hbx,hT,hA,hs8⟩
 rw [List.take_length] at hT
 refine ⟨rfl,A,cp,hbx.str,?_,(hs.mono (N:=fun b o=>b = B ∧ o < 5) fun _ _ _ f=>f.elim).trans hs8 fun b o _ h=>h⟩
 exact ((hT.move (Step.refl _ Nil) nilM fun b o h _=>Nat.le_trans hs.size h.1).slots (F:=fun b o=>w.heap.size ≤ b) hbx.own rfl (by omega) fun g hg o=>Nat.le_trans hs.size (hA g hg))
def qiF (A:Option Addr) (s:ByteArray):Tree:=.mk 0 (if A.isNone = true then [] else sb s) A.isNone [] []
def qka (b:Bool):Tree:=.mk (if b = true then 1 else 0) [] false [] []
abbrev NoF:Nat → Nat → Prop:=fun _ _=>False
theorem WOk.strOut {G:Nat → Nat → Prop} {w0 w:World} {tb:Tb} {rs:List Rw} {p:Nat} {cs:List Value} (tb':Tb) (hW:WOk w0 Nil w tb rs) (ht:tb' ++ [⟨p,0,cs,true⟩] = tb:=by rfl):AtF w (Imm G w0 w tb' rs) p 0 cs:=fun j v hj=>by
 subst ht
 have hi:(tb' ++ [(⟨p,0,cs,true⟩:Ob)])[tb'.length]? = some ⟨p,0,cs,true⟩:=by rw [List.getElem?_append_right (Nat.le_refl _),Nat.sub_self]; rfl
 have h1:=hW.cells _ _ hi j v hj
 have hlt:j < cs.length:=(List.getElem?_eq_some_iff.1 hj).1
 refine ⟨⟨?_,hW.live _ _ hi,fun ha=>?_⟩,h1⟩
 ·rcases (hW.rw_ _ _ hi rfl j hlt).1 with h2 | h2
  ·exact .inr h2
  exact h2.elim
 rcases ha with ⟨k,ob,h2,h3,h4,h5,h6⟩ | ⟨k,r,h2,h3⟩
 ·have hk:k < tb'.length:=(List.getElem?_eq_some_iff.1 h2).1
  have h7:(tb' ++ [(⟨p,0,cs,true⟩:Ob)])[k]? = some ob:=by rw [List.getElem?_append_left hk]; exact h2
  rcases hW.apart k _ ob _ (by omega) h7 hi (.inr rfl) with h8 | h8 | h8
  ·exact h8 h4
  ·simp only [Nat.zero_add] at h5 h6; simp only [Nat.le_zero] at h8; omega
  simp only [Nat.zero_add] at h5 h6 h8; omega
 exact hW.rtb k r h2 p h3 _ _ hi rfl
theorem qhp {u:List (Int × Bs)} (h:qcN u) {i j:Nat} {k k':Int} {s s':Bs} (hi:u[i]? = some (k,s)) (hj:u[j]? = some (k',s')) (hij:j < i):¬ k < k':=by
 obtain ⟨h1,h2⟩:=List.getElem?_eq_some_iff.1 hi
 obtain ⟨h3,h4⟩:=List.getElem?_eq_some_iff.1 hj
 have:=List.pairwise_iff_getElem.1 h j i h3 h1 hij
 rw [h2,h4] at this
 simp only at this
 omega
section
variable {w0 w:World} {tb:Tb} {rs:List Rw} {F:Nat → Nat → Prop}
theorem WOk.objFp (hW:WOk w0 Nil w tb rs) (i:Nat) {b:Nat} {cs:List Value} (hi:tb[i]? = some ⟨b,0,cs,true⟩):AtF w (Fp F w0) b 0 cs:=fun j v hj=>by
 have hlt:=(List.getElem?_eq_some_iff.1 hj).1
 refine ⟨?_,hW.cells i _ hi j v hj⟩
 rcases (hW.rw_ i _ hi rfl j hlt).1 with h | h
 ·exact .inr h
 exact h.elim
def TrL (w:World) (F:Nat → Nat → Prop):List (List Value) → List Tree → Prop
 | [],[]=>True
 | c :: cs,x :: xs=>TreeR w F c x ∧ TrL w F cs xs
 | _,_=>False
theorem TrL.move {w w':World} {F F' M:Nat → Nat → Prop} (hs:Step w w' M) (hM:∀ b o,F b o → b < w.heap.size → ¬ M b o) (hF:∀ b o,F b o → b < w.heap.size → F' b o):∀ {cs:List (List Value)} {l:List Tree},TrL w F cs l → TrL w' F' cs l
 | [],[],_=>trivial
 | _ :: _,_ :: _,h=>⟨h.1.move hs hM hF,TrL.move hs hM hF h.2⟩
 | [],_ :: _,h=>h.elim
 | _ :: _,[],h=>h.elim
theorem TrL.len:∀ {cs:List (List Value)} {l:List Tree},TrL w F cs l → cs.length = l.length
 | [],[],_=>rfl
 | _ :: _,_ :: _,h=>congrArg (· + 1) (TrL.len h.2)
 | [],_ :: _,h=>h.elim
 | _ :: _,[],h=>h.elim
theorem TrL.five:∀ {cs:List (List Value)} {l:List Tree},TrL w F cs l → ∀ c ∈ cs,c.length = 5
 | [],[],_=>fun c hc=>by cases hc
 | _ :: _,_ :: _,h=>fun c hc=>by
  rcases List.mem_cons.1 hc with rfl | hc
  ·exact h.1.five
  exact TrL.five h.2 c hc
 | [],_ :: _,h=>h.elim
 | _ :: _,[],h=>h.elim
theorem TrL.get:∀ {cs:List (List Value)} {l:List Tree},TrL w F cs l → ∀ (i:Nat) (x:Tree),l[i]? = some x → TreeR w F (cs.getD i []) x
 | [],[],_,i,x,hx=>by simp at hx
 | _ :: _,_ :: _,h,0,x,hx=>by
  simp only [List.getElem?_cons_zero,Option.some.injEq] at hx
  subst hx
  exact h.1
 | _ :: _,_ :: _,h,i + 1,x,hx=>TrL.get h.2 i x hx
 | [],_ :: _,h,_,_,_=>h.elim
 | _ :: _,[],h,_,_,_=>h.elim
theorem qkI {b:Nat}:∀ (css:List (List Value)) (o:Nat),AtF w F b o css.flatten → (∀ c ∈ css,c.length = 5) → ∀ i,i < css.length → (css.getD i []).length = 5 ∧ AtF w F b (o + i * 5) (css.getD i [])
 | [],o,h,hl,i,hi=>absurd hi (Nat.not_lt_zero _)
 | c :: r,o,h,hl,0,_=>⟨hl c List.mem_cons_self,fun j v hj=>by
   have hj':c[j]? = some v:=hj
   have:=h j v (by rw [List.flatten_cons,List.getElem?_append_left (List.getElem?_eq_some_iff.1 hj').1]; exact hj')
   rw [show o + 0 * 5 + j = o + j by omega]
   exact this⟩
 | c :: r,o,h,hl,i + 1,hi=>by
  have hc:=hl c List.mem_cons_self
  have:=qkI r (o + 5) (fun j v hj=>by
   have:=h (5 + j) v (by rw [List.flatten_cons,List.getElem?_append_right (by omega),show 5 + j - c.length = j by omega]; exact hj)
   rw [show o + 5 + j = o + (5 + j) by omega]
   exact this) (fun d hd=>hl d (List.mem_cons_of_mem _ hd)) i (by simpa using hi)
  rw [show o + (i + 1) * 5 = o + 5 + i * 5 by omega]
  exact this
theorem qhq {b:Nat} {css:List (List Value)} {l:List Tree} (h:AtF w F b 0 css.flatten) (hT:TrL w F css l) (hsm:l.length ≤ 1099511627776):Slots w F 5 (some ⟨b,0,none⟩) l.length l.length (fun i=>css.getD i []) :=
 ⟨Nat.le_refl _,hsm,fun h=>(by cases h),fun ad hA _=>⟨b,0,(Option.some.inj hA).symm,fun i hi=>qkI css 0 h hT.five i (by rw [hT.len]; exact hi)⟩⟩
theorem Trees.xslen {w:World} {xs:List Value} {l:List Tree} {css:List (List Value)} (h:Trees w F xs l css):xs.length = l.length * 5:=by
 have h1:∀ css:List (List Value),(∀ c ∈ css,c.length = 5) → css.flatten.length = css.length * 5:=fun css hc=>by
  induction css with
  | nil=>rfl
  | cons c r ih =>
   rw [List.flatten_cons,List.length_append,hc c List.mem_cons_self,ih fun d hd=>hc d (List.mem_cons_of_mem _ hd),List.length_cons]
   omega
 rw [h.flat.eq,h1 css,h.len]
 intro c hc
 obtain ⟨i,hi,rfl⟩:=List.getElem_of_mem hc
 have hl:=h.len
 exact (h.each i _ _ (List.getElem?_eq_getElem hi) (List.getElem?_eq_getElem (show i < l.length by omega))).five
theorem qeP {xs zs cs:List Value} {k:Nat} (hx:xs.length = k * 5) (hz:zs.length = cs.length:=by rfl):qba (xs ++ zs) (k * 5) cs = xs ++ cs:=by
 unfold qba
 rw [List.take_left' hx,List.drop_of_length_le (by rw [List.length_append]; omega),List.append_nil]
theorem qiG (hW:WOk w0 Nil w tb rs) {k:Nat} {A:Option Addr} {c e n:Nat} {xs:List Value} {l:List Tree} {css:List (List Value)} {b:Bool} (hk:rs[k]? = some ⟨A,c,e,5,n,xs⟩) (hT:Trees w (Imm F w0 w tb rs) xs l css) (hn:n = l.length) (hsm:l.length ≤ 1099511627776):TreeR w (Fp F w0) [.int .i64 0,.slice none 0 0,.bool b,.slice A n c,.slice none 0 0] (.mk 0 [] b l []):=by
 have h:=qgB hW hk hT hn hsm
 subst hn
 exact TreeR.mk (s:=[]) (u:=[]) _ (Octs.nil _ _) h.1 h.2 (TagsR.nil _ _)
theorem qed {L k:Nat} {f:Nat → Tree} (h:k < L):((List.range L).map f).take (k + 1) = ((List.range L).map f).take k ++ [f k] :=
 qcx (by rw [List.getElem?_map,List.getElem?_range h]; rfl)
theorem qjh {L k:Nat} {f:Nat → Tree} (h:L ≤ k):((List.range L).map f).take k = (List.range L).map f:=List.take_of_length_le (by rw [List.length_map,List.length_range]; exact h)
theorem qdZ {L:Nat} {f:Nat → Tree}:((List.range L).map f).length = L:=by rw [List.length_map,List.length_range]
theorem qgT (hW:WOk w0 Nil w tb rs) (i:Nat) {b n2 c3:Nat} {A3:Option Addr} {u:List (Int × Bs)} {css:List (List Value)} {cs:List Value} {l:List Tree} (hi:tb[i]? = some ⟨b,0,cs,true⟩) (hT':TrL w (Fp F w0) css l) (hU:TagsR w (Fp F w0) A3 c3 u) (hf:css.flatten = cs:=by rfl) (hl:l.length = n2:=by rfl) (hn:Nat.ble n2 1000000 = true:=by kernel_rfl) :
  qc1 w0 F (.mk 0 [] false l u) (.returned (.agg #[.int .i64 0,.slice none 0 0,.bool false,.slice (some ⟨b,0,none⟩) n2 n2,.slice A3 u.length c3])) w:=by
 subst hf
 subst hl
 have hn':=Nat.le_of_ble_eq_true hn
 exact ⟨_,rfl,TreeR.mk (s:=[]) _ (Octs.nil _ _) (qhq (hW.objFp i hi) hT' (by omega)) hT'.get hU,hW.step⟩
end
end Go.Proofs.YtcbpjflgkefidaaGreatDoor.ME