/- The texts of a claim, put together: the engine, the contracts, the law. Own work. -/
import Derived.Test.YtdlaobdadlmcdabGreatDoorWb0P3
import Derived.Test.YtdlaobdadlmcdabGreatDoorProg
import Derived.Deep.LoopGhost
namespace Go.Proofs.YtdlaobdadlmcdabGreatDoor.ME
open Go
open Go.RowKit
set_option linter.unusedVariables false
set_option linter.unusedSimpArgs false
set_option maxRecDepth 20000
theorem qlU {A:Option Addr} {c:Nat} (s:Bs) {w:World} {F:Nat → Nat → Prop} (ho:Octs w F A c s) (hl:2 ≤ s.length) :
  Calls Tryz.prog 108 #[.agg #[],.slice A s.length c] w (qcp w (.int .u16 (be16 s))):=by
 refine enter (n:=18) Tryz.func108 rfl Tryz.ntmps108 kz fun a hE=>?_
 have hW:=WOk.start w Nil
 have ob0:=qbX s 0
 have ob1:=qbX s 1
 refine qac [0,1] kz ?_
 refine qak (qbs hW hE (d:=2) (cs:=[]) kz fun b1 a2 w3 hb4 hz5 hF6 hW7 hE8=>?_)
 refine qaj [1] [] [(1,.v (.slice A s.length c))] hW7 hE8 fun a9 af=>?_
 refine qad (qaa ?_)
 refine qac [0,1,2] kz ?_
 refine qaj [0] [1,2] [(1,.v (.slice A s.length c)),(5,.v (.slice A s.length c))] hW7 af fun aC ag=>?_
 obtain ⟨av,aw,ac,ax,ab⟩:=Slots.get ho (i:=1) (by omega)
 refine qak (qat ag (t:=22) (A:=A) (m:=s.length) (q:=1) (d:=6) kz (e:=5) (size:=1) (bytes:=1) (j:=1) kz ac rfl (by omega) fun aD ah=>?_)
 refine qak (qaC ah (t:=5) (b:=av) (o:=aw + 1 * 1) (d:=7) kz (cs:=[.int .u8 ((s.getD 1 0).toNat:Int)]) (v:=.int .u8 ((s.getD 1 0).toNat:Int)) kz (AtF.move ab hW7.step nilM qa0).at_ fun aE ai=>?_)
 refine qad (qaa ?_)
 refine qb8 kz hW7 fun aF ay aa=>?_
 refine qa4 [0,4] [(8,.v (.slice A s.length c)),(12,.v (.slice A s.length c))] 9 (qab qah) (fun _ h=>h ▸ aa.cells) rfl ai fun aG aj=>?_
 refine qbq aj (i:=1) (t:=22) (A:=A) (m:=s.length) (q:=1) (d:=9) kz (e:=5) (size:=1) (bytes:=1) (j:=1) kz ac rfl (by omega) kz kz (qab qah) rfl fun aH ak=>?_
 refine qbp ak (i:=2) (t:=5) (b:=av) (o:=aw + 1 * 1) (d:=10) kz (cs:=[.int .u8 ((s.getD 1 0).toNat:Int)]) (v:=.int .u8 ((s.getD 1 0).toNat:Int)) kz (fun w' h'=>h' ▸ (AtF.move ab aa.step nilM qa0).at_) kz kz (qab qah) rfl fun aI al=>?_
 refine qa4 [3] [(11,.v (.int .u16 (IntKind.u16.wrap ((s.getD 1 0).toNat:Int)))),(12,.v (.slice A s.length c))] 6 (qab qah) (fun _ h=>h ▸ aa.cells) rfl al fun aJ am=>?_
 obtain ⟨az,aA,ao,aB,ae⟩:=Slots.get ho (i:=0) (by omega)
 refine qbq am (i:=5) (t:=22) (A:=A) (m:=s.length) (q:=0) (d:=13) kz (e:=5) (size:=1) (bytes:=1) (j:=0) kz ao rfl (by omega) kz kz (qab qah) rfl fun aK ap=>?_
 refine qbp ap (i:=6) (t:=5) (b:=az) (o:=aA + 0 * 1) (d:=14) kz (cs:=[.int .u8 ((s.getD 0 0).toNat:Int)]) (v:=.int .u8 ((s.getD 0 0).toNat:Int)) kz (fun w' h'=>h' ▸ (AtF.move ae aa.step nilM qa0).at_) kz kz (qab qah) rfl fun aL ar=>?_
 refine qa4 [7,8,9,10] [(4,.v (.int .u16 (IntKind.u16.wrap (BitVec.ofInt 16 (IntKind.u16.wrap ((s.getD 1 0).toNat:Int)) ||| BitVec.ofInt 16 (IntKind.u16.wrap ((IntKind.u16.wrap ((s.getD 0 0).toNat:Int)) * 256))).toNat)))] 0 (qab qah) (fun _ h=>h ▸ aa.cells) rfl ar fun aM au=>?_
 refine qa3 kz ?_ _
 refine qaa ?_
 refine wp_ret ?_
 refine qaG au aa.cells (v:=.int .u16 (IntKind.u16.wrap (BitVec.ofInt 16 (IntKind.u16.wrap ((s.getD 1 0).toNat:Int)) ||| BitVec.ofInt 16 (IntKind.u16.wrap ((IntKind.u16.wrap ((s.getD 0 0).toNat:Int)) * 256))).toNat)) kz ?_
 exact ⟨congrArg Ending.returned (congrArg (Value.int IntKind.u16) (qlA (oc s 0) (oc s 1) ob0 ob1)),aa.step⟩
theorem qlV {A:Option Addr} {c:Nat} (s:Bs) {w:World} {F:Nat → Nat → Prop} (ho:Octs w F A c s) (hl:4 ≤ s.length) :
  Calls Tryz.prog 107 #[.agg #[],.slice A s.length c] w (qcp w (.int .u32 (be32 s))):=by
 refine enter (n:=30) Tryz.func107 rfl Tryz.ntmps107 kz fun a hE=>?_
 have hW:=WOk.start w Nil
 have ob0:=qbX s 0
 have ob1:=qbX s 1
 have ob2:=qbX s 2
 have ob3:=qbX s 3
 refine qac [0,1] kz ?_
 refine qak (qbs hW hE (d:=2) (cs:=[]) kz fun b1 a2 w3 hb4 hz5 hF6 hW7 hE8=>?_)
 refine qaj [1] [] [(1,.v (.slice A s.length c))] hW7 hE8 fun a9 ah=>?_
 refine qad (qaa ?_)
 refine qac [0,1,2] kz ?_
 refine qaj [0] [1,2] [(1,.v (.slice A s.length c)),(5,.v (.slice A s.length c))] hW7 ah fun aS ai=>?_
 obtain ⟨aF,aG,ac,aH,ab⟩:=Slots.get ho (i:=3) (by omega)
 refine qak (qat ai (t:=22) (A:=A) (m:=s.length) (q:=3) (d:=6) kz (e:=5) (size:=1) (bytes:=1) (j:=3) kz ac rfl (by omega) fun aT aj=>?_)
 refine qak (qaC aj (t:=5) (b:=aF) (o:=aG + 3 * 1) (d:=7) kz (cs:=[.int .u8 ((s.getD 3 0).toNat:Int)]) (v:=.int .u8 ((s.getD 3 0).toNat:Int)) kz (AtF.move ab hW7.step nilM qa0).at_ fun aU ak=>?_)
 refine qad (qaa ?_)
 refine qb8 kz hW7 fun aV aI aa=>?_
 refine qa4 [0,4,10,16] [(8,.v (.slice A s.length c)),(12,.v (.slice A s.length c)),(18,.v (.slice A s.length c)),(24,.v (.slice A s.length c))] 19 (qab qah) (fun _ h=>h ▸ aa.cells) rfl ak fun aW al=>?_
 refine qbq al (i:=1) (t:=22) (A:=A) (m:=s.length) (q:=3) (d:=9) kz (e:=5) (size:=1) (bytes:=1) (j:=3) kz ac rfl (by omega) kz kz (qab qah) rfl fun aX am=>?_
 refine qbp am (i:=2) (t:=5) (b:=aF) (o:=aG + 3 * 1) (d:=10) kz (cs:=[.int .u8 ((s.getD 3 0).toNat:Int)]) (v:=.int .u8 ((s.getD 3 0).toNat:Int)) kz (fun w' h'=>h' ▸ (AtF.move ab aa.step nilM qa0).at_) kz kz (qab qah) rfl fun aY ao=>?_
 refine qa4 [3] [(11,.v (.int .u32 (IntKind.u32.wrap ((s.getD 3 0).toNat:Int)))),(12,.v (.slice A s.length c)),(18,.v (.slice A s.length c)),(24,.v (.slice A s.length c))] 16 (qab qah) (fun _ h=>h ▸ aa.cells) rfl ao fun aZ ap=>?_
 obtain ⟨aJ,aK,ar,aL,ae⟩:=Slots.get ho (i:=2) (by omega)
 refine qbq ap (i:=5) (t:=22) (A:=A) (m:=s.length) (q:=2) (d:=13) kz (e:=5) (size:=1) (bytes:=1) (j:=2) kz ar rfl (by omega) kz kz (qab qah) rfl fun ba au=>?_
 refine qbp au (i:=6) (t:=5) (b:=aJ) (o:=aK + 2 * 1) (d:=14) kz (cs:=[.int .u8 ((s.getD 2 0).toNat:Int)]) (v:=.int .u8 ((s.getD 2 0).toNat:Int)) kz (fun w' h'=>h' ▸ (AtF.move ae aa.step nilM qa0).at_) kz kz (qab qah) rfl fun bd av=>?_
 refine qa4 [7,8,9] [(17,.v (.int .u32 (IntKind.u32.wrap (BitVec.ofInt 32 (IntKind.u32.wrap ((s.getD 3 0).toNat:Int)) ||| BitVec.ofInt 32 (IntKind.u32.wrap ((IntKind.u32.wrap ((s.getD 2 0).toNat:Int)) * 256))).toNat))),(18,.v (.slice A s.length c)),(24,.v (.slice A s.length c))] 11 (qab qah) (fun _ h=>h ▸ aa.cells) rfl av fun bf aw=>?_
 obtain ⟨aM,aN,ax,aO,af⟩:=Slots.get ho (i:=1) (by omega)
 refine qbq aw (i:=11) (t:=22) (A:=A) (m:=s.length) (q:=1) (d:=19) kz (e:=5) (size:=1) (bytes:=1) (j:=1) kz ax rfl (by omega) kz kz (qab qah) rfl fun bg ay=>?_
 refine qbp ay (i:=12) (t:=5) (b:=aM) (o:=aN + 1 * 1) (d:=20) kz (cs:=[.int .u8 ((s.getD 1 0).toNat:Int)]) (v:=.int .u8 ((s.getD 1 0).toNat:Int)) kz (fun w' h'=>h' ▸ (AtF.move af aa.step nilM qa0).at_) kz kz (qab qah) rfl fun bh az=>?_
 refine qa4 [13,14,15] [(23,.v (.int .u32 (IntKind.u32.wrap (BitVec.ofInt 32 (IntKind.u32.wrap (BitVec.ofInt 32 (IntKind.u32.wrap ((s.getD 3 0).toNat:Int)) ||| BitVec.ofInt 32 (IntKind.u32.wrap ((IntKind.u32.wrap ((s.getD 2 0).toNat:Int)) * 256))).toNat) ||| BitVec.ofInt 32 (IntKind.u32.wrap ((IntKind.u32.wrap ((s.getD 1 0).toNat:Int)) * 65536))).toNat))),(24,.v (.slice A s.length c))] 6 (qab qah) (fun _ h=>h ▸ aa.cells) rfl az fun bi aA=>?_
 obtain ⟨aP,aQ,aB,aR,ag⟩:=Slots.get ho (i:=0) (by omega)
 refine qbq aA (i:=17) (t:=22) (A:=A) (m:=s.length) (q:=0) (d:=25) kz (e:=5) (size:=1) (bytes:=1) (j:=0) kz aB rfl (by omega) kz kz (qab qah) rfl fun bj aC=>?_
 refine qbp aC (i:=18) (t:=5) (b:=aP) (o:=aQ + 0 * 1) (d:=26) kz (cs:=[.int .u8 ((s.getD 0 0).toNat:Int)]) (v:=.int .u8 ((s.getD 0 0).toNat:Int)) kz (fun w' h'=>h' ▸ (AtF.move ag aa.step nilM qa0).at_) kz kz (qab qah) rfl fun bk aD=>?_
 refine qa4 [19,20,21,22] [(4,.v (.int .u32 (IntKind.u32.wrap (BitVec.ofInt 32 (IntKind.u32.wrap (BitVec.ofInt 32 (IntKind.u32.wrap (BitVec.ofInt 32 (IntKind.u32.wrap ((s.getD 3 0).toNat:Int)) ||| BitVec.ofInt 32 (IntKind.u32.wrap ((IntKind.u32.wrap ((s.getD 2 0).toNat:Int)) * 256))).toNat) ||| BitVec.ofInt 32 (IntKind.u32.wrap ((IntKind.u32.wrap ((s.getD 1 0).toNat:Int)) * 65536))).toNat) ||| BitVec.ofInt 32 (IntKind.u32.wrap ((IntKind.u32.wrap ((s.getD 0 0).toNat:Int)) * 16777216))).toNat)))] 0 (qab qah) (fun _ h=>h ▸ aa.cells) rfl aD fun bn aE=>?_
 refine qa3 kz ?_ _
 refine qaa ?_
 refine wp_ret ?_
 refine qaG aE aa.cells (v:=.int .u32 (IntKind.u32.wrap (BitVec.ofInt 32 (IntKind.u32.wrap (BitVec.ofInt 32 (IntKind.u32.wrap (BitVec.ofInt 32 (IntKind.u32.wrap ((s.getD 3 0).toNat:Int)) ||| BitVec.ofInt 32 (IntKind.u32.wrap ((IntKind.u32.wrap ((s.getD 2 0).toNat:Int)) * 256))).toNat) ||| BitVec.ofInt 32 (IntKind.u32.wrap ((IntKind.u32.wrap ((s.getD 1 0).toNat:Int)) * 65536))).toNat) ||| BitVec.ofInt 32 (IntKind.u32.wrap ((IntKind.u32.wrap ((s.getD 0 0).toNat:Int)) * 16777216))).toNat)) kz ?_
 exact ⟨congrArg Ending.returned (congrArg (Value.int IntKind.u32) (qlB (oc s 0) (oc s 1) (oc s 2) (oc s 3) ob0 ob1 ob2 ob3)),aa.step⟩
theorem qhF (x:Int) (rest:Bs)  {br:Nat} {A:Option Addr} {m c:Nat} {w:World} {F:Nat → Nat → Prop} (hst:Str w br [.slice A m c,.bool false]) (hr:RdS w F A m c (be 2 x ++ rest)) (hFd:∀ b o,F b o → ¬ RdM br b o) :
  Calls Tryz.prog 83 #[.pointer (some ⟨br,0,none⟩)] w (RdPost w br F rest fun v w'=>v = .int .i16 (IntKind.i16.wrap x)):=by
 obtain ⟨hm,ho⟩:=hr
 subst hm
 have hle:=ho.le
 refine enter (n:=32) Tryz.func83 rfl Tryz.ntmps83 kz fun a hE=>?_
 have hW:WOk w (RdM br) w [⟨br,0,[.slice A ((be 2 x ++ rest).length) c,.bool false],true⟩] []:=WOk.startStr hst
 have hE1:=(hE.grow ⟨br,0,[.slice A ((be 2 x ++ rest).length) c,.bool false],true⟩).recast 0 (.v (.pointer (some ⟨br,0,none⟩))) (.p 0 0) rfl rfl (Nat.le_of_ble_eq_true (n:=1) rfl)
 refine qar [(0,.p 0 0)] hW hE1 fun a1 hE2=>?_
 refine wp_seq ?_
 refine qar [(0,.p 0 0),(9,.v (.bool (decide ((((be 2 x ++ rest).length:Nat):Int) < 2))))] hW hE2 fun a3 hE4=>?_
 refine qaq hE4 (b:=decide ((((be 2 x ++ rest).length:Nat):Int) < 2)) kz (decide_eq_false (by first | omega | (simp only [List.length_append,be_length,List.length_cons,List.length_nil] at *; omega))) ?_
 refine wp_skip ?_
 refine qaa ?_
 refine qbF 7 kz hW fun w5 hF6 hW7 hT8=>?_
 refine qa4 [1,2,3,4] [(0,.p 0 0),(20,.v (.slice A ((be 2 x ++ rest).length) c))] 4 (qab qah) (fun _ h=>h.cells) hT8 hE4 fun a9 af=>?_
 refine qbp af (i:=0) (t:=144) (b:=1) (o:=0) (d:=16) kz (cs:=[]) (v:=.agg #[]) kz (fun w' h'=>(fun j_ v_ h_=>by simp at h_)) kz kz (qab qah) hT8 fun av ag=>?_
 refine qa2 (i:=5) kz (qal ag (f:=108) (vs:=[.agg #[],.slice A ((be 2 x ++ rest).length) c]) (d:=21) kz Tryz.call108 (qlU _ (ho.move hW7.step (fun b_ o_ h_ _=>hFd b_ o_ h_) (hW7.immM hFd)) (by first | omega | (simp only [List.length_append,be_length,List.length_cons,List.length_nil] at *; omega))) ?_)
 rintro e_ aw ⟨rfl,ac⟩
 refine ⟨_,rfl,fun ax ah=>?_⟩
 have aa:=hW7.next_nil ac
 have ai:=hW7.frN ac
 have ae:=TT.ofW ai aa
 refine ⟨fun _=>ae,?_⟩
 refine qa4 [6] [(0,.p 0 0),(22,.v (.int .i16 (IntKind.i16.wrap (be16 (be 2 x ++ rest)))))] 1 (qab qah) (fun _ h=>h.cells) ae ah fun ay aj=>?_
 refine qa2 (i:=7) kz (qco [0,3] aa.cells aj (env':=[(0,.p 0 0),(3,.v (.int .i16 (IntKind.i16.wrap (be16 (be 2 x ++ rest)))))]) kz fun az ak=>?_)
 refine ⟨fun h=>absurd rfl h,?_⟩
 refine qa3 kz ?_ _
 refine qaa ?_
 refine qac [0,1,2,3,4,5,6,7,8] kz ?_
 refine qaj [0,1,2,3,4] [5,6,7,8] [(3,.v (.int .i16 (IntKind.i16.wrap (be16 (be 2 x ++ rest))))),(23,.p 0 0),(27,.v (.slice A ((be 2 x ++ rest).length) c))] aa ak fun aA al=>?_
 refine qak (qcC al (t:=22) (A:=A) (m:=((be 2 x ++ rest).length)) (cp:=c) (q:=2) (d:=28) (j:=2) kz (e:=5) (bytes:=1) kz (rfl) (by first | omega | (simp only [List.length_append,be_length,List.length_cons,List.length_nil] at *; omega)) fun aB am=>?_)
 refine qaj [6,7] [8] [(3,.v (.int .i16 (IntKind.i16.wrap (be16 (be 2 x ++ rest))))),(28,.v (.slice (cutA A c 2) (((be 2 x ++ rest).length) - 2) (c - 2))),(30,.p 0 0)] aa am fun aC ao=>?_
 refine qak (qaH aa ao (oi:=0) (cs:=[.slice (cutA A c 2) (((be 2 x ++ rest).length) - 2) (c - 2),.bool false]) kz fun aD au ab ap=>?_)
 refine qad (qaa ?_)
 refine qar [(2,.v (.int .i16 (IntKind.i16.wrap (be16 (be 2 x ++ rest)))))] ab ap fun aE ar=>?_
 refine wp_ret ?_
 refine qaG ar ab.cells (v:=.int .i16 (IntKind.i16.wrap (be16 (be 2 x ++ rest)))) kz ?_
 exact ⟨_,_,_,_,rfl,Str.of ab 0 rfl,RdS.drop (s:=be 2 x) ⟨rfl,ho.move ab.step (fun b_ o_ h_ _=>hFd b_ o_ h_) qa0⟩ (by simp only [be_length,List.length_cons,List.length_nil]),ab.step,by rw [qkZ,qk1]⟩
theorem qjs (x:Int) (rest:Bs)  {br:Nat} {A:Option Addr} {m c:Nat} {w:World} {F:Nat → Nat → Prop} (hst:Str w br [.slice A m c,.bool false]) (hr:RdS w F A m c (be 4 x ++ rest)) (hFd:∀ b o,F b o → ¬ RdM br b o) :
  Calls Tryz.prog 82 #[.pointer (some ⟨br,0,none⟩)] w (RdPost w br F rest fun v w'=>v = .int .i32 (IntKind.i32.wrap x)):=by
 obtain ⟨hm,ho⟩:=hr
 subst hm
 have hle:=ho.le
 refine enter (n:=32) Tryz.func82 rfl Tryz.ntmps82 kz fun a hE=>?_
 have hW:WOk w (RdM br) w [⟨br,0,[.slice A ((be 4 x ++ rest).length) c,.bool false],true⟩] []:=WOk.startStr hst
 have hE1:=(hE.grow ⟨br,0,[.slice A ((be 4 x ++ rest).length) c,.bool false],true⟩).recast 0 (.v (.pointer (some ⟨br,0,none⟩))) (.p 0 0) rfl rfl (Nat.le_of_ble_eq_true (n:=1) rfl)
 refine qar [(0,.p 0 0)] hW hE1 fun a1 hE2=>?_
 refine wp_seq ?_
 refine qar [(0,.p 0 0),(9,.v (.bool (decide ((((be 4 x ++ rest).length:Nat):Int) < 4))))] hW hE2 fun a3 hE4=>?_
 refine qaq hE4 (b:=decide ((((be 4 x ++ rest).length:Nat):Int) < 4)) kz (decide_eq_false (by first | omega | (simp only [List.length_append,be_length,List.length_cons,List.length_nil] at *; omega))) ?_
 refine wp_skip ?_
 refine qaa ?_
 refine qbF 7 kz hW fun w5 hF6 hW7 hT8=>?_
 refine qa4 [1,2,3,4] [(0,.p 0 0),(20,.v (.slice A ((be 4 x ++ rest).length) c))] 4 (qab qah) (fun _ h=>h.cells) hT8 hE4 fun a9 af=>?_
 refine qbp af (i:=0) (t:=144) (b:=1) (o:=0) (d:=16) kz (cs:=[]) (v:=.agg #[]) kz (fun w' h'=>(fun j_ v_ h_=>by simp at h_)) kz kz (qab qah) hT8 fun av ag=>?_
 refine qa2 (i:=5) kz (qal ag (f:=107) (vs:=[.agg #[],.slice A ((be 4 x ++ rest).length) c]) (d:=21) kz Tryz.call107 (qlV _ (ho.move hW7.step (fun b_ o_ h_ _=>hFd b_ o_ h_) (hW7.immM hFd)) (by first | omega | (simp only [List.length_append,be_length,List.length_cons,List.length_nil] at *; omega))) ?_)
 rintro e_ aw ⟨rfl,ac⟩
 refine ⟨_,rfl,fun ax ah=>?_⟩
 have aa:=hW7.next_nil ac
 have ai:=hW7.frN ac
 have ae:=TT.ofW ai aa
 refine ⟨fun _=>ae,?_⟩
 refine qa4 [6] [(0,.p 0 0),(22,.v (.int .i32 (IntKind.i32.wrap (be32 (be 4 x ++ rest)))))] 1 (qab qah) (fun _ h=>h.cells) ae ah fun ay aj=>?_
 refine qa2 (i:=7) kz (qco [0,3] aa.cells aj (env':=[(0,.p 0 0),(3,.v (.int .i32 (IntKind.i32.wrap (be32 (be 4 x ++ rest)))))]) kz fun az ak=>?_)
 refine ⟨fun h=>absurd rfl h,?_⟩
 refine qa3 kz ?_ _
 refine qaa ?_
 refine qac [0,1,2,3,4,5,6,7,8] kz ?_
 refine qaj [0,1,2,3,4] [5,6,7,8] [(3,.v (.int .i32 (IntKind.i32.wrap (be32 (be 4 x ++ rest))))),(23,.p 0 0),(27,.v (.slice A ((be 4 x ++ rest).length) c))] aa ak fun aA al=>?_
 refine qak (qcC al (t:=22) (A:=A) (m:=((be 4 x ++ rest).length)) (cp:=c) (q:=4) (d:=28) (j:=4) kz (e:=5) (bytes:=1) kz (rfl) (by first | omega | (simp only [List.length_append,be_length,List.length_cons,List.length_nil] at *; omega)) fun aB am=>?_)
 refine qaj [6,7] [8] [(3,.v (.int .i32 (IntKind.i32.wrap (be32 (be 4 x ++ rest))))),(28,.v (.slice (cutA A c 4) (((be 4 x ++ rest).length) - 4) (c - 4))),(30,.p 0 0)] aa am fun aC ao=>?_
 refine qak (qaH aa ao (oi:=0) (cs:=[.slice (cutA A c 4) (((be 4 x ++ rest).length) - 4) (c - 4),.bool false]) kz fun aD au ab ap=>?_)
 refine qad (qaa ?_)
 refine qar [(2,.v (.int .i32 (IntKind.i32.wrap (be32 (be 4 x ++ rest)))))] ab ap fun aE ar=>?_
 refine wp_ret ?_
 refine qaG ar ab.cells (v:=.int .i32 (IntKind.i32.wrap (be32 (be 4 x ++ rest)))) kz ?_
 exact ⟨_,_,_,_,rfl,Str.of ab 0 rfl,RdS.drop (s:=be 4 x) ⟨rfl,ho.move ab.step (fun b_ o_ h_ _=>hFd b_ o_ h_) qa0⟩ (by simp only [be_length,List.length_cons,List.length_nil]),ab.step,by rw [qk0,qk2]⟩
theorem qlW (y:Bool) (rest:Bs)  {br:Nat} {A:Option Addr} {m c:Nat} {w:World} {F:Nat → Nat → Prop} (hst:Str w br [.slice A m c,.bool false]) (hr:RdS w F A m c ([by8 (if y then 1 else 0)] ++ rest)) (hFd:∀ b o,F b o → ¬ RdM br b o) :
  Calls Tryz.prog 102 #[.pointer (some ⟨br,0,none⟩)] w (RdPost w br F rest fun v w'=>v = .bool y):=by
 obtain ⟨hm,ho⟩:=hr
 subst hm
 have hle:=ho.le
 refine enter (n:=32) Tryz.func102 rfl Tryz.ntmps102 kz fun a hE=>?_
 have hW:WOk w (RdM br) w [⟨br,0,[.slice A (([by8 (if y then 1 else 0)] ++ rest).length) c,.bool false],true⟩] []:=WOk.startStr hst
 have hE1:=(hE.grow ⟨br,0,[.slice A (([by8 (if y then 1 else 0)] ++ rest).length) c,.bool false],true⟩).recast 0 (.v (.pointer (some ⟨br,0,none⟩))) (.p 0 0) rfl rfl (Nat.le_of_ble_eq_true (n:=1) rfl)
 refine qar [(0,.p 0 0)] hW hE1 fun a1 hE2=>?_
 refine wp_seq ?_
 refine qar [(0,.p 0 0),(9,.v (.bool (decide (((([by8 (if y then 1 else 0)] ++ rest).length:Nat):Int) < 1))))] hW hE2 fun a3 hE4=>?_
 refine qaq hE4 (b:=decide (((([by8 (if y then 1 else 0)] ++ rest).length:Nat):Int) < 1)) kz (decide_eq_false (by first | omega | (simp only [List.length_append,be_length,List.length_cons,List.length_nil] at *; omega))) ?_
 refine wp_skip ?_
 refine qaa ?_
 refine qac [0,1,2,3,4,5,6,7] kz ?_
 refine qaj [0,1,2,3] [4,5,6,7] [(0,.p 0 0),(19,.v (.slice A (([by8 (if y then 1 else 0)] ++ rest).length) c))] hW hE4 fun a5 hE6=>?_
 obtain ⟨b7,o8,hA9,al,ab⟩:=Slots.get ho (i:=0) (by first | omega | (simp only [List.length_append,be_length,List.length_cons,List.length_nil] at *; omega))
 refine qak (qat hE6 (t:=22) (A:=A) (m:=(([by8 (if y then 1 else 0)] ++ rest).length)) (q:=0) (d:=20) kz (e:=5) (size:=1) (bytes:=1) (j:=0) kz hA9 rfl (by first | omega | (simp only [List.length_append,be_length,List.length_cons,List.length_nil] at *; omega)) fun ao ac=>?_)
 refine qak (qaC ac (t:=5) (b:=b7) (o:=o8 + 0 * 1) (d:=21) kz (cs:=[.int .u8 ((([by8 (if y then 1 else 0)] ++ rest).getD 0 0).toNat:Int)]) (v:=.int .u8 ((([by8 (if y then 1 else 0)] ++ rest).getD 0 0).toNat:Int)) kz (AtF.move ab hW.step (fun b_ o_ h_ _=>hFd b_ o_ h_) qa0).at_ fun ap ae=>?_)
 refine qaj [6,7] [] [(0,.p 0 0),(3,.v (.bool (((([by8 (if y then 1 else 0)] ++ rest).getD 0 0).toNat:Int) != 0)))] hW ae fun ar af=>?_
 refine qad (qaa ?_)
 refine qac [0,1,2,3,4,5,6,7,8] kz ?_
 refine qaj [0,1,2,3,4] [5,6,7,8] [(3,.v (.bool (((([by8 (if y then 1 else 0)] ++ rest).getD 0 0).toNat:Int) != 0))),(23,.p 0 0),(27,.v (.slice A (([by8 (if y then 1 else 0)] ++ rest).length) c))] hW af fun au ag=>?_
 refine qak (qcC ag (t:=22) (A:=A) (m:=(([by8 (if y then 1 else 0)] ++ rest).length)) (cp:=c) (q:=1) (d:=28) (j:=1) kz (e:=5) (bytes:=1) kz (rfl) (by first | omega | (simp only [List.length_append,be_length,List.length_cons,List.length_nil] at *; omega)) fun av ah=>?_)
 refine qaj [6,7] [8] [(3,.v (.bool (((([by8 (if y then 1 else 0)] ++ rest).getD 0 0).toNat:Int) != 0))),(28,.v (.slice (cutA A c 1) ((([by8 (if y then 1 else 0)] ++ rest).length) - 1) (c - 1))),(30,.p 0 0)] hW ah fun aw ai=>?_
 refine qak (qaH hW ai (oi:=0) (cs:=[.slice (cutA A c 1) ((([by8 (if y then 1 else 0)] ++ rest).length) - 1) (c - 1),.bool false]) kz fun ax am aa aj=>?_)
 refine qad (qaa ?_)
 refine qar [(2,.v (.bool (((([by8 (if y then 1 else 0)] ++ rest).getD 0 0).toNat:Int) != 0)))] aa aj fun ay ak=>?_
 refine wp_ret ?_
 refine qaG ak aa.cells (v:=.bool (((([by8 (if y then 1 else 0)] ++ rest).getD 0 0).toNat:Int) != 0)) kz ?_
 exact ⟨_,_,_,_,rfl,Str.of aa 0 rfl,RdS.drop (s:=[by8 (if y then 1 else 0)]) ⟨rfl,ho.move aa.step (fun b_ o_ h_ _=>hFd b_ o_ h_) qa0⟩ (by simp only [be_length,List.length_cons,List.length_nil]),aa.step,by cases y <;> rfl⟩
theorem rUv1 {A:Option Addr} {c:Nat} (s:Bs) {w:World} {F:Nat → Nat → Prop} (ho:Octs w F A c s) (hl:1 ≤ s.length) (d0:Nat) (h0:oc s 0 = d0) (g0:d0 < 128) :
  Calls Tryz.prog 110 #[.slice A s.length c] w (qcp w (.tuple #[.int .u32 ((d0:Nat):Int),.int .i64 1])):=by
 refine enter (n:=87) Tryz.func110 rfl Tryz.ntmps110 kz fun a hE=>?_
 have hW:=WOk.start w Nil
 refine qar [(0,.v (.slice A s.length c))] hW hE fun a1 hE2=>?_
 refine wp_scope_straight ?_
 refine qar [(0,.v (.slice A s.length c))] hW hE2 fun a3 hE4=>?_
 refine qar [(0,.v (.slice A s.length c))] hW hE4 fun a5 hE6=>?_
 refine wp_seq ?_
 refine qar [(0,.v (.slice A s.length c)),(8,.v (.bool (decide (((s.length:Nat):Int) < 1))))] hW hE6 fun a7 hE8=>?_
 refine qaq hE8 (b:=decide (((s.length:Nat):Int) < 1)) kz (decide_eq_false (by omega)) ?_
 refine wp_skip ?_
 refine qaa ?_
 refine qac [0,1,2,3,4,5] kz ?_
 refine qaj [0] [1,2,3,4,5] [(0,.v (.slice A s.length c)),(9,.v (.slice A s.length c))] hW hE8 fun a9 ae=>?_
 obtain ⟨am,ao,ab,ap,aa⟩:=Slots.get ho (i:=0) (by first | omega | (simp only [List.length_append,be_length,List.length_cons,List.length_nil] at *; omega))
 refine qak (qat ae (t:=22) (A:=A) (m:=s.length) (q:=0) (d:=10) kz (e:=5) (size:=1) (bytes:=1) (j:=0) kz ab rfl (by first | omega | (simp only [List.length_append,be_length,List.length_cons,List.length_nil] at *; omega)) fun ar af=>?_)
 refine qak (qaC af (t:=5) (b:=am) (o:=ao + 0 * 1) (d:=11) kz (cs:=[.int .u8 ((s.getD 0 0).toNat:Int)]) (v:=.int .u8 ((s.getD 0 0).toNat:Int)) kz (AtF.move aa hW.step nilM qa0).at_ fun au ag=>?_)
 refine qaj [3,4,5] [] [(0,.v (.slice A s.length c)),(4,.v (.int .u32 (IntKind.u32.wrap (IntKind.u8.wrap (BitVec.ofInt 8 ((s.getD 0 0).toNat:Int) &&& BitVec.ofInt 8 127).toNat))))] hW ag fun av ah=>?_
 refine qad (qaa ?_)
 refine wp_seq ?_
 refine qac [0,1,2,3,4] kz ?_
 refine qaj [0] [1,2,3,4] [(0,.v (.slice A s.length c)),(4,.v (.int .u32 (IntKind.u32.wrap (IntKind.u8.wrap (BitVec.ofInt 8 ((s.getD 0 0).toNat:Int) &&& BitVec.ofInt 8 127).toNat)))),(14,.v (.slice A s.length c))] hW ah fun aw ai=>?_
 refine qak (qat ai (t:=22) (A:=A) (m:=s.length) (q:=0) (d:=15) kz (e:=5) (size:=1) (bytes:=1) (j:=0) kz ab rfl (by first | omega | (simp only [List.length_append,be_length,List.length_cons,List.length_nil] at *; omega)) fun ax aj=>?_)
 refine qak (qaC aj (t:=5) (b:=am) (o:=ao + 0 * 1) (d:=16) kz (cs:=[.int .u8 ((s.getD 0 0).toNat:Int)]) (v:=.int .u8 ((s.getD 0 0).toNat:Int)) kz (AtF.move aa hW.step nilM qa0).at_ fun ay ak=>?_)
 refine qaj [3,4] [] [(0,.v (.slice A s.length c)),(4,.v (.int .u32 (IntKind.u32.wrap (IntKind.u8.wrap (BitVec.ofInt 8 ((s.getD 0 0).toNat:Int) &&& BitVec.ofInt 8 127).toNat)))),(18,.v (.bool ((IntKind.u8.wrap (BitVec.ofInt 8 ((s.getD 0 0).toNat:Int) &&& BitVec.ofInt 8 128).toNat) == 0)))] hW ak fun az ac=>?_
 refine qad (qaa ?_)
 refine qbz ac (b:=(IntKind.u8.wrap (BitVec.ofInt 8 ((s.getD 0 0).toNat:Int) &&& BitVec.ofInt 8 128).toNat) == 0) kz ((qcH _ (qbX s 0)).trans (decide_eq_true (by have:=h0; unfold oc at this; omega))) ?_
 refine qar [(2,.v (.int .u32 (IntKind.u32.wrap (IntKind.u8.wrap (BitVec.ofInt 8 ((s.getD 0 0).toNat:Int) &&& BitVec.ofInt 8 127).toNat)))),(3,.v (.int .i64 1))] hW ac fun aA al=>?_
 refine wp_ret ?_
 refine qax ?_
 refine qdm ?_
 refine qaG al hW.cells (v:=.tuple #[.int .u32 (IntKind.u32.wrap (IntKind.u8.wrap (BitVec.ofInt 8 ((s.getD 0 0).toNat:Int) &&& BitVec.ofInt 8 127).toNat)),.int .i64 1]) kz ?_
 have e_:=uv_1 (oc s 0) (qbX s 0)
 refine ⟨congrArg (fun z_:Int=>Ending.returned (.tuple #[.int .u32 z_,.int .i64 1])) (Eq.trans e_ ?_),hW.step⟩
 omega
theorem rUv2 {A:Option Addr} {c:Nat} (s:Bs) {w:World} {F:Nat → Nat → Prop} (ho:Octs w F A c s) (hl:2 ≤ s.length) (d0 d1:Nat) (h0:oc s 0 = d0 + 128) (h1:oc s 1 = d1) (g0:d0 < 128) (g1:d1 < 128) :
  Calls Tryz.prog 110 #[.slice A s.length c] w (qcp w (.tuple #[.int .u32 ((d0 + d1 * 128:Nat):Int),.int .i64 2])):=by
 refine enter (n:=87) Tryz.func110 rfl Tryz.ntmps110 kz fun a hE=>?_
 have hW:=WOk.start w Nil
 refine qar [(0,.v (.slice A s.length c))] hW hE fun a1 hE2=>?_
 refine wp_scope_straight ?_
 refine qar [(0,.v (.slice A s.length c))] hW hE2 fun a3 hE4=>?_
 refine qar [(0,.v (.slice A s.length c))] hW hE4 fun a5 hE6=>?_
 refine wp_seq ?_
 refine qar [(0,.v (.slice A s.length c)),(8,.v (.bool (decide (((s.length:Nat):Int) < 1))))] hW hE6 fun a7 hE8=>?_
 refine qaq hE8 (b:=decide (((s.length:Nat):Int) < 1)) kz (decide_eq_false (by omega)) ?_
 refine wp_skip ?_
 refine qaa ?_
 refine qac [0,1,2,3,4,5] kz ?_
 refine qaj [0] [1,2,3,4,5] [(0,.v (.slice A s.length c)),(9,.v (.slice A s.length c))] hW hE8 fun a9 ai=>?_
 obtain ⟨aB,aC,ac,aF,aa⟩:=Slots.get ho (i:=0) (by first | omega | (simp only [List.length_append,be_length,List.length_cons,List.length_nil] at *; omega))
 refine qak (qat ai (t:=22) (A:=A) (m:=s.length) (q:=0) (d:=10) kz (e:=5) (size:=1) (bytes:=1) (j:=0) kz ac rfl (by first | omega | (simp only [List.length_append,be_length,List.length_cons,List.length_nil] at *; omega)) fun aH aj=>?_)
 refine qak (qaC aj (t:=5) (b:=aB) (o:=aC + 0 * 1) (d:=11) kz (cs:=[.int .u8 ((s.getD 0 0).toNat:Int)]) (v:=.int .u8 ((s.getD 0 0).toNat:Int)) kz (AtF.move aa hW.step nilM qa0).at_ fun aI ak=>?_)
 refine qaj [3,4,5] [] [(0,.v (.slice A s.length c)),(4,.v (.int .u32 (IntKind.u32.wrap (IntKind.u8.wrap (BitVec.ofInt 8 ((s.getD 0 0).toNat:Int) &&& BitVec.ofInt 8 127).toNat))))] hW ak fun aJ al=>?_
 refine qad (qaa ?_)
 refine wp_seq ?_
 refine qac [0,1,2,3,4] kz ?_
 refine qaj [0] [1,2,3,4] [(0,.v (.slice A s.length c)),(4,.v (.int .u32 (IntKind.u32.wrap (IntKind.u8.wrap (BitVec.ofInt 8 ((s.getD 0 0).toNat:Int) &&& BitVec.ofInt 8 127).toNat)))),(14,.v (.slice A s.length c))] hW al fun aK am=>?_
 refine qak (qat am (t:=22) (A:=A) (m:=s.length) (q:=0) (d:=15) kz (e:=5) (size:=1) (bytes:=1) (j:=0) kz ac rfl (by first | omega | (simp only [List.length_append,be_length,List.length_cons,List.length_nil] at *; omega)) fun aL ao=>?_)
 refine qak (qaC ao (t:=5) (b:=aB) (o:=aC + 0 * 1) (d:=16) kz (cs:=[.int .u8 ((s.getD 0 0).toNat:Int)]) (v:=.int .u8 ((s.getD 0 0).toNat:Int)) kz (AtF.move aa hW.step nilM qa0).at_ fun aM ap=>?_)
 refine qaj [3,4] [] [(0,.v (.slice A s.length c)),(4,.v (.int .u32 (IntKind.u32.wrap (IntKind.u8.wrap (BitVec.ofInt 8 ((s.getD 0 0).toNat:Int) &&& BitVec.ofInt 8 127).toNat)))),(18,.v (.bool ((IntKind.u8.wrap (BitVec.ofInt 8 ((s.getD 0 0).toNat:Int) &&& BitVec.ofInt 8 128).toNat) == 0)))] hW ap fun aN ae=>?_
 refine qad (qaa ?_)
 refine qaq ae (b:=(IntKind.u8.wrap (BitVec.ofInt 8 ((s.getD 0 0).toNat:Int) &&& BitVec.ofInt 8 128).toNat) == 0) kz ((qcH _ (qbX s 0)).trans (decide_eq_false (by have:=h0; unfold oc at this; omega))) ?_
 refine qar [(0,.v (.slice A s.length c)),(4,.v (.int .u32 (IntKind.u32.wrap (IntKind.u8.wrap (BitVec.ofInt 8 ((s.getD 0 0).toNat:Int) &&& BitVec.ofInt 8 127).toNat)))),(22,.v (.bool (decide (((s.length:Nat):Int) < 2))))] hW ae fun aO af=>?_
 refine qaq af (b:=decide (((s.length:Nat):Int) < 2)) kz (decide_eq_false (by omega)) ?_
 refine wp_skip ?_
 refine qaa ?_
 refine qac [0,1,2,3,4,5,6,7,8] kz ?_
 refine qaj [0,1] [2,3,4,5,6,7,8] [(0,.v (.slice A s.length c)),(23,.v (.int .u32 (IntKind.u32.wrap (IntKind.u8.wrap (BitVec.ofInt 8 ((s.getD 0 0).toNat:Int) &&& BitVec.ofInt 8 127).toNat)))),(24,.v (.slice A s.length c))] hW af fun aP ar=>?_
 obtain ⟨aD,aE,ag,aG,ab⟩:=Slots.get ho (i:=1) (by first | omega | (simp only [List.length_append,be_length,List.length_cons,List.length_nil] at *; omega))
 refine qak (qat ar (t:=22) (A:=A) (m:=s.length) (q:=1) (d:=25) kz (e:=5) (size:=1) (bytes:=1) (j:=1) kz ag rfl (by first | omega | (simp only [List.length_append,be_length,List.length_cons,List.length_nil] at *; omega)) fun aQ au=>?_)
 refine qak (qaC au (t:=5) (b:=aD) (o:=aE + 1 * 1) (d:=26) kz (cs:=[.int .u8 ((s.getD 1 0).toNat:Int)]) (v:=.int .u8 ((s.getD 1 0).toNat:Int)) kz (AtF.move ab hW.step nilM qa0).at_ fun aR av=>?_)
 refine qaj [4,5,6,7,8] [] [(0,.v (.slice A s.length c)),(4,.v (.int .u32 (IntKind.u32.wrap (BitVec.ofInt 32 (IntKind.u32.wrap (IntKind.u8.wrap (BitVec.ofInt 8 ((s.getD 0 0).toNat:Int) &&& BitVec.ofInt 8 127).toNat)) ||| BitVec.ofInt 32 (IntKind.u32.wrap ((IntKind.u32.wrap (IntKind.u8.wrap (BitVec.ofInt 8 ((s.getD 1 0).toNat:Int) &&& BitVec.ofInt 8 127).toNat)) * 128))).toNat)))] hW av fun aS aw=>?_
 refine qad (qaa ?_)
 refine wp_seq ?_
 refine qac [0,1,2,3,4] kz ?_
 refine qaj [0] [1,2,3,4] [(0,.v (.slice A s.length c)),(4,.v (.int .u32 (IntKind.u32.wrap (BitVec.ofInt 32 (IntKind.u32.wrap (IntKind.u8.wrap (BitVec.ofInt 8 ((s.getD 0 0).toNat:Int) &&& BitVec.ofInt 8 127).toNat)) ||| BitVec.ofInt 32 (IntKind.u32.wrap ((IntKind.u32.wrap (IntKind.u8.wrap (BitVec.ofInt 8 ((s.getD 1 0).toNat:Int) &&& BitVec.ofInt 8 127).toNat)) * 128))).toNat))),(31,.v (.slice A s.length c))] hW aw fun aT ax=>?_
 refine qak (qat ax (t:=22) (A:=A) (m:=s.length) (q:=1) (d:=32) kz (e:=5) (size:=1) (bytes:=1) (j:=1) kz ag rfl (by first | omega | (simp only [List.length_append,be_length,List.length_cons,List.length_nil] at *; omega)) fun aU ay=>?_)
 refine qak (qaC ay (t:=5) (b:=aD) (o:=aE + 1 * 1) (d:=33) kz (cs:=[.int .u8 ((s.getD 1 0).toNat:Int)]) (v:=.int .u8 ((s.getD 1 0).toNat:Int)) kz (AtF.move ab hW.step nilM qa0).at_ fun aV az=>?_)
 refine qaj [3,4] [] [(0,.v (.slice A s.length c)),(4,.v (.int .u32 (IntKind.u32.wrap (BitVec.ofInt 32 (IntKind.u32.wrap (IntKind.u8.wrap (BitVec.ofInt 8 ((s.getD 0 0).toNat:Int) &&& BitVec.ofInt 8 127).toNat)) ||| BitVec.ofInt 32 (IntKind.u32.wrap ((IntKind.u32.wrap (IntKind.u8.wrap (BitVec.ofInt 8 ((s.getD 1 0).toNat:Int) &&& BitVec.ofInt 8 127).toNat)) * 128))).toNat))),(35,.v (.bool ((IntKind.u8.wrap (BitVec.ofInt 8 ((s.getD 1 0).toNat:Int) &&& BitVec.ofInt 8 128).toNat) == 0)))] hW az fun aW ah=>?_
 refine qad (qaa ?_)
 refine qbz ah (b:=(IntKind.u8.wrap (BitVec.ofInt 8 ((s.getD 1 0).toNat:Int) &&& BitVec.ofInt 8 128).toNat) == 0) kz ((qcH _ (qbX s 1)).trans (decide_eq_true (by have:=h1; unfold oc at this; omega))) ?_
 refine qar [(2,.v (.int .u32 (IntKind.u32.wrap (BitVec.ofInt 32 (IntKind.u32.wrap (IntKind.u8.wrap (BitVec.ofInt 8 ((s.getD 0 0).toNat:Int) &&& BitVec.ofInt 8 127).toNat)) ||| BitVec.ofInt 32 (IntKind.u32.wrap ((IntKind.u32.wrap (IntKind.u8.wrap (BitVec.ofInt 8 ((s.getD 1 0).toNat:Int) &&& BitVec.ofInt 8 127).toNat)) * 128))).toNat))),(3,.v (.int .i64 2))] hW ah fun aX aA=>?_
 refine wp_ret ?_
 refine qax ?_
 refine qdm ?_
 refine qaG aA hW.cells (v:=.tuple #[.int .u32 (IntKind.u32.wrap (BitVec.ofInt 32 (IntKind.u32.wrap (IntKind.u8.wrap (BitVec.ofInt 8 ((s.getD 0 0).toNat:Int) &&& BitVec.ofInt 8 127).toNat)) ||| BitVec.ofInt 32 (IntKind.u32.wrap ((IntKind.u32.wrap (IntKind.u8.wrap (BitVec.ofInt 8 ((s.getD 1 0).toNat:Int) &&& BitVec.ofInt 8 127).toNat)) * 128))).toNat),.int .i64 2]) kz ?_
 have e_:=uv_2 (oc s 0) (oc s 1) (qbX s 0) (qbX s 1)
 refine ⟨congrArg (fun z_:Int=>Ending.returned (.tuple #[.int .u32 z_,.int .i64 2])) (Eq.trans e_ ?_),hW.step⟩
 omega
theorem rUv3 {A:Option Addr} {c:Nat} (s:Bs) {w:World} {F:Nat → Nat → Prop} (ho:Octs w F A c s) (hl:3 ≤ s.length) (d0 d1 d2:Nat) (h0:oc s 0 = d0 + 128) (h1:oc s 1 = d1 + 128) (h2:oc s 2 = d2) (g0:d0 < 128) (g1:d1 < 128) (g2:d2 < 128) :
  Calls Tryz.prog 110 #[.slice A s.length c] w (qcp w (.tuple #[.int .u32 ((d0 + d1 * 128 + d2 * 16384:Nat):Int),.int .i64 3])):=by
 refine enter (n:=87) Tryz.func110 rfl Tryz.ntmps110 kz fun a hE=>?_
 have hW:=WOk.start w Nil
 refine qar [(0,.v (.slice A s.length c))] hW hE fun a1 hE2=>?_
 refine wp_scope_straight ?_
 refine qar [(0,.v (.slice A s.length c))] hW hE2 fun a3 hE4=>?_
 refine qar [(0,.v (.slice A s.length c))] hW hE4 fun a5 hE6=>?_
 refine wp_seq ?_
 refine qar [(0,.v (.slice A s.length c)),(8,.v (.bool (decide (((s.length:Nat):Int) < 1))))] hW hE6 fun a7 hE8=>?_
 refine qaq hE8 (b:=decide (((s.length:Nat):Int) < 1)) kz (decide_eq_false (by omega)) ?_
 refine wp_skip ?_
 refine qaa ?_
 refine qac [0,1,2,3,4,5] kz ?_
 refine qaj [0] [1,2,3,4,5] [(0,.v (.slice A s.length c)),(9,.v (.slice A s.length c))] hW hE8 fun a9 am=>?_
 obtain ⟨aM,aN,ae,aS,aa⟩:=Slots.get ho (i:=0) (by first | omega | (simp only [List.length_append,be_length,List.length_cons,List.length_nil] at *; omega))
 refine qak (qat am (t:=22) (A:=A) (m:=s.length) (q:=0) (d:=10) kz (e:=5) (size:=1) (bytes:=1) (j:=0) kz ae rfl (by first | omega | (simp only [List.length_append,be_length,List.length_cons,List.length_nil] at *; omega)) fun aV ao=>?_)
 refine qak (qaC ao (t:=5) (b:=aM) (o:=aN + 0 * 1) (d:=11) kz (cs:=[.int .u8 ((s.getD 0 0).toNat:Int)]) (v:=.int .u8 ((s.getD 0 0).toNat:Int)) kz (AtF.move aa hW.step nilM qa0).at_ fun aW ap=>?_)
 refine qaj [3,4,5] [] [(0,.v (.slice A s.length c)),(4,.v (.int .u32 (IntKind.u32.wrap (IntKind.u8.wrap (BitVec.ofInt 8 ((s.getD 0 0).toNat:Int) &&& BitVec.ofInt 8 127).toNat))))] hW ap fun aX ar=>?_
 refine qad (qaa ?_)
 refine wp_seq ?_
 refine qac [0,1,2,3,4] kz ?_
 refine qaj [0] [1,2,3,4] [(0,.v (.slice A s.length c)),(4,.v (.int .u32 (IntKind.u32.wrap (IntKind.u8.wrap (BitVec.ofInt 8 ((s.getD 0 0).toNat:Int) &&& BitVec.ofInt 8 127).toNat)))),(14,.v (.slice A s.length c))] hW ar fun aY au=>?_
 refine qak (qat au (t:=22) (A:=A) (m:=s.length) (q:=0) (d:=15) kz (e:=5) (size:=1) (bytes:=1) (j:=0) kz ae rfl (by first | omega | (simp only [List.length_append,be_length,List.length_cons,List.length_nil] at *; omega)) fun aZ av=>?_)
 refine qak (qaC av (t:=5) (b:=aM) (o:=aN + 0 * 1) (d:=16) kz (cs:=[.int .u8 ((s.getD 0 0).toNat:Int)]) (v:=.int .u8 ((s.getD 0 0).toNat:Int)) kz (AtF.move aa hW.step nilM qa0).at_ fun ba aw=>?_)
 refine qaj [3,4] [] [(0,.v (.slice A s.length c)),(4,.v (.int .u32 (IntKind.u32.wrap (IntKind.u8.wrap (BitVec.ofInt 8 ((s.getD 0 0).toNat:Int) &&& BitVec.ofInt 8 127).toNat)))),(18,.v (.bool ((IntKind.u8.wrap (BitVec.ofInt 8 ((s.getD 0 0).toNat:Int) &&& BitVec.ofInt 8 128).toNat) == 0)))] hW aw fun bd af=>?_
 refine qad (qaa ?_)
 refine qaq af (b:=(IntKind.u8.wrap (BitVec.ofInt 8 ((s.getD 0 0).toNat:Int) &&& BitVec.ofInt 8 128).toNat) == 0) kz ((qcH _ (qbX s 0)).trans (decide_eq_false (by have:=h0; unfold oc at this; omega))) ?_
 refine qar [(0,.v (.slice A s.length c)),(4,.v (.int .u32 (IntKind.u32.wrap (IntKind.u8.wrap (BitVec.ofInt 8 ((s.getD 0 0).toNat:Int) &&& BitVec.ofInt 8 127).toNat)))),(22,.v (.bool (decide (((s.length:Nat):Int) < 2))))] hW af fun bf ag=>?_
 refine qaq ag (b:=decide (((s.length:Nat):Int) < 2)) kz (decide_eq_false (by omega)) ?_
 refine wp_skip ?_
 refine qaa ?_
 refine qac [0,1,2,3,4,5,6,7,8] kz ?_
 refine qaj [0,1] [2,3,4,5,6,7,8] [(0,.v (.slice A s.length c)),(23,.v (.int .u32 (IntKind.u32.wrap (IntKind.u8.wrap (BitVec.ofInt 8 ((s.getD 0 0).toNat:Int) &&& BitVec.ofInt 8 127).toNat)))),(24,.v (.slice A s.length c))] hW ag fun bg ax=>?_
 obtain ⟨aO,aP,ah,aT,ab⟩:=Slots.get ho (i:=1) (by first | omega | (simp only [List.length_append,be_length,List.length_cons,List.length_nil] at *; omega))
 refine qak (qat ax (t:=22) (A:=A) (m:=s.length) (q:=1) (d:=25) kz (e:=5) (size:=1) (bytes:=1) (j:=1) kz ah rfl (by first | omega | (simp only [List.length_append,be_length,List.length_cons,List.length_nil] at *; omega)) fun bh ay=>?_)
 refine qak (qaC ay (t:=5) (b:=aO) (o:=aP + 1 * 1) (d:=26) kz (cs:=[.int .u8 ((s.getD 1 0).toNat:Int)]) (v:=.int .u8 ((s.getD 1 0).toNat:Int)) kz (AtF.move ab hW.step nilM qa0).at_ fun bi az=>?_)
 refine qaj [4,5,6,7,8] [] [(0,.v (.slice A s.length c)),(4,.v (.int .u32 (IntKind.u32.wrap (BitVec.ofInt 32 (IntKind.u32.wrap (IntKind.u8.wrap (BitVec.ofInt 8 ((s.getD 0 0).toNat:Int) &&& BitVec.ofInt 8 127).toNat)) ||| BitVec.ofInt 32 (IntKind.u32.wrap ((IntKind.u32.wrap (IntKind.u8.wrap (BitVec.ofInt 8 ((s.getD 1 0).toNat:Int) &&& BitVec.ofInt 8 127).toNat)) * 128))).toNat)))] hW az fun bj aA=>?_
 refine qad (qaa ?_)
 refine wp_seq ?_
 refine qac [0,1,2,3,4] kz ?_
 refine qaj [0] [1,2,3,4] [(0,.v (.slice A s.length c)),(4,.v (.int .u32 (IntKind.u32.wrap (BitVec.ofInt 32 (IntKind.u32.wrap (IntKind.u8.wrap (BitVec.ofInt 8 ((s.getD 0 0).toNat:Int) &&& BitVec.ofInt 8 127).toNat)) ||| BitVec.ofInt 32 (IntKind.u32.wrap ((IntKind.u32.wrap (IntKind.u8.wrap (BitVec.ofInt 8 ((s.getD 1 0).toNat:Int) &&& BitVec.ofInt 8 127).toNat)) * 128))).toNat))),(31,.v (.slice A s.length c))] hW aA fun bk aB=>?_
 refine qak (qat aB (t:=22) (A:=A) (m:=s.length) (q:=1) (d:=32) kz (e:=5) (size:=1) (bytes:=1) (j:=1) kz ah rfl (by first | omega | (simp only [List.length_append,be_length,List.length_cons,List.length_nil] at *; omega)) fun bn aC=>?_)
 refine qak (qaC aC (t:=5) (b:=aO) (o:=aP + 1 * 1) (d:=33) kz (cs:=[.int .u8 ((s.getD 1 0).toNat:Int)]) (v:=.int .u8 ((s.getD 1 0).toNat:Int)) kz (AtF.move ab hW.step nilM qa0).at_ fun bo aD=>?_)
 refine qaj [3,4] [] [(0,.v (.slice A s.length c)),(4,.v (.int .u32 (IntKind.u32.wrap (BitVec.ofInt 32 (IntKind.u32.wrap (IntKind.u8.wrap (BitVec.ofInt 8 ((s.getD 0 0).toNat:Int) &&& BitVec.ofInt 8 127).toNat)) ||| BitVec.ofInt 32 (IntKind.u32.wrap ((IntKind.u32.wrap (IntKind.u8.wrap (BitVec.ofInt 8 ((s.getD 1 0).toNat:Int) &&& BitVec.ofInt 8 127).toNat)) * 128))).toNat))),(35,.v (.bool ((IntKind.u8.wrap (BitVec.ofInt 8 ((s.getD 1 0).toNat:Int) &&& BitVec.ofInt 8 128).toNat) == 0)))] hW aD fun bp ai=>?_
 refine qad (qaa ?_)
 refine qaq ai (b:=(IntKind.u8.wrap (BitVec.ofInt 8 ((s.getD 1 0).toNat:Int) &&& BitVec.ofInt 8 128).toNat) == 0) kz ((qcH _ (qbX s 1)).trans (decide_eq_false (by have:=h1; unfold oc at this; omega))) ?_
 refine qar [(0,.v (.slice A s.length c)),(4,.v (.int .u32 (IntKind.u32.wrap (BitVec.ofInt 32 (IntKind.u32.wrap (IntKind.u8.wrap (BitVec.ofInt 8 ((s.getD 0 0).toNat:Int) &&& BitVec.ofInt 8 127).toNat)) ||| BitVec.ofInt 32 (IntKind.u32.wrap ((IntKind.u32.wrap (IntKind.u8.wrap (BitVec.ofInt 8 ((s.getD 1 0).toNat:Int) &&& BitVec.ofInt 8 127).toNat)) * 128))).toNat))),(39,.v (.bool (decide (((s.length:Nat):Int) < 3))))] hW ai fun bq aj=>?_
 refine qaq aj (b:=decide (((s.length:Nat):Int) < 3)) kz (decide_eq_false (by omega)) ?_
 refine wp_skip ?_
 refine qaa ?_
 refine qac [0,1,2,3,4,5,6,7,8] kz ?_
 refine qaj [0,1] [2,3,4,5,6,7,8] [(0,.v (.slice A s.length c)),(40,.v (.int .u32 (IntKind.u32.wrap (BitVec.ofInt 32 (IntKind.u32.wrap (IntKind.u8.wrap (BitVec.ofInt 8 ((s.getD 0 0).toNat:Int) &&& BitVec.ofInt 8 127).toNat)) ||| BitVec.ofInt 32 (IntKind.u32.wrap ((IntKind.u32.wrap (IntKind.u8.wrap (BitVec.ofInt 8 ((s.getD 1 0).toNat:Int) &&& BitVec.ofInt 8 127).toNat)) * 128))).toNat))),(41,.v (.slice A s.length c))] hW aj fun bt aE=>?_
 obtain ⟨aQ,aR,ak,aU,ac⟩:=Slots.get ho (i:=2) (by first | omega | (simp only [List.length_append,be_length,List.length_cons,List.length_nil] at *; omega))
 refine qak (qat aE (t:=22) (A:=A) (m:=s.length) (q:=2) (d:=42) kz (e:=5) (size:=1) (bytes:=1) (j:=2) kz ak rfl (by first | omega | (simp only [List.length_append,be_length,List.length_cons,List.length_nil] at *; omega)) fun bu aF=>?_)
 refine qak (qaC aF (t:=5) (b:=aQ) (o:=aR + 2 * 1) (d:=43) kz (cs:=[.int .u8 ((s.getD 2 0).toNat:Int)]) (v:=.int .u8 ((s.getD 2 0).toNat:Int)) kz (AtF.move ac hW.step nilM qa0).at_ fun bw aG=>?_)
 refine qaj [4,5,6,7,8] [] [(0,.v (.slice A s.length c)),(4,.v (.int .u32 (IntKind.u32.wrap (BitVec.ofInt 32 (IntKind.u32.wrap (BitVec.ofInt 32 (IntKind.u32.wrap (IntKind.u8.wrap (BitVec.ofInt 8 ((s.getD 0 0).toNat:Int) &&& BitVec.ofInt 8 127).toNat)) ||| BitVec.ofInt 32 (IntKind.u32.wrap ((IntKind.u32.wrap (IntKind.u8.wrap (BitVec.ofInt 8 ((s.getD 1 0).toNat:Int) &&& BitVec.ofInt 8 127).toNat)) * 128))).toNat) ||| BitVec.ofInt 32 (IntKind.u32.wrap ((IntKind.u32.wrap (IntKind.u8.wrap (BitVec.ofInt 8 ((s.getD 2 0).toNat:Int) &&& BitVec.ofInt 8 127).toNat)) * 16384))).toNat)))] hW aG fun bx aH=>?_
 refine qad (qaa ?_)
 refine wp_seq ?_
 refine qac [0,1,2,3,4] kz ?_
 refine qaj [0] [1,2,3,4] [(0,.v (.slice A s.length c)),(4,.v (.int .u32 (IntKind.u32.wrap (BitVec.ofInt 32 (IntKind.u32.wrap (BitVec.ofInt 32 (IntKind.u32.wrap (IntKind.u8.wrap (BitVec.ofInt 8 ((s.getD 0 0).toNat:Int) &&& BitVec.ofInt 8 127).toNat)) ||| BitVec.ofInt 32 (IntKind.u32.wrap ((IntKind.u32.wrap (IntKind.u8.wrap (BitVec.ofInt 8 ((s.getD 1 0).toNat:Int) &&& BitVec.ofInt 8 127).toNat)) * 128))).toNat) ||| BitVec.ofInt 32 (IntKind.u32.wrap ((IntKind.u32.wrap (IntKind.u8.wrap (BitVec.ofInt 8 ((s.getD 2 0).toNat:Int) &&& BitVec.ofInt 8 127).toNat)) * 16384))).toNat))),(48,.v (.slice A s.length c))] hW aH fun bz aI=>?_
 refine qak (qat aI (t:=22) (A:=A) (m:=s.length) (q:=2) (d:=49) kz (e:=5) (size:=1) (bytes:=1) (j:=2) kz ak rfl (by first | omega | (simp only [List.length_append,be_length,List.length_cons,List.length_nil] at *; omega)) fun bA aJ=>?_)
 refine qak (qaC aJ (t:=5) (b:=aQ) (o:=aR + 2 * 1) (d:=50) kz (cs:=[.int .u8 ((s.getD 2 0).toNat:Int)]) (v:=.int .u8 ((s.getD 2 0).toNat:Int)) kz (AtF.move ac hW.step nilM qa0).at_ fun bB aK=>?_)
 refine qaj [3,4] [] [(0,.v (.slice A s.length c)),(4,.v (.int .u32 (IntKind.u32.wrap (BitVec.ofInt 32 (IntKind.u32.wrap (BitVec.ofInt 32 (IntKind.u32.wrap (IntKind.u8.wrap (BitVec.ofInt 8 ((s.getD 0 0).toNat:Int) &&& BitVec.ofInt 8 127).toNat)) ||| BitVec.ofInt 32 (IntKind.u32.wrap ((IntKind.u32.wrap (IntKind.u8.wrap (BitVec.ofInt 8 ((s.getD 1 0).toNat:Int) &&& BitVec.ofInt 8 127).toNat)) * 128))).toNat) ||| BitVec.ofInt 32 (IntKind.u32.wrap ((IntKind.u32.wrap (IntKind.u8.wrap (BitVec.ofInt 8 ((s.getD 2 0).toNat:Int) &&& BitVec.ofInt 8 127).toNat)) * 16384))).toNat))),(52,.v (.bool ((IntKind.u8.wrap (BitVec.ofInt 8 ((s.getD 2 0).toNat:Int) &&& BitVec.ofInt 8 128).toNat) == 0)))] hW aK fun bC al=>?_
 refine qad (qaa ?_)
 refine qbz al (b:=(IntKind.u8.wrap (BitVec.ofInt 8 ((s.getD 2 0).toNat:Int) &&& BitVec.ofInt 8 128).toNat) == 0) kz ((qcH _ (qbX s 2)).trans (decide_eq_true (by have:=h2; unfold oc at this; omega))) ?_
 refine qar [(2,.v (.int .u32 (IntKind.u32.wrap (BitVec.ofInt 32 (IntKind.u32.wrap (BitVec.ofInt 32 (IntKind.u32.wrap (IntKind.u8.wrap (BitVec.ofInt 8 ((s.getD 0 0).toNat:Int) &&& BitVec.ofInt 8 127).toNat)) ||| BitVec.ofInt 32 (IntKind.u32.wrap ((IntKind.u32.wrap (IntKind.u8.wrap (BitVec.ofInt 8 ((s.getD 1 0).toNat:Int) &&& BitVec.ofInt 8 127).toNat)) * 128))).toNat) ||| BitVec.ofInt 32 (IntKind.u32.wrap ((IntKind.u32.wrap (IntKind.u8.wrap (BitVec.ofInt 8 ((s.getD 2 0).toNat:Int) &&& BitVec.ofInt 8 127).toNat)) * 16384))).toNat))),(3,.v (.int .i64 3))] hW al fun bD aL=>?_
 refine wp_ret ?_
 refine qax ?_
 refine qdm ?_
 refine qaG aL hW.cells (v:=.tuple #[.int .u32 (IntKind.u32.wrap (BitVec.ofInt 32 (IntKind.u32.wrap (BitVec.ofInt 32 (IntKind.u32.wrap (IntKind.u8.wrap (BitVec.ofInt 8 ((s.getD 0 0).toNat:Int) &&& BitVec.ofInt 8 127).toNat)) ||| BitVec.ofInt 32 (IntKind.u32.wrap ((IntKind.u32.wrap (IntKind.u8.wrap (BitVec.ofInt 8 ((s.getD 1 0).toNat:Int) &&& BitVec.ofInt 8 127).toNat)) * 128))).toNat) ||| BitVec.ofInt 32 (IntKind.u32.wrap ((IntKind.u32.wrap (IntKind.u8.wrap (BitVec.ofInt 8 ((s.getD 2 0).toNat:Int) &&& BitVec.ofInt 8 127).toNat)) * 16384))).toNat),.int .i64 3]) kz ?_
 have e_:=uv_3 (oc s 0) (oc s 1) (oc s 2) (qbX s 0) (qbX s 1) (qbX s 2)
 refine ⟨congrArg (fun z_:Int=>Ending.returned (.tuple #[.int .u32 z_,.int .i64 3])) (Eq.trans e_ ?_),hW.step⟩
 omega
theorem rUv4 {A:Option Addr} {c:Nat} (s:Bs) {w:World} {F:Nat → Nat → Prop} (ho:Octs w F A c s) (hl:4 ≤ s.length) (d0 d1 d2 d3:Nat) (h0:oc s 0 = d0 + 128) (h1:oc s 1 = d1 + 128) (h2:oc s 2 = d2 + 128) (h3:oc s 3 = d3) (g0:d0 < 128) (g1:d1 < 128) (g2:d2 < 128) (g3:d3 < 128) :
  Calls Tryz.prog 110 #[.slice A s.length c] w (qcp w (.tuple #[.int .u32 ((d0 + d1 * 128 + d2 * 16384 + d3 * 2097152:Nat):Int),.int .i64 4])):=by
 refine enter (n:=87) Tryz.func110 rfl Tryz.ntmps110 kz fun a hE=>?_
 have hW:=WOk.start w Nil
 refine qar [(0,.v (.slice A s.length c))] hW hE fun a1 hE2=>?_
 refine wp_scope_straight ?_
 refine qar [(0,.v (.slice A s.length c))] hW hE2 fun a3 hE4=>?_
 refine qar [(0,.v (.slice A s.length c))] hW hE4 fun a5 hE6=>?_
 refine wp_seq ?_
 refine qar [(0,.v (.slice A s.length c)),(8,.v (.bool (decide (((s.length:Nat):Int) < 1))))] hW hE6 fun a7 hE8=>?_
 refine qaq hE8 (b:=decide (((s.length:Nat):Int) < 1)) kz (decide_eq_false (by omega)) ?_
 refine wp_skip ?_
 refine qaa ?_
 refine qac [0,1,2,3,4,5] kz ?_
 refine qaj [0] [1,2,3,4,5] [(0,.v (.slice A s.length c)),(9,.v (.slice A s.length c))] hW hE8 fun a9 av=>?_
 obtain ⟨aX,aY,af,bi,aa⟩:=Slots.get ho (i:=0) (by first | omega | (simp only [List.length_append,be_length,List.length_cons,List.length_nil] at *; omega))
 refine qak (qat av (t:=22) (A:=A) (m:=s.length) (q:=0) (d:=10) kz (e:=5) (size:=1) (bytes:=1) (j:=0) kz af rfl (by first | omega | (simp only [List.length_append,be_length,List.length_cons,List.length_nil] at *; omega)) fun bo aw=>?_)
 refine qak (qaC aw (t:=5) (b:=aX) (o:=aY + 0 * 1) (d:=11) kz (cs:=[.int .u8 ((s.getD 0 0).toNat:Int)]) (v:=.int .u8 ((s.getD 0 0).toNat:Int)) kz (AtF.move aa hW.step nilM qa0).at_ fun bp ax=>?_)
 refine qaj [3,4,5] [] [(0,.v (.slice A s.length c)),(4,.v (.int .u32 (IntKind.u32.wrap (IntKind.u8.wrap (BitVec.ofInt 8 ((s.getD 0 0).toNat:Int) &&& BitVec.ofInt 8 127).toNat))))] hW ax fun bq ay=>?_
 refine qad (qaa ?_)
 refine wp_seq ?_
 refine qac [0,1,2,3,4] kz ?_
 refine qaj [0] [1,2,3,4] [(0,.v (.slice A s.length c)),(4,.v (.int .u32 (IntKind.u32.wrap (IntKind.u8.wrap (BitVec.ofInt 8 ((s.getD 0 0).toNat:Int) &&& BitVec.ofInt 8 127).toNat)))),(14,.v (.slice A s.length c))] hW ay fun bt az=>?_
 refine qak (qat az (t:=22) (A:=A) (m:=s.length) (q:=0) (d:=15) kz (e:=5) (size:=1) (bytes:=1) (j:=0) kz af rfl (by first | omega | (simp only [List.length_append,be_length,List.length_cons,List.length_nil] at *; omega)) fun bu aA=>?_)
 refine qak (qaC aA (t:=5) (b:=aX) (o:=aY + 0 * 1) (d:=16) kz (cs:=[.int .u8 ((s.getD 0 0).toNat:Int)]) (v:=.int .u8 ((s.getD 0 0).toNat:Int)) kz (AtF.move aa hW.step nilM qa0).at_ fun bw aB=>?_)
 refine qaj [3,4] [] [(0,.v (.slice A s.length c)),(4,.v (.int .u32 (IntKind.u32.wrap (IntKind.u8.wrap (BitVec.ofInt 8 ((s.getD 0 0).toNat:Int) &&& BitVec.ofInt 8 127).toNat)))),(18,.v (.bool ((IntKind.u8.wrap (BitVec.ofInt 8 ((s.getD 0 0).toNat:Int) &&& BitVec.ofInt 8 128).toNat) == 0)))] hW aB fun bx ag=>?_
 refine qad (qaa ?_)
 refine qaq ag (b:=(IntKind.u8.wrap (BitVec.ofInt 8 ((s.getD 0 0).toNat:Int) &&& BitVec.ofInt 8 128).toNat) == 0) kz ((qcH _ (qbX s 0)).trans (decide_eq_false (by have:=h0; unfold oc at this; omega))) ?_
 refine qar [(0,.v (.slice A s.length c)),(4,.v (.int .u32 (IntKind.u32.wrap (IntKind.u8.wrap (BitVec.ofInt 8 ((s.getD 0 0).toNat:Int) &&& BitVec.ofInt 8 127).toNat)))),(22,.v (.bool (decide (((s.length:Nat):Int) < 2))))] hW ag fun bz ah=>?_
 refine qaq ah (b:=decide (((s.length:Nat):Int) < 2)) kz (decide_eq_false (by omega)) ?_
 refine wp_skip ?_
 refine qaa ?_
 refine qac [0,1,2,3,4,5,6,7,8] kz ?_
 refine qaj [0,1] [2,3,4,5,6,7,8] [(0,.v (.slice A s.length c)),(23,.v (.int .u32 (IntKind.u32.wrap (IntKind.u8.wrap (BitVec.ofInt 8 ((s.getD 0 0).toNat:Int) &&& BitVec.ofInt 8 127).toNat)))),(24,.v (.slice A s.length c))] hW ah fun bA aC=>?_
 obtain ⟨aZ,ba,ai,bj,ab⟩:=Slots.get ho (i:=1) (by first | omega | (simp only [List.length_append,be_length,List.length_cons,List.length_nil] at *; omega))
 refine qak (qat aC (t:=22) (A:=A) (m:=s.length) (q:=1) (d:=25) kz (e:=5) (size:=1) (bytes:=1) (j:=1) kz ai rfl (by first | omega | (simp only [List.length_append,be_length,List.length_cons,List.length_nil] at *; omega)) fun bB aD=>?_)
 refine qak (qaC aD (t:=5) (b:=aZ) (o:=ba + 1 * 1) (d:=26) kz (cs:=[.int .u8 ((s.getD 1 0).toNat:Int)]) (v:=.int .u8 ((s.getD 1 0).toNat:Int)) kz (AtF.move ab hW.step nilM qa0).at_ fun bC aE=>?_)
 refine qaj [4,5,6,7,8] [] [(0,.v (.slice A s.length c)),(4,.v (.int .u32 (IntKind.u32.wrap (BitVec.ofInt 32 (IntKind.u32.wrap (IntKind.u8.wrap (BitVec.ofInt 8 ((s.getD 0 0).toNat:Int) &&& BitVec.ofInt 8 127).toNat)) ||| BitVec.ofInt 32 (IntKind.u32.wrap ((IntKind.u32.wrap (IntKind.u8.wrap (BitVec.ofInt 8 ((s.getD 1 0).toNat:Int) &&& BitVec.ofInt 8 127).toNat)) * 128))).toNat)))] hW aE fun bD aF=>?_
 refine qad (qaa ?_)
 refine wp_seq ?_
 refine qac [0,1,2,3,4] kz ?_
 refine qaj [0] [1,2,3,4] [(0,.v (.slice A s.length c)),(4,.v (.int .u32 (IntKind.u32.wrap (BitVec.ofInt 32 (IntKind.u32.wrap (IntKind.u8.wrap (BitVec.ofInt 8 ((s.getD 0 0).toNat:Int) &&& BitVec.ofInt 8 127).toNat)) ||| BitVec.ofInt 32 (IntKind.u32.wrap ((IntKind.u32.wrap (IntKind.u8.wrap (BitVec.ofInt 8 ((s.getD 1 0).toNat:Int) &&& BitVec.ofInt 8 127).toNat)) * 128))).toNat))),(31,.v (.slice A s.length c))] hW aF fun bE aG=>?_
 refine qak (qat aG (t:=22) (A:=A) (m:=s.length) (q:=1) (d:=32) kz (e:=5) (size:=1) (bytes:=1) (j:=1) kz ai rfl (by first | omega | (simp only [List.length_append,be_length,List.length_cons,List.length_nil] at *; omega)) fun bF aH=>?_)
 refine qak (qaC aH (t:=5) (b:=aZ) (o:=ba + 1 * 1) (d:=33) kz (cs:=[.int .u8 ((s.getD 1 0).toNat:Int)]) (v:=.int .u8 ((s.getD 1 0).toNat:Int)) kz (AtF.move ab hW.step nilM qa0).at_ fun bG aI=>?_)
 refine qaj [3,4] [] [(0,.v (.slice A s.length c)),(4,.v (.int .u32 (IntKind.u32.wrap (BitVec.ofInt 32 (IntKind.u32.wrap (IntKind.u8.wrap (BitVec.ofInt 8 ((s.getD 0 0).toNat:Int) &&& BitVec.ofInt 8 127).toNat)) ||| BitVec.ofInt 32 (IntKind.u32.wrap ((IntKind.u32.wrap (IntKind.u8.wrap (BitVec.ofInt 8 ((s.getD 1 0).toNat:Int) &&& BitVec.ofInt 8 127).toNat)) * 128))).toNat))),(35,.v (.bool ((IntKind.u8.wrap (BitVec.ofInt 8 ((s.getD 1 0).toNat:Int) &&& BitVec.ofInt 8 128).toNat) == 0)))] hW aI fun bH aj=>?_
 refine qad (qaa ?_)
 refine qaq aj (b:=(IntKind.u8.wrap (BitVec.ofInt 8 ((s.getD 1 0).toNat:Int) &&& BitVec.ofInt 8 128).toNat) == 0) kz ((qcH _ (qbX s 1)).trans (decide_eq_false (by have:=h1; unfold oc at this; omega))) ?_
 refine qar [(0,.v (.slice A s.length c)),(4,.v (.int .u32 (IntKind.u32.wrap (BitVec.ofInt 32 (IntKind.u32.wrap (IntKind.u8.wrap (BitVec.ofInt 8 ((s.getD 0 0).toNat:Int) &&& BitVec.ofInt 8 127).toNat)) ||| BitVec.ofInt 32 (IntKind.u32.wrap ((IntKind.u32.wrap (IntKind.u8.wrap (BitVec.ofInt 8 ((s.getD 1 0).toNat:Int) &&& BitVec.ofInt 8 127).toNat)) * 128))).toNat))),(39,.v (.bool (decide (((s.length:Nat):Int) < 3))))] hW aj fun bI ak=>?_
 refine qaq ak (b:=decide (((s.length:Nat):Int) < 3)) kz (decide_eq_false (by omega)) ?_
 refine wp_skip ?_
 refine qaa ?_
 refine qac [0,1,2,3,4,5,6,7,8] kz ?_
 refine qaj [0,1] [2,3,4,5,6,7,8] [(0,.v (.slice A s.length c)),(40,.v (.int .u32 (IntKind.u32.wrap (BitVec.ofInt 32 (IntKind.u32.wrap (IntKind.u8.wrap (BitVec.ofInt 8 ((s.getD 0 0).toNat:Int) &&& BitVec.ofInt 8 127).toNat)) ||| BitVec.ofInt 32 (IntKind.u32.wrap ((IntKind.u32.wrap (IntKind.u8.wrap (BitVec.ofInt 8 ((s.getD 1 0).toNat:Int) &&& BitVec.ofInt 8 127).toNat)) * 128))).toNat))),(41,.v (.slice A s.length c))] hW ak fun bJ aJ=>?_
 obtain ⟨bd,bf,al,bk,ac⟩:=Slots.get ho (i:=2) (by first | omega | (simp only [List.length_append,be_length,List.length_cons,List.length_nil] at *; omega))
 refine qak (qat aJ (t:=22) (A:=A) (m:=s.length) (q:=2) (d:=42) kz (e:=5) (size:=1) (bytes:=1) (j:=2) kz al rfl (by first | omega | (simp only [List.length_append,be_length,List.length_cons,List.length_nil] at *; omega)) fun bK aK=>?_)
 refine qak (qaC aK (t:=5) (b:=bd) (o:=bf + 2 * 1) (d:=43) kz (cs:=[.int .u8 ((s.getD 2 0).toNat:Int)]) (v:=.int .u8 ((s.getD 2 0).toNat:Int)) kz (AtF.move ac hW.step nilM qa0).at_ fun bL aL=>?_)
 refine qaj [4,5,6,7,8] [] [(0,.v (.slice A s.length c)),(4,.v (.int .u32 (IntKind.u32.wrap (BitVec.ofInt 32 (IntKind.u32.wrap (BitVec.ofInt 32 (IntKind.u32.wrap (IntKind.u8.wrap (BitVec.ofInt 8 ((s.getD 0 0).toNat:Int) &&& BitVec.ofInt 8 127).toNat)) ||| BitVec.ofInt 32 (IntKind.u32.wrap ((IntKind.u32.wrap (IntKind.u8.wrap (BitVec.ofInt 8 ((s.getD 1 0).toNat:Int) &&& BitVec.ofInt 8 127).toNat)) * 128))).toNat) ||| BitVec.ofInt 32 (IntKind.u32.wrap ((IntKind.u32.wrap (IntKind.u8.wrap (BitVec.ofInt 8 ((s.getD 2 0).toNat:Int) &&& BitVec.ofInt 8 127).toNat)) * 16384))).toNat)))] hW aL fun bM aM=>?_
 refine qad (qaa ?_)
 refine wp_seq ?_
 refine qac [0,1,2,3,4] kz ?_
 refine qaj [0] [1,2,3,4] [(0,.v (.slice A s.length c)),(4,.v (.int .u32 (IntKind.u32.wrap (BitVec.ofInt 32 (IntKind.u32.wrap (BitVec.ofInt 32 (IntKind.u32.wrap (IntKind.u8.wrap (BitVec.ofInt 8 ((s.getD 0 0).toNat:Int) &&& BitVec.ofInt 8 127).toNat)) ||| BitVec.ofInt 32 (IntKind.u32.wrap ((IntKind.u32.wrap (IntKind.u8.wrap (BitVec.ofInt 8 ((s.getD 1 0).toNat:Int) &&& BitVec.ofInt 8 127).toNat)) * 128))).toNat) ||| BitVec.ofInt 32 (IntKind.u32.wrap ((IntKind.u32.wrap (IntKind.u8.wrap (BitVec.ofInt 8 ((s.getD 2 0).toNat:Int) &&& BitVec.ofInt 8 127).toNat)) * 16384))).toNat))),(48,.v (.slice A s.length c))] hW aM fun bN aN=>?_
 refine qak (qat aN (t:=22) (A:=A) (m:=s.length) (q:=2) (d:=49) kz (e:=5) (size:=1) (bytes:=1) (j:=2) kz al rfl (by first | omega | (simp only [List.length_append,be_length,List.length_cons,List.length_nil] at *; omega)) fun bO aO=>?_)
 refine qak (qaC aO (t:=5) (b:=bd) (o:=bf + 2 * 1) (d:=50) kz (cs:=[.int .u8 ((s.getD 2 0).toNat:Int)]) (v:=.int .u8 ((s.getD 2 0).toNat:Int)) kz (AtF.move ac hW.step nilM qa0).at_ fun bP aP=>?_)
 refine qaj [3,4] [] [(0,.v (.slice A s.length c)),(4,.v (.int .u32 (IntKind.u32.wrap (BitVec.ofInt 32 (IntKind.u32.wrap (BitVec.ofInt 32 (IntKind.u32.wrap (IntKind.u8.wrap (BitVec.ofInt 8 ((s.getD 0 0).toNat:Int) &&& BitVec.ofInt 8 127).toNat)) ||| BitVec.ofInt 32 (IntKind.u32.wrap ((IntKind.u32.wrap (IntKind.u8.wrap (BitVec.ofInt 8 ((s.getD 1 0).toNat:Int) &&& BitVec.ofInt 8 127).toNat)) * 128))).toNat) ||| BitVec.ofInt 32 (IntKind.u32.wrap ((IntKind.u32.wrap (IntKind.u8.wrap (BitVec.ofInt 8 ((s.getD 2 0).toNat:Int) &&& BitVec.ofInt 8 127).toNat)) * 16384))).toNat))),(52,.v (.bool ((IntKind.u8.wrap (BitVec.ofInt 8 ((s.getD 2 0).toNat:Int) &&& BitVec.ofInt 8 128).toNat) == 0)))] hW aP fun bQ am=>?_
 refine qad (qaa ?_)
 refine qaq am (b:=(IntKind.u8.wrap (BitVec.ofInt 8 ((s.getD 2 0).toNat:Int) &&& BitVec.ofInt 8 128).toNat) == 0) kz ((qcH _ (qbX s 2)).trans (decide_eq_false (by have:=h2; unfold oc at this; omega))) ?_
 refine qar [(0,.v (.slice A s.length c)),(4,.v (.int .u32 (IntKind.u32.wrap (BitVec.ofInt 32 (IntKind.u32.wrap (BitVec.ofInt 32 (IntKind.u32.wrap (IntKind.u8.wrap (BitVec.ofInt 8 ((s.getD 0 0).toNat:Int) &&& BitVec.ofInt 8 127).toNat)) ||| BitVec.ofInt 32 (IntKind.u32.wrap ((IntKind.u32.wrap (IntKind.u8.wrap (BitVec.ofInt 8 ((s.getD 1 0).toNat:Int) &&& BitVec.ofInt 8 127).toNat)) * 128))).toNat) ||| BitVec.ofInt 32 (IntKind.u32.wrap ((IntKind.u32.wrap (IntKind.u8.wrap (BitVec.ofInt 8 ((s.getD 2 0).toNat:Int) &&& BitVec.ofInt 8 127).toNat)) * 16384))).toNat))),(56,.v (.bool (decide (((s.length:Nat):Int) < 4))))] hW am fun bR ao=>?_
 refine qaq ao (b:=decide (((s.length:Nat):Int) < 4)) kz (decide_eq_false (by omega)) ?_
 refine wp_skip ?_
 refine qaa ?_
 refine qac [0,1,2,3,4,5,6,7,8] kz ?_
 refine qaj [0,1] [2,3,4,5,6,7,8] [(0,.v (.slice A s.length c)),(57,.v (.int .u32 (IntKind.u32.wrap (BitVec.ofInt 32 (IntKind.u32.wrap (BitVec.ofInt 32 (IntKind.u32.wrap (IntKind.u8.wrap (BitVec.ofInt 8 ((s.getD 0 0).toNat:Int) &&& BitVec.ofInt 8 127).toNat)) ||| BitVec.ofInt 32 (IntKind.u32.wrap ((IntKind.u32.wrap (IntKind.u8.wrap (BitVec.ofInt 8 ((s.getD 1 0).toNat:Int) &&& BitVec.ofInt 8 127).toNat)) * 128))).toNat) ||| BitVec.ofInt 32 (IntKind.u32.wrap ((IntKind.u32.wrap (IntKind.u8.wrap (BitVec.ofInt 8 ((s.getD 2 0).toNat:Int) &&& BitVec.ofInt 8 127).toNat)) * 16384))).toNat))),(58,.v (.slice A s.length c))] hW ao fun bS aQ=>?_
 obtain ⟨bg,bh,ap,bn,ae⟩:=Slots.get ho (i:=3) (by first | omega | (simp only [List.length_append,be_length,List.length_cons,List.length_nil] at *; omega))
 refine qak (qat aQ (t:=22) (A:=A) (m:=s.length) (q:=3) (d:=59) kz (e:=5) (size:=1) (bytes:=1) (j:=3) kz ap rfl (by first | omega | (simp only [List.length_append,be_length,List.length_cons,List.length_nil] at *; omega)) fun bT aR=>?_)
 refine qak (qaC aR (t:=5) (b:=bg) (o:=bh + 3 * 1) (d:=60) kz (cs:=[.int .u8 ((s.getD 3 0).toNat:Int)]) (v:=.int .u8 ((s.getD 3 0).toNat:Int)) kz (AtF.move ae hW.step nilM qa0).at_ fun bU aS=>?_)
 refine qaj [4,5,6,7,8] [] [(0,.v (.slice A s.length c)),(4,.v (.int .u32 (IntKind.u32.wrap (BitVec.ofInt 32 (IntKind.u32.wrap (BitVec.ofInt 32 (IntKind.u32.wrap (BitVec.ofInt 32 (IntKind.u32.wrap (IntKind.u8.wrap (BitVec.ofInt 8 ((s.getD 0 0).toNat:Int) &&& BitVec.ofInt 8 127).toNat)) ||| BitVec.ofInt 32 (IntKind.u32.wrap ((IntKind.u32.wrap (IntKind.u8.wrap (BitVec.ofInt 8 ((s.getD 1 0).toNat:Int) &&& BitVec.ofInt 8 127).toNat)) * 128))).toNat) ||| BitVec.ofInt 32 (IntKind.u32.wrap ((IntKind.u32.wrap (IntKind.u8.wrap (BitVec.ofInt 8 ((s.getD 2 0).toNat:Int) &&& BitVec.ofInt 8 127).toNat)) * 16384))).toNat) ||| BitVec.ofInt 32 (IntKind.u32.wrap ((IntKind.u32.wrap (IntKind.u8.wrap (BitVec.ofInt 8 ((s.getD 3 0).toNat:Int) &&& BitVec.ofInt 8 127).toNat)) * 2097152))).toNat)))] hW aS fun bV aT=>?_
 refine qad (qaa ?_)
 refine wp_seq ?_
 refine qac [0,1,2,3,4] kz ?_
 refine qaj [0] [1,2,3,4] [(0,.v (.slice A s.length c)),(4,.v (.int .u32 (IntKind.u32.wrap (BitVec.ofInt 32 (IntKind.u32.wrap (BitVec.ofInt 32 (IntKind.u32.wrap (BitVec.ofInt 32 (IntKind.u32.wrap (IntKind.u8.wrap (BitVec.ofInt 8 ((s.getD 0 0).toNat:Int) &&& BitVec.ofInt 8 127).toNat)) ||| BitVec.ofInt 32 (IntKind.u32.wrap ((IntKind.u32.wrap (IntKind.u8.wrap (BitVec.ofInt 8 ((s.getD 1 0).toNat:Int) &&& BitVec.ofInt 8 127).toNat)) * 128))).toNat) ||| BitVec.ofInt 32 (IntKind.u32.wrap ((IntKind.u32.wrap (IntKind.u8.wrap (BitVec.ofInt 8 ((s.getD 2 0).toNat:Int) &&& BitVec.ofInt 8 127).toNat)) * 16384))).toNat) ||| BitVec.ofInt 32 (IntKind.u32.wrap ((IntKind.u32.wrap (IntKind.u8.wrap (BitVec.ofInt 8 ((s.getD 3 0).toNat:Int) &&& BitVec.ofInt 8 127).toNat)) * 2097152))).toNat))),(65,.v (.slice A s.length c))] hW aT fun bW aU=>?_
 refine qak (qat aU (t:=22) (A:=A) (m:=s.length) (q:=3) (d:=66) kz (e:=5) (size:=1) (bytes:=1) (j:=3) kz ap rfl (by first | omega | (simp only [List.length_append,be_length,List.length_cons,List.length_nil] at *; omega)) fun bX aV=>?_)
 refine qak (qaC aV (t:=5) (b:=bg) (o:=bh + 3 * 1) (d:=67) kz (cs:=[.int .u8 ((s.getD 3 0).toNat:Int)]) (v:=.int .u8 ((s.getD 3 0).toNat:Int)) kz (AtF.move ae hW.step nilM qa0).at_ fun bY aW=>?_)
 refine qaj [3,4] [] [(0,.v (.slice A s.length c)),(4,.v (.int .u32 (IntKind.u32.wrap (BitVec.ofInt 32 (IntKind.u32.wrap (BitVec.ofInt 32 (IntKind.u32.wrap (BitVec.ofInt 32 (IntKind.u32.wrap (IntKind.u8.wrap (BitVec.ofInt 8 ((s.getD 0 0).toNat:Int) &&& BitVec.ofInt 8 127).toNat)) ||| BitVec.ofInt 32 (IntKind.u32.wrap ((IntKind.u32.wrap (IntKind.u8.wrap (BitVec.ofInt 8 ((s.getD 1 0).toNat:Int) &&& BitVec.ofInt 8 127).toNat)) * 128))).toNat) ||| BitVec.ofInt 32 (IntKind.u32.wrap ((IntKind.u32.wrap (IntKind.u8.wrap (BitVec.ofInt 8 ((s.getD 2 0).toNat:Int) &&& BitVec.ofInt 8 127).toNat)) * 16384))).toNat) ||| BitVec.ofInt 32 (IntKind.u32.wrap ((IntKind.u32.wrap (IntKind.u8.wrap (BitVec.ofInt 8 ((s.getD 3 0).toNat:Int) &&& BitVec.ofInt 8 127).toNat)) * 2097152))).toNat))),(69,.v (.bool ((IntKind.u8.wrap (BitVec.ofInt 8 ((s.getD 3 0).toNat:Int) &&& BitVec.ofInt 8 128).toNat) == 0)))] hW aW fun bZ ar=>?_
 refine qad (qaa ?_)
 refine qbz ar (b:=(IntKind.u8.wrap (BitVec.ofInt 8 ((s.getD 3 0).toNat:Int) &&& BitVec.ofInt 8 128).toNat) == 0) kz ((qcH _ (qbX s 3)).trans (decide_eq_true (by have:=h3; unfold oc at this; omega))) ?_
 refine qar [(2,.v (.int .u32 (IntKind.u32.wrap (BitVec.ofInt 32 (IntKind.u32.wrap (BitVec.ofInt 32 (IntKind.u32.wrap (BitVec.ofInt 32 (IntKind.u32.wrap (IntKind.u8.wrap (BitVec.ofInt 8 ((s.getD 0 0).toNat:Int) &&& BitVec.ofInt 8 127).toNat)) ||| BitVec.ofInt 32 (IntKind.u32.wrap ((IntKind.u32.wrap (IntKind.u8.wrap (BitVec.ofInt 8 ((s.getD 1 0).toNat:Int) &&& BitVec.ofInt 8 127).toNat)) * 128))).toNat) ||| BitVec.ofInt 32 (IntKind.u32.wrap ((IntKind.u32.wrap (IntKind.u8.wrap (BitVec.ofInt 8 ((s.getD 2 0).toNat:Int) &&& BitVec.ofInt 8 127).toNat)) * 16384))).toNat) ||| BitVec.ofInt 32 (IntKind.u32.wrap ((IntKind.u32.wrap (IntKind.u8.wrap (BitVec.ofInt 8 ((s.getD 3 0).toNat:Int) &&& BitVec.ofInt 8 127).toNat)) * 2097152))).toNat))),(3,.v (.int .i64 4))] hW ar fun b8 au=>?_
 refine wp_ret ?_
 refine qax ?_
 refine qdm ?_
 refine qaG au hW.cells (v:=.tuple #[.int .u32 (IntKind.u32.wrap (BitVec.ofInt 32 (IntKind.u32.wrap (BitVec.ofInt 32 (IntKind.u32.wrap (BitVec.ofInt 32 (IntKind.u32.wrap (IntKind.u8.wrap (BitVec.ofInt 8 ((s.getD 0 0).toNat:Int) &&& BitVec.ofInt 8 127).toNat)) ||| BitVec.ofInt 32 (IntKind.u32.wrap ((IntKind.u32.wrap (IntKind.u8.wrap (BitVec.ofInt 8 ((s.getD 1 0).toNat:Int) &&& BitVec.ofInt 8 127).toNat)) * 128))).toNat) ||| BitVec.ofInt 32 (IntKind.u32.wrap ((IntKind.u32.wrap (IntKind.u8.wrap (BitVec.ofInt 8 ((s.getD 2 0).toNat:Int) &&& BitVec.ofInt 8 127).toNat)) * 16384))).toNat) ||| BitVec.ofInt 32 (IntKind.u32.wrap ((IntKind.u32.wrap (IntKind.u8.wrap (BitVec.ofInt 8 ((s.getD 3 0).toNat:Int) &&& BitVec.ofInt 8 127).toNat)) * 2097152))).toNat),.int .i64 4]) kz ?_
 have e_:=uv_4 (oc s 0) (oc s 1) (oc s 2) (oc s 3) (qbX s 0) (qbX s 1) (qbX s 2) (qbX s 3)
 refine ⟨congrArg (fun z_:Int=>Ending.returned (.tuple #[.int .u32 z_,.int .i64 4])) (Eq.trans e_ ?_),hW.step⟩
 omega
theorem rUv5 {A:Option Addr} {c:Nat} (s:Bs) {w:World} {F:Nat → Nat → Prop} (ho:Octs w F A c s) (hl:5 ≤ s.length) (d0 d1 d2 d3 d4:Nat) (h0:oc s 0 = d0 + 128) (h1:oc s 1 = d1 + 128) (h2:oc s 2 = d2 + 128) (h3:oc s 3 = d3 + 128) (h4:oc s 4 = d4) (g0:d0 < 128) (g1:d1 < 128) (g2:d2 < 128) (g3:d3 < 128) (g4:d4 < 16) :
  Calls Tryz.prog 110 #[.slice A s.length c] w (qcp w (.tuple #[.int .u32 ((d0 + d1 * 128 + d2 * 16384 + d3 * 2097152 + d4 * 268435456:Nat):Int),.int .i64 5])):=by
 refine enter (n:=87) Tryz.func110 rfl Tryz.ntmps110 kz fun a hE=>?_
 have hW:=WOk.start w Nil
 refine qar [(0,.v (.slice A s.length c))] hW hE fun a1 hE2=>?_
 refine wp_scope_straight ?_
 refine qar [(0,.v (.slice A s.length c))] hW hE2 fun a3 hE4=>?_
 refine qar [(0,.v (.slice A s.length c))] hW hE4 fun a5 hE6=>?_
 refine wp_seq ?_
 refine qar [(0,.v (.slice A s.length c)),(8,.v (.bool (decide (((s.length:Nat):Int) < 1))))] hW hE6 fun a7 hE8=>?_
 refine qaq hE8 (b:=decide (((s.length:Nat):Int) < 1)) kz (decide_eq_false (by omega)) ?_
 refine wp_skip ?_
 refine qaa ?_
 refine qac [0,1,2,3,4,5] kz ?_
 refine qaj [0] [1,2,3,4,5] [(0,.v (.slice A s.length c)),(9,.v (.slice A s.length c))] hW hE8 fun a9 aI=>?_
 obtain ⟨bp,bq,aj,bC,ab⟩:=Slots.get ho (i:=0) (by first | omega | (simp only [List.length_append,be_length,List.length_cons,List.length_nil] at *; omega))
 refine qak (qat aI (t:=22) (A:=A) (m:=s.length) (q:=0) (d:=10) kz (e:=5) (size:=1) (bytes:=1) (j:=0) kz aj rfl (by first | omega | (simp only [List.length_append,be_length,List.length_cons,List.length_nil] at *; omega)) fun bP aJ=>?_)
 refine qak (qaC aJ (t:=5) (b:=bp) (o:=bq + 0 * 1) (d:=11) kz (cs:=[.int .u8 ((s.getD 0 0).toNat:Int)]) (v:=.int .u8 ((s.getD 0 0).toNat:Int)) kz (AtF.move ab hW.step nilM qa0).at_ fun bQ aK=>?_)
 refine qaj [3,4,5] [] [(0,.v (.slice A s.length c)),(4,.v (.int .u32 (IntKind.u32.wrap (IntKind.u8.wrap (BitVec.ofInt 8 ((s.getD 0 0).toNat:Int) &&& BitVec.ofInt 8 127).toNat))))] hW aK fun bR aL=>?_
 refine qad (qaa ?_)
 refine wp_seq ?_
 refine qac [0,1,2,3,4] kz ?_
 refine qaj [0] [1,2,3,4] [(0,.v (.slice A s.length c)),(4,.v (.int .u32 (IntKind.u32.wrap (IntKind.u8.wrap (BitVec.ofInt 8 ((s.getD 0 0).toNat:Int) &&& BitVec.ofInt 8 127).toNat)))),(14,.v (.slice A s.length c))] hW aL fun bS aM=>?_
 refine qak (qat aM (t:=22) (A:=A) (m:=s.length) (q:=0) (d:=15) kz (e:=5) (size:=1) (bytes:=1) (j:=0) kz aj rfl (by first | omega | (simp only [List.length_append,be_length,List.length_cons,List.length_nil] at *; omega)) fun bT aN=>?_)
 refine qak (qaC aN (t:=5) (b:=bp) (o:=bq + 0 * 1) (d:=16) kz (cs:=[.int .u8 ((s.getD 0 0).toNat:Int)]) (v:=.int .u8 ((s.getD 0 0).toNat:Int)) kz (AtF.move ab hW.step nilM qa0).at_ fun bU aO=>?_)
 refine qaj [3,4] [] [(0,.v (.slice A s.length c)),(4,.v (.int .u32 (IntKind.u32.wrap (IntKind.u8.wrap (BitVec.ofInt 8 ((s.getD 0 0).toNat:Int) &&& BitVec.ofInt 8 127).toNat)))),(18,.v (.bool ((IntKind.u8.wrap (BitVec.ofInt 8 ((s.getD 0 0).toNat:Int) &&& BitVec.ofInt 8 128).toNat) == 0)))] hW aO fun bV ak=>?_
 refine qad (qaa ?_)
 refine qaq ak (b:=(IntKind.u8.wrap (BitVec.ofInt 8 ((s.getD 0 0).toNat:Int) &&& BitVec.ofInt 8 128).toNat) == 0) kz ((qcH _ (qbX s 0)).trans (decide_eq_false (by have:=h0; unfold oc at this; omega))) ?_
 refine qar [(0,.v (.slice A s.length c)),(4,.v (.int .u32 (IntKind.u32.wrap (IntKind.u8.wrap (BitVec.ofInt 8 ((s.getD 0 0).toNat:Int) &&& BitVec.ofInt 8 127).toNat)))),(22,.v (.bool (decide (((s.length:Nat):Int) < 2))))] hW ak fun bW al=>?_
 refine qaq al (b:=decide (((s.length:Nat):Int) < 2)) kz (decide_eq_false (by omega)) ?_
 refine wp_skip ?_
 refine qaa ?_
 refine qac [0,1,2,3,4,5,6,7,8] kz ?_
 refine qaj [0,1] [2,3,4,5,6,7,8] [(0,.v (.slice A s.length c)),(23,.v (.int .u32 (IntKind.u32.wrap (IntKind.u8.wrap (BitVec.ofInt 8 ((s.getD 0 0).toNat:Int) &&& BitVec.ofInt 8 127).toNat)))),(24,.v (.slice A s.length c))] hW al fun bX aP=>?_
 obtain ⟨bt,bu,am,bD,ac⟩:=Slots.get ho (i:=1) (by first | omega | (simp only [List.length_append,be_length,List.length_cons,List.length_nil] at *; omega))
 refine qak (qat aP (t:=22) (A:=A) (m:=s.length) (q:=1) (d:=25) kz (e:=5) (size:=1) (bytes:=1) (j:=1) kz am rfl (by first | omega | (simp only [List.length_append,be_length,List.length_cons,List.length_nil] at *; omega)) fun bY aQ=>?_)
 refine qak (qaC aQ (t:=5) (b:=bt) (o:=bu + 1 * 1) (d:=26) kz (cs:=[.int .u8 ((s.getD 1 0).toNat:Int)]) (v:=.int .u8 ((s.getD 1 0).toNat:Int)) kz (AtF.move ac hW.step nilM qa0).at_ fun bZ aR=>?_)
 refine qaj [4,5,6,7,8] [] [(0,.v (.slice A s.length c)),(4,.v (.int .u32 (IntKind.u32.wrap (BitVec.ofInt 32 (IntKind.u32.wrap (IntKind.u8.wrap (BitVec.ofInt 8 ((s.getD 0 0).toNat:Int) &&& BitVec.ofInt 8 127).toNat)) ||| BitVec.ofInt 32 (IntKind.u32.wrap ((IntKind.u32.wrap (IntKind.u8.wrap (BitVec.ofInt 8 ((s.getD 1 0).toNat:Int) &&& BitVec.ofInt 8 127).toNat)) * 128))).toNat)))] hW aR fun b8 aS=>?_
 refine qad (qaa ?_)
 refine wp_seq ?_
 refine qac [0,1,2,3,4] kz ?_
 refine qaj [0] [1,2,3,4] [(0,.v (.slice A s.length c)),(4,.v (.int .u32 (IntKind.u32.wrap (BitVec.ofInt 32 (IntKind.u32.wrap (IntKind.u8.wrap (BitVec.ofInt 8 ((s.getD 0 0).toNat:Int) &&& BitVec.ofInt 8 127).toNat)) ||| BitVec.ofInt 32 (IntKind.u32.wrap ((IntKind.u32.wrap (IntKind.u8.wrap (BitVec.ofInt 8 ((s.getD 1 0).toNat:Int) &&& BitVec.ofInt 8 127).toNat)) * 128))).toNat))),(31,.v (.slice A s.length c))] hW aS fun cd aT=>?_
 refine qak (qat aT (t:=22) (A:=A) (m:=s.length) (q:=1) (d:=32) kz (e:=5) (size:=1) (bytes:=1) (j:=1) kz am rfl (by first | omega | (simp only [List.length_append,be_length,List.length_cons,List.length_nil] at *; omega)) fun ce aU=>?_)
 refine qak (qaC aU (t:=5) (b:=bt) (o:=bu + 1 * 1) (d:=33) kz (cs:=[.int .u8 ((s.getD 1 0).toNat:Int)]) (v:=.int .u8 ((s.getD 1 0).toNat:Int)) kz (AtF.move ac hW.step nilM qa0).at_ fun cg aV=>?_)
 refine qaj [3,4] [] [(0,.v (.slice A s.length c)),(4,.v (.int .u32 (IntKind.u32.wrap (BitVec.ofInt 32 (IntKind.u32.wrap (IntKind.u8.wrap (BitVec.ofInt 8 ((s.getD 0 0).toNat:Int) &&& BitVec.ofInt 8 127).toNat)) ||| BitVec.ofInt 32 (IntKind.u32.wrap ((IntKind.u32.wrap (IntKind.u8.wrap (BitVec.ofInt 8 ((s.getD 1 0).toNat:Int) &&& BitVec.ofInt 8 127).toNat)) * 128))).toNat))),(35,.v (.bool ((IntKind.u8.wrap (BitVec.ofInt 8 ((s.getD 1 0).toNat:Int) &&& BitVec.ofInt 8 128).toNat) == 0)))] hW aV fun cm ao=>?_
 refine qad (qaa ?_)
 refine qaq ao (b:=(IntKind.u8.wrap (BitVec.ofInt 8 ((s.getD 1 0).toNat:Int) &&& BitVec.ofInt 8 128).toNat) == 0) kz ((qcH _ (qbX s 1)).trans (decide_eq_false (by have:=h1; unfold oc at this; omega))) ?_
 refine qar [(0,.v (.slice A s.length c)),(4,.v (.int .u32 (IntKind.u32.wrap (BitVec.ofInt 32 (IntKind.u32.wrap (IntKind.u8.wrap (BitVec.ofInt 8 ((s.getD 0 0).toNat:Int) &&& BitVec.ofInt 8 127).toNat)) ||| BitVec.ofInt 32 (IntKind.u32.wrap ((IntKind.u32.wrap (IntKind.u8.wrap (BitVec.ofInt 8 ((s.getD 1 0).toNat:Int) &&& BitVec.ofInt 8 127).toNat)) * 128))).toNat))),(39,.v (.bool (decide (((s.length:Nat):Int) < 3))))] hW ao fun cq ap=>?_
 refine qaq ap (b:=decide (((s.length:Nat):Int) < 3)) kz (decide_eq_false (by omega)) ?_
 refine wp_skip ?_
 refine qaa ?_
 refine qac [0,1,2,3,4,5,6,7,8] kz ?_
 refine qaj [0,1] [2,3,4,5,6,7,8] [(0,.v (.slice A s.length c)),(40,.v (.int .u32 (IntKind.u32.wrap (BitVec.ofInt 32 (IntKind.u32.wrap (IntKind.u8.wrap (BitVec.ofInt 8 ((s.getD 0 0).toNat:Int) &&& BitVec.ofInt 8 127).toNat)) ||| BitVec.ofInt 32 (IntKind.u32.wrap ((IntKind.u32.wrap (IntKind.u8.wrap (BitVec.ofInt 8 ((s.getD 1 0).toNat:Int) &&& BitVec.ofInt 8 127).toNat)) * 128))).toNat))),(41,.v (.slice A s.length c))] hW ap fun cr aW=>?_
 obtain ⟨bw,bx,ar,bE,ae⟩:=Slots.get ho (i:=2) (by first | omega | (simp only [List.length_append,be_length,List.length_cons,List.length_nil] at *; omega))
 refine qak (qat aW (t:=22) (A:=A) (m:=s.length) (q:=2) (d:=42) kz (e:=5) (size:=1) (bytes:=1) (j:=2) kz ar rfl (by first | omega | (simp only [List.length_append,be_length,List.length_cons,List.length_nil] at *; omega)) fun cu aX=>?_)
 refine qak (qaC aX (t:=5) (b:=bw) (o:=bx + 2 * 1) (d:=43) kz (cs:=[.int .u8 ((s.getD 2 0).toNat:Int)]) (v:=.int .u8 ((s.getD 2 0).toNat:Int)) kz (AtF.move ae hW.step nilM qa0).at_ fun cv aY=>?_)
 refine qaj [4,5,6,7,8] [] [(0,.v (.slice A s.length c)),(4,.v (.int .u32 (IntKind.u32.wrap (BitVec.ofInt 32 (IntKind.u32.wrap (BitVec.ofInt 32 (IntKind.u32.wrap (IntKind.u8.wrap (BitVec.ofInt 8 ((s.getD 0 0).toNat:Int) &&& BitVec.ofInt 8 127).toNat)) ||| BitVec.ofInt 32 (IntKind.u32.wrap ((IntKind.u32.wrap (IntKind.u8.wrap (BitVec.ofInt 8 ((s.getD 1 0).toNat:Int) &&& BitVec.ofInt 8 127).toNat)) * 128))).toNat) ||| BitVec.ofInt 32 (IntKind.u32.wrap ((IntKind.u32.wrap (IntKind.u8.wrap (BitVec.ofInt 8 ((s.getD 2 0).toNat:Int) &&& BitVec.ofInt 8 127).toNat)) * 16384))).toNat)))] hW aY fun cw aZ=>?_
 refine qad (qaa ?_)
 refine wp_seq ?_
 refine qac [0,1,2,3,4] kz ?_
 refine qaj [0] [1,2,3,4] [(0,.v (.slice A s.length c)),(4,.v (.int .u32 (IntKind.u32.wrap (BitVec.ofInt 32 (IntKind.u32.wrap (BitVec.ofInt 32 (IntKind.u32.wrap (IntKind.u8.wrap (BitVec.ofInt 8 ((s.getD 0 0).toNat:Int) &&& BitVec.ofInt 8 127).toNat)) ||| BitVec.ofInt 32 (IntKind.u32.wrap ((IntKind.u32.wrap (IntKind.u8.wrap (BitVec.ofInt 8 ((s.getD 1 0).toNat:Int) &&& BitVec.ofInt 8 127).toNat)) * 128))).toNat) ||| BitVec.ofInt 32 (IntKind.u32.wrap ((IntKind.u32.wrap (IntKind.u8.wrap (BitVec.ofInt 8 ((s.getD 2 0).toNat:Int) &&& BitVec.ofInt 8 127).toNat)) * 16384))).toNat))),(48,.v (.slice A s.length c))] hW aZ fun cy ba=>?_
 refine qak (qat ba (t:=22) (A:=A) (m:=s.length) (q:=2) (d:=49) kz (e:=5) (size:=1) (bytes:=1) (j:=2) kz ar rfl (by first | omega | (simp only [List.length_append,be_length,List.length_cons,List.length_nil] at *; omega)) fun cz bd=>?_)
 refine qak (qaC bd (t:=5) (b:=bw) (o:=bx + 2 * 1) (d:=50) kz (cs:=[.int .u8 ((s.getD 2 0).toNat:Int)]) (v:=.int .u8 ((s.getD 2 0).toNat:Int)) kz (AtF.move ae hW.step nilM qa0).at_ fun cA bf=>?_)
 refine qaj [3,4] [] [(0,.v (.slice A s.length c)),(4,.v (.int .u32 (IntKind.u32.wrap (BitVec.ofInt 32 (IntKind.u32.wrap (BitVec.ofInt 32 (IntKind.u32.wrap (IntKind.u8.wrap (BitVec.ofInt 8 ((s.getD 0 0).toNat:Int) &&& BitVec.ofInt 8 127).toNat)) ||| BitVec.ofInt 32 (IntKind.u32.wrap ((IntKind.u32.wrap (IntKind.u8.wrap (BitVec.ofInt 8 ((s.getD 1 0).toNat:Int) &&& BitVec.ofInt 8 127).toNat)) * 128))).toNat) ||| BitVec.ofInt 32 (IntKind.u32.wrap ((IntKind.u32.wrap (IntKind.u8.wrap (BitVec.ofInt 8 ((s.getD 2 0).toNat:Int) &&& BitVec.ofInt 8 127).toNat)) * 16384))).toNat))),(52,.v (.bool ((IntKind.u8.wrap (BitVec.ofInt 8 ((s.getD 2 0).toNat:Int) &&& BitVec.ofInt 8 128).toNat) == 0)))] hW bf fun cB au=>?_
 refine qad (qaa ?_)
 refine qaq au (b:=(IntKind.u8.wrap (BitVec.ofInt 8 ((s.getD 2 0).toNat:Int) &&& BitVec.ofInt 8 128).toNat) == 0) kz ((qcH _ (qbX s 2)).trans (decide_eq_false (by have:=h2; unfold oc at this; omega))) ?_
 refine qar [(0,.v (.slice A s.length c)),(4,.v (.int .u32 (IntKind.u32.wrap (BitVec.ofInt 32 (IntKind.u32.wrap (BitVec.ofInt 32 (IntKind.u32.wrap (IntKind.u8.wrap (BitVec.ofInt 8 ((s.getD 0 0).toNat:Int) &&& BitVec.ofInt 8 127).toNat)) ||| BitVec.ofInt 32 (IntKind.u32.wrap ((IntKind.u32.wrap (IntKind.u8.wrap (BitVec.ofInt 8 ((s.getD 1 0).toNat:Int) &&& BitVec.ofInt 8 127).toNat)) * 128))).toNat) ||| BitVec.ofInt 32 (IntKind.u32.wrap ((IntKind.u32.wrap (IntKind.u8.wrap (BitVec.ofInt 8 ((s.getD 2 0).toNat:Int) &&& BitVec.ofInt 8 127).toNat)) * 16384))).toNat))),(56,.v (.bool (decide (((s.length:Nat):Int) < 4))))] hW au fun cC av=>?_
 refine qaq av (b:=decide (((s.length:Nat):Int) < 4)) kz (decide_eq_false (by omega)) ?_
 refine wp_skip ?_
 refine qaa ?_
 refine qac [0,1,2,3,4,5,6,7,8] kz ?_
 refine qaj [0,1] [2,3,4,5,6,7,8] [(0,.v (.slice A s.length c)),(57,.v (.int .u32 (IntKind.u32.wrap (BitVec.ofInt 32 (IntKind.u32.wrap (BitVec.ofInt 32 (IntKind.u32.wrap (IntKind.u8.wrap (BitVec.ofInt 8 ((s.getD 0 0).toNat:Int) &&& BitVec.ofInt 8 127).toNat)) ||| BitVec.ofInt 32 (IntKind.u32.wrap ((IntKind.u32.wrap (IntKind.u8.wrap (BitVec.ofInt 8 ((s.getD 1 0).toNat:Int) &&& BitVec.ofInt 8 127).toNat)) * 128))).toNat) ||| BitVec.ofInt 32 (IntKind.u32.wrap ((IntKind.u32.wrap (IntKind.u8.wrap (BitVec.ofInt 8 ((s.getD 2 0).toNat:Int) &&& BitVec.ofInt 8 127).toNat)) * 16384))).toNat))),(58,.v (.slice A s.length c))] hW av fun cD bg=>?_
 obtain ⟨bz,bA,aw,bF,af⟩:=Slots.get ho (i:=3) (by first | omega | (simp only [List.length_append,be_length,List.length_cons,List.length_nil] at *; omega))
 refine qak (qat bg (t:=22) (A:=A) (m:=s.length) (q:=3) (d:=59) kz (e:=5) (size:=1) (bytes:=1) (j:=3) kz aw rfl (by first | omega | (simp only [List.length_append,be_length,List.length_cons,List.length_nil] at *; omega)) fun cE bh=>?_)
 refine qak (qaC bh (t:=5) (b:=bz) (o:=bA + 3 * 1) (d:=60) kz (cs:=[.int .u8 ((s.getD 3 0).toNat:Int)]) (v:=.int .u8 ((s.getD 3 0).toNat:Int)) kz (AtF.move af hW.step nilM qa0).at_ fun cG bi=>?_)
 refine qaj [4,5,6,7,8] [] [(0,.v (.slice A s.length c)),(4,.v (.int .u32 (IntKind.u32.wrap (BitVec.ofInt 32 (IntKind.u32.wrap (BitVec.ofInt 32 (IntKind.u32.wrap (BitVec.ofInt 32 (IntKind.u32.wrap (IntKind.u8.wrap (BitVec.ofInt 8 ((s.getD 0 0).toNat:Int) &&& BitVec.ofInt 8 127).toNat)) ||| BitVec.ofInt 32 (IntKind.u32.wrap ((IntKind.u32.wrap (IntKind.u8.wrap (BitVec.ofInt 8 ((s.getD 1 0).toNat:Int) &&& BitVec.ofInt 8 127).toNat)) * 128))).toNat) ||| BitVec.ofInt 32 (IntKind.u32.wrap ((IntKind.u32.wrap (IntKind.u8.wrap (BitVec.ofInt 8 ((s.getD 2 0).toNat:Int) &&& BitVec.ofInt 8 127).toNat)) * 16384))).toNat) ||| BitVec.ofInt 32 (IntKind.u32.wrap ((IntKind.u32.wrap (IntKind.u8.wrap (BitVec.ofInt 8 ((s.getD 3 0).toNat:Int) &&& BitVec.ofInt 8 127).toNat)) * 2097152))).toNat)))] hW bi fun cH bj=>?_
 refine qad (qaa ?_)
 refine wp_seq ?_
 refine qac [0,1,2,3,4] kz ?_
 refine qaj [0] [1,2,3,4] [(0,.v (.slice A s.length c)),(4,.v (.int .u32 (IntKind.u32.wrap (BitVec.ofInt 32 (IntKind.u32.wrap (BitVec.ofInt 32 (IntKind.u32.wrap (BitVec.ofInt 32 (IntKind.u32.wrap (IntKind.u8.wrap (BitVec.ofInt 8 ((s.getD 0 0).toNat:Int) &&& BitVec.ofInt 8 127).toNat)) ||| BitVec.ofInt 32 (IntKind.u32.wrap ((IntKind.u32.wrap (IntKind.u8.wrap (BitVec.ofInt 8 ((s.getD 1 0).toNat:Int) &&& BitVec.ofInt 8 127).toNat)) * 128))).toNat) ||| BitVec.ofInt 32 (IntKind.u32.wrap ((IntKind.u32.wrap (IntKind.u8.wrap (BitVec.ofInt 8 ((s.getD 2 0).toNat:Int) &&& BitVec.ofInt 8 127).toNat)) * 16384))).toNat) ||| BitVec.ofInt 32 (IntKind.u32.wrap ((IntKind.u32.wrap (IntKind.u8.wrap (BitVec.ofInt 8 ((s.getD 3 0).toNat:Int) &&& BitVec.ofInt 8 127).toNat)) * 2097152))).toNat))),(65,.v (.slice A s.length c))] hW bj fun cI bk=>?_
 refine qak (qat bk (t:=22) (A:=A) (m:=s.length) (q:=3) (d:=66) kz (e:=5) (size:=1) (bytes:=1) (j:=3) kz aw rfl (by first | omega | (simp only [List.length_append,be_length,List.length_cons,List.length_nil] at *; omega)) fun cJ bn=>?_)
 refine qak (qaC bn (t:=5) (b:=bz) (o:=bA + 3 * 1) (d:=67) kz (cs:=[.int .u8 ((s.getD 3 0).toNat:Int)]) (v:=.int .u8 ((s.getD 3 0).toNat:Int)) kz (AtF.move af hW.step nilM qa0).at_ fun cK bo=>?_)
 refine qaj [3,4] [] [(0,.v (.slice A s.length c)),(4,.v (.int .u32 (IntKind.u32.wrap (BitVec.ofInt 32 (IntKind.u32.wrap (BitVec.ofInt 32 (IntKind.u32.wrap (BitVec.ofInt 32 (IntKind.u32.wrap (IntKind.u8.wrap (BitVec.ofInt 8 ((s.getD 0 0).toNat:Int) &&& BitVec.ofInt 8 127).toNat)) ||| BitVec.ofInt 32 (IntKind.u32.wrap ((IntKind.u32.wrap (IntKind.u8.wrap (BitVec.ofInt 8 ((s.getD 1 0).toNat:Int) &&& BitVec.ofInt 8 127).toNat)) * 128))).toNat) ||| BitVec.ofInt 32 (IntKind.u32.wrap ((IntKind.u32.wrap (IntKind.u8.wrap (BitVec.ofInt 8 ((s.getD 2 0).toNat:Int) &&& BitVec.ofInt 8 127).toNat)) * 16384))).toNat) ||| BitVec.ofInt 32 (IntKind.u32.wrap ((IntKind.u32.wrap (IntKind.u8.wrap (BitVec.ofInt 8 ((s.getD 3 0).toNat:Int) &&& BitVec.ofInt 8 127).toNat)) * 2097152))).toNat))),(69,.v (.bool ((IntKind.u8.wrap (BitVec.ofInt 8 ((s.getD 3 0).toNat:Int) &&& BitVec.ofInt 8 128).toNat) == 0)))] hW bo fun cL ax=>?_
 refine qad (qaa ?_)
 refine qaq ax (b:=(IntKind.u8.wrap (BitVec.ofInt 8 ((s.getD 3 0).toNat:Int) &&& BitVec.ofInt 8 128).toNat) == 0) kz ((qcH _ (qbX s 3)).trans (decide_eq_false (by have:=h3; unfold oc at this; omega))) ?_
 refine qar [(0,.v (.slice A s.length c)),(4,.v (.int .u32 (IntKind.u32.wrap (BitVec.ofInt 32 (IntKind.u32.wrap (BitVec.ofInt 32 (IntKind.u32.wrap (BitVec.ofInt 32 (IntKind.u32.wrap (IntKind.u8.wrap (BitVec.ofInt 8 ((s.getD 0 0).toNat:Int) &&& BitVec.ofInt 8 127).toNat)) ||| BitVec.ofInt 32 (IntKind.u32.wrap ((IntKind.u32.wrap (IntKind.u8.wrap (BitVec.ofInt 8 ((s.getD 1 0).toNat:Int) &&& BitVec.ofInt 8 127).toNat)) * 128))).toNat) ||| BitVec.ofInt 32 (IntKind.u32.wrap ((IntKind.u32.wrap (IntKind.u8.wrap (BitVec.ofInt 8 ((s.getD 2 0).toNat:Int) &&& BitVec.ofInt 8 127).toNat)) * 16384))).toNat) ||| BitVec.ofInt 32 (IntKind.u32.wrap ((IntKind.u32.wrap (IntKind.u8.wrap (BitVec.ofInt 8 ((s.getD 3 0).toNat:Int) &&& BitVec.ofInt 8 127).toNat)) * 2097152))).toNat))),(73,.v (.bool (decide (((s.length:Nat):Int) < 5))))] hW ax fun cM ag=>?_
 refine qaq ag (b:=decide (((s.length:Nat):Int) < 5)) kz (decide_eq_false (by omega)) ?_
 refine wp_skip ?_
 refine qaa ?_
 refine qac [0,1,2,3,4,5,6,7] kz ?_
 refine qaj [0,1] [2,3,4,5,6,7] [(0,.v (.slice A s.length c)),(74,.v (.int .u32 (IntKind.u32.wrap (BitVec.ofInt 32 (IntKind.u32.wrap (BitVec.ofInt 32 (IntKind.u32.wrap (BitVec.ofInt 32 (IntKind.u32.wrap (IntKind.u8.wrap (BitVec.ofInt 8 ((s.getD 0 0).toNat:Int) &&& BitVec.ofInt 8 127).toNat)) ||| BitVec.ofInt 32 (IntKind.u32.wrap ((IntKind.u32.wrap (IntKind.u8.wrap (BitVec.ofInt 8 ((s.getD 1 0).toNat:Int) &&& BitVec.ofInt 8 127).toNat)) * 128))).toNat) ||| BitVec.ofInt 32 (IntKind.u32.wrap ((IntKind.u32.wrap (IntKind.u8.wrap (BitVec.ofInt 8 ((s.getD 2 0).toNat:Int) &&& BitVec.ofInt 8 127).toNat)) * 16384))).toNat) ||| BitVec.ofInt 32 (IntKind.u32.wrap ((IntKind.u32.wrap (IntKind.u8.wrap (BitVec.ofInt 8 ((s.getD 3 0).toNat:Int) &&& BitVec.ofInt 8 127).toNat)) * 2097152))).toNat))),(75,.v (.slice A s.length c))] hW ag fun bG ay=>?_
 obtain ⟨az,aA,ah,bB,aa⟩:=Slots.get ho (i:=4) (by first | omega | (simp only [List.length_append,be_length,List.length_cons,List.length_nil] at *; omega))
 refine qak (qat ay (t:=22) (A:=A) (m:=s.length) (q:=4) (d:=76) kz (e:=5) (size:=1) (bytes:=1) (j:=4) kz ah rfl (by first | omega | (simp only [List.length_append,be_length,List.length_cons,List.length_nil] at *; omega)) fun bH aB=>?_)
 refine qak (qaC aB (t:=5) (b:=az) (o:=aA + 4 * 1) (d:=77) kz (cs:=[.int .u8 ((s.getD 4 0).toNat:Int)]) (v:=.int .u8 ((s.getD 4 0).toNat:Int)) kz (AtF.move aa hW.step nilM qa0).at_ fun bI aC=>?_)
 refine qaj [4,5,6,7] [] [(0,.v (.slice A s.length c)),(4,.v (.int .u32 (IntKind.u32.wrap (BitVec.ofInt 32 (IntKind.u32.wrap (BitVec.ofInt 32 (IntKind.u32.wrap (BitVec.ofInt 32 (IntKind.u32.wrap (BitVec.ofInt 32 (IntKind.u32.wrap (IntKind.u8.wrap (BitVec.ofInt 8 ((s.getD 0 0).toNat:Int) &&& BitVec.ofInt 8 127).toNat)) ||| BitVec.ofInt 32 (IntKind.u32.wrap ((IntKind.u32.wrap (IntKind.u8.wrap (BitVec.ofInt 8 ((s.getD 1 0).toNat:Int) &&& BitVec.ofInt 8 127).toNat)) * 128))).toNat) ||| BitVec.ofInt 32 (IntKind.u32.wrap ((IntKind.u32.wrap (IntKind.u8.wrap (BitVec.ofInt 8 ((s.getD 2 0).toNat:Int) &&& BitVec.ofInt 8 127).toNat)) * 16384))).toNat) ||| BitVec.ofInt 32 (IntKind.u32.wrap ((IntKind.u32.wrap (IntKind.u8.wrap (BitVec.ofInt 8 ((s.getD 3 0).toNat:Int) &&& BitVec.ofInt 8 127).toNat)) * 2097152))).toNat) ||| BitVec.ofInt 32 (IntKind.u32.wrap ((IntKind.u32.wrap ((s.getD 4 0).toNat:Int)) * 268435456))).toNat)))] hW aC fun bJ aD=>?_
 refine qad (qaa ?_)
 refine wp_seq ?_
 refine qac [0,1,2,3] kz ?_
 refine qaj [0] [1,2,3] [(4,.v (.int .u32 (IntKind.u32.wrap (BitVec.ofInt 32 (IntKind.u32.wrap (BitVec.ofInt 32 (IntKind.u32.wrap (BitVec.ofInt 32 (IntKind.u32.wrap (BitVec.ofInt 32 (IntKind.u32.wrap (IntKind.u8.wrap (BitVec.ofInt 8 ((s.getD 0 0).toNat:Int) &&& BitVec.ofInt 8 127).toNat)) ||| BitVec.ofInt 32 (IntKind.u32.wrap ((IntKind.u32.wrap (IntKind.u8.wrap (BitVec.ofInt 8 ((s.getD 1 0).toNat:Int) &&& BitVec.ofInt 8 127).toNat)) * 128))).toNat) ||| BitVec.ofInt 32 (IntKind.u32.wrap ((IntKind.u32.wrap (IntKind.u8.wrap (BitVec.ofInt 8 ((s.getD 2 0).toNat:Int) &&& BitVec.ofInt 8 127).toNat)) * 16384))).toNat) ||| BitVec.ofInt 32 (IntKind.u32.wrap ((IntKind.u32.wrap (IntKind.u8.wrap (BitVec.ofInt 8 ((s.getD 3 0).toNat:Int) &&& BitVec.ofInt 8 127).toNat)) * 2097152))).toNat) ||| BitVec.ofInt 32 (IntKind.u32.wrap ((IntKind.u32.wrap ((s.getD 4 0).toNat:Int)) * 268435456))).toNat))),(81,.v (.slice A s.length c))] hW aD fun bK aE=>?_
 refine qak (qat aE (t:=22) (A:=A) (m:=s.length) (q:=4) (d:=82) kz (e:=5) (size:=1) (bytes:=1) (j:=4) kz ah rfl (by first | omega | (simp only [List.length_append,be_length,List.length_cons,List.length_nil] at *; omega)) fun bL aF=>?_)
 refine qak (qaC aF (t:=5) (b:=az) (o:=aA + 4 * 1) (d:=83) kz (cs:=[.int .u8 ((s.getD 4 0).toNat:Int)]) (v:=.int .u8 ((s.getD 4 0).toNat:Int)) kz (AtF.move aa hW.step nilM qa0).at_ fun bM aG=>?_)
 refine qaj [3] [] [(4,.v (.int .u32 (IntKind.u32.wrap (BitVec.ofInt 32 (IntKind.u32.wrap (BitVec.ofInt 32 (IntKind.u32.wrap (BitVec.ofInt 32 (IntKind.u32.wrap (BitVec.ofInt 32 (IntKind.u32.wrap (IntKind.u8.wrap (BitVec.ofInt 8 ((s.getD 0 0).toNat:Int) &&& BitVec.ofInt 8 127).toNat)) ||| BitVec.ofInt 32 (IntKind.u32.wrap ((IntKind.u32.wrap (IntKind.u8.wrap (BitVec.ofInt 8 ((s.getD 1 0).toNat:Int) &&& BitVec.ofInt 8 127).toNat)) * 128))).toNat) ||| BitVec.ofInt 32 (IntKind.u32.wrap ((IntKind.u32.wrap (IntKind.u8.wrap (BitVec.ofInt 8 ((s.getD 2 0).toNat:Int) &&& BitVec.ofInt 8 127).toNat)) * 16384))).toNat) ||| BitVec.ofInt 32 (IntKind.u32.wrap ((IntKind.u32.wrap (IntKind.u8.wrap (BitVec.ofInt 8 ((s.getD 3 0).toNat:Int) &&& BitVec.ofInt 8 127).toNat)) * 2097152))).toNat) ||| BitVec.ofInt 32 (IntKind.u32.wrap ((IntKind.u32.wrap ((s.getD 4 0).toNat:Int)) * 268435456))).toNat))),(84,.v (.bool (decide (((s.getD 4 0).toNat:Int) ≤ 15))))] hW aG fun bN ai=>?_
 refine qad (qaa ?_)
 refine qbz ai (b:=decide (((s.getD 4 0).toNat:Int) ≤ 15)) kz (decide_eq_true (by have:=h4; unfold oc at this; omega)) ?_
 refine qar [(2,.v (.int .u32 (IntKind.u32.wrap (BitVec.ofInt 32 (IntKind.u32.wrap (BitVec.ofInt 32 (IntKind.u32.wrap (BitVec.ofInt 32 (IntKind.u32.wrap (BitVec.ofInt 32 (IntKind.u32.wrap (IntKind.u8.wrap (BitVec.ofInt 8 ((s.getD 0 0).toNat:Int) &&& BitVec.ofInt 8 127).toNat)) ||| BitVec.ofInt 32 (IntKind.u32.wrap ((IntKind.u32.wrap (IntKind.u8.wrap (BitVec.ofInt 8 ((s.getD 1 0).toNat:Int) &&& BitVec.ofInt 8 127).toNat)) * 128))).toNat) ||| BitVec.ofInt 32 (IntKind.u32.wrap ((IntKind.u32.wrap (IntKind.u8.wrap (BitVec.ofInt 8 ((s.getD 2 0).toNat:Int) &&& BitVec.ofInt 8 127).toNat)) * 16384))).toNat) ||| BitVec.ofInt 32 (IntKind.u32.wrap ((IntKind.u32.wrap (IntKind.u8.wrap (BitVec.ofInt 8 ((s.getD 3 0).toNat:Int) &&& BitVec.ofInt 8 127).toNat)) * 2097152))).toNat) ||| BitVec.ofInt 32 (IntKind.u32.wrap ((IntKind.u32.wrap ((s.getD 4 0).toNat:Int)) * 268435456))).toNat))),(3,.v (.int .i64 5))] hW ai fun bO aH=>?_
 refine wp_ret ?_
 refine qax ?_
 refine qdm ?_
 refine qaG aH hW.cells (v:=.tuple #[.int .u32 (IntKind.u32.wrap (BitVec.ofInt 32 (IntKind.u32.wrap (BitVec.ofInt 32 (IntKind.u32.wrap (BitVec.ofInt 32 (IntKind.u32.wrap (BitVec.ofInt 32 (IntKind.u32.wrap (IntKind.u8.wrap (BitVec.ofInt 8 ((s.getD 0 0).toNat:Int) &&& BitVec.ofInt 8 127).toNat)) ||| BitVec.ofInt 32 (IntKind.u32.wrap ((IntKind.u32.wrap (IntKind.u8.wrap (BitVec.ofInt 8 ((s.getD 1 0).toNat:Int) &&& BitVec.ofInt 8 127).toNat)) * 128))).toNat) ||| BitVec.ofInt 32 (IntKind.u32.wrap ((IntKind.u32.wrap (IntKind.u8.wrap (BitVec.ofInt 8 ((s.getD 2 0).toNat:Int) &&& BitVec.ofInt 8 127).toNat)) * 16384))).toNat) ||| BitVec.ofInt 32 (IntKind.u32.wrap ((IntKind.u32.wrap (IntKind.u8.wrap (BitVec.ofInt 8 ((s.getD 3 0).toNat:Int) &&& BitVec.ofInt 8 127).toNat)) * 2097152))).toNat) ||| BitVec.ofInt 32 (IntKind.u32.wrap ((IntKind.u32.wrap ((s.getD 4 0).toNat:Int)) * 268435456))).toNat),.int .i64 5]) kz ?_
 have e_:=uv_5 (oc s 0) (oc s 1) (oc s 2) (oc s 3) (oc s 4) (qbX s 0) (qbX s 1) (qbX s 2) (qbX s 3) (by omega)
 refine ⟨congrArg (fun z_:Int=>Ending.returned (.tuple #[.int .u32 z_,.int .i64 5])) (Eq.trans e_ ?_),hW.step⟩
 omega
theorem rUv (x:Nat) (hx:x < 4294967296) (rest:Bs) {A:Option Addr} {c:Nat} {w:World} {F:Nat → Nat → Prop} (ho:Octs w F A c (uv x ++ rest)) :
  Calls Tryz.prog 110 #[.slice A (uv x ++ rest).length c] w (qcp w (.tuple #[.int .u32 ((x:Nat):Int),.int .i64 (((uv x).length:Nat):Int)])):=by
 have hl:=qcA hx
 have hL:(uv x ++ rest).length = (uv x).length + rest.length:=List.length_append
 by_cases h1:x < 128
 ·rw [if_pos h1] at hl
  have h:=rUv1 (uv x ++ rest) ho (by omega) x (by rw [qfY,if_pos h1]) h1
  rw [hl]; simpa using h
 rw [if_neg h1] at hl
 have o0:oc (uv x ++ rest) 0 = x % 128 + 128:=by rw [qfY,if_neg h1]
 have o1:oc (uv x ++ rest) 1 = oc (uv (x / 128) ++ rest) 0:=qdN (by omega) rest 0
 by_cases h2:x < 16384
 ·rw [if_pos h2] at hl
  rw [qfY,if_pos (by omega)] at o1
  have h:=rUv2 (uv x ++ rest) ho (by omega) (x % 128) (x / 128) o0 o1 (by omega) (by omega)
  rw [show x % 128 + x / 128 * 128 = x by omega] at h
  rw [hl]; exact h
 rw [if_neg h2] at hl
 have o2:oc (uv x ++ rest) 2 = oc (uv (x / 128 / 128) ++ rest) 0:=(qdN (by omega) rest 1).trans (qdN (by omega) rest 0)
 rw [qfY,if_neg (by omega)] at o1
 by_cases h3:x < 2097152
 ·rw [if_pos h3] at hl
  rw [qfY,if_pos (by omega)] at o2
  have h:=rUv3 (uv x ++ rest) ho (by omega) (x % 128) (x / 128 % 128) (x / 128 / 128) o0 o1 o2 (by omega) (by omega) (by omega)
  rw [show x % 128 + x / 128 % 128 * 128 + x / 128 / 128 * 16384 = x by omega] at h
  rw [hl]; exact h
 rw [if_neg h3] at hl
 have o3:oc (uv x ++ rest) 3 = oc (uv (x / 128 / 128 / 128) ++ rest) 0:=(qdN (by omega) rest 2).trans ((qdN (by omega) rest 1).trans (qdN (by omega) rest 0))
 rw [qfY,if_neg (by omega)] at o2
 by_cases h4:x < 268435456
 ·rw [if_pos h4] at hl
  rw [qfY,if_pos (by omega)] at o3
  have h:=rUv4 (uv x ++ rest) ho (by omega) (x % 128) (x / 128 % 128) (x / 128 / 128 % 128) (x / 128 / 128 / 128) o0 o1 o2 o3 (by omega) (by omega) (by omega) (by omega)
  rw [show x % 128 + x / 128 % 128 * 128 + x / 128 / 128 % 128 * 16384 + x / 128 / 128 / 128 * 2097152 = x by omega] at h
  rw [hl]; exact h
 rw [if_neg h4] at hl
 have o4:oc (uv x ++ rest) 4 = oc (uv (x / 128 / 128 / 128 / 128) ++ rest) 0:=(qdN (by omega) rest 3).trans ((qdN (by omega) rest 2).trans ((qdN (by omega) rest 1).trans (qdN (by omega) rest 0)))
 rw [qfY,if_neg (by omega)] at o3
 rw [qfY,if_pos (by omega)] at o4
 have h:=rUv5 (uv x ++ rest) ho (by omega) (x % 128) (x / 128 % 128) (x / 128 / 128 % 128) (x / 128 / 128 / 128 % 128) (x / 128 / 128 / 128 / 128) o0 o1 o2 o3 o4 (by omega) (by omega) (by omega) (by omega) (by omega)
 rw [show x % 128 + x / 128 % 128 * 128 + x / 128 / 128 % 128 * 16384 + x / 128 / 128 / 128 % 128 * 2097152 + x / 128 / 128 / 128 / 128 * 268435456 = x by omega] at h
 rw [hl]; exact h
theorem qcJ (x:Nat) (hx:x < 4294967296) (rest:Bs)  {br:Nat} {A:Option Addr} {m c:Nat} {w:World} {F:Nat → Nat → Prop} (hst:Str w br [.slice A m c,.bool false]) (hr:RdS w F A m c (uv x ++ rest)) (hFd:∀ b o,F b o → ¬ RdM br b o) :
  Calls Tryz.prog 91 #[.pointer (some ⟨br,0,none⟩)] w (RdPost w br F rest fun v w'=>v = .int .u32 ((x:Nat):Int)):=by
 obtain ⟨hm,ho⟩:=hr
 subst hm
 have hle:=ho.le
 have hpos:=qdv x
 refine enter (n:=31) Tryz.func91 rfl Tryz.ntmps91 kz fun a hE=>?_
 have hW:WOk w (RdM br) w [⟨br,0,[.slice A ((uv x ++ rest).length) c,.bool false],true⟩] []:=WOk.startStr hst
 have hE1:=(hE.grow ⟨br,0,[.slice A ((uv x ++ rest).length) c,.bool false],true⟩).recast 0 (.v (.pointer (some ⟨br,0,none⟩))) (.p 0 0) rfl rfl (Nat.le_of_ble_eq_true (n:=1) rfl)
 refine qar [(0,.p 0 0)] hW hE1 fun a1 hE2=>?_
 refine qac [0,1,2,3,4,5,6,7,8,9] kz ?_
 refine qaj [0,1,2,3] [4,5,6,7,8,9] [(0,.p 0 0),(9,.v (.slice A ((uv x ++ rest).length) c))] hW hE2 fun a3 hE4=>?_
 refine qak (qal hE4 (f:=110) (vs:=[.slice A ((uv x ++ rest).length) c]) (d:=10) kz Tryz.call110 (rUv x hx rest (ho.move hW.step (fun b_ o_ h_ _=>hFd b_ o_ h_) (hW.immM hFd))) ?_)
 rintro e_ w6 ⟨rfl,hs5⟩
 refine ⟨_,rfl,fun a7 hE8=>?_⟩
 have hW9:=hW.next_nil hs5
 have aj:=hW.frN hs5
 refine qaj [5,6,7,8,9] [] [(0,.p 0 0),(3,.v (.int .u32 ((x:Nat):Int))),(4,.v (.int .i64 (((uv x).length:Nat):Int)))] hW9 hE8 fun al ac=>?_
 refine qad (qaa ?_)
 refine wp_seq ?_
 refine qar [(0,.p 0 0),(3,.v (.int .u32 ((x:Nat):Int))),(4,.v (.int .i64 (((uv x).length:Nat):Int))),(14,.v (.bool (decide ((((uv x).length:Nat):Int) ≤ 0))))] hW9 ac fun am ab=>?_
 refine qaq ab (b:=decide ((((uv x).length:Nat):Int) ≤ 0)) kz (decide_eq_false (by omega)) ?_
 refine wp_skip ?_
 refine qaa ?_
 refine qac [0,1,2,3,4,5,6,7,8,9] kz ?_
 refine qaj [0,1,2,3,4,5] [6,7,8,9] [(3,.v (.int .u32 ((x:Nat):Int))),(21,.p 0 0),(25,.v (.slice A ((uv x ++ rest).length) c)),(26,.v (.int .i64 (((uv x).length:Nat):Int)))] hW9 ab fun ao ae=>?_
 refine qak (qcC ae (t:=22) (A:=A) (m:=((uv x ++ rest).length)) (cp:=c) (q:=(((uv x).length:Nat):Int)) (d:=27) (j:=((uv x).length)) kz (e:=5) (bytes:=1) kz (rfl) (by first | omega | (simp only [List.length_append,be_length,List.length_cons,List.length_nil] at *; omega)) fun ap af=>?_)
 refine qaj [7,8] [9] [(3,.v (.int .u32 ((x:Nat):Int))),(27,.v (.slice (cutA A c ((uv x).length)) (((uv x ++ rest).length) - ((uv x).length)) (c - ((uv x).length)))),(29,.p 0 0)] hW9 af fun ar ag=>?_
 refine qak (qaH hW9 ag (oi:=0) (cs:=[.slice (cutA A c ((uv x).length)) (((uv x ++ rest).length) - ((uv x).length)) (c - ((uv x).length)),.bool false]) kz fun au ak aa ah=>?_)
 refine qad (qaa ?_)
 refine qar [(2,.v (.int .u32 ((x:Nat):Int)))] aa ah fun av ai=>?_
 refine wp_ret ?_
 refine qaG ai aa.cells (v:=.int .u32 ((x:Nat):Int)) kz ?_
 exact ⟨_,_,_,_,rfl,Str.of aa 0 rfl,RdS.drop (s:=uv x) ⟨rfl,ho.move aa.step (fun b_ o_ h_ _=>hFd b_ o_ h_) qa0⟩ (rfl),aa.step,rfl⟩
theorem qhc (X:Bs) (rest:Bs)  {br:Nat} {A:Option Addr} {m c:Nat} {w:World} {F:Nat → Nat → Prop} (hst:Str w br [.slice A m c,.bool false]) (hr:RdS w F A m c (X ++ rest)) (hFd:∀ b o,F b o → ¬ RdM br b o) :
  Calls Tryz.prog 93 #[.pointer (some ⟨br,0,none⟩),.int .i64 ((X.length:Nat):Int)] w (RdPost w br F rest fun v w'=>∃ A2,v = .slice A2 X.length X.length ∧ Octs w' F A2 X.length X):=by
 obtain ⟨hm,ho⟩:=hr
 subst hm
 have hle:=ho.le
 refine enter (n:=40) Tryz.func93 rfl Tryz.ntmps93 kz fun a hE=>?_
 have hW:WOk w (RdM br) w [⟨br,0,[.slice A ((X ++ rest).length) c,.bool false],true⟩] []:=WOk.startStr hst
 have hE1:=(hE.grow ⟨br,0,[.slice A ((X ++ rest).length) c,.bool false],true⟩).recast 0 (.v (.pointer (some ⟨br,0,none⟩))) (.p 0 0) rfl rfl (Nat.le_of_ble_eq_true (n:=1) rfl)
 refine qar [(0,.p 0 0),(1,.v (.int .i64 ((X.length:Nat):Int)))] hW hE1 fun a1 hE2=>?_
 refine wp_seq ?_
 refine qac [0,1,2,3,4,5,6,7,8,9,10] kz ?_
 refine qaj [0,1,2,3,4,5,6,7] [8,9,10] [(0,.p 0 0),(1,.v (.int .i64 ((X.length:Nat):Int))),(13,.v (.bool (decide ((((X ++ rest).length:Nat):Int) < ((X.length:Nat):Int)))))] hW hE2 fun a3 hE4=>?_
 have hc5:(decide ((((X ++ rest).length:Nat):Int) < ((X.length:Nat):Int))) = false:=decide_eq_false (by first | omega | (simp only [List.length_append,be_length,List.length_cons,List.length_nil] at *; omega))
 have hE6:=hE4.cast (env':=[(0,.p 0 0),(1,.v (.int .i64 ((X.length:Nat):Int))),(13,.v (.bool false))]) (by rw [hc5])
 refine qaj [8,9,10] [] [(0,.p 0 0),(1,.v (.int .i64 ((X.length:Nat):Int))),(16,.v (.bool (decide (((X.length:Nat):Int) < 0))))] hW hE6 fun a7 hE8=>?_
 refine qad (qaa ?_)
 refine qaq hE8 (b:=decide (((X.length:Nat):Int) < 0)) kz (decide_eq_false (by first | omega | (simp only [List.length_append,be_length,List.length_cons,List.length_nil] at *; omega))) ?_
 refine wp_skip ?_
 refine qaa ?_
 refine qac [0,1,2,3,4,5,6,7] kz ?_
 refine qaj [0,1,2,3,4,5] [6,7] [(0,.p 0 0),(1,.v (.int .i64 ((X.length:Nat):Int))),(26,.v (.slice A ((X ++ rest).length) c)),(27,.v (.int .i64 ((X.length:Nat):Int))),(28,.v (.int .i64 ((X.length:Nat):Int)))] hW hE8 fun a9 ab=>?_
 refine qak (qjo ab (t:=22) (A:=A) (m:=((X ++ rest).length)) (cp:=c) (k:=.i64) (q:=((X.length:Nat):Int)) (d:=29) (j:=X.length) kz (e:=5) (bytes:=1) kz (rfl) (by first | omega | (simp only [List.length_append,be_length,List.length_cons,List.length_nil] at *; omega)) fun al ac=>?_)
 refine qaj [7] [] [(0,.p 0 0),(1,.v (.int .i64 ((X.length:Nat):Int))),(5,.v (.slice A X.length X.length))] hW ac fun am ae=>?_
 refine qad (qaa ?_)
 refine qac [0,1,2,3,4,5,6,7,8,9] kz ?_
 refine qaj [0,1,2,3,4,5] [6,7,8,9] [(5,.v (.slice A X.length X.length)),(30,.p 0 0),(34,.v (.slice A ((X ++ rest).length) c)),(35,.v (.int .i64 ((X.length:Nat):Int)))] hW ae fun ao af=>?_
 refine qak (qcC af (t:=22) (A:=A) (m:=((X ++ rest).length)) (cp:=c) (q:=((X.length:Nat):Int)) (d:=36) (j:=X.length) kz (e:=5) (bytes:=1) kz (rfl) (by first | omega | (simp only [List.length_append,be_length,List.length_cons,List.length_nil] at *; omega)) fun ap ag=>?_)
 refine qaj [7,8] [9] [(5,.v (.slice A X.length X.length)),(36,.v (.slice (cutA A c X.length) (((X ++ rest).length) - X.length) (c - X.length))),(38,.p 0 0)] hW ag fun ar ah=>?_
 refine qak (qaH hW ah (oi:=0) (cs:=[.slice (cutA A c X.length) (((X ++ rest).length) - X.length) (c - X.length),.bool false]) kz fun au ak aa ai=>?_)
 refine qad (qaa ?_)
 refine qar [(4,.v (.slice A X.length X.length))] aa ai fun av aj=>?_
 refine wp_ret ?_
 refine qaG aj aa.cells (v:=.slice A X.length X.length) kz ?_
 exact ⟨_,_,_,_,rfl,Str.of aa 0 rfl,RdS.drop (s:=X) ⟨rfl,ho.move aa.step (fun b_ o_ h_ _=>hFd b_ o_ h_) qa0⟩ (rfl),aa.step,A,rfl,RdS.front (s:=X) ⟨rfl,ho.move aa.step (fun b_ o_ h_ _=>hFd b_ o_ h_) qa0⟩ rfl⟩
theorem qjt {br:Nat} {A:Option Addr} {m c:Nat} {w:World} (hst:Str w br [.slice A m c,.bool false]) :
  Calls Tryz.prog 74 #[.pointer (some ⟨br,0,none⟩)] w (fun e w'=>e = .returned .nilIface ∧ w' = w):=by
 refine enter (n:=8) Tryz.func74 rfl Tryz.ntmps74 kz fun a hE=>?_
 have hW:WOk w (RdM br) w [⟨br,0,[.slice A m c,.bool false],true⟩] []:=WOk.startStr hst
 have hE1:=(hE.grow ⟨br,0,[.slice A m c,.bool false],true⟩).recast 0 (.v (.pointer (some ⟨br,0,none⟩))) (.p 0 0) rfl rfl (Nat.le_of_ble_eq_true (n:=1) rfl)
 refine qar [(0,.p 0 0)] hW hE1 fun a1 hE2=>?_
 refine wp_seq ?_
 refine qar [(6,.v (.bool false))] hW hE2 fun a3 hE4=>?_
 refine qaq hE4 (b:=false) kz rfl ?_
 refine wp_skip ?_
 refine qaa ?_
 refine qar [(2,.v (.nilIface))] hW hE4 fun a5 hE6=>?_
 refine wp_ret ?_
 refine qaG hE6 hW.cells (v:=.nilIface) kz ?_
 exact ⟨rfl,rfl⟩
structure TR (w w':World) (br p2 p3:Nat) (F:Nat → Nat → Prop) (A:Option Addr) (n c:Nat) (s:Bs) (m:Option Nat) (u:List (Int × Bs)):Prop where
 step:Step w w' (RdM br)
 old:br < w.heap.size
 new2:w.heap.size ≤ p2
 new3:w.heap.size ≤ p3
 ne:p2 ≠ p3
 rd:Str w' br [.slice A n c,.bool false]
 s2:Str w' p2 [.map none]
 s3:Str w' p3 [.map m]
 oct:RdS w' (fun b o=>F b o ∧ b < w.heap.size) A n c s
 own:OwnM w' (fun b o=>F b o ∧ b < w.heap.size) m u
 new:∀ r,m = some r → w.heap.size ≤ r
theorem TR.mne {w w':World} {br p2 p3:Nat} {F:Nat → Nat → Prop} {A:Option Addr} {n c:Nat} {s:Bs} {m:Option Nat} {u:List (Int × Bs)} (h:TR w w' br p2 p3 F A n c s m u):m ≠ some p2 ∧ m ≠ some p3:=by
 refine ⟨fun e=>?_,fun e=>?_⟩
 ·obtain ⟨es,clk,h1,_⟩:=h.own.some_ p2 e
  exact qew (h.s2.at_ 0 _ rfl) h1 rfl
 obtain ⟨es,clk,h1,_⟩:=h.own.some_ p3 e
 exact qew (h.s3.at_ 0 _ rfl) h1 rfl
theorem TR.read {w w' w1:World} {br p2 p3:Nat} {F:Nat → Nat → Prop} {A A':Option Addr} {n c n' c':Nat} {s s':Bs} {m:Option Nat} {u:List (Int × Bs)} (h:TR w w' br p2 p3 F A n c s m u) (hFd:∀ b o,F b o → ¬ RdM br b o) (hs:Str w1 br [.slice A' n' c',.bool false]) (hr:RdS w1 (fun b o=>F b o ∧ b < w.heap.size) A' n' c' s') (hst:Step w' w1 (RdM br)):TR w w1 br p2 p3 F A' n' c' s' m u:=by
 have ho:=h.old
 have h2:=h.new2
 have h3:=h.new3
 refine ⟨h.step.trans hst fun _ _ _ e=>e,ho,h2,h3,h.ne,hs,h.s2.move hst fun o e=>?_,h.s3.move hst fun o e=>?_,hr,h.own.move hst (fun b o hg _=>hFd b o hg.1) qa0 (fun r o e he=>?_),h.new⟩
 ·have:=e.1; omega
 ·have:=e.1; omega
 have:=h.new r e; have:=he.1; omega
theorem TR.set {w w':World} {br p2 p3:Nat} {F:Nat → Nat → Prop} {A A1:Option Addr} {n c c1 j:Nat} {s x:Bs} {k:Int} {m:Option Nat} {u:List (Int × Bs)} (h:TR w w' br p2 p3 F A n c s m (u.take j)) (hsort:qdk u) (hj:u[j]? = some (k,x)) (hx:Octs w' (fun b o=>F b o ∧ b < w.heap.size) A1 c1 x) (hk:0 ≤ k ∧ k < 4294967296) :
  Calls Tryz.prog 92 [.pointer (some ⟨p3,0,none⟩),.int .u32 k,.slice A1 x.length c1].toArray w' (fun e w1=>e = .returned (.tuple #[]) ∧ ∃ r,TR w w1 br p2 p3 F A n c s (some r) (u.take (j + 1))):=by
 have hcell:w'.cell? ⟨p3,0,none⟩ = some (.map m):=h.s3.at_ 0 _ rfl
 have hfz:w'.frozen? ⟨p3,0,none⟩ = false:=h.s3.frz 0 (by simp)
 have hnew:=h.new
 have h2:=h.new2
 have h3:=h.new3
 have ho:=h.old
 have hsz:=h.step.size
 obtain ⟨m2,m3⟩:=h.mne
 refine (qjU hcell hfz h.own hx hk (fun b' o' hg=>⟨fun e=>?_,fun e=>?_⟩) (fun b' o' hg=>Nat.lt_of_lt_of_le hg.2 hsz)).mono ?_
 ·have:=hg.2; omega
 ·have:=hnew b' e; have:=hg.2; omega
 rintro e w1 ⟨rfl,r,g1,g2,g3,g4,g5⟩
 rw [qiN hsort hj] at g3
 refine ⟨rfl,r,h.step.trans g5 fun b o hl e=>?_,ho,h2,h3,h.ne,h.rd.move g5 fun o e=>?_,h.s2.move g5 fun o e=>?_,⟨fun i v hi=>?_,fun i hi=>?_⟩,⟨h.oct.len,Octs.move h.oct.oct g5 (fun b o hg _ e=>?_) qa0⟩,g3,fun r' hr'=>?_⟩
 ·rcases e with ⟨e1,_⟩ | e1
  ·omega
  have:=hnew b e1; omega
 ·rcases e with ⟨e1,_⟩ | e1
  ·omega
  have:=hnew br e1; omega
 ·rcases e with ⟨e1,_⟩ | e1
  ·exact h.ne e1
  exact m2 e1
 ·cases i with
  | zero =>
   simp only [List.getElem?_cons_zero,Option.some.injEq] at hi
   subst hi
   exact g1
  | succ i=>simp at hi
 ·have:i = 0:=by simp at hi; omega
  subst this
  exact g2
 ·have:=hg.2
  rcases e with ⟨e1,_⟩ | e1
  ·omega
  have:=hnew b e1; omega
 obtain rfl:=Option.some.inj hr'
 rcases g4 with g4 | g4
 ·exact hnew _ g4
 exact Nat.le_trans hsz g4
theorem qia (x:Int × Bs) (u:List (Int × Bs)):qbw (x :: u) = tagR x.1 x.2 ++ qbw u:=by unfold qbw; rw [List.flatMap_cons]
theorem qib {u:List (Int × Bs)} {j:Nat} {k:Int} {x:Bs} (h:u[j]? = some (k,x)) (rest:Bs):qbw (u.drop j) ++ rest = uv k.toNat ++ (uv x.length ++ (x ++ (qbw (u.drop (j + 1)) ++ rest))):=by
 obtain ⟨hlt,he⟩:=List.getElem?_eq_some_iff.1 h
 rw [List.drop_eq_getElem_cons hlt,he,qia]
 simp only [tagR,List.append_assoc]
theorem qlX (u:List (Int × Bs)) (rest:Bs) (hsort:qdk u) (hk:∀ x ∈ u,0 ≤ x.1 ∧ x.1 < 4294967296) (hul:u.length ≤ 1000000) (hxl:∀ x ∈ u,x.2.length < 4294967296) {br:Nat} {A:Option Addr} {m c:Nat} {w:World} {F:Nat → Nat → Prop} (hst:Str w br [.slice A m c,.bool false]) (hr:RdS w F A m c (uv u.length ++ (qbw u ++ rest))) (hFd:∀ b o,F b o → ¬ RdM br b o) :
  Calls Tryz.prog 90 #[.pointer (some ⟨br,0,none⟩)] w (RdPost w br (Fp F w) rest fun v w'=>∃ mm,v = .agg #[.map mm] ∧ MapR w' (Fp F w) mm u):=by
 have hbr:br < w.heap.size:=World.lt_of_cell (hst.at_ 0 _ rfl)
 refine enter (n:=24) (vs:=[.pointer (some ⟨br,0,none⟩)]) Tryz.func90 rfl Tryz.ntmps90 kz fun a hE=>?_
 have hW:=WOk.start w Nil
 refine qac [0] kz ?_
 refine qak (qaY hW hE (d:=2) (cs:=[.map none]) kz fun p2 a1 w1 hp2 hz2 hF1 hW1 hE1=>qad (qaa ?_))
 refine qac [0] kz ?_
 refine qak (qaY hW1 hE1 (d:=3) (cs:=[.map none]) kz fun p3 a2 w2 hp3 hz3 hF2 hW2 hE2=>qad (qaa ?_))
 have hne:p2 ≠ p3:=by
  have h1:=hW1.live 0 _ rfl
  simp only at h1
  omega
 have hS:Step w w2 Nil:=hW2.step
 have hT0:TR w w2 br p2 p3 F A m c (uv u.length ++ (qbw u ++ rest)) none (u.take 0):=by
  refine ⟨hS.mono fun _ _ _ h=>h.elim,hbr,hz2,hz3,hne,hst.move hS (fun _ h=>h),Str.of hW2 0 rfl,Str.of hW2 1 rfl,hr.move hS nilM (fun b o h hb=>⟨h,hb⟩),?_,fun _ h=>by cases h⟩
  rw [List.take_zero]
  exact OwnM.nil _ _
 refine wp_seq ?_
 have hE3:=(((hE2.recast 2 (.p 0 0) (.v (.pointer (some ⟨p2,0,none⟩))) rfl rfl trivial).recast 3 (.p 1 0) (.v (.pointer (some ⟨p3,0,none⟩))) rfl rfl trivial).pick (ks:=[0,2,3]) (env':=[(0,.v (.pointer (some ⟨br,0,none⟩))),(2,.v (.pointer (some ⟨p2,0,none⟩))),(3,.v (.pointer (some ⟨p3,0,none⟩)))]) kz).cutTb 0 kz
 have hWz:=WOk.start w2 Nil
 refine qac [0,1,2] kz ?_
 refine qaj [0] [1,2] [(0,.v (.pointer (some ⟨br,0,none⟩))),(2,.v (.pointer (some ⟨p2,0,none⟩))),(3,.v (.pointer (some ⟨p3,0,none⟩))),(7,.v (.pointer (some ⟨br,0,none⟩)))] hWz hE3 fun a3 hE4=>?_
 have hFd':∀ b o,(F b o ∧ b < w.heap.size) → ¬ RdM br b o:=fun b o h=>hFd b o h.1
 refine qak (qal hE4 (f:=91) (vs:=[.pointer (some ⟨br,0,none⟩)]) (d:=8) kz Tryz.call91 (qcJ u.length (by omega) (qbw u ++ rest) hT0.rd hT0.oct hFd') ?_)
 rintro e_ w3 ⟨_,A3,n3,c3,rfl,hs3,hr3,hst3,rfl⟩
 have hT1:=hT0.read hFd hs3 hr3 hst3
 refine ⟨_,rfl,fun a4 hE5=>?_⟩
 refine qaj [2] [] [(0,.v (.pointer (some ⟨br,0,none⟩))),(2,.v (.pointer (some ⟨p2,0,none⟩))),(3,.v (.pointer (some ⟨p3,0,none⟩))),(4,.v (.int .u32 ((u.length:Nat):Int)))] (WOk.start w3 Nil) hE5 fun a5 hE6=>qad (qaa ?_)
 refine wp_block ?_
 refine wp_loop_ghost (fun q a_ w_=>∃ (j:Nat) (m_:Option Nat) (A_:Option Addr) (n_ c_:Nat),q = u.length - j ∧ j ≤ u.length ∧ EnvOk 24 [] [(0,.v (.pointer (some ⟨br,0,none⟩))),(2,.v (.pointer (some ⟨p2,0,none⟩))),(3,.v (.pointer (some ⟨p3,0,none⟩))),(4,.v (.int .u32 ((u.length - j:Nat):Int)))] a_ ∧ TR w w_ br p2 p3 F A_ n_ c_ (qbw (u.drop j) ++ rest) m_ (u.take j)) u.length
  ⟨0,none,A3,n3,c3,by omega,by omega,hE6,hT1⟩ ?_
 rintro q aq wq ⟨j,m_,A_,n_,c_,rfl,hj,hEq,hT⟩
 have hWq:=WOk.start wq Nil
 refine wp_seq (qar [(0,.v (.pointer (some ⟨br,0,none⟩))),(2,.v (.pointer (some ⟨p2,0,none⟩))),(3,.v (.pointer (some ⟨p3,0,none⟩))),(4,.v (.int .u32 ((u.length - j:Nat):Int))),(10,.v (.bool (decide (((u.length - j:Nat):Int) > 0))))] hWq hEq fun aq1 hE7=>?_)
 refine qau hE7 (b:=decide (((u.length - j:Nat):Int) > 0)) kz (fun hc=>?_) (fun hc=>?_)
 ·have hlt:j < u.length:=by have:=of_decide_eq_true hc; omega
  obtain ⟨⟨k,x⟩,hu⟩:∃ y,u[j]? = some y:=⟨_,List.getElem?_eq_getElem hlt⟩
  have hk':=hk (k,x) (List.mem_of_getElem? hu)
  have hx':=hxl (k,x) (List.mem_of_getElem? hu)
  dsimp only at hk' hx'
  have hoct:=hT.oct
  rw [qib hu rest] at hoct
  refine wp_skip (qaa (wp_seq (wp_block ?_)))
  refine qac [0,1,2,3,4,5] kz ?_
  refine qaj [0] [1,2,3,4,5] [(0,.v (.pointer (some ⟨br,0,none⟩))),(2,.v (.pointer (some ⟨p2,0,none⟩))),(3,.v (.pointer (some ⟨p3,0,none⟩))),(4,.v (.int .u32 ((u.length - j:Nat):Int))),(13,.v (.pointer (some ⟨br,0,none⟩)))] hWq hE7 fun aq2 hE8=>?_
  refine qak (qal hE8 (f:=91) (vs:=[.pointer (some ⟨br,0,none⟩)]) (d:=14) kz Tryz.call91 (qcJ k.toNat (by omega) _ hT.rd hoct hFd') ?_)
  rintro e_ wa ⟨_,Aa,na,ca,rfl,hsa,hra,hsta,rfl⟩
  have hTa:=hT.read hFd hsa hra hsta
  refine ⟨_,rfl,fun aq3 hE9=>?_⟩
  refine qaj [2] [3,4,5] [(0,.v (.pointer (some ⟨br,0,none⟩))),(2,.v (.pointer (some ⟨p2,0,none⟩))),(3,.v (.pointer (some ⟨p3,0,none⟩))),(4,.v (.int .u32 ((u.length - j:Nat):Int))),(14,.v (.int .u32 ((k.toNat:Nat):Int))),(15,.v (.pointer (some ⟨br,0,none⟩)))] (WOk.start wa Nil) hE9 fun aq4 hE10=>?_
  refine qak (qal hE10 (f:=91) (vs:=[.pointer (some ⟨br,0,none⟩)]) (d:=16) kz Tryz.call91 (qcJ x.length hx' _ hTa.rd hTa.oct hFd') ?_)
  rintro e_ wb ⟨_,Ab,nb,cb,rfl,hsb,hrb,hstb,rfl⟩
  have hTb:=hTa.read hFd hsb hrb hstb
  refine ⟨_,rfl,fun aq5 hE11=>?_⟩
  refine qaj [4,5] [] [(0,.v (.pointer (some ⟨br,0,none⟩))),(2,.v (.pointer (some ⟨p2,0,none⟩))),(3,.v (.pointer (some ⟨p3,0,none⟩))),(4,.v (.int .u32 ((u.length - j:Nat):Int))),(5,.v (.int .u32 ((k.toNat:Nat):Int))),(6,.v (.int .u32 ((x.length:Nat):Int)))] (WOk.start wb Nil) hE11 fun aq6 hE12=>qad (qaa ?_)
  refine qap [0,1,2,3,4,5] kz ?_
  refine qaj [0,1,2,3] [4,5] [(0,.v (.pointer (some ⟨br,0,none⟩))),(2,.v (.pointer (some ⟨p2,0,none⟩))),(3,.v (.pointer (some ⟨p3,0,none⟩))),(4,.v (.int .u32 ((u.length - j:Nat):Int))),(17,.v (.int .u32 ((k.toNat:Nat):Int))),(18,.v (.pointer (some ⟨br,0,none⟩))),(20,.v (.int .i64 (IntKind.i64.wrap ((x.length:Nat):Int))))] (WOk.start wb Nil) hE12 fun aq7 hE13=>?_
  rw [show IntKind.i64.wrap ((x.length:Nat):Int) = ((x.length:Nat):Int) by rw [i64w]; omega,show ((k.toNat:Nat):Int) = k by omega] at hE13
  refine qak (qal hE13 (f:=93) (vs:=[.pointer (some ⟨br,0,none⟩),.int .i64 ((x.length:Nat):Int)]) (d:=21) kz Tryz.call93 (qhc x _ hTb.rd hTb.oct hFd') ?_)
  rintro e_ wc ⟨_,Ac,nc,cc,rfl,hsc,hrc,hstc,Ax,rfl,hox⟩
  have hTc:=hTb.read hFd hsc hrc hstc
  refine ⟨_,rfl,fun aq8 hE14=>?_⟩
  refine qak (qal hE14 (f:=92) (vs:=[.pointer (some ⟨p3,0,none⟩),.int .u32 k,.slice Ax x.length x.length]) (d:=22) kz Tryz.call92 (hTc.set hsort hu hox hk') ?_)
  rintro e_ wd ⟨rfl,r,hTd⟩
  refine ⟨_,rfl,fun aq9 hE15=>qad (qaz (qaa ?_))⟩
  refine qap [0,1,2] kz (qaj [0,1,2] [] [(0,.v (.pointer (some ⟨br,0,none⟩))),(2,.v (.pointer (some ⟨p2,0,none⟩))),(3,.v (.pointer (some ⟨p3,0,none⟩))),(4,.v (.int .u32 (IntKind.u32.wrap (((u.length - j:Nat):Int) - 1))))] (WOk.start wd Nil) hE15 fun aqa hE16=>qad (qaa ?_))
  rw [show IntKind.u32.wrap (((u.length - j:Nat):Int) - 1) = ((u.length - (j + 1):Nat):Int) by rw [qan]; omega] at hE16
  exact ⟨u.length - (j + 1),by omega,j + 1,some r,Ac,nc,cc,rfl,by omega,hE16,hTd⟩
 obtain rfl:j = u.length:=by have:=of_decide_eq_false hc; omega
 refine wp_exit (qay (qay (qaM (qaa ?_))))
 rw [List.take_length,List.drop_length] at hT
 have hT':TR w wq br p2 p3 F A_ n_ c_ rest m_ u:=hT
 have h2:=hT'.new2
 have h3:=hT'.new3
 have hW9:WOk w (RdM br) wq ([] ++ [⟨p3,0,[.map m_],true⟩] ++ [⟨p2,0,[.map none],true⟩]) []:=by
  have hb:WOk w (RdM br) wq [] []:=⟨hT'.step,fun i o hi=>by simp at hi,fun i o hi=>by simp at hi,fun i o hi=>by simp at hi,fun i j o o' _ hi=>by simp at hi,fun i r hi=>by simp at hi,fun i r hi=>by simp at hi,fun i r hi=>by simp at hi,fun i j r r' _ hi=>by simp at hi⟩
  have h4:=hb.add ⟨p3,0,[.map m_],true⟩ (World.lt_of_cell (hT'.s3.at_ 0 _ rfl)) (fun j v hj=>by rw [Nat.zero_add]; exact hT'.s3.at_ j v hj) (fun _ j hj=>⟨.inl h3,by rw [Nat.zero_add]; exact hT'.s3.frz j hj⟩) (fun i o hi=>by simp at hi) (fun i r hi=>by simp at hi)
  refine h4.add ⟨p2,0,[.map none],true⟩ (World.lt_of_cell (hT'.s2.at_ 0 _ rfl)) (fun j v hj=>by rw [Nat.zero_add]; exact hT'.s2.at_ j v hj) (fun _ j hj=>⟨.inl h2,by rw [Nat.zero_add]; exact hT'.s2.frz j hj⟩) (fun i o hi _=>.inl ?_) (fun i r hi=>by simp at hi)
  have:o = ⟨p3,0,[.map m_],true⟩:=by
   have hm:=List.mem_of_getElem? hi
   simpa using hm
  rw [this]
  exact fun e=>hT'.ne e.symm
 have hE17:=(((hE7.retable [⟨p3,0,[.map m_],true⟩,⟨p2,0,[.map none],true⟩]).recast 3 (.v (.pointer (some ⟨p3,0,none⟩))) (.p 0 0) rfl rfl (Nat.le_of_ble_eq_true (n:=1) rfl)).recast 2 (.v (.pointer (some ⟨p2,0,none⟩))) (.p 1 0) rfl rfl (Nat.le_of_ble_eq_true (n:=2) rfl))
 have hE18:EnvOk 24 [⟨p3,0,[.map m_],true⟩,⟨p2,0,[.map none],true⟩] [(2,.p 1 0),(3,.p 0 0)] _:=hE17.pk
 refine qac [0,1] kz ?_
 refine qaj [0] [1] [(2,.p 1 0),(23,.v (.agg #[.map m_]))] hW9 hE18 fun aqb hE19=>?_
 refine qak (qaH hW9 hE19 (oi:=1) (cs:=[.map m_]) kz fun wz hFz hWz hEz=>qad (qaa (wp_ret ?_)))
 have hsz:=hT'.step.size
 have hstz:Step wq wz (fun b o=>b = p2 ∨ b = p3):=hFz.step.mono fun b o _ ha=>by
  rcases ha with ⟨i,ob,hi,_,rfl,_⟩ | ⟨i,r,hi,_⟩
  ·have hm:=List.mem_of_getElem? hi
   simp only [List.nil_append,List.cons_append,List.mem_cons,List.not_mem_nil,or_false] at hm
   rcases hm with rfl | rfl
   ·exact .inr rfl
   exact .inl rfl
  simp at hi
 obtain ⟨m2,m3⟩:=hT'.mne
 refine qaG hEz hWz.cells (v:=.agg #[.map m_]) kz ⟨_,A_,n_,c_,rfl,hT'.rd.move hstz (fun o e=>?_),hT'.oct.move hstz (fun b o hg _ e=>?_) (fun b o hg _=>.inl hg.1),hWz.step,m_,rfl,?_⟩
 ·have:=hT'.old; rcases e with e | e <;> omega
 ·have:=hg.2; rcases e with e | e <;> omega
 refine (hT'.own.move hstz (fun b o hg _ e=>?_) qa0 (fun r o e he=>?_)).map (fun b o h=>.inl h.1) (fun r o e=>.inr (hT'.new r e)) hsort hk
 ·have:=hg.2; rcases e with e | e <;> omega
 rcases he with he | he
 ·exact m2 (by rw [e,he])
 exact m3 (by rw [e,he])
theorem qk8 (X:Bs) (hX:X.length ≤ 32767) (rest:Bs)  {br:Nat} {A:Option Addr} {m c:Nat} {w:World} {F:Nat → Nat → Prop} (hst:Str w br [.slice A m c,.bool false]) (hr:RdS w F A m c ((be 2 ((X.length:Nat):Int)) ++ (X ++ rest))) (hFd:∀ b o,F b o → ¬ RdM br b o) :
  Calls Tryz.prog 79 #[.pointer (some ⟨br,0,none⟩)] w (RdPost w br (Fp F w) rest fun v w'=>v = .string (bs X)):=by
 refine enter (n:=11) Tryz.func79 rfl Tryz.ntmps79 kz fun a hE=>?_
 have hW:WOk w (RdM br) w [⟨br,0,[.slice A m c,.bool false],true⟩] []:=WOk.startStr hst
 have hE1:=(hE.grow ⟨br,0,[.slice A m c,.bool false],true⟩).recast 0 (.v (.pointer (some ⟨br,0,none⟩))) (.p 0 0) rfl rfl (Nat.le_of_ble_eq_true (n:=1) rfl)
 refine qar [(0,.p 0 0)] hW hE1 fun a1 hE2=>?_
 refine qac [0,1,2] kz ?_
 refine qaj [0] [1,2] [(0,.p 0 0),(4,.p 0 0)] hW hE2 fun a3 hE4=>?_
 refine qak (qal hE4 (f:=83) (vs:=[.pointer (some ⟨br,0,none⟩)]) (d:=5) kz Tryz.call83 (qhF ((X.length:Nat):Int) (X ++ rest) (Str.of hW 0 rfl) (hr.move hW.step (fun b_ o_ h_ _=>hFd b_ o_ h_) (hW.immM hFd)) (qch 0 rfl)) ?_)
 rintro e_ w5 ⟨_,A6,n7,c8,rfl,hs9,ag,ac,rfl⟩
 obtain ⟨aa,ah,aG⟩:=hW.wrote 0 [⟨br,0,[.slice A6 n7 c8,.bool false],true⟩] rfl ac hs9
 have ai:=ag.move (Step.refl _ Nil) nilM (fun b_ o_ h_ _=>ah.to b_ o_ h_)
 refine ⟨_,rfl,fun aJ aj=>?_⟩
 have ak:EnvOk 11 [⟨br,0,[.slice A6 n7 c8,.bool false],true⟩] [(5,.v (.int .i16 (IntKind.i16.wrap ((X.length:Nat):Int)))),(0,.p 0 0),(4,.p 0 0)] _:=aj.places (⟨rfl,rfl,trivial⟩)
 refine qaj [2] [] [(0,.p 0 0),(3,.v (.int .i16 (IntKind.i16.wrap ((X.length:Nat):Int))))] aa ak fun aK al=>?_
 refine qad (qaa ?_)
 refine qac [0,1,2,3,4,5] kz ?_
 refine qaj [0,1,2] [3,4,5] [(6,.p 0 0),(8,.v (.int .i64 (IntKind.i64.wrap (IntKind.i16.wrap ((X.length:Nat):Int)))))] aa al fun aL am=>?_
 have ao:IntKind.i64.wrap (IntKind.i16.wrap ((X.length:Nat):Int)) = ((X.length:Nat):Int):=by simp only [i16w,i32w,i64w]; omega
 have ap:=EnvOk.pick am (ks:=[6,8]) (env':=[(6,.p 0 0),(8,.v (.int .i64 (IntKind.i64.wrap (IntKind.i16.wrap ((X.length:Nat):Int)))))]) kz
 have ar:=ap.cast (env':=[(6,.p 0 0),(8,.v (.int .i64 ((X.length:Nat):Int)))]) (by rw [ao])
 refine qak (qal ar (f:=93) (vs:=[.pointer (some ⟨br,0,none⟩),.int .i64 ((X.length:Nat):Int)]) (d:=9) kz Tryz.call93 (qhc X (rest) (Str.of aa 0 rfl) ai (qch 0 rfl)) ?_)
 rintro e_ aM ⟨_,aD,aE,aF,rfl,au,av,ae,⟨aH,rfl,aw⟩⟩
 obtain ⟨ab,af,aI⟩:=aa.wrote 0 [⟨br,0,[.slice aD aE aF,.bool false],true⟩] rfl ae au
 have ax:=av.move (Step.refl _ Nil) nilM (fun b_ o_ h_ _=>af.to b_ o_ h_)
 refine ⟨_,rfl,fun aN ay=>?_⟩
 have az:EnvOk 11 [⟨br,0,[.slice aD aE aF,.bool false],true⟩] [(9,.v (.slice aH X.length X.length)),(6,.p 0 0),(8,.v (.int .i64 ((X.length:Nat):Int)))] _:=ay.places (⟨rfl,rfl,trivial⟩)
 have aA:=aw.move (Step.refl _ Nil) nilM (fun b_ o_ h_ _=>af.to b_ o_ h_)
 refine qak (qen az (src:=22) (dst:=9) (e:=5) (d:=10) kz kz kz kz aA fun aO aB=>?_)
 refine qaj [5] [] [(2,.v (.string (bs X)))] ab aB fun aP aC=>?_
 refine qad (qaa ?_)
 refine wp_ret ?_
 refine qaG aC ab.cells (v:=.string (bs X)) kz ?_
 refine ⟨_,_,_,_,rfl,Str.of ab 0 rfl,(ax.move (Step.refl _ Nil) nilM qcx),ab.step,rfl⟩
theorem qfp (X:Bs) (hX:X.length ≤ 1000000) (rest:Bs)  {br:Nat} {A:Option Addr} {m c:Nat} {w:World} {F:Nat → Nat → Prop} (hst:Str w br [.slice A m c,.bool false]) (hr:RdS w F A m c ((uv (X.length + 1)) ++ (X ++ rest))) (hFd:∀ b o,F b o → ¬ RdM br b o) :
  Calls Tryz.prog 78 #[.pointer (some ⟨br,0,none⟩)] w (RdPost w br (Fp F w) rest fun v w'=>v = .string (bs X)):=by
 refine enter (n:=12) Tryz.func78 rfl Tryz.ntmps78 kz fun a hE=>?_
 have hW:WOk w (RdM br) w [⟨br,0,[.slice A m c,.bool false],true⟩] []:=WOk.startStr hst
 have hE1:=(hE.grow ⟨br,0,[.slice A m c,.bool false],true⟩).recast 0 (.v (.pointer (some ⟨br,0,none⟩))) (.p 0 0) rfl rfl (Nat.le_of_ble_eq_true (n:=1) rfl)
 refine qar [(0,.p 0 0)] hW hE1 fun a1 hE2=>?_
 refine qac [0,1,2,3,4] kz ?_
 refine qaj [0] [1,2,3,4] [(0,.p 0 0),(4,.p 0 0)] hW hE2 fun a3 hE4=>?_
 refine qak (qal hE4 (f:=91) (vs:=[.pointer (some ⟨br,0,none⟩)]) (d:=5) kz Tryz.call91 (qcJ (X.length + 1) (by omega) (X ++ rest) (Str.of hW 0 rfl) (hr.move hW.step (fun b_ o_ h_ _=>hFd b_ o_ h_) (hW.immM hFd)) (qch 0 rfl)) ?_)
 rintro e_ w5 ⟨_,A6,n7,c8,rfl,hs9,ag,ac,rfl⟩
 obtain ⟨aa,ah,aG⟩:=hW.wrote 0 [⟨br,0,[.slice A6 n7 c8,.bool false],true⟩] rfl ac hs9
 have ai:=ag.move (Step.refl _ Nil) nilM (fun b_ o_ h_ _=>ah.to b_ o_ h_)
 refine ⟨_,rfl,fun aJ aj=>?_⟩
 have ak:EnvOk 12 [⟨br,0,[.slice A6 n7 c8,.bool false],true⟩] [(5,.v (.int .u32 ((X.length + 1:Nat):Int))),(0,.p 0 0),(4,.p 0 0)] _:=aj.places (⟨rfl,rfl,trivial⟩)
 refine qaj [2,3,4] [] [(0,.p 0 0),(3,.v (.int .i64 (IntKind.i64.wrap ((IntKind.i64.wrap ((X.length + 1:Nat):Int)) - 1))))] aa ak fun aK al=>?_
 refine qad (qaa ?_)
 refine qac [0,1,2,3,4] kz ?_
 refine qaj [0,1] [2,3,4] [(8,.p 0 0),(9,.v (.int .i64 (IntKind.i64.wrap ((IntKind.i64.wrap ((X.length + 1:Nat):Int)) - 1))))] aa al fun aL am=>?_
 have ao:IntKind.i64.wrap ((IntKind.i64.wrap ((X.length + 1:Nat):Int)) - 1) = ((X.length:Nat):Int):=by simp only [i16w,i32w,i64w]; omega
 have ap:=EnvOk.pick am (ks:=[8,9]) (env':=[(8,.p 0 0),(9,.v (.int .i64 (IntKind.i64.wrap ((IntKind.i64.wrap ((X.length + 1:Nat):Int)) - 1))))]) kz
 have ar:=ap.cast (env':=[(8,.p 0 0),(9,.v (.int .i64 ((X.length:Nat):Int)))]) (by rw [ao])
 refine qak (qal ar (f:=93) (vs:=[.pointer (some ⟨br,0,none⟩),.int .i64 ((X.length:Nat):Int)]) (d:=10) kz Tryz.call93 (qhc X (rest) (Str.of aa 0 rfl) ai (qch 0 rfl)) ?_)
 rintro e_ aM ⟨_,aD,aE,aF,rfl,au,av,ae,⟨aH,rfl,aw⟩⟩
 obtain ⟨ab,af,aI⟩:=aa.wrote 0 [⟨br,0,[.slice aD aE aF,.bool false],true⟩] rfl ae au
 have ax:=av.move (Step.refl _ Nil) nilM (fun b_ o_ h_ _=>af.to b_ o_ h_)
 refine ⟨_,rfl,fun aN ay=>?_⟩
 have az:EnvOk 12 [⟨br,0,[.slice aD aE aF,.bool false],true⟩] [(10,.v (.slice aH X.length X.length)),(8,.p 0 0),(9,.v (.int .i64 ((X.length:Nat):Int)))] _:=ay.places (⟨rfl,rfl,trivial⟩)
 have aA:=aw.move (Step.refl _ Nil) nilM (fun b_ o_ h_ _=>af.to b_ o_ h_)
 refine qak (qen az (src:=22) (dst:=9) (e:=5) (d:=11) kz kz kz kz aA fun aO aB=>?_)
 refine qaj [4] [] [(2,.v (.string (bs X)))] ab aB fun aP aC=>?_
 refine qad (qaa ?_)
 refine wp_ret ?_
 refine qaG aC ab.cells (v:=.string (bs X)) kz ?_
 refine ⟨_,_,_,_,rfl,Str.of ab 0 rfl,(ax.move (Step.refl _ Nil) nilM qcx),ab.step,rfl⟩
theorem qlF (X:Bs) (hX:X.length ≤ 1000000) (rest:Bs)  {br:Nat} {A:Option Addr} {m c:Nat} {w:World} {F:Nat → Nat → Prop} (hst:Str w br [.slice A m c,.bool false]) (hr:RdS w F A m c ((be 4 ((X.length:Nat):Int)) ++ (X ++ rest))) (hFd:∀ b o,F b o → ¬ RdM br b o) :
  Calls Tryz.prog 105 #[.pointer (some ⟨br,0,none⟩)] w (RdPost w br (Fp F w) rest fun v w'=>∃ A2,v = .slice A2 X.length X.length ∧ Octs w' (Fp F w) A2 X.length X):=by
 refine enter (n:=13) Tryz.func105 rfl Tryz.ntmps105 kz fun a hE=>?_
 have hW:WOk w (RdM br) w [⟨br,0,[.slice A m c,.bool false],true⟩] []:=WOk.startStr hst
 have hE1:=(hE.grow ⟨br,0,[.slice A m c,.bool false],true⟩).recast 0 (.v (.pointer (some ⟨br,0,none⟩))) (.p 0 0) rfl rfl (Nat.le_of_ble_eq_true (n:=1) rfl)
 refine qar [(0,.p 0 0)] hW hE1 fun a1 hE2=>?_
 refine qac [0,1,2] kz ?_
 refine qaj [0] [1,2] [(0,.p 0 0),(4,.p 0 0)] hW hE2 fun a3 hE4=>?_
 refine qak (qal hE4 (f:=82) (vs:=[.pointer (some ⟨br,0,none⟩)]) (d:=5) kz Tryz.call82 (qjs ((X.length:Nat):Int) (X ++ rest) (Str.of hW 0 rfl) (hr.move hW.step (fun b_ o_ h_ _=>hFd b_ o_ h_) (hW.immM hFd)) (qch 0 rfl)) ?_)
 rintro e_ w5 ⟨_,A6,n7,c8,rfl,hs9,ah,ac,rfl⟩
 obtain ⟨aa,ai,aH⟩:=hW.wrote 0 [⟨br,0,[.slice A6 n7 c8,.bool false],true⟩] rfl ac hs9
 have aj:=ah.move (Step.refl _ Nil) nilM (fun b_ o_ h_ _=>ai.to b_ o_ h_)
 refine ⟨_,rfl,fun aJ ak=>?_⟩
 have al:EnvOk 13 [⟨br,0,[.slice A6 n7 c8,.bool false],true⟩] [(5,.v (.int .i32 (IntKind.i32.wrap ((X.length:Nat):Int)))),(0,.p 0 0),(4,.p 0 0)] _:=ak.places (⟨rfl,rfl,trivial⟩)
 refine qaj [2] [] [(0,.p 0 0),(3,.v (.int .i32 (IntKind.i32.wrap ((X.length:Nat):Int))))] aa al fun aK am=>?_
 refine qad (qaa ?_)
 refine wp_seq ?_
 refine qar [(0,.p 0 0),(3,.v (.int .i32 (IntKind.i32.wrap ((X.length:Nat):Int)))),(7,.v (.bool ((IntKind.i32.wrap ((X.length:Nat):Int)) == (-1))))] aa am fun aL ae=>?_
 refine qaq ae (b:=(IntKind.i32.wrap ((X.length:Nat):Int)) == (-1)) kz ((by rw [beq_eq_false_iff_ne]; simp only [i32w,i64w]; omega)) ?_
 refine wp_skip ?_
 refine qaa ?_
 refine qac [0,1,2,3,4] kz ?_
 refine qaj [0,1,2] [3,4] [(9,.p 0 0),(11,.v (.int .i64 (IntKind.i64.wrap (IntKind.i32.wrap ((X.length:Nat):Int)))))] aa ae fun aM ao=>?_
 have ap:IntKind.i64.wrap (IntKind.i32.wrap ((X.length:Nat):Int)) = ((X.length:Nat):Int):=by simp only [i16w,i32w,i64w]; omega
 have ar:=EnvOk.pick ao (ks:=[9,11]) (env':=[(9,.p 0 0),(11,.v (.int .i64 (IntKind.i64.wrap (IntKind.i32.wrap ((X.length:Nat):Int)))))]) kz
 have au:=ar.cast (env':=[(9,.p 0 0),(11,.v (.int .i64 ((X.length:Nat):Int)))]) (by rw [ap])
 refine qak (qal au (f:=93) (vs:=[.pointer (some ⟨br,0,none⟩),.int .i64 ((X.length:Nat):Int)]) (d:=12) kz Tryz.call93 (qhc X (rest) (Str.of aa 0 rfl) aj (qch 0 rfl)) ?_)
 rintro e_ aN ⟨_,aE,aF,aG,rfl,av,aw,af,⟨ax,rfl,ay⟩⟩
 obtain ⟨ab,ag,aI⟩:=aa.wrote 0 [⟨br,0,[.slice aE aF aG,.bool false],true⟩] rfl af av
 have az:=aw.move (Step.refl _ Nil) nilM (fun b_ o_ h_ _=>ag.to b_ o_ h_)
 refine ⟨_,rfl,fun aO aA=>?_⟩
 have aB:EnvOk 13 [⟨br,0,[.slice aE aF aG,.bool false],true⟩] [(12,.v (.slice ax X.length X.length)),(9,.p 0 0),(11,.v (.int .i64 ((X.length:Nat):Int)))] _:=aA.places (⟨rfl,rfl,trivial⟩)
 have aC:=ay.move (Step.refl _ Nil) nilM (fun b_ o_ h_ _=>ag.to b_ o_ h_)
 refine qaj [4] [] [(2,.v (.slice ax X.length X.length))] ab aB fun aP aD=>?_
 refine qad (qaa ?_)
 refine wp_ret ?_
 refine qaG aD ab.cells (v:=.slice ax X.length X.length) kz ?_
 refine ⟨_,_,_,_,rfl,Str.of ab 0 rfl,(az.move (Step.refl _ Nil) nilM qcx),ab.step,_,rfl,(aC.move (Step.refl _ Nil) nilM qcx)⟩
theorem qf4 (X:Bs) (hX:X.length ≤ 1000000) (rest:Bs)  {br:Nat} {A:Option Addr} {m c:Nat} {w:World} {F:Nat → Nat → Prop} (hst:Str w br [.slice A m c,.bool false]) (hr:RdS w F A m c ((uv (X.length + 1)) ++ (X ++ rest))) (hFd:∀ b o,F b o → ¬ RdM br b o) :
  Calls Tryz.prog 104 #[.pointer (some ⟨br,0,none⟩)] w (RdPost w br (Fp F w) rest fun v w'=>∃ A2,v = .slice A2 X.length X.length ∧ Octs w' (Fp F w) A2 X.length X):=by
 refine enter (n:=14) Tryz.func104 rfl Tryz.ntmps104 kz fun a hE=>?_
 have hW:WOk w (RdM br) w [⟨br,0,[.slice A m c,.bool false],true⟩] []:=WOk.startStr hst
 have hE1:=(hE.grow ⟨br,0,[.slice A m c,.bool false],true⟩).recast 0 (.v (.pointer (some ⟨br,0,none⟩))) (.p 0 0) rfl rfl (Nat.le_of_ble_eq_true (n:=1) rfl)
 refine qar [(0,.p 0 0)] hW hE1 fun a1 hE2=>?_
 refine qac [0,1,2,3,4] kz ?_
 refine qaj [0] [1,2,3,4] [(0,.p 0 0),(4,.p 0 0)] hW hE2 fun a3 hE4=>?_
 refine qak (qal hE4 (f:=91) (vs:=[.pointer (some ⟨br,0,none⟩)]) (d:=5) kz Tryz.call91 (qcJ (X.length + 1) (by omega) (X ++ rest) (Str.of hW 0 rfl) (hr.move hW.step (fun b_ o_ h_ _=>hFd b_ o_ h_) (hW.immM hFd)) (qch 0 rfl)) ?_)
 rintro e_ w5 ⟨_,A6,n7,c8,rfl,hs9,ah,ac,rfl⟩
 obtain ⟨aa,ai,aH⟩:=hW.wrote 0 [⟨br,0,[.slice A6 n7 c8,.bool false],true⟩] rfl ac hs9
 have aj:=ah.move (Step.refl _ Nil) nilM (fun b_ o_ h_ _=>ai.to b_ o_ h_)
 refine ⟨_,rfl,fun aJ ak=>?_⟩
 have al:EnvOk 14 [⟨br,0,[.slice A6 n7 c8,.bool false],true⟩] [(5,.v (.int .u32 ((X.length + 1:Nat):Int))),(0,.p 0 0),(4,.p 0 0)] _:=ak.places (⟨rfl,rfl,trivial⟩)
 refine qaj [2,3,4] [] [(0,.p 0 0),(3,.v (.int .i64 (IntKind.i64.wrap ((IntKind.i64.wrap ((X.length + 1:Nat):Int)) - 1))))] aa al fun aK am=>?_
 refine qad (qaa ?_)
 refine wp_seq ?_
 refine qar [(0,.p 0 0),(3,.v (.int .i64 (IntKind.i64.wrap ((IntKind.i64.wrap ((X.length + 1:Nat):Int)) - 1)))),(9,.v (.bool ((IntKind.i64.wrap ((IntKind.i64.wrap ((X.length + 1:Nat):Int)) - 1)) == (-1))))] aa am fun aL ae=>?_
 refine qaq ae (b:=(IntKind.i64.wrap ((IntKind.i64.wrap ((X.length + 1:Nat):Int)) - 1)) == (-1)) kz ((by rw [beq_eq_false_iff_ne]; simp only [i32w,i64w]; omega)) ?_
 refine wp_skip ?_
 refine qaa ?_
 refine qac [0,1,2,3] kz ?_
 refine qaj [0,1] [2,3] [(11,.p 0 0),(12,.v (.int .i64 (IntKind.i64.wrap ((IntKind.i64.wrap ((X.length + 1:Nat):Int)) - 1))))] aa ae fun aM ao=>?_
 have ap:IntKind.i64.wrap ((IntKind.i64.wrap ((X.length + 1:Nat):Int)) - 1) = ((X.length:Nat):Int):=by simp only [i16w,i32w,i64w]; omega
 have ar:=EnvOk.pick ao (ks:=[11,12]) (env':=[(11,.p 0 0),(12,.v (.int .i64 (IntKind.i64.wrap ((IntKind.i64.wrap ((X.length + 1:Nat):Int)) - 1))))]) kz
 have au:=ar.cast (env':=[(11,.p 0 0),(12,.v (.int .i64 ((X.length:Nat):Int)))]) (by rw [ap])
 refine qak (qal au (f:=93) (vs:=[.pointer (some ⟨br,0,none⟩),.int .i64 ((X.length:Nat):Int)]) (d:=13) kz Tryz.call93 (qhc X (rest) (Str.of aa 0 rfl) aj (qch 0 rfl)) ?_)
 rintro e_ aN ⟨_,aE,aF,aG,rfl,av,aw,af,⟨ax,rfl,ay⟩⟩
 obtain ⟨ab,ag,aI⟩:=aa.wrote 0 [⟨br,0,[.slice aE aF aG,.bool false],true⟩] rfl af av
 have az:=aw.move (Step.refl _ Nil) nilM (fun b_ o_ h_ _=>ag.to b_ o_ h_)
 refine ⟨_,rfl,fun aO aA=>?_⟩
 have aB:EnvOk 14 [⟨br,0,[.slice aE aF aG,.bool false],true⟩] [(13,.v (.slice ax X.length X.length)),(11,.p 0 0),(12,.v (.int .i64 ((X.length:Nat):Int)))] _:=aA.places (⟨rfl,rfl,trivial⟩)
 have aC:=ay.move (Step.refl _ Nil) nilM (fun b_ o_ h_ _=>ag.to b_ o_ h_)
 refine qaj [3] [] [(2,.v (.slice ax X.length X.length))] ab aB fun aP aD=>?_
 refine qad (qaa ?_)
 refine wp_ret ?_
 refine qaG aD ab.cells (v:=.slice ax X.length X.length) kz ?_
 refine ⟨_,_,_,_,rfl,Str.of ab 0 rfl,(az.move (Step.refl _ Nil) nilM qcx),ab.step,_,rfl,(aC.move (Step.refl _ Nil) nilM qcx)⟩
theorem qeL (X:Bs) (rest:Bs)  {br:Nat} {A:Option Addr} {m c:Nat} {w:World} {F:Nat → Nat → Prop} (hst:Str w br [.slice A m c,.bool false]) (hr:RdS w F A m c ((be 2 (-1)) ++ rest)) (hFd:∀ b o,F b o → ¬ RdM br b o) :
  Calls Tryz.prog 89 #[.pointer (some ⟨br,0,none⟩)] w (RdPost w br (Fp F w) rest fun v w'=>∃ A2,v = .pointer A2 ∧ (∀ ad,A2 = some ad → ∃ b o,ad = ⟨b,o,none⟩ ∧ AtF w' (Fp F w) b o [.string (bs X)]) ∧ A2.isNone = true):=by
 refine enter (n:=14) Tryz.func89 rfl Tryz.ntmps89 kz fun a hE=>?_
 have hW:WOk w (RdM br) w [⟨br,0,[.slice A m c,.bool false],true⟩] []:=WOk.startStr hst
 have hE1:=(hE.grow ⟨br,0,[.slice A m c,.bool false],true⟩).recast 0 (.v (.pointer (some ⟨br,0,none⟩))) (.p 0 0) rfl rfl (Nat.le_of_ble_eq_true (n:=1) rfl)
 refine qar [(0,.p 0 0)] hW hE1 fun a1 hE2=>?_
 refine qac [0,1,2] kz ?_
 refine qaj [0] [1,2] [(0,.p 0 0),(5,.p 0 0)] hW hE2 fun a3 hE4=>?_
 refine qak (qal hE4 (f:=83) (vs:=[.pointer (some ⟨br,0,none⟩)]) (d:=6) kz Tryz.call83 (qhF (-1) (rest) (Str.of hW 0 rfl) (hr.move hW.step (fun b_ o_ h_ _=>hFd b_ o_ h_) (hW.immM hFd)) (qch 0 rfl)) ?_)
 rintro e_ w5 ⟨_,A6,n7,c8,rfl,hs9,ae,ab,rfl⟩
 obtain ⟨aa,af,al⟩:=hW.wrote 0 [⟨br,0,[.slice A6 n7 c8,.bool false],true⟩] rfl ab hs9
 have ag:=ae.move (Step.refl _ Nil) nilM (fun b_ o_ h_ _=>af.to b_ o_ h_)
 refine ⟨_,rfl,fun am ah=>?_⟩
 have ai:EnvOk 14 [⟨br,0,[.slice A6 n7 c8,.bool false],true⟩] [(6,.v (.int .i16 (IntKind.i16.wrap (-1)))),(0,.p 0 0),(5,.p 0 0)] _:=ah.places (⟨rfl,rfl,trivial⟩)
 refine qaj [2] [] [(0,.p 0 0),(3,.v (.int .i16 (IntKind.i16.wrap (-1))))] aa ai fun ao aj=>?_
 refine qad (qaa ?_)
 refine wp_seq ?_
 refine qar [(0,.p 0 0),(3,.v (.int .i16 (IntKind.i16.wrap (-1)))),(8,.v (.bool (decide ((IntKind.i16.wrap (-1)) < 0))))] aa aj fun ap ac=>?_
 refine qbz ac (b:=decide ((IntKind.i16.wrap (-1)) < 0)) kz (decide_eq_true (by simp only [i16w,i32w,i64w]; omega)) ?_
 refine qar [(2,.v (.pointer none))] aa ac fun ar ak=>?_
 refine wp_ret ?_
 refine qax ?_
 refine qaG ak aa.cells (v:=.pointer none) kz ?_
 refine ⟨_,_,_,_,rfl,Str.of aa 0 rfl,(ag.move (Step.refl _ Nil) nilM qcx),aa.step,_,rfl,(fun ad h_=>by cases h_),rfl⟩
theorem qeM (X:Bs) (hX:X.length ≤ 32767) (rest:Bs)  {br:Nat} {A:Option Addr} {m c:Nat} {w:World} {F:Nat → Nat → Prop} (hst:Str w br [.slice A m c,.bool false]) (hr:RdS w F A m c ((be 2 ((X.length:Nat):Int)) ++ (X ++ rest))) (hFd:∀ b o,F b o → ¬ RdM br b o) :
  Calls Tryz.prog 89 #[.pointer (some ⟨br,0,none⟩)] w (RdPost w br (Fp F w) rest fun v w'=>∃ A2,v = .pointer A2 ∧ (∀ ad,A2 = some ad → ∃ b o,ad = ⟨b,o,none⟩ ∧ AtF w' (Fp F w) b o [.string (bs X)]) ∧ A2.isNone = false):=by
 refine enter (n:=14) Tryz.func89 rfl Tryz.ntmps89 kz fun a hE=>?_
 have hW:WOk w (RdM br) w [⟨br,0,[.slice A m c,.bool false],true⟩] []:=WOk.startStr hst
 have hE1:=(hE.grow ⟨br,0,[.slice A m c,.bool false],true⟩).recast 0 (.v (.pointer (some ⟨br,0,none⟩))) (.p 0 0) rfl rfl (Nat.le_of_ble_eq_true (n:=1) rfl)
 refine qar [(0,.p 0 0)] hW hE1 fun a1 hE2=>?_
 refine qac [0,1,2] kz ?_
 refine qaj [0] [1,2] [(0,.p 0 0),(5,.p 0 0)] hW hE2 fun a3 hE4=>?_
 refine qak (qal hE4 (f:=83) (vs:=[.pointer (some ⟨br,0,none⟩)]) (d:=6) kz Tryz.call83 (qhF ((X.length:Nat):Int) (X ++ rest) (Str.of hW 0 rfl) (hr.move hW.step (fun b_ o_ h_ _=>hFd b_ o_ h_) (hW.immM hFd)) (qch 0 rfl)) ?_)
 rintro e_ w5 ⟨_,A6,n7,c8,rfl,hs9,aj,ac,rfl⟩
 obtain ⟨aa,ak,aN⟩:=hW.wrote 0 [⟨br,0,[.slice A6 n7 c8,.bool false],true⟩] rfl ac hs9
 have al:=aj.move (Step.refl _ Nil) nilM (fun b_ o_ h_ _=>ak.to b_ o_ h_)
 refine ⟨_,rfl,fun aT am=>?_⟩
 have ao:EnvOk 14 [⟨br,0,[.slice A6 n7 c8,.bool false],true⟩] [(6,.v (.int .i16 (IntKind.i16.wrap ((X.length:Nat):Int)))),(0,.p 0 0),(5,.p 0 0)] _:=am.places (⟨rfl,rfl,trivial⟩)
 refine qaj [2] [] [(0,.p 0 0),(3,.v (.int .i16 (IntKind.i16.wrap ((X.length:Nat):Int))))] aa ao fun aU ap=>?_
 refine qad (qaa ?_)
 refine wp_seq ?_
 refine qar [(0,.p 0 0),(3,.v (.int .i16 (IntKind.i16.wrap ((X.length:Nat):Int)))),(8,.v (.bool (decide ((IntKind.i16.wrap ((X.length:Nat):Int)) < 0))))] aa ap fun aV ae=>?_
 refine qaq ae (b:=decide ((IntKind.i16.wrap ((X.length:Nat):Int)) < 0)) kz (decide_eq_false (by simp only [i16w,i32w,i64w]; omega)) ?_
 refine wp_skip ?_
 refine qaa ?_
 refine qac [0,1,2,3,4,5,6] kz ?_
 refine qaj [0,1,2] [3,4,5,6] [(9,.p 0 0),(11,.v (.int .i64 (IntKind.i64.wrap (IntKind.i16.wrap ((X.length:Nat):Int)))))] aa ae fun aW ar=>?_
 have au:IntKind.i64.wrap (IntKind.i16.wrap ((X.length:Nat):Int)) = ((X.length:Nat):Int):=by simp only [i16w,i32w,i64w]; omega
 have av:=EnvOk.pick ar (ks:=[9,11]) (env':=[(9,.p 0 0),(11,.v (.int .i64 (IntKind.i64.wrap (IntKind.i16.wrap ((X.length:Nat):Int)))))]) kz
 have aw:=av.cast (env':=[(9,.p 0 0),(11,.v (.int .i64 ((X.length:Nat):Int)))]) (by rw [au])
 refine qak (qal aw (f:=93) (vs:=[.pointer (some ⟨br,0,none⟩),.int .i64 ((X.length:Nat):Int)]) (d:=12) kz Tryz.call93 (qhc X (rest) (Str.of aa 0 rfl) al (qch 0 rfl)) ?_)
 rintro e_ aX ⟨_,aK,aL,aM,rfl,ax,ay,af,⟨aO,rfl,az⟩⟩
 obtain ⟨aA,ag,aP⟩:=aa.wrote 0 [⟨br,0,[.slice aK aL aM,.bool false],true⟩] rfl af ax
 have aB:=ay.move (Step.refl _ Nil) nilM (fun b_ o_ h_ _=>ag.to b_ o_ h_)
 refine ⟨_,rfl,fun aY aC=>?_⟩
 have aD:EnvOk 14 [⟨br,0,[.slice aK aL aM,.bool false],true⟩] [(12,.v (.slice aO X.length X.length)),(9,.p 0 0),(11,.v (.int .i64 ((X.length:Nat):Int)))] _:=aC.places (⟨rfl,rfl,trivial⟩)
 have aE:=az.move (Step.refl _ Nil) nilM (fun b_ o_ h_ _=>ag.to b_ o_ h_)
 refine qak (qen aD (src:=22) (dst:=9) (e:=5) (d:=13) kz kz kz kz aE fun aZ aF=>?_)
 refine qak (qaY aA aF (d:=4) (cs:=[.string ByteArray.empty]) kz fun aQ ba bd aR aS ah aG aH=>?_)
 refine qak (qaH aG aH (oi:=1) (cs:=[.string (bs X)]) kz fun bf ai ab aI=>?_)
 refine qad (qaa ?_)
 refine qar [(2,.p 1 0)] ab aI fun bg aJ=>?_
 refine wp_ret ?_
 refine qaG aJ ab.cells (v:=.pointer (some ⟨aQ,0,none⟩)) kz ?_
 refine ⟨_,_,_,_,rfl,Str.of ab 0 rfl,((aB.move (ah.trans ai).step immM (ah.trans ai).to').move (Step.refl _ Nil) nilM qcx),ab.step,_,rfl,(fun ad h_=>by
  obtain rfl:=Option.some.inj h_
  exact ⟨_,0,rfl,fun j v_ hj=>⟨.inr ‹_›,ab.cells 1 _ rfl j v_ hj⟩⟩),rfl⟩
theorem qfl (nul:Bool) (X:Bs) (hX:X.length ≤ 32767) (rest:Bs) {br:Nat} {A:Option Addr} {m c:Nat} {w:World} {F:Nat → Nat → Prop} (hst:Str w br [.slice A m c,.bool false]) (hr:RdS w F A m c ((if nul = true then be 2 (-1) else be 2 ((X.length:Nat):Int) ++ X) ++ rest)) (hFd:∀ b o,F b o → ¬ RdM br b o) :
  Calls Tryz.prog 89 #[.pointer (some ⟨br,0,none⟩)] w (RdPost w br (Fp F w) rest fun v w'=>∃ A2,v = .pointer A2 ∧ (∀ ad,A2 = some ad → ∃ b o,ad = ⟨b,o,none⟩ ∧ AtF w' (Fp F w) b o [.string (bs X)]) ∧ A2.isNone = nul):=by
 cases nul
 ·exact qeM X hX rest hst (hr.cast (by simp only [Bool.false_eq_true,if_false,List.append_assoc])) hFd
 exact qeL X rest hst (hr.cast (by simp only [if_true])) hFd
theorem qc0 (X:Bs) (rest:Bs)  {br:Nat} {A:Option Addr} {m c:Nat} {w:World} {F:Nat → Nat → Prop} (hst:Str w br [.slice A m c,.bool false]) (hr:RdS w F A m c ((uv 0) ++ rest)) (hFd:∀ b o,F b o → ¬ RdM br b o) :
  Calls Tryz.prog 87 #[.pointer (some ⟨br,0,none⟩)] w (RdPost w br (Fp F w) rest fun v w'=>∃ A2,v = .pointer A2 ∧ (∀ ad,A2 = some ad → ∃ b o,ad = ⟨b,o,none⟩ ∧ AtF w' (Fp F w) b o [.string (bs X)]) ∧ A2.isNone = true):=by
 refine enter (n:=15) Tryz.func87 rfl Tryz.ntmps87 kz fun a hE=>?_
 have hW:WOk w (RdM br) w [⟨br,0,[.slice A m c,.bool false],true⟩] []:=WOk.startStr hst
 have hE1:=(hE.grow ⟨br,0,[.slice A m c,.bool false],true⟩).recast 0 (.v (.pointer (some ⟨br,0,none⟩))) (.p 0 0) rfl rfl (Nat.le_of_ble_eq_true (n:=1) rfl)
 refine qar [(0,.p 0 0)] hW hE1 fun a1 hE2=>?_
 refine qac [0,1,2,3,4] kz ?_
 refine qaj [0] [1,2,3,4] [(0,.p 0 0),(5,.p 0 0)] hW hE2 fun a3 hE4=>?_
 refine qak (qal hE4 (f:=91) (vs:=[.pointer (some ⟨br,0,none⟩)]) (d:=6) kz Tryz.call91 (qcJ 0 (by omega) (rest) (Str.of hW 0 rfl) (hr.move hW.step (fun b_ o_ h_ _=>hFd b_ o_ h_) (hW.immM hFd)) (qch 0 rfl)) ?_)
 rintro e_ w5 ⟨_,A6,n7,c8,rfl,hs9,ae,ab,rfl⟩
 obtain ⟨aa,af,al⟩:=hW.wrote 0 [⟨br,0,[.slice A6 n7 c8,.bool false],true⟩] rfl ab hs9
 have ag:=ae.move (Step.refl _ Nil) nilM (fun b_ o_ h_ _=>af.to b_ o_ h_)
 refine ⟨_,rfl,fun am ah=>?_⟩
 have ai:EnvOk 15 [⟨br,0,[.slice A6 n7 c8,.bool false],true⟩] [(6,.v (.int .u32 ((0:Nat):Int))),(0,.p 0 0),(5,.p 0 0)] _:=ah.places (⟨rfl,rfl,trivial⟩)
 refine qaj [2,3,4] [] [(0,.p 0 0),(3,.v (.int .i64 (IntKind.i64.wrap ((IntKind.i64.wrap ((0:Nat):Int)) - 1))))] aa ai fun ao aj=>?_
 refine qad (qaa ?_)
 refine wp_seq ?_
 refine qar [(0,.p 0 0),(3,.v (.int .i64 (IntKind.i64.wrap ((IntKind.i64.wrap ((0:Nat):Int)) - 1)))),(10,.v (.bool (decide ((IntKind.i64.wrap ((IntKind.i64.wrap ((0:Nat):Int)) - 1)) < 0))))] aa aj fun ap ac=>?_
 refine qbz ac (b:=decide ((IntKind.i64.wrap ((IntKind.i64.wrap ((0:Nat):Int)) - 1)) < 0)) kz (decide_eq_true (by simp only [i16w,i32w,i64w]; omega)) ?_
 refine qar [(2,.v (.pointer none))] aa ac fun ar ak=>?_
 refine wp_ret ?_
 refine qax ?_
 refine qaG ak aa.cells (v:=.pointer none) kz ?_
 refine ⟨_,_,_,_,rfl,Str.of aa 0 rfl,(ag.move (Step.refl _ Nil) nilM qcx),aa.step,_,rfl,(fun ad h_=>by cases h_),rfl⟩
theorem qc1 (X:Bs) (hX:X.length ≤ 1000000) (rest:Bs)  {br:Nat} {A:Option Addr} {m c:Nat} {w:World} {F:Nat → Nat → Prop} (hst:Str w br [.slice A m c,.bool false]) (hr:RdS w F A m c ((uv (X.length + 1)) ++ (X ++ rest))) (hFd:∀ b o,F b o → ¬ RdM br b o) :
  Calls Tryz.prog 87 #[.pointer (some ⟨br,0,none⟩)] w (RdPost w br (Fp F w) rest fun v w'=>∃ A2,v = .pointer A2 ∧ (∀ ad,A2 = some ad → ∃ b o,ad = ⟨b,o,none⟩ ∧ AtF w' (Fp F w) b o [.string (bs X)]) ∧ A2.isNone = false):=by
 refine enter (n:=15) Tryz.func87 rfl Tryz.ntmps87 kz fun a hE=>?_
 have hW:WOk w (RdM br) w [⟨br,0,[.slice A m c,.bool false],true⟩] []:=WOk.startStr hst
 have hE1:=(hE.grow ⟨br,0,[.slice A m c,.bool false],true⟩).recast 0 (.v (.pointer (some ⟨br,0,none⟩))) (.p 0 0) rfl rfl (Nat.le_of_ble_eq_true (n:=1) rfl)
 refine qar [(0,.p 0 0)] hW hE1 fun a1 hE2=>?_
 refine qac [0,1,2,3,4] kz ?_
 refine qaj [0] [1,2,3,4] [(0,.p 0 0),(5,.p 0 0)] hW hE2 fun a3 hE4=>?_
 refine qak (qal hE4 (f:=91) (vs:=[.pointer (some ⟨br,0,none⟩)]) (d:=6) kz Tryz.call91 (qcJ (X.length + 1) (by omega) (X ++ rest) (Str.of hW 0 rfl) (hr.move hW.step (fun b_ o_ h_ _=>hFd b_ o_ h_) (hW.immM hFd)) (qch 0 rfl)) ?_)
 rintro e_ w5 ⟨_,A6,n7,c8,rfl,hs9,aj,ac,rfl⟩
 obtain ⟨aa,ak,aN⟩:=hW.wrote 0 [⟨br,0,[.slice A6 n7 c8,.bool false],true⟩] rfl ac hs9
 have al:=aj.move (Step.refl _ Nil) nilM (fun b_ o_ h_ _=>ak.to b_ o_ h_)
 refine ⟨_,rfl,fun aT am=>?_⟩
 have ao:EnvOk 15 [⟨br,0,[.slice A6 n7 c8,.bool false],true⟩] [(6,.v (.int .u32 ((X.length + 1:Nat):Int))),(0,.p 0 0),(5,.p 0 0)] _:=am.places (⟨rfl,rfl,trivial⟩)
 refine qaj [2,3,4] [] [(0,.p 0 0),(3,.v (.int .i64 (IntKind.i64.wrap ((IntKind.i64.wrap ((X.length + 1:Nat):Int)) - 1))))] aa ao fun aU ap=>?_
 refine qad (qaa ?_)
 refine wp_seq ?_
 refine qar [(0,.p 0 0),(3,.v (.int .i64 (IntKind.i64.wrap ((IntKind.i64.wrap ((X.length + 1:Nat):Int)) - 1)))),(10,.v (.bool (decide ((IntKind.i64.wrap ((IntKind.i64.wrap ((X.length + 1:Nat):Int)) - 1)) < 0))))] aa ap fun aV ae=>?_
 refine qaq ae (b:=decide ((IntKind.i64.wrap ((IntKind.i64.wrap ((X.length + 1:Nat):Int)) - 1)) < 0)) kz (decide_eq_false (by simp only [i16w,i32w,i64w]; omega)) ?_
 refine wp_skip ?_
 refine qaa ?_
 refine qac [0,1,2,3,4,5] kz ?_
 refine qaj [0,1] [2,3,4,5] [(11,.p 0 0),(12,.v (.int .i64 (IntKind.i64.wrap ((IntKind.i64.wrap ((X.length + 1:Nat):Int)) - 1))))] aa ae fun aW ar=>?_
 have au:IntKind.i64.wrap ((IntKind.i64.wrap ((X.length + 1:Nat):Int)) - 1) = ((X.length:Nat):Int):=by simp only [i16w,i32w,i64w]; omega
 have av:=EnvOk.pick ar (ks:=[11,12]) (env':=[(11,.p 0 0),(12,.v (.int .i64 (IntKind.i64.wrap ((IntKind.i64.wrap ((X.length + 1:Nat):Int)) - 1))))]) kz
 have aw:=av.cast (env':=[(11,.p 0 0),(12,.v (.int .i64 ((X.length:Nat):Int)))]) (by rw [au])
 refine qak (qal aw (f:=93) (vs:=[.pointer (some ⟨br,0,none⟩),.int .i64 ((X.length:Nat):Int)]) (d:=13) kz Tryz.call93 (qhc X (rest) (Str.of aa 0 rfl) al (qch 0 rfl)) ?_)
 rintro e_ aX ⟨_,aK,aL,aM,rfl,ax,ay,af,⟨aO,rfl,az⟩⟩
 obtain ⟨aA,ag,aP⟩:=aa.wrote 0 [⟨br,0,[.slice aK aL aM,.bool false],true⟩] rfl af ax
 have aB:=ay.move (Step.refl _ Nil) nilM (fun b_ o_ h_ _=>ag.to b_ o_ h_)
 refine ⟨_,rfl,fun aY aC=>?_⟩
 have aD:EnvOk 15 [⟨br,0,[.slice aK aL aM,.bool false],true⟩] [(13,.v (.slice aO X.length X.length)),(11,.p 0 0),(12,.v (.int .i64 ((X.length:Nat):Int)))] _:=aC.places (⟨rfl,rfl,trivial⟩)
 have aE:=az.move (Step.refl _ Nil) nilM (fun b_ o_ h_ _=>ag.to b_ o_ h_)
 refine qak (qen aD (src:=22) (dst:=9) (e:=5) (d:=14) kz kz kz kz aE fun aZ aF=>?_)
 refine qak (qaY aA aF (d:=4) (cs:=[.string ByteArray.empty]) kz fun aQ ba bd aR aS ah aG aH=>?_)
 refine qak (qaH aG aH (oi:=1) (cs:=[.string (bs X)]) kz fun bf ai ab aI=>?_)
 refine qad (qaa ?_)
 refine qar [(2,.p 1 0)] ab aI fun bg aJ=>?_
 refine wp_ret ?_
 refine qaG aJ ab.cells (v:=.pointer (some ⟨aQ,0,none⟩)) kz ?_
 refine ⟨_,_,_,_,rfl,Str.of ab 0 rfl,((aB.move (ah.trans ai).step immM (ah.trans ai).to').move (Step.refl _ Nil) nilM qcx),ab.step,_,rfl,(fun ad h_=>by
  obtain rfl:=Option.some.inj h_
  exact ⟨_,0,rfl,fun j v_ hj=>⟨.inr ‹_›,ab.cells 1 _ rfl j v_ hj⟩⟩),rfl⟩
theorem qc6 (nul:Bool) (X:Bs) (hX:X.length ≤ 1000000) (rest:Bs) {br:Nat} {A:Option Addr} {m c:Nat} {w:World} {F:Nat → Nat → Prop} (hst:Str w br [.slice A m c,.bool false]) (hr:RdS w F A m c ((if nul = true then uv 0 else uv (X.length + 1) ++ X) ++ rest)) (hFd:∀ b o,F b o → ¬ RdM br b o) :
  Calls Tryz.prog 87 #[.pointer (some ⟨br,0,none⟩)] w (RdPost w br (Fp F w) rest fun v w'=>∃ A2,v = .pointer A2 ∧ (∀ ad,A2 = some ad → ∃ b o,ad = ⟨b,o,none⟩ ∧ AtF w' (Fp F w) b o [.string (bs X)]) ∧ A2.isNone = nul):=by
 cases nul
 ·exact qc1 X hX rest hst (hr.cast (by simp only [Bool.false_eq_true,if_false,List.append_assoc])) hFd
 exact qc0 X rest hst (hr.cast (by simp only [if_true])) hFd
theorem qju (x:Int) (hx:-1 ≤ x ∧ x ≤ 32767) (rest:Bs) (hl:x ≤ ((rest.length:Nat):Int)) {br:Nat} {A:Option Addr} {m c:Nat} {w:World} {F:Nat → Nat → Prop} (hst:Str w br [.slice A m c,.bool false]) (hr:RdS w F A m c ((be 4 x) ++ rest)) (hFd:∀ b o,F b o → ¬ RdM br b o) :
  Calls Tryz.prog 72 #[.pointer (some ⟨br,0,none⟩)] w (RdPost w br (Fp F w) rest fun v w'=>v = .int .i32 x):=by
 refine enter (n:=21) Tryz.func72 rfl Tryz.ntmps72 kz fun a hE=>?_
 have hW:WOk w (RdM br) w [⟨br,0,[.slice A m c,.bool false],true⟩] []:=WOk.startStr hst
 have hE1:=(hE.grow ⟨br,0,[.slice A m c,.bool false],true⟩).recast 0 (.v (.pointer (some ⟨br,0,none⟩))) (.p 0 0) rfl rfl (Nat.le_of_ble_eq_true (n:=1) rfl)
 refine qar [(0,.p 0 0)] hW hE1 fun a1 hE2=>?_
 refine qac [0,1,2] kz ?_
 refine qaj [0] [1,2] [(0,.p 0 0),(4,.p 0 0)] hW hE2 fun a3 hE4=>?_
 refine qak (qal hE4 (f:=82) (vs:=[.pointer (some ⟨br,0,none⟩)]) (d:=5) kz Tryz.call82 (qjs x (rest) (Str.of hW 0 rfl) (hr.move hW.step (fun b_ o_ h_ _=>hFd b_ o_ h_) (hW.immM hFd)) (qch 0 rfl)) ?_)
 rintro e_ w5 ⟨_,A6,n7,c8,rfl,hs9,af,ab,rfl⟩
 obtain ⟨aa,ag,al⟩:=hW.wrote 0 [⟨br,0,[.slice A6 n7 c8,.bool false],true⟩] rfl ab hs9
 have ac:=af.move (Step.refl _ Nil) nilM (fun b_ o_ h_ _=>ag.to b_ o_ h_)
 refine ⟨_,rfl,fun am ah=>?_⟩
 have ai:EnvOk 21 [⟨br,0,[.slice A6 n7 c8,.bool false],true⟩] [(5,.v (.int .i32 (IntKind.i32.wrap x))),(0,.p 0 0),(4,.p 0 0)] _:=ah.places (⟨rfl,rfl,trivial⟩)
 refine qaj [2] [] [(0,.p 0 0),(3,.v (.int .i32 (IntKind.i32.wrap x)))] aa ai fun ao aj=>?_
 refine qad (qaa ?_)
 refine wp_seq ?_
 refine qar [(0,.p 0 0),(3,.v (.int .i32 (IntKind.i32.wrap x))),(13,.v (.bool (decide (((n7:Nat):Int) < (IntKind.i64.wrap (IntKind.i32.wrap x))))))] aa aj fun ap ae=>?_
 refine qaq ae (b:=decide (((n7:Nat):Int) < (IntKind.i64.wrap (IntKind.i32.wrap x)))) kz (decide_eq_false (by have h_:=ac.len; simp only [i32w,i64w]; omega)) ?_
 refine wp_skip ?_
 refine qaa ?_
 refine qar [(2,.v (.int .i32 (IntKind.i32.wrap x)))] aa ae fun ar ak=>?_
 refine wp_ret ?_
 refine qaG ak aa.cells (v:=.int .i32 (IntKind.i32.wrap x)) kz ?_
 refine ⟨_,_,_,_,rfl,Str.of aa 0 rfl,(ac.move (Step.refl _ Nil) nilM qcx),aa.step,congrArg (Value.int .i32) (by simp only [i32w]; omega)⟩
theorem qeN (n:Nat) (hn:n ≤ 32768) (rest:Bs) (hl:n ≤ rest.length + 1) {br:Nat} {A:Option Addr} {m c:Nat} {w:World} {F:Nat → Nat → Prop} (hst:Str w br [.slice A m c,.bool false]) (hr:RdS w F A m c ((uv n) ++ rest)) (hFd:∀ b o,F b o → ¬ RdM br b o) :
  Calls Tryz.prog 71 #[.pointer (some ⟨br,0,none⟩)] w (RdPost w br (Fp F w) rest fun v w'=>v = .int .i32 (((n:Nat):Int) - 1)):=by
 refine enter (n:=23) Tryz.func71 rfl Tryz.ntmps71 kz fun a hE=>?_
 have hW:WOk w (RdM br) w [⟨br,0,[.slice A m c,.bool false],true⟩] []:=WOk.startStr hst
 have hE1:=(hE.grow ⟨br,0,[.slice A m c,.bool false],true⟩).recast 0 (.v (.pointer (some ⟨br,0,none⟩))) (.p 0 0) rfl rfl (Nat.le_of_ble_eq_true (n:=1) rfl)
 refine qar [(0,.p 0 0)] hW hE1 fun a1 hE2=>?_
 refine qac [0,1,2,3,4] kz ?_
 refine qaj [0] [1,2,3,4] [(0,.p 0 0),(4,.p 0 0)] hW hE2 fun a3 hE4=>?_
 refine qak (qal hE4 (f:=91) (vs:=[.pointer (some ⟨br,0,none⟩)]) (d:=5) kz Tryz.call91 (qcJ n (by omega) (rest) (Str.of hW 0 rfl) (hr.move hW.step (fun b_ o_ h_ _=>hFd b_ o_ h_) (hW.immM hFd)) (qch 0 rfl)) ?_)
 rintro e_ w5 ⟨_,A6,n7,c8,rfl,hs9,af,ab,rfl⟩
 obtain ⟨aa,ag,al⟩:=hW.wrote 0 [⟨br,0,[.slice A6 n7 c8,.bool false],true⟩] rfl ab hs9
 have ac:=af.move (Step.refl _ Nil) nilM (fun b_ o_ h_ _=>ag.to b_ o_ h_)
 refine ⟨_,rfl,fun am ah=>?_⟩
 have ai:EnvOk 23 [⟨br,0,[.slice A6 n7 c8,.bool false],true⟩] [(5,.v (.int .u32 ((n:Nat):Int))),(0,.p 0 0),(4,.p 0 0)] _:=ah.places (⟨rfl,rfl,trivial⟩)
 refine qaj [2,3,4] [] [(0,.p 0 0),(3,.v (.int .i32 (IntKind.i32.wrap ((IntKind.i32.wrap ((n:Nat):Int)) - 1))))] aa ai fun ao aj=>?_
 refine qad (qaa ?_)
 refine wp_seq ?_
 refine qar [(0,.p 0 0),(3,.v (.int .i32 (IntKind.i32.wrap ((IntKind.i32.wrap ((n:Nat):Int)) - 1)))),(15,.v (.bool (decide (((n7:Nat):Int) < (IntKind.i64.wrap (IntKind.i32.wrap ((IntKind.i32.wrap ((n:Nat):Int)) - 1)))))))] aa aj fun ap ae=>?_
 refine qaq ae (b:=decide (((n7:Nat):Int) < (IntKind.i64.wrap (IntKind.i32.wrap ((IntKind.i32.wrap ((n:Nat):Int)) - 1))))) kz (decide_eq_false (by have h_:=ac.len; simp only [i32w,i64w]; omega)) ?_
 refine wp_skip ?_
 refine qaa ?_
 refine qar [(2,.v (.int .i32 (IntKind.i32.wrap ((IntKind.i32.wrap ((n:Nat):Int)) - 1))))] aa ae fun ar ak=>?_
 refine wp_ret ?_
 refine qaG ak aa.cells (v:=.int .i32 (IntKind.i32.wrap ((IntKind.i32.wrap ((n:Nat):Int)) - 1))) kz ?_
 refine ⟨_,_,_,_,rfl,Str.of aa 0 rfl,(ac.move (Step.refl _ Nil) nilM qcx),aa.step,congrArg (Value.int .i32) (by simp only [i32w]; omega)⟩
theorem rOk  (rest:Bs)  {br:Nat} {A:Option Addr} {m c:Nat} {w:World} {F:Nat → Nat → Prop} (hst:Str w br [.slice A m c,.bool false]) (hr:RdS w F A m c (rest)) (hFd:∀ b o,F b o → ¬ RdM br b o) :
  Calls Tryz.prog 73 #[.pointer (some ⟨br,0,none⟩)] w (RdPost w br (Fp F w) rest fun v w'=>v = .bool true):=by
 refine enter (n:=8) Tryz.func73 rfl Tryz.ntmps73 kz fun a hE=>?_
 have hW:WOk w (RdM br) w [⟨br,0,[.slice A m c,.bool false],true⟩] []:=WOk.startStr hst
 have hE1:=(hE.grow ⟨br,0,[.slice A m c,.bool false],true⟩).recast 0 (.v (.pointer (some ⟨br,0,none⟩))) (.p 0 0) rfl rfl (Nat.le_of_ble_eq_true (n:=1) rfl)
 refine qar [(0,.p 0 0)] hW hE1 fun a1 hE2=>?_
 refine qar [(2,.v (.bool true))] hW hE2 fun a3 hE4=>?_
 refine wp_ret ?_
 refine qaG hE4 hW.cells (v:=.bool true) kz ?_
 refine ⟨_,_,_,_,rfl,Str.of hW 0 rfl,((hr.move hW.step (fun b_ o_ h_ _=>hFd b_ o_ h_) (hW.immM hFd)).move (Step.refl _ Nil) nilM qcx),hW.step,rfl⟩
theorem qcl {P:Program} {c:Code} {Mid:Act → World → Prop} {Q:Exit → Act → World → Prop} {a:Act} {w:World} (h1:c.wp P (Exit.then Mid Q) a w) (h2:∀ a' w',Mid a' w' → Q .normal a' w'):c.wp P Q a w :=
 wp_mono h1 fun e a' w' h=>by
  cases e <;> first | exact h2 a' w' h | exact h
theorem qka {k:Nat} (h:k < 32768):IntKind.i32.wrap (((k:Nat):Int) + 1) = ((k + 1:Nat):Int):=by rw [i32w]; omega
theorem qjv {g:Tree → Bs}:∀ {L:List Tree},(∀ t,0 < (g t).length) → L.length ≤ (L.flatMap g).length
 | [],_=>Nat.zero_le _
 | t :: r,h=>by
  have h1:=h t
  have h2:=qjv (L:=r) h
  rw [List.flatMap_cons,List.length_append,List.length_cons]; omega
theorem flat_ge' {g:Tree → Bs} {L:List Tree} (h:∀ t,0 < (g t).length) (rest:Bs):L.length ≤ (L.flatMap g ++ rest).length:=by
 have:=qjv (L:=L) h
 rw [List.length_append]; omega
theorem qeq {a b c d:Bs} (h:a = b) (h':c = d):a ++ c = b ++ d:=by rw [h,h']
theorem if_c {c:Bool} {a b:Bs} (h:c = true → a = b):(if c = true then a else []) = (if c = true then b else []):=by
 cases c
 ·rfl
 rw [h rfl]
theorem qk9 {x y:Bs} (h:0 < x.length):0 < (x ++ y).length:=by rw [List.length_append]; omega
theorem qlG {b:Bool} {x y:Bs} (h:0 < x.length) (h':0 < y.length):0 < (if b = true then x else y).length:=by split <;> assumption
theorem qlH {m:Nat} {x:Int} (h:0 < m):0 < (be m x).length:=by rw [be_length]; exact h
section
variable {Pr:Program} {ops:Array Oper} {Q:Exit → Act → World → Prop} {w0:World} {M F:Nat → Nat → Prop} {n br:Nat} {tb:Tb} {env:Env} {P:qbT} {s:Bs} {a:Act} {w:World}
theorem qla {id d:Nat} {t e:TypeId} {size bytes m cp:Nat} {A0:Option Addr} (env1 env':Env) (i:Nat) (h:RS w0 M F n br tb env P s a w) (K:∀ a',RS w0 M F n br tb env' P s a' w → Q .normal a' w)
  (hr:List.range ops.size = List.range i ++ (i :: (List.range ops.size).drop (i + 1)):=by kernel_rfl) (e1:∀ A m c,qbL Pr ops n (rdo br A m c :: tb) (List.range i) (qbt env1) env = some env1:=by intro _ _ _; kernel_rfl)
  (hc:∀ A m_ c,cutE (rdo br A m_ c :: tb) env1 ops n i = some (t,.slice A0 m cp,none,some 0,d):=by intro _ _ _; kernel_rfl) (ht:qcg Pr t = some (e,size,bytes):=by kernel_rfl)
  (e2:∀ A m_ c,qbL Pr ops n (rdo br A m_ c :: tb) ((List.range ops.size).drop (i + 1)) (qbt env') ((d,.v (.slice A0 0 cp)) :: env1) = some env':=by intro _ _ _; kernel_rfl):(Code.region id ops false).wp Pr Q a w:=by
 refine qap _ hr (qdZ (List.range i) _ env1 h (fun a1 h1=>?_) e1 rfl)
 obtain ⟨A,m1,c,hW,hrd,hE,hP⟩:=h1.open_
 refine qak (qcW hE (hc A m1 c) ht (j:=0) rfl (Nat.zero_le _) fun a2 hE2=>?_)
 exact qdZ _ [] env' (RS.mk' hW hrd hE2 h1.mv hP) (fun a3 h3=>qad (K a3 h3)) e2 (List.append_nil _).symm
theorem qlI {i d:Nat} {f:FuncId} {vs:List Value} {v0:Value} {N:Act → World → Prop} (h:RS w0 M F n br tb env P s a w) (hc:∀ w,Calls Pr f vs.toArray w (fun e w'=>e = .returned v0 ∧ w' = w))
  (hf:∀ args w,(callFunc f args).run Pr w = .ok (.enter f args) w) (K:∀ a',RS w0 M F n br tb ((d,.v v0) :: env) P s a' w → N a' w)
  (he:∀ A m c,qcP (rdo br A m c :: tb) env ops n i = some (f,vs,d):=by intro _ _ _; kernel_rfl):wpOp Pr ops Q i N a w:=by
 obtain ⟨A,m,c,hW,hr,hE,hP⟩:=h.open_
 refine qal hE (he A m c) hf (hc w) ?_
 rintro e_ _ ⟨rfl,rfl⟩
 exact ⟨_,rfl,fun a1 hE1=>K a1 (RS.mk' hW hr hE1 h.mv hP)⟩
theorem qlY {id d:Nat} {f:FuncId} {v0:Value} (env':Env) (h:RS w0 M F n br tb env P s a w) (hc:qcS Pr f [] s v0)
  (hf:∀ args w,(callFunc f args).run Pr w = .ok (.enter f args) w) (K:∀ a' w',RS w0 M F n br tb env' P s a' w' → Q .normal a' w')
  (he:∀ A m c,qcP (rdo br A m c :: tb) env ops n 0 = some (f,[.pointer (some ⟨br,0,none⟩)],d):=by intro _ _ _; kernel_rfl)
  (e:∀ A m c,qbL Pr ops n (rdo br A m c :: tb) ((List.range ops.size).drop 1) (qbt env') ((d,.v v0) :: env) = some env':=by intro _ _ _; kernel_rfl) (hs:Nat.blt 0 ops.size = true:=by kernel_rfl):(Code.region id ops false).wp Pr Q a w :=
 qfk (X:=[]) (rest:=s) env' h hc hf K he e hs
theorem qkb {i d k l g size bytes:Nat} {t e:TypeId} {z:Value} {N:Act → World → Prop} (h:RS w0 M F n br (tb ++ [qbU g size z l k]) env P s a w) (hk:k < l) (hz:z.cells.size = size) (hl:qde (tb.length + 1) env = true)
  (K:∀ a',RS w0 M F n br (tb ++ [qbU g size z l (k + 1),⟨g,k * size,z.cells.toList,true⟩]) ((d,.p (tb.length + 2) 0) :: env) P s a' w → N a' w)
  (he:∀ A m c,idxE (rdo br A m c :: (tb ++ [qbU g size z l k])) env ops n i = some (t,some ⟨g,0,none⟩,l,((k:Nat):Int),d):=by intro _ _ _; kernel_rfl) (ht:qcg Pr t = some (e,size,bytes):=by kernel_rfl):wpOp Pr ops Q i N a w:=by
 obtain ⟨A,m,c,hW,hr,hE,hP⟩:=h.open_
 refine qat hE (he A m c) ht rfl rfl hk fun a1 hE1=>K a1 ?_
 have h1:RS w0 M F n br (tb ++ [qbU g size z l k]) ((d,.v (.pointer (some ⟨g,0 + k * size,none⟩))) :: env) P s a1 w:=RS.mk' hW hr hE1 h.mv hP
 have h2:=h1.next hk hz (by simpa only [qde] using hl)
 have h3:=h2.recast d (.v (.pointer (some ⟨g,0 + k * size,none⟩))) (.p (tb.length + 2) 0) (by simp [lk]) ?_ (by show tb.length + 2 < _; simp)
 ·refine ⟨h3.mv,h3.ex,?_,h3.fact⟩
  refine ⟨h3.env_.defers,h3.env_.size,fun q x hx=>h3.env_.at_ q x ?_⟩
  simp only [lk] at hx ⊢
  split at hx
  ·exact hx
  exact hx
 have:obAt (rdo br none 0 0 :: (tb ++ [qbU g size z l (k + 1),⟨g,k * size,z.cells.toList,true⟩])) (tb.length + 2) = ⟨g,k * size,z.cells.toList,true⟩:=by
  simp only [obAt,List.getD_eq_getElem?_getD]
  rw [show tb.length + 2 = (tb.length + 1) + 1 from rfl,List.getElem?_cons_succ,List.getElem?_append_right (by omega)]
  simp
 simp only [SV.val,this]
 simp
theorem qlb {id d k l g size bytes:Nat} {t e:TypeId} {z:Value} (env1 env':Env) (i:Nat) (h:RS w0 M F n br (tb ++ [qbU g size z l k]) env P s a w) (hk:k < l) (hz:z.cells.size = size) (hl:qde (tb.length + 1) env1 = true)
  (K:∀ a',RS w0 M F n br (tb ++ [qbU g size z l (k + 1),⟨g,k * size,z.cells.toList,true⟩]) env' P s a' w → Q .normal a' w)
  (hr:List.range ops.size = List.range i ++ (i :: (List.range ops.size).drop (i + 1)):=by kernel_rfl) (e1:∀ A m c,qbL Pr ops n (rdo br A m c :: (tb ++ [qbU g size z l k])) (List.range i) (qbt env1) env = some env1:=by intro _ _ _; kernel_rfl)
  (he:∀ A m c,idxE (rdo br A m c :: (tb ++ [qbU g size z l k])) env1 ops n i = some (t,some ⟨g,0,none⟩,l,((k:Nat):Int),d):=by intro _ _ _; kernel_rfl) (ht:qcg Pr t = some (e,size,bytes):=by kernel_rfl)
  (e2:∀ A m c,qbL Pr ops n (rdo br A m c :: (tb ++ [qbU g size z l (k + 1),⟨g,k * size,z.cells.toList,true⟩])) ((List.range ops.size).drop (i + 1)) (qbt env') ((d,.p (tb.length + 2) 0) :: env1) = some env':=by intro _ _ _; kernel_rfl):(Code.region id ops false).wp Pr Q a w:=by
 refine qap _ hr (qdZ (List.range i) _ env1 h (fun a1 h1=>qak (qkb h1 hk hz hl (fun a2 h2=>?_) he ht)) e1 rfl)
 exact qdZ _ [] env' h2 (fun a3 h3=>qad (K a3 h3)) e2 (List.append_nil _).symm
end
theorem qlJ (x:Int) (rest:Bs):qcS Tryz.prog 83 (be 2 (IntKind.i16.wrap x)) rest (.int .i16 (IntKind.i16.wrap x)):=fun hs hr hF=>(qhF _ rest hs hr hF).mono fun e w' hp=>hp.fp fun v w' h=>by rw [h,ww16]
theorem qky (x:Int) (rest:Bs):qcS Tryz.prog 82 (be 4 (IntKind.i32.wrap x)) rest (.int .i32 (IntKind.i32.wrap x)):=fun hs hr hF=>(qjs _ rest hs hr hF).mono fun e w' hp=>hp.fp fun v w' h=>by rw [h,ww32]
theorem qlZ (y:Bool) (rest:Bs):qcS Tryz.prog 102 [by8 (if y then 1 else 0)] rest (.bool y):=fun hs hr hF=>(qlW y rest hs hr hF).mono fun e w' hp=>hp.fp fun v w' h=>h
theorem qf5 (S:Bs) (hS:S.length ≤ 32767) (rest:Bs):qcS Tryz.prog 79 (be 2 S.length ++ S) rest (.string (bs S)):=fun hs hr hF=>(qk8 S hS rest hs (hr.cast (by simp only [List.append_assoc])) hF).mono fun e w' hp=>hp.q fun v w' h=>h
theorem qcm (S:Bs) (hS:S.length ≤ 32767) (rest:Bs):qcS Tryz.prog 78 (uv (S.length + 1) ++ S) rest (.string (bs S)):=fun hs hr hF=>(qfp S (by omega) rest hs (hr.cast (by simp only [List.append_assoc])) hF).mono fun e w' hp=>hp.q fun v w' h=>h
theorem qcD (nul:Bool) (S:Bs) (hS:S.length ≤ 32767) (rest:Bs):qf0 Tryz.prog 89 (if nul = true then be 2 (-1) else be 2 S.length ++ S) rest (fun A:Option Addr=>.pointer A) (fun A=>andF (qg8 A S) (isF (A.isNone = nul))):=fun hs hr hF=>(qfl nul S (by omega) rest hs hr hF).mono fun e w' hp=>hp.q fun v w' h=>by
 obtain ⟨A,h1,h2,h3⟩:=h
 exact ⟨A,h1,h2,h3⟩
theorem qbN (nul:Bool) (S:Bs) (hS:S.length ≤ 32767) (rest:Bs):qf0 Tryz.prog 87 (if nul = true then uv 0 else uv (S.length + 1) ++ S) rest (fun A:Option Addr=>.pointer A) (fun A=>andF (qg8 A S) (isF (A.isNone = nul))):=fun hs hr hF=>(qc6 nul S (by omega) rest hs hr hF).mono fun e w' hp=>hp.q fun v w' h=>by
 obtain ⟨A,h1,h2,h3⟩:=h
 exact ⟨A,h1,h2,h3⟩
theorem qlK (S:Bs) (hS:S.length ≤ 32767) (rest:Bs):qf0 Tryz.prog 105 (be 4 S.length ++ S) rest (fun A:Option Addr=>.slice A S.length S.length) (fun A=>qk4 A S.length S):=fun hs hr hF=>(qlF S (by omega) rest hs (hr.cast (by simp only [List.append_assoc])) hF).mono fun e w' hp=>hp.q fun v w' h=>by
 obtain ⟨A,h1,h2⟩:=h
 exact ⟨A,h1,h2⟩
theorem qf6 (S:Bs) (hS:S.length ≤ 32767) (rest:Bs):qf0 Tryz.prog 104 (uv (S.length + 1) ++ S) rest (fun A:Option Addr=>.slice A S.length S.length) (fun A=>qk4 A S.length S):=fun hs hr hF=>(qf4 S (by omega) rest hs (hr.cast (by simp only [List.append_assoc])) hF).mono fun e w' hp=>hp.q fun v w' h=>by
 obtain ⟨A,h1,h2⟩:=h
 exact ⟨A,h1,h2⟩
theorem qjw (n:Nat) (hn:n ≤ 32767) (rest:Bs) (hl:n ≤ rest.length):qcS Tryz.prog 72 (be 4 n) rest (.int .i32 ((n:Nat):Int)):=fun hs hr hF=>(qju ((n:Nat):Int) (by omega) rest (by omega) hs hr hF).mono fun e w' hp=>hp.q fun v w' h=>h
theorem qeO (n:Nat) (hn:n ≤ 32767) (rest:Bs) (hl:n ≤ rest.length):qcS Tryz.prog 71 (uv (n + 1)) rest (.int .i32 ((n:Nat):Int)):=fun hs hr hF=>(qeN (n + 1) (by omega) rest (by omega) hs hr hF).mono fun e w' hp=>hp.q fun v w' h=>h.trans (congrArg (Value.int .i32) (by omega))
theorem pOk (rest:Bs):qcS Tryz.prog 73 [] rest (.bool true):=fun hs hr hF=>(rOk rest hs hr hF).mono fun e w' hp=>hp.q fun v w' h=>h
theorem qlL (u:List (Int × Bs)) (hU:canU u) (hk:∀ x ∈ u,0 ≤ x.1 ∧ x.1 < 4294967296) (rest:Bs):qf0 Tryz.prog 90 (uv u.length ++ qbw u) rest (fun m:Option Nat=>.agg #[.map m]) (fun m=>qlC m u):=fun hs hr hF=>(qlX u rest hU.1 hk hU.2.1 hU.2.2 hs (hr.cast (by simp only [List.append_assoc])) hF).mono fun e w' hp=>hp.q fun v w' h=>h
theorem qlM (k:Int) (A:Option Addr) (m c:Nat) (w:World):Calls Tryz.prog 30 #[.agg #[.int .u32 k,.slice A m c]] w (qiY w):=by
 refine enter (n:=7) Tryz.func30 rfl Tryz.ntmps30 kz fun a hE=>?_
 have hW:=WOk.start w Nil
 refine qac [0,1] kz ?_
 refine qak (qbs hW hE (d:=1) (cs:=[.int .u32 k,.slice A m c]) kz fun b1 a2 w3 hb4 hz5 hF6 hW7 hE8=>?_)
 refine qaj [1] [] [(1,.p 0 0)] hW7 hE8 fun a9 ac=>?_
 refine qad (qaa ?_)
 refine wp_seq ?_
 refine qar [(6,.v (.bool (decide (((m:Nat):Int) > 2147483647))))] hW7 ac fun ai aa=>?_
 refine qau aa (b:=decide (((m:Nat):Int) > 2147483647)) kz (fun ab=>?_) (fun ab=>?_)
 ·
  have ag:=of_decide_eq_true ab
  refine qar [(2,.v (.bool false))] hW7 aa fun aj ae=>?_
  refine wp_ret ?_
  refine qax ?_
  refine qaG ae hW7.cells (v:=.bool false) kz ?_
  exact ⟨_,rfl,hW7.step⟩
 have ah:=of_decide_eq_false ab
 refine wp_skip ?_
 refine qaa ?_
 refine qar [(2,.v (.bool true))] hW7 aa fun ak af=>?_
 refine wp_ret ?_
 refine qaG af hW7.cells (v:=.bool true) kz ?_
 exact ⟨_,rfl,hW7.step⟩
theorem qlN (A:Option Addr) (c:Nat) (u:List (Int × Bs)) (w:World) (F:Nat → Nat → Prop) (hu:TagsR w F A c u):Calls Tryz.prog 15 #[.slice A u.length c] w (qiY w):=by
 obtain ⟨xu,h1,h2⟩:=hu.ex
 have hsm:=h1.small
 refine enter (n:=18) Tryz.func15 rfl Tryz.ntmps15 kz fun a hE=>?_
 have hW:=WOk.start w Nil
 refine qar [(0,.v (.slice A u.length c))] hW hE fun a1 hE2=>?_
 refine wp_seq ?_
 refine qar [(0,.v (.slice A u.length c)),(7,.v (.bool (decide (((u.length:Nat):Int) > 2147483647))))] hW hE2 fun a3 hE4=>?_
 refine qau hE4 (b:=decide (((u.length:Nat):Int) > 2147483647)) kz (fun hc5=>?_) (fun hc5=>?_)
 ·
  have hf6:=of_decide_eq_true hc5
  refine qar [(2,.v (.bool false))] hW hE4 fun a7 hE8=>?_
  refine wp_ret ?_
  refine qax ?_
  refine qaG hE8 hW.cells (v:=.bool false) kz ?_
  exact ⟨_,rfl,hW.step⟩
 have hf9:=of_decide_eq_false hc5
 refine wp_skip ?_
 refine qaa ?_
 refine wp_seq ?_
 refine qar [(8,.v (.slice A u.length c)),(9,.v (.int .i64 ((u.length:Nat):Int))),(10,.v (.int .i64 0))] hW hE4 fun ba ar=>?_
 refine wp_block ?_
 refine wp_loop_ghost (fun n_ a_ w_=>∃ (k:Nat),n_ = u.length - k ∧ k ≤ u.length ∧ LInv hW 18 [] [] [(8,.v (.slice A u.length c)),(9,.v (.int .i64 ((u.length:Nat):Int))),(10,.v (.int .i64 ((k:Nat):Int)))] a_ w_) (u.length) ⟨0,by omega,by omega,ar.pk,hW,Fr.refl _ _ _⟩ ?_
 rintro bd bf bg ⟨k,aQ,aR,au,aa,av⟩
 refine qar [(8,.v (.slice A u.length c)),(9,.v (.int .i64 ((u.length:Nat):Int))),(10,.v (.int .i64 ((k:Nat):Int))),(11,.v (.bool (decide (((k:Nat):Int) < ((u.length:Nat):Int)))))] aa au fun bh ae=>?_
 refine wp_seq ?_
 refine qau ae (b:=decide (((k:Nat):Int) < ((u.length:Nat):Int))) kz (fun af=>?_) (fun af=>?_)
 ·
  have aS:=of_decide_eq_true af
  refine wp_skip ?_
  refine qaa ?_
  refine wp_seq ?_
  refine wp_block ?_
  refine qac [0,1,2,3] kz ?_
  obtain ⟨aT,aU,aw,aV,ac⟩:=Slots.get h1 (i:=k) (by omega)
  obtain ⟨⟨ai,aj⟩,ax⟩:∃ x,u[k]? = some x:=⟨_,List.getElem?_eq_getElem (by omega)⟩
  obtain ⟨⟨ak,al,am,aW⟩,bi,bj⟩:=h2 k ai aj ax
  rw [am] at ac
  refine qak (qat ae (t:=24) (A:=A) (m:=u.length) (q:=((k:Nat):Int)) (d:=12) kz (e:=57) (size:=2) (bytes:=32) kz aw rfl (by omega) fun bk ay=>?_)
  refine qak (qaC ay (t:=57) (b:=aT) (o:=aU + k * 2) (d:=13) kz (cs:=[.int .u32 ai,.slice ak aj.length al]) (v:=.agg #[.int .u32 ai,.slice ak aj.length al]) kz (AtF.move ac aa.step nilM qa0).at_ fun bn az=>?_)
  refine qak (qaY aa az (d:=4) (cs:=[.int .u32 0,.slice none 0 0]) kz fun bo bp bq aX aY aA aB aC=>?_)
  refine qak (qaH aB aC (oi:=0) (cs:=[.int .u32 ai,.slice ak aj.length al]) kz fun bt aD ag aE=>?_)
  refine qad (qaa ?_)
  refine qac [0,1,2] kz ?_
  refine qaj [0] [1,2] [(8,.v (.slice A u.length c)),(9,.v (.int .i64 ((u.length:Nat):Int))),(10,.v (.int .i64 ((k:Nat):Int))),(14,.v (.agg #[.int .u32 ai,.slice ak aj.length al]))] ag aE fun bu aF=>?_
  refine qak (qal aF (f:=30) (vs:=[.agg #[.int .u32 ai,.slice ak aj.length al]]) (d:=15) kz Tryz.call30 (qlM _ _ _ _ _) ?_)
  rintro e_ bw ⟨aP,rfl,ao⟩
  refine ⟨_,rfl,fun bx aG=>?_⟩
  have ab:=ag.next_nil ao
  have aH:=ag.frN ao
  refine qaj [2] [] [(8,.v (.slice A u.length c)),(9,.v (.int .i64 ((u.length:Nat):Int))),(10,.v (.int .i64 ((k:Nat):Int))),(16,.v (.bool (!aP)))] ab aG fun bz ah=>?_
  refine qad (qaa ?_)
  refine qau ah (b:=!aP) kz (fun aI=>?_) (fun aI=>?_)
  ·
   refine qar [(2,.v (.bool false))] ab ah fun bA aJ=>?_
   refine wp_ret ?_
   refine qaL ?_
   refine qax ?_
   refine qax ?_
   refine qaL ?_
   refine qax ?_
   refine qaG aJ ab.cells (v:=.bool false) kz ?_
   exact ⟨_,rfl,ab.step⟩
  refine wp_skip ?_
  refine qaz ?_
  refine qaa ?_
  refine qap [0,1] kz ?_
  refine qaj [0,1] [] [(8,.v (.slice A u.length c)),(9,.v (.int .i64 ((u.length:Nat):Int))),(10,.v (.int .i64 (IntKind.i64.wrap (((k:Nat):Int) + 1))))] ab ah fun bB aK=>?_
  refine qad (qaa ?_)
  obtain ⟨ap,aL,aM⟩:=ab.cutB aK 0 [] [(8,.v (.slice A u.length c)),(9,.v (.int .i64 ((u.length:Nat):Int))),(10,.v (.int .i64 (IntKind.i64.wrap (((k:Nat):Int) + 1))))]
  have aN:IntKind.i64.wrap (((k:Nat):Int) + 1) = ((k + 1:Nat):Int):=qaV (by omega)
  rw [aN] at ap
  exact ⟨u.length - (k + 1),by omega,k + 1,rfl,by omega,ap.pk,aL,((((av.trans aA).trans aD).trans aH).trans aM)⟩
 have aZ:=of_decide_eq_false af
 refine wp_exit ?_
 refine qay ?_
 refine qay ?_
 refine qaM ?_
 refine qaa ?_
 refine qar [(2,.v (.bool true))] aa ae fun bC aO=>?_
 refine wp_ret ?_
 refine qaG aO aa.cells (v:=.bool true) kz ?_
 exact ⟨_,rfl,aa.step⟩
theorem qlO (ct:List Value) (t:Tree) (w:World) (F:Nat → Nat → Prop) (ht:TreeR w F ct t):Calls Tryz.prog 5 #[.agg ct.toArray] w (qiY w):=by
 obtain ⟨n1,s2,b3,l4,u5,A6,c7,A8,c9,aj,ak,aB,rfl,rfl,aC,aD,aN,aE⟩:=ht.open_
 have ay:=aC.small
 have az:=aD.small
 refine enter (n:=15) Tryz.func5 rfl Tryz.ntmps5 kz fun a hE=>?_
 have hW:=WOk.start w Nil
 refine qac [0,1] kz ?_
 refine qak (qbs hW hE (d:=1) (cs:=[.int .i64 n1,.slice A6 s2.length c7,.bool b3,.slice A8 l4.length c9,.slice aj u5.length ak]) kz fun aO aP aQ aF aG aH aa al=>?_)
 refine qaj [1] [] [(1,.p 0 0)] aa al fun aR am=>?_
 refine qad (qaa ?_)
 refine wp_seq ?_
 refine qar [(1,.p 0 0),(6,.v (.bool (decide (((s2.length:Nat):Int) > 2147483647))))] aa am fun aS ac=>?_
 refine qau ac (b:=decide (((s2.length:Nat):Int) > 2147483647)) kz (fun ae=>?_) (fun ae=>?_)
 ·
  have aI:=of_decide_eq_true ae
  refine qar [(2,.v (.bool false))] aa ac fun aT ao=>?_
  refine wp_ret ?_
  refine qax ?_
  refine qaG ao aa.cells (v:=.bool false) kz ?_
  exact ⟨_,rfl,aa.step⟩
 have aJ:=of_decide_eq_false ae
 refine wp_skip ?_
 refine qaa ?_
 refine wp_seq ?_
 refine qar [(1,.p 0 0),(10,.v (.bool (decide (((l4.length:Nat):Int) > 2147483647))))] aa ac fun aU af=>?_
 refine qau af (b:=decide (((l4.length:Nat):Int) > 2147483647)) kz (fun ag=>?_) (fun ag=>?_)
 ·
  have aK:=of_decide_eq_true ag
  refine qar [(2,.v (.bool false))] aa af fun aV ap=>?_
  refine wp_ret ?_
  refine qax ?_
  refine qaG ap aa.cells (v:=.bool false) kz ?_
  exact ⟨_,rfl,aa.step⟩
 have aL:=of_decide_eq_false ag
 refine wp_skip ?_
 refine qaa ?_
 refine wp_seq ?_
 refine qac [0,1,2,3] kz ?_
 refine qaj [0,1] [2,3] [(12,.v (.slice aj u5.length ak))] aa af fun aW ar=>?_
 refine qak (qal ar (f:=15) (vs:=[.slice aj u5.length ak]) (d:=13) kz Tryz.call15 (qlN _ _ u5 _ _ (aE.move aa.step nilM aa.imm)) ?_)
 rintro e_ aX ⟨aA,rfl,ai⟩
 refine ⟨_,rfl,fun aY au=>?_⟩
 have ab:=aa.next_nil ai
 have aM:=aa.frN ai
 refine qaj [3] [] [(14,.v (.bool (!aA)))] ab au fun aZ ah=>?_
 refine qad (qaa ?_)
 refine qau ah (b:=!aA) kz (fun av=>?_) (fun av=>?_)
 ·
  refine qar [(2,.v (.bool false))] ab ah fun ba aw=>?_
  refine wp_ret ?_
  refine qax ?_
  refine qaG aw ab.cells (v:=.bool false) kz ?_
  exact ⟨_,rfl,ab.step⟩
 refine wp_skip ?_
 refine qaa ?_
 refine qar [(2,.v (.bool true))] ab ah fun bd ax=>?_
 refine wp_ret ?_
 refine qaG ax ab.cells (v:=.bool true) kz ?_
 exact ⟨_,rfl,ab.step⟩
theorem qkc (x m:Int) (hx:0 ≤ x) (hx':x < 256) (hm:0 ≤ m) (hm':m < 32768) (w:World):Calls Tryz.prog 8 #[.int .u8 x,.int .i64 m] w (qcp w (.int .i64 (Int.tmod x (m + 1)))):=by
 refine enter (n:=10) Tryz.func8 rfl Tryz.ntmps8 kz fun a hE=>?_
 have hW:=WOk.start w Nil
 refine qar [(0,.v (.int .u8 x)),(1,.v (.int .i64 m))] hW hE fun a1 hE2=>?_
 refine qac [0,1,2,3,4,5] kz ?_
 refine qaj [0,1,2,3] [4,5] [(6,.v (.int .i64 (IntKind.i64.wrap x))),(8,.v (.int .i64 (IntKind.i64.wrap (m + 1))))] hW hE2 fun a3 hE4=>?_
 refine qak (qjL hE4 (k:=.i64) (p:=(IntKind.i64.wrap x)) (q:=(IntKind.i64.wrap (m + 1))) (d:=9) kz (by simp only [IntKind.wrap_i64]; omega) fun a5 hE6=>?_)
 refine qaj [5] [] [(4,.v (.int .i64 (Int.tmod (IntKind.i64.wrap x) (IntKind.i64.wrap (m + 1)))))] hW hE6 fun a7 hE8=>?_
 refine qad (qaa ?_)
 refine wp_ret ?_
 refine qaG hE8 hW.cells (v:=.int .i64 (Int.tmod (IntKind.i64.wrap x) (IntKind.i64.wrap (m + 1)))) kz ?_
 exact ⟨by rw [wrap_i64 (by omega) (by omega),wrap_i64 (by omega) (by omega)],hW.step⟩
def qaA (v:Int) (T:Tree):Bs:=(if (decide (v ≥ 6)) = true then (uv ((T.at_ 0).S.length + 1) ++ (T.at_ 0).S) else (be 2 (T.at_ 0).S.length ++ (T.at_ 0).S)) ++ ((if (decide (v ≥ 5)) = true then if (decide (v ≥ 6)) = true then (if (T.at_ 1).null = true then uv 0 else uv ((qaB (T.at_ 1)).length + 1) ++ (qaB (T.at_ 1))) else (if (T.at_ 1).null = true then be 2 (-1) else be 2 (qaB (T.at_ 1)).length ++ (qaB (T.at_ 1))) else []) ++ ((if (decide (v ≥ 6)) = true then (uv ((qaB (T.at_ 2)).length + 1) ++ (qaB (T.at_ 2))) else (be 4 (qaB (T.at_ 2)).length ++ (qaB (T.at_ 2)))) ++ (if (decide (v ≥ 6)) = true then (uv T.U.length) ++ (qbw T.U) else [])))
theorem qbZ (v:Int) (T:Tree):0 < (qaA v T).length:=qk9 (qlG (qk9 (qlo _)) (qk9 (qlH (by decide))))
def qb0 (v:Int) (T:Tree):Bs:=(if (decide (v ≥ 2)) = true then be 4 ((IntKind.i32.wrap (T.at_ 0).N)) else []) ++ ((be 2 ((IntKind.i16.wrap (T.at_ 1).N))) ++ ((be 4 ((IntKind.i32.wrap (T.at_ 2).N))) ++ ((if (decide (v ≥ 7)) = true then if (decide (v ≥ 6)) = true then (if (T.at_ 3).null = true then uv 0 else uv ((qaB (T.at_ 3)).length + 1) ++ (qaB (T.at_ 3))) else (if (T.at_ 3).null = true then be 2 (-1) else be 2 (qaB (T.at_ 3)).length ++ (qaB (T.at_ 3))) else []) ++ ((if (decide (v < 7)) = true then (if (decide (v ≥ 6)) = true then (uv ((qaB (T.at_ 4)).length + 1) ++ (qaB (T.at_ 4))) else (be 2 (qaB (T.at_ 4)).length ++ (qaB (T.at_ 4)))) else (if (decide (v ≥ 6)) = true then (if (T.at_ 4).null = true then uv 0 else uv ((qaB (T.at_ 4)).length + 1) ++ (qaB (T.at_ 4))) else (if (T.at_ 4).null = true then be 2 (-1) else be 2 (qaB (T.at_ 4)).length ++ (qaB (T.at_ 4))))) ++ ((if (decide (v ≥ 6)) = true then (uv ((T.at_ 5).S.length + 1) ++ (T.at_ 5).S) else (be 2 (T.at_ 5).S.length ++ (T.at_ 5).S)) ++ ((if (decide (v ≥ 9)) = true then [by8 (if (decide ((T.at_ 6).N % 2 = 1)) then 1 else 0)] else []) ++ ((if (decide (v ≥ 6)) = true then (uv ((T.at_ 7).S.length + 1) ++ (T.at_ 7).S) else (be 2 (T.at_ 7).S.length ++ (T.at_ 7).S)) ++ (((if (decide (v ≥ 6)) = true then (uv ((lst (T.at_ 8)).length + 1)) else (be 4 (lst (T.at_ 8)).length)) ++ ((lst (T.at_ 8)).flatMap (qaA v))) ++ ((if (decide (v ≥ 6)) = true then (uv T.U.length) ++ (qbw T.U) else []) ++ (([]:Bs)))))))))))
theorem qcE (v:Int) (T:Tree):qai v T = qb0 v T:=rfl
def qb2 (d:DV):List Value:=[.string ((d.f 0).s),.pointer ((d.f 1).A),.slice ((d.f 2).A) ((d.f 2).o.length) ((d.f 2).c),.map d.m]
theorem qbb:qg6 qaR:=by
 intro w w' F F' M d hs hM hF h
 unfold qaR at h ⊢
 obtain ⟨g0,⟨g1,g1l⟩,⟨g2,g2l⟩,t1,t2,t3,_⟩:=h
 exact ⟨g0,⟨fun ad hA=>by
  obtain ⟨b,o,h1,h2⟩:=g1 ad hA
  exact ⟨b,o,h1,h2.move hs hM hF⟩,g1l⟩,⟨Octs.move g2 hs hM hF,g2l⟩,t1.move hs hM hF,t2,t3,trivial⟩
def qaU (v:Int) (D:DV) (T:Tree):Prop:=((D.f 0).s = bs (T.at_ 0).S) ∧ (((decide (v ≥ 5)) = true → ((D.f 1).s = bs (qaB (T.at_ 1)) ∧ (D.f 1).A.isNone = (T.at_ 1).null)) ∧ ((decide (v ≥ 5)) = false → ((D.f 1).s = ByteArray.empty ∧ (D.f 1).A = none))) ∧ ((D.f 2).o = qaB (T.at_ 2)) ∧ (((decide (v ≥ 6)) = true → D.u = T.U) ∧ ((decide (v ≥ 6)) = false → D.u = [])) ∧ True
def qbK (v:Int) (D:DV) (T:Tree):Prop:=(((decide (v ≥ 2)) = true → (D.f 0).n = IntKind.i32.wrap (T.at_ 0).N) ∧ ((decide (v ≥ 2)) = false → (D.f 0).n = 0)) ∧ ((D.f 1).n = IntKind.i16.wrap (T.at_ 1).N) ∧ ((D.f 2).n = IntKind.i32.wrap (T.at_ 2).N) ∧ (((decide (v ≥ 7)) = true → ((D.f 3).s = bs (qaB (T.at_ 3)) ∧ (D.f 3).A.isNone = (T.at_ 3).null)) ∧ ((decide (v ≥ 7)) = false → ((D.f 3).s = ByteArray.empty ∧ (D.f 3).A = none))) ∧ (((D.f 4).s = bs (qaB (T.at_ 4)) ∧ ((decide (v ≥ 7) = true → (D.f 4).A.isNone = (T.at_ 4).null) ∧ (decide (v ≥ 7) = false → (D.f 4).A.isNone = false)))) ∧ ((D.f 5).s = bs (T.at_ 5).S) ∧ (((decide (v ≥ 9)) = true → (D.f 6).b = decide ((T.at_ 6).N % 2 = 1)) ∧ ((decide (v ≥ 9)) = false → (D.f 6).b = false)) ∧ ((D.f 7).s = bs (T.at_ 7).S) ∧ (((D.f 8).l = (lst (T.at_ 8)).length ∧ ∀ i,i < (D.f 8).l → qaU v ((D.f 8).f i) ((lst (T.at_ 8)).getD i .zero))) ∧ (((decide (v ≥ 6)) = true → D.u = T.U) ∧ ((decide (v ≥ 6)) = false → D.u = [])) ∧ True
theorem qlP (b o:Nat) (w:World):Calls Tryz.prog 103 #[.pointer (some ⟨b,o,none⟩)] w (fun e w'=>e = .returned (.tuple #[]) ∧ w' = w):=by
 refine enter (n:=2) (vs:=[.pointer (some ⟨b,o,none⟩)]) Tryz.func103 rfl Tryz.ntmps103 kz fun a hE=>?_
 refine wp_skip ?_
 exact qcn hE (WOk.start w Nil).cells (v:=.tuple #[]) kz ⟨rfl,rfl⟩
set_option maxHeartbeats 4000000 in
theorem qd1 (v:Int) (T:Tree) {bv:Nat} {A:Option Addr} {c:Nat} {w:World} {F:Nat → Nat → Prop} (hst:Str w bv [.int .i16 v,.int .i32 0,.int .i16 0,.int .i32 (-1),.pointer none,.pointer none,.string ByteArray.empty,.bool false,.string ByteArray.empty,.slice none 0 0,.map none]) (ho:Octs w F A c (qai v T)) (hFd:∀ b o,F b o → ¬ (b = bv ∧ o < 11)) (hc:qa1 T) (hR:T.ranged) :
  Calls Tryz.prog 59 #[.pointer (some ⟨bv,0,none⟩),.slice A (qai v T).length c,.bool false] w (fun e w'=>∃ D:DV,e = .returned .nilIface ∧ Str w' bv [.int .i16 v,.int .i32 ((D.f 0).n),.int .i16 ((D.f 1).n),.int .i32 ((D.f 2).n),.pointer ((D.f 3).A),.pointer ((D.f 4).A),.string ((D.f 5).s),.bool ((D.f 6).b),.string ((D.f 7).s),.slice ((D.f 8).A) ((D.f 8).l) ((D.f 8).c),.map D.m] ∧ qba w' (Fp F w) D ∧ qbK v D T ∧ Step w w' (fun b o=>b = bv ∧ o < 11)):=by
 refine enter (n:=197) Tryz.func59 rfl Tryz.ntmps59 kz fun a hE=>?_
 have hW:=WOk.startStr hst
 have hE1:=(hE.grow ⟨bv,0,[.int .i16 v,.int .i32 0,.int .i16 0,.int .i32 (-1),.pointer none,.pointer none,.string ByteArray.empty,.bool false,.string ByteArray.empty,.slice none 0 0,.map none],true⟩).recast 0 (.v (.pointer (some ⟨bv,0,none⟩))) (.p 0 0) rfl rfl (Nat.le_of_ble_eq_true (n:=1) rfl)
 refine qar [(0,.p 0 0),(1,.v (.slice A ((qai v T).length) c)),(2,.v (.bool false))] hW hE1 fun a1 hE2=>?_
 refine qac [0,1] kz ?_
 refine qaj [0] [1] [(0,.p 0 0),(1,.v (.slice A ((qai v T).length) c)),(2,.v (.bool false)),(29,.p 0 0)] hW hE2 fun a3 hE4=>?_
 refine qak (qbI hE4 (f:=58) (vs:=[.pointer (some ⟨bv,0,none⟩)]) (d:=30) (n':=5) kz Tryz.call58 Tryz.func58 rfl Tryz.ntmps58 kz fun a5 hE6=>?_)
 have hE7:=hE6.recast 0 (.v (.pointer (some ⟨bv,0,none⟩))) (.p 0 0) rfl rfl (Nat.le_of_ble_eq_true (n:=1) rfl)
 refine qap [0,1,2,3] kz ?_
 refine qaj [0,1,2] [3] [(4,.p 0 3)] hW hE7 fun a8 hE9=>?_
 refine qak (qaH hW hE9 (oi:=0) (cs:=[.int .i16 v,.int .i32 0,.int .i16 0,.int .i32 (-1),.pointer none,.pointer none,.string ByteArray.empty,.bool false,.string ByteArray.empty,.slice none 0 0,.map none]) kz fun gI gj ek fS=>?_)
 refine qad ?_
 refine qcn fS ek.cells (v:=.tuple #[]) kz ?_
 refine ⟨_,rfl,fun gJ fT=>?_⟩
 have fU:EnvOk 197 [⟨bv,0,[.int .i16 v,.int .i32 0,.int .i16 0,.int .i32 (-1),.pointer none,.pointer none,.string ByteArray.empty,.bool false,.string ByteArray.empty,.slice none 0 0,.map none],true⟩] [(30,.v (.tuple #[])),(0,.p 0 0),(1,.v (.slice A ((qai v T).length) c)),(2,.v (.bool false)),(29,.p 0 0)] _:=fT.places (⟨rfl,rfl,trivial⟩)
 refine qad (qaa ?_)
 refine qac [0,1,2,3] kz ?_
 refine qaj [0,1] [2,3] [(0,.p 0 0),(2,.v (.bool false)),(32,.v (.agg #[.slice A ((qai v T).length) c,.bool false]))] ek fU fun gK fV=>?_
 refine qak (qaY ek fV (d:=7) (cs:=[.slice none 0 0,.bool false]) kz fun aS gL gM gk gl gm fW fX=>?_)
 refine qak (qaH fW fX (oi:=1) (cs:=[.slice A ((qai v T).length) c,.bool false]) kz fun gN gn em fY=>?_)
 refine qad (qaa ?_)
 have ez:=RS.start (F:=F) (s:=qai v T) em fY (ho.move em.step (fun b_ o_ h_ _=>hFd b_ o_ h_) (em.immM hFd)) [(0,.p 1 0),(2,.v (.bool false)),(7,.p 0 0)]
 have gg:=hc
 have e32r:=hR
 unfold qa1 at gg
 obtain ⟨e32_0,e32_1,e32_2,e32_3,e32_4,e32_5,e32_6,e32_7,⟨e32_8,e32_8e⟩,e32_U,_⟩:=gg
 obtain ⟨bM,eB⟩:∃ R,R = (if (decide (v ≥ 6)) = true then (uv T.U.length) ++ (qbw T.U) else []) ++ ([]:Bs):=⟨_,rfl⟩
 obtain ⟨gp,eC⟩:∃ R,R = ((if (decide (v ≥ 6)) = true then (uv ((lst (T.at_ 8)).length + 1)) else (be 4 (lst (T.at_ 8)).length)) ++ ((lst (T.at_ 8)).flatMap (qaA v))) ++ bM:=⟨_,rfl⟩
 obtain ⟨eD,eE⟩:∃ R,R = (if (decide (v ≥ 6)) = true then (uv ((T.at_ 7).S.length + 1) ++ (T.at_ 7).S) else (be 2 (T.at_ 7).S.length ++ (T.at_ 7).S)) ++ gp:=⟨_,rfl⟩
 obtain ⟨gq,eF⟩:∃ R,R = (if (decide (v ≥ 9)) = true then [by8 (if (decide ((T.at_ 6).N % 2 = 1)) then 1 else 0)] else []) ++ eD:=⟨_,rfl⟩
 obtain ⟨bD,eG⟩:∃ R,R = (if (decide (v ≥ 6)) = true then (uv ((T.at_ 5).S.length + 1) ++ (T.at_ 5).S) else (be 2 (T.at_ 5).S.length ++ (T.at_ 5).S)) ++ gq:=⟨_,rfl⟩
 obtain ⟨bN,eH⟩:∃ R,R = (if (decide (v < 7)) = true then (if (decide (v ≥ 6)) = true then (uv ((qaB (T.at_ 4)).length + 1) ++ (qaB (T.at_ 4))) else (be 2 (qaB (T.at_ 4)).length ++ (qaB (T.at_ 4)))) else (if (decide (v ≥ 6)) = true then (if (T.at_ 4).null = true then uv 0 else uv ((qaB (T.at_ 4)).length + 1) ++ (qaB (T.at_ 4))) else (if (T.at_ 4).null = true then be 2 (-1) else be 2 (qaB (T.at_ 4)).length ++ (qaB (T.at_ 4))))) ++ bD:=⟨_,rfl⟩
 obtain ⟨gt,eI⟩:∃ R,R = (if (decide (v ≥ 7)) = true then if (decide (v ≥ 6)) = true then (if (T.at_ 3).null = true then uv 0 else uv ((qaB (T.at_ 3)).length + 1) ++ (qaB (T.at_ 3))) else (if (T.at_ 3).null = true then be 2 (-1) else be 2 (qaB (T.at_ 3)).length ++ (qaB (T.at_ 3))) else []) ++ bN:=⟨_,rfl⟩
 obtain ⟨gu,eJ⟩:∃ R,R = (be 4 ((IntKind.i32.wrap (T.at_ 2).N))) ++ gt:=⟨_,rfl⟩
 obtain ⟨eK,eL⟩:∃ R,R = (be 2 ((IntKind.i16.wrap (T.at_ 1).N))) ++ gu:=⟨_,rfl⟩
 obtain ⟨gv,eM⟩:∃ R,R = (if (decide (v ≥ 2)) = true then be 4 ((IntKind.i32.wrap (T.at_ 0).N)) else []) ++ eK:=⟨_,rfl⟩
 have eN:=ez.cast (t:=gv) (by rw [qcE,eM,eL,eJ,eI,eH,eG,eF,eE,eC,eB]; unfold qb0; simp only [List.append_assoc])
 clear ez
 refine wp_seq ?_
 refine qbn [(0,.p 1 0),(2,.v (.bool false)),(7,.p 0 0),(8,.v (.int .i16 v))] eN fun _ eO=>?_
 clear eN
 refine qaa ?_
 refine wp_seq ?_
 refine qbn [(0,.p 1 0),(2,.v (.bool false)),(7,.p 0 0),(8,.v (.int .i16 v))] eO fun _ eP=>?_
 clear eO
 refine qaa ?_
 refine wp_seq ?_
 refine qbn [(0,.p 1 0),(2,.v (.bool false)),(7,.p 0 0),(8,.v (.int .i16 v)),(9,.v (.bool (decide (v ≥ 6))))] eP fun _ eQ=>?_
 clear eP
 refine qaa ?_
 refine wp_seq ?_
 refine qbn [(0,.p 1 0),(2,.v (.bool false)),(7,.p 0 0),(8,.v (.int .i16 v)),(9,.v (.bool (decide (v ≥ 6))))] eQ fun _ eR=>?_
 clear eQ
 refine qaa ?_
 refine wp_seq ?_
 refine qbn [(2,.v (.bool false)),(7,.p 0 0),(8,.v (.int .i16 v)),(9,.v (.bool (decide (v ≥ 6)))),(10,.p 1 0)] eR fun _ eS=>?_
 clear eR
 refine qaa ?_
 refine wp_seq ?_
 have eT:=eS.cast eM
 clear eS
 refine qcl (Mid:=fun a_ w_=>∃ (aj:DV) (P':qbT),(∀ w F,P' w F → noF w F ∧ (True) ∧ ((decide (v ≥ 2)) = true → aj.n = IntKind.i32.wrap (T.at_ 0).N) ∧ ((decide (v ≥ 2)) = false → aj.n = 0)) ∧ RS w (fun b o=>b = bv ∧ o < 11) F 197 aS [⟨bv,0,[.int .i16 v,.int .i32 aj.n,.int .i16 0,.int .i32 (-1),.pointer none,.pointer none,.string ByteArray.empty,.bool false,.string ByteArray.empty,.slice none 0 0,.map none],true⟩] [(2,.v (.bool false)),(7,.p 0 0),(8,.v (.int .i16 v)),(9,.v (.bool (decide (v ≥ 6)))),(10,.p 1 0)] P' eK a_ w_) ?_ ?_
 ·
  refine wp_seq ?_
  refine qbn [(2,.v (.bool false)),(7,.p 0 0),(8,.v (.int .i16 v)),(9,.v (.bool (decide (v ≥ 6)))),(10,.p 1 0),(43,.v (.bool (decide (v ≥ 2))))] eT fun _ aT=>qaa ?_
  clear eT
  refine qau aT.env_ (b:=decide (v ≥ 2)) kz (fun aU=>?_) (fun aU=>?_)
  ·
   have eU:=aT.cast (t:=(be 4 ((IntKind.i32.wrap (T.at_ 0).N))) ++ eK) (by rw [if_pos aU])
   clear aT
   refine wp_seq ?_
   refine qfk (d:=44) [(2,.v (.bool false)),(7,.p 0 0),(8,.v (.int .i16 v)),(9,.v (.bool (decide (v ≥ 6)))),(10,.p 1 0),(11,.v (.int .i32 (IntKind.i32.wrap (T.at_ 0).N)))] eU (qky _ _) Tryz.call82 fun _ _ eV=>?_
   clear eU
   refine qaa ?_
   refine qc4 [⟨bv,0,[.int .i16 v,.int .i32 (IntKind.i32.wrap (T.at_ 0).N),.int .i16 0,.int .i32 (-1),.pointer none,.pointer none,.string ByteArray.empty,.bool false,.string ByteArray.empty,.slice none 0 0,.map none],true⟩] 0 [(2,.v (.bool false)),(7,.p 0 0),(8,.v (.int .i16 v)),(9,.v (.bool (decide (v ≥ 6)))),(10,.p 1 0)] eV fun _ _ fZ=>?_
   clear eV
   refine qaa ?_
   exact ⟨dvN (IntKind.i32.wrap (T.at_ 0).N),_,fun w F h_=>⟨h_,trivial,⟨fun _=>rfl,(fun e_=>by rw [aU] at e_; cases e_)⟩⟩,fZ.pk (env':=[(2,.v (.bool false)),(7,.p 0 0),(8,.v (.int .i16 v)),(9,.v (.bool (decide (v ≥ 6)))),(10,.p 1 0)])⟩
  have eW:=aT.cast (t:=[] ++ eK) (by rw [if_neg (by rw [aU]; decide)])
  clear aT
  have f5:=eW.cast (t:=eK) rfl
  clear eW
  refine wp_skip (qaa ?_)
  exact ⟨dvN (0),_,fun w F h_=>⟨h_,trivial,⟨(fun e_=>by rw [aU] at e_; cases e_),fun _=>rfl⟩⟩,f5.pk (env':=[(2,.v (.bool false)),(7,.p 0 0),(8,.v (.int .i16 v)),(9,.v (.bool (decide (v ≥ 6)))),(10,.p 1 0)])⟩
 rintro _ _ ⟨aj,gh,eX,eY⟩
 refine qaa ?_
 refine wp_seq ?_
 refine wp_seq ?_
 have eZ:=eY.cast eL
 clear eY
 refine qfk (d:=49) [(2,.v (.bool false)),(7,.p 0 0),(8,.v (.int .i16 v)),(9,.v (.bool (decide (v ≥ 6)))),(10,.p 1 0),(12,.v (.int .i16 (IntKind.i16.wrap (T.at_ 1).N)))] eZ (qlJ _ _) Tryz.call83 fun _ _ e9=>?_
 clear eZ
 refine qaa ?_
 refine qc4 [⟨bv,0,[.int .i16 v,.int .i32 aj.n,.int .i16 (IntKind.i16.wrap (T.at_ 1).N),.int .i32 (-1),.pointer none,.pointer none,.string ByteArray.empty,.bool false,.string ByteArray.empty,.slice none 0 0,.map none],true⟩] 0 [(2,.v (.bool false)),(7,.p 0 0),(8,.v (.int .i16 v)),(9,.v (.bool (decide (v ≥ 6)))),(10,.p 1 0)] e9 fun _ _ fa=>?_
 clear e9
 refine qaa ?_
 refine wp_seq ?_
 refine wp_seq ?_
 have fb:=fa.cast eJ
 clear fa
 refine qfk (d:=54) [(2,.v (.bool false)),(7,.p 0 0),(8,.v (.int .i16 v)),(9,.v (.bool (decide (v ≥ 6)))),(10,.p 1 0),(13,.v (.int .i32 (IntKind.i32.wrap (T.at_ 2).N)))] fb (qky _ _) Tryz.call82 fun _ _ fc=>?_
 clear fb
 refine qaa ?_
 refine qc4 [⟨bv,0,[.int .i16 v,.int .i32 aj.n,.int .i16 (IntKind.i16.wrap (T.at_ 1).N),.int .i32 (IntKind.i32.wrap (T.at_ 2).N),.pointer none,.pointer none,.string ByteArray.empty,.bool false,.string ByteArray.empty,.slice none 0 0,.map none],true⟩] 0 [(2,.v (.bool false)),(7,.p 0 0),(8,.v (.int .i16 v)),(9,.v (.bool (decide (v ≥ 6)))),(10,.p 1 0)] fc fun _ _ fe=>?_
 clear fc
 refine qaa ?_
 refine wp_seq ?_
 have ff:=fe.cast eI
 clear fe
 refine qcl (Mid:=fun a_ w_=>∃ (ak:DV) (P':qbT),(∀ w F,P' w F → gh w F ∧ ((∀ ad,ak.A = some ad → ∃ b o,ad = ⟨b,o,none⟩ ∧ AtF w F b o [.string ak.s]) ∧ ak.s.size ≤ 1000000) ∧ ((decide (v ≥ 7)) = true → (ak.s = bs (qaB (T.at_ 3)) ∧ ak.A.isNone = (T.at_ 3).null)) ∧ ((decide (v ≥ 7)) = false → (ak.s = ByteArray.empty ∧ ak.A = none))) ∧ RS w (fun b o=>b = bv ∧ o < 11) F 197 aS [⟨bv,0,[.int .i16 v,.int .i32 aj.n,.int .i16 (IntKind.i16.wrap (T.at_ 1).N),.int .i32 (IntKind.i32.wrap (T.at_ 2).N),.pointer ak.A,.pointer none,.string ByteArray.empty,.bool false,.string ByteArray.empty,.slice none 0 0,.map none],true⟩] [(2,.v (.bool false)),(7,.p 0 0),(8,.v (.int .i16 v)),(9,.v (.bool (decide (v ≥ 6)))),(10,.p 1 0)] P' bN a_ w_) ?_ ?_
 ·
  refine wp_seq ?_
  refine qbn [(2,.v (.bool false)),(7,.p 0 0),(8,.v (.int .i16 v)),(9,.v (.bool (decide (v ≥ 6)))),(10,.p 1 0),(60,.v (.bool (decide (v ≥ 7))))] ff fun _ aV=>qaa ?_
  clear ff
  refine qau aV.env_ (b:=decide (v ≥ 7)) kz (fun aW=>?_) (fun aW=>?_)
  ·
   have fg:=aV.cast (t:=(if (decide (v ≥ 6)) = true then (if (T.at_ 3).null = true then uv 0 else uv ((qaB (T.at_ 3)).length + 1) ++ (qaB (T.at_ 3))) else (if (T.at_ 3).null = true then be 2 (-1) else be 2 (qaB (T.at_ 3)).length ++ (qaB (T.at_ 3)))) ++ bN) (by rw [if_pos aW])
   clear aV
   refine wp_seq ?_
   refine qbn [(2,.v (.bool false)),(7,.p 0 0),(8,.v (.int .i16 v)),(9,.v (.bool (decide (v ≥ 6)))),(10,.p 1 0)] fg fun _ fh=>?_
   clear fg
   refine qaa ?_
   refine wp_seq ?_
   refine qcl (Mid:=fun a_ w_=>∃ (ey:Option Addr) (P':qbT),(∀ w F,P' w F → gh w F ∧ qg8 ey (qaB (T.at_ 3)) w F ∧ ey.isNone = (T.at_ 3).null) ∧ RS w (fun b o=>b = bv ∧ o < 11) F 197 aS [⟨bv,0,[.int .i16 v,.int .i32 aj.n,.int .i16 (IntKind.i16.wrap (T.at_ 1).N),.int .i32 (IntKind.i32.wrap (T.at_ 2).N),.pointer none,.pointer none,.string ByteArray.empty,.bool false,.string ByteArray.empty,.slice none 0 0,.map none],true⟩] [(2,.v (.bool false)),(7,.p 0 0),(8,.v (.int .i16 v)),(9,.v (.bool (decide (v ≥ 6)))),(10,.p 1 0),(14,.v (.pointer ey))] P' bN a_ w_) ?_ ?_
   ·
    refine wp_seq ?_
    refine qbn [(2,.v (.bool false)),(7,.p 0 0),(8,.v (.int .i16 v)),(9,.v (.bool (decide (v ≥ 6)))),(10,.p 1 0),(61,.v (.bool (decide (v ≥ 6))))] fh fun _ aX=>qaa ?_
    clear fh
    refine qau aX.env_ (b:=decide (v ≥ 6)) kz (fun eo=>?_) (fun eo=>?_)
    ·
     have fi:=aX.cast (t:=(if (T.at_ 3).null = true then uv 0 else uv ((qaB (T.at_ 3)).length + 1) ++ (qaB (T.at_ 3))) ++ bN) (by rw [if_pos eo])
     clear aX
     refine wp_seq ?_
     refine qbn [(2,.v (.bool false)),(7,.p 0 0),(8,.v (.int .i16 v)),(9,.v (.bool (decide (v ≥ 6)))),(10,.p 1 0),(62,.v (.bool false))] fi fun _ ep=>qaa ?_
     clear fi
     refine qaq ep.env_ (b:=false) kz (rfl) ?_
     refine qgC (d:=64) (fun fR=>[(2,.v (.bool false)),(7,.p 0 0),(8,.v (.int .i16 v)),(9,.v (.bool (decide (v ≥ 6)))),(10,.p 1 0),(14,.v (.pointer fR))]) ep (qbN (T.at_ 3).null (qaB (T.at_ 3)) e32_3 _) (fun _=>(MvF.text _ _).and (MvF.is _)) Tryz.call87 fun fR gO _ _ bO f7=>?_
     clear ep
     refine qaa ?_
     exact ⟨fR,_,fun w F h_=>⟨(bO _ _ h_).1,(bO _ _ h_).2⟩,f7.pk (env':=[(2,.v (.bool false)),(7,.p 0 0),(8,.v (.int .i16 v)),(9,.v (.bool (decide (v ≥ 6)))),(10,.p 1 0),(14,.v (.pointer fR))])⟩
    have bP:=aX.cast (t:=(if (T.at_ 3).null = true then be 2 (-1) else be 2 (qaB (T.at_ 3)).length ++ (qaB (T.at_ 3))) ++ bN) (by rw [if_neg (by rw [eo]; decide)])
    clear aX
    refine wp_seq ?_
    refine qbn [(2,.v (.bool false)),(7,.p 0 0),(8,.v (.int .i16 v)),(9,.v (.bool (decide (v ≥ 6)))),(10,.p 1 0),(65,.v (.bool false))] bP fun _ aY=>qaa ?_
    clear bP
    refine qaq aY.env_ (b:=false) kz (rfl) ?_
    refine qgC (d:=67) (fun bE=>[(2,.v (.bool false)),(7,.p 0 0),(8,.v (.int .i16 v)),(9,.v (.bool (decide (v ≥ 6)))),(10,.p 1 0),(14,.v (.pointer bE))]) aY (qcD (T.at_ 3).null (qaB (T.at_ 3)) e32_3 _) (fun _=>(MvF.text _ _).and (MvF.is _)) Tryz.call89 fun bE gw _ _ bQ fj=>?_
    clear aY
    refine qaa ?_
    exact ⟨bE,_,fun w F h_=>⟨(bQ _ _ h_).1,(bQ _ _ h_).2⟩,fj.pk (env':=[(2,.v (.bool false)),(7,.p 0 0),(8,.v (.int .i16 v)),(9,.v (.bool (decide (v ≥ 6)))),(10,.p 1 0),(14,.v (.pointer bE))])⟩
   rintro _ _ ⟨ey,gP,eu,fk⟩
   refine qaa ?_
   refine qc4 [⟨bv,0,[.int .i16 v,.int .i32 aj.n,.int .i16 (IntKind.i16.wrap (T.at_ 1).N),.int .i32 (IntKind.i32.wrap (T.at_ 2).N),.pointer ey,.pointer none,.string ByteArray.empty,.bool false,.string ByteArray.empty,.slice none 0 0,.map none],true⟩] 0 [(2,.v (.bool false)),(7,.p 0 0),(8,.v (.int .i16 v)),(9,.v (.bool (decide (v ≥ 6)))),(10,.p 1 0)] fk fun _ _ fl=>?_
   clear fk
   refine qaa ?_
   exact ⟨dvT ey (bs (qaB (T.at_ 3))),_,fun w F h_=>⟨(eu _ _ h_).1,⟨(eu _ _ h_).2.1,by show ByteArray.size (bs _) ≤ 1000000; rw [qck]; exact Nat.le_trans e32_3 (by decide)⟩,⟨fun _=>⟨rfl,(eu _ _ h_).2.2⟩,(fun e_=>by rw [aW] at e_; cases e_)⟩⟩,fl.pk (env':=[(2,.v (.bool false)),(7,.p 0 0),(8,.v (.int .i16 v)),(9,.v (.bool (decide (v ≥ 6)))),(10,.p 1 0)])⟩
  have bR:=aV.cast (t:=[] ++ bN) (by rw [if_neg (by rw [aW]; decide)])
  clear aV
  have fm:=bR.cast (t:=bN) rfl
  clear bR
  refine wp_skip (qaa ?_)
  exact ⟨dvT none ByteArray.empty,_,fun w F h_=>⟨h_,⟨fun _ h=>(by cases h),Nat.zero_le _⟩,⟨(fun e_=>by rw [aW] at e_; cases e_),fun _=>⟨rfl,rfl⟩⟩⟩,fm.pk (env':=[(2,.v (.bool false)),(7,.p 0 0),(8,.v (.int .i16 v)),(9,.v (.bool (decide (v ≥ 6)))),(10,.p 1 0)])⟩
 rintro _ _ ⟨ak,gi,bF,fo⟩
 refine qaa ?_
 refine wp_seq ?_
 refine wp_seq ?_
 refine qbn [(2,.v (.bool false)),(7,.p 0 0),(8,.v (.int .i16 v)),(9,.v (.bool (decide (v ≥ 6)))),(10,.p 1 0)] fo fun _ bS=>?_
 clear fo
 refine qaa ?_
 refine wp_seq ?_
 have bT:=bS.cast eH
 clear bS
 refine qcl (Mid:=fun a_ w_=>∃ (ag:Option Addr) (P':qbT),(∀ w F,P' w F → gi w F ∧ qg8 ag (qaB (T.at_ 4)) w F ∧ ((decide (v ≥ 7) = true → ag.isNone = (T.at_ 4).null) ∧ (decide (v ≥ 7) = false → ag.isNone = false))) ∧ RS w (fun b o=>b = bv ∧ o < 11) F 197 aS [⟨bv,0,[.int .i16 v,.int .i32 aj.n,.int .i16 (IntKind.i16.wrap (T.at_ 1).N),.int .i32 (IntKind.i32.wrap (T.at_ 2).N),.pointer ak.A,.pointer none,.string ByteArray.empty,.bool false,.string ByteArray.empty,.slice none 0 0,.map none],true⟩] [(2,.v (.bool false)),(7,.p 0 0),(8,.v (.int .i16 v)),(9,.v (.bool (decide (v ≥ 6)))),(10,.p 1 0),(15,.v (.pointer ag))] P' bD a_ w_) ?_ ?_
 ·
  refine wp_seq ?_
  refine qbn [(2,.v (.bool false)),(7,.p 0 0),(8,.v (.int .i16 v)),(9,.v (.bool (decide (v ≥ 6)))),(10,.p 1 0),(73,.v (.bool (decide (v < 7))))] bT fun _ aw=>qaa ?_
  clear bT
  refine qau aw.env_ (b:=decide (v < 7)) kz (fun ar=>?_) (fun ar=>?_)
  ·
   have bU:=aw.cast (t:=(if (decide (v ≥ 6)) = true then (uv ((qaB (T.at_ 4)).length + 1) ++ (qaB (T.at_ 4))) else (be 2 (qaB (T.at_ 4)).length ++ (qaB (T.at_ 4)))) ++ bD) (by rw [if_pos ar])
   clear aw
   refine wp_seq ?_
   refine qap [0] kz ?_
   refine qak (qj6 (d:=16) [.string ByteArray.empty] bU fun av _ _ hb_b119 bV=>?_)
   clear bU
   have bW:=(bV.tbEq (tb':=[⟨bv,0,[.int .i16 v,.int .i32 aj.n,.int .i16 (IntKind.i16.wrap (T.at_ 1).N),.int .i32 (IntKind.i32.wrap (T.at_ 2).N),.pointer ak.A,.pointer none,.string ByteArray.empty,.bool false,.string ByteArray.empty,.slice none 0 0,.map none],true⟩,⟨av,0,[.string ByteArray.empty],true⟩]) rfl).pk (env':=[(2,.v (.bool false)),(7,.p 0 0),(8,.v (.int .i16 v)),(9,.v (.bool (decide (v ≥ 6)))),(10,.p 1 0),(73,.v (.bool (decide (v < 7)))),(16,.p 2 0)])
   clear bV
   refine qad ?_
   have bX:=bW.pk (env':=[(2,.v (.bool false)),(7,.p 0 0),(8,.v (.int .i16 v)),(9,.v (.bool (decide (v ≥ 6)))),(10,.p 1 0),(16,.p 2 0)])
   clear bW
   refine qaa ?_
   refine wp_seq ?_
   refine wp_seq ?_
   refine qbn [(2,.v (.bool false)),(7,.p 0 0),(8,.v (.int .i16 v)),(9,.v (.bool (decide (v ≥ 6)))),(10,.p 1 0),(16,.p 2 0),(74,.v (.bool (decide (v ≥ 6))))] bX fun _ ax=>qaa ?_
   clear bX
   refine qau ax.env_ (b:=decide (v ≥ 6)) kz (fun aZ=>?_) (fun aZ=>?_)
   ·
    have bY:=ax.cast (t:=(uv ((qaB (T.at_ 4)).length + 1) ++ (qaB (T.at_ 4))) ++ bD) (by rw [if_pos aZ])
    clear ax
    refine wp_seq ?_
    refine qbn [(2,.v (.bool false)),(7,.p 0 0),(8,.v (.int .i16 v)),(9,.v (.bool (decide (v ≥ 6)))),(10,.p 1 0),(16,.p 2 0),(75,.v (.bool false))] bY fun _ ba=>qaa ?_
    clear bY
    refine qaq ba.env_ (b:=false) kz (rfl) ?_
    refine qap [0,1] kz ?_
    refine qak (qf1 (d:=77) ba (qcm (qaB (T.at_ 4)) e32_4 _) Tryz.call78 fun _ _ bZ=>?_)
    clear ba
    refine qak (qeU [⟨bv,0,[.int .i16 v,.int .i32 aj.n,.int .i16 (IntKind.i16.wrap (T.at_ 1).N),.int .i32 (IntKind.i32.wrap (T.at_ 2).N),.pointer ak.A,.pointer none,.string ByteArray.empty,.bool false,.string ByteArray.empty,.slice none 0 0,.map none],true⟩,⟨av,0,[.string (bs (qaB (T.at_ 4)))],true⟩] 1 bZ fun _ b8=>?_)
    clear bZ
    refine qad ?_
    have cd:=b8.pk (env':=[(2,.v (.bool false)),(7,.p 0 0),(8,.v (.int .i16 v)),(9,.v (.bool (decide (v ≥ 6)))),(10,.p 1 0),(16,.p 2 0)])
    clear b8
    refine qaa ?_
    refine qbn [(2,.v (.bool false)),(7,.p 0 0),(8,.v (.int .i16 v)),(9,.v (.bool (decide (v ≥ 6)))),(10,.p 1 0),(15,.p 2 0)] cd fun _ fq=>?_
    clear cd
    refine qaa ?_
    have fr:=(fq.recast 15 (.p 2 0) (.v (.pointer (some ⟨av,0,none⟩))) rfl rfl trivial).pk (env':=[(2,.v (.bool false)),(7,.p 0 0),(8,.v (.int .i16 v)),(9,.v (.bool (decide (v ≥ 6)))),(10,.p 1 0),(15,.v (.pointer (some ⟨av,0,none⟩)))])
    have ft:=RS.drop (tb:=[⟨bv,0,[.int .i16 v,.int .i32 aj.n,.int .i16 (IntKind.i16.wrap (T.at_ 1).N),.int .i32 (IntKind.i32.wrap (T.at_ 2).N),.pointer ak.A,.pointer none,.string ByteArray.empty,.bool false,.string ByteArray.empty,.slice none 0 0,.map none],true⟩]) fr hb_b119 kz
    exact ⟨some ⟨av,0,none⟩,_,fun w F h_=>⟨h_.1,fun ad_ hd_=>by cases hd_; exact ⟨_,_,rfl,h_.2⟩,fun e_=>(by rw [show (decide (v ≥ 7)) = false from (decide_eq_false (by have h_:=of_decide_eq_true ar; omega))] at e_; cases e_),fun _=>rfl⟩,ft⟩
   have ce:=ax.cast (t:=(be 2 (qaB (T.at_ 4)).length ++ (qaB (T.at_ 4))) ++ bD) (by rw [if_neg (by rw [aZ]; decide)])
   clear ax
   refine wp_seq ?_
   refine qbn [(2,.v (.bool false)),(7,.p 0 0),(8,.v (.int .i16 v)),(9,.v (.bool (decide (v ≥ 6)))),(10,.p 1 0),(16,.p 2 0),(78,.v (.bool false))] ce fun _ bd=>qaa ?_
   clear ce
   refine qaq bd.env_ (b:=false) kz (rfl) ?_
   refine qap [0,1] kz ?_
   refine qak (qf1 (d:=80) bd (qf5 (qaB (T.at_ 4)) e32_4 _) Tryz.call79 fun _ _ cg=>?_)
   clear bd
   refine qak (qeU [⟨bv,0,[.int .i16 v,.int .i32 aj.n,.int .i16 (IntKind.i16.wrap (T.at_ 1).N),.int .i32 (IntKind.i32.wrap (T.at_ 2).N),.pointer ak.A,.pointer none,.string ByteArray.empty,.bool false,.string ByteArray.empty,.slice none 0 0,.map none],true⟩,⟨av,0,[.string (bs (qaB (T.at_ 4)))],true⟩] 1 cg fun _ cm=>?_)
   clear cg
   refine qad ?_
   have cq:=cm.pk (env':=[(2,.v (.bool false)),(7,.p 0 0),(8,.v (.int .i16 v)),(9,.v (.bool (decide (v ≥ 6)))),(10,.p 1 0),(16,.p 2 0)])
   clear cm
   refine qaa ?_
   refine qbn [(2,.v (.bool false)),(7,.p 0 0),(8,.v (.int .i16 v)),(9,.v (.bool (decide (v ≥ 6)))),(10,.p 1 0),(15,.p 2 0)] cq fun _ fu=>?_
   clear cq
   refine qaa ?_
   have fv:=(fu.recast 15 (.p 2 0) (.v (.pointer (some ⟨av,0,none⟩))) rfl rfl trivial).pk (env':=[(2,.v (.bool false)),(7,.p 0 0),(8,.v (.int .i16 v)),(9,.v (.bool (decide (v ≥ 6)))),(10,.p 1 0),(15,.v (.pointer (some ⟨av,0,none⟩)))])
   have fw:=RS.drop (tb:=[⟨bv,0,[.int .i16 v,.int .i32 aj.n,.int .i16 (IntKind.i16.wrap (T.at_ 1).N),.int .i32 (IntKind.i32.wrap (T.at_ 2).N),.pointer ak.A,.pointer none,.string ByteArray.empty,.bool false,.string ByteArray.empty,.slice none 0 0,.map none],true⟩]) fv hb_b119 kz
   exact ⟨some ⟨av,0,none⟩,_,fun w F h_=>⟨h_.1,fun ad_ hd_=>by cases hd_; exact ⟨_,_,rfl,h_.2⟩,fun e_=>(by rw [show (decide (v ≥ 7)) = false from (decide_eq_false (by have h_:=of_decide_eq_true ar; omega))] at e_; cases e_),fun _=>rfl⟩,fw⟩
  have cr:=aw.cast (t:=(if (decide (v ≥ 6)) = true then (if (T.at_ 4).null = true then uv 0 else uv ((qaB (T.at_ 4)).length + 1) ++ (qaB (T.at_ 4))) else (if (T.at_ 4).null = true then be 2 (-1) else be 2 (qaB (T.at_ 4)).length ++ (qaB (T.at_ 4)))) ++ bD) (by rw [if_neg (by rw [ar]; decide)])
  clear aw
  refine qcl (Mid:=fun a_ w_=>∃ (aL:Option Addr) (P':qbT),(∀ w F,P' w F → gi w F ∧ qg8 aL (qaB (T.at_ 4)) w F ∧ ((decide (v ≥ 7) = true → aL.isNone = (T.at_ 4).null) ∧ (decide (v ≥ 7) = false → aL.isNone = false))) ∧ RS w (fun b o=>b = bv ∧ o < 11) F 197 aS [⟨bv,0,[.int .i16 v,.int .i32 aj.n,.int .i16 (IntKind.i16.wrap (T.at_ 1).N),.int .i32 (IntKind.i32.wrap (T.at_ 2).N),.pointer ak.A,.pointer none,.string ByteArray.empty,.bool false,.string ByteArray.empty,.slice none 0 0,.map none],true⟩] [(2,.v (.bool false)),(7,.p 0 0),(8,.v (.int .i16 v)),(9,.v (.bool (decide (v ≥ 6)))),(10,.p 1 0),(15,.v (.pointer aL))] P' bD a_ w_) ?_ ?_
  ·
   refine wp_seq ?_
   refine qbn [(2,.v (.bool false)),(7,.p 0 0),(8,.v (.int .i16 v)),(9,.v (.bool (decide (v ≥ 6)))),(10,.p 1 0),(81,.v (.bool (decide (v ≥ 6))))] cr fun _ ay=>qaa ?_
   clear cr
   refine qau ay.env_ (b:=decide (v ≥ 6)) kz (fun bf=>?_) (fun bf=>?_)
   ·
    have cu:=ay.cast (t:=(if (T.at_ 4).null = true then uv 0 else uv ((qaB (T.at_ 4)).length + 1) ++ (qaB (T.at_ 4))) ++ bD) (by rw [if_pos bf])
    clear ay
    refine wp_seq ?_
    refine qbn [(2,.v (.bool false)),(7,.p 0 0),(8,.v (.int .i16 v)),(9,.v (.bool (decide (v ≥ 6)))),(10,.p 1 0),(82,.v (.bool false))] cu fun _ bg=>qaa ?_
    clear cu
    refine qaq bg.env_ (b:=false) kz (rfl) ?_
    refine qgC (d:=84) (fun bG=>[(2,.v (.bool false)),(7,.p 0 0),(8,.v (.int .i16 v)),(9,.v (.bool (decide (v ≥ 6)))),(10,.p 1 0),(15,.v (.pointer bG))]) bg (qbN (T.at_ 4).null (qaB (T.at_ 4)) e32_4 _) (fun _=>(MvF.text _ _).and (MvF.is _)) Tryz.call87 fun bG gx _ _ bh fx=>?_
    clear bg
    refine qaa ?_
    exact ⟨bG,_,fun w F h_=>⟨(bh _ _ h_).1,(bh _ _ h_).2.1,fun _=>(bh _ _ h_).2.2,fun e_=>(by rw [show (decide (v ≥ 7)) = true from (decide_eq_true (by have h_:=of_decide_eq_false ar; omega))] at e_; cases e_)⟩,fx.pk (env':=[(2,.v (.bool false)),(7,.p 0 0),(8,.v (.int .i16 v)),(9,.v (.bool (decide (v ≥ 6)))),(10,.p 1 0),(15,.v (.pointer bG))])⟩
   have cv:=ay.cast (t:=(if (T.at_ 4).null = true then be 2 (-1) else be 2 (qaB (T.at_ 4)).length ++ (qaB (T.at_ 4))) ++ bD) (by rw [if_neg (by rw [bf]; decide)])
   clear ay
   refine wp_seq ?_
   refine qbn [(2,.v (.bool false)),(7,.p 0 0),(8,.v (.int .i16 v)),(9,.v (.bool (decide (v ≥ 6)))),(10,.p 1 0),(85,.v (.bool false))] cv fun _ bi=>qaa ?_
   clear cv
   refine qaq bi.env_ (b:=false) kz (rfl) ?_
   refine qgC (d:=87) (fun bH=>[(2,.v (.bool false)),(7,.p 0 0),(8,.v (.int .i16 v)),(9,.v (.bool (decide (v ≥ 6)))),(10,.p 1 0),(15,.v (.pointer bH))]) bi (qcD (T.at_ 4).null (qaB (T.at_ 4)) e32_4 _) (fun _=>(MvF.text _ _).and (MvF.is _)) Tryz.call89 fun bH gy _ _ bj fy=>?_
   clear bi
   refine qaa ?_
   exact ⟨bH,_,fun w F h_=>⟨(bj _ _ h_).1,(bj _ _ h_).2.1,fun _=>(bj _ _ h_).2.2,fun e_=>(by rw [show (decide (v ≥ 7)) = true from (decide_eq_true (by have h_:=of_decide_eq_false ar; omega))] at e_; cases e_)⟩,fy.pk (env':=[(2,.v (.bool false)),(7,.p 0 0),(8,.v (.int .i16 v)),(9,.v (.bool (decide (v ≥ 6)))),(10,.p 1 0),(15,.v (.pointer bH))])⟩
  rintro _ _ ⟨aL,gz,cw,fz⟩
  refine qaa ?_
  exact ⟨aL,_,fun w F h_=>⟨(cw _ _ h_).1,(cw _ _ h_).2⟩,fz.pk (env':=[(2,.v (.bool false)),(7,.p 0 0),(8,.v (.int .i16 v)),(9,.v (.bool (decide (v ≥ 6)))),(10,.p 1 0),(15,.v (.pointer aL))])⟩
 rintro _ _ ⟨ag,f8,au,cy⟩
 refine qaa ?_
 refine qc4 [⟨bv,0,[.int .i16 v,.int .i32 aj.n,.int .i16 (IntKind.i16.wrap (T.at_ 1).N),.int .i32 (IntKind.i32.wrap (T.at_ 2).N),.pointer ak.A,.pointer ag,.string ByteArray.empty,.bool false,.string ByteArray.empty,.slice none 0 0,.map none],true⟩] 0 [(2,.v (.bool false)),(7,.p 0 0),(8,.v (.int .i16 v)),(9,.v (.bool (decide (v ≥ 6)))),(10,.p 1 0)] cy fun _ _ cz=>?_
 clear cy
 refine qaa ?_
 refine wp_seq ?_
 refine wp_seq ?_
 refine qbn [(2,.v (.bool false)),(7,.p 0 0),(8,.v (.int .i16 v)),(9,.v (.bool (decide (v ≥ 6)))),(10,.p 1 0)] cz fun _ cA=>?_
 clear cz
 refine qaa ?_
 refine wp_seq ?_
 refine wp_seq ?_
 refine qbn [(2,.v (.bool false)),(7,.p 0 0),(8,.v (.int .i16 v)),(9,.v (.bool (decide (v ≥ 6)))),(10,.p 1 0),(92,.v (.bool false))] cA fun _ bk=>qaa ?_
 clear cA
 refine qaq bk.env_ (b:=false) kz (rfl) ?_
 have cB:=bk.cast eG
 clear bk
 refine qf2 (d1:=97) (d2:=98) [(2,.v (.bool false)),(7,.p 0 0),(8,.v (.int .i16 v)),(9,.v (.bool (decide (v ≥ 6)))),(10,.p 1 0),(96,.v (.bool (decide (v ≥ 6))))] [(2,.v (.bool false)),(7,.p 0 0),(8,.v (.int .i16 v)),(9,.v (.bool (decide (v ≥ 6)))),(10,.p 1 0),(17,.v (.string (bs (T.at_ 5).S)))] cB (qcm (T.at_ 5).S e32_5 _) Tryz.call78 (qf5 (T.at_ 5).S e32_5 _) Tryz.call79 fun _ _ cC=>?_
 clear cB
 refine qaa ?_
 refine qc4 [⟨bv,0,[.int .i16 v,.int .i32 aj.n,.int .i16 (IntKind.i16.wrap (T.at_ 1).N),.int .i32 (IntKind.i32.wrap (T.at_ 2).N),.pointer ak.A,.pointer ag,.string (bs (T.at_ 5).S),.bool false,.string ByteArray.empty,.slice none 0 0,.map none],true⟩] 0 [(2,.v (.bool false)),(7,.p 0 0),(8,.v (.int .i16 v)),(9,.v (.bool (decide (v ≥ 6)))),(10,.p 1 0)] cC fun _ _ cD=>?_
 clear cC
 refine qaa ?_
 refine wp_seq ?_
 have cE:=cD.cast eF
 clear cD
 refine qcl (Mid:=fun a_ w_=>∃ (ah:DV) (P':qbT),(∀ w F,P' w F → f8 w F ∧ (True) ∧ ((decide (v ≥ 9)) = true → ah.b = decide ((T.at_ 6).N % 2 = 1)) ∧ ((decide (v ≥ 9)) = false → ah.b = false)) ∧ RS w (fun b o=>b = bv ∧ o < 11) F 197 aS [⟨bv,0,[.int .i16 v,.int .i32 aj.n,.int .i16 (IntKind.i16.wrap (T.at_ 1).N),.int .i32 (IntKind.i32.wrap (T.at_ 2).N),.pointer ak.A,.pointer ag,.string (bs (T.at_ 5).S),.bool ah.b,.string ByteArray.empty,.slice none 0 0,.map none],true⟩] [(2,.v (.bool false)),(7,.p 0 0),(8,.v (.int .i16 v)),(9,.v (.bool (decide (v ≥ 6)))),(10,.p 1 0)] P' eD a_ w_) ?_ ?_
 ·
  refine wp_seq ?_
  refine qbn [(2,.v (.bool false)),(7,.p 0 0),(8,.v (.int .i16 v)),(9,.v (.bool (decide (v ≥ 6)))),(10,.p 1 0),(104,.v (.bool (decide (v ≥ 9))))] cE fun _ az=>qaa ?_
  clear cE
  refine qau az.env_ (b:=decide (v ≥ 9)) kz (fun aA=>?_) (fun aA=>?_)
  ·
   have cG:=az.cast (t:=[by8 (if (decide ((T.at_ 6).N % 2 = 1)) then 1 else 0)] ++ eD) (by rw [if_pos aA])
   clear az
   refine wp_seq ?_
   refine qfk (d:=105) [(2,.v (.bool false)),(7,.p 0 0),(8,.v (.int .i16 v)),(9,.v (.bool (decide (v ≥ 6)))),(10,.p 1 0),(18,.v (.bool (decide ((T.at_ 6).N % 2 = 1))))] cG (qlZ _ _) Tryz.call102 fun _ _ cH=>?_
   clear cG
   refine qaa ?_
   refine qc4 [⟨bv,0,[.int .i16 v,.int .i32 aj.n,.int .i16 (IntKind.i16.wrap (T.at_ 1).N),.int .i32 (IntKind.i32.wrap (T.at_ 2).N),.pointer ak.A,.pointer ag,.string (bs (T.at_ 5).S),.bool (decide ((T.at_ 6).N % 2 = 1)),.string ByteArray.empty,.slice none 0 0,.map none],true⟩] 0 [(2,.v (.bool false)),(7,.p 0 0),(8,.v (.int .i16 v)),(9,.v (.bool (decide (v ≥ 6)))),(10,.p 1 0)] cH fun _ _ fA=>?_
   clear cH
   refine qaa ?_
   exact ⟨dvB (decide ((T.at_ 6).N % 2 = 1)),_,fun w F h_=>⟨h_,trivial,⟨fun _=>rfl,(fun e_=>by rw [aA] at e_; cases e_)⟩⟩,fA.pk (env':=[(2,.v (.bool false)),(7,.p 0 0),(8,.v (.int .i16 v)),(9,.v (.bool (decide (v ≥ 6)))),(10,.p 1 0)])⟩
  have cI:=az.cast (t:=[] ++ eD) (by rw [if_neg (by rw [aA]; decide)])
  clear az
  have fB:=cI.cast (t:=eD) rfl
  clear cI
  refine wp_skip (qaa ?_)
  exact ⟨dvB false,_,fun w F h_=>⟨h_,trivial,⟨(fun e_=>by rw [aA] at e_; cases e_),fun _=>rfl⟩⟩,fB.pk (env':=[(2,.v (.bool false)),(7,.p 0 0),(8,.v (.int .i16 v)),(9,.v (.bool (decide (v ≥ 6)))),(10,.p 1 0)])⟩
 rintro _ _ ⟨ah,fC,ap,cJ⟩
 refine qaa ?_
 refine wp_seq ?_
 refine wp_seq ?_
 refine qbn [(2,.v (.bool false)),(7,.p 0 0),(8,.v (.int .i16 v)),(9,.v (.bool (decide (v ≥ 6)))),(10,.p 1 0)] cJ fun _ cK=>?_
 clear cJ
 refine qaa ?_
 refine wp_seq ?_
 refine wp_seq ?_
 refine qbn [(2,.v (.bool false)),(7,.p 0 0),(8,.v (.int .i16 v)),(9,.v (.bool (decide (v ≥ 6)))),(10,.p 1 0),(110,.v (.bool false))] cK fun _ bn=>qaa ?_
 clear cK
 refine qaq bn.env_ (b:=false) kz (rfl) ?_
 have cL:=bn.cast eE
 clear bn
 refine qf2 (d1:=115) (d2:=116) [(2,.v (.bool false)),(7,.p 0 0),(8,.v (.int .i16 v)),(9,.v (.bool (decide (v ≥ 6)))),(10,.p 1 0),(114,.v (.bool (decide (v ≥ 6))))] [(2,.v (.bool false)),(7,.p 0 0),(8,.v (.int .i16 v)),(9,.v (.bool (decide (v ≥ 6)))),(10,.p 1 0),(19,.v (.string (bs (T.at_ 7).S)))] cL (qcm (T.at_ 7).S e32_7 _) Tryz.call78 (qf5 (T.at_ 7).S e32_7 _) Tryz.call79 fun _ _ cM=>?_
 clear cL
 refine qaa ?_
 refine qc4 [⟨bv,0,[.int .i16 v,.int .i32 aj.n,.int .i16 (IntKind.i16.wrap (T.at_ 1).N),.int .i32 (IntKind.i32.wrap (T.at_ 2).N),.pointer ak.A,.pointer ag,.string (bs (T.at_ 5).S),.bool ah.b,.string (bs (T.at_ 7).S),.slice none 0 0,.map none],true⟩] 0 [(2,.v (.bool false)),(7,.p 0 0),(8,.v (.int .i16 v)),(9,.v (.bool (decide (v ≥ 6)))),(10,.p 1 0)] cM fun _ _ cN=>?_
 clear cM
 refine qaa ?_
 refine wp_seq ?_
 refine wp_seq ?_
 refine qbn [(2,.v (.bool false)),(7,.p 0 0),(8,.v (.int .i16 v)),(9,.v (.bool (decide (v ≥ 6)))),(10,.p 1 0),(20,.v (.slice none 0 0))] cN fun _ cO=>?_
 clear cN
 refine qaa ?_
 refine wp_seq ?_
 refine qbn [(2,.v (.bool false)),(7,.p 0 0),(8,.v (.int .i16 v)),(9,.v (.bool (decide (v ≥ 6)))),(10,.p 1 0),(21,.v (.slice none 0 0))] cO fun _ cP=>?_
 clear cO
 refine qaa ?_
 refine wp_seq ?_
 refine qbn [(2,.v (.bool false)),(7,.p 0 0),(8,.v (.int .i16 v)),(9,.v (.bool (decide (v ≥ 6)))),(10,.p 1 0),(21,.v (.slice none 0 0))] cP fun _ cQ=>?_
 clear cP
 refine qaa ?_
 refine wp_seq ?_
 have cR:=cQ.cast eC
 clear cQ
 have cS:=cR.cast (t:=(if (decide (v ≥ 6)) = true then (uv ((lst (T.at_ 8)).length + 1)) else (be 4 (lst (T.at_ 8)).length)) ++ (((lst (T.at_ 8)).flatMap (qaA v)) ++ bM)) (by rw [List.append_assoc])
 clear cR
 refine qf2 (d1:=127) (d2:=128) [(2,.v (.bool false)),(7,.p 0 0),(8,.v (.int .i16 v)),(9,.v (.bool (decide (v ≥ 6)))),(10,.p 1 0),(21,.v (.slice none 0 0)),(126,.v (.bool (decide (v ≥ 6))))] [(2,.v (.bool false)),(7,.p 0 0),(8,.v (.int .i16 v)),(9,.v (.bool (decide (v ≥ 6)))),(10,.p 1 0),(21,.v (.slice none 0 0)),(22,.v (.int .i32 (((lst (T.at_ 8)).length:Nat):Int)))] cS (qeO ((lst (T.at_ 8)).length) e32_8 _ (flat_ge' (qbZ v) _)) Tryz.call71 (qjw ((lst (T.at_ 8)).length) e32_8 _ (flat_ge' (qbZ v) _)) Tryz.call72 fun _ _ cT=>?_
 clear cS
 refine qaa ?_
 refine wp_seq ?_
 refine wp_seq ?_
 refine qlY (d:=129) [(2,.v (.bool false)),(7,.p 0 0),(8,.v (.int .i16 v)),(9,.v (.bool (decide (v ≥ 6)))),(10,.p 1 0),(21,.v (.slice none 0 0)),(22,.v (.int .i32 (((lst (T.at_ 8)).length:Nat):Int))),(130,.v (.bool false))] cT (pOk _) Tryz.call73 fun _ _ bo=>?_
 clear cT
 refine qaa ?_
 refine qaq bo.env_ (b:=false) kz (rfl) ?_
 refine wp_skip ?_
 refine qaa ?_
 refine wp_seq ?_
 refine qla (t:=104) (e:=110) (size:=4) (bytes:=56) (d:=133) (A0:=none) (m:=0) (cp:=0) [(2,.v (.bool false)),(7,.p 0 0),(8,.v (.int .i16 v)),(9,.v (.bool (decide (v ≥ 6)))),(10,.p 1 0),(22,.v (.int .i32 (((lst (T.at_ 8)).length:Nat):Int))),(132,.v (.slice none 0 0))] [(2,.v (.bool false)),(7,.p 0 0),(8,.v (.int .i16 v)),(9,.v (.bool (decide (v ≥ 6)))),(10,.p 1 0),(21,.v (.slice none 0 0)),(22,.v (.int .i32 (((lst (T.at_ 8)).length:Nat):Int)))] 1 bo fun _ cU=>?_
 clear bo
 refine qaa ?_
 refine qj9 (Mid:=fun a_ w_=>∃ (af:DV) (P':qbT),(∀ w F,P' w F → fC w F ∧ (Slots w F 4 af.A af.c af.l (fun i=>[.string (((af.f i).f 0).s),.pointer (((af.f i).f 1).A),.slice (((af.f i).f 2).A) (((af.f i).f 2).o.length) (((af.f i).f 2).c),.map ((af.f i).m)]) ∧ af.l ≤ 1000000 ∧ ∀ i,i < af.l → qaR w F (af.f i)) ∧ (af.l = (lst (T.at_ 8)).length ∧ ∀ i,i < af.l → qaU v (af.f i) ((lst (T.at_ 8)).getD i .zero))) ∧ RS w (fun b o=>b = bv ∧ o < 11) F 197 aS [⟨bv,0,[.int .i16 v,.int .i32 aj.n,.int .i16 (IntKind.i16.wrap (T.at_ 1).N),.int .i32 (IntKind.i32.wrap (T.at_ 2).N),.pointer ak.A,.pointer ag,.string (bs (T.at_ 5).S),.bool ah.b,.string (bs (T.at_ 7).S),.slice none 0 0,.map none],true⟩] [(7,.p 0 0),(9,.v (.bool (decide (v ≥ 6)))),(10,.p 1 0),(21,.v (.slice af.A af.l af.c))] P' bM a_ w_) ?_ ?_
 ·
  refine wp_seq ?_
  refine qbn [(2,.v (.bool false)),(7,.p 0 0),(8,.v (.int .i16 v)),(9,.v (.bool (decide (v ≥ 6)))),(10,.p 1 0),(21,.v (.slice none 0 0)),(22,.v (.int .i32 (((lst (T.at_ 8)).length:Nat):Int))),(135,.v (.bool (decide ((((lst (T.at_ 8)).length:Nat):Int) > 0))))] cU fun _ aB=>qaa ?_
  clear cU
  refine qau aB.env_ (b:=decide ((((lst (T.at_ 8)).length:Nat):Int) > 0)) kz (fun aO=>?_) (fun aO=>?_)
  ·
   have hn_g204:0 < (lst (T.at_ 8)).length:=by have h_:=of_decide_eq_true aO; omega
   refine qap [0,1,2,3] kz ?_
   refine qdZ [0,1] [2,3] [(2,.v (.bool false)),(7,.p 0 0),(8,.v (.int .i16 v)),(9,.v (.bool (decide (v ≥ 6)))),(10,.p 1 0),(22,.v (.int .i32 (((lst (T.at_ 8)).length:Nat):Int))),(136,.v (.slice none 0 0)),(137,.v (.int .i32 (((lst (T.at_ 8)).length:Nat):Int)))] aB fun _ cV=>?_
   clear aB
   refine qak (qh9 (A0:=none) (d:=138) (t:=104) (tn:=21) (e:=110) (size:=4) (bytes:=56) (k:=.i32) (kn:=.i32) (q:=(((lst (T.at_ 8)).length:Nat):Int)) (j:=(lst (T.at_ 8)).length) (.agg #[.string ByteArray.empty,.pointer none,.slice none 0 0,.map none]) cV (fun ab ae _ _ hg_g204 hcap_g204 cW=>?_) rfl hn_g204 (by have:=e32_8; omega))
   clear cV
   refine qdZ [3] [] [(2,.v (.bool false)),(7,.p 0 0),(8,.v (.int .i16 v)),(9,.v (.bool (decide (v ≥ 6)))),(10,.p 1 0),(21,.v (.slice (some ⟨ab,0,none⟩) ((lst (T.at_ 8)).length) ae)),(22,.v (.int .i32 (((lst (T.at_ 8)).length:Nat):Int)))] cW fun _ cX=>qad ?_
   clear cW
   refine qaa ?_
   refine wp_seq ?_
   refine qbn [(2,.v (.bool false)),(7,.p 0 0),(8,.v (.int .i16 v)),(9,.v (.bool (decide (v ≥ 6)))),(10,.p 1 0),(21,.v (.slice (some ⟨ab,0,none⟩) ((lst (T.at_ 8)).length) ae)),(22,.v (.int .i32 (((lst (T.at_ 8)).length:Nat):Int))),(23,.v (.int .i32 0))] cX fun _ bp=>?_
   clear cX
   refine qaa ?_
   refine wp_block ?_
   have bq:=bp.mv
   have fD:=(bp.cast (t:=(lst (T.at_ 8)).flatMap (qaA v) ++ bM) rfl).pk (env':=[(2,.v (.bool false)),(7,.p 0 0),(8,.v (.int .i16 v)),(9,.v (.bool (decide (v ≥ 6)))),(10,.p 1 0),(21,.v (.slice (some ⟨ab,0,none⟩) ((lst (T.at_ 8)).length) ae)),(22,.v (.int .i32 (((lst (T.at_ 8)).length:Nat):Int))),(23,.v (.int .i32 ((0:Nat):Int)))])
   clear bp
   refine qk7 (tb:=[⟨bv,0,[.int .i16 v,.int .i32 aj.n,.int .i16 (IntKind.i16.wrap (T.at_ 1).N),.int .i32 (IntKind.i32.wrap (T.at_ 2).N),.pointer ak.A,.pointer ag,.string (bs (T.at_ 5).S),.bool ah.b,.string (bs (T.at_ 7).S),.slice none 0 0,.map none],true⟩]) (z:=.agg #[.string ByteArray.empty,.pointer none,.slice none 0 0,.map none]) (cl:=qb2) (ok:=qaR) (rel:=(qaU v)) (L:=lst (T.at_ 8)) (size:=4) (qaA v) bM (fun k=>[(2,.v (.bool false)),(7,.p 0 0),(8,.v (.int .i16 v)),(9,.v (.bool (decide (v ≥ 6)))),(10,.p 1 0),(21,.v (.slice (some ⟨ab,0,none⟩) ((lst (T.at_ 8)).length) ae)),(22,.v (.int .i32 (((lst (T.at_ 8)).length:Nat):Int))),(23,.v (.int .i32 ((k:Nat):Int)))]) fD qbb (fun ac aa _ _ bt fE cY=>?_) (fun _ _ cZ=>?_)
   ·
    obtain ⟨fF,da,db⟩:∃ P',(∀ w F,P' w F → (fC w F ∧ qf3 ab 4 qb2 qaR (qaU v) (lst (T.at_ 8)) ac w F)) ∧ RS w (fun b o=>b = bv ∧ o < 11) F 197 aS [⟨bv,0,[.int .i16 v,.int .i32 aj.n,.int .i16 (IntKind.i16.wrap (T.at_ 1).N),.int .i32 (IntKind.i32.wrap (T.at_ 2).N),.pointer ak.A,.pointer ag,.string (bs (T.at_ 5).S),.bool ah.b,.string (bs (T.at_ 7).S),.slice none 0 0,.map none],true⟩,qbU ab 4 (.agg #[.string ByteArray.empty,.pointer none,.slice none 0 0,.map none]) ((lst (T.at_ 8)).length) ac] [(2,.v (.bool false)),(7,.p 0 0),(8,.v (.int .i16 v)),(9,.v (.bool (decide (v ≥ 6)))),(10,.p 1 0),(21,.v (.slice (some ⟨ab,0,none⟩) ((lst (T.at_ 8)).length) ae)),(22,.v (.int .i32 (((lst (T.at_ 8)).length:Nat):Int))),(23,.v (.int .i32 ((ac:Nat):Int)))] P' ((qaA v) aa ++ (((lst (T.at_ 8)).drop (ac + 1)).flatMap (qaA v) ++ bM)) _ _:=⟨_,fun _ _ h=>h,cY⟩
    clear cY
    obtain ⟨bu,dc⟩:∃ R,R = ((lst (T.at_ 8)).drop (ac + 1)).flatMap (qaA v) ++ bM:=⟨_,rfl⟩
    have fG:=(e32_8e aa (List.mem_of_getElem? bt))
    have e223r:=(qh5 (qgA e32r 8) aa (List.mem_of_getElem? bt))
    unfold qa9 at fG
    obtain ⟨e223_0,e223_1,e223_2,e223_U,_⟩:=fG
    obtain ⟨f9,de⟩:∃ R,R = (if (decide (v ≥ 6)) = true then (uv aa.U.length) ++ (qbw aa.U) else []) ++ bu:=⟨_,rfl⟩
    obtain ⟨aC,df⟩:∃ R,R = (if (decide (v ≥ 6)) = true then (uv ((qaB (aa.at_ 2)).length + 1) ++ (qaB (aa.at_ 2))) else (be 4 (qaB (aa.at_ 2)).length ++ (qaB (aa.at_ 2)))) ++ f9:=⟨_,rfl⟩
    obtain ⟨ga,dg⟩:∃ R,R = (if (decide (v ≥ 5)) = true then if (decide (v ≥ 6)) = true then (if (aa.at_ 1).null = true then uv 0 else uv ((qaB (aa.at_ 1)).length + 1) ++ (qaB (aa.at_ 1))) else (if (aa.at_ 1).null = true then be 2 (-1) else be 2 (qaB (aa.at_ 1)).length ++ (qaB (aa.at_ 1))) else []) ++ aC:=⟨_,rfl⟩
    obtain ⟨gb,dh⟩:∃ R,R = (if (decide (v ≥ 6)) = true then (uv ((aa.at_ 0).S.length + 1) ++ (aa.at_ 0).S) else (be 2 (aa.at_ 0).S.length ++ (aa.at_ 0).S)) ++ ga:=⟨_,rfl⟩
    have di:=db.cast (t:=gb) (by rw [dh,dg,df,de,← dc]; unfold qaA; simp only [List.append_assoc])
    clear db
    refine wp_seq ?_
    refine wp_seq ?_
    refine qbn [(2,.v (.bool false)),(7,.p 0 0),(8,.v (.int .i16 v)),(9,.v (.bool (decide (v ≥ 6)))),(10,.p 1 0),(21,.v (.slice (some ⟨ab,0,none⟩) ((lst (T.at_ 8)).length) ae)),(22,.v (.int .i32 (((lst (T.at_ 8)).length:Nat):Int))),(23,.v (.int .i32 ((ac:Nat):Int))),(141,.v (.bool (decide (((ac:Nat):Int) < (((lst (T.at_ 8)).length:Nat):Int)))))] di fun _ bw=>qaa ?_
    clear di
    refine qbz bw.env_ (b:=decide (((ac:Nat):Int) < (((lst (T.at_ 8)).length:Nat):Int))) kz (decide_eq_true (by omega)) ?_
    refine wp_skip ?_
    refine qaa ?_
    refine wp_seq ?_
    refine wp_block ?_
    refine wp_seq ?_
    refine qlb (t:=104) (e:=110) (size:=4) (bytes:=56) (d:=146) (tb:=[⟨bv,0,[.int .i16 v,.int .i32 aj.n,.int .i16 (IntKind.i16.wrap (T.at_ 1).N),.int .i32 (IntKind.i32.wrap (T.at_ 2).N),.pointer ak.A,.pointer ag,.string (bs (T.at_ 5).S),.bool ah.b,.string (bs (T.at_ 7).S),.slice none 0 0,.map none],true⟩]) (z:=.agg #[.string ByteArray.empty,.pointer none,.slice none 0 0,.map none]) [(2,.v (.bool false)),(7,.p 0 0),(8,.v (.int .i16 v)),(9,.v (.bool (decide (v ≥ 6)))),(10,.p 1 0),(21,.v (.slice (some ⟨ab,0,none⟩) ((lst (T.at_ 8)).length) ae)),(22,.v (.int .i32 (((lst (T.at_ 8)).length:Nat):Int))),(23,.v (.int .i32 ((ac:Nat):Int))),(144,.v (.slice (some ⟨ab,0,none⟩) ((lst (T.at_ 8)).length) ae)),(145,.v (.int .i32 ((ac:Nat):Int)))] [(2,.v (.bool false)),(7,.p 0 0),(8,.v (.int .i16 v)),(9,.v (.bool (decide (v ≥ 6)))),(10,.p 1 0),(21,.v (.slice (some ⟨ab,0,none⟩) ((lst (T.at_ 8)).length) ae)),(22,.v (.int .i32 (((lst (T.at_ 8)).length:Nat):Int))),(23,.v (.int .i32 ((ac:Nat):Int))),(24,.p 3 0)] 2 bw fE rfl kz fun _ dj=>?_
    clear bw
    have dl:=dj.tbEq (tb':=[⟨bv,0,[.int .i16 v,.int .i32 aj.n,.int .i16 (IntKind.i16.wrap (T.at_ 1).N),.int .i32 (IntKind.i32.wrap (T.at_ 2).N),.pointer ak.A,.pointer ag,.string (bs (T.at_ 5).S),.bool ah.b,.string (bs (T.at_ 7).S),.slice none 0 0,.map none],true⟩,qbU ab 4 (.agg #[.string ByteArray.empty,.pointer none,.slice none 0 0,.map none]) ((lst (T.at_ 8)).length) (ac + 1),⟨ab,ac * 4,[.string ByteArray.empty,.pointer none,.slice none 0 0,.map none],true⟩]) rfl
    clear dj
    refine qaa ?_
    refine wp_seq ?_
    refine qap [0,1] kz ?_
    refine qdZ [0] [1] [(2,.v (.bool false)),(7,.p 0 0),(8,.v (.int .i16 v)),(9,.v (.bool (decide (v ≥ 6)))),(10,.p 1 0),(21,.v (.slice (some ⟨ab,0,none⟩) ((lst (T.at_ 8)).length) ae)),(22,.v (.int .i32 (((lst (T.at_ 8)).length:Nat):Int))),(23,.v (.int .i32 ((ac:Nat):Int))),(24,.p 3 0),(147,.p 3 0)] dl fun _ dp=>?_
    clear dl
    refine qak (qlI (d:=148) (vs:=[.pointer (some ⟨ab,ac * 4,none⟩)]) dp (fun _=>qlP _ _ _) Tryz.call103 fun _ dq=>?_)
    clear dp
    refine qad ?_
    have dr:=dq.pk (env':=[(2,.v (.bool false)),(7,.p 0 0),(8,.v (.int .i16 v)),(9,.v (.bool (decide (v ≥ 6)))),(10,.p 1 0),(21,.v (.slice (some ⟨ab,0,none⟩) ((lst (T.at_ 8)).length) ae)),(22,.v (.int .i32 (((lst (T.at_ 8)).length:Nat):Int))),(23,.v (.int .i32 ((ac:Nat):Int))),(24,.p 3 0)])
    clear dq
    refine qaa ?_
    refine wp_seq ?_
    refine qbn [(2,.v (.bool false)),(7,.p 0 0),(8,.v (.int .i16 v)),(9,.v (.bool (decide (v ≥ 6)))),(10,.p 1 0),(21,.v (.slice (some ⟨ab,0,none⟩) ((lst (T.at_ 8)).length) ae)),(22,.v (.int .i32 (((lst (T.at_ 8)).length:Nat):Int))),(23,.v (.int .i32 ((ac:Nat):Int))),(25,.p 3 0)] dr fun _ dt=>?_
    clear dr
    refine qaa ?_
    refine wp_seq ?_
    refine wp_seq ?_
    refine qbn [(2,.v (.bool false)),(7,.p 0 0),(8,.v (.int .i16 v)),(9,.v (.bool (decide (v ≥ 6)))),(10,.p 1 0),(21,.v (.slice (some ⟨ab,0,none⟩) ((lst (T.at_ 8)).length) ae)),(22,.v (.int .i32 (((lst (T.at_ 8)).length:Nat):Int))),(23,.v (.int .i32 ((ac:Nat):Int))),(25,.p 3 0)] dt fun _ du=>?_
    clear dt
    refine qaa ?_
    refine wp_seq ?_
    refine wp_seq ?_
    refine qbn [(2,.v (.bool false)),(7,.p 0 0),(8,.v (.int .i16 v)),(9,.v (.bool (decide (v ≥ 6)))),(10,.p 1 0),(21,.v (.slice (some ⟨ab,0,none⟩) ((lst (T.at_ 8)).length) ae)),(22,.v (.int .i32 (((lst (T.at_ 8)).length:Nat):Int))),(23,.v (.int .i32 ((ac:Nat):Int))),(25,.p 3 0),(150,.v (.bool false))] du fun _ bx=>qaa ?_
    clear du
    refine qaq bx.env_ (b:=false) kz (rfl) ?_
    have dv:=bx.cast dh
    clear bx
    refine qf2 (d1:=155) (d2:=156) [(2,.v (.bool false)),(7,.p 0 0),(8,.v (.int .i16 v)),(9,.v (.bool (decide (v ≥ 6)))),(10,.p 1 0),(21,.v (.slice (some ⟨ab,0,none⟩) ((lst (T.at_ 8)).length) ae)),(22,.v (.int .i32 (((lst (T.at_ 8)).length:Nat):Int))),(23,.v (.int .i32 ((ac:Nat):Int))),(25,.p 3 0),(154,.v (.bool (decide (v ≥ 6))))] [(2,.v (.bool false)),(7,.p 0 0),(8,.v (.int .i16 v)),(9,.v (.bool (decide (v ≥ 6)))),(10,.p 1 0),(21,.v (.slice (some ⟨ab,0,none⟩) ((lst (T.at_ 8)).length) ae)),(22,.v (.int .i32 (((lst (T.at_ 8)).length:Nat):Int))),(23,.v (.int .i32 ((ac:Nat):Int))),(25,.p 3 0),(26,.v (.string (bs (aa.at_ 0).S)))] dv (qcm (aa.at_ 0).S e223_0 _) Tryz.call78 (qf5 (aa.at_ 0).S e223_0 _) Tryz.call79 fun _ _ dw=>?_
    clear dv
    refine qaa ?_
    refine qc4 [⟨bv,0,[.int .i16 v,.int .i32 aj.n,.int .i16 (IntKind.i16.wrap (T.at_ 1).N),.int .i32 (IntKind.i32.wrap (T.at_ 2).N),.pointer ak.A,.pointer ag,.string (bs (T.at_ 5).S),.bool ah.b,.string (bs (T.at_ 7).S),.slice none 0 0,.map none],true⟩,qbU ab 4 (.agg #[.string ByteArray.empty,.pointer none,.slice none 0 0,.map none]) ((lst (T.at_ 8)).length) (ac + 1),⟨ab,ac * 4,[.string (bs (aa.at_ 0).S),.pointer none,.slice none 0 0,.map none],true⟩] 2 [(2,.v (.bool false)),(7,.p 0 0),(8,.v (.int .i16 v)),(9,.v (.bool (decide (v ≥ 6)))),(10,.p 1 0),(21,.v (.slice (some ⟨ab,0,none⟩) ((lst (T.at_ 8)).length) ae)),(22,.v (.int .i32 (((lst (T.at_ 8)).length:Nat):Int))),(23,.v (.int .i32 ((ac:Nat):Int))),(25,.p 3 0)] dw fun _ _ dx=>?_
    clear dw
    refine qaa ?_
    refine wp_seq ?_
    have dy:=dx.cast dg
    clear dx
    refine qcl (Mid:=fun a_ w_=>∃ (ao:DV) (P':qbT),(∀ w F,P' w F → fF w F ∧ ((∀ ad,ao.A = some ad → ∃ b o,ad = ⟨b,o,none⟩ ∧ AtF w F b o [.string ao.s]) ∧ ao.s.size ≤ 1000000) ∧ ((decide (v ≥ 5)) = true → (ao.s = bs (qaB (aa.at_ 1)) ∧ ao.A.isNone = (aa.at_ 1).null)) ∧ ((decide (v ≥ 5)) = false → (ao.s = ByteArray.empty ∧ ao.A = none))) ∧ RS w (fun b o=>b = bv ∧ o < 11) F 197 aS [⟨bv,0,[.int .i16 v,.int .i32 aj.n,.int .i16 (IntKind.i16.wrap (T.at_ 1).N),.int .i32 (IntKind.i32.wrap (T.at_ 2).N),.pointer ak.A,.pointer ag,.string (bs (T.at_ 5).S),.bool ah.b,.string (bs (T.at_ 7).S),.slice none 0 0,.map none],true⟩,qbU ab 4 (.agg #[.string ByteArray.empty,.pointer none,.slice none 0 0,.map none]) ((lst (T.at_ 8)).length) (ac + 1),⟨ab,ac * 4,[.string (bs (aa.at_ 0).S),.pointer ao.A,.slice none 0 0,.map none],true⟩] [(2,.v (.bool false)),(7,.p 0 0),(8,.v (.int .i16 v)),(9,.v (.bool (decide (v ≥ 6)))),(10,.p 1 0),(21,.v (.slice (some ⟨ab,0,none⟩) ((lst (T.at_ 8)).length) ae)),(22,.v (.int .i32 (((lst (T.at_ 8)).length:Nat):Int))),(23,.v (.int .i32 ((ac:Nat):Int))),(25,.p 3 0)] P' aC a_ w_) ?_ ?_
    ·
     refine wp_seq ?_
     refine qbn [(2,.v (.bool false)),(7,.p 0 0),(8,.v (.int .i16 v)),(9,.v (.bool (decide (v ≥ 6)))),(10,.p 1 0),(21,.v (.slice (some ⟨ab,0,none⟩) ((lst (T.at_ 8)).length) ae)),(22,.v (.int .i32 (((lst (T.at_ 8)).length:Nat):Int))),(23,.v (.int .i32 ((ac:Nat):Int))),(25,.p 3 0),(162,.v (.bool (decide (v ≥ 5))))] dy fun _ aD=>qaa ?_
     clear dy
     refine qau aD.env_ (b:=decide (v ≥ 5)) kz (fun aE=>?_) (fun aE=>?_)
     ·
      have dA:=aD.cast (t:=(if (decide (v ≥ 6)) = true then (if (aa.at_ 1).null = true then uv 0 else uv ((qaB (aa.at_ 1)).length + 1) ++ (qaB (aa.at_ 1))) else (if (aa.at_ 1).null = true then be 2 (-1) else be 2 (qaB (aa.at_ 1)).length ++ (qaB (aa.at_ 1)))) ++ aC) (by rw [if_pos aE])
      clear aD
      refine wp_seq ?_
      refine qbn [(2,.v (.bool false)),(7,.p 0 0),(8,.v (.int .i16 v)),(9,.v (.bool (decide (v ≥ 6)))),(10,.p 1 0),(21,.v (.slice (some ⟨ab,0,none⟩) ((lst (T.at_ 8)).length) ae)),(22,.v (.int .i32 (((lst (T.at_ 8)).length:Nat):Int))),(23,.v (.int .i32 ((ac:Nat):Int))),(25,.p 3 0)] dA fun _ dB=>?_
      clear dA
      refine qaa ?_
      refine wp_seq ?_
      refine qcl (Mid:=fun a_ w_=>∃ (aQ:Option Addr) (P':qbT),(∀ w F,P' w F → fF w F ∧ qg8 aQ (qaB (aa.at_ 1)) w F ∧ aQ.isNone = (aa.at_ 1).null) ∧ RS w (fun b o=>b = bv ∧ o < 11) F 197 aS [⟨bv,0,[.int .i16 v,.int .i32 aj.n,.int .i16 (IntKind.i16.wrap (T.at_ 1).N),.int .i32 (IntKind.i32.wrap (T.at_ 2).N),.pointer ak.A,.pointer ag,.string (bs (T.at_ 5).S),.bool ah.b,.string (bs (T.at_ 7).S),.slice none 0 0,.map none],true⟩,qbU ab 4 (.agg #[.string ByteArray.empty,.pointer none,.slice none 0 0,.map none]) ((lst (T.at_ 8)).length) (ac + 1),⟨ab,ac * 4,[.string (bs (aa.at_ 0).S),.pointer none,.slice none 0 0,.map none],true⟩] [(2,.v (.bool false)),(7,.p 0 0),(8,.v (.int .i16 v)),(9,.v (.bool (decide (v ≥ 6)))),(10,.p 1 0),(21,.v (.slice (some ⟨ab,0,none⟩) ((lst (T.at_ 8)).length) ae)),(22,.v (.int .i32 (((lst (T.at_ 8)).length:Nat):Int))),(23,.v (.int .i32 ((ac:Nat):Int))),(25,.p 3 0),(27,.v (.pointer aQ))] P' aC a_ w_) ?_ ?_
      ·
       refine wp_seq ?_
       refine qbn [(2,.v (.bool false)),(7,.p 0 0),(8,.v (.int .i16 v)),(9,.v (.bool (decide (v ≥ 6)))),(10,.p 1 0),(21,.v (.slice (some ⟨ab,0,none⟩) ((lst (T.at_ 8)).length) ae)),(22,.v (.int .i32 (((lst (T.at_ 8)).length:Nat):Int))),(23,.v (.int .i32 ((ac:Nat):Int))),(25,.p 3 0),(163,.v (.bool (decide (v ≥ 6))))] dB fun _ aF=>qaa ?_
       clear dB
       refine qau aF.env_ (b:=decide (v ≥ 6)) kz (fun bz=>?_) (fun bz=>?_)
       ·
        have dC:=aF.cast (t:=(if (aa.at_ 1).null = true then uv 0 else uv ((qaB (aa.at_ 1)).length + 1) ++ (qaB (aa.at_ 1))) ++ aC) (by rw [if_pos bz])
        clear aF
        refine wp_seq ?_
        refine qbn [(2,.v (.bool false)),(7,.p 0 0),(8,.v (.int .i16 v)),(9,.v (.bool (decide (v ≥ 6)))),(10,.p 1 0),(21,.v (.slice (some ⟨ab,0,none⟩) ((lst (T.at_ 8)).length) ae)),(22,.v (.int .i32 (((lst (T.at_ 8)).length:Nat):Int))),(23,.v (.int .i32 ((ac:Nat):Int))),(25,.p 3 0),(164,.v (.bool false))] dC fun _ bA=>qaa ?_
        clear dC
        refine qaq bA.env_ (b:=false) kz (rfl) ?_
        refine qgC (d:=166) (fun bI=>[(2,.v (.bool false)),(7,.p 0 0),(8,.v (.int .i16 v)),(9,.v (.bool (decide (v ≥ 6)))),(10,.p 1 0),(21,.v (.slice (some ⟨ab,0,none⟩) ((lst (T.at_ 8)).length) ae)),(22,.v (.int .i32 (((lst (T.at_ 8)).length:Nat):Int))),(23,.v (.int .i32 ((ac:Nat):Int))),(25,.p 3 0),(27,.v (.pointer bI))]) bA (qbN (aa.at_ 1).null (qaB (aa.at_ 1)) e223_1 _) (fun _=>(MvF.text _ _).and (MvF.is _)) Tryz.call87 fun bI gA _ _ dD fH=>?_
        clear bA
        refine qaa ?_
        exact ⟨bI,_,fun w F h_=>⟨(dD _ _ h_).1,(dD _ _ h_).2⟩,fH.pk (env':=[(2,.v (.bool false)),(7,.p 0 0),(8,.v (.int .i16 v)),(9,.v (.bool (decide (v ≥ 6)))),(10,.p 1 0),(21,.v (.slice (some ⟨ab,0,none⟩) ((lst (T.at_ 8)).length) ae)),(22,.v (.int .i32 (((lst (T.at_ 8)).length:Nat):Int))),(23,.v (.int .i32 ((ac:Nat):Int))),(25,.p 3 0),(27,.v (.pointer bI))])⟩
       have dE:=aF.cast (t:=(if (aa.at_ 1).null = true then be 2 (-1) else be 2 (qaB (aa.at_ 1)).length ++ (qaB (aa.at_ 1))) ++ aC) (by rw [if_neg (by rw [bz]; decide)])
       clear aF
       refine wp_seq ?_
       refine qbn [(2,.v (.bool false)),(7,.p 0 0),(8,.v (.int .i16 v)),(9,.v (.bool (decide (v ≥ 6)))),(10,.p 1 0),(21,.v (.slice (some ⟨ab,0,none⟩) ((lst (T.at_ 8)).length) ae)),(22,.v (.int .i32 (((lst (T.at_ 8)).length:Nat):Int))),(23,.v (.int .i32 ((ac:Nat):Int))),(25,.p 3 0),(167,.v (.bool false))] dE fun _ bB=>qaa ?_
       clear dE
       refine qaq bB.env_ (b:=false) kz (rfl) ?_
       refine qgC (d:=169) (fun bJ=>[(2,.v (.bool false)),(7,.p 0 0),(8,.v (.int .i16 v)),(9,.v (.bool (decide (v ≥ 6)))),(10,.p 1 0),(21,.v (.slice (some ⟨ab,0,none⟩) ((lst (T.at_ 8)).length) ae)),(22,.v (.int .i32 (((lst (T.at_ 8)).length:Nat):Int))),(23,.v (.int .i32 ((ac:Nat):Int))),(25,.p 3 0),(27,.v (.pointer bJ))]) bB (qcD (aa.at_ 1).null (qaB (aa.at_ 1)) e223_1 _) (fun _=>(MvF.text _ _).and (MvF.is _)) Tryz.call89 fun bJ gB _ _ dF fI=>?_
       clear bB
       refine qaa ?_
       exact ⟨bJ,_,fun w F h_=>⟨(dF _ _ h_).1,(dF _ _ h_).2⟩,fI.pk (env':=[(2,.v (.bool false)),(7,.p 0 0),(8,.v (.int .i16 v)),(9,.v (.bool (decide (v ≥ 6)))),(10,.p 1 0),(21,.v (.slice (some ⟨ab,0,none⟩) ((lst (T.at_ 8)).length) ae)),(22,.v (.int .i32 (((lst (T.at_ 8)).length:Nat):Int))),(23,.v (.int .i32 ((ac:Nat):Int))),(25,.p 3 0),(27,.v (.pointer bJ))])⟩
      rintro _ _ ⟨aQ,gC,bC,dG⟩
      refine qaa ?_
      refine qc4 [⟨bv,0,[.int .i16 v,.int .i32 aj.n,.int .i16 (IntKind.i16.wrap (T.at_ 1).N),.int .i32 (IntKind.i32.wrap (T.at_ 2).N),.pointer ak.A,.pointer ag,.string (bs (T.at_ 5).S),.bool ah.b,.string (bs (T.at_ 7).S),.slice none 0 0,.map none],true⟩,qbU ab 4 (.agg #[.string ByteArray.empty,.pointer none,.slice none 0 0,.map none]) ((lst (T.at_ 8)).length) (ac + 1),⟨ab,ac * 4,[.string (bs (aa.at_ 0).S),.pointer aQ,.slice none 0 0,.map none],true⟩] 2 [(2,.v (.bool false)),(7,.p 0 0),(8,.v (.int .i16 v)),(9,.v (.bool (decide (v ≥ 6)))),(10,.p 1 0),(21,.v (.slice (some ⟨ab,0,none⟩) ((lst (T.at_ 8)).length) ae)),(22,.v (.int .i32 (((lst (T.at_ 8)).length:Nat):Int))),(23,.v (.int .i32 ((ac:Nat):Int))),(25,.p 3 0)] dG fun _ _ fJ=>?_
      clear dG
      refine qaa ?_
      exact ⟨dvT aQ (bs (qaB (aa.at_ 1))),_,fun w F h_=>⟨(bC _ _ h_).1,⟨(bC _ _ h_).2.1,by show ByteArray.size (bs _) ≤ 1000000; rw [qck]; exact Nat.le_trans e223_1 (by decide)⟩,⟨fun _=>⟨rfl,(bC _ _ h_).2.2⟩,(fun e_=>by rw [aE] at e_; cases e_)⟩⟩,fJ.pk (env':=[(2,.v (.bool false)),(7,.p 0 0),(8,.v (.int .i16 v)),(9,.v (.bool (decide (v ≥ 6)))),(10,.p 1 0),(21,.v (.slice (some ⟨ab,0,none⟩) ((lst (T.at_ 8)).length) ae)),(22,.v (.int .i32 (((lst (T.at_ 8)).length:Nat):Int))),(23,.v (.int .i32 ((ac:Nat):Int))),(25,.p 3 0)])⟩
     have dH:=aD.cast (t:=[] ++ aC) (by rw [if_neg (by rw [aE]; decide)])
     clear aD
     have fK:=dH.cast (t:=aC) rfl
     clear dH
     refine wp_skip (qaa ?_)
     exact ⟨dvT none ByteArray.empty,_,fun w F h_=>⟨h_,⟨fun _ h=>(by cases h),Nat.zero_le _⟩,⟨(fun e_=>by rw [aE] at e_; cases e_),fun _=>⟨rfl,rfl⟩⟩⟩,fK.pk (env':=[(2,.v (.bool false)),(7,.p 0 0),(8,.v (.int .i16 v)),(9,.v (.bool (decide (v ≥ 6)))),(10,.p 1 0),(21,.v (.slice (some ⟨ab,0,none⟩) ((lst (T.at_ 8)).length) ae)),(22,.v (.int .i32 (((lst (T.at_ 8)).length:Nat):Int))),(23,.v (.int .i32 ((ac:Nat):Int))),(25,.p 3 0)])⟩
    rintro _ _ ⟨ao,gD,aP,dI⟩
    refine qaa ?_
    refine wp_seq ?_
    refine wp_seq ?_
    refine qbn [(2,.v (.bool false)),(7,.p 0 0),(8,.v (.int .i16 v)),(9,.v (.bool (decide (v ≥ 6)))),(10,.p 1 0),(21,.v (.slice (some ⟨ab,0,none⟩) ((lst (T.at_ 8)).length) ae)),(22,.v (.int .i32 (((lst (T.at_ 8)).length:Nat):Int))),(23,.v (.int .i32 ((ac:Nat):Int))),(25,.p 3 0)] dI fun _ dJ=>?_
    clear dI
    refine qaa ?_
    refine wp_seq ?_
    have dK:=dJ.cast df
    clear dJ
    refine qlE (d1:=175) (d2:=176) [(2,.v (.bool false)),(7,.p 0 0),(8,.v (.int .i16 v)),(9,.v (.bool (decide (v ≥ 6)))),(10,.p 1 0),(21,.v (.slice (some ⟨ab,0,none⟩) ((lst (T.at_ 8)).length) ae)),(22,.v (.int .i32 (((lst (T.at_ 8)).length:Nat):Int))),(23,.v (.int .i32 ((ac:Nat):Int))),(25,.p 3 0),(174,.v (.bool (decide (v ≥ 6))))] (fun aR=>[(2,.v (.bool false)),(7,.p 0 0),(8,.v (.int .i16 v)),(9,.v (.bool (decide (v ≥ 6)))),(10,.p 1 0),(21,.v (.slice (some ⟨ab,0,none⟩) ((lst (T.at_ 8)).length) ae)),(22,.v (.int .i32 (((lst (T.at_ 8)).length:Nat):Int))),(23,.v (.int .i32 ((ac:Nat):Int))),(25,.p 3 0),(28,.v (.slice aR ((qaB (aa.at_ 2)).length) ((qaB (aa.at_ 2)).length)))]) dK (qf6 (qaB (aa.at_ 2)) e223_2 _) Tryz.call104 (qlK (qaB (aa.at_ 2)) e223_2 _) Tryz.call105 (fun _=>MvF.octs _ _ _) fun aR gc _ _ aG dL=>?_
    clear dK
    refine qaa ?_
    refine qc4 [⟨bv,0,[.int .i16 v,.int .i32 aj.n,.int .i16 (IntKind.i16.wrap (T.at_ 1).N),.int .i32 (IntKind.i32.wrap (T.at_ 2).N),.pointer ak.A,.pointer ag,.string (bs (T.at_ 5).S),.bool ah.b,.string (bs (T.at_ 7).S),.slice none 0 0,.map none],true⟩,qbU ab 4 (.agg #[.string ByteArray.empty,.pointer none,.slice none 0 0,.map none]) ((lst (T.at_ 8)).length) (ac + 1),⟨ab,ac * 4,[.string (bs (aa.at_ 0).S),.pointer ao.A,.slice aR ((qaB (aa.at_ 2)).length) ((qaB (aa.at_ 2)).length),.map none],true⟩] 2 [(2,.v (.bool false)),(7,.p 0 0),(8,.v (.int .i16 v)),(9,.v (.bool (decide (v ≥ 6)))),(10,.p 1 0),(21,.v (.slice (some ⟨ab,0,none⟩) ((lst (T.at_ 8)).length) ae)),(22,.v (.int .i32 (((lst (T.at_ 8)).length:Nat):Int))),(23,.v (.int .i32 ((ac:Nat):Int))),(25,.p 3 0)] dL fun _ _ dM=>?_
    clear dL
    refine qaa ?_
    have dN:=dM.cast de
    clear dM
    refine qcl (Mid:=fun a_ w_=>∃ (bK:Option Nat) (aM:List (Int × Bs)) (P':qbT),(∀ w F,P' w F → gc w F ∧ (MapR w F bK aM ∧ aM.length ≤ 1000000 ∧ ∀ x ∈ aM,x.2.length < 4294967296) ∧ ((decide (v ≥ 6)) = true → aM = aa.U) ∧ ((decide (v ≥ 6)) = false → aM = [])) ∧ RS w (fun b o=>b = bv ∧ o < 11) F 197 aS [⟨bv,0,[.int .i16 v,.int .i32 aj.n,.int .i16 (IntKind.i16.wrap (T.at_ 1).N),.int .i32 (IntKind.i32.wrap (T.at_ 2).N),.pointer ak.A,.pointer ag,.string (bs (T.at_ 5).S),.bool ah.b,.string (bs (T.at_ 7).S),.slice none 0 0,.map none],true⟩,qbU ab 4 (.agg #[.string ByteArray.empty,.pointer none,.slice none 0 0,.map none]) ((lst (T.at_ 8)).length) (ac + 1),⟨ab,ac * 4,[.string (bs (aa.at_ 0).S),.pointer ao.A,.slice aR ((qaB (aa.at_ 2)).length) ((qaB (aa.at_ 2)).length),.map bK],true⟩] [(2,.v (.bool false)),(7,.p 0 0),(8,.v (.int .i16 v)),(9,.v (.bool (decide (v ≥ 6)))),(10,.p 1 0),(21,.v (.slice (some ⟨ab,0,none⟩) ((lst (T.at_ 8)).length) ae)),(22,.v (.int .i32 (((lst (T.at_ 8)).length:Nat):Int))),(23,.v (.int .i32 ((ac:Nat):Int)))] P' bu a_ w_) ?_ ?_
    ·
     refine wp_seq ?_
     refine qbn [(2,.v (.bool false)),(7,.p 0 0),(8,.v (.int .i16 v)),(9,.v (.bool (decide (v ≥ 6)))),(10,.p 1 0),(21,.v (.slice (some ⟨ab,0,none⟩) ((lst (T.at_ 8)).length) ae)),(22,.v (.int .i32 (((lst (T.at_ 8)).length:Nat):Int))),(23,.v (.int .i32 ((ac:Nat):Int))),(25,.p 3 0),(181,.v (.bool (decide (v ≥ 6))))] dN fun _ aH=>qaa ?_
     clear dN
     refine qau aH.env_ (b:=decide (v ≥ 6)) kz (fun aI=>?_) (fun aI=>?_)
     ·
      have dO:=aH.cast (t:=((uv aa.U.length) ++ (qbw aa.U)) ++ bu) (by rw [if_pos aI])
      clear aH
      refine qap [0,1,2,3,4] kz ?_
      refine qdZ [0] [1,2,3,4] [(2,.v (.bool false)),(7,.p 0 0),(8,.v (.int .i16 v)),(9,.v (.bool (decide (v ≥ 6)))),(10,.p 1 0),(21,.v (.slice (some ⟨ab,0,none⟩) ((lst (T.at_ 8)).length) ae)),(22,.v (.int .i32 (((lst (T.at_ 8)).length:Nat):Int))),(23,.v (.int .i32 ((ac:Nat):Int))),(182,.p 3 0)] dO fun _ dP=>?_
      clear dO
      refine qak (qg9 (d:=183) dP (qlL aa.U e223_U (qfW e223r) _) (fun _=>MvF.tags _ _) Tryz.call90 fun ev gE _ _ dQ dR=>?_)
      clear dP
      refine qdZ [2,3] [4] [(2,.v (.bool false)),(7,.p 0 0),(8,.v (.int .i16 v)),(9,.v (.bool (decide (v ≥ 6)))),(10,.p 1 0),(21,.v (.slice (some ⟨ab,0,none⟩) ((lst (T.at_ 8)).length) ae)),(22,.v (.int .i32 (((lst (T.at_ 8)).length:Nat):Int))),(23,.v (.int .i32 ((ac:Nat):Int))),(183,.v (.agg #[.map ev])),(185,.p 3 3)] dR fun _ dS=>?_
      clear dR
      refine qak (qeU [⟨bv,0,[.int .i16 v,.int .i32 aj.n,.int .i16 (IntKind.i16.wrap (T.at_ 1).N),.int .i32 (IntKind.i32.wrap (T.at_ 2).N),.pointer ak.A,.pointer ag,.string (bs (T.at_ 5).S),.bool ah.b,.string (bs (T.at_ 7).S),.slice none 0 0,.map none],true⟩,qbU ab 4 (.agg #[.string ByteArray.empty,.pointer none,.slice none 0 0,.map none]) ((lst (T.at_ 8)).length) (ac + 1),⟨ab,ac * 4,[.string (bs (aa.at_ 0).S),.pointer ao.A,.slice aR ((qaB (aa.at_ 2)).length) ((qaB (aa.at_ 2)).length),.map ev],true⟩] 2 dS fun _ dT=>?_)
      clear dS
      refine qad ?_
      have fL:=dT.pk (env':=[(2,.v (.bool false)),(7,.p 0 0),(8,.v (.int .i16 v)),(9,.v (.bool (decide (v ≥ 6)))),(10,.p 1 0),(21,.v (.slice (some ⟨ab,0,none⟩) ((lst (T.at_ 8)).length) ae)),(22,.v (.int .i32 (((lst (T.at_ 8)).length:Nat):Int))),(23,.v (.int .i32 ((ac:Nat):Int)))])
      clear dT
      refine qaa ?_
      exact ⟨ev,aa.U,_,fun w F h_=>⟨(dQ _ _ h_).1,⟨(dQ _ _ h_).2,e223_U.2.1,e223_U.2.2⟩,⟨fun _=>rfl,(fun e_=>by rw [aI] at e_; cases e_)⟩⟩,fL.pk (env':=[(2,.v (.bool false)),(7,.p 0 0),(8,.v (.int .i16 v)),(9,.v (.bool (decide (v ≥ 6)))),(10,.p 1 0),(21,.v (.slice (some ⟨ab,0,none⟩) ((lst (T.at_ 8)).length) ae)),(22,.v (.int .i32 (((lst (T.at_ 8)).length:Nat):Int))),(23,.v (.int .i32 ((ac:Nat):Int)))])⟩
     have dU:=aH.cast (t:=[] ++ bu) (by rw [if_neg (by rw [aI]; decide)])
     clear aH
     have fM:=dU.cast (t:=bu) rfl
     clear dU
     refine wp_skip (qaa ?_)
     exact ⟨none,[],_,fun w F h_=>⟨h_,⟨MapR.nil _ _,Nat.zero_le _,fun _ h=>by cases h⟩,⟨(fun e_=>by rw [aI] at e_; cases e_),fun _=>rfl⟩⟩,fM.pk (env':=[(2,.v (.bool false)),(7,.p 0 0),(8,.v (.int .i16 v)),(9,.v (.bool (decide (v ≥ 6)))),(10,.p 1 0),(21,.v (.slice (some ⟨ab,0,none⟩) ((lst (T.at_ 8)).length) ae)),(22,.v (.int .i32 (((lst (T.at_ 8)).length:Nat):Int))),(23,.v (.int .i32 ((ac:Nat):Int)))])⟩
    rintro _ _ ⟨bK,aM,gF,am,dV⟩
    refine qaz ?_
    refine qaa ?_
    refine qbn [(2,.v (.bool false)),(7,.p 0 0),(8,.v (.int .i16 v)),(9,.v (.bool (decide (v ≥ 6)))),(10,.p 1 0),(21,.v (.slice (some ⟨ab,0,none⟩) ((lst (T.at_ 8)).length) ae)),(22,.v (.int .i32 (((lst (T.at_ 8)).length:Nat):Int))),(23,.v (.int .i32 (IntKind.i32.wrap (((ac:Nat):Int) + 1))))] dV fun _ dW=>?_
    clear dV
    refine qaa ?_
    have fN:=(dW.envEq (env':=[(2,.v (.bool false)),(7,.p 0 0),(8,.v (.int .i16 v)),(9,.v (.bool (decide (v ≥ 6)))),(10,.p 1 0),(21,.v (.slice (some ⟨ab,0,none⟩) ((lst (T.at_ 8)).length) ae)),(22,.v (.int .i32 (((lst (T.at_ 8)).length:Nat):Int))),(23,.v (.int .i32 ((ac + 1:Nat):Int)))]) (by rw [qka (by have:=e32_8; omega)])).pk (env':=[(2,.v (.bool false)),(7,.p 0 0),(8,.v (.int .i16 v)),(9,.v (.bool (decide (v ≥ 6)))),(10,.p 1 0),(21,.v (.slice (some ⟨ab,0,none⟩) ((lst (T.at_ 8)).length) ae)),(22,.v (.int .i32 (((lst (T.at_ 8)).length:Nat):Int))),(23,.v (.int .i32 ((ac + 1:Nat):Int)))])
    clear dW
    exact (RS.thing (tb:=[⟨bv,0,[.int .i16 v,.int .i32 aj.n,.int .i16 (IntKind.i16.wrap (T.at_ 1).N),.int .i32 (IntKind.i32.wrap (T.at_ 2).N),.pointer ak.A,.pointer ag,.string (bs (T.at_ 5).S),.bool ah.b,.string (bs (T.at_ 7).S),.slice none 0 0,.map none],true⟩]) (z:=.agg #[.string ByteArray.empty,.pointer none,.slice none 0 0,.map none]) (D:=(dvP bK aM [dvS (bs (aa.at_ 0).S),ao,dvO aR (qaB (aa.at_ 2)) (qaB (aa.at_ 2)).length])) (fN.cast dc) hg_g204 bt qbb bq rfl (fun w F h_=>⟨(da _ _ (aP _ _ (aG _ _ (am _ _ h_).1).1).1).1,(da _ _ (aP _ _ (aG _ _ (am _ _ h_).1).1).1).2,⟨(by show ByteArray.size (bs _) ≤ 1000000; rw [qck]; exact Nat.le_trans e223_0 (by decide)),((aP _ _ (aG _ _ (am _ _ h_).1).1).2.1),(⟨(aG _ _ (am _ _ h_).1).2,Nat.le_trans e223_2 (by decide)⟩),(am _ _ h_).2.1.1,(am _ _ h_).2.1.2.1,(am _ _ h_).2.1.2.2,trivial⟩,⟨(rfl),((aP _ _ (aG _ _ (am _ _ h_).1).1).2.2),(rfl),(am _ _ h_).2.2,trivial⟩⟩) kz)
   refine wp_seq ?_
   refine wp_seq ?_
   refine qbn [(2,.v (.bool false)),(7,.p 0 0),(8,.v (.int .i16 v)),(9,.v (.bool (decide (v ≥ 6)))),(10,.p 1 0),(21,.v (.slice (some ⟨ab,0,none⟩) ((lst (T.at_ 8)).length) ae)),(22,.v (.int .i32 (((lst (T.at_ 8)).length:Nat):Int))),(23,.v (.int .i32 (((lst (T.at_ 8)).length:Nat):Int))),(141,.v (.bool (decide ((((lst (T.at_ 8)).length:Nat):Int) < (((lst (T.at_ 8)).length:Nat):Int)))))] cZ fun _ dX=>qaa ?_
   clear cZ
   refine qaq dX.env_ (b:=decide ((((lst (T.at_ 8)).length:Nat):Int) < (((lst (T.at_ 8)).length:Nat):Int))) kz (decide_eq_false (by omega)) ?_
   refine wp_exit ?_
   refine qay ?_
   refine qay ?_
   refine qaM ?_
   refine qaa ?_
   obtain ⟨gd,fO⟩:=RS.listEnd (tb:=[⟨bv,0,[.int .i16 v,.int .i32 aj.n,.int .i16 (IntKind.i16.wrap (T.at_ 1).N),.int .i32 (IntKind.i32.wrap (T.at_ 2).N),.pointer ak.A,.pointer ag,.string (bs (T.at_ 5).S),.bool ah.b,.string (bs (T.at_ 7).S),.slice none 0 0,.map none],true⟩]) (c:=ae) (dX.pk (env':=[(7,.p 0 0),(9,.v (.bool (decide (v ≥ 6)))),(10,.p 1 0),(21,.v (.slice (some ⟨ab,0,none⟩) ((lst (T.at_ 8)).length) ae))])) hg_g204 qbb bq hcap_g204 (by have:=e32_8; omega) hn_g204 kz
   exact ⟨dvL (some ⟨ab,0,none⟩) (lst (T.at_ 8)).length ae gd,_,fun w F h_=>⟨h_.1,⟨h_.2.1,Nat.le_trans e32_8 (by decide),h_.2.2.1⟩,⟨rfl,h_.2.2.2⟩⟩,fO⟩
  refine wp_skip ?_
  refine qaa ?_
  refine wp_seq ?_
  refine qbn [(2,.v (.bool false)),(7,.p 0 0),(8,.v (.int .i16 v)),(9,.v (.bool (decide (v ≥ 6)))),(10,.p 1 0),(21,.v (.slice none 0 0)),(22,.v (.int .i32 (((lst (T.at_ 8)).length:Nat):Int))),(23,.v (.int .i32 0))] aB fun _ dY=>?_
  clear aB
  refine qaa ?_
  refine wp_block ?_
  refine qj8 ?_
  refine wp_seq ?_
  refine wp_seq ?_
  refine qbn [(2,.v (.bool false)),(7,.p 0 0),(8,.v (.int .i16 v)),(9,.v (.bool (decide (v ≥ 6)))),(10,.p 1 0),(21,.v (.slice none 0 0)),(22,.v (.int .i32 (((lst (T.at_ 8)).length:Nat):Int))),(23,.v (.int .i32 0)),(141,.v (.bool (decide (0 < (((lst (T.at_ 8)).length:Nat):Int)))))] dY fun _ dZ=>qaa ?_
  clear dY
  refine qaq dZ.env_ (b:=decide (0 < (((lst (T.at_ 8)).length:Nat):Int))) kz (decide_eq_false (by have h_:=of_decide_eq_false aO; omega)) ?_
  refine wp_exit ?_
  refine qay ?_
  refine qay ?_
  refine qaM ?_
  refine qaa ?_
  have hz_:(lst (T.at_ 8)).length = 0:=by have h_:=of_decide_eq_false aO; omega
  exact ⟨dvL none 0 0 (fun _=>dv0),_,fun w F h_=>⟨h_,⟨Slots.nil _ _ _ _,Nat.zero_le _,fun _ h=>absurd h (Nat.not_lt_zero _)⟩,⟨hz_.symm,fun _ h=>absurd h (Nat.not_lt_zero _)⟩⟩,(dZ.cast (t:=bM) (by rw [List.eq_nil_of_length_eq_zero hz_]; rfl)).pk (env':=[(7,.p 0 0),(9,.v (.bool (decide (v ≥ 6)))),(10,.p 1 0),(21,.v (.slice none 0 0))])⟩
 rintro _ _ ⟨af,ge,al,d5⟩
 refine wp_seq ?_
 refine qbn [(7,.p 0 0),(9,.v (.bool (decide (v ≥ 6)))),(10,.p 1 0),(20,.v (.slice af.A af.l af.c))] d5 fun _ d6=>?_
 clear d5
 refine qaa ?_
 refine qc4 [⟨bv,0,[.int .i16 v,.int .i32 aj.n,.int .i16 (IntKind.i16.wrap (T.at_ 1).N),.int .i32 (IntKind.i32.wrap (T.at_ 2).N),.pointer ak.A,.pointer ag,.string (bs (T.at_ 5).S),.bool ah.b,.string (bs (T.at_ 7).S),.slice af.A af.l af.c,.map none],true⟩] 0 [(7,.p 0 0),(9,.v (.bool (decide (v ≥ 6)))),(10,.p 1 0)] d6 fun _ _ d7=>?_
 clear d6
 refine qaa ?_
 refine wp_seq ?_
 have d8:=d7.cast eB
 clear d7
 refine qcl (Mid:=fun a_ w_=>∃ (bL:Option Nat) (aN:List (Int × Bs)) (P':qbT),(∀ w F,P' w F → ge w F ∧ (MapR w F bL aN ∧ aN.length ≤ 1000000 ∧ ∀ x ∈ aN,x.2.length < 4294967296) ∧ ((decide (v ≥ 6)) = true → aN = T.U) ∧ ((decide (v ≥ 6)) = false → aN = [])) ∧ RS w (fun b o=>b = bv ∧ o < 11) F 197 aS [⟨bv,0,[.int .i16 v,.int .i32 aj.n,.int .i16 (IntKind.i16.wrap (T.at_ 1).N),.int .i32 (IntKind.i32.wrap (T.at_ 2).N),.pointer ak.A,.pointer ag,.string (bs (T.at_ 5).S),.bool ah.b,.string (bs (T.at_ 7).S),.slice af.A af.l af.c,.map bL],true⟩] [(7,.p 0 0)] P' ([]:Bs) a_ w_) ?_ ?_
 ·
  refine wp_seq ?_
  refine qbn [(7,.p 0 0),(10,.p 1 0),(191,.v (.bool (decide (v ≥ 6))))] d8 fun _ aJ=>qaa ?_
  clear d8
  refine qau aJ.env_ (b:=decide (v ≥ 6)) kz (fun aK=>?_) (fun aK=>?_)
  ·
   have d9:=aJ.cast (t:=((uv T.U.length) ++ (qbw T.U)) ++ ([]:Bs)) (by rw [if_pos aK])
   clear aJ
   refine qap [0,1,2,3,4] kz ?_
   refine qdZ [0] [1,2,3,4] [(7,.p 0 0),(192,.p 1 0)] d9 fun _ ea=>?_
   clear d9
   refine qak (qg9 (d:=193) ea (qlL T.U e32_U (qfW e32r) _) (fun _=>MvF.tags _ _) Tryz.call90 fun ew gG _ _ eb ec=>?_)
   clear ea
   refine qdZ [2,3] [4] [(7,.p 0 0),(193,.v (.agg #[.map ew])),(195,.p 1 10)] ec fun _ ee=>?_
   clear ec
   refine qak (qeU [⟨bv,0,[.int .i16 v,.int .i32 aj.n,.int .i16 (IntKind.i16.wrap (T.at_ 1).N),.int .i32 (IntKind.i32.wrap (T.at_ 2).N),.pointer ak.A,.pointer ag,.string (bs (T.at_ 5).S),.bool ah.b,.string (bs (T.at_ 7).S),.slice af.A af.l af.c,.map ew],true⟩] 0 ee fun _ ef=>?_)
   clear ee
   refine qad ?_
   have fP:=ef.pk (env':=[(7,.p 0 0)])
   clear ef
   refine qaa ?_
   exact ⟨ew,T.U,_,fun w F h_=>⟨(eb _ _ h_).1,⟨(eb _ _ h_).2,e32_U.2.1,e32_U.2.2⟩,⟨fun _=>rfl,(fun e_=>by rw [aK] at e_; cases e_)⟩⟩,fP.pk (env':=[(7,.p 0 0)])⟩
  have eg:=aJ.cast (t:=[] ++ ([]:Bs)) (by rw [if_neg (by rw [aK]; decide)])
  clear aJ
  have fQ:=eg.cast (t:=([]:Bs)) rfl
  clear eg
  refine wp_skip (qaa ?_)
  exact ⟨none,[],_,fun w F h_=>⟨h_,⟨MapR.nil _ _,Nat.zero_le _,fun _ h=>by cases h⟩,⟨(fun e_=>by rw [aK] at e_; cases e_),fun _=>rfl⟩⟩,fQ.pk (env':=[(7,.p 0 0)])⟩
 rintro _ _ ⟨bL,aN,gH,ai,eh⟩
 refine qaa ?_
 refine wp_seq ?_
 refine qap [0,1] kz (qak (qha (d:=196) eh qjt Tryz.call74 fun _ ei=>?_))
 clear eh
 refine qdZ [1] [] [(6,.v (.nilIface))] ei fun _ ej=>qad ?_
 clear ei
 refine qaa ?_
 refine wp_ret ?_
 obtain ⟨A_,m_,c_,hW_,hr_,hE_,hP_⟩:=ej.open_
 refine qaG hE_ hW_.cells (v:=.nilIface) kz ?_
 have h_:=ej.mv.mono qcx hP_
 refine ⟨(dvP bL aN [aj,dvN (IntKind.i16.wrap (T.at_ 1).N),dvN (IntKind.i32.wrap (T.at_ 2).N),ak,dvT ag (bs (qaB (T.at_ 4))),dvS (bs (T.at_ 5).S),ah,dvS (bs (T.at_ 7).S),af]),rfl,Str.of hW_ 1 rfl,?_,?_,hW_.step⟩
 ·unfold qba
  exact ⟨((eX _ _ (bF _ _ (au _ _ (ap _ _ (al _ _ (ai _ _ h_).1).1).1).1).1).2.1),(trivial),(trivial),((bF _ _ (au _ _ (ap _ _ (al _ _ (ai _ _ h_).1).1).1).1).2.1),(⟨(au _ _ (ap _ _ (al _ _ (ai _ _ h_).1).1).1).2.1,by show ByteArray.size (bs _) ≤ 1000000; rw [qck]; exact Nat.le_trans e32_4 (by decide)⟩),(by show ByteArray.size (bs _) ≤ 1000000; rw [qck]; exact Nat.le_trans e32_5 (by decide)),((ap _ _ (al _ _ (ai _ _ h_).1).1).2.1),(by show ByteArray.size (bs _) ≤ 1000000; rw [qck]; exact Nat.le_trans e32_7 (by decide)),((al _ _ (ai _ _ h_).1).2.1),(ai _ _ h_).2.1.1,(ai _ _ h_).2.1.2.1,(ai _ _ h_).2.1.2.2,trivial⟩
 unfold qbK
 exact ⟨((eX _ _ (bF _ _ (au _ _ (ap _ _ (al _ _ (ai _ _ h_).1).1).1).1).1).2.2),(rfl),(rfl),((bF _ _ (au _ _ (ap _ _ (al _ _ (ai _ _ h_).1).1).1).1).2.2),(⟨rfl,(au _ _ (ap _ _ (al _ _ (ai _ _ h_).1).1).1).2.2⟩),(rfl),((ap _ _ (al _ _ (ai _ _ h_).1).1).2.2),(rfl),((al _ _ (ai _ _ h_).1).2.2),(ai _ _ h_).2.2,trivial⟩
theorem qb7:qg6 qba:=by
 intro w w' F F' M d hs hM hF h
 unfold qba at h ⊢
 obtain ⟨g0,g1,g2,⟨g3,g3l⟩,⟨g4,g4l⟩,g5,g6,g7,⟨g8,g8l,g8e⟩,t1,t2,t3,_⟩:=h
 exact ⟨g0,g1,g2,⟨fun ad hA=>by
  obtain ⟨b,o,h1,h2⟩:=g3 ad hA
  exact ⟨b,o,h1,h2.move hs hM hF⟩,g3l⟩,⟨fun ad hA=>by
  obtain ⟨b,o,h1,h2⟩:=g4 ad hA
  exact ⟨b,o,h1,h2.move hs hM hF⟩,g4l⟩,g5,g6,g7,⟨g8.move hs hM hF,g8l,fun i hi=>qbb _ hs hM hF (g8e i hi)⟩,t1.move hs hM hF,t2,t3,trivial⟩
theorem qcM (v:Int) (D:DV) (T:Tree) (h:qaU v D T):(if (decide (v ≥ 6)) = true then (uv ((D.f 0).s.size + 1) ++ sb (D.f 0).s) else (be 2 (D.f 0).s.size ++ sb (D.f 0).s)) ++ ((if (decide (v ≥ 5)) = true then if (decide (v ≥ 6)) = true then (if (D.f 1).A.isNone = true then uv 0 else uv ((D.f 1).s.size + 1) ++ sb (D.f 1).s) else (if (D.f 1).A.isNone = true then be 2 (-1) else be 2 (D.f 1).s.size ++ sb (D.f 1).s) else []) ++ ((if (decide (v ≥ 6)) = true then (uv ((D.f 2).o.length + 1) ++ (D.f 2).o) else (be 4 (D.f 2).o.length ++ (D.f 2).o)) ++ (if (decide (v ≥ 6)) = true then (uv D.u.length) ++ (qbw D.u) else []))) = qaA v T:=by
 unfold qaU at h
 obtain ⟨r0_,r1_,r2_,rU_,_⟩:=h
 unfold qaA
 exact qeq (by simp only [r0_,qg3,qck]) (qeq (if_c (fun hc_=>by simp only [(r1_.1 hc_).1,(r1_.1 hc_).2,qg3,qck])) (qeq (by simp only [r2_]) ((if_c (fun hc_=>by rw [(rU_.1 hc_)])))))
theorem qd2 (v:Int) (D:DV) (T:Tree) (h:qbK v D T):qaX v D = qai v T:=by
 unfold qbK at h
 obtain ⟨r0_,r1_,r2_,r3_,r4_,r5_,r6_,r7_,r8_,rU_,_⟩:=h
 rw [qcE]
 unfold qaX qb0
 exact qeq (if_c (fun hc_=>by rw [(r0_.1 hc_)])) (qeq (by rw [r1_]) (qeq (by rw [r2_]) (qeq (if_c (fun hc_=>by simp only [(r3_.1 hc_).1,(r3_.1 hc_).2,qg3,qck])) (qeq (by
  have h_:=r4_
  by_cases c_:v < 7
  ·have d1:decide (v < 7) = true:=decide_eq_true c_
   simp only [d1,if_true,qjd (h_.2.2 (decide_eq_false (by omega))),h_.1,qg3,qck]
  have d1:decide (v < 7) = false:=decide_eq_false c_
  simp only [d1,Bool.false_eq_true,if_false,h_.2.1 (decide_eq_true (by omega)),h_.1,qg3,qck]) (qeq (by simp only [r5_,qg3,qck]) (qeq (if_c (fun hc_=>by rw [(r6_.1 hc_)])) (qeq (by simp only [r7_,qg3,qck]) (qeq (qeq (by simp only [r8_.1]) (qj5 r8_.1 (fun i hi=>qcM v _ _ (r8_.2 i hi)))) (qeq (if_c (fun hc_=>by rw [(rU_.1 hc_)])) (rfl))))))))))
theorem qd3 (v:Int) (T:Tree) (dst:Bs) {A1 A2:Option Addr} {c1 c2:Nat} {w:World} {F:Nat → Nat → Prop} (hd:Octs w F A1 c1 dst) (hs_:Octs w F A2 c2 (qai (IntKind.i16.wrap v) T)) (hc:qa1 T) (hkey:T.ranged) (hroom:dst.length + (qai (IntKind.i16.wrap v) T).length + 16 ≤ 1099511627776) :
  Calls Tryz.prog 14 #[.int .i64 v,.slice A1 dst.length c1,.slice A2 (qai (IntKind.i16.wrap v) T).length c2] w (fun e w'=>∃ A c,e = .returned (.tuple #[.slice A (dst ++ (qai (IntKind.i16.wrap v) T)).length c,.bool true]) ∧ w'.ownsRow w.heap.size 5 1 (.slice A (dst ++ (qai (IntKind.i16.wrap v) T)).length c) (dst ++ (qai (IntKind.i16.wrap v) T)).length (bc (dst ++ (qai (IntKind.i16.wrap v) T))) ∧ Step w w' Nil):=by
 refine enter (n:=23) Tryz.func14 rfl Tryz.ntmps14 kz fun a hE=>?_
 have hW:=WOk.start w Nil
 have hsm1:=Slots.small hd
 have hsm2:=Slots.small hs_
 refine qar [(0,.v (.int .i64 v)),(1,.v (.slice A1 dst.length c1)),(2,.v (.slice A2 ((qai (IntKind.i16.wrap v) T).length) c2))] hW hE fun a1 hE2=>?_
 refine qac [0,1] kz ?_
 refine qak (qbI hE2 (f:=24) (vs:=[]) (d:=9) (n':=3) kz Tryz.call24 Tryz.func24 rfl Tryz.ntmps24 kz fun a3 hE4=>?_)
 refine qar [] hW hE4 fun a5 hE6=>?_
 refine qac [0] kz ?_
 refine qak (qaY hW hE6 (d:=1) (cs:=[.int .i16 0,.int .i32 0,.int .i16 0,.int .i32 0,.pointer none,.pointer none,.string ByteArray.empty,.bool false,.string ByteArray.empty,.slice none 0 0,.map none]) kz fun b7 a8 w9 bN bO bP aA aO=>?_)
 refine qad (qaa ?_)
 refine qac [0] kz ?_
 refine qak (qbI aO (f:=58) (vs:=[.pointer (some ⟨b7,0,none⟩)]) (d:=2) (n':=5) kz Tryz.call58 Tryz.func58 rfl Tryz.ntmps58 kz fun ce aP=>?_)
 have aQ:=aP.recast 0 (.v (.pointer (some ⟨b7,0,none⟩))) (.p 0 0) rfl rfl (Nat.le_of_ble_eq_true (n:=1) rfl)
 refine qap [0,1,2,3] kz ?_
 refine qaj [0,1,2] [3] [(4,.p 0 3)] aA aQ fun cg aR=>?_
 refine qak (qaH aA aR (oi:=0) (cs:=[.int .i16 0,.int .i32 0,.int .i16 0,.int .i32 (-1),.pointer none,.pointer none,.string ByteArray.empty,.bool false,.string ByteArray.empty,.slice none 0 0,.map none]) kz fun cm bQ af aS=>?_)
 refine qad ?_
 refine qcn aS af.cells (v:=.tuple #[]) kz ?_
 refine ⟨_,rfl,fun cq aT=>?_⟩
 have aU:EnvOk 3 [⟨b7,0,[.int .i16 0,.int .i32 0,.int .i16 0,.int .i32 (-1),.pointer none,.pointer none,.string ByteArray.empty,.bool false,.string ByteArray.empty,.slice none 0 0,.map none],true⟩] [(2,.v (.tuple #[])),(1,.p 0 0)] _:=aT.places (⟨rfl,rfl,trivial⟩)
 refine qad (qaa ?_)
 refine qar [(0,.p 0 0)] af aU fun cr aV=>?_
 refine wp_ret ?_
 refine qaG aV af.cells (v:=.pointer (some ⟨b7,0,none⟩)) kz ?_
 refine ⟨_,rfl,fun cu aW=>?_⟩
 have aX:EnvOk 23 [⟨b7,0,[.int .i16 0,.int .i32 0,.int .i16 0,.int .i32 (-1),.pointer none,.pointer none,.string ByteArray.empty,.bool false,.string ByteArray.empty,.slice none 0 0,.map none],true⟩] [(9,.v (.pointer (some ⟨b7,0,none⟩))),(0,.v (.int .i64 v)),(1,.v (.slice A1 dst.length c1)),(2,.v (.slice A2 ((qai (IntKind.i16.wrap v) T).length) c2))] _:=aW.places (trivial)
 have aY:=aX.recast 9 (.v (.pointer (some ⟨b7,0,none⟩))) (.p 0 0) rfl rfl (Nat.le_of_ble_eq_true (n:=1) rfl)
 have aZ:=aY.pick (ks:=[0,1,2,9]) (env':=[(0,.v (.int .i64 v)),(1,.v (.slice A1 dst.length c1)),(2,.v (.slice A2 ((qai (IntKind.i16.wrap v) T).length) c2)),(9,.p 0 0)]) kz
 refine qaj [1] [] [(0,.v (.int .i64 v)),(1,.v (.slice A1 dst.length c1)),(2,.v (.slice A2 ((qai (IntKind.i16.wrap v) T).length) c2)),(8,.p 0 0)] af aZ fun cv ba=>?_
 refine qad (qaa ?_)
 refine qac [0,1,2,3] kz ?_
 refine qaj [0,1,2] [3] [(1,.v (.slice A1 dst.length c1)),(2,.v (.slice A2 ((qai (IntKind.i16.wrap v) T).length) c2)),(8,.p 0 0),(10,.p 0 0),(12,.v (.int .i16 (IntKind.i16.wrap v)))] af ba fun cw bd=>?_
 refine qak (qbI bd (f:=27) (vs:=[.pointer (some ⟨b7,0,none⟩),.int .i16 (IntKind.i16.wrap v)]) (d:=13) (n':=8) kz Tryz.call27 Tryz.func27 rfl Tryz.ntmps27 kz fun cy bf=>?_)
 have bg:=bf.recast 0 (.v (.pointer (some ⟨b7,0,none⟩))) (.p 0 0) rfl rfl (Nat.le_of_ble_eq_true (n:=1) rfl)
 refine qap [0,1,2,3,4] kz ?_
 refine qaj [0,1,2,3] [4] [(5,.v (.int .i16 (IntKind.i16.wrap v))),(7,.p 0 0)] af bg fun cz bh=>?_
 refine qak (qaH af bh (oi:=0) (cs:=[.int .i16 (IntKind.i16.wrap v),.int .i32 0,.int .i16 0,.int .i32 (-1),.pointer none,.pointer none,.string ByteArray.empty,.bool false,.string ByteArray.empty,.slice none 0 0,.map none]) kz fun cA bR ap bi=>?_)
 refine qad ?_
 refine qcn bi ap.cells (v:=.tuple #[]) kz ?_
 refine ⟨_,rfl,fun cB bj=>?_⟩
 have bk:EnvOk 23 [⟨b7,0,[.int .i16 (IntKind.i16.wrap v),.int .i32 0,.int .i16 0,.int .i32 (-1),.pointer none,.pointer none,.string ByteArray.empty,.bool false,.string ByteArray.empty,.slice none 0 0,.map none],true⟩] [(13,.v (.tuple #[])),(1,.v (.slice A1 dst.length c1)),(2,.v (.slice A2 ((qai (IntKind.i16.wrap v) T).length) c2)),(8,.p 0 0),(10,.p 0 0),(12,.v (.int .i16 (IntKind.i16.wrap v)))] _:=bj.places (⟨rfl,rfl,trivial⟩)
 refine qad (qaa ?_)
 refine wp_seq ?_
 refine qac [0,1,2,3,4] kz ?_
 refine qaj [0,1] [2,3,4] [(1,.v (.slice A1 dst.length c1)),(8,.p 0 0),(14,.p 0 0),(15,.v (.slice A2 ((qai (IntKind.i16.wrap v) T).length) c2))] ap bk fun cC bn=>?_
 have aj:=ap.addNil 5 1
 have bS:=ap.frNil 5 1
 refine qak (qaP aj bn (k:=0) (d:=16) (t:=22) (e:=5) (size:=1) (bytes:=1) (A:=none) (As:=A2) (m0:=0) (c:=0) (m:=((qai (IntKind.i16.wrap v) T).length)) (cs:=c2) (xs:=[]) (news:=bc (qai (IntKind.i16.wrap v) T)) kz kz rfl (hs_.move aj.step nilM aj.imm).src (hs_.move aj.step nilM aj.imm).cap (by first | omega | (simp only [List.length_nil]; omega) | (simp; omega)) fun ah ai cD cE bT bo bp=>?_)
 have bq:(⟨ah,ai,5,1,0 + (qai (IntKind.i16.wrap v) T).length,[] ++ bc (qai (IntKind.i16.wrap v) T)⟩:Rw) = brow ah ai 5 (qai (IntKind.i16.wrap v) T):=by rw [List.nil_append,Nat.zero_add]
 obtain ⟨ar,bU⟩:=bo.rowEq 0 [brow ah ai 5 (qai (IntKind.i16.wrap v) T)] bq
 have bt:=EnvOk.pick bp (ks:=[1,8,14,15,16]) (env':=[(1,.v (.slice A1 dst.length c1)),(8,.p 0 0),(14,.p 0 0),(15,.v (.slice A2 ((qai (IntKind.i16.wrap v) T).length) c2)),(16,.v (.slice ah (0 + (qai (IntKind.i16.wrap v) T).length) ai))]) kz
 have bu:=bt.cast (env':=[(1,.v (.slice A1 dst.length c1)),(8,.p 0 0),(14,.p 0 0),(15,.v (.slice A2 ((qai (IntKind.i16.wrap v) T).length) c2)),(16,.v (.slice ah ((qai (IntKind.i16.wrap v) T).length) ai))]) (by simp only [List.length_append,List.length_cons,List.length_nil,Nat.zero_add])
 refine qak (qbI bu (f:=28) (vs:=[.pointer (some ⟨b7,0,none⟩),.slice ah ((qai (IntKind.i16.wrap v) T).length) ai]) (d:=17) (n':=8) kz Tryz.call28 Tryz.func28 rfl Tryz.ntmps28 kz fun cG bw=>?_)
 have bx:=bw.recast 0 (.v (.pointer (some ⟨b7,0,none⟩))) (.p 0 0) rfl rfl (Nat.le_of_ble_eq_true (n:=1) rfl)
 refine qar [(0,.p 0 0),(1,.v (.slice ah ((qai (IntKind.i16.wrap v) T).length) ai))] ar bx fun cH bz=>?_
 refine qac [0,1,2,3] kz ?_
 refine qaj [0,1] [2,3] [(5,.p 0 0),(6,.v (.slice ah ((qai (IntKind.i16.wrap v) T).length) ai))] ar bz fun cI bA=>?_
 have bB:=ar.giveUp (G:=F) 0 [] (show _ = some (brow ah ai 5 (qai (IntKind.i16.wrap v) T)) from rfl) (by omega)
 obtain ⟨aB,bV⟩:=ar.cutR 0 []
 refine qak (qal bA (f:=59) (vs:=[.pointer (some ⟨b7,0,none⟩),.slice ah ((qai (IntKind.i16.wrap v) T).length) ai,.bool false]) (d:=7) kz Tryz.call59 (qd1 (IntKind.i16.wrap v) T (Str.of aB 0 rfl) bB (qlT 0 rfl) hc hkey) ?_)
 rintro e_ cJ ⟨aa,rfl,bC,bD,ay,aC⟩
 replace ay:=qd2 _ _ _ ay
 obtain ⟨ag,bW,bE⟩:=aB.wrote 0 [⟨b7,0,[.int .i16 (IntKind.i16.wrap v),.int .i32 ((aa.f 0).n),.int .i16 ((aa.f 1).n),.int .i32 ((aa.f 2).n),.pointer ((aa.f 3).A),.pointer ((aa.f 4).A),.string ((aa.f 5).s),.bool ((aa.f 6).b),.string ((aa.f 7).s),.slice ((aa.f 8).A) ((aa.f 8).l) ((aa.f 8).c),.map aa.m],true⟩] rfl aC bC
 have bF:=qb7 _ (Step.refl _ Nil) nilM bE bD
 refine ⟨_,rfl,fun cK bG=>?_⟩
 have bH:EnvOk 8 [⟨b7,0,[.int .i16 (IntKind.i16.wrap v),.int .i32 ((aa.f 0).n),.int .i16 ((aa.f 1).n),.int .i32 ((aa.f 2).n),.pointer ((aa.f 3).A),.pointer ((aa.f 4).A),.string ((aa.f 5).s),.bool ((aa.f 6).b),.string ((aa.f 7).s),.slice ((aa.f 8).A) ((aa.f 8).l) ((aa.f 8).c),.map aa.m],true⟩] [(7,.v (.nilIface)),(5,.p 0 0),(6,.v (.slice ah ((qai (IntKind.i16.wrap v) T).length) ai))] _:=bG.places (⟨rfl,rfl,trivial⟩)
 refine qaj [3] [] [(4,.v (.nilIface))] ag bH fun cL bI=>?_
 refine qad (qaa ?_)
 refine wp_ret ?_
 refine qaG bI ag.cells (v:=.nilIface) kz ?_
 refine ⟨_,rfl,fun cM bJ=>?_⟩
 have bK:EnvOk 23 [⟨b7,0,[.int .i16 (IntKind.i16.wrap v),.int .i32 ((aa.f 0).n),.int .i16 ((aa.f 1).n),.int .i32 ((aa.f 2).n),.pointer ((aa.f 3).A),.pointer ((aa.f 4).A),.string ((aa.f 5).s),.bool ((aa.f 6).b),.string ((aa.f 7).s),.slice ((aa.f 8).A) ((aa.f 8).l) ((aa.f 8).c),.map aa.m],true⟩] [(17,.v (.nilIface)),(1,.v (.slice A1 dst.length c1)),(8,.p 0 0),(14,.p 0 0),(15,.v (.slice A2 ((qai (IntKind.i16.wrap v) T).length) c2)),(16,.v (.slice ah ((qai (IntKind.i16.wrap v) T).length) ai))] _:=bJ.places (⟨rfl,rfl,trivial⟩)
 refine qaj [4] [] [(1,.v (.slice A1 dst.length c1)),(8,.p 0 0),(18,.v (.bool false))] ag bK fun cN aD=>?_
 refine qad (qaa ?_)
 refine qaq aD (b:=false) kz rfl ?_
 refine wp_skip ?_
 refine qaa ?_
 refine qac [0,1,2,3,4,5] kz ?_
 refine qaj [0,1] [2,3,4,5] [(19,.p 0 0),(20,.v (.slice A1 dst.length c1))] ag aD fun cO bL=>?_
 have ak:=ag.addNil 5 1
 have aE:=ag.frNil 5 1
 refine qak (qaP ak bL (k:=0) (d:=21) (t:=22) (e:=5) (size:=1) (bytes:=1) (A:=none) (As:=A1) (m0:=0) (c:=0) (m:=dst.length) (cs:=c1) (xs:=[]) (news:=bc dst) kz kz rfl (hd.move ak.step nilM ak.imm).src (hd.move ak.step nilM ak.imm).cap (by first | omega | (simp only [List.length_nil]; omega) | (simp; omega)) fun ab ac bX bY au aF aG=>?_)
 have aH:(⟨ab,ac,5,1,0 + dst.length,[] ++ bc dst⟩:Rw) = brow ab ac 5 dst:=by rw [List.nil_append,Nat.zero_add]
 obtain ⟨al,av⟩:=aF.rowEq 0 [brow ab ac 5 dst] aH
 have aI:=EnvOk.pick aG (ks:=[19,20,21]) (env':=[(19,.p 0 0),(20,.v (.slice A1 dst.length c1)),(21,.v (.slice ab (0 + dst.length) ac))]) kz
 have aJ:=aI.cast (env':=[(19,.p 0 0),(20,.v (.slice A1 dst.length c1)),(21,.v (.slice ab dst.length ac))]) (by simp only [List.length_append,List.length_cons,List.length_nil,Nat.zero_add])
 have aK:=(qb7 _ ((aE.trans au).trans av).step immM ((aE.trans au).trans av).to' bF)
 have az:=al.strImm (G:=F) 0 rfl
 have hk_:=qb7 _ (Step.refl _ Nil) nilM (fun b o h_ _=>qk3 h_) aK
 rw [← ay] at hroom ⊢
 refine qak (qal aJ (f:=29) (vs:=[.pointer (some ⟨b7,0,none⟩),.slice ab dst.length ac]) (d:=22) kz Tryz.call29 (qeo (IntKind.i16.wrap v) aa b7 0 ab ac dst _ _ az hk_ (qkX 0 rfl) (al.own 0 _ rfl) (by omega)) ?_)
 rintro e_ bZ ⟨am,ao,rfl,aL,aw,ax⟩
 refine ⟨_,rfl,fun b8 aM=>?_⟩
 have ae:WOk _ _ _ _ [brow am ao 5 (dst ++ qaX (IntKind.i16.wrap v) aa)]:=al.grow (k:=0) rfl aw aL ax
 have bM:=Fr.grow [⟨b7,0,[.int .i16 (IntKind.i16.wrap v),.int .i32 ((aa.f 0).n),.int .i16 ((aa.f 1).n),.int .i32 ((aa.f 2).n),.pointer ((aa.f 3).A),.pointer ((aa.f 4).A),.string ((aa.f 5).s),.bool ((aa.f 6).b),.string ((aa.f 7).s),.slice ((aa.f 8).A) ((aa.f 8).l) ((aa.f 8).c),.map aa.m],true⟩] (k:=0) (rs:=[brow ab ac 5 dst]) (r':=(brow am ao 5 (dst ++ qaX (IntKind.i16.wrap v) aa))) rfl aw ax
 refine qaj [4,5] [] [(6,.v (.slice am ((dst ++ qaX (IntKind.i16.wrap v) aa).length) ao)),(7,.v (.bool true))] ae aM fun cd aN=>?_
 refine qad (qaa ?_)
 refine wp_ret ?_
 refine qaG aN ae.cells (v:=.tuple #[.slice am ((dst ++ qaX (IntKind.i16.wrap v) aa).length) ao,.bool true]) kz ?_
 exact ⟨am,ao,rfl,qgc ae (k:=0) rfl rfl (ae.own 0 _ rfl),ae.step⟩
end Go.Proofs.YtdlaobdadlmcdabGreatDoor.ME