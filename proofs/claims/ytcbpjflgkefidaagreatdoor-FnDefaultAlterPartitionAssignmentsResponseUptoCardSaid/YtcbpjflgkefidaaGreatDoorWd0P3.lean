/- The texts of a claim, put together: the engine, the contracts, the law. Own work. -/
import Derived.Test.YtcbpjflgkefidaaGreatDoorWd0P2
import Derived.Test.YtcbpjflgkefidaaGreatDoorProg
import Derived.Deep.LoopGhost
namespace Go.Proofs.YtcbpjflgkefidaaGreatDoor.ME
open Go
open Go.RowKit
set_option linter.unusedVariables false
set_option linter.unusedSimpArgs false
set_option maxRecDepth 20000
theorem qk6 {A:Option Addr} {c:Nat} (s:Bs) {w:World} {F:Nat → Nat → Prop} (ho:Octs w F A c s) (hl:2 ≤ s.length) :
  Calls Tryz.prog 189 #[.agg #[],.slice A s.length c] w (qcG w (.int .u16 (be16 s))):=by
 refine enter (n:=18) Tryz.func189 rfl Tryz.ntmps189 kz fun a hE=>?_
 have hW:=WOk.start w Nil
 have ob0:=qb7 s 0
 have ob1:=qb7 s 1
 refine qad [0,1] kz ?_
 refine qai (qbu hW hE (d:=2) (cs:=[]) kz fun b1 a2 w3 hb4 hz5 hF6 hW7 hE8=>?_)
 refine qaj [1] [] [(1,.v (.slice A s.length c))] hW7 hE8 fun a9 af=>?_
 refine qae (qab ?_)
 refine qad [0,1,2] kz ?_
 refine qaj [0] [1,2] [(1,.v (.slice A s.length c)),(5,.v (.slice A s.length c))] hW7 af fun aC ag=>?_
 obtain ⟨av,aw,ac,ax,ab⟩:=Slots.get ho (i:=1) (by omega)
 refine qai (qat ag (t:=22) (A:=A) (m:=s.length) (q:=1) (d:=6) kz (e:=5) (size:=1) (bytes:=1) (j:=1) kz ac rfl (by omega) fun aD ah=>?_)
 refine qai (qaK ah (t:=5) (b:=av) (o:=aw + 1 * 1) (d:=7) kz (cs:=[.int .u8 ((s.getD 1 0).toNat:Int)]) (v:=.int .u8 ((s.getD 1 0).toNat:Int)) kz (AtF.move ab hW7.step nilM qbb).at_ fun aE ai=>?_)
 refine qae (qab ?_)
 refine qb1 kz hW7 fun aF ay aa=>?_
 refine qaN [0,4] [(8,.v (.slice A s.length c)),(12,.v (.slice A s.length c))] 9 (qaa qaf) (fun _ h=>h ▸ aa.cells) rfl ai fun aG aj=>?_
 refine qaW aj (i:=1) (t:=22) (A:=A) (m:=s.length) (q:=1) (d:=9) kz (e:=5) (size:=1) (bytes:=1) (j:=1) kz ac rfl (by omega) kz kz (qaa qaf) rfl fun aH ak=>?_
 refine qbn ak (i:=2) (t:=5) (b:=av) (o:=aw + 1 * 1) (d:=10) kz (cs:=[.int .u8 ((s.getD 1 0).toNat:Int)]) (v:=.int .u8 ((s.getD 1 0).toNat:Int)) kz (fun w' h'=>h' ▸ (AtF.move ab aa.step nilM qbb).at_) kz kz (qaa qaf) rfl fun aI al=>?_
 refine qaN [3] [(11,.v (.int .u16 (IntKind.u16.wrap ((s.getD 1 0).toNat:Int)))),(12,.v (.slice A s.length c))] 6 (qaa qaf) (fun _ h=>h ▸ aa.cells) rfl al fun aJ am=>?_
 obtain ⟨az,aA,ao,aB,ae⟩:=Slots.get ho (i:=0) (by omega)
 refine qaW am (i:=5) (t:=22) (A:=A) (m:=s.length) (q:=0) (d:=13) kz (e:=5) (size:=1) (bytes:=1) (j:=0) kz ao rfl (by omega) kz kz (qaa qaf) rfl fun aK ap=>?_
 refine qbn ap (i:=6) (t:=5) (b:=az) (o:=aA + 0 * 1) (d:=14) kz (cs:=[.int .u8 ((s.getD 0 0).toNat:Int)]) (v:=.int .u8 ((s.getD 0 0).toNat:Int)) kz (fun w' h'=>h' ▸ (AtF.move ae aa.step nilM qbb).at_) kz kz (qaa qaf) rfl fun aL ar=>?_
 refine qaN [7,8,9,10] [(4,.v (.int .u16 (IntKind.u16.wrap (BitVec.ofInt 16 (IntKind.u16.wrap ((s.getD 1 0).toNat:Int)) ||| BitVec.ofInt 16 (IntKind.u16.wrap ((IntKind.u16.wrap ((s.getD 0 0).toNat:Int)) * 256))).toNat)))] 0 (qaa qaf) (fun _ h=>h ▸ aa.cells) rfl ar fun aM au=>?_
 refine qaJ kz ?_ _
 refine qab ?_
 refine wp_ret ?_
 refine qaX au aa.cells (v:=.int .u16 (IntKind.u16.wrap (BitVec.ofInt 16 (IntKind.u16.wrap ((s.getD 1 0).toNat:Int)) ||| BitVec.ofInt 16 (IntKind.u16.wrap ((IntKind.u16.wrap ((s.getD 0 0).toNat:Int)) * 256))).toNat)) kz ?_
 exact ⟨congrArg Ending.returned (congrArg (Value.int IntKind.u16) (qkK (oc s 0) (oc s 1) ob0 ob1)),aa.step⟩
theorem qk7 {A:Option Addr} {c:Nat} (s:Bs) {w:World} {F:Nat → Nat → Prop} (ho:Octs w F A c s) (hl:4 ≤ s.length) :
  Calls Tryz.prog 188 #[.agg #[],.slice A s.length c] w (qcG w (.int .u32 (be32 s))):=by
 refine enter (n:=30) Tryz.func188 rfl Tryz.ntmps188 kz fun a hE=>?_
 have hW:=WOk.start w Nil
 have ob0:=qb7 s 0
 have ob1:=qb7 s 1
 have ob2:=qb7 s 2
 have ob3:=qb7 s 3
 refine qad [0,1] kz ?_
 refine qai (qbu hW hE (d:=2) (cs:=[]) kz fun b1 a2 w3 hb4 hz5 hF6 hW7 hE8=>?_)
 refine qaj [1] [] [(1,.v (.slice A s.length c))] hW7 hE8 fun a9 ah=>?_
 refine qae (qab ?_)
 refine qad [0,1,2] kz ?_
 refine qaj [0] [1,2] [(1,.v (.slice A s.length c)),(5,.v (.slice A s.length c))] hW7 ah fun aS ai=>?_
 obtain ⟨aF,aG,ac,aH,ab⟩:=Slots.get ho (i:=3) (by omega)
 refine qai (qat ai (t:=22) (A:=A) (m:=s.length) (q:=3) (d:=6) kz (e:=5) (size:=1) (bytes:=1) (j:=3) kz ac rfl (by omega) fun aT aj=>?_)
 refine qai (qaK aj (t:=5) (b:=aF) (o:=aG + 3 * 1) (d:=7) kz (cs:=[.int .u8 ((s.getD 3 0).toNat:Int)]) (v:=.int .u8 ((s.getD 3 0).toNat:Int)) kz (AtF.move ab hW7.step nilM qbb).at_ fun aU ak=>?_)
 refine qae (qab ?_)
 refine qb1 kz hW7 fun aV aI aa=>?_
 refine qaN [0,4,10,16] [(8,.v (.slice A s.length c)),(12,.v (.slice A s.length c)),(18,.v (.slice A s.length c)),(24,.v (.slice A s.length c))] 19 (qaa qaf) (fun _ h=>h ▸ aa.cells) rfl ak fun aW al=>?_
 refine qaW al (i:=1) (t:=22) (A:=A) (m:=s.length) (q:=3) (d:=9) kz (e:=5) (size:=1) (bytes:=1) (j:=3) kz ac rfl (by omega) kz kz (qaa qaf) rfl fun aX am=>?_
 refine qbn am (i:=2) (t:=5) (b:=aF) (o:=aG + 3 * 1) (d:=10) kz (cs:=[.int .u8 ((s.getD 3 0).toNat:Int)]) (v:=.int .u8 ((s.getD 3 0).toNat:Int)) kz (fun w' h'=>h' ▸ (AtF.move ab aa.step nilM qbb).at_) kz kz (qaa qaf) rfl fun aY ao=>?_
 refine qaN [3] [(11,.v (.int .u32 (IntKind.u32.wrap ((s.getD 3 0).toNat:Int)))),(12,.v (.slice A s.length c)),(18,.v (.slice A s.length c)),(24,.v (.slice A s.length c))] 16 (qaa qaf) (fun _ h=>h ▸ aa.cells) rfl ao fun aZ ap=>?_
 obtain ⟨aJ,aK,ar,aL,ae⟩:=Slots.get ho (i:=2) (by omega)
 refine qaW ap (i:=5) (t:=22) (A:=A) (m:=s.length) (q:=2) (d:=13) kz (e:=5) (size:=1) (bytes:=1) (j:=2) kz ar rfl (by omega) kz kz (qaa qaf) rfl fun ba au=>?_
 refine qbn au (i:=6) (t:=5) (b:=aJ) (o:=aK + 2 * 1) (d:=14) kz (cs:=[.int .u8 ((s.getD 2 0).toNat:Int)]) (v:=.int .u8 ((s.getD 2 0).toNat:Int)) kz (fun w' h'=>h' ▸ (AtF.move ae aa.step nilM qbb).at_) kz kz (qaa qaf) rfl fun bd av=>?_
 refine qaN [7,8,9] [(17,.v (.int .u32 (IntKind.u32.wrap (BitVec.ofInt 32 (IntKind.u32.wrap ((s.getD 3 0).toNat:Int)) ||| BitVec.ofInt 32 (IntKind.u32.wrap ((IntKind.u32.wrap ((s.getD 2 0).toNat:Int)) * 256))).toNat))),(18,.v (.slice A s.length c)),(24,.v (.slice A s.length c))] 11 (qaa qaf) (fun _ h=>h ▸ aa.cells) rfl av fun bf aw=>?_
 obtain ⟨aM,aN,ax,aO,af⟩:=Slots.get ho (i:=1) (by omega)
 refine qaW aw (i:=11) (t:=22) (A:=A) (m:=s.length) (q:=1) (d:=19) kz (e:=5) (size:=1) (bytes:=1) (j:=1) kz ax rfl (by omega) kz kz (qaa qaf) rfl fun bg ay=>?_
 refine qbn ay (i:=12) (t:=5) (b:=aM) (o:=aN + 1 * 1) (d:=20) kz (cs:=[.int .u8 ((s.getD 1 0).toNat:Int)]) (v:=.int .u8 ((s.getD 1 0).toNat:Int)) kz (fun w' h'=>h' ▸ (AtF.move af aa.step nilM qbb).at_) kz kz (qaa qaf) rfl fun bh az=>?_
 refine qaN [13,14,15] [(23,.v (.int .u32 (IntKind.u32.wrap (BitVec.ofInt 32 (IntKind.u32.wrap (BitVec.ofInt 32 (IntKind.u32.wrap ((s.getD 3 0).toNat:Int)) ||| BitVec.ofInt 32 (IntKind.u32.wrap ((IntKind.u32.wrap ((s.getD 2 0).toNat:Int)) * 256))).toNat) ||| BitVec.ofInt 32 (IntKind.u32.wrap ((IntKind.u32.wrap ((s.getD 1 0).toNat:Int)) * 65536))).toNat))),(24,.v (.slice A s.length c))] 6 (qaa qaf) (fun _ h=>h ▸ aa.cells) rfl az fun bi aA=>?_
 obtain ⟨aP,aQ,aB,aR,ag⟩:=Slots.get ho (i:=0) (by omega)
 refine qaW aA (i:=17) (t:=22) (A:=A) (m:=s.length) (q:=0) (d:=25) kz (e:=5) (size:=1) (bytes:=1) (j:=0) kz aB rfl (by omega) kz kz (qaa qaf) rfl fun bj aC=>?_
 refine qbn aC (i:=18) (t:=5) (b:=aP) (o:=aQ + 0 * 1) (d:=26) kz (cs:=[.int .u8 ((s.getD 0 0).toNat:Int)]) (v:=.int .u8 ((s.getD 0 0).toNat:Int)) kz (fun w' h'=>h' ▸ (AtF.move ag aa.step nilM qbb).at_) kz kz (qaa qaf) rfl fun bk aD=>?_
 refine qaN [19,20,21,22] [(4,.v (.int .u32 (IntKind.u32.wrap (BitVec.ofInt 32 (IntKind.u32.wrap (BitVec.ofInt 32 (IntKind.u32.wrap (BitVec.ofInt 32 (IntKind.u32.wrap ((s.getD 3 0).toNat:Int)) ||| BitVec.ofInt 32 (IntKind.u32.wrap ((IntKind.u32.wrap ((s.getD 2 0).toNat:Int)) * 256))).toNat) ||| BitVec.ofInt 32 (IntKind.u32.wrap ((IntKind.u32.wrap ((s.getD 1 0).toNat:Int)) * 65536))).toNat) ||| BitVec.ofInt 32 (IntKind.u32.wrap ((IntKind.u32.wrap ((s.getD 0 0).toNat:Int)) * 16777216))).toNat)))] 0 (qaa qaf) (fun _ h=>h ▸ aa.cells) rfl aD fun bn aE=>?_
 refine qaJ kz ?_ _
 refine qab ?_
 refine wp_ret ?_
 refine qaX aE aa.cells (v:=.int .u32 (IntKind.u32.wrap (BitVec.ofInt 32 (IntKind.u32.wrap (BitVec.ofInt 32 (IntKind.u32.wrap (BitVec.ofInt 32 (IntKind.u32.wrap ((s.getD 3 0).toNat:Int)) ||| BitVec.ofInt 32 (IntKind.u32.wrap ((IntKind.u32.wrap ((s.getD 2 0).toNat:Int)) * 256))).toNat) ||| BitVec.ofInt 32 (IntKind.u32.wrap ((IntKind.u32.wrap ((s.getD 1 0).toNat:Int)) * 65536))).toNat) ||| BitVec.ofInt 32 (IntKind.u32.wrap ((IntKind.u32.wrap ((s.getD 0 0).toNat:Int)) * 16777216))).toNat)) kz ?_
 exact ⟨congrArg Ending.returned (congrArg (Value.int IntKind.u32) (qkL (oc s 0) (oc s 1) (oc s 2) (oc s 3) ob0 ob1 ob2 ob3)),aa.step⟩
theorem qhd (x:Int) (rest:Bs)  {br:Nat} {A:Option Addr} {m c:Nat} {w:World} {F:Nat → Nat → Prop} (hst:Str w br [.slice A m c,.bool false]) (hr:RdS w F A m c (be 2 x ++ rest)) (hFd:∀ b o,F b o → ¬ RdM br b o) :
  Calls Tryz.prog 141 #[.pointer (some ⟨br,0,none⟩)] w (RdPost w br F rest fun v w'=>v = .int .i16 (IntKind.i16.wrap x)):=by
 obtain ⟨hm,ho⟩:=hr
 subst hm
 have hle:=ho.le
 refine enter (n:=32) Tryz.func141 rfl Tryz.ntmps141 kz fun a hE=>?_
 have hW:WOk w (RdM br) w [⟨br,0,[.slice A ((be 2 x ++ rest).length) c,.bool false],true⟩] []:=WOk.startStr hst
 have hE1:=(hE.grow ⟨br,0,[.slice A ((be 2 x ++ rest).length) c,.bool false],true⟩).recast 0 (.v (.pointer (some ⟨br,0,none⟩))) (.p 0 0) rfl rfl (Nat.le_of_ble_eq_true (n:=1) rfl)
 refine qas [(0,.p 0 0)] hW hE1 fun a1 hE2=>?_
 refine wp_seq ?_
 refine qas [(0,.p 0 0),(9,.v (.bool (decide ((((be 2 x ++ rest).length:Nat):Int) < 2))))] hW hE2 fun a3 hE4=>?_
 refine qau hE4 (b:=decide ((((be 2 x ++ rest).length:Nat):Int) < 2)) kz (decide_eq_false (by first | omega | (simp only [List.length_append,be_length,List.length_cons,List.length_nil] at *; omega))) ?_
 refine wp_skip ?_
 refine qab ?_
 refine qa1 7 kz hW fun w5 hF6 hW7 hT8=>?_
 refine qaN [1,2,3,4] [(0,.p 0 0),(20,.v (.slice A ((be 2 x ++ rest).length) c))] 4 (qaa qaf) (fun _ h=>h.cells) hT8 hE4 fun a9 af=>?_
 refine qbn af (i:=0) (t:=211) (b:=0) (o:=0) (d:=16) kz (cs:=[]) (v:=.agg #[]) kz (fun w' h'=>(fun j_ v_ h_=>by simp at h_)) kz kz (qaa qaf) hT8 fun av ag=>?_
 refine qav (i:=5) kz (qak ag (f:=189) (vs:=[.agg #[],.slice A ((be 2 x ++ rest).length) c]) (d:=21) kz Tryz.call189 (qk6 _ (ho.move hW7.step (fun b_ o_ h_ _=>hFd b_ o_ h_) (hW7.immM hFd)) (by first | omega | (simp only [List.length_append,be_length,List.length_cons,List.length_nil] at *; omega))) ?_)
 rintro e_ aw ⟨rfl,ac⟩
 refine ⟨_,rfl,fun ax ah=>?_⟩
 have aa:=hW7.next_nil ac
 have ai:=hW7.frN ac
 have ae:=TT.ofW ai aa
 refine ⟨fun _=>ae,?_⟩
 refine qaN [6] [(0,.p 0 0),(22,.v (.int .i16 (IntKind.i16.wrap (be16 (be 2 x ++ rest)))))] 1 (qaa qaf) (fun _ h=>h.cells) ae ah fun ay aj=>?_
 refine qav (i:=7) kz (qbN [0,3] aa.cells aj (env':=[(0,.p 0 0),(3,.v (.int .i16 (IntKind.i16.wrap (be16 (be 2 x ++ rest)))))]) kz fun az ak=>?_)
 refine ⟨fun h=>absurd rfl h,?_⟩
 refine qaJ kz ?_ _
 refine qab ?_
 refine qad [0,1,2,3,4,5,6,7,8] kz ?_
 refine qaj [0,1,2,3,4] [5,6,7,8] [(3,.v (.int .i16 (IntKind.i16.wrap (be16 (be 2 x ++ rest))))),(23,.p 0 0),(27,.v (.slice A ((be 2 x ++ rest).length) c))] aa ak fun aA al=>?_
 refine qai (qcQ al (t:=22) (A:=A) (m:=((be 2 x ++ rest).length)) (cp:=c) (q:=2) (d:=28) (j:=2) kz (e:=5) (bytes:=1) kz (rfl) (by first | omega | (simp only [List.length_append,be_length,List.length_cons,List.length_nil] at *; omega)) fun aB am=>?_)
 refine qaj [6,7] [8] [(3,.v (.int .i16 (IntKind.i16.wrap (be16 (be 2 x ++ rest))))),(28,.v (.slice (cutA A c 2) (((be 2 x ++ rest).length) - 2) (c - 2))),(30,.p 0 0)] aa am fun aC ao=>?_
 refine qai (qam aa ao (oi:=0) (cs:=[.slice (cutA A c 2) (((be 2 x ++ rest).length) - 2) (c - 2),.bool false]) kz fun aD au ab ap=>?_)
 refine qae (qab ?_)
 refine qas [(2,.v (.int .i16 (IntKind.i16.wrap (be16 (be 2 x ++ rest)))))] ab ap fun aE ar=>?_
 refine wp_ret ?_
 refine qaX ar ab.cells (v:=.int .i16 (IntKind.i16.wrap (be16 (be 2 x ++ rest)))) kz ?_
 exact ⟨_,_,_,_,rfl,Str.of ab 0 rfl,RdS.drop (s:=be 2 x) ⟨rfl,ho.move ab.step (fun b_ o_ h_ _=>hFd b_ o_ h_) qbb⟩ (by simp only [be_length,List.length_cons,List.length_nil]),ab.step,by rw [qkh,qkj]⟩
theorem qjT (x:Int) (rest:Bs)  {br:Nat} {A:Option Addr} {m c:Nat} {w:World} {F:Nat → Nat → Prop} (hst:Str w br [.slice A m c,.bool false]) (hr:RdS w F A m c (be 4 x ++ rest)) (hFd:∀ b o,F b o → ¬ RdM br b o) :
  Calls Tryz.prog 139 #[.pointer (some ⟨br,0,none⟩)] w (RdPost w br F rest fun v w'=>v = .int .i32 (IntKind.i32.wrap x)):=by
 obtain ⟨hm,ho⟩:=hr
 subst hm
 have hle:=ho.le
 refine enter (n:=32) Tryz.func139 rfl Tryz.ntmps139 kz fun a hE=>?_
 have hW:WOk w (RdM br) w [⟨br,0,[.slice A ((be 4 x ++ rest).length) c,.bool false],true⟩] []:=WOk.startStr hst
 have hE1:=(hE.grow ⟨br,0,[.slice A ((be 4 x ++ rest).length) c,.bool false],true⟩).recast 0 (.v (.pointer (some ⟨br,0,none⟩))) (.p 0 0) rfl rfl (Nat.le_of_ble_eq_true (n:=1) rfl)
 refine qas [(0,.p 0 0)] hW hE1 fun a1 hE2=>?_
 refine wp_seq ?_
 refine qas [(0,.p 0 0),(9,.v (.bool (decide ((((be 4 x ++ rest).length:Nat):Int) < 4))))] hW hE2 fun a3 hE4=>?_
 refine qau hE4 (b:=decide ((((be 4 x ++ rest).length:Nat):Int) < 4)) kz (decide_eq_false (by first | omega | (simp only [List.length_append,be_length,List.length_cons,List.length_nil] at *; omega))) ?_
 refine wp_skip ?_
 refine qab ?_
 refine qa1 7 kz hW fun w5 hF6 hW7 hT8=>?_
 refine qaN [1,2,3,4] [(0,.p 0 0),(20,.v (.slice A ((be 4 x ++ rest).length) c))] 4 (qaa qaf) (fun _ h=>h.cells) hT8 hE4 fun a9 af=>?_
 refine qbn af (i:=0) (t:=211) (b:=0) (o:=0) (d:=16) kz (cs:=[]) (v:=.agg #[]) kz (fun w' h'=>(fun j_ v_ h_=>by simp at h_)) kz kz (qaa qaf) hT8 fun av ag=>?_
 refine qav (i:=5) kz (qak ag (f:=188) (vs:=[.agg #[],.slice A ((be 4 x ++ rest).length) c]) (d:=21) kz Tryz.call188 (qk7 _ (ho.move hW7.step (fun b_ o_ h_ _=>hFd b_ o_ h_) (hW7.immM hFd)) (by first | omega | (simp only [List.length_append,be_length,List.length_cons,List.length_nil] at *; omega))) ?_)
 rintro e_ aw ⟨rfl,ac⟩
 refine ⟨_,rfl,fun ax ah=>?_⟩
 have aa:=hW7.next_nil ac
 have ai:=hW7.frN ac
 have ae:=TT.ofW ai aa
 refine ⟨fun _=>ae,?_⟩
 refine qaN [6] [(0,.p 0 0),(22,.v (.int .i32 (IntKind.i32.wrap (be32 (be 4 x ++ rest)))))] 1 (qaa qaf) (fun _ h=>h.cells) ae ah fun ay aj=>?_
 refine qav (i:=7) kz (qbN [0,3] aa.cells aj (env':=[(0,.p 0 0),(3,.v (.int .i32 (IntKind.i32.wrap (be32 (be 4 x ++ rest)))))]) kz fun az ak=>?_)
 refine ⟨fun h=>absurd rfl h,?_⟩
 refine qaJ kz ?_ _
 refine qab ?_
 refine qad [0,1,2,3,4,5,6,7,8] kz ?_
 refine qaj [0,1,2,3,4] [5,6,7,8] [(3,.v (.int .i32 (IntKind.i32.wrap (be32 (be 4 x ++ rest))))),(23,.p 0 0),(27,.v (.slice A ((be 4 x ++ rest).length) c))] aa ak fun aA al=>?_
 refine qai (qcQ al (t:=22) (A:=A) (m:=((be 4 x ++ rest).length)) (cp:=c) (q:=4) (d:=28) (j:=4) kz (e:=5) (bytes:=1) kz (rfl) (by first | omega | (simp only [List.length_append,be_length,List.length_cons,List.length_nil] at *; omega)) fun aB am=>?_)
 refine qaj [6,7] [8] [(3,.v (.int .i32 (IntKind.i32.wrap (be32 (be 4 x ++ rest))))),(28,.v (.slice (cutA A c 4) (((be 4 x ++ rest).length) - 4) (c - 4))),(30,.p 0 0)] aa am fun aC ao=>?_
 refine qai (qam aa ao (oi:=0) (cs:=[.slice (cutA A c 4) (((be 4 x ++ rest).length) - 4) (c - 4),.bool false]) kz fun aD au ab ap=>?_)
 refine qae (qab ?_)
 refine qas [(2,.v (.int .i32 (IntKind.i32.wrap (be32 (be 4 x ++ rest)))))] ab ap fun aE ar=>?_
 refine wp_ret ?_
 refine qaX ar ab.cells (v:=.int .i32 (IntKind.i32.wrap (be32 (be 4 x ++ rest)))) kz ?_
 exact ⟨_,_,_,_,rfl,Str.of ab 0 rfl,RdS.drop (s:=be 4 x) ⟨rfl,ho.move ab.step (fun b_ o_ h_ _=>hFd b_ o_ h_) qbb⟩ (by simp only [be_length,List.length_cons,List.length_nil]),ab.step,by rw [qki,qkk]⟩
theorem qk8 (y:Bool) (rest:Bs)  {br:Nat} {A:Option Addr} {m c:Nat} {w:World} {F:Nat → Nat → Prop} (hst:Str w br [.slice A m c,.bool false]) (hr:RdS w F A m c ([by8 (if y then 1 else 0)] ++ rest)) (hFd:∀ b o,F b o → ¬ RdM br b o) :
  Calls Tryz.prog 140 #[.pointer (some ⟨br,0,none⟩)] w (RdPost w br F rest fun v w'=>v = .bool y):=by
 obtain ⟨hm,ho⟩:=hr
 subst hm
 have hle:=ho.le
 refine enter (n:=32) Tryz.func140 rfl Tryz.ntmps140 kz fun a hE=>?_
 have hW:WOk w (RdM br) w [⟨br,0,[.slice A (([by8 (if y then 1 else 0)] ++ rest).length) c,.bool false],true⟩] []:=WOk.startStr hst
 have hE1:=(hE.grow ⟨br,0,[.slice A (([by8 (if y then 1 else 0)] ++ rest).length) c,.bool false],true⟩).recast 0 (.v (.pointer (some ⟨br,0,none⟩))) (.p 0 0) rfl rfl (Nat.le_of_ble_eq_true (n:=1) rfl)
 refine qas [(0,.p 0 0)] hW hE1 fun a1 hE2=>?_
 refine wp_seq ?_
 refine qas [(0,.p 0 0),(9,.v (.bool (decide (((([by8 (if y then 1 else 0)] ++ rest).length:Nat):Int) < 1))))] hW hE2 fun a3 hE4=>?_
 refine qau hE4 (b:=decide (((([by8 (if y then 1 else 0)] ++ rest).length:Nat):Int) < 1)) kz (decide_eq_false (by first | omega | (simp only [List.length_append,be_length,List.length_cons,List.length_nil] at *; omega))) ?_
 refine wp_skip ?_
 refine qab ?_
 refine qad [0,1,2,3,4,5,6,7] kz ?_
 refine qaj [0,1,2,3] [4,5,6,7] [(0,.p 0 0),(19,.v (.slice A (([by8 (if y then 1 else 0)] ++ rest).length) c))] hW hE4 fun a5 hE6=>?_
 obtain ⟨b7,o8,hA9,al,ab⟩:=Slots.get ho (i:=0) (by first | omega | (simp only [List.length_append,be_length,List.length_cons,List.length_nil] at *; omega))
 refine qai (qat hE6 (t:=22) (A:=A) (m:=(([by8 (if y then 1 else 0)] ++ rest).length)) (q:=0) (d:=20) kz (e:=5) (size:=1) (bytes:=1) (j:=0) kz hA9 rfl (by first | omega | (simp only [List.length_append,be_length,List.length_cons,List.length_nil] at *; omega)) fun ao ac=>?_)
 refine qai (qaK ac (t:=5) (b:=b7) (o:=o8 + 0 * 1) (d:=21) kz (cs:=[.int .u8 ((([by8 (if y then 1 else 0)] ++ rest).getD 0 0).toNat:Int)]) (v:=.int .u8 ((([by8 (if y then 1 else 0)] ++ rest).getD 0 0).toNat:Int)) kz (AtF.move ab hW.step (fun b_ o_ h_ _=>hFd b_ o_ h_) qbb).at_ fun ap ae=>?_)
 refine qaj [6,7] [] [(0,.p 0 0),(3,.v (.bool (((([by8 (if y then 1 else 0)] ++ rest).getD 0 0).toNat:Int) != 0)))] hW ae fun ar af=>?_
 refine qae (qab ?_)
 refine qad [0,1,2,3,4,5,6,7,8] kz ?_
 refine qaj [0,1,2,3,4] [5,6,7,8] [(3,.v (.bool (((([by8 (if y then 1 else 0)] ++ rest).getD 0 0).toNat:Int) != 0))),(23,.p 0 0),(27,.v (.slice A (([by8 (if y then 1 else 0)] ++ rest).length) c))] hW af fun au ag=>?_
 refine qai (qcQ ag (t:=22) (A:=A) (m:=(([by8 (if y then 1 else 0)] ++ rest).length)) (cp:=c) (q:=1) (d:=28) (j:=1) kz (e:=5) (bytes:=1) kz (rfl) (by first | omega | (simp only [List.length_append,be_length,List.length_cons,List.length_nil] at *; omega)) fun av ah=>?_)
 refine qaj [6,7] [8] [(3,.v (.bool (((([by8 (if y then 1 else 0)] ++ rest).getD 0 0).toNat:Int) != 0))),(28,.v (.slice (cutA A c 1) ((([by8 (if y then 1 else 0)] ++ rest).length) - 1) (c - 1))),(30,.p 0 0)] hW ah fun aw ai=>?_
 refine qai (qam hW ai (oi:=0) (cs:=[.slice (cutA A c 1) ((([by8 (if y then 1 else 0)] ++ rest).length) - 1) (c - 1),.bool false]) kz fun ax am aa aj=>?_)
 refine qae (qab ?_)
 refine qas [(2,.v (.bool (((([by8 (if y then 1 else 0)] ++ rest).getD 0 0).toNat:Int) != 0)))] aa aj fun ay ak=>?_
 refine wp_ret ?_
 refine qaX ak aa.cells (v:=.bool (((([by8 (if y then 1 else 0)] ++ rest).getD 0 0).toNat:Int) != 0)) kz ?_
 exact ⟨_,_,_,_,rfl,Str.of aa 0 rfl,RdS.drop (s:=[by8 (if y then 1 else 0)]) ⟨rfl,ho.move aa.step (fun b_ o_ h_ _=>hFd b_ o_ h_) qbb⟩ (by simp only [be_length,List.length_cons,List.length_nil]),aa.step,by cases y <;> rfl⟩
theorem rUv1 {A:Option Addr} {c:Nat} (s:Bs) {w:World} {F:Nat → Nat → Prop} (ho:Octs w F A c s) (hl:1 ≤ s.length) (d0:Nat) (h0:oc s 0 = d0) (g0:d0 < 128) :
  Calls Tryz.prog 205 #[.slice A s.length c] w (qcG w (.tuple #[.int .u32 ((d0:Nat):Int),.int .i64 1])):=by
 refine enter (n:=87) Tryz.func205 rfl Tryz.ntmps205 kz fun a hE=>?_
 have hW:=WOk.start w Nil
 refine qas [(0,.v (.slice A s.length c))] hW hE fun a1 hE2=>?_
 refine wp_scope_straight ?_
 refine qas [(0,.v (.slice A s.length c))] hW hE2 fun a3 hE4=>?_
 refine qas [(0,.v (.slice A s.length c))] hW hE4 fun a5 hE6=>?_
 refine wp_seq ?_
 refine qas [(0,.v (.slice A s.length c)),(8,.v (.bool (decide (((s.length:Nat):Int) < 1))))] hW hE6 fun a7 hE8=>?_
 refine qau hE8 (b:=decide (((s.length:Nat):Int) < 1)) kz (decide_eq_false (by omega)) ?_
 refine wp_skip ?_
 refine qab ?_
 refine qad [0,1,2,3,4,5] kz ?_
 refine qaj [0] [1,2,3,4,5] [(0,.v (.slice A s.length c)),(9,.v (.slice A s.length c))] hW hE8 fun a9 ae=>?_
 obtain ⟨am,ao,ab,ap,aa⟩:=Slots.get ho (i:=0) (by first | omega | (simp only [List.length_append,be_length,List.length_cons,List.length_nil] at *; omega))
 refine qai (qat ae (t:=22) (A:=A) (m:=s.length) (q:=0) (d:=10) kz (e:=5) (size:=1) (bytes:=1) (j:=0) kz ab rfl (by first | omega | (simp only [List.length_append,be_length,List.length_cons,List.length_nil] at *; omega)) fun ar af=>?_)
 refine qai (qaK af (t:=5) (b:=am) (o:=ao + 0 * 1) (d:=11) kz (cs:=[.int .u8 ((s.getD 0 0).toNat:Int)]) (v:=.int .u8 ((s.getD 0 0).toNat:Int)) kz (AtF.move aa hW.step nilM qbb).at_ fun au ag=>?_)
 refine qaj [3,4,5] [] [(0,.v (.slice A s.length c)),(4,.v (.int .u32 (IntKind.u32.wrap (IntKind.u8.wrap (BitVec.ofInt 8 ((s.getD 0 0).toNat:Int) &&& BitVec.ofInt 8 127).toNat))))] hW ag fun av ah=>?_
 refine qae (qab ?_)
 refine wp_seq ?_
 refine qad [0,1,2,3,4] kz ?_
 refine qaj [0] [1,2,3,4] [(0,.v (.slice A s.length c)),(4,.v (.int .u32 (IntKind.u32.wrap (IntKind.u8.wrap (BitVec.ofInt 8 ((s.getD 0 0).toNat:Int) &&& BitVec.ofInt 8 127).toNat)))),(14,.v (.slice A s.length c))] hW ah fun aw ai=>?_
 refine qai (qat ai (t:=22) (A:=A) (m:=s.length) (q:=0) (d:=15) kz (e:=5) (size:=1) (bytes:=1) (j:=0) kz ab rfl (by first | omega | (simp only [List.length_append,be_length,List.length_cons,List.length_nil] at *; omega)) fun ax aj=>?_)
 refine qai (qaK aj (t:=5) (b:=am) (o:=ao + 0 * 1) (d:=16) kz (cs:=[.int .u8 ((s.getD 0 0).toNat:Int)]) (v:=.int .u8 ((s.getD 0 0).toNat:Int)) kz (AtF.move aa hW.step nilM qbb).at_ fun ay ak=>?_)
 refine qaj [3,4] [] [(0,.v (.slice A s.length c)),(4,.v (.int .u32 (IntKind.u32.wrap (IntKind.u8.wrap (BitVec.ofInt 8 ((s.getD 0 0).toNat:Int) &&& BitVec.ofInt 8 127).toNat)))),(18,.v (.bool ((IntKind.u8.wrap (BitVec.ofInt 8 ((s.getD 0 0).toNat:Int) &&& BitVec.ofInt 8 128).toNat) == 0)))] hW ak fun az ac=>?_
 refine qae (qab ?_)
 refine qbl ac (b:=(IntKind.u8.wrap (BitVec.ofInt 8 ((s.getD 0 0).toNat:Int) &&& BitVec.ofInt 8 128).toNat) == 0) kz ((qcS _ (qb7 s 0)).trans (decide_eq_true (by have:=h0; unfold oc at this; omega))) ?_
 refine qas [(2,.v (.int .u32 (IntKind.u32.wrap (IntKind.u8.wrap (BitVec.ofInt 8 ((s.getD 0 0).toNat:Int) &&& BitVec.ofInt 8 127).toNat)))),(3,.v (.int .i64 1))] hW ac fun aA al=>?_
 refine wp_ret ?_
 refine qaD ?_
 refine qdp ?_
 refine qaX al hW.cells (v:=.tuple #[.int .u32 (IntKind.u32.wrap (IntKind.u8.wrap (BitVec.ofInt 8 ((s.getD 0 0).toNat:Int) &&& BitVec.ofInt 8 127).toNat)),.int .i64 1]) kz ?_
 have e_:=uv_1 (oc s 0) (qb7 s 0)
 refine ⟨congrArg (fun z_:Int=>Ending.returned (.tuple #[.int .u32 z_,.int .i64 1])) (Eq.trans e_ ?_),hW.step⟩
 omega
theorem rUv2 {A:Option Addr} {c:Nat} (s:Bs) {w:World} {F:Nat → Nat → Prop} (ho:Octs w F A c s) (hl:2 ≤ s.length) (d0 d1:Nat) (h0:oc s 0 = d0 + 128) (h1:oc s 1 = d1) (g0:d0 < 128) (g1:d1 < 128) :
  Calls Tryz.prog 205 #[.slice A s.length c] w (qcG w (.tuple #[.int .u32 ((d0 + d1 * 128:Nat):Int),.int .i64 2])):=by
 refine enter (n:=87) Tryz.func205 rfl Tryz.ntmps205 kz fun a hE=>?_
 have hW:=WOk.start w Nil
 refine qas [(0,.v (.slice A s.length c))] hW hE fun a1 hE2=>?_
 refine wp_scope_straight ?_
 refine qas [(0,.v (.slice A s.length c))] hW hE2 fun a3 hE4=>?_
 refine qas [(0,.v (.slice A s.length c))] hW hE4 fun a5 hE6=>?_
 refine wp_seq ?_
 refine qas [(0,.v (.slice A s.length c)),(8,.v (.bool (decide (((s.length:Nat):Int) < 1))))] hW hE6 fun a7 hE8=>?_
 refine qau hE8 (b:=decide (((s.length:Nat):Int) < 1)) kz (decide_eq_false (by omega)) ?_
 refine wp_skip ?_
 refine qab ?_
 refine qad [0,1,2,3,4,5] kz ?_
 refine qaj [0] [1,2,3,4,5] [(0,.v (.slice A s.length c)),(9,.v (.slice A s.length c))] hW hE8 fun a9 ai=>?_
 obtain ⟨aB,aC,ac,aF,aa⟩:=Slots.get ho (i:=0) (by first | omega | (simp only [List.length_append,be_length,List.length_cons,List.length_nil] at *; omega))
 refine qai (qat ai (t:=22) (A:=A) (m:=s.length) (q:=0) (d:=10) kz (e:=5) (size:=1) (bytes:=1) (j:=0) kz ac rfl (by first | omega | (simp only [List.length_append,be_length,List.length_cons,List.length_nil] at *; omega)) fun aH aj=>?_)
 refine qai (qaK aj (t:=5) (b:=aB) (o:=aC + 0 * 1) (d:=11) kz (cs:=[.int .u8 ((s.getD 0 0).toNat:Int)]) (v:=.int .u8 ((s.getD 0 0).toNat:Int)) kz (AtF.move aa hW.step nilM qbb).at_ fun aI ak=>?_)
 refine qaj [3,4,5] [] [(0,.v (.slice A s.length c)),(4,.v (.int .u32 (IntKind.u32.wrap (IntKind.u8.wrap (BitVec.ofInt 8 ((s.getD 0 0).toNat:Int) &&& BitVec.ofInt 8 127).toNat))))] hW ak fun aJ al=>?_
 refine qae (qab ?_)
 refine wp_seq ?_
 refine qad [0,1,2,3,4] kz ?_
 refine qaj [0] [1,2,3,4] [(0,.v (.slice A s.length c)),(4,.v (.int .u32 (IntKind.u32.wrap (IntKind.u8.wrap (BitVec.ofInt 8 ((s.getD 0 0).toNat:Int) &&& BitVec.ofInt 8 127).toNat)))),(14,.v (.slice A s.length c))] hW al fun aK am=>?_
 refine qai (qat am (t:=22) (A:=A) (m:=s.length) (q:=0) (d:=15) kz (e:=5) (size:=1) (bytes:=1) (j:=0) kz ac rfl (by first | omega | (simp only [List.length_append,be_length,List.length_cons,List.length_nil] at *; omega)) fun aL ao=>?_)
 refine qai (qaK ao (t:=5) (b:=aB) (o:=aC + 0 * 1) (d:=16) kz (cs:=[.int .u8 ((s.getD 0 0).toNat:Int)]) (v:=.int .u8 ((s.getD 0 0).toNat:Int)) kz (AtF.move aa hW.step nilM qbb).at_ fun aM ap=>?_)
 refine qaj [3,4] [] [(0,.v (.slice A s.length c)),(4,.v (.int .u32 (IntKind.u32.wrap (IntKind.u8.wrap (BitVec.ofInt 8 ((s.getD 0 0).toNat:Int) &&& BitVec.ofInt 8 127).toNat)))),(18,.v (.bool ((IntKind.u8.wrap (BitVec.ofInt 8 ((s.getD 0 0).toNat:Int) &&& BitVec.ofInt 8 128).toNat) == 0)))] hW ap fun aN ae=>?_
 refine qae (qab ?_)
 refine qau ae (b:=(IntKind.u8.wrap (BitVec.ofInt 8 ((s.getD 0 0).toNat:Int) &&& BitVec.ofInt 8 128).toNat) == 0) kz ((qcS _ (qb7 s 0)).trans (decide_eq_false (by have:=h0; unfold oc at this; omega))) ?_
 refine qas [(0,.v (.slice A s.length c)),(4,.v (.int .u32 (IntKind.u32.wrap (IntKind.u8.wrap (BitVec.ofInt 8 ((s.getD 0 0).toNat:Int) &&& BitVec.ofInt 8 127).toNat)))),(22,.v (.bool (decide (((s.length:Nat):Int) < 2))))] hW ae fun aO af=>?_
 refine qau af (b:=decide (((s.length:Nat):Int) < 2)) kz (decide_eq_false (by omega)) ?_
 refine wp_skip ?_
 refine qab ?_
 refine qad [0,1,2,3,4,5,6,7,8] kz ?_
 refine qaj [0,1] [2,3,4,5,6,7,8] [(0,.v (.slice A s.length c)),(23,.v (.int .u32 (IntKind.u32.wrap (IntKind.u8.wrap (BitVec.ofInt 8 ((s.getD 0 0).toNat:Int) &&& BitVec.ofInt 8 127).toNat)))),(24,.v (.slice A s.length c))] hW af fun aP ar=>?_
 obtain ⟨aD,aE,ag,aG,ab⟩:=Slots.get ho (i:=1) (by first | omega | (simp only [List.length_append,be_length,List.length_cons,List.length_nil] at *; omega))
 refine qai (qat ar (t:=22) (A:=A) (m:=s.length) (q:=1) (d:=25) kz (e:=5) (size:=1) (bytes:=1) (j:=1) kz ag rfl (by first | omega | (simp only [List.length_append,be_length,List.length_cons,List.length_nil] at *; omega)) fun aQ au=>?_)
 refine qai (qaK au (t:=5) (b:=aD) (o:=aE + 1 * 1) (d:=26) kz (cs:=[.int .u8 ((s.getD 1 0).toNat:Int)]) (v:=.int .u8 ((s.getD 1 0).toNat:Int)) kz (AtF.move ab hW.step nilM qbb).at_ fun aR av=>?_)
 refine qaj [4,5,6,7,8] [] [(0,.v (.slice A s.length c)),(4,.v (.int .u32 (IntKind.u32.wrap (BitVec.ofInt 32 (IntKind.u32.wrap (IntKind.u8.wrap (BitVec.ofInt 8 ((s.getD 0 0).toNat:Int) &&& BitVec.ofInt 8 127).toNat)) ||| BitVec.ofInt 32 (IntKind.u32.wrap ((IntKind.u32.wrap (IntKind.u8.wrap (BitVec.ofInt 8 ((s.getD 1 0).toNat:Int) &&& BitVec.ofInt 8 127).toNat)) * 128))).toNat)))] hW av fun aS aw=>?_
 refine qae (qab ?_)
 refine wp_seq ?_
 refine qad [0,1,2,3,4] kz ?_
 refine qaj [0] [1,2,3,4] [(0,.v (.slice A s.length c)),(4,.v (.int .u32 (IntKind.u32.wrap (BitVec.ofInt 32 (IntKind.u32.wrap (IntKind.u8.wrap (BitVec.ofInt 8 ((s.getD 0 0).toNat:Int) &&& BitVec.ofInt 8 127).toNat)) ||| BitVec.ofInt 32 (IntKind.u32.wrap ((IntKind.u32.wrap (IntKind.u8.wrap (BitVec.ofInt 8 ((s.getD 1 0).toNat:Int) &&& BitVec.ofInt 8 127).toNat)) * 128))).toNat))),(31,.v (.slice A s.length c))] hW aw fun aT ax=>?_
 refine qai (qat ax (t:=22) (A:=A) (m:=s.length) (q:=1) (d:=32) kz (e:=5) (size:=1) (bytes:=1) (j:=1) kz ag rfl (by first | omega | (simp only [List.length_append,be_length,List.length_cons,List.length_nil] at *; omega)) fun aU ay=>?_)
 refine qai (qaK ay (t:=5) (b:=aD) (o:=aE + 1 * 1) (d:=33) kz (cs:=[.int .u8 ((s.getD 1 0).toNat:Int)]) (v:=.int .u8 ((s.getD 1 0).toNat:Int)) kz (AtF.move ab hW.step nilM qbb).at_ fun aV az=>?_)
 refine qaj [3,4] [] [(0,.v (.slice A s.length c)),(4,.v (.int .u32 (IntKind.u32.wrap (BitVec.ofInt 32 (IntKind.u32.wrap (IntKind.u8.wrap (BitVec.ofInt 8 ((s.getD 0 0).toNat:Int) &&& BitVec.ofInt 8 127).toNat)) ||| BitVec.ofInt 32 (IntKind.u32.wrap ((IntKind.u32.wrap (IntKind.u8.wrap (BitVec.ofInt 8 ((s.getD 1 0).toNat:Int) &&& BitVec.ofInt 8 127).toNat)) * 128))).toNat))),(35,.v (.bool ((IntKind.u8.wrap (BitVec.ofInt 8 ((s.getD 1 0).toNat:Int) &&& BitVec.ofInt 8 128).toNat) == 0)))] hW az fun aW ah=>?_
 refine qae (qab ?_)
 refine qbl ah (b:=(IntKind.u8.wrap (BitVec.ofInt 8 ((s.getD 1 0).toNat:Int) &&& BitVec.ofInt 8 128).toNat) == 0) kz ((qcS _ (qb7 s 1)).trans (decide_eq_true (by have:=h1; unfold oc at this; omega))) ?_
 refine qas [(2,.v (.int .u32 (IntKind.u32.wrap (BitVec.ofInt 32 (IntKind.u32.wrap (IntKind.u8.wrap (BitVec.ofInt 8 ((s.getD 0 0).toNat:Int) &&& BitVec.ofInt 8 127).toNat)) ||| BitVec.ofInt 32 (IntKind.u32.wrap ((IntKind.u32.wrap (IntKind.u8.wrap (BitVec.ofInt 8 ((s.getD 1 0).toNat:Int) &&& BitVec.ofInt 8 127).toNat)) * 128))).toNat))),(3,.v (.int .i64 2))] hW ah fun aX aA=>?_
 refine wp_ret ?_
 refine qaD ?_
 refine qdp ?_
 refine qaX aA hW.cells (v:=.tuple #[.int .u32 (IntKind.u32.wrap (BitVec.ofInt 32 (IntKind.u32.wrap (IntKind.u8.wrap (BitVec.ofInt 8 ((s.getD 0 0).toNat:Int) &&& BitVec.ofInt 8 127).toNat)) ||| BitVec.ofInt 32 (IntKind.u32.wrap ((IntKind.u32.wrap (IntKind.u8.wrap (BitVec.ofInt 8 ((s.getD 1 0).toNat:Int) &&& BitVec.ofInt 8 127).toNat)) * 128))).toNat),.int .i64 2]) kz ?_
 have e_:=uv_2 (oc s 0) (oc s 1) (qb7 s 0) (qb7 s 1)
 refine ⟨congrArg (fun z_:Int=>Ending.returned (.tuple #[.int .u32 z_,.int .i64 2])) (Eq.trans e_ ?_),hW.step⟩
 omega
theorem rUv3 {A:Option Addr} {c:Nat} (s:Bs) {w:World} {F:Nat → Nat → Prop} (ho:Octs w F A c s) (hl:3 ≤ s.length) (d0 d1 d2:Nat) (h0:oc s 0 = d0 + 128) (h1:oc s 1 = d1 + 128) (h2:oc s 2 = d2) (g0:d0 < 128) (g1:d1 < 128) (g2:d2 < 128) :
  Calls Tryz.prog 205 #[.slice A s.length c] w (qcG w (.tuple #[.int .u32 ((d0 + d1 * 128 + d2 * 16384:Nat):Int),.int .i64 3])):=by
 refine enter (n:=87) Tryz.func205 rfl Tryz.ntmps205 kz fun a hE=>?_
 have hW:=WOk.start w Nil
 refine qas [(0,.v (.slice A s.length c))] hW hE fun a1 hE2=>?_
 refine wp_scope_straight ?_
 refine qas [(0,.v (.slice A s.length c))] hW hE2 fun a3 hE4=>?_
 refine qas [(0,.v (.slice A s.length c))] hW hE4 fun a5 hE6=>?_
 refine wp_seq ?_
 refine qas [(0,.v (.slice A s.length c)),(8,.v (.bool (decide (((s.length:Nat):Int) < 1))))] hW hE6 fun a7 hE8=>?_
 refine qau hE8 (b:=decide (((s.length:Nat):Int) < 1)) kz (decide_eq_false (by omega)) ?_
 refine wp_skip ?_
 refine qab ?_
 refine qad [0,1,2,3,4,5] kz ?_
 refine qaj [0] [1,2,3,4,5] [(0,.v (.slice A s.length c)),(9,.v (.slice A s.length c))] hW hE8 fun a9 am=>?_
 obtain ⟨aM,aN,ae,aS,aa⟩:=Slots.get ho (i:=0) (by first | omega | (simp only [List.length_append,be_length,List.length_cons,List.length_nil] at *; omega))
 refine qai (qat am (t:=22) (A:=A) (m:=s.length) (q:=0) (d:=10) kz (e:=5) (size:=1) (bytes:=1) (j:=0) kz ae rfl (by first | omega | (simp only [List.length_append,be_length,List.length_cons,List.length_nil] at *; omega)) fun aV ao=>?_)
 refine qai (qaK ao (t:=5) (b:=aM) (o:=aN + 0 * 1) (d:=11) kz (cs:=[.int .u8 ((s.getD 0 0).toNat:Int)]) (v:=.int .u8 ((s.getD 0 0).toNat:Int)) kz (AtF.move aa hW.step nilM qbb).at_ fun aW ap=>?_)
 refine qaj [3,4,5] [] [(0,.v (.slice A s.length c)),(4,.v (.int .u32 (IntKind.u32.wrap (IntKind.u8.wrap (BitVec.ofInt 8 ((s.getD 0 0).toNat:Int) &&& BitVec.ofInt 8 127).toNat))))] hW ap fun aX ar=>?_
 refine qae (qab ?_)
 refine wp_seq ?_
 refine qad [0,1,2,3,4] kz ?_
 refine qaj [0] [1,2,3,4] [(0,.v (.slice A s.length c)),(4,.v (.int .u32 (IntKind.u32.wrap (IntKind.u8.wrap (BitVec.ofInt 8 ((s.getD 0 0).toNat:Int) &&& BitVec.ofInt 8 127).toNat)))),(14,.v (.slice A s.length c))] hW ar fun aY au=>?_
 refine qai (qat au (t:=22) (A:=A) (m:=s.length) (q:=0) (d:=15) kz (e:=5) (size:=1) (bytes:=1) (j:=0) kz ae rfl (by first | omega | (simp only [List.length_append,be_length,List.length_cons,List.length_nil] at *; omega)) fun aZ av=>?_)
 refine qai (qaK av (t:=5) (b:=aM) (o:=aN + 0 * 1) (d:=16) kz (cs:=[.int .u8 ((s.getD 0 0).toNat:Int)]) (v:=.int .u8 ((s.getD 0 0).toNat:Int)) kz (AtF.move aa hW.step nilM qbb).at_ fun ba aw=>?_)
 refine qaj [3,4] [] [(0,.v (.slice A s.length c)),(4,.v (.int .u32 (IntKind.u32.wrap (IntKind.u8.wrap (BitVec.ofInt 8 ((s.getD 0 0).toNat:Int) &&& BitVec.ofInt 8 127).toNat)))),(18,.v (.bool ((IntKind.u8.wrap (BitVec.ofInt 8 ((s.getD 0 0).toNat:Int) &&& BitVec.ofInt 8 128).toNat) == 0)))] hW aw fun bd af=>?_
 refine qae (qab ?_)
 refine qau af (b:=(IntKind.u8.wrap (BitVec.ofInt 8 ((s.getD 0 0).toNat:Int) &&& BitVec.ofInt 8 128).toNat) == 0) kz ((qcS _ (qb7 s 0)).trans (decide_eq_false (by have:=h0; unfold oc at this; omega))) ?_
 refine qas [(0,.v (.slice A s.length c)),(4,.v (.int .u32 (IntKind.u32.wrap (IntKind.u8.wrap (BitVec.ofInt 8 ((s.getD 0 0).toNat:Int) &&& BitVec.ofInt 8 127).toNat)))),(22,.v (.bool (decide (((s.length:Nat):Int) < 2))))] hW af fun bf ag=>?_
 refine qau ag (b:=decide (((s.length:Nat):Int) < 2)) kz (decide_eq_false (by omega)) ?_
 refine wp_skip ?_
 refine qab ?_
 refine qad [0,1,2,3,4,5,6,7,8] kz ?_
 refine qaj [0,1] [2,3,4,5,6,7,8] [(0,.v (.slice A s.length c)),(23,.v (.int .u32 (IntKind.u32.wrap (IntKind.u8.wrap (BitVec.ofInt 8 ((s.getD 0 0).toNat:Int) &&& BitVec.ofInt 8 127).toNat)))),(24,.v (.slice A s.length c))] hW ag fun bg ax=>?_
 obtain ⟨aO,aP,ah,aT,ab⟩:=Slots.get ho (i:=1) (by first | omega | (simp only [List.length_append,be_length,List.length_cons,List.length_nil] at *; omega))
 refine qai (qat ax (t:=22) (A:=A) (m:=s.length) (q:=1) (d:=25) kz (e:=5) (size:=1) (bytes:=1) (j:=1) kz ah rfl (by first | omega | (simp only [List.length_append,be_length,List.length_cons,List.length_nil] at *; omega)) fun bh ay=>?_)
 refine qai (qaK ay (t:=5) (b:=aO) (o:=aP + 1 * 1) (d:=26) kz (cs:=[.int .u8 ((s.getD 1 0).toNat:Int)]) (v:=.int .u8 ((s.getD 1 0).toNat:Int)) kz (AtF.move ab hW.step nilM qbb).at_ fun bi az=>?_)
 refine qaj [4,5,6,7,8] [] [(0,.v (.slice A s.length c)),(4,.v (.int .u32 (IntKind.u32.wrap (BitVec.ofInt 32 (IntKind.u32.wrap (IntKind.u8.wrap (BitVec.ofInt 8 ((s.getD 0 0).toNat:Int) &&& BitVec.ofInt 8 127).toNat)) ||| BitVec.ofInt 32 (IntKind.u32.wrap ((IntKind.u32.wrap (IntKind.u8.wrap (BitVec.ofInt 8 ((s.getD 1 0).toNat:Int) &&& BitVec.ofInt 8 127).toNat)) * 128))).toNat)))] hW az fun bj aA=>?_
 refine qae (qab ?_)
 refine wp_seq ?_
 refine qad [0,1,2,3,4] kz ?_
 refine qaj [0] [1,2,3,4] [(0,.v (.slice A s.length c)),(4,.v (.int .u32 (IntKind.u32.wrap (BitVec.ofInt 32 (IntKind.u32.wrap (IntKind.u8.wrap (BitVec.ofInt 8 ((s.getD 0 0).toNat:Int) &&& BitVec.ofInt 8 127).toNat)) ||| BitVec.ofInt 32 (IntKind.u32.wrap ((IntKind.u32.wrap (IntKind.u8.wrap (BitVec.ofInt 8 ((s.getD 1 0).toNat:Int) &&& BitVec.ofInt 8 127).toNat)) * 128))).toNat))),(31,.v (.slice A s.length c))] hW aA fun bk aB=>?_
 refine qai (qat aB (t:=22) (A:=A) (m:=s.length) (q:=1) (d:=32) kz (e:=5) (size:=1) (bytes:=1) (j:=1) kz ah rfl (by first | omega | (simp only [List.length_append,be_length,List.length_cons,List.length_nil] at *; omega)) fun bn aC=>?_)
 refine qai (qaK aC (t:=5) (b:=aO) (o:=aP + 1 * 1) (d:=33) kz (cs:=[.int .u8 ((s.getD 1 0).toNat:Int)]) (v:=.int .u8 ((s.getD 1 0).toNat:Int)) kz (AtF.move ab hW.step nilM qbb).at_ fun bo aD=>?_)
 refine qaj [3,4] [] [(0,.v (.slice A s.length c)),(4,.v (.int .u32 (IntKind.u32.wrap (BitVec.ofInt 32 (IntKind.u32.wrap (IntKind.u8.wrap (BitVec.ofInt 8 ((s.getD 0 0).toNat:Int) &&& BitVec.ofInt 8 127).toNat)) ||| BitVec.ofInt 32 (IntKind.u32.wrap ((IntKind.u32.wrap (IntKind.u8.wrap (BitVec.ofInt 8 ((s.getD 1 0).toNat:Int) &&& BitVec.ofInt 8 127).toNat)) * 128))).toNat))),(35,.v (.bool ((IntKind.u8.wrap (BitVec.ofInt 8 ((s.getD 1 0).toNat:Int) &&& BitVec.ofInt 8 128).toNat) == 0)))] hW aD fun bp ai=>?_
 refine qae (qab ?_)
 refine qau ai (b:=(IntKind.u8.wrap (BitVec.ofInt 8 ((s.getD 1 0).toNat:Int) &&& BitVec.ofInt 8 128).toNat) == 0) kz ((qcS _ (qb7 s 1)).trans (decide_eq_false (by have:=h1; unfold oc at this; omega))) ?_
 refine qas [(0,.v (.slice A s.length c)),(4,.v (.int .u32 (IntKind.u32.wrap (BitVec.ofInt 32 (IntKind.u32.wrap (IntKind.u8.wrap (BitVec.ofInt 8 ((s.getD 0 0).toNat:Int) &&& BitVec.ofInt 8 127).toNat)) ||| BitVec.ofInt 32 (IntKind.u32.wrap ((IntKind.u32.wrap (IntKind.u8.wrap (BitVec.ofInt 8 ((s.getD 1 0).toNat:Int) &&& BitVec.ofInt 8 127).toNat)) * 128))).toNat))),(39,.v (.bool (decide (((s.length:Nat):Int) < 3))))] hW ai fun bq aj=>?_
 refine qau aj (b:=decide (((s.length:Nat):Int) < 3)) kz (decide_eq_false (by omega)) ?_
 refine wp_skip ?_
 refine qab ?_
 refine qad [0,1,2,3,4,5,6,7,8] kz ?_
 refine qaj [0,1] [2,3,4,5,6,7,8] [(0,.v (.slice A s.length c)),(40,.v (.int .u32 (IntKind.u32.wrap (BitVec.ofInt 32 (IntKind.u32.wrap (IntKind.u8.wrap (BitVec.ofInt 8 ((s.getD 0 0).toNat:Int) &&& BitVec.ofInt 8 127).toNat)) ||| BitVec.ofInt 32 (IntKind.u32.wrap ((IntKind.u32.wrap (IntKind.u8.wrap (BitVec.ofInt 8 ((s.getD 1 0).toNat:Int) &&& BitVec.ofInt 8 127).toNat)) * 128))).toNat))),(41,.v (.slice A s.length c))] hW aj fun bt aE=>?_
 obtain ⟨aQ,aR,ak,aU,ac⟩:=Slots.get ho (i:=2) (by first | omega | (simp only [List.length_append,be_length,List.length_cons,List.length_nil] at *; omega))
 refine qai (qat aE (t:=22) (A:=A) (m:=s.length) (q:=2) (d:=42) kz (e:=5) (size:=1) (bytes:=1) (j:=2) kz ak rfl (by first | omega | (simp only [List.length_append,be_length,List.length_cons,List.length_nil] at *; omega)) fun bu aF=>?_)
 refine qai (qaK aF (t:=5) (b:=aQ) (o:=aR + 2 * 1) (d:=43) kz (cs:=[.int .u8 ((s.getD 2 0).toNat:Int)]) (v:=.int .u8 ((s.getD 2 0).toNat:Int)) kz (AtF.move ac hW.step nilM qbb).at_ fun bw aG=>?_)
 refine qaj [4,5,6,7,8] [] [(0,.v (.slice A s.length c)),(4,.v (.int .u32 (IntKind.u32.wrap (BitVec.ofInt 32 (IntKind.u32.wrap (BitVec.ofInt 32 (IntKind.u32.wrap (IntKind.u8.wrap (BitVec.ofInt 8 ((s.getD 0 0).toNat:Int) &&& BitVec.ofInt 8 127).toNat)) ||| BitVec.ofInt 32 (IntKind.u32.wrap ((IntKind.u32.wrap (IntKind.u8.wrap (BitVec.ofInt 8 ((s.getD 1 0).toNat:Int) &&& BitVec.ofInt 8 127).toNat)) * 128))).toNat) ||| BitVec.ofInt 32 (IntKind.u32.wrap ((IntKind.u32.wrap (IntKind.u8.wrap (BitVec.ofInt 8 ((s.getD 2 0).toNat:Int) &&& BitVec.ofInt 8 127).toNat)) * 16384))).toNat)))] hW aG fun bx aH=>?_
 refine qae (qab ?_)
 refine wp_seq ?_
 refine qad [0,1,2,3,4] kz ?_
 refine qaj [0] [1,2,3,4] [(0,.v (.slice A s.length c)),(4,.v (.int .u32 (IntKind.u32.wrap (BitVec.ofInt 32 (IntKind.u32.wrap (BitVec.ofInt 32 (IntKind.u32.wrap (IntKind.u8.wrap (BitVec.ofInt 8 ((s.getD 0 0).toNat:Int) &&& BitVec.ofInt 8 127).toNat)) ||| BitVec.ofInt 32 (IntKind.u32.wrap ((IntKind.u32.wrap (IntKind.u8.wrap (BitVec.ofInt 8 ((s.getD 1 0).toNat:Int) &&& BitVec.ofInt 8 127).toNat)) * 128))).toNat) ||| BitVec.ofInt 32 (IntKind.u32.wrap ((IntKind.u32.wrap (IntKind.u8.wrap (BitVec.ofInt 8 ((s.getD 2 0).toNat:Int) &&& BitVec.ofInt 8 127).toNat)) * 16384))).toNat))),(48,.v (.slice A s.length c))] hW aH fun bz aI=>?_
 refine qai (qat aI (t:=22) (A:=A) (m:=s.length) (q:=2) (d:=49) kz (e:=5) (size:=1) (bytes:=1) (j:=2) kz ak rfl (by first | omega | (simp only [List.length_append,be_length,List.length_cons,List.length_nil] at *; omega)) fun bA aJ=>?_)
 refine qai (qaK aJ (t:=5) (b:=aQ) (o:=aR + 2 * 1) (d:=50) kz (cs:=[.int .u8 ((s.getD 2 0).toNat:Int)]) (v:=.int .u8 ((s.getD 2 0).toNat:Int)) kz (AtF.move ac hW.step nilM qbb).at_ fun bB aK=>?_)
 refine qaj [3,4] [] [(0,.v (.slice A s.length c)),(4,.v (.int .u32 (IntKind.u32.wrap (BitVec.ofInt 32 (IntKind.u32.wrap (BitVec.ofInt 32 (IntKind.u32.wrap (IntKind.u8.wrap (BitVec.ofInt 8 ((s.getD 0 0).toNat:Int) &&& BitVec.ofInt 8 127).toNat)) ||| BitVec.ofInt 32 (IntKind.u32.wrap ((IntKind.u32.wrap (IntKind.u8.wrap (BitVec.ofInt 8 ((s.getD 1 0).toNat:Int) &&& BitVec.ofInt 8 127).toNat)) * 128))).toNat) ||| BitVec.ofInt 32 (IntKind.u32.wrap ((IntKind.u32.wrap (IntKind.u8.wrap (BitVec.ofInt 8 ((s.getD 2 0).toNat:Int) &&& BitVec.ofInt 8 127).toNat)) * 16384))).toNat))),(52,.v (.bool ((IntKind.u8.wrap (BitVec.ofInt 8 ((s.getD 2 0).toNat:Int) &&& BitVec.ofInt 8 128).toNat) == 0)))] hW aK fun bC al=>?_
 refine qae (qab ?_)
 refine qbl al (b:=(IntKind.u8.wrap (BitVec.ofInt 8 ((s.getD 2 0).toNat:Int) &&& BitVec.ofInt 8 128).toNat) == 0) kz ((qcS _ (qb7 s 2)).trans (decide_eq_true (by have:=h2; unfold oc at this; omega))) ?_
 refine qas [(2,.v (.int .u32 (IntKind.u32.wrap (BitVec.ofInt 32 (IntKind.u32.wrap (BitVec.ofInt 32 (IntKind.u32.wrap (IntKind.u8.wrap (BitVec.ofInt 8 ((s.getD 0 0).toNat:Int) &&& BitVec.ofInt 8 127).toNat)) ||| BitVec.ofInt 32 (IntKind.u32.wrap ((IntKind.u32.wrap (IntKind.u8.wrap (BitVec.ofInt 8 ((s.getD 1 0).toNat:Int) &&& BitVec.ofInt 8 127).toNat)) * 128))).toNat) ||| BitVec.ofInt 32 (IntKind.u32.wrap ((IntKind.u32.wrap (IntKind.u8.wrap (BitVec.ofInt 8 ((s.getD 2 0).toNat:Int) &&& BitVec.ofInt 8 127).toNat)) * 16384))).toNat))),(3,.v (.int .i64 3))] hW al fun bD aL=>?_
 refine wp_ret ?_
 refine qaD ?_
 refine qdp ?_
 refine qaX aL hW.cells (v:=.tuple #[.int .u32 (IntKind.u32.wrap (BitVec.ofInt 32 (IntKind.u32.wrap (BitVec.ofInt 32 (IntKind.u32.wrap (IntKind.u8.wrap (BitVec.ofInt 8 ((s.getD 0 0).toNat:Int) &&& BitVec.ofInt 8 127).toNat)) ||| BitVec.ofInt 32 (IntKind.u32.wrap ((IntKind.u32.wrap (IntKind.u8.wrap (BitVec.ofInt 8 ((s.getD 1 0).toNat:Int) &&& BitVec.ofInt 8 127).toNat)) * 128))).toNat) ||| BitVec.ofInt 32 (IntKind.u32.wrap ((IntKind.u32.wrap (IntKind.u8.wrap (BitVec.ofInt 8 ((s.getD 2 0).toNat:Int) &&& BitVec.ofInt 8 127).toNat)) * 16384))).toNat),.int .i64 3]) kz ?_
 have e_:=uv_3 (oc s 0) (oc s 1) (oc s 2) (qb7 s 0) (qb7 s 1) (qb7 s 2)
 refine ⟨congrArg (fun z_:Int=>Ending.returned (.tuple #[.int .u32 z_,.int .i64 3])) (Eq.trans e_ ?_),hW.step⟩
 omega
theorem rUv4 {A:Option Addr} {c:Nat} (s:Bs) {w:World} {F:Nat → Nat → Prop} (ho:Octs w F A c s) (hl:4 ≤ s.length) (d0 d1 d2 d3:Nat) (h0:oc s 0 = d0 + 128) (h1:oc s 1 = d1 + 128) (h2:oc s 2 = d2 + 128) (h3:oc s 3 = d3) (g0:d0 < 128) (g1:d1 < 128) (g2:d2 < 128) (g3:d3 < 128) :
  Calls Tryz.prog 205 #[.slice A s.length c] w (qcG w (.tuple #[.int .u32 ((d0 + d1 * 128 + d2 * 16384 + d3 * 2097152:Nat):Int),.int .i64 4])):=by
 refine enter (n:=87) Tryz.func205 rfl Tryz.ntmps205 kz fun a hE=>?_
 have hW:=WOk.start w Nil
 refine qas [(0,.v (.slice A s.length c))] hW hE fun a1 hE2=>?_
 refine wp_scope_straight ?_
 refine qas [(0,.v (.slice A s.length c))] hW hE2 fun a3 hE4=>?_
 refine qas [(0,.v (.slice A s.length c))] hW hE4 fun a5 hE6=>?_
 refine wp_seq ?_
 refine qas [(0,.v (.slice A s.length c)),(8,.v (.bool (decide (((s.length:Nat):Int) < 1))))] hW hE6 fun a7 hE8=>?_
 refine qau hE8 (b:=decide (((s.length:Nat):Int) < 1)) kz (decide_eq_false (by omega)) ?_
 refine wp_skip ?_
 refine qab ?_
 refine qad [0,1,2,3,4,5] kz ?_
 refine qaj [0] [1,2,3,4,5] [(0,.v (.slice A s.length c)),(9,.v (.slice A s.length c))] hW hE8 fun a9 av=>?_
 obtain ⟨aX,aY,af,bi,aa⟩:=Slots.get ho (i:=0) (by first | omega | (simp only [List.length_append,be_length,List.length_cons,List.length_nil] at *; omega))
 refine qai (qat av (t:=22) (A:=A) (m:=s.length) (q:=0) (d:=10) kz (e:=5) (size:=1) (bytes:=1) (j:=0) kz af rfl (by first | omega | (simp only [List.length_append,be_length,List.length_cons,List.length_nil] at *; omega)) fun bo aw=>?_)
 refine qai (qaK aw (t:=5) (b:=aX) (o:=aY + 0 * 1) (d:=11) kz (cs:=[.int .u8 ((s.getD 0 0).toNat:Int)]) (v:=.int .u8 ((s.getD 0 0).toNat:Int)) kz (AtF.move aa hW.step nilM qbb).at_ fun bp ax=>?_)
 refine qaj [3,4,5] [] [(0,.v (.slice A s.length c)),(4,.v (.int .u32 (IntKind.u32.wrap (IntKind.u8.wrap (BitVec.ofInt 8 ((s.getD 0 0).toNat:Int) &&& BitVec.ofInt 8 127).toNat))))] hW ax fun bq ay=>?_
 refine qae (qab ?_)
 refine wp_seq ?_
 refine qad [0,1,2,3,4] kz ?_
 refine qaj [0] [1,2,3,4] [(0,.v (.slice A s.length c)),(4,.v (.int .u32 (IntKind.u32.wrap (IntKind.u8.wrap (BitVec.ofInt 8 ((s.getD 0 0).toNat:Int) &&& BitVec.ofInt 8 127).toNat)))),(14,.v (.slice A s.length c))] hW ay fun bt az=>?_
 refine qai (qat az (t:=22) (A:=A) (m:=s.length) (q:=0) (d:=15) kz (e:=5) (size:=1) (bytes:=1) (j:=0) kz af rfl (by first | omega | (simp only [List.length_append,be_length,List.length_cons,List.length_nil] at *; omega)) fun bu aA=>?_)
 refine qai (qaK aA (t:=5) (b:=aX) (o:=aY + 0 * 1) (d:=16) kz (cs:=[.int .u8 ((s.getD 0 0).toNat:Int)]) (v:=.int .u8 ((s.getD 0 0).toNat:Int)) kz (AtF.move aa hW.step nilM qbb).at_ fun bw aB=>?_)
 refine qaj [3,4] [] [(0,.v (.slice A s.length c)),(4,.v (.int .u32 (IntKind.u32.wrap (IntKind.u8.wrap (BitVec.ofInt 8 ((s.getD 0 0).toNat:Int) &&& BitVec.ofInt 8 127).toNat)))),(18,.v (.bool ((IntKind.u8.wrap (BitVec.ofInt 8 ((s.getD 0 0).toNat:Int) &&& BitVec.ofInt 8 128).toNat) == 0)))] hW aB fun bx ag=>?_
 refine qae (qab ?_)
 refine qau ag (b:=(IntKind.u8.wrap (BitVec.ofInt 8 ((s.getD 0 0).toNat:Int) &&& BitVec.ofInt 8 128).toNat) == 0) kz ((qcS _ (qb7 s 0)).trans (decide_eq_false (by have:=h0; unfold oc at this; omega))) ?_
 refine qas [(0,.v (.slice A s.length c)),(4,.v (.int .u32 (IntKind.u32.wrap (IntKind.u8.wrap (BitVec.ofInt 8 ((s.getD 0 0).toNat:Int) &&& BitVec.ofInt 8 127).toNat)))),(22,.v (.bool (decide (((s.length:Nat):Int) < 2))))] hW ag fun bz ah=>?_
 refine qau ah (b:=decide (((s.length:Nat):Int) < 2)) kz (decide_eq_false (by omega)) ?_
 refine wp_skip ?_
 refine qab ?_
 refine qad [0,1,2,3,4,5,6,7,8] kz ?_
 refine qaj [0,1] [2,3,4,5,6,7,8] [(0,.v (.slice A s.length c)),(23,.v (.int .u32 (IntKind.u32.wrap (IntKind.u8.wrap (BitVec.ofInt 8 ((s.getD 0 0).toNat:Int) &&& BitVec.ofInt 8 127).toNat)))),(24,.v (.slice A s.length c))] hW ah fun bA aC=>?_
 obtain ⟨aZ,ba,ai,bj,ab⟩:=Slots.get ho (i:=1) (by first | omega | (simp only [List.length_append,be_length,List.length_cons,List.length_nil] at *; omega))
 refine qai (qat aC (t:=22) (A:=A) (m:=s.length) (q:=1) (d:=25) kz (e:=5) (size:=1) (bytes:=1) (j:=1) kz ai rfl (by first | omega | (simp only [List.length_append,be_length,List.length_cons,List.length_nil] at *; omega)) fun bB aD=>?_)
 refine qai (qaK aD (t:=5) (b:=aZ) (o:=ba + 1 * 1) (d:=26) kz (cs:=[.int .u8 ((s.getD 1 0).toNat:Int)]) (v:=.int .u8 ((s.getD 1 0).toNat:Int)) kz (AtF.move ab hW.step nilM qbb).at_ fun bC aE=>?_)
 refine qaj [4,5,6,7,8] [] [(0,.v (.slice A s.length c)),(4,.v (.int .u32 (IntKind.u32.wrap (BitVec.ofInt 32 (IntKind.u32.wrap (IntKind.u8.wrap (BitVec.ofInt 8 ((s.getD 0 0).toNat:Int) &&& BitVec.ofInt 8 127).toNat)) ||| BitVec.ofInt 32 (IntKind.u32.wrap ((IntKind.u32.wrap (IntKind.u8.wrap (BitVec.ofInt 8 ((s.getD 1 0).toNat:Int) &&& BitVec.ofInt 8 127).toNat)) * 128))).toNat)))] hW aE fun bD aF=>?_
 refine qae (qab ?_)
 refine wp_seq ?_
 refine qad [0,1,2,3,4] kz ?_
 refine qaj [0] [1,2,3,4] [(0,.v (.slice A s.length c)),(4,.v (.int .u32 (IntKind.u32.wrap (BitVec.ofInt 32 (IntKind.u32.wrap (IntKind.u8.wrap (BitVec.ofInt 8 ((s.getD 0 0).toNat:Int) &&& BitVec.ofInt 8 127).toNat)) ||| BitVec.ofInt 32 (IntKind.u32.wrap ((IntKind.u32.wrap (IntKind.u8.wrap (BitVec.ofInt 8 ((s.getD 1 0).toNat:Int) &&& BitVec.ofInt 8 127).toNat)) * 128))).toNat))),(31,.v (.slice A s.length c))] hW aF fun bE aG=>?_
 refine qai (qat aG (t:=22) (A:=A) (m:=s.length) (q:=1) (d:=32) kz (e:=5) (size:=1) (bytes:=1) (j:=1) kz ai rfl (by first | omega | (simp only [List.length_append,be_length,List.length_cons,List.length_nil] at *; omega)) fun bF aH=>?_)
 refine qai (qaK aH (t:=5) (b:=aZ) (o:=ba + 1 * 1) (d:=33) kz (cs:=[.int .u8 ((s.getD 1 0).toNat:Int)]) (v:=.int .u8 ((s.getD 1 0).toNat:Int)) kz (AtF.move ab hW.step nilM qbb).at_ fun bG aI=>?_)
 refine qaj [3,4] [] [(0,.v (.slice A s.length c)),(4,.v (.int .u32 (IntKind.u32.wrap (BitVec.ofInt 32 (IntKind.u32.wrap (IntKind.u8.wrap (BitVec.ofInt 8 ((s.getD 0 0).toNat:Int) &&& BitVec.ofInt 8 127).toNat)) ||| BitVec.ofInt 32 (IntKind.u32.wrap ((IntKind.u32.wrap (IntKind.u8.wrap (BitVec.ofInt 8 ((s.getD 1 0).toNat:Int) &&& BitVec.ofInt 8 127).toNat)) * 128))).toNat))),(35,.v (.bool ((IntKind.u8.wrap (BitVec.ofInt 8 ((s.getD 1 0).toNat:Int) &&& BitVec.ofInt 8 128).toNat) == 0)))] hW aI fun bH aj=>?_
 refine qae (qab ?_)
 refine qau aj (b:=(IntKind.u8.wrap (BitVec.ofInt 8 ((s.getD 1 0).toNat:Int) &&& BitVec.ofInt 8 128).toNat) == 0) kz ((qcS _ (qb7 s 1)).trans (decide_eq_false (by have:=h1; unfold oc at this; omega))) ?_
 refine qas [(0,.v (.slice A s.length c)),(4,.v (.int .u32 (IntKind.u32.wrap (BitVec.ofInt 32 (IntKind.u32.wrap (IntKind.u8.wrap (BitVec.ofInt 8 ((s.getD 0 0).toNat:Int) &&& BitVec.ofInt 8 127).toNat)) ||| BitVec.ofInt 32 (IntKind.u32.wrap ((IntKind.u32.wrap (IntKind.u8.wrap (BitVec.ofInt 8 ((s.getD 1 0).toNat:Int) &&& BitVec.ofInt 8 127).toNat)) * 128))).toNat))),(39,.v (.bool (decide (((s.length:Nat):Int) < 3))))] hW aj fun bI ak=>?_
 refine qau ak (b:=decide (((s.length:Nat):Int) < 3)) kz (decide_eq_false (by omega)) ?_
 refine wp_skip ?_
 refine qab ?_
 refine qad [0,1,2,3,4,5,6,7,8] kz ?_
 refine qaj [0,1] [2,3,4,5,6,7,8] [(0,.v (.slice A s.length c)),(40,.v (.int .u32 (IntKind.u32.wrap (BitVec.ofInt 32 (IntKind.u32.wrap (IntKind.u8.wrap (BitVec.ofInt 8 ((s.getD 0 0).toNat:Int) &&& BitVec.ofInt 8 127).toNat)) ||| BitVec.ofInt 32 (IntKind.u32.wrap ((IntKind.u32.wrap (IntKind.u8.wrap (BitVec.ofInt 8 ((s.getD 1 0).toNat:Int) &&& BitVec.ofInt 8 127).toNat)) * 128))).toNat))),(41,.v (.slice A s.length c))] hW ak fun bJ aJ=>?_
 obtain ⟨bd,bf,al,bk,ac⟩:=Slots.get ho (i:=2) (by first | omega | (simp only [List.length_append,be_length,List.length_cons,List.length_nil] at *; omega))
 refine qai (qat aJ (t:=22) (A:=A) (m:=s.length) (q:=2) (d:=42) kz (e:=5) (size:=1) (bytes:=1) (j:=2) kz al rfl (by first | omega | (simp only [List.length_append,be_length,List.length_cons,List.length_nil] at *; omega)) fun bK aK=>?_)
 refine qai (qaK aK (t:=5) (b:=bd) (o:=bf + 2 * 1) (d:=43) kz (cs:=[.int .u8 ((s.getD 2 0).toNat:Int)]) (v:=.int .u8 ((s.getD 2 0).toNat:Int)) kz (AtF.move ac hW.step nilM qbb).at_ fun bL aL=>?_)
 refine qaj [4,5,6,7,8] [] [(0,.v (.slice A s.length c)),(4,.v (.int .u32 (IntKind.u32.wrap (BitVec.ofInt 32 (IntKind.u32.wrap (BitVec.ofInt 32 (IntKind.u32.wrap (IntKind.u8.wrap (BitVec.ofInt 8 ((s.getD 0 0).toNat:Int) &&& BitVec.ofInt 8 127).toNat)) ||| BitVec.ofInt 32 (IntKind.u32.wrap ((IntKind.u32.wrap (IntKind.u8.wrap (BitVec.ofInt 8 ((s.getD 1 0).toNat:Int) &&& BitVec.ofInt 8 127).toNat)) * 128))).toNat) ||| BitVec.ofInt 32 (IntKind.u32.wrap ((IntKind.u32.wrap (IntKind.u8.wrap (BitVec.ofInt 8 ((s.getD 2 0).toNat:Int) &&& BitVec.ofInt 8 127).toNat)) * 16384))).toNat)))] hW aL fun bM aM=>?_
 refine qae (qab ?_)
 refine wp_seq ?_
 refine qad [0,1,2,3,4] kz ?_
 refine qaj [0] [1,2,3,4] [(0,.v (.slice A s.length c)),(4,.v (.int .u32 (IntKind.u32.wrap (BitVec.ofInt 32 (IntKind.u32.wrap (BitVec.ofInt 32 (IntKind.u32.wrap (IntKind.u8.wrap (BitVec.ofInt 8 ((s.getD 0 0).toNat:Int) &&& BitVec.ofInt 8 127).toNat)) ||| BitVec.ofInt 32 (IntKind.u32.wrap ((IntKind.u32.wrap (IntKind.u8.wrap (BitVec.ofInt 8 ((s.getD 1 0).toNat:Int) &&& BitVec.ofInt 8 127).toNat)) * 128))).toNat) ||| BitVec.ofInt 32 (IntKind.u32.wrap ((IntKind.u32.wrap (IntKind.u8.wrap (BitVec.ofInt 8 ((s.getD 2 0).toNat:Int) &&& BitVec.ofInt 8 127).toNat)) * 16384))).toNat))),(48,.v (.slice A s.length c))] hW aM fun bN aN=>?_
 refine qai (qat aN (t:=22) (A:=A) (m:=s.length) (q:=2) (d:=49) kz (e:=5) (size:=1) (bytes:=1) (j:=2) kz al rfl (by first | omega | (simp only [List.length_append,be_length,List.length_cons,List.length_nil] at *; omega)) fun bO aO=>?_)
 refine qai (qaK aO (t:=5) (b:=bd) (o:=bf + 2 * 1) (d:=50) kz (cs:=[.int .u8 ((s.getD 2 0).toNat:Int)]) (v:=.int .u8 ((s.getD 2 0).toNat:Int)) kz (AtF.move ac hW.step nilM qbb).at_ fun bP aP=>?_)
 refine qaj [3,4] [] [(0,.v (.slice A s.length c)),(4,.v (.int .u32 (IntKind.u32.wrap (BitVec.ofInt 32 (IntKind.u32.wrap (BitVec.ofInt 32 (IntKind.u32.wrap (IntKind.u8.wrap (BitVec.ofInt 8 ((s.getD 0 0).toNat:Int) &&& BitVec.ofInt 8 127).toNat)) ||| BitVec.ofInt 32 (IntKind.u32.wrap ((IntKind.u32.wrap (IntKind.u8.wrap (BitVec.ofInt 8 ((s.getD 1 0).toNat:Int) &&& BitVec.ofInt 8 127).toNat)) * 128))).toNat) ||| BitVec.ofInt 32 (IntKind.u32.wrap ((IntKind.u32.wrap (IntKind.u8.wrap (BitVec.ofInt 8 ((s.getD 2 0).toNat:Int) &&& BitVec.ofInt 8 127).toNat)) * 16384))).toNat))),(52,.v (.bool ((IntKind.u8.wrap (BitVec.ofInt 8 ((s.getD 2 0).toNat:Int) &&& BitVec.ofInt 8 128).toNat) == 0)))] hW aP fun bQ am=>?_
 refine qae (qab ?_)
 refine qau am (b:=(IntKind.u8.wrap (BitVec.ofInt 8 ((s.getD 2 0).toNat:Int) &&& BitVec.ofInt 8 128).toNat) == 0) kz ((qcS _ (qb7 s 2)).trans (decide_eq_false (by have:=h2; unfold oc at this; omega))) ?_
 refine qas [(0,.v (.slice A s.length c)),(4,.v (.int .u32 (IntKind.u32.wrap (BitVec.ofInt 32 (IntKind.u32.wrap (BitVec.ofInt 32 (IntKind.u32.wrap (IntKind.u8.wrap (BitVec.ofInt 8 ((s.getD 0 0).toNat:Int) &&& BitVec.ofInt 8 127).toNat)) ||| BitVec.ofInt 32 (IntKind.u32.wrap ((IntKind.u32.wrap (IntKind.u8.wrap (BitVec.ofInt 8 ((s.getD 1 0).toNat:Int) &&& BitVec.ofInt 8 127).toNat)) * 128))).toNat) ||| BitVec.ofInt 32 (IntKind.u32.wrap ((IntKind.u32.wrap (IntKind.u8.wrap (BitVec.ofInt 8 ((s.getD 2 0).toNat:Int) &&& BitVec.ofInt 8 127).toNat)) * 16384))).toNat))),(56,.v (.bool (decide (((s.length:Nat):Int) < 4))))] hW am fun bR ao=>?_
 refine qau ao (b:=decide (((s.length:Nat):Int) < 4)) kz (decide_eq_false (by omega)) ?_
 refine wp_skip ?_
 refine qab ?_
 refine qad [0,1,2,3,4,5,6,7,8] kz ?_
 refine qaj [0,1] [2,3,4,5,6,7,8] [(0,.v (.slice A s.length c)),(57,.v (.int .u32 (IntKind.u32.wrap (BitVec.ofInt 32 (IntKind.u32.wrap (BitVec.ofInt 32 (IntKind.u32.wrap (IntKind.u8.wrap (BitVec.ofInt 8 ((s.getD 0 0).toNat:Int) &&& BitVec.ofInt 8 127).toNat)) ||| BitVec.ofInt 32 (IntKind.u32.wrap ((IntKind.u32.wrap (IntKind.u8.wrap (BitVec.ofInt 8 ((s.getD 1 0).toNat:Int) &&& BitVec.ofInt 8 127).toNat)) * 128))).toNat) ||| BitVec.ofInt 32 (IntKind.u32.wrap ((IntKind.u32.wrap (IntKind.u8.wrap (BitVec.ofInt 8 ((s.getD 2 0).toNat:Int) &&& BitVec.ofInt 8 127).toNat)) * 16384))).toNat))),(58,.v (.slice A s.length c))] hW ao fun bS aQ=>?_
 obtain ⟨bg,bh,ap,bn,ae⟩:=Slots.get ho (i:=3) (by first | omega | (simp only [List.length_append,be_length,List.length_cons,List.length_nil] at *; omega))
 refine qai (qat aQ (t:=22) (A:=A) (m:=s.length) (q:=3) (d:=59) kz (e:=5) (size:=1) (bytes:=1) (j:=3) kz ap rfl (by first | omega | (simp only [List.length_append,be_length,List.length_cons,List.length_nil] at *; omega)) fun bT aR=>?_)
 refine qai (qaK aR (t:=5) (b:=bg) (o:=bh + 3 * 1) (d:=60) kz (cs:=[.int .u8 ((s.getD 3 0).toNat:Int)]) (v:=.int .u8 ((s.getD 3 0).toNat:Int)) kz (AtF.move ae hW.step nilM qbb).at_ fun bU aS=>?_)
 refine qaj [4,5,6,7,8] [] [(0,.v (.slice A s.length c)),(4,.v (.int .u32 (IntKind.u32.wrap (BitVec.ofInt 32 (IntKind.u32.wrap (BitVec.ofInt 32 (IntKind.u32.wrap (BitVec.ofInt 32 (IntKind.u32.wrap (IntKind.u8.wrap (BitVec.ofInt 8 ((s.getD 0 0).toNat:Int) &&& BitVec.ofInt 8 127).toNat)) ||| BitVec.ofInt 32 (IntKind.u32.wrap ((IntKind.u32.wrap (IntKind.u8.wrap (BitVec.ofInt 8 ((s.getD 1 0).toNat:Int) &&& BitVec.ofInt 8 127).toNat)) * 128))).toNat) ||| BitVec.ofInt 32 (IntKind.u32.wrap ((IntKind.u32.wrap (IntKind.u8.wrap (BitVec.ofInt 8 ((s.getD 2 0).toNat:Int) &&& BitVec.ofInt 8 127).toNat)) * 16384))).toNat) ||| BitVec.ofInt 32 (IntKind.u32.wrap ((IntKind.u32.wrap (IntKind.u8.wrap (BitVec.ofInt 8 ((s.getD 3 0).toNat:Int) &&& BitVec.ofInt 8 127).toNat)) * 2097152))).toNat)))] hW aS fun bV aT=>?_
 refine qae (qab ?_)
 refine wp_seq ?_
 refine qad [0,1,2,3,4] kz ?_
 refine qaj [0] [1,2,3,4] [(0,.v (.slice A s.length c)),(4,.v (.int .u32 (IntKind.u32.wrap (BitVec.ofInt 32 (IntKind.u32.wrap (BitVec.ofInt 32 (IntKind.u32.wrap (BitVec.ofInt 32 (IntKind.u32.wrap (IntKind.u8.wrap (BitVec.ofInt 8 ((s.getD 0 0).toNat:Int) &&& BitVec.ofInt 8 127).toNat)) ||| BitVec.ofInt 32 (IntKind.u32.wrap ((IntKind.u32.wrap (IntKind.u8.wrap (BitVec.ofInt 8 ((s.getD 1 0).toNat:Int) &&& BitVec.ofInt 8 127).toNat)) * 128))).toNat) ||| BitVec.ofInt 32 (IntKind.u32.wrap ((IntKind.u32.wrap (IntKind.u8.wrap (BitVec.ofInt 8 ((s.getD 2 0).toNat:Int) &&& BitVec.ofInt 8 127).toNat)) * 16384))).toNat) ||| BitVec.ofInt 32 (IntKind.u32.wrap ((IntKind.u32.wrap (IntKind.u8.wrap (BitVec.ofInt 8 ((s.getD 3 0).toNat:Int) &&& BitVec.ofInt 8 127).toNat)) * 2097152))).toNat))),(65,.v (.slice A s.length c))] hW aT fun bW aU=>?_
 refine qai (qat aU (t:=22) (A:=A) (m:=s.length) (q:=3) (d:=66) kz (e:=5) (size:=1) (bytes:=1) (j:=3) kz ap rfl (by first | omega | (simp only [List.length_append,be_length,List.length_cons,List.length_nil] at *; omega)) fun bX aV=>?_)
 refine qai (qaK aV (t:=5) (b:=bg) (o:=bh + 3 * 1) (d:=67) kz (cs:=[.int .u8 ((s.getD 3 0).toNat:Int)]) (v:=.int .u8 ((s.getD 3 0).toNat:Int)) kz (AtF.move ae hW.step nilM qbb).at_ fun bY aW=>?_)
 refine qaj [3,4] [] [(0,.v (.slice A s.length c)),(4,.v (.int .u32 (IntKind.u32.wrap (BitVec.ofInt 32 (IntKind.u32.wrap (BitVec.ofInt 32 (IntKind.u32.wrap (BitVec.ofInt 32 (IntKind.u32.wrap (IntKind.u8.wrap (BitVec.ofInt 8 ((s.getD 0 0).toNat:Int) &&& BitVec.ofInt 8 127).toNat)) ||| BitVec.ofInt 32 (IntKind.u32.wrap ((IntKind.u32.wrap (IntKind.u8.wrap (BitVec.ofInt 8 ((s.getD 1 0).toNat:Int) &&& BitVec.ofInt 8 127).toNat)) * 128))).toNat) ||| BitVec.ofInt 32 (IntKind.u32.wrap ((IntKind.u32.wrap (IntKind.u8.wrap (BitVec.ofInt 8 ((s.getD 2 0).toNat:Int) &&& BitVec.ofInt 8 127).toNat)) * 16384))).toNat) ||| BitVec.ofInt 32 (IntKind.u32.wrap ((IntKind.u32.wrap (IntKind.u8.wrap (BitVec.ofInt 8 ((s.getD 3 0).toNat:Int) &&& BitVec.ofInt 8 127).toNat)) * 2097152))).toNat))),(69,.v (.bool ((IntKind.u8.wrap (BitVec.ofInt 8 ((s.getD 3 0).toNat:Int) &&& BitVec.ofInt 8 128).toNat) == 0)))] hW aW fun bZ ar=>?_
 refine qae (qab ?_)
 refine qbl ar (b:=(IntKind.u8.wrap (BitVec.ofInt 8 ((s.getD 3 0).toNat:Int) &&& BitVec.ofInt 8 128).toNat) == 0) kz ((qcS _ (qb7 s 3)).trans (decide_eq_true (by have:=h3; unfold oc at this; omega))) ?_
 refine qas [(2,.v (.int .u32 (IntKind.u32.wrap (BitVec.ofInt 32 (IntKind.u32.wrap (BitVec.ofInt 32 (IntKind.u32.wrap (BitVec.ofInt 32 (IntKind.u32.wrap (IntKind.u8.wrap (BitVec.ofInt 8 ((s.getD 0 0).toNat:Int) &&& BitVec.ofInt 8 127).toNat)) ||| BitVec.ofInt 32 (IntKind.u32.wrap ((IntKind.u32.wrap (IntKind.u8.wrap (BitVec.ofInt 8 ((s.getD 1 0).toNat:Int) &&& BitVec.ofInt 8 127).toNat)) * 128))).toNat) ||| BitVec.ofInt 32 (IntKind.u32.wrap ((IntKind.u32.wrap (IntKind.u8.wrap (BitVec.ofInt 8 ((s.getD 2 0).toNat:Int) &&& BitVec.ofInt 8 127).toNat)) * 16384))).toNat) ||| BitVec.ofInt 32 (IntKind.u32.wrap ((IntKind.u32.wrap (IntKind.u8.wrap (BitVec.ofInt 8 ((s.getD 3 0).toNat:Int) &&& BitVec.ofInt 8 127).toNat)) * 2097152))).toNat))),(3,.v (.int .i64 4))] hW ar fun b8 au=>?_
 refine wp_ret ?_
 refine qaD ?_
 refine qdp ?_
 refine qaX au hW.cells (v:=.tuple #[.int .u32 (IntKind.u32.wrap (BitVec.ofInt 32 (IntKind.u32.wrap (BitVec.ofInt 32 (IntKind.u32.wrap (BitVec.ofInt 32 (IntKind.u32.wrap (IntKind.u8.wrap (BitVec.ofInt 8 ((s.getD 0 0).toNat:Int) &&& BitVec.ofInt 8 127).toNat)) ||| BitVec.ofInt 32 (IntKind.u32.wrap ((IntKind.u32.wrap (IntKind.u8.wrap (BitVec.ofInt 8 ((s.getD 1 0).toNat:Int) &&& BitVec.ofInt 8 127).toNat)) * 128))).toNat) ||| BitVec.ofInt 32 (IntKind.u32.wrap ((IntKind.u32.wrap (IntKind.u8.wrap (BitVec.ofInt 8 ((s.getD 2 0).toNat:Int) &&& BitVec.ofInt 8 127).toNat)) * 16384))).toNat) ||| BitVec.ofInt 32 (IntKind.u32.wrap ((IntKind.u32.wrap (IntKind.u8.wrap (BitVec.ofInt 8 ((s.getD 3 0).toNat:Int) &&& BitVec.ofInt 8 127).toNat)) * 2097152))).toNat),.int .i64 4]) kz ?_
 have e_:=uv_4 (oc s 0) (oc s 1) (oc s 2) (oc s 3) (qb7 s 0) (qb7 s 1) (qb7 s 2) (qb7 s 3)
 refine ⟨congrArg (fun z_:Int=>Ending.returned (.tuple #[.int .u32 z_,.int .i64 4])) (Eq.trans e_ ?_),hW.step⟩
 omega
theorem rUv5 {A:Option Addr} {c:Nat} (s:Bs) {w:World} {F:Nat → Nat → Prop} (ho:Octs w F A c s) (hl:5 ≤ s.length) (d0 d1 d2 d3 d4:Nat) (h0:oc s 0 = d0 + 128) (h1:oc s 1 = d1 + 128) (h2:oc s 2 = d2 + 128) (h3:oc s 3 = d3 + 128) (h4:oc s 4 = d4) (g0:d0 < 128) (g1:d1 < 128) (g2:d2 < 128) (g3:d3 < 128) (g4:d4 < 16) :
  Calls Tryz.prog 205 #[.slice A s.length c] w (qcG w (.tuple #[.int .u32 ((d0 + d1 * 128 + d2 * 16384 + d3 * 2097152 + d4 * 268435456:Nat):Int),.int .i64 5])):=by
 refine enter (n:=87) Tryz.func205 rfl Tryz.ntmps205 kz fun a hE=>?_
 have hW:=WOk.start w Nil
 refine qas [(0,.v (.slice A s.length c))] hW hE fun a1 hE2=>?_
 refine wp_scope_straight ?_
 refine qas [(0,.v (.slice A s.length c))] hW hE2 fun a3 hE4=>?_
 refine qas [(0,.v (.slice A s.length c))] hW hE4 fun a5 hE6=>?_
 refine wp_seq ?_
 refine qas [(0,.v (.slice A s.length c)),(8,.v (.bool (decide (((s.length:Nat):Int) < 1))))] hW hE6 fun a7 hE8=>?_
 refine qau hE8 (b:=decide (((s.length:Nat):Int) < 1)) kz (decide_eq_false (by omega)) ?_
 refine wp_skip ?_
 refine qab ?_
 refine qad [0,1,2,3,4,5] kz ?_
 refine qaj [0] [1,2,3,4,5] [(0,.v (.slice A s.length c)),(9,.v (.slice A s.length c))] hW hE8 fun a9 aI=>?_
 obtain ⟨bp,bq,aj,bC,ab⟩:=Slots.get ho (i:=0) (by first | omega | (simp only [List.length_append,be_length,List.length_cons,List.length_nil] at *; omega))
 refine qai (qat aI (t:=22) (A:=A) (m:=s.length) (q:=0) (d:=10) kz (e:=5) (size:=1) (bytes:=1) (j:=0) kz aj rfl (by first | omega | (simp only [List.length_append,be_length,List.length_cons,List.length_nil] at *; omega)) fun bP aJ=>?_)
 refine qai (qaK aJ (t:=5) (b:=bp) (o:=bq + 0 * 1) (d:=11) kz (cs:=[.int .u8 ((s.getD 0 0).toNat:Int)]) (v:=.int .u8 ((s.getD 0 0).toNat:Int)) kz (AtF.move ab hW.step nilM qbb).at_ fun bQ aK=>?_)
 refine qaj [3,4,5] [] [(0,.v (.slice A s.length c)),(4,.v (.int .u32 (IntKind.u32.wrap (IntKind.u8.wrap (BitVec.ofInt 8 ((s.getD 0 0).toNat:Int) &&& BitVec.ofInt 8 127).toNat))))] hW aK fun bR aL=>?_
 refine qae (qab ?_)
 refine wp_seq ?_
 refine qad [0,1,2,3,4] kz ?_
 refine qaj [0] [1,2,3,4] [(0,.v (.slice A s.length c)),(4,.v (.int .u32 (IntKind.u32.wrap (IntKind.u8.wrap (BitVec.ofInt 8 ((s.getD 0 0).toNat:Int) &&& BitVec.ofInt 8 127).toNat)))),(14,.v (.slice A s.length c))] hW aL fun bS aM=>?_
 refine qai (qat aM (t:=22) (A:=A) (m:=s.length) (q:=0) (d:=15) kz (e:=5) (size:=1) (bytes:=1) (j:=0) kz aj rfl (by first | omega | (simp only [List.length_append,be_length,List.length_cons,List.length_nil] at *; omega)) fun bT aN=>?_)
 refine qai (qaK aN (t:=5) (b:=bp) (o:=bq + 0 * 1) (d:=16) kz (cs:=[.int .u8 ((s.getD 0 0).toNat:Int)]) (v:=.int .u8 ((s.getD 0 0).toNat:Int)) kz (AtF.move ab hW.step nilM qbb).at_ fun bU aO=>?_)
 refine qaj [3,4] [] [(0,.v (.slice A s.length c)),(4,.v (.int .u32 (IntKind.u32.wrap (IntKind.u8.wrap (BitVec.ofInt 8 ((s.getD 0 0).toNat:Int) &&& BitVec.ofInt 8 127).toNat)))),(18,.v (.bool ((IntKind.u8.wrap (BitVec.ofInt 8 ((s.getD 0 0).toNat:Int) &&& BitVec.ofInt 8 128).toNat) == 0)))] hW aO fun bV ak=>?_
 refine qae (qab ?_)
 refine qau ak (b:=(IntKind.u8.wrap (BitVec.ofInt 8 ((s.getD 0 0).toNat:Int) &&& BitVec.ofInt 8 128).toNat) == 0) kz ((qcS _ (qb7 s 0)).trans (decide_eq_false (by have:=h0; unfold oc at this; omega))) ?_
 refine qas [(0,.v (.slice A s.length c)),(4,.v (.int .u32 (IntKind.u32.wrap (IntKind.u8.wrap (BitVec.ofInt 8 ((s.getD 0 0).toNat:Int) &&& BitVec.ofInt 8 127).toNat)))),(22,.v (.bool (decide (((s.length:Nat):Int) < 2))))] hW ak fun bW al=>?_
 refine qau al (b:=decide (((s.length:Nat):Int) < 2)) kz (decide_eq_false (by omega)) ?_
 refine wp_skip ?_
 refine qab ?_
 refine qad [0,1,2,3,4,5,6,7,8] kz ?_
 refine qaj [0,1] [2,3,4,5,6,7,8] [(0,.v (.slice A s.length c)),(23,.v (.int .u32 (IntKind.u32.wrap (IntKind.u8.wrap (BitVec.ofInt 8 ((s.getD 0 0).toNat:Int) &&& BitVec.ofInt 8 127).toNat)))),(24,.v (.slice A s.length c))] hW al fun bX aP=>?_
 obtain ⟨bt,bu,am,bD,ac⟩:=Slots.get ho (i:=1) (by first | omega | (simp only [List.length_append,be_length,List.length_cons,List.length_nil] at *; omega))
 refine qai (qat aP (t:=22) (A:=A) (m:=s.length) (q:=1) (d:=25) kz (e:=5) (size:=1) (bytes:=1) (j:=1) kz am rfl (by first | omega | (simp only [List.length_append,be_length,List.length_cons,List.length_nil] at *; omega)) fun bY aQ=>?_)
 refine qai (qaK aQ (t:=5) (b:=bt) (o:=bu + 1 * 1) (d:=26) kz (cs:=[.int .u8 ((s.getD 1 0).toNat:Int)]) (v:=.int .u8 ((s.getD 1 0).toNat:Int)) kz (AtF.move ac hW.step nilM qbb).at_ fun bZ aR=>?_)
 refine qaj [4,5,6,7,8] [] [(0,.v (.slice A s.length c)),(4,.v (.int .u32 (IntKind.u32.wrap (BitVec.ofInt 32 (IntKind.u32.wrap (IntKind.u8.wrap (BitVec.ofInt 8 ((s.getD 0 0).toNat:Int) &&& BitVec.ofInt 8 127).toNat)) ||| BitVec.ofInt 32 (IntKind.u32.wrap ((IntKind.u32.wrap (IntKind.u8.wrap (BitVec.ofInt 8 ((s.getD 1 0).toNat:Int) &&& BitVec.ofInt 8 127).toNat)) * 128))).toNat)))] hW aR fun b8 aS=>?_
 refine qae (qab ?_)
 refine wp_seq ?_
 refine qad [0,1,2,3,4] kz ?_
 refine qaj [0] [1,2,3,4] [(0,.v (.slice A s.length c)),(4,.v (.int .u32 (IntKind.u32.wrap (BitVec.ofInt 32 (IntKind.u32.wrap (IntKind.u8.wrap (BitVec.ofInt 8 ((s.getD 0 0).toNat:Int) &&& BitVec.ofInt 8 127).toNat)) ||| BitVec.ofInt 32 (IntKind.u32.wrap ((IntKind.u32.wrap (IntKind.u8.wrap (BitVec.ofInt 8 ((s.getD 1 0).toNat:Int) &&& BitVec.ofInt 8 127).toNat)) * 128))).toNat))),(31,.v (.slice A s.length c))] hW aS fun cd aT=>?_
 refine qai (qat aT (t:=22) (A:=A) (m:=s.length) (q:=1) (d:=32) kz (e:=5) (size:=1) (bytes:=1) (j:=1) kz am rfl (by first | omega | (simp only [List.length_append,be_length,List.length_cons,List.length_nil] at *; omega)) fun ce aU=>?_)
 refine qai (qaK aU (t:=5) (b:=bt) (o:=bu + 1 * 1) (d:=33) kz (cs:=[.int .u8 ((s.getD 1 0).toNat:Int)]) (v:=.int .u8 ((s.getD 1 0).toNat:Int)) kz (AtF.move ac hW.step nilM qbb).at_ fun cg aV=>?_)
 refine qaj [3,4] [] [(0,.v (.slice A s.length c)),(4,.v (.int .u32 (IntKind.u32.wrap (BitVec.ofInt 32 (IntKind.u32.wrap (IntKind.u8.wrap (BitVec.ofInt 8 ((s.getD 0 0).toNat:Int) &&& BitVec.ofInt 8 127).toNat)) ||| BitVec.ofInt 32 (IntKind.u32.wrap ((IntKind.u32.wrap (IntKind.u8.wrap (BitVec.ofInt 8 ((s.getD 1 0).toNat:Int) &&& BitVec.ofInt 8 127).toNat)) * 128))).toNat))),(35,.v (.bool ((IntKind.u8.wrap (BitVec.ofInt 8 ((s.getD 1 0).toNat:Int) &&& BitVec.ofInt 8 128).toNat) == 0)))] hW aV fun cm ao=>?_
 refine qae (qab ?_)
 refine qau ao (b:=(IntKind.u8.wrap (BitVec.ofInt 8 ((s.getD 1 0).toNat:Int) &&& BitVec.ofInt 8 128).toNat) == 0) kz ((qcS _ (qb7 s 1)).trans (decide_eq_false (by have:=h1; unfold oc at this; omega))) ?_
 refine qas [(0,.v (.slice A s.length c)),(4,.v (.int .u32 (IntKind.u32.wrap (BitVec.ofInt 32 (IntKind.u32.wrap (IntKind.u8.wrap (BitVec.ofInt 8 ((s.getD 0 0).toNat:Int) &&& BitVec.ofInt 8 127).toNat)) ||| BitVec.ofInt 32 (IntKind.u32.wrap ((IntKind.u32.wrap (IntKind.u8.wrap (BitVec.ofInt 8 ((s.getD 1 0).toNat:Int) &&& BitVec.ofInt 8 127).toNat)) * 128))).toNat))),(39,.v (.bool (decide (((s.length:Nat):Int) < 3))))] hW ao fun cq ap=>?_
 refine qau ap (b:=decide (((s.length:Nat):Int) < 3)) kz (decide_eq_false (by omega)) ?_
 refine wp_skip ?_
 refine qab ?_
 refine qad [0,1,2,3,4,5,6,7,8] kz ?_
 refine qaj [0,1] [2,3,4,5,6,7,8] [(0,.v (.slice A s.length c)),(40,.v (.int .u32 (IntKind.u32.wrap (BitVec.ofInt 32 (IntKind.u32.wrap (IntKind.u8.wrap (BitVec.ofInt 8 ((s.getD 0 0).toNat:Int) &&& BitVec.ofInt 8 127).toNat)) ||| BitVec.ofInt 32 (IntKind.u32.wrap ((IntKind.u32.wrap (IntKind.u8.wrap (BitVec.ofInt 8 ((s.getD 1 0).toNat:Int) &&& BitVec.ofInt 8 127).toNat)) * 128))).toNat))),(41,.v (.slice A s.length c))] hW ap fun cr aW=>?_
 obtain ⟨bw,bx,ar,bE,ae⟩:=Slots.get ho (i:=2) (by first | omega | (simp only [List.length_append,be_length,List.length_cons,List.length_nil] at *; omega))
 refine qai (qat aW (t:=22) (A:=A) (m:=s.length) (q:=2) (d:=42) kz (e:=5) (size:=1) (bytes:=1) (j:=2) kz ar rfl (by first | omega | (simp only [List.length_append,be_length,List.length_cons,List.length_nil] at *; omega)) fun cu aX=>?_)
 refine qai (qaK aX (t:=5) (b:=bw) (o:=bx + 2 * 1) (d:=43) kz (cs:=[.int .u8 ((s.getD 2 0).toNat:Int)]) (v:=.int .u8 ((s.getD 2 0).toNat:Int)) kz (AtF.move ae hW.step nilM qbb).at_ fun cw aY=>?_)
 refine qaj [4,5,6,7,8] [] [(0,.v (.slice A s.length c)),(4,.v (.int .u32 (IntKind.u32.wrap (BitVec.ofInt 32 (IntKind.u32.wrap (BitVec.ofInt 32 (IntKind.u32.wrap (IntKind.u8.wrap (BitVec.ofInt 8 ((s.getD 0 0).toNat:Int) &&& BitVec.ofInt 8 127).toNat)) ||| BitVec.ofInt 32 (IntKind.u32.wrap ((IntKind.u32.wrap (IntKind.u8.wrap (BitVec.ofInt 8 ((s.getD 1 0).toNat:Int) &&& BitVec.ofInt 8 127).toNat)) * 128))).toNat) ||| BitVec.ofInt 32 (IntKind.u32.wrap ((IntKind.u32.wrap (IntKind.u8.wrap (BitVec.ofInt 8 ((s.getD 2 0).toNat:Int) &&& BitVec.ofInt 8 127).toNat)) * 16384))).toNat)))] hW aY fun cz aZ=>?_
 refine qae (qab ?_)
 refine wp_seq ?_
 refine qad [0,1,2,3,4] kz ?_
 refine qaj [0] [1,2,3,4] [(0,.v (.slice A s.length c)),(4,.v (.int .u32 (IntKind.u32.wrap (BitVec.ofInt 32 (IntKind.u32.wrap (BitVec.ofInt 32 (IntKind.u32.wrap (IntKind.u8.wrap (BitVec.ofInt 8 ((s.getD 0 0).toNat:Int) &&& BitVec.ofInt 8 127).toNat)) ||| BitVec.ofInt 32 (IntKind.u32.wrap ((IntKind.u32.wrap (IntKind.u8.wrap (BitVec.ofInt 8 ((s.getD 1 0).toNat:Int) &&& BitVec.ofInt 8 127).toNat)) * 128))).toNat) ||| BitVec.ofInt 32 (IntKind.u32.wrap ((IntKind.u32.wrap (IntKind.u8.wrap (BitVec.ofInt 8 ((s.getD 2 0).toNat:Int) &&& BitVec.ofInt 8 127).toNat)) * 16384))).toNat))),(48,.v (.slice A s.length c))] hW aZ fun cA ba=>?_
 refine qai (qat ba (t:=22) (A:=A) (m:=s.length) (q:=2) (d:=49) kz (e:=5) (size:=1) (bytes:=1) (j:=2) kz ar rfl (by first | omega | (simp only [List.length_append,be_length,List.length_cons,List.length_nil] at *; omega)) fun cB bd=>?_)
 refine qai (qaK bd (t:=5) (b:=bw) (o:=bx + 2 * 1) (d:=50) kz (cs:=[.int .u8 ((s.getD 2 0).toNat:Int)]) (v:=.int .u8 ((s.getD 2 0).toNat:Int)) kz (AtF.move ae hW.step nilM qbb).at_ fun cC bf=>?_)
 refine qaj [3,4] [] [(0,.v (.slice A s.length c)),(4,.v (.int .u32 (IntKind.u32.wrap (BitVec.ofInt 32 (IntKind.u32.wrap (BitVec.ofInt 32 (IntKind.u32.wrap (IntKind.u8.wrap (BitVec.ofInt 8 ((s.getD 0 0).toNat:Int) &&& BitVec.ofInt 8 127).toNat)) ||| BitVec.ofInt 32 (IntKind.u32.wrap ((IntKind.u32.wrap (IntKind.u8.wrap (BitVec.ofInt 8 ((s.getD 1 0).toNat:Int) &&& BitVec.ofInt 8 127).toNat)) * 128))).toNat) ||| BitVec.ofInt 32 (IntKind.u32.wrap ((IntKind.u32.wrap (IntKind.u8.wrap (BitVec.ofInt 8 ((s.getD 2 0).toNat:Int) &&& BitVec.ofInt 8 127).toNat)) * 16384))).toNat))),(52,.v (.bool ((IntKind.u8.wrap (BitVec.ofInt 8 ((s.getD 2 0).toNat:Int) &&& BitVec.ofInt 8 128).toNat) == 0)))] hW bf fun cD au=>?_
 refine qae (qab ?_)
 refine qau au (b:=(IntKind.u8.wrap (BitVec.ofInt 8 ((s.getD 2 0).toNat:Int) &&& BitVec.ofInt 8 128).toNat) == 0) kz ((qcS _ (qb7 s 2)).trans (decide_eq_false (by have:=h2; unfold oc at this; omega))) ?_
 refine qas [(0,.v (.slice A s.length c)),(4,.v (.int .u32 (IntKind.u32.wrap (BitVec.ofInt 32 (IntKind.u32.wrap (BitVec.ofInt 32 (IntKind.u32.wrap (IntKind.u8.wrap (BitVec.ofInt 8 ((s.getD 0 0).toNat:Int) &&& BitVec.ofInt 8 127).toNat)) ||| BitVec.ofInt 32 (IntKind.u32.wrap ((IntKind.u32.wrap (IntKind.u8.wrap (BitVec.ofInt 8 ((s.getD 1 0).toNat:Int) &&& BitVec.ofInt 8 127).toNat)) * 128))).toNat) ||| BitVec.ofInt 32 (IntKind.u32.wrap ((IntKind.u32.wrap (IntKind.u8.wrap (BitVec.ofInt 8 ((s.getD 2 0).toNat:Int) &&& BitVec.ofInt 8 127).toNat)) * 16384))).toNat))),(56,.v (.bool (decide (((s.length:Nat):Int) < 4))))] hW au fun cE av=>?_
 refine qau av (b:=decide (((s.length:Nat):Int) < 4)) kz (decide_eq_false (by omega)) ?_
 refine wp_skip ?_
 refine qab ?_
 refine qad [0,1,2,3,4,5,6,7,8] kz ?_
 refine qaj [0,1] [2,3,4,5,6,7,8] [(0,.v (.slice A s.length c)),(57,.v (.int .u32 (IntKind.u32.wrap (BitVec.ofInt 32 (IntKind.u32.wrap (BitVec.ofInt 32 (IntKind.u32.wrap (IntKind.u8.wrap (BitVec.ofInt 8 ((s.getD 0 0).toNat:Int) &&& BitVec.ofInt 8 127).toNat)) ||| BitVec.ofInt 32 (IntKind.u32.wrap ((IntKind.u32.wrap (IntKind.u8.wrap (BitVec.ofInt 8 ((s.getD 1 0).toNat:Int) &&& BitVec.ofInt 8 127).toNat)) * 128))).toNat) ||| BitVec.ofInt 32 (IntKind.u32.wrap ((IntKind.u32.wrap (IntKind.u8.wrap (BitVec.ofInt 8 ((s.getD 2 0).toNat:Int) &&& BitVec.ofInt 8 127).toNat)) * 16384))).toNat))),(58,.v (.slice A s.length c))] hW av fun cG bg=>?_
 obtain ⟨bz,bA,aw,bF,af⟩:=Slots.get ho (i:=3) (by first | omega | (simp only [List.length_append,be_length,List.length_cons,List.length_nil] at *; omega))
 refine qai (qat bg (t:=22) (A:=A) (m:=s.length) (q:=3) (d:=59) kz (e:=5) (size:=1) (bytes:=1) (j:=3) kz aw rfl (by first | omega | (simp only [List.length_append,be_length,List.length_cons,List.length_nil] at *; omega)) fun cH bh=>?_)
 refine qai (qaK bh (t:=5) (b:=bz) (o:=bA + 3 * 1) (d:=60) kz (cs:=[.int .u8 ((s.getD 3 0).toNat:Int)]) (v:=.int .u8 ((s.getD 3 0).toNat:Int)) kz (AtF.move af hW.step nilM qbb).at_ fun cI bi=>?_)
 refine qaj [4,5,6,7,8] [] [(0,.v (.slice A s.length c)),(4,.v (.int .u32 (IntKind.u32.wrap (BitVec.ofInt 32 (IntKind.u32.wrap (BitVec.ofInt 32 (IntKind.u32.wrap (BitVec.ofInt 32 (IntKind.u32.wrap (IntKind.u8.wrap (BitVec.ofInt 8 ((s.getD 0 0).toNat:Int) &&& BitVec.ofInt 8 127).toNat)) ||| BitVec.ofInt 32 (IntKind.u32.wrap ((IntKind.u32.wrap (IntKind.u8.wrap (BitVec.ofInt 8 ((s.getD 1 0).toNat:Int) &&& BitVec.ofInt 8 127).toNat)) * 128))).toNat) ||| BitVec.ofInt 32 (IntKind.u32.wrap ((IntKind.u32.wrap (IntKind.u8.wrap (BitVec.ofInt 8 ((s.getD 2 0).toNat:Int) &&& BitVec.ofInt 8 127).toNat)) * 16384))).toNat) ||| BitVec.ofInt 32 (IntKind.u32.wrap ((IntKind.u32.wrap (IntKind.u8.wrap (BitVec.ofInt 8 ((s.getD 3 0).toNat:Int) &&& BitVec.ofInt 8 127).toNat)) * 2097152))).toNat)))] hW bi fun cJ bj=>?_
 refine qae (qab ?_)
 refine wp_seq ?_
 refine qad [0,1,2,3,4] kz ?_
 refine qaj [0] [1,2,3,4] [(0,.v (.slice A s.length c)),(4,.v (.int .u32 (IntKind.u32.wrap (BitVec.ofInt 32 (IntKind.u32.wrap (BitVec.ofInt 32 (IntKind.u32.wrap (BitVec.ofInt 32 (IntKind.u32.wrap (IntKind.u8.wrap (BitVec.ofInt 8 ((s.getD 0 0).toNat:Int) &&& BitVec.ofInt 8 127).toNat)) ||| BitVec.ofInt 32 (IntKind.u32.wrap ((IntKind.u32.wrap (IntKind.u8.wrap (BitVec.ofInt 8 ((s.getD 1 0).toNat:Int) &&& BitVec.ofInt 8 127).toNat)) * 128))).toNat) ||| BitVec.ofInt 32 (IntKind.u32.wrap ((IntKind.u32.wrap (IntKind.u8.wrap (BitVec.ofInt 8 ((s.getD 2 0).toNat:Int) &&& BitVec.ofInt 8 127).toNat)) * 16384))).toNat) ||| BitVec.ofInt 32 (IntKind.u32.wrap ((IntKind.u32.wrap (IntKind.u8.wrap (BitVec.ofInt 8 ((s.getD 3 0).toNat:Int) &&& BitVec.ofInt 8 127).toNat)) * 2097152))).toNat))),(65,.v (.slice A s.length c))] hW bj fun cK bk=>?_
 refine qai (qat bk (t:=22) (A:=A) (m:=s.length) (q:=3) (d:=66) kz (e:=5) (size:=1) (bytes:=1) (j:=3) kz aw rfl (by first | omega | (simp only [List.length_append,be_length,List.length_cons,List.length_nil] at *; omega)) fun cL bn=>?_)
 refine qai (qaK bn (t:=5) (b:=bz) (o:=bA + 3 * 1) (d:=67) kz (cs:=[.int .u8 ((s.getD 3 0).toNat:Int)]) (v:=.int .u8 ((s.getD 3 0).toNat:Int)) kz (AtF.move af hW.step nilM qbb).at_ fun cM bo=>?_)
 refine qaj [3,4] [] [(0,.v (.slice A s.length c)),(4,.v (.int .u32 (IntKind.u32.wrap (BitVec.ofInt 32 (IntKind.u32.wrap (BitVec.ofInt 32 (IntKind.u32.wrap (BitVec.ofInt 32 (IntKind.u32.wrap (IntKind.u8.wrap (BitVec.ofInt 8 ((s.getD 0 0).toNat:Int) &&& BitVec.ofInt 8 127).toNat)) ||| BitVec.ofInt 32 (IntKind.u32.wrap ((IntKind.u32.wrap (IntKind.u8.wrap (BitVec.ofInt 8 ((s.getD 1 0).toNat:Int) &&& BitVec.ofInt 8 127).toNat)) * 128))).toNat) ||| BitVec.ofInt 32 (IntKind.u32.wrap ((IntKind.u32.wrap (IntKind.u8.wrap (BitVec.ofInt 8 ((s.getD 2 0).toNat:Int) &&& BitVec.ofInt 8 127).toNat)) * 16384))).toNat) ||| BitVec.ofInt 32 (IntKind.u32.wrap ((IntKind.u32.wrap (IntKind.u8.wrap (BitVec.ofInt 8 ((s.getD 3 0).toNat:Int) &&& BitVec.ofInt 8 127).toNat)) * 2097152))).toNat))),(69,.v (.bool ((IntKind.u8.wrap (BitVec.ofInt 8 ((s.getD 3 0).toNat:Int) &&& BitVec.ofInt 8 128).toNat) == 0)))] hW bo fun cN ax=>?_
 refine qae (qab ?_)
 refine qau ax (b:=(IntKind.u8.wrap (BitVec.ofInt 8 ((s.getD 3 0).toNat:Int) &&& BitVec.ofInt 8 128).toNat) == 0) kz ((qcS _ (qb7 s 3)).trans (decide_eq_false (by have:=h3; unfold oc at this; omega))) ?_
 refine qas [(0,.v (.slice A s.length c)),(4,.v (.int .u32 (IntKind.u32.wrap (BitVec.ofInt 32 (IntKind.u32.wrap (BitVec.ofInt 32 (IntKind.u32.wrap (BitVec.ofInt 32 (IntKind.u32.wrap (IntKind.u8.wrap (BitVec.ofInt 8 ((s.getD 0 0).toNat:Int) &&& BitVec.ofInt 8 127).toNat)) ||| BitVec.ofInt 32 (IntKind.u32.wrap ((IntKind.u32.wrap (IntKind.u8.wrap (BitVec.ofInt 8 ((s.getD 1 0).toNat:Int) &&& BitVec.ofInt 8 127).toNat)) * 128))).toNat) ||| BitVec.ofInt 32 (IntKind.u32.wrap ((IntKind.u32.wrap (IntKind.u8.wrap (BitVec.ofInt 8 ((s.getD 2 0).toNat:Int) &&& BitVec.ofInt 8 127).toNat)) * 16384))).toNat) ||| BitVec.ofInt 32 (IntKind.u32.wrap ((IntKind.u32.wrap (IntKind.u8.wrap (BitVec.ofInt 8 ((s.getD 3 0).toNat:Int) &&& BitVec.ofInt 8 127).toNat)) * 2097152))).toNat))),(73,.v (.bool (decide (((s.length:Nat):Int) < 5))))] hW ax fun cO ag=>?_
 refine qau ag (b:=decide (((s.length:Nat):Int) < 5)) kz (decide_eq_false (by omega)) ?_
 refine wp_skip ?_
 refine qab ?_
 refine qad [0,1,2,3,4,5,6,7] kz ?_
 refine qaj [0,1] [2,3,4,5,6,7] [(0,.v (.slice A s.length c)),(74,.v (.int .u32 (IntKind.u32.wrap (BitVec.ofInt 32 (IntKind.u32.wrap (BitVec.ofInt 32 (IntKind.u32.wrap (BitVec.ofInt 32 (IntKind.u32.wrap (IntKind.u8.wrap (BitVec.ofInt 8 ((s.getD 0 0).toNat:Int) &&& BitVec.ofInt 8 127).toNat)) ||| BitVec.ofInt 32 (IntKind.u32.wrap ((IntKind.u32.wrap (IntKind.u8.wrap (BitVec.ofInt 8 ((s.getD 1 0).toNat:Int) &&& BitVec.ofInt 8 127).toNat)) * 128))).toNat) ||| BitVec.ofInt 32 (IntKind.u32.wrap ((IntKind.u32.wrap (IntKind.u8.wrap (BitVec.ofInt 8 ((s.getD 2 0).toNat:Int) &&& BitVec.ofInt 8 127).toNat)) * 16384))).toNat) ||| BitVec.ofInt 32 (IntKind.u32.wrap ((IntKind.u32.wrap (IntKind.u8.wrap (BitVec.ofInt 8 ((s.getD 3 0).toNat:Int) &&& BitVec.ofInt 8 127).toNat)) * 2097152))).toNat))),(75,.v (.slice A s.length c))] hW ag fun bG ay=>?_
 obtain ⟨az,aA,ah,bB,aa⟩:=Slots.get ho (i:=4) (by first | omega | (simp only [List.length_append,be_length,List.length_cons,List.length_nil] at *; omega))
 refine qai (qat ay (t:=22) (A:=A) (m:=s.length) (q:=4) (d:=76) kz (e:=5) (size:=1) (bytes:=1) (j:=4) kz ah rfl (by first | omega | (simp only [List.length_append,be_length,List.length_cons,List.length_nil] at *; omega)) fun bH aB=>?_)
 refine qai (qaK aB (t:=5) (b:=az) (o:=aA + 4 * 1) (d:=77) kz (cs:=[.int .u8 ((s.getD 4 0).toNat:Int)]) (v:=.int .u8 ((s.getD 4 0).toNat:Int)) kz (AtF.move aa hW.step nilM qbb).at_ fun bI aC=>?_)
 refine qaj [4,5,6,7] [] [(0,.v (.slice A s.length c)),(4,.v (.int .u32 (IntKind.u32.wrap (BitVec.ofInt 32 (IntKind.u32.wrap (BitVec.ofInt 32 (IntKind.u32.wrap (BitVec.ofInt 32 (IntKind.u32.wrap (BitVec.ofInt 32 (IntKind.u32.wrap (IntKind.u8.wrap (BitVec.ofInt 8 ((s.getD 0 0).toNat:Int) &&& BitVec.ofInt 8 127).toNat)) ||| BitVec.ofInt 32 (IntKind.u32.wrap ((IntKind.u32.wrap (IntKind.u8.wrap (BitVec.ofInt 8 ((s.getD 1 0).toNat:Int) &&& BitVec.ofInt 8 127).toNat)) * 128))).toNat) ||| BitVec.ofInt 32 (IntKind.u32.wrap ((IntKind.u32.wrap (IntKind.u8.wrap (BitVec.ofInt 8 ((s.getD 2 0).toNat:Int) &&& BitVec.ofInt 8 127).toNat)) * 16384))).toNat) ||| BitVec.ofInt 32 (IntKind.u32.wrap ((IntKind.u32.wrap (IntKind.u8.wrap (BitVec.ofInt 8 ((s.getD 3 0).toNat:Int) &&& BitVec.ofInt 8 127).toNat)) * 2097152))).toNat) ||| BitVec.ofInt 32 (IntKind.u32.wrap ((IntKind.u32.wrap ((s.getD 4 0).toNat:Int)) * 268435456))).toNat)))] hW aC fun bJ aD=>?_
 refine qae (qab ?_)
 refine wp_seq ?_
 refine qad [0,1,2,3] kz ?_
 refine qaj [0] [1,2,3] [(4,.v (.int .u32 (IntKind.u32.wrap (BitVec.ofInt 32 (IntKind.u32.wrap (BitVec.ofInt 32 (IntKind.u32.wrap (BitVec.ofInt 32 (IntKind.u32.wrap (BitVec.ofInt 32 (IntKind.u32.wrap (IntKind.u8.wrap (BitVec.ofInt 8 ((s.getD 0 0).toNat:Int) &&& BitVec.ofInt 8 127).toNat)) ||| BitVec.ofInt 32 (IntKind.u32.wrap ((IntKind.u32.wrap (IntKind.u8.wrap (BitVec.ofInt 8 ((s.getD 1 0).toNat:Int) &&& BitVec.ofInt 8 127).toNat)) * 128))).toNat) ||| BitVec.ofInt 32 (IntKind.u32.wrap ((IntKind.u32.wrap (IntKind.u8.wrap (BitVec.ofInt 8 ((s.getD 2 0).toNat:Int) &&& BitVec.ofInt 8 127).toNat)) * 16384))).toNat) ||| BitVec.ofInt 32 (IntKind.u32.wrap ((IntKind.u32.wrap (IntKind.u8.wrap (BitVec.ofInt 8 ((s.getD 3 0).toNat:Int) &&& BitVec.ofInt 8 127).toNat)) * 2097152))).toNat) ||| BitVec.ofInt 32 (IntKind.u32.wrap ((IntKind.u32.wrap ((s.getD 4 0).toNat:Int)) * 268435456))).toNat))),(81,.v (.slice A s.length c))] hW aD fun bK aE=>?_
 refine qai (qat aE (t:=22) (A:=A) (m:=s.length) (q:=4) (d:=82) kz (e:=5) (size:=1) (bytes:=1) (j:=4) kz ah rfl (by first | omega | (simp only [List.length_append,be_length,List.length_cons,List.length_nil] at *; omega)) fun bL aF=>?_)
 refine qai (qaK aF (t:=5) (b:=az) (o:=aA + 4 * 1) (d:=83) kz (cs:=[.int .u8 ((s.getD 4 0).toNat:Int)]) (v:=.int .u8 ((s.getD 4 0).toNat:Int)) kz (AtF.move aa hW.step nilM qbb).at_ fun bM aG=>?_)
 refine qaj [3] [] [(4,.v (.int .u32 (IntKind.u32.wrap (BitVec.ofInt 32 (IntKind.u32.wrap (BitVec.ofInt 32 (IntKind.u32.wrap (BitVec.ofInt 32 (IntKind.u32.wrap (BitVec.ofInt 32 (IntKind.u32.wrap (IntKind.u8.wrap (BitVec.ofInt 8 ((s.getD 0 0).toNat:Int) &&& BitVec.ofInt 8 127).toNat)) ||| BitVec.ofInt 32 (IntKind.u32.wrap ((IntKind.u32.wrap (IntKind.u8.wrap (BitVec.ofInt 8 ((s.getD 1 0).toNat:Int) &&& BitVec.ofInt 8 127).toNat)) * 128))).toNat) ||| BitVec.ofInt 32 (IntKind.u32.wrap ((IntKind.u32.wrap (IntKind.u8.wrap (BitVec.ofInt 8 ((s.getD 2 0).toNat:Int) &&& BitVec.ofInt 8 127).toNat)) * 16384))).toNat) ||| BitVec.ofInt 32 (IntKind.u32.wrap ((IntKind.u32.wrap (IntKind.u8.wrap (BitVec.ofInt 8 ((s.getD 3 0).toNat:Int) &&& BitVec.ofInt 8 127).toNat)) * 2097152))).toNat) ||| BitVec.ofInt 32 (IntKind.u32.wrap ((IntKind.u32.wrap ((s.getD 4 0).toNat:Int)) * 268435456))).toNat))),(84,.v (.bool (decide (((s.getD 4 0).toNat:Int) ≤ 15))))] hW aG fun bN ai=>?_
 refine qae (qab ?_)
 refine qbl ai (b:=decide (((s.getD 4 0).toNat:Int) ≤ 15)) kz (decide_eq_true (by have:=h4; unfold oc at this; omega)) ?_
 refine qas [(2,.v (.int .u32 (IntKind.u32.wrap (BitVec.ofInt 32 (IntKind.u32.wrap (BitVec.ofInt 32 (IntKind.u32.wrap (BitVec.ofInt 32 (IntKind.u32.wrap (BitVec.ofInt 32 (IntKind.u32.wrap (IntKind.u8.wrap (BitVec.ofInt 8 ((s.getD 0 0).toNat:Int) &&& BitVec.ofInt 8 127).toNat)) ||| BitVec.ofInt 32 (IntKind.u32.wrap ((IntKind.u32.wrap (IntKind.u8.wrap (BitVec.ofInt 8 ((s.getD 1 0).toNat:Int) &&& BitVec.ofInt 8 127).toNat)) * 128))).toNat) ||| BitVec.ofInt 32 (IntKind.u32.wrap ((IntKind.u32.wrap (IntKind.u8.wrap (BitVec.ofInt 8 ((s.getD 2 0).toNat:Int) &&& BitVec.ofInt 8 127).toNat)) * 16384))).toNat) ||| BitVec.ofInt 32 (IntKind.u32.wrap ((IntKind.u32.wrap (IntKind.u8.wrap (BitVec.ofInt 8 ((s.getD 3 0).toNat:Int) &&& BitVec.ofInt 8 127).toNat)) * 2097152))).toNat) ||| BitVec.ofInt 32 (IntKind.u32.wrap ((IntKind.u32.wrap ((s.getD 4 0).toNat:Int)) * 268435456))).toNat))),(3,.v (.int .i64 5))] hW ai fun bO aH=>?_
 refine wp_ret ?_
 refine qaD ?_
 refine qdp ?_
 refine qaX aH hW.cells (v:=.tuple #[.int .u32 (IntKind.u32.wrap (BitVec.ofInt 32 (IntKind.u32.wrap (BitVec.ofInt 32 (IntKind.u32.wrap (BitVec.ofInt 32 (IntKind.u32.wrap (BitVec.ofInt 32 (IntKind.u32.wrap (IntKind.u8.wrap (BitVec.ofInt 8 ((s.getD 0 0).toNat:Int) &&& BitVec.ofInt 8 127).toNat)) ||| BitVec.ofInt 32 (IntKind.u32.wrap ((IntKind.u32.wrap (IntKind.u8.wrap (BitVec.ofInt 8 ((s.getD 1 0).toNat:Int) &&& BitVec.ofInt 8 127).toNat)) * 128))).toNat) ||| BitVec.ofInt 32 (IntKind.u32.wrap ((IntKind.u32.wrap (IntKind.u8.wrap (BitVec.ofInt 8 ((s.getD 2 0).toNat:Int) &&& BitVec.ofInt 8 127).toNat)) * 16384))).toNat) ||| BitVec.ofInt 32 (IntKind.u32.wrap ((IntKind.u32.wrap (IntKind.u8.wrap (BitVec.ofInt 8 ((s.getD 3 0).toNat:Int) &&& BitVec.ofInt 8 127).toNat)) * 2097152))).toNat) ||| BitVec.ofInt 32 (IntKind.u32.wrap ((IntKind.u32.wrap ((s.getD 4 0).toNat:Int)) * 268435456))).toNat),.int .i64 5]) kz ?_
 have e_:=uv_5 (oc s 0) (oc s 1) (oc s 2) (oc s 3) (oc s 4) (qb7 s 0) (qb7 s 1) (qb7 s 2) (qb7 s 3) (by omega)
 refine ⟨congrArg (fun z_:Int=>Ending.returned (.tuple #[.int .u32 z_,.int .i64 5])) (Eq.trans e_ ?_),hW.step⟩
 omega
theorem rUv (x:Nat) (hx:x < 4294967296) (rest:Bs) {A:Option Addr} {c:Nat} {w:World} {F:Nat → Nat → Prop} (ho:Octs w F A c (uv x ++ rest)) :
  Calls Tryz.prog 205 #[.slice A (uv x ++ rest).length c] w (qcG w (.tuple #[.int .u32 ((x:Nat):Int),.int .i64 (((uv x).length:Nat):Int)])):=by
 have hl:=qh7 hx
 have hL:(uv x ++ rest).length = (uv x).length + rest.length:=List.length_append
 by_cases h1:x < 128
 ·rw [if_pos h1] at hl
  have h:=rUv1 (uv x ++ rest) ho (by omega) x (by rw [qfJ,if_pos h1]) h1
  rw [hl]; simpa using h
 rw [if_neg h1] at hl
 have o0:oc (uv x ++ rest) 0 = x % 128 + 128:=by rw [qfJ,if_neg h1]
 have o1:oc (uv x ++ rest) 1 = oc (uv (x / 128) ++ rest) 0:=qdO (by omega) rest 0
 by_cases h2:x < 16384
 ·rw [if_pos h2] at hl
  rw [qfJ,if_pos (by omega)] at o1
  have h:=rUv2 (uv x ++ rest) ho (by omega) (x % 128) (x / 128) o0 o1 (by omega) (by omega)
  rw [show x % 128 + x / 128 * 128 = x by omega] at h
  rw [hl]; exact h
 rw [if_neg h2] at hl
 have o2:oc (uv x ++ rest) 2 = oc (uv (x / 128 / 128) ++ rest) 0:=(qdO (by omega) rest 1).trans (qdO (by omega) rest 0)
 rw [qfJ,if_neg (by omega)] at o1
 by_cases h3:x < 2097152
 ·rw [if_pos h3] at hl
  rw [qfJ,if_pos (by omega)] at o2
  have h:=rUv3 (uv x ++ rest) ho (by omega) (x % 128) (x / 128 % 128) (x / 128 / 128) o0 o1 o2 (by omega) (by omega) (by omega)
  rw [show x % 128 + x / 128 % 128 * 128 + x / 128 / 128 * 16384 = x by omega] at h
  rw [hl]; exact h
 rw [if_neg h3] at hl
 have o3:oc (uv x ++ rest) 3 = oc (uv (x / 128 / 128 / 128) ++ rest) 0:=(qdO (by omega) rest 2).trans ((qdO (by omega) rest 1).trans (qdO (by omega) rest 0))
 rw [qfJ,if_neg (by omega)] at o2
 by_cases h4:x < 268435456
 ·rw [if_pos h4] at hl
  rw [qfJ,if_pos (by omega)] at o3
  have h:=rUv4 (uv x ++ rest) ho (by omega) (x % 128) (x / 128 % 128) (x / 128 / 128 % 128) (x / 128 / 128 / 128) o0 o1 o2 o3 (by omega) (by omega) (by omega) (by omega)
  rw [show x % 128 + x / 128 % 128 * 128 + x / 128 / 128 % 128 * 16384 + x / 128 / 128 / 128 * 2097152 = x by omega] at h
  rw [hl]; exact h
 rw [if_neg h4] at hl
 have o4:oc (uv x ++ rest) 4 = oc (uv (x / 128 / 128 / 128 / 128) ++ rest) 0:=(qdO (by omega) rest 3).trans ((qdO (by omega) rest 2).trans ((qdO (by omega) rest 1).trans (qdO (by omega) rest 0)))
 rw [qfJ,if_neg (by omega)] at o3
 rw [qfJ,if_pos (by omega)] at o4
 have h:=rUv5 (uv x ++ rest) ho (by omega) (x % 128) (x / 128 % 128) (x / 128 / 128 % 128) (x / 128 / 128 / 128 % 128) (x / 128 / 128 / 128 / 128) o0 o1 o2 o3 o4 (by omega) (by omega) (by omega) (by omega) (by omega)
 rw [show x % 128 + x / 128 % 128 * 128 + x / 128 / 128 % 128 * 16384 + x / 128 / 128 / 128 % 128 * 2097152 + x / 128 / 128 / 128 / 128 * 268435456 = x by omega] at h
 rw [hl]; exact h
theorem qda (x:Nat) (hx:x < 4294967296) (rest:Bs)  {br:Nat} {A:Option Addr} {m c:Nat} {w:World} {F:Nat → Nat → Prop} (hst:Str w br [.slice A m c,.bool false]) (hr:RdS w F A m c (uv x ++ rest)) (hFd:∀ b o,F b o → ¬ RdM br b o) :
  Calls Tryz.prog 190 #[.pointer (some ⟨br,0,none⟩)] w (RdPost w br F rest fun v w'=>v = .int .u32 ((x:Nat):Int)):=by
 obtain ⟨hm,ho⟩:=hr
 subst hm
 have hle:=ho.le
 have hpos:=qhr x
 refine enter (n:=31) Tryz.func190 rfl Tryz.ntmps190 kz fun a hE=>?_
 have hW:WOk w (RdM br) w [⟨br,0,[.slice A ((uv x ++ rest).length) c,.bool false],true⟩] []:=WOk.startStr hst
 have hE1:=(hE.grow ⟨br,0,[.slice A ((uv x ++ rest).length) c,.bool false],true⟩).recast 0 (.v (.pointer (some ⟨br,0,none⟩))) (.p 0 0) rfl rfl (Nat.le_of_ble_eq_true (n:=1) rfl)
 refine qas [(0,.p 0 0)] hW hE1 fun a1 hE2=>?_
 refine qad [0,1,2,3,4,5,6,7,8,9] kz ?_
 refine qaj [0,1,2,3] [4,5,6,7,8,9] [(0,.p 0 0),(9,.v (.slice A ((uv x ++ rest).length) c))] hW hE2 fun a3 hE4=>?_
 refine qai (qak hE4 (f:=205) (vs:=[.slice A ((uv x ++ rest).length) c]) (d:=10) kz Tryz.call205 (rUv x hx rest (ho.move hW.step (fun b_ o_ h_ _=>hFd b_ o_ h_) (hW.immM hFd))) ?_)
 rintro e_ w6 ⟨rfl,hs5⟩
 refine ⟨_,rfl,fun a7 hE8=>?_⟩
 have hW9:=hW.next_nil hs5
 have aj:=hW.frN hs5
 refine qaj [5,6,7,8,9] [] [(0,.p 0 0),(3,.v (.int .u32 ((x:Nat):Int))),(4,.v (.int .i64 (((uv x).length:Nat):Int)))] hW9 hE8 fun al ac=>?_
 refine qae (qab ?_)
 refine wp_seq ?_
 refine qas [(0,.p 0 0),(3,.v (.int .u32 ((x:Nat):Int))),(4,.v (.int .i64 (((uv x).length:Nat):Int))),(14,.v (.bool (decide ((((uv x).length:Nat):Int) ≤ 0))))] hW9 ac fun am ab=>?_
 refine qau ab (b:=decide ((((uv x).length:Nat):Int) ≤ 0)) kz (decide_eq_false (by omega)) ?_
 refine wp_skip ?_
 refine qab ?_
 refine qad [0,1,2,3,4,5,6,7,8,9] kz ?_
 refine qaj [0,1,2,3,4,5] [6,7,8,9] [(3,.v (.int .u32 ((x:Nat):Int))),(21,.p 0 0),(25,.v (.slice A ((uv x ++ rest).length) c)),(26,.v (.int .i64 (((uv x).length:Nat):Int)))] hW9 ab fun ao ae=>?_
 refine qai (qcQ ae (t:=22) (A:=A) (m:=((uv x ++ rest).length)) (cp:=c) (q:=(((uv x).length:Nat):Int)) (d:=27) (j:=((uv x).length)) kz (e:=5) (bytes:=1) kz (rfl) (by first | omega | (simp only [List.length_append,be_length,List.length_cons,List.length_nil] at *; omega)) fun ap af=>?_)
 refine qaj [7,8] [9] [(3,.v (.int .u32 ((x:Nat):Int))),(27,.v (.slice (cutA A c ((uv x).length)) (((uv x ++ rest).length) - ((uv x).length)) (c - ((uv x).length)))),(29,.p 0 0)] hW9 af fun ar ag=>?_
 refine qai (qam hW9 ag (oi:=0) (cs:=[.slice (cutA A c ((uv x).length)) (((uv x ++ rest).length) - ((uv x).length)) (c - ((uv x).length)),.bool false]) kz fun au ak aa ah=>?_)
 refine qae (qab ?_)
 refine qas [(2,.v (.int .u32 ((x:Nat):Int)))] aa ah fun av ai=>?_
 refine wp_ret ?_
 refine qaX ai aa.cells (v:=.int .u32 ((x:Nat):Int)) kz ?_
 exact ⟨_,_,_,_,rfl,Str.of aa 0 rfl,RdS.drop (s:=uv x) ⟨rfl,ho.move aa.step (fun b_ o_ h_ _=>hFd b_ o_ h_) qbb⟩ (rfl),aa.step,rfl⟩
theorem qiT (X:Bs) (rest:Bs)  {br:Nat} {A:Option Addr} {m c:Nat} {w:World} {F:Nat → Nat → Prop} (hst:Str w br [.slice A m c,.bool false]) (hr:RdS w F A m c (X ++ rest)) (hFd:∀ b o,F b o → ¬ RdM br b o) :
  Calls Tryz.prog 192 #[.pointer (some ⟨br,0,none⟩),.int .i64 ((X.length:Nat):Int)] w (RdPost w br F rest fun v w'=>∃ A2,v = .slice A2 X.length X.length ∧ Octs w' F A2 X.length X):=by
 obtain ⟨hm,ho⟩:=hr
 subst hm
 have hle:=ho.le
 refine enter (n:=40) Tryz.func192 rfl Tryz.ntmps192 kz fun a hE=>?_
 have hW:WOk w (RdM br) w [⟨br,0,[.slice A ((X ++ rest).length) c,.bool false],true⟩] []:=WOk.startStr hst
 have hE1:=(hE.grow ⟨br,0,[.slice A ((X ++ rest).length) c,.bool false],true⟩).recast 0 (.v (.pointer (some ⟨br,0,none⟩))) (.p 0 0) rfl rfl (Nat.le_of_ble_eq_true (n:=1) rfl)
 refine qas [(0,.p 0 0),(1,.v (.int .i64 ((X.length:Nat):Int)))] hW hE1 fun a1 hE2=>?_
 refine wp_seq ?_
 refine qad [0,1,2,3,4,5,6,7,8,9,10] kz ?_
 refine qaj [0,1,2,3,4,5,6,7] [8,9,10] [(0,.p 0 0),(1,.v (.int .i64 ((X.length:Nat):Int))),(13,.v (.bool (decide ((((X ++ rest).length:Nat):Int) < ((X.length:Nat):Int)))))] hW hE2 fun a3 hE4=>?_
 have hc5:(decide ((((X ++ rest).length:Nat):Int) < ((X.length:Nat):Int))) = false:=decide_eq_false (by first | omega | (simp only [List.length_append,be_length,List.length_cons,List.length_nil] at *; omega))
 have hE6:=hE4.cast (env':=[(0,.p 0 0),(1,.v (.int .i64 ((X.length:Nat):Int))),(13,.v (.bool false))]) (by rw [hc5])
 refine qaj [8,9,10] [] [(0,.p 0 0),(1,.v (.int .i64 ((X.length:Nat):Int))),(16,.v (.bool (decide (((X.length:Nat):Int) < 0))))] hW hE6 fun a7 hE8=>?_
 refine qae (qab ?_)
 refine qau hE8 (b:=decide (((X.length:Nat):Int) < 0)) kz (decide_eq_false (by first | omega | (simp only [List.length_append,be_length,List.length_cons,List.length_nil] at *; omega))) ?_
 refine wp_skip ?_
 refine qab ?_
 refine qad [0,1,2,3,4,5,6,7] kz ?_
 refine qaj [0,1,2,3,4,5] [6,7] [(0,.p 0 0),(1,.v (.int .i64 ((X.length:Nat):Int))),(26,.v (.slice A ((X ++ rest).length) c)),(27,.v (.int .i64 ((X.length:Nat):Int))),(28,.v (.int .i64 ((X.length:Nat):Int)))] hW hE8 fun a9 ab=>?_
 refine qai (qiM ab (t:=22) (A:=A) (m:=((X ++ rest).length)) (cp:=c) (k:=.i64) (q:=((X.length:Nat):Int)) (d:=29) (j:=X.length) kz (e:=5) (bytes:=1) kz (rfl) (by first | omega | (simp only [List.length_append,be_length,List.length_cons,List.length_nil] at *; omega)) fun al ac=>?_)
 refine qaj [7] [] [(0,.p 0 0),(1,.v (.int .i64 ((X.length:Nat):Int))),(5,.v (.slice A X.length X.length))] hW ac fun am ae=>?_
 refine qae (qab ?_)
 refine qad [0,1,2,3,4,5,6,7,8,9] kz ?_
 refine qaj [0,1,2,3,4,5] [6,7,8,9] [(5,.v (.slice A X.length X.length)),(30,.p 0 0),(34,.v (.slice A ((X ++ rest).length) c)),(35,.v (.int .i64 ((X.length:Nat):Int)))] hW ae fun ao af=>?_
 refine qai (qcQ af (t:=22) (A:=A) (m:=((X ++ rest).length)) (cp:=c) (q:=((X.length:Nat):Int)) (d:=36) (j:=X.length) kz (e:=5) (bytes:=1) kz (rfl) (by first | omega | (simp only [List.length_append,be_length,List.length_cons,List.length_nil] at *; omega)) fun ap ag=>?_)
 refine qaj [7,8] [9] [(5,.v (.slice A X.length X.length)),(36,.v (.slice (cutA A c X.length) (((X ++ rest).length) - X.length) (c - X.length))),(38,.p 0 0)] hW ag fun ar ah=>?_
 refine qai (qam hW ah (oi:=0) (cs:=[.slice (cutA A c X.length) (((X ++ rest).length) - X.length) (c - X.length),.bool false]) kz fun au ak aa ai=>?_)
 refine qae (qab ?_)
 refine qas [(4,.v (.slice A X.length X.length))] aa ai fun av aj=>?_
 refine wp_ret ?_
 refine qaX aj aa.cells (v:=.slice A X.length X.length) kz ?_
 exact ⟨_,_,_,_,rfl,Str.of aa 0 rfl,RdS.drop (s:=X) ⟨rfl,ho.move aa.step (fun b_ o_ h_ _=>hFd b_ o_ h_) qbb⟩ (rfl),aa.step,A,rfl,RdS.front (s:=X) ⟨rfl,ho.move aa.step (fun b_ o_ h_ _=>hFd b_ o_ h_) qbb⟩ rfl⟩
theorem qiU {br:Nat} {A:Option Addr} {m c:Nat} {w:World} (hst:Str w br [.slice A m c,.bool false]) :
  Calls Tryz.prog 149 #[.pointer (some ⟨br,0,none⟩)] w (fun e w'=>e = .returned .nilIface ∧ w' = w):=by
 refine enter (n:=8) Tryz.func149 rfl Tryz.ntmps149 kz fun a hE=>?_
 have hW:WOk w (RdM br) w [⟨br,0,[.slice A m c,.bool false],true⟩] []:=WOk.startStr hst
 have hE1:=(hE.grow ⟨br,0,[.slice A m c,.bool false],true⟩).recast 0 (.v (.pointer (some ⟨br,0,none⟩))) (.p 0 0) rfl rfl (Nat.le_of_ble_eq_true (n:=1) rfl)
 refine qas [(0,.p 0 0)] hW hE1 fun a1 hE2=>?_
 refine wp_seq ?_
 refine qas [(6,.v (.bool false))] hW hE2 fun a3 hE4=>?_
 refine qau hE4 (b:=false) kz rfl ?_
 refine wp_skip ?_
 refine qab ?_
 refine qas [(2,.v (.nilIface))] hW hE4 fun a5 hE6=>?_
 refine wp_ret ?_
 refine qaX hE6 hW.cells (v:=.nilIface) kz ?_
 exact ⟨rfl,rfl⟩
structure TR (w w':World) (br p2 p3:Nat) (F:Nat → Nat → Prop) (A:Option Addr) (n c:Nat) (s:Bs) (m:Option Nat) (u:List (Int × Bs)):Prop where
 step:Step w w' (RdM br)
 old:br < w.heap.size
 new2:w.heap.size ≤ p2
 new3:w.heap.size ≤ p3
 ne:p2 ≠ p3
 rd:Str w' br [.slice A n c,.bool false]
 s2:Str w' p2 [.map none]
 s3:Str w' p3 [.map m]
 oct:RdS w' (fun b o=>F b o ∧ b < w.heap.size) A n c s
 own:OwnM w' (fun b o=>F b o ∧ b < w.heap.size) m u
 new:∀ r,m = some r → w.heap.size ≤ r
theorem TR.mne {w w':World} {br p2 p3:Nat} {F:Nat → Nat → Prop} {A:Option Addr} {n c:Nat} {s:Bs} {m:Option Nat} {u:List (Int × Bs)} (h:TR w w' br p2 p3 F A n c s m u):m ≠ some p2 ∧ m ≠ some p3:=by
 refine ⟨fun e=>?_,fun e=>?_⟩
 ·obtain ⟨es,clk,h1,_⟩:=h.own.some_ p2 e
  exact qeh (h.s2.at_ 0 _ rfl) h1 rfl
 obtain ⟨es,clk,h1,_⟩:=h.own.some_ p3 e
 exact qeh (h.s3.at_ 0 _ rfl) h1 rfl
theorem TR.read {w w' w1:World} {br p2 p3:Nat} {F:Nat → Nat → Prop} {A A':Option Addr} {n c n' c':Nat} {s s':Bs} {m:Option Nat} {u:List (Int × Bs)} (h:TR w w' br p2 p3 F A n c s m u) (hFd:∀ b o,F b o → ¬ RdM br b o) (hs:Str w1 br [.slice A' n' c',.bool false]) (hr:RdS w1 (fun b o=>F b o ∧ b < w.heap.size) A' n' c' s') (hst:Step w' w1 (RdM br)):TR w w1 br p2 p3 F A' n' c' s' m u:=by
 have ho:=h.old
 have h2:=h.new2
 have h3:=h.new3
 refine ⟨h.step.trans hst fun _ _ _ e=>e,ho,h2,h3,h.ne,hs,h.s2.move hst fun o e=>?_,h.s3.move hst fun o e=>?_,hr,h.own.move hst (fun b o hg _=>hFd b o hg.1) qbb (fun r o e he=>?_),h.new⟩
 ·have:=e.1; omega
 ·have:=e.1; omega
 have:=h.new r e; have:=he.1; omega
theorem TR.set {w w':World} {br p2 p3:Nat} {F:Nat → Nat → Prop} {A A1:Option Addr} {n c c1 j:Nat} {s x:Bs} {k:Int} {m:Option Nat} {u:List (Int × Bs)} (h:TR w w' br p2 p3 F A n c s m (u.take j)) (hsort:qc3 u) (hj:u[j]? = some (k,x)) (hx:Octs w' (fun b o=>F b o ∧ b < w.heap.size) A1 c1 x) (hk:0 ≤ k ∧ k < 4294967296) :
  Calls Tryz.prog 193 [.pointer (some ⟨p3,0,none⟩),.int .u32 k,.slice A1 x.length c1].toArray w' (fun e w1=>e = .returned (.tuple #[]) ∧ ∃ r,TR w w1 br p2 p3 F A n c s (some r) (u.take (j + 1))):=by
 have hcell:w'.cell? ⟨p3,0,none⟩ = some (.map m):=h.s3.at_ 0 _ rfl
 have hfz:w'.frozen? ⟨p3,0,none⟩ = false:=h.s3.frz 0 (by simp)
 have hnew:=h.new
 have h2:=h.new2
 have h3:=h.new3
 have ho:=h.old
 have hsz:=h.step.size
 obtain ⟨m2,m3⟩:=h.mne
 refine (qjg hcell hfz h.own hx hk (fun b' o' hg=>⟨fun e=>?_,fun e=>?_⟩) (fun b' o' hg=>Nat.lt_of_lt_of_le hg.2 hsz)).mono ?_
 ·have:=hg.2; omega
 ·have:=hnew b' e; have:=hg.2; omega
 rintro e w1 ⟨rfl,r,g1,g2,g3,g4,g5⟩
 rw [qic hsort hj] at g3
 refine ⟨rfl,r,h.step.trans g5 fun b o hl e=>?_,ho,h2,h3,h.ne,h.rd.move g5 fun o e=>?_,h.s2.move g5 fun o e=>?_,⟨fun i v hi=>?_,fun i hi=>?_⟩,⟨h.oct.len,Octs.move h.oct.oct g5 (fun b o hg _ e=>?_) qbb⟩,g3,fun r' hr'=>?_⟩
 ·rcases e with ⟨e1,_⟩ | e1
  ·omega
  have:=hnew b e1; omega
 ·rcases e with ⟨e1,_⟩ | e1
  ·omega
  have:=hnew br e1; omega
 ·rcases e with ⟨e1,_⟩ | e1
  ·exact h.ne e1
  exact m2 e1
 ·cases i with
  | zero =>
   simp only [List.getElem?_cons_zero,Option.some.injEq] at hi
   subst hi
   exact g1
  | succ i=>simp at hi
 ·have:i = 0:=by simp at hi; omega
  subst this
  exact g2
 ·have:=hg.2
  rcases e with ⟨e1,_⟩ | e1
  ·omega
  have:=hnew b e1; omega
 obtain rfl:=Option.some.inj hr'
 rcases g4 with g4 | g4
 ·exact hnew _ g4
 exact Nat.le_trans hsz g4
theorem qhG (x:Int × Bs) (u:List (Int × Bs)):qcy (x :: u) = tagR x.1 x.2 ++ qcy u:=by unfold qcy; rw [List.flatMap_cons]
theorem qhH {u:List (Int × Bs)} {j:Nat} {k:Int} {x:Bs} (h:u[j]? = some (k,x)) (rest:Bs):qcy (u.drop j) ++ rest = uv k.toNat ++ (uv x.length ++ (x ++ (qcy (u.drop (j + 1)) ++ rest))):=by
 obtain ⟨hlt,he⟩:=List.getElem?_eq_some_iff.1 h
 rw [List.drop_eq_getElem_cons hlt,he,qhG]
 simp only [tagR,List.append_assoc]
theorem qk9 (u:List (Int × Bs)) (rest:Bs) (hsort:qc3 u) (hk:∀ x ∈ u,0 ≤ x.1 ∧ x.1 < 4294967296) (hul:u.length ≤ 1000000) (hxl:∀ x ∈ u,x.2.length < 4294967296) {br:Nat} {A:Option Addr} {m c:Nat} {w:World} {F:Nat → Nat → Prop} (hst:Str w br [.slice A m c,.bool false]) (hr:RdS w F A m c (uv u.length ++ (qcy u ++ rest))) (hFd:∀ b o,F b o → ¬ RdM br b o) :
  Calls Tryz.prog 156 #[.pointer (some ⟨br,0,none⟩)] w (RdPost w br (Fp F w) rest fun v w'=>∃ mm,v = .agg #[.map mm] ∧ MapR w' (Fp F w) mm u):=by
 have hbr:br < w.heap.size:=World.lt_of_cell (hst.at_ 0 _ rfl)
 refine enter (n:=24) (vs:=[.pointer (some ⟨br,0,none⟩)]) Tryz.func156 rfl Tryz.ntmps156 kz fun a hE=>?_
 have hW:=WOk.start w Nil
 refine qad [0] kz ?_
 refine qai (qaO hW hE (d:=2) (cs:=[.map none]) kz fun p2 a1 w1 hp2 hz2 hF1 hW1 hE1=>qae (qab ?_))
 refine qad [0] kz ?_
 refine qai (qaO hW1 hE1 (d:=3) (cs:=[.map none]) kz fun p3 a2 w2 hp3 hz3 hF2 hW2 hE2=>qae (qab ?_))
 have hne:p2 ≠ p3:=by
  have h1:=hW1.live 0 _ rfl
  simp only at h1
  omega
 have hS:Step w w2 Nil:=hW2.step
 have hT0:TR w w2 br p2 p3 F A m c (uv u.length ++ (qcy u ++ rest)) none (u.take 0):=by
  refine ⟨hS.mono fun _ _ _ h=>h.elim,hbr,hz2,hz3,hne,hst.move hS (fun _ h=>h),Str.of hW2 0 rfl,Str.of hW2 1 rfl,hr.move hS nilM (fun b o h hb=>⟨h,hb⟩),?_,fun _ h=>by cases h⟩
  rw [List.take_zero]
  exact OwnM.nil _ _
 refine wp_seq ?_
 have hE3:=(((hE2.recast 2 (.p 0 0) (.v (.pointer (some ⟨p2,0,none⟩))) rfl rfl trivial).recast 3 (.p 1 0) (.v (.pointer (some ⟨p3,0,none⟩))) rfl rfl trivial).pick (ks:=[0,2,3]) (env':=[(0,.v (.pointer (some ⟨br,0,none⟩))),(2,.v (.pointer (some ⟨p2,0,none⟩))),(3,.v (.pointer (some ⟨p3,0,none⟩)))]) kz).cutTb 0 kz
 have hWz:=WOk.start w2 Nil
 refine qad [0,1,2] kz ?_
 refine qaj [0] [1,2] [(0,.v (.pointer (some ⟨br,0,none⟩))),(2,.v (.pointer (some ⟨p2,0,none⟩))),(3,.v (.pointer (some ⟨p3,0,none⟩))),(7,.v (.pointer (some ⟨br,0,none⟩)))] hWz hE3 fun a3 hE4=>?_
 have hFd':∀ b o,(F b o ∧ b < w.heap.size) → ¬ RdM br b o:=fun b o h=>hFd b o h.1
 refine qai (qak hE4 (f:=190) (vs:=[.pointer (some ⟨br,0,none⟩)]) (d:=8) kz Tryz.call190 (qda u.length (by omega) (qcy u ++ rest) hT0.rd hT0.oct hFd') ?_)
 rintro e_ w3 ⟨_,A3,n3,c3,rfl,hs3,hr3,hst3,rfl⟩
 have hT1:=hT0.read hFd hs3 hr3 hst3
 refine ⟨_,rfl,fun a4 hE5=>?_⟩
 refine qaj [2] [] [(0,.v (.pointer (some ⟨br,0,none⟩))),(2,.v (.pointer (some ⟨p2,0,none⟩))),(3,.v (.pointer (some ⟨p3,0,none⟩))),(4,.v (.int .u32 ((u.length:Nat):Int)))] (WOk.start w3 Nil) hE5 fun a5 hE6=>qae (qab ?_)
 refine wp_block ?_
 refine wp_loop_ghost (fun q a_ w_=>∃ (j:Nat) (m_:Option Nat) (A_:Option Addr) (n_ c_:Nat),q = u.length - j ∧ j ≤ u.length ∧ EnvOk 24 [] [(0,.v (.pointer (some ⟨br,0,none⟩))),(2,.v (.pointer (some ⟨p2,0,none⟩))),(3,.v (.pointer (some ⟨p3,0,none⟩))),(4,.v (.int .u32 ((u.length - j:Nat):Int)))] a_ ∧ TR w w_ br p2 p3 F A_ n_ c_ (qcy (u.drop j) ++ rest) m_ (u.take j)) u.length
  ⟨0,none,A3,n3,c3,by omega,by omega,hE6,hT1⟩ ?_
 rintro q aq wq ⟨j,m_,A_,n_,c_,rfl,hj,hEq,hT⟩
 have hWq:=WOk.start wq Nil
 refine wp_seq (qas [(0,.v (.pointer (some ⟨br,0,none⟩))),(2,.v (.pointer (some ⟨p2,0,none⟩))),(3,.v (.pointer (some ⟨p3,0,none⟩))),(4,.v (.int .u32 ((u.length - j:Nat):Int))),(10,.v (.bool (decide (((u.length - j:Nat):Int) > 0))))] hWq hEq fun aq1 hE7=>?_)
 refine qaE hE7 (b:=decide (((u.length - j:Nat):Int) > 0)) kz (fun hc=>?_) (fun hc=>?_)
 ·have hlt:j < u.length:=by have:=of_decide_eq_true hc; omega
  obtain ⟨⟨k,x⟩,hu⟩:∃ y,u[j]? = some y:=⟨_,List.getElem?_eq_getElem hlt⟩
  have hk':=hk (k,x) (List.mem_of_getElem? hu)
  have hx':=hxl (k,x) (List.mem_of_getElem? hu)
  dsimp only at hk' hx'
  have hoct:=hT.oct
  rw [qhH hu rest] at hoct
  refine wp_skip (qab (wp_seq (wp_block ?_)))
  refine qad [0,1,2,3,4,5] kz ?_
  refine qaj [0] [1,2,3,4,5] [(0,.v (.pointer (some ⟨br,0,none⟩))),(2,.v (.pointer (some ⟨p2,0,none⟩))),(3,.v (.pointer (some ⟨p3,0,none⟩))),(4,.v (.int .u32 ((u.length - j:Nat):Int))),(13,.v (.pointer (some ⟨br,0,none⟩)))] hWq hE7 fun aq2 hE8=>?_
  refine qai (qak hE8 (f:=190) (vs:=[.pointer (some ⟨br,0,none⟩)]) (d:=14) kz Tryz.call190 (qda k.toNat (by omega) _ hT.rd hoct hFd') ?_)
  rintro e_ wa ⟨_,Aa,na,ca,rfl,hsa,hra,hsta,rfl⟩
  have hTa:=hT.read hFd hsa hra hsta
  refine ⟨_,rfl,fun aq3 hE9=>?_⟩
  refine qaj [2] [3,4,5] [(0,.v (.pointer (some ⟨br,0,none⟩))),(2,.v (.pointer (some ⟨p2,0,none⟩))),(3,.v (.pointer (some ⟨p3,0,none⟩))),(4,.v (.int .u32 ((u.length - j:Nat):Int))),(14,.v (.int .u32 ((k.toNat:Nat):Int))),(15,.v (.pointer (some ⟨br,0,none⟩)))] (WOk.start wa Nil) hE9 fun aq4 hE10=>?_
  refine qai (qak hE10 (f:=190) (vs:=[.pointer (some ⟨br,0,none⟩)]) (d:=16) kz Tryz.call190 (qda x.length hx' _ hTa.rd hTa.oct hFd') ?_)
  rintro e_ wb ⟨_,Ab,nb,cb,rfl,hsb,hrb,hstb,rfl⟩
  have hTb:=hTa.read hFd hsb hrb hstb
  refine ⟨_,rfl,fun aq5 hE11=>?_⟩
  refine qaj [4,5] [] [(0,.v (.pointer (some ⟨br,0,none⟩))),(2,.v (.pointer (some ⟨p2,0,none⟩))),(3,.v (.pointer (some ⟨p3,0,none⟩))),(4,.v (.int .u32 ((u.length - j:Nat):Int))),(5,.v (.int .u32 ((k.toNat:Nat):Int))),(6,.v (.int .u32 ((x.length:Nat):Int)))] (WOk.start wb Nil) hE11 fun aq6 hE12=>qae (qab ?_)
  refine qap [0,1,2,3,4,5] kz ?_
  refine qaj [0,1,2,3] [4,5] [(0,.v (.pointer (some ⟨br,0,none⟩))),(2,.v (.pointer (some ⟨p2,0,none⟩))),(3,.v (.pointer (some ⟨p3,0,none⟩))),(4,.v (.int .u32 ((u.length - j:Nat):Int))),(17,.v (.int .u32 ((k.toNat:Nat):Int))),(18,.v (.pointer (some ⟨br,0,none⟩))),(20,.v (.int .i64 (IntKind.i64.wrap ((x.length:Nat):Int))))] (WOk.start wb Nil) hE12 fun aq7 hE13=>?_
  rw [show IntKind.i64.wrap ((x.length:Nat):Int) = ((x.length:Nat):Int) by rw [i64w]; omega,show ((k.toNat:Nat):Int) = k by omega] at hE13
  refine qai (qak hE13 (f:=192) (vs:=[.pointer (some ⟨br,0,none⟩),.int .i64 ((x.length:Nat):Int)]) (d:=21) kz Tryz.call192 (qiT x _ hTb.rd hTb.oct hFd') ?_)
  rintro e_ wc ⟨_,Ac,nc,cc,rfl,hsc,hrc,hstc,Ax,rfl,hox⟩
  have hTc:=hTb.read hFd hsc hrc hstc
  refine ⟨_,rfl,fun aq8 hE14=>?_⟩
  refine qai (qak hE14 (f:=193) (vs:=[.pointer (some ⟨p3,0,none⟩),.int .u32 k,.slice Ax x.length x.length]) (d:=22) kz Tryz.call193 (hTc.set hsort hu hox hk') ?_)
  rintro e_ wd ⟨rfl,r,hTd⟩
  refine ⟨_,rfl,fun aq9 hE15=>qae (qax (qab ?_))⟩
  refine qap [0,1,2] kz (qaj [0,1,2] [] [(0,.v (.pointer (some ⟨br,0,none⟩))),(2,.v (.pointer (some ⟨p2,0,none⟩))),(3,.v (.pointer (some ⟨p3,0,none⟩))),(4,.v (.int .u32 (IntKind.u32.wrap (((u.length - j:Nat):Int) - 1))))] (WOk.start wd Nil) hE15 fun aqa hE16=>qae (qab ?_))
  rw [show IntKind.u32.wrap (((u.length - j:Nat):Int) - 1) = ((u.length - (j + 1):Nat):Int) by rw [qan]; omega] at hE16
  exact ⟨u.length - (j + 1),by omega,j + 1,some r,Ac,nc,cc,rfl,by omega,hE16,hTd⟩
 obtain rfl:j = u.length:=by have:=of_decide_eq_false hc; omega
 refine wp_exit (qaw (qaw (qaT (qab ?_))))
 rw [List.take_length,List.drop_length] at hT
 have hT':TR w wq br p2 p3 F A_ n_ c_ rest m_ u:=hT
 have h2:=hT'.new2
 have h3:=hT'.new3
 have hW9:WOk w (RdM br) wq ([] ++ [⟨p3,0,[.map m_],true⟩] ++ [⟨p2,0,[.map none],true⟩]) []:=by
  have hb:WOk w (RdM br) wq [] []:=⟨hT'.step,fun i o hi=>by simp at hi,fun i o hi=>by simp at hi,fun i o hi=>by simp at hi,fun i j o o' _ hi=>by simp at hi,fun i r hi=>by simp at hi,fun i r hi=>by simp at hi,fun i r hi=>by simp at hi,fun i j r r' _ hi=>by simp at hi⟩
  have h4:=hb.add ⟨p3,0,[.map m_],true⟩ (World.lt_of_cell (hT'.s3.at_ 0 _ rfl)) (fun j v hj=>by rw [Nat.zero_add]; exact hT'.s3.at_ j v hj) (fun _ j hj=>⟨.inl h3,by rw [Nat.zero_add]; exact hT'.s3.frz j hj⟩) (fun i o hi=>by simp at hi) (fun i r hi=>by simp at hi)
  refine h4.add ⟨p2,0,[.map none],true⟩ (World.lt_of_cell (hT'.s2.at_ 0 _ rfl)) (fun j v hj=>by rw [Nat.zero_add]; exact hT'.s2.at_ j v hj) (fun _ j hj=>⟨.inl h2,by rw [Nat.zero_add]; exact hT'.s2.frz j hj⟩) (fun i o hi _=>.inl ?_) (fun i r hi=>by simp at hi)
  have:o = ⟨p3,0,[.map m_],true⟩:=by
   have hm:=List.mem_of_getElem? hi
   simpa using hm
  rw [this]
  exact fun e=>hT'.ne e.symm
 have hE17:=(((hE7.retable [⟨p3,0,[.map m_],true⟩,⟨p2,0,[.map none],true⟩]).recast 3 (.v (.pointer (some ⟨p3,0,none⟩))) (.p 0 0) rfl rfl (Nat.le_of_ble_eq_true (n:=1) rfl)).recast 2 (.v (.pointer (some ⟨p2,0,none⟩))) (.p 1 0) rfl rfl (Nat.le_of_ble_eq_true (n:=2) rfl))
 have hE18:EnvOk 24 [⟨p3,0,[.map m_],true⟩,⟨p2,0,[.map none],true⟩] [(2,.p 1 0),(3,.p 0 0)] _:=hE17.pk
 refine qad [0,1] kz ?_
 refine qaj [0] [1] [(2,.p 1 0),(23,.v (.agg #[.map m_]))] hW9 hE18 fun aqb hE19=>?_
 refine qai (qam hW9 hE19 (oi:=1) (cs:=[.map m_]) kz fun wz hFz hWz hEz=>qae (qab (wp_ret ?_)))
 have hsz:=hT'.step.size
 have hstz:Step wq wz (fun b o=>b = p2 ∨ b = p3):=hFz.step.mono fun b o _ ha=>by
  rcases ha with ⟨i,ob,hi,_,rfl,_⟩ | ⟨i,r,hi,_⟩
  ·have hm:=List.mem_of_getElem? hi
   simp only [List.nil_append,List.cons_append,List.mem_cons,List.not_mem_nil,or_false] at hm
   rcases hm with rfl | rfl
   ·exact .inr rfl
   exact .inl rfl
  simp at hi
 obtain ⟨m2,m3⟩:=hT'.mne
 refine qaX hEz hWz.cells (v:=.agg #[.map m_]) kz ⟨_,A_,n_,c_,rfl,hT'.rd.move hstz (fun o e=>?_),hT'.oct.move hstz (fun b o hg _ e=>?_) (fun b o hg _=>.inl hg.1),hWz.step,m_,rfl,?_⟩
 ·have:=hT'.old; rcases e with e | e <;> omega
 ·have:=hg.2; rcases e with e | e <;> omega
 refine (hT'.own.move hstz (fun b o hg _ e=>?_) qbb (fun r o e he=>?_)).map (fun b o h=>.inl h.1) (fun r o e=>.inr (hT'.new r e)) hsort hk
 ·have:=hg.2; rcases e with e | e <;> omega
 rcases he with he | he
 ·exact m2 (by rw [e,he])
 exact m3 (by rw [e,he])
theorem qkn (X:Bs) (hX:X.length ≤ 32767) (rest:Bs)  {br:Nat} {A:Option Addr} {m c:Nat} {w:World} {F:Nat → Nat → Prop} (hst:Str w br [.slice A m c,.bool false]) (hr:RdS w F A m c ((be 2 ((X.length:Nat):Int)) ++ (X ++ rest))) (hFd:∀ b o,F b o → ¬ RdM br b o) :
  Calls Tryz.prog 154 #[.pointer (some ⟨br,0,none⟩)] w (RdPost w br (Fp F w) rest fun v w'=>v = .string (bs X)):=by
 refine enter (n:=11) Tryz.func154 rfl Tryz.ntmps154 kz fun a hE=>?_
 have hW:WOk w (RdM br) w [⟨br,0,[.slice A m c,.bool false],true⟩] []:=WOk.startStr hst
 have hE1:=(hE.grow ⟨br,0,[.slice A m c,.bool false],true⟩).recast 0 (.v (.pointer (some ⟨br,0,none⟩))) (.p 0 0) rfl rfl (Nat.le_of_ble_eq_true (n:=1) rfl)
 refine qas [(0,.p 0 0)] hW hE1 fun a1 hE2=>?_
 refine qad [0,1,2] kz ?_
 refine qaj [0] [1,2] [(0,.p 0 0),(4,.p 0 0)] hW hE2 fun a3 hE4=>?_
 refine qai (qak hE4 (f:=141) (vs:=[.pointer (some ⟨br,0,none⟩)]) (d:=5) kz Tryz.call141 (qhd ((X.length:Nat):Int) (X ++ rest) (Str.of hW 0 rfl) (hr.move hW.step (fun b_ o_ h_ _=>hFd b_ o_ h_) (hW.immM hFd)) (qcT 0 rfl)) ?_)
 rintro e_ w5 ⟨_,A6,n7,c8,rfl,hs9,ag,ac,rfl⟩
 obtain ⟨aa,ah,aG⟩:=hW.wrote 0 [⟨br,0,[.slice A6 n7 c8,.bool false],true⟩] rfl ac hs9
 have ai:=ag.move (Step.refl _ Nil) nilM (fun b_ o_ h_ _=>ah.to b_ o_ h_)
 refine ⟨_,rfl,fun aJ aj=>?_⟩
 have ak:EnvOk 11 [⟨br,0,[.slice A6 n7 c8,.bool false],true⟩] [(5,.v (.int .i16 (IntKind.i16.wrap ((X.length:Nat):Int)))),(0,.p 0 0),(4,.p 0 0)] _:=aj.places (⟨rfl,rfl,trivial⟩)
 refine qaj [2] [] [(0,.p 0 0),(3,.v (.int .i16 (IntKind.i16.wrap ((X.length:Nat):Int))))] aa ak fun aK al=>?_
 refine qae (qab ?_)
 refine qad [0,1,2,3,4,5] kz ?_
 refine qaj [0,1,2] [3,4,5] [(6,.p 0 0),(8,.v (.int .i64 (IntKind.i64.wrap (IntKind.i16.wrap ((X.length:Nat):Int)))))] aa al fun aL am=>?_
 have ao:IntKind.i64.wrap (IntKind.i16.wrap ((X.length:Nat):Int)) = ((X.length:Nat):Int):=by simp only [i16w,i32w,i64w]; omega
 have ap:=EnvOk.pick am (ks:=[6,8]) (env':=[(6,.p 0 0),(8,.v (.int .i64 (IntKind.i64.wrap (IntKind.i16.wrap ((X.length:Nat):Int)))))]) kz
 have ar:=ap.cast (env':=[(6,.p 0 0),(8,.v (.int .i64 ((X.length:Nat):Int)))]) (by rw [ao])
 refine qai (qak ar (f:=192) (vs:=[.pointer (some ⟨br,0,none⟩),.int .i64 ((X.length:Nat):Int)]) (d:=9) kz Tryz.call192 (qiT X (rest) (Str.of aa 0 rfl) ai (qcT 0 rfl)) ?_)
 rintro e_ aM ⟨_,aD,aE,aF,rfl,au,av,ae,⟨aH,rfl,aw⟩⟩
 obtain ⟨ab,af,aI⟩:=aa.wrote 0 [⟨br,0,[.slice aD aE aF,.bool false],true⟩] rfl ae au
 have ax:=av.move (Step.refl _ Nil) nilM (fun b_ o_ h_ _=>af.to b_ o_ h_)
 refine ⟨_,rfl,fun aN ay=>?_⟩
 have az:EnvOk 11 [⟨br,0,[.slice aD aE aF,.bool false],true⟩] [(9,.v (.slice aH X.length X.length)),(6,.p 0 0),(8,.v (.int .i64 ((X.length:Nat):Int)))] _:=ay.places (⟨rfl,rfl,trivial⟩)
 have aA:=aw.move (Step.refl _ Nil) nilM (fun b_ o_ h_ _=>af.to b_ o_ h_)
 refine qai (qed az (src:=22) (dst:=9) (e:=5) (d:=10) kz kz kz kz aA fun aO aB=>?_)
 refine qaj [5] [] [(2,.v (.string (bs X)))] ab aB fun aP aC=>?_
 refine qae (qab ?_)
 refine wp_ret ?_
 refine qaX aC ab.cells (v:=.string (bs X)) kz ?_
 refine ⟨_,_,_,_,rfl,Str.of ab 0 rfl,(ax.move (Step.refl _ Nil) nilM qbG),ab.step,rfl⟩
theorem qe7 (X:Bs) (hX:X.length ≤ 1000000) (rest:Bs)  {br:Nat} {A:Option Addr} {m c:Nat} {w:World} {F:Nat → Nat → Prop} (hst:Str w br [.slice A m c,.bool false]) (hr:RdS w F A m c ((uv (X.length + 1)) ++ (X ++ rest))) (hFd:∀ b o,F b o → ¬ RdM br b o) :
  Calls Tryz.prog 153 #[.pointer (some ⟨br,0,none⟩)] w (RdPost w br (Fp F w) rest fun v w'=>v = .string (bs X)):=by
 refine enter (n:=12) Tryz.func153 rfl Tryz.ntmps153 kz fun a hE=>?_
 have hW:WOk w (RdM br) w [⟨br,0,[.slice A m c,.bool false],true⟩] []:=WOk.startStr hst
 have hE1:=(hE.grow ⟨br,0,[.slice A m c,.bool false],true⟩).recast 0 (.v (.pointer (some ⟨br,0,none⟩))) (.p 0 0) rfl rfl (Nat.le_of_ble_eq_true (n:=1) rfl)
 refine qas [(0,.p 0 0)] hW hE1 fun a1 hE2=>?_
 refine qad [0,1,2,3,4] kz ?_
 refine qaj [0] [1,2,3,4] [(0,.p 0 0),(4,.p 0 0)] hW hE2 fun a3 hE4=>?_
 refine qai (qak hE4 (f:=190) (vs:=[.pointer (some ⟨br,0,none⟩)]) (d:=5) kz Tryz.call190 (qda (X.length + 1) (by omega) (X ++ rest) (Str.of hW 0 rfl) (hr.move hW.step (fun b_ o_ h_ _=>hFd b_ o_ h_) (hW.immM hFd)) (qcT 0 rfl)) ?_)
 rintro e_ w5 ⟨_,A6,n7,c8,rfl,hs9,ag,ac,rfl⟩
 obtain ⟨aa,ah,aG⟩:=hW.wrote 0 [⟨br,0,[.slice A6 n7 c8,.bool false],true⟩] rfl ac hs9
 have ai:=ag.move (Step.refl _ Nil) nilM (fun b_ o_ h_ _=>ah.to b_ o_ h_)
 refine ⟨_,rfl,fun aJ aj=>?_⟩
 have ak:EnvOk 12 [⟨br,0,[.slice A6 n7 c8,.bool false],true⟩] [(5,.v (.int .u32 ((X.length + 1:Nat):Int))),(0,.p 0 0),(4,.p 0 0)] _:=aj.places (⟨rfl,rfl,trivial⟩)
 refine qaj [2,3,4] [] [(0,.p 0 0),(3,.v (.int .i64 (IntKind.i64.wrap ((IntKind.i64.wrap ((X.length + 1:Nat):Int)) - 1))))] aa ak fun aK al=>?_
 refine qae (qab ?_)
 refine qad [0,1,2,3,4] kz ?_
 refine qaj [0,1] [2,3,4] [(8,.p 0 0),(9,.v (.int .i64 (IntKind.i64.wrap ((IntKind.i64.wrap ((X.length + 1:Nat):Int)) - 1))))] aa al fun aL am=>?_
 have ao:IntKind.i64.wrap ((IntKind.i64.wrap ((X.length + 1:Nat):Int)) - 1) = ((X.length:Nat):Int):=by simp only [i16w,i32w,i64w]; omega
 have ap:=EnvOk.pick am (ks:=[8,9]) (env':=[(8,.p 0 0),(9,.v (.int .i64 (IntKind.i64.wrap ((IntKind.i64.wrap ((X.length + 1:Nat):Int)) - 1))))]) kz
 have ar:=ap.cast (env':=[(8,.p 0 0),(9,.v (.int .i64 ((X.length:Nat):Int)))]) (by rw [ao])
 refine qai (qak ar (f:=192) (vs:=[.pointer (some ⟨br,0,none⟩),.int .i64 ((X.length:Nat):Int)]) (d:=10) kz Tryz.call192 (qiT X (rest) (Str.of aa 0 rfl) ai (qcT 0 rfl)) ?_)
 rintro e_ aM ⟨_,aD,aE,aF,rfl,au,av,ae,⟨aH,rfl,aw⟩⟩
 obtain ⟨ab,af,aI⟩:=aa.wrote 0 [⟨br,0,[.slice aD aE aF,.bool false],true⟩] rfl ae au
 have ax:=av.move (Step.refl _ Nil) nilM (fun b_ o_ h_ _=>af.to b_ o_ h_)
 refine ⟨_,rfl,fun aN ay=>?_⟩
 have az:EnvOk 12 [⟨br,0,[.slice aD aE aF,.bool false],true⟩] [(10,.v (.slice aH X.length X.length)),(8,.p 0 0),(9,.v (.int .i64 ((X.length:Nat):Int)))] _:=ay.places (⟨rfl,rfl,trivial⟩)
 have aA:=aw.move (Step.refl _ Nil) nilM (fun b_ o_ h_ _=>af.to b_ o_ h_)
 refine qai (qed az (src:=22) (dst:=9) (e:=5) (d:=11) kz kz kz kz aA fun aO aB=>?_)
 refine qaj [4] [] [(2,.v (.string (bs X)))] ab aB fun aP aC=>?_
 refine qae (qab ?_)
 refine wp_ret ?_
 refine qaX aC ab.cells (v:=.string (bs X)) kz ?_
 refine ⟨_,_,_,_,rfl,Str.of ab 0 rfl,(ax.move (Step.refl _ Nil) nilM qbG),ab.step,rfl⟩
theorem qew (X:Bs) (rest:Bs)  {br:Nat} {A:Option Addr} {m c:Nat} {w:World} {F:Nat → Nat → Prop} (hst:Str w br [.slice A m c,.bool false]) (hr:RdS w F A m c ((be 2 (-1)) ++ rest)) (hFd:∀ b o,F b o → ¬ RdM br b o) :
  Calls Tryz.prog 145 #[.pointer (some ⟨br,0,none⟩)] w (RdPost w br (Fp F w) rest fun v w'=>∃ A2,v = .pointer A2 ∧ (∀ ad,A2 = some ad → ∃ b o,ad = ⟨b,o,none⟩ ∧ AtF w' (Fp F w) b o [.string (bs X)]) ∧ A2.isNone = true):=by
 refine enter (n:=14) Tryz.func145 rfl Tryz.ntmps145 kz fun a hE=>?_
 have hW:WOk w (RdM br) w [⟨br,0,[.slice A m c,.bool false],true⟩] []:=WOk.startStr hst
 have hE1:=(hE.grow ⟨br,0,[.slice A m c,.bool false],true⟩).recast 0 (.v (.pointer (some ⟨br,0,none⟩))) (.p 0 0) rfl rfl (Nat.le_of_ble_eq_true (n:=1) rfl)
 refine qas [(0,.p 0 0)] hW hE1 fun a1 hE2=>?_
 refine qad [0,1,2] kz ?_
 refine qaj [0] [1,2] [(0,.p 0 0),(5,.p 0 0)] hW hE2 fun a3 hE4=>?_
 refine qai (qak hE4 (f:=141) (vs:=[.pointer (some ⟨br,0,none⟩)]) (d:=6) kz Tryz.call141 (qhd (-1) (rest) (Str.of hW 0 rfl) (hr.move hW.step (fun b_ o_ h_ _=>hFd b_ o_ h_) (hW.immM hFd)) (qcT 0 rfl)) ?_)
 rintro e_ w5 ⟨_,A6,n7,c8,rfl,hs9,ae,ab,rfl⟩
 obtain ⟨aa,af,al⟩:=hW.wrote 0 [⟨br,0,[.slice A6 n7 c8,.bool false],true⟩] rfl ab hs9
 have ag:=ae.move (Step.refl _ Nil) nilM (fun b_ o_ h_ _=>af.to b_ o_ h_)
 refine ⟨_,rfl,fun am ah=>?_⟩
 have ai:EnvOk 14 [⟨br,0,[.slice A6 n7 c8,.bool false],true⟩] [(6,.v (.int .i16 (IntKind.i16.wrap (-1)))),(0,.p 0 0),(5,.p 0 0)] _:=ah.places (⟨rfl,rfl,trivial⟩)
 refine qaj [2] [] [(0,.p 0 0),(3,.v (.int .i16 (IntKind.i16.wrap (-1))))] aa ai fun ao aj=>?_
 refine qae (qab ?_)
 refine wp_seq ?_
 refine qas [(0,.p 0 0),(3,.v (.int .i16 (IntKind.i16.wrap (-1)))),(8,.v (.bool (decide ((IntKind.i16.wrap (-1)) < 0))))] aa aj fun ap ac=>?_
 refine qbl ac (b:=decide ((IntKind.i16.wrap (-1)) < 0)) kz (decide_eq_true (by simp only [i16w,i32w,i64w]; omega)) ?_
 refine qas [(2,.v (.pointer none))] aa ac fun ar ak=>?_
 refine wp_ret ?_
 refine qaD ?_
 refine qaX ak aa.cells (v:=.pointer none) kz ?_
 refine ⟨_,_,_,_,rfl,Str.of aa 0 rfl,(ag.move (Step.refl _ Nil) nilM qbG),aa.step,_,rfl,(fun ad h_=>by cases h_),rfl⟩
theorem qex (X:Bs) (hX:X.length ≤ 32767) (rest:Bs)  {br:Nat} {A:Option Addr} {m c:Nat} {w:World} {F:Nat → Nat → Prop} (hst:Str w br [.slice A m c,.bool false]) (hr:RdS w F A m c ((be 2 ((X.length:Nat):Int)) ++ (X ++ rest))) (hFd:∀ b o,F b o → ¬ RdM br b o) :
  Calls Tryz.prog 145 #[.pointer (some ⟨br,0,none⟩)] w (RdPost w br (Fp F w) rest fun v w'=>∃ A2,v = .pointer A2 ∧ (∀ ad,A2 = some ad → ∃ b o,ad = ⟨b,o,none⟩ ∧ AtF w' (Fp F w) b o [.string (bs X)]) ∧ A2.isNone = false):=by
 refine enter (n:=14) Tryz.func145 rfl Tryz.ntmps145 kz fun a hE=>?_
 have hW:WOk w (RdM br) w [⟨br,0,[.slice A m c,.bool false],true⟩] []:=WOk.startStr hst
 have hE1:=(hE.grow ⟨br,0,[.slice A m c,.bool false],true⟩).recast 0 (.v (.pointer (some ⟨br,0,none⟩))) (.p 0 0) rfl rfl (Nat.le_of_ble_eq_true (n:=1) rfl)
 refine qas [(0,.p 0 0)] hW hE1 fun a1 hE2=>?_
 refine qad [0,1,2] kz ?_
 refine qaj [0] [1,2] [(0,.p 0 0),(5,.p 0 0)] hW hE2 fun a3 hE4=>?_
 refine qai (qak hE4 (f:=141) (vs:=[.pointer (some ⟨br,0,none⟩)]) (d:=6) kz Tryz.call141 (qhd ((X.length:Nat):Int) (X ++ rest) (Str.of hW 0 rfl) (hr.move hW.step (fun b_ o_ h_ _=>hFd b_ o_ h_) (hW.immM hFd)) (qcT 0 rfl)) ?_)
 rintro e_ w5 ⟨_,A6,n7,c8,rfl,hs9,aj,ac,rfl⟩
 obtain ⟨aa,ak,aN⟩:=hW.wrote 0 [⟨br,0,[.slice A6 n7 c8,.bool false],true⟩] rfl ac hs9
 have al:=aj.move (Step.refl _ Nil) nilM (fun b_ o_ h_ _=>ak.to b_ o_ h_)
 refine ⟨_,rfl,fun aT am=>?_⟩
 have ao:EnvOk 14 [⟨br,0,[.slice A6 n7 c8,.bool false],true⟩] [(6,.v (.int .i16 (IntKind.i16.wrap ((X.length:Nat):Int)))),(0,.p 0 0),(5,.p 0 0)] _:=am.places (⟨rfl,rfl,trivial⟩)
 refine qaj [2] [] [(0,.p 0 0),(3,.v (.int .i16 (IntKind.i16.wrap ((X.length:Nat):Int))))] aa ao fun aU ap=>?_
 refine qae (qab ?_)
 refine wp_seq ?_
 refine qas [(0,.p 0 0),(3,.v (.int .i16 (IntKind.i16.wrap ((X.length:Nat):Int)))),(8,.v (.bool (decide ((IntKind.i16.wrap ((X.length:Nat):Int)) < 0))))] aa ap fun aV ae=>?_
 refine qau ae (b:=decide ((IntKind.i16.wrap ((X.length:Nat):Int)) < 0)) kz (decide_eq_false (by simp only [i16w,i32w,i64w]; omega)) ?_
 refine wp_skip ?_
 refine qab ?_
 refine qad [0,1,2,3,4,5,6] kz ?_
 refine qaj [0,1,2] [3,4,5,6] [(9,.p 0 0),(11,.v (.int .i64 (IntKind.i64.wrap (IntKind.i16.wrap ((X.length:Nat):Int)))))] aa ae fun aW ar=>?_
 have au:IntKind.i64.wrap (IntKind.i16.wrap ((X.length:Nat):Int)) = ((X.length:Nat):Int):=by simp only [i16w,i32w,i64w]; omega
 have av:=EnvOk.pick ar (ks:=[9,11]) (env':=[(9,.p 0 0),(11,.v (.int .i64 (IntKind.i64.wrap (IntKind.i16.wrap ((X.length:Nat):Int)))))]) kz
 have aw:=av.cast (env':=[(9,.p 0 0),(11,.v (.int .i64 ((X.length:Nat):Int)))]) (by rw [au])
 refine qai (qak aw (f:=192) (vs:=[.pointer (some ⟨br,0,none⟩),.int .i64 ((X.length:Nat):Int)]) (d:=12) kz Tryz.call192 (qiT X (rest) (Str.of aa 0 rfl) al (qcT 0 rfl)) ?_)
 rintro e_ aX ⟨_,aK,aL,aM,rfl,ax,ay,af,⟨aO,rfl,az⟩⟩
 obtain ⟨aA,ag,aP⟩:=aa.wrote 0 [⟨br,0,[.slice aK aL aM,.bool false],true⟩] rfl af ax
 have aB:=ay.move (Step.refl _ Nil) nilM (fun b_ o_ h_ _=>ag.to b_ o_ h_)
 refine ⟨_,rfl,fun aY aC=>?_⟩
 have aD:EnvOk 14 [⟨br,0,[.slice aK aL aM,.bool false],true⟩] [(12,.v (.slice aO X.length X.length)),(9,.p 0 0),(11,.v (.int .i64 ((X.length:Nat):Int)))] _:=aC.places (⟨rfl,rfl,trivial⟩)
 have aE:=az.move (Step.refl _ Nil) nilM (fun b_ o_ h_ _=>ag.to b_ o_ h_)
 refine qai (qed aD (src:=22) (dst:=9) (e:=5) (d:=13) kz kz kz kz aE fun aZ aF=>?_)
 refine qai (qaO aA aF (d:=4) (cs:=[.string ByteArray.empty]) kz fun aQ ba bd aR aS ah aG aH=>?_)
 refine qai (qam aG aH (oi:=1) (cs:=[.string (bs X)]) kz fun bf ai ab aI=>?_)
 refine qae (qab ?_)
 refine qas [(2,.p 1 0)] ab aI fun bg aJ=>?_
 refine wp_ret ?_
 refine qaX aJ ab.cells (v:=.pointer (some ⟨aQ,0,none⟩)) kz ?_
 refine ⟨_,_,_,_,rfl,Str.of ab 0 rfl,((aB.move (ah.trans ai).step immM (ah.trans ai).to').move (Step.refl _ Nil) nilM qbG),ab.step,_,rfl,(fun ad h_=>by
  obtain rfl:=Option.some.inj h_
  exact ⟨_,0,rfl,fun j v_ hj=>⟨.inr ‹_›,ab.cells 1 _ rfl j v_ hj⟩⟩),rfl⟩
theorem qe2 (nul:Bool) (X:Bs) (hX:X.length ≤ 32767) (rest:Bs) {br:Nat} {A:Option Addr} {m c:Nat} {w:World} {F:Nat → Nat → Prop} (hst:Str w br [.slice A m c,.bool false]) (hr:RdS w F A m c ((if nul = true then be 2 (-1) else be 2 ((X.length:Nat):Int) ++ X) ++ rest)) (hFd:∀ b o,F b o → ¬ RdM br b o) :
  Calls Tryz.prog 145 #[.pointer (some ⟨br,0,none⟩)] w (RdPost w br (Fp F w) rest fun v w'=>∃ A2,v = .pointer A2 ∧ (∀ ad,A2 = some ad → ∃ b o,ad = ⟨b,o,none⟩ ∧ AtF w' (Fp F w) b o [.string (bs X)]) ∧ A2.isNone = nul):=by
 cases nul
 ·exact qex X hX rest hst (hr.cast (by simp only [Bool.false_eq_true,if_false,List.append_assoc])) hFd
 exact qew X rest hst (hr.cast (by simp only [if_true])) hFd
theorem qdb (X:Bs) (rest:Bs)  {br:Nat} {A:Option Addr} {m c:Nat} {w:World} {F:Nat → Nat → Prop} (hst:Str w br [.slice A m c,.bool false]) (hr:RdS w F A m c ((uv 0) ++ rest)) (hFd:∀ b o,F b o → ¬ RdM br b o) :
  Calls Tryz.prog 143 #[.pointer (some ⟨br,0,none⟩)] w (RdPost w br (Fp F w) rest fun v w'=>∃ A2,v = .pointer A2 ∧ (∀ ad,A2 = some ad → ∃ b o,ad = ⟨b,o,none⟩ ∧ AtF w' (Fp F w) b o [.string (bs X)]) ∧ A2.isNone = true):=by
 refine enter (n:=15) Tryz.func143 rfl Tryz.ntmps143 kz fun a hE=>?_
 have hW:WOk w (RdM br) w [⟨br,0,[.slice A m c,.bool false],true⟩] []:=WOk.startStr hst
 have hE1:=(hE.grow ⟨br,0,[.slice A m c,.bool false],true⟩).recast 0 (.v (.pointer (some ⟨br,0,none⟩))) (.p 0 0) rfl rfl (Nat.le_of_ble_eq_true (n:=1) rfl)
 refine qas [(0,.p 0 0)] hW hE1 fun a1 hE2=>?_
 refine qad [0,1,2,3,4] kz ?_
 refine qaj [0] [1,2,3,4] [(0,.p 0 0),(5,.p 0 0)] hW hE2 fun a3 hE4=>?_
 refine qai (qak hE4 (f:=190) (vs:=[.pointer (some ⟨br,0,none⟩)]) (d:=6) kz Tryz.call190 (qda 0 (by omega) (rest) (Str.of hW 0 rfl) (hr.move hW.step (fun b_ o_ h_ _=>hFd b_ o_ h_) (hW.immM hFd)) (qcT 0 rfl)) ?_)
 rintro e_ w5 ⟨_,A6,n7,c8,rfl,hs9,ae,ab,rfl⟩
 obtain ⟨aa,af,al⟩:=hW.wrote 0 [⟨br,0,[.slice A6 n7 c8,.bool false],true⟩] rfl ab hs9
 have ag:=ae.move (Step.refl _ Nil) nilM (fun b_ o_ h_ _=>af.to b_ o_ h_)
 refine ⟨_,rfl,fun am ah=>?_⟩
 have ai:EnvOk 15 [⟨br,0,[.slice A6 n7 c8,.bool false],true⟩] [(6,.v (.int .u32 ((0:Nat):Int))),(0,.p 0 0),(5,.p 0 0)] _:=ah.places (⟨rfl,rfl,trivial⟩)
 refine qaj [2,3,4] [] [(0,.p 0 0),(3,.v (.int .i64 (IntKind.i64.wrap ((IntKind.i64.wrap ((0:Nat):Int)) - 1))))] aa ai fun ao aj=>?_
 refine qae (qab ?_)
 refine wp_seq ?_
 refine qas [(0,.p 0 0),(3,.v (.int .i64 (IntKind.i64.wrap ((IntKind.i64.wrap ((0:Nat):Int)) - 1)))),(10,.v (.bool (decide ((IntKind.i64.wrap ((IntKind.i64.wrap ((0:Nat):Int)) - 1)) < 0))))] aa aj fun ap ac=>?_
 refine qbl ac (b:=decide ((IntKind.i64.wrap ((IntKind.i64.wrap ((0:Nat):Int)) - 1)) < 0)) kz (decide_eq_true (by simp only [i16w,i32w,i64w]; omega)) ?_
 refine qas [(2,.v (.pointer none))] aa ac fun ar ak=>?_
 refine wp_ret ?_
 refine qaD ?_
 refine qaX ak aa.cells (v:=.pointer none) kz ?_
 refine ⟨_,_,_,_,rfl,Str.of aa 0 rfl,(ag.move (Step.refl _ Nil) nilM qbG),aa.step,_,rfl,(fun ad h_=>by cases h_),rfl⟩
theorem qdc (X:Bs) (hX:X.length ≤ 1000000) (rest:Bs)  {br:Nat} {A:Option Addr} {m c:Nat} {w:World} {F:Nat → Nat → Prop} (hst:Str w br [.slice A m c,.bool false]) (hr:RdS w F A m c ((uv (X.length + 1)) ++ (X ++ rest))) (hFd:∀ b o,F b o → ¬ RdM br b o) :
  Calls Tryz.prog 143 #[.pointer (some ⟨br,0,none⟩)] w (RdPost w br (Fp F w) rest fun v w'=>∃ A2,v = .pointer A2 ∧ (∀ ad,A2 = some ad → ∃ b o,ad = ⟨b,o,none⟩ ∧ AtF w' (Fp F w) b o [.string (bs X)]) ∧ A2.isNone = false):=by
 refine enter (n:=15) Tryz.func143 rfl Tryz.ntmps143 kz fun a hE=>?_
 have hW:WOk w (RdM br) w [⟨br,0,[.slice A m c,.bool false],true⟩] []:=WOk.startStr hst
 have hE1:=(hE.grow ⟨br,0,[.slice A m c,.bool false],true⟩).recast 0 (.v (.pointer (some ⟨br,0,none⟩))) (.p 0 0) rfl rfl (Nat.le_of_ble_eq_true (n:=1) rfl)
 refine qas [(0,.p 0 0)] hW hE1 fun a1 hE2=>?_
 refine qad [0,1,2,3,4] kz ?_
 refine qaj [0] [1,2,3,4] [(0,.p 0 0),(5,.p 0 0)] hW hE2 fun a3 hE4=>?_
 refine qai (qak hE4 (f:=190) (vs:=[.pointer (some ⟨br,0,none⟩)]) (d:=6) kz Tryz.call190 (qda (X.length + 1) (by omega) (X ++ rest) (Str.of hW 0 rfl) (hr.move hW.step (fun b_ o_ h_ _=>hFd b_ o_ h_) (hW.immM hFd)) (qcT 0 rfl)) ?_)
 rintro e_ w5 ⟨_,A6,n7,c8,rfl,hs9,aj,ac,rfl⟩
 obtain ⟨aa,ak,aN⟩:=hW.wrote 0 [⟨br,0,[.slice A6 n7 c8,.bool false],true⟩] rfl ac hs9
 have al:=aj.move (Step.refl _ Nil) nilM (fun b_ o_ h_ _=>ak.to b_ o_ h_)
 refine ⟨_,rfl,fun aT am=>?_⟩
 have ao:EnvOk 15 [⟨br,0,[.slice A6 n7 c8,.bool false],true⟩] [(6,.v (.int .u32 ((X.length + 1:Nat):Int))),(0,.p 0 0),(5,.p 0 0)] _:=am.places (⟨rfl,rfl,trivial⟩)
 refine qaj [2,3,4] [] [(0,.p 0 0),(3,.v (.int .i64 (IntKind.i64.wrap ((IntKind.i64.wrap ((X.length + 1:Nat):Int)) - 1))))] aa ao fun aU ap=>?_
 refine qae (qab ?_)
 refine wp_seq ?_
 refine qas [(0,.p 0 0),(3,.v (.int .i64 (IntKind.i64.wrap ((IntKind.i64.wrap ((X.length + 1:Nat):Int)) - 1)))),(10,.v (.bool (decide ((IntKind.i64.wrap ((IntKind.i64.wrap ((X.length + 1:Nat):Int)) - 1)) < 0))))] aa ap fun aV ae=>?_
 refine qau ae (b:=decide ((IntKind.i64.wrap ((IntKind.i64.wrap ((X.length + 1:Nat):Int)) - 1)) < 0)) kz (decide_eq_false (by simp only [i16w,i32w,i64w]; omega)) ?_
 refine wp_skip ?_
 refine qab ?_
 refine qad [0,1,2,3,4,5] kz ?_
 refine qaj [0,1] [2,3,4,5] [(11,.p 0 0),(12,.v (.int .i64 (IntKind.i64.wrap ((IntKind.i64.wrap ((X.length + 1:Nat):Int)) - 1))))] aa ae fun aW ar=>?_
 have au:IntKind.i64.wrap ((IntKind.i64.wrap ((X.length + 1:Nat):Int)) - 1) = ((X.length:Nat):Int):=by simp only [i16w,i32w,i64w]; omega
 have av:=EnvOk.pick ar (ks:=[11,12]) (env':=[(11,.p 0 0),(12,.v (.int .i64 (IntKind.i64.wrap ((IntKind.i64.wrap ((X.length + 1:Nat):Int)) - 1))))]) kz
 have aw:=av.cast (env':=[(11,.p 0 0),(12,.v (.int .i64 ((X.length:Nat):Int)))]) (by rw [au])
 refine qai (qak aw (f:=192) (vs:=[.pointer (some ⟨br,0,none⟩),.int .i64 ((X.length:Nat):Int)]) (d:=13) kz Tryz.call192 (qiT X (rest) (Str.of aa 0 rfl) al (qcT 0 rfl)) ?_)
 rintro e_ aX ⟨_,aK,aL,aM,rfl,ax,ay,af,⟨aO,rfl,az⟩⟩
 obtain ⟨aA,ag,aP⟩:=aa.wrote 0 [⟨br,0,[.slice aK aL aM,.bool false],true⟩] rfl af ax
 have aB:=ay.move (Step.refl _ Nil) nilM (fun b_ o_ h_ _=>ag.to b_ o_ h_)
 refine ⟨_,rfl,fun aY aC=>?_⟩
 have aD:EnvOk 15 [⟨br,0,[.slice aK aL aM,.bool false],true⟩] [(13,.v (.slice aO X.length X.length)),(11,.p 0 0),(12,.v (.int .i64 ((X.length:Nat):Int)))] _:=aC.places (⟨rfl,rfl,trivial⟩)
 have aE:=az.move (Step.refl _ Nil) nilM (fun b_ o_ h_ _=>ag.to b_ o_ h_)
 refine qai (qed aD (src:=22) (dst:=9) (e:=5) (d:=14) kz kz kz kz aE fun aZ aF=>?_)
 refine qai (qaO aA aF (d:=4) (cs:=[.string ByteArray.empty]) kz fun aQ ba bd aR aS ah aG aH=>?_)
 refine qai (qam aG aH (oi:=1) (cs:=[.string (bs X)]) kz fun bf ai ab aI=>?_)
 refine qae (qab ?_)
 refine qas [(2,.p 1 0)] ab aI fun bg aJ=>?_
 refine wp_ret ?_
 refine qaX aJ ab.cells (v:=.pointer (some ⟨aQ,0,none⟩)) kz ?_
 refine ⟨_,_,_,_,rfl,Str.of ab 0 rfl,((aB.move (ah.trans ai).step immM (ah.trans ai).to').move (Step.refl _ Nil) nilM qbG),ab.step,_,rfl,(fun ad h_=>by
  obtain rfl:=Option.some.inj h_
  exact ⟨_,0,rfl,fun j v_ hj=>⟨.inr ‹_›,ab.cells 1 _ rfl j v_ hj⟩⟩),rfl⟩
theorem qdh (nul:Bool) (X:Bs) (hX:X.length ≤ 1000000) (rest:Bs) {br:Nat} {A:Option Addr} {m c:Nat} {w:World} {F:Nat → Nat → Prop} (hst:Str w br [.slice A m c,.bool false]) (hr:RdS w F A m c ((if nul = true then uv 0 else uv (X.length + 1) ++ X) ++ rest)) (hFd:∀ b o,F b o → ¬ RdM br b o) :
  Calls Tryz.prog 143 #[.pointer (some ⟨br,0,none⟩)] w (RdPost w br (Fp F w) rest fun v w'=>∃ A2,v = .pointer A2 ∧ (∀ ad,A2 = some ad → ∃ b o,ad = ⟨b,o,none⟩ ∧ AtF w' (Fp F w) b o [.string (bs X)]) ∧ A2.isNone = nul):=by
 cases nul
 ·exact qdc X hX rest hst (hr.cast (by simp only [Bool.false_eq_true,if_false,List.append_assoc])) hFd
 exact qdb X rest hst (hr.cast (by simp only [if_true])) hFd
theorem qiV (x:Int) (hx:-1 ≤ x ∧ x ≤ 32767) (rest:Bs) (hl:x ≤ ((rest.length:Nat):Int)) {br:Nat} {A:Option Addr} {m c:Nat} {w:World} {F:Nat → Nat → Prop} (hst:Str w br [.slice A m c,.bool false]) (hr:RdS w F A m c ((be 4 x) ++ rest)) (hFd:∀ b o,F b o → ¬ RdM br b o) :
  Calls Tryz.prog 147 #[.pointer (some ⟨br,0,none⟩)] w (RdPost w br (Fp F w) rest fun v w'=>v = .int .i32 x):=by
 refine enter (n:=21) Tryz.func147 rfl Tryz.ntmps147 kz fun a hE=>?_
 have hW:WOk w (RdM br) w [⟨br,0,[.slice A m c,.bool false],true⟩] []:=WOk.startStr hst
 have hE1:=(hE.grow ⟨br,0,[.slice A m c,.bool false],true⟩).recast 0 (.v (.pointer (some ⟨br,0,none⟩))) (.p 0 0) rfl rfl (Nat.le_of_ble_eq_true (n:=1) rfl)
 refine qas [(0,.p 0 0)] hW hE1 fun a1 hE2=>?_
 refine qad [0,1,2] kz ?_
 refine qaj [0] [1,2] [(0,.p 0 0),(4,.p 0 0)] hW hE2 fun a3 hE4=>?_
 refine qai (qak hE4 (f:=139) (vs:=[.pointer (some ⟨br,0,none⟩)]) (d:=5) kz Tryz.call139 (qjT x (rest) (Str.of hW 0 rfl) (hr.move hW.step (fun b_ o_ h_ _=>hFd b_ o_ h_) (hW.immM hFd)) (qcT 0 rfl)) ?_)
 rintro e_ w5 ⟨_,A6,n7,c8,rfl,hs9,af,ab,rfl⟩
 obtain ⟨aa,ag,al⟩:=hW.wrote 0 [⟨br,0,[.slice A6 n7 c8,.bool false],true⟩] rfl ab hs9
 have ac:=af.move (Step.refl _ Nil) nilM (fun b_ o_ h_ _=>ag.to b_ o_ h_)
 refine ⟨_,rfl,fun am ah=>?_⟩
 have ai:EnvOk 21 [⟨br,0,[.slice A6 n7 c8,.bool false],true⟩] [(5,.v (.int .i32 (IntKind.i32.wrap x))),(0,.p 0 0),(4,.p 0 0)] _:=ah.places (⟨rfl,rfl,trivial⟩)
 refine qaj [2] [] [(0,.p 0 0),(3,.v (.int .i32 (IntKind.i32.wrap x)))] aa ai fun ao aj=>?_
 refine qae (qab ?_)
 refine wp_seq ?_
 refine qas [(0,.p 0 0),(3,.v (.int .i32 (IntKind.i32.wrap x))),(13,.v (.bool (decide (((n7:Nat):Int) < (IntKind.i64.wrap (IntKind.i32.wrap x))))))] aa aj fun ap ae=>?_
 refine qau ae (b:=decide (((n7:Nat):Int) < (IntKind.i64.wrap (IntKind.i32.wrap x)))) kz (decide_eq_false (by have h_:=ac.len; simp only [i32w,i64w]; omega)) ?_
 refine wp_skip ?_
 refine qab ?_
 refine qas [(2,.v (.int .i32 (IntKind.i32.wrap x)))] aa ae fun ar ak=>?_
 refine wp_ret ?_
 refine qaX ak aa.cells (v:=.int .i32 (IntKind.i32.wrap x)) kz ?_
 refine ⟨_,_,_,_,rfl,Str.of aa 0 rfl,(ac.move (Step.refl _ Nil) nilM qbG),aa.step,congrArg (Value.int .i32) (by simp only [i32w]; omega)⟩
theorem qey (n:Nat) (hn:n ≤ 32768) (rest:Bs) (hl:n ≤ rest.length + 1) {br:Nat} {A:Option Addr} {m c:Nat} {w:World} {F:Nat → Nat → Prop} (hst:Str w br [.slice A m c,.bool false]) (hr:RdS w F A m c ((uv n) ++ rest)) (hFd:∀ b o,F b o → ¬ RdM br b o) :
  Calls Tryz.prog 146 #[.pointer (some ⟨br,0,none⟩)] w (RdPost w br (Fp F w) rest fun v w'=>v = .int .i32 (((n:Nat):Int) - 1)):=by
 refine enter (n:=23) Tryz.func146 rfl Tryz.ntmps146 kz fun a hE=>?_
 have hW:WOk w (RdM br) w [⟨br,0,[.slice A m c,.bool false],true⟩] []:=WOk.startStr hst
 have hE1:=(hE.grow ⟨br,0,[.slice A m c,.bool false],true⟩).recast 0 (.v (.pointer (some ⟨br,0,none⟩))) (.p 0 0) rfl rfl (Nat.le_of_ble_eq_true (n:=1) rfl)
 refine qas [(0,.p 0 0)] hW hE1 fun a1 hE2=>?_
 refine qad [0,1,2,3,4] kz ?_
 refine qaj [0] [1,2,3,4] [(0,.p 0 0),(4,.p 0 0)] hW hE2 fun a3 hE4=>?_
 refine qai (qak hE4 (f:=190) (vs:=[.pointer (some ⟨br,0,none⟩)]) (d:=5) kz Tryz.call190 (qda n (by omega) (rest) (Str.of hW 0 rfl) (hr.move hW.step (fun b_ o_ h_ _=>hFd b_ o_ h_) (hW.immM hFd)) (qcT 0 rfl)) ?_)
 rintro e_ w5 ⟨_,A6,n7,c8,rfl,hs9,af,ab,rfl⟩
 obtain ⟨aa,ag,al⟩:=hW.wrote 0 [⟨br,0,[.slice A6 n7 c8,.bool false],true⟩] rfl ab hs9
 have ac:=af.move (Step.refl _ Nil) nilM (fun b_ o_ h_ _=>ag.to b_ o_ h_)
 refine ⟨_,rfl,fun am ah=>?_⟩
 have ai:EnvOk 23 [⟨br,0,[.slice A6 n7 c8,.bool false],true⟩] [(5,.v (.int .u32 ((n:Nat):Int))),(0,.p 0 0),(4,.p 0 0)] _:=ah.places (⟨rfl,rfl,trivial⟩)
 refine qaj [2,3,4] [] [(0,.p 0 0),(3,.v (.int .i32 (IntKind.i32.wrap ((IntKind.i32.wrap ((n:Nat):Int)) - 1))))] aa ai fun ao aj=>?_
 refine qae (qab ?_)
 refine wp_seq ?_
 refine qas [(0,.p 0 0),(3,.v (.int .i32 (IntKind.i32.wrap ((IntKind.i32.wrap ((n:Nat):Int)) - 1)))),(15,.v (.bool (decide (((n7:Nat):Int) < (IntKind.i64.wrap (IntKind.i32.wrap ((IntKind.i32.wrap ((n:Nat):Int)) - 1)))))))] aa aj fun ap ae=>?_
 refine qau ae (b:=decide (((n7:Nat):Int) < (IntKind.i64.wrap (IntKind.i32.wrap ((IntKind.i32.wrap ((n:Nat):Int)) - 1))))) kz (decide_eq_false (by have h_:=ac.len; simp only [i32w,i64w]; omega)) ?_
 refine wp_skip ?_
 refine qab ?_
 refine qas [(2,.v (.int .i32 (IntKind.i32.wrap ((IntKind.i32.wrap ((n:Nat):Int)) - 1))))] aa ae fun ar ak=>?_
 refine wp_ret ?_
 refine qaX ak aa.cells (v:=.int .i32 (IntKind.i32.wrap ((IntKind.i32.wrap ((n:Nat):Int)) - 1))) kz ?_
 refine ⟨_,_,_,_,rfl,Str.of aa 0 rfl,(ac.move (Step.refl _ Nil) nilM qbG),aa.step,congrArg (Value.int .i32) (by simp only [i32w]; omega)⟩
theorem rOk  (rest:Bs)  {br:Nat} {A:Option Addr} {m c:Nat} {w:World} {F:Nat → Nat → Prop} (hst:Str w br [.slice A m c,.bool false]) (hr:RdS w F A m c (rest)) (hFd:∀ b o,F b o → ¬ RdM br b o) :
  Calls Tryz.prog 148 #[.pointer (some ⟨br,0,none⟩)] w (RdPost w br (Fp F w) rest fun v w'=>v = .bool true):=by
 refine enter (n:=8) Tryz.func148 rfl Tryz.ntmps148 kz fun a hE=>?_
 have hW:WOk w (RdM br) w [⟨br,0,[.slice A m c,.bool false],true⟩] []:=WOk.startStr hst
 have hE1:=(hE.grow ⟨br,0,[.slice A m c,.bool false],true⟩).recast 0 (.v (.pointer (some ⟨br,0,none⟩))) (.p 0 0) rfl rfl (Nat.le_of_ble_eq_true (n:=1) rfl)
 refine qas [(0,.p 0 0)] hW hE1 fun a1 hE2=>?_
 refine qas [(2,.v (.bool true))] hW hE2 fun a3 hE4=>?_
 refine wp_ret ?_
 refine qaX hE4 hW.cells (v:=.bool true) kz ?_
 refine ⟨_,_,_,_,rfl,Str.of hW 0 rfl,((hr.move hW.step (fun b_ o_ h_ _=>hFd b_ o_ h_) (hW.immM hFd)).move (Step.refl _ Nil) nilM qbG),hW.step,rfl⟩
theorem qdI {P:Program} {c:Code} {Mid:Act → World → Prop} {Q:Exit → Act → World → Prop} {a:Act} {w:World} (h1:c.wp P (Exit.then Mid Q) a w) (h2:∀ a' w',Mid a' w' → Q .normal a' w'):c.wp P Q a w :=
 wp_mono h1 fun e a' w' h=>by
  cases e <;> first | exact h2 a' w' h | exact h
theorem qhe {k:Nat} (h:k < 32768):IntKind.i32.wrap (((k:Nat):Int) + 1) = ((k + 1:Nat):Int):=by rw [i32w]; omega
theorem qiW {g:Tree → Bs}:∀ {L:List Tree},(∀ t,0 < (g t).length) → L.length ≤ (L.flatMap g).length
 | [],_=>Nat.zero_le _
 | t :: r,h=>by
  have h1:=h t
  have h2:=qiW (L:=r) h
  rw [List.flatMap_cons,List.length_append,List.length_cons]; omega
theorem flat_ge' {g:Tree → Bs} {L:List Tree} (h:∀ t,0 < (g t).length) (rest:Bs):L.length ≤ (L.flatMap g ++ rest).length:=by
 have:=qiW (L:=L) h
 rw [List.length_append]; omega
theorem qjv {x y:Bs} (h:0 < x.length):0 < (x ++ y).length:=by rw [List.length_append]; omega
theorem qkN {b:Bool} {x y:Bs} (h:0 < x.length) (h':0 < y.length):0 < (if b = true then x else y).length:=by split <;> assumption
theorem qjU {m:Nat} {x:Int} (h:0 < m):0 < (be m x).length:=by rw [be_length]; exact h
section
variable {Pr:Program} {ops:Array Oper} {Q:Exit → Act → World → Prop} {w0:World} {M F:Nat → Nat → Prop} {n br:Nat} {tb:Tb} {env:Env} {P:qcp} {s:Bs} {a:Act} {w:World}
theorem qiX {id d:Nat} {t e:TypeId} {size bytes m cp:Nat} {A0:Option Addr} (env1 env':Env) (i:Nat) (h:RS w0 M F n br tb env P s a w) (K:∀ a',RS w0 M F n br tb env' P s a' w → Q .normal a' w)
  (hr:List.range ops.size = List.range i ++ (i :: (List.range ops.size).drop (i + 1)):=by kernel_rfl) (e1:∀ A m c,qcV Pr ops n (rdo br A m c :: tb) (List.range i) (qbS env1) env = some env1:=by intro _ _ _; kernel_rfl)
  (hc:∀ A m_ c,cutE (rdo br A m_ c :: tb) env1 ops n i = some (t,.slice A0 m cp,none,some 0,d):=by intro _ _ _; kernel_rfl) (ht:qcD Pr t = some (e,size,bytes):=by kernel_rfl)
  (e2:∀ A m_ c,qcV Pr ops n (rdo br A m_ c :: tb) ((List.range ops.size).drop (i + 1)) (qbS env') ((d,.v (.slice A0 0 cp)) :: env1) = some env':=by intro _ _ _; kernel_rfl):(Code.region id ops false).wp Pr Q a w:=by
 refine qap _ hr (qc4 (List.range i) _ env1 h (fun a1 h1=>?_) e1 rfl)
 obtain ⟨A,m1,c,hW,hrd,hE,hP⟩:=h1.open_
 refine qai (qc8 hE (hc A m1 c) ht (j:=0) rfl (Nat.zero_le _) fun a2 hE2=>?_)
 exact qc4 _ [] env' (RS.mk' hW hrd hE2 h1.mv hP) (fun a3 h3=>qae (K a3 h3)) e2 (List.append_nil _).symm
theorem qjV {i d:Nat} {f:FuncId} {vs:List Value} {v0:Value} {N:Act → World → Prop} (h:RS w0 M F n br tb env P s a w) (hc:∀ w,Calls Pr f vs.toArray w (fun e w'=>e = .returned v0 ∧ w' = w))
  (hf:∀ args w,(callFunc f args).run Pr w = .ok (.enter f args) w) (K:∀ a',RS w0 M F n br tb ((d,.v v0) :: env) P s a' w → N a' w)
  (he:∀ A m c,qev (rdo br A m c :: tb) env ops n i = some (f,vs,d):=by intro _ _ _; kernel_rfl):wpOp Pr ops Q i N a w:=by
 obtain ⟨A,m,c,hW,hr,hE,hP⟩:=h.open_
 refine qak hE (he A m c) hf (hc w) ?_
 rintro e_ _ ⟨rfl,rfl⟩
 exact ⟨_,rfl,fun a1 hE1=>K a1 (RS.mk' hW hr hE1 h.mv hP)⟩
theorem qkO {id d:Nat} {f:FuncId} {v0:Value} (env':Env) (h:RS w0 M F n br tb env P s a w) (hc:qc5 Pr f [] s v0)
  (hf:∀ args w,(callFunc f args).run Pr w = .ok (.enter f args) w) (K:∀ a' w',RS w0 M F n br tb env' P s a' w' → Q .normal a' w')
  (he:∀ A m c,qev (rdo br A m c :: tb) env ops n 0 = some (f,[.pointer (some ⟨br,0,none⟩)],d):=by intro _ _ _; kernel_rfl)
  (e:∀ A m c,qcV Pr ops n (rdo br A m c :: tb) ((List.range ops.size).drop 1) (qbS env') ((d,.v v0) :: env) = some env':=by intro _ _ _; kernel_rfl) (hs:Nat.blt 0 ops.size = true:=by kernel_rfl):(Code.region id ops false).wp Pr Q a w :=
 qet (X:=[]) (rest:=s) env' h hc hf K he e hs
theorem qjw {i d k l g size bytes:Nat} {t e:TypeId} {z:Value} {N:Act → World → Prop} (h:RS w0 M F n br (tb ++ [qbs g size z l k]) env P s a w) (hk:k < l) (hz:z.cells.size = size) (hl:qeg (tb.length + 1) env = true)
  (K:∀ a',RS w0 M F n br (tb ++ [qbs g size z l (k + 1),⟨g,k * size,z.cells.toList,true⟩]) ((d,.p (tb.length + 2) 0) :: env) P s a' w → N a' w)
  (he:∀ A m c,idxE (rdo br A m c :: (tb ++ [qbs g size z l k])) env ops n i = some (t,some ⟨g,0,none⟩,l,((k:Nat):Int),d):=by intro _ _ _; kernel_rfl) (ht:qcD Pr t = some (e,size,bytes):=by kernel_rfl):wpOp Pr ops Q i N a w:=by
 obtain ⟨A,m,c,hW,hr,hE,hP⟩:=h.open_
 refine qat hE (he A m c) ht rfl rfl hk fun a1 hE1=>K a1 ?_
 have h1:RS w0 M F n br (tb ++ [qbs g size z l k]) ((d,.v (.pointer (some ⟨g,0 + k * size,none⟩))) :: env) P s a1 w:=RS.mk' hW hr hE1 h.mv hP
 have h2:=h1.next hk hz (by simpa only [qeg] using hl)
 have h3:=h2.recast d (.v (.pointer (some ⟨g,0 + k * size,none⟩))) (.p (tb.length + 2) 0) (by simp [lk]) ?_ (by show tb.length + 2 < _; simp)
 ·refine ⟨h3.mv,h3.ex,?_,h3.fact⟩
  refine ⟨h3.env_.defers,h3.env_.size,fun q x hx=>h3.env_.at_ q x ?_⟩
  simp only [lk] at hx ⊢
  split at hx
  ·exact hx
  exact hx
 have:obAt (rdo br none 0 0 :: (tb ++ [qbs g size z l (k + 1),⟨g,k * size,z.cells.toList,true⟩])) (tb.length + 2) = ⟨g,k * size,z.cells.toList,true⟩:=by
  simp only [obAt,List.getD_eq_getElem?_getD]
  rw [show tb.length + 2 = (tb.length + 1) + 1 from rfl,List.getElem?_cons_succ,List.getElem?_append_right (by omega)]
  simp
 simp only [SV.val,this]
 simp
theorem qiY {id d k l g size bytes:Nat} {t e:TypeId} {z:Value} (env1 env':Env) (i:Nat) (h:RS w0 M F n br (tb ++ [qbs g size z l k]) env P s a w) (hk:k < l) (hz:z.cells.size = size) (hl:qeg (tb.length + 1) env1 = true)
  (K:∀ a',RS w0 M F n br (tb ++ [qbs g size z l (k + 1),⟨g,k * size,z.cells.toList,true⟩]) env' P s a' w → Q .normal a' w)
  (hr:List.range ops.size = List.range i ++ (i :: (List.range ops.size).drop (i + 1)):=by kernel_rfl) (e1:∀ A m c,qcV Pr ops n (rdo br A m c :: (tb ++ [qbs g size z l k])) (List.range i) (qbS env1) env = some env1:=by intro _ _ _; kernel_rfl)
  (he:∀ A m c,idxE (rdo br A m c :: (tb ++ [qbs g size z l k])) env1 ops n i = some (t,some ⟨g,0,none⟩,l,((k:Nat):Int),d):=by intro _ _ _; kernel_rfl) (ht:qcD Pr t = some (e,size,bytes):=by kernel_rfl)
  (e2:∀ A m c,qcV Pr ops n (rdo br A m c :: (tb ++ [qbs g size z l (k + 1),⟨g,k * size,z.cells.toList,true⟩])) ((List.range ops.size).drop (i + 1)) (qbS env') ((d,.p (tb.length + 2) 0) :: env1) = some env':=by intro _ _ _; kernel_rfl):(Code.region id ops false).wp Pr Q a w:=by
 refine qap _ hr (qc4 (List.range i) _ env1 h (fun a1 h1=>qai (qjw h1 hk hz hl (fun a2 h2=>?_) he ht)) e1 rfl)
 exact qc4 _ [] env' h2 (fun a3 h3=>qae (K a3 h3)) e2 (List.append_nil _).symm
end
theorem qjW (x:Int) (rest:Bs):qc5 Tryz.prog 141 (be 2 (IntKind.i16.wrap x)) rest (.int .i16 (IntKind.i16.wrap x)):=fun hs hr hF=>(qhd _ rest hs hr hF).mono fun e w' hp=>hp.fp fun v w' h=>by rw [h,ww16]
theorem qjX (x:Int) (rest:Bs):qc5 Tryz.prog 139 (be 4 (IntKind.i32.wrap x)) rest (.int .i32 (IntKind.i32.wrap x)):=fun hs hr hF=>(qjT _ rest hs hr hF).mono fun e w' hp=>hp.fp fun v w' h=>by rw [h,ww32]
theorem qla (y:Bool) (rest:Bs):qc5 Tryz.prog 140 [by8 (if y then 1 else 0)] rest (.bool y):=fun hs hr hF=>(qk8 y rest hs hr hF).mono fun e w' hp=>hp.fp fun v w' h=>h
theorem qko (S:Bs) (hS:S.length ≤ 32767) (rest:Bs):qc5 Tryz.prog 154 (be 2 S.length ++ S) rest (.string (bs S)):=fun hs hr hF=>(qkn S hS rest hs (hr.cast (by simp only [List.append_assoc])) hF).mono fun e w' hp=>hp.q fun v w' h=>h
theorem qe8 (S:Bs) (hS:S.length ≤ 32767) (rest:Bs):qc5 Tryz.prog 153 (uv (S.length + 1) ++ S) rest (.string (bs S)):=fun hs hr hF=>(qe7 S (by omega) rest hs (hr.cast (by simp only [List.append_assoc])) hF).mono fun e w' hp=>hp.q fun v w' h=>h
theorem qdq (nul:Bool) (S:Bs) (hS:S.length ≤ 32767) (rest:Bs):qiR Tryz.prog 145 (if nul = true then be 2 (-1) else be 2 S.length ++ S) rest (fun A:Option Addr=>.pointer A) (fun A=>andF (qiQ A S) (isF (A.isNone = nul))):=fun hs hr hF=>(qe2 nul S (by omega) rest hs hr hF).mono fun e w' hp=>hp.q fun v w' h=>by
 obtain ⟨A,h1,h2,h3⟩:=h
 exact ⟨A,h1,h2,h3⟩
theorem qcw (nul:Bool) (S:Bs) (hS:S.length ≤ 32767) (rest:Bs):qiR Tryz.prog 143 (if nul = true then uv 0 else uv (S.length + 1) ++ S) rest (fun A:Option Addr=>.pointer A) (fun A=>andF (qiQ A S) (isF (A.isNone = nul))):=fun hs hr hF=>(qdh nul S (by omega) rest hs hr hF).mono fun e w' hp=>hp.q fun v w' h=>by
 obtain ⟨A,h1,h2,h3⟩:=h
 exact ⟨A,h1,h2,h3⟩
theorem qgm (n:Nat) (hn:n ≤ 32767) (rest:Bs) (hl:n ≤ rest.length):qc5 Tryz.prog 147 (be 4 n) rest (.int .i32 ((n:Nat):Int)):=fun hs hr hF=>(qiV ((n:Nat):Int) (by omega) rest (by omega) hs hr hF).mono fun e w' hp=>hp.q fun v w' h=>h
theorem qdg (n:Nat) (hn:n ≤ 32767) (rest:Bs) (hl:n ≤ rest.length):qc5 Tryz.prog 146 (uv (n + 1)) rest (.int .i32 ((n:Nat):Int)):=fun hs hr hF=>(qey (n + 1) (by omega) rest (by omega) hs hr hF).mono fun e w' hp=>hp.q fun v w' h=>h.trans (congrArg (Value.int .i32) (by omega))
theorem pOk (rest:Bs):qc5 Tryz.prog 148 [] rest (.bool true):=fun hs hr hF=>(rOk rest hs hr hF).mono fun e w' hp=>hp.q fun v w' h=>h
theorem qkp (u:List (Int × Bs)) (hU:canU u) (hk:∀ x ∈ u,0 ≤ x.1 ∧ x.1 < 4294967296) (rest:Bs):qiR Tryz.prog 156 (uv u.length ++ qcy u) rest (fun m:Option Nat=>.agg #[.map m]) (fun m=>qkM m u):=fun hs hr hF=>(qk9 u rest hU.1 hk hU.2.1 hU.2.2 hs (hr.cast (by simp only [List.append_assoc])) hF).mono fun e w' hp=>hp.q fun v w' h=>h
theorem qkP (k:Int) (A:Option Addr) (m c:Nat) (w:World):Calls Tryz.prog 97 #[.agg #[.int .u32 k,.slice A m c]] w (qio w):=by
 refine enter (n:=7) Tryz.func97 rfl Tryz.ntmps97 kz fun a hE=>?_
 have hW:=WOk.start w Nil
 refine qad [0,1] kz ?_
 refine qai (qbu hW hE (d:=1) (cs:=[.int .u32 k,.slice A m c]) kz fun b1 a2 w3 hb4 hz5 hF6 hW7 hE8=>?_)
 refine qaj [1] [] [(1,.p 0 0)] hW7 hE8 fun a9 ac=>?_
 refine qae (qab ?_)
 refine wp_seq ?_
 refine qas [(6,.v (.bool (decide (((m:Nat):Int) > 2147483647))))] hW7 ac fun ai aa=>?_
 refine qaE aa (b:=decide (((m:Nat):Int) > 2147483647)) kz (fun ab=>?_) (fun ab=>?_)
 ·
  have ag:=of_decide_eq_true ab
  refine qas [(2,.v (.bool false))] hW7 aa fun aj ae=>?_
  refine wp_ret ?_
  refine qaD ?_
  refine qaX ae hW7.cells (v:=.bool false) kz ?_
  exact ⟨_,rfl,hW7.step⟩
 have ah:=of_decide_eq_false ab
 refine wp_skip ?_
 refine qab ?_
 refine qas [(2,.v (.bool true))] hW7 aa fun ak af=>?_
 refine wp_ret ?_
 refine qaX af hW7.cells (v:=.bool true) kz ?_
 exact ⟨_,rfl,hW7.step⟩
theorem qkQ (A:Option Addr) (c:Nat) (u:List (Int × Bs)) (w:World) (F:Nat → Nat → Prop) (hu:TagsR w F A c u):Calls Tryz.prog 38 #[.slice A u.length c] w (qio w):=by
 obtain ⟨xu,h1,h2⟩:=hu.ex
 have hsm:=h1.small
 refine enter (n:=18) Tryz.func38 rfl Tryz.ntmps38 kz fun a hE=>?_
 have hW:=WOk.start w Nil
 refine qas [(0,.v (.slice A u.length c))] hW hE fun a1 hE2=>?_
 refine wp_seq ?_
 refine qas [(0,.v (.slice A u.length c)),(7,.v (.bool (decide (((u.length:Nat):Int) > 2147483647))))] hW hE2 fun a3 hE4=>?_
 refine qaE hE4 (b:=decide (((u.length:Nat):Int) > 2147483647)) kz (fun hc5=>?_) (fun hc5=>?_)
 ·
  have hf6:=of_decide_eq_true hc5
  refine qas [(2,.v (.bool false))] hW hE4 fun a7 hE8=>?_
  refine wp_ret ?_
  refine qaD ?_
  refine qaX hE8 hW.cells (v:=.bool false) kz ?_
  exact ⟨_,rfl,hW.step⟩
 have hf9:=of_decide_eq_false hc5
 refine wp_skip ?_
 refine qab ?_
 refine wp_seq ?_
 refine qas [(8,.v (.slice A u.length c)),(9,.v (.int .i64 ((u.length:Nat):Int))),(10,.v (.int .i64 0))] hW hE4 fun ba ar=>?_
 refine wp_block ?_
 refine wp_loop_ghost (fun n_ a_ w_=>∃ (k:Nat),n_ = u.length - k ∧ k ≤ u.length ∧ LInv hW 18 [] [] [(8,.v (.slice A u.length c)),(9,.v (.int .i64 ((u.length:Nat):Int))),(10,.v (.int .i64 ((k:Nat):Int)))] a_ w_) (u.length) ⟨0,by omega,by omega,ar.pk,hW,Fr.refl _ _ _⟩ ?_
 rintro bd bf bg ⟨k,aQ,aR,au,aa,av⟩
 refine qas [(8,.v (.slice A u.length c)),(9,.v (.int .i64 ((u.length:Nat):Int))),(10,.v (.int .i64 ((k:Nat):Int))),(11,.v (.bool (decide (((k:Nat):Int) < ((u.length:Nat):Int)))))] aa au fun bh ae=>?_
 refine wp_seq ?_
 refine qaE ae (b:=decide (((k:Nat):Int) < ((u.length:Nat):Int))) kz (fun af=>?_) (fun af=>?_)
 ·
  have aS:=of_decide_eq_true af
  refine wp_skip ?_
  refine qab ?_
  refine wp_seq ?_
  refine wp_block ?_
  refine qad [0,1,2,3] kz ?_
  obtain ⟨aT,aU,aw,aV,ac⟩:=Slots.get h1 (i:=k) (by omega)
  obtain ⟨⟨ai,aj⟩,ax⟩:∃ x,u[k]? = some x:=⟨_,List.getElem?_eq_getElem (by omega)⟩
  obtain ⟨⟨ak,al,am,aW⟩,bi,bj⟩:=h2 k ai aj ax
  rw [am] at ac
  refine qai (qat ae (t:=24) (A:=A) (m:=u.length) (q:=((k:Nat):Int)) (d:=12) kz (e:=65) (size:=2) (bytes:=32) kz aw rfl (by omega) fun bk ay=>?_)
  refine qai (qaK ay (t:=65) (b:=aT) (o:=aU + k * 2) (d:=13) kz (cs:=[.int .u32 ai,.slice ak aj.length al]) (v:=.agg #[.int .u32 ai,.slice ak aj.length al]) kz (AtF.move ac aa.step nilM qbb).at_ fun bn az=>?_)
  refine qai (qaO aa az (d:=4) (cs:=[.int .u32 0,.slice none 0 0]) kz fun bo bp bq aX aY aA aB aC=>?_)
  refine qai (qam aB aC (oi:=0) (cs:=[.int .u32 ai,.slice ak aj.length al]) kz fun bt aD ag aE=>?_)
  refine qae (qab ?_)
  refine qad [0,1,2] kz ?_
  refine qaj [0] [1,2] [(8,.v (.slice A u.length c)),(9,.v (.int .i64 ((u.length:Nat):Int))),(10,.v (.int .i64 ((k:Nat):Int))),(14,.v (.agg #[.int .u32 ai,.slice ak aj.length al]))] ag aE fun bu aF=>?_
  refine qai (qak aF (f:=97) (vs:=[.agg #[.int .u32 ai,.slice ak aj.length al]]) (d:=15) kz Tryz.call97 (qkP _ _ _ _ _) ?_)
  rintro e_ bw ⟨aP,rfl,ao⟩
  refine ⟨_,rfl,fun bx aG=>?_⟩
  have ab:=ag.next_nil ao
  have aH:=ag.frN ao
  refine qaj [2] [] [(8,.v (.slice A u.length c)),(9,.v (.int .i64 ((u.length:Nat):Int))),(10,.v (.int .i64 ((k:Nat):Int))),(16,.v (.bool (!aP)))] ab aG fun bz ah=>?_
  refine qae (qab ?_)
  refine qaE ah (b:=!aP) kz (fun aI=>?_) (fun aI=>?_)
  ·
   refine qas [(2,.v (.bool false))] ab ah fun bA aJ=>?_
   refine wp_ret ?_
   refine qaV ?_
   refine qaD ?_
   refine qaD ?_
   refine qaV ?_
   refine qaD ?_
   refine qaX aJ ab.cells (v:=.bool false) kz ?_
   exact ⟨_,rfl,ab.step⟩
  refine wp_skip ?_
  refine qax ?_
  refine qab ?_
  refine qap [0,1] kz ?_
  refine qaj [0,1] [] [(8,.v (.slice A u.length c)),(9,.v (.int .i64 ((u.length:Nat):Int))),(10,.v (.int .i64 (IntKind.i64.wrap (((k:Nat):Int) + 1))))] ab ah fun bB aK=>?_
  refine qae (qab ?_)
  obtain ⟨ap,aL,aM⟩:=ab.cutB aK 0 [] [(8,.v (.slice A u.length c)),(9,.v (.int .i64 ((u.length:Nat):Int))),(10,.v (.int .i64 (IntKind.i64.wrap (((k:Nat):Int) + 1))))]
  have aN:IntKind.i64.wrap (((k:Nat):Int) + 1) = ((k + 1:Nat):Int):=qa3 (by omega)
  rw [aN] at ap
  exact ⟨u.length - (k + 1),by omega,k + 1,rfl,by omega,ap.pk,aL,((((av.trans aA).trans aD).trans aH).trans aM)⟩
 have aZ:=of_decide_eq_false af
 refine wp_exit ?_
 refine qaw ?_
 refine qaw ?_
 refine qaT ?_
 refine qab ?_
 refine qas [(2,.v (.bool true))] aa ae fun bC aO=>?_
 refine wp_ret ?_
 refine qaX aO aa.cells (v:=.bool true) kz ?_
 exact ⟨_,rfl,aa.step⟩
theorem qkR (ct:List Value) (t:Tree) (w:World) (F:Nat → Nat → Prop) (ht:TreeR w F ct t):Calls Tryz.prog 10 #[.agg ct.toArray] w (qio w):=by
 obtain ⟨n1,s2,b3,l4,u5,A6,c7,A8,c9,aj,ak,aB,rfl,rfl,aC,aD,aN,aE⟩:=ht.open_
 have ay:=aC.small
 have az:=aD.small
 refine enter (n:=15) Tryz.func10 rfl Tryz.ntmps10 kz fun a hE=>?_
 have hW:=WOk.start w Nil
 refine qad [0,1] kz ?_
 refine qai (qbu hW hE (d:=1) (cs:=[.int .i64 n1,.slice A6 s2.length c7,.bool b3,.slice A8 l4.length c9,.slice aj u5.length ak]) kz fun aO aP aQ aF aG aH aa al=>?_)
 refine qaj [1] [] [(1,.p 0 0)] aa al fun aR am=>?_
 refine qae (qab ?_)
 refine wp_seq ?_
 refine qas [(1,.p 0 0),(6,.v (.bool (decide (((s2.length:Nat):Int) > 2147483647))))] aa am fun aS ac=>?_
 refine qaE ac (b:=decide (((s2.length:Nat):Int) > 2147483647)) kz (fun ae=>?_) (fun ae=>?_)
 ·
  have aI:=of_decide_eq_true ae
  refine qas [(2,.v (.bool false))] aa ac fun aT ao=>?_
  refine wp_ret ?_
  refine qaD ?_
  refine qaX ao aa.cells (v:=.bool false) kz ?_
  exact ⟨_,rfl,aa.step⟩
 have aJ:=of_decide_eq_false ae
 refine wp_skip ?_
 refine qab ?_
 refine wp_seq ?_
 refine qas [(1,.p 0 0),(10,.v (.bool (decide (((l4.length:Nat):Int) > 2147483647))))] aa ac fun aU af=>?_
 refine qaE af (b:=decide (((l4.length:Nat):Int) > 2147483647)) kz (fun ag=>?_) (fun ag=>?_)
 ·
  have aK:=of_decide_eq_true ag
  refine qas [(2,.v (.bool false))] aa af fun aV ap=>?_
  refine wp_ret ?_
  refine qaD ?_
  refine qaX ap aa.cells (v:=.bool false) kz ?_
  exact ⟨_,rfl,aa.step⟩
 have aL:=of_decide_eq_false ag
 refine wp_skip ?_
 refine qab ?_
 refine wp_seq ?_
 refine qad [0,1,2,3] kz ?_
 refine qaj [0,1] [2,3] [(12,.v (.slice aj u5.length ak))] aa af fun aW ar=>?_
 refine qai (qak ar (f:=38) (vs:=[.slice aj u5.length ak]) (d:=13) kz Tryz.call38 (qkQ _ _ u5 _ _ (aE.move aa.step nilM aa.imm)) ?_)
 rintro e_ aX ⟨aA,rfl,ai⟩
 refine ⟨_,rfl,fun aY au=>?_⟩
 have ab:=aa.next_nil ai
 have aM:=aa.frN ai
 refine qaj [3] [] [(14,.v (.bool (!aA)))] ab au fun aZ ah=>?_
 refine qae (qab ?_)
 refine qaE ah (b:=!aA) kz (fun av=>?_) (fun av=>?_)
 ·
  refine qas [(2,.v (.bool false))] ab ah fun ba aw=>?_
  refine wp_ret ?_
  refine qaD ?_
  refine qaX aw ab.cells (v:=.bool false) kz ?_
  exact ⟨_,rfl,ab.step⟩
 refine wp_skip ?_
 refine qab ?_
 refine qas [(2,.v (.bool true))] ab ah fun bd ax=>?_
 refine wp_ret ?_
 refine qaX ax ab.cells (v:=.bool true) kz ?_
 exact ⟨_,rfl,ab.step⟩
theorem qjx (x m:Int) (hx:0 ≤ x) (hx':x < 256) (hm:0 ≤ m) (hm':m < 32768) (w:World):Calls Tryz.prog 13 #[.int .u8 x,.int .i64 m] w (qcG w (.int .i64 (Int.tmod x (m + 1)))):=by
 refine enter (n:=10) Tryz.func13 rfl Tryz.ntmps13 kz fun a hE=>?_
 have hW:=WOk.start w Nil
 refine qas [(0,.v (.int .u8 x)),(1,.v (.int .i64 m))] hW hE fun a1 hE2=>?_
 refine qad [0,1,2,3,4,5] kz ?_
 refine qaj [0,1,2,3] [4,5] [(6,.v (.int .i64 (IntKind.i64.wrap x))),(8,.v (.int .i64 (IntKind.i64.wrap (m + 1))))] hW hE2 fun a3 hE4=>?_
 refine qai (qjc hE4 (k:=.i64) (p:=(IntKind.i64.wrap x)) (q:=(IntKind.i64.wrap (m + 1))) (d:=9) kz (by simp only [IntKind.wrap_i64]; omega) fun a5 hE6=>?_)
 refine qaj [5] [] [(4,.v (.int .i64 (Int.tmod (IntKind.i64.wrap x) (IntKind.i64.wrap (m + 1)))))] hW hE6 fun a7 hE8=>?_
 refine qae (qab ?_)
 refine wp_ret ?_
 refine qaX hE8 hW.cells (v:=.int .i64 (Int.tmod (IntKind.i64.wrap x) (IntKind.i64.wrap (m + 1)))) kz ?_
 exact ⟨by rw [wrap_i64 (by omega) (by omega),wrap_i64 (by omega) (by omega)],hW.step⟩
def qar (v:Int) (T:Tree):Bs:=(be 4 ((IntKind.i32.wrap (T.at_ 0).N))) ++ ((be 2 ((IntKind.i16.wrap (T.at_ 1).N))) ++ ((if (decide (v ≥ 0)) = true then (if (T.at_ 2).null = true then uv 0 else uv ((qbp (T.at_ 2)).length + 1) ++ (qbp (T.at_ 2))) else (if (T.at_ 2).null = true then be 2 (-1) else be 2 (qbp (T.at_ 2)).length ++ (qbp (T.at_ 2)))) ++ (if (decide (v ≥ 0)) = true then (uv T.U.length) ++ (qcy T.U) else [])))
theorem qbf (v:Int) (T:Tree):0 < (qar v T).length:=qjv (qjU (by decide))
def qaz (v:Int) (T:Tree):Bs:=(if (decide (v ≥ 0)) = true then (uv ((T.at_ 0).S.length + 1) ++ (T.at_ 0).S) else (be 2 (T.at_ 0).S.length ++ (T.at_ 0).S)) ++ (((if (decide (v ≥ 0)) = true then (uv ((lst (T.at_ 1)).length + 1)) else (be 4 (lst (T.at_ 1)).length)) ++ ((lst (T.at_ 1)).flatMap (qar v))) ++ (if (decide (v ≥ 0)) = true then (uv T.U.length) ++ (qcy T.U) else []))
theorem qbm (v:Int) (T:Tree):0 < (qaz v T).length:=qjv (qkN (qjv (qkC _)) (qjv (qjU (by decide))))
def qbw (v:Int) (T:Tree):Bs:=(be 4 ((IntKind.i32.wrap (T.at_ 0).N))) ++ ((if (decide (v ≥ 1)) = true then [by8 (if (decide ((T.at_ 1).N % 2 = 1)) then 1 else 0)] else []) ++ ((be 2 ((IntKind.i16.wrap (T.at_ 2).N))) ++ ((if (decide (v ≥ 0)) = true then (if (T.at_ 3).null = true then uv 0 else uv ((qbp (T.at_ 3)).length + 1) ++ (qbp (T.at_ 3))) else (if (T.at_ 3).null = true then be 2 (-1) else be 2 (qbp (T.at_ 3)).length ++ (qbp (T.at_ 3)))) ++ (((if (decide (v ≥ 0)) = true then (uv ((lst (T.at_ 4)).length + 1)) else (be 4 (lst (T.at_ 4)).length)) ++ ((lst (T.at_ 4)).flatMap (qaz v))) ++ ((if (decide (v ≥ 0)) = true then (uv T.U.length) ++ (qcy T.U) else []) ++ (([]:Bs)))))))
theorem qci (v:Int) (T:Tree):qag v T = qbw v T:=rfl
def qbg (d:DV):List Value:=[.int .i32 ((d.f 0).n),.int .i16 ((d.f 1).n),.pointer ((d.f 2).A),.map d.m]
theorem qaB:qgk qay:=by
 intro w w' F F' M d hs hM hF h
 unfold qay at h ⊢
 obtain ⟨g0,g1,⟨g2,g2l⟩,t1,t2,t3,_⟩:=h
 exact ⟨g0,g1,⟨fun ad hA=>by
  obtain ⟨b,o,h1,h2⟩:=g2 ad hA
  exact ⟨b,o,h1,h2.move hs hM hF⟩,g2l⟩,t1.move hs hM hF,t2,t3,trivial⟩
def qbo (d:DV):List Value:=[.string ((d.f 0).s),.slice ((d.f 1).A) ((d.f 1).l) ((d.f 1).c),.map d.m]
theorem qaL:qgk qaG:=by
 intro w w' F F' M d hs hM hF h
 unfold qaG at h ⊢
 obtain ⟨g0,⟨g1,g1l,g1e⟩,t1,t2,t3,_⟩:=h
 exact ⟨g0,⟨g1.move hs hM hF,g1l,fun i hi=>qaB _ hs hM hF (g1e i hi)⟩,t1.move hs hM hF,t2,t3,trivial⟩
def qa0 (v:Int) (D:DV) (T:Tree):Prop:=((D.f 0).n = IntKind.i32.wrap (T.at_ 0).N) ∧ ((D.f 1).n = IntKind.i16.wrap (T.at_ 1).N) ∧ (((D.f 2).s = bs (qbp (T.at_ 2)) ∧ (D.f 2).A.isNone = (T.at_ 2).null)) ∧ (((decide (v ≥ 0)) = true → D.u = T.U) ∧ ((decide (v ≥ 0)) = false → D.u = [])) ∧ True
def qa7 (v:Int) (D:DV) (T:Tree):Prop:=((D.f 0).s = bs (T.at_ 0).S) ∧ (((D.f 1).l = (lst (T.at_ 1)).length ∧ ∀ i,i < (D.f 1).l → qa0 v ((D.f 1).f i) ((lst (T.at_ 1)).getD i .zero))) ∧ (((decide (v ≥ 0)) = true → D.u = T.U) ∧ ((decide (v ≥ 0)) = false → D.u = [])) ∧ True
def qbB (v:Int) (D:DV) (T:Tree):Prop:=((D.f 0).n = IntKind.i32.wrap (T.at_ 0).N) ∧ (((decide (v ≥ 1)) = true → (D.f 1).b = decide ((T.at_ 1).N % 2 = 1)) ∧ ((decide (v ≥ 1)) = false → (D.f 1).b = true)) ∧ ((D.f 2).n = IntKind.i16.wrap (T.at_ 2).N) ∧ (((D.f 3).s = bs (qbp (T.at_ 3)) ∧ (D.f 3).A.isNone = (T.at_ 3).null)) ∧ (((D.f 4).l = (lst (T.at_ 4)).length ∧ ∀ i,i < (D.f 4).l → qa7 v ((D.f 4).f i) ((lst (T.at_ 4)).getD i .zero))) ∧ (((decide (v ≥ 0)) = true → D.u = T.U) ∧ ((decide (v ≥ 0)) = false → D.u = [])) ∧ True
theorem qkS (b o:Nat) (w:World):Calls Tryz.prog 150 #[.pointer (some ⟨b,o,none⟩)] w (fun e w'=>e = .returned (.tuple #[]) ∧ w' = w):=by
 refine enter (n:=2) (vs:=[.pointer (some ⟨b,o,none⟩)]) Tryz.func150 rfl Tryz.ntmps150 kz fun a hE=>?_
 refine wp_skip ?_
 exact qbF hE (WOk.start w Nil).cells (v:=.tuple #[]) kz ⟨rfl,rfl⟩
theorem qkT (b o:Nat) (w:World):Calls Tryz.prog 155 #[.pointer (some ⟨b,o,none⟩)] w (fun e w'=>e = .returned (.tuple #[]) ∧ w' = w):=by
 refine enter (n:=2) (vs:=[.pointer (some ⟨b,o,none⟩)]) Tryz.func155 rfl Tryz.ntmps155 kz fun a hE=>?_
 refine wp_skip ?_
 exact qbF hE (WOk.start w Nil).cells (v:=.tuple #[]) kz ⟨rfl,rfl⟩
set_option maxHeartbeats 4000000 in
theorem qcj (v:Int) (T:Tree) {bv:Nat} {A:Option Addr} {c:Nat} {w:World} {F:Nat → Nat → Prop} (hst:Str w bv [.int .i16 v,.int .i32 0,.bool true,.int .i16 0,.pointer none,.slice none 0 0,.map none]) (ho:Octs w F A c (qag v T)) (hFd:∀ b o,F b o → ¬ (b = bv ∧ o < 7)) (hc:qaR T) (hR:T.ranged) :
  Calls Tryz.prog 99 #[.pointer (some ⟨bv,0,none⟩),.slice A (qag v T).length c,.bool false] w (fun e w'=>∃ D:DV,e = .returned .nilIface ∧ Str w' bv [.int .i16 v,.int .i32 ((D.f 0).n),.bool ((D.f 1).b),.int .i16 ((D.f 2).n),.pointer ((D.f 3).A),.slice ((D.f 4).A) ((D.f 4).l) ((D.f 4).c),.map D.m] ∧ qaI w' (Fp F w) D ∧ qbB v D T ∧ Step w w' (fun b o=>b = bv ∧ o < 7)):=by
 refine enter (n:=188) Tryz.func99 rfl Tryz.ntmps99 kz fun a hE=>?_
 have hW:=WOk.startStr hst
 have hE1:=(hE.grow ⟨bv,0,[.int .i16 v,.int .i32 0,.bool true,.int .i16 0,.pointer none,.slice none 0 0,.map none],true⟩).recast 0 (.v (.pointer (some ⟨bv,0,none⟩))) (.p 0 0) rfl rfl (Nat.le_of_ble_eq_true (n:=1) rfl)
 refine qas [(0,.p 0 0),(1,.v (.slice A ((qag v T).length) c)),(2,.v (.bool false))] hW hE1 fun a1 hE2=>?_
 refine qad [0,1] kz ?_
 refine qaj [0] [1] [(0,.p 0 0),(1,.v (.slice A ((qag v T).length) c)),(2,.v (.bool false)),(31,.p 0 0)] hW hE2 fun a3 hE4=>?_
 refine qai (qbz hE4 (f:=44) (vs:=[.pointer (some ⟨bv,0,none⟩)]) (d:=32) (n':=5) kz Tryz.call44 Tryz.func44 rfl Tryz.ntmps44 kz fun a5 hE6=>?_)
 have hE7:=hE6.recast 0 (.v (.pointer (some ⟨bv,0,none⟩))) (.p 0 0) rfl rfl (Nat.le_of_ble_eq_true (n:=1) rfl)
 refine qap [0,1,2,3] kz ?_
 refine qaj [0,1,2] [3] [(4,.p 0 2)] hW hE7 fun a8 hE9=>?_
 refine qai (qam hW hE9 (oi:=0) (cs:=[.int .i16 v,.int .i32 0,.bool true,.int .i16 0,.pointer none,.slice none 0 0,.map none]) kz fun gj fV dW fx=>?_)
 refine qae ?_
 refine qbF fx dW.cells (v:=.tuple #[]) kz ?_
 refine ⟨_,rfl,fun gk fy=>?_⟩
 have fz:EnvOk 188 [⟨bv,0,[.int .i16 v,.int .i32 0,.bool true,.int .i16 0,.pointer none,.slice none 0 0,.map none],true⟩] [(32,.v (.tuple #[])),(0,.p 0 0),(1,.v (.slice A ((qag v T).length) c)),(2,.v (.bool false)),(31,.p 0 0)] _:=fy.places (⟨rfl,rfl,trivial⟩)
 refine qae (qab ?_)
 refine qad [0,1,2,3] kz ?_
 refine qaj [0,1] [2,3] [(0,.p 0 0),(2,.v (.bool false)),(34,.v (.agg #[.slice A ((qag v T).length) c,.bool false]))] dW fz fun gl fA=>?_
 refine qai (qaO dW fA (d:=7) (cs:=[.slice none 0 0,.bool false]) kz fun bj gm gn fW fX fY fB fC=>?_)
 refine qai (qam fB fC (oi:=1) (cs:=[.slice A ((qag v T).length) c,.bool false]) kz fun gp fZ dX fD=>?_)
 refine qae (qab ?_)
 have d9:=RS.start (F:=F) (s:=qag v T) dX fD (ho.move dX.step (fun b_ o_ h_ _=>hFd b_ o_ h_) (dX.immM hFd)) [(0,.p 1 0),(2,.v (.bool false)),(7,.p 0 0)]
 have fT:=hc
 have e32r:=hR
 unfold qaR at fT
 obtain ⟨e32_0,e32_1,e32_2,e32_3,⟨e32_4,e32_4e⟩,e32_U,_⟩:=fT
 obtain ⟨bw,ea⟩:∃ R,R = (if (decide (v ≥ 0)) = true then (uv T.U.length) ++ (qcy T.U) else []) ++ ([]:Bs):=⟨_,rfl⟩
 obtain ⟨fu,eb⟩:∃ R,R = ((if (decide (v ≥ 0)) = true then (uv ((lst (T.at_ 4)).length + 1)) else (be 4 (lst (T.at_ 4)).length)) ++ ((lst (T.at_ 4)).flatMap (qaz v))) ++ bw:=⟨_,rfl⟩
 obtain ⟨f5,ec⟩:∃ R,R = (if (decide (v ≥ 0)) = true then (if (T.at_ 3).null = true then uv 0 else uv ((qbp (T.at_ 3)).length + 1) ++ (qbp (T.at_ 3))) else (if (T.at_ 3).null = true then be 2 (-1) else be 2 (qbp (T.at_ 3)).length ++ (qbp (T.at_ 3)))) ++ fu:=⟨_,rfl⟩
 obtain ⟨ee,ef⟩:∃ R,R = (be 2 ((IntKind.i16.wrap (T.at_ 2).N))) ++ f5:=⟨_,rfl⟩
 obtain ⟨f7,eg⟩:∃ R,R = (if (decide (v ≥ 1)) = true then [by8 (if (decide ((T.at_ 1).N % 2 = 1)) then 1 else 0)] else []) ++ ee:=⟨_,rfl⟩
 obtain ⟨f8,eh⟩:∃ R,R = (be 4 ((IntKind.i32.wrap (T.at_ 0).N))) ++ f7:=⟨_,rfl⟩
 have ei:=d9.cast (t:=f8) (by rw [qci,eh,eg,ef,ec,eb,ea]; unfold qbw; simp only [List.append_assoc])
 clear d9
 refine wp_seq ?_
 refine qbH [(0,.p 1 0),(2,.v (.bool false)),(7,.p 0 0),(8,.v (.int .i16 v))] ei fun _ ej=>?_
 clear ei
 refine qab ?_
 refine wp_seq ?_
 refine qbH [(0,.p 1 0),(2,.v (.bool false)),(7,.p 0 0),(8,.v (.int .i16 v))] ej fun _ ek=>?_
 clear ej
 refine qab ?_
 refine wp_seq ?_
 refine qbH [(0,.p 1 0),(2,.v (.bool false)),(7,.p 0 0),(8,.v (.int .i16 v)),(9,.v (.bool (decide (v ≥ 0))))] ek fun _ em=>?_
 clear ek
 refine qab ?_
 refine wp_seq ?_
 refine qbH [(0,.p 1 0),(2,.v (.bool false)),(7,.p 0 0),(8,.v (.int .i16 v)),(9,.v (.bool (decide (v ≥ 0))))] em fun _ eo=>?_
 clear em
 refine qab ?_
 refine wp_seq ?_
 refine qbH [(2,.v (.bool false)),(7,.p 0 0),(8,.v (.int .i16 v)),(9,.v (.bool (decide (v ≥ 0)))),(10,.p 1 0)] eo fun _ ep=>?_
 clear eo
 refine qab ?_
 refine wp_seq ?_
 refine wp_seq ?_
 have eu:=ep.cast eh
 clear ep
 refine qet (d:=44) [(2,.v (.bool false)),(7,.p 0 0),(8,.v (.int .i16 v)),(9,.v (.bool (decide (v ≥ 0)))),(10,.p 1 0),(11,.v (.int .i32 (IntKind.i32.wrap (T.at_ 0).N)))] eu (qjX _ _) Tryz.call139 fun _ _ ev=>?_
 clear eu
 refine qab ?_
 refine qdP [⟨bv,0,[.int .i16 v,.int .i32 (IntKind.i32.wrap (T.at_ 0).N),.bool true,.int .i16 0,.pointer none,.slice none 0 0,.map none],true⟩] 0 [(2,.v (.bool false)),(7,.p 0 0),(8,.v (.int .i16 v)),(9,.v (.bool (decide (v ≥ 0)))),(10,.p 1 0)] ev fun _ _ ew=>?_
 clear ev
 refine qab ?_
 refine wp_seq ?_
 have ey:=ew.cast eg
 clear ew
 refine qdI (Mid:=fun a_ w_=>∃ (al:DV) (P':qcp),(∀ w F,P' w F → noF w F ∧ (True) ∧ ((decide (v ≥ 1)) = true → al.b = decide ((T.at_ 1).N % 2 = 1)) ∧ ((decide (v ≥ 1)) = false → al.b = true)) ∧ RS w (fun b o=>b = bv ∧ o < 7) F 188 bj [⟨bv,0,[.int .i16 v,.int .i32 (IntKind.i32.wrap (T.at_ 0).N),.bool al.b,.int .i16 0,.pointer none,.slice none 0 0,.map none],true⟩] [(2,.v (.bool false)),(7,.p 0 0),(9,.v (.bool (decide (v ≥ 0)))),(10,.p 1 0)] P' ee a_ w_) ?_ ?_
 ·
  refine wp_seq ?_
  refine qbH [(2,.v (.bool false)),(7,.p 0 0),(9,.v (.bool (decide (v ≥ 0)))),(10,.p 1 0),(50,.v (.bool (decide (v ≥ 1))))] ey fun _ aN=>qab ?_
  clear ey
  refine qaE aN.env_ (b:=decide (v ≥ 1)) kz (fun aO=>?_) (fun aO=>?_)
  ·
   have ez:=aN.cast (t:=[by8 (if (decide ((T.at_ 1).N % 2 = 1)) then 1 else 0)] ++ ee) (by rw [if_pos aO])
   clear aN
   refine wp_seq ?_
   refine qet (d:=51) [(2,.v (.bool false)),(7,.p 0 0),(9,.v (.bool (decide (v ≥ 0)))),(10,.p 1 0),(12,.v (.bool (decide ((T.at_ 1).N % 2 = 1))))] ez (qla _ _) Tryz.call140 fun _ _ eB=>?_
   clear ez
   refine qab ?_
   refine qdP [⟨bv,0,[.int .i16 v,.int .i32 (IntKind.i32.wrap (T.at_ 0).N),.bool (decide ((T.at_ 1).N % 2 = 1)),.int .i16 0,.pointer none,.slice none 0 0,.map none],true⟩] 0 [(2,.v (.bool false)),(7,.p 0 0),(9,.v (.bool (decide (v ≥ 0)))),(10,.p 1 0)] eB fun _ _ fE=>?_
   clear eB
   refine qab ?_
   exact ⟨dvB (decide ((T.at_ 1).N % 2 = 1)),_,fun w F h_=>⟨h_,trivial,⟨fun _=>rfl,(fun e_=>by rw [aO] at e_; cases e_)⟩⟩,fE.pk (env':=[(2,.v (.bool false)),(7,.p 0 0),(9,.v (.bool (decide (v ≥ 0)))),(10,.p 1 0)])⟩
  have eC:=aN.cast (t:=[] ++ ee) (by rw [if_neg (by rw [aO]; decide)])
  clear aN
  have fF:=eC.cast (t:=ee) rfl
  clear eC
  refine wp_skip (qab ?_)
  exact ⟨dvB true,_,fun w F h_=>⟨h_,trivial,⟨(fun e_=>by rw [aO] at e_; cases e_),fun _=>rfl⟩⟩,fF.pk (env':=[(2,.v (.bool false)),(7,.p 0 0),(9,.v (.bool (decide (v ≥ 0)))),(10,.p 1 0)])⟩
 rintro _ _ ⟨al,f9,eD,eE⟩
 refine qab ?_
 refine wp_seq ?_
 refine wp_seq ?_
 have eF:=eE.cast ef
 clear eE
 refine qet (d:=56) [(2,.v (.bool false)),(7,.p 0 0),(9,.v (.bool (decide (v ≥ 0)))),(10,.p 1 0),(13,.v (.int .i16 (IntKind.i16.wrap (T.at_ 2).N)))] eF (qjW _ _) Tryz.call141 fun _ _ eG=>?_
 clear eF
 refine qab ?_
 refine qdP [⟨bv,0,[.int .i16 v,.int .i32 (IntKind.i32.wrap (T.at_ 0).N),.bool al.b,.int .i16 (IntKind.i16.wrap (T.at_ 2).N),.pointer none,.slice none 0 0,.map none],true⟩] 0 [(2,.v (.bool false)),(7,.p 0 0),(9,.v (.bool (decide (v ≥ 0)))),(10,.p 1 0)] eG fun _ _ eH=>?_
 clear eG
 refine qab ?_
 refine wp_seq ?_
 refine wp_seq ?_
 refine qbH [(2,.v (.bool false)),(7,.p 0 0),(9,.v (.bool (decide (v ≥ 0)))),(10,.p 1 0)] eH fun _ eI=>?_
 clear eH
 refine qab ?_
 refine wp_seq ?_
 have eJ:=eI.cast ec
 clear eI
 refine qdI (Mid:=fun a_ w_=>∃ (am:Option Addr) (P':qcp),(∀ w F,P' w F → f9 w F ∧ qiQ am (qbp (T.at_ 3)) w F ∧ am.isNone = (T.at_ 3).null) ∧ RS w (fun b o=>b = bv ∧ o < 7) F 188 bj [⟨bv,0,[.int .i16 v,.int .i32 (IntKind.i32.wrap (T.at_ 0).N),.bool al.b,.int .i16 (IntKind.i16.wrap (T.at_ 2).N),.pointer none,.slice none 0 0,.map none],true⟩] [(2,.v (.bool false)),(7,.p 0 0),(9,.v (.bool (decide (v ≥ 0)))),(10,.p 1 0),(14,.v (.pointer am))] P' fu a_ w_) ?_ ?_
 ·
  refine wp_seq ?_
  refine qbH [(2,.v (.bool false)),(7,.p 0 0),(9,.v (.bool (decide (v ≥ 0)))),(10,.p 1 0),(61,.v (.bool (decide (v ≥ 0))))] eJ fun _ aP=>qab ?_
  clear eJ
  refine qaE aP.env_ (b:=decide (v ≥ 0)) kz (fun dY=>?_) (fun dY=>?_)
  ·
   have eK:=aP.cast (t:=(if (T.at_ 3).null = true then uv 0 else uv ((qbp (T.at_ 3)).length + 1) ++ (qbp (T.at_ 3))) ++ fu) (by rw [if_pos dY])
   clear aP
   refine wp_seq ?_
   refine qbH [(2,.v (.bool false)),(7,.p 0 0),(9,.v (.bool (decide (v ≥ 0)))),(10,.p 1 0),(62,.v (.bool false))] eK fun _ dZ=>qab ?_
   clear eK
   refine qau dZ.env_ (b:=false) kz (rfl) ?_
   refine qjt (d:=64) (fun fv=>[(2,.v (.bool false)),(7,.p 0 0),(9,.v (.bool (decide (v ≥ 0)))),(10,.p 1 0),(14,.v (.pointer fv))]) dZ (qcw (T.at_ 3).null (qbp (T.at_ 3)) e32_3 _) (fun _=>(MvF.text _ _).and (MvF.is _)) Tryz.call143 fun fv gq _ _ eL fG=>?_
   clear dZ
   refine qab ?_
   exact ⟨fv,_,fun w F h_=>⟨(eL _ _ h_).1,(eL _ _ h_).2⟩,fG.pk (env':=[(2,.v (.bool false)),(7,.p 0 0),(9,.v (.bool (decide (v ≥ 0)))),(10,.p 1 0),(14,.v (.pointer fv))])⟩
  have eM:=aP.cast (t:=(if (T.at_ 3).null = true then be 2 (-1) else be 2 (qbp (T.at_ 3)).length ++ (qbp (T.at_ 3))) ++ fu) (by rw [if_neg (by rw [dY]; decide)])
  clear aP
  refine wp_seq ?_
  refine qbH [(2,.v (.bool false)),(7,.p 0 0),(9,.v (.bool (decide (v ≥ 0)))),(10,.p 1 0),(65,.v (.bool false))] eM fun _ d5=>qab ?_
  clear eM
  refine qau d5.env_ (b:=false) kz (rfl) ?_
  refine qjt (d:=67) (fun fw=>[(2,.v (.bool false)),(7,.p 0 0),(9,.v (.bool (decide (v ≥ 0)))),(10,.p 1 0),(14,.v (.pointer fw))]) d5 (qdq (T.at_ 3).null (qbp (T.at_ 3)) e32_3 _) (fun _=>(MvF.text _ _).and (MvF.is _)) Tryz.call145 fun fw gt _ _ eN fH=>?_
  clear d5
  refine qab ?_
  exact ⟨fw,_,fun w F h_=>⟨(eN _ _ h_).1,(eN _ _ h_).2⟩,fH.pk (env':=[(2,.v (.bool false)),(7,.p 0 0),(9,.v (.bool (decide (v ≥ 0)))),(10,.p 1 0),(14,.v (.pointer fw))])⟩
 rintro _ _ ⟨am,fU,bk,eO⟩
 refine qab ?_
 refine qdP [⟨bv,0,[.int .i16 v,.int .i32 (IntKind.i32.wrap (T.at_ 0).N),.bool al.b,.int .i16 (IntKind.i16.wrap (T.at_ 2).N),.pointer am,.slice none 0 0,.map none],true⟩] 0 [(2,.v (.bool false)),(7,.p 0 0),(9,.v (.bool (decide (v ≥ 0)))),(10,.p 1 0)] eO fun _ _ eP=>?_
 clear eO
 refine qab ?_
 refine wp_seq ?_
 refine wp_seq ?_
 refine qbH [(2,.v (.bool false)),(7,.p 0 0),(9,.v (.bool (decide (v ≥ 0)))),(10,.p 1 0),(15,.v (.slice none 0 0))] eP fun _ eQ=>?_
 clear eP
 refine qab ?_
 refine wp_seq ?_
 refine qbH [(2,.v (.bool false)),(7,.p 0 0),(9,.v (.bool (decide (v ≥ 0)))),(10,.p 1 0),(16,.v (.slice none 0 0))] eQ fun _ eR=>?_
 clear eQ
 refine qab ?_
 refine wp_seq ?_
 refine qbH [(2,.v (.bool false)),(7,.p 0 0),(9,.v (.bool (decide (v ≥ 0)))),(10,.p 1 0),(16,.v (.slice none 0 0))] eR fun _ eS=>?_
 clear eR
 refine qab ?_
 refine wp_seq ?_
 have eU:=eS.cast eb
 clear eS
 have eV:=eU.cast (t:=(if (decide (v ≥ 0)) = true then (uv ((lst (T.at_ 4)).length + 1)) else (be 4 (lst (T.at_ 4)).length)) ++ (((lst (T.at_ 4)).flatMap (qaz v)) ++ bw)) (by rw [List.append_assoc])
 clear eU
 refine qgL (d1:=78) (d2:=79) [(2,.v (.bool false)),(7,.p 0 0),(9,.v (.bool (decide (v ≥ 0)))),(10,.p 1 0),(16,.v (.slice none 0 0)),(77,.v (.bool (decide (v ≥ 0))))] [(2,.v (.bool false)),(7,.p 0 0),(9,.v (.bool (decide (v ≥ 0)))),(10,.p 1 0),(16,.v (.slice none 0 0)),(17,.v (.int .i32 (((lst (T.at_ 4)).length:Nat):Int)))] eV (qdg ((lst (T.at_ 4)).length) e32_4 _ (flat_ge' (qbm v) _)) Tryz.call146 (qgm ((lst (T.at_ 4)).length) e32_4 _ (flat_ge' (qbm v) _)) Tryz.call147 fun _ _ eW=>?_
 clear eV
 refine qab ?_
 refine wp_seq ?_
 refine wp_seq ?_
 refine qkO (d:=80) [(2,.v (.bool false)),(7,.p 0 0),(9,.v (.bool (decide (v ≥ 0)))),(10,.p 1 0),(16,.v (.slice none 0 0)),(17,.v (.int .i32 (((lst (T.at_ 4)).length:Nat):Int))),(81,.v (.bool false))] eW (pOk _) Tryz.call148 fun _ _ aQ=>?_
 clear eW
 refine qab ?_
 refine qau aQ.env_ (b:=false) kz (rfl) ?_
 refine wp_skip ?_
 refine qab ?_
 refine wp_seq ?_
 refine qiX (t:=91) (e:=104) (size:=3) (bytes:=48) (d:=84) (A0:=none) (m:=0) (cp:=0) [(2,.v (.bool false)),(7,.p 0 0),(9,.v (.bool (decide (v ≥ 0)))),(10,.p 1 0),(17,.v (.int .i32 (((lst (T.at_ 4)).length:Nat):Int))),(83,.v (.slice none 0 0))] [(2,.v (.bool false)),(7,.p 0 0),(9,.v (.bool (decide (v ≥ 0)))),(10,.p 1 0),(16,.v (.slice none 0 0)),(17,.v (.int .i32 (((lst (T.at_ 4)).length:Nat):Int)))] 1 aQ fun _ bx=>?_
 clear aQ
 refine qab ?_
 refine qhc (Mid:=fun a_ w_=>∃ (aj:DV) (P':qcp),(∀ w F,P' w F → fU w F ∧ (Slots w F 3 aj.A aj.c aj.l (fun i=>[.string (((aj.f i).f 0).s),.slice (((aj.f i).f 1).A) (((aj.f i).f 1).l) (((aj.f i).f 1).c),.map ((aj.f i).m)]) ∧ aj.l ≤ 1000000 ∧ ∀ i,i < aj.l → qaG w F (aj.f i)) ∧ (aj.l = (lst (T.at_ 4)).length ∧ ∀ i,i < aj.l → qa7 v (aj.f i) ((lst (T.at_ 4)).getD i .zero))) ∧ RS w (fun b o=>b = bv ∧ o < 7) F 188 bj [⟨bv,0,[.int .i16 v,.int .i32 (IntKind.i32.wrap (T.at_ 0).N),.bool al.b,.int .i16 (IntKind.i16.wrap (T.at_ 2).N),.pointer am,.slice none 0 0,.map none],true⟩] [(7,.p 0 0),(9,.v (.bool (decide (v ≥ 0)))),(10,.p 1 0),(16,.v (.slice aj.A aj.l aj.c))] P' bw a_ w_) ?_ ?_
 ·
  refine wp_seq ?_
  refine qbH [(2,.v (.bool false)),(7,.p 0 0),(9,.v (.bool (decide (v ≥ 0)))),(10,.p 1 0),(16,.v (.slice none 0 0)),(17,.v (.int .i32 (((lst (T.at_ 4)).length:Nat):Int))),(86,.v (.bool (decide ((((lst (T.at_ 4)).length:Nat):Int) > 0))))] bx fun _ av=>qab ?_
  clear bx
  refine qaE av.env_ (b:=decide ((((lst (T.at_ 4)).length:Nat):Int) > 0)) kz (fun aJ=>?_) (fun aJ=>?_)
  ·
   have hn_g109:0 < (lst (T.at_ 4)).length:=by have h_:=of_decide_eq_true aJ; omega
   refine qap [0,1,2,3] kz ?_
   refine qc4 [0,1] [2,3] [(2,.v (.bool false)),(7,.p 0 0),(9,.v (.bool (decide (v ≥ 0)))),(10,.p 1 0),(17,.v (.int .i32 (((lst (T.at_ 4)).length:Nat):Int))),(87,.v (.slice none 0 0)),(88,.v (.int .i32 (((lst (T.at_ 4)).length:Nat):Int)))] av fun _ bz=>?_
   clear av
   refine qai (qfp (A0:=none) (d:=89) (t:=91) (tn:=21) (e:=104) (size:=3) (bytes:=48) (k:=.i32) (kn:=.i32) (q:=(((lst (T.at_ 4)).length:Nat):Int)) (j:=(lst (T.at_ 4)).length) (.agg #[.string ByteArray.empty,.slice none 0 0,.map none]) bz (fun ab ae _ _ hg_g109 hcap_g109 bA=>?_) rfl hn_g109 (by have:=e32_4; omega))
   clear bz
   refine qc4 [3] [] [(2,.v (.bool false)),(7,.p 0 0),(9,.v (.bool (decide (v ≥ 0)))),(10,.p 1 0),(16,.v (.slice (some ⟨ab,0,none⟩) ((lst (T.at_ 4)).length) ae)),(17,.v (.int .i32 (((lst (T.at_ 4)).length:Nat):Int)))] bA fun _ bB=>qae ?_
   clear bA
   refine qab ?_
   refine wp_seq ?_
   refine qbH [(2,.v (.bool false)),(7,.p 0 0),(9,.v (.bool (decide (v ≥ 0)))),(10,.p 1 0),(16,.v (.slice (some ⟨ab,0,none⟩) ((lst (T.at_ 4)).length) ae)),(17,.v (.int .i32 (((lst (T.at_ 4)).length:Nat):Int))),(18,.v (.int .i32 0))] bB fun _ aR=>?_
   clear bB
   refine qab ?_
   refine wp_block ?_
   have aS:=aR.mv
   have eX:=(aR.cast (t:=(lst (T.at_ 4)).flatMap (qaz v) ++ bw) rfl).pk (env':=[(2,.v (.bool false)),(7,.p 0 0),(9,.v (.bool (decide (v ≥ 0)))),(10,.p 1 0),(16,.v (.slice (some ⟨ab,0,none⟩) ((lst (T.at_ 4)).length) ae)),(17,.v (.int .i32 (((lst (T.at_ 4)).length:Nat):Int))),(18,.v (.int .i32 ((0:Nat):Int)))])
   clear aR
   refine qiS (tb:=[⟨bv,0,[.int .i16 v,.int .i32 (IntKind.i32.wrap (T.at_ 0).N),.bool al.b,.int .i16 (IntKind.i16.wrap (T.at_ 2).N),.pointer am,.slice none 0 0,.map none],true⟩]) (z:=.agg #[.string ByteArray.empty,.slice none 0 0,.map none]) (cl:=qbo) (ok:=qaG) (rel:=(qa7 v)) (L:=lst (T.at_ 4)) (size:=3) (qaz v) bw (fun k=>[(2,.v (.bool false)),(7,.p 0 0),(9,.v (.bool (decide (v ≥ 0)))),(10,.p 1 0),(16,.v (.slice (some ⟨ab,0,none⟩) ((lst (T.at_ 4)).length) ae)),(17,.v (.int .i32 (((lst (T.at_ 4)).length:Nat):Int))),(18,.v (.int .i32 ((k:Nat):Int)))]) eX qaL (fun ac aa _ _ aT eY bC=>?_) (fun _ _ bD=>?_)
   ·
    obtain ⟨eZ,bE,bF⟩:∃ P',(∀ w F,P' w F → (fU w F ∧ qe6 ab 3 qbo qaG (qa7 v) (lst (T.at_ 4)) ac w F)) ∧ RS w (fun b o=>b = bv ∧ o < 7) F 188 bj [⟨bv,0,[.int .i16 v,.int .i32 (IntKind.i32.wrap (T.at_ 0).N),.bool al.b,.int .i16 (IntKind.i16.wrap (T.at_ 2).N),.pointer am,.slice none 0 0,.map none],true⟩,qbs ab 3 (.agg #[.string ByteArray.empty,.slice none 0 0,.map none]) ((lst (T.at_ 4)).length) ac] [(2,.v (.bool false)),(7,.p 0 0),(9,.v (.bool (decide (v ≥ 0)))),(10,.p 1 0),(16,.v (.slice (some ⟨ab,0,none⟩) ((lst (T.at_ 4)).length) ae)),(17,.v (.int .i32 (((lst (T.at_ 4)).length:Nat):Int))),(18,.v (.int .i32 ((ac:Nat):Int)))] P' ((qaz v) aa ++ (((lst (T.at_ 4)).drop (ac + 1)).flatMap (qaz v) ++ bw)) _ _:=⟨_,fun _ _ h=>h,bC⟩
    clear bC
    obtain ⟨aU,bG⟩:∃ R,R = ((lst (T.at_ 4)).drop (ac + 1)).flatMap (qaz v) ++ bw:=⟨_,rfl⟩
    have e9:=(e32_4e aa (List.mem_of_getElem? aT))
    have e128r:=(qfn (qe0 e32r 4) aa (List.mem_of_getElem? aT))
    unfold qa6 at e9
    obtain ⟨e128_0,⟨e128_1,e128_1e⟩,e128_U,_⟩:=e9
    obtain ⟨aw,bH⟩:∃ R,R = (if (decide (v ≥ 0)) = true then (uv aa.U.length) ++ (qcy aa.U) else []) ++ aU:=⟨_,rfl⟩
    obtain ⟨fI,bI⟩:∃ R,R = ((if (decide (v ≥ 0)) = true then (uv ((lst (aa.at_ 1)).length + 1)) else (be 4 (lst (aa.at_ 1)).length)) ++ ((lst (aa.at_ 1)).flatMap (qar v))) ++ aw:=⟨_,rfl⟩
    obtain ⟨fJ,bJ⟩:∃ R,R = (if (decide (v ≥ 0)) = true then (uv ((aa.at_ 0).S.length + 1) ++ (aa.at_ 0).S) else (be 2 (aa.at_ 0).S.length ++ (aa.at_ 0).S)) ++ fI:=⟨_,rfl⟩
    have bK:=bF.cast (t:=fJ) (by rw [bJ,bI,bH,← bG]; unfold qaz; simp only [List.append_assoc])
    clear bF
    refine wp_seq ?_
    refine wp_seq ?_
    refine qbH [(2,.v (.bool false)),(7,.p 0 0),(9,.v (.bool (decide (v ≥ 0)))),(10,.p 1 0),(16,.v (.slice (some ⟨ab,0,none⟩) ((lst (T.at_ 4)).length) ae)),(17,.v (.int .i32 (((lst (T.at_ 4)).length:Nat):Int))),(18,.v (.int .i32 ((ac:Nat):Int))),(92,.v (.bool (decide (((ac:Nat):Int) < (((lst (T.at_ 4)).length:Nat):Int)))))] bK fun _ aV=>qab ?_
    clear bK
    refine qbl aV.env_ (b:=decide (((ac:Nat):Int) < (((lst (T.at_ 4)).length:Nat):Int))) kz (decide_eq_true (by omega)) ?_
    refine wp_skip ?_
    refine qab ?_
    refine wp_seq ?_
    refine wp_block ?_
    refine wp_seq ?_
    refine qiY (t:=91) (e:=104) (size:=3) (bytes:=48) (d:=97) (tb:=[⟨bv,0,[.int .i16 v,.int .i32 (IntKind.i32.wrap (T.at_ 0).N),.bool al.b,.int .i16 (IntKind.i16.wrap (T.at_ 2).N),.pointer am,.slice none 0 0,.map none],true⟩]) (z:=.agg #[.string ByteArray.empty,.slice none 0 0,.map none]) [(2,.v (.bool false)),(7,.p 0 0),(9,.v (.bool (decide (v ≥ 0)))),(10,.p 1 0),(16,.v (.slice (some ⟨ab,0,none⟩) ((lst (T.at_ 4)).length) ae)),(17,.v (.int .i32 (((lst (T.at_ 4)).length:Nat):Int))),(18,.v (.int .i32 ((ac:Nat):Int))),(95,.v (.slice (some ⟨ab,0,none⟩) ((lst (T.at_ 4)).length) ae)),(96,.v (.int .i32 ((ac:Nat):Int)))] [(2,.v (.bool false)),(7,.p 0 0),(9,.v (.bool (decide (v ≥ 0)))),(10,.p 1 0),(16,.v (.slice (some ⟨ab,0,none⟩) ((lst (T.at_ 4)).length) ae)),(17,.v (.int .i32 (((lst (T.at_ 4)).length:Nat):Int))),(18,.v (.int .i32 ((ac:Nat):Int))),(19,.p 3 0)] 2 aV eY rfl kz fun _ bL=>?_
    clear aV
    have bM:=bL.tbEq (tb':=[⟨bv,0,[.int .i16 v,.int .i32 (IntKind.i32.wrap (T.at_ 0).N),.bool al.b,.int .i16 (IntKind.i16.wrap (T.at_ 2).N),.pointer am,.slice none 0 0,.map none],true⟩,qbs ab 3 (.agg #[.string ByteArray.empty,.slice none 0 0,.map none]) ((lst (T.at_ 4)).length) (ac + 1),⟨ab,ac * 3,[.string ByteArray.empty,.slice none 0 0,.map none],true⟩]) rfl
    clear bL
    refine qab ?_
    refine wp_seq ?_
    refine qap [0,1] kz ?_
    refine qc4 [0] [1] [(2,.v (.bool false)),(7,.p 0 0),(9,.v (.bool (decide (v ≥ 0)))),(10,.p 1 0),(16,.v (.slice (some ⟨ab,0,none⟩) ((lst (T.at_ 4)).length) ae)),(17,.v (.int .i32 (((lst (T.at_ 4)).length:Nat):Int))),(18,.v (.int .i32 ((ac:Nat):Int))),(19,.p 3 0),(98,.p 3 0)] bM fun _ bN=>?_
    clear bM
    refine qai (qjV (d:=99) (vs:=[.pointer (some ⟨ab,ac * 3,none⟩)]) bN (fun _=>qkS _ _ _) Tryz.call150 fun _ bO=>?_)
    clear bN
    refine qae ?_
    have bP:=bO.pk (env':=[(2,.v (.bool false)),(7,.p 0 0),(9,.v (.bool (decide (v ≥ 0)))),(10,.p 1 0),(16,.v (.slice (some ⟨ab,0,none⟩) ((lst (T.at_ 4)).length) ae)),(17,.v (.int .i32 (((lst (T.at_ 4)).length:Nat):Int))),(18,.v (.int .i32 ((ac:Nat):Int))),(19,.p 3 0)])
    clear bO
    refine qab ?_
    refine wp_seq ?_
    refine qbH [(2,.v (.bool false)),(7,.p 0 0),(9,.v (.bool (decide (v ≥ 0)))),(10,.p 1 0),(16,.v (.slice (some ⟨ab,0,none⟩) ((lst (T.at_ 4)).length) ae)),(17,.v (.int .i32 (((lst (T.at_ 4)).length:Nat):Int))),(18,.v (.int .i32 ((ac:Nat):Int))),(20,.p 3 0)] bP fun _ bQ=>?_
    clear bP
    refine qab ?_
    refine wp_seq ?_
    refine wp_seq ?_
    refine qbH [(2,.v (.bool false)),(7,.p 0 0),(9,.v (.bool (decide (v ≥ 0)))),(10,.p 1 0),(16,.v (.slice (some ⟨ab,0,none⟩) ((lst (T.at_ 4)).length) ae)),(17,.v (.int .i32 (((lst (T.at_ 4)).length:Nat):Int))),(18,.v (.int .i32 ((ac:Nat):Int))),(20,.p 3 0)] bQ fun _ bR=>?_
    clear bQ
    refine qab ?_
    refine wp_seq ?_
    refine wp_seq ?_
    refine qbH [(2,.v (.bool false)),(7,.p 0 0),(9,.v (.bool (decide (v ≥ 0)))),(10,.p 1 0),(16,.v (.slice (some ⟨ab,0,none⟩) ((lst (T.at_ 4)).length) ae)),(17,.v (.int .i32 (((lst (T.at_ 4)).length:Nat):Int))),(18,.v (.int .i32 ((ac:Nat):Int))),(20,.p 3 0),(101,.v (.bool false))] bR fun _ aW=>qab ?_
    clear bR
    refine qau aW.env_ (b:=false) kz (rfl) ?_
    have bS:=aW.cast bJ
    clear aW
    refine qgL (d1:=106) (d2:=107) [(2,.v (.bool false)),(7,.p 0 0),(9,.v (.bool (decide (v ≥ 0)))),(10,.p 1 0),(16,.v (.slice (some ⟨ab,0,none⟩) ((lst (T.at_ 4)).length) ae)),(17,.v (.int .i32 (((lst (T.at_ 4)).length:Nat):Int))),(18,.v (.int .i32 ((ac:Nat):Int))),(20,.p 3 0),(105,.v (.bool (decide (v ≥ 0))))] [(2,.v (.bool false)),(7,.p 0 0),(9,.v (.bool (decide (v ≥ 0)))),(10,.p 1 0),(16,.v (.slice (some ⟨ab,0,none⟩) ((lst (T.at_ 4)).length) ae)),(17,.v (.int .i32 (((lst (T.at_ 4)).length:Nat):Int))),(18,.v (.int .i32 ((ac:Nat):Int))),(20,.p 3 0),(21,.v (.string (bs (aa.at_ 0).S)))] bS (qe8 (aa.at_ 0).S e128_0 _) Tryz.call153 (qko (aa.at_ 0).S e128_0 _) Tryz.call154 fun _ _ bT=>?_
    clear bS
    refine qab ?_
    refine qdP [⟨bv,0,[.int .i16 v,.int .i32 (IntKind.i32.wrap (T.at_ 0).N),.bool al.b,.int .i16 (IntKind.i16.wrap (T.at_ 2).N),.pointer am,.slice none 0 0,.map none],true⟩,qbs ab 3 (.agg #[.string ByteArray.empty,.slice none 0 0,.map none]) ((lst (T.at_ 4)).length) (ac + 1),⟨ab,ac * 3,[.string (bs (aa.at_ 0).S),.slice none 0 0,.map none],true⟩] 2 [(2,.v (.bool false)),(7,.p 0 0),(9,.v (.bool (decide (v ≥ 0)))),(10,.p 1 0),(16,.v (.slice (some ⟨ab,0,none⟩) ((lst (T.at_ 4)).length) ae)),(17,.v (.int .i32 (((lst (T.at_ 4)).length:Nat):Int))),(18,.v (.int .i32 ((ac:Nat):Int))),(20,.p 3 0)] bT fun _ _ bU=>?_
    clear bT
    refine qab ?_
    refine wp_seq ?_
    refine wp_seq ?_
    refine qbH [(2,.v (.bool false)),(7,.p 0 0),(9,.v (.bool (decide (v ≥ 0)))),(10,.p 1 0),(16,.v (.slice (some ⟨ab,0,none⟩) ((lst (T.at_ 4)).length) ae)),(17,.v (.int .i32 (((lst (T.at_ 4)).length:Nat):Int))),(18,.v (.int .i32 ((ac:Nat):Int))),(20,.p 3 0),(22,.v (.slice none 0 0))] bU fun _ bV=>?_
    clear bU
    refine qab ?_
    refine wp_seq ?_
    refine qbH [(2,.v (.bool false)),(7,.p 0 0),(9,.v (.bool (decide (v ≥ 0)))),(10,.p 1 0),(16,.v (.slice (some ⟨ab,0,none⟩) ((lst (T.at_ 4)).length) ae)),(17,.v (.int .i32 (((lst (T.at_ 4)).length:Nat):Int))),(18,.v (.int .i32 ((ac:Nat):Int))),(20,.p 3 0),(23,.v (.slice none 0 0))] bV fun _ bW=>?_
    clear bV
    refine qab ?_
    refine wp_seq ?_
    refine qbH [(2,.v (.bool false)),(7,.p 0 0),(9,.v (.bool (decide (v ≥ 0)))),(10,.p 1 0),(16,.v (.slice (some ⟨ab,0,none⟩) ((lst (T.at_ 4)).length) ae)),(17,.v (.int .i32 (((lst (T.at_ 4)).length:Nat):Int))),(18,.v (.int .i32 ((ac:Nat):Int))),(20,.p 3 0),(23,.v (.slice none 0 0))] bW fun _ bX=>?_
    clear bW
    refine qab ?_
    refine wp_seq ?_
    have bY:=bX.cast bI
    clear bX
    have bZ:=bY.cast (t:=(if (decide (v ≥ 0)) = true then (uv ((lst (aa.at_ 1)).length + 1)) else (be 4 (lst (aa.at_ 1)).length)) ++ (((lst (aa.at_ 1)).flatMap (qar v)) ++ aw)) (by rw [List.append_assoc])
    clear bY
    refine qgL (d1:=118) (d2:=119) [(2,.v (.bool false)),(7,.p 0 0),(9,.v (.bool (decide (v ≥ 0)))),(10,.p 1 0),(16,.v (.slice (some ⟨ab,0,none⟩) ((lst (T.at_ 4)).length) ae)),(17,.v (.int .i32 (((lst (T.at_ 4)).length:Nat):Int))),(18,.v (.int .i32 ((ac:Nat):Int))),(20,.p 3 0),(23,.v (.slice none 0 0)),(117,.v (.bool (decide (v ≥ 0))))] [(2,.v (.bool false)),(7,.p 0 0),(9,.v (.bool (decide (v ≥ 0)))),(10,.p 1 0),(16,.v (.slice (some ⟨ab,0,none⟩) ((lst (T.at_ 4)).length) ae)),(17,.v (.int .i32 (((lst (T.at_ 4)).length:Nat):Int))),(18,.v (.int .i32 ((ac:Nat):Int))),(20,.p 3 0),(23,.v (.slice none 0 0)),(24,.v (.int .i32 (((lst (aa.at_ 1)).length:Nat):Int)))] bZ (qdg ((lst (aa.at_ 1)).length) e128_1 _ (flat_ge' (qbf v) _)) Tryz.call146 (qgm ((lst (aa.at_ 1)).length) e128_1 _ (flat_ge' (qbf v) _)) Tryz.call147 fun _ _ b8=>?_
    clear bZ
    refine qab ?_
    refine wp_seq ?_
    refine wp_seq ?_
    refine qkO (d:=120) [(2,.v (.bool false)),(7,.p 0 0),(9,.v (.bool (decide (v ≥ 0)))),(10,.p 1 0),(16,.v (.slice (some ⟨ab,0,none⟩) ((lst (T.at_ 4)).length) ae)),(17,.v (.int .i32 (((lst (T.at_ 4)).length:Nat):Int))),(18,.v (.int .i32 ((ac:Nat):Int))),(20,.p 3 0),(23,.v (.slice none 0 0)),(24,.v (.int .i32 (((lst (aa.at_ 1)).length:Nat):Int))),(121,.v (.bool false))] b8 (pOk _) Tryz.call148 fun _ _ aX=>?_
    clear b8
    refine qab ?_
    refine qau aX.env_ (b:=false) kz (rfl) ?_
    refine wp_skip ?_
    refine qab ?_
    refine wp_seq ?_
    refine qiX (t:=102) (e:=181) (size:=4) (bytes:=24) (d:=124) (A0:=none) (m:=0) (cp:=0) [(2,.v (.bool false)),(7,.p 0 0),(9,.v (.bool (decide (v ≥ 0)))),(10,.p 1 0),(16,.v (.slice (some ⟨ab,0,none⟩) ((lst (T.at_ 4)).length) ae)),(17,.v (.int .i32 (((lst (T.at_ 4)).length:Nat):Int))),(18,.v (.int .i32 ((ac:Nat):Int))),(20,.p 3 0),(24,.v (.int .i32 (((lst (aa.at_ 1)).length:Nat):Int))),(123,.v (.slice none 0 0))] [(2,.v (.bool false)),(7,.p 0 0),(9,.v (.bool (decide (v ≥ 0)))),(10,.p 1 0),(16,.v (.slice (some ⟨ab,0,none⟩) ((lst (T.at_ 4)).length) ae)),(17,.v (.int .i32 (((lst (T.at_ 4)).length:Nat):Int))),(18,.v (.int .i32 ((ac:Nat):Int))),(20,.p 3 0),(23,.v (.slice none 0 0)),(24,.v (.int .i32 (((lst (aa.at_ 1)).length:Nat):Int)))] 1 aX fun _ cd=>?_
    clear aX
    refine qab ?_
    refine qhc (Mid:=fun a_ w_=>∃ (ak:DV) (P':qcp),(∀ w F,P' w F → eZ w F ∧ (Slots w F 4 ak.A ak.c ak.l (fun i=>[.int .i32 (((ak.f i).f 0).n),.int .i16 (((ak.f i).f 1).n),.pointer (((ak.f i).f 2).A),.map ((ak.f i).m)]) ∧ ak.l ≤ 1000000 ∧ ∀ i,i < ak.l → qay w F (ak.f i)) ∧ (ak.l = (lst (aa.at_ 1)).length ∧ ∀ i,i < ak.l → qa0 v (ak.f i) ((lst (aa.at_ 1)).getD i .zero))) ∧ RS w (fun b o=>b = bv ∧ o < 7) F 188 bj [⟨bv,0,[.int .i16 v,.int .i32 (IntKind.i32.wrap (T.at_ 0).N),.bool al.b,.int .i16 (IntKind.i16.wrap (T.at_ 2).N),.pointer am,.slice none 0 0,.map none],true⟩,qbs ab 3 (.agg #[.string ByteArray.empty,.slice none 0 0,.map none]) ((lst (T.at_ 4)).length) (ac + 1),⟨ab,ac * 3,[.string (bs (aa.at_ 0).S),.slice none 0 0,.map none],true⟩] [(2,.v (.bool false)),(7,.p 0 0),(9,.v (.bool (decide (v ≥ 0)))),(10,.p 1 0),(16,.v (.slice (some ⟨ab,0,none⟩) ((lst (T.at_ 4)).length) ae)),(17,.v (.int .i32 (((lst (T.at_ 4)).length:Nat):Int))),(18,.v (.int .i32 ((ac:Nat):Int))),(20,.p 3 0),(23,.v (.slice ak.A ak.l ak.c))] P' aw a_ w_) ?_ ?_
    ·
     refine wp_seq ?_
     refine qbH [(2,.v (.bool false)),(7,.p 0 0),(9,.v (.bool (decide (v ≥ 0)))),(10,.p 1 0),(16,.v (.slice (some ⟨ab,0,none⟩) ((lst (T.at_ 4)).length) ae)),(17,.v (.int .i32 (((lst (T.at_ 4)).length:Nat):Int))),(18,.v (.int .i32 ((ac:Nat):Int))),(20,.p 3 0),(23,.v (.slice none 0 0)),(24,.v (.int .i32 (((lst (aa.at_ 1)).length:Nat):Int))),(126,.v (.bool (decide ((((lst (aa.at_ 1)).length:Nat):Int) > 0))))] cd fun _ ax=>qab ?_
     clear cd
     refine qaE ax.env_ (b:=decide ((((lst (aa.at_ 1)).length:Nat):Int) > 0)) kz (fun aK=>?_) (fun aK=>?_)
     ·
      have hn_g165:0 < (lst (aa.at_ 1)).length:=by have h_:=of_decide_eq_true aK; omega
      refine qap [0,1,2,3] kz ?_
      refine qc4 [0,1] [2,3] [(2,.v (.bool false)),(7,.p 0 0),(9,.v (.bool (decide (v ≥ 0)))),(10,.p 1 0),(16,.v (.slice (some ⟨ab,0,none⟩) ((lst (T.at_ 4)).length) ae)),(17,.v (.int .i32 (((lst (T.at_ 4)).length:Nat):Int))),(18,.v (.int .i32 ((ac:Nat):Int))),(20,.p 3 0),(24,.v (.int .i32 (((lst (aa.at_ 1)).length:Nat):Int))),(127,.v (.slice none 0 0)),(128,.v (.int .i32 (((lst (aa.at_ 1)).length:Nat):Int)))] ax fun _ ce=>?_
      clear ax
      refine qai (qfp (A0:=none) (d:=129) (t:=102) (tn:=21) (e:=181) (size:=4) (bytes:=24) (k:=.i32) (kn:=.i32) (q:=(((lst (aa.at_ 1)).length:Nat):Int)) (j:=(lst (aa.at_ 1)).length) (.agg #[.int .i32 0,.int .i16 0,.pointer none,.map none]) ce (fun af ai _ _ hg_g165 hcap_g165 cg=>?_) rfl hn_g165 (by have:=e128_1; omega))
      clear ce
      refine qc4 [3] [] [(2,.v (.bool false)),(7,.p 0 0),(9,.v (.bool (decide (v ≥ 0)))),(10,.p 1 0),(16,.v (.slice (some ⟨ab,0,none⟩) ((lst (T.at_ 4)).length) ae)),(17,.v (.int .i32 (((lst (T.at_ 4)).length:Nat):Int))),(18,.v (.int .i32 ((ac:Nat):Int))),(20,.p 3 0),(23,.v (.slice (some ⟨af,0,none⟩) ((lst (aa.at_ 1)).length) ai)),(24,.v (.int .i32 (((lst (aa.at_ 1)).length:Nat):Int)))] cg fun _ cm=>qae ?_
      clear cg
      refine qab ?_
      refine wp_seq ?_
      refine qbH [(2,.v (.bool false)),(7,.p 0 0),(9,.v (.bool (decide (v ≥ 0)))),(10,.p 1 0),(16,.v (.slice (some ⟨ab,0,none⟩) ((lst (T.at_ 4)).length) ae)),(17,.v (.int .i32 (((lst (T.at_ 4)).length:Nat):Int))),(18,.v (.int .i32 ((ac:Nat):Int))),(20,.p 3 0),(23,.v (.slice (some ⟨af,0,none⟩) ((lst (aa.at_ 1)).length) ai)),(24,.v (.int .i32 (((lst (aa.at_ 1)).length:Nat):Int))),(25,.v (.int .i32 0))] cm fun _ aY=>?_
      clear cm
      refine qab ?_
      refine wp_block ?_
      have aZ:=aY.mv
      have fa:=(aY.cast (t:=(lst (aa.at_ 1)).flatMap (qar v) ++ aw) rfl).pk (env':=[(2,.v (.bool false)),(7,.p 0 0),(9,.v (.bool (decide (v ≥ 0)))),(10,.p 1 0),(16,.v (.slice (some ⟨ab,0,none⟩) ((lst (T.at_ 4)).length) ae)),(17,.v (.int .i32 (((lst (T.at_ 4)).length:Nat):Int))),(18,.v (.int .i32 ((ac:Nat):Int))),(20,.p 3 0),(23,.v (.slice (some ⟨af,0,none⟩) ((lst (aa.at_ 1)).length) ai)),(24,.v (.int .i32 (((lst (aa.at_ 1)).length:Nat):Int))),(25,.v (.int .i32 ((0:Nat):Int)))])
      clear aY
      refine qiS (tb:=[⟨bv,0,[.int .i16 v,.int .i32 (IntKind.i32.wrap (T.at_ 0).N),.bool al.b,.int .i16 (IntKind.i16.wrap (T.at_ 2).N),.pointer am,.slice none 0 0,.map none],true⟩,qbs ab 3 (.agg #[.string ByteArray.empty,.slice none 0 0,.map none]) ((lst (T.at_ 4)).length) (ac + 1),⟨ab,ac * 3,[.string (bs (aa.at_ 0).S),.slice none 0 0,.map none],true⟩]) (z:=.agg #[.int .i32 0,.int .i16 0,.pointer none,.map none]) (cl:=qbg) (ok:=qay) (rel:=(qa0 v)) (L:=lst (aa.at_ 1)) (size:=4) (qar v) aw (fun k=>[(2,.v (.bool false)),(7,.p 0 0),(9,.v (.bool (decide (v ≥ 0)))),(10,.p 1 0),(16,.v (.slice (some ⟨ab,0,none⟩) ((lst (T.at_ 4)).length) ae)),(17,.v (.int .i32 (((lst (T.at_ 4)).length:Nat):Int))),(18,.v (.int .i32 ((ac:Nat):Int))),(20,.p 3 0),(23,.v (.slice (some ⟨af,0,none⟩) ((lst (aa.at_ 1)).length) ai)),(24,.v (.int .i32 (((lst (aa.at_ 1)).length:Nat):Int))),(25,.v (.int .i32 ((k:Nat):Int)))]) fa qaB (fun ag ah _ _ ba fb cq=>?_) (fun _ _ cr=>?_)
      ·
       obtain ⟨fK,cu,cw⟩:∃ P',(∀ w F,P' w F → (eZ w F ∧ qe6 af 4 qbg qay (qa0 v) (lst (aa.at_ 1)) ag w F)) ∧ RS w (fun b o=>b = bv ∧ o < 7) F 188 bj [⟨bv,0,[.int .i16 v,.int .i32 (IntKind.i32.wrap (T.at_ 0).N),.bool al.b,.int .i16 (IntKind.i16.wrap (T.at_ 2).N),.pointer am,.slice none 0 0,.map none],true⟩,qbs ab 3 (.agg #[.string ByteArray.empty,.slice none 0 0,.map none]) ((lst (T.at_ 4)).length) (ac + 1),⟨ab,ac * 3,[.string (bs (aa.at_ 0).S),.slice none 0 0,.map none],true⟩,qbs af 4 (.agg #[.int .i32 0,.int .i16 0,.pointer none,.map none]) ((lst (aa.at_ 1)).length) ag] [(2,.v (.bool false)),(7,.p 0 0),(9,.v (.bool (decide (v ≥ 0)))),(10,.p 1 0),(16,.v (.slice (some ⟨ab,0,none⟩) ((lst (T.at_ 4)).length) ae)),(17,.v (.int .i32 (((lst (T.at_ 4)).length:Nat):Int))),(18,.v (.int .i32 ((ac:Nat):Int))),(20,.p 3 0),(23,.v (.slice (some ⟨af,0,none⟩) ((lst (aa.at_ 1)).length) ai)),(24,.v (.int .i32 (((lst (aa.at_ 1)).length:Nat):Int))),(25,.v (.int .i32 ((ag:Nat):Int)))] P' ((qar v) ah ++ (((lst (aa.at_ 1)).drop (ag + 1)).flatMap (qar v) ++ aw)) _ _:=⟨_,fun _ _ h=>h,cq⟩
       clear cq
       obtain ⟨bd,cz⟩:∃ R,R = ((lst (aa.at_ 1)).drop (ag + 1)).flatMap (qar v) ++ aw:=⟨_,rfl⟩
       have fe:=(e128_1e ah (List.mem_of_getElem? ba))
       have e184r:=(qfn (qe0 e128r 1) ah (List.mem_of_getElem? ba))
       unfold qaZ at fe
       obtain ⟨e184_0,e184_1,e184_2,e184_U,_⟩:=fe
       obtain ⟨bn,cA⟩:∃ R,R = (if (decide (v ≥ 0)) = true then (uv ah.U.length) ++ (qcy ah.U) else []) ++ bd:=⟨_,rfl⟩
       obtain ⟨fL,cB⟩:∃ R,R = (if (decide (v ≥ 0)) = true then (if (ah.at_ 2).null = true then uv 0 else uv ((qbp (ah.at_ 2)).length + 1) ++ (qbp (ah.at_ 2))) else (if (ah.at_ 2).null = true then be 2 (-1) else be 2 (qbp (ah.at_ 2)).length ++ (qbp (ah.at_ 2)))) ++ bn:=⟨_,rfl⟩
       obtain ⟨fM,cC⟩:∃ R,R = (be 2 ((IntKind.i16.wrap (ah.at_ 1).N))) ++ fL:=⟨_,rfl⟩
       obtain ⟨fN,cD⟩:∃ R,R = (be 4 ((IntKind.i32.wrap (ah.at_ 0).N))) ++ fM:=⟨_,rfl⟩
       have cE:=cw.cast (t:=fN) (by rw [cD,cC,cB,cA,← cz]; unfold qar; simp only [List.append_assoc])
       clear cw
       refine wp_seq ?_
       refine wp_seq ?_
       refine qbH [(2,.v (.bool false)),(7,.p 0 0),(9,.v (.bool (decide (v ≥ 0)))),(10,.p 1 0),(16,.v (.slice (some ⟨ab,0,none⟩) ((lst (T.at_ 4)).length) ae)),(17,.v (.int .i32 (((lst (T.at_ 4)).length:Nat):Int))),(18,.v (.int .i32 ((ac:Nat):Int))),(20,.p 3 0),(23,.v (.slice (some ⟨af,0,none⟩) ((lst (aa.at_ 1)).length) ai)),(24,.v (.int .i32 (((lst (aa.at_ 1)).length:Nat):Int))),(25,.v (.int .i32 ((ag:Nat):Int))),(132,.v (.bool (decide (((ag:Nat):Int) < (((lst (aa.at_ 1)).length:Nat):Int)))))] cE fun _ bf=>qab ?_
       clear cE
       refine qbl bf.env_ (b:=decide (((ag:Nat):Int) < (((lst (aa.at_ 1)).length:Nat):Int))) kz (decide_eq_true (by omega)) ?_
       refine wp_skip ?_
       refine qab ?_
       refine wp_seq ?_
       refine wp_block ?_
       refine wp_seq ?_
       refine qiY (t:=102) (e:=181) (size:=4) (bytes:=24) (d:=137) (tb:=[⟨bv,0,[.int .i16 v,.int .i32 (IntKind.i32.wrap (T.at_ 0).N),.bool al.b,.int .i16 (IntKind.i16.wrap (T.at_ 2).N),.pointer am,.slice none 0 0,.map none],true⟩,qbs ab 3 (.agg #[.string ByteArray.empty,.slice none 0 0,.map none]) ((lst (T.at_ 4)).length) (ac + 1),⟨ab,ac * 3,[.string (bs (aa.at_ 0).S),.slice none 0 0,.map none],true⟩]) (z:=.agg #[.int .i32 0,.int .i16 0,.pointer none,.map none]) [(2,.v (.bool false)),(7,.p 0 0),(9,.v (.bool (decide (v ≥ 0)))),(10,.p 1 0),(16,.v (.slice (some ⟨ab,0,none⟩) ((lst (T.at_ 4)).length) ae)),(17,.v (.int .i32 (((lst (T.at_ 4)).length:Nat):Int))),(18,.v (.int .i32 ((ac:Nat):Int))),(20,.p 3 0),(23,.v (.slice (some ⟨af,0,none⟩) ((lst (aa.at_ 1)).length) ai)),(24,.v (.int .i32 (((lst (aa.at_ 1)).length:Nat):Int))),(25,.v (.int .i32 ((ag:Nat):Int))),(135,.v (.slice (some ⟨af,0,none⟩) ((lst (aa.at_ 1)).length) ai)),(136,.v (.int .i32 ((ag:Nat):Int)))] [(2,.v (.bool false)),(7,.p 0 0),(9,.v (.bool (decide (v ≥ 0)))),(10,.p 1 0),(16,.v (.slice (some ⟨ab,0,none⟩) ((lst (T.at_ 4)).length) ae)),(17,.v (.int .i32 (((lst (T.at_ 4)).length:Nat):Int))),(18,.v (.int .i32 ((ac:Nat):Int))),(20,.p 3 0),(23,.v (.slice (some ⟨af,0,none⟩) ((lst (aa.at_ 1)).length) ai)),(24,.v (.int .i32 (((lst (aa.at_ 1)).length:Nat):Int))),(25,.v (.int .i32 ((ag:Nat):Int))),(26,.p 5 0)] 2 bf fb rfl kz fun _ cG=>?_
       clear bf
       have cH:=cG.tbEq (tb':=[⟨bv,0,[.int .i16 v,.int .i32 (IntKind.i32.wrap (T.at_ 0).N),.bool al.b,.int .i16 (IntKind.i16.wrap (T.at_ 2).N),.pointer am,.slice none 0 0,.map none],true⟩,qbs ab 3 (.agg #[.string ByteArray.empty,.slice none 0 0,.map none]) ((lst (T.at_ 4)).length) (ac + 1),⟨ab,ac * 3,[.string (bs (aa.at_ 0).S),.slice none 0 0,.map none],true⟩,qbs af 4 (.agg #[.int .i32 0,.int .i16 0,.pointer none,.map none]) ((lst (aa.at_ 1)).length) (ag + 1),⟨af,ag * 4,[.int .i32 0,.int .i16 0,.pointer none,.map none],true⟩]) rfl
       clear cG
       refine qab ?_
       refine wp_seq ?_
       refine qap [0,1] kz ?_
       refine qc4 [0] [1] [(2,.v (.bool false)),(7,.p 0 0),(9,.v (.bool (decide (v ≥ 0)))),(10,.p 1 0),(16,.v (.slice (some ⟨ab,0,none⟩) ((lst (T.at_ 4)).length) ae)),(17,.v (.int .i32 (((lst (T.at_ 4)).length:Nat):Int))),(18,.v (.int .i32 ((ac:Nat):Int))),(20,.p 3 0),(23,.v (.slice (some ⟨af,0,none⟩) ((lst (aa.at_ 1)).length) ai)),(24,.v (.int .i32 (((lst (aa.at_ 1)).length:Nat):Int))),(25,.v (.int .i32 ((ag:Nat):Int))),(26,.p 5 0),(138,.p 5 0)] cH fun _ cI=>?_
       clear cH
       refine qai (qjV (d:=139) (vs:=[.pointer (some ⟨af,ag * 4,none⟩)]) cI (fun _=>qkT _ _ _) Tryz.call155 fun _ cJ=>?_)
       clear cI
       refine qae ?_
       have cK:=cJ.pk (env':=[(2,.v (.bool false)),(7,.p 0 0),(9,.v (.bool (decide (v ≥ 0)))),(10,.p 1 0),(16,.v (.slice (some ⟨ab,0,none⟩) ((lst (T.at_ 4)).length) ae)),(17,.v (.int .i32 (((lst (T.at_ 4)).length:Nat):Int))),(18,.v (.int .i32 ((ac:Nat):Int))),(20,.p 3 0),(23,.v (.slice (some ⟨af,0,none⟩) ((lst (aa.at_ 1)).length) ai)),(24,.v (.int .i32 (((lst (aa.at_ 1)).length:Nat):Int))),(25,.v (.int .i32 ((ag:Nat):Int))),(26,.p 5 0)])
       clear cJ
       refine qab ?_
       refine wp_seq ?_
       refine qbH [(2,.v (.bool false)),(7,.p 0 0),(9,.v (.bool (decide (v ≥ 0)))),(10,.p 1 0),(16,.v (.slice (some ⟨ab,0,none⟩) ((lst (T.at_ 4)).length) ae)),(17,.v (.int .i32 (((lst (T.at_ 4)).length:Nat):Int))),(18,.v (.int .i32 ((ac:Nat):Int))),(20,.p 3 0),(23,.v (.slice (some ⟨af,0,none⟩) ((lst (aa.at_ 1)).length) ai)),(24,.v (.int .i32 (((lst (aa.at_ 1)).length:Nat):Int))),(25,.v (.int .i32 ((ag:Nat):Int))),(27,.p 5 0)] cK fun _ cL=>?_
       clear cK
       refine qab ?_
       refine wp_seq ?_
       refine wp_seq ?_
       have cM:=cL.cast cD
       clear cL
       refine qet (d:=141) [(2,.v (.bool false)),(7,.p 0 0),(9,.v (.bool (decide (v ≥ 0)))),(10,.p 1 0),(16,.v (.slice (some ⟨ab,0,none⟩) ((lst (T.at_ 4)).length) ae)),(17,.v (.int .i32 (((lst (T.at_ 4)).length:Nat):Int))),(18,.v (.int .i32 ((ac:Nat):Int))),(20,.p 3 0),(23,.v (.slice (some ⟨af,0,none⟩) ((lst (aa.at_ 1)).length) ai)),(24,.v (.int .i32 (((lst (aa.at_ 1)).length:Nat):Int))),(25,.v (.int .i32 ((ag:Nat):Int))),(27,.p 5 0),(28,.v (.int .i32 (IntKind.i32.wrap (ah.at_ 0).N)))] cM (qjX _ _) Tryz.call139 fun _ _ cN=>?_
       clear cM
       refine qab ?_
       refine qdP [⟨bv,0,[.int .i16 v,.int .i32 (IntKind.i32.wrap (T.at_ 0).N),.bool al.b,.int .i16 (IntKind.i16.wrap (T.at_ 2).N),.pointer am,.slice none 0 0,.map none],true⟩,qbs ab 3 (.agg #[.string ByteArray.empty,.slice none 0 0,.map none]) ((lst (T.at_ 4)).length) (ac + 1),⟨ab,ac * 3,[.string (bs (aa.at_ 0).S),.slice none 0 0,.map none],true⟩,qbs af 4 (.agg #[.int .i32 0,.int .i16 0,.pointer none,.map none]) ((lst (aa.at_ 1)).length) (ag + 1),⟨af,ag * 4,[.int .i32 (IntKind.i32.wrap (ah.at_ 0).N),.int .i16 0,.pointer none,.map none],true⟩] 4 [(2,.v (.bool false)),(7,.p 0 0),(9,.v (.bool (decide (v ≥ 0)))),(10,.p 1 0),(16,.v (.slice (some ⟨ab,0,none⟩) ((lst (T.at_ 4)).length) ae)),(17,.v (.int .i32 (((lst (T.at_ 4)).length:Nat):Int))),(18,.v (.int .i32 ((ac:Nat):Int))),(20,.p 3 0),(23,.v (.slice (some ⟨af,0,none⟩) ((lst (aa.at_ 1)).length) ai)),(24,.v (.int .i32 (((lst (aa.at_ 1)).length:Nat):Int))),(25,.v (.int .i32 ((ag:Nat):Int))),(27,.p 5 0)] cN fun _ _ cO=>?_
       clear cN
       refine qab ?_
       refine wp_seq ?_
       refine wp_seq ?_
       have cP:=cO.cast cC
       clear cO
       refine qet (d:=146) [(2,.v (.bool false)),(7,.p 0 0),(9,.v (.bool (decide (v ≥ 0)))),(10,.p 1 0),(16,.v (.slice (some ⟨ab,0,none⟩) ((lst (T.at_ 4)).length) ae)),(17,.v (.int .i32 (((lst (T.at_ 4)).length:Nat):Int))),(18,.v (.int .i32 ((ac:Nat):Int))),(20,.p 3 0),(23,.v (.slice (some ⟨af,0,none⟩) ((lst (aa.at_ 1)).length) ai)),(24,.v (.int .i32 (((lst (aa.at_ 1)).length:Nat):Int))),(25,.v (.int .i32 ((ag:Nat):Int))),(27,.p 5 0),(29,.v (.int .i16 (IntKind.i16.wrap (ah.at_ 1).N)))] cP (qjW _ _) Tryz.call141 fun _ _ cQ=>?_
       clear cP
       refine qab ?_
       refine qdP [⟨bv,0,[.int .i16 v,.int .i32 (IntKind.i32.wrap (T.at_ 0).N),.bool al.b,.int .i16 (IntKind.i16.wrap (T.at_ 2).N),.pointer am,.slice none 0 0,.map none],true⟩,qbs ab 3 (.agg #[.string ByteArray.empty,.slice none 0 0,.map none]) ((lst (T.at_ 4)).length) (ac + 1),⟨ab,ac * 3,[.string (bs (aa.at_ 0).S),.slice none 0 0,.map none],true⟩,qbs af 4 (.agg #[.int .i32 0,.int .i16 0,.pointer none,.map none]) ((lst (aa.at_ 1)).length) (ag + 1),⟨af,ag * 4,[.int .i32 (IntKind.i32.wrap (ah.at_ 0).N),.int .i16 (IntKind.i16.wrap (ah.at_ 1).N),.pointer none,.map none],true⟩] 4 [(2,.v (.bool false)),(7,.p 0 0),(9,.v (.bool (decide (v ≥ 0)))),(10,.p 1 0),(16,.v (.slice (some ⟨ab,0,none⟩) ((lst (T.at_ 4)).length) ae)),(17,.v (.int .i32 (((lst (T.at_ 4)).length:Nat):Int))),(18,.v (.int .i32 ((ac:Nat):Int))),(20,.p 3 0),(23,.v (.slice (some ⟨af,0,none⟩) ((lst (aa.at_ 1)).length) ai)),(24,.v (.int .i32 (((lst (aa.at_ 1)).length:Nat):Int))),(25,.v (.int .i32 ((ag:Nat):Int))),(27,.p 5 0)] cQ fun _ _ cR=>?_
       clear cQ
       refine qab ?_
       refine wp_seq ?_
       refine wp_seq ?_
       refine qbH [(2,.v (.bool false)),(7,.p 0 0),(9,.v (.bool (decide (v ≥ 0)))),(10,.p 1 0),(16,.v (.slice (some ⟨ab,0,none⟩) ((lst (T.at_ 4)).length) ae)),(17,.v (.int .i32 (((lst (T.at_ 4)).length:Nat):Int))),(18,.v (.int .i32 ((ac:Nat):Int))),(20,.p 3 0),(23,.v (.slice (some ⟨af,0,none⟩) ((lst (aa.at_ 1)).length) ai)),(24,.v (.int .i32 (((lst (aa.at_ 1)).length:Nat):Int))),(25,.v (.int .i32 ((ag:Nat):Int))),(27,.p 5 0)] cR fun _ cS=>?_
       clear cR
       refine qab ?_
       refine wp_seq ?_
       have cT:=cS.cast cB
       clear cS
       refine qdI (Mid:=fun a_ w_=>∃ (ay:Option Addr) (P':qcp),(∀ w F,P' w F → fK w F ∧ qiQ ay (qbp (ah.at_ 2)) w F ∧ ay.isNone = (ah.at_ 2).null) ∧ RS w (fun b o=>b = bv ∧ o < 7) F 188 bj [⟨bv,0,[.int .i16 v,.int .i32 (IntKind.i32.wrap (T.at_ 0).N),.bool al.b,.int .i16 (IntKind.i16.wrap (T.at_ 2).N),.pointer am,.slice none 0 0,.map none],true⟩,qbs ab 3 (.agg #[.string ByteArray.empty,.slice none 0 0,.map none]) ((lst (T.at_ 4)).length) (ac + 1),⟨ab,ac * 3,[.string (bs (aa.at_ 0).S),.slice none 0 0,.map none],true⟩,qbs af 4 (.agg #[.int .i32 0,.int .i16 0,.pointer none,.map none]) ((lst (aa.at_ 1)).length) (ag + 1),⟨af,ag * 4,[.int .i32 (IntKind.i32.wrap (ah.at_ 0).N),.int .i16 (IntKind.i16.wrap (ah.at_ 1).N),.pointer none,.map none],true⟩] [(2,.v (.bool false)),(7,.p 0 0),(9,.v (.bool (decide (v ≥ 0)))),(10,.p 1 0),(16,.v (.slice (some ⟨ab,0,none⟩) ((lst (T.at_ 4)).length) ae)),(17,.v (.int .i32 (((lst (T.at_ 4)).length:Nat):Int))),(18,.v (.int .i32 ((ac:Nat):Int))),(20,.p 3 0),(23,.v (.slice (some ⟨af,0,none⟩) ((lst (aa.at_ 1)).length) ai)),(24,.v (.int .i32 (((lst (aa.at_ 1)).length:Nat):Int))),(25,.v (.int .i32 ((ag:Nat):Int))),(27,.p 5 0),(30,.v (.pointer ay))] P' bn a_ w_) ?_ ?_
       ·
        refine wp_seq ?_
        refine qbH [(2,.v (.bool false)),(7,.p 0 0),(9,.v (.bool (decide (v ≥ 0)))),(10,.p 1 0),(16,.v (.slice (some ⟨ab,0,none⟩) ((lst (T.at_ 4)).length) ae)),(17,.v (.int .i32 (((lst (T.at_ 4)).length:Nat):Int))),(18,.v (.int .i32 ((ac:Nat):Int))),(20,.p 3 0),(23,.v (.slice (some ⟨af,0,none⟩) ((lst (aa.at_ 1)).length) ai)),(24,.v (.int .i32 (((lst (aa.at_ 1)).length:Nat):Int))),(25,.v (.int .i32 ((ag:Nat):Int))),(27,.p 5 0),(151,.v (.bool (decide (v ≥ 0))))] cT fun _ az=>qab ?_
        clear cT
        refine qaE az.env_ (b:=decide (v ≥ 0)) kz (fun bg=>?_) (fun bg=>?_)
        ·
         have cU:=az.cast (t:=(if (ah.at_ 2).null = true then uv 0 else uv ((qbp (ah.at_ 2)).length + 1) ++ (qbp (ah.at_ 2))) ++ bn) (by rw [if_pos bg])
         clear az
         refine wp_seq ?_
         refine qbH [(2,.v (.bool false)),(7,.p 0 0),(9,.v (.bool (decide (v ≥ 0)))),(10,.p 1 0),(16,.v (.slice (some ⟨ab,0,none⟩) ((lst (T.at_ 4)).length) ae)),(17,.v (.int .i32 (((lst (T.at_ 4)).length:Nat):Int))),(18,.v (.int .i32 ((ac:Nat):Int))),(20,.p 3 0),(23,.v (.slice (some ⟨af,0,none⟩) ((lst (aa.at_ 1)).length) ai)),(24,.v (.int .i32 (((lst (aa.at_ 1)).length:Nat):Int))),(25,.v (.int .i32 ((ag:Nat):Int))),(27,.p 5 0),(152,.v (.bool false))] cU fun _ bh=>qab ?_
         clear cU
         refine qau bh.env_ (b:=false) kz (rfl) ?_
         refine qjt (d:=154) (fun bo=>[(2,.v (.bool false)),(7,.p 0 0),(9,.v (.bool (decide (v ≥ 0)))),(10,.p 1 0),(16,.v (.slice (some ⟨ab,0,none⟩) ((lst (T.at_ 4)).length) ae)),(17,.v (.int .i32 (((lst (T.at_ 4)).length:Nat):Int))),(18,.v (.int .i32 ((ac:Nat):Int))),(20,.p 3 0),(23,.v (.slice (some ⟨af,0,none⟩) ((lst (aa.at_ 1)).length) ai)),(24,.v (.int .i32 (((lst (aa.at_ 1)).length:Nat):Int))),(25,.v (.int .i32 ((ag:Nat):Int))),(27,.p 5 0),(30,.v (.pointer bo))]) bh (qcw (ah.at_ 2).null (qbp (ah.at_ 2)) e184_2 _) (fun _=>(MvF.text _ _).and (MvF.is _)) Tryz.call143 fun bo ga _ _ cV ff=>?_
         clear bh
         refine qab ?_
         exact ⟨bo,_,fun w F h_=>⟨(cV _ _ h_).1,(cV _ _ h_).2⟩,ff.pk (env':=[(2,.v (.bool false)),(7,.p 0 0),(9,.v (.bool (decide (v ≥ 0)))),(10,.p 1 0),(16,.v (.slice (some ⟨ab,0,none⟩) ((lst (T.at_ 4)).length) ae)),(17,.v (.int .i32 (((lst (T.at_ 4)).length:Nat):Int))),(18,.v (.int .i32 ((ac:Nat):Int))),(20,.p 3 0),(23,.v (.slice (some ⟨af,0,none⟩) ((lst (aa.at_ 1)).length) ai)),(24,.v (.int .i32 (((lst (aa.at_ 1)).length:Nat):Int))),(25,.v (.int .i32 ((ag:Nat):Int))),(27,.p 5 0),(30,.v (.pointer bo))])⟩
        have cW:=az.cast (t:=(if (ah.at_ 2).null = true then be 2 (-1) else be 2 (qbp (ah.at_ 2)).length ++ (qbp (ah.at_ 2))) ++ bn) (by rw [if_neg (by rw [bg]; decide)])
        clear az
        refine wp_seq ?_
        refine qbH [(2,.v (.bool false)),(7,.p 0 0),(9,.v (.bool (decide (v ≥ 0)))),(10,.p 1 0),(16,.v (.slice (some ⟨ab,0,none⟩) ((lst (T.at_ 4)).length) ae)),(17,.v (.int .i32 (((lst (T.at_ 4)).length:Nat):Int))),(18,.v (.int .i32 ((ac:Nat):Int))),(20,.p 3 0),(23,.v (.slice (some ⟨af,0,none⟩) ((lst (aa.at_ 1)).length) ai)),(24,.v (.int .i32 (((lst (aa.at_ 1)).length:Nat):Int))),(25,.v (.int .i32 ((ag:Nat):Int))),(27,.p 5 0),(155,.v (.bool false))] cW fun _ bi=>qab ?_
        clear cW
        refine qau bi.env_ (b:=false) kz (rfl) ?_
        refine qjt (d:=157) (fun bp=>[(2,.v (.bool false)),(7,.p 0 0),(9,.v (.bool (decide (v ≥ 0)))),(10,.p 1 0),(16,.v (.slice (some ⟨ab,0,none⟩) ((lst (T.at_ 4)).length) ae)),(17,.v (.int .i32 (((lst (T.at_ 4)).length:Nat):Int))),(18,.v (.int .i32 ((ac:Nat):Int))),(20,.p 3 0),(23,.v (.slice (some ⟨af,0,none⟩) ((lst (aa.at_ 1)).length) ai)),(24,.v (.int .i32 (((lst (aa.at_ 1)).length:Nat):Int))),(25,.v (.int .i32 ((ag:Nat):Int))),(27,.p 5 0),(30,.v (.pointer bp))]) bi (qdq (ah.at_ 2).null (qbp (ah.at_ 2)) e184_2 _) (fun _=>(MvF.text _ _).and (MvF.is _)) Tryz.call145 fun bp gb _ _ cX fg=>?_
        clear bi
        refine qab ?_
        exact ⟨bp,_,fun w F h_=>⟨(cX _ _ h_).1,(cX _ _ h_).2⟩,fg.pk (env':=[(2,.v (.bool false)),(7,.p 0 0),(9,.v (.bool (decide (v ≥ 0)))),(10,.p 1 0),(16,.v (.slice (some ⟨ab,0,none⟩) ((lst (T.at_ 4)).length) ae)),(17,.v (.int .i32 (((lst (T.at_ 4)).length:Nat):Int))),(18,.v (.int .i32 ((ac:Nat):Int))),(20,.p 3 0),(23,.v (.slice (some ⟨af,0,none⟩) ((lst (aa.at_ 1)).length) ai)),(24,.v (.int .i32 (((lst (aa.at_ 1)).length:Nat):Int))),(25,.v (.int .i32 ((ag:Nat):Int))),(27,.p 5 0),(30,.v (.pointer bp))])⟩
       rintro _ _ ⟨ay,fO,aL,cY⟩
       refine qab ?_
       refine qdP [⟨bv,0,[.int .i16 v,.int .i32 (IntKind.i32.wrap (T.at_ 0).N),.bool al.b,.int .i16 (IntKind.i16.wrap (T.at_ 2).N),.pointer am,.slice none 0 0,.map none],true⟩,qbs ab 3 (.agg #[.string ByteArray.empty,.slice none 0 0,.map none]) ((lst (T.at_ 4)).length) (ac + 1),⟨ab,ac * 3,[.string (bs (aa.at_ 0).S),.slice none 0 0,.map none],true⟩,qbs af 4 (.agg #[.int .i32 0,.int .i16 0,.pointer none,.map none]) ((lst (aa.at_ 1)).length) (ag + 1),⟨af,ag * 4,[.int .i32 (IntKind.i32.wrap (ah.at_ 0).N),.int .i16 (IntKind.i16.wrap (ah.at_ 1).N),.pointer ay,.map none],true⟩] 4 [(2,.v (.bool false)),(7,.p 0 0),(9,.v (.bool (decide (v ≥ 0)))),(10,.p 1 0),(16,.v (.slice (some ⟨ab,0,none⟩) ((lst (T.at_ 4)).length) ae)),(17,.v (.int .i32 (((lst (T.at_ 4)).length:Nat):Int))),(18,.v (.int .i32 ((ac:Nat):Int))),(20,.p 3 0),(23,.v (.slice (some ⟨af,0,none⟩) ((lst (aa.at_ 1)).length) ai)),(24,.v (.int .i32 (((lst (aa.at_ 1)).length:Nat):Int))),(25,.v (.int .i32 ((ag:Nat):Int))),(27,.p 5 0)] cY fun _ _ cZ=>?_
       clear cY
       refine qab ?_
       have c5:=cZ.cast cA
       clear cZ
       refine qdI (Mid:=fun a_ w_=>∃ (bq:Option Nat) (aG:List (Int × Bs)) (P':qcp),(∀ w F,P' w F → fO w F ∧ (MapR w F bq aG ∧ aG.length ≤ 1000000 ∧ ∀ x ∈ aG,x.2.length < 4294967296) ∧ ((decide (v ≥ 0)) = true → aG = ah.U) ∧ ((decide (v ≥ 0)) = false → aG = [])) ∧ RS w (fun b o=>b = bv ∧ o < 7) F 188 bj [⟨bv,0,[.int .i16 v,.int .i32 (IntKind.i32.wrap (T.at_ 0).N),.bool al.b,.int .i16 (IntKind.i16.wrap (T.at_ 2).N),.pointer am,.slice none 0 0,.map none],true⟩,qbs ab 3 (.agg #[.string ByteArray.empty,.slice none 0 0,.map none]) ((lst (T.at_ 4)).length) (ac + 1),⟨ab,ac * 3,[.string (bs (aa.at_ 0).S),.slice none 0 0,.map none],true⟩,qbs af 4 (.agg #[.int .i32 0,.int .i16 0,.pointer none,.map none]) ((lst (aa.at_ 1)).length) (ag + 1),⟨af,ag * 4,[.int .i32 (IntKind.i32.wrap (ah.at_ 0).N),.int .i16 (IntKind.i16.wrap (ah.at_ 1).N),.pointer ay,.map bq],true⟩] [(2,.v (.bool false)),(7,.p 0 0),(9,.v (.bool (decide (v ≥ 0)))),(10,.p 1 0),(16,.v (.slice (some ⟨ab,0,none⟩) ((lst (T.at_ 4)).length) ae)),(17,.v (.int .i32 (((lst (T.at_ 4)).length:Nat):Int))),(18,.v (.int .i32 ((ac:Nat):Int))),(20,.p 3 0),(23,.v (.slice (some ⟨af,0,none⟩) ((lst (aa.at_ 1)).length) ai)),(24,.v (.int .i32 (((lst (aa.at_ 1)).length:Nat):Int))),(25,.v (.int .i32 ((ag:Nat):Int)))] P' bd a_ w_) ?_ ?_
       ·
        refine wp_seq ?_
        refine qbH [(2,.v (.bool false)),(7,.p 0 0),(9,.v (.bool (decide (v ≥ 0)))),(10,.p 1 0),(16,.v (.slice (some ⟨ab,0,none⟩) ((lst (T.at_ 4)).length) ae)),(17,.v (.int .i32 (((lst (T.at_ 4)).length:Nat):Int))),(18,.v (.int .i32 ((ac:Nat):Int))),(20,.p 3 0),(23,.v (.slice (some ⟨af,0,none⟩) ((lst (aa.at_ 1)).length) ai)),(24,.v (.int .i32 (((lst (aa.at_ 1)).length:Nat):Int))),(25,.v (.int .i32 ((ag:Nat):Int))),(27,.p 5 0),(162,.v (.bool (decide (v ≥ 0))))] c5 fun _ aA=>qab ?_
        clear c5
        refine qaE aA.env_ (b:=decide (v ≥ 0)) kz (fun aB=>?_) (fun aB=>?_)
        ·
         have c6:=aA.cast (t:=((uv ah.U.length) ++ (qcy ah.U)) ++ bd) (by rw [if_pos aB])
         clear aA
         refine qap [0,1,2,3,4] kz ?_
         refine qc4 [0] [1,2,3,4] [(2,.v (.bool false)),(7,.p 0 0),(9,.v (.bool (decide (v ≥ 0)))),(10,.p 1 0),(16,.v (.slice (some ⟨ab,0,none⟩) ((lst (T.at_ 4)).length) ae)),(17,.v (.int .i32 (((lst (T.at_ 4)).length:Nat):Int))),(18,.v (.int .i32 ((ac:Nat):Int))),(20,.p 3 0),(23,.v (.slice (some ⟨af,0,none⟩) ((lst (aa.at_ 1)).length) ai)),(24,.v (.int .i32 (((lst (aa.at_ 1)).length:Nat):Int))),(25,.v (.int .i32 ((ag:Nat):Int))),(163,.p 5 0)] c6 fun _ da=>?_
         clear c6
         refine qai (qfL (d:=164) da (qkp ah.U e184_U (qeF e184r) _) (fun _=>MvF.tags _ _) Tryz.call156 fun d6 gc _ _ db dc=>?_)
         clear da
         refine qc4 [2,3] [4] [(2,.v (.bool false)),(7,.p 0 0),(9,.v (.bool (decide (v ≥ 0)))),(10,.p 1 0),(16,.v (.slice (some ⟨ab,0,none⟩) ((lst (T.at_ 4)).length) ae)),(17,.v (.int .i32 (((lst (T.at_ 4)).length:Nat):Int))),(18,.v (.int .i32 ((ac:Nat):Int))),(20,.p 3 0),(23,.v (.slice (some ⟨af,0,none⟩) ((lst (aa.at_ 1)).length) ai)),(24,.v (.int .i32 (((lst (aa.at_ 1)).length:Nat):Int))),(25,.v (.int .i32 ((ag:Nat):Int))),(164,.v (.agg #[.map d6])),(166,.p 5 3)] dc fun _ de=>?_
         clear dc
         refine qai (qfM [⟨bv,0,[.int .i16 v,.int .i32 (IntKind.i32.wrap (T.at_ 0).N),.bool al.b,.int .i16 (IntKind.i16.wrap (T.at_ 2).N),.pointer am,.slice none 0 0,.map none],true⟩,qbs ab 3 (.agg #[.string ByteArray.empty,.slice none 0 0,.map none]) ((lst (T.at_ 4)).length) (ac + 1),⟨ab,ac * 3,[.string (bs (aa.at_ 0).S),.slice none 0 0,.map none],true⟩,qbs af 4 (.agg #[.int .i32 0,.int .i16 0,.pointer none,.map none]) ((lst (aa.at_ 1)).length) (ag + 1),⟨af,ag * 4,[.int .i32 (IntKind.i32.wrap (ah.at_ 0).N),.int .i16 (IntKind.i16.wrap (ah.at_ 1).N),.pointer ay,.map d6],true⟩] 4 de fun _ dg=>?_)
         clear de
         refine qae ?_
         have fh:=dg.pk (env':=[(2,.v (.bool false)),(7,.p 0 0),(9,.v (.bool (decide (v ≥ 0)))),(10,.p 1 0),(16,.v (.slice (some ⟨ab,0,none⟩) ((lst (T.at_ 4)).length) ae)),(17,.v (.int .i32 (((lst (T.at_ 4)).length:Nat):Int))),(18,.v (.int .i32 ((ac:Nat):Int))),(20,.p 3 0),(23,.v (.slice (some ⟨af,0,none⟩) ((lst (aa.at_ 1)).length) ai)),(24,.v (.int .i32 (((lst (aa.at_ 1)).length:Nat):Int))),(25,.v (.int .i32 ((ag:Nat):Int)))])
         clear dg
         refine qab ?_
         exact ⟨d6,ah.U,_,fun w F h_=>⟨(db _ _ h_).1,⟨(db _ _ h_).2,e184_U.2.1,e184_U.2.2⟩,⟨fun _=>rfl,(fun e_=>by rw [aB] at e_; cases e_)⟩⟩,fh.pk (env':=[(2,.v (.bool false)),(7,.p 0 0),(9,.v (.bool (decide (v ≥ 0)))),(10,.p 1 0),(16,.v (.slice (some ⟨ab,0,none⟩) ((lst (T.at_ 4)).length) ae)),(17,.v (.int .i32 (((lst (T.at_ 4)).length:Nat):Int))),(18,.v (.int .i32 ((ac:Nat):Int))),(20,.p 3 0),(23,.v (.slice (some ⟨af,0,none⟩) ((lst (aa.at_ 1)).length) ai)),(24,.v (.int .i32 (((lst (aa.at_ 1)).length:Nat):Int))),(25,.v (.int .i32 ((ag:Nat):Int)))])⟩
        have dh:=aA.cast (t:=[] ++ bd) (by rw [if_neg (by rw [aB]; decide)])
        clear aA
        have fi:=dh.cast (t:=bd) rfl
        clear dh
        refine wp_skip (qab ?_)
        exact ⟨none,[],_,fun w F h_=>⟨h_,⟨MapR.nil _ _,Nat.zero_le _,fun _ h=>by cases h⟩,⟨(fun e_=>by rw [aB] at e_; cases e_),fun _=>rfl⟩⟩,fi.pk (env':=[(2,.v (.bool false)),(7,.p 0 0),(9,.v (.bool (decide (v ≥ 0)))),(10,.p 1 0),(16,.v (.slice (some ⟨ab,0,none⟩) ((lst (T.at_ 4)).length) ae)),(17,.v (.int .i32 (((lst (T.at_ 4)).length:Nat):Int))),(18,.v (.int .i32 ((ac:Nat):Int))),(20,.p 3 0),(23,.v (.slice (some ⟨af,0,none⟩) ((lst (aa.at_ 1)).length) ai)),(24,.v (.int .i32 (((lst (aa.at_ 1)).length:Nat):Int))),(25,.v (.int .i32 ((ag:Nat):Int)))])⟩
       rintro _ _ ⟨bq,aG,gd,ap,di⟩
       refine qax ?_
       refine qab ?_
       refine qbH [(2,.v (.bool false)),(7,.p 0 0),(9,.v (.bool (decide (v ≥ 0)))),(10,.p 1 0),(16,.v (.slice (some ⟨ab,0,none⟩) ((lst (T.at_ 4)).length) ae)),(17,.v (.int .i32 (((lst (T.at_ 4)).length:Nat):Int))),(18,.v (.int .i32 ((ac:Nat):Int))),(20,.p 3 0),(23,.v (.slice (some ⟨af,0,none⟩) ((lst (aa.at_ 1)).length) ai)),(24,.v (.int .i32 (((lst (aa.at_ 1)).length:Nat):Int))),(25,.v (.int .i32 (IntKind.i32.wrap (((ag:Nat):Int) + 1))))] di fun _ dj=>?_
       clear di
       refine qab ?_
       have fj:=(dj.envEq (env':=[(2,.v (.bool false)),(7,.p 0 0),(9,.v (.bool (decide (v ≥ 0)))),(10,.p 1 0),(16,.v (.slice (some ⟨ab,0,none⟩) ((lst (T.at_ 4)).length) ae)),(17,.v (.int .i32 (((lst (T.at_ 4)).length:Nat):Int))),(18,.v (.int .i32 ((ac:Nat):Int))),(20,.p 3 0),(23,.v (.slice (some ⟨af,0,none⟩) ((lst (aa.at_ 1)).length) ai)),(24,.v (.int .i32 (((lst (aa.at_ 1)).length:Nat):Int))),(25,.v (.int .i32 ((ag + 1:Nat):Int)))]) (by rw [qhe (by have:=e128_1; omega)])).pk (env':=[(2,.v (.bool false)),(7,.p 0 0),(9,.v (.bool (decide (v ≥ 0)))),(10,.p 1 0),(16,.v (.slice (some ⟨ab,0,none⟩) ((lst (T.at_ 4)).length) ae)),(17,.v (.int .i32 (((lst (T.at_ 4)).length:Nat):Int))),(18,.v (.int .i32 ((ac:Nat):Int))),(20,.p 3 0),(23,.v (.slice (some ⟨af,0,none⟩) ((lst (aa.at_ 1)).length) ai)),(24,.v (.int .i32 (((lst (aa.at_ 1)).length:Nat):Int))),(25,.v (.int .i32 ((ag + 1:Nat):Int)))])
       clear dj
       exact (RS.thing (tb:=[⟨bv,0,[.int .i16 v,.int .i32 (IntKind.i32.wrap (T.at_ 0).N),.bool al.b,.int .i16 (IntKind.i16.wrap (T.at_ 2).N),.pointer am,.slice none 0 0,.map none],true⟩,qbs ab 3 (.agg #[.string ByteArray.empty,.slice none 0 0,.map none]) ((lst (T.at_ 4)).length) (ac + 1),⟨ab,ac * 3,[.string (bs (aa.at_ 0).S),.slice none 0 0,.map none],true⟩]) (z:=.agg #[.int .i32 0,.int .i16 0,.pointer none,.map none]) (D:=(dvP bq aG [dvN (IntKind.i32.wrap (ah.at_ 0).N),dvN (IntKind.i16.wrap (ah.at_ 1).N),dvT ay (bs (qbp (ah.at_ 2)))])) (fj.cast cz) hg_g165 ba qaB aZ rfl (fun w F h_=>⟨(cu _ _ (aL _ _ (ap _ _ h_).1).1).1,(cu _ _ (aL _ _ (ap _ _ h_).1).1).2,⟨(trivial),(trivial),(⟨(aL _ _ (ap _ _ h_).1).2.1,by show ByteArray.size (bs _) ≤ 1000000; rw [qgF]; exact Nat.le_trans e184_2 (by decide)⟩),(ap _ _ h_).2.1.1,(ap _ _ h_).2.1.2.1,(ap _ _ h_).2.1.2.2,trivial⟩,⟨(rfl),(rfl),(⟨rfl,(aL _ _ (ap _ _ h_).1).2.2⟩),(ap _ _ h_).2.2,trivial⟩⟩) kz)
      refine wp_seq ?_
      refine wp_seq ?_
      refine qbH [(2,.v (.bool false)),(7,.p 0 0),(9,.v (.bool (decide (v ≥ 0)))),(10,.p 1 0),(16,.v (.slice (some ⟨ab,0,none⟩) ((lst (T.at_ 4)).length) ae)),(17,.v (.int .i32 (((lst (T.at_ 4)).length:Nat):Int))),(18,.v (.int .i32 ((ac:Nat):Int))),(20,.p 3 0),(23,.v (.slice (some ⟨af,0,none⟩) ((lst (aa.at_ 1)).length) ai)),(24,.v (.int .i32 (((lst (aa.at_ 1)).length:Nat):Int))),(25,.v (.int .i32 (((lst (aa.at_ 1)).length:Nat):Int))),(132,.v (.bool (decide ((((lst (aa.at_ 1)).length:Nat):Int) < (((lst (aa.at_ 1)).length:Nat):Int)))))] cr fun _ dl=>qab ?_
      clear cr
      refine qau dl.env_ (b:=decide ((((lst (aa.at_ 1)).length:Nat):Int) < (((lst (aa.at_ 1)).length:Nat):Int))) kz (decide_eq_false (by omega)) ?_
      refine wp_exit ?_
      refine qaw ?_
      refine qaw ?_
      refine qaT ?_
      refine qab ?_
      obtain ⟨fP,fk⟩:=RS.listEnd (tb:=[⟨bv,0,[.int .i16 v,.int .i32 (IntKind.i32.wrap (T.at_ 0).N),.bool al.b,.int .i16 (IntKind.i16.wrap (T.at_ 2).N),.pointer am,.slice none 0 0,.map none],true⟩,qbs ab 3 (.agg #[.string ByteArray.empty,.slice none 0 0,.map none]) ((lst (T.at_ 4)).length) (ac + 1),⟨ab,ac * 3,[.string (bs (aa.at_ 0).S),.slice none 0 0,.map none],true⟩]) (c:=ai) (dl.pk (env':=[(2,.v (.bool false)),(7,.p 0 0),(9,.v (.bool (decide (v ≥ 0)))),(10,.p 1 0),(16,.v (.slice (some ⟨ab,0,none⟩) ((lst (T.at_ 4)).length) ae)),(17,.v (.int .i32 (((lst (T.at_ 4)).length:Nat):Int))),(18,.v (.int .i32 ((ac:Nat):Int))),(20,.p 3 0),(23,.v (.slice (some ⟨af,0,none⟩) ((lst (aa.at_ 1)).length) ai))])) hg_g165 qaB aZ hcap_g165 (by have:=e128_1; omega) hn_g165 kz
      exact ⟨dvL (some ⟨af,0,none⟩) (lst (aa.at_ 1)).length ai fP,_,fun w F h_=>⟨h_.1,⟨h_.2.1,Nat.le_trans e128_1 (by decide),h_.2.2.1⟩,⟨rfl,h_.2.2.2⟩⟩,fk⟩
     refine wp_skip ?_
     refine qab ?_
     refine wp_seq ?_
     refine qbH [(2,.v (.bool false)),(7,.p 0 0),(9,.v (.bool (decide (v ≥ 0)))),(10,.p 1 0),(16,.v (.slice (some ⟨ab,0,none⟩) ((lst (T.at_ 4)).length) ae)),(17,.v (.int .i32 (((lst (T.at_ 4)).length:Nat):Int))),(18,.v (.int .i32 ((ac:Nat):Int))),(20,.p 3 0),(23,.v (.slice none 0 0)),(24,.v (.int .i32 (((lst (aa.at_ 1)).length:Nat):Int))),(25,.v (.int .i32 0))] ax fun _ dp=>?_
     clear ax
     refine qab ?_
     refine wp_block ?_
     refine qfN ?_
     refine wp_seq ?_
     refine wp_seq ?_
     refine qbH [(2,.v (.bool false)),(7,.p 0 0),(9,.v (.bool (decide (v ≥ 0)))),(10,.p 1 0),(16,.v (.slice (some ⟨ab,0,none⟩) ((lst (T.at_ 4)).length) ae)),(17,.v (.int .i32 (((lst (T.at_ 4)).length:Nat):Int))),(18,.v (.int .i32 ((ac:Nat):Int))),(20,.p 3 0),(23,.v (.slice none 0 0)),(24,.v (.int .i32 (((lst (aa.at_ 1)).length:Nat):Int))),(25,.v (.int .i32 0)),(132,.v (.bool (decide (0 < (((lst (aa.at_ 1)).length:Nat):Int)))))] dp fun _ dq=>qab ?_
     clear dp
     refine qau dq.env_ (b:=decide (0 < (((lst (aa.at_ 1)).length:Nat):Int))) kz (decide_eq_false (by have h_:=of_decide_eq_false aK; omega)) ?_
     refine wp_exit ?_
     refine qaw ?_
     refine qaw ?_
     refine qaT ?_
     refine qab ?_
     have hz_:(lst (aa.at_ 1)).length = 0:=by have h_:=of_decide_eq_false aK; omega
     exact ⟨dvL none 0 0 (fun _=>dv0),_,fun w F h_=>⟨h_,⟨Slots.nil _ _ _ _,Nat.zero_le _,fun _ h=>absurd h (Nat.not_lt_zero _)⟩,⟨hz_.symm,fun _ h=>absurd h (Nat.not_lt_zero _)⟩⟩,(dq.cast (t:=aw) (by rw [List.eq_nil_of_length_eq_zero hz_]; rfl)).pk (env':=[(2,.v (.bool false)),(7,.p 0 0),(9,.v (.bool (decide (v ≥ 0)))),(10,.p 1 0),(16,.v (.slice (some ⟨ab,0,none⟩) ((lst (T.at_ 4)).length) ae)),(17,.v (.int .i32 (((lst (T.at_ 4)).length:Nat):Int))),(18,.v (.int .i32 ((ac:Nat):Int))),(20,.p 3 0),(23,.v (.slice none 0 0))])⟩
    rintro _ _ ⟨ak,fQ,aM,dr⟩
    refine wp_seq ?_
    refine qbH [(2,.v (.bool false)),(7,.p 0 0),(9,.v (.bool (decide (v ≥ 0)))),(10,.p 1 0),(16,.v (.slice (some ⟨ab,0,none⟩) ((lst (T.at_ 4)).length) ae)),(17,.v (.int .i32 (((lst (T.at_ 4)).length:Nat):Int))),(18,.v (.int .i32 ((ac:Nat):Int))),(20,.p 3 0),(22,.v (.slice ak.A ak.l ak.c))] dr fun _ dt=>?_
    clear dr
    refine qab ?_
    refine qdP [⟨bv,0,[.int .i16 v,.int .i32 (IntKind.i32.wrap (T.at_ 0).N),.bool al.b,.int .i16 (IntKind.i16.wrap (T.at_ 2).N),.pointer am,.slice none 0 0,.map none],true⟩,qbs ab 3 (.agg #[.string ByteArray.empty,.slice none 0 0,.map none]) ((lst (T.at_ 4)).length) (ac + 1),⟨ab,ac * 3,[.string (bs (aa.at_ 0).S),.slice ak.A ak.l ak.c,.map none],true⟩] 2 [(2,.v (.bool false)),(7,.p 0 0),(9,.v (.bool (decide (v ≥ 0)))),(10,.p 1 0),(16,.v (.slice (some ⟨ab,0,none⟩) ((lst (T.at_ 4)).length) ae)),(17,.v (.int .i32 (((lst (T.at_ 4)).length:Nat):Int))),(18,.v (.int .i32 ((ac:Nat):Int))),(20,.p 3 0)] dt fun _ _ du=>?_
    clear dt
    refine qab ?_
    have dv:=du.cast bH
    clear du
    refine qdI (Mid:=fun a_ w_=>∃ (bt:Option Nat) (aH:List (Int × Bs)) (P':qcp),(∀ w F,P' w F → fQ w F ∧ (MapR w F bt aH ∧ aH.length ≤ 1000000 ∧ ∀ x ∈ aH,x.2.length < 4294967296) ∧ ((decide (v ≥ 0)) = true → aH = aa.U) ∧ ((decide (v ≥ 0)) = false → aH = [])) ∧ RS w (fun b o=>b = bv ∧ o < 7) F 188 bj [⟨bv,0,[.int .i16 v,.int .i32 (IntKind.i32.wrap (T.at_ 0).N),.bool al.b,.int .i16 (IntKind.i16.wrap (T.at_ 2).N),.pointer am,.slice none 0 0,.map none],true⟩,qbs ab 3 (.agg #[.string ByteArray.empty,.slice none 0 0,.map none]) ((lst (T.at_ 4)).length) (ac + 1),⟨ab,ac * 3,[.string (bs (aa.at_ 0).S),.slice ak.A ak.l ak.c,.map bt],true⟩] [(2,.v (.bool false)),(7,.p 0 0),(9,.v (.bool (decide (v ≥ 0)))),(10,.p 1 0),(16,.v (.slice (some ⟨ab,0,none⟩) ((lst (T.at_ 4)).length) ae)),(17,.v (.int .i32 (((lst (T.at_ 4)).length:Nat):Int))),(18,.v (.int .i32 ((ac:Nat):Int)))] P' aU a_ w_) ?_ ?_
    ·
     refine wp_seq ?_
     refine qbH [(2,.v (.bool false)),(7,.p 0 0),(9,.v (.bool (decide (v ≥ 0)))),(10,.p 1 0),(16,.v (.slice (some ⟨ab,0,none⟩) ((lst (T.at_ 4)).length) ae)),(17,.v (.int .i32 (((lst (T.at_ 4)).length:Nat):Int))),(18,.v (.int .i32 ((ac:Nat):Int))),(20,.p 3 0),(172,.v (.bool (decide (v ≥ 0))))] dv fun _ aC=>qab ?_
     clear dv
     refine qaE aC.env_ (b:=decide (v ≥ 0)) kz (fun aD=>?_) (fun aD=>?_)
     ·
      have dw:=aC.cast (t:=((uv aa.U.length) ++ (qcy aa.U)) ++ aU) (by rw [if_pos aD])
      clear aC
      refine qap [0,1,2,3,4] kz ?_
      refine qc4 [0] [1,2,3,4] [(2,.v (.bool false)),(7,.p 0 0),(9,.v (.bool (decide (v ≥ 0)))),(10,.p 1 0),(16,.v (.slice (some ⟨ab,0,none⟩) ((lst (T.at_ 4)).length) ae)),(17,.v (.int .i32 (((lst (T.at_ 4)).length:Nat):Int))),(18,.v (.int .i32 ((ac:Nat):Int))),(173,.p 3 0)] dw fun _ dx=>?_
      clear dw
      refine qai (qfL (d:=174) dx (qkp aa.U e128_U (qeF e128r) _) (fun _=>MvF.tags _ _) Tryz.call156 fun d7 ge _ _ dy dz=>?_)
      clear dx
      refine qc4 [2,3] [4] [(2,.v (.bool false)),(7,.p 0 0),(9,.v (.bool (decide (v ≥ 0)))),(10,.p 1 0),(16,.v (.slice (some ⟨ab,0,none⟩) ((lst (T.at_ 4)).length) ae)),(17,.v (.int .i32 (((lst (T.at_ 4)).length:Nat):Int))),(18,.v (.int .i32 ((ac:Nat):Int))),(174,.v (.agg #[.map d7])),(176,.p 3 2)] dz fun _ dA=>?_
      clear dz
      refine qai (qfM [⟨bv,0,[.int .i16 v,.int .i32 (IntKind.i32.wrap (T.at_ 0).N),.bool al.b,.int .i16 (IntKind.i16.wrap (T.at_ 2).N),.pointer am,.slice none 0 0,.map none],true⟩,qbs ab 3 (.agg #[.string ByteArray.empty,.slice none 0 0,.map none]) ((lst (T.at_ 4)).length) (ac + 1),⟨ab,ac * 3,[.string (bs (aa.at_ 0).S),.slice ak.A ak.l ak.c,.map d7],true⟩] 2 dA fun _ dB=>?_)
      clear dA
      refine qae ?_
      have fl:=dB.pk (env':=[(2,.v (.bool false)),(7,.p 0 0),(9,.v (.bool (decide (v ≥ 0)))),(10,.p 1 0),(16,.v (.slice (some ⟨ab,0,none⟩) ((lst (T.at_ 4)).length) ae)),(17,.v (.int .i32 (((lst (T.at_ 4)).length:Nat):Int))),(18,.v (.int .i32 ((ac:Nat):Int)))])
      clear dB
      refine qab ?_
      exact ⟨d7,aa.U,_,fun w F h_=>⟨(dy _ _ h_).1,⟨(dy _ _ h_).2,e128_U.2.1,e128_U.2.2⟩,⟨fun _=>rfl,(fun e_=>by rw [aD] at e_; cases e_)⟩⟩,fl.pk (env':=[(2,.v (.bool false)),(7,.p 0 0),(9,.v (.bool (decide (v ≥ 0)))),(10,.p 1 0),(16,.v (.slice (some ⟨ab,0,none⟩) ((lst (T.at_ 4)).length) ae)),(17,.v (.int .i32 (((lst (T.at_ 4)).length:Nat):Int))),(18,.v (.int .i32 ((ac:Nat):Int)))])⟩
     have dC:=aC.cast (t:=[] ++ aU) (by rw [if_neg (by rw [aD]; decide)])
     clear aC
     have fm:=dC.cast (t:=aU) rfl
     clear dC
     refine wp_skip (qab ?_)
     exact ⟨none,[],_,fun w F h_=>⟨h_,⟨MapR.nil _ _,Nat.zero_le _,fun _ h=>by cases h⟩,⟨(fun e_=>by rw [aD] at e_; cases e_),fun _=>rfl⟩⟩,fm.pk (env':=[(2,.v (.bool false)),(7,.p 0 0),(9,.v (.bool (decide (v ≥ 0)))),(10,.p 1 0),(16,.v (.slice (some ⟨ab,0,none⟩) ((lst (T.at_ 4)).length) ae)),(17,.v (.int .i32 (((lst (T.at_ 4)).length:Nat):Int))),(18,.v (.int .i32 ((ac:Nat):Int)))])⟩
    rintro _ _ ⟨bt,aH,gg,ar,dD⟩
    refine qax ?_
    refine qab ?_
    refine qbH [(2,.v (.bool false)),(7,.p 0 0),(9,.v (.bool (decide (v ≥ 0)))),(10,.p 1 0),(16,.v (.slice (some ⟨ab,0,none⟩) ((lst (T.at_ 4)).length) ae)),(17,.v (.int .i32 (((lst (T.at_ 4)).length:Nat):Int))),(18,.v (.int .i32 (IntKind.i32.wrap (((ac:Nat):Int) + 1))))] dD fun _ dE=>?_
    clear dD
    refine qab ?_
    have fo:=(dE.envEq (env':=[(2,.v (.bool false)),(7,.p 0 0),(9,.v (.bool (decide (v ≥ 0)))),(10,.p 1 0),(16,.v (.slice (some ⟨ab,0,none⟩) ((lst (T.at_ 4)).length) ae)),(17,.v (.int .i32 (((lst (T.at_ 4)).length:Nat):Int))),(18,.v (.int .i32 ((ac + 1:Nat):Int)))]) (by rw [qhe (by have:=e32_4; omega)])).pk (env':=[(2,.v (.bool false)),(7,.p 0 0),(9,.v (.bool (decide (v ≥ 0)))),(10,.p 1 0),(16,.v (.slice (some ⟨ab,0,none⟩) ((lst (T.at_ 4)).length) ae)),(17,.v (.int .i32 (((lst (T.at_ 4)).length:Nat):Int))),(18,.v (.int .i32 ((ac + 1:Nat):Int)))])
    clear dE
    exact (RS.thing (tb:=[⟨bv,0,[.int .i16 v,.int .i32 (IntKind.i32.wrap (T.at_ 0).N),.bool al.b,.int .i16 (IntKind.i16.wrap (T.at_ 2).N),.pointer am,.slice none 0 0,.map none],true⟩]) (z:=.agg #[.string ByteArray.empty,.slice none 0 0,.map none]) (D:=(dvP bt aH [dvS (bs (aa.at_ 0).S),ak])) (fo.cast bG) hg_g109 aT qaL aS rfl (fun w F h_=>⟨(bE _ _ (aM _ _ (ar _ _ h_).1).1).1,(bE _ _ (aM _ _ (ar _ _ h_).1).1).2,⟨(by show ByteArray.size (bs _) ≤ 1000000; rw [qgF]; exact Nat.le_trans e128_0 (by decide)),((aM _ _ (ar _ _ h_).1).2.1),(ar _ _ h_).2.1.1,(ar _ _ h_).2.1.2.1,(ar _ _ h_).2.1.2.2,trivial⟩,⟨(rfl),((aM _ _ (ar _ _ h_).1).2.2),(ar _ _ h_).2.2,trivial⟩⟩) kz)
   refine wp_seq ?_
   refine wp_seq ?_
   refine qbH [(2,.v (.bool false)),(7,.p 0 0),(9,.v (.bool (decide (v ≥ 0)))),(10,.p 1 0),(16,.v (.slice (some ⟨ab,0,none⟩) ((lst (T.at_ 4)).length) ae)),(17,.v (.int .i32 (((lst (T.at_ 4)).length:Nat):Int))),(18,.v (.int .i32 (((lst (T.at_ 4)).length:Nat):Int))),(92,.v (.bool (decide ((((lst (T.at_ 4)).length:Nat):Int) < (((lst (T.at_ 4)).length:Nat):Int)))))] bD fun _ dF=>qab ?_
   clear bD
   refine qau dF.env_ (b:=decide ((((lst (T.at_ 4)).length:Nat):Int) < (((lst (T.at_ 4)).length:Nat):Int))) kz (decide_eq_false (by omega)) ?_
   refine wp_exit ?_
   refine qaw ?_
   refine qaw ?_
   refine qaT ?_
   refine qab ?_
   obtain ⟨fR,fq⟩:=RS.listEnd (tb:=[⟨bv,0,[.int .i16 v,.int .i32 (IntKind.i32.wrap (T.at_ 0).N),.bool al.b,.int .i16 (IntKind.i16.wrap (T.at_ 2).N),.pointer am,.slice none 0 0,.map none],true⟩]) (c:=ae) (dF.pk (env':=[(7,.p 0 0),(9,.v (.bool (decide (v ≥ 0)))),(10,.p 1 0),(16,.v (.slice (some ⟨ab,0,none⟩) ((lst (T.at_ 4)).length) ae))])) hg_g109 qaL aS hcap_g109 (by have:=e32_4; omega) hn_g109 kz
   exact ⟨dvL (some ⟨ab,0,none⟩) (lst (T.at_ 4)).length ae fR,_,fun w F h_=>⟨h_.1,⟨h_.2.1,Nat.le_trans e32_4 (by decide),h_.2.2.1⟩,⟨rfl,h_.2.2.2⟩⟩,fq⟩
  refine wp_skip ?_
  refine qab ?_
  refine wp_seq ?_
  refine qbH [(2,.v (.bool false)),(7,.p 0 0),(9,.v (.bool (decide (v ≥ 0)))),(10,.p 1 0),(16,.v (.slice none 0 0)),(17,.v (.int .i32 (((lst (T.at_ 4)).length:Nat):Int))),(18,.v (.int .i32 0))] av fun _ dG=>?_
  clear av
  refine qab ?_
  refine wp_block ?_
  refine qfN ?_
  refine wp_seq ?_
  refine wp_seq ?_
  refine qbH [(2,.v (.bool false)),(7,.p 0 0),(9,.v (.bool (decide (v ≥ 0)))),(10,.p 1 0),(16,.v (.slice none 0 0)),(17,.v (.int .i32 (((lst (T.at_ 4)).length:Nat):Int))),(18,.v (.int .i32 0)),(92,.v (.bool (decide (0 < (((lst (T.at_ 4)).length:Nat):Int)))))] dG fun _ dH=>qab ?_
  clear dG
  refine qau dH.env_ (b:=decide (0 < (((lst (T.at_ 4)).length:Nat):Int))) kz (decide_eq_false (by have h_:=of_decide_eq_false aJ; omega)) ?_
  refine wp_exit ?_
  refine qaw ?_
  refine qaw ?_
  refine qaT ?_
  refine qab ?_
  have hz_:(lst (T.at_ 4)).length = 0:=by have h_:=of_decide_eq_false aJ; omega
  exact ⟨dvL none 0 0 (fun _=>dv0),_,fun w F h_=>⟨h_,⟨Slots.nil _ _ _ _,Nat.zero_le _,fun _ h=>absurd h (Nat.not_lt_zero _)⟩,⟨hz_.symm,fun _ h=>absurd h (Nat.not_lt_zero _)⟩⟩,(dH.cast (t:=bw) (by rw [List.eq_nil_of_length_eq_zero hz_]; rfl)).pk (env':=[(7,.p 0 0),(9,.v (.bool (decide (v ≥ 0)))),(10,.p 1 0),(16,.v (.slice none 0 0))])⟩
 rintro _ _ ⟨aj,fS,au,dI⟩
 refine wp_seq ?_
 refine qbH [(7,.p 0 0),(9,.v (.bool (decide (v ≥ 0)))),(10,.p 1 0),(15,.v (.slice aj.A aj.l aj.c))] dI fun _ dJ=>?_
 clear dI
 refine qab ?_
 refine qdP [⟨bv,0,[.int .i16 v,.int .i32 (IntKind.i32.wrap (T.at_ 0).N),.bool al.b,.int .i16 (IntKind.i16.wrap (T.at_ 2).N),.pointer am,.slice aj.A aj.l aj.c,.map none],true⟩] 0 [(7,.p 0 0),(9,.v (.bool (decide (v ≥ 0)))),(10,.p 1 0)] dJ fun _ _ dK=>?_
 clear dJ
 refine qab ?_
 refine wp_seq ?_
 have dL:=dK.cast ea
 clear dK
 refine qdI (Mid:=fun a_ w_=>∃ (bu:Option Nat) (aI:List (Int × Bs)) (P':qcp),(∀ w F,P' w F → fS w F ∧ (MapR w F bu aI ∧ aI.length ≤ 1000000 ∧ ∀ x ∈ aI,x.2.length < 4294967296) ∧ ((decide (v ≥ 0)) = true → aI = T.U) ∧ ((decide (v ≥ 0)) = false → aI = [])) ∧ RS w (fun b o=>b = bv ∧ o < 7) F 188 bj [⟨bv,0,[.int .i16 v,.int .i32 (IntKind.i32.wrap (T.at_ 0).N),.bool al.b,.int .i16 (IntKind.i16.wrap (T.at_ 2).N),.pointer am,.slice aj.A aj.l aj.c,.map bu],true⟩] [(7,.p 0 0)] P' ([]:Bs) a_ w_) ?_ ?_
 ·
  refine wp_seq ?_
  refine qbH [(7,.p 0 0),(10,.p 1 0),(182,.v (.bool (decide (v ≥ 0))))] dL fun _ aE=>qab ?_
  clear dL
  refine qaE aE.env_ (b:=decide (v ≥ 0)) kz (fun aF=>?_) (fun aF=>?_)
  ·
   have dM:=aE.cast (t:=((uv T.U.length) ++ (qcy T.U)) ++ ([]:Bs)) (by rw [if_pos aF])
   clear aE
   refine qap [0,1,2,3,4] kz ?_
   refine qc4 [0] [1,2,3,4] [(7,.p 0 0),(183,.p 1 0)] dM fun _ dN=>?_
   clear dM
   refine qai (qfL (d:=184) dN (qkp T.U e32_U (qeF e32r) _) (fun _=>MvF.tags _ _) Tryz.call156 fun d8 gh _ _ dO dP=>?_)
   clear dN
   refine qc4 [2,3] [4] [(7,.p 0 0),(184,.v (.agg #[.map d8])),(186,.p 1 6)] dP fun _ dQ=>?_
   clear dP
   refine qai (qfM [⟨bv,0,[.int .i16 v,.int .i32 (IntKind.i32.wrap (T.at_ 0).N),.bool al.b,.int .i16 (IntKind.i16.wrap (T.at_ 2).N),.pointer am,.slice aj.A aj.l aj.c,.map d8],true⟩] 0 dQ fun _ dR=>?_)
   clear dQ
   refine qae ?_
   have fr:=dR.pk (env':=[(7,.p 0 0)])
   clear dR
   refine qab ?_
   exact ⟨d8,T.U,_,fun w F h_=>⟨(dO _ _ h_).1,⟨(dO _ _ h_).2,e32_U.2.1,e32_U.2.2⟩,⟨fun _=>rfl,(fun e_=>by rw [aF] at e_; cases e_)⟩⟩,fr.pk (env':=[(7,.p 0 0)])⟩
  have dS:=aE.cast (t:=[] ++ ([]:Bs)) (by rw [if_neg (by rw [aF]; decide)])
  clear aE
  have ft:=dS.cast (t:=([]:Bs)) rfl
  clear dS
  refine wp_skip (qab ?_)
  exact ⟨none,[],_,fun w F h_=>⟨h_,⟨MapR.nil _ _,Nat.zero_le _,fun _ h=>by cases h⟩,⟨(fun e_=>by rw [aF] at e_; cases e_),fun _=>rfl⟩⟩,ft.pk (env':=[(7,.p 0 0)])⟩
 rintro _ _ ⟨bu,aI,gi,ao,dT⟩
 refine qab ?_
 refine wp_seq ?_
 refine qap [0,1] kz (qai (qgK (d:=187) dT qiU Tryz.call149 fun _ dU=>?_))
 clear dT
 refine qc4 [1] [] [(6,.v (.nilIface))] dU fun _ dV=>qae ?_
 clear dU
 refine qab ?_
 refine wp_ret ?_
 obtain ⟨A_,m_,c_,hW_,hr_,hE_,hP_⟩:=dV.open_
 refine qaX hE_ hW_.cells (v:=.nilIface) kz ?_
 have h_:=dV.mv.mono qbG hP_
 refine ⟨(dvP bu aI [dvN (IntKind.i32.wrap (T.at_ 0).N),al,dvN (IntKind.i16.wrap (T.at_ 2).N),dvT am (bs (qbp (T.at_ 3))),aj]),rfl,Str.of hW_ 1 rfl,?_,?_,hW_.step⟩
 ·unfold qaI
  exact ⟨(trivial),((eD _ _ (bk _ _ (au _ _ (ao _ _ h_).1).1).1).2.1),(trivial),(⟨(bk _ _ (au _ _ (ao _ _ h_).1).1).2.1,by show ByteArray.size (bs _) ≤ 1000000; rw [qgF]; exact Nat.le_trans e32_3 (by decide)⟩),((au _ _ (ao _ _ h_).1).2.1),(ao _ _ h_).2.1.1,(ao _ _ h_).2.1.2.1,(ao _ _ h_).2.1.2.2,trivial⟩
 unfold qbB
 exact ⟨(rfl),((eD _ _ (bk _ _ (au _ _ (ao _ _ h_).1).1).1).2.2),(rfl),(⟨rfl,(bk _ _ (au _ _ (ao _ _ h_).1).1).2.2⟩),((au _ _ (ao _ _ h_).1).2.2),(ao _ _ h_).2.2,trivial⟩
theorem qbC:qgk qaI:=by
 intro w w' F F' M d hs hM hF h
 unfold qaI at h ⊢
 obtain ⟨g0,g1,g2,⟨g3,g3l⟩,⟨g4,g4l,g4e⟩,t1,t2,t3,_⟩:=h
 exact ⟨g0,g1,g2,⟨fun ad hA=>by
  obtain ⟨b,o,h1,h2⟩:=g3 ad hA
  exact ⟨b,o,h1,h2.move hs hM hF⟩,g3l⟩,⟨g4.move hs hM hF,g4l,fun i hi=>qaL _ hs hM hF (g4e i hi)⟩,t1.move hs hM hF,t2,t3,trivial⟩
end Go.Proofs.YtcbpjflgkefidaaGreatDoor.ME
namespace Go.Proofs.YtcbpjflgkefidaaGreatDoor.ME
open Go
open Go.RowKit
open Go.ChangeMaps (setBlock)
set_option linter.unusedVariables false
set_option linter.unusedSimpArgs false
set_option maxRecDepth 20000
abbrev cloV (fc:Nat) (cap:Value):Value:=.func (.func fc) #[] #[cap]
theorem qkU {fc:Nat} {cap:Value} {m:Option Nat} {u:List (Int × Bs)} {b o:Nat} {w:World} {F M:Nat → Nat → Prop} (hcf:∀ args w,(callFunc fc args).run Tryz.prog w = .ok (.enter fc args) w) (I:World → Nat → World → Prop) (hat:AtF w F b o [.map m]) (hm:MapR w F m u) (hMF:∀ b o,F b o → ¬ M b o) (hMlt:∀ b o,M b o → b < w.heap.size)
  (hI0:∀ w7,Step w w7 Nil → I w7 0 w7) (hIs:∀ w7 j w8,I w7 j w8 → Step w7 w8 M)
  (hI1:∀ w7,Step w w7 Nil → ∀ j k x w8 Ax cx,I w7 j w8 → u[j]? = some (k,x) → (0 ≤ k ∧ k < 4294967296) → Octs w8 (fun b o=>F b o ∧ b < w7.heap.size) Ax cx x → Calls Tryz.prog fc [.int .u32 k,.slice Ax x.length cx,cap].toArray w8 (fun e w9=>e = .returned (.tuple #[]) ∧ I w7 (j + 1) w9)) (hul:u.length ≤ 1000000) :
  Calls Tryz.prog 103 [.pointer (some ⟨b,o,none⟩),cloV fc cap].toArray w (fun e w'=>e = .returned (.tuple #[]) ∧ ∃ w7,Step w w7 Nil ∧ I w7 u.length w'):=by
 refine enter (n:=53) Tryz.func103 rfl Tryz.ntmps103 kz fun a hE=>?_
 have hW:WOk w Nil w [⟨b,o,[.map m],false⟩] []:=(WOk.start w Nil).start1 hat rfl rfl
 refine wp_seq (wp_seq ?_)
 refine qap [0,1,2,3,4,5] kz ?_
 refine qbI [0,1,2,3] [4,5] [0,1,11] hW (EnvOk.ptr0 (cs:=[.map m]) (r:=false) hE) (env':=[(0,.p 0 0),(1,.v (cloV fc cap)),(11,.v (.map m))]) kz rfl fun a1 hE1=>?_
 refine qai (qfZ (t:=92) (kt:=62) (et:=22) hE1 (m:=m) (d:=12) kz kz hm fun a2 hE2=>?_)
 refine qbI [5] [] [0,1,13] hW hE2 (env':=[(0,.p 0 0),(1,.v (cloV fc cap)),(13,.v (.bool (((u.length:Nat):Int) == 0)))]) kz rfl fun a3 hE3=>qae (qab ?_)
 refine qaE hE3 (b:=((u.length:Nat):Int) == 0) kz (fun hb=>?_) (fun hb=>?_)
 ·-- none
  have hu:u = []:=List.eq_nil_of_length_eq_zero (by have:=eq_of_beq hb; omega)
  subst hu
  refine wp_ret (qaD ?_)
  exact qaX hE3 hW.cells (v:=.tuple #[]) kz ⟨rfl,w,Step.refl _ _,hI0 w (Step.refl _ _)⟩
 have hu0:0 < u.length:=by have:=ne_of_beq_false hb; omega
 cases m with
 | none=>rw [hm.none_ rfl] at hu0; cases hu0
 | some mb =>
 obtain ⟨hFm,es,clk,hes,hperm,hborn,hnod,hcont⟩:=hm.some_ mb rfl
 have hmlt:mb < w.heap.size:=(Array.getElem?_eq_some_iff.1 hes).1
 have hesz:es.size = u.length:=MapR.size (w:=w) (F:=F) hperm
 refine wp_skip (qab ?_)
 refine qad [0,1,2,3,4,5,6,7] kz ?_
 refine qbI [0,1,2,3] [4,5,6,7] [0,1,17] hW hE3 (env':=[(0,.p 0 0),(1,.v (cloV fc cap)),(17,.v (.map (some mb)))]) kz rfl fun a4 hE4=>?_
 refine qai (qfZ (t:=92) (kt:=62) (et:=22) hE4 (m:=some mb) (d:=18) kz kz hm fun a5 hE5=>?_)
 refine qai (qhq (e:=62) (size:=1) (bytes:=4) (j:=u.length) (t:=186) (d:=19) hW hE5 (p:=0) (q:=((u.length:Nat):Int)) kz kz rfl rfl (by omega) fun kr a6 w1 hkr hkr0 hF1 hW1 hE6=>?_)
 refine qai (qaO hW1 hE6 (d:=4) (cs:=[.slice none 0 0]) kz fun kb a7 w2 hkb hkb0 hF2 hW2 hE7=>?_)
 refine qai (qam hW2 hE7 (oi:=1) (cs:=[.slice (some ⟨kr,0,none⟩) 0 u.length]) kz fun w3 hF3 hW3 hE8=>qae (qab ?_))
 refine wp_seq (qad [0,1,2,3,4] kz ?_)
 refine qbI [0,1,2,3] [4] [0,1,4,23] hW3 hE8 (env':=[(0,.p 0 0),(1,.v (cloV fc cap)),(4,.p 1 0),(23,.v (.map (some mb)))]) kz rfl fun a8 hE9=>?_
 have hes3:=hW3.step.heap (fun o h=>h) hes
 refine qai (qht (t:=92) (kt:=62) (et:=22) (d:=24) (r:=mb) hE9 kz kz hes3 fun a9 hE10=>qae (qab ?_))
 have hW4:=hW3.next_nil (Step.alloc w3 (.mapIter (some mb) clk #[] clk))
 have hr4:(w3.alloc (.mapIter (some mb) clk #[] clk)).heap[w3.heap.size]? = some (.mapIter (some mb) clk #[] clk):=qc6 _ _
 have hE11:=hE10.pick (ks:=[0,1,4,24]) (env':=[(0,.p 0 0),(1,.v (cloV fc cap)),(4,.p 1 0),(24,.v (.pointer (some ⟨w3.heap.size,0,none⟩)))]) kz
 have hrlt:w3.heap.size < (w3.alloc (.mapIter (some mb) clk #[] clk)).heap.size:=by rw [qef]; omega
 have hr0:w.heap.size ≤ w3.heap.size:=hW3.step.size
 have hkbr:kb ≠ w3.heap.size:=by have:=hW3.live 1 _ rfl; show ¬ _; intro e; rw [← e] at this; exact absurd this (Nat.lt_irrefl _)
 have hkrr:kr ≠ w3.heap.size:=by have:=qbT (hW3.own 0 _ rfl) (g:=kr) rfl; omega
 generalize hR:w3.heap.size = R at hr4 hE11 hrlt hkbr hkrr
 generalize hw4:w3.alloc (.mapIter (some mb) clk #[] clk) = w4 at hW4 hr4 hrlt
 refine wp_block ?_
 refine wp_loop_ghost (fun q a_ w_=>∃ (vis:List MapEntry) (seen:Array Nat) (K:Option Addr) (kc c0:Nat),q = (leftOf es seen).size ∧ Vis es.toList vis seen ∧ vis.length + (leftOf es seen).size ≤ es.size ∧
   EnvOk 53 [⟨b,o,[.map (some mb)],false⟩,⟨kb,0,[.slice K vis.length kc],true⟩] [(0,.p 0 0),(1,.v (cloV fc cap)),(4,.p 1 0),(24,.v (.pointer (some ⟨R,0,none⟩)))] a_ ∧
   WOk w Nil w_ [⟨b,o,[.map (some mb)],false⟩,⟨kb,0,[.slice K vis.length kc],true⟩] [⟨K,kc,62,1,vis.length,(vis.map fun e=>kOf e.key).map (Value.int .u32)⟩] ∧
   w_.heap[R]? = some (.mapIter (some mb) clk seen c0) ∧ clk ≤ c0 ∧ K.map (·.block) ≠ some R) (leftOf es #[]).size
  ⟨[],#[],some ⟨kr,0,none⟩,u.length,clk,rfl,Vis.nil _,by rw [List.length_nil,Nat.zero_add]; exact Array.size_filter_le,by rw [← hw4] at *; exact hE11,hW4,hr4,Nat.le_refl _,by simpa using hkrr⟩ ?_
 rintro q a10 w5 ⟨vis,seen,K,kc,c0,rfl,hv,hvl,hE12,hW5,hr5,hc0,hKR⟩
 have hes5:=hW5.step.heap (fun o h=>h) hes
 refine qad [0,1] kz ?_
 refine qai (qia hE12 (d:=25) (r:=R) kz hr5 hes5 hborn hc0 (fun h0 a11 hE13=>?_) (fun e he w6 hw6 a11 hE13=>?_))
 ·-- behind it
  refine qbI [1] [] [0,1,4,26] hW5 hE13 (env':=[(0,.p 0 0),(1,.v (cloV fc cap)),(4,.p 1 0),(26,.v (.bool false))]) kz rfl fun a12 hE14=>qae (qab (wp_seq ?_))
  refine qaE hE14 (b:=false) kz (fun hb=>by cases hb) (fun _=>?_)
  refine wp_exit (qaw (qaw (qaT (qab ?_))))
  have hpe:=hv.all h0 hnod
  have hvu:vis.length = u.length:=by rw [hpe.length_eq,Array.length_toList,hesz]
  have hkp:(vis.map fun e=>kOf e.key).Perm (u.map Prod.fst):=by
   have h1:=(hpe.map fun e=>kOf e.key)
   have h2:=hperm.map kOf
   rw [List.map_map,List.map_map] at h2
   exact h1.trans h2
  have hkl:(vis.map fun e=>kOf e.key).length = vis.length:=by simp
  generalize (vis.map fun e=>kOf e.key) = ks at hkp hkl hW5
  have hown4:w5.ownsRow 0 62 1 (.slice K vis.length kc) vis.length (ks.map (Value.int .u32)):=hW5.own 0 _ rfl
  obtain ⟨g,rfl⟩:=qb5 hown4 (by omega)
  have hown5:w5.ownsRow 0 62 1 (.slice (some ⟨g,0,none⟩) vis.length kc) vis.length (ks.map (Value.int .u32)):=hown4
  have hg0:w.heap.size ≤ g:=by
   rcases hW5.ownM 0 _ rfl g rfl with h | h
   ·exact h
   exact (h 0).elim
  refine qad [0,1,2,3] kz ?_
  refine qbI [0,1] [2,3] [0,1,4,34] hW5 hE14 (env':=[(0,.p 0 0),(1,.v (cloV fc cap)),(4,.p 1 0),(34,.v (.iface 186 (.slice (some ⟨g,0,none⟩) vis.length kc)))]) kz rfl fun a13 hE15=>?_
  refine qai (qeB hE15 (v:=.func (.func 160) #[] #[.pointer (some ⟨kb,0,none⟩)]) (d:=35) kz fun a14 hE16=>?_)
  have hS:=Tryz.sortKeys g kc kb ks.toArray (by simp; omega) (by simp; omega) w5 (by simp only [List.size_toArray,hkl]; exact hW5.cells 1 _ rfl 0 _ rfl) (fun e=>hW5.rtb 0 _ rfl g rfl 1 _ rfl e) (qf1 hkl hown5) (qbT (hW5.own 0 _ rfl) (g:=g) rfl) (hW5.live 1 _ rfl)
  rw [List.size_toArray,hkl] at hS
  refine qai (qak hE16 (f:=159) (vs:=[.iface 186 (.slice (some ⟨g,0,none⟩) vis.length kc),.func (.func 160) #[] #[.pointer (some ⟨kb,0,none⟩)]]) (d:=36) kz Tryz.call159 hS ?_)
  rintro e_ w7 ⟨rfl,d',nd,os,hd1,hd2,hd3,rfl⟩
  refine ⟨_,rfl,fun a15 hE17=>qae (qab ?_)⟩
  have hus:d'.toList = u.map Prod.fst:=qib hd2 (by rw [hd1]; exact hd3) hkp (List.pairwise_map.2 hm.sorted)
  obtain ⟨hst7,hown7⟩:=qjh (n:=nd) (os:=os) hkl hown5 (by rw [hd1,hkl])
  rw [hus] at hown7
  generalize Sort.grow (Sort.putRow (Value.int .u32) (Sort.ahead w5 nd) g 0 d') os = w7 at hst7 hown7
  have hW7:WOk w Nil w7 [⟨b,o,[.map (some mb)],false⟩,⟨kb,0,[.slice (some ⟨g,0,none⟩) vis.length kc],true⟩] [⟨some ⟨g,0,none⟩,kc,62,1,vis.length,(u.map Prod.fst).map (Value.int .u32)⟩] :=
   hW5.grow (k:=0) (r':=⟨some ⟨g,0,none⟩,kc,62,1,vis.length,(u.map Prod.fst).map (Value.int .u32)⟩) rfl (hst7.mono fun b' _ _ hb'=>by rw [hb']; rfl) hown7 (fun g' h=>.inl h)
  refine qad [0,1,2] kz ?_
  refine qbI [0,1,2] [] [0,1,37,38,39] hW7 hE17 (env':=[(0,.p 0 0),(1,.v (cloV fc cap)),(37,.v (.slice (some ⟨g,0,none⟩) vis.length kc)),(38,.v (.int .i64 ((vis.length:Nat):Int))),(39,.v (.int .i64 0))]) kz rfl fun a16 hE18=>qae (qab ?_)
  have hE19:=EnvOk.cutTb 1 hE18 kz
  have hat7:=hat.move hW7.step nilM qbb
  have hm7:=hm.move hW7.step nilM qbb
  have hg7:g < w7.heap.size:=qbT (hW7.own 0 _ rfl) (g:=g) rfl
  have hkeys:=qf1 (by simpa using hvu.symm) hown7
  rw [hvu] at hE19
  refine wp_block ?_
  refine wp_loop_ghost (fun q a_ w_=>∃ (j:Nat),q = u.length - j ∧ j ≤ u.length ∧ EnvOk 53 [⟨b,o,[.map (some mb)],false⟩] [(0,.p 0 0),(1,.v (cloV fc cap)),(37,.v (.slice (some ⟨g,0,none⟩) u.length kc)),(38,.v (.int .i64 ((u.length:Nat):Int))),(39,.v (.int .i64 ((j:Nat):Int)))] a_ ∧
   I w7 j w_) u.length
   ⟨0,by omega,by omega,hE19,hI0 w7 hW7.step⟩ ?_
  rintro q a17 w8 ⟨j,rfl,hj,hE20,hD⟩
  have hS8:=hIs w7 j w8 hD
  have hat8:=hat7.move hS8 (fun b o hf _=>hMF b o hf) qbb
  have hm8:MapR w8 (fun b' o'=>F b' o' ∧ b' < w7.heap.size) (some mb) u:=hm7.move hS8 (fun b o hf _=>hMF b o hf) (fun b' o' hf hl=>⟨hf,hl⟩)
  have hW8:WOk w8 Nil w8 [⟨b,o,[.map (some mb)],false⟩] []:=(WOk.start w8 Nil).start1 hat8 rfl rfl
  refine qad [0] kz (qbI [0] [] [0,1,37,38,39,40] hW8 hE20 (env':=[(0,.p 0 0),(1,.v (cloV fc cap)),(37,.v (.slice (some ⟨g,0,none⟩) u.length kc)),(38,.v (.int .i64 ((u.length:Nat):Int))),(39,.v (.int .i64 ((j:Nat):Int))),(40,.v (.bool (decide (((j:Nat):Int) < ((u.length:Nat):Int)))))]) kz rfl fun a18 hE21=>qae (qab (wp_seq ?_)))
  refine qaE hE21 (b:=decide (((j:Nat):Int) < ((u.length:Nat):Int))) kz (fun hc=>?_) (fun hc=>?_)
  ·have hlt:j < u.length:=by have:=of_decide_eq_true hc; omega
   refine wp_skip (qab (wp_seq (wp_block ?_)))
   obtain ⟨⟨k,x⟩,hu⟩:∃ y,u[j]? = some y:=⟨_,List.getElem?_eq_getElem hlt⟩
   have hmem:=List.mem_of_getElem? hu
   have hkr:=hm.range _ hmem
   have hcell:At w8 g (0 + j * 1) [.int .u32 k]:=by
    intro i v hi
    have hi0:i = 0:=by
     have:=(List.getElem?_eq_some_iff.1 hi).1
     simp at this; omega
    subst hi0
    simp only [List.getElem?_cons_zero,Option.some.injEq] at hi
    subst hi
    refine hS8.cell (fun hbm=>?_) ?_
    ·have:=hMlt _ _ hbm; omega
    have h1:=(hkeys j (by simpa using hlt)).1
    have h2:(u.map Prod.fst).toArray[j]! = k:=by
     rw [getElem!_pos _ j (by simpa using hlt)]
     have:(u.map Prod.fst)[j]? = some k:=by rw [List.getElem?_map,hu]; rfl
     simpa using (List.getElem?_eq_some_iff.1 this).2
    rw [h2] at h1
    simpa using h1
   refine qad [0,1,2] kz ?_
   refine qai (qat hE21 (t:=186) (e:=62) (size:=1) (bytes:=4) (d:=41) (b:=g) (o:=0) (m:=u.length) (j:=j) kz kz rfl rfl hlt fun a19 hE22=>?_)
   refine qai (qaK hE22 (t:=62) (d:=42) (cs:=[.int .u32 k]) (v:=.int .u32 k) kz kz hcell fun a20 hE23=>?_)
   refine qbI [2] [] [0,1,37,38,39,7] hW8 hE23 (env':=[(0,.p 0 0),(1,.v (cloV fc cap)),(37,.v (.slice (some ⟨g,0,none⟩) u.length kc)),(38,.v (.int .i64 ((u.length:Nat):Int))),(39,.v (.int .i64 ((j:Nat):Int))),(7,.v (.int .u32 k))]) kz rfl fun a21 hE24=>qae (qab ?_)
   refine qap [0,1,2,3,4,5,6,7,8] kz ?_
   refine qbI [0,1,2,3,4,5,6] [7,8] [0,1,37,38,39,43,44,48,49] hW8 hE24 (env':=[(0,.p 0 0),(1,.v (cloV fc cap)),(37,.v (.slice (some ⟨g,0,none⟩) u.length kc)),(38,.v (.int .i64 ((u.length:Nat):Int))),(39,.v (.int .i64 ((j:Nat):Int))),(43,.v (cloV fc cap)),(44,.v (.int .u32 k)),(48,.v (.map (some mb))),(49,.v (.int .u32 k))]) kz rfl fun a22 hE25=>?_
   refine qai (qh8 hE25 (t:=92) (kt:=62) (et:=22) (m:=some mb) (k:=k) (s:=x) (d:=50) kz kz kz hm8 hmem fun a23 Ax cx hox hE26=>?_)
   refine qai (qak hE26 (f:=fc) (vs:=[.int .u32 k,.slice Ax x.length cx,cap]) (d:=51) kz hcf (hI1 w7 hW7.step j k x w8 Ax cx hD hu hkr hox) ?_)
   rintro e_ w9 ⟨rfl,hD2⟩
   refine ⟨_,rfl,fun a24 hE27=>qae (qax (qab ?_))⟩
   have hS9:=hIs w7 (j + 1) w9 hD2
   have hat9:=hat7.move hS9 (fun b o hf _=>hMF b o hf) qbb
   have hW9:WOk w9 Nil w9 [⟨b,o,[.map (some mb)],false⟩] []:=(WOk.start w9 Nil).start1 hat9 rfl rfl
   refine qap [0,1] kz (qbI [0,1] [] [0,1,37,38,39] hW9 hE27 (env':=[(0,.p 0 0),(1,.v (cloV fc cap)),(37,.v (.slice (some ⟨g,0,none⟩) u.length kc)),(38,.v (.int .i64 ((u.length:Nat):Int))),(39,.v (.int .i64 (IntKind.i64.wrap (((j:Nat):Int) + 1))))]) kz rfl fun a25 hE28=>qae (qab ?_))
   rw [qa3 (by omega)] at hE28
   exact ⟨u.length - (j + 1),by omega,j + 1,rfl,by omega,hE28,hD2⟩
  obtain rfl:j = u.length:=by have:=of_decide_eq_false hc; omega
  refine wp_exit (qaw (qaw (qaT ?_)))
  exact qbF hE21 hW8.cells (v:=.tuple #[]) kz ⟨rfl,w7,hW7.step,hD⟩
 -- one more
 have hst6:Step w5 w6 Nil:=by
  rcases hw6 with rfl | rfl
  ·exact Step.refl _ _
  exact Step.drew _
 have hr6:w6.heap[R]? = some (.mapIter (some mb) clk seen c0):=hst6.heap (fun o h=>h) hr5
 have hW6:=hW5.next_nil hst6
 obtain ⟨hml,_⟩:=mem_left he
 obtain ⟨k,sx,Ax,cx,hk1,hk2,hk3,hk4⟩:=hcont e hml
 have hR6:R < w6.heap.size:=(Array.getElem?_eq_some_iff.1 hr6).1
 have hW7:WOk w Nil (setBlock w6 R (.mapIter (some mb) clk (seen.push e.born) clk)) [⟨b,o,[.map (some mb)],false⟩,⟨kb,0,[.slice K vis.length kc],true⟩] [⟨K,kc,62,1,vis.length,(vis.map fun e=>kOf e.key).map (Value.int .u32)⟩]:=by
  refine hW6.next (Step.setBlock w6 R _) (fun b' o' hb' hN=>by omega) (fun i ob hi j hj hN=>?_) (fun i q hi g' hg' o' hN=>?_)
  ·match i,hi with
   | 0,hi =>
    simp only [List.getElem?_cons_zero,Option.some.injEq] at hi; subst hi
    have:=World.lt_of_cell (hat 0 _ rfl).2
    simp only at hN; omega
   | 1,hi =>
    simp only [List.getElem?_cons_succ,List.getElem?_cons_zero,Option.some.injEq] at hi; subst hi
    exact hkbr hN
   | i + 2,hi=>simp at hi
  match i,hi with
  | 0,hi =>
   simp only [List.getElem?_cons_zero,Option.some.injEq] at hi; subst hi
   exact hKR (by rw [← hN]; exact hg')
  | i + 1,hi=>simp at hi
 have hr7:(setBlock w6 R (.mapIter (some mb) clk (seen.push e.born) clk)).heap[R]? = some (.mapIter (some mb) clk (seen.push e.born) clk):=qd8 hr6
 generalize hw7:setBlock w6 R (.mapIter (some mb) clk (seen.push e.born) clk) = w7 at hW7 hr7
 refine qbI [1] [] [0,1,4,24,26] hW7 hE13 (env':=[(0,.p 0 0),(1,.v (cloV fc cap)),(4,.p 1 0),(24,.v (.pointer (some ⟨R,0,none⟩))),(26,.v (.bool true))]) kz rfl fun a12 hE14=>qae (qab (wp_seq ?_))
 refine qaE hE14 (b:=true) kz (fun _=>?_) (fun hb=>by cases hb)
 refine wp_skip (qab (wp_block ?_))
 have hes7:=hW7.step.heap (fun o h=>h) hes
 refine qad [0,1,2] kz ?_
 refine qai (qhu hE14 (d:=27) (r:=R) kz hr7 hes7 hml hnod fun a13 hE15=>?_)
 rw [hk1] at hE15
 refine qbI [1,2] [] [0,1,4,24,5] hW7 hE15 (env':=[(0,.p 0 0),(1,.v (cloV fc cap)),(4,.p 1 0),(24,.v (.pointer (some ⟨R,0,none⟩))),(5,.v (.int .u32 k))]) kz rfl fun a14 hE16=>qae (qab ?_)
 refine qap [0,1,2,3,4] kz ?_
 refine qbI [0,1] [2,3,4] [0,1,4,24,29,30] hW7 hE16 (env':=[(0,.p 0 0),(1,.v (cloV fc cap)),(4,.p 1 0),(24,.v (.pointer (some ⟨R,0,none⟩))),(29,.v (.slice K vis.length kc)),(30,.v (.int .u32 k))]) kz rfl fun a15 hE17=>?_
 have hsh:=left_shrinks es seen e he
 refine qcx (t:=186) (e:=62) (size:=1) (bytes:=4) (len:=1) (cs:=[.int .u32 k]) (d1:=31) (d:=32) (k:=0) hW7 hE17 kz kz (fun _=>by kernel_rfl) rfl kz (by omega) fun K2 kc2 a16 w8 hF8 hW8 hE18=>?_
 obtain ⟨bl,hE18⟩:=hE18
 have hR7:R < w7.heap.size:=(Array.getElem?_eq_some_iff.1 hr7).1
 have hna:∀ {o'},¬ Act_ [⟨b,o,[.map (some mb)],false⟩,⟨kb,0,[.slice K vis.length kc],true⟩] [⟨K,kc,62,1,vis.length,(vis.map fun e=>kOf e.key).map (Value.int .u32)⟩] R o':=by
  rintro o' (⟨i,ob,hi,hrw,hb,_⟩ | ⟨i,q,hi,hq⟩)
  ·match i,hi with
   | 0,hi =>
    simp only [List.getElem?_cons_zero,Option.some.injEq] at hi; subst hi
    cases hrw
   | 1,hi =>
    simp only [List.getElem?_cons_succ,List.getElem?_cons_zero,Option.some.injEq] at hi; subst hi
    exact hkbr hb
   | i + 2,hi=>simp at hi
  match i,hi with
  | 0,hi =>
   simp only [List.getElem?_cons_zero,Option.some.injEq] at hi; subst hi
   exact hKR hq
  | i + 1,hi=>simp at hi
 have hK2:K2.map (·.block) ≠ some R:=fun hk=>by
  exact hF8.imm R 0 hR7 hna (.inr ⟨0,_,rfl,hk⟩)
 refine qai (qam hW8 hE18 (oi:=1) (cs:=[.slice K2 (vis.length + 1) kc2]) kz fun w9 hF9 hW9 hE19=>qae (qax (qab ?_)))
 have hr8:w9.heap[R]? = some (.mapIter (some mb) clk (seen.push e.born) clk) :=
  hF9.step.heap (fun o'=>hF8.imm R o' hR7 hna) (hF8.step.heap (fun o'=>hna) hr7)
 refine ⟨(leftOf es (seen.push e.born)).size,hsh,vis ++ [e],seen.push e.born,K2,kc2,clk,rfl,hv.push he,by rw [List.length_append,List.length_singleton]; omega,?_,?_,hr8,Nat.le_refl _,hK2⟩
 ·rw [List.length_append,List.length_singleton]
  exact hE19.pick (ks:=[0,1,4,24]) kz
 rw [List.length_append,List.length_singleton,List.map_append,List.map_append,List.map_cons,List.map_cons,hk1]
 exact hW9
end Go.Proofs.YtcbpjflgkefidaaGreatDoor.ME