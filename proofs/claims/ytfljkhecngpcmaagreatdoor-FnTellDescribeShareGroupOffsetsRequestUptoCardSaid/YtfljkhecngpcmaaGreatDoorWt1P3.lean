/- The texts of a claim, put together: the engine, the contracts, the law. Own work. -/
import Derived.Test.YtfljkhecngpcmaaGreatDoorWt1P2
import Derived.Test.YtfljkhecngpcmaaGreatDoorProg
import Derived.Deep.LoopGhost
namespace Go.Proofs.YtfljkhecngpcmaaGreatDoor.ME
open Go
open Go.RowKit
set_option linter.unusedVariables false
set_option linter.unusedSimpArgs false
set_option maxRecDepth 20000
theorem qlK {A:Option Addr} {c:Nat} (s:Bs) {w:World} {F:Nat → Nat → Prop} (ho:Octs w F A c s) (hl:2 ≤ s.length) :
  Calls Tryz.prog 127 #[.agg #[],.slice A s.length c] w (qci w (.int .u16 (be16 s))):=by
 refine enter (n:=18) Tryz.func127 rfl Tryz.ntmps127 kz fun a hE=>?_
 have hW:=WOk.start w Nil
 have ob0:=qcc s 0
 have ob1:=qcc s 1
 refine qad [0,1] kz ?_
 refine qal (qbj hW hE (d:=2) (cs:=[]) kz fun b1 a2 w3 hb4 hz5 hF6 hW7 hE8=>?_)
 refine qaj [1] [] [(1,.v (.slice A s.length c))] hW7 hE8 fun a9 af=>?_
 refine qae (qab ?_)
 refine qad [0,1,2] kz ?_
 refine qaj [0] [1,2] [(1,.v (.slice A s.length c)),(5,.v (.slice A s.length c))] hW7 af fun aC ag=>?_
 obtain ⟨av,aw,ac,ax,ab⟩:=Slots.get ho (i:=1) (by omega)
 refine qal (qaA ag (t:=22) (A:=A) (m:=s.length) (q:=1) (d:=6) kz (e:=5) (size:=1) (bytes:=1) (j:=1) kz ac rfl (by omega) fun aD ah=>?_)
 refine qal (qaR ah (t:=5) (b:=av) (o:=aw + 1 * 1) (d:=7) kz (cs:=[.int .u8 ((s.getD 1 0).toNat:Int)]) (v:=.int .u8 ((s.getD 1 0).toNat:Int)) kz (AtF.move ab hW7.step nilM qbb).at_ fun aE ai=>?_)
 refine qae (qab ?_)
 refine qb4 kz hW7 fun aF ay aa=>?_
 refine qaE [0,4] [(8,.v (.slice A s.length c)),(12,.v (.slice A s.length c))] 9 (qaa qaf) (fun _ h=>h ▸ aa.cells) rfl ai fun aG aj=>?_
 refine qaQ aj (i:=1) (t:=22) (A:=A) (m:=s.length) (q:=1) (d:=9) kz (e:=5) (size:=1) (bytes:=1) (j:=1) kz ac rfl (by omega) kz kz (qaa qaf) rfl fun aH ak=>?_
 refine qa8 ak (i:=2) (t:=5) (b:=av) (o:=aw + 1 * 1) (d:=10) kz (cs:=[.int .u8 ((s.getD 1 0).toNat:Int)]) (v:=.int .u8 ((s.getD 1 0).toNat:Int)) kz (fun w' h'=>h' ▸ (AtF.move ab aa.step nilM qbb).at_) kz kz (qaa qaf) rfl fun aI al=>?_
 refine qaE [3] [(11,.v (.int .u16 (IntKind.u16.wrap ((s.getD 1 0).toNat:Int)))),(12,.v (.slice A s.length c))] 6 (qaa qaf) (fun _ h=>h ▸ aa.cells) rfl al fun aJ am=>?_
 obtain ⟨az,aA,ao,aB,ae⟩:=Slots.get ho (i:=0) (by omega)
 refine qaQ am (i:=5) (t:=22) (A:=A) (m:=s.length) (q:=0) (d:=13) kz (e:=5) (size:=1) (bytes:=1) (j:=0) kz ao rfl (by omega) kz kz (qaa qaf) rfl fun aK ap=>?_
 refine qa8 ap (i:=6) (t:=5) (b:=az) (o:=aA + 0 * 1) (d:=14) kz (cs:=[.int .u8 ((s.getD 0 0).toNat:Int)]) (v:=.int .u8 ((s.getD 0 0).toNat:Int)) kz (fun w' h'=>h' ▸ (AtF.move ae aa.step nilM qbb).at_) kz kz (qaa qaf) rfl fun aL ar=>?_
 refine qaE [7,8,9,10] [(4,.v (.int .u16 (IntKind.u16.wrap (BitVec.ofInt 16 (IntKind.u16.wrap ((s.getD 1 0).toNat:Int)) ||| BitVec.ofInt 16 (IntKind.u16.wrap ((IntKind.u16.wrap ((s.getD 0 0).toNat:Int)) * 256))).toNat)))] 0 (qaa qaf) (fun _ h=>h ▸ aa.cells) rfl ar fun aM au=>?_
 refine qaC kz ?_ _
 refine qab ?_
 refine wp_ret ?_
 refine qaK au aa.cells (v:=.int .u16 (IntKind.u16.wrap (BitVec.ofInt 16 (IntKind.u16.wrap ((s.getD 1 0).toNat:Int)) ||| BitVec.ofInt 16 (IntKind.u16.wrap ((IntKind.u16.wrap ((s.getD 0 0).toNat:Int)) * 256))).toNat)) kz ?_
 exact ⟨congrArg Ending.returned (congrArg (Value.int IntKind.u16) (qln (oc s 0) (oc s 1) ob0 ob1)),aa.step⟩
theorem qlL {A:Option Addr} {c:Nat} (s:Bs) {w:World} {F:Nat → Nat → Prop} (ho:Octs w F A c s) (hl:4 ≤ s.length) :
  Calls Tryz.prog 126 #[.agg #[],.slice A s.length c] w (qci w (.int .u32 (be32 s))):=by
 refine enter (n:=30) Tryz.func126 rfl Tryz.ntmps126 kz fun a hE=>?_
 have hW:=WOk.start w Nil
 have ob0:=qcc s 0
 have ob1:=qcc s 1
 have ob2:=qcc s 2
 have ob3:=qcc s 3
 refine qad [0,1] kz ?_
 refine qal (qbj hW hE (d:=2) (cs:=[]) kz fun b1 a2 w3 hb4 hz5 hF6 hW7 hE8=>?_)
 refine qaj [1] [] [(1,.v (.slice A s.length c))] hW7 hE8 fun a9 ah=>?_
 refine qae (qab ?_)
 refine qad [0,1,2] kz ?_
 refine qaj [0] [1,2] [(1,.v (.slice A s.length c)),(5,.v (.slice A s.length c))] hW7 ah fun aS ai=>?_
 obtain ⟨aF,aG,ac,aH,ab⟩:=Slots.get ho (i:=3) (by omega)
 refine qal (qaA ai (t:=22) (A:=A) (m:=s.length) (q:=3) (d:=6) kz (e:=5) (size:=1) (bytes:=1) (j:=3) kz ac rfl (by omega) fun aT aj=>?_)
 refine qal (qaR aj (t:=5) (b:=aF) (o:=aG + 3 * 1) (d:=7) kz (cs:=[.int .u8 ((s.getD 3 0).toNat:Int)]) (v:=.int .u8 ((s.getD 3 0).toNat:Int)) kz (AtF.move ab hW7.step nilM qbb).at_ fun aU ak=>?_)
 refine qae (qab ?_)
 refine qb4 kz hW7 fun aV aI aa=>?_
 refine qaE [0,4,10,16] [(8,.v (.slice A s.length c)),(12,.v (.slice A s.length c)),(18,.v (.slice A s.length c)),(24,.v (.slice A s.length c))] 19 (qaa qaf) (fun _ h=>h ▸ aa.cells) rfl ak fun aW al=>?_
 refine qaQ al (i:=1) (t:=22) (A:=A) (m:=s.length) (q:=3) (d:=9) kz (e:=5) (size:=1) (bytes:=1) (j:=3) kz ac rfl (by omega) kz kz (qaa qaf) rfl fun aX am=>?_
 refine qa8 am (i:=2) (t:=5) (b:=aF) (o:=aG + 3 * 1) (d:=10) kz (cs:=[.int .u8 ((s.getD 3 0).toNat:Int)]) (v:=.int .u8 ((s.getD 3 0).toNat:Int)) kz (fun w' h'=>h' ▸ (AtF.move ab aa.step nilM qbb).at_) kz kz (qaa qaf) rfl fun aY ao=>?_
 refine qaE [3] [(11,.v (.int .u32 (IntKind.u32.wrap ((s.getD 3 0).toNat:Int)))),(12,.v (.slice A s.length c)),(18,.v (.slice A s.length c)),(24,.v (.slice A s.length c))] 16 (qaa qaf) (fun _ h=>h ▸ aa.cells) rfl ao fun aZ ap=>?_
 obtain ⟨aJ,aK,ar,aL,ae⟩:=Slots.get ho (i:=2) (by omega)
 refine qaQ ap (i:=5) (t:=22) (A:=A) (m:=s.length) (q:=2) (d:=13) kz (e:=5) (size:=1) (bytes:=1) (j:=2) kz ar rfl (by omega) kz kz (qaa qaf) rfl fun ba au=>?_
 refine qa8 au (i:=6) (t:=5) (b:=aJ) (o:=aK + 2 * 1) (d:=14) kz (cs:=[.int .u8 ((s.getD 2 0).toNat:Int)]) (v:=.int .u8 ((s.getD 2 0).toNat:Int)) kz (fun w' h'=>h' ▸ (AtF.move ae aa.step nilM qbb).at_) kz kz (qaa qaf) rfl fun bd av=>?_
 refine qaE [7,8,9] [(17,.v (.int .u32 (IntKind.u32.wrap (BitVec.ofInt 32 (IntKind.u32.wrap ((s.getD 3 0).toNat:Int)) ||| BitVec.ofInt 32 (IntKind.u32.wrap ((IntKind.u32.wrap ((s.getD 2 0).toNat:Int)) * 256))).toNat))),(18,.v (.slice A s.length c)),(24,.v (.slice A s.length c))] 11 (qaa qaf) (fun _ h=>h ▸ aa.cells) rfl av fun bf aw=>?_
 obtain ⟨aM,aN,ax,aO,af⟩:=Slots.get ho (i:=1) (by omega)
 refine qaQ aw (i:=11) (t:=22) (A:=A) (m:=s.length) (q:=1) (d:=19) kz (e:=5) (size:=1) (bytes:=1) (j:=1) kz ax rfl (by omega) kz kz (qaa qaf) rfl fun bg ay=>?_
 refine qa8 ay (i:=12) (t:=5) (b:=aM) (o:=aN + 1 * 1) (d:=20) kz (cs:=[.int .u8 ((s.getD 1 0).toNat:Int)]) (v:=.int .u8 ((s.getD 1 0).toNat:Int)) kz (fun w' h'=>h' ▸ (AtF.move af aa.step nilM qbb).at_) kz kz (qaa qaf) rfl fun bh az=>?_
 refine qaE [13,14,15] [(23,.v (.int .u32 (IntKind.u32.wrap (BitVec.ofInt 32 (IntKind.u32.wrap (BitVec.ofInt 32 (IntKind.u32.wrap ((s.getD 3 0).toNat:Int)) ||| BitVec.ofInt 32 (IntKind.u32.wrap ((IntKind.u32.wrap ((s.getD 2 0).toNat:Int)) * 256))).toNat) ||| BitVec.ofInt 32 (IntKind.u32.wrap ((IntKind.u32.wrap ((s.getD 1 0).toNat:Int)) * 65536))).toNat))),(24,.v (.slice A s.length c))] 6 (qaa qaf) (fun _ h=>h ▸ aa.cells) rfl az fun bi aA=>?_
 obtain ⟨aP,aQ,aB,aR,ag⟩:=Slots.get ho (i:=0) (by omega)
 refine qaQ aA (i:=17) (t:=22) (A:=A) (m:=s.length) (q:=0) (d:=25) kz (e:=5) (size:=1) (bytes:=1) (j:=0) kz aB rfl (by omega) kz kz (qaa qaf) rfl fun bj aC=>?_
 refine qa8 aC (i:=18) (t:=5) (b:=aP) (o:=aQ + 0 * 1) (d:=26) kz (cs:=[.int .u8 ((s.getD 0 0).toNat:Int)]) (v:=.int .u8 ((s.getD 0 0).toNat:Int)) kz (fun w' h'=>h' ▸ (AtF.move ag aa.step nilM qbb).at_) kz kz (qaa qaf) rfl fun bk aD=>?_
 refine qaE [19,20,21,22] [(4,.v (.int .u32 (IntKind.u32.wrap (BitVec.ofInt 32 (IntKind.u32.wrap (BitVec.ofInt 32 (IntKind.u32.wrap (BitVec.ofInt 32 (IntKind.u32.wrap ((s.getD 3 0).toNat:Int)) ||| BitVec.ofInt 32 (IntKind.u32.wrap ((IntKind.u32.wrap ((s.getD 2 0).toNat:Int)) * 256))).toNat) ||| BitVec.ofInt 32 (IntKind.u32.wrap ((IntKind.u32.wrap ((s.getD 1 0).toNat:Int)) * 65536))).toNat) ||| BitVec.ofInt 32 (IntKind.u32.wrap ((IntKind.u32.wrap ((s.getD 0 0).toNat:Int)) * 16777216))).toNat)))] 0 (qaa qaf) (fun _ h=>h ▸ aa.cells) rfl aD fun bn aE=>?_
 refine qaC kz ?_ _
 refine qab ?_
 refine wp_ret ?_
 refine qaK aE aa.cells (v:=.int .u32 (IntKind.u32.wrap (BitVec.ofInt 32 (IntKind.u32.wrap (BitVec.ofInt 32 (IntKind.u32.wrap (BitVec.ofInt 32 (IntKind.u32.wrap ((s.getD 3 0).toNat:Int)) ||| BitVec.ofInt 32 (IntKind.u32.wrap ((IntKind.u32.wrap ((s.getD 2 0).toNat:Int)) * 256))).toNat) ||| BitVec.ofInt 32 (IntKind.u32.wrap ((IntKind.u32.wrap ((s.getD 1 0).toNat:Int)) * 65536))).toNat) ||| BitVec.ofInt 32 (IntKind.u32.wrap ((IntKind.u32.wrap ((s.getD 0 0).toNat:Int)) * 16777216))).toNat)) kz ?_
 exact ⟨congrArg Ending.returned (congrArg (Value.int IntKind.u32) (qlo (oc s 0) (oc s 1) (oc s 2) (oc s 3) ob0 ob1 ob2 ob3)),aa.step⟩
theorem qlr (x:Int) (rest:Bs)  {br:Nat} {A:Option Addr} {m c:Nat} {w:World} {F:Nat → Nat → Prop} (hst:Str w br [.slice A m c,.bool false]) (hr:RdS w F A m c (be 2 x ++ rest)) (hFd:∀ b o,F b o → ¬ RdM br b o) :
  Calls Tryz.prog 92 #[.pointer (some ⟨br,0,none⟩)] w (RdPost w br F rest fun v w'=>v = .int .i16 (IntKind.i16.wrap x)):=by
 obtain ⟨hm,ho⟩:=hr
 subst hm
 have hle:=ho.le
 refine enter (n:=32) Tryz.func92 rfl Tryz.ntmps92 kz fun a hE=>?_
 have hW:WOk w (RdM br) w [⟨br,0,[.slice A ((be 2 x ++ rest).length) c,.bool false],true⟩] []:=WOk.startStr hst
 have hE1:=(hE.grow ⟨br,0,[.slice A ((be 2 x ++ rest).length) c,.bool false],true⟩).recast 0 (.v (.pointer (some ⟨br,0,none⟩))) (.p 0 0) rfl rfl (Nat.le_of_ble_eq_true (n:=1) rfl)
 refine qap [(0,.p 0 0)] hW hE1 fun a1 hE2=>?_
 refine wp_seq ?_
 refine qap [(0,.p 0 0),(9,.v (.bool (decide ((((be 2 x ++ rest).length:Nat):Int) < 2))))] hW hE2 fun a3 hE4=>?_
 refine qao hE4 (b:=decide ((((be 2 x ++ rest).length:Nat):Int) < 2)) kz (decide_eq_false (by first | omega | (simp only [List.length_append,be_length,List.length_cons,List.length_nil] at *; omega))) ?_
 refine wp_skip ?_
 refine qab ?_
 refine qaI 7 kz hW fun w5 hF6 hW7 hT8=>?_
 refine qaE [1,2,3,4] [(0,.p 0 0),(20,.v (.slice A ((be 2 x ++ rest).length) c))] 4 (qaa qaf) (fun _ h=>h.cells) hT8 hE4 fun a9 af=>?_
 refine qa8 af (i:=0) (t:=167) (b:=0) (o:=0) (d:=16) kz (cs:=[]) (v:=.agg #[]) kz (fun w' h'=>(fun j_ v_ h_=>by simp at h_)) kz kz (qaa qaf) hT8 fun av ag=>?_
 refine qas (i:=5) kz (qak ag (f:=127) (vs:=[.agg #[],.slice A ((be 2 x ++ rest).length) c]) (d:=21) kz Tryz.call127 (qlK _ (ho.move hW7.step (fun b_ o_ h_ _=>hFd b_ o_ h_) (hW7.immM hFd)) (by first | omega | (simp only [List.length_append,be_length,List.length_cons,List.length_nil] at *; omega))) ?_)
 rintro e_ aw ⟨rfl,ac⟩
 refine ⟨_,rfl,fun ax ah=>?_⟩
 have aa:=hW7.next_nil ac
 have ai:=hW7.frN ac
 have ae:=TT.ofW ai aa
 refine ⟨fun _=>ae,?_⟩
 refine qaE [6] [(0,.p 0 0),(22,.v (.int .i16 (IntKind.i16.wrap (be16 (be 2 x ++ rest)))))] 1 (qaa qaf) (fun _ h=>h.cells) ae ah fun ay aj=>?_
 refine qas (i:=7) kz (qbe [0,3] aa.cells aj (env':=[(0,.p 0 0),(3,.v (.int .i16 (IntKind.i16.wrap (be16 (be 2 x ++ rest)))))]) kz fun az ak=>?_)
 refine ⟨fun h=>absurd rfl h,?_⟩
 refine qaC kz ?_ _
 refine qab ?_
 refine qad [0,1,2,3,4,5,6,7,8] kz ?_
 refine qaj [0,1,2,3,4] [5,6,7,8] [(3,.v (.int .i16 (IntKind.i16.wrap (be16 (be 2 x ++ rest))))),(23,.p 0 0),(27,.v (.slice A ((be 2 x ++ rest).length) c))] aa ak fun aA al=>?_
 refine qal (qdh al (t:=22) (A:=A) (m:=((be 2 x ++ rest).length)) (cp:=c) (q:=2) (d:=28) (j:=2) kz (e:=5) (bytes:=1) kz (rfl) (by first | omega | (simp only [List.length_append,be_length,List.length_cons,List.length_nil] at *; omega)) fun aB am=>?_)
 refine qaj [6,7] [8] [(3,.v (.int .i16 (IntKind.i16.wrap (be16 (be 2 x ++ rest))))),(28,.v (.slice (cutA A c 2) (((be 2 x ++ rest).length) - 2) (c - 2))),(30,.p 0 0)] aa am fun aC ao=>?_
 refine qal (qau aa ao (oi:=0) (cs:=[.slice (cutA A c 2) (((be 2 x ++ rest).length) - 2) (c - 2),.bool false]) kz fun aD au ab ap=>?_)
 refine qae (qab ?_)
 refine qap [(2,.v (.int .i16 (IntKind.i16.wrap (be16 (be 2 x ++ rest)))))] ab ap fun aE ar=>?_
 refine wp_ret ?_
 refine qaK ar ab.cells (v:=.int .i16 (IntKind.i16.wrap (be16 (be 2 x ++ rest)))) kz ?_
 exact ⟨_,_,_,_,rfl,Str.of ab 0 rfl,RdS.drop (s:=be 2 x) ⟨rfl,ho.move ab.step (fun b_ o_ h_ _=>hFd b_ o_ h_) qbb⟩ (by simp only [be_length,List.length_cons,List.length_nil]),ab.step,by rw [qkS,qkU]⟩
theorem qko (x:Int) (rest:Bs)  {br:Nat} {A:Option Addr} {m c:Nat} {w:World} {F:Nat → Nat → Prop} (hst:Str w br [.slice A m c,.bool false]) (hr:RdS w F A m c (be 4 x ++ rest)) (hFd:∀ b o,F b o → ¬ RdM br b o) :
  Calls Tryz.prog 91 #[.pointer (some ⟨br,0,none⟩)] w (RdPost w br F rest fun v w'=>v = .int .i32 (IntKind.i32.wrap x)):=by
 obtain ⟨hm,ho⟩:=hr
 subst hm
 have hle:=ho.le
 refine enter (n:=32) Tryz.func91 rfl Tryz.ntmps91 kz fun a hE=>?_
 have hW:WOk w (RdM br) w [⟨br,0,[.slice A ((be 4 x ++ rest).length) c,.bool false],true⟩] []:=WOk.startStr hst
 have hE1:=(hE.grow ⟨br,0,[.slice A ((be 4 x ++ rest).length) c,.bool false],true⟩).recast 0 (.v (.pointer (some ⟨br,0,none⟩))) (.p 0 0) rfl rfl (Nat.le_of_ble_eq_true (n:=1) rfl)
 refine qap [(0,.p 0 0)] hW hE1 fun a1 hE2=>?_
 refine wp_seq ?_
 refine qap [(0,.p 0 0),(9,.v (.bool (decide ((((be 4 x ++ rest).length:Nat):Int) < 4))))] hW hE2 fun a3 hE4=>?_
 refine qao hE4 (b:=decide ((((be 4 x ++ rest).length:Nat):Int) < 4)) kz (decide_eq_false (by first | omega | (simp only [List.length_append,be_length,List.length_cons,List.length_nil] at *; omega))) ?_
 refine wp_skip ?_
 refine qab ?_
 refine qaI 7 kz hW fun w5 hF6 hW7 hT8=>?_
 refine qaE [1,2,3,4] [(0,.p 0 0),(20,.v (.slice A ((be 4 x ++ rest).length) c))] 4 (qaa qaf) (fun _ h=>h.cells) hT8 hE4 fun a9 af=>?_
 refine qa8 af (i:=0) (t:=167) (b:=0) (o:=0) (d:=16) kz (cs:=[]) (v:=.agg #[]) kz (fun w' h'=>(fun j_ v_ h_=>by simp at h_)) kz kz (qaa qaf) hT8 fun av ag=>?_
 refine qas (i:=5) kz (qak ag (f:=126) (vs:=[.agg #[],.slice A ((be 4 x ++ rest).length) c]) (d:=21) kz Tryz.call126 (qlL _ (ho.move hW7.step (fun b_ o_ h_ _=>hFd b_ o_ h_) (hW7.immM hFd)) (by first | omega | (simp only [List.length_append,be_length,List.length_cons,List.length_nil] at *; omega))) ?_)
 rintro e_ aw ⟨rfl,ac⟩
 refine ⟨_,rfl,fun ax ah=>?_⟩
 have aa:=hW7.next_nil ac
 have ai:=hW7.frN ac
 have ae:=TT.ofW ai aa
 refine ⟨fun _=>ae,?_⟩
 refine qaE [6] [(0,.p 0 0),(22,.v (.int .i32 (IntKind.i32.wrap (be32 (be 4 x ++ rest)))))] 1 (qaa qaf) (fun _ h=>h.cells) ae ah fun ay aj=>?_
 refine qas (i:=7) kz (qbe [0,3] aa.cells aj (env':=[(0,.p 0 0),(3,.v (.int .i32 (IntKind.i32.wrap (be32 (be 4 x ++ rest)))))]) kz fun az ak=>?_)
 refine ⟨fun h=>absurd rfl h,?_⟩
 refine qaC kz ?_ _
 refine qab ?_
 refine qad [0,1,2,3,4,5,6,7,8] kz ?_
 refine qaj [0,1,2,3,4] [5,6,7,8] [(3,.v (.int .i32 (IntKind.i32.wrap (be32 (be 4 x ++ rest))))),(23,.p 0 0),(27,.v (.slice A ((be 4 x ++ rest).length) c))] aa ak fun aA al=>?_
 refine qal (qdh al (t:=22) (A:=A) (m:=((be 4 x ++ rest).length)) (cp:=c) (q:=4) (d:=28) (j:=4) kz (e:=5) (bytes:=1) kz (rfl) (by first | omega | (simp only [List.length_append,be_length,List.length_cons,List.length_nil] at *; omega)) fun aB am=>?_)
 refine qaj [6,7] [8] [(3,.v (.int .i32 (IntKind.i32.wrap (be32 (be 4 x ++ rest))))),(28,.v (.slice (cutA A c 4) (((be 4 x ++ rest).length) - 4) (c - 4))),(30,.p 0 0)] aa am fun aC ao=>?_
 refine qal (qau aa ao (oi:=0) (cs:=[.slice (cutA A c 4) (((be 4 x ++ rest).length) - 4) (c - 4),.bool false]) kz fun aD au ab ap=>?_)
 refine qae (qab ?_)
 refine qap [(2,.v (.int .i32 (IntKind.i32.wrap (be32 (be 4 x ++ rest)))))] ab ap fun aE ar=>?_
 refine wp_ret ?_
 refine qaK ar ab.cells (v:=.int .i32 (IntKind.i32.wrap (be32 (be 4 x ++ rest)))) kz ?_
 exact ⟨_,_,_,_,rfl,Str.of ab 0 rfl,RdS.drop (s:=be 4 x) ⟨rfl,ho.move ab.step (fun b_ o_ h_ _=>hFd b_ o_ h_) qbb⟩ (by simp only [be_length,List.length_cons,List.length_nil]),ab.step,by rw [qkT,qkV]⟩
theorem rUv1 {A:Option Addr} {c:Nat} (s:Bs) {w:World} {F:Nat → Nat → Prop} (ho:Octs w F A c s) (hl:1 ≤ s.length) (d0:Nat) (h0:oc s 0 = d0) (g0:d0 < 128) :
  Calls Tryz.prog 141 #[.slice A s.length c] w (qci w (.tuple #[.int .u32 ((d0:Nat):Int),.int .i64 1])):=by
 refine enter (n:=87) Tryz.func141 rfl Tryz.ntmps141 kz fun a hE=>?_
 have hW:=WOk.start w Nil
 refine qap [(0,.v (.slice A s.length c))] hW hE fun a1 hE2=>?_
 refine wp_scope_straight ?_
 refine qap [(0,.v (.slice A s.length c))] hW hE2 fun a3 hE4=>?_
 refine qap [(0,.v (.slice A s.length c))] hW hE4 fun a5 hE6=>?_
 refine wp_seq ?_
 refine qap [(0,.v (.slice A s.length c)),(8,.v (.bool (decide (((s.length:Nat):Int) < 1))))] hW hE6 fun a7 hE8=>?_
 refine qao hE8 (b:=decide (((s.length:Nat):Int) < 1)) kz (decide_eq_false (by omega)) ?_
 refine wp_skip ?_
 refine qab ?_
 refine qad [0,1,2,3,4,5] kz ?_
 refine qaj [0] [1,2,3,4,5] [(0,.v (.slice A s.length c)),(9,.v (.slice A s.length c))] hW hE8 fun a9 ae=>?_
 obtain ⟨am,ao,ab,ap,aa⟩:=Slots.get ho (i:=0) (by first | omega | (simp only [List.length_append,be_length,List.length_cons,List.length_nil] at *; omega))
 refine qal (qaA ae (t:=22) (A:=A) (m:=s.length) (q:=0) (d:=10) kz (e:=5) (size:=1) (bytes:=1) (j:=0) kz ab rfl (by first | omega | (simp only [List.length_append,be_length,List.length_cons,List.length_nil] at *; omega)) fun ar af=>?_)
 refine qal (qaR af (t:=5) (b:=am) (o:=ao + 0 * 1) (d:=11) kz (cs:=[.int .u8 ((s.getD 0 0).toNat:Int)]) (v:=.int .u8 ((s.getD 0 0).toNat:Int)) kz (AtF.move aa hW.step nilM qbb).at_ fun au ag=>?_)
 refine qaj [3,4,5] [] [(0,.v (.slice A s.length c)),(4,.v (.int .u32 (IntKind.u32.wrap (IntKind.u8.wrap (BitVec.ofInt 8 ((s.getD 0 0).toNat:Int) &&& BitVec.ofInt 8 127).toNat))))] hW ag fun av ah=>?_
 refine qae (qab ?_)
 refine wp_seq ?_
 refine qad [0,1,2,3,4] kz ?_
 refine qaj [0] [1,2,3,4] [(0,.v (.slice A s.length c)),(4,.v (.int .u32 (IntKind.u32.wrap (IntKind.u8.wrap (BitVec.ofInt 8 ((s.getD 0 0).toNat:Int) &&& BitVec.ofInt 8 127).toNat)))),(14,.v (.slice A s.length c))] hW ah fun aw ai=>?_
 refine qal (qaA ai (t:=22) (A:=A) (m:=s.length) (q:=0) (d:=15) kz (e:=5) (size:=1) (bytes:=1) (j:=0) kz ab rfl (by first | omega | (simp only [List.length_append,be_length,List.length_cons,List.length_nil] at *; omega)) fun ax aj=>?_)
 refine qal (qaR aj (t:=5) (b:=am) (o:=ao + 0 * 1) (d:=16) kz (cs:=[.int .u8 ((s.getD 0 0).toNat:Int)]) (v:=.int .u8 ((s.getD 0 0).toNat:Int)) kz (AtF.move aa hW.step nilM qbb).at_ fun ay ak=>?_)
 refine qaj [3,4] [] [(0,.v (.slice A s.length c)),(4,.v (.int .u32 (IntKind.u32.wrap (IntKind.u8.wrap (BitVec.ofInt 8 ((s.getD 0 0).toNat:Int) &&& BitVec.ofInt 8 127).toNat)))),(18,.v (.bool ((IntKind.u8.wrap (BitVec.ofInt 8 ((s.getD 0 0).toNat:Int) &&& BitVec.ofInt 8 128).toNat) == 0)))] hW ak fun az ac=>?_
 refine qae (qab ?_)
 refine qa7 ac (b:=(IntKind.u8.wrap (BitVec.ofInt 8 ((s.getD 0 0).toNat:Int) &&& BitVec.ofInt 8 128).toNat) == 0) kz ((qc0 _ (qcc s 0)).trans (decide_eq_true (by have:=h0; unfold oc at this; omega))) ?_
 refine qap [(2,.v (.int .u32 (IntKind.u32.wrap (IntKind.u8.wrap (BitVec.ofInt 8 ((s.getD 0 0).toNat:Int) &&& BitVec.ofInt 8 127).toNat)))),(3,.v (.int .i64 1))] hW ac fun aA al=>?_
 refine wp_ret ?_
 refine qan ?_
 refine qdt ?_
 refine qaK al hW.cells (v:=.tuple #[.int .u32 (IntKind.u32.wrap (IntKind.u8.wrap (BitVec.ofInt 8 ((s.getD 0 0).toNat:Int) &&& BitVec.ofInt 8 127).toNat)),.int .i64 1]) kz ?_
 have e_:=uv_1 (oc s 0) (qcc s 0)
 refine ⟨congrArg (fun z_:Int=>Ending.returned (.tuple #[.int .u32 z_,.int .i64 1])) (Eq.trans e_ ?_),hW.step⟩
 omega
theorem rUv2 {A:Option Addr} {c:Nat} (s:Bs) {w:World} {F:Nat → Nat → Prop} (ho:Octs w F A c s) (hl:2 ≤ s.length) (d0 d1:Nat) (h0:oc s 0 = d0 + 128) (h1:oc s 1 = d1) (g0:d0 < 128) (g1:d1 < 128) :
  Calls Tryz.prog 141 #[.slice A s.length c] w (qci w (.tuple #[.int .u32 ((d0 + d1 * 128:Nat):Int),.int .i64 2])):=by
 refine enter (n:=87) Tryz.func141 rfl Tryz.ntmps141 kz fun a hE=>?_
 have hW:=WOk.start w Nil
 refine qap [(0,.v (.slice A s.length c))] hW hE fun a1 hE2=>?_
 refine wp_scope_straight ?_
 refine qap [(0,.v (.slice A s.length c))] hW hE2 fun a3 hE4=>?_
 refine qap [(0,.v (.slice A s.length c))] hW hE4 fun a5 hE6=>?_
 refine wp_seq ?_
 refine qap [(0,.v (.slice A s.length c)),(8,.v (.bool (decide (((s.length:Nat):Int) < 1))))] hW hE6 fun a7 hE8=>?_
 refine qao hE8 (b:=decide (((s.length:Nat):Int) < 1)) kz (decide_eq_false (by omega)) ?_
 refine wp_skip ?_
 refine qab ?_
 refine qad [0,1,2,3,4,5] kz ?_
 refine qaj [0] [1,2,3,4,5] [(0,.v (.slice A s.length c)),(9,.v (.slice A s.length c))] hW hE8 fun a9 ai=>?_
 obtain ⟨aB,aC,ac,aF,aa⟩:=Slots.get ho (i:=0) (by first | omega | (simp only [List.length_append,be_length,List.length_cons,List.length_nil] at *; omega))
 refine qal (qaA ai (t:=22) (A:=A) (m:=s.length) (q:=0) (d:=10) kz (e:=5) (size:=1) (bytes:=1) (j:=0) kz ac rfl (by first | omega | (simp only [List.length_append,be_length,List.length_cons,List.length_nil] at *; omega)) fun aH aj=>?_)
 refine qal (qaR aj (t:=5) (b:=aB) (o:=aC + 0 * 1) (d:=11) kz (cs:=[.int .u8 ((s.getD 0 0).toNat:Int)]) (v:=.int .u8 ((s.getD 0 0).toNat:Int)) kz (AtF.move aa hW.step nilM qbb).at_ fun aI ak=>?_)
 refine qaj [3,4,5] [] [(0,.v (.slice A s.length c)),(4,.v (.int .u32 (IntKind.u32.wrap (IntKind.u8.wrap (BitVec.ofInt 8 ((s.getD 0 0).toNat:Int) &&& BitVec.ofInt 8 127).toNat))))] hW ak fun aJ al=>?_
 refine qae (qab ?_)
 refine wp_seq ?_
 refine qad [0,1,2,3,4] kz ?_
 refine qaj [0] [1,2,3,4] [(0,.v (.slice A s.length c)),(4,.v (.int .u32 (IntKind.u32.wrap (IntKind.u8.wrap (BitVec.ofInt 8 ((s.getD 0 0).toNat:Int) &&& BitVec.ofInt 8 127).toNat)))),(14,.v (.slice A s.length c))] hW al fun aK am=>?_
 refine qal (qaA am (t:=22) (A:=A) (m:=s.length) (q:=0) (d:=15) kz (e:=5) (size:=1) (bytes:=1) (j:=0) kz ac rfl (by first | omega | (simp only [List.length_append,be_length,List.length_cons,List.length_nil] at *; omega)) fun aL ao=>?_)
 refine qal (qaR ao (t:=5) (b:=aB) (o:=aC + 0 * 1) (d:=16) kz (cs:=[.int .u8 ((s.getD 0 0).toNat:Int)]) (v:=.int .u8 ((s.getD 0 0).toNat:Int)) kz (AtF.move aa hW.step nilM qbb).at_ fun aM ap=>?_)
 refine qaj [3,4] [] [(0,.v (.slice A s.length c)),(4,.v (.int .u32 (IntKind.u32.wrap (IntKind.u8.wrap (BitVec.ofInt 8 ((s.getD 0 0).toNat:Int) &&& BitVec.ofInt 8 127).toNat)))),(18,.v (.bool ((IntKind.u8.wrap (BitVec.ofInt 8 ((s.getD 0 0).toNat:Int) &&& BitVec.ofInt 8 128).toNat) == 0)))] hW ap fun aN ae=>?_
 refine qae (qab ?_)
 refine qao ae (b:=(IntKind.u8.wrap (BitVec.ofInt 8 ((s.getD 0 0).toNat:Int) &&& BitVec.ofInt 8 128).toNat) == 0) kz ((qc0 _ (qcc s 0)).trans (decide_eq_false (by have:=h0; unfold oc at this; omega))) ?_
 refine qap [(0,.v (.slice A s.length c)),(4,.v (.int .u32 (IntKind.u32.wrap (IntKind.u8.wrap (BitVec.ofInt 8 ((s.getD 0 0).toNat:Int) &&& BitVec.ofInt 8 127).toNat)))),(22,.v (.bool (decide (((s.length:Nat):Int) < 2))))] hW ae fun aO af=>?_
 refine qao af (b:=decide (((s.length:Nat):Int) < 2)) kz (decide_eq_false (by omega)) ?_
 refine wp_skip ?_
 refine qab ?_
 refine qad [0,1,2,3,4,5,6,7,8] kz ?_
 refine qaj [0,1] [2,3,4,5,6,7,8] [(0,.v (.slice A s.length c)),(23,.v (.int .u32 (IntKind.u32.wrap (IntKind.u8.wrap (BitVec.ofInt 8 ((s.getD 0 0).toNat:Int) &&& BitVec.ofInt 8 127).toNat)))),(24,.v (.slice A s.length c))] hW af fun aP ar=>?_
 obtain ⟨aD,aE,ag,aG,ab⟩:=Slots.get ho (i:=1) (by first | omega | (simp only [List.length_append,be_length,List.length_cons,List.length_nil] at *; omega))
 refine qal (qaA ar (t:=22) (A:=A) (m:=s.length) (q:=1) (d:=25) kz (e:=5) (size:=1) (bytes:=1) (j:=1) kz ag rfl (by first | omega | (simp only [List.length_append,be_length,List.length_cons,List.length_nil] at *; omega)) fun aQ au=>?_)
 refine qal (qaR au (t:=5) (b:=aD) (o:=aE + 1 * 1) (d:=26) kz (cs:=[.int .u8 ((s.getD 1 0).toNat:Int)]) (v:=.int .u8 ((s.getD 1 0).toNat:Int)) kz (AtF.move ab hW.step nilM qbb).at_ fun aR av=>?_)
 refine qaj [4,5,6,7,8] [] [(0,.v (.slice A s.length c)),(4,.v (.int .u32 (IntKind.u32.wrap (BitVec.ofInt 32 (IntKind.u32.wrap (IntKind.u8.wrap (BitVec.ofInt 8 ((s.getD 0 0).toNat:Int) &&& BitVec.ofInt 8 127).toNat)) ||| BitVec.ofInt 32 (IntKind.u32.wrap ((IntKind.u32.wrap (IntKind.u8.wrap (BitVec.ofInt 8 ((s.getD 1 0).toNat:Int) &&& BitVec.ofInt 8 127).toNat)) * 128))).toNat)))] hW av fun aS aw=>?_
 refine qae (qab ?_)
 refine wp_seq ?_
 refine qad [0,1,2,3,4] kz ?_
 refine qaj [0] [1,2,3,4] [(0,.v (.slice A s.length c)),(4,.v (.int .u32 (IntKind.u32.wrap (BitVec.ofInt 32 (IntKind.u32.wrap (IntKind.u8.wrap (BitVec.ofInt 8 ((s.getD 0 0).toNat:Int) &&& BitVec.ofInt 8 127).toNat)) ||| BitVec.ofInt 32 (IntKind.u32.wrap ((IntKind.u32.wrap (IntKind.u8.wrap (BitVec.ofInt 8 ((s.getD 1 0).toNat:Int) &&& BitVec.ofInt 8 127).toNat)) * 128))).toNat))),(31,.v (.slice A s.length c))] hW aw fun aT ax=>?_
 refine qal (qaA ax (t:=22) (A:=A) (m:=s.length) (q:=1) (d:=32) kz (e:=5) (size:=1) (bytes:=1) (j:=1) kz ag rfl (by first | omega | (simp only [List.length_append,be_length,List.length_cons,List.length_nil] at *; omega)) fun aU ay=>?_)
 refine qal (qaR ay (t:=5) (b:=aD) (o:=aE + 1 * 1) (d:=33) kz (cs:=[.int .u8 ((s.getD 1 0).toNat:Int)]) (v:=.int .u8 ((s.getD 1 0).toNat:Int)) kz (AtF.move ab hW.step nilM qbb).at_ fun aV az=>?_)
 refine qaj [3,4] [] [(0,.v (.slice A s.length c)),(4,.v (.int .u32 (IntKind.u32.wrap (BitVec.ofInt 32 (IntKind.u32.wrap (IntKind.u8.wrap (BitVec.ofInt 8 ((s.getD 0 0).toNat:Int) &&& BitVec.ofInt 8 127).toNat)) ||| BitVec.ofInt 32 (IntKind.u32.wrap ((IntKind.u32.wrap (IntKind.u8.wrap (BitVec.ofInt 8 ((s.getD 1 0).toNat:Int) &&& BitVec.ofInt 8 127).toNat)) * 128))).toNat))),(35,.v (.bool ((IntKind.u8.wrap (BitVec.ofInt 8 ((s.getD 1 0).toNat:Int) &&& BitVec.ofInt 8 128).toNat) == 0)))] hW az fun aW ah=>?_
 refine qae (qab ?_)
 refine qa7 ah (b:=(IntKind.u8.wrap (BitVec.ofInt 8 ((s.getD 1 0).toNat:Int) &&& BitVec.ofInt 8 128).toNat) == 0) kz ((qc0 _ (qcc s 1)).trans (decide_eq_true (by have:=h1; unfold oc at this; omega))) ?_
 refine qap [(2,.v (.int .u32 (IntKind.u32.wrap (BitVec.ofInt 32 (IntKind.u32.wrap (IntKind.u8.wrap (BitVec.ofInt 8 ((s.getD 0 0).toNat:Int) &&& BitVec.ofInt 8 127).toNat)) ||| BitVec.ofInt 32 (IntKind.u32.wrap ((IntKind.u32.wrap (IntKind.u8.wrap (BitVec.ofInt 8 ((s.getD 1 0).toNat:Int) &&& BitVec.ofInt 8 127).toNat)) * 128))).toNat))),(3,.v (.int .i64 2))] hW ah fun aX aA=>?_
 refine wp_ret ?_
 refine qan ?_
 refine qdt ?_
 refine qaK aA hW.cells (v:=.tuple #[.int .u32 (IntKind.u32.wrap (BitVec.ofInt 32 (IntKind.u32.wrap (IntKind.u8.wrap (BitVec.ofInt 8 ((s.getD 0 0).toNat:Int) &&& BitVec.ofInt 8 127).toNat)) ||| BitVec.ofInt 32 (IntKind.u32.wrap ((IntKind.u32.wrap (IntKind.u8.wrap (BitVec.ofInt 8 ((s.getD 1 0).toNat:Int) &&& BitVec.ofInt 8 127).toNat)) * 128))).toNat),.int .i64 2]) kz ?_
 have e_:=uv_2 (oc s 0) (oc s 1) (qcc s 0) (qcc s 1)
 refine ⟨congrArg (fun z_:Int=>Ending.returned (.tuple #[.int .u32 z_,.int .i64 2])) (Eq.trans e_ ?_),hW.step⟩
 omega
theorem rUv3 {A:Option Addr} {c:Nat} (s:Bs) {w:World} {F:Nat → Nat → Prop} (ho:Octs w F A c s) (hl:3 ≤ s.length) (d0 d1 d2:Nat) (h0:oc s 0 = d0 + 128) (h1:oc s 1 = d1 + 128) (h2:oc s 2 = d2) (g0:d0 < 128) (g1:d1 < 128) (g2:d2 < 128) :
  Calls Tryz.prog 141 #[.slice A s.length c] w (qci w (.tuple #[.int .u32 ((d0 + d1 * 128 + d2 * 16384:Nat):Int),.int .i64 3])):=by
 refine enter (n:=87) Tryz.func141 rfl Tryz.ntmps141 kz fun a hE=>?_
 have hW:=WOk.start w Nil
 refine qap [(0,.v (.slice A s.length c))] hW hE fun a1 hE2=>?_
 refine wp_scope_straight ?_
 refine qap [(0,.v (.slice A s.length c))] hW hE2 fun a3 hE4=>?_
 refine qap [(0,.v (.slice A s.length c))] hW hE4 fun a5 hE6=>?_
 refine wp_seq ?_
 refine qap [(0,.v (.slice A s.length c)),(8,.v (.bool (decide (((s.length:Nat):Int) < 1))))] hW hE6 fun a7 hE8=>?_
 refine qao hE8 (b:=decide (((s.length:Nat):Int) < 1)) kz (decide_eq_false (by omega)) ?_
 refine wp_skip ?_
 refine qab ?_
 refine qad [0,1,2,3,4,5] kz ?_
 refine qaj [0] [1,2,3,4,5] [(0,.v (.slice A s.length c)),(9,.v (.slice A s.length c))] hW hE8 fun a9 am=>?_
 obtain ⟨aM,aN,ae,aS,aa⟩:=Slots.get ho (i:=0) (by first | omega | (simp only [List.length_append,be_length,List.length_cons,List.length_nil] at *; omega))
 refine qal (qaA am (t:=22) (A:=A) (m:=s.length) (q:=0) (d:=10) kz (e:=5) (size:=1) (bytes:=1) (j:=0) kz ae rfl (by first | omega | (simp only [List.length_append,be_length,List.length_cons,List.length_nil] at *; omega)) fun aV ao=>?_)
 refine qal (qaR ao (t:=5) (b:=aM) (o:=aN + 0 * 1) (d:=11) kz (cs:=[.int .u8 ((s.getD 0 0).toNat:Int)]) (v:=.int .u8 ((s.getD 0 0).toNat:Int)) kz (AtF.move aa hW.step nilM qbb).at_ fun aW ap=>?_)
 refine qaj [3,4,5] [] [(0,.v (.slice A s.length c)),(4,.v (.int .u32 (IntKind.u32.wrap (IntKind.u8.wrap (BitVec.ofInt 8 ((s.getD 0 0).toNat:Int) &&& BitVec.ofInt 8 127).toNat))))] hW ap fun aX ar=>?_
 refine qae (qab ?_)
 refine wp_seq ?_
 refine qad [0,1,2,3,4] kz ?_
 refine qaj [0] [1,2,3,4] [(0,.v (.slice A s.length c)),(4,.v (.int .u32 (IntKind.u32.wrap (IntKind.u8.wrap (BitVec.ofInt 8 ((s.getD 0 0).toNat:Int) &&& BitVec.ofInt 8 127).toNat)))),(14,.v (.slice A s.length c))] hW ar fun aY au=>?_
 refine qal (qaA au (t:=22) (A:=A) (m:=s.length) (q:=0) (d:=15) kz (e:=5) (size:=1) (bytes:=1) (j:=0) kz ae rfl (by first | omega | (simp only [List.length_append,be_length,List.length_cons,List.length_nil] at *; omega)) fun aZ av=>?_)
 refine qal (qaR av (t:=5) (b:=aM) (o:=aN + 0 * 1) (d:=16) kz (cs:=[.int .u8 ((s.getD 0 0).toNat:Int)]) (v:=.int .u8 ((s.getD 0 0).toNat:Int)) kz (AtF.move aa hW.step nilM qbb).at_ fun ba aw=>?_)
 refine qaj [3,4] [] [(0,.v (.slice A s.length c)),(4,.v (.int .u32 (IntKind.u32.wrap (IntKind.u8.wrap (BitVec.ofInt 8 ((s.getD 0 0).toNat:Int) &&& BitVec.ofInt 8 127).toNat)))),(18,.v (.bool ((IntKind.u8.wrap (BitVec.ofInt 8 ((s.getD 0 0).toNat:Int) &&& BitVec.ofInt 8 128).toNat) == 0)))] hW aw fun bd af=>?_
 refine qae (qab ?_)
 refine qao af (b:=(IntKind.u8.wrap (BitVec.ofInt 8 ((s.getD 0 0).toNat:Int) &&& BitVec.ofInt 8 128).toNat) == 0) kz ((qc0 _ (qcc s 0)).trans (decide_eq_false (by have:=h0; unfold oc at this; omega))) ?_
 refine qap [(0,.v (.slice A s.length c)),(4,.v (.int .u32 (IntKind.u32.wrap (IntKind.u8.wrap (BitVec.ofInt 8 ((s.getD 0 0).toNat:Int) &&& BitVec.ofInt 8 127).toNat)))),(22,.v (.bool (decide (((s.length:Nat):Int) < 2))))] hW af fun bf ag=>?_
 refine qao ag (b:=decide (((s.length:Nat):Int) < 2)) kz (decide_eq_false (by omega)) ?_
 refine wp_skip ?_
 refine qab ?_
 refine qad [0,1,2,3,4,5,6,7,8] kz ?_
 refine qaj [0,1] [2,3,4,5,6,7,8] [(0,.v (.slice A s.length c)),(23,.v (.int .u32 (IntKind.u32.wrap (IntKind.u8.wrap (BitVec.ofInt 8 ((s.getD 0 0).toNat:Int) &&& BitVec.ofInt 8 127).toNat)))),(24,.v (.slice A s.length c))] hW ag fun bg ax=>?_
 obtain ⟨aO,aP,ah,aT,ab⟩:=Slots.get ho (i:=1) (by first | omega | (simp only [List.length_append,be_length,List.length_cons,List.length_nil] at *; omega))
 refine qal (qaA ax (t:=22) (A:=A) (m:=s.length) (q:=1) (d:=25) kz (e:=5) (size:=1) (bytes:=1) (j:=1) kz ah rfl (by first | omega | (simp only [List.length_append,be_length,List.length_cons,List.length_nil] at *; omega)) fun bh ay=>?_)
 refine qal (qaR ay (t:=5) (b:=aO) (o:=aP + 1 * 1) (d:=26) kz (cs:=[.int .u8 ((s.getD 1 0).toNat:Int)]) (v:=.int .u8 ((s.getD 1 0).toNat:Int)) kz (AtF.move ab hW.step nilM qbb).at_ fun bi az=>?_)
 refine qaj [4,5,6,7,8] [] [(0,.v (.slice A s.length c)),(4,.v (.int .u32 (IntKind.u32.wrap (BitVec.ofInt 32 (IntKind.u32.wrap (IntKind.u8.wrap (BitVec.ofInt 8 ((s.getD 0 0).toNat:Int) &&& BitVec.ofInt 8 127).toNat)) ||| BitVec.ofInt 32 (IntKind.u32.wrap ((IntKind.u32.wrap (IntKind.u8.wrap (BitVec.ofInt 8 ((s.getD 1 0).toNat:Int) &&& BitVec.ofInt 8 127).toNat)) * 128))).toNat)))] hW az fun bj aA=>?_
 refine qae (qab ?_)
 refine wp_seq ?_
 refine qad [0,1,2,3,4] kz ?_
 refine qaj [0] [1,2,3,4] [(0,.v (.slice A s.length c)),(4,.v (.int .u32 (IntKind.u32.wrap (BitVec.ofInt 32 (IntKind.u32.wrap (IntKind.u8.wrap (BitVec.ofInt 8 ((s.getD 0 0).toNat:Int) &&& BitVec.ofInt 8 127).toNat)) ||| BitVec.ofInt 32 (IntKind.u32.wrap ((IntKind.u32.wrap (IntKind.u8.wrap (BitVec.ofInt 8 ((s.getD 1 0).toNat:Int) &&& BitVec.ofInt 8 127).toNat)) * 128))).toNat))),(31,.v (.slice A s.length c))] hW aA fun bk aB=>?_
 refine qal (qaA aB (t:=22) (A:=A) (m:=s.length) (q:=1) (d:=32) kz (e:=5) (size:=1) (bytes:=1) (j:=1) kz ah rfl (by first | omega | (simp only [List.length_append,be_length,List.length_cons,List.length_nil] at *; omega)) fun bn aC=>?_)
 refine qal (qaR aC (t:=5) (b:=aO) (o:=aP + 1 * 1) (d:=33) kz (cs:=[.int .u8 ((s.getD 1 0).toNat:Int)]) (v:=.int .u8 ((s.getD 1 0).toNat:Int)) kz (AtF.move ab hW.step nilM qbb).at_ fun bo aD=>?_)
 refine qaj [3,4] [] [(0,.v (.slice A s.length c)),(4,.v (.int .u32 (IntKind.u32.wrap (BitVec.ofInt 32 (IntKind.u32.wrap (IntKind.u8.wrap (BitVec.ofInt 8 ((s.getD 0 0).toNat:Int) &&& BitVec.ofInt 8 127).toNat)) ||| BitVec.ofInt 32 (IntKind.u32.wrap ((IntKind.u32.wrap (IntKind.u8.wrap (BitVec.ofInt 8 ((s.getD 1 0).toNat:Int) &&& BitVec.ofInt 8 127).toNat)) * 128))).toNat))),(35,.v (.bool ((IntKind.u8.wrap (BitVec.ofInt 8 ((s.getD 1 0).toNat:Int) &&& BitVec.ofInt 8 128).toNat) == 0)))] hW aD fun bp ai=>?_
 refine qae (qab ?_)
 refine qao ai (b:=(IntKind.u8.wrap (BitVec.ofInt 8 ((s.getD 1 0).toNat:Int) &&& BitVec.ofInt 8 128).toNat) == 0) kz ((qc0 _ (qcc s 1)).trans (decide_eq_false (by have:=h1; unfold oc at this; omega))) ?_
 refine qap [(0,.v (.slice A s.length c)),(4,.v (.int .u32 (IntKind.u32.wrap (BitVec.ofInt 32 (IntKind.u32.wrap (IntKind.u8.wrap (BitVec.ofInt 8 ((s.getD 0 0).toNat:Int) &&& BitVec.ofInt 8 127).toNat)) ||| BitVec.ofInt 32 (IntKind.u32.wrap ((IntKind.u32.wrap (IntKind.u8.wrap (BitVec.ofInt 8 ((s.getD 1 0).toNat:Int) &&& BitVec.ofInt 8 127).toNat)) * 128))).toNat))),(39,.v (.bool (decide (((s.length:Nat):Int) < 3))))] hW ai fun bq aj=>?_
 refine qao aj (b:=decide (((s.length:Nat):Int) < 3)) kz (decide_eq_false (by omega)) ?_
 refine wp_skip ?_
 refine qab ?_
 refine qad [0,1,2,3,4,5,6,7,8] kz ?_
 refine qaj [0,1] [2,3,4,5,6,7,8] [(0,.v (.slice A s.length c)),(40,.v (.int .u32 (IntKind.u32.wrap (BitVec.ofInt 32 (IntKind.u32.wrap (IntKind.u8.wrap (BitVec.ofInt 8 ((s.getD 0 0).toNat:Int) &&& BitVec.ofInt 8 127).toNat)) ||| BitVec.ofInt 32 (IntKind.u32.wrap ((IntKind.u32.wrap (IntKind.u8.wrap (BitVec.ofInt 8 ((s.getD 1 0).toNat:Int) &&& BitVec.ofInt 8 127).toNat)) * 128))).toNat))),(41,.v (.slice A s.length c))] hW aj fun bt aE=>?_
 obtain ⟨aQ,aR,ak,aU,ac⟩:=Slots.get ho (i:=2) (by first | omega | (simp only [List.length_append,be_length,List.length_cons,List.length_nil] at *; omega))
 refine qal (qaA aE (t:=22) (A:=A) (m:=s.length) (q:=2) (d:=42) kz (e:=5) (size:=1) (bytes:=1) (j:=2) kz ak rfl (by first | omega | (simp only [List.length_append,be_length,List.length_cons,List.length_nil] at *; omega)) fun bu aF=>?_)
 refine qal (qaR aF (t:=5) (b:=aQ) (o:=aR + 2 * 1) (d:=43) kz (cs:=[.int .u8 ((s.getD 2 0).toNat:Int)]) (v:=.int .u8 ((s.getD 2 0).toNat:Int)) kz (AtF.move ac hW.step nilM qbb).at_ fun bw aG=>?_)
 refine qaj [4,5,6,7,8] [] [(0,.v (.slice A s.length c)),(4,.v (.int .u32 (IntKind.u32.wrap (BitVec.ofInt 32 (IntKind.u32.wrap (BitVec.ofInt 32 (IntKind.u32.wrap (IntKind.u8.wrap (BitVec.ofInt 8 ((s.getD 0 0).toNat:Int) &&& BitVec.ofInt 8 127).toNat)) ||| BitVec.ofInt 32 (IntKind.u32.wrap ((IntKind.u32.wrap (IntKind.u8.wrap (BitVec.ofInt 8 ((s.getD 1 0).toNat:Int) &&& BitVec.ofInt 8 127).toNat)) * 128))).toNat) ||| BitVec.ofInt 32 (IntKind.u32.wrap ((IntKind.u32.wrap (IntKind.u8.wrap (BitVec.ofInt 8 ((s.getD 2 0).toNat:Int) &&& BitVec.ofInt 8 127).toNat)) * 16384))).toNat)))] hW aG fun bx aH=>?_
 refine qae (qab ?_)
 refine wp_seq ?_
 refine qad [0,1,2,3,4] kz ?_
 refine qaj [0] [1,2,3,4] [(0,.v (.slice A s.length c)),(4,.v (.int .u32 (IntKind.u32.wrap (BitVec.ofInt 32 (IntKind.u32.wrap (BitVec.ofInt 32 (IntKind.u32.wrap (IntKind.u8.wrap (BitVec.ofInt 8 ((s.getD 0 0).toNat:Int) &&& BitVec.ofInt 8 127).toNat)) ||| BitVec.ofInt 32 (IntKind.u32.wrap ((IntKind.u32.wrap (IntKind.u8.wrap (BitVec.ofInt 8 ((s.getD 1 0).toNat:Int) &&& BitVec.ofInt 8 127).toNat)) * 128))).toNat) ||| BitVec.ofInt 32 (IntKind.u32.wrap ((IntKind.u32.wrap (IntKind.u8.wrap (BitVec.ofInt 8 ((s.getD 2 0).toNat:Int) &&& BitVec.ofInt 8 127).toNat)) * 16384))).toNat))),(48,.v (.slice A s.length c))] hW aH fun bz aI=>?_
 refine qal (qaA aI (t:=22) (A:=A) (m:=s.length) (q:=2) (d:=49) kz (e:=5) (size:=1) (bytes:=1) (j:=2) kz ak rfl (by first | omega | (simp only [List.length_append,be_length,List.length_cons,List.length_nil] at *; omega)) fun bA aJ=>?_)
 refine qal (qaR aJ (t:=5) (b:=aQ) (o:=aR + 2 * 1) (d:=50) kz (cs:=[.int .u8 ((s.getD 2 0).toNat:Int)]) (v:=.int .u8 ((s.getD 2 0).toNat:Int)) kz (AtF.move ac hW.step nilM qbb).at_ fun bB aK=>?_)
 refine qaj [3,4] [] [(0,.v (.slice A s.length c)),(4,.v (.int .u32 (IntKind.u32.wrap (BitVec.ofInt 32 (IntKind.u32.wrap (BitVec.ofInt 32 (IntKind.u32.wrap (IntKind.u8.wrap (BitVec.ofInt 8 ((s.getD 0 0).toNat:Int) &&& BitVec.ofInt 8 127).toNat)) ||| BitVec.ofInt 32 (IntKind.u32.wrap ((IntKind.u32.wrap (IntKind.u8.wrap (BitVec.ofInt 8 ((s.getD 1 0).toNat:Int) &&& BitVec.ofInt 8 127).toNat)) * 128))).toNat) ||| BitVec.ofInt 32 (IntKind.u32.wrap ((IntKind.u32.wrap (IntKind.u8.wrap (BitVec.ofInt 8 ((s.getD 2 0).toNat:Int) &&& BitVec.ofInt 8 127).toNat)) * 16384))).toNat))),(52,.v (.bool ((IntKind.u8.wrap (BitVec.ofInt 8 ((s.getD 2 0).toNat:Int) &&& BitVec.ofInt 8 128).toNat) == 0)))] hW aK fun bC al=>?_
 refine qae (qab ?_)
 refine qa7 al (b:=(IntKind.u8.wrap (BitVec.ofInt 8 ((s.getD 2 0).toNat:Int) &&& BitVec.ofInt 8 128).toNat) == 0) kz ((qc0 _ (qcc s 2)).trans (decide_eq_true (by have:=h2; unfold oc at this; omega))) ?_
 refine qap [(2,.v (.int .u32 (IntKind.u32.wrap (BitVec.ofInt 32 (IntKind.u32.wrap (BitVec.ofInt 32 (IntKind.u32.wrap (IntKind.u8.wrap (BitVec.ofInt 8 ((s.getD 0 0).toNat:Int) &&& BitVec.ofInt 8 127).toNat)) ||| BitVec.ofInt 32 (IntKind.u32.wrap ((IntKind.u32.wrap (IntKind.u8.wrap (BitVec.ofInt 8 ((s.getD 1 0).toNat:Int) &&& BitVec.ofInt 8 127).toNat)) * 128))).toNat) ||| BitVec.ofInt 32 (IntKind.u32.wrap ((IntKind.u32.wrap (IntKind.u8.wrap (BitVec.ofInt 8 ((s.getD 2 0).toNat:Int) &&& BitVec.ofInt 8 127).toNat)) * 16384))).toNat))),(3,.v (.int .i64 3))] hW al fun bD aL=>?_
 refine wp_ret ?_
 refine qan ?_
 refine qdt ?_
 refine qaK aL hW.cells (v:=.tuple #[.int .u32 (IntKind.u32.wrap (BitVec.ofInt 32 (IntKind.u32.wrap (BitVec.ofInt 32 (IntKind.u32.wrap (IntKind.u8.wrap (BitVec.ofInt 8 ((s.getD 0 0).toNat:Int) &&& BitVec.ofInt 8 127).toNat)) ||| BitVec.ofInt 32 (IntKind.u32.wrap ((IntKind.u32.wrap (IntKind.u8.wrap (BitVec.ofInt 8 ((s.getD 1 0).toNat:Int) &&& BitVec.ofInt 8 127).toNat)) * 128))).toNat) ||| BitVec.ofInt 32 (IntKind.u32.wrap ((IntKind.u32.wrap (IntKind.u8.wrap (BitVec.ofInt 8 ((s.getD 2 0).toNat:Int) &&& BitVec.ofInt 8 127).toNat)) * 16384))).toNat),.int .i64 3]) kz ?_
 have e_:=uv_3 (oc s 0) (oc s 1) (oc s 2) (qcc s 0) (qcc s 1) (qcc s 2)
 refine ⟨congrArg (fun z_:Int=>Ending.returned (.tuple #[.int .u32 z_,.int .i64 3])) (Eq.trans e_ ?_),hW.step⟩
 omega
theorem rUv4 {A:Option Addr} {c:Nat} (s:Bs) {w:World} {F:Nat → Nat → Prop} (ho:Octs w F A c s) (hl:4 ≤ s.length) (d0 d1 d2 d3:Nat) (h0:oc s 0 = d0 + 128) (h1:oc s 1 = d1 + 128) (h2:oc s 2 = d2 + 128) (h3:oc s 3 = d3) (g0:d0 < 128) (g1:d1 < 128) (g2:d2 < 128) (g3:d3 < 128) :
  Calls Tryz.prog 141 #[.slice A s.length c] w (qci w (.tuple #[.int .u32 ((d0 + d1 * 128 + d2 * 16384 + d3 * 2097152:Nat):Int),.int .i64 4])):=by
 refine enter (n:=87) Tryz.func141 rfl Tryz.ntmps141 kz fun a hE=>?_
 have hW:=WOk.start w Nil
 refine qap [(0,.v (.slice A s.length c))] hW hE fun a1 hE2=>?_
 refine wp_scope_straight ?_
 refine qap [(0,.v (.slice A s.length c))] hW hE2 fun a3 hE4=>?_
 refine qap [(0,.v (.slice A s.length c))] hW hE4 fun a5 hE6=>?_
 refine wp_seq ?_
 refine qap [(0,.v (.slice A s.length c)),(8,.v (.bool (decide (((s.length:Nat):Int) < 1))))] hW hE6 fun a7 hE8=>?_
 refine qao hE8 (b:=decide (((s.length:Nat):Int) < 1)) kz (decide_eq_false (by omega)) ?_
 refine wp_skip ?_
 refine qab ?_
 refine qad [0,1,2,3,4,5] kz ?_
 refine qaj [0] [1,2,3,4,5] [(0,.v (.slice A s.length c)),(9,.v (.slice A s.length c))] hW hE8 fun a9 av=>?_
 obtain ⟨aX,aY,af,bi,aa⟩:=Slots.get ho (i:=0) (by first | omega | (simp only [List.length_append,be_length,List.length_cons,List.length_nil] at *; omega))
 refine qal (qaA av (t:=22) (A:=A) (m:=s.length) (q:=0) (d:=10) kz (e:=5) (size:=1) (bytes:=1) (j:=0) kz af rfl (by first | omega | (simp only [List.length_append,be_length,List.length_cons,List.length_nil] at *; omega)) fun bo aw=>?_)
 refine qal (qaR aw (t:=5) (b:=aX) (o:=aY + 0 * 1) (d:=11) kz (cs:=[.int .u8 ((s.getD 0 0).toNat:Int)]) (v:=.int .u8 ((s.getD 0 0).toNat:Int)) kz (AtF.move aa hW.step nilM qbb).at_ fun bp ax=>?_)
 refine qaj [3,4,5] [] [(0,.v (.slice A s.length c)),(4,.v (.int .u32 (IntKind.u32.wrap (IntKind.u8.wrap (BitVec.ofInt 8 ((s.getD 0 0).toNat:Int) &&& BitVec.ofInt 8 127).toNat))))] hW ax fun bq ay=>?_
 refine qae (qab ?_)
 refine wp_seq ?_
 refine qad [0,1,2,3,4] kz ?_
 refine qaj [0] [1,2,3,4] [(0,.v (.slice A s.length c)),(4,.v (.int .u32 (IntKind.u32.wrap (IntKind.u8.wrap (BitVec.ofInt 8 ((s.getD 0 0).toNat:Int) &&& BitVec.ofInt 8 127).toNat)))),(14,.v (.slice A s.length c))] hW ay fun bt az=>?_
 refine qal (qaA az (t:=22) (A:=A) (m:=s.length) (q:=0) (d:=15) kz (e:=5) (size:=1) (bytes:=1) (j:=0) kz af rfl (by first | omega | (simp only [List.length_append,be_length,List.length_cons,List.length_nil] at *; omega)) fun bu aA=>?_)
 refine qal (qaR aA (t:=5) (b:=aX) (o:=aY + 0 * 1) (d:=16) kz (cs:=[.int .u8 ((s.getD 0 0).toNat:Int)]) (v:=.int .u8 ((s.getD 0 0).toNat:Int)) kz (AtF.move aa hW.step nilM qbb).at_ fun bw aB=>?_)
 refine qaj [3,4] [] [(0,.v (.slice A s.length c)),(4,.v (.int .u32 (IntKind.u32.wrap (IntKind.u8.wrap (BitVec.ofInt 8 ((s.getD 0 0).toNat:Int) &&& BitVec.ofInt 8 127).toNat)))),(18,.v (.bool ((IntKind.u8.wrap (BitVec.ofInt 8 ((s.getD 0 0).toNat:Int) &&& BitVec.ofInt 8 128).toNat) == 0)))] hW aB fun bx ag=>?_
 refine qae (qab ?_)
 refine qao ag (b:=(IntKind.u8.wrap (BitVec.ofInt 8 ((s.getD 0 0).toNat:Int) &&& BitVec.ofInt 8 128).toNat) == 0) kz ((qc0 _ (qcc s 0)).trans (decide_eq_false (by have:=h0; unfold oc at this; omega))) ?_
 refine qap [(0,.v (.slice A s.length c)),(4,.v (.int .u32 (IntKind.u32.wrap (IntKind.u8.wrap (BitVec.ofInt 8 ((s.getD 0 0).toNat:Int) &&& BitVec.ofInt 8 127).toNat)))),(22,.v (.bool (decide (((s.length:Nat):Int) < 2))))] hW ag fun bz ah=>?_
 refine qao ah (b:=decide (((s.length:Nat):Int) < 2)) kz (decide_eq_false (by omega)) ?_
 refine wp_skip ?_
 refine qab ?_
 refine qad [0,1,2,3,4,5,6,7,8] kz ?_
 refine qaj [0,1] [2,3,4,5,6,7,8] [(0,.v (.slice A s.length c)),(23,.v (.int .u32 (IntKind.u32.wrap (IntKind.u8.wrap (BitVec.ofInt 8 ((s.getD 0 0).toNat:Int) &&& BitVec.ofInt 8 127).toNat)))),(24,.v (.slice A s.length c))] hW ah fun bA aC=>?_
 obtain ⟨aZ,ba,ai,bj,ab⟩:=Slots.get ho (i:=1) (by first | omega | (simp only [List.length_append,be_length,List.length_cons,List.length_nil] at *; omega))
 refine qal (qaA aC (t:=22) (A:=A) (m:=s.length) (q:=1) (d:=25) kz (e:=5) (size:=1) (bytes:=1) (j:=1) kz ai rfl (by first | omega | (simp only [List.length_append,be_length,List.length_cons,List.length_nil] at *; omega)) fun bB aD=>?_)
 refine qal (qaR aD (t:=5) (b:=aZ) (o:=ba + 1 * 1) (d:=26) kz (cs:=[.int .u8 ((s.getD 1 0).toNat:Int)]) (v:=.int .u8 ((s.getD 1 0).toNat:Int)) kz (AtF.move ab hW.step nilM qbb).at_ fun bC aE=>?_)
 refine qaj [4,5,6,7,8] [] [(0,.v (.slice A s.length c)),(4,.v (.int .u32 (IntKind.u32.wrap (BitVec.ofInt 32 (IntKind.u32.wrap (IntKind.u8.wrap (BitVec.ofInt 8 ((s.getD 0 0).toNat:Int) &&& BitVec.ofInt 8 127).toNat)) ||| BitVec.ofInt 32 (IntKind.u32.wrap ((IntKind.u32.wrap (IntKind.u8.wrap (BitVec.ofInt 8 ((s.getD 1 0).toNat:Int) &&& BitVec.ofInt 8 127).toNat)) * 128))).toNat)))] hW aE fun bD aF=>?_
 refine qae (qab ?_)
 refine wp_seq ?_
 refine qad [0,1,2,3,4] kz ?_
 refine qaj [0] [1,2,3,4] [(0,.v (.slice A s.length c)),(4,.v (.int .u32 (IntKind.u32.wrap (BitVec.ofInt 32 (IntKind.u32.wrap (IntKind.u8.wrap (BitVec.ofInt 8 ((s.getD 0 0).toNat:Int) &&& BitVec.ofInt 8 127).toNat)) ||| BitVec.ofInt 32 (IntKind.u32.wrap ((IntKind.u32.wrap (IntKind.u8.wrap (BitVec.ofInt 8 ((s.getD 1 0).toNat:Int) &&& BitVec.ofInt 8 127).toNat)) * 128))).toNat))),(31,.v (.slice A s.length c))] hW aF fun bE aG=>?_
 refine qal (qaA aG (t:=22) (A:=A) (m:=s.length) (q:=1) (d:=32) kz (e:=5) (size:=1) (bytes:=1) (j:=1) kz ai rfl (by first | omega | (simp only [List.length_append,be_length,List.length_cons,List.length_nil] at *; omega)) fun bF aH=>?_)
 refine qal (qaR aH (t:=5) (b:=aZ) (o:=ba + 1 * 1) (d:=33) kz (cs:=[.int .u8 ((s.getD 1 0).toNat:Int)]) (v:=.int .u8 ((s.getD 1 0).toNat:Int)) kz (AtF.move ab hW.step nilM qbb).at_ fun bG aI=>?_)
 refine qaj [3,4] [] [(0,.v (.slice A s.length c)),(4,.v (.int .u32 (IntKind.u32.wrap (BitVec.ofInt 32 (IntKind.u32.wrap (IntKind.u8.wrap (BitVec.ofInt 8 ((s.getD 0 0).toNat:Int) &&& BitVec.ofInt 8 127).toNat)) ||| BitVec.ofInt 32 (IntKind.u32.wrap ((IntKind.u32.wrap (IntKind.u8.wrap (BitVec.ofInt 8 ((s.getD 1 0).toNat:Int) &&& BitVec.ofInt 8 127).toNat)) * 128))).toNat))),(35,.v (.bool ((IntKind.u8.wrap (BitVec.ofInt 8 ((s.getD 1 0).toNat:Int) &&& BitVec.ofInt 8 128).toNat) == 0)))] hW aI fun bH aj=>?_
 refine qae (qab ?_)
 refine qao aj (b:=(IntKind.u8.wrap (BitVec.ofInt 8 ((s.getD 1 0).toNat:Int) &&& BitVec.ofInt 8 128).toNat) == 0) kz ((qc0 _ (qcc s 1)).trans (decide_eq_false (by have:=h1; unfold oc at this; omega))) ?_
 refine qap [(0,.v (.slice A s.length c)),(4,.v (.int .u32 (IntKind.u32.wrap (BitVec.ofInt 32 (IntKind.u32.wrap (IntKind.u8.wrap (BitVec.ofInt 8 ((s.getD 0 0).toNat:Int) &&& BitVec.ofInt 8 127).toNat)) ||| BitVec.ofInt 32 (IntKind.u32.wrap ((IntKind.u32.wrap (IntKind.u8.wrap (BitVec.ofInt 8 ((s.getD 1 0).toNat:Int) &&& BitVec.ofInt 8 127).toNat)) * 128))).toNat))),(39,.v (.bool (decide (((s.length:Nat):Int) < 3))))] hW aj fun bI ak=>?_
 refine qao ak (b:=decide (((s.length:Nat):Int) < 3)) kz (decide_eq_false (by omega)) ?_
 refine wp_skip ?_
 refine qab ?_
 refine qad [0,1,2,3,4,5,6,7,8] kz ?_
 refine qaj [0,1] [2,3,4,5,6,7,8] [(0,.v (.slice A s.length c)),(40,.v (.int .u32 (IntKind.u32.wrap (BitVec.ofInt 32 (IntKind.u32.wrap (IntKind.u8.wrap (BitVec.ofInt 8 ((s.getD 0 0).toNat:Int) &&& BitVec.ofInt 8 127).toNat)) ||| BitVec.ofInt 32 (IntKind.u32.wrap ((IntKind.u32.wrap (IntKind.u8.wrap (BitVec.ofInt 8 ((s.getD 1 0).toNat:Int) &&& BitVec.ofInt 8 127).toNat)) * 128))).toNat))),(41,.v (.slice A s.length c))] hW ak fun bJ aJ=>?_
 obtain ⟨bd,bf,al,bk,ac⟩:=Slots.get ho (i:=2) (by first | omega | (simp only [List.length_append,be_length,List.length_cons,List.length_nil] at *; omega))
 refine qal (qaA aJ (t:=22) (A:=A) (m:=s.length) (q:=2) (d:=42) kz (e:=5) (size:=1) (bytes:=1) (j:=2) kz al rfl (by first | omega | (simp only [List.length_append,be_length,List.length_cons,List.length_nil] at *; omega)) fun bK aK=>?_)
 refine qal (qaR aK (t:=5) (b:=bd) (o:=bf + 2 * 1) (d:=43) kz (cs:=[.int .u8 ((s.getD 2 0).toNat:Int)]) (v:=.int .u8 ((s.getD 2 0).toNat:Int)) kz (AtF.move ac hW.step nilM qbb).at_ fun bL aL=>?_)
 refine qaj [4,5,6,7,8] [] [(0,.v (.slice A s.length c)),(4,.v (.int .u32 (IntKind.u32.wrap (BitVec.ofInt 32 (IntKind.u32.wrap (BitVec.ofInt 32 (IntKind.u32.wrap (IntKind.u8.wrap (BitVec.ofInt 8 ((s.getD 0 0).toNat:Int) &&& BitVec.ofInt 8 127).toNat)) ||| BitVec.ofInt 32 (IntKind.u32.wrap ((IntKind.u32.wrap (IntKind.u8.wrap (BitVec.ofInt 8 ((s.getD 1 0).toNat:Int) &&& BitVec.ofInt 8 127).toNat)) * 128))).toNat) ||| BitVec.ofInt 32 (IntKind.u32.wrap ((IntKind.u32.wrap (IntKind.u8.wrap (BitVec.ofInt 8 ((s.getD 2 0).toNat:Int) &&& BitVec.ofInt 8 127).toNat)) * 16384))).toNat)))] hW aL fun bM aM=>?_
 refine qae (qab ?_)
 refine wp_seq ?_
 refine qad [0,1,2,3,4] kz ?_
 refine qaj [0] [1,2,3,4] [(0,.v (.slice A s.length c)),(4,.v (.int .u32 (IntKind.u32.wrap (BitVec.ofInt 32 (IntKind.u32.wrap (BitVec.ofInt 32 (IntKind.u32.wrap (IntKind.u8.wrap (BitVec.ofInt 8 ((s.getD 0 0).toNat:Int) &&& BitVec.ofInt 8 127).toNat)) ||| BitVec.ofInt 32 (IntKind.u32.wrap ((IntKind.u32.wrap (IntKind.u8.wrap (BitVec.ofInt 8 ((s.getD 1 0).toNat:Int) &&& BitVec.ofInt 8 127).toNat)) * 128))).toNat) ||| BitVec.ofInt 32 (IntKind.u32.wrap ((IntKind.u32.wrap (IntKind.u8.wrap (BitVec.ofInt 8 ((s.getD 2 0).toNat:Int) &&& BitVec.ofInt 8 127).toNat)) * 16384))).toNat))),(48,.v (.slice A s.length c))] hW aM fun bN aN=>?_
 refine qal (qaA aN (t:=22) (A:=A) (m:=s.length) (q:=2) (d:=49) kz (e:=5) (size:=1) (bytes:=1) (j:=2) kz al rfl (by first | omega | (simp only [List.length_append,be_length,List.length_cons,List.length_nil] at *; omega)) fun bO aO=>?_)
 refine qal (qaR aO (t:=5) (b:=bd) (o:=bf + 2 * 1) (d:=50) kz (cs:=[.int .u8 ((s.getD 2 0).toNat:Int)]) (v:=.int .u8 ((s.getD 2 0).toNat:Int)) kz (AtF.move ac hW.step nilM qbb).at_ fun bP aP=>?_)
 refine qaj [3,4] [] [(0,.v (.slice A s.length c)),(4,.v (.int .u32 (IntKind.u32.wrap (BitVec.ofInt 32 (IntKind.u32.wrap (BitVec.ofInt 32 (IntKind.u32.wrap (IntKind.u8.wrap (BitVec.ofInt 8 ((s.getD 0 0).toNat:Int) &&& BitVec.ofInt 8 127).toNat)) ||| BitVec.ofInt 32 (IntKind.u32.wrap ((IntKind.u32.wrap (IntKind.u8.wrap (BitVec.ofInt 8 ((s.getD 1 0).toNat:Int) &&& BitVec.ofInt 8 127).toNat)) * 128))).toNat) ||| BitVec.ofInt 32 (IntKind.u32.wrap ((IntKind.u32.wrap (IntKind.u8.wrap (BitVec.ofInt 8 ((s.getD 2 0).toNat:Int) &&& BitVec.ofInt 8 127).toNat)) * 16384))).toNat))),(52,.v (.bool ((IntKind.u8.wrap (BitVec.ofInt 8 ((s.getD 2 0).toNat:Int) &&& BitVec.ofInt 8 128).toNat) == 0)))] hW aP fun bQ am=>?_
 refine qae (qab ?_)
 refine qao am (b:=(IntKind.u8.wrap (BitVec.ofInt 8 ((s.getD 2 0).toNat:Int) &&& BitVec.ofInt 8 128).toNat) == 0) kz ((qc0 _ (qcc s 2)).trans (decide_eq_false (by have:=h2; unfold oc at this; omega))) ?_
 refine qap [(0,.v (.slice A s.length c)),(4,.v (.int .u32 (IntKind.u32.wrap (BitVec.ofInt 32 (IntKind.u32.wrap (BitVec.ofInt 32 (IntKind.u32.wrap (IntKind.u8.wrap (BitVec.ofInt 8 ((s.getD 0 0).toNat:Int) &&& BitVec.ofInt 8 127).toNat)) ||| BitVec.ofInt 32 (IntKind.u32.wrap ((IntKind.u32.wrap (IntKind.u8.wrap (BitVec.ofInt 8 ((s.getD 1 0).toNat:Int) &&& BitVec.ofInt 8 127).toNat)) * 128))).toNat) ||| BitVec.ofInt 32 (IntKind.u32.wrap ((IntKind.u32.wrap (IntKind.u8.wrap (BitVec.ofInt 8 ((s.getD 2 0).toNat:Int) &&& BitVec.ofInt 8 127).toNat)) * 16384))).toNat))),(56,.v (.bool (decide (((s.length:Nat):Int) < 4))))] hW am fun bR ao=>?_
 refine qao ao (b:=decide (((s.length:Nat):Int) < 4)) kz (decide_eq_false (by omega)) ?_
 refine wp_skip ?_
 refine qab ?_
 refine qad [0,1,2,3,4,5,6,7,8] kz ?_
 refine qaj [0,1] [2,3,4,5,6,7,8] [(0,.v (.slice A s.length c)),(57,.v (.int .u32 (IntKind.u32.wrap (BitVec.ofInt 32 (IntKind.u32.wrap (BitVec.ofInt 32 (IntKind.u32.wrap (IntKind.u8.wrap (BitVec.ofInt 8 ((s.getD 0 0).toNat:Int) &&& BitVec.ofInt 8 127).toNat)) ||| BitVec.ofInt 32 (IntKind.u32.wrap ((IntKind.u32.wrap (IntKind.u8.wrap (BitVec.ofInt 8 ((s.getD 1 0).toNat:Int) &&& BitVec.ofInt 8 127).toNat)) * 128))).toNat) ||| BitVec.ofInt 32 (IntKind.u32.wrap ((IntKind.u32.wrap (IntKind.u8.wrap (BitVec.ofInt 8 ((s.getD 2 0).toNat:Int) &&& BitVec.ofInt 8 127).toNat)) * 16384))).toNat))),(58,.v (.slice A s.length c))] hW ao fun bS aQ=>?_
 obtain ⟨bg,bh,ap,bn,ae⟩:=Slots.get ho (i:=3) (by first | omega | (simp only [List.length_append,be_length,List.length_cons,List.length_nil] at *; omega))
 refine qal (qaA aQ (t:=22) (A:=A) (m:=s.length) (q:=3) (d:=59) kz (e:=5) (size:=1) (bytes:=1) (j:=3) kz ap rfl (by first | omega | (simp only [List.length_append,be_length,List.length_cons,List.length_nil] at *; omega)) fun bT aR=>?_)
 refine qal (qaR aR (t:=5) (b:=bg) (o:=bh + 3 * 1) (d:=60) kz (cs:=[.int .u8 ((s.getD 3 0).toNat:Int)]) (v:=.int .u8 ((s.getD 3 0).toNat:Int)) kz (AtF.move ae hW.step nilM qbb).at_ fun bU aS=>?_)
 refine qaj [4,5,6,7,8] [] [(0,.v (.slice A s.length c)),(4,.v (.int .u32 (IntKind.u32.wrap (BitVec.ofInt 32 (IntKind.u32.wrap (BitVec.ofInt 32 (IntKind.u32.wrap (BitVec.ofInt 32 (IntKind.u32.wrap (IntKind.u8.wrap (BitVec.ofInt 8 ((s.getD 0 0).toNat:Int) &&& BitVec.ofInt 8 127).toNat)) ||| BitVec.ofInt 32 (IntKind.u32.wrap ((IntKind.u32.wrap (IntKind.u8.wrap (BitVec.ofInt 8 ((s.getD 1 0).toNat:Int) &&& BitVec.ofInt 8 127).toNat)) * 128))).toNat) ||| BitVec.ofInt 32 (IntKind.u32.wrap ((IntKind.u32.wrap (IntKind.u8.wrap (BitVec.ofInt 8 ((s.getD 2 0).toNat:Int) &&& BitVec.ofInt 8 127).toNat)) * 16384))).toNat) ||| BitVec.ofInt 32 (IntKind.u32.wrap ((IntKind.u32.wrap (IntKind.u8.wrap (BitVec.ofInt 8 ((s.getD 3 0).toNat:Int) &&& BitVec.ofInt 8 127).toNat)) * 2097152))).toNat)))] hW aS fun bV aT=>?_
 refine qae (qab ?_)
 refine wp_seq ?_
 refine qad [0,1,2,3,4] kz ?_
 refine qaj [0] [1,2,3,4] [(0,.v (.slice A s.length c)),(4,.v (.int .u32 (IntKind.u32.wrap (BitVec.ofInt 32 (IntKind.u32.wrap (BitVec.ofInt 32 (IntKind.u32.wrap (BitVec.ofInt 32 (IntKind.u32.wrap (IntKind.u8.wrap (BitVec.ofInt 8 ((s.getD 0 0).toNat:Int) &&& BitVec.ofInt 8 127).toNat)) ||| BitVec.ofInt 32 (IntKind.u32.wrap ((IntKind.u32.wrap (IntKind.u8.wrap (BitVec.ofInt 8 ((s.getD 1 0).toNat:Int) &&& BitVec.ofInt 8 127).toNat)) * 128))).toNat) ||| BitVec.ofInt 32 (IntKind.u32.wrap ((IntKind.u32.wrap (IntKind.u8.wrap (BitVec.ofInt 8 ((s.getD 2 0).toNat:Int) &&& BitVec.ofInt 8 127).toNat)) * 16384))).toNat) ||| BitVec.ofInt 32 (IntKind.u32.wrap ((IntKind.u32.wrap (IntKind.u8.wrap (BitVec.ofInt 8 ((s.getD 3 0).toNat:Int) &&& BitVec.ofInt 8 127).toNat)) * 2097152))).toNat))),(65,.v (.slice A s.length c))] hW aT fun bW aU=>?_
 refine qal (qaA aU (t:=22) (A:=A) (m:=s.length) (q:=3) (d:=66) kz (e:=5) (size:=1) (bytes:=1) (j:=3) kz ap rfl (by first | omega | (simp only [List.length_append,be_length,List.length_cons,List.length_nil] at *; omega)) fun bX aV=>?_)
 refine qal (qaR aV (t:=5) (b:=bg) (o:=bh + 3 * 1) (d:=67) kz (cs:=[.int .u8 ((s.getD 3 0).toNat:Int)]) (v:=.int .u8 ((s.getD 3 0).toNat:Int)) kz (AtF.move ae hW.step nilM qbb).at_ fun bY aW=>?_)
 refine qaj [3,4] [] [(0,.v (.slice A s.length c)),(4,.v (.int .u32 (IntKind.u32.wrap (BitVec.ofInt 32 (IntKind.u32.wrap (BitVec.ofInt 32 (IntKind.u32.wrap (BitVec.ofInt 32 (IntKind.u32.wrap (IntKind.u8.wrap (BitVec.ofInt 8 ((s.getD 0 0).toNat:Int) &&& BitVec.ofInt 8 127).toNat)) ||| BitVec.ofInt 32 (IntKind.u32.wrap ((IntKind.u32.wrap (IntKind.u8.wrap (BitVec.ofInt 8 ((s.getD 1 0).toNat:Int) &&& BitVec.ofInt 8 127).toNat)) * 128))).toNat) ||| BitVec.ofInt 32 (IntKind.u32.wrap ((IntKind.u32.wrap (IntKind.u8.wrap (BitVec.ofInt 8 ((s.getD 2 0).toNat:Int) &&& BitVec.ofInt 8 127).toNat)) * 16384))).toNat) ||| BitVec.ofInt 32 (IntKind.u32.wrap ((IntKind.u32.wrap (IntKind.u8.wrap (BitVec.ofInt 8 ((s.getD 3 0).toNat:Int) &&& BitVec.ofInt 8 127).toNat)) * 2097152))).toNat))),(69,.v (.bool ((IntKind.u8.wrap (BitVec.ofInt 8 ((s.getD 3 0).toNat:Int) &&& BitVec.ofInt 8 128).toNat) == 0)))] hW aW fun bZ ar=>?_
 refine qae (qab ?_)
 refine qa7 ar (b:=(IntKind.u8.wrap (BitVec.ofInt 8 ((s.getD 3 0).toNat:Int) &&& BitVec.ofInt 8 128).toNat) == 0) kz ((qc0 _ (qcc s 3)).trans (decide_eq_true (by have:=h3; unfold oc at this; omega))) ?_
 refine qap [(2,.v (.int .u32 (IntKind.u32.wrap (BitVec.ofInt 32 (IntKind.u32.wrap (BitVec.ofInt 32 (IntKind.u32.wrap (BitVec.ofInt 32 (IntKind.u32.wrap (IntKind.u8.wrap (BitVec.ofInt 8 ((s.getD 0 0).toNat:Int) &&& BitVec.ofInt 8 127).toNat)) ||| BitVec.ofInt 32 (IntKind.u32.wrap ((IntKind.u32.wrap (IntKind.u8.wrap (BitVec.ofInt 8 ((s.getD 1 0).toNat:Int) &&& BitVec.ofInt 8 127).toNat)) * 128))).toNat) ||| BitVec.ofInt 32 (IntKind.u32.wrap ((IntKind.u32.wrap (IntKind.u8.wrap (BitVec.ofInt 8 ((s.getD 2 0).toNat:Int) &&& BitVec.ofInt 8 127).toNat)) * 16384))).toNat) ||| BitVec.ofInt 32 (IntKind.u32.wrap ((IntKind.u32.wrap (IntKind.u8.wrap (BitVec.ofInt 8 ((s.getD 3 0).toNat:Int) &&& BitVec.ofInt 8 127).toNat)) * 2097152))).toNat))),(3,.v (.int .i64 4))] hW ar fun b8 au=>?_
 refine wp_ret ?_
 refine qan ?_
 refine qdt ?_
 refine qaK au hW.cells (v:=.tuple #[.int .u32 (IntKind.u32.wrap (BitVec.ofInt 32 (IntKind.u32.wrap (BitVec.ofInt 32 (IntKind.u32.wrap (BitVec.ofInt 32 (IntKind.u32.wrap (IntKind.u8.wrap (BitVec.ofInt 8 ((s.getD 0 0).toNat:Int) &&& BitVec.ofInt 8 127).toNat)) ||| BitVec.ofInt 32 (IntKind.u32.wrap ((IntKind.u32.wrap (IntKind.u8.wrap (BitVec.ofInt 8 ((s.getD 1 0).toNat:Int) &&& BitVec.ofInt 8 127).toNat)) * 128))).toNat) ||| BitVec.ofInt 32 (IntKind.u32.wrap ((IntKind.u32.wrap (IntKind.u8.wrap (BitVec.ofInt 8 ((s.getD 2 0).toNat:Int) &&& BitVec.ofInt 8 127).toNat)) * 16384))).toNat) ||| BitVec.ofInt 32 (IntKind.u32.wrap ((IntKind.u32.wrap (IntKind.u8.wrap (BitVec.ofInt 8 ((s.getD 3 0).toNat:Int) &&& BitVec.ofInt 8 127).toNat)) * 2097152))).toNat),.int .i64 4]) kz ?_
 have e_:=uv_4 (oc s 0) (oc s 1) (oc s 2) (oc s 3) (qcc s 0) (qcc s 1) (qcc s 2) (qcc s 3)
 refine ⟨congrArg (fun z_:Int=>Ending.returned (.tuple #[.int .u32 z_,.int .i64 4])) (Eq.trans e_ ?_),hW.step⟩
 omega
theorem rUv5 {A:Option Addr} {c:Nat} (s:Bs) {w:World} {F:Nat → Nat → Prop} (ho:Octs w F A c s) (hl:5 ≤ s.length) (d0 d1 d2 d3 d4:Nat) (h0:oc s 0 = d0 + 128) (h1:oc s 1 = d1 + 128) (h2:oc s 2 = d2 + 128) (h3:oc s 3 = d3 + 128) (h4:oc s 4 = d4) (g0:d0 < 128) (g1:d1 < 128) (g2:d2 < 128) (g3:d3 < 128) (g4:d4 < 16) :
  Calls Tryz.prog 141 #[.slice A s.length c] w (qci w (.tuple #[.int .u32 ((d0 + d1 * 128 + d2 * 16384 + d3 * 2097152 + d4 * 268435456:Nat):Int),.int .i64 5])):=by
 refine enter (n:=87) Tryz.func141 rfl Tryz.ntmps141 kz fun a hE=>?_
 have hW:=WOk.start w Nil
 refine qap [(0,.v (.slice A s.length c))] hW hE fun a1 hE2=>?_
 refine wp_scope_straight ?_
 refine qap [(0,.v (.slice A s.length c))] hW hE2 fun a3 hE4=>?_
 refine qap [(0,.v (.slice A s.length c))] hW hE4 fun a5 hE6=>?_
 refine wp_seq ?_
 refine qap [(0,.v (.slice A s.length c)),(8,.v (.bool (decide (((s.length:Nat):Int) < 1))))] hW hE6 fun a7 hE8=>?_
 refine qao hE8 (b:=decide (((s.length:Nat):Int) < 1)) kz (decide_eq_false (by omega)) ?_
 refine wp_skip ?_
 refine qab ?_
 refine qad [0,1,2,3,4,5] kz ?_
 refine qaj [0] [1,2,3,4,5] [(0,.v (.slice A s.length c)),(9,.v (.slice A s.length c))] hW hE8 fun a9 aI=>?_
 obtain ⟨bp,bq,aj,bC,ab⟩:=Slots.get ho (i:=0) (by first | omega | (simp only [List.length_append,be_length,List.length_cons,List.length_nil] at *; omega))
 refine qal (qaA aI (t:=22) (A:=A) (m:=s.length) (q:=0) (d:=10) kz (e:=5) (size:=1) (bytes:=1) (j:=0) kz aj rfl (by first | omega | (simp only [List.length_append,be_length,List.length_cons,List.length_nil] at *; omega)) fun bP aJ=>?_)
 refine qal (qaR aJ (t:=5) (b:=bp) (o:=bq + 0 * 1) (d:=11) kz (cs:=[.int .u8 ((s.getD 0 0).toNat:Int)]) (v:=.int .u8 ((s.getD 0 0).toNat:Int)) kz (AtF.move ab hW.step nilM qbb).at_ fun bQ aK=>?_)
 refine qaj [3,4,5] [] [(0,.v (.slice A s.length c)),(4,.v (.int .u32 (IntKind.u32.wrap (IntKind.u8.wrap (BitVec.ofInt 8 ((s.getD 0 0).toNat:Int) &&& BitVec.ofInt 8 127).toNat))))] hW aK fun bR aL=>?_
 refine qae (qab ?_)
 refine wp_seq ?_
 refine qad [0,1,2,3,4] kz ?_
 refine qaj [0] [1,2,3,4] [(0,.v (.slice A s.length c)),(4,.v (.int .u32 (IntKind.u32.wrap (IntKind.u8.wrap (BitVec.ofInt 8 ((s.getD 0 0).toNat:Int) &&& BitVec.ofInt 8 127).toNat)))),(14,.v (.slice A s.length c))] hW aL fun bS aM=>?_
 refine qal (qaA aM (t:=22) (A:=A) (m:=s.length) (q:=0) (d:=15) kz (e:=5) (size:=1) (bytes:=1) (j:=0) kz aj rfl (by first | omega | (simp only [List.length_append,be_length,List.length_cons,List.length_nil] at *; omega)) fun bT aN=>?_)
 refine qal (qaR aN (t:=5) (b:=bp) (o:=bq + 0 * 1) (d:=16) kz (cs:=[.int .u8 ((s.getD 0 0).toNat:Int)]) (v:=.int .u8 ((s.getD 0 0).toNat:Int)) kz (AtF.move ab hW.step nilM qbb).at_ fun bU aO=>?_)
 refine qaj [3,4] [] [(0,.v (.slice A s.length c)),(4,.v (.int .u32 (IntKind.u32.wrap (IntKind.u8.wrap (BitVec.ofInt 8 ((s.getD 0 0).toNat:Int) &&& BitVec.ofInt 8 127).toNat)))),(18,.v (.bool ((IntKind.u8.wrap (BitVec.ofInt 8 ((s.getD 0 0).toNat:Int) &&& BitVec.ofInt 8 128).toNat) == 0)))] hW aO fun bV ak=>?_
 refine qae (qab ?_)
 refine qao ak (b:=(IntKind.u8.wrap (BitVec.ofInt 8 ((s.getD 0 0).toNat:Int) &&& BitVec.ofInt 8 128).toNat) == 0) kz ((qc0 _ (qcc s 0)).trans (decide_eq_false (by have:=h0; unfold oc at this; omega))) ?_
 refine qap [(0,.v (.slice A s.length c)),(4,.v (.int .u32 (IntKind.u32.wrap (IntKind.u8.wrap (BitVec.ofInt 8 ((s.getD 0 0).toNat:Int) &&& BitVec.ofInt 8 127).toNat)))),(22,.v (.bool (decide (((s.length:Nat):Int) < 2))))] hW ak fun bW al=>?_
 refine qao al (b:=decide (((s.length:Nat):Int) < 2)) kz (decide_eq_false (by omega)) ?_
 refine wp_skip ?_
 refine qab ?_
 refine qad [0,1,2,3,4,5,6,7,8] kz ?_
 refine qaj [0,1] [2,3,4,5,6,7,8] [(0,.v (.slice A s.length c)),(23,.v (.int .u32 (IntKind.u32.wrap (IntKind.u8.wrap (BitVec.ofInt 8 ((s.getD 0 0).toNat:Int) &&& BitVec.ofInt 8 127).toNat)))),(24,.v (.slice A s.length c))] hW al fun bX aP=>?_
 obtain ⟨bt,bu,am,bD,ac⟩:=Slots.get ho (i:=1) (by first | omega | (simp only [List.length_append,be_length,List.length_cons,List.length_nil] at *; omega))
 refine qal (qaA aP (t:=22) (A:=A) (m:=s.length) (q:=1) (d:=25) kz (e:=5) (size:=1) (bytes:=1) (j:=1) kz am rfl (by first | omega | (simp only [List.length_append,be_length,List.length_cons,List.length_nil] at *; omega)) fun bY aQ=>?_)
 refine qal (qaR aQ (t:=5) (b:=bt) (o:=bu + 1 * 1) (d:=26) kz (cs:=[.int .u8 ((s.getD 1 0).toNat:Int)]) (v:=.int .u8 ((s.getD 1 0).toNat:Int)) kz (AtF.move ac hW.step nilM qbb).at_ fun bZ aR=>?_)
 refine qaj [4,5,6,7,8] [] [(0,.v (.slice A s.length c)),(4,.v (.int .u32 (IntKind.u32.wrap (BitVec.ofInt 32 (IntKind.u32.wrap (IntKind.u8.wrap (BitVec.ofInt 8 ((s.getD 0 0).toNat:Int) &&& BitVec.ofInt 8 127).toNat)) ||| BitVec.ofInt 32 (IntKind.u32.wrap ((IntKind.u32.wrap (IntKind.u8.wrap (BitVec.ofInt 8 ((s.getD 1 0).toNat:Int) &&& BitVec.ofInt 8 127).toNat)) * 128))).toNat)))] hW aR fun b8 aS=>?_
 refine qae (qab ?_)
 refine wp_seq ?_
 refine qad [0,1,2,3,4] kz ?_
 refine qaj [0] [1,2,3,4] [(0,.v (.slice A s.length c)),(4,.v (.int .u32 (IntKind.u32.wrap (BitVec.ofInt 32 (IntKind.u32.wrap (IntKind.u8.wrap (BitVec.ofInt 8 ((s.getD 0 0).toNat:Int) &&& BitVec.ofInt 8 127).toNat)) ||| BitVec.ofInt 32 (IntKind.u32.wrap ((IntKind.u32.wrap (IntKind.u8.wrap (BitVec.ofInt 8 ((s.getD 1 0).toNat:Int) &&& BitVec.ofInt 8 127).toNat)) * 128))).toNat))),(31,.v (.slice A s.length c))] hW aS fun cd aT=>?_
 refine qal (qaA aT (t:=22) (A:=A) (m:=s.length) (q:=1) (d:=32) kz (e:=5) (size:=1) (bytes:=1) (j:=1) kz am rfl (by first | omega | (simp only [List.length_append,be_length,List.length_cons,List.length_nil] at *; omega)) fun ce aU=>?_)
 refine qal (qaR aU (t:=5) (b:=bt) (o:=bu + 1 * 1) (d:=33) kz (cs:=[.int .u8 ((s.getD 1 0).toNat:Int)]) (v:=.int .u8 ((s.getD 1 0).toNat:Int)) kz (AtF.move ac hW.step nilM qbb).at_ fun cm aV=>?_)
 refine qaj [3,4] [] [(0,.v (.slice A s.length c)),(4,.v (.int .u32 (IntKind.u32.wrap (BitVec.ofInt 32 (IntKind.u32.wrap (IntKind.u8.wrap (BitVec.ofInt 8 ((s.getD 0 0).toNat:Int) &&& BitVec.ofInt 8 127).toNat)) ||| BitVec.ofInt 32 (IntKind.u32.wrap ((IntKind.u32.wrap (IntKind.u8.wrap (BitVec.ofInt 8 ((s.getD 1 0).toNat:Int) &&& BitVec.ofInt 8 127).toNat)) * 128))).toNat))),(35,.v (.bool ((IntKind.u8.wrap (BitVec.ofInt 8 ((s.getD 1 0).toNat:Int) &&& BitVec.ofInt 8 128).toNat) == 0)))] hW aV fun cq ao=>?_
 refine qae (qab ?_)
 refine qao ao (b:=(IntKind.u8.wrap (BitVec.ofInt 8 ((s.getD 1 0).toNat:Int) &&& BitVec.ofInt 8 128).toNat) == 0) kz ((qc0 _ (qcc s 1)).trans (decide_eq_false (by have:=h1; unfold oc at this; omega))) ?_
 refine qap [(0,.v (.slice A s.length c)),(4,.v (.int .u32 (IntKind.u32.wrap (BitVec.ofInt 32 (IntKind.u32.wrap (IntKind.u8.wrap (BitVec.ofInt 8 ((s.getD 0 0).toNat:Int) &&& BitVec.ofInt 8 127).toNat)) ||| BitVec.ofInt 32 (IntKind.u32.wrap ((IntKind.u32.wrap (IntKind.u8.wrap (BitVec.ofInt 8 ((s.getD 1 0).toNat:Int) &&& BitVec.ofInt 8 127).toNat)) * 128))).toNat))),(39,.v (.bool (decide (((s.length:Nat):Int) < 3))))] hW ao fun cr ap=>?_
 refine qao ap (b:=decide (((s.length:Nat):Int) < 3)) kz (decide_eq_false (by omega)) ?_
 refine wp_skip ?_
 refine qab ?_
 refine qad [0,1,2,3,4,5,6,7,8] kz ?_
 refine qaj [0,1] [2,3,4,5,6,7,8] [(0,.v (.slice A s.length c)),(40,.v (.int .u32 (IntKind.u32.wrap (BitVec.ofInt 32 (IntKind.u32.wrap (IntKind.u8.wrap (BitVec.ofInt 8 ((s.getD 0 0).toNat:Int) &&& BitVec.ofInt 8 127).toNat)) ||| BitVec.ofInt 32 (IntKind.u32.wrap ((IntKind.u32.wrap (IntKind.u8.wrap (BitVec.ofInt 8 ((s.getD 1 0).toNat:Int) &&& BitVec.ofInt 8 127).toNat)) * 128))).toNat))),(41,.v (.slice A s.length c))] hW ap fun cu aW=>?_
 obtain ⟨bw,bx,ar,bE,ae⟩:=Slots.get ho (i:=2) (by first | omega | (simp only [List.length_append,be_length,List.length_cons,List.length_nil] at *; omega))
 refine qal (qaA aW (t:=22) (A:=A) (m:=s.length) (q:=2) (d:=42) kz (e:=5) (size:=1) (bytes:=1) (j:=2) kz ar rfl (by first | omega | (simp only [List.length_append,be_length,List.length_cons,List.length_nil] at *; omega)) fun cw aX=>?_)
 refine qal (qaR aX (t:=5) (b:=bw) (o:=bx + 2 * 1) (d:=43) kz (cs:=[.int .u8 ((s.getD 2 0).toNat:Int)]) (v:=.int .u8 ((s.getD 2 0).toNat:Int)) kz (AtF.move ae hW.step nilM qbb).at_ fun cz aY=>?_)
 refine qaj [4,5,6,7,8] [] [(0,.v (.slice A s.length c)),(4,.v (.int .u32 (IntKind.u32.wrap (BitVec.ofInt 32 (IntKind.u32.wrap (BitVec.ofInt 32 (IntKind.u32.wrap (IntKind.u8.wrap (BitVec.ofInt 8 ((s.getD 0 0).toNat:Int) &&& BitVec.ofInt 8 127).toNat)) ||| BitVec.ofInt 32 (IntKind.u32.wrap ((IntKind.u32.wrap (IntKind.u8.wrap (BitVec.ofInt 8 ((s.getD 1 0).toNat:Int) &&& BitVec.ofInt 8 127).toNat)) * 128))).toNat) ||| BitVec.ofInt 32 (IntKind.u32.wrap ((IntKind.u32.wrap (IntKind.u8.wrap (BitVec.ofInt 8 ((s.getD 2 0).toNat:Int) &&& BitVec.ofInt 8 127).toNat)) * 16384))).toNat)))] hW aY fun cA aZ=>?_
 refine qae (qab ?_)
 refine wp_seq ?_
 refine qad [0,1,2,3,4] kz ?_
 refine qaj [0] [1,2,3,4] [(0,.v (.slice A s.length c)),(4,.v (.int .u32 (IntKind.u32.wrap (BitVec.ofInt 32 (IntKind.u32.wrap (BitVec.ofInt 32 (IntKind.u32.wrap (IntKind.u8.wrap (BitVec.ofInt 8 ((s.getD 0 0).toNat:Int) &&& BitVec.ofInt 8 127).toNat)) ||| BitVec.ofInt 32 (IntKind.u32.wrap ((IntKind.u32.wrap (IntKind.u8.wrap (BitVec.ofInt 8 ((s.getD 1 0).toNat:Int) &&& BitVec.ofInt 8 127).toNat)) * 128))).toNat) ||| BitVec.ofInt 32 (IntKind.u32.wrap ((IntKind.u32.wrap (IntKind.u8.wrap (BitVec.ofInt 8 ((s.getD 2 0).toNat:Int) &&& BitVec.ofInt 8 127).toNat)) * 16384))).toNat))),(48,.v (.slice A s.length c))] hW aZ fun cB ba=>?_
 refine qal (qaA ba (t:=22) (A:=A) (m:=s.length) (q:=2) (d:=49) kz (e:=5) (size:=1) (bytes:=1) (j:=2) kz ar rfl (by first | omega | (simp only [List.length_append,be_length,List.length_cons,List.length_nil] at *; omega)) fun cC bd=>?_)
 refine qal (qaR bd (t:=5) (b:=bw) (o:=bx + 2 * 1) (d:=50) kz (cs:=[.int .u8 ((s.getD 2 0).toNat:Int)]) (v:=.int .u8 ((s.getD 2 0).toNat:Int)) kz (AtF.move ae hW.step nilM qbb).at_ fun cD bf=>?_)
 refine qaj [3,4] [] [(0,.v (.slice A s.length c)),(4,.v (.int .u32 (IntKind.u32.wrap (BitVec.ofInt 32 (IntKind.u32.wrap (BitVec.ofInt 32 (IntKind.u32.wrap (IntKind.u8.wrap (BitVec.ofInt 8 ((s.getD 0 0).toNat:Int) &&& BitVec.ofInt 8 127).toNat)) ||| BitVec.ofInt 32 (IntKind.u32.wrap ((IntKind.u32.wrap (IntKind.u8.wrap (BitVec.ofInt 8 ((s.getD 1 0).toNat:Int) &&& BitVec.ofInt 8 127).toNat)) * 128))).toNat) ||| BitVec.ofInt 32 (IntKind.u32.wrap ((IntKind.u32.wrap (IntKind.u8.wrap (BitVec.ofInt 8 ((s.getD 2 0).toNat:Int) &&& BitVec.ofInt 8 127).toNat)) * 16384))).toNat))),(52,.v (.bool ((IntKind.u8.wrap (BitVec.ofInt 8 ((s.getD 2 0).toNat:Int) &&& BitVec.ofInt 8 128).toNat) == 0)))] hW bf fun cE au=>?_
 refine qae (qab ?_)
 refine qao au (b:=(IntKind.u8.wrap (BitVec.ofInt 8 ((s.getD 2 0).toNat:Int) &&& BitVec.ofInt 8 128).toNat) == 0) kz ((qc0 _ (qcc s 2)).trans (decide_eq_false (by have:=h2; unfold oc at this; omega))) ?_
 refine qap [(0,.v (.slice A s.length c)),(4,.v (.int .u32 (IntKind.u32.wrap (BitVec.ofInt 32 (IntKind.u32.wrap (BitVec.ofInt 32 (IntKind.u32.wrap (IntKind.u8.wrap (BitVec.ofInt 8 ((s.getD 0 0).toNat:Int) &&& BitVec.ofInt 8 127).toNat)) ||| BitVec.ofInt 32 (IntKind.u32.wrap ((IntKind.u32.wrap (IntKind.u8.wrap (BitVec.ofInt 8 ((s.getD 1 0).toNat:Int) &&& BitVec.ofInt 8 127).toNat)) * 128))).toNat) ||| BitVec.ofInt 32 (IntKind.u32.wrap ((IntKind.u32.wrap (IntKind.u8.wrap (BitVec.ofInt 8 ((s.getD 2 0).toNat:Int) &&& BitVec.ofInt 8 127).toNat)) * 16384))).toNat))),(56,.v (.bool (decide (((s.length:Nat):Int) < 4))))] hW au fun cG av=>?_
 refine qao av (b:=decide (((s.length:Nat):Int) < 4)) kz (decide_eq_false (by omega)) ?_
 refine wp_skip ?_
 refine qab ?_
 refine qad [0,1,2,3,4,5,6,7,8] kz ?_
 refine qaj [0,1] [2,3,4,5,6,7,8] [(0,.v (.slice A s.length c)),(57,.v (.int .u32 (IntKind.u32.wrap (BitVec.ofInt 32 (IntKind.u32.wrap (BitVec.ofInt 32 (IntKind.u32.wrap (IntKind.u8.wrap (BitVec.ofInt 8 ((s.getD 0 0).toNat:Int) &&& BitVec.ofInt 8 127).toNat)) ||| BitVec.ofInt 32 (IntKind.u32.wrap ((IntKind.u32.wrap (IntKind.u8.wrap (BitVec.ofInt 8 ((s.getD 1 0).toNat:Int) &&& BitVec.ofInt 8 127).toNat)) * 128))).toNat) ||| BitVec.ofInt 32 (IntKind.u32.wrap ((IntKind.u32.wrap (IntKind.u8.wrap (BitVec.ofInt 8 ((s.getD 2 0).toNat:Int) &&& BitVec.ofInt 8 127).toNat)) * 16384))).toNat))),(58,.v (.slice A s.length c))] hW av fun cH bg=>?_
 obtain ⟨bz,bA,aw,bF,af⟩:=Slots.get ho (i:=3) (by first | omega | (simp only [List.length_append,be_length,List.length_cons,List.length_nil] at *; omega))
 refine qal (qaA bg (t:=22) (A:=A) (m:=s.length) (q:=3) (d:=59) kz (e:=5) (size:=1) (bytes:=1) (j:=3) kz aw rfl (by first | omega | (simp only [List.length_append,be_length,List.length_cons,List.length_nil] at *; omega)) fun cI bh=>?_)
 refine qal (qaR bh (t:=5) (b:=bz) (o:=bA + 3 * 1) (d:=60) kz (cs:=[.int .u8 ((s.getD 3 0).toNat:Int)]) (v:=.int .u8 ((s.getD 3 0).toNat:Int)) kz (AtF.move af hW.step nilM qbb).at_ fun cJ bi=>?_)
 refine qaj [4,5,6,7,8] [] [(0,.v (.slice A s.length c)),(4,.v (.int .u32 (IntKind.u32.wrap (BitVec.ofInt 32 (IntKind.u32.wrap (BitVec.ofInt 32 (IntKind.u32.wrap (BitVec.ofInt 32 (IntKind.u32.wrap (IntKind.u8.wrap (BitVec.ofInt 8 ((s.getD 0 0).toNat:Int) &&& BitVec.ofInt 8 127).toNat)) ||| BitVec.ofInt 32 (IntKind.u32.wrap ((IntKind.u32.wrap (IntKind.u8.wrap (BitVec.ofInt 8 ((s.getD 1 0).toNat:Int) &&& BitVec.ofInt 8 127).toNat)) * 128))).toNat) ||| BitVec.ofInt 32 (IntKind.u32.wrap ((IntKind.u32.wrap (IntKind.u8.wrap (BitVec.ofInt 8 ((s.getD 2 0).toNat:Int) &&& BitVec.ofInt 8 127).toNat)) * 16384))).toNat) ||| BitVec.ofInt 32 (IntKind.u32.wrap ((IntKind.u32.wrap (IntKind.u8.wrap (BitVec.ofInt 8 ((s.getD 3 0).toNat:Int) &&& BitVec.ofInt 8 127).toNat)) * 2097152))).toNat)))] hW bi fun cK bj=>?_
 refine qae (qab ?_)
 refine wp_seq ?_
 refine qad [0,1,2,3,4] kz ?_
 refine qaj [0] [1,2,3,4] [(0,.v (.slice A s.length c)),(4,.v (.int .u32 (IntKind.u32.wrap (BitVec.ofInt 32 (IntKind.u32.wrap (BitVec.ofInt 32 (IntKind.u32.wrap (BitVec.ofInt 32 (IntKind.u32.wrap (IntKind.u8.wrap (BitVec.ofInt 8 ((s.getD 0 0).toNat:Int) &&& BitVec.ofInt 8 127).toNat)) ||| BitVec.ofInt 32 (IntKind.u32.wrap ((IntKind.u32.wrap (IntKind.u8.wrap (BitVec.ofInt 8 ((s.getD 1 0).toNat:Int) &&& BitVec.ofInt 8 127).toNat)) * 128))).toNat) ||| BitVec.ofInt 32 (IntKind.u32.wrap ((IntKind.u32.wrap (IntKind.u8.wrap (BitVec.ofInt 8 ((s.getD 2 0).toNat:Int) &&& BitVec.ofInt 8 127).toNat)) * 16384))).toNat) ||| BitVec.ofInt 32 (IntKind.u32.wrap ((IntKind.u32.wrap (IntKind.u8.wrap (BitVec.ofInt 8 ((s.getD 3 0).toNat:Int) &&& BitVec.ofInt 8 127).toNat)) * 2097152))).toNat))),(65,.v (.slice A s.length c))] hW bj fun cL bk=>?_
 refine qal (qaA bk (t:=22) (A:=A) (m:=s.length) (q:=3) (d:=66) kz (e:=5) (size:=1) (bytes:=1) (j:=3) kz aw rfl (by first | omega | (simp only [List.length_append,be_length,List.length_cons,List.length_nil] at *; omega)) fun cM bn=>?_)
 refine qal (qaR bn (t:=5) (b:=bz) (o:=bA + 3 * 1) (d:=67) kz (cs:=[.int .u8 ((s.getD 3 0).toNat:Int)]) (v:=.int .u8 ((s.getD 3 0).toNat:Int)) kz (AtF.move af hW.step nilM qbb).at_ fun cN bo=>?_)
 refine qaj [3,4] [] [(0,.v (.slice A s.length c)),(4,.v (.int .u32 (IntKind.u32.wrap (BitVec.ofInt 32 (IntKind.u32.wrap (BitVec.ofInt 32 (IntKind.u32.wrap (BitVec.ofInt 32 (IntKind.u32.wrap (IntKind.u8.wrap (BitVec.ofInt 8 ((s.getD 0 0).toNat:Int) &&& BitVec.ofInt 8 127).toNat)) ||| BitVec.ofInt 32 (IntKind.u32.wrap ((IntKind.u32.wrap (IntKind.u8.wrap (BitVec.ofInt 8 ((s.getD 1 0).toNat:Int) &&& BitVec.ofInt 8 127).toNat)) * 128))).toNat) ||| BitVec.ofInt 32 (IntKind.u32.wrap ((IntKind.u32.wrap (IntKind.u8.wrap (BitVec.ofInt 8 ((s.getD 2 0).toNat:Int) &&& BitVec.ofInt 8 127).toNat)) * 16384))).toNat) ||| BitVec.ofInt 32 (IntKind.u32.wrap ((IntKind.u32.wrap (IntKind.u8.wrap (BitVec.ofInt 8 ((s.getD 3 0).toNat:Int) &&& BitVec.ofInt 8 127).toNat)) * 2097152))).toNat))),(69,.v (.bool ((IntKind.u8.wrap (BitVec.ofInt 8 ((s.getD 3 0).toNat:Int) &&& BitVec.ofInt 8 128).toNat) == 0)))] hW bo fun cO ax=>?_
 refine qae (qab ?_)
 refine qao ax (b:=(IntKind.u8.wrap (BitVec.ofInt 8 ((s.getD 3 0).toNat:Int) &&& BitVec.ofInt 8 128).toNat) == 0) kz ((qc0 _ (qcc s 3)).trans (decide_eq_false (by have:=h3; unfold oc at this; omega))) ?_
 refine qap [(0,.v (.slice A s.length c)),(4,.v (.int .u32 (IntKind.u32.wrap (BitVec.ofInt 32 (IntKind.u32.wrap (BitVec.ofInt 32 (IntKind.u32.wrap (BitVec.ofInt 32 (IntKind.u32.wrap (IntKind.u8.wrap (BitVec.ofInt 8 ((s.getD 0 0).toNat:Int) &&& BitVec.ofInt 8 127).toNat)) ||| BitVec.ofInt 32 (IntKind.u32.wrap ((IntKind.u32.wrap (IntKind.u8.wrap (BitVec.ofInt 8 ((s.getD 1 0).toNat:Int) &&& BitVec.ofInt 8 127).toNat)) * 128))).toNat) ||| BitVec.ofInt 32 (IntKind.u32.wrap ((IntKind.u32.wrap (IntKind.u8.wrap (BitVec.ofInt 8 ((s.getD 2 0).toNat:Int) &&& BitVec.ofInt 8 127).toNat)) * 16384))).toNat) ||| BitVec.ofInt 32 (IntKind.u32.wrap ((IntKind.u32.wrap (IntKind.u8.wrap (BitVec.ofInt 8 ((s.getD 3 0).toNat:Int) &&& BitVec.ofInt 8 127).toNat)) * 2097152))).toNat))),(73,.v (.bool (decide (((s.length:Nat):Int) < 5))))] hW ax fun cP ag=>?_
 refine qao ag (b:=decide (((s.length:Nat):Int) < 5)) kz (decide_eq_false (by omega)) ?_
 refine wp_skip ?_
 refine qab ?_
 refine qad [0,1,2,3,4,5,6,7] kz ?_
 refine qaj [0,1] [2,3,4,5,6,7] [(0,.v (.slice A s.length c)),(74,.v (.int .u32 (IntKind.u32.wrap (BitVec.ofInt 32 (IntKind.u32.wrap (BitVec.ofInt 32 (IntKind.u32.wrap (BitVec.ofInt 32 (IntKind.u32.wrap (IntKind.u8.wrap (BitVec.ofInt 8 ((s.getD 0 0).toNat:Int) &&& BitVec.ofInt 8 127).toNat)) ||| BitVec.ofInt 32 (IntKind.u32.wrap ((IntKind.u32.wrap (IntKind.u8.wrap (BitVec.ofInt 8 ((s.getD 1 0).toNat:Int) &&& BitVec.ofInt 8 127).toNat)) * 128))).toNat) ||| BitVec.ofInt 32 (IntKind.u32.wrap ((IntKind.u32.wrap (IntKind.u8.wrap (BitVec.ofInt 8 ((s.getD 2 0).toNat:Int) &&& BitVec.ofInt 8 127).toNat)) * 16384))).toNat) ||| BitVec.ofInt 32 (IntKind.u32.wrap ((IntKind.u32.wrap (IntKind.u8.wrap (BitVec.ofInt 8 ((s.getD 3 0).toNat:Int) &&& BitVec.ofInt 8 127).toNat)) * 2097152))).toNat))),(75,.v (.slice A s.length c))] hW ag fun bG ay=>?_
 obtain ⟨az,aA,ah,bB,aa⟩:=Slots.get ho (i:=4) (by first | omega | (simp only [List.length_append,be_length,List.length_cons,List.length_nil] at *; omega))
 refine qal (qaA ay (t:=22) (A:=A) (m:=s.length) (q:=4) (d:=76) kz (e:=5) (size:=1) (bytes:=1) (j:=4) kz ah rfl (by first | omega | (simp only [List.length_append,be_length,List.length_cons,List.length_nil] at *; omega)) fun bH aB=>?_)
 refine qal (qaR aB (t:=5) (b:=az) (o:=aA + 4 * 1) (d:=77) kz (cs:=[.int .u8 ((s.getD 4 0).toNat:Int)]) (v:=.int .u8 ((s.getD 4 0).toNat:Int)) kz (AtF.move aa hW.step nilM qbb).at_ fun bI aC=>?_)
 refine qaj [4,5,6,7] [] [(0,.v (.slice A s.length c)),(4,.v (.int .u32 (IntKind.u32.wrap (BitVec.ofInt 32 (IntKind.u32.wrap (BitVec.ofInt 32 (IntKind.u32.wrap (BitVec.ofInt 32 (IntKind.u32.wrap (BitVec.ofInt 32 (IntKind.u32.wrap (IntKind.u8.wrap (BitVec.ofInt 8 ((s.getD 0 0).toNat:Int) &&& BitVec.ofInt 8 127).toNat)) ||| BitVec.ofInt 32 (IntKind.u32.wrap ((IntKind.u32.wrap (IntKind.u8.wrap (BitVec.ofInt 8 ((s.getD 1 0).toNat:Int) &&& BitVec.ofInt 8 127).toNat)) * 128))).toNat) ||| BitVec.ofInt 32 (IntKind.u32.wrap ((IntKind.u32.wrap (IntKind.u8.wrap (BitVec.ofInt 8 ((s.getD 2 0).toNat:Int) &&& BitVec.ofInt 8 127).toNat)) * 16384))).toNat) ||| BitVec.ofInt 32 (IntKind.u32.wrap ((IntKind.u32.wrap (IntKind.u8.wrap (BitVec.ofInt 8 ((s.getD 3 0).toNat:Int) &&& BitVec.ofInt 8 127).toNat)) * 2097152))).toNat) ||| BitVec.ofInt 32 (IntKind.u32.wrap ((IntKind.u32.wrap ((s.getD 4 0).toNat:Int)) * 268435456))).toNat)))] hW aC fun bJ aD=>?_
 refine qae (qab ?_)
 refine wp_seq ?_
 refine qad [0,1,2,3] kz ?_
 refine qaj [0] [1,2,3] [(4,.v (.int .u32 (IntKind.u32.wrap (BitVec.ofInt 32 (IntKind.u32.wrap (BitVec.ofInt 32 (IntKind.u32.wrap (BitVec.ofInt 32 (IntKind.u32.wrap (BitVec.ofInt 32 (IntKind.u32.wrap (IntKind.u8.wrap (BitVec.ofInt 8 ((s.getD 0 0).toNat:Int) &&& BitVec.ofInt 8 127).toNat)) ||| BitVec.ofInt 32 (IntKind.u32.wrap ((IntKind.u32.wrap (IntKind.u8.wrap (BitVec.ofInt 8 ((s.getD 1 0).toNat:Int) &&& BitVec.ofInt 8 127).toNat)) * 128))).toNat) ||| BitVec.ofInt 32 (IntKind.u32.wrap ((IntKind.u32.wrap (IntKind.u8.wrap (BitVec.ofInt 8 ((s.getD 2 0).toNat:Int) &&& BitVec.ofInt 8 127).toNat)) * 16384))).toNat) ||| BitVec.ofInt 32 (IntKind.u32.wrap ((IntKind.u32.wrap (IntKind.u8.wrap (BitVec.ofInt 8 ((s.getD 3 0).toNat:Int) &&& BitVec.ofInt 8 127).toNat)) * 2097152))).toNat) ||| BitVec.ofInt 32 (IntKind.u32.wrap ((IntKind.u32.wrap ((s.getD 4 0).toNat:Int)) * 268435456))).toNat))),(81,.v (.slice A s.length c))] hW aD fun bK aE=>?_
 refine qal (qaA aE (t:=22) (A:=A) (m:=s.length) (q:=4) (d:=82) kz (e:=5) (size:=1) (bytes:=1) (j:=4) kz ah rfl (by first | omega | (simp only [List.length_append,be_length,List.length_cons,List.length_nil] at *; omega)) fun bL aF=>?_)
 refine qal (qaR aF (t:=5) (b:=az) (o:=aA + 4 * 1) (d:=83) kz (cs:=[.int .u8 ((s.getD 4 0).toNat:Int)]) (v:=.int .u8 ((s.getD 4 0).toNat:Int)) kz (AtF.move aa hW.step nilM qbb).at_ fun bM aG=>?_)
 refine qaj [3] [] [(4,.v (.int .u32 (IntKind.u32.wrap (BitVec.ofInt 32 (IntKind.u32.wrap (BitVec.ofInt 32 (IntKind.u32.wrap (BitVec.ofInt 32 (IntKind.u32.wrap (BitVec.ofInt 32 (IntKind.u32.wrap (IntKind.u8.wrap (BitVec.ofInt 8 ((s.getD 0 0).toNat:Int) &&& BitVec.ofInt 8 127).toNat)) ||| BitVec.ofInt 32 (IntKind.u32.wrap ((IntKind.u32.wrap (IntKind.u8.wrap (BitVec.ofInt 8 ((s.getD 1 0).toNat:Int) &&& BitVec.ofInt 8 127).toNat)) * 128))).toNat) ||| BitVec.ofInt 32 (IntKind.u32.wrap ((IntKind.u32.wrap (IntKind.u8.wrap (BitVec.ofInt 8 ((s.getD 2 0).toNat:Int) &&& BitVec.ofInt 8 127).toNat)) * 16384))).toNat) ||| BitVec.ofInt 32 (IntKind.u32.wrap ((IntKind.u32.wrap (IntKind.u8.wrap (BitVec.ofInt 8 ((s.getD 3 0).toNat:Int) &&& BitVec.ofInt 8 127).toNat)) * 2097152))).toNat) ||| BitVec.ofInt 32 (IntKind.u32.wrap ((IntKind.u32.wrap ((s.getD 4 0).toNat:Int)) * 268435456))).toNat))),(84,.v (.bool (decide (((s.getD 4 0).toNat:Int) ≤ 15))))] hW aG fun bN ai=>?_
 refine qae (qab ?_)
 refine qa7 ai (b:=decide (((s.getD 4 0).toNat:Int) ≤ 15)) kz (decide_eq_true (by have:=h4; unfold oc at this; omega)) ?_
 refine qap [(2,.v (.int .u32 (IntKind.u32.wrap (BitVec.ofInt 32 (IntKind.u32.wrap (BitVec.ofInt 32 (IntKind.u32.wrap (BitVec.ofInt 32 (IntKind.u32.wrap (BitVec.ofInt 32 (IntKind.u32.wrap (IntKind.u8.wrap (BitVec.ofInt 8 ((s.getD 0 0).toNat:Int) &&& BitVec.ofInt 8 127).toNat)) ||| BitVec.ofInt 32 (IntKind.u32.wrap ((IntKind.u32.wrap (IntKind.u8.wrap (BitVec.ofInt 8 ((s.getD 1 0).toNat:Int) &&& BitVec.ofInt 8 127).toNat)) * 128))).toNat) ||| BitVec.ofInt 32 (IntKind.u32.wrap ((IntKind.u32.wrap (IntKind.u8.wrap (BitVec.ofInt 8 ((s.getD 2 0).toNat:Int) &&& BitVec.ofInt 8 127).toNat)) * 16384))).toNat) ||| BitVec.ofInt 32 (IntKind.u32.wrap ((IntKind.u32.wrap (IntKind.u8.wrap (BitVec.ofInt 8 ((s.getD 3 0).toNat:Int) &&& BitVec.ofInt 8 127).toNat)) * 2097152))).toNat) ||| BitVec.ofInt 32 (IntKind.u32.wrap ((IntKind.u32.wrap ((s.getD 4 0).toNat:Int)) * 268435456))).toNat))),(3,.v (.int .i64 5))] hW ai fun bO aH=>?_
 refine wp_ret ?_
 refine qan ?_
 refine qdt ?_
 refine qaK aH hW.cells (v:=.tuple #[.int .u32 (IntKind.u32.wrap (BitVec.ofInt 32 (IntKind.u32.wrap (BitVec.ofInt 32 (IntKind.u32.wrap (BitVec.ofInt 32 (IntKind.u32.wrap (BitVec.ofInt 32 (IntKind.u32.wrap (IntKind.u8.wrap (BitVec.ofInt 8 ((s.getD 0 0).toNat:Int) &&& BitVec.ofInt 8 127).toNat)) ||| BitVec.ofInt 32 (IntKind.u32.wrap ((IntKind.u32.wrap (IntKind.u8.wrap (BitVec.ofInt 8 ((s.getD 1 0).toNat:Int) &&& BitVec.ofInt 8 127).toNat)) * 128))).toNat) ||| BitVec.ofInt 32 (IntKind.u32.wrap ((IntKind.u32.wrap (IntKind.u8.wrap (BitVec.ofInt 8 ((s.getD 2 0).toNat:Int) &&& BitVec.ofInt 8 127).toNat)) * 16384))).toNat) ||| BitVec.ofInt 32 (IntKind.u32.wrap ((IntKind.u32.wrap (IntKind.u8.wrap (BitVec.ofInt 8 ((s.getD 3 0).toNat:Int) &&& BitVec.ofInt 8 127).toNat)) * 2097152))).toNat) ||| BitVec.ofInt 32 (IntKind.u32.wrap ((IntKind.u32.wrap ((s.getD 4 0).toNat:Int)) * 268435456))).toNat),.int .i64 5]) kz ?_
 have e_:=uv_5 (oc s 0) (oc s 1) (oc s 2) (oc s 3) (oc s 4) (qcc s 0) (qcc s 1) (qcc s 2) (qcc s 3) (by omega)
 refine ⟨congrArg (fun z_:Int=>Ending.returned (.tuple #[.int .u32 z_,.int .i64 5])) (Eq.trans e_ ?_),hW.step⟩
 omega
theorem rUv (x:Nat) (hx:x < 4294967296) (rest:Bs) {A:Option Addr} {c:Nat} {w:World} {F:Nat → Nat → Prop} (ho:Octs w F A c (uv x ++ rest)) :
  Calls Tryz.prog 141 #[.slice A (uv x ++ rest).length c] w (qci w (.tuple #[.int .u32 ((x:Nat):Int),.int .i64 (((uv x).length:Nat):Int)])):=by
 have hl:=qiI hx
 have hL:(uv x ++ rest).length = (uv x).length + rest.length:=List.length_append
 by_cases h1:x < 128
 ·rw [if_pos h1] at hl
  have h:=rUv1 (uv x ++ rest) ho (by omega) x (by rw [qf3,if_pos h1]) h1
  rw [hl]; simpa using h
 rw [if_neg h1] at hl
 have o0:oc (uv x ++ rest) 0 = x % 128 + 128:=by rw [qf3,if_neg h1]
 have o1:oc (uv x ++ rest) 1 = oc (uv (x / 128) ++ rest) 0:=qdS (by omega) rest 0
 by_cases h2:x < 16384
 ·rw [if_pos h2] at hl
  rw [qf3,if_pos (by omega)] at o1
  have h:=rUv2 (uv x ++ rest) ho (by omega) (x % 128) (x / 128) o0 o1 (by omega) (by omega)
  rw [show x % 128 + x / 128 * 128 = x by omega] at h
  rw [hl]; exact h
 rw [if_neg h2] at hl
 have o2:oc (uv x ++ rest) 2 = oc (uv (x / 128 / 128) ++ rest) 0:=(qdS (by omega) rest 1).trans (qdS (by omega) rest 0)
 rw [qf3,if_neg (by omega)] at o1
 by_cases h3:x < 2097152
 ·rw [if_pos h3] at hl
  rw [qf3,if_pos (by omega)] at o2
  have h:=rUv3 (uv x ++ rest) ho (by omega) (x % 128) (x / 128 % 128) (x / 128 / 128) o0 o1 o2 (by omega) (by omega) (by omega)
  rw [show x % 128 + x / 128 % 128 * 128 + x / 128 / 128 * 16384 = x by omega] at h
  rw [hl]; exact h
 rw [if_neg h3] at hl
 have o3:oc (uv x ++ rest) 3 = oc (uv (x / 128 / 128 / 128) ++ rest) 0:=(qdS (by omega) rest 2).trans ((qdS (by omega) rest 1).trans (qdS (by omega) rest 0))
 rw [qf3,if_neg (by omega)] at o2
 by_cases h4:x < 268435456
 ·rw [if_pos h4] at hl
  rw [qf3,if_pos (by omega)] at o3
  have h:=rUv4 (uv x ++ rest) ho (by omega) (x % 128) (x / 128 % 128) (x / 128 / 128 % 128) (x / 128 / 128 / 128) o0 o1 o2 o3 (by omega) (by omega) (by omega) (by omega)
  rw [show x % 128 + x / 128 % 128 * 128 + x / 128 / 128 % 128 * 16384 + x / 128 / 128 / 128 * 2097152 = x by omega] at h
  rw [hl]; exact h
 rw [if_neg h4] at hl
 have o4:oc (uv x ++ rest) 4 = oc (uv (x / 128 / 128 / 128 / 128) ++ rest) 0:=(qdS (by omega) rest 3).trans ((qdS (by omega) rest 2).trans ((qdS (by omega) rest 1).trans (qdS (by omega) rest 0)))
 rw [qf3,if_neg (by omega)] at o3
 rw [qf3,if_pos (by omega)] at o4
 have h:=rUv5 (uv x ++ rest) ho (by omega) (x % 128) (x / 128 % 128) (x / 128 / 128 % 128) (x / 128 / 128 / 128 % 128) (x / 128 / 128 / 128 / 128) o0 o1 o2 o3 o4 (by omega) (by omega) (by omega) (by omega) (by omega)
 rw [show x % 128 + x / 128 % 128 * 128 + x / 128 / 128 % 128 * 16384 + x / 128 / 128 / 128 % 128 * 2097152 + x / 128 / 128 / 128 / 128 * 268435456 = x by omega] at h
 rw [hl]; exact h
theorem qei (x:Nat) (hx:x < 4294967296) (rest:Bs)  {br:Nat} {A:Option Addr} {m c:Nat} {w:World} {F:Nat → Nat → Prop} (hst:Str w br [.slice A m c,.bool false]) (hr:RdS w F A m c (uv x ++ rest)) (hFd:∀ b o,F b o → ¬ RdM br b o) :
  Calls Tryz.prog 128 #[.pointer (some ⟨br,0,none⟩)] w (RdPost w br F rest fun v w'=>v = .int .u32 ((x:Nat):Int)):=by
 obtain ⟨hm,ho⟩:=hr
 subst hm
 have hle:=ho.le
 have hpos:=qhY x
 refine enter (n:=31) Tryz.func128 rfl Tryz.ntmps128 kz fun a hE=>?_
 have hW:WOk w (RdM br) w [⟨br,0,[.slice A ((uv x ++ rest).length) c,.bool false],true⟩] []:=WOk.startStr hst
 have hE1:=(hE.grow ⟨br,0,[.slice A ((uv x ++ rest).length) c,.bool false],true⟩).recast 0 (.v (.pointer (some ⟨br,0,none⟩))) (.p 0 0) rfl rfl (Nat.le_of_ble_eq_true (n:=1) rfl)
 refine qap [(0,.p 0 0)] hW hE1 fun a1 hE2=>?_
 refine qad [0,1,2,3,4,5,6,7,8,9] kz ?_
 refine qaj [0,1,2,3] [4,5,6,7,8,9] [(0,.p 0 0),(9,.v (.slice A ((uv x ++ rest).length) c))] hW hE2 fun a3 hE4=>?_
 refine qal (qak hE4 (f:=141) (vs:=[.slice A ((uv x ++ rest).length) c]) (d:=10) kz Tryz.call141 (rUv x hx rest (ho.move hW.step (fun b_ o_ h_ _=>hFd b_ o_ h_) (hW.immM hFd))) ?_)
 rintro e_ w6 ⟨rfl,hs5⟩
 refine ⟨_,rfl,fun a7 hE8=>?_⟩
 have hW9:=hW.next_nil hs5
 have aj:=hW.frN hs5
 refine qaj [5,6,7,8,9] [] [(0,.p 0 0),(3,.v (.int .u32 ((x:Nat):Int))),(4,.v (.int .i64 (((uv x).length:Nat):Int)))] hW9 hE8 fun al ac=>?_
 refine qae (qab ?_)
 refine wp_seq ?_
 refine qap [(0,.p 0 0),(3,.v (.int .u32 ((x:Nat):Int))),(4,.v (.int .i64 (((uv x).length:Nat):Int))),(14,.v (.bool (decide ((((uv x).length:Nat):Int) ≤ 0))))] hW9 ac fun am ab=>?_
 refine qao ab (b:=decide ((((uv x).length:Nat):Int) ≤ 0)) kz (decide_eq_false (by omega)) ?_
 refine wp_skip ?_
 refine qab ?_
 refine qad [0,1,2,3,4,5,6,7,8,9] kz ?_
 refine qaj [0,1,2,3,4,5] [6,7,8,9] [(3,.v (.int .u32 ((x:Nat):Int))),(21,.p 0 0),(25,.v (.slice A ((uv x ++ rest).length) c)),(26,.v (.int .i64 (((uv x).length:Nat):Int)))] hW9 ab fun ao ae=>?_
 refine qal (qdh ae (t:=22) (A:=A) (m:=((uv x ++ rest).length)) (cp:=c) (q:=(((uv x).length:Nat):Int)) (d:=27) (j:=((uv x).length)) kz (e:=5) (bytes:=1) kz (rfl) (by first | omega | (simp only [List.length_append,be_length,List.length_cons,List.length_nil] at *; omega)) fun ap af=>?_)
 refine qaj [7,8] [9] [(3,.v (.int .u32 ((x:Nat):Int))),(27,.v (.slice (cutA A c ((uv x).length)) (((uv x ++ rest).length) - ((uv x).length)) (c - ((uv x).length)))),(29,.p 0 0)] hW9 af fun ar ag=>?_
 refine qal (qau hW9 ag (oi:=0) (cs:=[.slice (cutA A c ((uv x).length)) (((uv x ++ rest).length) - ((uv x).length)) (c - ((uv x).length)),.bool false]) kz fun au ak aa ah=>?_)
 refine qae (qab ?_)
 refine qap [(2,.v (.int .u32 ((x:Nat):Int)))] aa ah fun av ai=>?_
 refine wp_ret ?_
 refine qaK ai aa.cells (v:=.int .u32 ((x:Nat):Int)) kz ?_
 exact ⟨_,_,_,_,rfl,Str.of aa 0 rfl,RdS.drop (s:=uv x) ⟨rfl,ho.move aa.step (fun b_ o_ h_ _=>hFd b_ o_ h_) qbb⟩ (rfl),aa.step,rfl⟩
theorem qkY (X:Bs) (rest:Bs)  {br:Nat} {A:Option Addr} {m c:Nat} {w:World} {F:Nat → Nat → Prop} (hst:Str w br [.slice A m c,.bool false]) (hr:RdS w F A m c (X ++ rest)) (hFd:∀ b o,F b o → ¬ RdM br b o) :
  Calls Tryz.prog 129 #[.pointer (some ⟨br,0,none⟩),.int .i64 ((X.length:Nat):Int)] w (RdPost w br F rest fun v w'=>∃ A2,v = .slice A2 X.length X.length ∧ Octs w' F A2 X.length X):=by
 obtain ⟨hm,ho⟩:=hr
 subst hm
 have hle:=ho.le
 refine enter (n:=40) Tryz.func129 rfl Tryz.ntmps129 kz fun a hE=>?_
 have hW:WOk w (RdM br) w [⟨br,0,[.slice A ((X ++ rest).length) c,.bool false],true⟩] []:=WOk.startStr hst
 have hE1:=(hE.grow ⟨br,0,[.slice A ((X ++ rest).length) c,.bool false],true⟩).recast 0 (.v (.pointer (some ⟨br,0,none⟩))) (.p 0 0) rfl rfl (Nat.le_of_ble_eq_true (n:=1) rfl)
 refine qap [(0,.p 0 0),(1,.v (.int .i64 ((X.length:Nat):Int)))] hW hE1 fun a1 hE2=>?_
 refine wp_seq ?_
 refine qad [0,1,2,3,4,5,6,7,8,9,10] kz ?_
 refine qaj [0,1,2,3,4,5,6,7] [8,9,10] [(0,.p 0 0),(1,.v (.int .i64 ((X.length:Nat):Int))),(13,.v (.bool (decide ((((X ++ rest).length:Nat):Int) < ((X.length:Nat):Int)))))] hW hE2 fun a3 hE4=>?_
 have hc5:(decide ((((X ++ rest).length:Nat):Int) < ((X.length:Nat):Int))) = false:=decide_eq_false (by first | omega | (simp only [List.length_append,be_length,List.length_cons,List.length_nil] at *; omega))
 have hE6:=hE4.cast (env':=[(0,.p 0 0),(1,.v (.int .i64 ((X.length:Nat):Int))),(13,.v (.bool false))]) (by rw [hc5])
 refine qaj [8,9,10] [] [(0,.p 0 0),(1,.v (.int .i64 ((X.length:Nat):Int))),(16,.v (.bool (decide (((X.length:Nat):Int) < 0))))] hW hE6 fun a7 hE8=>?_
 refine qae (qab ?_)
 refine qao hE8 (b:=decide (((X.length:Nat):Int) < 0)) kz (decide_eq_false (by first | omega | (simp only [List.length_append,be_length,List.length_cons,List.length_nil] at *; omega))) ?_
 refine wp_skip ?_
 refine qab ?_
 refine qad [0,1,2,3,4,5,6,7] kz ?_
 refine qaj [0,1,2,3,4,5] [6,7] [(0,.p 0 0),(1,.v (.int .i64 ((X.length:Nat):Int))),(26,.v (.slice A ((X ++ rest).length) c)),(27,.v (.int .i64 ((X.length:Nat):Int))),(28,.v (.int .i64 ((X.length:Nat):Int)))] hW hE8 fun a9 ab=>?_
 refine qal (qjk ab (t:=22) (A:=A) (m:=((X ++ rest).length)) (cp:=c) (k:=.i64) (q:=((X.length:Nat):Int)) (d:=29) (j:=X.length) kz (e:=5) (bytes:=1) kz (rfl) (by first | omega | (simp only [List.length_append,be_length,List.length_cons,List.length_nil] at *; omega)) fun al ac=>?_)
 refine qaj [7] [] [(0,.p 0 0),(1,.v (.int .i64 ((X.length:Nat):Int))),(5,.v (.slice A X.length X.length))] hW ac fun am ae=>?_
 refine qae (qab ?_)
 refine qad [0,1,2,3,4,5,6,7,8,9] kz ?_
 refine qaj [0,1,2,3,4,5] [6,7,8,9] [(5,.v (.slice A X.length X.length)),(30,.p 0 0),(34,.v (.slice A ((X ++ rest).length) c)),(35,.v (.int .i64 ((X.length:Nat):Int)))] hW ae fun ao af=>?_
 refine qal (qdh af (t:=22) (A:=A) (m:=((X ++ rest).length)) (cp:=c) (q:=((X.length:Nat):Int)) (d:=36) (j:=X.length) kz (e:=5) (bytes:=1) kz (rfl) (by first | omega | (simp only [List.length_append,be_length,List.length_cons,List.length_nil] at *; omega)) fun ap ag=>?_)
 refine qaj [7,8] [9] [(5,.v (.slice A X.length X.length)),(36,.v (.slice (cutA A c X.length) (((X ++ rest).length) - X.length) (c - X.length))),(38,.p 0 0)] hW ag fun ar ah=>?_
 refine qal (qau hW ah (oi:=0) (cs:=[.slice (cutA A c X.length) (((X ++ rest).length) - X.length) (c - X.length),.bool false]) kz fun au ak aa ai=>?_)
 refine qae (qab ?_)
 refine qap [(4,.v (.slice A X.length X.length))] aa ai fun av aj=>?_
 refine wp_ret ?_
 refine qaK aj aa.cells (v:=.slice A X.length X.length) kz ?_
 exact ⟨_,_,_,_,rfl,Str.of aa 0 rfl,RdS.drop (s:=X) ⟨rfl,ho.move aa.step (fun b_ o_ h_ _=>hFd b_ o_ h_) qbb⟩ (rfl),aa.step,A,rfl,RdS.front (s:=X) ⟨rfl,ho.move aa.step (fun b_ o_ h_ _=>hFd b_ o_ h_) qbb⟩ rfl⟩
theorem qjp {br:Nat} {A:Option Addr} {m c:Nat} {w:World} (hst:Str w br [.slice A m c,.bool false]) :
  Calls Tryz.prog 96 #[.pointer (some ⟨br,0,none⟩)] w (fun e w'=>e = .returned .nilIface ∧ w' = w):=by
 refine enter (n:=8) Tryz.func96 rfl Tryz.ntmps96 kz fun a hE=>?_
 have hW:WOk w (RdM br) w [⟨br,0,[.slice A m c,.bool false],true⟩] []:=WOk.startStr hst
 have hE1:=(hE.grow ⟨br,0,[.slice A m c,.bool false],true⟩).recast 0 (.v (.pointer (some ⟨br,0,none⟩))) (.p 0 0) rfl rfl (Nat.le_of_ble_eq_true (n:=1) rfl)
 refine qap [(0,.p 0 0)] hW hE1 fun a1 hE2=>?_
 refine wp_seq ?_
 refine qap [(6,.v (.bool false))] hW hE2 fun a3 hE4=>?_
 refine qao hE4 (b:=false) kz rfl ?_
 refine wp_skip ?_
 refine qab ?_
 refine qap [(2,.v (.nilIface))] hW hE4 fun a5 hE6=>?_
 refine wp_ret ?_
 refine qaK hE6 hW.cells (v:=.nilIface) kz ?_
 exact ⟨rfl,rfl⟩
structure TR (w w':World) (br p2 p3:Nat) (F:Nat → Nat → Prop) (A:Option Addr) (n c:Nat) (s:Bs) (m:Option Nat) (u:List (Int × Bs)):Prop where
 step:Step w w' (RdM br)
 old:br < w.heap.size
 new2:w.heap.size ≤ p2
 new3:w.heap.size ≤ p3
 ne:p2 ≠ p3
 rd:Str w' br [.slice A n c,.bool false]
 s2:Str w' p2 [.map none]
 s3:Str w' p3 [.map m]
 oct:RdS w' (fun b o=>F b o ∧ b < w.heap.size) A n c s
 own:OwnM w' (fun b o=>F b o ∧ b < w.heap.size) m u
 new:∀ r,m = some r → w.heap.size ≤ r
theorem TR.mne {w w':World} {br p2 p3:Nat} {F:Nat → Nat → Prop} {A:Option Addr} {n c:Nat} {s:Bs} {m:Option Nat} {u:List (Int × Bs)} (h:TR w w' br p2 p3 F A n c s m u):m ≠ some p2 ∧ m ≠ some p3:=by
 refine ⟨fun e=>?_,fun e=>?_⟩
 ·obtain ⟨es,clk,h1,_⟩:=h.own.some_ p2 e
  exact qes (h.s2.at_ 0 _ rfl) h1 rfl
 obtain ⟨es,clk,h1,_⟩:=h.own.some_ p3 e
 exact qes (h.s3.at_ 0 _ rfl) h1 rfl
theorem TR.read {w w' w1:World} {br p2 p3:Nat} {F:Nat → Nat → Prop} {A A':Option Addr} {n c n' c':Nat} {s s':Bs} {m:Option Nat} {u:List (Int × Bs)} (h:TR w w' br p2 p3 F A n c s m u) (hFd:∀ b o,F b o → ¬ RdM br b o) (hs:Str w1 br [.slice A' n' c',.bool false]) (hr:RdS w1 (fun b o=>F b o ∧ b < w.heap.size) A' n' c' s') (hst:Step w' w1 (RdM br)):TR w w1 br p2 p3 F A' n' c' s' m u:=by
 have ho:=h.old
 have h2:=h.new2
 have h3:=h.new3
 refine ⟨h.step.trans hst fun _ _ _ e=>e,ho,h2,h3,h.ne,hs,h.s2.move hst fun o e=>?_,h.s3.move hst fun o e=>?_,hr,h.own.move hst (fun b o hg _=>hFd b o hg.1) qbb (fun r o e he=>?_),h.new⟩
 ·have:=e.1; omega
 ·have:=e.1; omega
 have:=h.new r e; have:=he.1; omega
theorem TR.set {w w':World} {br p2 p3:Nat} {F:Nat → Nat → Prop} {A A1:Option Addr} {n c c1 j:Nat} {s x:Bs} {k:Int} {m:Option Nat} {u:List (Int × Bs)} (h:TR w w' br p2 p3 F A n c s m (u.take j)) (hsort:qc9 u) (hj:u[j]? = some (k,x)) (hx:Octs w' (fun b o=>F b o ∧ b < w.heap.size) A1 c1 x) (hk:0 ≤ k ∧ k < 4294967296) :
  Calls Tryz.prog 130 [.pointer (some ⟨p3,0,none⟩),.int .u32 k,.slice A1 x.length c1].toArray w' (fun e w1=>e = .returned (.tuple #[]) ∧ ∃ r,TR w w1 br p2 p3 F A n c s (some r) (u.take (j + 1))):=by
 have hcell:w'.cell? ⟨p3,0,none⟩ = some (.map m):=h.s3.at_ 0 _ rfl
 have hfz:w'.frozen? ⟨p3,0,none⟩ = false:=h.s3.frz 0 (by simp)
 have hnew:=h.new
 have h2:=h.new2
 have h3:=h.new3
 have ho:=h.old
 have hsz:=h.step.size
 obtain ⟨m2,m3⟩:=h.mne
 refine (qjP hcell hfz h.own hx hk (fun b' o' hg=>⟨fun e=>?_,fun e=>?_⟩) (fun b' o' hg=>Nat.lt_of_lt_of_le hg.2 hsz)).mono ?_
 ·have:=hg.2; omega
 ·have:=hnew b' e; have:=hg.2; omega
 rintro e w1 ⟨rfl,r,g1,g2,g3,g4,g5⟩
 rw [qiN hsort hj] at g3
 refine ⟨rfl,r,h.step.trans g5 fun b o hl e=>?_,ho,h2,h3,h.ne,h.rd.move g5 fun o e=>?_,h.s2.move g5 fun o e=>?_,⟨fun i v hi=>?_,fun i hi=>?_⟩,⟨h.oct.len,Octs.move h.oct.oct g5 (fun b o hg _ e=>?_) qbb⟩,g3,fun r' hr'=>?_⟩
 ·rcases e with ⟨e1,_⟩ | e1
  ·omega
  have:=hnew b e1; omega
 ·rcases e with ⟨e1,_⟩ | e1
  ·omega
  have:=hnew br e1; omega
 ·rcases e with ⟨e1,_⟩ | e1
  ·exact h.ne e1
  exact m2 e1
 ·cases i with
  | zero =>
   simp only [List.getElem?_cons_zero,Option.some.injEq] at hi
   subst hi
   exact g1
  | succ i=>simp at hi
 ·have:i = 0:=by simp at hi; omega
  subst this
  exact g2
 ·have:=hg.2
  rcases e with ⟨e1,_⟩ | e1
  ·omega
  have:=hnew b e1; omega
 obtain rfl:=Option.some.inj hr'
 rcases g4 with g4 | g4
 ·exact hnew _ g4
 exact Nat.le_trans hsz g4
theorem qig (x:Int × Bs) (u:List (Int × Bs)):qcE (x :: u) = tagR x.1 x.2 ++ qcE u:=by unfold qcE; rw [List.flatMap_cons]
theorem qih {u:List (Int × Bs)} {j:Nat} {k:Int} {x:Bs} (h:u[j]? = some (k,x)) (rest:Bs):qcE (u.drop j) ++ rest = uv k.toNat ++ (uv x.length ++ (x ++ (qcE (u.drop (j + 1)) ++ rest))):=by
 obtain ⟨hlt,he⟩:=List.getElem?_eq_some_iff.1 h
 rw [List.drop_eq_getElem_cons hlt,he,qig]
 simp only [tagR,List.append_assoc]
theorem qlM (u:List (Int × Bs)) (rest:Bs) (hsort:qc9 u) (hk:∀ x ∈ u,0 ≤ x.1 ∧ x.1 < 4294967296) (hul:u.length ≤ 1000000) (hxl:∀ x ∈ u,x.2.length < 4294967296) {br:Nat} {A:Option Addr} {m c:Nat} {w:World} {F:Nat → Nat → Prop} (hst:Str w br [.slice A m c,.bool false]) (hr:RdS w F A m c (uv u.length ++ (qcE u ++ rest))) (hFd:∀ b o,F b o → ¬ RdM br b o) :
  Calls Tryz.prog 101 #[.pointer (some ⟨br,0,none⟩)] w (RdPost w br (Fp F w) rest fun v w'=>∃ mm,v = .agg #[.map mm] ∧ MapR w' (Fp F w) mm u):=by
 have hbr:br < w.heap.size:=World.lt_of_cell (hst.at_ 0 _ rfl)
 refine enter (n:=24) (vs:=[.pointer (some ⟨br,0,none⟩)]) Tryz.func101 rfl Tryz.ntmps101 kz fun a hE=>?_
 have hW:=WOk.start w Nil
 refine qad [0] kz ?_
 refine qal (qaU hW hE (d:=2) (cs:=[.map none]) kz fun p2 a1 w1 hp2 hz2 hF1 hW1 hE1=>qae (qab ?_))
 refine qad [0] kz ?_
 refine qal (qaU hW1 hE1 (d:=3) (cs:=[.map none]) kz fun p3 a2 w2 hp3 hz3 hF2 hW2 hE2=>qae (qab ?_))
 have hne:p2 ≠ p3:=by
  have h1:=hW1.live 0 _ rfl
  simp only at h1
  omega
 have hS:Step w w2 Nil:=hW2.step
 have hT0:TR w w2 br p2 p3 F A m c (uv u.length ++ (qcE u ++ rest)) none (u.take 0):=by
  refine ⟨hS.mono fun _ _ _ h=>h.elim,hbr,hz2,hz3,hne,hst.move hS (fun _ h=>h),Str.of hW2 0 rfl,Str.of hW2 1 rfl,hr.move hS nilM (fun b o h hb=>⟨h,hb⟩),?_,fun _ h=>by cases h⟩
  rw [List.take_zero]
  exact OwnM.nil _ _
 refine wp_seq ?_
 have hE3:=(((hE2.recast 2 (.p 0 0) (.v (.pointer (some ⟨p2,0,none⟩))) rfl rfl trivial).recast 3 (.p 1 0) (.v (.pointer (some ⟨p3,0,none⟩))) rfl rfl trivial).pick (ks:=[0,2,3]) (env':=[(0,.v (.pointer (some ⟨br,0,none⟩))),(2,.v (.pointer (some ⟨p2,0,none⟩))),(3,.v (.pointer (some ⟨p3,0,none⟩)))]) kz).cutTb 0 kz
 have hWz:=WOk.start w2 Nil
 refine qad [0,1,2] kz ?_
 refine qaj [0] [1,2] [(0,.v (.pointer (some ⟨br,0,none⟩))),(2,.v (.pointer (some ⟨p2,0,none⟩))),(3,.v (.pointer (some ⟨p3,0,none⟩))),(7,.v (.pointer (some ⟨br,0,none⟩)))] hWz hE3 fun a3 hE4=>?_
 have hFd':∀ b o,(F b o ∧ b < w.heap.size) → ¬ RdM br b o:=fun b o h=>hFd b o h.1
 refine qal (qak hE4 (f:=128) (vs:=[.pointer (some ⟨br,0,none⟩)]) (d:=8) kz Tryz.call128 (qei u.length (by omega) (qcE u ++ rest) hT0.rd hT0.oct hFd') ?_)
 rintro e_ w3 ⟨_,A3,n3,c3,rfl,hs3,hr3,hst3,rfl⟩
 have hT1:=hT0.read hFd hs3 hr3 hst3
 refine ⟨_,rfl,fun a4 hE5=>?_⟩
 refine qaj [2] [] [(0,.v (.pointer (some ⟨br,0,none⟩))),(2,.v (.pointer (some ⟨p2,0,none⟩))),(3,.v (.pointer (some ⟨p3,0,none⟩))),(4,.v (.int .u32 ((u.length:Nat):Int)))] (WOk.start w3 Nil) hE5 fun a5 hE6=>qae (qab ?_)
 refine wp_block ?_
 refine wp_loop_ghost (fun q a_ w_=>∃ (j:Nat) (m_:Option Nat) (A_:Option Addr) (n_ c_:Nat),q = u.length - j ∧ j ≤ u.length ∧ EnvOk 24 [] [(0,.v (.pointer (some ⟨br,0,none⟩))),(2,.v (.pointer (some ⟨p2,0,none⟩))),(3,.v (.pointer (some ⟨p3,0,none⟩))),(4,.v (.int .u32 ((u.length - j:Nat):Int)))] a_ ∧ TR w w_ br p2 p3 F A_ n_ c_ (qcE (u.drop j) ++ rest) m_ (u.take j)) u.length
  ⟨0,none,A3,n3,c3,by omega,by omega,hE6,hT1⟩ ?_
 rintro q aq wq ⟨j,m_,A_,n_,c_,rfl,hj,hEq,hT⟩
 have hWq:=WOk.start wq Nil
 refine wp_seq (qap [(0,.v (.pointer (some ⟨br,0,none⟩))),(2,.v (.pointer (some ⟨p2,0,none⟩))),(3,.v (.pointer (some ⟨p3,0,none⟩))),(4,.v (.int .u32 ((u.length - j:Nat):Int))),(10,.v (.bool (decide (((u.length - j:Nat):Int) > 0))))] hWq hEq fun aq1 hE7=>?_)
 refine qav hE7 (b:=decide (((u.length - j:Nat):Int) > 0)) kz (fun hc=>?_) (fun hc=>?_)
 ·have hlt:j < u.length:=by have:=of_decide_eq_true hc; omega
  obtain ⟨⟨k,x⟩,hu⟩:∃ y,u[j]? = some y:=⟨_,List.getElem?_eq_getElem hlt⟩
  have hk':=hk (k,x) (List.mem_of_getElem? hu)
  have hx':=hxl (k,x) (List.mem_of_getElem? hu)
  dsimp only at hk' hx'
  have hoct:=hT.oct
  rw [qih hu rest] at hoct
  refine wp_skip (qab (wp_seq (wp_block ?_)))
  refine qad [0,1,2,3,4,5] kz ?_
  refine qaj [0] [1,2,3,4,5] [(0,.v (.pointer (some ⟨br,0,none⟩))),(2,.v (.pointer (some ⟨p2,0,none⟩))),(3,.v (.pointer (some ⟨p3,0,none⟩))),(4,.v (.int .u32 ((u.length - j:Nat):Int))),(13,.v (.pointer (some ⟨br,0,none⟩)))] hWq hE7 fun aq2 hE8=>?_
  refine qal (qak hE8 (f:=128) (vs:=[.pointer (some ⟨br,0,none⟩)]) (d:=14) kz Tryz.call128 (qei k.toNat (by omega) _ hT.rd hoct hFd') ?_)
  rintro e_ wa ⟨_,Aa,na,ca,rfl,hsa,hra,hsta,rfl⟩
  have hTa:=hT.read hFd hsa hra hsta
  refine ⟨_,rfl,fun aq3 hE9=>?_⟩
  refine qaj [2] [3,4,5] [(0,.v (.pointer (some ⟨br,0,none⟩))),(2,.v (.pointer (some ⟨p2,0,none⟩))),(3,.v (.pointer (some ⟨p3,0,none⟩))),(4,.v (.int .u32 ((u.length - j:Nat):Int))),(14,.v (.int .u32 ((k.toNat:Nat):Int))),(15,.v (.pointer (some ⟨br,0,none⟩)))] (WOk.start wa Nil) hE9 fun aq4 hE10=>?_
  refine qal (qak hE10 (f:=128) (vs:=[.pointer (some ⟨br,0,none⟩)]) (d:=16) kz Tryz.call128 (qei x.length hx' _ hTa.rd hTa.oct hFd') ?_)
  rintro e_ wb ⟨_,Ab,nb,cb,rfl,hsb,hrb,hstb,rfl⟩
  have hTb:=hTa.read hFd hsb hrb hstb
  refine ⟨_,rfl,fun aq5 hE11=>?_⟩
  refine qaj [4,5] [] [(0,.v (.pointer (some ⟨br,0,none⟩))),(2,.v (.pointer (some ⟨p2,0,none⟩))),(3,.v (.pointer (some ⟨p3,0,none⟩))),(4,.v (.int .u32 ((u.length - j:Nat):Int))),(5,.v (.int .u32 ((k.toNat:Nat):Int))),(6,.v (.int .u32 ((x.length:Nat):Int)))] (WOk.start wb Nil) hE11 fun aq6 hE12=>qae (qab ?_)
  refine qaq [0,1,2,3,4,5] kz ?_
  refine qaj [0,1,2,3] [4,5] [(0,.v (.pointer (some ⟨br,0,none⟩))),(2,.v (.pointer (some ⟨p2,0,none⟩))),(3,.v (.pointer (some ⟨p3,0,none⟩))),(4,.v (.int .u32 ((u.length - j:Nat):Int))),(17,.v (.int .u32 ((k.toNat:Nat):Int))),(18,.v (.pointer (some ⟨br,0,none⟩))),(20,.v (.int .i64 (IntKind.i64.wrap ((x.length:Nat):Int))))] (WOk.start wb Nil) hE12 fun aq7 hE13=>?_
  rw [show IntKind.i64.wrap ((x.length:Nat):Int) = ((x.length:Nat):Int) by rw [i64w]; omega,show ((k.toNat:Nat):Int) = k by omega] at hE13
  refine qal (qak hE13 (f:=129) (vs:=[.pointer (some ⟨br,0,none⟩),.int .i64 ((x.length:Nat):Int)]) (d:=21) kz Tryz.call129 (qkY x _ hTb.rd hTb.oct hFd') ?_)
  rintro e_ wc ⟨_,Ac,nc,cc,rfl,hsc,hrc,hstc,Ax,rfl,hox⟩
  have hTc:=hTb.read hFd hsc hrc hstc
  refine ⟨_,rfl,fun aq8 hE14=>?_⟩
  refine qal (qak hE14 (f:=130) (vs:=[.pointer (some ⟨p3,0,none⟩),.int .u32 k,.slice Ax x.length x.length]) (d:=22) kz Tryz.call130 (hTc.set hsort hu hox hk') ?_)
  rintro e_ wd ⟨rfl,r,hTd⟩
  refine ⟨_,rfl,fun aq9 hE15=>qae (qar (qab ?_))⟩
  refine qaq [0,1,2] kz (qaj [0,1,2] [] [(0,.v (.pointer (some ⟨br,0,none⟩))),(2,.v (.pointer (some ⟨p2,0,none⟩))),(3,.v (.pointer (some ⟨p3,0,none⟩))),(4,.v (.int .u32 (IntKind.u32.wrap (((u.length - j:Nat):Int) - 1))))] (WOk.start wd Nil) hE15 fun aqa hE16=>qae (qab ?_))
  rw [show IntKind.u32.wrap (((u.length - j:Nat):Int) - 1) = ((u.length - (j + 1):Nat):Int) by rw [qay]; omega] at hE16
  exact ⟨u.length - (j + 1),by omega,j + 1,some r,Ac,nc,cc,rfl,by omega,hE16,hTd⟩
 obtain rfl:j = u.length:=by have:=of_decide_eq_false hc; omega
 refine wp_exit (qaw (qaw (qaL (qab ?_))))
 rw [List.take_length,List.drop_length] at hT
 have hT':TR w wq br p2 p3 F A_ n_ c_ rest m_ u:=hT
 have h2:=hT'.new2
 have h3:=hT'.new3
 have hW9:WOk w (RdM br) wq ([] ++ [⟨p3,0,[.map m_],true⟩] ++ [⟨p2,0,[.map none],true⟩]) []:=by
  have hb:WOk w (RdM br) wq [] []:=⟨hT'.step,fun i o hi=>by simp at hi,fun i o hi=>by simp at hi,fun i o hi=>by simp at hi,fun i j o o' _ hi=>by simp at hi,fun i r hi=>by simp at hi,fun i r hi=>by simp at hi,fun i r hi=>by simp at hi,fun i j r r' _ hi=>by simp at hi⟩
  have h4:=hb.add ⟨p3,0,[.map m_],true⟩ (World.lt_of_cell (hT'.s3.at_ 0 _ rfl)) (fun j v hj=>by rw [Nat.zero_add]; exact hT'.s3.at_ j v hj) (fun _ j hj=>⟨.inl h3,by rw [Nat.zero_add]; exact hT'.s3.frz j hj⟩) (fun i o hi=>by simp at hi) (fun i r hi=>by simp at hi)
  refine h4.add ⟨p2,0,[.map none],true⟩ (World.lt_of_cell (hT'.s2.at_ 0 _ rfl)) (fun j v hj=>by rw [Nat.zero_add]; exact hT'.s2.at_ j v hj) (fun _ j hj=>⟨.inl h2,by rw [Nat.zero_add]; exact hT'.s2.frz j hj⟩) (fun i o hi _=>.inl ?_) (fun i r hi=>by simp at hi)
  have:o = ⟨p3,0,[.map m_],true⟩:=by
   have hm:=List.mem_of_getElem? hi
   simpa using hm
  rw [this]
  exact fun e=>hT'.ne e.symm
 have hE17:=(((hE7.retable [⟨p3,0,[.map m_],true⟩,⟨p2,0,[.map none],true⟩]).recast 3 (.v (.pointer (some ⟨p3,0,none⟩))) (.p 0 0) rfl rfl (Nat.le_of_ble_eq_true (n:=1) rfl)).recast 2 (.v (.pointer (some ⟨p2,0,none⟩))) (.p 1 0) rfl rfl (Nat.le_of_ble_eq_true (n:=2) rfl))
 have hE18:EnvOk 24 [⟨p3,0,[.map m_],true⟩,⟨p2,0,[.map none],true⟩] [(2,.p 1 0),(3,.p 0 0)] _:=hE17.pk
 refine qad [0,1] kz ?_
 refine qaj [0] [1] [(2,.p 1 0),(23,.v (.agg #[.map m_]))] hW9 hE18 fun aqb hE19=>?_
 refine qal (qau hW9 hE19 (oi:=1) (cs:=[.map m_]) kz fun wz hFz hWz hEz=>qae (qab (wp_ret ?_)))
 have hsz:=hT'.step.size
 have hstz:Step wq wz (fun b o=>b = p2 ∨ b = p3):=hFz.step.mono fun b o _ ha=>by
  rcases ha with ⟨i,ob,hi,_,rfl,_⟩ | ⟨i,r,hi,_⟩
  ·have hm:=List.mem_of_getElem? hi
   simp only [List.nil_append,List.cons_append,List.mem_cons,List.not_mem_nil,or_false] at hm
   rcases hm with rfl | rfl
   ·exact .inr rfl
   exact .inl rfl
  simp at hi
 obtain ⟨m2,m3⟩:=hT'.mne
 refine qaK hEz hWz.cells (v:=.agg #[.map m_]) kz ⟨_,A_,n_,c_,rfl,hT'.rd.move hstz (fun o e=>?_),hT'.oct.move hstz (fun b o hg _ e=>?_) (fun b o hg _=>.inl hg.1),hWz.step,m_,rfl,?_⟩
 ·have:=hT'.old; rcases e with e | e <;> omega
 ·have:=hg.2; rcases e with e | e <;> omega
 refine (hT'.own.move hstz (fun b o hg _ e=>?_) qbb (fun r o e he=>?_)).map (fun b o h=>.inl h.1) (fun r o e=>.inr (hT'.new r e)) hsort hk
 ·have:=hg.2; rcases e with e | e <;> omega
 rcases he with he | he
 ·exact m2 (by rw [e,he])
 exact m3 (by rw [e,he])
theorem qkZ (X:Bs) (hX:X.length ≤ 32767) (rest:Bs)  {br:Nat} {A:Option Addr} {m c:Nat} {w:World} {F:Nat → Nat → Prop} (hst:Str w br [.slice A m c,.bool false]) (hr:RdS w F A m c ((be 2 ((X.length:Nat):Int)) ++ (X ++ rest))) (hFd:∀ b o,F b o → ¬ RdM br b o) :
  Calls Tryz.prog 116 #[.pointer (some ⟨br,0,none⟩)] w (RdPost w br (Fp F w) rest fun v w'=>v = .string (bs X)):=by
 refine enter (n:=11) Tryz.func116 rfl Tryz.ntmps116 kz fun a hE=>?_
 have hW:WOk w (RdM br) w [⟨br,0,[.slice A m c,.bool false],true⟩] []:=WOk.startStr hst
 have hE1:=(hE.grow ⟨br,0,[.slice A m c,.bool false],true⟩).recast 0 (.v (.pointer (some ⟨br,0,none⟩))) (.p 0 0) rfl rfl (Nat.le_of_ble_eq_true (n:=1) rfl)
 refine qap [(0,.p 0 0)] hW hE1 fun a1 hE2=>?_
 refine qad [0,1,2] kz ?_
 refine qaj [0] [1,2] [(0,.p 0 0),(4,.p 0 0)] hW hE2 fun a3 hE4=>?_
 refine qal (qak hE4 (f:=92) (vs:=[.pointer (some ⟨br,0,none⟩)]) (d:=5) kz Tryz.call92 (qlr ((X.length:Nat):Int) (X ++ rest) (Str.of hW 0 rfl) (hr.move hW.step (fun b_ o_ h_ _=>hFd b_ o_ h_) (hW.immM hFd)) (qeI 0 rfl)) ?_)
 rintro e_ w5 ⟨_,A6,n7,c8,rfl,hs9,ag,ac,rfl⟩
 obtain ⟨aa,ah,aG⟩:=hW.wrote 0 [⟨br,0,[.slice A6 n7 c8,.bool false],true⟩] rfl ac hs9
 have ai:=ag.move (Step.refl _ Nil) nilM (fun b_ o_ h_ _=>ah.to b_ o_ h_)
 refine ⟨_,rfl,fun aJ aj=>?_⟩
 have ak:EnvOk 11 [⟨br,0,[.slice A6 n7 c8,.bool false],true⟩] [(5,.v (.int .i16 (IntKind.i16.wrap ((X.length:Nat):Int)))),(0,.p 0 0),(4,.p 0 0)] _:=aj.places (⟨rfl,rfl,trivial⟩)
 refine qaj [2] [] [(0,.p 0 0),(3,.v (.int .i16 (IntKind.i16.wrap ((X.length:Nat):Int))))] aa ak fun aK al=>?_
 refine qae (qab ?_)
 refine qad [0,1,2,3,4,5] kz ?_
 refine qaj [0,1,2] [3,4,5] [(6,.p 0 0),(8,.v (.int .i64 (IntKind.i64.wrap (IntKind.i16.wrap ((X.length:Nat):Int)))))] aa al fun aL am=>?_
 have ao:IntKind.i64.wrap (IntKind.i16.wrap ((X.length:Nat):Int)) = ((X.length:Nat):Int):=by simp only [i16w,i32w,i64w]; omega
 have ap:=EnvOk.pick am (ks:=[6,8]) (env':=[(6,.p 0 0),(8,.v (.int .i64 (IntKind.i64.wrap (IntKind.i16.wrap ((X.length:Nat):Int)))))]) kz
 have ar:=ap.cast (env':=[(6,.p 0 0),(8,.v (.int .i64 ((X.length:Nat):Int)))]) (by rw [ao])
 refine qal (qak ar (f:=129) (vs:=[.pointer (some ⟨br,0,none⟩),.int .i64 ((X.length:Nat):Int)]) (d:=9) kz Tryz.call129 (qkY X (rest) (Str.of aa 0 rfl) ai (qeI 0 rfl)) ?_)
 rintro e_ aM ⟨_,aD,aE,aF,rfl,au,av,ae,⟨aH,rfl,aw⟩⟩
 obtain ⟨ab,af,aI⟩:=aa.wrote 0 [⟨br,0,[.slice aD aE aF,.bool false],true⟩] rfl ae au
 have ax:=av.move (Step.refl _ Nil) nilM (fun b_ o_ h_ _=>af.to b_ o_ h_)
 refine ⟨_,rfl,fun aN ay=>?_⟩
 have az:EnvOk 11 [⟨br,0,[.slice aD aE aF,.bool false],true⟩] [(9,.v (.slice aH X.length X.length)),(6,.p 0 0),(8,.v (.int .i64 ((X.length:Nat):Int)))] _:=ay.places (⟨rfl,rfl,trivial⟩)
 have aA:=aw.move (Step.refl _ Nil) nilM (fun b_ o_ h_ _=>af.to b_ o_ h_)
 refine qal (qgL az (src:=22) (dst:=9) (e:=5) (d:=10) kz kz kz kz aA fun aO aB=>?_)
 refine qaj [5] [] [(2,.v (.string (bs X)))] ab aB fun aP aC=>?_
 refine qae (qab ?_)
 refine wp_ret ?_
 refine qaK aC ab.cells (v:=.string (bs X)) kz ?_
 refine ⟨_,_,_,_,rfl,Str.of ab 0 rfl,(ax.move (Step.refl _ Nil) nilM qcT),ab.step,rfl⟩
theorem qfp (X:Bs) (hX:X.length ≤ 1000000) (rest:Bs)  {br:Nat} {A:Option Addr} {m c:Nat} {w:World} {F:Nat → Nat → Prop} (hst:Str w br [.slice A m c,.bool false]) (hr:RdS w F A m c ((uv (X.length + 1)) ++ (X ++ rest))) (hFd:∀ b o,F b o → ¬ RdM br b o) :
  Calls Tryz.prog 115 #[.pointer (some ⟨br,0,none⟩)] w (RdPost w br (Fp F w) rest fun v w'=>v = .string (bs X)):=by
 refine enter (n:=12) Tryz.func115 rfl Tryz.ntmps115 kz fun a hE=>?_
 have hW:WOk w (RdM br) w [⟨br,0,[.slice A m c,.bool false],true⟩] []:=WOk.startStr hst
 have hE1:=(hE.grow ⟨br,0,[.slice A m c,.bool false],true⟩).recast 0 (.v (.pointer (some ⟨br,0,none⟩))) (.p 0 0) rfl rfl (Nat.le_of_ble_eq_true (n:=1) rfl)
 refine qap [(0,.p 0 0)] hW hE1 fun a1 hE2=>?_
 refine qad [0,1,2,3,4] kz ?_
 refine qaj [0] [1,2,3,4] [(0,.p 0 0),(4,.p 0 0)] hW hE2 fun a3 hE4=>?_
 refine qal (qak hE4 (f:=128) (vs:=[.pointer (some ⟨br,0,none⟩)]) (d:=5) kz Tryz.call128 (qei (X.length + 1) (by omega) (X ++ rest) (Str.of hW 0 rfl) (hr.move hW.step (fun b_ o_ h_ _=>hFd b_ o_ h_) (hW.immM hFd)) (qeI 0 rfl)) ?_)
 rintro e_ w5 ⟨_,A6,n7,c8,rfl,hs9,ag,ac,rfl⟩
 obtain ⟨aa,ah,aG⟩:=hW.wrote 0 [⟨br,0,[.slice A6 n7 c8,.bool false],true⟩] rfl ac hs9
 have ai:=ag.move (Step.refl _ Nil) nilM (fun b_ o_ h_ _=>ah.to b_ o_ h_)
 refine ⟨_,rfl,fun aJ aj=>?_⟩
 have ak:EnvOk 12 [⟨br,0,[.slice A6 n7 c8,.bool false],true⟩] [(5,.v (.int .u32 ((X.length + 1:Nat):Int))),(0,.p 0 0),(4,.p 0 0)] _:=aj.places (⟨rfl,rfl,trivial⟩)
 refine qaj [2,3,4] [] [(0,.p 0 0),(3,.v (.int .i64 (IntKind.i64.wrap ((IntKind.i64.wrap ((X.length + 1:Nat):Int)) - 1))))] aa ak fun aK al=>?_
 refine qae (qab ?_)
 refine qad [0,1,2,3,4] kz ?_
 refine qaj [0,1] [2,3,4] [(8,.p 0 0),(9,.v (.int .i64 (IntKind.i64.wrap ((IntKind.i64.wrap ((X.length + 1:Nat):Int)) - 1))))] aa al fun aL am=>?_
 have ao:IntKind.i64.wrap ((IntKind.i64.wrap ((X.length + 1:Nat):Int)) - 1) = ((X.length:Nat):Int):=by simp only [i16w,i32w,i64w]; omega
 have ap:=EnvOk.pick am (ks:=[8,9]) (env':=[(8,.p 0 0),(9,.v (.int .i64 (IntKind.i64.wrap ((IntKind.i64.wrap ((X.length + 1:Nat):Int)) - 1))))]) kz
 have ar:=ap.cast (env':=[(8,.p 0 0),(9,.v (.int .i64 ((X.length:Nat):Int)))]) (by rw [ao])
 refine qal (qak ar (f:=129) (vs:=[.pointer (some ⟨br,0,none⟩),.int .i64 ((X.length:Nat):Int)]) (d:=10) kz Tryz.call129 (qkY X (rest) (Str.of aa 0 rfl) ai (qeI 0 rfl)) ?_)
 rintro e_ aM ⟨_,aD,aE,aF,rfl,au,av,ae,⟨aH,rfl,aw⟩⟩
 obtain ⟨ab,af,aI⟩:=aa.wrote 0 [⟨br,0,[.slice aD aE aF,.bool false],true⟩] rfl ae au
 have ax:=av.move (Step.refl _ Nil) nilM (fun b_ o_ h_ _=>af.to b_ o_ h_)
 refine ⟨_,rfl,fun aN ay=>?_⟩
 have az:EnvOk 12 [⟨br,0,[.slice aD aE aF,.bool false],true⟩] [(10,.v (.slice aH X.length X.length)),(8,.p 0 0),(9,.v (.int .i64 ((X.length:Nat):Int)))] _:=ay.places (⟨rfl,rfl,trivial⟩)
 have aA:=aw.move (Step.refl _ Nil) nilM (fun b_ o_ h_ _=>af.to b_ o_ h_)
 refine qal (qgL az (src:=22) (dst:=9) (e:=5) (d:=11) kz kz kz kz aA fun aO aB=>?_)
 refine qaj [4] [] [(2,.v (.string (bs X)))] ab aB fun aP aC=>?_
 refine qae (qab ?_)
 refine wp_ret ?_
 refine qaK aC ab.cells (v:=.string (bs X)) kz ?_
 refine ⟨_,_,_,_,rfl,Str.of ab 0 rfl,(ax.move (Step.refl _ Nil) nilM qcT),ab.step,rfl⟩
theorem qgO (x:Int) (hx:-1 ≤ x ∧ x ≤ 32767) (rest:Bs) (hl:x ≤ ((rest.length:Nat):Int)) {br:Nat} {A:Option Addr} {m c:Nat} {w:World} {F:Nat → Nat → Prop} (hst:Str w br [.slice A m c,.bool false]) (hr:RdS w F A m c ((be 4 x) ++ rest)) (hFd:∀ b o,F b o → ¬ RdM br b o) :
  Calls Tryz.prog 94 #[.pointer (some ⟨br,0,none⟩)] w (RdPost w br (Fp F w) rest fun v w'=>v = .int .i32 x):=by
 refine enter (n:=21) Tryz.func94 rfl Tryz.ntmps94 kz fun a hE=>?_
 have hW:WOk w (RdM br) w [⟨br,0,[.slice A m c,.bool false],true⟩] []:=WOk.startStr hst
 have hE1:=(hE.grow ⟨br,0,[.slice A m c,.bool false],true⟩).recast 0 (.v (.pointer (some ⟨br,0,none⟩))) (.p 0 0) rfl rfl (Nat.le_of_ble_eq_true (n:=1) rfl)
 refine qap [(0,.p 0 0)] hW hE1 fun a1 hE2=>?_
 refine qad [0,1,2] kz ?_
 refine qaj [0] [1,2] [(0,.p 0 0),(4,.p 0 0)] hW hE2 fun a3 hE4=>?_
 refine qal (qak hE4 (f:=91) (vs:=[.pointer (some ⟨br,0,none⟩)]) (d:=5) kz Tryz.call91 (qko x (rest) (Str.of hW 0 rfl) (hr.move hW.step (fun b_ o_ h_ _=>hFd b_ o_ h_) (hW.immM hFd)) (qeI 0 rfl)) ?_)
 rintro e_ w5 ⟨_,A6,n7,c8,rfl,hs9,af,ab,rfl⟩
 obtain ⟨aa,ag,al⟩:=hW.wrote 0 [⟨br,0,[.slice A6 n7 c8,.bool false],true⟩] rfl ab hs9
 have ac:=af.move (Step.refl _ Nil) nilM (fun b_ o_ h_ _=>ag.to b_ o_ h_)
 refine ⟨_,rfl,fun am ah=>?_⟩
 have ai:EnvOk 21 [⟨br,0,[.slice A6 n7 c8,.bool false],true⟩] [(5,.v (.int .i32 (IntKind.i32.wrap x))),(0,.p 0 0),(4,.p 0 0)] _:=ah.places (⟨rfl,rfl,trivial⟩)
 refine qaj [2] [] [(0,.p 0 0),(3,.v (.int .i32 (IntKind.i32.wrap x)))] aa ai fun ao aj=>?_
 refine qae (qab ?_)
 refine wp_seq ?_
 refine qap [(0,.p 0 0),(3,.v (.int .i32 (IntKind.i32.wrap x))),(13,.v (.bool (decide (((n7:Nat):Int) < (IntKind.i64.wrap (IntKind.i32.wrap x))))))] aa aj fun ap ae=>?_
 refine qao ae (b:=decide (((n7:Nat):Int) < (IntKind.i64.wrap (IntKind.i32.wrap x)))) kz (decide_eq_false (by have h_:=ac.len; simp only [i32w,i64w]; omega)) ?_
 refine wp_skip ?_
 refine qab ?_
 refine qap [(2,.v (.int .i32 (IntKind.i32.wrap x)))] aa ae fun ar ak=>?_
 refine wp_ret ?_
 refine qaK ak aa.cells (v:=.int .i32 (IntKind.i32.wrap x)) kz ?_
 refine ⟨_,_,_,_,rfl,Str.of aa 0 rfl,(ac.move (Step.refl _ Nil) nilM qcT),aa.step,congrArg (Value.int .i32) (by simp only [i32w]; omega)⟩
theorem qdk (n:Nat) (hn:n ≤ 32768) (rest:Bs) (hl:n ≤ rest.length + 1) {br:Nat} {A:Option Addr} {m c:Nat} {w:World} {F:Nat → Nat → Prop} (hst:Str w br [.slice A m c,.bool false]) (hr:RdS w F A m c ((uv n) ++ rest)) (hFd:∀ b o,F b o → ¬ RdM br b o) :
  Calls Tryz.prog 93 #[.pointer (some ⟨br,0,none⟩)] w (RdPost w br (Fp F w) rest fun v w'=>v = .int .i32 (((n:Nat):Int) - 1)):=by
 refine enter (n:=23) Tryz.func93 rfl Tryz.ntmps93 kz fun a hE=>?_
 have hW:WOk w (RdM br) w [⟨br,0,[.slice A m c,.bool false],true⟩] []:=WOk.startStr hst
 have hE1:=(hE.grow ⟨br,0,[.slice A m c,.bool false],true⟩).recast 0 (.v (.pointer (some ⟨br,0,none⟩))) (.p 0 0) rfl rfl (Nat.le_of_ble_eq_true (n:=1) rfl)
 refine qap [(0,.p 0 0)] hW hE1 fun a1 hE2=>?_
 refine qad [0,1,2,3,4] kz ?_
 refine qaj [0] [1,2,3,4] [(0,.p 0 0),(4,.p 0 0)] hW hE2 fun a3 hE4=>?_
 refine qal (qak hE4 (f:=128) (vs:=[.pointer (some ⟨br,0,none⟩)]) (d:=5) kz Tryz.call128 (qei n (by omega) (rest) (Str.of hW 0 rfl) (hr.move hW.step (fun b_ o_ h_ _=>hFd b_ o_ h_) (hW.immM hFd)) (qeI 0 rfl)) ?_)
 rintro e_ w5 ⟨_,A6,n7,c8,rfl,hs9,af,ab,rfl⟩
 obtain ⟨aa,ag,al⟩:=hW.wrote 0 [⟨br,0,[.slice A6 n7 c8,.bool false],true⟩] rfl ab hs9
 have ac:=af.move (Step.refl _ Nil) nilM (fun b_ o_ h_ _=>ag.to b_ o_ h_)
 refine ⟨_,rfl,fun am ah=>?_⟩
 have ai:EnvOk 23 [⟨br,0,[.slice A6 n7 c8,.bool false],true⟩] [(5,.v (.int .u32 ((n:Nat):Int))),(0,.p 0 0),(4,.p 0 0)] _:=ah.places (⟨rfl,rfl,trivial⟩)
 refine qaj [2,3,4] [] [(0,.p 0 0),(3,.v (.int .i32 (IntKind.i32.wrap ((IntKind.i32.wrap ((n:Nat):Int)) - 1))))] aa ai fun ao aj=>?_
 refine qae (qab ?_)
 refine wp_seq ?_
 refine qap [(0,.p 0 0),(3,.v (.int .i32 (IntKind.i32.wrap ((IntKind.i32.wrap ((n:Nat):Int)) - 1)))),(15,.v (.bool (decide (((n7:Nat):Int) < (IntKind.i64.wrap (IntKind.i32.wrap ((IntKind.i32.wrap ((n:Nat):Int)) - 1)))))))] aa aj fun ap ae=>?_
 refine qao ae (b:=decide (((n7:Nat):Int) < (IntKind.i64.wrap (IntKind.i32.wrap ((IntKind.i32.wrap ((n:Nat):Int)) - 1))))) kz (decide_eq_false (by have h_:=ac.len; simp only [i32w,i64w]; omega)) ?_
 refine wp_skip ?_
 refine qab ?_
 refine qap [(2,.v (.int .i32 (IntKind.i32.wrap ((IntKind.i32.wrap ((n:Nat):Int)) - 1))))] aa ae fun ar ak=>?_
 refine wp_ret ?_
 refine qaK ak aa.cells (v:=.int .i32 (IntKind.i32.wrap ((IntKind.i32.wrap ((n:Nat):Int)) - 1))) kz ?_
 refine ⟨_,_,_,_,rfl,Str.of aa 0 rfl,(ac.move (Step.refl _ Nil) nilM qcT),aa.step,congrArg (Value.int .i32) (by simp only [i32w]; omega)⟩
theorem rOk  (rest:Bs)  {br:Nat} {A:Option Addr} {m c:Nat} {w:World} {F:Nat → Nat → Prop} (hst:Str w br [.slice A m c,.bool false]) (hr:RdS w F A m c (rest)) (hFd:∀ b o,F b o → ¬ RdM br b o) :
  Calls Tryz.prog 95 #[.pointer (some ⟨br,0,none⟩)] w (RdPost w br (Fp F w) rest fun v w'=>v = .bool true):=by
 refine enter (n:=8) Tryz.func95 rfl Tryz.ntmps95 kz fun a hE=>?_
 have hW:WOk w (RdM br) w [⟨br,0,[.slice A m c,.bool false],true⟩] []:=WOk.startStr hst
 have hE1:=(hE.grow ⟨br,0,[.slice A m c,.bool false],true⟩).recast 0 (.v (.pointer (some ⟨br,0,none⟩))) (.p 0 0) rfl rfl (Nat.le_of_ble_eq_true (n:=1) rfl)
 refine qap [(0,.p 0 0)] hW hE1 fun a1 hE2=>?_
 refine qap [(2,.v (.bool true))] hW hE2 fun a3 hE4=>?_
 refine wp_ret ?_
 refine qaK hE4 hW.cells (v:=.bool true) kz ?_
 refine ⟨_,_,_,_,rfl,Str.of hW 0 rfl,((hr.move hW.step (fun b_ o_ h_ _=>hFd b_ o_ h_) (hW.immM hFd)).move (Step.refl _ Nil) nilM qcT),hW.step,rfl⟩
theorem qeU {P:Program} {c:Code} {Mid:Act → World → Prop} {Q:Exit → Act → World → Prop} {a:Act} {w:World} (h1:c.wp P (Exit.then Mid Q) a w) (h2:∀ a' w',Mid a' w' → Q .normal a' w'):c.wp P Q a w :=
 wp_mono h1 fun e a' w' h=>by
  cases e <;> first | exact h2 a' w' h | exact h
theorem qf6 {k:Nat} (h:k < 32768):IntKind.i32.wrap (((k:Nat):Int) + 1) = ((k + 1:Nat):Int):=by rw [i32w]; omega
def lenN (null:Bool) (n:Nat):Int:=if null = true then -1 else ((n:Nat):Int)
theorem qjq {T:Tree} (h:¬ (0 < lenN T.null (lst T).length)):(lst T).length = 0:=by
 unfold lenN at h
 cases hq:T.null with
 | true=>unfold lst; rw [hq]; rfl
 | false =>
  rw [hq] at h
  have h':¬ (0 < ((lst T).length:Int)):=h
  omega
theorem qk0 {b:Bool} {n:Nat} (h:lenN b n = 0):b = false:=by
 cases b with
 | false=>rfl
 | true=>exact absurd (show (-1:Int) = 0 from h) (by decide)
theorem qj2 {b:Bool} {n:Nat} (h:¬ lenN b n = 0) (hn:n = 0):b = true:=by
 cases b with
 | true=>rfl
 | false=>subst hn; exact absurd rfl h
theorem qls {w:World} {F:Nat → Nat → Prop} {size:Nat} {A:Option Addr} {cs:Nat → List Value}:Slots w F size A 0 0 cs:=⟨Nat.le_refl _,by omega,fun _=>⟨rfl,rfl⟩,fun _ _ h=>absurd h (by omega)⟩
theorem qjr {g:Tree → Bs}:∀ {L:List Tree},(∀ t,0 < (g t).length) → L.length ≤ (L.flatMap g).length
 | [],_=>Nat.zero_le _
 | t :: r,h=>by
  have h1:=h t
  have h2:=qjr (L:=r) h
  rw [List.flatMap_cons,List.length_append,List.length_cons]; omega
theorem flat_ge' {g:Tree → Bs} {L:List Tree} (h:∀ t,0 < (g t).length) (rest:Bs):L.length ≤ (L.flatMap g ++ rest).length:=by
 have:=qjr (L:=L) h
 rw [List.length_append]; omega
theorem qii {x y:Bs} (h:0 < x.length):0 < (x ++ y).length:=by rw [List.length_append]; omega
theorem qkp {b:Bool} {x y:Bs} (h:0 < x.length) (h':0 < y.length):0 < (if b = true then x else y).length:=by split <;> assumption
theorem qhF {m:Nat} {x:Int} (h:0 < m):0 < (be m x).length:=by rw [be_length]; exact h
section
variable {Pr:Program} {ops:Array Oper} {Q:Exit → Act → World → Prop} {w0:World} {M F:Nat → Nat → Prop} {n br:Nat} {tb:Tb} {env:Env} {P:qcI} {s:Bs} {a:Act} {w:World}
theorem qhh {id d:Nat} {t e:TypeId} {size bytes m cp:Nat} {A0:Option Addr} (env1 env':Env) (i:Nat) (h:RS w0 M F n br tb env P s a w) (K:∀ a',RS w0 M F n br tb env' P s a' w → Q .normal a' w)
  (hr:List.range ops.size = List.range i ++ (i :: (List.range ops.size).drop (i + 1)):=by kernel_rfl) (e1:∀ A m c,qc5 Pr ops n (rdo br A m c :: tb) (List.range i) (qbX env1) env = some env1:=by intro _ _ _; kernel_rfl)
  (hc:∀ A m_ c,cutE (rdo br A m_ c :: tb) env1 ops n i = some (t,.slice A0 m cp,none,some 0,d):=by intro _ _ _; kernel_rfl) (ht:qcK Pr t = some (e,size,bytes):=by kernel_rfl)
  (e2:∀ A m_ c,qc5 Pr ops n (rdo br A m_ c :: tb) ((List.range ops.size).drop (i + 1)) (qbX env') ((d,.v (.slice A0 0 cp)) :: env1) = some env':=by intro _ _ _; kernel_rfl):(Code.region id ops false).wp Pr Q a w:=by
 refine qaq _ hr (qcF (List.range i) _ env1 h (fun a1 h1=>?_) e1 rfl)
 obtain ⟨A,m1,c,hW,hrd,hE,hP⟩:=h1.open_
 refine qal (qdd hE (hc A m1 c) ht (j:=0) rfl (Nat.zero_le _) fun a2 hE2=>?_)
 exact qcF _ [] env' (RS.mk' hW hrd hE2 h1.mv hP) (fun a3 h3=>qae (K a3 h3)) e2 (List.append_nil _).symm
theorem qkq {i d:Nat} {f:FuncId} {vs:List Value} {v0:Value} {N:Act → World → Prop} (h:RS w0 M F n br tb env P s a w) (hc:∀ w,Calls Pr f vs.toArray w (fun e w'=>e = .returned v0 ∧ w' = w))
  (hf:∀ args w,(callFunc f args).run Pr w = .ok (.enter f args) w) (K:∀ a',RS w0 M F n br tb ((d,.v v0) :: env) P s a' w → N a' w)
  (he:∀ A m c,qeY (rdo br A m c :: tb) env ops n i = some (f,vs,d):=by intro _ _ _; kernel_rfl):wpOp Pr ops Q i N a w:=by
 obtain ⟨A,m,c,hW,hr,hE,hP⟩:=h.open_
 refine qak hE (he A m c) hf (hc w) ?_
 rintro e_ _ ⟨rfl,rfl⟩
 exact ⟨_,rfl,fun a1 hE1=>K a1 (RS.mk' hW hr hE1 h.mv hP)⟩
theorem qk1 {id d:Nat} {f:FuncId} {v0:Value} (env':Env) (h:RS w0 M F n br tb env P s a w) (hc:qda Pr f [] s v0)
  (hf:∀ args w,(callFunc f args).run Pr w = .ok (.enter f args) w) (K:∀ a' w',RS w0 M F n br tb env' P s a' w' → Q .normal a' w')
  (he:∀ A m c,qeY (rdo br A m c :: tb) env ops n 0 = some (f,[.pointer (some ⟨br,0,none⟩)],d):=by intro _ _ _; kernel_rfl)
  (e:∀ A m c,qc5 Pr ops n (rdo br A m c :: tb) ((List.range ops.size).drop 1) (qbX env') ((d,.v v0) :: env) = some env':=by intro _ _ _; kernel_rfl) (hs:Nat.blt 0 ops.size = true:=by kernel_rfl):(Code.region id ops false).wp Pr Q a w :=
 qhE (X:=[]) (rest:=s) env' h hc hf K he e hs
theorem qhG {i d k l g size bytes:Nat} {t e:TypeId} {z:Value} {N:Act → World → Prop} (h:RS w0 M F n br (tb ++ [qbm g size z l k]) env P s a w) (hk:k < l) (hz:z.cells.size = size) (hl:qer (tb.length + 1) env = true)
  (K:∀ a',RS w0 M F n br (tb ++ [qbm g size z l (k + 1),⟨g,k * size,z.cells.toList,true⟩]) ((d,.p (tb.length + 2) 0) :: env) P s a' w → N a' w)
  (he:∀ A m c,idxE (rdo br A m c :: (tb ++ [qbm g size z l k])) env ops n i = some (t,some ⟨g,0,none⟩,l,((k:Nat):Int),d):=by intro _ _ _; kernel_rfl) (ht:qcK Pr t = some (e,size,bytes):=by kernel_rfl):wpOp Pr ops Q i N a w:=by
 obtain ⟨A,m,c,hW,hr,hE,hP⟩:=h.open_
 refine qaA hE (he A m c) ht rfl rfl hk fun a1 hE1=>K a1 ?_
 have h1:RS w0 M F n br (tb ++ [qbm g size z l k]) ((d,.v (.pointer (some ⟨g,0 + k * size,none⟩))) :: env) P s a1 w:=RS.mk' hW hr hE1 h.mv hP
 have h2:=h1.next hk hz (by simpa only [qer] using hl)
 have h3:=h2.recast d (.v (.pointer (some ⟨g,0 + k * size,none⟩))) (.p (tb.length + 2) 0) (by simp [lk]) ?_ (by show tb.length + 2 < _; simp)
 ·refine ⟨h3.mv,h3.ex,?_,h3.fact⟩
  refine ⟨h3.env_.defers,h3.env_.size,fun q x hx=>h3.env_.at_ q x ?_⟩
  simp only [lk] at hx ⊢
  split at hx
  ·exact hx
  exact hx
 have:obAt (rdo br none 0 0 :: (tb ++ [qbm g size z l (k + 1),⟨g,k * size,z.cells.toList,true⟩])) (tb.length + 2) = ⟨g,k * size,z.cells.toList,true⟩:=by
  simp only [obAt,List.getD_eq_getElem?_getD]
  rw [show tb.length + 2 = (tb.length + 1) + 1 from rfl,List.getElem?_cons_succ,List.getElem?_append_right (by omega)]
  simp
 simp only [SV.val,this]
 simp
theorem qjs {id d k l g size bytes:Nat} {t e:TypeId} {z:Value} (env1 env':Env) (i:Nat) (h:RS w0 M F n br (tb ++ [qbm g size z l k]) env P s a w) (hk:k < l) (hz:z.cells.size = size) (hl:qer (tb.length + 1) env1 = true)
  (K:∀ a',RS w0 M F n br (tb ++ [qbm g size z l (k + 1),⟨g,k * size,z.cells.toList,true⟩]) env' P s a' w → Q .normal a' w)
  (hr:List.range ops.size = List.range i ++ (i :: (List.range ops.size).drop (i + 1)):=by kernel_rfl) (e1:∀ A m c,qc5 Pr ops n (rdo br A m c :: (tb ++ [qbm g size z l k])) (List.range i) (qbX env1) env = some env1:=by intro _ _ _; kernel_rfl)
  (he:∀ A m c,idxE (rdo br A m c :: (tb ++ [qbm g size z l k])) env1 ops n i = some (t,some ⟨g,0,none⟩,l,((k:Nat):Int),d):=by intro _ _ _; kernel_rfl) (ht:qcK Pr t = some (e,size,bytes):=by kernel_rfl)
  (e2:∀ A m c,qc5 Pr ops n (rdo br A m c :: (tb ++ [qbm g size z l (k + 1),⟨g,k * size,z.cells.toList,true⟩])) ((List.range ops.size).drop (i + 1)) (qbX env') ((d,.p (tb.length + 2) 0) :: env1) = some env':=by intro _ _ _; kernel_rfl):(Code.region id ops false).wp Pr Q a w:=by
 refine qaq _ hr (qcF (List.range i) _ env1 h (fun a1 h1=>qal (qhG h1 hk hz hl (fun a2 h2=>?_) he ht)) e1 rfl)
 exact qcF _ [] env' h2 (fun a3 h3=>qae (K a3 h3)) e2 (List.append_nil _).symm
end
theorem qlt (x:Int) (rest:Bs):qda Tryz.prog 91 (be 4 (IntKind.i32.wrap x)) rest (.int .i32 (IntKind.i32.wrap x)):=fun hs hr hF=>(qko _ rest hs hr hF).mono fun e w' hp=>hp.fp fun v w' h=>by rw [h,ww32]
theorem qjt (S:Bs) (hS:S.length ≤ 32767) (rest:Bs):qda Tryz.prog 116 (be 2 S.length ++ S) rest (.string (bs S)):=fun hs hr hF=>(qkZ S hS rest hs (hr.cast (by simp only [List.append_assoc])) hF).mono fun e w' hp=>hp.q fun v w' h=>h
theorem qdT (S:Bs) (hS:S.length ≤ 32767) (rest:Bs):qda Tryz.prog 115 (uv (S.length + 1) ++ S) rest (.string (bs S)):=fun hs hr hF=>(qfp S (by omega) rest hs (hr.cast (by simp only [List.append_assoc])) hF).mono fun e w' hp=>hp.q fun v w' h=>h
theorem qfj (n:Nat) (hn:n ≤ 32767) (rest:Bs) (hl:n ≤ rest.length):qda Tryz.prog 94 (be 4 n) rest (.int .i32 ((n:Nat):Int)):=fun hs hr hF=>(qgO ((n:Nat):Int) (by omega) rest (by omega) hs hr hF).mono fun e w' hp=>hp.q fun v w' h=>h
theorem qij (nul:Bool) (n:Nat) (hn:n ≤ 32767) (rest:Bs) (hl:n ≤ rest.length):qda Tryz.prog 94 (if nul = true then be 4 (-1) else be 4 n) rest (.int .i32 (lenN nul n)):=by
 cases nul
 ·exact qfj n hn rest hl
 exact fun hs hr hF=>(qgO (-1) (by omega) rest (by omega) hs hr hF).mono fun e w' hp=>hp.q fun v w' h=>h
theorem qcJ (n:Nat) (hn:n ≤ 32767) (rest:Bs) (hl:n ≤ rest.length):qda Tryz.prog 93 (uv (n + 1)) rest (.int .i32 ((n:Nat):Int)):=fun hs hr hF=>(qdk (n + 1) (by omega) rest (by omega) hs hr hF).mono fun e w' hp=>hp.q fun v w' h=>h.trans (congrArg (Value.int .i32) (by omega))
theorem qeB (nul:Bool) (n:Nat) (hn:n ≤ 32767) (rest:Bs) (hl:n ≤ rest.length):qda Tryz.prog 93 (if nul = true then uv 0 else uv (n + 1)) rest (.int .i32 (lenN nul n)):=by
 cases nul
 ·exact qcJ n hn rest hl
 exact fun hs hr hF=>(qdk 0 (by omega) rest (by omega) hs hr hF).mono fun e w' hp=>hp.q fun v w' h=>h
theorem pOk (rest:Bs):qda Tryz.prog 95 [] rest (.bool true):=fun hs hr hF=>(rOk rest hs hr hF).mono fun e w' hp=>hp.q fun v w' h=>h
theorem qk2 (u:List (Int × Bs)) (hU:canU u) (hk:∀ x ∈ u,0 ≤ x.1 ∧ x.1 < 4294967296) (rest:Bs):qlq Tryz.prog 101 (uv u.length ++ qcE u) rest (fun m:Option Nat=>.agg #[.map m]) (fun m=>qlp m u):=fun hs hr hF=>(qlM u rest hU.1 hk hU.2.1 hU.2.2 hs (hr.cast (by simp only [List.append_assoc])) hF).mono fun e w' hp=>hp.q fun v w' h=>h
theorem qlu (k:Int) (A:Option Addr) (m c:Nat) (w:World):Calls Tryz.prog 59 #[.agg #[.int .u32 k,.slice A m c]] w (qi0 w):=by
 refine enter (n:=7) Tryz.func59 rfl Tryz.ntmps59 kz fun a hE=>?_
 have hW:=WOk.start w Nil
 refine qad [0,1] kz ?_
 refine qal (qbj hW hE (d:=1) (cs:=[.int .u32 k,.slice A m c]) kz fun b1 a2 w3 hb4 hz5 hF6 hW7 hE8=>?_)
 refine qaj [1] [] [(1,.p 0 0)] hW7 hE8 fun a9 ac=>?_
 refine qae (qab ?_)
 refine wp_seq ?_
 refine qap [(6,.v (.bool (decide (((m:Nat):Int) > 2147483647))))] hW7 ac fun ai aa=>?_
 refine qav aa (b:=decide (((m:Nat):Int) > 2147483647)) kz (fun ab=>?_) (fun ab=>?_)
 ·
  have ag:=of_decide_eq_true ab
  refine qap [(2,.v (.bool false))] hW7 aa fun aj ae=>?_
  refine wp_ret ?_
  refine qan ?_
  refine qaK ae hW7.cells (v:=.bool false) kz ?_
  exact ⟨_,rfl,hW7.step⟩
 have ah:=of_decide_eq_false ab
 refine wp_skip ?_
 refine qab ?_
 refine qap [(2,.v (.bool true))] hW7 aa fun ak af=>?_
 refine wp_ret ?_
 refine qaK af hW7.cells (v:=.bool true) kz ?_
 exact ⟨_,rfl,hW7.step⟩
theorem qlv (A:Option Addr) (c:Nat) (u:List (Int × Bs)) (w:World) (F:Nat → Nat → Prop) (hu:TagsR w F A c u):Calls Tryz.prog 25 #[.slice A u.length c] w (qi0 w):=by
 obtain ⟨xu,h1,h2⟩:=hu.ex
 have hsm:=h1.small
 refine enter (n:=18) Tryz.func25 rfl Tryz.ntmps25 kz fun a hE=>?_
 have hW:=WOk.start w Nil
 refine qap [(0,.v (.slice A u.length c))] hW hE fun a1 hE2=>?_
 refine wp_seq ?_
 refine qap [(0,.v (.slice A u.length c)),(7,.v (.bool (decide (((u.length:Nat):Int) > 2147483647))))] hW hE2 fun a3 hE4=>?_
 refine qav hE4 (b:=decide (((u.length:Nat):Int) > 2147483647)) kz (fun hc5=>?_) (fun hc5=>?_)
 ·
  have hf6:=of_decide_eq_true hc5
  refine qap [(2,.v (.bool false))] hW hE4 fun a7 hE8=>?_
  refine wp_ret ?_
  refine qan ?_
  refine qaK hE8 hW.cells (v:=.bool false) kz ?_
  exact ⟨_,rfl,hW.step⟩
 have hf9:=of_decide_eq_false hc5
 refine wp_skip ?_
 refine qab ?_
 refine wp_seq ?_
 refine qap [(8,.v (.slice A u.length c)),(9,.v (.int .i64 ((u.length:Nat):Int))),(10,.v (.int .i64 0))] hW hE4 fun ba ar=>?_
 refine wp_block ?_
 refine wp_loop_ghost (fun n_ a_ w_=>∃ (k:Nat),n_ = u.length - k ∧ k ≤ u.length ∧ LInv hW 18 [] [] [(8,.v (.slice A u.length c)),(9,.v (.int .i64 ((u.length:Nat):Int))),(10,.v (.int .i64 ((k:Nat):Int)))] a_ w_) (u.length) ⟨0,by omega,by omega,ar.pk,hW,Fr.refl _ _ _⟩ ?_
 rintro bd bf bg ⟨k,aQ,aR,au,aa,av⟩
 refine qap [(8,.v (.slice A u.length c)),(9,.v (.int .i64 ((u.length:Nat):Int))),(10,.v (.int .i64 ((k:Nat):Int))),(11,.v (.bool (decide (((k:Nat):Int) < ((u.length:Nat):Int)))))] aa au fun bh ae=>?_
 refine wp_seq ?_
 refine qav ae (b:=decide (((k:Nat):Int) < ((u.length:Nat):Int))) kz (fun af=>?_) (fun af=>?_)
 ·
  have aS:=of_decide_eq_true af
  refine wp_skip ?_
  refine qab ?_
  refine wp_seq ?_
  refine wp_block ?_
  refine qad [0,1,2,3] kz ?_
  obtain ⟨aT,aU,aw,aV,ac⟩:=Slots.get h1 (i:=k) (by omega)
  obtain ⟨⟨ai,aj⟩,ax⟩:∃ x,u[k]? = some x:=⟨_,List.getElem?_eq_getElem (by omega)⟩
  obtain ⟨⟨ak,al,am,aW⟩,bi,bj⟩:=h2 k ai aj ax
  rw [am] at ac
  refine qal (qaA ae (t:=24) (A:=A) (m:=u.length) (q:=((k:Nat):Int)) (d:=12) kz (e:=66) (size:=2) (bytes:=32) kz aw rfl (by omega) fun bk ay=>?_)
  refine qal (qaR ay (t:=66) (b:=aT) (o:=aU + k * 2) (d:=13) kz (cs:=[.int .u32 ai,.slice ak aj.length al]) (v:=.agg #[.int .u32 ai,.slice ak aj.length al]) kz (AtF.move ac aa.step nilM qbb).at_ fun bn az=>?_)
  refine qal (qaU aa az (d:=4) (cs:=[.int .u32 0,.slice none 0 0]) kz fun bo bp bq aX aY aA aB aC=>?_)
  refine qal (qau aB aC (oi:=0) (cs:=[.int .u32 ai,.slice ak aj.length al]) kz fun bt aD ag aE=>?_)
  refine qae (qab ?_)
  refine qad [0,1,2] kz ?_
  refine qaj [0] [1,2] [(8,.v (.slice A u.length c)),(9,.v (.int .i64 ((u.length:Nat):Int))),(10,.v (.int .i64 ((k:Nat):Int))),(14,.v (.agg #[.int .u32 ai,.slice ak aj.length al]))] ag aE fun bu aF=>?_
  refine qal (qak aF (f:=59) (vs:=[.agg #[.int .u32 ai,.slice ak aj.length al]]) (d:=15) kz Tryz.call59 (qlu _ _ _ _ _) ?_)
  rintro e_ bw ⟨aP,rfl,ao⟩
  refine ⟨_,rfl,fun bx aG=>?_⟩
  have ab:=ag.next_nil ao
  have aH:=ag.frN ao
  refine qaj [2] [] [(8,.v (.slice A u.length c)),(9,.v (.int .i64 ((u.length:Nat):Int))),(10,.v (.int .i64 ((k:Nat):Int))),(16,.v (.bool (!aP)))] ab aG fun bz ah=>?_
  refine qae (qab ?_)
  refine qav ah (b:=!aP) kz (fun aI=>?_) (fun aI=>?_)
  ·
   refine qap [(2,.v (.bool false))] ab ah fun bA aJ=>?_
   refine wp_ret ?_
   refine qax ?_
   refine qan ?_
   refine qan ?_
   refine qax ?_
   refine qan ?_
   refine qaK aJ ab.cells (v:=.bool false) kz ?_
   exact ⟨_,rfl,ab.step⟩
  refine wp_skip ?_
  refine qar ?_
  refine qab ?_
  refine qaq [0,1] kz ?_
  refine qaj [0,1] [] [(8,.v (.slice A u.length c)),(9,.v (.int .i64 ((u.length:Nat):Int))),(10,.v (.int .i64 (IntKind.i64.wrap (((k:Nat):Int) + 1))))] ab ah fun bB aK=>?_
  refine qae (qab ?_)
  obtain ⟨ap,aL,aM⟩:=ab.cutB aK 0 [] [(8,.v (.slice A u.length c)),(9,.v (.int .i64 ((u.length:Nat):Int))),(10,.v (.int .i64 (IntKind.i64.wrap (((k:Nat):Int) + 1))))]
  have aN:IntKind.i64.wrap (((k:Nat):Int) + 1) = ((k + 1:Nat):Int):=qaP (by omega)
  rw [aN] at ap
  exact ⟨u.length - (k + 1),by omega,k + 1,rfl,by omega,ap.pk,aL,((((av.trans aA).trans aD).trans aH).trans aM)⟩
 have aZ:=of_decide_eq_false af
 refine wp_exit ?_
 refine qaw ?_
 refine qaw ?_
 refine qaL ?_
 refine qab ?_
 refine qap [(2,.v (.bool true))] aa ae fun bC aO=>?_
 refine wp_ret ?_
 refine qaK aO aa.cells (v:=.bool true) kz ?_
 exact ⟨_,rfl,aa.step⟩
theorem qlw (ct:List Value) (t:Tree) (w:World) (F:Nat → Nat → Prop) (ht:TreeR w F ct t):Calls Tryz.prog 7 #[.agg ct.toArray] w (qi0 w):=by
 obtain ⟨n1,s2,b3,l4,u5,A6,c7,A8,c9,aj,ak,aB,rfl,rfl,aC,aD,aN,aE⟩:=ht.open_
 have ay:=aC.small
 have az:=aD.small
 refine enter (n:=15) Tryz.func7 rfl Tryz.ntmps7 kz fun a hE=>?_
 have hW:=WOk.start w Nil
 refine qad [0,1] kz ?_
 refine qal (qbj hW hE (d:=1) (cs:=[.int .i64 n1,.slice A6 s2.length c7,.bool b3,.slice A8 l4.length c9,.slice aj u5.length ak]) kz fun aO aP aQ aF aG aH aa al=>?_)
 refine qaj [1] [] [(1,.p 0 0)] aa al fun aR am=>?_
 refine qae (qab ?_)
 refine wp_seq ?_
 refine qap [(1,.p 0 0),(6,.v (.bool (decide (((s2.length:Nat):Int) > 2147483647))))] aa am fun aS ac=>?_
 refine qav ac (b:=decide (((s2.length:Nat):Int) > 2147483647)) kz (fun ae=>?_) (fun ae=>?_)
 ·
  have aI:=of_decide_eq_true ae
  refine qap [(2,.v (.bool false))] aa ac fun aT ao=>?_
  refine wp_ret ?_
  refine qan ?_
  refine qaK ao aa.cells (v:=.bool false) kz ?_
  exact ⟨_,rfl,aa.step⟩
 have aJ:=of_decide_eq_false ae
 refine wp_skip ?_
 refine qab ?_
 refine wp_seq ?_
 refine qap [(1,.p 0 0),(10,.v (.bool (decide (((l4.length:Nat):Int) > 2147483647))))] aa ac fun aU af=>?_
 refine qav af (b:=decide (((l4.length:Nat):Int) > 2147483647)) kz (fun ag=>?_) (fun ag=>?_)
 ·
  have aK:=of_decide_eq_true ag
  refine qap [(2,.v (.bool false))] aa af fun aV ap=>?_
  refine wp_ret ?_
  refine qan ?_
  refine qaK ap aa.cells (v:=.bool false) kz ?_
  exact ⟨_,rfl,aa.step⟩
 have aL:=of_decide_eq_false ag
 refine wp_skip ?_
 refine qab ?_
 refine wp_seq ?_
 refine qad [0,1,2,3] kz ?_
 refine qaj [0,1] [2,3] [(12,.v (.slice aj u5.length ak))] aa af fun aW ar=>?_
 refine qal (qak ar (f:=25) (vs:=[.slice aj u5.length ak]) (d:=13) kz Tryz.call25 (qlv _ _ u5 _ _ (aE.move aa.step nilM aa.imm)) ?_)
 rintro e_ aX ⟨aA,rfl,ai⟩
 refine ⟨_,rfl,fun aY au=>?_⟩
 have ab:=aa.next_nil ai
 have aM:=aa.frN ai
 refine qaj [3] [] [(14,.v (.bool (!aA)))] ab au fun aZ ah=>?_
 refine qae (qab ?_)
 refine qav ah (b:=!aA) kz (fun av=>?_) (fun av=>?_)
 ·
  refine qap [(2,.v (.bool false))] ab ah fun ba aw=>?_
  refine wp_ret ?_
  refine qan ?_
  refine qaK aw ab.cells (v:=.bool false) kz ?_
  exact ⟨_,rfl,ab.step⟩
 refine wp_skip ?_
 refine qab ?_
 refine qap [(2,.v (.bool true))] ab ah fun bd ax=>?_
 refine wp_ret ?_
 refine qaK ax ab.cells (v:=.bool true) kz ?_
 exact ⟨_,rfl,ab.step⟩
theorem qj3 (x m:Int) (hx:0 ≤ x) (hx':x < 256) (hm:0 ≤ m) (hm':m < 32768) (w:World):Calls Tryz.prog 10 #[.int .u8 x,.int .i64 m] w (qci w (.int .i64 (Int.tmod x (m + 1)))):=by
 refine enter (n:=10) Tryz.func10 rfl Tryz.ntmps10 kz fun a hE=>?_
 have hW:=WOk.start w Nil
 refine qap [(0,.v (.int .u8 x)),(1,.v (.int .i64 m))] hW hE fun a1 hE2=>?_
 refine qad [0,1,2,3,4,5] kz ?_
 refine qaj [0,1,2,3] [4,5] [(6,.v (.int .i64 (IntKind.i64.wrap x))),(8,.v (.int .i64 (IntKind.i64.wrap (m + 1))))] hW hE2 fun a3 hE4=>?_
 refine qal (qjM hE4 (k:=.i64) (p:=(IntKind.i64.wrap x)) (q:=(IntKind.i64.wrap (m + 1))) (d:=9) kz (by simp only [IntKind.wrap_i64]; omega) fun a5 hE6=>?_)
 refine qaj [5] [] [(4,.v (.int .i64 (Int.tmod (IntKind.i64.wrap x) (IntKind.i64.wrap (m + 1)))))] hW hE6 fun a7 hE8=>?_
 refine qae (qab ?_)
 refine wp_ret ?_
 refine qaK hE8 hW.cells (v:=.int .i64 (Int.tmod (IntKind.i64.wrap x) (IntKind.i64.wrap (m + 1)))) kz ?_
 exact ⟨by rw [wrap_i64 (by omega) (by omega),wrap_i64 (by omega) (by omega)],hW.step⟩
def qaB (v:Int) (T:Tree):Bs:=(if (decide (v ≥ 0)) = true then (uv ((T.at_ 0).S.length + 1) ++ (T.at_ 0).S) else (be 2 (T.at_ 0).S.length ++ (T.at_ 0).S)) ++ (((if (decide (v ≥ 0)) = true then (uv ((lst (T.at_ 1)).length + 1)) else (be 4 (lst (T.at_ 1)).length)) ++ ((lst (T.at_ 1)).flatMap (fun E=>be 4 (IntKind.i32.wrap E.N)))) ++ (if (decide (v ≥ 0)) = true then (uv T.U.length) ++ (qcE T.U) else []))
theorem qbn (v:Int) (T:Tree):0 < (qaB v T).length:=qii (qkp (qii (qkK _)) (qii (qhF (by decide))))
def qaF (v:Int) (T:Tree):Bs:=(if (decide (v ≥ 0)) = true then (uv ((T.at_ 0).S.length + 1) ++ (T.at_ 0).S) else (be 2 (T.at_ 0).S.length ++ (T.at_ 0).S)) ++ (((if (decide (v ≥ 0)) = true then (if (T.at_ 1).null = true then uv 0 else uv ((lst (T.at_ 1)).length + 1)) else (if (T.at_ 1).null = true then be 4 (-1) else be 4 (lst (T.at_ 1)).length)) ++ ((lst (T.at_ 1)).flatMap (qaB v))) ++ (if (decide (v ≥ 0)) = true then (uv T.U.length) ++ (qcE T.U) else []))
theorem qbt (v:Int) (T:Tree):0 < (qaF v T).length:=qii (qkp (qii (qkK _)) (qii (qhF (by decide))))
def qbG (v:Int) (T:Tree):Bs:=((if (decide (v ≥ 0)) = true then (uv ((lst (T.at_ 0)).length + 1)) else (be 4 (lst (T.at_ 0)).length)) ++ ((lst (T.at_ 0)).flatMap (qaF v))) ++ ((if (decide (v ≥ 0)) = true then (uv T.U.length) ++ (qcE T.U) else []) ++ (([]:Bs)))
theorem qcn (v:Int) (T:Tree):qag v T = qbG v T:=rfl
def qbp (d:DV):List Value:=[.string ((d.f 0).s),.slice ((d.f 1).A) ((d.f 1).l) ((d.f 1).c),.map d.m]
theorem qaM:qf2 qaG:=by
 intro w w' F F' M d hs hM hF h
 unfold qaG at h ⊢
 obtain ⟨g0,⟨g1,g1l,g1e⟩,t1,t2,t3,_⟩:=h
 exact ⟨g0,⟨g1.move hs hM hF,g1l,g1e⟩,t1.move hs hM hF,t2,t3,trivial⟩
def qbx (d:DV):List Value:=[.string ((d.f 0).s),.slice ((d.f 1).A) ((d.f 1).l) ((d.f 1).c),.map d.m]
theorem qaS:qf2 qaN:=by
 intro w w' F F' M d hs hM hF h
 unfold qaN at h ⊢
 obtain ⟨g0,⟨g1,g1l,g1e⟩,t1,t2,t3,_⟩:=h
 exact ⟨g0,⟨g1.move hs hM hF,g1l,fun i hi=>qaM _ hs hM hF (g1e i hi)⟩,t1.move hs hM hF,t2,t3,trivial⟩
def qaT (v:Int) (D:DV) (T:Tree):Prop:=((D.f 0).s = bs (T.at_ 0).S) ∧ (((D.f 1).l = (lst (T.at_ 1)).length ∧ ∀ i,i < (D.f 1).l → ((D.f 1).f i).n = IntKind.i32.wrap ((lst (T.at_ 1)).getD i .zero).N)) ∧ (((decide (v ≥ 0)) = true → D.u = T.U) ∧ ((decide (v ≥ 0)) = false → D.u = [])) ∧ True
def qaZ (v:Int) (D:DV) (T:Tree):Prop:=((D.f 0).s = bs (T.at_ 0).S) ∧ (((decide (v ≥ 0) = true → (D.f 1).A.isNone = (T.at_ 1).null) ∧ (D.f 1).l = (lst (T.at_ 1)).length ∧ ∀ i,i < (D.f 1).l → qaT v ((D.f 1).f i) ((lst (T.at_ 1)).getD i .zero))) ∧ (((decide (v ≥ 0)) = true → D.u = T.U) ∧ ((decide (v ≥ 0)) = false → D.u = [])) ∧ True
def qa0 (v:Int) (D:DV) (T:Tree):Prop:=(((D.f 0).l = (lst (T.at_ 0)).length ∧ ∀ i,i < (D.f 0).l → qaZ v ((D.f 0).f i) ((lst (T.at_ 0)).getD i .zero))) ∧ (((decide (v ≥ 0)) = true → D.u = T.U) ∧ ((decide (v ≥ 0)) = false → D.u = [])) ∧ True
theorem qlx (b o:Nat) (w:World):Calls Tryz.prog 120 #[.pointer (some ⟨b,o,none⟩)] w (fun e w'=>e = .returned (.tuple #[]) ∧ w' = w):=by
 refine enter (n:=2) (vs:=[.pointer (some ⟨b,o,none⟩)]) Tryz.func120 rfl Tryz.ntmps120 kz fun a hE=>?_
 refine wp_skip ?_
 exact qbN hE (WOk.start w Nil).cells (v:=.tuple #[]) kz ⟨rfl,rfl⟩
theorem qly (b o:Nat) (w:World):Calls Tryz.prog 121 #[.pointer (some ⟨b,o,none⟩)] w (fun e w'=>e = .returned (.tuple #[]) ∧ w' = w):=by
 refine enter (n:=2) (vs:=[.pointer (some ⟨b,o,none⟩)]) Tryz.func121 rfl Tryz.ntmps121 kz fun a hE=>?_
 refine wp_skip ?_
 exact qbN hE (WOk.start w Nil).cells (v:=.tuple #[]) kz ⟨rfl,rfl⟩
set_option maxHeartbeats 4000000 in
theorem qco (v:Int) (T:Tree) {bv:Nat} {A:Option Addr} {c:Nat} {w:World} {F:Nat → Nat → Prop} (hst:Str w bv [.int .i16 v,.slice none 0 0,.map none]) (ho:Octs w F A c (qag v T)) (hFd:∀ b o,F b o → ¬ (b = bv ∧ o < 3)) (hc:qaY T) (hR:T.ranged) :
  Calls Tryz.prog 83 #[.pointer (some ⟨bv,0,none⟩),.slice A (qag v T).length c,.bool false] w (fun e w'=>∃ D:DV,e = .returned .nilIface ∧ Str w' bv [.int .i16 v,.slice ((D.f 0).A) ((D.f 0).l) ((D.f 0).c),.map D.m] ∧ qa3 w' (Fp F w) D ∧ qa0 v D T ∧ Step w w' (fun b o=>b = bv ∧ o < 3)):=by
 refine enter (n:=189) Tryz.func83 rfl Tryz.ntmps83 kz fun a hE=>?_
 have hW:=WOk.startStr hst
 have hE1:=(hE.grow ⟨bv,0,[.int .i16 v,.slice none 0 0,.map none],true⟩).recast 0 (.v (.pointer (some ⟨bv,0,none⟩))) (.p 0 0) rfl rfl (Nat.le_of_ble_eq_true (n:=1) rfl)
 refine qap [(0,.p 0 0),(1,.v (.slice A ((qag v T).length) c)),(2,.v (.bool false))] hW hE1 fun a1 hE2=>?_
 refine qad [0,1] kz ?_
 refine qaj [0] [1] [(0,.p 0 0),(1,.v (.slice A ((qag v T).length) c)),(2,.v (.bool false)),(30,.p 0 0)] hW hE2 fun a3 hE4=>?_
 refine qal (qbK hE4 (f:=81) (vs:=[.pointer (some ⟨bv,0,none⟩)]) (d:=31) (n':=2) kz Tryz.call81 Tryz.func81 rfl Tryz.ntmps81 kz fun a5 hE6=>?_)
 have hE7:=hE6.recast 0 (.v (.pointer (some ⟨bv,0,none⟩))) (.p 0 0) rfl rfl (Nat.le_of_ble_eq_true (n:=1) rfl)
 refine wp_skip ?_
 refine qbN hE7 hW.cells (v:=.tuple #[]) kz ?_
 refine ⟨_,rfl,fun a8 hE9=>?_⟩
 have fD:EnvOk 189 [⟨bv,0,[.int .i16 v,.slice none 0 0,.map none],true⟩] [(31,.v (.tuple #[])),(0,.p 0 0),(1,.v (.slice A ((qag v T).length) c)),(2,.v (.bool false)),(30,.p 0 0)] _:=hE9.places (⟨rfl,rfl,trivial⟩)
 refine qae (qab ?_)
 refine qad [0,1,2,3] kz ?_
 refine qaj [0,1] [2,3] [(0,.p 0 0),(2,.v (.bool false)),(33,.v (.agg #[.slice A ((qag v T).length) c,.bool false]))] hW fD fun gh fE=>?_
 refine qal (qaU hW fE (d:=7) (cs:=[.slice none 0 0,.bool false]) kz fun bj gi gj fU fV fW fF fG=>?_)
 refine qal (qau fF fG (oi:=1) (cs:=[.slice A ((qag v T).length) c,.bool false]) kz fun gk fX dP fH=>?_)
 refine qae (qab ?_)
 have d5:=RS.start (F:=F) (s:=qag v T) dP fH (ho.move dP.step (fun b_ o_ h_ _=>hFd b_ o_ h_) (dP.immM hFd)) [(0,.p 1 0),(2,.v (.bool false)),(7,.p 0 0)]
 have fS:=hc
 have e26r:=hR
 unfold qaY at fS
 obtain ⟨⟨e26_0,e26_0e⟩,e26_U,_⟩:=fS
 obtain ⟨bt,d6⟩:∃ R,R = (if (decide (v ≥ 0)) = true then (uv T.U.length) ++ (qcE T.U) else []) ++ ([]:Bs):=⟨_,rfl⟩
 obtain ⟨fY,d7⟩:∃ R,R = ((if (decide (v ≥ 0)) = true then (uv ((lst (T.at_ 0)).length + 1)) else (be 4 (lst (T.at_ 0)).length)) ++ ((lst (T.at_ 0)).flatMap (qaF v))) ++ bt:=⟨_,rfl⟩
 have d8:=d5.cast (t:=fY) (by rw [qcn,d7,d6]; unfold qbG; simp only [List.append_assoc])
 clear d5
 refine wp_seq ?_
 refine qbD [(0,.p 1 0),(2,.v (.bool false)),(7,.p 0 0),(8,.v (.int .i16 v))] d8 fun _ d9=>?_
 clear d8
 refine qab ?_
 refine wp_seq ?_
 refine qbD [(0,.p 1 0),(2,.v (.bool false)),(7,.p 0 0),(8,.v (.int .i16 v))] d9 fun _ ea=>?_
 clear d9
 refine qab ?_
 refine wp_seq ?_
 refine qbD [(0,.p 1 0),(2,.v (.bool false)),(7,.p 0 0),(8,.v (.int .i16 v)),(9,.v (.bool (decide (v ≥ 0))))] ea fun _ eb=>?_
 clear ea
 refine qab ?_
 refine wp_seq ?_
 refine qbD [(0,.p 1 0),(2,.v (.bool false)),(7,.p 0 0),(8,.v (.int .i16 v)),(9,.v (.bool (decide (v ≥ 0))))] eb fun _ ec=>?_
 clear eb
 refine qab ?_
 refine wp_seq ?_
 refine qbD [(2,.v (.bool false)),(7,.p 0 0),(8,.v (.int .i16 v)),(9,.v (.bool (decide (v ≥ 0)))),(10,.p 1 0)] ec fun _ ee=>?_
 clear ec
 refine qab ?_
 refine wp_seq ?_
 refine wp_seq ?_
 refine qbD [(2,.v (.bool false)),(7,.p 0 0),(8,.v (.int .i16 v)),(9,.v (.bool (decide (v ≥ 0)))),(10,.p 1 0),(11,.v (.slice none 0 0))] ee fun _ ef=>?_
 clear ee
 refine qab ?_
 refine wp_seq ?_
 refine qbD [(2,.v (.bool false)),(7,.p 0 0),(8,.v (.int .i16 v)),(9,.v (.bool (decide (v ≥ 0)))),(10,.p 1 0),(12,.v (.slice none 0 0))] ef fun _ eg=>?_
 clear ef
 refine qab ?_
 refine wp_seq ?_
 refine qbD [(2,.v (.bool false)),(7,.p 0 0),(8,.v (.int .i16 v)),(9,.v (.bool (decide (v ≥ 0)))),(10,.p 1 0),(12,.v (.slice none 0 0))] eg fun _ eh=>?_
 clear eg
 refine qab ?_
 refine wp_seq ?_
 have ei:=eh.cast d7
 clear eh
 have ej:=ei.cast (t:=(if (decide (v ≥ 0)) = true then (uv ((lst (T.at_ 0)).length + 1)) else (be 4 (lst (T.at_ 0)).length)) ++ (((lst (T.at_ 0)).flatMap (qaF v)) ++ bt)) (by rw [List.append_assoc])
 clear ei
 refine qfh (d1:=49) (d2:=50) [(2,.v (.bool false)),(7,.p 0 0),(8,.v (.int .i16 v)),(9,.v (.bool (decide (v ≥ 0)))),(10,.p 1 0),(12,.v (.slice none 0 0)),(48,.v (.bool (decide (v ≥ 0))))] [(2,.v (.bool false)),(7,.p 0 0),(8,.v (.int .i16 v)),(9,.v (.bool (decide (v ≥ 0)))),(10,.p 1 0),(12,.v (.slice none 0 0)),(13,.v (.int .i32 (((lst (T.at_ 0)).length:Nat):Int)))] ej (qcJ ((lst (T.at_ 0)).length) e26_0 _ (flat_ge' (qbt v) _)) Tryz.call93 (qfj ((lst (T.at_ 0)).length) e26_0 _ (flat_ge' (qbt v) _)) Tryz.call94 fun _ _ ek=>?_
 clear ej
 refine qab ?_
 refine wp_seq ?_
 refine wp_seq ?_
 refine qk1 (d:=51) [(2,.v (.bool false)),(7,.p 0 0),(8,.v (.int .i16 v)),(9,.v (.bool (decide (v ≥ 0)))),(10,.p 1 0),(12,.v (.slice none 0 0)),(13,.v (.int .i32 (((lst (T.at_ 0)).length:Nat):Int))),(52,.v (.bool false))] ek (pOk _) Tryz.call95 fun _ _ dQ=>?_
 clear ek
 refine qab ?_
 refine qao dQ.env_ (b:=false) kz (rfl) ?_
 refine wp_skip ?_
 refine qab ?_
 refine wp_seq ?_
 refine qhh (t:=115) (e:=122) (size:=3) (bytes:=48) (d:=55) (A0:=none) (m:=0) (cp:=0) [(2,.v (.bool false)),(7,.p 0 0),(8,.v (.int .i16 v)),(9,.v (.bool (decide (v ≥ 0)))),(10,.p 1 0),(13,.v (.int .i32 (((lst (T.at_ 0)).length:Nat):Int))),(54,.v (.slice none 0 0))] [(2,.v (.bool false)),(7,.p 0 0),(8,.v (.int .i16 v)),(9,.v (.bool (decide (v ≥ 0)))),(10,.p 1 0),(12,.v (.slice none 0 0)),(13,.v (.int .i32 (((lst (T.at_ 0)).length:Nat):Int)))] 1 dQ fun _ em=>?_
 clear dQ
 refine qab ?_
 refine qf5 (Mid:=fun a_ w_=>∃ (ap:DV) (P':qcI),(∀ w F,P' w F → noF w F ∧ (Slots w F 3 ap.A ap.c ap.l (fun i=>[.string (((ap.f i).f 0).s),.slice (((ap.f i).f 1).A) (((ap.f i).f 1).l) (((ap.f i).f 1).c),.map ((ap.f i).m)]) ∧ ap.l ≤ 1000000 ∧ ∀ i,i < ap.l → qaN w F (ap.f i)) ∧ (ap.l = (lst (T.at_ 0)).length ∧ ∀ i,i < ap.l → qaZ v (ap.f i) ((lst (T.at_ 0)).getD i .zero))) ∧ RS w (fun b o=>b = bv ∧ o < 3) F 189 bj [⟨bv,0,[.int .i16 v,.slice none 0 0,.map none],true⟩] [(7,.p 0 0),(9,.v (.bool (decide (v ≥ 0)))),(10,.p 1 0),(12,.v (.slice ap.A ap.l ap.c))] P' bt a_ w_) ?_ ?_
 ·
  refine wp_seq ?_
  refine qbD [(2,.v (.bool false)),(7,.p 0 0),(8,.v (.int .i16 v)),(9,.v (.bool (decide (v ≥ 0)))),(10,.p 1 0),(12,.v (.slice none 0 0)),(13,.v (.int .i32 (((lst (T.at_ 0)).length:Nat):Int))),(57,.v (.bool (decide ((((lst (T.at_ 0)).length:Nat):Int) > 0))))] em fun _ aR=>qab ?_
  clear em
  refine qav aR.env_ (b:=decide ((((lst (T.at_ 0)).length:Nat):Int) > 0)) kz (fun bk=>?_) (fun bk=>?_)
  ·
   have hn_g53:0 < (lst (T.at_ 0)).length:=by have h_:=of_decide_eq_true bk; omega
   refine qaq [0,1,2,3] kz ?_
   refine qcF [0,1] [2,3] [(2,.v (.bool false)),(7,.p 0 0),(8,.v (.int .i16 v)),(9,.v (.bool (decide (v ≥ 0)))),(10,.p 1 0),(13,.v (.int .i32 (((lst (T.at_ 0)).length:Nat):Int))),(58,.v (.slice none 0 0)),(59,.v (.int .i32 (((lst (T.at_ 0)).length:Nat):Int)))] aR fun _ eo=>?_
   clear aR
   refine qal (qeA (A0:=none) (d:=60) (t:=115) (tn:=21) (e:=122) (size:=3) (bytes:=48) (k:=.i32) (kn:=.i32) (q:=(((lst (T.at_ 0)).length:Nat):Int)) (j:=(lst (T.at_ 0)).length) (.agg #[.string ByteArray.empty,.slice none 0 0,.map none]) eo (fun af ai _ _ hg_g53 hcap_g53 ep=>?_) rfl hn_g53 (by have:=e26_0; omega))
   clear eo
   refine qcF [3] [] [(2,.v (.bool false)),(7,.p 0 0),(8,.v (.int .i16 v)),(9,.v (.bool (decide (v ≥ 0)))),(10,.p 1 0),(12,.v (.slice (some ⟨af,0,none⟩) ((lst (T.at_ 0)).length) ai)),(13,.v (.int .i32 (((lst (T.at_ 0)).length:Nat):Int)))] ep fun _ eu=>qae ?_
   clear ep
   refine qab ?_
   refine wp_seq ?_
   refine qbD [(2,.v (.bool false)),(7,.p 0 0),(8,.v (.int .i16 v)),(9,.v (.bool (decide (v ≥ 0)))),(10,.p 1 0),(12,.v (.slice (some ⟨af,0,none⟩) ((lst (T.at_ 0)).length) ai)),(13,.v (.int .i32 (((lst (T.at_ 0)).length:Nat):Int))),(14,.v (.int .i32 0))] eu fun _ dR=>?_
   clear eu
   refine qab ?_
   refine wp_block ?_
   have bu:=dR.mv
   have fI:=(dR.cast (t:=(lst (T.at_ 0)).flatMap (qaF v) ++ bt) rfl).pk (env':=[(2,.v (.bool false)),(7,.p 0 0),(8,.v (.int .i16 v)),(9,.v (.bool (decide (v ≥ 0)))),(10,.p 1 0),(12,.v (.slice (some ⟨af,0,none⟩) ((lst (T.at_ 0)).length) ai)),(13,.v (.int .i32 (((lst (T.at_ 0)).length:Nat):Int))),(14,.v (.int .i32 ((0:Nat):Int)))])
   clear dR
   refine qhg (tb:=[⟨bv,0,[.int .i16 v,.slice none 0 0,.map none],true⟩]) (z:=.agg #[.string ByteArray.empty,.slice none 0 0,.map none]) (cl:=qbx) (ok:=qaN) (rel:=(qaZ v)) (L:=lst (T.at_ 0)) (size:=3) (qaF v) bt (fun k=>[(2,.v (.bool false)),(7,.p 0 0),(8,.v (.int .i16 v)),(9,.v (.bool (decide (v ≥ 0)))),(10,.p 1 0),(12,.v (.slice (some ⟨af,0,none⟩) ((lst (T.at_ 0)).length) ai)),(13,.v (.int .i32 (((lst (T.at_ 0)).length:Nat):Int))),(14,.v (.int .i32 ((k:Nat):Int)))]) fI qaS (fun ag aa _ _ dS fJ ev=>?_) (fun _ _ ew=>?_)
   ·
    obtain ⟨fK,ey,ez⟩:∃ P',(∀ w F,P' w F → (noF w F ∧ qfi af 3 qbx qaN (qaZ v) (lst (T.at_ 0)) ag w F)) ∧ RS w (fun b o=>b = bv ∧ o < 3) F 189 bj [⟨bv,0,[.int .i16 v,.slice none 0 0,.map none],true⟩,qbm af 3 (.agg #[.string ByteArray.empty,.slice none 0 0,.map none]) ((lst (T.at_ 0)).length) ag] [(2,.v (.bool false)),(7,.p 0 0),(8,.v (.int .i16 v)),(9,.v (.bool (decide (v ≥ 0)))),(10,.p 1 0),(12,.v (.slice (some ⟨af,0,none⟩) ((lst (T.at_ 0)).length) ai)),(13,.v (.int .i32 (((lst (T.at_ 0)).length:Nat):Int))),(14,.v (.int .i32 ((ag:Nat):Int)))] P' ((qaF v) aa ++ (((lst (T.at_ 0)).drop (ag + 1)).flatMap (qaF v) ++ bt)) _ _:=⟨_,fun _ _ h=>h,ev⟩
    clear ev
    obtain ⟨eB,eC⟩:∃ R,R = ((lst (T.at_ 0)).drop (ag + 1)).flatMap (qaF v) ++ bt:=⟨_,rfl⟩
    have fT:=(e26_0e aa (List.mem_of_getElem? dS))
    have e72r:=(qfF (qff e26r 0) aa (List.mem_of_getElem? dS))
    unfold qa9 at fT
    obtain ⟨e72_0,⟨e72_1,e72_1e⟩,e72_U,_⟩:=fT
    obtain ⟨bn,eD⟩:∃ R,R = (if (decide (v ≥ 0)) = true then (uv aa.U.length) ++ (qcE aa.U) else []) ++ eB:=⟨_,rfl⟩
    obtain ⟨fZ,eE⟩:∃ R,R = ((if (decide (v ≥ 0)) = true then (if (aa.at_ 1).null = true then uv 0 else uv ((lst (aa.at_ 1)).length + 1)) else (if (aa.at_ 1).null = true then be 4 (-1) else be 4 (lst (aa.at_ 1)).length)) ++ ((lst (aa.at_ 1)).flatMap (qaB v))) ++ bn:=⟨_,rfl⟩
    obtain ⟨f7,eF⟩:∃ R,R = (if (decide (v ≥ 0)) = true then (uv ((aa.at_ 0).S.length + 1) ++ (aa.at_ 0).S) else (be 2 (aa.at_ 0).S.length ++ (aa.at_ 0).S)) ++ fZ:=⟨_,rfl⟩
    have eG:=ez.cast (t:=f7) (by rw [eF,eE,eD,← eC]; unfold qaF; simp only [List.append_assoc])
    clear ez
    refine wp_seq ?_
    refine wp_seq ?_
    refine qbD [(2,.v (.bool false)),(7,.p 0 0),(8,.v (.int .i16 v)),(9,.v (.bool (decide (v ≥ 0)))),(10,.p 1 0),(12,.v (.slice (some ⟨af,0,none⟩) ((lst (T.at_ 0)).length) ai)),(13,.v (.int .i32 (((lst (T.at_ 0)).length:Nat):Int))),(14,.v (.int .i32 ((ag:Nat):Int))),(63,.v (.bool (decide (((ag:Nat):Int) < (((lst (T.at_ 0)).length:Nat):Int)))))] eG fun _ dT=>qab ?_
    clear eG
    refine qa7 dT.env_ (b:=decide (((ag:Nat):Int) < (((lst (T.at_ 0)).length:Nat):Int))) kz (decide_eq_true (by omega)) ?_
    refine wp_skip ?_
    refine qab ?_
    refine wp_seq ?_
    refine wp_block ?_
    refine wp_seq ?_
    refine qjs (t:=115) (e:=122) (size:=3) (bytes:=48) (d:=68) (tb:=[⟨bv,0,[.int .i16 v,.slice none 0 0,.map none],true⟩]) (z:=.agg #[.string ByteArray.empty,.slice none 0 0,.map none]) [(2,.v (.bool false)),(7,.p 0 0),(8,.v (.int .i16 v)),(9,.v (.bool (decide (v ≥ 0)))),(10,.p 1 0),(12,.v (.slice (some ⟨af,0,none⟩) ((lst (T.at_ 0)).length) ai)),(13,.v (.int .i32 (((lst (T.at_ 0)).length:Nat):Int))),(14,.v (.int .i32 ((ag:Nat):Int))),(66,.v (.slice (some ⟨af,0,none⟩) ((lst (T.at_ 0)).length) ai)),(67,.v (.int .i32 ((ag:Nat):Int)))] [(2,.v (.bool false)),(7,.p 0 0),(8,.v (.int .i16 v)),(9,.v (.bool (decide (v ≥ 0)))),(10,.p 1 0),(12,.v (.slice (some ⟨af,0,none⟩) ((lst (T.at_ 0)).length) ai)),(13,.v (.int .i32 (((lst (T.at_ 0)).length:Nat):Int))),(14,.v (.int .i32 ((ag:Nat):Int))),(15,.p 3 0)] 2 dT fJ rfl kz fun _ eH=>?_
    clear dT
    have eI:=eH.tbEq (tb':=[⟨bv,0,[.int .i16 v,.slice none 0 0,.map none],true⟩,qbm af 3 (.agg #[.string ByteArray.empty,.slice none 0 0,.map none]) ((lst (T.at_ 0)).length) (ag + 1),⟨af,ag * 3,[.string ByteArray.empty,.slice none 0 0,.map none],true⟩]) rfl
    clear eH
    refine qab ?_
    refine wp_seq ?_
    refine qaq [0,1] kz ?_
    refine qcF [0] [1] [(2,.v (.bool false)),(7,.p 0 0),(8,.v (.int .i16 v)),(9,.v (.bool (decide (v ≥ 0)))),(10,.p 1 0),(12,.v (.slice (some ⟨af,0,none⟩) ((lst (T.at_ 0)).length) ai)),(13,.v (.int .i32 (((lst (T.at_ 0)).length:Nat):Int))),(14,.v (.int .i32 ((ag:Nat):Int))),(15,.p 3 0),(69,.p 3 0)] eI fun _ eJ=>?_
    clear eI
    refine qal (qkq (d:=70) (vs:=[.pointer (some ⟨af,ag * 3,none⟩)]) eJ (fun _=>qlx _ _ _) Tryz.call120 fun _ eK=>?_)
    clear eJ
    refine qae ?_
    have eL:=eK.pk (env':=[(2,.v (.bool false)),(7,.p 0 0),(8,.v (.int .i16 v)),(9,.v (.bool (decide (v ≥ 0)))),(10,.p 1 0),(12,.v (.slice (some ⟨af,0,none⟩) ((lst (T.at_ 0)).length) ai)),(13,.v (.int .i32 (((lst (T.at_ 0)).length:Nat):Int))),(14,.v (.int .i32 ((ag:Nat):Int))),(15,.p 3 0)])
    clear eK
    refine qab ?_
    refine wp_seq ?_
    refine qbD [(2,.v (.bool false)),(7,.p 0 0),(8,.v (.int .i16 v)),(9,.v (.bool (decide (v ≥ 0)))),(10,.p 1 0),(12,.v (.slice (some ⟨af,0,none⟩) ((lst (T.at_ 0)).length) ai)),(13,.v (.int .i32 (((lst (T.at_ 0)).length:Nat):Int))),(14,.v (.int .i32 ((ag:Nat):Int))),(16,.p 3 0)] eL fun _ eM=>?_
    clear eL
    refine qab ?_
    refine wp_seq ?_
    refine wp_seq ?_
    refine qbD [(2,.v (.bool false)),(7,.p 0 0),(8,.v (.int .i16 v)),(9,.v (.bool (decide (v ≥ 0)))),(10,.p 1 0),(12,.v (.slice (some ⟨af,0,none⟩) ((lst (T.at_ 0)).length) ai)),(13,.v (.int .i32 (((lst (T.at_ 0)).length:Nat):Int))),(14,.v (.int .i32 ((ag:Nat):Int))),(16,.p 3 0)] eM fun _ eN=>?_
    clear eM
    refine qab ?_
    refine wp_seq ?_
    refine wp_seq ?_
    refine qbD [(2,.v (.bool false)),(7,.p 0 0),(8,.v (.int .i16 v)),(9,.v (.bool (decide (v ≥ 0)))),(10,.p 1 0),(12,.v (.slice (some ⟨af,0,none⟩) ((lst (T.at_ 0)).length) ai)),(13,.v (.int .i32 (((lst (T.at_ 0)).length:Nat):Int))),(14,.v (.int .i32 ((ag:Nat):Int))),(16,.p 3 0),(72,.v (.bool false))] eN fun _ dU=>qab ?_
    clear eN
    refine qao dU.env_ (b:=false) kz (rfl) ?_
    have eO:=dU.cast eF
    clear dU
    refine qfh (d1:=77) (d2:=78) [(2,.v (.bool false)),(7,.p 0 0),(8,.v (.int .i16 v)),(9,.v (.bool (decide (v ≥ 0)))),(10,.p 1 0),(12,.v (.slice (some ⟨af,0,none⟩) ((lst (T.at_ 0)).length) ai)),(13,.v (.int .i32 (((lst (T.at_ 0)).length:Nat):Int))),(14,.v (.int .i32 ((ag:Nat):Int))),(16,.p 3 0),(76,.v (.bool (decide (v ≥ 0))))] [(2,.v (.bool false)),(7,.p 0 0),(8,.v (.int .i16 v)),(9,.v (.bool (decide (v ≥ 0)))),(10,.p 1 0),(12,.v (.slice (some ⟨af,0,none⟩) ((lst (T.at_ 0)).length) ai)),(13,.v (.int .i32 (((lst (T.at_ 0)).length:Nat):Int))),(14,.v (.int .i32 ((ag:Nat):Int))),(16,.p 3 0),(17,.v (.string (bs (aa.at_ 0).S)))] eO (qdT (aa.at_ 0).S e72_0 _) Tryz.call115 (qjt (aa.at_ 0).S e72_0 _) Tryz.call116 fun _ _ eP=>?_
    clear eO
    refine qab ?_
    refine qgN [⟨bv,0,[.int .i16 v,.slice none 0 0,.map none],true⟩,qbm af 3 (.agg #[.string ByteArray.empty,.slice none 0 0,.map none]) ((lst (T.at_ 0)).length) (ag + 1),⟨af,ag * 3,[.string (bs (aa.at_ 0).S),.slice none 0 0,.map none],true⟩] 2 [(2,.v (.bool false)),(7,.p 0 0),(8,.v (.int .i16 v)),(9,.v (.bool (decide (v ≥ 0)))),(10,.p 1 0),(12,.v (.slice (some ⟨af,0,none⟩) ((lst (T.at_ 0)).length) ai)),(13,.v (.int .i32 (((lst (T.at_ 0)).length:Nat):Int))),(14,.v (.int .i32 ((ag:Nat):Int))),(16,.p 3 0)] eP fun _ _ eQ=>?_
    clear eP
    refine qab ?_
    refine wp_seq ?_
    refine wp_seq ?_
    refine qbD [(2,.v (.bool false)),(7,.p 0 0),(8,.v (.int .i16 v)),(9,.v (.bool (decide (v ≥ 0)))),(10,.p 1 0),(12,.v (.slice (some ⟨af,0,none⟩) ((lst (T.at_ 0)).length) ai)),(13,.v (.int .i32 (((lst (T.at_ 0)).length:Nat):Int))),(14,.v (.int .i32 ((ag:Nat):Int))),(16,.p 3 0),(18,.v (.slice none 0 0))] eQ fun _ eR=>?_
    clear eQ
    refine qab ?_
    refine wp_seq ?_
    refine qbD [(2,.v (.bool false)),(7,.p 0 0),(8,.v (.int .i16 v)),(9,.v (.bool (decide (v ≥ 0)))),(10,.p 1 0),(12,.v (.slice (some ⟨af,0,none⟩) ((lst (T.at_ 0)).length) ai)),(13,.v (.int .i32 (((lst (T.at_ 0)).length:Nat):Int))),(14,.v (.int .i32 ((ag:Nat):Int))),(16,.p 3 0),(19,.v (.slice none 0 0))] eR fun _ eS=>?_
    clear eR
    refine qab ?_
    refine wp_seq ?_
    refine qbD [(2,.v (.bool false)),(7,.p 0 0),(8,.v (.int .i16 v)),(9,.v (.bool (decide (v ≥ 0)))),(10,.p 1 0),(12,.v (.slice (some ⟨af,0,none⟩) ((lst (T.at_ 0)).length) ai)),(13,.v (.int .i32 (((lst (T.at_ 0)).length:Nat):Int))),(14,.v (.int .i32 ((ag:Nat):Int))),(16,.p 3 0),(19,.v (.slice none 0 0))] eS fun _ eU=>?_
    clear eS
    refine qab ?_
    refine wp_seq ?_
    have eV:=eU.cast eE
    clear eU
    have eW:=eV.cast (t:=(if (decide (v ≥ 0)) = true then (if (aa.at_ 1).null = true then uv 0 else uv ((lst (aa.at_ 1)).length + 1)) else (if (aa.at_ 1).null = true then be 4 (-1) else be 4 (lst (aa.at_ 1)).length)) ++ (((lst (aa.at_ 1)).flatMap (qaB v)) ++ bn)) (by rw [List.append_assoc])
    clear eV
    refine qfh (d1:=89) (d2:=90) [(2,.v (.bool false)),(7,.p 0 0),(8,.v (.int .i16 v)),(9,.v (.bool (decide (v ≥ 0)))),(10,.p 1 0),(12,.v (.slice (some ⟨af,0,none⟩) ((lst (T.at_ 0)).length) ai)),(13,.v (.int .i32 (((lst (T.at_ 0)).length:Nat):Int))),(14,.v (.int .i32 ((ag:Nat):Int))),(16,.p 3 0),(19,.v (.slice none 0 0)),(88,.v (.bool (decide (v ≥ 0))))] [(2,.v (.bool false)),(7,.p 0 0),(8,.v (.int .i16 v)),(9,.v (.bool (decide (v ≥ 0)))),(10,.p 1 0),(12,.v (.slice (some ⟨af,0,none⟩) ((lst (T.at_ 0)).length) ai)),(13,.v (.int .i32 (((lst (T.at_ 0)).length:Nat):Int))),(14,.v (.int .i32 ((ag:Nat):Int))),(16,.p 3 0),(19,.v (.slice none 0 0)),(20,.v (.int .i32 (lenN (aa.at_ 1).null ((lst (aa.at_ 1)).length))))] eW (qeB (aa.at_ 1).null ((lst (aa.at_ 1)).length) e72_1 _ (flat_ge' (qbn v) _)) Tryz.call93 (qij (aa.at_ 1).null ((lst (aa.at_ 1)).length) e72_1 _ (flat_ge' (qbn v) _)) Tryz.call94 fun _ _ eX=>?_
    clear eW
    refine qab ?_
    refine wp_seq ?_
    refine qeU (Mid:=fun a_ w_=>∃ (ar:Option Addr),(decide (v ≥ 0) = true → (lst (aa.at_ 1)).length = 0 → ar.isNone = (aa.at_ 1).null) ∧ RS w (fun b o=>b = bv ∧ o < 3) F 189 bj [⟨bv,0,[.int .i16 v,.slice none 0 0,.map none],true⟩,qbm af 3 (.agg #[.string ByteArray.empty,.slice none 0 0,.map none]) ((lst (T.at_ 0)).length) (ag + 1),⟨af,ag * 3,[.string (bs (aa.at_ 0).S),.slice none 0 0,.map none],true⟩] [(2,.v (.bool false)),(7,.p 0 0),(8,.v (.int .i16 v)),(9,.v (.bool (decide (v ≥ 0)))),(10,.p 1 0),(12,.v (.slice (some ⟨af,0,none⟩) ((lst (T.at_ 0)).length) ai)),(13,.v (.int .i32 (((lst (T.at_ 0)).length:Nat):Int))),(14,.v (.int .i32 ((ag:Nat):Int))),(16,.p 3 0),(19,.v (.slice ar 0 0)),(20,.v (.int .i32 (lenN (aa.at_ 1).null ((lst (aa.at_ 1)).length))))] fK ((lst (aa.at_ 1)).flatMap (qaB v) ++ bn) a_ w_) ?_ ?_
    ·
     refine wp_seq ?_
     refine qaq [0,1,2,3,4,5] kz ?_
     refine qcF [0,1,2] [3,4,5] [(2,.v (.bool false)),(7,.p 0 0),(8,.v (.int .i16 v)),(9,.v (.bool (decide (v ≥ 0)))),(10,.p 1 0),(12,.v (.slice (some ⟨af,0,none⟩) ((lst (T.at_ 0)).length) ai)),(13,.v (.int .i32 (((lst (T.at_ 0)).length:Nat):Int))),(14,.v (.int .i32 ((ag:Nat):Int))),(16,.p 3 0),(19,.v (.slice none 0 0)),(20,.v (.int .i32 (lenN (aa.at_ 1).null ((lst (aa.at_ 1)).length)))),(93,.v (.bool (decide (v < 0))))] eX fun _ aL=>?_
     clear eX
     refine (Bool.eq_false_or_eq_true (decide (v < 0))).elim (fun aM=>?_) (fun aM=>?_)
     ·
      have bw:=aL.envEq (env':=[(2,.v (.bool false)),(7,.p 0 0),(8,.v (.int .i16 v)),(9,.v (.bool (decide (v ≥ 0)))),(10,.p 1 0),(12,.v (.slice (some ⟨af,0,none⟩) ((lst (T.at_ 0)).length) ai)),(13,.v (.int .i32 (((lst (T.at_ 0)).length:Nat):Int))),(14,.v (.int .i32 ((ag:Nat):Int))),(16,.p 3 0),(19,.v (.slice none 0 0)),(20,.v (.int .i32 (lenN (aa.at_ 1).null ((lst (aa.at_ 1)).length)))),(93,.v (.bool true))]) (by rw [aM])
      clear aL
      refine qcF [3,4,5] [] [(2,.v (.bool false)),(7,.p 0 0),(8,.v (.int .i16 v)),(9,.v (.bool (decide (v ≥ 0)))),(10,.p 1 0),(12,.v (.slice (some ⟨af,0,none⟩) ((lst (T.at_ 0)).length) ai)),(13,.v (.int .i32 (((lst (T.at_ 0)).length:Nat):Int))),(14,.v (.int .i32 ((ag:Nat):Int))),(16,.p 3 0),(19,.v (.slice none 0 0)),(20,.v (.int .i32 (lenN (aa.at_ 1).null ((lst (aa.at_ 1)).length)))),(96,.v (.bool true))] bw fun _ aS=>qae (qab ?_)
      clear bw
      refine qa7 aS.env_ (b:=true) kz rfl ?_
      refine qaq [0,1] kz ?_
      refine qal (qjo (e:=164) (size:=3) (d:=97) aS fun dV _ _ bx=>?_)
      clear aS
      refine qcF [1] [] [(2,.v (.bool false)),(7,.p 0 0),(8,.v (.int .i16 v)),(9,.v (.bool (decide (v ≥ 0)))),(10,.p 1 0),(12,.v (.slice (some ⟨af,0,none⟩) ((lst (T.at_ 0)).length) ai)),(13,.v (.int .i32 (((lst (T.at_ 0)).length:Nat):Int))),(14,.v (.int .i32 ((ag:Nat):Int))),(16,.p 3 0),(19,.v (.slice (some ⟨dV,0,none⟩) 0 0)),(20,.v (.int .i32 (lenN (aa.at_ 1).null ((lst (aa.at_ 1)).length))))] bx fun _ eY=>?_
      clear bx
      refine qae (qab ?_)
      exact ⟨(some ⟨dV,0,none⟩),(fun h1_ _=>absurd (of_decide_eq_true h1_) (by have:=of_decide_eq_true aM; omega)),eY.pk (env':=[(2,.v (.bool false)),(7,.p 0 0),(8,.v (.int .i16 v)),(9,.v (.bool (decide (v ≥ 0)))),(10,.p 1 0),(12,.v (.slice (some ⟨af,0,none⟩) ((lst (T.at_ 0)).length) ai)),(13,.v (.int .i32 (((lst (T.at_ 0)).length:Nat):Int))),(14,.v (.int .i32 ((ag:Nat):Int))),(16,.p 3 0),(19,.v (.slice (some ⟨dV,0,none⟩) 0 0)),(20,.v (.int .i32 (lenN (aa.at_ 1).null ((lst (aa.at_ 1)).length))))])⟩
     have bz:=aL.envEq (env':=[(2,.v (.bool false)),(7,.p 0 0),(8,.v (.int .i16 v)),(9,.v (.bool (decide (v ≥ 0)))),(10,.p 1 0),(12,.v (.slice (some ⟨af,0,none⟩) ((lst (T.at_ 0)).length) ai)),(13,.v (.int .i32 (((lst (T.at_ 0)).length:Nat):Int))),(14,.v (.int .i32 ((ag:Nat):Int))),(16,.p 3 0),(19,.v (.slice none 0 0)),(20,.v (.int .i32 (lenN (aa.at_ 1).null ((lst (aa.at_ 1)).length)))),(93,.v (.bool false))]) (by rw [aM])
     clear aL
     refine qcF [3,4,5] [] [(2,.v (.bool false)),(7,.p 0 0),(8,.v (.int .i16 v)),(9,.v (.bool (decide (v ≥ 0)))),(10,.p 1 0),(12,.v (.slice (some ⟨af,0,none⟩) ((lst (T.at_ 0)).length) ai)),(13,.v (.int .i32 (((lst (T.at_ 0)).length:Nat):Int))),(14,.v (.int .i32 ((ag:Nat):Int))),(16,.p 3 0),(19,.v (.slice none 0 0)),(20,.v (.int .i32 (lenN (aa.at_ 1).null ((lst (aa.at_ 1)).length)))),(96,.v (.bool ((lenN (aa.at_ 1).null ((lst (aa.at_ 1)).length)) == 0)))] bz fun _ aN=>qae (qab ?_)
     clear bz
     refine qav aN.env_ (b:=(lenN (aa.at_ 1).null ((lst (aa.at_ 1)).length)) == 0) kz (fun aT=>?_) (fun aT=>?_)
     ·
      refine qaq [0,1] kz ?_
      refine qal (qjo (e:=164) (size:=3) (d:=97) aN fun dW _ _ bA=>?_)
      clear aN
      refine qcF [1] [] [(2,.v (.bool false)),(7,.p 0 0),(8,.v (.int .i16 v)),(9,.v (.bool (decide (v ≥ 0)))),(10,.p 1 0),(12,.v (.slice (some ⟨af,0,none⟩) ((lst (T.at_ 0)).length) ai)),(13,.v (.int .i32 (((lst (T.at_ 0)).length:Nat):Int))),(14,.v (.int .i32 ((ag:Nat):Int))),(16,.p 3 0),(19,.v (.slice (some ⟨dW,0,none⟩) 0 0)),(20,.v (.int .i32 (lenN (aa.at_ 1).null ((lst (aa.at_ 1)).length))))] bA fun _ eZ=>?_
      clear bA
      refine qae (qab ?_)
      exact ⟨(some ⟨dW,0,none⟩),(fun _ _=>(qk0 (by simpa using aT)).symm),eZ.pk (env':=[(2,.v (.bool false)),(7,.p 0 0),(8,.v (.int .i16 v)),(9,.v (.bool (decide (v ≥ 0)))),(10,.p 1 0),(12,.v (.slice (some ⟨af,0,none⟩) ((lst (T.at_ 0)).length) ai)),(13,.v (.int .i32 (((lst (T.at_ 0)).length:Nat):Int))),(14,.v (.int .i32 ((ag:Nat):Int))),(16,.p 3 0),(19,.v (.slice (some ⟨dW,0,none⟩) 0 0)),(20,.v (.int .i32 (lenN (aa.at_ 1).null ((lst (aa.at_ 1)).length))))])⟩
     refine wp_skip ?_
     refine qab ?_
     exact ⟨none,(fun _ hn_=>(qj2 (by simpa using aT) hn_).symm),aN.pk (env':=[(2,.v (.bool false)),(7,.p 0 0),(8,.v (.int .i16 v)),(9,.v (.bool (decide (v ≥ 0)))),(10,.p 1 0),(12,.v (.slice (some ⟨af,0,none⟩) ((lst (T.at_ 0)).length) ai)),(13,.v (.int .i32 (((lst (T.at_ 0)).length:Nat):Int))),(14,.v (.int .i32 ((ag:Nat):Int))),(16,.p 3 0),(19,.v (.slice none 0 0)),(20,.v (.int .i32 (lenN (aa.at_ 1).null ((lst (aa.at_ 1)).length))))])⟩
    rintro _ _ ⟨ar,e9,bB⟩
    refine qab ?_
    refine wp_seq ?_
    refine wp_seq ?_
    refine qk1 (d:=98) [(2,.v (.bool false)),(7,.p 0 0),(8,.v (.int .i16 v)),(9,.v (.bool (decide (v ≥ 0)))),(10,.p 1 0),(12,.v (.slice (some ⟨af,0,none⟩) ((lst (T.at_ 0)).length) ai)),(13,.v (.int .i32 (((lst (T.at_ 0)).length:Nat):Int))),(14,.v (.int .i32 ((ag:Nat):Int))),(16,.p 3 0),(19,.v (.slice ar 0 0)),(20,.v (.int .i32 (lenN (aa.at_ 1).null ((lst (aa.at_ 1)).length)))),(99,.v (.bool false))] bB (pOk _) Tryz.call95 fun _ _ aU=>?_
    clear bB
    refine qab ?_
    refine qao aU.env_ (b:=false) kz (rfl) ?_
    refine wp_skip ?_
    refine qab ?_
    refine wp_seq ?_
    refine qhh (t:=120) (e:=164) (size:=3) (bytes:=48) (d:=102) (A0:=ar) (m:=0) (cp:=0) [(2,.v (.bool false)),(7,.p 0 0),(8,.v (.int .i16 v)),(9,.v (.bool (decide (v ≥ 0)))),(10,.p 1 0),(12,.v (.slice (some ⟨af,0,none⟩) ((lst (T.at_ 0)).length) ai)),(13,.v (.int .i32 (((lst (T.at_ 0)).length:Nat):Int))),(14,.v (.int .i32 ((ag:Nat):Int))),(16,.p 3 0),(20,.v (.int .i32 (lenN (aa.at_ 1).null ((lst (aa.at_ 1)).length)))),(101,.v (.slice ar 0 0))] [(2,.v (.bool false)),(7,.p 0 0),(8,.v (.int .i16 v)),(9,.v (.bool (decide (v ≥ 0)))),(10,.p 1 0),(12,.v (.slice (some ⟨af,0,none⟩) ((lst (T.at_ 0)).length) ai)),(13,.v (.int .i32 (((lst (T.at_ 0)).length:Nat):Int))),(14,.v (.int .i32 ((ag:Nat):Int))),(16,.p 3 0),(19,.v (.slice ar 0 0)),(20,.v (.int .i32 (lenN (aa.at_ 1).null ((lst (aa.at_ 1)).length))))] 1 aU fun _ bC=>?_
    clear aU
    refine qab ?_
    refine qf5 (Mid:=fun a_ w_=>∃ (aj:DV) (P':qcI),(∀ w F,P' w F → fK w F ∧ (Slots w F 3 aj.A aj.c aj.l (fun i=>[.string (((aj.f i).f 0).s),.slice (((aj.f i).f 1).A) (((aj.f i).f 1).l) (((aj.f i).f 1).c),.map ((aj.f i).m)]) ∧ aj.l ≤ 1000000 ∧ ∀ i,i < aj.l → qaG w F (aj.f i)) ∧ ((decide (v ≥ 0) = true → aj.A.isNone = (aa.at_ 1).null) ∧ aj.l = (lst (aa.at_ 1)).length ∧ ∀ i,i < aj.l → qaT v (aj.f i) ((lst (aa.at_ 1)).getD i .zero))) ∧ RS w (fun b o=>b = bv ∧ o < 3) F 189 bj [⟨bv,0,[.int .i16 v,.slice none 0 0,.map none],true⟩,qbm af 3 (.agg #[.string ByteArray.empty,.slice none 0 0,.map none]) ((lst (T.at_ 0)).length) (ag + 1),⟨af,ag * 3,[.string (bs (aa.at_ 0).S),.slice none 0 0,.map none],true⟩] [(2,.v (.bool false)),(7,.p 0 0),(8,.v (.int .i16 v)),(9,.v (.bool (decide (v ≥ 0)))),(10,.p 1 0),(12,.v (.slice (some ⟨af,0,none⟩) ((lst (T.at_ 0)).length) ai)),(13,.v (.int .i32 (((lst (T.at_ 0)).length:Nat):Int))),(14,.v (.int .i32 ((ag:Nat):Int))),(16,.p 3 0),(19,.v (.slice aj.A aj.l aj.c))] P' bn a_ w_) ?_ ?_
    ·
     refine wp_seq ?_
     refine qbD [(2,.v (.bool false)),(7,.p 0 0),(8,.v (.int .i16 v)),(9,.v (.bool (decide (v ≥ 0)))),(10,.p 1 0),(12,.v (.slice (some ⟨af,0,none⟩) ((lst (T.at_ 0)).length) ai)),(13,.v (.int .i32 (((lst (T.at_ 0)).length:Nat):Int))),(14,.v (.int .i32 ((ag:Nat):Int))),(16,.p 3 0),(19,.v (.slice ar 0 0)),(20,.v (.int .i32 (lenN (aa.at_ 1).null ((lst (aa.at_ 1)).length)))),(104,.v (.bool (decide ((lenN (aa.at_ 1).null ((lst (aa.at_ 1)).length)) > 0))))] bC fun _ ax=>qab ?_
     clear bC
     refine qav ax.env_ (b:=decide ((lenN (aa.at_ 1).null ((lst (aa.at_ 1)).length)) > 0)) kz (fun ay=>?_) (fun ay=>?_)
     ·
      have hn_g125:0 < (lst (aa.at_ 1)).length:=by have h_:=of_decide_eq_true ay; unfold lenN at h_; split at h_ <;> omega
      have aV:(aa.at_ 1).null = false:=by have h_:=of_decide_eq_true ay; unfold lenN at h_; cases hq_:(aa.at_ 1).null with | false=>rfl | true=>rw [hq_] at h_; simp at h_
      have fa:lenN (aa.at_ 1).null ((lst (aa.at_ 1)).length) = (((lst (aa.at_ 1)).length:Nat):Int):=by rw [aV]; rfl
      have bD:=ax.envEq (env':=[(2,.v (.bool false)),(7,.p 0 0),(8,.v (.int .i16 v)),(9,.v (.bool (decide (v ≥ 0)))),(10,.p 1 0),(12,.v (.slice (some ⟨af,0,none⟩) ((lst (T.at_ 0)).length) ai)),(13,.v (.int .i32 (((lst (T.at_ 0)).length:Nat):Int))),(14,.v (.int .i32 ((ag:Nat):Int))),(16,.p 3 0),(19,.v (.slice ar 0 0)),(20,.v (.int .i32 (((lst (aa.at_ 1)).length:Nat):Int))),(104,.v (.bool (decide ((lenN (aa.at_ 1).null ((lst (aa.at_ 1)).length)) > 0))))]) (by rw [fa])
      clear ax
      refine qaq [0,1,2,3] kz ?_
      refine qcF [0,1] [2,3] [(2,.v (.bool false)),(7,.p 0 0),(8,.v (.int .i16 v)),(9,.v (.bool (decide (v ≥ 0)))),(10,.p 1 0),(12,.v (.slice (some ⟨af,0,none⟩) ((lst (T.at_ 0)).length) ai)),(13,.v (.int .i32 (((lst (T.at_ 0)).length:Nat):Int))),(14,.v (.int .i32 ((ag:Nat):Int))),(16,.p 3 0),(20,.v (.int .i32 (((lst (aa.at_ 1)).length:Nat):Int))),(105,.v (.slice ar 0 0)),(106,.v (.int .i32 (((lst (aa.at_ 1)).length:Nat):Int)))] bD fun _ bE=>?_
      clear bD
      refine qal (qeA (A0:=ar) (d:=107) (t:=120) (tn:=21) (e:=164) (size:=3) (bytes:=48) (k:=.i32) (kn:=.i32) (q:=(((lst (aa.at_ 1)).length:Nat):Int)) (j:=(lst (aa.at_ 1)).length) (.agg #[.string ByteArray.empty,.slice none 0 0,.map none]) bE (fun ac ah _ _ hg_g125 hcap_g125 bF=>?_) rfl hn_g125 (by have:=e72_1; omega))
      clear bE
      refine qcF [3] [] [(2,.v (.bool false)),(7,.p 0 0),(8,.v (.int .i16 v)),(9,.v (.bool (decide (v ≥ 0)))),(10,.p 1 0),(12,.v (.slice (some ⟨af,0,none⟩) ((lst (T.at_ 0)).length) ai)),(13,.v (.int .i32 (((lst (T.at_ 0)).length:Nat):Int))),(14,.v (.int .i32 ((ag:Nat):Int))),(16,.p 3 0),(19,.v (.slice (some ⟨ac,0,none⟩) ((lst (aa.at_ 1)).length) ah)),(20,.v (.int .i32 (((lst (aa.at_ 1)).length:Nat):Int)))] bF fun _ bG=>qae ?_
      clear bF
      refine qab ?_
      refine wp_seq ?_
      refine qbD [(2,.v (.bool false)),(7,.p 0 0),(8,.v (.int .i16 v)),(9,.v (.bool (decide (v ≥ 0)))),(10,.p 1 0),(12,.v (.slice (some ⟨af,0,none⟩) ((lst (T.at_ 0)).length) ai)),(13,.v (.int .i32 (((lst (T.at_ 0)).length:Nat):Int))),(14,.v (.int .i32 ((ag:Nat):Int))),(16,.p 3 0),(19,.v (.slice (some ⟨ac,0,none⟩) ((lst (aa.at_ 1)).length) ah)),(20,.v (.int .i32 (((lst (aa.at_ 1)).length:Nat):Int))),(21,.v (.int .i32 0))] bG fun _ aW=>?_
      clear bG
      refine qab ?_
      refine wp_block ?_
      have aX:=aW.mv
      have fb:=(aW.cast (t:=(lst (aa.at_ 1)).flatMap (qaB v) ++ bn) rfl).pk (env':=[(2,.v (.bool false)),(7,.p 0 0),(8,.v (.int .i16 v)),(9,.v (.bool (decide (v ≥ 0)))),(10,.p 1 0),(12,.v (.slice (some ⟨af,0,none⟩) ((lst (T.at_ 0)).length) ai)),(13,.v (.int .i32 (((lst (T.at_ 0)).length:Nat):Int))),(14,.v (.int .i32 ((ag:Nat):Int))),(16,.p 3 0),(19,.v (.slice (some ⟨ac,0,none⟩) ((lst (aa.at_ 1)).length) ah)),(20,.v (.int .i32 (((lst (aa.at_ 1)).length:Nat):Int))),(21,.v (.int .i32 ((0:Nat):Int)))])
      clear aW
      refine qhg (tb:=[⟨bv,0,[.int .i16 v,.slice none 0 0,.map none],true⟩,qbm af 3 (.agg #[.string ByteArray.empty,.slice none 0 0,.map none]) ((lst (T.at_ 0)).length) (ag + 1),⟨af,ag * 3,[.string (bs (aa.at_ 0).S),.slice none 0 0,.map none],true⟩]) (z:=.agg #[.string ByteArray.empty,.slice none 0 0,.map none]) (cl:=qbp) (ok:=qaG) (rel:=(qaT v)) (L:=lst (aa.at_ 1)) (size:=3) (qaB v) bn (fun k=>[(2,.v (.bool false)),(7,.p 0 0),(8,.v (.int .i16 v)),(9,.v (.bool (decide (v ≥ 0)))),(10,.p 1 0),(12,.v (.slice (some ⟨af,0,none⟩) ((lst (T.at_ 0)).length) ai)),(13,.v (.int .i32 (((lst (T.at_ 0)).length:Nat):Int))),(14,.v (.int .i32 ((ag:Nat):Int))),(16,.p 3 0),(19,.v (.slice (some ⟨ac,0,none⟩) ((lst (aa.at_ 1)).length) ah)),(20,.v (.int .i32 (((lst (aa.at_ 1)).length:Nat):Int))),(21,.v (.int .i32 ((k:Nat):Int)))]) fb qaM (fun ae ab _ _ aY fe bH=>?_) (fun _ _ bI=>?_)
      ·
       obtain ⟨ff,bJ,bK⟩:∃ P',(∀ w F,P' w F → (fK w F ∧ qfi ac 3 qbp qaG (qaT v) (lst (aa.at_ 1)) ae w F)) ∧ RS w (fun b o=>b = bv ∧ o < 3) F 189 bj [⟨bv,0,[.int .i16 v,.slice none 0 0,.map none],true⟩,qbm af 3 (.agg #[.string ByteArray.empty,.slice none 0 0,.map none]) ((lst (T.at_ 0)).length) (ag + 1),⟨af,ag * 3,[.string (bs (aa.at_ 0).S),.slice none 0 0,.map none],true⟩,qbm ac 3 (.agg #[.string ByteArray.empty,.slice none 0 0,.map none]) ((lst (aa.at_ 1)).length) ae] [(2,.v (.bool false)),(7,.p 0 0),(8,.v (.int .i16 v)),(9,.v (.bool (decide (v ≥ 0)))),(10,.p 1 0),(12,.v (.slice (some ⟨af,0,none⟩) ((lst (T.at_ 0)).length) ai)),(13,.v (.int .i32 (((lst (T.at_ 0)).length:Nat):Int))),(14,.v (.int .i32 ((ag:Nat):Int))),(16,.p 3 0),(19,.v (.slice (some ⟨ac,0,none⟩) ((lst (aa.at_ 1)).length) ah)),(20,.v (.int .i32 (((lst (aa.at_ 1)).length:Nat):Int))),(21,.v (.int .i32 ((ae:Nat):Int)))] P' ((qaB v) ab ++ (((lst (aa.at_ 1)).drop (ae + 1)).flatMap (qaB v) ++ bn)) _ _:=⟨_,fun _ _ h=>h,bH⟩
       clear bH
       obtain ⟨aZ,bL⟩:∃ R,R = ((lst (aa.at_ 1)).drop (ae + 1)).flatMap (qaB v) ++ bn:=⟨_,rfl⟩
       have fg:=(e72_1e ab (List.mem_of_getElem? aY))
       have e147r:=(qfF (qff e72r 1) ab (List.mem_of_getElem? aY))
       unfold qa5 at fg
       obtain ⟨e147_0,e147_1,e147_U,_⟩:=fg
       obtain ⟨az,bM⟩:∃ R,R = (if (decide (v ≥ 0)) = true then (uv ab.U.length) ++ (qcE ab.U) else []) ++ aZ:=⟨_,rfl⟩
       obtain ⟨fL,bN⟩:∃ R,R = ((if (decide (v ≥ 0)) = true then (uv ((lst (ab.at_ 1)).length + 1)) else (be 4 (lst (ab.at_ 1)).length)) ++ ((lst (ab.at_ 1)).flatMap (fun E=>be 4 (IntKind.i32.wrap E.N)))) ++ az:=⟨_,rfl⟩
       obtain ⟨fM,bO⟩:∃ R,R = (if (decide (v ≥ 0)) = true then (uv ((ab.at_ 0).S.length + 1) ++ (ab.at_ 0).S) else (be 2 (ab.at_ 0).S.length ++ (ab.at_ 0).S)) ++ fL:=⟨_,rfl⟩
       have bP:=bK.cast (t:=fM) (by rw [bO,bN,bM,← bL]; unfold qaB; simp only [List.append_assoc])
       clear bK
       refine wp_seq ?_
       refine wp_seq ?_
       refine qbD [(2,.v (.bool false)),(7,.p 0 0),(8,.v (.int .i16 v)),(9,.v (.bool (decide (v ≥ 0)))),(10,.p 1 0),(12,.v (.slice (some ⟨af,0,none⟩) ((lst (T.at_ 0)).length) ai)),(13,.v (.int .i32 (((lst (T.at_ 0)).length:Nat):Int))),(14,.v (.int .i32 ((ag:Nat):Int))),(16,.p 3 0),(19,.v (.slice (some ⟨ac,0,none⟩) ((lst (aa.at_ 1)).length) ah)),(20,.v (.int .i32 (((lst (aa.at_ 1)).length:Nat):Int))),(21,.v (.int .i32 ((ae:Nat):Int))),(110,.v (.bool (decide (((ae:Nat):Int) < (((lst (aa.at_ 1)).length:Nat):Int)))))] bP fun _ ba=>qab ?_
       clear bP
       refine qa7 ba.env_ (b:=decide (((ae:Nat):Int) < (((lst (aa.at_ 1)).length:Nat):Int))) kz (decide_eq_true (by omega)) ?_
       refine wp_skip ?_
       refine qab ?_
       refine wp_seq ?_
       refine wp_block ?_
       refine wp_seq ?_
       refine qjs (t:=120) (e:=164) (size:=3) (bytes:=48) (d:=115) (tb:=[⟨bv,0,[.int .i16 v,.slice none 0 0,.map none],true⟩,qbm af 3 (.agg #[.string ByteArray.empty,.slice none 0 0,.map none]) ((lst (T.at_ 0)).length) (ag + 1),⟨af,ag * 3,[.string (bs (aa.at_ 0).S),.slice none 0 0,.map none],true⟩]) (z:=.agg #[.string ByteArray.empty,.slice none 0 0,.map none]) [(2,.v (.bool false)),(7,.p 0 0),(8,.v (.int .i16 v)),(9,.v (.bool (decide (v ≥ 0)))),(10,.p 1 0),(12,.v (.slice (some ⟨af,0,none⟩) ((lst (T.at_ 0)).length) ai)),(13,.v (.int .i32 (((lst (T.at_ 0)).length:Nat):Int))),(14,.v (.int .i32 ((ag:Nat):Int))),(16,.p 3 0),(19,.v (.slice (some ⟨ac,0,none⟩) ((lst (aa.at_ 1)).length) ah)),(20,.v (.int .i32 (((lst (aa.at_ 1)).length:Nat):Int))),(21,.v (.int .i32 ((ae:Nat):Int))),(113,.v (.slice (some ⟨ac,0,none⟩) ((lst (aa.at_ 1)).length) ah)),(114,.v (.int .i32 ((ae:Nat):Int)))] [(2,.v (.bool false)),(7,.p 0 0),(8,.v (.int .i16 v)),(9,.v (.bool (decide (v ≥ 0)))),(10,.p 1 0),(12,.v (.slice (some ⟨af,0,none⟩) ((lst (T.at_ 0)).length) ai)),(13,.v (.int .i32 (((lst (T.at_ 0)).length:Nat):Int))),(14,.v (.int .i32 ((ag:Nat):Int))),(16,.p 3 0),(19,.v (.slice (some ⟨ac,0,none⟩) ((lst (aa.at_ 1)).length) ah)),(20,.v (.int .i32 (((lst (aa.at_ 1)).length:Nat):Int))),(21,.v (.int .i32 ((ae:Nat):Int))),(22,.p 5 0)] 2 ba fe rfl kz fun _ bQ=>?_
       clear ba
       have bR:=bQ.tbEq (tb':=[⟨bv,0,[.int .i16 v,.slice none 0 0,.map none],true⟩,qbm af 3 (.agg #[.string ByteArray.empty,.slice none 0 0,.map none]) ((lst (T.at_ 0)).length) (ag + 1),⟨af,ag * 3,[.string (bs (aa.at_ 0).S),.slice none 0 0,.map none],true⟩,qbm ac 3 (.agg #[.string ByteArray.empty,.slice none 0 0,.map none]) ((lst (aa.at_ 1)).length) (ae + 1),⟨ac,ae * 3,[.string ByteArray.empty,.slice none 0 0,.map none],true⟩]) rfl
       clear bQ
       refine qab ?_
       refine wp_seq ?_
       refine qaq [0,1] kz ?_
       refine qcF [0] [1] [(2,.v (.bool false)),(7,.p 0 0),(8,.v (.int .i16 v)),(9,.v (.bool (decide (v ≥ 0)))),(10,.p 1 0),(12,.v (.slice (some ⟨af,0,none⟩) ((lst (T.at_ 0)).length) ai)),(13,.v (.int .i32 (((lst (T.at_ 0)).length:Nat):Int))),(14,.v (.int .i32 ((ag:Nat):Int))),(16,.p 3 0),(19,.v (.slice (some ⟨ac,0,none⟩) ((lst (aa.at_ 1)).length) ah)),(20,.v (.int .i32 (((lst (aa.at_ 1)).length:Nat):Int))),(21,.v (.int .i32 ((ae:Nat):Int))),(22,.p 5 0),(116,.p 5 0)] bR fun _ bS=>?_
       clear bR
       refine qal (qkq (d:=117) (vs:=[.pointer (some ⟨ac,ae * 3,none⟩)]) bS (fun _=>qly _ _ _) Tryz.call121 fun _ bT=>?_)
       clear bS
       refine qae ?_
       have bU:=bT.pk (env':=[(2,.v (.bool false)),(7,.p 0 0),(8,.v (.int .i16 v)),(9,.v (.bool (decide (v ≥ 0)))),(10,.p 1 0),(12,.v (.slice (some ⟨af,0,none⟩) ((lst (T.at_ 0)).length) ai)),(13,.v (.int .i32 (((lst (T.at_ 0)).length:Nat):Int))),(14,.v (.int .i32 ((ag:Nat):Int))),(16,.p 3 0),(19,.v (.slice (some ⟨ac,0,none⟩) ((lst (aa.at_ 1)).length) ah)),(20,.v (.int .i32 (((lst (aa.at_ 1)).length:Nat):Int))),(21,.v (.int .i32 ((ae:Nat):Int))),(22,.p 5 0)])
       clear bT
       refine qab ?_
       refine wp_seq ?_
       refine qbD [(2,.v (.bool false)),(7,.p 0 0),(8,.v (.int .i16 v)),(9,.v (.bool (decide (v ≥ 0)))),(10,.p 1 0),(12,.v (.slice (some ⟨af,0,none⟩) ((lst (T.at_ 0)).length) ai)),(13,.v (.int .i32 (((lst (T.at_ 0)).length:Nat):Int))),(14,.v (.int .i32 ((ag:Nat):Int))),(16,.p 3 0),(19,.v (.slice (some ⟨ac,0,none⟩) ((lst (aa.at_ 1)).length) ah)),(20,.v (.int .i32 (((lst (aa.at_ 1)).length:Nat):Int))),(21,.v (.int .i32 ((ae:Nat):Int))),(23,.p 5 0)] bU fun _ bV=>?_
       clear bU
       refine qab ?_
       refine wp_seq ?_
       refine wp_seq ?_
       refine qbD [(2,.v (.bool false)),(7,.p 0 0),(8,.v (.int .i16 v)),(9,.v (.bool (decide (v ≥ 0)))),(10,.p 1 0),(12,.v (.slice (some ⟨af,0,none⟩) ((lst (T.at_ 0)).length) ai)),(13,.v (.int .i32 (((lst (T.at_ 0)).length:Nat):Int))),(14,.v (.int .i32 ((ag:Nat):Int))),(16,.p 3 0),(19,.v (.slice (some ⟨ac,0,none⟩) ((lst (aa.at_ 1)).length) ah)),(20,.v (.int .i32 (((lst (aa.at_ 1)).length:Nat):Int))),(21,.v (.int .i32 ((ae:Nat):Int))),(23,.p 5 0)] bV fun _ bW=>?_
       clear bV
       refine qab ?_
       refine wp_seq ?_
       refine wp_seq ?_
       refine qbD [(2,.v (.bool false)),(7,.p 0 0),(8,.v (.int .i16 v)),(9,.v (.bool (decide (v ≥ 0)))),(10,.p 1 0),(12,.v (.slice (some ⟨af,0,none⟩) ((lst (T.at_ 0)).length) ai)),(13,.v (.int .i32 (((lst (T.at_ 0)).length:Nat):Int))),(14,.v (.int .i32 ((ag:Nat):Int))),(16,.p 3 0),(19,.v (.slice (some ⟨ac,0,none⟩) ((lst (aa.at_ 1)).length) ah)),(20,.v (.int .i32 (((lst (aa.at_ 1)).length:Nat):Int))),(21,.v (.int .i32 ((ae:Nat):Int))),(23,.p 5 0),(119,.v (.bool false))] bW fun _ bd=>qab ?_
       clear bW
       refine qao bd.env_ (b:=false) kz (rfl) ?_
       have bX:=bd.cast bO
       clear bd
       refine qfh (d1:=124) (d2:=125) [(2,.v (.bool false)),(7,.p 0 0),(8,.v (.int .i16 v)),(9,.v (.bool (decide (v ≥ 0)))),(10,.p 1 0),(12,.v (.slice (some ⟨af,0,none⟩) ((lst (T.at_ 0)).length) ai)),(13,.v (.int .i32 (((lst (T.at_ 0)).length:Nat):Int))),(14,.v (.int .i32 ((ag:Nat):Int))),(16,.p 3 0),(19,.v (.slice (some ⟨ac,0,none⟩) ((lst (aa.at_ 1)).length) ah)),(20,.v (.int .i32 (((lst (aa.at_ 1)).length:Nat):Int))),(21,.v (.int .i32 ((ae:Nat):Int))),(23,.p 5 0),(123,.v (.bool (decide (v ≥ 0))))] [(2,.v (.bool false)),(7,.p 0 0),(8,.v (.int .i16 v)),(9,.v (.bool (decide (v ≥ 0)))),(10,.p 1 0),(12,.v (.slice (some ⟨af,0,none⟩) ((lst (T.at_ 0)).length) ai)),(13,.v (.int .i32 (((lst (T.at_ 0)).length:Nat):Int))),(14,.v (.int .i32 ((ag:Nat):Int))),(16,.p 3 0),(19,.v (.slice (some ⟨ac,0,none⟩) ((lst (aa.at_ 1)).length) ah)),(20,.v (.int .i32 (((lst (aa.at_ 1)).length:Nat):Int))),(21,.v (.int .i32 ((ae:Nat):Int))),(23,.p 5 0),(24,.v (.string (bs (ab.at_ 0).S)))] bX (qdT (ab.at_ 0).S e147_0 _) Tryz.call115 (qjt (ab.at_ 0).S e147_0 _) Tryz.call116 fun _ _ bY=>?_
       clear bX
       refine qab ?_
       refine qgN [⟨bv,0,[.int .i16 v,.slice none 0 0,.map none],true⟩,qbm af 3 (.agg #[.string ByteArray.empty,.slice none 0 0,.map none]) ((lst (T.at_ 0)).length) (ag + 1),⟨af,ag * 3,[.string (bs (aa.at_ 0).S),.slice none 0 0,.map none],true⟩,qbm ac 3 (.agg #[.string ByteArray.empty,.slice none 0 0,.map none]) ((lst (aa.at_ 1)).length) (ae + 1),⟨ac,ae * 3,[.string (bs (ab.at_ 0).S),.slice none 0 0,.map none],true⟩] 4 [(2,.v (.bool false)),(7,.p 0 0),(8,.v (.int .i16 v)),(9,.v (.bool (decide (v ≥ 0)))),(10,.p 1 0),(12,.v (.slice (some ⟨af,0,none⟩) ((lst (T.at_ 0)).length) ai)),(13,.v (.int .i32 (((lst (T.at_ 0)).length:Nat):Int))),(14,.v (.int .i32 ((ag:Nat):Int))),(16,.p 3 0),(19,.v (.slice (some ⟨ac,0,none⟩) ((lst (aa.at_ 1)).length) ah)),(20,.v (.int .i32 (((lst (aa.at_ 1)).length:Nat):Int))),(21,.v (.int .i32 ((ae:Nat):Int))),(23,.p 5 0)] bY fun _ _ bZ=>?_
       clear bY
       refine qab ?_
       refine wp_seq ?_
       refine wp_seq ?_
       refine qbD [(2,.v (.bool false)),(7,.p 0 0),(8,.v (.int .i16 v)),(9,.v (.bool (decide (v ≥ 0)))),(10,.p 1 0),(12,.v (.slice (some ⟨af,0,none⟩) ((lst (T.at_ 0)).length) ai)),(13,.v (.int .i32 (((lst (T.at_ 0)).length:Nat):Int))),(14,.v (.int .i32 ((ag:Nat):Int))),(16,.p 3 0),(19,.v (.slice (some ⟨ac,0,none⟩) ((lst (aa.at_ 1)).length) ah)),(20,.v (.int .i32 (((lst (aa.at_ 1)).length:Nat):Int))),(21,.v (.int .i32 ((ae:Nat):Int))),(23,.p 5 0),(25,.v (.slice none 0 0))] bZ fun _ b8=>?_
       clear bZ
       refine qab ?_
       refine wp_seq ?_
       refine qbD [(2,.v (.bool false)),(7,.p 0 0),(8,.v (.int .i16 v)),(9,.v (.bool (decide (v ≥ 0)))),(10,.p 1 0),(12,.v (.slice (some ⟨af,0,none⟩) ((lst (T.at_ 0)).length) ai)),(13,.v (.int .i32 (((lst (T.at_ 0)).length:Nat):Int))),(14,.v (.int .i32 ((ag:Nat):Int))),(16,.p 3 0),(19,.v (.slice (some ⟨ac,0,none⟩) ((lst (aa.at_ 1)).length) ah)),(20,.v (.int .i32 (((lst (aa.at_ 1)).length:Nat):Int))),(21,.v (.int .i32 ((ae:Nat):Int))),(23,.p 5 0),(26,.v (.slice none 0 0))] b8 fun _ cd=>?_
       clear b8
       refine qab ?_
       refine wp_seq ?_
       refine qbD [(2,.v (.bool false)),(7,.p 0 0),(8,.v (.int .i16 v)),(9,.v (.bool (decide (v ≥ 0)))),(10,.p 1 0),(12,.v (.slice (some ⟨af,0,none⟩) ((lst (T.at_ 0)).length) ai)),(13,.v (.int .i32 (((lst (T.at_ 0)).length:Nat):Int))),(14,.v (.int .i32 ((ag:Nat):Int))),(16,.p 3 0),(19,.v (.slice (some ⟨ac,0,none⟩) ((lst (aa.at_ 1)).length) ah)),(20,.v (.int .i32 (((lst (aa.at_ 1)).length:Nat):Int))),(21,.v (.int .i32 ((ae:Nat):Int))),(23,.p 5 0),(26,.v (.slice none 0 0))] cd fun _ ce=>?_
       clear cd
       refine qab ?_
       refine wp_seq ?_
       have cm:=ce.cast bN
       clear ce
       have cq:=cm.cast (t:=(if (decide (v ≥ 0)) = true then (uv ((lst (ab.at_ 1)).length + 1)) else (be 4 (lst (ab.at_ 1)).length)) ++ (((lst (ab.at_ 1)).flatMap (fun E=>be 4 (IntKind.i32.wrap E.N))) ++ az)) (by rw [List.append_assoc])
       clear cm
       refine qfh (d1:=136) (d2:=137) [(2,.v (.bool false)),(7,.p 0 0),(8,.v (.int .i16 v)),(9,.v (.bool (decide (v ≥ 0)))),(10,.p 1 0),(12,.v (.slice (some ⟨af,0,none⟩) ((lst (T.at_ 0)).length) ai)),(13,.v (.int .i32 (((lst (T.at_ 0)).length:Nat):Int))),(14,.v (.int .i32 ((ag:Nat):Int))),(16,.p 3 0),(19,.v (.slice (some ⟨ac,0,none⟩) ((lst (aa.at_ 1)).length) ah)),(20,.v (.int .i32 (((lst (aa.at_ 1)).length:Nat):Int))),(21,.v (.int .i32 ((ae:Nat):Int))),(23,.p 5 0),(26,.v (.slice none 0 0)),(135,.v (.bool (decide (v ≥ 0))))] [(2,.v (.bool false)),(7,.p 0 0),(8,.v (.int .i16 v)),(9,.v (.bool (decide (v ≥ 0)))),(10,.p 1 0),(12,.v (.slice (some ⟨af,0,none⟩) ((lst (T.at_ 0)).length) ai)),(13,.v (.int .i32 (((lst (T.at_ 0)).length:Nat):Int))),(14,.v (.int .i32 ((ag:Nat):Int))),(16,.p 3 0),(19,.v (.slice (some ⟨ac,0,none⟩) ((lst (aa.at_ 1)).length) ah)),(20,.v (.int .i32 (((lst (aa.at_ 1)).length:Nat):Int))),(21,.v (.int .i32 ((ae:Nat):Int))),(23,.p 5 0),(26,.v (.slice none 0 0)),(27,.v (.int .i32 (((lst (ab.at_ 1)).length:Nat):Int)))] cq (qcJ ((lst (ab.at_ 1)).length) e147_1 _ (flat_ge' (fun E=>qhF (by decide)) _)) Tryz.call93 (qfj ((lst (ab.at_ 1)).length) e147_1 _ (flat_ge' (fun E=>qhF (by decide)) _)) Tryz.call94 fun _ _ cr=>?_
       clear cq
       refine qab ?_
       refine wp_seq ?_
       refine wp_seq ?_
       refine qk1 (d:=138) [(2,.v (.bool false)),(7,.p 0 0),(8,.v (.int .i16 v)),(9,.v (.bool (decide (v ≥ 0)))),(10,.p 1 0),(12,.v (.slice (some ⟨af,0,none⟩) ((lst (T.at_ 0)).length) ai)),(13,.v (.int .i32 (((lst (T.at_ 0)).length:Nat):Int))),(14,.v (.int .i32 ((ag:Nat):Int))),(16,.p 3 0),(19,.v (.slice (some ⟨ac,0,none⟩) ((lst (aa.at_ 1)).length) ah)),(20,.v (.int .i32 (((lst (aa.at_ 1)).length:Nat):Int))),(21,.v (.int .i32 ((ae:Nat):Int))),(23,.p 5 0),(26,.v (.slice none 0 0)),(27,.v (.int .i32 (((lst (ab.at_ 1)).length:Nat):Int))),(139,.v (.bool false))] cr (pOk _) Tryz.call95 fun _ _ bf=>?_
       clear cr
       refine qab ?_
       refine qao bf.env_ (b:=false) kz (rfl) ?_
       refine wp_skip ?_
       refine qab ?_
       refine wp_seq ?_
       refine qhh (t:=158) (e:=21) (size:=1) (bytes:=4) (d:=142) (A0:=none) (m:=0) (cp:=0) [(2,.v (.bool false)),(7,.p 0 0),(8,.v (.int .i16 v)),(9,.v (.bool (decide (v ≥ 0)))),(10,.p 1 0),(12,.v (.slice (some ⟨af,0,none⟩) ((lst (T.at_ 0)).length) ai)),(13,.v (.int .i32 (((lst (T.at_ 0)).length:Nat):Int))),(14,.v (.int .i32 ((ag:Nat):Int))),(16,.p 3 0),(19,.v (.slice (some ⟨ac,0,none⟩) ((lst (aa.at_ 1)).length) ah)),(20,.v (.int .i32 (((lst (aa.at_ 1)).length:Nat):Int))),(21,.v (.int .i32 ((ae:Nat):Int))),(23,.p 5 0),(27,.v (.int .i32 (((lst (ab.at_ 1)).length:Nat):Int))),(141,.v (.slice none 0 0))] [(2,.v (.bool false)),(7,.p 0 0),(8,.v (.int .i16 v)),(9,.v (.bool (decide (v ≥ 0)))),(10,.p 1 0),(12,.v (.slice (some ⟨af,0,none⟩) ((lst (T.at_ 0)).length) ai)),(13,.v (.int .i32 (((lst (T.at_ 0)).length:Nat):Int))),(14,.v (.int .i32 ((ag:Nat):Int))),(16,.p 3 0),(19,.v (.slice (some ⟨ac,0,none⟩) ((lst (aa.at_ 1)).length) ah)),(20,.v (.int .i32 (((lst (aa.at_ 1)).length:Nat):Int))),(21,.v (.int .i32 ((ae:Nat):Int))),(23,.p 5 0),(26,.v (.slice none 0 0)),(27,.v (.int .i32 (((lst (ab.at_ 1)).length:Nat):Int)))] 1 bf fun _ cu=>?_
       clear bf
       refine qab ?_
       refine qf5 (Mid:=fun a_ w_=>∃ (ak:DV) (P':qcI),(∀ w F,P' w F → ff w F ∧ (Slots w F 1 ak.A ak.c ak.l (fun i=>[.int .i32 ((ak.f i).n)]) ∧ ak.l ≤ 1000000 ∧ ∀ i,i < ak.l → True) ∧ (ak.l = (lst (ab.at_ 1)).length ∧ ∀ i,i < ak.l → (ak.f i).n = IntKind.i32.wrap ((lst (ab.at_ 1)).getD i .zero).N)) ∧ RS w (fun b o=>b = bv ∧ o < 3) F 189 bj [⟨bv,0,[.int .i16 v,.slice none 0 0,.map none],true⟩,qbm af 3 (.agg #[.string ByteArray.empty,.slice none 0 0,.map none]) ((lst (T.at_ 0)).length) (ag + 1),⟨af,ag * 3,[.string (bs (aa.at_ 0).S),.slice none 0 0,.map none],true⟩,qbm ac 3 (.agg #[.string ByteArray.empty,.slice none 0 0,.map none]) ((lst (aa.at_ 1)).length) (ae + 1),⟨ac,ae * 3,[.string (bs (ab.at_ 0).S),.slice none 0 0,.map none],true⟩] [(2,.v (.bool false)),(7,.p 0 0),(8,.v (.int .i16 v)),(9,.v (.bool (decide (v ≥ 0)))),(10,.p 1 0),(12,.v (.slice (some ⟨af,0,none⟩) ((lst (T.at_ 0)).length) ai)),(13,.v (.int .i32 (((lst (T.at_ 0)).length:Nat):Int))),(14,.v (.int .i32 ((ag:Nat):Int))),(16,.p 3 0),(19,.v (.slice (some ⟨ac,0,none⟩) ((lst (aa.at_ 1)).length) ah)),(20,.v (.int .i32 (((lst (aa.at_ 1)).length:Nat):Int))),(21,.v (.int .i32 ((ae:Nat):Int))),(23,.p 5 0),(26,.v (.slice ak.A ak.l ak.c))] P' az a_ w_) ?_ ?_
       ·
        refine wp_seq ?_
        refine qbD [(2,.v (.bool false)),(7,.p 0 0),(8,.v (.int .i16 v)),(9,.v (.bool (decide (v ≥ 0)))),(10,.p 1 0),(12,.v (.slice (some ⟨af,0,none⟩) ((lst (T.at_ 0)).length) ai)),(13,.v (.int .i32 (((lst (T.at_ 0)).length:Nat):Int))),(14,.v (.int .i32 ((ag:Nat):Int))),(16,.p 3 0),(19,.v (.slice (some ⟨ac,0,none⟩) ((lst (aa.at_ 1)).length) ah)),(20,.v (.int .i32 (((lst (aa.at_ 1)).length:Nat):Int))),(21,.v (.int .i32 ((ae:Nat):Int))),(23,.p 5 0),(26,.v (.slice none 0 0)),(27,.v (.int .i32 (((lst (ab.at_ 1)).length:Nat):Int))),(144,.v (.bool (decide ((((lst (ab.at_ 1)).length:Nat):Int) > 0))))] cu fun _ aA=>qab ?_
        clear cu
        refine qav aA.env_ (b:=decide ((((lst (ab.at_ 1)).length:Nat):Int) > 0)) kz (fun aO=>?_) (fun aO=>?_)
        ·
         have hn_g184:0 < (lst (ab.at_ 1)).length:=by have h_:=of_decide_eq_true aO; omega
         refine qaq [0,1,2,3] kz ?_
         refine qcF [0,1] [2,3] [(2,.v (.bool false)),(7,.p 0 0),(8,.v (.int .i16 v)),(9,.v (.bool (decide (v ≥ 0)))),(10,.p 1 0),(12,.v (.slice (some ⟨af,0,none⟩) ((lst (T.at_ 0)).length) ai)),(13,.v (.int .i32 (((lst (T.at_ 0)).length:Nat):Int))),(14,.v (.int .i32 ((ag:Nat):Int))),(16,.p 3 0),(19,.v (.slice (some ⟨ac,0,none⟩) ((lst (aa.at_ 1)).length) ah)),(20,.v (.int .i32 (((lst (aa.at_ 1)).length:Nat):Int))),(21,.v (.int .i32 ((ae:Nat):Int))),(23,.p 5 0),(27,.v (.int .i32 (((lst (ab.at_ 1)).length:Nat):Int))),(145,.v (.slice none 0 0)),(146,.v (.int .i32 (((lst (ab.at_ 1)).length:Nat):Int)))] aA fun _ cw=>?_
         clear aA
         refine qal (qeA (A0:=none) (d:=147) (t:=158) (tn:=21) (e:=21) (size:=1) (bytes:=4) (k:=.i32) (kn:=.i32) (q:=(((lst (ab.at_ 1)).length:Nat):Int)) (j:=(lst (ab.at_ 1)).length) (.int .i32 0) cw (fun al am _ _ hg_g184 hcap_g184 cz=>?_) rfl hn_g184 (by have:=e147_1; omega))
         clear cw
         refine qcF [3] [] [(2,.v (.bool false)),(7,.p 0 0),(8,.v (.int .i16 v)),(9,.v (.bool (decide (v ≥ 0)))),(10,.p 1 0),(12,.v (.slice (some ⟨af,0,none⟩) ((lst (T.at_ 0)).length) ai)),(13,.v (.int .i32 (((lst (T.at_ 0)).length:Nat):Int))),(14,.v (.int .i32 ((ag:Nat):Int))),(16,.p 3 0),(19,.v (.slice (some ⟨ac,0,none⟩) ((lst (aa.at_ 1)).length) ah)),(20,.v (.int .i32 (((lst (aa.at_ 1)).length:Nat):Int))),(21,.v (.int .i32 ((ae:Nat):Int))),(23,.p 5 0),(26,.v (.slice (some ⟨al,0,none⟩) ((lst (ab.at_ 1)).length) am)),(27,.v (.int .i32 (((lst (ab.at_ 1)).length:Nat):Int)))] cz fun _ cA=>qae ?_
         clear cz
         refine qab ?_
         refine wp_seq ?_
         refine qbD [(2,.v (.bool false)),(7,.p 0 0),(8,.v (.int .i16 v)),(9,.v (.bool (decide (v ≥ 0)))),(10,.p 1 0),(12,.v (.slice (some ⟨af,0,none⟩) ((lst (T.at_ 0)).length) ai)),(13,.v (.int .i32 (((lst (T.at_ 0)).length:Nat):Int))),(14,.v (.int .i32 ((ag:Nat):Int))),(16,.p 3 0),(19,.v (.slice (some ⟨ac,0,none⟩) ((lst (aa.at_ 1)).length) ah)),(20,.v (.int .i32 (((lst (aa.at_ 1)).length:Nat):Int))),(21,.v (.int .i32 ((ae:Nat):Int))),(23,.p 5 0),(26,.v (.slice (some ⟨al,0,none⟩) ((lst (ab.at_ 1)).length) am)),(27,.v (.int .i32 (((lst (ab.at_ 1)).length:Nat):Int))),(28,.v (.int .i32 0))] cA fun _ bg=>?_
         clear cA
         refine qab ?_
         refine wp_block ?_
         have bh:=bg.mv
         have fh:=(bg.cast (t:=(lst (ab.at_ 1)).flatMap (fun E=>be 4 (IntKind.i32.wrap E.N)) ++ az) rfl).pk (env':=[(2,.v (.bool false)),(7,.p 0 0),(8,.v (.int .i16 v)),(9,.v (.bool (decide (v ≥ 0)))),(10,.p 1 0),(12,.v (.slice (some ⟨af,0,none⟩) ((lst (T.at_ 0)).length) ai)),(13,.v (.int .i32 (((lst (T.at_ 0)).length:Nat):Int))),(14,.v (.int .i32 ((ag:Nat):Int))),(16,.p 3 0),(19,.v (.slice (some ⟨ac,0,none⟩) ((lst (aa.at_ 1)).length) ah)),(20,.v (.int .i32 (((lst (aa.at_ 1)).length:Nat):Int))),(21,.v (.int .i32 ((ae:Nat):Int))),(23,.p 5 0),(26,.v (.slice (some ⟨al,0,none⟩) ((lst (ab.at_ 1)).length) am)),(27,.v (.int .i32 (((lst (ab.at_ 1)).length:Nat):Int))),(28,.v (.int .i32 ((0:Nat):Int)))])
         clear bg
         refine qhg (tb:=[⟨bv,0,[.int .i16 v,.slice none 0 0,.map none],true⟩,qbm af 3 (.agg #[.string ByteArray.empty,.slice none 0 0,.map none]) ((lst (T.at_ 0)).length) (ag + 1),⟨af,ag * 3,[.string (bs (aa.at_ 0).S),.slice none 0 0,.map none],true⟩,qbm ac 3 (.agg #[.string ByteArray.empty,.slice none 0 0,.map none]) ((lst (aa.at_ 1)).length) (ae + 1),⟨ac,ae * 3,[.string (bs (ab.at_ 0).S),.slice none 0 0,.map none],true⟩]) (z:=.int .i32 0) (cl:=(fun d=>[.int .i32 d.n])) (ok:=qjh) (rel:=(fun d t=>d.n = IntKind.i32.wrap t.N)) (L:=lst (ab.at_ 1)) (size:=1) (fun E=>be 4 (IntKind.i32.wrap E.N)) az (fun k=>[(2,.v (.bool false)),(7,.p 0 0),(8,.v (.int .i16 v)),(9,.v (.bool (decide (v ≥ 0)))),(10,.p 1 0),(12,.v (.slice (some ⟨af,0,none⟩) ((lst (T.at_ 0)).length) ai)),(13,.v (.int .i32 (((lst (T.at_ 0)).length:Nat):Int))),(14,.v (.int .i32 ((ag:Nat):Int))),(16,.p 3 0),(19,.v (.slice (some ⟨ac,0,none⟩) ((lst (aa.at_ 1)).length) ah)),(20,.v (.int .i32 (((lst (aa.at_ 1)).length:Nat):Int))),(21,.v (.int .i32 ((ae:Nat):Int))),(23,.p 5 0),(26,.v (.slice (some ⟨al,0,none⟩) ((lst (ab.at_ 1)).length) am)),(27,.v (.int .i32 (((lst (ab.at_ 1)).length:Nat):Int))),(28,.v (.int .i32 ((k:Nat):Int)))]) fh qji (fun ao aH _ _ fi fj cB=>?_) (fun _ _ cC=>?_)
         ·
          obtain ⟨f8,cD,cE⟩:∃ P',(∀ w F,P' w F → (ff w F ∧ qfi al 1 (fun d=>[.int .i32 d.n]) qjh (fun d t=>d.n = IntKind.i32.wrap t.N) (lst (ab.at_ 1)) ao w F)) ∧ RS w (fun b o=>b = bv ∧ o < 3) F 189 bj [⟨bv,0,[.int .i16 v,.slice none 0 0,.map none],true⟩,qbm af 3 (.agg #[.string ByteArray.empty,.slice none 0 0,.map none]) ((lst (T.at_ 0)).length) (ag + 1),⟨af,ag * 3,[.string (bs (aa.at_ 0).S),.slice none 0 0,.map none],true⟩,qbm ac 3 (.agg #[.string ByteArray.empty,.slice none 0 0,.map none]) ((lst (aa.at_ 1)).length) (ae + 1),⟨ac,ae * 3,[.string (bs (ab.at_ 0).S),.slice none 0 0,.map none],true⟩,qbm al 1 (.int .i32 0) ((lst (ab.at_ 1)).length) ao] [(2,.v (.bool false)),(7,.p 0 0),(8,.v (.int .i16 v)),(9,.v (.bool (decide (v ≥ 0)))),(10,.p 1 0),(12,.v (.slice (some ⟨af,0,none⟩) ((lst (T.at_ 0)).length) ai)),(13,.v (.int .i32 (((lst (T.at_ 0)).length:Nat):Int))),(14,.v (.int .i32 ((ag:Nat):Int))),(16,.p 3 0),(19,.v (.slice (some ⟨ac,0,none⟩) ((lst (aa.at_ 1)).length) ah)),(20,.v (.int .i32 (((lst (aa.at_ 1)).length:Nat):Int))),(21,.v (.int .i32 ((ae:Nat):Int))),(23,.p 5 0),(26,.v (.slice (some ⟨al,0,none⟩) ((lst (ab.at_ 1)).length) am)),(27,.v (.int .i32 (((lst (ab.at_ 1)).length:Nat):Int))),(28,.v (.int .i32 ((ao:Nat):Int)))] P' ((fun E=>be 4 (IntKind.i32.wrap E.N)) aH ++ (((lst (ab.at_ 1)).drop (ao + 1)).flatMap (fun E=>be 4 (IntKind.i32.wrap E.N)) ++ az)) _ _:=⟨_,fun _ _ h=>h,cB⟩
          clear cB
          obtain ⟨fk,cG⟩:∃ R,R = ((lst (ab.at_ 1)).drop (ao + 1)).flatMap (fun E=>be 4 (IntKind.i32.wrap E.N)) ++ az:=⟨_,rfl⟩
          have cH:=cE.cast (t:=(fun E=>be 4 (IntKind.i32.wrap E.N)) aH ++ fk) (by rw [cG])
          clear cE
          have cI:=cH.cast (t:=(be 4 (IntKind.i32.wrap aH.N)) ++ fk) rfl
          clear cH
          refine wp_seq ?_
          refine wp_seq ?_
          refine qbD [(2,.v (.bool false)),(7,.p 0 0),(8,.v (.int .i16 v)),(9,.v (.bool (decide (v ≥ 0)))),(10,.p 1 0),(12,.v (.slice (some ⟨af,0,none⟩) ((lst (T.at_ 0)).length) ai)),(13,.v (.int .i32 (((lst (T.at_ 0)).length:Nat):Int))),(14,.v (.int .i32 ((ag:Nat):Int))),(16,.p 3 0),(19,.v (.slice (some ⟨ac,0,none⟩) ((lst (aa.at_ 1)).length) ah)),(20,.v (.int .i32 (((lst (aa.at_ 1)).length:Nat):Int))),(21,.v (.int .i32 ((ae:Nat):Int))),(23,.p 5 0),(26,.v (.slice (some ⟨al,0,none⟩) ((lst (ab.at_ 1)).length) am)),(27,.v (.int .i32 (((lst (ab.at_ 1)).length:Nat):Int))),(28,.v (.int .i32 ((ao:Nat):Int))),(150,.v (.bool (decide (((ao:Nat):Int) < (((lst (ab.at_ 1)).length:Nat):Int)))))] cI fun _ bi=>qab ?_
          clear cI
          refine qa7 bi.env_ (b:=decide (((ao:Nat):Int) < (((lst (ab.at_ 1)).length:Nat):Int))) kz (decide_eq_true (by omega)) ?_
          refine wp_skip ?_
          refine qab ?_
          refine wp_seq ?_
          refine wp_block ?_
          refine wp_seq ?_
          refine qhE (d:=153) [(2,.v (.bool false)),(7,.p 0 0),(8,.v (.int .i16 v)),(9,.v (.bool (decide (v ≥ 0)))),(10,.p 1 0),(12,.v (.slice (some ⟨af,0,none⟩) ((lst (T.at_ 0)).length) ai)),(13,.v (.int .i32 (((lst (T.at_ 0)).length:Nat):Int))),(14,.v (.int .i32 ((ag:Nat):Int))),(16,.p 3 0),(19,.v (.slice (some ⟨ac,0,none⟩) ((lst (aa.at_ 1)).length) ah)),(20,.v (.int .i32 (((lst (aa.at_ 1)).length:Nat):Int))),(21,.v (.int .i32 ((ae:Nat):Int))),(23,.p 5 0),(26,.v (.slice (some ⟨al,0,none⟩) ((lst (ab.at_ 1)).length) am)),(27,.v (.int .i32 (((lst (ab.at_ 1)).length:Nat):Int))),(28,.v (.int .i32 ((ao:Nat):Int))),(29,.v (.int .i32 (IntKind.i32.wrap aH.N)))] bi (qlt _ _) Tryz.call91 fun _ _ cJ=>?_
          clear bi
          refine qab ?_
          refine qaq [0,1,2,3,4] kz ?_
          refine qcF [0,1,2] [3,4] [(2,.v (.bool false)),(7,.p 0 0),(8,.v (.int .i16 v)),(9,.v (.bool (decide (v ≥ 0)))),(10,.p 1 0),(12,.v (.slice (some ⟨af,0,none⟩) ((lst (T.at_ 0)).length) ai)),(13,.v (.int .i32 (((lst (T.at_ 0)).length:Nat):Int))),(14,.v (.int .i32 ((ag:Nat):Int))),(16,.p 3 0),(19,.v (.slice (some ⟨ac,0,none⟩) ((lst (aa.at_ 1)).length) ah)),(20,.v (.int .i32 (((lst (aa.at_ 1)).length:Nat):Int))),(21,.v (.int .i32 ((ae:Nat):Int))),(23,.p 5 0),(26,.v (.slice (some ⟨al,0,none⟩) ((lst (ab.at_ 1)).length) am)),(27,.v (.int .i32 (((lst (ab.at_ 1)).length:Nat):Int))),(28,.v (.int .i32 ((ao:Nat):Int))),(154,.v (.slice (some ⟨al,0,none⟩) ((lst (ab.at_ 1)).length) am)),(155,.v (.int .i32 ((ao:Nat):Int))),(156,.v (.int .i32 (IntKind.i32.wrap aH.N)))] cJ fun _ cK=>?_
          clear cJ
          refine qal (qhG (t:=158) (e:=21) (size:=1) (bytes:=4) (d:=157) (tb:=[⟨bv,0,[.int .i16 v,.slice none 0 0,.map none],true⟩,qbm af 3 (.agg #[.string ByteArray.empty,.slice none 0 0,.map none]) ((lst (T.at_ 0)).length) (ag + 1),⟨af,ag * 3,[.string (bs (aa.at_ 0).S),.slice none 0 0,.map none],true⟩,qbm ac 3 (.agg #[.string ByteArray.empty,.slice none 0 0,.map none]) ((lst (aa.at_ 1)).length) (ae + 1),⟨ac,ae * 3,[.string (bs (ab.at_ 0).S),.slice none 0 0,.map none],true⟩]) (z:=.int .i32 0) cK fj rfl kz fun _ cL=>?_)
          clear cK
          refine qal (qeR [⟨bv,0,[.int .i16 v,.slice none 0 0,.map none],true⟩,qbm af 3 (.agg #[.string ByteArray.empty,.slice none 0 0,.map none]) ((lst (T.at_ 0)).length) (ag + 1),⟨af,ag * 3,[.string (bs (aa.at_ 0).S),.slice none 0 0,.map none],true⟩,qbm ac 3 (.agg #[.string ByteArray.empty,.slice none 0 0,.map none]) ((lst (aa.at_ 1)).length) (ae + 1),⟨ac,ae * 3,[.string (bs (ab.at_ 0).S),.slice none 0 0,.map none],true⟩,qbm al 1 (.int .i32 0) ((lst (ab.at_ 1)).length) (ao + 1),⟨al,ao * 1,[.int .i32 (IntKind.i32.wrap aH.N)],true⟩] 6 cL fun _ cM=>qae ?_)
          clear cL
          have cN:=cM.pk (env':=[(2,.v (.bool false)),(7,.p 0 0),(8,.v (.int .i16 v)),(9,.v (.bool (decide (v ≥ 0)))),(10,.p 1 0),(12,.v (.slice (some ⟨af,0,none⟩) ((lst (T.at_ 0)).length) ai)),(13,.v (.int .i32 (((lst (T.at_ 0)).length:Nat):Int))),(14,.v (.int .i32 ((ag:Nat):Int))),(16,.p 3 0),(19,.v (.slice (some ⟨ac,0,none⟩) ((lst (aa.at_ 1)).length) ah)),(20,.v (.int .i32 (((lst (aa.at_ 1)).length:Nat):Int))),(21,.v (.int .i32 ((ae:Nat):Int))),(23,.p 5 0),(26,.v (.slice (some ⟨al,0,none⟩) ((lst (ab.at_ 1)).length) am)),(27,.v (.int .i32 (((lst (ab.at_ 1)).length:Nat):Int))),(28,.v (.int .i32 ((ao:Nat):Int)))])
          clear cM
          refine qar ?_
          refine qab ?_
          refine qbD [(2,.v (.bool false)),(7,.p 0 0),(8,.v (.int .i16 v)),(9,.v (.bool (decide (v ≥ 0)))),(10,.p 1 0),(12,.v (.slice (some ⟨af,0,none⟩) ((lst (T.at_ 0)).length) ai)),(13,.v (.int .i32 (((lst (T.at_ 0)).length:Nat):Int))),(14,.v (.int .i32 ((ag:Nat):Int))),(16,.p 3 0),(19,.v (.slice (some ⟨ac,0,none⟩) ((lst (aa.at_ 1)).length) ah)),(20,.v (.int .i32 (((lst (aa.at_ 1)).length:Nat):Int))),(21,.v (.int .i32 ((ae:Nat):Int))),(23,.p 5 0),(26,.v (.slice (some ⟨al,0,none⟩) ((lst (ab.at_ 1)).length) am)),(27,.v (.int .i32 (((lst (ab.at_ 1)).length:Nat):Int))),(28,.v (.int .i32 (IntKind.i32.wrap (((ao:Nat):Int) + 1))))] cN fun _ cO=>?_
          clear cN
          refine qab ?_
          have fm:=(cO.envEq (env':=[(2,.v (.bool false)),(7,.p 0 0),(8,.v (.int .i16 v)),(9,.v (.bool (decide (v ≥ 0)))),(10,.p 1 0),(12,.v (.slice (some ⟨af,0,none⟩) ((lst (T.at_ 0)).length) ai)),(13,.v (.int .i32 (((lst (T.at_ 0)).length:Nat):Int))),(14,.v (.int .i32 ((ag:Nat):Int))),(16,.p 3 0),(19,.v (.slice (some ⟨ac,0,none⟩) ((lst (aa.at_ 1)).length) ah)),(20,.v (.int .i32 (((lst (aa.at_ 1)).length:Nat):Int))),(21,.v (.int .i32 ((ae:Nat):Int))),(23,.p 5 0),(26,.v (.slice (some ⟨al,0,none⟩) ((lst (ab.at_ 1)).length) am)),(27,.v (.int .i32 (((lst (ab.at_ 1)).length:Nat):Int))),(28,.v (.int .i32 ((ao + 1:Nat):Int)))]) (by rw [qf6 (by have:=e147_1; omega)])).pk (env':=[(2,.v (.bool false)),(7,.p 0 0),(8,.v (.int .i16 v)),(9,.v (.bool (decide (v ≥ 0)))),(10,.p 1 0),(12,.v (.slice (some ⟨af,0,none⟩) ((lst (T.at_ 0)).length) ai)),(13,.v (.int .i32 (((lst (T.at_ 0)).length:Nat):Int))),(14,.v (.int .i32 ((ag:Nat):Int))),(16,.p 3 0),(19,.v (.slice (some ⟨ac,0,none⟩) ((lst (aa.at_ 1)).length) ah)),(20,.v (.int .i32 (((lst (aa.at_ 1)).length:Nat):Int))),(21,.v (.int .i32 ((ae:Nat):Int))),(23,.p 5 0),(26,.v (.slice (some ⟨al,0,none⟩) ((lst (ab.at_ 1)).length) am)),(27,.v (.int .i32 (((lst (ab.at_ 1)).length:Nat):Int))),(28,.v (.int .i32 ((ao + 1:Nat):Int)))])
          clear cO
          exact (RS.thing (tb:=[⟨bv,0,[.int .i16 v,.slice none 0 0,.map none],true⟩,qbm af 3 (.agg #[.string ByteArray.empty,.slice none 0 0,.map none]) ((lst (T.at_ 0)).length) (ag + 1),⟨af,ag * 3,[.string (bs (aa.at_ 0).S),.slice none 0 0,.map none],true⟩,qbm ac 3 (.agg #[.string ByteArray.empty,.slice none 0 0,.map none]) ((lst (aa.at_ 1)).length) (ae + 1),⟨ac,ae * 3,[.string (bs (ab.at_ 0).S),.slice none 0 0,.map none],true⟩]) (z:=.int .i32 0) (D:=dvN (IntKind.i32.wrap aH.N)) (fm.cast cG) hg_g184 fi qji bh rfl (fun w F h_=>⟨(cD _ _ h_).1,(cD _ _ h_).2,trivial,rfl⟩) kz)
         refine wp_seq ?_
         refine wp_seq ?_
         refine qbD [(2,.v (.bool false)),(7,.p 0 0),(8,.v (.int .i16 v)),(9,.v (.bool (decide (v ≥ 0)))),(10,.p 1 0),(12,.v (.slice (some ⟨af,0,none⟩) ((lst (T.at_ 0)).length) ai)),(13,.v (.int .i32 (((lst (T.at_ 0)).length:Nat):Int))),(14,.v (.int .i32 ((ag:Nat):Int))),(16,.p 3 0),(19,.v (.slice (some ⟨ac,0,none⟩) ((lst (aa.at_ 1)).length) ah)),(20,.v (.int .i32 (((lst (aa.at_ 1)).length:Nat):Int))),(21,.v (.int .i32 ((ae:Nat):Int))),(23,.p 5 0),(26,.v (.slice (some ⟨al,0,none⟩) ((lst (ab.at_ 1)).length) am)),(27,.v (.int .i32 (((lst (ab.at_ 1)).length:Nat):Int))),(28,.v (.int .i32 (((lst (ab.at_ 1)).length:Nat):Int))),(150,.v (.bool (decide ((((lst (ab.at_ 1)).length:Nat):Int) < (((lst (ab.at_ 1)).length:Nat):Int)))))] cC fun _ cP=>qab ?_
         clear cC
         refine qao cP.env_ (b:=decide ((((lst (ab.at_ 1)).length:Nat):Int) < (((lst (ab.at_ 1)).length:Nat):Int))) kz (decide_eq_false (by omega)) ?_
         refine wp_exit ?_
         refine qaw ?_
         refine qaw ?_
         refine qaL ?_
         refine qab ?_
         obtain ⟨fN,fo⟩:=RS.listEnd (tb:=[⟨bv,0,[.int .i16 v,.slice none 0 0,.map none],true⟩,qbm af 3 (.agg #[.string ByteArray.empty,.slice none 0 0,.map none]) ((lst (T.at_ 0)).length) (ag + 1),⟨af,ag * 3,[.string (bs (aa.at_ 0).S),.slice none 0 0,.map none],true⟩,qbm ac 3 (.agg #[.string ByteArray.empty,.slice none 0 0,.map none]) ((lst (aa.at_ 1)).length) (ae + 1),⟨ac,ae * 3,[.string (bs (ab.at_ 0).S),.slice none 0 0,.map none],true⟩]) (c:=am) (cP.pk (env':=[(2,.v (.bool false)),(7,.p 0 0),(8,.v (.int .i16 v)),(9,.v (.bool (decide (v ≥ 0)))),(10,.p 1 0),(12,.v (.slice (some ⟨af,0,none⟩) ((lst (T.at_ 0)).length) ai)),(13,.v (.int .i32 (((lst (T.at_ 0)).length:Nat):Int))),(14,.v (.int .i32 ((ag:Nat):Int))),(16,.p 3 0),(19,.v (.slice (some ⟨ac,0,none⟩) ((lst (aa.at_ 1)).length) ah)),(20,.v (.int .i32 (((lst (aa.at_ 1)).length:Nat):Int))),(21,.v (.int .i32 ((ae:Nat):Int))),(23,.p 5 0),(26,.v (.slice (some ⟨al,0,none⟩) ((lst (ab.at_ 1)).length) am))])) hg_g184 qji bh hcap_g184 (by have:=e147_1; omega) hn_g184 kz
         exact ⟨dvL (some ⟨al,0,none⟩) (lst (ab.at_ 1)).length am fN,_,fun w F h_=>⟨h_.1,⟨h_.2.1,Nat.le_trans e147_1 (by decide),h_.2.2.1⟩,⟨rfl,h_.2.2.2⟩⟩,fo⟩
        refine wp_skip ?_
        refine qab ?_
        refine wp_seq ?_
        refine qbD [(2,.v (.bool false)),(7,.p 0 0),(8,.v (.int .i16 v)),(9,.v (.bool (decide (v ≥ 0)))),(10,.p 1 0),(12,.v (.slice (some ⟨af,0,none⟩) ((lst (T.at_ 0)).length) ai)),(13,.v (.int .i32 (((lst (T.at_ 0)).length:Nat):Int))),(14,.v (.int .i32 ((ag:Nat):Int))),(16,.p 3 0),(19,.v (.slice (some ⟨ac,0,none⟩) ((lst (aa.at_ 1)).length) ah)),(20,.v (.int .i32 (((lst (aa.at_ 1)).length:Nat):Int))),(21,.v (.int .i32 ((ae:Nat):Int))),(23,.p 5 0),(26,.v (.slice none 0 0)),(27,.v (.int .i32 (((lst (ab.at_ 1)).length:Nat):Int))),(28,.v (.int .i32 0))] aA fun _ cQ=>?_
        clear aA
        refine qab ?_
        refine wp_block ?_
        refine qeT ?_
        refine wp_seq ?_
        refine wp_seq ?_
        refine qbD [(2,.v (.bool false)),(7,.p 0 0),(8,.v (.int .i16 v)),(9,.v (.bool (decide (v ≥ 0)))),(10,.p 1 0),(12,.v (.slice (some ⟨af,0,none⟩) ((lst (T.at_ 0)).length) ai)),(13,.v (.int .i32 (((lst (T.at_ 0)).length:Nat):Int))),(14,.v (.int .i32 ((ag:Nat):Int))),(16,.p 3 0),(19,.v (.slice (some ⟨ac,0,none⟩) ((lst (aa.at_ 1)).length) ah)),(20,.v (.int .i32 (((lst (aa.at_ 1)).length:Nat):Int))),(21,.v (.int .i32 ((ae:Nat):Int))),(23,.p 5 0),(26,.v (.slice none 0 0)),(27,.v (.int .i32 (((lst (ab.at_ 1)).length:Nat):Int))),(28,.v (.int .i32 0)),(150,.v (.bool (decide (0 < (((lst (ab.at_ 1)).length:Nat):Int)))))] cQ fun _ cR=>qab ?_
        clear cQ
        refine qao cR.env_ (b:=decide (0 < (((lst (ab.at_ 1)).length:Nat):Int))) kz (decide_eq_false (by have h_:=of_decide_eq_false aO; omega)) ?_
        refine wp_exit ?_
        refine qaw ?_
        refine qaw ?_
        refine qaL ?_
        refine qab ?_
        have hz_:(lst (ab.at_ 1)).length = 0:=by have h_:=of_decide_eq_false aO; omega
        exact ⟨dvL none 0 0 (fun _=>dv0),_,fun w F h_=>⟨h_,⟨Slots.nil _ _ _ _,Nat.zero_le _,fun _ h=>absurd h (Nat.not_lt_zero _)⟩,⟨hz_.symm,fun _ h=>absurd h (Nat.not_lt_zero _)⟩⟩,(cR.cast (t:=az) (by rw [List.eq_nil_of_length_eq_zero hz_]; rfl)).pk (env':=[(2,.v (.bool false)),(7,.p 0 0),(8,.v (.int .i16 v)),(9,.v (.bool (decide (v ≥ 0)))),(10,.p 1 0),(12,.v (.slice (some ⟨af,0,none⟩) ((lst (T.at_ 0)).length) ai)),(13,.v (.int .i32 (((lst (T.at_ 0)).length:Nat):Int))),(14,.v (.int .i32 ((ag:Nat):Int))),(16,.p 3 0),(19,.v (.slice (some ⟨ac,0,none⟩) ((lst (aa.at_ 1)).length) ah)),(20,.v (.int .i32 (((lst (aa.at_ 1)).length:Nat):Int))),(21,.v (.int .i32 ((ae:Nat):Int))),(23,.p 5 0),(26,.v (.slice none 0 0))])⟩
       rintro _ _ ⟨ak,fO,aP,cS⟩
       refine wp_seq ?_
       refine qbD [(2,.v (.bool false)),(7,.p 0 0),(8,.v (.int .i16 v)),(9,.v (.bool (decide (v ≥ 0)))),(10,.p 1 0),(12,.v (.slice (some ⟨af,0,none⟩) ((lst (T.at_ 0)).length) ai)),(13,.v (.int .i32 (((lst (T.at_ 0)).length:Nat):Int))),(14,.v (.int .i32 ((ag:Nat):Int))),(16,.p 3 0),(19,.v (.slice (some ⟨ac,0,none⟩) ((lst (aa.at_ 1)).length) ah)),(20,.v (.int .i32 (((lst (aa.at_ 1)).length:Nat):Int))),(21,.v (.int .i32 ((ae:Nat):Int))),(23,.p 5 0),(25,.v (.slice ak.A ak.l ak.c))] cS fun _ cT=>?_
       clear cS
       refine qab ?_
       refine qgN [⟨bv,0,[.int .i16 v,.slice none 0 0,.map none],true⟩,qbm af 3 (.agg #[.string ByteArray.empty,.slice none 0 0,.map none]) ((lst (T.at_ 0)).length) (ag + 1),⟨af,ag * 3,[.string (bs (aa.at_ 0).S),.slice none 0 0,.map none],true⟩,qbm ac 3 (.agg #[.string ByteArray.empty,.slice none 0 0,.map none]) ((lst (aa.at_ 1)).length) (ae + 1),⟨ac,ae * 3,[.string (bs (ab.at_ 0).S),.slice ak.A ak.l ak.c,.map none],true⟩] 4 [(2,.v (.bool false)),(7,.p 0 0),(8,.v (.int .i16 v)),(9,.v (.bool (decide (v ≥ 0)))),(10,.p 1 0),(12,.v (.slice (some ⟨af,0,none⟩) ((lst (T.at_ 0)).length) ai)),(13,.v (.int .i32 (((lst (T.at_ 0)).length:Nat):Int))),(14,.v (.int .i32 ((ag:Nat):Int))),(16,.p 3 0),(19,.v (.slice (some ⟨ac,0,none⟩) ((lst (aa.at_ 1)).length) ah)),(20,.v (.int .i32 (((lst (aa.at_ 1)).length:Nat):Int))),(21,.v (.int .i32 ((ae:Nat):Int))),(23,.p 5 0)] cT fun _ _ cU=>?_
       clear cT
       refine qab ?_
       have cV:=cU.cast bM
       clear cU
       refine qeU (Mid:=fun a_ w_=>∃ (bo:Option Nat) (aI:List (Int × Bs)) (P':qcI),(∀ w F,P' w F → fO w F ∧ (MapR w F bo aI ∧ aI.length ≤ 1000000 ∧ ∀ x ∈ aI,x.2.length < 4294967296) ∧ ((decide (v ≥ 0)) = true → aI = ab.U) ∧ ((decide (v ≥ 0)) = false → aI = [])) ∧ RS w (fun b o=>b = bv ∧ o < 3) F 189 bj [⟨bv,0,[.int .i16 v,.slice none 0 0,.map none],true⟩,qbm af 3 (.agg #[.string ByteArray.empty,.slice none 0 0,.map none]) ((lst (T.at_ 0)).length) (ag + 1),⟨af,ag * 3,[.string (bs (aa.at_ 0).S),.slice none 0 0,.map none],true⟩,qbm ac 3 (.agg #[.string ByteArray.empty,.slice none 0 0,.map none]) ((lst (aa.at_ 1)).length) (ae + 1),⟨ac,ae * 3,[.string (bs (ab.at_ 0).S),.slice ak.A ak.l ak.c,.map bo],true⟩] [(2,.v (.bool false)),(7,.p 0 0),(8,.v (.int .i16 v)),(9,.v (.bool (decide (v ≥ 0)))),(10,.p 1 0),(12,.v (.slice (some ⟨af,0,none⟩) ((lst (T.at_ 0)).length) ai)),(13,.v (.int .i32 (((lst (T.at_ 0)).length:Nat):Int))),(14,.v (.int .i32 ((ag:Nat):Int))),(16,.p 3 0),(19,.v (.slice (some ⟨ac,0,none⟩) ((lst (aa.at_ 1)).length) ah)),(20,.v (.int .i32 (((lst (aa.at_ 1)).length:Nat):Int))),(21,.v (.int .i32 ((ae:Nat):Int)))] P' aZ a_ w_) ?_ ?_
       ·
        refine wp_seq ?_
        refine qbD [(2,.v (.bool false)),(7,.p 0 0),(8,.v (.int .i16 v)),(9,.v (.bool (decide (v ≥ 0)))),(10,.p 1 0),(12,.v (.slice (some ⟨af,0,none⟩) ((lst (T.at_ 0)).length) ai)),(13,.v (.int .i32 (((lst (T.at_ 0)).length:Nat):Int))),(14,.v (.int .i32 ((ag:Nat):Int))),(16,.p 3 0),(19,.v (.slice (some ⟨ac,0,none⟩) ((lst (aa.at_ 1)).length) ah)),(20,.v (.int .i32 (((lst (aa.at_ 1)).length:Nat):Int))),(21,.v (.int .i32 ((ae:Nat):Int))),(23,.p 5 0),(163,.v (.bool (decide (v ≥ 0))))] cV fun _ aB=>qab ?_
        clear cV
        refine qav aB.env_ (b:=decide (v ≥ 0)) kz (fun aC=>?_) (fun aC=>?_)
        ·
         have cW:=aB.cast (t:=((uv ab.U.length) ++ (qcE ab.U)) ++ aZ) (by rw [if_pos aC])
         clear aB
         refine qaq [0,1,2,3,4] kz ?_
         refine qcF [0] [1,2,3,4] [(2,.v (.bool false)),(7,.p 0 0),(8,.v (.int .i16 v)),(9,.v (.bool (decide (v ≥ 0)))),(10,.p 1 0),(12,.v (.slice (some ⟨af,0,none⟩) ((lst (T.at_ 0)).length) ai)),(13,.v (.int .i32 (((lst (T.at_ 0)).length:Nat):Int))),(14,.v (.int .i32 ((ag:Nat):Int))),(16,.p 3 0),(19,.v (.slice (some ⟨ac,0,none⟩) ((lst (aa.at_ 1)).length) ah)),(20,.v (.int .i32 (((lst (aa.at_ 1)).length:Nat):Int))),(21,.v (.int .i32 ((ae:Nat):Int))),(164,.p 5 0)] cW fun _ cX=>?_
         clear cW
         refine qal (qhd (d:=165) cX (qk2 ab.U e147_U (qeQ e147r) _) (fun _=>MvF.tags _ _) Tryz.call101 fun dX f9 _ _ cY cZ=>?_)
         clear cX
         refine qcF [2,3] [4] [(2,.v (.bool false)),(7,.p 0 0),(8,.v (.int .i16 v)),(9,.v (.bool (decide (v ≥ 0)))),(10,.p 1 0),(12,.v (.slice (some ⟨af,0,none⟩) ((lst (T.at_ 0)).length) ai)),(13,.v (.int .i32 (((lst (T.at_ 0)).length:Nat):Int))),(14,.v (.int .i32 ((ag:Nat):Int))),(16,.p 3 0),(19,.v (.slice (some ⟨ac,0,none⟩) ((lst (aa.at_ 1)).length) ah)),(20,.v (.int .i32 (((lst (aa.at_ 1)).length:Nat):Int))),(21,.v (.int .i32 ((ae:Nat):Int))),(165,.v (.agg #[.map dX])),(167,.p 5 2)] cZ fun _ c5=>?_
         clear cZ
         refine qal (qeR [⟨bv,0,[.int .i16 v,.slice none 0 0,.map none],true⟩,qbm af 3 (.agg #[.string ByteArray.empty,.slice none 0 0,.map none]) ((lst (T.at_ 0)).length) (ag + 1),⟨af,ag * 3,[.string (bs (aa.at_ 0).S),.slice none 0 0,.map none],true⟩,qbm ac 3 (.agg #[.string ByteArray.empty,.slice none 0 0,.map none]) ((lst (aa.at_ 1)).length) (ae + 1),⟨ac,ae * 3,[.string (bs (ab.at_ 0).S),.slice ak.A ak.l ak.c,.map dX],true⟩] 4 c5 fun _ c6=>?_)
         clear c5
         refine qae ?_
         have fq:=c6.pk (env':=[(2,.v (.bool false)),(7,.p 0 0),(8,.v (.int .i16 v)),(9,.v (.bool (decide (v ≥ 0)))),(10,.p 1 0),(12,.v (.slice (some ⟨af,0,none⟩) ((lst (T.at_ 0)).length) ai)),(13,.v (.int .i32 (((lst (T.at_ 0)).length:Nat):Int))),(14,.v (.int .i32 ((ag:Nat):Int))),(16,.p 3 0),(19,.v (.slice (some ⟨ac,0,none⟩) ((lst (aa.at_ 1)).length) ah)),(20,.v (.int .i32 (((lst (aa.at_ 1)).length:Nat):Int))),(21,.v (.int .i32 ((ae:Nat):Int)))])
         clear c6
         refine qab ?_
         exact ⟨dX,ab.U,_,fun w F h_=>⟨(cY _ _ h_).1,⟨(cY _ _ h_).2,e147_U.2.1,e147_U.2.2⟩,⟨fun _=>rfl,(fun e_=>by rw [aC] at e_; cases e_)⟩⟩,fq.pk (env':=[(2,.v (.bool false)),(7,.p 0 0),(8,.v (.int .i16 v)),(9,.v (.bool (decide (v ≥ 0)))),(10,.p 1 0),(12,.v (.slice (some ⟨af,0,none⟩) ((lst (T.at_ 0)).length) ai)),(13,.v (.int .i32 (((lst (T.at_ 0)).length:Nat):Int))),(14,.v (.int .i32 ((ag:Nat):Int))),(16,.p 3 0),(19,.v (.slice (some ⟨ac,0,none⟩) ((lst (aa.at_ 1)).length) ah)),(20,.v (.int .i32 (((lst (aa.at_ 1)).length:Nat):Int))),(21,.v (.int .i32 ((ae:Nat):Int)))])⟩
        have da:=aB.cast (t:=[] ++ aZ) (by rw [if_neg (by rw [aC]; decide)])
        clear aB
        have fr:=da.cast (t:=aZ) rfl
        clear da
        refine wp_skip (qab ?_)
        exact ⟨none,[],_,fun w F h_=>⟨h_,⟨MapR.nil _ _,Nat.zero_le _,fun _ h=>by cases h⟩,⟨(fun e_=>by rw [aC] at e_; cases e_),fun _=>rfl⟩⟩,fr.pk (env':=[(2,.v (.bool false)),(7,.p 0 0),(8,.v (.int .i16 v)),(9,.v (.bool (decide (v ≥ 0)))),(10,.p 1 0),(12,.v (.slice (some ⟨af,0,none⟩) ((lst (T.at_ 0)).length) ai)),(13,.v (.int .i32 (((lst (T.at_ 0)).length:Nat):Int))),(14,.v (.int .i32 ((ag:Nat):Int))),(16,.p 3 0),(19,.v (.slice (some ⟨ac,0,none⟩) ((lst (aa.at_ 1)).length) ah)),(20,.v (.int .i32 (((lst (aa.at_ 1)).length:Nat):Int))),(21,.v (.int .i32 ((ae:Nat):Int)))])⟩
       rintro _ _ ⟨bo,aI,ga,au,db⟩
       refine qar ?_
       refine qab ?_
       refine qbD [(2,.v (.bool false)),(7,.p 0 0),(8,.v (.int .i16 v)),(9,.v (.bool (decide (v ≥ 0)))),(10,.p 1 0),(12,.v (.slice (some ⟨af,0,none⟩) ((lst (T.at_ 0)).length) ai)),(13,.v (.int .i32 (((lst (T.at_ 0)).length:Nat):Int))),(14,.v (.int .i32 ((ag:Nat):Int))),(16,.p 3 0),(19,.v (.slice (some ⟨ac,0,none⟩) ((lst (aa.at_ 1)).length) ah)),(20,.v (.int .i32 (((lst (aa.at_ 1)).length:Nat):Int))),(21,.v (.int .i32 (IntKind.i32.wrap (((ae:Nat):Int) + 1))))] db fun _ dc=>?_
       clear db
       refine qab ?_
       have ft:=(dc.envEq (env':=[(2,.v (.bool false)),(7,.p 0 0),(8,.v (.int .i16 v)),(9,.v (.bool (decide (v ≥ 0)))),(10,.p 1 0),(12,.v (.slice (some ⟨af,0,none⟩) ((lst (T.at_ 0)).length) ai)),(13,.v (.int .i32 (((lst (T.at_ 0)).length:Nat):Int))),(14,.v (.int .i32 ((ag:Nat):Int))),(16,.p 3 0),(19,.v (.slice (some ⟨ac,0,none⟩) ((lst (aa.at_ 1)).length) ah)),(20,.v (.int .i32 (((lst (aa.at_ 1)).length:Nat):Int))),(21,.v (.int .i32 ((ae + 1:Nat):Int)))]) (by rw [qf6 (by have:=e72_1; omega)])).pk (env':=[(2,.v (.bool false)),(7,.p 0 0),(8,.v (.int .i16 v)),(9,.v (.bool (decide (v ≥ 0)))),(10,.p 1 0),(12,.v (.slice (some ⟨af,0,none⟩) ((lst (T.at_ 0)).length) ai)),(13,.v (.int .i32 (((lst (T.at_ 0)).length:Nat):Int))),(14,.v (.int .i32 ((ag:Nat):Int))),(16,.p 3 0),(19,.v (.slice (some ⟨ac,0,none⟩) ((lst (aa.at_ 1)).length) ah)),(20,.v (.int .i32 (((lst (aa.at_ 1)).length:Nat):Int))),(21,.v (.int .i32 ((ae + 1:Nat):Int)))])
       clear dc
       exact (RS.thing (tb:=[⟨bv,0,[.int .i16 v,.slice none 0 0,.map none],true⟩,qbm af 3 (.agg #[.string ByteArray.empty,.slice none 0 0,.map none]) ((lst (T.at_ 0)).length) (ag + 1),⟨af,ag * 3,[.string (bs (aa.at_ 0).S),.slice none 0 0,.map none],true⟩]) (z:=.agg #[.string ByteArray.empty,.slice none 0 0,.map none]) (D:=(dvP bo aI [dvS (bs (ab.at_ 0).S),ak])) (ft.cast bL) hg_g125 aY qaM aX rfl (fun w F h_=>⟨(bJ _ _ (aP _ _ (au _ _ h_).1).1).1,(bJ _ _ (aP _ _ (au _ _ h_).1).1).2,⟨(by show ByteArray.size (bs _) ≤ 1000000; rw [qjb]; exact Nat.le_trans e147_0 (by decide)),((aP _ _ (au _ _ h_).1).2.1),(au _ _ h_).2.1.1,(au _ _ h_).2.1.2.1,(au _ _ h_).2.1.2.2,trivial⟩,⟨(rfl),((aP _ _ (au _ _ h_).1).2.2),(au _ _ h_).2.2,trivial⟩⟩) kz)
      refine wp_seq ?_
      refine wp_seq ?_
      refine qbD [(2,.v (.bool false)),(7,.p 0 0),(8,.v (.int .i16 v)),(9,.v (.bool (decide (v ≥ 0)))),(10,.p 1 0),(12,.v (.slice (some ⟨af,0,none⟩) ((lst (T.at_ 0)).length) ai)),(13,.v (.int .i32 (((lst (T.at_ 0)).length:Nat):Int))),(14,.v (.int .i32 ((ag:Nat):Int))),(16,.p 3 0),(19,.v (.slice (some ⟨ac,0,none⟩) ((lst (aa.at_ 1)).length) ah)),(20,.v (.int .i32 (((lst (aa.at_ 1)).length:Nat):Int))),(21,.v (.int .i32 (((lst (aa.at_ 1)).length:Nat):Int))),(110,.v (.bool (decide ((((lst (aa.at_ 1)).length:Nat):Int) < (((lst (aa.at_ 1)).length:Nat):Int)))))] bI fun _ de=>qab ?_
      clear bI
      refine qao de.env_ (b:=decide ((((lst (aa.at_ 1)).length:Nat):Int) < (((lst (aa.at_ 1)).length:Nat):Int))) kz (decide_eq_false (by omega)) ?_
      refine wp_exit ?_
      refine qaw ?_
      refine qaw ?_
      refine qaL ?_
      refine qab ?_
      obtain ⟨fP,fu⟩:=RS.listEnd (tb:=[⟨bv,0,[.int .i16 v,.slice none 0 0,.map none],true⟩,qbm af 3 (.agg #[.string ByteArray.empty,.slice none 0 0,.map none]) ((lst (T.at_ 0)).length) (ag + 1),⟨af,ag * 3,[.string (bs (aa.at_ 0).S),.slice none 0 0,.map none],true⟩]) (c:=ah) (de.pk (env':=[(2,.v (.bool false)),(7,.p 0 0),(8,.v (.int .i16 v)),(9,.v (.bool (decide (v ≥ 0)))),(10,.p 1 0),(12,.v (.slice (some ⟨af,0,none⟩) ((lst (T.at_ 0)).length) ai)),(13,.v (.int .i32 (((lst (T.at_ 0)).length:Nat):Int))),(14,.v (.int .i32 ((ag:Nat):Int))),(16,.p 3 0),(19,.v (.slice (some ⟨ac,0,none⟩) ((lst (aa.at_ 1)).length) ah))])) hg_g125 qaM aX hcap_g125 (by have:=e72_1; omega) hn_g125 kz
      exact ⟨dvL (some ⟨ac,0,none⟩) (lst (aa.at_ 1)).length ah fP,_,fun w F h_=>⟨h_.1,⟨h_.2.1,Nat.le_trans e72_1 (by decide),h_.2.2.1⟩,⟨fun _=>aV.symm,rfl,h_.2.2.2⟩⟩,fu⟩
     refine wp_skip ?_
     refine qab ?_
     refine wp_seq ?_
     refine qbD [(2,.v (.bool false)),(7,.p 0 0),(8,.v (.int .i16 v)),(9,.v (.bool (decide (v ≥ 0)))),(10,.p 1 0),(12,.v (.slice (some ⟨af,0,none⟩) ((lst (T.at_ 0)).length) ai)),(13,.v (.int .i32 (((lst (T.at_ 0)).length:Nat):Int))),(14,.v (.int .i32 ((ag:Nat):Int))),(16,.p 3 0),(19,.v (.slice ar 0 0)),(20,.v (.int .i32 (lenN (aa.at_ 1).null ((lst (aa.at_ 1)).length)))),(21,.v (.int .i32 0))] ax fun _ df=>?_
     clear ax
     refine qab ?_
     refine wp_block ?_
     refine qeT ?_
     refine wp_seq ?_
     refine wp_seq ?_
     refine qbD [(2,.v (.bool false)),(7,.p 0 0),(8,.v (.int .i16 v)),(9,.v (.bool (decide (v ≥ 0)))),(10,.p 1 0),(12,.v (.slice (some ⟨af,0,none⟩) ((lst (T.at_ 0)).length) ai)),(13,.v (.int .i32 (((lst (T.at_ 0)).length:Nat):Int))),(14,.v (.int .i32 ((ag:Nat):Int))),(16,.p 3 0),(19,.v (.slice ar 0 0)),(20,.v (.int .i32 (lenN (aa.at_ 1).null ((lst (aa.at_ 1)).length)))),(21,.v (.int .i32 0)),(110,.v (.bool (decide (0 < (lenN (aa.at_ 1).null ((lst (aa.at_ 1)).length))))))] df fun _ dg=>qab ?_
     clear df
     refine qao dg.env_ (b:=decide (0 < (lenN (aa.at_ 1).null ((lst (aa.at_ 1)).length)))) kz (decide_eq_false (by have h_:=of_decide_eq_false ay; omega)) ?_
     refine wp_exit ?_
     refine qaw ?_
     refine qaw ?_
     refine qaL ?_
     refine qab ?_
     have hz_:(lst (aa.at_ 1)).length = 0:=by have h_:=of_decide_eq_false ay; exact qjq h_
     exact ⟨dvL ar 0 0 (fun _=>dv0),_,fun w F h_=>⟨h_,⟨qls,Nat.zero_le _,fun _ h=>absurd h (Nat.not_lt_zero _)⟩,⟨fun h_=>e9 h_ hz_,hz_.symm,fun _ h=>absurd h (Nat.not_lt_zero _)⟩⟩,(dg.cast (t:=bn) (by rw [List.eq_nil_of_length_eq_zero hz_]; rfl)).pk (env':=[(2,.v (.bool false)),(7,.p 0 0),(8,.v (.int .i16 v)),(9,.v (.bool (decide (v ≥ 0)))),(10,.p 1 0),(12,.v (.slice (some ⟨af,0,none⟩) ((lst (T.at_ 0)).length) ai)),(13,.v (.int .i32 (((lst (T.at_ 0)).length:Nat):Int))),(14,.v (.int .i32 ((ag:Nat):Int))),(16,.p 3 0),(19,.v (.slice ar 0 0))])⟩
    rintro _ _ ⟨aj,fQ,aQ,dh⟩
    refine wp_seq ?_
    refine qbD [(2,.v (.bool false)),(7,.p 0 0),(8,.v (.int .i16 v)),(9,.v (.bool (decide (v ≥ 0)))),(10,.p 1 0),(12,.v (.slice (some ⟨af,0,none⟩) ((lst (T.at_ 0)).length) ai)),(13,.v (.int .i32 (((lst (T.at_ 0)).length:Nat):Int))),(14,.v (.int .i32 ((ag:Nat):Int))),(16,.p 3 0),(18,.v (.slice aj.A aj.l aj.c))] dh fun _ di=>?_
    clear dh
    refine qab ?_
    refine qgN [⟨bv,0,[.int .i16 v,.slice none 0 0,.map none],true⟩,qbm af 3 (.agg #[.string ByteArray.empty,.slice none 0 0,.map none]) ((lst (T.at_ 0)).length) (ag + 1),⟨af,ag * 3,[.string (bs (aa.at_ 0).S),.slice aj.A aj.l aj.c,.map none],true⟩] 2 [(2,.v (.bool false)),(7,.p 0 0),(8,.v (.int .i16 v)),(9,.v (.bool (decide (v ≥ 0)))),(10,.p 1 0),(12,.v (.slice (some ⟨af,0,none⟩) ((lst (T.at_ 0)).length) ai)),(13,.v (.int .i32 (((lst (T.at_ 0)).length:Nat):Int))),(14,.v (.int .i32 ((ag:Nat):Int))),(16,.p 3 0)] di fun _ _ dj=>?_
    clear di
    refine qab ?_
    have dl:=dj.cast eD
    clear dj
    refine qeU (Mid:=fun a_ w_=>∃ (bp:Option Nat) (aJ:List (Int × Bs)) (P':qcI),(∀ w F,P' w F → fQ w F ∧ (MapR w F bp aJ ∧ aJ.length ≤ 1000000 ∧ ∀ x ∈ aJ,x.2.length < 4294967296) ∧ ((decide (v ≥ 0)) = true → aJ = aa.U) ∧ ((decide (v ≥ 0)) = false → aJ = [])) ∧ RS w (fun b o=>b = bv ∧ o < 3) F 189 bj [⟨bv,0,[.int .i16 v,.slice none 0 0,.map none],true⟩,qbm af 3 (.agg #[.string ByteArray.empty,.slice none 0 0,.map none]) ((lst (T.at_ 0)).length) (ag + 1),⟨af,ag * 3,[.string (bs (aa.at_ 0).S),.slice aj.A aj.l aj.c,.map bp],true⟩] [(2,.v (.bool false)),(7,.p 0 0),(8,.v (.int .i16 v)),(9,.v (.bool (decide (v ≥ 0)))),(10,.p 1 0),(12,.v (.slice (some ⟨af,0,none⟩) ((lst (T.at_ 0)).length) ai)),(13,.v (.int .i32 (((lst (T.at_ 0)).length:Nat):Int))),(14,.v (.int .i32 ((ag:Nat):Int)))] P' eB a_ w_) ?_ ?_
    ·
     refine wp_seq ?_
     refine qbD [(2,.v (.bool false)),(7,.p 0 0),(8,.v (.int .i16 v)),(9,.v (.bool (decide (v ≥ 0)))),(10,.p 1 0),(12,.v (.slice (some ⟨af,0,none⟩) ((lst (T.at_ 0)).length) ai)),(13,.v (.int .i32 (((lst (T.at_ 0)).length:Nat):Int))),(14,.v (.int .i32 ((ag:Nat):Int))),(16,.p 3 0),(173,.v (.bool (decide (v ≥ 0))))] dl fun _ aD=>qab ?_
     clear dl
     refine qav aD.env_ (b:=decide (v ≥ 0)) kz (fun aE=>?_) (fun aE=>?_)
     ·
      have dp:=aD.cast (t:=((uv aa.U.length) ++ (qcE aa.U)) ++ eB) (by rw [if_pos aE])
      clear aD
      refine qaq [0,1,2,3,4] kz ?_
      refine qcF [0] [1,2,3,4] [(2,.v (.bool false)),(7,.p 0 0),(8,.v (.int .i16 v)),(9,.v (.bool (decide (v ≥ 0)))),(10,.p 1 0),(12,.v (.slice (some ⟨af,0,none⟩) ((lst (T.at_ 0)).length) ai)),(13,.v (.int .i32 (((lst (T.at_ 0)).length:Nat):Int))),(14,.v (.int .i32 ((ag:Nat):Int))),(174,.p 3 0)] dp fun _ dq=>?_
      clear dp
      refine qal (qhd (d:=175) dq (qk2 aa.U e72_U (qeQ e72r) _) (fun _=>MvF.tags _ _) Tryz.call101 fun dY gb _ _ dr dt=>?_)
      clear dq
      refine qcF [2,3] [4] [(2,.v (.bool false)),(7,.p 0 0),(8,.v (.int .i16 v)),(9,.v (.bool (decide (v ≥ 0)))),(10,.p 1 0),(12,.v (.slice (some ⟨af,0,none⟩) ((lst (T.at_ 0)).length) ai)),(13,.v (.int .i32 (((lst (T.at_ 0)).length:Nat):Int))),(14,.v (.int .i32 ((ag:Nat):Int))),(175,.v (.agg #[.map dY])),(177,.p 3 2)] dt fun _ du=>?_
      clear dt
      refine qal (qeR [⟨bv,0,[.int .i16 v,.slice none 0 0,.map none],true⟩,qbm af 3 (.agg #[.string ByteArray.empty,.slice none 0 0,.map none]) ((lst (T.at_ 0)).length) (ag + 1),⟨af,ag * 3,[.string (bs (aa.at_ 0).S),.slice aj.A aj.l aj.c,.map dY],true⟩] 2 du fun _ dv=>?_)
      clear du
      refine qae ?_
      have fv:=dv.pk (env':=[(2,.v (.bool false)),(7,.p 0 0),(8,.v (.int .i16 v)),(9,.v (.bool (decide (v ≥ 0)))),(10,.p 1 0),(12,.v (.slice (some ⟨af,0,none⟩) ((lst (T.at_ 0)).length) ai)),(13,.v (.int .i32 (((lst (T.at_ 0)).length:Nat):Int))),(14,.v (.int .i32 ((ag:Nat):Int)))])
      clear dv
      refine qab ?_
      exact ⟨dY,aa.U,_,fun w F h_=>⟨(dr _ _ h_).1,⟨(dr _ _ h_).2,e72_U.2.1,e72_U.2.2⟩,⟨fun _=>rfl,(fun e_=>by rw [aE] at e_; cases e_)⟩⟩,fv.pk (env':=[(2,.v (.bool false)),(7,.p 0 0),(8,.v (.int .i16 v)),(9,.v (.bool (decide (v ≥ 0)))),(10,.p 1 0),(12,.v (.slice (some ⟨af,0,none⟩) ((lst (T.at_ 0)).length) ai)),(13,.v (.int .i32 (((lst (T.at_ 0)).length:Nat):Int))),(14,.v (.int .i32 ((ag:Nat):Int)))])⟩
     have dw:=aD.cast (t:=[] ++ eB) (by rw [if_neg (by rw [aE]; decide)])
     clear aD
     have fw:=dw.cast (t:=eB) rfl
     clear dw
     refine wp_skip (qab ?_)
     exact ⟨none,[],_,fun w F h_=>⟨h_,⟨MapR.nil _ _,Nat.zero_le _,fun _ h=>by cases h⟩,⟨(fun e_=>by rw [aE] at e_; cases e_),fun _=>rfl⟩⟩,fw.pk (env':=[(2,.v (.bool false)),(7,.p 0 0),(8,.v (.int .i16 v)),(9,.v (.bool (decide (v ≥ 0)))),(10,.p 1 0),(12,.v (.slice (some ⟨af,0,none⟩) ((lst (T.at_ 0)).length) ai)),(13,.v (.int .i32 (((lst (T.at_ 0)).length:Nat):Int))),(14,.v (.int .i32 ((ag:Nat):Int)))])⟩
    rintro _ _ ⟨bp,aJ,gc,av,dx⟩
    refine qar ?_
    refine qab ?_
    refine qbD [(2,.v (.bool false)),(7,.p 0 0),(8,.v (.int .i16 v)),(9,.v (.bool (decide (v ≥ 0)))),(10,.p 1 0),(12,.v (.slice (some ⟨af,0,none⟩) ((lst (T.at_ 0)).length) ai)),(13,.v (.int .i32 (((lst (T.at_ 0)).length:Nat):Int))),(14,.v (.int .i32 (IntKind.i32.wrap (((ag:Nat):Int) + 1))))] dx fun _ dy=>?_
    clear dx
    refine qab ?_
    have fx:=(dy.envEq (env':=[(2,.v (.bool false)),(7,.p 0 0),(8,.v (.int .i16 v)),(9,.v (.bool (decide (v ≥ 0)))),(10,.p 1 0),(12,.v (.slice (some ⟨af,0,none⟩) ((lst (T.at_ 0)).length) ai)),(13,.v (.int .i32 (((lst (T.at_ 0)).length:Nat):Int))),(14,.v (.int .i32 ((ag + 1:Nat):Int)))]) (by rw [qf6 (by have:=e26_0; omega)])).pk (env':=[(2,.v (.bool false)),(7,.p 0 0),(8,.v (.int .i16 v)),(9,.v (.bool (decide (v ≥ 0)))),(10,.p 1 0),(12,.v (.slice (some ⟨af,0,none⟩) ((lst (T.at_ 0)).length) ai)),(13,.v (.int .i32 (((lst (T.at_ 0)).length:Nat):Int))),(14,.v (.int .i32 ((ag + 1:Nat):Int)))])
    clear dy
    exact (RS.thing (tb:=[⟨bv,0,[.int .i16 v,.slice none 0 0,.map none],true⟩]) (z:=.agg #[.string ByteArray.empty,.slice none 0 0,.map none]) (D:=(dvP bp aJ [dvS (bs (aa.at_ 0).S),aj])) (fx.cast eC) hg_g53 dS qaS bu rfl (fun w F h_=>⟨(ey _ _ (aQ _ _ (av _ _ h_).1).1).1,(ey _ _ (aQ _ _ (av _ _ h_).1).1).2,⟨(by show ByteArray.size (bs _) ≤ 1000000; rw [qjb]; exact Nat.le_trans e72_0 (by decide)),((aQ _ _ (av _ _ h_).1).2.1),(av _ _ h_).2.1.1,(av _ _ h_).2.1.2.1,(av _ _ h_).2.1.2.2,trivial⟩,⟨(rfl),((aQ _ _ (av _ _ h_).1).2.2),(av _ _ h_).2.2,trivial⟩⟩) kz)
   refine wp_seq ?_
   refine wp_seq ?_
   refine qbD [(2,.v (.bool false)),(7,.p 0 0),(8,.v (.int .i16 v)),(9,.v (.bool (decide (v ≥ 0)))),(10,.p 1 0),(12,.v (.slice (some ⟨af,0,none⟩) ((lst (T.at_ 0)).length) ai)),(13,.v (.int .i32 (((lst (T.at_ 0)).length:Nat):Int))),(14,.v (.int .i32 (((lst (T.at_ 0)).length:Nat):Int))),(63,.v (.bool (decide ((((lst (T.at_ 0)).length:Nat):Int) < (((lst (T.at_ 0)).length:Nat):Int)))))] ew fun _ dz=>qab ?_
   clear ew
   refine qao dz.env_ (b:=decide ((((lst (T.at_ 0)).length:Nat):Int) < (((lst (T.at_ 0)).length:Nat):Int))) kz (decide_eq_false (by omega)) ?_
   refine wp_exit ?_
   refine qaw ?_
   refine qaw ?_
   refine qaL ?_
   refine qab ?_
   obtain ⟨fR,fy⟩:=RS.listEnd (tb:=[⟨bv,0,[.int .i16 v,.slice none 0 0,.map none],true⟩]) (c:=ai) (dz.pk (env':=[(7,.p 0 0),(9,.v (.bool (decide (v ≥ 0)))),(10,.p 1 0),(12,.v (.slice (some ⟨af,0,none⟩) ((lst (T.at_ 0)).length) ai))])) hg_g53 qaS bu hcap_g53 (by have:=e26_0; omega) hn_g53 kz
   exact ⟨dvL (some ⟨af,0,none⟩) (lst (T.at_ 0)).length ai fR,_,fun w F h_=>⟨h_.1,⟨h_.2.1,Nat.le_trans e26_0 (by decide),h_.2.2.1⟩,⟨rfl,h_.2.2.2⟩⟩,fy⟩
  refine wp_skip ?_
  refine qab ?_
  refine wp_seq ?_
  refine qbD [(2,.v (.bool false)),(7,.p 0 0),(8,.v (.int .i16 v)),(9,.v (.bool (decide (v ≥ 0)))),(10,.p 1 0),(12,.v (.slice none 0 0)),(13,.v (.int .i32 (((lst (T.at_ 0)).length:Nat):Int))),(14,.v (.int .i32 0))] aR fun _ dA=>?_
  clear aR
  refine qab ?_
  refine wp_block ?_
  refine qeT ?_
  refine wp_seq ?_
  refine wp_seq ?_
  refine qbD [(2,.v (.bool false)),(7,.p 0 0),(8,.v (.int .i16 v)),(9,.v (.bool (decide (v ≥ 0)))),(10,.p 1 0),(12,.v (.slice none 0 0)),(13,.v (.int .i32 (((lst (T.at_ 0)).length:Nat):Int))),(14,.v (.int .i32 0)),(63,.v (.bool (decide (0 < (((lst (T.at_ 0)).length:Nat):Int)))))] dA fun _ dB=>qab ?_
  clear dA
  refine qao dB.env_ (b:=decide (0 < (((lst (T.at_ 0)).length:Nat):Int))) kz (decide_eq_false (by have h_:=of_decide_eq_false bk; omega)) ?_
  refine wp_exit ?_
  refine qaw ?_
  refine qaw ?_
  refine qaL ?_
  refine qab ?_
  have hz_:(lst (T.at_ 0)).length = 0:=by have h_:=of_decide_eq_false bk; omega
  exact ⟨dvL none 0 0 (fun _=>dv0),_,fun w F h_=>⟨h_,⟨Slots.nil _ _ _ _,Nat.zero_le _,fun _ h=>absurd h (Nat.not_lt_zero _)⟩,⟨hz_.symm,fun _ h=>absurd h (Nat.not_lt_zero _)⟩⟩,(dB.cast (t:=bt) (by rw [List.eq_nil_of_length_eq_zero hz_]; rfl)).pk (env':=[(7,.p 0 0),(9,.v (.bool (decide (v ≥ 0)))),(10,.p 1 0),(12,.v (.slice none 0 0))])⟩
 rintro _ _ ⟨ap,gd,fz,fA⟩
 refine wp_seq ?_
 refine qbD [(7,.p 0 0),(9,.v (.bool (decide (v ≥ 0)))),(10,.p 1 0),(11,.v (.slice ap.A ap.l ap.c))] fA fun _ dC=>?_
 clear fA
 refine qab ?_
 refine qgN [⟨bv,0,[.int .i16 v,.slice ap.A ap.l ap.c,.map none],true⟩] 0 [(7,.p 0 0),(9,.v (.bool (decide (v ≥ 0)))),(10,.p 1 0)] dC fun _ _ dD=>?_
 clear dC
 refine qab ?_
 refine wp_seq ?_
 have dE:=dD.cast d6
 clear dD
 refine qeU (Mid:=fun a_ w_=>∃ (bq:Option Nat) (aK:List (Int × Bs)) (P':qcI),(∀ w F,P' w F → gd w F ∧ (MapR w F bq aK ∧ aK.length ≤ 1000000 ∧ ∀ x ∈ aK,x.2.length < 4294967296) ∧ ((decide (v ≥ 0)) = true → aK = T.U) ∧ ((decide (v ≥ 0)) = false → aK = [])) ∧ RS w (fun b o=>b = bv ∧ o < 3) F 189 bj [⟨bv,0,[.int .i16 v,.slice ap.A ap.l ap.c,.map bq],true⟩] [(7,.p 0 0)] P' ([]:Bs) a_ w_) ?_ ?_
 ·
  refine wp_seq ?_
  refine qbD [(7,.p 0 0),(10,.p 1 0),(183,.v (.bool (decide (v ≥ 0))))] dE fun _ aF=>qab ?_
  clear dE
  refine qav aF.env_ (b:=decide (v ≥ 0)) kz (fun aG=>?_) (fun aG=>?_)
  ·
   have dF:=aF.cast (t:=((uv T.U.length) ++ (qcE T.U)) ++ ([]:Bs)) (by rw [if_pos aG])
   clear aF
   refine qaq [0,1,2,3,4] kz ?_
   refine qcF [0] [1,2,3,4] [(7,.p 0 0),(184,.p 1 0)] dF fun _ dG=>?_
   clear dF
   refine qal (qhd (d:=185) dG (qk2 T.U e26_U (qeQ e26r) _) (fun _=>MvF.tags _ _) Tryz.call101 fun dZ ge _ _ dH dI=>?_)
   clear dG
   refine qcF [2,3] [4] [(7,.p 0 0),(185,.v (.agg #[.map dZ])),(187,.p 1 2)] dI fun _ dJ=>?_
   clear dI
   refine qal (qeR [⟨bv,0,[.int .i16 v,.slice ap.A ap.l ap.c,.map dZ],true⟩] 0 dJ fun _ dK=>?_)
   clear dJ
   refine qae ?_
   have fB:=dK.pk (env':=[(7,.p 0 0)])
   clear dK
   refine qab ?_
   exact ⟨dZ,T.U,_,fun w F h_=>⟨(dH _ _ h_).1,⟨(dH _ _ h_).2,e26_U.2.1,e26_U.2.2⟩,⟨fun _=>rfl,(fun e_=>by rw [aG] at e_; cases e_)⟩⟩,fB.pk (env':=[(7,.p 0 0)])⟩
  have dL:=aF.cast (t:=[] ++ ([]:Bs)) (by rw [if_neg (by rw [aG]; decide)])
  clear aF
  have fC:=dL.cast (t:=([]:Bs)) rfl
  clear dL
  refine wp_skip (qab ?_)
  exact ⟨none,[],_,fun w F h_=>⟨h_,⟨MapR.nil _ _,Nat.zero_le _,fun _ h=>by cases h⟩,⟨(fun e_=>by rw [aG] at e_; cases e_),fun _=>rfl⟩⟩,fC.pk (env':=[(7,.p 0 0)])⟩
 rintro _ _ ⟨bq,aK,gg,aw,dM⟩
 refine qab ?_
 refine wp_seq ?_
 refine qaq [0,1] kz (qal (qhe (d:=188) dM qjp Tryz.call96 fun _ dN=>?_))
 clear dM
 refine qcF [1] [] [(6,.v (.nilIface))] dN fun _ dO=>qae ?_
 clear dN
 refine qab ?_
 refine wp_ret ?_
 obtain ⟨A_,m_,c_,hW_,hr_,hE_,hP_⟩:=dO.open_
 refine qaK hE_ hW_.cells (v:=.nilIface) kz ?_
 have h_:=dO.mv.mono qcT hP_
 refine ⟨(dvP bq aK [ap]),rfl,Str.of hW_ 1 rfl,?_,?_,hW_.step⟩
 ·unfold qa3
  exact ⟨((fz _ _ (aw _ _ h_).1).2.1),(aw _ _ h_).2.1.1,(aw _ _ h_).2.1.2.1,(aw _ _ h_).2.1.2.2,trivial⟩
 unfold qa0
 exact ⟨((fz _ _ (aw _ _ h_).1).2.2),(aw _ _ h_).2.2,trivial⟩
theorem qbH:qf2 qa3:=by
 intro w w' F F' M d hs hM hF h
 unfold qa3 at h ⊢
 obtain ⟨⟨g0,g0l,g0e⟩,t1,t2,t3,_⟩:=h
 exact ⟨⟨g0.move hs hM hF,g0l,fun i hi=>qaS _ hs hM hF (g0e i hi)⟩,t1.move hs hM hF,t2,t3,trivial⟩
end Go.Proofs.YtfljkhecngpcmaaGreatDoor.ME
namespace Go.Proofs.YtfljkhecngpcmaaGreatDoor.ME
open Go
open Go.RowKit
open Go.ChangeMaps (setBlock)
set_option linter.unusedVariables false
set_option linter.unusedSimpArgs false
set_option maxRecDepth 20000
abbrev cloV (fc:Nat) (cap:Value):Value:=.func (.func fc) #[] #[cap]
theorem qlz {fc:Nat} {cap:Value} {m:Option Nat} {u:List (Int × Bs)} {b o:Nat} {w:World} {F M:Nat → Nat → Prop} (hcf:∀ args w,(callFunc fc args).run Tryz.prog w = .ok (.enter fc args) w) (I:World → Nat → World → Prop) (hat:AtF w F b o [.map m]) (hm:MapR w F m u) (hMF:∀ b o,F b o → ¬ M b o) (hMlt:∀ b o,M b o → b < w.heap.size)
  (hI0:∀ w7,Step w w7 Nil → I w7 0 w7) (hIs:∀ w7 j w8,I w7 j w8 → Step w7 w8 M)
  (hI1:∀ w7,Step w w7 Nil → ∀ j k x w8 Ax cx,I w7 j w8 → u[j]? = some (k,x) → (0 ≤ k ∧ k < 4294967296) → Octs w8 (fun b o=>F b o ∧ b < w7.heap.size) Ax cx x → Calls Tryz.prog fc [.int .u32 k,.slice Ax x.length cx,cap].toArray w8 (fun e w9=>e = .returned (.tuple #[]) ∧ I w7 (j + 1) w9)) (hul:u.length ≤ 1000000) :
  Calls Tryz.prog 64 [.pointer (some ⟨b,o,none⟩),cloV fc cap].toArray w (fun e w'=>e = .returned (.tuple #[]) ∧ ∃ w7,Step w w7 Nil ∧ I w7 u.length w'):=by
 refine enter (n:=53) Tryz.func64 rfl Tryz.ntmps64 kz fun a hE=>?_
 have hW:WOk w Nil w [⟨b,o,[.map m],false⟩] []:=(WOk.start w Nil).start1 hat rfl rfl
 refine wp_seq (wp_seq ?_)
 refine qaq [0,1,2,3,4,5] kz ?_
 refine qbJ [0,1,2,3] [4,5] [0,1,11] hW (EnvOk.ptr0 (cs:=[.map m]) (r:=false) hE) (env':=[(0,.p 0 0),(1,.v (cloV fc cap)),(11,.v (.map m))]) kz rfl fun a1 hE1=>?_
 refine qal (qgp (t:=81) (kt:=64) (et:=22) hE1 (m:=m) (d:=12) kz kz hm fun a2 hE2=>?_)
 refine qbJ [5] [] [0,1,13] hW hE2 (env':=[(0,.p 0 0),(1,.v (cloV fc cap)),(13,.v (.bool (((u.length:Nat):Int) == 0)))]) kz rfl fun a3 hE3=>qae (qab ?_)
 refine qav hE3 (b:=((u.length:Nat):Int) == 0) kz (fun hb=>?_) (fun hb=>?_)
 ·-- none
  have hu:u = []:=List.eq_nil_of_length_eq_zero (by have:=eq_of_beq hb; omega)
  subst hu
  refine wp_ret (qan ?_)
  exact qaK hE3 hW.cells (v:=.tuple #[]) kz ⟨rfl,w,Step.refl _ _,hI0 w (Step.refl _ _)⟩
 have hu0:0 < u.length:=by have:=ne_of_beq_false hb; omega
 cases m with
 | none=>rw [hm.none_ rfl] at hu0; cases hu0
 | some mb =>
 obtain ⟨hFm,es,clk,hes,hperm,hborn,hnod,hcont⟩:=hm.some_ mb rfl
 have hmlt:mb < w.heap.size:=(Array.getElem?_eq_some_iff.1 hes).1
 have hesz:es.size = u.length:=MapR.size (w:=w) (F:=F) hperm
 refine wp_skip (qab ?_)
 refine qad [0,1,2,3,4,5,6,7] kz ?_
 refine qbJ [0,1,2,3] [4,5,6,7] [0,1,17] hW hE3 (env':=[(0,.p 0 0),(1,.v (cloV fc cap)),(17,.v (.map (some mb)))]) kz rfl fun a4 hE4=>?_
 refine qal (qgp (t:=81) (kt:=64) (et:=22) hE4 (m:=some mb) (d:=18) kz kz hm fun a5 hE5=>?_)
 refine qal (qhX (e:=64) (size:=1) (bytes:=4) (j:=u.length) (t:=147) (d:=19) hW hE5 (p:=0) (q:=((u.length:Nat):Int)) kz kz rfl rfl (by omega) fun kr a6 w1 hkr hkr0 hF1 hW1 hE6=>?_)
 refine qal (qaU hW1 hE6 (d:=4) (cs:=[.slice none 0 0]) kz fun kb a7 w2 hkb hkb0 hF2 hW2 hE7=>?_)
 refine qal (qau hW2 hE7 (oi:=1) (cs:=[.slice (some ⟨kr,0,none⟩) 0 u.length]) kz fun w3 hF3 hW3 hE8=>qae (qab ?_))
 refine wp_seq (qad [0,1,2,3,4] kz ?_)
 refine qbJ [0,1,2,3] [4] [0,1,4,23] hW3 hE8 (env':=[(0,.p 0 0),(1,.v (cloV fc cap)),(4,.p 1 0),(23,.v (.map (some mb)))]) kz rfl fun a8 hE9=>?_
 have hes3:=hW3.step.heap (fun o h=>h) hes
 refine qal (qh0 (t:=81) (kt:=64) (et:=22) (d:=24) (r:=mb) hE9 kz kz hes3 fun a9 hE10=>qae (qab ?_))
 have hW4:=hW3.next_nil (Step.alloc w3 (.mapIter (some mb) clk #[] clk))
 have hr4:(w3.alloc (.mapIter (some mb) clk #[] clk)).heap[w3.heap.size]? = some (.mapIter (some mb) clk #[] clk):=qdb _ _
 have hE11:=hE10.pick (ks:=[0,1,4,24]) (env':=[(0,.p 0 0),(1,.v (cloV fc cap)),(4,.p 1 0),(24,.v (.pointer (some ⟨w3.heap.size,0,none⟩)))]) kz
 have hrlt:w3.heap.size < (w3.alloc (.mapIter (some mb) clk #[] clk)).heap.size:=by rw [qeq]; omega
 have hr0:w.heap.size ≤ w3.heap.size:=hW3.step.size
 have hkbr:kb ≠ w3.heap.size:=by have:=hW3.live 1 _ rfl; show ¬ _; intro e; rw [← e] at this; exact absurd this (Nat.lt_irrefl _)
 have hkrr:kr ≠ w3.heap.size:=by have:=qbU (hW3.own 0 _ rfl) (g:=kr) rfl; omega
 generalize hR:w3.heap.size = R at hr4 hE11 hrlt hkbr hkrr
 generalize hw4:w3.alloc (.mapIter (some mb) clk #[] clk) = w4 at hW4 hr4 hrlt
 refine wp_block ?_
 refine wp_loop_ghost (fun q a_ w_=>∃ (vis:List MapEntry) (seen:Array Nat) (K:Option Addr) (kc c0:Nat),q = (leftOf es seen).size ∧ Vis es.toList vis seen ∧ vis.length + (leftOf es seen).size ≤ es.size ∧
   EnvOk 53 [⟨b,o,[.map (some mb)],false⟩,⟨kb,0,[.slice K vis.length kc],true⟩] [(0,.p 0 0),(1,.v (cloV fc cap)),(4,.p 1 0),(24,.v (.pointer (some ⟨R,0,none⟩)))] a_ ∧
   WOk w Nil w_ [⟨b,o,[.map (some mb)],false⟩,⟨kb,0,[.slice K vis.length kc],true⟩] [⟨K,kc,64,1,vis.length,(vis.map fun e=>kOf e.key).map (Value.int .u32)⟩] ∧
   w_.heap[R]? = some (.mapIter (some mb) clk seen c0) ∧ clk ≤ c0 ∧ K.map (·.block) ≠ some R) (leftOf es #[]).size
  ⟨[],#[],some ⟨kr,0,none⟩,u.length,clk,rfl,Vis.nil _,by rw [List.length_nil,Nat.zero_add]; exact Array.size_filter_le,by rw [← hw4] at *; exact hE11,hW4,hr4,Nat.le_refl _,by simpa using hkrr⟩ ?_
 rintro q a10 w5 ⟨vis,seen,K,kc,c0,rfl,hv,hvl,hE12,hW5,hr5,hc0,hKR⟩
 have hes5:=hW5.step.heap (fun o h=>h) hes
 refine qad [0,1] kz ?_
 refine qal (qiL hE12 (d:=25) (r:=R) kz hr5 hes5 hborn hc0 (fun h0 a11 hE13=>?_) (fun e he w6 hw6 a11 hE13=>?_))
 ·-- behind it
  refine qbJ [1] [] [0,1,4,26] hW5 hE13 (env':=[(0,.p 0 0),(1,.v (cloV fc cap)),(4,.p 1 0),(26,.v (.bool false))]) kz rfl fun a12 hE14=>qae (qab (wp_seq ?_))
  refine qav hE14 (b:=false) kz (fun hb=>by cases hb) (fun _=>?_)
  refine wp_exit (qaw (qaw (qaL (qab ?_))))
  have hpe:=hv.all h0 hnod
  have hvu:vis.length = u.length:=by rw [hpe.length_eq,Array.length_toList,hesz]
  have hkp:(vis.map fun e=>kOf e.key).Perm (u.map Prod.fst):=by
   have h1:=(hpe.map fun e=>kOf e.key)
   have h2:=hperm.map kOf
   rw [List.map_map,List.map_map] at h2
   exact h1.trans h2
  have hkl:(vis.map fun e=>kOf e.key).length = vis.length:=by simp
  generalize (vis.map fun e=>kOf e.key) = ks at hkp hkl hW5
  have hown4:w5.ownsRow 0 64 1 (.slice K vis.length kc) vis.length (ks.map (Value.int .u32)):=hW5.own 0 _ rfl
  obtain ⟨g,rfl⟩:=qb0 hown4 (by omega)
  have hown5:w5.ownsRow 0 64 1 (.slice (some ⟨g,0,none⟩) vis.length kc) vis.length (ks.map (Value.int .u32)):=hown4
  have hg0:w.heap.size ≤ g:=by
   rcases hW5.ownM 0 _ rfl g rfl with h | h
   ·exact h
   exact (h 0).elim
  refine qad [0,1,2,3] kz ?_
  refine qbJ [0,1] [2,3] [0,1,4,34] hW5 hE14 (env':=[(0,.p 0 0),(1,.v (cloV fc cap)),(4,.p 1 0),(34,.v (.iface 147 (.slice (some ⟨g,0,none⟩) vis.length kc)))]) kz rfl fun a13 hE15=>?_
  refine qal (qeM hE15 (v:=.func (.func 105) #[] #[.pointer (some ⟨kb,0,none⟩)]) (d:=35) kz fun a14 hE16=>?_)
  have hS:=Tryz.sortKeys g kc kb ks.toArray (by simp; omega) (by simp; omega) w5 (by simp only [List.size_toArray,hkl]; exact hW5.cells 1 _ rfl 0 _ rfl) (fun e=>hW5.rtb 0 _ rfl g rfl 1 _ rfl e) (qgr hkl hown5) (qbU (hW5.own 0 _ rfl) (g:=g) rfl) (hW5.live 1 _ rfl)
  rw [List.size_toArray,hkl] at hS
  refine qal (qak hE16 (f:=104) (vs:=[.iface 147 (.slice (some ⟨g,0,none⟩) vis.length kc),.func (.func 105) #[] #[.pointer (some ⟨kb,0,none⟩)]]) (d:=36) kz Tryz.call104 hS ?_)
  rintro e_ w7 ⟨rfl,d',nd,os,hd1,hd2,hd3,rfl⟩
  refine ⟨_,rfl,fun a15 hE17=>qae (qab ?_)⟩
  have hus:d'.toList = u.map Prod.fst:=qiM hd2 (by rw [hd1]; exact hd3) hkp (List.pairwise_map.2 hm.sorted)
  obtain ⟨hst7,hown7⟩:=qjQ (n:=nd) (os:=os) hkl hown5 (by rw [hd1,hkl])
  rw [hus] at hown7
  generalize Sort.grow (Sort.putRow (Value.int .u32) (Sort.ahead w5 nd) g 0 d') os = w7 at hst7 hown7
  have hW7:WOk w Nil w7 [⟨b,o,[.map (some mb)],false⟩,⟨kb,0,[.slice (some ⟨g,0,none⟩) vis.length kc],true⟩] [⟨some ⟨g,0,none⟩,kc,64,1,vis.length,(u.map Prod.fst).map (Value.int .u32)⟩] :=
   hW5.grow (k:=0) (r':=⟨some ⟨g,0,none⟩,kc,64,1,vis.length,(u.map Prod.fst).map (Value.int .u32)⟩) rfl (hst7.mono fun b' _ _ hb'=>by rw [hb']; rfl) hown7 (fun g' h=>.inl h)
  refine qad [0,1,2] kz ?_
  refine qbJ [0,1,2] [] [0,1,37,38,39] hW7 hE17 (env':=[(0,.p 0 0),(1,.v (cloV fc cap)),(37,.v (.slice (some ⟨g,0,none⟩) vis.length kc)),(38,.v (.int .i64 ((vis.length:Nat):Int))),(39,.v (.int .i64 0))]) kz rfl fun a16 hE18=>qae (qab ?_)
  have hE19:=EnvOk.cutTb 1 hE18 kz
  have hat7:=hat.move hW7.step nilM qbb
  have hm7:=hm.move hW7.step nilM qbb
  have hg7:g < w7.heap.size:=qbU (hW7.own 0 _ rfl) (g:=g) rfl
  have hkeys:=qgr (by simpa using hvu.symm) hown7
  rw [hvu] at hE19
  refine wp_block ?_
  refine wp_loop_ghost (fun q a_ w_=>∃ (j:Nat),q = u.length - j ∧ j ≤ u.length ∧ EnvOk 53 [⟨b,o,[.map (some mb)],false⟩] [(0,.p 0 0),(1,.v (cloV fc cap)),(37,.v (.slice (some ⟨g,0,none⟩) u.length kc)),(38,.v (.int .i64 ((u.length:Nat):Int))),(39,.v (.int .i64 ((j:Nat):Int)))] a_ ∧
   I w7 j w_) u.length
   ⟨0,by omega,by omega,hE19,hI0 w7 hW7.step⟩ ?_
  rintro q a17 w8 ⟨j,rfl,hj,hE20,hD⟩
  have hS8:=hIs w7 j w8 hD
  have hat8:=hat7.move hS8 (fun b o hf _=>hMF b o hf) qbb
  have hm8:MapR w8 (fun b' o'=>F b' o' ∧ b' < w7.heap.size) (some mb) u:=hm7.move hS8 (fun b o hf _=>hMF b o hf) (fun b' o' hf hl=>⟨hf,hl⟩)
  have hW8:WOk w8 Nil w8 [⟨b,o,[.map (some mb)],false⟩] []:=(WOk.start w8 Nil).start1 hat8 rfl rfl
  refine qad [0] kz (qbJ [0] [] [0,1,37,38,39,40] hW8 hE20 (env':=[(0,.p 0 0),(1,.v (cloV fc cap)),(37,.v (.slice (some ⟨g,0,none⟩) u.length kc)),(38,.v (.int .i64 ((u.length:Nat):Int))),(39,.v (.int .i64 ((j:Nat):Int))),(40,.v (.bool (decide (((j:Nat):Int) < ((u.length:Nat):Int)))))]) kz rfl fun a18 hE21=>qae (qab (wp_seq ?_)))
  refine qav hE21 (b:=decide (((j:Nat):Int) < ((u.length:Nat):Int))) kz (fun hc=>?_) (fun hc=>?_)
  ·have hlt:j < u.length:=by have:=of_decide_eq_true hc; omega
   refine wp_skip (qab (wp_seq (wp_block ?_)))
   obtain ⟨⟨k,x⟩,hu⟩:∃ y,u[j]? = some y:=⟨_,List.getElem?_eq_getElem hlt⟩
   have hmem:=List.mem_of_getElem? hu
   have hkr:=hm.range _ hmem
   have hcell:At w8 g (0 + j * 1) [.int .u32 k]:=by
    intro i v hi
    have hi0:i = 0:=by
     have:=(List.getElem?_eq_some_iff.1 hi).1
     simp at this; omega
    subst hi0
    simp only [List.getElem?_cons_zero,Option.some.injEq] at hi
    subst hi
    refine hS8.cell (fun hbm=>?_) ?_
    ·have:=hMlt _ _ hbm; omega
    have h1:=(hkeys j (by simpa using hlt)).1
    have h2:(u.map Prod.fst).toArray[j]! = k:=by
     rw [getElem!_pos _ j (by simpa using hlt)]
     have:(u.map Prod.fst)[j]? = some k:=by rw [List.getElem?_map,hu]; rfl
     simpa using (List.getElem?_eq_some_iff.1 this).2
    rw [h2] at h1
    simpa using h1
   refine qad [0,1,2] kz ?_
   refine qal (qaA hE21 (t:=147) (e:=64) (size:=1) (bytes:=4) (d:=41) (b:=g) (o:=0) (m:=u.length) (j:=j) kz kz rfl rfl hlt fun a19 hE22=>?_)
   refine qal (qaR hE22 (t:=64) (d:=42) (cs:=[.int .u32 k]) (v:=.int .u32 k) kz kz hcell fun a20 hE23=>?_)
   refine qbJ [2] [] [0,1,37,38,39,7] hW8 hE23 (env':=[(0,.p 0 0),(1,.v (cloV fc cap)),(37,.v (.slice (some ⟨g,0,none⟩) u.length kc)),(38,.v (.int .i64 ((u.length:Nat):Int))),(39,.v (.int .i64 ((j:Nat):Int))),(7,.v (.int .u32 k))]) kz rfl fun a21 hE24=>qae (qab ?_)
   refine qaq [0,1,2,3,4,5,6,7,8] kz ?_
   refine qbJ [0,1,2,3,4,5,6] [7,8] [0,1,37,38,39,43,44,48,49] hW8 hE24 (env':=[(0,.p 0 0),(1,.v (cloV fc cap)),(37,.v (.slice (some ⟨g,0,none⟩) u.length kc)),(38,.v (.int .i64 ((u.length:Nat):Int))),(39,.v (.int .i64 ((j:Nat):Int))),(43,.v (cloV fc cap)),(44,.v (.int .u32 k)),(48,.v (.map (some mb))),(49,.v (.int .u32 k))]) kz rfl fun a22 hE25=>?_
   refine qal (qiJ hE25 (t:=81) (kt:=64) (et:=22) (m:=some mb) (k:=k) (s:=x) (d:=50) kz kz kz hm8 hmem fun a23 Ax cx hox hE26=>?_)
   refine qal (qak hE26 (f:=fc) (vs:=[.int .u32 k,.slice Ax x.length cx,cap]) (d:=51) kz hcf (hI1 w7 hW7.step j k x w8 Ax cx hD hu hkr hox) ?_)
   rintro e_ w9 ⟨rfl,hD2⟩
   refine ⟨_,rfl,fun a24 hE27=>qae (qar (qab ?_))⟩
   have hS9:=hIs w7 (j + 1) w9 hD2
   have hat9:=hat7.move hS9 (fun b o hf _=>hMF b o hf) qbb
   have hW9:WOk w9 Nil w9 [⟨b,o,[.map (some mb)],false⟩] []:=(WOk.start w9 Nil).start1 hat9 rfl rfl
   refine qaq [0,1] kz (qbJ [0,1] [] [0,1,37,38,39] hW9 hE27 (env':=[(0,.p 0 0),(1,.v (cloV fc cap)),(37,.v (.slice (some ⟨g,0,none⟩) u.length kc)),(38,.v (.int .i64 ((u.length:Nat):Int))),(39,.v (.int .i64 (IntKind.i64.wrap (((j:Nat):Int) + 1))))]) kz rfl fun a25 hE28=>qae (qab ?_))
   rw [qaP (by omega)] at hE28
   exact ⟨u.length - (j + 1),by omega,j + 1,rfl,by omega,hE28,hD2⟩
  obtain rfl:j = u.length:=by have:=of_decide_eq_false hc; omega
  refine wp_exit (qaw (qaw (qaL ?_)))
  exact qbN hE21 hW8.cells (v:=.tuple #[]) kz ⟨rfl,w7,hW7.step,hD⟩
 -- one more
 have hst6:Step w5 w6 Nil:=by
  rcases hw6 with rfl | rfl
  ·exact Step.refl _ _
  exact Step.drew _
 have hr6:w6.heap[R]? = some (.mapIter (some mb) clk seen c0):=hst6.heap (fun o h=>h) hr5
 have hW6:=hW5.next_nil hst6
 obtain ⟨hml,_⟩:=mem_left he
 obtain ⟨k,sx,Ax,cx,hk1,hk2,hk3,hk4⟩:=hcont e hml
 have hR6:R < w6.heap.size:=(Array.getElem?_eq_some_iff.1 hr6).1
 have hW7:WOk w Nil (setBlock w6 R (.mapIter (some mb) clk (seen.push e.born) clk)) [⟨b,o,[.map (some mb)],false⟩,⟨kb,0,[.slice K vis.length kc],true⟩] [⟨K,kc,64,1,vis.length,(vis.map fun e=>kOf e.key).map (Value.int .u32)⟩]:=by
  refine hW6.next (Step.setBlock w6 R _) (fun b' o' hb' hN=>by omega) (fun i ob hi j hj hN=>?_) (fun i q hi g' hg' o' hN=>?_)
  ·match i,hi with
   | 0,hi =>
    simp only [List.getElem?_cons_zero,Option.some.injEq] at hi; subst hi
    have:=World.lt_of_cell (hat 0 _ rfl).2
    simp only at hN; omega
   | 1,hi =>
    simp only [List.getElem?_cons_succ,List.getElem?_cons_zero,Option.some.injEq] at hi; subst hi
    exact hkbr hN
   | i + 2,hi=>simp at hi
  match i,hi with
  | 0,hi =>
   simp only [List.getElem?_cons_zero,Option.some.injEq] at hi; subst hi
   exact hKR (by rw [← hN]; exact hg')
  | i + 1,hi=>simp at hi
 have hr7:(setBlock w6 R (.mapIter (some mb) clk (seen.push e.born) clk)).heap[R]? = some (.mapIter (some mb) clk (seen.push e.born) clk):=qed hr6
 generalize hw7:setBlock w6 R (.mapIter (some mb) clk (seen.push e.born) clk) = w7 at hW7 hr7
 refine qbJ [1] [] [0,1,4,24,26] hW7 hE13 (env':=[(0,.p 0 0),(1,.v (cloV fc cap)),(4,.p 1 0),(24,.v (.pointer (some ⟨R,0,none⟩))),(26,.v (.bool true))]) kz rfl fun a12 hE14=>qae (qab (wp_seq ?_))
 refine qav hE14 (b:=true) kz (fun _=>?_) (fun hb=>by cases hb)
 refine wp_skip (qab (wp_block ?_))
 have hes7:=hW7.step.heap (fun o h=>h) hes
 refine qad [0,1,2] kz ?_
 refine qal (qh1 hE14 (d:=27) (r:=R) kz hr7 hes7 hml hnod fun a13 hE15=>?_)
 rw [hk1] at hE15
 refine qbJ [1,2] [] [0,1,4,24,5] hW7 hE15 (env':=[(0,.p 0 0),(1,.v (cloV fc cap)),(4,.p 1 0),(24,.v (.pointer (some ⟨R,0,none⟩))),(5,.v (.int .u32 k))]) kz rfl fun a14 hE16=>qae (qab ?_)
 refine qaq [0,1,2,3,4] kz ?_
 refine qbJ [0,1] [2,3,4] [0,1,4,24,29,30] hW7 hE16 (env':=[(0,.p 0 0),(1,.v (cloV fc cap)),(4,.p 1 0),(24,.v (.pointer (some ⟨R,0,none⟩))),(29,.v (.slice K vis.length kc)),(30,.v (.int .u32 k))]) kz rfl fun a15 hE17=>?_
 have hsh:=left_shrinks es seen e he
 refine qcC (t:=147) (e:=64) (size:=1) (bytes:=4) (len:=1) (cs:=[.int .u32 k]) (d1:=31) (d:=32) (k:=0) hW7 hE17 kz kz (fun _=>by kernel_rfl) rfl kz (by omega) fun K2 kc2 a16 w8 hF8 hW8 hE18=>?_
 obtain ⟨bl,hE18⟩:=hE18
 have hR7:R < w7.heap.size:=(Array.getElem?_eq_some_iff.1 hr7).1
 have hna:∀ {o'},¬ Act_ [⟨b,o,[.map (some mb)],false⟩,⟨kb,0,[.slice K vis.length kc],true⟩] [⟨K,kc,64,1,vis.length,(vis.map fun e=>kOf e.key).map (Value.int .u32)⟩] R o':=by
  rintro o' (⟨i,ob,hi,hrw,hb,_⟩ | ⟨i,q,hi,hq⟩)
  ·match i,hi with
   | 0,hi =>
    simp only [List.getElem?_cons_zero,Option.some.injEq] at hi; subst hi
    cases hrw
   | 1,hi =>
    simp only [List.getElem?_cons_succ,List.getElem?_cons_zero,Option.some.injEq] at hi; subst hi
    exact hkbr hb
   | i + 2,hi=>simp at hi
  match i,hi with
  | 0,hi =>
   simp only [List.getElem?_cons_zero,Option.some.injEq] at hi; subst hi
   exact hKR hq
  | i + 1,hi=>simp at hi
 have hK2:K2.map (·.block) ≠ some R:=fun hk=>by
  exact hF8.imm R 0 hR7 hna (.inr ⟨0,_,rfl,hk⟩)
 refine qal (qau hW8 hE18 (oi:=1) (cs:=[.slice K2 (vis.length + 1) kc2]) kz fun w9 hF9 hW9 hE19=>qae (qar (qab ?_)))
 have hr8:w9.heap[R]? = some (.mapIter (some mb) clk (seen.push e.born) clk) :=
  hF9.step.heap (fun o'=>hF8.imm R o' hR7 hna) (hF8.step.heap (fun o'=>hna) hr7)
 refine ⟨(leftOf es (seen.push e.born)).size,hsh,vis ++ [e],seen.push e.born,K2,kc2,clk,rfl,hv.push he,by rw [List.length_append,List.length_singleton]; omega,?_,?_,hr8,Nat.le_refl _,hK2⟩
 ·rw [List.length_append,List.length_singleton]
  exact hE19.pick (ks:=[0,1,4,24]) kz
 rw [List.length_append,List.length_singleton,List.map_append,List.map_append,List.map_cons,List.map_cons,hk1]
 exact hW9
end Go.Proofs.YtfljkhecngpcmaaGreatDoor.ME