/- The texts of a claim, put together: the engine, the contracts, the law. Own work. -/
import Derived.Test.YtcbpjflgkefidaaGreatDoorWt1P2
import Derived.Test.YtcbpjflgkefidaaGreatDoorProg
import Derived.Deep.LoopGhost
namespace Go.Proofs.YtcbpjflgkefidaaGreatDoor.ME
open Go
open Go.RowKit
set_option linter.unusedVariables false
set_option linter.unusedSimpArgs false
set_option maxRecDepth 20000
theorem ql0 {A:Option Addr} {c:Nat} (s:Bs) {w:World} {F:Nat → Nat → Prop} (ho:Octs w F A c s) (hl:2 ≤ s.length) :
  Calls Tryz.prog 189 #[.agg #[],.slice A s.length c] w (qbX w (.int .u16 (be16 s))):=by
 refine enter (n:=18) Tryz.func189 rfl Tryz.ntmps189 kz fun a hE=>?_
 have hW:=WOk.start w Nil
 have ob0:=qbR s 0
 have ob1:=qbR s 1
 refine qae [0,1] kz ?_
 refine qak (qa7 hW hE (d:=2) (cs:=[]) kz fun b1 a2 w3 hb4 hz5 hF6 hW7 hE8=>?_)
 refine qai [1] [] [(1,.v (.slice A s.length c))] hW7 hE8 fun a9 af=>?_
 refine qaf (qab ?_)
 refine qae [0,1,2] kz ?_
 refine qai [0] [1,2] [(1,.v (.slice A s.length c)),(5,.v (.slice A s.length c))] hW7 af fun aC ag=>?_
 obtain ⟨av,aw,ac,ax,ab⟩:=Slots.get ho (i:=1) (by omega)
 refine qak (qaC ag (t:=22) (A:=A) (m:=s.length) (q:=1) (d:=6) kz (e:=5) (size:=1) (bytes:=1) (j:=1) kz ac rfl (by omega) fun aD ah=>?_)
 refine qak (qaJ ah (t:=5) (b:=av) (o:=aw + 1 * 1) (d:=7) kz (cs:=[.int .u8 ((s.getD 1 0).toNat:Int)]) (v:=.int .u8 ((s.getD 1 0).toNat:Int)) kz (AtF.move ab hW7.step nilM qaY).at_ fun aE ai=>?_)
 refine qaf (qab ?_)
 refine qbN kz hW7 fun aF ay aa=>?_
 refine qaG [0,4] [(8,.v (.slice A s.length c)),(12,.v (.slice A s.length c))] 9 (qaa qag) (fun _ h=>h ▸ aa.cells) rfl ai fun aG aj=>?_
 refine qaN aj (i:=1) (t:=22) (A:=A) (m:=s.length) (q:=1) (d:=9) kz (e:=5) (size:=1) (bytes:=1) (j:=1) kz ac rfl (by omega) kz kz (qaa qag) rfl fun aH ak=>?_
 refine qaX ak (i:=2) (t:=5) (b:=av) (o:=aw + 1 * 1) (d:=10) kz (cs:=[.int .u8 ((s.getD 1 0).toNat:Int)]) (v:=.int .u8 ((s.getD 1 0).toNat:Int)) kz (fun w' h'=>h' ▸ (AtF.move ab aa.step nilM qaY).at_) kz kz (qaa qag) rfl fun aI al=>?_
 refine qaG [3] [(11,.v (.int .u16 (IntKind.u16.wrap ((s.getD 1 0).toNat:Int)))),(12,.v (.slice A s.length c))] 6 (qaa qag) (fun _ h=>h ▸ aa.cells) rfl al fun aJ am=>?_
 obtain ⟨az,aA,ao,aB,ae⟩:=Slots.get ho (i:=0) (by omega)
 refine qaN am (i:=5) (t:=22) (A:=A) (m:=s.length) (q:=0) (d:=13) kz (e:=5) (size:=1) (bytes:=1) (j:=0) kz ao rfl (by omega) kz kz (qaa qag) rfl fun aK ap=>?_
 refine qaX ap (i:=6) (t:=5) (b:=az) (o:=aA + 0 * 1) (d:=14) kz (cs:=[.int .u8 ((s.getD 0 0).toNat:Int)]) (v:=.int .u8 ((s.getD 0 0).toNat:Int)) kz (fun w' h'=>h' ▸ (AtF.move ae aa.step nilM qaY).at_) kz kz (qaa qag) rfl fun aL ar=>?_
 refine qaG [7,8,9,10] [(4,.v (.int .u16 (IntKind.u16.wrap (BitVec.ofInt 16 (IntKind.u16.wrap ((s.getD 1 0).toNat:Int)) ||| BitVec.ofInt 16 (IntKind.u16.wrap ((IntKind.u16.wrap ((s.getD 0 0).toNat:Int)) * 256))).toNat)))] 0 (qaa qag) (fun _ h=>h ▸ aa.cells) rfl ar fun aM au=>?_
 refine qaE kz ?_ _
 refine qab ?_
 refine wp_ret ?_
 refine qaF au aa.cells (v:=.int .u16 (IntKind.u16.wrap (BitVec.ofInt 16 (IntKind.u16.wrap ((s.getD 1 0).toNat:Int)) ||| BitVec.ofInt 16 (IntKind.u16.wrap ((IntKind.u16.wrap ((s.getD 0 0).toNat:Int)) * 256))).toNat)) kz ?_
 exact ⟨congrArg Ending.returned (congrArg (Value.int IntKind.u16) (qlx (oc s 0) (oc s 1) ob0 ob1)),aa.step⟩
theorem ql1 {A:Option Addr} {c:Nat} (s:Bs) {w:World} {F:Nat → Nat → Prop} (ho:Octs w F A c s) (hl:4 ≤ s.length) :
  Calls Tryz.prog 188 #[.agg #[],.slice A s.length c] w (qbX w (.int .u32 (be32 s))):=by
 refine enter (n:=30) Tryz.func188 rfl Tryz.ntmps188 kz fun a hE=>?_
 have hW:=WOk.start w Nil
 have ob0:=qbR s 0
 have ob1:=qbR s 1
 have ob2:=qbR s 2
 have ob3:=qbR s 3
 refine qae [0,1] kz ?_
 refine qak (qa7 hW hE (d:=2) (cs:=[]) kz fun b1 a2 w3 hb4 hz5 hF6 hW7 hE8=>?_)
 refine qai [1] [] [(1,.v (.slice A s.length c))] hW7 hE8 fun a9 ah=>?_
 refine qaf (qab ?_)
 refine qae [0,1,2] kz ?_
 refine qai [0] [1,2] [(1,.v (.slice A s.length c)),(5,.v (.slice A s.length c))] hW7 ah fun aS ai=>?_
 obtain ⟨aF,aG,ac,aH,ab⟩:=Slots.get ho (i:=3) (by omega)
 refine qak (qaC ai (t:=22) (A:=A) (m:=s.length) (q:=3) (d:=6) kz (e:=5) (size:=1) (bytes:=1) (j:=3) kz ac rfl (by omega) fun aT aj=>?_)
 refine qak (qaJ aj (t:=5) (b:=aF) (o:=aG + 3 * 1) (d:=7) kz (cs:=[.int .u8 ((s.getD 3 0).toNat:Int)]) (v:=.int .u8 ((s.getD 3 0).toNat:Int)) kz (AtF.move ab hW7.step nilM qaY).at_ fun aU ak=>?_)
 refine qaf (qab ?_)
 refine qbN kz hW7 fun aV aI aa=>?_
 refine qaG [0,4,10,16] [(8,.v (.slice A s.length c)),(12,.v (.slice A s.length c)),(18,.v (.slice A s.length c)),(24,.v (.slice A s.length c))] 19 (qaa qag) (fun _ h=>h ▸ aa.cells) rfl ak fun aW al=>?_
 refine qaN al (i:=1) (t:=22) (A:=A) (m:=s.length) (q:=3) (d:=9) kz (e:=5) (size:=1) (bytes:=1) (j:=3) kz ac rfl (by omega) kz kz (qaa qag) rfl fun aX am=>?_
 refine qaX am (i:=2) (t:=5) (b:=aF) (o:=aG + 3 * 1) (d:=10) kz (cs:=[.int .u8 ((s.getD 3 0).toNat:Int)]) (v:=.int .u8 ((s.getD 3 0).toNat:Int)) kz (fun w' h'=>h' ▸ (AtF.move ab aa.step nilM qaY).at_) kz kz (qaa qag) rfl fun aY ao=>?_
 refine qaG [3] [(11,.v (.int .u32 (IntKind.u32.wrap ((s.getD 3 0).toNat:Int)))),(12,.v (.slice A s.length c)),(18,.v (.slice A s.length c)),(24,.v (.slice A s.length c))] 16 (qaa qag) (fun _ h=>h ▸ aa.cells) rfl ao fun aZ ap=>?_
 obtain ⟨aJ,aK,ar,aL,ae⟩:=Slots.get ho (i:=2) (by omega)
 refine qaN ap (i:=5) (t:=22) (A:=A) (m:=s.length) (q:=2) (d:=13) kz (e:=5) (size:=1) (bytes:=1) (j:=2) kz ar rfl (by omega) kz kz (qaa qag) rfl fun ba au=>?_
 refine qaX au (i:=6) (t:=5) (b:=aJ) (o:=aK + 2 * 1) (d:=14) kz (cs:=[.int .u8 ((s.getD 2 0).toNat:Int)]) (v:=.int .u8 ((s.getD 2 0).toNat:Int)) kz (fun w' h'=>h' ▸ (AtF.move ae aa.step nilM qaY).at_) kz kz (qaa qag) rfl fun bd av=>?_
 refine qaG [7,8,9] [(17,.v (.int .u32 (IntKind.u32.wrap (BitVec.ofInt 32 (IntKind.u32.wrap ((s.getD 3 0).toNat:Int)) ||| BitVec.ofInt 32 (IntKind.u32.wrap ((IntKind.u32.wrap ((s.getD 2 0).toNat:Int)) * 256))).toNat))),(18,.v (.slice A s.length c)),(24,.v (.slice A s.length c))] 11 (qaa qag) (fun _ h=>h ▸ aa.cells) rfl av fun bf aw=>?_
 obtain ⟨aM,aN,ax,aO,af⟩:=Slots.get ho (i:=1) (by omega)
 refine qaN aw (i:=11) (t:=22) (A:=A) (m:=s.length) (q:=1) (d:=19) kz (e:=5) (size:=1) (bytes:=1) (j:=1) kz ax rfl (by omega) kz kz (qaa qag) rfl fun bg ay=>?_
 refine qaX ay (i:=12) (t:=5) (b:=aM) (o:=aN + 1 * 1) (d:=20) kz (cs:=[.int .u8 ((s.getD 1 0).toNat:Int)]) (v:=.int .u8 ((s.getD 1 0).toNat:Int)) kz (fun w' h'=>h' ▸ (AtF.move af aa.step nilM qaY).at_) kz kz (qaa qag) rfl fun bh az=>?_
 refine qaG [13,14,15] [(23,.v (.int .u32 (IntKind.u32.wrap (BitVec.ofInt 32 (IntKind.u32.wrap (BitVec.ofInt 32 (IntKind.u32.wrap ((s.getD 3 0).toNat:Int)) ||| BitVec.ofInt 32 (IntKind.u32.wrap ((IntKind.u32.wrap ((s.getD 2 0).toNat:Int)) * 256))).toNat) ||| BitVec.ofInt 32 (IntKind.u32.wrap ((IntKind.u32.wrap ((s.getD 1 0).toNat:Int)) * 65536))).toNat))),(24,.v (.slice A s.length c))] 6 (qaa qag) (fun _ h=>h ▸ aa.cells) rfl az fun bi aA=>?_
 obtain ⟨aP,aQ,aB,aR,ag⟩:=Slots.get ho (i:=0) (by omega)
 refine qaN aA (i:=17) (t:=22) (A:=A) (m:=s.length) (q:=0) (d:=25) kz (e:=5) (size:=1) (bytes:=1) (j:=0) kz aB rfl (by omega) kz kz (qaa qag) rfl fun bj aC=>?_
 refine qaX aC (i:=18) (t:=5) (b:=aP) (o:=aQ + 0 * 1) (d:=26) kz (cs:=[.int .u8 ((s.getD 0 0).toNat:Int)]) (v:=.int .u8 ((s.getD 0 0).toNat:Int)) kz (fun w' h'=>h' ▸ (AtF.move ag aa.step nilM qaY).at_) kz kz (qaa qag) rfl fun bk aD=>?_
 refine qaG [19,20,21,22] [(4,.v (.int .u32 (IntKind.u32.wrap (BitVec.ofInt 32 (IntKind.u32.wrap (BitVec.ofInt 32 (IntKind.u32.wrap (BitVec.ofInt 32 (IntKind.u32.wrap ((s.getD 3 0).toNat:Int)) ||| BitVec.ofInt 32 (IntKind.u32.wrap ((IntKind.u32.wrap ((s.getD 2 0).toNat:Int)) * 256))).toNat) ||| BitVec.ofInt 32 (IntKind.u32.wrap ((IntKind.u32.wrap ((s.getD 1 0).toNat:Int)) * 65536))).toNat) ||| BitVec.ofInt 32 (IntKind.u32.wrap ((IntKind.u32.wrap ((s.getD 0 0).toNat:Int)) * 16777216))).toNat)))] 0 (qaa qag) (fun _ h=>h ▸ aa.cells) rfl aD fun bn aE=>?_
 refine qaE kz ?_ _
 refine qab ?_
 refine wp_ret ?_
 refine qaF aE aa.cells (v:=.int .u32 (IntKind.u32.wrap (BitVec.ofInt 32 (IntKind.u32.wrap (BitVec.ofInt 32 (IntKind.u32.wrap (BitVec.ofInt 32 (IntKind.u32.wrap ((s.getD 3 0).toNat:Int)) ||| BitVec.ofInt 32 (IntKind.u32.wrap ((IntKind.u32.wrap ((s.getD 2 0).toNat:Int)) * 256))).toNat) ||| BitVec.ofInt 32 (IntKind.u32.wrap ((IntKind.u32.wrap ((s.getD 1 0).toNat:Int)) * 65536))).toNat) ||| BitVec.ofInt 32 (IntKind.u32.wrap ((IntKind.u32.wrap ((s.getD 0 0).toNat:Int)) * 16777216))).toNat)) kz ?_
 exact ⟨congrArg Ending.returned (congrArg (Value.int IntKind.u32) (qly (oc s 0) (oc s 1) (oc s 2) (oc s 3) ob0 ob1 ob2 ob3)),aa.step⟩
theorem qjj (x:Int) (rest:Bs)  {br:Nat} {A:Option Addr} {m c:Nat} {w:World} {F:Nat → Nat → Prop} (hst:Str w br [.slice A m c,.bool false]) (hr:RdS w F A m c (be 2 x ++ rest)) (hFd:∀ b o,F b o → ¬ RdM br b o) :
  Calls Tryz.prog 141 #[.pointer (some ⟨br,0,none⟩)] w (RdPost w br F rest fun v w'=>v = .int .i16 (IntKind.i16.wrap x)):=by
 obtain ⟨hm,ho⟩:=hr
 subst hm
 have hle:=ho.le
 refine enter (n:=32) Tryz.func141 rfl Tryz.ntmps141 kz fun a hE=>?_
 have hW:WOk w (RdM br) w [⟨br,0,[.slice A ((be 2 x ++ rest).length) c,.bool false],true⟩] []:=WOk.startStr hst
 have hE1:=(hE.grow ⟨br,0,[.slice A ((be 2 x ++ rest).length) c,.bool false],true⟩).recast 0 (.v (.pointer (some ⟨br,0,none⟩))) (.p 0 0) rfl rfl (Nat.le_of_ble_eq_true (n:=1) rfl)
 refine qan [(0,.p 0 0)] hW hE1 fun a1 hE2=>?_
 refine wp_seq ?_
 refine qan [(0,.p 0 0),(9,.v (.bool (decide ((((be 2 x ++ rest).length:Nat):Int) < 2))))] hW hE2 fun a3 hE4=>?_
 refine qao hE4 (b:=decide ((((be 2 x ++ rest).length:Nat):Int) < 2)) kz (decide_eq_false (by first | omega | (simp only [List.length_append,be_length,List.length_cons,List.length_nil] at *; omega))) ?_
 refine wp_skip ?_
 refine qab ?_
 refine qaI 7 kz hW fun w5 hF6 hW7 hT8=>?_
 refine qaG [1,2,3,4] [(0,.p 0 0),(20,.v (.slice A ((be 2 x ++ rest).length) c))] 4 (qaa qag) (fun _ h=>h.cells) hT8 hE4 fun a9 af=>?_
 refine qaX af (i:=0) (t:=211) (b:=0) (o:=0) (d:=16) kz (cs:=[]) (v:=.agg #[]) kz (fun w' h'=>(fun j_ v_ h_=>by simp at h_)) kz kz (qaa qag) hT8 fun av ag=>?_
 refine qaA (i:=5) kz (qaj ag (f:=189) (vs:=[.agg #[],.slice A ((be 2 x ++ rest).length) c]) (d:=21) kz Tryz.call189 (ql0 _ (ho.move hW7.step (fun b_ o_ h_ _=>hFd b_ o_ h_) (hW7.immM hFd)) (by first | omega | (simp only [List.length_append,be_length,List.length_cons,List.length_nil] at *; omega))) ?_)
 rintro e_ aw ⟨rfl,ac⟩
 refine ⟨_,rfl,fun ax ah=>?_⟩
 have aa:=hW7.next_nil ac
 have ai:=hW7.frN ac
 have ae:=TT.ofW ai aa
 refine ⟨fun _=>ae,?_⟩
 refine qaG [6] [(0,.p 0 0),(22,.v (.int .i16 (IntKind.i16.wrap (be16 (be 2 x ++ rest)))))] 1 (qaa qag) (fun _ h=>h.cells) ae ah fun ay aj=>?_
 refine qaA (i:=7) kz (qa9 [0,3] aa.cells aj (env':=[(0,.p 0 0),(3,.v (.int .i16 (IntKind.i16.wrap (be16 (be 2 x ++ rest)))))]) kz fun az ak=>?_)
 refine ⟨fun h=>absurd rfl h,?_⟩
 refine qaE kz ?_ _
 refine qab ?_
 refine qae [0,1,2,3,4,5,6,7,8] kz ?_
 refine qai [0,1,2,3,4] [5,6,7,8] [(3,.v (.int .i16 (IntKind.i16.wrap (be16 (be 2 x ++ rest))))),(23,.p 0 0),(27,.v (.slice A ((be 2 x ++ rest).length) c))] aa ak fun aA al=>?_
 refine qak (qcs al (t:=22) (A:=A) (m:=((be 2 x ++ rest).length)) (cp:=c) (q:=2) (d:=28) (j:=2) kz (e:=5) (bytes:=1) kz (rfl) (by first | omega | (simp only [List.length_append,be_length,List.length_cons,List.length_nil] at *; omega)) fun aB am=>?_)
 refine qai [6,7] [8] [(3,.v (.int .i16 (IntKind.i16.wrap (be16 (be 2 x ++ rest))))),(28,.v (.slice (cutA A c 2) (((be 2 x ++ rest).length) - 2) (c - 2))),(30,.p 0 0)] aa am fun aC ao=>?_
 refine qak (qav aa ao (oi:=0) (cs:=[.slice (cutA A c 2) (((be 2 x ++ rest).length) - 2) (c - 2),.bool false]) kz fun aD au ab ap=>?_)
 refine qaf (qab ?_)
 refine qan [(2,.v (.int .i16 (IntKind.i16.wrap (be16 (be 2 x ++ rest)))))] ab ap fun aE ar=>?_
 refine wp_ret ?_
 refine qaF ar ab.cells (v:=.int .i16 (IntKind.i16.wrap (be16 (be 2 x ++ rest)))) kz ?_
 exact ⟨_,_,_,_,rfl,Str.of ab 0 rfl,RdS.drop (s:=be 2 x) ⟨rfl,ho.move ab.step (fun b_ o_ h_ _=>hFd b_ o_ h_) qaY⟩ (by simp only [be_length,List.length_cons,List.length_nil]),ab.step,by rw [qkU,qkW]⟩
theorem qlB (x:Int) (rest:Bs)  {br:Nat} {A:Option Addr} {m c:Nat} {w:World} {F:Nat → Nat → Prop} (hst:Str w br [.slice A m c,.bool false]) (hr:RdS w F A m c (be 4 x ++ rest)) (hFd:∀ b o,F b o → ¬ RdM br b o) :
  Calls Tryz.prog 139 #[.pointer (some ⟨br,0,none⟩)] w (RdPost w br F rest fun v w'=>v = .int .i32 (IntKind.i32.wrap x)):=by
 obtain ⟨hm,ho⟩:=hr
 subst hm
 have hle:=ho.le
 refine enter (n:=32) Tryz.func139 rfl Tryz.ntmps139 kz fun a hE=>?_
 have hW:WOk w (RdM br) w [⟨br,0,[.slice A ((be 4 x ++ rest).length) c,.bool false],true⟩] []:=WOk.startStr hst
 have hE1:=(hE.grow ⟨br,0,[.slice A ((be 4 x ++ rest).length) c,.bool false],true⟩).recast 0 (.v (.pointer (some ⟨br,0,none⟩))) (.p 0 0) rfl rfl (Nat.le_of_ble_eq_true (n:=1) rfl)
 refine qan [(0,.p 0 0)] hW hE1 fun a1 hE2=>?_
 refine wp_seq ?_
 refine qan [(0,.p 0 0),(9,.v (.bool (decide ((((be 4 x ++ rest).length:Nat):Int) < 4))))] hW hE2 fun a3 hE4=>?_
 refine qao hE4 (b:=decide ((((be 4 x ++ rest).length:Nat):Int) < 4)) kz (decide_eq_false (by first | omega | (simp only [List.length_append,be_length,List.length_cons,List.length_nil] at *; omega))) ?_
 refine wp_skip ?_
 refine qab ?_
 refine qaI 7 kz hW fun w5 hF6 hW7 hT8=>?_
 refine qaG [1,2,3,4] [(0,.p 0 0),(20,.v (.slice A ((be 4 x ++ rest).length) c))] 4 (qaa qag) (fun _ h=>h.cells) hT8 hE4 fun a9 af=>?_
 refine qaX af (i:=0) (t:=211) (b:=0) (o:=0) (d:=16) kz (cs:=[]) (v:=.agg #[]) kz (fun w' h'=>(fun j_ v_ h_=>by simp at h_)) kz kz (qaa qag) hT8 fun av ag=>?_
 refine qaA (i:=5) kz (qaj ag (f:=188) (vs:=[.agg #[],.slice A ((be 4 x ++ rest).length) c]) (d:=21) kz Tryz.call188 (ql1 _ (ho.move hW7.step (fun b_ o_ h_ _=>hFd b_ o_ h_) (hW7.immM hFd)) (by first | omega | (simp only [List.length_append,be_length,List.length_cons,List.length_nil] at *; omega))) ?_)
 rintro e_ aw ⟨rfl,ac⟩
 refine ⟨_,rfl,fun ax ah=>?_⟩
 have aa:=hW7.next_nil ac
 have ai:=hW7.frN ac
 have ae:=TT.ofW ai aa
 refine ⟨fun _=>ae,?_⟩
 refine qaG [6] [(0,.p 0 0),(22,.v (.int .i32 (IntKind.i32.wrap (be32 (be 4 x ++ rest)))))] 1 (qaa qag) (fun _ h=>h.cells) ae ah fun ay aj=>?_
 refine qaA (i:=7) kz (qa9 [0,3] aa.cells aj (env':=[(0,.p 0 0),(3,.v (.int .i32 (IntKind.i32.wrap (be32 (be 4 x ++ rest)))))]) kz fun az ak=>?_)
 refine ⟨fun h=>absurd rfl h,?_⟩
 refine qaE kz ?_ _
 refine qab ?_
 refine qae [0,1,2,3,4,5,6,7,8] kz ?_
 refine qai [0,1,2,3,4] [5,6,7,8] [(3,.v (.int .i32 (IntKind.i32.wrap (be32 (be 4 x ++ rest))))),(23,.p 0 0),(27,.v (.slice A ((be 4 x ++ rest).length) c))] aa ak fun aA al=>?_
 refine qak (qcs al (t:=22) (A:=A) (m:=((be 4 x ++ rest).length)) (cp:=c) (q:=4) (d:=28) (j:=4) kz (e:=5) (bytes:=1) kz (rfl) (by first | omega | (simp only [List.length_append,be_length,List.length_cons,List.length_nil] at *; omega)) fun aB am=>?_)
 refine qai [6,7] [8] [(3,.v (.int .i32 (IntKind.i32.wrap (be32 (be 4 x ++ rest))))),(28,.v (.slice (cutA A c 4) (((be 4 x ++ rest).length) - 4) (c - 4))),(30,.p 0 0)] aa am fun aC ao=>?_
 refine qak (qav aa ao (oi:=0) (cs:=[.slice (cutA A c 4) (((be 4 x ++ rest).length) - 4) (c - 4),.bool false]) kz fun aD au ab ap=>?_)
 refine qaf (qab ?_)
 refine qan [(2,.v (.int .i32 (IntKind.i32.wrap (be32 (be 4 x ++ rest)))))] ab ap fun aE ar=>?_
 refine wp_ret ?_
 refine qaF ar ab.cells (v:=.int .i32 (IntKind.i32.wrap (be32 (be 4 x ++ rest)))) kz ?_
 exact ⟨_,_,_,_,rfl,Str.of ab 0 rfl,RdS.drop (s:=be 4 x) ⟨rfl,ho.move ab.step (fun b_ o_ h_ _=>hFd b_ o_ h_) qaY⟩ (by simp only [be_length,List.length_cons,List.length_nil]),ab.step,by rw [qkV,qkX]⟩
theorem ql2 (y:Bool) (rest:Bs)  {br:Nat} {A:Option Addr} {m c:Nat} {w:World} {F:Nat → Nat → Prop} (hst:Str w br [.slice A m c,.bool false]) (hr:RdS w F A m c ([by8 (if y then 1 else 0)] ++ rest)) (hFd:∀ b o,F b o → ¬ RdM br b o) :
  Calls Tryz.prog 140 #[.pointer (some ⟨br,0,none⟩)] w (RdPost w br F rest fun v w'=>v = .bool y):=by
 obtain ⟨hm,ho⟩:=hr
 subst hm
 have hle:=ho.le
 refine enter (n:=32) Tryz.func140 rfl Tryz.ntmps140 kz fun a hE=>?_
 have hW:WOk w (RdM br) w [⟨br,0,[.slice A (([by8 (if y then 1 else 0)] ++ rest).length) c,.bool false],true⟩] []:=WOk.startStr hst
 have hE1:=(hE.grow ⟨br,0,[.slice A (([by8 (if y then 1 else 0)] ++ rest).length) c,.bool false],true⟩).recast 0 (.v (.pointer (some ⟨br,0,none⟩))) (.p 0 0) rfl rfl (Nat.le_of_ble_eq_true (n:=1) rfl)
 refine qan [(0,.p 0 0)] hW hE1 fun a1 hE2=>?_
 refine wp_seq ?_
 refine qan [(0,.p 0 0),(9,.v (.bool (decide (((([by8 (if y then 1 else 0)] ++ rest).length:Nat):Int) < 1))))] hW hE2 fun a3 hE4=>?_
 refine qao hE4 (b:=decide (((([by8 (if y then 1 else 0)] ++ rest).length:Nat):Int) < 1)) kz (decide_eq_false (by first | omega | (simp only [List.length_append,be_length,List.length_cons,List.length_nil] at *; omega))) ?_
 refine wp_skip ?_
 refine qab ?_
 refine qae [0,1,2,3,4,5,6,7] kz ?_
 refine qai [0,1,2,3] [4,5,6,7] [(0,.p 0 0),(19,.v (.slice A (([by8 (if y then 1 else 0)] ++ rest).length) c))] hW hE4 fun a5 hE6=>?_
 obtain ⟨b7,o8,hA9,al,ab⟩:=Slots.get ho (i:=0) (by first | omega | (simp only [List.length_append,be_length,List.length_cons,List.length_nil] at *; omega))
 refine qak (qaC hE6 (t:=22) (A:=A) (m:=(([by8 (if y then 1 else 0)] ++ rest).length)) (q:=0) (d:=20) kz (e:=5) (size:=1) (bytes:=1) (j:=0) kz hA9 rfl (by first | omega | (simp only [List.length_append,be_length,List.length_cons,List.length_nil] at *; omega)) fun ao ac=>?_)
 refine qak (qaJ ac (t:=5) (b:=b7) (o:=o8 + 0 * 1) (d:=21) kz (cs:=[.int .u8 ((([by8 (if y then 1 else 0)] ++ rest).getD 0 0).toNat:Int)]) (v:=.int .u8 ((([by8 (if y then 1 else 0)] ++ rest).getD 0 0).toNat:Int)) kz (AtF.move ab hW.step (fun b_ o_ h_ _=>hFd b_ o_ h_) qaY).at_ fun ap ae=>?_)
 refine qai [6,7] [] [(0,.p 0 0),(3,.v (.bool (((([by8 (if y then 1 else 0)] ++ rest).getD 0 0).toNat:Int) != 0)))] hW ae fun ar af=>?_
 refine qaf (qab ?_)
 refine qae [0,1,2,3,4,5,6,7,8] kz ?_
 refine qai [0,1,2,3,4] [5,6,7,8] [(3,.v (.bool (((([by8 (if y then 1 else 0)] ++ rest).getD 0 0).toNat:Int) != 0))),(23,.p 0 0),(27,.v (.slice A (([by8 (if y then 1 else 0)] ++ rest).length) c))] hW af fun au ag=>?_
 refine qak (qcs ag (t:=22) (A:=A) (m:=(([by8 (if y then 1 else 0)] ++ rest).length)) (cp:=c) (q:=1) (d:=28) (j:=1) kz (e:=5) (bytes:=1) kz (rfl) (by first | omega | (simp only [List.length_append,be_length,List.length_cons,List.length_nil] at *; omega)) fun av ah=>?_)
 refine qai [6,7] [8] [(3,.v (.bool (((([by8 (if y then 1 else 0)] ++ rest).getD 0 0).toNat:Int) != 0))),(28,.v (.slice (cutA A c 1) ((([by8 (if y then 1 else 0)] ++ rest).length) - 1) (c - 1))),(30,.p 0 0)] hW ah fun aw ai=>?_
 refine qak (qav hW ai (oi:=0) (cs:=[.slice (cutA A c 1) ((([by8 (if y then 1 else 0)] ++ rest).length) - 1) (c - 1),.bool false]) kz fun ax am aa aj=>?_)
 refine qaf (qab ?_)
 refine qan [(2,.v (.bool (((([by8 (if y then 1 else 0)] ++ rest).getD 0 0).toNat:Int) != 0)))] aa aj fun ay ak=>?_
 refine wp_ret ?_
 refine qaF ak aa.cells (v:=.bool (((([by8 (if y then 1 else 0)] ++ rest).getD 0 0).toNat:Int) != 0)) kz ?_
 exact ⟨_,_,_,_,rfl,Str.of aa 0 rfl,RdS.drop (s:=[by8 (if y then 1 else 0)]) ⟨rfl,ho.move aa.step (fun b_ o_ h_ _=>hFd b_ o_ h_) qaY⟩ (by simp only [be_length,List.length_cons,List.length_nil]),aa.step,by cases y <;> rfl⟩
theorem rUv1 {A:Option Addr} {c:Nat} (s:Bs) {w:World} {F:Nat → Nat → Prop} (ho:Octs w F A c s) (hl:1 ≤ s.length) (d0:Nat) (h0:oc s 0 = d0) (g0:d0 < 128) :
  Calls Tryz.prog 205 #[.slice A s.length c] w (qbX w (.tuple #[.int .u32 ((d0:Nat):Int),.int .i64 1])):=by
 refine enter (n:=87) Tryz.func205 rfl Tryz.ntmps205 kz fun a hE=>?_
 have hW:=WOk.start w Nil
 refine qan [(0,.v (.slice A s.length c))] hW hE fun a1 hE2=>?_
 refine wp_scope_straight ?_
 refine qan [(0,.v (.slice A s.length c))] hW hE2 fun a3 hE4=>?_
 refine qan [(0,.v (.slice A s.length c))] hW hE4 fun a5 hE6=>?_
 refine wp_seq ?_
 refine qan [(0,.v (.slice A s.length c)),(8,.v (.bool (decide (((s.length:Nat):Int) < 1))))] hW hE6 fun a7 hE8=>?_
 refine qao hE8 (b:=decide (((s.length:Nat):Int) < 1)) kz (decide_eq_false (by omega)) ?_
 refine wp_skip ?_
 refine qab ?_
 refine qae [0,1,2,3,4,5] kz ?_
 refine qai [0] [1,2,3,4,5] [(0,.v (.slice A s.length c)),(9,.v (.slice A s.length c))] hW hE8 fun a9 ae=>?_
 obtain ⟨am,ao,ab,ap,aa⟩:=Slots.get ho (i:=0) (by first | omega | (simp only [List.length_append,be_length,List.length_cons,List.length_nil] at *; omega))
 refine qak (qaC ae (t:=22) (A:=A) (m:=s.length) (q:=0) (d:=10) kz (e:=5) (size:=1) (bytes:=1) (j:=0) kz ab rfl (by first | omega | (simp only [List.length_append,be_length,List.length_cons,List.length_nil] at *; omega)) fun ar af=>?_)
 refine qak (qaJ af (t:=5) (b:=am) (o:=ao + 0 * 1) (d:=11) kz (cs:=[.int .u8 ((s.getD 0 0).toNat:Int)]) (v:=.int .u8 ((s.getD 0 0).toNat:Int)) kz (AtF.move aa hW.step nilM qaY).at_ fun au ag=>?_)
 refine qai [3,4,5] [] [(0,.v (.slice A s.length c)),(4,.v (.int .u32 (IntKind.u32.wrap (IntKind.u8.wrap (BitVec.ofInt 8 ((s.getD 0 0).toNat:Int) &&& BitVec.ofInt 8 127).toNat))))] hW ag fun av ah=>?_
 refine qaf (qab ?_)
 refine wp_seq ?_
 refine qae [0,1,2,3,4] kz ?_
 refine qai [0] [1,2,3,4] [(0,.v (.slice A s.length c)),(4,.v (.int .u32 (IntKind.u32.wrap (IntKind.u8.wrap (BitVec.ofInt 8 ((s.getD 0 0).toNat:Int) &&& BitVec.ofInt 8 127).toNat)))),(14,.v (.slice A s.length c))] hW ah fun aw ai=>?_
 refine qak (qaC ai (t:=22) (A:=A) (m:=s.length) (q:=0) (d:=15) kz (e:=5) (size:=1) (bytes:=1) (j:=0) kz ab rfl (by first | omega | (simp only [List.length_append,be_length,List.length_cons,List.length_nil] at *; omega)) fun ax aj=>?_)
 refine qak (qaJ aj (t:=5) (b:=am) (o:=ao + 0 * 1) (d:=16) kz (cs:=[.int .u8 ((s.getD 0 0).toNat:Int)]) (v:=.int .u8 ((s.getD 0 0).toNat:Int)) kz (AtF.move aa hW.step nilM qaY).at_ fun ay ak=>?_)
 refine qai [3,4] [] [(0,.v (.slice A s.length c)),(4,.v (.int .u32 (IntKind.u32.wrap (IntKind.u8.wrap (BitVec.ofInt 8 ((s.getD 0 0).toNat:Int) &&& BitVec.ofInt 8 127).toNat)))),(18,.v (.bool ((IntKind.u8.wrap (BitVec.ofInt 8 ((s.getD 0 0).toNat:Int) &&& BitVec.ofInt 8 128).toNat) == 0)))] hW ak fun az ac=>?_
 refine qaf (qab ?_)
 refine qaW ac (b:=(IntKind.u8.wrap (BitVec.ofInt 8 ((s.getD 0 0).toNat:Int) &&& BitVec.ofInt 8 128).toNat) == 0) kz ((qcw _ (qbR s 0)).trans (decide_eq_true (by have:=h0; unfold oc at this; omega))) ?_
 refine qan [(2,.v (.int .u32 (IntKind.u32.wrap (IntKind.u8.wrap (BitVec.ofInt 8 ((s.getD 0 0).toNat:Int) &&& BitVec.ofInt 8 127).toNat)))),(3,.v (.int .i64 1))] hW ac fun aA al=>?_
 refine wp_ret ?_
 refine qam ?_
 refine qde ?_
 refine qaF al hW.cells (v:=.tuple #[.int .u32 (IntKind.u32.wrap (IntKind.u8.wrap (BitVec.ofInt 8 ((s.getD 0 0).toNat:Int) &&& BitVec.ofInt 8 127).toNat)),.int .i64 1]) kz ?_
 have e_:=uv_1 (oc s 0) (qbR s 0)
 refine ⟨congrArg (fun z_:Int=>Ending.returned (.tuple #[.int .u32 z_,.int .i64 1])) (Eq.trans e_ ?_),hW.step⟩
 omega
theorem rUv2 {A:Option Addr} {c:Nat} (s:Bs) {w:World} {F:Nat → Nat → Prop} (ho:Octs w F A c s) (hl:2 ≤ s.length) (d0 d1:Nat) (h0:oc s 0 = d0 + 128) (h1:oc s 1 = d1) (g0:d0 < 128) (g1:d1 < 128) :
  Calls Tryz.prog 205 #[.slice A s.length c] w (qbX w (.tuple #[.int .u32 ((d0 + d1 * 128:Nat):Int),.int .i64 2])):=by
 refine enter (n:=87) Tryz.func205 rfl Tryz.ntmps205 kz fun a hE=>?_
 have hW:=WOk.start w Nil
 refine qan [(0,.v (.slice A s.length c))] hW hE fun a1 hE2=>?_
 refine wp_scope_straight ?_
 refine qan [(0,.v (.slice A s.length c))] hW hE2 fun a3 hE4=>?_
 refine qan [(0,.v (.slice A s.length c))] hW hE4 fun a5 hE6=>?_
 refine wp_seq ?_
 refine qan [(0,.v (.slice A s.length c)),(8,.v (.bool (decide (((s.length:Nat):Int) < 1))))] hW hE6 fun a7 hE8=>?_
 refine qao hE8 (b:=decide (((s.length:Nat):Int) < 1)) kz (decide_eq_false (by omega)) ?_
 refine wp_skip ?_
 refine qab ?_
 refine qae [0,1,2,3,4,5] kz ?_
 refine qai [0] [1,2,3,4,5] [(0,.v (.slice A s.length c)),(9,.v (.slice A s.length c))] hW hE8 fun a9 ai=>?_
 obtain ⟨aB,aC,ac,aF,aa⟩:=Slots.get ho (i:=0) (by first | omega | (simp only [List.length_append,be_length,List.length_cons,List.length_nil] at *; omega))
 refine qak (qaC ai (t:=22) (A:=A) (m:=s.length) (q:=0) (d:=10) kz (e:=5) (size:=1) (bytes:=1) (j:=0) kz ac rfl (by first | omega | (simp only [List.length_append,be_length,List.length_cons,List.length_nil] at *; omega)) fun aH aj=>?_)
 refine qak (qaJ aj (t:=5) (b:=aB) (o:=aC + 0 * 1) (d:=11) kz (cs:=[.int .u8 ((s.getD 0 0).toNat:Int)]) (v:=.int .u8 ((s.getD 0 0).toNat:Int)) kz (AtF.move aa hW.step nilM qaY).at_ fun aI ak=>?_)
 refine qai [3,4,5] [] [(0,.v (.slice A s.length c)),(4,.v (.int .u32 (IntKind.u32.wrap (IntKind.u8.wrap (BitVec.ofInt 8 ((s.getD 0 0).toNat:Int) &&& BitVec.ofInt 8 127).toNat))))] hW ak fun aJ al=>?_
 refine qaf (qab ?_)
 refine wp_seq ?_
 refine qae [0,1,2,3,4] kz ?_
 refine qai [0] [1,2,3,4] [(0,.v (.slice A s.length c)),(4,.v (.int .u32 (IntKind.u32.wrap (IntKind.u8.wrap (BitVec.ofInt 8 ((s.getD 0 0).toNat:Int) &&& BitVec.ofInt 8 127).toNat)))),(14,.v (.slice A s.length c))] hW al fun aK am=>?_
 refine qak (qaC am (t:=22) (A:=A) (m:=s.length) (q:=0) (d:=15) kz (e:=5) (size:=1) (bytes:=1) (j:=0) kz ac rfl (by first | omega | (simp only [List.length_append,be_length,List.length_cons,List.length_nil] at *; omega)) fun aL ao=>?_)
 refine qak (qaJ ao (t:=5) (b:=aB) (o:=aC + 0 * 1) (d:=16) kz (cs:=[.int .u8 ((s.getD 0 0).toNat:Int)]) (v:=.int .u8 ((s.getD 0 0).toNat:Int)) kz (AtF.move aa hW.step nilM qaY).at_ fun aM ap=>?_)
 refine qai [3,4] [] [(0,.v (.slice A s.length c)),(4,.v (.int .u32 (IntKind.u32.wrap (IntKind.u8.wrap (BitVec.ofInt 8 ((s.getD 0 0).toNat:Int) &&& BitVec.ofInt 8 127).toNat)))),(18,.v (.bool ((IntKind.u8.wrap (BitVec.ofInt 8 ((s.getD 0 0).toNat:Int) &&& BitVec.ofInt 8 128).toNat) == 0)))] hW ap fun aN ae=>?_
 refine qaf (qab ?_)
 refine qao ae (b:=(IntKind.u8.wrap (BitVec.ofInt 8 ((s.getD 0 0).toNat:Int) &&& BitVec.ofInt 8 128).toNat) == 0) kz ((qcw _ (qbR s 0)).trans (decide_eq_false (by have:=h0; unfold oc at this; omega))) ?_
 refine qan [(0,.v (.slice A s.length c)),(4,.v (.int .u32 (IntKind.u32.wrap (IntKind.u8.wrap (BitVec.ofInt 8 ((s.getD 0 0).toNat:Int) &&& BitVec.ofInt 8 127).toNat)))),(22,.v (.bool (decide (((s.length:Nat):Int) < 2))))] hW ae fun aO af=>?_
 refine qao af (b:=decide (((s.length:Nat):Int) < 2)) kz (decide_eq_false (by omega)) ?_
 refine wp_skip ?_
 refine qab ?_
 refine qae [0,1,2,3,4,5,6,7,8] kz ?_
 refine qai [0,1] [2,3,4,5,6,7,8] [(0,.v (.slice A s.length c)),(23,.v (.int .u32 (IntKind.u32.wrap (IntKind.u8.wrap (BitVec.ofInt 8 ((s.getD 0 0).toNat:Int) &&& BitVec.ofInt 8 127).toNat)))),(24,.v (.slice A s.length c))] hW af fun aP ar=>?_
 obtain ⟨aD,aE,ag,aG,ab⟩:=Slots.get ho (i:=1) (by first | omega | (simp only [List.length_append,be_length,List.length_cons,List.length_nil] at *; omega))
 refine qak (qaC ar (t:=22) (A:=A) (m:=s.length) (q:=1) (d:=25) kz (e:=5) (size:=1) (bytes:=1) (j:=1) kz ag rfl (by first | omega | (simp only [List.length_append,be_length,List.length_cons,List.length_nil] at *; omega)) fun aQ au=>?_)
 refine qak (qaJ au (t:=5) (b:=aD) (o:=aE + 1 * 1) (d:=26) kz (cs:=[.int .u8 ((s.getD 1 0).toNat:Int)]) (v:=.int .u8 ((s.getD 1 0).toNat:Int)) kz (AtF.move ab hW.step nilM qaY).at_ fun aR av=>?_)
 refine qai [4,5,6,7,8] [] [(0,.v (.slice A s.length c)),(4,.v (.int .u32 (IntKind.u32.wrap (BitVec.ofInt 32 (IntKind.u32.wrap (IntKind.u8.wrap (BitVec.ofInt 8 ((s.getD 0 0).toNat:Int) &&& BitVec.ofInt 8 127).toNat)) ||| BitVec.ofInt 32 (IntKind.u32.wrap ((IntKind.u32.wrap (IntKind.u8.wrap (BitVec.ofInt 8 ((s.getD 1 0).toNat:Int) &&& BitVec.ofInt 8 127).toNat)) * 128))).toNat)))] hW av fun aS aw=>?_
 refine qaf (qab ?_)
 refine wp_seq ?_
 refine qae [0,1,2,3,4] kz ?_
 refine qai [0] [1,2,3,4] [(0,.v (.slice A s.length c)),(4,.v (.int .u32 (IntKind.u32.wrap (BitVec.ofInt 32 (IntKind.u32.wrap (IntKind.u8.wrap (BitVec.ofInt 8 ((s.getD 0 0).toNat:Int) &&& BitVec.ofInt 8 127).toNat)) ||| BitVec.ofInt 32 (IntKind.u32.wrap ((IntKind.u32.wrap (IntKind.u8.wrap (BitVec.ofInt 8 ((s.getD 1 0).toNat:Int) &&& BitVec.ofInt 8 127).toNat)) * 128))).toNat))),(31,.v (.slice A s.length c))] hW aw fun aT ax=>?_
 refine qak (qaC ax (t:=22) (A:=A) (m:=s.length) (q:=1) (d:=32) kz (e:=5) (size:=1) (bytes:=1) (j:=1) kz ag rfl (by first | omega | (simp only [List.length_append,be_length,List.length_cons,List.length_nil] at *; omega)) fun aU ay=>?_)
 refine qak (qaJ ay (t:=5) (b:=aD) (o:=aE + 1 * 1) (d:=33) kz (cs:=[.int .u8 ((s.getD 1 0).toNat:Int)]) (v:=.int .u8 ((s.getD 1 0).toNat:Int)) kz (AtF.move ab hW.step nilM qaY).at_ fun aV az=>?_)
 refine qai [3,4] [] [(0,.v (.slice A s.length c)),(4,.v (.int .u32 (IntKind.u32.wrap (BitVec.ofInt 32 (IntKind.u32.wrap (IntKind.u8.wrap (BitVec.ofInt 8 ((s.getD 0 0).toNat:Int) &&& BitVec.ofInt 8 127).toNat)) ||| BitVec.ofInt 32 (IntKind.u32.wrap ((IntKind.u32.wrap (IntKind.u8.wrap (BitVec.ofInt 8 ((s.getD 1 0).toNat:Int) &&& BitVec.ofInt 8 127).toNat)) * 128))).toNat))),(35,.v (.bool ((IntKind.u8.wrap (BitVec.ofInt 8 ((s.getD 1 0).toNat:Int) &&& BitVec.ofInt 8 128).toNat) == 0)))] hW az fun aW ah=>?_
 refine qaf (qab ?_)
 refine qaW ah (b:=(IntKind.u8.wrap (BitVec.ofInt 8 ((s.getD 1 0).toNat:Int) &&& BitVec.ofInt 8 128).toNat) == 0) kz ((qcw _ (qbR s 1)).trans (decide_eq_true (by have:=h1; unfold oc at this; omega))) ?_
 refine qan [(2,.v (.int .u32 (IntKind.u32.wrap (BitVec.ofInt 32 (IntKind.u32.wrap (IntKind.u8.wrap (BitVec.ofInt 8 ((s.getD 0 0).toNat:Int) &&& BitVec.ofInt 8 127).toNat)) ||| BitVec.ofInt 32 (IntKind.u32.wrap ((IntKind.u32.wrap (IntKind.u8.wrap (BitVec.ofInt 8 ((s.getD 1 0).toNat:Int) &&& BitVec.ofInt 8 127).toNat)) * 128))).toNat))),(3,.v (.int .i64 2))] hW ah fun aX aA=>?_
 refine wp_ret ?_
 refine qam ?_
 refine qde ?_
 refine qaF aA hW.cells (v:=.tuple #[.int .u32 (IntKind.u32.wrap (BitVec.ofInt 32 (IntKind.u32.wrap (IntKind.u8.wrap (BitVec.ofInt 8 ((s.getD 0 0).toNat:Int) &&& BitVec.ofInt 8 127).toNat)) ||| BitVec.ofInt 32 (IntKind.u32.wrap ((IntKind.u32.wrap (IntKind.u8.wrap (BitVec.ofInt 8 ((s.getD 1 0).toNat:Int) &&& BitVec.ofInt 8 127).toNat)) * 128))).toNat),.int .i64 2]) kz ?_
 have e_:=uv_2 (oc s 0) (oc s 1) (qbR s 0) (qbR s 1)
 refine ⟨congrArg (fun z_:Int=>Ending.returned (.tuple #[.int .u32 z_,.int .i64 2])) (Eq.trans e_ ?_),hW.step⟩
 omega
theorem rUv3 {A:Option Addr} {c:Nat} (s:Bs) {w:World} {F:Nat → Nat → Prop} (ho:Octs w F A c s) (hl:3 ≤ s.length) (d0 d1 d2:Nat) (h0:oc s 0 = d0 + 128) (h1:oc s 1 = d1 + 128) (h2:oc s 2 = d2) (g0:d0 < 128) (g1:d1 < 128) (g2:d2 < 128) :
  Calls Tryz.prog 205 #[.slice A s.length c] w (qbX w (.tuple #[.int .u32 ((d0 + d1 * 128 + d2 * 16384:Nat):Int),.int .i64 3])):=by
 refine enter (n:=87) Tryz.func205 rfl Tryz.ntmps205 kz fun a hE=>?_
 have hW:=WOk.start w Nil
 refine qan [(0,.v (.slice A s.length c))] hW hE fun a1 hE2=>?_
 refine wp_scope_straight ?_
 refine qan [(0,.v (.slice A s.length c))] hW hE2 fun a3 hE4=>?_
 refine qan [(0,.v (.slice A s.length c))] hW hE4 fun a5 hE6=>?_
 refine wp_seq ?_
 refine qan [(0,.v (.slice A s.length c)),(8,.v (.bool (decide (((s.length:Nat):Int) < 1))))] hW hE6 fun a7 hE8=>?_
 refine qao hE8 (b:=decide (((s.length:Nat):Int) < 1)) kz (decide_eq_false (by omega)) ?_
 refine wp_skip ?_
 refine qab ?_
 refine qae [0,1,2,3,4,5] kz ?_
 refine qai [0] [1,2,3,4,5] [(0,.v (.slice A s.length c)),(9,.v (.slice A s.length c))] hW hE8 fun a9 am=>?_
 obtain ⟨aM,aN,ae,aS,aa⟩:=Slots.get ho (i:=0) (by first | omega | (simp only [List.length_append,be_length,List.length_cons,List.length_nil] at *; omega))
 refine qak (qaC am (t:=22) (A:=A) (m:=s.length) (q:=0) (d:=10) kz (e:=5) (size:=1) (bytes:=1) (j:=0) kz ae rfl (by first | omega | (simp only [List.length_append,be_length,List.length_cons,List.length_nil] at *; omega)) fun aV ao=>?_)
 refine qak (qaJ ao (t:=5) (b:=aM) (o:=aN + 0 * 1) (d:=11) kz (cs:=[.int .u8 ((s.getD 0 0).toNat:Int)]) (v:=.int .u8 ((s.getD 0 0).toNat:Int)) kz (AtF.move aa hW.step nilM qaY).at_ fun aW ap=>?_)
 refine qai [3,4,5] [] [(0,.v (.slice A s.length c)),(4,.v (.int .u32 (IntKind.u32.wrap (IntKind.u8.wrap (BitVec.ofInt 8 ((s.getD 0 0).toNat:Int) &&& BitVec.ofInt 8 127).toNat))))] hW ap fun aX ar=>?_
 refine qaf (qab ?_)
 refine wp_seq ?_
 refine qae [0,1,2,3,4] kz ?_
 refine qai [0] [1,2,3,4] [(0,.v (.slice A s.length c)),(4,.v (.int .u32 (IntKind.u32.wrap (IntKind.u8.wrap (BitVec.ofInt 8 ((s.getD 0 0).toNat:Int) &&& BitVec.ofInt 8 127).toNat)))),(14,.v (.slice A s.length c))] hW ar fun aY au=>?_
 refine qak (qaC au (t:=22) (A:=A) (m:=s.length) (q:=0) (d:=15) kz (e:=5) (size:=1) (bytes:=1) (j:=0) kz ae rfl (by first | omega | (simp only [List.length_append,be_length,List.length_cons,List.length_nil] at *; omega)) fun aZ av=>?_)
 refine qak (qaJ av (t:=5) (b:=aM) (o:=aN + 0 * 1) (d:=16) kz (cs:=[.int .u8 ((s.getD 0 0).toNat:Int)]) (v:=.int .u8 ((s.getD 0 0).toNat:Int)) kz (AtF.move aa hW.step nilM qaY).at_ fun ba aw=>?_)
 refine qai [3,4] [] [(0,.v (.slice A s.length c)),(4,.v (.int .u32 (IntKind.u32.wrap (IntKind.u8.wrap (BitVec.ofInt 8 ((s.getD 0 0).toNat:Int) &&& BitVec.ofInt 8 127).toNat)))),(18,.v (.bool ((IntKind.u8.wrap (BitVec.ofInt 8 ((s.getD 0 0).toNat:Int) &&& BitVec.ofInt 8 128).toNat) == 0)))] hW aw fun bd af=>?_
 refine qaf (qab ?_)
 refine qao af (b:=(IntKind.u8.wrap (BitVec.ofInt 8 ((s.getD 0 0).toNat:Int) &&& BitVec.ofInt 8 128).toNat) == 0) kz ((qcw _ (qbR s 0)).trans (decide_eq_false (by have:=h0; unfold oc at this; omega))) ?_
 refine qan [(0,.v (.slice A s.length c)),(4,.v (.int .u32 (IntKind.u32.wrap (IntKind.u8.wrap (BitVec.ofInt 8 ((s.getD 0 0).toNat:Int) &&& BitVec.ofInt 8 127).toNat)))),(22,.v (.bool (decide (((s.length:Nat):Int) < 2))))] hW af fun bf ag=>?_
 refine qao ag (b:=decide (((s.length:Nat):Int) < 2)) kz (decide_eq_false (by omega)) ?_
 refine wp_skip ?_
 refine qab ?_
 refine qae [0,1,2,3,4,5,6,7,8] kz ?_
 refine qai [0,1] [2,3,4,5,6,7,8] [(0,.v (.slice A s.length c)),(23,.v (.int .u32 (IntKind.u32.wrap (IntKind.u8.wrap (BitVec.ofInt 8 ((s.getD 0 0).toNat:Int) &&& BitVec.ofInt 8 127).toNat)))),(24,.v (.slice A s.length c))] hW ag fun bg ax=>?_
 obtain ⟨aO,aP,ah,aT,ab⟩:=Slots.get ho (i:=1) (by first | omega | (simp only [List.length_append,be_length,List.length_cons,List.length_nil] at *; omega))
 refine qak (qaC ax (t:=22) (A:=A) (m:=s.length) (q:=1) (d:=25) kz (e:=5) (size:=1) (bytes:=1) (j:=1) kz ah rfl (by first | omega | (simp only [List.length_append,be_length,List.length_cons,List.length_nil] at *; omega)) fun bh ay=>?_)
 refine qak (qaJ ay (t:=5) (b:=aO) (o:=aP + 1 * 1) (d:=26) kz (cs:=[.int .u8 ((s.getD 1 0).toNat:Int)]) (v:=.int .u8 ((s.getD 1 0).toNat:Int)) kz (AtF.move ab hW.step nilM qaY).at_ fun bi az=>?_)
 refine qai [4,5,6,7,8] [] [(0,.v (.slice A s.length c)),(4,.v (.int .u32 (IntKind.u32.wrap (BitVec.ofInt 32 (IntKind.u32.wrap (IntKind.u8.wrap (BitVec.ofInt 8 ((s.getD 0 0).toNat:Int) &&& BitVec.ofInt 8 127).toNat)) ||| BitVec.ofInt 32 (IntKind.u32.wrap ((IntKind.u32.wrap (IntKind.u8.wrap (BitVec.ofInt 8 ((s.getD 1 0).toNat:Int) &&& BitVec.ofInt 8 127).toNat)) * 128))).toNat)))] hW az fun bj aA=>?_
 refine qaf (qab ?_)
 refine wp_seq ?_
 refine qae [0,1,2,3,4] kz ?_
 refine qai [0] [1,2,3,4] [(0,.v (.slice A s.length c)),(4,.v (.int .u32 (IntKind.u32.wrap (BitVec.ofInt 32 (IntKind.u32.wrap (IntKind.u8.wrap (BitVec.ofInt 8 ((s.getD 0 0).toNat:Int) &&& BitVec.ofInt 8 127).toNat)) ||| BitVec.ofInt 32 (IntKind.u32.wrap ((IntKind.u32.wrap (IntKind.u8.wrap (BitVec.ofInt 8 ((s.getD 1 0).toNat:Int) &&& BitVec.ofInt 8 127).toNat)) * 128))).toNat))),(31,.v (.slice A s.length c))] hW aA fun bk aB=>?_
 refine qak (qaC aB (t:=22) (A:=A) (m:=s.length) (q:=1) (d:=32) kz (e:=5) (size:=1) (bytes:=1) (j:=1) kz ah rfl (by first | omega | (simp only [List.length_append,be_length,List.length_cons,List.length_nil] at *; omega)) fun bn aC=>?_)
 refine qak (qaJ aC (t:=5) (b:=aO) (o:=aP + 1 * 1) (d:=33) kz (cs:=[.int .u8 ((s.getD 1 0).toNat:Int)]) (v:=.int .u8 ((s.getD 1 0).toNat:Int)) kz (AtF.move ab hW.step nilM qaY).at_ fun bo aD=>?_)
 refine qai [3,4] [] [(0,.v (.slice A s.length c)),(4,.v (.int .u32 (IntKind.u32.wrap (BitVec.ofInt 32 (IntKind.u32.wrap (IntKind.u8.wrap (BitVec.ofInt 8 ((s.getD 0 0).toNat:Int) &&& BitVec.ofInt 8 127).toNat)) ||| BitVec.ofInt 32 (IntKind.u32.wrap ((IntKind.u32.wrap (IntKind.u8.wrap (BitVec.ofInt 8 ((s.getD 1 0).toNat:Int) &&& BitVec.ofInt 8 127).toNat)) * 128))).toNat))),(35,.v (.bool ((IntKind.u8.wrap (BitVec.ofInt 8 ((s.getD 1 0).toNat:Int) &&& BitVec.ofInt 8 128).toNat) == 0)))] hW aD fun bp ai=>?_
 refine qaf (qab ?_)
 refine qao ai (b:=(IntKind.u8.wrap (BitVec.ofInt 8 ((s.getD 1 0).toNat:Int) &&& BitVec.ofInt 8 128).toNat) == 0) kz ((qcw _ (qbR s 1)).trans (decide_eq_false (by have:=h1; unfold oc at this; omega))) ?_
 refine qan [(0,.v (.slice A s.length c)),(4,.v (.int .u32 (IntKind.u32.wrap (BitVec.ofInt 32 (IntKind.u32.wrap (IntKind.u8.wrap (BitVec.ofInt 8 ((s.getD 0 0).toNat:Int) &&& BitVec.ofInt 8 127).toNat)) ||| BitVec.ofInt 32 (IntKind.u32.wrap ((IntKind.u32.wrap (IntKind.u8.wrap (BitVec.ofInt 8 ((s.getD 1 0).toNat:Int) &&& BitVec.ofInt 8 127).toNat)) * 128))).toNat))),(39,.v (.bool (decide (((s.length:Nat):Int) < 3))))] hW ai fun bq aj=>?_
 refine qao aj (b:=decide (((s.length:Nat):Int) < 3)) kz (decide_eq_false (by omega)) ?_
 refine wp_skip ?_
 refine qab ?_
 refine qae [0,1,2,3,4,5,6,7,8] kz ?_
 refine qai [0,1] [2,3,4,5,6,7,8] [(0,.v (.slice A s.length c)),(40,.v (.int .u32 (IntKind.u32.wrap (BitVec.ofInt 32 (IntKind.u32.wrap (IntKind.u8.wrap (BitVec.ofInt 8 ((s.getD 0 0).toNat:Int) &&& BitVec.ofInt 8 127).toNat)) ||| BitVec.ofInt 32 (IntKind.u32.wrap ((IntKind.u32.wrap (IntKind.u8.wrap (BitVec.ofInt 8 ((s.getD 1 0).toNat:Int) &&& BitVec.ofInt 8 127).toNat)) * 128))).toNat))),(41,.v (.slice A s.length c))] hW aj fun bt aE=>?_
 obtain ⟨aQ,aR,ak,aU,ac⟩:=Slots.get ho (i:=2) (by first | omega | (simp only [List.length_append,be_length,List.length_cons,List.length_nil] at *; omega))
 refine qak (qaC aE (t:=22) (A:=A) (m:=s.length) (q:=2) (d:=42) kz (e:=5) (size:=1) (bytes:=1) (j:=2) kz ak rfl (by first | omega | (simp only [List.length_append,be_length,List.length_cons,List.length_nil] at *; omega)) fun bu aF=>?_)
 refine qak (qaJ aF (t:=5) (b:=aQ) (o:=aR + 2 * 1) (d:=43) kz (cs:=[.int .u8 ((s.getD 2 0).toNat:Int)]) (v:=.int .u8 ((s.getD 2 0).toNat:Int)) kz (AtF.move ac hW.step nilM qaY).at_ fun bw aG=>?_)
 refine qai [4,5,6,7,8] [] [(0,.v (.slice A s.length c)),(4,.v (.int .u32 (IntKind.u32.wrap (BitVec.ofInt 32 (IntKind.u32.wrap (BitVec.ofInt 32 (IntKind.u32.wrap (IntKind.u8.wrap (BitVec.ofInt 8 ((s.getD 0 0).toNat:Int) &&& BitVec.ofInt 8 127).toNat)) ||| BitVec.ofInt 32 (IntKind.u32.wrap ((IntKind.u32.wrap (IntKind.u8.wrap (BitVec.ofInt 8 ((s.getD 1 0).toNat:Int) &&& BitVec.ofInt 8 127).toNat)) * 128))).toNat) ||| BitVec.ofInt 32 (IntKind.u32.wrap ((IntKind.u32.wrap (IntKind.u8.wrap (BitVec.ofInt 8 ((s.getD 2 0).toNat:Int) &&& BitVec.ofInt 8 127).toNat)) * 16384))).toNat)))] hW aG fun bx aH=>?_
 refine qaf (qab ?_)
 refine wp_seq ?_
 refine qae [0,1,2,3,4] kz ?_
 refine qai [0] [1,2,3,4] [(0,.v (.slice A s.length c)),(4,.v (.int .u32 (IntKind.u32.wrap (BitVec.ofInt 32 (IntKind.u32.wrap (BitVec.ofInt 32 (IntKind.u32.wrap (IntKind.u8.wrap (BitVec.ofInt 8 ((s.getD 0 0).toNat:Int) &&& BitVec.ofInt 8 127).toNat)) ||| BitVec.ofInt 32 (IntKind.u32.wrap ((IntKind.u32.wrap (IntKind.u8.wrap (BitVec.ofInt 8 ((s.getD 1 0).toNat:Int) &&& BitVec.ofInt 8 127).toNat)) * 128))).toNat) ||| BitVec.ofInt 32 (IntKind.u32.wrap ((IntKind.u32.wrap (IntKind.u8.wrap (BitVec.ofInt 8 ((s.getD 2 0).toNat:Int) &&& BitVec.ofInt 8 127).toNat)) * 16384))).toNat))),(48,.v (.slice A s.length c))] hW aH fun bz aI=>?_
 refine qak (qaC aI (t:=22) (A:=A) (m:=s.length) (q:=2) (d:=49) kz (e:=5) (size:=1) (bytes:=1) (j:=2) kz ak rfl (by first | omega | (simp only [List.length_append,be_length,List.length_cons,List.length_nil] at *; omega)) fun bA aJ=>?_)
 refine qak (qaJ aJ (t:=5) (b:=aQ) (o:=aR + 2 * 1) (d:=50) kz (cs:=[.int .u8 ((s.getD 2 0).toNat:Int)]) (v:=.int .u8 ((s.getD 2 0).toNat:Int)) kz (AtF.move ac hW.step nilM qaY).at_ fun bB aK=>?_)
 refine qai [3,4] [] [(0,.v (.slice A s.length c)),(4,.v (.int .u32 (IntKind.u32.wrap (BitVec.ofInt 32 (IntKind.u32.wrap (BitVec.ofInt 32 (IntKind.u32.wrap (IntKind.u8.wrap (BitVec.ofInt 8 ((s.getD 0 0).toNat:Int) &&& BitVec.ofInt 8 127).toNat)) ||| BitVec.ofInt 32 (IntKind.u32.wrap ((IntKind.u32.wrap (IntKind.u8.wrap (BitVec.ofInt 8 ((s.getD 1 0).toNat:Int) &&& BitVec.ofInt 8 127).toNat)) * 128))).toNat) ||| BitVec.ofInt 32 (IntKind.u32.wrap ((IntKind.u32.wrap (IntKind.u8.wrap (BitVec.ofInt 8 ((s.getD 2 0).toNat:Int) &&& BitVec.ofInt 8 127).toNat)) * 16384))).toNat))),(52,.v (.bool ((IntKind.u8.wrap (BitVec.ofInt 8 ((s.getD 2 0).toNat:Int) &&& BitVec.ofInt 8 128).toNat) == 0)))] hW aK fun bC al=>?_
 refine qaf (qab ?_)
 refine qaW al (b:=(IntKind.u8.wrap (BitVec.ofInt 8 ((s.getD 2 0).toNat:Int) &&& BitVec.ofInt 8 128).toNat) == 0) kz ((qcw _ (qbR s 2)).trans (decide_eq_true (by have:=h2; unfold oc at this; omega))) ?_
 refine qan [(2,.v (.int .u32 (IntKind.u32.wrap (BitVec.ofInt 32 (IntKind.u32.wrap (BitVec.ofInt 32 (IntKind.u32.wrap (IntKind.u8.wrap (BitVec.ofInt 8 ((s.getD 0 0).toNat:Int) &&& BitVec.ofInt 8 127).toNat)) ||| BitVec.ofInt 32 (IntKind.u32.wrap ((IntKind.u32.wrap (IntKind.u8.wrap (BitVec.ofInt 8 ((s.getD 1 0).toNat:Int) &&& BitVec.ofInt 8 127).toNat)) * 128))).toNat) ||| BitVec.ofInt 32 (IntKind.u32.wrap ((IntKind.u32.wrap (IntKind.u8.wrap (BitVec.ofInt 8 ((s.getD 2 0).toNat:Int) &&& BitVec.ofInt 8 127).toNat)) * 16384))).toNat))),(3,.v (.int .i64 3))] hW al fun bD aL=>?_
 refine wp_ret ?_
 refine qam ?_
 refine qde ?_
 refine qaF aL hW.cells (v:=.tuple #[.int .u32 (IntKind.u32.wrap (BitVec.ofInt 32 (IntKind.u32.wrap (BitVec.ofInt 32 (IntKind.u32.wrap (IntKind.u8.wrap (BitVec.ofInt 8 ((s.getD 0 0).toNat:Int) &&& BitVec.ofInt 8 127).toNat)) ||| BitVec.ofInt 32 (IntKind.u32.wrap ((IntKind.u32.wrap (IntKind.u8.wrap (BitVec.ofInt 8 ((s.getD 1 0).toNat:Int) &&& BitVec.ofInt 8 127).toNat)) * 128))).toNat) ||| BitVec.ofInt 32 (IntKind.u32.wrap ((IntKind.u32.wrap (IntKind.u8.wrap (BitVec.ofInt 8 ((s.getD 2 0).toNat:Int) &&& BitVec.ofInt 8 127).toNat)) * 16384))).toNat),.int .i64 3]) kz ?_
 have e_:=uv_3 (oc s 0) (oc s 1) (oc s 2) (qbR s 0) (qbR s 1) (qbR s 2)
 refine ⟨congrArg (fun z_:Int=>Ending.returned (.tuple #[.int .u32 z_,.int .i64 3])) (Eq.trans e_ ?_),hW.step⟩
 omega
theorem rUv4 {A:Option Addr} {c:Nat} (s:Bs) {w:World} {F:Nat → Nat → Prop} (ho:Octs w F A c s) (hl:4 ≤ s.length) (d0 d1 d2 d3:Nat) (h0:oc s 0 = d0 + 128) (h1:oc s 1 = d1 + 128) (h2:oc s 2 = d2 + 128) (h3:oc s 3 = d3) (g0:d0 < 128) (g1:d1 < 128) (g2:d2 < 128) (g3:d3 < 128) :
  Calls Tryz.prog 205 #[.slice A s.length c] w (qbX w (.tuple #[.int .u32 ((d0 + d1 * 128 + d2 * 16384 + d3 * 2097152:Nat):Int),.int .i64 4])):=by
 refine enter (n:=87) Tryz.func205 rfl Tryz.ntmps205 kz fun a hE=>?_
 have hW:=WOk.start w Nil
 refine qan [(0,.v (.slice A s.length c))] hW hE fun a1 hE2=>?_
 refine wp_scope_straight ?_
 refine qan [(0,.v (.slice A s.length c))] hW hE2 fun a3 hE4=>?_
 refine qan [(0,.v (.slice A s.length c))] hW hE4 fun a5 hE6=>?_
 refine wp_seq ?_
 refine qan [(0,.v (.slice A s.length c)),(8,.v (.bool (decide (((s.length:Nat):Int) < 1))))] hW hE6 fun a7 hE8=>?_
 refine qao hE8 (b:=decide (((s.length:Nat):Int) < 1)) kz (decide_eq_false (by omega)) ?_
 refine wp_skip ?_
 refine qab ?_
 refine qae [0,1,2,3,4,5] kz ?_
 refine qai [0] [1,2,3,4,5] [(0,.v (.slice A s.length c)),(9,.v (.slice A s.length c))] hW hE8 fun a9 av=>?_
 obtain ⟨aX,aY,af,bi,aa⟩:=Slots.get ho (i:=0) (by first | omega | (simp only [List.length_append,be_length,List.length_cons,List.length_nil] at *; omega))
 refine qak (qaC av (t:=22) (A:=A) (m:=s.length) (q:=0) (d:=10) kz (e:=5) (size:=1) (bytes:=1) (j:=0) kz af rfl (by first | omega | (simp only [List.length_append,be_length,List.length_cons,List.length_nil] at *; omega)) fun bo aw=>?_)
 refine qak (qaJ aw (t:=5) (b:=aX) (o:=aY + 0 * 1) (d:=11) kz (cs:=[.int .u8 ((s.getD 0 0).toNat:Int)]) (v:=.int .u8 ((s.getD 0 0).toNat:Int)) kz (AtF.move aa hW.step nilM qaY).at_ fun bp ax=>?_)
 refine qai [3,4,5] [] [(0,.v (.slice A s.length c)),(4,.v (.int .u32 (IntKind.u32.wrap (IntKind.u8.wrap (BitVec.ofInt 8 ((s.getD 0 0).toNat:Int) &&& BitVec.ofInt 8 127).toNat))))] hW ax fun bq ay=>?_
 refine qaf (qab ?_)
 refine wp_seq ?_
 refine qae [0,1,2,3,4] kz ?_
 refine qai [0] [1,2,3,4] [(0,.v (.slice A s.length c)),(4,.v (.int .u32 (IntKind.u32.wrap (IntKind.u8.wrap (BitVec.ofInt 8 ((s.getD 0 0).toNat:Int) &&& BitVec.ofInt 8 127).toNat)))),(14,.v (.slice A s.length c))] hW ay fun bt az=>?_
 refine qak (qaC az (t:=22) (A:=A) (m:=s.length) (q:=0) (d:=15) kz (e:=5) (size:=1) (bytes:=1) (j:=0) kz af rfl (by first | omega | (simp only [List.length_append,be_length,List.length_cons,List.length_nil] at *; omega)) fun bu aA=>?_)
 refine qak (qaJ aA (t:=5) (b:=aX) (o:=aY + 0 * 1) (d:=16) kz (cs:=[.int .u8 ((s.getD 0 0).toNat:Int)]) (v:=.int .u8 ((s.getD 0 0).toNat:Int)) kz (AtF.move aa hW.step nilM qaY).at_ fun bw aB=>?_)
 refine qai [3,4] [] [(0,.v (.slice A s.length c)),(4,.v (.int .u32 (IntKind.u32.wrap (IntKind.u8.wrap (BitVec.ofInt 8 ((s.getD 0 0).toNat:Int) &&& BitVec.ofInt 8 127).toNat)))),(18,.v (.bool ((IntKind.u8.wrap (BitVec.ofInt 8 ((s.getD 0 0).toNat:Int) &&& BitVec.ofInt 8 128).toNat) == 0)))] hW aB fun bx ag=>?_
 refine qaf (qab ?_)
 refine qao ag (b:=(IntKind.u8.wrap (BitVec.ofInt 8 ((s.getD 0 0).toNat:Int) &&& BitVec.ofInt 8 128).toNat) == 0) kz ((qcw _ (qbR s 0)).trans (decide_eq_false (by have:=h0; unfold oc at this; omega))) ?_
 refine qan [(0,.v (.slice A s.length c)),(4,.v (.int .u32 (IntKind.u32.wrap (IntKind.u8.wrap (BitVec.ofInt 8 ((s.getD 0 0).toNat:Int) &&& BitVec.ofInt 8 127).toNat)))),(22,.v (.bool (decide (((s.length:Nat):Int) < 2))))] hW ag fun bz ah=>?_
 refine qao ah (b:=decide (((s.length:Nat):Int) < 2)) kz (decide_eq_false (by omega)) ?_
 refine wp_skip ?_
 refine qab ?_
 refine qae [0,1,2,3,4,5,6,7,8] kz ?_
 refine qai [0,1] [2,3,4,5,6,7,8] [(0,.v (.slice A s.length c)),(23,.v (.int .u32 (IntKind.u32.wrap (IntKind.u8.wrap (BitVec.ofInt 8 ((s.getD 0 0).toNat:Int) &&& BitVec.ofInt 8 127).toNat)))),(24,.v (.slice A s.length c))] hW ah fun bA aC=>?_
 obtain ⟨aZ,ba,ai,bj,ab⟩:=Slots.get ho (i:=1) (by first | omega | (simp only [List.length_append,be_length,List.length_cons,List.length_nil] at *; omega))
 refine qak (qaC aC (t:=22) (A:=A) (m:=s.length) (q:=1) (d:=25) kz (e:=5) (size:=1) (bytes:=1) (j:=1) kz ai rfl (by first | omega | (simp only [List.length_append,be_length,List.length_cons,List.length_nil] at *; omega)) fun bB aD=>?_)
 refine qak (qaJ aD (t:=5) (b:=aZ) (o:=ba + 1 * 1) (d:=26) kz (cs:=[.int .u8 ((s.getD 1 0).toNat:Int)]) (v:=.int .u8 ((s.getD 1 0).toNat:Int)) kz (AtF.move ab hW.step nilM qaY).at_ fun bC aE=>?_)
 refine qai [4,5,6,7,8] [] [(0,.v (.slice A s.length c)),(4,.v (.int .u32 (IntKind.u32.wrap (BitVec.ofInt 32 (IntKind.u32.wrap (IntKind.u8.wrap (BitVec.ofInt 8 ((s.getD 0 0).toNat:Int) &&& BitVec.ofInt 8 127).toNat)) ||| BitVec.ofInt 32 (IntKind.u32.wrap ((IntKind.u32.wrap (IntKind.u8.wrap (BitVec.ofInt 8 ((s.getD 1 0).toNat:Int) &&& BitVec.ofInt 8 127).toNat)) * 128))).toNat)))] hW aE fun bD aF=>?_
 refine qaf (qab ?_)
 refine wp_seq ?_
 refine qae [0,1,2,3,4] kz ?_
 refine qai [0] [1,2,3,4] [(0,.v (.slice A s.length c)),(4,.v (.int .u32 (IntKind.u32.wrap (BitVec.ofInt 32 (IntKind.u32.wrap (IntKind.u8.wrap (BitVec.ofInt 8 ((s.getD 0 0).toNat:Int) &&& BitVec.ofInt 8 127).toNat)) ||| BitVec.ofInt 32 (IntKind.u32.wrap ((IntKind.u32.wrap (IntKind.u8.wrap (BitVec.ofInt 8 ((s.getD 1 0).toNat:Int) &&& BitVec.ofInt 8 127).toNat)) * 128))).toNat))),(31,.v (.slice A s.length c))] hW aF fun bE aG=>?_
 refine qak (qaC aG (t:=22) (A:=A) (m:=s.length) (q:=1) (d:=32) kz (e:=5) (size:=1) (bytes:=1) (j:=1) kz ai rfl (by first | omega | (simp only [List.length_append,be_length,List.length_cons,List.length_nil] at *; omega)) fun bF aH=>?_)
 refine qak (qaJ aH (t:=5) (b:=aZ) (o:=ba + 1 * 1) (d:=33) kz (cs:=[.int .u8 ((s.getD 1 0).toNat:Int)]) (v:=.int .u8 ((s.getD 1 0).toNat:Int)) kz (AtF.move ab hW.step nilM qaY).at_ fun bG aI=>?_)
 refine qai [3,4] [] [(0,.v (.slice A s.length c)),(4,.v (.int .u32 (IntKind.u32.wrap (BitVec.ofInt 32 (IntKind.u32.wrap (IntKind.u8.wrap (BitVec.ofInt 8 ((s.getD 0 0).toNat:Int) &&& BitVec.ofInt 8 127).toNat)) ||| BitVec.ofInt 32 (IntKind.u32.wrap ((IntKind.u32.wrap (IntKind.u8.wrap (BitVec.ofInt 8 ((s.getD 1 0).toNat:Int) &&& BitVec.ofInt 8 127).toNat)) * 128))).toNat))),(35,.v (.bool ((IntKind.u8.wrap (BitVec.ofInt 8 ((s.getD 1 0).toNat:Int) &&& BitVec.ofInt 8 128).toNat) == 0)))] hW aI fun bH aj=>?_
 refine qaf (qab ?_)
 refine qao aj (b:=(IntKind.u8.wrap (BitVec.ofInt 8 ((s.getD 1 0).toNat:Int) &&& BitVec.ofInt 8 128).toNat) == 0) kz ((qcw _ (qbR s 1)).trans (decide_eq_false (by have:=h1; unfold oc at this; omega))) ?_
 refine qan [(0,.v (.slice A s.length c)),(4,.v (.int .u32 (IntKind.u32.wrap (BitVec.ofInt 32 (IntKind.u32.wrap (IntKind.u8.wrap (BitVec.ofInt 8 ((s.getD 0 0).toNat:Int) &&& BitVec.ofInt 8 127).toNat)) ||| BitVec.ofInt 32 (IntKind.u32.wrap ((IntKind.u32.wrap (IntKind.u8.wrap (BitVec.ofInt 8 ((s.getD 1 0).toNat:Int) &&& BitVec.ofInt 8 127).toNat)) * 128))).toNat))),(39,.v (.bool (decide (((s.length:Nat):Int) < 3))))] hW aj fun bI ak=>?_
 refine qao ak (b:=decide (((s.length:Nat):Int) < 3)) kz (decide_eq_false (by omega)) ?_
 refine wp_skip ?_
 refine qab ?_
 refine qae [0,1,2,3,4,5,6,7,8] kz ?_
 refine qai [0,1] [2,3,4,5,6,7,8] [(0,.v (.slice A s.length c)),(40,.v (.int .u32 (IntKind.u32.wrap (BitVec.ofInt 32 (IntKind.u32.wrap (IntKind.u8.wrap (BitVec.ofInt 8 ((s.getD 0 0).toNat:Int) &&& BitVec.ofInt 8 127).toNat)) ||| BitVec.ofInt 32 (IntKind.u32.wrap ((IntKind.u32.wrap (IntKind.u8.wrap (BitVec.ofInt 8 ((s.getD 1 0).toNat:Int) &&& BitVec.ofInt 8 127).toNat)) * 128))).toNat))),(41,.v (.slice A s.length c))] hW ak fun bJ aJ=>?_
 obtain ⟨bd,bf,al,bk,ac⟩:=Slots.get ho (i:=2) (by first | omega | (simp only [List.length_append,be_length,List.length_cons,List.length_nil] at *; omega))
 refine qak (qaC aJ (t:=22) (A:=A) (m:=s.length) (q:=2) (d:=42) kz (e:=5) (size:=1) (bytes:=1) (j:=2) kz al rfl (by first | omega | (simp only [List.length_append,be_length,List.length_cons,List.length_nil] at *; omega)) fun bK aK=>?_)
 refine qak (qaJ aK (t:=5) (b:=bd) (o:=bf + 2 * 1) (d:=43) kz (cs:=[.int .u8 ((s.getD 2 0).toNat:Int)]) (v:=.int .u8 ((s.getD 2 0).toNat:Int)) kz (AtF.move ac hW.step nilM qaY).at_ fun bL aL=>?_)
 refine qai [4,5,6,7,8] [] [(0,.v (.slice A s.length c)),(4,.v (.int .u32 (IntKind.u32.wrap (BitVec.ofInt 32 (IntKind.u32.wrap (BitVec.ofInt 32 (IntKind.u32.wrap (IntKind.u8.wrap (BitVec.ofInt 8 ((s.getD 0 0).toNat:Int) &&& BitVec.ofInt 8 127).toNat)) ||| BitVec.ofInt 32 (IntKind.u32.wrap ((IntKind.u32.wrap (IntKind.u8.wrap (BitVec.ofInt 8 ((s.getD 1 0).toNat:Int) &&& BitVec.ofInt 8 127).toNat)) * 128))).toNat) ||| BitVec.ofInt 32 (IntKind.u32.wrap ((IntKind.u32.wrap (IntKind.u8.wrap (BitVec.ofInt 8 ((s.getD 2 0).toNat:Int) &&& BitVec.ofInt 8 127).toNat)) * 16384))).toNat)))] hW aL fun bM aM=>?_
 refine qaf (qab ?_)
 refine wp_seq ?_
 refine qae [0,1,2,3,4] kz ?_
 refine qai [0] [1,2,3,4] [(0,.v (.slice A s.length c)),(4,.v (.int .u32 (IntKind.u32.wrap (BitVec.ofInt 32 (IntKind.u32.wrap (BitVec.ofInt 32 (IntKind.u32.wrap (IntKind.u8.wrap (BitVec.ofInt 8 ((s.getD 0 0).toNat:Int) &&& BitVec.ofInt 8 127).toNat)) ||| BitVec.ofInt 32 (IntKind.u32.wrap ((IntKind.u32.wrap (IntKind.u8.wrap (BitVec.ofInt 8 ((s.getD 1 0).toNat:Int) &&& BitVec.ofInt 8 127).toNat)) * 128))).toNat) ||| BitVec.ofInt 32 (IntKind.u32.wrap ((IntKind.u32.wrap (IntKind.u8.wrap (BitVec.ofInt 8 ((s.getD 2 0).toNat:Int) &&& BitVec.ofInt 8 127).toNat)) * 16384))).toNat))),(48,.v (.slice A s.length c))] hW aM fun bN aN=>?_
 refine qak (qaC aN (t:=22) (A:=A) (m:=s.length) (q:=2) (d:=49) kz (e:=5) (size:=1) (bytes:=1) (j:=2) kz al rfl (by first | omega | (simp only [List.length_append,be_length,List.length_cons,List.length_nil] at *; omega)) fun bO aO=>?_)
 refine qak (qaJ aO (t:=5) (b:=bd) (o:=bf + 2 * 1) (d:=50) kz (cs:=[.int .u8 ((s.getD 2 0).toNat:Int)]) (v:=.int .u8 ((s.getD 2 0).toNat:Int)) kz (AtF.move ac hW.step nilM qaY).at_ fun bP aP=>?_)
 refine qai [3,4] [] [(0,.v (.slice A s.length c)),(4,.v (.int .u32 (IntKind.u32.wrap (BitVec.ofInt 32 (IntKind.u32.wrap (BitVec.ofInt 32 (IntKind.u32.wrap (IntKind.u8.wrap (BitVec.ofInt 8 ((s.getD 0 0).toNat:Int) &&& BitVec.ofInt 8 127).toNat)) ||| BitVec.ofInt 32 (IntKind.u32.wrap ((IntKind.u32.wrap (IntKind.u8.wrap (BitVec.ofInt 8 ((s.getD 1 0).toNat:Int) &&& BitVec.ofInt 8 127).toNat)) * 128))).toNat) ||| BitVec.ofInt 32 (IntKind.u32.wrap ((IntKind.u32.wrap (IntKind.u8.wrap (BitVec.ofInt 8 ((s.getD 2 0).toNat:Int) &&& BitVec.ofInt 8 127).toNat)) * 16384))).toNat))),(52,.v (.bool ((IntKind.u8.wrap (BitVec.ofInt 8 ((s.getD 2 0).toNat:Int) &&& BitVec.ofInt 8 128).toNat) == 0)))] hW aP fun bQ am=>?_
 refine qaf (qab ?_)
 refine qao am (b:=(IntKind.u8.wrap (BitVec.ofInt 8 ((s.getD 2 0).toNat:Int) &&& BitVec.ofInt 8 128).toNat) == 0) kz ((qcw _ (qbR s 2)).trans (decide_eq_false (by have:=h2; unfold oc at this; omega))) ?_
 refine qan [(0,.v (.slice A s.length c)),(4,.v (.int .u32 (IntKind.u32.wrap (BitVec.ofInt 32 (IntKind.u32.wrap (BitVec.ofInt 32 (IntKind.u32.wrap (IntKind.u8.wrap (BitVec.ofInt 8 ((s.getD 0 0).toNat:Int) &&& BitVec.ofInt 8 127).toNat)) ||| BitVec.ofInt 32 (IntKind.u32.wrap ((IntKind.u32.wrap (IntKind.u8.wrap (BitVec.ofInt 8 ((s.getD 1 0).toNat:Int) &&& BitVec.ofInt 8 127).toNat)) * 128))).toNat) ||| BitVec.ofInt 32 (IntKind.u32.wrap ((IntKind.u32.wrap (IntKind.u8.wrap (BitVec.ofInt 8 ((s.getD 2 0).toNat:Int) &&& BitVec.ofInt 8 127).toNat)) * 16384))).toNat))),(56,.v (.bool (decide (((s.length:Nat):Int) < 4))))] hW am fun bR ao=>?_
 refine qao ao (b:=decide (((s.length:Nat):Int) < 4)) kz (decide_eq_false (by omega)) ?_
 refine wp_skip ?_
 refine qab ?_
 refine qae [0,1,2,3,4,5,6,7,8] kz ?_
 refine qai [0,1] [2,3,4,5,6,7,8] [(0,.v (.slice A s.length c)),(57,.v (.int .u32 (IntKind.u32.wrap (BitVec.ofInt 32 (IntKind.u32.wrap (BitVec.ofInt 32 (IntKind.u32.wrap (IntKind.u8.wrap (BitVec.ofInt 8 ((s.getD 0 0).toNat:Int) &&& BitVec.ofInt 8 127).toNat)) ||| BitVec.ofInt 32 (IntKind.u32.wrap ((IntKind.u32.wrap (IntKind.u8.wrap (BitVec.ofInt 8 ((s.getD 1 0).toNat:Int) &&& BitVec.ofInt 8 127).toNat)) * 128))).toNat) ||| BitVec.ofInt 32 (IntKind.u32.wrap ((IntKind.u32.wrap (IntKind.u8.wrap (BitVec.ofInt 8 ((s.getD 2 0).toNat:Int) &&& BitVec.ofInt 8 127).toNat)) * 16384))).toNat))),(58,.v (.slice A s.length c))] hW ao fun bS aQ=>?_
 obtain ⟨bg,bh,ap,bn,ae⟩:=Slots.get ho (i:=3) (by first | omega | (simp only [List.length_append,be_length,List.length_cons,List.length_nil] at *; omega))
 refine qak (qaC aQ (t:=22) (A:=A) (m:=s.length) (q:=3) (d:=59) kz (e:=5) (size:=1) (bytes:=1) (j:=3) kz ap rfl (by first | omega | (simp only [List.length_append,be_length,List.length_cons,List.length_nil] at *; omega)) fun bT aR=>?_)
 refine qak (qaJ aR (t:=5) (b:=bg) (o:=bh + 3 * 1) (d:=60) kz (cs:=[.int .u8 ((s.getD 3 0).toNat:Int)]) (v:=.int .u8 ((s.getD 3 0).toNat:Int)) kz (AtF.move ae hW.step nilM qaY).at_ fun bU aS=>?_)
 refine qai [4,5,6,7,8] [] [(0,.v (.slice A s.length c)),(4,.v (.int .u32 (IntKind.u32.wrap (BitVec.ofInt 32 (IntKind.u32.wrap (BitVec.ofInt 32 (IntKind.u32.wrap (BitVec.ofInt 32 (IntKind.u32.wrap (IntKind.u8.wrap (BitVec.ofInt 8 ((s.getD 0 0).toNat:Int) &&& BitVec.ofInt 8 127).toNat)) ||| BitVec.ofInt 32 (IntKind.u32.wrap ((IntKind.u32.wrap (IntKind.u8.wrap (BitVec.ofInt 8 ((s.getD 1 0).toNat:Int) &&& BitVec.ofInt 8 127).toNat)) * 128))).toNat) ||| BitVec.ofInt 32 (IntKind.u32.wrap ((IntKind.u32.wrap (IntKind.u8.wrap (BitVec.ofInt 8 ((s.getD 2 0).toNat:Int) &&& BitVec.ofInt 8 127).toNat)) * 16384))).toNat) ||| BitVec.ofInt 32 (IntKind.u32.wrap ((IntKind.u32.wrap (IntKind.u8.wrap (BitVec.ofInt 8 ((s.getD 3 0).toNat:Int) &&& BitVec.ofInt 8 127).toNat)) * 2097152))).toNat)))] hW aS fun bV aT=>?_
 refine qaf (qab ?_)
 refine wp_seq ?_
 refine qae [0,1,2,3,4] kz ?_
 refine qai [0] [1,2,3,4] [(0,.v (.slice A s.length c)),(4,.v (.int .u32 (IntKind.u32.wrap (BitVec.ofInt 32 (IntKind.u32.wrap (BitVec.ofInt 32 (IntKind.u32.wrap (BitVec.ofInt 32 (IntKind.u32.wrap (IntKind.u8.wrap (BitVec.ofInt 8 ((s.getD 0 0).toNat:Int) &&& BitVec.ofInt 8 127).toNat)) ||| BitVec.ofInt 32 (IntKind.u32.wrap ((IntKind.u32.wrap (IntKind.u8.wrap (BitVec.ofInt 8 ((s.getD 1 0).toNat:Int) &&& BitVec.ofInt 8 127).toNat)) * 128))).toNat) ||| BitVec.ofInt 32 (IntKind.u32.wrap ((IntKind.u32.wrap (IntKind.u8.wrap (BitVec.ofInt 8 ((s.getD 2 0).toNat:Int) &&& BitVec.ofInt 8 127).toNat)) * 16384))).toNat) ||| BitVec.ofInt 32 (IntKind.u32.wrap ((IntKind.u32.wrap (IntKind.u8.wrap (BitVec.ofInt 8 ((s.getD 3 0).toNat:Int) &&& BitVec.ofInt 8 127).toNat)) * 2097152))).toNat))),(65,.v (.slice A s.length c))] hW aT fun bW aU=>?_
 refine qak (qaC aU (t:=22) (A:=A) (m:=s.length) (q:=3) (d:=66) kz (e:=5) (size:=1) (bytes:=1) (j:=3) kz ap rfl (by first | omega | (simp only [List.length_append,be_length,List.length_cons,List.length_nil] at *; omega)) fun bX aV=>?_)
 refine qak (qaJ aV (t:=5) (b:=bg) (o:=bh + 3 * 1) (d:=67) kz (cs:=[.int .u8 ((s.getD 3 0).toNat:Int)]) (v:=.int .u8 ((s.getD 3 0).toNat:Int)) kz (AtF.move ae hW.step nilM qaY).at_ fun bY aW=>?_)
 refine qai [3,4] [] [(0,.v (.slice A s.length c)),(4,.v (.int .u32 (IntKind.u32.wrap (BitVec.ofInt 32 (IntKind.u32.wrap (BitVec.ofInt 32 (IntKind.u32.wrap (BitVec.ofInt 32 (IntKind.u32.wrap (IntKind.u8.wrap (BitVec.ofInt 8 ((s.getD 0 0).toNat:Int) &&& BitVec.ofInt 8 127).toNat)) ||| BitVec.ofInt 32 (IntKind.u32.wrap ((IntKind.u32.wrap (IntKind.u8.wrap (BitVec.ofInt 8 ((s.getD 1 0).toNat:Int) &&& BitVec.ofInt 8 127).toNat)) * 128))).toNat) ||| BitVec.ofInt 32 (IntKind.u32.wrap ((IntKind.u32.wrap (IntKind.u8.wrap (BitVec.ofInt 8 ((s.getD 2 0).toNat:Int) &&& BitVec.ofInt 8 127).toNat)) * 16384))).toNat) ||| BitVec.ofInt 32 (IntKind.u32.wrap ((IntKind.u32.wrap (IntKind.u8.wrap (BitVec.ofInt 8 ((s.getD 3 0).toNat:Int) &&& BitVec.ofInt 8 127).toNat)) * 2097152))).toNat))),(69,.v (.bool ((IntKind.u8.wrap (BitVec.ofInt 8 ((s.getD 3 0).toNat:Int) &&& BitVec.ofInt 8 128).toNat) == 0)))] hW aW fun bZ ar=>?_
 refine qaf (qab ?_)
 refine qaW ar (b:=(IntKind.u8.wrap (BitVec.ofInt 8 ((s.getD 3 0).toNat:Int) &&& BitVec.ofInt 8 128).toNat) == 0) kz ((qcw _ (qbR s 3)).trans (decide_eq_true (by have:=h3; unfold oc at this; omega))) ?_
 refine qan [(2,.v (.int .u32 (IntKind.u32.wrap (BitVec.ofInt 32 (IntKind.u32.wrap (BitVec.ofInt 32 (IntKind.u32.wrap (BitVec.ofInt 32 (IntKind.u32.wrap (IntKind.u8.wrap (BitVec.ofInt 8 ((s.getD 0 0).toNat:Int) &&& BitVec.ofInt 8 127).toNat)) ||| BitVec.ofInt 32 (IntKind.u32.wrap ((IntKind.u32.wrap (IntKind.u8.wrap (BitVec.ofInt 8 ((s.getD 1 0).toNat:Int) &&& BitVec.ofInt 8 127).toNat)) * 128))).toNat) ||| BitVec.ofInt 32 (IntKind.u32.wrap ((IntKind.u32.wrap (IntKind.u8.wrap (BitVec.ofInt 8 ((s.getD 2 0).toNat:Int) &&& BitVec.ofInt 8 127).toNat)) * 16384))).toNat) ||| BitVec.ofInt 32 (IntKind.u32.wrap ((IntKind.u32.wrap (IntKind.u8.wrap (BitVec.ofInt 8 ((s.getD 3 0).toNat:Int) &&& BitVec.ofInt 8 127).toNat)) * 2097152))).toNat))),(3,.v (.int .i64 4))] hW ar fun b8 au=>?_
 refine wp_ret ?_
 refine qam ?_
 refine qde ?_
 refine qaF au hW.cells (v:=.tuple #[.int .u32 (IntKind.u32.wrap (BitVec.ofInt 32 (IntKind.u32.wrap (BitVec.ofInt 32 (IntKind.u32.wrap (BitVec.ofInt 32 (IntKind.u32.wrap (IntKind.u8.wrap (BitVec.ofInt 8 ((s.getD 0 0).toNat:Int) &&& BitVec.ofInt 8 127).toNat)) ||| BitVec.ofInt 32 (IntKind.u32.wrap ((IntKind.u32.wrap (IntKind.u8.wrap (BitVec.ofInt 8 ((s.getD 1 0).toNat:Int) &&& BitVec.ofInt 8 127).toNat)) * 128))).toNat) ||| BitVec.ofInt 32 (IntKind.u32.wrap ((IntKind.u32.wrap (IntKind.u8.wrap (BitVec.ofInt 8 ((s.getD 2 0).toNat:Int) &&& BitVec.ofInt 8 127).toNat)) * 16384))).toNat) ||| BitVec.ofInt 32 (IntKind.u32.wrap ((IntKind.u32.wrap (IntKind.u8.wrap (BitVec.ofInt 8 ((s.getD 3 0).toNat:Int) &&& BitVec.ofInt 8 127).toNat)) * 2097152))).toNat),.int .i64 4]) kz ?_
 have e_:=uv_4 (oc s 0) (oc s 1) (oc s 2) (oc s 3) (qbR s 0) (qbR s 1) (qbR s 2) (qbR s 3)
 refine ⟨congrArg (fun z_:Int=>Ending.returned (.tuple #[.int .u32 z_,.int .i64 4])) (Eq.trans e_ ?_),hW.step⟩
 omega
theorem rUv5 {A:Option Addr} {c:Nat} (s:Bs) {w:World} {F:Nat → Nat → Prop} (ho:Octs w F A c s) (hl:5 ≤ s.length) (d0 d1 d2 d3 d4:Nat) (h0:oc s 0 = d0 + 128) (h1:oc s 1 = d1 + 128) (h2:oc s 2 = d2 + 128) (h3:oc s 3 = d3 + 128) (h4:oc s 4 = d4) (g0:d0 < 128) (g1:d1 < 128) (g2:d2 < 128) (g3:d3 < 128) (g4:d4 < 16) :
  Calls Tryz.prog 205 #[.slice A s.length c] w (qbX w (.tuple #[.int .u32 ((d0 + d1 * 128 + d2 * 16384 + d3 * 2097152 + d4 * 268435456:Nat):Int),.int .i64 5])):=by
 refine enter (n:=87) Tryz.func205 rfl Tryz.ntmps205 kz fun a hE=>?_
 have hW:=WOk.start w Nil
 refine qan [(0,.v (.slice A s.length c))] hW hE fun a1 hE2=>?_
 refine wp_scope_straight ?_
 refine qan [(0,.v (.slice A s.length c))] hW hE2 fun a3 hE4=>?_
 refine qan [(0,.v (.slice A s.length c))] hW hE4 fun a5 hE6=>?_
 refine wp_seq ?_
 refine qan [(0,.v (.slice A s.length c)),(8,.v (.bool (decide (((s.length:Nat):Int) < 1))))] hW hE6 fun a7 hE8=>?_
 refine qao hE8 (b:=decide (((s.length:Nat):Int) < 1)) kz (decide_eq_false (by omega)) ?_
 refine wp_skip ?_
 refine qab ?_
 refine qae [0,1,2,3,4,5] kz ?_
 refine qai [0] [1,2,3,4,5] [(0,.v (.slice A s.length c)),(9,.v (.slice A s.length c))] hW hE8 fun a9 aI=>?_
 obtain ⟨bp,bq,aj,bC,ab⟩:=Slots.get ho (i:=0) (by first | omega | (simp only [List.length_append,be_length,List.length_cons,List.length_nil] at *; omega))
 refine qak (qaC aI (t:=22) (A:=A) (m:=s.length) (q:=0) (d:=10) kz (e:=5) (size:=1) (bytes:=1) (j:=0) kz aj rfl (by first | omega | (simp only [List.length_append,be_length,List.length_cons,List.length_nil] at *; omega)) fun bP aJ=>?_)
 refine qak (qaJ aJ (t:=5) (b:=bp) (o:=bq + 0 * 1) (d:=11) kz (cs:=[.int .u8 ((s.getD 0 0).toNat:Int)]) (v:=.int .u8 ((s.getD 0 0).toNat:Int)) kz (AtF.move ab hW.step nilM qaY).at_ fun bQ aK=>?_)
 refine qai [3,4,5] [] [(0,.v (.slice A s.length c)),(4,.v (.int .u32 (IntKind.u32.wrap (IntKind.u8.wrap (BitVec.ofInt 8 ((s.getD 0 0).toNat:Int) &&& BitVec.ofInt 8 127).toNat))))] hW aK fun bR aL=>?_
 refine qaf (qab ?_)
 refine wp_seq ?_
 refine qae [0,1,2,3,4] kz ?_
 refine qai [0] [1,2,3,4] [(0,.v (.slice A s.length c)),(4,.v (.int .u32 (IntKind.u32.wrap (IntKind.u8.wrap (BitVec.ofInt 8 ((s.getD 0 0).toNat:Int) &&& BitVec.ofInt 8 127).toNat)))),(14,.v (.slice A s.length c))] hW aL fun bS aM=>?_
 refine qak (qaC aM (t:=22) (A:=A) (m:=s.length) (q:=0) (d:=15) kz (e:=5) (size:=1) (bytes:=1) (j:=0) kz aj rfl (by first | omega | (simp only [List.length_append,be_length,List.length_cons,List.length_nil] at *; omega)) fun bT aN=>?_)
 refine qak (qaJ aN (t:=5) (b:=bp) (o:=bq + 0 * 1) (d:=16) kz (cs:=[.int .u8 ((s.getD 0 0).toNat:Int)]) (v:=.int .u8 ((s.getD 0 0).toNat:Int)) kz (AtF.move ab hW.step nilM qaY).at_ fun bU aO=>?_)
 refine qai [3,4] [] [(0,.v (.slice A s.length c)),(4,.v (.int .u32 (IntKind.u32.wrap (IntKind.u8.wrap (BitVec.ofInt 8 ((s.getD 0 0).toNat:Int) &&& BitVec.ofInt 8 127).toNat)))),(18,.v (.bool ((IntKind.u8.wrap (BitVec.ofInt 8 ((s.getD 0 0).toNat:Int) &&& BitVec.ofInt 8 128).toNat) == 0)))] hW aO fun bV ak=>?_
 refine qaf (qab ?_)
 refine qao ak (b:=(IntKind.u8.wrap (BitVec.ofInt 8 ((s.getD 0 0).toNat:Int) &&& BitVec.ofInt 8 128).toNat) == 0) kz ((qcw _ (qbR s 0)).trans (decide_eq_false (by have:=h0; unfold oc at this; omega))) ?_
 refine qan [(0,.v (.slice A s.length c)),(4,.v (.int .u32 (IntKind.u32.wrap (IntKind.u8.wrap (BitVec.ofInt 8 ((s.getD 0 0).toNat:Int) &&& BitVec.ofInt 8 127).toNat)))),(22,.v (.bool (decide (((s.length:Nat):Int) < 2))))] hW ak fun bW al=>?_
 refine qao al (b:=decide (((s.length:Nat):Int) < 2)) kz (decide_eq_false (by omega)) ?_
 refine wp_skip ?_
 refine qab ?_
 refine qae [0,1,2,3,4,5,6,7,8] kz ?_
 refine qai [0,1] [2,3,4,5,6,7,8] [(0,.v (.slice A s.length c)),(23,.v (.int .u32 (IntKind.u32.wrap (IntKind.u8.wrap (BitVec.ofInt 8 ((s.getD 0 0).toNat:Int) &&& BitVec.ofInt 8 127).toNat)))),(24,.v (.slice A s.length c))] hW al fun bX aP=>?_
 obtain ⟨bt,bu,am,bD,ac⟩:=Slots.get ho (i:=1) (by first | omega | (simp only [List.length_append,be_length,List.length_cons,List.length_nil] at *; omega))
 refine qak (qaC aP (t:=22) (A:=A) (m:=s.length) (q:=1) (d:=25) kz (e:=5) (size:=1) (bytes:=1) (j:=1) kz am rfl (by first | omega | (simp only [List.length_append,be_length,List.length_cons,List.length_nil] at *; omega)) fun bY aQ=>?_)
 refine qak (qaJ aQ (t:=5) (b:=bt) (o:=bu + 1 * 1) (d:=26) kz (cs:=[.int .u8 ((s.getD 1 0).toNat:Int)]) (v:=.int .u8 ((s.getD 1 0).toNat:Int)) kz (AtF.move ac hW.step nilM qaY).at_ fun bZ aR=>?_)
 refine qai [4,5,6,7,8] [] [(0,.v (.slice A s.length c)),(4,.v (.int .u32 (IntKind.u32.wrap (BitVec.ofInt 32 (IntKind.u32.wrap (IntKind.u8.wrap (BitVec.ofInt 8 ((s.getD 0 0).toNat:Int) &&& BitVec.ofInt 8 127).toNat)) ||| BitVec.ofInt 32 (IntKind.u32.wrap ((IntKind.u32.wrap (IntKind.u8.wrap (BitVec.ofInt 8 ((s.getD 1 0).toNat:Int) &&& BitVec.ofInt 8 127).toNat)) * 128))).toNat)))] hW aR fun b8 aS=>?_
 refine qaf (qab ?_)
 refine wp_seq ?_
 refine qae [0,1,2,3,4] kz ?_
 refine qai [0] [1,2,3,4] [(0,.v (.slice A s.length c)),(4,.v (.int .u32 (IntKind.u32.wrap (BitVec.ofInt 32 (IntKind.u32.wrap (IntKind.u8.wrap (BitVec.ofInt 8 ((s.getD 0 0).toNat:Int) &&& BitVec.ofInt 8 127).toNat)) ||| BitVec.ofInt 32 (IntKind.u32.wrap ((IntKind.u32.wrap (IntKind.u8.wrap (BitVec.ofInt 8 ((s.getD 1 0).toNat:Int) &&& BitVec.ofInt 8 127).toNat)) * 128))).toNat))),(31,.v (.slice A s.length c))] hW aS fun cd aT=>?_
 refine qak (qaC aT (t:=22) (A:=A) (m:=s.length) (q:=1) (d:=32) kz (e:=5) (size:=1) (bytes:=1) (j:=1) kz am rfl (by first | omega | (simp only [List.length_append,be_length,List.length_cons,List.length_nil] at *; omega)) fun ce aU=>?_)
 refine qak (qaJ aU (t:=5) (b:=bt) (o:=bu + 1 * 1) (d:=33) kz (cs:=[.int .u8 ((s.getD 1 0).toNat:Int)]) (v:=.int .u8 ((s.getD 1 0).toNat:Int)) kz (AtF.move ac hW.step nilM qaY).at_ fun cm aV=>?_)
 refine qai [3,4] [] [(0,.v (.slice A s.length c)),(4,.v (.int .u32 (IntKind.u32.wrap (BitVec.ofInt 32 (IntKind.u32.wrap (IntKind.u8.wrap (BitVec.ofInt 8 ((s.getD 0 0).toNat:Int) &&& BitVec.ofInt 8 127).toNat)) ||| BitVec.ofInt 32 (IntKind.u32.wrap ((IntKind.u32.wrap (IntKind.u8.wrap (BitVec.ofInt 8 ((s.getD 1 0).toNat:Int) &&& BitVec.ofInt 8 127).toNat)) * 128))).toNat))),(35,.v (.bool ((IntKind.u8.wrap (BitVec.ofInt 8 ((s.getD 1 0).toNat:Int) &&& BitVec.ofInt 8 128).toNat) == 0)))] hW aV fun cq ao=>?_
 refine qaf (qab ?_)
 refine qao ao (b:=(IntKind.u8.wrap (BitVec.ofInt 8 ((s.getD 1 0).toNat:Int) &&& BitVec.ofInt 8 128).toNat) == 0) kz ((qcw _ (qbR s 1)).trans (decide_eq_false (by have:=h1; unfold oc at this; omega))) ?_
 refine qan [(0,.v (.slice A s.length c)),(4,.v (.int .u32 (IntKind.u32.wrap (BitVec.ofInt 32 (IntKind.u32.wrap (IntKind.u8.wrap (BitVec.ofInt 8 ((s.getD 0 0).toNat:Int) &&& BitVec.ofInt 8 127).toNat)) ||| BitVec.ofInt 32 (IntKind.u32.wrap ((IntKind.u32.wrap (IntKind.u8.wrap (BitVec.ofInt 8 ((s.getD 1 0).toNat:Int) &&& BitVec.ofInt 8 127).toNat)) * 128))).toNat))),(39,.v (.bool (decide (((s.length:Nat):Int) < 3))))] hW ao fun cr ap=>?_
 refine qao ap (b:=decide (((s.length:Nat):Int) < 3)) kz (decide_eq_false (by omega)) ?_
 refine wp_skip ?_
 refine qab ?_
 refine qae [0,1,2,3,4,5,6,7,8] kz ?_
 refine qai [0,1] [2,3,4,5,6,7,8] [(0,.v (.slice A s.length c)),(40,.v (.int .u32 (IntKind.u32.wrap (BitVec.ofInt 32 (IntKind.u32.wrap (IntKind.u8.wrap (BitVec.ofInt 8 ((s.getD 0 0).toNat:Int) &&& BitVec.ofInt 8 127).toNat)) ||| BitVec.ofInt 32 (IntKind.u32.wrap ((IntKind.u32.wrap (IntKind.u8.wrap (BitVec.ofInt 8 ((s.getD 1 0).toNat:Int) &&& BitVec.ofInt 8 127).toNat)) * 128))).toNat))),(41,.v (.slice A s.length c))] hW ap fun cu aW=>?_
 obtain ⟨bw,bx,ar,bE,ae⟩:=Slots.get ho (i:=2) (by first | omega | (simp only [List.length_append,be_length,List.length_cons,List.length_nil] at *; omega))
 refine qak (qaC aW (t:=22) (A:=A) (m:=s.length) (q:=2) (d:=42) kz (e:=5) (size:=1) (bytes:=1) (j:=2) kz ar rfl (by first | omega | (simp only [List.length_append,be_length,List.length_cons,List.length_nil] at *; omega)) fun cw aX=>?_)
 refine qak (qaJ aX (t:=5) (b:=bw) (o:=bx + 2 * 1) (d:=43) kz (cs:=[.int .u8 ((s.getD 2 0).toNat:Int)]) (v:=.int .u8 ((s.getD 2 0).toNat:Int)) kz (AtF.move ae hW.step nilM qaY).at_ fun cz aY=>?_)
 refine qai [4,5,6,7,8] [] [(0,.v (.slice A s.length c)),(4,.v (.int .u32 (IntKind.u32.wrap (BitVec.ofInt 32 (IntKind.u32.wrap (BitVec.ofInt 32 (IntKind.u32.wrap (IntKind.u8.wrap (BitVec.ofInt 8 ((s.getD 0 0).toNat:Int) &&& BitVec.ofInt 8 127).toNat)) ||| BitVec.ofInt 32 (IntKind.u32.wrap ((IntKind.u32.wrap (IntKind.u8.wrap (BitVec.ofInt 8 ((s.getD 1 0).toNat:Int) &&& BitVec.ofInt 8 127).toNat)) * 128))).toNat) ||| BitVec.ofInt 32 (IntKind.u32.wrap ((IntKind.u32.wrap (IntKind.u8.wrap (BitVec.ofInt 8 ((s.getD 2 0).toNat:Int) &&& BitVec.ofInt 8 127).toNat)) * 16384))).toNat)))] hW aY fun cA aZ=>?_
 refine qaf (qab ?_)
 refine wp_seq ?_
 refine qae [0,1,2,3,4] kz ?_
 refine qai [0] [1,2,3,4] [(0,.v (.slice A s.length c)),(4,.v (.int .u32 (IntKind.u32.wrap (BitVec.ofInt 32 (IntKind.u32.wrap (BitVec.ofInt 32 (IntKind.u32.wrap (IntKind.u8.wrap (BitVec.ofInt 8 ((s.getD 0 0).toNat:Int) &&& BitVec.ofInt 8 127).toNat)) ||| BitVec.ofInt 32 (IntKind.u32.wrap ((IntKind.u32.wrap (IntKind.u8.wrap (BitVec.ofInt 8 ((s.getD 1 0).toNat:Int) &&& BitVec.ofInt 8 127).toNat)) * 128))).toNat) ||| BitVec.ofInt 32 (IntKind.u32.wrap ((IntKind.u32.wrap (IntKind.u8.wrap (BitVec.ofInt 8 ((s.getD 2 0).toNat:Int) &&& BitVec.ofInt 8 127).toNat)) * 16384))).toNat))),(48,.v (.slice A s.length c))] hW aZ fun cB ba=>?_
 refine qak (qaC ba (t:=22) (A:=A) (m:=s.length) (q:=2) (d:=49) kz (e:=5) (size:=1) (bytes:=1) (j:=2) kz ar rfl (by first | omega | (simp only [List.length_append,be_length,List.length_cons,List.length_nil] at *; omega)) fun cC bd=>?_)
 refine qak (qaJ bd (t:=5) (b:=bw) (o:=bx + 2 * 1) (d:=50) kz (cs:=[.int .u8 ((s.getD 2 0).toNat:Int)]) (v:=.int .u8 ((s.getD 2 0).toNat:Int)) kz (AtF.move ae hW.step nilM qaY).at_ fun cD bf=>?_)
 refine qai [3,4] [] [(0,.v (.slice A s.length c)),(4,.v (.int .u32 (IntKind.u32.wrap (BitVec.ofInt 32 (IntKind.u32.wrap (BitVec.ofInt 32 (IntKind.u32.wrap (IntKind.u8.wrap (BitVec.ofInt 8 ((s.getD 0 0).toNat:Int) &&& BitVec.ofInt 8 127).toNat)) ||| BitVec.ofInt 32 (IntKind.u32.wrap ((IntKind.u32.wrap (IntKind.u8.wrap (BitVec.ofInt 8 ((s.getD 1 0).toNat:Int) &&& BitVec.ofInt 8 127).toNat)) * 128))).toNat) ||| BitVec.ofInt 32 (IntKind.u32.wrap ((IntKind.u32.wrap (IntKind.u8.wrap (BitVec.ofInt 8 ((s.getD 2 0).toNat:Int) &&& BitVec.ofInt 8 127).toNat)) * 16384))).toNat))),(52,.v (.bool ((IntKind.u8.wrap (BitVec.ofInt 8 ((s.getD 2 0).toNat:Int) &&& BitVec.ofInt 8 128).toNat) == 0)))] hW bf fun cE au=>?_
 refine qaf (qab ?_)
 refine qao au (b:=(IntKind.u8.wrap (BitVec.ofInt 8 ((s.getD 2 0).toNat:Int) &&& BitVec.ofInt 8 128).toNat) == 0) kz ((qcw _ (qbR s 2)).trans (decide_eq_false (by have:=h2; unfold oc at this; omega))) ?_
 refine qan [(0,.v (.slice A s.length c)),(4,.v (.int .u32 (IntKind.u32.wrap (BitVec.ofInt 32 (IntKind.u32.wrap (BitVec.ofInt 32 (IntKind.u32.wrap (IntKind.u8.wrap (BitVec.ofInt 8 ((s.getD 0 0).toNat:Int) &&& BitVec.ofInt 8 127).toNat)) ||| BitVec.ofInt 32 (IntKind.u32.wrap ((IntKind.u32.wrap (IntKind.u8.wrap (BitVec.ofInt 8 ((s.getD 1 0).toNat:Int) &&& BitVec.ofInt 8 127).toNat)) * 128))).toNat) ||| BitVec.ofInt 32 (IntKind.u32.wrap ((IntKind.u32.wrap (IntKind.u8.wrap (BitVec.ofInt 8 ((s.getD 2 0).toNat:Int) &&& BitVec.ofInt 8 127).toNat)) * 16384))).toNat))),(56,.v (.bool (decide (((s.length:Nat):Int) < 4))))] hW au fun cG av=>?_
 refine qao av (b:=decide (((s.length:Nat):Int) < 4)) kz (decide_eq_false (by omega)) ?_
 refine wp_skip ?_
 refine qab ?_
 refine qae [0,1,2,3,4,5,6,7,8] kz ?_
 refine qai [0,1] [2,3,4,5,6,7,8] [(0,.v (.slice A s.length c)),(57,.v (.int .u32 (IntKind.u32.wrap (BitVec.ofInt 32 (IntKind.u32.wrap (BitVec.ofInt 32 (IntKind.u32.wrap (IntKind.u8.wrap (BitVec.ofInt 8 ((s.getD 0 0).toNat:Int) &&& BitVec.ofInt 8 127).toNat)) ||| BitVec.ofInt 32 (IntKind.u32.wrap ((IntKind.u32.wrap (IntKind.u8.wrap (BitVec.ofInt 8 ((s.getD 1 0).toNat:Int) &&& BitVec.ofInt 8 127).toNat)) * 128))).toNat) ||| BitVec.ofInt 32 (IntKind.u32.wrap ((IntKind.u32.wrap (IntKind.u8.wrap (BitVec.ofInt 8 ((s.getD 2 0).toNat:Int) &&& BitVec.ofInt 8 127).toNat)) * 16384))).toNat))),(58,.v (.slice A s.length c))] hW av fun cH bg=>?_
 obtain ⟨bz,bA,aw,bF,af⟩:=Slots.get ho (i:=3) (by first | omega | (simp only [List.length_append,be_length,List.length_cons,List.length_nil] at *; omega))
 refine qak (qaC bg (t:=22) (A:=A) (m:=s.length) (q:=3) (d:=59) kz (e:=5) (size:=1) (bytes:=1) (j:=3) kz aw rfl (by first | omega | (simp only [List.length_append,be_length,List.length_cons,List.length_nil] at *; omega)) fun cI bh=>?_)
 refine qak (qaJ bh (t:=5) (b:=bz) (o:=bA + 3 * 1) (d:=60) kz (cs:=[.int .u8 ((s.getD 3 0).toNat:Int)]) (v:=.int .u8 ((s.getD 3 0).toNat:Int)) kz (AtF.move af hW.step nilM qaY).at_ fun cJ bi=>?_)
 refine qai [4,5,6,7,8] [] [(0,.v (.slice A s.length c)),(4,.v (.int .u32 (IntKind.u32.wrap (BitVec.ofInt 32 (IntKind.u32.wrap (BitVec.ofInt 32 (IntKind.u32.wrap (BitVec.ofInt 32 (IntKind.u32.wrap (IntKind.u8.wrap (BitVec.ofInt 8 ((s.getD 0 0).toNat:Int) &&& BitVec.ofInt 8 127).toNat)) ||| BitVec.ofInt 32 (IntKind.u32.wrap ((IntKind.u32.wrap (IntKind.u8.wrap (BitVec.ofInt 8 ((s.getD 1 0).toNat:Int) &&& BitVec.ofInt 8 127).toNat)) * 128))).toNat) ||| BitVec.ofInt 32 (IntKind.u32.wrap ((IntKind.u32.wrap (IntKind.u8.wrap (BitVec.ofInt 8 ((s.getD 2 0).toNat:Int) &&& BitVec.ofInt 8 127).toNat)) * 16384))).toNat) ||| BitVec.ofInt 32 (IntKind.u32.wrap ((IntKind.u32.wrap (IntKind.u8.wrap (BitVec.ofInt 8 ((s.getD 3 0).toNat:Int) &&& BitVec.ofInt 8 127).toNat)) * 2097152))).toNat)))] hW bi fun cK bj=>?_
 refine qaf (qab ?_)
 refine wp_seq ?_
 refine qae [0,1,2,3,4] kz ?_
 refine qai [0] [1,2,3,4] [(0,.v (.slice A s.length c)),(4,.v (.int .u32 (IntKind.u32.wrap (BitVec.ofInt 32 (IntKind.u32.wrap (BitVec.ofInt 32 (IntKind.u32.wrap (BitVec.ofInt 32 (IntKind.u32.wrap (IntKind.u8.wrap (BitVec.ofInt 8 ((s.getD 0 0).toNat:Int) &&& BitVec.ofInt 8 127).toNat)) ||| BitVec.ofInt 32 (IntKind.u32.wrap ((IntKind.u32.wrap (IntKind.u8.wrap (BitVec.ofInt 8 ((s.getD 1 0).toNat:Int) &&& BitVec.ofInt 8 127).toNat)) * 128))).toNat) ||| BitVec.ofInt 32 (IntKind.u32.wrap ((IntKind.u32.wrap (IntKind.u8.wrap (BitVec.ofInt 8 ((s.getD 2 0).toNat:Int) &&& BitVec.ofInt 8 127).toNat)) * 16384))).toNat) ||| BitVec.ofInt 32 (IntKind.u32.wrap ((IntKind.u32.wrap (IntKind.u8.wrap (BitVec.ofInt 8 ((s.getD 3 0).toNat:Int) &&& BitVec.ofInt 8 127).toNat)) * 2097152))).toNat))),(65,.v (.slice A s.length c))] hW bj fun cL bk=>?_
 refine qak (qaC bk (t:=22) (A:=A) (m:=s.length) (q:=3) (d:=66) kz (e:=5) (size:=1) (bytes:=1) (j:=3) kz aw rfl (by first | omega | (simp only [List.length_append,be_length,List.length_cons,List.length_nil] at *; omega)) fun cM bn=>?_)
 refine qak (qaJ bn (t:=5) (b:=bz) (o:=bA + 3 * 1) (d:=67) kz (cs:=[.int .u8 ((s.getD 3 0).toNat:Int)]) (v:=.int .u8 ((s.getD 3 0).toNat:Int)) kz (AtF.move af hW.step nilM qaY).at_ fun cN bo=>?_)
 refine qai [3,4] [] [(0,.v (.slice A s.length c)),(4,.v (.int .u32 (IntKind.u32.wrap (BitVec.ofInt 32 (IntKind.u32.wrap (BitVec.ofInt 32 (IntKind.u32.wrap (BitVec.ofInt 32 (IntKind.u32.wrap (IntKind.u8.wrap (BitVec.ofInt 8 ((s.getD 0 0).toNat:Int) &&& BitVec.ofInt 8 127).toNat)) ||| BitVec.ofInt 32 (IntKind.u32.wrap ((IntKind.u32.wrap (IntKind.u8.wrap (BitVec.ofInt 8 ((s.getD 1 0).toNat:Int) &&& BitVec.ofInt 8 127).toNat)) * 128))).toNat) ||| BitVec.ofInt 32 (IntKind.u32.wrap ((IntKind.u32.wrap (IntKind.u8.wrap (BitVec.ofInt 8 ((s.getD 2 0).toNat:Int) &&& BitVec.ofInt 8 127).toNat)) * 16384))).toNat) ||| BitVec.ofInt 32 (IntKind.u32.wrap ((IntKind.u32.wrap (IntKind.u8.wrap (BitVec.ofInt 8 ((s.getD 3 0).toNat:Int) &&& BitVec.ofInt 8 127).toNat)) * 2097152))).toNat))),(69,.v (.bool ((IntKind.u8.wrap (BitVec.ofInt 8 ((s.getD 3 0).toNat:Int) &&& BitVec.ofInt 8 128).toNat) == 0)))] hW bo fun cO ax=>?_
 refine qaf (qab ?_)
 refine qao ax (b:=(IntKind.u8.wrap (BitVec.ofInt 8 ((s.getD 3 0).toNat:Int) &&& BitVec.ofInt 8 128).toNat) == 0) kz ((qcw _ (qbR s 3)).trans (decide_eq_false (by have:=h3; unfold oc at this; omega))) ?_
 refine qan [(0,.v (.slice A s.length c)),(4,.v (.int .u32 (IntKind.u32.wrap (BitVec.ofInt 32 (IntKind.u32.wrap (BitVec.ofInt 32 (IntKind.u32.wrap (BitVec.ofInt 32 (IntKind.u32.wrap (IntKind.u8.wrap (BitVec.ofInt 8 ((s.getD 0 0).toNat:Int) &&& BitVec.ofInt 8 127).toNat)) ||| BitVec.ofInt 32 (IntKind.u32.wrap ((IntKind.u32.wrap (IntKind.u8.wrap (BitVec.ofInt 8 ((s.getD 1 0).toNat:Int) &&& BitVec.ofInt 8 127).toNat)) * 128))).toNat) ||| BitVec.ofInt 32 (IntKind.u32.wrap ((IntKind.u32.wrap (IntKind.u8.wrap (BitVec.ofInt 8 ((s.getD 2 0).toNat:Int) &&& BitVec.ofInt 8 127).toNat)) * 16384))).toNat) ||| BitVec.ofInt 32 (IntKind.u32.wrap ((IntKind.u32.wrap (IntKind.u8.wrap (BitVec.ofInt 8 ((s.getD 3 0).toNat:Int) &&& BitVec.ofInt 8 127).toNat)) * 2097152))).toNat))),(73,.v (.bool (decide (((s.length:Nat):Int) < 5))))] hW ax fun cP ag=>?_
 refine qao ag (b:=decide (((s.length:Nat):Int) < 5)) kz (decide_eq_false (by omega)) ?_
 refine wp_skip ?_
 refine qab ?_
 refine qae [0,1,2,3,4,5,6,7] kz ?_
 refine qai [0,1] [2,3,4,5,6,7] [(0,.v (.slice A s.length c)),(74,.v (.int .u32 (IntKind.u32.wrap (BitVec.ofInt 32 (IntKind.u32.wrap (BitVec.ofInt 32 (IntKind.u32.wrap (BitVec.ofInt 32 (IntKind.u32.wrap (IntKind.u8.wrap (BitVec.ofInt 8 ((s.getD 0 0).toNat:Int) &&& BitVec.ofInt 8 127).toNat)) ||| BitVec.ofInt 32 (IntKind.u32.wrap ((IntKind.u32.wrap (IntKind.u8.wrap (BitVec.ofInt 8 ((s.getD 1 0).toNat:Int) &&& BitVec.ofInt 8 127).toNat)) * 128))).toNat) ||| BitVec.ofInt 32 (IntKind.u32.wrap ((IntKind.u32.wrap (IntKind.u8.wrap (BitVec.ofInt 8 ((s.getD 2 0).toNat:Int) &&& BitVec.ofInt 8 127).toNat)) * 16384))).toNat) ||| BitVec.ofInt 32 (IntKind.u32.wrap ((IntKind.u32.wrap (IntKind.u8.wrap (BitVec.ofInt 8 ((s.getD 3 0).toNat:Int) &&& BitVec.ofInt 8 127).toNat)) * 2097152))).toNat))),(75,.v (.slice A s.length c))] hW ag fun bG ay=>?_
 obtain ⟨az,aA,ah,bB,aa⟩:=Slots.get ho (i:=4) (by first | omega | (simp only [List.length_append,be_length,List.length_cons,List.length_nil] at *; omega))
 refine qak (qaC ay (t:=22) (A:=A) (m:=s.length) (q:=4) (d:=76) kz (e:=5) (size:=1) (bytes:=1) (j:=4) kz ah rfl (by first | omega | (simp only [List.length_append,be_length,List.length_cons,List.length_nil] at *; omega)) fun bH aB=>?_)
 refine qak (qaJ aB (t:=5) (b:=az) (o:=aA + 4 * 1) (d:=77) kz (cs:=[.int .u8 ((s.getD 4 0).toNat:Int)]) (v:=.int .u8 ((s.getD 4 0).toNat:Int)) kz (AtF.move aa hW.step nilM qaY).at_ fun bI aC=>?_)
 refine qai [4,5,6,7] [] [(0,.v (.slice A s.length c)),(4,.v (.int .u32 (IntKind.u32.wrap (BitVec.ofInt 32 (IntKind.u32.wrap (BitVec.ofInt 32 (IntKind.u32.wrap (BitVec.ofInt 32 (IntKind.u32.wrap (BitVec.ofInt 32 (IntKind.u32.wrap (IntKind.u8.wrap (BitVec.ofInt 8 ((s.getD 0 0).toNat:Int) &&& BitVec.ofInt 8 127).toNat)) ||| BitVec.ofInt 32 (IntKind.u32.wrap ((IntKind.u32.wrap (IntKind.u8.wrap (BitVec.ofInt 8 ((s.getD 1 0).toNat:Int) &&& BitVec.ofInt 8 127).toNat)) * 128))).toNat) ||| BitVec.ofInt 32 (IntKind.u32.wrap ((IntKind.u32.wrap (IntKind.u8.wrap (BitVec.ofInt 8 ((s.getD 2 0).toNat:Int) &&& BitVec.ofInt 8 127).toNat)) * 16384))).toNat) ||| BitVec.ofInt 32 (IntKind.u32.wrap ((IntKind.u32.wrap (IntKind.u8.wrap (BitVec.ofInt 8 ((s.getD 3 0).toNat:Int) &&& BitVec.ofInt 8 127).toNat)) * 2097152))).toNat) ||| BitVec.ofInt 32 (IntKind.u32.wrap ((IntKind.u32.wrap ((s.getD 4 0).toNat:Int)) * 268435456))).toNat)))] hW aC fun bJ aD=>?_
 refine qaf (qab ?_)
 refine wp_seq ?_
 refine qae [0,1,2,3] kz ?_
 refine qai [0] [1,2,3] [(4,.v (.int .u32 (IntKind.u32.wrap (BitVec.ofInt 32 (IntKind.u32.wrap (BitVec.ofInt 32 (IntKind.u32.wrap (BitVec.ofInt 32 (IntKind.u32.wrap (BitVec.ofInt 32 (IntKind.u32.wrap (IntKind.u8.wrap (BitVec.ofInt 8 ((s.getD 0 0).toNat:Int) &&& BitVec.ofInt 8 127).toNat)) ||| BitVec.ofInt 32 (IntKind.u32.wrap ((IntKind.u32.wrap (IntKind.u8.wrap (BitVec.ofInt 8 ((s.getD 1 0).toNat:Int) &&& BitVec.ofInt 8 127).toNat)) * 128))).toNat) ||| BitVec.ofInt 32 (IntKind.u32.wrap ((IntKind.u32.wrap (IntKind.u8.wrap (BitVec.ofInt 8 ((s.getD 2 0).toNat:Int) &&& BitVec.ofInt 8 127).toNat)) * 16384))).toNat) ||| BitVec.ofInt 32 (IntKind.u32.wrap ((IntKind.u32.wrap (IntKind.u8.wrap (BitVec.ofInt 8 ((s.getD 3 0).toNat:Int) &&& BitVec.ofInt 8 127).toNat)) * 2097152))).toNat) ||| BitVec.ofInt 32 (IntKind.u32.wrap ((IntKind.u32.wrap ((s.getD 4 0).toNat:Int)) * 268435456))).toNat))),(81,.v (.slice A s.length c))] hW aD fun bK aE=>?_
 refine qak (qaC aE (t:=22) (A:=A) (m:=s.length) (q:=4) (d:=82) kz (e:=5) (size:=1) (bytes:=1) (j:=4) kz ah rfl (by first | omega | (simp only [List.length_append,be_length,List.length_cons,List.length_nil] at *; omega)) fun bL aF=>?_)
 refine qak (qaJ aF (t:=5) (b:=az) (o:=aA + 4 * 1) (d:=83) kz (cs:=[.int .u8 ((s.getD 4 0).toNat:Int)]) (v:=.int .u8 ((s.getD 4 0).toNat:Int)) kz (AtF.move aa hW.step nilM qaY).at_ fun bM aG=>?_)
 refine qai [3] [] [(4,.v (.int .u32 (IntKind.u32.wrap (BitVec.ofInt 32 (IntKind.u32.wrap (BitVec.ofInt 32 (IntKind.u32.wrap (BitVec.ofInt 32 (IntKind.u32.wrap (BitVec.ofInt 32 (IntKind.u32.wrap (IntKind.u8.wrap (BitVec.ofInt 8 ((s.getD 0 0).toNat:Int) &&& BitVec.ofInt 8 127).toNat)) ||| BitVec.ofInt 32 (IntKind.u32.wrap ((IntKind.u32.wrap (IntKind.u8.wrap (BitVec.ofInt 8 ((s.getD 1 0).toNat:Int) &&& BitVec.ofInt 8 127).toNat)) * 128))).toNat) ||| BitVec.ofInt 32 (IntKind.u32.wrap ((IntKind.u32.wrap (IntKind.u8.wrap (BitVec.ofInt 8 ((s.getD 2 0).toNat:Int) &&& BitVec.ofInt 8 127).toNat)) * 16384))).toNat) ||| BitVec.ofInt 32 (IntKind.u32.wrap ((IntKind.u32.wrap (IntKind.u8.wrap (BitVec.ofInt 8 ((s.getD 3 0).toNat:Int) &&& BitVec.ofInt 8 127).toNat)) * 2097152))).toNat) ||| BitVec.ofInt 32 (IntKind.u32.wrap ((IntKind.u32.wrap ((s.getD 4 0).toNat:Int)) * 268435456))).toNat))),(84,.v (.bool (decide (((s.getD 4 0).toNat:Int) ≤ 15))))] hW aG fun bN ai=>?_
 refine qaf (qab ?_)
 refine qaW ai (b:=decide (((s.getD 4 0).toNat:Int) ≤ 15)) kz (decide_eq_true (by have:=h4; unfold oc at this; omega)) ?_
 refine qan [(2,.v (.int .u32 (IntKind.u32.wrap (BitVec.ofInt 32 (IntKind.u32.wrap (BitVec.ofInt 32 (IntKind.u32.wrap (BitVec.ofInt 32 (IntKind.u32.wrap (BitVec.ofInt 32 (IntKind.u32.wrap (IntKind.u8.wrap (BitVec.ofInt 8 ((s.getD 0 0).toNat:Int) &&& BitVec.ofInt 8 127).toNat)) ||| BitVec.ofInt 32 (IntKind.u32.wrap ((IntKind.u32.wrap (IntKind.u8.wrap (BitVec.ofInt 8 ((s.getD 1 0).toNat:Int) &&& BitVec.ofInt 8 127).toNat)) * 128))).toNat) ||| BitVec.ofInt 32 (IntKind.u32.wrap ((IntKind.u32.wrap (IntKind.u8.wrap (BitVec.ofInt 8 ((s.getD 2 0).toNat:Int) &&& BitVec.ofInt 8 127).toNat)) * 16384))).toNat) ||| BitVec.ofInt 32 (IntKind.u32.wrap ((IntKind.u32.wrap (IntKind.u8.wrap (BitVec.ofInt 8 ((s.getD 3 0).toNat:Int) &&& BitVec.ofInt 8 127).toNat)) * 2097152))).toNat) ||| BitVec.ofInt 32 (IntKind.u32.wrap ((IntKind.u32.wrap ((s.getD 4 0).toNat:Int)) * 268435456))).toNat))),(3,.v (.int .i64 5))] hW ai fun bO aH=>?_
 refine wp_ret ?_
 refine qam ?_
 refine qde ?_
 refine qaF aH hW.cells (v:=.tuple #[.int .u32 (IntKind.u32.wrap (BitVec.ofInt 32 (IntKind.u32.wrap (BitVec.ofInt 32 (IntKind.u32.wrap (BitVec.ofInt 32 (IntKind.u32.wrap (BitVec.ofInt 32 (IntKind.u32.wrap (IntKind.u8.wrap (BitVec.ofInt 8 ((s.getD 0 0).toNat:Int) &&& BitVec.ofInt 8 127).toNat)) ||| BitVec.ofInt 32 (IntKind.u32.wrap ((IntKind.u32.wrap (IntKind.u8.wrap (BitVec.ofInt 8 ((s.getD 1 0).toNat:Int) &&& BitVec.ofInt 8 127).toNat)) * 128))).toNat) ||| BitVec.ofInt 32 (IntKind.u32.wrap ((IntKind.u32.wrap (IntKind.u8.wrap (BitVec.ofInt 8 ((s.getD 2 0).toNat:Int) &&& BitVec.ofInt 8 127).toNat)) * 16384))).toNat) ||| BitVec.ofInt 32 (IntKind.u32.wrap ((IntKind.u32.wrap (IntKind.u8.wrap (BitVec.ofInt 8 ((s.getD 3 0).toNat:Int) &&& BitVec.ofInt 8 127).toNat)) * 2097152))).toNat) ||| BitVec.ofInt 32 (IntKind.u32.wrap ((IntKind.u32.wrap ((s.getD 4 0).toNat:Int)) * 268435456))).toNat),.int .i64 5]) kz ?_
 have e_:=uv_5 (oc s 0) (oc s 1) (oc s 2) (oc s 3) (oc s 4) (qbR s 0) (qbR s 1) (qbR s 2) (qbR s 3) (by omega)
 refine ⟨congrArg (fun z_:Int=>Ending.returned (.tuple #[.int .u32 z_,.int .i64 5])) (Eq.trans e_ ?_),hW.step⟩
 omega
theorem rUv (x:Nat) (hx:x < 4294967296) (rest:Bs) {A:Option Addr} {c:Nat} {w:World} {F:Nat → Nat → Prop} (ho:Octs w F A c (uv x ++ rest)) :
  Calls Tryz.prog 205 #[.slice A (uv x ++ rest).length c] w (qbX w (.tuple #[.int .u32 ((x:Nat):Int),.int .i64 (((uv x).length:Nat):Int)])):=by
 have hl:=qiB hx
 have hL:(uv x ++ rest).length = (uv x).length + rest.length:=List.length_append
 by_cases h1:x < 128
 ·rw [if_pos h1] at hl
  have h:=rUv1 (uv x ++ rest) ho (by omega) x (by rw [qfR,if_pos h1]) h1
  rw [hl]; simpa using h
 rw [if_neg h1] at hl
 have o0:oc (uv x ++ rest) 0 = x % 128 + 128:=by rw [qfR,if_neg h1]
 have o1:oc (uv x ++ rest) 1 = oc (uv (x / 128) ++ rest) 0:=qdE (by omega) rest 0
 by_cases h2:x < 16384
 ·rw [if_pos h2] at hl
  rw [qfR,if_pos (by omega)] at o1
  have h:=rUv2 (uv x ++ rest) ho (by omega) (x % 128) (x / 128) o0 o1 (by omega) (by omega)
  rw [show x % 128 + x / 128 * 128 = x by omega] at h
  rw [hl]; exact h
 rw [if_neg h2] at hl
 have o2:oc (uv x ++ rest) 2 = oc (uv (x / 128 / 128) ++ rest) 0:=(qdE (by omega) rest 1).trans (qdE (by omega) rest 0)
 rw [qfR,if_neg (by omega)] at o1
 by_cases h3:x < 2097152
 ·rw [if_pos h3] at hl
  rw [qfR,if_pos (by omega)] at o2
  have h:=rUv3 (uv x ++ rest) ho (by omega) (x % 128) (x / 128 % 128) (x / 128 / 128) o0 o1 o2 (by omega) (by omega) (by omega)
  rw [show x % 128 + x / 128 % 128 * 128 + x / 128 / 128 * 16384 = x by omega] at h
  rw [hl]; exact h
 rw [if_neg h3] at hl
 have o3:oc (uv x ++ rest) 3 = oc (uv (x / 128 / 128 / 128) ++ rest) 0:=(qdE (by omega) rest 2).trans ((qdE (by omega) rest 1).trans (qdE (by omega) rest 0))
 rw [qfR,if_neg (by omega)] at o2
 by_cases h4:x < 268435456
 ·rw [if_pos h4] at hl
  rw [qfR,if_pos (by omega)] at o3
  have h:=rUv4 (uv x ++ rest) ho (by omega) (x % 128) (x / 128 % 128) (x / 128 / 128 % 128) (x / 128 / 128 / 128) o0 o1 o2 o3 (by omega) (by omega) (by omega) (by omega)
  rw [show x % 128 + x / 128 % 128 * 128 + x / 128 / 128 % 128 * 16384 + x / 128 / 128 / 128 * 2097152 = x by omega] at h
  rw [hl]; exact h
 rw [if_neg h4] at hl
 have o4:oc (uv x ++ rest) 4 = oc (uv (x / 128 / 128 / 128 / 128) ++ rest) 0:=(qdE (by omega) rest 3).trans ((qdE (by omega) rest 2).trans ((qdE (by omega) rest 1).trans (qdE (by omega) rest 0)))
 rw [qfR,if_neg (by omega)] at o3
 rw [qfR,if_pos (by omega)] at o4
 have h:=rUv5 (uv x ++ rest) ho (by omega) (x % 128) (x / 128 % 128) (x / 128 / 128 % 128) (x / 128 / 128 / 128 % 128) (x / 128 / 128 / 128 / 128) o0 o1 o2 o3 o4 (by omega) (by omega) (by omega) (by omega) (by omega)
 rw [show x % 128 + x / 128 % 128 * 128 + x / 128 / 128 % 128 * 16384 + x / 128 / 128 / 128 % 128 * 2097152 + x / 128 / 128 / 128 / 128 * 268435456 = x by omega] at h
 rw [hl]; exact h
theorem qcT (x:Nat) (hx:x < 4294967296) (rest:Bs)  {br:Nat} {A:Option Addr} {m c:Nat} {w:World} {F:Nat → Nat → Prop} (hst:Str w br [.slice A m c,.bool false]) (hr:RdS w F A m c (uv x ++ rest)) (hFd:∀ b o,F b o → ¬ RdM br b o) :
  Calls Tryz.prog 190 #[.pointer (some ⟨br,0,none⟩)] w (RdPost w br F rest fun v w'=>v = .int .u32 ((x:Nat):Int)):=by
 obtain ⟨hm,ho⟩:=hr
 subst hm
 have hle:=ho.le
 have hpos:=qhN x
 refine enter (n:=31) Tryz.func190 rfl Tryz.ntmps190 kz fun a hE=>?_
 have hW:WOk w (RdM br) w [⟨br,0,[.slice A ((uv x ++ rest).length) c,.bool false],true⟩] []:=WOk.startStr hst
 have hE1:=(hE.grow ⟨br,0,[.slice A ((uv x ++ rest).length) c,.bool false],true⟩).recast 0 (.v (.pointer (some ⟨br,0,none⟩))) (.p 0 0) rfl rfl (Nat.le_of_ble_eq_true (n:=1) rfl)
 refine qan [(0,.p 0 0)] hW hE1 fun a1 hE2=>?_
 refine qae [0,1,2,3,4,5,6,7,8,9] kz ?_
 refine qai [0,1,2,3] [4,5,6,7,8,9] [(0,.p 0 0),(9,.v (.slice A ((uv x ++ rest).length) c))] hW hE2 fun a3 hE4=>?_
 refine qak (qaj hE4 (f:=205) (vs:=[.slice A ((uv x ++ rest).length) c]) (d:=10) kz Tryz.call205 (rUv x hx rest (ho.move hW.step (fun b_ o_ h_ _=>hFd b_ o_ h_) (hW.immM hFd))) ?_)
 rintro e_ w6 ⟨rfl,hs5⟩
 refine ⟨_,rfl,fun a7 hE8=>?_⟩
 have hW9:=hW.next_nil hs5
 have aj:=hW.frN hs5
 refine qai [5,6,7,8,9] [] [(0,.p 0 0),(3,.v (.int .u32 ((x:Nat):Int))),(4,.v (.int .i64 (((uv x).length:Nat):Int)))] hW9 hE8 fun al ac=>?_
 refine qaf (qab ?_)
 refine wp_seq ?_
 refine qan [(0,.p 0 0),(3,.v (.int .u32 ((x:Nat):Int))),(4,.v (.int .i64 (((uv x).length:Nat):Int))),(14,.v (.bool (decide ((((uv x).length:Nat):Int) ≤ 0))))] hW9 ac fun am ab=>?_
 refine qao ab (b:=decide ((((uv x).length:Nat):Int) ≤ 0)) kz (decide_eq_false (by omega)) ?_
 refine wp_skip ?_
 refine qab ?_
 refine qae [0,1,2,3,4,5,6,7,8,9] kz ?_
 refine qai [0,1,2,3,4,5] [6,7,8,9] [(3,.v (.int .u32 ((x:Nat):Int))),(21,.p 0 0),(25,.v (.slice A ((uv x ++ rest).length) c)),(26,.v (.int .i64 (((uv x).length:Nat):Int)))] hW9 ab fun ao ae=>?_
 refine qak (qcs ae (t:=22) (A:=A) (m:=((uv x ++ rest).length)) (cp:=c) (q:=(((uv x).length:Nat):Int)) (d:=27) (j:=((uv x).length)) kz (e:=5) (bytes:=1) kz (rfl) (by first | omega | (simp only [List.length_append,be_length,List.length_cons,List.length_nil] at *; omega)) fun ap af=>?_)
 refine qai [7,8] [9] [(3,.v (.int .u32 ((x:Nat):Int))),(27,.v (.slice (cutA A c ((uv x).length)) (((uv x ++ rest).length) - ((uv x).length)) (c - ((uv x).length)))),(29,.p 0 0)] hW9 af fun ar ag=>?_
 refine qak (qav hW9 ag (oi:=0) (cs:=[.slice (cutA A c ((uv x).length)) (((uv x ++ rest).length) - ((uv x).length)) (c - ((uv x).length)),.bool false]) kz fun au ak aa ah=>?_)
 refine qaf (qab ?_)
 refine qan [(2,.v (.int .u32 ((x:Nat):Int)))] aa ah fun av ai=>?_
 refine wp_ret ?_
 refine qaF ai aa.cells (v:=.int .u32 ((x:Nat):Int)) kz ?_
 exact ⟨_,_,_,_,rfl,Str.of aa 0 rfl,RdS.drop (s:=uv x) ⟨rfl,ho.move aa.step (fun b_ o_ h_ _=>hFd b_ o_ h_) qaY⟩ (rfl),aa.step,rfl⟩
theorem qh6 (X:Bs) (rest:Bs)  {br:Nat} {A:Option Addr} {m c:Nat} {w:World} {F:Nat → Nat → Prop} (hst:Str w br [.slice A m c,.bool false]) (hr:RdS w F A m c (X ++ rest)) (hFd:∀ b o,F b o → ¬ RdM br b o) :
  Calls Tryz.prog 192 #[.pointer (some ⟨br,0,none⟩),.int .i64 ((X.length:Nat):Int)] w (RdPost w br F rest fun v w'=>∃ A2,v = .slice A2 X.length X.length ∧ Octs w' F A2 X.length X):=by
 obtain ⟨hm,ho⟩:=hr
 subst hm
 have hle:=ho.le
 refine enter (n:=40) Tryz.func192 rfl Tryz.ntmps192 kz fun a hE=>?_
 have hW:WOk w (RdM br) w [⟨br,0,[.slice A ((X ++ rest).length) c,.bool false],true⟩] []:=WOk.startStr hst
 have hE1:=(hE.grow ⟨br,0,[.slice A ((X ++ rest).length) c,.bool false],true⟩).recast 0 (.v (.pointer (some ⟨br,0,none⟩))) (.p 0 0) rfl rfl (Nat.le_of_ble_eq_true (n:=1) rfl)
 refine qan [(0,.p 0 0),(1,.v (.int .i64 ((X.length:Nat):Int)))] hW hE1 fun a1 hE2=>?_
 refine wp_seq ?_
 refine qae [0,1,2,3,4,5,6,7,8,9,10] kz ?_
 refine qai [0,1,2,3,4,5,6,7] [8,9,10] [(0,.p 0 0),(1,.v (.int .i64 ((X.length:Nat):Int))),(13,.v (.bool (decide ((((X ++ rest).length:Nat):Int) < ((X.length:Nat):Int)))))] hW hE2 fun a3 hE4=>?_
 have hc5:(decide ((((X ++ rest).length:Nat):Int) < ((X.length:Nat):Int))) = false:=decide_eq_false (by first | omega | (simp only [List.length_append,be_length,List.length_cons,List.length_nil] at *; omega))
 have hE6:=hE4.cast (env':=[(0,.p 0 0),(1,.v (.int .i64 ((X.length:Nat):Int))),(13,.v (.bool false))]) (by rw [hc5])
 refine qai [8,9,10] [] [(0,.p 0 0),(1,.v (.int .i64 ((X.length:Nat):Int))),(16,.v (.bool (decide (((X.length:Nat):Int) < 0))))] hW hE6 fun a7 hE8=>?_
 refine qaf (qab ?_)
 refine qao hE8 (b:=decide (((X.length:Nat):Int) < 0)) kz (decide_eq_false (by first | omega | (simp only [List.length_append,be_length,List.length_cons,List.length_nil] at *; omega))) ?_
 refine wp_skip ?_
 refine qab ?_
 refine qae [0,1,2,3,4,5,6,7] kz ?_
 refine qai [0,1,2,3,4,5] [6,7] [(0,.p 0 0),(1,.v (.int .i64 ((X.length:Nat):Int))),(26,.v (.slice A ((X ++ rest).length) c)),(27,.v (.int .i64 ((X.length:Nat):Int))),(28,.v (.int .i64 ((X.length:Nat):Int)))] hW hE8 fun a9 ab=>?_
 refine qak (qjc ab (t:=22) (A:=A) (m:=((X ++ rest).length)) (cp:=c) (k:=.i64) (q:=((X.length:Nat):Int)) (d:=29) (j:=X.length) kz (e:=5) (bytes:=1) kz (rfl) (by first | omega | (simp only [List.length_append,be_length,List.length_cons,List.length_nil] at *; omega)) fun al ac=>?_)
 refine qai [7] [] [(0,.p 0 0),(1,.v (.int .i64 ((X.length:Nat):Int))),(5,.v (.slice A X.length X.length))] hW ac fun am ae=>?_
 refine qaf (qab ?_)
 refine qae [0,1,2,3,4,5,6,7,8,9] kz ?_
 refine qai [0,1,2,3,4,5] [6,7,8,9] [(5,.v (.slice A X.length X.length)),(30,.p 0 0),(34,.v (.slice A ((X ++ rest).length) c)),(35,.v (.int .i64 ((X.length:Nat):Int)))] hW ae fun ao af=>?_
 refine qak (qcs af (t:=22) (A:=A) (m:=((X ++ rest).length)) (cp:=c) (q:=((X.length:Nat):Int)) (d:=36) (j:=X.length) kz (e:=5) (bytes:=1) kz (rfl) (by first | omega | (simp only [List.length_append,be_length,List.length_cons,List.length_nil] at *; omega)) fun ap ag=>?_)
 refine qai [7,8] [9] [(5,.v (.slice A X.length X.length)),(36,.v (.slice (cutA A c X.length) (((X ++ rest).length) - X.length) (c - X.length))),(38,.p 0 0)] hW ag fun ar ah=>?_
 refine qak (qav hW ah (oi:=0) (cs:=[.slice (cutA A c X.length) (((X ++ rest).length) - X.length) (c - X.length),.bool false]) kz fun au ak aa ai=>?_)
 refine qaf (qab ?_)
 refine qan [(4,.v (.slice A X.length X.length))] aa ai fun av aj=>?_
 refine wp_ret ?_
 refine qaF aj aa.cells (v:=.slice A X.length X.length) kz ?_
 exact ⟨_,_,_,_,rfl,Str.of aa 0 rfl,RdS.drop (s:=X) ⟨rfl,ho.move aa.step (fun b_ o_ h_ _=>hFd b_ o_ h_) qaY⟩ (rfl),aa.step,A,rfl,RdS.front (s:=X) ⟨rfl,ho.move aa.step (fun b_ o_ h_ _=>hFd b_ o_ h_) qaY⟩ rfl⟩
theorem qjk {br:Nat} {A:Option Addr} {m c:Nat} {w:World} (hst:Str w br [.slice A m c,.bool false]) :
  Calls Tryz.prog 149 #[.pointer (some ⟨br,0,none⟩)] w (fun e w'=>e = .returned .nilIface ∧ w' = w):=by
 refine enter (n:=8) Tryz.func149 rfl Tryz.ntmps149 kz fun a hE=>?_
 have hW:WOk w (RdM br) w [⟨br,0,[.slice A m c,.bool false],true⟩] []:=WOk.startStr hst
 have hE1:=(hE.grow ⟨br,0,[.slice A m c,.bool false],true⟩).recast 0 (.v (.pointer (some ⟨br,0,none⟩))) (.p 0 0) rfl rfl (Nat.le_of_ble_eq_true (n:=1) rfl)
 refine qan [(0,.p 0 0)] hW hE1 fun a1 hE2=>?_
 refine wp_seq ?_
 refine qan [(6,.v (.bool false))] hW hE2 fun a3 hE4=>?_
 refine qao hE4 (b:=false) kz rfl ?_
 refine wp_skip ?_
 refine qab ?_
 refine qan [(2,.v (.nilIface))] hW hE4 fun a5 hE6=>?_
 refine wp_ret ?_
 refine qaF hE6 hW.cells (v:=.nilIface) kz ?_
 exact ⟨rfl,rfl⟩
structure TR (w w':World) (br p2 p3:Nat) (F:Nat → Nat → Prop) (A:Option Addr) (n c:Nat) (s:Bs) (m:Option Nat) (u:List (Int × Bs)):Prop where
 step:Step w w' (RdM br)
 old:br < w.heap.size
 new2:w.heap.size ≤ p2
 new3:w.heap.size ≤ p3
 ne:p2 ≠ p3
 rd:Str w' br [.slice A n c,.bool false]
 s2:Str w' p2 [.map none]
 s3:Str w' p3 [.map m]
 oct:RdS w' (fun b o=>F b o ∧ b < w.heap.size) A n c s
 own:OwnM w' (fun b o=>F b o ∧ b < w.heap.size) m u
 new:∀ r,m = some r → w.heap.size ≤ r
theorem TR.mne {w w':World} {br p2 p3:Nat} {F:Nat → Nat → Prop} {A:Option Addr} {n c:Nat} {s:Bs} {m:Option Nat} {u:List (Int × Bs)} (h:TR w w' br p2 p3 F A n c s m u):m ≠ some p2 ∧ m ≠ some p3:=by
 refine ⟨fun e=>?_,fun e=>?_⟩
 ·obtain ⟨es,clk,h1,_⟩:=h.own.some_ p2 e
  exact qeg (h.s2.at_ 0 _ rfl) h1 rfl
 obtain ⟨es,clk,h1,_⟩:=h.own.some_ p3 e
 exact qeg (h.s3.at_ 0 _ rfl) h1 rfl
theorem TR.read {w w' w1:World} {br p2 p3:Nat} {F:Nat → Nat → Prop} {A A':Option Addr} {n c n' c':Nat} {s s':Bs} {m:Option Nat} {u:List (Int × Bs)} (h:TR w w' br p2 p3 F A n c s m u) (hFd:∀ b o,F b o → ¬ RdM br b o) (hs:Str w1 br [.slice A' n' c',.bool false]) (hr:RdS w1 (fun b o=>F b o ∧ b < w.heap.size) A' n' c' s') (hst:Step w' w1 (RdM br)):TR w w1 br p2 p3 F A' n' c' s' m u:=by
 have ho:=h.old
 have h2:=h.new2
 have h3:=h.new3
 refine ⟨h.step.trans hst fun _ _ _ e=>e,ho,h2,h3,h.ne,hs,h.s2.move hst fun o e=>?_,h.s3.move hst fun o e=>?_,hr,h.own.move hst (fun b o hg _=>hFd b o hg.1) qaY (fun r o e he=>?_),h.new⟩
 ·have:=e.1; omega
 ·have:=e.1; omega
 have:=h.new r e; have:=he.1; omega
theorem TR.set {w w':World} {br p2 p3:Nat} {F:Nat → Nat → Prop} {A A1:Option Addr} {n c c1 j:Nat} {s x:Bs} {k:Int} {m:Option Nat} {u:List (Int × Bs)} (h:TR w w' br p2 p3 F A n c s m (u.take j)) (hsort:qcK u) (hj:u[j]? = some (k,x)) (hx:Octs w' (fun b o=>F b o ∧ b < w.heap.size) A1 c1 x) (hk:0 ≤ k ∧ k < 4294967296) :
  Calls Tryz.prog 193 [.pointer (some ⟨p3,0,none⟩),.int .u32 k,.slice A1 x.length c1].toArray w' (fun e w1=>e = .returned (.tuple #[]) ∧ ∃ r,TR w w1 br p2 p3 F A n c s (some r) (u.take (j + 1))):=by
 have hcell:w'.cell? ⟨p3,0,none⟩ = some (.map m):=h.s3.at_ 0 _ rfl
 have hfz:w'.frozen? ⟨p3,0,none⟩ = false:=h.s3.frz 0 (by simp)
 have hnew:=h.new
 have h2:=h.new2
 have h3:=h.new3
 have ho:=h.old
 have hsz:=h.step.size
 obtain ⟨m2,m3⟩:=h.mne
 refine (qjO hcell hfz h.own hx hk (fun b' o' hg=>⟨fun e=>?_,fun e=>?_⟩) (fun b' o' hg=>Nat.lt_of_lt_of_le hg.2 hsz)).mono ?_
 ·have:=hg.2; omega
 ·have:=hnew b' e; have:=hg.2; omega
 rintro e w1 ⟨rfl,r,g1,g2,g3,g4,g5⟩
 rw [qiG hsort hj] at g3
 refine ⟨rfl,r,h.step.trans g5 fun b o hl e=>?_,ho,h2,h3,h.ne,h.rd.move g5 fun o e=>?_,h.s2.move g5 fun o e=>?_,⟨fun i v hi=>?_,fun i hi=>?_⟩,⟨h.oct.len,Octs.move h.oct.oct g5 (fun b o hg _ e=>?_) qaY⟩,g3,fun r' hr'=>?_⟩
 ·rcases e with ⟨e1,_⟩ | e1
  ·omega
  have:=hnew b e1; omega
 ·rcases e with ⟨e1,_⟩ | e1
  ·omega
  have:=hnew br e1; omega
 ·rcases e with ⟨e1,_⟩ | e1
  ·exact h.ne e1
  exact m2 e1
 ·cases i with
  | zero =>
   simp only [List.getElem?_cons_zero,Option.some.injEq] at hi
   subst hi
   exact g1
  | succ i=>simp at hi
 ·have:i = 0:=by simp at hi; omega
  subst this
  exact g2
 ·have:=hg.2
  rcases e with ⟨e1,_⟩ | e1
  ·omega
  have:=hnew b e1; omega
 obtain rfl:=Option.some.inj hr'
 rcases g4 with g4 | g4
 ·exact hnew _ g4
 exact Nat.le_trans hsz g4
theorem qh7 (x:Int × Bs) (u:List (Int × Bs)):qcC (x :: u) = tagR x.1 x.2 ++ qcC u:=by unfold qcC; rw [List.flatMap_cons]
theorem qh8 {u:List (Int × Bs)} {j:Nat} {k:Int} {x:Bs} (h:u[j]? = some (k,x)) (rest:Bs):qcC (u.drop j) ++ rest = uv k.toNat ++ (uv x.length ++ (x ++ (qcC (u.drop (j + 1)) ++ rest))):=by
 obtain ⟨hlt,he⟩:=List.getElem?_eq_some_iff.1 h
 rw [List.drop_eq_getElem_cons hlt,he,qh7]
 simp only [tagR,List.append_assoc]
theorem ql3 (u:List (Int × Bs)) (rest:Bs) (hsort:qcK u) (hk:∀ x ∈ u,0 ≤ x.1 ∧ x.1 < 4294967296) (hul:u.length ≤ 1000000) (hxl:∀ x ∈ u,x.2.length < 4294967296) {br:Nat} {A:Option Addr} {m c:Nat} {w:World} {F:Nat → Nat → Prop} (hst:Str w br [.slice A m c,.bool false]) (hr:RdS w F A m c (uv u.length ++ (qcC u ++ rest))) (hFd:∀ b o,F b o → ¬ RdM br b o) :
  Calls Tryz.prog 156 #[.pointer (some ⟨br,0,none⟩)] w (RdPost w br (Fp F w) rest fun v w'=>∃ mm,v = .agg #[.map mm] ∧ MapR w' (Fp F w) mm u):=by
 have hbr:br < w.heap.size:=World.lt_of_cell (hst.at_ 0 _ rfl)
 refine enter (n:=24) (vs:=[.pointer (some ⟨br,0,none⟩)]) Tryz.func156 rfl Tryz.ntmps156 kz fun a hE=>?_
 have hW:=WOk.start w Nil
 refine qae [0] kz ?_
 refine qak (qaK hW hE (d:=2) (cs:=[.map none]) kz fun p2 a1 w1 hp2 hz2 hF1 hW1 hE1=>qaf (qab ?_))
 refine qae [0] kz ?_
 refine qak (qaK hW1 hE1 (d:=3) (cs:=[.map none]) kz fun p3 a2 w2 hp3 hz3 hF2 hW2 hE2=>qaf (qab ?_))
 have hne:p2 ≠ p3:=by
  have h1:=hW1.live 0 _ rfl
  simp only at h1
  omega
 have hS:Step w w2 Nil:=hW2.step
 have hT0:TR w w2 br p2 p3 F A m c (uv u.length ++ (qcC u ++ rest)) none (u.take 0):=by
  refine ⟨hS.mono fun _ _ _ h=>h.elim,hbr,hz2,hz3,hne,hst.move hS (fun _ h=>h),Str.of hW2 0 rfl,Str.of hW2 1 rfl,hr.move hS nilM (fun b o h hb=>⟨h,hb⟩),?_,fun _ h=>by cases h⟩
  rw [List.take_zero]
  exact OwnM.nil _ _
 refine wp_seq ?_
 have hE3:=(((hE2.recast 2 (.p 0 0) (.v (.pointer (some ⟨p2,0,none⟩))) rfl rfl trivial).recast 3 (.p 1 0) (.v (.pointer (some ⟨p3,0,none⟩))) rfl rfl trivial).pick (ks:=[0,2,3]) (env':=[(0,.v (.pointer (some ⟨br,0,none⟩))),(2,.v (.pointer (some ⟨p2,0,none⟩))),(3,.v (.pointer (some ⟨p3,0,none⟩)))]) kz).cutTb 0 kz
 have hWz:=WOk.start w2 Nil
 refine qae [0,1,2] kz ?_
 refine qai [0] [1,2] [(0,.v (.pointer (some ⟨br,0,none⟩))),(2,.v (.pointer (some ⟨p2,0,none⟩))),(3,.v (.pointer (some ⟨p3,0,none⟩))),(7,.v (.pointer (some ⟨br,0,none⟩)))] hWz hE3 fun a3 hE4=>?_
 have hFd':∀ b o,(F b o ∧ b < w.heap.size) → ¬ RdM br b o:=fun b o h=>hFd b o h.1
 refine qak (qaj hE4 (f:=190) (vs:=[.pointer (some ⟨br,0,none⟩)]) (d:=8) kz Tryz.call190 (qcT u.length (by omega) (qcC u ++ rest) hT0.rd hT0.oct hFd') ?_)
 rintro e_ w3 ⟨_,A3,n3,c3,rfl,hs3,hr3,hst3,rfl⟩
 have hT1:=hT0.read hFd hs3 hr3 hst3
 refine ⟨_,rfl,fun a4 hE5=>?_⟩
 refine qai [2] [] [(0,.v (.pointer (some ⟨br,0,none⟩))),(2,.v (.pointer (some ⟨p2,0,none⟩))),(3,.v (.pointer (some ⟨p3,0,none⟩))),(4,.v (.int .u32 ((u.length:Nat):Int)))] (WOk.start w3 Nil) hE5 fun a5 hE6=>qaf (qab ?_)
 refine wp_block ?_
 refine wp_loop_ghost (fun q a_ w_=>∃ (j:Nat) (m_:Option Nat) (A_:Option Addr) (n_ c_:Nat),q = u.length - j ∧ j ≤ u.length ∧ EnvOk 24 [] [(0,.v (.pointer (some ⟨br,0,none⟩))),(2,.v (.pointer (some ⟨p2,0,none⟩))),(3,.v (.pointer (some ⟨p3,0,none⟩))),(4,.v (.int .u32 ((u.length - j:Nat):Int)))] a_ ∧ TR w w_ br p2 p3 F A_ n_ c_ (qcC (u.drop j) ++ rest) m_ (u.take j)) u.length
  ⟨0,none,A3,n3,c3,by omega,by omega,hE6,hT1⟩ ?_
 rintro q aq wq ⟨j,m_,A_,n_,c_,rfl,hj,hEq,hT⟩
 have hWq:=WOk.start wq Nil
 refine wp_seq (qan [(0,.v (.pointer (some ⟨br,0,none⟩))),(2,.v (.pointer (some ⟨p2,0,none⟩))),(3,.v (.pointer (some ⟨p3,0,none⟩))),(4,.v (.int .u32 ((u.length - j:Nat):Int))),(10,.v (.bool (decide (((u.length - j:Nat):Int) > 0))))] hWq hEq fun aq1 hE7=>?_)
 refine qas hE7 (b:=decide (((u.length - j:Nat):Int) > 0)) kz (fun hc=>?_) (fun hc=>?_)
 ·have hlt:j < u.length:=by have:=of_decide_eq_true hc; omega
  obtain ⟨⟨k,x⟩,hu⟩:∃ y,u[j]? = some y:=⟨_,List.getElem?_eq_getElem hlt⟩
  have hk':=hk (k,x) (List.mem_of_getElem? hu)
  have hx':=hxl (k,x) (List.mem_of_getElem? hu)
  dsimp only at hk' hx'
  have hoct:=hT.oct
  rw [qh8 hu rest] at hoct
  refine wp_skip (qab (wp_seq (wp_block ?_)))
  refine qae [0,1,2,3,4,5] kz ?_
  refine qai [0] [1,2,3,4,5] [(0,.v (.pointer (some ⟨br,0,none⟩))),(2,.v (.pointer (some ⟨p2,0,none⟩))),(3,.v (.pointer (some ⟨p3,0,none⟩))),(4,.v (.int .u32 ((u.length - j:Nat):Int))),(13,.v (.pointer (some ⟨br,0,none⟩)))] hWq hE7 fun aq2 hE8=>?_
  refine qak (qaj hE8 (f:=190) (vs:=[.pointer (some ⟨br,0,none⟩)]) (d:=14) kz Tryz.call190 (qcT k.toNat (by omega) _ hT.rd hoct hFd') ?_)
  rintro e_ wa ⟨_,Aa,na,ca,rfl,hsa,hra,hsta,rfl⟩
  have hTa:=hT.read hFd hsa hra hsta
  refine ⟨_,rfl,fun aq3 hE9=>?_⟩
  refine qai [2] [3,4,5] [(0,.v (.pointer (some ⟨br,0,none⟩))),(2,.v (.pointer (some ⟨p2,0,none⟩))),(3,.v (.pointer (some ⟨p3,0,none⟩))),(4,.v (.int .u32 ((u.length - j:Nat):Int))),(14,.v (.int .u32 ((k.toNat:Nat):Int))),(15,.v (.pointer (some ⟨br,0,none⟩)))] (WOk.start wa Nil) hE9 fun aq4 hE10=>?_
  refine qak (qaj hE10 (f:=190) (vs:=[.pointer (some ⟨br,0,none⟩)]) (d:=16) kz Tryz.call190 (qcT x.length hx' _ hTa.rd hTa.oct hFd') ?_)
  rintro e_ wb ⟨_,Ab,nb,cb,rfl,hsb,hrb,hstb,rfl⟩
  have hTb:=hTa.read hFd hsb hrb hstb
  refine ⟨_,rfl,fun aq5 hE11=>?_⟩
  refine qai [4,5] [] [(0,.v (.pointer (some ⟨br,0,none⟩))),(2,.v (.pointer (some ⟨p2,0,none⟩))),(3,.v (.pointer (some ⟨p3,0,none⟩))),(4,.v (.int .u32 ((u.length - j:Nat):Int))),(5,.v (.int .u32 ((k.toNat:Nat):Int))),(6,.v (.int .u32 ((x.length:Nat):Int)))] (WOk.start wb Nil) hE11 fun aq6 hE12=>qaf (qab ?_)
  refine qap [0,1,2,3,4,5] kz ?_
  refine qai [0,1,2,3] [4,5] [(0,.v (.pointer (some ⟨br,0,none⟩))),(2,.v (.pointer (some ⟨p2,0,none⟩))),(3,.v (.pointer (some ⟨p3,0,none⟩))),(4,.v (.int .u32 ((u.length - j:Nat):Int))),(17,.v (.int .u32 ((k.toNat:Nat):Int))),(18,.v (.pointer (some ⟨br,0,none⟩))),(20,.v (.int .i64 (IntKind.i64.wrap ((x.length:Nat):Int))))] (WOk.start wb Nil) hE12 fun aq7 hE13=>?_
  rw [show IntKind.i64.wrap ((x.length:Nat):Int) = ((x.length:Nat):Int) by rw [i64w]; omega,show ((k.toNat:Nat):Int) = k by omega] at hE13
  refine qak (qaj hE13 (f:=192) (vs:=[.pointer (some ⟨br,0,none⟩),.int .i64 ((x.length:Nat):Int)]) (d:=21) kz Tryz.call192 (qh6 x _ hTb.rd hTb.oct hFd') ?_)
  rintro e_ wc ⟨_,Ac,nc,cc,rfl,hsc,hrc,hstc,Ax,rfl,hox⟩
  have hTc:=hTb.read hFd hsc hrc hstc
  refine ⟨_,rfl,fun aq8 hE14=>?_⟩
  refine qak (qaj hE14 (f:=193) (vs:=[.pointer (some ⟨p3,0,none⟩),.int .u32 k,.slice Ax x.length x.length]) (d:=22) kz Tryz.call193 (hTc.set hsort hu hox hk') ?_)
  rintro e_ wd ⟨rfl,r,hTd⟩
  refine ⟨_,rfl,fun aq9 hE15=>qaf (qaq (qab ?_))⟩
  refine qap [0,1,2] kz (qai [0,1,2] [] [(0,.v (.pointer (some ⟨br,0,none⟩))),(2,.v (.pointer (some ⟨p2,0,none⟩))),(3,.v (.pointer (some ⟨p3,0,none⟩))),(4,.v (.int .u32 (IntKind.u32.wrap (((u.length - j:Nat):Int) - 1))))] (WOk.start wd Nil) hE15 fun aqa hE16=>qaf (qab ?_))
  rw [show IntKind.u32.wrap (((u.length - j:Nat):Int) - 1) = ((u.length - (j + 1):Nat):Int) by rw [qax]; omega] at hE16
  exact ⟨u.length - (j + 1),by omega,j + 1,some r,Ac,nc,cc,rfl,by omega,hE16,hTd⟩
 obtain rfl:j = u.length:=by have:=of_decide_eq_false hc; omega
 refine wp_exit (qaB (qaB (qaL (qab ?_))))
 rw [List.take_length,List.drop_length] at hT
 have hT':TR w wq br p2 p3 F A_ n_ c_ rest m_ u:=hT
 have h2:=hT'.new2
 have h3:=hT'.new3
 have hW9:WOk w (RdM br) wq ([] ++ [⟨p3,0,[.map m_],true⟩] ++ [⟨p2,0,[.map none],true⟩]) []:=by
  have hb:WOk w (RdM br) wq [] []:=⟨hT'.step,fun i o hi=>by simp at hi,fun i o hi=>by simp at hi,fun i o hi=>by simp at hi,fun i j o o' _ hi=>by simp at hi,fun i r hi=>by simp at hi,fun i r hi=>by simp at hi,fun i r hi=>by simp at hi,fun i j r r' _ hi=>by simp at hi⟩
  have h4:=hb.add ⟨p3,0,[.map m_],true⟩ (World.lt_of_cell (hT'.s3.at_ 0 _ rfl)) (fun j v hj=>by rw [Nat.zero_add]; exact hT'.s3.at_ j v hj) (fun _ j hj=>⟨.inl h3,by rw [Nat.zero_add]; exact hT'.s3.frz j hj⟩) (fun i o hi=>by simp at hi) (fun i r hi=>by simp at hi)
  refine h4.add ⟨p2,0,[.map none],true⟩ (World.lt_of_cell (hT'.s2.at_ 0 _ rfl)) (fun j v hj=>by rw [Nat.zero_add]; exact hT'.s2.at_ j v hj) (fun _ j hj=>⟨.inl h2,by rw [Nat.zero_add]; exact hT'.s2.frz j hj⟩) (fun i o hi _=>.inl ?_) (fun i r hi=>by simp at hi)
  have:o = ⟨p3,0,[.map m_],true⟩:=by
   have hm:=List.mem_of_getElem? hi
   simpa using hm
  rw [this]
  exact fun e=>hT'.ne e.symm
 have hE17:=(((hE7.retable [⟨p3,0,[.map m_],true⟩,⟨p2,0,[.map none],true⟩]).recast 3 (.v (.pointer (some ⟨p3,0,none⟩))) (.p 0 0) rfl rfl (Nat.le_of_ble_eq_true (n:=1) rfl)).recast 2 (.v (.pointer (some ⟨p2,0,none⟩))) (.p 1 0) rfl rfl (Nat.le_of_ble_eq_true (n:=2) rfl))
 have hE18:EnvOk 24 [⟨p3,0,[.map m_],true⟩,⟨p2,0,[.map none],true⟩] [(2,.p 1 0),(3,.p 0 0)] _:=hE17.pk
 refine qae [0,1] kz ?_
 refine qai [0] [1] [(2,.p 1 0),(23,.v (.agg #[.map m_]))] hW9 hE18 fun aqb hE19=>?_
 refine qak (qav hW9 hE19 (oi:=1) (cs:=[.map m_]) kz fun wz hFz hWz hEz=>qaf (qab (wp_ret ?_)))
 have hsz:=hT'.step.size
 have hstz:Step wq wz (fun b o=>b = p2 ∨ b = p3):=hFz.step.mono fun b o _ ha=>by
  rcases ha with ⟨i,ob,hi,_,rfl,_⟩ | ⟨i,r,hi,_⟩
  ·have hm:=List.mem_of_getElem? hi
   simp only [List.nil_append,List.cons_append,List.mem_cons,List.not_mem_nil,or_false] at hm
   rcases hm with rfl | rfl
   ·exact .inr rfl
   exact .inl rfl
  simp at hi
 obtain ⟨m2,m3⟩:=hT'.mne
 refine qaF hEz hWz.cells (v:=.agg #[.map m_]) kz ⟨_,A_,n_,c_,rfl,hT'.rd.move hstz (fun o e=>?_),hT'.oct.move hstz (fun b o hg _ e=>?_) (fun b o hg _=>.inl hg.1),hWz.step,m_,rfl,?_⟩
 ·have:=hT'.old; rcases e with e | e <;> omega
 ·have:=hg.2; rcases e with e | e <;> omega
 refine (hT'.own.move hstz (fun b o hg _ e=>?_) qaY (fun r o e he=>?_)).map (fun b o h=>.inl h.1) (fun r o e=>.inr (hT'.new r e)) hsort hk
 ·have:=hg.2; rcases e with e | e <;> omega
 rcases he with he | he
 ·exact m2 (by rw [e,he])
 exact m3 (by rw [e,he])
theorem qk3 (X:Bs) (hX:X.length ≤ 32767) (rest:Bs)  {br:Nat} {A:Option Addr} {m c:Nat} {w:World} {F:Nat → Nat → Prop} (hst:Str w br [.slice A m c,.bool false]) (hr:RdS w F A m c ((be 2 ((X.length:Nat):Int)) ++ (X ++ rest))) (hFd:∀ b o,F b o → ¬ RdM br b o) :
  Calls Tryz.prog 154 #[.pointer (some ⟨br,0,none⟩)] w (RdPost w br (Fp F w) rest fun v w'=>v = .string (bs X)):=by
 refine enter (n:=11) Tryz.func154 rfl Tryz.ntmps154 kz fun a hE=>?_
 have hW:WOk w (RdM br) w [⟨br,0,[.slice A m c,.bool false],true⟩] []:=WOk.startStr hst
 have hE1:=(hE.grow ⟨br,0,[.slice A m c,.bool false],true⟩).recast 0 (.v (.pointer (some ⟨br,0,none⟩))) (.p 0 0) rfl rfl (Nat.le_of_ble_eq_true (n:=1) rfl)
 refine qan [(0,.p 0 0)] hW hE1 fun a1 hE2=>?_
 refine qae [0,1,2] kz ?_
 refine qai [0] [1,2] [(0,.p 0 0),(4,.p 0 0)] hW hE2 fun a3 hE4=>?_
 refine qak (qaj hE4 (f:=141) (vs:=[.pointer (some ⟨br,0,none⟩)]) (d:=5) kz Tryz.call141 (qjj ((X.length:Nat):Int) (X ++ rest) (Str.of hW 0 rfl) (hr.move hW.step (fun b_ o_ h_ _=>hFd b_ o_ h_) (hW.immM hFd)) (qcx 0 rfl)) ?_)
 rintro e_ w5 ⟨_,A6,n7,c8,rfl,hs9,ag,ac,rfl⟩
 obtain ⟨aa,ah,aG⟩:=hW.wrote 0 [⟨br,0,[.slice A6 n7 c8,.bool false],true⟩] rfl ac hs9
 have ai:=ag.move (Step.refl _ Nil) nilM (fun b_ o_ h_ _=>ah.to b_ o_ h_)
 refine ⟨_,rfl,fun aJ aj=>?_⟩
 have ak:EnvOk 11 [⟨br,0,[.slice A6 n7 c8,.bool false],true⟩] [(5,.v (.int .i16 (IntKind.i16.wrap ((X.length:Nat):Int)))),(0,.p 0 0),(4,.p 0 0)] _:=aj.places (⟨rfl,rfl,trivial⟩)
 refine qai [2] [] [(0,.p 0 0),(3,.v (.int .i16 (IntKind.i16.wrap ((X.length:Nat):Int))))] aa ak fun aK al=>?_
 refine qaf (qab ?_)
 refine qae [0,1,2,3,4,5] kz ?_
 refine qai [0,1,2] [3,4,5] [(6,.p 0 0),(8,.v (.int .i64 (IntKind.i64.wrap (IntKind.i16.wrap ((X.length:Nat):Int)))))] aa al fun aL am=>?_
 have ao:IntKind.i64.wrap (IntKind.i16.wrap ((X.length:Nat):Int)) = ((X.length:Nat):Int):=by simp only [i16w,i32w,i64w]; omega
 have ap:=EnvOk.pick am (ks:=[6,8]) (env':=[(6,.p 0 0),(8,.v (.int .i64 (IntKind.i64.wrap (IntKind.i16.wrap ((X.length:Nat):Int)))))]) kz
 have ar:=ap.cast (env':=[(6,.p 0 0),(8,.v (.int .i64 ((X.length:Nat):Int)))]) (by rw [ao])
 refine qak (qaj ar (f:=192) (vs:=[.pointer (some ⟨br,0,none⟩),.int .i64 ((X.length:Nat):Int)]) (d:=9) kz Tryz.call192 (qh6 X (rest) (Str.of aa 0 rfl) ai (qcx 0 rfl)) ?_)
 rintro e_ aM ⟨_,aD,aE,aF,rfl,au,av,ae,⟨aH,rfl,aw⟩⟩
 obtain ⟨ab,af,aI⟩:=aa.wrote 0 [⟨br,0,[.slice aD aE aF,.bool false],true⟩] rfl ae au
 have ax:=av.move (Step.refl _ Nil) nilM (fun b_ o_ h_ _=>af.to b_ o_ h_)
 refine ⟨_,rfl,fun aN ay=>?_⟩
 have az:EnvOk 11 [⟨br,0,[.slice aD aE aF,.bool false],true⟩] [(9,.v (.slice aH X.length X.length)),(6,.p 0 0),(8,.v (.int .i64 ((X.length:Nat):Int)))] _:=ay.places (⟨rfl,rfl,trivial⟩)
 have aA:=aw.move (Step.refl _ Nil) nilM (fun b_ o_ h_ _=>af.to b_ o_ h_)
 refine qak (qd4 az (src:=22) (dst:=9) (e:=5) (d:=10) kz kz kz kz aA fun aO aB=>?_)
 refine qai [5] [] [(2,.v (.string (bs X)))] ab aB fun aP aC=>?_
 refine qaf (qab ?_)
 refine wp_ret ?_
 refine qaF aC ab.cells (v:=.string (bs X)) kz ?_
 refine ⟨_,_,_,_,rfl,Str.of ab 0 rfl,(ax.move (Step.refl _ Nil) nilM qbI),ab.step,rfl⟩
theorem qfd (X:Bs) (hX:X.length ≤ 1000000) (rest:Bs)  {br:Nat} {A:Option Addr} {m c:Nat} {w:World} {F:Nat → Nat → Prop} (hst:Str w br [.slice A m c,.bool false]) (hr:RdS w F A m c ((uv (X.length + 1)) ++ (X ++ rest))) (hFd:∀ b o,F b o → ¬ RdM br b o) :
  Calls Tryz.prog 153 #[.pointer (some ⟨br,0,none⟩)] w (RdPost w br (Fp F w) rest fun v w'=>v = .string (bs X)):=by
 refine enter (n:=12) Tryz.func153 rfl Tryz.ntmps153 kz fun a hE=>?_
 have hW:WOk w (RdM br) w [⟨br,0,[.slice A m c,.bool false],true⟩] []:=WOk.startStr hst
 have hE1:=(hE.grow ⟨br,0,[.slice A m c,.bool false],true⟩).recast 0 (.v (.pointer (some ⟨br,0,none⟩))) (.p 0 0) rfl rfl (Nat.le_of_ble_eq_true (n:=1) rfl)
 refine qan [(0,.p 0 0)] hW hE1 fun a1 hE2=>?_
 refine qae [0,1,2,3,4] kz ?_
 refine qai [0] [1,2,3,4] [(0,.p 0 0),(4,.p 0 0)] hW hE2 fun a3 hE4=>?_
 refine qak (qaj hE4 (f:=190) (vs:=[.pointer (some ⟨br,0,none⟩)]) (d:=5) kz Tryz.call190 (qcT (X.length + 1) (by omega) (X ++ rest) (Str.of hW 0 rfl) (hr.move hW.step (fun b_ o_ h_ _=>hFd b_ o_ h_) (hW.immM hFd)) (qcx 0 rfl)) ?_)
 rintro e_ w5 ⟨_,A6,n7,c8,rfl,hs9,ag,ac,rfl⟩
 obtain ⟨aa,ah,aG⟩:=hW.wrote 0 [⟨br,0,[.slice A6 n7 c8,.bool false],true⟩] rfl ac hs9
 have ai:=ag.move (Step.refl _ Nil) nilM (fun b_ o_ h_ _=>ah.to b_ o_ h_)
 refine ⟨_,rfl,fun aJ aj=>?_⟩
 have ak:EnvOk 12 [⟨br,0,[.slice A6 n7 c8,.bool false],true⟩] [(5,.v (.int .u32 ((X.length + 1:Nat):Int))),(0,.p 0 0),(4,.p 0 0)] _:=aj.places (⟨rfl,rfl,trivial⟩)
 refine qai [2,3,4] [] [(0,.p 0 0),(3,.v (.int .i64 (IntKind.i64.wrap ((IntKind.i64.wrap ((X.length + 1:Nat):Int)) - 1))))] aa ak fun aK al=>?_
 refine qaf (qab ?_)
 refine qae [0,1,2,3,4] kz ?_
 refine qai [0,1] [2,3,4] [(8,.p 0 0),(9,.v (.int .i64 (IntKind.i64.wrap ((IntKind.i64.wrap ((X.length + 1:Nat):Int)) - 1))))] aa al fun aL am=>?_
 have ao:IntKind.i64.wrap ((IntKind.i64.wrap ((X.length + 1:Nat):Int)) - 1) = ((X.length:Nat):Int):=by simp only [i16w,i32w,i64w]; omega
 have ap:=EnvOk.pick am (ks:=[8,9]) (env':=[(8,.p 0 0),(9,.v (.int .i64 (IntKind.i64.wrap ((IntKind.i64.wrap ((X.length + 1:Nat):Int)) - 1))))]) kz
 have ar:=ap.cast (env':=[(8,.p 0 0),(9,.v (.int .i64 ((X.length:Nat):Int)))]) (by rw [ao])
 refine qak (qaj ar (f:=192) (vs:=[.pointer (some ⟨br,0,none⟩),.int .i64 ((X.length:Nat):Int)]) (d:=10) kz Tryz.call192 (qh6 X (rest) (Str.of aa 0 rfl) ai (qcx 0 rfl)) ?_)
 rintro e_ aM ⟨_,aD,aE,aF,rfl,au,av,ae,⟨aH,rfl,aw⟩⟩
 obtain ⟨ab,af,aI⟩:=aa.wrote 0 [⟨br,0,[.slice aD aE aF,.bool false],true⟩] rfl ae au
 have ax:=av.move (Step.refl _ Nil) nilM (fun b_ o_ h_ _=>af.to b_ o_ h_)
 refine ⟨_,rfl,fun aN ay=>?_⟩
 have az:EnvOk 12 [⟨br,0,[.slice aD aE aF,.bool false],true⟩] [(10,.v (.slice aH X.length X.length)),(8,.p 0 0),(9,.v (.int .i64 ((X.length:Nat):Int)))] _:=ay.places (⟨rfl,rfl,trivial⟩)
 have aA:=aw.move (Step.refl _ Nil) nilM (fun b_ o_ h_ _=>af.to b_ o_ h_)
 refine qak (qd4 az (src:=22) (dst:=9) (e:=5) (d:=11) kz kz kz kz aA fun aO aB=>?_)
 refine qai [4] [] [(2,.v (.string (bs X)))] ab aB fun aP aC=>?_
 refine qaf (qab ?_)
 refine wp_ret ?_
 refine qaF aC ab.cells (v:=.string (bs X)) kz ?_
 refine ⟨_,_,_,_,rfl,Str.of ab 0 rfl,(ax.move (Step.refl _ Nil) nilM qbI),ab.step,rfl⟩
theorem qeC (X:Bs) (rest:Bs)  {br:Nat} {A:Option Addr} {m c:Nat} {w:World} {F:Nat → Nat → Prop} (hst:Str w br [.slice A m c,.bool false]) (hr:RdS w F A m c ((be 2 (-1)) ++ rest)) (hFd:∀ b o,F b o → ¬ RdM br b o) :
  Calls Tryz.prog 145 #[.pointer (some ⟨br,0,none⟩)] w (RdPost w br (Fp F w) rest fun v w'=>∃ A2,v = .pointer A2 ∧ (∀ ad,A2 = some ad → ∃ b o,ad = ⟨b,o,none⟩ ∧ AtF w' (Fp F w) b o [.string (bs X)]) ∧ A2.isNone = true):=by
 refine enter (n:=14) Tryz.func145 rfl Tryz.ntmps145 kz fun a hE=>?_
 have hW:WOk w (RdM br) w [⟨br,0,[.slice A m c,.bool false],true⟩] []:=WOk.startStr hst
 have hE1:=(hE.grow ⟨br,0,[.slice A m c,.bool false],true⟩).recast 0 (.v (.pointer (some ⟨br,0,none⟩))) (.p 0 0) rfl rfl (Nat.le_of_ble_eq_true (n:=1) rfl)
 refine qan [(0,.p 0 0)] hW hE1 fun a1 hE2=>?_
 refine qae [0,1,2] kz ?_
 refine qai [0] [1,2] [(0,.p 0 0),(5,.p 0 0)] hW hE2 fun a3 hE4=>?_
 refine qak (qaj hE4 (f:=141) (vs:=[.pointer (some ⟨br,0,none⟩)]) (d:=6) kz Tryz.call141 (qjj (-1) (rest) (Str.of hW 0 rfl) (hr.move hW.step (fun b_ o_ h_ _=>hFd b_ o_ h_) (hW.immM hFd)) (qcx 0 rfl)) ?_)
 rintro e_ w5 ⟨_,A6,n7,c8,rfl,hs9,ae,ab,rfl⟩
 obtain ⟨aa,af,al⟩:=hW.wrote 0 [⟨br,0,[.slice A6 n7 c8,.bool false],true⟩] rfl ab hs9
 have ag:=ae.move (Step.refl _ Nil) nilM (fun b_ o_ h_ _=>af.to b_ o_ h_)
 refine ⟨_,rfl,fun am ah=>?_⟩
 have ai:EnvOk 14 [⟨br,0,[.slice A6 n7 c8,.bool false],true⟩] [(6,.v (.int .i16 (IntKind.i16.wrap (-1)))),(0,.p 0 0),(5,.p 0 0)] _:=ah.places (⟨rfl,rfl,trivial⟩)
 refine qai [2] [] [(0,.p 0 0),(3,.v (.int .i16 (IntKind.i16.wrap (-1))))] aa ai fun ao aj=>?_
 refine qaf (qab ?_)
 refine wp_seq ?_
 refine qan [(0,.p 0 0),(3,.v (.int .i16 (IntKind.i16.wrap (-1)))),(8,.v (.bool (decide ((IntKind.i16.wrap (-1)) < 0))))] aa aj fun ap ac=>?_
 refine qaW ac (b:=decide ((IntKind.i16.wrap (-1)) < 0)) kz (decide_eq_true (by simp only [i16w,i32w,i64w]; omega)) ?_
 refine qan [(2,.v (.pointer none))] aa ac fun ar ak=>?_
 refine wp_ret ?_
 refine qam ?_
 refine qaF ak aa.cells (v:=.pointer none) kz ?_
 refine ⟨_,_,_,_,rfl,Str.of aa 0 rfl,(ag.move (Step.refl _ Nil) nilM qbI),aa.step,_,rfl,(fun ad h_=>by cases h_),rfl⟩
theorem qeD (X:Bs) (hX:X.length ≤ 32767) (rest:Bs)  {br:Nat} {A:Option Addr} {m c:Nat} {w:World} {F:Nat → Nat → Prop} (hst:Str w br [.slice A m c,.bool false]) (hr:RdS w F A m c ((be 2 ((X.length:Nat):Int)) ++ (X ++ rest))) (hFd:∀ b o,F b o → ¬ RdM br b o) :
  Calls Tryz.prog 145 #[.pointer (some ⟨br,0,none⟩)] w (RdPost w br (Fp F w) rest fun v w'=>∃ A2,v = .pointer A2 ∧ (∀ ad,A2 = some ad → ∃ b o,ad = ⟨b,o,none⟩ ∧ AtF w' (Fp F w) b o [.string (bs X)]) ∧ A2.isNone = false):=by
 refine enter (n:=14) Tryz.func145 rfl Tryz.ntmps145 kz fun a hE=>?_
 have hW:WOk w (RdM br) w [⟨br,0,[.slice A m c,.bool false],true⟩] []:=WOk.startStr hst
 have hE1:=(hE.grow ⟨br,0,[.slice A m c,.bool false],true⟩).recast 0 (.v (.pointer (some ⟨br,0,none⟩))) (.p 0 0) rfl rfl (Nat.le_of_ble_eq_true (n:=1) rfl)
 refine qan [(0,.p 0 0)] hW hE1 fun a1 hE2=>?_
 refine qae [0,1,2] kz ?_
 refine qai [0] [1,2] [(0,.p 0 0),(5,.p 0 0)] hW hE2 fun a3 hE4=>?_
 refine qak (qaj hE4 (f:=141) (vs:=[.pointer (some ⟨br,0,none⟩)]) (d:=6) kz Tryz.call141 (qjj ((X.length:Nat):Int) (X ++ rest) (Str.of hW 0 rfl) (hr.move hW.step (fun b_ o_ h_ _=>hFd b_ o_ h_) (hW.immM hFd)) (qcx 0 rfl)) ?_)
 rintro e_ w5 ⟨_,A6,n7,c8,rfl,hs9,aj,ac,rfl⟩
 obtain ⟨aa,ak,aN⟩:=hW.wrote 0 [⟨br,0,[.slice A6 n7 c8,.bool false],true⟩] rfl ac hs9
 have al:=aj.move (Step.refl _ Nil) nilM (fun b_ o_ h_ _=>ak.to b_ o_ h_)
 refine ⟨_,rfl,fun aT am=>?_⟩
 have ao:EnvOk 14 [⟨br,0,[.slice A6 n7 c8,.bool false],true⟩] [(6,.v (.int .i16 (IntKind.i16.wrap ((X.length:Nat):Int)))),(0,.p 0 0),(5,.p 0 0)] _:=am.places (⟨rfl,rfl,trivial⟩)
 refine qai [2] [] [(0,.p 0 0),(3,.v (.int .i16 (IntKind.i16.wrap ((X.length:Nat):Int))))] aa ao fun aU ap=>?_
 refine qaf (qab ?_)
 refine wp_seq ?_
 refine qan [(0,.p 0 0),(3,.v (.int .i16 (IntKind.i16.wrap ((X.length:Nat):Int)))),(8,.v (.bool (decide ((IntKind.i16.wrap ((X.length:Nat):Int)) < 0))))] aa ap fun aV ae=>?_
 refine qao ae (b:=decide ((IntKind.i16.wrap ((X.length:Nat):Int)) < 0)) kz (decide_eq_false (by simp only [i16w,i32w,i64w]; omega)) ?_
 refine wp_skip ?_
 refine qab ?_
 refine qae [0,1,2,3,4,5,6] kz ?_
 refine qai [0,1,2] [3,4,5,6] [(9,.p 0 0),(11,.v (.int .i64 (IntKind.i64.wrap (IntKind.i16.wrap ((X.length:Nat):Int)))))] aa ae fun aW ar=>?_
 have au:IntKind.i64.wrap (IntKind.i16.wrap ((X.length:Nat):Int)) = ((X.length:Nat):Int):=by simp only [i16w,i32w,i64w]; omega
 have av:=EnvOk.pick ar (ks:=[9,11]) (env':=[(9,.p 0 0),(11,.v (.int .i64 (IntKind.i64.wrap (IntKind.i16.wrap ((X.length:Nat):Int)))))]) kz
 have aw:=av.cast (env':=[(9,.p 0 0),(11,.v (.int .i64 ((X.length:Nat):Int)))]) (by rw [au])
 refine qak (qaj aw (f:=192) (vs:=[.pointer (some ⟨br,0,none⟩),.int .i64 ((X.length:Nat):Int)]) (d:=12) kz Tryz.call192 (qh6 X (rest) (Str.of aa 0 rfl) al (qcx 0 rfl)) ?_)
 rintro e_ aX ⟨_,aK,aL,aM,rfl,ax,ay,af,⟨aO,rfl,az⟩⟩
 obtain ⟨aA,ag,aP⟩:=aa.wrote 0 [⟨br,0,[.slice aK aL aM,.bool false],true⟩] rfl af ax
 have aB:=ay.move (Step.refl _ Nil) nilM (fun b_ o_ h_ _=>ag.to b_ o_ h_)
 refine ⟨_,rfl,fun aY aC=>?_⟩
 have aD:EnvOk 14 [⟨br,0,[.slice aK aL aM,.bool false],true⟩] [(12,.v (.slice aO X.length X.length)),(9,.p 0 0),(11,.v (.int .i64 ((X.length:Nat):Int)))] _:=aC.places (⟨rfl,rfl,trivial⟩)
 have aE:=az.move (Step.refl _ Nil) nilM (fun b_ o_ h_ _=>ag.to b_ o_ h_)
 refine qak (qd4 aD (src:=22) (dst:=9) (e:=5) (d:=13) kz kz kz kz aE fun aZ aF=>?_)
 refine qak (qaK aA aF (d:=4) (cs:=[.string ByteArray.empty]) kz fun aQ ba bd aR aS ah aG aH=>?_)
 refine qak (qav aG aH (oi:=1) (cs:=[.string (bs X)]) kz fun bf ai ab aI=>?_)
 refine qaf (qab ?_)
 refine qan [(2,.p 1 0)] ab aI fun bg aJ=>?_
 refine wp_ret ?_
 refine qaF aJ ab.cells (v:=.pointer (some ⟨aQ,0,none⟩)) kz ?_
 refine ⟨_,_,_,_,rfl,Str.of ab 0 rfl,((aB.move (ah.trans ai).step immM (ah.trans ai).to').move (Step.refl _ Nil) nilM qbI),ab.step,_,rfl,(fun ad h_=>by
  obtain rfl:=Option.some.inj h_
  exact ⟨_,0,rfl,fun j v_ hj=>⟨.inr ‹_›,ab.cells 1 _ rfl j v_ hj⟩⟩),rfl⟩
theorem qe8 (nul:Bool) (X:Bs) (hX:X.length ≤ 32767) (rest:Bs) {br:Nat} {A:Option Addr} {m c:Nat} {w:World} {F:Nat → Nat → Prop} (hst:Str w br [.slice A m c,.bool false]) (hr:RdS w F A m c ((if nul = true then be 2 (-1) else be 2 ((X.length:Nat):Int) ++ X) ++ rest)) (hFd:∀ b o,F b o → ¬ RdM br b o) :
  Calls Tryz.prog 145 #[.pointer (some ⟨br,0,none⟩)] w (RdPost w br (Fp F w) rest fun v w'=>∃ A2,v = .pointer A2 ∧ (∀ ad,A2 = some ad → ∃ b o,ad = ⟨b,o,none⟩ ∧ AtF w' (Fp F w) b o [.string (bs X)]) ∧ A2.isNone = nul):=by
 cases nul
 ·exact qeD X hX rest hst (hr.cast (by simp only [Bool.false_eq_true,if_false,List.append_assoc])) hFd
 exact qeC X rest hst (hr.cast (by simp only [if_true])) hFd
theorem qcU (X:Bs) (rest:Bs)  {br:Nat} {A:Option Addr} {m c:Nat} {w:World} {F:Nat → Nat → Prop} (hst:Str w br [.slice A m c,.bool false]) (hr:RdS w F A m c ((uv 0) ++ rest)) (hFd:∀ b o,F b o → ¬ RdM br b o) :
  Calls Tryz.prog 143 #[.pointer (some ⟨br,0,none⟩)] w (RdPost w br (Fp F w) rest fun v w'=>∃ A2,v = .pointer A2 ∧ (∀ ad,A2 = some ad → ∃ b o,ad = ⟨b,o,none⟩ ∧ AtF w' (Fp F w) b o [.string (bs X)]) ∧ A2.isNone = true):=by
 refine enter (n:=15) Tryz.func143 rfl Tryz.ntmps143 kz fun a hE=>?_
 have hW:WOk w (RdM br) w [⟨br,0,[.slice A m c,.bool false],true⟩] []:=WOk.startStr hst
 have hE1:=(hE.grow ⟨br,0,[.slice A m c,.bool false],true⟩).recast 0 (.v (.pointer (some ⟨br,0,none⟩))) (.p 0 0) rfl rfl (Nat.le_of_ble_eq_true (n:=1) rfl)
 refine qan [(0,.p 0 0)] hW hE1 fun a1 hE2=>?_
 refine qae [0,1,2,3,4] kz ?_
 refine qai [0] [1,2,3,4] [(0,.p 0 0),(5,.p 0 0)] hW hE2 fun a3 hE4=>?_
 refine qak (qaj hE4 (f:=190) (vs:=[.pointer (some ⟨br,0,none⟩)]) (d:=6) kz Tryz.call190 (qcT 0 (by omega) (rest) (Str.of hW 0 rfl) (hr.move hW.step (fun b_ o_ h_ _=>hFd b_ o_ h_) (hW.immM hFd)) (qcx 0 rfl)) ?_)
 rintro e_ w5 ⟨_,A6,n7,c8,rfl,hs9,ae,ab,rfl⟩
 obtain ⟨aa,af,al⟩:=hW.wrote 0 [⟨br,0,[.slice A6 n7 c8,.bool false],true⟩] rfl ab hs9
 have ag:=ae.move (Step.refl _ Nil) nilM (fun b_ o_ h_ _=>af.to b_ o_ h_)
 refine ⟨_,rfl,fun am ah=>?_⟩
 have ai:EnvOk 15 [⟨br,0,[.slice A6 n7 c8,.bool false],true⟩] [(6,.v (.int .u32 ((0:Nat):Int))),(0,.p 0 0),(5,.p 0 0)] _:=ah.places (⟨rfl,rfl,trivial⟩)
 refine qai [2,3,4] [] [(0,.p 0 0),(3,.v (.int .i64 (IntKind.i64.wrap ((IntKind.i64.wrap ((0:Nat):Int)) - 1))))] aa ai fun ao aj=>?_
 refine qaf (qab ?_)
 refine wp_seq ?_
 refine qan [(0,.p 0 0),(3,.v (.int .i64 (IntKind.i64.wrap ((IntKind.i64.wrap ((0:Nat):Int)) - 1)))),(10,.v (.bool (decide ((IntKind.i64.wrap ((IntKind.i64.wrap ((0:Nat):Int)) - 1)) < 0))))] aa aj fun ap ac=>?_
 refine qaW ac (b:=decide ((IntKind.i64.wrap ((IntKind.i64.wrap ((0:Nat):Int)) - 1)) < 0)) kz (decide_eq_true (by simp only [i16w,i32w,i64w]; omega)) ?_
 refine qan [(2,.v (.pointer none))] aa ac fun ar ak=>?_
 refine wp_ret ?_
 refine qam ?_
 refine qaF ak aa.cells (v:=.pointer none) kz ?_
 refine ⟨_,_,_,_,rfl,Str.of aa 0 rfl,(ag.move (Step.refl _ Nil) nilM qbI),aa.step,_,rfl,(fun ad h_=>by cases h_),rfl⟩
theorem qcV (X:Bs) (hX:X.length ≤ 1000000) (rest:Bs)  {br:Nat} {A:Option Addr} {m c:Nat} {w:World} {F:Nat → Nat → Prop} (hst:Str w br [.slice A m c,.bool false]) (hr:RdS w F A m c ((uv (X.length + 1)) ++ (X ++ rest))) (hFd:∀ b o,F b o → ¬ RdM br b o) :
  Calls Tryz.prog 143 #[.pointer (some ⟨br,0,none⟩)] w (RdPost w br (Fp F w) rest fun v w'=>∃ A2,v = .pointer A2 ∧ (∀ ad,A2 = some ad → ∃ b o,ad = ⟨b,o,none⟩ ∧ AtF w' (Fp F w) b o [.string (bs X)]) ∧ A2.isNone = false):=by
 refine enter (n:=15) Tryz.func143 rfl Tryz.ntmps143 kz fun a hE=>?_
 have hW:WOk w (RdM br) w [⟨br,0,[.slice A m c,.bool false],true⟩] []:=WOk.startStr hst
 have hE1:=(hE.grow ⟨br,0,[.slice A m c,.bool false],true⟩).recast 0 (.v (.pointer (some ⟨br,0,none⟩))) (.p 0 0) rfl rfl (Nat.le_of_ble_eq_true (n:=1) rfl)
 refine qan [(0,.p 0 0)] hW hE1 fun a1 hE2=>?_
 refine qae [0,1,2,3,4] kz ?_
 refine qai [0] [1,2,3,4] [(0,.p 0 0),(5,.p 0 0)] hW hE2 fun a3 hE4=>?_
 refine qak (qaj hE4 (f:=190) (vs:=[.pointer (some ⟨br,0,none⟩)]) (d:=6) kz Tryz.call190 (qcT (X.length + 1) (by omega) (X ++ rest) (Str.of hW 0 rfl) (hr.move hW.step (fun b_ o_ h_ _=>hFd b_ o_ h_) (hW.immM hFd)) (qcx 0 rfl)) ?_)
 rintro e_ w5 ⟨_,A6,n7,c8,rfl,hs9,aj,ac,rfl⟩
 obtain ⟨aa,ak,aN⟩:=hW.wrote 0 [⟨br,0,[.slice A6 n7 c8,.bool false],true⟩] rfl ac hs9
 have al:=aj.move (Step.refl _ Nil) nilM (fun b_ o_ h_ _=>ak.to b_ o_ h_)
 refine ⟨_,rfl,fun aT am=>?_⟩
 have ao:EnvOk 15 [⟨br,0,[.slice A6 n7 c8,.bool false],true⟩] [(6,.v (.int .u32 ((X.length + 1:Nat):Int))),(0,.p 0 0),(5,.p 0 0)] _:=am.places (⟨rfl,rfl,trivial⟩)
 refine qai [2,3,4] [] [(0,.p 0 0),(3,.v (.int .i64 (IntKind.i64.wrap ((IntKind.i64.wrap ((X.length + 1:Nat):Int)) - 1))))] aa ao fun aU ap=>?_
 refine qaf (qab ?_)
 refine wp_seq ?_
 refine qan [(0,.p 0 0),(3,.v (.int .i64 (IntKind.i64.wrap ((IntKind.i64.wrap ((X.length + 1:Nat):Int)) - 1)))),(10,.v (.bool (decide ((IntKind.i64.wrap ((IntKind.i64.wrap ((X.length + 1:Nat):Int)) - 1)) < 0))))] aa ap fun aV ae=>?_
 refine qao ae (b:=decide ((IntKind.i64.wrap ((IntKind.i64.wrap ((X.length + 1:Nat):Int)) - 1)) < 0)) kz (decide_eq_false (by simp only [i16w,i32w,i64w]; omega)) ?_
 refine wp_skip ?_
 refine qab ?_
 refine qae [0,1,2,3,4,5] kz ?_
 refine qai [0,1] [2,3,4,5] [(11,.p 0 0),(12,.v (.int .i64 (IntKind.i64.wrap ((IntKind.i64.wrap ((X.length + 1:Nat):Int)) - 1))))] aa ae fun aW ar=>?_
 have au:IntKind.i64.wrap ((IntKind.i64.wrap ((X.length + 1:Nat):Int)) - 1) = ((X.length:Nat):Int):=by simp only [i16w,i32w,i64w]; omega
 have av:=EnvOk.pick ar (ks:=[11,12]) (env':=[(11,.p 0 0),(12,.v (.int .i64 (IntKind.i64.wrap ((IntKind.i64.wrap ((X.length + 1:Nat):Int)) - 1))))]) kz
 have aw:=av.cast (env':=[(11,.p 0 0),(12,.v (.int .i64 ((X.length:Nat):Int)))]) (by rw [au])
 refine qak (qaj aw (f:=192) (vs:=[.pointer (some ⟨br,0,none⟩),.int .i64 ((X.length:Nat):Int)]) (d:=13) kz Tryz.call192 (qh6 X (rest) (Str.of aa 0 rfl) al (qcx 0 rfl)) ?_)
 rintro e_ aX ⟨_,aK,aL,aM,rfl,ax,ay,af,⟨aO,rfl,az⟩⟩
 obtain ⟨aA,ag,aP⟩:=aa.wrote 0 [⟨br,0,[.slice aK aL aM,.bool false],true⟩] rfl af ax
 have aB:=ay.move (Step.refl _ Nil) nilM (fun b_ o_ h_ _=>ag.to b_ o_ h_)
 refine ⟨_,rfl,fun aY aC=>?_⟩
 have aD:EnvOk 15 [⟨br,0,[.slice aK aL aM,.bool false],true⟩] [(13,.v (.slice aO X.length X.length)),(11,.p 0 0),(12,.v (.int .i64 ((X.length:Nat):Int)))] _:=aC.places (⟨rfl,rfl,trivial⟩)
 have aE:=az.move (Step.refl _ Nil) nilM (fun b_ o_ h_ _=>ag.to b_ o_ h_)
 refine qak (qd4 aD (src:=22) (dst:=9) (e:=5) (d:=14) kz kz kz kz aE fun aZ aF=>?_)
 refine qak (qaK aA aF (d:=4) (cs:=[.string ByteArray.empty]) kz fun aQ ba bd aR aS ah aG aH=>?_)
 refine qak (qav aG aH (oi:=1) (cs:=[.string (bs X)]) kz fun bf ai ab aI=>?_)
 refine qaf (qab ?_)
 refine qan [(2,.p 1 0)] ab aI fun bg aJ=>?_
 refine wp_ret ?_
 refine qaF aJ ab.cells (v:=.pointer (some ⟨aQ,0,none⟩)) kz ?_
 refine ⟨_,_,_,_,rfl,Str.of ab 0 rfl,((aB.move (ah.trans ai).step immM (ah.trans ai).to').move (Step.refl _ Nil) nilM qbI),ab.step,_,rfl,(fun ad h_=>by
  obtain rfl:=Option.some.inj h_
  exact ⟨_,0,rfl,fun j v_ hj=>⟨.inr ‹_›,ab.cells 1 _ rfl j v_ hj⟩⟩),rfl⟩
theorem qc1 (nul:Bool) (X:Bs) (hX:X.length ≤ 1000000) (rest:Bs) {br:Nat} {A:Option Addr} {m c:Nat} {w:World} {F:Nat → Nat → Prop} (hst:Str w br [.slice A m c,.bool false]) (hr:RdS w F A m c ((if nul = true then uv 0 else uv (X.length + 1) ++ X) ++ rest)) (hFd:∀ b o,F b o → ¬ RdM br b o) :
  Calls Tryz.prog 143 #[.pointer (some ⟨br,0,none⟩)] w (RdPost w br (Fp F w) rest fun v w'=>∃ A2,v = .pointer A2 ∧ (∀ ad,A2 = some ad → ∃ b o,ad = ⟨b,o,none⟩ ∧ AtF w' (Fp F w) b o [.string (bs X)]) ∧ A2.isNone = nul):=by
 cases nul
 ·exact qcV X hX rest hst (hr.cast (by simp only [Bool.false_eq_true,if_false,List.append_assoc])) hFd
 exact qcU X rest hst (hr.cast (by simp only [if_true])) hFd
theorem qgB (x:Int) (hx:-1 ≤ x ∧ x ≤ 32767) (rest:Bs) (hl:x ≤ ((rest.length:Nat):Int)) {br:Nat} {A:Option Addr} {m c:Nat} {w:World} {F:Nat → Nat → Prop} (hst:Str w br [.slice A m c,.bool false]) (hr:RdS w F A m c ((be 4 x) ++ rest)) (hFd:∀ b o,F b o → ¬ RdM br b o) :
  Calls Tryz.prog 147 #[.pointer (some ⟨br,0,none⟩)] w (RdPost w br (Fp F w) rest fun v w'=>v = .int .i32 x):=by
 refine enter (n:=21) Tryz.func147 rfl Tryz.ntmps147 kz fun a hE=>?_
 have hW:WOk w (RdM br) w [⟨br,0,[.slice A m c,.bool false],true⟩] []:=WOk.startStr hst
 have hE1:=(hE.grow ⟨br,0,[.slice A m c,.bool false],true⟩).recast 0 (.v (.pointer (some ⟨br,0,none⟩))) (.p 0 0) rfl rfl (Nat.le_of_ble_eq_true (n:=1) rfl)
 refine qan [(0,.p 0 0)] hW hE1 fun a1 hE2=>?_
 refine qae [0,1,2] kz ?_
 refine qai [0] [1,2] [(0,.p 0 0),(4,.p 0 0)] hW hE2 fun a3 hE4=>?_
 refine qak (qaj hE4 (f:=139) (vs:=[.pointer (some ⟨br,0,none⟩)]) (d:=5) kz Tryz.call139 (qlB x (rest) (Str.of hW 0 rfl) (hr.move hW.step (fun b_ o_ h_ _=>hFd b_ o_ h_) (hW.immM hFd)) (qcx 0 rfl)) ?_)
 rintro e_ w5 ⟨_,A6,n7,c8,rfl,hs9,af,ab,rfl⟩
 obtain ⟨aa,ag,al⟩:=hW.wrote 0 [⟨br,0,[.slice A6 n7 c8,.bool false],true⟩] rfl ab hs9
 have ac:=af.move (Step.refl _ Nil) nilM (fun b_ o_ h_ _=>ag.to b_ o_ h_)
 refine ⟨_,rfl,fun am ah=>?_⟩
 have ai:EnvOk 21 [⟨br,0,[.slice A6 n7 c8,.bool false],true⟩] [(5,.v (.int .i32 (IntKind.i32.wrap x))),(0,.p 0 0),(4,.p 0 0)] _:=ah.places (⟨rfl,rfl,trivial⟩)
 refine qai [2] [] [(0,.p 0 0),(3,.v (.int .i32 (IntKind.i32.wrap x)))] aa ai fun ao aj=>?_
 refine qaf (qab ?_)
 refine wp_seq ?_
 refine qan [(0,.p 0 0),(3,.v (.int .i32 (IntKind.i32.wrap x))),(13,.v (.bool (decide (((n7:Nat):Int) < (IntKind.i64.wrap (IntKind.i32.wrap x))))))] aa aj fun ap ae=>?_
 refine qao ae (b:=decide (((n7:Nat):Int) < (IntKind.i64.wrap (IntKind.i32.wrap x)))) kz (decide_eq_false (by have h_:=ac.len; simp only [i32w,i64w]; omega)) ?_
 refine wp_skip ?_
 refine qab ?_
 refine qan [(2,.v (.int .i32 (IntKind.i32.wrap x)))] aa ae fun ar ak=>?_
 refine wp_ret ?_
 refine qaF ak aa.cells (v:=.int .i32 (IntKind.i32.wrap x)) kz ?_
 refine ⟨_,_,_,_,rfl,Str.of aa 0 rfl,(ac.move (Step.refl _ Nil) nilM qbI),aa.step,congrArg (Value.int .i32) (by simp only [i32w]; omega)⟩
theorem qc0 (n:Nat) (hn:n ≤ 32768) (rest:Bs) (hl:n ≤ rest.length + 1) {br:Nat} {A:Option Addr} {m c:Nat} {w:World} {F:Nat → Nat → Prop} (hst:Str w br [.slice A m c,.bool false]) (hr:RdS w F A m c ((uv n) ++ rest)) (hFd:∀ b o,F b o → ¬ RdM br b o) :
  Calls Tryz.prog 146 #[.pointer (some ⟨br,0,none⟩)] w (RdPost w br (Fp F w) rest fun v w'=>v = .int .i32 (((n:Nat):Int) - 1)):=by
 refine enter (n:=23) Tryz.func146 rfl Tryz.ntmps146 kz fun a hE=>?_
 have hW:WOk w (RdM br) w [⟨br,0,[.slice A m c,.bool false],true⟩] []:=WOk.startStr hst
 have hE1:=(hE.grow ⟨br,0,[.slice A m c,.bool false],true⟩).recast 0 (.v (.pointer (some ⟨br,0,none⟩))) (.p 0 0) rfl rfl (Nat.le_of_ble_eq_true (n:=1) rfl)
 refine qan [(0,.p 0 0)] hW hE1 fun a1 hE2=>?_
 refine qae [0,1,2,3,4] kz ?_
 refine qai [0] [1,2,3,4] [(0,.p 0 0),(4,.p 0 0)] hW hE2 fun a3 hE4=>?_
 refine qak (qaj hE4 (f:=190) (vs:=[.pointer (some ⟨br,0,none⟩)]) (d:=5) kz Tryz.call190 (qcT n (by omega) (rest) (Str.of hW 0 rfl) (hr.move hW.step (fun b_ o_ h_ _=>hFd b_ o_ h_) (hW.immM hFd)) (qcx 0 rfl)) ?_)
 rintro e_ w5 ⟨_,A6,n7,c8,rfl,hs9,af,ab,rfl⟩
 obtain ⟨aa,ag,al⟩:=hW.wrote 0 [⟨br,0,[.slice A6 n7 c8,.bool false],true⟩] rfl ab hs9
 have ac:=af.move (Step.refl _ Nil) nilM (fun b_ o_ h_ _=>ag.to b_ o_ h_)
 refine ⟨_,rfl,fun am ah=>?_⟩
 have ai:EnvOk 23 [⟨br,0,[.slice A6 n7 c8,.bool false],true⟩] [(5,.v (.int .u32 ((n:Nat):Int))),(0,.p 0 0),(4,.p 0 0)] _:=ah.places (⟨rfl,rfl,trivial⟩)
 refine qai [2,3,4] [] [(0,.p 0 0),(3,.v (.int .i32 (IntKind.i32.wrap ((IntKind.i32.wrap ((n:Nat):Int)) - 1))))] aa ai fun ao aj=>?_
 refine qaf (qab ?_)
 refine wp_seq ?_
 refine qan [(0,.p 0 0),(3,.v (.int .i32 (IntKind.i32.wrap ((IntKind.i32.wrap ((n:Nat):Int)) - 1)))),(15,.v (.bool (decide (((n7:Nat):Int) < (IntKind.i64.wrap (IntKind.i32.wrap ((IntKind.i32.wrap ((n:Nat):Int)) - 1)))))))] aa aj fun ap ae=>?_
 refine qao ae (b:=decide (((n7:Nat):Int) < (IntKind.i64.wrap (IntKind.i32.wrap ((IntKind.i32.wrap ((n:Nat):Int)) - 1))))) kz (decide_eq_false (by have h_:=ac.len; simp only [i32w,i64w]; omega)) ?_
 refine wp_skip ?_
 refine qab ?_
 refine qan [(2,.v (.int .i32 (IntKind.i32.wrap ((IntKind.i32.wrap ((n:Nat):Int)) - 1))))] aa ae fun ar ak=>?_
 refine wp_ret ?_
 refine qaF ak aa.cells (v:=.int .i32 (IntKind.i32.wrap ((IntKind.i32.wrap ((n:Nat):Int)) - 1))) kz ?_
 refine ⟨_,_,_,_,rfl,Str.of aa 0 rfl,(ac.move (Step.refl _ Nil) nilM qbI),aa.step,congrArg (Value.int .i32) (by simp only [i32w]; omega)⟩
theorem rOk  (rest:Bs)  {br:Nat} {A:Option Addr} {m c:Nat} {w:World} {F:Nat → Nat → Prop} (hst:Str w br [.slice A m c,.bool false]) (hr:RdS w F A m c (rest)) (hFd:∀ b o,F b o → ¬ RdM br b o) :
  Calls Tryz.prog 148 #[.pointer (some ⟨br,0,none⟩)] w (RdPost w br (Fp F w) rest fun v w'=>v = .bool true):=by
 refine enter (n:=8) Tryz.func148 rfl Tryz.ntmps148 kz fun a hE=>?_
 have hW:WOk w (RdM br) w [⟨br,0,[.slice A m c,.bool false],true⟩] []:=WOk.startStr hst
 have hE1:=(hE.grow ⟨br,0,[.slice A m c,.bool false],true⟩).recast 0 (.v (.pointer (some ⟨br,0,none⟩))) (.p 0 0) rfl rfl (Nat.le_of_ble_eq_true (n:=1) rfl)
 refine qan [(0,.p 0 0)] hW hE1 fun a1 hE2=>?_
 refine qan [(2,.v (.bool true))] hW hE2 fun a3 hE4=>?_
 refine wp_ret ?_
 refine qaF hE4 hW.cells (v:=.bool true) kz ?_
 refine ⟨_,_,_,_,rfl,Str.of hW 0 rfl,((hr.move hW.step (fun b_ o_ h_ _=>hFd b_ o_ h_) (hW.immM hFd)).move (Step.refl _ Nil) nilM qbI),hW.step,rfl⟩
theorem qch {P:Program} {c:Code} {Mid:Act → World → Prop} {Q:Exit → Act → World → Prop} {a:Act} {w:World} (h1:c.wp P (Exit.then Mid Q) a w) (h2:∀ a' w',Mid a' w' → Q .normal a' w'):c.wp P Q a w :=
 wp_mono h1 fun e a' w' h=>by
  cases e <;> first | exact h2 a' w' h | exact h
theorem qj3 {k:Nat} (h:k < 32768):IntKind.i32.wrap (((k:Nat):Int) + 1) = ((k + 1:Nat):Int):=by rw [i32w]; omega
def lenN (null:Bool) (n:Nat):Int:=if null = true then -1 else ((n:Nat):Int)
theorem qjl {T:Tree} (h:¬ (0 < lenN T.null (lst T).length)):(lst T).length = 0:=by
 unfold lenN at h
 cases hq:T.null with
 | true=>unfold lst; rw [hq]; rfl
 | false =>
  rw [hq] at h
  have h':¬ (0 < ((lst T).length:Int)):=h
  omega
theorem qk4 {b:Bool} {n:Nat} (h:lenN b n = 0):b = false:=by
 cases b with
 | false=>rfl
 | true=>exact absurd (show (-1:Int) = 0 from h) (by decide)
theorem qj4 {b:Bool} {n:Nat} (h:¬ lenN b n = 0) (hn:n = 0):b = true:=by
 cases b with
 | true=>rfl
 | false=>subst hn; exact absurd rfl h
theorem qlC {w:World} {F:Nat → Nat → Prop} {size:Nat} {A:Option Addr} {cs:Nat → List Value}:Slots w F size A 0 0 cs:=⟨Nat.le_refl _,by omega,fun _=>⟨rfl,rfl⟩,fun _ _ h=>absurd h (by omega)⟩
theorem qjm {g:Tree → Bs}:∀ {L:List Tree},(∀ t,0 < (g t).length) → L.length ≤ (L.flatMap g).length
 | [],_=>Nat.zero_le _
 | t :: r,h=>by
  have h1:=h t
  have h2:=qjm (L:=r) h
  rw [List.flatMap_cons,List.length_append,List.length_cons]; omega
theorem flat_ge' {g:Tree → Bs} {L:List Tree} (h:∀ t,0 < (g t).length) (rest:Bs):L.length ≤ (L.flatMap g ++ rest).length:=by
 have:=qjm (L:=L) h
 rw [List.length_append]; omega
theorem qjn {x y:Bs} (h:0 < x.length):0 < (x ++ y).length:=by rw [List.length_append]; omega
theorem ql4 {x y:Bs} (h:0 < y.length):0 < (x ++ y).length:=by rw [List.length_append]; omega
theorem qgC {b:Bool} {x y:Bs} (h:0 < x.length) (h':0 < y.length):0 < (if b = true then x else y).length:=by split <;> assumption
theorem qjo {m:Nat} {x:Int} (h:0 < m):0 < (be m x).length:=by rw [be_length]; exact h
section
variable {Pr:Program} {ops:Array Oper} {Q:Exit → Act → World → Prop} {w0:World} {M F:Nat → Nat → Prop} {n br:Nat} {tb:Tb} {env:Env} {P:qbZ} {s:Bs} {a:Act} {w:World}
theorem qk5 {id d:Nat} {t e:TypeId} {size bytes m cp:Nat} {A0:Option Addr} (env1 env':Env) (i:Nat) (h:RS w0 M F n br tb env P s a w) (K:∀ a',RS w0 M F n br tb env' P s a' w → Q .normal a' w)
  (hr:List.range ops.size = List.range i ++ (i :: (List.range ops.size).drop (i + 1)):=by kernel_rfl) (e1:∀ A m c,qcB Pr ops n (rdo br A m c :: tb) (List.range i) (qbA env1) env = some env1:=by intro _ _ _; kernel_rfl)
  (hc:∀ A m_ c,cutE (rdo br A m_ c :: tb) env1 ops n i = some (t,.slice A0 m cp,none,some 0,d):=by intro _ _ _; kernel_rfl) (ht:qce Pr t = some (e,size,bytes):=by kernel_rfl)
  (e2:∀ A m_ c,qcB Pr ops n (rdo br A m_ c :: tb) ((List.range ops.size).drop (i + 1)) (qbA env') ((d,.v (.slice A0 0 cp)) :: env1) = some env':=by intro _ _ _; kernel_rfl):(Code.region id ops false).wp Pr Q a w:=by
 refine qap _ hr (qct (List.range i) _ env1 h (fun a1 h1=>?_) e1 rfl)
 obtain ⟨A,m1,c,hW,hrd,hE,hP⟩:=h1.open_
 refine qak (qcP hE (hc A m1 c) ht (j:=0) rfl (Nat.zero_le _) fun a2 hE2=>?_)
 exact qct _ [] env' (RS.mk' hW hrd hE2 h1.mv hP) (fun a3 h3=>qaf (K a3 h3)) e2 (List.append_nil _).symm
theorem qlD {i d:Nat} {f:FuncId} {vs:List Value} {v0:Value} {N:Act → World → Prop} (h:RS w0 M F n br tb env P s a w) (hc:∀ w,Calls Pr f vs.toArray w (fun e w'=>e = .returned v0 ∧ w' = w))
  (hf:∀ args w,(callFunc f args).run Pr w = .ok (.enter f args) w) (K:∀ a',RS w0 M F n br tb ((d,.v v0) :: env) P s a' w → N a' w)
  (he:∀ A m c,qeA (rdo br A m c :: tb) env ops n i = some (f,vs,d):=by intro _ _ _; kernel_rfl):wpOp Pr ops Q i N a w:=by
 obtain ⟨A,m,c,hW,hr,hE,hP⟩:=h.open_
 refine qaj hE (he A m c) hf (hc w) ?_
 rintro e_ _ ⟨rfl,rfl⟩
 exact ⟨_,rfl,fun a1 hE1=>K a1 (RS.mk' hW hr hE1 h.mv hP)⟩
theorem ql5 {id d:Nat} {f:FuncId} {v0:Value} (env':Env) (h:RS w0 M F n br tb env P s a w) (hc:qcy Pr f [] s v0)
  (hf:∀ args w,(callFunc f args).run Pr w = .ok (.enter f args) w) (K:∀ a' w',RS w0 M F n br tb env' P s a' w' → Q .normal a' w')
  (he:∀ A m c,qeA (rdo br A m c :: tb) env ops n 0 = some (f,[.pointer (some ⟨br,0,none⟩)],d):=by intro _ _ _; kernel_rfl)
  (e:∀ A m c,qcB Pr ops n (rdo br A m c :: tb) ((List.range ops.size).drop 1) (qbA env') ((d,.v v0) :: env) = some env':=by intro _ _ _; kernel_rfl) (hs:Nat.blt 0 ops.size = true:=by kernel_rfl):(Code.region id ops false).wp Pr Q a w :=
 qfu (X:=[]) (rest:=s) env' h hc hf K he e hs
theorem qj5 {i d k l g size bytes:Nat} {t e:TypeId} {z:Value} {N:Act → World → Prop} (h:RS w0 M F n br (tb ++ [qbu g size z l k]) env P s a w) (hk:k < l) (hz:z.cells.size = size) (hl:qdX (tb.length + 1) env = true)
  (K:∀ a',RS w0 M F n br (tb ++ [qbu g size z l (k + 1),⟨g,k * size,z.cells.toList,true⟩]) ((d,.p (tb.length + 2) 0) :: env) P s a' w → N a' w)
  (he:∀ A m c,idxE (rdo br A m c :: (tb ++ [qbu g size z l k])) env ops n i = some (t,some ⟨g,0,none⟩,l,((k:Nat):Int),d):=by intro _ _ _; kernel_rfl) (ht:qce Pr t = some (e,size,bytes):=by kernel_rfl):wpOp Pr ops Q i N a w:=by
 obtain ⟨A,m,c,hW,hr,hE,hP⟩:=h.open_
 refine qaC hE (he A m c) ht rfl rfl hk fun a1 hE1=>K a1 ?_
 have h1:RS w0 M F n br (tb ++ [qbu g size z l k]) ((d,.v (.pointer (some ⟨g,0 + k * size,none⟩))) :: env) P s a1 w:=RS.mk' hW hr hE1 h.mv hP
 have h2:=h1.next hk hz (by simpa only [qdX] using hl)
 have h3:=h2.recast d (.v (.pointer (some ⟨g,0 + k * size,none⟩))) (.p (tb.length + 2) 0) (by simp [lk]) ?_ (by show tb.length + 2 < _; simp)
 ·refine ⟨h3.mv,h3.ex,?_,h3.fact⟩
  refine ⟨h3.env_.defers,h3.env_.size,fun q x hx=>h3.env_.at_ q x ?_⟩
  simp only [lk] at hx ⊢
  split at hx
  ·exact hx
  exact hx
 have:obAt (rdo br none 0 0 :: (tb ++ [qbu g size z l (k + 1),⟨g,k * size,z.cells.toList,true⟩])) (tb.length + 2) = ⟨g,k * size,z.cells.toList,true⟩:=by
  simp only [obAt,List.getD_eq_getElem?_getD]
  rw [show tb.length + 2 = (tb.length + 1) + 1 from rfl,List.getElem?_cons_succ,List.getElem?_append_right (by omega)]
  simp
 simp only [SV.val,this]
 simp
theorem qk6 {id d k l g size bytes:Nat} {t e:TypeId} {z:Value} (env1 env':Env) (i:Nat) (h:RS w0 M F n br (tb ++ [qbu g size z l k]) env P s a w) (hk:k < l) (hz:z.cells.size = size) (hl:qdX (tb.length + 1) env1 = true)
  (K:∀ a',RS w0 M F n br (tb ++ [qbu g size z l (k + 1),⟨g,k * size,z.cells.toList,true⟩]) env' P s a' w → Q .normal a' w)
  (hr:List.range ops.size = List.range i ++ (i :: (List.range ops.size).drop (i + 1)):=by kernel_rfl) (e1:∀ A m c,qcB Pr ops n (rdo br A m c :: (tb ++ [qbu g size z l k])) (List.range i) (qbA env1) env = some env1:=by intro _ _ _; kernel_rfl)
  (he:∀ A m c,idxE (rdo br A m c :: (tb ++ [qbu g size z l k])) env1 ops n i = some (t,some ⟨g,0,none⟩,l,((k:Nat):Int),d):=by intro _ _ _; kernel_rfl) (ht:qce Pr t = some (e,size,bytes):=by kernel_rfl)
  (e2:∀ A m c,qcB Pr ops n (rdo br A m c :: (tb ++ [qbu g size z l (k + 1),⟨g,k * size,z.cells.toList,true⟩])) ((List.range ops.size).drop (i + 1)) (qbA env') ((d,.p (tb.length + 2) 0) :: env1) = some env':=by intro _ _ _; kernel_rfl):(Code.region id ops false).wp Pr Q a w:=by
 refine qap _ hr (qct (List.range i) _ env1 h (fun a1 h1=>qak (qj5 h1 hk hz hl (fun a2 h2=>?_) he ht)) e1 rfl)
 exact qct _ [] env' h2 (fun a3 h3=>qaf (K a3 h3)) e2 (List.append_nil _).symm
end
theorem ql6 (X:Bs) (hX:X.length = 16) (rest:Bs) {br:Nat} {A:Option Addr} {m c:Nat} {w:World} {F:Nat → Nat → Prop} (hst:Str w br [.slice A m c,.bool false]) (hr:RdS w F A m c (X ++ rest)) (hFd:∀ b o,F b o → ¬ RdM br b o) :
  Calls Tryz.prog 168 #[.pointer (some ⟨br,0,none⟩)] w (RdPost w br (Fp F w) rest fun v w'=>v = .agg ((List.range 16).map fun i=>qad (X.getD i 0)).toArray):=by
 have hbr:br < w.heap.size:=World.lt_of_cell (hst.at_ 0 _ rfl)
 refine enter (n:=9) (vs:=[.pointer (some ⟨br,0,none⟩)]) Tryz.func168 rfl Tryz.ntmps168 kz fun a hE=>?_
 refine qae [0] kz ?_
 refine qak (qe4 hE (d:=2) (cs:=(List.range 16).map fun _=>qad 0) kz fun t0 a1 hE1=>qaf (qab ?_))
 have hs1:=Step.alloc w (.cells ((List.range 16).map fun _=>qad 0).toArray t0)
 have hz1:=qcG w (.cells ((List.range 16).map fun _=>qad 0).toArray t0)
 have hh1:=qcf w (.cells ((List.range 16).map fun _=>qad 0).toArray t0)
 generalize w.alloc (.cells ((List.range 16).map fun _=>qad 0).toArray t0) = w1 at hs1 hz1 hh1
 refine qae [0] kz ?_
 refine qak (qe4 hE1 (d:=3) (cs:=(List.range 16).map fun _=>qad 0) kz fun t1 a2 hE2=>qaf (qab ?_))
 have hs2:=Step.alloc w1 (.cells ((List.range 16).map fun _=>qad 0).toArray t1)
 have hz2:=qcG w1 (.cells ((List.range 16).map fun _=>qad 0).toArray t1)
 have hh2:=qcf w1 (.cells ((List.range 16).map fun _=>qad 0).toArray t1)
 generalize hp2:w.heap.size = p2 at hE1 hE2 hh1 hz1
 generalize hp3:w1.heap.size = p3 at hE2 hh2 hz2
 generalize w1.alloc (.cells ((List.range 16).map fun _=>qad 0).toArray t1) = w2 at hs2 hz2 hh2
 refine qdF (fun _=>True) 4 kz ?_
 have hsd:=Step.drew w2
 have hhd:w2.drew.heap[p3]? = some (.cells ((List.range 16).map fun _=>qad 0).toArray t1):=hh2
 have hS:Step w w2.drew Nil:=(hs1.trans hs2 fun _ _ _ h=>h).trans hsd fun _ _ _ h=>h
 have hh1d:w2.drew.heap[p2]? = some (.cells ((List.range 16).map fun _=>qad 0).toArray t0):=(hs2.trans hsd fun _ _ _ h=>h).heap (fun _ h=>h) hh1
 generalize w2.drew = wd at hsd hhd hS hh1d
 have hE3:EnvOk 9 [⟨p3,0,[],true⟩] [(0,.v (.pointer (some ⟨br,0,none⟩))),(2,.v (.pointer (some ⟨p2,0,none⟩))),(3,.p 0 0)] _:=((hE2.grow ⟨p3,0,[],true⟩).recast 3 (.v (.pointer (some ⟨p3,0,none⟩))) (.p 0 0) rfl rfl (Nat.le_of_ble_eq_true (n:=1) rfl)).pk
 refine qaG [0,1] [(0,.v (.pointer (some ⟨br,0,none⟩))),(2,.v (.pointer (some ⟨p2,0,none⟩))),(3,.p 0 0),(4,.v (.slice (some ⟨p3,0,none⟩) 16 16)),(5,.v (.pointer (some ⟨br,0,none⟩)))] 2 (qaa qag) (fun w' _ i o hi j v hj=>by
  cases i with
  | zero =>
   simp only [List.getElem?_cons_zero,Option.some.injEq] at hi
   subst hi
   simp at hj
  | succ i=>simp at hi) trivial hE3 fun a3 hE4=>?_
 have hst':=hst.move hS (fun _ h=>h)
 have hr':=hr.move hS nilM (fun b o h hb=>(⟨h,hb⟩:F b o ∧ b < w.heap.size))
 have hFd':∀ b o,(F b o ∧ b < w.heap.size) → ¬ RdM br b o:=fun b o h=>hFd b o h.1
 have hSp:=qh6 X rest hst' hr' hFd'
 rw [show ((X.length:Nat):Int) = 16 by omega] at hSp
 refine qaA (i:=2) kz (qaj hE4 (f:=192) (vs:=[.pointer (some ⟨br,0,none⟩),.int .i64 16]) (d:=6) kz Tryz.call192 hSp ?_)
 rintro e_ w3 ⟨_,A1,n1,c1,rfl,hs,hr1,hst3,Ax,rfl,hox⟩
 refine ⟨_,rfl,fun a4 hE5=>⟨fun _=>trivial,?_⟩⟩
 have hh3:=hst3.heap (fun o e=>by have:=e.1; have:=hS.size; omega) hhd
 have hh13:=hst3.heap (fun o e=>by have:=e.1; omega) hh1d
 refine qaA (i:=3) kz (qgU hE5 (t:=22) (u:=22) (e:=5) (bytes:=1) (b:=p3) (s:=X) (d:=7) kz kz hh3 rfl hox fun a5 w4 hst4 hat hfz hE6=>⟨fun _=>trivial,qaE kz (qab ?_) _⟩)
 obtain ⟨v,hE6⟩:=hE6
 have hh14:=hst4.heap (fun o e=>by have:=hz1; omega) hh13
 have hst04:Step w w4 (RdM br):=((hS.mono fun _ _ _ f=>f.elim).trans hst3 fun _ _ _ e=>e).trans hst4 fun b o hb e=>by have:=hs1.size; omega
 have h2l:p2 < w4.heap.size:=(Array.getElem?_eq_some_iff.1 hh14).1
 have hW4:WOk w (RdM br) w4 ([] ++ [⟨p2,0,(List.range 16).map fun _=>qad 0,true⟩] ++ [⟨p3,0,(List.range 16).map fun i=>qad (X.getD i 0),true⟩]) []:=by
  have hb:WOk w (RdM br) w4 [] []:=⟨hst04,fun i o hi=>by simp at hi,fun i o hi=>by simp at hi,fun i o hi=>by simp at hi,fun i j o o' _ hi=>by simp at hi,fun i r hi=>by simp at hi,fun i r hi=>by simp at hi,fun i r hi=>by simp at hi,fun i j r r' _ hi=>by simp at hi⟩
  have h4:=hb.add ⟨p2,0,(List.range 16).map fun _=>qad 0,true⟩ h2l (fun j v hj=>by
   dsimp only at hj ⊢
   rw [Nat.zero_add]
   simp only [World.cell?,hh14]
   simpa using hj) (fun _ j hj=>⟨.inl (by dsimp only; omega),by simp [World.frozen?,hh14]⟩) (fun i o hi=>by simp at hi) (fun i r hi=>by simp at hi)
  refine h4.add ⟨p3,0,(List.range 16).map fun i=>qad (X.getD i 0),true⟩ (World.lt_of_cell (hat 0 _ rfl)) (fun j v hj=>hat j v hj) (fun _ j hj=>⟨.inl (by dsimp only; have:=hs1.size; omega),hfz _⟩) (fun i o hi _=>.inl ?_) (fun i r hi=>by simp at hi)
  have hm:=List.mem_of_getElem? hi
  have:o = ⟨p2,0,(List.range 16).map fun _=>qad 0,true⟩:=by simpa using hm
  rw [this]
  dsimp only; omega
 have hE7:EnvOk 9 [⟨p2,0,(List.range 16).map fun _=>qad 0,true⟩,⟨p3,0,(List.range 16).map fun i=>qad (X.getD i 0),true⟩] [(2,.p 0 0),(3,.p 1 0)] _ :=
  (((((hE6.pick (ks:=[2,3]) (env':=[(2,.v (.pointer (some ⟨p2,0,none⟩))),(3,.p 0 0)]) kz).recast 3 (.p 0 0) (.v (.pointer (some ⟨p3,0,none⟩))) rfl rfl trivial).pick (ks:=[2,3]) (env':=[(2,.v (.pointer (some ⟨p2,0,none⟩))),(3,.v (.pointer (some ⟨p3,0,none⟩)))]) kz).cutTb 0 kz).retable [⟨p2,0,(List.range 16).map fun _=>qad 0,true⟩,⟨p3,0,(List.range 16).map fun i=>qad (X.getD i 0),true⟩] |>.recast 2 (.v (.pointer (some ⟨p2,0,none⟩))) (.p 0 0) rfl rfl (Nat.le_of_ble_eq_true (n:=1) rfl) |>.recast 3 (.v (.pointer (some ⟨p3,0,none⟩))) (.p 1 0) rfl rfl (Nat.le_of_ble_eq_true (n:=2) rfl)).pk
 refine qae [0,1] kz ?_
 refine qai [0] [1] [(2,.p 0 0),(8,.v (.agg ((List.range 16).map fun i=>qad (X.getD i 0)).toArray))] hW4 hE7 fun a6 hE8=>?_
 refine qak (qav hW4 hE8 (oi:=0) (cs:=(List.range 16).map fun i=>qad (X.getD i 0)) kz fun w5 hF5 hW5 hE9=>qaf (qab (wp_ret ?_)))
 have hstz:Step w4 w5 (fun b o=>b = p2 ∨ b = p3):=hF5.step.mono fun b o _ ha=>by
  rcases ha with ⟨i,ob,hi,_,rfl,_⟩ | ⟨i,r,hi,_⟩
  ·have hm:=List.mem_of_getElem? hi
   simp only [List.nil_append,List.cons_append,List.mem_cons,List.not_mem_nil,or_false] at hm
   rcases hm with rfl | rfl
   ·exact .inl rfl
   exact .inr rfl
  simp at hi
 have hsz:=hs1.size
 refine qaF hE9 hW5.cells (v:=.agg ((List.range 16).map fun i=>qad (X.getD i 0)).toArray) kz ⟨_,A1,n1,c1,rfl,(hs.move hst4 fun o e=>?_).move hstz (fun o e=>?_),(hr1.move hst4 (fun b o hg _ e=>?_) (fun b o hg _=>hg)).move hstz (fun b o hg _ e=>?_) (fun b o hg _=>.inl hg.1),hW5.step,rfl⟩
 ·omega
 ·rcases e with e | e <;> omega
 ·have:=hg.2; omega
 have:=hg.2; rcases e with e | e <;> omega
theorem qk7 (y:Bool) (rest:Bs):qcy Tryz.prog 140 [by8 (if y then 1 else 0)] rest (.bool y):=fun hs hr hF=>(ql2 y rest hs hr hF).mono fun e w' hp=>hp.fp fun v w' h=>h
theorem qk8 (S:Bs) (hS:S.length ≤ 32767) (rest:Bs):qcy Tryz.prog 154 (be 2 S.length ++ S) rest (.string (bs S)):=fun hs hr hF=>(qk3 S hS rest hs (hr.cast (by simp only [List.append_assoc])) hF).mono fun e w' hp=>hp.q fun v w' h=>h
theorem qfe (S:Bs) (hS:S.length ≤ 32767) (rest:Bs):qcy Tryz.prog 153 (uv (S.length + 1) ++ S) rest (.string (bs S)):=fun hs hr hF=>(qfd S (by omega) rest hs (hr.cast (by simp only [List.append_assoc])) hF).mono fun e w' hp=>hp.q fun v w' h=>h
theorem qe9 (nul:Bool) (S:Bs) (hS:S.length ≤ 32767) (rest:Bs):qjh Tryz.prog 145 (if nul = true then be 2 (-1) else be 2 S.length ++ S) rest (fun A:Option Addr=>.pointer A) (fun A=>andF (qjg A S) (isF (A.isNone = nul))):=fun hs hr hF=>(qe8 nul S (by omega) rest hs hr hF).mono fun e w' hp=>hp.q fun v w' h=>by
 obtain ⟨A,h1,h2,h3⟩:=h
 exact ⟨A,h1,h2,h3⟩
theorem qc2 (nul:Bool) (S:Bs) (hS:S.length ≤ 32767) (rest:Bs):qjh Tryz.prog 143 (if nul = true then uv 0 else uv (S.length + 1) ++ S) rest (fun A:Option Addr=>.pointer A) (fun A=>andF (qjg A S) (isF (A.isNone = nul))):=fun hs hr hF=>(qc1 nul S (by omega) rest hs hr hF).mono fun e w' hp=>hp.q fun v w' h=>by
 obtain ⟨A,h1,h2,h3⟩:=h
 exact ⟨A,h1,h2,h3⟩
theorem qjp (n:Nat) (hn:n ≤ 32767) (rest:Bs) (hl:n ≤ rest.length):qcy Tryz.prog 147 (be 4 n) rest (.int .i32 ((n:Nat):Int)):=fun hs hr hF=>(qgB ((n:Nat):Int) (by omega) rest (by omega) hs hr hF).mono fun e w' hp=>hp.q fun v w' h=>h
theorem qh9 (nul:Bool) (n:Nat) (hn:n ≤ 32767) (rest:Bs) (hl:n ≤ rest.length):qcy Tryz.prog 147 (if nul = true then be 4 (-1) else be 4 n) rest (.int .i32 (lenN nul n)):=by
 cases nul
 ·exact qjp n hn rest hl
 exact fun hs hr hF=>(qgB (-1) (by omega) rest (by omega) hs hr hF).mono fun e w' hp=>hp.q fun v w' h=>h
theorem qeE (n:Nat) (hn:n ≤ 32767) (rest:Bs) (hl:n ≤ rest.length):qcy Tryz.prog 146 (uv (n + 1)) rest (.int .i32 ((n:Nat):Int)):=fun hs hr hF=>(qc0 (n + 1) (by omega) rest (by omega) hs hr hF).mono fun e w' hp=>hp.q fun v w' h=>h.trans (congrArg (Value.int .i32) (by omega))
theorem qeo (nul:Bool) (n:Nat) (hn:n ≤ 32767) (rest:Bs) (hl:n ≤ rest.length):qcy Tryz.prog 146 (if nul = true then uv 0 else uv (n + 1)) rest (.int .i32 (lenN nul n)):=by
 cases nul
 ·exact qeE n hn rest hl
 exact fun hs hr hF=>(qc0 0 (by omega) rest (by omega) hs hr hF).mono fun e w' hp=>hp.q fun v w' h=>h
theorem ql7 (S:Bs) (rest:Bs):qcy Tryz.prog 168 (qat S) rest (.agg #[qad ((qat S).getD 0 0),qad ((qat S).getD 1 0),qad ((qat S).getD 2 0),qad ((qat S).getD 3 0),qad ((qat S).getD 4 0),qad ((qat S).getD 5 0),qad ((qat S).getD 6 0),qad ((qat S).getD 7 0),qad ((qat S).getD 8 0),qad ((qat S).getD 9 0),qad ((qat S).getD 10 0),qad ((qat S).getD 11 0),qad ((qat S).getD 12 0),qad ((qat S).getD 13 0),qad ((qat S).getD 14 0),qad ((qat S).getD 15 0)]):=fun hs hr hF=>(ql6 (qat S) (qey S) rest hs hr hF).mono fun e w' hp=>hp.q fun v w' h=>h
theorem pOk (rest:Bs):qcy Tryz.prog 148 [] rest (.bool true):=fun hs hr hF=>(rOk rest hs hr hF).mono fun e w' hp=>hp.q fun v w' h=>h
theorem qlE (u:List (Int × Bs)) (hU:canU u) (hk:∀ x ∈ u,0 ≤ x.1 ∧ x.1 < 4294967296) (rest:Bs):qjh Tryz.prog 156 (uv u.length ++ qcC u) rest (fun m:Option Nat=>.agg #[.map m]) (fun m=>qlz m u):=fun hs hr hF=>(ql3 u rest hU.1 hk hU.2.1 hU.2.2 hs (hr.cast (by simp only [List.append_assoc])) hF).mono fun e w' hp=>hp.q fun v w' h=>h
theorem qlF (k:Int) (A:Option Addr) (m c:Nat) (w:World):Calls Tryz.prog 97 #[.agg #[.int .u32 k,.slice A m c]] w (qiS w):=by
 refine enter (n:=7) Tryz.func97 rfl Tryz.ntmps97 kz fun a hE=>?_
 have hW:=WOk.start w Nil
 refine qae [0,1] kz ?_
 refine qak (qa7 hW hE (d:=1) (cs:=[.int .u32 k,.slice A m c]) kz fun b1 a2 w3 hb4 hz5 hF6 hW7 hE8=>?_)
 refine qai [1] [] [(1,.p 0 0)] hW7 hE8 fun a9 ac=>?_
 refine qaf (qab ?_)
 refine wp_seq ?_
 refine qan [(6,.v (.bool (decide (((m:Nat):Int) > 2147483647))))] hW7 ac fun ai aa=>?_
 refine qas aa (b:=decide (((m:Nat):Int) > 2147483647)) kz (fun ab=>?_) (fun ab=>?_)
 ·
  have ag:=of_decide_eq_true ab
  refine qan [(2,.v (.bool false))] hW7 aa fun aj ae=>?_
  refine wp_ret ?_
  refine qam ?_
  refine qaF ae hW7.cells (v:=.bool false) kz ?_
  exact ⟨_,rfl,hW7.step⟩
 have ah:=of_decide_eq_false ab
 refine wp_skip ?_
 refine qab ?_
 refine qan [(2,.v (.bool true))] hW7 aa fun ak af=>?_
 refine wp_ret ?_
 refine qaF af hW7.cells (v:=.bool true) kz ?_
 exact ⟨_,rfl,hW7.step⟩
theorem qlG (A:Option Addr) (c:Nat) (u:List (Int × Bs)) (w:World) (F:Nat → Nat → Prop) (hu:TagsR w F A c u):Calls Tryz.prog 38 #[.slice A u.length c] w (qiS w):=by
 obtain ⟨xu,h1,h2⟩:=hu.ex
 have hsm:=h1.small
 refine enter (n:=18) Tryz.func38 rfl Tryz.ntmps38 kz fun a hE=>?_
 have hW:=WOk.start w Nil
 refine qan [(0,.v (.slice A u.length c))] hW hE fun a1 hE2=>?_
 refine wp_seq ?_
 refine qan [(0,.v (.slice A u.length c)),(7,.v (.bool (decide (((u.length:Nat):Int) > 2147483647))))] hW hE2 fun a3 hE4=>?_
 refine qas hE4 (b:=decide (((u.length:Nat):Int) > 2147483647)) kz (fun hc5=>?_) (fun hc5=>?_)
 ·
  have hf6:=of_decide_eq_true hc5
  refine qan [(2,.v (.bool false))] hW hE4 fun a7 hE8=>?_
  refine wp_ret ?_
  refine qam ?_
  refine qaF hE8 hW.cells (v:=.bool false) kz ?_
  exact ⟨_,rfl,hW.step⟩
 have hf9:=of_decide_eq_false hc5
 refine wp_skip ?_
 refine qab ?_
 refine wp_seq ?_
 refine qan [(8,.v (.slice A u.length c)),(9,.v (.int .i64 ((u.length:Nat):Int))),(10,.v (.int .i64 0))] hW hE4 fun ba ar=>?_
 refine wp_block ?_
 refine wp_loop_ghost (fun n_ a_ w_=>∃ (k:Nat),n_ = u.length - k ∧ k ≤ u.length ∧ LInv hW 18 [] [] [(8,.v (.slice A u.length c)),(9,.v (.int .i64 ((u.length:Nat):Int))),(10,.v (.int .i64 ((k:Nat):Int)))] a_ w_) (u.length) ⟨0,by omega,by omega,ar.pk,hW,Fr.refl _ _ _⟩ ?_
 rintro bd bf bg ⟨k,aQ,aR,au,aa,av⟩
 refine qan [(8,.v (.slice A u.length c)),(9,.v (.int .i64 ((u.length:Nat):Int))),(10,.v (.int .i64 ((k:Nat):Int))),(11,.v (.bool (decide (((k:Nat):Int) < ((u.length:Nat):Int)))))] aa au fun bh ae=>?_
 refine wp_seq ?_
 refine qas ae (b:=decide (((k:Nat):Int) < ((u.length:Nat):Int))) kz (fun af=>?_) (fun af=>?_)
 ·
  have aS:=of_decide_eq_true af
  refine wp_skip ?_
  refine qab ?_
  refine wp_seq ?_
  refine wp_block ?_
  refine qae [0,1,2,3] kz ?_
  obtain ⟨aT,aU,aw,aV,ac⟩:=Slots.get h1 (i:=k) (by omega)
  obtain ⟨⟨ai,aj⟩,ax⟩:∃ x,u[k]? = some x:=⟨_,List.getElem?_eq_getElem (by omega)⟩
  obtain ⟨⟨ak,al,am,aW⟩,bi,bj⟩:=h2 k ai aj ax
  rw [am] at ac
  refine qak (qaC ae (t:=24) (A:=A) (m:=u.length) (q:=((k:Nat):Int)) (d:=12) kz (e:=65) (size:=2) (bytes:=32) kz aw rfl (by omega) fun bk ay=>?_)
  refine qak (qaJ ay (t:=65) (b:=aT) (o:=aU + k * 2) (d:=13) kz (cs:=[.int .u32 ai,.slice ak aj.length al]) (v:=.agg #[.int .u32 ai,.slice ak aj.length al]) kz (AtF.move ac aa.step nilM qaY).at_ fun bn az=>?_)
  refine qak (qaK aa az (d:=4) (cs:=[.int .u32 0,.slice none 0 0]) kz fun bo bp bq aX aY aA aB aC=>?_)
  refine qak (qav aB aC (oi:=0) (cs:=[.int .u32 ai,.slice ak aj.length al]) kz fun bt aD ag aE=>?_)
  refine qaf (qab ?_)
  refine qae [0,1,2] kz ?_
  refine qai [0] [1,2] [(8,.v (.slice A u.length c)),(9,.v (.int .i64 ((u.length:Nat):Int))),(10,.v (.int .i64 ((k:Nat):Int))),(14,.v (.agg #[.int .u32 ai,.slice ak aj.length al]))] ag aE fun bu aF=>?_
  refine qak (qaj aF (f:=97) (vs:=[.agg #[.int .u32 ai,.slice ak aj.length al]]) (d:=15) kz Tryz.call97 (qlF _ _ _ _ _) ?_)
  rintro e_ bw ⟨aP,rfl,ao⟩
  refine ⟨_,rfl,fun bx aG=>?_⟩
  have ab:=ag.next_nil ao
  have aH:=ag.frN ao
  refine qai [2] [] [(8,.v (.slice A u.length c)),(9,.v (.int .i64 ((u.length:Nat):Int))),(10,.v (.int .i64 ((k:Nat):Int))),(16,.v (.bool (!aP)))] ab aG fun bz ah=>?_
  refine qaf (qab ?_)
  refine qas ah (b:=!aP) kz (fun aI=>?_) (fun aI=>?_)
  ·
   refine qan [(2,.v (.bool false))] ab ah fun bA aJ=>?_
   refine wp_ret ?_
   refine qaw ?_
   refine qam ?_
   refine qam ?_
   refine qaw ?_
   refine qam ?_
   refine qaF aJ ab.cells (v:=.bool false) kz ?_
   exact ⟨_,rfl,ab.step⟩
  refine wp_skip ?_
  refine qaq ?_
  refine qab ?_
  refine qap [0,1] kz ?_
  refine qai [0,1] [] [(8,.v (.slice A u.length c)),(9,.v (.int .i64 ((u.length:Nat):Int))),(10,.v (.int .i64 (IntKind.i64.wrap (((k:Nat):Int) + 1))))] ab ah fun bB aK=>?_
  refine qaf (qab ?_)
  obtain ⟨ap,aL,aM⟩:=ab.cutB aK 0 [] [(8,.v (.slice A u.length c)),(9,.v (.int .i64 ((u.length:Nat):Int))),(10,.v (.int .i64 (IntKind.i64.wrap (((k:Nat):Int) + 1))))]
  have aN:IntKind.i64.wrap (((k:Nat):Int) + 1) = ((k + 1:Nat):Int):=qaM (by omega)
  rw [aN] at ap
  exact ⟨u.length - (k + 1),by omega,k + 1,rfl,by omega,ap.pk,aL,((((av.trans aA).trans aD).trans aH).trans aM)⟩
 have aZ:=of_decide_eq_false af
 refine wp_exit ?_
 refine qaB ?_
 refine qaB ?_
 refine qaL ?_
 refine qab ?_
 refine qan [(2,.v (.bool true))] aa ae fun bC aO=>?_
 refine wp_ret ?_
 refine qaF aO aa.cells (v:=.bool true) kz ?_
 exact ⟨_,rfl,aa.step⟩
theorem qlH (ct:List Value) (t:Tree) (w:World) (F:Nat → Nat → Prop) (ht:TreeR w F ct t):Calls Tryz.prog 10 #[.agg ct.toArray] w (qiS w):=by
 obtain ⟨n1,s2,b3,l4,u5,A6,c7,A8,c9,aj,ak,aB,rfl,rfl,aC,aD,aN,aE⟩:=ht.open_
 have ay:=aC.small
 have az:=aD.small
 refine enter (n:=15) Tryz.func10 rfl Tryz.ntmps10 kz fun a hE=>?_
 have hW:=WOk.start w Nil
 refine qae [0,1] kz ?_
 refine qak (qa7 hW hE (d:=1) (cs:=[.int .i64 n1,.slice A6 s2.length c7,.bool b3,.slice A8 l4.length c9,.slice aj u5.length ak]) kz fun aO aP aQ aF aG aH aa al=>?_)
 refine qai [1] [] [(1,.p 0 0)] aa al fun aR am=>?_
 refine qaf (qab ?_)
 refine wp_seq ?_
 refine qan [(1,.p 0 0),(6,.v (.bool (decide (((s2.length:Nat):Int) > 2147483647))))] aa am fun aS ac=>?_
 refine qas ac (b:=decide (((s2.length:Nat):Int) > 2147483647)) kz (fun ae=>?_) (fun ae=>?_)
 ·
  have aI:=of_decide_eq_true ae
  refine qan [(2,.v (.bool false))] aa ac fun aT ao=>?_
  refine wp_ret ?_
  refine qam ?_
  refine qaF ao aa.cells (v:=.bool false) kz ?_
  exact ⟨_,rfl,aa.step⟩
 have aJ:=of_decide_eq_false ae
 refine wp_skip ?_
 refine qab ?_
 refine wp_seq ?_
 refine qan [(1,.p 0 0),(10,.v (.bool (decide (((l4.length:Nat):Int) > 2147483647))))] aa ac fun aU af=>?_
 refine qas af (b:=decide (((l4.length:Nat):Int) > 2147483647)) kz (fun ag=>?_) (fun ag=>?_)
 ·
  have aK:=of_decide_eq_true ag
  refine qan [(2,.v (.bool false))] aa af fun aV ap=>?_
  refine wp_ret ?_
  refine qam ?_
  refine qaF ap aa.cells (v:=.bool false) kz ?_
  exact ⟨_,rfl,aa.step⟩
 have aL:=of_decide_eq_false ag
 refine wp_skip ?_
 refine qab ?_
 refine wp_seq ?_
 refine qae [0,1,2,3] kz ?_
 refine qai [0,1] [2,3] [(12,.v (.slice aj u5.length ak))] aa af fun aW ar=>?_
 refine qak (qaj ar (f:=38) (vs:=[.slice aj u5.length ak]) (d:=13) kz Tryz.call38 (qlG _ _ u5 _ _ (aE.move aa.step nilM aa.imm)) ?_)
 rintro e_ aX ⟨aA,rfl,ai⟩
 refine ⟨_,rfl,fun aY au=>?_⟩
 have ab:=aa.next_nil ai
 have aM:=aa.frN ai
 refine qai [3] [] [(14,.v (.bool (!aA)))] ab au fun aZ ah=>?_
 refine qaf (qab ?_)
 refine qas ah (b:=!aA) kz (fun av=>?_) (fun av=>?_)
 ·
  refine qan [(2,.v (.bool false))] ab ah fun ba aw=>?_
  refine wp_ret ?_
  refine qam ?_
  refine qaF aw ab.cells (v:=.bool false) kz ?_
  exact ⟨_,rfl,ab.step⟩
 refine wp_skip ?_
 refine qab ?_
 refine qan [(2,.v (.bool true))] ab ah fun bd ax=>?_
 refine wp_ret ?_
 refine qaF ax ab.cells (v:=.bool true) kz ?_
 exact ⟨_,rfl,ab.step⟩
theorem qj6 (x m:Int) (hx:0 ≤ x) (hx':x < 256) (hm:0 ≤ m) (hm':m < 32768) (w:World):Calls Tryz.prog 13 #[.int .u8 x,.int .i64 m] w (qbX w (.int .i64 (Int.tmod x (m + 1)))):=by
 refine enter (n:=10) Tryz.func13 rfl Tryz.ntmps13 kz fun a hE=>?_
 have hW:=WOk.start w Nil
 refine qan [(0,.v (.int .u8 x)),(1,.v (.int .i64 m))] hW hE fun a1 hE2=>?_
 refine qae [0,1,2,3,4,5] kz ?_
 refine qai [0,1,2,3] [4,5] [(6,.v (.int .i64 (IntKind.i64.wrap x))),(8,.v (.int .i64 (IntKind.i64.wrap (m + 1))))] hW hE2 fun a3 hE4=>?_
 refine qak (qjL hE4 (k:=.i64) (p:=(IntKind.i64.wrap x)) (q:=(IntKind.i64.wrap (m + 1))) (d:=9) kz (by simp only [IntKind.wrap_i64]; omega) fun a5 hE6=>?_)
 refine qai [5] [] [(4,.v (.int .i64 (Int.tmod (IntKind.i64.wrap x) (IntKind.i64.wrap (m + 1)))))] hW hE6 fun a7 hE8=>?_
 refine qaf (qab ?_)
 refine wp_ret ?_
 refine qaF hE8 hW.cells (v:=.int .i64 (Int.tmod (IntKind.i64.wrap x) (IntKind.i64.wrap (m + 1)))) kz ?_
 exact ⟨by rw [wrap_i64 (by omega) (by omega),wrap_i64 (by omega) (by omega)],hW.step⟩
def qaS (v:Int) (T:Tree):Bs:=(if (decide (v ≥ 10)) = true then (qat (T.at_ 0).S) else []) ++ ((if (decide (v ≥ 10)) = true then (if (decide (v ≥ 9)) = true then (if (T.at_ 1).null = true then uv 0 else uv ((qbb (T.at_ 1)).length + 1) ++ (qbb (T.at_ 1))) else (if (T.at_ 1).null = true then be 2 (-1) else be 2 (qbb (T.at_ 1)).length ++ (qbb (T.at_ 1)))) else (if (decide (v ≥ 9)) = true then (uv ((qbb (T.at_ 1)).length + 1) ++ (qbb (T.at_ 1))) else (be 2 (qbb (T.at_ 1)).length ++ (qbb (T.at_ 1))))) ++ (if (decide (v ≥ 9)) = true then (uv T.U.length) ++ (qcC T.U) else []))
theorem qb5 (v:Int) (T:Tree):0 < (qaS v T).length:=ql4 (qjn (qgC (qgC (qgC (qjU _) (qjn (qjU _))) (qgC (qjo (by decide)) (qjn (qjo (by decide))))) (qgC (qjn (qjU _)) (qjn (qjo (by decide))))))
def qcA (v:Int) (T:Tree):Bs:=((if (decide (v ≥ 9)) = true then (if (T.at_ 0).null = true then uv 0 else uv ((lst (T.at_ 0)).length + 1)) else (if (T.at_ 0).null = true then be 4 (-1) else be 4 (lst (T.at_ 0)).length)) ++ ((lst (T.at_ 0)).flatMap (qaS v))) ++ ((if (decide (v ≥ 4)) = true then [by8 (if (decide ((T.at_ 1).N % 2 = 1)) then 1 else 0)] else []) ++ ((if ((if (decide (v ≥ 8)) = true then decide (v ≤ 10) else false)) = true then [by8 (if (decide ((T.at_ 2).N % 2 = 1)) then 1 else 0)] else []) ++ ((if (decide (v ≥ 8)) = true then [by8 (if (decide ((T.at_ 3).N % 2 = 1)) then 1 else 0)] else []) ++ ((if (decide (v ≥ 9)) = true then (uv T.U.length) ++ (qcC T.U) else []) ++ (([]:Bs))))))
theorem qep (v:Int) (T:Tree):qau v T = qcA v T:=rfl
def qb8 (d:DV):List Value:=[qad ((d.f 0).o.getD 0 0),qad ((d.f 0).o.getD 1 0),qad ((d.f 0).o.getD 2 0),qad ((d.f 0).o.getD 3 0),qad ((d.f 0).o.getD 4 0),qad ((d.f 0).o.getD 5 0),qad ((d.f 0).o.getD 6 0),qad ((d.f 0).o.getD 7 0),qad ((d.f 0).o.getD 8 0),qad ((d.f 0).o.getD 9 0),qad ((d.f 0).o.getD 10 0),qad ((d.f 0).o.getD 11 0),qad ((d.f 0).o.getD 12 0),qad ((d.f 0).o.getD 13 0),qad ((d.f 0).o.getD 14 0),qad ((d.f 0).o.getD 15 0),.pointer ((d.f 1).A),.map d.m]
theorem qa4:qgX qa0:=by
 intro w w' F F' M d hs hM hF h
 unfold qa0 at h ⊢
 obtain ⟨g0,⟨g1,g1l⟩,t1,t2,t3,_⟩:=h
 exact ⟨g0,⟨fun ad hA=>by
  obtain ⟨b,o,h1,h2⟩:=g1 ad hA
  exact ⟨b,o,h1,h2.move hs hM hF⟩,g1l⟩,t1.move hs hM hF,t2,t3,trivial⟩
def qa8 (v:Int) (D:DV) (T:Tree):Prop:=(((decide (v ≥ 10)) = true → (D.f 0).o = qat (T.at_ 0).S) ∧ ((decide (v ≥ 10)) = false → (D.f 0).o = List.replicate 16 0)) ∧ (((D.f 1).s = bs (qbb (T.at_ 1)) ∧ ((decide (v ≥ 10) = true → (D.f 1).A.isNone = (T.at_ 1).null) ∧ (decide (v ≥ 10) = false → (D.f 1).A.isNone = false)))) ∧ (((decide (v ≥ 9)) = true → D.u = T.U) ∧ ((decide (v ≥ 9)) = false → D.u = [])) ∧ True
def qbh (v:Int) (D:DV) (T:Tree):Prop:=(((decide (v ≥ 1) = true → (D.f 0).A.isNone = (T.at_ 0).null) ∧ (D.f 0).l = (lst (T.at_ 0)).length ∧ ∀ i,i < (D.f 0).l → qa8 v ((D.f 0).f i) ((lst (T.at_ 0)).getD i .zero))) ∧ (((decide (v ≥ 4)) = true → (D.f 1).b = decide ((T.at_ 1).N % 2 = 1)) ∧ ((decide (v ≥ 4)) = false → (D.f 1).b = false)) ∧ (((if (decide (v ≥ 8)) = true then decide (v ≤ 10) else false) = true → (D.f 2).b = decide ((T.at_ 2).N % 2 = 1)) ∧ ((if (decide (v ≥ 8)) = true then decide (v ≤ 10) else false) = false → (D.f 2).b = false)) ∧ (((decide (v ≥ 8)) = true → (D.f 3).b = decide ((T.at_ 3).N % 2 = 1)) ∧ ((decide (v ≥ 8)) = false → (D.f 3).b = false)) ∧ (((decide (v ≥ 9)) = true → D.u = T.U) ∧ ((decide (v ≥ 9)) = false → D.u = [])) ∧ True
theorem qlI (b o:Nat) (w:World):Calls Tryz.prog 177 #[.pointer (some ⟨b,o,none⟩)] w (fun e w'=>e = .returned (.tuple #[]) ∧ w' = w):=by
 refine enter (n:=2) (vs:=[.pointer (some ⟨b,o,none⟩)]) Tryz.func177 rfl Tryz.ntmps177 kz fun a hE=>?_
 refine wp_skip ?_
 exact qbK hE (WOk.start w Nil).cells (v:=.tuple #[]) kz ⟨rfl,rfl⟩
set_option maxHeartbeats 4000000 in
theorem qeq (v:Int) (T:Tree) {bv:Nat} {A:Option Addr} {c:Nat} {w:World} {F:Nat → Nat → Prop} (hst:Str w bv [.int .i16 v,.slice none 0 0,.bool false,.bool false,.bool false,.map none]) (ho:Octs w F A c (qau v T)) (hFd:∀ b o,F b o → ¬ (b = bv ∧ o < 6)) (hc:qbg T) (hR:T.ranged) :
  Calls Tryz.prog 121 #[.pointer (some ⟨bv,0,none⟩),.slice A (qau v T).length c,.bool false] w (fun e w'=>∃ D:DV,e = .returned .nilIface ∧ Str w' bv [.int .i16 v,.slice ((D.f 0).A) ((D.f 0).l) ((D.f 0).c),.bool ((D.f 1).b),.bool ((D.f 2).b),.bool ((D.f 3).b),.map D.m] ∧ qbp w' (Fp F w) D ∧ qbh v D T ∧ Step w w' (fun b o=>b = bv ∧ o < 6)):=by
 refine enter (n:=140) Tryz.func121 rfl Tryz.ntmps121 kz fun a hE=>?_
 have hW:=WOk.startStr hst
 have hE1:=(hE.grow ⟨bv,0,[.int .i16 v,.slice none 0 0,.bool false,.bool false,.bool false,.map none],true⟩).recast 0 (.v (.pointer (some ⟨bv,0,none⟩))) (.p 0 0) rfl rfl (Nat.le_of_ble_eq_true (n:=1) rfl)
 refine qan [(0,.p 0 0),(1,.v (.slice A ((qau v T).length) c)),(2,.v (.bool false))] hW hE1 fun a1 hE2=>?_
 refine qae [0,1] kz ?_
 refine qai [0] [1] [(0,.p 0 0),(1,.v (.slice A ((qau v T).length) c)),(2,.v (.bool false)),(23,.p 0 0)] hW hE2 fun a3 hE4=>?_
 refine qak (qbF hE4 (f:=120) (vs:=[.pointer (some ⟨bv,0,none⟩)]) (d:=24) (n':=2) kz Tryz.call120 Tryz.func120 rfl Tryz.ntmps120 kz fun a5 hE6=>?_)
 have hE7:=hE6.recast 0 (.v (.pointer (some ⟨bv,0,none⟩))) (.p 0 0) rfl rfl (Nat.le_of_ble_eq_true (n:=1) rfl)
 refine wp_skip ?_
 refine qbK hE7 hW.cells (v:=.tuple #[]) kz ?_
 refine ⟨_,rfl,fun a8 hE9=>?_⟩
 have fe:EnvOk 140 [⟨bv,0,[.int .i16 v,.slice none 0 0,.bool false,.bool false,.bool false,.map none],true⟩] [(24,.v (.tuple #[])),(0,.p 0 0),(1,.v (.slice A ((qau v T).length) c)),(2,.v (.bool false)),(23,.p 0 0)] _:=hE9.places (⟨rfl,rfl,trivial⟩)
 refine qaf (qab ?_)
 refine qae [0,1,2,3] kz ?_
 refine qai [0,1] [2,3] [(0,.p 0 0),(2,.v (.bool false)),(26,.v (.agg #[.slice A ((qau v T).length) c,.bool false]))] hW fe fun fR ff=>?_
 refine qak (qaK hW ff (d:=7) (cs:=[.slice none 0 0,.bool false]) kz fun aT fS fT fD fE fF fg fh=>?_)
 refine qak (qav fg fh (oi:=1) (cs:=[.slice A ((qau v T).length) c,.bool false]) kz fun fU fG dC fi=>?_)
 refine qaf (qab ?_)
 have dM:=RS.start (F:=F) (s:=qau v T) dC fi (ho.move dC.step (fun b_ o_ h_ _=>hFd b_ o_ h_) (dC.immM hFd)) [(0,.p 1 0),(2,.v (.bool false)),(7,.p 0 0)]
 have fB:=hc
 have e26r:=hR
 unfold qbg at fB
 obtain ⟨⟨e26_0,e26_0e⟩,e26_1,e26_2,e26_3,e26_U,_⟩:=fB
 obtain ⟨dN,dO⟩:∃ R,R = (if (decide (v ≥ 9)) = true then (uv T.U.length) ++ (qcC T.U) else []) ++ ([]:Bs):=⟨_,rfl⟩
 obtain ⟨dD,dP⟩:∃ R,R = (if (decide (v ≥ 8)) = true then [by8 (if (decide ((T.at_ 3).N % 2 = 1)) then 1 else 0)] else []) ++ dN:=⟨_,rfl⟩
 obtain ⟨dQ,dR⟩:∃ R,R = (if ((if (decide (v ≥ 8)) = true then decide (v ≤ 10) else false)) = true then [by8 (if (decide ((T.at_ 2).N % 2 = 1)) then 1 else 0)] else []) ++ dD:=⟨_,rfl⟩
 obtain ⟨bk,dS⟩:∃ R,R = (if (decide (v ≥ 4)) = true then [by8 (if (decide ((T.at_ 1).N % 2 = 1)) then 1 else 0)] else []) ++ dQ:=⟨_,rfl⟩
 obtain ⟨fH,dT⟩:∃ R,R = ((if (decide (v ≥ 9)) = true then (if (T.at_ 0).null = true then uv 0 else uv ((lst (T.at_ 0)).length + 1)) else (if (T.at_ 0).null = true then be 4 (-1) else be 4 (lst (T.at_ 0)).length)) ++ ((lst (T.at_ 0)).flatMap (qaS v))) ++ bk:=⟨_,rfl⟩
 have dU:=dM.cast (t:=fH) (by rw [qep,dT,dS,dR,dP,dO]; unfold qcA; simp only [List.append_assoc])
 clear dM
 refine wp_seq ?_
 refine qbS [(0,.p 1 0),(2,.v (.bool false)),(7,.p 0 0),(8,.v (.int .i16 v))] dU fun _ dV=>?_
 clear dU
 refine qab ?_
 refine wp_seq ?_
 refine qbS [(0,.p 1 0),(2,.v (.bool false)),(7,.p 0 0),(8,.v (.int .i16 v))] dV fun _ dW=>?_
 clear dV
 refine qab ?_
 refine wp_seq ?_
 refine qbS [(0,.p 1 0),(2,.v (.bool false)),(7,.p 0 0),(8,.v (.int .i16 v)),(9,.v (.bool (decide (v ≥ 9))))] dW fun _ dX=>?_
 clear dW
 refine qab ?_
 refine wp_seq ?_
 refine qbS [(0,.p 1 0),(2,.v (.bool false)),(7,.p 0 0),(8,.v (.int .i16 v)),(9,.v (.bool (decide (v ≥ 9))))] dX fun _ dY=>?_
 clear dX
 refine qab ?_
 refine wp_seq ?_
 refine qbS [(2,.v (.bool false)),(7,.p 0 0),(8,.v (.int .i16 v)),(9,.v (.bool (decide (v ≥ 9)))),(10,.p 1 0)] dY fun _ dZ=>?_
 clear dY
 refine qab ?_
 refine wp_seq ?_
 refine wp_seq ?_
 refine qbS [(2,.v (.bool false)),(7,.p 0 0),(8,.v (.int .i16 v)),(9,.v (.bool (decide (v ≥ 9)))),(10,.p 1 0),(11,.v (.slice none 0 0))] dZ fun _ d5=>?_
 clear dZ
 refine qab ?_
 refine wp_seq ?_
 refine qbS [(2,.v (.bool false)),(7,.p 0 0),(8,.v (.int .i16 v)),(9,.v (.bool (decide (v ≥ 9)))),(10,.p 1 0),(12,.v (.slice none 0 0))] d5 fun _ d6=>?_
 clear d5
 refine qab ?_
 refine wp_seq ?_
 refine qbS [(2,.v (.bool false)),(7,.p 0 0),(8,.v (.int .i16 v)),(9,.v (.bool (decide (v ≥ 9)))),(10,.p 1 0),(12,.v (.slice none 0 0))] d6 fun _ d7=>?_
 clear d6
 refine qab ?_
 refine wp_seq ?_
 have d8:=d7.cast dT
 clear d7
 have d9:=d8.cast (t:=(if (decide (v ≥ 9)) = true then (if (T.at_ 0).null = true then uv 0 else uv ((lst (T.at_ 0)).length + 1)) else (if (T.at_ 0).null = true then be 4 (-1) else be 4 (lst (T.at_ 0)).length)) ++ (((lst (T.at_ 0)).flatMap (qaS v)) ++ bk)) (by rw [List.append_assoc])
 clear d8
 refine qk0 (d1:=42) (d2:=43) [(2,.v (.bool false)),(7,.p 0 0),(8,.v (.int .i16 v)),(9,.v (.bool (decide (v ≥ 9)))),(10,.p 1 0),(12,.v (.slice none 0 0)),(41,.v (.bool (decide (v ≥ 9))))] [(2,.v (.bool false)),(7,.p 0 0),(8,.v (.int .i16 v)),(9,.v (.bool (decide (v ≥ 9)))),(10,.p 1 0),(12,.v (.slice none 0 0)),(13,.v (.int .i32 (lenN (T.at_ 0).null ((lst (T.at_ 0)).length))))] d9 (qeo (T.at_ 0).null ((lst (T.at_ 0)).length) e26_0 _ (flat_ge' (qb5 v) _)) Tryz.call146 (qh9 (T.at_ 0).null ((lst (T.at_ 0)).length) e26_0 _ (flat_ge' (qb5 v) _)) Tryz.call147 fun _ _ ea=>?_
 clear d9
 refine qab ?_
 refine wp_seq ?_
 refine qch (Mid:=fun a_ w_=>∃ (aL:Option Addr),(decide (v ≥ 1) = true → (lst (T.at_ 0)).length = 0 → aL.isNone = (T.at_ 0).null) ∧ RS w (fun b o=>b = bv ∧ o < 6) F 140 aT [⟨bv,0,[.int .i16 v,.slice none 0 0,.bool false,.bool false,.bool false,.map none],true⟩] [(2,.v (.bool false)),(7,.p 0 0),(8,.v (.int .i16 v)),(9,.v (.bool (decide (v ≥ 9)))),(10,.p 1 0),(12,.v (.slice aL 0 0)),(13,.v (.int .i32 (lenN (T.at_ 0).null ((lst (T.at_ 0)).length))))] noF ((lst (T.at_ 0)).flatMap (qaS v) ++ bk) a_ w_) ?_ ?_
 ·
  refine wp_seq ?_
  refine qap [0,1,2,3,4,5] kz ?_
  refine qct [0,1,2] [3,4,5] [(2,.v (.bool false)),(7,.p 0 0),(8,.v (.int .i16 v)),(9,.v (.bool (decide (v ≥ 9)))),(10,.p 1 0),(12,.v (.slice none 0 0)),(13,.v (.int .i32 (lenN (T.at_ 0).null ((lst (T.at_ 0)).length)))),(46,.v (.bool (decide (v < 1))))] ea fun _ bn=>?_
  clear ea
  refine (Bool.eq_false_or_eq_true (decide (v < 1))).elim (fun bo=>?_) (fun bo=>?_)
  ·
   have eb:=bn.envEq (env':=[(2,.v (.bool false)),(7,.p 0 0),(8,.v (.int .i16 v)),(9,.v (.bool (decide (v ≥ 9)))),(10,.p 1 0),(12,.v (.slice none 0 0)),(13,.v (.int .i32 (lenN (T.at_ 0).null ((lst (T.at_ 0)).length)))),(46,.v (.bool true))]) (by rw [bo])
   clear bn
   refine qct [3,4,5] [] [(2,.v (.bool false)),(7,.p 0 0),(8,.v (.int .i16 v)),(9,.v (.bool (decide (v ≥ 9)))),(10,.p 1 0),(12,.v (.slice none 0 0)),(13,.v (.int .i32 (lenN (T.at_ 0).null ((lst (T.at_ 0)).length)))),(49,.v (.bool true))] eb fun _ dE=>qaf (qab ?_)
   clear eb
   refine qaW dE.env_ (b:=true) kz rfl ?_
   refine qap [0,1] kz ?_
   refine qak (qji (e:=149) (size:=18) (d:=50) dE fun fj _ _ ec=>?_)
   clear dE
   refine qct [1] [] [(2,.v (.bool false)),(7,.p 0 0),(8,.v (.int .i16 v)),(9,.v (.bool (decide (v ≥ 9)))),(10,.p 1 0),(12,.v (.slice (some ⟨fj,0,none⟩) 0 0)),(13,.v (.int .i32 (lenN (T.at_ 0).null ((lst (T.at_ 0)).length))))] ec fun _ fk=>?_
   clear ec
   refine qaf (qab ?_)
   exact ⟨(some ⟨fj,0,none⟩),(fun h1_ _=>absurd (of_decide_eq_true h1_) (by have:=of_decide_eq_true bo; omega)),fk.pk (env':=[(2,.v (.bool false)),(7,.p 0 0),(8,.v (.int .i16 v)),(9,.v (.bool (decide (v ≥ 9)))),(10,.p 1 0),(12,.v (.slice (some ⟨fj,0,none⟩) 0 0)),(13,.v (.int .i32 (lenN (T.at_ 0).null ((lst (T.at_ 0)).length))))])⟩
  have ee:=bn.envEq (env':=[(2,.v (.bool false)),(7,.p 0 0),(8,.v (.int .i16 v)),(9,.v (.bool (decide (v ≥ 9)))),(10,.p 1 0),(12,.v (.slice none 0 0)),(13,.v (.int .i32 (lenN (T.at_ 0).null ((lst (T.at_ 0)).length)))),(46,.v (.bool false))]) (by rw [bo])
  clear bn
  refine qct [3,4,5] [] [(2,.v (.bool false)),(7,.p 0 0),(8,.v (.int .i16 v)),(9,.v (.bool (decide (v ≥ 9)))),(10,.p 1 0),(12,.v (.slice none 0 0)),(13,.v (.int .i32 (lenN (T.at_ 0).null ((lst (T.at_ 0)).length)))),(49,.v (.bool ((lenN (T.at_ 0).null ((lst (T.at_ 0)).length)) == 0)))] ee fun _ bp=>qaf (qab ?_)
  clear ee
  refine qas bp.env_ (b:=(lenN (T.at_ 0).null ((lst (T.at_ 0)).length)) == 0) kz (fun dF=>?_) (fun dF=>?_)
  ·
   refine qap [0,1] kz ?_
   refine qak (qji (e:=149) (size:=18) (d:=50) bp fun fm _ _ ef=>?_)
   clear bp
   refine qct [1] [] [(2,.v (.bool false)),(7,.p 0 0),(8,.v (.int .i16 v)),(9,.v (.bool (decide (v ≥ 9)))),(10,.p 1 0),(12,.v (.slice (some ⟨fm,0,none⟩) 0 0)),(13,.v (.int .i32 (lenN (T.at_ 0).null ((lst (T.at_ 0)).length))))] ef fun _ fo=>?_
   clear ef
   refine qaf (qab ?_)
   exact ⟨(some ⟨fm,0,none⟩),(fun _ _=>(qk4 (by simpa using dF)).symm),fo.pk (env':=[(2,.v (.bool false)),(7,.p 0 0),(8,.v (.int .i16 v)),(9,.v (.bool (decide (v ≥ 9)))),(10,.p 1 0),(12,.v (.slice (some ⟨fm,0,none⟩) 0 0)),(13,.v (.int .i32 (lenN (T.at_ 0).null ((lst (T.at_ 0)).length))))])⟩
  refine wp_skip ?_
  refine qab ?_
  exact ⟨none,(fun _ hn_=>(qj4 (by simpa using dF) hn_).symm),bp.pk (env':=[(2,.v (.bool false)),(7,.p 0 0),(8,.v (.int .i16 v)),(9,.v (.bool (decide (v ≥ 9)))),(10,.p 1 0),(12,.v (.slice none 0 0)),(13,.v (.int .i32 (lenN (T.at_ 0).null ((lst (T.at_ 0)).length))))])⟩
 rintro _ _ ⟨aL,fq,eg⟩
 refine qab ?_
 refine wp_seq ?_
 refine wp_seq ?_
 refine ql5 (d:=51) [(2,.v (.bool false)),(7,.p 0 0),(8,.v (.int .i16 v)),(9,.v (.bool (decide (v ≥ 9)))),(10,.p 1 0),(12,.v (.slice aL 0 0)),(13,.v (.int .i32 (lenN (T.at_ 0).null ((lst (T.at_ 0)).length)))),(52,.v (.bool false))] eg (pOk _) Tryz.call148 fun _ _ dG=>?_
 clear eg
 refine qab ?_
 refine qao dG.env_ (b:=false) kz (rfl) ?_
 refine wp_skip ?_
 refine qab ?_
 refine wp_seq ?_
 refine qk5 (t:=143) (e:=149) (size:=18) (bytes:=32) (d:=55) (A0:=aL) (m:=0) (cp:=0) [(2,.v (.bool false)),(7,.p 0 0),(8,.v (.int .i16 v)),(9,.v (.bool (decide (v ≥ 9)))),(10,.p 1 0),(13,.v (.int .i32 (lenN (T.at_ 0).null ((lst (T.at_ 0)).length)))),(54,.v (.slice aL 0 0))] [(2,.v (.bool false)),(7,.p 0 0),(8,.v (.int .i16 v)),(9,.v (.bool (decide (v ≥ 9)))),(10,.p 1 0),(12,.v (.slice aL 0 0)),(13,.v (.int .i32 (lenN (T.at_ 0).null ((lst (T.at_ 0)).length))))] 1 dG fun _ eh=>?_
 clear dG
 refine qab ?_
 refine qj2 (Mid:=fun a_ w_=>∃ (af:DV) (P':qbZ),(∀ w F,P' w F → noF w F ∧ (Slots w F 18 af.A af.c af.l (fun i=>[qad (((af.f i).f 0).o.getD 0 0),qad (((af.f i).f 0).o.getD 1 0),qad (((af.f i).f 0).o.getD 2 0),qad (((af.f i).f 0).o.getD 3 0),qad (((af.f i).f 0).o.getD 4 0),qad (((af.f i).f 0).o.getD 5 0),qad (((af.f i).f 0).o.getD 6 0),qad (((af.f i).f 0).o.getD 7 0),qad (((af.f i).f 0).o.getD 8 0),qad (((af.f i).f 0).o.getD 9 0),qad (((af.f i).f 0).o.getD 10 0),qad (((af.f i).f 0).o.getD 11 0),qad (((af.f i).f 0).o.getD 12 0),qad (((af.f i).f 0).o.getD 13 0),qad (((af.f i).f 0).o.getD 14 0),qad (((af.f i).f 0).o.getD 15 0),.pointer (((af.f i).f 1).A),.map ((af.f i).m)]) ∧ af.l ≤ 1000000 ∧ ∀ i,i < af.l → qa0 w F (af.f i)) ∧ ((decide (v ≥ 1) = true → af.A.isNone = (T.at_ 0).null) ∧ af.l = (lst (T.at_ 0)).length ∧ ∀ i,i < af.l → qa8 v (af.f i) ((lst (T.at_ 0)).getD i .zero))) ∧ RS w (fun b o=>b = bv ∧ o < 6) F 140 aT [⟨bv,0,[.int .i16 v,.slice none 0 0,.bool false,.bool false,.bool false,.map none],true⟩] [(7,.p 0 0),(8,.v (.int .i16 v)),(9,.v (.bool (decide (v ≥ 9)))),(10,.p 1 0),(12,.v (.slice af.A af.l af.c))] P' bk a_ w_) ?_ ?_
 ·
  refine wp_seq ?_
  refine qbS [(2,.v (.bool false)),(7,.p 0 0),(8,.v (.int .i16 v)),(9,.v (.bool (decide (v ≥ 9)))),(10,.p 1 0),(12,.v (.slice aL 0 0)),(13,.v (.int .i32 (lenN (T.at_ 0).null ((lst (T.at_ 0)).length)))),(57,.v (.bool (decide ((lenN (T.at_ 0).null ((lst (T.at_ 0)).length)) > 0))))] eh fun _ aU=>qab ?_
  clear eh
  refine qas aU.env_ (b:=decide ((lenN (T.at_ 0).null ((lst (T.at_ 0)).length)) > 0)) kz (fun aV=>?_) (fun aV=>?_)
  ·
   have hn_g75:0 < (lst (T.at_ 0)).length:=by have h_:=of_decide_eq_true aV; unfold lenN at h_; split at h_ <;> omega
   have bz:(T.at_ 0).null = false:=by have h_:=of_decide_eq_true aV; unfold lenN at h_; cases hq_:(T.at_ 0).null with | false=>rfl | true=>rw [hq_] at h_; simp at h_
   have fr:lenN (T.at_ 0).null ((lst (T.at_ 0)).length) = (((lst (T.at_ 0)).length:Nat):Int):=by rw [bz]; rfl
   have ei:=aU.envEq (env':=[(2,.v (.bool false)),(7,.p 0 0),(8,.v (.int .i16 v)),(9,.v (.bool (decide (v ≥ 9)))),(10,.p 1 0),(12,.v (.slice aL 0 0)),(13,.v (.int .i32 (((lst (T.at_ 0)).length:Nat):Int))),(57,.v (.bool (decide ((lenN (T.at_ 0).null ((lst (T.at_ 0)).length)) > 0))))]) (by rw [fr])
   clear aU
   refine qap [0,1,2,3] kz ?_
   refine qct [0,1] [2,3] [(2,.v (.bool false)),(7,.p 0 0),(8,.v (.int .i16 v)),(9,.v (.bool (decide (v ≥ 9)))),(10,.p 1 0),(13,.v (.int .i32 (((lst (T.at_ 0)).length:Nat):Int))),(58,.v (.slice aL 0 0)),(59,.v (.int .i32 (((lst (T.at_ 0)).length:Nat):Int)))] ei fun _ ej=>?_
   clear ei
   refine qak (qh5 (A0:=aL) (d:=60) (t:=143) (tn:=21) (e:=149) (size:=18) (bytes:=32) (k:=.i32) (kn:=.i32) (q:=(((lst (T.at_ 0)).length:Nat):Int)) (j:=(lst (T.at_ 0)).length) (.agg #[.int .u8 0,.int .u8 0,.int .u8 0,.int .u8 0,.int .u8 0,.int .u8 0,.int .u8 0,.int .u8 0,.int .u8 0,.int .u8 0,.int .u8 0,.int .u8 0,.int .u8 0,.int .u8 0,.int .u8 0,.int .u8 0,.pointer none,.map none]) ej (fun ac ag _ _ hg_g75 hcap_g75 ek=>?_) rfl hn_g75 (by have:=e26_0; omega))
   clear ej
   refine qct [3] [] [(2,.v (.bool false)),(7,.p 0 0),(8,.v (.int .i16 v)),(9,.v (.bool (decide (v ≥ 9)))),(10,.p 1 0),(12,.v (.slice (some ⟨ac,0,none⟩) ((lst (T.at_ 0)).length) ag)),(13,.v (.int .i32 (((lst (T.at_ 0)).length:Nat):Int)))] ek fun _ em=>qaf ?_
   clear ek
   refine qab ?_
   refine wp_seq ?_
   refine qbS [(2,.v (.bool false)),(7,.p 0 0),(8,.v (.int .i16 v)),(9,.v (.bool (decide (v ≥ 9)))),(10,.p 1 0),(12,.v (.slice (some ⟨ac,0,none⟩) ((lst (T.at_ 0)).length) ag)),(13,.v (.int .i32 (((lst (T.at_ 0)).length:Nat):Int))),(14,.v (.int .i32 0))] em fun _ dH=>?_
   clear em
   refine qab ?_
   refine wp_block ?_
   have bA:=dH.mv
   have ft:=(dH.cast (t:=(lst (T.at_ 0)).flatMap (qaS v) ++ bk) rfl).pk (env':=[(2,.v (.bool false)),(7,.p 0 0),(8,.v (.int .i16 v)),(9,.v (.bool (decide (v ≥ 9)))),(10,.p 1 0),(12,.v (.slice (some ⟨ac,0,none⟩) ((lst (T.at_ 0)).length) ag)),(13,.v (.int .i32 (((lst (T.at_ 0)).length:Nat):Int))),(14,.v (.int .i32 ((0:Nat):Int)))])
   clear dH
   refine qk2 (tb:=[⟨bv,0,[.int .i16 v,.slice none 0 0,.bool false,.bool false,.bool false,.map none],true⟩]) (z:=.agg #[.int .u8 0,.int .u8 0,.int .u8 0,.int .u8 0,.int .u8 0,.int .u8 0,.int .u8 0,.int .u8 0,.int .u8 0,.int .u8 0,.int .u8 0,.int .u8 0,.int .u8 0,.int .u8 0,.int .u8 0,.int .u8 0,.pointer none,.map none]) (cl:=qb8) (ok:=qa0) (rel:=(qa8 v)) (L:=lst (T.at_ 0)) (size:=18) (qaS v) bk (fun k=>[(2,.v (.bool false)),(7,.p 0 0),(8,.v (.int .i16 v)),(9,.v (.bool (decide (v ≥ 9)))),(10,.p 1 0),(12,.v (.slice (some ⟨ac,0,none⟩) ((lst (T.at_ 0)).length) ag)),(13,.v (.int .i32 (((lst (T.at_ 0)).length:Nat):Int))),(14,.v (.int .i32 ((k:Nat):Int)))]) ft qa4 (fun ae ab _ _ dI fu eo=>?_) (fun _ _ ep=>?_)
   ·
    obtain ⟨fI,eu,ev⟩:∃ P',(∀ w F,P' w F → (noF w F ∧ qfT ac 18 qb8 qa0 (qa8 v) (lst (T.at_ 0)) ae w F)) ∧ RS w (fun b o=>b = bv ∧ o < 6) F 140 aT [⟨bv,0,[.int .i16 v,.slice none 0 0,.bool false,.bool false,.bool false,.map none],true⟩,qbu ac 18 (.agg #[.int .u8 0,.int .u8 0,.int .u8 0,.int .u8 0,.int .u8 0,.int .u8 0,.int .u8 0,.int .u8 0,.int .u8 0,.int .u8 0,.int .u8 0,.int .u8 0,.int .u8 0,.int .u8 0,.int .u8 0,.int .u8 0,.pointer none,.map none]) ((lst (T.at_ 0)).length) ae] [(2,.v (.bool false)),(7,.p 0 0),(8,.v (.int .i16 v)),(9,.v (.bool (decide (v ≥ 9)))),(10,.p 1 0),(12,.v (.slice (some ⟨ac,0,none⟩) ((lst (T.at_ 0)).length) ag)),(13,.v (.int .i32 (((lst (T.at_ 0)).length:Nat):Int))),(14,.v (.int .i32 ((ae:Nat):Int)))] P' ((qaS v) ab ++ (((lst (T.at_ 0)).drop (ae + 1)).flatMap (qaS v) ++ bk)) _ _:=⟨_,fun _ _ h=>h,eo⟩
    clear eo
    obtain ⟨ew,ey⟩:∃ R,R = ((lst (T.at_ 0)).drop (ae + 1)).flatMap (qaS v) ++ bk:=⟨_,rfl⟩
    have fC:=(e26_0e ab (List.mem_of_getElem? dI))
    have e97r:=(qh1 (qgz e26r 0) ab (List.mem_of_getElem? dI))
    unfold qbo at fC
    obtain ⟨e97_0,e97_1,e97_U,_⟩:=fC
    obtain ⟨bq,ez⟩:∃ R,R = (if (decide (v ≥ 9)) = true then (uv ab.U.length) ++ (qcC ab.U) else []) ++ ew:=⟨_,rfl⟩
    obtain ⟨aW,bB⟩:∃ R,R = (if (decide (v ≥ 10)) = true then (if (decide (v ≥ 9)) = true then (if (ab.at_ 1).null = true then uv 0 else uv ((qbb (ab.at_ 1)).length + 1) ++ (qbb (ab.at_ 1))) else (if (ab.at_ 1).null = true then be 2 (-1) else be 2 (qbb (ab.at_ 1)).length ++ (qbb (ab.at_ 1)))) else (if (decide (v ≥ 9)) = true then (uv ((qbb (ab.at_ 1)).length + 1) ++ (qbb (ab.at_ 1))) else (be 2 (qbb (ab.at_ 1)).length ++ (qbb (ab.at_ 1))))) ++ bq:=⟨_,rfl⟩
    obtain ⟨fv,bC⟩:∃ R,R = (if (decide (v ≥ 10)) = true then (qat (ab.at_ 0).S) else []) ++ aW:=⟨_,rfl⟩
    have bD:=ev.cast (t:=fv) (by rw [bC,bB,ez,← ey]; unfold qaS; simp only [List.append_assoc])
    clear ev
    refine wp_seq ?_
    refine wp_seq ?_
    refine qbS [(2,.v (.bool false)),(7,.p 0 0),(8,.v (.int .i16 v)),(9,.v (.bool (decide (v ≥ 9)))),(10,.p 1 0),(12,.v (.slice (some ⟨ac,0,none⟩) ((lst (T.at_ 0)).length) ag)),(13,.v (.int .i32 (((lst (T.at_ 0)).length:Nat):Int))),(14,.v (.int .i32 ((ae:Nat):Int))),(63,.v (.bool (decide (((ae:Nat):Int) < (((lst (T.at_ 0)).length:Nat):Int)))))] bD fun _ aX=>qab ?_
    clear bD
    refine qaW aX.env_ (b:=decide (((ae:Nat):Int) < (((lst (T.at_ 0)).length:Nat):Int))) kz (decide_eq_true (by omega)) ?_
    refine wp_skip ?_
    refine qab ?_
    refine wp_seq ?_
    refine wp_block ?_
    refine wp_seq ?_
    refine qk6 (t:=143) (e:=149) (size:=18) (bytes:=32) (d:=68) (tb:=[⟨bv,0,[.int .i16 v,.slice none 0 0,.bool false,.bool false,.bool false,.map none],true⟩]) (z:=.agg #[.int .u8 0,.int .u8 0,.int .u8 0,.int .u8 0,.int .u8 0,.int .u8 0,.int .u8 0,.int .u8 0,.int .u8 0,.int .u8 0,.int .u8 0,.int .u8 0,.int .u8 0,.int .u8 0,.int .u8 0,.int .u8 0,.pointer none,.map none]) [(2,.v (.bool false)),(7,.p 0 0),(8,.v (.int .i16 v)),(9,.v (.bool (decide (v ≥ 9)))),(10,.p 1 0),(12,.v (.slice (some ⟨ac,0,none⟩) ((lst (T.at_ 0)).length) ag)),(13,.v (.int .i32 (((lst (T.at_ 0)).length:Nat):Int))),(14,.v (.int .i32 ((ae:Nat):Int))),(66,.v (.slice (some ⟨ac,0,none⟩) ((lst (T.at_ 0)).length) ag)),(67,.v (.int .i32 ((ae:Nat):Int)))] [(2,.v (.bool false)),(7,.p 0 0),(8,.v (.int .i16 v)),(9,.v (.bool (decide (v ≥ 9)))),(10,.p 1 0),(12,.v (.slice (some ⟨ac,0,none⟩) ((lst (T.at_ 0)).length) ag)),(13,.v (.int .i32 (((lst (T.at_ 0)).length:Nat):Int))),(14,.v (.int .i32 ((ae:Nat):Int))),(15,.p 3 0)] 2 aX fu rfl kz fun _ bE=>?_
    clear aX
    have bF:=bE.tbEq (tb':=[⟨bv,0,[.int .i16 v,.slice none 0 0,.bool false,.bool false,.bool false,.map none],true⟩,qbu ac 18 (.agg #[.int .u8 0,.int .u8 0,.int .u8 0,.int .u8 0,.int .u8 0,.int .u8 0,.int .u8 0,.int .u8 0,.int .u8 0,.int .u8 0,.int .u8 0,.int .u8 0,.int .u8 0,.int .u8 0,.int .u8 0,.int .u8 0,.pointer none,.map none]) ((lst (T.at_ 0)).length) (ae + 1),⟨ac,ae * 18,[.int .u8 0,.int .u8 0,.int .u8 0,.int .u8 0,.int .u8 0,.int .u8 0,.int .u8 0,.int .u8 0,.int .u8 0,.int .u8 0,.int .u8 0,.int .u8 0,.int .u8 0,.int .u8 0,.int .u8 0,.int .u8 0,.pointer none,.map none],true⟩]) rfl
    clear bE
    refine qab ?_
    refine wp_seq ?_
    refine qap [0,1] kz ?_
    refine qct [0] [1] [(2,.v (.bool false)),(7,.p 0 0),(8,.v (.int .i16 v)),(9,.v (.bool (decide (v ≥ 9)))),(10,.p 1 0),(12,.v (.slice (some ⟨ac,0,none⟩) ((lst (T.at_ 0)).length) ag)),(13,.v (.int .i32 (((lst (T.at_ 0)).length:Nat):Int))),(14,.v (.int .i32 ((ae:Nat):Int))),(15,.p 3 0),(69,.p 3 0)] bF fun _ bG=>?_
    clear bF
    refine qak (qlD (d:=70) (vs:=[.pointer (some ⟨ac,ae * 18,none⟩)]) bG (fun _=>qlI _ _ _) Tryz.call177 fun _ bH=>?_)
    clear bG
    refine qaf ?_
    have bI:=bH.pk (env':=[(2,.v (.bool false)),(7,.p 0 0),(8,.v (.int .i16 v)),(9,.v (.bool (decide (v ≥ 9)))),(10,.p 1 0),(12,.v (.slice (some ⟨ac,0,none⟩) ((lst (T.at_ 0)).length) ag)),(13,.v (.int .i32 (((lst (T.at_ 0)).length:Nat):Int))),(14,.v (.int .i32 ((ae:Nat):Int))),(15,.p 3 0)])
    clear bH
    refine qab ?_
    refine wp_seq ?_
    refine qbS [(2,.v (.bool false)),(7,.p 0 0),(8,.v (.int .i16 v)),(9,.v (.bool (decide (v ≥ 9)))),(10,.p 1 0),(12,.v (.slice (some ⟨ac,0,none⟩) ((lst (T.at_ 0)).length) ag)),(13,.v (.int .i32 (((lst (T.at_ 0)).length:Nat):Int))),(14,.v (.int .i32 ((ae:Nat):Int))),(16,.p 3 0)] bI fun _ bJ=>?_
    clear bI
    refine qab ?_
    refine wp_seq ?_
    have bK:=bJ.cast bC
    clear bJ
    refine qch (Mid:=fun a_ w_=>∃ (aa:DV) (P':qbZ),(∀ w F,P' w F → fI w F ∧ (aa.o.length = 16) ∧ ((decide (v ≥ 10)) = true → aa.o = qat (ab.at_ 0).S) ∧ ((decide (v ≥ 10)) = false → aa.o = List.replicate 16 0)) ∧ RS w (fun b o=>b = bv ∧ o < 6) F 140 aT [⟨bv,0,[.int .i16 v,.slice none 0 0,.bool false,.bool false,.bool false,.map none],true⟩,qbu ac 18 (.agg #[.int .u8 0,.int .u8 0,.int .u8 0,.int .u8 0,.int .u8 0,.int .u8 0,.int .u8 0,.int .u8 0,.int .u8 0,.int .u8 0,.int .u8 0,.int .u8 0,.int .u8 0,.int .u8 0,.int .u8 0,.int .u8 0,.pointer none,.map none]) ((lst (T.at_ 0)).length) (ae + 1),⟨ac,ae * 18,[qad (aa.o.getD 0 0),qad (aa.o.getD 1 0),qad (aa.o.getD 2 0),qad (aa.o.getD 3 0),qad (aa.o.getD 4 0),qad (aa.o.getD 5 0),qad (aa.o.getD 6 0),qad (aa.o.getD 7 0),qad (aa.o.getD 8 0),qad (aa.o.getD 9 0),qad (aa.o.getD 10 0),qad (aa.o.getD 11 0),qad (aa.o.getD 12 0),qad (aa.o.getD 13 0),qad (aa.o.getD 14 0),qad (aa.o.getD 15 0),.pointer none,.map none],true⟩] [(2,.v (.bool false)),(7,.p 0 0),(8,.v (.int .i16 v)),(9,.v (.bool (decide (v ≥ 9)))),(10,.p 1 0),(12,.v (.slice (some ⟨ac,0,none⟩) ((lst (T.at_ 0)).length) ag)),(13,.v (.int .i32 (((lst (T.at_ 0)).length:Nat):Int))),(14,.v (.int .i32 ((ae:Nat):Int))),(16,.p 3 0)] P' aW a_ w_) ?_ ?_
    ·
     refine wp_seq ?_
     refine qbS [(2,.v (.bool false)),(7,.p 0 0),(8,.v (.int .i16 v)),(9,.v (.bool (decide (v ≥ 9)))),(10,.p 1 0),(12,.v (.slice (some ⟨ac,0,none⟩) ((lst (T.at_ 0)).length) ag)),(13,.v (.int .i32 (((lst (T.at_ 0)).length:Nat):Int))),(14,.v (.int .i32 ((ae:Nat):Int))),(16,.p 3 0),(73,.v (.bool (decide (v ≥ 10))))] bK fun _ aw=>qab ?_
     clear bK
     refine qas aw.env_ (b:=decide (v ≥ 10)) kz (fun ax=>?_) (fun ax=>?_)
     ·
      have bL:=aw.cast (t:=(qat (ab.at_ 0).S) ++ aW) (by rw [if_pos ax])
      clear aw
      refine wp_seq ?_
      refine qap [0,1,2] kz ?_
      refine qak (qeL (d:=74) bL (ql7 (ab.at_ 0).S _) Tryz.call168 fun _ _ bM=>?_)
      clear bL
      refine qak (qhu (d:=17) [.int .u8 0,.int .u8 0,.int .u8 0,.int .u8 0,.int .u8 0,.int .u8 0,.int .u8 0,.int .u8 0,.int .u8 0,.int .u8 0,.int .u8 0,.int .u8 0,.int .u8 0,.int .u8 0,.int .u8 0,.int .u8 0] bM fun dJ _ _ hb_b122 bN=>?_)
      clear bM
      have bO:=(bN.tbEq (tb':=[⟨bv,0,[.int .i16 v,.slice none 0 0,.bool false,.bool false,.bool false,.map none],true⟩,qbu ac 18 (.agg #[.int .u8 0,.int .u8 0,.int .u8 0,.int .u8 0,.int .u8 0,.int .u8 0,.int .u8 0,.int .u8 0,.int .u8 0,.int .u8 0,.int .u8 0,.int .u8 0,.int .u8 0,.int .u8 0,.int .u8 0,.int .u8 0,.pointer none,.map none]) ((lst (T.at_ 0)).length) (ae + 1),⟨ac,ae * 18,[.int .u8 0,.int .u8 0,.int .u8 0,.int .u8 0,.int .u8 0,.int .u8 0,.int .u8 0,.int .u8 0,.int .u8 0,.int .u8 0,.int .u8 0,.int .u8 0,.int .u8 0,.int .u8 0,.int .u8 0,.int .u8 0,.pointer none,.map none],true⟩,⟨dJ,0,[.int .u8 0,.int .u8 0,.int .u8 0,.int .u8 0,.int .u8 0,.int .u8 0,.int .u8 0,.int .u8 0,.int .u8 0,.int .u8 0,.int .u8 0,.int .u8 0,.int .u8 0,.int .u8 0,.int .u8 0,.int .u8 0],true⟩]) rfl).pk (env':=[(2,.v (.bool false)),(7,.p 0 0),(8,.v (.int .i16 v)),(9,.v (.bool (decide (v ≥ 9)))),(10,.p 1 0),(12,.v (.slice (some ⟨ac,0,none⟩) ((lst (T.at_ 0)).length) ag)),(13,.v (.int .i32 (((lst (T.at_ 0)).length:Nat):Int))),(14,.v (.int .i32 ((ae:Nat):Int))),(16,.p 3 0),(73,.v (.bool (decide (v ≥ 10)))),(74,.v (.agg #[qad ((qat (ab.at_ 0).S).getD 0 0),qad ((qat (ab.at_ 0).S).getD 1 0),qad ((qat (ab.at_ 0).S).getD 2 0),qad ((qat (ab.at_ 0).S).getD 3 0),qad ((qat (ab.at_ 0).S).getD 4 0),qad ((qat (ab.at_ 0).S).getD 5 0),qad ((qat (ab.at_ 0).S).getD 6 0),qad ((qat (ab.at_ 0).S).getD 7 0),qad ((qat (ab.at_ 0).S).getD 8 0),qad ((qat (ab.at_ 0).S).getD 9 0),qad ((qat (ab.at_ 0).S).getD 10 0),qad ((qat (ab.at_ 0).S).getD 11 0),qad ((qat (ab.at_ 0).S).getD 12 0),qad ((qat (ab.at_ 0).S).getD 13 0),qad ((qat (ab.at_ 0).S).getD 14 0),qad ((qat (ab.at_ 0).S).getD 15 0)])),(17,.p 4 0)])
      clear bN
      refine qak (qd5 [⟨bv,0,[.int .i16 v,.slice none 0 0,.bool false,.bool false,.bool false,.map none],true⟩,qbu ac 18 (.agg #[.int .u8 0,.int .u8 0,.int .u8 0,.int .u8 0,.int .u8 0,.int .u8 0,.int .u8 0,.int .u8 0,.int .u8 0,.int .u8 0,.int .u8 0,.int .u8 0,.int .u8 0,.int .u8 0,.int .u8 0,.int .u8 0,.pointer none,.map none]) ((lst (T.at_ 0)).length) (ae + 1),⟨ac,ae * 18,[.int .u8 0,.int .u8 0,.int .u8 0,.int .u8 0,.int .u8 0,.int .u8 0,.int .u8 0,.int .u8 0,.int .u8 0,.int .u8 0,.int .u8 0,.int .u8 0,.int .u8 0,.int .u8 0,.int .u8 0,.int .u8 0,.pointer none,.map none],true⟩,⟨dJ,0,[qad ((qat (ab.at_ 0).S).getD 0 0),qad ((qat (ab.at_ 0).S).getD 1 0),qad ((qat (ab.at_ 0).S).getD 2 0),qad ((qat (ab.at_ 0).S).getD 3 0),qad ((qat (ab.at_ 0).S).getD 4 0),qad ((qat (ab.at_ 0).S).getD 5 0),qad ((qat (ab.at_ 0).S).getD 6 0),qad ((qat (ab.at_ 0).S).getD 7 0),qad ((qat (ab.at_ 0).S).getD 8 0),qad ((qat (ab.at_ 0).S).getD 9 0),qad ((qat (ab.at_ 0).S).getD 10 0),qad ((qat (ab.at_ 0).S).getD 11 0),qad ((qat (ab.at_ 0).S).getD 12 0),qad ((qat (ab.at_ 0).S).getD 13 0),qad ((qat (ab.at_ 0).S).getD 14 0),qad ((qat (ab.at_ 0).S).getD 15 0)],true⟩] 3 bO fun _ bP=>?_)
      clear bO
      refine qaf ?_
      have bQ:=bP.pk (env':=[(2,.v (.bool false)),(7,.p 0 0),(8,.v (.int .i16 v)),(9,.v (.bool (decide (v ≥ 9)))),(10,.p 1 0),(12,.v (.slice (some ⟨ac,0,none⟩) ((lst (T.at_ 0)).length) ag)),(13,.v (.int .i32 (((lst (T.at_ 0)).length:Nat):Int))),(14,.v (.int .i32 ((ae:Nat):Int))),(16,.p 3 0),(17,.p 4 0)])
      clear bP
      refine qab ?_
      refine qfv [⟨bv,0,[.int .i16 v,.slice none 0 0,.bool false,.bool false,.bool false,.map none],true⟩,qbu ac 18 (.agg #[.int .u8 0,.int .u8 0,.int .u8 0,.int .u8 0,.int .u8 0,.int .u8 0,.int .u8 0,.int .u8 0,.int .u8 0,.int .u8 0,.int .u8 0,.int .u8 0,.int .u8 0,.int .u8 0,.int .u8 0,.int .u8 0,.pointer none,.map none]) ((lst (T.at_ 0)).length) (ae + 1),⟨ac,ae * 18,[qad ((qat (ab.at_ 0).S).getD 0 0),qad ((qat (ab.at_ 0).S).getD 1 0),qad ((qat (ab.at_ 0).S).getD 2 0),qad ((qat (ab.at_ 0).S).getD 3 0),qad ((qat (ab.at_ 0).S).getD 4 0),qad ((qat (ab.at_ 0).S).getD 5 0),qad ((qat (ab.at_ 0).S).getD 6 0),qad ((qat (ab.at_ 0).S).getD 7 0),qad ((qat (ab.at_ 0).S).getD 8 0),qad ((qat (ab.at_ 0).S).getD 9 0),qad ((qat (ab.at_ 0).S).getD 10 0),qad ((qat (ab.at_ 0).S).getD 11 0),qad ((qat (ab.at_ 0).S).getD 12 0),qad ((qat (ab.at_ 0).S).getD 13 0),qad ((qat (ab.at_ 0).S).getD 14 0),qad ((qat (ab.at_ 0).S).getD 15 0),.pointer none,.map none],true⟩,⟨dJ,0,[qad ((qat (ab.at_ 0).S).getD 0 0),qad ((qat (ab.at_ 0).S).getD 1 0),qad ((qat (ab.at_ 0).S).getD 2 0),qad ((qat (ab.at_ 0).S).getD 3 0),qad ((qat (ab.at_ 0).S).getD 4 0),qad ((qat (ab.at_ 0).S).getD 5 0),qad ((qat (ab.at_ 0).S).getD 6 0),qad ((qat (ab.at_ 0).S).getD 7 0),qad ((qat (ab.at_ 0).S).getD 8 0),qad ((qat (ab.at_ 0).S).getD 9 0),qad ((qat (ab.at_ 0).S).getD 10 0),qad ((qat (ab.at_ 0).S).getD 11 0),qad ((qat (ab.at_ 0).S).getD 12 0),qad ((qat (ab.at_ 0).S).getD 13 0),qad ((qat (ab.at_ 0).S).getD 14 0),qad ((qat (ab.at_ 0).S).getD 15 0)],true⟩] 2 [(2,.v (.bool false)),(7,.p 0 0),(8,.v (.int .i16 v)),(9,.v (.bool (decide (v ≥ 9)))),(10,.p 1 0),(12,.v (.slice (some ⟨ac,0,none⟩) ((lst (T.at_ 0)).length) ag)),(13,.v (.int .i32 (((lst (T.at_ 0)).length:Nat):Int))),(14,.v (.int .i32 ((ae:Nat):Int))),(16,.p 3 0)] bQ fun _ _ bR=>?_
      clear bQ
      have eB:=RS.dropT (tb:=[⟨bv,0,[.int .i16 v,.slice none 0 0,.bool false,.bool false,.bool false,.map none],true⟩,qbu ac 18 (.agg #[.int .u8 0,.int .u8 0,.int .u8 0,.int .u8 0,.int .u8 0,.int .u8 0,.int .u8 0,.int .u8 0,.int .u8 0,.int .u8 0,.int .u8 0,.int .u8 0,.int .u8 0,.int .u8 0,.int .u8 0,.int .u8 0,.pointer none,.map none]) ((lst (T.at_ 0)).length) (ae + 1),⟨ac,ae * 18,[qad ((qat (ab.at_ 0).S).getD 0 0),qad ((qat (ab.at_ 0).S).getD 1 0),qad ((qat (ab.at_ 0).S).getD 2 0),qad ((qat (ab.at_ 0).S).getD 3 0),qad ((qat (ab.at_ 0).S).getD 4 0),qad ((qat (ab.at_ 0).S).getD 5 0),qad ((qat (ab.at_ 0).S).getD 6 0),qad ((qat (ab.at_ 0).S).getD 7 0),qad ((qat (ab.at_ 0).S).getD 8 0),qad ((qat (ab.at_ 0).S).getD 9 0),qad ((qat (ab.at_ 0).S).getD 10 0),qad ((qat (ab.at_ 0).S).getD 11 0),qad ((qat (ab.at_ 0).S).getD 12 0),qad ((qat (ab.at_ 0).S).getD 13 0),qad ((qat (ab.at_ 0).S).getD 14 0),qad ((qat (ab.at_ 0).S).getD 15 0),.pointer none,.map none],true⟩]) bR hb_b122 kz
      clear bR
      refine qab ?_
      exact ⟨dvO none (qat (ab.at_ 0).S) 0,_,fun w F h_=>⟨h_,qey _,⟨fun _=>rfl,(fun e_=>by rw [ax] at e_; cases e_)⟩⟩,eB.pk (env':=[(2,.v (.bool false)),(7,.p 0 0),(8,.v (.int .i16 v)),(9,.v (.bool (decide (v ≥ 9)))),(10,.p 1 0),(12,.v (.slice (some ⟨ac,0,none⟩) ((lst (T.at_ 0)).length) ag)),(13,.v (.int .i32 (((lst (T.at_ 0)).length:Nat):Int))),(14,.v (.int .i32 ((ae:Nat):Int))),(16,.p 3 0)])⟩
     have bS:=aw.cast (t:=[] ++ aW) (by rw [if_neg (by rw [ax]; decide)])
     clear aw
     have eC:=bS.cast (t:=aW) rfl
     clear bS
     refine wp_skip (qab ?_)
     exact ⟨dvO none (List.replicate 16 0) 0,_,fun w F h_=>⟨h_,rfl,⟨(fun e_=>by rw [ax] at e_; cases e_),fun _=>rfl⟩⟩,eC.pk (env':=[(2,.v (.bool false)),(7,.p 0 0),(8,.v (.int .i16 v)),(9,.v (.bool (decide (v ≥ 9)))),(10,.p 1 0),(12,.v (.slice (some ⟨ac,0,none⟩) ((lst (T.at_ 0)).length) ag)),(13,.v (.int .i32 (((lst (T.at_ 0)).length:Nat):Int))),(14,.v (.int .i32 ((ae:Nat):Int))),(16,.p 3 0)])⟩
    rintro _ _ ⟨aa,eD,aQ,bT⟩
    refine qab ?_
    refine wp_seq ?_
    refine wp_seq ?_
    refine qbS [(2,.v (.bool false)),(7,.p 0 0),(8,.v (.int .i16 v)),(9,.v (.bool (decide (v ≥ 9)))),(10,.p 1 0),(12,.v (.slice (some ⟨ac,0,none⟩) ((lst (T.at_ 0)).length) ag)),(13,.v (.int .i32 (((lst (T.at_ 0)).length:Nat):Int))),(14,.v (.int .i32 ((ae:Nat):Int))),(16,.p 3 0)] bT fun _ bU=>?_
    clear bT
    refine qab ?_
    refine wp_seq ?_
    have bV:=bU.cast bB
    clear bU
    refine qch (Mid:=fun a_ w_=>∃ (ar:Option Addr) (P':qbZ),(∀ w F,P' w F → eD w F ∧ qjg ar (qbb (ab.at_ 1)) w F ∧ ((decide (v ≥ 10) = true → ar.isNone = (ab.at_ 1).null) ∧ (decide (v ≥ 10) = false → ar.isNone = false))) ∧ RS w (fun b o=>b = bv ∧ o < 6) F 140 aT [⟨bv,0,[.int .i16 v,.slice none 0 0,.bool false,.bool false,.bool false,.map none],true⟩,qbu ac 18 (.agg #[.int .u8 0,.int .u8 0,.int .u8 0,.int .u8 0,.int .u8 0,.int .u8 0,.int .u8 0,.int .u8 0,.int .u8 0,.int .u8 0,.int .u8 0,.int .u8 0,.int .u8 0,.int .u8 0,.int .u8 0,.int .u8 0,.pointer none,.map none]) ((lst (T.at_ 0)).length) (ae + 1),⟨ac,ae * 18,[qad (aa.o.getD 0 0),qad (aa.o.getD 1 0),qad (aa.o.getD 2 0),qad (aa.o.getD 3 0),qad (aa.o.getD 4 0),qad (aa.o.getD 5 0),qad (aa.o.getD 6 0),qad (aa.o.getD 7 0),qad (aa.o.getD 8 0),qad (aa.o.getD 9 0),qad (aa.o.getD 10 0),qad (aa.o.getD 11 0),qad (aa.o.getD 12 0),qad (aa.o.getD 13 0),qad (aa.o.getD 14 0),qad (aa.o.getD 15 0),.pointer none,.map none],true⟩] [(2,.v (.bool false)),(7,.p 0 0),(8,.v (.int .i16 v)),(9,.v (.bool (decide (v ≥ 9)))),(10,.p 1 0),(12,.v (.slice (some ⟨ac,0,none⟩) ((lst (T.at_ 0)).length) ag)),(13,.v (.int .i32 (((lst (T.at_ 0)).length:Nat):Int))),(14,.v (.int .i32 ((ae:Nat):Int))),(16,.p 3 0),(18,.v (.pointer ar))] P' bq a_ w_) ?_ ?_
    ·
     refine wp_seq ?_
     refine qbS [(2,.v (.bool false)),(7,.p 0 0),(8,.v (.int .i16 v)),(9,.v (.bool (decide (v ≥ 9)))),(10,.p 1 0),(12,.v (.slice (some ⟨ac,0,none⟩) ((lst (T.at_ 0)).length) ag)),(13,.v (.int .i32 (((lst (T.at_ 0)).length:Nat):Int))),(14,.v (.int .i32 ((ae:Nat):Int))),(16,.p 3 0),(80,.v (.bool (decide (v < 10))))] bV fun _ ay=>qab ?_
     clear bV
     refine qas ay.env_ (b:=decide (v < 10)) kz (fun al=>?_) (fun al=>?_)
     ·
      have bW:=ay.cast (t:=(if (decide (v ≥ 9)) = true then (uv ((qbb (ab.at_ 1)).length + 1) ++ (qbb (ab.at_ 1))) else (be 2 (qbb (ab.at_ 1)).length ++ (qbb (ab.at_ 1)))) ++ bq) (by rw [if_neg (by have h_:=of_decide_eq_true al; simp only [decide_eq_true_eq]; omega)])
      clear ay
      refine wp_seq ?_
      refine qap [0] kz ?_
      refine qak (qhu (d:=19) [.string ByteArray.empty] bW fun au _ _ hb_b140 bX=>?_)
      clear bW
      have bY:=(bX.tbEq (tb':=[⟨bv,0,[.int .i16 v,.slice none 0 0,.bool false,.bool false,.bool false,.map none],true⟩,qbu ac 18 (.agg #[.int .u8 0,.int .u8 0,.int .u8 0,.int .u8 0,.int .u8 0,.int .u8 0,.int .u8 0,.int .u8 0,.int .u8 0,.int .u8 0,.int .u8 0,.int .u8 0,.int .u8 0,.int .u8 0,.int .u8 0,.int .u8 0,.pointer none,.map none]) ((lst (T.at_ 0)).length) (ae + 1),⟨ac,ae * 18,[qad (aa.o.getD 0 0),qad (aa.o.getD 1 0),qad (aa.o.getD 2 0),qad (aa.o.getD 3 0),qad (aa.o.getD 4 0),qad (aa.o.getD 5 0),qad (aa.o.getD 6 0),qad (aa.o.getD 7 0),qad (aa.o.getD 8 0),qad (aa.o.getD 9 0),qad (aa.o.getD 10 0),qad (aa.o.getD 11 0),qad (aa.o.getD 12 0),qad (aa.o.getD 13 0),qad (aa.o.getD 14 0),qad (aa.o.getD 15 0),.pointer none,.map none],true⟩,⟨au,0,[.string ByteArray.empty],true⟩]) rfl).pk (env':=[(2,.v (.bool false)),(7,.p 0 0),(8,.v (.int .i16 v)),(9,.v (.bool (decide (v ≥ 9)))),(10,.p 1 0),(12,.v (.slice (some ⟨ac,0,none⟩) ((lst (T.at_ 0)).length) ag)),(13,.v (.int .i32 (((lst (T.at_ 0)).length:Nat):Int))),(14,.v (.int .i32 ((ae:Nat):Int))),(16,.p 3 0),(80,.v (.bool (decide (v < 10)))),(19,.p 4 0)])
      clear bX
      refine qaf ?_
      have bZ:=bY.pk (env':=[(2,.v (.bool false)),(7,.p 0 0),(8,.v (.int .i16 v)),(9,.v (.bool (decide (v ≥ 9)))),(10,.p 1 0),(12,.v (.slice (some ⟨ac,0,none⟩) ((lst (T.at_ 0)).length) ag)),(13,.v (.int .i32 (((lst (T.at_ 0)).length:Nat):Int))),(14,.v (.int .i32 ((ae:Nat):Int))),(16,.p 3 0),(19,.p 4 0)])
      clear bY
      refine qab ?_
      refine wp_seq ?_
      refine wp_seq ?_
      refine qbS [(2,.v (.bool false)),(7,.p 0 0),(8,.v (.int .i16 v)),(9,.v (.bool (decide (v ≥ 9)))),(10,.p 1 0),(12,.v (.slice (some ⟨ac,0,none⟩) ((lst (T.at_ 0)).length) ag)),(13,.v (.int .i32 (((lst (T.at_ 0)).length:Nat):Int))),(14,.v (.int .i32 ((ae:Nat):Int))),(16,.p 3 0),(19,.p 4 0),(81,.v (.bool (decide (v ≥ 9))))] bZ fun _ az=>qab ?_
      clear bZ
      refine qas az.env_ (b:=decide (v ≥ 9)) kz (fun aY=>?_) (fun aY=>?_)
      ·
       have b8:=az.cast (t:=(uv ((qbb (ab.at_ 1)).length + 1) ++ (qbb (ab.at_ 1))) ++ bq) (by rw [if_pos aY])
       clear az
       refine wp_seq ?_
       refine qbS [(2,.v (.bool false)),(7,.p 0 0),(8,.v (.int .i16 v)),(9,.v (.bool (decide (v ≥ 9)))),(10,.p 1 0),(12,.v (.slice (some ⟨ac,0,none⟩) ((lst (T.at_ 0)).length) ag)),(13,.v (.int .i32 (((lst (T.at_ 0)).length:Nat):Int))),(14,.v (.int .i32 ((ae:Nat):Int))),(16,.p 3 0),(19,.p 4 0),(82,.v (.bool false))] b8 fun _ aZ=>qab ?_
       clear b8
       refine qao aZ.env_ (b:=false) kz (rfl) ?_
       refine qap [0,1] kz ?_
       refine qak (qeL (d:=84) aZ (qfe (qbb (ab.at_ 1)) e97_1 _) Tryz.call153 fun _ _ cd=>?_)
       clear aZ
       refine qak (qd5 [⟨bv,0,[.int .i16 v,.slice none 0 0,.bool false,.bool false,.bool false,.map none],true⟩,qbu ac 18 (.agg #[.int .u8 0,.int .u8 0,.int .u8 0,.int .u8 0,.int .u8 0,.int .u8 0,.int .u8 0,.int .u8 0,.int .u8 0,.int .u8 0,.int .u8 0,.int .u8 0,.int .u8 0,.int .u8 0,.int .u8 0,.int .u8 0,.pointer none,.map none]) ((lst (T.at_ 0)).length) (ae + 1),⟨ac,ae * 18,[qad (aa.o.getD 0 0),qad (aa.o.getD 1 0),qad (aa.o.getD 2 0),qad (aa.o.getD 3 0),qad (aa.o.getD 4 0),qad (aa.o.getD 5 0),qad (aa.o.getD 6 0),qad (aa.o.getD 7 0),qad (aa.o.getD 8 0),qad (aa.o.getD 9 0),qad (aa.o.getD 10 0),qad (aa.o.getD 11 0),qad (aa.o.getD 12 0),qad (aa.o.getD 13 0),qad (aa.o.getD 14 0),qad (aa.o.getD 15 0),.pointer none,.map none],true⟩,⟨au,0,[.string (bs (qbb (ab.at_ 1)))],true⟩] 3 cd fun _ ce=>?_)
       clear cd
       refine qaf ?_
       have cm:=ce.pk (env':=[(2,.v (.bool false)),(7,.p 0 0),(8,.v (.int .i16 v)),(9,.v (.bool (decide (v ≥ 9)))),(10,.p 1 0),(12,.v (.slice (some ⟨ac,0,none⟩) ((lst (T.at_ 0)).length) ag)),(13,.v (.int .i32 (((lst (T.at_ 0)).length:Nat):Int))),(14,.v (.int .i32 ((ae:Nat):Int))),(16,.p 3 0),(19,.p 4 0)])
       clear ce
       refine qab ?_
       refine qbS [(2,.v (.bool false)),(7,.p 0 0),(8,.v (.int .i16 v)),(9,.v (.bool (decide (v ≥ 9)))),(10,.p 1 0),(12,.v (.slice (some ⟨ac,0,none⟩) ((lst (T.at_ 0)).length) ag)),(13,.v (.int .i32 (((lst (T.at_ 0)).length:Nat):Int))),(14,.v (.int .i32 ((ae:Nat):Int))),(16,.p 3 0),(18,.p 4 0)] cm fun _ eE=>?_
       clear cm
       refine qab ?_
       have eF:=(eE.recast 18 (.p 4 0) (.v (.pointer (some ⟨au,0,none⟩))) rfl rfl trivial).pk (env':=[(2,.v (.bool false)),(7,.p 0 0),(8,.v (.int .i16 v)),(9,.v (.bool (decide (v ≥ 9)))),(10,.p 1 0),(12,.v (.slice (some ⟨ac,0,none⟩) ((lst (T.at_ 0)).length) ag)),(13,.v (.int .i32 (((lst (T.at_ 0)).length:Nat):Int))),(14,.v (.int .i32 ((ae:Nat):Int))),(16,.p 3 0),(18,.v (.pointer (some ⟨au,0,none⟩)))])
       have eG:=RS.drop (tb:=[⟨bv,0,[.int .i16 v,.slice none 0 0,.bool false,.bool false,.bool false,.map none],true⟩,qbu ac 18 (.agg #[.int .u8 0,.int .u8 0,.int .u8 0,.int .u8 0,.int .u8 0,.int .u8 0,.int .u8 0,.int .u8 0,.int .u8 0,.int .u8 0,.int .u8 0,.int .u8 0,.int .u8 0,.int .u8 0,.int .u8 0,.int .u8 0,.pointer none,.map none]) ((lst (T.at_ 0)).length) (ae + 1),⟨ac,ae * 18,[qad (aa.o.getD 0 0),qad (aa.o.getD 1 0),qad (aa.o.getD 2 0),qad (aa.o.getD 3 0),qad (aa.o.getD 4 0),qad (aa.o.getD 5 0),qad (aa.o.getD 6 0),qad (aa.o.getD 7 0),qad (aa.o.getD 8 0),qad (aa.o.getD 9 0),qad (aa.o.getD 10 0),qad (aa.o.getD 11 0),qad (aa.o.getD 12 0),qad (aa.o.getD 13 0),qad (aa.o.getD 14 0),qad (aa.o.getD 15 0),.pointer none,.map none],true⟩]) eF hb_b140 kz
       exact ⟨some ⟨au,0,none⟩,_,fun w F h_=>⟨h_.1,fun ad_ hd_=>by cases hd_; exact ⟨_,_,rfl,h_.2⟩,fun e_=>(by rw [show (decide (v ≥ 10)) = false from (decide_eq_false (by have h_:=of_decide_eq_true al; omega))] at e_; cases e_),fun _=>rfl⟩,eG⟩
      have cq:=az.cast (t:=(be 2 (qbb (ab.at_ 1)).length ++ (qbb (ab.at_ 1))) ++ bq) (by rw [if_neg (by rw [aY]; decide)])
      clear az
      refine wp_seq ?_
      refine qbS [(2,.v (.bool false)),(7,.p 0 0),(8,.v (.int .i16 v)),(9,.v (.bool (decide (v ≥ 9)))),(10,.p 1 0),(12,.v (.slice (some ⟨ac,0,none⟩) ((lst (T.at_ 0)).length) ag)),(13,.v (.int .i32 (((lst (T.at_ 0)).length:Nat):Int))),(14,.v (.int .i32 ((ae:Nat):Int))),(16,.p 3 0),(19,.p 4 0),(85,.v (.bool false))] cq fun _ ba=>qab ?_
      clear cq
      refine qao ba.env_ (b:=false) kz (rfl) ?_
      refine qap [0,1] kz ?_
      refine qak (qeL (d:=87) ba (qk8 (qbb (ab.at_ 1)) e97_1 _) Tryz.call154 fun _ _ cr=>?_)
      clear ba
      refine qak (qd5 [⟨bv,0,[.int .i16 v,.slice none 0 0,.bool false,.bool false,.bool false,.map none],true⟩,qbu ac 18 (.agg #[.int .u8 0,.int .u8 0,.int .u8 0,.int .u8 0,.int .u8 0,.int .u8 0,.int .u8 0,.int .u8 0,.int .u8 0,.int .u8 0,.int .u8 0,.int .u8 0,.int .u8 0,.int .u8 0,.int .u8 0,.int .u8 0,.pointer none,.map none]) ((lst (T.at_ 0)).length) (ae + 1),⟨ac,ae * 18,[qad (aa.o.getD 0 0),qad (aa.o.getD 1 0),qad (aa.o.getD 2 0),qad (aa.o.getD 3 0),qad (aa.o.getD 4 0),qad (aa.o.getD 5 0),qad (aa.o.getD 6 0),qad (aa.o.getD 7 0),qad (aa.o.getD 8 0),qad (aa.o.getD 9 0),qad (aa.o.getD 10 0),qad (aa.o.getD 11 0),qad (aa.o.getD 12 0),qad (aa.o.getD 13 0),qad (aa.o.getD 14 0),qad (aa.o.getD 15 0),.pointer none,.map none],true⟩,⟨au,0,[.string (bs (qbb (ab.at_ 1)))],true⟩] 3 cr fun _ cu=>?_)
      clear cr
      refine qaf ?_
      have cw:=cu.pk (env':=[(2,.v (.bool false)),(7,.p 0 0),(8,.v (.int .i16 v)),(9,.v (.bool (decide (v ≥ 9)))),(10,.p 1 0),(12,.v (.slice (some ⟨ac,0,none⟩) ((lst (T.at_ 0)).length) ag)),(13,.v (.int .i32 (((lst (T.at_ 0)).length:Nat):Int))),(14,.v (.int .i32 ((ae:Nat):Int))),(16,.p 3 0),(19,.p 4 0)])
      clear cu
      refine qab ?_
      refine qbS [(2,.v (.bool false)),(7,.p 0 0),(8,.v (.int .i16 v)),(9,.v (.bool (decide (v ≥ 9)))),(10,.p 1 0),(12,.v (.slice (some ⟨ac,0,none⟩) ((lst (T.at_ 0)).length) ag)),(13,.v (.int .i32 (((lst (T.at_ 0)).length:Nat):Int))),(14,.v (.int .i32 ((ae:Nat):Int))),(16,.p 3 0),(18,.p 4 0)] cw fun _ eH=>?_
      clear cw
      refine qab ?_
      have eI:=(eH.recast 18 (.p 4 0) (.v (.pointer (some ⟨au,0,none⟩))) rfl rfl trivial).pk (env':=[(2,.v (.bool false)),(7,.p 0 0),(8,.v (.int .i16 v)),(9,.v (.bool (decide (v ≥ 9)))),(10,.p 1 0),(12,.v (.slice (some ⟨ac,0,none⟩) ((lst (T.at_ 0)).length) ag)),(13,.v (.int .i32 (((lst (T.at_ 0)).length:Nat):Int))),(14,.v (.int .i32 ((ae:Nat):Int))),(16,.p 3 0),(18,.v (.pointer (some ⟨au,0,none⟩)))])
      have eJ:=RS.drop (tb:=[⟨bv,0,[.int .i16 v,.slice none 0 0,.bool false,.bool false,.bool false,.map none],true⟩,qbu ac 18 (.agg #[.int .u8 0,.int .u8 0,.int .u8 0,.int .u8 0,.int .u8 0,.int .u8 0,.int .u8 0,.int .u8 0,.int .u8 0,.int .u8 0,.int .u8 0,.int .u8 0,.int .u8 0,.int .u8 0,.int .u8 0,.int .u8 0,.pointer none,.map none]) ((lst (T.at_ 0)).length) (ae + 1),⟨ac,ae * 18,[qad (aa.o.getD 0 0),qad (aa.o.getD 1 0),qad (aa.o.getD 2 0),qad (aa.o.getD 3 0),qad (aa.o.getD 4 0),qad (aa.o.getD 5 0),qad (aa.o.getD 6 0),qad (aa.o.getD 7 0),qad (aa.o.getD 8 0),qad (aa.o.getD 9 0),qad (aa.o.getD 10 0),qad (aa.o.getD 11 0),qad (aa.o.getD 12 0),qad (aa.o.getD 13 0),qad (aa.o.getD 14 0),qad (aa.o.getD 15 0),.pointer none,.map none],true⟩]) eI hb_b140 kz
      exact ⟨some ⟨au,0,none⟩,_,fun w F h_=>⟨h_.1,fun ad_ hd_=>by cases hd_; exact ⟨_,_,rfl,h_.2⟩,fun e_=>(by rw [show (decide (v ≥ 10)) = false from (decide_eq_false (by have h_:=of_decide_eq_true al; omega))] at e_; cases e_),fun _=>rfl⟩,eJ⟩
     have cz:=ay.cast (t:=(if (decide (v ≥ 9)) = true then (if (ab.at_ 1).null = true then uv 0 else uv ((qbb (ab.at_ 1)).length + 1) ++ (qbb (ab.at_ 1))) else (if (ab.at_ 1).null = true then be 2 (-1) else be 2 (qbb (ab.at_ 1)).length ++ (qbb (ab.at_ 1)))) ++ bq) (by rw [if_pos (by have h_:=of_decide_eq_false al; simp only [decide_eq_true_eq]; omega)])
     clear ay
     refine qch (Mid:=fun a_ w_=>∃ (aM:Option Addr) (P':qbZ),(∀ w F,P' w F → eD w F ∧ qjg aM (qbb (ab.at_ 1)) w F ∧ ((decide (v ≥ 10) = true → aM.isNone = (ab.at_ 1).null) ∧ (decide (v ≥ 10) = false → aM.isNone = false))) ∧ RS w (fun b o=>b = bv ∧ o < 6) F 140 aT [⟨bv,0,[.int .i16 v,.slice none 0 0,.bool false,.bool false,.bool false,.map none],true⟩,qbu ac 18 (.agg #[.int .u8 0,.int .u8 0,.int .u8 0,.int .u8 0,.int .u8 0,.int .u8 0,.int .u8 0,.int .u8 0,.int .u8 0,.int .u8 0,.int .u8 0,.int .u8 0,.int .u8 0,.int .u8 0,.int .u8 0,.int .u8 0,.pointer none,.map none]) ((lst (T.at_ 0)).length) (ae + 1),⟨ac,ae * 18,[qad (aa.o.getD 0 0),qad (aa.o.getD 1 0),qad (aa.o.getD 2 0),qad (aa.o.getD 3 0),qad (aa.o.getD 4 0),qad (aa.o.getD 5 0),qad (aa.o.getD 6 0),qad (aa.o.getD 7 0),qad (aa.o.getD 8 0),qad (aa.o.getD 9 0),qad (aa.o.getD 10 0),qad (aa.o.getD 11 0),qad (aa.o.getD 12 0),qad (aa.o.getD 13 0),qad (aa.o.getD 14 0),qad (aa.o.getD 15 0),.pointer none,.map none],true⟩] [(2,.v (.bool false)),(7,.p 0 0),(8,.v (.int .i16 v)),(9,.v (.bool (decide (v ≥ 9)))),(10,.p 1 0),(12,.v (.slice (some ⟨ac,0,none⟩) ((lst (T.at_ 0)).length) ag)),(13,.v (.int .i32 (((lst (T.at_ 0)).length:Nat):Int))),(14,.v (.int .i32 ((ae:Nat):Int))),(16,.p 3 0),(18,.v (.pointer aM))] P' bq a_ w_) ?_ ?_
     ·
      refine wp_seq ?_
      refine qbS [(2,.v (.bool false)),(7,.p 0 0),(8,.v (.int .i16 v)),(9,.v (.bool (decide (v ≥ 9)))),(10,.p 1 0),(12,.v (.slice (some ⟨ac,0,none⟩) ((lst (T.at_ 0)).length) ag)),(13,.v (.int .i32 (((lst (T.at_ 0)).length:Nat):Int))),(14,.v (.int .i32 ((ae:Nat):Int))),(16,.p 3 0),(88,.v (.bool (decide (v ≥ 9))))] cz fun _ aA=>qab ?_
      clear cz
      refine qas aA.env_ (b:=decide (v ≥ 9)) kz (fun bd=>?_) (fun bd=>?_)
      ·
       have cA:=aA.cast (t:=(if (ab.at_ 1).null = true then uv 0 else uv ((qbb (ab.at_ 1)).length + 1) ++ (qbb (ab.at_ 1))) ++ bq) (by rw [if_pos bd])
       clear aA
       refine wp_seq ?_
       refine qbS [(2,.v (.bool false)),(7,.p 0 0),(8,.v (.int .i16 v)),(9,.v (.bool (decide (v ≥ 9)))),(10,.p 1 0),(12,.v (.slice (some ⟨ac,0,none⟩) ((lst (T.at_ 0)).length) ag)),(13,.v (.int .i32 (((lst (T.at_ 0)).length:Nat):Int))),(14,.v (.int .i32 ((ae:Nat):Int))),(16,.p 3 0),(89,.v (.bool false))] cA fun _ bf=>qab ?_
       clear cA
       refine qao bf.env_ (b:=false) kz (rfl) ?_
       refine qlA (d:=91) (fun bt=>[(2,.v (.bool false)),(7,.p 0 0),(8,.v (.int .i16 v)),(9,.v (.bool (decide (v ≥ 9)))),(10,.p 1 0),(12,.v (.slice (some ⟨ac,0,none⟩) ((lst (T.at_ 0)).length) ag)),(13,.v (.int .i32 (((lst (T.at_ 0)).length:Nat):Int))),(14,.v (.int .i32 ((ae:Nat):Int))),(16,.p 3 0),(18,.v (.pointer bt))]) bf (qc2 (ab.at_ 1).null (qbb (ab.at_ 1)) e97_1 _) (fun _=>(MvF.text _ _).and (MvF.is _)) Tryz.call143 fun bt fJ _ _ bg eK=>?_
       clear bf
       refine qab ?_
       exact ⟨bt,_,fun w F h_=>⟨(bg _ _ h_).1,(bg _ _ h_).2.1,fun _=>(bg _ _ h_).2.2,fun e_=>(by rw [show (decide (v ≥ 10)) = true from (decide_eq_true (by have h_:=of_decide_eq_false al; omega))] at e_; cases e_)⟩,eK.pk (env':=[(2,.v (.bool false)),(7,.p 0 0),(8,.v (.int .i16 v)),(9,.v (.bool (decide (v ≥ 9)))),(10,.p 1 0),(12,.v (.slice (some ⟨ac,0,none⟩) ((lst (T.at_ 0)).length) ag)),(13,.v (.int .i32 (((lst (T.at_ 0)).length:Nat):Int))),(14,.v (.int .i32 ((ae:Nat):Int))),(16,.p 3 0),(18,.v (.pointer bt))])⟩
      have cB:=aA.cast (t:=(if (ab.at_ 1).null = true then be 2 (-1) else be 2 (qbb (ab.at_ 1)).length ++ (qbb (ab.at_ 1))) ++ bq) (by rw [if_neg (by rw [bd]; decide)])
      clear aA
      refine wp_seq ?_
      refine qbS [(2,.v (.bool false)),(7,.p 0 0),(8,.v (.int .i16 v)),(9,.v (.bool (decide (v ≥ 9)))),(10,.p 1 0),(12,.v (.slice (some ⟨ac,0,none⟩) ((lst (T.at_ 0)).length) ag)),(13,.v (.int .i32 (((lst (T.at_ 0)).length:Nat):Int))),(14,.v (.int .i32 ((ae:Nat):Int))),(16,.p 3 0),(92,.v (.bool false))] cB fun _ bh=>qab ?_
      clear cB
      refine qao bh.env_ (b:=false) kz (rfl) ?_
      refine qlA (d:=94) (fun bu=>[(2,.v (.bool false)),(7,.p 0 0),(8,.v (.int .i16 v)),(9,.v (.bool (decide (v ≥ 9)))),(10,.p 1 0),(12,.v (.slice (some ⟨ac,0,none⟩) ((lst (T.at_ 0)).length) ag)),(13,.v (.int .i32 (((lst (T.at_ 0)).length:Nat):Int))),(14,.v (.int .i32 ((ae:Nat):Int))),(16,.p 3 0),(18,.v (.pointer bu))]) bh (qe9 (ab.at_ 1).null (qbb (ab.at_ 1)) e97_1 _) (fun _=>(MvF.text _ _).and (MvF.is _)) Tryz.call145 fun bu fK _ _ bi eL=>?_
      clear bh
      refine qab ?_
      exact ⟨bu,_,fun w F h_=>⟨(bi _ _ h_).1,(bi _ _ h_).2.1,fun _=>(bi _ _ h_).2.2,fun e_=>(by rw [show (decide (v ≥ 10)) = true from (decide_eq_true (by have h_:=of_decide_eq_false al; omega))] at e_; cases e_)⟩,eL.pk (env':=[(2,.v (.bool false)),(7,.p 0 0),(8,.v (.int .i16 v)),(9,.v (.bool (decide (v ≥ 9)))),(10,.p 1 0),(12,.v (.slice (some ⟨ac,0,none⟩) ((lst (T.at_ 0)).length) ag)),(13,.v (.int .i32 (((lst (T.at_ 0)).length:Nat):Int))),(14,.v (.int .i32 ((ae:Nat):Int))),(16,.p 3 0),(18,.v (.pointer bu))])⟩
     rintro _ _ ⟨aM,fL,cC,eM⟩
     refine qab ?_
     exact ⟨aM,_,fun w F h_=>⟨(cC _ _ h_).1,(cC _ _ h_).2⟩,eM.pk (env':=[(2,.v (.bool false)),(7,.p 0 0),(8,.v (.int .i16 v)),(9,.v (.bool (decide (v ≥ 9)))),(10,.p 1 0),(12,.v (.slice (some ⟨ac,0,none⟩) ((lst (T.at_ 0)).length) ag)),(13,.v (.int .i32 (((lst (T.at_ 0)).length:Nat):Int))),(14,.v (.int .i32 ((ae:Nat):Int))),(16,.p 3 0),(18,.v (.pointer aM))])⟩
    rintro _ _ ⟨ar,fw,ao,cD⟩
    refine qab ?_
    refine qfv [⟨bv,0,[.int .i16 v,.slice none 0 0,.bool false,.bool false,.bool false,.map none],true⟩,qbu ac 18 (.agg #[.int .u8 0,.int .u8 0,.int .u8 0,.int .u8 0,.int .u8 0,.int .u8 0,.int .u8 0,.int .u8 0,.int .u8 0,.int .u8 0,.int .u8 0,.int .u8 0,.int .u8 0,.int .u8 0,.int .u8 0,.int .u8 0,.pointer none,.map none]) ((lst (T.at_ 0)).length) (ae + 1),⟨ac,ae * 18,[qad (aa.o.getD 0 0),qad (aa.o.getD 1 0),qad (aa.o.getD 2 0),qad (aa.o.getD 3 0),qad (aa.o.getD 4 0),qad (aa.o.getD 5 0),qad (aa.o.getD 6 0),qad (aa.o.getD 7 0),qad (aa.o.getD 8 0),qad (aa.o.getD 9 0),qad (aa.o.getD 10 0),qad (aa.o.getD 11 0),qad (aa.o.getD 12 0),qad (aa.o.getD 13 0),qad (aa.o.getD 14 0),qad (aa.o.getD 15 0),.pointer ar,.map none],true⟩] 2 [(2,.v (.bool false)),(7,.p 0 0),(8,.v (.int .i16 v)),(9,.v (.bool (decide (v ≥ 9)))),(10,.p 1 0),(12,.v (.slice (some ⟨ac,0,none⟩) ((lst (T.at_ 0)).length) ag)),(13,.v (.int .i32 (((lst (T.at_ 0)).length:Nat):Int))),(14,.v (.int .i32 ((ae:Nat):Int))),(16,.p 3 0)] cD fun _ _ cE=>?_
    clear cD
    refine qab ?_
    have cG:=cE.cast ez
    clear cE
    refine qch (Mid:=fun a_ w_=>∃ (bw:Option Nat) (aN:List (Int × Bs)) (P':qbZ),(∀ w F,P' w F → fw w F ∧ (MapR w F bw aN ∧ aN.length ≤ 1000000 ∧ ∀ x ∈ aN,x.2.length < 4294967296) ∧ ((decide (v ≥ 9)) = true → aN = ab.U) ∧ ((decide (v ≥ 9)) = false → aN = [])) ∧ RS w (fun b o=>b = bv ∧ o < 6) F 140 aT [⟨bv,0,[.int .i16 v,.slice none 0 0,.bool false,.bool false,.bool false,.map none],true⟩,qbu ac 18 (.agg #[.int .u8 0,.int .u8 0,.int .u8 0,.int .u8 0,.int .u8 0,.int .u8 0,.int .u8 0,.int .u8 0,.int .u8 0,.int .u8 0,.int .u8 0,.int .u8 0,.int .u8 0,.int .u8 0,.int .u8 0,.int .u8 0,.pointer none,.map none]) ((lst (T.at_ 0)).length) (ae + 1),⟨ac,ae * 18,[qad (aa.o.getD 0 0),qad (aa.o.getD 1 0),qad (aa.o.getD 2 0),qad (aa.o.getD 3 0),qad (aa.o.getD 4 0),qad (aa.o.getD 5 0),qad (aa.o.getD 6 0),qad (aa.o.getD 7 0),qad (aa.o.getD 8 0),qad (aa.o.getD 9 0),qad (aa.o.getD 10 0),qad (aa.o.getD 11 0),qad (aa.o.getD 12 0),qad (aa.o.getD 13 0),qad (aa.o.getD 14 0),qad (aa.o.getD 15 0),.pointer ar,.map bw],true⟩] [(2,.v (.bool false)),(7,.p 0 0),(8,.v (.int .i16 v)),(9,.v (.bool (decide (v ≥ 9)))),(10,.p 1 0),(12,.v (.slice (some ⟨ac,0,none⟩) ((lst (T.at_ 0)).length) ag)),(13,.v (.int .i32 (((lst (T.at_ 0)).length:Nat):Int))),(14,.v (.int .i32 ((ae:Nat):Int)))] P' ew a_ w_) ?_ ?_
    ·
     refine wp_seq ?_
     refine qbS [(2,.v (.bool false)),(7,.p 0 0),(8,.v (.int .i16 v)),(9,.v (.bool (decide (v ≥ 9)))),(10,.p 1 0),(12,.v (.slice (some ⟨ac,0,none⟩) ((lst (T.at_ 0)).length) ag)),(13,.v (.int .i32 (((lst (T.at_ 0)).length:Nat):Int))),(14,.v (.int .i32 ((ae:Nat):Int))),(16,.p 3 0),(99,.v (.bool (decide (v ≥ 9))))] cG fun _ aB=>qab ?_
     clear cG
     refine qas aB.env_ (b:=decide (v ≥ 9)) kz (fun aC=>?_) (fun aC=>?_)
     ·
      have cH:=aB.cast (t:=((uv ab.U.length) ++ (qcC ab.U)) ++ ew) (by rw [if_pos aC])
      clear aB
      refine qap [0,1,2,3,4] kz ?_
      refine qct [0] [1,2,3,4] [(2,.v (.bool false)),(7,.p 0 0),(8,.v (.int .i16 v)),(9,.v (.bool (decide (v ≥ 9)))),(10,.p 1 0),(12,.v (.slice (some ⟨ac,0,none⟩) ((lst (T.at_ 0)).length) ag)),(13,.v (.int .i32 (((lst (T.at_ 0)).length:Nat):Int))),(14,.v (.int .i32 ((ae:Nat):Int))),(100,.p 3 0)] cH fun _ cI=>?_
      clear cH
      refine qak (qg0 (d:=101) cI (qlE ab.U e97_U (qfN e97r) _) (fun _=>MvF.tags _ _) Tryz.call156 fun dK fM _ _ cJ cK=>?_)
      clear cI
      refine qct [2,3] [4] [(2,.v (.bool false)),(7,.p 0 0),(8,.v (.int .i16 v)),(9,.v (.bool (decide (v ≥ 9)))),(10,.p 1 0),(12,.v (.slice (some ⟨ac,0,none⟩) ((lst (T.at_ 0)).length) ag)),(13,.v (.int .i32 (((lst (T.at_ 0)).length:Nat):Int))),(14,.v (.int .i32 ((ae:Nat):Int))),(101,.v (.agg #[.map dK])),(103,.p 3 17)] cK fun _ cL=>?_
      clear cK
      refine qak (qd5 [⟨bv,0,[.int .i16 v,.slice none 0 0,.bool false,.bool false,.bool false,.map none],true⟩,qbu ac 18 (.agg #[.int .u8 0,.int .u8 0,.int .u8 0,.int .u8 0,.int .u8 0,.int .u8 0,.int .u8 0,.int .u8 0,.int .u8 0,.int .u8 0,.int .u8 0,.int .u8 0,.int .u8 0,.int .u8 0,.int .u8 0,.int .u8 0,.pointer none,.map none]) ((lst (T.at_ 0)).length) (ae + 1),⟨ac,ae * 18,[qad (aa.o.getD 0 0),qad (aa.o.getD 1 0),qad (aa.o.getD 2 0),qad (aa.o.getD 3 0),qad (aa.o.getD 4 0),qad (aa.o.getD 5 0),qad (aa.o.getD 6 0),qad (aa.o.getD 7 0),qad (aa.o.getD 8 0),qad (aa.o.getD 9 0),qad (aa.o.getD 10 0),qad (aa.o.getD 11 0),qad (aa.o.getD 12 0),qad (aa.o.getD 13 0),qad (aa.o.getD 14 0),qad (aa.o.getD 15 0),.pointer ar,.map dK],true⟩] 2 cL fun _ cM=>?_)
      clear cL
      refine qaf ?_
      have eN:=cM.pk (env':=[(2,.v (.bool false)),(7,.p 0 0),(8,.v (.int .i16 v)),(9,.v (.bool (decide (v ≥ 9)))),(10,.p 1 0),(12,.v (.slice (some ⟨ac,0,none⟩) ((lst (T.at_ 0)).length) ag)),(13,.v (.int .i32 (((lst (T.at_ 0)).length:Nat):Int))),(14,.v (.int .i32 ((ae:Nat):Int)))])
      clear cM
      refine qab ?_
      exact ⟨dK,ab.U,_,fun w F h_=>⟨(cJ _ _ h_).1,⟨(cJ _ _ h_).2,e97_U.2.1,e97_U.2.2⟩,⟨fun _=>rfl,(fun e_=>by rw [aC] at e_; cases e_)⟩⟩,eN.pk (env':=[(2,.v (.bool false)),(7,.p 0 0),(8,.v (.int .i16 v)),(9,.v (.bool (decide (v ≥ 9)))),(10,.p 1 0),(12,.v (.slice (some ⟨ac,0,none⟩) ((lst (T.at_ 0)).length) ag)),(13,.v (.int .i32 (((lst (T.at_ 0)).length:Nat):Int))),(14,.v (.int .i32 ((ae:Nat):Int)))])⟩
     have cN:=aB.cast (t:=[] ++ ew) (by rw [if_neg (by rw [aC]; decide)])
     clear aB
     have eO:=cN.cast (t:=ew) rfl
     clear cN
     refine wp_skip (qab ?_)
     exact ⟨none,[],_,fun w F h_=>⟨h_,⟨MapR.nil _ _,Nat.zero_le _,fun _ h=>by cases h⟩,⟨(fun e_=>by rw [aC] at e_; cases e_),fun _=>rfl⟩⟩,eO.pk (env':=[(2,.v (.bool false)),(7,.p 0 0),(8,.v (.int .i16 v)),(9,.v (.bool (decide (v ≥ 9)))),(10,.p 1 0),(12,.v (.slice (some ⟨ac,0,none⟩) ((lst (T.at_ 0)).length) ag)),(13,.v (.int .i32 (((lst (T.at_ 0)).length:Nat):Int))),(14,.v (.int .i32 ((ae:Nat):Int)))])⟩
    rintro _ _ ⟨bw,aN,fN,ai,cO⟩
    refine qaq ?_
    refine qab ?_
    refine qbS [(2,.v (.bool false)),(7,.p 0 0),(8,.v (.int .i16 v)),(9,.v (.bool (decide (v ≥ 9)))),(10,.p 1 0),(12,.v (.slice (some ⟨ac,0,none⟩) ((lst (T.at_ 0)).length) ag)),(13,.v (.int .i32 (((lst (T.at_ 0)).length:Nat):Int))),(14,.v (.int .i32 (IntKind.i32.wrap (((ae:Nat):Int) + 1))))] cO fun _ cP=>?_
    clear cO
    refine qab ?_
    have eP:=(cP.envEq (env':=[(2,.v (.bool false)),(7,.p 0 0),(8,.v (.int .i16 v)),(9,.v (.bool (decide (v ≥ 9)))),(10,.p 1 0),(12,.v (.slice (some ⟨ac,0,none⟩) ((lst (T.at_ 0)).length) ag)),(13,.v (.int .i32 (((lst (T.at_ 0)).length:Nat):Int))),(14,.v (.int .i32 ((ae + 1:Nat):Int)))]) (by rw [qj3 (by have:=e26_0; omega)])).pk (env':=[(2,.v (.bool false)),(7,.p 0 0),(8,.v (.int .i16 v)),(9,.v (.bool (decide (v ≥ 9)))),(10,.p 1 0),(12,.v (.slice (some ⟨ac,0,none⟩) ((lst (T.at_ 0)).length) ag)),(13,.v (.int .i32 (((lst (T.at_ 0)).length:Nat):Int))),(14,.v (.int .i32 ((ae + 1:Nat):Int)))])
    clear cP
    exact (RS.thing (tb:=[⟨bv,0,[.int .i16 v,.slice none 0 0,.bool false,.bool false,.bool false,.map none],true⟩]) (z:=.agg #[.int .u8 0,.int .u8 0,.int .u8 0,.int .u8 0,.int .u8 0,.int .u8 0,.int .u8 0,.int .u8 0,.int .u8 0,.int .u8 0,.int .u8 0,.int .u8 0,.int .u8 0,.int .u8 0,.int .u8 0,.int .u8 0,.pointer none,.map none]) (D:=(dvP bw aN [aa,dvT ar (bs (qbb (ab.at_ 1)))])) (eP.cast ey) hg_g75 dI qa4 bA rfl (fun w F h_=>⟨(eu _ _ (aQ _ _ (ao _ _ (ai _ _ h_).1).1).1).1,(eu _ _ (aQ _ _ (ao _ _ (ai _ _ h_).1).1).1).2,⟨((aQ _ _ (ao _ _ (ai _ _ h_).1).1).2.1),(⟨(ao _ _ (ai _ _ h_).1).2.1,by show ByteArray.size (bs _) ≤ 1000000; rw [qkP]; exact Nat.le_trans e97_1 (by decide)⟩),(ai _ _ h_).2.1.1,(ai _ _ h_).2.1.2.1,(ai _ _ h_).2.1.2.2,trivial⟩,⟨((aQ _ _ (ao _ _ (ai _ _ h_).1).1).2.2),(⟨rfl,(ao _ _ (ai _ _ h_).1).2.2⟩),(ai _ _ h_).2.2,trivial⟩⟩) kz)
   refine wp_seq ?_
   refine wp_seq ?_
   refine qbS [(2,.v (.bool false)),(7,.p 0 0),(8,.v (.int .i16 v)),(9,.v (.bool (decide (v ≥ 9)))),(10,.p 1 0),(12,.v (.slice (some ⟨ac,0,none⟩) ((lst (T.at_ 0)).length) ag)),(13,.v (.int .i32 (((lst (T.at_ 0)).length:Nat):Int))),(14,.v (.int .i32 (((lst (T.at_ 0)).length:Nat):Int))),(63,.v (.bool (decide ((((lst (T.at_ 0)).length:Nat):Int) < (((lst (T.at_ 0)).length:Nat):Int)))))] ep fun _ cQ=>qab ?_
   clear ep
   refine qao cQ.env_ (b:=decide ((((lst (T.at_ 0)).length:Nat):Int) < (((lst (T.at_ 0)).length:Nat):Int))) kz (decide_eq_false (by omega)) ?_
   refine wp_exit ?_
   refine qaB ?_
   refine qaB ?_
   refine qaL ?_
   refine qab ?_
   obtain ⟨fx,eQ⟩:=RS.listEnd (tb:=[⟨bv,0,[.int .i16 v,.slice none 0 0,.bool false,.bool false,.bool false,.map none],true⟩]) (c:=ag) (cQ.pk (env':=[(7,.p 0 0),(8,.v (.int .i16 v)),(9,.v (.bool (decide (v ≥ 9)))),(10,.p 1 0),(12,.v (.slice (some ⟨ac,0,none⟩) ((lst (T.at_ 0)).length) ag))])) hg_g75 qa4 bA hcap_g75 (by have:=e26_0; omega) hn_g75 kz
   exact ⟨dvL (some ⟨ac,0,none⟩) (lst (T.at_ 0)).length ag fx,_,fun w F h_=>⟨h_.1,⟨h_.2.1,Nat.le_trans e26_0 (by decide),h_.2.2.1⟩,⟨fun _=>bz.symm,rfl,h_.2.2.2⟩⟩,eQ⟩
  refine wp_skip ?_
  refine qab ?_
  refine wp_seq ?_
  refine qbS [(2,.v (.bool false)),(7,.p 0 0),(8,.v (.int .i16 v)),(9,.v (.bool (decide (v ≥ 9)))),(10,.p 1 0),(12,.v (.slice aL 0 0)),(13,.v (.int .i32 (lenN (T.at_ 0).null ((lst (T.at_ 0)).length)))),(14,.v (.int .i32 0))] aU fun _ cR=>?_
  clear aU
  refine qab ?_
  refine wp_block ?_
  refine qhv ?_
  refine wp_seq ?_
  refine wp_seq ?_
  refine qbS [(2,.v (.bool false)),(7,.p 0 0),(8,.v (.int .i16 v)),(9,.v (.bool (decide (v ≥ 9)))),(10,.p 1 0),(12,.v (.slice aL 0 0)),(13,.v (.int .i32 (lenN (T.at_ 0).null ((lst (T.at_ 0)).length)))),(14,.v (.int .i32 0)),(63,.v (.bool (decide (0 < (lenN (T.at_ 0).null ((lst (T.at_ 0)).length))))))] cR fun _ cS=>qab ?_
  clear cR
  refine qao cS.env_ (b:=decide (0 < (lenN (T.at_ 0).null ((lst (T.at_ 0)).length)))) kz (decide_eq_false (by have h_:=of_decide_eq_false aV; omega)) ?_
  refine wp_exit ?_
  refine qaB ?_
  refine qaB ?_
  refine qaL ?_
  refine qab ?_
  have hz_:(lst (T.at_ 0)).length = 0:=by have h_:=of_decide_eq_false aV; exact qjl h_
  exact ⟨dvL aL 0 0 (fun _=>dv0),_,fun w F h_=>⟨h_,⟨qlC,Nat.zero_le _,fun _ h=>absurd h (Nat.not_lt_zero _)⟩,⟨fun h_=>fq h_ hz_,hz_.symm,fun _ h=>absurd h (Nat.not_lt_zero _)⟩⟩,(cS.cast (t:=bk) (by rw [List.eq_nil_of_length_eq_zero hz_]; rfl)).pk (env':=[(7,.p 0 0),(8,.v (.int .i16 v)),(9,.v (.bool (decide (v ≥ 9)))),(10,.p 1 0),(12,.v (.slice aL 0 0))])⟩
 rintro _ _ ⟨af,fO,eR,eS⟩
 refine wp_seq ?_
 refine qbS [(7,.p 0 0),(8,.v (.int .i16 v)),(9,.v (.bool (decide (v ≥ 9)))),(10,.p 1 0),(11,.v (.slice af.A af.l af.c))] eS fun _ cT=>?_
 clear eS
 refine qab ?_
 refine qfv [⟨bv,0,[.int .i16 v,.slice af.A af.l af.c,.bool false,.bool false,.bool false,.map none],true⟩] 0 [(7,.p 0 0),(8,.v (.int .i16 v)),(9,.v (.bool (decide (v ≥ 9)))),(10,.p 1 0)] cT fun _ _ cU=>?_
 clear cT
 refine qab ?_
 refine wp_seq ?_
 have cV:=cU.cast dS
 clear cU
 refine qch (Mid:=fun a_ w_=>∃ (am:DV) (P':qbZ),(∀ w F,P' w F → fO w F ∧ (True) ∧ ((decide (v ≥ 4)) = true → am.b = decide ((T.at_ 1).N % 2 = 1)) ∧ ((decide (v ≥ 4)) = false → am.b = false)) ∧ RS w (fun b o=>b = bv ∧ o < 6) F 140 aT [⟨bv,0,[.int .i16 v,.slice af.A af.l af.c,.bool am.b,.bool false,.bool false,.map none],true⟩] [(7,.p 0 0),(8,.v (.int .i16 v)),(9,.v (.bool (decide (v ≥ 9)))),(10,.p 1 0)] P' dQ a_ w_) ?_ ?_
 ·
  refine wp_seq ?_
  refine qbS [(7,.p 0 0),(8,.v (.int .i16 v)),(9,.v (.bool (decide (v ≥ 9)))),(10,.p 1 0),(110,.v (.bool (decide (v ≥ 4))))] cV fun _ aD=>qab ?_
  clear cV
  refine qas aD.env_ (b:=decide (v ≥ 4)) kz (fun aE=>?_) (fun aE=>?_)
  ·
   have cW:=aD.cast (t:=[by8 (if (decide ((T.at_ 1).N % 2 = 1)) then 1 else 0)] ++ dQ) (by rw [if_pos aE])
   clear aD
   refine wp_seq ?_
   refine qfu (d:=111) [(7,.p 0 0),(8,.v (.int .i16 v)),(9,.v (.bool (decide (v ≥ 9)))),(10,.p 1 0),(20,.v (.bool (decide ((T.at_ 1).N % 2 = 1))))] cW (qk7 _ _) Tryz.call140 fun _ _ cX=>?_
   clear cW
   refine qab ?_
   refine qfv [⟨bv,0,[.int .i16 v,.slice af.A af.l af.c,.bool (decide ((T.at_ 1).N % 2 = 1)),.bool false,.bool false,.map none],true⟩] 0 [(7,.p 0 0),(8,.v (.int .i16 v)),(9,.v (.bool (decide (v ≥ 9)))),(10,.p 1 0)] cX fun _ _ eU=>?_
   clear cX
   refine qab ?_
   exact ⟨dvB (decide ((T.at_ 1).N % 2 = 1)),_,fun w F h_=>⟨h_,trivial,⟨fun _=>rfl,(fun e_=>by rw [aE] at e_; cases e_)⟩⟩,eU.pk (env':=[(7,.p 0 0),(8,.v (.int .i16 v)),(9,.v (.bool (decide (v ≥ 9)))),(10,.p 1 0)])⟩
  have cY:=aD.cast (t:=[] ++ dQ) (by rw [if_neg (by rw [aE]; decide)])
  clear aD
  have eV:=cY.cast (t:=dQ) rfl
  clear cY
  refine wp_skip (qab ?_)
  exact ⟨dvB false,_,fun w F h_=>⟨h_,trivial,⟨(fun e_=>by rw [aE] at e_; cases e_),fun _=>rfl⟩⟩,eV.pk (env':=[(7,.p 0 0),(8,.v (.int .i16 v)),(9,.v (.bool (decide (v ≥ 9)))),(10,.p 1 0)])⟩
 rintro _ _ ⟨am,fy,aR,cZ⟩
 refine qab ?_
 refine wp_seq ?_
 have c5:=cZ.cast dR
 clear cZ
 refine qch (Mid:=fun a_ w_=>∃ (av:DV) (P':qbZ),(∀ w F,P' w F → fy w F ∧ (True) ∧ ((if (decide (v ≥ 8)) = true then decide (v ≤ 10) else false) = true → av.b = decide ((T.at_ 2).N % 2 = 1)) ∧ ((if (decide (v ≥ 8)) = true then decide (v ≤ 10) else false) = false → av.b = false)) ∧ RS w (fun b o=>b = bv ∧ o < 6) F 140 aT [⟨bv,0,[.int .i16 v,.slice af.A af.l af.c,.bool am.b,.bool av.b,.bool false,.map none],true⟩] [(7,.p 0 0),(8,.v (.int .i16 v)),(9,.v (.bool (decide (v ≥ 9)))),(10,.p 1 0)] P' dD a_ w_) ?_ ?_
 ·
  refine wp_seq ?_
  refine qap [0,1,2,3,4,5] kz ?_
  refine qct [0,1,2] [3,4,5] [(7,.p 0 0),(8,.v (.int .i16 v)),(9,.v (.bool (decide (v ≥ 9)))),(10,.p 1 0),(118,.v (.bool (decide (v ≥ 8))))] c5 fun _ aS=>?_
  clear c5
  refine (Bool.eq_false_or_eq_true (decide (v ≥ 8))).elim (fun aj=>?_) (fun aj=>?_)
  ·
   have c6:=aS.envEq (env':=[(7,.p 0 0),(8,.v (.int .i16 v)),(9,.v (.bool (decide (v ≥ 9)))),(10,.p 1 0),(118,.v (.bool true))]) (by rw [aj])
   clear aS
   refine qct [3,4,5] [] [(7,.p 0 0),(8,.v (.int .i16 v)),(9,.v (.bool (decide (v ≥ 9)))),(10,.p 1 0),(121,.v (.bool (decide (v ≤ 10))))] c6 fun _ aF=>qaf (qab ?_)
   clear c6
   refine qas aF.env_ (b:=decide (v ≤ 10)) kz (fun aG=>?_) (fun aG=>?_)
   ·
    have da:=aF.cast (t:=[by8 (if (decide ((T.at_ 2).N % 2 = 1)) then 1 else 0)] ++ dD) (by rw [if_pos (by simp only [aj,aG,if_true])])
    clear aF
    refine wp_seq ?_
    refine qfu (d:=122) [(7,.p 0 0),(8,.v (.int .i16 v)),(9,.v (.bool (decide (v ≥ 9)))),(10,.p 1 0),(21,.v (.bool (decide ((T.at_ 2).N % 2 = 1))))] da (qk7 _ _) Tryz.call140 fun _ _ db=>?_
    clear da
    refine qab ?_
    refine qfv [⟨bv,0,[.int .i16 v,.slice af.A af.l af.c,.bool am.b,.bool (decide ((T.at_ 2).N % 2 = 1)),.bool false,.map none],true⟩] 0 [(7,.p 0 0),(8,.v (.int .i16 v)),(9,.v (.bool (decide (v ≥ 9)))),(10,.p 1 0)] db fun _ _ eW=>?_
    clear db
    refine qab ?_
    exact ⟨dvB (decide ((T.at_ 2).N % 2 = 1)),_,fun w F h_=>⟨h_,trivial,⟨fun _=>rfl,(fun e_=>by simp [aj,aG] at e_)⟩⟩,eW.pk (env':=[(7,.p 0 0),(8,.v (.int .i16 v)),(9,.v (.bool (decide (v ≥ 9)))),(10,.p 1 0)])⟩
   have dc:=aF.cast (t:=[] ++ dD) (by rw [if_neg (by simp only [aj,aG,if_true,if_false,Bool.false_eq_true]; try decide)])
   clear aF
   have eX:=dc.cast (t:=dD) rfl
   clear dc
   refine wp_skip (qab ?_)
   exact ⟨dvB false,_,fun w F h_=>⟨h_,trivial,⟨(fun e_=>by simp [aj,aG] at e_),fun _=>rfl⟩⟩,eX.pk (env':=[(7,.p 0 0),(8,.v (.int .i16 v)),(9,.v (.bool (decide (v ≥ 9)))),(10,.p 1 0)])⟩
  have de:=aS.envEq (env':=[(7,.p 0 0),(8,.v (.int .i16 v)),(9,.v (.bool (decide (v ≥ 9)))),(10,.p 1 0),(118,.v (.bool false))]) (by rw [aj])
  clear aS
  refine qct [3,4,5] [] [(7,.p 0 0),(8,.v (.int .i16 v)),(9,.v (.bool (decide (v ≥ 9)))),(10,.p 1 0),(121,.v (.bool false))] de fun _ bj=>qaf (qab ?_)
  clear de
  refine qao bj.env_ (b:=false) kz rfl ?_
  have df:=bj.cast (t:=[] ++ dD) (by rw [if_neg (by simp only [aj,if_true,if_false,Bool.false_eq_true]; try decide)])
  clear bj
  have eY:=df.cast (t:=dD) rfl
  clear df
  refine wp_skip (qab ?_)
  exact ⟨dvB false,_,fun w F h_=>⟨h_,trivial,⟨(fun e_=>by simp [aj] at e_),fun _=>rfl⟩⟩,eY.pk (env':=[(7,.p 0 0),(8,.v (.int .i16 v)),(9,.v (.bool (decide (v ≥ 9)))),(10,.p 1 0)])⟩
 rintro _ _ ⟨av,fz,ap,dg⟩
 refine qab ?_
 refine wp_seq ?_
 have dh:=dg.cast dP
 clear dg
 refine qch (Mid:=fun a_ w_=>∃ (aO:DV) (P':qbZ),(∀ w F,P' w F → fz w F ∧ (True) ∧ ((decide (v ≥ 8)) = true → aO.b = decide ((T.at_ 3).N % 2 = 1)) ∧ ((decide (v ≥ 8)) = false → aO.b = false)) ∧ RS w (fun b o=>b = bv ∧ o < 6) F 140 aT [⟨bv,0,[.int .i16 v,.slice af.A af.l af.c,.bool am.b,.bool av.b,.bool aO.b,.map none],true⟩] [(7,.p 0 0),(9,.v (.bool (decide (v ≥ 9)))),(10,.p 1 0)] P' dN a_ w_) ?_ ?_
 ·
  refine wp_seq ?_
  refine qbS [(7,.p 0 0),(9,.v (.bool (decide (v ≥ 9)))),(10,.p 1 0),(128,.v (.bool (decide (v ≥ 8))))] dh fun _ aH=>qab ?_
  clear dh
  refine qas aH.env_ (b:=decide (v ≥ 8)) kz (fun aI=>?_) (fun aI=>?_)
  ·
   have di:=aH.cast (t:=[by8 (if (decide ((T.at_ 3).N % 2 = 1)) then 1 else 0)] ++ dN) (by rw [if_pos aI])
   clear aH
   refine wp_seq ?_
   refine qfu (d:=129) [(7,.p 0 0),(9,.v (.bool (decide (v ≥ 9)))),(10,.p 1 0),(22,.v (.bool (decide ((T.at_ 3).N % 2 = 1))))] di (qk7 _ _) Tryz.call140 fun _ _ dj=>?_
   clear di
   refine qab ?_
   refine qfv [⟨bv,0,[.int .i16 v,.slice af.A af.l af.c,.bool am.b,.bool av.b,.bool (decide ((T.at_ 3).N % 2 = 1)),.map none],true⟩] 0 [(7,.p 0 0),(9,.v (.bool (decide (v ≥ 9)))),(10,.p 1 0)] dj fun _ _ eZ=>?_
   clear dj
   refine qab ?_
   exact ⟨dvB (decide ((T.at_ 3).N % 2 = 1)),_,fun w F h_=>⟨h_,trivial,⟨fun _=>rfl,(fun e_=>by rw [aI] at e_; cases e_)⟩⟩,eZ.pk (env':=[(7,.p 0 0),(9,.v (.bool (decide (v ≥ 9)))),(10,.p 1 0)])⟩
  have dl:=aH.cast (t:=[] ++ dN) (by rw [if_neg (by rw [aI]; decide)])
  clear aH
  have e9:=dl.cast (t:=dN) rfl
  clear dl
  refine wp_skip (qab ?_)
  exact ⟨dvB false,_,fun w F h_=>⟨h_,trivial,⟨(fun e_=>by rw [aI] at e_; cases e_),fun _=>rfl⟩⟩,e9.pk (env':=[(7,.p 0 0),(9,.v (.bool (decide (v ≥ 9)))),(10,.p 1 0)])⟩
 rintro _ _ ⟨aO,fA,ak,dp⟩
 refine qab ?_
 refine wp_seq ?_
 have dq:=dp.cast dO
 clear dp
 refine qch (Mid:=fun a_ w_=>∃ (bx:Option Nat) (aP:List (Int × Bs)) (P':qbZ),(∀ w F,P' w F → fA w F ∧ (MapR w F bx aP ∧ aP.length ≤ 1000000 ∧ ∀ x ∈ aP,x.2.length < 4294967296) ∧ ((decide (v ≥ 9)) = true → aP = T.U) ∧ ((decide (v ≥ 9)) = false → aP = [])) ∧ RS w (fun b o=>b = bv ∧ o < 6) F 140 aT [⟨bv,0,[.int .i16 v,.slice af.A af.l af.c,.bool am.b,.bool av.b,.bool aO.b,.map bx],true⟩] [(7,.p 0 0)] P' ([]:Bs) a_ w_) ?_ ?_
 ·
  refine wp_seq ?_
  refine qbS [(7,.p 0 0),(10,.p 1 0),(134,.v (.bool (decide (v ≥ 9))))] dq fun _ aJ=>qab ?_
  clear dq
  refine qas aJ.env_ (b:=decide (v ≥ 9)) kz (fun aK=>?_) (fun aK=>?_)
  ·
   have dr:=aJ.cast (t:=((uv T.U.length) ++ (qcC T.U)) ++ ([]:Bs)) (by rw [if_pos aK])
   clear aJ
   refine qap [0,1,2,3,4] kz ?_
   refine qct [0] [1,2,3,4] [(7,.p 0 0),(135,.p 1 0)] dr fun _ dt=>?_
   clear dr
   refine qak (qg0 (d:=136) dt (qlE T.U e26_U (qfN e26r) _) (fun _=>MvF.tags _ _) Tryz.call156 fun dL fP _ _ du dv=>?_)
   clear dt
   refine qct [2,3] [4] [(7,.p 0 0),(136,.v (.agg #[.map dL])),(138,.p 1 5)] dv fun _ dw=>?_
   clear dv
   refine qak (qd5 [⟨bv,0,[.int .i16 v,.slice af.A af.l af.c,.bool am.b,.bool av.b,.bool aO.b,.map dL],true⟩] 0 dw fun _ dx=>?_)
   clear dw
   refine qaf ?_
   have fa:=dx.pk (env':=[(7,.p 0 0)])
   clear dx
   refine qab ?_
   exact ⟨dL,T.U,_,fun w F h_=>⟨(du _ _ h_).1,⟨(du _ _ h_).2,e26_U.2.1,e26_U.2.2⟩,⟨fun _=>rfl,(fun e_=>by rw [aK] at e_; cases e_)⟩⟩,fa.pk (env':=[(7,.p 0 0)])⟩
  have dy:=aJ.cast (t:=[] ++ ([]:Bs)) (by rw [if_neg (by rw [aK]; decide)])
  clear aJ
  have fb:=dy.cast (t:=([]:Bs)) rfl
  clear dy
  refine wp_skip (qab ?_)
  exact ⟨none,[],_,fun w F h_=>⟨h_,⟨MapR.nil _ _,Nat.zero_le _,fun _ h=>by cases h⟩,⟨(fun e_=>by rw [aK] at e_; cases e_),fun _=>rfl⟩⟩,fb.pk (env':=[(7,.p 0 0)])⟩
 rintro _ _ ⟨bx,aP,fQ,ah,dz⟩
 refine qab ?_
 refine wp_seq ?_
 refine qap [0,1] kz (qak (qg1 (d:=139) dz qjk Tryz.call149 fun _ dA=>?_))
 clear dz
 refine qct [1] [] [(6,.v (.nilIface))] dA fun _ dB=>qaf ?_
 clear dA
 refine qab ?_
 refine wp_ret ?_
 obtain ⟨A_,m_,c_,hW_,hr_,hE_,hP_⟩:=dB.open_
 refine qaF hE_ hW_.cells (v:=.nilIface) kz ?_
 have h_:=dB.mv.mono qbI hP_
 refine ⟨(dvP bx aP [af,am,av,aO]),rfl,Str.of hW_ 1 rfl,?_,?_,hW_.step⟩
 ·unfold qbp
  exact ⟨((eR _ _ (aR _ _ (ap _ _ (ak _ _ (ah _ _ h_).1).1).1).1).2.1),((aR _ _ (ap _ _ (ak _ _ (ah _ _ h_).1).1).1).2.1),((ap _ _ (ak _ _ (ah _ _ h_).1).1).2.1),((ak _ _ (ah _ _ h_).1).2.1),(ah _ _ h_).2.1.1,(ah _ _ h_).2.1.2.1,(ah _ _ h_).2.1.2.2,trivial⟩
 unfold qbh
 exact ⟨((eR _ _ (aR _ _ (ap _ _ (ak _ _ (ah _ _ h_).1).1).1).1).2.2),((aR _ _ (ap _ _ (ak _ _ (ah _ _ h_).1).1).1).2.2),((ap _ _ (ak _ _ (ah _ _ h_).1).1).2.2),((ak _ _ (ah _ _ h_).1).2.2),(ah _ _ h_).2.2,trivial⟩
theorem qcM:qgX qbp:=by
 intro w w' F F' M d hs hM hF h
 unfold qbp at h ⊢
 obtain ⟨⟨g0,g0l,g0e⟩,g1,g2,g3,t1,t2,t3,_⟩:=h
 exact ⟨⟨g0.move hs hM hF,g0l,fun i hi=>qa4 _ hs hM hF (g0e i hi)⟩,g1,g2,g3,t1.move hs hM hF,t2,t3,trivial⟩
end Go.Proofs.YtcbpjflgkefidaaGreatDoor.ME