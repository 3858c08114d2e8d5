/- The texts of a claim, put together: the engine, the contracts, the law. Own work. -/
import Derived.Test.YtcbpjflgkefidaaGreatDoorWt2P2
import Derived.Test.YtcbpjflgkefidaaGreatDoorProg
import Derived.Deep.LoopGhost
namespace Go.Proofs.YtcbpjflgkefidaaGreatDoor.ME
open Go
open Go.RowKit
set_option linter.unusedVariables false
set_option linter.unusedSimpArgs false
set_option maxRecDepth 20000
theorem ql9 {A:Option Addr} {c:Nat} (s:Bs) {w:World} {F:Nat → Nat → Prop} (ho:Octs w F A c s) (hl:2 ≤ s.length) :
  Calls Tryz.prog 189 #[.agg #[],.slice A s.length c] w (qch w (.int .u16 (be16 s))):=by
 refine enter (n:=18) Tryz.func189 rfl Tryz.ntmps189 kz fun a hE=>?_
 have hW:=WOk.start w Nil
 have ob0:=qcb s 0
 have ob1:=qcb s 1
 refine qae [0,1] kz ?_
 refine qan (qbl hW hE (d:=2) (cs:=[]) kz fun b1 a2 w3 hb4 hz5 hF6 hW7 hE8=>?_)
 refine qal [1] [] [(1,.v (.slice A s.length c))] hW7 hE8 fun a9 af=>?_
 refine qaf (qab ?_)
 refine qae [0,1,2] kz ?_
 refine qal [0] [1,2] [(1,.v (.slice A s.length c)),(5,.v (.slice A s.length c))] hW7 af fun aC ag=>?_
 obtain ⟨av,aw,ac,ax,ab⟩:=Slots.get ho (i:=1) (by omega)
 refine qan (qaD ag (t:=22) (A:=A) (m:=s.length) (q:=1) (d:=6) kz (e:=5) (size:=1) (bytes:=1) (j:=1) kz ac rfl (by omega) fun aD ah=>?_)
 refine qan (qaR ah (t:=5) (b:=av) (o:=aw + 1 * 1) (d:=7) kz (cs:=[.int .u8 ((s.getD 1 0).toNat:Int)]) (v:=.int .u8 ((s.getD 1 0).toNat:Int)) kz (AtF.move ab hW7.step nilM qba).at_ fun aE ai=>?_)
 refine qaf (qab ?_)
 refine qb5 kz hW7 fun aF ay aa=>?_
 refine qaJ [0,4] [(8,.v (.slice A s.length c)),(12,.v (.slice A s.length c))] 9 (qaa qag) (fun _ h=>h ▸ aa.cells) rfl ai fun aG aj=>?_
 refine qaQ aj (i:=1) (t:=22) (A:=A) (m:=s.length) (q:=1) (d:=9) kz (e:=5) (size:=1) (bytes:=1) (j:=1) kz ac rfl (by omega) kz kz (qaa qag) rfl fun aH ak=>?_
 refine qa9 ak (i:=2) (t:=5) (b:=av) (o:=aw + 1 * 1) (d:=10) kz (cs:=[.int .u8 ((s.getD 1 0).toNat:Int)]) (v:=.int .u8 ((s.getD 1 0).toNat:Int)) kz (fun w' h'=>h' ▸ (AtF.move ab aa.step nilM qba).at_) kz kz (qaa qag) rfl fun aI al=>?_
 refine qaJ [3] [(11,.v (.int .u16 (IntKind.u16.wrap ((s.getD 1 0).toNat:Int)))),(12,.v (.slice A s.length c))] 6 (qaa qag) (fun _ h=>h ▸ aa.cells) rfl al fun aJ am=>?_
 obtain ⟨az,aA,ao,aB,ae⟩:=Slots.get ho (i:=0) (by omega)
 refine qaQ am (i:=5) (t:=22) (A:=A) (m:=s.length) (q:=0) (d:=13) kz (e:=5) (size:=1) (bytes:=1) (j:=0) kz ao rfl (by omega) kz kz (qaa qag) rfl fun aK ap=>?_
 refine qa9 ap (i:=6) (t:=5) (b:=az) (o:=aA + 0 * 1) (d:=14) kz (cs:=[.int .u8 ((s.getD 0 0).toNat:Int)]) (v:=.int .u8 ((s.getD 0 0).toNat:Int)) kz (fun w' h'=>h' ▸ (AtF.move ae aa.step nilM qba).at_) kz kz (qaa qag) rfl fun aL ar=>?_
 refine qaJ [7,8,9,10] [(4,.v (.int .u16 (IntKind.u16.wrap (BitVec.ofInt 16 (IntKind.u16.wrap ((s.getD 1 0).toNat:Int)) ||| BitVec.ofInt 16 (IntKind.u16.wrap ((IntKind.u16.wrap ((s.getD 0 0).toNat:Int)) * 256))).toNat)))] 0 (qaa qag) (fun _ h=>h ▸ aa.cells) rfl ar fun aM au=>?_
 refine qaG kz ?_ _
 refine qab (wp_ret (qaL au aa.cells (v:=.int .u16 (IntKind.u16.wrap (BitVec.ofInt 16 (IntKind.u16.wrap ((s.getD 1 0).toNat:Int)) ||| BitVec.ofInt 16 (IntKind.u16.wrap ((IntKind.u16.wrap ((s.getD 0 0).toNat:Int)) * 256))).toNat)) kz ?_))
 exact ⟨congrArg Ending.returned (congrArg (Value.int IntKind.u16) (qlF (oc s 0) (oc s 1) ob0 ob1)),aa.step⟩
theorem qma {A:Option Addr} {c:Nat} (s:Bs) {w:World} {F:Nat → Nat → Prop} (ho:Octs w F A c s) (hl:4 ≤ s.length) :
  Calls Tryz.prog 188 #[.agg #[],.slice A s.length c] w (qch w (.int .u32 (be32 s))):=by
 refine enter (n:=30) Tryz.func188 rfl Tryz.ntmps188 kz fun a hE=>?_
 have hW:=WOk.start w Nil
 have ob0:=qcb s 0
 have ob1:=qcb s 1
 have ob2:=qcb s 2
 have ob3:=qcb s 3
 refine qae [0,1] kz ?_
 refine qan (qbl hW hE (d:=2) (cs:=[]) kz fun b1 a2 w3 hb4 hz5 hF6 hW7 hE8=>?_)
 refine qal [1] [] [(1,.v (.slice A s.length c))] hW7 hE8 fun a9 ah=>?_
 refine qaf (qab ?_)
 refine qae [0,1,2] kz ?_
 refine qal [0] [1,2] [(1,.v (.slice A s.length c)),(5,.v (.slice A s.length c))] hW7 ah fun aS ai=>?_
 obtain ⟨aF,aG,ac,aH,ab⟩:=Slots.get ho (i:=3) (by omega)
 refine qan (qaD ai (t:=22) (A:=A) (m:=s.length) (q:=3) (d:=6) kz (e:=5) (size:=1) (bytes:=1) (j:=3) kz ac rfl (by omega) fun aT aj=>?_)
 refine qan (qaR aj (t:=5) (b:=aF) (o:=aG + 3 * 1) (d:=7) kz (cs:=[.int .u8 ((s.getD 3 0).toNat:Int)]) (v:=.int .u8 ((s.getD 3 0).toNat:Int)) kz (AtF.move ab hW7.step nilM qba).at_ fun aU ak=>?_)
 refine qaf (qab ?_)
 refine qb5 kz hW7 fun aV aI aa=>?_
 refine qaJ [0,4,10,16] [(8,.v (.slice A s.length c)),(12,.v (.slice A s.length c)),(18,.v (.slice A s.length c)),(24,.v (.slice A s.length c))] 19 (qaa qag) (fun _ h=>h ▸ aa.cells) rfl ak fun aW al=>?_
 refine qaQ al (i:=1) (t:=22) (A:=A) (m:=s.length) (q:=3) (d:=9) kz (e:=5) (size:=1) (bytes:=1) (j:=3) kz ac rfl (by omega) kz kz (qaa qag) rfl fun aX am=>?_
 refine qa9 am (i:=2) (t:=5) (b:=aF) (o:=aG + 3 * 1) (d:=10) kz (cs:=[.int .u8 ((s.getD 3 0).toNat:Int)]) (v:=.int .u8 ((s.getD 3 0).toNat:Int)) kz (fun w' h'=>h' ▸ (AtF.move ab aa.step nilM qba).at_) kz kz (qaa qag) rfl fun aY ao=>?_
 refine qaJ [3] [(11,.v (.int .u32 (IntKind.u32.wrap ((s.getD 3 0).toNat:Int)))),(12,.v (.slice A s.length c)),(18,.v (.slice A s.length c)),(24,.v (.slice A s.length c))] 16 (qaa qag) (fun _ h=>h ▸ aa.cells) rfl ao fun aZ ap=>?_
 obtain ⟨aJ,aK,ar,aL,ae⟩:=Slots.get ho (i:=2) (by omega)
 refine qaQ ap (i:=5) (t:=22) (A:=A) (m:=s.length) (q:=2) (d:=13) kz (e:=5) (size:=1) (bytes:=1) (j:=2) kz ar rfl (by omega) kz kz (qaa qag) rfl fun ba au=>?_
 refine qa9 au (i:=6) (t:=5) (b:=aJ) (o:=aK + 2 * 1) (d:=14) kz (cs:=[.int .u8 ((s.getD 2 0).toNat:Int)]) (v:=.int .u8 ((s.getD 2 0).toNat:Int)) kz (fun w' h'=>h' ▸ (AtF.move ae aa.step nilM qba).at_) kz kz (qaa qag) rfl fun bd av=>?_
 refine qaJ [7,8,9] [(17,.v (.int .u32 (IntKind.u32.wrap (BitVec.ofInt 32 (IntKind.u32.wrap ((s.getD 3 0).toNat:Int)) ||| BitVec.ofInt 32 (IntKind.u32.wrap ((IntKind.u32.wrap ((s.getD 2 0).toNat:Int)) * 256))).toNat))),(18,.v (.slice A s.length c)),(24,.v (.slice A s.length c))] 11 (qaa qag) (fun _ h=>h ▸ aa.cells) rfl av fun bf aw=>?_
 obtain ⟨aM,aN,ax,aO,af⟩:=Slots.get ho (i:=1) (by omega)
 refine qaQ aw (i:=11) (t:=22) (A:=A) (m:=s.length) (q:=1) (d:=19) kz (e:=5) (size:=1) (bytes:=1) (j:=1) kz ax rfl (by omega) kz kz (qaa qag) rfl fun bg ay=>?_
 refine qa9 ay (i:=12) (t:=5) (b:=aM) (o:=aN + 1 * 1) (d:=20) kz (cs:=[.int .u8 ((s.getD 1 0).toNat:Int)]) (v:=.int .u8 ((s.getD 1 0).toNat:Int)) kz (fun w' h'=>h' ▸ (AtF.move af aa.step nilM qba).at_) kz kz (qaa qag) rfl fun bh az=>?_
 refine qaJ [13,14,15] [(23,.v (.int .u32 (IntKind.u32.wrap (BitVec.ofInt 32 (IntKind.u32.wrap (BitVec.ofInt 32 (IntKind.u32.wrap ((s.getD 3 0).toNat:Int)) ||| BitVec.ofInt 32 (IntKind.u32.wrap ((IntKind.u32.wrap ((s.getD 2 0).toNat:Int)) * 256))).toNat) ||| BitVec.ofInt 32 (IntKind.u32.wrap ((IntKind.u32.wrap ((s.getD 1 0).toNat:Int)) * 65536))).toNat))),(24,.v (.slice A s.length c))] 6 (qaa qag) (fun _ h=>h ▸ aa.cells) rfl az fun bi aA=>?_
 obtain ⟨aP,aQ,aB,aR,ag⟩:=Slots.get ho (i:=0) (by omega)
 refine qaQ aA (i:=17) (t:=22) (A:=A) (m:=s.length) (q:=0) (d:=25) kz (e:=5) (size:=1) (bytes:=1) (j:=0) kz aB rfl (by omega) kz kz (qaa qag) rfl fun bj aC=>?_
 refine qa9 aC (i:=18) (t:=5) (b:=aP) (o:=aQ + 0 * 1) (d:=26) kz (cs:=[.int .u8 ((s.getD 0 0).toNat:Int)]) (v:=.int .u8 ((s.getD 0 0).toNat:Int)) kz (fun w' h'=>h' ▸ (AtF.move ag aa.step nilM qba).at_) kz kz (qaa qag) rfl fun bk aD=>?_
 refine qaJ [19,20,21,22] [(4,.v (.int .u32 (IntKind.u32.wrap (BitVec.ofInt 32 (IntKind.u32.wrap (BitVec.ofInt 32 (IntKind.u32.wrap (BitVec.ofInt 32 (IntKind.u32.wrap ((s.getD 3 0).toNat:Int)) ||| BitVec.ofInt 32 (IntKind.u32.wrap ((IntKind.u32.wrap ((s.getD 2 0).toNat:Int)) * 256))).toNat) ||| BitVec.ofInt 32 (IntKind.u32.wrap ((IntKind.u32.wrap ((s.getD 1 0).toNat:Int)) * 65536))).toNat) ||| BitVec.ofInt 32 (IntKind.u32.wrap ((IntKind.u32.wrap ((s.getD 0 0).toNat:Int)) * 16777216))).toNat)))] 0 (qaa qag) (fun _ h=>h ▸ aa.cells) rfl aD fun bn aE=>?_
 refine qaG kz ?_ _
 refine qab (wp_ret (qaL aE aa.cells (v:=.int .u32 (IntKind.u32.wrap (BitVec.ofInt 32 (IntKind.u32.wrap (BitVec.ofInt 32 (IntKind.u32.wrap (BitVec.ofInt 32 (IntKind.u32.wrap ((s.getD 3 0).toNat:Int)) ||| BitVec.ofInt 32 (IntKind.u32.wrap ((IntKind.u32.wrap ((s.getD 2 0).toNat:Int)) * 256))).toNat) ||| BitVec.ofInt 32 (IntKind.u32.wrap ((IntKind.u32.wrap ((s.getD 1 0).toNat:Int)) * 65536))).toNat) ||| BitVec.ofInt 32 (IntKind.u32.wrap ((IntKind.u32.wrap ((s.getD 0 0).toNat:Int)) * 16777216))).toNat)) kz ?_))
 exact ⟨congrArg Ending.returned (congrArg (Value.int IntKind.u32) (qlG (oc s 0) (oc s 1) (oc s 2) (oc s 3) ob0 ob1 ob2 ob3)),aa.step⟩
theorem qhM (x:Int) (rest:Bs)  {br:Nat} {A:Option Addr} {m c:Nat} {w:World} {F:Nat → Nat → Prop} (hst:Str w br [.slice A m c,.bool false]) (hr:RdS w F A m c (be 2 x ++ rest)) (hFd:∀ b o,F b o → ¬ RdM br b o) :
  Calls Tryz.prog 141 #[.pointer (some ⟨br,0,none⟩)] w (RdPost w br F rest fun v w'=>v = .int .i16 (IntKind.i16.wrap x)):=by
 obtain ⟨hm,ho⟩:=hr
 subst hm
 have hle:=ho.le
 refine enter (n:=32) Tryz.func141 rfl Tryz.ntmps141 kz fun a hE=>?_
 have hW:WOk w (RdM br) w [⟨br,0,[.slice A ((be 2 x ++ rest).length) c,.bool false],true⟩] []:=WOk.startStr hst
 have hE1:=(hE.grow ⟨br,0,[.slice A ((be 2 x ++ rest).length) c,.bool false],true⟩).recast 0 (.v (.pointer (some ⟨br,0,none⟩))) (.p 0 0) rfl rfl (Nat.le_of_ble_eq_true (n:=1) rfl)
 refine qap [(0,.p 0 0)] hW hE1 fun a1 hE2=>?_
 refine wp_seq (qap [(0,.p 0 0),(9,.v (.bool (decide ((((be 2 x ++ rest).length:Nat):Int) < 2))))] hW hE2 fun a3 hE4=>?_)
 refine qar hE4 (b:=decide ((((be 2 x ++ rest).length:Nat):Int) < 2)) kz (decide_eq_false (by first | omega | (simp only [List.length_append,be_length,List.length_cons,List.length_nil] at *; omega))) ?_
 refine wp_skip (qab (qaK 7 kz hW fun w5 hF6 hW7 hT8=>?_))
 refine qaJ [1,2,3,4] [(0,.p 0 0),(20,.v (.slice A ((be 2 x ++ rest).length) c))] 4 (qaa qag) (fun _ h=>h.cells) hT8 hE4 fun a9 af=>?_
 refine qa9 af (i:=0) (t:=211) (b:=0) (o:=0) (d:=16) kz (cs:=[]) (v:=.agg #[]) kz (fun w' h'=>(fun j_ v_ h_=>by simp at h_)) kz kz (qaa qag) hT8 fun av ag=>?_
 refine qaw (i:=5) kz (qam ag (f:=189) (vs:=[.agg #[],.slice A ((be 2 x ++ rest).length) c]) (d:=21) kz Tryz.call189 (ql9 _ (ho.move hW7.step (fun b_ o_ h_ _=>hFd b_ o_ h_) (hW7.immM hFd)) (by first | omega | (simp only [List.length_append,be_length,List.length_cons,List.length_nil] at *; omega))) ?_)
 rintro e_ aw ⟨rfl,ac⟩
 refine ⟨_,rfl,fun ax ah=>?_⟩
 have aa:=hW7.next_nil ac
 have ai:=hW7.frN ac
 have ae:=TT.ofW ai aa
 refine ⟨fun _=>ae,?_⟩
 refine qaJ [6] [(0,.p 0 0),(22,.v (.int .i16 (IntKind.i16.wrap (be16 (be 2 x ++ rest)))))] 1 (qaa qag) (fun _ h=>h.cells) ae ah fun ay aj=>?_
 refine qaw (i:=7) kz (qbm [0,3] aa.cells aj (env':=[(0,.p 0 0),(3,.v (.int .i16 (IntKind.i16.wrap (be16 (be 2 x ++ rest)))))]) kz fun az ak=>?_)
 refine ⟨fun h=>absurd rfl h,?_⟩
 refine qaG kz ?_ _
 refine qab (qae [0,1,2,3,4,5,6,7,8] kz ?_)
 refine qal [0,1,2,3,4] [5,6,7,8] [(3,.v (.int .i16 (IntKind.i16.wrap (be16 (be 2 x ++ rest))))),(23,.p 0 0),(27,.v (.slice A ((be 2 x ++ rest).length) c))] aa ak fun aA al=>?_
 refine qan (qc3 al (t:=22) (A:=A) (m:=((be 2 x ++ rest).length)) (cp:=c) (q:=2) (d:=28) (j:=2) kz (e:=5) (bytes:=1) kz (rfl) (by first | omega | (simp only [List.length_append,be_length,List.length_cons,List.length_nil] at *; omega)) fun aB am=>?_)
 refine qal [6,7] [8] [(3,.v (.int .i16 (IntKind.i16.wrap (be16 (be 2 x ++ rest))))),(28,.v (.slice (cutA A c 2) (((be 2 x ++ rest).length) - 2) (c - 2))),(30,.p 0 0)] aa am fun aC ao=>?_
 refine qan (qat aa ao (oi:=0) (cs:=[.slice (cutA A c 2) (((be 2 x ++ rest).length) - 2) (c - 2),.bool false]) kz fun aD au ab ap=>?_)
 refine qaf (qab ?_)
 refine qap [(2,.v (.int .i16 (IntKind.i16.wrap (be16 (be 2 x ++ rest)))))] ab ap fun aE ar=>?_
 refine wp_ret (qaL ar ab.cells (v:=.int .i16 (IntKind.i16.wrap (be16 (be 2 x ++ rest)))) kz ?_)
 exact ⟨_,_,_,_,rfl,Str.of ab 0 rfl,RdS.drop (s:=be 2 x) ⟨rfl,ho.move ab.step (fun b_ o_ h_ _=>hFd b_ o_ h_) qba⟩ (by simp only [be_length,List.length_cons,List.length_nil]),ab.step,by rw [qlb,qld]⟩
theorem qkJ (x:Int) (rest:Bs)  {br:Nat} {A:Option Addr} {m c:Nat} {w:World} {F:Nat → Nat → Prop} (hst:Str w br [.slice A m c,.bool false]) (hr:RdS w F A m c (be 4 x ++ rest)) (hFd:∀ b o,F b o → ¬ RdM br b o) :
  Calls Tryz.prog 139 #[.pointer (some ⟨br,0,none⟩)] w (RdPost w br F rest fun v w'=>v = .int .i32 (IntKind.i32.wrap x)):=by
 obtain ⟨hm,ho⟩:=hr
 subst hm
 have hle:=ho.le
 refine enter (n:=32) Tryz.func139 rfl Tryz.ntmps139 kz fun a hE=>?_
 have hW:WOk w (RdM br) w [⟨br,0,[.slice A ((be 4 x ++ rest).length) c,.bool false],true⟩] []:=WOk.startStr hst
 have hE1:=(hE.grow ⟨br,0,[.slice A ((be 4 x ++ rest).length) c,.bool false],true⟩).recast 0 (.v (.pointer (some ⟨br,0,none⟩))) (.p 0 0) rfl rfl (Nat.le_of_ble_eq_true (n:=1) rfl)
 refine qap [(0,.p 0 0)] hW hE1 fun a1 hE2=>?_
 refine wp_seq (qap [(0,.p 0 0),(9,.v (.bool (decide ((((be 4 x ++ rest).length:Nat):Int) < 4))))] hW hE2 fun a3 hE4=>?_)
 refine qar hE4 (b:=decide ((((be 4 x ++ rest).length:Nat):Int) < 4)) kz (decide_eq_false (by first | omega | (simp only [List.length_append,be_length,List.length_cons,List.length_nil] at *; omega))) ?_
 refine wp_skip (qab (qaK 7 kz hW fun w5 hF6 hW7 hT8=>?_))
 refine qaJ [1,2,3,4] [(0,.p 0 0),(20,.v (.slice A ((be 4 x ++ rest).length) c))] 4 (qaa qag) (fun _ h=>h.cells) hT8 hE4 fun a9 af=>?_
 refine qa9 af (i:=0) (t:=211) (b:=0) (o:=0) (d:=16) kz (cs:=[]) (v:=.agg #[]) kz (fun w' h'=>(fun j_ v_ h_=>by simp at h_)) kz kz (qaa qag) hT8 fun av ag=>?_
 refine qaw (i:=5) kz (qam ag (f:=188) (vs:=[.agg #[],.slice A ((be 4 x ++ rest).length) c]) (d:=21) kz Tryz.call188 (qma _ (ho.move hW7.step (fun b_ o_ h_ _=>hFd b_ o_ h_) (hW7.immM hFd)) (by first | omega | (simp only [List.length_append,be_length,List.length_cons,List.length_nil] at *; omega))) ?_)
 rintro e_ aw ⟨rfl,ac⟩
 refine ⟨_,rfl,fun ax ah=>?_⟩
 have aa:=hW7.next_nil ac
 have ai:=hW7.frN ac
 have ae:=TT.ofW ai aa
 refine ⟨fun _=>ae,?_⟩
 refine qaJ [6] [(0,.p 0 0),(22,.v (.int .i32 (IntKind.i32.wrap (be32 (be 4 x ++ rest)))))] 1 (qaa qag) (fun _ h=>h.cells) ae ah fun ay aj=>?_
 refine qaw (i:=7) kz (qbm [0,3] aa.cells aj (env':=[(0,.p 0 0),(3,.v (.int .i32 (IntKind.i32.wrap (be32 (be 4 x ++ rest)))))]) kz fun az ak=>?_)
 refine ⟨fun h=>absurd rfl h,?_⟩
 refine qaG kz ?_ _
 refine qab (qae [0,1,2,3,4,5,6,7,8] kz ?_)
 refine qal [0,1,2,3,4] [5,6,7,8] [(3,.v (.int .i32 (IntKind.i32.wrap (be32 (be 4 x ++ rest))))),(23,.p 0 0),(27,.v (.slice A ((be 4 x ++ rest).length) c))] aa ak fun aA al=>?_
 refine qan (qc3 al (t:=22) (A:=A) (m:=((be 4 x ++ rest).length)) (cp:=c) (q:=4) (d:=28) (j:=4) kz (e:=5) (bytes:=1) kz (rfl) (by first | omega | (simp only [List.length_append,be_length,List.length_cons,List.length_nil] at *; omega)) fun aB am=>?_)
 refine qal [6,7] [8] [(3,.v (.int .i32 (IntKind.i32.wrap (be32 (be 4 x ++ rest))))),(28,.v (.slice (cutA A c 4) (((be 4 x ++ rest).length) - 4) (c - 4))),(30,.p 0 0)] aa am fun aC ao=>?_
 refine qan (qat aa ao (oi:=0) (cs:=[.slice (cutA A c 4) (((be 4 x ++ rest).length) - 4) (c - 4),.bool false]) kz fun aD au ab ap=>?_)
 refine qaf (qab ?_)
 refine qap [(2,.v (.int .i32 (IntKind.i32.wrap (be32 (be 4 x ++ rest)))))] ab ap fun aE ar=>?_
 refine wp_ret (qaL ar ab.cells (v:=.int .i32 (IntKind.i32.wrap (be32 (be 4 x ++ rest)))) kz ?_)
 exact ⟨_,_,_,_,rfl,Str.of ab 0 rfl,RdS.drop (s:=be 4 x) ⟨rfl,ho.move ab.step (fun b_ o_ h_ _=>hFd b_ o_ h_) qba⟩ (by simp only [be_length,List.length_cons,List.length_nil]),ab.step,by rw [qlc,qle]⟩
theorem qmb (x:Int) (rest:Bs)  {br:Nat} {A:Option Addr} {m c:Nat} {w:World} {F:Nat → Nat → Prop} (hst:Str w br [.slice A m c,.bool false]) (hr:RdS w F A m c (be 1 x ++ rest)) (hFd:∀ b o,F b o → ¬ RdM br b o) :
  Calls Tryz.prog 163 #[.pointer (some ⟨br,0,none⟩)] w (RdPost w br F rest fun v w'=>v = .int .i8 (IntKind.i8.wrap x)):=by
 obtain ⟨hm,ho⟩:=hr
 subst hm
 have hle:=ho.le
 refine enter (n:=32) Tryz.func163 rfl Tryz.ntmps163 kz fun a hE=>?_
 have hW:WOk w (RdM br) w [⟨br,0,[.slice A ((be 1 x ++ rest).length) c,.bool false],true⟩] []:=WOk.startStr hst
 have hE1:=(hE.grow ⟨br,0,[.slice A ((be 1 x ++ rest).length) c,.bool false],true⟩).recast 0 (.v (.pointer (some ⟨br,0,none⟩))) (.p 0 0) rfl rfl (Nat.le_of_ble_eq_true (n:=1) rfl)
 refine qap [(0,.p 0 0)] hW hE1 fun a1 hE2=>?_
 refine wp_seq (qap [(0,.p 0 0),(9,.v (.bool (decide ((((be 1 x ++ rest).length:Nat):Int) < 1))))] hW hE2 fun a3 hE4=>?_)
 refine qar hE4 (b:=decide ((((be 1 x ++ rest).length:Nat):Int) < 1)) kz (decide_eq_false (by first | omega | (simp only [List.length_append,be_length,List.length_cons,List.length_nil] at *; omega))) ?_
 refine wp_skip (qab (qae [0,1,2,3,4,5,6] kz ?_))
 refine qal [0,1,2,3] [4,5,6] [(0,.p 0 0),(19,.v (.slice A ((be 1 x ++ rest).length) c))] hW hE4 fun a5 hE6=>?_
 obtain ⟨b7,o8,hA9,al,ab⟩:=Slots.get ho (i:=0) (by first | omega | (simp only [List.length_append,be_length,List.length_cons,List.length_nil] at *; omega))
 refine qan (qaD hE6 (t:=22) (A:=A) (m:=((be 1 x ++ rest).length)) (q:=0) (d:=20) kz (e:=5) (size:=1) (bytes:=1) (j:=0) kz hA9 rfl (by first | omega | (simp only [List.length_append,be_length,List.length_cons,List.length_nil] at *; omega)) fun ao ac=>?_)
 refine qan (qaR ac (t:=5) (b:=b7) (o:=o8 + 0 * 1) (d:=21) kz (cs:=[.int .u8 (((be 1 x ++ rest).getD 0 0).toNat:Int)]) (v:=.int .u8 (((be 1 x ++ rest).getD 0 0).toNat:Int)) kz (AtF.move ab hW.step (fun b_ o_ h_ _=>hFd b_ o_ h_) qba).at_ fun ap ae=>?_)
 refine qal [6] [] [(0,.p 0 0),(3,.v (.int .u8 (((be 1 x ++ rest).getD 0 0).toNat:Int)))] hW ae fun ar af=>?_
 refine qaf (qab ?_)
 refine qae [0,1,2,3,4,5,6,7,8] kz ?_
 refine qal [0,1,2,3,4] [5,6,7,8] [(3,.v (.int .u8 (((be 1 x ++ rest).getD 0 0).toNat:Int))),(22,.p 0 0),(26,.v (.slice A ((be 1 x ++ rest).length) c))] hW af fun au ag=>?_
 refine qan (qc3 ag (t:=22) (A:=A) (m:=((be 1 x ++ rest).length)) (cp:=c) (q:=1) (d:=27) (j:=1) kz (e:=5) (bytes:=1) kz (rfl) (by first | omega | (simp only [List.length_append,be_length,List.length_cons,List.length_nil] at *; omega)) fun av ah=>?_)
 refine qal [6,7] [8] [(3,.v (.int .u8 (((be 1 x ++ rest).getD 0 0).toNat:Int))),(27,.v (.slice (cutA A c 1) (((be 1 x ++ rest).length) - 1) (c - 1))),(29,.p 0 0)] hW ah fun aw ai=>?_
 refine qan (qat hW ai (oi:=0) (cs:=[.slice (cutA A c 1) (((be 1 x ++ rest).length) - 1) (c - 1),.bool false]) kz fun ax am aa aj=>?_)
 refine qaf (qab ?_)
 refine qap [(2,.v (.int .i8 (IntKind.i8.wrap (((be 1 x ++ rest).getD 0 0).toNat:Int))))] aa aj fun ay ak=>?_
 refine wp_ret (qaL ak aa.cells (v:=.int .i8 (IntKind.i8.wrap (((be 1 x ++ rest).getD 0 0).toNat:Int))) kz ?_)
 exact ⟨_,_,_,_,rfl,Str.of aa 0 rfl,RdS.drop (s:=be 1 x) ⟨rfl,ho.move aa.step (fun b_ o_ h_ _=>hFd b_ o_ h_) qba⟩ (by simp only [be_length,List.length_cons,List.length_nil]),aa.step,by rw [qlD,qlE]⟩
abbrev z48 (x0) (x1) (x2):=([(0,.v (.slice x0 x1 x2)),(9,.v (.slice x0 x1 x2))]:Env)
theorem rUv1 {A:Option Addr} {c:Nat} (s:Bs) {w:World} {F:Nat → Nat → Prop} (ho:Octs w F A c s) (hl:1 ≤ s.length) (d0:Nat) (h0:oc s 0 = d0) (g0:d0 < 128) :
  Calls Tryz.prog 205 #[.slice A s.length c] w (qch w (.tuple #[.int .u32 ((d0:Nat):Int),.int .i64 1])):=by
 refine enter (n:=87) Tryz.func205 rfl Tryz.ntmps205 kz fun a hE=>?_
 have hW:=WOk.start w Nil
 refine qap [(0,.v (.slice A s.length c))] hW hE fun a1 hE2=>?_
 refine wp_scope_straight (qap [(0,.v (.slice A s.length c))] hW hE2 fun a3 hE4=>?_)
 refine qap [(0,.v (.slice A s.length c))] hW hE4 fun a5 hE6=>?_
 refine wp_seq (qap [(0,.v (.slice A s.length c)),(8,.v (.bool (decide (((s.length:Nat):Int) < 1))))] hW hE6 fun a7 hE8=>?_)
 refine qar hE8 (b:=decide (((s.length:Nat):Int) < 1)) kz (decide_eq_false (by omega)) ?_
 refine wp_skip (qab (qae [0,1,2,3,4,5] kz ?_))
 refine qal [0] [1,2,3,4,5] (z48 A s.length c) hW hE8 fun a9 ae=>?_
 obtain ⟨am,ao,ab,ap,aa⟩:=Slots.get ho (i:=0) (by first | omega | (simp only [List.length_append,be_length,List.length_cons,List.length_nil] at *; omega))
 refine qan (qaD ae (t:=22) (A:=A) (m:=s.length) (q:=0) (d:=10) kz (e:=5) (size:=1) (bytes:=1) (j:=0) kz ab rfl (by first | omega | (simp only [List.length_append,be_length,List.length_cons,List.length_nil] at *; omega)) fun ar af=>?_)
 refine qan (qaR af (t:=5) (b:=am) (o:=ao + 0 * 1) (d:=11) kz (cs:=[.int .u8 ((s.getD 0 0).toNat:Int)]) (v:=.int .u8 ((s.getD 0 0).toNat:Int)) kz (AtF.move aa hW.step nilM qba).at_ fun au ag=>?_)
 refine qal [3,4,5] [] [(0,.v (.slice A s.length c)),(4,.v (.int .u32 (IntKind.u32.wrap (IntKind.u8.wrap (BitVec.ofInt 8 ((s.getD 0 0).toNat:Int) &&& BitVec.ofInt 8 127).toNat))))] hW ag fun av ah=>?_
 refine qaf (qab ?_)
 refine wp_seq (qae [0,1,2,3,4] kz ?_)
 refine qal [0] [1,2,3,4] [(0,.v (.slice A s.length c)),(4,.v (.int .u32 (IntKind.u32.wrap (IntKind.u8.wrap (BitVec.ofInt 8 ((s.getD 0 0).toNat:Int) &&& BitVec.ofInt 8 127).toNat)))),(14,.v (.slice A s.length c))] hW ah fun aw ai=>?_
 refine qan (qaD ai (t:=22) (A:=A) (m:=s.length) (q:=0) (d:=15) kz (e:=5) (size:=1) (bytes:=1) (j:=0) kz ab rfl (by first | omega | (simp only [List.length_append,be_length,List.length_cons,List.length_nil] at *; omega)) fun ax aj=>?_)
 refine qan (qaR aj (t:=5) (b:=am) (o:=ao + 0 * 1) (d:=16) kz (cs:=[.int .u8 ((s.getD 0 0).toNat:Int)]) (v:=.int .u8 ((s.getD 0 0).toNat:Int)) kz (AtF.move aa hW.step nilM qba).at_ fun ay ak=>?_)
 refine qal [3,4] [] [(0,.v (.slice A s.length c)),(4,.v (.int .u32 (IntKind.u32.wrap (IntKind.u8.wrap (BitVec.ofInt 8 ((s.getD 0 0).toNat:Int) &&& BitVec.ofInt 8 127).toNat)))),(18,.v (.bool ((IntKind.u8.wrap (BitVec.ofInt 8 ((s.getD 0 0).toNat:Int) &&& BitVec.ofInt 8 128).toNat) == 0)))] hW ak fun az ac=>?_
 refine qaf (qab ?_)
 refine qa2 ac (b:=(IntKind.u8.wrap (BitVec.ofInt 8 ((s.getD 0 0).toNat:Int) &&& BitVec.ofInt 8 128).toNat) == 0) kz ((qc7 _ (qcb s 0)).trans (decide_eq_true (by have:=h0; unfold oc at this; omega))) ?_
 refine qap [(2,.v (.int .u32 (IntKind.u32.wrap (IntKind.u8.wrap (BitVec.ofInt 8 ((s.getD 0 0).toNat:Int) &&& BitVec.ofInt 8 127).toNat)))),(3,.v (.int .i64 1))] hW ac fun aA al=>?_
 refine wp_ret (qaq (qdG (qaL al hW.cells (v:=.tuple #[.int .u32 (IntKind.u32.wrap (IntKind.u8.wrap (BitVec.ofInt 8 ((s.getD 0 0).toNat:Int) &&& BitVec.ofInt 8 127).toNat)),.int .i64 1]) kz ?_)))
 have e_:=uv_1 (oc s 0) (qcb s 0)
 refine ⟨congrArg (fun z_:Int=>Ending.returned (.tuple #[.int .u32 z_,.int .i64 1])) (Eq.trans e_ ?_),hW.step⟩
 omega
theorem rUv2 {A:Option Addr} {c:Nat} (s:Bs) {w:World} {F:Nat → Nat → Prop} (ho:Octs w F A c s) (hl:2 ≤ s.length) (d0 d1:Nat) (h0:oc s 0 = d0 + 128) (h1:oc s 1 = d1) (g0:d0 < 128) (g1:d1 < 128) :
  Calls Tryz.prog 205 #[.slice A s.length c] w (qch w (.tuple #[.int .u32 ((d0 + d1 * 128:Nat):Int),.int .i64 2])):=by
 refine enter (n:=87) Tryz.func205 rfl Tryz.ntmps205 kz fun a hE=>?_
 have hW:=WOk.start w Nil
 refine qap [(0,.v (.slice A s.length c))] hW hE fun a1 hE2=>?_
 refine wp_scope_straight (qap [(0,.v (.slice A s.length c))] hW hE2 fun a3 hE4=>?_)
 refine qap [(0,.v (.slice A s.length c))] hW hE4 fun a5 hE6=>?_
 refine wp_seq (qap [(0,.v (.slice A s.length c)),(8,.v (.bool (decide (((s.length:Nat):Int) < 1))))] hW hE6 fun a7 hE8=>?_)
 refine qar hE8 (b:=decide (((s.length:Nat):Int) < 1)) kz (decide_eq_false (by omega)) ?_
 refine wp_skip (qab (qae [0,1,2,3,4,5] kz ?_))
 refine qal [0] [1,2,3,4,5] (z48 A s.length c) hW hE8 fun a9 ai=>?_
 obtain ⟨aB,aC,ac,aF,aa⟩:=Slots.get ho (i:=0) (by first | omega | (simp only [List.length_append,be_length,List.length_cons,List.length_nil] at *; omega))
 refine qan (qaD ai (t:=22) (A:=A) (m:=s.length) (q:=0) (d:=10) kz (e:=5) (size:=1) (bytes:=1) (j:=0) kz ac rfl (by first | omega | (simp only [List.length_append,be_length,List.length_cons,List.length_nil] at *; omega)) fun aH aj=>?_)
 refine qan (qaR aj (t:=5) (b:=aB) (o:=aC + 0 * 1) (d:=11) kz (cs:=[.int .u8 ((s.getD 0 0).toNat:Int)]) (v:=.int .u8 ((s.getD 0 0).toNat:Int)) kz (AtF.move aa hW.step nilM qba).at_ fun aI ak=>?_)
 refine qal [3,4,5] [] [(0,.v (.slice A s.length c)),(4,.v (.int .u32 (IntKind.u32.wrap (IntKind.u8.wrap (BitVec.ofInt 8 ((s.getD 0 0).toNat:Int) &&& BitVec.ofInt 8 127).toNat))))] hW ak fun aJ al=>?_
 refine qaf (qab ?_)
 refine wp_seq (qae [0,1,2,3,4] kz ?_)
 refine qal [0] [1,2,3,4] [(0,.v (.slice A s.length c)),(4,.v (.int .u32 (IntKind.u32.wrap (IntKind.u8.wrap (BitVec.ofInt 8 ((s.getD 0 0).toNat:Int) &&& BitVec.ofInt 8 127).toNat)))),(14,.v (.slice A s.length c))] hW al fun aK am=>?_
 refine qan (qaD am (t:=22) (A:=A) (m:=s.length) (q:=0) (d:=15) kz (e:=5) (size:=1) (bytes:=1) (j:=0) kz ac rfl (by first | omega | (simp only [List.length_append,be_length,List.length_cons,List.length_nil] at *; omega)) fun aL ao=>?_)
 refine qan (qaR ao (t:=5) (b:=aB) (o:=aC + 0 * 1) (d:=16) kz (cs:=[.int .u8 ((s.getD 0 0).toNat:Int)]) (v:=.int .u8 ((s.getD 0 0).toNat:Int)) kz (AtF.move aa hW.step nilM qba).at_ fun aM ap=>?_)
 refine qal [3,4] [] [(0,.v (.slice A s.length c)),(4,.v (.int .u32 (IntKind.u32.wrap (IntKind.u8.wrap (BitVec.ofInt 8 ((s.getD 0 0).toNat:Int) &&& BitVec.ofInt 8 127).toNat)))),(18,.v (.bool ((IntKind.u8.wrap (BitVec.ofInt 8 ((s.getD 0 0).toNat:Int) &&& BitVec.ofInt 8 128).toNat) == 0)))] hW ap fun aN ae=>?_
 refine qaf (qab ?_)
 refine qar ae (b:=(IntKind.u8.wrap (BitVec.ofInt 8 ((s.getD 0 0).toNat:Int) &&& BitVec.ofInt 8 128).toNat) == 0) kz ((qc7 _ (qcb s 0)).trans (decide_eq_false (by have:=h0; unfold oc at this; omega))) ?_
 refine qap [(0,.v (.slice A s.length c)),(4,.v (.int .u32 (IntKind.u32.wrap (IntKind.u8.wrap (BitVec.ofInt 8 ((s.getD 0 0).toNat:Int) &&& BitVec.ofInt 8 127).toNat)))),(22,.v (.bool (decide (((s.length:Nat):Int) < 2))))] hW ae fun aO af=>?_
 refine qar af (b:=decide (((s.length:Nat):Int) < 2)) kz (decide_eq_false (by omega)) ?_
 refine wp_skip (qab (qae [0,1,2,3,4,5,6,7,8] kz ?_))
 refine qal [0,1] [2,3,4,5,6,7,8] [(0,.v (.slice A s.length c)),(23,.v (.int .u32 (IntKind.u32.wrap (IntKind.u8.wrap (BitVec.ofInt 8 ((s.getD 0 0).toNat:Int) &&& BitVec.ofInt 8 127).toNat)))),(24,.v (.slice A s.length c))] hW af fun aP ar=>?_
 obtain ⟨aD,aE,ag,aG,ab⟩:=Slots.get ho (i:=1) (by first | omega | (simp only [List.length_append,be_length,List.length_cons,List.length_nil] at *; omega))
 refine qan (qaD ar (t:=22) (A:=A) (m:=s.length) (q:=1) (d:=25) kz (e:=5) (size:=1) (bytes:=1) (j:=1) kz ag rfl (by first | omega | (simp only [List.length_append,be_length,List.length_cons,List.length_nil] at *; omega)) fun aQ au=>?_)
 refine qan (qaR au (t:=5) (b:=aD) (o:=aE + 1 * 1) (d:=26) kz (cs:=[.int .u8 ((s.getD 1 0).toNat:Int)]) (v:=.int .u8 ((s.getD 1 0).toNat:Int)) kz (AtF.move ab hW.step nilM qba).at_ fun aR av=>?_)
 refine qal [4,5,6,7,8] [] [(0,.v (.slice A s.length c)),(4,.v (.int .u32 (IntKind.u32.wrap (BitVec.ofInt 32 (IntKind.u32.wrap (IntKind.u8.wrap (BitVec.ofInt 8 ((s.getD 0 0).toNat:Int) &&& BitVec.ofInt 8 127).toNat)) ||| BitVec.ofInt 32 (IntKind.u32.wrap ((IntKind.u32.wrap (IntKind.u8.wrap (BitVec.ofInt 8 ((s.getD 1 0).toNat:Int) &&& BitVec.ofInt 8 127).toNat)) * 128))).toNat)))] hW av fun aS aw=>?_
 refine qaf (qab ?_)
 refine wp_seq (qae [0,1,2,3,4] kz ?_)
 refine qal [0] [1,2,3,4] [(0,.v (.slice A s.length c)),(4,.v (.int .u32 (IntKind.u32.wrap (BitVec.ofInt 32 (IntKind.u32.wrap (IntKind.u8.wrap (BitVec.ofInt 8 ((s.getD 0 0).toNat:Int) &&& BitVec.ofInt 8 127).toNat)) ||| BitVec.ofInt 32 (IntKind.u32.wrap ((IntKind.u32.wrap (IntKind.u8.wrap (BitVec.ofInt 8 ((s.getD 1 0).toNat:Int) &&& BitVec.ofInt 8 127).toNat)) * 128))).toNat))),(31,.v (.slice A s.length c))] hW aw fun aT ax=>?_
 refine qan (qaD ax (t:=22) (A:=A) (m:=s.length) (q:=1) (d:=32) kz (e:=5) (size:=1) (bytes:=1) (j:=1) kz ag rfl (by first | omega | (simp only [List.length_append,be_length,List.length_cons,List.length_nil] at *; omega)) fun aU ay=>?_)
 refine qan (qaR ay (t:=5) (b:=aD) (o:=aE + 1 * 1) (d:=33) kz (cs:=[.int .u8 ((s.getD 1 0).toNat:Int)]) (v:=.int .u8 ((s.getD 1 0).toNat:Int)) kz (AtF.move ab hW.step nilM qba).at_ fun aV az=>?_)
 refine qal [3,4] [] [(0,.v (.slice A s.length c)),(4,.v (.int .u32 (IntKind.u32.wrap (BitVec.ofInt 32 (IntKind.u32.wrap (IntKind.u8.wrap (BitVec.ofInt 8 ((s.getD 0 0).toNat:Int) &&& BitVec.ofInt 8 127).toNat)) ||| BitVec.ofInt 32 (IntKind.u32.wrap ((IntKind.u32.wrap (IntKind.u8.wrap (BitVec.ofInt 8 ((s.getD 1 0).toNat:Int) &&& BitVec.ofInt 8 127).toNat)) * 128))).toNat))),(35,.v (.bool ((IntKind.u8.wrap (BitVec.ofInt 8 ((s.getD 1 0).toNat:Int) &&& BitVec.ofInt 8 128).toNat) == 0)))] hW az fun aW ah=>?_
 refine qaf (qab ?_)
 refine qa2 ah (b:=(IntKind.u8.wrap (BitVec.ofInt 8 ((s.getD 1 0).toNat:Int) &&& BitVec.ofInt 8 128).toNat) == 0) kz ((qc7 _ (qcb s 1)).trans (decide_eq_true (by have:=h1; unfold oc at this; omega))) ?_
 refine qap [(2,.v (.int .u32 (IntKind.u32.wrap (BitVec.ofInt 32 (IntKind.u32.wrap (IntKind.u8.wrap (BitVec.ofInt 8 ((s.getD 0 0).toNat:Int) &&& BitVec.ofInt 8 127).toNat)) ||| BitVec.ofInt 32 (IntKind.u32.wrap ((IntKind.u32.wrap (IntKind.u8.wrap (BitVec.ofInt 8 ((s.getD 1 0).toNat:Int) &&& BitVec.ofInt 8 127).toNat)) * 128))).toNat))),(3,.v (.int .i64 2))] hW ah fun aX aA=>?_
 refine wp_ret (qaq (qdG (qaL aA hW.cells (v:=.tuple #[.int .u32 (IntKind.u32.wrap (BitVec.ofInt 32 (IntKind.u32.wrap (IntKind.u8.wrap (BitVec.ofInt 8 ((s.getD 0 0).toNat:Int) &&& BitVec.ofInt 8 127).toNat)) ||| BitVec.ofInt 32 (IntKind.u32.wrap ((IntKind.u32.wrap (IntKind.u8.wrap (BitVec.ofInt 8 ((s.getD 1 0).toNat:Int) &&& BitVec.ofInt 8 127).toNat)) * 128))).toNat),.int .i64 2]) kz ?_)))
 have e_:=uv_2 (oc s 0) (oc s 1) (qcb s 0) (qcb s 1)
 refine ⟨congrArg (fun z_:Int=>Ending.returned (.tuple #[.int .u32 z_,.int .i64 2])) (Eq.trans e_ ?_),hW.step⟩
 omega
theorem rUv3 {A:Option Addr} {c:Nat} (s:Bs) {w:World} {F:Nat → Nat → Prop} (ho:Octs w F A c s) (hl:3 ≤ s.length) (d0 d1 d2:Nat) (h0:oc s 0 = d0 + 128) (h1:oc s 1 = d1 + 128) (h2:oc s 2 = d2) (g0:d0 < 128) (g1:d1 < 128) (g2:d2 < 128) :
  Calls Tryz.prog 205 #[.slice A s.length c] w (qch w (.tuple #[.int .u32 ((d0 + d1 * 128 + d2 * 16384:Nat):Int),.int .i64 3])):=by
 refine enter (n:=87) Tryz.func205 rfl Tryz.ntmps205 kz fun a hE=>?_
 have hW:=WOk.start w Nil
 refine qap [(0,.v (.slice A s.length c))] hW hE fun a1 hE2=>?_
 refine wp_scope_straight (qap [(0,.v (.slice A s.length c))] hW hE2 fun a3 hE4=>?_)
 refine qap [(0,.v (.slice A s.length c))] hW hE4 fun a5 hE6=>?_
 refine wp_seq (qap [(0,.v (.slice A s.length c)),(8,.v (.bool (decide (((s.length:Nat):Int) < 1))))] hW hE6 fun a7 hE8=>?_)
 refine qar hE8 (b:=decide (((s.length:Nat):Int) < 1)) kz (decide_eq_false (by omega)) ?_
 refine wp_skip (qab (qae [0,1,2,3,4,5] kz ?_))
 refine qal [0] [1,2,3,4,5] (z48 A s.length c) hW hE8 fun a9 am=>?_
 obtain ⟨aM,aN,ae,aS,aa⟩:=Slots.get ho (i:=0) (by first | omega | (simp only [List.length_append,be_length,List.length_cons,List.length_nil] at *; omega))
 refine qan (qaD am (t:=22) (A:=A) (m:=s.length) (q:=0) (d:=10) kz (e:=5) (size:=1) (bytes:=1) (j:=0) kz ae rfl (by first | omega | (simp only [List.length_append,be_length,List.length_cons,List.length_nil] at *; omega)) fun aV ao=>?_)
 refine qan (qaR ao (t:=5) (b:=aM) (o:=aN + 0 * 1) (d:=11) kz (cs:=[.int .u8 ((s.getD 0 0).toNat:Int)]) (v:=.int .u8 ((s.getD 0 0).toNat:Int)) kz (AtF.move aa hW.step nilM qba).at_ fun aW ap=>?_)
 refine qal [3,4,5] [] [(0,.v (.slice A s.length c)),(4,.v (.int .u32 (IntKind.u32.wrap (IntKind.u8.wrap (BitVec.ofInt 8 ((s.getD 0 0).toNat:Int) &&& BitVec.ofInt 8 127).toNat))))] hW ap fun aX ar=>?_
 refine qaf (qab ?_)
 refine wp_seq (qae [0,1,2,3,4] kz ?_)
 refine qal [0] [1,2,3,4] [(0,.v (.slice A s.length c)),(4,.v (.int .u32 (IntKind.u32.wrap (IntKind.u8.wrap (BitVec.ofInt 8 ((s.getD 0 0).toNat:Int) &&& BitVec.ofInt 8 127).toNat)))),(14,.v (.slice A s.length c))] hW ar fun aY au=>?_
 refine qan (qaD au (t:=22) (A:=A) (m:=s.length) (q:=0) (d:=15) kz (e:=5) (size:=1) (bytes:=1) (j:=0) kz ae rfl (by first | omega | (simp only [List.length_append,be_length,List.length_cons,List.length_nil] at *; omega)) fun aZ av=>?_)
 refine qan (qaR av (t:=5) (b:=aM) (o:=aN + 0 * 1) (d:=16) kz (cs:=[.int .u8 ((s.getD 0 0).toNat:Int)]) (v:=.int .u8 ((s.getD 0 0).toNat:Int)) kz (AtF.move aa hW.step nilM qba).at_ fun ba aw=>?_)
 refine qal [3,4] [] [(0,.v (.slice A s.length c)),(4,.v (.int .u32 (IntKind.u32.wrap (IntKind.u8.wrap (BitVec.ofInt 8 ((s.getD 0 0).toNat:Int) &&& BitVec.ofInt 8 127).toNat)))),(18,.v (.bool ((IntKind.u8.wrap (BitVec.ofInt 8 ((s.getD 0 0).toNat:Int) &&& BitVec.ofInt 8 128).toNat) == 0)))] hW aw fun bd af=>?_
 refine qaf (qab ?_)
 refine qar af (b:=(IntKind.u8.wrap (BitVec.ofInt 8 ((s.getD 0 0).toNat:Int) &&& BitVec.ofInt 8 128).toNat) == 0) kz ((qc7 _ (qcb s 0)).trans (decide_eq_false (by have:=h0; unfold oc at this; omega))) ?_
 refine qap [(0,.v (.slice A s.length c)),(4,.v (.int .u32 (IntKind.u32.wrap (IntKind.u8.wrap (BitVec.ofInt 8 ((s.getD 0 0).toNat:Int) &&& BitVec.ofInt 8 127).toNat)))),(22,.v (.bool (decide (((s.length:Nat):Int) < 2))))] hW af fun bf ag=>?_
 refine qar ag (b:=decide (((s.length:Nat):Int) < 2)) kz (decide_eq_false (by omega)) ?_
 refine wp_skip (qab (qae [0,1,2,3,4,5,6,7,8] kz ?_))
 refine qal [0,1] [2,3,4,5,6,7,8] [(0,.v (.slice A s.length c)),(23,.v (.int .u32 (IntKind.u32.wrap (IntKind.u8.wrap (BitVec.ofInt 8 ((s.getD 0 0).toNat:Int) &&& BitVec.ofInt 8 127).toNat)))),(24,.v (.slice A s.length c))] hW ag fun bg ax=>?_
 obtain ⟨aO,aP,ah,aT,ab⟩:=Slots.get ho (i:=1) (by first | omega | (simp only [List.length_append,be_length,List.length_cons,List.length_nil] at *; omega))
 refine qan (qaD ax (t:=22) (A:=A) (m:=s.length) (q:=1) (d:=25) kz (e:=5) (size:=1) (bytes:=1) (j:=1) kz ah rfl (by first | omega | (simp only [List.length_append,be_length,List.length_cons,List.length_nil] at *; omega)) fun bh ay=>?_)
 refine qan (qaR ay (t:=5) (b:=aO) (o:=aP + 1 * 1) (d:=26) kz (cs:=[.int .u8 ((s.getD 1 0).toNat:Int)]) (v:=.int .u8 ((s.getD 1 0).toNat:Int)) kz (AtF.move ab hW.step nilM qba).at_ fun bi az=>?_)
 refine qal [4,5,6,7,8] [] [(0,.v (.slice A s.length c)),(4,.v (.int .u32 (IntKind.u32.wrap (BitVec.ofInt 32 (IntKind.u32.wrap (IntKind.u8.wrap (BitVec.ofInt 8 ((s.getD 0 0).toNat:Int) &&& BitVec.ofInt 8 127).toNat)) ||| BitVec.ofInt 32 (IntKind.u32.wrap ((IntKind.u32.wrap (IntKind.u8.wrap (BitVec.ofInt 8 ((s.getD 1 0).toNat:Int) &&& BitVec.ofInt 8 127).toNat)) * 128))).toNat)))] hW az fun bj aA=>?_
 refine qaf (qab ?_)
 refine wp_seq (qae [0,1,2,3,4] kz ?_)
 refine qal [0] [1,2,3,4] [(0,.v (.slice A s.length c)),(4,.v (.int .u32 (IntKind.u32.wrap (BitVec.ofInt 32 (IntKind.u32.wrap (IntKind.u8.wrap (BitVec.ofInt 8 ((s.getD 0 0).toNat:Int) &&& BitVec.ofInt 8 127).toNat)) ||| BitVec.ofInt 32 (IntKind.u32.wrap ((IntKind.u32.wrap (IntKind.u8.wrap (BitVec.ofInt 8 ((s.getD 1 0).toNat:Int) &&& BitVec.ofInt 8 127).toNat)) * 128))).toNat))),(31,.v (.slice A s.length c))] hW aA fun bk aB=>?_
 refine qan (qaD aB (t:=22) (A:=A) (m:=s.length) (q:=1) (d:=32) kz (e:=5) (size:=1) (bytes:=1) (j:=1) kz ah rfl (by first | omega | (simp only [List.length_append,be_length,List.length_cons,List.length_nil] at *; omega)) fun bn aC=>?_)
 refine qan (qaR aC (t:=5) (b:=aO) (o:=aP + 1 * 1) (d:=33) kz (cs:=[.int .u8 ((s.getD 1 0).toNat:Int)]) (v:=.int .u8 ((s.getD 1 0).toNat:Int)) kz (AtF.move ab hW.step nilM qba).at_ fun bo aD=>?_)
 refine qal [3,4] [] [(0,.v (.slice A s.length c)),(4,.v (.int .u32 (IntKind.u32.wrap (BitVec.ofInt 32 (IntKind.u32.wrap (IntKind.u8.wrap (BitVec.ofInt 8 ((s.getD 0 0).toNat:Int) &&& BitVec.ofInt 8 127).toNat)) ||| BitVec.ofInt 32 (IntKind.u32.wrap ((IntKind.u32.wrap (IntKind.u8.wrap (BitVec.ofInt 8 ((s.getD 1 0).toNat:Int) &&& BitVec.ofInt 8 127).toNat)) * 128))).toNat))),(35,.v (.bool ((IntKind.u8.wrap (BitVec.ofInt 8 ((s.getD 1 0).toNat:Int) &&& BitVec.ofInt 8 128).toNat) == 0)))] hW aD fun bp ai=>?_
 refine qaf (qab ?_)
 refine qar ai (b:=(IntKind.u8.wrap (BitVec.ofInt 8 ((s.getD 1 0).toNat:Int) &&& BitVec.ofInt 8 128).toNat) == 0) kz ((qc7 _ (qcb s 1)).trans (decide_eq_false (by have:=h1; unfold oc at this; omega))) ?_
 refine qap [(0,.v (.slice A s.length c)),(4,.v (.int .u32 (IntKind.u32.wrap (BitVec.ofInt 32 (IntKind.u32.wrap (IntKind.u8.wrap (BitVec.ofInt 8 ((s.getD 0 0).toNat:Int) &&& BitVec.ofInt 8 127).toNat)) ||| BitVec.ofInt 32 (IntKind.u32.wrap ((IntKind.u32.wrap (IntKind.u8.wrap (BitVec.ofInt 8 ((s.getD 1 0).toNat:Int) &&& BitVec.ofInt 8 127).toNat)) * 128))).toNat))),(39,.v (.bool (decide (((s.length:Nat):Int) < 3))))] hW ai fun bq aj=>?_
 refine qar aj (b:=decide (((s.length:Nat):Int) < 3)) kz (decide_eq_false (by omega)) ?_
 refine wp_skip (qab (qae [0,1,2,3,4,5,6,7,8] kz ?_))
 refine qal [0,1] [2,3,4,5,6,7,8] [(0,.v (.slice A s.length c)),(40,.v (.int .u32 (IntKind.u32.wrap (BitVec.ofInt 32 (IntKind.u32.wrap (IntKind.u8.wrap (BitVec.ofInt 8 ((s.getD 0 0).toNat:Int) &&& BitVec.ofInt 8 127).toNat)) ||| BitVec.ofInt 32 (IntKind.u32.wrap ((IntKind.u32.wrap (IntKind.u8.wrap (BitVec.ofInt 8 ((s.getD 1 0).toNat:Int) &&& BitVec.ofInt 8 127).toNat)) * 128))).toNat))),(41,.v (.slice A s.length c))] hW aj fun bt aE=>?_
 obtain ⟨aQ,aR,ak,aU,ac⟩:=Slots.get ho (i:=2) (by first | omega | (simp only [List.length_append,be_length,List.length_cons,List.length_nil] at *; omega))
 refine qan (qaD aE (t:=22) (A:=A) (m:=s.length) (q:=2) (d:=42) kz (e:=5) (size:=1) (bytes:=1) (j:=2) kz ak rfl (by first | omega | (simp only [List.length_append,be_length,List.length_cons,List.length_nil] at *; omega)) fun bu aF=>?_)
 refine qan (qaR aF (t:=5) (b:=aQ) (o:=aR + 2 * 1) (d:=43) kz (cs:=[.int .u8 ((s.getD 2 0).toNat:Int)]) (v:=.int .u8 ((s.getD 2 0).toNat:Int)) kz (AtF.move ac hW.step nilM qba).at_ fun bw aG=>?_)
 refine qal [4,5,6,7,8] [] [(0,.v (.slice A s.length c)),(4,.v (.int .u32 (IntKind.u32.wrap (BitVec.ofInt 32 (IntKind.u32.wrap (BitVec.ofInt 32 (IntKind.u32.wrap (IntKind.u8.wrap (BitVec.ofInt 8 ((s.getD 0 0).toNat:Int) &&& BitVec.ofInt 8 127).toNat)) ||| BitVec.ofInt 32 (IntKind.u32.wrap ((IntKind.u32.wrap (IntKind.u8.wrap (BitVec.ofInt 8 ((s.getD 1 0).toNat:Int) &&& BitVec.ofInt 8 127).toNat)) * 128))).toNat) ||| BitVec.ofInt 32 (IntKind.u32.wrap ((IntKind.u32.wrap (IntKind.u8.wrap (BitVec.ofInt 8 ((s.getD 2 0).toNat:Int) &&& BitVec.ofInt 8 127).toNat)) * 16384))).toNat)))] hW aG fun bx aH=>?_
 refine qaf (qab ?_)
 refine wp_seq (qae [0,1,2,3,4] kz ?_)
 refine qal [0] [1,2,3,4] [(0,.v (.slice A s.length c)),(4,.v (.int .u32 (IntKind.u32.wrap (BitVec.ofInt 32 (IntKind.u32.wrap (BitVec.ofInt 32 (IntKind.u32.wrap (IntKind.u8.wrap (BitVec.ofInt 8 ((s.getD 0 0).toNat:Int) &&& BitVec.ofInt 8 127).toNat)) ||| BitVec.ofInt 32 (IntKind.u32.wrap ((IntKind.u32.wrap (IntKind.u8.wrap (BitVec.ofInt 8 ((s.getD 1 0).toNat:Int) &&& BitVec.ofInt 8 127).toNat)) * 128))).toNat) ||| BitVec.ofInt 32 (IntKind.u32.wrap ((IntKind.u32.wrap (IntKind.u8.wrap (BitVec.ofInt 8 ((s.getD 2 0).toNat:Int) &&& BitVec.ofInt 8 127).toNat)) * 16384))).toNat))),(48,.v (.slice A s.length c))] hW aH fun bz aI=>?_
 refine qan (qaD aI (t:=22) (A:=A) (m:=s.length) (q:=2) (d:=49) kz (e:=5) (size:=1) (bytes:=1) (j:=2) kz ak rfl (by first | omega | (simp only [List.length_append,be_length,List.length_cons,List.length_nil] at *; omega)) fun bA aJ=>?_)
 refine qan (qaR aJ (t:=5) (b:=aQ) (o:=aR + 2 * 1) (d:=50) kz (cs:=[.int .u8 ((s.getD 2 0).toNat:Int)]) (v:=.int .u8 ((s.getD 2 0).toNat:Int)) kz (AtF.move ac hW.step nilM qba).at_ fun bB aK=>?_)
 refine qal [3,4] [] [(0,.v (.slice A s.length c)),(4,.v (.int .u32 (IntKind.u32.wrap (BitVec.ofInt 32 (IntKind.u32.wrap (BitVec.ofInt 32 (IntKind.u32.wrap (IntKind.u8.wrap (BitVec.ofInt 8 ((s.getD 0 0).toNat:Int) &&& BitVec.ofInt 8 127).toNat)) ||| BitVec.ofInt 32 (IntKind.u32.wrap ((IntKind.u32.wrap (IntKind.u8.wrap (BitVec.ofInt 8 ((s.getD 1 0).toNat:Int) &&& BitVec.ofInt 8 127).toNat)) * 128))).toNat) ||| BitVec.ofInt 32 (IntKind.u32.wrap ((IntKind.u32.wrap (IntKind.u8.wrap (BitVec.ofInt 8 ((s.getD 2 0).toNat:Int) &&& BitVec.ofInt 8 127).toNat)) * 16384))).toNat))),(52,.v (.bool ((IntKind.u8.wrap (BitVec.ofInt 8 ((s.getD 2 0).toNat:Int) &&& BitVec.ofInt 8 128).toNat) == 0)))] hW aK fun bC al=>?_
 refine qaf (qab ?_)
 refine qa2 al (b:=(IntKind.u8.wrap (BitVec.ofInt 8 ((s.getD 2 0).toNat:Int) &&& BitVec.ofInt 8 128).toNat) == 0) kz ((qc7 _ (qcb s 2)).trans (decide_eq_true (by have:=h2; unfold oc at this; omega))) ?_
 refine qap [(2,.v (.int .u32 (IntKind.u32.wrap (BitVec.ofInt 32 (IntKind.u32.wrap (BitVec.ofInt 32 (IntKind.u32.wrap (IntKind.u8.wrap (BitVec.ofInt 8 ((s.getD 0 0).toNat:Int) &&& BitVec.ofInt 8 127).toNat)) ||| BitVec.ofInt 32 (IntKind.u32.wrap ((IntKind.u32.wrap (IntKind.u8.wrap (BitVec.ofInt 8 ((s.getD 1 0).toNat:Int) &&& BitVec.ofInt 8 127).toNat)) * 128))).toNat) ||| BitVec.ofInt 32 (IntKind.u32.wrap ((IntKind.u32.wrap (IntKind.u8.wrap (BitVec.ofInt 8 ((s.getD 2 0).toNat:Int) &&& BitVec.ofInt 8 127).toNat)) * 16384))).toNat))),(3,.v (.int .i64 3))] hW al fun bD aL=>?_
 refine wp_ret (qaq (qdG (qaL aL hW.cells (v:=.tuple #[.int .u32 (IntKind.u32.wrap (BitVec.ofInt 32 (IntKind.u32.wrap (BitVec.ofInt 32 (IntKind.u32.wrap (IntKind.u8.wrap (BitVec.ofInt 8 ((s.getD 0 0).toNat:Int) &&& BitVec.ofInt 8 127).toNat)) ||| BitVec.ofInt 32 (IntKind.u32.wrap ((IntKind.u32.wrap (IntKind.u8.wrap (BitVec.ofInt 8 ((s.getD 1 0).toNat:Int) &&& BitVec.ofInt 8 127).toNat)) * 128))).toNat) ||| BitVec.ofInt 32 (IntKind.u32.wrap ((IntKind.u32.wrap (IntKind.u8.wrap (BitVec.ofInt 8 ((s.getD 2 0).toNat:Int) &&& BitVec.ofInt 8 127).toNat)) * 16384))).toNat),.int .i64 3]) kz ?_)))
 have e_:=uv_3 (oc s 0) (oc s 1) (oc s 2) (qcb s 0) (qcb s 1) (qcb s 2)
 refine ⟨congrArg (fun z_:Int=>Ending.returned (.tuple #[.int .u32 z_,.int .i64 3])) (Eq.trans e_ ?_),hW.step⟩
 omega
theorem rUv4 {A:Option Addr} {c:Nat} (s:Bs) {w:World} {F:Nat → Nat → Prop} (ho:Octs w F A c s) (hl:4 ≤ s.length) (d0 d1 d2 d3:Nat) (h0:oc s 0 = d0 + 128) (h1:oc s 1 = d1 + 128) (h2:oc s 2 = d2 + 128) (h3:oc s 3 = d3) (g0:d0 < 128) (g1:d1 < 128) (g2:d2 < 128) (g3:d3 < 128) :
  Calls Tryz.prog 205 #[.slice A s.length c] w (qch w (.tuple #[.int .u32 ((d0 + d1 * 128 + d2 * 16384 + d3 * 2097152:Nat):Int),.int .i64 4])):=by
 refine enter (n:=87) Tryz.func205 rfl Tryz.ntmps205 kz fun a hE=>?_
 have hW:=WOk.start w Nil
 refine qap [(0,.v (.slice A s.length c))] hW hE fun a1 hE2=>?_
 refine wp_scope_straight (qap [(0,.v (.slice A s.length c))] hW hE2 fun a3 hE4=>?_)
 refine qap [(0,.v (.slice A s.length c))] hW hE4 fun a5 hE6=>?_
 refine wp_seq (qap [(0,.v (.slice A s.length c)),(8,.v (.bool (decide (((s.length:Nat):Int) < 1))))] hW hE6 fun a7 hE8=>?_)
 refine qar hE8 (b:=decide (((s.length:Nat):Int) < 1)) kz (decide_eq_false (by omega)) ?_
 refine wp_skip (qab (qae [0,1,2,3,4,5] kz ?_))
 refine qal [0] [1,2,3,4,5] (z48 A s.length c) hW hE8 fun a9 av=>?_
 obtain ⟨aX,aY,af,bi,aa⟩:=Slots.get ho (i:=0) (by first | omega | (simp only [List.length_append,be_length,List.length_cons,List.length_nil] at *; omega))
 refine qan (qaD av (t:=22) (A:=A) (m:=s.length) (q:=0) (d:=10) kz (e:=5) (size:=1) (bytes:=1) (j:=0) kz af rfl (by first | omega | (simp only [List.length_append,be_length,List.length_cons,List.length_nil] at *; omega)) fun bo aw=>?_)
 refine qan (qaR aw (t:=5) (b:=aX) (o:=aY + 0 * 1) (d:=11) kz (cs:=[.int .u8 ((s.getD 0 0).toNat:Int)]) (v:=.int .u8 ((s.getD 0 0).toNat:Int)) kz (AtF.move aa hW.step nilM qba).at_ fun bp ax=>?_)
 refine qal [3,4,5] [] [(0,.v (.slice A s.length c)),(4,.v (.int .u32 (IntKind.u32.wrap (IntKind.u8.wrap (BitVec.ofInt 8 ((s.getD 0 0).toNat:Int) &&& BitVec.ofInt 8 127).toNat))))] hW ax fun bq ay=>?_
 refine qaf (qab ?_)
 refine wp_seq (qae [0,1,2,3,4] kz ?_)
 refine qal [0] [1,2,3,4] [(0,.v (.slice A s.length c)),(4,.v (.int .u32 (IntKind.u32.wrap (IntKind.u8.wrap (BitVec.ofInt 8 ((s.getD 0 0).toNat:Int) &&& BitVec.ofInt 8 127).toNat)))),(14,.v (.slice A s.length c))] hW ay fun bt az=>?_
 refine qan (qaD az (t:=22) (A:=A) (m:=s.length) (q:=0) (d:=15) kz (e:=5) (size:=1) (bytes:=1) (j:=0) kz af rfl (by first | omega | (simp only [List.length_append,be_length,List.length_cons,List.length_nil] at *; omega)) fun bu aA=>?_)
 refine qan (qaR aA (t:=5) (b:=aX) (o:=aY + 0 * 1) (d:=16) kz (cs:=[.int .u8 ((s.getD 0 0).toNat:Int)]) (v:=.int .u8 ((s.getD 0 0).toNat:Int)) kz (AtF.move aa hW.step nilM qba).at_ fun bw aB=>?_)
 refine qal [3,4] [] [(0,.v (.slice A s.length c)),(4,.v (.int .u32 (IntKind.u32.wrap (IntKind.u8.wrap (BitVec.ofInt 8 ((s.getD 0 0).toNat:Int) &&& BitVec.ofInt 8 127).toNat)))),(18,.v (.bool ((IntKind.u8.wrap (BitVec.ofInt 8 ((s.getD 0 0).toNat:Int) &&& BitVec.ofInt 8 128).toNat) == 0)))] hW aB fun bx ag=>?_
 refine qaf (qab ?_)
 refine qar ag (b:=(IntKind.u8.wrap (BitVec.ofInt 8 ((s.getD 0 0).toNat:Int) &&& BitVec.ofInt 8 128).toNat) == 0) kz ((qc7 _ (qcb s 0)).trans (decide_eq_false (by have:=h0; unfold oc at this; omega))) ?_
 refine qap [(0,.v (.slice A s.length c)),(4,.v (.int .u32 (IntKind.u32.wrap (IntKind.u8.wrap (BitVec.ofInt 8 ((s.getD 0 0).toNat:Int) &&& BitVec.ofInt 8 127).toNat)))),(22,.v (.bool (decide (((s.length:Nat):Int) < 2))))] hW ag fun bz ah=>?_
 refine qar ah (b:=decide (((s.length:Nat):Int) < 2)) kz (decide_eq_false (by omega)) ?_
 refine wp_skip (qab (qae [0,1,2,3,4,5,6,7,8] kz ?_))
 refine qal [0,1] [2,3,4,5,6,7,8] [(0,.v (.slice A s.length c)),(23,.v (.int .u32 (IntKind.u32.wrap (IntKind.u8.wrap (BitVec.ofInt 8 ((s.getD 0 0).toNat:Int) &&& BitVec.ofInt 8 127).toNat)))),(24,.v (.slice A s.length c))] hW ah fun bA aC=>?_
 obtain ⟨aZ,ba,ai,bj,ab⟩:=Slots.get ho (i:=1) (by first | omega | (simp only [List.length_append,be_length,List.length_cons,List.length_nil] at *; omega))
 refine qan (qaD aC (t:=22) (A:=A) (m:=s.length) (q:=1) (d:=25) kz (e:=5) (size:=1) (bytes:=1) (j:=1) kz ai rfl (by first | omega | (simp only [List.length_append,be_length,List.length_cons,List.length_nil] at *; omega)) fun bB aD=>?_)
 refine qan (qaR aD (t:=5) (b:=aZ) (o:=ba + 1 * 1) (d:=26) kz (cs:=[.int .u8 ((s.getD 1 0).toNat:Int)]) (v:=.int .u8 ((s.getD 1 0).toNat:Int)) kz (AtF.move ab hW.step nilM qba).at_ fun bC aE=>?_)
 refine qal [4,5,6,7,8] [] [(0,.v (.slice A s.length c)),(4,.v (.int .u32 (IntKind.u32.wrap (BitVec.ofInt 32 (IntKind.u32.wrap (IntKind.u8.wrap (BitVec.ofInt 8 ((s.getD 0 0).toNat:Int) &&& BitVec.ofInt 8 127).toNat)) ||| BitVec.ofInt 32 (IntKind.u32.wrap ((IntKind.u32.wrap (IntKind.u8.wrap (BitVec.ofInt 8 ((s.getD 1 0).toNat:Int) &&& BitVec.ofInt 8 127).toNat)) * 128))).toNat)))] hW aE fun bD aF=>?_
 refine qaf (qab ?_)
 refine wp_seq (qae [0,1,2,3,4] kz ?_)
 refine qal [0] [1,2,3,4] [(0,.v (.slice A s.length c)),(4,.v (.int .u32 (IntKind.u32.wrap (BitVec.ofInt 32 (IntKind.u32.wrap (IntKind.u8.wrap (BitVec.ofInt 8 ((s.getD 0 0).toNat:Int) &&& BitVec.ofInt 8 127).toNat)) ||| BitVec.ofInt 32 (IntKind.u32.wrap ((IntKind.u32.wrap (IntKind.u8.wrap (BitVec.ofInt 8 ((s.getD 1 0).toNat:Int) &&& BitVec.ofInt 8 127).toNat)) * 128))).toNat))),(31,.v (.slice A s.length c))] hW aF fun bE aG=>?_
 refine qan (qaD aG (t:=22) (A:=A) (m:=s.length) (q:=1) (d:=32) kz (e:=5) (size:=1) (bytes:=1) (j:=1) kz ai rfl (by first | omega | (simp only [List.length_append,be_length,List.length_cons,List.length_nil] at *; omega)) fun bF aH=>?_)
 refine qan (qaR aH (t:=5) (b:=aZ) (o:=ba + 1 * 1) (d:=33) kz (cs:=[.int .u8 ((s.getD 1 0).toNat:Int)]) (v:=.int .u8 ((s.getD 1 0).toNat:Int)) kz (AtF.move ab hW.step nilM qba).at_ fun bG aI=>?_)
 refine qal [3,4] [] [(0,.v (.slice A s.length c)),(4,.v (.int .u32 (IntKind.u32.wrap (BitVec.ofInt 32 (IntKind.u32.wrap (IntKind.u8.wrap (BitVec.ofInt 8 ((s.getD 0 0).toNat:Int) &&& BitVec.ofInt 8 127).toNat)) ||| BitVec.ofInt 32 (IntKind.u32.wrap ((IntKind.u32.wrap (IntKind.u8.wrap (BitVec.ofInt 8 ((s.getD 1 0).toNat:Int) &&& BitVec.ofInt 8 127).toNat)) * 128))).toNat))),(35,.v (.bool ((IntKind.u8.wrap (BitVec.ofInt 8 ((s.getD 1 0).toNat:Int) &&& BitVec.ofInt 8 128).toNat) == 0)))] hW aI fun bH aj=>?_
 refine qaf (qab ?_)
 refine qar aj (b:=(IntKind.u8.wrap (BitVec.ofInt 8 ((s.getD 1 0).toNat:Int) &&& BitVec.ofInt 8 128).toNat) == 0) kz ((qc7 _ (qcb s 1)).trans (decide_eq_false (by have:=h1; unfold oc at this; omega))) ?_
 refine qap [(0,.v (.slice A s.length c)),(4,.v (.int .u32 (IntKind.u32.wrap (BitVec.ofInt 32 (IntKind.u32.wrap (IntKind.u8.wrap (BitVec.ofInt 8 ((s.getD 0 0).toNat:Int) &&& BitVec.ofInt 8 127).toNat)) ||| BitVec.ofInt 32 (IntKind.u32.wrap ((IntKind.u32.wrap (IntKind.u8.wrap (BitVec.ofInt 8 ((s.getD 1 0).toNat:Int) &&& BitVec.ofInt 8 127).toNat)) * 128))).toNat))),(39,.v (.bool (decide (((s.length:Nat):Int) < 3))))] hW aj fun bI ak=>?_
 refine qar ak (b:=decide (((s.length:Nat):Int) < 3)) kz (decide_eq_false (by omega)) ?_
 refine wp_skip (qab (qae [0,1,2,3,4,5,6,7,8] kz ?_))
 refine qal [0,1] [2,3,4,5,6,7,8] [(0,.v (.slice A s.length c)),(40,.v (.int .u32 (IntKind.u32.wrap (BitVec.ofInt 32 (IntKind.u32.wrap (IntKind.u8.wrap (BitVec.ofInt 8 ((s.getD 0 0).toNat:Int) &&& BitVec.ofInt 8 127).toNat)) ||| BitVec.ofInt 32 (IntKind.u32.wrap ((IntKind.u32.wrap (IntKind.u8.wrap (BitVec.ofInt 8 ((s.getD 1 0).toNat:Int) &&& BitVec.ofInt 8 127).toNat)) * 128))).toNat))),(41,.v (.slice A s.length c))] hW ak fun bJ aJ=>?_
 obtain ⟨bd,bf,al,bk,ac⟩:=Slots.get ho (i:=2) (by first | omega | (simp only [List.length_append,be_length,List.length_cons,List.length_nil] at *; omega))
 refine qan (qaD aJ (t:=22) (A:=A) (m:=s.length) (q:=2) (d:=42) kz (e:=5) (size:=1) (bytes:=1) (j:=2) kz al rfl (by first | omega | (simp only [List.length_append,be_length,List.length_cons,List.length_nil] at *; omega)) fun bK aK=>?_)
 refine qan (qaR aK (t:=5) (b:=bd) (o:=bf + 2 * 1) (d:=43) kz (cs:=[.int .u8 ((s.getD 2 0).toNat:Int)]) (v:=.int .u8 ((s.getD 2 0).toNat:Int)) kz (AtF.move ac hW.step nilM qba).at_ fun bL aL=>?_)
 refine qal [4,5,6,7,8] [] [(0,.v (.slice A s.length c)),(4,.v (.int .u32 (IntKind.u32.wrap (BitVec.ofInt 32 (IntKind.u32.wrap (BitVec.ofInt 32 (IntKind.u32.wrap (IntKind.u8.wrap (BitVec.ofInt 8 ((s.getD 0 0).toNat:Int) &&& BitVec.ofInt 8 127).toNat)) ||| BitVec.ofInt 32 (IntKind.u32.wrap ((IntKind.u32.wrap (IntKind.u8.wrap (BitVec.ofInt 8 ((s.getD 1 0).toNat:Int) &&& BitVec.ofInt 8 127).toNat)) * 128))).toNat) ||| BitVec.ofInt 32 (IntKind.u32.wrap ((IntKind.u32.wrap (IntKind.u8.wrap (BitVec.ofInt 8 ((s.getD 2 0).toNat:Int) &&& BitVec.ofInt 8 127).toNat)) * 16384))).toNat)))] hW aL fun bM aM=>?_
 refine qaf (qab ?_)
 refine wp_seq (qae [0,1,2,3,4] kz ?_)
 refine qal [0] [1,2,3,4] [(0,.v (.slice A s.length c)),(4,.v (.int .u32 (IntKind.u32.wrap (BitVec.ofInt 32 (IntKind.u32.wrap (BitVec.ofInt 32 (IntKind.u32.wrap (IntKind.u8.wrap (BitVec.ofInt 8 ((s.getD 0 0).toNat:Int) &&& BitVec.ofInt 8 127).toNat)) ||| BitVec.ofInt 32 (IntKind.u32.wrap ((IntKind.u32.wrap (IntKind.u8.wrap (BitVec.ofInt 8 ((s.getD 1 0).toNat:Int) &&& BitVec.ofInt 8 127).toNat)) * 128))).toNat) ||| BitVec.ofInt 32 (IntKind.u32.wrap ((IntKind.u32.wrap (IntKind.u8.wrap (BitVec.ofInt 8 ((s.getD 2 0).toNat:Int) &&& BitVec.ofInt 8 127).toNat)) * 16384))).toNat))),(48,.v (.slice A s.length c))] hW aM fun bN aN=>?_
 refine qan (qaD aN (t:=22) (A:=A) (m:=s.length) (q:=2) (d:=49) kz (e:=5) (size:=1) (bytes:=1) (j:=2) kz al rfl (by first | omega | (simp only [List.length_append,be_length,List.length_cons,List.length_nil] at *; omega)) fun bO aO=>?_)
 refine qan (qaR aO (t:=5) (b:=bd) (o:=bf + 2 * 1) (d:=50) kz (cs:=[.int .u8 ((s.getD 2 0).toNat:Int)]) (v:=.int .u8 ((s.getD 2 0).toNat:Int)) kz (AtF.move ac hW.step nilM qba).at_ fun bP aP=>?_)
 refine qal [3,4] [] [(0,.v (.slice A s.length c)),(4,.v (.int .u32 (IntKind.u32.wrap (BitVec.ofInt 32 (IntKind.u32.wrap (BitVec.ofInt 32 (IntKind.u32.wrap (IntKind.u8.wrap (BitVec.ofInt 8 ((s.getD 0 0).toNat:Int) &&& BitVec.ofInt 8 127).toNat)) ||| BitVec.ofInt 32 (IntKind.u32.wrap ((IntKind.u32.wrap (IntKind.u8.wrap (BitVec.ofInt 8 ((s.getD 1 0).toNat:Int) &&& BitVec.ofInt 8 127).toNat)) * 128))).toNat) ||| BitVec.ofInt 32 (IntKind.u32.wrap ((IntKind.u32.wrap (IntKind.u8.wrap (BitVec.ofInt 8 ((s.getD 2 0).toNat:Int) &&& BitVec.ofInt 8 127).toNat)) * 16384))).toNat))),(52,.v (.bool ((IntKind.u8.wrap (BitVec.ofInt 8 ((s.getD 2 0).toNat:Int) &&& BitVec.ofInt 8 128).toNat) == 0)))] hW aP fun bQ am=>?_
 refine qaf (qab ?_)
 refine qar am (b:=(IntKind.u8.wrap (BitVec.ofInt 8 ((s.getD 2 0).toNat:Int) &&& BitVec.ofInt 8 128).toNat) == 0) kz ((qc7 _ (qcb s 2)).trans (decide_eq_false (by have:=h2; unfold oc at this; omega))) ?_
 refine qap [(0,.v (.slice A s.length c)),(4,.v (.int .u32 (IntKind.u32.wrap (BitVec.ofInt 32 (IntKind.u32.wrap (BitVec.ofInt 32 (IntKind.u32.wrap (IntKind.u8.wrap (BitVec.ofInt 8 ((s.getD 0 0).toNat:Int) &&& BitVec.ofInt 8 127).toNat)) ||| BitVec.ofInt 32 (IntKind.u32.wrap ((IntKind.u32.wrap (IntKind.u8.wrap (BitVec.ofInt 8 ((s.getD 1 0).toNat:Int) &&& BitVec.ofInt 8 127).toNat)) * 128))).toNat) ||| BitVec.ofInt 32 (IntKind.u32.wrap ((IntKind.u32.wrap (IntKind.u8.wrap (BitVec.ofInt 8 ((s.getD 2 0).toNat:Int) &&& BitVec.ofInt 8 127).toNat)) * 16384))).toNat))),(56,.v (.bool (decide (((s.length:Nat):Int) < 4))))] hW am fun bR ao=>?_
 refine qar ao (b:=decide (((s.length:Nat):Int) < 4)) kz (decide_eq_false (by omega)) ?_
 refine wp_skip (qab (qae [0,1,2,3,4,5,6,7,8] kz ?_))
 refine qal [0,1] [2,3,4,5,6,7,8] [(0,.v (.slice A s.length c)),(57,.v (.int .u32 (IntKind.u32.wrap (BitVec.ofInt 32 (IntKind.u32.wrap (BitVec.ofInt 32 (IntKind.u32.wrap (IntKind.u8.wrap (BitVec.ofInt 8 ((s.getD 0 0).toNat:Int) &&& BitVec.ofInt 8 127).toNat)) ||| BitVec.ofInt 32 (IntKind.u32.wrap ((IntKind.u32.wrap (IntKind.u8.wrap (BitVec.ofInt 8 ((s.getD 1 0).toNat:Int) &&& BitVec.ofInt 8 127).toNat)) * 128))).toNat) ||| BitVec.ofInt 32 (IntKind.u32.wrap ((IntKind.u32.wrap (IntKind.u8.wrap (BitVec.ofInt 8 ((s.getD 2 0).toNat:Int) &&& BitVec.ofInt 8 127).toNat)) * 16384))).toNat))),(58,.v (.slice A s.length c))] hW ao fun bS aQ=>?_
 obtain ⟨bg,bh,ap,bn,ae⟩:=Slots.get ho (i:=3) (by first | omega | (simp only [List.length_append,be_length,List.length_cons,List.length_nil] at *; omega))
 refine qan (qaD aQ (t:=22) (A:=A) (m:=s.length) (q:=3) (d:=59) kz (e:=5) (size:=1) (bytes:=1) (j:=3) kz ap rfl (by first | omega | (simp only [List.length_append,be_length,List.length_cons,List.length_nil] at *; omega)) fun bT aR=>?_)
 refine qan (qaR aR (t:=5) (b:=bg) (o:=bh + 3 * 1) (d:=60) kz (cs:=[.int .u8 ((s.getD 3 0).toNat:Int)]) (v:=.int .u8 ((s.getD 3 0).toNat:Int)) kz (AtF.move ae hW.step nilM qba).at_ fun bU aS=>?_)
 refine qal [4,5,6,7,8] [] [(0,.v (.slice A s.length c)),(4,.v (.int .u32 (IntKind.u32.wrap (BitVec.ofInt 32 (IntKind.u32.wrap (BitVec.ofInt 32 (IntKind.u32.wrap (BitVec.ofInt 32 (IntKind.u32.wrap (IntKind.u8.wrap (BitVec.ofInt 8 ((s.getD 0 0).toNat:Int) &&& BitVec.ofInt 8 127).toNat)) ||| BitVec.ofInt 32 (IntKind.u32.wrap ((IntKind.u32.wrap (IntKind.u8.wrap (BitVec.ofInt 8 ((s.getD 1 0).toNat:Int) &&& BitVec.ofInt 8 127).toNat)) * 128))).toNat) ||| BitVec.ofInt 32 (IntKind.u32.wrap ((IntKind.u32.wrap (IntKind.u8.wrap (BitVec.ofInt 8 ((s.getD 2 0).toNat:Int) &&& BitVec.ofInt 8 127).toNat)) * 16384))).toNat) ||| BitVec.ofInt 32 (IntKind.u32.wrap ((IntKind.u32.wrap (IntKind.u8.wrap (BitVec.ofInt 8 ((s.getD 3 0).toNat:Int) &&& BitVec.ofInt 8 127).toNat)) * 2097152))).toNat)))] hW aS fun bV aT=>?_
 refine qaf (qab ?_)
 refine wp_seq (qae [0,1,2,3,4] kz ?_)
 refine qal [0] [1,2,3,4] [(0,.v (.slice A s.length c)),(4,.v (.int .u32 (IntKind.u32.wrap (BitVec.ofInt 32 (IntKind.u32.wrap (BitVec.ofInt 32 (IntKind.u32.wrap (BitVec.ofInt 32 (IntKind.u32.wrap (IntKind.u8.wrap (BitVec.ofInt 8 ((s.getD 0 0).toNat:Int) &&& BitVec.ofInt 8 127).toNat)) ||| BitVec.ofInt 32 (IntKind.u32.wrap ((IntKind.u32.wrap (IntKind.u8.wrap (BitVec.ofInt 8 ((s.getD 1 0).toNat:Int) &&& BitVec.ofInt 8 127).toNat)) * 128))).toNat) ||| BitVec.ofInt 32 (IntKind.u32.wrap ((IntKind.u32.wrap (IntKind.u8.wrap (BitVec.ofInt 8 ((s.getD 2 0).toNat:Int) &&& BitVec.ofInt 8 127).toNat)) * 16384))).toNat) ||| BitVec.ofInt 32 (IntKind.u32.wrap ((IntKind.u32.wrap (IntKind.u8.wrap (BitVec.ofInt 8 ((s.getD 3 0).toNat:Int) &&& BitVec.ofInt 8 127).toNat)) * 2097152))).toNat))),(65,.v (.slice A s.length c))] hW aT fun bW aU=>?_
 refine qan (qaD aU (t:=22) (A:=A) (m:=s.length) (q:=3) (d:=66) kz (e:=5) (size:=1) (bytes:=1) (j:=3) kz ap rfl (by first | omega | (simp only [List.length_append,be_length,List.length_cons,List.length_nil] at *; omega)) fun bX aV=>?_)
 refine qan (qaR aV (t:=5) (b:=bg) (o:=bh + 3 * 1) (d:=67) kz (cs:=[.int .u8 ((s.getD 3 0).toNat:Int)]) (v:=.int .u8 ((s.getD 3 0).toNat:Int)) kz (AtF.move ae hW.step nilM qba).at_ fun bY aW=>?_)
 refine qal [3,4] [] [(0,.v (.slice A s.length c)),(4,.v (.int .u32 (IntKind.u32.wrap (BitVec.ofInt 32 (IntKind.u32.wrap (BitVec.ofInt 32 (IntKind.u32.wrap (BitVec.ofInt 32 (IntKind.u32.wrap (IntKind.u8.wrap (BitVec.ofInt 8 ((s.getD 0 0).toNat:Int) &&& BitVec.ofInt 8 127).toNat)) ||| BitVec.ofInt 32 (IntKind.u32.wrap ((IntKind.u32.wrap (IntKind.u8.wrap (BitVec.ofInt 8 ((s.getD 1 0).toNat:Int) &&& BitVec.ofInt 8 127).toNat)) * 128))).toNat) ||| BitVec.ofInt 32 (IntKind.u32.wrap ((IntKind.u32.wrap (IntKind.u8.wrap (BitVec.ofInt 8 ((s.getD 2 0).toNat:Int) &&& BitVec.ofInt 8 127).toNat)) * 16384))).toNat) ||| BitVec.ofInt 32 (IntKind.u32.wrap ((IntKind.u32.wrap (IntKind.u8.wrap (BitVec.ofInt 8 ((s.getD 3 0).toNat:Int) &&& BitVec.ofInt 8 127).toNat)) * 2097152))).toNat))),(69,.v (.bool ((IntKind.u8.wrap (BitVec.ofInt 8 ((s.getD 3 0).toNat:Int) &&& BitVec.ofInt 8 128).toNat) == 0)))] hW aW fun bZ ar=>?_
 refine qaf (qab ?_)
 refine qa2 ar (b:=(IntKind.u8.wrap (BitVec.ofInt 8 ((s.getD 3 0).toNat:Int) &&& BitVec.ofInt 8 128).toNat) == 0) kz ((qc7 _ (qcb s 3)).trans (decide_eq_true (by have:=h3; unfold oc at this; omega))) ?_
 refine qap [(2,.v (.int .u32 (IntKind.u32.wrap (BitVec.ofInt 32 (IntKind.u32.wrap (BitVec.ofInt 32 (IntKind.u32.wrap (BitVec.ofInt 32 (IntKind.u32.wrap (IntKind.u8.wrap (BitVec.ofInt 8 ((s.getD 0 0).toNat:Int) &&& BitVec.ofInt 8 127).toNat)) ||| BitVec.ofInt 32 (IntKind.u32.wrap ((IntKind.u32.wrap (IntKind.u8.wrap (BitVec.ofInt 8 ((s.getD 1 0).toNat:Int) &&& BitVec.ofInt 8 127).toNat)) * 128))).toNat) ||| BitVec.ofInt 32 (IntKind.u32.wrap ((IntKind.u32.wrap (IntKind.u8.wrap (BitVec.ofInt 8 ((s.getD 2 0).toNat:Int) &&& BitVec.ofInt 8 127).toNat)) * 16384))).toNat) ||| BitVec.ofInt 32 (IntKind.u32.wrap ((IntKind.u32.wrap (IntKind.u8.wrap (BitVec.ofInt 8 ((s.getD 3 0).toNat:Int) &&& BitVec.ofInt 8 127).toNat)) * 2097152))).toNat))),(3,.v (.int .i64 4))] hW ar fun b8 au=>?_
 refine wp_ret (qaq (qdG (qaL au hW.cells (v:=.tuple #[.int .u32 (IntKind.u32.wrap (BitVec.ofInt 32 (IntKind.u32.wrap (BitVec.ofInt 32 (IntKind.u32.wrap (BitVec.ofInt 32 (IntKind.u32.wrap (IntKind.u8.wrap (BitVec.ofInt 8 ((s.getD 0 0).toNat:Int) &&& BitVec.ofInt 8 127).toNat)) ||| BitVec.ofInt 32 (IntKind.u32.wrap ((IntKind.u32.wrap (IntKind.u8.wrap (BitVec.ofInt 8 ((s.getD 1 0).toNat:Int) &&& BitVec.ofInt 8 127).toNat)) * 128))).toNat) ||| BitVec.ofInt 32 (IntKind.u32.wrap ((IntKind.u32.wrap (IntKind.u8.wrap (BitVec.ofInt 8 ((s.getD 2 0).toNat:Int) &&& BitVec.ofInt 8 127).toNat)) * 16384))).toNat) ||| BitVec.ofInt 32 (IntKind.u32.wrap ((IntKind.u32.wrap (IntKind.u8.wrap (BitVec.ofInt 8 ((s.getD 3 0).toNat:Int) &&& BitVec.ofInt 8 127).toNat)) * 2097152))).toNat),.int .i64 4]) kz ?_)))
 have e_:=uv_4 (oc s 0) (oc s 1) (oc s 2) (oc s 3) (qcb s 0) (qcb s 1) (qcb s 2) (qcb s 3)
 refine ⟨congrArg (fun z_:Int=>Ending.returned (.tuple #[.int .u32 z_,.int .i64 4])) (Eq.trans e_ ?_),hW.step⟩
 omega
theorem rUv5 {A:Option Addr} {c:Nat} (s:Bs) {w:World} {F:Nat → Nat → Prop} (ho:Octs w F A c s) (hl:5 ≤ s.length) (d0 d1 d2 d3 d4:Nat) (h0:oc s 0 = d0 + 128) (h1:oc s 1 = d1 + 128) (h2:oc s 2 = d2 + 128) (h3:oc s 3 = d3 + 128) (h4:oc s 4 = d4) (g0:d0 < 128) (g1:d1 < 128) (g2:d2 < 128) (g3:d3 < 128) (g4:d4 < 16) :
  Calls Tryz.prog 205 #[.slice A s.length c] w (qch w (.tuple #[.int .u32 ((d0 + d1 * 128 + d2 * 16384 + d3 * 2097152 + d4 * 268435456:Nat):Int),.int .i64 5])):=by
 refine enter (n:=87) Tryz.func205 rfl Tryz.ntmps205 kz fun a hE=>?_
 have hW:=WOk.start w Nil
 refine qap [(0,.v (.slice A s.length c))] hW hE fun a1 hE2=>?_
 refine wp_scope_straight (qap [(0,.v (.slice A s.length c))] hW hE2 fun a3 hE4=>?_)
 refine qap [(0,.v (.slice A s.length c))] hW hE4 fun a5 hE6=>?_
 refine wp_seq (qap [(0,.v (.slice A s.length c)),(8,.v (.bool (decide (((s.length:Nat):Int) < 1))))] hW hE6 fun a7 hE8=>?_)
 refine qar hE8 (b:=decide (((s.length:Nat):Int) < 1)) kz (decide_eq_false (by omega)) ?_
 refine wp_skip (qab (qae [0,1,2,3,4,5] kz ?_))
 refine qal [0] [1,2,3,4,5] (z48 A s.length c) hW hE8 fun a9 aI=>?_
 obtain ⟨bp,bq,aj,bC,ab⟩:=Slots.get ho (i:=0) (by first | omega | (simp only [List.length_append,be_length,List.length_cons,List.length_nil] at *; omega))
 refine qan (qaD aI (t:=22) (A:=A) (m:=s.length) (q:=0) (d:=10) kz (e:=5) (size:=1) (bytes:=1) (j:=0) kz aj rfl (by first | omega | (simp only [List.length_append,be_length,List.length_cons,List.length_nil] at *; omega)) fun bP aJ=>?_)
 refine qan (qaR aJ (t:=5) (b:=bp) (o:=bq + 0 * 1) (d:=11) kz (cs:=[.int .u8 ((s.getD 0 0).toNat:Int)]) (v:=.int .u8 ((s.getD 0 0).toNat:Int)) kz (AtF.move ab hW.step nilM qba).at_ fun bQ aK=>?_)
 refine qal [3,4,5] [] [(0,.v (.slice A s.length c)),(4,.v (.int .u32 (IntKind.u32.wrap (IntKind.u8.wrap (BitVec.ofInt 8 ((s.getD 0 0).toNat:Int) &&& BitVec.ofInt 8 127).toNat))))] hW aK fun bR aL=>?_
 refine qaf (qab ?_)
 refine wp_seq (qae [0,1,2,3,4] kz ?_)
 refine qal [0] [1,2,3,4] [(0,.v (.slice A s.length c)),(4,.v (.int .u32 (IntKind.u32.wrap (IntKind.u8.wrap (BitVec.ofInt 8 ((s.getD 0 0).toNat:Int) &&& BitVec.ofInt 8 127).toNat)))),(14,.v (.slice A s.length c))] hW aL fun bS aM=>?_
 refine qan (qaD aM (t:=22) (A:=A) (m:=s.length) (q:=0) (d:=15) kz (e:=5) (size:=1) (bytes:=1) (j:=0) kz aj rfl (by first | omega | (simp only [List.length_append,be_length,List.length_cons,List.length_nil] at *; omega)) fun bT aN=>?_)
 refine qan (qaR aN (t:=5) (b:=bp) (o:=bq + 0 * 1) (d:=16) kz (cs:=[.int .u8 ((s.getD 0 0).toNat:Int)]) (v:=.int .u8 ((s.getD 0 0).toNat:Int)) kz (AtF.move ab hW.step nilM qba).at_ fun bU aO=>?_)
 refine qal [3,4] [] [(0,.v (.slice A s.length c)),(4,.v (.int .u32 (IntKind.u32.wrap (IntKind.u8.wrap (BitVec.ofInt 8 ((s.getD 0 0).toNat:Int) &&& BitVec.ofInt 8 127).toNat)))),(18,.v (.bool ((IntKind.u8.wrap (BitVec.ofInt 8 ((s.getD 0 0).toNat:Int) &&& BitVec.ofInt 8 128).toNat) == 0)))] hW aO fun bV ak=>?_
 refine qaf (qab ?_)
 refine qar ak (b:=(IntKind.u8.wrap (BitVec.ofInt 8 ((s.getD 0 0).toNat:Int) &&& BitVec.ofInt 8 128).toNat) == 0) kz ((qc7 _ (qcb s 0)).trans (decide_eq_false (by have:=h0; unfold oc at this; omega))) ?_
 refine qap [(0,.v (.slice A s.length c)),(4,.v (.int .u32 (IntKind.u32.wrap (IntKind.u8.wrap (BitVec.ofInt 8 ((s.getD 0 0).toNat:Int) &&& BitVec.ofInt 8 127).toNat)))),(22,.v (.bool (decide (((s.length:Nat):Int) < 2))))] hW ak fun bW al=>?_
 refine qar al (b:=decide (((s.length:Nat):Int) < 2)) kz (decide_eq_false (by omega)) ?_
 refine wp_skip (qab (qae [0,1,2,3,4,5,6,7,8] kz ?_))
 refine qal [0,1] [2,3,4,5,6,7,8] [(0,.v (.slice A s.length c)),(23,.v (.int .u32 (IntKind.u32.wrap (IntKind.u8.wrap (BitVec.ofInt 8 ((s.getD 0 0).toNat:Int) &&& BitVec.ofInt 8 127).toNat)))),(24,.v (.slice A s.length c))] hW al fun bX aP=>?_
 obtain ⟨bt,bu,am,bD,ac⟩:=Slots.get ho (i:=1) (by first | omega | (simp only [List.length_append,be_length,List.length_cons,List.length_nil] at *; omega))
 refine qan (qaD aP (t:=22) (A:=A) (m:=s.length) (q:=1) (d:=25) kz (e:=5) (size:=1) (bytes:=1) (j:=1) kz am rfl (by first | omega | (simp only [List.length_append,be_length,List.length_cons,List.length_nil] at *; omega)) fun bY aQ=>?_)
 refine qan (qaR aQ (t:=5) (b:=bt) (o:=bu + 1 * 1) (d:=26) kz (cs:=[.int .u8 ((s.getD 1 0).toNat:Int)]) (v:=.int .u8 ((s.getD 1 0).toNat:Int)) kz (AtF.move ac hW.step nilM qba).at_ fun bZ aR=>?_)
 refine qal [4,5,6,7,8] [] [(0,.v (.slice A s.length c)),(4,.v (.int .u32 (IntKind.u32.wrap (BitVec.ofInt 32 (IntKind.u32.wrap (IntKind.u8.wrap (BitVec.ofInt 8 ((s.getD 0 0).toNat:Int) &&& BitVec.ofInt 8 127).toNat)) ||| BitVec.ofInt 32 (IntKind.u32.wrap ((IntKind.u32.wrap (IntKind.u8.wrap (BitVec.ofInt 8 ((s.getD 1 0).toNat:Int) &&& BitVec.ofInt 8 127).toNat)) * 128))).toNat)))] hW aR fun b8 aS=>?_
 refine qaf (qab ?_)
 refine wp_seq (qae [0,1,2,3,4] kz ?_)
 refine qal [0] [1,2,3,4] [(0,.v (.slice A s.length c)),(4,.v (.int .u32 (IntKind.u32.wrap (BitVec.ofInt 32 (IntKind.u32.wrap (IntKind.u8.wrap (BitVec.ofInt 8 ((s.getD 0 0).toNat:Int) &&& BitVec.ofInt 8 127).toNat)) ||| BitVec.ofInt 32 (IntKind.u32.wrap ((IntKind.u32.wrap (IntKind.u8.wrap (BitVec.ofInt 8 ((s.getD 1 0).toNat:Int) &&& BitVec.ofInt 8 127).toNat)) * 128))).toNat))),(31,.v (.slice A s.length c))] hW aS fun cd aT=>?_
 refine qan (qaD aT (t:=22) (A:=A) (m:=s.length) (q:=1) (d:=32) kz (e:=5) (size:=1) (bytes:=1) (j:=1) kz am rfl (by first | omega | (simp only [List.length_append,be_length,List.length_cons,List.length_nil] at *; omega)) fun ce aU=>?_)
 refine qan (qaR aU (t:=5) (b:=bt) (o:=bu + 1 * 1) (d:=33) kz (cs:=[.int .u8 ((s.getD 1 0).toNat:Int)]) (v:=.int .u8 ((s.getD 1 0).toNat:Int)) kz (AtF.move ac hW.step nilM qba).at_ fun cm aV=>?_)
 refine qal [3,4] [] [(0,.v (.slice A s.length c)),(4,.v (.int .u32 (IntKind.u32.wrap (BitVec.ofInt 32 (IntKind.u32.wrap (IntKind.u8.wrap (BitVec.ofInt 8 ((s.getD 0 0).toNat:Int) &&& BitVec.ofInt 8 127).toNat)) ||| BitVec.ofInt 32 (IntKind.u32.wrap ((IntKind.u32.wrap (IntKind.u8.wrap (BitVec.ofInt 8 ((s.getD 1 0).toNat:Int) &&& BitVec.ofInt 8 127).toNat)) * 128))).toNat))),(35,.v (.bool ((IntKind.u8.wrap (BitVec.ofInt 8 ((s.getD 1 0).toNat:Int) &&& BitVec.ofInt 8 128).toNat) == 0)))] hW aV fun cq ao=>?_
 refine qaf (qab ?_)
 refine qar ao (b:=(IntKind.u8.wrap (BitVec.ofInt 8 ((s.getD 1 0).toNat:Int) &&& BitVec.ofInt 8 128).toNat) == 0) kz ((qc7 _ (qcb s 1)).trans (decide_eq_false (by have:=h1; unfold oc at this; omega))) ?_
 refine qap [(0,.v (.slice A s.length c)),(4,.v (.int .u32 (IntKind.u32.wrap (BitVec.ofInt 32 (IntKind.u32.wrap (IntKind.u8.wrap (BitVec.ofInt 8 ((s.getD 0 0).toNat:Int) &&& BitVec.ofInt 8 127).toNat)) ||| BitVec.ofInt 32 (IntKind.u32.wrap ((IntKind.u32.wrap (IntKind.u8.wrap (BitVec.ofInt 8 ((s.getD 1 0).toNat:Int) &&& BitVec.ofInt 8 127).toNat)) * 128))).toNat))),(39,.v (.bool (decide (((s.length:Nat):Int) < 3))))] hW ao fun cr ap=>?_
 refine qar ap (b:=decide (((s.length:Nat):Int) < 3)) kz (decide_eq_false (by omega)) ?_
 refine wp_skip (qab (qae [0,1,2,3,4,5,6,7,8] kz ?_))
 refine qal [0,1] [2,3,4,5,6,7,8] [(0,.v (.slice A s.length c)),(40,.v (.int .u32 (IntKind.u32.wrap (BitVec.ofInt 32 (IntKind.u32.wrap (IntKind.u8.wrap (BitVec.ofInt 8 ((s.getD 0 0).toNat:Int) &&& BitVec.ofInt 8 127).toNat)) ||| BitVec.ofInt 32 (IntKind.u32.wrap ((IntKind.u32.wrap (IntKind.u8.wrap (BitVec.ofInt 8 ((s.getD 1 0).toNat:Int) &&& BitVec.ofInt 8 127).toNat)) * 128))).toNat))),(41,.v (.slice A s.length c))] hW ap fun cu aW=>?_
 obtain ⟨bw,bx,ar,bE,ae⟩:=Slots.get ho (i:=2) (by first | omega | (simp only [List.length_append,be_length,List.length_cons,List.length_nil] at *; omega))
 refine qan (qaD aW (t:=22) (A:=A) (m:=s.length) (q:=2) (d:=42) kz (e:=5) (size:=1) (bytes:=1) (j:=2) kz ar rfl (by first | omega | (simp only [List.length_append,be_length,List.length_cons,List.length_nil] at *; omega)) fun cw aX=>?_)
 refine qan (qaR aX (t:=5) (b:=bw) (o:=bx + 2 * 1) (d:=43) kz (cs:=[.int .u8 ((s.getD 2 0).toNat:Int)]) (v:=.int .u8 ((s.getD 2 0).toNat:Int)) kz (AtF.move ae hW.step nilM qba).at_ fun cz aY=>?_)
 refine qal [4,5,6,7,8] [] [(0,.v (.slice A s.length c)),(4,.v (.int .u32 (IntKind.u32.wrap (BitVec.ofInt 32 (IntKind.u32.wrap (BitVec.ofInt 32 (IntKind.u32.wrap (IntKind.u8.wrap (BitVec.ofInt 8 ((s.getD 0 0).toNat:Int) &&& BitVec.ofInt 8 127).toNat)) ||| BitVec.ofInt 32 (IntKind.u32.wrap ((IntKind.u32.wrap (IntKind.u8.wrap (BitVec.ofInt 8 ((s.getD 1 0).toNat:Int) &&& BitVec.ofInt 8 127).toNat)) * 128))).toNat) ||| BitVec.ofInt 32 (IntKind.u32.wrap ((IntKind.u32.wrap (IntKind.u8.wrap (BitVec.ofInt 8 ((s.getD 2 0).toNat:Int) &&& BitVec.ofInt 8 127).toNat)) * 16384))).toNat)))] hW aY fun cA aZ=>?_
 refine qaf (qab ?_)
 refine wp_seq (qae [0,1,2,3,4] kz ?_)
 refine qal [0] [1,2,3,4] [(0,.v (.slice A s.length c)),(4,.v (.int .u32 (IntKind.u32.wrap (BitVec.ofInt 32 (IntKind.u32.wrap (BitVec.ofInt 32 (IntKind.u32.wrap (IntKind.u8.wrap (BitVec.ofInt 8 ((s.getD 0 0).toNat:Int) &&& BitVec.ofInt 8 127).toNat)) ||| BitVec.ofInt 32 (IntKind.u32.wrap ((IntKind.u32.wrap (IntKind.u8.wrap (BitVec.ofInt 8 ((s.getD 1 0).toNat:Int) &&& BitVec.ofInt 8 127).toNat)) * 128))).toNat) ||| BitVec.ofInt 32 (IntKind.u32.wrap ((IntKind.u32.wrap (IntKind.u8.wrap (BitVec.ofInt 8 ((s.getD 2 0).toNat:Int) &&& BitVec.ofInt 8 127).toNat)) * 16384))).toNat))),(48,.v (.slice A s.length c))] hW aZ fun cB ba=>?_
 refine qan (qaD ba (t:=22) (A:=A) (m:=s.length) (q:=2) (d:=49) kz (e:=5) (size:=1) (bytes:=1) (j:=2) kz ar rfl (by first | omega | (simp only [List.length_append,be_length,List.length_cons,List.length_nil] at *; omega)) fun cC bd=>?_)
 refine qan (qaR bd (t:=5) (b:=bw) (o:=bx + 2 * 1) (d:=50) kz (cs:=[.int .u8 ((s.getD 2 0).toNat:Int)]) (v:=.int .u8 ((s.getD 2 0).toNat:Int)) kz (AtF.move ae hW.step nilM qba).at_ fun cD bf=>?_)
 refine qal [3,4] [] [(0,.v (.slice A s.length c)),(4,.v (.int .u32 (IntKind.u32.wrap (BitVec.ofInt 32 (IntKind.u32.wrap (BitVec.ofInt 32 (IntKind.u32.wrap (IntKind.u8.wrap (BitVec.ofInt 8 ((s.getD 0 0).toNat:Int) &&& BitVec.ofInt 8 127).toNat)) ||| BitVec.ofInt 32 (IntKind.u32.wrap ((IntKind.u32.wrap (IntKind.u8.wrap (BitVec.ofInt 8 ((s.getD 1 0).toNat:Int) &&& BitVec.ofInt 8 127).toNat)) * 128))).toNat) ||| BitVec.ofInt 32 (IntKind.u32.wrap ((IntKind.u32.wrap (IntKind.u8.wrap (BitVec.ofInt 8 ((s.getD 2 0).toNat:Int) &&& BitVec.ofInt 8 127).toNat)) * 16384))).toNat))),(52,.v (.bool ((IntKind.u8.wrap (BitVec.ofInt 8 ((s.getD 2 0).toNat:Int) &&& BitVec.ofInt 8 128).toNat) == 0)))] hW bf fun cE au=>?_
 refine qaf (qab ?_)
 refine qar au (b:=(IntKind.u8.wrap (BitVec.ofInt 8 ((s.getD 2 0).toNat:Int) &&& BitVec.ofInt 8 128).toNat) == 0) kz ((qc7 _ (qcb s 2)).trans (decide_eq_false (by have:=h2; unfold oc at this; omega))) ?_
 refine qap [(0,.v (.slice A s.length c)),(4,.v (.int .u32 (IntKind.u32.wrap (BitVec.ofInt 32 (IntKind.u32.wrap (BitVec.ofInt 32 (IntKind.u32.wrap (IntKind.u8.wrap (BitVec.ofInt 8 ((s.getD 0 0).toNat:Int) &&& BitVec.ofInt 8 127).toNat)) ||| BitVec.ofInt 32 (IntKind.u32.wrap ((IntKind.u32.wrap (IntKind.u8.wrap (BitVec.ofInt 8 ((s.getD 1 0).toNat:Int) &&& BitVec.ofInt 8 127).toNat)) * 128))).toNat) ||| BitVec.ofInt 32 (IntKind.u32.wrap ((IntKind.u32.wrap (IntKind.u8.wrap (BitVec.ofInt 8 ((s.getD 2 0).toNat:Int) &&& BitVec.ofInt 8 127).toNat)) * 16384))).toNat))),(56,.v (.bool (decide (((s.length:Nat):Int) < 4))))] hW au fun cG av=>?_
 refine qar av (b:=decide (((s.length:Nat):Int) < 4)) kz (decide_eq_false (by omega)) ?_
 refine wp_skip (qab (qae [0,1,2,3,4,5,6,7,8] kz ?_))
 refine qal [0,1] [2,3,4,5,6,7,8] [(0,.v (.slice A s.length c)),(57,.v (.int .u32 (IntKind.u32.wrap (BitVec.ofInt 32 (IntKind.u32.wrap (BitVec.ofInt 32 (IntKind.u32.wrap (IntKind.u8.wrap (BitVec.ofInt 8 ((s.getD 0 0).toNat:Int) &&& BitVec.ofInt 8 127).toNat)) ||| BitVec.ofInt 32 (IntKind.u32.wrap ((IntKind.u32.wrap (IntKind.u8.wrap (BitVec.ofInt 8 ((s.getD 1 0).toNat:Int) &&& BitVec.ofInt 8 127).toNat)) * 128))).toNat) ||| BitVec.ofInt 32 (IntKind.u32.wrap ((IntKind.u32.wrap (IntKind.u8.wrap (BitVec.ofInt 8 ((s.getD 2 0).toNat:Int) &&& BitVec.ofInt 8 127).toNat)) * 16384))).toNat))),(58,.v (.slice A s.length c))] hW av fun cH bg=>?_
 obtain ⟨bz,bA,aw,bF,af⟩:=Slots.get ho (i:=3) (by first | omega | (simp only [List.length_append,be_length,List.length_cons,List.length_nil] at *; omega))
 refine qan (qaD bg (t:=22) (A:=A) (m:=s.length) (q:=3) (d:=59) kz (e:=5) (size:=1) (bytes:=1) (j:=3) kz aw rfl (by first | omega | (simp only [List.length_append,be_length,List.length_cons,List.length_nil] at *; omega)) fun cI bh=>?_)
 refine qan (qaR bh (t:=5) (b:=bz) (o:=bA + 3 * 1) (d:=60) kz (cs:=[.int .u8 ((s.getD 3 0).toNat:Int)]) (v:=.int .u8 ((s.getD 3 0).toNat:Int)) kz (AtF.move af hW.step nilM qba).at_ fun cJ bi=>?_)
 refine qal [4,5,6,7,8] [] [(0,.v (.slice A s.length c)),(4,.v (.int .u32 (IntKind.u32.wrap (BitVec.ofInt 32 (IntKind.u32.wrap (BitVec.ofInt 32 (IntKind.u32.wrap (BitVec.ofInt 32 (IntKind.u32.wrap (IntKind.u8.wrap (BitVec.ofInt 8 ((s.getD 0 0).toNat:Int) &&& BitVec.ofInt 8 127).toNat)) ||| BitVec.ofInt 32 (IntKind.u32.wrap ((IntKind.u32.wrap (IntKind.u8.wrap (BitVec.ofInt 8 ((s.getD 1 0).toNat:Int) &&& BitVec.ofInt 8 127).toNat)) * 128))).toNat) ||| BitVec.ofInt 32 (IntKind.u32.wrap ((IntKind.u32.wrap (IntKind.u8.wrap (BitVec.ofInt 8 ((s.getD 2 0).toNat:Int) &&& BitVec.ofInt 8 127).toNat)) * 16384))).toNat) ||| BitVec.ofInt 32 (IntKind.u32.wrap ((IntKind.u32.wrap (IntKind.u8.wrap (BitVec.ofInt 8 ((s.getD 3 0).toNat:Int) &&& BitVec.ofInt 8 127).toNat)) * 2097152))).toNat)))] hW bi fun cK bj=>?_
 refine qaf (qab ?_)
 refine wp_seq (qae [0,1,2,3,4] kz ?_)
 refine qal [0] [1,2,3,4] [(0,.v (.slice A s.length c)),(4,.v (.int .u32 (IntKind.u32.wrap (BitVec.ofInt 32 (IntKind.u32.wrap (BitVec.ofInt 32 (IntKind.u32.wrap (BitVec.ofInt 32 (IntKind.u32.wrap (IntKind.u8.wrap (BitVec.ofInt 8 ((s.getD 0 0).toNat:Int) &&& BitVec.ofInt 8 127).toNat)) ||| BitVec.ofInt 32 (IntKind.u32.wrap ((IntKind.u32.wrap (IntKind.u8.wrap (BitVec.ofInt 8 ((s.getD 1 0).toNat:Int) &&& BitVec.ofInt 8 127).toNat)) * 128))).toNat) ||| BitVec.ofInt 32 (IntKind.u32.wrap ((IntKind.u32.wrap (IntKind.u8.wrap (BitVec.ofInt 8 ((s.getD 2 0).toNat:Int) &&& BitVec.ofInt 8 127).toNat)) * 16384))).toNat) ||| BitVec.ofInt 32 (IntKind.u32.wrap ((IntKind.u32.wrap (IntKind.u8.wrap (BitVec.ofInt 8 ((s.getD 3 0).toNat:Int) &&& BitVec.ofInt 8 127).toNat)) * 2097152))).toNat))),(65,.v (.slice A s.length c))] hW bj fun cL bk=>?_
 refine qan (qaD bk (t:=22) (A:=A) (m:=s.length) (q:=3) (d:=66) kz (e:=5) (size:=1) (bytes:=1) (j:=3) kz aw rfl (by first | omega | (simp only [List.length_append,be_length,List.length_cons,List.length_nil] at *; omega)) fun cM bn=>?_)
 refine qan (qaR bn (t:=5) (b:=bz) (o:=bA + 3 * 1) (d:=67) kz (cs:=[.int .u8 ((s.getD 3 0).toNat:Int)]) (v:=.int .u8 ((s.getD 3 0).toNat:Int)) kz (AtF.move af hW.step nilM qba).at_ fun cN bo=>?_)
 refine qal [3,4] [] [(0,.v (.slice A s.length c)),(4,.v (.int .u32 (IntKind.u32.wrap (BitVec.ofInt 32 (IntKind.u32.wrap (BitVec.ofInt 32 (IntKind.u32.wrap (BitVec.ofInt 32 (IntKind.u32.wrap (IntKind.u8.wrap (BitVec.ofInt 8 ((s.getD 0 0).toNat:Int) &&& BitVec.ofInt 8 127).toNat)) ||| BitVec.ofInt 32 (IntKind.u32.wrap ((IntKind.u32.wrap (IntKind.u8.wrap (BitVec.ofInt 8 ((s.getD 1 0).toNat:Int) &&& BitVec.ofInt 8 127).toNat)) * 128))).toNat) ||| BitVec.ofInt 32 (IntKind.u32.wrap ((IntKind.u32.wrap (IntKind.u8.wrap (BitVec.ofInt 8 ((s.getD 2 0).toNat:Int) &&& BitVec.ofInt 8 127).toNat)) * 16384))).toNat) ||| BitVec.ofInt 32 (IntKind.u32.wrap ((IntKind.u32.wrap (IntKind.u8.wrap (BitVec.ofInt 8 ((s.getD 3 0).toNat:Int) &&& BitVec.ofInt 8 127).toNat)) * 2097152))).toNat))),(69,.v (.bool ((IntKind.u8.wrap (BitVec.ofInt 8 ((s.getD 3 0).toNat:Int) &&& BitVec.ofInt 8 128).toNat) == 0)))] hW bo fun cO ax=>?_
 refine qaf (qab ?_)
 refine qar ax (b:=(IntKind.u8.wrap (BitVec.ofInt 8 ((s.getD 3 0).toNat:Int) &&& BitVec.ofInt 8 128).toNat) == 0) kz ((qc7 _ (qcb s 3)).trans (decide_eq_false (by have:=h3; unfold oc at this; omega))) ?_
 refine qap [(0,.v (.slice A s.length c)),(4,.v (.int .u32 (IntKind.u32.wrap (BitVec.ofInt 32 (IntKind.u32.wrap (BitVec.ofInt 32 (IntKind.u32.wrap (BitVec.ofInt 32 (IntKind.u32.wrap (IntKind.u8.wrap (BitVec.ofInt 8 ((s.getD 0 0).toNat:Int) &&& BitVec.ofInt 8 127).toNat)) ||| BitVec.ofInt 32 (IntKind.u32.wrap ((IntKind.u32.wrap (IntKind.u8.wrap (BitVec.ofInt 8 ((s.getD 1 0).toNat:Int) &&& BitVec.ofInt 8 127).toNat)) * 128))).toNat) ||| BitVec.ofInt 32 (IntKind.u32.wrap ((IntKind.u32.wrap (IntKind.u8.wrap (BitVec.ofInt 8 ((s.getD 2 0).toNat:Int) &&& BitVec.ofInt 8 127).toNat)) * 16384))).toNat) ||| BitVec.ofInt 32 (IntKind.u32.wrap ((IntKind.u32.wrap (IntKind.u8.wrap (BitVec.ofInt 8 ((s.getD 3 0).toNat:Int) &&& BitVec.ofInt 8 127).toNat)) * 2097152))).toNat))),(73,.v (.bool (decide (((s.length:Nat):Int) < 5))))] hW ax fun cP ag=>?_
 refine qar ag (b:=decide (((s.length:Nat):Int) < 5)) kz (decide_eq_false (by omega)) ?_
 refine wp_skip (qab (qae [0,1,2,3,4,5,6,7] kz ?_))
 refine qal [0,1] [2,3,4,5,6,7] [(0,.v (.slice A s.length c)),(74,.v (.int .u32 (IntKind.u32.wrap (BitVec.ofInt 32 (IntKind.u32.wrap (BitVec.ofInt 32 (IntKind.u32.wrap (BitVec.ofInt 32 (IntKind.u32.wrap (IntKind.u8.wrap (BitVec.ofInt 8 ((s.getD 0 0).toNat:Int) &&& BitVec.ofInt 8 127).toNat)) ||| BitVec.ofInt 32 (IntKind.u32.wrap ((IntKind.u32.wrap (IntKind.u8.wrap (BitVec.ofInt 8 ((s.getD 1 0).toNat:Int) &&& BitVec.ofInt 8 127).toNat)) * 128))).toNat) ||| BitVec.ofInt 32 (IntKind.u32.wrap ((IntKind.u32.wrap (IntKind.u8.wrap (BitVec.ofInt 8 ((s.getD 2 0).toNat:Int) &&& BitVec.ofInt 8 127).toNat)) * 16384))).toNat) ||| BitVec.ofInt 32 (IntKind.u32.wrap ((IntKind.u32.wrap (IntKind.u8.wrap (BitVec.ofInt 8 ((s.getD 3 0).toNat:Int) &&& BitVec.ofInt 8 127).toNat)) * 2097152))).toNat))),(75,.v (.slice A s.length c))] hW ag fun bG ay=>?_
 obtain ⟨az,aA,ah,bB,aa⟩:=Slots.get ho (i:=4) (by first | omega | (simp only [List.length_append,be_length,List.length_cons,List.length_nil] at *; omega))
 refine qan (qaD ay (t:=22) (A:=A) (m:=s.length) (q:=4) (d:=76) kz (e:=5) (size:=1) (bytes:=1) (j:=4) kz ah rfl (by first | omega | (simp only [List.length_append,be_length,List.length_cons,List.length_nil] at *; omega)) fun bH aB=>?_)
 refine qan (qaR aB (t:=5) (b:=az) (o:=aA + 4 * 1) (d:=77) kz (cs:=[.int .u8 ((s.getD 4 0).toNat:Int)]) (v:=.int .u8 ((s.getD 4 0).toNat:Int)) kz (AtF.move aa hW.step nilM qba).at_ fun bI aC=>?_)
 refine qal [4,5,6,7] [] [(0,.v (.slice A s.length c)),(4,.v (.int .u32 (IntKind.u32.wrap (BitVec.ofInt 32 (IntKind.u32.wrap (BitVec.ofInt 32 (IntKind.u32.wrap (BitVec.ofInt 32 (IntKind.u32.wrap (BitVec.ofInt 32 (IntKind.u32.wrap (IntKind.u8.wrap (BitVec.ofInt 8 ((s.getD 0 0).toNat:Int) &&& BitVec.ofInt 8 127).toNat)) ||| BitVec.ofInt 32 (IntKind.u32.wrap ((IntKind.u32.wrap (IntKind.u8.wrap (BitVec.ofInt 8 ((s.getD 1 0).toNat:Int) &&& BitVec.ofInt 8 127).toNat)) * 128))).toNat) ||| BitVec.ofInt 32 (IntKind.u32.wrap ((IntKind.u32.wrap (IntKind.u8.wrap (BitVec.ofInt 8 ((s.getD 2 0).toNat:Int) &&& BitVec.ofInt 8 127).toNat)) * 16384))).toNat) ||| BitVec.ofInt 32 (IntKind.u32.wrap ((IntKind.u32.wrap (IntKind.u8.wrap (BitVec.ofInt 8 ((s.getD 3 0).toNat:Int) &&& BitVec.ofInt 8 127).toNat)) * 2097152))).toNat) ||| BitVec.ofInt 32 (IntKind.u32.wrap ((IntKind.u32.wrap ((s.getD 4 0).toNat:Int)) * 268435456))).toNat)))] hW aC fun bJ aD=>?_
 refine qaf (qab ?_)
 refine wp_seq (qae [0,1,2,3] kz ?_)
 refine qal [0] [1,2,3] [(4,.v (.int .u32 (IntKind.u32.wrap (BitVec.ofInt 32 (IntKind.u32.wrap (BitVec.ofInt 32 (IntKind.u32.wrap (BitVec.ofInt 32 (IntKind.u32.wrap (BitVec.ofInt 32 (IntKind.u32.wrap (IntKind.u8.wrap (BitVec.ofInt 8 ((s.getD 0 0).toNat:Int) &&& BitVec.ofInt 8 127).toNat)) ||| BitVec.ofInt 32 (IntKind.u32.wrap ((IntKind.u32.wrap (IntKind.u8.wrap (BitVec.ofInt 8 ((s.getD 1 0).toNat:Int) &&& BitVec.ofInt 8 127).toNat)) * 128))).toNat) ||| BitVec.ofInt 32 (IntKind.u32.wrap ((IntKind.u32.wrap (IntKind.u8.wrap (BitVec.ofInt 8 ((s.getD 2 0).toNat:Int) &&& BitVec.ofInt 8 127).toNat)) * 16384))).toNat) ||| BitVec.ofInt 32 (IntKind.u32.wrap ((IntKind.u32.wrap (IntKind.u8.wrap (BitVec.ofInt 8 ((s.getD 3 0).toNat:Int) &&& BitVec.ofInt 8 127).toNat)) * 2097152))).toNat) ||| BitVec.ofInt 32 (IntKind.u32.wrap ((IntKind.u32.wrap ((s.getD 4 0).toNat:Int)) * 268435456))).toNat))),(81,.v (.slice A s.length c))] hW aD fun bK aE=>?_
 refine qan (qaD aE (t:=22) (A:=A) (m:=s.length) (q:=4) (d:=82) kz (e:=5) (size:=1) (bytes:=1) (j:=4) kz ah rfl (by first | omega | (simp only [List.length_append,be_length,List.length_cons,List.length_nil] at *; omega)) fun bL aF=>?_)
 refine qan (qaR aF (t:=5) (b:=az) (o:=aA + 4 * 1) (d:=83) kz (cs:=[.int .u8 ((s.getD 4 0).toNat:Int)]) (v:=.int .u8 ((s.getD 4 0).toNat:Int)) kz (AtF.move aa hW.step nilM qba).at_ fun bM aG=>?_)
 refine qal [3] [] [(4,.v (.int .u32 (IntKind.u32.wrap (BitVec.ofInt 32 (IntKind.u32.wrap (BitVec.ofInt 32 (IntKind.u32.wrap (BitVec.ofInt 32 (IntKind.u32.wrap (BitVec.ofInt 32 (IntKind.u32.wrap (IntKind.u8.wrap (BitVec.ofInt 8 ((s.getD 0 0).toNat:Int) &&& BitVec.ofInt 8 127).toNat)) ||| BitVec.ofInt 32 (IntKind.u32.wrap ((IntKind.u32.wrap (IntKind.u8.wrap (BitVec.ofInt 8 ((s.getD 1 0).toNat:Int) &&& BitVec.ofInt 8 127).toNat)) * 128))).toNat) ||| BitVec.ofInt 32 (IntKind.u32.wrap ((IntKind.u32.wrap (IntKind.u8.wrap (BitVec.ofInt 8 ((s.getD 2 0).toNat:Int) &&& BitVec.ofInt 8 127).toNat)) * 16384))).toNat) ||| BitVec.ofInt 32 (IntKind.u32.wrap ((IntKind.u32.wrap (IntKind.u8.wrap (BitVec.ofInt 8 ((s.getD 3 0).toNat:Int) &&& BitVec.ofInt 8 127).toNat)) * 2097152))).toNat) ||| BitVec.ofInt 32 (IntKind.u32.wrap ((IntKind.u32.wrap ((s.getD 4 0).toNat:Int)) * 268435456))).toNat))),(84,.v (.bool (decide (((s.getD 4 0).toNat:Int) ≤ 15))))] hW aG fun bN ai=>?_
 refine qaf (qab ?_)
 refine qa2 ai (b:=decide (((s.getD 4 0).toNat:Int) ≤ 15)) kz (decide_eq_true (by have:=h4; unfold oc at this; omega)) ?_
 refine qap [(2,.v (.int .u32 (IntKind.u32.wrap (BitVec.ofInt 32 (IntKind.u32.wrap (BitVec.ofInt 32 (IntKind.u32.wrap (BitVec.ofInt 32 (IntKind.u32.wrap (BitVec.ofInt 32 (IntKind.u32.wrap (IntKind.u8.wrap (BitVec.ofInt 8 ((s.getD 0 0).toNat:Int) &&& BitVec.ofInt 8 127).toNat)) ||| BitVec.ofInt 32 (IntKind.u32.wrap ((IntKind.u32.wrap (IntKind.u8.wrap (BitVec.ofInt 8 ((s.getD 1 0).toNat:Int) &&& BitVec.ofInt 8 127).toNat)) * 128))).toNat) ||| BitVec.ofInt 32 (IntKind.u32.wrap ((IntKind.u32.wrap (IntKind.u8.wrap (BitVec.ofInt 8 ((s.getD 2 0).toNat:Int) &&& BitVec.ofInt 8 127).toNat)) * 16384))).toNat) ||| BitVec.ofInt 32 (IntKind.u32.wrap ((IntKind.u32.wrap (IntKind.u8.wrap (BitVec.ofInt 8 ((s.getD 3 0).toNat:Int) &&& BitVec.ofInt 8 127).toNat)) * 2097152))).toNat) ||| BitVec.ofInt 32 (IntKind.u32.wrap ((IntKind.u32.wrap ((s.getD 4 0).toNat:Int)) * 268435456))).toNat))),(3,.v (.int .i64 5))] hW ai fun bO aH=>?_
 refine wp_ret (qaq (qdG (qaL aH hW.cells (v:=.tuple #[.int .u32 (IntKind.u32.wrap (BitVec.ofInt 32 (IntKind.u32.wrap (BitVec.ofInt 32 (IntKind.u32.wrap (BitVec.ofInt 32 (IntKind.u32.wrap (BitVec.ofInt 32 (IntKind.u32.wrap (IntKind.u8.wrap (BitVec.ofInt 8 ((s.getD 0 0).toNat:Int) &&& BitVec.ofInt 8 127).toNat)) ||| BitVec.ofInt 32 (IntKind.u32.wrap ((IntKind.u32.wrap (IntKind.u8.wrap (BitVec.ofInt 8 ((s.getD 1 0).toNat:Int) &&& BitVec.ofInt 8 127).toNat)) * 128))).toNat) ||| BitVec.ofInt 32 (IntKind.u32.wrap ((IntKind.u32.wrap (IntKind.u8.wrap (BitVec.ofInt 8 ((s.getD 2 0).toNat:Int) &&& BitVec.ofInt 8 127).toNat)) * 16384))).toNat) ||| BitVec.ofInt 32 (IntKind.u32.wrap ((IntKind.u32.wrap (IntKind.u8.wrap (BitVec.ofInt 8 ((s.getD 3 0).toNat:Int) &&& BitVec.ofInt 8 127).toNat)) * 2097152))).toNat) ||| BitVec.ofInt 32 (IntKind.u32.wrap ((IntKind.u32.wrap ((s.getD 4 0).toNat:Int)) * 268435456))).toNat),.int .i64 5]) kz ?_)))
 have e_:=uv_5 (oc s 0) (oc s 1) (oc s 2) (oc s 3) (oc s 4) (qcb s 0) (qcb s 1) (qcb s 2) (qcb s 3) (by omega)
 refine ⟨congrArg (fun z_:Int=>Ending.returned (.tuple #[.int .u32 z_,.int .i64 5])) (Eq.trans e_ ?_),hW.step⟩
 omega
theorem rUv (x:Nat) (hx:x < 4294967296) (rest:Bs) {A:Option Addr} {c:Nat} {w:World} {F:Nat → Nat → Prop} (ho:Octs w F A c (uv x ++ rest)) :
  Calls Tryz.prog 205 #[.slice A (uv x ++ rest).length c] w (qch w (.tuple #[.int .u32 ((x:Nat):Int),.int .i64 (((uv x).length:Nat):Int)])):=by
 have hl:=qiU hx
 have hL:(uv x ++ rest).length = (uv x).length + rest.length:=List.length_append
 by_cases h1:x < 128
 ·rw [if_pos h1] at hl
  have h:=rUv1 (uv x ++ rest) ho (by omega) x (by rw [qf9,if_pos h1]) h1
  rw [hl]; simpa using h
 rw [if_neg h1] at hl
 have o0:oc (uv x ++ rest) 0 = x % 128 + 128:=by rw [qf9,if_neg h1]
 have o1:oc (uv x ++ rest) 1 = oc (uv (x / 128) ++ rest) 0:=qd7 (by omega) rest 0
 by_cases h2:x < 16384
 ·rw [if_pos h2] at hl
  rw [qf9,if_pos (by omega)] at o1
  have h:=rUv2 (uv x ++ rest) ho (by omega) (x % 128) (x / 128) o0 o1 (by omega) (by omega)
  rw [show x % 128 + x / 128 * 128 = x by omega] at h
  rw [hl]; exact h
 rw [if_neg h2] at hl
 have o2:oc (uv x ++ rest) 2 = oc (uv (x / 128 / 128) ++ rest) 0:=(qd7 (by omega) rest 1).trans (qd7 (by omega) rest 0)
 rw [qf9,if_neg (by omega)] at o1
 by_cases h3:x < 2097152
 ·rw [if_pos h3] at hl
  rw [qf9,if_pos (by omega)] at o2
  have h:=rUv3 (uv x ++ rest) ho (by omega) (x % 128) (x / 128 % 128) (x / 128 / 128) o0 o1 o2 (by omega) (by omega) (by omega)
  rw [show x % 128 + x / 128 % 128 * 128 + x / 128 / 128 * 16384 = x by omega] at h
  rw [hl]; exact h
 rw [if_neg h3] at hl
 have o3:oc (uv x ++ rest) 3 = oc (uv (x / 128 / 128 / 128) ++ rest) 0:=(qd7 (by omega) rest 2).trans ((qd7 (by omega) rest 1).trans (qd7 (by omega) rest 0))
 rw [qf9,if_neg (by omega)] at o2
 by_cases h4:x < 268435456
 ·rw [if_pos h4] at hl
  rw [qf9,if_pos (by omega)] at o3
  have h:=rUv4 (uv x ++ rest) ho (by omega) (x % 128) (x / 128 % 128) (x / 128 / 128 % 128) (x / 128 / 128 / 128) o0 o1 o2 o3 (by omega) (by omega) (by omega) (by omega)
  rw [show x % 128 + x / 128 % 128 * 128 + x / 128 / 128 % 128 * 16384 + x / 128 / 128 / 128 * 2097152 = x by omega] at h
  rw [hl]; exact h
 rw [if_neg h4] at hl
 have o4:oc (uv x ++ rest) 4 = oc (uv (x / 128 / 128 / 128 / 128) ++ rest) 0:=(qd7 (by omega) rest 3).trans ((qd7 (by omega) rest 2).trans ((qd7 (by omega) rest 1).trans (qd7 (by omega) rest 0)))
 rw [qf9,if_neg (by omega)] at o3
 rw [qf9,if_pos (by omega)] at o4
 have h:=rUv5 (uv x ++ rest) ho (by omega) (x % 128) (x / 128 % 128) (x / 128 / 128 % 128) (x / 128 / 128 / 128 % 128) (x / 128 / 128 / 128 / 128) o0 o1 o2 o3 o4 (by omega) (by omega) (by omega) (by omega) (by omega)
 rw [show x % 128 + x / 128 % 128 * 128 + x / 128 / 128 % 128 * 16384 + x / 128 / 128 / 128 % 128 * 2097152 + x / 128 / 128 / 128 / 128 * 268435456 = x by omega] at h
 rw [hl]; exact h
theorem qdq (x:Nat) (hx:x < 4294967296) (rest:Bs)  {br:Nat} {A:Option Addr} {m c:Nat} {w:World} {F:Nat → Nat → Prop} (hst:Str w br [.slice A m c,.bool false]) (hr:RdS w F A m c (uv x ++ rest)) (hFd:∀ b o,F b o → ¬ RdM br b o) :
  Calls Tryz.prog 190 #[.pointer (some ⟨br,0,none⟩)] w (RdPost w br F rest fun v w'=>v = .int .u32 ((x:Nat):Int)):=by
 obtain ⟨hm,ho⟩:=hr
 subst hm
 have hle:=ho.le
 have hpos:=qh9 x
 refine enter (n:=31) Tryz.func190 rfl Tryz.ntmps190 kz fun a hE=>?_
 have hW:WOk w (RdM br) w [⟨br,0,[.slice A ((uv x ++ rest).length) c,.bool false],true⟩] []:=WOk.startStr hst
 have hE1:=(hE.grow ⟨br,0,[.slice A ((uv x ++ rest).length) c,.bool false],true⟩).recast 0 (.v (.pointer (some ⟨br,0,none⟩))) (.p 0 0) rfl rfl (Nat.le_of_ble_eq_true (n:=1) rfl)
 refine qap [(0,.p 0 0)] hW hE1 fun a1 hE2=>?_
 refine qae [0,1,2,3,4,5,6,7,8,9] kz ?_
 refine qal [0,1,2,3] [4,5,6,7,8,9] [(0,.p 0 0),(9,.v (.slice A ((uv x ++ rest).length) c))] hW hE2 fun a3 hE4=>?_
 refine qan (qam hE4 (f:=205) (vs:=[.slice A ((uv x ++ rest).length) c]) (d:=10) kz Tryz.call205 (rUv x hx rest (ho.move hW.step (fun b_ o_ h_ _=>hFd b_ o_ h_) (hW.immM hFd))) ?_)
 rintro e_ w6 ⟨rfl,hs5⟩
 refine ⟨_,rfl,fun a7 hE8=>?_⟩
 have hW9:=hW.next_nil hs5
 have aj:=hW.frN hs5
 refine qal [5,6,7,8,9] [] [(0,.p 0 0),(3,.v (.int .u32 ((x:Nat):Int))),(4,.v (.int .i64 (((uv x).length:Nat):Int)))] hW9 hE8 fun al ac=>?_
 refine qaf (qab ?_)
 refine wp_seq (qap [(0,.p 0 0),(3,.v (.int .u32 ((x:Nat):Int))),(4,.v (.int .i64 (((uv x).length:Nat):Int))),(14,.v (.bool (decide ((((uv x).length:Nat):Int) ≤ 0))))] hW9 ac fun am ab=>?_)
 refine qar ab (b:=decide ((((uv x).length:Nat):Int) ≤ 0)) kz (decide_eq_false (by omega)) ?_
 refine wp_skip (qab (qae [0,1,2,3,4,5,6,7,8,9] kz ?_))
 refine qal [0,1,2,3,4,5] [6,7,8,9] [(3,.v (.int .u32 ((x:Nat):Int))),(21,.p 0 0),(25,.v (.slice A ((uv x ++ rest).length) c)),(26,.v (.int .i64 (((uv x).length:Nat):Int)))] hW9 ab fun ao ae=>?_
 refine qan (qc3 ae (t:=22) (A:=A) (m:=((uv x ++ rest).length)) (cp:=c) (q:=(((uv x).length:Nat):Int)) (d:=27) (j:=((uv x).length)) kz (e:=5) (bytes:=1) kz (rfl) (by first | omega | (simp only [List.length_append,be_length,List.length_cons,List.length_nil] at *; omega)) fun ap af=>?_)
 refine qal [7,8] [9] [(3,.v (.int .u32 ((x:Nat):Int))),(27,.v (.slice (cutA A c ((uv x).length)) (((uv x ++ rest).length) - ((uv x).length)) (c - ((uv x).length)))),(29,.p 0 0)] hW9 af fun ar ag=>?_
 refine qan (qat hW9 ag (oi:=0) (cs:=[.slice (cutA A c ((uv x).length)) (((uv x ++ rest).length) - ((uv x).length)) (c - ((uv x).length)),.bool false]) kz fun au ak aa ah=>?_)
 refine qaf (qab ?_)
 refine qap [(2,.v (.int .u32 ((x:Nat):Int)))] aa ah fun av ai=>?_
 refine wp_ret (qaL ai aa.cells (v:=.int .u32 ((x:Nat):Int)) kz ?_)
 exact ⟨_,_,_,_,rfl,Str.of aa 0 rfl,RdS.drop (s:=uv x) ⟨rfl,ho.move aa.step (fun b_ o_ h_ _=>hFd b_ o_ h_) qba⟩ (rfl),aa.step,rfl⟩
theorem qir (X:Bs) (rest:Bs)  {br:Nat} {A:Option Addr} {m c:Nat} {w:World} {F:Nat → Nat → Prop} (hst:Str w br [.slice A m c,.bool false]) (hr:RdS w F A m c (X ++ rest)) (hFd:∀ b o,F b o → ¬ RdM br b o) :
  Calls Tryz.prog 192 #[.pointer (some ⟨br,0,none⟩),.int .i64 ((X.length:Nat):Int)] w (RdPost w br F rest fun v w'=>∃ A2,v = .slice A2 X.length X.length ∧ Octs w' F A2 X.length X):=by
 obtain ⟨hm,ho⟩:=hr
 subst hm
 have hle:=ho.le
 refine enter (n:=40) Tryz.func192 rfl Tryz.ntmps192 kz fun a hE=>?_
 have hW:WOk w (RdM br) w [⟨br,0,[.slice A ((X ++ rest).length) c,.bool false],true⟩] []:=WOk.startStr hst
 have hE1:=(hE.grow ⟨br,0,[.slice A ((X ++ rest).length) c,.bool false],true⟩).recast 0 (.v (.pointer (some ⟨br,0,none⟩))) (.p 0 0) rfl rfl (Nat.le_of_ble_eq_true (n:=1) rfl)
 refine qap [(0,.p 0 0),(1,.v (.int .i64 ((X.length:Nat):Int)))] hW hE1 fun a1 hE2=>?_
 refine wp_seq (qae [0,1,2,3,4,5,6,7,8,9,10] kz ?_)
 refine qal [0,1,2,3,4,5,6,7] [8,9,10] [(0,.p 0 0),(1,.v (.int .i64 ((X.length:Nat):Int))),(13,.v (.bool (decide ((((X ++ rest).length:Nat):Int) < ((X.length:Nat):Int)))))] hW hE2 fun a3 hE4=>?_
 have hc5:(decide ((((X ++ rest).length:Nat):Int) < ((X.length:Nat):Int))) = false:=decide_eq_false (by first | omega | (simp only [List.length_append,be_length,List.length_cons,List.length_nil] at *; omega))
 have hE6:=hE4
 rw [hc5] at hE6
 refine qal [8,9,10] [] [(0,.p 0 0),(1,.v (.int .i64 ((X.length:Nat):Int))),(16,.v (.bool (decide (((X.length:Nat):Int) < 0))))] hW hE6 fun a7 hE8=>?_
 refine qaf (qab ?_)
 refine qar hE8 (b:=decide (((X.length:Nat):Int) < 0)) kz (decide_eq_false (by first | omega | (simp only [List.length_append,be_length,List.length_cons,List.length_nil] at *; omega))) ?_
 refine wp_skip (qab (qae [0,1,2,3,4,5,6,7] kz ?_))
 refine qal [0,1,2,3,4,5] [6,7] [(0,.p 0 0),(1,.v (.int .i64 ((X.length:Nat):Int))),(26,.v (.slice A ((X ++ rest).length) c)),(27,.v (.int .i64 ((X.length:Nat):Int))),(28,.v (.int .i64 ((X.length:Nat):Int)))] hW hE8 fun a9 ab=>?_
 refine qan (qjz ab (t:=22) (A:=A) (m:=((X ++ rest).length)) (cp:=c) (k:=.i64) (q:=((X.length:Nat):Int)) (d:=29) (j:=X.length) kz (e:=5) (bytes:=1) kz (rfl) (by first | omega | (simp only [List.length_append,be_length,List.length_cons,List.length_nil] at *; omega)) fun al ac=>?_)
 refine qal [7] [] [(0,.p 0 0),(1,.v (.int .i64 ((X.length:Nat):Int))),(5,.v (.slice A X.length X.length))] hW ac fun am ae=>?_
 refine qaf (qab ?_)
 refine qae [0,1,2,3,4,5,6,7,8,9] kz ?_
 refine qal [0,1,2,3,4,5] [6,7,8,9] [(5,.v (.slice A X.length X.length)),(30,.p 0 0),(34,.v (.slice A ((X ++ rest).length) c)),(35,.v (.int .i64 ((X.length:Nat):Int)))] hW ae fun ao af=>?_
 refine qan (qc3 af (t:=22) (A:=A) (m:=((X ++ rest).length)) (cp:=c) (q:=((X.length:Nat):Int)) (d:=36) (j:=X.length) kz (e:=5) (bytes:=1) kz (rfl) (by first | omega | (simp only [List.length_append,be_length,List.length_cons,List.length_nil] at *; omega)) fun ap ag=>?_)
 refine qal [7,8] [9] [(5,.v (.slice A X.length X.length)),(36,.v (.slice (cutA A c X.length) (((X ++ rest).length) - X.length) (c - X.length))),(38,.p 0 0)] hW ag fun ar ah=>?_
 refine qan (qat hW ah (oi:=0) (cs:=[.slice (cutA A c X.length) (((X ++ rest).length) - X.length) (c - X.length),.bool false]) kz fun au ak aa ai=>?_)
 refine qaf (qab ?_)
 refine qap [(4,.v (.slice A X.length X.length))] aa ai fun av aj=>?_
 refine wp_ret (qaL aj aa.cells (v:=.slice A X.length X.length) kz ?_)
 exact ⟨_,_,_,_,rfl,Str.of aa 0 rfl,RdS.drop (s:=X) ⟨rfl,ho.move aa.step (fun b_ o_ h_ _=>hFd b_ o_ h_) qba⟩ (rfl),aa.step,A,rfl,RdS.front (s:=X) ⟨rfl,ho.move aa.step (fun b_ o_ h_ _=>hFd b_ o_ h_) qba⟩ rfl⟩
abbrev z7 (x0) (x1) (x2) (x3):=([⟨x0,0,[.slice x1 x2 x3,.bool false],true⟩]:Tb)
theorem qjI {br:Nat} {A:Option Addr} {m c:Nat} {w:World} (hst:Str w br [.slice A m c,.bool false]) :
  Calls Tryz.prog 149 #[.pointer (some ⟨br,0,none⟩)] w (fun e w'=>e = .returned .nilIface ∧ w' = w):=by
 refine enter (n:=8) Tryz.func149 rfl Tryz.ntmps149 kz fun a hE=>?_
 have hW:WOk w (RdM br) w (z7 br A m c) []:=WOk.startStr hst
 have hE1:=(hE.grow ⟨br,0,[.slice A m c,.bool false],true⟩).recast 0 (.v (.pointer (some ⟨br,0,none⟩))) (.p 0 0) rfl rfl (Nat.le_of_ble_eq_true (n:=1) rfl)
 refine qap [(0,.p 0 0)] hW hE1 fun a1 hE2=>?_
 refine wp_seq (qap [(6,.v (.bool false))] hW hE2 fun a3 hE4=>?_)
 refine qar hE4 (b:=false) kz rfl ?_
 refine wp_skip (qab (qap [(2,.v (.nilIface))] hW hE4 fun a5 hE6=>?_))
 refine wp_ret (qaL hE6 hW.cells (v:=.nilIface) kz ?_)
 exact ⟨rfl,rfl⟩
structure TR (w w':World) (br p2 p3:Nat) (F:Nat → Nat → Prop) (A:Option Addr) (n c:Nat) (s:Bs) (m:Option Nat) (u:List (Int × Bs)):Prop where
 step:Step w w' (RdM br)
 old:br < w.heap.size
 new2:w.heap.size ≤ p2
 new3:w.heap.size ≤ p3
 ne:p2 ≠ p3
 rd:Str w' br [.slice A n c,.bool false]
 s2:Str w' p2 [.map none]
 s3:Str w' p3 [.map m]
 oct:RdS w' (fun b o=>F b o ∧ b < w.heap.size) A n c s
 own:OwnM w' (fun b o=>F b o ∧ b < w.heap.size) m u
 new:∀ r,m = some r → w.heap.size ≤ r
theorem TR.mne {w w':World} {br p2 p3:Nat} {F:Nat → Nat → Prop} {A:Option Addr} {n c:Nat} {s:Bs} {m:Option Nat} {u:List (Int × Bs)} (h:TR w w' br p2 p3 F A n c s m u):m ≠ some p2 ∧ m ≠ some p3:=by
 refine ⟨fun e=>?_,fun e=>?_⟩
 ·obtain ⟨es,clk,h1,_⟩:=h.own.some_ p2 e
  exact qeI (h.s2.at_ 0 _ rfl) h1 rfl
 obtain ⟨es,clk,h1,_⟩:=h.own.some_ p3 e
 exact qeI (h.s3.at_ 0 _ rfl) h1 rfl
theorem TR.read {w w' w1:World} {br p2 p3:Nat} {F:Nat → Nat → Prop} {A A':Option Addr} {n c n' c':Nat} {s s':Bs} {m:Option Nat} {u:List (Int × Bs)} (h:TR w w' br p2 p3 F A n c s m u) (hFd:∀ b o,F b o → ¬ RdM br b o) (hs:Str w1 br [.slice A' n' c',.bool false]) (hr:RdS w1 (fun b o=>F b o ∧ b < w.heap.size) A' n' c' s') (hst:Step w' w1 (RdM br)):TR w w1 br p2 p3 F A' n' c' s' m u:=by
 have ho:=h.old
 have h2:=h.new2
 have h3:=h.new3
 refine ⟨h.step.trans hst fun _ _ _ e=>e,ho,h2,h3,h.ne,hs,h.s2.move hst fun o e=>?_,h.s3.move hst fun o e=>?_,hr,h.own.move hst (fun b o hg _=>hFd b o hg.1) qba (fun r o e he=>?_),h.new⟩
 ·have:=e.1; omega
 ·have:=e.1; omega
 have:=h.new r e; have:=he.1; omega
theorem TR.set {w w':World} {br p2 p3:Nat} {F:Nat → Nat → Prop} {A A1:Option Addr} {n c c1 j:Nat} {s x:Bs} {k:Int} {m:Option Nat} {u:List (Int × Bs)} (h:TR w w' br p2 p3 F A n c s m (u.take j)) (hsort:qdj u) (hj:u[j]? = some (k,x)) (hx:Octs w' (fun b o=>F b o ∧ b < w.heap.size) A1 c1 x) (hk:0 ≤ k ∧ k < 4294967296) :
  Calls Tryz.prog 193 [.pointer (some ⟨p3,0,none⟩),.int .u32 k,.slice A1 x.length c1].toArray w' (fun e w1=>e = .returned (.tuple #[]) ∧ ∃ r,TR w w1 br p2 p3 F A n c s (some r) (u.take (j + 1))):=by
 have hcell:w'.cell? ⟨p3,0,none⟩ = some (.map m):=h.s3.at_ 0 _ rfl
 have hfz:w'.frozen? ⟨p3,0,none⟩ = false:=h.s3.frz 0 (by simp)
 have hnew:=h.new
 have h2:=h.new2
 have h3:=h.new3
 have ho:=h.old
 have hsz:=h.step.size
 obtain ⟨m2,m3⟩:=h.mne
 refine (qkb hcell hfz h.own hx hk (fun b' o' hg=>⟨fun e=>?_,fun e=>?_⟩) (fun b' o' hg=>Nat.lt_of_lt_of_le hg.2 hsz)).mono ?_
 ·have:=hg.2; omega
 ·have:=hnew b' e; have:=hg.2; omega
 rintro e w1 ⟨rfl,r,g1,g2,g3,g4,g5⟩
 rw [qiZ hsort hj] at g3
 refine ⟨rfl,r,h.step.trans g5 fun b o hl e=>?_,ho,h2,h3,h.ne,h.rd.move g5 fun o e=>?_,h.s2.move g5 fun o e=>?_,⟨fun i v hi=>?_,fun i hi=>?_⟩,⟨h.oct.len,Octs.move h.oct.oct g5 (fun b o hg _ e=>?_) qba⟩,g3,fun r' hr'=>?_⟩
 ·rcases e with ⟨e1,_⟩ | e1
  ·omega
  have:=hnew b e1; omega
 ·rcases e with ⟨e1,_⟩ | e1
  ·omega
  have:=hnew br e1; omega
 ·rcases e with ⟨e1,_⟩ | e1
  ·exact h.ne e1
  exact m2 e1
 ·cases i with
  | zero =>
   simp only [List.getElem?_cons_zero,Option.some.injEq] at hi
   subst hi
   exact g1
  | succ i=>simp at hi
 ·have:i = 0:=by simp at hi; omega
  subst this
  exact g2
 ·have:=hg.2
  rcases e with ⟨e1,_⟩ | e1
  ·omega
  have:=hnew b e1; omega
 obtain rfl:=Option.some.inj hr'
 rcases g4 with g4 | g4
 ·exact hnew _ g4
 exact Nat.le_trans hsz g4
theorem qis (x:Int × Bs) (u:List (Int × Bs)):qcG (x :: u) = tagR x.1 x.2 ++ qcG u:=by unfold qcG; rw [List.flatMap_cons]
theorem qit {u:List (Int × Bs)} {j:Nat} {k:Int} {x:Bs} (h:u[j]? = some (k,x)) (rest:Bs):qcG (u.drop j) ++ rest = uv k.toNat ++ (uv x.length ++ (x ++ (qcG (u.drop (j + 1)) ++ rest))):=by
 obtain ⟨hlt,he⟩:=List.getElem?_eq_some_iff.1 h
 rw [List.drop_eq_getElem_cons hlt,he,qis]
 simp only [tagR,List.append_assoc]
abbrev z41 (x0) (x1):=([.pointer (some ⟨x0,0,none⟩),.int .i64 ((x1:Nat):Int)]:List Value)
theorem qmc (u:List (Int × Bs)) (rest:Bs) (hsort:qdj u) (hk:∀ x ∈ u,0 ≤ x.1 ∧ x.1 < 4294967296) (hul:u.length ≤ 1000000) (hxl:∀ x ∈ u,x.2.length < 4294967296) {br:Nat} {A:Option Addr} {m c:Nat} {w:World} {F:Nat → Nat → Prop} (hst:Str w br [.slice A m c,.bool false]) (hr:RdS w F A m c (uv u.length ++ (qcG u ++ rest))) (hFd:∀ b o,F b o → ¬ RdM br b o) :
  Calls Tryz.prog 156 #[.pointer (some ⟨br,0,none⟩)] w (RdPost w br (Fp F w) rest fun v w'=>∃ mm,v = .agg #[.map mm] ∧ MapR w' (Fp F w) mm u):=by
 have hbr:br < w.heap.size:=World.lt_of_cell (hst.at_ 0 _ rfl)
 refine enter (n:=24) (vs:=[.pointer (some ⟨br,0,none⟩)]) Tryz.func156 rfl Tryz.ntmps156 kz fun a hE=>?_
 have hW:=WOk.start w Nil
 refine qae [0] kz ?_
 refine qan (qaP hW hE (d:=2) (cs:=[.map none]) kz fun p2 a1 w1 hp2 hz2 hF1 hW1 hE1=>qaf (qab ?_))
 refine qae [0] kz ?_
 refine qan (qaP hW1 hE1 (d:=3) (cs:=[.map none]) kz fun p3 a2 w2 hp3 hz3 hF2 hW2 hE2=>qaf (qab ?_))
 have hne:p2 ≠ p3:=by
  have h1:=hW1.live 0 _ rfl
  simp only at h1
  omega
 have hS:Step w w2 Nil:=hW2.step
 have hT0:TR w w2 br p2 p3 F A m c (uv u.length ++ (qcG u ++ rest)) none (u.take 0):=by
  refine ⟨hS.mono fun _ _ _ h=>h.elim,hbr,hz2,hz3,hne,hst.move hS (fun _ h=>h),Str.of hW2 0 rfl,Str.of hW2 1 rfl,hr.move hS nilM (fun b o h hb=>⟨h,hb⟩),?_,fun _ h=>by cases h⟩
  rw [List.take_zero]
  exact OwnM.nil _ _
 refine wp_seq ?_
 have hE3:=(((hE2.recast 2 (.p 0 0) (.v (.pointer (some ⟨p2,0,none⟩))) rfl rfl trivial).recast 3 (.p 1 0) (.v (.pointer (some ⟨p3,0,none⟩))) rfl rfl trivial).pick (ks:=[0,2,3]) (env':=[(0,.v (.pointer (some ⟨br,0,none⟩))),(2,.v (.pointer (some ⟨p2,0,none⟩))),(3,.v (.pointer (some ⟨p3,0,none⟩)))]) kz).cutTb 0 kz
 have hWz:=WOk.start w2 Nil
 refine qae [0,1,2] kz ?_
 refine qal [0] [1,2] [(0,.v (.pointer (some ⟨br,0,none⟩))),(2,.v (.pointer (some ⟨p2,0,none⟩))),(3,.v (.pointer (some ⟨p3,0,none⟩))),(7,.v (.pointer (some ⟨br,0,none⟩)))] hWz hE3 fun a3 hE4=>?_
 have hFd':∀ b o,(F b o ∧ b < w.heap.size) → ¬ RdM br b o:=fun b o h=>hFd b o h.1
 refine qan (qam hE4 (f:=190) (vs:=[.pointer (some ⟨br,0,none⟩)]) (d:=8) kz Tryz.call190 (qdq u.length (by omega) (qcG u ++ rest) hT0.rd hT0.oct hFd') ?_)
 rintro e_ w3 ⟨_,A3,n3,c3,rfl,hs3,hr3,hst3,rfl⟩
 have hT1:=hT0.read hFd hs3 hr3 hst3
 refine ⟨_,rfl,fun a4 hE5=>?_⟩
 refine qal [2] [] [(0,.v (.pointer (some ⟨br,0,none⟩))),(2,.v (.pointer (some ⟨p2,0,none⟩))),(3,.v (.pointer (some ⟨p3,0,none⟩))),(4,.v (.int .u32 ((u.length:Nat):Int)))] (WOk.start w3 Nil) hE5 fun a5 hE6=>qaf (qab ?_)
 refine wp_block ?_
 refine wp_loop_ghost (fun q a_ w_=>∃ (j:Nat) (m_:Option Nat) (A_:Option Addr) (n_ c_:Nat),q = u.length - j ∧ j ≤ u.length ∧ EnvOk 24 [] [(0,.v (.pointer (some ⟨br,0,none⟩))),(2,.v (.pointer (some ⟨p2,0,none⟩))),(3,.v (.pointer (some ⟨p3,0,none⟩))),(4,.v (.int .u32 ((u.length - j:Nat):Int)))] a_ ∧ TR w w_ br p2 p3 F A_ n_ c_ (qcG (u.drop j) ++ rest) m_ (u.take j)) u.length
  ⟨0,none,A3,n3,c3,by omega,by omega,hE6,hT1⟩ ?_
 rintro q aq wq ⟨j,m_,A_,n_,c_,rfl,hj,hEq,hT⟩
 have hWq:=WOk.start wq Nil
 refine wp_seq (qap [(0,.v (.pointer (some ⟨br,0,none⟩))),(2,.v (.pointer (some ⟨p2,0,none⟩))),(3,.v (.pointer (some ⟨p3,0,none⟩))),(4,.v (.int .u32 ((u.length - j:Nat):Int))),(10,.v (.bool (decide (((u.length - j:Nat):Int) > 0))))] hWq hEq fun aq1 hE7=>?_)
 refine qay hE7 (b:=decide (((u.length - j:Nat):Int) > 0)) kz (fun hc=>?_) (fun hc=>?_)
 ·have hlt:j < u.length:=by have:=of_decide_eq_true hc; omega
  obtain ⟨⟨k,x⟩,hu⟩:∃ y,u[j]? = some y:=⟨_,List.getElem?_eq_getElem hlt⟩
  have hk':=hk (k,x) (List.mem_of_getElem? hu)
  have hx':=hxl (k,x) (List.mem_of_getElem? hu)
  dsimp only at hk' hx'
  have hoct:=hT.oct
  rw [qit hu rest] at hoct
  refine wp_skip (qab (wp_seq (wp_block ?_)))
  refine qae [0,1,2,3,4,5] kz ?_
  refine qal [0] [1,2,3,4,5] [(0,.v (.pointer (some ⟨br,0,none⟩))),(2,.v (.pointer (some ⟨p2,0,none⟩))),(3,.v (.pointer (some ⟨p3,0,none⟩))),(4,.v (.int .u32 ((u.length - j:Nat):Int))),(13,.v (.pointer (some ⟨br,0,none⟩)))] hWq hE7 fun aq2 hE8=>?_
  refine qan (qam hE8 (f:=190) (vs:=[.pointer (some ⟨br,0,none⟩)]) (d:=14) kz Tryz.call190 (qdq k.toNat (by omega) _ hT.rd hoct hFd') ?_)
  rintro e_ wa ⟨_,Aa,na,ca,rfl,hsa,hra,hsta,rfl⟩
  have hTa:=hT.read hFd hsa hra hsta
  refine ⟨_,rfl,fun aq3 hE9=>?_⟩
  refine qal [2] [3,4,5] [(0,.v (.pointer (some ⟨br,0,none⟩))),(2,.v (.pointer (some ⟨p2,0,none⟩))),(3,.v (.pointer (some ⟨p3,0,none⟩))),(4,.v (.int .u32 ((u.length - j:Nat):Int))),(14,.v (.int .u32 ((k.toNat:Nat):Int))),(15,.v (.pointer (some ⟨br,0,none⟩)))] (WOk.start wa Nil) hE9 fun aq4 hE10=>?_
  refine qan (qam hE10 (f:=190) (vs:=[.pointer (some ⟨br,0,none⟩)]) (d:=16) kz Tryz.call190 (qdq x.length hx' _ hTa.rd hTa.oct hFd') ?_)
  rintro e_ wb ⟨_,Ab,nb,cb,rfl,hsb,hrb,hstb,rfl⟩
  have hTb:=hTa.read hFd hsb hrb hstb
  refine ⟨_,rfl,fun aq5 hE11=>?_⟩
  refine qal [4,5] [] [(0,.v (.pointer (some ⟨br,0,none⟩))),(2,.v (.pointer (some ⟨p2,0,none⟩))),(3,.v (.pointer (some ⟨p3,0,none⟩))),(4,.v (.int .u32 ((u.length - j:Nat):Int))),(5,.v (.int .u32 ((k.toNat:Nat):Int))),(6,.v (.int .u32 ((x.length:Nat):Int)))] (WOk.start wb Nil) hE11 fun aq6 hE12=>qaf (qab ?_)
  refine qas [0,1,2,3,4,5] kz ?_
  refine qal [0,1,2,3] [4,5] [(0,.v (.pointer (some ⟨br,0,none⟩))),(2,.v (.pointer (some ⟨p2,0,none⟩))),(3,.v (.pointer (some ⟨p3,0,none⟩))),(4,.v (.int .u32 ((u.length - j:Nat):Int))),(17,.v (.int .u32 ((k.toNat:Nat):Int))),(18,.v (.pointer (some ⟨br,0,none⟩))),(20,.v (.int .i64 (IntKind.i64.wrap ((x.length:Nat):Int))))] (WOk.start wb Nil) hE12 fun aq7 hE13=>?_
  rw [show IntKind.i64.wrap ((x.length:Nat):Int) = ((x.length:Nat):Int) by rw [i64w]; omega,show ((k.toNat:Nat):Int) = k by omega] at hE13
  refine qan (qam hE13 (f:=192) (vs:=(z41 br x.length)) (d:=21) kz Tryz.call192 (qir x _ hTb.rd hTb.oct hFd') ?_)
  rintro e_ wc ⟨_,Ac,nc,cc,rfl,hsc,hrc,hstc,Ax,rfl,hox⟩
  have hTc:=hTb.read hFd hsc hrc hstc
  refine ⟨_,rfl,fun aq8 hE14=>?_⟩
  refine qan (qam hE14 (f:=193) (vs:=[.pointer (some ⟨p3,0,none⟩),.int .u32 k,.slice Ax x.length x.length]) (d:=22) kz Tryz.call193 (hTc.set hsort hu hox hk') ?_)
  rintro e_ wd ⟨rfl,r,hTd⟩
  refine ⟨_,rfl,fun aq9 hE15=>qaf (qau (qab ?_))⟩
  refine qas [0,1,2] kz (qal [0,1,2] [] [(0,.v (.pointer (some ⟨br,0,none⟩))),(2,.v (.pointer (some ⟨p2,0,none⟩))),(3,.v (.pointer (some ⟨p3,0,none⟩))),(4,.v (.int .u32 (IntKind.u32.wrap (((u.length - j:Nat):Int) - 1))))] (WOk.start wd Nil) hE15 fun aqa hE16=>qaf (qab ?_))
  rw [show IntKind.u32.wrap (((u.length - j:Nat):Int) - 1) = ((u.length - (j + 1):Nat):Int) by rw [qaA]; omega] at hE16
  exact ⟨u.length - (j + 1),by omega,j + 1,some r,Ac,nc,cc,rfl,by omega,hE16,hTd⟩
 obtain rfl:j = u.length:=by have:=of_decide_eq_false hc; omega
 refine wp_exit (qaC (qaC (qaS (qab ?_))))
 rw [List.take_length,List.drop_length] at hT
 have hT':TR w wq br p2 p3 F A_ n_ c_ rest m_ u:=hT
 have h2:=hT'.new2
 have h3:=hT'.new3
 have hW9:WOk w (RdM br) wq ([] ++ [⟨p3,0,[.map m_],true⟩] ++ [⟨p2,0,[.map none],true⟩]) []:=by
  have hb:WOk w (RdM br) wq [] []:=⟨hT'.step,fun i o hi=>by simp at hi,fun i o hi=>by simp at hi,fun i o hi=>by simp at hi,fun i j o o' _ hi=>by simp at hi,fun i r hi=>by simp at hi,fun i r hi=>by simp at hi,fun i r hi=>by simp at hi,fun i j r r' _ hi=>by simp at hi⟩
  have h4:=hb.add ⟨p3,0,[.map m_],true⟩ (World.lt_of_cell (hT'.s3.at_ 0 _ rfl)) (fun j v hj=>by rw [Nat.zero_add]; exact hT'.s3.at_ j v hj) (fun _ j hj=>⟨.inl h3,by rw [Nat.zero_add]; exact hT'.s3.frz j hj⟩) (fun i o hi=>by simp at hi) (fun i r hi=>by simp at hi)
  refine h4.add ⟨p2,0,[.map none],true⟩ (World.lt_of_cell (hT'.s2.at_ 0 _ rfl)) (fun j v hj=>by rw [Nat.zero_add]; exact hT'.s2.at_ j v hj) (fun _ j hj=>⟨.inl h2,by rw [Nat.zero_add]; exact hT'.s2.frz j hj⟩) (fun i o hi _=>.inl ?_) (fun i r hi=>by simp at hi)
  have:o = ⟨p3,0,[.map m_],true⟩:=by
   have hm:=List.mem_of_getElem? hi
   simpa using hm
  rw [this]
  exact fun e=>hT'.ne e.symm
 have hE17:=(((hE7.retable [⟨p3,0,[.map m_],true⟩,⟨p2,0,[.map none],true⟩]).recast 3 (.v (.pointer (some ⟨p3,0,none⟩))) (.p 0 0) rfl rfl (Nat.le_of_ble_eq_true (n:=1) rfl)).recast 2 (.v (.pointer (some ⟨p2,0,none⟩))) (.p 1 0) rfl rfl (Nat.le_of_ble_eq_true (n:=2) rfl))
 have hE18:EnvOk 24 [⟨p3,0,[.map m_],true⟩,⟨p2,0,[.map none],true⟩] [(2,.p 1 0),(3,.p 0 0)] _:=hE17.pk
 refine qae [0,1] kz ?_
 refine qal [0] [1] [(2,.p 1 0),(23,.v (.agg #[.map m_]))] hW9 hE18 fun aqb hE19=>?_
 refine qan (qat hW9 hE19 (oi:=1) (cs:=[.map m_]) kz fun wz hFz hWz hEz=>qaf (qab (wp_ret ?_)))
 have hsz:=hT'.step.size
 have hstz:Step wq wz (fun b o=>b = p2 ∨ b = p3):=hFz.step.mono fun b o _ ha=>by
  rcases ha with ⟨i,ob,hi,_,rfl,_⟩ | ⟨i,r,hi,_⟩
  ·have hm:=List.mem_of_getElem? hi
   simp only [List.nil_append,List.cons_append,List.mem_cons,List.not_mem_nil,or_false] at hm
   rcases hm with rfl | rfl
   ·exact .inr rfl
   exact .inl rfl
  simp at hi
 obtain ⟨m2,m3⟩:=hT'.mne
 refine qaL hEz hWz.cells (v:=.agg #[.map m_]) kz ⟨_,A_,n_,c_,rfl,hT'.rd.move hstz (fun o e=>?_),hT'.oct.move hstz (fun b o hg _ e=>?_) (fun b o hg _=>.inl hg.1),hWz.step,m_,rfl,?_⟩
 ·have:=hT'.old; rcases e with e | e <;> omega
 ·have:=hg.2; rcases e with e | e <;> omega
 refine (hT'.own.move hstz (fun b o hg _ e=>?_) qba (fun r o e he=>?_)).map (fun b o h=>.inl h.1) (fun r o e=>.inr (hT'.new r e)) hsort hk
 ·have:=hg.2; rcases e with e | e <;> omega
 rcases he with he | he
 ·exact m2 (by rw [e,he])
 exact m3 (by rw [e,he])
theorem qmd (X:Bs) (hX:X.length ≤ 32767) (rest:Bs)  {br:Nat} {A:Option Addr} {m c:Nat} {w:World} {F:Nat → Nat → Prop} (hst:Str w br [.slice A m c,.bool false]) (hr:RdS w F A m c ((be 2 ((X.length:Nat):Int)) ++ (X ++ rest))) (hFd:∀ b o,F b o → ¬ RdM br b o) :
  Calls Tryz.prog 154 #[.pointer (some ⟨br,0,none⟩)] w (RdPost w br (Fp F w) rest fun v w'=>v = .string (bs X)):=by
 refine enter (n:=11) Tryz.func154 rfl Tryz.ntmps154 kz fun a hE=>?_
 have hW:WOk w (RdM br) w (z7 br A m c) []:=WOk.startStr hst
 have hE1:=(hE.grow ⟨br,0,[.slice A m c,.bool false],true⟩).recast 0 (.v (.pointer (some ⟨br,0,none⟩))) (.p 0 0) rfl rfl (Nat.le_of_ble_eq_true (n:=1) rfl)
 refine qap [(0,.p 0 0)] hW hE1 fun a1 hE2=>?_
 refine qae [0,1,2] kz ?_
 refine qal [0] [1,2] [(0,.p 0 0),(4,.p 0 0)] hW hE2 fun a3 hE4=>?_
 refine qan (qam hE4 (f:=141) (vs:=[.pointer (some ⟨br,0,none⟩)]) (d:=5) kz Tryz.call141 (qhM ((X.length:Nat):Int) (X ++ rest) (Str.of hW 0 rfl) (hr.move hW.step (fun b_ o_ h_ _=>hFd b_ o_ h_) (hW.immM hFd)) (qc8 0 rfl)) ?_)
 rintro e_ w5 ⟨_,A6,n7,c8,rfl,hs9,ag,ac,rfl⟩
 obtain ⟨aa,ah,aG⟩:=hW.wrote 0 (z7 br A6 n7 c8) rfl ac hs9
 have ai:=ag.move (Step.refl _ Nil) nilM (fun b_ o_ h_ _=>ah.to b_ o_ h_)
 refine ⟨_,rfl,fun aJ aj=>?_⟩
 have ak:EnvOk 11 (z7 br A6 n7 c8) [(5,.v (.int .i16 (IntKind.i16.wrap ((X.length:Nat):Int)))),(0,.p 0 0),(4,.p 0 0)] _:=aj.places (⟨rfl,rfl,trivial⟩)
 refine qal [2] [] [(0,.p 0 0),(3,.v (.int .i16 (IntKind.i16.wrap ((X.length:Nat):Int))))] aa ak fun aK al=>?_
 refine qaf (qab ?_)
 refine qae [0,1,2,3,4,5] kz ?_
 refine qal [0,1,2] [3,4,5] [(6,.p 0 0),(8,.v (.int .i64 (IntKind.i64.wrap (IntKind.i16.wrap ((X.length:Nat):Int)))))] aa al fun aL am=>?_
 have ao:IntKind.i64.wrap (IntKind.i16.wrap ((X.length:Nat):Int)) = ((X.length:Nat):Int):=by simp only [i16w,i32w,i64w]; omega
 have ap:=EnvOk.pick am (ks:=[6,8]) (env':=[(6,.p 0 0),(8,.v (.int .i64 (IntKind.i64.wrap (IntKind.i16.wrap ((X.length:Nat):Int)))))]) kz
 have ar:=ap
 rw [ao] at ar
 refine qan (qam ar (f:=192) (vs:=(z41 br X.length)) (d:=9) kz Tryz.call192 (qir X (rest) (Str.of aa 0 rfl) ai (qc8 0 rfl)) ?_)
 rintro e_ aM ⟨_,aD,aE,aF,rfl,au,av,ae,⟨aH,rfl,aw⟩⟩
 obtain ⟨ab,af,aI⟩:=aa.wrote 0 (z7 br aD aE aF) rfl ae au
 have ax:=av.move (Step.refl _ Nil) nilM (fun b_ o_ h_ _=>af.to b_ o_ h_)
 refine ⟨_,rfl,fun aN ay=>?_⟩
 have az:EnvOk 11 (z7 br aD aE aF) [(9,.v (.slice aH X.length X.length)),(6,.p 0 0),(8,.v (.int .i64 ((X.length:Nat):Int)))] _:=ay.places (⟨rfl,rfl,trivial⟩)
 have aA:=aw.move (Step.refl _ Nil) nilM (fun b_ o_ h_ _=>af.to b_ o_ h_)
 refine qan (qey az (src:=22) (dst:=9) (e:=5) (d:=10) kz kz kz kz aA fun aO aB=>?_)
 refine qal [5] [] [(2,.v (.string (bs X)))] ab aB fun aP aC=>?_
 refine qaf (qab ?_)
 refine wp_ret (qaL aC ab.cells (v:=.string (bs X)) kz ?_)
 refine ⟨_,_,_,_,rfl,Str.of ab 0 rfl,(ax.move (Step.refl _ Nil) nilM qbL),ab.step,rfl⟩
theorem qfz (X:Bs) (hX:X.length ≤ 1000000) (rest:Bs)  {br:Nat} {A:Option Addr} {m c:Nat} {w:World} {F:Nat → Nat → Prop} (hst:Str w br [.slice A m c,.bool false]) (hr:RdS w F A m c ((uv (X.length + 1)) ++ (X ++ rest))) (hFd:∀ b o,F b o → ¬ RdM br b o) :
  Calls Tryz.prog 153 #[.pointer (some ⟨br,0,none⟩)] w (RdPost w br (Fp F w) rest fun v w'=>v = .string (bs X)):=by
 refine enter (n:=12) Tryz.func153 rfl Tryz.ntmps153 kz fun a hE=>?_
 have hW:WOk w (RdM br) w (z7 br A m c) []:=WOk.startStr hst
 have hE1:=(hE.grow ⟨br,0,[.slice A m c,.bool false],true⟩).recast 0 (.v (.pointer (some ⟨br,0,none⟩))) (.p 0 0) rfl rfl (Nat.le_of_ble_eq_true (n:=1) rfl)
 refine qap [(0,.p 0 0)] hW hE1 fun a1 hE2=>?_
 refine qae [0,1,2,3,4] kz ?_
 refine qal [0] [1,2,3,4] [(0,.p 0 0),(4,.p 0 0)] hW hE2 fun a3 hE4=>?_
 refine qan (qam hE4 (f:=190) (vs:=[.pointer (some ⟨br,0,none⟩)]) (d:=5) kz Tryz.call190 (qdq (X.length + 1) (by omega) (X ++ rest) (Str.of hW 0 rfl) (hr.move hW.step (fun b_ o_ h_ _=>hFd b_ o_ h_) (hW.immM hFd)) (qc8 0 rfl)) ?_)
 rintro e_ w5 ⟨_,A6,n7,c8,rfl,hs9,ag,ac,rfl⟩
 obtain ⟨aa,ah,aG⟩:=hW.wrote 0 (z7 br A6 n7 c8) rfl ac hs9
 have ai:=ag.move (Step.refl _ Nil) nilM (fun b_ o_ h_ _=>ah.to b_ o_ h_)
 refine ⟨_,rfl,fun aJ aj=>?_⟩
 have ak:EnvOk 12 (z7 br A6 n7 c8) [(5,.v (.int .u32 ((X.length + 1:Nat):Int))),(0,.p 0 0),(4,.p 0 0)] _:=aj.places (⟨rfl,rfl,trivial⟩)
 refine qal [2,3,4] [] [(0,.p 0 0),(3,.v (.int .i64 (IntKind.i64.wrap ((IntKind.i64.wrap ((X.length + 1:Nat):Int)) - 1))))] aa ak fun aK al=>?_
 refine qaf (qab ?_)
 refine qae [0,1,2,3,4] kz ?_
 refine qal [0,1] [2,3,4] [(8,.p 0 0),(9,.v (.int .i64 (IntKind.i64.wrap ((IntKind.i64.wrap ((X.length + 1:Nat):Int)) - 1))))] aa al fun aL am=>?_
 have ao:IntKind.i64.wrap ((IntKind.i64.wrap ((X.length + 1:Nat):Int)) - 1) = ((X.length:Nat):Int):=by simp only [i16w,i32w,i64w]; omega
 have ap:=EnvOk.pick am (ks:=[8,9]) (env':=[(8,.p 0 0),(9,.v (.int .i64 (IntKind.i64.wrap ((IntKind.i64.wrap ((X.length + 1:Nat):Int)) - 1))))]) kz
 have ar:=ap
 rw [ao] at ar
 refine qan (qam ar (f:=192) (vs:=(z41 br X.length)) (d:=10) kz Tryz.call192 (qir X (rest) (Str.of aa 0 rfl) ai (qc8 0 rfl)) ?_)
 rintro e_ aM ⟨_,aD,aE,aF,rfl,au,av,ae,⟨aH,rfl,aw⟩⟩
 obtain ⟨ab,af,aI⟩:=aa.wrote 0 (z7 br aD aE aF) rfl ae au
 have ax:=av.move (Step.refl _ Nil) nilM (fun b_ o_ h_ _=>af.to b_ o_ h_)
 refine ⟨_,rfl,fun aN ay=>?_⟩
 have az:EnvOk 12 (z7 br aD aE aF) [(10,.v (.slice aH X.length X.length)),(8,.p 0 0),(9,.v (.int .i64 ((X.length:Nat):Int)))] _:=ay.places (⟨rfl,rfl,trivial⟩)
 have aA:=aw.move (Step.refl _ Nil) nilM (fun b_ o_ h_ _=>af.to b_ o_ h_)
 refine qan (qey az (src:=22) (dst:=9) (e:=5) (d:=11) kz kz kz kz aA fun aO aB=>?_)
 refine qal [4] [] [(2,.v (.string (bs X)))] ab aB fun aP aC=>?_
 refine qaf (qab ?_)
 refine wp_ret (qaL aC ab.cells (v:=.string (bs X)) kz ?_)
 refine ⟨_,_,_,_,rfl,Str.of ab 0 rfl,(ax.move (Step.refl _ Nil) nilM qbL),ab.step,rfl⟩
theorem qeV (X:Bs) (rest:Bs)  {br:Nat} {A:Option Addr} {m c:Nat} {w:World} {F:Nat → Nat → Prop} (hst:Str w br [.slice A m c,.bool false]) (hr:RdS w F A m c ((be 2 (-1)) ++ rest)) (hFd:∀ b o,F b o → ¬ RdM br b o) :
  Calls Tryz.prog 145 #[.pointer (some ⟨br,0,none⟩)] w (RdPost w br (Fp F w) rest fun v w'=>∃ A2,v = .pointer A2 ∧ (∀ ad,A2 = some ad → ∃ b o,ad = ⟨b,o,none⟩ ∧ AtF w' (Fp F w) b o [.string (bs X)]) ∧ A2.isNone = true):=by
 refine enter (n:=14) Tryz.func145 rfl Tryz.ntmps145 kz fun a hE=>?_
 have hW:WOk w (RdM br) w (z7 br A m c) []:=WOk.startStr hst
 have hE1:=(hE.grow ⟨br,0,[.slice A m c,.bool false],true⟩).recast 0 (.v (.pointer (some ⟨br,0,none⟩))) (.p 0 0) rfl rfl (Nat.le_of_ble_eq_true (n:=1) rfl)
 refine qap [(0,.p 0 0)] hW hE1 fun a1 hE2=>?_
 refine qae [0,1,2] kz ?_
 refine qal [0] [1,2] [(0,.p 0 0),(5,.p 0 0)] hW hE2 fun a3 hE4=>?_
 refine qan (qam hE4 (f:=141) (vs:=[.pointer (some ⟨br,0,none⟩)]) (d:=6) kz Tryz.call141 (qhM (-1) (rest) (Str.of hW 0 rfl) (hr.move hW.step (fun b_ o_ h_ _=>hFd b_ o_ h_) (hW.immM hFd)) (qc8 0 rfl)) ?_)
 rintro e_ w5 ⟨_,A6,n7,c8,rfl,hs9,ae,ab,rfl⟩
 obtain ⟨aa,af,al⟩:=hW.wrote 0 (z7 br A6 n7 c8) rfl ab hs9
 have ag:=ae.move (Step.refl _ Nil) nilM (fun b_ o_ h_ _=>af.to b_ o_ h_)
 refine ⟨_,rfl,fun am ah=>?_⟩
 have ai:EnvOk 14 (z7 br A6 n7 c8) [(6,.v (.int .i16 (IntKind.i16.wrap (-1)))),(0,.p 0 0),(5,.p 0 0)] _:=ah.places (⟨rfl,rfl,trivial⟩)
 refine qal [2] [] [(0,.p 0 0),(3,.v (.int .i16 (IntKind.i16.wrap (-1))))] aa ai fun ao aj=>?_
 refine qaf (qab ?_)
 refine wp_seq (qap [(0,.p 0 0),(3,.v (.int .i16 (IntKind.i16.wrap (-1)))),(8,.v (.bool (decide ((IntKind.i16.wrap (-1)) < 0))))] aa aj fun ap ac=>?_)
 refine qa2 ac (b:=decide ((IntKind.i16.wrap (-1)) < 0)) kz (decide_eq_true (by simp only [i16w,i32w,i64w]; omega)) ?_
 refine qap [(2,.v (.pointer none))] aa ac fun ar ak=>?_
 refine wp_ret (qaq (qaL ak aa.cells (v:=.pointer none) kz ?_))
 refine ⟨_,_,_,_,rfl,Str.of aa 0 rfl,(ag.move (Step.refl _ Nil) nilM qbL),aa.step,_,rfl,(fun ad h_=>by cases h_),rfl⟩
theorem qeW (X:Bs) (hX:X.length ≤ 32767) (rest:Bs)  {br:Nat} {A:Option Addr} {m c:Nat} {w:World} {F:Nat → Nat → Prop} (hst:Str w br [.slice A m c,.bool false]) (hr:RdS w F A m c ((be 2 ((X.length:Nat):Int)) ++ (X ++ rest))) (hFd:∀ b o,F b o → ¬ RdM br b o) :
  Calls Tryz.prog 145 #[.pointer (some ⟨br,0,none⟩)] w (RdPost w br (Fp F w) rest fun v w'=>∃ A2,v = .pointer A2 ∧ (∀ ad,A2 = some ad → ∃ b o,ad = ⟨b,o,none⟩ ∧ AtF w' (Fp F w) b o [.string (bs X)]) ∧ A2.isNone = false):=by
 refine enter (n:=14) Tryz.func145 rfl Tryz.ntmps145 kz fun a hE=>?_
 have hW:WOk w (RdM br) w (z7 br A m c) []:=WOk.startStr hst
 have hE1:=(hE.grow ⟨br,0,[.slice A m c,.bool false],true⟩).recast 0 (.v (.pointer (some ⟨br,0,none⟩))) (.p 0 0) rfl rfl (Nat.le_of_ble_eq_true (n:=1) rfl)
 refine qap [(0,.p 0 0)] hW hE1 fun a1 hE2=>?_
 refine qae [0,1,2] kz ?_
 refine qal [0] [1,2] [(0,.p 0 0),(5,.p 0 0)] hW hE2 fun a3 hE4=>?_
 refine qan (qam hE4 (f:=141) (vs:=[.pointer (some ⟨br,0,none⟩)]) (d:=6) kz Tryz.call141 (qhM ((X.length:Nat):Int) (X ++ rest) (Str.of hW 0 rfl) (hr.move hW.step (fun b_ o_ h_ _=>hFd b_ o_ h_) (hW.immM hFd)) (qc8 0 rfl)) ?_)
 rintro e_ w5 ⟨_,A6,n7,c8,rfl,hs9,aj,ac,rfl⟩
 obtain ⟨aa,ak,aN⟩:=hW.wrote 0 (z7 br A6 n7 c8) rfl ac hs9
 have al:=aj.move (Step.refl _ Nil) nilM (fun b_ o_ h_ _=>ak.to b_ o_ h_)
 refine ⟨_,rfl,fun aT am=>?_⟩
 have ao:EnvOk 14 (z7 br A6 n7 c8) [(6,.v (.int .i16 (IntKind.i16.wrap ((X.length:Nat):Int)))),(0,.p 0 0),(5,.p 0 0)] _:=am.places (⟨rfl,rfl,trivial⟩)
 refine qal [2] [] [(0,.p 0 0),(3,.v (.int .i16 (IntKind.i16.wrap ((X.length:Nat):Int))))] aa ao fun aU ap=>?_
 refine qaf (qab ?_)
 refine wp_seq (qap [(0,.p 0 0),(3,.v (.int .i16 (IntKind.i16.wrap ((X.length:Nat):Int)))),(8,.v (.bool (decide ((IntKind.i16.wrap ((X.length:Nat):Int)) < 0))))] aa ap fun aV ae=>?_)
 refine qar ae (b:=decide ((IntKind.i16.wrap ((X.length:Nat):Int)) < 0)) kz (decide_eq_false (by simp only [i16w,i32w,i64w]; omega)) ?_
 refine wp_skip (qab (qae [0,1,2,3,4,5,6] kz ?_))
 refine qal [0,1,2] [3,4,5,6] [(9,.p 0 0),(11,.v (.int .i64 (IntKind.i64.wrap (IntKind.i16.wrap ((X.length:Nat):Int)))))] aa ae fun aW ar=>?_
 have au:IntKind.i64.wrap (IntKind.i16.wrap ((X.length:Nat):Int)) = ((X.length:Nat):Int):=by simp only [i16w,i32w,i64w]; omega
 have av:=EnvOk.pick ar (ks:=[9,11]) (env':=[(9,.p 0 0),(11,.v (.int .i64 (IntKind.i64.wrap (IntKind.i16.wrap ((X.length:Nat):Int)))))]) kz
 have aw:=av
 rw [au] at aw
 refine qan (qam aw (f:=192) (vs:=(z41 br X.length)) (d:=12) kz Tryz.call192 (qir X (rest) (Str.of aa 0 rfl) al (qc8 0 rfl)) ?_)
 rintro e_ aX ⟨_,aK,aL,aM,rfl,ax,ay,af,⟨aO,rfl,az⟩⟩
 obtain ⟨aA,ag,aP⟩:=aa.wrote 0 (z7 br aK aL aM) rfl af ax
 have aB:=ay.move (Step.refl _ Nil) nilM (fun b_ o_ h_ _=>ag.to b_ o_ h_)
 refine ⟨_,rfl,fun aY aC=>?_⟩
 have aD:EnvOk 14 (z7 br aK aL aM) [(12,.v (.slice aO X.length X.length)),(9,.p 0 0),(11,.v (.int .i64 ((X.length:Nat):Int)))] _:=aC.places (⟨rfl,rfl,trivial⟩)
 have aE:=az.move (Step.refl _ Nil) nilM (fun b_ o_ h_ _=>ag.to b_ o_ h_)
 refine qan (qey aD (src:=22) (dst:=9) (e:=5) (d:=13) kz kz kz kz aE fun aZ aF=>?_)
 refine qan (qaP aA aF (d:=4) (cs:=[.string ByteArray.empty]) kz fun aQ ba bd aR aS ah aG aH=>?_)
 refine qan (qat aG aH (oi:=1) (cs:=[.string (bs X)]) kz fun bf ai ab aI=>?_)
 refine qaf (qab ?_)
 refine qap [(2,.p 1 0)] ab aI fun bg aJ=>?_
 refine wp_ret (qaL aJ ab.cells (v:=.pointer (some ⟨aQ,0,none⟩)) kz ?_)
 refine ⟨_,_,_,_,rfl,Str.of ab 0 rfl,((aB.move (ah.trans ai).step immM (ah.trans ai).to').move (Step.refl _ Nil) nilM qbL),ab.step,_,rfl,(fun ad h_=>by
  obtain rfl:=Option.some.inj h_
  exact ⟨_,0,rfl,fun j v_ hj=>⟨.inr ‹_›,ab.cells 1 _ rfl j v_ hj⟩⟩),rfl⟩
theorem qft (nul:Bool) (X:Bs) (hX:X.length ≤ 32767) (rest:Bs) {br:Nat} {A:Option Addr} {m c:Nat} {w:World} {F:Nat → Nat → Prop} (hst:Str w br [.slice A m c,.bool false]) (hr:RdS w F A m c ((if nul = true then be 2 (-1) else be 2 ((X.length:Nat):Int) ++ X) ++ rest)) (hFd:∀ b o,F b o → ¬ RdM br b o) :
  Calls Tryz.prog 145 #[.pointer (some ⟨br,0,none⟩)] w (RdPost w br (Fp F w) rest fun v w'=>∃ A2,v = .pointer A2 ∧ (∀ ad,A2 = some ad → ∃ b o,ad = ⟨b,o,none⟩ ∧ AtF w' (Fp F w) b o [.string (bs X)]) ∧ A2.isNone = nul):=by
 cases nul
 ·exact qeW X hX rest hst (hr.cast (by simp only [Bool.false_eq_true,if_false,List.append_assoc])) hFd
 exact qeV X rest hst (hr.cast (by simp only [if_true])) hFd
theorem qdr (X:Bs) (rest:Bs)  {br:Nat} {A:Option Addr} {m c:Nat} {w:World} {F:Nat → Nat → Prop} (hst:Str w br [.slice A m c,.bool false]) (hr:RdS w F A m c ((uv 0) ++ rest)) (hFd:∀ b o,F b o → ¬ RdM br b o) :
  Calls Tryz.prog 143 #[.pointer (some ⟨br,0,none⟩)] w (RdPost w br (Fp F w) rest fun v w'=>∃ A2,v = .pointer A2 ∧ (∀ ad,A2 = some ad → ∃ b o,ad = ⟨b,o,none⟩ ∧ AtF w' (Fp F w) b o [.string (bs X)]) ∧ A2.isNone = true):=by
 refine enter (n:=15) Tryz.func143 rfl Tryz.ntmps143 kz fun a hE=>?_
 have hW:WOk w (RdM br) w (z7 br A m c) []:=WOk.startStr hst
 have hE1:=(hE.grow ⟨br,0,[.slice A m c,.bool false],true⟩).recast 0 (.v (.pointer (some ⟨br,0,none⟩))) (.p 0 0) rfl rfl (Nat.le_of_ble_eq_true (n:=1) rfl)
 refine qap [(0,.p 0 0)] hW hE1 fun a1 hE2=>?_
 refine qae [0,1,2,3,4] kz ?_
 refine qal [0] [1,2,3,4] [(0,.p 0 0),(5,.p 0 0)] hW hE2 fun a3 hE4=>?_
 refine qan (qam hE4 (f:=190) (vs:=[.pointer (some ⟨br,0,none⟩)]) (d:=6) kz Tryz.call190 (qdq 0 (by omega) (rest) (Str.of hW 0 rfl) (hr.move hW.step (fun b_ o_ h_ _=>hFd b_ o_ h_) (hW.immM hFd)) (qc8 0 rfl)) ?_)
 rintro e_ w5 ⟨_,A6,n7,c8,rfl,hs9,ae,ab,rfl⟩
 obtain ⟨aa,af,al⟩:=hW.wrote 0 (z7 br A6 n7 c8) rfl ab hs9
 have ag:=ae.move (Step.refl _ Nil) nilM (fun b_ o_ h_ _=>af.to b_ o_ h_)
 refine ⟨_,rfl,fun am ah=>?_⟩
 have ai:EnvOk 15 (z7 br A6 n7 c8) [(6,.v (.int .u32 ((0:Nat):Int))),(0,.p 0 0),(5,.p 0 0)] _:=ah.places (⟨rfl,rfl,trivial⟩)
 refine qal [2,3,4] [] [(0,.p 0 0),(3,.v (.int .i64 (IntKind.i64.wrap ((IntKind.i64.wrap ((0:Nat):Int)) - 1))))] aa ai fun ao aj=>?_
 refine qaf (qab ?_)
 refine wp_seq (qap [(0,.p 0 0),(3,.v (.int .i64 (IntKind.i64.wrap ((IntKind.i64.wrap ((0:Nat):Int)) - 1)))),(10,.v (.bool (decide ((IntKind.i64.wrap ((IntKind.i64.wrap ((0:Nat):Int)) - 1)) < 0))))] aa aj fun ap ac=>?_)
 refine qa2 ac (b:=decide ((IntKind.i64.wrap ((IntKind.i64.wrap ((0:Nat):Int)) - 1)) < 0)) kz (decide_eq_true (by simp only [i16w,i32w,i64w]; omega)) ?_
 refine qap [(2,.v (.pointer none))] aa ac fun ar ak=>?_
 refine wp_ret (qaq (qaL ak aa.cells (v:=.pointer none) kz ?_))
 refine ⟨_,_,_,_,rfl,Str.of aa 0 rfl,(ag.move (Step.refl _ Nil) nilM qbL),aa.step,_,rfl,(fun ad h_=>by cases h_),rfl⟩
theorem qds (X:Bs) (hX:X.length ≤ 1000000) (rest:Bs)  {br:Nat} {A:Option Addr} {m c:Nat} {w:World} {F:Nat → Nat → Prop} (hst:Str w br [.slice A m c,.bool false]) (hr:RdS w F A m c ((uv (X.length + 1)) ++ (X ++ rest))) (hFd:∀ b o,F b o → ¬ RdM br b o) :
  Calls Tryz.prog 143 #[.pointer (some ⟨br,0,none⟩)] w (RdPost w br (Fp F w) rest fun v w'=>∃ A2,v = .pointer A2 ∧ (∀ ad,A2 = some ad → ∃ b o,ad = ⟨b,o,none⟩ ∧ AtF w' (Fp F w) b o [.string (bs X)]) ∧ A2.isNone = false):=by
 refine enter (n:=15) Tryz.func143 rfl Tryz.ntmps143 kz fun a hE=>?_
 have hW:WOk w (RdM br) w (z7 br A m c) []:=WOk.startStr hst
 have hE1:=(hE.grow ⟨br,0,[.slice A m c,.bool false],true⟩).recast 0 (.v (.pointer (some ⟨br,0,none⟩))) (.p 0 0) rfl rfl (Nat.le_of_ble_eq_true (n:=1) rfl)
 refine qap [(0,.p 0 0)] hW hE1 fun a1 hE2=>?_
 refine qae [0,1,2,3,4] kz ?_
 refine qal [0] [1,2,3,4] [(0,.p 0 0),(5,.p 0 0)] hW hE2 fun a3 hE4=>?_
 refine qan (qam hE4 (f:=190) (vs:=[.pointer (some ⟨br,0,none⟩)]) (d:=6) kz Tryz.call190 (qdq (X.length + 1) (by omega) (X ++ rest) (Str.of hW 0 rfl) (hr.move hW.step (fun b_ o_ h_ _=>hFd b_ o_ h_) (hW.immM hFd)) (qc8 0 rfl)) ?_)
 rintro e_ w5 ⟨_,A6,n7,c8,rfl,hs9,aj,ac,rfl⟩
 obtain ⟨aa,ak,aN⟩:=hW.wrote 0 (z7 br A6 n7 c8) rfl ac hs9
 have al:=aj.move (Step.refl _ Nil) nilM (fun b_ o_ h_ _=>ak.to b_ o_ h_)
 refine ⟨_,rfl,fun aT am=>?_⟩
 have ao:EnvOk 15 (z7 br A6 n7 c8) [(6,.v (.int .u32 ((X.length + 1:Nat):Int))),(0,.p 0 0),(5,.p 0 0)] _:=am.places (⟨rfl,rfl,trivial⟩)
 refine qal [2,3,4] [] [(0,.p 0 0),(3,.v (.int .i64 (IntKind.i64.wrap ((IntKind.i64.wrap ((X.length + 1:Nat):Int)) - 1))))] aa ao fun aU ap=>?_
 refine qaf (qab ?_)
 refine wp_seq (qap [(0,.p 0 0),(3,.v (.int .i64 (IntKind.i64.wrap ((IntKind.i64.wrap ((X.length + 1:Nat):Int)) - 1)))),(10,.v (.bool (decide ((IntKind.i64.wrap ((IntKind.i64.wrap ((X.length + 1:Nat):Int)) - 1)) < 0))))] aa ap fun aV ae=>?_)
 refine qar ae (b:=decide ((IntKind.i64.wrap ((IntKind.i64.wrap ((X.length + 1:Nat):Int)) - 1)) < 0)) kz (decide_eq_false (by simp only [i16w,i32w,i64w]; omega)) ?_
 refine wp_skip (qab (qae [0,1,2,3,4,5] kz ?_))
 refine qal [0,1] [2,3,4,5] [(11,.p 0 0),(12,.v (.int .i64 (IntKind.i64.wrap ((IntKind.i64.wrap ((X.length + 1:Nat):Int)) - 1))))] aa ae fun aW ar=>?_
 have au:IntKind.i64.wrap ((IntKind.i64.wrap ((X.length + 1:Nat):Int)) - 1) = ((X.length:Nat):Int):=by simp only [i16w,i32w,i64w]; omega
 have av:=EnvOk.pick ar (ks:=[11,12]) (env':=[(11,.p 0 0),(12,.v (.int .i64 (IntKind.i64.wrap ((IntKind.i64.wrap ((X.length + 1:Nat):Int)) - 1))))]) kz
 have aw:=av
 rw [au] at aw
 refine qan (qam aw (f:=192) (vs:=(z41 br X.length)) (d:=13) kz Tryz.call192 (qir X (rest) (Str.of aa 0 rfl) al (qc8 0 rfl)) ?_)
 rintro e_ aX ⟨_,aK,aL,aM,rfl,ax,ay,af,⟨aO,rfl,az⟩⟩
 obtain ⟨aA,ag,aP⟩:=aa.wrote 0 (z7 br aK aL aM) rfl af ax
 have aB:=ay.move (Step.refl _ Nil) nilM (fun b_ o_ h_ _=>ag.to b_ o_ h_)
 refine ⟨_,rfl,fun aY aC=>?_⟩
 have aD:EnvOk 15 (z7 br aK aL aM) [(13,.v (.slice aO X.length X.length)),(11,.p 0 0),(12,.v (.int .i64 ((X.length:Nat):Int)))] _:=aC.places (⟨rfl,rfl,trivial⟩)
 have aE:=az.move (Step.refl _ Nil) nilM (fun b_ o_ h_ _=>ag.to b_ o_ h_)
 refine qan (qey aD (src:=22) (dst:=9) (e:=5) (d:=14) kz kz kz kz aE fun aZ aF=>?_)
 refine qan (qaP aA aF (d:=4) (cs:=[.string ByteArray.empty]) kz fun aQ ba bd aR aS ah aG aH=>?_)
 refine qan (qat aG aH (oi:=1) (cs:=[.string (bs X)]) kz fun bf ai ab aI=>?_)
 refine qaf (qab ?_)
 refine qap [(2,.p 1 0)] ab aI fun bg aJ=>?_
 refine wp_ret (qaL aJ ab.cells (v:=.pointer (some ⟨aQ,0,none⟩)) kz ?_)
 refine ⟨_,_,_,_,rfl,Str.of ab 0 rfl,((aB.move (ah.trans ai).step immM (ah.trans ai).to').move (Step.refl _ Nil) nilM qbL),ab.step,_,rfl,(fun ad h_=>by
  obtain rfl:=Option.some.inj h_
  exact ⟨_,0,rfl,fun j v_ hj=>⟨.inr ‹_›,ab.cells 1 _ rfl j v_ hj⟩⟩),rfl⟩
theorem qdw (nul:Bool) (X:Bs) (hX:X.length ≤ 1000000) (rest:Bs) {br:Nat} {A:Option Addr} {m c:Nat} {w:World} {F:Nat → Nat → Prop} (hst:Str w br [.slice A m c,.bool false]) (hr:RdS w F A m c ((if nul = true then uv 0 else uv (X.length + 1) ++ X) ++ rest)) (hFd:∀ b o,F b o → ¬ RdM br b o) :
  Calls Tryz.prog 143 #[.pointer (some ⟨br,0,none⟩)] w (RdPost w br (Fp F w) rest fun v w'=>∃ A2,v = .pointer A2 ∧ (∀ ad,A2 = some ad → ∃ b o,ad = ⟨b,o,none⟩ ∧ AtF w' (Fp F w) b o [.string (bs X)]) ∧ A2.isNone = nul):=by
 cases nul
 ·exact qds X hX rest hst (hr.cast (by simp only [Bool.false_eq_true,if_false,List.append_assoc])) hFd
 exact qdr X rest hst (hr.cast (by simp only [if_true])) hFd
theorem qjJ (x:Int) (hx:-1 ≤ x ∧ x ≤ 32767) (rest:Bs) (hl:x ≤ ((rest.length:Nat):Int)) {br:Nat} {A:Option Addr} {m c:Nat} {w:World} {F:Nat → Nat → Prop} (hst:Str w br [.slice A m c,.bool false]) (hr:RdS w F A m c ((be 4 x) ++ rest)) (hFd:∀ b o,F b o → ¬ RdM br b o) :
  Calls Tryz.prog 147 #[.pointer (some ⟨br,0,none⟩)] w (RdPost w br (Fp F w) rest fun v w'=>v = .int .i32 x):=by
 refine enter (n:=21) Tryz.func147 rfl Tryz.ntmps147 kz fun a hE=>?_
 have hW:WOk w (RdM br) w (z7 br A m c) []:=WOk.startStr hst
 have hE1:=(hE.grow ⟨br,0,[.slice A m c,.bool false],true⟩).recast 0 (.v (.pointer (some ⟨br,0,none⟩))) (.p 0 0) rfl rfl (Nat.le_of_ble_eq_true (n:=1) rfl)
 refine qap [(0,.p 0 0)] hW hE1 fun a1 hE2=>?_
 refine qae [0,1,2] kz ?_
 refine qal [0] [1,2] [(0,.p 0 0),(4,.p 0 0)] hW hE2 fun a3 hE4=>?_
 refine qan (qam hE4 (f:=139) (vs:=[.pointer (some ⟨br,0,none⟩)]) (d:=5) kz Tryz.call139 (qkJ x (rest) (Str.of hW 0 rfl) (hr.move hW.step (fun b_ o_ h_ _=>hFd b_ o_ h_) (hW.immM hFd)) (qc8 0 rfl)) ?_)
 rintro e_ w5 ⟨_,A6,n7,c8,rfl,hs9,af,ab,rfl⟩
 obtain ⟨aa,ag,al⟩:=hW.wrote 0 (z7 br A6 n7 c8) rfl ab hs9
 have ac:=af.move (Step.refl _ Nil) nilM (fun b_ o_ h_ _=>ag.to b_ o_ h_)
 refine ⟨_,rfl,fun am ah=>?_⟩
 have ai:EnvOk 21 (z7 br A6 n7 c8) [(5,.v (.int .i32 (IntKind.i32.wrap x))),(0,.p 0 0),(4,.p 0 0)] _:=ah.places (⟨rfl,rfl,trivial⟩)
 refine qal [2] [] [(0,.p 0 0),(3,.v (.int .i32 (IntKind.i32.wrap x)))] aa ai fun ao aj=>?_
 refine qaf (qab ?_)
 refine wp_seq (qap [(0,.p 0 0),(3,.v (.int .i32 (IntKind.i32.wrap x))),(13,.v (.bool (decide (((n7:Nat):Int) < (IntKind.i64.wrap (IntKind.i32.wrap x))))))] aa aj fun ap ae=>?_)
 refine qar ae (b:=decide (((n7:Nat):Int) < (IntKind.i64.wrap (IntKind.i32.wrap x)))) kz (decide_eq_false (by have h_:=ac.len; simp only [i32w,i64w]; omega)) ?_
 refine wp_skip (qab (qap [(2,.v (.int .i32 (IntKind.i32.wrap x)))] aa ae fun ar ak=>?_))
 refine wp_ret (qaL ak aa.cells (v:=.int .i32 (IntKind.i32.wrap x)) kz ?_)
 refine ⟨_,_,_,_,rfl,Str.of aa 0 rfl,(ac.move (Step.refl _ Nil) nilM qbL),aa.step,congrArg (Value.int .i32) (by simp only [i32w]; omega)⟩
theorem qeX (n:Nat) (hn:n ≤ 32768) (rest:Bs) (hl:n ≤ rest.length + 1) {br:Nat} {A:Option Addr} {m c:Nat} {w:World} {F:Nat → Nat → Prop} (hst:Str w br [.slice A m c,.bool false]) (hr:RdS w F A m c ((uv n) ++ rest)) (hFd:∀ b o,F b o → ¬ RdM br b o) :
  Calls Tryz.prog 146 #[.pointer (some ⟨br,0,none⟩)] w (RdPost w br (Fp F w) rest fun v w'=>v = .int .i32 (((n:Nat):Int) - 1)):=by
 refine enter (n:=23) Tryz.func146 rfl Tryz.ntmps146 kz fun a hE=>?_
 have hW:WOk w (RdM br) w (z7 br A m c) []:=WOk.startStr hst
 have hE1:=(hE.grow ⟨br,0,[.slice A m c,.bool false],true⟩).recast 0 (.v (.pointer (some ⟨br,0,none⟩))) (.p 0 0) rfl rfl (Nat.le_of_ble_eq_true (n:=1) rfl)
 refine qap [(0,.p 0 0)] hW hE1 fun a1 hE2=>?_
 refine qae [0,1,2,3,4] kz ?_
 refine qal [0] [1,2,3,4] [(0,.p 0 0),(4,.p 0 0)] hW hE2 fun a3 hE4=>?_
 refine qan (qam hE4 (f:=190) (vs:=[.pointer (some ⟨br,0,none⟩)]) (d:=5) kz Tryz.call190 (qdq n (by omega) (rest) (Str.of hW 0 rfl) (hr.move hW.step (fun b_ o_ h_ _=>hFd b_ o_ h_) (hW.immM hFd)) (qc8 0 rfl)) ?_)
 rintro e_ w5 ⟨_,A6,n7,c8,rfl,hs9,af,ab,rfl⟩
 obtain ⟨aa,ag,al⟩:=hW.wrote 0 (z7 br A6 n7 c8) rfl ab hs9
 have ac:=af.move (Step.refl _ Nil) nilM (fun b_ o_ h_ _=>ag.to b_ o_ h_)
 refine ⟨_,rfl,fun am ah=>?_⟩
 have ai:EnvOk 23 (z7 br A6 n7 c8) [(5,.v (.int .u32 ((n:Nat):Int))),(0,.p 0 0),(4,.p 0 0)] _:=ah.places (⟨rfl,rfl,trivial⟩)
 refine qal [2,3,4] [] [(0,.p 0 0),(3,.v (.int .i32 (IntKind.i32.wrap ((IntKind.i32.wrap ((n:Nat):Int)) - 1))))] aa ai fun ao aj=>?_
 refine qaf (qab ?_)
 refine wp_seq (qap [(0,.p 0 0),(3,.v (.int .i32 (IntKind.i32.wrap ((IntKind.i32.wrap ((n:Nat):Int)) - 1)))),(15,.v (.bool (decide (((n7:Nat):Int) < (IntKind.i64.wrap (IntKind.i32.wrap ((IntKind.i32.wrap ((n:Nat):Int)) - 1)))))))] aa aj fun ap ae=>?_)
 refine qar ae (b:=decide (((n7:Nat):Int) < (IntKind.i64.wrap (IntKind.i32.wrap ((IntKind.i32.wrap ((n:Nat):Int)) - 1))))) kz (decide_eq_false (by have h_:=ac.len; simp only [i32w,i64w]; omega)) ?_
 refine wp_skip (qab (qap [(2,.v (.int .i32 (IntKind.i32.wrap ((IntKind.i32.wrap ((n:Nat):Int)) - 1))))] aa ae fun ar ak=>?_))
 refine wp_ret (qaL ak aa.cells (v:=.int .i32 (IntKind.i32.wrap ((IntKind.i32.wrap ((n:Nat):Int)) - 1))) kz ?_)
 refine ⟨_,_,_,_,rfl,Str.of aa 0 rfl,(ac.move (Step.refl _ Nil) nilM qbL),aa.step,congrArg (Value.int .i32) (by simp only [i32w]; omega)⟩
theorem rOk  (rest:Bs)  {br:Nat} {A:Option Addr} {m c:Nat} {w:World} {F:Nat → Nat → Prop} (hst:Str w br [.slice A m c,.bool false]) (hr:RdS w F A m c (rest)) (hFd:∀ b o,F b o → ¬ RdM br b o) :
  Calls Tryz.prog 148 #[.pointer (some ⟨br,0,none⟩)] w (RdPost w br (Fp F w) rest fun v w'=>v = .bool true):=by
 refine enter (n:=8) Tryz.func148 rfl Tryz.ntmps148 kz fun a hE=>?_
 have hW:WOk w (RdM br) w (z7 br A m c) []:=WOk.startStr hst
 have hE1:=(hE.grow ⟨br,0,[.slice A m c,.bool false],true⟩).recast 0 (.v (.pointer (some ⟨br,0,none⟩))) (.p 0 0) rfl rfl (Nat.le_of_ble_eq_true (n:=1) rfl)
 refine qap [(0,.p 0 0)] hW hE1 fun a1 hE2=>?_
 refine qap [(2,.v (.bool true))] hW hE2 fun a3 hE4=>?_
 refine wp_ret (qaL hE4 hW.cells (v:=.bool true) kz ?_)
 refine ⟨_,_,_,_,rfl,Str.of hW 0 rfl,((hr.move hW.step (fun b_ o_ h_ _=>hFd b_ o_ h_) (hW.immM hFd)).move (Step.refl _ Nil) nilM qbL),hW.step,rfl⟩
theorem qd1 {P:Program} {c:Code} {Mid:Act → World → Prop} {Q:Exit → Act → World → Prop} {a:Act} {w:World} (h1:c.wp P (Exit.then Mid Q) a w) (h2:∀ a' w',Mid a' w' → Q .normal a' w'):c.wp P Q a w :=
 wp_mono h1 fun e a' w' h=>by
  cases e <;> first | exact h2 a' w' h | exact h
theorem qhN {k:Nat} (h:k < 32768):IntKind.i32.wrap (((k:Nat):Int) + 1) = ((k + 1:Nat):Int):=by rw [i32w]; omega
theorem qjK {g:Tree → Bs}:∀ {L:List Tree},(∀ t,0 < (g t).length) → L.length ≤ (L.flatMap g).length
 | [],_=>Nat.zero_le _
 | t :: r,h=>by
  have h1:=h t
  have h2:=qjK (L:=r) h
  rw [List.flatMap_cons,List.length_append,List.length_cons]; omega
theorem flat_ge' {g:Tree → Bs} {L:List Tree} (h:∀ t,0 < (g t).length) (rest:Bs):L.length ≤ (L.flatMap g ++ rest).length:=by
 have:=qjK (L:=L) h
 rw [List.length_append]; omega
theorem qme {x y:Bs} (h:0 < x.length):0 < (x ++ y).length:=by rw [List.length_append]; omega
theorem qkK {m:Nat} {x:Int} (h:0 < m):0 < (be m x).length:=by rw [be_length]; exact h
section
variable {Pr:Program} {ops:Array Oper} {Q:Exit → Act → World → Prop} {w0:World} {M F:Nat → Nat → Prop} {n br:Nat} {tb:Tb} {env:Env} {P:qcj} {s:Bs} {a:Act} {w:World}
theorem qjL {id d:Nat} {t e:TypeId} {size bytes m cp:Nat} {A0:Option Addr} (env1 env':Env) (i:Nat) (h:RS w0 M F n br tb env P s a w) (K:∀ a',RS w0 M F n br tb env' P s a' w → Q .normal a' w)
  (hr:List.range ops.size = List.range i ++ (i :: (List.range ops.size).drop (i + 1)):=by kernel_rfl) (e1:∀ A m c,qda Pr ops n (rdo br A m c :: tb) (List.range i) (qbT env1) env = some env1:=by intro _ _ _; kernel_rfl)
  (hc:∀ A m_ c,cutE (rdo br A m_ c :: tb) env1 ops n i = some (t,.slice A0 m cp,none,some 0,d):=by intro _ _ _; kernel_rfl) (ht:qcF Pr t = some (e,size,bytes):=by kernel_rfl)
  (e2:∀ A m_ c,qda Pr ops n (rdo br A m_ c :: tb) ((List.range ops.size).drop (i + 1)) (qbT env') ((d,.v (.slice A0 0 cp)) :: env1) = some env':=by intro _ _ _; kernel_rfl):(Code.region id ops false).wp Pr Q a w:=by
 refine qas _ hr (qcH (List.range i) _ env1 h (fun a1 h1=>?_) e1 rfl)
 obtain ⟨A,m1,c,hW,hrd,hE,hP⟩:=h1.open_
 refine qan (qdn hE (hc A m1 c) ht (j:=0) rfl (Nat.zero_le _) fun a2 hE2=>?_)
 exact qcH _ [] env' (RS.mk' hW hrd hE2 h1.mv hP) (fun a3 h3=>qaf (K a3 h3)) e2 (List.append_nil _).symm
theorem qkL {i d:Nat} {f:FuncId} {vs:List Value} {v0:Value} {N:Act → World → Prop} (h:RS w0 M F n br tb env P s a w) (hc:∀ w,Calls Pr f vs.toArray w (fun e w'=>e = .returned v0 ∧ w' = w))
  (hf:∀ args w,(callFunc f args).run Pr w = .ok (.enter f args) w) (K:∀ a',RS w0 M F n br tb ((d,.v v0) :: env) P s a' w → N a' w)
  (he:∀ A m c,qeG (rdo br A m c :: tb) env ops n i = some (f,vs,d):=by intro _ _ _; kernel_rfl):wpOp Pr ops Q i N a w:=by
 obtain ⟨A,m,c,hW,hr,hE,hP⟩:=h.open_
 refine qam hE (he A m c) hf (hc w) ?_
 rintro e_ _ ⟨rfl,rfl⟩
 exact ⟨_,rfl,fun a1 hE1=>K a1 (RS.mk' hW hr hE1 h.mv hP)⟩
theorem qlI {id d:Nat} {f:FuncId} {v0:Value} (env':Env) (h:RS w0 M F n br tb env P s a w) (hc:qcO Pr f [] s v0)
  (hf:∀ args w,(callFunc f args).run Pr w = .ok (.enter f args) w) (K:∀ a' w',RS w0 M F n br tb env' P s a' w' → Q .normal a' w')
  (he:∀ A m c,qeG (rdo br A m c :: tb) env ops n 0 = some (f,[.pointer (some ⟨br,0,none⟩)],d):=by intro _ _ _; kernel_rfl)
  (e:∀ A m c,qda Pr ops n (rdo br A m c :: tb) ((List.range ops.size).drop 1) (qbT env') ((d,.v v0) :: env) = some env':=by intro _ _ _; kernel_rfl) (hs:Nat.blt 0 ops.size = true:=by kernel_rfl):(Code.region id ops false).wp Pr Q a w :=
 qd8 (X:=[]) (rest:=s) env' h hc hf K he e hs
theorem qhO {i d k l g size bytes:Nat} {t e:TypeId} {z:Value} {N:Act → World → Prop} (h:RS w0 M F n br (tb ++ [qbH g size z l k]) env P s a w) (hk:k < l) (hz:z.cells.size = size) (hl:qer (tb.length + 1) env = true)
  (K:∀ a',RS w0 M F n br (tb ++ [qbH g size z l (k + 1),⟨g,k * size,z.cells.toList,true⟩]) ((d,.p (tb.length + 2) 0) :: env) P s a' w → N a' w)
  (he:∀ A m c,idxE (rdo br A m c :: (tb ++ [qbH g size z l k])) env ops n i = some (t,some ⟨g,0,none⟩,l,((k:Nat):Int),d):=by intro _ _ _; kernel_rfl) (ht:qcF Pr t = some (e,size,bytes):=by kernel_rfl):wpOp Pr ops Q i N a w:=by
 obtain ⟨A,m,c,hW,hr,hE,hP⟩:=h.open_
 refine qaD hE (he A m c) ht rfl rfl hk fun a1 hE1=>K a1 ?_
 have h1:RS w0 M F n br (tb ++ [qbH g size z l k]) ((d,.v (.pointer (some ⟨g,0 + k * size,none⟩))) :: env) P s a1 w:=RS.mk' hW hr hE1 h.mv hP
 have h2:=h1.next hk hz (by simpa only [qer] using hl)
 have h3:=h2.recast d (.v (.pointer (some ⟨g,0 + k * size,none⟩))) (.p (tb.length + 2) 0) (by simp [lk]) ?_ (by show tb.length + 2 < _; simp)
 ·refine ⟨h3.mv,h3.ex,?_,h3.fact⟩
  refine ⟨h3.env_.defers,h3.env_.size,fun q x hx=>h3.env_.at_ q x ?_⟩
  simp only [lk] at hx ⊢
  split at hx
  ·exact hx
  exact hx
 have:obAt (rdo br none 0 0 :: (tb ++ [qbH g size z l (k + 1),⟨g,k * size,z.cells.toList,true⟩])) (tb.length + 2) = ⟨g,k * size,z.cells.toList,true⟩:=by
  simp only [obAt,List.getD_eq_getElem?_getD]
  rw [show tb.length + 2 = (tb.length + 1) + 1 from rfl,List.getElem?_cons_succ,List.getElem?_append_right (by omega)]
  simp
 simp only [SV.val,this]
 simp
theorem qlh {id d k l g size bytes:Nat} {t e:TypeId} {z:Value} (env1 env':Env) (i:Nat) (h:RS w0 M F n br (tb ++ [qbH g size z l k]) env P s a w) (hk:k < l) (hz:z.cells.size = size) (hl:qer (tb.length + 1) env1 = true)
  (K:∀ a',RS w0 M F n br (tb ++ [qbH g size z l (k + 1),⟨g,k * size,z.cells.toList,true⟩]) env' P s a' w → Q .normal a' w)
  (hr:List.range ops.size = List.range i ++ (i :: (List.range ops.size).drop (i + 1)):=by kernel_rfl) (e1:∀ A m c,qda Pr ops n (rdo br A m c :: (tb ++ [qbH g size z l k])) (List.range i) (qbT env1) env = some env1:=by intro _ _ _; kernel_rfl)
  (he:∀ A m c,idxE (rdo br A m c :: (tb ++ [qbH g size z l k])) env1 ops n i = some (t,some ⟨g,0,none⟩,l,((k:Nat):Int),d):=by intro _ _ _; kernel_rfl) (ht:qcF Pr t = some (e,size,bytes):=by kernel_rfl)
  (e2:∀ A m c,qda Pr ops n (rdo br A m c :: (tb ++ [qbH g size z l (k + 1),⟨g,k * size,z.cells.toList,true⟩])) ((List.range ops.size).drop (i + 1)) (qbT env') ((d,.p (tb.length + 2) 0) :: env1) = some env':=by intro _ _ _; kernel_rfl):(Code.region id ops false).wp Pr Q a w:=by
 refine qas _ hr (qcH (List.range i) _ env1 h (fun a1 h1=>qan (qhO h1 hk hz hl (fun a2 h2=>?_) he ht)) e1 rfl)
 exact qcH _ [] env' h2 (fun a3 h3=>qaf (K a3 h3)) e2 (List.append_nil _).symm
end
theorem qmf (X:Bs) (hX:X.length = 16) (rest:Bs) {br:Nat} {A:Option Addr} {m c:Nat} {w:World} {F:Nat → Nat → Prop} (hst:Str w br [.slice A m c,.bool false]) (hr:RdS w F A m c (X ++ rest)) (hFd:∀ b o,F b o → ¬ RdM br b o) :
  Calls Tryz.prog 168 #[.pointer (some ⟨br,0,none⟩)] w (RdPost w br (Fp F w) rest fun v w'=>v = .agg ((List.range 16).map fun i=>qad (X.getD i 0)).toArray):=by
 have hbr:br < w.heap.size:=World.lt_of_cell (hst.at_ 0 _ rfl)
 refine enter (n:=9) (vs:=[.pointer (some ⟨br,0,none⟩)]) Tryz.func168 rfl Tryz.ntmps168 kz fun a hE=>?_
 refine qae [0] kz ?_
 refine qan (qfo hE (d:=2) (cs:=(List.range 16).map fun _=>qad 0) kz fun t0 a1 hE1=>qaf (qab ?_))
 have hs1:=Step.alloc w (.cells ((List.range 16).map fun _=>qad 0).toArray t0)
 have hz1:=qde w (.cells ((List.range 16).map fun _=>qad 0).toArray t0)
 have hh1:=qcP w (.cells ((List.range 16).map fun _=>qad 0).toArray t0)
 generalize w.alloc (.cells ((List.range 16).map fun _=>qad 0).toArray t0) = w1 at hs1 hz1 hh1
 refine qae [0] kz ?_
 refine qan (qfo hE1 (d:=3) (cs:=(List.range 16).map fun _=>qad 0) kz fun t1 a2 hE2=>qaf (qab ?_))
 have hs2:=Step.alloc w1 (.cells ((List.range 16).map fun _=>qad 0).toArray t1)
 have hz2:=qde w1 (.cells ((List.range 16).map fun _=>qad 0).toArray t1)
 have hh2:=qcP w1 (.cells ((List.range 16).map fun _=>qad 0).toArray t1)
 generalize hp2:w.heap.size = p2 at hE1 hE2 hh1 hz1
 generalize hp3:w1.heap.size = p3 at hE2 hh2 hz2
 generalize w1.alloc (.cells ((List.range 16).map fun _=>qad 0).toArray t1) = w2 at hs2 hz2 hh2
 refine qea (fun _=>True) 4 kz ?_
 have hsd:=Step.drew w2
 have hhd:w2.drew.heap[p3]? = some (.cells ((List.range 16).map fun _=>qad 0).toArray t1):=hh2
 have hS:Step w w2.drew Nil:=(hs1.trans hs2 fun _ _ _ h=>h).trans hsd fun _ _ _ h=>h
 have hh1d:w2.drew.heap[p2]? = some (.cells ((List.range 16).map fun _=>qad 0).toArray t0):=(hs2.trans hsd fun _ _ _ h=>h).heap (fun _ h=>h) hh1
 generalize w2.drew = wd at hsd hhd hS hh1d
 have hE3:EnvOk 9 [⟨p3,0,[],true⟩] [(0,.v (.pointer (some ⟨br,0,none⟩))),(2,.v (.pointer (some ⟨p2,0,none⟩))),(3,.p 0 0)] _:=((hE2.grow ⟨p3,0,[],true⟩).recast 3 (.v (.pointer (some ⟨p3,0,none⟩))) (.p 0 0) rfl rfl (Nat.le_of_ble_eq_true (n:=1) rfl)).pk
 refine qaJ [0,1] [(0,.v (.pointer (some ⟨br,0,none⟩))),(2,.v (.pointer (some ⟨p2,0,none⟩))),(3,.p 0 0),(4,.v (.slice (some ⟨p3,0,none⟩) 16 16)),(5,.v (.pointer (some ⟨br,0,none⟩)))] 2 (qaa qag) (fun w' _ i o hi j v hj=>by
  cases i with
  | zero =>
   simp only [List.getElem?_cons_zero,Option.some.injEq] at hi
   subst hi
   simp at hj
  | succ i=>simp at hi) trivial hE3 fun a3 hE4=>?_
 have hst':=hst.move hS (fun _ h=>h)
 have hr':=hr.move hS nilM (fun b o h hb=>(⟨h,hb⟩:F b o ∧ b < w.heap.size))
 have hFd':∀ b o,(F b o ∧ b < w.heap.size) → ¬ RdM br b o:=fun b o h=>hFd b o h.1
 have hSp:=qir X rest hst' hr' hFd'
 rw [show ((X.length:Nat):Int) = 16 by omega] at hSp
 refine qaw (i:=2) kz (qam hE4 (f:=192) (vs:=[.pointer (some ⟨br,0,none⟩),.int .i64 16]) (d:=6) kz Tryz.call192 hSp ?_)
 rintro e_ w3 ⟨_,A1,n1,c1,rfl,hs,hr1,hst3,Ax,rfl,hox⟩
 refine ⟨_,rfl,fun a4 hE5=>⟨fun _=>trivial,?_⟩⟩
 have hh3:=hst3.heap (fun o e=>by have:=e.1; have:=hS.size; omega) hhd
 have hh13:=hst3.heap (fun o e=>by have:=e.1; omega) hh1d
 refine qaw (i:=3) kz (qhf hE5 (t:=22) (u:=22) (e:=5) (bytes:=1) (b:=p3) (s:=X) (d:=7) kz kz hh3 rfl hox fun a5 w4 hst4 hat hfz hE6=>⟨fun _=>trivial,qaG kz (qab ?_) _⟩)
 obtain ⟨v,hE6⟩:=hE6
 have hh14:=hst4.heap (fun o e=>by have:=hz1; omega) hh13
 have hst04:Step w w4 (RdM br):=((hS.mono fun _ _ _ f=>f.elim).trans hst3 fun _ _ _ e=>e).trans hst4 fun b o hb e=>by have:=hs1.size; omega
 have h2l:p2 < w4.heap.size:=(Array.getElem?_eq_some_iff.1 hh14).1
 have hW4:WOk w (RdM br) w4 ([] ++ [⟨p2,0,(List.range 16).map fun _=>qad 0,true⟩] ++ [⟨p3,0,(List.range 16).map fun i=>qad (X.getD i 0),true⟩]) []:=by
  have hb:WOk w (RdM br) w4 [] []:=⟨hst04,fun i o hi=>by simp at hi,fun i o hi=>by simp at hi,fun i o hi=>by simp at hi,fun i j o o' _ hi=>by simp at hi,fun i r hi=>by simp at hi,fun i r hi=>by simp at hi,fun i r hi=>by simp at hi,fun i j r r' _ hi=>by simp at hi⟩
  have h4:=hb.add ⟨p2,0,(List.range 16).map fun _=>qad 0,true⟩ h2l (fun j v hj=>by
   dsimp only at hj ⊢
   rw [Nat.zero_add]
   simp only [World.cell?,hh14]
   simpa using hj) (fun _ j hj=>⟨.inl (by dsimp only; omega),by simp [World.frozen?,hh14]⟩) (fun i o hi=>by simp at hi) (fun i r hi=>by simp at hi)
  refine h4.add ⟨p3,0,(List.range 16).map fun i=>qad (X.getD i 0),true⟩ (World.lt_of_cell (hat 0 _ rfl)) (fun j v hj=>hat j v hj) (fun _ j hj=>⟨.inl (by dsimp only; have:=hs1.size; omega),hfz _⟩) (fun i o hi _=>.inl ?_) (fun i r hi=>by simp at hi)
  have hm:=List.mem_of_getElem? hi
  have:o = ⟨p2,0,(List.range 16).map fun _=>qad 0,true⟩:=by simpa using hm
  rw [this]
  dsimp only; omega
 have hE7:EnvOk 9 [⟨p2,0,(List.range 16).map fun _=>qad 0,true⟩,⟨p3,0,(List.range 16).map fun i=>qad (X.getD i 0),true⟩] [(2,.p 0 0),(3,.p 1 0)] _ :=
  (((((hE6.pick (ks:=[2,3]) (env':=[(2,.v (.pointer (some ⟨p2,0,none⟩))),(3,.p 0 0)]) kz).recast 3 (.p 0 0) (.v (.pointer (some ⟨p3,0,none⟩))) rfl rfl trivial).pick (ks:=[2,3]) (env':=[(2,.v (.pointer (some ⟨p2,0,none⟩))),(3,.v (.pointer (some ⟨p3,0,none⟩)))]) kz).cutTb 0 kz).retable [⟨p2,0,(List.range 16).map fun _=>qad 0,true⟩,⟨p3,0,(List.range 16).map fun i=>qad (X.getD i 0),true⟩] |>.recast 2 (.v (.pointer (some ⟨p2,0,none⟩))) (.p 0 0) rfl rfl (Nat.le_of_ble_eq_true (n:=1) rfl) |>.recast 3 (.v (.pointer (some ⟨p3,0,none⟩))) (.p 1 0) rfl rfl (Nat.le_of_ble_eq_true (n:=2) rfl)).pk
 refine qae [0,1] kz ?_
 refine qal [0] [1] [(2,.p 0 0),(8,.v (.agg ((List.range 16).map fun i=>qad (X.getD i 0)).toArray))] hW4 hE7 fun a6 hE8=>?_
 refine qan (qat hW4 hE8 (oi:=0) (cs:=(List.range 16).map fun i=>qad (X.getD i 0)) kz fun w5 hF5 hW5 hE9=>qaf (qab (wp_ret ?_)))
 have hstz:Step w4 w5 (fun b o=>b = p2 ∨ b = p3):=hF5.step.mono fun b o _ ha=>by
  rcases ha with ⟨i,ob,hi,_,rfl,_⟩ | ⟨i,r,hi,_⟩
  ·have hm:=List.mem_of_getElem? hi
   simp only [List.nil_append,List.cons_append,List.mem_cons,List.not_mem_nil,or_false] at hm
   rcases hm with rfl | rfl
   ·exact .inl rfl
   exact .inr rfl
  simp at hi
 have hsz:=hs1.size
 refine qaL hE9 hW5.cells (v:=.agg ((List.range 16).map fun i=>qad (X.getD i 0)).toArray) kz ⟨_,A1,n1,c1,rfl,(hs.move hst4 fun o e=>?_).move hstz (fun o e=>?_),(hr1.move hst4 (fun b o hg _ e=>?_) (fun b o hg _=>hg)).move hstz (fun b o hg _ e=>?_) (fun b o hg _=>.inl hg.1),hW5.step,rfl⟩
 ·omega
 ·rcases e with e | e <;> omega
 ·have:=hg.2; omega
 have:=hg.2; rcases e with e | e <;> omega
theorem qlJ (x:Int) (rest:Bs):qcO Tryz.prog 163 (be 1 (IntKind.i8.wrap x)) rest (.int .i8 (IntKind.i8.wrap x)):=fun hs hr hF=>(qmb _ rest hs hr hF).mono fun e w' hp=>hp.fp fun v w' h=>by rw [h,ww8]
theorem qlK (x:Int) (rest:Bs):qcO Tryz.prog 141 (be 2 (IntKind.i16.wrap x)) rest (.int .i16 (IntKind.i16.wrap x)):=fun hs hr hF=>(qhM _ rest hs hr hF).mono fun e w' hp=>hp.fp fun v w' h=>by rw [h,ww16]
theorem qhP (x:Int) (rest:Bs):qcO Tryz.prog 139 (be 4 (IntKind.i32.wrap x)) rest (.int .i32 (IntKind.i32.wrap x)):=fun hs hr hF=>(qkJ _ rest hs hr hF).mono fun e w' hp=>hp.fp fun v w' h=>by rw [h,ww32]
def dvPA (A:Option Addr) (D:DV):DV:=.mk D.n D.b D.s D.o A D.l D.c D.m D.u D.f
theorem qlL (rest:Bs):qcO Tryz.prog 163 (be 1 (-1)) rest (.int .i8 (-1)):=qlJ (-1) rest
theorem qlM (rest:Bs):qcO Tryz.prog 163 (be 1 (1)) rest (.int .i8 (1)):=qlJ (1) rest
theorem qjY (S:Bs) (hS:S.length ≤ 32767) (rest:Bs):qcO Tryz.prog 153 (uv (S.length + 1) ++ S) rest (.string (bs S)):=fun hs hr hF=>(qfz S (by omega) rest hs (hr.cast (by simp only [List.append_assoc])) hF).mono fun e w' hp=>hp.q fun v w' h=>h
theorem qdH (nul:Bool) (S:Bs) (hS:S.length ≤ 32767) (rest:Bs):qjF Tryz.prog 145 (if nul = true then be 2 (-1) else be 2 S.length ++ S) rest (fun A:Option Addr=>.pointer A) (fun A=>andF (qjE A S) (isF (A.isNone = nul))):=fun hs hr hF=>(qft nul S (by omega) rest hs hr hF).mono fun e w' hp=>hp.q fun v w' h=>by
 obtain ⟨A,h1,h2,h3⟩:=h
 exact ⟨A,h1,h2,h3⟩
theorem qcu (nul:Bool) (S:Bs) (hS:S.length ≤ 32767) (rest:Bs):qjF Tryz.prog 143 (if nul = true then uv 0 else uv (S.length + 1) ++ S) rest (fun A:Option Addr=>.pointer A) (fun A=>andF (qjE A S) (isF (A.isNone = nul))):=fun hs hr hF=>(qdw nul S (by omega) rest hs hr hF).mono fun e w' hp=>hp.q fun v w' h=>by
 obtain ⟨A,h1,h2,h3⟩:=h
 exact ⟨A,h1,h2,h3⟩
theorem qgV (n:Nat) (hn:n ≤ 32767) (rest:Bs) (hl:n ≤ rest.length):qcO Tryz.prog 147 (be 4 n) rest (.int .i32 ((n:Nat):Int)):=fun hs hr hF=>(qjJ ((n:Nat):Int) (by omega) rest (by omega) hs hr hF).mono fun e w' hp=>hp.q fun v w' h=>h
theorem qdv (n:Nat) (hn:n ≤ 32767) (rest:Bs) (hl:n ≤ rest.length):qcO Tryz.prog 146 (uv (n + 1)) rest (.int .i32 ((n:Nat):Int)):=fun hs hr hF=>(qeX (n + 1) (by omega) rest (by omega) hs hr hF).mono fun e w' hp=>hp.q fun v w' h=>h.trans (congrArg (Value.int .i32) (by omega))
theorem qmg (S:Bs) (rest:Bs):qcO Tryz.prog 168 (qah S) rest (.agg #[qad ((qah S).getD 0 0),qad ((qah S).getD 1 0),qad ((qah S).getD 2 0),qad ((qah S).getD 3 0),qad ((qah S).getD 4 0),qad ((qah S).getD 5 0),qad ((qah S).getD 6 0),qad ((qah S).getD 7 0),qad ((qah S).getD 8 0),qad ((qah S).getD 9 0),qad ((qah S).getD 10 0),qad ((qah S).getD 11 0),qad ((qah S).getD 12 0),qad ((qah S).getD 13 0),qad ((qah S).getD 14 0),qad ((qah S).getD 15 0)]):=fun hs hr hF=>(qmf (qah S) (qdE S) rest hs hr hF).mono fun e w' hp=>hp.q fun v w' h=>h
theorem pOk (rest:Bs):qcO Tryz.prog 148 [] rest (.bool true):=fun hs hr hF=>(rOk rest hs hr hF).mono fun e w' hp=>hp.q fun v w' h=>h
theorem qjM {Pr:Program} {ops:Array Oper} {Q:Exit → Act → World → Prop} {w0:World} {M F:Nat → Nat → Prop} {n br:Nat} {tb:Tb} {env:Env} {P:qcj} {s:Bs} {a:Act} {w:World} {i d:Nat} {f:FuncId} {v0:Value} {N:Act → World → Prop} (h:RS w0 M F n br tb env P s a w) (hc:qcO Pr f [] s v0)
  (hf:∀ args w,(callFunc f args).run Pr w = .ok (.enter f args) w) (K:∀ a' w',RS w0 M F n br tb ((d,.v v0) :: env) P s a' w' → N a' w')
  (he:∀ A m c,qeG (rdo br A m c :: tb) env ops n i = some (f,[.pointer (some ⟨br,0,none⟩)],d):=by intro _ _ _; kernel_rfl):wpOp Pr ops Q i N a w:=qgc (X:=[]) (rest:=s) h hc hf K he
theorem qli (u:List (Int × Bs)) (hU:canU u) (hk:∀ x ∈ u,0 ≤ x.1 ∧ x.1 < 4294967296) (rest:Bs):qjF Tryz.prog 156 (uv u.length ++ qcG u) rest (fun m:Option Nat=>.agg #[.map m]) (fun m=>qlH m u):=fun hs hr hF=>(qmc u rest hU.1 hk hU.2.1 hU.2.2 hs (hr.cast (by simp only [List.append_assoc])) hF).mono fun e w' hp=>hp.q fun v w' h=>h
theorem qlN (k:Int) (A:Option Addr) (m c:Nat) (w:World):Calls Tryz.prog 97 #[.agg #[.int .u32 k,.slice A m c]] w (qjb w):=by
 refine enter (n:=7) Tryz.func97 rfl Tryz.ntmps97 kz fun a hE=>?_
 have hW:=WOk.start w Nil
 refine qae [0,1] kz ?_
 refine qan (qbl hW hE (d:=1) (cs:=[.int .u32 k,.slice A m c]) kz fun b1 a2 w3 hb4 hz5 hF6 hW7 hE8=>?_)
 refine qal [1] [] [(1,.p 0 0)] hW7 hE8 fun a9 ac=>?_
 refine qaf (qab ?_)
 refine wp_seq (qap [(6,.v (.bool (decide (((m:Nat):Int) > 2147483647))))] hW7 ac fun ai aa=>?_)
 refine qay aa (b:=decide (((m:Nat):Int) > 2147483647)) kz (fun ab=>?_) (fun ab=>?_)
 ·
  have ag:=of_decide_eq_true ab
  refine qap [(2,.v (.bool false))] hW7 aa fun aj ae=>?_
  refine wp_ret (qaq (qaL ae hW7.cells (v:=.bool false) kz ?_))
  exact ⟨_,rfl,hW7.step⟩
 have ah:=of_decide_eq_false ab
 refine wp_skip (qab (qap [(2,.v (.bool true))] hW7 aa fun ak af=>?_))
 refine wp_ret (qaL af hW7.cells (v:=.bool true) kz ?_)
 exact ⟨_,rfl,hW7.step⟩
theorem qlO (A:Option Addr) (c:Nat) (u:List (Int × Bs)) (w:World) (F:Nat → Nat → Prop) (hu:TagsR w F A c u):Calls Tryz.prog 38 #[.slice A u.length c] w (qjb w):=by
 obtain ⟨xu,h1,h2⟩:=hu.ex
 have hsm:=h1.small
 refine enter (n:=18) Tryz.func38 rfl Tryz.ntmps38 kz fun a hE=>?_
 have hW:=WOk.start w Nil
 refine qap [(0,.v (.slice A u.length c))] hW hE fun a1 hE2=>?_
 refine wp_seq (qap [(0,.v (.slice A u.length c)),(7,.v (.bool (decide (((u.length:Nat):Int) > 2147483647))))] hW hE2 fun a3 hE4=>?_)
 refine qay hE4 (b:=decide (((u.length:Nat):Int) > 2147483647)) kz (fun hc5=>?_) (fun hc5=>?_)
 ·
  have hf6:=of_decide_eq_true hc5
  refine qap [(2,.v (.bool false))] hW hE4 fun a7 hE8=>?_
  refine wp_ret (qaq (qaL hE8 hW.cells (v:=.bool false) kz ?_))
  exact ⟨_,rfl,hW.step⟩
 have hf9:=of_decide_eq_false hc5
 refine wp_skip (qab (wp_seq (qap [(8,.v (.slice A u.length c)),(9,.v (.int .i64 ((u.length:Nat):Int))),(10,.v (.int .i64 0))] hW hE4 fun ba ar=>?_)))
 refine wp_block (wp_loop_ghost (fun n_ a_ w_=>∃ (k:Nat),n_ = u.length - k ∧ k ≤ u.length ∧ LInv hW 18 [] [] [(8,.v (.slice A u.length c)),(9,.v (.int .i64 ((u.length:Nat):Int))),(10,.v (.int .i64 ((k:Nat):Int)))] a_ w_) (u.length) ⟨0,by omega,by omega,ar.pk,hW,Fr.refl _ _ _⟩ ?_)
 rintro bd bf bg ⟨k,aQ,aR,au,aa,av⟩
 refine qap [(8,.v (.slice A u.length c)),(9,.v (.int .i64 ((u.length:Nat):Int))),(10,.v (.int .i64 ((k:Nat):Int))),(11,.v (.bool (decide (((k:Nat):Int) < ((u.length:Nat):Int)))))] aa au fun bh ae=>?_
 refine wp_seq (qay ae (b:=decide (((k:Nat):Int) < ((u.length:Nat):Int))) kz (fun af=>?_) (fun af=>?_))
 ·
  have aS:=of_decide_eq_true af
  refine wp_skip (qab (wp_seq (wp_block (qae [0,1,2,3] kz ?_))))
  obtain ⟨aT,aU,aw,aV,ac⟩:=Slots.get h1 (i:=k) (by omega)
  obtain ⟨⟨ai,aj⟩,ax⟩:∃ x,u[k]? = some x:=⟨_,List.getElem?_eq_getElem (by omega)⟩
  obtain ⟨⟨ak,al,am,aW⟩,bi,bj⟩:=h2 k ai aj ax
  rw [am] at ac
  refine qan (qaD ae (t:=24) (A:=A) (m:=u.length) (q:=((k:Nat):Int)) (d:=12) kz (e:=65) (size:=2) (bytes:=32) kz aw rfl (by omega) fun bk ay=>?_)
  refine qan (qaR ay (t:=65) (b:=aT) (o:=aU + k * 2) (d:=13) kz (cs:=(z50 ai ak aj.length al)) (v:=.agg #[.int .u32 ai,.slice ak aj.length al]) kz (AtF.move ac aa.step nilM qba).at_ fun bn az=>?_)
  refine qan (qaP aa az (d:=4) (cs:=[.int .u32 0,.slice none 0 0]) kz fun bo bp bq aX aY aA aB aC=>?_)
  refine qan (qat aB aC (oi:=0) (cs:=(z50 ai ak aj.length al)) kz fun bt aD ag aE=>?_)
  refine qaf (qab ?_)
  refine qae [0,1,2] kz ?_
  refine qal [0] [1,2] [(8,.v (.slice A u.length c)),(9,.v (.int .i64 ((u.length:Nat):Int))),(10,.v (.int .i64 ((k:Nat):Int))),(14,.v (.agg #[.int .u32 ai,.slice ak aj.length al]))] ag aE fun bu aF=>?_
  refine qan (qam aF (f:=97) (vs:=[.agg #[.int .u32 ai,.slice ak aj.length al]]) (d:=15) kz Tryz.call97 (qlN _ _ _ _ _) ?_)
  rintro e_ bw ⟨aP,rfl,ao⟩
  refine ⟨_,rfl,fun bx aG=>?_⟩
  have ab:=ag.next_nil ao
  have aH:=ag.frN ao
  refine qal [2] [] [(8,.v (.slice A u.length c)),(9,.v (.int .i64 ((u.length:Nat):Int))),(10,.v (.int .i64 ((k:Nat):Int))),(16,.v (.bool (!aP)))] ab aG fun bz ah=>?_
  refine qaf (qab ?_)
  refine qay ah (b:=!aP) kz (fun aI=>?_) (fun aI=>?_)
  ·
   refine qap [(2,.v (.bool false))] ab ah fun bA aJ=>?_
   refine wp_ret (qaz (qaq (qaq (qaz (qaq (qaL aJ ab.cells (v:=.bool false) kz ?_))))))
   exact ⟨_,rfl,ab.step⟩
  refine wp_skip (qau (qab (qas [0,1] kz ?_)))
  refine qal [0,1] [] [(8,.v (.slice A u.length c)),(9,.v (.int .i64 ((u.length:Nat):Int))),(10,.v (.int .i64 (IntKind.i64.wrap (((k:Nat):Int) + 1))))] ab ah fun bB aK=>?_
  refine qaf (qab ?_)
  obtain ⟨ap,aL,aM⟩:=ab.cutB aK 0 [] [(8,.v (.slice A u.length c)),(9,.v (.int .i64 ((u.length:Nat):Int))),(10,.v (.int .i64 (IntKind.i64.wrap (((k:Nat):Int) + 1))))]
  have aN:IntKind.i64.wrap (((k:Nat):Int) + 1) = ((k + 1:Nat):Int):=qaT (by omega)
  rw [aN] at ap
  exact ⟨u.length - (k + 1),by omega,k + 1,rfl,by omega,ap.pk,aL,((((av.trans aA).trans aD).trans aH).trans aM)⟩
 have aZ:=of_decide_eq_false af
 refine wp_exit (qaC (qaC (qaS (qab (qap [(2,.v (.bool true))] aa ae fun bC aO=>?_)))))
 refine wp_ret (qaL aO aa.cells (v:=.bool true) kz ?_)
 exact ⟨_,rfl,aa.step⟩
theorem qlP (ct:List Value) (t:Tree) (w:World) (F:Nat → Nat → Prop) (ht:TreeR w F ct t):Calls Tryz.prog 10 #[.agg ct.toArray] w (qjb w):=by
 obtain ⟨n1,s2,b3,l4,u5,A6,c7,A8,c9,aj,ak,aB,rfl,rfl,aC,aD,aN,aE⟩:=ht.open_
 have ay:=aC.small
 have az:=aD.small
 refine enter (n:=15) Tryz.func10 rfl Tryz.ntmps10 kz fun a hE=>?_
 have hW:=WOk.start w Nil
 refine qae [0,1] kz ?_
 refine qan (qbl hW hE (d:=1) (cs:=(z3 n1 A6 s2.length c7 b3 A8 l4.length c9 aj u5.length ak)) kz fun aO aP aQ aF aG aH aa al=>?_)
 refine qal [1] [] [(1,.p 0 0)] aa al fun aR am=>?_
 refine qaf (qab ?_)
 refine wp_seq (qap [(1,.p 0 0),(6,.v (.bool (decide (((s2.length:Nat):Int) > 2147483647))))] aa am fun aS ac=>?_)
 refine qay ac (b:=decide (((s2.length:Nat):Int) > 2147483647)) kz (fun ae=>?_) (fun ae=>?_)
 ·
  have aI:=of_decide_eq_true ae
  refine qap [(2,.v (.bool false))] aa ac fun aT ao=>?_
  refine wp_ret (qaq (qaL ao aa.cells (v:=.bool false) kz ?_))
  exact ⟨_,rfl,aa.step⟩
 have aJ:=of_decide_eq_false ae
 refine wp_skip (qab (wp_seq (qap [(1,.p 0 0),(10,.v (.bool (decide (((l4.length:Nat):Int) > 2147483647))))] aa ac fun aU af=>?_)))
 refine qay af (b:=decide (((l4.length:Nat):Int) > 2147483647)) kz (fun ag=>?_) (fun ag=>?_)
 ·
  have aK:=of_decide_eq_true ag
  refine qap [(2,.v (.bool false))] aa af fun aV ap=>?_
  refine wp_ret (qaq (qaL ap aa.cells (v:=.bool false) kz ?_))
  exact ⟨_,rfl,aa.step⟩
 have aL:=of_decide_eq_false ag
 refine wp_skip (qab (wp_seq (qae [0,1,2,3] kz ?_)))
 refine qal [0,1] [2,3] [(12,.v (.slice aj u5.length ak))] aa af fun aW ar=>?_
 refine qan (qam ar (f:=38) (vs:=[.slice aj u5.length ak]) (d:=13) kz Tryz.call38 (qlO _ _ u5 _ _ (aE.move aa.step nilM aa.imm)) ?_)
 rintro e_ aX ⟨aA,rfl,ai⟩
 refine ⟨_,rfl,fun aY au=>?_⟩
 have ab:=aa.next_nil ai
 have aM:=aa.frN ai
 refine qal [3] [] [(14,.v (.bool (!aA)))] ab au fun aZ ah=>?_
 refine qaf (qab ?_)
 refine qay ah (b:=!aA) kz (fun av=>?_) (fun av=>?_)
 ·
  refine qap [(2,.v (.bool false))] ab ah fun ba aw=>?_
  refine wp_ret (qaq (qaL aw ab.cells (v:=.bool false) kz ?_))
  exact ⟨_,rfl,ab.step⟩
 refine wp_skip (qab (qap [(2,.v (.bool true))] ab ah fun bd ax=>?_))
 refine wp_ret (qaL ax ab.cells (v:=.bool true) kz ?_)
 exact ⟨_,rfl,ab.step⟩
theorem qko (x m:Int) (hx:0 ≤ x) (hx':x < 256) (hm:0 ≤ m) (hm':m < 32768) (w:World):Calls Tryz.prog 13 #[.int .u8 x,.int .i64 m] w (qch w (.int .i64 (Int.tmod x (m + 1)))):=by
 refine enter (n:=10) Tryz.func13 rfl Tryz.ntmps13 kz fun a hE=>?_
 have hW:=WOk.start w Nil
 refine qap [(0,.v (.int .u8 x)),(1,.v (.int .i64 m))] hW hE fun a1 hE2=>?_
 refine qae [0,1,2,3,4,5] kz ?_
 refine qal [0,1,2,3] [4,5] [(6,.v (.int .i64 (IntKind.i64.wrap x))),(8,.v (.int .i64 (IntKind.i64.wrap (m + 1))))] hW hE2 fun a3 hE4=>?_
 refine qan (qj8 hE4 (k:=.i64) (p:=(IntKind.i64.wrap x)) (q:=(IntKind.i64.wrap (m + 1))) (d:=9) kz (by simp only [IntKind.wrap_i64]; omega) fun a5 hE6=>?_)
 refine qal [5] [] [(4,.v (.int .i64 (Int.tmod (IntKind.i64.wrap x) (IntKind.i64.wrap (m + 1)))))] hW hE6 fun a7 hE8=>?_
 refine qaf (qab ?_)
 refine wp_ret (qaL hE8 hW.cells (v:=.int .i64 (Int.tmod (IntKind.i64.wrap x) (IntKind.i64.wrap (m + 1)))) kz ?_)
 exact ⟨by rw [wrap_i64 (by omega) (by omega),wrap_i64 (by omega) (by omega)],hW.step⟩
def qax (v:Int) (T:Tree):Bs:=(qah (T.at_ 0).S) ++ (((if (decide (v ≥ 0)) = true then (uv ((lst (T.at_ 1)).length + 1)) else (be 4 (lst (T.at_ 1)).length)) ++ ((lst (T.at_ 1)).flatMap (fun E=>be 4 (IntKind.i32.wrap E.N)))) ++ (if (decide (v ≥ 0)) = true then (uv T.U.length) ++ (qcG T.U) else []))
theorem qbg (v:Int) (T:Tree):0 < (qax v T).length:=qme (by rw [qdE]; decide)
def qa1 (v:Int) (T:Tree):Bs:=((if (decide (v ≥ 0)) = true then (uv ((lst (T.at_ 0)).length + 1)) else (be 4 (lst (T.at_ 0)).length)) ++ ((lst (T.at_ 0)).flatMap (qax v))) ++ (if (decide (v ≥ 0)) = true then (uv T.U.length) ++ (qcG T.U) else [])
def qbU (v:Int) (T:Tree):Bs:=(be 4 ((IntKind.i32.wrap (T.at_ 0).N))) ++ ((be 2 ((IntKind.i16.wrap (T.at_ 1).N))) ++ ((if (decide (v ≥ 0)) = true then (if (T.at_ 2).null = true then uv 0 else uv ((qbB (T.at_ 2)).length + 1) ++ (qbB (T.at_ 2))) else (if (T.at_ 2).null = true then be 2 (-1) else be 2 (qbB (T.at_ 2)).length ++ (qbB (T.at_ 2)))) ++ ((if (decide (v ≥ 0)) = true then (if (T.at_ 3).null = true then uv 0 else uv ((qbB (T.at_ 3)).length + 1) ++ (qbB (T.at_ 3))) else (if (T.at_ 3).null = true then be 2 (-1) else be 2 (qbB (T.at_ 3)).length ++ (qbB (T.at_ 3)))) ++ ((be 4 ((IntKind.i32.wrap (T.at_ 4).N))) ++ ((be 4 ((IntKind.i32.wrap (T.at_ 5).N))) ++ ((if (T.at_ 6).null = true then be 1 (-1) else (be 1 1) ++ (qa1 v (T.at_ 6))) ++ ((if (decide (v ≥ 0)) = true then (uv T.U.length) ++ (qcG T.U) else []) ++ (([]:Bs)))))))))
theorem qcI (v:Int) (T:Tree):qaj v T = qbU v T:=rfl
def qbj (d:DV):List Value:=[qad ((d.f 0).o.getD 0 0),qad ((d.f 0).o.getD 1 0),qad ((d.f 0).o.getD 2 0),qad ((d.f 0).o.getD 3 0),qad ((d.f 0).o.getD 4 0),qad ((d.f 0).o.getD 5 0),qad ((d.f 0).o.getD 6 0),qad ((d.f 0).o.getD 7 0),qad ((d.f 0).o.getD 8 0),qad ((d.f 0).o.getD 9 0),qad ((d.f 0).o.getD 10 0),qad ((d.f 0).o.getD 11 0),qad ((d.f 0).o.getD 12 0),qad ((d.f 0).o.getD 13 0),qad ((d.f 0).o.getD 14 0),qad ((d.f 0).o.getD 15 0),.slice ((d.f 1).A) ((d.f 1).l) ((d.f 1).c),.map d.m]
theorem qaI:qf8 qaE:=by
 intro w w' F F' M d hs hM hF h
 unfold qaE at h ⊢
 obtain ⟨g0,⟨g1,g1l,g1e⟩,t1,t2,t3,_⟩:=h
 exact ⟨g0,⟨g1.move hs hM hF,g1l,g1e⟩,t1.move hs hM hF,t2,t3,trivial⟩
theorem qbn:qf8 qaO:=by
 intro w w' F F' M d hs hM hF h
 unfold qaO at h ⊢
 obtain ⟨⟨g0,g0l,g0e⟩,t1,t2,t3,_⟩:=h
 exact ⟨⟨g0.move hs hM hF,g0l,fun i hi=>qaI _ hs hM hF (g0e i hi)⟩,t1.move hs hM hF,t2,t3,trivial⟩
def qaM (v:Int) (D:DV) (T:Tree):Prop:=((D.f 0).o = qah (T.at_ 0).S) ∧ (((D.f 1).l = (lst (T.at_ 1)).length ∧ ∀ i,i < (D.f 1).l → ((D.f 1).f i).n = IntKind.i32.wrap ((lst (T.at_ 1)).getD i .zero).N)) ∧ (((decide (v ≥ 0)) = true → D.u = T.U) ∧ ((decide (v ≥ 0)) = false → D.u = [])) ∧ True
def qbc (v:Int) (D:DV) (T:Tree):Prop:=(((D.f 0).l = (lst (T.at_ 0)).length ∧ ∀ i,i < (D.f 0).l → qaM v ((D.f 0).f i) ((lst (T.at_ 0)).getD i .zero))) ∧ (((decide (v ≥ 0)) = true → D.u = T.U) ∧ ((decide (v ≥ 0)) = false → D.u = [])) ∧ True
def qa3 (v:Int) (D:DV) (T:Tree):Prop:=((D.f 0).n = IntKind.i32.wrap (T.at_ 0).N) ∧ ((D.f 1).n = IntKind.i16.wrap (T.at_ 1).N) ∧ (((D.f 2).s = bs (qbB (T.at_ 2)) ∧ (D.f 2).A.isNone = (T.at_ 2).null)) ∧ (((D.f 3).s = bs (qbB (T.at_ 3)) ∧ (D.f 3).A.isNone = (T.at_ 3).null)) ∧ ((D.f 4).n = IntKind.i32.wrap (T.at_ 4).N) ∧ ((D.f 5).n = IntKind.i32.wrap (T.at_ 5).N) ∧ (((D.f 6).A.isNone = (T.at_ 6).null ∧ ((T.at_ 6).null = false → qbc v (D.f 6) (T.at_ 6)))) ∧ (((decide (v ≥ 0)) = true → D.u = T.U) ∧ ((decide (v ≥ 0)) = false → D.u = [])) ∧ True
theorem qlQ (b o:Nat) (w:World):Calls Tryz.prog 185 #[.pointer (some ⟨b,o,none⟩)] w (fun e w'=>e = .returned (.tuple #[]) ∧ w' = w):=by
 refine enter (n:=2) (vs:=[.pointer (some ⟨b,o,none⟩)]) Tryz.func185 rfl Tryz.ntmps185 kz fun a hE=>?_
 refine wp_skip ?_
 exact qbM hE (WOk.start w Nil).cells (v:=.tuple #[]) kz ⟨rfl,rfl⟩
theorem qlR (b o:Nat) (w:World):Calls Tryz.prog 186 #[.pointer (some ⟨b,o,none⟩)] w (fun e w'=>e = .returned (.tuple #[]) ∧ w' = w):=by
 refine enter (n:=2) (vs:=[.pointer (some ⟨b,o,none⟩)]) Tryz.func186 rfl Tryz.ntmps186 kz fun a hE=>?_
 refine wp_skip ?_
 exact qbM hE (WOk.start w Nil).cells (v:=.tuple #[]) kz ⟨rfl,rfl⟩
abbrev z0 (x0) (x1:Tree) (x2) (x3) (x4):=([.int .i16 x0,.int .i32 (IntKind.i32.wrap (x1.at_ 0).N),.int .i16 (IntKind.i16.wrap (x1.at_ 1).N),.pointer x2,.pointer x3,.int .i32 (IntKind.i32.wrap (x1.at_ 4).N),.int .i32 (IntKind.i32.wrap (x1.at_ 5).N),.pointer (some ⟨x4,0,none⟩),.map none]:List Value)
abbrev z2 (x0) (x1) (x2:Tree) (x3) (x4) (x5) (x6) (x7) (x8:Tree):=([⟨x0,0,[.int .i16 x1,.int .i32 (IntKind.i32.wrap (x2.at_ 0).N),.int .i16 (IntKind.i16.wrap (x2.at_ 1).N),.pointer x3,.pointer x4,.int .i32 (IntKind.i32.wrap (x2.at_ 4).N),.int .i32 (IntKind.i32.wrap (x2.at_ 5).N),.pointer (some ⟨x5,0,none⟩),.map none],true⟩,⟨x5,0,[.slice none 0 0,.map none],true⟩,qbH x6 18 (.agg #[.int .u8 0,.int .u8 0,.int .u8 0,.int .u8 0,.int .u8 0,.int .u8 0,.int .u8 0,.int .u8 0,.int .u8 0,.int .u8 0,.int .u8 0,.int .u8 0,.int .u8 0,.int .u8 0,.int .u8 0,.int .u8 0,.slice none 0 0,.map none]) ((lst ((x2.at_ 6).at_ 0)).length) (x7 + 1),⟨x6,x7 * 18,[qad ((qah (x8.at_ 0).S).getD 0 0),qad ((qah (x8.at_ 0).S).getD 1 0),qad ((qah (x8.at_ 0).S).getD 2 0),qad ((qah (x8.at_ 0).S).getD 3 0),qad ((qah (x8.at_ 0).S).getD 4 0),qad ((qah (x8.at_ 0).S).getD 5 0),qad ((qah (x8.at_ 0).S).getD 6 0),qad ((qah (x8.at_ 0).S).getD 7 0),qad ((qah (x8.at_ 0).S).getD 8 0),qad ((qah (x8.at_ 0).S).getD 9 0),qad ((qah (x8.at_ 0).S).getD 10 0),qad ((qah (x8.at_ 0).S).getD 11 0),qad ((qah (x8.at_ 0).S).getD 12 0),qad ((qah (x8.at_ 0).S).getD 13 0),qad ((qah (x8.at_ 0).S).getD 14 0),qad ((qah (x8.at_ 0).S).getD 15 0),.slice none 0 0,.map none],true⟩]:Tb)
abbrev z18 :=([.int .u8 0,.int .u8 0,.int .u8 0,.int .u8 0,.int .u8 0,.int .u8 0,.int .u8 0,.int .u8 0,.int .u8 0,.int .u8 0,.int .u8 0,.int .u8 0,.int .u8 0,.int .u8 0,.int .u8 0,.int .u8 0,.slice none 0 0,.map none]:List Value)
abbrev z39 :=([.int .u8 0,.int .u8 0,.int .u8 0,.int .u8 0,.int .u8 0,.int .u8 0,.int .u8 0,.int .u8 0,.int .u8 0,.int .u8 0,.int .u8 0,.int .u8 0,.int .u8 0,.int .u8 0,.int .u8 0,.int .u8 0]:List Value)
abbrev z43 (x0) (x1:Tree) (x2) (x3):=([.int .i16 x0,.int .i32 (IntKind.i32.wrap (x1.at_ 0).N),.int .i16 (IntKind.i16.wrap (x1.at_ 1).N),.pointer x2,.pointer x3,.int .i32 (IntKind.i32.wrap (x1.at_ 4).N),.int .i32 (IntKind.i32.wrap (x1.at_ 5).N),.pointer none,.map none]:List Value)
abbrev z53 (x0) (x1) (x2) (x3) (x4) (x5):=([⟨x0,0,(z0 x1 x2 x3 x4 x5),true⟩,⟨x5,0,[.slice none 0 0,.map none],true⟩]:Tb)
set_option maxHeartbeats 4000000 in
theorem qcJ (v:Int) (T:Tree) {bv:Nat} {A:Option Addr} {c:Nat} {w:World} {F:Nat → Nat → Prop} (hst:Str w bv [.int .i16 v,.int .i32 0,.int .i16 0,.pointer none,.pointer none,.int .i32 0,.int .i32 0,.pointer none,.map none]) (ho:Octs w F A c (qaj v T)) (hFd:∀ b o,F b o → ¬ (b = bv ∧ o < 9)) (hc:qa0 T) (hR:T.ranged) :
  Calls Tryz.prog 136 #[.pointer (some ⟨bv,0,none⟩),.slice A (qaj v T).length c,.bool false] w (fun e w'=>∃ D:DV,e = .returned .nilIface ∧ Str w' bv [.int .i16 v,.int .i32 ((D.f 0).n),.int .i16 ((D.f 1).n),.pointer ((D.f 2).A),.pointer ((D.f 3).A),.int .i32 ((D.f 4).n),.int .i32 ((D.f 5).n),.pointer ((D.f 6).A),.map D.m] ∧ qbb w' (Fp F w) D ∧ qa3 v D T ∧ Step w w' (fun b o=>b = bv ∧ o < 9)):=by
 refine enter (n:=192) Tryz.func136 rfl Tryz.ntmps136 kz fun a hE=>?_
 have hW:=WOk.startStr hst
 have hE1:=(hE.grow ⟨bv,0,[.int .i16 v,.int .i32 0,.int .i16 0,.pointer none,.pointer none,.int .i32 0,.int .i32 0,.pointer none,.map none],true⟩).recast 0 (.v (.pointer (some ⟨bv,0,none⟩))) (.p 0 0) rfl rfl (Nat.le_of_ble_eq_true (n:=1) rfl)
 refine qap [(0,.p 0 0),(1,.v (.slice A ((qaj v T).length) c)),(2,.v (.bool false))] hW hE1 fun a1 hE2=>?_
 refine qae [0,1] kz ?_
 refine qal [0] [1] [(0,.p 0 0),(1,.v (.slice A ((qaj v T).length) c)),(2,.v (.bool false)),(32,.p 0 0)] hW hE2 fun a3 hE4=>?_
 refine qan (qbJ hE4 (f:=134) (vs:=[.pointer (some ⟨bv,0,none⟩)]) (d:=33) (n':=7) kz Tryz.call134 Tryz.func134 rfl Tryz.ntmps134 kz fun a5 hE6=>?_)
 have hE7:=hE6.recast 0 (.v (.pointer (some ⟨bv,0,none⟩))) (.p 0 0) rfl rfl (Nat.le_of_ble_eq_true (n:=1) rfl)
 refine qap [(2,.p 0 7)] hW hE7 fun a8 hE9=>?_
 refine qas [0] kz ?_
 refine qal [0] [] [] hW hE9 fun gL fW=>?_
 refine qaf (qbM fW hW.cells (v:=.tuple #[]) kz ?_)
 refine ⟨_,rfl,fun gM fX=>?_⟩
 have fY:EnvOk 192 [⟨bv,0,[.int .i16 v,.int .i32 0,.int .i16 0,.pointer none,.pointer none,.int .i32 0,.int .i32 0,.pointer none,.map none],true⟩] [(33,.v (.tuple #[])),(0,.p 0 0),(1,.v (.slice A ((qaj v T).length) c)),(2,.v (.bool false)),(32,.p 0 0)] _:=fX.places (⟨rfl,rfl,trivial⟩)
 refine qaf (qab ?_)
 refine qae [0,1,2,3] kz ?_
 refine qal [0,1] [2,3] [(0,.p 0 0),(2,.v (.bool false)),(35,.v (.agg #[.slice A ((qaj v T).length) c,.bool false]))] hW fY fun gN fZ=>?_
 refine qan (qaP hW fZ (d:=7) (cs:=[.slice none 0 0,.bool false]) kz fun bg gO gP gq gt gv f5 f7=>?_)
 refine qan (qat f5 f7 (oi:=1) (cs:=[.slice A ((qaj v T).length) c,.bool false]) kz fun gQ gw ej f8=>?_)
 refine qaf (qab ?_)
 have eC:=RS.start (F:=F) (s:=qaj v T) ej f8 (ho.move ej.step (fun b_ o_ h_ _=>hFd b_ o_ h_) (ej.immM hFd)) [(0,.p 1 0),(2,.v (.bool false)),(7,.p 0 0)]
 have gp:=hc
 have e30r:=hR
 unfold qa0 at gp
 obtain ⟨e30_0,e30_1,e30_2,e30_3,e30_4,e30_5,e30_6,e30_U,_⟩:=gp
 obtain ⟨bh,eD⟩:∃ R,R = (if (decide (v ≥ 0)) = true then (uv T.U.length) ++ (qcG T.U) else []) ++ ([]:Bs):=⟨_,rfl⟩
 obtain ⟨gx,eE⟩:∃ R,R = (if (T.at_ 6).null = true then be 1 (-1) else (be 1 1) ++ (qa1 v (T.at_ 6))) ++ bh:=⟨_,rfl⟩
 obtain ⟨gy,eF⟩:∃ R,R = (be 4 ((IntKind.i32.wrap (T.at_ 5).N))) ++ gx:=⟨_,rfl⟩
 obtain ⟨fQ,eG⟩:∃ R,R = (be 4 ((IntKind.i32.wrap (T.at_ 4).N))) ++ gy:=⟨_,rfl⟩
 obtain ⟨fR,eH⟩:∃ R,R = (if (decide (v ≥ 0)) = true then (if (T.at_ 3).null = true then uv 0 else uv ((qbB (T.at_ 3)).length + 1) ++ (qbB (T.at_ 3))) else (if (T.at_ 3).null = true then be 2 (-1) else be 2 (qbB (T.at_ 3)).length ++ (qbB (T.at_ 3)))) ++ fQ:=⟨_,rfl⟩
 obtain ⟨gz,eI⟩:∃ R,R = (if (decide (v ≥ 0)) = true then (if (T.at_ 2).null = true then uv 0 else uv ((qbB (T.at_ 2)).length + 1) ++ (qbB (T.at_ 2))) else (if (T.at_ 2).null = true then be 2 (-1) else be 2 (qbB (T.at_ 2)).length ++ (qbB (T.at_ 2)))) ++ fR:=⟨_,rfl⟩
 obtain ⟨gA,eJ⟩:∃ R,R = (be 2 ((IntKind.i16.wrap (T.at_ 1).N))) ++ gz:=⟨_,rfl⟩
 obtain ⟨gB,eK⟩:∃ R,R = (be 4 ((IntKind.i32.wrap (T.at_ 0).N))) ++ gA:=⟨_,rfl⟩
 have eL:=eC.cast (t:=gB) (by rw [qcI,eK,eJ,eI,eH,eG,eF,eE,eD]; unfold qbU; simp only [List.append_assoc])
 clear eC
 refine wp_seq (qbK [(0,.p 1 0),(2,.v (.bool false)),(7,.p 0 0),(8,.v (.int .i16 v))] eL fun _ eM=>?_)
 clear eL
 refine qab (wp_seq (qbK [(0,.p 1 0),(2,.v (.bool false)),(7,.p 0 0),(8,.v (.int .i16 v))] eM fun _ eN=>?_))
 clear eM
 refine qab (wp_seq (qbK [(0,.p 1 0),(2,.v (.bool false)),(7,.p 0 0),(9,.v (.bool (decide (v ≥ 0))))] eN fun _ eO=>?_))
 clear eN
 refine qab (wp_seq (qbK [(0,.p 1 0),(2,.v (.bool false)),(7,.p 0 0),(9,.v (.bool (decide (v ≥ 0))))] eO fun _ eP=>?_))
 clear eO
 refine qab (wp_seq (qbK [(2,.v (.bool false)),(7,.p 0 0),(9,.v (.bool (decide (v ≥ 0)))),(10,.p 1 0)] eP fun _ eQ=>?_))
 clear eP
 refine qab (wp_seq (wp_seq ?_))
 have eR:=eQ.cast eK
 clear eQ
 refine qd8 (d:=45) [(2,.v (.bool false)),(7,.p 0 0),(9,.v (.bool (decide (v ≥ 0)))),(10,.p 1 0),(11,.v (.int .i32 (IntKind.i32.wrap (T.at_ 0).N)))] eR (qhP _ _) Tryz.call139 fun _ _ eS=>?_
 clear eR
 refine qab (qez [⟨bv,0,[.int .i16 v,.int .i32 (IntKind.i32.wrap (T.at_ 0).N),.int .i16 0,.pointer none,.pointer none,.int .i32 0,.int .i32 0,.pointer none,.map none],true⟩] 0 [(2,.v (.bool false)),(7,.p 0 0),(9,.v (.bool (decide (v ≥ 0)))),(10,.p 1 0)] eS fun _ _ eU=>?_)
 clear eS
 refine qab (wp_seq (wp_seq ?_))
 have eV:=eU.cast eJ
 clear eU
 refine qd8 (d:=50) [(2,.v (.bool false)),(7,.p 0 0),(9,.v (.bool (decide (v ≥ 0)))),(10,.p 1 0),(12,.v (.int .i16 (IntKind.i16.wrap (T.at_ 1).N)))] eV (qlK _ _) Tryz.call141 fun _ _ eW=>?_
 clear eV
 refine qab (qez [⟨bv,0,[.int .i16 v,.int .i32 (IntKind.i32.wrap (T.at_ 0).N),.int .i16 (IntKind.i16.wrap (T.at_ 1).N),.pointer none,.pointer none,.int .i32 0,.int .i32 0,.pointer none,.map none],true⟩] 0 [(2,.v (.bool false)),(7,.p 0 0),(9,.v (.bool (decide (v ≥ 0)))),(10,.p 1 0)] eW fun _ _ eX=>?_)
 clear eW
 refine qab (wp_seq (wp_seq (qbK [(2,.v (.bool false)),(7,.p 0 0),(9,.v (.bool (decide (v ≥ 0)))),(10,.p 1 0)] eX fun _ eY=>?_)))
 clear eX
 refine qab (wp_seq ?_)
 have eZ:=eY.cast eI
 clear eY
 refine qd1 (Mid:=fun a_ w_=>∃ (aj:Option Addr) (P':qcj),(∀ w F,P' w F → noF w F ∧ qjE aj (qbB (T.at_ 2)) w F ∧ aj.isNone = (T.at_ 2).null) ∧ RS w (fun b o=>b = bv ∧ o < 9) F 192 bg [⟨bv,0,[.int .i16 v,.int .i32 (IntKind.i32.wrap (T.at_ 0).N),.int .i16 (IntKind.i16.wrap (T.at_ 1).N),.pointer none,.pointer none,.int .i32 0,.int .i32 0,.pointer none,.map none],true⟩] [(2,.v (.bool false)),(7,.p 0 0),(9,.v (.bool (decide (v ≥ 0)))),(10,.p 1 0),(13,.v (.pointer aj))] P' fR a_ w_) ?_ ?_
 ·
  refine wp_seq (qbK [(2,.v (.bool false)),(7,.p 0 0),(9,.v (.bool (decide (v ≥ 0)))),(10,.p 1 0),(55,.v (.bool (decide (v ≥ 0))))] eZ fun _ aP=>qab ?_)
  clear eZ
  refine qay aP.env_ (b:=decide (v ≥ 0)) kz (fun ek=>?_) (fun ek=>?_)
  ·
   have e9:=aP.cast (t:=(if (T.at_ 2).null = true then uv 0 else uv ((qbB (T.at_ 2)).length + 1) ++ (qbB (T.at_ 2))) ++ fR) (by rw [if_pos ek])
   clear aP
   refine wp_seq (qbK [(2,.v (.bool false)),(7,.p 0 0),(9,.v (.bool (decide (v ≥ 0)))),(10,.p 1 0),(56,.v (.bool false))] e9 fun _ em=>qab ?_)
   clear e9
   refine qar em.env_ (b:=false) kz (rfl) ?_
   refine qkm (d:=58) (fun fS=>[(2,.v (.bool false)),(7,.p 0 0),(9,.v (.bool (decide (v ≥ 0)))),(10,.p 1 0),(13,.v (.pointer fS))]) em (qcu (T.at_ 2).null (qbB (T.at_ 2)) e30_2 _) (fun _=>(MvF.text _ _).and (MvF.is _)) Tryz.call143 fun fS gR _ _ fb ga=>?_
   clear em
   refine qab ?_
   exact ⟨fS,_,fun w F h_=>⟨(fb _ _ h_).1,(fb _ _ h_).2⟩,ga.pk (env':=[(2,.v (.bool false)),(7,.p 0 0),(9,.v (.bool (decide (v ≥ 0)))),(10,.p 1 0),(13,.v (.pointer fS))])⟩
  have fe:=aP.cast (t:=(if (T.at_ 2).null = true then be 2 (-1) else be 2 (qbB (T.at_ 2)).length ++ (qbB (T.at_ 2))) ++ fR) (by rw [if_neg (by rw [ek]; decide)])
  clear aP
  refine wp_seq (qbK [(2,.v (.bool false)),(7,.p 0 0),(9,.v (.bool (decide (v ≥ 0)))),(10,.p 1 0),(59,.v (.bool false))] fe fun _ eo=>qab ?_)
  clear fe
  refine qar eo.env_ (b:=false) kz (rfl) ?_
  refine qkm (d:=61) (fun fT=>[(2,.v (.bool false)),(7,.p 0 0),(9,.v (.bool (decide (v ≥ 0)))),(10,.p 1 0),(13,.v (.pointer fT))]) eo (qdH (T.at_ 2).null (qbB (T.at_ 2)) e30_2 _) (fun _=>(MvF.text _ _).and (MvF.is _)) Tryz.call145 fun fT gS _ _ ff gb=>?_
  clear eo
  refine qab ?_
  exact ⟨fT,_,fun w F h_=>⟨(ff _ _ h_).1,(ff _ _ h_).2⟩,gb.pk (env':=[(2,.v (.bool false)),(7,.p 0 0),(9,.v (.bool (decide (v ≥ 0)))),(10,.p 1 0),(13,.v (.pointer fT))])⟩
 rintro _ _ ⟨aj,gC,fg,fh⟩
 refine qab (qez [⟨bv,0,[.int .i16 v,.int .i32 (IntKind.i32.wrap (T.at_ 0).N),.int .i16 (IntKind.i16.wrap (T.at_ 1).N),.pointer aj,.pointer none,.int .i32 0,.int .i32 0,.pointer none,.map none],true⟩] 0 [(2,.v (.bool false)),(7,.p 0 0),(9,.v (.bool (decide (v ≥ 0)))),(10,.p 1 0)] fh fun _ _ fi=>?_)
 clear fh
 refine qab (wp_seq (wp_seq (qbK [(2,.v (.bool false)),(7,.p 0 0),(9,.v (.bool (decide (v ≥ 0)))),(10,.p 1 0)] fi fun _ fj=>?_)))
 clear fi
 refine qab (wp_seq ?_)
 have fk:=fj.cast eH
 clear fj
 refine qd1 (Mid:=fun a_ w_=>∃ (ak:Option Addr) (P':qcj),(∀ w F,P' w F → gC w F ∧ qjE ak (qbB (T.at_ 3)) w F ∧ ak.isNone = (T.at_ 3).null) ∧ RS w (fun b o=>b = bv ∧ o < 9) F 192 bg [⟨bv,0,[.int .i16 v,.int .i32 (IntKind.i32.wrap (T.at_ 0).N),.int .i16 (IntKind.i16.wrap (T.at_ 1).N),.pointer aj,.pointer none,.int .i32 0,.int .i32 0,.pointer none,.map none],true⟩] [(7,.p 0 0),(9,.v (.bool (decide (v ≥ 0)))),(10,.p 1 0),(14,.v (.pointer ak))] P' fQ a_ w_) ?_ ?_
 ·
  refine wp_seq (qbK [(2,.v (.bool false)),(7,.p 0 0),(9,.v (.bool (decide (v ≥ 0)))),(10,.p 1 0),(66,.v (.bool (decide (v ≥ 0))))] fk fun _ aQ=>qab ?_)
  clear fk
  refine qay aQ.env_ (b:=decide (v ≥ 0)) kz (fun ep=>?_) (fun ep=>?_)
  ·
   have fm:=aQ.cast (t:=(if (T.at_ 3).null = true then uv 0 else uv ((qbB (T.at_ 3)).length + 1) ++ (qbB (T.at_ 3))) ++ fQ) (by rw [if_pos ep])
   clear aQ
   refine wp_seq (qbK [(7,.p 0 0),(9,.v (.bool (decide (v ≥ 0)))),(10,.p 1 0),(67,.v (.bool false))] fm fun _ eu=>qab ?_)
   clear fm
   refine qar eu.env_ (b:=false) kz (rfl) ?_
   refine qkm (d:=69) (fun fU=>[(7,.p 0 0),(9,.v (.bool (decide (v ≥ 0)))),(10,.p 1 0),(14,.v (.pointer fU))]) eu (qcu (T.at_ 3).null (qbB (T.at_ 3)) e30_3 _) (fun _=>(MvF.text _ _).and (MvF.is _)) Tryz.call143 fun fU gT _ _ fo gc=>?_
   clear eu
   refine qab ?_
   exact ⟨fU,_,fun w F h_=>⟨(fo _ _ h_).1,(fo _ _ h_).2⟩,gc.pk (env':=[(7,.p 0 0),(9,.v (.bool (decide (v ≥ 0)))),(10,.p 1 0),(14,.v (.pointer fU))])⟩
  have fq:=aQ.cast (t:=(if (T.at_ 3).null = true then be 2 (-1) else be 2 (qbB (T.at_ 3)).length ++ (qbB (T.at_ 3))) ++ fQ) (by rw [if_neg (by rw [ep]; decide)])
  clear aQ
  refine wp_seq (qbK [(7,.p 0 0),(9,.v (.bool (decide (v ≥ 0)))),(10,.p 1 0),(70,.v (.bool false))] fq fun _ ev=>qab ?_)
  clear fq
  refine qar ev.env_ (b:=false) kz (rfl) ?_
  refine qkm (d:=72) (fun fV=>[(7,.p 0 0),(9,.v (.bool (decide (v ≥ 0)))),(10,.p 1 0),(14,.v (.pointer fV))]) ev (qdH (T.at_ 3).null (qbB (T.at_ 3)) e30_3 _) (fun _=>(MvF.text _ _).and (MvF.is _)) Tryz.call145 fun fV gD _ _ bo gd=>?_
  clear ev
  refine qab ?_
  exact ⟨fV,_,fun w F h_=>⟨(bo _ _ h_).1,(bo _ _ h_).2⟩,gd.pk (env':=[(7,.p 0 0),(9,.v (.bool (decide (v ≥ 0)))),(10,.p 1 0),(14,.v (.pointer fV))])⟩
 rintro _ _ ⟨ak,ge,bi,fr⟩
 refine qab (qez [⟨bv,0,[.int .i16 v,.int .i32 (IntKind.i32.wrap (T.at_ 0).N),.int .i16 (IntKind.i16.wrap (T.at_ 1).N),.pointer aj,.pointer ak,.int .i32 0,.int .i32 0,.pointer none,.map none],true⟩] 0 [(7,.p 0 0),(9,.v (.bool (decide (v ≥ 0)))),(10,.p 1 0)] fr fun _ _ bp=>?_)
 clear fr
 refine qab (wp_seq (wp_seq ?_))
 have bq:=bp.cast eG
 clear bp
 refine qd8 (d:=77) [(7,.p 0 0),(9,.v (.bool (decide (v ≥ 0)))),(10,.p 1 0),(15,.v (.int .i32 (IntKind.i32.wrap (T.at_ 4).N)))] bq (qhP _ _) Tryz.call139 fun _ _ bt=>?_
 clear bq
 refine qab (qez [⟨bv,0,[.int .i16 v,.int .i32 (IntKind.i32.wrap (T.at_ 0).N),.int .i16 (IntKind.i16.wrap (T.at_ 1).N),.pointer aj,.pointer ak,.int .i32 (IntKind.i32.wrap (T.at_ 4).N),.int .i32 0,.pointer none,.map none],true⟩] 0 [(7,.p 0 0),(9,.v (.bool (decide (v ≥ 0)))),(10,.p 1 0)] bt fun _ _ bu=>?_)
 clear bt
 refine qab (wp_seq (wp_seq ?_))
 have bw:=bu.cast eF
 clear bu
 refine qd8 (d:=82) [(7,.p 0 0),(9,.v (.bool (decide (v ≥ 0)))),(10,.p 1 0),(16,.v (.int .i32 (IntKind.i32.wrap (T.at_ 5).N)))] bw (qhP _ _) Tryz.call139 fun _ _ bx=>?_
 clear bw
 refine qab (qez [⟨bv,0,(z43 v T aj ak),true⟩] 0 [(7,.p 0 0),(9,.v (.bool (decide (v ≥ 0)))),(10,.p 1 0)] bx fun _ _ bz=>?_)
 clear bx
 refine qab (wp_seq ?_)
 have aL:=bz.cast eE
 clear bz
 refine qd1 (Mid:=fun a_ w_=>∃ (ap:DV) (P':qcj),(∀ w F,P' w F → ge w F ∧ (∀ ad,ap.A = some ad → (∃ b o,ad = ⟨b,o,none⟩ ∧ AtF w F b o [.slice ((ap.f 0).A) ((ap.f 0).l) ((ap.f 0).c),.map ap.m]) ∧ qaO w F ap) ∧ (ap.A.isNone = (T.at_ 6).null ∧ ((T.at_ 6).null = false → qbc v ap (T.at_ 6)))) ∧ RS w (fun b o=>b = bv ∧ o < 9) F 192 bg [⟨bv,0,[.int .i16 v,.int .i32 (IntKind.i32.wrap (T.at_ 0).N),.int .i16 (IntKind.i16.wrap (T.at_ 1).N),.pointer aj,.pointer ak,.int .i32 (IntKind.i32.wrap (T.at_ 4).N),.int .i32 (IntKind.i32.wrap (T.at_ 5).N),.pointer ap.A,.map none],true⟩] [(7,.p 0 0),(9,.v (.bool (decide (v ≥ 0)))),(10,.p 1 0)] P' bh a_ w_) ?_ ?_
 ·
  refine (Bool.eq_false_or_eq_true ((T.at_ 6).null)).elim (fun av=>?_) (fun av=>?_)
  ·
   have bA:=aL.cast (t:=(be 1 (-1)) ++ bh) (by rw [if_pos av])
   clear aL
   refine wp_seq (qd8 (d:=87) [(7,.p 0 0),(9,.v (.bool (decide (v ≥ 0)))),(10,.p 1 0),(17,.v (.int .i8 (-1)))] bA (qlL _) Tryz.call163 fun _ _ bB=>?_)
   clear bA
   refine qab (wp_seq (qbK [(7,.p 0 0),(9,.v (.bool (decide (v ≥ 0)))),(10,.p 1 0),(92,.v (.bool false))] bB fun _ bC=>?_))
   clear bB
   refine qab (qar bC.env_ (b:=false) kz (rfl) ?_)
   refine wp_skip (qab ?_)
   exact ⟨dvT none ByteArray.empty,_,fun w F h_=>⟨h_,fun _ h=>(by cases h),by rw [av]; rfl,fun h=>by rw [av] at h; cases h⟩,bC.pk (env':=[(7,.p 0 0),(9,.v (.bool (decide (v ≥ 0)))),(10,.p 1 0)])⟩
  have bD:=aL.cast (t:=((be 1 1) ++ (qa1 v (T.at_ 6))) ++ bh) (by rw [if_neg (by rw [av]; decide)])
  clear aL
  have bE:=bD.cast (t:=(be 1 1) ++ ((qa1 v (T.at_ 6)) ++ bh)) (by rw [List.append_assoc])
  clear bD
  refine wp_seq (qd8 (d:=87) [(7,.p 0 0),(9,.v (.bool (decide (v ≥ 0)))),(10,.p 1 0),(17,.v (.int .i8 1))] bE (qlM _) Tryz.call163 fun _ _ bF=>?_)
  clear bE
  refine qab (wp_seq (qas [0,1,2,3,4] kz ?_))
  refine qcH [0,1,2] [3,4] [(7,.p 0 0),(9,.v (.bool (decide (v ≥ 0)))),(10,.p 1 0),(90,.v (.bool true))] bF fun _ bG=>?_
  clear bF
  refine qan (qjM (d:=91) bG (pOk _) Tryz.call148 fun _ _ bH=>?_)
  clear bG
  refine qcH [4] [] [(7,.p 0 0),(9,.v (.bool (decide (v ≥ 0)))),(10,.p 1 0),(92,.v (.bool true))] bH fun _ aR=>?_
  clear bH
  refine qaf (qab ?_)
  refine qa2 aR.env_ (b:=true) kz (rfl) ?_
  refine wp_seq (qas [0,1,2,3,4] kz ?_)
  refine qcH [0] [1,2,3,4] [(7,.p 0 0),(9,.v (.bool (decide (v ≥ 0)))),(10,.p 1 0),(93,.p 1 0)] aR fun _ bI=>?_
  clear aR
  refine qan (qhK (d:=94) [.slice none 0 0,.map none] bI fun af _ _ hb_b130 bJ=>?_)
  clear bI
  have bK:=(bJ.tbEq (tb':=[⟨bv,0,(z43 v T aj ak),true⟩,⟨af,0,[.slice none 0 0,.map none],true⟩]) rfl).pk (env':=[(7,.p 0 0),(9,.v (.bool (decide (v ≥ 0)))),(10,.p 1 0),(93,.p 1 0),(94,.p 2 0)])
  clear bJ
  refine qcH [2,3] [4] [(7,.p 0 0),(9,.v (.bool (decide (v ≥ 0)))),(10,.p 1 0),(94,.p 2 0),(96,.p 1 7)] bK fun _ bL=>?_
  clear bK
  refine qan (qd0 (z53 bv v T aj ak af) 0 bL fun _ bM=>?_)
  clear bL
  refine qaf ?_
  have bN:=bM.pk (env':=[(7,.p 0 0),(9,.v (.bool (decide (v ≥ 0)))),(10,.p 1 0)])
  clear bM
  have ft:=e30_6
  have e136r:=(qfr e30r 6)
  unfold qbk at ft
  obtain ⟨⟨e136_0,e136_0e⟩,e136_U,_⟩:=ft
  obtain ⟨ax,bO⟩:∃ R,R = (if (decide (v ≥ 0)) = true then (uv (T.at_ 6).U.length) ++ (qcG (T.at_ 6).U) else []) ++ bh:=⟨_,rfl⟩
  obtain ⟨gg,bP⟩:∃ R,R = ((if (decide (v ≥ 0)) = true then (uv ((lst ((T.at_ 6).at_ 0)).length + 1)) else (be 4 (lst ((T.at_ 6).at_ 0)).length)) ++ ((lst ((T.at_ 6).at_ 0)).flatMap (qax v))) ++ ax:=⟨_,rfl⟩
  have bQ:=bN.cast (t:=gg) (by rw [bP,bO]; unfold qa1; simp only [List.append_assoc])
  clear bN
  refine qab (wp_seq (qbK [(7,.p 0 0),(9,.v (.bool (decide (v ≥ 0)))),(10,.p 1 0),(18,.v (.pointer (some ⟨af,0,none⟩)))] bQ fun _ bR=>?_))
  clear bQ
  have bS:=(bR.recast 18 (.v (.pointer (some ⟨af,0,none⟩))) (.p 2 0) rfl rfl (Nat.le_of_ble_eq_true (n:=3) rfl)).pk (env':=[(7,.p 0 0),(9,.v (.bool (decide (v ≥ 0)))),(10,.p 1 0),(18,.p 2 0)])
  clear bR
  refine qab (wp_seq (qas [0,1] kz ?_))
  refine qcH [0] [1] [(7,.p 0 0),(9,.v (.bool (decide (v ≥ 0)))),(10,.p 1 0),(18,.p 2 0),(101,.p 2 0)] bS fun _ bT=>?_
  clear bS
  refine qan (qkL (d:=102) (vs:=[.pointer (some ⟨af,0,none⟩)]) bT (fun _=>qlQ _ _ _) Tryz.call185 fun _ bU=>?_)
  clear bT
  refine qaf ?_
  have bV:=bU.pk (env':=[(7,.p 0 0),(9,.v (.bool (decide (v ≥ 0)))),(10,.p 1 0),(18,.p 2 0)])
  clear bU
  refine qab (wp_seq (qbK [(7,.p 0 0),(9,.v (.bool (decide (v ≥ 0)))),(10,.p 1 0),(19,.p 2 0)] bV fun _ bW=>?_))
  clear bV
  refine qab (wp_seq (wp_seq (qbK [(7,.p 0 0),(9,.v (.bool (decide (v ≥ 0)))),(10,.p 1 0),(19,.p 2 0),(20,.v (.slice none 0 0))] bW fun _ bX=>?_)))
  clear bW
  refine qab (wp_seq (qbK [(7,.p 0 0),(9,.v (.bool (decide (v ≥ 0)))),(10,.p 1 0),(19,.p 2 0),(21,.v (.slice none 0 0))] bX fun _ bY=>?_))
  clear bX
  refine qab (wp_seq (qbK [(7,.p 0 0),(9,.v (.bool (decide (v ≥ 0)))),(10,.p 1 0),(19,.p 2 0),(21,.v (.slice none 0 0))] bY fun _ bZ=>?_))
  clear bY
  refine qab (wp_seq ?_)
  have b8:=bZ.cast bP
  clear bZ
  have cd:=b8.cast (t:=(if (decide (v ≥ 0)) = true then (uv ((lst ((T.at_ 6).at_ 0)).length + 1)) else (be 4 (lst ((T.at_ 6).at_ 0)).length)) ++ (((lst ((T.at_ 6).at_ 0)).flatMap (qax v)) ++ ax)) (by rw [List.append_assoc])
  clear b8
  refine qjG (d1:=110) (d2:=111) [(7,.p 0 0),(9,.v (.bool (decide (v ≥ 0)))),(10,.p 1 0),(19,.p 2 0),(21,.v (.slice none 0 0)),(109,.v (.bool (decide (v ≥ 0))))] [(7,.p 0 0),(9,.v (.bool (decide (v ≥ 0)))),(10,.p 1 0),(19,.p 2 0),(21,.v (.slice none 0 0)),(22,.v (.int .i32 (((lst ((T.at_ 6).at_ 0)).length:Nat):Int)))] cd (qdv ((lst ((T.at_ 6).at_ 0)).length) e136_0 _ (flat_ge' (qbg v) _)) Tryz.call146 (qgV ((lst ((T.at_ 6).at_ 0)).length) e136_0 _ (flat_ge' (qbg v) _)) Tryz.call147 fun _ _ ce=>?_
  clear cd
  refine qab (wp_seq (wp_seq (qlI (d:=112) [(7,.p 0 0),(9,.v (.bool (decide (v ≥ 0)))),(10,.p 1 0),(19,.p 2 0),(21,.v (.slice none 0 0)),(22,.v (.int .i32 (((lst ((T.at_ 6).at_ 0)).length:Nat):Int))),(113,.v (.bool false))] ce (pOk _) Tryz.call148 fun _ _ aS=>?_)))
  clear ce
  refine qab (qar aS.env_ (b:=false) kz (rfl) ?_)
  refine wp_skip (qab (wp_seq (qjL (t:=204) (e:=209) (size:=18) (bytes:=48) (d:=116) (A0:=none) (m:=0) (cp:=0) [(7,.p 0 0),(9,.v (.bool (decide (v ≥ 0)))),(10,.p 1 0),(19,.p 2 0),(22,.v (.int .i32 (((lst ((T.at_ 6).at_ 0)).length:Nat):Int))),(115,.v (.slice none 0 0))] [(7,.p 0 0),(9,.v (.bool (decide (v ≥ 0)))),(10,.p 1 0),(19,.p 2 0),(21,.v (.slice none 0 0)),(22,.v (.int .i32 (((lst ((T.at_ 6).at_ 0)).length:Nat):Int)))] 1 aS fun _ cm=>?_)))
  clear aS
  refine qab (qhL (Mid:=fun a_ w_=>∃ (ag:DV) (P':qcj),(∀ w F,P' w F → ge w F ∧ (Slots w F 18 ag.A ag.c ag.l (fun i=>[qad (((ag.f i).f 0).o.getD 0 0),qad (((ag.f i).f 0).o.getD 1 0),qad (((ag.f i).f 0).o.getD 2 0),qad (((ag.f i).f 0).o.getD 3 0),qad (((ag.f i).f 0).o.getD 4 0),qad (((ag.f i).f 0).o.getD 5 0),qad (((ag.f i).f 0).o.getD 6 0),qad (((ag.f i).f 0).o.getD 7 0),qad (((ag.f i).f 0).o.getD 8 0),qad (((ag.f i).f 0).o.getD 9 0),qad (((ag.f i).f 0).o.getD 10 0),qad (((ag.f i).f 0).o.getD 11 0),qad (((ag.f i).f 0).o.getD 12 0),qad (((ag.f i).f 0).o.getD 13 0),qad (((ag.f i).f 0).o.getD 14 0),qad (((ag.f i).f 0).o.getD 15 0),.slice (((ag.f i).f 1).A) (((ag.f i).f 1).l) (((ag.f i).f 1).c),.map ((ag.f i).m)]) ∧ ag.l ≤ 1000000 ∧ ∀ i,i < ag.l → qaE w F (ag.f i)) ∧ (ag.l = (lst ((T.at_ 6).at_ 0)).length ∧ ∀ i,i < ag.l → qaM v (ag.f i) ((lst ((T.at_ 6).at_ 0)).getD i .zero))) ∧ RS w (fun b o=>b = bv ∧ o < 9) F 192 bg [⟨bv,0,[.int .i16 v,.int .i32 (IntKind.i32.wrap (T.at_ 0).N),.int .i16 (IntKind.i16.wrap (T.at_ 1).N),.pointer aj,.pointer ak,.int .i32 (IntKind.i32.wrap (T.at_ 4).N),.int .i32 (IntKind.i32.wrap (T.at_ 5).N),.pointer (some ⟨af,0,none⟩),.map none],true⟩,⟨af,0,[.slice none 0 0,.map none],true⟩] [(7,.p 0 0),(9,.v (.bool (decide (v ≥ 0)))),(10,.p 1 0),(19,.p 2 0),(21,.v (.slice ag.A ag.l ag.c))] P' ax a_ w_) ?_ ?_)
  ·
   refine wp_seq (qbK [(7,.p 0 0),(9,.v (.bool (decide (v ≥ 0)))),(10,.p 1 0),(19,.p 2 0),(21,.v (.slice none 0 0)),(22,.v (.int .i32 (((lst ((T.at_ 6).at_ 0)).length:Nat):Int))),(118,.v (.bool (decide ((((lst ((T.at_ 6).at_ 0)).length:Nat):Int) > 0))))] cm fun _ ay=>qab ?_)
   clear cm
   refine qay ay.env_ (b:=decide ((((lst ((T.at_ 6).at_ 0)).length:Nat):Int) > 0)) kz (fun aM=>?_) (fun aM=>?_)
   ·
    have hn_g164:0 < (lst ((T.at_ 6).at_ 0)).length:=by have h_:=of_decide_eq_true aM; omega
    refine qas [0,1,2,3] kz ?_
    refine qcH [0,1] [2,3] [(7,.p 0 0),(9,.v (.bool (decide (v ≥ 0)))),(10,.p 1 0),(19,.p 2 0),(22,.v (.int .i32 (((lst ((T.at_ 6).at_ 0)).length:Nat):Int))),(119,.v (.slice none 0 0)),(120,.v (.int .i32 (((lst ((T.at_ 6).at_ 0)).length:Nat):Int)))] ay fun _ cq=>?_
    clear ay
    refine qan (qfQ (A0:=none) (d:=121) (t:=204) (tn:=21) (e:=209) (size:=18) (bytes:=48) (k:=.i32) (kn:=.i32) (q:=(((lst ((T.at_ 6).at_ 0)).length:Nat):Int)) (j:=(lst ((T.at_ 6).at_ 0)).length) (.agg #[.int .u8 0,.int .u8 0,.int .u8 0,.int .u8 0,.int .u8 0,.int .u8 0,.int .u8 0,.int .u8 0,.int .u8 0,.int .u8 0,.int .u8 0,.int .u8 0,.int .u8 0,.int .u8 0,.int .u8 0,.int .u8 0,.slice none 0 0,.map none]) cq (fun ab ae _ _ hg_g164 hcap_g164 cr=>?_) rfl hn_g164 (by have:=e136_0; omega))
    clear cq
    refine qcH [3] [] [(7,.p 0 0),(9,.v (.bool (decide (v ≥ 0)))),(10,.p 1 0),(19,.p 2 0),(21,.v (.slice (some ⟨ab,0,none⟩) ((lst ((T.at_ 6).at_ 0)).length) ae)),(22,.v (.int .i32 (((lst ((T.at_ 6).at_ 0)).length:Nat):Int)))] cr fun _ cu=>qaf ?_
    clear cr
    refine qab (wp_seq (qbK [(7,.p 0 0),(9,.v (.bool (decide (v ≥ 0)))),(10,.p 1 0),(19,.p 2 0),(21,.v (.slice (some ⟨ab,0,none⟩) ((lst ((T.at_ 6).at_ 0)).length) ae)),(22,.v (.int .i32 (((lst ((T.at_ 6).at_ 0)).length:Nat):Int))),(23,.v (.int .i32 0))] cu fun _ aT=>?_))
    clear cu
    refine qab (wp_block ?_)
    have aU:=aT.mv
    have fv:=(aT.cast (t:=(lst ((T.at_ 6).at_ 0)).flatMap (qax v) ++ ax) rfl).pk (env':=[(7,.p 0 0),(9,.v (.bool (decide (v ≥ 0)))),(10,.p 1 0),(19,.p 2 0),(21,.v (.slice (some ⟨ab,0,none⟩) ((lst ((T.at_ 6).at_ 0)).length) ae)),(22,.v (.int .i32 (((lst ((T.at_ 6).at_ 0)).length:Nat):Int))),(23,.v (.int .i32 ((0:Nat):Int)))])
    clear aT
    refine qjH (tb:=(z53 bv v T aj ak af)) (z:=.agg #[.int .u8 0,.int .u8 0,.int .u8 0,.int .u8 0,.int .u8 0,.int .u8 0,.int .u8 0,.int .u8 0,.int .u8 0,.int .u8 0,.int .u8 0,.int .u8 0,.int .u8 0,.int .u8 0,.int .u8 0,.int .u8 0,.slice none 0 0,.map none]) (cl:=qbj) (ok:=qaE) (rel:=(qaM v)) (L:=lst ((T.at_ 6).at_ 0)) (size:=18) (qax v) ax (fun k=>[(7,.p 0 0),(9,.v (.bool (decide (v ≥ 0)))),(10,.p 1 0),(19,.p 2 0),(21,.v (.slice (some ⟨ab,0,none⟩) ((lst ((T.at_ 6).at_ 0)).length) ae)),(22,.v (.int .i32 (((lst ((T.at_ 6).at_ 0)).length:Nat):Int))),(23,.v (.int .i32 ((k:Nat):Int)))]) fv qaI (fun ac aa _ _ aV fw cw=>?_) (fun _ _ cz=>?_)
    ·
     obtain ⟨fx,cA,cB⟩:∃ P',(∀ w F,P' w F → (ge w F ∧ qfy ab 18 qbj qaE (qaM v) (lst ((T.at_ 6).at_ 0)) ac w F)) ∧ RS w (fun b o=>b = bv ∧ o < 9) F 192 bg [⟨bv,0,[.int .i16 v,.int .i32 (IntKind.i32.wrap (T.at_ 0).N),.int .i16 (IntKind.i16.wrap (T.at_ 1).N),.pointer aj,.pointer ak,.int .i32 (IntKind.i32.wrap (T.at_ 4).N),.int .i32 (IntKind.i32.wrap (T.at_ 5).N),.pointer (some ⟨af,0,none⟩),.map none],true⟩,⟨af,0,[.slice none 0 0,.map none],true⟩,qbH ab 18 (.agg #[.int .u8 0,.int .u8 0,.int .u8 0,.int .u8 0,.int .u8 0,.int .u8 0,.int .u8 0,.int .u8 0,.int .u8 0,.int .u8 0,.int .u8 0,.int .u8 0,.int .u8 0,.int .u8 0,.int .u8 0,.int .u8 0,.slice none 0 0,.map none]) ((lst ((T.at_ 6).at_ 0)).length) ac] [(7,.p 0 0),(9,.v (.bool (decide (v ≥ 0)))),(10,.p 1 0),(19,.p 2 0),(21,.v (.slice (some ⟨ab,0,none⟩) ((lst ((T.at_ 6).at_ 0)).length) ae)),(22,.v (.int .i32 (((lst ((T.at_ 6).at_ 0)).length:Nat):Int))),(23,.v (.int .i32 ((ac:Nat):Int)))] P' ((qax v) aa ++ (((lst ((T.at_ 6).at_ 0)).drop (ac + 1)).flatMap (qax v) ++ ax)) _ _:=⟨_,fun _ _ h=>h,cw⟩
     clear cw
     obtain ⟨aW,cC⟩:∃ R,R = ((lst ((T.at_ 6).at_ 0)).drop (ac + 1)).flatMap (qax v) ++ ax:=⟨_,rfl⟩
     have fy:=(e136_0e aa (List.mem_of_getElem? aV))
     have e183r:=(qin (qfr e136r 0) aa (List.mem_of_getElem? aV))
     unfold qaY at fy
     obtain ⟨e183_0,e183_1,e183_U,_⟩:=fy
     obtain ⟨az,cD⟩:∃ R,R = (if (decide (v ≥ 0)) = true then (uv aa.U.length) ++ (qcG aa.U) else []) ++ aW:=⟨_,rfl⟩
     obtain ⟨gh,cE⟩:∃ R,R = ((if (decide (v ≥ 0)) = true then (uv ((lst (aa.at_ 1)).length + 1)) else (be 4 (lst (aa.at_ 1)).length)) ++ ((lst (aa.at_ 1)).flatMap (fun E=>be 4 (IntKind.i32.wrap E.N)))) ++ az:=⟨_,rfl⟩
     obtain ⟨gi,cG⟩:∃ R,R = (qah (aa.at_ 0).S) ++ gh:=⟨_,rfl⟩
     have cH:=cB.cast (t:=gi) (by rw [cG,cE,cD,← cC]; unfold qax; simp only [List.append_assoc])
     clear cB
     refine wp_seq (wp_seq (qbK [(7,.p 0 0),(9,.v (.bool (decide (v ≥ 0)))),(10,.p 1 0),(19,.p 2 0),(21,.v (.slice (some ⟨ab,0,none⟩) ((lst ((T.at_ 6).at_ 0)).length) ae)),(22,.v (.int .i32 (((lst ((T.at_ 6).at_ 0)).length:Nat):Int))),(23,.v (.int .i32 ((ac:Nat):Int))),(124,.v (.bool (decide (((ac:Nat):Int) < (((lst ((T.at_ 6).at_ 0)).length:Nat):Int)))))] cH fun _ aX=>qab ?_))
     clear cH
     refine qa2 aX.env_ (b:=decide (((ac:Nat):Int) < (((lst ((T.at_ 6).at_ 0)).length:Nat):Int))) kz (decide_eq_true (by omega)) ?_
     refine wp_skip (qab (wp_seq (wp_block (wp_seq (qlh (t:=204) (e:=209) (size:=18) (bytes:=48) (d:=129) (tb:=(z53 bv v T aj ak af)) (z:=.agg #[.int .u8 0,.int .u8 0,.int .u8 0,.int .u8 0,.int .u8 0,.int .u8 0,.int .u8 0,.int .u8 0,.int .u8 0,.int .u8 0,.int .u8 0,.int .u8 0,.int .u8 0,.int .u8 0,.int .u8 0,.int .u8 0,.slice none 0 0,.map none]) [(7,.p 0 0),(9,.v (.bool (decide (v ≥ 0)))),(10,.p 1 0),(19,.p 2 0),(21,.v (.slice (some ⟨ab,0,none⟩) ((lst ((T.at_ 6).at_ 0)).length) ae)),(22,.v (.int .i32 (((lst ((T.at_ 6).at_ 0)).length:Nat):Int))),(23,.v (.int .i32 ((ac:Nat):Int))),(127,.v (.slice (some ⟨ab,0,none⟩) ((lst ((T.at_ 6).at_ 0)).length) ae)),(128,.v (.int .i32 ((ac:Nat):Int)))] [(7,.p 0 0),(9,.v (.bool (decide (v ≥ 0)))),(10,.p 1 0),(19,.p 2 0),(21,.v (.slice (some ⟨ab,0,none⟩) ((lst ((T.at_ 6).at_ 0)).length) ae)),(22,.v (.int .i32 (((lst ((T.at_ 6).at_ 0)).length:Nat):Int))),(23,.v (.int .i32 ((ac:Nat):Int))),(24,.p 4 0)] 2 aX fw rfl kz fun _ cI=>?_)))))
     clear aX
     have cJ:=cI.tbEq (tb':=[⟨bv,0,(z0 v T aj ak af),true⟩,⟨af,0,[.slice none 0 0,.map none],true⟩,qbH ab 18 (.agg #[.int .u8 0,.int .u8 0,.int .u8 0,.int .u8 0,.int .u8 0,.int .u8 0,.int .u8 0,.int .u8 0,.int .u8 0,.int .u8 0,.int .u8 0,.int .u8 0,.int .u8 0,.int .u8 0,.int .u8 0,.int .u8 0,.slice none 0 0,.map none]) ((lst ((T.at_ 6).at_ 0)).length) (ac + 1),⟨ab,ac * 18,z18,true⟩]) rfl
     clear cI
     refine qab (wp_seq (qas [0,1] kz ?_))
     refine qcH [0] [1] [(7,.p 0 0),(9,.v (.bool (decide (v ≥ 0)))),(10,.p 1 0),(19,.p 2 0),(21,.v (.slice (some ⟨ab,0,none⟩) ((lst ((T.at_ 6).at_ 0)).length) ae)),(22,.v (.int .i32 (((lst ((T.at_ 6).at_ 0)).length:Nat):Int))),(23,.v (.int .i32 ((ac:Nat):Int))),(24,.p 4 0),(130,.p 4 0)] cJ fun _ cK=>?_
     clear cJ
     refine qan (qkL (d:=131) (vs:=[.pointer (some ⟨ab,ac * 18,none⟩)]) cK (fun _=>qlR _ _ _) Tryz.call186 fun _ cL=>?_)
     clear cK
     refine qaf ?_
     have cM:=cL.pk (env':=[(7,.p 0 0),(9,.v (.bool (decide (v ≥ 0)))),(10,.p 1 0),(19,.p 2 0),(21,.v (.slice (some ⟨ab,0,none⟩) ((lst ((T.at_ 6).at_ 0)).length) ae)),(22,.v (.int .i32 (((lst ((T.at_ 6).at_ 0)).length:Nat):Int))),(23,.v (.int .i32 ((ac:Nat):Int))),(24,.p 4 0)])
     clear cL
     refine qab (wp_seq (qbK [(7,.p 0 0),(9,.v (.bool (decide (v ≥ 0)))),(10,.p 1 0),(19,.p 2 0),(21,.v (.slice (some ⟨ab,0,none⟩) ((lst ((T.at_ 6).at_ 0)).length) ae)),(22,.v (.int .i32 (((lst ((T.at_ 6).at_ 0)).length:Nat):Int))),(23,.v (.int .i32 ((ac:Nat):Int))),(25,.p 4 0)] cM fun _ cN=>?_))
     clear cM
     refine qab (wp_seq (wp_seq (qas [0,1,2] kz ?_)))
     have cO:=cN.cast cG
     clear cN
     refine qan (qgc (d:=133) cO (qmg (aa.at_ 0).S _) Tryz.call168 fun _ _ cP=>?_)
     clear cO
     refine qan (qhK (d:=26) z39 cP fun ew _ _ hb_b201 cQ=>?_)
     clear cP
     have cR:=(cQ.tbEq (tb':=[⟨bv,0,(z0 v T aj ak af),true⟩,⟨af,0,[.slice none 0 0,.map none],true⟩,qbH ab 18 (.agg #[.int .u8 0,.int .u8 0,.int .u8 0,.int .u8 0,.int .u8 0,.int .u8 0,.int .u8 0,.int .u8 0,.int .u8 0,.int .u8 0,.int .u8 0,.int .u8 0,.int .u8 0,.int .u8 0,.int .u8 0,.int .u8 0,.slice none 0 0,.map none]) ((lst ((T.at_ 6).at_ 0)).length) (ac + 1),⟨ab,ac * 18,z18,true⟩,⟨ew,0,z39,true⟩]) rfl).pk (env':=[(7,.p 0 0),(9,.v (.bool (decide (v ≥ 0)))),(10,.p 1 0),(19,.p 2 0),(21,.v (.slice (some ⟨ab,0,none⟩) ((lst ((T.at_ 6).at_ 0)).length) ae)),(22,.v (.int .i32 (((lst ((T.at_ 6).at_ 0)).length:Nat):Int))),(23,.v (.int .i32 ((ac:Nat):Int))),(25,.p 4 0),(133,.v (.agg #[qad ((qah (aa.at_ 0).S).getD 0 0),qad ((qah (aa.at_ 0).S).getD 1 0),qad ((qah (aa.at_ 0).S).getD 2 0),qad ((qah (aa.at_ 0).S).getD 3 0),qad ((qah (aa.at_ 0).S).getD 4 0),qad ((qah (aa.at_ 0).S).getD 5 0),qad ((qah (aa.at_ 0).S).getD 6 0),qad ((qah (aa.at_ 0).S).getD 7 0),qad ((qah (aa.at_ 0).S).getD 8 0),qad ((qah (aa.at_ 0).S).getD 9 0),qad ((qah (aa.at_ 0).S).getD 10 0),qad ((qah (aa.at_ 0).S).getD 11 0),qad ((qah (aa.at_ 0).S).getD 12 0),qad ((qah (aa.at_ 0).S).getD 13 0),qad ((qah (aa.at_ 0).S).getD 14 0),qad ((qah (aa.at_ 0).S).getD 15 0)])),(26,.p 5 0)])
     clear cQ
     refine qan (qd0 [⟨bv,0,(z0 v T aj ak af),true⟩,⟨af,0,[.slice none 0 0,.map none],true⟩,qbH ab 18 (.agg #[.int .u8 0,.int .u8 0,.int .u8 0,.int .u8 0,.int .u8 0,.int .u8 0,.int .u8 0,.int .u8 0,.int .u8 0,.int .u8 0,.int .u8 0,.int .u8 0,.int .u8 0,.int .u8 0,.int .u8 0,.int .u8 0,.slice none 0 0,.map none]) ((lst ((T.at_ 6).at_ 0)).length) (ac + 1),⟨ab,ac * 18,z18,true⟩,⟨ew,0,[qad ((qah (aa.at_ 0).S).getD 0 0),qad ((qah (aa.at_ 0).S).getD 1 0),qad ((qah (aa.at_ 0).S).getD 2 0),qad ((qah (aa.at_ 0).S).getD 3 0),qad ((qah (aa.at_ 0).S).getD 4 0),qad ((qah (aa.at_ 0).S).getD 5 0),qad ((qah (aa.at_ 0).S).getD 6 0),qad ((qah (aa.at_ 0).S).getD 7 0),qad ((qah (aa.at_ 0).S).getD 8 0),qad ((qah (aa.at_ 0).S).getD 9 0),qad ((qah (aa.at_ 0).S).getD 10 0),qad ((qah (aa.at_ 0).S).getD 11 0),qad ((qah (aa.at_ 0).S).getD 12 0),qad ((qah (aa.at_ 0).S).getD 13 0),qad ((qah (aa.at_ 0).S).getD 14 0),qad ((qah (aa.at_ 0).S).getD 15 0)],true⟩] 4 cR fun _ cS=>?_)
     clear cR
     refine qaf ?_
     have cT:=cS.pk (env':=[(7,.p 0 0),(9,.v (.bool (decide (v ≥ 0)))),(10,.p 1 0),(19,.p 2 0),(21,.v (.slice (some ⟨ab,0,none⟩) ((lst ((T.at_ 6).at_ 0)).length) ae)),(22,.v (.int .i32 (((lst ((T.at_ 6).at_ 0)).length:Nat):Int))),(23,.v (.int .i32 ((ac:Nat):Int))),(25,.p 4 0),(26,.p 5 0)])
     clear cS
     refine qab (qez [⟨bv,0,(z0 v T aj ak af),true⟩,⟨af,0,[.slice none 0 0,.map none],true⟩,qbH ab 18 (.agg #[.int .u8 0,.int .u8 0,.int .u8 0,.int .u8 0,.int .u8 0,.int .u8 0,.int .u8 0,.int .u8 0,.int .u8 0,.int .u8 0,.int .u8 0,.int .u8 0,.int .u8 0,.int .u8 0,.int .u8 0,.int .u8 0,.slice none 0 0,.map none]) ((lst ((T.at_ 6).at_ 0)).length) (ac + 1),⟨ab,ac * 18,[qad ((qah (aa.at_ 0).S).getD 0 0),qad ((qah (aa.at_ 0).S).getD 1 0),qad ((qah (aa.at_ 0).S).getD 2 0),qad ((qah (aa.at_ 0).S).getD 3 0),qad ((qah (aa.at_ 0).S).getD 4 0),qad ((qah (aa.at_ 0).S).getD 5 0),qad ((qah (aa.at_ 0).S).getD 6 0),qad ((qah (aa.at_ 0).S).getD 7 0),qad ((qah (aa.at_ 0).S).getD 8 0),qad ((qah (aa.at_ 0).S).getD 9 0),qad ((qah (aa.at_ 0).S).getD 10 0),qad ((qah (aa.at_ 0).S).getD 11 0),qad ((qah (aa.at_ 0).S).getD 12 0),qad ((qah (aa.at_ 0).S).getD 13 0),qad ((qah (aa.at_ 0).S).getD 14 0),qad ((qah (aa.at_ 0).S).getD 15 0),.slice none 0 0,.map none],true⟩,⟨ew,0,[qad ((qah (aa.at_ 0).S).getD 0 0),qad ((qah (aa.at_ 0).S).getD 1 0),qad ((qah (aa.at_ 0).S).getD 2 0),qad ((qah (aa.at_ 0).S).getD 3 0),qad ((qah (aa.at_ 0).S).getD 4 0),qad ((qah (aa.at_ 0).S).getD 5 0),qad ((qah (aa.at_ 0).S).getD 6 0),qad ((qah (aa.at_ 0).S).getD 7 0),qad ((qah (aa.at_ 0).S).getD 8 0),qad ((qah (aa.at_ 0).S).getD 9 0),qad ((qah (aa.at_ 0).S).getD 10 0),qad ((qah (aa.at_ 0).S).getD 11 0),qad ((qah (aa.at_ 0).S).getD 12 0),qad ((qah (aa.at_ 0).S).getD 13 0),qad ((qah (aa.at_ 0).S).getD 14 0),qad ((qah (aa.at_ 0).S).getD 15 0)],true⟩] 3 [(7,.p 0 0),(9,.v (.bool (decide (v ≥ 0)))),(10,.p 1 0),(19,.p 2 0),(21,.v (.slice (some ⟨ab,0,none⟩) ((lst ((T.at_ 6).at_ 0)).length) ae)),(22,.v (.int .i32 (((lst ((T.at_ 6).at_ 0)).length:Nat):Int))),(23,.v (.int .i32 ((ac:Nat):Int))),(25,.p 4 0)] cT fun _ _ cU=>?_)
     clear cT
     have cV:=RS.dropT (tb:=(z2 bv v T aj ak af ab ac aa)) cU hb_b201 kz
     clear cU
     refine qab (wp_seq (wp_seq (qbK [(7,.p 0 0),(9,.v (.bool (decide (v ≥ 0)))),(10,.p 1 0),(19,.p 2 0),(21,.v (.slice (some ⟨ab,0,none⟩) ((lst ((T.at_ 6).at_ 0)).length) ae)),(22,.v (.int .i32 (((lst ((T.at_ 6).at_ 0)).length:Nat):Int))),(23,.v (.int .i32 ((ac:Nat):Int))),(25,.p 4 0),(27,.v (.slice none 0 0))] cV fun _ cW=>?_)))
     clear cV
     refine qab (wp_seq (qbK [(7,.p 0 0),(9,.v (.bool (decide (v ≥ 0)))),(10,.p 1 0),(19,.p 2 0),(21,.v (.slice (some ⟨ab,0,none⟩) ((lst ((T.at_ 6).at_ 0)).length) ae)),(22,.v (.int .i32 (((lst ((T.at_ 6).at_ 0)).length:Nat):Int))),(23,.v (.int .i32 ((ac:Nat):Int))),(25,.p 4 0),(28,.v (.slice none 0 0))] cW fun _ cX=>?_))
     clear cW
     refine qab (wp_seq (qbK [(7,.p 0 0),(9,.v (.bool (decide (v ≥ 0)))),(10,.p 1 0),(19,.p 2 0),(21,.v (.slice (some ⟨ab,0,none⟩) ((lst ((T.at_ 6).at_ 0)).length) ae)),(22,.v (.int .i32 (((lst ((T.at_ 6).at_ 0)).length:Nat):Int))),(23,.v (.int .i32 ((ac:Nat):Int))),(25,.p 4 0),(28,.v (.slice none 0 0))] cX fun _ cY=>?_))
     clear cX
     refine qab (wp_seq ?_)
     have cZ:=cY.cast cE
     clear cY
     have c5:=cZ.cast (t:=(if (decide (v ≥ 0)) = true then (uv ((lst (aa.at_ 1)).length + 1)) else (be 4 (lst (aa.at_ 1)).length)) ++ (((lst (aa.at_ 1)).flatMap (fun E=>be 4 (IntKind.i32.wrap E.N))) ++ az)) (by rw [List.append_assoc])
     clear cZ
     refine qjG (d1:=144) (d2:=145) [(7,.p 0 0),(9,.v (.bool (decide (v ≥ 0)))),(10,.p 1 0),(19,.p 2 0),(21,.v (.slice (some ⟨ab,0,none⟩) ((lst ((T.at_ 6).at_ 0)).length) ae)),(22,.v (.int .i32 (((lst ((T.at_ 6).at_ 0)).length:Nat):Int))),(23,.v (.int .i32 ((ac:Nat):Int))),(25,.p 4 0),(28,.v (.slice none 0 0)),(143,.v (.bool (decide (v ≥ 0))))] [(7,.p 0 0),(9,.v (.bool (decide (v ≥ 0)))),(10,.p 1 0),(19,.p 2 0),(21,.v (.slice (some ⟨ab,0,none⟩) ((lst ((T.at_ 6).at_ 0)).length) ae)),(22,.v (.int .i32 (((lst ((T.at_ 6).at_ 0)).length:Nat):Int))),(23,.v (.int .i32 ((ac:Nat):Int))),(25,.p 4 0),(28,.v (.slice none 0 0)),(29,.v (.int .i32 (((lst (aa.at_ 1)).length:Nat):Int)))] c5 (qdv ((lst (aa.at_ 1)).length) e183_1 _ (flat_ge' (fun E=>qkK (by decide)) _)) Tryz.call146 (qgV ((lst (aa.at_ 1)).length) e183_1 _ (flat_ge' (fun E=>qkK (by decide)) _)) Tryz.call147 fun _ _ c6=>?_
     clear c5
     refine qab (wp_seq (wp_seq (qlI (d:=146) [(7,.p 0 0),(9,.v (.bool (decide (v ≥ 0)))),(10,.p 1 0),(19,.p 2 0),(21,.v (.slice (some ⟨ab,0,none⟩) ((lst ((T.at_ 6).at_ 0)).length) ae)),(22,.v (.int .i32 (((lst ((T.at_ 6).at_ 0)).length:Nat):Int))),(23,.v (.int .i32 ((ac:Nat):Int))),(25,.p 4 0),(28,.v (.slice none 0 0)),(29,.v (.int .i32 (((lst (aa.at_ 1)).length:Nat):Int))),(147,.v (.bool false))] c6 (pOk _) Tryz.call148 fun _ _ aY=>?_)))
     clear c6
     refine qab (qar aY.env_ (b:=false) kz (rfl) ?_)
     refine wp_skip (qab (wp_seq (qjL (t:=160) (e:=21) (size:=1) (bytes:=4) (d:=150) (A0:=none) (m:=0) (cp:=0) [(7,.p 0 0),(9,.v (.bool (decide (v ≥ 0)))),(10,.p 1 0),(19,.p 2 0),(21,.v (.slice (some ⟨ab,0,none⟩) ((lst ((T.at_ 6).at_ 0)).length) ae)),(22,.v (.int .i32 (((lst ((T.at_ 6).at_ 0)).length:Nat):Int))),(23,.v (.int .i32 ((ac:Nat):Int))),(25,.p 4 0),(29,.v (.int .i32 (((lst (aa.at_ 1)).length:Nat):Int))),(149,.v (.slice none 0 0))] [(7,.p 0 0),(9,.v (.bool (decide (v ≥ 0)))),(10,.p 1 0),(19,.p 2 0),(21,.v (.slice (some ⟨ab,0,none⟩) ((lst ((T.at_ 6).at_ 0)).length) ae)),(22,.v (.int .i32 (((lst ((T.at_ 6).at_ 0)).length:Nat):Int))),(23,.v (.int .i32 ((ac:Nat):Int))),(25,.p 4 0),(28,.v (.slice none 0 0)),(29,.v (.int .i32 (((lst (aa.at_ 1)).length:Nat):Int)))] 1 aY fun _ da=>?_)))
     clear aY
     refine qab (qhL (Mid:=fun a_ w_=>∃ (ah:DV) (P':qcj),(∀ w F,P' w F → fx w F ∧ (Slots w F 1 ah.A ah.c ah.l (fun i=>[.int .i32 ((ah.f i).n)]) ∧ ah.l ≤ 1000000 ∧ ∀ i,i < ah.l → True) ∧ (ah.l = (lst (aa.at_ 1)).length ∧ ∀ i,i < ah.l → (ah.f i).n = IntKind.i32.wrap ((lst (aa.at_ 1)).getD i .zero).N)) ∧ RS w (fun b o=>b = bv ∧ o < 9) F 192 bg [⟨bv,0,[.int .i16 v,.int .i32 (IntKind.i32.wrap (T.at_ 0).N),.int .i16 (IntKind.i16.wrap (T.at_ 1).N),.pointer aj,.pointer ak,.int .i32 (IntKind.i32.wrap (T.at_ 4).N),.int .i32 (IntKind.i32.wrap (T.at_ 5).N),.pointer (some ⟨af,0,none⟩),.map none],true⟩,⟨af,0,[.slice none 0 0,.map none],true⟩,qbH ab 18 (.agg #[.int .u8 0,.int .u8 0,.int .u8 0,.int .u8 0,.int .u8 0,.int .u8 0,.int .u8 0,.int .u8 0,.int .u8 0,.int .u8 0,.int .u8 0,.int .u8 0,.int .u8 0,.int .u8 0,.int .u8 0,.int .u8 0,.slice none 0 0,.map none]) ((lst ((T.at_ 6).at_ 0)).length) (ac + 1),⟨ab,ac * 18,[qad ((qah (aa.at_ 0).S).getD 0 0),qad ((qah (aa.at_ 0).S).getD 1 0),qad ((qah (aa.at_ 0).S).getD 2 0),qad ((qah (aa.at_ 0).S).getD 3 0),qad ((qah (aa.at_ 0).S).getD 4 0),qad ((qah (aa.at_ 0).S).getD 5 0),qad ((qah (aa.at_ 0).S).getD 6 0),qad ((qah (aa.at_ 0).S).getD 7 0),qad ((qah (aa.at_ 0).S).getD 8 0),qad ((qah (aa.at_ 0).S).getD 9 0),qad ((qah (aa.at_ 0).S).getD 10 0),qad ((qah (aa.at_ 0).S).getD 11 0),qad ((qah (aa.at_ 0).S).getD 12 0),qad ((qah (aa.at_ 0).S).getD 13 0),qad ((qah (aa.at_ 0).S).getD 14 0),qad ((qah (aa.at_ 0).S).getD 15 0),.slice none 0 0,.map none],true⟩] [(7,.p 0 0),(9,.v (.bool (decide (v ≥ 0)))),(10,.p 1 0),(19,.p 2 0),(21,.v (.slice (some ⟨ab,0,none⟩) ((lst ((T.at_ 6).at_ 0)).length) ae)),(22,.v (.int .i32 (((lst ((T.at_ 6).at_ 0)).length:Nat):Int))),(23,.v (.int .i32 ((ac:Nat):Int))),(25,.p 4 0),(28,.v (.slice ah.A ah.l ah.c))] P' az a_ w_) ?_ ?_)
     ·
      refine wp_seq (qbK [(7,.p 0 0),(9,.v (.bool (decide (v ≥ 0)))),(10,.p 1 0),(19,.p 2 0),(21,.v (.slice (some ⟨ab,0,none⟩) ((lst ((T.at_ 6).at_ 0)).length) ae)),(22,.v (.int .i32 (((lst ((T.at_ 6).at_ 0)).length:Nat):Int))),(23,.v (.int .i32 ((ac:Nat):Int))),(25,.p 4 0),(28,.v (.slice none 0 0)),(29,.v (.int .i32 (((lst (aa.at_ 1)).length:Nat):Int))),(152,.v (.bool (decide ((((lst (aa.at_ 1)).length:Nat):Int) > 0))))] da fun _ aA=>qab ?_)
      clear da
      refine qay aA.env_ (b:=decide ((((lst (aa.at_ 1)).length:Nat):Int) > 0)) kz (fun aN=>?_) (fun aN=>?_)
      ·
       have hn_g224:0 < (lst (aa.at_ 1)).length:=by have h_:=of_decide_eq_true aN; omega
       refine qas [0,1,2,3] kz ?_
       refine qcH [0,1] [2,3] [(7,.p 0 0),(9,.v (.bool (decide (v ≥ 0)))),(10,.p 1 0),(19,.p 2 0),(21,.v (.slice (some ⟨ab,0,none⟩) ((lst ((T.at_ 6).at_ 0)).length) ae)),(22,.v (.int .i32 (((lst ((T.at_ 6).at_ 0)).length:Nat):Int))),(23,.v (.int .i32 ((ac:Nat):Int))),(25,.p 4 0),(29,.v (.int .i32 (((lst (aa.at_ 1)).length:Nat):Int))),(153,.v (.slice none 0 0)),(154,.v (.int .i32 (((lst (aa.at_ 1)).length:Nat):Int)))] aA fun _ db=>?_
       clear aA
       refine qan (qfQ (A0:=none) (d:=155) (t:=160) (tn:=21) (e:=21) (size:=1) (bytes:=4) (k:=.i32) (kn:=.i32) (q:=(((lst (aa.at_ 1)).length:Nat):Int)) (j:=(lst (aa.at_ 1)).length) (.int .i32 0) db (fun ai al _ _ hg_g224 hcap_g224 dc=>?_) rfl hn_g224 (by have:=e183_1; omega))
       clear db
       refine qcH [3] [] [(7,.p 0 0),(9,.v (.bool (decide (v ≥ 0)))),(10,.p 1 0),(19,.p 2 0),(21,.v (.slice (some ⟨ab,0,none⟩) ((lst ((T.at_ 6).at_ 0)).length) ae)),(22,.v (.int .i32 (((lst ((T.at_ 6).at_ 0)).length:Nat):Int))),(23,.v (.int .i32 ((ac:Nat):Int))),(25,.p 4 0),(28,.v (.slice (some ⟨ai,0,none⟩) ((lst (aa.at_ 1)).length) al)),(29,.v (.int .i32 (((lst (aa.at_ 1)).length:Nat):Int)))] dc fun _ de=>qaf ?_
       clear dc
       refine qab (wp_seq (qbK [(7,.p 0 0),(9,.v (.bool (decide (v ≥ 0)))),(10,.p 1 0),(19,.p 2 0),(21,.v (.slice (some ⟨ab,0,none⟩) ((lst ((T.at_ 6).at_ 0)).length) ae)),(22,.v (.int .i32 (((lst ((T.at_ 6).at_ 0)).length:Nat):Int))),(23,.v (.int .i32 ((ac:Nat):Int))),(25,.p 4 0),(28,.v (.slice (some ⟨ai,0,none⟩) ((lst (aa.at_ 1)).length) al)),(29,.v (.int .i32 (((lst (aa.at_ 1)).length:Nat):Int))),(30,.v (.int .i32 0))] de fun _ aZ=>?_))
       clear de
       refine qab (wp_block ?_)
       have ba:=aZ.mv
       have fz:=(aZ.cast (t:=(lst (aa.at_ 1)).flatMap (fun E=>be 4 (IntKind.i32.wrap E.N)) ++ az) rfl).pk (env':=[(7,.p 0 0),(9,.v (.bool (decide (v ≥ 0)))),(10,.p 1 0),(19,.p 2 0),(21,.v (.slice (some ⟨ab,0,none⟩) ((lst ((T.at_ 6).at_ 0)).length) ae)),(22,.v (.int .i32 (((lst ((T.at_ 6).at_ 0)).length:Nat):Int))),(23,.v (.int .i32 ((ac:Nat):Int))),(25,.p 4 0),(28,.v (.slice (some ⟨ai,0,none⟩) ((lst (aa.at_ 1)).length) al)),(29,.v (.int .i32 (((lst (aa.at_ 1)).length:Nat):Int))),(30,.v (.int .i32 ((0:Nat):Int)))])
       clear aZ
       refine qjH (tb:=(z2 bv v T aj ak af ab ac aa)) (z:=.int .i32 0) (cl:=(fun d=>[.int .i32 d.n])) (ok:=qjw) (rel:=(fun d t=>d.n = IntKind.i32.wrap t.N)) (L:=lst (aa.at_ 1)) (size:=1) (fun E=>be 4 (IntKind.i32.wrap E.N)) az (fun k=>[(7,.p 0 0),(9,.v (.bool (decide (v ≥ 0)))),(10,.p 1 0),(19,.p 2 0),(21,.v (.slice (some ⟨ab,0,none⟩) ((lst ((T.at_ 6).at_ 0)).length) ae)),(22,.v (.int .i32 (((lst ((T.at_ 6).at_ 0)).length:Nat):Int))),(23,.v (.int .i32 ((ac:Nat):Int))),(25,.p 4 0),(28,.v (.slice (some ⟨ai,0,none⟩) ((lst (aa.at_ 1)).length) al)),(29,.v (.int .i32 (((lst (aa.at_ 1)).length:Nat):Int))),(30,.v (.int .i32 ((k:Nat):Int)))]) fz qjx (fun am aH _ _ fA fB df=>?_) (fun _ _ dg=>?_)
       ·
        obtain ⟨gE,dh,di⟩:∃ P',(∀ w F,P' w F → (fx w F ∧ qfy ai 1 (fun d=>[.int .i32 d.n]) qjw (fun d t=>d.n = IntKind.i32.wrap t.N) (lst (aa.at_ 1)) am w F)) ∧ RS w (fun b o=>b = bv ∧ o < 9) F 192 bg [⟨bv,0,[.int .i16 v,.int .i32 (IntKind.i32.wrap (T.at_ 0).N),.int .i16 (IntKind.i16.wrap (T.at_ 1).N),.pointer aj,.pointer ak,.int .i32 (IntKind.i32.wrap (T.at_ 4).N),.int .i32 (IntKind.i32.wrap (T.at_ 5).N),.pointer (some ⟨af,0,none⟩),.map none],true⟩,⟨af,0,[.slice none 0 0,.map none],true⟩,qbH ab 18 (.agg #[.int .u8 0,.int .u8 0,.int .u8 0,.int .u8 0,.int .u8 0,.int .u8 0,.int .u8 0,.int .u8 0,.int .u8 0,.int .u8 0,.int .u8 0,.int .u8 0,.int .u8 0,.int .u8 0,.int .u8 0,.int .u8 0,.slice none 0 0,.map none]) ((lst ((T.at_ 6).at_ 0)).length) (ac + 1),⟨ab,ac * 18,[qad ((qah (aa.at_ 0).S).getD 0 0),qad ((qah (aa.at_ 0).S).getD 1 0),qad ((qah (aa.at_ 0).S).getD 2 0),qad ((qah (aa.at_ 0).S).getD 3 0),qad ((qah (aa.at_ 0).S).getD 4 0),qad ((qah (aa.at_ 0).S).getD 5 0),qad ((qah (aa.at_ 0).S).getD 6 0),qad ((qah (aa.at_ 0).S).getD 7 0),qad ((qah (aa.at_ 0).S).getD 8 0),qad ((qah (aa.at_ 0).S).getD 9 0),qad ((qah (aa.at_ 0).S).getD 10 0),qad ((qah (aa.at_ 0).S).getD 11 0),qad ((qah (aa.at_ 0).S).getD 12 0),qad ((qah (aa.at_ 0).S).getD 13 0),qad ((qah (aa.at_ 0).S).getD 14 0),qad ((qah (aa.at_ 0).S).getD 15 0),.slice none 0 0,.map none],true⟩,qbH ai 1 (.int .i32 0) ((lst (aa.at_ 1)).length) am] [(7,.p 0 0),(9,.v (.bool (decide (v ≥ 0)))),(10,.p 1 0),(19,.p 2 0),(21,.v (.slice (some ⟨ab,0,none⟩) ((lst ((T.at_ 6).at_ 0)).length) ae)),(22,.v (.int .i32 (((lst ((T.at_ 6).at_ 0)).length:Nat):Int))),(23,.v (.int .i32 ((ac:Nat):Int))),(25,.p 4 0),(28,.v (.slice (some ⟨ai,0,none⟩) ((lst (aa.at_ 1)).length) al)),(29,.v (.int .i32 (((lst (aa.at_ 1)).length:Nat):Int))),(30,.v (.int .i32 ((am:Nat):Int)))] P' ((fun E=>be 4 (IntKind.i32.wrap E.N)) aH ++ (((lst (aa.at_ 1)).drop (am + 1)).flatMap (fun E=>be 4 (IntKind.i32.wrap E.N)) ++ az)) _ _:=⟨_,fun _ _ h=>h,df⟩
        clear df
        obtain ⟨fC,dj⟩:∃ R,R = ((lst (aa.at_ 1)).drop (am + 1)).flatMap (fun E=>be 4 (IntKind.i32.wrap E.N)) ++ az:=⟨_,rfl⟩
        have dl:=di.cast (t:=(fun E=>be 4 (IntKind.i32.wrap E.N)) aH ++ fC) (by rw [dj])
        clear di
        have dp:=dl.cast (t:=(be 4 (IntKind.i32.wrap aH.N)) ++ fC) rfl
        clear dl
        refine wp_seq (wp_seq (qbK [(7,.p 0 0),(9,.v (.bool (decide (v ≥ 0)))),(10,.p 1 0),(19,.p 2 0),(21,.v (.slice (some ⟨ab,0,none⟩) ((lst ((T.at_ 6).at_ 0)).length) ae)),(22,.v (.int .i32 (((lst ((T.at_ 6).at_ 0)).length:Nat):Int))),(23,.v (.int .i32 ((ac:Nat):Int))),(25,.p 4 0),(28,.v (.slice (some ⟨ai,0,none⟩) ((lst (aa.at_ 1)).length) al)),(29,.v (.int .i32 (((lst (aa.at_ 1)).length:Nat):Int))),(30,.v (.int .i32 ((am:Nat):Int))),(158,.v (.bool (decide (((am:Nat):Int) < (((lst (aa.at_ 1)).length:Nat):Int)))))] dp fun _ bd=>qab ?_))
        clear dp
        refine qa2 bd.env_ (b:=decide (((am:Nat):Int) < (((lst (aa.at_ 1)).length:Nat):Int))) kz (decide_eq_true (by omega)) ?_
        refine wp_skip (qab (wp_seq (wp_block (wp_seq (qd8 (d:=161) [(7,.p 0 0),(9,.v (.bool (decide (v ≥ 0)))),(10,.p 1 0),(19,.p 2 0),(21,.v (.slice (some ⟨ab,0,none⟩) ((lst ((T.at_ 6).at_ 0)).length) ae)),(22,.v (.int .i32 (((lst ((T.at_ 6).at_ 0)).length:Nat):Int))),(23,.v (.int .i32 ((ac:Nat):Int))),(25,.p 4 0),(28,.v (.slice (some ⟨ai,0,none⟩) ((lst (aa.at_ 1)).length) al)),(29,.v (.int .i32 (((lst (aa.at_ 1)).length:Nat):Int))),(30,.v (.int .i32 ((am:Nat):Int))),(31,.v (.int .i32 (IntKind.i32.wrap aH.N)))] bd (qhP _ _) Tryz.call139 fun _ _ dq=>?_)))))
        clear bd
        refine qab (qas [0,1,2,3,4] kz ?_)
        refine qcH [0,1,2] [3,4] [(7,.p 0 0),(9,.v (.bool (decide (v ≥ 0)))),(10,.p 1 0),(19,.p 2 0),(21,.v (.slice (some ⟨ab,0,none⟩) ((lst ((T.at_ 6).at_ 0)).length) ae)),(22,.v (.int .i32 (((lst ((T.at_ 6).at_ 0)).length:Nat):Int))),(23,.v (.int .i32 ((ac:Nat):Int))),(25,.p 4 0),(28,.v (.slice (some ⟨ai,0,none⟩) ((lst (aa.at_ 1)).length) al)),(29,.v (.int .i32 (((lst (aa.at_ 1)).length:Nat):Int))),(30,.v (.int .i32 ((am:Nat):Int))),(162,.v (.slice (some ⟨ai,0,none⟩) ((lst (aa.at_ 1)).length) al)),(163,.v (.int .i32 ((am:Nat):Int))),(164,.v (.int .i32 (IntKind.i32.wrap aH.N)))] dq fun _ dr=>?_
        clear dq
        refine qan (qhO (t:=160) (e:=21) (size:=1) (bytes:=4) (d:=165) (tb:=(z2 bv v T aj ak af ab ac aa)) (z:=.int .i32 0) dr fB rfl kz fun _ dt=>?_)
        clear dr
        refine qan (qd0 [⟨bv,0,(z0 v T aj ak af),true⟩,⟨af,0,[.slice none 0 0,.map none],true⟩,qbH ab 18 (.agg #[.int .u8 0,.int .u8 0,.int .u8 0,.int .u8 0,.int .u8 0,.int .u8 0,.int .u8 0,.int .u8 0,.int .u8 0,.int .u8 0,.int .u8 0,.int .u8 0,.int .u8 0,.int .u8 0,.int .u8 0,.int .u8 0,.slice none 0 0,.map none]) ((lst ((T.at_ 6).at_ 0)).length) (ac + 1),⟨ab,ac * 18,[qad ((qah (aa.at_ 0).S).getD 0 0),qad ((qah (aa.at_ 0).S).getD 1 0),qad ((qah (aa.at_ 0).S).getD 2 0),qad ((qah (aa.at_ 0).S).getD 3 0),qad ((qah (aa.at_ 0).S).getD 4 0),qad ((qah (aa.at_ 0).S).getD 5 0),qad ((qah (aa.at_ 0).S).getD 6 0),qad ((qah (aa.at_ 0).S).getD 7 0),qad ((qah (aa.at_ 0).S).getD 8 0),qad ((qah (aa.at_ 0).S).getD 9 0),qad ((qah (aa.at_ 0).S).getD 10 0),qad ((qah (aa.at_ 0).S).getD 11 0),qad ((qah (aa.at_ 0).S).getD 12 0),qad ((qah (aa.at_ 0).S).getD 13 0),qad ((qah (aa.at_ 0).S).getD 14 0),qad ((qah (aa.at_ 0).S).getD 15 0),.slice none 0 0,.map none],true⟩,qbH ai 1 (.int .i32 0) ((lst (aa.at_ 1)).length) (am + 1),⟨ai,am * 1,[.int .i32 (IntKind.i32.wrap aH.N)],true⟩] 5 dt fun _ du=>qaf ?_)
        clear dt
        have dv:=du.pk (env':=[(7,.p 0 0),(9,.v (.bool (decide (v ≥ 0)))),(10,.p 1 0),(19,.p 2 0),(21,.v (.slice (some ⟨ab,0,none⟩) ((lst ((T.at_ 6).at_ 0)).length) ae)),(22,.v (.int .i32 (((lst ((T.at_ 6).at_ 0)).length:Nat):Int))),(23,.v (.int .i32 ((ac:Nat):Int))),(25,.p 4 0),(28,.v (.slice (some ⟨ai,0,none⟩) ((lst (aa.at_ 1)).length) al)),(29,.v (.int .i32 (((lst (aa.at_ 1)).length:Nat):Int))),(30,.v (.int .i32 ((am:Nat):Int)))])
        clear du
        refine qau (qab (qbK [(7,.p 0 0),(9,.v (.bool (decide (v ≥ 0)))),(10,.p 1 0),(19,.p 2 0),(21,.v (.slice (some ⟨ab,0,none⟩) ((lst ((T.at_ 6).at_ 0)).length) ae)),(22,.v (.int .i32 (((lst ((T.at_ 6).at_ 0)).length:Nat):Int))),(23,.v (.int .i32 ((ac:Nat):Int))),(25,.p 4 0),(28,.v (.slice (some ⟨ai,0,none⟩) ((lst (aa.at_ 1)).length) al)),(29,.v (.int .i32 (((lst (aa.at_ 1)).length:Nat):Int))),(30,.v (.int .i32 (IntKind.i32.wrap (((am:Nat):Int) + 1))))] dv fun _ dw=>?_))
        clear dv
        refine qab ?_
        have fD:=(dw.envEq (env':=[(7,.p 0 0),(9,.v (.bool (decide (v ≥ 0)))),(10,.p 1 0),(19,.p 2 0),(21,.v (.slice (some ⟨ab,0,none⟩) ((lst ((T.at_ 6).at_ 0)).length) ae)),(22,.v (.int .i32 (((lst ((T.at_ 6).at_ 0)).length:Nat):Int))),(23,.v (.int .i32 ((ac:Nat):Int))),(25,.p 4 0),(28,.v (.slice (some ⟨ai,0,none⟩) ((lst (aa.at_ 1)).length) al)),(29,.v (.int .i32 (((lst (aa.at_ 1)).length:Nat):Int))),(30,.v (.int .i32 ((am + 1:Nat):Int)))]) (by rw [qhN (by have:=e183_1; omega)])).pk (env':=[(7,.p 0 0),(9,.v (.bool (decide (v ≥ 0)))),(10,.p 1 0),(19,.p 2 0),(21,.v (.slice (some ⟨ab,0,none⟩) ((lst ((T.at_ 6).at_ 0)).length) ae)),(22,.v (.int .i32 (((lst ((T.at_ 6).at_ 0)).length:Nat):Int))),(23,.v (.int .i32 ((ac:Nat):Int))),(25,.p 4 0),(28,.v (.slice (some ⟨ai,0,none⟩) ((lst (aa.at_ 1)).length) al)),(29,.v (.int .i32 (((lst (aa.at_ 1)).length:Nat):Int))),(30,.v (.int .i32 ((am + 1:Nat):Int)))])
        clear dw
        exact (RS.thing (tb:=[⟨bv,0,[.int .i16 v,.int .i32 (IntKind.i32.wrap (T.at_ 0).N),.int .i16 (IntKind.i16.wrap (T.at_ 1).N),.pointer aj,.pointer ak,.int .i32 (IntKind.i32.wrap (T.at_ 4).N),.int .i32 (IntKind.i32.wrap (T.at_ 5).N),.pointer (some ⟨af,0,none⟩),.map none],true⟩,⟨af,0,[.slice none 0 0,.map none],true⟩,qbH ab 18 (.agg #[.int .u8 0,.int .u8 0,.int .u8 0,.int .u8 0,.int .u8 0,.int .u8 0,.int .u8 0,.int .u8 0,.int .u8 0,.int .u8 0,.int .u8 0,.int .u8 0,.int .u8 0,.int .u8 0,.int .u8 0,.int .u8 0,.slice none 0 0,.map none]) ((lst ((T.at_ 6).at_ 0)).length) (ac + 1),⟨ab,ac * 18,[qad ((qah (aa.at_ 0).S).getD 0 0),qad ((qah (aa.at_ 0).S).getD 1 0),qad ((qah (aa.at_ 0).S).getD 2 0),qad ((qah (aa.at_ 0).S).getD 3 0),qad ((qah (aa.at_ 0).S).getD 4 0),qad ((qah (aa.at_ 0).S).getD 5 0),qad ((qah (aa.at_ 0).S).getD 6 0),qad ((qah (aa.at_ 0).S).getD 7 0),qad ((qah (aa.at_ 0).S).getD 8 0),qad ((qah (aa.at_ 0).S).getD 9 0),qad ((qah (aa.at_ 0).S).getD 10 0),qad ((qah (aa.at_ 0).S).getD 11 0),qad ((qah (aa.at_ 0).S).getD 12 0),qad ((qah (aa.at_ 0).S).getD 13 0),qad ((qah (aa.at_ 0).S).getD 14 0),qad ((qah (aa.at_ 0).S).getD 15 0),.slice none 0 0,.map none],true⟩]) (z:=.int .i32 0) (D:=dvN (IntKind.i32.wrap aH.N)) (fD.cast dj) hg_g224 fA qjx ba rfl (fun w F h_=>⟨(dh _ _ h_).1,(dh _ _ h_).2,trivial,rfl⟩) kz)
       refine wp_seq (wp_seq (qbK [(7,.p 0 0),(9,.v (.bool (decide (v ≥ 0)))),(10,.p 1 0),(19,.p 2 0),(21,.v (.slice (some ⟨ab,0,none⟩) ((lst ((T.at_ 6).at_ 0)).length) ae)),(22,.v (.int .i32 (((lst ((T.at_ 6).at_ 0)).length:Nat):Int))),(23,.v (.int .i32 ((ac:Nat):Int))),(25,.p 4 0),(28,.v (.slice (some ⟨ai,0,none⟩) ((lst (aa.at_ 1)).length) al)),(29,.v (.int .i32 (((lst (aa.at_ 1)).length:Nat):Int))),(30,.v (.int .i32 (((lst (aa.at_ 1)).length:Nat):Int))),(158,.v (.bool (decide ((((lst (aa.at_ 1)).length:Nat):Int) < (((lst (aa.at_ 1)).length:Nat):Int)))))] dg fun _ dx=>qab ?_))
       clear dg
       refine qar dx.env_ (b:=decide ((((lst (aa.at_ 1)).length:Nat):Int) < (((lst (aa.at_ 1)).length:Nat):Int))) kz (decide_eq_false (by omega)) ?_
       refine wp_exit (qaC (qaC (qaS (qab ?_))))
       obtain ⟨gj,fE⟩:=RS.listEnd (tb:=(z2 bv v T aj ak af ab ac aa)) (c:=al) (dx.pk (env':=[(7,.p 0 0),(9,.v (.bool (decide (v ≥ 0)))),(10,.p 1 0),(19,.p 2 0),(21,.v (.slice (some ⟨ab,0,none⟩) ((lst ((T.at_ 6).at_ 0)).length) ae)),(22,.v (.int .i32 (((lst ((T.at_ 6).at_ 0)).length:Nat):Int))),(23,.v (.int .i32 ((ac:Nat):Int))),(25,.p 4 0),(28,.v (.slice (some ⟨ai,0,none⟩) ((lst (aa.at_ 1)).length) al))])) hg_g224 qjx ba hcap_g224 (by have:=e183_1; omega) hn_g224 kz
       exact ⟨dvL (some ⟨ai,0,none⟩) (lst (aa.at_ 1)).length al gj,_,fun w F h_=>⟨h_.1,⟨h_.2.1,Nat.le_trans e183_1 (by decide),h_.2.2.1⟩,⟨rfl,h_.2.2.2⟩⟩,fE⟩
      refine wp_skip (qab (wp_seq (qbK [(7,.p 0 0),(9,.v (.bool (decide (v ≥ 0)))),(10,.p 1 0),(19,.p 2 0),(21,.v (.slice (some ⟨ab,0,none⟩) ((lst ((T.at_ 6).at_ 0)).length) ae)),(22,.v (.int .i32 (((lst ((T.at_ 6).at_ 0)).length:Nat):Int))),(23,.v (.int .i32 ((ac:Nat):Int))),(25,.p 4 0),(28,.v (.slice none 0 0)),(29,.v (.int .i32 (((lst (aa.at_ 1)).length:Nat):Int))),(30,.v (.int .i32 0))] aA fun _ dy=>?_)))
      clear aA
      refine qab (wp_block (qgd (wp_seq (wp_seq (qbK [(7,.p 0 0),(9,.v (.bool (decide (v ≥ 0)))),(10,.p 1 0),(19,.p 2 0),(21,.v (.slice (some ⟨ab,0,none⟩) ((lst ((T.at_ 6).at_ 0)).length) ae)),(22,.v (.int .i32 (((lst ((T.at_ 6).at_ 0)).length:Nat):Int))),(23,.v (.int .i32 ((ac:Nat):Int))),(25,.p 4 0),(28,.v (.slice none 0 0)),(29,.v (.int .i32 (((lst (aa.at_ 1)).length:Nat):Int))),(30,.v (.int .i32 0)),(158,.v (.bool (decide (0 < (((lst (aa.at_ 1)).length:Nat):Int)))))] dy fun _ dz=>qab ?_)))))
      clear dy
      refine qar dz.env_ (b:=decide (0 < (((lst (aa.at_ 1)).length:Nat):Int))) kz (decide_eq_false (by have h_:=of_decide_eq_false aN; omega)) ?_
      refine wp_exit (qaC (qaC (qaS (qab ?_))))
      have hz_:(lst (aa.at_ 1)).length = 0:=by have h_:=of_decide_eq_false aN; omega
      exact ⟨dvL none 0 0 (fun _=>dv0),_,fun w F h_=>⟨h_,⟨Slots.nil _ _ _ _,Nat.zero_le _,fun _ h=>absurd h (Nat.not_lt_zero _)⟩,⟨hz_.symm,fun _ h=>absurd h (Nat.not_lt_zero _)⟩⟩,(dz.cast (t:=az) (by rw [List.eq_nil_of_length_eq_zero hz_]; rfl)).pk (env':=[(7,.p 0 0),(9,.v (.bool (decide (v ≥ 0)))),(10,.p 1 0),(19,.p 2 0),(21,.v (.slice (some ⟨ab,0,none⟩) ((lst ((T.at_ 6).at_ 0)).length) ae)),(22,.v (.int .i32 (((lst ((T.at_ 6).at_ 0)).length:Nat):Int))),(23,.v (.int .i32 ((ac:Nat):Int))),(25,.p 4 0),(28,.v (.slice none 0 0))])⟩
     rintro _ _ ⟨ah,gk,aO,dA⟩
     refine wp_seq (qbK [(7,.p 0 0),(9,.v (.bool (decide (v ≥ 0)))),(10,.p 1 0),(19,.p 2 0),(21,.v (.slice (some ⟨ab,0,none⟩) ((lst ((T.at_ 6).at_ 0)).length) ae)),(22,.v (.int .i32 (((lst ((T.at_ 6).at_ 0)).length:Nat):Int))),(23,.v (.int .i32 ((ac:Nat):Int))),(25,.p 4 0),(27,.v (.slice ah.A ah.l ah.c))] dA fun _ dB=>?_)
     clear dA
     refine qab (qez [⟨bv,0,(z0 v T aj ak af),true⟩,⟨af,0,[.slice none 0 0,.map none],true⟩,qbH ab 18 (.agg #[.int .u8 0,.int .u8 0,.int .u8 0,.int .u8 0,.int .u8 0,.int .u8 0,.int .u8 0,.int .u8 0,.int .u8 0,.int .u8 0,.int .u8 0,.int .u8 0,.int .u8 0,.int .u8 0,.int .u8 0,.int .u8 0,.slice none 0 0,.map none]) ((lst ((T.at_ 6).at_ 0)).length) (ac + 1),⟨ab,ac * 18,[qad ((qah (aa.at_ 0).S).getD 0 0),qad ((qah (aa.at_ 0).S).getD 1 0),qad ((qah (aa.at_ 0).S).getD 2 0),qad ((qah (aa.at_ 0).S).getD 3 0),qad ((qah (aa.at_ 0).S).getD 4 0),qad ((qah (aa.at_ 0).S).getD 5 0),qad ((qah (aa.at_ 0).S).getD 6 0),qad ((qah (aa.at_ 0).S).getD 7 0),qad ((qah (aa.at_ 0).S).getD 8 0),qad ((qah (aa.at_ 0).S).getD 9 0),qad ((qah (aa.at_ 0).S).getD 10 0),qad ((qah (aa.at_ 0).S).getD 11 0),qad ((qah (aa.at_ 0).S).getD 12 0),qad ((qah (aa.at_ 0).S).getD 13 0),qad ((qah (aa.at_ 0).S).getD 14 0),qad ((qah (aa.at_ 0).S).getD 15 0),.slice ah.A ah.l ah.c,.map none],true⟩] 3 [(7,.p 0 0),(9,.v (.bool (decide (v ≥ 0)))),(10,.p 1 0),(19,.p 2 0),(21,.v (.slice (some ⟨ab,0,none⟩) ((lst ((T.at_ 6).at_ 0)).length) ae)),(22,.v (.int .i32 (((lst ((T.at_ 6).at_ 0)).length:Nat):Int))),(23,.v (.int .i32 ((ac:Nat):Int))),(25,.p 4 0)] dB fun _ _ dC=>?_)
     clear dB
     refine qab ?_
     have dD:=dC.cast cD
     clear dC
     refine qd1 (Mid:=fun a_ w_=>∃ (bj:Option Nat) (aI:List (Int × Bs)) (P':qcj),(∀ w F,P' w F → gk w F ∧ (MapR w F bj aI ∧ aI.length ≤ 1000000 ∧ ∀ x ∈ aI,x.2.length < 4294967296) ∧ ((decide (v ≥ 0)) = true → aI = aa.U) ∧ ((decide (v ≥ 0)) = false → aI = [])) ∧ RS w (fun b o=>b = bv ∧ o < 9) F 192 bg [⟨bv,0,[.int .i16 v,.int .i32 (IntKind.i32.wrap (T.at_ 0).N),.int .i16 (IntKind.i16.wrap (T.at_ 1).N),.pointer aj,.pointer ak,.int .i32 (IntKind.i32.wrap (T.at_ 4).N),.int .i32 (IntKind.i32.wrap (T.at_ 5).N),.pointer (some ⟨af,0,none⟩),.map none],true⟩,⟨af,0,[.slice none 0 0,.map none],true⟩,qbH ab 18 (.agg #[.int .u8 0,.int .u8 0,.int .u8 0,.int .u8 0,.int .u8 0,.int .u8 0,.int .u8 0,.int .u8 0,.int .u8 0,.int .u8 0,.int .u8 0,.int .u8 0,.int .u8 0,.int .u8 0,.int .u8 0,.int .u8 0,.slice none 0 0,.map none]) ((lst ((T.at_ 6).at_ 0)).length) (ac + 1),⟨ab,ac * 18,[qad ((qah (aa.at_ 0).S).getD 0 0),qad ((qah (aa.at_ 0).S).getD 1 0),qad ((qah (aa.at_ 0).S).getD 2 0),qad ((qah (aa.at_ 0).S).getD 3 0),qad ((qah (aa.at_ 0).S).getD 4 0),qad ((qah (aa.at_ 0).S).getD 5 0),qad ((qah (aa.at_ 0).S).getD 6 0),qad ((qah (aa.at_ 0).S).getD 7 0),qad ((qah (aa.at_ 0).S).getD 8 0),qad ((qah (aa.at_ 0).S).getD 9 0),qad ((qah (aa.at_ 0).S).getD 10 0),qad ((qah (aa.at_ 0).S).getD 11 0),qad ((qah (aa.at_ 0).S).getD 12 0),qad ((qah (aa.at_ 0).S).getD 13 0),qad ((qah (aa.at_ 0).S).getD 14 0),qad ((qah (aa.at_ 0).S).getD 15 0),.slice ah.A ah.l ah.c,.map bj],true⟩] [(7,.p 0 0),(9,.v (.bool (decide (v ≥ 0)))),(10,.p 1 0),(19,.p 2 0),(21,.v (.slice (some ⟨ab,0,none⟩) ((lst ((T.at_ 6).at_ 0)).length) ae)),(22,.v (.int .i32 (((lst ((T.at_ 6).at_ 0)).length:Nat):Int))),(23,.v (.int .i32 ((ac:Nat):Int)))] P' aW a_ w_) ?_ ?_
     ·
      refine wp_seq (qbK [(7,.p 0 0),(9,.v (.bool (decide (v ≥ 0)))),(10,.p 1 0),(19,.p 2 0),(21,.v (.slice (some ⟨ab,0,none⟩) ((lst ((T.at_ 6).at_ 0)).length) ae)),(22,.v (.int .i32 (((lst ((T.at_ 6).at_ 0)).length:Nat):Int))),(23,.v (.int .i32 ((ac:Nat):Int))),(25,.p 4 0),(171,.v (.bool (decide (v ≥ 0))))] dD fun _ aB=>qab ?_)
      clear dD
      refine qay aB.env_ (b:=decide (v ≥ 0)) kz (fun aC=>?_) (fun aC=>?_)
      ·
       have dE:=aB.cast (t:=((uv aa.U.length) ++ (qcG aa.U)) ++ aW) (by rw [if_pos aC])
       clear aB
       refine qas [0,1,2,3,4] kz ?_
       refine qcH [0] [1,2,3,4] [(7,.p 0 0),(9,.v (.bool (decide (v ≥ 0)))),(10,.p 1 0),(19,.p 2 0),(21,.v (.slice (some ⟨ab,0,none⟩) ((lst ((T.at_ 6).at_ 0)).length) ae)),(22,.v (.int .i32 (((lst ((T.at_ 6).at_ 0)).length:Nat):Int))),(23,.v (.int .i32 ((ac:Nat):Int))),(172,.p 4 0)] dE fun _ dF=>?_
       clear dE
       refine qan (qgb (d:=173) dF (qli aa.U e183_U (qe4 e183r) _) (fun _=>MvF.tags _ _) Tryz.call156 fun ey gF _ _ dG dH=>?_)
       clear dF
       refine qcH [2,3] [4] [(7,.p 0 0),(9,.v (.bool (decide (v ≥ 0)))),(10,.p 1 0),(19,.p 2 0),(21,.v (.slice (some ⟨ab,0,none⟩) ((lst ((T.at_ 6).at_ 0)).length) ae)),(22,.v (.int .i32 (((lst ((T.at_ 6).at_ 0)).length:Nat):Int))),(23,.v (.int .i32 ((ac:Nat):Int))),(173,.v (.agg #[.map ey])),(175,.p 4 17)] dH fun _ dI=>?_
       clear dH
       refine qan (qd0 [⟨bv,0,(z0 v T aj ak af),true⟩,⟨af,0,[.slice none 0 0,.map none],true⟩,qbH ab 18 (.agg #[.int .u8 0,.int .u8 0,.int .u8 0,.int .u8 0,.int .u8 0,.int .u8 0,.int .u8 0,.int .u8 0,.int .u8 0,.int .u8 0,.int .u8 0,.int .u8 0,.int .u8 0,.int .u8 0,.int .u8 0,.int .u8 0,.slice none 0 0,.map none]) ((lst ((T.at_ 6).at_ 0)).length) (ac + 1),⟨ab,ac * 18,[qad ((qah (aa.at_ 0).S).getD 0 0),qad ((qah (aa.at_ 0).S).getD 1 0),qad ((qah (aa.at_ 0).S).getD 2 0),qad ((qah (aa.at_ 0).S).getD 3 0),qad ((qah (aa.at_ 0).S).getD 4 0),qad ((qah (aa.at_ 0).S).getD 5 0),qad ((qah (aa.at_ 0).S).getD 6 0),qad ((qah (aa.at_ 0).S).getD 7 0),qad ((qah (aa.at_ 0).S).getD 8 0),qad ((qah (aa.at_ 0).S).getD 9 0),qad ((qah (aa.at_ 0).S).getD 10 0),qad ((qah (aa.at_ 0).S).getD 11 0),qad ((qah (aa.at_ 0).S).getD 12 0),qad ((qah (aa.at_ 0).S).getD 13 0),qad ((qah (aa.at_ 0).S).getD 14 0),qad ((qah (aa.at_ 0).S).getD 15 0),.slice ah.A ah.l ah.c,.map ey],true⟩] 3 dI fun _ dJ=>?_)
       clear dI
       refine qaf ?_
       have fF:=dJ.pk (env':=[(7,.p 0 0),(9,.v (.bool (decide (v ≥ 0)))),(10,.p 1 0),(19,.p 2 0),(21,.v (.slice (some ⟨ab,0,none⟩) ((lst ((T.at_ 6).at_ 0)).length) ae)),(22,.v (.int .i32 (((lst ((T.at_ 6).at_ 0)).length:Nat):Int))),(23,.v (.int .i32 ((ac:Nat):Int)))])
       clear dJ
       refine qab ?_
       exact ⟨ey,aa.U,_,fun w F h_=>⟨(dG _ _ h_).1,⟨(dG _ _ h_).2,e183_U.2.1,e183_U.2.2⟩,⟨fun _=>rfl,(fun e_=>by rw [aC] at e_; cases e_)⟩⟩,fF.pk (env':=[(7,.p 0 0),(9,.v (.bool (decide (v ≥ 0)))),(10,.p 1 0),(19,.p 2 0),(21,.v (.slice (some ⟨ab,0,none⟩) ((lst ((T.at_ 6).at_ 0)).length) ae)),(22,.v (.int .i32 (((lst ((T.at_ 6).at_ 0)).length:Nat):Int))),(23,.v (.int .i32 ((ac:Nat):Int)))])⟩
      have dK:=aB.cast (t:=[] ++ aW) (by rw [if_neg (by rw [aC]; decide)])
      clear aB
      have fG:=dK.cast (t:=aW) rfl
      clear dK
      refine wp_skip (qab ?_)
      exact ⟨none,[],_,fun w F h_=>⟨h_,⟨MapR.nil _ _,Nat.zero_le _,fun _ h=>by cases h⟩,⟨(fun e_=>by rw [aC] at e_; cases e_),fun _=>rfl⟩⟩,fG.pk (env':=[(7,.p 0 0),(9,.v (.bool (decide (v ≥ 0)))),(10,.p 1 0),(19,.p 2 0),(21,.v (.slice (some ⟨ab,0,none⟩) ((lst ((T.at_ 6).at_ 0)).length) ae)),(22,.v (.int .i32 (((lst ((T.at_ 6).at_ 0)).length:Nat):Int))),(23,.v (.int .i32 ((ac:Nat):Int)))])⟩
     rintro _ _ ⟨bj,aI,gG,ar,dL⟩
     refine qau (qab (qbK [(7,.p 0 0),(9,.v (.bool (decide (v ≥ 0)))),(10,.p 1 0),(19,.p 2 0),(21,.v (.slice (some ⟨ab,0,none⟩) ((lst ((T.at_ 6).at_ 0)).length) ae)),(22,.v (.int .i32 (((lst ((T.at_ 6).at_ 0)).length:Nat):Int))),(23,.v (.int .i32 (IntKind.i32.wrap (((ac:Nat):Int) + 1))))] dL fun _ dM=>?_))
     clear dL
     refine qab ?_
     have fH:=(dM.envEq (env':=[(7,.p 0 0),(9,.v (.bool (decide (v ≥ 0)))),(10,.p 1 0),(19,.p 2 0),(21,.v (.slice (some ⟨ab,0,none⟩) ((lst ((T.at_ 6).at_ 0)).length) ae)),(22,.v (.int .i32 (((lst ((T.at_ 6).at_ 0)).length:Nat):Int))),(23,.v (.int .i32 ((ac + 1:Nat):Int)))]) (by rw [qhN (by have:=e136_0; omega)])).pk (env':=[(7,.p 0 0),(9,.v (.bool (decide (v ≥ 0)))),(10,.p 1 0),(19,.p 2 0),(21,.v (.slice (some ⟨ab,0,none⟩) ((lst ((T.at_ 6).at_ 0)).length) ae)),(22,.v (.int .i32 (((lst ((T.at_ 6).at_ 0)).length:Nat):Int))),(23,.v (.int .i32 ((ac + 1:Nat):Int)))])
     clear dM
     exact (RS.thing (tb:=[⟨bv,0,[.int .i16 v,.int .i32 (IntKind.i32.wrap (T.at_ 0).N),.int .i16 (IntKind.i16.wrap (T.at_ 1).N),.pointer aj,.pointer ak,.int .i32 (IntKind.i32.wrap (T.at_ 4).N),.int .i32 (IntKind.i32.wrap (T.at_ 5).N),.pointer (some ⟨af,0,none⟩),.map none],true⟩,⟨af,0,[.slice none 0 0,.map none],true⟩]) (z:=.agg #[.int .u8 0,.int .u8 0,.int .u8 0,.int .u8 0,.int .u8 0,.int .u8 0,.int .u8 0,.int .u8 0,.int .u8 0,.int .u8 0,.int .u8 0,.int .u8 0,.int .u8 0,.int .u8 0,.int .u8 0,.int .u8 0,.slice none 0 0,.map none]) (D:=(dvP bj aI [dvO none (qah (aa.at_ 0).S) 0,ah])) (fH.cast cC) hg_g164 aV qaI aU rfl (fun w F h_=>⟨(cA _ _ (aO _ _ (ar _ _ h_).1).1).1,(cA _ _ (aO _ _ (ar _ _ h_).1).1).2,⟨(qdE _),((aO _ _ (ar _ _ h_).1).2.1),(ar _ _ h_).2.1.1,(ar _ _ h_).2.1.2.1,(ar _ _ h_).2.1.2.2,trivial⟩,⟨(rfl),((aO _ _ (ar _ _ h_).1).2.2),(ar _ _ h_).2.2,trivial⟩⟩) kz)
    refine wp_seq (wp_seq (qbK [(7,.p 0 0),(9,.v (.bool (decide (v ≥ 0)))),(10,.p 1 0),(19,.p 2 0),(21,.v (.slice (some ⟨ab,0,none⟩) ((lst ((T.at_ 6).at_ 0)).length) ae)),(22,.v (.int .i32 (((lst ((T.at_ 6).at_ 0)).length:Nat):Int))),(23,.v (.int .i32 (((lst ((T.at_ 6).at_ 0)).length:Nat):Int))),(124,.v (.bool (decide ((((lst ((T.at_ 6).at_ 0)).length:Nat):Int) < (((lst ((T.at_ 6).at_ 0)).length:Nat):Int)))))] cz fun _ dN=>qab ?_))
    clear cz
    refine qar dN.env_ (b:=decide ((((lst ((T.at_ 6).at_ 0)).length:Nat):Int) < (((lst ((T.at_ 6).at_ 0)).length:Nat):Int))) kz (decide_eq_false (by omega)) ?_
    refine wp_exit (qaC (qaC (qaS (qab ?_))))
    obtain ⟨gl,fI⟩:=RS.listEnd (tb:=(z53 bv v T aj ak af)) (c:=ae) (dN.pk (env':=[(7,.p 0 0),(9,.v (.bool (decide (v ≥ 0)))),(10,.p 1 0),(19,.p 2 0),(21,.v (.slice (some ⟨ab,0,none⟩) ((lst ((T.at_ 6).at_ 0)).length) ae))])) hg_g164 qaI aU hcap_g164 (by have:=e136_0; omega) hn_g164 kz
    exact ⟨dvL (some ⟨ab,0,none⟩) (lst ((T.at_ 6).at_ 0)).length ae gl,_,fun w F h_=>⟨h_.1,⟨h_.2.1,Nat.le_trans e136_0 (by decide),h_.2.2.1⟩,⟨rfl,h_.2.2.2⟩⟩,fI⟩
   refine wp_skip (qab (wp_seq (qbK [(7,.p 0 0),(9,.v (.bool (decide (v ≥ 0)))),(10,.p 1 0),(19,.p 2 0),(21,.v (.slice none 0 0)),(22,.v (.int .i32 (((lst ((T.at_ 6).at_ 0)).length:Nat):Int))),(23,.v (.int .i32 0))] ay fun _ dO=>?_)))
   clear ay
   refine qab (wp_block (qgd (wp_seq (wp_seq (qbK [(7,.p 0 0),(9,.v (.bool (decide (v ≥ 0)))),(10,.p 1 0),(19,.p 2 0),(21,.v (.slice none 0 0)),(22,.v (.int .i32 (((lst ((T.at_ 6).at_ 0)).length:Nat):Int))),(23,.v (.int .i32 0)),(124,.v (.bool (decide (0 < (((lst ((T.at_ 6).at_ 0)).length:Nat):Int)))))] dO fun _ dP=>qab ?_)))))
   clear dO
   refine qar dP.env_ (b:=decide (0 < (((lst ((T.at_ 6).at_ 0)).length:Nat):Int))) kz (decide_eq_false (by have h_:=of_decide_eq_false aM; omega)) ?_
   refine wp_exit (qaC (qaC (qaS (qab ?_))))
   have hz_:(lst ((T.at_ 6).at_ 0)).length = 0:=by have h_:=of_decide_eq_false aM; omega
   exact ⟨dvL none 0 0 (fun _=>dv0),_,fun w F h_=>⟨h_,⟨Slots.nil _ _ _ _,Nat.zero_le _,fun _ h=>absurd h (Nat.not_lt_zero _)⟩,⟨hz_.symm,fun _ h=>absurd h (Nat.not_lt_zero _)⟩⟩,(dP.cast (t:=ax) (by rw [List.eq_nil_of_length_eq_zero hz_]; rfl)).pk (env':=[(7,.p 0 0),(9,.v (.bool (decide (v ≥ 0)))),(10,.p 1 0),(19,.p 2 0),(21,.v (.slice none 0 0))])⟩
  rintro _ _ ⟨ag,gm,bf,dQ⟩
  refine wp_seq (qbK [(7,.p 0 0),(9,.v (.bool (decide (v ≥ 0)))),(10,.p 1 0),(19,.p 2 0),(20,.v (.slice ag.A ag.l ag.c))] dQ fun _ dR=>?_)
  clear dQ
  refine qab (qez [⟨bv,0,(z0 v T aj ak af),true⟩,⟨af,0,[.slice ag.A ag.l ag.c,.map none],true⟩] 1 [(7,.p 0 0),(9,.v (.bool (decide (v ≥ 0)))),(10,.p 1 0),(19,.p 2 0)] dR fun _ _ dS=>?_)
  clear dR
  refine qab ?_
  have dT:=dS.cast bO
  clear dS
  refine qd1 (Mid:=fun a_ w_=>∃ (bk:Option Nat) (aJ:List (Int × Bs)) (P':qcj),(∀ w F,P' w F → gm w F ∧ (MapR w F bk aJ ∧ aJ.length ≤ 1000000 ∧ ∀ x ∈ aJ,x.2.length < 4294967296) ∧ ((decide (v ≥ 0)) = true → aJ = (T.at_ 6).U) ∧ ((decide (v ≥ 0)) = false → aJ = [])) ∧ RS w (fun b o=>b = bv ∧ o < 9) F 192 bg [⟨bv,0,[.int .i16 v,.int .i32 (IntKind.i32.wrap (T.at_ 0).N),.int .i16 (IntKind.i16.wrap (T.at_ 1).N),.pointer aj,.pointer ak,.int .i32 (IntKind.i32.wrap (T.at_ 4).N),.int .i32 (IntKind.i32.wrap (T.at_ 5).N),.pointer (some ⟨af,0,none⟩),.map none],true⟩,⟨af,0,[.slice ag.A ag.l ag.c,.map bk],true⟩] [(7,.p 0 0),(9,.v (.bool (decide (v ≥ 0)))),(10,.p 1 0)] P' bh a_ w_) ?_ ?_
  ·
   refine wp_seq (qbK [(7,.p 0 0),(9,.v (.bool (decide (v ≥ 0)))),(10,.p 1 0),(19,.p 2 0),(181,.v (.bool (decide (v ≥ 0))))] dT fun _ aD=>qab ?_)
   clear dT
   refine qay aD.env_ (b:=decide (v ≥ 0)) kz (fun aE=>?_) (fun aE=>?_)
   ·
    have dU:=aD.cast (t:=((uv (T.at_ 6).U.length) ++ (qcG (T.at_ 6).U)) ++ bh) (by rw [if_pos aE])
    clear aD
    refine qas [0,1,2,3,4] kz ?_
    refine qcH [0] [1,2,3,4] [(7,.p 0 0),(9,.v (.bool (decide (v ≥ 0)))),(10,.p 1 0),(182,.p 2 0)] dU fun _ dV=>?_
    clear dU
    refine qan (qgb (d:=183) dV (qli (T.at_ 6).U e136_U (qe4 e136r) _) (fun _=>MvF.tags _ _) Tryz.call156 fun ez gH _ _ dW dX=>?_)
    clear dV
    refine qcH [2,3] [4] [(7,.p 0 0),(9,.v (.bool (decide (v ≥ 0)))),(10,.p 1 0),(183,.v (.agg #[.map ez])),(185,.p 2 1)] dX fun _ dY=>?_
    clear dX
    refine qan (qd0 [⟨bv,0,(z0 v T aj ak af),true⟩,⟨af,0,[.slice ag.A ag.l ag.c,.map ez],true⟩] 1 dY fun _ dZ=>?_)
    clear dY
    refine qaf ?_
    have fJ:=dZ.pk (env':=[(7,.p 0 0),(9,.v (.bool (decide (v ≥ 0)))),(10,.p 1 0)])
    clear dZ
    refine qab ?_
    exact ⟨ez,(T.at_ 6).U,_,fun w F h_=>⟨(dW _ _ h_).1,⟨(dW _ _ h_).2,e136_U.2.1,e136_U.2.2⟩,⟨fun _=>rfl,(fun e_=>by rw [aE] at e_; cases e_)⟩⟩,fJ.pk (env':=[(7,.p 0 0),(9,.v (.bool (decide (v ≥ 0)))),(10,.p 1 0)])⟩
   have d5:=aD.cast (t:=[] ++ bh) (by rw [if_neg (by rw [aE]; decide)])
   clear aD
   have fK:=d5.cast (t:=bh) rfl
   clear d5
   refine wp_skip (qab ?_)
   exact ⟨none,[],_,fun w F h_=>⟨h_,⟨MapR.nil _ _,Nat.zero_le _,fun _ h=>by cases h⟩,⟨(fun e_=>by rw [aE] at e_; cases e_),fun _=>rfl⟩⟩,fK.pk (env':=[(7,.p 0 0),(9,.v (.bool (decide (v ≥ 0)))),(10,.p 1 0)])⟩
  rintro _ _ ⟨bk,aJ,gI,au,fL⟩
  refine qab ?_
  have fM:=fL.pk (env':=[(7,.p 0 0),(9,.v (.bool (decide (v ≥ 0)))),(10,.p 1 0)])
  have fN:=RS.drop (tb:=[⟨bv,0,(z0 v T aj ak af),true⟩]) fM hb_b130 kz
  exact ⟨dvPA (some ⟨af,0,none⟩) (dvP bk aJ [ag]),_,fun w F hh_=>have h_:=hh_.1; ⟨(bf _ _ (au _ _ h_).1).1,fun ad_ hd_=>by cases hd_; exact ⟨⟨_,_,rfl,hh_.2⟩,⟨((bf _ _ (au _ _ h_).1).2.1),(au _ _ h_).2.1.1,(au _ _ h_).2.1.2.1,(au _ _ h_).2.1.2.2,trivial⟩⟩,by rw [av]; rfl,fun _=>⟨((bf _ _ (au _ _ h_).1).2.2),(au _ _ h_).2.2,trivial⟩⟩,fN⟩
 rintro _ _ ⟨ap,gn,aw,d6⟩
 refine qab (wp_seq ?_)
 have d7:=d6.cast eD
 clear d6
 refine qd1 (Mid:=fun a_ w_=>∃ (bn:Option Nat) (aK:List (Int × Bs)) (P':qcj),(∀ w F,P' w F → gn w F ∧ (MapR w F bn aK ∧ aK.length ≤ 1000000 ∧ ∀ x ∈ aK,x.2.length < 4294967296) ∧ ((decide (v ≥ 0)) = true → aK = T.U) ∧ ((decide (v ≥ 0)) = false → aK = [])) ∧ RS w (fun b o=>b = bv ∧ o < 9) F 192 bg [⟨bv,0,[.int .i16 v,.int .i32 (IntKind.i32.wrap (T.at_ 0).N),.int .i16 (IntKind.i16.wrap (T.at_ 1).N),.pointer aj,.pointer ak,.int .i32 (IntKind.i32.wrap (T.at_ 4).N),.int .i32 (IntKind.i32.wrap (T.at_ 5).N),.pointer ap.A,.map bn],true⟩] [(7,.p 0 0)] P' ([]:Bs) a_ w_) ?_ ?_
 ·
  refine wp_seq (qbK [(7,.p 0 0),(10,.p 1 0),(186,.v (.bool (decide (v ≥ 0))))] d7 fun _ aF=>qab ?_)
  clear d7
  refine qay aF.env_ (b:=decide (v ≥ 0)) kz (fun aG=>?_) (fun aG=>?_)
  ·
   have d8:=aF.cast (t:=((uv T.U.length) ++ (qcG T.U)) ++ ([]:Bs)) (by rw [if_pos aG])
   clear aF
   refine qas [0,1,2,3,4] kz ?_
   refine qcH [0] [1,2,3,4] [(7,.p 0 0),(187,.p 1 0)] d8 fun _ d9=>?_
   clear d8
   refine qan (qgb (d:=188) d9 (qli T.U e30_U (qe4 e30r) _) (fun _=>MvF.tags _ _) Tryz.call156 fun eB gJ _ _ ea eb=>?_)
   clear d9
   refine qcH [2,3] [4] [(7,.p 0 0),(188,.v (.agg #[.map eB])),(190,.p 1 8)] eb fun _ ec=>?_
   clear eb
   refine qan (qd0 [⟨bv,0,[.int .i16 v,.int .i32 (IntKind.i32.wrap (T.at_ 0).N),.int .i16 (IntKind.i16.wrap (T.at_ 1).N),.pointer aj,.pointer ak,.int .i32 (IntKind.i32.wrap (T.at_ 4).N),.int .i32 (IntKind.i32.wrap (T.at_ 5).N),.pointer ap.A,.map eB],true⟩] 0 ec fun _ ee=>?_)
   clear ec
   refine qaf ?_
   have fO:=ee.pk (env':=[(7,.p 0 0)])
   clear ee
   refine qab ?_
   exact ⟨eB,T.U,_,fun w F h_=>⟨(ea _ _ h_).1,⟨(ea _ _ h_).2,e30_U.2.1,e30_U.2.2⟩,⟨fun _=>rfl,(fun e_=>by rw [aG] at e_; cases e_)⟩⟩,fO.pk (env':=[(7,.p 0 0)])⟩
  have ef:=aF.cast (t:=[] ++ ([]:Bs)) (by rw [if_neg (by rw [aG]; decide)])
  clear aF
  have fP:=ef.cast (t:=([]:Bs)) rfl
  clear ef
  refine wp_skip (qab ?_)
  exact ⟨none,[],_,fun w F h_=>⟨h_,⟨MapR.nil _ _,Nat.zero_le _,fun _ h=>by cases h⟩,⟨(fun e_=>by rw [aG] at e_; cases e_),fun _=>rfl⟩⟩,fP.pk (env':=[(7,.p 0 0)])⟩
 rintro _ _ ⟨bn,aK,gK,ao,eg⟩
 refine qab (wp_seq (qas [0,1] kz (qan (qhl (d:=191) eg qjI Tryz.call149 fun _ eh=>?_))))
 clear eg
 refine qcH [1] [] [(6,.v (.nilIface))] eh fun _ ei=>qaf ?_
 clear eh
 refine qab (wp_ret ?_)
 obtain ⟨A_,m_,c_,hW_,hr_,hE_,hP_⟩:=ei.open_
 refine qaL hE_ hW_.cells (v:=.nilIface) kz ?_
 have h_:=ei.mv.mono qbL hP_
 refine ⟨(dvP bn aK [dvN (IntKind.i32.wrap (T.at_ 0).N),dvN (IntKind.i16.wrap (T.at_ 1).N),dvT aj (bs (qbB (T.at_ 2))),dvT ak (bs (qbB (T.at_ 3))),dvN (IntKind.i32.wrap (T.at_ 4).N),dvN (IntKind.i32.wrap (T.at_ 5).N),ap]),rfl,Str.of hW_ 1 rfl,?_,?_,hW_.step⟩
 ·unfold qbb
  exact ⟨(trivial),(trivial),(⟨(fg _ _ (bi _ _ (aw _ _ (ao _ _ h_).1).1).1).2.1,by show ByteArray.size (bs _) ≤ 1000000; rw [qjn]; exact Nat.le_trans e30_2 (by decide)⟩),(⟨(bi _ _ (aw _ _ (ao _ _ h_).1).1).2.1,by show ByteArray.size (bs _) ≤ 1000000; rw [qjn]; exact Nat.le_trans e30_3 (by decide)⟩),(trivial),(trivial),((aw _ _ (ao _ _ h_).1).2.1),(ao _ _ h_).2.1.1,(ao _ _ h_).2.1.2.1,(ao _ _ h_).2.1.2.2,trivial⟩
 unfold qa3
 exact ⟨(rfl),(rfl),(⟨rfl,(fg _ _ (bi _ _ (aw _ _ (ao _ _ h_).1).1).1).2.2⟩),(⟨rfl,(bi _ _ (aw _ _ (ao _ _ h_).1).1).2.2⟩),(rfl),(rfl),((aw _ _ (ao _ _ h_).1).2.2),(ao _ _ h_).2.2,trivial⟩
theorem qbY:qf8 qbb:=by
 intro w w' F F' M d hs hM hF h
 unfold qbb at h ⊢
 obtain ⟨g0,g1,⟨g2,g2l⟩,⟨g3,g3l⟩,g4,g5,g6,t1,t2,t3,_⟩:=h
 exact ⟨g0,g1,⟨fun ad hA=>by
  obtain ⟨b,o,h1,h2⟩:=g2 ad hA
  exact ⟨b,o,h1,h2.move hs hM hF⟩,g2l⟩,⟨fun ad hA=>by
  obtain ⟨b,o,h1,h2⟩:=g3 ad hA
  exact ⟨b,o,h1,h2.move hs hM hF⟩,g3l⟩,g4,g5,fun ad hA=>by
  obtain ⟨⟨b,o,h1,h2⟩,h3⟩:=g6 ad hA
  exact ⟨⟨b,o,h1,h2.move hs hM hF⟩,qbn _ hs hM hF h3⟩,t1.move hs hM hF,t2,t3,trivial⟩
end Go.Proofs.YtcbpjflgkefidaaGreatDoor.ME