/- The texts of a claim, put together: the engine, the contracts, the law. Own work. -/
import Derived.Test.YtgolpmkenmedoaaGreatDoorWt5P2
import Derived.Test.YtgolpmkenmedoaaGreatDoorProg
import Derived.Deep.LoopGhost
namespace Go.Proofs.YtgolpmkenmedoaaGreatDoor.ME
open Go
open Go.RowKit
set_option linter.unusedVariables false
set_option linter.unusedSimpArgs false
set_option maxRecDepth 20000
theorem qlW {A : Option Addr} {c : Nat} (s : Bs) {w : World} {F : Nat → Nat → Prop} (ho : Octs w F A c s) (hl : 2 ≤ s.length) :
  Calls Tryz.prog 232 #[.agg #[],.slice A s.length c] w (qcj w (.int .u16 (be16 s))):=by
 refine enter (n:=18) Tryz.func232 rfl Tryz.ntmps232 kz fun a hE=>?_
 have hW:=WOk.start w Nil
 have ob0:=qb8 s 0
 have ob1:=qb8 s 1
 refine qae [0,1] kz ?_
 refine qan (qbk hW hE (d:=2) (cs:=[]) kz fun b1 a2 w3 hb4 hz5 hF6 hW7 hE8=>?_)
 refine qal [1] [] [(1,.v (.slice A s.length c))] hW7 hE8 fun a9 af=>?_
 refine qaf (qab ?_)
 refine qae [0,1,2] kz ?_
 refine qal [0] [1,2] [(1,.v (.slice A s.length c)),(5,.v (.slice A s.length c))] hW7 af fun aC ag=>?_
 obtain ⟨av,aw,ac,ax,ab⟩:=Slots.get ho (i:=1) (by omega)
 refine qan (qaC ag (t:=22) (A:=A) (m:=s.length) (q:=1) (d:=6) kz (e:=5) (size:=1) (bytes:=1) (j:=1) kz ac rfl (by omega) fun aD ah=>?_)
 refine qan (qaQ ah (t:=5) (b:=av) (o:=aw + 1 * 1) (d:=7) kz (cs:=[.int .u8 ((s.getD 1 0).toNat : Int)]) (v:=.int .u8 ((s.getD 1 0).toNat : Int)) kz (AtF.move ab hW7.step nilM qbc).at_ fun aE ai=>?_)
 refine qaf (qab ?_)
 refine qb2 kz hW7 fun aF ay aa=>?_
 refine qaI [0,4] [(8,.v (.slice A s.length c)),(12,.v (.slice A s.length c))] 9 (qaa qag) (fun _ h=>h ▸ aa.cells) rfl ai fun aG aj=>?_
 refine qaV aj (i:=1) (t:=22) (A:=A) (m:=s.length) (q:=1) (d:=9) kz (e:=5) (size:=1) (bytes:=1) (j:=1) kz ac rfl (by omega) kz kz (qaa qag) rfl fun aH ak=>?_
 refine qbb ak (i:=2) (t:=5) (b:=av) (o:=aw + 1 * 1) (d:=10) kz (cs:=[.int .u8 ((s.getD 1 0).toNat : Int)]) (v:=.int .u8 ((s.getD 1 0).toNat : Int)) kz (fun w' h'=>h' ▸ (AtF.move ab aa.step nilM qbc).at_) kz kz (qaa qag) rfl fun aI al=>?_
 refine qaI [3] [(11,.v (.int .u16 (IntKind.u16.wrap ((s.getD 1 0).toNat : Int)))),(12,.v (.slice A s.length c))] 6 (qaa qag) (fun _ h=>h ▸ aa.cells) rfl al fun aJ am=>?_
 obtain ⟨az,aA,ao,aB,ae⟩:=Slots.get ho (i:=0) (by omega)
 refine qaV am (i:=5) (t:=22) (A:=A) (m:=s.length) (q:=0) (d:=13) kz (e:=5) (size:=1) (bytes:=1) (j:=0) kz ao rfl (by omega) kz kz (qaa qag) rfl fun aK ap=>?_
 refine qbb ap (i:=6) (t:=5) (b:=az) (o:=aA + 0 * 1) (d:=14) kz (cs:=[.int .u8 ((s.getD 0 0).toNat : Int)]) (v:=.int .u8 ((s.getD 0 0).toNat : Int)) kz (fun w' h'=>h' ▸ (AtF.move ae aa.step nilM qbc).at_) kz kz (qaa qag) rfl fun aL ar=>?_
 refine qaI [7,8,9,10] [(4,.v (.int .u16 (IntKind.u16.wrap (BitVec.ofInt 16 (IntKind.u16.wrap ((s.getD 1 0).toNat : Int)) ||| BitVec.ofInt 16 (IntKind.u16.wrap ((IntKind.u16.wrap ((s.getD 0 0).toNat : Int)) * 256))).toNat)))] 0 (qaa qag) (fun _ h=>h ▸ aa.cells) rfl ar fun aM au=>?_
 refine qaF kz ?_ _
 refine qab ?_
 refine wp_ret ?_
 refine qaK au aa.cells (v:=.int .u16 (IntKind.u16.wrap (BitVec.ofInt 16 (IntKind.u16.wrap ((s.getD 1 0).toNat : Int)) ||| BitVec.ofInt 16 (IntKind.u16.wrap ((IntKind.u16.wrap ((s.getD 0 0).toNat : Int)) * 256))).toNat)) kz ?_
 exact ⟨congrArg Ending.returned (congrArg (Value.int IntKind.u16) (qls (oc s 0) (oc s 1) ob0 ob1)),aa.step⟩
theorem qlX {A : Option Addr} {c : Nat} (s : Bs) {w : World} {F : Nat → Nat → Prop} (ho : Octs w F A c s) (hl : 4 ≤ s.length) :
  Calls Tryz.prog 231 #[.agg #[],.slice A s.length c] w (qcj w (.int .u32 (be32 s))):=by
 refine enter (n:=30) Tryz.func231 rfl Tryz.ntmps231 kz fun a hE=>?_
 have hW:=WOk.start w Nil
 have ob0:=qb8 s 0
 have ob1:=qb8 s 1
 have ob2:=qb8 s 2
 have ob3:=qb8 s 3
 refine qae [0,1] kz ?_
 refine qan (qbk hW hE (d:=2) (cs:=[]) kz fun b1 a2 w3 hb4 hz5 hF6 hW7 hE8=>?_)
 refine qal [1] [] [(1,.v (.slice A s.length c))] hW7 hE8 fun a9 ah=>?_
 refine qaf (qab ?_)
 refine qae [0,1,2] kz ?_
 refine qal [0] [1,2] [(1,.v (.slice A s.length c)),(5,.v (.slice A s.length c))] hW7 ah fun aS ai=>?_
 obtain ⟨aF,aG,ac,aH,ab⟩:=Slots.get ho (i:=3) (by omega)
 refine qan (qaC ai (t:=22) (A:=A) (m:=s.length) (q:=3) (d:=6) kz (e:=5) (size:=1) (bytes:=1) (j:=3) kz ac rfl (by omega) fun aT aj=>?_)
 refine qan (qaQ aj (t:=5) (b:=aF) (o:=aG + 3 * 1) (d:=7) kz (cs:=[.int .u8 ((s.getD 3 0).toNat : Int)]) (v:=.int .u8 ((s.getD 3 0).toNat : Int)) kz (AtF.move ab hW7.step nilM qbc).at_ fun aU ak=>?_)
 refine qaf (qab ?_)
 refine qb2 kz hW7 fun aV aI aa=>?_
 refine qaI [0,4,10,16] [(8,.v (.slice A s.length c)),(12,.v (.slice A s.length c)),(18,.v (.slice A s.length c)),(24,.v (.slice A s.length c))] 19 (qaa qag) (fun _ h=>h ▸ aa.cells) rfl ak fun aW al=>?_
 refine qaV al (i:=1) (t:=22) (A:=A) (m:=s.length) (q:=3) (d:=9) kz (e:=5) (size:=1) (bytes:=1) (j:=3) kz ac rfl (by omega) kz kz (qaa qag) rfl fun aX am=>?_
 refine qbb am (i:=2) (t:=5) (b:=aF) (o:=aG + 3 * 1) (d:=10) kz (cs:=[.int .u8 ((s.getD 3 0).toNat : Int)]) (v:=.int .u8 ((s.getD 3 0).toNat : Int)) kz (fun w' h'=>h' ▸ (AtF.move ab aa.step nilM qbc).at_) kz kz (qaa qag) rfl fun aY ao=>?_
 refine qaI [3] [(11,.v (.int .u32 (IntKind.u32.wrap ((s.getD 3 0).toNat : Int)))),(12,.v (.slice A s.length c)),(18,.v (.slice A s.length c)),(24,.v (.slice A s.length c))] 16 (qaa qag) (fun _ h=>h ▸ aa.cells) rfl ao fun aZ ap=>?_
 obtain ⟨aJ,aK,ar,aL,ae⟩:=Slots.get ho (i:=2) (by omega)
 refine qaV ap (i:=5) (t:=22) (A:=A) (m:=s.length) (q:=2) (d:=13) kz (e:=5) (size:=1) (bytes:=1) (j:=2) kz ar rfl (by omega) kz kz (qaa qag) rfl fun ba au=>?_
 refine qbb au (i:=6) (t:=5) (b:=aJ) (o:=aK + 2 * 1) (d:=14) kz (cs:=[.int .u8 ((s.getD 2 0).toNat : Int)]) (v:=.int .u8 ((s.getD 2 0).toNat : Int)) kz (fun w' h'=>h' ▸ (AtF.move ae aa.step nilM qbc).at_) kz kz (qaa qag) rfl fun bd av=>?_
 refine qaI [7,8,9] [(17,.v (.int .u32 (IntKind.u32.wrap (BitVec.ofInt 32 (IntKind.u32.wrap ((s.getD 3 0).toNat : Int)) ||| BitVec.ofInt 32 (IntKind.u32.wrap ((IntKind.u32.wrap ((s.getD 2 0).toNat : Int)) * 256))).toNat))),(18,.v (.slice A s.length c)),(24,.v (.slice A s.length c))] 11 (qaa qag) (fun _ h=>h ▸ aa.cells) rfl av fun bf aw=>?_
 obtain ⟨aM,aN,ax,aO,af⟩:=Slots.get ho (i:=1) (by omega)
 refine qaV aw (i:=11) (t:=22) (A:=A) (m:=s.length) (q:=1) (d:=19) kz (e:=5) (size:=1) (bytes:=1) (j:=1) kz ax rfl (by omega) kz kz (qaa qag) rfl fun bg ay=>?_
 refine qbb ay (i:=12) (t:=5) (b:=aM) (o:=aN + 1 * 1) (d:=20) kz (cs:=[.int .u8 ((s.getD 1 0).toNat : Int)]) (v:=.int .u8 ((s.getD 1 0).toNat : Int)) kz (fun w' h'=>h' ▸ (AtF.move af aa.step nilM qbc).at_) kz kz (qaa qag) rfl fun bh az=>?_
 refine qaI [13,14,15] [(23,.v (.int .u32 (IntKind.u32.wrap (BitVec.ofInt 32 (IntKind.u32.wrap (BitVec.ofInt 32 (IntKind.u32.wrap ((s.getD 3 0).toNat : Int)) ||| BitVec.ofInt 32 (IntKind.u32.wrap ((IntKind.u32.wrap ((s.getD 2 0).toNat : Int)) * 256))).toNat) ||| BitVec.ofInt 32 (IntKind.u32.wrap ((IntKind.u32.wrap ((s.getD 1 0).toNat : Int)) * 65536))).toNat))),(24,.v (.slice A s.length c))] 6 (qaa qag) (fun _ h=>h ▸ aa.cells) rfl az fun bi aA=>?_
 obtain ⟨aP,aQ,aB,aR,ag⟩:=Slots.get ho (i:=0) (by omega)
 refine qaV aA (i:=17) (t:=22) (A:=A) (m:=s.length) (q:=0) (d:=25) kz (e:=5) (size:=1) (bytes:=1) (j:=0) kz aB rfl (by omega) kz kz (qaa qag) rfl fun bj aC=>?_
 refine qbb aC (i:=18) (t:=5) (b:=aP) (o:=aQ + 0 * 1) (d:=26) kz (cs:=[.int .u8 ((s.getD 0 0).toNat : Int)]) (v:=.int .u8 ((s.getD 0 0).toNat : Int)) kz (fun w' h'=>h' ▸ (AtF.move ag aa.step nilM qbc).at_) kz kz (qaa qag) rfl fun bk aD=>?_
 refine qaI [19,20,21,22] [(4,.v (.int .u32 (IntKind.u32.wrap (BitVec.ofInt 32 (IntKind.u32.wrap (BitVec.ofInt 32 (IntKind.u32.wrap (BitVec.ofInt 32 (IntKind.u32.wrap ((s.getD 3 0).toNat : Int)) ||| BitVec.ofInt 32 (IntKind.u32.wrap ((IntKind.u32.wrap ((s.getD 2 0).toNat : Int)) * 256))).toNat) ||| BitVec.ofInt 32 (IntKind.u32.wrap ((IntKind.u32.wrap ((s.getD 1 0).toNat : Int)) * 65536))).toNat) ||| BitVec.ofInt 32 (IntKind.u32.wrap ((IntKind.u32.wrap ((s.getD 0 0).toNat : Int)) * 16777216))).toNat)))] 0 (qaa qag) (fun _ h=>h ▸ aa.cells) rfl aD fun bn aE=>?_
 refine qaF kz ?_ _
 refine qab ?_
 refine wp_ret ?_
 refine qaK aE aa.cells (v:=.int .u32 (IntKind.u32.wrap (BitVec.ofInt 32 (IntKind.u32.wrap (BitVec.ofInt 32 (IntKind.u32.wrap (BitVec.ofInt 32 (IntKind.u32.wrap ((s.getD 3 0).toNat : Int)) ||| BitVec.ofInt 32 (IntKind.u32.wrap ((IntKind.u32.wrap ((s.getD 2 0).toNat : Int)) * 256))).toNat) ||| BitVec.ofInt 32 (IntKind.u32.wrap ((IntKind.u32.wrap ((s.getD 1 0).toNat : Int)) * 65536))).toNat) ||| BitVec.ofInt 32 (IntKind.u32.wrap ((IntKind.u32.wrap ((s.getD 0 0).toNat : Int)) * 16777216))).toNat)) kz ?_
 exact ⟨congrArg Ending.returned (congrArg (Value.int IntKind.u32) (qlt (oc s 0) (oc s 1) (oc s 2) (oc s 3) ob0 ob1 ob2 ob3)),aa.step⟩
theorem qhI (x : Int) (rest : Bs)  {br : Nat} {A : Option Addr} {m c : Nat} {w : World} {F : Nat → Nat → Prop} (hst : Str w br [.slice A m c,.bool false]) (hr : RdS w F A m c (be 2 x ++ rest)) (hFd : ∀ b o,F b o → ¬ RdM br b o) :
  Calls Tryz.prog 197 #[.pointer (some ⟨br,0,none⟩)] w (RdPost w br F rest fun v w'=>v = .int .i16 (IntKind.i16.wrap x)):=by
 obtain ⟨hm,ho⟩:=hr
 subst hm
 have hle:=ho.le
 refine enter (n:=32) Tryz.func197 rfl Tryz.ntmps197 kz fun a hE=>?_
 have hW : WOk w (RdM br) w [⟨br,0,[.slice A ((be 2 x ++ rest).length) c,.bool false],true⟩] []:=WOk.startStr hst
 have hE1:=(hE.grow ⟨br,0,[.slice A ((be 2 x ++ rest).length) c,.bool false],true⟩).recast 0 (.v (.pointer (some ⟨br,0,none⟩))) (.p 0 0) rfl rfl (Nat.le_of_ble_eq_true (n:=1) rfl)
 refine qaq [(0,.p 0 0)] hW hE1 fun a1 hE2=>?_
 refine wp_seq ?_
 refine qaq [(0,.p 0 0),(9,.v (.bool (decide ((((be 2 x ++ rest).length : Nat) : Int) < 2))))] hW hE2 fun a3 hE4=>?_
 refine qar hE4 (b:=decide ((((be 2 x ++ rest).length : Nat) : Int) < 2)) kz (decide_eq_false (by first | omega | (simp only [List.length_append,be_length,List.length_cons,List.length_nil] at *; omega))) ?_
 refine wp_skip ?_
 refine qab ?_
 refine qaL 7 kz hW fun w5 hF6 hW7 hT8=>?_
 refine qaI [1,2,3,4] [(0,.p 0 0),(20,.v (.slice A ((be 2 x ++ rest).length) c))] 4 (qaa qag) (fun _ h=>h.cells) hT8 hE4 fun a9 af=>?_
 refine qbb af (i:=0) (t:=246) (b:=1) (o:=0) (d:=16) kz (cs:=[]) (v:=.agg #[]) kz (fun w' h'=>(fun j_ v_ h_=>by simp at h_)) kz kz (qaa qag) hT8 fun av ag=>?_
 refine qaw (i:=5) kz (qam ag (f:=232) (vs:=[.agg #[],.slice A ((be 2 x ++ rest).length) c]) (d:=21) kz Tryz.call232 (qlW _ (ho.move hW7.step (fun b_ o_ h_ _=>hFd b_ o_ h_) (hW7.immM hFd)) (by first | omega | (simp only [List.length_append,be_length,List.length_cons,List.length_nil] at *; omega))) ?_)
 rintro e_ aw ⟨rfl,ac⟩
 refine ⟨_,rfl,fun ax ah=>?_⟩
 have aa:=hW7.next_nil ac
 have ai:=hW7.frN ac
 have ae:=TT.ofW ai aa
 refine ⟨fun _=>ae,?_⟩
 refine qaI [6] [(0,.p 0 0),(22,.v (.int .i16 (IntKind.i16.wrap (be16 (be 2 x ++ rest)))))] 1 (qaa qag) (fun _ h=>h.cells) ae ah fun ay aj=>?_
 refine qaw (i:=7) kz (qbl [0,3] aa.cells aj (env':=[(0,.p 0 0),(3,.v (.int .i16 (IntKind.i16.wrap (be16 (be 2 x ++ rest)))))]) kz fun az ak=>?_)
 refine ⟨fun h=>absurd rfl h,?_⟩
 refine qaF kz ?_ _
 refine qab ?_
 refine qae [0,1,2,3,4,5,6,7,8] kz ?_
 refine qal [0,1,2,3,4] [5,6,7,8] [(3,.v (.int .i16 (IntKind.i16.wrap (be16 (be 2 x ++ rest))))),(23,.p 0 0),(27,.v (.slice A ((be 2 x ++ rest).length) c))] aa ak fun aA al=>?_
 refine qan (qdk al (t:=22) (A:=A) (m:=((be 2 x ++ rest).length)) (cp:=c) (q:=2) (d:=28) (j:=2) kz (e:=5) (bytes:=1) kz (rfl) (by first | omega | (simp only [List.length_append,be_length,List.length_cons,List.length_nil] at *; omega)) fun aB am=>?_)
 refine qal [6,7] [8] [(3,.v (.int .i16 (IntKind.i16.wrap (be16 (be 2 x ++ rest))))),(28,.v (.slice (cutA A c 2) (((be 2 x ++ rest).length) - 2) (c - 2))),(30,.p 0 0)] aa am fun aC ao=>?_
 refine qan (qav aa ao (oi:=0) (cs:=[.slice (cutA A c 2) (((be 2 x ++ rest).length) - 2) (c - 2),.bool false]) kz fun aD au ab ap=>?_)
 refine qaf (qab ?_)
 refine qaq [(2,.v (.int .i16 (IntKind.i16.wrap (be16 (be 2 x ++ rest)))))] ab ap fun aE ar=>?_
 refine wp_ret ?_
 refine qaK ar ab.cells (v:=.int .i16 (IntKind.i16.wrap (be16 (be 2 x ++ rest)))) kz ?_
 exact ⟨_,_,_,_,rfl,Str.of ab 0 rfl,RdS.drop (s:=be 2 x) ⟨rfl,ho.move ab.step (fun b_ o_ h_ _=>hFd b_ o_ h_) qbc⟩ (by simp only [be_length,List.length_cons,List.length_nil]),ab.step,by rw [qk0,qk2]⟩
theorem qkw (x : Int) (rest : Bs)  {br : Nat} {A : Option Addr} {m c : Nat} {w : World} {F : Nat → Nat → Prop} (hst : Str w br [.slice A m c,.bool false]) (hr : RdS w F A m c (be 4 x ++ rest)) (hFd : ∀ b o,F b o → ¬ RdM br b o) :
  Calls Tryz.prog 195 #[.pointer (some ⟨br,0,none⟩)] w (RdPost w br F rest fun v w'=>v = .int .i32 (IntKind.i32.wrap x)):=by
 obtain ⟨hm,ho⟩:=hr
 subst hm
 have hle:=ho.le
 refine enter (n:=32) Tryz.func195 rfl Tryz.ntmps195 kz fun a hE=>?_
 have hW : WOk w (RdM br) w [⟨br,0,[.slice A ((be 4 x ++ rest).length) c,.bool false],true⟩] []:=WOk.startStr hst
 have hE1:=(hE.grow ⟨br,0,[.slice A ((be 4 x ++ rest).length) c,.bool false],true⟩).recast 0 (.v (.pointer (some ⟨br,0,none⟩))) (.p 0 0) rfl rfl (Nat.le_of_ble_eq_true (n:=1) rfl)
 refine qaq [(0,.p 0 0)] hW hE1 fun a1 hE2=>?_
 refine wp_seq ?_
 refine qaq [(0,.p 0 0),(9,.v (.bool (decide ((((be 4 x ++ rest).length : Nat) : Int) < 4))))] hW hE2 fun a3 hE4=>?_
 refine qar hE4 (b:=decide ((((be 4 x ++ rest).length : Nat) : Int) < 4)) kz (decide_eq_false (by first | omega | (simp only [List.length_append,be_length,List.length_cons,List.length_nil] at *; omega))) ?_
 refine wp_skip ?_
 refine qab ?_
 refine qaL 7 kz hW fun w5 hF6 hW7 hT8=>?_
 refine qaI [1,2,3,4] [(0,.p 0 0),(20,.v (.slice A ((be 4 x ++ rest).length) c))] 4 (qaa qag) (fun _ h=>h.cells) hT8 hE4 fun a9 af=>?_
 refine qbb af (i:=0) (t:=246) (b:=1) (o:=0) (d:=16) kz (cs:=[]) (v:=.agg #[]) kz (fun w' h'=>(fun j_ v_ h_=>by simp at h_)) kz kz (qaa qag) hT8 fun av ag=>?_
 refine qaw (i:=5) kz (qam ag (f:=231) (vs:=[.agg #[],.slice A ((be 4 x ++ rest).length) c]) (d:=21) kz Tryz.call231 (qlX _ (ho.move hW7.step (fun b_ o_ h_ _=>hFd b_ o_ h_) (hW7.immM hFd)) (by first | omega | (simp only [List.length_append,be_length,List.length_cons,List.length_nil] at *; omega))) ?_)
 rintro e_ aw ⟨rfl,ac⟩
 refine ⟨_,rfl,fun ax ah=>?_⟩
 have aa:=hW7.next_nil ac
 have ai:=hW7.frN ac
 have ae:=TT.ofW ai aa
 refine ⟨fun _=>ae,?_⟩
 refine qaI [6] [(0,.p 0 0),(22,.v (.int .i32 (IntKind.i32.wrap (be32 (be 4 x ++ rest)))))] 1 (qaa qag) (fun _ h=>h.cells) ae ah fun ay aj=>?_
 refine qaw (i:=7) kz (qbl [0,3] aa.cells aj (env':=[(0,.p 0 0),(3,.v (.int .i32 (IntKind.i32.wrap (be32 (be 4 x ++ rest)))))]) kz fun az ak=>?_)
 refine ⟨fun h=>absurd rfl h,?_⟩
 refine qaF kz ?_ _
 refine qab ?_
 refine qae [0,1,2,3,4,5,6,7,8] kz ?_
 refine qal [0,1,2,3,4] [5,6,7,8] [(3,.v (.int .i32 (IntKind.i32.wrap (be32 (be 4 x ++ rest))))),(23,.p 0 0),(27,.v (.slice A ((be 4 x ++ rest).length) c))] aa ak fun aA al=>?_
 refine qan (qdk al (t:=22) (A:=A) (m:=((be 4 x ++ rest).length)) (cp:=c) (q:=4) (d:=28) (j:=4) kz (e:=5) (bytes:=1) kz (rfl) (by first | omega | (simp only [List.length_append,be_length,List.length_cons,List.length_nil] at *; omega)) fun aB am=>?_)
 refine qal [6,7] [8] [(3,.v (.int .i32 (IntKind.i32.wrap (be32 (be 4 x ++ rest))))),(28,.v (.slice (cutA A c 4) (((be 4 x ++ rest).length) - 4) (c - 4))),(30,.p 0 0)] aa am fun aC ao=>?_
 refine qan (qav aa ao (oi:=0) (cs:=[.slice (cutA A c 4) (((be 4 x ++ rest).length) - 4) (c - 4),.bool false]) kz fun aD au ab ap=>?_)
 refine qaf (qab ?_)
 refine qaq [(2,.v (.int .i32 (IntKind.i32.wrap (be32 (be 4 x ++ rest)))))] ab ap fun aE ar=>?_
 refine wp_ret ?_
 refine qaK ar ab.cells (v:=.int .i32 (IntKind.i32.wrap (be32 (be 4 x ++ rest)))) kz ?_
 exact ⟨_,_,_,_,rfl,Str.of ab 0 rfl,RdS.drop (s:=be 4 x) ⟨rfl,ho.move ab.step (fun b_ o_ h_ _=>hFd b_ o_ h_) qbc⟩ (by simp only [be_length,List.length_cons,List.length_nil]),ab.step,by rw [qk1,qk3]⟩
theorem rUv1 {A : Option Addr} {c : Nat} (s : Bs) {w : World} {F : Nat → Nat → Prop} (ho : Octs w F A c s) (hl : 1 ≤ s.length) (d0 : Nat) (h0 : oc s 0 = d0) (g0 : d0 < 128) :
  Calls Tryz.prog 238 #[.slice A s.length c] w (qcj w (.tuple #[.int .u32 ((d0 : Nat) : Int),.int .i64 1])):=by
 refine enter (n:=87) Tryz.func238 rfl Tryz.ntmps238 kz fun a hE=>?_
 have hW:=WOk.start w Nil
 refine qaq [(0,.v (.slice A s.length c))] hW hE fun a1 hE2=>?_
 refine wp_scope_straight ?_
 refine qaq [(0,.v (.slice A s.length c))] hW hE2 fun a3 hE4=>?_
 refine qaq [(0,.v (.slice A s.length c))] hW hE4 fun a5 hE6=>?_
 refine wp_seq ?_
 refine qaq [(0,.v (.slice A s.length c)),(8,.v (.bool (decide (((s.length : Nat) : Int) < 1))))] hW hE6 fun a7 hE8=>?_
 refine qar hE8 (b:=decide (((s.length : Nat) : Int) < 1)) kz (decide_eq_false (by omega)) ?_
 refine wp_skip ?_
 refine qab ?_
 refine qae [0,1,2,3,4,5] kz ?_
 refine qal [0] [1,2,3,4,5] [(0,.v (.slice A s.length c)),(9,.v (.slice A s.length c))] hW hE8 fun a9 ae=>?_
 obtain ⟨am,ao,ab,ap,aa⟩:=Slots.get ho (i:=0) (by first | omega | (simp only [List.length_append,be_length,List.length_cons,List.length_nil] at *; omega))
 refine qan (qaC ae (t:=22) (A:=A) (m:=s.length) (q:=0) (d:=10) kz (e:=5) (size:=1) (bytes:=1) (j:=0) kz ab rfl (by first | omega | (simp only [List.length_append,be_length,List.length_cons,List.length_nil] at *; omega)) fun ar af=>?_)
 refine qan (qaQ af (t:=5) (b:=am) (o:=ao + 0 * 1) (d:=11) kz (cs:=[.int .u8 ((s.getD 0 0).toNat : Int)]) (v:=.int .u8 ((s.getD 0 0).toNat : Int)) kz (AtF.move aa hW.step nilM qbc).at_ fun au ag=>?_)
 refine qal [3,4,5] [] [(0,.v (.slice A s.length c)),(4,.v (.int .u32 (IntKind.u32.wrap (IntKind.u8.wrap (BitVec.ofInt 8 ((s.getD 0 0).toNat : Int) &&& BitVec.ofInt 8 127).toNat))))] hW ag fun av ah=>?_
 refine qaf (qab ?_)
 refine wp_seq ?_
 refine qae [0,1,2,3,4] kz ?_
 refine qal [0] [1,2,3,4] [(0,.v (.slice A s.length c)),(4,.v (.int .u32 (IntKind.u32.wrap (IntKind.u8.wrap (BitVec.ofInt 8 ((s.getD 0 0).toNat : Int) &&& BitVec.ofInt 8 127).toNat)))),(14,.v (.slice A s.length c))] hW ah fun aw ai=>?_
 refine qan (qaC ai (t:=22) (A:=A) (m:=s.length) (q:=0) (d:=15) kz (e:=5) (size:=1) (bytes:=1) (j:=0) kz ab rfl (by first | omega | (simp only [List.length_append,be_length,List.length_cons,List.length_nil] at *; omega)) fun ax aj=>?_)
 refine qan (qaQ aj (t:=5) (b:=am) (o:=ao + 0 * 1) (d:=16) kz (cs:=[.int .u8 ((s.getD 0 0).toNat : Int)]) (v:=.int .u8 ((s.getD 0 0).toNat : Int)) kz (AtF.move aa hW.step nilM qbc).at_ fun ay ak=>?_)
 refine qal [3,4] [] [(0,.v (.slice A s.length c)),(4,.v (.int .u32 (IntKind.u32.wrap (IntKind.u8.wrap (BitVec.ofInt 8 ((s.getD 0 0).toNat : Int) &&& BitVec.ofInt 8 127).toNat)))),(18,.v (.bool ((IntKind.u8.wrap (BitVec.ofInt 8 ((s.getD 0 0).toNat : Int) &&& BitVec.ofInt 8 128).toNat) == 0)))] hW ak fun az ac=>?_
 refine qaf (qab ?_)
 refine qa8 ac (b:=(IntKind.u8.wrap (BitVec.ofInt 8 ((s.getD 0 0).toNat : Int) &&& BitVec.ofInt 8 128).toNat) == 0) kz ((qc3 _ (qb8 s 0)).trans (decide_eq_true (by have:=h0; unfold oc at this; omega))) ?_
 refine qaq [(2,.v (.int .u32 (IntKind.u32.wrap (IntKind.u8.wrap (BitVec.ofInt 8 ((s.getD 0 0).toNat : Int) &&& BitVec.ofInt 8 127).toNat)))),(3,.v (.int .i64 1))] hW ac fun aA al=>?_
 refine wp_ret ?_
 refine qap ?_
 refine qdD ?_
 refine qaK al hW.cells (v:=.tuple #[.int .u32 (IntKind.u32.wrap (IntKind.u8.wrap (BitVec.ofInt 8 ((s.getD 0 0).toNat : Int) &&& BitVec.ofInt 8 127).toNat)),.int .i64 1]) kz ?_
 have e_:=uv_1 (oc s 0) (qb8 s 0)
 refine ⟨congrArg (fun z_ : Int=>Ending.returned (.tuple #[.int .u32 z_,.int .i64 1])) (Eq.trans e_ ?_),hW.step⟩
 omega
theorem rUv2 {A : Option Addr} {c : Nat} (s : Bs) {w : World} {F : Nat → Nat → Prop} (ho : Octs w F A c s) (hl : 2 ≤ s.length) (d0 d1 : Nat) (h0 : oc s 0 = d0 + 128) (h1 : oc s 1 = d1) (g0 : d0 < 128) (g1 : d1 < 128) :
  Calls Tryz.prog 238 #[.slice A s.length c] w (qcj w (.tuple #[.int .u32 ((d0 + d1 * 128 : Nat) : Int),.int .i64 2])):=by
 refine enter (n:=87) Tryz.func238 rfl Tryz.ntmps238 kz fun a hE=>?_
 have hW:=WOk.start w Nil
 refine qaq [(0,.v (.slice A s.length c))] hW hE fun a1 hE2=>?_
 refine wp_scope_straight ?_
 refine qaq [(0,.v (.slice A s.length c))] hW hE2 fun a3 hE4=>?_
 refine qaq [(0,.v (.slice A s.length c))] hW hE4 fun a5 hE6=>?_
 refine wp_seq ?_
 refine qaq [(0,.v (.slice A s.length c)),(8,.v (.bool (decide (((s.length : Nat) : Int) < 1))))] hW hE6 fun a7 hE8=>?_
 refine qar hE8 (b:=decide (((s.length : Nat) : Int) < 1)) kz (decide_eq_false (by omega)) ?_
 refine wp_skip ?_
 refine qab ?_
 refine qae [0,1,2,3,4,5] kz ?_
 refine qal [0] [1,2,3,4,5] [(0,.v (.slice A s.length c)),(9,.v (.slice A s.length c))] hW hE8 fun a9 ai=>?_
 obtain ⟨aB,aC,ac,aF,aa⟩:=Slots.get ho (i:=0) (by first | omega | (simp only [List.length_append,be_length,List.length_cons,List.length_nil] at *; omega))
 refine qan (qaC ai (t:=22) (A:=A) (m:=s.length) (q:=0) (d:=10) kz (e:=5) (size:=1) (bytes:=1) (j:=0) kz ac rfl (by first | omega | (simp only [List.length_append,be_length,List.length_cons,List.length_nil] at *; omega)) fun aH aj=>?_)
 refine qan (qaQ aj (t:=5) (b:=aB) (o:=aC + 0 * 1) (d:=11) kz (cs:=[.int .u8 ((s.getD 0 0).toNat : Int)]) (v:=.int .u8 ((s.getD 0 0).toNat : Int)) kz (AtF.move aa hW.step nilM qbc).at_ fun aI ak=>?_)
 refine qal [3,4,5] [] [(0,.v (.slice A s.length c)),(4,.v (.int .u32 (IntKind.u32.wrap (IntKind.u8.wrap (BitVec.ofInt 8 ((s.getD 0 0).toNat : Int) &&& BitVec.ofInt 8 127).toNat))))] hW ak fun aJ al=>?_
 refine qaf (qab ?_)
 refine wp_seq ?_
 refine qae [0,1,2,3,4] kz ?_
 refine qal [0] [1,2,3,4] [(0,.v (.slice A s.length c)),(4,.v (.int .u32 (IntKind.u32.wrap (IntKind.u8.wrap (BitVec.ofInt 8 ((s.getD 0 0).toNat : Int) &&& BitVec.ofInt 8 127).toNat)))),(14,.v (.slice A s.length c))] hW al fun aK am=>?_
 refine qan (qaC am (t:=22) (A:=A) (m:=s.length) (q:=0) (d:=15) kz (e:=5) (size:=1) (bytes:=1) (j:=0) kz ac rfl (by first | omega | (simp only [List.length_append,be_length,List.length_cons,List.length_nil] at *; omega)) fun aL ao=>?_)
 refine qan (qaQ ao (t:=5) (b:=aB) (o:=aC + 0 * 1) (d:=16) kz (cs:=[.int .u8 ((s.getD 0 0).toNat : Int)]) (v:=.int .u8 ((s.getD 0 0).toNat : Int)) kz (AtF.move aa hW.step nilM qbc).at_ fun aM ap=>?_)
 refine qal [3,4] [] [(0,.v (.slice A s.length c)),(4,.v (.int .u32 (IntKind.u32.wrap (IntKind.u8.wrap (BitVec.ofInt 8 ((s.getD 0 0).toNat : Int) &&& BitVec.ofInt 8 127).toNat)))),(18,.v (.bool ((IntKind.u8.wrap (BitVec.ofInt 8 ((s.getD 0 0).toNat : Int) &&& BitVec.ofInt 8 128).toNat) == 0)))] hW ap fun aN ae=>?_
 refine qaf (qab ?_)
 refine qar ae (b:=(IntKind.u8.wrap (BitVec.ofInt 8 ((s.getD 0 0).toNat : Int) &&& BitVec.ofInt 8 128).toNat) == 0) kz ((qc3 _ (qb8 s 0)).trans (decide_eq_false (by have:=h0; unfold oc at this; omega))) ?_
 refine qaq [(0,.v (.slice A s.length c)),(4,.v (.int .u32 (IntKind.u32.wrap (IntKind.u8.wrap (BitVec.ofInt 8 ((s.getD 0 0).toNat : Int) &&& BitVec.ofInt 8 127).toNat)))),(22,.v (.bool (decide (((s.length : Nat) : Int) < 2))))] hW ae fun aO af=>?_
 refine qar af (b:=decide (((s.length : Nat) : Int) < 2)) kz (decide_eq_false (by omega)) ?_
 refine wp_skip ?_
 refine qab ?_
 refine qae [0,1,2,3,4,5,6,7,8] kz ?_
 refine qal [0,1] [2,3,4,5,6,7,8] [(0,.v (.slice A s.length c)),(23,.v (.int .u32 (IntKind.u32.wrap (IntKind.u8.wrap (BitVec.ofInt 8 ((s.getD 0 0).toNat : Int) &&& BitVec.ofInt 8 127).toNat)))),(24,.v (.slice A s.length c))] hW af fun aP ar=>?_
 obtain ⟨aD,aE,ag,aG,ab⟩:=Slots.get ho (i:=1) (by first | omega | (simp only [List.length_append,be_length,List.length_cons,List.length_nil] at *; omega))
 refine qan (qaC ar (t:=22) (A:=A) (m:=s.length) (q:=1) (d:=25) kz (e:=5) (size:=1) (bytes:=1) (j:=1) kz ag rfl (by first | omega | (simp only [List.length_append,be_length,List.length_cons,List.length_nil] at *; omega)) fun aQ au=>?_)
 refine qan (qaQ au (t:=5) (b:=aD) (o:=aE + 1 * 1) (d:=26) kz (cs:=[.int .u8 ((s.getD 1 0).toNat : Int)]) (v:=.int .u8 ((s.getD 1 0).toNat : Int)) kz (AtF.move ab hW.step nilM qbc).at_ fun aR av=>?_)
 refine qal [4,5,6,7,8] [] [(0,.v (.slice A s.length c)),(4,.v (.int .u32 (IntKind.u32.wrap (BitVec.ofInt 32 (IntKind.u32.wrap (IntKind.u8.wrap (BitVec.ofInt 8 ((s.getD 0 0).toNat : Int) &&& BitVec.ofInt 8 127).toNat)) ||| BitVec.ofInt 32 (IntKind.u32.wrap ((IntKind.u32.wrap (IntKind.u8.wrap (BitVec.ofInt 8 ((s.getD 1 0).toNat : Int) &&& BitVec.ofInt 8 127).toNat)) * 128))).toNat)))] hW av fun aS aw=>?_
 refine qaf (qab ?_)
 refine wp_seq ?_
 refine qae [0,1,2,3,4] kz ?_
 refine qal [0] [1,2,3,4] [(0,.v (.slice A s.length c)),(4,.v (.int .u32 (IntKind.u32.wrap (BitVec.ofInt 32 (IntKind.u32.wrap (IntKind.u8.wrap (BitVec.ofInt 8 ((s.getD 0 0).toNat : Int) &&& BitVec.ofInt 8 127).toNat)) ||| BitVec.ofInt 32 (IntKind.u32.wrap ((IntKind.u32.wrap (IntKind.u8.wrap (BitVec.ofInt 8 ((s.getD 1 0).toNat : Int) &&& BitVec.ofInt 8 127).toNat)) * 128))).toNat))),(31,.v (.slice A s.length c))] hW aw fun aT ax=>?_
 refine qan (qaC ax (t:=22) (A:=A) (m:=s.length) (q:=1) (d:=32) kz (e:=5) (size:=1) (bytes:=1) (j:=1) kz ag rfl (by first | omega | (simp only [List.length_append,be_length,List.length_cons,List.length_nil] at *; omega)) fun aU ay=>?_)
 refine qan (qaQ ay (t:=5) (b:=aD) (o:=aE + 1 * 1) (d:=33) kz (cs:=[.int .u8 ((s.getD 1 0).toNat : Int)]) (v:=.int .u8 ((s.getD 1 0).toNat : Int)) kz (AtF.move ab hW.step nilM qbc).at_ fun aV az=>?_)
 refine qal [3,4] [] [(0,.v (.slice A s.length c)),(4,.v (.int .u32 (IntKind.u32.wrap (BitVec.ofInt 32 (IntKind.u32.wrap (IntKind.u8.wrap (BitVec.ofInt 8 ((s.getD 0 0).toNat : Int) &&& BitVec.ofInt 8 127).toNat)) ||| BitVec.ofInt 32 (IntKind.u32.wrap ((IntKind.u32.wrap (IntKind.u8.wrap (BitVec.ofInt 8 ((s.getD 1 0).toNat : Int) &&& BitVec.ofInt 8 127).toNat)) * 128))).toNat))),(35,.v (.bool ((IntKind.u8.wrap (BitVec.ofInt 8 ((s.getD 1 0).toNat : Int) &&& BitVec.ofInt 8 128).toNat) == 0)))] hW az fun aW ah=>?_
 refine qaf (qab ?_)
 refine qa8 ah (b:=(IntKind.u8.wrap (BitVec.ofInt 8 ((s.getD 1 0).toNat : Int) &&& BitVec.ofInt 8 128).toNat) == 0) kz ((qc3 _ (qb8 s 1)).trans (decide_eq_true (by have:=h1; unfold oc at this; omega))) ?_
 refine qaq [(2,.v (.int .u32 (IntKind.u32.wrap (BitVec.ofInt 32 (IntKind.u32.wrap (IntKind.u8.wrap (BitVec.ofInt 8 ((s.getD 0 0).toNat : Int) &&& BitVec.ofInt 8 127).toNat)) ||| BitVec.ofInt 32 (IntKind.u32.wrap ((IntKind.u32.wrap (IntKind.u8.wrap (BitVec.ofInt 8 ((s.getD 1 0).toNat : Int) &&& BitVec.ofInt 8 127).toNat)) * 128))).toNat))),(3,.v (.int .i64 2))] hW ah fun aX aA=>?_
 refine wp_ret ?_
 refine qap ?_
 refine qdD ?_
 refine qaK aA hW.cells (v:=.tuple #[.int .u32 (IntKind.u32.wrap (BitVec.ofInt 32 (IntKind.u32.wrap (IntKind.u8.wrap (BitVec.ofInt 8 ((s.getD 0 0).toNat : Int) &&& BitVec.ofInt 8 127).toNat)) ||| BitVec.ofInt 32 (IntKind.u32.wrap ((IntKind.u32.wrap (IntKind.u8.wrap (BitVec.ofInt 8 ((s.getD 1 0).toNat : Int) &&& BitVec.ofInt 8 127).toNat)) * 128))).toNat),.int .i64 2]) kz ?_
 have e_:=uv_2 (oc s 0) (oc s 1) (qb8 s 0) (qb8 s 1)
 refine ⟨congrArg (fun z_ : Int=>Ending.returned (.tuple #[.int .u32 z_,.int .i64 2])) (Eq.trans e_ ?_),hW.step⟩
 omega
theorem rUv3 {A : Option Addr} {c : Nat} (s : Bs) {w : World} {F : Nat → Nat → Prop} (ho : Octs w F A c s) (hl : 3 ≤ s.length) (d0 d1 d2 : Nat) (h0 : oc s 0 = d0 + 128) (h1 : oc s 1 = d1 + 128) (h2 : oc s 2 = d2) (g0 : d0 < 128) (g1 : d1 < 128) (g2 : d2 < 128) :
  Calls Tryz.prog 238 #[.slice A s.length c] w (qcj w (.tuple #[.int .u32 ((d0 + d1 * 128 + d2 * 16384 : Nat) : Int),.int .i64 3])):=by
 refine enter (n:=87) Tryz.func238 rfl Tryz.ntmps238 kz fun a hE=>?_
 have hW:=WOk.start w Nil
 refine qaq [(0,.v (.slice A s.length c))] hW hE fun a1 hE2=>?_
 refine wp_scope_straight ?_
 refine qaq [(0,.v (.slice A s.length c))] hW hE2 fun a3 hE4=>?_
 refine qaq [(0,.v (.slice A s.length c))] hW hE4 fun a5 hE6=>?_
 refine wp_seq ?_
 refine qaq [(0,.v (.slice A s.length c)),(8,.v (.bool (decide (((s.length : Nat) : Int) < 1))))] hW hE6 fun a7 hE8=>?_
 refine qar hE8 (b:=decide (((s.length : Nat) : Int) < 1)) kz (decide_eq_false (by omega)) ?_
 refine wp_skip ?_
 refine qab ?_
 refine qae [0,1,2,3,4,5] kz ?_
 refine qal [0] [1,2,3,4,5] [(0,.v (.slice A s.length c)),(9,.v (.slice A s.length c))] hW hE8 fun a9 am=>?_
 obtain ⟨aM,aN,ae,aS,aa⟩:=Slots.get ho (i:=0) (by first | omega | (simp only [List.length_append,be_length,List.length_cons,List.length_nil] at *; omega))
 refine qan (qaC am (t:=22) (A:=A) (m:=s.length) (q:=0) (d:=10) kz (e:=5) (size:=1) (bytes:=1) (j:=0) kz ae rfl (by first | omega | (simp only [List.length_append,be_length,List.length_cons,List.length_nil] at *; omega)) fun aV ao=>?_)
 refine qan (qaQ ao (t:=5) (b:=aM) (o:=aN + 0 * 1) (d:=11) kz (cs:=[.int .u8 ((s.getD 0 0).toNat : Int)]) (v:=.int .u8 ((s.getD 0 0).toNat : Int)) kz (AtF.move aa hW.step nilM qbc).at_ fun aW ap=>?_)
 refine qal [3,4,5] [] [(0,.v (.slice A s.length c)),(4,.v (.int .u32 (IntKind.u32.wrap (IntKind.u8.wrap (BitVec.ofInt 8 ((s.getD 0 0).toNat : Int) &&& BitVec.ofInt 8 127).toNat))))] hW ap fun aX ar=>?_
 refine qaf (qab ?_)
 refine wp_seq ?_
 refine qae [0,1,2,3,4] kz ?_
 refine qal [0] [1,2,3,4] [(0,.v (.slice A s.length c)),(4,.v (.int .u32 (IntKind.u32.wrap (IntKind.u8.wrap (BitVec.ofInt 8 ((s.getD 0 0).toNat : Int) &&& BitVec.ofInt 8 127).toNat)))),(14,.v (.slice A s.length c))] hW ar fun aY au=>?_
 refine qan (qaC au (t:=22) (A:=A) (m:=s.length) (q:=0) (d:=15) kz (e:=5) (size:=1) (bytes:=1) (j:=0) kz ae rfl (by first | omega | (simp only [List.length_append,be_length,List.length_cons,List.length_nil] at *; omega)) fun aZ av=>?_)
 refine qan (qaQ av (t:=5) (b:=aM) (o:=aN + 0 * 1) (d:=16) kz (cs:=[.int .u8 ((s.getD 0 0).toNat : Int)]) (v:=.int .u8 ((s.getD 0 0).toNat : Int)) kz (AtF.move aa hW.step nilM qbc).at_ fun ba aw=>?_)
 refine qal [3,4] [] [(0,.v (.slice A s.length c)),(4,.v (.int .u32 (IntKind.u32.wrap (IntKind.u8.wrap (BitVec.ofInt 8 ((s.getD 0 0).toNat : Int) &&& BitVec.ofInt 8 127).toNat)))),(18,.v (.bool ((IntKind.u8.wrap (BitVec.ofInt 8 ((s.getD 0 0).toNat : Int) &&& BitVec.ofInt 8 128).toNat) == 0)))] hW aw fun bd af=>?_
 refine qaf (qab ?_)
 refine qar af (b:=(IntKind.u8.wrap (BitVec.ofInt 8 ((s.getD 0 0).toNat : Int) &&& BitVec.ofInt 8 128).toNat) == 0) kz ((qc3 _ (qb8 s 0)).trans (decide_eq_false (by have:=h0; unfold oc at this; omega))) ?_
 refine qaq [(0,.v (.slice A s.length c)),(4,.v (.int .u32 (IntKind.u32.wrap (IntKind.u8.wrap (BitVec.ofInt 8 ((s.getD 0 0).toNat : Int) &&& BitVec.ofInt 8 127).toNat)))),(22,.v (.bool (decide (((s.length : Nat) : Int) < 2))))] hW af fun bf ag=>?_
 refine qar ag (b:=decide (((s.length : Nat) : Int) < 2)) kz (decide_eq_false (by omega)) ?_
 refine wp_skip ?_
 refine qab ?_
 refine qae [0,1,2,3,4,5,6,7,8] kz ?_
 refine qal [0,1] [2,3,4,5,6,7,8] [(0,.v (.slice A s.length c)),(23,.v (.int .u32 (IntKind.u32.wrap (IntKind.u8.wrap (BitVec.ofInt 8 ((s.getD 0 0).toNat : Int) &&& BitVec.ofInt 8 127).toNat)))),(24,.v (.slice A s.length c))] hW ag fun bg ax=>?_
 obtain ⟨aO,aP,ah,aT,ab⟩:=Slots.get ho (i:=1) (by first | omega | (simp only [List.length_append,be_length,List.length_cons,List.length_nil] at *; omega))
 refine qan (qaC ax (t:=22) (A:=A) (m:=s.length) (q:=1) (d:=25) kz (e:=5) (size:=1) (bytes:=1) (j:=1) kz ah rfl (by first | omega | (simp only [List.length_append,be_length,List.length_cons,List.length_nil] at *; omega)) fun bh ay=>?_)
 refine qan (qaQ ay (t:=5) (b:=aO) (o:=aP + 1 * 1) (d:=26) kz (cs:=[.int .u8 ((s.getD 1 0).toNat : Int)]) (v:=.int .u8 ((s.getD 1 0).toNat : Int)) kz (AtF.move ab hW.step nilM qbc).at_ fun bi az=>?_)
 refine qal [4,5,6,7,8] [] [(0,.v (.slice A s.length c)),(4,.v (.int .u32 (IntKind.u32.wrap (BitVec.ofInt 32 (IntKind.u32.wrap (IntKind.u8.wrap (BitVec.ofInt 8 ((s.getD 0 0).toNat : Int) &&& BitVec.ofInt 8 127).toNat)) ||| BitVec.ofInt 32 (IntKind.u32.wrap ((IntKind.u32.wrap (IntKind.u8.wrap (BitVec.ofInt 8 ((s.getD 1 0).toNat : Int) &&& BitVec.ofInt 8 127).toNat)) * 128))).toNat)))] hW az fun bj aA=>?_
 refine qaf (qab ?_)
 refine wp_seq ?_
 refine qae [0,1,2,3,4] kz ?_
 refine qal [0] [1,2,3,4] [(0,.v (.slice A s.length c)),(4,.v (.int .u32 (IntKind.u32.wrap (BitVec.ofInt 32 (IntKind.u32.wrap (IntKind.u8.wrap (BitVec.ofInt 8 ((s.getD 0 0).toNat : Int) &&& BitVec.ofInt 8 127).toNat)) ||| BitVec.ofInt 32 (IntKind.u32.wrap ((IntKind.u32.wrap (IntKind.u8.wrap (BitVec.ofInt 8 ((s.getD 1 0).toNat : Int) &&& BitVec.ofInt 8 127).toNat)) * 128))).toNat))),(31,.v (.slice A s.length c))] hW aA fun bk aB=>?_
 refine qan (qaC aB (t:=22) (A:=A) (m:=s.length) (q:=1) (d:=32) kz (e:=5) (size:=1) (bytes:=1) (j:=1) kz ah rfl (by first | omega | (simp only [List.length_append,be_length,List.length_cons,List.length_nil] at *; omega)) fun bn aC=>?_)
 refine qan (qaQ aC (t:=5) (b:=aO) (o:=aP + 1 * 1) (d:=33) kz (cs:=[.int .u8 ((s.getD 1 0).toNat : Int)]) (v:=.int .u8 ((s.getD 1 0).toNat : Int)) kz (AtF.move ab hW.step nilM qbc).at_ fun bo aD=>?_)
 refine qal [3,4] [] [(0,.v (.slice A s.length c)),(4,.v (.int .u32 (IntKind.u32.wrap (BitVec.ofInt 32 (IntKind.u32.wrap (IntKind.u8.wrap (BitVec.ofInt 8 ((s.getD 0 0).toNat : Int) &&& BitVec.ofInt 8 127).toNat)) ||| BitVec.ofInt 32 (IntKind.u32.wrap ((IntKind.u32.wrap (IntKind.u8.wrap (BitVec.ofInt 8 ((s.getD 1 0).toNat : Int) &&& BitVec.ofInt 8 127).toNat)) * 128))).toNat))),(35,.v (.bool ((IntKind.u8.wrap (BitVec.ofInt 8 ((s.getD 1 0).toNat : Int) &&& BitVec.ofInt 8 128).toNat) == 0)))] hW aD fun bp ai=>?_
 refine qaf (qab ?_)
 refine qar ai (b:=(IntKind.u8.wrap (BitVec.ofInt 8 ((s.getD 1 0).toNat : Int) &&& BitVec.ofInt 8 128).toNat) == 0) kz ((qc3 _ (qb8 s 1)).trans (decide_eq_false (by have:=h1; unfold oc at this; omega))) ?_
 refine qaq [(0,.v (.slice A s.length c)),(4,.v (.int .u32 (IntKind.u32.wrap (BitVec.ofInt 32 (IntKind.u32.wrap (IntKind.u8.wrap (BitVec.ofInt 8 ((s.getD 0 0).toNat : Int) &&& BitVec.ofInt 8 127).toNat)) ||| BitVec.ofInt 32 (IntKind.u32.wrap ((IntKind.u32.wrap (IntKind.u8.wrap (BitVec.ofInt 8 ((s.getD 1 0).toNat : Int) &&& BitVec.ofInt 8 127).toNat)) * 128))).toNat))),(39,.v (.bool (decide (((s.length : Nat) : Int) < 3))))] hW ai fun bq aj=>?_
 refine qar aj (b:=decide (((s.length : Nat) : Int) < 3)) kz (decide_eq_false (by omega)) ?_
 refine wp_skip ?_
 refine qab ?_
 refine qae [0,1,2,3,4,5,6,7,8] kz ?_
 refine qal [0,1] [2,3,4,5,6,7,8] [(0,.v (.slice A s.length c)),(40,.v (.int .u32 (IntKind.u32.wrap (BitVec.ofInt 32 (IntKind.u32.wrap (IntKind.u8.wrap (BitVec.ofInt 8 ((s.getD 0 0).toNat : Int) &&& BitVec.ofInt 8 127).toNat)) ||| BitVec.ofInt 32 (IntKind.u32.wrap ((IntKind.u32.wrap (IntKind.u8.wrap (BitVec.ofInt 8 ((s.getD 1 0).toNat : Int) &&& BitVec.ofInt 8 127).toNat)) * 128))).toNat))),(41,.v (.slice A s.length c))] hW aj fun bt aE=>?_
 obtain ⟨aQ,aR,ak,aU,ac⟩:=Slots.get ho (i:=2) (by first | omega | (simp only [List.length_append,be_length,List.length_cons,List.length_nil] at *; omega))
 refine qan (qaC aE (t:=22) (A:=A) (m:=s.length) (q:=2) (d:=42) kz (e:=5) (size:=1) (bytes:=1) (j:=2) kz ak rfl (by first | omega | (simp only [List.length_append,be_length,List.length_cons,List.length_nil] at *; omega)) fun bu aF=>?_)
 refine qan (qaQ aF (t:=5) (b:=aQ) (o:=aR + 2 * 1) (d:=43) kz (cs:=[.int .u8 ((s.getD 2 0).toNat : Int)]) (v:=.int .u8 ((s.getD 2 0).toNat : Int)) kz (AtF.move ac hW.step nilM qbc).at_ fun bw aG=>?_)
 refine qal [4,5,6,7,8] [] [(0,.v (.slice A s.length c)),(4,.v (.int .u32 (IntKind.u32.wrap (BitVec.ofInt 32 (IntKind.u32.wrap (BitVec.ofInt 32 (IntKind.u32.wrap (IntKind.u8.wrap (BitVec.ofInt 8 ((s.getD 0 0).toNat : Int) &&& BitVec.ofInt 8 127).toNat)) ||| BitVec.ofInt 32 (IntKind.u32.wrap ((IntKind.u32.wrap (IntKind.u8.wrap (BitVec.ofInt 8 ((s.getD 1 0).toNat : Int) &&& BitVec.ofInt 8 127).toNat)) * 128))).toNat) ||| BitVec.ofInt 32 (IntKind.u32.wrap ((IntKind.u32.wrap (IntKind.u8.wrap (BitVec.ofInt 8 ((s.getD 2 0).toNat : Int) &&& BitVec.ofInt 8 127).toNat)) * 16384))).toNat)))] hW aG fun bx aH=>?_
 refine qaf (qab ?_)
 refine wp_seq ?_
 refine qae [0,1,2,3,4] kz ?_
 refine qal [0] [1,2,3,4] [(0,.v (.slice A s.length c)),(4,.v (.int .u32 (IntKind.u32.wrap (BitVec.ofInt 32 (IntKind.u32.wrap (BitVec.ofInt 32 (IntKind.u32.wrap (IntKind.u8.wrap (BitVec.ofInt 8 ((s.getD 0 0).toNat : Int) &&& BitVec.ofInt 8 127).toNat)) ||| BitVec.ofInt 32 (IntKind.u32.wrap ((IntKind.u32.wrap (IntKind.u8.wrap (BitVec.ofInt 8 ((s.getD 1 0).toNat : Int) &&& BitVec.ofInt 8 127).toNat)) * 128))).toNat) ||| BitVec.ofInt 32 (IntKind.u32.wrap ((IntKind.u32.wrap (IntKind.u8.wrap (BitVec.ofInt 8 ((s.getD 2 0).toNat : Int) &&& BitVec.ofInt 8 127).toNat)) * 16384))).toNat))),(48,.v (.slice A s.length c))] hW aH fun bz aI=>?_
 refine qan (qaC aI (t:=22) (A:=A) (m:=s.length) (q:=2) (d:=49) kz (e:=5) (size:=1) (bytes:=1) (j:=2) kz ak rfl (by first | omega | (simp only [List.length_append,be_length,List.length_cons,List.length_nil] at *; omega)) fun bA aJ=>?_)
 refine qan (qaQ aJ (t:=5) (b:=aQ) (o:=aR + 2 * 1) (d:=50) kz (cs:=[.int .u8 ((s.getD 2 0).toNat : Int)]) (v:=.int .u8 ((s.getD 2 0).toNat : Int)) kz (AtF.move ac hW.step nilM qbc).at_ fun bB aK=>?_)
 refine qal [3,4] [] [(0,.v (.slice A s.length c)),(4,.v (.int .u32 (IntKind.u32.wrap (BitVec.ofInt 32 (IntKind.u32.wrap (BitVec.ofInt 32 (IntKind.u32.wrap (IntKind.u8.wrap (BitVec.ofInt 8 ((s.getD 0 0).toNat : Int) &&& BitVec.ofInt 8 127).toNat)) ||| BitVec.ofInt 32 (IntKind.u32.wrap ((IntKind.u32.wrap (IntKind.u8.wrap (BitVec.ofInt 8 ((s.getD 1 0).toNat : Int) &&& BitVec.ofInt 8 127).toNat)) * 128))).toNat) ||| BitVec.ofInt 32 (IntKind.u32.wrap ((IntKind.u32.wrap (IntKind.u8.wrap (BitVec.ofInt 8 ((s.getD 2 0).toNat : Int) &&& BitVec.ofInt 8 127).toNat)) * 16384))).toNat))),(52,.v (.bool ((IntKind.u8.wrap (BitVec.ofInt 8 ((s.getD 2 0).toNat : Int) &&& BitVec.ofInt 8 128).toNat) == 0)))] hW aK fun bC al=>?_
 refine qaf (qab ?_)
 refine qa8 al (b:=(IntKind.u8.wrap (BitVec.ofInt 8 ((s.getD 2 0).toNat : Int) &&& BitVec.ofInt 8 128).toNat) == 0) kz ((qc3 _ (qb8 s 2)).trans (decide_eq_true (by have:=h2; unfold oc at this; omega))) ?_
 refine qaq [(2,.v (.int .u32 (IntKind.u32.wrap (BitVec.ofInt 32 (IntKind.u32.wrap (BitVec.ofInt 32 (IntKind.u32.wrap (IntKind.u8.wrap (BitVec.ofInt 8 ((s.getD 0 0).toNat : Int) &&& BitVec.ofInt 8 127).toNat)) ||| BitVec.ofInt 32 (IntKind.u32.wrap ((IntKind.u32.wrap (IntKind.u8.wrap (BitVec.ofInt 8 ((s.getD 1 0).toNat : Int) &&& BitVec.ofInt 8 127).toNat)) * 128))).toNat) ||| BitVec.ofInt 32 (IntKind.u32.wrap ((IntKind.u32.wrap (IntKind.u8.wrap (BitVec.ofInt 8 ((s.getD 2 0).toNat : Int) &&& BitVec.ofInt 8 127).toNat)) * 16384))).toNat))),(3,.v (.int .i64 3))] hW al fun bD aL=>?_
 refine wp_ret ?_
 refine qap ?_
 refine qdD ?_
 refine qaK aL hW.cells (v:=.tuple #[.int .u32 (IntKind.u32.wrap (BitVec.ofInt 32 (IntKind.u32.wrap (BitVec.ofInt 32 (IntKind.u32.wrap (IntKind.u8.wrap (BitVec.ofInt 8 ((s.getD 0 0).toNat : Int) &&& BitVec.ofInt 8 127).toNat)) ||| BitVec.ofInt 32 (IntKind.u32.wrap ((IntKind.u32.wrap (IntKind.u8.wrap (BitVec.ofInt 8 ((s.getD 1 0).toNat : Int) &&& BitVec.ofInt 8 127).toNat)) * 128))).toNat) ||| BitVec.ofInt 32 (IntKind.u32.wrap ((IntKind.u32.wrap (IntKind.u8.wrap (BitVec.ofInt 8 ((s.getD 2 0).toNat : Int) &&& BitVec.ofInt 8 127).toNat)) * 16384))).toNat),.int .i64 3]) kz ?_
 have e_:=uv_3 (oc s 0) (oc s 1) (oc s 2) (qb8 s 0) (qb8 s 1) (qb8 s 2)
 refine ⟨congrArg (fun z_ : Int=>Ending.returned (.tuple #[.int .u32 z_,.int .i64 3])) (Eq.trans e_ ?_),hW.step⟩
 omega
theorem rUv4 {A : Option Addr} {c : Nat} (s : Bs) {w : World} {F : Nat → Nat → Prop} (ho : Octs w F A c s) (hl : 4 ≤ s.length) (d0 d1 d2 d3 : Nat) (h0 : oc s 0 = d0 + 128) (h1 : oc s 1 = d1 + 128) (h2 : oc s 2 = d2 + 128) (h3 : oc s 3 = d3) (g0 : d0 < 128) (g1 : d1 < 128) (g2 : d2 < 128) (g3 : d3 < 128) :
  Calls Tryz.prog 238 #[.slice A s.length c] w (qcj w (.tuple #[.int .u32 ((d0 + d1 * 128 + d2 * 16384 + d3 * 2097152 : Nat) : Int),.int .i64 4])):=by
 refine enter (n:=87) Tryz.func238 rfl Tryz.ntmps238 kz fun a hE=>?_
 have hW:=WOk.start w Nil
 refine qaq [(0,.v (.slice A s.length c))] hW hE fun a1 hE2=>?_
 refine wp_scope_straight ?_
 refine qaq [(0,.v (.slice A s.length c))] hW hE2 fun a3 hE4=>?_
 refine qaq [(0,.v (.slice A s.length c))] hW hE4 fun a5 hE6=>?_
 refine wp_seq ?_
 refine qaq [(0,.v (.slice A s.length c)),(8,.v (.bool (decide (((s.length : Nat) : Int) < 1))))] hW hE6 fun a7 hE8=>?_
 refine qar hE8 (b:=decide (((s.length : Nat) : Int) < 1)) kz (decide_eq_false (by omega)) ?_
 refine wp_skip ?_
 refine qab ?_
 refine qae [0,1,2,3,4,5] kz ?_
 refine qal [0] [1,2,3,4,5] [(0,.v (.slice A s.length c)),(9,.v (.slice A s.length c))] hW hE8 fun a9 av=>?_
 obtain ⟨aX,aY,af,bi,aa⟩:=Slots.get ho (i:=0) (by first | omega | (simp only [List.length_append,be_length,List.length_cons,List.length_nil] at *; omega))
 refine qan (qaC av (t:=22) (A:=A) (m:=s.length) (q:=0) (d:=10) kz (e:=5) (size:=1) (bytes:=1) (j:=0) kz af rfl (by first | omega | (simp only [List.length_append,be_length,List.length_cons,List.length_nil] at *; omega)) fun bo aw=>?_)
 refine qan (qaQ aw (t:=5) (b:=aX) (o:=aY + 0 * 1) (d:=11) kz (cs:=[.int .u8 ((s.getD 0 0).toNat : Int)]) (v:=.int .u8 ((s.getD 0 0).toNat : Int)) kz (AtF.move aa hW.step nilM qbc).at_ fun bp ax=>?_)
 refine qal [3,4,5] [] [(0,.v (.slice A s.length c)),(4,.v (.int .u32 (IntKind.u32.wrap (IntKind.u8.wrap (BitVec.ofInt 8 ((s.getD 0 0).toNat : Int) &&& BitVec.ofInt 8 127).toNat))))] hW ax fun bq ay=>?_
 refine qaf (qab ?_)
 refine wp_seq ?_
 refine qae [0,1,2,3,4] kz ?_
 refine qal [0] [1,2,3,4] [(0,.v (.slice A s.length c)),(4,.v (.int .u32 (IntKind.u32.wrap (IntKind.u8.wrap (BitVec.ofInt 8 ((s.getD 0 0).toNat : Int) &&& BitVec.ofInt 8 127).toNat)))),(14,.v (.slice A s.length c))] hW ay fun bt az=>?_
 refine qan (qaC az (t:=22) (A:=A) (m:=s.length) (q:=0) (d:=15) kz (e:=5) (size:=1) (bytes:=1) (j:=0) kz af rfl (by first | omega | (simp only [List.length_append,be_length,List.length_cons,List.length_nil] at *; omega)) fun bu aA=>?_)
 refine qan (qaQ aA (t:=5) (b:=aX) (o:=aY + 0 * 1) (d:=16) kz (cs:=[.int .u8 ((s.getD 0 0).toNat : Int)]) (v:=.int .u8 ((s.getD 0 0).toNat : Int)) kz (AtF.move aa hW.step nilM qbc).at_ fun bw aB=>?_)
 refine qal [3,4] [] [(0,.v (.slice A s.length c)),(4,.v (.int .u32 (IntKind.u32.wrap (IntKind.u8.wrap (BitVec.ofInt 8 ((s.getD 0 0).toNat : Int) &&& BitVec.ofInt 8 127).toNat)))),(18,.v (.bool ((IntKind.u8.wrap (BitVec.ofInt 8 ((s.getD 0 0).toNat : Int) &&& BitVec.ofInt 8 128).toNat) == 0)))] hW aB fun bx ag=>?_
 refine qaf (qab ?_)
 refine qar ag (b:=(IntKind.u8.wrap (BitVec.ofInt 8 ((s.getD 0 0).toNat : Int) &&& BitVec.ofInt 8 128).toNat) == 0) kz ((qc3 _ (qb8 s 0)).trans (decide_eq_false (by have:=h0; unfold oc at this; omega))) ?_
 refine qaq [(0,.v (.slice A s.length c)),(4,.v (.int .u32 (IntKind.u32.wrap (IntKind.u8.wrap (BitVec.ofInt 8 ((s.getD 0 0).toNat : Int) &&& BitVec.ofInt 8 127).toNat)))),(22,.v (.bool (decide (((s.length : Nat) : Int) < 2))))] hW ag fun bz ah=>?_
 refine qar ah (b:=decide (((s.length : Nat) : Int) < 2)) kz (decide_eq_false (by omega)) ?_
 refine wp_skip ?_
 refine qab ?_
 refine qae [0,1,2,3,4,5,6,7,8] kz ?_
 refine qal [0,1] [2,3,4,5,6,7,8] [(0,.v (.slice A s.length c)),(23,.v (.int .u32 (IntKind.u32.wrap (IntKind.u8.wrap (BitVec.ofInt 8 ((s.getD 0 0).toNat : Int) &&& BitVec.ofInt 8 127).toNat)))),(24,.v (.slice A s.length c))] hW ah fun bA aC=>?_
 obtain ⟨aZ,ba,ai,bj,ab⟩:=Slots.get ho (i:=1) (by first | omega | (simp only [List.length_append,be_length,List.length_cons,List.length_nil] at *; omega))
 refine qan (qaC aC (t:=22) (A:=A) (m:=s.length) (q:=1) (d:=25) kz (e:=5) (size:=1) (bytes:=1) (j:=1) kz ai rfl (by first | omega | (simp only [List.length_append,be_length,List.length_cons,List.length_nil] at *; omega)) fun bB aD=>?_)
 refine qan (qaQ aD (t:=5) (b:=aZ) (o:=ba + 1 * 1) (d:=26) kz (cs:=[.int .u8 ((s.getD 1 0).toNat : Int)]) (v:=.int .u8 ((s.getD 1 0).toNat : Int)) kz (AtF.move ab hW.step nilM qbc).at_ fun bC aE=>?_)
 refine qal [4,5,6,7,8] [] [(0,.v (.slice A s.length c)),(4,.v (.int .u32 (IntKind.u32.wrap (BitVec.ofInt 32 (IntKind.u32.wrap (IntKind.u8.wrap (BitVec.ofInt 8 ((s.getD 0 0).toNat : Int) &&& BitVec.ofInt 8 127).toNat)) ||| BitVec.ofInt 32 (IntKind.u32.wrap ((IntKind.u32.wrap (IntKind.u8.wrap (BitVec.ofInt 8 ((s.getD 1 0).toNat : Int) &&& BitVec.ofInt 8 127).toNat)) * 128))).toNat)))] hW aE fun bD aF=>?_
 refine qaf (qab ?_)
 refine wp_seq ?_
 refine qae [0,1,2,3,4] kz ?_
 refine qal [0] [1,2,3,4] [(0,.v (.slice A s.length c)),(4,.v (.int .u32 (IntKind.u32.wrap (BitVec.ofInt 32 (IntKind.u32.wrap (IntKind.u8.wrap (BitVec.ofInt 8 ((s.getD 0 0).toNat : Int) &&& BitVec.ofInt 8 127).toNat)) ||| BitVec.ofInt 32 (IntKind.u32.wrap ((IntKind.u32.wrap (IntKind.u8.wrap (BitVec.ofInt 8 ((s.getD 1 0).toNat : Int) &&& BitVec.ofInt 8 127).toNat)) * 128))).toNat))),(31,.v (.slice A s.length c))] hW aF fun bE aG=>?_
 refine qan (qaC aG (t:=22) (A:=A) (m:=s.length) (q:=1) (d:=32) kz (e:=5) (size:=1) (bytes:=1) (j:=1) kz ai rfl (by first | omega | (simp only [List.length_append,be_length,List.length_cons,List.length_nil] at *; omega)) fun bF aH=>?_)
 refine qan (qaQ aH (t:=5) (b:=aZ) (o:=ba + 1 * 1) (d:=33) kz (cs:=[.int .u8 ((s.getD 1 0).toNat : Int)]) (v:=.int .u8 ((s.getD 1 0).toNat : Int)) kz (AtF.move ab hW.step nilM qbc).at_ fun bG aI=>?_)
 refine qal [3,4] [] [(0,.v (.slice A s.length c)),(4,.v (.int .u32 (IntKind.u32.wrap (BitVec.ofInt 32 (IntKind.u32.wrap (IntKind.u8.wrap (BitVec.ofInt 8 ((s.getD 0 0).toNat : Int) &&& BitVec.ofInt 8 127).toNat)) ||| BitVec.ofInt 32 (IntKind.u32.wrap ((IntKind.u32.wrap (IntKind.u8.wrap (BitVec.ofInt 8 ((s.getD 1 0).toNat : Int) &&& BitVec.ofInt 8 127).toNat)) * 128))).toNat))),(35,.v (.bool ((IntKind.u8.wrap (BitVec.ofInt 8 ((s.getD 1 0).toNat : Int) &&& BitVec.ofInt 8 128).toNat) == 0)))] hW aI fun bH aj=>?_
 refine qaf (qab ?_)
 refine qar aj (b:=(IntKind.u8.wrap (BitVec.ofInt 8 ((s.getD 1 0).toNat : Int) &&& BitVec.ofInt 8 128).toNat) == 0) kz ((qc3 _ (qb8 s 1)).trans (decide_eq_false (by have:=h1; unfold oc at this; omega))) ?_
 refine qaq [(0,.v (.slice A s.length c)),(4,.v (.int .u32 (IntKind.u32.wrap (BitVec.ofInt 32 (IntKind.u32.wrap (IntKind.u8.wrap (BitVec.ofInt 8 ((s.getD 0 0).toNat : Int) &&& BitVec.ofInt 8 127).toNat)) ||| BitVec.ofInt 32 (IntKind.u32.wrap ((IntKind.u32.wrap (IntKind.u8.wrap (BitVec.ofInt 8 ((s.getD 1 0).toNat : Int) &&& BitVec.ofInt 8 127).toNat)) * 128))).toNat))),(39,.v (.bool (decide (((s.length : Nat) : Int) < 3))))] hW aj fun bI ak=>?_
 refine qar ak (b:=decide (((s.length : Nat) : Int) < 3)) kz (decide_eq_false (by omega)) ?_
 refine wp_skip ?_
 refine qab ?_
 refine qae [0,1,2,3,4,5,6,7,8] kz ?_
 refine qal [0,1] [2,3,4,5,6,7,8] [(0,.v (.slice A s.length c)),(40,.v (.int .u32 (IntKind.u32.wrap (BitVec.ofInt 32 (IntKind.u32.wrap (IntKind.u8.wrap (BitVec.ofInt 8 ((s.getD 0 0).toNat : Int) &&& BitVec.ofInt 8 127).toNat)) ||| BitVec.ofInt 32 (IntKind.u32.wrap ((IntKind.u32.wrap (IntKind.u8.wrap (BitVec.ofInt 8 ((s.getD 1 0).toNat : Int) &&& BitVec.ofInt 8 127).toNat)) * 128))).toNat))),(41,.v (.slice A s.length c))] hW ak fun bJ aJ=>?_
 obtain ⟨bd,bf,al,bk,ac⟩:=Slots.get ho (i:=2) (by first | omega | (simp only [List.length_append,be_length,List.length_cons,List.length_nil] at *; omega))
 refine qan (qaC aJ (t:=22) (A:=A) (m:=s.length) (q:=2) (d:=42) kz (e:=5) (size:=1) (bytes:=1) (j:=2) kz al rfl (by first | omega | (simp only [List.length_append,be_length,List.length_cons,List.length_nil] at *; omega)) fun bK aK=>?_)
 refine qan (qaQ aK (t:=5) (b:=bd) (o:=bf + 2 * 1) (d:=43) kz (cs:=[.int .u8 ((s.getD 2 0).toNat : Int)]) (v:=.int .u8 ((s.getD 2 0).toNat : Int)) kz (AtF.move ac hW.step nilM qbc).at_ fun bL aL=>?_)
 refine qal [4,5,6,7,8] [] [(0,.v (.slice A s.length c)),(4,.v (.int .u32 (IntKind.u32.wrap (BitVec.ofInt 32 (IntKind.u32.wrap (BitVec.ofInt 32 (IntKind.u32.wrap (IntKind.u8.wrap (BitVec.ofInt 8 ((s.getD 0 0).toNat : Int) &&& BitVec.ofInt 8 127).toNat)) ||| BitVec.ofInt 32 (IntKind.u32.wrap ((IntKind.u32.wrap (IntKind.u8.wrap (BitVec.ofInt 8 ((s.getD 1 0).toNat : Int) &&& BitVec.ofInt 8 127).toNat)) * 128))).toNat) ||| BitVec.ofInt 32 (IntKind.u32.wrap ((IntKind.u32.wrap (IntKind.u8.wrap (BitVec.ofInt 8 ((s.getD 2 0).toNat : Int) &&& BitVec.ofInt 8 127).toNat)) * 16384))).toNat)))] hW aL fun bM aM=>?_
 refine qaf (qab ?_)
 refine wp_seq ?_
 refine qae [0,1,2,3,4] kz ?_
 refine qal [0] [1,2,3,4] [(0,.v (.slice A s.length c)),(4,.v (.int .u32 (IntKind.u32.wrap (BitVec.ofInt 32 (IntKind.u32.wrap (BitVec.ofInt 32 (IntKind.u32.wrap (IntKind.u8.wrap (BitVec.ofInt 8 ((s.getD 0 0).toNat : Int) &&& BitVec.ofInt 8 127).toNat)) ||| BitVec.ofInt 32 (IntKind.u32.wrap ((IntKind.u32.wrap (IntKind.u8.wrap (BitVec.ofInt 8 ((s.getD 1 0).toNat : Int) &&& BitVec.ofInt 8 127).toNat)) * 128))).toNat) ||| BitVec.ofInt 32 (IntKind.u32.wrap ((IntKind.u32.wrap (IntKind.u8.wrap (BitVec.ofInt 8 ((s.getD 2 0).toNat : Int) &&& BitVec.ofInt 8 127).toNat)) * 16384))).toNat))),(48,.v (.slice A s.length c))] hW aM fun bN aN=>?_
 refine qan (qaC aN (t:=22) (A:=A) (m:=s.length) (q:=2) (d:=49) kz (e:=5) (size:=1) (bytes:=1) (j:=2) kz al rfl (by first | omega | (simp only [List.length_append,be_length,List.length_cons,List.length_nil] at *; omega)) fun bO aO=>?_)
 refine qan (qaQ aO (t:=5) (b:=bd) (o:=bf + 2 * 1) (d:=50) kz (cs:=[.int .u8 ((s.getD 2 0).toNat : Int)]) (v:=.int .u8 ((s.getD 2 0).toNat : Int)) kz (AtF.move ac hW.step nilM qbc).at_ fun bP aP=>?_)
 refine qal [3,4] [] [(0,.v (.slice A s.length c)),(4,.v (.int .u32 (IntKind.u32.wrap (BitVec.ofInt 32 (IntKind.u32.wrap (BitVec.ofInt 32 (IntKind.u32.wrap (IntKind.u8.wrap (BitVec.ofInt 8 ((s.getD 0 0).toNat : Int) &&& BitVec.ofInt 8 127).toNat)) ||| BitVec.ofInt 32 (IntKind.u32.wrap ((IntKind.u32.wrap (IntKind.u8.wrap (BitVec.ofInt 8 ((s.getD 1 0).toNat : Int) &&& BitVec.ofInt 8 127).toNat)) * 128))).toNat) ||| BitVec.ofInt 32 (IntKind.u32.wrap ((IntKind.u32.wrap (IntKind.u8.wrap (BitVec.ofInt 8 ((s.getD 2 0).toNat : Int) &&& BitVec.ofInt 8 127).toNat)) * 16384))).toNat))),(52,.v (.bool ((IntKind.u8.wrap (BitVec.ofInt 8 ((s.getD 2 0).toNat : Int) &&& BitVec.ofInt 8 128).toNat) == 0)))] hW aP fun bQ am=>?_
 refine qaf (qab ?_)
 refine qar am (b:=(IntKind.u8.wrap (BitVec.ofInt 8 ((s.getD 2 0).toNat : Int) &&& BitVec.ofInt 8 128).toNat) == 0) kz ((qc3 _ (qb8 s 2)).trans (decide_eq_false (by have:=h2; unfold oc at this; omega))) ?_
 refine qaq [(0,.v (.slice A s.length c)),(4,.v (.int .u32 (IntKind.u32.wrap (BitVec.ofInt 32 (IntKind.u32.wrap (BitVec.ofInt 32 (IntKind.u32.wrap (IntKind.u8.wrap (BitVec.ofInt 8 ((s.getD 0 0).toNat : Int) &&& BitVec.ofInt 8 127).toNat)) ||| BitVec.ofInt 32 (IntKind.u32.wrap ((IntKind.u32.wrap (IntKind.u8.wrap (BitVec.ofInt 8 ((s.getD 1 0).toNat : Int) &&& BitVec.ofInt 8 127).toNat)) * 128))).toNat) ||| BitVec.ofInt 32 (IntKind.u32.wrap ((IntKind.u32.wrap (IntKind.u8.wrap (BitVec.ofInt 8 ((s.getD 2 0).toNat : Int) &&& BitVec.ofInt 8 127).toNat)) * 16384))).toNat))),(56,.v (.bool (decide (((s.length : Nat) : Int) < 4))))] hW am fun bR ao=>?_
 refine qar ao (b:=decide (((s.length : Nat) : Int) < 4)) kz (decide_eq_false (by omega)) ?_
 refine wp_skip ?_
 refine qab ?_
 refine qae [0,1,2,3,4,5,6,7,8] kz ?_
 refine qal [0,1] [2,3,4,5,6,7,8] [(0,.v (.slice A s.length c)),(57,.v (.int .u32 (IntKind.u32.wrap (BitVec.ofInt 32 (IntKind.u32.wrap (BitVec.ofInt 32 (IntKind.u32.wrap (IntKind.u8.wrap (BitVec.ofInt 8 ((s.getD 0 0).toNat : Int) &&& BitVec.ofInt 8 127).toNat)) ||| BitVec.ofInt 32 (IntKind.u32.wrap ((IntKind.u32.wrap (IntKind.u8.wrap (BitVec.ofInt 8 ((s.getD 1 0).toNat : Int) &&& BitVec.ofInt 8 127).toNat)) * 128))).toNat) ||| BitVec.ofInt 32 (IntKind.u32.wrap ((IntKind.u32.wrap (IntKind.u8.wrap (BitVec.ofInt 8 ((s.getD 2 0).toNat : Int) &&& BitVec.ofInt 8 127).toNat)) * 16384))).toNat))),(58,.v (.slice A s.length c))] hW ao fun bS aQ=>?_
 obtain ⟨bg,bh,ap,bn,ae⟩:=Slots.get ho (i:=3) (by first | omega | (simp only [List.length_append,be_length,List.length_cons,List.length_nil] at *; omega))
 refine qan (qaC aQ (t:=22) (A:=A) (m:=s.length) (q:=3) (d:=59) kz (e:=5) (size:=1) (bytes:=1) (j:=3) kz ap rfl (by first | omega | (simp only [List.length_append,be_length,List.length_cons,List.length_nil] at *; omega)) fun bT aR=>?_)
 refine qan (qaQ aR (t:=5) (b:=bg) (o:=bh + 3 * 1) (d:=60) kz (cs:=[.int .u8 ((s.getD 3 0).toNat : Int)]) (v:=.int .u8 ((s.getD 3 0).toNat : Int)) kz (AtF.move ae hW.step nilM qbc).at_ fun bU aS=>?_)
 refine qal [4,5,6,7,8] [] [(0,.v (.slice A s.length c)),(4,.v (.int .u32 (IntKind.u32.wrap (BitVec.ofInt 32 (IntKind.u32.wrap (BitVec.ofInt 32 (IntKind.u32.wrap (BitVec.ofInt 32 (IntKind.u32.wrap (IntKind.u8.wrap (BitVec.ofInt 8 ((s.getD 0 0).toNat : Int) &&& BitVec.ofInt 8 127).toNat)) ||| BitVec.ofInt 32 (IntKind.u32.wrap ((IntKind.u32.wrap (IntKind.u8.wrap (BitVec.ofInt 8 ((s.getD 1 0).toNat : Int) &&& BitVec.ofInt 8 127).toNat)) * 128))).toNat) ||| BitVec.ofInt 32 (IntKind.u32.wrap ((IntKind.u32.wrap (IntKind.u8.wrap (BitVec.ofInt 8 ((s.getD 2 0).toNat : Int) &&& BitVec.ofInt 8 127).toNat)) * 16384))).toNat) ||| BitVec.ofInt 32 (IntKind.u32.wrap ((IntKind.u32.wrap (IntKind.u8.wrap (BitVec.ofInt 8 ((s.getD 3 0).toNat : Int) &&& BitVec.ofInt 8 127).toNat)) * 2097152))).toNat)))] hW aS fun bV aT=>?_
 refine qaf (qab ?_)
 refine wp_seq ?_
 refine qae [0,1,2,3,4] kz ?_
 refine qal [0] [1,2,3,4] [(0,.v (.slice A s.length c)),(4,.v (.int .u32 (IntKind.u32.wrap (BitVec.ofInt 32 (IntKind.u32.wrap (BitVec.ofInt 32 (IntKind.u32.wrap (BitVec.ofInt 32 (IntKind.u32.wrap (IntKind.u8.wrap (BitVec.ofInt 8 ((s.getD 0 0).toNat : Int) &&& BitVec.ofInt 8 127).toNat)) ||| BitVec.ofInt 32 (IntKind.u32.wrap ((IntKind.u32.wrap (IntKind.u8.wrap (BitVec.ofInt 8 ((s.getD 1 0).toNat : Int) &&& BitVec.ofInt 8 127).toNat)) * 128))).toNat) ||| BitVec.ofInt 32 (IntKind.u32.wrap ((IntKind.u32.wrap (IntKind.u8.wrap (BitVec.ofInt 8 ((s.getD 2 0).toNat : Int) &&& BitVec.ofInt 8 127).toNat)) * 16384))).toNat) ||| BitVec.ofInt 32 (IntKind.u32.wrap ((IntKind.u32.wrap (IntKind.u8.wrap (BitVec.ofInt 8 ((s.getD 3 0).toNat : Int) &&& BitVec.ofInt 8 127).toNat)) * 2097152))).toNat))),(65,.v (.slice A s.length c))] hW aT fun bW aU=>?_
 refine qan (qaC aU (t:=22) (A:=A) (m:=s.length) (q:=3) (d:=66) kz (e:=5) (size:=1) (bytes:=1) (j:=3) kz ap rfl (by first | omega | (simp only [List.length_append,be_length,List.length_cons,List.length_nil] at *; omega)) fun bX aV=>?_)
 refine qan (qaQ aV (t:=5) (b:=bg) (o:=bh + 3 * 1) (d:=67) kz (cs:=[.int .u8 ((s.getD 3 0).toNat : Int)]) (v:=.int .u8 ((s.getD 3 0).toNat : Int)) kz (AtF.move ae hW.step nilM qbc).at_ fun bY aW=>?_)
 refine qal [3,4] [] [(0,.v (.slice A s.length c)),(4,.v (.int .u32 (IntKind.u32.wrap (BitVec.ofInt 32 (IntKind.u32.wrap (BitVec.ofInt 32 (IntKind.u32.wrap (BitVec.ofInt 32 (IntKind.u32.wrap (IntKind.u8.wrap (BitVec.ofInt 8 ((s.getD 0 0).toNat : Int) &&& BitVec.ofInt 8 127).toNat)) ||| BitVec.ofInt 32 (IntKind.u32.wrap ((IntKind.u32.wrap (IntKind.u8.wrap (BitVec.ofInt 8 ((s.getD 1 0).toNat : Int) &&& BitVec.ofInt 8 127).toNat)) * 128))).toNat) ||| BitVec.ofInt 32 (IntKind.u32.wrap ((IntKind.u32.wrap (IntKind.u8.wrap (BitVec.ofInt 8 ((s.getD 2 0).toNat : Int) &&& BitVec.ofInt 8 127).toNat)) * 16384))).toNat) ||| BitVec.ofInt 32 (IntKind.u32.wrap ((IntKind.u32.wrap (IntKind.u8.wrap (BitVec.ofInt 8 ((s.getD 3 0).toNat : Int) &&& BitVec.ofInt 8 127).toNat)) * 2097152))).toNat))),(69,.v (.bool ((IntKind.u8.wrap (BitVec.ofInt 8 ((s.getD 3 0).toNat : Int) &&& BitVec.ofInt 8 128).toNat) == 0)))] hW aW fun bZ ar=>?_
 refine qaf (qab ?_)
 refine qa8 ar (b:=(IntKind.u8.wrap (BitVec.ofInt 8 ((s.getD 3 0).toNat : Int) &&& BitVec.ofInt 8 128).toNat) == 0) kz ((qc3 _ (qb8 s 3)).trans (decide_eq_true (by have:=h3; unfold oc at this; omega))) ?_
 refine qaq [(2,.v (.int .u32 (IntKind.u32.wrap (BitVec.ofInt 32 (IntKind.u32.wrap (BitVec.ofInt 32 (IntKind.u32.wrap (BitVec.ofInt 32 (IntKind.u32.wrap (IntKind.u8.wrap (BitVec.ofInt 8 ((s.getD 0 0).toNat : Int) &&& BitVec.ofInt 8 127).toNat)) ||| BitVec.ofInt 32 (IntKind.u32.wrap ((IntKind.u32.wrap (IntKind.u8.wrap (BitVec.ofInt 8 ((s.getD 1 0).toNat : Int) &&& BitVec.ofInt 8 127).toNat)) * 128))).toNat) ||| BitVec.ofInt 32 (IntKind.u32.wrap ((IntKind.u32.wrap (IntKind.u8.wrap (BitVec.ofInt 8 ((s.getD 2 0).toNat : Int) &&& BitVec.ofInt 8 127).toNat)) * 16384))).toNat) ||| BitVec.ofInt 32 (IntKind.u32.wrap ((IntKind.u32.wrap (IntKind.u8.wrap (BitVec.ofInt 8 ((s.getD 3 0).toNat : Int) &&& BitVec.ofInt 8 127).toNat)) * 2097152))).toNat))),(3,.v (.int .i64 4))] hW ar fun b8 au=>?_
 refine wp_ret ?_
 refine qap ?_
 refine qdD ?_
 refine qaK au hW.cells (v:=.tuple #[.int .u32 (IntKind.u32.wrap (BitVec.ofInt 32 (IntKind.u32.wrap (BitVec.ofInt 32 (IntKind.u32.wrap (BitVec.ofInt 32 (IntKind.u32.wrap (IntKind.u8.wrap (BitVec.ofInt 8 ((s.getD 0 0).toNat : Int) &&& BitVec.ofInt 8 127).toNat)) ||| BitVec.ofInt 32 (IntKind.u32.wrap ((IntKind.u32.wrap (IntKind.u8.wrap (BitVec.ofInt 8 ((s.getD 1 0).toNat : Int) &&& BitVec.ofInt 8 127).toNat)) * 128))).toNat) ||| BitVec.ofInt 32 (IntKind.u32.wrap ((IntKind.u32.wrap (IntKind.u8.wrap (BitVec.ofInt 8 ((s.getD 2 0).toNat : Int) &&& BitVec.ofInt 8 127).toNat)) * 16384))).toNat) ||| BitVec.ofInt 32 (IntKind.u32.wrap ((IntKind.u32.wrap (IntKind.u8.wrap (BitVec.ofInt 8 ((s.getD 3 0).toNat : Int) &&& BitVec.ofInt 8 127).toNat)) * 2097152))).toNat),.int .i64 4]) kz ?_
 have e_:=uv_4 (oc s 0) (oc s 1) (oc s 2) (oc s 3) (qb8 s 0) (qb8 s 1) (qb8 s 2) (qb8 s 3)
 refine ⟨congrArg (fun z_ : Int=>Ending.returned (.tuple #[.int .u32 z_,.int .i64 4])) (Eq.trans e_ ?_),hW.step⟩
 omega
theorem rUv5 {A : Option Addr} {c : Nat} (s : Bs) {w : World} {F : Nat → Nat → Prop} (ho : Octs w F A c s) (hl : 5 ≤ s.length) (d0 d1 d2 d3 d4 : Nat) (h0 : oc s 0 = d0 + 128) (h1 : oc s 1 = d1 + 128) (h2 : oc s 2 = d2 + 128) (h3 : oc s 3 = d3 + 128) (h4 : oc s 4 = d4) (g0 : d0 < 128) (g1 : d1 < 128) (g2 : d2 < 128) (g3 : d3 < 128) (g4 : d4 < 16) :
  Calls Tryz.prog 238 #[.slice A s.length c] w (qcj w (.tuple #[.int .u32 ((d0 + d1 * 128 + d2 * 16384 + d3 * 2097152 + d4 * 268435456 : Nat) : Int),.int .i64 5])):=by
 refine enter (n:=87) Tryz.func238 rfl Tryz.ntmps238 kz fun a hE=>?_
 have hW:=WOk.start w Nil
 refine qaq [(0,.v (.slice A s.length c))] hW hE fun a1 hE2=>?_
 refine wp_scope_straight ?_
 refine qaq [(0,.v (.slice A s.length c))] hW hE2 fun a3 hE4=>?_
 refine qaq [(0,.v (.slice A s.length c))] hW hE4 fun a5 hE6=>?_
 refine wp_seq ?_
 refine qaq [(0,.v (.slice A s.length c)),(8,.v (.bool (decide (((s.length : Nat) : Int) < 1))))] hW hE6 fun a7 hE8=>?_
 refine qar hE8 (b:=decide (((s.length : Nat) : Int) < 1)) kz (decide_eq_false (by omega)) ?_
 refine wp_skip ?_
 refine qab ?_
 refine qae [0,1,2,3,4,5] kz ?_
 refine qal [0] [1,2,3,4,5] [(0,.v (.slice A s.length c)),(9,.v (.slice A s.length c))] hW hE8 fun a9 aI=>?_
 obtain ⟨bp,bq,aj,bC,ab⟩:=Slots.get ho (i:=0) (by first | omega | (simp only [List.length_append,be_length,List.length_cons,List.length_nil] at *; omega))
 refine qan (qaC aI (t:=22) (A:=A) (m:=s.length) (q:=0) (d:=10) kz (e:=5) (size:=1) (bytes:=1) (j:=0) kz aj rfl (by first | omega | (simp only [List.length_append,be_length,List.length_cons,List.length_nil] at *; omega)) fun bP aJ=>?_)
 refine qan (qaQ aJ (t:=5) (b:=bp) (o:=bq + 0 * 1) (d:=11) kz (cs:=[.int .u8 ((s.getD 0 0).toNat : Int)]) (v:=.int .u8 ((s.getD 0 0).toNat : Int)) kz (AtF.move ab hW.step nilM qbc).at_ fun bQ aK=>?_)
 refine qal [3,4,5] [] [(0,.v (.slice A s.length c)),(4,.v (.int .u32 (IntKind.u32.wrap (IntKind.u8.wrap (BitVec.ofInt 8 ((s.getD 0 0).toNat : Int) &&& BitVec.ofInt 8 127).toNat))))] hW aK fun bR aL=>?_
 refine qaf (qab ?_)
 refine wp_seq ?_
 refine qae [0,1,2,3,4] kz ?_
 refine qal [0] [1,2,3,4] [(0,.v (.slice A s.length c)),(4,.v (.int .u32 (IntKind.u32.wrap (IntKind.u8.wrap (BitVec.ofInt 8 ((s.getD 0 0).toNat : Int) &&& BitVec.ofInt 8 127).toNat)))),(14,.v (.slice A s.length c))] hW aL fun bS aM=>?_
 refine qan (qaC aM (t:=22) (A:=A) (m:=s.length) (q:=0) (d:=15) kz (e:=5) (size:=1) (bytes:=1) (j:=0) kz aj rfl (by first | omega | (simp only [List.length_append,be_length,List.length_cons,List.length_nil] at *; omega)) fun bT aN=>?_)
 refine qan (qaQ aN (t:=5) (b:=bp) (o:=bq + 0 * 1) (d:=16) kz (cs:=[.int .u8 ((s.getD 0 0).toNat : Int)]) (v:=.int .u8 ((s.getD 0 0).toNat : Int)) kz (AtF.move ab hW.step nilM qbc).at_ fun bU aO=>?_)
 refine qal [3,4] [] [(0,.v (.slice A s.length c)),(4,.v (.int .u32 (IntKind.u32.wrap (IntKind.u8.wrap (BitVec.ofInt 8 ((s.getD 0 0).toNat : Int) &&& BitVec.ofInt 8 127).toNat)))),(18,.v (.bool ((IntKind.u8.wrap (BitVec.ofInt 8 ((s.getD 0 0).toNat : Int) &&& BitVec.ofInt 8 128).toNat) == 0)))] hW aO fun bV ak=>?_
 refine qaf (qab ?_)
 refine qar ak (b:=(IntKind.u8.wrap (BitVec.ofInt 8 ((s.getD 0 0).toNat : Int) &&& BitVec.ofInt 8 128).toNat) == 0) kz ((qc3 _ (qb8 s 0)).trans (decide_eq_false (by have:=h0; unfold oc at this; omega))) ?_
 refine qaq [(0,.v (.slice A s.length c)),(4,.v (.int .u32 (IntKind.u32.wrap (IntKind.u8.wrap (BitVec.ofInt 8 ((s.getD 0 0).toNat : Int) &&& BitVec.ofInt 8 127).toNat)))),(22,.v (.bool (decide (((s.length : Nat) : Int) < 2))))] hW ak fun bW al=>?_
 refine qar al (b:=decide (((s.length : Nat) : Int) < 2)) kz (decide_eq_false (by omega)) ?_
 refine wp_skip ?_
 refine qab ?_
 refine qae [0,1,2,3,4,5,6,7,8] kz ?_
 refine qal [0,1] [2,3,4,5,6,7,8] [(0,.v (.slice A s.length c)),(23,.v (.int .u32 (IntKind.u32.wrap (IntKind.u8.wrap (BitVec.ofInt 8 ((s.getD 0 0).toNat : Int) &&& BitVec.ofInt 8 127).toNat)))),(24,.v (.slice A s.length c))] hW al fun bX aP=>?_
 obtain ⟨bt,bu,am,bD,ac⟩:=Slots.get ho (i:=1) (by first | omega | (simp only [List.length_append,be_length,List.length_cons,List.length_nil] at *; omega))
 refine qan (qaC aP (t:=22) (A:=A) (m:=s.length) (q:=1) (d:=25) kz (e:=5) (size:=1) (bytes:=1) (j:=1) kz am rfl (by first | omega | (simp only [List.length_append,be_length,List.length_cons,List.length_nil] at *; omega)) fun bY aQ=>?_)
 refine qan (qaQ aQ (t:=5) (b:=bt) (o:=bu + 1 * 1) (d:=26) kz (cs:=[.int .u8 ((s.getD 1 0).toNat : Int)]) (v:=.int .u8 ((s.getD 1 0).toNat : Int)) kz (AtF.move ac hW.step nilM qbc).at_ fun bZ aR=>?_)
 refine qal [4,5,6,7,8] [] [(0,.v (.slice A s.length c)),(4,.v (.int .u32 (IntKind.u32.wrap (BitVec.ofInt 32 (IntKind.u32.wrap (IntKind.u8.wrap (BitVec.ofInt 8 ((s.getD 0 0).toNat : Int) &&& BitVec.ofInt 8 127).toNat)) ||| BitVec.ofInt 32 (IntKind.u32.wrap ((IntKind.u32.wrap (IntKind.u8.wrap (BitVec.ofInt 8 ((s.getD 1 0).toNat : Int) &&& BitVec.ofInt 8 127).toNat)) * 128))).toNat)))] hW aR fun b8 aS=>?_
 refine qaf (qab ?_)
 refine wp_seq ?_
 refine qae [0,1,2,3,4] kz ?_
 refine qal [0] [1,2,3,4] [(0,.v (.slice A s.length c)),(4,.v (.int .u32 (IntKind.u32.wrap (BitVec.ofInt 32 (IntKind.u32.wrap (IntKind.u8.wrap (BitVec.ofInt 8 ((s.getD 0 0).toNat : Int) &&& BitVec.ofInt 8 127).toNat)) ||| BitVec.ofInt 32 (IntKind.u32.wrap ((IntKind.u32.wrap (IntKind.u8.wrap (BitVec.ofInt 8 ((s.getD 1 0).toNat : Int) &&& BitVec.ofInt 8 127).toNat)) * 128))).toNat))),(31,.v (.slice A s.length c))] hW aS fun cd aT=>?_
 refine qan (qaC aT (t:=22) (A:=A) (m:=s.length) (q:=1) (d:=32) kz (e:=5) (size:=1) (bytes:=1) (j:=1) kz am rfl (by first | omega | (simp only [List.length_append,be_length,List.length_cons,List.length_nil] at *; omega)) fun ce aU=>?_)
 refine qan (qaQ aU (t:=5) (b:=bt) (o:=bu + 1 * 1) (d:=33) kz (cs:=[.int .u8 ((s.getD 1 0).toNat : Int)]) (v:=.int .u8 ((s.getD 1 0).toNat : Int)) kz (AtF.move ac hW.step nilM qbc).at_ fun cm aV=>?_)
 refine qal [3,4] [] [(0,.v (.slice A s.length c)),(4,.v (.int .u32 (IntKind.u32.wrap (BitVec.ofInt 32 (IntKind.u32.wrap (IntKind.u8.wrap (BitVec.ofInt 8 ((s.getD 0 0).toNat : Int) &&& BitVec.ofInt 8 127).toNat)) ||| BitVec.ofInt 32 (IntKind.u32.wrap ((IntKind.u32.wrap (IntKind.u8.wrap (BitVec.ofInt 8 ((s.getD 1 0).toNat : Int) &&& BitVec.ofInt 8 127).toNat)) * 128))).toNat))),(35,.v (.bool ((IntKind.u8.wrap (BitVec.ofInt 8 ((s.getD 1 0).toNat : Int) &&& BitVec.ofInt 8 128).toNat) == 0)))] hW aV fun cq ao=>?_
 refine qaf (qab ?_)
 refine qar ao (b:=(IntKind.u8.wrap (BitVec.ofInt 8 ((s.getD 1 0).toNat : Int) &&& BitVec.ofInt 8 128).toNat) == 0) kz ((qc3 _ (qb8 s 1)).trans (decide_eq_false (by have:=h1; unfold oc at this; omega))) ?_
 refine qaq [(0,.v (.slice A s.length c)),(4,.v (.int .u32 (IntKind.u32.wrap (BitVec.ofInt 32 (IntKind.u32.wrap (IntKind.u8.wrap (BitVec.ofInt 8 ((s.getD 0 0).toNat : Int) &&& BitVec.ofInt 8 127).toNat)) ||| BitVec.ofInt 32 (IntKind.u32.wrap ((IntKind.u32.wrap (IntKind.u8.wrap (BitVec.ofInt 8 ((s.getD 1 0).toNat : Int) &&& BitVec.ofInt 8 127).toNat)) * 128))).toNat))),(39,.v (.bool (decide (((s.length : Nat) : Int) < 3))))] hW ao fun cr ap=>?_
 refine qar ap (b:=decide (((s.length : Nat) : Int) < 3)) kz (decide_eq_false (by omega)) ?_
 refine wp_skip ?_
 refine qab ?_
 refine qae [0,1,2,3,4,5,6,7,8] kz ?_
 refine qal [0,1] [2,3,4,5,6,7,8] [(0,.v (.slice A s.length c)),(40,.v (.int .u32 (IntKind.u32.wrap (BitVec.ofInt 32 (IntKind.u32.wrap (IntKind.u8.wrap (BitVec.ofInt 8 ((s.getD 0 0).toNat : Int) &&& BitVec.ofInt 8 127).toNat)) ||| BitVec.ofInt 32 (IntKind.u32.wrap ((IntKind.u32.wrap (IntKind.u8.wrap (BitVec.ofInt 8 ((s.getD 1 0).toNat : Int) &&& BitVec.ofInt 8 127).toNat)) * 128))).toNat))),(41,.v (.slice A s.length c))] hW ap fun cu aW=>?_
 obtain ⟨bw,bx,ar,bE,ae⟩:=Slots.get ho (i:=2) (by first | omega | (simp only [List.length_append,be_length,List.length_cons,List.length_nil] at *; omega))
 refine qan (qaC aW (t:=22) (A:=A) (m:=s.length) (q:=2) (d:=42) kz (e:=5) (size:=1) (bytes:=1) (j:=2) kz ar rfl (by first | omega | (simp only [List.length_append,be_length,List.length_cons,List.length_nil] at *; omega)) fun cw aX=>?_)
 refine qan (qaQ aX (t:=5) (b:=bw) (o:=bx + 2 * 1) (d:=43) kz (cs:=[.int .u8 ((s.getD 2 0).toNat : Int)]) (v:=.int .u8 ((s.getD 2 0).toNat : Int)) kz (AtF.move ae hW.step nilM qbc).at_ fun cz aY=>?_)
 refine qal [4,5,6,7,8] [] [(0,.v (.slice A s.length c)),(4,.v (.int .u32 (IntKind.u32.wrap (BitVec.ofInt 32 (IntKind.u32.wrap (BitVec.ofInt 32 (IntKind.u32.wrap (IntKind.u8.wrap (BitVec.ofInt 8 ((s.getD 0 0).toNat : Int) &&& BitVec.ofInt 8 127).toNat)) ||| BitVec.ofInt 32 (IntKind.u32.wrap ((IntKind.u32.wrap (IntKind.u8.wrap (BitVec.ofInt 8 ((s.getD 1 0).toNat : Int) &&& BitVec.ofInt 8 127).toNat)) * 128))).toNat) ||| BitVec.ofInt 32 (IntKind.u32.wrap ((IntKind.u32.wrap (IntKind.u8.wrap (BitVec.ofInt 8 ((s.getD 2 0).toNat : Int) &&& BitVec.ofInt 8 127).toNat)) * 16384))).toNat)))] hW aY fun cA aZ=>?_
 refine qaf (qab ?_)
 refine wp_seq ?_
 refine qae [0,1,2,3,4] kz ?_
 refine qal [0] [1,2,3,4] [(0,.v (.slice A s.length c)),(4,.v (.int .u32 (IntKind.u32.wrap (BitVec.ofInt 32 (IntKind.u32.wrap (BitVec.ofInt 32 (IntKind.u32.wrap (IntKind.u8.wrap (BitVec.ofInt 8 ((s.getD 0 0).toNat : Int) &&& BitVec.ofInt 8 127).toNat)) ||| BitVec.ofInt 32 (IntKind.u32.wrap ((IntKind.u32.wrap (IntKind.u8.wrap (BitVec.ofInt 8 ((s.getD 1 0).toNat : Int) &&& BitVec.ofInt 8 127).toNat)) * 128))).toNat) ||| BitVec.ofInt 32 (IntKind.u32.wrap ((IntKind.u32.wrap (IntKind.u8.wrap (BitVec.ofInt 8 ((s.getD 2 0).toNat : Int) &&& BitVec.ofInt 8 127).toNat)) * 16384))).toNat))),(48,.v (.slice A s.length c))] hW aZ fun cB ba=>?_
 refine qan (qaC ba (t:=22) (A:=A) (m:=s.length) (q:=2) (d:=49) kz (e:=5) (size:=1) (bytes:=1) (j:=2) kz ar rfl (by first | omega | (simp only [List.length_append,be_length,List.length_cons,List.length_nil] at *; omega)) fun cC bd=>?_)
 refine qan (qaQ bd (t:=5) (b:=bw) (o:=bx + 2 * 1) (d:=50) kz (cs:=[.int .u8 ((s.getD 2 0).toNat : Int)]) (v:=.int .u8 ((s.getD 2 0).toNat : Int)) kz (AtF.move ae hW.step nilM qbc).at_ fun cD bf=>?_)
 refine qal [3,4] [] [(0,.v (.slice A s.length c)),(4,.v (.int .u32 (IntKind.u32.wrap (BitVec.ofInt 32 (IntKind.u32.wrap (BitVec.ofInt 32 (IntKind.u32.wrap (IntKind.u8.wrap (BitVec.ofInt 8 ((s.getD 0 0).toNat : Int) &&& BitVec.ofInt 8 127).toNat)) ||| BitVec.ofInt 32 (IntKind.u32.wrap ((IntKind.u32.wrap (IntKind.u8.wrap (BitVec.ofInt 8 ((s.getD 1 0).toNat : Int) &&& BitVec.ofInt 8 127).toNat)) * 128))).toNat) ||| BitVec.ofInt 32 (IntKind.u32.wrap ((IntKind.u32.wrap (IntKind.u8.wrap (BitVec.ofInt 8 ((s.getD 2 0).toNat : Int) &&& BitVec.ofInt 8 127).toNat)) * 16384))).toNat))),(52,.v (.bool ((IntKind.u8.wrap (BitVec.ofInt 8 ((s.getD 2 0).toNat : Int) &&& BitVec.ofInt 8 128).toNat) == 0)))] hW bf fun cE au=>?_
 refine qaf (qab ?_)
 refine qar au (b:=(IntKind.u8.wrap (BitVec.ofInt 8 ((s.getD 2 0).toNat : Int) &&& BitVec.ofInt 8 128).toNat) == 0) kz ((qc3 _ (qb8 s 2)).trans (decide_eq_false (by have:=h2; unfold oc at this; omega))) ?_
 refine qaq [(0,.v (.slice A s.length c)),(4,.v (.int .u32 (IntKind.u32.wrap (BitVec.ofInt 32 (IntKind.u32.wrap (BitVec.ofInt 32 (IntKind.u32.wrap (IntKind.u8.wrap (BitVec.ofInt 8 ((s.getD 0 0).toNat : Int) &&& BitVec.ofInt 8 127).toNat)) ||| BitVec.ofInt 32 (IntKind.u32.wrap ((IntKind.u32.wrap (IntKind.u8.wrap (BitVec.ofInt 8 ((s.getD 1 0).toNat : Int) &&& BitVec.ofInt 8 127).toNat)) * 128))).toNat) ||| BitVec.ofInt 32 (IntKind.u32.wrap ((IntKind.u32.wrap (IntKind.u8.wrap (BitVec.ofInt 8 ((s.getD 2 0).toNat : Int) &&& BitVec.ofInt 8 127).toNat)) * 16384))).toNat))),(56,.v (.bool (decide (((s.length : Nat) : Int) < 4))))] hW au fun cG av=>?_
 refine qar av (b:=decide (((s.length : Nat) : Int) < 4)) kz (decide_eq_false (by omega)) ?_
 refine wp_skip ?_
 refine qab ?_
 refine qae [0,1,2,3,4,5,6,7,8] kz ?_
 refine qal [0,1] [2,3,4,5,6,7,8] [(0,.v (.slice A s.length c)),(57,.v (.int .u32 (IntKind.u32.wrap (BitVec.ofInt 32 (IntKind.u32.wrap (BitVec.ofInt 32 (IntKind.u32.wrap (IntKind.u8.wrap (BitVec.ofInt 8 ((s.getD 0 0).toNat : Int) &&& BitVec.ofInt 8 127).toNat)) ||| BitVec.ofInt 32 (IntKind.u32.wrap ((IntKind.u32.wrap (IntKind.u8.wrap (BitVec.ofInt 8 ((s.getD 1 0).toNat : Int) &&& BitVec.ofInt 8 127).toNat)) * 128))).toNat) ||| BitVec.ofInt 32 (IntKind.u32.wrap ((IntKind.u32.wrap (IntKind.u8.wrap (BitVec.ofInt 8 ((s.getD 2 0).toNat : Int) &&& BitVec.ofInt 8 127).toNat)) * 16384))).toNat))),(58,.v (.slice A s.length c))] hW av fun cH bg=>?_
 obtain ⟨bz,bA,aw,bF,af⟩:=Slots.get ho (i:=3) (by first | omega | (simp only [List.length_append,be_length,List.length_cons,List.length_nil] at *; omega))
 refine qan (qaC bg (t:=22) (A:=A) (m:=s.length) (q:=3) (d:=59) kz (e:=5) (size:=1) (bytes:=1) (j:=3) kz aw rfl (by first | omega | (simp only [List.length_append,be_length,List.length_cons,List.length_nil] at *; omega)) fun cI bh=>?_)
 refine qan (qaQ bh (t:=5) (b:=bz) (o:=bA + 3 * 1) (d:=60) kz (cs:=[.int .u8 ((s.getD 3 0).toNat : Int)]) (v:=.int .u8 ((s.getD 3 0).toNat : Int)) kz (AtF.move af hW.step nilM qbc).at_ fun cJ bi=>?_)
 refine qal [4,5,6,7,8] [] [(0,.v (.slice A s.length c)),(4,.v (.int .u32 (IntKind.u32.wrap (BitVec.ofInt 32 (IntKind.u32.wrap (BitVec.ofInt 32 (IntKind.u32.wrap (BitVec.ofInt 32 (IntKind.u32.wrap (IntKind.u8.wrap (BitVec.ofInt 8 ((s.getD 0 0).toNat : Int) &&& BitVec.ofInt 8 127).toNat)) ||| BitVec.ofInt 32 (IntKind.u32.wrap ((IntKind.u32.wrap (IntKind.u8.wrap (BitVec.ofInt 8 ((s.getD 1 0).toNat : Int) &&& BitVec.ofInt 8 127).toNat)) * 128))).toNat) ||| BitVec.ofInt 32 (IntKind.u32.wrap ((IntKind.u32.wrap (IntKind.u8.wrap (BitVec.ofInt 8 ((s.getD 2 0).toNat : Int) &&& BitVec.ofInt 8 127).toNat)) * 16384))).toNat) ||| BitVec.ofInt 32 (IntKind.u32.wrap ((IntKind.u32.wrap (IntKind.u8.wrap (BitVec.ofInt 8 ((s.getD 3 0).toNat : Int) &&& BitVec.ofInt 8 127).toNat)) * 2097152))).toNat)))] hW bi fun cK bj=>?_
 refine qaf (qab ?_)
 refine wp_seq ?_
 refine qae [0,1,2,3,4] kz ?_
 refine qal [0] [1,2,3,4] [(0,.v (.slice A s.length c)),(4,.v (.int .u32 (IntKind.u32.wrap (BitVec.ofInt 32 (IntKind.u32.wrap (BitVec.ofInt 32 (IntKind.u32.wrap (BitVec.ofInt 32 (IntKind.u32.wrap (IntKind.u8.wrap (BitVec.ofInt 8 ((s.getD 0 0).toNat : Int) &&& BitVec.ofInt 8 127).toNat)) ||| BitVec.ofInt 32 (IntKind.u32.wrap ((IntKind.u32.wrap (IntKind.u8.wrap (BitVec.ofInt 8 ((s.getD 1 0).toNat : Int) &&& BitVec.ofInt 8 127).toNat)) * 128))).toNat) ||| BitVec.ofInt 32 (IntKind.u32.wrap ((IntKind.u32.wrap (IntKind.u8.wrap (BitVec.ofInt 8 ((s.getD 2 0).toNat : Int) &&& BitVec.ofInt 8 127).toNat)) * 16384))).toNat) ||| BitVec.ofInt 32 (IntKind.u32.wrap ((IntKind.u32.wrap (IntKind.u8.wrap (BitVec.ofInt 8 ((s.getD 3 0).toNat : Int) &&& BitVec.ofInt 8 127).toNat)) * 2097152))).toNat))),(65,.v (.slice A s.length c))] hW bj fun cL bk=>?_
 refine qan (qaC bk (t:=22) (A:=A) (m:=s.length) (q:=3) (d:=66) kz (e:=5) (size:=1) (bytes:=1) (j:=3) kz aw rfl (by first | omega | (simp only [List.length_append,be_length,List.length_cons,List.length_nil] at *; omega)) fun cM bn=>?_)
 refine qan (qaQ bn (t:=5) (b:=bz) (o:=bA + 3 * 1) (d:=67) kz (cs:=[.int .u8 ((s.getD 3 0).toNat : Int)]) (v:=.int .u8 ((s.getD 3 0).toNat : Int)) kz (AtF.move af hW.step nilM qbc).at_ fun cN bo=>?_)
 refine qal [3,4] [] [(0,.v (.slice A s.length c)),(4,.v (.int .u32 (IntKind.u32.wrap (BitVec.ofInt 32 (IntKind.u32.wrap (BitVec.ofInt 32 (IntKind.u32.wrap (BitVec.ofInt 32 (IntKind.u32.wrap (IntKind.u8.wrap (BitVec.ofInt 8 ((s.getD 0 0).toNat : Int) &&& BitVec.ofInt 8 127).toNat)) ||| BitVec.ofInt 32 (IntKind.u32.wrap ((IntKind.u32.wrap (IntKind.u8.wrap (BitVec.ofInt 8 ((s.getD 1 0).toNat : Int) &&& BitVec.ofInt 8 127).toNat)) * 128))).toNat) ||| BitVec.ofInt 32 (IntKind.u32.wrap ((IntKind.u32.wrap (IntKind.u8.wrap (BitVec.ofInt 8 ((s.getD 2 0).toNat : Int) &&& BitVec.ofInt 8 127).toNat)) * 16384))).toNat) ||| BitVec.ofInt 32 (IntKind.u32.wrap ((IntKind.u32.wrap (IntKind.u8.wrap (BitVec.ofInt 8 ((s.getD 3 0).toNat : Int) &&& BitVec.ofInt 8 127).toNat)) * 2097152))).toNat))),(69,.v (.bool ((IntKind.u8.wrap (BitVec.ofInt 8 ((s.getD 3 0).toNat : Int) &&& BitVec.ofInt 8 128).toNat) == 0)))] hW bo fun cO ax=>?_
 refine qaf (qab ?_)
 refine qar ax (b:=(IntKind.u8.wrap (BitVec.ofInt 8 ((s.getD 3 0).toNat : Int) &&& BitVec.ofInt 8 128).toNat) == 0) kz ((qc3 _ (qb8 s 3)).trans (decide_eq_false (by have:=h3; unfold oc at this; omega))) ?_
 refine qaq [(0,.v (.slice A s.length c)),(4,.v (.int .u32 (IntKind.u32.wrap (BitVec.ofInt 32 (IntKind.u32.wrap (BitVec.ofInt 32 (IntKind.u32.wrap (BitVec.ofInt 32 (IntKind.u32.wrap (IntKind.u8.wrap (BitVec.ofInt 8 ((s.getD 0 0).toNat : Int) &&& BitVec.ofInt 8 127).toNat)) ||| BitVec.ofInt 32 (IntKind.u32.wrap ((IntKind.u32.wrap (IntKind.u8.wrap (BitVec.ofInt 8 ((s.getD 1 0).toNat : Int) &&& BitVec.ofInt 8 127).toNat)) * 128))).toNat) ||| BitVec.ofInt 32 (IntKind.u32.wrap ((IntKind.u32.wrap (IntKind.u8.wrap (BitVec.ofInt 8 ((s.getD 2 0).toNat : Int) &&& BitVec.ofInt 8 127).toNat)) * 16384))).toNat) ||| BitVec.ofInt 32 (IntKind.u32.wrap ((IntKind.u32.wrap (IntKind.u8.wrap (BitVec.ofInt 8 ((s.getD 3 0).toNat : Int) &&& BitVec.ofInt 8 127).toNat)) * 2097152))).toNat))),(73,.v (.bool (decide (((s.length : Nat) : Int) < 5))))] hW ax fun cP ag=>?_
 refine qar ag (b:=decide (((s.length : Nat) : Int) < 5)) kz (decide_eq_false (by omega)) ?_
 refine wp_skip ?_
 refine qab ?_
 refine qae [0,1,2,3,4,5,6,7] kz ?_
 refine qal [0,1] [2,3,4,5,6,7] [(0,.v (.slice A s.length c)),(74,.v (.int .u32 (IntKind.u32.wrap (BitVec.ofInt 32 (IntKind.u32.wrap (BitVec.ofInt 32 (IntKind.u32.wrap (BitVec.ofInt 32 (IntKind.u32.wrap (IntKind.u8.wrap (BitVec.ofInt 8 ((s.getD 0 0).toNat : Int) &&& BitVec.ofInt 8 127).toNat)) ||| BitVec.ofInt 32 (IntKind.u32.wrap ((IntKind.u32.wrap (IntKind.u8.wrap (BitVec.ofInt 8 ((s.getD 1 0).toNat : Int) &&& BitVec.ofInt 8 127).toNat)) * 128))).toNat) ||| BitVec.ofInt 32 (IntKind.u32.wrap ((IntKind.u32.wrap (IntKind.u8.wrap (BitVec.ofInt 8 ((s.getD 2 0).toNat : Int) &&& BitVec.ofInt 8 127).toNat)) * 16384))).toNat) ||| BitVec.ofInt 32 (IntKind.u32.wrap ((IntKind.u32.wrap (IntKind.u8.wrap (BitVec.ofInt 8 ((s.getD 3 0).toNat : Int) &&& BitVec.ofInt 8 127).toNat)) * 2097152))).toNat))),(75,.v (.slice A s.length c))] hW ag fun bG ay=>?_
 obtain ⟨az,aA,ah,bB,aa⟩:=Slots.get ho (i:=4) (by first | omega | (simp only [List.length_append,be_length,List.length_cons,List.length_nil] at *; omega))
 refine qan (qaC ay (t:=22) (A:=A) (m:=s.length) (q:=4) (d:=76) kz (e:=5) (size:=1) (bytes:=1) (j:=4) kz ah rfl (by first | omega | (simp only [List.length_append,be_length,List.length_cons,List.length_nil] at *; omega)) fun bH aB=>?_)
 refine qan (qaQ aB (t:=5) (b:=az) (o:=aA + 4 * 1) (d:=77) kz (cs:=[.int .u8 ((s.getD 4 0).toNat : Int)]) (v:=.int .u8 ((s.getD 4 0).toNat : Int)) kz (AtF.move aa hW.step nilM qbc).at_ fun bI aC=>?_)
 refine qal [4,5,6,7] [] [(0,.v (.slice A s.length c)),(4,.v (.int .u32 (IntKind.u32.wrap (BitVec.ofInt 32 (IntKind.u32.wrap (BitVec.ofInt 32 (IntKind.u32.wrap (BitVec.ofInt 32 (IntKind.u32.wrap (BitVec.ofInt 32 (IntKind.u32.wrap (IntKind.u8.wrap (BitVec.ofInt 8 ((s.getD 0 0).toNat : Int) &&& BitVec.ofInt 8 127).toNat)) ||| BitVec.ofInt 32 (IntKind.u32.wrap ((IntKind.u32.wrap (IntKind.u8.wrap (BitVec.ofInt 8 ((s.getD 1 0).toNat : Int) &&& BitVec.ofInt 8 127).toNat)) * 128))).toNat) ||| BitVec.ofInt 32 (IntKind.u32.wrap ((IntKind.u32.wrap (IntKind.u8.wrap (BitVec.ofInt 8 ((s.getD 2 0).toNat : Int) &&& BitVec.ofInt 8 127).toNat)) * 16384))).toNat) ||| BitVec.ofInt 32 (IntKind.u32.wrap ((IntKind.u32.wrap (IntKind.u8.wrap (BitVec.ofInt 8 ((s.getD 3 0).toNat : Int) &&& BitVec.ofInt 8 127).toNat)) * 2097152))).toNat) ||| BitVec.ofInt 32 (IntKind.u32.wrap ((IntKind.u32.wrap ((s.getD 4 0).toNat : Int)) * 268435456))).toNat)))] hW aC fun bJ aD=>?_
 refine qaf (qab ?_)
 refine wp_seq ?_
 refine qae [0,1,2,3] kz ?_
 refine qal [0] [1,2,3] [(4,.v (.int .u32 (IntKind.u32.wrap (BitVec.ofInt 32 (IntKind.u32.wrap (BitVec.ofInt 32 (IntKind.u32.wrap (BitVec.ofInt 32 (IntKind.u32.wrap (BitVec.ofInt 32 (IntKind.u32.wrap (IntKind.u8.wrap (BitVec.ofInt 8 ((s.getD 0 0).toNat : Int) &&& BitVec.ofInt 8 127).toNat)) ||| BitVec.ofInt 32 (IntKind.u32.wrap ((IntKind.u32.wrap (IntKind.u8.wrap (BitVec.ofInt 8 ((s.getD 1 0).toNat : Int) &&& BitVec.ofInt 8 127).toNat)) * 128))).toNat) ||| BitVec.ofInt 32 (IntKind.u32.wrap ((IntKind.u32.wrap (IntKind.u8.wrap (BitVec.ofInt 8 ((s.getD 2 0).toNat : Int) &&& BitVec.ofInt 8 127).toNat)) * 16384))).toNat) ||| BitVec.ofInt 32 (IntKind.u32.wrap ((IntKind.u32.wrap (IntKind.u8.wrap (BitVec.ofInt 8 ((s.getD 3 0).toNat : Int) &&& BitVec.ofInt 8 127).toNat)) * 2097152))).toNat) ||| BitVec.ofInt 32 (IntKind.u32.wrap ((IntKind.u32.wrap ((s.getD 4 0).toNat : Int)) * 268435456))).toNat))),(81,.v (.slice A s.length c))] hW aD fun bK aE=>?_
 refine qan (qaC aE (t:=22) (A:=A) (m:=s.length) (q:=4) (d:=82) kz (e:=5) (size:=1) (bytes:=1) (j:=4) kz ah rfl (by first | omega | (simp only [List.length_append,be_length,List.length_cons,List.length_nil] at *; omega)) fun bL aF=>?_)
 refine qan (qaQ aF (t:=5) (b:=az) (o:=aA + 4 * 1) (d:=83) kz (cs:=[.int .u8 ((s.getD 4 0).toNat : Int)]) (v:=.int .u8 ((s.getD 4 0).toNat : Int)) kz (AtF.move aa hW.step nilM qbc).at_ fun bM aG=>?_)
 refine qal [3] [] [(4,.v (.int .u32 (IntKind.u32.wrap (BitVec.ofInt 32 (IntKind.u32.wrap (BitVec.ofInt 32 (IntKind.u32.wrap (BitVec.ofInt 32 (IntKind.u32.wrap (BitVec.ofInt 32 (IntKind.u32.wrap (IntKind.u8.wrap (BitVec.ofInt 8 ((s.getD 0 0).toNat : Int) &&& BitVec.ofInt 8 127).toNat)) ||| BitVec.ofInt 32 (IntKind.u32.wrap ((IntKind.u32.wrap (IntKind.u8.wrap (BitVec.ofInt 8 ((s.getD 1 0).toNat : Int) &&& BitVec.ofInt 8 127).toNat)) * 128))).toNat) ||| BitVec.ofInt 32 (IntKind.u32.wrap ((IntKind.u32.wrap (IntKind.u8.wrap (BitVec.ofInt 8 ((s.getD 2 0).toNat : Int) &&& BitVec.ofInt 8 127).toNat)) * 16384))).toNat) ||| BitVec.ofInt 32 (IntKind.u32.wrap ((IntKind.u32.wrap (IntKind.u8.wrap (BitVec.ofInt 8 ((s.getD 3 0).toNat : Int) &&& BitVec.ofInt 8 127).toNat)) * 2097152))).toNat) ||| BitVec.ofInt 32 (IntKind.u32.wrap ((IntKind.u32.wrap ((s.getD 4 0).toNat : Int)) * 268435456))).toNat))),(84,.v (.bool (decide (((s.getD 4 0).toNat : Int) ≤ 15))))] hW aG fun bN ai=>?_
 refine qaf (qab ?_)
 refine qa8 ai (b:=decide (((s.getD 4 0).toNat : Int) ≤ 15)) kz (decide_eq_true (by have:=h4; unfold oc at this; omega)) ?_
 refine qaq [(2,.v (.int .u32 (IntKind.u32.wrap (BitVec.ofInt 32 (IntKind.u32.wrap (BitVec.ofInt 32 (IntKind.u32.wrap (BitVec.ofInt 32 (IntKind.u32.wrap (BitVec.ofInt 32 (IntKind.u32.wrap (IntKind.u8.wrap (BitVec.ofInt 8 ((s.getD 0 0).toNat : Int) &&& BitVec.ofInt 8 127).toNat)) ||| BitVec.ofInt 32 (IntKind.u32.wrap ((IntKind.u32.wrap (IntKind.u8.wrap (BitVec.ofInt 8 ((s.getD 1 0).toNat : Int) &&& BitVec.ofInt 8 127).toNat)) * 128))).toNat) ||| BitVec.ofInt 32 (IntKind.u32.wrap ((IntKind.u32.wrap (IntKind.u8.wrap (BitVec.ofInt 8 ((s.getD 2 0).toNat : Int) &&& BitVec.ofInt 8 127).toNat)) * 16384))).toNat) ||| BitVec.ofInt 32 (IntKind.u32.wrap ((IntKind.u32.wrap (IntKind.u8.wrap (BitVec.ofInt 8 ((s.getD 3 0).toNat : Int) &&& BitVec.ofInt 8 127).toNat)) * 2097152))).toNat) ||| BitVec.ofInt 32 (IntKind.u32.wrap ((IntKind.u32.wrap ((s.getD 4 0).toNat : Int)) * 268435456))).toNat))),(3,.v (.int .i64 5))] hW ai fun bO aH=>?_
 refine wp_ret ?_
 refine qap ?_
 refine qdD ?_
 refine qaK aH hW.cells (v:=.tuple #[.int .u32 (IntKind.u32.wrap (BitVec.ofInt 32 (IntKind.u32.wrap (BitVec.ofInt 32 (IntKind.u32.wrap (BitVec.ofInt 32 (IntKind.u32.wrap (BitVec.ofInt 32 (IntKind.u32.wrap (IntKind.u8.wrap (BitVec.ofInt 8 ((s.getD 0 0).toNat : Int) &&& BitVec.ofInt 8 127).toNat)) ||| BitVec.ofInt 32 (IntKind.u32.wrap ((IntKind.u32.wrap (IntKind.u8.wrap (BitVec.ofInt 8 ((s.getD 1 0).toNat : Int) &&& BitVec.ofInt 8 127).toNat)) * 128))).toNat) ||| BitVec.ofInt 32 (IntKind.u32.wrap ((IntKind.u32.wrap (IntKind.u8.wrap (BitVec.ofInt 8 ((s.getD 2 0).toNat : Int) &&& BitVec.ofInt 8 127).toNat)) * 16384))).toNat) ||| BitVec.ofInt 32 (IntKind.u32.wrap ((IntKind.u32.wrap (IntKind.u8.wrap (BitVec.ofInt 8 ((s.getD 3 0).toNat : Int) &&& BitVec.ofInt 8 127).toNat)) * 2097152))).toNat) ||| BitVec.ofInt 32 (IntKind.u32.wrap ((IntKind.u32.wrap ((s.getD 4 0).toNat : Int)) * 268435456))).toNat),.int .i64 5]) kz ?_
 have e_:=uv_5 (oc s 0) (oc s 1) (oc s 2) (oc s 3) (oc s 4) (qb8 s 0) (qb8 s 1) (qb8 s 2) (qb8 s 3) (by omega)
 refine ⟨congrArg (fun z_ : Int=>Ending.returned (.tuple #[.int .u32 z_,.int .i64 5])) (Eq.trans e_ ?_),hW.step⟩
 omega
theorem rUv (x : Nat) (hx : x < 4294967296) (rest : Bs) {A : Option Addr} {c : Nat} {w : World} {F : Nat → Nat → Prop} (ho : Octs w F A c (uv x ++ rest)) :
  Calls Tryz.prog 238 #[.slice A (uv x ++ rest).length c] w (qcj w (.tuple #[.int .u32 ((x : Nat) : Int),.int .i64 (((uv x).length : Nat) : Int)])):=by
 have hl:=qiM hx
 have hL : (uv x ++ rest).length = (uv x).length + rest.length:=List.length_append
 by_cases h1 : x < 128
 ·rw [if_pos h1] at hl
  have h:=rUv1 (uv x ++ rest) ho (by omega) x (by rw [qf6,if_pos h1]) h1
  rw [hl]; simpa using h
 rw [if_neg h1] at hl
 have o0 : oc (uv x ++ rest) 0 = x % 128 + 128:=by rw [qf6,if_neg h1]
 have o1 : oc (uv x ++ rest) 1 = oc (uv (x / 128) ++ rest) 0:=qd3 (by omega) rest 0
 by_cases h2 : x < 16384
 ·rw [if_pos h2] at hl
  rw [qf6,if_pos (by omega)] at o1
  have h:=rUv2 (uv x ++ rest) ho (by omega) (x % 128) (x / 128) o0 o1 (by omega) (by omega)
  rw [show x % 128 + x / 128 * 128 = x by omega] at h
  rw [hl]; exact h
 rw [if_neg h2] at hl
 have o2 : oc (uv x ++ rest) 2 = oc (uv (x / 128 / 128) ++ rest) 0:=(qd3 (by omega) rest 1).trans (qd3 (by omega) rest 0)
 rw [qf6,if_neg (by omega)] at o1
 by_cases h3 : x < 2097152
 ·rw [if_pos h3] at hl
  rw [qf6,if_pos (by omega)] at o2
  have h:=rUv3 (uv x ++ rest) ho (by omega) (x % 128) (x / 128 % 128) (x / 128 / 128) o0 o1 o2 (by omega) (by omega) (by omega)
  rw [show x % 128 + x / 128 % 128 * 128 + x / 128 / 128 * 16384 = x by omega] at h
  rw [hl]; exact h
 rw [if_neg h3] at hl
 have o3 : oc (uv x ++ rest) 3 = oc (uv (x / 128 / 128 / 128) ++ rest) 0:=(qd3 (by omega) rest 2).trans ((qd3 (by omega) rest 1).trans (qd3 (by omega) rest 0))
 rw [qf6,if_neg (by omega)] at o2
 by_cases h4 : x < 268435456
 ·rw [if_pos h4] at hl
  rw [qf6,if_pos (by omega)] at o3
  have h:=rUv4 (uv x ++ rest) ho (by omega) (x % 128) (x / 128 % 128) (x / 128 / 128 % 128) (x / 128 / 128 / 128) o0 o1 o2 o3 (by omega) (by omega) (by omega) (by omega)
  rw [show x % 128 + x / 128 % 128 * 128 + x / 128 / 128 % 128 * 16384 + x / 128 / 128 / 128 * 2097152 = x by omega] at h
  rw [hl]; exact h
 rw [if_neg h4] at hl
 have o4 : oc (uv x ++ rest) 4 = oc (uv (x / 128 / 128 / 128 / 128) ++ rest) 0:=(qd3 (by omega) rest 3).trans ((qd3 (by omega) rest 2).trans ((qd3 (by omega) rest 1).trans (qd3 (by omega) rest 0)))
 rw [qf6,if_neg (by omega)] at o3
 rw [qf6,if_pos (by omega)] at o4
 have h:=rUv5 (uv x ++ rest) ho (by omega) (x % 128) (x / 128 % 128) (x / 128 / 128 % 128) (x / 128 / 128 / 128 % 128) (x / 128 / 128 / 128 / 128) o0 o1 o2 o3 o4 (by omega) (by omega) (by omega) (by omega) (by omega)
 rw [show x % 128 + x / 128 % 128 * 128 + x / 128 / 128 % 128 * 16384 + x / 128 / 128 / 128 % 128 * 2097152 + x / 128 / 128 / 128 / 128 * 268435456 = x by omega] at h
 rw [hl]; exact h
theorem qdl (x : Nat) (hx : x < 4294967296) (rest : Bs)  {br : Nat} {A : Option Addr} {m c : Nat} {w : World} {F : Nat → Nat → Prop} (hst : Str w br [.slice A m c,.bool false]) (hr : RdS w F A m c (uv x ++ rest)) (hFd : ∀ b o,F b o → ¬ RdM br b o) :
  Calls Tryz.prog 222 #[.pointer (some ⟨br,0,none⟩)] w (RdPost w br F rest fun v w'=>v = .int .u32 ((x : Nat) : Int)):=by
 obtain ⟨hm,ho⟩:=hr
 subst hm
 have hle:=ho.le
 have hpos:=qh2 x
 refine enter (n:=31) Tryz.func222 rfl Tryz.ntmps222 kz fun a hE=>?_
 have hW : WOk w (RdM br) w [⟨br,0,[.slice A ((uv x ++ rest).length) c,.bool false],true⟩] []:=WOk.startStr hst
 have hE1:=(hE.grow ⟨br,0,[.slice A ((uv x ++ rest).length) c,.bool false],true⟩).recast 0 (.v (.pointer (some ⟨br,0,none⟩))) (.p 0 0) rfl rfl (Nat.le_of_ble_eq_true (n:=1) rfl)
 refine qaq [(0,.p 0 0)] hW hE1 fun a1 hE2=>?_
 refine qae [0,1,2,3,4,5,6,7,8,9] kz ?_
 refine qal [0,1,2,3] [4,5,6,7,8,9] [(0,.p 0 0),(9,.v (.slice A ((uv x ++ rest).length) c))] hW hE2 fun a3 hE4=>?_
 refine qan (qam hE4 (f:=238) (vs:=[.slice A ((uv x ++ rest).length) c]) (d:=10) kz Tryz.call238 (rUv x hx rest (ho.move hW.step (fun b_ o_ h_ _=>hFd b_ o_ h_) (hW.immM hFd))) ?_)
 rintro e_ w6 ⟨rfl,hs5⟩
 refine ⟨_,rfl,fun a7 hE8=>?_⟩
 have hW9:=hW.next_nil hs5
 have aj:=hW.frN hs5
 refine qal [5,6,7,8,9] [] [(0,.p 0 0),(3,.v (.int .u32 ((x : Nat) : Int))),(4,.v (.int .i64 (((uv x).length : Nat) : Int)))] hW9 hE8 fun al ac=>?_
 refine qaf (qab ?_)
 refine wp_seq ?_
 refine qaq [(0,.p 0 0),(3,.v (.int .u32 ((x : Nat) : Int))),(4,.v (.int .i64 (((uv x).length : Nat) : Int))),(14,.v (.bool (decide ((((uv x).length : Nat) : Int) ≤ 0))))] hW9 ac fun am ab=>?_
 refine qar ab (b:=decide ((((uv x).length : Nat) : Int) ≤ 0)) kz (decide_eq_false (by omega)) ?_
 refine wp_skip ?_
 refine qab ?_
 refine qae [0,1,2,3,4,5,6,7,8,9] kz ?_
 refine qal [0,1,2,3,4,5] [6,7,8,9] [(3,.v (.int .u32 ((x : Nat) : Int))),(21,.p 0 0),(25,.v (.slice A ((uv x ++ rest).length) c)),(26,.v (.int .i64 (((uv x).length : Nat) : Int)))] hW9 ab fun ao ae=>?_
 refine qan (qdk ae (t:=22) (A:=A) (m:=((uv x ++ rest).length)) (cp:=c) (q:=(((uv x).length : Nat) : Int)) (d:=27) (j:=((uv x).length)) kz (e:=5) (bytes:=1) kz (rfl) (by first | omega | (simp only [List.length_append,be_length,List.length_cons,List.length_nil] at *; omega)) fun ap af=>?_)
 refine qal [7,8] [9] [(3,.v (.int .u32 ((x : Nat) : Int))),(27,.v (.slice (cutA A c ((uv x).length)) (((uv x ++ rest).length) - ((uv x).length)) (c - ((uv x).length)))),(29,.p 0 0)] hW9 af fun ar ag=>?_
 refine qan (qav hW9 ag (oi:=0) (cs:=[.slice (cutA A c ((uv x).length)) (((uv x ++ rest).length) - ((uv x).length)) (c - ((uv x).length)),.bool false]) kz fun au ak aa ah=>?_)
 refine qaf (qab ?_)
 refine qaq [(2,.v (.int .u32 ((x : Nat) : Int)))] aa ah fun av ai=>?_
 refine wp_ret ?_
 refine qaK ai aa.cells (v:=.int .u32 ((x : Nat) : Int)) kz ?_
 exact ⟨_,_,_,_,rfl,Str.of aa 0 rfl,RdS.drop (s:=uv x) ⟨rfl,ho.move aa.step (fun b_ o_ h_ _=>hFd b_ o_ h_) qbc⟩ (rfl),aa.step,rfl⟩
theorem qii (X : Bs) (rest : Bs)  {br : Nat} {A : Option Addr} {m c : Nat} {w : World} {F : Nat → Nat → Prop} (hst : Str w br [.slice A m c,.bool false]) (hr : RdS w F A m c (X ++ rest)) (hFd : ∀ b o,F b o → ¬ RdM br b o) :
  Calls Tryz.prog 224 #[.pointer (some ⟨br,0,none⟩),.int .i64 ((X.length : Nat) : Int)] w (RdPost w br F rest fun v w'=>∃ A2,v = .slice A2 X.length X.length ∧ Octs w' F A2 X.length X):=by
 obtain ⟨hm,ho⟩:=hr
 subst hm
 have hle:=ho.le
 refine enter (n:=40) Tryz.func224 rfl Tryz.ntmps224 kz fun a hE=>?_
 have hW : WOk w (RdM br) w [⟨br,0,[.slice A ((X ++ rest).length) c,.bool false],true⟩] []:=WOk.startStr hst
 have hE1:=(hE.grow ⟨br,0,[.slice A ((X ++ rest).length) c,.bool false],true⟩).recast 0 (.v (.pointer (some ⟨br,0,none⟩))) (.p 0 0) rfl rfl (Nat.le_of_ble_eq_true (n:=1) rfl)
 refine qaq [(0,.p 0 0),(1,.v (.int .i64 ((X.length : Nat) : Int)))] hW hE1 fun a1 hE2=>?_
 refine wp_seq ?_
 refine qae [0,1,2,3,4,5,6,7,8,9,10] kz ?_
 refine qal [0,1,2,3,4,5,6,7] [8,9,10] [(0,.p 0 0),(1,.v (.int .i64 ((X.length : Nat) : Int))),(13,.v (.bool (decide ((((X ++ rest).length : Nat) : Int) < ((X.length : Nat) : Int)))))] hW hE2 fun a3 hE4=>?_
 have hc5 : (decide ((((X ++ rest).length : Nat) : Int) < ((X.length : Nat) : Int))) = false:=decide_eq_false (by first | omega | (simp only [List.length_append,be_length,List.length_cons,List.length_nil] at *; omega))
 have hE6:=hE4.cast (env':=[(0,.p 0 0),(1,.v (.int .i64 ((X.length : Nat) : Int))),(13,.v (.bool false))]) (by rw [hc5])
 refine qal [8,9,10] [] [(0,.p 0 0),(1,.v (.int .i64 ((X.length : Nat) : Int))),(16,.v (.bool (decide (((X.length : Nat) : Int) < 0))))] hW hE6 fun a7 hE8=>?_
 refine qaf (qab ?_)
 refine qar hE8 (b:=decide (((X.length : Nat) : Int) < 0)) kz (decide_eq_false (by first | omega | (simp only [List.length_append,be_length,List.length_cons,List.length_nil] at *; omega))) ?_
 refine wp_skip ?_
 refine qab ?_
 refine qae [0,1,2,3,4,5,6,7] kz ?_
 refine qal [0,1,2,3,4,5] [6,7] [(0,.p 0 0),(1,.v (.int .i64 ((X.length : Nat) : Int))),(26,.v (.slice A ((X ++ rest).length) c)),(27,.v (.int .i64 ((X.length : Nat) : Int))),(28,.v (.int .i64 ((X.length : Nat) : Int)))] hW hE8 fun a9 ab=>?_
 refine qan (qjm ab (t:=22) (A:=A) (m:=((X ++ rest).length)) (cp:=c) (k:=.i64) (q:=((X.length : Nat) : Int)) (d:=29) (j:=X.length) kz (e:=5) (bytes:=1) kz (rfl) (by first | omega | (simp only [List.length_append,be_length,List.length_cons,List.length_nil] at *; omega)) fun al ac=>?_)
 refine qal [7] [] [(0,.p 0 0),(1,.v (.int .i64 ((X.length : Nat) : Int))),(5,.v (.slice A X.length X.length))] hW ac fun am ae=>?_
 refine qaf (qab ?_)
 refine qae [0,1,2,3,4,5,6,7,8,9] kz ?_
 refine qal [0,1,2,3,4,5] [6,7,8,9] [(5,.v (.slice A X.length X.length)),(30,.p 0 0),(34,.v (.slice A ((X ++ rest).length) c)),(35,.v (.int .i64 ((X.length : Nat) : Int)))] hW ae fun ao af=>?_
 refine qan (qdk af (t:=22) (A:=A) (m:=((X ++ rest).length)) (cp:=c) (q:=((X.length : Nat) : Int)) (d:=36) (j:=X.length) kz (e:=5) (bytes:=1) kz (rfl) (by first | omega | (simp only [List.length_append,be_length,List.length_cons,List.length_nil] at *; omega)) fun ap ag=>?_)
 refine qal [7,8] [9] [(5,.v (.slice A X.length X.length)),(36,.v (.slice (cutA A c X.length) (((X ++ rest).length) - X.length) (c - X.length))),(38,.p 0 0)] hW ag fun ar ah=>?_
 refine qan (qav hW ah (oi:=0) (cs:=[.slice (cutA A c X.length) (((X ++ rest).length) - X.length) (c - X.length),.bool false]) kz fun au ak aa ai=>?_)
 refine qaf (qab ?_)
 refine qaq [(4,.v (.slice A X.length X.length))] aa ai fun av aj=>?_
 refine wp_ret ?_
 refine qaK aj aa.cells (v:=.slice A X.length X.length) kz ?_
 exact ⟨_,_,_,_,rfl,Str.of aa 0 rfl,RdS.drop (s:=X) ⟨rfl,ho.move aa.step (fun b_ o_ h_ _=>hFd b_ o_ h_) qbc⟩ (rfl),aa.step,A,rfl,RdS.front (s:=X) ⟨rfl,ho.move aa.step (fun b_ o_ h_ _=>hFd b_ o_ h_) qbc⟩ rfl⟩
theorem qjt {br : Nat} {A : Option Addr} {m c : Nat} {w : World} (hst : Str w br [.slice A m c,.bool false]) :
  Calls Tryz.prog 176 #[.pointer (some ⟨br,0,none⟩)] w (fun e w'=>e = .returned .nilIface ∧ w' = w):=by
 refine enter (n:=8) Tryz.func176 rfl Tryz.ntmps176 kz fun a hE=>?_
 have hW : WOk w (RdM br) w [⟨br,0,[.slice A m c,.bool false],true⟩] []:=WOk.startStr hst
 have hE1:=(hE.grow ⟨br,0,[.slice A m c,.bool false],true⟩).recast 0 (.v (.pointer (some ⟨br,0,none⟩))) (.p 0 0) rfl rfl (Nat.le_of_ble_eq_true (n:=1) rfl)
 refine qaq [(0,.p 0 0)] hW hE1 fun a1 hE2=>?_
 refine wp_seq ?_
 refine qaq [(6,.v (.bool false))] hW hE2 fun a3 hE4=>?_
 refine qar hE4 (b:=false) kz rfl ?_
 refine wp_skip ?_
 refine qab ?_
 refine qaq [(2,.v (.nilIface))] hW hE4 fun a5 hE6=>?_
 refine wp_ret ?_
 refine qaK hE6 hW.cells (v:=.nilIface) kz ?_
 exact ⟨rfl,rfl⟩
structure TR (w w' : World) (br p2 p3 : Nat) (F : Nat → Nat → Prop) (A : Option Addr) (n c : Nat) (s : Bs) (m : Option Nat) (u : List (Int × Bs)) : Prop where
 step : Step w w' (RdM br)
 old : br < w.heap.size
 new2 : w.heap.size ≤ p2
 new3 : w.heap.size ≤ p3
 ne : p2 ≠ p3
 rd : Str w' br [.slice A n c,.bool false]
 s2 : Str w' p2 [.map none]
 s3 : Str w' p3 [.map m]
 oct : RdS w' (fun b o=>F b o ∧ b < w.heap.size) A n c s
 own : OwnM w' (fun b o=>F b o ∧ b < w.heap.size) m u
 new : ∀ r,m = some r → w.heap.size ≤ r
theorem TR.mne {w w' : World} {br p2 p3 : Nat} {F : Nat → Nat → Prop} {A : Option Addr} {n c : Nat} {s : Bs} {m : Option Nat} {u : List (Int × Bs)} (h : TR w w' br p2 p3 F A n c s m u) : m ≠ some p2 ∧ m ≠ some p3:=by
 refine ⟨fun e=>?_,fun e=>?_⟩
 ·obtain ⟨es,clk,h1,_⟩:=h.own.some_ p2 e
  exact qeA (h.s2.at_ 0 _ rfl) h1 rfl
 obtain ⟨es,clk,h1,_⟩:=h.own.some_ p3 e
 exact qeA (h.s3.at_ 0 _ rfl) h1 rfl
theorem TR.read {w w' w1 : World} {br p2 p3 : Nat} {F : Nat → Nat → Prop} {A A' : Option Addr} {n c n' c' : Nat} {s s' : Bs} {m : Option Nat} {u : List (Int × Bs)} (h : TR w w' br p2 p3 F A n c s m u) (hFd : ∀ b o,F b o → ¬ RdM br b o) (hs : Str w1 br [.slice A' n' c',.bool false]) (hr : RdS w1 (fun b o=>F b o ∧ b < w.heap.size) A' n' c' s') (hst : Step w' w1 (RdM br)) : TR w w1 br p2 p3 F A' n' c' s' m u:=by
 have ho:=h.old
 have h2:=h.new2
 have h3:=h.new3
 refine ⟨h.step.trans hst fun _ _ _ e=>e,ho,h2,h3,h.ne,hs,h.s2.move hst fun o e=>?_,h.s3.move hst fun o e=>?_,hr,h.own.move hst (fun b o hg _=>hFd b o hg.1) qbc (fun r o e he=>?_),h.new⟩
 ·have:=e.1; omega
 ·have:=e.1; omega
 have:=h.new r e; have:=he.1; omega
theorem TR.set {w w' : World} {br p2 p3 : Nat} {F : Nat → Nat → Prop} {A A1 : Option Addr} {n c c1 j : Nat} {s x : Bs} {k : Int} {m : Option Nat} {u : List (Int × Bs)} (h : TR w w' br p2 p3 F A n c s m (u.take j)) (hsort : qdf u) (hj : u[j]? = some (k,x)) (hx : Octs w' (fun b o=>F b o ∧ b < w.heap.size) A1 c1 x) (hk : 0 ≤ k ∧ k < 4294967296) :
  Calls Tryz.prog 225 [.pointer (some ⟨p3,0,none⟩),.int .u32 k,.slice A1 x.length c1].toArray w' (fun e w1=>e = .returned (.tuple #[]) ∧ ∃ r,TR w w1 br p2 p3 F A n c s (some r) (u.take (j + 1))):=by
 have hcell : w'.cell? ⟨p3,0,none⟩ = some (.map m):=h.s3.at_ 0 _ rfl
 have hfz : w'.frozen? ⟨p3,0,none⟩ = false:=h.s3.frz 0 (by simp)
 have hnew:=h.new
 have h2:=h.new2
 have h3:=h.new3
 have ho:=h.old
 have hsz:=h.step.size
 obtain ⟨m2,m3⟩:=h.mne
 refine (qjU hcell hfz h.own hx hk (fun b' o' hg=>⟨fun e=>?_,fun e=>?_⟩) (fun b' o' hg=>Nat.lt_of_lt_of_le hg.2 hsz)).mono ?_
 ·have:=hg.2; omega
 ·have:=hnew b' e; have:=hg.2; omega
 rintro e w1 ⟨rfl,r,g1,g2,g3,g4,g5⟩
 rw [qiR hsort hj] at g3
 refine ⟨rfl,r,h.step.trans g5 fun b o hl e=>?_,ho,h2,h3,h.ne,h.rd.move g5 fun o e=>?_,h.s2.move g5 fun o e=>?_,⟨fun i v hi=>?_,fun i hi=>?_⟩,⟨h.oct.len,Octs.move h.oct.oct g5 (fun b o hg _ e=>?_) qbc⟩,g3,fun r' hr'=>?_⟩
 ·rcases e with ⟨e1,_⟩ | e1
  ·omega
  have:=hnew b e1; omega
 ·rcases e with ⟨e1,_⟩ | e1
  ·omega
  have:=hnew br e1; omega
 ·rcases e with ⟨e1,_⟩ | e1
  ·exact h.ne e1
  exact m2 e1
 ·cases i with
  | zero =>
   simp only [List.getElem?_cons_zero,Option.some.injEq] at hi
   subst hi
   exact g1
  | succ i=>simp at hi
 ·have : i = 0:=by simp at hi; omega
  subst this
  exact g2
 ·have:=hg.2
  rcases e with ⟨e1,_⟩ | e1
  ·omega
  have:=hnew b e1; omega
 obtain rfl:=Option.some.inj hr'
 rcases g4 with g4 | g4
 ·exact hnew _ g4
 exact Nat.le_trans hsz g4
theorem qij (x : Int × Bs) (u : List (Int × Bs)) : qcA (x :: u) = tagR x.1 x.2 ++ qcA u:=by unfold qcA; rw [List.flatMap_cons]
theorem qik {u : List (Int × Bs)} {j : Nat} {k : Int} {x : Bs} (h : u[j]? = some (k,x)) (rest : Bs) : qcA (u.drop j) ++ rest = uv k.toNat ++ (uv x.length ++ (x ++ (qcA (u.drop (j + 1)) ++ rest))):=by
 obtain ⟨hlt,he⟩:=List.getElem?_eq_some_iff.1 h
 rw [List.drop_eq_getElem_cons hlt,he,qij]
 simp only [tagR,List.append_assoc]
theorem qlY (u : List (Int × Bs)) (rest : Bs) (hsort : qdf u) (hk : ∀ x ∈ u,0 ≤ x.1 ∧ x.1 < 4294967296) (hul : u.length ≤ 1000000) (hxl : ∀ x ∈ u,x.2.length < 4294967296) {br : Nat} {A : Option Addr} {m c : Nat} {w : World} {F : Nat → Nat → Prop} (hst : Str w br [.slice A m c,.bool false]) (hr : RdS w F A m c (uv u.length ++ (qcA u ++ rest))) (hFd : ∀ b o,F b o → ¬ RdM br b o) :
  Calls Tryz.prog 182 #[.pointer (some ⟨br,0,none⟩)] w (RdPost w br (Fp F w) rest fun v w'=>∃ mm,v = .agg #[.map mm] ∧ MapR w' (Fp F w) mm u):=by
 have hbr : br < w.heap.size:=World.lt_of_cell (hst.at_ 0 _ rfl)
 refine enter (n:=24) (vs:=[.pointer (some ⟨br,0,none⟩)]) Tryz.func182 rfl Tryz.ntmps182 kz fun a hE=>?_
 have hW:=WOk.start w Nil
 refine qae [0] kz ?_
 refine qan (qaO hW hE (d:=2) (cs:=[.map none]) kz fun p2 a1 w1 hp2 hz2 hF1 hW1 hE1=>qaf (qab ?_))
 refine qae [0] kz ?_
 refine qan (qaO hW1 hE1 (d:=3) (cs:=[.map none]) kz fun p3 a2 w2 hp3 hz3 hF2 hW2 hE2=>qaf (qab ?_))
 have hne : p2 ≠ p3:=by
  have h1:=hW1.live 0 _ rfl
  simp only at h1
  omega
 have hS : Step w w2 Nil:=hW2.step
 have hT0 : TR w w2 br p2 p3 F A m c (uv u.length ++ (qcA u ++ rest)) none (u.take 0):=by
  refine ⟨hS.mono fun _ _ _ h=>h.elim,hbr,hz2,hz3,hne,hst.move hS (fun _ h=>h),Str.of hW2 0 rfl,Str.of hW2 1 rfl,hr.move hS nilM (fun b o h hb=>⟨h,hb⟩),?_,fun _ h=>by cases h⟩
  rw [List.take_zero]
  exact OwnM.nil _ _
 refine wp_seq ?_
 have hE3:=(((hE2.recast 2 (.p 0 0) (.v (.pointer (some ⟨p2,0,none⟩))) rfl rfl trivial).recast 3 (.p 1 0) (.v (.pointer (some ⟨p3,0,none⟩))) rfl rfl trivial).pick (ks:=[0,2,3]) (env':=[(0,.v (.pointer (some ⟨br,0,none⟩))),(2,.v (.pointer (some ⟨p2,0,none⟩))),(3,.v (.pointer (some ⟨p3,0,none⟩)))]) kz).cutTb 0 kz
 have hWz:=WOk.start w2 Nil
 refine qae [0,1,2] kz ?_
 refine qal [0] [1,2] [(0,.v (.pointer (some ⟨br,0,none⟩))),(2,.v (.pointer (some ⟨p2,0,none⟩))),(3,.v (.pointer (some ⟨p3,0,none⟩))),(7,.v (.pointer (some ⟨br,0,none⟩)))] hWz hE3 fun a3 hE4=>?_
 have hFd' : ∀ b o,(F b o ∧ b < w.heap.size) → ¬ RdM br b o:=fun b o h=>hFd b o h.1
 refine qan (qam hE4 (f:=222) (vs:=[.pointer (some ⟨br,0,none⟩)]) (d:=8) kz Tryz.call222 (qdl u.length (by omega) (qcA u ++ rest) hT0.rd hT0.oct hFd') ?_)
 rintro e_ w3 ⟨_,A3,n3,c3,rfl,hs3,hr3,hst3,rfl⟩
 have hT1:=hT0.read hFd hs3 hr3 hst3
 refine ⟨_,rfl,fun a4 hE5=>?_⟩
 refine qal [2] [] [(0,.v (.pointer (some ⟨br,0,none⟩))),(2,.v (.pointer (some ⟨p2,0,none⟩))),(3,.v (.pointer (some ⟨p3,0,none⟩))),(4,.v (.int .u32 ((u.length : Nat) : Int)))] (WOk.start w3 Nil) hE5 fun a5 hE6=>qaf (qab ?_)
 refine wp_block ?_
 refine wp_loop_ghost (fun q a_ w_=>∃ (j : Nat) (m_ : Option Nat) (A_ : Option Addr) (n_ c_ : Nat),q = u.length - j ∧ j ≤ u.length ∧ EnvOk 24 [] [(0,.v (.pointer (some ⟨br,0,none⟩))),(2,.v (.pointer (some ⟨p2,0,none⟩))),(3,.v (.pointer (some ⟨p3,0,none⟩))),(4,.v (.int .u32 ((u.length - j : Nat) : Int)))] a_ ∧ TR w w_ br p2 p3 F A_ n_ c_ (qcA (u.drop j) ++ rest) m_ (u.take j)) u.length
  ⟨0,none,A3,n3,c3,by omega,by omega,hE6,hT1⟩ ?_
 rintro q aq wq ⟨j,m_,A_,n_,c_,rfl,hj,hEq,hT⟩
 have hWq:=WOk.start wq Nil
 refine wp_seq (qaq [(0,.v (.pointer (some ⟨br,0,none⟩))),(2,.v (.pointer (some ⟨p2,0,none⟩))),(3,.v (.pointer (some ⟨p3,0,none⟩))),(4,.v (.int .u32 ((u.length - j : Nat) : Int))),(10,.v (.bool (decide (((u.length - j : Nat) : Int) > 0))))] hWq hEq fun aq1 hE7=>?_)
 refine qax hE7 (b:=decide (((u.length - j : Nat) : Int) > 0)) kz (fun hc=>?_) (fun hc=>?_)
 ·have hlt : j < u.length:=by have:=of_decide_eq_true hc; omega
  obtain ⟨⟨k,x⟩,hu⟩ : ∃ y,u[j]? = some y:=⟨_,List.getElem?_eq_getElem hlt⟩
  have hk':=hk (k,x) (List.mem_of_getElem? hu)
  have hx':=hxl (k,x) (List.mem_of_getElem? hu)
  dsimp only at hk' hx'
  have hoct:=hT.oct
  rw [qik hu rest] at hoct
  refine wp_skip (qab (wp_seq (wp_block ?_)))
  refine qae [0,1,2,3,4,5] kz ?_
  refine qal [0] [1,2,3,4,5] [(0,.v (.pointer (some ⟨br,0,none⟩))),(2,.v (.pointer (some ⟨p2,0,none⟩))),(3,.v (.pointer (some ⟨p3,0,none⟩))),(4,.v (.int .u32 ((u.length - j : Nat) : Int))),(13,.v (.pointer (some ⟨br,0,none⟩)))] hWq hE7 fun aq2 hE8=>?_
  refine qan (qam hE8 (f:=222) (vs:=[.pointer (some ⟨br,0,none⟩)]) (d:=14) kz Tryz.call222 (qdl k.toNat (by omega) _ hT.rd hoct hFd') ?_)
  rintro e_ wa ⟨_,Aa,na,ca,rfl,hsa,hra,hsta,rfl⟩
  have hTa:=hT.read hFd hsa hra hsta
  refine ⟨_,rfl,fun aq3 hE9=>?_⟩
  refine qal [2] [3,4,5] [(0,.v (.pointer (some ⟨br,0,none⟩))),(2,.v (.pointer (some ⟨p2,0,none⟩))),(3,.v (.pointer (some ⟨p3,0,none⟩))),(4,.v (.int .u32 ((u.length - j : Nat) : Int))),(14,.v (.int .u32 ((k.toNat : Nat) : Int))),(15,.v (.pointer (some ⟨br,0,none⟩)))] (WOk.start wa Nil) hE9 fun aq4 hE10=>?_
  refine qan (qam hE10 (f:=222) (vs:=[.pointer (some ⟨br,0,none⟩)]) (d:=16) kz Tryz.call222 (qdl x.length hx' _ hTa.rd hTa.oct hFd') ?_)
  rintro e_ wb ⟨_,Ab,nb,cb,rfl,hsb,hrb,hstb,rfl⟩
  have hTb:=hTa.read hFd hsb hrb hstb
  refine ⟨_,rfl,fun aq5 hE11=>?_⟩
  refine qal [4,5] [] [(0,.v (.pointer (some ⟨br,0,none⟩))),(2,.v (.pointer (some ⟨p2,0,none⟩))),(3,.v (.pointer (some ⟨p3,0,none⟩))),(4,.v (.int .u32 ((u.length - j : Nat) : Int))),(5,.v (.int .u32 ((k.toNat : Nat) : Int))),(6,.v (.int .u32 ((x.length : Nat) : Int)))] (WOk.start wb Nil) hE11 fun aq6 hE12=>qaf (qab ?_)
  refine qas [0,1,2,3,4,5] kz ?_
  refine qal [0,1,2,3] [4,5] [(0,.v (.pointer (some ⟨br,0,none⟩))),(2,.v (.pointer (some ⟨p2,0,none⟩))),(3,.v (.pointer (some ⟨p3,0,none⟩))),(4,.v (.int .u32 ((u.length - j : Nat) : Int))),(17,.v (.int .u32 ((k.toNat : Nat) : Int))),(18,.v (.pointer (some ⟨br,0,none⟩))),(20,.v (.int .i64 (IntKind.i64.wrap ((x.length : Nat) : Int))))] (WOk.start wb Nil) hE12 fun aq7 hE13=>?_
  rw [show IntKind.i64.wrap ((x.length : Nat) : Int) = ((x.length : Nat) : Int) by rw [i64w]; omega,show ((k.toNat : Nat) : Int) = k by omega] at hE13
  refine qan (qam hE13 (f:=224) (vs:=[.pointer (some ⟨br,0,none⟩),.int .i64 ((x.length : Nat) : Int)]) (d:=21) kz Tryz.call224 (qii x _ hTb.rd hTb.oct hFd') ?_)
  rintro e_ wc ⟨_,Ac,nc,cc,rfl,hsc,hrc,hstc,Ax,rfl,hox⟩
  have hTc:=hTb.read hFd hsc hrc hstc
  refine ⟨_,rfl,fun aq8 hE14=>?_⟩
  refine qan (qam hE14 (f:=225) (vs:=[.pointer (some ⟨p3,0,none⟩),.int .u32 k,.slice Ax x.length x.length]) (d:=22) kz Tryz.call225 (hTc.set hsort hu hox hk') ?_)
  rintro e_ wd ⟨rfl,r,hTd⟩
  refine ⟨_,rfl,fun aq9 hE15=>qaf (qat (qab ?_))⟩
  refine qas [0,1,2] kz (qal [0,1,2] [] [(0,.v (.pointer (some ⟨br,0,none⟩))),(2,.v (.pointer (some ⟨p2,0,none⟩))),(3,.v (.pointer (some ⟨p3,0,none⟩))),(4,.v (.int .u32 (IntKind.u32.wrap (((u.length - j : Nat) : Int) - 1))))] (WOk.start wd Nil) hE15 fun aqa hE16=>qaf (qab ?_))
  rw [show IntKind.u32.wrap (((u.length - j : Nat) : Int) - 1) = ((u.length - (j + 1) : Nat) : Int) by rw [qaz]; omega] at hE16
  exact ⟨u.length - (j + 1),by omega,j + 1,some r,Ac,nc,cc,rfl,by omega,hE16,hTd⟩
 obtain rfl : j = u.length:=by have:=of_decide_eq_false hc; omega
 refine wp_exit (qaB (qaB (qaP (qab ?_))))
 rw [List.take_length,List.drop_length] at hT
 have hT' : TR w wq br p2 p3 F A_ n_ c_ rest m_ u:=hT
 have h2:=hT'.new2
 have h3:=hT'.new3
 have hW9 : WOk w (RdM br) wq ([] ++ [⟨p3,0,[.map m_],true⟩] ++ [⟨p2,0,[.map none],true⟩]) []:=by
  have hb : WOk w (RdM br) wq [] []:=⟨hT'.step,fun i o hi=>by simp at hi,fun i o hi=>by simp at hi,fun i o hi=>by simp at hi,fun i j o o' _ hi=>by simp at hi,fun i r hi=>by simp at hi,fun i r hi=>by simp at hi,fun i r hi=>by simp at hi,fun i j r r' _ hi=>by simp at hi⟩
  have h4:=hb.add ⟨p3,0,[.map m_],true⟩ (World.lt_of_cell (hT'.s3.at_ 0 _ rfl)) (fun j v hj=>by rw [Nat.zero_add]; exact hT'.s3.at_ j v hj) (fun _ j hj=>⟨.inl h3,by rw [Nat.zero_add]; exact hT'.s3.frz j hj⟩) (fun i o hi=>by simp at hi) (fun i r hi=>by simp at hi)
  refine h4.add ⟨p2,0,[.map none],true⟩ (World.lt_of_cell (hT'.s2.at_ 0 _ rfl)) (fun j v hj=>by rw [Nat.zero_add]; exact hT'.s2.at_ j v hj) (fun _ j hj=>⟨.inl h2,by rw [Nat.zero_add]; exact hT'.s2.frz j hj⟩) (fun i o hi _=>.inl ?_) (fun i r hi=>by simp at hi)
  have : o = ⟨p3,0,[.map m_],true⟩:=by
   have hm:=List.mem_of_getElem? hi
   simpa using hm
  rw [this]
  exact fun e=>hT'.ne e.symm
 have hE17:=(((hE7.retable [⟨p3,0,[.map m_],true⟩,⟨p2,0,[.map none],true⟩]).recast 3 (.v (.pointer (some ⟨p3,0,none⟩))) (.p 0 0) rfl rfl (Nat.le_of_ble_eq_true (n:=1) rfl)).recast 2 (.v (.pointer (some ⟨p2,0,none⟩))) (.p 1 0) rfl rfl (Nat.le_of_ble_eq_true (n:=2) rfl))
 have hE18 : EnvOk 24 [⟨p3,0,[.map m_],true⟩,⟨p2,0,[.map none],true⟩] [(2,.p 1 0),(3,.p 0 0)] _:=hE17.pk
 refine qae [0,1] kz ?_
 refine qal [0] [1] [(2,.p 1 0),(23,.v (.agg #[.map m_]))] hW9 hE18 fun aqb hE19=>?_
 refine qan (qav hW9 hE19 (oi:=1) (cs:=[.map m_]) kz fun wz hFz hWz hEz=>qaf (qab (wp_ret ?_)))
 have hsz:=hT'.step.size
 have hstz : Step wq wz (fun b o=>b = p2 ∨ b = p3):=hFz.step.mono fun b o _ ha=>by
  rcases ha with ⟨i,ob,hi,_,rfl,_⟩ | ⟨i,r,hi,_⟩
  ·have hm:=List.mem_of_getElem? hi
   simp only [List.nil_append,List.cons_append,List.mem_cons,List.not_mem_nil,or_false] at hm
   rcases hm with rfl | rfl
   ·exact .inr rfl
   exact .inl rfl
  simp at hi
 obtain ⟨m2,m3⟩:=hT'.mne
 refine qaK hEz hWz.cells (v:=.agg #[.map m_]) kz ⟨_,A_,n_,c_,rfl,hT'.rd.move hstz (fun o e=>?_),hT'.oct.move hstz (fun b o hg _ e=>?_) (fun b o hg _=>.inl hg.1),hWz.step,m_,rfl,?_⟩
 ·have:=hT'.old; rcases e with e | e <;> omega
 ·have:=hg.2; rcases e with e | e <;> omega
 refine (hT'.own.move hstz (fun b o hg _ e=>?_) qbc (fun r o e he=>?_)).map (fun b o h=>.inl h.1) (fun r o e=>.inr (hT'.new r e)) hsort hk
 ·have:=hg.2; rcases e with e | e <;> omega
 rcases he with he | he
 ·exact m2 (by rw [e,he])
 exact m3 (by rw [e,he])
theorem qlZ (X : Bs) (hX : X.length ≤ 32767) (rest : Bs)  {br : Nat} {A : Option Addr} {m c : Nat} {w : World} {F : Nat → Nat → Prop} (hst : Str w br [.slice A m c,.bool false]) (hr : RdS w F A m c ((be 2 ((X.length : Nat) : Int)) ++ (X ++ rest))) (hFd : ∀ b o,F b o → ¬ RdM br b o) :
  Calls Tryz.prog 181 #[.pointer (some ⟨br,0,none⟩)] w (RdPost w br (Fp F w) rest fun v w'=>v = .string (bs X)):=by
 refine enter (n:=11) Tryz.func181 rfl Tryz.ntmps181 kz fun a hE=>?_
 have hW : WOk w (RdM br) w [⟨br,0,[.slice A m c,.bool false],true⟩] []:=WOk.startStr hst
 have hE1:=(hE.grow ⟨br,0,[.slice A m c,.bool false],true⟩).recast 0 (.v (.pointer (some ⟨br,0,none⟩))) (.p 0 0) rfl rfl (Nat.le_of_ble_eq_true (n:=1) rfl)
 refine qaq [(0,.p 0 0)] hW hE1 fun a1 hE2=>?_
 refine qae [0,1,2] kz ?_
 refine qal [0] [1,2] [(0,.p 0 0),(4,.p 0 0)] hW hE2 fun a3 hE4=>?_
 refine qan (qam hE4 (f:=197) (vs:=[.pointer (some ⟨br,0,none⟩)]) (d:=5) kz Tryz.call197 (qhI ((X.length : Nat) : Int) (X ++ rest) (Str.of hW 0 rfl) (hr.move hW.step (fun b_ o_ h_ _=>hFd b_ o_ h_) (hW.immM hFd)) (qc4 0 rfl)) ?_)
 rintro e_ w5 ⟨_,A6,n7,c8,rfl,hs9,ag,ac,rfl⟩
 obtain ⟨aa,ah,aG⟩:=hW.wrote 0 [⟨br,0,[.slice A6 n7 c8,.bool false],true⟩] rfl ac hs9
 have ai:=ag.move (Step.refl _ Nil) nilM (fun b_ o_ h_ _=>ah.to b_ o_ h_)
 refine ⟨_,rfl,fun aJ aj=>?_⟩
 have ak : EnvOk 11 [⟨br,0,[.slice A6 n7 c8,.bool false],true⟩] [(5,.v (.int .i16 (IntKind.i16.wrap ((X.length : Nat) : Int)))),(0,.p 0 0),(4,.p 0 0)] _:=aj.places (⟨rfl,rfl,trivial⟩)
 refine qal [2] [] [(0,.p 0 0),(3,.v (.int .i16 (IntKind.i16.wrap ((X.length : Nat) : Int))))] aa ak fun aK al=>?_
 refine qaf (qab ?_)
 refine qae [0,1,2,3,4,5] kz ?_
 refine qal [0,1,2] [3,4,5] [(6,.p 0 0),(8,.v (.int .i64 (IntKind.i64.wrap (IntKind.i16.wrap ((X.length : Nat) : Int)))))] aa al fun aL am=>?_
 have ao : IntKind.i64.wrap (IntKind.i16.wrap ((X.length : Nat) : Int)) = ((X.length : Nat) : Int):=by simp only [i16w,i32w,i64w]; omega
 have ap:=EnvOk.pick am (ks:=[6,8]) (env':=[(6,.p 0 0),(8,.v (.int .i64 (IntKind.i64.wrap (IntKind.i16.wrap ((X.length : Nat) : Int)))))]) kz
 have ar:=ap.cast (env':=[(6,.p 0 0),(8,.v (.int .i64 ((X.length : Nat) : Int)))]) (by rw [ao])
 refine qan (qam ar (f:=224) (vs:=[.pointer (some ⟨br,0,none⟩),.int .i64 ((X.length : Nat) : Int)]) (d:=9) kz Tryz.call224 (qii X (rest) (Str.of aa 0 rfl) ai (qc4 0 rfl)) ?_)
 rintro e_ aM ⟨_,aD,aE,aF,rfl,au,av,ae,⟨aH,rfl,aw⟩⟩
 obtain ⟨ab,af,aI⟩:=aa.wrote 0 [⟨br,0,[.slice aD aE aF,.bool false],true⟩] rfl ae au
 have ax:=av.move (Step.refl _ Nil) nilM (fun b_ o_ h_ _=>af.to b_ o_ h_)
 refine ⟨_,rfl,fun aN ay=>?_⟩
 have az : EnvOk 11 [⟨br,0,[.slice aD aE aF,.bool false],true⟩] [(9,.v (.slice aH X.length X.length)),(6,.p 0 0),(8,.v (.int .i64 ((X.length : Nat) : Int)))] _:=ay.places (⟨rfl,rfl,trivial⟩)
 have aA:=aw.move (Step.refl _ Nil) nilM (fun b_ o_ h_ _=>af.to b_ o_ h_)
 refine qan (qes az (src:=22) (dst:=9) (e:=5) (d:=10) kz kz kz kz aA fun aO aB=>?_)
 refine qal [5] [] [(2,.v (.string (bs X)))] ab aB fun aP aC=>?_
 refine qaf (qab ?_)
 refine wp_ret ?_
 refine qaK aC ab.cells (v:=.string (bs X)) kz ?_
 refine ⟨_,_,_,_,rfl,Str.of ab 0 rfl,(ax.move (Step.refl _ Nil) nilM qca),ab.step,rfl⟩
theorem qfu (X : Bs) (hX : X.length ≤ 1000000) (rest : Bs)  {br : Nat} {A : Option Addr} {m c : Nat} {w : World} {F : Nat → Nat → Prop} (hst : Str w br [.slice A m c,.bool false]) (hr : RdS w F A m c ((uv (X.length + 1)) ++ (X ++ rest))) (hFd : ∀ b o,F b o → ¬ RdM br b o) :
  Calls Tryz.prog 180 #[.pointer (some ⟨br,0,none⟩)] w (RdPost w br (Fp F w) rest fun v w'=>v = .string (bs X)):=by
 refine enter (n:=12) Tryz.func180 rfl Tryz.ntmps180 kz fun a hE=>?_
 have hW : WOk w (RdM br) w [⟨br,0,[.slice A m c,.bool false],true⟩] []:=WOk.startStr hst
 have hE1:=(hE.grow ⟨br,0,[.slice A m c,.bool false],true⟩).recast 0 (.v (.pointer (some ⟨br,0,none⟩))) (.p 0 0) rfl rfl (Nat.le_of_ble_eq_true (n:=1) rfl)
 refine qaq [(0,.p 0 0)] hW hE1 fun a1 hE2=>?_
 refine qae [0,1,2,3,4] kz ?_
 refine qal [0] [1,2,3,4] [(0,.p 0 0),(4,.p 0 0)] hW hE2 fun a3 hE4=>?_
 refine qan (qam hE4 (f:=222) (vs:=[.pointer (some ⟨br,0,none⟩)]) (d:=5) kz Tryz.call222 (qdl (X.length + 1) (by omega) (X ++ rest) (Str.of hW 0 rfl) (hr.move hW.step (fun b_ o_ h_ _=>hFd b_ o_ h_) (hW.immM hFd)) (qc4 0 rfl)) ?_)
 rintro e_ w5 ⟨_,A6,n7,c8,rfl,hs9,ag,ac,rfl⟩
 obtain ⟨aa,ah,aG⟩:=hW.wrote 0 [⟨br,0,[.slice A6 n7 c8,.bool false],true⟩] rfl ac hs9
 have ai:=ag.move (Step.refl _ Nil) nilM (fun b_ o_ h_ _=>ah.to b_ o_ h_)
 refine ⟨_,rfl,fun aJ aj=>?_⟩
 have ak : EnvOk 12 [⟨br,0,[.slice A6 n7 c8,.bool false],true⟩] [(5,.v (.int .u32 ((X.length + 1 : Nat) : Int))),(0,.p 0 0),(4,.p 0 0)] _:=aj.places (⟨rfl,rfl,trivial⟩)
 refine qal [2,3,4] [] [(0,.p 0 0),(3,.v (.int .i64 (IntKind.i64.wrap ((IntKind.i64.wrap ((X.length + 1 : Nat) : Int)) - 1))))] aa ak fun aK al=>?_
 refine qaf (qab ?_)
 refine qae [0,1,2,3,4] kz ?_
 refine qal [0,1] [2,3,4] [(8,.p 0 0),(9,.v (.int .i64 (IntKind.i64.wrap ((IntKind.i64.wrap ((X.length + 1 : Nat) : Int)) - 1))))] aa al fun aL am=>?_
 have ao : IntKind.i64.wrap ((IntKind.i64.wrap ((X.length + 1 : Nat) : Int)) - 1) = ((X.length : Nat) : Int):=by simp only [i16w,i32w,i64w]; omega
 have ap:=EnvOk.pick am (ks:=[8,9]) (env':=[(8,.p 0 0),(9,.v (.int .i64 (IntKind.i64.wrap ((IntKind.i64.wrap ((X.length + 1 : Nat) : Int)) - 1))))]) kz
 have ar:=ap.cast (env':=[(8,.p 0 0),(9,.v (.int .i64 ((X.length : Nat) : Int)))]) (by rw [ao])
 refine qan (qam ar (f:=224) (vs:=[.pointer (some ⟨br,0,none⟩),.int .i64 ((X.length : Nat) : Int)]) (d:=10) kz Tryz.call224 (qii X (rest) (Str.of aa 0 rfl) ai (qc4 0 rfl)) ?_)
 rintro e_ aM ⟨_,aD,aE,aF,rfl,au,av,ae,⟨aH,rfl,aw⟩⟩
 obtain ⟨ab,af,aI⟩:=aa.wrote 0 [⟨br,0,[.slice aD aE aF,.bool false],true⟩] rfl ae au
 have ax:=av.move (Step.refl _ Nil) nilM (fun b_ o_ h_ _=>af.to b_ o_ h_)
 refine ⟨_,rfl,fun aN ay=>?_⟩
 have az : EnvOk 12 [⟨br,0,[.slice aD aE aF,.bool false],true⟩] [(10,.v (.slice aH X.length X.length)),(8,.p 0 0),(9,.v (.int .i64 ((X.length : Nat) : Int)))] _:=ay.places (⟨rfl,rfl,trivial⟩)
 have aA:=aw.move (Step.refl _ Nil) nilM (fun b_ o_ h_ _=>af.to b_ o_ h_)
 refine qan (qes az (src:=22) (dst:=9) (e:=5) (d:=11) kz kz kz kz aA fun aO aB=>?_)
 refine qal [4] [] [(2,.v (.string (bs X)))] ab aB fun aP aC=>?_
 refine qaf (qab ?_)
 refine wp_ret ?_
 refine qaK aC ab.cells (v:=.string (bs X)) kz ?_
 refine ⟨_,_,_,_,rfl,Str.of ab 0 rfl,(ax.move (Step.refl _ Nil) nilM qca),ab.step,rfl⟩
theorem qeP (X : Bs) (rest : Bs)  {br : Nat} {A : Option Addr} {m c : Nat} {w : World} {F : Nat → Nat → Prop} (hst : Str w br [.slice A m c,.bool false]) (hr : RdS w F A m c ((be 2 (-1)) ++ rest)) (hFd : ∀ b o,F b o → ¬ RdM br b o) :
  Calls Tryz.prog 194 #[.pointer (some ⟨br,0,none⟩)] w (RdPost w br (Fp F w) rest fun v w'=>∃ A2,v = .pointer A2 ∧ (∀ ad,A2 = some ad → ∃ b o,ad = ⟨b,o,none⟩ ∧ AtF w' (Fp F w) b o [.string (bs X)]) ∧ A2.isNone = true):=by
 refine enter (n:=14) Tryz.func194 rfl Tryz.ntmps194 kz fun a hE=>?_
 have hW : WOk w (RdM br) w [⟨br,0,[.slice A m c,.bool false],true⟩] []:=WOk.startStr hst
 have hE1:=(hE.grow ⟨br,0,[.slice A m c,.bool false],true⟩).recast 0 (.v (.pointer (some ⟨br,0,none⟩))) (.p 0 0) rfl rfl (Nat.le_of_ble_eq_true (n:=1) rfl)
 refine qaq [(0,.p 0 0)] hW hE1 fun a1 hE2=>?_
 refine qae [0,1,2] kz ?_
 refine qal [0] [1,2] [(0,.p 0 0),(5,.p 0 0)] hW hE2 fun a3 hE4=>?_
 refine qan (qam hE4 (f:=197) (vs:=[.pointer (some ⟨br,0,none⟩)]) (d:=6) kz Tryz.call197 (qhI (-1) (rest) (Str.of hW 0 rfl) (hr.move hW.step (fun b_ o_ h_ _=>hFd b_ o_ h_) (hW.immM hFd)) (qc4 0 rfl)) ?_)
 rintro e_ w5 ⟨_,A6,n7,c8,rfl,hs9,ae,ab,rfl⟩
 obtain ⟨aa,af,al⟩:=hW.wrote 0 [⟨br,0,[.slice A6 n7 c8,.bool false],true⟩] rfl ab hs9
 have ag:=ae.move (Step.refl _ Nil) nilM (fun b_ o_ h_ _=>af.to b_ o_ h_)
 refine ⟨_,rfl,fun am ah=>?_⟩
 have ai : EnvOk 14 [⟨br,0,[.slice A6 n7 c8,.bool false],true⟩] [(6,.v (.int .i16 (IntKind.i16.wrap (-1)))),(0,.p 0 0),(5,.p 0 0)] _:=ah.places (⟨rfl,rfl,trivial⟩)
 refine qal [2] [] [(0,.p 0 0),(3,.v (.int .i16 (IntKind.i16.wrap (-1))))] aa ai fun ao aj=>?_
 refine qaf (qab ?_)
 refine wp_seq ?_
 refine qaq [(0,.p 0 0),(3,.v (.int .i16 (IntKind.i16.wrap (-1)))),(8,.v (.bool (decide ((IntKind.i16.wrap (-1)) < 0))))] aa aj fun ap ac=>?_
 refine qa8 ac (b:=decide ((IntKind.i16.wrap (-1)) < 0)) kz (decide_eq_true (by simp only [i16w,i32w,i64w]; omega)) ?_
 refine qaq [(2,.v (.pointer none))] aa ac fun ar ak=>?_
 refine wp_ret ?_
 refine qap ?_
 refine qaK ak aa.cells (v:=.pointer none) kz ?_
 refine ⟨_,_,_,_,rfl,Str.of aa 0 rfl,(ag.move (Step.refl _ Nil) nilM qca),aa.step,_,rfl,(fun ad h_=>by cases h_),rfl⟩
theorem qeQ (X : Bs) (hX : X.length ≤ 32767) (rest : Bs)  {br : Nat} {A : Option Addr} {m c : Nat} {w : World} {F : Nat → Nat → Prop} (hst : Str w br [.slice A m c,.bool false]) (hr : RdS w F A m c ((be 2 ((X.length : Nat) : Int)) ++ (X ++ rest))) (hFd : ∀ b o,F b o → ¬ RdM br b o) :
  Calls Tryz.prog 194 #[.pointer (some ⟨br,0,none⟩)] w (RdPost w br (Fp F w) rest fun v w'=>∃ A2,v = .pointer A2 ∧ (∀ ad,A2 = some ad → ∃ b o,ad = ⟨b,o,none⟩ ∧ AtF w' (Fp F w) b o [.string (bs X)]) ∧ A2.isNone = false):=by
 refine enter (n:=14) Tryz.func194 rfl Tryz.ntmps194 kz fun a hE=>?_
 have hW : WOk w (RdM br) w [⟨br,0,[.slice A m c,.bool false],true⟩] []:=WOk.startStr hst
 have hE1:=(hE.grow ⟨br,0,[.slice A m c,.bool false],true⟩).recast 0 (.v (.pointer (some ⟨br,0,none⟩))) (.p 0 0) rfl rfl (Nat.le_of_ble_eq_true (n:=1) rfl)
 refine qaq [(0,.p 0 0)] hW hE1 fun a1 hE2=>?_
 refine qae [0,1,2] kz ?_
 refine qal [0] [1,2] [(0,.p 0 0),(5,.p 0 0)] hW hE2 fun a3 hE4=>?_
 refine qan (qam hE4 (f:=197) (vs:=[.pointer (some ⟨br,0,none⟩)]) (d:=6) kz Tryz.call197 (qhI ((X.length : Nat) : Int) (X ++ rest) (Str.of hW 0 rfl) (hr.move hW.step (fun b_ o_ h_ _=>hFd b_ o_ h_) (hW.immM hFd)) (qc4 0 rfl)) ?_)
 rintro e_ w5 ⟨_,A6,n7,c8,rfl,hs9,aj,ac,rfl⟩
 obtain ⟨aa,ak,aN⟩:=hW.wrote 0 [⟨br,0,[.slice A6 n7 c8,.bool false],true⟩] rfl ac hs9
 have al:=aj.move (Step.refl _ Nil) nilM (fun b_ o_ h_ _=>ak.to b_ o_ h_)
 refine ⟨_,rfl,fun aT am=>?_⟩
 have ao : EnvOk 14 [⟨br,0,[.slice A6 n7 c8,.bool false],true⟩] [(6,.v (.int .i16 (IntKind.i16.wrap ((X.length : Nat) : Int)))),(0,.p 0 0),(5,.p 0 0)] _:=am.places (⟨rfl,rfl,trivial⟩)
 refine qal [2] [] [(0,.p 0 0),(3,.v (.int .i16 (IntKind.i16.wrap ((X.length : Nat) : Int))))] aa ao fun aU ap=>?_
 refine qaf (qab ?_)
 refine wp_seq ?_
 refine qaq [(0,.p 0 0),(3,.v (.int .i16 (IntKind.i16.wrap ((X.length : Nat) : Int)))),(8,.v (.bool (decide ((IntKind.i16.wrap ((X.length : Nat) : Int)) < 0))))] aa ap fun aV ae=>?_
 refine qar ae (b:=decide ((IntKind.i16.wrap ((X.length : Nat) : Int)) < 0)) kz (decide_eq_false (by simp only [i16w,i32w,i64w]; omega)) ?_
 refine wp_skip ?_
 refine qab ?_
 refine qae [0,1,2,3,4,5,6] kz ?_
 refine qal [0,1,2] [3,4,5,6] [(9,.p 0 0),(11,.v (.int .i64 (IntKind.i64.wrap (IntKind.i16.wrap ((X.length : Nat) : Int)))))] aa ae fun aW ar=>?_
 have au : IntKind.i64.wrap (IntKind.i16.wrap ((X.length : Nat) : Int)) = ((X.length : Nat) : Int):=by simp only [i16w,i32w,i64w]; omega
 have av:=EnvOk.pick ar (ks:=[9,11]) (env':=[(9,.p 0 0),(11,.v (.int .i64 (IntKind.i64.wrap (IntKind.i16.wrap ((X.length : Nat) : Int)))))]) kz
 have aw:=av.cast (env':=[(9,.p 0 0),(11,.v (.int .i64 ((X.length : Nat) : Int)))]) (by rw [au])
 refine qan (qam aw (f:=224) (vs:=[.pointer (some ⟨br,0,none⟩),.int .i64 ((X.length : Nat) : Int)]) (d:=12) kz Tryz.call224 (qii X (rest) (Str.of aa 0 rfl) al (qc4 0 rfl)) ?_)
 rintro e_ aX ⟨_,aK,aL,aM,rfl,ax,ay,af,⟨aO,rfl,az⟩⟩
 obtain ⟨aA,ag,aP⟩:=aa.wrote 0 [⟨br,0,[.slice aK aL aM,.bool false],true⟩] rfl af ax
 have aB:=ay.move (Step.refl _ Nil) nilM (fun b_ o_ h_ _=>ag.to b_ o_ h_)
 refine ⟨_,rfl,fun aY aC=>?_⟩
 have aD : EnvOk 14 [⟨br,0,[.slice aK aL aM,.bool false],true⟩] [(12,.v (.slice aO X.length X.length)),(9,.p 0 0),(11,.v (.int .i64 ((X.length : Nat) : Int)))] _:=aC.places (⟨rfl,rfl,trivial⟩)
 have aE:=az.move (Step.refl _ Nil) nilM (fun b_ o_ h_ _=>ag.to b_ o_ h_)
 refine qan (qes aD (src:=22) (dst:=9) (e:=5) (d:=13) kz kz kz kz aE fun aZ aF=>?_)
 refine qan (qaO aA aF (d:=4) (cs:=[.string ByteArray.empty]) kz fun aQ ba bd aR aS ah aG aH=>?_)
 refine qan (qav aG aH (oi:=1) (cs:=[.string (bs X)]) kz fun bf ai ab aI=>?_)
 refine qaf (qab ?_)
 refine qaq [(2,.p 1 0)] ab aI fun bg aJ=>?_
 refine wp_ret ?_
 refine qaK aJ ab.cells (v:=.pointer (some ⟨aQ,0,none⟩)) kz ?_
 refine ⟨_,_,_,_,rfl,Str.of ab 0 rfl,((aB.move (ah.trans ai).step immM (ah.trans ai).to').move (Step.refl _ Nil) nilM qca),ab.step,_,rfl,(fun ad h_=>by
  obtain rfl:=Option.some.inj h_
  exact ⟨_,0,rfl,fun j v_ hj=>⟨.inr ‹_›,ab.cells 1 _ rfl j v_ hj⟩⟩),rfl⟩
theorem qfm (nul : Bool) (X : Bs) (hX : X.length ≤ 32767) (rest : Bs) {br : Nat} {A : Option Addr} {m c : Nat} {w : World} {F : Nat → Nat → Prop} (hst : Str w br [.slice A m c,.bool false]) (hr : RdS w F A m c ((if nul = true then be 2 (-1) else be 2 ((X.length : Nat) : Int) ++ X) ++ rest)) (hFd : ∀ b o,F b o → ¬ RdM br b o) :
  Calls Tryz.prog 194 #[.pointer (some ⟨br,0,none⟩)] w (RdPost w br (Fp F w) rest fun v w'=>∃ A2,v = .pointer A2 ∧ (∀ ad,A2 = some ad → ∃ b o,ad = ⟨b,o,none⟩ ∧ AtF w' (Fp F w) b o [.string (bs X)]) ∧ A2.isNone = nul):=by
 cases nul
 ·exact qeQ X hX rest hst (hr.cast (by simp only [Bool.false_eq_true,if_false,List.append_assoc])) hFd
 exact qeP X rest hst (hr.cast (by simp only [if_true])) hFd
theorem qdm (X : Bs) (rest : Bs)  {br : Nat} {A : Option Addr} {m c : Nat} {w : World} {F : Nat → Nat → Prop} (hst : Str w br [.slice A m c,.bool false]) (hr : RdS w F A m c ((uv 0) ++ rest)) (hFd : ∀ b o,F b o → ¬ RdM br b o) :
  Calls Tryz.prog 192 #[.pointer (some ⟨br,0,none⟩)] w (RdPost w br (Fp F w) rest fun v w'=>∃ A2,v = .pointer A2 ∧ (∀ ad,A2 = some ad → ∃ b o,ad = ⟨b,o,none⟩ ∧ AtF w' (Fp F w) b o [.string (bs X)]) ∧ A2.isNone = true):=by
 refine enter (n:=15) Tryz.func192 rfl Tryz.ntmps192 kz fun a hE=>?_
 have hW : WOk w (RdM br) w [⟨br,0,[.slice A m c,.bool false],true⟩] []:=WOk.startStr hst
 have hE1:=(hE.grow ⟨br,0,[.slice A m c,.bool false],true⟩).recast 0 (.v (.pointer (some ⟨br,0,none⟩))) (.p 0 0) rfl rfl (Nat.le_of_ble_eq_true (n:=1) rfl)
 refine qaq [(0,.p 0 0)] hW hE1 fun a1 hE2=>?_
 refine qae [0,1,2,3,4] kz ?_
 refine qal [0] [1,2,3,4] [(0,.p 0 0),(5,.p 0 0)] hW hE2 fun a3 hE4=>?_
 refine qan (qam hE4 (f:=222) (vs:=[.pointer (some ⟨br,0,none⟩)]) (d:=6) kz Tryz.call222 (qdl 0 (by omega) (rest) (Str.of hW 0 rfl) (hr.move hW.step (fun b_ o_ h_ _=>hFd b_ o_ h_) (hW.immM hFd)) (qc4 0 rfl)) ?_)
 rintro e_ w5 ⟨_,A6,n7,c8,rfl,hs9,ae,ab,rfl⟩
 obtain ⟨aa,af,al⟩:=hW.wrote 0 [⟨br,0,[.slice A6 n7 c8,.bool false],true⟩] rfl ab hs9
 have ag:=ae.move (Step.refl _ Nil) nilM (fun b_ o_ h_ _=>af.to b_ o_ h_)
 refine ⟨_,rfl,fun am ah=>?_⟩
 have ai : EnvOk 15 [⟨br,0,[.slice A6 n7 c8,.bool false],true⟩] [(6,.v (.int .u32 ((0 : Nat) : Int))),(0,.p 0 0),(5,.p 0 0)] _:=ah.places (⟨rfl,rfl,trivial⟩)
 refine qal [2,3,4] [] [(0,.p 0 0),(3,.v (.int .i64 (IntKind.i64.wrap ((IntKind.i64.wrap ((0 : Nat) : Int)) - 1))))] aa ai fun ao aj=>?_
 refine qaf (qab ?_)
 refine wp_seq ?_
 refine qaq [(0,.p 0 0),(3,.v (.int .i64 (IntKind.i64.wrap ((IntKind.i64.wrap ((0 : Nat) : Int)) - 1)))),(10,.v (.bool (decide ((IntKind.i64.wrap ((IntKind.i64.wrap ((0 : Nat) : Int)) - 1)) < 0))))] aa aj fun ap ac=>?_
 refine qa8 ac (b:=decide ((IntKind.i64.wrap ((IntKind.i64.wrap ((0 : Nat) : Int)) - 1)) < 0)) kz (decide_eq_true (by simp only [i16w,i32w,i64w]; omega)) ?_
 refine qaq [(2,.v (.pointer none))] aa ac fun ar ak=>?_
 refine wp_ret ?_
 refine qap ?_
 refine qaK ak aa.cells (v:=.pointer none) kz ?_
 refine ⟨_,_,_,_,rfl,Str.of aa 0 rfl,(ag.move (Step.refl _ Nil) nilM qca),aa.step,_,rfl,(fun ad h_=>by cases h_),rfl⟩
theorem qdn (X : Bs) (hX : X.length ≤ 1000000) (rest : Bs)  {br : Nat} {A : Option Addr} {m c : Nat} {w : World} {F : Nat → Nat → Prop} (hst : Str w br [.slice A m c,.bool false]) (hr : RdS w F A m c ((uv (X.length + 1)) ++ (X ++ rest))) (hFd : ∀ b o,F b o → ¬ RdM br b o) :
  Calls Tryz.prog 192 #[.pointer (some ⟨br,0,none⟩)] w (RdPost w br (Fp F w) rest fun v w'=>∃ A2,v = .pointer A2 ∧ (∀ ad,A2 = some ad → ∃ b o,ad = ⟨b,o,none⟩ ∧ AtF w' (Fp F w) b o [.string (bs X)]) ∧ A2.isNone = false):=by
 refine enter (n:=15) Tryz.func192 rfl Tryz.ntmps192 kz fun a hE=>?_
 have hW : WOk w (RdM br) w [⟨br,0,[.slice A m c,.bool false],true⟩] []:=WOk.startStr hst
 have hE1:=(hE.grow ⟨br,0,[.slice A m c,.bool false],true⟩).recast 0 (.v (.pointer (some ⟨br,0,none⟩))) (.p 0 0) rfl rfl (Nat.le_of_ble_eq_true (n:=1) rfl)
 refine qaq [(0,.p 0 0)] hW hE1 fun a1 hE2=>?_
 refine qae [0,1,2,3,4] kz ?_
 refine qal [0] [1,2,3,4] [(0,.p 0 0),(5,.p 0 0)] hW hE2 fun a3 hE4=>?_
 refine qan (qam hE4 (f:=222) (vs:=[.pointer (some ⟨br,0,none⟩)]) (d:=6) kz Tryz.call222 (qdl (X.length + 1) (by omega) (X ++ rest) (Str.of hW 0 rfl) (hr.move hW.step (fun b_ o_ h_ _=>hFd b_ o_ h_) (hW.immM hFd)) (qc4 0 rfl)) ?_)
 rintro e_ w5 ⟨_,A6,n7,c8,rfl,hs9,aj,ac,rfl⟩
 obtain ⟨aa,ak,aN⟩:=hW.wrote 0 [⟨br,0,[.slice A6 n7 c8,.bool false],true⟩] rfl ac hs9
 have al:=aj.move (Step.refl _ Nil) nilM (fun b_ o_ h_ _=>ak.to b_ o_ h_)
 refine ⟨_,rfl,fun aT am=>?_⟩
 have ao : EnvOk 15 [⟨br,0,[.slice A6 n7 c8,.bool false],true⟩] [(6,.v (.int .u32 ((X.length + 1 : Nat) : Int))),(0,.p 0 0),(5,.p 0 0)] _:=am.places (⟨rfl,rfl,trivial⟩)
 refine qal [2,3,4] [] [(0,.p 0 0),(3,.v (.int .i64 (IntKind.i64.wrap ((IntKind.i64.wrap ((X.length + 1 : Nat) : Int)) - 1))))] aa ao fun aU ap=>?_
 refine qaf (qab ?_)
 refine wp_seq ?_
 refine qaq [(0,.p 0 0),(3,.v (.int .i64 (IntKind.i64.wrap ((IntKind.i64.wrap ((X.length + 1 : Nat) : Int)) - 1)))),(10,.v (.bool (decide ((IntKind.i64.wrap ((IntKind.i64.wrap ((X.length + 1 : Nat) : Int)) - 1)) < 0))))] aa ap fun aV ae=>?_
 refine qar ae (b:=decide ((IntKind.i64.wrap ((IntKind.i64.wrap ((X.length + 1 : Nat) : Int)) - 1)) < 0)) kz (decide_eq_false (by simp only [i16w,i32w,i64w]; omega)) ?_
 refine wp_skip ?_
 refine qab ?_
 refine qae [0,1,2,3,4,5] kz ?_
 refine qal [0,1] [2,3,4,5] [(11,.p 0 0),(12,.v (.int .i64 (IntKind.i64.wrap ((IntKind.i64.wrap ((X.length + 1 : Nat) : Int)) - 1))))] aa ae fun aW ar=>?_
 have au : IntKind.i64.wrap ((IntKind.i64.wrap ((X.length + 1 : Nat) : Int)) - 1) = ((X.length : Nat) : Int):=by simp only [i16w,i32w,i64w]; omega
 have av:=EnvOk.pick ar (ks:=[11,12]) (env':=[(11,.p 0 0),(12,.v (.int .i64 (IntKind.i64.wrap ((IntKind.i64.wrap ((X.length + 1 : Nat) : Int)) - 1))))]) kz
 have aw:=av.cast (env':=[(11,.p 0 0),(12,.v (.int .i64 ((X.length : Nat) : Int)))]) (by rw [au])
 refine qan (qam aw (f:=224) (vs:=[.pointer (some ⟨br,0,none⟩),.int .i64 ((X.length : Nat) : Int)]) (d:=13) kz Tryz.call224 (qii X (rest) (Str.of aa 0 rfl) al (qc4 0 rfl)) ?_)
 rintro e_ aX ⟨_,aK,aL,aM,rfl,ax,ay,af,⟨aO,rfl,az⟩⟩
 obtain ⟨aA,ag,aP⟩:=aa.wrote 0 [⟨br,0,[.slice aK aL aM,.bool false],true⟩] rfl af ax
 have aB:=ay.move (Step.refl _ Nil) nilM (fun b_ o_ h_ _=>ag.to b_ o_ h_)
 refine ⟨_,rfl,fun aY aC=>?_⟩
 have aD : EnvOk 15 [⟨br,0,[.slice aK aL aM,.bool false],true⟩] [(13,.v (.slice aO X.length X.length)),(11,.p 0 0),(12,.v (.int .i64 ((X.length : Nat) : Int)))] _:=aC.places (⟨rfl,rfl,trivial⟩)
 have aE:=az.move (Step.refl _ Nil) nilM (fun b_ o_ h_ _=>ag.to b_ o_ h_)
 refine qan (qes aD (src:=22) (dst:=9) (e:=5) (d:=14) kz kz kz kz aE fun aZ aF=>?_)
 refine qan (qaO aA aF (d:=4) (cs:=[.string ByteArray.empty]) kz fun aQ ba bd aR aS ah aG aH=>?_)
 refine qan (qav aG aH (oi:=1) (cs:=[.string (bs X)]) kz fun bf ai ab aI=>?_)
 refine qaf (qab ?_)
 refine qaq [(2,.p 1 0)] ab aI fun bg aJ=>?_
 refine wp_ret ?_
 refine qaK aJ ab.cells (v:=.pointer (some ⟨aQ,0,none⟩)) kz ?_
 refine ⟨_,_,_,_,rfl,Str.of ab 0 rfl,((aB.move (ah.trans ai).step immM (ah.trans ai).to').move (Step.refl _ Nil) nilM qca),ab.step,_,rfl,(fun ad h_=>by
  obtain rfl:=Option.some.inj h_
  exact ⟨_,0,rfl,fun j v_ hj=>⟨.inr ‹_›,ab.cells 1 _ rfl j v_ hj⟩⟩),rfl⟩
theorem qds (nul : Bool) (X : Bs) (hX : X.length ≤ 1000000) (rest : Bs) {br : Nat} {A : Option Addr} {m c : Nat} {w : World} {F : Nat → Nat → Prop} (hst : Str w br [.slice A m c,.bool false]) (hr : RdS w F A m c ((if nul = true then uv 0 else uv (X.length + 1) ++ X) ++ rest)) (hFd : ∀ b o,F b o → ¬ RdM br b o) :
  Calls Tryz.prog 192 #[.pointer (some ⟨br,0,none⟩)] w (RdPost w br (Fp F w) rest fun v w'=>∃ A2,v = .pointer A2 ∧ (∀ ad,A2 = some ad → ∃ b o,ad = ⟨b,o,none⟩ ∧ AtF w' (Fp F w) b o [.string (bs X)]) ∧ A2.isNone = nul):=by
 cases nul
 ·exact qdn X hX rest hst (hr.cast (by simp only [Bool.false_eq_true,if_false,List.append_assoc])) hFd
 exact qdm X rest hst (hr.cast (by simp only [if_true])) hFd
theorem qju (x : Int) (hx : -1 ≤ x ∧ x ≤ 32767) (rest : Bs) (hl : x ≤ ((rest.length : Nat) : Int)) {br : Nat} {A : Option Addr} {m c : Nat} {w : World} {F : Nat → Nat → Prop} (hst : Str w br [.slice A m c,.bool false]) (hr : RdS w F A m c ((be 4 x) ++ rest)) (hFd : ∀ b o,F b o → ¬ RdM br b o) :
  Calls Tryz.prog 174 #[.pointer (some ⟨br,0,none⟩)] w (RdPost w br (Fp F w) rest fun v w'=>v = .int .i32 x):=by
 refine enter (n:=21) Tryz.func174 rfl Tryz.ntmps174 kz fun a hE=>?_
 have hW : WOk w (RdM br) w [⟨br,0,[.slice A m c,.bool false],true⟩] []:=WOk.startStr hst
 have hE1:=(hE.grow ⟨br,0,[.slice A m c,.bool false],true⟩).recast 0 (.v (.pointer (some ⟨br,0,none⟩))) (.p 0 0) rfl rfl (Nat.le_of_ble_eq_true (n:=1) rfl)
 refine qaq [(0,.p 0 0)] hW hE1 fun a1 hE2=>?_
 refine qae [0,1,2] kz ?_
 refine qal [0] [1,2] [(0,.p 0 0),(4,.p 0 0)] hW hE2 fun a3 hE4=>?_
 refine qan (qam hE4 (f:=195) (vs:=[.pointer (some ⟨br,0,none⟩)]) (d:=5) kz Tryz.call195 (qkw x (rest) (Str.of hW 0 rfl) (hr.move hW.step (fun b_ o_ h_ _=>hFd b_ o_ h_) (hW.immM hFd)) (qc4 0 rfl)) ?_)
 rintro e_ w5 ⟨_,A6,n7,c8,rfl,hs9,af,ab,rfl⟩
 obtain ⟨aa,ag,al⟩:=hW.wrote 0 [⟨br,0,[.slice A6 n7 c8,.bool false],true⟩] rfl ab hs9
 have ac:=af.move (Step.refl _ Nil) nilM (fun b_ o_ h_ _=>ag.to b_ o_ h_)
 refine ⟨_,rfl,fun am ah=>?_⟩
 have ai : EnvOk 21 [⟨br,0,[.slice A6 n7 c8,.bool false],true⟩] [(5,.v (.int .i32 (IntKind.i32.wrap x))),(0,.p 0 0),(4,.p 0 0)] _:=ah.places (⟨rfl,rfl,trivial⟩)
 refine qal [2] [] [(0,.p 0 0),(3,.v (.int .i32 (IntKind.i32.wrap x)))] aa ai fun ao aj=>?_
 refine qaf (qab ?_)
 refine wp_seq ?_
 refine qaq [(0,.p 0 0),(3,.v (.int .i32 (IntKind.i32.wrap x))),(13,.v (.bool (decide (((n7 : Nat) : Int) < (IntKind.i64.wrap (IntKind.i32.wrap x))))))] aa aj fun ap ae=>?_
 refine qar ae (b:=decide (((n7 : Nat) : Int) < (IntKind.i64.wrap (IntKind.i32.wrap x)))) kz (decide_eq_false (by have h_:=ac.len; simp only [i32w,i64w]; omega)) ?_
 refine wp_skip ?_
 refine qab ?_
 refine qaq [(2,.v (.int .i32 (IntKind.i32.wrap x)))] aa ae fun ar ak=>?_
 refine wp_ret ?_
 refine qaK ak aa.cells (v:=.int .i32 (IntKind.i32.wrap x)) kz ?_
 refine ⟨_,_,_,_,rfl,Str.of aa 0 rfl,(ac.move (Step.refl _ Nil) nilM qca),aa.step,congrArg (Value.int .i32) (by simp only [i32w]; omega)⟩
theorem qeR (n : Nat) (hn : n ≤ 32768) (rest : Bs) (hl : n ≤ rest.length + 1) {br : Nat} {A : Option Addr} {m c : Nat} {w : World} {F : Nat → Nat → Prop} (hst : Str w br [.slice A m c,.bool false]) (hr : RdS w F A m c ((uv n) ++ rest)) (hFd : ∀ b o,F b o → ¬ RdM br b o) :
  Calls Tryz.prog 173 #[.pointer (some ⟨br,0,none⟩)] w (RdPost w br (Fp F w) rest fun v w'=>v = .int .i32 (((n : Nat) : Int) - 1)):=by
 refine enter (n:=23) Tryz.func173 rfl Tryz.ntmps173 kz fun a hE=>?_
 have hW : WOk w (RdM br) w [⟨br,0,[.slice A m c,.bool false],true⟩] []:=WOk.startStr hst
 have hE1:=(hE.grow ⟨br,0,[.slice A m c,.bool false],true⟩).recast 0 (.v (.pointer (some ⟨br,0,none⟩))) (.p 0 0) rfl rfl (Nat.le_of_ble_eq_true (n:=1) rfl)
 refine qaq [(0,.p 0 0)] hW hE1 fun a1 hE2=>?_
 refine qae [0,1,2,3,4] kz ?_
 refine qal [0] [1,2,3,4] [(0,.p 0 0),(4,.p 0 0)] hW hE2 fun a3 hE4=>?_
 refine qan (qam hE4 (f:=222) (vs:=[.pointer (some ⟨br,0,none⟩)]) (d:=5) kz Tryz.call222 (qdl n (by omega) (rest) (Str.of hW 0 rfl) (hr.move hW.step (fun b_ o_ h_ _=>hFd b_ o_ h_) (hW.immM hFd)) (qc4 0 rfl)) ?_)
 rintro e_ w5 ⟨_,A6,n7,c8,rfl,hs9,af,ab,rfl⟩
 obtain ⟨aa,ag,al⟩:=hW.wrote 0 [⟨br,0,[.slice A6 n7 c8,.bool false],true⟩] rfl ab hs9
 have ac:=af.move (Step.refl _ Nil) nilM (fun b_ o_ h_ _=>ag.to b_ o_ h_)
 refine ⟨_,rfl,fun am ah=>?_⟩
 have ai : EnvOk 23 [⟨br,0,[.slice A6 n7 c8,.bool false],true⟩] [(5,.v (.int .u32 ((n : Nat) : Int))),(0,.p 0 0),(4,.p 0 0)] _:=ah.places (⟨rfl,rfl,trivial⟩)
 refine qal [2,3,4] [] [(0,.p 0 0),(3,.v (.int .i32 (IntKind.i32.wrap ((IntKind.i32.wrap ((n : Nat) : Int)) - 1))))] aa ai fun ao aj=>?_
 refine qaf (qab ?_)
 refine wp_seq ?_
 refine qaq [(0,.p 0 0),(3,.v (.int .i32 (IntKind.i32.wrap ((IntKind.i32.wrap ((n : Nat) : Int)) - 1)))),(15,.v (.bool (decide (((n7 : Nat) : Int) < (IntKind.i64.wrap (IntKind.i32.wrap ((IntKind.i32.wrap ((n : Nat) : Int)) - 1)))))))] aa aj fun ap ae=>?_
 refine qar ae (b:=decide (((n7 : Nat) : Int) < (IntKind.i64.wrap (IntKind.i32.wrap ((IntKind.i32.wrap ((n : Nat) : Int)) - 1))))) kz (decide_eq_false (by have h_:=ac.len; simp only [i32w,i64w]; omega)) ?_
 refine wp_skip ?_
 refine qab ?_
 refine qaq [(2,.v (.int .i32 (IntKind.i32.wrap ((IntKind.i32.wrap ((n : Nat) : Int)) - 1))))] aa ae fun ar ak=>?_
 refine wp_ret ?_
 refine qaK ak aa.cells (v:=.int .i32 (IntKind.i32.wrap ((IntKind.i32.wrap ((n : Nat) : Int)) - 1))) kz ?_
 refine ⟨_,_,_,_,rfl,Str.of aa 0 rfl,(ac.move (Step.refl _ Nil) nilM qca),aa.step,congrArg (Value.int .i32) (by simp only [i32w]; omega)⟩
theorem rOk  (rest : Bs)  {br : Nat} {A : Option Addr} {m c : Nat} {w : World} {F : Nat → Nat → Prop} (hst : Str w br [.slice A m c,.bool false]) (hr : RdS w F A m c (rest)) (hFd : ∀ b o,F b o → ¬ RdM br b o) :
  Calls Tryz.prog 175 #[.pointer (some ⟨br,0,none⟩)] w (RdPost w br (Fp F w) rest fun v w'=>v = .bool true):=by
 refine enter (n:=8) Tryz.func175 rfl Tryz.ntmps175 kz fun a hE=>?_
 have hW : WOk w (RdM br) w [⟨br,0,[.slice A m c,.bool false],true⟩] []:=WOk.startStr hst
 have hE1:=(hE.grow ⟨br,0,[.slice A m c,.bool false],true⟩).recast 0 (.v (.pointer (some ⟨br,0,none⟩))) (.p 0 0) rfl rfl (Nat.le_of_ble_eq_true (n:=1) rfl)
 refine qaq [(0,.p 0 0)] hW hE1 fun a1 hE2=>?_
 refine qaq [(2,.v (.bool true))] hW hE2 fun a3 hE4=>?_
 refine wp_ret ?_
 refine qaK hE4 hW.cells (v:=.bool true) kz ?_
 refine ⟨_,_,_,_,rfl,Str.of hW 0 rfl,((hr.move hW.step (fun b_ o_ h_ _=>hFd b_ o_ h_) (hW.immM hFd)).move (Step.refl _ Nil) nilM qca),hW.step,rfl⟩
theorem qe1 {P : Program} {c : Code} {Mid : Act → World → Prop} {Q : Exit → Act → World → Prop} {a : Act} {w : World} (h1 : c.wp P (Exit.then Mid Q) a w) (h2 : ∀ a' w',Mid a' w' → Q .normal a' w') : c.wp P Q a w :=
 wp_mono h1 fun e a' w' h=>by
  cases e <;> first | exact h2 a' w' h | exact h
theorem qhJ {k : Nat} (h : k < 32768) : IntKind.i32.wrap (((k : Nat) : Int) + 1) = ((k + 1 : Nat) : Int):=by rw [i32w]; omega
theorem qjv {g : Tree → Bs} : ∀ {L : List Tree},(∀ t,0 < (g t).length) → L.length ≤ (L.flatMap g).length
 | [],_=>Nat.zero_le _
 | t :: r,h=>by
  have h1:=h t
  have h2:=qjv (L:=r) h
  rw [List.flatMap_cons,List.length_append,List.length_cons]; omega
theorem flat_ge' {g : Tree → Bs} {L : List Tree} (h : ∀ t,0 < (g t).length) (rest : Bs) : L.length ≤ (L.flatMap g ++ rest).length:=by
 have:=qjv (L:=L) h
 rw [List.length_append]; omega
theorem qlw {x y : Bs} (h : 0 < x.length) : 0 < (x ++ y).length:=by rw [List.length_append]; omega
theorem qlx {m : Nat} {x : Int} (h : 0 < m) : 0 < (be m x).length:=by rw [be_length]; exact h
section
variable {Pr : Program} {ops : Array Oper} {Q : Exit → Act → World → Prop} {w0 : World} {M F : Nat → Nat → Prop} {n br : Nat} {tb : Tb} {env : Env} {P : qcu} {s : Bs} {a : Act} {w : World}
theorem qjw {id d : Nat} {t e : TypeId} {size bytes m cp : Nat} {A0 : Option Addr} (env1 env' : Env) (i : Nat) (h : RS w0 M F n br tb env P s a w) (K : ∀ a',RS w0 M F n br tb env' P s a' w → Q .normal a' w)
  (hr : List.range ops.size = List.range i ++ (i :: (List.range ops.size).drop (i + 1)):=by kernel_rfl) (e1 : ∀ A m c,qc6 Pr ops n (rdo br A m c :: tb) (List.range i) (qbV env1) env = some env1:=by intro _ _ _; kernel_rfl)
  (hc : ∀ A m_ c,cutE (rdo br A m_ c :: tb) env1 ops n i = some (t,.slice A0 m cp,none,some 0,d):=by intro _ _ _; kernel_rfl) (ht : qcK Pr t = some (e,size,bytes):=by kernel_rfl)
  (e2 : ∀ A m_ c,qc6 Pr ops n (rdo br A m_ c :: tb) ((List.range ops.size).drop (i + 1)) (qbV env') ((d,.v (.slice A0 0 cp)) :: env1) = some env':=by intro _ _ _; kernel_rfl) : (Code.region id ops false).wp Pr Q a w:=by
 refine qas _ hr (qdg (List.range i) _ env1 h (fun a1 h1=>?_) e1 rfl)
 obtain ⟨A,m1,c,hW,hrd,hE,hP⟩:=h1.open_
 refine qan (qdi hE (hc A m1 c) ht (j:=0) rfl (Nat.zero_le _) fun a2 hE2=>?_)
 exact qdg _ [] env' (RS.mk' hW hrd hE2 h1.mv hP) (fun a3 h3=>qaf (K a3 h3)) e2 (List.append_nil _).symm
theorem qkx {i d : Nat} {f : FuncId} {vs : List Value} {v0 : Value} {N : Act → World → Prop} (h : RS w0 M F n br tb env P s a w) (hc : ∀ w,Calls Pr f vs.toArray w (fun e w'=>e = .returned v0 ∧ w' = w))
  (hf : ∀ args w,(callFunc f args).run Pr w = .ok (.enter f args) w) (K : ∀ a',RS w0 M F n br tb ((d,.v v0) :: env) P s a' w → N a' w)
  (he : ∀ A m c,qeO (rdo br A m c :: tb) env ops n i = some (f,vs,d):=by intro _ _ _; kernel_rfl) : wpOp Pr ops Q i N a w:=by
 obtain ⟨A,m,c,hW,hr,hE,hP⟩:=h.open_
 refine qam hE (he A m c) hf (hc w) ?_
 rintro e_ _ ⟨rfl,rfl⟩
 exact ⟨_,rfl,fun a1 hE1=>K a1 (RS.mk' hW hr hE1 h.mv hP)⟩
theorem qly {id d : Nat} {f : FuncId} {v0 : Value} (env' : Env) (h : RS w0 M F n br tb env P s a w) (hc : qdq Pr f [] s v0)
  (hf : ∀ args w,(callFunc f args).run Pr w = .ok (.enter f args) w) (K : ∀ a' w',RS w0 M F n br tb env' P s a' w' → Q .normal a' w')
  (he : ∀ A m c,qeO (rdo br A m c :: tb) env ops n 0 = some (f,[.pointer (some ⟨br,0,none⟩)],d):=by intro _ _ _; kernel_rfl)
  (e : ∀ A m c,qc6 Pr ops n (rdo br A m c :: tb) ((List.range ops.size).drop 1) (qbV env') ((d,.v v0) :: env) = some env':=by intro _ _ _; kernel_rfl) (hs : Nat.blt 0 ops.size = true:=by kernel_rfl) : (Code.region id ops false).wp Pr Q a w :=
 qgQ (X:=[]) (rest:=s) env' h hc hf K he e hs
theorem qka {i d k l g size bytes : Nat} {t e : TypeId} {z : Value} {N : Act → World → Prop} (h : RS w0 M F n br (tb ++ [qbt g size z l k]) env P s a w) (hk : k < l) (hz : z.cells.size = size) (hl : qel (tb.length + 1) env = true)
  (K : ∀ a',RS w0 M F n br (tb ++ [qbt g size z l (k + 1),⟨g,k * size,z.cells.toList,true⟩]) ((d,.p (tb.length + 2) 0) :: env) P s a' w → N a' w)
  (he : ∀ A m c,idxE (rdo br A m c :: (tb ++ [qbt g size z l k])) env ops n i = some (t,some ⟨g,0,none⟩,l,((k : Nat) : Int),d):=by intro _ _ _; kernel_rfl) (ht : qcK Pr t = some (e,size,bytes):=by kernel_rfl) : wpOp Pr ops Q i N a w:=by
 obtain ⟨A,m,c,hW,hr,hE,hP⟩:=h.open_
 refine qaC hE (he A m c) ht rfl rfl hk fun a1 hE1=>K a1 ?_
 have h1 : RS w0 M F n br (tb ++ [qbt g size z l k]) ((d,.v (.pointer (some ⟨g,0 + k * size,none⟩))) :: env) P s a1 w:=RS.mk' hW hr hE1 h.mv hP
 have h2:=h1.next hk hz (by simpa only [qel] using hl)
 have h3:=h2.recast d (.v (.pointer (some ⟨g,0 + k * size,none⟩))) (.p (tb.length + 2) 0) (by simp [lk]) ?_ (by show tb.length + 2 < _; simp)
 ·refine ⟨h3.mv,h3.ex,?_,h3.fact⟩
  refine ⟨h3.env_.defers,h3.env_.size,fun q x hx=>h3.env_.at_ q x ?_⟩
  simp only [lk] at hx ⊢
  split at hx
  ·exact hx
  exact hx
 have : obAt (rdo br none 0 0 :: (tb ++ [qbt g size z l (k + 1),⟨g,k * size,z.cells.toList,true⟩])) (tb.length + 2) = ⟨g,k * size,z.cells.toList,true⟩:=by
  simp only [obAt,List.getD_eq_getElem?_getD]
  rw [show tb.length + 2 = (tb.length + 1) + 1 from rfl,List.getElem?_cons_succ,List.getElem?_append_right (by omega)]
  simp
 simp only [SV.val,this]
 simp
theorem qjx {id d k l g size bytes : Nat} {t e : TypeId} {z : Value} (env1 env' : Env) (i : Nat) (h : RS w0 M F n br (tb ++ [qbt g size z l k]) env P s a w) (hk : k < l) (hz : z.cells.size = size) (hl : qel (tb.length + 1) env1 = true)
  (K : ∀ a',RS w0 M F n br (tb ++ [qbt g size z l (k + 1),⟨g,k * size,z.cells.toList,true⟩]) env' P s a' w → Q .normal a' w)
  (hr : List.range ops.size = List.range i ++ (i :: (List.range ops.size).drop (i + 1)):=by kernel_rfl) (e1 : ∀ A m c,qc6 Pr ops n (rdo br A m c :: (tb ++ [qbt g size z l k])) (List.range i) (qbV env1) env = some env1:=by intro _ _ _; kernel_rfl)
  (he : ∀ A m c,idxE (rdo br A m c :: (tb ++ [qbt g size z l k])) env1 ops n i = some (t,some ⟨g,0,none⟩,l,((k : Nat) : Int),d):=by intro _ _ _; kernel_rfl) (ht : qcK Pr t = some (e,size,bytes):=by kernel_rfl)
  (e2 : ∀ A m c,qc6 Pr ops n (rdo br A m c :: (tb ++ [qbt g size z l (k + 1),⟨g,k * size,z.cells.toList,true⟩])) ((List.range ops.size).drop (i + 1)) (qbV env') ((d,.p (tb.length + 2) 0) :: env1) = some env':=by intro _ _ _; kernel_rfl) : (Code.region id ops false).wp Pr Q a w:=by
 refine qas _ hr (qdg (List.range i) _ env1 h (fun a1 h1=>qan (qka h1 hk hz hl (fun a2 h2=>?_) he ht)) e1 rfl)
 exact qdg _ [] env' h2 (fun a3 h3=>qaf (K a3 h3)) e2 (List.append_nil _).symm
end
theorem ql0 (X : Bs) (hX : X.length = 16) (rest : Bs) {br : Nat} {A : Option Addr} {m c : Nat} {w : World} {F : Nat → Nat → Prop} (hst : Str w br [.slice A m c,.bool false]) (hr : RdS w F A m c (X ++ rest)) (hFd : ∀ b o,F b o → ¬ RdM br b o) :
  Calls Tryz.prog 203 #[.pointer (some ⟨br,0,none⟩)] w (RdPost w br (Fp F w) rest fun v w'=>v = .agg ((List.range 16).map fun i=>qad (X.getD i 0)).toArray):=by
 have hbr : br < w.heap.size:=World.lt_of_cell (hst.at_ 0 _ rfl)
 refine enter (n:=9) (vs:=[.pointer (some ⟨br,0,none⟩)]) Tryz.func203 rfl Tryz.ntmps203 kz fun a hE=>?_
 refine qae [0] kz ?_
 refine qan (qfh hE (d:=2) (cs:=(List.range 16).map fun _=>qad 0) kz fun t0 a1 hE1=>qaf (qab ?_))
 have hs1:=Step.alloc w (.cells ((List.range 16).map fun _=>qad 0).toArray t0)
 have hz1:=qda w (.cells ((List.range 16).map fun _=>qad 0).toArray t0)
 have hh1:=qcL w (.cells ((List.range 16).map fun _=>qad 0).toArray t0)
 generalize w.alloc (.cells ((List.range 16).map fun _=>qad 0).toArray t0) = w1 at hs1 hz1 hh1
 refine qae [0] kz ?_
 refine qan (qfh hE1 (d:=3) (cs:=(List.range 16).map fun _=>qad 0) kz fun t1 a2 hE2=>qaf (qab ?_))
 have hs2:=Step.alloc w1 (.cells ((List.range 16).map fun _=>qad 0).toArray t1)
 have hz2:=qda w1 (.cells ((List.range 16).map fun _=>qad 0).toArray t1)
 have hh2:=qcL w1 (.cells ((List.range 16).map fun _=>qad 0).toArray t1)
 generalize hp2 : w.heap.size = p2 at hE1 hE2 hh1 hz1
 generalize hp3 : w1.heap.size = p3 at hE2 hh2 hz2
 generalize w1.alloc (.cells ((List.range 16).map fun _=>qad 0).toArray t1) = w2 at hs2 hz2 hh2
 refine qd4 (fun _=>True) 4 kz ?_
 have hsd:=Step.drew w2
 have hhd : w2.drew.heap[p3]? = some (.cells ((List.range 16).map fun _=>qad 0).toArray t1):=hh2
 have hS : Step w w2.drew Nil:=(hs1.trans hs2 fun _ _ _ h=>h).trans hsd fun _ _ _ h=>h
 have hh1d : w2.drew.heap[p2]? = some (.cells ((List.range 16).map fun _=>qad 0).toArray t0):=(hs2.trans hsd fun _ _ _ h=>h).heap (fun _ h=>h) hh1
 generalize w2.drew = wd at hsd hhd hS hh1d
 have hE3 : EnvOk 9 [⟨p3,0,[],true⟩] [(0,.v (.pointer (some ⟨br,0,none⟩))),(2,.v (.pointer (some ⟨p2,0,none⟩))),(3,.p 0 0)] _:=((hE2.grow ⟨p3,0,[],true⟩).recast 3 (.v (.pointer (some ⟨p3,0,none⟩))) (.p 0 0) rfl rfl (Nat.le_of_ble_eq_true (n:=1) rfl)).pk
 refine qaI [0,1] [(0,.v (.pointer (some ⟨br,0,none⟩))),(2,.v (.pointer (some ⟨p2,0,none⟩))),(3,.p 0 0),(4,.v (.slice (some ⟨p3,0,none⟩) 16 16)),(5,.v (.pointer (some ⟨br,0,none⟩)))] 2 (qaa qag) (fun w' _ i o hi j v hj=>by
  cases i with
  | zero =>
   simp only [List.getElem?_cons_zero,Option.some.injEq] at hi
   subst hi
   simp at hj
  | succ i=>simp at hi) trivial hE3 fun a3 hE4=>?_
 have hst':=hst.move hS (fun _ h=>h)
 have hr':=hr.move hS nilM (fun b o h hb=>(⟨h,hb⟩ : F b o ∧ b < w.heap.size))
 have hFd' : ∀ b o,(F b o ∧ b < w.heap.size) → ¬ RdM br b o:=fun b o h=>hFd b o h.1
 have hSp:=qii X rest hst' hr' hFd'
 rw [show ((X.length : Nat) : Int) = 16 by omega] at hSp
 refine qaw (i:=2) kz (qam hE4 (f:=224) (vs:=[.pointer (some ⟨br,0,none⟩),.int .i64 16]) (d:=6) kz Tryz.call224 hSp ?_)
 rintro e_ w3 ⟨_,A1,n1,c1,rfl,hs,hr1,hst3,Ax,rfl,hox⟩
 refine ⟨_,rfl,fun a4 hE5=>⟨fun _=>trivial,?_⟩⟩
 have hh3:=hst3.heap (fun o e=>by have:=e.1; have:=hS.size; omega) hhd
 have hh13:=hst3.heap (fun o e=>by have:=e.1; omega) hh1d
 refine qaw (i:=3) kz (qhc hE5 (t:=22) (u:=22) (e:=5) (bytes:=1) (b:=p3) (s:=X) (d:=7) kz kz hh3 rfl hox fun a5 w4 hst4 hat hfz hE6=>⟨fun _=>trivial,qaF kz (qab ?_) _⟩)
 obtain ⟨v,hE6⟩:=hE6
 have hh14:=hst4.heap (fun o e=>by have:=hz1; omega) hh13
 have hst04 : Step w w4 (RdM br):=((hS.mono fun _ _ _ f=>f.elim).trans hst3 fun _ _ _ e=>e).trans hst4 fun b o hb e=>by have:=hs1.size; omega
 have h2l : p2 < w4.heap.size:=(Array.getElem?_eq_some_iff.1 hh14).1
 have hW4 : WOk w (RdM br) w4 ([] ++ [⟨p2,0,(List.range 16).map fun _=>qad 0,true⟩] ++ [⟨p3,0,(List.range 16).map fun i=>qad (X.getD i 0),true⟩]) []:=by
  have hb : WOk w (RdM br) w4 [] []:=⟨hst04,fun i o hi=>by simp at hi,fun i o hi=>by simp at hi,fun i o hi=>by simp at hi,fun i j o o' _ hi=>by simp at hi,fun i r hi=>by simp at hi,fun i r hi=>by simp at hi,fun i r hi=>by simp at hi,fun i j r r' _ hi=>by simp at hi⟩
  have h4:=hb.add ⟨p2,0,(List.range 16).map fun _=>qad 0,true⟩ h2l (fun j v hj=>by
   dsimp only at hj ⊢
   rw [Nat.zero_add]
   simp only [World.cell?,hh14]
   simpa using hj) (fun _ j hj=>⟨.inl (by dsimp only; omega),by simp [World.frozen?,hh14]⟩) (fun i o hi=>by simp at hi) (fun i r hi=>by simp at hi)
  refine h4.add ⟨p3,0,(List.range 16).map fun i=>qad (X.getD i 0),true⟩ (World.lt_of_cell (hat 0 _ rfl)) (fun j v hj=>hat j v hj) (fun _ j hj=>⟨.inl (by dsimp only; have:=hs1.size; omega),hfz _⟩) (fun i o hi _=>.inl ?_) (fun i r hi=>by simp at hi)
  have hm:=List.mem_of_getElem? hi
  have : o = ⟨p2,0,(List.range 16).map fun _=>qad 0,true⟩:=by simpa using hm
  rw [this]
  dsimp only; omega
 have hE7 : EnvOk 9 [⟨p2,0,(List.range 16).map fun _=>qad 0,true⟩,⟨p3,0,(List.range 16).map fun i=>qad (X.getD i 0),true⟩] [(2,.p 0 0),(3,.p 1 0)] _ :=
  (((((hE6.pick (ks:=[2,3]) (env':=[(2,.v (.pointer (some ⟨p2,0,none⟩))),(3,.p 0 0)]) kz).recast 3 (.p 0 0) (.v (.pointer (some ⟨p3,0,none⟩))) rfl rfl trivial).pick (ks:=[2,3]) (env':=[(2,.v (.pointer (some ⟨p2,0,none⟩))),(3,.v (.pointer (some ⟨p3,0,none⟩)))]) kz).cutTb 0 kz).retable [⟨p2,0,(List.range 16).map fun _=>qad 0,true⟩,⟨p3,0,(List.range 16).map fun i=>qad (X.getD i 0),true⟩] |>.recast 2 (.v (.pointer (some ⟨p2,0,none⟩))) (.p 0 0) rfl rfl (Nat.le_of_ble_eq_true (n:=1) rfl) |>.recast 3 (.v (.pointer (some ⟨p3,0,none⟩))) (.p 1 0) rfl rfl (Nat.le_of_ble_eq_true (n:=2) rfl)).pk
 refine qae [0,1] kz ?_
 refine qal [0] [1] [(2,.p 0 0),(8,.v (.agg ((List.range 16).map fun i=>qad (X.getD i 0)).toArray))] hW4 hE7 fun a6 hE8=>?_
 refine qan (qav hW4 hE8 (oi:=0) (cs:=(List.range 16).map fun i=>qad (X.getD i 0)) kz fun w5 hF5 hW5 hE9=>qaf (qab (wp_ret ?_)))
 have hstz : Step w4 w5 (fun b o=>b = p2 ∨ b = p3):=hF5.step.mono fun b o _ ha=>by
  rcases ha with ⟨i,ob,hi,_,rfl,_⟩ | ⟨i,r,hi,_⟩
  ·have hm:=List.mem_of_getElem? hi
   simp only [List.nil_append,List.cons_append,List.mem_cons,List.not_mem_nil,or_false] at hm
   rcases hm with rfl | rfl
   ·exact .inl rfl
   exact .inr rfl
  simp at hi
 have hsz:=hs1.size
 refine qaK hE9 hW5.cells (v:=.agg ((List.range 16).map fun i=>qad (X.getD i 0)).toArray) kz ⟨_,A1,n1,c1,rfl,(hs.move hst4 fun o e=>?_).move hstz (fun o e=>?_),(hr1.move hst4 (fun b o hg _ e=>?_) (fun b o hg _=>hg)).move hstz (fun b o hg _ e=>?_) (fun b o hg _=>.inl hg.1),hW5.step,rfl⟩
 ·omega
 ·rcases e with e | e <;> omega
 ·have:=hg.2; omega
 have:=hg.2; rcases e with e | e <;> omega
theorem qlz (x : Int) (rest : Bs) : qdq Tryz.prog 197 (be 2 (IntKind.i16.wrap x)) rest (.int .i16 (IntKind.i16.wrap x)):=fun hs hr hF=>(qhI _ rest hs hr hF).mono fun e w' hp=>hp.fp fun v w' h=>by rw [h,ww16]
theorem qlA (x : Int) (rest : Bs) : qdq Tryz.prog 195 (be 4 (IntKind.i32.wrap x)) rest (.int .i32 (IntKind.i32.wrap x)):=fun hs hr hF=>(qkw _ rest hs hr hF).mono fun e w' hp=>hp.fp fun v w' h=>by rw [h,ww32]
theorem qjH (S : Bs) (hS : S.length ≤ 32767) (rest : Bs) : qdq Tryz.prog 180 (uv (S.length + 1) ++ S) rest (.string (bs S)):=fun hs hr hF=>(qfu S (by omega) rest hs (hr.cast (by simp only [List.append_assoc])) hF).mono fun e w' hp=>hp.q fun v w' h=>h
theorem qfn (nul : Bool) (S : Bs) (hS : S.length ≤ 32767) (rest : Bs) : qjq Tryz.prog 194 (if nul = true then be 2 (-1) else be 2 S.length ++ S) rest (fun A : Option Addr=>.pointer A) (fun A=>andF (qj7 A S) (isF (A.isNone = nul))):=fun hs hr hF=>(qfm nul S (by omega) rest hs hr hF).mono fun e w' hp=>hp.q fun v w' h=>by
 obtain ⟨A,h1,h2,h3⟩:=h
 exact ⟨A,h1,h2,h3⟩
theorem qdt (nul : Bool) (S : Bs) (hS : S.length ≤ 32767) (rest : Bs) : qjq Tryz.prog 192 (if nul = true then uv 0 else uv (S.length + 1) ++ S) rest (fun A : Option Addr=>.pointer A) (fun A=>andF (qj7 A S) (isF (A.isNone = nul))):=fun hs hr hF=>(qds nul S (by omega) rest hs hr hF).mono fun e w' hp=>hp.q fun v w' h=>by
 obtain ⟨A,h1,h2,h3⟩:=h
 exact ⟨A,h1,h2,h3⟩
theorem qgR (n : Nat) (hn : n ≤ 32767) (rest : Bs) (hl : n ≤ rest.length) : qdq Tryz.prog 174 (be 4 n) rest (.int .i32 ((n : Nat) : Int)):=fun hs hr hF=>(qju ((n : Nat) : Int) (by omega) rest (by omega) hs hr hF).mono fun e w' hp=>hp.q fun v w' h=>h
theorem qdr (n : Nat) (hn : n ≤ 32767) (rest : Bs) (hl : n ≤ rest.length) : qdq Tryz.prog 173 (uv (n + 1)) rest (.int .i32 ((n : Nat) : Int)):=fun hs hr hF=>(qeR (n + 1) (by omega) rest (by omega) hs hr hF).mono fun e w' hp=>hp.q fun v w' h=>h.trans (congrArg (Value.int .i32) (by omega))
theorem ql1 (S : Bs) (rest : Bs) : qdq Tryz.prog 203 (qah S) rest (.agg #[qad ((qah S).getD 0 0),qad ((qah S).getD 1 0),qad ((qah S).getD 2 0),qad ((qah S).getD 3 0),qad ((qah S).getD 4 0),qad ((qah S).getD 5 0),qad ((qah S).getD 6 0),qad ((qah S).getD 7 0),qad ((qah S).getD 8 0),qad ((qah S).getD 9 0),qad ((qah S).getD 10 0),qad ((qah S).getD 11 0),qad ((qah S).getD 12 0),qad ((qah S).getD 13 0),qad ((qah S).getD 14 0),qad ((qah S).getD 15 0)]):=fun hs hr hF=>(ql0 (qah S) (qdB S) rest hs hr hF).mono fun e w' hp=>hp.q fun v w' h=>h
theorem pOk (rest : Bs) : qdq Tryz.prog 175 [] rest (.bool true):=fun hs hr hF=>(rOk rest hs hr hF).mono fun e w' hp=>hp.q fun v w' h=>h
theorem qk6 (u : List (Int × Bs)) (hU : canU u) (hk : ∀ x ∈ u,0 ≤ x.1 ∧ x.1 < 4294967296) (rest : Bs) : qjq Tryz.prog 182 (uv u.length ++ qcA u) rest (fun m : Option Nat=>.agg #[.map m]) (fun m=>qlu m u):=fun hs hr hF=>(qlY u rest hU.1 hk hU.2.1 hU.2.2 hs (hr.cast (by simp only [List.append_assoc])) hF).mono fun e w' hp=>hp.q fun v w' h=>h
theorem qlB (k : Int) (A : Option Addr) (m c : Nat) (w : World) : Calls Tryz.prog 118 #[.agg #[.int .u32 k,.slice A m c]] w (qi3 w):=by
 refine enter (n:=7) Tryz.func118 rfl Tryz.ntmps118 kz fun a hE=>?_
 have hW:=WOk.start w Nil
 refine qae [0,1] kz ?_
 refine qan (qbk hW hE (d:=1) (cs:=[.int .u32 k,.slice A m c]) kz fun b1 a2 w3 hb4 hz5 hF6 hW7 hE8=>?_)
 refine qal [1] [] [(1,.p 0 0)] hW7 hE8 fun a9 ac=>?_
 refine qaf (qab ?_)
 refine wp_seq ?_
 refine qaq [(6,.v (.bool (decide (((m : Nat) : Int) > 2147483647))))] hW7 ac fun ai aa=>?_
 refine qax aa (b:=decide (((m : Nat) : Int) > 2147483647)) kz (fun ab=>?_) (fun ab=>?_)
 ·
  have ag:=of_decide_eq_true ab
  refine qaq [(2,.v (.bool false))] hW7 aa fun aj ae=>?_
  refine wp_ret ?_
  refine qap ?_
  refine qaK ae hW7.cells (v:=.bool false) kz ?_
  exact ⟨_,rfl,hW7.step⟩
 have ah:=of_decide_eq_false ab
 refine wp_skip ?_
 refine qab ?_
 refine qaq [(2,.v (.bool true))] hW7 aa fun ak af=>?_
 refine wp_ret ?_
 refine qaK af hW7.cells (v:=.bool true) kz ?_
 exact ⟨_,rfl,hW7.step⟩
theorem qlC (A : Option Addr) (c : Nat) (u : List (Int × Bs)) (w : World) (F : Nat → Nat → Prop) (hu : TagsR w F A c u) : Calls Tryz.prog 49 #[.slice A u.length c] w (qi3 w):=by
 obtain ⟨xu,h1,h2⟩:=hu.ex
 have hsm:=h1.small
 refine enter (n:=18) Tryz.func49 rfl Tryz.ntmps49 kz fun a hE=>?_
 have hW:=WOk.start w Nil
 refine qaq [(0,.v (.slice A u.length c))] hW hE fun a1 hE2=>?_
 refine wp_seq ?_
 refine qaq [(0,.v (.slice A u.length c)),(7,.v (.bool (decide (((u.length : Nat) : Int) > 2147483647))))] hW hE2 fun a3 hE4=>?_
 refine qax hE4 (b:=decide (((u.length : Nat) : Int) > 2147483647)) kz (fun hc5=>?_) (fun hc5=>?_)
 ·
  have hf6:=of_decide_eq_true hc5
  refine qaq [(2,.v (.bool false))] hW hE4 fun a7 hE8=>?_
  refine wp_ret ?_
  refine qap ?_
  refine qaK hE8 hW.cells (v:=.bool false) kz ?_
  exact ⟨_,rfl,hW.step⟩
 have hf9:=of_decide_eq_false hc5
 refine wp_skip ?_
 refine qab ?_
 refine wp_seq ?_
 refine qaq [(8,.v (.slice A u.length c)),(9,.v (.int .i64 ((u.length : Nat) : Int))),(10,.v (.int .i64 0))] hW hE4 fun ba ar=>?_
 refine wp_block ?_
 refine wp_loop_ghost (fun n_ a_ w_=>∃ (k : Nat),n_ = u.length - k ∧ k ≤ u.length ∧ LInv hW 18 [] [] [(8,.v (.slice A u.length c)),(9,.v (.int .i64 ((u.length : Nat) : Int))),(10,.v (.int .i64 ((k : Nat) : Int)))] a_ w_) (u.length) ⟨0,by omega,by omega,ar.pk,hW,Fr.refl _ _ _⟩ ?_
 rintro bd bf bg ⟨k,aQ,aR,au,aa,av⟩
 refine qaq [(8,.v (.slice A u.length c)),(9,.v (.int .i64 ((u.length : Nat) : Int))),(10,.v (.int .i64 ((k : Nat) : Int))),(11,.v (.bool (decide (((k : Nat) : Int) < ((u.length : Nat) : Int)))))] aa au fun bh ae=>?_
 refine wp_seq ?_
 refine qax ae (b:=decide (((k : Nat) : Int) < ((u.length : Nat) : Int))) kz (fun af=>?_) (fun af=>?_)
 ·
  have aS:=of_decide_eq_true af
  refine wp_skip ?_
  refine qab ?_
  refine wp_seq ?_
  refine wp_block ?_
  refine qae [0,1,2,3] kz ?_
  obtain ⟨aT,aU,aw,aV,ac⟩:=Slots.get h1 (i:=k) (by omega)
  obtain ⟨⟨ai,aj⟩,ax⟩ : ∃ x,u[k]? = some x:=⟨_,List.getElem?_eq_getElem (by omega)⟩
  obtain ⟨⟨ak,al,am,aW⟩,bi,bj⟩:=h2 k ai aj ax
  rw [am] at ac
  refine qan (qaC ae (t:=24) (A:=A) (m:=u.length) (q:=((k : Nat) : Int)) (d:=12) kz (e:=66) (size:=2) (bytes:=32) kz aw rfl (by omega) fun bk ay=>?_)
  refine qan (qaQ ay (t:=66) (b:=aT) (o:=aU + k * 2) (d:=13) kz (cs:=[.int .u32 ai,.slice ak aj.length al]) (v:=.agg #[.int .u32 ai,.slice ak aj.length al]) kz (AtF.move ac aa.step nilM qbc).at_ fun bn az=>?_)
  refine qan (qaO aa az (d:=4) (cs:=[.int .u32 0,.slice none 0 0]) kz fun bo bp bq aX aY aA aB aC=>?_)
  refine qan (qav aB aC (oi:=0) (cs:=[.int .u32 ai,.slice ak aj.length al]) kz fun bt aD ag aE=>?_)
  refine qaf (qab ?_)
  refine qae [0,1,2] kz ?_
  refine qal [0] [1,2] [(8,.v (.slice A u.length c)),(9,.v (.int .i64 ((u.length : Nat) : Int))),(10,.v (.int .i64 ((k : Nat) : Int))),(14,.v (.agg #[.int .u32 ai,.slice ak aj.length al]))] ag aE fun bu aF=>?_
  refine qan (qam aF (f:=118) (vs:=[.agg #[.int .u32 ai,.slice ak aj.length al]]) (d:=15) kz Tryz.call118 (qlB _ _ _ _ _) ?_)
  rintro e_ bw ⟨aP,rfl,ao⟩
  refine ⟨_,rfl,fun bx aG=>?_⟩
  have ab:=ag.next_nil ao
  have aH:=ag.frN ao
  refine qal [2] [] [(8,.v (.slice A u.length c)),(9,.v (.int .i64 ((u.length : Nat) : Int))),(10,.v (.int .i64 ((k : Nat) : Int))),(16,.v (.bool (!aP)))] ab aG fun bz ah=>?_
  refine qaf (qab ?_)
  refine qax ah (b:=!aP) kz (fun aI=>?_) (fun aI=>?_)
  ·
   refine qaq [(2,.v (.bool false))] ab ah fun bA aJ=>?_
   refine wp_ret ?_
   refine qay ?_
   refine qap ?_
   refine qap ?_
   refine qay ?_
   refine qap ?_
   refine qaK aJ ab.cells (v:=.bool false) kz ?_
   exact ⟨_,rfl,ab.step⟩
  refine wp_skip ?_
  refine qat ?_
  refine qab ?_
  refine qas [0,1] kz ?_
  refine qal [0,1] [] [(8,.v (.slice A u.length c)),(9,.v (.int .i64 ((u.length : Nat) : Int))),(10,.v (.int .i64 (IntKind.i64.wrap (((k : Nat) : Int) + 1))))] ab ah fun bB aK=>?_
  refine qaf (qab ?_)
  obtain ⟨ap,aL,aM⟩:=ab.cutB aK 0 [] [(8,.v (.slice A u.length c)),(9,.v (.int .i64 ((u.length : Nat) : Int))),(10,.v (.int .i64 (IntKind.i64.wrap (((k : Nat) : Int) + 1))))]
  have aN : IntKind.i64.wrap (((k : Nat) : Int) + 1) = ((k + 1 : Nat) : Int):=qaR (by omega)
  rw [aN] at ap
  exact ⟨u.length - (k + 1),by omega,k + 1,rfl,by omega,ap.pk,aL,((((av.trans aA).trans aD).trans aH).trans aM)⟩
 have aZ:=of_decide_eq_false af
 refine wp_exit ?_
 refine qaB ?_
 refine qaB ?_
 refine qaP ?_
 refine qab ?_
 refine qaq [(2,.v (.bool true))] aa ae fun bC aO=>?_
 refine wp_ret ?_
 refine qaK aO aa.cells (v:=.bool true) kz ?_
 exact ⟨_,rfl,aa.step⟩
theorem qlD (ct : List Value) (t : Tree) (w : World) (F : Nat → Nat → Prop) (ht : TreeR w F ct t) : Calls Tryz.prog 13 #[.agg ct.toArray] w (qi3 w):=by
 obtain ⟨n1,s2,b3,l4,u5,A6,c7,A8,c9,aj,ak,aB,rfl,rfl,aC,aD,aN,aE⟩:=ht.open_
 have ay:=aC.small
 have az:=aD.small
 refine enter (n:=15) Tryz.func13 rfl Tryz.ntmps13 kz fun a hE=>?_
 have hW:=WOk.start w Nil
 refine qae [0,1] kz ?_
 refine qan (qbk hW hE (d:=1) (cs:=[.int .i64 n1,.slice A6 s2.length c7,.bool b3,.slice A8 l4.length c9,.slice aj u5.length ak]) kz fun aO aP aQ aF aG aH aa al=>?_)
 refine qal [1] [] [(1,.p 0 0)] aa al fun aR am=>?_
 refine qaf (qab ?_)
 refine wp_seq ?_
 refine qaq [(1,.p 0 0),(6,.v (.bool (decide (((s2.length : Nat) : Int) > 2147483647))))] aa am fun aS ac=>?_
 refine qax ac (b:=decide (((s2.length : Nat) : Int) > 2147483647)) kz (fun ae=>?_) (fun ae=>?_)
 ·
  have aI:=of_decide_eq_true ae
  refine qaq [(2,.v (.bool false))] aa ac fun aT ao=>?_
  refine wp_ret ?_
  refine qap ?_
  refine qaK ao aa.cells (v:=.bool false) kz ?_
  exact ⟨_,rfl,aa.step⟩
 have aJ:=of_decide_eq_false ae
 refine wp_skip ?_
 refine qab ?_
 refine wp_seq ?_
 refine qaq [(1,.p 0 0),(10,.v (.bool (decide (((l4.length : Nat) : Int) > 2147483647))))] aa ac fun aU af=>?_
 refine qax af (b:=decide (((l4.length : Nat) : Int) > 2147483647)) kz (fun ag=>?_) (fun ag=>?_)
 ·
  have aK:=of_decide_eq_true ag
  refine qaq [(2,.v (.bool false))] aa af fun aV ap=>?_
  refine wp_ret ?_
  refine qap ?_
  refine qaK ap aa.cells (v:=.bool false) kz ?_
  exact ⟨_,rfl,aa.step⟩
 have aL:=of_decide_eq_false ag
 refine wp_skip ?_
 refine qab ?_
 refine wp_seq ?_
 refine qae [0,1,2,3] kz ?_
 refine qal [0,1] [2,3] [(12,.v (.slice aj u5.length ak))] aa af fun aW ar=>?_
 refine qan (qam ar (f:=49) (vs:=[.slice aj u5.length ak]) (d:=13) kz Tryz.call49 (qlC _ _ u5 _ _ (aE.move aa.step nilM aa.imm)) ?_)
 rintro e_ aX ⟨aA,rfl,ai⟩
 refine ⟨_,rfl,fun aY au=>?_⟩
 have ab:=aa.next_nil ai
 have aM:=aa.frN ai
 refine qal [3] [] [(14,.v (.bool (!aA)))] ab au fun aZ ah=>?_
 refine qaf (qab ?_)
 refine qax ah (b:=!aA) kz (fun av=>?_) (fun av=>?_)
 ·
  refine qaq [(2,.v (.bool false))] ab ah fun ba aw=>?_
  refine wp_ret ?_
  refine qap ?_
  refine qaK aw ab.cells (v:=.bool false) kz ?_
  exact ⟨_,rfl,ab.step⟩
 refine wp_skip ?_
 refine qab ?_
 refine qaq [(2,.v (.bool true))] ab ah fun bd ax=>?_
 refine wp_ret ?_
 refine qaK ax ab.cells (v:=.bool true) kz ?_
 exact ⟨_,rfl,ab.step⟩
theorem qkb (x m : Int) (hx : 0 ≤ x) (hx' : x < 256) (hm : 0 ≤ m) (hm' : m < 32768) (w : World) : Calls Tryz.prog 16 #[.int .u8 x,.int .i64 m] w (qcj w (.int .i64 (Int.tmod x (m + 1)))):=by
 refine enter (n:=10) Tryz.func16 rfl Tryz.ntmps16 kz fun a hE=>?_
 have hW:=WOk.start w Nil
 refine qaq [(0,.v (.int .u8 x)),(1,.v (.int .i64 m))] hW hE fun a1 hE2=>?_
 refine qae [0,1,2,3,4,5] kz ?_
 refine qal [0,1,2,3] [4,5] [(6,.v (.int .i64 (IntKind.i64.wrap x))),(8,.v (.int .i64 (IntKind.i64.wrap (m + 1))))] hW hE2 fun a3 hE4=>?_
 refine qan (qjR hE4 (k:=.i64) (p:=(IntKind.i64.wrap x)) (q:=(IntKind.i64.wrap (m + 1))) (d:=9) kz (by simp only [IntKind.wrap_i64]; omega) fun a5 hE6=>?_)
 refine qal [5] [] [(4,.v (.int .i64 (Int.tmod (IntKind.i64.wrap x) (IntKind.i64.wrap (m + 1)))))] hW hE6 fun a7 hE8=>?_
 refine qaf (qab ?_)
 refine wp_ret ?_
 refine qaK hE8 hW.cells (v:=.int .i64 (Int.tmod (IntKind.i64.wrap x) (IntKind.i64.wrap (m + 1)))) kz ?_
 exact ⟨by rw [wrap_i64 (by omega) (by omega),wrap_i64 (by omega) (by omega)],hW.step⟩
def qaD (v : Int) (T : Tree) : Bs:=(be 4 ((IntKind.i32.wrap (T.at_ 0).N))) ++ ((be 2 ((IntKind.i16.wrap (T.at_ 1).N))) ++ ((if (decide (v ≥ 0)) = true then (if (T.at_ 2).null = true then uv 0 else uv ((qb7 (T.at_ 2)).length + 1) ++ (qb7 (T.at_ 2))) else (if (T.at_ 2).null = true then be 2 (-1) else be 2 (qb7 (T.at_ 2)).length ++ (qb7 (T.at_ 2)))) ++ (if (decide (v ≥ 0)) = true then (uv T.U.length) ++ (qcA T.U) else [])))
theorem qbo (v : Int) (T : Tree) : 0 < (qaD v T).length:=qlw (qlx (by decide))
def qaJ (v : Int) (T : Tree) : Bs:=(qah (T.at_ 0).S) ++ (((if (decide (v ≥ 0)) = true then (uv ((lst (T.at_ 1)).length + 1)) else (be 4 (lst (T.at_ 1)).length)) ++ ((lst (T.at_ 1)).flatMap (qaD v))) ++ (if (decide (v ≥ 0)) = true then (uv T.U.length) ++ (qcA T.U) else []))
theorem qbz (v : Int) (T : Tree) : 0 < (qaJ v T).length:=qlw (by rw [qdB]; decide)
def qbL (v : Int) (T : Tree) : Bs:=((if (decide (v ≥ 0)) = true then (uv ((lst (T.at_ 0)).length + 1)) else (be 4 (lst (T.at_ 0)).length)) ++ ((lst (T.at_ 0)).flatMap (qaJ v))) ++ ((if (decide (v ≥ 0)) = true then (uv T.U.length) ++ (qcA T.U) else []) ++ (([] : Bs)))
theorem qcB (v : Int) (T : Tree) : qai v T = qbL v T:=rfl
def qbq (d : DV) : List Value:=[.int .i32 ((d.f 0).n),.int .i16 ((d.f 1).n),.pointer ((d.f 2).A),.map d.m]
theorem qaN : qgO qaG:=by
 intro w w' F F' M d hs hM hF h
 unfold qaG at h ⊢
 obtain ⟨g0,g1,⟨g2,g2l⟩,t1,t2,t3,_⟩:=h
 exact ⟨g0,g1,⟨fun ad hA=>by
  obtain ⟨b,o,h1,h2⟩:=g2 ad hA
  exact ⟨b,o,h1,h2.move hs hM hF⟩,g2l⟩,t1.move hs hM hF,t2,t3,trivial⟩
def qbC (d : DV) : List Value:=[qad ((d.f 0).o.getD 0 0),qad ((d.f 0).o.getD 1 0),qad ((d.f 0).o.getD 2 0),qad ((d.f 0).o.getD 3 0),qad ((d.f 0).o.getD 4 0),qad ((d.f 0).o.getD 5 0),qad ((d.f 0).o.getD 6 0),qad ((d.f 0).o.getD 7 0),qad ((d.f 0).o.getD 8 0),qad ((d.f 0).o.getD 9 0),qad ((d.f 0).o.getD 10 0),qad ((d.f 0).o.getD 11 0),qad ((d.f 0).o.getD 12 0),qad ((d.f 0).o.getD 13 0),qad ((d.f 0).o.getD 14 0),qad ((d.f 0).o.getD 15 0),.slice ((d.f 1).A) ((d.f 1).l) ((d.f 1).c),.map d.m]
theorem qaY : qgO qaS:=by
 intro w w' F F' M d hs hM hF h
 unfold qaS at h ⊢
 obtain ⟨g0,⟨g1,g1l,g1e⟩,t1,t2,t3,_⟩:=h
 exact ⟨g0,⟨g1.move hs hM hF,g1l,fun i hi=>qaN _ hs hM hF (g1e i hi)⟩,t1.move hs hM hF,t2,t3,trivial⟩
def qaU (v : Int) (D : DV) (T : Tree) : Prop:=((D.f 0).n = IntKind.i32.wrap (T.at_ 0).N) ∧ ((D.f 1).n = IntKind.i16.wrap (T.at_ 1).N) ∧ (((D.f 2).s = bs (qb7 (T.at_ 2)) ∧ (D.f 2).A.isNone = (T.at_ 2).null)) ∧ (((decide (v ≥ 0)) = true → D.u = T.U) ∧ ((decide (v ≥ 0)) = false → D.u = [])) ∧ True
def qa2 (v : Int) (D : DV) (T : Tree) : Prop:=((D.f 0).o = qah (T.at_ 0).S) ∧ (((D.f 1).l = (lst (T.at_ 1)).length ∧ ∀ i,i < (D.f 1).l → qaU v ((D.f 1).f i) ((lst (T.at_ 1)).getD i .zero))) ∧ (((decide (v ≥ 0)) = true → D.u = T.U) ∧ ((decide (v ≥ 0)) = false → D.u = [])) ∧ True
def qa3 (v : Int) (D : DV) (T : Tree) : Prop:=(((D.f 0).l = (lst (T.at_ 0)).length ∧ ∀ i,i < (D.f 0).l → qa2 v ((D.f 0).f i) ((lst (T.at_ 0)).getD i .zero))) ∧ (((decide (v ≥ 0)) = true → D.u = T.U) ∧ ((decide (v ≥ 0)) = false → D.u = [])) ∧ True
theorem qlE (b o : Nat) (w : World) : Calls Tryz.prog 208 #[.pointer (some ⟨b,o,none⟩)] w (fun e w'=>e = .returned (.tuple #[]) ∧ w' = w):=by
 refine enter (n:=2) (vs:=[.pointer (some ⟨b,o,none⟩)]) Tryz.func208 rfl Tryz.ntmps208 kz fun a hE=>?_
 refine wp_skip ?_
 exact qbO hE (WOk.start w Nil).cells (v:=.tuple #[]) kz ⟨rfl,rfl⟩
theorem qlF (b o : Nat) (w : World) : Calls Tryz.prog 209 #[.pointer (some ⟨b,o,none⟩)] w (fun e w'=>e = .returned (.tuple #[]) ∧ w' = w):=by
 refine enter (n:=2) (vs:=[.pointer (some ⟨b,o,none⟩)]) Tryz.func209 rfl Tryz.ntmps209 kz fun a hE=>?_
 refine wp_skip ?_
 exact qbO hE (WOk.start w Nil).cells (v:=.tuple #[]) kz ⟨rfl,rfl⟩
set_option maxHeartbeats 4000000 in
theorem qcC (v : Int) (T : Tree) {bv : Nat} {A : Option Addr} {c : Nat} {w : World} {F : Nat → Nat → Prop} (hst : Str w bv [.int .i16 v,.slice none 0 0,.map none]) (ho : Octs w F A c (qai v T)) (hFd : ∀ b o,F b o → ¬ (b = bv ∧ o < 3)) (hc : qa1 T) (hR : T.ranged) :
  Calls Tryz.prog 156 #[.pointer (some ⟨bv,0,none⟩),.slice A (qai v T).length c,.bool false] w (fun e w'=>∃ D : DV,e = .returned .nilIface ∧ Str w' bv [.int .i16 v,.slice ((D.f 0).A) ((D.f 0).l) ((D.f 0).c),.map D.m] ∧ qba w' (Fp F w) D ∧ qa3 v D T ∧ Step w w' (fun b o=>b = bv ∧ o < 3)):=by
 refine enter (n:=150) Tryz.func156 rfl Tryz.ntmps156 kz fun a hE=>?_
 have hW:=WOk.startStr hst
 have hE1:=(hE.grow ⟨bv,0,[.int .i16 v,.slice none 0 0,.map none],true⟩).recast 0 (.v (.pointer (some ⟨bv,0,none⟩))) (.p 0 0) rfl rfl (Nat.le_of_ble_eq_true (n:=1) rfl)
 refine qaq [(0,.p 0 0),(1,.v (.slice A ((qai v T).length) c)),(2,.v (.bool false))] hW hE1 fun a1 hE2=>?_
 refine qae [0,1] kz ?_
 refine qal [0] [1] [(0,.p 0 0),(1,.v (.slice A ((qai v T).length) c)),(2,.v (.bool false)),(27,.p 0 0)] hW hE2 fun a3 hE4=>?_
 refine qan (qbJ hE4 (f:=154) (vs:=[.pointer (some ⟨bv,0,none⟩)]) (d:=28) (n':=2) kz Tryz.call154 Tryz.func154 rfl Tryz.ntmps154 kz fun a5 hE6=>?_)
 have hE7:=hE6.recast 0 (.v (.pointer (some ⟨bv,0,none⟩))) (.p 0 0) rfl rfl (Nat.le_of_ble_eq_true (n:=1) rfl)
 refine wp_skip ?_
 refine qbO hE7 hW.cells (v:=.tuple #[]) kz ?_
 refine ⟨_,rfl,fun a8 hE9=>?_⟩
 have eF : EnvOk 150 [⟨bv,0,[.int .i16 v,.slice none 0 0,.map none],true⟩] [(28,.v (.tuple #[])),(0,.p 0 0),(1,.v (.slice A ((qai v T).length) c)),(2,.v (.bool false)),(27,.p 0 0)] _:=hE9.places (⟨rfl,rfl,trivial⟩)
 refine qaf (qab ?_)
 refine qae [0,1,2,3] kz ?_
 refine qal [0,1] [2,3] [(0,.p 0 0),(2,.v (.bool false)),(30,.v (.agg #[.slice A ((qai v T).length) c,.bool false]))] hW eF fun fu eG=>?_
 refine qan (qaO hW eG (d:=7) (cs:=[.slice none 0 0,.bool false]) kz fun aY fv fw eZ e9 fa eH eI=>?_)
 refine qan (qav eH eI (oi:=1) (cs:=[.slice A ((qai v T).length) c,.bool false]) kz fun fx fb dc eJ=>?_)
 refine qaf (qab ?_)
 have dp:=RS.start (F:=F) (s:=qai v T) dc eJ (ho.move dc.step (fun b_ o_ h_ _=>hFd b_ o_ h_) (dc.immM hFd)) [(0,.p 1 0),(2,.v (.bool false)),(7,.p 0 0)]
 have eW:=hc
 have e26r:=hR
 unfold qa1 at eW
 obtain ⟨⟨e26_0,e26_0e⟩,e26_U,_⟩:=eW
 obtain ⟨aZ,dq⟩ : ∃ R,R = (if (decide (v ≥ 0)) = true then (uv T.U.length) ++ (qcA T.U) else []) ++ ([] : Bs):=⟨_,rfl⟩
 obtain ⟨fe,dr⟩ : ∃ R,R = ((if (decide (v ≥ 0)) = true then (uv ((lst (T.at_ 0)).length + 1)) else (be 4 (lst (T.at_ 0)).length)) ++ ((lst (T.at_ 0)).flatMap (qaJ v))) ++ aZ:=⟨_,rfl⟩
 have dt:=dp.cast (t:=fe) (by rw [qcB,dr,dq]; unfold qbL; simp only [List.append_assoc])
 clear dp
 refine wp_seq ?_
 refine qbZ [(0,.p 1 0),(2,.v (.bool false)),(7,.p 0 0),(8,.v (.int .i16 v))] dt fun _ du=>?_
 clear dt
 refine qab ?_
 refine wp_seq ?_
 refine qbZ [(0,.p 1 0),(2,.v (.bool false)),(7,.p 0 0),(8,.v (.int .i16 v))] du fun _ dv=>?_
 clear du
 refine qab ?_
 refine wp_seq ?_
 refine qbZ [(0,.p 1 0),(2,.v (.bool false)),(7,.p 0 0),(9,.v (.bool (decide (v ≥ 0))))] dv fun _ dw=>?_
 clear dv
 refine qab ?_
 refine wp_seq ?_
 refine qbZ [(0,.p 1 0),(2,.v (.bool false)),(7,.p 0 0),(9,.v (.bool (decide (v ≥ 0))))] dw fun _ dx=>?_
 clear dw
 refine qab ?_
 refine wp_seq ?_
 refine qbZ [(2,.v (.bool false)),(7,.p 0 0),(9,.v (.bool (decide (v ≥ 0)))),(10,.p 1 0)] dx fun _ dy=>?_
 clear dx
 refine qab ?_
 refine wp_seq ?_
 refine wp_seq ?_
 refine qbZ [(2,.v (.bool false)),(7,.p 0 0),(9,.v (.bool (decide (v ≥ 0)))),(10,.p 1 0),(11,.v (.slice none 0 0))] dy fun _ dz=>?_
 clear dy
 refine qab ?_
 refine wp_seq ?_
 refine qbZ [(2,.v (.bool false)),(7,.p 0 0),(9,.v (.bool (decide (v ≥ 0)))),(10,.p 1 0),(12,.v (.slice none 0 0))] dz fun _ dA=>?_
 clear dz
 refine qab ?_
 refine wp_seq ?_
 refine qbZ [(2,.v (.bool false)),(7,.p 0 0),(9,.v (.bool (decide (v ≥ 0)))),(10,.p 1 0),(12,.v (.slice none 0 0))] dA fun _ dB=>?_
 clear dA
 refine qab ?_
 refine wp_seq ?_
 have dC:=dB.cast dr
 clear dB
 have dD:=dC.cast (t:=(if (decide (v ≥ 0)) = true then (uv ((lst (T.at_ 0)).length + 1)) else (be 4 (lst (T.at_ 0)).length)) ++ (((lst (T.at_ 0)).flatMap (qaJ v)) ++ aZ)) (by rw [List.append_assoc])
 clear dC
 refine qjr (d1:=46) (d2:=47) [(2,.v (.bool false)),(7,.p 0 0),(9,.v (.bool (decide (v ≥ 0)))),(10,.p 1 0),(12,.v (.slice none 0 0)),(45,.v (.bool (decide (v ≥ 0))))] [(2,.v (.bool false)),(7,.p 0 0),(9,.v (.bool (decide (v ≥ 0)))),(10,.p 1 0),(12,.v (.slice none 0 0)),(13,.v (.int .i32 (((lst (T.at_ 0)).length : Nat) : Int)))] dD (qdr ((lst (T.at_ 0)).length) e26_0 _ (flat_ge' (qbz v) _)) Tryz.call173 (qgR ((lst (T.at_ 0)).length) e26_0 _ (flat_ge' (qbz v) _)) Tryz.call174 fun _ _ dE=>?_
 clear dD
 refine qab ?_
 refine wp_seq ?_
 refine wp_seq ?_
 refine qly (d:=48) [(2,.v (.bool false)),(7,.p 0 0),(9,.v (.bool (decide (v ≥ 0)))),(10,.p 1 0),(12,.v (.slice none 0 0)),(13,.v (.int .i32 (((lst (T.at_ 0)).length : Nat) : Int))),(49,.v (.bool false))] dE (pOk _) Tryz.call175 fun _ _ de=>?_
 clear dE
 refine qab ?_
 refine qar de.env_ (b:=false) kz (rfl) ?_
 refine wp_skip ?_
 refine qab ?_
 refine wp_seq ?_
 refine qjw (t:=160) (e:=167) (size:=18) (bytes:=48) (d:=52) (A0:=none) (m:=0) (cp:=0) [(2,.v (.bool false)),(7,.p 0 0),(9,.v (.bool (decide (v ≥ 0)))),(10,.p 1 0),(13,.v (.int .i32 (((lst (T.at_ 0)).length : Nat) : Int))),(51,.v (.slice none 0 0))] [(2,.v (.bool false)),(7,.p 0 0),(9,.v (.bool (decide (v ≥ 0)))),(10,.p 1 0),(12,.v (.slice none 0 0)),(13,.v (.int .i32 (((lst (T.at_ 0)).length : Nat) : Int)))] 1 de fun _ dF=>?_
 clear de
 refine qab ?_
 refine qhH (Mid:=fun a_ w_=>∃ (ak : DV) (P' : qcu),(∀ w F,P' w F → noF w F ∧ (Slots w F 18 ak.A ak.c ak.l (fun i=>[qad (((ak.f i).f 0).o.getD 0 0),qad (((ak.f i).f 0).o.getD 1 0),qad (((ak.f i).f 0).o.getD 2 0),qad (((ak.f i).f 0).o.getD 3 0),qad (((ak.f i).f 0).o.getD 4 0),qad (((ak.f i).f 0).o.getD 5 0),qad (((ak.f i).f 0).o.getD 6 0),qad (((ak.f i).f 0).o.getD 7 0),qad (((ak.f i).f 0).o.getD 8 0),qad (((ak.f i).f 0).o.getD 9 0),qad (((ak.f i).f 0).o.getD 10 0),qad (((ak.f i).f 0).o.getD 11 0),qad (((ak.f i).f 0).o.getD 12 0),qad (((ak.f i).f 0).o.getD 13 0),qad (((ak.f i).f 0).o.getD 14 0),qad (((ak.f i).f 0).o.getD 15 0),.slice (((ak.f i).f 1).A) (((ak.f i).f 1).l) (((ak.f i).f 1).c),.map ((ak.f i).m)]) ∧ ak.l ≤ 1000000 ∧ ∀ i,i < ak.l → qaS w F (ak.f i)) ∧ (ak.l = (lst (T.at_ 0)).length ∧ ∀ i,i < ak.l → qa2 v (ak.f i) ((lst (T.at_ 0)).getD i .zero))) ∧ RS w (fun b o=>b = bv ∧ o < 3) F 150 aY [⟨bv,0,[.int .i16 v,.slice none 0 0,.map none],true⟩] [(7,.p 0 0),(9,.v (.bool (decide (v ≥ 0)))),(10,.p 1 0),(12,.v (.slice ak.A ak.l ak.c))] P' aZ a_ w_) ?_ ?_
 ·
  refine wp_seq ?_
  refine qbZ [(2,.v (.bool false)),(7,.p 0 0),(9,.v (.bool (decide (v ≥ 0)))),(10,.p 1 0),(12,.v (.slice none 0 0)),(13,.v (.int .i32 (((lst (T.at_ 0)).length : Nat) : Int))),(54,.v (.bool (decide ((((lst (T.at_ 0)).length : Nat) : Int) > 0))))] dF fun _ aH=>qab ?_
  clear dF
  refine qax aH.env_ (b:=decide ((((lst (T.at_ 0)).length : Nat) : Int) > 0)) kz (fun aR=>?_) (fun aR=>?_)
  ·
   have hn_g53 : 0 < (lst (T.at_ 0)).length:=by have h_:=of_decide_eq_true aR; omega
   refine qas [0,1,2,3] kz ?_
   refine qdg [0,1] [2,3] [(2,.v (.bool false)),(7,.p 0 0),(9,.v (.bool (decide (v ≥ 0)))),(10,.p 1 0),(13,.v (.int .i32 (((lst (T.at_ 0)).length : Nat) : Int))),(55,.v (.slice none 0 0)),(56,.v (.int .i32 (((lst (T.at_ 0)).length : Nat) : Int)))] aH fun _ dG=>?_
   clear aH
   refine qan (qfN (d:=57) (t:=160) (tn:=21) (e:=167) (size:=18) (bytes:=48) (k:=.i32) (kn:=.i32) (q:=(((lst (T.at_ 0)).length : Nat) : Int)) (j:=(lst (T.at_ 0)).length) (.agg #[.int .u8 0,.int .u8 0,.int .u8 0,.int .u8 0,.int .u8 0,.int .u8 0,.int .u8 0,.int .u8 0,.int .u8 0,.int .u8 0,.int .u8 0,.int .u8 0,.int .u8 0,.int .u8 0,.int .u8 0,.int .u8 0,.slice none 0 0,.map none]) dG (fun ab ah _ _ hg_g53 hcap_g53 dH=>?_) rfl hn_g53 (by have:=e26_0; omega))
   clear dG
   refine qdg [3] [] [(2,.v (.bool false)),(7,.p 0 0),(9,.v (.bool (decide (v ≥ 0)))),(10,.p 1 0),(12,.v (.slice (some ⟨ab,0,none⟩) ((lst (T.at_ 0)).length) ah)),(13,.v (.int .i32 (((lst (T.at_ 0)).length : Nat) : Int)))] dH fun _ dI=>qaf ?_
   clear dH
   refine qab ?_
   refine wp_seq ?_
   refine qbZ [(2,.v (.bool false)),(7,.p 0 0),(9,.v (.bool (decide (v ≥ 0)))),(10,.p 1 0),(12,.v (.slice (some ⟨ab,0,none⟩) ((lst (T.at_ 0)).length) ah)),(13,.v (.int .i32 (((lst (T.at_ 0)).length : Nat) : Int))),(14,.v (.int .i32 0))] dI fun _ df=>?_
   clear dI
   refine qab ?_
   refine wp_block ?_
   have ba:=df.mv
   have eK:=(df.cast (t:=(lst (T.at_ 0)).flatMap (qaJ v) ++ aZ) rfl).pk (env':=[(2,.v (.bool false)),(7,.p 0 0),(9,.v (.bool (decide (v ≥ 0)))),(10,.p 1 0),(12,.v (.slice (some ⟨ab,0,none⟩) ((lst (T.at_ 0)).length) ah)),(13,.v (.int .i32 (((lst (T.at_ 0)).length : Nat) : Int))),(14,.v (.int .i32 ((0 : Nat) : Int)))])
   clear df
   refine qjs (tb:=[⟨bv,0,[.int .i16 v,.slice none 0 0,.map none],true⟩]) (z:=.agg #[.int .u8 0,.int .u8 0,.int .u8 0,.int .u8 0,.int .u8 0,.int .u8 0,.int .u8 0,.int .u8 0,.int .u8 0,.int .u8 0,.int .u8 0,.int .u8 0,.int .u8 0,.int .u8 0,.int .u8 0,.int .u8 0,.slice none 0 0,.map none]) (cl:=qbC) (ok:=qaS) (rel:=(qa2 v)) (L:=lst (T.at_ 0)) (size:=18) (qaJ v) aZ (fun k=>[(2,.v (.bool false)),(7,.p 0 0),(9,.v (.bool (decide (v ≥ 0)))),(10,.p 1 0),(12,.v (.slice (some ⟨ab,0,none⟩) ((lst (T.at_ 0)).length) ah)),(13,.v (.int .i32 (((lst (T.at_ 0)).length : Nat) : Int))),(14,.v (.int .i32 ((k : Nat) : Int)))]) eK qaY (fun ac aa _ _ dg eL dJ=>?_) (fun _ _ dK=>?_)
   ·
    obtain ⟨eX,dL,dM⟩ : ∃ P',(∀ w F,P' w F → (noF w F ∧ qft ab 18 qbC qaS (qa2 v) (lst (T.at_ 0)) ac w F)) ∧ RS w (fun b o=>b = bv ∧ o < 3) F 150 aY [⟨bv,0,[.int .i16 v,.slice none 0 0,.map none],true⟩,qbt ab 18 (.agg #[.int .u8 0,.int .u8 0,.int .u8 0,.int .u8 0,.int .u8 0,.int .u8 0,.int .u8 0,.int .u8 0,.int .u8 0,.int .u8 0,.int .u8 0,.int .u8 0,.int .u8 0,.int .u8 0,.int .u8 0,.int .u8 0,.slice none 0 0,.map none]) ((lst (T.at_ 0)).length) ac] [(2,.v (.bool false)),(7,.p 0 0),(9,.v (.bool (decide (v ≥ 0)))),(10,.p 1 0),(12,.v (.slice (some ⟨ab,0,none⟩) ((lst (T.at_ 0)).length) ah)),(13,.v (.int .i32 (((lst (T.at_ 0)).length : Nat) : Int))),(14,.v (.int .i32 ((ac : Nat) : Int)))] P' ((qaJ v) aa ++ (((lst (T.at_ 0)).drop (ac + 1)).flatMap (qaJ v) ++ aZ)) _ _:=⟨_,fun _ _ h=>h,dJ⟩
    clear dJ
    obtain ⟨dN,dO⟩ : ∃ R,R = ((lst (T.at_ 0)).drop (ac + 1)).flatMap (qaJ v) ++ aZ:=⟨_,rfl⟩
    have eY:=(e26_0e aa (List.mem_of_getElem? dg))
    have e72r:=(qfK (qfk e26r 0) aa (List.mem_of_getElem? dg))
    unfold qbe at eY
    obtain ⟨e72_0,⟨e72_1,e72_1e⟩,e72_U,_⟩:=eY
    obtain ⟨bd,dP⟩ : ∃ R,R = (if (decide (v ≥ 0)) = true then (uv aa.U.length) ++ (qcA aa.U) else []) ++ dN:=⟨_,rfl⟩
    obtain ⟨ff,dQ⟩ : ∃ R,R = ((if (decide (v ≥ 0)) = true then (uv ((lst (aa.at_ 1)).length + 1)) else (be 4 (lst (aa.at_ 1)).length)) ++ ((lst (aa.at_ 1)).flatMap (qaD v))) ++ bd:=⟨_,rfl⟩
    obtain ⟨fg,dR⟩ : ∃ R,R = (qah (aa.at_ 0).S) ++ ff:=⟨_,rfl⟩
    have dS:=dM.cast (t:=fg) (by rw [dR,dQ,dP,← dO]; unfold qaJ; simp only [List.append_assoc])
    clear dM
    refine wp_seq ?_
    refine wp_seq ?_
    refine qbZ [(2,.v (.bool false)),(7,.p 0 0),(9,.v (.bool (decide (v ≥ 0)))),(10,.p 1 0),(12,.v (.slice (some ⟨ab,0,none⟩) ((lst (T.at_ 0)).length) ah)),(13,.v (.int .i32 (((lst (T.at_ 0)).length : Nat) : Int))),(14,.v (.int .i32 ((ac : Nat) : Int))),(60,.v (.bool (decide (((ac : Nat) : Int) < (((lst (T.at_ 0)).length : Nat) : Int)))))] dS fun _ dh=>qab ?_
    clear dS
    refine qa8 dh.env_ (b:=decide (((ac : Nat) : Int) < (((lst (T.at_ 0)).length : Nat) : Int))) kz (decide_eq_true (by omega)) ?_
    refine wp_skip ?_
    refine qab ?_
    refine wp_seq ?_
    refine wp_block ?_
    refine wp_seq ?_
    refine qjx (t:=160) (e:=167) (size:=18) (bytes:=48) (d:=65) (tb:=[⟨bv,0,[.int .i16 v,.slice none 0 0,.map none],true⟩]) (z:=.agg #[.int .u8 0,.int .u8 0,.int .u8 0,.int .u8 0,.int .u8 0,.int .u8 0,.int .u8 0,.int .u8 0,.int .u8 0,.int .u8 0,.int .u8 0,.int .u8 0,.int .u8 0,.int .u8 0,.int .u8 0,.int .u8 0,.slice none 0 0,.map none]) [(2,.v (.bool false)),(7,.p 0 0),(9,.v (.bool (decide (v ≥ 0)))),(10,.p 1 0),(12,.v (.slice (some ⟨ab,0,none⟩) ((lst (T.at_ 0)).length) ah)),(13,.v (.int .i32 (((lst (T.at_ 0)).length : Nat) : Int))),(14,.v (.int .i32 ((ac : Nat) : Int))),(63,.v (.slice (some ⟨ab,0,none⟩) ((lst (T.at_ 0)).length) ah)),(64,.v (.int .i32 ((ac : Nat) : Int)))] [(2,.v (.bool false)),(7,.p 0 0),(9,.v (.bool (decide (v ≥ 0)))),(10,.p 1 0),(12,.v (.slice (some ⟨ab,0,none⟩) ((lst (T.at_ 0)).length) ah)),(13,.v (.int .i32 (((lst (T.at_ 0)).length : Nat) : Int))),(14,.v (.int .i32 ((ac : Nat) : Int))),(15,.p 3 0)] 2 dh eL rfl kz fun _ dT=>?_
    clear dh
    have dU:=dT.tbEq (tb':=[⟨bv,0,[.int .i16 v,.slice none 0 0,.map none],true⟩,qbt ab 18 (.agg #[.int .u8 0,.int .u8 0,.int .u8 0,.int .u8 0,.int .u8 0,.int .u8 0,.int .u8 0,.int .u8 0,.int .u8 0,.int .u8 0,.int .u8 0,.int .u8 0,.int .u8 0,.int .u8 0,.int .u8 0,.int .u8 0,.slice none 0 0,.map none]) ((lst (T.at_ 0)).length) (ac + 1),⟨ab,ac * 18,[.int .u8 0,.int .u8 0,.int .u8 0,.int .u8 0,.int .u8 0,.int .u8 0,.int .u8 0,.int .u8 0,.int .u8 0,.int .u8 0,.int .u8 0,.int .u8 0,.int .u8 0,.int .u8 0,.int .u8 0,.int .u8 0,.slice none 0 0,.map none],true⟩]) rfl
    clear dT
    refine qab ?_
    refine wp_seq ?_
    refine qas [0,1] kz ?_
    refine qdg [0] [1] [(2,.v (.bool false)),(7,.p 0 0),(9,.v (.bool (decide (v ≥ 0)))),(10,.p 1 0),(12,.v (.slice (some ⟨ab,0,none⟩) ((lst (T.at_ 0)).length) ah)),(13,.v (.int .i32 (((lst (T.at_ 0)).length : Nat) : Int))),(14,.v (.int .i32 ((ac : Nat) : Int))),(15,.p 3 0),(66,.p 3 0)] dU fun _ dV=>?_
    clear dU
    refine qan (qkx (d:=67) (vs:=[.pointer (some ⟨ab,ac * 18,none⟩)]) dV (fun _=>qlE _ _ _) Tryz.call208 fun _ dW=>?_)
    clear dV
    refine qaf ?_
    have dX:=dW.pk (env':=[(2,.v (.bool false)),(7,.p 0 0),(9,.v (.bool (decide (v ≥ 0)))),(10,.p 1 0),(12,.v (.slice (some ⟨ab,0,none⟩) ((lst (T.at_ 0)).length) ah)),(13,.v (.int .i32 (((lst (T.at_ 0)).length : Nat) : Int))),(14,.v (.int .i32 ((ac : Nat) : Int))),(15,.p 3 0)])
    clear dW
    refine qab ?_
    refine wp_seq ?_
    refine qbZ [(2,.v (.bool false)),(7,.p 0 0),(9,.v (.bool (decide (v ≥ 0)))),(10,.p 1 0),(12,.v (.slice (some ⟨ab,0,none⟩) ((lst (T.at_ 0)).length) ah)),(13,.v (.int .i32 (((lst (T.at_ 0)).length : Nat) : Int))),(14,.v (.int .i32 ((ac : Nat) : Int))),(16,.p 3 0)] dX fun _ dY=>?_
    clear dX
    refine qab ?_
    refine wp_seq ?_
    refine wp_seq ?_
    refine qas [0,1,2] kz ?_
    have dZ:=dY.cast dR
    clear dY
    refine qan (qhG (d:=69) dZ (ql1 (aa.at_ 0).S _) Tryz.call203 fun _ _ d5=>?_)
    clear dZ
    refine qan (qj8 (d:=17) [.int .u8 0,.int .u8 0,.int .u8 0,.int .u8 0,.int .u8 0,.int .u8 0,.int .u8 0,.int .u8 0,.int .u8 0,.int .u8 0,.int .u8 0,.int .u8 0,.int .u8 0,.int .u8 0,.int .u8 0,.int .u8 0] d5 fun eM _ _ hb_b90 d6=>?_)
    clear d5
    have d7:=(d6.tbEq (tb':=[⟨bv,0,[.int .i16 v,.slice none 0 0,.map none],true⟩,qbt ab 18 (.agg #[.int .u8 0,.int .u8 0,.int .u8 0,.int .u8 0,.int .u8 0,.int .u8 0,.int .u8 0,.int .u8 0,.int .u8 0,.int .u8 0,.int .u8 0,.int .u8 0,.int .u8 0,.int .u8 0,.int .u8 0,.int .u8 0,.slice none 0 0,.map none]) ((lst (T.at_ 0)).length) (ac + 1),⟨ab,ac * 18,[.int .u8 0,.int .u8 0,.int .u8 0,.int .u8 0,.int .u8 0,.int .u8 0,.int .u8 0,.int .u8 0,.int .u8 0,.int .u8 0,.int .u8 0,.int .u8 0,.int .u8 0,.int .u8 0,.int .u8 0,.int .u8 0,.slice none 0 0,.map none],true⟩,⟨eM,0,[.int .u8 0,.int .u8 0,.int .u8 0,.int .u8 0,.int .u8 0,.int .u8 0,.int .u8 0,.int .u8 0,.int .u8 0,.int .u8 0,.int .u8 0,.int .u8 0,.int .u8 0,.int .u8 0,.int .u8 0,.int .u8 0],true⟩]) rfl).pk (env':=[(2,.v (.bool false)),(7,.p 0 0),(9,.v (.bool (decide (v ≥ 0)))),(10,.p 1 0),(12,.v (.slice (some ⟨ab,0,none⟩) ((lst (T.at_ 0)).length) ah)),(13,.v (.int .i32 (((lst (T.at_ 0)).length : Nat) : Int))),(14,.v (.int .i32 ((ac : Nat) : Int))),(16,.p 3 0),(69,.v (.agg #[qad ((qah (aa.at_ 0).S).getD 0 0),qad ((qah (aa.at_ 0).S).getD 1 0),qad ((qah (aa.at_ 0).S).getD 2 0),qad ((qah (aa.at_ 0).S).getD 3 0),qad ((qah (aa.at_ 0).S).getD 4 0),qad ((qah (aa.at_ 0).S).getD 5 0),qad ((qah (aa.at_ 0).S).getD 6 0),qad ((qah (aa.at_ 0).S).getD 7 0),qad ((qah (aa.at_ 0).S).getD 8 0),qad ((qah (aa.at_ 0).S).getD 9 0),qad ((qah (aa.at_ 0).S).getD 10 0),qad ((qah (aa.at_ 0).S).getD 11 0),qad ((qah (aa.at_ 0).S).getD 12 0),qad ((qah (aa.at_ 0).S).getD 13 0),qad ((qah (aa.at_ 0).S).getD 14 0),qad ((qah (aa.at_ 0).S).getD 15 0)])),(17,.p 4 0)])
    clear d6
    refine qan (qeZ [⟨bv,0,[.int .i16 v,.slice none 0 0,.map none],true⟩,qbt ab 18 (.agg #[.int .u8 0,.int .u8 0,.int .u8 0,.int .u8 0,.int .u8 0,.int .u8 0,.int .u8 0,.int .u8 0,.int .u8 0,.int .u8 0,.int .u8 0,.int .u8 0,.int .u8 0,.int .u8 0,.int .u8 0,.int .u8 0,.slice none 0 0,.map none]) ((lst (T.at_ 0)).length) (ac + 1),⟨ab,ac * 18,[.int .u8 0,.int .u8 0,.int .u8 0,.int .u8 0,.int .u8 0,.int .u8 0,.int .u8 0,.int .u8 0,.int .u8 0,.int .u8 0,.int .u8 0,.int .u8 0,.int .u8 0,.int .u8 0,.int .u8 0,.int .u8 0,.slice none 0 0,.map none],true⟩,⟨eM,0,[qad ((qah (aa.at_ 0).S).getD 0 0),qad ((qah (aa.at_ 0).S).getD 1 0),qad ((qah (aa.at_ 0).S).getD 2 0),qad ((qah (aa.at_ 0).S).getD 3 0),qad ((qah (aa.at_ 0).S).getD 4 0),qad ((qah (aa.at_ 0).S).getD 5 0),qad ((qah (aa.at_ 0).S).getD 6 0),qad ((qah (aa.at_ 0).S).getD 7 0),qad ((qah (aa.at_ 0).S).getD 8 0),qad ((qah (aa.at_ 0).S).getD 9 0),qad ((qah (aa.at_ 0).S).getD 10 0),qad ((qah (aa.at_ 0).S).getD 11 0),qad ((qah (aa.at_ 0).S).getD 12 0),qad ((qah (aa.at_ 0).S).getD 13 0),qad ((qah (aa.at_ 0).S).getD 14 0),qad ((qah (aa.at_ 0).S).getD 15 0)],true⟩] 3 d7 fun _ d8=>?_)
    clear d7
    refine qaf ?_
    have d9:=d8.pk (env':=[(2,.v (.bool false)),(7,.p 0 0),(9,.v (.bool (decide (v ≥ 0)))),(10,.p 1 0),(12,.v (.slice (some ⟨ab,0,none⟩) ((lst (T.at_ 0)).length) ah)),(13,.v (.int .i32 (((lst (T.at_ 0)).length : Nat) : Int))),(14,.v (.int .i32 ((ac : Nat) : Int))),(16,.p 3 0),(17,.p 4 0)])
    clear d8
    refine qab ?_
    refine qfM [⟨bv,0,[.int .i16 v,.slice none 0 0,.map none],true⟩,qbt ab 18 (.agg #[.int .u8 0,.int .u8 0,.int .u8 0,.int .u8 0,.int .u8 0,.int .u8 0,.int .u8 0,.int .u8 0,.int .u8 0,.int .u8 0,.int .u8 0,.int .u8 0,.int .u8 0,.int .u8 0,.int .u8 0,.int .u8 0,.slice none 0 0,.map none]) ((lst (T.at_ 0)).length) (ac + 1),⟨ab,ac * 18,[qad ((qah (aa.at_ 0).S).getD 0 0),qad ((qah (aa.at_ 0).S).getD 1 0),qad ((qah (aa.at_ 0).S).getD 2 0),qad ((qah (aa.at_ 0).S).getD 3 0),qad ((qah (aa.at_ 0).S).getD 4 0),qad ((qah (aa.at_ 0).S).getD 5 0),qad ((qah (aa.at_ 0).S).getD 6 0),qad ((qah (aa.at_ 0).S).getD 7 0),qad ((qah (aa.at_ 0).S).getD 8 0),qad ((qah (aa.at_ 0).S).getD 9 0),qad ((qah (aa.at_ 0).S).getD 10 0),qad ((qah (aa.at_ 0).S).getD 11 0),qad ((qah (aa.at_ 0).S).getD 12 0),qad ((qah (aa.at_ 0).S).getD 13 0),qad ((qah (aa.at_ 0).S).getD 14 0),qad ((qah (aa.at_ 0).S).getD 15 0),.slice none 0 0,.map none],true⟩,⟨eM,0,[qad ((qah (aa.at_ 0).S).getD 0 0),qad ((qah (aa.at_ 0).S).getD 1 0),qad ((qah (aa.at_ 0).S).getD 2 0),qad ((qah (aa.at_ 0).S).getD 3 0),qad ((qah (aa.at_ 0).S).getD 4 0),qad ((qah (aa.at_ 0).S).getD 5 0),qad ((qah (aa.at_ 0).S).getD 6 0),qad ((qah (aa.at_ 0).S).getD 7 0),qad ((qah (aa.at_ 0).S).getD 8 0),qad ((qah (aa.at_ 0).S).getD 9 0),qad ((qah (aa.at_ 0).S).getD 10 0),qad ((qah (aa.at_ 0).S).getD 11 0),qad ((qah (aa.at_ 0).S).getD 12 0),qad ((qah (aa.at_ 0).S).getD 13 0),qad ((qah (aa.at_ 0).S).getD 14 0),qad ((qah (aa.at_ 0).S).getD 15 0)],true⟩] 2 [(2,.v (.bool false)),(7,.p 0 0),(9,.v (.bool (decide (v ≥ 0)))),(10,.p 1 0),(12,.v (.slice (some ⟨ab,0,none⟩) ((lst (T.at_ 0)).length) ah)),(13,.v (.int .i32 (((lst (T.at_ 0)).length : Nat) : Int))),(14,.v (.int .i32 ((ac : Nat) : Int))),(16,.p 3 0)] d9 fun _ _ ea=>?_
    clear d9
    have eb:=RS.dropT (tb:=[⟨bv,0,[.int .i16 v,.slice none 0 0,.map none],true⟩,qbt ab 18 (.agg #[.int .u8 0,.int .u8 0,.int .u8 0,.int .u8 0,.int .u8 0,.int .u8 0,.int .u8 0,.int .u8 0,.int .u8 0,.int .u8 0,.int .u8 0,.int .u8 0,.int .u8 0,.int .u8 0,.int .u8 0,.int .u8 0,.slice none 0 0,.map none]) ((lst (T.at_ 0)).length) (ac + 1),⟨ab,ac * 18,[qad ((qah (aa.at_ 0).S).getD 0 0),qad ((qah (aa.at_ 0).S).getD 1 0),qad ((qah (aa.at_ 0).S).getD 2 0),qad ((qah (aa.at_ 0).S).getD 3 0),qad ((qah (aa.at_ 0).S).getD 4 0),qad ((qah (aa.at_ 0).S).getD 5 0),qad ((qah (aa.at_ 0).S).getD 6 0),qad ((qah (aa.at_ 0).S).getD 7 0),qad ((qah (aa.at_ 0).S).getD 8 0),qad ((qah (aa.at_ 0).S).getD 9 0),qad ((qah (aa.at_ 0).S).getD 10 0),qad ((qah (aa.at_ 0).S).getD 11 0),qad ((qah (aa.at_ 0).S).getD 12 0),qad ((qah (aa.at_ 0).S).getD 13 0),qad ((qah (aa.at_ 0).S).getD 14 0),qad ((qah (aa.at_ 0).S).getD 15 0),.slice none 0 0,.map none],true⟩]) ea hb_b90 kz
    clear ea
    refine qab ?_
    refine wp_seq ?_
    refine wp_seq ?_
    refine qbZ [(2,.v (.bool false)),(7,.p 0 0),(9,.v (.bool (decide (v ≥ 0)))),(10,.p 1 0),(12,.v (.slice (some ⟨ab,0,none⟩) ((lst (T.at_ 0)).length) ah)),(13,.v (.int .i32 (((lst (T.at_ 0)).length : Nat) : Int))),(14,.v (.int .i32 ((ac : Nat) : Int))),(16,.p 3 0),(18,.v (.slice none 0 0))] eb fun _ ec=>?_
    clear eb
    refine qab ?_
    refine wp_seq ?_
    refine qbZ [(2,.v (.bool false)),(7,.p 0 0),(9,.v (.bool (decide (v ≥ 0)))),(10,.p 1 0),(12,.v (.slice (some ⟨ab,0,none⟩) ((lst (T.at_ 0)).length) ah)),(13,.v (.int .i32 (((lst (T.at_ 0)).length : Nat) : Int))),(14,.v (.int .i32 ((ac : Nat) : Int))),(16,.p 3 0),(19,.v (.slice none 0 0))] ec fun _ ee=>?_
    clear ec
    refine qab ?_
    refine wp_seq ?_
    refine qbZ [(2,.v (.bool false)),(7,.p 0 0),(9,.v (.bool (decide (v ≥ 0)))),(10,.p 1 0),(12,.v (.slice (some ⟨ab,0,none⟩) ((lst (T.at_ 0)).length) ah)),(13,.v (.int .i32 (((lst (T.at_ 0)).length : Nat) : Int))),(14,.v (.int .i32 ((ac : Nat) : Int))),(16,.p 3 0),(19,.v (.slice none 0 0))] ee fun _ ef=>?_
    clear ee
    refine qab ?_
    refine wp_seq ?_
    have bf:=ef.cast dQ
    clear ef
    have bg:=bf.cast (t:=(if (decide (v ≥ 0)) = true then (uv ((lst (aa.at_ 1)).length + 1)) else (be 4 (lst (aa.at_ 1)).length)) ++ (((lst (aa.at_ 1)).flatMap (qaD v)) ++ bd)) (by rw [List.append_assoc])
    clear bf
    refine qjr (d1:=80) (d2:=81) [(2,.v (.bool false)),(7,.p 0 0),(9,.v (.bool (decide (v ≥ 0)))),(10,.p 1 0),(12,.v (.slice (some ⟨ab,0,none⟩) ((lst (T.at_ 0)).length) ah)),(13,.v (.int .i32 (((lst (T.at_ 0)).length : Nat) : Int))),(14,.v (.int .i32 ((ac : Nat) : Int))),(16,.p 3 0),(19,.v (.slice none 0 0)),(79,.v (.bool (decide (v ≥ 0))))] [(2,.v (.bool false)),(7,.p 0 0),(9,.v (.bool (decide (v ≥ 0)))),(10,.p 1 0),(12,.v (.slice (some ⟨ab,0,none⟩) ((lst (T.at_ 0)).length) ah)),(13,.v (.int .i32 (((lst (T.at_ 0)).length : Nat) : Int))),(14,.v (.int .i32 ((ac : Nat) : Int))),(16,.p 3 0),(19,.v (.slice none 0 0)),(20,.v (.int .i32 (((lst (aa.at_ 1)).length : Nat) : Int)))] bg (qdr ((lst (aa.at_ 1)).length) e72_1 _ (flat_ge' (qbo v) _)) Tryz.call173 (qgR ((lst (aa.at_ 1)).length) e72_1 _ (flat_ge' (qbo v) _)) Tryz.call174 fun _ _ bh=>?_
    clear bg
    refine qab ?_
    refine wp_seq ?_
    refine wp_seq ?_
    refine qly (d:=82) [(2,.v (.bool false)),(7,.p 0 0),(9,.v (.bool (decide (v ≥ 0)))),(10,.p 1 0),(12,.v (.slice (some ⟨ab,0,none⟩) ((lst (T.at_ 0)).length) ah)),(13,.v (.int .i32 (((lst (T.at_ 0)).length : Nat) : Int))),(14,.v (.int .i32 ((ac : Nat) : Int))),(16,.p 3 0),(19,.v (.slice none 0 0)),(20,.v (.int .i32 (((lst (aa.at_ 1)).length : Nat) : Int))),(83,.v (.bool false))] bh (pOk _) Tryz.call175 fun _ _ aI=>?_
    clear bh
    refine qab ?_
    refine qar aI.env_ (b:=false) kz (rfl) ?_
    refine wp_skip ?_
    refine qab ?_
    refine wp_seq ?_
    refine qjw (t:=165) (e:=220) (size:=4) (bytes:=24) (d:=86) (A0:=none) (m:=0) (cp:=0) [(2,.v (.bool false)),(7,.p 0 0),(9,.v (.bool (decide (v ≥ 0)))),(10,.p 1 0),(12,.v (.slice (some ⟨ab,0,none⟩) ((lst (T.at_ 0)).length) ah)),(13,.v (.int .i32 (((lst (T.at_ 0)).length : Nat) : Int))),(14,.v (.int .i32 ((ac : Nat) : Int))),(16,.p 3 0),(20,.v (.int .i32 (((lst (aa.at_ 1)).length : Nat) : Int))),(85,.v (.slice none 0 0))] [(2,.v (.bool false)),(7,.p 0 0),(9,.v (.bool (decide (v ≥ 0)))),(10,.p 1 0),(12,.v (.slice (some ⟨ab,0,none⟩) ((lst (T.at_ 0)).length) ah)),(13,.v (.int .i32 (((lst (T.at_ 0)).length : Nat) : Int))),(14,.v (.int .i32 ((ac : Nat) : Int))),(16,.p 3 0),(19,.v (.slice none 0 0)),(20,.v (.int .i32 (((lst (aa.at_ 1)).length : Nat) : Int)))] 1 aI fun _ bi=>?_
    clear aI
    refine qab ?_
    refine qhH (Mid:=fun a_ w_=>∃ (aj : DV) (P' : qcu),(∀ w F,P' w F → eX w F ∧ (Slots w F 4 aj.A aj.c aj.l (fun i=>[.int .i32 (((aj.f i).f 0).n),.int .i16 (((aj.f i).f 1).n),.pointer (((aj.f i).f 2).A),.map ((aj.f i).m)]) ∧ aj.l ≤ 1000000 ∧ ∀ i,i < aj.l → qaG w F (aj.f i)) ∧ (aj.l = (lst (aa.at_ 1)).length ∧ ∀ i,i < aj.l → qaU v (aj.f i) ((lst (aa.at_ 1)).getD i .zero))) ∧ RS w (fun b o=>b = bv ∧ o < 3) F 150 aY [⟨bv,0,[.int .i16 v,.slice none 0 0,.map none],true⟩,qbt ab 18 (.agg #[.int .u8 0,.int .u8 0,.int .u8 0,.int .u8 0,.int .u8 0,.int .u8 0,.int .u8 0,.int .u8 0,.int .u8 0,.int .u8 0,.int .u8 0,.int .u8 0,.int .u8 0,.int .u8 0,.int .u8 0,.int .u8 0,.slice none 0 0,.map none]) ((lst (T.at_ 0)).length) (ac + 1),⟨ab,ac * 18,[qad ((qah (aa.at_ 0).S).getD 0 0),qad ((qah (aa.at_ 0).S).getD 1 0),qad ((qah (aa.at_ 0).S).getD 2 0),qad ((qah (aa.at_ 0).S).getD 3 0),qad ((qah (aa.at_ 0).S).getD 4 0),qad ((qah (aa.at_ 0).S).getD 5 0),qad ((qah (aa.at_ 0).S).getD 6 0),qad ((qah (aa.at_ 0).S).getD 7 0),qad ((qah (aa.at_ 0).S).getD 8 0),qad ((qah (aa.at_ 0).S).getD 9 0),qad ((qah (aa.at_ 0).S).getD 10 0),qad ((qah (aa.at_ 0).S).getD 11 0),qad ((qah (aa.at_ 0).S).getD 12 0),qad ((qah (aa.at_ 0).S).getD 13 0),qad ((qah (aa.at_ 0).S).getD 14 0),qad ((qah (aa.at_ 0).S).getD 15 0),.slice none 0 0,.map none],true⟩] [(2,.v (.bool false)),(7,.p 0 0),(9,.v (.bool (decide (v ≥ 0)))),(10,.p 1 0),(12,.v (.slice (some ⟨ab,0,none⟩) ((lst (T.at_ 0)).length) ah)),(13,.v (.int .i32 (((lst (T.at_ 0)).length : Nat) : Int))),(14,.v (.int .i32 ((ac : Nat) : Int))),(16,.p 3 0),(19,.v (.slice aj.A aj.l aj.c))] P' bd a_ w_) ?_ ?_
    ·
     refine wp_seq ?_
     refine qbZ [(2,.v (.bool false)),(7,.p 0 0),(9,.v (.bool (decide (v ≥ 0)))),(10,.p 1 0),(12,.v (.slice (some ⟨ab,0,none⟩) ((lst (T.at_ 0)).length) ah)),(13,.v (.int .i32 (((lst (T.at_ 0)).length : Nat) : Int))),(14,.v (.int .i32 ((ac : Nat) : Int))),(16,.p 3 0),(19,.v (.slice none 0 0)),(20,.v (.int .i32 (((lst (aa.at_ 1)).length : Nat) : Int))),(88,.v (.bool (decide ((((lst (aa.at_ 1)).length : Nat) : Int) > 0))))] bi fun _ ap=>qab ?_
     clear bi
     refine qax ap.env_ (b:=decide ((((lst (aa.at_ 1)).length : Nat) : Int) > 0)) kz (fun aE=>?_) (fun aE=>?_)
     ·
      have hn_g113 : 0 < (lst (aa.at_ 1)).length:=by have h_:=of_decide_eq_true aE; omega
      refine qas [0,1,2,3] kz ?_
      refine qdg [0,1] [2,3] [(2,.v (.bool false)),(7,.p 0 0),(9,.v (.bool (decide (v ≥ 0)))),(10,.p 1 0),(12,.v (.slice (some ⟨ab,0,none⟩) ((lst (T.at_ 0)).length) ah)),(13,.v (.int .i32 (((lst (T.at_ 0)).length : Nat) : Int))),(14,.v (.int .i32 ((ac : Nat) : Int))),(16,.p 3 0),(20,.v (.int .i32 (((lst (aa.at_ 1)).length : Nat) : Int))),(89,.v (.slice none 0 0)),(90,.v (.int .i32 (((lst (aa.at_ 1)).length : Nat) : Int)))] ap fun _ bj=>?_
      clear ap
      refine qan (qfN (d:=91) (t:=165) (tn:=21) (e:=220) (size:=4) (bytes:=24) (k:=.i32) (kn:=.i32) (q:=(((lst (aa.at_ 1)).length : Nat) : Int)) (j:=(lst (aa.at_ 1)).length) (.agg #[.int .i32 0,.int .i16 0,.pointer none,.map none]) bj (fun ae ai _ _ hg_g113 hcap_g113 bk=>?_) rfl hn_g113 (by have:=e72_1; omega))
      clear bj
      refine qdg [3] [] [(2,.v (.bool false)),(7,.p 0 0),(9,.v (.bool (decide (v ≥ 0)))),(10,.p 1 0),(12,.v (.slice (some ⟨ab,0,none⟩) ((lst (T.at_ 0)).length) ah)),(13,.v (.int .i32 (((lst (T.at_ 0)).length : Nat) : Int))),(14,.v (.int .i32 ((ac : Nat) : Int))),(16,.p 3 0),(19,.v (.slice (some ⟨ae,0,none⟩) ((lst (aa.at_ 1)).length) ai)),(20,.v (.int .i32 (((lst (aa.at_ 1)).length : Nat) : Int)))] bk fun _ bn=>qaf ?_
      clear bk
      refine qab ?_
      refine wp_seq ?_
      refine qbZ [(2,.v (.bool false)),(7,.p 0 0),(9,.v (.bool (decide (v ≥ 0)))),(10,.p 1 0),(12,.v (.slice (some ⟨ab,0,none⟩) ((lst (T.at_ 0)).length) ah)),(13,.v (.int .i32 (((lst (T.at_ 0)).length : Nat) : Int))),(14,.v (.int .i32 ((ac : Nat) : Int))),(16,.p 3 0),(19,.v (.slice (some ⟨ae,0,none⟩) ((lst (aa.at_ 1)).length) ai)),(20,.v (.int .i32 (((lst (aa.at_ 1)).length : Nat) : Int))),(21,.v (.int .i32 0))] bn fun _ aJ=>?_
      clear bn
      refine qab ?_
      refine wp_block ?_
      have aK:=aJ.mv
      have eg:=(aJ.cast (t:=(lst (aa.at_ 1)).flatMap (qaD v) ++ bd) rfl).pk (env':=[(2,.v (.bool false)),(7,.p 0 0),(9,.v (.bool (decide (v ≥ 0)))),(10,.p 1 0),(12,.v (.slice (some ⟨ab,0,none⟩) ((lst (T.at_ 0)).length) ah)),(13,.v (.int .i32 (((lst (T.at_ 0)).length : Nat) : Int))),(14,.v (.int .i32 ((ac : Nat) : Int))),(16,.p 3 0),(19,.v (.slice (some ⟨ae,0,none⟩) ((lst (aa.at_ 1)).length) ai)),(20,.v (.int .i32 (((lst (aa.at_ 1)).length : Nat) : Int))),(21,.v (.int .i32 ((0 : Nat) : Int)))])
      clear aJ
      refine qjs (tb:=[⟨bv,0,[.int .i16 v,.slice none 0 0,.map none],true⟩,qbt ab 18 (.agg #[.int .u8 0,.int .u8 0,.int .u8 0,.int .u8 0,.int .u8 0,.int .u8 0,.int .u8 0,.int .u8 0,.int .u8 0,.int .u8 0,.int .u8 0,.int .u8 0,.int .u8 0,.int .u8 0,.int .u8 0,.int .u8 0,.slice none 0 0,.map none]) ((lst (T.at_ 0)).length) (ac + 1),⟨ab,ac * 18,[qad ((qah (aa.at_ 0).S).getD 0 0),qad ((qah (aa.at_ 0).S).getD 1 0),qad ((qah (aa.at_ 0).S).getD 2 0),qad ((qah (aa.at_ 0).S).getD 3 0),qad ((qah (aa.at_ 0).S).getD 4 0),qad ((qah (aa.at_ 0).S).getD 5 0),qad ((qah (aa.at_ 0).S).getD 6 0),qad ((qah (aa.at_ 0).S).getD 7 0),qad ((qah (aa.at_ 0).S).getD 8 0),qad ((qah (aa.at_ 0).S).getD 9 0),qad ((qah (aa.at_ 0).S).getD 10 0),qad ((qah (aa.at_ 0).S).getD 11 0),qad ((qah (aa.at_ 0).S).getD 12 0),qad ((qah (aa.at_ 0).S).getD 13 0),qad ((qah (aa.at_ 0).S).getD 14 0),qad ((qah (aa.at_ 0).S).getD 15 0),.slice none 0 0,.map none],true⟩]) (z:=.agg #[.int .i32 0,.int .i16 0,.pointer none,.map none]) (cl:=qbq) (ok:=qaG) (rel:=(qaU v)) (L:=lst (aa.at_ 1)) (size:=4) (qaD v) bd (fun k=>[(2,.v (.bool false)),(7,.p 0 0),(9,.v (.bool (decide (v ≥ 0)))),(10,.p 1 0),(12,.v (.slice (some ⟨ab,0,none⟩) ((lst (T.at_ 0)).length) ah)),(13,.v (.int .i32 (((lst (T.at_ 0)).length : Nat) : Int))),(14,.v (.int .i32 ((ac : Nat) : Int))),(16,.p 3 0),(19,.v (.slice (some ⟨ae,0,none⟩) ((lst (aa.at_ 1)).length) ai)),(20,.v (.int .i32 (((lst (aa.at_ 1)).length : Nat) : Int))),(21,.v (.int .i32 ((k : Nat) : Int)))]) eg qaN (fun af ag _ _ aL eh bo=>?_) (fun _ _ bp=>?_)
      ·
       obtain ⟨eN,bq,bt⟩ : ∃ P',(∀ w F,P' w F → (eX w F ∧ qft ae 4 qbq qaG (qaU v) (lst (aa.at_ 1)) af w F)) ∧ RS w (fun b o=>b = bv ∧ o < 3) F 150 aY [⟨bv,0,[.int .i16 v,.slice none 0 0,.map none],true⟩,qbt ab 18 (.agg #[.int .u8 0,.int .u8 0,.int .u8 0,.int .u8 0,.int .u8 0,.int .u8 0,.int .u8 0,.int .u8 0,.int .u8 0,.int .u8 0,.int .u8 0,.int .u8 0,.int .u8 0,.int .u8 0,.int .u8 0,.int .u8 0,.slice none 0 0,.map none]) ((lst (T.at_ 0)).length) (ac + 1),⟨ab,ac * 18,[qad ((qah (aa.at_ 0).S).getD 0 0),qad ((qah (aa.at_ 0).S).getD 1 0),qad ((qah (aa.at_ 0).S).getD 2 0),qad ((qah (aa.at_ 0).S).getD 3 0),qad ((qah (aa.at_ 0).S).getD 4 0),qad ((qah (aa.at_ 0).S).getD 5 0),qad ((qah (aa.at_ 0).S).getD 6 0),qad ((qah (aa.at_ 0).S).getD 7 0),qad ((qah (aa.at_ 0).S).getD 8 0),qad ((qah (aa.at_ 0).S).getD 9 0),qad ((qah (aa.at_ 0).S).getD 10 0),qad ((qah (aa.at_ 0).S).getD 11 0),qad ((qah (aa.at_ 0).S).getD 12 0),qad ((qah (aa.at_ 0).S).getD 13 0),qad ((qah (aa.at_ 0).S).getD 14 0),qad ((qah (aa.at_ 0).S).getD 15 0),.slice none 0 0,.map none],true⟩,qbt ae 4 (.agg #[.int .i32 0,.int .i16 0,.pointer none,.map none]) ((lst (aa.at_ 1)).length) af] [(2,.v (.bool false)),(7,.p 0 0),(9,.v (.bool (decide (v ≥ 0)))),(10,.p 1 0),(12,.v (.slice (some ⟨ab,0,none⟩) ((lst (T.at_ 0)).length) ah)),(13,.v (.int .i32 (((lst (T.at_ 0)).length : Nat) : Int))),(14,.v (.int .i32 ((ac : Nat) : Int))),(16,.p 3 0),(19,.v (.slice (some ⟨ae,0,none⟩) ((lst (aa.at_ 1)).length) ai)),(20,.v (.int .i32 (((lst (aa.at_ 1)).length : Nat) : Int))),(21,.v (.int .i32 ((af : Nat) : Int)))] P' ((qaD v) ag ++ (((lst (aa.at_ 1)).drop (af + 1)).flatMap (qaD v) ++ bd)) _ _:=⟨_,fun _ _ h=>h,bo⟩
       clear bo
       obtain ⟨aM,bu⟩ : ∃ R,R = ((lst (aa.at_ 1)).drop (af + 1)).flatMap (qaD v) ++ bd:=⟨_,rfl⟩
       have ei:=(e72_1e ag (List.mem_of_getElem? aL))
       have e132r:=(qfK (qfk e72r 1) ag (List.mem_of_getElem? aL))
       unfold qa5 at ei
       obtain ⟨e132_0,e132_1,e132_2,e132_U,_⟩:=ei
       obtain ⟨aS,bw⟩ : ∃ R,R = (if (decide (v ≥ 0)) = true then (uv ag.U.length) ++ (qcA ag.U) else []) ++ aM:=⟨_,rfl⟩
       obtain ⟨eO,bx⟩ : ∃ R,R = (if (decide (v ≥ 0)) = true then (if (ag.at_ 2).null = true then uv 0 else uv ((qb7 (ag.at_ 2)).length + 1) ++ (qb7 (ag.at_ 2))) else (if (ag.at_ 2).null = true then be 2 (-1) else be 2 (qb7 (ag.at_ 2)).length ++ (qb7 (ag.at_ 2)))) ++ aS:=⟨_,rfl⟩
       obtain ⟨eP,bz⟩ : ∃ R,R = (be 2 ((IntKind.i16.wrap (ag.at_ 1).N))) ++ eO:=⟨_,rfl⟩
       obtain ⟨eQ,bA⟩ : ∃ R,R = (be 4 ((IntKind.i32.wrap (ag.at_ 0).N))) ++ eP:=⟨_,rfl⟩
       have bB:=bt.cast (t:=eQ) (by rw [bA,bz,bx,bw,← bu]; unfold qaD; simp only [List.append_assoc])
       clear bt
       refine wp_seq ?_
       refine wp_seq ?_
       refine qbZ [(2,.v (.bool false)),(7,.p 0 0),(9,.v (.bool (decide (v ≥ 0)))),(10,.p 1 0),(12,.v (.slice (some ⟨ab,0,none⟩) ((lst (T.at_ 0)).length) ah)),(13,.v (.int .i32 (((lst (T.at_ 0)).length : Nat) : Int))),(14,.v (.int .i32 ((ac : Nat) : Int))),(16,.p 3 0),(19,.v (.slice (some ⟨ae,0,none⟩) ((lst (aa.at_ 1)).length) ai)),(20,.v (.int .i32 (((lst (aa.at_ 1)).length : Nat) : Int))),(21,.v (.int .i32 ((af : Nat) : Int))),(94,.v (.bool (decide (((af : Nat) : Int) < (((lst (aa.at_ 1)).length : Nat) : Int)))))] bB fun _ aN=>qab ?_
       clear bB
       refine qa8 aN.env_ (b:=decide (((af : Nat) : Int) < (((lst (aa.at_ 1)).length : Nat) : Int))) kz (decide_eq_true (by omega)) ?_
       refine wp_skip ?_
       refine qab ?_
       refine wp_seq ?_
       refine wp_block ?_
       refine wp_seq ?_
       refine qjx (t:=165) (e:=220) (size:=4) (bytes:=24) (d:=99) (tb:=[⟨bv,0,[.int .i16 v,.slice none 0 0,.map none],true⟩,qbt ab 18 (.agg #[.int .u8 0,.int .u8 0,.int .u8 0,.int .u8 0,.int .u8 0,.int .u8 0,.int .u8 0,.int .u8 0,.int .u8 0,.int .u8 0,.int .u8 0,.int .u8 0,.int .u8 0,.int .u8 0,.int .u8 0,.int .u8 0,.slice none 0 0,.map none]) ((lst (T.at_ 0)).length) (ac + 1),⟨ab,ac * 18,[qad ((qah (aa.at_ 0).S).getD 0 0),qad ((qah (aa.at_ 0).S).getD 1 0),qad ((qah (aa.at_ 0).S).getD 2 0),qad ((qah (aa.at_ 0).S).getD 3 0),qad ((qah (aa.at_ 0).S).getD 4 0),qad ((qah (aa.at_ 0).S).getD 5 0),qad ((qah (aa.at_ 0).S).getD 6 0),qad ((qah (aa.at_ 0).S).getD 7 0),qad ((qah (aa.at_ 0).S).getD 8 0),qad ((qah (aa.at_ 0).S).getD 9 0),qad ((qah (aa.at_ 0).S).getD 10 0),qad ((qah (aa.at_ 0).S).getD 11 0),qad ((qah (aa.at_ 0).S).getD 12 0),qad ((qah (aa.at_ 0).S).getD 13 0),qad ((qah (aa.at_ 0).S).getD 14 0),qad ((qah (aa.at_ 0).S).getD 15 0),.slice none 0 0,.map none],true⟩]) (z:=.agg #[.int .i32 0,.int .i16 0,.pointer none,.map none]) [(2,.v (.bool false)),(7,.p 0 0),(9,.v (.bool (decide (v ≥ 0)))),(10,.p 1 0),(12,.v (.slice (some ⟨ab,0,none⟩) ((lst (T.at_ 0)).length) ah)),(13,.v (.int .i32 (((lst (T.at_ 0)).length : Nat) : Int))),(14,.v (.int .i32 ((ac : Nat) : Int))),(16,.p 3 0),(19,.v (.slice (some ⟨ae,0,none⟩) ((lst (aa.at_ 1)).length) ai)),(20,.v (.int .i32 (((lst (aa.at_ 1)).length : Nat) : Int))),(21,.v (.int .i32 ((af : Nat) : Int))),(97,.v (.slice (some ⟨ae,0,none⟩) ((lst (aa.at_ 1)).length) ai)),(98,.v (.int .i32 ((af : Nat) : Int)))] [(2,.v (.bool false)),(7,.p 0 0),(9,.v (.bool (decide (v ≥ 0)))),(10,.p 1 0),(12,.v (.slice (some ⟨ab,0,none⟩) ((lst (T.at_ 0)).length) ah)),(13,.v (.int .i32 (((lst (T.at_ 0)).length : Nat) : Int))),(14,.v (.int .i32 ((ac : Nat) : Int))),(16,.p 3 0),(19,.v (.slice (some ⟨ae,0,none⟩) ((lst (aa.at_ 1)).length) ai)),(20,.v (.int .i32 (((lst (aa.at_ 1)).length : Nat) : Int))),(21,.v (.int .i32 ((af : Nat) : Int))),(22,.p 5 0)] 2 aN eh rfl kz fun _ bC=>?_
       clear aN
       have bD:=bC.tbEq (tb':=[⟨bv,0,[.int .i16 v,.slice none 0 0,.map none],true⟩,qbt ab 18 (.agg #[.int .u8 0,.int .u8 0,.int .u8 0,.int .u8 0,.int .u8 0,.int .u8 0,.int .u8 0,.int .u8 0,.int .u8 0,.int .u8 0,.int .u8 0,.int .u8 0,.int .u8 0,.int .u8 0,.int .u8 0,.int .u8 0,.slice none 0 0,.map none]) ((lst (T.at_ 0)).length) (ac + 1),⟨ab,ac * 18,[qad ((qah (aa.at_ 0).S).getD 0 0),qad ((qah (aa.at_ 0).S).getD 1 0),qad ((qah (aa.at_ 0).S).getD 2 0),qad ((qah (aa.at_ 0).S).getD 3 0),qad ((qah (aa.at_ 0).S).getD 4 0),qad ((qah (aa.at_ 0).S).getD 5 0),qad ((qah (aa.at_ 0).S).getD 6 0),qad ((qah (aa.at_ 0).S).getD 7 0),qad ((qah (aa.at_ 0).S).getD 8 0),qad ((qah (aa.at_ 0).S).getD 9 0),qad ((qah (aa.at_ 0).S).getD 10 0),qad ((qah (aa.at_ 0).S).getD 11 0),qad ((qah (aa.at_ 0).S).getD 12 0),qad ((qah (aa.at_ 0).S).getD 13 0),qad ((qah (aa.at_ 0).S).getD 14 0),qad ((qah (aa.at_ 0).S).getD 15 0),.slice none 0 0,.map none],true⟩,qbt ae 4 (.agg #[.int .i32 0,.int .i16 0,.pointer none,.map none]) ((lst (aa.at_ 1)).length) (af + 1),⟨ae,af * 4,[.int .i32 0,.int .i16 0,.pointer none,.map none],true⟩]) rfl
       clear bC
       refine qab ?_
       refine wp_seq ?_
       refine qas [0,1] kz ?_
       refine qdg [0] [1] [(2,.v (.bool false)),(7,.p 0 0),(9,.v (.bool (decide (v ≥ 0)))),(10,.p 1 0),(12,.v (.slice (some ⟨ab,0,none⟩) ((lst (T.at_ 0)).length) ah)),(13,.v (.int .i32 (((lst (T.at_ 0)).length : Nat) : Int))),(14,.v (.int .i32 ((ac : Nat) : Int))),(16,.p 3 0),(19,.v (.slice (some ⟨ae,0,none⟩) ((lst (aa.at_ 1)).length) ai)),(20,.v (.int .i32 (((lst (aa.at_ 1)).length : Nat) : Int))),(21,.v (.int .i32 ((af : Nat) : Int))),(22,.p 5 0),(100,.p 5 0)] bD fun _ bE=>?_
       clear bD
       refine qan (qkx (d:=101) (vs:=[.pointer (some ⟨ae,af * 4,none⟩)]) bE (fun _=>qlF _ _ _) Tryz.call209 fun _ bF=>?_)
       clear bE
       refine qaf ?_
       have bG:=bF.pk (env':=[(2,.v (.bool false)),(7,.p 0 0),(9,.v (.bool (decide (v ≥ 0)))),(10,.p 1 0),(12,.v (.slice (some ⟨ab,0,none⟩) ((lst (T.at_ 0)).length) ah)),(13,.v (.int .i32 (((lst (T.at_ 0)).length : Nat) : Int))),(14,.v (.int .i32 ((ac : Nat) : Int))),(16,.p 3 0),(19,.v (.slice (some ⟨ae,0,none⟩) ((lst (aa.at_ 1)).length) ai)),(20,.v (.int .i32 (((lst (aa.at_ 1)).length : Nat) : Int))),(21,.v (.int .i32 ((af : Nat) : Int))),(22,.p 5 0)])
       clear bF
       refine qab ?_
       refine wp_seq ?_
       refine qbZ [(2,.v (.bool false)),(7,.p 0 0),(9,.v (.bool (decide (v ≥ 0)))),(10,.p 1 0),(12,.v (.slice (some ⟨ab,0,none⟩) ((lst (T.at_ 0)).length) ah)),(13,.v (.int .i32 (((lst (T.at_ 0)).length : Nat) : Int))),(14,.v (.int .i32 ((ac : Nat) : Int))),(16,.p 3 0),(19,.v (.slice (some ⟨ae,0,none⟩) ((lst (aa.at_ 1)).length) ai)),(20,.v (.int .i32 (((lst (aa.at_ 1)).length : Nat) : Int))),(21,.v (.int .i32 ((af : Nat) : Int))),(23,.p 5 0)] bG fun _ bH=>?_
       clear bG
       refine qab ?_
       refine wp_seq ?_
       refine wp_seq ?_
       have bI:=bH.cast bA
       clear bH
       refine qgQ (d:=103) [(2,.v (.bool false)),(7,.p 0 0),(9,.v (.bool (decide (v ≥ 0)))),(10,.p 1 0),(12,.v (.slice (some ⟨ab,0,none⟩) ((lst (T.at_ 0)).length) ah)),(13,.v (.int .i32 (((lst (T.at_ 0)).length : Nat) : Int))),(14,.v (.int .i32 ((ac : Nat) : Int))),(16,.p 3 0),(19,.v (.slice (some ⟨ae,0,none⟩) ((lst (aa.at_ 1)).length) ai)),(20,.v (.int .i32 (((lst (aa.at_ 1)).length : Nat) : Int))),(21,.v (.int .i32 ((af : Nat) : Int))),(23,.p 5 0),(24,.v (.int .i32 (IntKind.i32.wrap (ag.at_ 0).N)))] bI (qlA _ _) Tryz.call195 fun _ _ bJ=>?_
       clear bI
       refine qab ?_
       refine qfM [⟨bv,0,[.int .i16 v,.slice none 0 0,.map none],true⟩,qbt ab 18 (.agg #[.int .u8 0,.int .u8 0,.int .u8 0,.int .u8 0,.int .u8 0,.int .u8 0,.int .u8 0,.int .u8 0,.int .u8 0,.int .u8 0,.int .u8 0,.int .u8 0,.int .u8 0,.int .u8 0,.int .u8 0,.int .u8 0,.slice none 0 0,.map none]) ((lst (T.at_ 0)).length) (ac + 1),⟨ab,ac * 18,[qad ((qah (aa.at_ 0).S).getD 0 0),qad ((qah (aa.at_ 0).S).getD 1 0),qad ((qah (aa.at_ 0).S).getD 2 0),qad ((qah (aa.at_ 0).S).getD 3 0),qad ((qah (aa.at_ 0).S).getD 4 0),qad ((qah (aa.at_ 0).S).getD 5 0),qad ((qah (aa.at_ 0).S).getD 6 0),qad ((qah (aa.at_ 0).S).getD 7 0),qad ((qah (aa.at_ 0).S).getD 8 0),qad ((qah (aa.at_ 0).S).getD 9 0),qad ((qah (aa.at_ 0).S).getD 10 0),qad ((qah (aa.at_ 0).S).getD 11 0),qad ((qah (aa.at_ 0).S).getD 12 0),qad ((qah (aa.at_ 0).S).getD 13 0),qad ((qah (aa.at_ 0).S).getD 14 0),qad ((qah (aa.at_ 0).S).getD 15 0),.slice none 0 0,.map none],true⟩,qbt ae 4 (.agg #[.int .i32 0,.int .i16 0,.pointer none,.map none]) ((lst (aa.at_ 1)).length) (af + 1),⟨ae,af * 4,[.int .i32 (IntKind.i32.wrap (ag.at_ 0).N),.int .i16 0,.pointer none,.map none],true⟩] 4 [(2,.v (.bool false)),(7,.p 0 0),(9,.v (.bool (decide (v ≥ 0)))),(10,.p 1 0),(12,.v (.slice (some ⟨ab,0,none⟩) ((lst (T.at_ 0)).length) ah)),(13,.v (.int .i32 (((lst (T.at_ 0)).length : Nat) : Int))),(14,.v (.int .i32 ((ac : Nat) : Int))),(16,.p 3 0),(19,.v (.slice (some ⟨ae,0,none⟩) ((lst (aa.at_ 1)).length) ai)),(20,.v (.int .i32 (((lst (aa.at_ 1)).length : Nat) : Int))),(21,.v (.int .i32 ((af : Nat) : Int))),(23,.p 5 0)] bJ fun _ _ bK=>?_
       clear bJ
       refine qab ?_
       refine wp_seq ?_
       refine wp_seq ?_
       have bL:=bK.cast bz
       clear bK
       refine qgQ (d:=108) [(2,.v (.bool false)),(7,.p 0 0),(9,.v (.bool (decide (v ≥ 0)))),(10,.p 1 0),(12,.v (.slice (some ⟨ab,0,none⟩) ((lst (T.at_ 0)).length) ah)),(13,.v (.int .i32 (((lst (T.at_ 0)).length : Nat) : Int))),(14,.v (.int .i32 ((ac : Nat) : Int))),(16,.p 3 0),(19,.v (.slice (some ⟨ae,0,none⟩) ((lst (aa.at_ 1)).length) ai)),(20,.v (.int .i32 (((lst (aa.at_ 1)).length : Nat) : Int))),(21,.v (.int .i32 ((af : Nat) : Int))),(23,.p 5 0),(25,.v (.int .i16 (IntKind.i16.wrap (ag.at_ 1).N)))] bL (qlz _ _) Tryz.call197 fun _ _ bM=>?_
       clear bL
       refine qab ?_
       refine qfM [⟨bv,0,[.int .i16 v,.slice none 0 0,.map none],true⟩,qbt ab 18 (.agg #[.int .u8 0,.int .u8 0,.int .u8 0,.int .u8 0,.int .u8 0,.int .u8 0,.int .u8 0,.int .u8 0,.int .u8 0,.int .u8 0,.int .u8 0,.int .u8 0,.int .u8 0,.int .u8 0,.int .u8 0,.int .u8 0,.slice none 0 0,.map none]) ((lst (T.at_ 0)).length) (ac + 1),⟨ab,ac * 18,[qad ((qah (aa.at_ 0).S).getD 0 0),qad ((qah (aa.at_ 0).S).getD 1 0),qad ((qah (aa.at_ 0).S).getD 2 0),qad ((qah (aa.at_ 0).S).getD 3 0),qad ((qah (aa.at_ 0).S).getD 4 0),qad ((qah (aa.at_ 0).S).getD 5 0),qad ((qah (aa.at_ 0).S).getD 6 0),qad ((qah (aa.at_ 0).S).getD 7 0),qad ((qah (aa.at_ 0).S).getD 8 0),qad ((qah (aa.at_ 0).S).getD 9 0),qad ((qah (aa.at_ 0).S).getD 10 0),qad ((qah (aa.at_ 0).S).getD 11 0),qad ((qah (aa.at_ 0).S).getD 12 0),qad ((qah (aa.at_ 0).S).getD 13 0),qad ((qah (aa.at_ 0).S).getD 14 0),qad ((qah (aa.at_ 0).S).getD 15 0),.slice none 0 0,.map none],true⟩,qbt ae 4 (.agg #[.int .i32 0,.int .i16 0,.pointer none,.map none]) ((lst (aa.at_ 1)).length) (af + 1),⟨ae,af * 4,[.int .i32 (IntKind.i32.wrap (ag.at_ 0).N),.int .i16 (IntKind.i16.wrap (ag.at_ 1).N),.pointer none,.map none],true⟩] 4 [(2,.v (.bool false)),(7,.p 0 0),(9,.v (.bool (decide (v ≥ 0)))),(10,.p 1 0),(12,.v (.slice (some ⟨ab,0,none⟩) ((lst (T.at_ 0)).length) ah)),(13,.v (.int .i32 (((lst (T.at_ 0)).length : Nat) : Int))),(14,.v (.int .i32 ((ac : Nat) : Int))),(16,.p 3 0),(19,.v (.slice (some ⟨ae,0,none⟩) ((lst (aa.at_ 1)).length) ai)),(20,.v (.int .i32 (((lst (aa.at_ 1)).length : Nat) : Int))),(21,.v (.int .i32 ((af : Nat) : Int))),(23,.p 5 0)] bM fun _ _ bN=>?_
       clear bM
       refine qab ?_
       refine wp_seq ?_
       refine wp_seq ?_
       refine qbZ [(2,.v (.bool false)),(7,.p 0 0),(9,.v (.bool (decide (v ≥ 0)))),(10,.p 1 0),(12,.v (.slice (some ⟨ab,0,none⟩) ((lst (T.at_ 0)).length) ah)),(13,.v (.int .i32 (((lst (T.at_ 0)).length : Nat) : Int))),(14,.v (.int .i32 ((ac : Nat) : Int))),(16,.p 3 0),(19,.v (.slice (some ⟨ae,0,none⟩) ((lst (aa.at_ 1)).length) ai)),(20,.v (.int .i32 (((lst (aa.at_ 1)).length : Nat) : Int))),(21,.v (.int .i32 ((af : Nat) : Int))),(23,.p 5 0)] bN fun _ bO=>?_
       clear bN
       refine qab ?_
       refine wp_seq ?_
       have bP:=bO.cast bx
       clear bO
       refine qe1 (Mid:=fun a_ w_=>∃ (ar : Option Addr) (P' : qcu),(∀ w F,P' w F → eN w F ∧ qj7 ar (qb7 (ag.at_ 2)) w F ∧ ar.isNone = (ag.at_ 2).null) ∧ RS w (fun b o=>b = bv ∧ o < 3) F 150 aY [⟨bv,0,[.int .i16 v,.slice none 0 0,.map none],true⟩,qbt ab 18 (.agg #[.int .u8 0,.int .u8 0,.int .u8 0,.int .u8 0,.int .u8 0,.int .u8 0,.int .u8 0,.int .u8 0,.int .u8 0,.int .u8 0,.int .u8 0,.int .u8 0,.int .u8 0,.int .u8 0,.int .u8 0,.int .u8 0,.slice none 0 0,.map none]) ((lst (T.at_ 0)).length) (ac + 1),⟨ab,ac * 18,[qad ((qah (aa.at_ 0).S).getD 0 0),qad ((qah (aa.at_ 0).S).getD 1 0),qad ((qah (aa.at_ 0).S).getD 2 0),qad ((qah (aa.at_ 0).S).getD 3 0),qad ((qah (aa.at_ 0).S).getD 4 0),qad ((qah (aa.at_ 0).S).getD 5 0),qad ((qah (aa.at_ 0).S).getD 6 0),qad ((qah (aa.at_ 0).S).getD 7 0),qad ((qah (aa.at_ 0).S).getD 8 0),qad ((qah (aa.at_ 0).S).getD 9 0),qad ((qah (aa.at_ 0).S).getD 10 0),qad ((qah (aa.at_ 0).S).getD 11 0),qad ((qah (aa.at_ 0).S).getD 12 0),qad ((qah (aa.at_ 0).S).getD 13 0),qad ((qah (aa.at_ 0).S).getD 14 0),qad ((qah (aa.at_ 0).S).getD 15 0),.slice none 0 0,.map none],true⟩,qbt ae 4 (.agg #[.int .i32 0,.int .i16 0,.pointer none,.map none]) ((lst (aa.at_ 1)).length) (af + 1),⟨ae,af * 4,[.int .i32 (IntKind.i32.wrap (ag.at_ 0).N),.int .i16 (IntKind.i16.wrap (ag.at_ 1).N),.pointer none,.map none],true⟩] [(2,.v (.bool false)),(7,.p 0 0),(9,.v (.bool (decide (v ≥ 0)))),(10,.p 1 0),(12,.v (.slice (some ⟨ab,0,none⟩) ((lst (T.at_ 0)).length) ah)),(13,.v (.int .i32 (((lst (T.at_ 0)).length : Nat) : Int))),(14,.v (.int .i32 ((ac : Nat) : Int))),(16,.p 3 0),(19,.v (.slice (some ⟨ae,0,none⟩) ((lst (aa.at_ 1)).length) ai)),(20,.v (.int .i32 (((lst (aa.at_ 1)).length : Nat) : Int))),(21,.v (.int .i32 ((af : Nat) : Int))),(23,.p 5 0),(26,.v (.pointer ar))] P' aS a_ w_) ?_ ?_
       ·
        refine wp_seq ?_
        refine qbZ [(2,.v (.bool false)),(7,.p 0 0),(9,.v (.bool (decide (v ≥ 0)))),(10,.p 1 0),(12,.v (.slice (some ⟨ab,0,none⟩) ((lst (T.at_ 0)).length) ah)),(13,.v (.int .i32 (((lst (T.at_ 0)).length : Nat) : Int))),(14,.v (.int .i32 ((ac : Nat) : Int))),(16,.p 3 0),(19,.v (.slice (some ⟨ae,0,none⟩) ((lst (aa.at_ 1)).length) ai)),(20,.v (.int .i32 (((lst (aa.at_ 1)).length : Nat) : Int))),(21,.v (.int .i32 ((af : Nat) : Int))),(23,.p 5 0),(113,.v (.bool (decide (v ≥ 0))))] bP fun _ au=>qab ?_
        clear bP
        refine qax au.env_ (b:=decide (v ≥ 0)) kz (fun aO=>?_) (fun aO=>?_)
        ·
         have bQ:=au.cast (t:=(if (ag.at_ 2).null = true then uv 0 else uv ((qb7 (ag.at_ 2)).length + 1) ++ (qb7 (ag.at_ 2))) ++ aS) (by rw [if_pos aO])
         clear au
         refine wp_seq ?_
         refine qbZ [(2,.v (.bool false)),(7,.p 0 0),(9,.v (.bool (decide (v ≥ 0)))),(10,.p 1 0),(12,.v (.slice (some ⟨ab,0,none⟩) ((lst (T.at_ 0)).length) ah)),(13,.v (.int .i32 (((lst (T.at_ 0)).length : Nat) : Int))),(14,.v (.int .i32 ((ac : Nat) : Int))),(16,.p 3 0),(19,.v (.slice (some ⟨ae,0,none⟩) ((lst (aa.at_ 1)).length) ai)),(20,.v (.int .i32 (((lst (aa.at_ 1)).length : Nat) : Int))),(21,.v (.int .i32 ((af : Nat) : Int))),(23,.p 5 0),(114,.v (.bool false))] bQ fun _ aP=>qab ?_
         clear bQ
         refine qar aP.env_ (b:=false) kz (rfl) ?_
         refine qlv (d:=116) (fun aT=>[(2,.v (.bool false)),(7,.p 0 0),(9,.v (.bool (decide (v ≥ 0)))),(10,.p 1 0),(12,.v (.slice (some ⟨ab,0,none⟩) ((lst (T.at_ 0)).length) ah)),(13,.v (.int .i32 (((lst (T.at_ 0)).length : Nat) : Int))),(14,.v (.int .i32 ((ac : Nat) : Int))),(16,.p 3 0),(19,.v (.slice (some ⟨ae,0,none⟩) ((lst (aa.at_ 1)).length) ai)),(20,.v (.int .i32 (((lst (aa.at_ 1)).length : Nat) : Int))),(21,.v (.int .i32 ((af : Nat) : Int))),(23,.p 5 0),(26,.v (.pointer aT))]) aP (qdt (ag.at_ 2).null (qb7 (ag.at_ 2)) e132_2 _) (fun _=>(MvF.text _ _).and (MvF.is _)) Tryz.call192 fun aT fh _ _ bR ej=>?_
         clear aP
         refine qab ?_
         exact ⟨aT,_,fun w F h_=>⟨(bR _ _ h_).1,(bR _ _ h_).2⟩,ej.pk (env':=[(2,.v (.bool false)),(7,.p 0 0),(9,.v (.bool (decide (v ≥ 0)))),(10,.p 1 0),(12,.v (.slice (some ⟨ab,0,none⟩) ((lst (T.at_ 0)).length) ah)),(13,.v (.int .i32 (((lst (T.at_ 0)).length : Nat) : Int))),(14,.v (.int .i32 ((ac : Nat) : Int))),(16,.p 3 0),(19,.v (.slice (some ⟨ae,0,none⟩) ((lst (aa.at_ 1)).length) ai)),(20,.v (.int .i32 (((lst (aa.at_ 1)).length : Nat) : Int))),(21,.v (.int .i32 ((af : Nat) : Int))),(23,.p 5 0),(26,.v (.pointer aT))])⟩
        have bS:=au.cast (t:=(if (ag.at_ 2).null = true then be 2 (-1) else be 2 (qb7 (ag.at_ 2)).length ++ (qb7 (ag.at_ 2))) ++ aS) (by rw [if_neg (by rw [aO]; decide)])
        clear au
        refine wp_seq ?_
        refine qbZ [(2,.v (.bool false)),(7,.p 0 0),(9,.v (.bool (decide (v ≥ 0)))),(10,.p 1 0),(12,.v (.slice (some ⟨ab,0,none⟩) ((lst (T.at_ 0)).length) ah)),(13,.v (.int .i32 (((lst (T.at_ 0)).length : Nat) : Int))),(14,.v (.int .i32 ((ac : Nat) : Int))),(16,.p 3 0),(19,.v (.slice (some ⟨ae,0,none⟩) ((lst (aa.at_ 1)).length) ai)),(20,.v (.int .i32 (((lst (aa.at_ 1)).length : Nat) : Int))),(21,.v (.int .i32 ((af : Nat) : Int))),(23,.p 5 0),(117,.v (.bool false))] bS fun _ aQ=>qab ?_
        clear bS
        refine qar aQ.env_ (b:=false) kz (rfl) ?_
        refine qlv (d:=119) (fun aU=>[(2,.v (.bool false)),(7,.p 0 0),(9,.v (.bool (decide (v ≥ 0)))),(10,.p 1 0),(12,.v (.slice (some ⟨ab,0,none⟩) ((lst (T.at_ 0)).length) ah)),(13,.v (.int .i32 (((lst (T.at_ 0)).length : Nat) : Int))),(14,.v (.int .i32 ((ac : Nat) : Int))),(16,.p 3 0),(19,.v (.slice (some ⟨ae,0,none⟩) ((lst (aa.at_ 1)).length) ai)),(20,.v (.int .i32 (((lst (aa.at_ 1)).length : Nat) : Int))),(21,.v (.int .i32 ((af : Nat) : Int))),(23,.p 5 0),(26,.v (.pointer aU))]) aQ (qfn (ag.at_ 2).null (qb7 (ag.at_ 2)) e132_2 _) (fun _=>(MvF.text _ _).and (MvF.is _)) Tryz.call194 fun aU fi _ _ bT ek=>?_
        clear aQ
        refine qab ?_
        exact ⟨aU,_,fun w F h_=>⟨(bT _ _ h_).1,(bT _ _ h_).2⟩,ek.pk (env':=[(2,.v (.bool false)),(7,.p 0 0),(9,.v (.bool (decide (v ≥ 0)))),(10,.p 1 0),(12,.v (.slice (some ⟨ab,0,none⟩) ((lst (T.at_ 0)).length) ah)),(13,.v (.int .i32 (((lst (T.at_ 0)).length : Nat) : Int))),(14,.v (.int .i32 ((ac : Nat) : Int))),(16,.p 3 0),(19,.v (.slice (some ⟨ae,0,none⟩) ((lst (aa.at_ 1)).length) ai)),(20,.v (.int .i32 (((lst (aa.at_ 1)).length : Nat) : Int))),(21,.v (.int .i32 ((af : Nat) : Int))),(23,.p 5 0),(26,.v (.pointer aU))])⟩
       rintro _ _ ⟨ar,eR,aF,bU⟩
       refine qab ?_
       refine qfM [⟨bv,0,[.int .i16 v,.slice none 0 0,.map none],true⟩,qbt ab 18 (.agg #[.int .u8 0,.int .u8 0,.int .u8 0,.int .u8 0,.int .u8 0,.int .u8 0,.int .u8 0,.int .u8 0,.int .u8 0,.int .u8 0,.int .u8 0,.int .u8 0,.int .u8 0,.int .u8 0,.int .u8 0,.int .u8 0,.slice none 0 0,.map none]) ((lst (T.at_ 0)).length) (ac + 1),⟨ab,ac * 18,[qad ((qah (aa.at_ 0).S).getD 0 0),qad ((qah (aa.at_ 0).S).getD 1 0),qad ((qah (aa.at_ 0).S).getD 2 0),qad ((qah (aa.at_ 0).S).getD 3 0),qad ((qah (aa.at_ 0).S).getD 4 0),qad ((qah (aa.at_ 0).S).getD 5 0),qad ((qah (aa.at_ 0).S).getD 6 0),qad ((qah (aa.at_ 0).S).getD 7 0),qad ((qah (aa.at_ 0).S).getD 8 0),qad ((qah (aa.at_ 0).S).getD 9 0),qad ((qah (aa.at_ 0).S).getD 10 0),qad ((qah (aa.at_ 0).S).getD 11 0),qad ((qah (aa.at_ 0).S).getD 12 0),qad ((qah (aa.at_ 0).S).getD 13 0),qad ((qah (aa.at_ 0).S).getD 14 0),qad ((qah (aa.at_ 0).S).getD 15 0),.slice none 0 0,.map none],true⟩,qbt ae 4 (.agg #[.int .i32 0,.int .i16 0,.pointer none,.map none]) ((lst (aa.at_ 1)).length) (af + 1),⟨ae,af * 4,[.int .i32 (IntKind.i32.wrap (ag.at_ 0).N),.int .i16 (IntKind.i16.wrap (ag.at_ 1).N),.pointer ar,.map none],true⟩] 4 [(2,.v (.bool false)),(7,.p 0 0),(9,.v (.bool (decide (v ≥ 0)))),(10,.p 1 0),(12,.v (.slice (some ⟨ab,0,none⟩) ((lst (T.at_ 0)).length) ah)),(13,.v (.int .i32 (((lst (T.at_ 0)).length : Nat) : Int))),(14,.v (.int .i32 ((ac : Nat) : Int))),(16,.p 3 0),(19,.v (.slice (some ⟨ae,0,none⟩) ((lst (aa.at_ 1)).length) ai)),(20,.v (.int .i32 (((lst (aa.at_ 1)).length : Nat) : Int))),(21,.v (.int .i32 ((af : Nat) : Int))),(23,.p 5 0)] bU fun _ _ bV=>?_
       clear bU
       refine qab ?_
       have bW:=bV.cast bw
       clear bV
       refine qe1 (Mid:=fun a_ w_=>∃ (aV : Option Nat) (aB : List (Int × Bs)) (P' : qcu),(∀ w F,P' w F → eR w F ∧ (MapR w F aV aB ∧ aB.length ≤ 1000000 ∧ ∀ x ∈ aB,x.2.length < 4294967296) ∧ ((decide (v ≥ 0)) = true → aB = ag.U) ∧ ((decide (v ≥ 0)) = false → aB = [])) ∧ RS w (fun b o=>b = bv ∧ o < 3) F 150 aY [⟨bv,0,[.int .i16 v,.slice none 0 0,.map none],true⟩,qbt ab 18 (.agg #[.int .u8 0,.int .u8 0,.int .u8 0,.int .u8 0,.int .u8 0,.int .u8 0,.int .u8 0,.int .u8 0,.int .u8 0,.int .u8 0,.int .u8 0,.int .u8 0,.int .u8 0,.int .u8 0,.int .u8 0,.int .u8 0,.slice none 0 0,.map none]) ((lst (T.at_ 0)).length) (ac + 1),⟨ab,ac * 18,[qad ((qah (aa.at_ 0).S).getD 0 0),qad ((qah (aa.at_ 0).S).getD 1 0),qad ((qah (aa.at_ 0).S).getD 2 0),qad ((qah (aa.at_ 0).S).getD 3 0),qad ((qah (aa.at_ 0).S).getD 4 0),qad ((qah (aa.at_ 0).S).getD 5 0),qad ((qah (aa.at_ 0).S).getD 6 0),qad ((qah (aa.at_ 0).S).getD 7 0),qad ((qah (aa.at_ 0).S).getD 8 0),qad ((qah (aa.at_ 0).S).getD 9 0),qad ((qah (aa.at_ 0).S).getD 10 0),qad ((qah (aa.at_ 0).S).getD 11 0),qad ((qah (aa.at_ 0).S).getD 12 0),qad ((qah (aa.at_ 0).S).getD 13 0),qad ((qah (aa.at_ 0).S).getD 14 0),qad ((qah (aa.at_ 0).S).getD 15 0),.slice none 0 0,.map none],true⟩,qbt ae 4 (.agg #[.int .i32 0,.int .i16 0,.pointer none,.map none]) ((lst (aa.at_ 1)).length) (af + 1),⟨ae,af * 4,[.int .i32 (IntKind.i32.wrap (ag.at_ 0).N),.int .i16 (IntKind.i16.wrap (ag.at_ 1).N),.pointer ar,.map aV],true⟩] [(2,.v (.bool false)),(7,.p 0 0),(9,.v (.bool (decide (v ≥ 0)))),(10,.p 1 0),(12,.v (.slice (some ⟨ab,0,none⟩) ((lst (T.at_ 0)).length) ah)),(13,.v (.int .i32 (((lst (T.at_ 0)).length : Nat) : Int))),(14,.v (.int .i32 ((ac : Nat) : Int))),(16,.p 3 0),(19,.v (.slice (some ⟨ae,0,none⟩) ((lst (aa.at_ 1)).length) ai)),(20,.v (.int .i32 (((lst (aa.at_ 1)).length : Nat) : Int))),(21,.v (.int .i32 ((af : Nat) : Int)))] P' aM a_ w_) ?_ ?_
       ·
        refine wp_seq ?_
        refine qbZ [(2,.v (.bool false)),(7,.p 0 0),(9,.v (.bool (decide (v ≥ 0)))),(10,.p 1 0),(12,.v (.slice (some ⟨ab,0,none⟩) ((lst (T.at_ 0)).length) ah)),(13,.v (.int .i32 (((lst (T.at_ 0)).length : Nat) : Int))),(14,.v (.int .i32 ((ac : Nat) : Int))),(16,.p 3 0),(19,.v (.slice (some ⟨ae,0,none⟩) ((lst (aa.at_ 1)).length) ai)),(20,.v (.int .i32 (((lst (aa.at_ 1)).length : Nat) : Int))),(21,.v (.int .i32 ((af : Nat) : Int))),(23,.p 5 0),(124,.v (.bool (decide (v ≥ 0))))] bW fun _ av=>qab ?_
        clear bW
        refine qax av.env_ (b:=decide (v ≥ 0)) kz (fun aw=>?_) (fun aw=>?_)
        ·
         have bX:=av.cast (t:=((uv ag.U.length) ++ (qcA ag.U)) ++ aM) (by rw [if_pos aw])
         clear av
         refine qas [0,1,2,3,4] kz ?_
         refine qdg [0] [1,2,3,4] [(2,.v (.bool false)),(7,.p 0 0),(9,.v (.bool (decide (v ≥ 0)))),(10,.p 1 0),(12,.v (.slice (some ⟨ab,0,none⟩) ((lst (T.at_ 0)).length) ah)),(13,.v (.int .i32 (((lst (T.at_ 0)).length : Nat) : Int))),(14,.v (.int .i32 ((ac : Nat) : Int))),(16,.p 3 0),(19,.v (.slice (some ⟨ae,0,none⟩) ((lst (aa.at_ 1)).length) ai)),(20,.v (.int .i32 (((lst (aa.at_ 1)).length : Nat) : Int))),(21,.v (.int .i32 ((af : Nat) : Int))),(125,.p 5 0)] bX fun _ bY=>?_
         clear bX
         refine qan (qf8 (d:=126) bY (qk6 ag.U e132_U (qeY e132r) _) (fun _=>MvF.tags _ _) Tryz.call182 fun di fj _ _ bZ b8=>?_)
         clear bY
         refine qdg [2,3] [4] [(2,.v (.bool false)),(7,.p 0 0),(9,.v (.bool (decide (v ≥ 0)))),(10,.p 1 0),(12,.v (.slice (some ⟨ab,0,none⟩) ((lst (T.at_ 0)).length) ah)),(13,.v (.int .i32 (((lst (T.at_ 0)).length : Nat) : Int))),(14,.v (.int .i32 ((ac : Nat) : Int))),(16,.p 3 0),(19,.v (.slice (some ⟨ae,0,none⟩) ((lst (aa.at_ 1)).length) ai)),(20,.v (.int .i32 (((lst (aa.at_ 1)).length : Nat) : Int))),(21,.v (.int .i32 ((af : Nat) : Int))),(126,.v (.agg #[.map di])),(128,.p 5 3)] b8 fun _ cd=>?_
         clear b8
         refine qan (qeZ [⟨bv,0,[.int .i16 v,.slice none 0 0,.map none],true⟩,qbt ab 18 (.agg #[.int .u8 0,.int .u8 0,.int .u8 0,.int .u8 0,.int .u8 0,.int .u8 0,.int .u8 0,.int .u8 0,.int .u8 0,.int .u8 0,.int .u8 0,.int .u8 0,.int .u8 0,.int .u8 0,.int .u8 0,.int .u8 0,.slice none 0 0,.map none]) ((lst (T.at_ 0)).length) (ac + 1),⟨ab,ac * 18,[qad ((qah (aa.at_ 0).S).getD 0 0),qad ((qah (aa.at_ 0).S).getD 1 0),qad ((qah (aa.at_ 0).S).getD 2 0),qad ((qah (aa.at_ 0).S).getD 3 0),qad ((qah (aa.at_ 0).S).getD 4 0),qad ((qah (aa.at_ 0).S).getD 5 0),qad ((qah (aa.at_ 0).S).getD 6 0),qad ((qah (aa.at_ 0).S).getD 7 0),qad ((qah (aa.at_ 0).S).getD 8 0),qad ((qah (aa.at_ 0).S).getD 9 0),qad ((qah (aa.at_ 0).S).getD 10 0),qad ((qah (aa.at_ 0).S).getD 11 0),qad ((qah (aa.at_ 0).S).getD 12 0),qad ((qah (aa.at_ 0).S).getD 13 0),qad ((qah (aa.at_ 0).S).getD 14 0),qad ((qah (aa.at_ 0).S).getD 15 0),.slice none 0 0,.map none],true⟩,qbt ae 4 (.agg #[.int .i32 0,.int .i16 0,.pointer none,.map none]) ((lst (aa.at_ 1)).length) (af + 1),⟨ae,af * 4,[.int .i32 (IntKind.i32.wrap (ag.at_ 0).N),.int .i16 (IntKind.i16.wrap (ag.at_ 1).N),.pointer ar,.map di],true⟩] 4 cd fun _ ce=>?_)
         clear cd
         refine qaf ?_
         have em:=ce.pk (env':=[(2,.v (.bool false)),(7,.p 0 0),(9,.v (.bool (decide (v ≥ 0)))),(10,.p 1 0),(12,.v (.slice (some ⟨ab,0,none⟩) ((lst (T.at_ 0)).length) ah)),(13,.v (.int .i32 (((lst (T.at_ 0)).length : Nat) : Int))),(14,.v (.int .i32 ((ac : Nat) : Int))),(16,.p 3 0),(19,.v (.slice (some ⟨ae,0,none⟩) ((lst (aa.at_ 1)).length) ai)),(20,.v (.int .i32 (((lst (aa.at_ 1)).length : Nat) : Int))),(21,.v (.int .i32 ((af : Nat) : Int)))])
         clear ce
         refine qab ?_
         exact ⟨di,ag.U,_,fun w F h_=>⟨(bZ _ _ h_).1,⟨(bZ _ _ h_).2,e132_U.2.1,e132_U.2.2⟩,⟨fun _=>rfl,(fun e_=>by rw [aw] at e_; cases e_)⟩⟩,em.pk (env':=[(2,.v (.bool false)),(7,.p 0 0),(9,.v (.bool (decide (v ≥ 0)))),(10,.p 1 0),(12,.v (.slice (some ⟨ab,0,none⟩) ((lst (T.at_ 0)).length) ah)),(13,.v (.int .i32 (((lst (T.at_ 0)).length : Nat) : Int))),(14,.v (.int .i32 ((ac : Nat) : Int))),(16,.p 3 0),(19,.v (.slice (some ⟨ae,0,none⟩) ((lst (aa.at_ 1)).length) ai)),(20,.v (.int .i32 (((lst (aa.at_ 1)).length : Nat) : Int))),(21,.v (.int .i32 ((af : Nat) : Int)))])⟩
        have cm:=av.cast (t:=[] ++ aM) (by rw [if_neg (by rw [aw]; decide)])
        clear av
        have eo:=cm.cast (t:=aM) rfl
        clear cm
        refine wp_skip (qab ?_)
        exact ⟨none,[],_,fun w F h_=>⟨h_,⟨MapR.nil _ _,Nat.zero_le _,fun _ h=>by cases h⟩,⟨(fun e_=>by rw [aw] at e_; cases e_),fun _=>rfl⟩⟩,eo.pk (env':=[(2,.v (.bool false)),(7,.p 0 0),(9,.v (.bool (decide (v ≥ 0)))),(10,.p 1 0),(12,.v (.slice (some ⟨ab,0,none⟩) ((lst (T.at_ 0)).length) ah)),(13,.v (.int .i32 (((lst (T.at_ 0)).length : Nat) : Int))),(14,.v (.int .i32 ((ac : Nat) : Int))),(16,.p 3 0),(19,.v (.slice (some ⟨ae,0,none⟩) ((lst (aa.at_ 1)).length) ai)),(20,.v (.int .i32 (((lst (aa.at_ 1)).length : Nat) : Int))),(21,.v (.int .i32 ((af : Nat) : Int)))])⟩
       rintro _ _ ⟨aV,aB,fk,al,cq⟩
       refine qat ?_
       refine qab ?_
       refine qbZ [(2,.v (.bool false)),(7,.p 0 0),(9,.v (.bool (decide (v ≥ 0)))),(10,.p 1 0),(12,.v (.slice (some ⟨ab,0,none⟩) ((lst (T.at_ 0)).length) ah)),(13,.v (.int .i32 (((lst (T.at_ 0)).length : Nat) : Int))),(14,.v (.int .i32 ((ac : Nat) : Int))),(16,.p 3 0),(19,.v (.slice (some ⟨ae,0,none⟩) ((lst (aa.at_ 1)).length) ai)),(20,.v (.int .i32 (((lst (aa.at_ 1)).length : Nat) : Int))),(21,.v (.int .i32 (IntKind.i32.wrap (((af : Nat) : Int) + 1))))] cq fun _ cr=>?_
       clear cq
       refine qab ?_
       have ep:=(cr.envEq (env':=[(2,.v (.bool false)),(7,.p 0 0),(9,.v (.bool (decide (v ≥ 0)))),(10,.p 1 0),(12,.v (.slice (some ⟨ab,0,none⟩) ((lst (T.at_ 0)).length) ah)),(13,.v (.int .i32 (((lst (T.at_ 0)).length : Nat) : Int))),(14,.v (.int .i32 ((ac : Nat) : Int))),(16,.p 3 0),(19,.v (.slice (some ⟨ae,0,none⟩) ((lst (aa.at_ 1)).length) ai)),(20,.v (.int .i32 (((lst (aa.at_ 1)).length : Nat) : Int))),(21,.v (.int .i32 ((af + 1 : Nat) : Int)))]) (by rw [qhJ (by have:=e72_1; omega)])).pk (env':=[(2,.v (.bool false)),(7,.p 0 0),(9,.v (.bool (decide (v ≥ 0)))),(10,.p 1 0),(12,.v (.slice (some ⟨ab,0,none⟩) ((lst (T.at_ 0)).length) ah)),(13,.v (.int .i32 (((lst (T.at_ 0)).length : Nat) : Int))),(14,.v (.int .i32 ((ac : Nat) : Int))),(16,.p 3 0),(19,.v (.slice (some ⟨ae,0,none⟩) ((lst (aa.at_ 1)).length) ai)),(20,.v (.int .i32 (((lst (aa.at_ 1)).length : Nat) : Int))),(21,.v (.int .i32 ((af + 1 : Nat) : Int)))])
       clear cr
       exact (RS.thing (tb:=[⟨bv,0,[.int .i16 v,.slice none 0 0,.map none],true⟩,qbt ab 18 (.agg #[.int .u8 0,.int .u8 0,.int .u8 0,.int .u8 0,.int .u8 0,.int .u8 0,.int .u8 0,.int .u8 0,.int .u8 0,.int .u8 0,.int .u8 0,.int .u8 0,.int .u8 0,.int .u8 0,.int .u8 0,.int .u8 0,.slice none 0 0,.map none]) ((lst (T.at_ 0)).length) (ac + 1),⟨ab,ac * 18,[qad ((qah (aa.at_ 0).S).getD 0 0),qad ((qah (aa.at_ 0).S).getD 1 0),qad ((qah (aa.at_ 0).S).getD 2 0),qad ((qah (aa.at_ 0).S).getD 3 0),qad ((qah (aa.at_ 0).S).getD 4 0),qad ((qah (aa.at_ 0).S).getD 5 0),qad ((qah (aa.at_ 0).S).getD 6 0),qad ((qah (aa.at_ 0).S).getD 7 0),qad ((qah (aa.at_ 0).S).getD 8 0),qad ((qah (aa.at_ 0).S).getD 9 0),qad ((qah (aa.at_ 0).S).getD 10 0),qad ((qah (aa.at_ 0).S).getD 11 0),qad ((qah (aa.at_ 0).S).getD 12 0),qad ((qah (aa.at_ 0).S).getD 13 0),qad ((qah (aa.at_ 0).S).getD 14 0),qad ((qah (aa.at_ 0).S).getD 15 0),.slice none 0 0,.map none],true⟩]) (z:=.agg #[.int .i32 0,.int .i16 0,.pointer none,.map none]) (D:=(dvP aV aB [dvN (IntKind.i32.wrap (ag.at_ 0).N),dvN (IntKind.i16.wrap (ag.at_ 1).N),dvT ar (bs (qb7 (ag.at_ 2)))])) (ep.cast bu) hg_g113 aL qaN aK rfl (fun w F h_=>⟨(bq _ _ (aF _ _ (al _ _ h_).1).1).1,(bq _ _ (aF _ _ (al _ _ h_).1).1).2,⟨(trivial),(trivial),(⟨(aF _ _ (al _ _ h_).1).2.1,by show ByteArray.size (bs _) ≤ 1000000; rw [qkV]; exact Nat.le_trans e132_2 (by decide)⟩),(al _ _ h_).2.1.1,(al _ _ h_).2.1.2.1,(al _ _ h_).2.1.2.2,trivial⟩,⟨(rfl),(rfl),(⟨rfl,(aF _ _ (al _ _ h_).1).2.2⟩),(al _ _ h_).2.2,trivial⟩⟩) kz)
      refine wp_seq ?_
      refine wp_seq ?_
      refine qbZ [(2,.v (.bool false)),(7,.p 0 0),(9,.v (.bool (decide (v ≥ 0)))),(10,.p 1 0),(12,.v (.slice (some ⟨ab,0,none⟩) ((lst (T.at_ 0)).length) ah)),(13,.v (.int .i32 (((lst (T.at_ 0)).length : Nat) : Int))),(14,.v (.int .i32 ((ac : Nat) : Int))),(16,.p 3 0),(19,.v (.slice (some ⟨ae,0,none⟩) ((lst (aa.at_ 1)).length) ai)),(20,.v (.int .i32 (((lst (aa.at_ 1)).length : Nat) : Int))),(21,.v (.int .i32 (((lst (aa.at_ 1)).length : Nat) : Int))),(94,.v (.bool (decide ((((lst (aa.at_ 1)).length : Nat) : Int) < (((lst (aa.at_ 1)).length : Nat) : Int)))))] bp fun _ cu=>qab ?_
      clear bp
      refine qar cu.env_ (b:=decide ((((lst (aa.at_ 1)).length : Nat) : Int) < (((lst (aa.at_ 1)).length : Nat) : Int))) kz (decide_eq_false (by omega)) ?_
      refine wp_exit ?_
      refine qaB ?_
      refine qaB ?_
      refine qaP ?_
      refine qab ?_
      obtain ⟨eS,eu⟩:=RS.listEnd (tb:=[⟨bv,0,[.int .i16 v,.slice none 0 0,.map none],true⟩,qbt ab 18 (.agg #[.int .u8 0,.int .u8 0,.int .u8 0,.int .u8 0,.int .u8 0,.int .u8 0,.int .u8 0,.int .u8 0,.int .u8 0,.int .u8 0,.int .u8 0,.int .u8 0,.int .u8 0,.int .u8 0,.int .u8 0,.int .u8 0,.slice none 0 0,.map none]) ((lst (T.at_ 0)).length) (ac + 1),⟨ab,ac * 18,[qad ((qah (aa.at_ 0).S).getD 0 0),qad ((qah (aa.at_ 0).S).getD 1 0),qad ((qah (aa.at_ 0).S).getD 2 0),qad ((qah (aa.at_ 0).S).getD 3 0),qad ((qah (aa.at_ 0).S).getD 4 0),qad ((qah (aa.at_ 0).S).getD 5 0),qad ((qah (aa.at_ 0).S).getD 6 0),qad ((qah (aa.at_ 0).S).getD 7 0),qad ((qah (aa.at_ 0).S).getD 8 0),qad ((qah (aa.at_ 0).S).getD 9 0),qad ((qah (aa.at_ 0).S).getD 10 0),qad ((qah (aa.at_ 0).S).getD 11 0),qad ((qah (aa.at_ 0).S).getD 12 0),qad ((qah (aa.at_ 0).S).getD 13 0),qad ((qah (aa.at_ 0).S).getD 14 0),qad ((qah (aa.at_ 0).S).getD 15 0),.slice none 0 0,.map none],true⟩]) (c:=ai) (cu.pk (env':=[(2,.v (.bool false)),(7,.p 0 0),(9,.v (.bool (decide (v ≥ 0)))),(10,.p 1 0),(12,.v (.slice (some ⟨ab,0,none⟩) ((lst (T.at_ 0)).length) ah)),(13,.v (.int .i32 (((lst (T.at_ 0)).length : Nat) : Int))),(14,.v (.int .i32 ((ac : Nat) : Int))),(16,.p 3 0),(19,.v (.slice (some ⟨ae,0,none⟩) ((lst (aa.at_ 1)).length) ai))])) hg_g113 qaN aK hcap_g113 (by have:=e72_1; omega) hn_g113 kz
      exact ⟨dvL (some ⟨ae,0,none⟩) (lst (aa.at_ 1)).length ai eS,_,fun w F h_=>⟨h_.1,⟨h_.2.1,Nat.le_trans e72_1 (by decide),h_.2.2.1⟩,⟨rfl,h_.2.2.2⟩⟩,eu⟩
     refine wp_skip ?_
     refine qab ?_
     refine wp_seq ?_
     refine qbZ [(2,.v (.bool false)),(7,.p 0 0),(9,.v (.bool (decide (v ≥ 0)))),(10,.p 1 0),(12,.v (.slice (some ⟨ab,0,none⟩) ((lst (T.at_ 0)).length) ah)),(13,.v (.int .i32 (((lst (T.at_ 0)).length : Nat) : Int))),(14,.v (.int .i32 ((ac : Nat) : Int))),(16,.p 3 0),(19,.v (.slice none 0 0)),(20,.v (.int .i32 (((lst (aa.at_ 1)).length : Nat) : Int))),(21,.v (.int .i32 0))] ap fun _ cw=>?_
     clear ap
     refine qab ?_
     refine wp_block ?_
     refine qf9 ?_
     refine wp_seq ?_
     refine wp_seq ?_
     refine qbZ [(2,.v (.bool false)),(7,.p 0 0),(9,.v (.bool (decide (v ≥ 0)))),(10,.p 1 0),(12,.v (.slice (some ⟨ab,0,none⟩) ((lst (T.at_ 0)).length) ah)),(13,.v (.int .i32 (((lst (T.at_ 0)).length : Nat) : Int))),(14,.v (.int .i32 ((ac : Nat) : Int))),(16,.p 3 0),(19,.v (.slice none 0 0)),(20,.v (.int .i32 (((lst (aa.at_ 1)).length : Nat) : Int))),(21,.v (.int .i32 0)),(94,.v (.bool (decide (0 < (((lst (aa.at_ 1)).length : Nat) : Int)))))] cw fun _ cz=>qab ?_
     clear cw
     refine qar cz.env_ (b:=decide (0 < (((lst (aa.at_ 1)).length : Nat) : Int))) kz (decide_eq_false (by have h_:=of_decide_eq_false aE; omega)) ?_
     refine wp_exit ?_
     refine qaB ?_
     refine qaB ?_
     refine qaP ?_
     refine qab ?_
     have hz_ : (lst (aa.at_ 1)).length = 0:=by have h_:=of_decide_eq_false aE; omega
     exact ⟨dvL none 0 0 (fun _=>dv0),_,fun w F h_=>⟨h_,⟨Slots.nil _ _ _ _,Nat.zero_le _,fun _ h=>absurd h (Nat.not_lt_zero _)⟩,⟨hz_.symm,fun _ h=>absurd h (Nat.not_lt_zero _)⟩⟩,(cz.cast (t:=bd) (by rw [List.eq_nil_of_length_eq_zero hz_]; rfl)).pk (env':=[(2,.v (.bool false)),(7,.p 0 0),(9,.v (.bool (decide (v ≥ 0)))),(10,.p 1 0),(12,.v (.slice (some ⟨ab,0,none⟩) ((lst (T.at_ 0)).length) ah)),(13,.v (.int .i32 (((lst (T.at_ 0)).length : Nat) : Int))),(14,.v (.int .i32 ((ac : Nat) : Int))),(16,.p 3 0),(19,.v (.slice none 0 0))])⟩
    rintro _ _ ⟨aj,eU,aG,cA⟩
    refine wp_seq ?_
    refine qbZ [(2,.v (.bool false)),(7,.p 0 0),(9,.v (.bool (decide (v ≥ 0)))),(10,.p 1 0),(12,.v (.slice (some ⟨ab,0,none⟩) ((lst (T.at_ 0)).length) ah)),(13,.v (.int .i32 (((lst (T.at_ 0)).length : Nat) : Int))),(14,.v (.int .i32 ((ac : Nat) : Int))),(16,.p 3 0),(18,.v (.slice aj.A aj.l aj.c))] cA fun _ cB=>?_
    clear cA
    refine qab ?_
    refine qfM [⟨bv,0,[.int .i16 v,.slice none 0 0,.map none],true⟩,qbt ab 18 (.agg #[.int .u8 0,.int .u8 0,.int .u8 0,.int .u8 0,.int .u8 0,.int .u8 0,.int .u8 0,.int .u8 0,.int .u8 0,.int .u8 0,.int .u8 0,.int .u8 0,.int .u8 0,.int .u8 0,.int .u8 0,.int .u8 0,.slice none 0 0,.map none]) ((lst (T.at_ 0)).length) (ac + 1),⟨ab,ac * 18,[qad ((qah (aa.at_ 0).S).getD 0 0),qad ((qah (aa.at_ 0).S).getD 1 0),qad ((qah (aa.at_ 0).S).getD 2 0),qad ((qah (aa.at_ 0).S).getD 3 0),qad ((qah (aa.at_ 0).S).getD 4 0),qad ((qah (aa.at_ 0).S).getD 5 0),qad ((qah (aa.at_ 0).S).getD 6 0),qad ((qah (aa.at_ 0).S).getD 7 0),qad ((qah (aa.at_ 0).S).getD 8 0),qad ((qah (aa.at_ 0).S).getD 9 0),qad ((qah (aa.at_ 0).S).getD 10 0),qad ((qah (aa.at_ 0).S).getD 11 0),qad ((qah (aa.at_ 0).S).getD 12 0),qad ((qah (aa.at_ 0).S).getD 13 0),qad ((qah (aa.at_ 0).S).getD 14 0),qad ((qah (aa.at_ 0).S).getD 15 0),.slice aj.A aj.l aj.c,.map none],true⟩] 2 [(2,.v (.bool false)),(7,.p 0 0),(9,.v (.bool (decide (v ≥ 0)))),(10,.p 1 0),(12,.v (.slice (some ⟨ab,0,none⟩) ((lst (T.at_ 0)).length) ah)),(13,.v (.int .i32 (((lst (T.at_ 0)).length : Nat) : Int))),(14,.v (.int .i32 ((ac : Nat) : Int))),(16,.p 3 0)] cB fun _ _ cC=>?_
    clear cB
    refine qab ?_
    have cD:=cC.cast dP
    clear cC
    refine qe1 (Mid:=fun a_ w_=>∃ (aW : Option Nat) (aC : List (Int × Bs)) (P' : qcu),(∀ w F,P' w F → eU w F ∧ (MapR w F aW aC ∧ aC.length ≤ 1000000 ∧ ∀ x ∈ aC,x.2.length < 4294967296) ∧ ((decide (v ≥ 0)) = true → aC = aa.U) ∧ ((decide (v ≥ 0)) = false → aC = [])) ∧ RS w (fun b o=>b = bv ∧ o < 3) F 150 aY [⟨bv,0,[.int .i16 v,.slice none 0 0,.map none],true⟩,qbt ab 18 (.agg #[.int .u8 0,.int .u8 0,.int .u8 0,.int .u8 0,.int .u8 0,.int .u8 0,.int .u8 0,.int .u8 0,.int .u8 0,.int .u8 0,.int .u8 0,.int .u8 0,.int .u8 0,.int .u8 0,.int .u8 0,.int .u8 0,.slice none 0 0,.map none]) ((lst (T.at_ 0)).length) (ac + 1),⟨ab,ac * 18,[qad ((qah (aa.at_ 0).S).getD 0 0),qad ((qah (aa.at_ 0).S).getD 1 0),qad ((qah (aa.at_ 0).S).getD 2 0),qad ((qah (aa.at_ 0).S).getD 3 0),qad ((qah (aa.at_ 0).S).getD 4 0),qad ((qah (aa.at_ 0).S).getD 5 0),qad ((qah (aa.at_ 0).S).getD 6 0),qad ((qah (aa.at_ 0).S).getD 7 0),qad ((qah (aa.at_ 0).S).getD 8 0),qad ((qah (aa.at_ 0).S).getD 9 0),qad ((qah (aa.at_ 0).S).getD 10 0),qad ((qah (aa.at_ 0).S).getD 11 0),qad ((qah (aa.at_ 0).S).getD 12 0),qad ((qah (aa.at_ 0).S).getD 13 0),qad ((qah (aa.at_ 0).S).getD 14 0),qad ((qah (aa.at_ 0).S).getD 15 0),.slice aj.A aj.l aj.c,.map aW],true⟩] [(2,.v (.bool false)),(7,.p 0 0),(9,.v (.bool (decide (v ≥ 0)))),(10,.p 1 0),(12,.v (.slice (some ⟨ab,0,none⟩) ((lst (T.at_ 0)).length) ah)),(13,.v (.int .i32 (((lst (T.at_ 0)).length : Nat) : Int))),(14,.v (.int .i32 ((ac : Nat) : Int)))] P' dN a_ w_) ?_ ?_
    ·
     refine wp_seq ?_
     refine qbZ [(2,.v (.bool false)),(7,.p 0 0),(9,.v (.bool (decide (v ≥ 0)))),(10,.p 1 0),(12,.v (.slice (some ⟨ab,0,none⟩) ((lst (T.at_ 0)).length) ah)),(13,.v (.int .i32 (((lst (T.at_ 0)).length : Nat) : Int))),(14,.v (.int .i32 ((ac : Nat) : Int))),(16,.p 3 0),(134,.v (.bool (decide (v ≥ 0))))] cD fun _ ax=>qab ?_
     clear cD
     refine qax ax.env_ (b:=decide (v ≥ 0)) kz (fun ay=>?_) (fun ay=>?_)
     ·
      have cE:=ax.cast (t:=((uv aa.U.length) ++ (qcA aa.U)) ++ dN) (by rw [if_pos ay])
      clear ax
      refine qas [0,1,2,3,4] kz ?_
      refine qdg [0] [1,2,3,4] [(2,.v (.bool false)),(7,.p 0 0),(9,.v (.bool (decide (v ≥ 0)))),(10,.p 1 0),(12,.v (.slice (some ⟨ab,0,none⟩) ((lst (T.at_ 0)).length) ah)),(13,.v (.int .i32 (((lst (T.at_ 0)).length : Nat) : Int))),(14,.v (.int .i32 ((ac : Nat) : Int))),(135,.p 3 0)] cE fun _ cG=>?_
      clear cE
      refine qan (qf8 (d:=136) cG (qk6 aa.U e72_U (qeY e72r) _) (fun _=>MvF.tags _ _) Tryz.call182 fun dj fm _ _ cH cI=>?_)
      clear cG
      refine qdg [2,3] [4] [(2,.v (.bool false)),(7,.p 0 0),(9,.v (.bool (decide (v ≥ 0)))),(10,.p 1 0),(12,.v (.slice (some ⟨ab,0,none⟩) ((lst (T.at_ 0)).length) ah)),(13,.v (.int .i32 (((lst (T.at_ 0)).length : Nat) : Int))),(14,.v (.int .i32 ((ac : Nat) : Int))),(136,.v (.agg #[.map dj])),(138,.p 3 17)] cI fun _ cJ=>?_
      clear cI
      refine qan (qeZ [⟨bv,0,[.int .i16 v,.slice none 0 0,.map none],true⟩,qbt ab 18 (.agg #[.int .u8 0,.int .u8 0,.int .u8 0,.int .u8 0,.int .u8 0,.int .u8 0,.int .u8 0,.int .u8 0,.int .u8 0,.int .u8 0,.int .u8 0,.int .u8 0,.int .u8 0,.int .u8 0,.int .u8 0,.int .u8 0,.slice none 0 0,.map none]) ((lst (T.at_ 0)).length) (ac + 1),⟨ab,ac * 18,[qad ((qah (aa.at_ 0).S).getD 0 0),qad ((qah (aa.at_ 0).S).getD 1 0),qad ((qah (aa.at_ 0).S).getD 2 0),qad ((qah (aa.at_ 0).S).getD 3 0),qad ((qah (aa.at_ 0).S).getD 4 0),qad ((qah (aa.at_ 0).S).getD 5 0),qad ((qah (aa.at_ 0).S).getD 6 0),qad ((qah (aa.at_ 0).S).getD 7 0),qad ((qah (aa.at_ 0).S).getD 8 0),qad ((qah (aa.at_ 0).S).getD 9 0),qad ((qah (aa.at_ 0).S).getD 10 0),qad ((qah (aa.at_ 0).S).getD 11 0),qad ((qah (aa.at_ 0).S).getD 12 0),qad ((qah (aa.at_ 0).S).getD 13 0),qad ((qah (aa.at_ 0).S).getD 14 0),qad ((qah (aa.at_ 0).S).getD 15 0),.slice aj.A aj.l aj.c,.map dj],true⟩] 2 cJ fun _ cK=>?_)
      clear cJ
      refine qaf ?_
      have ev:=cK.pk (env':=[(2,.v (.bool false)),(7,.p 0 0),(9,.v (.bool (decide (v ≥ 0)))),(10,.p 1 0),(12,.v (.slice (some ⟨ab,0,none⟩) ((lst (T.at_ 0)).length) ah)),(13,.v (.int .i32 (((lst (T.at_ 0)).length : Nat) : Int))),(14,.v (.int .i32 ((ac : Nat) : Int)))])
      clear cK
      refine qab ?_
      exact ⟨dj,aa.U,_,fun w F h_=>⟨(cH _ _ h_).1,⟨(cH _ _ h_).2,e72_U.2.1,e72_U.2.2⟩,⟨fun _=>rfl,(fun e_=>by rw [ay] at e_; cases e_)⟩⟩,ev.pk (env':=[(2,.v (.bool false)),(7,.p 0 0),(9,.v (.bool (decide (v ≥ 0)))),(10,.p 1 0),(12,.v (.slice (some ⟨ab,0,none⟩) ((lst (T.at_ 0)).length) ah)),(13,.v (.int .i32 (((lst (T.at_ 0)).length : Nat) : Int))),(14,.v (.int .i32 ((ac : Nat) : Int)))])⟩
     have cL:=ax.cast (t:=[] ++ dN) (by rw [if_neg (by rw [ay]; decide)])
     clear ax
     have ew:=cL.cast (t:=dN) rfl
     clear cL
     refine wp_skip (qab ?_)
     exact ⟨none,[],_,fun w F h_=>⟨h_,⟨MapR.nil _ _,Nat.zero_le _,fun _ h=>by cases h⟩,⟨(fun e_=>by rw [ay] at e_; cases e_),fun _=>rfl⟩⟩,ew.pk (env':=[(2,.v (.bool false)),(7,.p 0 0),(9,.v (.bool (decide (v ≥ 0)))),(10,.p 1 0),(12,.v (.slice (some ⟨ab,0,none⟩) ((lst (T.at_ 0)).length) ah)),(13,.v (.int .i32 (((lst (T.at_ 0)).length : Nat) : Int))),(14,.v (.int .i32 ((ac : Nat) : Int)))])⟩
    rintro _ _ ⟨aW,aC,fo,am,cM⟩
    refine qat ?_
    refine qab ?_
    refine qbZ [(2,.v (.bool false)),(7,.p 0 0),(9,.v (.bool (decide (v ≥ 0)))),(10,.p 1 0),(12,.v (.slice (some ⟨ab,0,none⟩) ((lst (T.at_ 0)).length) ah)),(13,.v (.int .i32 (((lst (T.at_ 0)).length : Nat) : Int))),(14,.v (.int .i32 (IntKind.i32.wrap (((ac : Nat) : Int) + 1))))] cM fun _ cN=>?_
    clear cM
    refine qab ?_
    have ey:=(cN.envEq (env':=[(2,.v (.bool false)),(7,.p 0 0),(9,.v (.bool (decide (v ≥ 0)))),(10,.p 1 0),(12,.v (.slice (some ⟨ab,0,none⟩) ((lst (T.at_ 0)).length) ah)),(13,.v (.int .i32 (((lst (T.at_ 0)).length : Nat) : Int))),(14,.v (.int .i32 ((ac + 1 : Nat) : Int)))]) (by rw [qhJ (by have:=e26_0; omega)])).pk (env':=[(2,.v (.bool false)),(7,.p 0 0),(9,.v (.bool (decide (v ≥ 0)))),(10,.p 1 0),(12,.v (.slice (some ⟨ab,0,none⟩) ((lst (T.at_ 0)).length) ah)),(13,.v (.int .i32 (((lst (T.at_ 0)).length : Nat) : Int))),(14,.v (.int .i32 ((ac + 1 : Nat) : Int)))])
    clear cN
    exact (RS.thing (tb:=[⟨bv,0,[.int .i16 v,.slice none 0 0,.map none],true⟩]) (z:=.agg #[.int .u8 0,.int .u8 0,.int .u8 0,.int .u8 0,.int .u8 0,.int .u8 0,.int .u8 0,.int .u8 0,.int .u8 0,.int .u8 0,.int .u8 0,.int .u8 0,.int .u8 0,.int .u8 0,.int .u8 0,.int .u8 0,.slice none 0 0,.map none]) (D:=(dvP aW aC [dvO none (qah (aa.at_ 0).S) 0,aj])) (ey.cast dO) hg_g53 dg qaY ba rfl (fun w F h_=>⟨(dL _ _ (aG _ _ (am _ _ h_).1).1).1,(dL _ _ (aG _ _ (am _ _ h_).1).1).2,⟨(qdB _),((aG _ _ (am _ _ h_).1).2.1),(am _ _ h_).2.1.1,(am _ _ h_).2.1.2.1,(am _ _ h_).2.1.2.2,trivial⟩,⟨(rfl),((aG _ _ (am _ _ h_).1).2.2),(am _ _ h_).2.2,trivial⟩⟩) kz)
   refine wp_seq ?_
   refine wp_seq ?_
   refine qbZ [(2,.v (.bool false)),(7,.p 0 0),(9,.v (.bool (decide (v ≥ 0)))),(10,.p 1 0),(12,.v (.slice (some ⟨ab,0,none⟩) ((lst (T.at_ 0)).length) ah)),(13,.v (.int .i32 (((lst (T.at_ 0)).length : Nat) : Int))),(14,.v (.int .i32 (((lst (T.at_ 0)).length : Nat) : Int))),(60,.v (.bool (decide ((((lst (T.at_ 0)).length : Nat) : Int) < (((lst (T.at_ 0)).length : Nat) : Int)))))] dK fun _ cO=>qab ?_
   clear dK
   refine qar cO.env_ (b:=decide ((((lst (T.at_ 0)).length : Nat) : Int) < (((lst (T.at_ 0)).length : Nat) : Int))) kz (decide_eq_false (by omega)) ?_
   refine wp_exit ?_
   refine qaB ?_
   refine qaB ?_
   refine qaP ?_
   refine qab ?_
   obtain ⟨eV,ez⟩:=RS.listEnd (tb:=[⟨bv,0,[.int .i16 v,.slice none 0 0,.map none],true⟩]) (c:=ah) (cO.pk (env':=[(7,.p 0 0),(9,.v (.bool (decide (v ≥ 0)))),(10,.p 1 0),(12,.v (.slice (some ⟨ab,0,none⟩) ((lst (T.at_ 0)).length) ah))])) hg_g53 qaY ba hcap_g53 (by have:=e26_0; omega) hn_g53 kz
   exact ⟨dvL (some ⟨ab,0,none⟩) (lst (T.at_ 0)).length ah eV,_,fun w F h_=>⟨h_.1,⟨h_.2.1,Nat.le_trans e26_0 (by decide),h_.2.2.1⟩,⟨rfl,h_.2.2.2⟩⟩,ez⟩
  refine wp_skip ?_
  refine qab ?_
  refine wp_seq ?_
  refine qbZ [(2,.v (.bool false)),(7,.p 0 0),(9,.v (.bool (decide (v ≥ 0)))),(10,.p 1 0),(12,.v (.slice none 0 0)),(13,.v (.int .i32 (((lst (T.at_ 0)).length : Nat) : Int))),(14,.v (.int .i32 0))] aH fun _ cP=>?_
  clear aH
  refine qab ?_
  refine wp_block ?_
  refine qf9 ?_
  refine wp_seq ?_
  refine wp_seq ?_
  refine qbZ [(2,.v (.bool false)),(7,.p 0 0),(9,.v (.bool (decide (v ≥ 0)))),(10,.p 1 0),(12,.v (.slice none 0 0)),(13,.v (.int .i32 (((lst (T.at_ 0)).length : Nat) : Int))),(14,.v (.int .i32 0)),(60,.v (.bool (decide (0 < (((lst (T.at_ 0)).length : Nat) : Int)))))] cP fun _ cQ=>qab ?_
  clear cP
  refine qar cQ.env_ (b:=decide (0 < (((lst (T.at_ 0)).length : Nat) : Int))) kz (decide_eq_false (by have h_:=of_decide_eq_false aR; omega)) ?_
  refine wp_exit ?_
  refine qaB ?_
  refine qaB ?_
  refine qaP ?_
  refine qab ?_
  have hz_ : (lst (T.at_ 0)).length = 0:=by have h_:=of_decide_eq_false aR; omega
  exact ⟨dvL none 0 0 (fun _=>dv0),_,fun w F h_=>⟨h_,⟨Slots.nil _ _ _ _,Nat.zero_le _,fun _ h=>absurd h (Nat.not_lt_zero _)⟩,⟨hz_.symm,fun _ h=>absurd h (Nat.not_lt_zero _)⟩⟩,(cQ.cast (t:=aZ) (by rw [List.eq_nil_of_length_eq_zero hz_]; rfl)).pk (env':=[(7,.p 0 0),(9,.v (.bool (decide (v ≥ 0)))),(10,.p 1 0),(12,.v (.slice none 0 0))])⟩
 rintro _ _ ⟨ak,fq,eB,eC⟩
 refine wp_seq ?_
 refine qbZ [(7,.p 0 0),(9,.v (.bool (decide (v ≥ 0)))),(10,.p 1 0),(11,.v (.slice ak.A ak.l ak.c))] eC fun _ cR=>?_
 clear eC
 refine qab ?_
 refine qfM [⟨bv,0,[.int .i16 v,.slice ak.A ak.l ak.c,.map none],true⟩] 0 [(7,.p 0 0),(9,.v (.bool (decide (v ≥ 0)))),(10,.p 1 0)] cR fun _ _ cS=>?_
 clear cR
 refine qab ?_
 refine wp_seq ?_
 have cT:=cS.cast dq
 clear cS
 refine qe1 (Mid:=fun a_ w_=>∃ (aX : Option Nat) (aD : List (Int × Bs)) (P' : qcu),(∀ w F,P' w F → fq w F ∧ (MapR w F aX aD ∧ aD.length ≤ 1000000 ∧ ∀ x ∈ aD,x.2.length < 4294967296) ∧ ((decide (v ≥ 0)) = true → aD = T.U) ∧ ((decide (v ≥ 0)) = false → aD = [])) ∧ RS w (fun b o=>b = bv ∧ o < 3) F 150 aY [⟨bv,0,[.int .i16 v,.slice ak.A ak.l ak.c,.map aX],true⟩] [(7,.p 0 0)] P' ([] : Bs) a_ w_) ?_ ?_
 ·
  refine wp_seq ?_
  refine qbZ [(7,.p 0 0),(10,.p 1 0),(144,.v (.bool (decide (v ≥ 0))))] cT fun _ az=>qab ?_
  clear cT
  refine qax az.env_ (b:=decide (v ≥ 0)) kz (fun aA=>?_) (fun aA=>?_)
  ·
   have cU:=az.cast (t:=((uv T.U.length) ++ (qcA T.U)) ++ ([] : Bs)) (by rw [if_pos aA])
   clear az
   refine qas [0,1,2,3,4] kz ?_
   refine qdg [0] [1,2,3,4] [(7,.p 0 0),(145,.p 1 0)] cU fun _ cV=>?_
   clear cU
   refine qan (qf8 (d:=146) cV (qk6 T.U e26_U (qeY e26r) _) (fun _=>MvF.tags _ _) Tryz.call182 fun dl fr _ _ cW cX=>?_)
   clear cV
   refine qdg [2,3] [4] [(7,.p 0 0),(146,.v (.agg #[.map dl])),(148,.p 1 2)] cX fun _ cY=>?_
   clear cX
   refine qan (qeZ [⟨bv,0,[.int .i16 v,.slice ak.A ak.l ak.c,.map dl],true⟩] 0 cY fun _ cZ=>?_)
   clear cY
   refine qaf ?_
   have eD:=cZ.pk (env':=[(7,.p 0 0)])
   clear cZ
   refine qab ?_
   exact ⟨dl,T.U,_,fun w F h_=>⟨(cW _ _ h_).1,⟨(cW _ _ h_).2,e26_U.2.1,e26_U.2.2⟩,⟨fun _=>rfl,(fun e_=>by rw [aA] at e_; cases e_)⟩⟩,eD.pk (env':=[(7,.p 0 0)])⟩
  have c5:=az.cast (t:=[] ++ ([] : Bs)) (by rw [if_neg (by rw [aA]; decide)])
  clear az
  have eE:=c5.cast (t:=([] : Bs)) rfl
  clear c5
  refine wp_skip (qab ?_)
  exact ⟨none,[],_,fun w F h_=>⟨h_,⟨MapR.nil _ _,Nat.zero_le _,fun _ h=>by cases h⟩,⟨(fun e_=>by rw [aA] at e_; cases e_),fun _=>rfl⟩⟩,eE.pk (env':=[(7,.p 0 0)])⟩
 rintro _ _ ⟨aX,aD,ft,ao,c6⟩
 refine qab ?_
 refine wp_seq ?_
 refine qas [0,1] kz (qan (qhi (d:=149) c6 qjt Tryz.call176 fun _ da=>?_))
 clear c6
 refine qdg [1] [] [(6,.v (.nilIface))] da fun _ db=>qaf ?_
 clear da
 refine qab ?_
 refine wp_ret ?_
 obtain ⟨A_,m_,c_,hW_,hr_,hE_,hP_⟩:=db.open_
 refine qaK hE_ hW_.cells (v:=.nilIface) kz ?_
 have h_:=db.mv.mono qca hP_
 refine ⟨(dvP aX aD [ak]),rfl,Str.of hW_ 1 rfl,?_,?_,hW_.step⟩
 ·unfold qba
  exact ⟨((eB _ _ (ao _ _ h_).1).2.1),(ao _ _ h_).2.1.1,(ao _ _ h_).2.1.2.1,(ao _ _ h_).2.1.2.2,trivial⟩
 unfold qa3
 exact ⟨((eB _ _ (ao _ _ h_).1).2.2),(ao _ _ h_).2.2,trivial⟩
theorem qbS : qgO qba:=by
 intro w w' F F' M d hs hM hF h
 unfold qba at h ⊢
 obtain ⟨⟨g0,g0l,g0e⟩,t1,t2,t3,_⟩:=h
 exact ⟨⟨g0.move hs hM hF,g0l,fun i hi=>qaY _ hs hM hF (g0e i hi)⟩,t1.move hs hM hF,t2,t3,trivial⟩
end Go.Proofs.YtgolpmkenmedoaaGreatDoor.ME