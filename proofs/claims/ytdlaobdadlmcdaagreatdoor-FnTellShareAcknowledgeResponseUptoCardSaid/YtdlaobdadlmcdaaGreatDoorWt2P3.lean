/- The texts of a claim, put together: the engine, the contracts, the law. Own work. -/
import Derived.Test.YtdlaobdadlmcdaaGreatDoorWt2P2
import Derived.Test.YtdlaobdadlmcdaaGreatDoorProg
import Derived.Deep.LoopGhost
namespace Go.Proofs.YtdlaobdadlmcdaaGreatDoor.ME
open Go
open Go.RowKit
set_option linter.unusedVariables false
set_option linter.unusedSimpArgs false
set_option maxRecDepth 20000
theorem qms {A:Option Addr} {c:Nat} (s:Bs) {w:World} {F:Nat → Nat → Prop} (ho:Octs w F A c s) (hl:2 ≤ s.length) :
  Calls Tryz.prog 135 #[.agg #[],.slice A s.length c] w (qcI w (.int .u16 (be16 s))):=by
 refine enter (n:=18) Tryz.func135 rfl Tryz.ntmps135 kz fun a hE=>?_
 have hW:=WOk.start w Nil
 have ob0:=qcy s 0
 have ob1:=qcy s 1
 refine qaf [0,1] kz ?_
 refine qan (qby hW hE (d:=2) (cs:=[]) kz fun b1 a2 w3 hb4 hz5 hF6 hW7 hE8=>?_)
 refine qak [1] [] [(1,.v (.slice A s.length c))] hW7 hE8 fun a9 af=>?_
 refine qag (qab ?_)
 refine qaf [0,1,2] kz ?_
 refine qak [0] [1,2] [(1,.v (.slice A s.length c)),(5,.v (.slice A s.length c))] hW7 af fun aC ag=>?_
 obtain ⟨av,aw,ac,ax,ab⟩:=Slots.get ho (i:=1) (by omega)
 refine qan (qaB ag (t:=22) (A:=A) (m:=s.length) (q:=1) (d:=6) kz (e:=5) (size:=1) (bytes:=1) (j:=1) kz ac rfl (by omega) fun aD ah=>?_)
 refine qan (qaW ah (t:=5) (b:=av) (o:=aw + 1 * 1) (d:=7) kz (cs:=[.int .u8 ((s.getD 1 0).toNat:Int)]) (v:=.int .u8 ((s.getD 1 0).toNat:Int)) kz (AtF.move ab hW7.step nilM qbi).at_ fun aE ai=>?_)
 refine qag (qab ?_)
 refine qcs kz hW7 fun aF ay aa=>?_
 refine qaF [0,4] [(8,.v (.slice A s.length c)),(12,.v (.slice A s.length c))] 9 (qaa qae) (fun _ h=>h ▸ aa.cells) rfl ai fun aG aj=>?_
 refine qaH aj (i:=1) (t:=22) (A:=A) (m:=s.length) (q:=1) (d:=9) kz (e:=5) (size:=1) (bytes:=1) (j:=1) kz ac rfl (by omega) kz kz (qaa qae) rfl fun aH ak=>?_
 refine qbl ak (i:=2) (t:=5) (b:=av) (o:=aw + 1 * 1) (d:=10) kz (cs:=[.int .u8 ((s.getD 1 0).toNat:Int)]) (v:=.int .u8 ((s.getD 1 0).toNat:Int)) kz (fun w' h'=>h' ▸ (AtF.move ab aa.step nilM qbi).at_) kz kz (qaa qae) rfl fun aI al=>?_
 refine qaF [3] [(11,.v (.int .u16 (IntKind.u16.wrap ((s.getD 1 0).toNat:Int)))),(12,.v (.slice A s.length c))] 6 (qaa qae) (fun _ h=>h ▸ aa.cells) rfl al fun aJ am=>?_
 obtain ⟨az,aA,ao,aB,ae⟩:=Slots.get ho (i:=0) (by omega)
 refine qaH am (i:=5) (t:=22) (A:=A) (m:=s.length) (q:=0) (d:=13) kz (e:=5) (size:=1) (bytes:=1) (j:=0) kz ao rfl (by omega) kz kz (qaa qae) rfl fun aK ap=>?_
 refine qbl ap (i:=6) (t:=5) (b:=az) (o:=aA + 0 * 1) (d:=14) kz (cs:=[.int .u8 ((s.getD 0 0).toNat:Int)]) (v:=.int .u8 ((s.getD 0 0).toNat:Int)) kz (fun w' h'=>h' ▸ (AtF.move ae aa.step nilM qbi).at_) kz kz (qaa qae) rfl fun aL ar=>?_
 refine qaF [7,8,9,10] [(4,.v (.int .u16 (IntKind.u16.wrap (zB 16 (IntKind.u16.wrap ((s.getD 1 0).toNat:Int)) ||| zB 16 (IntKind.u16.wrap ((IntKind.u16.wrap ((s.getD 0 0).toNat:Int)) * 256))).toNat)))] 0 (qaa qae) (fun _ h=>h ▸ aa.cells) rfl ar fun aM au=>?_
 refine qaC kz ?_ _
 refine qab (wp_ret (qaK au aa.cells (v:=.int .u16 (IntKind.u16.wrap (zB 16 (IntKind.u16.wrap ((s.getD 1 0).toNat:Int)) ||| zB 16 (IntKind.u16.wrap ((IntKind.u16.wrap ((s.getD 0 0).toNat:Int)) * 256))).toNat)) kz ?_))
 exact ⟨congrArg Ending.returned (congrArg (Value.int IntKind.u16) (ql5 (oc s 0) (oc s 1) ob0 ob1)),aa.step⟩
theorem qmt {A:Option Addr} {c:Nat} (s:Bs) {w:World} {F:Nat → Nat → Prop} (ho:Octs w F A c s) (hl:4 ≤ s.length) :
  Calls Tryz.prog 136 #[.agg #[],.slice A s.length c] w (qcI w (.int .u32 (be32 s))):=by
 refine enter (n:=30) Tryz.func136 rfl Tryz.ntmps136 kz fun a hE=>?_
 have hW:=WOk.start w Nil
 have ob0:=qcy s 0
 have ob1:=qcy s 1
 have ob2:=qcy s 2
 have ob3:=qcy s 3
 refine qaf [0,1] kz ?_
 refine qan (qby hW hE (d:=2) (cs:=[]) kz fun b1 a2 w3 hb4 hz5 hF6 hW7 hE8=>?_)
 refine qak [1] [] [(1,.v (.slice A s.length c))] hW7 hE8 fun a9 ah=>?_
 refine qag (qab ?_)
 refine qaf [0,1,2] kz ?_
 refine qak [0] [1,2] [(1,.v (.slice A s.length c)),(5,.v (.slice A s.length c))] hW7 ah fun aS ai=>?_
 obtain ⟨aF,aG,ac,aH,ab⟩:=Slots.get ho (i:=3) (by omega)
 refine qan (qaB ai (t:=22) (A:=A) (m:=s.length) (q:=3) (d:=6) kz (e:=5) (size:=1) (bytes:=1) (j:=3) kz ac rfl (by omega) fun aT aj=>?_)
 refine qan (qaW aj (t:=5) (b:=aF) (o:=aG + 3 * 1) (d:=7) kz (cs:=[.int .u8 ((s.getD 3 0).toNat:Int)]) (v:=.int .u8 ((s.getD 3 0).toNat:Int)) kz (AtF.move ab hW7.step nilM qbi).at_ fun aU ak=>?_)
 refine qag (qab ?_)
 refine qcs kz hW7 fun aV aI aa=>?_
 refine qaF [0,4,10,16] [(8,.v (.slice A s.length c)),(12,.v (.slice A s.length c)),(18,.v (.slice A s.length c)),(24,.v (.slice A s.length c))] 19 (qaa qae) (fun _ h=>h ▸ aa.cells) rfl ak fun aW al=>?_
 refine qaH al (i:=1) (t:=22) (A:=A) (m:=s.length) (q:=3) (d:=9) kz (e:=5) (size:=1) (bytes:=1) (j:=3) kz ac rfl (by omega) kz kz (qaa qae) rfl fun aX am=>?_
 refine qbl am (i:=2) (t:=5) (b:=aF) (o:=aG + 3 * 1) (d:=10) kz (cs:=[.int .u8 ((s.getD 3 0).toNat:Int)]) (v:=.int .u8 ((s.getD 3 0).toNat:Int)) kz (fun w' h'=>h' ▸ (AtF.move ab aa.step nilM qbi).at_) kz kz (qaa qae) rfl fun aY ao=>?_
 refine qaF [3] [(11,.v (.int .u32 (zU ((s.getD 3 0).toNat:Int)))),(12,.v (.slice A s.length c)),(18,.v (.slice A s.length c)),(24,.v (.slice A s.length c))] 16 (qaa qae) (fun _ h=>h ▸ aa.cells) rfl ao fun aZ ap=>?_
 obtain ⟨aJ,aK,ar,aL,ae⟩:=Slots.get ho (i:=2) (by omega)
 refine qaH ap (i:=5) (t:=22) (A:=A) (m:=s.length) (q:=2) (d:=13) kz (e:=5) (size:=1) (bytes:=1) (j:=2) kz ar rfl (by omega) kz kz (qaa qae) rfl fun ba au=>?_
 refine qbl au (i:=6) (t:=5) (b:=aJ) (o:=aK + 2 * 1) (d:=14) kz (cs:=[.int .u8 ((s.getD 2 0).toNat:Int)]) (v:=.int .u8 ((s.getD 2 0).toNat:Int)) kz (fun w' h'=>h' ▸ (AtF.move ae aa.step nilM qbi).at_) kz kz (qaa qae) rfl fun bd av=>?_
 refine qaF [7,8,9] [(17,.v (.int .u32 (zU (zB 32 (zU ((s.getD 3 0).toNat:Int)) ||| zB 32 (zU ((zU ((s.getD 2 0).toNat:Int)) * 256))).toNat))),(18,.v (.slice A s.length c)),(24,.v (.slice A s.length c))] 11 (qaa qae) (fun _ h=>h ▸ aa.cells) rfl av fun bf aw=>?_
 obtain ⟨aM,aN,ax,aO,af⟩:=Slots.get ho (i:=1) (by omega)
 refine qaH aw (i:=11) (t:=22) (A:=A) (m:=s.length) (q:=1) (d:=19) kz (e:=5) (size:=1) (bytes:=1) (j:=1) kz ax rfl (by omega) kz kz (qaa qae) rfl fun bg ay=>?_
 refine qbl ay (i:=12) (t:=5) (b:=aM) (o:=aN + 1 * 1) (d:=20) kz (cs:=[.int .u8 ((s.getD 1 0).toNat:Int)]) (v:=.int .u8 ((s.getD 1 0).toNat:Int)) kz (fun w' h'=>h' ▸ (AtF.move af aa.step nilM qbi).at_) kz kz (qaa qae) rfl fun bh az=>?_
 refine qaF [13,14,15] [(23,.v (.int .u32 (zU (zB 32 (zU (zB 32 (zU ((s.getD 3 0).toNat:Int)) ||| zB 32 (zU ((zU ((s.getD 2 0).toNat:Int)) * 256))).toNat) ||| zB 32 (zU ((zU ((s.getD 1 0).toNat:Int)) * 65536))).toNat))),(24,.v (.slice A s.length c))] 6 (qaa qae) (fun _ h=>h ▸ aa.cells) rfl az fun bi aA=>?_
 obtain ⟨aP,aQ,aB,aR,ag⟩:=Slots.get ho (i:=0) (by omega)
 refine qaH aA (i:=17) (t:=22) (A:=A) (m:=s.length) (q:=0) (d:=25) kz (e:=5) (size:=1) (bytes:=1) (j:=0) kz aB rfl (by omega) kz kz (qaa qae) rfl fun bj aC=>?_
 refine qbl aC (i:=18) (t:=5) (b:=aP) (o:=aQ + 0 * 1) (d:=26) kz (cs:=[.int .u8 ((s.getD 0 0).toNat:Int)]) (v:=.int .u8 ((s.getD 0 0).toNat:Int)) kz (fun w' h'=>h' ▸ (AtF.move ag aa.step nilM qbi).at_) kz kz (qaa qae) rfl fun bk aD=>?_
 refine qaF [19,20,21,22] [(4,.v (.int .u32 (zU (zB 32 (zU (zB 32 (zU (zB 32 (zU ((s.getD 3 0).toNat:Int)) ||| zB 32 (zU ((zU ((s.getD 2 0).toNat:Int)) * 256))).toNat) ||| zB 32 (zU ((zU ((s.getD 1 0).toNat:Int)) * 65536))).toNat) ||| zB 32 (zU ((zU ((s.getD 0 0).toNat:Int)) * 16777216))).toNat)))] 0 (qaa qae) (fun _ h=>h ▸ aa.cells) rfl aD fun bn aE=>?_
 refine qaC kz ?_ _
 refine qab (wp_ret (qaK aE aa.cells (v:=.int .u32 (zU (zB 32 (zU (zB 32 (zU (zB 32 (zU ((s.getD 3 0).toNat:Int)) ||| zB 32 (zU ((zU ((s.getD 2 0).toNat:Int)) * 256))).toNat) ||| zB 32 (zU ((zU ((s.getD 1 0).toNat:Int)) * 65536))).toNat) ||| zB 32 (zU ((zU ((s.getD 0 0).toNat:Int)) * 16777216))).toNat)) kz ?_))
 exact ⟨congrArg Ending.returned (congrArg (Value.int IntKind.u32) (ql6 (oc s 0) (oc s 1) (oc s 2) (oc s 3) ob0 ob1 ob2 ob3)),aa.step⟩
theorem qir (x:Int) (rest:Bs)  {br:Nat} {A:Option Addr} {m c:Nat} {w:World} {F:Nat → Nat → Prop} (hst:Str w br [.slice A m c,.bool false]) (hr:RdS w F A m c (be 2 x ++ rest)) (hFd:∀ b o,F b o → ¬ RdM br b o) :
  Calls Tryz.prog 89 #[.pointer (some ⟨br,0,none⟩)] w (RdPost w br F rest fun v w'=>v = .int .i16 (IntKind.i16.wrap x)):=by
 obtain ⟨hm,ho⟩:=hr
 subst hm
 have hle:=ho.le
 refine enter (n:=32) Tryz.func89 rfl Tryz.ntmps89 kz fun a hE=>?_
 have hW:WOk w (RdM br) w [⟨br,0,[.slice A ((be 2 x ++ rest).length) c,.bool false],true⟩] []:=WOk.startStr hst
 have hE1:=(hE.grow ⟨br,0,[.slice A ((be 2 x ++ rest).length) c,.bool false],true⟩).recast 0 (.v (.pointer (some ⟨br,0,none⟩))) (.p 0 0) rfl rfl (zN (n:=1) rfl)
 refine qas [(0,.p 0 0)] hW hE1 fun a1 hE2=>?_
 refine wp_seq (qas [(0,.p 0 0),(9,.v (.bool (decide ((((be 2 x ++ rest).length:Nat):Int) < 2))))] hW hE2 fun a3 hE4=>?_)
 refine qaq hE4 (b:=decide ((((be 2 x ++ rest).length:Nat):Int) < 2)) kz (decide_eq_false (by first | omega | (simp only [List.length_append,be_length,List.length_cons,List.length_nil] at *; omega))) ?_
 refine wp_skip (qab (qaE 7 kz hW fun w5 hF6 hW7 hT8=>?_))
 refine qaF [1,2,3,4] [(0,.p 0 0),(20,.v (.slice A ((be 2 x ++ rest).length) c))] 4 (qaa qae) (fun _ h=>h.cells) hT8 hE4 fun a9 af=>?_
 refine qbl af (i:=0) (t:=181) (b:=0) (o:=0) (d:=16) kz (cs:=[]) (v:=.agg #[]) kz (fun w' h'=>(fun j_ v_ h_=>by simp at h_)) kz kz (qaa qae) hT8 fun av ag=>?_
 refine qap (i:=5) kz (qal ag (f:=135) (vs:=[.agg #[],.slice A ((be 2 x ++ rest).length) c]) (d:=21) kz Tryz.call135 (qms _ (ho.move hW7.step (fun b_ o_ h_ _=>hFd b_ o_ h_) (hW7.immM hFd)) (by first | omega | (simp only [List.length_append,be_length,List.length_cons,List.length_nil] at *; omega))) ?_)
 rintro e_ aw ⟨rfl,ac⟩
 refine ⟨_,rfl,fun ax ah=>?_⟩
 have aa:=hW7.next_nil ac
 have ai:=hW7.frN ac
 have ae:=TT.ofW ai aa
 refine ⟨fun _=>ae,?_⟩
 refine qaF [6] [(0,.p 0 0),(22,.v (.int .i16 (IntKind.i16.wrap (be16 (be 2 x ++ rest)))))] 1 (qaa qae) (fun _ h=>h.cells) ae ah fun ay aj=>?_
 refine qap (i:=7) kz (qbq [0,3] aa.cells aj (env':=[(0,.p 0 0),(3,.v (.int .i16 (IntKind.i16.wrap (be16 (be 2 x ++ rest)))))]) kz fun az ak=>?_)
 refine ⟨fun h=>absurd rfl h,?_⟩
 refine qaC kz ?_ _
 refine qab (qaf [0,1,2,3,4,5,6,7,8] kz ?_)
 refine qak [0,1,2,3,4] [5,6,7,8] [(3,.v (.int .i16 (IntKind.i16.wrap (be16 (be 2 x ++ rest))))),(23,.p 0 0),(27,.v (.slice A ((be 2 x ++ rest).length) c))] aa ak fun aA al=>?_
 refine qan (qdR al (t:=22) (A:=A) (m:=((be 2 x ++ rest).length)) (cp:=c) (q:=2) (d:=28) (j:=2) kz (e:=5) (bytes:=1) kz (rfl) (by first | omega | (simp only [List.length_append,be_length,List.length_cons,List.length_nil] at *; omega)) fun aB am=>?_)
 refine qak [6,7] [8] [(3,.v (.int .i16 (IntKind.i16.wrap (be16 (be 2 x ++ rest))))),(28,.v (.slice (cutA A c 2) (((be 2 x ++ rest).length) - 2) (c - 2))),(30,.p 0 0)] aa am fun aC ao=>?_
 refine qan (qao aa ao (oi:=0) (cs:=[.slice (cutA A c 2) (((be 2 x ++ rest).length) - 2) (c - 2),.bool false]) kz fun aD au ab ap=>?_)
 refine qag (qab ?_)
 refine qas [(2,.v (.int .i16 (IntKind.i16.wrap (be16 (be 2 x ++ rest)))))] ab ap fun aE ar=>?_
 refine wp_ret (qaK ar ab.cells (v:=.int .i16 (IntKind.i16.wrap (be16 (be 2 x ++ rest)))) kz ?_)
 exact ⟨_,_,_,_,rfl,Str.of ab 0 rfl,RdS.drop (s:=be 2 x) ⟨rfl,ho.move ab.step (fun b_ o_ h_ _=>hFd b_ o_ h_) qbi⟩ (by simp only [be_length,List.length_cons,List.length_nil]),ab.step,by rw [qlx,qlz]⟩
theorem qk6 (x:Int) (rest:Bs)  {br:Nat} {A:Option Addr} {m c:Nat} {w:World} {F:Nat → Nat → Prop} (hst:Str w br [.slice A m c,.bool false]) (hr:RdS w F A m c (be 4 x ++ rest)) (hFd:∀ b o,F b o → ¬ RdM br b o) :
  Calls Tryz.prog 95 #[.pointer (some ⟨br,0,none⟩)] w (RdPost w br F rest fun v w'=>v = .int .i32 (IntKind.i32.wrap x)):=by
 obtain ⟨hm,ho⟩:=hr
 subst hm
 have hle:=ho.le
 refine enter (n:=32) Tryz.func95 rfl Tryz.ntmps95 kz fun a hE=>?_
 have hW:WOk w (RdM br) w [⟨br,0,[.slice A ((be 4 x ++ rest).length) c,.bool false],true⟩] []:=WOk.startStr hst
 have hE1:=(hE.grow ⟨br,0,[.slice A ((be 4 x ++ rest).length) c,.bool false],true⟩).recast 0 (.v (.pointer (some ⟨br,0,none⟩))) (.p 0 0) rfl rfl (zN (n:=1) rfl)
 refine qas [(0,.p 0 0)] hW hE1 fun a1 hE2=>?_
 refine wp_seq (qas [(0,.p 0 0),(9,.v (.bool (decide ((((be 4 x ++ rest).length:Nat):Int) < 4))))] hW hE2 fun a3 hE4=>?_)
 refine qaq hE4 (b:=decide ((((be 4 x ++ rest).length:Nat):Int) < 4)) kz (decide_eq_false (by first | omega | (simp only [List.length_append,be_length,List.length_cons,List.length_nil] at *; omega))) ?_
 refine wp_skip (qab (qaE 7 kz hW fun w5 hF6 hW7 hT8=>?_))
 refine qaF [1,2,3,4] [(0,.p 0 0),(20,.v (.slice A ((be 4 x ++ rest).length) c))] 4 (qaa qae) (fun _ h=>h.cells) hT8 hE4 fun a9 af=>?_
 refine qbl af (i:=0) (t:=181) (b:=0) (o:=0) (d:=16) kz (cs:=[]) (v:=.agg #[]) kz (fun w' h'=>(fun j_ v_ h_=>by simp at h_)) kz kz (qaa qae) hT8 fun av ag=>?_
 refine qap (i:=5) kz (qal ag (f:=136) (vs:=[.agg #[],.slice A ((be 4 x ++ rest).length) c]) (d:=21) kz Tryz.call136 (qmt _ (ho.move hW7.step (fun b_ o_ h_ _=>hFd b_ o_ h_) (hW7.immM hFd)) (by first | omega | (simp only [List.length_append,be_length,List.length_cons,List.length_nil] at *; omega))) ?_)
 rintro e_ aw ⟨rfl,ac⟩
 refine ⟨_,rfl,fun ax ah=>?_⟩
 have aa:=hW7.next_nil ac
 have ai:=hW7.frN ac
 have ae:=TT.ofW ai aa
 refine ⟨fun _=>ae,?_⟩
 refine qaF [6] [(0,.p 0 0),(22,.v (.int .i32 (IntKind.i32.wrap (be32 (be 4 x ++ rest)))))] 1 (qaa qae) (fun _ h=>h.cells) ae ah fun ay aj=>?_
 refine qap (i:=7) kz (qbq [0,3] aa.cells aj (env':=[(0,.p 0 0),(3,.v (.int .i32 (IntKind.i32.wrap (be32 (be 4 x ++ rest)))))]) kz fun az ak=>?_)
 refine ⟨fun h=>absurd rfl h,?_⟩
 refine qaC kz ?_ _
 refine qab (qaf [0,1,2,3,4,5,6,7,8] kz ?_)
 refine qak [0,1,2,3,4] [5,6,7,8] [(3,.v (.int .i32 (IntKind.i32.wrap (be32 (be 4 x ++ rest))))),(23,.p 0 0),(27,.v (.slice A ((be 4 x ++ rest).length) c))] aa ak fun aA al=>?_
 refine qan (qdR al (t:=22) (A:=A) (m:=((be 4 x ++ rest).length)) (cp:=c) (q:=4) (d:=28) (j:=4) kz (e:=5) (bytes:=1) kz (rfl) (by first | omega | (simp only [List.length_append,be_length,List.length_cons,List.length_nil] at *; omega)) fun aB am=>?_)
 refine qak [6,7] [8] [(3,.v (.int .i32 (IntKind.i32.wrap (be32 (be 4 x ++ rest))))),(28,.v (.slice (cutA A c 4) (((be 4 x ++ rest).length) - 4) (c - 4))),(30,.p 0 0)] aa am fun aC ao=>?_
 refine qan (qao aa ao (oi:=0) (cs:=[.slice (cutA A c 4) (((be 4 x ++ rest).length) - 4) (c - 4),.bool false]) kz fun aD au ab ap=>?_)
 refine qag (qab ?_)
 refine qas [(2,.v (.int .i32 (IntKind.i32.wrap (be32 (be 4 x ++ rest)))))] ab ap fun aE ar=>?_
 refine wp_ret (qaK ar ab.cells (v:=.int .i32 (IntKind.i32.wrap (be32 (be 4 x ++ rest)))) kz ?_)
 exact ⟨_,_,_,_,rfl,Str.of ab 0 rfl,RdS.drop (s:=be 4 x) ⟨rfl,ho.move ab.step (fun b_ o_ h_ _=>hFd b_ o_ h_) qbi⟩ (by simp only [be_length,List.length_cons,List.length_nil]),ab.step,by rw [qly,qlA]⟩
abbrev z73 (x0) (x1) (x2):=([(0,.v (.slice x0 x1 x2)),(9,.v (.slice x0 x1 x2))]:Env)
theorem rUv1 {A:Option Addr} {c:Nat} (s:Bs) {w:World} {F:Nat → Nat → Prop} (ho:Octs w F A c s) (hl:1 ≤ s.length) (d0:Nat) (h0:oc s 0 = d0) (g0:d0 < 128) :
  Calls Tryz.prog 145 #[.slice A s.length c] w (qcI w (.tuple #[.int .u32 ((d0:Nat):Int),.int .i64 1])):=by
 refine enter (n:=87) Tryz.func145 rfl Tryz.ntmps145 kz fun a hE=>?_
 have hW:=WOk.start w Nil
 refine qas (z67 A s.length c) hW hE fun a1 hE2=>?_
 refine wp_scope_straight (qas (z67 A s.length c) hW hE2 fun a3 hE4=>?_)
 refine qas (z67 A s.length c) hW hE4 fun a5 hE6=>?_
 refine wp_seq (qas [(0,.v (.slice A s.length c)),(8,.v (.bool (decide (((s.length:Nat):Int) < 1))))] hW hE6 fun a7 hE8=>?_)
 refine qaq hE8 (b:=decide (((s.length:Nat):Int) < 1)) kz (decide_eq_false (by omega)) ?_
 refine wp_skip (qab (qaf [0,1,2,3,4,5] kz ?_))
 refine qak [0] [1,2,3,4,5] (z73 A s.length c) hW hE8 fun a9 ae=>?_
 obtain ⟨am,ao,ab,ap,aa⟩:=Slots.get ho (i:=0) (by first | omega | (simp only [List.length_append,be_length,List.length_cons,List.length_nil] at *; omega))
 refine qan (qaB ae (t:=22) (A:=A) (m:=s.length) (q:=0) (d:=10) kz (e:=5) (size:=1) (bytes:=1) (j:=0) kz ab rfl (by first | omega | (simp only [List.length_append,be_length,List.length_cons,List.length_nil] at *; omega)) fun ar af=>?_)
 refine qan (qaW af (t:=5) (b:=am) (o:=ao + 0 * 1) (d:=11) kz (cs:=[.int .u8 ((s.getD 0 0).toNat:Int)]) (v:=.int .u8 ((s.getD 0 0).toNat:Int)) kz (AtF.move aa hW.step nilM qbi).at_ fun au ag=>?_)
 refine qak [3,4,5] [] [(0,.v (.slice A s.length c)),(4,.v (.int .u32 (zU (IntKind.u8.wrap (zB 8 ((s.getD 0 0).toNat:Int) &&& zB 8 127).toNat))))] hW ag fun av ah=>?_
 refine qag (qab ?_)
 refine wp_seq (qaf [0,1,2,3,4] kz ?_)
 refine qak [0] [1,2,3,4] [(0,.v (.slice A s.length c)),(4,.v (.int .u32 (zU (IntKind.u8.wrap (zB 8 ((s.getD 0 0).toNat:Int) &&& zB 8 127).toNat)))),(14,.v (.slice A s.length c))] hW ah fun aw ai=>?_
 refine qan (qaB ai (t:=22) (A:=A) (m:=s.length) (q:=0) (d:=15) kz (e:=5) (size:=1) (bytes:=1) (j:=0) kz ab rfl (by first | omega | (simp only [List.length_append,be_length,List.length_cons,List.length_nil] at *; omega)) fun ax aj=>?_)
 refine qan (qaW aj (t:=5) (b:=am) (o:=ao + 0 * 1) (d:=16) kz (cs:=[.int .u8 ((s.getD 0 0).toNat:Int)]) (v:=.int .u8 ((s.getD 0 0).toNat:Int)) kz (AtF.move aa hW.step nilM qbi).at_ fun ay ak=>?_)
 refine qak [3,4] [] [(0,.v (.slice A s.length c)),(4,.v (.int .u32 (zU (IntKind.u8.wrap (zB 8 ((s.getD 0 0).toNat:Int) &&& zB 8 127).toNat)))),(18,.v (.bool ((IntKind.u8.wrap (zB 8 ((s.getD 0 0).toNat:Int) &&& zB 8 128).toNat) == 0)))] hW ak fun az ac=>?_
 refine qag (qab ?_)
 refine qa9 ac (b:=(IntKind.u8.wrap (zB 8 ((s.getD 0 0).toNat:Int) &&& zB 8 128).toNat) == 0) kz ((qdv _ (qcy s 0)).trans (decide_eq_true (by have:=h0; unfold oc at this; omega))) ?_
 refine qas [(2,.v (.int .u32 (zU (IntKind.u8.wrap (zB 8 ((s.getD 0 0).toNat:Int) &&& zB 8 127).toNat)))),(3,.v (.int .i64 1))] hW ac fun aA al=>?_
 refine wp_ret (qat (qeb (qaK al hW.cells (v:=.tuple #[.int .u32 (zU (IntKind.u8.wrap (zB 8 ((s.getD 0 0).toNat:Int) &&& zB 8 127).toNat)),.int .i64 1]) kz ?_)))
 have e_:=uv_1 (oc s 0) (qcy s 0)
 refine ⟨congrArg (fun z_:Int=>Ending.returned (.tuple #[.int .u32 z_,.int .i64 1])) (Eq.trans e_ ?_),hW.step⟩
 omega
theorem rUv2 {A:Option Addr} {c:Nat} (s:Bs) {w:World} {F:Nat → Nat → Prop} (ho:Octs w F A c s) (hl:2 ≤ s.length) (d0 d1:Nat) (h0:oc s 0 = d0 + 128) (h1:oc s 1 = d1) (g0:d0 < 128) (g1:d1 < 128) :
  Calls Tryz.prog 145 #[.slice A s.length c] w (qcI w (.tuple #[.int .u32 ((d0 + d1 * 128:Nat):Int),.int .i64 2])):=by
 refine enter (n:=87) Tryz.func145 rfl Tryz.ntmps145 kz fun a hE=>?_
 have hW:=WOk.start w Nil
 refine qas (z67 A s.length c) hW hE fun a1 hE2=>?_
 refine wp_scope_straight (qas (z67 A s.length c) hW hE2 fun a3 hE4=>?_)
 refine qas (z67 A s.length c) hW hE4 fun a5 hE6=>?_
 refine wp_seq (qas [(0,.v (.slice A s.length c)),(8,.v (.bool (decide (((s.length:Nat):Int) < 1))))] hW hE6 fun a7 hE8=>?_)
 refine qaq hE8 (b:=decide (((s.length:Nat):Int) < 1)) kz (decide_eq_false (by omega)) ?_
 refine wp_skip (qab (qaf [0,1,2,3,4,5] kz ?_))
 refine qak [0] [1,2,3,4,5] (z73 A s.length c) hW hE8 fun a9 ai=>?_
 obtain ⟨aB,aC,ac,aF,aa⟩:=Slots.get ho (i:=0) (by first | omega | (simp only [List.length_append,be_length,List.length_cons,List.length_nil] at *; omega))
 refine qan (qaB ai (t:=22) (A:=A) (m:=s.length) (q:=0) (d:=10) kz (e:=5) (size:=1) (bytes:=1) (j:=0) kz ac rfl (by first | omega | (simp only [List.length_append,be_length,List.length_cons,List.length_nil] at *; omega)) fun aH aj=>?_)
 refine qan (qaW aj (t:=5) (b:=aB) (o:=aC + 0 * 1) (d:=11) kz (cs:=[.int .u8 ((s.getD 0 0).toNat:Int)]) (v:=.int .u8 ((s.getD 0 0).toNat:Int)) kz (AtF.move aa hW.step nilM qbi).at_ fun aI ak=>?_)
 refine qak [3,4,5] [] [(0,.v (.slice A s.length c)),(4,.v (.int .u32 (zU (IntKind.u8.wrap (zB 8 ((s.getD 0 0).toNat:Int) &&& zB 8 127).toNat))))] hW ak fun aJ al=>?_
 refine qag (qab ?_)
 refine wp_seq (qaf [0,1,2,3,4] kz ?_)
 refine qak [0] [1,2,3,4] [(0,.v (.slice A s.length c)),(4,.v (.int .u32 (zU (IntKind.u8.wrap (zB 8 ((s.getD 0 0).toNat:Int) &&& zB 8 127).toNat)))),(14,.v (.slice A s.length c))] hW al fun aK am=>?_
 refine qan (qaB am (t:=22) (A:=A) (m:=s.length) (q:=0) (d:=15) kz (e:=5) (size:=1) (bytes:=1) (j:=0) kz ac rfl (by first | omega | (simp only [List.length_append,be_length,List.length_cons,List.length_nil] at *; omega)) fun aL ao=>?_)
 refine qan (qaW ao (t:=5) (b:=aB) (o:=aC + 0 * 1) (d:=16) kz (cs:=[.int .u8 ((s.getD 0 0).toNat:Int)]) (v:=.int .u8 ((s.getD 0 0).toNat:Int)) kz (AtF.move aa hW.step nilM qbi).at_ fun aM ap=>?_)
 refine qak [3,4] [] [(0,.v (.slice A s.length c)),(4,.v (.int .u32 (zU (IntKind.u8.wrap (zB 8 ((s.getD 0 0).toNat:Int) &&& zB 8 127).toNat)))),(18,.v (.bool ((IntKind.u8.wrap (zB 8 ((s.getD 0 0).toNat:Int) &&& zB 8 128).toNat) == 0)))] hW ap fun aN ae=>?_
 refine qag (qab ?_)
 refine qaq ae (b:=(IntKind.u8.wrap (zB 8 ((s.getD 0 0).toNat:Int) &&& zB 8 128).toNat) == 0) kz ((qdv _ (qcy s 0)).trans (decide_eq_false (by have:=h0; unfold oc at this; omega))) ?_
 refine qas [(0,.v (.slice A s.length c)),(4,.v (.int .u32 (zU (IntKind.u8.wrap (zB 8 ((s.getD 0 0).toNat:Int) &&& zB 8 127).toNat)))),(22,.v (.bool (decide (((s.length:Nat):Int) < 2))))] hW ae fun aO af=>?_
 refine qaq af (b:=decide (((s.length:Nat):Int) < 2)) kz (decide_eq_false (by omega)) ?_
 refine wp_skip (qab (qaf [0,1,2,3,4,5,6,7,8] kz ?_))
 refine qak [0,1] [2,3,4,5,6,7,8] [(0,.v (.slice A s.length c)),(23,.v (.int .u32 (zU (IntKind.u8.wrap (zB 8 ((s.getD 0 0).toNat:Int) &&& zB 8 127).toNat)))),(24,.v (.slice A s.length c))] hW af fun aP ar=>?_
 obtain ⟨aD,aE,ag,aG,ab⟩:=Slots.get ho (i:=1) (by first | omega | (simp only [List.length_append,be_length,List.length_cons,List.length_nil] at *; omega))
 refine qan (qaB ar (t:=22) (A:=A) (m:=s.length) (q:=1) (d:=25) kz (e:=5) (size:=1) (bytes:=1) (j:=1) kz ag rfl (by first | omega | (simp only [List.length_append,be_length,List.length_cons,List.length_nil] at *; omega)) fun aQ au=>?_)
 refine qan (qaW au (t:=5) (b:=aD) (o:=aE + 1 * 1) (d:=26) kz (cs:=[.int .u8 ((s.getD 1 0).toNat:Int)]) (v:=.int .u8 ((s.getD 1 0).toNat:Int)) kz (AtF.move ab hW.step nilM qbi).at_ fun aR av=>?_)
 refine qak [4,5,6,7,8] [] [(0,.v (.slice A s.length c)),(4,.v (.int .u32 (zU (zB 32 (zU (IntKind.u8.wrap (zB 8 ((s.getD 0 0).toNat:Int) &&& zB 8 127).toNat)) ||| zB 32 (zU ((zU (IntKind.u8.wrap (zB 8 ((s.getD 1 0).toNat:Int) &&& zB 8 127).toNat)) * 128))).toNat)))] hW av fun aS aw=>?_
 refine qag (qab ?_)
 refine wp_seq (qaf [0,1,2,3,4] kz ?_)
 refine qak [0] [1,2,3,4] [(0,.v (.slice A s.length c)),(4,.v (.int .u32 (zU (zB 32 (zU (IntKind.u8.wrap (zB 8 ((s.getD 0 0).toNat:Int) &&& zB 8 127).toNat)) ||| zB 32 (zU ((zU (IntKind.u8.wrap (zB 8 ((s.getD 1 0).toNat:Int) &&& zB 8 127).toNat)) * 128))).toNat))),(31,.v (.slice A s.length c))] hW aw fun aT ax=>?_
 refine qan (qaB ax (t:=22) (A:=A) (m:=s.length) (q:=1) (d:=32) kz (e:=5) (size:=1) (bytes:=1) (j:=1) kz ag rfl (by first | omega | (simp only [List.length_append,be_length,List.length_cons,List.length_nil] at *; omega)) fun aU ay=>?_)
 refine qan (qaW ay (t:=5) (b:=aD) (o:=aE + 1 * 1) (d:=33) kz (cs:=[.int .u8 ((s.getD 1 0).toNat:Int)]) (v:=.int .u8 ((s.getD 1 0).toNat:Int)) kz (AtF.move ab hW.step nilM qbi).at_ fun aV az=>?_)
 refine qak [3,4] [] [(0,.v (.slice A s.length c)),(4,.v (.int .u32 (zU (zB 32 (zU (IntKind.u8.wrap (zB 8 ((s.getD 0 0).toNat:Int) &&& zB 8 127).toNat)) ||| zB 32 (zU ((zU (IntKind.u8.wrap (zB 8 ((s.getD 1 0).toNat:Int) &&& zB 8 127).toNat)) * 128))).toNat))),(35,.v (.bool ((IntKind.u8.wrap (zB 8 ((s.getD 1 0).toNat:Int) &&& zB 8 128).toNat) == 0)))] hW az fun aW ah=>?_
 refine qag (qab ?_)
 refine qa9 ah (b:=(IntKind.u8.wrap (zB 8 ((s.getD 1 0).toNat:Int) &&& zB 8 128).toNat) == 0) kz ((qdv _ (qcy s 1)).trans (decide_eq_true (by have:=h1; unfold oc at this; omega))) ?_
 refine qas [(2,.v (.int .u32 (zU (zB 32 (zU (IntKind.u8.wrap (zB 8 ((s.getD 0 0).toNat:Int) &&& zB 8 127).toNat)) ||| zB 32 (zU ((zU (IntKind.u8.wrap (zB 8 ((s.getD 1 0).toNat:Int) &&& zB 8 127).toNat)) * 128))).toNat))),(3,.v (.int .i64 2))] hW ah fun aX aA=>?_
 refine wp_ret (qat (qeb (qaK aA hW.cells (v:=.tuple #[.int .u32 (zU (zB 32 (zU (IntKind.u8.wrap (zB 8 ((s.getD 0 0).toNat:Int) &&& zB 8 127).toNat)) ||| zB 32 (zU ((zU (IntKind.u8.wrap (zB 8 ((s.getD 1 0).toNat:Int) &&& zB 8 127).toNat)) * 128))).toNat),.int .i64 2]) kz ?_)))
 have e_:=uv_2 (oc s 0) (oc s 1) (qcy s 0) (qcy s 1)
 refine ⟨congrArg (fun z_:Int=>Ending.returned (.tuple #[.int .u32 z_,.int .i64 2])) (Eq.trans e_ ?_),hW.step⟩
 omega
theorem rUv3 {A:Option Addr} {c:Nat} (s:Bs) {w:World} {F:Nat → Nat → Prop} (ho:Octs w F A c s) (hl:3 ≤ s.length) (d0 d1 d2:Nat) (h0:oc s 0 = d0 + 128) (h1:oc s 1 = d1 + 128) (h2:oc s 2 = d2) (g0:d0 < 128) (g1:d1 < 128) (g2:d2 < 128) :
  Calls Tryz.prog 145 #[.slice A s.length c] w (qcI w (.tuple #[.int .u32 ((d0 + d1 * 128 + d2 * 16384:Nat):Int),.int .i64 3])):=by
 refine enter (n:=87) Tryz.func145 rfl Tryz.ntmps145 kz fun a hE=>?_
 have hW:=WOk.start w Nil
 refine qas (z67 A s.length c) hW hE fun a1 hE2=>?_
 refine wp_scope_straight (qas (z67 A s.length c) hW hE2 fun a3 hE4=>?_)
 refine qas (z67 A s.length c) hW hE4 fun a5 hE6=>?_
 refine wp_seq (qas [(0,.v (.slice A s.length c)),(8,.v (.bool (decide (((s.length:Nat):Int) < 1))))] hW hE6 fun a7 hE8=>?_)
 refine qaq hE8 (b:=decide (((s.length:Nat):Int) < 1)) kz (decide_eq_false (by omega)) ?_
 refine wp_skip (qab (qaf [0,1,2,3,4,5] kz ?_))
 refine qak [0] [1,2,3,4,5] (z73 A s.length c) hW hE8 fun a9 am=>?_
 obtain ⟨aM,aN,ae,aS,aa⟩:=Slots.get ho (i:=0) (by first | omega | (simp only [List.length_append,be_length,List.length_cons,List.length_nil] at *; omega))
 refine qan (qaB am (t:=22) (A:=A) (m:=s.length) (q:=0) (d:=10) kz (e:=5) (size:=1) (bytes:=1) (j:=0) kz ae rfl (by first | omega | (simp only [List.length_append,be_length,List.length_cons,List.length_nil] at *; omega)) fun aV ao=>?_)
 refine qan (qaW ao (t:=5) (b:=aM) (o:=aN + 0 * 1) (d:=11) kz (cs:=[.int .u8 ((s.getD 0 0).toNat:Int)]) (v:=.int .u8 ((s.getD 0 0).toNat:Int)) kz (AtF.move aa hW.step nilM qbi).at_ fun aW ap=>?_)
 refine qak [3,4,5] [] [(0,.v (.slice A s.length c)),(4,.v (.int .u32 (zU (IntKind.u8.wrap (zB 8 ((s.getD 0 0).toNat:Int) &&& zB 8 127).toNat))))] hW ap fun aX ar=>?_
 refine qag (qab ?_)
 refine wp_seq (qaf [0,1,2,3,4] kz ?_)
 refine qak [0] [1,2,3,4] [(0,.v (.slice A s.length c)),(4,.v (.int .u32 (zU (IntKind.u8.wrap (zB 8 ((s.getD 0 0).toNat:Int) &&& zB 8 127).toNat)))),(14,.v (.slice A s.length c))] hW ar fun aY au=>?_
 refine qan (qaB au (t:=22) (A:=A) (m:=s.length) (q:=0) (d:=15) kz (e:=5) (size:=1) (bytes:=1) (j:=0) kz ae rfl (by first | omega | (simp only [List.length_append,be_length,List.length_cons,List.length_nil] at *; omega)) fun aZ av=>?_)
 refine qan (qaW av (t:=5) (b:=aM) (o:=aN + 0 * 1) (d:=16) kz (cs:=[.int .u8 ((s.getD 0 0).toNat:Int)]) (v:=.int .u8 ((s.getD 0 0).toNat:Int)) kz (AtF.move aa hW.step nilM qbi).at_ fun ba aw=>?_)
 refine qak [3,4] [] [(0,.v (.slice A s.length c)),(4,.v (.int .u32 (zU (IntKind.u8.wrap (zB 8 ((s.getD 0 0).toNat:Int) &&& zB 8 127).toNat)))),(18,.v (.bool ((IntKind.u8.wrap (zB 8 ((s.getD 0 0).toNat:Int) &&& zB 8 128).toNat) == 0)))] hW aw fun bd af=>?_
 refine qag (qab ?_)
 refine qaq af (b:=(IntKind.u8.wrap (zB 8 ((s.getD 0 0).toNat:Int) &&& zB 8 128).toNat) == 0) kz ((qdv _ (qcy s 0)).trans (decide_eq_false (by have:=h0; unfold oc at this; omega))) ?_
 refine qas [(0,.v (.slice A s.length c)),(4,.v (.int .u32 (zU (IntKind.u8.wrap (zB 8 ((s.getD 0 0).toNat:Int) &&& zB 8 127).toNat)))),(22,.v (.bool (decide (((s.length:Nat):Int) < 2))))] hW af fun bf ag=>?_
 refine qaq ag (b:=decide (((s.length:Nat):Int) < 2)) kz (decide_eq_false (by omega)) ?_
 refine wp_skip (qab (qaf [0,1,2,3,4,5,6,7,8] kz ?_))
 refine qak [0,1] [2,3,4,5,6,7,8] [(0,.v (.slice A s.length c)),(23,.v (.int .u32 (zU (IntKind.u8.wrap (zB 8 ((s.getD 0 0).toNat:Int) &&& zB 8 127).toNat)))),(24,.v (.slice A s.length c))] hW ag fun bg ax=>?_
 obtain ⟨aO,aP,ah,aT,ab⟩:=Slots.get ho (i:=1) (by first | omega | (simp only [List.length_append,be_length,List.length_cons,List.length_nil] at *; omega))
 refine qan (qaB ax (t:=22) (A:=A) (m:=s.length) (q:=1) (d:=25) kz (e:=5) (size:=1) (bytes:=1) (j:=1) kz ah rfl (by first | omega | (simp only [List.length_append,be_length,List.length_cons,List.length_nil] at *; omega)) fun bh ay=>?_)
 refine qan (qaW ay (t:=5) (b:=aO) (o:=aP + 1 * 1) (d:=26) kz (cs:=[.int .u8 ((s.getD 1 0).toNat:Int)]) (v:=.int .u8 ((s.getD 1 0).toNat:Int)) kz (AtF.move ab hW.step nilM qbi).at_ fun bi az=>?_)
 refine qak [4,5,6,7,8] [] [(0,.v (.slice A s.length c)),(4,.v (.int .u32 (zU (zB 32 (zU (IntKind.u8.wrap (zB 8 ((s.getD 0 0).toNat:Int) &&& zB 8 127).toNat)) ||| zB 32 (zU ((zU (IntKind.u8.wrap (zB 8 ((s.getD 1 0).toNat:Int) &&& zB 8 127).toNat)) * 128))).toNat)))] hW az fun bj aA=>?_
 refine qag (qab ?_)
 refine wp_seq (qaf [0,1,2,3,4] kz ?_)
 refine qak [0] [1,2,3,4] [(0,.v (.slice A s.length c)),(4,.v (.int .u32 (zU (zB 32 (zU (IntKind.u8.wrap (zB 8 ((s.getD 0 0).toNat:Int) &&& zB 8 127).toNat)) ||| zB 32 (zU ((zU (IntKind.u8.wrap (zB 8 ((s.getD 1 0).toNat:Int) &&& zB 8 127).toNat)) * 128))).toNat))),(31,.v (.slice A s.length c))] hW aA fun bk aB=>?_
 refine qan (qaB aB (t:=22) (A:=A) (m:=s.length) (q:=1) (d:=32) kz (e:=5) (size:=1) (bytes:=1) (j:=1) kz ah rfl (by first | omega | (simp only [List.length_append,be_length,List.length_cons,List.length_nil] at *; omega)) fun bn aC=>?_)
 refine qan (qaW aC (t:=5) (b:=aO) (o:=aP + 1 * 1) (d:=33) kz (cs:=[.int .u8 ((s.getD 1 0).toNat:Int)]) (v:=.int .u8 ((s.getD 1 0).toNat:Int)) kz (AtF.move ab hW.step nilM qbi).at_ fun bo aD=>?_)
 refine qak [3,4] [] [(0,.v (.slice A s.length c)),(4,.v (.int .u32 (zU (zB 32 (zU (IntKind.u8.wrap (zB 8 ((s.getD 0 0).toNat:Int) &&& zB 8 127).toNat)) ||| zB 32 (zU ((zU (IntKind.u8.wrap (zB 8 ((s.getD 1 0).toNat:Int) &&& zB 8 127).toNat)) * 128))).toNat))),(35,.v (.bool ((IntKind.u8.wrap (zB 8 ((s.getD 1 0).toNat:Int) &&& zB 8 128).toNat) == 0)))] hW aD fun bp ai=>?_
 refine qag (qab ?_)
 refine qaq ai (b:=(IntKind.u8.wrap (zB 8 ((s.getD 1 0).toNat:Int) &&& zB 8 128).toNat) == 0) kz ((qdv _ (qcy s 1)).trans (decide_eq_false (by have:=h1; unfold oc at this; omega))) ?_
 refine qas [(0,.v (.slice A s.length c)),(4,.v (.int .u32 (zU (zB 32 (zU (IntKind.u8.wrap (zB 8 ((s.getD 0 0).toNat:Int) &&& zB 8 127).toNat)) ||| zB 32 (zU ((zU (IntKind.u8.wrap (zB 8 ((s.getD 1 0).toNat:Int) &&& zB 8 127).toNat)) * 128))).toNat))),(39,.v (.bool (decide (((s.length:Nat):Int) < 3))))] hW ai fun bq aj=>?_
 refine qaq aj (b:=decide (((s.length:Nat):Int) < 3)) kz (decide_eq_false (by omega)) ?_
 refine wp_skip (qab (qaf [0,1,2,3,4,5,6,7,8] kz ?_))
 refine qak [0,1] [2,3,4,5,6,7,8] [(0,.v (.slice A s.length c)),(40,.v (.int .u32 (zU (zB 32 (zU (IntKind.u8.wrap (zB 8 ((s.getD 0 0).toNat:Int) &&& zB 8 127).toNat)) ||| zB 32 (zU ((zU (IntKind.u8.wrap (zB 8 ((s.getD 1 0).toNat:Int) &&& zB 8 127).toNat)) * 128))).toNat))),(41,.v (.slice A s.length c))] hW aj fun bt aE=>?_
 obtain ⟨aQ,aR,ak,aU,ac⟩:=Slots.get ho (i:=2) (by first | omega | (simp only [List.length_append,be_length,List.length_cons,List.length_nil] at *; omega))
 refine qan (qaB aE (t:=22) (A:=A) (m:=s.length) (q:=2) (d:=42) kz (e:=5) (size:=1) (bytes:=1) (j:=2) kz ak rfl (by first | omega | (simp only [List.length_append,be_length,List.length_cons,List.length_nil] at *; omega)) fun bu aF=>?_)
 refine qan (qaW aF (t:=5) (b:=aQ) (o:=aR + 2 * 1) (d:=43) kz (cs:=[.int .u8 ((s.getD 2 0).toNat:Int)]) (v:=.int .u8 ((s.getD 2 0).toNat:Int)) kz (AtF.move ac hW.step nilM qbi).at_ fun bw aG=>?_)
 refine qak [4,5,6,7,8] [] [(0,.v (.slice A s.length c)),(4,.v (.int .u32 (zU (zB 32 (zU (zB 32 (zU (IntKind.u8.wrap (zB 8 ((s.getD 0 0).toNat:Int) &&& zB 8 127).toNat)) ||| zB 32 (zU ((zU (IntKind.u8.wrap (zB 8 ((s.getD 1 0).toNat:Int) &&& zB 8 127).toNat)) * 128))).toNat) ||| zB 32 (zU ((zU (IntKind.u8.wrap (zB 8 ((s.getD 2 0).toNat:Int) &&& zB 8 127).toNat)) * 16384))).toNat)))] hW aG fun bx aH=>?_
 refine qag (qab ?_)
 refine wp_seq (qaf [0,1,2,3,4] kz ?_)
 refine qak [0] [1,2,3,4] [(0,.v (.slice A s.length c)),(4,.v (.int .u32 (zU (zB 32 (zU (zB 32 (zU (IntKind.u8.wrap (zB 8 ((s.getD 0 0).toNat:Int) &&& zB 8 127).toNat)) ||| zB 32 (zU ((zU (IntKind.u8.wrap (zB 8 ((s.getD 1 0).toNat:Int) &&& zB 8 127).toNat)) * 128))).toNat) ||| zB 32 (zU ((zU (IntKind.u8.wrap (zB 8 ((s.getD 2 0).toNat:Int) &&& zB 8 127).toNat)) * 16384))).toNat))),(48,.v (.slice A s.length c))] hW aH fun bz aI=>?_
 refine qan (qaB aI (t:=22) (A:=A) (m:=s.length) (q:=2) (d:=49) kz (e:=5) (size:=1) (bytes:=1) (j:=2) kz ak rfl (by first | omega | (simp only [List.length_append,be_length,List.length_cons,List.length_nil] at *; omega)) fun bA aJ=>?_)
 refine qan (qaW aJ (t:=5) (b:=aQ) (o:=aR + 2 * 1) (d:=50) kz (cs:=[.int .u8 ((s.getD 2 0).toNat:Int)]) (v:=.int .u8 ((s.getD 2 0).toNat:Int)) kz (AtF.move ac hW.step nilM qbi).at_ fun bB aK=>?_)
 refine qak [3,4] [] [(0,.v (.slice A s.length c)),(4,.v (.int .u32 (zU (zB 32 (zU (zB 32 (zU (IntKind.u8.wrap (zB 8 ((s.getD 0 0).toNat:Int) &&& zB 8 127).toNat)) ||| zB 32 (zU ((zU (IntKind.u8.wrap (zB 8 ((s.getD 1 0).toNat:Int) &&& zB 8 127).toNat)) * 128))).toNat) ||| zB 32 (zU ((zU (IntKind.u8.wrap (zB 8 ((s.getD 2 0).toNat:Int) &&& zB 8 127).toNat)) * 16384))).toNat))),(52,.v (.bool ((IntKind.u8.wrap (zB 8 ((s.getD 2 0).toNat:Int) &&& zB 8 128).toNat) == 0)))] hW aK fun bC al=>?_
 refine qag (qab ?_)
 refine qa9 al (b:=(IntKind.u8.wrap (zB 8 ((s.getD 2 0).toNat:Int) &&& zB 8 128).toNat) == 0) kz ((qdv _ (qcy s 2)).trans (decide_eq_true (by have:=h2; unfold oc at this; omega))) ?_
 refine qas [(2,.v (.int .u32 (zU (zB 32 (zU (zB 32 (zU (IntKind.u8.wrap (zB 8 ((s.getD 0 0).toNat:Int) &&& zB 8 127).toNat)) ||| zB 32 (zU ((zU (IntKind.u8.wrap (zB 8 ((s.getD 1 0).toNat:Int) &&& zB 8 127).toNat)) * 128))).toNat) ||| zB 32 (zU ((zU (IntKind.u8.wrap (zB 8 ((s.getD 2 0).toNat:Int) &&& zB 8 127).toNat)) * 16384))).toNat))),(3,.v (.int .i64 3))] hW al fun bD aL=>?_
 refine wp_ret (qat (qeb (qaK aL hW.cells (v:=.tuple #[.int .u32 (zU (zB 32 (zU (zB 32 (zU (IntKind.u8.wrap (zB 8 ((s.getD 0 0).toNat:Int) &&& zB 8 127).toNat)) ||| zB 32 (zU ((zU (IntKind.u8.wrap (zB 8 ((s.getD 1 0).toNat:Int) &&& zB 8 127).toNat)) * 128))).toNat) ||| zB 32 (zU ((zU (IntKind.u8.wrap (zB 8 ((s.getD 2 0).toNat:Int) &&& zB 8 127).toNat)) * 16384))).toNat),.int .i64 3]) kz ?_)))
 have e_:=uv_3 (oc s 0) (oc s 1) (oc s 2) (qcy s 0) (qcy s 1) (qcy s 2)
 refine ⟨congrArg (fun z_:Int=>Ending.returned (.tuple #[.int .u32 z_,.int .i64 3])) (Eq.trans e_ ?_),hW.step⟩
 omega
theorem rUv4 {A:Option Addr} {c:Nat} (s:Bs) {w:World} {F:Nat → Nat → Prop} (ho:Octs w F A c s) (hl:4 ≤ s.length) (d0 d1 d2 d3:Nat) (h0:oc s 0 = d0 + 128) (h1:oc s 1 = d1 + 128) (h2:oc s 2 = d2 + 128) (h3:oc s 3 = d3) (g0:d0 < 128) (g1:d1 < 128) (g2:d2 < 128) (g3:d3 < 128) :
  Calls Tryz.prog 145 #[.slice A s.length c] w (qcI w (.tuple #[.int .u32 ((d0 + d1 * 128 + d2 * 16384 + d3 * 2097152:Nat):Int),.int .i64 4])):=by
 refine enter (n:=87) Tryz.func145 rfl Tryz.ntmps145 kz fun a hE=>?_
 have hW:=WOk.start w Nil
 refine qas (z67 A s.length c) hW hE fun a1 hE2=>?_
 refine wp_scope_straight (qas (z67 A s.length c) hW hE2 fun a3 hE4=>?_)
 refine qas (z67 A s.length c) hW hE4 fun a5 hE6=>?_
 refine wp_seq (qas [(0,.v (.slice A s.length c)),(8,.v (.bool (decide (((s.length:Nat):Int) < 1))))] hW hE6 fun a7 hE8=>?_)
 refine qaq hE8 (b:=decide (((s.length:Nat):Int) < 1)) kz (decide_eq_false (by omega)) ?_
 refine wp_skip (qab (qaf [0,1,2,3,4,5] kz ?_))
 refine qak [0] [1,2,3,4,5] (z73 A s.length c) hW hE8 fun a9 av=>?_
 obtain ⟨aX,aY,af,bi,aa⟩:=Slots.get ho (i:=0) (by first | omega | (simp only [List.length_append,be_length,List.length_cons,List.length_nil] at *; omega))
 refine qan (qaB av (t:=22) (A:=A) (m:=s.length) (q:=0) (d:=10) kz (e:=5) (size:=1) (bytes:=1) (j:=0) kz af rfl (by first | omega | (simp only [List.length_append,be_length,List.length_cons,List.length_nil] at *; omega)) fun bo aw=>?_)
 refine qan (qaW aw (t:=5) (b:=aX) (o:=aY + 0 * 1) (d:=11) kz (cs:=[.int .u8 ((s.getD 0 0).toNat:Int)]) (v:=.int .u8 ((s.getD 0 0).toNat:Int)) kz (AtF.move aa hW.step nilM qbi).at_ fun bp ax=>?_)
 refine qak [3,4,5] [] [(0,.v (.slice A s.length c)),(4,.v (.int .u32 (zU (IntKind.u8.wrap (zB 8 ((s.getD 0 0).toNat:Int) &&& zB 8 127).toNat))))] hW ax fun bq ay=>?_
 refine qag (qab ?_)
 refine wp_seq (qaf [0,1,2,3,4] kz ?_)
 refine qak [0] [1,2,3,4] [(0,.v (.slice A s.length c)),(4,.v (.int .u32 (zU (IntKind.u8.wrap (zB 8 ((s.getD 0 0).toNat:Int) &&& zB 8 127).toNat)))),(14,.v (.slice A s.length c))] hW ay fun bt az=>?_
 refine qan (qaB az (t:=22) (A:=A) (m:=s.length) (q:=0) (d:=15) kz (e:=5) (size:=1) (bytes:=1) (j:=0) kz af rfl (by first | omega | (simp only [List.length_append,be_length,List.length_cons,List.length_nil] at *; omega)) fun bu aA=>?_)
 refine qan (qaW aA (t:=5) (b:=aX) (o:=aY + 0 * 1) (d:=16) kz (cs:=[.int .u8 ((s.getD 0 0).toNat:Int)]) (v:=.int .u8 ((s.getD 0 0).toNat:Int)) kz (AtF.move aa hW.step nilM qbi).at_ fun bw aB=>?_)
 refine qak [3,4] [] [(0,.v (.slice A s.length c)),(4,.v (.int .u32 (zU (IntKind.u8.wrap (zB 8 ((s.getD 0 0).toNat:Int) &&& zB 8 127).toNat)))),(18,.v (.bool ((IntKind.u8.wrap (zB 8 ((s.getD 0 0).toNat:Int) &&& zB 8 128).toNat) == 0)))] hW aB fun bx ag=>?_
 refine qag (qab ?_)
 refine qaq ag (b:=(IntKind.u8.wrap (zB 8 ((s.getD 0 0).toNat:Int) &&& zB 8 128).toNat) == 0) kz ((qdv _ (qcy s 0)).trans (decide_eq_false (by have:=h0; unfold oc at this; omega))) ?_
 refine qas [(0,.v (.slice A s.length c)),(4,.v (.int .u32 (zU (IntKind.u8.wrap (zB 8 ((s.getD 0 0).toNat:Int) &&& zB 8 127).toNat)))),(22,.v (.bool (decide (((s.length:Nat):Int) < 2))))] hW ag fun bz ah=>?_
 refine qaq ah (b:=decide (((s.length:Nat):Int) < 2)) kz (decide_eq_false (by omega)) ?_
 refine wp_skip (qab (qaf [0,1,2,3,4,5,6,7,8] kz ?_))
 refine qak [0,1] [2,3,4,5,6,7,8] [(0,.v (.slice A s.length c)),(23,.v (.int .u32 (zU (IntKind.u8.wrap (zB 8 ((s.getD 0 0).toNat:Int) &&& zB 8 127).toNat)))),(24,.v (.slice A s.length c))] hW ah fun bA aC=>?_
 obtain ⟨aZ,ba,ai,bj,ab⟩:=Slots.get ho (i:=1) (by first | omega | (simp only [List.length_append,be_length,List.length_cons,List.length_nil] at *; omega))
 refine qan (qaB aC (t:=22) (A:=A) (m:=s.length) (q:=1) (d:=25) kz (e:=5) (size:=1) (bytes:=1) (j:=1) kz ai rfl (by first | omega | (simp only [List.length_append,be_length,List.length_cons,List.length_nil] at *; omega)) fun bB aD=>?_)
 refine qan (qaW aD (t:=5) (b:=aZ) (o:=ba + 1 * 1) (d:=26) kz (cs:=[.int .u8 ((s.getD 1 0).toNat:Int)]) (v:=.int .u8 ((s.getD 1 0).toNat:Int)) kz (AtF.move ab hW.step nilM qbi).at_ fun bC aE=>?_)
 refine qak [4,5,6,7,8] [] [(0,.v (.slice A s.length c)),(4,.v (.int .u32 (zU (zB 32 (zU (IntKind.u8.wrap (zB 8 ((s.getD 0 0).toNat:Int) &&& zB 8 127).toNat)) ||| zB 32 (zU ((zU (IntKind.u8.wrap (zB 8 ((s.getD 1 0).toNat:Int) &&& zB 8 127).toNat)) * 128))).toNat)))] hW aE fun bD aF=>?_
 refine qag (qab ?_)
 refine wp_seq (qaf [0,1,2,3,4] kz ?_)
 refine qak [0] [1,2,3,4] [(0,.v (.slice A s.length c)),(4,.v (.int .u32 (zU (zB 32 (zU (IntKind.u8.wrap (zB 8 ((s.getD 0 0).toNat:Int) &&& zB 8 127).toNat)) ||| zB 32 (zU ((zU (IntKind.u8.wrap (zB 8 ((s.getD 1 0).toNat:Int) &&& zB 8 127).toNat)) * 128))).toNat))),(31,.v (.slice A s.length c))] hW aF fun bE aG=>?_
 refine qan (qaB aG (t:=22) (A:=A) (m:=s.length) (q:=1) (d:=32) kz (e:=5) (size:=1) (bytes:=1) (j:=1) kz ai rfl (by first | omega | (simp only [List.length_append,be_length,List.length_cons,List.length_nil] at *; omega)) fun bF aH=>?_)
 refine qan (qaW aH (t:=5) (b:=aZ) (o:=ba + 1 * 1) (d:=33) kz (cs:=[.int .u8 ((s.getD 1 0).toNat:Int)]) (v:=.int .u8 ((s.getD 1 0).toNat:Int)) kz (AtF.move ab hW.step nilM qbi).at_ fun bG aI=>?_)
 refine qak [3,4] [] [(0,.v (.slice A s.length c)),(4,.v (.int .u32 (zU (zB 32 (zU (IntKind.u8.wrap (zB 8 ((s.getD 0 0).toNat:Int) &&& zB 8 127).toNat)) ||| zB 32 (zU ((zU (IntKind.u8.wrap (zB 8 ((s.getD 1 0).toNat:Int) &&& zB 8 127).toNat)) * 128))).toNat))),(35,.v (.bool ((IntKind.u8.wrap (zB 8 ((s.getD 1 0).toNat:Int) &&& zB 8 128).toNat) == 0)))] hW aI fun bH aj=>?_
 refine qag (qab ?_)
 refine qaq aj (b:=(IntKind.u8.wrap (zB 8 ((s.getD 1 0).toNat:Int) &&& zB 8 128).toNat) == 0) kz ((qdv _ (qcy s 1)).trans (decide_eq_false (by have:=h1; unfold oc at this; omega))) ?_
 refine qas [(0,.v (.slice A s.length c)),(4,.v (.int .u32 (zU (zB 32 (zU (IntKind.u8.wrap (zB 8 ((s.getD 0 0).toNat:Int) &&& zB 8 127).toNat)) ||| zB 32 (zU ((zU (IntKind.u8.wrap (zB 8 ((s.getD 1 0).toNat:Int) &&& zB 8 127).toNat)) * 128))).toNat))),(39,.v (.bool (decide (((s.length:Nat):Int) < 3))))] hW aj fun bI ak=>?_
 refine qaq ak (b:=decide (((s.length:Nat):Int) < 3)) kz (decide_eq_false (by omega)) ?_
 refine wp_skip (qab (qaf [0,1,2,3,4,5,6,7,8] kz ?_))
 refine qak [0,1] [2,3,4,5,6,7,8] [(0,.v (.slice A s.length c)),(40,.v (.int .u32 (zU (zB 32 (zU (IntKind.u8.wrap (zB 8 ((s.getD 0 0).toNat:Int) &&& zB 8 127).toNat)) ||| zB 32 (zU ((zU (IntKind.u8.wrap (zB 8 ((s.getD 1 0).toNat:Int) &&& zB 8 127).toNat)) * 128))).toNat))),(41,.v (.slice A s.length c))] hW ak fun bJ aJ=>?_
 obtain ⟨bd,bf,al,bk,ac⟩:=Slots.get ho (i:=2) (by first | omega | (simp only [List.length_append,be_length,List.length_cons,List.length_nil] at *; omega))
 refine qan (qaB aJ (t:=22) (A:=A) (m:=s.length) (q:=2) (d:=42) kz (e:=5) (size:=1) (bytes:=1) (j:=2) kz al rfl (by first | omega | (simp only [List.length_append,be_length,List.length_cons,List.length_nil] at *; omega)) fun bK aK=>?_)
 refine qan (qaW aK (t:=5) (b:=bd) (o:=bf + 2 * 1) (d:=43) kz (cs:=[.int .u8 ((s.getD 2 0).toNat:Int)]) (v:=.int .u8 ((s.getD 2 0).toNat:Int)) kz (AtF.move ac hW.step nilM qbi).at_ fun bL aL=>?_)
 refine qak [4,5,6,7,8] [] [(0,.v (.slice A s.length c)),(4,.v (.int .u32 (zU (zB 32 (zU (zB 32 (zU (IntKind.u8.wrap (zB 8 ((s.getD 0 0).toNat:Int) &&& zB 8 127).toNat)) ||| zB 32 (zU ((zU (IntKind.u8.wrap (zB 8 ((s.getD 1 0).toNat:Int) &&& zB 8 127).toNat)) * 128))).toNat) ||| zB 32 (zU ((zU (IntKind.u8.wrap (zB 8 ((s.getD 2 0).toNat:Int) &&& zB 8 127).toNat)) * 16384))).toNat)))] hW aL fun bM aM=>?_
 refine qag (qab ?_)
 refine wp_seq (qaf [0,1,2,3,4] kz ?_)
 refine qak [0] [1,2,3,4] [(0,.v (.slice A s.length c)),(4,.v (.int .u32 (zU (zB 32 (zU (zB 32 (zU (IntKind.u8.wrap (zB 8 ((s.getD 0 0).toNat:Int) &&& zB 8 127).toNat)) ||| zB 32 (zU ((zU (IntKind.u8.wrap (zB 8 ((s.getD 1 0).toNat:Int) &&& zB 8 127).toNat)) * 128))).toNat) ||| zB 32 (zU ((zU (IntKind.u8.wrap (zB 8 ((s.getD 2 0).toNat:Int) &&& zB 8 127).toNat)) * 16384))).toNat))),(48,.v (.slice A s.length c))] hW aM fun bN aN=>?_
 refine qan (qaB aN (t:=22) (A:=A) (m:=s.length) (q:=2) (d:=49) kz (e:=5) (size:=1) (bytes:=1) (j:=2) kz al rfl (by first | omega | (simp only [List.length_append,be_length,List.length_cons,List.length_nil] at *; omega)) fun bO aO=>?_)
 refine qan (qaW aO (t:=5) (b:=bd) (o:=bf + 2 * 1) (d:=50) kz (cs:=[.int .u8 ((s.getD 2 0).toNat:Int)]) (v:=.int .u8 ((s.getD 2 0).toNat:Int)) kz (AtF.move ac hW.step nilM qbi).at_ fun bP aP=>?_)
 refine qak [3,4] [] [(0,.v (.slice A s.length c)),(4,.v (.int .u32 (zU (zB 32 (zU (zB 32 (zU (IntKind.u8.wrap (zB 8 ((s.getD 0 0).toNat:Int) &&& zB 8 127).toNat)) ||| zB 32 (zU ((zU (IntKind.u8.wrap (zB 8 ((s.getD 1 0).toNat:Int) &&& zB 8 127).toNat)) * 128))).toNat) ||| zB 32 (zU ((zU (IntKind.u8.wrap (zB 8 ((s.getD 2 0).toNat:Int) &&& zB 8 127).toNat)) * 16384))).toNat))),(52,.v (.bool ((IntKind.u8.wrap (zB 8 ((s.getD 2 0).toNat:Int) &&& zB 8 128).toNat) == 0)))] hW aP fun bQ am=>?_
 refine qag (qab ?_)
 refine qaq am (b:=(IntKind.u8.wrap (zB 8 ((s.getD 2 0).toNat:Int) &&& zB 8 128).toNat) == 0) kz ((qdv _ (qcy s 2)).trans (decide_eq_false (by have:=h2; unfold oc at this; omega))) ?_
 refine qas [(0,.v (.slice A s.length c)),(4,.v (.int .u32 (zU (zB 32 (zU (zB 32 (zU (IntKind.u8.wrap (zB 8 ((s.getD 0 0).toNat:Int) &&& zB 8 127).toNat)) ||| zB 32 (zU ((zU (IntKind.u8.wrap (zB 8 ((s.getD 1 0).toNat:Int) &&& zB 8 127).toNat)) * 128))).toNat) ||| zB 32 (zU ((zU (IntKind.u8.wrap (zB 8 ((s.getD 2 0).toNat:Int) &&& zB 8 127).toNat)) * 16384))).toNat))),(56,.v (.bool (decide (((s.length:Nat):Int) < 4))))] hW am fun bR ao=>?_
 refine qaq ao (b:=decide (((s.length:Nat):Int) < 4)) kz (decide_eq_false (by omega)) ?_
 refine wp_skip (qab (qaf [0,1,2,3,4,5,6,7,8] kz ?_))
 refine qak [0,1] [2,3,4,5,6,7,8] [(0,.v (.slice A s.length c)),(57,.v (.int .u32 (zU (zB 32 (zU (zB 32 (zU (IntKind.u8.wrap (zB 8 ((s.getD 0 0).toNat:Int) &&& zB 8 127).toNat)) ||| zB 32 (zU ((zU (IntKind.u8.wrap (zB 8 ((s.getD 1 0).toNat:Int) &&& zB 8 127).toNat)) * 128))).toNat) ||| zB 32 (zU ((zU (IntKind.u8.wrap (zB 8 ((s.getD 2 0).toNat:Int) &&& zB 8 127).toNat)) * 16384))).toNat))),(58,.v (.slice A s.length c))] hW ao fun bS aQ=>?_
 obtain ⟨bg,bh,ap,bn,ae⟩:=Slots.get ho (i:=3) (by first | omega | (simp only [List.length_append,be_length,List.length_cons,List.length_nil] at *; omega))
 refine qan (qaB aQ (t:=22) (A:=A) (m:=s.length) (q:=3) (d:=59) kz (e:=5) (size:=1) (bytes:=1) (j:=3) kz ap rfl (by first | omega | (simp only [List.length_append,be_length,List.length_cons,List.length_nil] at *; omega)) fun bT aR=>?_)
 refine qan (qaW aR (t:=5) (b:=bg) (o:=bh + 3 * 1) (d:=60) kz (cs:=[.int .u8 ((s.getD 3 0).toNat:Int)]) (v:=.int .u8 ((s.getD 3 0).toNat:Int)) kz (AtF.move ae hW.step nilM qbi).at_ fun bU aS=>?_)
 refine qak [4,5,6,7,8] [] [(0,.v (.slice A s.length c)),(4,.v (.int .u32 (zU (zB 32 (zU (zB 32 (zU (zB 32 (zU (IntKind.u8.wrap (zB 8 ((s.getD 0 0).toNat:Int) &&& zB 8 127).toNat)) ||| zB 32 (zU ((zU (IntKind.u8.wrap (zB 8 ((s.getD 1 0).toNat:Int) &&& zB 8 127).toNat)) * 128))).toNat) ||| zB 32 (zU ((zU (IntKind.u8.wrap (zB 8 ((s.getD 2 0).toNat:Int) &&& zB 8 127).toNat)) * 16384))).toNat) ||| zB 32 (zU ((zU (IntKind.u8.wrap (zB 8 ((s.getD 3 0).toNat:Int) &&& zB 8 127).toNat)) * 2097152))).toNat)))] hW aS fun bV aT=>?_
 refine qag (qab ?_)
 refine wp_seq (qaf [0,1,2,3,4] kz ?_)
 refine qak [0] [1,2,3,4] [(0,.v (.slice A s.length c)),(4,.v (.int .u32 (zU (zB 32 (zU (zB 32 (zU (zB 32 (zU (IntKind.u8.wrap (zB 8 ((s.getD 0 0).toNat:Int) &&& zB 8 127).toNat)) ||| zB 32 (zU ((zU (IntKind.u8.wrap (zB 8 ((s.getD 1 0).toNat:Int) &&& zB 8 127).toNat)) * 128))).toNat) ||| zB 32 (zU ((zU (IntKind.u8.wrap (zB 8 ((s.getD 2 0).toNat:Int) &&& zB 8 127).toNat)) * 16384))).toNat) ||| zB 32 (zU ((zU (IntKind.u8.wrap (zB 8 ((s.getD 3 0).toNat:Int) &&& zB 8 127).toNat)) * 2097152))).toNat))),(65,.v (.slice A s.length c))] hW aT fun bW aU=>?_
 refine qan (qaB aU (t:=22) (A:=A) (m:=s.length) (q:=3) (d:=66) kz (e:=5) (size:=1) (bytes:=1) (j:=3) kz ap rfl (by first | omega | (simp only [List.length_append,be_length,List.length_cons,List.length_nil] at *; omega)) fun bX aV=>?_)
 refine qan (qaW aV (t:=5) (b:=bg) (o:=bh + 3 * 1) (d:=67) kz (cs:=[.int .u8 ((s.getD 3 0).toNat:Int)]) (v:=.int .u8 ((s.getD 3 0).toNat:Int)) kz (AtF.move ae hW.step nilM qbi).at_ fun bY aW=>?_)
 refine qak [3,4] [] [(0,.v (.slice A s.length c)),(4,.v (.int .u32 (zU (zB 32 (zU (zB 32 (zU (zB 32 (zU (IntKind.u8.wrap (zB 8 ((s.getD 0 0).toNat:Int) &&& zB 8 127).toNat)) ||| zB 32 (zU ((zU (IntKind.u8.wrap (zB 8 ((s.getD 1 0).toNat:Int) &&& zB 8 127).toNat)) * 128))).toNat) ||| zB 32 (zU ((zU (IntKind.u8.wrap (zB 8 ((s.getD 2 0).toNat:Int) &&& zB 8 127).toNat)) * 16384))).toNat) ||| zB 32 (zU ((zU (IntKind.u8.wrap (zB 8 ((s.getD 3 0).toNat:Int) &&& zB 8 127).toNat)) * 2097152))).toNat))),(69,.v (.bool ((IntKind.u8.wrap (zB 8 ((s.getD 3 0).toNat:Int) &&& zB 8 128).toNat) == 0)))] hW aW fun bZ ar=>?_
 refine qag (qab ?_)
 refine qa9 ar (b:=(IntKind.u8.wrap (zB 8 ((s.getD 3 0).toNat:Int) &&& zB 8 128).toNat) == 0) kz ((qdv _ (qcy s 3)).trans (decide_eq_true (by have:=h3; unfold oc at this; omega))) ?_
 refine qas [(2,.v (.int .u32 (zU (zB 32 (zU (zB 32 (zU (zB 32 (zU (IntKind.u8.wrap (zB 8 ((s.getD 0 0).toNat:Int) &&& zB 8 127).toNat)) ||| zB 32 (zU ((zU (IntKind.u8.wrap (zB 8 ((s.getD 1 0).toNat:Int) &&& zB 8 127).toNat)) * 128))).toNat) ||| zB 32 (zU ((zU (IntKind.u8.wrap (zB 8 ((s.getD 2 0).toNat:Int) &&& zB 8 127).toNat)) * 16384))).toNat) ||| zB 32 (zU ((zU (IntKind.u8.wrap (zB 8 ((s.getD 3 0).toNat:Int) &&& zB 8 127).toNat)) * 2097152))).toNat))),(3,.v (.int .i64 4))] hW ar fun cd au=>?_
 refine wp_ret (qat (qeb (qaK au hW.cells (v:=.tuple #[.int .u32 (zU (zB 32 (zU (zB 32 (zU (zB 32 (zU (IntKind.u8.wrap (zB 8 ((s.getD 0 0).toNat:Int) &&& zB 8 127).toNat)) ||| zB 32 (zU ((zU (IntKind.u8.wrap (zB 8 ((s.getD 1 0).toNat:Int) &&& zB 8 127).toNat)) * 128))).toNat) ||| zB 32 (zU ((zU (IntKind.u8.wrap (zB 8 ((s.getD 2 0).toNat:Int) &&& zB 8 127).toNat)) * 16384))).toNat) ||| zB 32 (zU ((zU (IntKind.u8.wrap (zB 8 ((s.getD 3 0).toNat:Int) &&& zB 8 127).toNat)) * 2097152))).toNat),.int .i64 4]) kz ?_)))
 have e_:=uv_4 (oc s 0) (oc s 1) (oc s 2) (oc s 3) (qcy s 0) (qcy s 1) (qcy s 2) (qcy s 3)
 refine ⟨congrArg (fun z_:Int=>Ending.returned (.tuple #[.int .u32 z_,.int .i64 4])) (Eq.trans e_ ?_),hW.step⟩
 omega
theorem rUv5 {A:Option Addr} {c:Nat} (s:Bs) {w:World} {F:Nat → Nat → Prop} (ho:Octs w F A c s) (hl:5 ≤ s.length) (d0 d1 d2 d3 d4:Nat) (h0:oc s 0 = d0 + 128) (h1:oc s 1 = d1 + 128) (h2:oc s 2 = d2 + 128) (h3:oc s 3 = d3 + 128) (h4:oc s 4 = d4) (g0:d0 < 128) (g1:d1 < 128) (g2:d2 < 128) (g3:d3 < 128) (g4:d4 < 16) :
  Calls Tryz.prog 145 #[.slice A s.length c] w (qcI w (.tuple #[.int .u32 ((d0 + d1 * 128 + d2 * 16384 + d3 * 2097152 + d4 * 268435456:Nat):Int),.int .i64 5])):=by
 refine enter (n:=87) Tryz.func145 rfl Tryz.ntmps145 kz fun a hE=>?_
 have hW:=WOk.start w Nil
 refine qas (z67 A s.length c) hW hE fun a1 hE2=>?_
 refine wp_scope_straight (qas (z67 A s.length c) hW hE2 fun a3 hE4=>?_)
 refine qas (z67 A s.length c) hW hE4 fun a5 hE6=>?_
 refine wp_seq (qas [(0,.v (.slice A s.length c)),(8,.v (.bool (decide (((s.length:Nat):Int) < 1))))] hW hE6 fun a7 hE8=>?_)
 refine qaq hE8 (b:=decide (((s.length:Nat):Int) < 1)) kz (decide_eq_false (by omega)) ?_
 refine wp_skip (qab (qaf [0,1,2,3,4,5] kz ?_))
 refine qak [0] [1,2,3,4,5] (z73 A s.length c) hW hE8 fun a9 aI=>?_
 obtain ⟨bp,bq,aj,bC,ab⟩:=Slots.get ho (i:=0) (by first | omega | (simp only [List.length_append,be_length,List.length_cons,List.length_nil] at *; omega))
 refine qan (qaB aI (t:=22) (A:=A) (m:=s.length) (q:=0) (d:=10) kz (e:=5) (size:=1) (bytes:=1) (j:=0) kz aj rfl (by first | omega | (simp only [List.length_append,be_length,List.length_cons,List.length_nil] at *; omega)) fun bP aJ=>?_)
 refine qan (qaW aJ (t:=5) (b:=bp) (o:=bq + 0 * 1) (d:=11) kz (cs:=[.int .u8 ((s.getD 0 0).toNat:Int)]) (v:=.int .u8 ((s.getD 0 0).toNat:Int)) kz (AtF.move ab hW.step nilM qbi).at_ fun bQ aK=>?_)
 refine qak [3,4,5] [] [(0,.v (.slice A s.length c)),(4,.v (.int .u32 (zU (IntKind.u8.wrap (zB 8 ((s.getD 0 0).toNat:Int) &&& zB 8 127).toNat))))] hW aK fun bR aL=>?_
 refine qag (qab ?_)
 refine wp_seq (qaf [0,1,2,3,4] kz ?_)
 refine qak [0] [1,2,3,4] [(0,.v (.slice A s.length c)),(4,.v (.int .u32 (zU (IntKind.u8.wrap (zB 8 ((s.getD 0 0).toNat:Int) &&& zB 8 127).toNat)))),(14,.v (.slice A s.length c))] hW aL fun bS aM=>?_
 refine qan (qaB aM (t:=22) (A:=A) (m:=s.length) (q:=0) (d:=15) kz (e:=5) (size:=1) (bytes:=1) (j:=0) kz aj rfl (by first | omega | (simp only [List.length_append,be_length,List.length_cons,List.length_nil] at *; omega)) fun bT aN=>?_)
 refine qan (qaW aN (t:=5) (b:=bp) (o:=bq + 0 * 1) (d:=16) kz (cs:=[.int .u8 ((s.getD 0 0).toNat:Int)]) (v:=.int .u8 ((s.getD 0 0).toNat:Int)) kz (AtF.move ab hW.step nilM qbi).at_ fun bU aO=>?_)
 refine qak [3,4] [] [(0,.v (.slice A s.length c)),(4,.v (.int .u32 (zU (IntKind.u8.wrap (zB 8 ((s.getD 0 0).toNat:Int) &&& zB 8 127).toNat)))),(18,.v (.bool ((IntKind.u8.wrap (zB 8 ((s.getD 0 0).toNat:Int) &&& zB 8 128).toNat) == 0)))] hW aO fun bV ak=>?_
 refine qag (qab ?_)
 refine qaq ak (b:=(IntKind.u8.wrap (zB 8 ((s.getD 0 0).toNat:Int) &&& zB 8 128).toNat) == 0) kz ((qdv _ (qcy s 0)).trans (decide_eq_false (by have:=h0; unfold oc at this; omega))) ?_
 refine qas [(0,.v (.slice A s.length c)),(4,.v (.int .u32 (zU (IntKind.u8.wrap (zB 8 ((s.getD 0 0).toNat:Int) &&& zB 8 127).toNat)))),(22,.v (.bool (decide (((s.length:Nat):Int) < 2))))] hW ak fun bW al=>?_
 refine qaq al (b:=decide (((s.length:Nat):Int) < 2)) kz (decide_eq_false (by omega)) ?_
 refine wp_skip (qab (qaf [0,1,2,3,4,5,6,7,8] kz ?_))
 refine qak [0,1] [2,3,4,5,6,7,8] [(0,.v (.slice A s.length c)),(23,.v (.int .u32 (zU (IntKind.u8.wrap (zB 8 ((s.getD 0 0).toNat:Int) &&& zB 8 127).toNat)))),(24,.v (.slice A s.length c))] hW al fun bX aP=>?_
 obtain ⟨bt,bu,am,bD,ac⟩:=Slots.get ho (i:=1) (by first | omega | (simp only [List.length_append,be_length,List.length_cons,List.length_nil] at *; omega))
 refine qan (qaB aP (t:=22) (A:=A) (m:=s.length) (q:=1) (d:=25) kz (e:=5) (size:=1) (bytes:=1) (j:=1) kz am rfl (by first | omega | (simp only [List.length_append,be_length,List.length_cons,List.length_nil] at *; omega)) fun bY aQ=>?_)
 refine qan (qaW aQ (t:=5) (b:=bt) (o:=bu + 1 * 1) (d:=26) kz (cs:=[.int .u8 ((s.getD 1 0).toNat:Int)]) (v:=.int .u8 ((s.getD 1 0).toNat:Int)) kz (AtF.move ac hW.step nilM qbi).at_ fun bZ aR=>?_)
 refine qak [4,5,6,7,8] [] [(0,.v (.slice A s.length c)),(4,.v (.int .u32 (zU (zB 32 (zU (IntKind.u8.wrap (zB 8 ((s.getD 0 0).toNat:Int) &&& zB 8 127).toNat)) ||| zB 32 (zU ((zU (IntKind.u8.wrap (zB 8 ((s.getD 1 0).toNat:Int) &&& zB 8 127).toNat)) * 128))).toNat)))] hW aR fun cd aS=>?_
 refine qag (qab ?_)
 refine wp_seq (qaf [0,1,2,3,4] kz ?_)
 refine qak [0] [1,2,3,4] [(0,.v (.slice A s.length c)),(4,.v (.int .u32 (zU (zB 32 (zU (IntKind.u8.wrap (zB 8 ((s.getD 0 0).toNat:Int) &&& zB 8 127).toNat)) ||| zB 32 (zU ((zU (IntKind.u8.wrap (zB 8 ((s.getD 1 0).toNat:Int) &&& zB 8 127).toNat)) * 128))).toNat))),(31,.v (.slice A s.length c))] hW aS fun ce aT=>?_
 refine qan (qaB aT (t:=22) (A:=A) (m:=s.length) (q:=1) (d:=32) kz (e:=5) (size:=1) (bytes:=1) (j:=1) kz am rfl (by first | omega | (simp only [List.length_append,be_length,List.length_cons,List.length_nil] at *; omega)) fun cm aU=>?_)
 refine qan (qaW aU (t:=5) (b:=bt) (o:=bu + 1 * 1) (d:=33) kz (cs:=[.int .u8 ((s.getD 1 0).toNat:Int)]) (v:=.int .u8 ((s.getD 1 0).toNat:Int)) kz (AtF.move ac hW.step nilM qbi).at_ fun cq aV=>?_)
 refine qak [3,4] [] [(0,.v (.slice A s.length c)),(4,.v (.int .u32 (zU (zB 32 (zU (IntKind.u8.wrap (zB 8 ((s.getD 0 0).toNat:Int) &&& zB 8 127).toNat)) ||| zB 32 (zU ((zU (IntKind.u8.wrap (zB 8 ((s.getD 1 0).toNat:Int) &&& zB 8 127).toNat)) * 128))).toNat))),(35,.v (.bool ((IntKind.u8.wrap (zB 8 ((s.getD 1 0).toNat:Int) &&& zB 8 128).toNat) == 0)))] hW aV fun cr ao=>?_
 refine qag (qab ?_)
 refine qaq ao (b:=(IntKind.u8.wrap (zB 8 ((s.getD 1 0).toNat:Int) &&& zB 8 128).toNat) == 0) kz ((qdv _ (qcy s 1)).trans (decide_eq_false (by have:=h1; unfold oc at this; omega))) ?_
 refine qas [(0,.v (.slice A s.length c)),(4,.v (.int .u32 (zU (zB 32 (zU (IntKind.u8.wrap (zB 8 ((s.getD 0 0).toNat:Int) &&& zB 8 127).toNat)) ||| zB 32 (zU ((zU (IntKind.u8.wrap (zB 8 ((s.getD 1 0).toNat:Int) &&& zB 8 127).toNat)) * 128))).toNat))),(39,.v (.bool (decide (((s.length:Nat):Int) < 3))))] hW ao fun cu ap=>?_
 refine qaq ap (b:=decide (((s.length:Nat):Int) < 3)) kz (decide_eq_false (by omega)) ?_
 refine wp_skip (qab (qaf [0,1,2,3,4,5,6,7,8] kz ?_))
 refine qak [0,1] [2,3,4,5,6,7,8] [(0,.v (.slice A s.length c)),(40,.v (.int .u32 (zU (zB 32 (zU (IntKind.u8.wrap (zB 8 ((s.getD 0 0).toNat:Int) &&& zB 8 127).toNat)) ||| zB 32 (zU ((zU (IntKind.u8.wrap (zB 8 ((s.getD 1 0).toNat:Int) &&& zB 8 127).toNat)) * 128))).toNat))),(41,.v (.slice A s.length c))] hW ap fun cw aW=>?_
 obtain ⟨bw,bx,ar,bE,ae⟩:=Slots.get ho (i:=2) (by first | omega | (simp only [List.length_append,be_length,List.length_cons,List.length_nil] at *; omega))
 refine qan (qaB aW (t:=22) (A:=A) (m:=s.length) (q:=2) (d:=42) kz (e:=5) (size:=1) (bytes:=1) (j:=2) kz ar rfl (by first | omega | (simp only [List.length_append,be_length,List.length_cons,List.length_nil] at *; omega)) fun cz aX=>?_)
 refine qan (qaW aX (t:=5) (b:=bw) (o:=bx + 2 * 1) (d:=43) kz (cs:=[.int .u8 ((s.getD 2 0).toNat:Int)]) (v:=.int .u8 ((s.getD 2 0).toNat:Int)) kz (AtF.move ae hW.step nilM qbi).at_ fun cA aY=>?_)
 refine qak [4,5,6,7,8] [] [(0,.v (.slice A s.length c)),(4,.v (.int .u32 (zU (zB 32 (zU (zB 32 (zU (IntKind.u8.wrap (zB 8 ((s.getD 0 0).toNat:Int) &&& zB 8 127).toNat)) ||| zB 32 (zU ((zU (IntKind.u8.wrap (zB 8 ((s.getD 1 0).toNat:Int) &&& zB 8 127).toNat)) * 128))).toNat) ||| zB 32 (zU ((zU (IntKind.u8.wrap (zB 8 ((s.getD 2 0).toNat:Int) &&& zB 8 127).toNat)) * 16384))).toNat)))] hW aY fun cB aZ=>?_
 refine qag (qab ?_)
 refine wp_seq (qaf [0,1,2,3,4] kz ?_)
 refine qak [0] [1,2,3,4] [(0,.v (.slice A s.length c)),(4,.v (.int .u32 (zU (zB 32 (zU (zB 32 (zU (IntKind.u8.wrap (zB 8 ((s.getD 0 0).toNat:Int) &&& zB 8 127).toNat)) ||| zB 32 (zU ((zU (IntKind.u8.wrap (zB 8 ((s.getD 1 0).toNat:Int) &&& zB 8 127).toNat)) * 128))).toNat) ||| zB 32 (zU ((zU (IntKind.u8.wrap (zB 8 ((s.getD 2 0).toNat:Int) &&& zB 8 127).toNat)) * 16384))).toNat))),(48,.v (.slice A s.length c))] hW aZ fun cC ba=>?_
 refine qan (qaB ba (t:=22) (A:=A) (m:=s.length) (q:=2) (d:=49) kz (e:=5) (size:=1) (bytes:=1) (j:=2) kz ar rfl (by first | omega | (simp only [List.length_append,be_length,List.length_cons,List.length_nil] at *; omega)) fun cD bd=>?_)
 refine qan (qaW bd (t:=5) (b:=bw) (o:=bx + 2 * 1) (d:=50) kz (cs:=[.int .u8 ((s.getD 2 0).toNat:Int)]) (v:=.int .u8 ((s.getD 2 0).toNat:Int)) kz (AtF.move ae hW.step nilM qbi).at_ fun cE bf=>?_)
 refine qak [3,4] [] [(0,.v (.slice A s.length c)),(4,.v (.int .u32 (zU (zB 32 (zU (zB 32 (zU (IntKind.u8.wrap (zB 8 ((s.getD 0 0).toNat:Int) &&& zB 8 127).toNat)) ||| zB 32 (zU ((zU (IntKind.u8.wrap (zB 8 ((s.getD 1 0).toNat:Int) &&& zB 8 127).toNat)) * 128))).toNat) ||| zB 32 (zU ((zU (IntKind.u8.wrap (zB 8 ((s.getD 2 0).toNat:Int) &&& zB 8 127).toNat)) * 16384))).toNat))),(52,.v (.bool ((IntKind.u8.wrap (zB 8 ((s.getD 2 0).toNat:Int) &&& zB 8 128).toNat) == 0)))] hW bf fun cG au=>?_
 refine qag (qab ?_)
 refine qaq au (b:=(IntKind.u8.wrap (zB 8 ((s.getD 2 0).toNat:Int) &&& zB 8 128).toNat) == 0) kz ((qdv _ (qcy s 2)).trans (decide_eq_false (by have:=h2; unfold oc at this; omega))) ?_
 refine qas [(0,.v (.slice A s.length c)),(4,.v (.int .u32 (zU (zB 32 (zU (zB 32 (zU (IntKind.u8.wrap (zB 8 ((s.getD 0 0).toNat:Int) &&& zB 8 127).toNat)) ||| zB 32 (zU ((zU (IntKind.u8.wrap (zB 8 ((s.getD 1 0).toNat:Int) &&& zB 8 127).toNat)) * 128))).toNat) ||| zB 32 (zU ((zU (IntKind.u8.wrap (zB 8 ((s.getD 2 0).toNat:Int) &&& zB 8 127).toNat)) * 16384))).toNat))),(56,.v (.bool (decide (((s.length:Nat):Int) < 4))))] hW au fun cH av=>?_
 refine qaq av (b:=decide (((s.length:Nat):Int) < 4)) kz (decide_eq_false (by omega)) ?_
 refine wp_skip (qab (qaf [0,1,2,3,4,5,6,7,8] kz ?_))
 refine qak [0,1] [2,3,4,5,6,7,8] [(0,.v (.slice A s.length c)),(57,.v (.int .u32 (zU (zB 32 (zU (zB 32 (zU (IntKind.u8.wrap (zB 8 ((s.getD 0 0).toNat:Int) &&& zB 8 127).toNat)) ||| zB 32 (zU ((zU (IntKind.u8.wrap (zB 8 ((s.getD 1 0).toNat:Int) &&& zB 8 127).toNat)) * 128))).toNat) ||| zB 32 (zU ((zU (IntKind.u8.wrap (zB 8 ((s.getD 2 0).toNat:Int) &&& zB 8 127).toNat)) * 16384))).toNat))),(58,.v (.slice A s.length c))] hW av fun cI bg=>?_
 obtain ⟨bz,bA,aw,bF,af⟩:=Slots.get ho (i:=3) (by first | omega | (simp only [List.length_append,be_length,List.length_cons,List.length_nil] at *; omega))
 refine qan (qaB bg (t:=22) (A:=A) (m:=s.length) (q:=3) (d:=59) kz (e:=5) (size:=1) (bytes:=1) (j:=3) kz aw rfl (by first | omega | (simp only [List.length_append,be_length,List.length_cons,List.length_nil] at *; omega)) fun cJ bh=>?_)
 refine qan (qaW bh (t:=5) (b:=bz) (o:=bA + 3 * 1) (d:=60) kz (cs:=[.int .u8 ((s.getD 3 0).toNat:Int)]) (v:=.int .u8 ((s.getD 3 0).toNat:Int)) kz (AtF.move af hW.step nilM qbi).at_ fun cK bi=>?_)
 refine qak [4,5,6,7,8] [] [(0,.v (.slice A s.length c)),(4,.v (.int .u32 (zU (zB 32 (zU (zB 32 (zU (zB 32 (zU (IntKind.u8.wrap (zB 8 ((s.getD 0 0).toNat:Int) &&& zB 8 127).toNat)) ||| zB 32 (zU ((zU (IntKind.u8.wrap (zB 8 ((s.getD 1 0).toNat:Int) &&& zB 8 127).toNat)) * 128))).toNat) ||| zB 32 (zU ((zU (IntKind.u8.wrap (zB 8 ((s.getD 2 0).toNat:Int) &&& zB 8 127).toNat)) * 16384))).toNat) ||| zB 32 (zU ((zU (IntKind.u8.wrap (zB 8 ((s.getD 3 0).toNat:Int) &&& zB 8 127).toNat)) * 2097152))).toNat)))] hW bi fun cL bj=>?_
 refine qag (qab ?_)
 refine wp_seq (qaf [0,1,2,3,4] kz ?_)
 refine qak [0] [1,2,3,4] [(0,.v (.slice A s.length c)),(4,.v (.int .u32 (zU (zB 32 (zU (zB 32 (zU (zB 32 (zU (IntKind.u8.wrap (zB 8 ((s.getD 0 0).toNat:Int) &&& zB 8 127).toNat)) ||| zB 32 (zU ((zU (IntKind.u8.wrap (zB 8 ((s.getD 1 0).toNat:Int) &&& zB 8 127).toNat)) * 128))).toNat) ||| zB 32 (zU ((zU (IntKind.u8.wrap (zB 8 ((s.getD 2 0).toNat:Int) &&& zB 8 127).toNat)) * 16384))).toNat) ||| zB 32 (zU ((zU (IntKind.u8.wrap (zB 8 ((s.getD 3 0).toNat:Int) &&& zB 8 127).toNat)) * 2097152))).toNat))),(65,.v (.slice A s.length c))] hW bj fun cM bk=>?_
 refine qan (qaB bk (t:=22) (A:=A) (m:=s.length) (q:=3) (d:=66) kz (e:=5) (size:=1) (bytes:=1) (j:=3) kz aw rfl (by first | omega | (simp only [List.length_append,be_length,List.length_cons,List.length_nil] at *; omega)) fun cN bn=>?_)
 refine qan (qaW bn (t:=5) (b:=bz) (o:=bA + 3 * 1) (d:=67) kz (cs:=[.int .u8 ((s.getD 3 0).toNat:Int)]) (v:=.int .u8 ((s.getD 3 0).toNat:Int)) kz (AtF.move af hW.step nilM qbi).at_ fun cO bo=>?_)
 refine qak [3,4] [] [(0,.v (.slice A s.length c)),(4,.v (.int .u32 (zU (zB 32 (zU (zB 32 (zU (zB 32 (zU (IntKind.u8.wrap (zB 8 ((s.getD 0 0).toNat:Int) &&& zB 8 127).toNat)) ||| zB 32 (zU ((zU (IntKind.u8.wrap (zB 8 ((s.getD 1 0).toNat:Int) &&& zB 8 127).toNat)) * 128))).toNat) ||| zB 32 (zU ((zU (IntKind.u8.wrap (zB 8 ((s.getD 2 0).toNat:Int) &&& zB 8 127).toNat)) * 16384))).toNat) ||| zB 32 (zU ((zU (IntKind.u8.wrap (zB 8 ((s.getD 3 0).toNat:Int) &&& zB 8 127).toNat)) * 2097152))).toNat))),(69,.v (.bool ((IntKind.u8.wrap (zB 8 ((s.getD 3 0).toNat:Int) &&& zB 8 128).toNat) == 0)))] hW bo fun cP ax=>?_
 refine qag (qab ?_)
 refine qaq ax (b:=(IntKind.u8.wrap (zB 8 ((s.getD 3 0).toNat:Int) &&& zB 8 128).toNat) == 0) kz ((qdv _ (qcy s 3)).trans (decide_eq_false (by have:=h3; unfold oc at this; omega))) ?_
 refine qas [(0,.v (.slice A s.length c)),(4,.v (.int .u32 (zU (zB 32 (zU (zB 32 (zU (zB 32 (zU (IntKind.u8.wrap (zB 8 ((s.getD 0 0).toNat:Int) &&& zB 8 127).toNat)) ||| zB 32 (zU ((zU (IntKind.u8.wrap (zB 8 ((s.getD 1 0).toNat:Int) &&& zB 8 127).toNat)) * 128))).toNat) ||| zB 32 (zU ((zU (IntKind.u8.wrap (zB 8 ((s.getD 2 0).toNat:Int) &&& zB 8 127).toNat)) * 16384))).toNat) ||| zB 32 (zU ((zU (IntKind.u8.wrap (zB 8 ((s.getD 3 0).toNat:Int) &&& zB 8 127).toNat)) * 2097152))).toNat))),(73,.v (.bool (decide (((s.length:Nat):Int) < 5))))] hW ax fun cQ ag=>?_
 refine qaq ag (b:=decide (((s.length:Nat):Int) < 5)) kz (decide_eq_false (by omega)) ?_
 refine wp_skip (qab (qaf [0,1,2,3,4,5,6,7] kz ?_))
 refine qak [0,1] [2,3,4,5,6,7] [(0,.v (.slice A s.length c)),(74,.v (.int .u32 (zU (zB 32 (zU (zB 32 (zU (zB 32 (zU (IntKind.u8.wrap (zB 8 ((s.getD 0 0).toNat:Int) &&& zB 8 127).toNat)) ||| zB 32 (zU ((zU (IntKind.u8.wrap (zB 8 ((s.getD 1 0).toNat:Int) &&& zB 8 127).toNat)) * 128))).toNat) ||| zB 32 (zU ((zU (IntKind.u8.wrap (zB 8 ((s.getD 2 0).toNat:Int) &&& zB 8 127).toNat)) * 16384))).toNat) ||| zB 32 (zU ((zU (IntKind.u8.wrap (zB 8 ((s.getD 3 0).toNat:Int) &&& zB 8 127).toNat)) * 2097152))).toNat))),(75,.v (.slice A s.length c))] hW ag fun bG ay=>?_
 obtain ⟨az,aA,ah,bB,aa⟩:=Slots.get ho (i:=4) (by first | omega | (simp only [List.length_append,be_length,List.length_cons,List.length_nil] at *; omega))
 refine qan (qaB ay (t:=22) (A:=A) (m:=s.length) (q:=4) (d:=76) kz (e:=5) (size:=1) (bytes:=1) (j:=4) kz ah rfl (by first | omega | (simp only [List.length_append,be_length,List.length_cons,List.length_nil] at *; omega)) fun bH aB=>?_)
 refine qan (qaW aB (t:=5) (b:=az) (o:=aA + 4 * 1) (d:=77) kz (cs:=[.int .u8 ((s.getD 4 0).toNat:Int)]) (v:=.int .u8 ((s.getD 4 0).toNat:Int)) kz (AtF.move aa hW.step nilM qbi).at_ fun bI aC=>?_)
 refine qak [4,5,6,7] [] [(0,.v (.slice A s.length c)),(4,.v (.int .u32 (zU (zB 32 (zU (zB 32 (zU (zB 32 (zU (zB 32 (zU (IntKind.u8.wrap (zB 8 ((s.getD 0 0).toNat:Int) &&& zB 8 127).toNat)) ||| zB 32 (zU ((zU (IntKind.u8.wrap (zB 8 ((s.getD 1 0).toNat:Int) &&& zB 8 127).toNat)) * 128))).toNat) ||| zB 32 (zU ((zU (IntKind.u8.wrap (zB 8 ((s.getD 2 0).toNat:Int) &&& zB 8 127).toNat)) * 16384))).toNat) ||| zB 32 (zU ((zU (IntKind.u8.wrap (zB 8 ((s.getD 3 0).toNat:Int) &&& zB 8 127).toNat)) * 2097152))).toNat) ||| zB 32 (zU ((zU ((s.getD 4 0).toNat:Int)) * 268435456))).toNat)))] hW aC fun bJ aD=>?_
 refine qag (qab ?_)
 refine wp_seq (qaf [0,1,2,3] kz ?_)
 refine qak [0] [1,2,3] [(4,.v (.int .u32 (zU (zB 32 (zU (zB 32 (zU (zB 32 (zU (zB 32 (zU (IntKind.u8.wrap (zB 8 ((s.getD 0 0).toNat:Int) &&& zB 8 127).toNat)) ||| zB 32 (zU ((zU (IntKind.u8.wrap (zB 8 ((s.getD 1 0).toNat:Int) &&& zB 8 127).toNat)) * 128))).toNat) ||| zB 32 (zU ((zU (IntKind.u8.wrap (zB 8 ((s.getD 2 0).toNat:Int) &&& zB 8 127).toNat)) * 16384))).toNat) ||| zB 32 (zU ((zU (IntKind.u8.wrap (zB 8 ((s.getD 3 0).toNat:Int) &&& zB 8 127).toNat)) * 2097152))).toNat) ||| zB 32 (zU ((zU ((s.getD 4 0).toNat:Int)) * 268435456))).toNat))),(81,.v (.slice A s.length c))] hW aD fun bK aE=>?_
 refine qan (qaB aE (t:=22) (A:=A) (m:=s.length) (q:=4) (d:=82) kz (e:=5) (size:=1) (bytes:=1) (j:=4) kz ah rfl (by first | omega | (simp only [List.length_append,be_length,List.length_cons,List.length_nil] at *; omega)) fun bL aF=>?_)
 refine qan (qaW aF (t:=5) (b:=az) (o:=aA + 4 * 1) (d:=83) kz (cs:=[.int .u8 ((s.getD 4 0).toNat:Int)]) (v:=.int .u8 ((s.getD 4 0).toNat:Int)) kz (AtF.move aa hW.step nilM qbi).at_ fun bM aG=>?_)
 refine qak [3] [] [(4,.v (.int .u32 (zU (zB 32 (zU (zB 32 (zU (zB 32 (zU (zB 32 (zU (IntKind.u8.wrap (zB 8 ((s.getD 0 0).toNat:Int) &&& zB 8 127).toNat)) ||| zB 32 (zU ((zU (IntKind.u8.wrap (zB 8 ((s.getD 1 0).toNat:Int) &&& zB 8 127).toNat)) * 128))).toNat) ||| zB 32 (zU ((zU (IntKind.u8.wrap (zB 8 ((s.getD 2 0).toNat:Int) &&& zB 8 127).toNat)) * 16384))).toNat) ||| zB 32 (zU ((zU (IntKind.u8.wrap (zB 8 ((s.getD 3 0).toNat:Int) &&& zB 8 127).toNat)) * 2097152))).toNat) ||| zB 32 (zU ((zU ((s.getD 4 0).toNat:Int)) * 268435456))).toNat))),(84,.v (.bool (decide (((s.getD 4 0).toNat:Int) ≤ 15))))] hW aG fun bN ai=>?_
 refine qag (qab ?_)
 refine qa9 ai (b:=decide (((s.getD 4 0).toNat:Int) ≤ 15)) kz (decide_eq_true (by have:=h4; unfold oc at this; omega)) ?_
 refine qas [(2,.v (.int .u32 (zU (zB 32 (zU (zB 32 (zU (zB 32 (zU (zB 32 (zU (IntKind.u8.wrap (zB 8 ((s.getD 0 0).toNat:Int) &&& zB 8 127).toNat)) ||| zB 32 (zU ((zU (IntKind.u8.wrap (zB 8 ((s.getD 1 0).toNat:Int) &&& zB 8 127).toNat)) * 128))).toNat) ||| zB 32 (zU ((zU (IntKind.u8.wrap (zB 8 ((s.getD 2 0).toNat:Int) &&& zB 8 127).toNat)) * 16384))).toNat) ||| zB 32 (zU ((zU (IntKind.u8.wrap (zB 8 ((s.getD 3 0).toNat:Int) &&& zB 8 127).toNat)) * 2097152))).toNat) ||| zB 32 (zU ((zU ((s.getD 4 0).toNat:Int)) * 268435456))).toNat))),(3,.v (.int .i64 5))] hW ai fun bO aH=>?_
 refine wp_ret (qat (qeb (qaK aH hW.cells (v:=.tuple #[.int .u32 (zU (zB 32 (zU (zB 32 (zU (zB 32 (zU (zB 32 (zU (IntKind.u8.wrap (zB 8 ((s.getD 0 0).toNat:Int) &&& zB 8 127).toNat)) ||| zB 32 (zU ((zU (IntKind.u8.wrap (zB 8 ((s.getD 1 0).toNat:Int) &&& zB 8 127).toNat)) * 128))).toNat) ||| zB 32 (zU ((zU (IntKind.u8.wrap (zB 8 ((s.getD 2 0).toNat:Int) &&& zB 8 127).toNat)) * 16384))).toNat) ||| zB 32 (zU ((zU (IntKind.u8.wrap (zB 8 ((s.getD 3 0).toNat:Int) &&& zB 8 127).toNat)) * 2097152))).toNat) ||| zB 32 (zU ((zU ((s.getD 4 0).toNat:Int)) * 268435456))).toNat),.int .i64 5]) kz ?_)))
 have e_:=uv_5 (oc s 0) (oc s 1) (oc s 2) (oc s 3) (oc s 4) (qcy s 0) (qcy s 1) (qcy s 2) (qcy s 3) (by omega)
 refine ⟨congrArg (fun z_:Int=>Ending.returned (.tuple #[.int .u32 z_,.int .i64 5])) (Eq.trans e_ ?_),hW.step⟩
 omega
theorem rUv (x:Nat) (hx:x < 4294967296) (rest:Bs) {A:Option Addr} {c:Nat} {w:World} {F:Nat → Nat → Prop} (ho:Octs w F A c (uv x ++ rest)) :
  Calls Tryz.prog 145 #[.slice A (uv x ++ rest).length c] w (qcI w (.tuple #[.int .u32 ((x:Nat):Int),.int .i64 (((uv x).length:Nat):Int)])):=by
 have hl:=qjt hx
 have hL:(uv x ++ rest).length = (uv x).length + rest.length:=List.length_append
 by_cases h1:x < 128
 ·rw [if_pos h1] at hl
  have h:=rUv1 (uv x ++ rest) ho (by omega) x (by rw [qgQ,if_pos h1]) h1
  rw [hl]; simpa using h
 rw [if_neg h1] at hl
 have o0:oc (uv x ++ rest) 0 = x % 128 + 128:=by rw [qgQ,if_neg h1]
 have o1:oc (uv x ++ rest) 1 = oc (uv (x / 128) ++ rest) 0:=qeD (by omega) rest 0
 by_cases h2:x < 16384
 ·rw [if_pos h2] at hl
  rw [qgQ,if_pos (by omega)] at o1
  have h:=rUv2 (uv x ++ rest) ho (by omega) (x % 128) (x / 128) o0 o1 (by omega) (by omega)
  rw [show x % 128 + x / 128 * 128 = x by omega] at h
  rw [hl]; exact h
 rw [if_neg h2] at hl
 have o2:oc (uv x ++ rest) 2 = oc (uv (x / 128 / 128) ++ rest) 0:=(qeD (by omega) rest 1).trans (qeD (by omega) rest 0)
 rw [qgQ,if_neg (by omega)] at o1
 by_cases h3:x < 2097152
 ·rw [if_pos h3] at hl
  rw [qgQ,if_pos (by omega)] at o2
  have h:=rUv3 (uv x ++ rest) ho (by omega) (x % 128) (x / 128 % 128) (x / 128 / 128) o0 o1 o2 (by omega) (by omega) (by omega)
  rw [show x % 128 + x / 128 % 128 * 128 + x / 128 / 128 * 16384 = x by omega] at h
  rw [hl]; exact h
 rw [if_neg h3] at hl
 have o3:oc (uv x ++ rest) 3 = oc (uv (x / 128 / 128 / 128) ++ rest) 0:=(qeD (by omega) rest 2).trans ((qeD (by omega) rest 1).trans (qeD (by omega) rest 0))
 rw [qgQ,if_neg (by omega)] at o2
 by_cases h4:x < 268435456
 ·rw [if_pos h4] at hl
  rw [qgQ,if_pos (by omega)] at o3
  have h:=rUv4 (uv x ++ rest) ho (by omega) (x % 128) (x / 128 % 128) (x / 128 / 128 % 128) (x / 128 / 128 / 128) o0 o1 o2 o3 (by omega) (by omega) (by omega) (by omega)
  rw [show x % 128 + x / 128 % 128 * 128 + x / 128 / 128 % 128 * 16384 + x / 128 / 128 / 128 * 2097152 = x by omega] at h
  rw [hl]; exact h
 rw [if_neg h4] at hl
 have o4:oc (uv x ++ rest) 4 = oc (uv (x / 128 / 128 / 128 / 128) ++ rest) 0:=(qeD (by omega) rest 3).trans ((qeD (by omega) rest 2).trans ((qeD (by omega) rest 1).trans (qeD (by omega) rest 0)))
 rw [qgQ,if_neg (by omega)] at o3
 rw [qgQ,if_pos (by omega)] at o4
 have h:=rUv5 (uv x ++ rest) ho (by omega) (x % 128) (x / 128 % 128) (x / 128 / 128 % 128) (x / 128 / 128 / 128 % 128) (x / 128 / 128 / 128 / 128) o0 o1 o2 o3 o4 (by omega) (by omega) (by omega) (by omega) (by omega)
 rw [show x % 128 + x / 128 % 128 * 128 + x / 128 / 128 % 128 * 16384 + x / 128 / 128 / 128 % 128 * 2097152 + x / 128 / 128 / 128 / 128 * 268435456 = x by omega] at h
 rw [hl]; exact h
theorem qdS (x:Nat) (hx:x < 4294967296) (rest:Bs)  {br:Nat} {A:Option Addr} {m c:Nat} {w:World} {F:Nat → Nat → Prop} (hst:Str w br [.slice A m c,.bool false]) (hr:RdS w F A m c (uv x ++ rest)) (hFd:∀ b o,F b o → ¬ RdM br b o) :
  Calls Tryz.prog 124 #[.pointer (some ⟨br,0,none⟩)] w (RdPost w br F rest fun v w'=>v = .int .u32 ((x:Nat):Int)):=by
 obtain ⟨hm,ho⟩:=hr
 subst hm
 have hle:=ho.le
 have hpos:=qiJ x
 refine enter (n:=31) Tryz.func124 rfl Tryz.ntmps124 kz fun a hE=>?_
 have hW:WOk w (RdM br) w [⟨br,0,[.slice A ((uv x ++ rest).length) c,.bool false],true⟩] []:=WOk.startStr hst
 have hE1:=(hE.grow ⟨br,0,[.slice A ((uv x ++ rest).length) c,.bool false],true⟩).recast 0 (.v (.pointer (some ⟨br,0,none⟩))) (.p 0 0) rfl rfl (zN (n:=1) rfl)
 refine qas [(0,.p 0 0)] hW hE1 fun a1 hE2=>?_
 refine qaf [0,1,2,3,4,5,6,7,8,9] kz ?_
 refine qak [0,1,2,3] [4,5,6,7,8,9] [(0,.p 0 0),(9,.v (.slice A ((uv x ++ rest).length) c))] hW hE2 fun a3 hE4=>?_
 refine qan (qal hE4 (f:=145) (vs:=[.slice A ((uv x ++ rest).length) c]) (d:=10) kz Tryz.call145 (rUv x hx rest (ho.move hW.step (fun b_ o_ h_ _=>hFd b_ o_ h_) (hW.immM hFd))) ?_)
 rintro e_ w6 ⟨rfl,hs5⟩
 refine ⟨_,rfl,fun a7 hE8=>?_⟩
 have hW9:=hW.next_nil hs5
 have aj:=hW.frN hs5
 refine qak [5,6,7,8,9] [] [(0,.p 0 0),(3,.v (.int .u32 ((x:Nat):Int))),(4,.v (.int .i64 (((uv x).length:Nat):Int)))] hW9 hE8 fun al ac=>?_
 refine qag (qab ?_)
 refine wp_seq (qas [(0,.p 0 0),(3,.v (.int .u32 ((x:Nat):Int))),(4,.v (.int .i64 (((uv x).length:Nat):Int))),(14,.v (.bool (decide ((((uv x).length:Nat):Int) ≤ 0))))] hW9 ac fun am ab=>?_)
 refine qaq ab (b:=decide ((((uv x).length:Nat):Int) ≤ 0)) kz (decide_eq_false (by omega)) ?_
 refine wp_skip (qab (qaf [0,1,2,3,4,5,6,7,8,9] kz ?_))
 refine qak [0,1,2,3,4,5] [6,7,8,9] [(3,.v (.int .u32 ((x:Nat):Int))),(21,.p 0 0),(25,.v (.slice A ((uv x ++ rest).length) c)),(26,.v (.int .i64 (((uv x).length:Nat):Int)))] hW9 ab fun ao ae=>?_
 refine qan (qdR ae (t:=22) (A:=A) (m:=((uv x ++ rest).length)) (cp:=c) (q:=(((uv x).length:Nat):Int)) (d:=27) (j:=((uv x).length)) kz (e:=5) (bytes:=1) kz (rfl) (by first | omega | (simp only [List.length_append,be_length,List.length_cons,List.length_nil] at *; omega)) fun ap af=>?_)
 refine qak [7,8] [9] [(3,.v (.int .u32 ((x:Nat):Int))),(27,.v (.slice (cutA A c ((uv x).length)) (((uv x ++ rest).length) - ((uv x).length)) (c - ((uv x).length)))),(29,.p 0 0)] hW9 af fun ar ag=>?_
 refine qan (qao hW9 ag (oi:=0) (cs:=[.slice (cutA A c ((uv x).length)) (((uv x ++ rest).length) - ((uv x).length)) (c - ((uv x).length)),.bool false]) kz fun au ak aa ah=>?_)
 refine qag (qab ?_)
 refine qas [(2,.v (.int .u32 ((x:Nat):Int)))] aa ah fun av ai=>?_
 refine wp_ret (qaK ai aa.cells (v:=.int .u32 ((x:Nat):Int)) kz ?_)
 exact ⟨_,_,_,_,rfl,Str.of aa 0 rfl,RdS.drop (s:=uv x) ⟨rfl,ho.move aa.step (fun b_ o_ h_ _=>hFd b_ o_ h_) qbi⟩ (rfl),aa.step,rfl⟩
theorem qi2 (X:Bs) (rest:Bs)  {br:Nat} {A:Option Addr} {m c:Nat} {w:World} {F:Nat → Nat → Prop} (hst:Str w br [.slice A m c,.bool false]) (hr:RdS w F A m c (X ++ rest)) (hFd:∀ b o,F b o → ¬ RdM br b o) :
  Calls Tryz.prog 126 #[.pointer (some ⟨br,0,none⟩),.int .i64 ((X.length:Nat):Int)] w (RdPost w br F rest fun v w'=>∃ A2,v = .slice A2 X.length X.length ∧ Octs w' F A2 X.length X):=by
 obtain ⟨hm,ho⟩:=hr
 subst hm
 have hle:=ho.le
 refine enter (n:=40) Tryz.func126 rfl Tryz.ntmps126 kz fun a hE=>?_
 have hW:WOk w (RdM br) w [⟨br,0,[.slice A ((X ++ rest).length) c,.bool false],true⟩] []:=WOk.startStr hst
 have hE1:=(hE.grow ⟨br,0,[.slice A ((X ++ rest).length) c,.bool false],true⟩).recast 0 (.v (.pointer (some ⟨br,0,none⟩))) (.p 0 0) rfl rfl (zN (n:=1) rfl)
 refine qas [(0,.p 0 0),(1,.v (.int .i64 ((X.length:Nat):Int)))] hW hE1 fun a1 hE2=>?_
 refine wp_seq (qaf [0,1,2,3,4,5,6,7,8,9,10] kz ?_)
 refine qak [0,1,2,3,4,5,6,7] [8,9,10] [(0,.p 0 0),(1,.v (.int .i64 ((X.length:Nat):Int))),(13,.v (.bool (decide ((((X ++ rest).length:Nat):Int) < ((X.length:Nat):Int)))))] hW hE2 fun a3 hE4=>?_
 have hc5:(decide ((((X ++ rest).length:Nat):Int) < ((X.length:Nat):Int))) = false:=decide_eq_false (by first | omega | (simp only [List.length_append,be_length,List.length_cons,List.length_nil] at *; omega))
 have hE6:=hE4
 rw [hc5] at hE6
 refine qak [8,9,10] [] [(0,.p 0 0),(1,.v (.int .i64 ((X.length:Nat):Int))),(16,.v (.bool (decide (((X.length:Nat):Int) < 0))))] hW hE6 fun a7 hE8=>?_
 refine qag (qab ?_)
 refine qaq hE8 (b:=decide (((X.length:Nat):Int) < 0)) kz (decide_eq_false (by first | omega | (simp only [List.length_append,be_length,List.length_cons,List.length_nil] at *; omega))) ?_
 refine wp_skip (qab (qaf [0,1,2,3,4,5,6,7] kz ?_))
 refine qak [0,1,2,3,4,5] [6,7] [(0,.p 0 0),(1,.v (.int .i64 ((X.length:Nat):Int))),(26,.v (.slice A ((X ++ rest).length) c)),(27,.v (.int .i64 ((X.length:Nat):Int))),(28,.v (.int .i64 ((X.length:Nat):Int)))] hW hE8 fun a9 ab=>?_
 refine qan (qj1 ab (t:=22) (A:=A) (m:=((X ++ rest).length)) (cp:=c) (k:=.i64) (q:=((X.length:Nat):Int)) (d:=29) (j:=X.length) kz (e:=5) (bytes:=1) kz (rfl) (by first | omega | (simp only [List.length_append,be_length,List.length_cons,List.length_nil] at *; omega)) fun al ac=>?_)
 refine qak [7] [] [(0,.p 0 0),(1,.v (.int .i64 ((X.length:Nat):Int))),(5,.v (.slice A X.length X.length))] hW ac fun am ae=>?_
 refine qag (qab ?_)
 refine qaf [0,1,2,3,4,5,6,7,8,9] kz ?_
 refine qak [0,1,2,3,4,5] [6,7,8,9] [(5,.v (.slice A X.length X.length)),(30,.p 0 0),(34,.v (.slice A ((X ++ rest).length) c)),(35,.v (.int .i64 ((X.length:Nat):Int)))] hW ae fun ao af=>?_
 refine qan (qdR af (t:=22) (A:=A) (m:=((X ++ rest).length)) (cp:=c) (q:=((X.length:Nat):Int)) (d:=36) (j:=X.length) kz (e:=5) (bytes:=1) kz (rfl) (by first | omega | (simp only [List.length_append,be_length,List.length_cons,List.length_nil] at *; omega)) fun ap ag=>?_)
 refine qak [7,8] [9] [(5,.v (.slice A X.length X.length)),(36,.v (.slice (cutA A c X.length) (((X ++ rest).length) - X.length) (c - X.length))),(38,.p 0 0)] hW ag fun ar ah=>?_
 refine qan (qao hW ah (oi:=0) (cs:=[.slice (cutA A c X.length) (((X ++ rest).length) - X.length) (c - X.length),.bool false]) kz fun au ak aa ai=>?_)
 refine qag (qab ?_)
 refine qas [(4,.v (.slice A X.length X.length))] aa ai fun av aj=>?_
 refine wp_ret (qaK aj aa.cells (v:=.slice A X.length X.length) kz ?_)
 exact ⟨_,_,_,_,rfl,Str.of aa 0 rfl,RdS.drop (s:=X) ⟨rfl,ho.move aa.step (fun b_ o_ h_ _=>hFd b_ o_ h_) qbi⟩ (rfl),aa.step,A,rfl,RdS.front (s:=X) ⟨rfl,ho.move aa.step (fun b_ o_ h_ _=>hFd b_ o_ h_) qbi⟩ rfl⟩
abbrev z9 (x0) (x1) (x2) (x3):=([⟨x0,0,[.slice x1 x2 x3,.bool false],true⟩]:Tb)
abbrev z86 (x0) (x1) (x2):=([.slice x0 x1 x2,.bool false]:List Value)
theorem qj7 {br:Nat} {A:Option Addr} {m c:Nat} {w:World} (hst:Str w br [.slice A m c,.bool false]) :
  Calls Tryz.prog 93 #[.pointer (some ⟨br,0,none⟩)] w (fun e w'=>e = .returned .nilIface ∧ w' = w):=by
 refine enter (n:=8) Tryz.func93 rfl Tryz.ntmps93 kz fun a hE=>?_
 have hW:WOk w (RdM br) w (z9 br A m c) []:=WOk.startStr hst
 have hE1:=(hE.grow ⟨br,0,(z86 A m c),true⟩).recast 0 (.v (.pointer (some ⟨br,0,none⟩))) (.p 0 0) rfl rfl (Nat.le_of_ble_eq_true (n:=1) rfl)
 refine qas [(0,.p 0 0)] hW hE1 fun a1 hE2=>?_
 refine wp_seq (qas [(6,.v (.bool false))] hW hE2 fun a3 hE4=>?_)
 refine qaq hE4 (b:=false) kz rfl ?_
 refine wp_skip (qab (qas [(2,.v (.nilIface))] hW hE4 fun a5 hE6=>?_))
 refine wp_ret (qaK hE6 hW.cells (v:=.nilIface) kz ?_)
 exact ⟨rfl,rfl⟩
structure TR (w w':World) (br p2 p3:Nat) (F:Nat → Nat → Prop) (A:Option Addr) (n c:Nat) (s:Bs) (m:Option Nat) (u:List (Int × Bs)):Prop where
 step:Step w w' (RdM br)
 old:br < w.heap.size
 new2:w.heap.size ≤ p2
 new3:w.heap.size ≤ p3
 ne:p2 ≠ p3
 rd:Str w' br [.slice A n c,.bool false]
 s2:Str w' p2 [.map none]
 s3:Str w' p3 [.map m]
 oct:RdS w' (fun b o=>F b o ∧ b < w.heap.size) A n c s
 own:OwnM w' (fun b o=>F b o ∧ b < w.heap.size) m u
 new:∀ r,m = some r → w.heap.size ≤ r
theorem TR.mne {w w':World} {br p2 p3:Nat} {F:Nat → Nat → Prop} {A:Option Addr} {n c:Nat} {s:Bs} {m:Option Nat} {u:List (Int × Bs)} (h:TR w w' br p2 p3 F A n c s m u):m ≠ some p2 ∧ m ≠ some p3:=by
 refine ⟨fun e=>?_,fun e=>?_⟩
 ·obtain ⟨es,clk,h1,_⟩:=h.own.some_ p2 e
  exact qfe (h.s2.at_ 0 _ rfl) h1 rfl
 obtain ⟨es,clk,h1,_⟩:=h.own.some_ p3 e
 exact qfe (h.s3.at_ 0 _ rfl) h1 rfl
theorem TR.read {w w' w1:World} {br p2 p3:Nat} {F:Nat → Nat → Prop} {A A':Option Addr} {n c n' c':Nat} {s s':Bs} {m:Option Nat} {u:List (Int × Bs)} (h:TR w w' br p2 p3 F A n c s m u) (hFd:∀ b o,F b o → ¬ RdM br b o) (hs:Str w1 br [.slice A' n' c',.bool false]) (hr:RdS w1 (fun b o=>F b o ∧ b < w.heap.size) A' n' c' s') (hst:Step w' w1 (RdM br)):TR w w1 br p2 p3 F A' n' c' s' m u:=by
 have ho:=h.old
 have h2:=h.new2
 have h3:=h.new3
 refine ⟨h.step.trans hst fun _ _ _ e=>e,ho,h2,h3,h.ne,hs,h.s2.move hst fun o e=>?_,h.s3.move hst fun o e=>?_,hr,h.own.move hst (fun b o hg _=>hFd b o hg.1) qbi (fun r o e he=>?_),h.new⟩
 ·have:=e.1; omega
 ·have:=e.1; omega
 have:=h.new r e; have:=he.1; omega
theorem TR.set {w w':World} {br p2 p3:Nat} {F:Nat → Nat → Prop} {A A1:Option Addr} {n c c1 j:Nat} {s x:Bs} {k:Int} {m:Option Nat} {u:List (Int × Bs)} (h:TR w w' br p2 p3 F A n c s m (u.take j)) (hsort:qdI u) (hj:u[j]? = some (k,x)) (hx:Octs w' (fun b o=>F b o ∧ b < w.heap.size) A1 c1 x) (hk:0 ≤ k ∧ k < 4294967296) :
  Calls Tryz.prog 125 [.pointer (some ⟨p3,0,none⟩),.int .u32 k,.slice A1 x.length c1].toArray w' (fun e w1=>e = .returned (.tuple #[]) ∧ ∃ r,TR w w1 br p2 p3 F A n c s (some r) (u.take (j + 1))):=by
 have hcell:w'.cell? ⟨p3,0,none⟩ = some (.map m):=h.s3.at_ 0 _ rfl
 have hfz:w'.frozen? ⟨p3,0,none⟩ = false:=h.s3.frz 0 (by simp)
 have hnew:=h.new
 have h2:=h.new2
 have h3:=h.new3
 have ho:=h.old
 have hsz:=h.step.size
 obtain ⟨m2,m3⟩:=h.mne
 refine (qkw hcell hfz h.own hx hk (fun b' o' hg=>⟨fun e=>?_,fun e=>?_⟩) (fun b' o' hg=>Nat.lt_of_lt_of_le hg.2 hsz)).mono ?_
 ·have:=hg.2; omega
 ·have:=hnew b' e; have:=hg.2; omega
 rintro e w1 ⟨rfl,r,g1,g2,g3,g4,g5⟩
 rw [qjy hsort hj] at g3
 refine ⟨rfl,r,h.step.trans g5 fun b o hl e=>?_,ho,h2,h3,h.ne,h.rd.move g5 fun o e=>?_,h.s2.move g5 fun o e=>?_,⟨fun i v hi=>?_,fun i hi=>?_⟩,⟨h.oct.len,Octs.move h.oct.oct g5 (fun b o hg _ e=>?_) qbi⟩,g3,fun r' hr'=>?_⟩
 ·rcases e with ⟨e1,_⟩ | e1
  ·omega
  have:=hnew b e1; omega
 ·rcases e with ⟨e1,_⟩ | e1
  ·omega
  have:=hnew br e1; omega
 ·rcases e with ⟨e1,_⟩ | e1
  ·exact h.ne e1
  exact m2 e1
 ·cases i with
  | zero =>
   simp only [List.getElem?_cons_zero,Option.some.injEq] at hi
   subst hi
   exact g1
  | succ i=>simp at hi
 ·have:i = 0:=by simp at hi; omega
  subst this
  exact g2
 ·have:=hg.2
  rcases e with ⟨e1,_⟩ | e1
  ·omega
  have:=hnew b e1; omega
 obtain rfl:=Option.some.inj hr'
 rcases g4 with g4 | g4
 ·exact hnew _ g4
 exact Nat.le_trans hsz g4
theorem qi3 (x:Int × Bs) (u:List (Int × Bs)):qck (x :: u) = tagR x.1 x.2 ++ qck u:=by unfold qck; rw [List.flatMap_cons]
theorem qi4 {u:List (Int × Bs)} {j:Nat} {k:Int} {x:Bs} (h:u[j]? = some (k,x)) (rest:Bs):qck (u.drop j) ++ rest = uv k.toNat ++ (uv x.length ++ (x ++ (qck (u.drop (j + 1)) ++ rest))):=by
 obtain ⟨hlt,he⟩:=List.getElem?_eq_some_iff.1 h
 rw [List.drop_eq_getElem_cons hlt,he,qi3]
 simp only [tagR,List.append_assoc]
abbrev z29 (x0):=([.pointer (some ⟨x0,0,none⟩)]:List Value)
abbrev z66 (x0) (x1):=([.pointer (some ⟨x0,0,none⟩),.int .i64 ((x1:Nat):Int)]:List Value)
theorem qmu (u:List (Int × Bs)) (rest:Bs) (hsort:qdI u) (hk:∀ x ∈ u,0 ≤ x.1 ∧ x.1 < 4294967296) (hul:u.length ≤ 1000000) (hxl:∀ x ∈ u,x.2.length < 4294967296) {br:Nat} {A:Option Addr} {m c:Nat} {w:World} {F:Nat → Nat → Prop} (hst:Str w br [.slice A m c,.bool false]) (hr:RdS w F A m c (uv u.length ++ (qck u ++ rest))) (hFd:∀ b o,F b o → ¬ RdM br b o) :
  Calls Tryz.prog 96 #[.pointer (some ⟨br,0,none⟩)] w (RdPost w br (Fp F w) rest fun v w'=>∃ mm,v = .agg #[.map mm] ∧ MapR w' (Fp F w) mm u):=by
 have hbr:br < w.heap.size:=World.lt_of_cell (hst.at_ 0 _ rfl)
 refine enter (n:=24) (vs:=(z29 br)) Tryz.func96 rfl Tryz.ntmps96 kz fun a hE=>?_
 have hW:=WOk.start w Nil
 refine qaf [0] kz ?_
 refine qan (qaM hW hE (d:=2) (cs:=[.map none]) kz fun p2 a1 w1 hp2 hz2 hF1 hW1 hE1=>qag (qab ?_))
 refine qaf [0] kz ?_
 refine qan (qaM hW1 hE1 (d:=3) (cs:=[.map none]) kz fun p3 a2 w2 hp3 hz3 hF2 hW2 hE2=>qag (qab ?_))
 have hne:p2 ≠ p3:=by
  have h1:=hW1.live 0 _ rfl
  simp only at h1
  omega
 have hS:Step w w2 Nil:=hW2.step
 have hT0:TR w w2 br p2 p3 F A m c (uv u.length ++ (qck u ++ rest)) none (u.take 0):=by
  refine ⟨hS.mono fun _ _ _ h=>h.elim,hbr,hz2,hz3,hne,hst.move hS (fun _ h=>h),Str.of hW2 0 rfl,Str.of hW2 1 rfl,hr.move hS nilM (fun b o h hb=>⟨h,hb⟩),?_,fun _ h=>by cases h⟩
  rw [List.take_zero]
  exact OwnM.nil _ _
 refine wp_seq ?_
 have hE3:=(((hE2.recast 2 (.p 0 0) (.v (.pointer (some ⟨p2,0,none⟩))) rfl rfl trivial).recast 3 (.p 1 0) (.v (.pointer (some ⟨p3,0,none⟩))) rfl rfl trivial).pick (ks:=[0,2,3]) (env':=[(0,.v (.pointer (some ⟨br,0,none⟩))),(2,.v (.pointer (some ⟨p2,0,none⟩))),(3,.v (.pointer (some ⟨p3,0,none⟩)))]) kz).cutTb 0 kz
 have hWz:=WOk.start w2 Nil
 refine qaf [0,1,2] kz ?_
 refine qak [0] [1,2] [(0,.v (.pointer (some ⟨br,0,none⟩))),(2,.v (.pointer (some ⟨p2,0,none⟩))),(3,.v (.pointer (some ⟨p3,0,none⟩))),(7,.v (.pointer (some ⟨br,0,none⟩)))] hWz hE3 fun a3 hE4=>?_
 have hFd':∀ b o,(F b o ∧ b < w.heap.size) → ¬ RdM br b o:=fun b o h=>hFd b o h.1
 refine qan (qal hE4 (f:=124) (vs:=(z29 br)) (d:=8) kz Tryz.call124 (qdS u.length (by omega) (qck u ++ rest) hT0.rd hT0.oct hFd') ?_)
 rintro e_ w3 ⟨_,A3,n3,c3,rfl,hs3,hr3,hst3,rfl⟩
 have hT1:=hT0.read hFd hs3 hr3 hst3
 refine ⟨_,rfl,fun a4 hE5=>?_⟩
 refine qak [2] [] [(0,.v (.pointer (some ⟨br,0,none⟩))),(2,.v (.pointer (some ⟨p2,0,none⟩))),(3,.v (.pointer (some ⟨p3,0,none⟩))),(4,.v (.int .u32 ((u.length:Nat):Int)))] (WOk.start w3 Nil) hE5 fun a5 hE6=>qag (qab ?_)
 refine wp_block ?_
 refine wp_loop_ghost (fun q a_ w_=>∃ (j:Nat) (m_:Option Nat) (A_:Option Addr) (n_ c_:Nat),q = u.length - j ∧ j ≤ u.length ∧ EnvOk 24 [] [(0,.v (.pointer (some ⟨br,0,none⟩))),(2,.v (.pointer (some ⟨p2,0,none⟩))),(3,.v (.pointer (some ⟨p3,0,none⟩))),(4,.v (.int .u32 ((u.length - j:Nat):Int)))] a_ ∧ TR w w_ br p2 p3 F A_ n_ c_ (qck (u.drop j) ++ rest) m_ (u.take j)) u.length
  ⟨0,none,A3,n3,c3,by omega,by omega,hE6,hT1⟩ ?_
 rintro q aq wq ⟨j,m_,A_,n_,c_,rfl,hj,hEq,hT⟩
 have hWq:=WOk.start wq Nil
 refine wp_seq (qas [(0,.v (.pointer (some ⟨br,0,none⟩))),(2,.v (.pointer (some ⟨p2,0,none⟩))),(3,.v (.pointer (some ⟨p3,0,none⟩))),(4,.v (.int .u32 ((u.length - j:Nat):Int))),(10,.v (.bool (decide (((u.length - j:Nat):Int) > 0))))] hWq hEq fun aq1 hE7=>?_)
 refine qax hE7 (b:=decide (((u.length - j:Nat):Int) > 0)) kz (fun hc=>?_) (fun hc=>?_)
 ·have hlt:j < u.length:=by have:=zD hc; omega
  obtain ⟨⟨k,x⟩,hu⟩:∃ y,u[j]? = some y:=⟨_,List.getElem?_eq_getElem hlt⟩
  have hk':=hk (k,x) (List.mem_of_getElem? hu)
  have hx':=hxl (k,x) (List.mem_of_getElem? hu)
  dsimp only at hk' hx'
  have hoct:=hT.oct
  rw [qi4 hu rest] at hoct
  refine wp_skip (qab (wp_seq (wp_block ?_)))
  refine qaf [0,1,2,3,4,5] kz ?_
  refine qak [0] [1,2,3,4,5] [(0,.v (.pointer (some ⟨br,0,none⟩))),(2,.v (.pointer (some ⟨p2,0,none⟩))),(3,.v (.pointer (some ⟨p3,0,none⟩))),(4,.v (.int .u32 ((u.length - j:Nat):Int))),(13,.v (.pointer (some ⟨br,0,none⟩)))] hWq hE7 fun aq2 hE8=>?_
  refine qan (qal hE8 (f:=124) (vs:=(z29 br)) (d:=14) kz Tryz.call124 (qdS k.toNat (by omega) _ hT.rd hoct hFd') ?_)
  rintro e_ wa ⟨_,Aa,na,ca,rfl,hsa,hra,hsta,rfl⟩
  have hTa:=hT.read hFd hsa hra hsta
  refine ⟨_,rfl,fun aq3 hE9=>?_⟩
  refine qak [2] [3,4,5] [(0,.v (.pointer (some ⟨br,0,none⟩))),(2,.v (.pointer (some ⟨p2,0,none⟩))),(3,.v (.pointer (some ⟨p3,0,none⟩))),(4,.v (.int .u32 ((u.length - j:Nat):Int))),(14,.v (.int .u32 ((k.toNat:Nat):Int))),(15,.v (.pointer (some ⟨br,0,none⟩)))] (WOk.start wa Nil) hE9 fun aq4 hE10=>?_
  refine qan (qal hE10 (f:=124) (vs:=(z29 br)) (d:=16) kz Tryz.call124 (qdS x.length hx' _ hTa.rd hTa.oct hFd') ?_)
  rintro e_ wb ⟨_,Ab,nb,cb,rfl,hsb,hrb,hstb,rfl⟩
  have hTb:=hTa.read hFd hsb hrb hstb
  refine ⟨_,rfl,fun aq5 hE11=>?_⟩
  refine qak [4,5] [] [(0,.v (.pointer (some ⟨br,0,none⟩))),(2,.v (.pointer (some ⟨p2,0,none⟩))),(3,.v (.pointer (some ⟨p3,0,none⟩))),(4,.v (.int .u32 ((u.length - j:Nat):Int))),(5,.v (.int .u32 ((k.toNat:Nat):Int))),(6,.v (.int .u32 ((x.length:Nat):Int)))] (WOk.start wb Nil) hE11 fun aq6 hE12=>qag (qab ?_)
  refine qau [0,1,2,3,4,5] kz ?_
  refine qak [0,1,2,3] [4,5] [(0,.v (.pointer (some ⟨br,0,none⟩))),(2,.v (.pointer (some ⟨p2,0,none⟩))),(3,.v (.pointer (some ⟨p3,0,none⟩))),(4,.v (.int .u32 ((u.length - j:Nat):Int))),(17,.v (.int .u32 ((k.toNat:Nat):Int))),(18,.v (.pointer (some ⟨br,0,none⟩))),(20,.v (.int .i64 (IntKind.i64.wrap ((x.length:Nat):Int))))] (WOk.start wb Nil) hE12 fun aq7 hE13=>?_
  rw [show IntKind.i64.wrap ((x.length:Nat):Int) = ((x.length:Nat):Int) by rw [i64w]; omega,show ((k.toNat:Nat):Int) = k by omega] at hE13
  refine qan (qal hE13 (f:=126) (vs:=(z66 br x.length)) (d:=21) kz Tryz.call126 (qi2 x _ hTb.rd hTb.oct hFd') ?_)
  rintro e_ wc ⟨_,Ac,nc,cc,rfl,hsc,hrc,hstc,Ax,rfl,hox⟩
  have hTc:=hTb.read hFd hsc hrc hstc
  refine ⟨_,rfl,fun aq8 hE14=>?_⟩
  refine qan (qal hE14 (f:=125) (vs:=[.pointer (some ⟨p3,0,none⟩),.int .u32 k,.slice Ax x.length x.length]) (d:=22) kz Tryz.call125 (hTc.set hsort hu hox hk') ?_)
  rintro e_ wd ⟨rfl,r,hTd⟩
  refine ⟨_,rfl,fun aq9 hE15=>qag (qav (qab ?_))⟩
  refine qau [0,1,2] kz (qak [0,1,2] [] [(0,.v (.pointer (some ⟨br,0,none⟩))),(2,.v (.pointer (some ⟨p2,0,none⟩))),(3,.v (.pointer (some ⟨p3,0,none⟩))),(4,.v (.int .u32 (IntKind.u32.wrap (((u.length - j:Nat):Int) - 1))))] (WOk.start wd Nil) hE15 fun aqa hE16=>qag (qab ?_))
  rw [show IntKind.u32.wrap (((u.length - j:Nat):Int) - 1) = ((u.length - (j + 1):Nat):Int) by rw [qaA]; omega] at hE16
  exact ⟨u.length - (j + 1),by omega,j + 1,some r,Ac,nc,cc,rfl,by omega,hE16,hTd⟩
 obtain rfl:j = u.length:=by have:=zF hc; omega
 refine wp_exit (qay (qay (qaQ (qab ?_))))
 rw [List.take_length,List.drop_length] at hT
 have hT':TR w wq br p2 p3 F A_ n_ c_ rest m_ u:=hT
 have h2:=hT'.new2
 have h3:=hT'.new3
 have hW9:WOk w (RdM br) wq ([] ++ [⟨p3,0,[.map m_],true⟩] ++ [⟨p2,0,[.map none],true⟩]) []:=by
  have hb:WOk w (RdM br) wq [] []:=⟨hT'.step,fun i o hi=>by simp at hi,fun i o hi=>by simp at hi,fun i o hi=>by simp at hi,fun i j o o' _ hi=>by simp at hi,fun i r hi=>by simp at hi,fun i r hi=>by simp at hi,fun i r hi=>by simp at hi,fun i j r r' _ hi=>by simp at hi⟩
  have h4:=hb.add ⟨p3,0,[.map m_],true⟩ (World.lt_of_cell (hT'.s3.at_ 0 _ rfl)) (fun j v hj=>by rw [Nat.zero_add]; exact hT'.s3.at_ j v hj) (fun _ j hj=>⟨.inl h3,by rw [Nat.zero_add]; exact hT'.s3.frz j hj⟩) (fun i o hi=>by simp at hi) (fun i r hi=>by simp at hi)
  refine h4.add ⟨p2,0,[.map none],true⟩ (World.lt_of_cell (hT'.s2.at_ 0 _ rfl)) (fun j v hj=>by rw [Nat.zero_add]; exact hT'.s2.at_ j v hj) (fun _ j hj=>⟨.inl h2,by rw [Nat.zero_add]; exact hT'.s2.frz j hj⟩) (fun i o hi _=>.inl ?_) (fun i r hi=>by simp at hi)
  have:o = ⟨p3,0,[.map m_],true⟩:=by
   have hm:=List.mem_of_getElem? hi
   simpa using hm
  rw [this]
  exact fun e=>hT'.ne e.symm
 have hE17:=(((hE7.retable [⟨p3,0,[.map m_],true⟩,⟨p2,0,[.map none],true⟩]).recast 3 (.v (.pointer (some ⟨p3,0,none⟩))) (.p 0 0) rfl rfl (zN (n:=1) rfl)).recast 2 (.v (.pointer (some ⟨p2,0,none⟩))) (.p 1 0) rfl rfl (zN (n:=2) rfl))
 have hE18:EnvOk 24 [⟨p3,0,[.map m_],true⟩,⟨p2,0,[.map none],true⟩] [(2,.p 1 0),(3,.p 0 0)] _:=hE17.pk
 refine qaf [0,1] kz ?_
 refine qak [0] [1] [(2,.p 1 0),(23,.v (.agg #[.map m_]))] hW9 hE18 fun aqb hE19=>?_
 refine qan (qao hW9 hE19 (oi:=1) (cs:=[.map m_]) kz fun wz hFz hWz hEz=>qag (qab (wp_ret ?_)))
 have hsz:=hT'.step.size
 have hstz:Step wq wz (fun b o=>b = p2 ∨ b = p3):=hFz.step.mono fun b o _ ha=>by
  rcases ha with ⟨i,ob,hi,_,rfl,_⟩ | ⟨i,r,hi,_⟩
  ·have hm:=List.mem_of_getElem? hi
   simp only [List.nil_append,List.cons_append,List.mem_cons,List.not_mem_nil,or_false] at hm
   rcases hm with rfl | rfl
   ·exact .inr rfl
   exact .inl rfl
  simp at hi
 obtain ⟨m2,m3⟩:=hT'.mne
 refine qaK hEz hWz.cells (v:=.agg #[.map m_]) kz ⟨_,A_,n_,c_,rfl,hT'.rd.move hstz (fun o e=>?_),hT'.oct.move hstz (fun b o hg _ e=>?_) (fun b o hg _=>.inl hg.1),hWz.step,m_,rfl,?_⟩
 ·have:=hT'.old; rcases e with e | e <;> omega
 ·have:=hg.2; rcases e with e | e <;> omega
 refine (hT'.own.move hstz (fun b o hg _ e=>?_) qbi (fun r o e he=>?_)).map (fun b o h=>.inl h.1) (fun r o e=>.inr (hT'.new r e)) hsort hk
 ·have:=hg.2; rcases e with e | e <;> omega
 rcases he with he | he
 ·exact m2 (by rw [e,he])
 exact m3 (by rw [e,he])
theorem qlE (X:Bs) (hX:X.length ≤ 32767) (rest:Bs)  {br:Nat} {A:Option Addr} {m c:Nat} {w:World} {F:Nat → Nat → Prop} (hst:Str w br [.slice A m c,.bool false]) (hr:RdS w F A m c ((be 2 ((X.length:Nat):Int)) ++ (X ++ rest))) (hFd:∀ b o,F b o → ¬ RdM br b o) :
  Calls Tryz.prog 87 #[.pointer (some ⟨br,0,none⟩)] w (RdPost w br (Fp F w) rest fun v w'=>v = .string (bs X)):=by
 refine enter (n:=11) Tryz.func87 rfl Tryz.ntmps87 kz fun a hE=>?_
 have hW:WOk w (RdM br) w (z9 br A m c) []:=WOk.startStr hst
 have hE1:=(hE.grow ⟨br,0,(z86 A m c),true⟩).recast 0 (.v (.pointer (some ⟨br,0,none⟩))) (.p 0 0) rfl rfl (zN (n:=1) rfl)
 refine qas [(0,.p 0 0)] hW hE1 fun a1 hE2=>?_
 refine qaf [0,1,2] kz ?_
 refine qak [0] [1,2] [(0,.p 0 0),(4,.p 0 0)] hW hE2 fun a3 hE4=>?_
 refine qan (qal hE4 (f:=89) (vs:=(z29 br)) (d:=5) kz Tryz.call89 (qir ((X.length:Nat):Int) (X ++ rest) (Str.of hW 0 rfl) (hr.move hW.step (fun b_ o_ h_ _=>hFd b_ o_ h_) (hW.immM hFd)) (qdw 0 rfl)) ?_)
 rintro e_ w5 ⟨_,A6,n7,c8,rfl,hs9,ag,ac,rfl⟩
 obtain ⟨aa,ah,aG⟩:=hW.wrote 0 (z9 br A6 n7 c8) rfl ac hs9
 have ai:=ag.move (Step.refl _ Nil) nilM (fun b_ o_ h_ _=>ah.to b_ o_ h_)
 refine ⟨_,rfl,fun aJ aj=>?_⟩
 have ak:EnvOk 11 (z9 br A6 n7 c8) [(5,.v (.int .i16 (IntKind.i16.wrap ((X.length:Nat):Int)))),(0,.p 0 0),(4,.p 0 0)] _:=aj.places (⟨rfl,rfl,trivial⟩)
 refine qak [2] [] [(0,.p 0 0),(3,.v (.int .i16 (IntKind.i16.wrap ((X.length:Nat):Int))))] aa ak fun aK al=>?_
 refine qag (qab ?_)
 refine qaf [0,1,2,3,4,5] kz ?_
 refine qak [0,1,2] [3,4,5] [(6,.p 0 0),(8,.v (.int .i64 (IntKind.i64.wrap (IntKind.i16.wrap ((X.length:Nat):Int)))))] aa al fun aL am=>?_
 have ao:IntKind.i64.wrap (IntKind.i16.wrap ((X.length:Nat):Int)) = ((X.length:Nat):Int):=by simp only [i16w,i32w,i64w]; omega
 have ap:=EnvOk.pick am (ks:=[6,8]) (env':=[(6,.p 0 0),(8,.v (.int .i64 (IntKind.i64.wrap (IntKind.i16.wrap ((X.length:Nat):Int)))))]) kz
 have ar:=ap
 rw [ao] at ar
 refine qan (qal ar (f:=126) (vs:=(z66 br X.length)) (d:=9) kz Tryz.call126 (qi2 X (rest) (Str.of aa 0 rfl) ai (qdw 0 rfl)) ?_)
 rintro e_ aM ⟨_,aD,aE,aF,rfl,au,av,ae,⟨aH,rfl,aw⟩⟩
 obtain ⟨ab,af,aI⟩:=aa.wrote 0 (z9 br aD aE aF) rfl ae au
 have ax:=av.move (Step.refl _ Nil) nilM (fun b_ o_ h_ _=>af.to b_ o_ h_)
 refine ⟨_,rfl,fun aN ay=>?_⟩
 have az:EnvOk 11 (z9 br aD aE aF) [(9,.v (.slice aH X.length X.length)),(6,.p 0 0),(8,.v (.int .i64 ((X.length:Nat):Int)))] _:=ay.places (⟨rfl,rfl,trivial⟩)
 have aA:=aw.move (Step.refl _ Nil) nilM (fun b_ o_ h_ _=>af.to b_ o_ h_)
 refine qan (qe3 az (src:=22) (dst:=9) (e:=5) (d:=10) kz kz kz kz aA fun aO aB=>?_)
 refine qak [5] [] [(2,.v (.string (bs X)))] ab aB fun aP aC=>?_
 refine qag (qab ?_)
 refine wp_ret (qaK aC ab.cells (v:=.string (bs X)) kz ?_)
 refine ⟨_,_,_,_,rfl,Str.of ab 0 rfl,(ax.move (Step.refl _ Nil) nilM qbP),ab.step,rfl⟩
theorem qgb (X:Bs) (hX:X.length ≤ 1000000) (rest:Bs)  {br:Nat} {A:Option Addr} {m c:Nat} {w:World} {F:Nat → Nat → Prop} (hst:Str w br [.slice A m c,.bool false]) (hr:RdS w F A m c ((uv (X.length + 1)) ++ (X ++ rest))) (hFd:∀ b o,F b o → ¬ RdM br b o) :
  Calls Tryz.prog 86 #[.pointer (some ⟨br,0,none⟩)] w (RdPost w br (Fp F w) rest fun v w'=>v = .string (bs X)):=by
 refine enter (n:=12) Tryz.func86 rfl Tryz.ntmps86 kz fun a hE=>?_
 have hW:WOk w (RdM br) w (z9 br A m c) []:=WOk.startStr hst
 have hE1:=(hE.grow ⟨br,0,(z86 A m c),true⟩).recast 0 (.v (.pointer (some ⟨br,0,none⟩))) (.p 0 0) rfl rfl (zN (n:=1) rfl)
 refine qas [(0,.p 0 0)] hW hE1 fun a1 hE2=>?_
 refine qaf [0,1,2,3,4] kz ?_
 refine qak [0] [1,2,3,4] [(0,.p 0 0),(4,.p 0 0)] hW hE2 fun a3 hE4=>?_
 refine qan (qal hE4 (f:=124) (vs:=(z29 br)) (d:=5) kz Tryz.call124 (qdS (X.length + 1) (by omega) (X ++ rest) (Str.of hW 0 rfl) (hr.move hW.step (fun b_ o_ h_ _=>hFd b_ o_ h_) (hW.immM hFd)) (qdw 0 rfl)) ?_)
 rintro e_ w5 ⟨_,A6,n7,c8,rfl,hs9,ag,ac,rfl⟩
 obtain ⟨aa,ah,aG⟩:=hW.wrote 0 (z9 br A6 n7 c8) rfl ac hs9
 have ai:=ag.move (Step.refl _ Nil) nilM (fun b_ o_ h_ _=>ah.to b_ o_ h_)
 refine ⟨_,rfl,fun aJ aj=>?_⟩
 have ak:EnvOk 12 (z9 br A6 n7 c8) [(5,.v (.int .u32 ((X.length + 1:Nat):Int))),(0,.p 0 0),(4,.p 0 0)] _:=aj.places (⟨rfl,rfl,trivial⟩)
 refine qak [2,3,4] [] [(0,.p 0 0),(3,.v (.int .i64 (IntKind.i64.wrap ((IntKind.i64.wrap ((X.length + 1:Nat):Int)) - 1))))] aa ak fun aK al=>?_
 refine qag (qab ?_)
 refine qaf [0,1,2,3,4] kz ?_
 refine qak [0,1] [2,3,4] [(8,.p 0 0),(9,.v (.int .i64 (IntKind.i64.wrap ((IntKind.i64.wrap ((X.length + 1:Nat):Int)) - 1))))] aa al fun aL am=>?_
 have ao:IntKind.i64.wrap ((IntKind.i64.wrap ((X.length + 1:Nat):Int)) - 1) = ((X.length:Nat):Int):=by simp only [i16w,i32w,i64w]; omega
 have ap:=EnvOk.pick am (ks:=[8,9]) (env':=[(8,.p 0 0),(9,.v (.int .i64 (IntKind.i64.wrap ((IntKind.i64.wrap ((X.length + 1:Nat):Int)) - 1))))]) kz
 have ar:=ap
 rw [ao] at ar
 refine qan (qal ar (f:=126) (vs:=(z66 br X.length)) (d:=10) kz Tryz.call126 (qi2 X (rest) (Str.of aa 0 rfl) ai (qdw 0 rfl)) ?_)
 rintro e_ aM ⟨_,aD,aE,aF,rfl,au,av,ae,⟨aH,rfl,aw⟩⟩
 obtain ⟨ab,af,aI⟩:=aa.wrote 0 (z9 br aD aE aF) rfl ae au
 have ax:=av.move (Step.refl _ Nil) nilM (fun b_ o_ h_ _=>af.to b_ o_ h_)
 refine ⟨_,rfl,fun aN ay=>?_⟩
 have az:EnvOk 12 (z9 br aD aE aF) [(10,.v (.slice aH X.length X.length)),(8,.p 0 0),(9,.v (.int .i64 ((X.length:Nat):Int)))] _:=ay.places (⟨rfl,rfl,trivial⟩)
 have aA:=aw.move (Step.refl _ Nil) nilM (fun b_ o_ h_ _=>af.to b_ o_ h_)
 refine qan (qe3 az (src:=22) (dst:=9) (e:=5) (d:=11) kz kz kz kz aA fun aO aB=>?_)
 refine qak [4] [] [(2,.v (.string (bs X)))] ab aB fun aP aC=>?_
 refine qag (qab ?_)
 refine wp_ret (qaK aC ab.cells (v:=.string (bs X)) kz ?_)
 refine ⟨_,_,_,_,rfl,Str.of ab 0 rfl,(ax.move (Step.refl _ Nil) nilM qbP),ab.step,rfl⟩
theorem qfw (X:Bs) (rest:Bs)  {br:Nat} {A:Option Addr} {m c:Nat} {w:World} {F:Nat → Nat → Prop} (hst:Str w br [.slice A m c,.bool false]) (hr:RdS w F A m c ((be 2 (-1)) ++ rest)) (hFd:∀ b o,F b o → ¬ RdM br b o) :
  Calls Tryz.prog 112 #[.pointer (some ⟨br,0,none⟩)] w (RdPost w br (Fp F w) rest fun v w'=>∃ A2,v = .pointer A2 ∧ (∀ ad,A2 = some ad → ∃ b o,ad = ⟨b,o,none⟩ ∧ AtF w' (Fp F w) b o [.string (bs X)]) ∧ A2.isNone = true):=by
 refine enter (n:=14) Tryz.func112 rfl Tryz.ntmps112 kz fun a hE=>?_
 have hW:WOk w (RdM br) w (z9 br A m c) []:=WOk.startStr hst
 have hE1:=(hE.grow ⟨br,0,(z86 A m c),true⟩).recast 0 (.v (.pointer (some ⟨br,0,none⟩))) (.p 0 0) rfl rfl (zN (n:=1) rfl)
 refine qas [(0,.p 0 0)] hW hE1 fun a1 hE2=>?_
 refine qaf [0,1,2] kz ?_
 refine qak [0] [1,2] [(0,.p 0 0),(5,.p 0 0)] hW hE2 fun a3 hE4=>?_
 refine qan (qal hE4 (f:=89) (vs:=(z29 br)) (d:=6) kz Tryz.call89 (qir (-1) (rest) (Str.of hW 0 rfl) (hr.move hW.step (fun b_ o_ h_ _=>hFd b_ o_ h_) (hW.immM hFd)) (qdw 0 rfl)) ?_)
 rintro e_ w5 ⟨_,A6,n7,c8,rfl,hs9,ae,ab,rfl⟩
 obtain ⟨aa,af,al⟩:=hW.wrote 0 (z9 br A6 n7 c8) rfl ab hs9
 have ag:=ae.move (Step.refl _ Nil) nilM (fun b_ o_ h_ _=>af.to b_ o_ h_)
 refine ⟨_,rfl,fun am ah=>?_⟩
 have ai:EnvOk 14 (z9 br A6 n7 c8) [(6,.v (.int .i16 (IntKind.i16.wrap (-1)))),(0,.p 0 0),(5,.p 0 0)] _:=ah.places (⟨rfl,rfl,trivial⟩)
 refine qak [2] [] [(0,.p 0 0),(3,.v (.int .i16 (IntKind.i16.wrap (-1))))] aa ai fun ao aj=>?_
 refine qag (qab ?_)
 refine wp_seq (qas [(0,.p 0 0),(3,.v (.int .i16 (IntKind.i16.wrap (-1)))),(8,.v (.bool (decide ((IntKind.i16.wrap (-1)) < 0))))] aa aj fun ap ac=>?_)
 refine qa9 ac (b:=decide ((IntKind.i16.wrap (-1)) < 0)) kz (decide_eq_true (by simp only [i16w,i32w,i64w]; omega)) ?_
 refine qas [(2,.v (.pointer none))] aa ac fun ar ak=>?_
 refine wp_ret (qat (qaK ak aa.cells (v:=.pointer none) kz ?_))
 refine ⟨_,_,_,_,rfl,Str.of aa 0 rfl,(ag.move (Step.refl _ Nil) nilM qbP),aa.step,_,rfl,(fun ad h_=>by cases h_),rfl⟩
theorem qfx (X:Bs) (hX:X.length ≤ 32767) (rest:Bs)  {br:Nat} {A:Option Addr} {m c:Nat} {w:World} {F:Nat → Nat → Prop} (hst:Str w br [.slice A m c,.bool false]) (hr:RdS w F A m c ((be 2 ((X.length:Nat):Int)) ++ (X ++ rest))) (hFd:∀ b o,F b o → ¬ RdM br b o) :
  Calls Tryz.prog 112 #[.pointer (some ⟨br,0,none⟩)] w (RdPost w br (Fp F w) rest fun v w'=>∃ A2,v = .pointer A2 ∧ (∀ ad,A2 = some ad → ∃ b o,ad = ⟨b,o,none⟩ ∧ AtF w' (Fp F w) b o [.string (bs X)]) ∧ A2.isNone = false):=by
 refine enter (n:=14) Tryz.func112 rfl Tryz.ntmps112 kz fun a hE=>?_
 have hW:WOk w (RdM br) w (z9 br A m c) []:=WOk.startStr hst
 have hE1:=(hE.grow ⟨br,0,(z86 A m c),true⟩).recast 0 (.v (.pointer (some ⟨br,0,none⟩))) (.p 0 0) rfl rfl (zN (n:=1) rfl)
 refine qas [(0,.p 0 0)] hW hE1 fun a1 hE2=>?_
 refine qaf [0,1,2] kz ?_
 refine qak [0] [1,2] [(0,.p 0 0),(5,.p 0 0)] hW hE2 fun a3 hE4=>?_
 refine qan (qal hE4 (f:=89) (vs:=(z29 br)) (d:=6) kz Tryz.call89 (qir ((X.length:Nat):Int) (X ++ rest) (Str.of hW 0 rfl) (hr.move hW.step (fun b_ o_ h_ _=>hFd b_ o_ h_) (hW.immM hFd)) (qdw 0 rfl)) ?_)
 rintro e_ w5 ⟨_,A6,n7,c8,rfl,hs9,aj,ac,rfl⟩
 obtain ⟨aa,ak,aN⟩:=hW.wrote 0 (z9 br A6 n7 c8) rfl ac hs9
 have al:=aj.move (Step.refl _ Nil) nilM (fun b_ o_ h_ _=>ak.to b_ o_ h_)
 refine ⟨_,rfl,fun aT am=>?_⟩
 have ao:EnvOk 14 (z9 br A6 n7 c8) [(6,.v (.int .i16 (IntKind.i16.wrap ((X.length:Nat):Int)))),(0,.p 0 0),(5,.p 0 0)] _:=am.places (⟨rfl,rfl,trivial⟩)
 refine qak [2] [] [(0,.p 0 0),(3,.v (.int .i16 (IntKind.i16.wrap ((X.length:Nat):Int))))] aa ao fun aU ap=>?_
 refine qag (qab ?_)
 refine wp_seq (qas [(0,.p 0 0),(3,.v (.int .i16 (IntKind.i16.wrap ((X.length:Nat):Int)))),(8,.v (.bool (decide ((IntKind.i16.wrap ((X.length:Nat):Int)) < 0))))] aa ap fun aV ae=>?_)
 refine qaq ae (b:=decide ((IntKind.i16.wrap ((X.length:Nat):Int)) < 0)) kz (decide_eq_false (by simp only [i16w,i32w,i64w]; omega)) ?_
 refine wp_skip (qab (qaf [0,1,2,3,4,5,6] kz ?_))
 refine qak [0,1,2] [3,4,5,6] [(9,.p 0 0),(11,.v (.int .i64 (IntKind.i64.wrap (IntKind.i16.wrap ((X.length:Nat):Int)))))] aa ae fun aW ar=>?_
 have au:IntKind.i64.wrap (IntKind.i16.wrap ((X.length:Nat):Int)) = ((X.length:Nat):Int):=by simp only [i16w,i32w,i64w]; omega
 have av:=EnvOk.pick ar (ks:=[9,11]) (env':=[(9,.p 0 0),(11,.v (.int .i64 (IntKind.i64.wrap (IntKind.i16.wrap ((X.length:Nat):Int)))))]) kz
 have aw:=av
 rw [au] at aw
 refine qan (qal aw (f:=126) (vs:=(z66 br X.length)) (d:=12) kz Tryz.call126 (qi2 X (rest) (Str.of aa 0 rfl) al (qdw 0 rfl)) ?_)
 rintro e_ aX ⟨_,aK,aL,aM,rfl,ax,ay,af,⟨aO,rfl,az⟩⟩
 obtain ⟨aA,ag,aP⟩:=aa.wrote 0 (z9 br aK aL aM) rfl af ax
 have aB:=ay.move (Step.refl _ Nil) nilM (fun b_ o_ h_ _=>ag.to b_ o_ h_)
 refine ⟨_,rfl,fun aY aC=>?_⟩
 have aD:EnvOk 14 (z9 br aK aL aM) [(12,.v (.slice aO X.length X.length)),(9,.p 0 0),(11,.v (.int .i64 ((X.length:Nat):Int)))] _:=aC.places (⟨rfl,rfl,trivial⟩)
 have aE:=az.move (Step.refl _ Nil) nilM (fun b_ o_ h_ _=>ag.to b_ o_ h_)
 refine qan (qe3 aD (src:=22) (dst:=9) (e:=5) (d:=13) kz kz kz kz aE fun aZ aF=>?_)
 refine qan (qaM aA aF (d:=4) (cs:=[.string zE]) kz fun aQ ba bd aR aS ah aG aH=>?_)
 refine qan (qao aG aH (oi:=1) (cs:=[.string (bs X)]) kz fun bf ai ab aI=>?_)
 refine qag (qab ?_)
 refine qas [(2,.p 1 0)] ab aI fun bg aJ=>?_
 refine wp_ret (qaK aJ ab.cells (v:=.pointer (some ⟨aQ,0,none⟩)) kz ?_)
 refine ⟨_,_,_,_,rfl,Str.of ab 0 rfl,((aB.move (ah.trans ai).step immM (ah.trans ai).to').move (Step.refl _ Nil) nilM qbP),ab.step,_,rfl,(fun ad h_=>by
  obtain rfl:=zJ h_
  exact ⟨_,0,rfl,fun j v_ hj=>⟨.inr ‹_›,ab.cells 1 _ rfl j v_ hj⟩⟩),rfl⟩
theorem qf2 (nul:Bool) (X:Bs) (hX:X.length ≤ 32767) (rest:Bs) {br:Nat} {A:Option Addr} {m c:Nat} {w:World} {F:Nat → Nat → Prop} (hst:Str w br [.slice A m c,.bool false]) (hr:RdS w F A m c ((if nul = true then be 2 (-1) else be 2 ((X.length:Nat):Int) ++ X) ++ rest)) (hFd:∀ b o,F b o → ¬ RdM br b o) :
  Calls Tryz.prog 112 #[.pointer (some ⟨br,0,none⟩)] w (RdPost w br (Fp F w) rest fun v w'=>∃ A2,v = .pointer A2 ∧ (∀ ad,A2 = some ad → ∃ b o,ad = ⟨b,o,none⟩ ∧ AtF w' (Fp F w) b o [.string (bs X)]) ∧ A2.isNone = nul):=by
 cases nul
 ·exact qfx X hX rest hst (hr.cast (by simp only [Bool.false_eq_true,if_false,List.append_assoc])) hFd
 exact qfw X rest hst (hr.cast (by simp only [if_true])) hFd
theorem qdT (X:Bs) (rest:Bs)  {br:Nat} {A:Option Addr} {m c:Nat} {w:World} {F:Nat → Nat → Prop} (hst:Str w br [.slice A m c,.bool false]) (hr:RdS w F A m c ((uv 0) ++ rest)) (hFd:∀ b o,F b o → ¬ RdM br b o) :
  Calls Tryz.prog 110 #[.pointer (some ⟨br,0,none⟩)] w (RdPost w br (Fp F w) rest fun v w'=>∃ A2,v = .pointer A2 ∧ (∀ ad,A2 = some ad → ∃ b o,ad = ⟨b,o,none⟩ ∧ AtF w' (Fp F w) b o [.string (bs X)]) ∧ A2.isNone = true):=by
 refine enter (n:=15) Tryz.func110 rfl Tryz.ntmps110 kz fun a hE=>?_
 have hW:WOk w (RdM br) w (z9 br A m c) []:=WOk.startStr hst
 have hE1:=(hE.grow ⟨br,0,(z86 A m c),true⟩).recast 0 (.v (.pointer (some ⟨br,0,none⟩))) (.p 0 0) rfl rfl (zN (n:=1) rfl)
 refine qas [(0,.p 0 0)] hW hE1 fun a1 hE2=>?_
 refine qaf [0,1,2,3,4] kz ?_
 refine qak [0] [1,2,3,4] [(0,.p 0 0),(5,.p 0 0)] hW hE2 fun a3 hE4=>?_
 refine qan (qal hE4 (f:=124) (vs:=(z29 br)) (d:=6) kz Tryz.call124 (qdS 0 (by omega) (rest) (Str.of hW 0 rfl) (hr.move hW.step (fun b_ o_ h_ _=>hFd b_ o_ h_) (hW.immM hFd)) (qdw 0 rfl)) ?_)
 rintro e_ w5 ⟨_,A6,n7,c8,rfl,hs9,ae,ab,rfl⟩
 obtain ⟨aa,af,al⟩:=hW.wrote 0 (z9 br A6 n7 c8) rfl ab hs9
 have ag:=ae.move (Step.refl _ Nil) nilM (fun b_ o_ h_ _=>af.to b_ o_ h_)
 refine ⟨_,rfl,fun am ah=>?_⟩
 have ai:EnvOk 15 (z9 br A6 n7 c8) [(6,.v (.int .u32 ((0:Nat):Int))),(0,.p 0 0),(5,.p 0 0)] _:=ah.places (⟨rfl,rfl,trivial⟩)
 refine qak [2,3,4] [] [(0,.p 0 0),(3,.v (.int .i64 (IntKind.i64.wrap ((IntKind.i64.wrap ((0:Nat):Int)) - 1))))] aa ai fun ao aj=>?_
 refine qag (qab ?_)
 refine wp_seq (qas [(0,.p 0 0),(3,.v (.int .i64 (IntKind.i64.wrap ((IntKind.i64.wrap ((0:Nat):Int)) - 1)))),(10,.v (.bool (decide ((IntKind.i64.wrap ((IntKind.i64.wrap ((0:Nat):Int)) - 1)) < 0))))] aa aj fun ap ac=>?_)
 refine qa9 ac (b:=decide ((IntKind.i64.wrap ((IntKind.i64.wrap ((0:Nat):Int)) - 1)) < 0)) kz (decide_eq_true (by simp only [i16w,i32w,i64w]; omega)) ?_
 refine qas [(2,.v (.pointer none))] aa ac fun ar ak=>?_
 refine wp_ret (qat (qaK ak aa.cells (v:=.pointer none) kz ?_))
 refine ⟨_,_,_,_,rfl,Str.of aa 0 rfl,(ag.move (Step.refl _ Nil) nilM qbP),aa.step,_,rfl,(fun ad h_=>by cases h_),rfl⟩
theorem qdU (X:Bs) (hX:X.length ≤ 1000000) (rest:Bs)  {br:Nat} {A:Option Addr} {m c:Nat} {w:World} {F:Nat → Nat → Prop} (hst:Str w br [.slice A m c,.bool false]) (hr:RdS w F A m c ((uv (X.length + 1)) ++ (X ++ rest))) (hFd:∀ b o,F b o → ¬ RdM br b o) :
  Calls Tryz.prog 110 #[.pointer (some ⟨br,0,none⟩)] w (RdPost w br (Fp F w) rest fun v w'=>∃ A2,v = .pointer A2 ∧ (∀ ad,A2 = some ad → ∃ b o,ad = ⟨b,o,none⟩ ∧ AtF w' (Fp F w) b o [.string (bs X)]) ∧ A2.isNone = false):=by
 refine enter (n:=15) Tryz.func110 rfl Tryz.ntmps110 kz fun a hE=>?_
 have hW:WOk w (RdM br) w (z9 br A m c) []:=WOk.startStr hst
 have hE1:=(hE.grow ⟨br,0,(z86 A m c),true⟩).recast 0 (.v (.pointer (some ⟨br,0,none⟩))) (.p 0 0) rfl rfl (zN (n:=1) rfl)
 refine qas [(0,.p 0 0)] hW hE1 fun a1 hE2=>?_
 refine qaf [0,1,2,3,4] kz ?_
 refine qak [0] [1,2,3,4] [(0,.p 0 0),(5,.p 0 0)] hW hE2 fun a3 hE4=>?_
 refine qan (qal hE4 (f:=124) (vs:=(z29 br)) (d:=6) kz Tryz.call124 (qdS (X.length + 1) (by omega) (X ++ rest) (Str.of hW 0 rfl) (hr.move hW.step (fun b_ o_ h_ _=>hFd b_ o_ h_) (hW.immM hFd)) (qdw 0 rfl)) ?_)
 rintro e_ w5 ⟨_,A6,n7,c8,rfl,hs9,aj,ac,rfl⟩
 obtain ⟨aa,ak,aN⟩:=hW.wrote 0 (z9 br A6 n7 c8) rfl ac hs9
 have al:=aj.move (Step.refl _ Nil) nilM (fun b_ o_ h_ _=>ak.to b_ o_ h_)
 refine ⟨_,rfl,fun aT am=>?_⟩
 have ao:EnvOk 15 (z9 br A6 n7 c8) [(6,.v (.int .u32 ((X.length + 1:Nat):Int))),(0,.p 0 0),(5,.p 0 0)] _:=am.places (⟨rfl,rfl,trivial⟩)
 refine qak [2,3,4] [] [(0,.p 0 0),(3,.v (.int .i64 (IntKind.i64.wrap ((IntKind.i64.wrap ((X.length + 1:Nat):Int)) - 1))))] aa ao fun aU ap=>?_
 refine qag (qab ?_)
 refine wp_seq (qas [(0,.p 0 0),(3,.v (.int .i64 (IntKind.i64.wrap ((IntKind.i64.wrap ((X.length + 1:Nat):Int)) - 1)))),(10,.v (.bool (decide ((IntKind.i64.wrap ((IntKind.i64.wrap ((X.length + 1:Nat):Int)) - 1)) < 0))))] aa ap fun aV ae=>?_)
 refine qaq ae (b:=decide ((IntKind.i64.wrap ((IntKind.i64.wrap ((X.length + 1:Nat):Int)) - 1)) < 0)) kz (decide_eq_false (by simp only [i16w,i32w,i64w]; omega)) ?_
 refine wp_skip (qab (qaf [0,1,2,3,4,5] kz ?_))
 refine qak [0,1] [2,3,4,5] [(11,.p 0 0),(12,.v (.int .i64 (IntKind.i64.wrap ((IntKind.i64.wrap ((X.length + 1:Nat):Int)) - 1))))] aa ae fun aW ar=>?_
 have au:IntKind.i64.wrap ((IntKind.i64.wrap ((X.length + 1:Nat):Int)) - 1) = ((X.length:Nat):Int):=by simp only [i16w,i32w,i64w]; omega
 have av:=EnvOk.pick ar (ks:=[11,12]) (env':=[(11,.p 0 0),(12,.v (.int .i64 (IntKind.i64.wrap ((IntKind.i64.wrap ((X.length + 1:Nat):Int)) - 1))))]) kz
 have aw:=av
 rw [au] at aw
 refine qan (qal aw (f:=126) (vs:=(z66 br X.length)) (d:=13) kz Tryz.call126 (qi2 X (rest) (Str.of aa 0 rfl) al (qdw 0 rfl)) ?_)
 rintro e_ aX ⟨_,aK,aL,aM,rfl,ax,ay,af,⟨aO,rfl,az⟩⟩
 obtain ⟨aA,ag,aP⟩:=aa.wrote 0 (z9 br aK aL aM) rfl af ax
 have aB:=ay.move (Step.refl _ Nil) nilM (fun b_ o_ h_ _=>ag.to b_ o_ h_)
 refine ⟨_,rfl,fun aY aC=>?_⟩
 have aD:EnvOk 15 (z9 br aK aL aM) [(13,.v (.slice aO X.length X.length)),(11,.p 0 0),(12,.v (.int .i64 ((X.length:Nat):Int)))] _:=aC.places (⟨rfl,rfl,trivial⟩)
 have aE:=az.move (Step.refl _ Nil) nilM (fun b_ o_ h_ _=>ag.to b_ o_ h_)
 refine qan (qe3 aD (src:=22) (dst:=9) (e:=5) (d:=14) kz kz kz kz aE fun aZ aF=>?_)
 refine qan (qaM aA aF (d:=4) (cs:=[.string zE]) kz fun aQ ba bd aR aS ah aG aH=>?_)
 refine qan (qao aG aH (oi:=1) (cs:=[.string (bs X)]) kz fun bf ai ab aI=>?_)
 refine qag (qab ?_)
 refine qas [(2,.p 1 0)] ab aI fun bg aJ=>?_
 refine wp_ret (qaK aJ ab.cells (v:=.pointer (some ⟨aQ,0,none⟩)) kz ?_)
 refine ⟨_,_,_,_,rfl,Str.of ab 0 rfl,((aB.move (ah.trans ai).step immM (ah.trans ai).to').move (Step.refl _ Nil) nilM qbP),ab.step,_,rfl,(fun ad h_=>by
  obtain rfl:=zJ h_
  exact ⟨_,0,rfl,fun j v_ hj=>⟨.inr ‹_›,ab.cells 1 _ rfl j v_ hj⟩⟩),rfl⟩
theorem qd0 (nul:Bool) (X:Bs) (hX:X.length ≤ 1000000) (rest:Bs) {br:Nat} {A:Option Addr} {m c:Nat} {w:World} {F:Nat → Nat → Prop} (hst:Str w br [.slice A m c,.bool false]) (hr:RdS w F A m c ((if nul = true then uv 0 else uv (X.length + 1) ++ X) ++ rest)) (hFd:∀ b o,F b o → ¬ RdM br b o) :
  Calls Tryz.prog 110 #[.pointer (some ⟨br,0,none⟩)] w (RdPost w br (Fp F w) rest fun v w'=>∃ A2,v = .pointer A2 ∧ (∀ ad,A2 = some ad → ∃ b o,ad = ⟨b,o,none⟩ ∧ AtF w' (Fp F w) b o [.string (bs X)]) ∧ A2.isNone = nul):=by
 cases nul
 ·exact qdU X hX rest hst (hr.cast (by simp only [Bool.false_eq_true,if_false,List.append_assoc])) hFd
 exact qdT X rest hst (hr.cast (by simp only [if_true])) hFd
theorem qj8 (x:Int) (hx:-1 ≤ x ∧ x ≤ 32767) (rest:Bs) (hl:x ≤ ((rest.length:Nat):Int)) {br:Nat} {A:Option Addr} {m c:Nat} {w:World} {F:Nat → Nat → Prop} (hst:Str w br [.slice A m c,.bool false]) (hr:RdS w F A m c ((be 4 x) ++ rest)) (hFd:∀ b o,F b o → ¬ RdM br b o) :
  Calls Tryz.prog 91 #[.pointer (some ⟨br,0,none⟩)] w (RdPost w br (Fp F w) rest fun v w'=>v = .int .i32 x):=by
 refine enter (n:=21) Tryz.func91 rfl Tryz.ntmps91 kz fun a hE=>?_
 have hW:WOk w (RdM br) w (z9 br A m c) []:=WOk.startStr hst
 have hE1:=(hE.grow ⟨br,0,(z86 A m c),true⟩).recast 0 (.v (.pointer (some ⟨br,0,none⟩))) (.p 0 0) rfl rfl (zN (n:=1) rfl)
 refine qas [(0,.p 0 0)] hW hE1 fun a1 hE2=>?_
 refine qaf [0,1,2] kz ?_
 refine qak [0] [1,2] [(0,.p 0 0),(4,.p 0 0)] hW hE2 fun a3 hE4=>?_
 refine qan (qal hE4 (f:=95) (vs:=(z29 br)) (d:=5) kz Tryz.call95 (qk6 x (rest) (Str.of hW 0 rfl) (hr.move hW.step (fun b_ o_ h_ _=>hFd b_ o_ h_) (hW.immM hFd)) (qdw 0 rfl)) ?_)
 rintro e_ w5 ⟨_,A6,n7,c8,rfl,hs9,af,ab,rfl⟩
 obtain ⟨aa,ag,al⟩:=hW.wrote 0 (z9 br A6 n7 c8) rfl ab hs9
 have ac:=af.move (Step.refl _ Nil) nilM (fun b_ o_ h_ _=>ag.to b_ o_ h_)
 refine ⟨_,rfl,fun am ah=>?_⟩
 have ai:EnvOk 21 (z9 br A6 n7 c8) [(5,.v (.int .i32 (IntKind.i32.wrap x))),(0,.p 0 0),(4,.p 0 0)] _:=ah.places (⟨rfl,rfl,trivial⟩)
 refine qak [2] [] [(0,.p 0 0),(3,.v (.int .i32 (IntKind.i32.wrap x)))] aa ai fun ao aj=>?_
 refine qag (qab ?_)
 refine wp_seq (qas [(0,.p 0 0),(3,.v (.int .i32 (IntKind.i32.wrap x))),(13,.v (.bool (decide (((n7:Nat):Int) < (IntKind.i64.wrap (IntKind.i32.wrap x))))))] aa aj fun ap ae=>?_)
 refine qaq ae (b:=decide (((n7:Nat):Int) < (IntKind.i64.wrap (IntKind.i32.wrap x)))) kz (decide_eq_false (by have h_:=ac.len; simp only [i32w,i64w]; omega)) ?_
 refine wp_skip (qab (qas [(2,.v (.int .i32 (IntKind.i32.wrap x)))] aa ae fun ar ak=>?_))
 refine wp_ret (qaK ak aa.cells (v:=.int .i32 (IntKind.i32.wrap x)) kz ?_)
 refine ⟨_,_,_,_,rfl,Str.of aa 0 rfl,(ac.move (Step.refl _ Nil) nilM qbP),aa.step,congrArg (Value.int .i32) (by simp only [i32w]; omega)⟩
theorem qfy (n:Nat) (hn:n ≤ 32768) (rest:Bs) (hl:n ≤ rest.length + 1) {br:Nat} {A:Option Addr} {m c:Nat} {w:World} {F:Nat → Nat → Prop} (hst:Str w br [.slice A m c,.bool false]) (hr:RdS w F A m c ((uv n) ++ rest)) (hFd:∀ b o,F b o → ¬ RdM br b o) :
  Calls Tryz.prog 90 #[.pointer (some ⟨br,0,none⟩)] w (RdPost w br (Fp F w) rest fun v w'=>v = .int .i32 (((n:Nat):Int) - 1)):=by
 refine enter (n:=23) Tryz.func90 rfl Tryz.ntmps90 kz fun a hE=>?_
 have hW:WOk w (RdM br) w (z9 br A m c) []:=WOk.startStr hst
 have hE1:=(hE.grow ⟨br,0,(z86 A m c),true⟩).recast 0 (.v (.pointer (some ⟨br,0,none⟩))) (.p 0 0) rfl rfl (zN (n:=1) rfl)
 refine qas [(0,.p 0 0)] hW hE1 fun a1 hE2=>?_
 refine qaf [0,1,2,3,4] kz ?_
 refine qak [0] [1,2,3,4] [(0,.p 0 0),(4,.p 0 0)] hW hE2 fun a3 hE4=>?_
 refine qan (qal hE4 (f:=124) (vs:=(z29 br)) (d:=5) kz Tryz.call124 (qdS n (by omega) (rest) (Str.of hW 0 rfl) (hr.move hW.step (fun b_ o_ h_ _=>hFd b_ o_ h_) (hW.immM hFd)) (qdw 0 rfl)) ?_)
 rintro e_ w5 ⟨_,A6,n7,c8,rfl,hs9,af,ab,rfl⟩
 obtain ⟨aa,ag,al⟩:=hW.wrote 0 (z9 br A6 n7 c8) rfl ab hs9
 have ac:=af.move (Step.refl _ Nil) nilM (fun b_ o_ h_ _=>ag.to b_ o_ h_)
 refine ⟨_,rfl,fun am ah=>?_⟩
 have ai:EnvOk 23 (z9 br A6 n7 c8) [(5,.v (.int .u32 ((n:Nat):Int))),(0,.p 0 0),(4,.p 0 0)] _:=ah.places (⟨rfl,rfl,trivial⟩)
 refine qak [2,3,4] [] [(0,.p 0 0),(3,.v (.int .i32 (IntKind.i32.wrap ((IntKind.i32.wrap ((n:Nat):Int)) - 1))))] aa ai fun ao aj=>?_
 refine qag (qab ?_)
 refine wp_seq (qas [(0,.p 0 0),(3,.v (.int .i32 (IntKind.i32.wrap ((IntKind.i32.wrap ((n:Nat):Int)) - 1)))),(15,.v (.bool (decide (((n7:Nat):Int) < (IntKind.i64.wrap (IntKind.i32.wrap ((IntKind.i32.wrap ((n:Nat):Int)) - 1)))))))] aa aj fun ap ae=>?_)
 refine qaq ae (b:=decide (((n7:Nat):Int) < (IntKind.i64.wrap (IntKind.i32.wrap ((IntKind.i32.wrap ((n:Nat):Int)) - 1))))) kz (decide_eq_false (by have h_:=ac.len; simp only [i32w,i64w]; omega)) ?_
 refine wp_skip (qab (qas [(2,.v (.int .i32 (IntKind.i32.wrap ((IntKind.i32.wrap ((n:Nat):Int)) - 1))))] aa ae fun ar ak=>?_))
 refine wp_ret (qaK ak aa.cells (v:=.int .i32 (IntKind.i32.wrap ((IntKind.i32.wrap ((n:Nat):Int)) - 1))) kz ?_)
 refine ⟨_,_,_,_,rfl,Str.of aa 0 rfl,(ac.move (Step.refl _ Nil) nilM qbP),aa.step,congrArg (Value.int .i32) (by simp only [i32w]; omega)⟩
theorem rOk  (rest:Bs)  {br:Nat} {A:Option Addr} {m c:Nat} {w:World} {F:Nat → Nat → Prop} (hst:Str w br [.slice A m c,.bool false]) (hr:RdS w F A m c (rest)) (hFd:∀ b o,F b o → ¬ RdM br b o) :
  Calls Tryz.prog 92 #[.pointer (some ⟨br,0,none⟩)] w (RdPost w br (Fp F w) rest fun v w'=>v = .bool true):=by
 refine enter (n:=8) Tryz.func92 rfl Tryz.ntmps92 kz fun a hE=>?_
 have hW:WOk w (RdM br) w (z9 br A m c) []:=WOk.startStr hst
 have hE1:=(hE.grow ⟨br,0,(z86 A m c),true⟩).recast 0 (.v (.pointer (some ⟨br,0,none⟩))) (.p 0 0) rfl rfl (Nat.le_of_ble_eq_true (n:=1) rfl)
 refine qas [(0,.p 0 0)] hW hE1 fun a1 hE2=>?_
 refine qas [(2,.v (.bool true))] hW hE2 fun a3 hE4=>?_
 refine wp_ret (qaK hE4 hW.cells (v:=.bool true) kz ?_)
 refine ⟨_,_,_,_,rfl,Str.of hW 0 rfl,((hr.move hW.step (fun b_ o_ h_ _=>hFd b_ o_ h_) (hW.immM hFd)).move (Step.refl _ Nil) nilM qbP),hW.step,rfl⟩
theorem qc8 {P:Program} {c:Code} {Mid:Act → World → Prop} {Q:Exit → Act → World → Prop} {a:Act} {w:World} (h1:c.wp P (Exit.then Mid Q) a w) (h2:∀ a' w',Mid a' w' → Q .normal a' w'):c.wp P Q a w :=
 wp_mono h1 fun e a' w' h=>by
  cases e <;> first | exact h2 a' w' h | exact h
theorem qgU {k:Nat} (h:k < 32768):IntKind.i32.wrap (((k:Nat):Int) + 1) = ((k + 1:Nat):Int):=by rw [i32w]; omega
theorem qj9 {g:Tree → Bs}:∀ {L:List Tree},(∀ t,0 < (g t).length) → L.length ≤ (L.flatMap g).length
 | [],_=>Nat.zero_le _
 | t :: r,h=>by
  have h1:=h t
  have h2:=qj9 (L:=r) h
  rw [List.flatMap_cons,List.length_append,List.length_cons]; omega
theorem flat_ge' {g:Tree → Bs} {L:List Tree} (h:∀ t,0 < (g t).length) (rest:Bs):L.length ≤ (L.flatMap g ++ rest).length:=by
 have:=qj9 (L:=L) h
 rw [List.length_append]; omega
theorem qlF {x y:Bs} (h:0 < x.length):0 < (x ++ y).length:=by rw [List.length_append]; omega
theorem qk7 {m:Nat} {x:Int} (h:0 < m):0 < (be m x).length:=by rw [be_length]; exact h
section
variable {Pr:Program} {ops:Array Oper} {Q:Exit → Act → World → Prop} {w0:World} {M F:Nat → Nat → Prop} {n br:Nat} {tb:Tb} {env:Env} {P:qcz} {s:Bs} {a:Act} {w:World}
theorem qh2 {id d:Nat} {t e:TypeId} {size bytes m cp:Nat} {A0:Option Addr} (env1 env':Env) (i:Nat) (h:RS w0 M F n br tb env P s a w) (K:∀ a',RS w0 M F n br tb env' P s a' w → Q .normal a' w)
  (hr:List.range ops.size = List.range i ++ (i :: (List.range ops.size).drop (i + 1)):=by kernel_rfl) (e1:∀ A m c,qdy Pr ops n (rdo br A m c :: tb) (List.range i) (qcf env1) env = some env1:=by intro _ _ _; kernel_rfl)
  (hc:∀ A m_ c,cutE (rdo br A m_ c :: tb) env1 ops n i = some (t,.slice A0 m cp,none,some 0,d):=by intro _ _ _; kernel_rfl) (ht:qc2 Pr t = some (e,size,bytes):=by kernel_rfl)
  (e2:∀ A m_ c,qdy Pr ops n (rdo br A m_ c :: tb) ((List.range ops.size).drop (i + 1)) (qcf env') ((d,.v (.slice A0 0 cp)) :: env1) = some env':=by intro _ _ _; kernel_rfl):(Code.region id ops false).wp Pr Q a w:=by
 refine qau _ hr (qcR (List.range i) _ env1 h (fun a1 h1=>?_) e1 rfl)
 obtain ⟨A,m1,c,hW,hrd,hE,hP⟩:=h1.open_
 refine qan (qdO hE (hc A m1 c) ht (j:=0) rfl (Nat.zero_le _) fun a2 hE2=>?_)
 exact qcR _ [] env' (RS.mk' hW hrd hE2 h1.mv hP) (fun a3 h3=>qag (K a3 h3)) e2 (List.append_nil _).symm
theorem qka {i d:Nat} {f:FuncId} {vs:List Value} {v0:Value} {N:Act → World → Prop} (h:RS w0 M F n br tb env P s a w) (hc:∀ w,Calls Pr f vs.toArray w (fun e w'=>e = .returned v0 ∧ w' = w))
  (hf:∀ args w,(callFunc f args).run Pr w = .ok (.enter f args) w) (K:∀ a',RS w0 M F n br tb ((d,.v v0) :: env) P s a' w → N a' w)
  (he:∀ A m c,qfc (rdo br A m c :: tb) env ops n i = some (f,vs,d):=by intro _ _ _; kernel_rfl):wpOp Pr ops Q i N a w:=by
 obtain ⟨A,m,c,hW,hr,hE,hP⟩:=h.open_
 refine qal hE (he A m c) hf (hc w) ?_
 rintro e_ _ ⟨rfl,rfl⟩
 exact ⟨_,rfl,fun a1 hE1=>K a1 (RS.mk' hW hr hE1 h.mv hP)⟩
theorem qlG {id d:Nat} {f:FuncId} {v0:Value} (env':Env) (h:RS w0 M F n br tb env P s a w) (hc:qdJ Pr f [] s v0)
  (hf:∀ args w,(callFunc f args).run Pr w = .ok (.enter f args) w) (K:∀ a' w',RS w0 M F n br tb env' P s a' w' → Q .normal a' w')
  (he:∀ A m c,qfc (rdo br A m c :: tb) env ops n 0 = some (f,[.pointer (some ⟨br,0,none⟩)],d):=by intro _ _ _; kernel_rfl)
  (e:∀ A m c,qdy Pr ops n (rdo br A m c :: tb) ((List.range ops.size).drop 1) (qcf env') ((d,.v v0) :: env) = some env':=by intro _ _ _; kernel_rfl) (hs:Nat.blt 0 ops.size = true:=by kernel_rfl):(Code.region id ops false).wp Pr Q a w :=
 qdY (X:=[]) (rest:=s) env' h hc hf K he e hs
theorem qkK {i d k l g size bytes:Nat} {t e:TypeId} {z:Value} {N:Act → World → Prop} (h:RS w0 M F n br (tb ++ [qbw g size z l k]) env P s a w) (hk:k < l) (hz:z.cells.size = size) (hl:qeW (tb.length + 1) env = true)
  (K:∀ a',RS w0 M F n br (tb ++ [qbw g size z l (k + 1),⟨g,k * size,z.cells.toList,true⟩]) ((d,.p (tb.length + 2) 0) :: env) P s a' w → N a' w)
  (he:∀ A m c,idxE (rdo br A m c :: (tb ++ [qbw g size z l k])) env ops n i = some (t,some ⟨g,0,none⟩,l,((k:Nat):Int),d):=by intro _ _ _; kernel_rfl) (ht:qc2 Pr t = some (e,size,bytes):=by kernel_rfl):wpOp Pr ops Q i N a w:=by
 obtain ⟨A,m,c,hW,hr,hE,hP⟩:=h.open_
 refine qaB hE (he A m c) ht rfl rfl hk fun a1 hE1=>K a1 ?_
 have h1:RS w0 M F n br (tb ++ [qbw g size z l k]) ((d,.v (.pointer (some ⟨g,0 + k * size,none⟩))) :: env) P s a1 w:=RS.mk' hW hr hE1 h.mv hP
 have h2:=h1.next hk hz (by simpa only [qeW] using hl)
 have h3:=h2.recast d (.v (.pointer (some ⟨g,0 + k * size,none⟩))) (.p (tb.length + 2) 0) (by simp [lk]) ?_ (by show tb.length + 2 < _; simp)
 ·refine ⟨h3.mv,h3.ex,?_,h3.fact⟩
  refine ⟨h3.env_.defers,h3.env_.size,fun q x hx=>h3.env_.at_ q x ?_⟩
  simp only [lk] at hx ⊢
  split at hx
  ·exact hx
  exact hx
 have:obAt (rdo br none 0 0 :: (tb ++ [qbw g size z l (k + 1),⟨g,k * size,z.cells.toList,true⟩])) (tb.length + 2) = ⟨g,k * size,z.cells.toList,true⟩:=by
  simp only [obAt,List.getD_eq_getElem?_getD]
  rw [show tb.length + 2 = (tb.length + 1) + 1 from rfl,List.getElem?_cons_succ,List.getElem?_append_right (by omega)]
  simp
 simp only [SV.val,this]
 simp
theorem qh3 {id d k l g size bytes:Nat} {t e:TypeId} {z:Value} (env1 env':Env) (i:Nat) (h:RS w0 M F n br (tb ++ [qbw g size z l k]) env P s a w) (hk:k < l) (hz:z.cells.size = size) (hl:qeW (tb.length + 1) env1 = true)
  (K:∀ a',RS w0 M F n br (tb ++ [qbw g size z l (k + 1),⟨g,k * size,z.cells.toList,true⟩]) env' P s a' w → Q .normal a' w)
  (hr:List.range ops.size = List.range i ++ (i :: (List.range ops.size).drop (i + 1)):=by kernel_rfl) (e1:∀ A m c,qdy Pr ops n (rdo br A m c :: (tb ++ [qbw g size z l k])) (List.range i) (qcf env1) env = some env1:=by intro _ _ _; kernel_rfl)
  (he:∀ A m c,idxE (rdo br A m c :: (tb ++ [qbw g size z l k])) env1 ops n i = some (t,some ⟨g,0,none⟩,l,((k:Nat):Int),d):=by intro _ _ _; kernel_rfl) (ht:qc2 Pr t = some (e,size,bytes):=by kernel_rfl)
  (e2:∀ A m c,qdy Pr ops n (rdo br A m c :: (tb ++ [qbw g size z l (k + 1),⟨g,k * size,z.cells.toList,true⟩])) ((List.range ops.size).drop (i + 1)) (qcf env') ((d,.p (tb.length + 2) 0) :: env1) = some env':=by intro _ _ _; kernel_rfl):(Code.region id ops false).wp Pr Q a w:=by
 refine qau _ hr (qcR (List.range i) _ env1 h (fun a1 h1=>qan (qkK h1 hk hz hl (fun a2 h2=>?_) he ht)) e1 rfl)
 exact qcR _ [] env' h2 (fun a3 h3=>qag (K a3 h3)) e2 (List.append_nil _).symm
end
theorem qmv (X:Bs) (hX:X.length = 16) (rest:Bs) {br:Nat} {A:Option Addr} {m c:Nat} {w:World} {F:Nat → Nat → Prop} (hst:Str w br [.slice A m c,.bool false]) (hr:RdS w F A m c (X ++ rest)) (hFd:∀ b o,F b o → ¬ RdM br b o) :
  Calls Tryz.prog 114 #[.pointer (some ⟨br,0,none⟩)] w (RdPost w br (Fp F w) rest fun v w'=>v = .agg ((List.range 16).map fun i=>qad (X.getD i 0)).toArray):=by
 have hbr:br < w.heap.size:=World.lt_of_cell (hst.at_ 0 _ rfl)
 refine enter (n:=9) (vs:=(z29 br)) Tryz.func114 rfl Tryz.ntmps114 kz fun a hE=>?_
 refine qaf [0] kz ?_
 refine qan (qfX hE (d:=2) (cs:=(List.range 16).map fun _=>qad 0) kz fun t0 a1 hE1=>qag (qab ?_))
 have hs1:=Step.alloc w (.cells ((List.range 16).map fun _=>qad 0).toArray t0)
 have hz1:=qdE w (.cells ((List.range 16).map fun _=>qad 0).toArray t0)
 have hh1:=qc5 w (.cells ((List.range 16).map fun _=>qad 0).toArray t0)
 generalize w.alloc (.cells ((List.range 16).map fun _=>qad 0).toArray t0) = w1 at hs1 hz1 hh1
 refine qaf [0] kz ?_
 refine qan (qfX hE1 (d:=3) (cs:=(List.range 16).map fun _=>qad 0) kz fun t1 a2 hE2=>qag (qab ?_))
 have hs2:=Step.alloc w1 (.cells ((List.range 16).map fun _=>qad 0).toArray t1)
 have hz2:=qdE w1 (.cells ((List.range 16).map fun _=>qad 0).toArray t1)
 have hh2:=qc5 w1 (.cells ((List.range 16).map fun _=>qad 0).toArray t1)
 generalize hp2:w.heap.size = p2 at hE1 hE2 hh1 hz1
 generalize hp3:w1.heap.size = p3 at hE2 hh2 hz2
 generalize w1.alloc (.cells ((List.range 16).map fun _=>qad 0).toArray t1) = w2 at hs2 hz2 hh2
 refine qeE (fun _=>True) 4 kz ?_
 have hsd:=Step.drew w2
 have hhd:w2.drew.heap[p3]? = some (.cells ((List.range 16).map fun _=>qad 0).toArray t1):=hh2
 have hS:Step w w2.drew Nil:=(hs1.trans hs2 fun _ _ _ h=>h).trans hsd fun _ _ _ h=>h
 have hh1d:w2.drew.heap[p2]? = some (.cells ((List.range 16).map fun _=>qad 0).toArray t0):=(hs2.trans hsd fun _ _ _ h=>h).heap (fun _ h=>h) hh1
 generalize w2.drew = wd at hsd hhd hS hh1d
 have hE3:EnvOk 9 [⟨p3,0,[],true⟩] [(0,.v (.pointer (some ⟨br,0,none⟩))),(2,.v (.pointer (some ⟨p2,0,none⟩))),(3,.p 0 0)] _:=((hE2.grow ⟨p3,0,[],true⟩).recast 3 (.v (.pointer (some ⟨p3,0,none⟩))) (.p 0 0) rfl rfl (zN (n:=1) rfl)).pk
 refine qaF [0,1] [(0,.v (.pointer (some ⟨br,0,none⟩))),(2,.v (.pointer (some ⟨p2,0,none⟩))),(3,.p 0 0),(4,.v (.slice (some ⟨p3,0,none⟩) 16 16)),(5,.v (.pointer (some ⟨br,0,none⟩)))] 2 (qaa qae) (fun w' _ i o hi j v hj=>by
  cases i with
  | zero =>
   simp only [List.getElem?_cons_zero,Option.some.injEq] at hi
   subst hi
   simp at hj
  | succ i=>simp at hi) trivial hE3 fun a3 hE4=>?_
 have hst':=hst.move hS (fun _ h=>h)
 have hr':=hr.move hS nilM (fun b o h hb=>(⟨h,hb⟩:F b o ∧ b < w.heap.size))
 have hFd':∀ b o,(F b o ∧ b < w.heap.size) → ¬ RdM br b o:=fun b o h=>hFd b o h.1
 have hSp:=qi2 X rest hst' hr' hFd'
 rw [show ((X.length:Nat):Int) = 16 by omega] at hSp
 refine qap (i:=2) kz (qal hE4 (f:=126) (vs:=[.pointer (some ⟨br,0,none⟩),.int .i64 16]) (d:=6) kz Tryz.call126 hSp ?_)
 rintro e_ w3 ⟨_,A1,n1,c1,rfl,hs,hr1,hst3,Ax,rfl,hox⟩
 refine ⟨_,rfl,fun a4 hE5=>⟨fun _=>trivial,?_⟩⟩
 have hh3:=hst3.heap (fun o e=>by have:=e.1; have:=hS.size; omega) hhd
 have hh13:=hst3.heap (fun o e=>by have:=e.1; omega) hh1d
 refine qap (i:=3) kz (qhQ hE5 (t:=22) (u:=22) (e:=5) (bytes:=1) (b:=p3) (s:=X) (d:=7) kz kz hh3 rfl hox fun a5 w4 hst4 hat hfz hE6=>⟨fun _=>trivial,qaC kz (qab ?_) _⟩)
 obtain ⟨v,hE6⟩:=hE6
 have hh14:=hst4.heap (fun o e=>by have:=hz1; omega) hh13
 have hst04:Step w w4 (RdM br):=((hS.mono fun _ _ _ f=>f.elim).trans hst3 fun _ _ _ e=>e).trans hst4 fun b o hb e=>by have:=hs1.size; omega
 have h2l:p2 < w4.heap.size:=(Array.getElem?_eq_some_iff.1 hh14).1
 have hW4:WOk w (RdM br) w4 ([] ++ [⟨p2,0,(List.range 16).map fun _=>qad 0,true⟩] ++ [⟨p3,0,(List.range 16).map fun i=>qad (X.getD i 0),true⟩]) []:=by
  have hb:WOk w (RdM br) w4 [] []:=⟨hst04,fun i o hi=>by simp at hi,fun i o hi=>by simp at hi,fun i o hi=>by simp at hi,fun i j o o' _ hi=>by simp at hi,fun i r hi=>by simp at hi,fun i r hi=>by simp at hi,fun i r hi=>by simp at hi,fun i j r r' _ hi=>by simp at hi⟩
  have h4:=hb.add ⟨p2,0,(List.range 16).map fun _=>qad 0,true⟩ h2l (fun j v hj=>by
   dsimp only at hj ⊢
   rw [Nat.zero_add]
   simp only [World.cell?,hh14]
   simpa using hj) (fun _ j hj=>⟨.inl (by dsimp only; omega),by simp [World.frozen?,hh14]⟩) (fun i o hi=>by simp at hi) (fun i r hi=>by simp at hi)
  refine h4.add ⟨p3,0,(List.range 16).map fun i=>qad (X.getD i 0),true⟩ (World.lt_of_cell (hat 0 _ rfl)) (fun j v hj=>hat j v hj) (fun _ j hj=>⟨.inl (by dsimp only; have:=hs1.size; omega),hfz _⟩) (fun i o hi _=>.inl ?_) (fun i r hi=>by simp at hi)
  have hm:=List.mem_of_getElem? hi
  have:o = ⟨p2,0,(List.range 16).map fun _=>qad 0,true⟩:=by simpa using hm
  rw [this]
  dsimp only; omega
 have hE7:EnvOk 9 [⟨p2,0,(List.range 16).map fun _=>qad 0,true⟩,⟨p3,0,(List.range 16).map fun i=>qad (X.getD i 0),true⟩] [(2,.p 0 0),(3,.p 1 0)] _ :=
  (((((hE6.pick (ks:=[2,3]) (env':=[(2,.v (.pointer (some ⟨p2,0,none⟩))),(3,.p 0 0)]) kz).recast 3 (.p 0 0) (.v (.pointer (some ⟨p3,0,none⟩))) rfl rfl trivial).pick (ks:=[2,3]) (env':=[(2,.v (.pointer (some ⟨p2,0,none⟩))),(3,.v (.pointer (some ⟨p3,0,none⟩)))]) kz).cutTb 0 kz).retable [⟨p2,0,(List.range 16).map fun _=>qad 0,true⟩,⟨p3,0,(List.range 16).map fun i=>qad (X.getD i 0),true⟩] |>.recast 2 (.v (.pointer (some ⟨p2,0,none⟩))) (.p 0 0) rfl rfl (zN (n:=1) rfl) |>.recast 3 (.v (.pointer (some ⟨p3,0,none⟩))) (.p 1 0) rfl rfl (zN (n:=2) rfl)).pk
 refine qaf [0,1] kz ?_
 refine qak [0] [1] [(2,.p 0 0),(8,.v (.agg ((List.range 16).map fun i=>qad (X.getD i 0)).toArray))] hW4 hE7 fun a6 hE8=>?_
 refine qan (qao hW4 hE8 (oi:=0) (cs:=(List.range 16).map fun i=>qad (X.getD i 0)) kz fun w5 hF5 hW5 hE9=>qag (qab (wp_ret ?_)))
 have hstz:Step w4 w5 (fun b o=>b = p2 ∨ b = p3):=hF5.step.mono fun b o _ ha=>by
  rcases ha with ⟨i,ob,hi,_,rfl,_⟩ | ⟨i,r,hi,_⟩
  ·have hm:=List.mem_of_getElem? hi
   simp only [List.nil_append,List.cons_append,List.mem_cons,List.not_mem_nil,or_false] at hm
   rcases hm with rfl | rfl
   ·exact .inl rfl
   exact .inr rfl
  simp at hi
 have hsz:=hs1.size
 refine qaK hE9 hW5.cells (v:=.agg ((List.range 16).map fun i=>qad (X.getD i 0)).toArray) kz ⟨_,A1,n1,c1,rfl,(hs.move hst4 fun o e=>?_).move hstz (fun o e=>?_),(hr1.move hst4 (fun b o hg _ e=>?_) (fun b o hg _=>hg)).move hstz (fun b o hg _ e=>?_) (fun b o hg _=>.inl hg.1),hW5.step,rfl⟩
 ·omega
 ·rcases e with e | e <;> omega
 ·have:=hg.2; omega
 have:=hg.2; rcases e with e | e <;> omega
theorem qk8 (x:Int) (rest:Bs):qdJ Tryz.prog 89 (be 2 (IntKind.i16.wrap x)) rest (.int .i16 (IntKind.i16.wrap x)):=fun hs hr hF=>(qir _ rest hs hr hF).mono fun e w' hp=>hp.fp fun v w' h=>by rw [h,ww16]
theorem qf3 (x:Int) (rest:Bs):qdJ Tryz.prog 95 (be 4 (IntKind.i32.wrap x)) rest (.int .i32 (IntKind.i32.wrap x)):=fun hs hr hF=>(qk6 _ rest hs hr hF).mono fun e w' hp=>hp.fp fun v w' h=>by rw [h,ww32]
theorem qlH (S:Bs) (hS:S.length ≤ 32767) (rest:Bs):qdJ Tryz.prog 87 (be 2 S.length ++ S) rest (.string (bs S)):=fun hs hr hF=>(qlE S hS rest hs (hr.cast (by simp only [List.append_assoc])) hF).mono fun e w' hp=>hp.q fun v w' h=>h
theorem qgc (S:Bs) (hS:S.length ≤ 32767) (rest:Bs):qdJ Tryz.prog 86 (uv (S.length + 1) ++ S) rest (.string (bs S)):=fun hs hr hF=>(qgb S (by omega) rest hs (hr.cast (by simp only [List.append_assoc])) hF).mono fun e w' hp=>hp.q fun v w' h=>h
theorem qdj (nul:Bool) (S:Bs) (hS:S.length ≤ 32767) (rest:Bs):qj5 Tryz.prog 112 (if nul = true then be 2 (-1) else be 2 S.length ++ S) rest (fun A:Option Addr=>.pointer A) (fun A=>andF (qi0 A S) (isF (A.isNone = nul))):=fun hs hr hF=>(qf2 nul S (by omega) rest hs hr hF).mono fun e w' hp=>hp.q fun v w' h=>by
 obtain ⟨A,h1,h2,h3⟩:=h
 exact ⟨A,h1,h2,h3⟩
theorem qco (nul:Bool) (S:Bs) (hS:S.length ≤ 32767) (rest:Bs):qj5 Tryz.prog 110 (if nul = true then uv 0 else uv (S.length + 1) ++ S) rest (fun A:Option Addr=>.pointer A) (fun A=>andF (qi0 A S) (isF (A.isNone = nul))):=fun hs hr hF=>(qd0 nul S (by omega) rest hs hr hF).mono fun e w' hp=>hp.q fun v w' h=>by
 obtain ⟨A,h1,h2,h3⟩:=h
 exact ⟨A,h1,h2,h3⟩
theorem qf4 (n:Nat) (hn:n ≤ 32767) (rest:Bs) (hl:n ≤ rest.length):qdJ Tryz.prog 91 (be 4 n) rest (.int .i32 ((n:Nat):Int)):=fun hs hr hF=>(qj8 ((n:Nat):Int) (by omega) rest (by omega) hs hr hF).mono fun e w' hp=>hp.q fun v w' h=>h
theorem qc3 (n:Nat) (hn:n ≤ 32767) (rest:Bs) (hl:n ≤ rest.length):qdJ Tryz.prog 90 (uv (n + 1)) rest (.int .i32 ((n:Nat):Int)):=fun hs hr hF=>(qfy (n + 1) (by omega) rest (by omega) hs hr hF).mono fun e w' hp=>hp.q fun v w' h=>h.trans (congrArg (Value.int .i32) (by omega))
theorem qmw (S:Bs) (rest:Bs):qdJ Tryz.prog 114 (qah S) rest (.agg #[qad ((qah S).getD 0 0),qad ((qah S).getD 1 0),qad ((qah S).getD 2 0),qad ((qah S).getD 3 0),qad ((qah S).getD 4 0),qad ((qah S).getD 5 0),qad ((qah S).getD 6 0),qad ((qah S).getD 7 0),qad ((qah S).getD 8 0),qad ((qah S).getD 9 0),qad ((qah S).getD 10 0),qad ((qah S).getD 11 0),qad ((qah S).getD 12 0),qad ((qah S).getD 13 0),qad ((qah S).getD 14 0),qad ((qah S).getD 15 0)]):=fun hs hr hF=>(qmv (qah S) (qd8 S) rest hs hr hF).mono fun e w' hp=>hp.q fun v w' h=>h
theorem pOk (rest:Bs):qdJ Tryz.prog 92 [] rest (.bool true):=fun hs hr hF=>(rOk rest hs hr hF).mono fun e w' hp=>hp.q fun v w' h=>h
theorem qkb (u:List (Int × Bs)) (hU:canU u) (hk:∀ x ∈ u,0 ≤ x.1 ∧ x.1 < 4294967296) (rest:Bs):qj5 Tryz.prog 96 (uv u.length ++ qck u) rest (fun m:Option Nat=>.agg #[.map m]) (fun m=>ql7 m u):=fun hs hr hF=>(qmu u rest hU.1 hk hU.2.1 hU.2.2 hs (hr.cast (by simp only [List.append_assoc])) hF).mono fun e w' hp=>hp.q fun v w' h=>h
theorem ql8 (k:Int) (A:Option Addr) (m c:Nat) (w:World):Calls Tryz.prog 53 #[.agg #[.int .u32 k,.slice A m c]] w (qjK w):=by
 refine enter (n:=7) Tryz.func53 rfl Tryz.ntmps53 kz fun a hE=>?_
 have hW:=WOk.start w Nil
 refine qaf [0,1] kz ?_
 refine qan (qby hW hE (d:=1) (cs:=(z40 k A m c)) kz fun b1 a2 w3 hb4 hz5 hF6 hW7 hE8=>?_)
 refine qak [1] [] [(1,.p 0 0)] hW7 hE8 fun a9 ac=>?_
 refine qag (qab ?_)
 refine wp_seq (qas [(6,.v (.bool (decide (((m:Nat):Int) > 2147483647))))] hW7 ac fun ai aa=>?_)
 refine qax aa (b:=decide (((m:Nat):Int) > 2147483647)) kz (fun ab=>?_) (fun ab=>?_)
 ·
  have ag:=of_decide_eq_true ab
  refine qas [(2,.v (.bool false))] hW7 aa fun aj ae=>?_
  refine wp_ret (qat (qaK ae hW7.cells (v:=.bool false) kz ?_))
  exact ⟨_,rfl,hW7.step⟩
 have ah:=of_decide_eq_false ab
 refine wp_skip (qab (qas [(2,.v (.bool true))] hW7 aa fun ak af=>?_))
 refine wp_ret (qaK af hW7.cells (v:=.bool true) kz ?_)
 exact ⟨_,rfl,hW7.step⟩
theorem ql9 (A:Option Addr) (c:Nat) (u:List (Int × Bs)) (w:World) (F:Nat → Nat → Prop) (hu:TagsR w F A c u):Calls Tryz.prog 21 #[.slice A u.length c] w (qjK w):=by
 obtain ⟨xu,h1,h2⟩:=hu.ex
 have hsm:=h1.small
 refine enter (n:=18) Tryz.func21 rfl Tryz.ntmps21 kz fun a hE=>?_
 have hW:=WOk.start w Nil
 refine qas (z67 A u.length c) hW hE fun a1 hE2=>?_
 refine wp_seq (qas [(0,.v (.slice A u.length c)),(7,.v (.bool (decide (((u.length:Nat):Int) > 2147483647))))] hW hE2 fun a3 hE4=>?_)
 refine qax hE4 (b:=decide (((u.length:Nat):Int) > 2147483647)) kz (fun hc5=>?_) (fun hc5=>?_)
 ·
  have hf6:=zD hc5
  refine qas [(2,.v (.bool false))] hW hE4 fun a7 hE8=>?_
  refine wp_ret (qat (qaK hE8 hW.cells (v:=.bool false) kz ?_))
  exact ⟨_,rfl,hW.step⟩
 have hf9:=zF hc5
 refine wp_skip (qab (wp_seq (qas [(8,.v (.slice A u.length c)),(9,.v (.int .i64 ((u.length:Nat):Int))),(10,.v (.int .i64 0))] hW hE4 fun ba ar=>?_)))
 refine wp_block (wp_loop_ghost (fun n_ a_ w_=>∃ (k:Nat),n_ = u.length - k ∧ k ≤ u.length ∧ LInv hW 18 [] [] [(8,.v (.slice A u.length c)),(9,.v (.int .i64 ((u.length:Nat):Int))),(10,.v (.int .i64 ((k:Nat):Int)))] a_ w_) (u.length) ⟨0,by omega,by omega,ar.pk,hW,Fr.refl _ _ _⟩ ?_)
 rintro bd bf bg ⟨k,aQ,aR,au,aa,av⟩
 refine qas [(8,.v (.slice A u.length c)),(9,.v (.int .i64 ((u.length:Nat):Int))),(10,.v (.int .i64 ((k:Nat):Int))),(11,.v (.bool (decide (((k:Nat):Int) < ((u.length:Nat):Int)))))] aa au fun bh ae=>?_
 refine wp_seq (qax ae (b:=decide (((k:Nat):Int) < ((u.length:Nat):Int))) kz (fun af=>?_) (fun af=>?_))
 ·
  have aS:=zD af
  refine wp_skip (qab (wp_seq (wp_block (qaf [0,1,2,3] kz ?_))))
  obtain ⟨aT,aU,aw,aV,ac⟩:=Slots.get h1 (i:=k) (by omega)
  obtain ⟨⟨ai,aj⟩,ax⟩:∃ x,u[k]? = some x:=⟨_,List.getElem?_eq_getElem (by omega)⟩
  obtain ⟨⟨ak,al,am,aW⟩,bi,bj⟩:=h2 k ai aj ax
  rw [am] at ac
  refine qan (qaB ae (t:=24) (A:=A) (m:=u.length) (q:=((k:Nat):Int)) (d:=12) kz (e:=66) (size:=2) (bytes:=32) kz aw rfl (by omega) fun bk ay=>?_)
  refine qan (qaW ay (t:=66) (b:=aT) (o:=aU + k * 2) (d:=13) kz (cs:=(z40 ai ak aj.length al)) (v:=.agg #[.int .u32 ai,.slice ak aj.length al]) kz (AtF.move ac aa.step nilM qbi).at_ fun bn az=>?_)
  refine qan (qaM aa az (d:=4) (cs:=z42) kz fun bo bp bq aX aY aA aB aC=>?_)
  refine qan (qao aB aC (oi:=0) (cs:=(z40 ai ak aj.length al)) kz fun bt aD ag aE=>?_)
  refine qag (qab ?_)
  refine qaf [0,1,2] kz ?_
  refine qak [0] [1,2] [(8,.v (.slice A u.length c)),(9,.v (.int .i64 ((u.length:Nat):Int))),(10,.v (.int .i64 ((k:Nat):Int))),(14,.v (.agg #[.int .u32 ai,.slice ak aj.length al]))] ag aE fun bu aF=>?_
  refine qan (qal aF (f:=53) (vs:=[.agg #[.int .u32 ai,.slice ak aj.length al]]) (d:=15) kz Tryz.call53 (ql8 _ _ _ _ _) ?_)
  rintro e_ bw ⟨aP,rfl,ao⟩
  refine ⟨_,rfl,fun bx aG=>?_⟩
  have ab:=ag.next_nil ao
  have aH:=ag.frN ao
  refine qak [2] [] [(8,.v (.slice A u.length c)),(9,.v (.int .i64 ((u.length:Nat):Int))),(10,.v (.int .i64 ((k:Nat):Int))),(16,.v (.bool (!aP)))] ab aG fun bz ah=>?_
  refine qag (qab ?_)
  refine qax ah (b:=!aP) kz (fun aI=>?_) (fun aI=>?_)
  ·
   refine qas [(2,.v (.bool false))] ab ah fun bA aJ=>?_
   refine wp_ret (qaz (qat (qat (qaz (qat (qaK aJ ab.cells (v:=.bool false) kz ?_))))))
   exact ⟨_,rfl,ab.step⟩
  refine wp_skip (qav (qab (qau [0,1] kz ?_)))
  refine qak [0,1] [] [(8,.v (.slice A u.length c)),(9,.v (.int .i64 ((u.length:Nat):Int))),(10,.v (.int .i64 (IntKind.i64.wrap (((k:Nat):Int) + 1))))] ab ah fun bB aK=>?_
  refine qag (qab ?_)
  obtain ⟨ap,aL,aM⟩:=ab.cutB aK 0 [] [(8,.v (.slice A u.length c)),(9,.v (.int .i64 ((u.length:Nat):Int))),(10,.v (.int .i64 (IntKind.i64.wrap (((k:Nat):Int) + 1))))]
  have aN:IntKind.i64.wrap (((k:Nat):Int) + 1) = ((k + 1:Nat):Int):=qaS (by omega)
  rw [aN] at ap
  exact ⟨u.length - (k + 1),by omega,k + 1,rfl,by omega,ap.pk,aL,((((av.trans aA).trans aD).trans aH).trans aM)⟩
 have aZ:=zF af
 refine wp_exit (qay (qay (qaQ (qab (qas [(2,.v (.bool true))] aa ae fun bC aO=>?_)))))
 refine wp_ret (qaK aO aa.cells (v:=.bool true) kz ?_)
 exact ⟨_,rfl,aa.step⟩
theorem qma (ct:List Value) (t:Tree) (w:World) (F:Nat → Nat → Prop) (ht:TreeR w F ct t):Calls Tryz.prog 6 #[.agg ct.toArray] w (qjK w):=by
 obtain ⟨n1,s2,b3,l4,u5,A6,c7,A8,c9,aj,ak,aB,rfl,rfl,aC,aD,aN,aE⟩:=ht.open_
 have ay:=aC.small
 have az:=aD.small
 refine enter (n:=15) Tryz.func6 rfl Tryz.ntmps6 kz fun a hE=>?_
 have hW:=WOk.start w Nil
 refine qaf [0,1] kz ?_
 refine qan (qby hW hE (d:=1) (cs:=(z1 n1 A6 s2.length c7 b3 A8 l4.length c9 aj u5.length ak)) kz fun aO aP aQ aF aG aH aa al=>?_)
 refine qak [1] [] [(1,.p 0 0)] aa al fun aR am=>?_
 refine qag (qab ?_)
 refine wp_seq (qas [(1,.p 0 0),(6,.v (.bool (decide (((s2.length:Nat):Int) > 2147483647))))] aa am fun aS ac=>?_)
 refine qax ac (b:=decide (((s2.length:Nat):Int) > 2147483647)) kz (fun ae=>?_) (fun ae=>?_)
 ·
  have aI:=zD ae
  refine qas [(2,.v (.bool false))] aa ac fun aT ao=>?_
  refine wp_ret (qat (qaK ao aa.cells (v:=.bool false) kz ?_))
  exact ⟨_,rfl,aa.step⟩
 have aJ:=zF ae
 refine wp_skip (qab (wp_seq (qas [(1,.p 0 0),(10,.v (.bool (decide (((l4.length:Nat):Int) > 2147483647))))] aa ac fun aU af=>?_)))
 refine qax af (b:=decide (((l4.length:Nat):Int) > 2147483647)) kz (fun ag=>?_) (fun ag=>?_)
 ·
  have aK:=zD ag
  refine qas [(2,.v (.bool false))] aa af fun aV ap=>?_
  refine wp_ret (qat (qaK ap aa.cells (v:=.bool false) kz ?_))
  exact ⟨_,rfl,aa.step⟩
 have aL:=zF ag
 refine wp_skip (qab (wp_seq (qaf [0,1,2,3] kz ?_)))
 refine qak [0,1] [2,3] [(12,.v (.slice aj u5.length ak))] aa af fun aW ar=>?_
 refine qan (qal ar (f:=21) (vs:=[.slice aj u5.length ak]) (d:=13) kz Tryz.call21 (ql9 _ _ u5 _ _ (aE.move aa.step nilM aa.imm)) ?_)
 rintro e_ aX ⟨aA,rfl,ai⟩
 refine ⟨_,rfl,fun aY au=>?_⟩
 have ab:=aa.next_nil ai
 have aM:=aa.frN ai
 refine qak [3] [] [(14,.v (.bool (!aA)))] ab au fun aZ ah=>?_
 refine qag (qab ?_)
 refine qax ah (b:=!aA) kz (fun av=>?_) (fun av=>?_)
 ·
  refine qas [(2,.v (.bool false))] ab ah fun ba aw=>?_
  refine wp_ret (qat (qaK aw ab.cells (v:=.bool false) kz ?_))
  exact ⟨_,rfl,ab.step⟩
 refine wp_skip (qab (qas [(2,.v (.bool true))] ab ah fun bd ax=>?_))
 refine wp_ret (qaK ax ab.cells (v:=.bool true) kz ?_)
 exact ⟨_,rfl,ab.step⟩
theorem qkL (x m:Int) (hx:0 ≤ x) (hx':x < 256) (hm:0 ≤ m) (hm':m < 32768) (w:World):Calls Tryz.prog 9 #[.int .u8 x,.int .i64 m] w (qcI w (.int .i64 (Int.tmod x (m + 1)))):=by
 refine enter (n:=10) Tryz.func9 rfl Tryz.ntmps9 kz fun a hE=>?_
 have hW:=WOk.start w Nil
 refine qas [(0,.v (.int .u8 x)),(1,.v (.int .i64 m))] hW hE fun a1 hE2=>?_
 refine qaf [0,1,2,3,4,5] kz ?_
 refine qak [0,1,2,3] [4,5] [(6,.v (.int .i64 (IntKind.i64.wrap x))),(8,.v (.int .i64 (IntKind.i64.wrap (m + 1))))] hW hE2 fun a3 hE4=>?_
 refine qan (qkt hE4 (k:=.i64) (p:=(IntKind.i64.wrap x)) (q:=(IntKind.i64.wrap (m + 1))) (d:=9) kz (by simp only [IntKind.wrap_i64]; omega) fun a5 hE6=>?_)
 refine qak [5] [] [(4,.v (.int .i64 (Int.tmod (IntKind.i64.wrap x) (IntKind.i64.wrap (m + 1)))))] hW hE6 fun a7 hE8=>?_
 refine qag (qab ?_)
 refine wp_ret (qaK hE8 hW.cells (v:=.int .i64 (Int.tmod (IntKind.i64.wrap x) (IntKind.i64.wrap (m + 1)))) kz ?_)
 exact ⟨by rw [wrap_i64 (by omega) (by omega),wrap_i64 (by omega) (by omega)],hW.step⟩
end Go.Proofs.YtdlaobdadlmcdaaGreatDoor.ME