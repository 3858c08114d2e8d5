/- The texts of a claim, put together: the engine, the contracts, the law. Own work. -/
import Derived.Test.YtmpejmiiphddhaaDoorRWu1P1
import Derived.Test.YtmpejmiiphddhaaDoorRProg
import Derived.Lib.ConvBytes
namespace Go.Proofs.YtmpejmiiphddhaaDoorR.ME
open Go
open Go.RowKit
set_option linter.unusedVariables false
set_option linter.unusedSimpArgs false
set_option maxRecDepth 20000
theorem qgv (bd:Bool) (s:Bs) (hl:2 ≤ s.length) {br:Nat} {A:Option Addr} {m c:Nat} {w:World} {F:Nat → Nat → Prop} (hst:Str w br [.slice A m c,.bool bd]) (hr:RdS w F A m c s) (hFd:∀ b o,F b o → ¬ RdM br b o) :
  Calls Tryd.prog 59 #[.pointer (some ⟨br,0,none⟩)] w (RdPostT w br F (bd,s.drop 2) fun v w'=>v = .int .i16 (IntKind.i16.wrap (be16 s))):=by
 obtain ⟨hm,ho⟩:=hr
 subst hm
 have hle:=ho.le
 have hsm:=ho.small
 refine enter (n:=32) Tryd.func59 rfl Tryd.ntmps59 kz fun a hE=>?_
 have hW:WOk w (RdM br) w [⟨br,0,[.slice A s.length c,.bool bd],true⟩] []:=WOk.startStr hst
 have hE1:=(hE.grow ⟨br,0,[.slice A s.length c,.bool bd],true⟩).recast 0 (.v (.pointer (some ⟨br,0,none⟩))) (.p 0 0) rfl rfl (Nat.le_of_ble_eq_true (n:=1) rfl)
 refine qas [(0,.p 0 0)] hW hE1 fun a1 hE2=>?_
 refine wp_seq ?_
 refine qas [(0,.p 0 0),(9,.v (.bool (decide (((s.length:Nat):Int) < 2))))] hW hE2 fun a3 hE4=>?_
 refine qam hE4 (b:=decide (((s.length:Nat):Int) < 2)) kz (decide_eq_false (by omega)) ?_
 refine wp_skip ?_
 refine qab ?_
 refine qa4 7 kz hW fun w5 hF6 hW7 hT8=>?_
 refine qaK [1,2,3,4] [(0,.p 0 0),(20,.v (.slice A s.length c))] 4 (qac qag) (fun _ h=>h.cells) hT8 hE4 fun a9 hE10=>?_
 refine qaM hE10 (i:=0) (t:=105) (b:=1) (o:=0) (d:=16) kz (cs:=[]) (v:=.agg #[]) kz (fun w' h'=>(fun j_ v_ h_=>by simp at h_)) kz kz (qac qag) hT8 fun a11 hE12=>?_
 refine qaG (i:=5) kz (qap hE12 (f:=69) (vs:=[.agg #[],.slice A s.length c]) (d:=21) kz Tryd.call69 (qiq _ (ho.move hW7.step (fun b_ o_ h_ _=>hFd b_ o_ h_) (hW7.immM hFd)) (by omega)) ?_)
 rintro e_ w14 ⟨rfl,hs13⟩
 refine ⟨_,rfl,fun a15 hE16=>?_⟩
 have hW17:=hW7.next_nil hs13
 have hF18:=hW7.frN hs13
 have hT19:=TT.ofW hF18 hW17
 refine ⟨fun _=>hT19,?_⟩
 refine qaK [6] [(0,.p 0 0),(22,.v (.int .i16 (IntKind.i16.wrap (be16 s))))] 1 (qac qag) (fun _ h=>h.cells) hT19 hE16 fun a20 hE21=>?_
 refine qaG (i:=7) kz (qcA [0,3] hW17.cells hE21 (env':=[(0,.p 0 0),(3,.v (.int .i16 (IntKind.i16.wrap (be16 s))))]) kz fun a22 hE23=>?_)
 refine ⟨fun h=>absurd rfl h,?_⟩
 refine qaS kz ?_ _
 refine qab ?_
 refine qad [0,1,2,3,4,5,6,7,8] kz ?_
 refine qal [0,1,2,3,4] [5,6,7,8] [(3,.v (.int .i16 (IntKind.i16.wrap (be16 s)))),(23,.p 0 0),(27,.v (.slice A s.length c))] hW17 hE23 fun a24 hE25=>?_
 refine qak (qcB hE25 (t:=22) (A:=A) (m:=s.length) (cp:=c) (q:=2) (d:=28) (j:=2) kz (e:=5) (bytes:=1) kz (rfl) (by omega) fun a26 hE27=>?_)
 refine qal [6,7] [8] [(3,.v (.int .i16 (IntKind.i16.wrap (be16 s)))),(28,.v (.slice (cutA A c 2) (s.length - 2) (c - 2))),(30,.p 0 0)] hW17 hE27 fun a28 hE29=>?_
 refine qak (qao hW17 hE29 (oi:=0) (cs:=[.slice (cutA A c 2) (s.length - 2) (c - 2),.bool bd]) kz fun w30 hF31 hW32 hE33=>?_)
 refine qaf (qab ?_)
 refine qas [(2,.v (.int .i16 (IntKind.i16.wrap (be16 s))))] hW32 hE33 fun a34 hE35=>?_
 refine wp_ret ?_
 refine qaV hE35 hW32.cells (v:=.int .i16 (IntKind.i16.wrap (be16 s))) kz ?_
 exact ⟨_,_,_,_,rfl,Str.of hW32 0 rfl,RdS.dropT (j:=2) ⟨rfl,ho.move hW32.step (fun b_ o_ h_ _=>hFd b_ o_ h_) qaI⟩ (by omega),hW32.step,rfl⟩
theorem qgw (bd:Bool) (s:Bs) (hl:s.length < 2) {br:Nat} {A:Option Addr} {m c:Nat} {w:World} {F:Nat → Nat → Prop} (hst:Str w br [.slice A m c,.bool bd]) (hr:RdS w F A m c s) (hFd:∀ b o,F b o → ¬ RdM br b o) :
  Calls Tryd.prog 59 #[.pointer (some ⟨br,0,none⟩)] w (RdPostT w br F (true,[]) fun v w'=>v = .int .i16 0):=by
 obtain ⟨hm,ho⟩:=hr
 subst hm
 have hle:=ho.le
 have hsm:=ho.small
 refine enter (n:=32) Tryd.func59 rfl Tryd.ntmps59 kz fun a hE=>?_
 have hW:WOk w (RdM br) w [⟨br,0,[.slice A s.length c,.bool bd],true⟩] []:=WOk.startStr hst
 have hE1:=(hE.grow ⟨br,0,[.slice A s.length c,.bool bd],true⟩).recast 0 (.v (.pointer (some ⟨br,0,none⟩))) (.p 0 0) rfl rfl (Nat.le_of_ble_eq_true (n:=1) rfl)
 refine qas [(0,.p 0 0)] hW hE1 fun a1 hE2=>?_
 refine wp_seq ?_
 refine qas [(0,.p 0 0),(9,.v (.bool (decide (((s.length:Nat):Int) < 2))))] hW hE2 fun a3 hE4=>?_
 refine qaO hE4 (b:=decide (((s.length:Nat):Int) < 2)) kz (decide_eq_true (by omega)) ?_
 refine qad [0,1,2,3] kz ?_
 refine qal [0,1,2] [3] [(0,.p 0 0),(12,.p 0 1)] hW hE4 fun a5 hE6=>?_
 refine qak (qao hW hE6 (oi:=0) (cs:=[.slice A s.length c,.bool true]) kz fun w7 hF8 hW9 hE10=>?_)
 refine qaf (qab ?_)
 refine qad [0,1,2,3] kz ?_
 refine qal [0,1,2] [3] [(15,.p 0 0)] hW9 hE10 fun a11 hE12=>?_
 refine qak (qao hW9 hE12 (oi:=0) (cs:=[.slice none 0 0,.bool true]) kz fun w13 hF14 hW15 hE16=>?_)
 refine qaf (qab ?_)
 refine qas [(2,.v (.int .i16 0))] hW15 hE16 fun a17 hE18=>?_
 refine wp_ret ?_
 refine qaX ?_
 refine qaV hE18 hW15.cells (v:=.int .i16 0) kz ?_
 exact ⟨_,_,_,_,rfl,Str.of hW15 0 rfl,RdS.nil_ _ _,hW15.step,rfl⟩
theorem qgx (bd:Bool) (s:Bs) (hl:4 ≤ s.length) {br:Nat} {A:Option Addr} {m c:Nat} {w:World} {F:Nat → Nat → Prop} (hst:Str w br [.slice A m c,.bool bd]) (hr:RdS w F A m c s) (hFd:∀ b o,F b o → ¬ RdM br b o) :
  Calls Tryd.prog 55 #[.pointer (some ⟨br,0,none⟩)] w (RdPostT w br F (bd,s.drop 4) fun v w'=>v = .int .i32 (IntKind.i32.wrap (be32 s))):=by
 obtain ⟨hm,ho⟩:=hr
 subst hm
 have hle:=ho.le
 have hsm:=ho.small
 refine enter (n:=32) Tryd.func55 rfl Tryd.ntmps55 kz fun a hE=>?_
 have hW:WOk w (RdM br) w [⟨br,0,[.slice A s.length c,.bool bd],true⟩] []:=WOk.startStr hst
 have hE1:=(hE.grow ⟨br,0,[.slice A s.length c,.bool bd],true⟩).recast 0 (.v (.pointer (some ⟨br,0,none⟩))) (.p 0 0) rfl rfl (Nat.le_of_ble_eq_true (n:=1) rfl)
 refine qas [(0,.p 0 0)] hW hE1 fun a1 hE2=>?_
 refine wp_seq ?_
 refine qas [(0,.p 0 0),(9,.v (.bool (decide (((s.length:Nat):Int) < 4))))] hW hE2 fun a3 hE4=>?_
 refine qam hE4 (b:=decide (((s.length:Nat):Int) < 4)) kz (decide_eq_false (by omega)) ?_
 refine wp_skip ?_
 refine qab ?_
 refine qa4 7 kz hW fun w5 hF6 hW7 hT8=>?_
 refine qaK [1,2,3,4] [(0,.p 0 0),(20,.v (.slice A s.length c))] 4 (qac qag) (fun _ h=>h.cells) hT8 hE4 fun a9 hE10=>?_
 refine qaM hE10 (i:=0) (t:=105) (b:=1) (o:=0) (d:=16) kz (cs:=[]) (v:=.agg #[]) kz (fun w' h'=>(fun j_ v_ h_=>by simp at h_)) kz kz (qac qag) hT8 fun a11 hE12=>?_
 refine qaG (i:=5) kz (qap hE12 (f:=67) (vs:=[.agg #[],.slice A s.length c]) (d:=21) kz Tryd.call67 (qir _ (ho.move hW7.step (fun b_ o_ h_ _=>hFd b_ o_ h_) (hW7.immM hFd)) (by omega)) ?_)
 rintro e_ w14 ⟨rfl,hs13⟩
 refine ⟨_,rfl,fun a15 hE16=>?_⟩
 have hW17:=hW7.next_nil hs13
 have hF18:=hW7.frN hs13
 have hT19:=TT.ofW hF18 hW17
 refine ⟨fun _=>hT19,?_⟩
 refine qaK [6] [(0,.p 0 0),(22,.v (.int .i32 (IntKind.i32.wrap (be32 s))))] 1 (qac qag) (fun _ h=>h.cells) hT19 hE16 fun a20 hE21=>?_
 refine qaG (i:=7) kz (qcA [0,3] hW17.cells hE21 (env':=[(0,.p 0 0),(3,.v (.int .i32 (IntKind.i32.wrap (be32 s))))]) kz fun a22 hE23=>?_)
 refine ⟨fun h=>absurd rfl h,?_⟩
 refine qaS kz ?_ _
 refine qab ?_
 refine qad [0,1,2,3,4,5,6,7,8] kz ?_
 refine qal [0,1,2,3,4] [5,6,7,8] [(3,.v (.int .i32 (IntKind.i32.wrap (be32 s)))),(23,.p 0 0),(27,.v (.slice A s.length c))] hW17 hE23 fun a24 hE25=>?_
 refine qak (qcB hE25 (t:=22) (A:=A) (m:=s.length) (cp:=c) (q:=4) (d:=28) (j:=4) kz (e:=5) (bytes:=1) kz (rfl) (by omega) fun a26 hE27=>?_)
 refine qal [6,7] [8] [(3,.v (.int .i32 (IntKind.i32.wrap (be32 s)))),(28,.v (.slice (cutA A c 4) (s.length - 4) (c - 4))),(30,.p 0 0)] hW17 hE27 fun a28 hE29=>?_
 refine qak (qao hW17 hE29 (oi:=0) (cs:=[.slice (cutA A c 4) (s.length - 4) (c - 4),.bool bd]) kz fun w30 hF31 hW32 hE33=>?_)
 refine qaf (qab ?_)
 refine qas [(2,.v (.int .i32 (IntKind.i32.wrap (be32 s))))] hW32 hE33 fun a34 hE35=>?_
 refine wp_ret ?_
 refine qaV hE35 hW32.cells (v:=.int .i32 (IntKind.i32.wrap (be32 s))) kz ?_
 exact ⟨_,_,_,_,rfl,Str.of hW32 0 rfl,RdS.dropT (j:=4) ⟨rfl,ho.move hW32.step (fun b_ o_ h_ _=>hFd b_ o_ h_) qaI⟩ (by omega),hW32.step,rfl⟩
theorem qgy (bd:Bool) (s:Bs) (hl:s.length < 4) {br:Nat} {A:Option Addr} {m c:Nat} {w:World} {F:Nat → Nat → Prop} (hst:Str w br [.slice A m c,.bool bd]) (hr:RdS w F A m c s) (hFd:∀ b o,F b o → ¬ RdM br b o) :
  Calls Tryd.prog 55 #[.pointer (some ⟨br,0,none⟩)] w (RdPostT w br F (true,[]) fun v w'=>v = .int .i32 0):=by
 obtain ⟨hm,ho⟩:=hr
 subst hm
 have hle:=ho.le
 have hsm:=ho.small
 refine enter (n:=32) Tryd.func55 rfl Tryd.ntmps55 kz fun a hE=>?_
 have hW:WOk w (RdM br) w [⟨br,0,[.slice A s.length c,.bool bd],true⟩] []:=WOk.startStr hst
 have hE1:=(hE.grow ⟨br,0,[.slice A s.length c,.bool bd],true⟩).recast 0 (.v (.pointer (some ⟨br,0,none⟩))) (.p 0 0) rfl rfl (Nat.le_of_ble_eq_true (n:=1) rfl)
 refine qas [(0,.p 0 0)] hW hE1 fun a1 hE2=>?_
 refine wp_seq ?_
 refine qas [(0,.p 0 0),(9,.v (.bool (decide (((s.length:Nat):Int) < 4))))] hW hE2 fun a3 hE4=>?_
 refine qaO hE4 (b:=decide (((s.length:Nat):Int) < 4)) kz (decide_eq_true (by omega)) ?_
 refine qad [0,1,2,3] kz ?_
 refine qal [0,1,2] [3] [(0,.p 0 0),(12,.p 0 1)] hW hE4 fun a5 hE6=>?_
 refine qak (qao hW hE6 (oi:=0) (cs:=[.slice A s.length c,.bool true]) kz fun w7 hF8 hW9 hE10=>?_)
 refine qaf (qab ?_)
 refine qad [0,1,2,3] kz ?_
 refine qal [0,1,2] [3] [(15,.p 0 0)] hW9 hE10 fun a11 hE12=>?_
 refine qak (qao hW9 hE12 (oi:=0) (cs:=[.slice none 0 0,.bool true]) kz fun w13 hF14 hW15 hE16=>?_)
 refine qaf (qab ?_)
 refine qas [(2,.v (.int .i32 0))] hW15 hE16 fun a17 hE18=>?_
 refine wp_ret ?_
 refine qaX ?_
 refine qaV hE18 hW15.cells (v:=.int .i32 0) kz ?_
 exact ⟨_,_,_,_,rfl,Str.of hW15 0 rfl,RdS.nil_ _ _,hW15.step,rfl⟩
theorem qeo (bd:Bool) (s:Bs) (hl:8 ≤ s.length) {br:Nat} {A:Option Addr} {m c:Nat} {w:World} {F:Nat → Nat → Prop} (hst:Str w br [.slice A m c,.bool bd]) (hr:RdS w F A m c s) (hFd:∀ b o,F b o → ¬ RdM br b o) :
  Calls Tryd.prog 61 #[.pointer (some ⟨br,0,none⟩)] w (RdPostT w br F (bd,s.drop 8) fun v w'=>v = .int .u64 (be64 s)):=by
 obtain ⟨hm,ho⟩:=hr
 subst hm
 have hle:=ho.le
 have hsm:=ho.small
 refine enter (n:=31) Tryd.func61 rfl Tryd.ntmps61 kz fun a hE=>?_
 have hW:WOk w (RdM br) w [⟨br,0,[.slice A s.length c,.bool bd],true⟩] []:=WOk.startStr hst
 have hE1:=(hE.grow ⟨br,0,[.slice A s.length c,.bool bd],true⟩).recast 0 (.v (.pointer (some ⟨br,0,none⟩))) (.p 0 0) rfl rfl (Nat.le_of_ble_eq_true (n:=1) rfl)
 refine qas [(0,.p 0 0)] hW hE1 fun a1 hE2=>?_
 refine wp_seq ?_
 refine qas [(0,.p 0 0),(9,.v (.bool (decide (((s.length:Nat):Int) < 8))))] hW hE2 fun a3 hE4=>?_
 refine qam hE4 (b:=decide (((s.length:Nat):Int) < 8)) kz (decide_eq_false (by omega)) ?_
 refine wp_skip ?_
 refine qab ?_
 refine qa4 6 kz hW fun w5 hF6 hW7 hT8=>?_
 refine qaK [1,2,3,4] [(0,.p 0 0),(20,.v (.slice A s.length c))] 3 (qac qag) (fun _ h=>h.cells) hT8 hE4 fun a9 hE10=>?_
 refine qaM hE10 (i:=0) (t:=105) (b:=1) (o:=0) (d:=16) kz (cs:=[]) (v:=.agg #[]) kz (fun w' h'=>(fun j_ v_ h_=>by simp at h_)) kz kz (qac qag) hT8 fun a11 hE12=>?_
 refine qaG (i:=5) kz (qap hE12 (f:=70) (vs:=[.agg #[],.slice A s.length c]) (d:=21) kz Tryd.call70 (qis _ (ho.move hW7.step (fun b_ o_ h_ _=>hFd b_ o_ h_) (hW7.immM hFd)) (by omega)) ?_)
 rintro e_ w14 ⟨rfl,hs13⟩
 refine ⟨_,rfl,fun a15 hE16=>?_⟩
 have hW17:=hW7.next_nil hs13
 have hF18:=hW7.frN hs13
 have hT19:=TT.ofW hF18 hW17
 refine ⟨fun _=>hT19,?_⟩
 refine qaG (i:=6) kz (qcA [0,3] hW17.cells hE16 (env':=[(0,.p 0 0),(3,.v (.int .u64 (be64 s)))]) kz fun a20 hE21=>?_)
 refine ⟨fun h=>absurd rfl h,?_⟩
 refine qaS kz ?_ _
 refine qab ?_
 refine qad [0,1,2,3,4,5,6,7,8] kz ?_
 refine qal [0,1,2,3,4] [5,6,7,8] [(3,.v (.int .u64 (be64 s))),(22,.p 0 0),(26,.v (.slice A s.length c))] hW17 hE21 fun a22 hE23=>?_
 refine qak (qcB hE23 (t:=22) (A:=A) (m:=s.length) (cp:=c) (q:=8) (d:=27) (j:=8) kz (e:=5) (bytes:=1) kz (rfl) (by omega) fun a24 hE25=>?_)
 refine qal [6,7] [8] [(3,.v (.int .u64 (be64 s))),(27,.v (.slice (cutA A c 8) (s.length - 8) (c - 8))),(29,.p 0 0)] hW17 hE25 fun a26 hE27=>?_
 refine qak (qao hW17 hE27 (oi:=0) (cs:=[.slice (cutA A c 8) (s.length - 8) (c - 8),.bool bd]) kz fun w28 hF29 hW30 hE31=>?_)
 refine qaf (qab ?_)
 refine qas [(2,.v (.int .u64 (be64 s)))] hW30 hE31 fun a32 hE33=>?_
 refine wp_ret ?_
 refine qaV hE33 hW30.cells (v:=.int .u64 (be64 s)) kz ?_
 exact ⟨_,_,_,_,rfl,Str.of hW30 0 rfl,RdS.dropT (j:=8) ⟨rfl,ho.move hW30.step (fun b_ o_ h_ _=>hFd b_ o_ h_) qaI⟩ (by omega),hW30.step,rfl⟩
theorem qep (bd:Bool) (s:Bs) (hl:s.length < 8) {br:Nat} {A:Option Addr} {m c:Nat} {w:World} {F:Nat → Nat → Prop} (hst:Str w br [.slice A m c,.bool bd]) (hr:RdS w F A m c s) (hFd:∀ b o,F b o → ¬ RdM br b o) :
  Calls Tryd.prog 61 #[.pointer (some ⟨br,0,none⟩)] w (RdPostT w br F (true,[]) fun v w'=>v = .int .u64 0):=by
 obtain ⟨hm,ho⟩:=hr
 subst hm
 have hle:=ho.le
 have hsm:=ho.small
 refine enter (n:=31) Tryd.func61 rfl Tryd.ntmps61 kz fun a hE=>?_
 have hW:WOk w (RdM br) w [⟨br,0,[.slice A s.length c,.bool bd],true⟩] []:=WOk.startStr hst
 have hE1:=(hE.grow ⟨br,0,[.slice A s.length c,.bool bd],true⟩).recast 0 (.v (.pointer (some ⟨br,0,none⟩))) (.p 0 0) rfl rfl (Nat.le_of_ble_eq_true (n:=1) rfl)
 refine qas [(0,.p 0 0)] hW hE1 fun a1 hE2=>?_
 refine wp_seq ?_
 refine qas [(0,.p 0 0),(9,.v (.bool (decide (((s.length:Nat):Int) < 8))))] hW hE2 fun a3 hE4=>?_
 refine qaO hE4 (b:=decide (((s.length:Nat):Int) < 8)) kz (decide_eq_true (by omega)) ?_
 refine qad [0,1,2,3] kz ?_
 refine qal [0,1,2] [3] [(0,.p 0 0),(12,.p 0 1)] hW hE4 fun a5 hE6=>?_
 refine qak (qao hW hE6 (oi:=0) (cs:=[.slice A s.length c,.bool true]) kz fun w7 hF8 hW9 hE10=>?_)
 refine qaf (qab ?_)
 refine qad [0,1,2,3] kz ?_
 refine qal [0,1,2] [3] [(15,.p 0 0)] hW9 hE10 fun a11 hE12=>?_
 refine qak (qao hW9 hE12 (oi:=0) (cs:=[.slice none 0 0,.bool true]) kz fun w13 hF14 hW15 hE16=>?_)
 refine qaf (qab ?_)
 refine qas [(2,.v (.int .u64 0))] hW15 hE16 fun a17 hE18=>?_
 refine wp_ret ?_
 refine qaX ?_
 refine qaV hE18 hW15.cells (v:=.int .u64 0) kz ?_
 exact ⟨_,_,_,_,rfl,Str.of hW15 0 rfl,RdS.nil_ _ _,hW15.step,rfl⟩
theorem qbG (σ:Sg):uUv σ < 4294967296:=by
 unfold uUv
 have:=(qeP σ.2).2
 split <;> omega
theorem qc2 (σ:Sg):-32768 ≤ uI16 σ ∧ uI16 σ < 32768:=by
 unfold uI16
 split
 ·omega
 simp only [i16w]; omega
theorem qeR (σ:Sg):-2147483648 ≤ uI32 σ ∧ uI32 σ < 2147483648:=by
 unfold uI32
 split
 ·omega
 simp only [i32w]; omega
theorem qez (σ:Sg):RPrim0U Tryd.prog 59 σ (aN 2 σ) (.int .i16 (uI16 σ)):=⟨(mn_N 2).len σ,fun hst hr hF=>by
 unfold aN uI16
 by_cases h:σ.2.length < 2
 ·simp only [if_pos h]
  exact (qgw σ.1 σ.2 h hst hr hF).mono fun e w' hp=>hp.fp fun v w' h=>h
 simp only [if_neg h]
 exact (qgv σ.1 σ.2 (by omega) hst hr hF).mono fun e w' hp=>hp.fp fun v w' h=>h⟩
theorem qhB (σ:Sg):RPrim0U Tryd.prog 55 σ (aN 4 σ) (.int .i32 (uI32 σ)):=⟨(mn_N 4).len σ,fun hst hr hF=>by
 unfold aN uI32
 by_cases h:σ.2.length < 4
 ·simp only [if_pos h]
  exact (qgy σ.1 σ.2 h hst hr hF).mono fun e w' hp=>hp.fp fun v w' h=>h
 simp only [if_neg h]
 exact (qgx σ.1 σ.2 (by omega) hst hr hF).mono fun e w' hp=>hp.fp fun v w' h=>h⟩
def uU64 (σ:Sg):Int:=if σ.2.length < 8 then 0 else be64 σ.2
theorem qU64 (σ:Sg):RPrim0U Tryd.prog 61 σ (aN 8 σ) (.int .u64 (uU64 σ)):=⟨(mn_N 8).len σ,fun hst hr hF=>by
 unfold aN uU64
 by_cases h:σ.2.length < 8
 ·simp only [if_pos h]
  exact (qep σ.1 σ.2 h hst hr hF).mono fun e w' hp=>hp.fp fun v w' h=>h
 simp only [if_neg h]
 exact (qeo σ.1 σ.2 (by omega) hst hr hF).mono fun e w' hp=>hp.fp fun v w' h=>h⟩
theorem qit {A:Option Addr} {c:Nat} (s:Bs) {w:World} {F:Nat → Nat → Prop} (ho:Octs w F A c s) (hl:s.length = 0)  :
  Calls Tryd.prog 68 #[.slice A s.length c] w (qcn w (.tuple #[.int .u32 0,.int .i64 (0)])):=by
 refine enter (n:=87) Tryd.func68 rfl Tryd.ntmps68 kz fun a hE=>?_
 have hW:=WOk.start w Nil
 refine qas [(0,.v (.slice A s.length c))] hW hE fun a1 hE2=>?_
 refine wp_scope_jumps 0 (fun a_ w_=>w_ = w ∧ EnvOk 87 [] [(5,.v (.int .i64 0))] a_) (fun _ _=>0) rfl ?_ ?_
 ·
  refine qas [(0,.v (.slice A s.length c))] hW hE2 fun a6 hE7=>?_
  refine qas [(0,.v (.slice A s.length c)),(5,.v (.int .i64 0))] hW hE7 fun a8 hE9=>?_
  refine wp_seq ?_
  refine qas [(0,.v (.slice A s.length c)),(5,.v (.int .i64 0)),(8,.v (.bool (decide (((s.length:Nat):Int) < 1))))] hW hE9 fun a10 hE11=>?_
  refine qaO hE11 (b:=decide (((s.length:Nat):Int) < 1)) kz (decide_eq_true (by omega)) ?_
  refine wp_goto ?_
  exact ⟨rfl,rfl,hE11.pk (env':=[(5,.v (.int .i64 0))])⟩
 rintro a3 _ ⟨rfl,hE5⟩
 refine wp_seq ?_
 refine wp_skip ?_
 refine qab ?_
 refine qas [(2,.v (.int .u32 0)),(3,.v (.int .i64 0))] hW hE5 fun a12 hE13=>?_
 refine wp_ret ?_
 refine qdz ?_
 refine qaV hE13 hW.cells (v:=.tuple #[.int .u32 0,.int .i64 0]) kz ?_
 exact ⟨rfl,hW.step⟩
theorem qiu {A:Option Addr} {c:Nat} (s:Bs) {w:World} {F:Nat → Nat → Prop} (ho:Octs w F A c s) (hl:s.length = 1) (g0:128 ≤ oc s 0) :
  Calls Tryd.prog 68 #[.slice A s.length c] w (qcn w (.tuple #[.int .u32 0,.int .i64 (0)])):=by
 refine enter (n:=87) Tryd.func68 rfl Tryd.ntmps68 kz fun a hE=>?_
 have hW:=WOk.start w Nil
 refine qas [(0,.v (.slice A s.length c))] hW hE fun a1 hE2=>?_
 refine wp_scope_jumps 0 (fun a_ w_=>w_ = w ∧ EnvOk 87 [] [(5,.v (.int .i64 0))] a_) (fun _ _=>0) rfl ?_ ?_
 ·
  refine qas [(0,.v (.slice A s.length c))] hW hE2 fun a6 hE7=>?_
  refine qas [(0,.v (.slice A s.length c)),(5,.v (.int .i64 0))] hW hE7 fun a8 hE9=>?_
  refine wp_seq ?_
  refine qas [(0,.v (.slice A s.length c)),(5,.v (.int .i64 0)),(8,.v (.bool (decide (((s.length:Nat):Int) < 1))))] hW hE9 fun a10 hE11=>?_
  refine qam hE11 (b:=decide (((s.length:Nat):Int) < 1)) kz (decide_eq_false (by omega)) ?_
  refine wp_skip ?_
  refine qab ?_
  refine qad [0,1,2,3,4,5] kz ?_
  refine qal [0] [1,2,3,4,5] [(0,.v (.slice A s.length c)),(5,.v (.int .i64 0)),(9,.v (.slice A s.length c))] hW hE11 fun a12 hE13=>?_
  obtain ⟨b14,o15,hA16,hl17,hat18⟩:=Slots.get ho (i:=0) (by omega)
  refine qak (qan hE13 (t:=22) (A:=A) (m:=s.length) (q:=0) (d:=10) kz (e:=5) (size:=1) (bytes:=1) (j:=0) kz hA16 rfl (by omega) fun a19 hE20=>?_)
  refine qak (qat hE20 (t:=5) (b:=b14) (o:=o15 + 0 * 1) (d:=11) kz (cs:=[.int .u8 ((s.getD 0 0).toNat:Int)]) (v:=.int .u8 ((s.getD 0 0).toNat:Int)) kz (AtF.move hat18 hW.step nilM qaI).at_ fun a21 hE22=>?_)
  refine qal [3,4,5] [] [(0,.v (.slice A s.length c)),(4,.v (.int .u32 (IntKind.u32.wrap (IntKind.u8.wrap (BitVec.ofInt 8 ((s.getD 0 0).toNat:Int) &&& BitVec.ofInt 8 127).toNat)))),(5,.v (.int .i64 0))] hW hE22 fun a23 hE24=>?_
  refine qaf (qab ?_)
  refine wp_seq ?_
  refine qad [0,1,2,3,4] kz ?_
  refine qal [0] [1,2,3,4] [(0,.v (.slice A s.length c)),(4,.v (.int .u32 (IntKind.u32.wrap (IntKind.u8.wrap (BitVec.ofInt 8 ((s.getD 0 0).toNat:Int) &&& BitVec.ofInt 8 127).toNat)))),(5,.v (.int .i64 0)),(14,.v (.slice A s.length c))] hW hE24 fun a25 hE26=>?_
  refine qak (qan hE26 (t:=22) (A:=A) (m:=s.length) (q:=0) (d:=15) kz (e:=5) (size:=1) (bytes:=1) (j:=0) kz hA16 rfl (by omega) fun a27 hE28=>?_)
  refine qak (qat hE28 (t:=5) (b:=b14) (o:=o15 + 0 * 1) (d:=16) kz (cs:=[.int .u8 ((s.getD 0 0).toNat:Int)]) (v:=.int .u8 ((s.getD 0 0).toNat:Int)) kz (AtF.move hat18 hW.step nilM qaI).at_ fun a29 hE30=>?_)
  refine qal [3,4] [] [(0,.v (.slice A s.length c)),(4,.v (.int .u32 (IntKind.u32.wrap (IntKind.u8.wrap (BitVec.ofInt 8 ((s.getD 0 0).toNat:Int) &&& BitVec.ofInt 8 127).toNat)))),(5,.v (.int .i64 0)),(18,.v (.bool ((IntKind.u8.wrap (BitVec.ofInt 8 ((s.getD 0 0).toNat:Int) &&& BitVec.ofInt 8 128).toNat) == 0)))] hW hE30 fun a31 hE32=>?_
  refine qaf (qab ?_)
  refine qam hE32 (b:=(IntKind.u8.wrap (BitVec.ofInt 8 ((s.getD 0 0).toNat:Int) &&& BitVec.ofInt 8 128).toNat) == 0) kz ((qbv _ (qa6 s 0)).trans (decide_eq_false (by have:=g0; unfold oc at this; omega))) ?_
  refine qas [(0,.v (.slice A s.length c)),(4,.v (.int .u32 (IntKind.u32.wrap (IntKind.u8.wrap (BitVec.ofInt 8 ((s.getD 0 0).toNat:Int) &&& BitVec.ofInt 8 127).toNat)))),(5,.v (.int .i64 0)),(22,.v (.bool (decide (((s.length:Nat):Int) < 2))))] hW hE32 fun a33 hE34=>?_
  refine qaO hE34 (b:=decide (((s.length:Nat):Int) < 2)) kz (decide_eq_true (by omega)) ?_
  refine wp_goto ?_
  exact ⟨rfl,rfl,hE34.pk (env':=[(5,.v (.int .i64 0))])⟩
 rintro a3 _ ⟨rfl,hE5⟩
 refine wp_seq ?_
 refine wp_skip ?_
 refine qab ?_
 refine qas [(2,.v (.int .u32 0)),(3,.v (.int .i64 0))] hW hE5 fun a35 hE36=>?_
 refine wp_ret ?_
 refine qdz ?_
 refine qaV hE36 hW.cells (v:=.tuple #[.int .u32 0,.int .i64 0]) kz ?_
 exact ⟨rfl,hW.step⟩
theorem qiv {A:Option Addr} {c:Nat} (s:Bs) {w:World} {F:Nat → Nat → Prop} (ho:Octs w F A c s) (hl:s.length = 2) (g0:128 ≤ oc s 0) (g1:128 ≤ oc s 1) :
  Calls Tryd.prog 68 #[.slice A s.length c] w (qcn w (.tuple #[.int .u32 0,.int .i64 (0)])):=by
 refine enter (n:=87) Tryd.func68 rfl Tryd.ntmps68 kz fun a hE=>?_
 have hW:=WOk.start w Nil
 refine qas [(0,.v (.slice A s.length c))] hW hE fun a1 hE2=>?_
 refine wp_scope_jumps 0 (fun a_ w_=>w_ = w ∧ EnvOk 87 [] [(5,.v (.int .i64 0))] a_) (fun _ _=>0) rfl ?_ ?_
 ·
  refine qas [(0,.v (.slice A s.length c))] hW hE2 fun a6 hE7=>?_
  refine qas [(0,.v (.slice A s.length c)),(5,.v (.int .i64 0))] hW hE7 fun a8 hE9=>?_
  refine wp_seq ?_
  refine qas [(0,.v (.slice A s.length c)),(5,.v (.int .i64 0)),(8,.v (.bool (decide (((s.length:Nat):Int) < 1))))] hW hE9 fun a10 hE11=>?_
  refine qam hE11 (b:=decide (((s.length:Nat):Int) < 1)) kz (decide_eq_false (by omega)) ?_
  refine wp_skip ?_
  refine qab ?_
  refine qad [0,1,2,3,4,5] kz ?_
  refine qal [0] [1,2,3,4,5] [(0,.v (.slice A s.length c)),(5,.v (.int .i64 0)),(9,.v (.slice A s.length c))] hW hE11 fun a12 hE13=>?_
  obtain ⟨b14,o15,hA16,hl17,hat18⟩:=Slots.get ho (i:=0) (by omega)
  refine qak (qan hE13 (t:=22) (A:=A) (m:=s.length) (q:=0) (d:=10) kz (e:=5) (size:=1) (bytes:=1) (j:=0) kz hA16 rfl (by omega) fun a19 hE20=>?_)
  refine qak (qat hE20 (t:=5) (b:=b14) (o:=o15 + 0 * 1) (d:=11) kz (cs:=[.int .u8 ((s.getD 0 0).toNat:Int)]) (v:=.int .u8 ((s.getD 0 0).toNat:Int)) kz (AtF.move hat18 hW.step nilM qaI).at_ fun a21 hE22=>?_)
  refine qal [3,4,5] [] [(0,.v (.slice A s.length c)),(4,.v (.int .u32 (IntKind.u32.wrap (IntKind.u8.wrap (BitVec.ofInt 8 ((s.getD 0 0).toNat:Int) &&& BitVec.ofInt 8 127).toNat)))),(5,.v (.int .i64 0))] hW hE22 fun a23 hE24=>?_
  refine qaf (qab ?_)
  refine wp_seq ?_
  refine qad [0,1,2,3,4] kz ?_
  refine qal [0] [1,2,3,4] [(0,.v (.slice A s.length c)),(4,.v (.int .u32 (IntKind.u32.wrap (IntKind.u8.wrap (BitVec.ofInt 8 ((s.getD 0 0).toNat:Int) &&& BitVec.ofInt 8 127).toNat)))),(5,.v (.int .i64 0)),(14,.v (.slice A s.length c))] hW hE24 fun a25 hE26=>?_
  refine qak (qan hE26 (t:=22) (A:=A) (m:=s.length) (q:=0) (d:=15) kz (e:=5) (size:=1) (bytes:=1) (j:=0) kz hA16 rfl (by omega) fun a27 hE28=>?_)
  refine qak (qat hE28 (t:=5) (b:=b14) (o:=o15 + 0 * 1) (d:=16) kz (cs:=[.int .u8 ((s.getD 0 0).toNat:Int)]) (v:=.int .u8 ((s.getD 0 0).toNat:Int)) kz (AtF.move hat18 hW.step nilM qaI).at_ fun a29 hE30=>?_)
  refine qal [3,4] [] [(0,.v (.slice A s.length c)),(4,.v (.int .u32 (IntKind.u32.wrap (IntKind.u8.wrap (BitVec.ofInt 8 ((s.getD 0 0).toNat:Int) &&& BitVec.ofInt 8 127).toNat)))),(5,.v (.int .i64 0)),(18,.v (.bool ((IntKind.u8.wrap (BitVec.ofInt 8 ((s.getD 0 0).toNat:Int) &&& BitVec.ofInt 8 128).toNat) == 0)))] hW hE30 fun a31 hE32=>?_
  refine qaf (qab ?_)
  refine qam hE32 (b:=(IntKind.u8.wrap (BitVec.ofInt 8 ((s.getD 0 0).toNat:Int) &&& BitVec.ofInt 8 128).toNat) == 0) kz ((qbv _ (qa6 s 0)).trans (decide_eq_false (by have:=g0; unfold oc at this; omega))) ?_
  refine qas [(0,.v (.slice A s.length c)),(4,.v (.int .u32 (IntKind.u32.wrap (IntKind.u8.wrap (BitVec.ofInt 8 ((s.getD 0 0).toNat:Int) &&& BitVec.ofInt 8 127).toNat)))),(5,.v (.int .i64 0)),(22,.v (.bool (decide (((s.length:Nat):Int) < 2))))] hW hE32 fun a33 hE34=>?_
  refine qam hE34 (b:=decide (((s.length:Nat):Int) < 2)) kz (decide_eq_false (by omega)) ?_
  refine wp_skip ?_
  refine qab ?_
  refine qad [0,1,2,3,4,5,6,7,8] kz ?_
  refine qal [0,1] [2,3,4,5,6,7,8] [(0,.v (.slice A s.length c)),(5,.v (.int .i64 0)),(23,.v (.int .u32 (IntKind.u32.wrap (IntKind.u8.wrap (BitVec.ofInt 8 ((s.getD 0 0).toNat:Int) &&& BitVec.ofInt 8 127).toNat)))),(24,.v (.slice A s.length c))] hW hE34 fun a35 hE36=>?_
  obtain ⟨b37,o38,hA39,hl40,hat41⟩:=Slots.get ho (i:=1) (by omega)
  refine qak (qan hE36 (t:=22) (A:=A) (m:=s.length) (q:=1) (d:=25) kz (e:=5) (size:=1) (bytes:=1) (j:=1) kz hA39 rfl (by omega) fun a42 hE43=>?_)
  refine qak (qat hE43 (t:=5) (b:=b37) (o:=o38 + 1 * 1) (d:=26) kz (cs:=[.int .u8 ((s.getD 1 0).toNat:Int)]) (v:=.int .u8 ((s.getD 1 0).toNat:Int)) kz (AtF.move hat41 hW.step nilM qaI).at_ fun a44 hE45=>?_)
  refine qal [4,5,6,7,8] [] [(0,.v (.slice A s.length c)),(4,.v (.int .u32 (IntKind.u32.wrap (BitVec.ofInt 32 (IntKind.u32.wrap (IntKind.u8.wrap (BitVec.ofInt 8 ((s.getD 0 0).toNat:Int) &&& BitVec.ofInt 8 127).toNat)) ||| BitVec.ofInt 32 (IntKind.u32.wrap ((IntKind.u32.wrap (IntKind.u8.wrap (BitVec.ofInt 8 ((s.getD 1 0).toNat:Int) &&& BitVec.ofInt 8 127).toNat)) * 128))).toNat))),(5,.v (.int .i64 0))] hW hE45 fun a46 hE47=>?_
  refine qaf (qab ?_)
  refine wp_seq ?_
  refine qad [0,1,2,3,4] kz ?_
  refine qal [0] [1,2,3,4] [(0,.v (.slice A s.length c)),(4,.v (.int .u32 (IntKind.u32.wrap (BitVec.ofInt 32 (IntKind.u32.wrap (IntKind.u8.wrap (BitVec.ofInt 8 ((s.getD 0 0).toNat:Int) &&& BitVec.ofInt 8 127).toNat)) ||| BitVec.ofInt 32 (IntKind.u32.wrap ((IntKind.u32.wrap (IntKind.u8.wrap (BitVec.ofInt 8 ((s.getD 1 0).toNat:Int) &&& BitVec.ofInt 8 127).toNat)) * 128))).toNat))),(5,.v (.int .i64 0)),(31,.v (.slice A s.length c))] hW hE47 fun a48 hE49=>?_
  refine qak (qan hE49 (t:=22) (A:=A) (m:=s.length) (q:=1) (d:=32) kz (e:=5) (size:=1) (bytes:=1) (j:=1) kz hA39 rfl (by omega) fun a50 hE51=>?_)
  refine qak (qat hE51 (t:=5) (b:=b37) (o:=o38 + 1 * 1) (d:=33) kz (cs:=[.int .u8 ((s.getD 1 0).toNat:Int)]) (v:=.int .u8 ((s.getD 1 0).toNat:Int)) kz (AtF.move hat41 hW.step nilM qaI).at_ fun a52 hE53=>?_)
  refine qal [3,4] [] [(0,.v (.slice A s.length c)),(4,.v (.int .u32 (IntKind.u32.wrap (BitVec.ofInt 32 (IntKind.u32.wrap (IntKind.u8.wrap (BitVec.ofInt 8 ((s.getD 0 0).toNat:Int) &&& BitVec.ofInt 8 127).toNat)) ||| BitVec.ofInt 32 (IntKind.u32.wrap ((IntKind.u32.wrap (IntKind.u8.wrap (BitVec.ofInt 8 ((s.getD 1 0).toNat:Int) &&& BitVec.ofInt 8 127).toNat)) * 128))).toNat))),(5,.v (.int .i64 0)),(35,.v (.bool ((IntKind.u8.wrap (BitVec.ofInt 8 ((s.getD 1 0).toNat:Int) &&& BitVec.ofInt 8 128).toNat) == 0)))] hW hE53 fun a54 hE55=>?_
  refine qaf (qab ?_)
  refine qam hE55 (b:=(IntKind.u8.wrap (BitVec.ofInt 8 ((s.getD 1 0).toNat:Int) &&& BitVec.ofInt 8 128).toNat) == 0) kz ((qbv _ (qa6 s 1)).trans (decide_eq_false (by have:=g1; unfold oc at this; omega))) ?_
  refine qas [(0,.v (.slice A s.length c)),(4,.v (.int .u32 (IntKind.u32.wrap (BitVec.ofInt 32 (IntKind.u32.wrap (IntKind.u8.wrap (BitVec.ofInt 8 ((s.getD 0 0).toNat:Int) &&& BitVec.ofInt 8 127).toNat)) ||| BitVec.ofInt 32 (IntKind.u32.wrap ((IntKind.u32.wrap (IntKind.u8.wrap (BitVec.ofInt 8 ((s.getD 1 0).toNat:Int) &&& BitVec.ofInt 8 127).toNat)) * 128))).toNat))),(5,.v (.int .i64 0)),(39,.v (.bool (decide (((s.length:Nat):Int) < 3))))] hW hE55 fun a56 hE57=>?_
  refine qaO hE57 (b:=decide (((s.length:Nat):Int) < 3)) kz (decide_eq_true (by omega)) ?_
  refine wp_goto ?_
  exact ⟨rfl,rfl,hE57.pk (env':=[(5,.v (.int .i64 0))])⟩
 rintro a3 _ ⟨rfl,hE5⟩
 refine wp_seq ?_
 refine wp_skip ?_
 refine qab ?_
 refine qas [(2,.v (.int .u32 0)),(3,.v (.int .i64 0))] hW hE5 fun a58 hE59=>?_
 refine wp_ret ?_
 refine qdz ?_
 refine qaV hE59 hW.cells (v:=.tuple #[.int .u32 0,.int .i64 0]) kz ?_
 exact ⟨rfl,hW.step⟩
theorem qiw {A:Option Addr} {c:Nat} (s:Bs) {w:World} {F:Nat → Nat → Prop} (ho:Octs w F A c s) (hl:s.length = 3) (g0:128 ≤ oc s 0) (g1:128 ≤ oc s 1) (g2:128 ≤ oc s 2) :
  Calls Tryd.prog 68 #[.slice A s.length c] w (qcn w (.tuple #[.int .u32 0,.int .i64 (0)])):=by
 refine enter (n:=87) Tryd.func68 rfl Tryd.ntmps68 kz fun a hE=>?_
 have hW:=WOk.start w Nil
 refine qas [(0,.v (.slice A s.length c))] hW hE fun a1 hE2=>?_
 refine wp_scope_jumps 0 (fun a_ w_=>w_ = w ∧ EnvOk 87 [] [(5,.v (.int .i64 0))] a_) (fun _ _=>0) rfl ?_ ?_
 ·
  refine qas [(0,.v (.slice A s.length c))] hW hE2 fun a6 hE7=>?_
  refine qas [(0,.v (.slice A s.length c)),(5,.v (.int .i64 0))] hW hE7 fun a8 hE9=>?_
  refine wp_seq ?_
  refine qas [(0,.v (.slice A s.length c)),(5,.v (.int .i64 0)),(8,.v (.bool (decide (((s.length:Nat):Int) < 1))))] hW hE9 fun a10 hE11=>?_
  refine qam hE11 (b:=decide (((s.length:Nat):Int) < 1)) kz (decide_eq_false (by omega)) ?_
  refine wp_skip ?_
  refine qab ?_
  refine qad [0,1,2,3,4,5] kz ?_
  refine qal [0] [1,2,3,4,5] [(0,.v (.slice A s.length c)),(5,.v (.int .i64 0)),(9,.v (.slice A s.length c))] hW hE11 fun a12 hE13=>?_
  obtain ⟨b14,o15,hA16,hl17,hat18⟩:=Slots.get ho (i:=0) (by omega)
  refine qak (qan hE13 (t:=22) (A:=A) (m:=s.length) (q:=0) (d:=10) kz (e:=5) (size:=1) (bytes:=1) (j:=0) kz hA16 rfl (by omega) fun a19 hE20=>?_)
  refine qak (qat hE20 (t:=5) (b:=b14) (o:=o15 + 0 * 1) (d:=11) kz (cs:=[.int .u8 ((s.getD 0 0).toNat:Int)]) (v:=.int .u8 ((s.getD 0 0).toNat:Int)) kz (AtF.move hat18 hW.step nilM qaI).at_ fun a21 hE22=>?_)
  refine qal [3,4,5] [] [(0,.v (.slice A s.length c)),(4,.v (.int .u32 (IntKind.u32.wrap (IntKind.u8.wrap (BitVec.ofInt 8 ((s.getD 0 0).toNat:Int) &&& BitVec.ofInt 8 127).toNat)))),(5,.v (.int .i64 0))] hW hE22 fun a23 hE24=>?_
  refine qaf (qab ?_)
  refine wp_seq ?_
  refine qad [0,1,2,3,4] kz ?_
  refine qal [0] [1,2,3,4] [(0,.v (.slice A s.length c)),(4,.v (.int .u32 (IntKind.u32.wrap (IntKind.u8.wrap (BitVec.ofInt 8 ((s.getD 0 0).toNat:Int) &&& BitVec.ofInt 8 127).toNat)))),(5,.v (.int .i64 0)),(14,.v (.slice A s.length c))] hW hE24 fun a25 hE26=>?_
  refine qak (qan hE26 (t:=22) (A:=A) (m:=s.length) (q:=0) (d:=15) kz (e:=5) (size:=1) (bytes:=1) (j:=0) kz hA16 rfl (by omega) fun a27 hE28=>?_)
  refine qak (qat hE28 (t:=5) (b:=b14) (o:=o15 + 0 * 1) (d:=16) kz (cs:=[.int .u8 ((s.getD 0 0).toNat:Int)]) (v:=.int .u8 ((s.getD 0 0).toNat:Int)) kz (AtF.move hat18 hW.step nilM qaI).at_ fun a29 hE30=>?_)
  refine qal [3,4] [] [(0,.v (.slice A s.length c)),(4,.v (.int .u32 (IntKind.u32.wrap (IntKind.u8.wrap (BitVec.ofInt 8 ((s.getD 0 0).toNat:Int) &&& BitVec.ofInt 8 127).toNat)))),(5,.v (.int .i64 0)),(18,.v (.bool ((IntKind.u8.wrap (BitVec.ofInt 8 ((s.getD 0 0).toNat:Int) &&& BitVec.ofInt 8 128).toNat) == 0)))] hW hE30 fun a31 hE32=>?_
  refine qaf (qab ?_)
  refine qam hE32 (b:=(IntKind.u8.wrap (BitVec.ofInt 8 ((s.getD 0 0).toNat:Int) &&& BitVec.ofInt 8 128).toNat) == 0) kz ((qbv _ (qa6 s 0)).trans (decide_eq_false (by have:=g0; unfold oc at this; omega))) ?_
  refine qas [(0,.v (.slice A s.length c)),(4,.v (.int .u32 (IntKind.u32.wrap (IntKind.u8.wrap (BitVec.ofInt 8 ((s.getD 0 0).toNat:Int) &&& BitVec.ofInt 8 127).toNat)))),(5,.v (.int .i64 0)),(22,.v (.bool (decide (((s.length:Nat):Int) < 2))))] hW hE32 fun a33 hE34=>?_
  refine qam hE34 (b:=decide (((s.length:Nat):Int) < 2)) kz (decide_eq_false (by omega)) ?_
  refine wp_skip ?_
  refine qab ?_
  refine qad [0,1,2,3,4,5,6,7,8] kz ?_
  refine qal [0,1] [2,3,4,5,6,7,8] [(0,.v (.slice A s.length c)),(5,.v (.int .i64 0)),(23,.v (.int .u32 (IntKind.u32.wrap (IntKind.u8.wrap (BitVec.ofInt 8 ((s.getD 0 0).toNat:Int) &&& BitVec.ofInt 8 127).toNat)))),(24,.v (.slice A s.length c))] hW hE34 fun a35 hE36=>?_
  obtain ⟨b37,o38,hA39,hl40,hat41⟩:=Slots.get ho (i:=1) (by omega)
  refine qak (qan hE36 (t:=22) (A:=A) (m:=s.length) (q:=1) (d:=25) kz (e:=5) (size:=1) (bytes:=1) (j:=1) kz hA39 rfl (by omega) fun a42 hE43=>?_)
  refine qak (qat hE43 (t:=5) (b:=b37) (o:=o38 + 1 * 1) (d:=26) kz (cs:=[.int .u8 ((s.getD 1 0).toNat:Int)]) (v:=.int .u8 ((s.getD 1 0).toNat:Int)) kz (AtF.move hat41 hW.step nilM qaI).at_ fun a44 hE45=>?_)
  refine qal [4,5,6,7,8] [] [(0,.v (.slice A s.length c)),(4,.v (.int .u32 (IntKind.u32.wrap (BitVec.ofInt 32 (IntKind.u32.wrap (IntKind.u8.wrap (BitVec.ofInt 8 ((s.getD 0 0).toNat:Int) &&& BitVec.ofInt 8 127).toNat)) ||| BitVec.ofInt 32 (IntKind.u32.wrap ((IntKind.u32.wrap (IntKind.u8.wrap (BitVec.ofInt 8 ((s.getD 1 0).toNat:Int) &&& BitVec.ofInt 8 127).toNat)) * 128))).toNat))),(5,.v (.int .i64 0))] hW hE45 fun a46 hE47=>?_
  refine qaf (qab ?_)
  refine wp_seq ?_
  refine qad [0,1,2,3,4] kz ?_
  refine qal [0] [1,2,3,4] [(0,.v (.slice A s.length c)),(4,.v (.int .u32 (IntKind.u32.wrap (BitVec.ofInt 32 (IntKind.u32.wrap (IntKind.u8.wrap (BitVec.ofInt 8 ((s.getD 0 0).toNat:Int) &&& BitVec.ofInt 8 127).toNat)) ||| BitVec.ofInt 32 (IntKind.u32.wrap ((IntKind.u32.wrap (IntKind.u8.wrap (BitVec.ofInt 8 ((s.getD 1 0).toNat:Int) &&& BitVec.ofInt 8 127).toNat)) * 128))).toNat))),(5,.v (.int .i64 0)),(31,.v (.slice A s.length c))] hW hE47 fun a48 hE49=>?_
  refine qak (qan hE49 (t:=22) (A:=A) (m:=s.length) (q:=1) (d:=32) kz (e:=5) (size:=1) (bytes:=1) (j:=1) kz hA39 rfl (by omega) fun a50 hE51=>?_)
  refine qak (qat hE51 (t:=5) (b:=b37) (o:=o38 + 1 * 1) (d:=33) kz (cs:=[.int .u8 ((s.getD 1 0).toNat:Int)]) (v:=.int .u8 ((s.getD 1 0).toNat:Int)) kz (AtF.move hat41 hW.step nilM qaI).at_ fun a52 hE53=>?_)
  refine qal [3,4] [] [(0,.v (.slice A s.length c)),(4,.v (.int .u32 (IntKind.u32.wrap (BitVec.ofInt 32 (IntKind.u32.wrap (IntKind.u8.wrap (BitVec.ofInt 8 ((s.getD 0 0).toNat:Int) &&& BitVec.ofInt 8 127).toNat)) ||| BitVec.ofInt 32 (IntKind.u32.wrap ((IntKind.u32.wrap (IntKind.u8.wrap (BitVec.ofInt 8 ((s.getD 1 0).toNat:Int) &&& BitVec.ofInt 8 127).toNat)) * 128))).toNat))),(5,.v (.int .i64 0)),(35,.v (.bool ((IntKind.u8.wrap (BitVec.ofInt 8 ((s.getD 1 0).toNat:Int) &&& BitVec.ofInt 8 128).toNat) == 0)))] hW hE53 fun a54 hE55=>?_
  refine qaf (qab ?_)
  refine qam hE55 (b:=(IntKind.u8.wrap (BitVec.ofInt 8 ((s.getD 1 0).toNat:Int) &&& BitVec.ofInt 8 128).toNat) == 0) kz ((qbv _ (qa6 s 1)).trans (decide_eq_false (by have:=g1; unfold oc at this; omega))) ?_
  refine qas [(0,.v (.slice A s.length c)),(4,.v (.int .u32 (IntKind.u32.wrap (BitVec.ofInt 32 (IntKind.u32.wrap (IntKind.u8.wrap (BitVec.ofInt 8 ((s.getD 0 0).toNat:Int) &&& BitVec.ofInt 8 127).toNat)) ||| BitVec.ofInt 32 (IntKind.u32.wrap ((IntKind.u32.wrap (IntKind.u8.wrap (BitVec.ofInt 8 ((s.getD 1 0).toNat:Int) &&& BitVec.ofInt 8 127).toNat)) * 128))).toNat))),(5,.v (.int .i64 0)),(39,.v (.bool (decide (((s.length:Nat):Int) < 3))))] hW hE55 fun a56 hE57=>?_
  refine qam hE57 (b:=decide (((s.length:Nat):Int) < 3)) kz (decide_eq_false (by omega)) ?_
  refine wp_skip ?_
  refine qab ?_
  refine qad [0,1,2,3,4,5,6,7,8] kz ?_
  refine qal [0,1] [2,3,4,5,6,7,8] [(0,.v (.slice A s.length c)),(5,.v (.int .i64 0)),(40,.v (.int .u32 (IntKind.u32.wrap (BitVec.ofInt 32 (IntKind.u32.wrap (IntKind.u8.wrap (BitVec.ofInt 8 ((s.getD 0 0).toNat:Int) &&& BitVec.ofInt 8 127).toNat)) ||| BitVec.ofInt 32 (IntKind.u32.wrap ((IntKind.u32.wrap (IntKind.u8.wrap (BitVec.ofInt 8 ((s.getD 1 0).toNat:Int) &&& BitVec.ofInt 8 127).toNat)) * 128))).toNat))),(41,.v (.slice A s.length c))] hW hE57 fun a58 hE59=>?_
  obtain ⟨b60,o61,hA62,hl63,hat64⟩:=Slots.get ho (i:=2) (by omega)
  refine qak (qan hE59 (t:=22) (A:=A) (m:=s.length) (q:=2) (d:=42) kz (e:=5) (size:=1) (bytes:=1) (j:=2) kz hA62 rfl (by omega) fun a65 hE66=>?_)
  refine qak (qat hE66 (t:=5) (b:=b60) (o:=o61 + 2 * 1) (d:=43) kz (cs:=[.int .u8 ((s.getD 2 0).toNat:Int)]) (v:=.int .u8 ((s.getD 2 0).toNat:Int)) kz (AtF.move hat64 hW.step nilM qaI).at_ fun a67 hE68=>?_)
  refine qal [4,5,6,7,8] [] [(0,.v (.slice A s.length c)),(4,.v (.int .u32 (IntKind.u32.wrap (BitVec.ofInt 32 (IntKind.u32.wrap (BitVec.ofInt 32 (IntKind.u32.wrap (IntKind.u8.wrap (BitVec.ofInt 8 ((s.getD 0 0).toNat:Int) &&& BitVec.ofInt 8 127).toNat)) ||| BitVec.ofInt 32 (IntKind.u32.wrap ((IntKind.u32.wrap (IntKind.u8.wrap (BitVec.ofInt 8 ((s.getD 1 0).toNat:Int) &&& BitVec.ofInt 8 127).toNat)) * 128))).toNat) ||| BitVec.ofInt 32 (IntKind.u32.wrap ((IntKind.u32.wrap (IntKind.u8.wrap (BitVec.ofInt 8 ((s.getD 2 0).toNat:Int) &&& BitVec.ofInt 8 127).toNat)) * 16384))).toNat))),(5,.v (.int .i64 0))] hW hE68 fun a69 hE70=>?_
  refine qaf (qab ?_)
  refine wp_seq ?_
  refine qad [0,1,2,3,4] kz ?_
  refine qal [0] [1,2,3,4] [(0,.v (.slice A s.length c)),(4,.v (.int .u32 (IntKind.u32.wrap (BitVec.ofInt 32 (IntKind.u32.wrap (BitVec.ofInt 32 (IntKind.u32.wrap (IntKind.u8.wrap (BitVec.ofInt 8 ((s.getD 0 0).toNat:Int) &&& BitVec.ofInt 8 127).toNat)) ||| BitVec.ofInt 32 (IntKind.u32.wrap ((IntKind.u32.wrap (IntKind.u8.wrap (BitVec.ofInt 8 ((s.getD 1 0).toNat:Int) &&& BitVec.ofInt 8 127).toNat)) * 128))).toNat) ||| BitVec.ofInt 32 (IntKind.u32.wrap ((IntKind.u32.wrap (IntKind.u8.wrap (BitVec.ofInt 8 ((s.getD 2 0).toNat:Int) &&& BitVec.ofInt 8 127).toNat)) * 16384))).toNat))),(5,.v (.int .i64 0)),(48,.v (.slice A s.length c))] hW hE70 fun a71 hE72=>?_
  refine qak (qan hE72 (t:=22) (A:=A) (m:=s.length) (q:=2) (d:=49) kz (e:=5) (size:=1) (bytes:=1) (j:=2) kz hA62 rfl (by omega) fun a73 hE74=>?_)
  refine qak (qat hE74 (t:=5) (b:=b60) (o:=o61 + 2 * 1) (d:=50) kz (cs:=[.int .u8 ((s.getD 2 0).toNat:Int)]) (v:=.int .u8 ((s.getD 2 0).toNat:Int)) kz (AtF.move hat64 hW.step nilM qaI).at_ fun a75 hE76=>?_)
  refine qal [3,4] [] [(0,.v (.slice A s.length c)),(4,.v (.int .u32 (IntKind.u32.wrap (BitVec.ofInt 32 (IntKind.u32.wrap (BitVec.ofInt 32 (IntKind.u32.wrap (IntKind.u8.wrap (BitVec.ofInt 8 ((s.getD 0 0).toNat:Int) &&& BitVec.ofInt 8 127).toNat)) ||| BitVec.ofInt 32 (IntKind.u32.wrap ((IntKind.u32.wrap (IntKind.u8.wrap (BitVec.ofInt 8 ((s.getD 1 0).toNat:Int) &&& BitVec.ofInt 8 127).toNat)) * 128))).toNat) ||| BitVec.ofInt 32 (IntKind.u32.wrap ((IntKind.u32.wrap (IntKind.u8.wrap (BitVec.ofInt 8 ((s.getD 2 0).toNat:Int) &&& BitVec.ofInt 8 127).toNat)) * 16384))).toNat))),(5,.v (.int .i64 0)),(52,.v (.bool ((IntKind.u8.wrap (BitVec.ofInt 8 ((s.getD 2 0).toNat:Int) &&& BitVec.ofInt 8 128).toNat) == 0)))] hW hE76 fun a77 hE78=>?_
  refine qaf (qab ?_)
  refine qam hE78 (b:=(IntKind.u8.wrap (BitVec.ofInt 8 ((s.getD 2 0).toNat:Int) &&& BitVec.ofInt 8 128).toNat) == 0) kz ((qbv _ (qa6 s 2)).trans (decide_eq_false (by have:=g2; unfold oc at this; omega))) ?_
  refine qas [(0,.v (.slice A s.length c)),(4,.v (.int .u32 (IntKind.u32.wrap (BitVec.ofInt 32 (IntKind.u32.wrap (BitVec.ofInt 32 (IntKind.u32.wrap (IntKind.u8.wrap (BitVec.ofInt 8 ((s.getD 0 0).toNat:Int) &&& BitVec.ofInt 8 127).toNat)) ||| BitVec.ofInt 32 (IntKind.u32.wrap ((IntKind.u32.wrap (IntKind.u8.wrap (BitVec.ofInt 8 ((s.getD 1 0).toNat:Int) &&& BitVec.ofInt 8 127).toNat)) * 128))).toNat) ||| BitVec.ofInt 32 (IntKind.u32.wrap ((IntKind.u32.wrap (IntKind.u8.wrap (BitVec.ofInt 8 ((s.getD 2 0).toNat:Int) &&& BitVec.ofInt 8 127).toNat)) * 16384))).toNat))),(5,.v (.int .i64 0)),(56,.v (.bool (decide (((s.length:Nat):Int) < 4))))] hW hE78 fun a79 hE80=>?_
  refine qaO hE80 (b:=decide (((s.length:Nat):Int) < 4)) kz (decide_eq_true (by omega)) ?_
  refine wp_goto ?_
  exact ⟨rfl,rfl,hE80.pk (env':=[(5,.v (.int .i64 0))])⟩
 rintro a3 _ ⟨rfl,hE5⟩
 refine wp_seq ?_
 refine wp_skip ?_
 refine qab ?_
 refine qas [(2,.v (.int .u32 0)),(3,.v (.int .i64 0))] hW hE5 fun a81 hE82=>?_
 refine wp_ret ?_
 refine qdz ?_
 refine qaV hE82 hW.cells (v:=.tuple #[.int .u32 0,.int .i64 0]) kz ?_
 exact ⟨rfl,hW.step⟩
theorem qix {A:Option Addr} {c:Nat} (s:Bs) {w:World} {F:Nat → Nat → Prop} (ho:Octs w F A c s) (hl:s.length = 4) (g0:128 ≤ oc s 0) (g1:128 ≤ oc s 1) (g2:128 ≤ oc s 2) (g3:128 ≤ oc s 3) :
  Calls Tryd.prog 68 #[.slice A s.length c] w (qcn w (.tuple #[.int .u32 0,.int .i64 (0)])):=by
 refine enter (n:=87) Tryd.func68 rfl Tryd.ntmps68 kz fun a hE=>?_
 have hW:=WOk.start w Nil
 refine qas [(0,.v (.slice A s.length c))] hW hE fun a1 hE2=>?_
 refine wp_scope_jumps 0 (fun a_ w_=>w_ = w ∧ EnvOk 87 [] [(5,.v (.int .i64 0))] a_) (fun _ _=>0) rfl ?_ ?_
 ·
  refine qas [(0,.v (.slice A s.length c))] hW hE2 fun a6 hE7=>?_
  refine qas [(0,.v (.slice A s.length c)),(5,.v (.int .i64 0))] hW hE7 fun a8 hE9=>?_
  refine wp_seq ?_
  refine qas [(0,.v (.slice A s.length c)),(5,.v (.int .i64 0)),(8,.v (.bool (decide (((s.length:Nat):Int) < 1))))] hW hE9 fun a10 hE11=>?_
  refine qam hE11 (b:=decide (((s.length:Nat):Int) < 1)) kz (decide_eq_false (by omega)) ?_
  refine wp_skip ?_
  refine qab ?_
  refine qad [0,1,2,3,4,5] kz ?_
  refine qal [0] [1,2,3,4,5] [(0,.v (.slice A s.length c)),(5,.v (.int .i64 0)),(9,.v (.slice A s.length c))] hW hE11 fun a12 hE13=>?_
  obtain ⟨b14,o15,hA16,hl17,hat18⟩:=Slots.get ho (i:=0) (by omega)
  refine qak (qan hE13 (t:=22) (A:=A) (m:=s.length) (q:=0) (d:=10) kz (e:=5) (size:=1) (bytes:=1) (j:=0) kz hA16 rfl (by omega) fun a19 hE20=>?_)
  refine qak (qat hE20 (t:=5) (b:=b14) (o:=o15 + 0 * 1) (d:=11) kz (cs:=[.int .u8 ((s.getD 0 0).toNat:Int)]) (v:=.int .u8 ((s.getD 0 0).toNat:Int)) kz (AtF.move hat18 hW.step nilM qaI).at_ fun a21 hE22=>?_)
  refine qal [3,4,5] [] [(0,.v (.slice A s.length c)),(4,.v (.int .u32 (IntKind.u32.wrap (IntKind.u8.wrap (BitVec.ofInt 8 ((s.getD 0 0).toNat:Int) &&& BitVec.ofInt 8 127).toNat)))),(5,.v (.int .i64 0))] hW hE22 fun a23 hE24=>?_
  refine qaf (qab ?_)
  refine wp_seq ?_
  refine qad [0,1,2,3,4] kz ?_
  refine qal [0] [1,2,3,4] [(0,.v (.slice A s.length c)),(4,.v (.int .u32 (IntKind.u32.wrap (IntKind.u8.wrap (BitVec.ofInt 8 ((s.getD 0 0).toNat:Int) &&& BitVec.ofInt 8 127).toNat)))),(5,.v (.int .i64 0)),(14,.v (.slice A s.length c))] hW hE24 fun a25 hE26=>?_
  refine qak (qan hE26 (t:=22) (A:=A) (m:=s.length) (q:=0) (d:=15) kz (e:=5) (size:=1) (bytes:=1) (j:=0) kz hA16 rfl (by omega) fun a27 hE28=>?_)
  refine qak (qat hE28 (t:=5) (b:=b14) (o:=o15 + 0 * 1) (d:=16) kz (cs:=[.int .u8 ((s.getD 0 0).toNat:Int)]) (v:=.int .u8 ((s.getD 0 0).toNat:Int)) kz (AtF.move hat18 hW.step nilM qaI).at_ fun a29 hE30=>?_)
  refine qal [3,4] [] [(0,.v (.slice A s.length c)),(4,.v (.int .u32 (IntKind.u32.wrap (IntKind.u8.wrap (BitVec.ofInt 8 ((s.getD 0 0).toNat:Int) &&& BitVec.ofInt 8 127).toNat)))),(5,.v (.int .i64 0)),(18,.v (.bool ((IntKind.u8.wrap (BitVec.ofInt 8 ((s.getD 0 0).toNat:Int) &&& BitVec.ofInt 8 128).toNat) == 0)))] hW hE30 fun a31 hE32=>?_
  refine qaf (qab ?_)
  refine qam hE32 (b:=(IntKind.u8.wrap (BitVec.ofInt 8 ((s.getD 0 0).toNat:Int) &&& BitVec.ofInt 8 128).toNat) == 0) kz ((qbv _ (qa6 s 0)).trans (decide_eq_false (by have:=g0; unfold oc at this; omega))) ?_
  refine qas [(0,.v (.slice A s.length c)),(4,.v (.int .u32 (IntKind.u32.wrap (IntKind.u8.wrap (BitVec.ofInt 8 ((s.getD 0 0).toNat:Int) &&& BitVec.ofInt 8 127).toNat)))),(5,.v (.int .i64 0)),(22,.v (.bool (decide (((s.length:Nat):Int) < 2))))] hW hE32 fun a33 hE34=>?_
  refine qam hE34 (b:=decide (((s.length:Nat):Int) < 2)) kz (decide_eq_false (by omega)) ?_
  refine wp_skip ?_
  refine qab ?_
  refine qad [0,1,2,3,4,5,6,7,8] kz ?_
  refine qal [0,1] [2,3,4,5,6,7,8] [(0,.v (.slice A s.length c)),(5,.v (.int .i64 0)),(23,.v (.int .u32 (IntKind.u32.wrap (IntKind.u8.wrap (BitVec.ofInt 8 ((s.getD 0 0).toNat:Int) &&& BitVec.ofInt 8 127).toNat)))),(24,.v (.slice A s.length c))] hW hE34 fun a35 hE36=>?_
  obtain ⟨b37,o38,hA39,hl40,hat41⟩:=Slots.get ho (i:=1) (by omega)
  refine qak (qan hE36 (t:=22) (A:=A) (m:=s.length) (q:=1) (d:=25) kz (e:=5) (size:=1) (bytes:=1) (j:=1) kz hA39 rfl (by omega) fun a42 hE43=>?_)
  refine qak (qat hE43 (t:=5) (b:=b37) (o:=o38 + 1 * 1) (d:=26) kz (cs:=[.int .u8 ((s.getD 1 0).toNat:Int)]) (v:=.int .u8 ((s.getD 1 0).toNat:Int)) kz (AtF.move hat41 hW.step nilM qaI).at_ fun a44 hE45=>?_)
  refine qal [4,5,6,7,8] [] [(0,.v (.slice A s.length c)),(4,.v (.int .u32 (IntKind.u32.wrap (BitVec.ofInt 32 (IntKind.u32.wrap (IntKind.u8.wrap (BitVec.ofInt 8 ((s.getD 0 0).toNat:Int) &&& BitVec.ofInt 8 127).toNat)) ||| BitVec.ofInt 32 (IntKind.u32.wrap ((IntKind.u32.wrap (IntKind.u8.wrap (BitVec.ofInt 8 ((s.getD 1 0).toNat:Int) &&& BitVec.ofInt 8 127).toNat)) * 128))).toNat))),(5,.v (.int .i64 0))] hW hE45 fun a46 hE47=>?_
  refine qaf (qab ?_)
  refine wp_seq ?_
  refine qad [0,1,2,3,4] kz ?_
  refine qal [0] [1,2,3,4] [(0,.v (.slice A s.length c)),(4,.v (.int .u32 (IntKind.u32.wrap (BitVec.ofInt 32 (IntKind.u32.wrap (IntKind.u8.wrap (BitVec.ofInt 8 ((s.getD 0 0).toNat:Int) &&& BitVec.ofInt 8 127).toNat)) ||| BitVec.ofInt 32 (IntKind.u32.wrap ((IntKind.u32.wrap (IntKind.u8.wrap (BitVec.ofInt 8 ((s.getD 1 0).toNat:Int) &&& BitVec.ofInt 8 127).toNat)) * 128))).toNat))),(5,.v (.int .i64 0)),(31,.v (.slice A s.length c))] hW hE47 fun a48 hE49=>?_
  refine qak (qan hE49 (t:=22) (A:=A) (m:=s.length) (q:=1) (d:=32) kz (e:=5) (size:=1) (bytes:=1) (j:=1) kz hA39 rfl (by omega) fun a50 hE51=>?_)
  refine qak (qat hE51 (t:=5) (b:=b37) (o:=o38 + 1 * 1) (d:=33) kz (cs:=[.int .u8 ((s.getD 1 0).toNat:Int)]) (v:=.int .u8 ((s.getD 1 0).toNat:Int)) kz (AtF.move hat41 hW.step nilM qaI).at_ fun a52 hE53=>?_)
  refine qal [3,4] [] [(0,.v (.slice A s.length c)),(4,.v (.int .u32 (IntKind.u32.wrap (BitVec.ofInt 32 (IntKind.u32.wrap (IntKind.u8.wrap (BitVec.ofInt 8 ((s.getD 0 0).toNat:Int) &&& BitVec.ofInt 8 127).toNat)) ||| BitVec.ofInt 32 (IntKind.u32.wrap ((IntKind.u32.wrap (IntKind.u8.wrap (BitVec.ofInt 8 ((s.getD 1 0).toNat:Int) &&& BitVec.ofInt 8 127).toNat)) * 128))).toNat))),(5,.v (.int .i64 0)),(35,.v (.bool ((IntKind.u8.wrap (BitVec.ofInt 8 ((s.getD 1 0).toNat:Int) &&& BitVec.ofInt 8 128).toNat) == 0)))] hW hE53 fun a54 hE55=>?_
  refine qaf (qab ?_)
  refine qam hE55 (b:=(IntKind.u8.wrap (BitVec.ofInt 8 ((s.getD 1 0).toNat:Int) &&& BitVec.ofInt 8 128).toNat) == 0) kz ((qbv _ (qa6 s 1)).trans (decide_eq_false (by have:=g1; unfold oc at this; omega))) ?_
  refine qas [(0,.v (.slice A s.length c)),(4,.v (.int .u32 (IntKind.u32.wrap (BitVec.ofInt 32 (IntKind.u32.wrap (IntKind.u8.wrap (BitVec.ofInt 8 ((s.getD 0 0).toNat:Int) &&& BitVec.ofInt 8 127).toNat)) ||| BitVec.ofInt 32 (IntKind.u32.wrap ((IntKind.u32.wrap (IntKind.u8.wrap (BitVec.ofInt 8 ((s.getD 1 0).toNat:Int) &&& BitVec.ofInt 8 127).toNat)) * 128))).toNat))),(5,.v (.int .i64 0)),(39,.v (.bool (decide (((s.length:Nat):Int) < 3))))] hW hE55 fun a56 hE57=>?_
  refine qam hE57 (b:=decide (((s.length:Nat):Int) < 3)) kz (decide_eq_false (by omega)) ?_
  refine wp_skip ?_
  refine qab ?_
  refine qad [0,1,2,3,4,5,6,7,8] kz ?_
  refine qal [0,1] [2,3,4,5,6,7,8] [(0,.v (.slice A s.length c)),(5,.v (.int .i64 0)),(40,.v (.int .u32 (IntKind.u32.wrap (BitVec.ofInt 32 (IntKind.u32.wrap (IntKind.u8.wrap (BitVec.ofInt 8 ((s.getD 0 0).toNat:Int) &&& BitVec.ofInt 8 127).toNat)) ||| BitVec.ofInt 32 (IntKind.u32.wrap ((IntKind.u32.wrap (IntKind.u8.wrap (BitVec.ofInt 8 ((s.getD 1 0).toNat:Int) &&& BitVec.ofInt 8 127).toNat)) * 128))).toNat))),(41,.v (.slice A s.length c))] hW hE57 fun a58 hE59=>?_
  obtain ⟨b60,o61,hA62,hl63,hat64⟩:=Slots.get ho (i:=2) (by omega)
  refine qak (qan hE59 (t:=22) (A:=A) (m:=s.length) (q:=2) (d:=42) kz (e:=5) (size:=1) (bytes:=1) (j:=2) kz hA62 rfl (by omega) fun a65 hE66=>?_)
  refine qak (qat hE66 (t:=5) (b:=b60) (o:=o61 + 2 * 1) (d:=43) kz (cs:=[.int .u8 ((s.getD 2 0).toNat:Int)]) (v:=.int .u8 ((s.getD 2 0).toNat:Int)) kz (AtF.move hat64 hW.step nilM qaI).at_ fun a67 hE68=>?_)
  refine qal [4,5,6,7,8] [] [(0,.v (.slice A s.length c)),(4,.v (.int .u32 (IntKind.u32.wrap (BitVec.ofInt 32 (IntKind.u32.wrap (BitVec.ofInt 32 (IntKind.u32.wrap (IntKind.u8.wrap (BitVec.ofInt 8 ((s.getD 0 0).toNat:Int) &&& BitVec.ofInt 8 127).toNat)) ||| BitVec.ofInt 32 (IntKind.u32.wrap ((IntKind.u32.wrap (IntKind.u8.wrap (BitVec.ofInt 8 ((s.getD 1 0).toNat:Int) &&& BitVec.ofInt 8 127).toNat)) * 128))).toNat) ||| BitVec.ofInt 32 (IntKind.u32.wrap ((IntKind.u32.wrap (IntKind.u8.wrap (BitVec.ofInt 8 ((s.getD 2 0).toNat:Int) &&& BitVec.ofInt 8 127).toNat)) * 16384))).toNat))),(5,.v (.int .i64 0))] hW hE68 fun a69 hE70=>?_
  refine qaf (qab ?_)
  refine wp_seq ?_
  refine qad [0,1,2,3,4] kz ?_
  refine qal [0] [1,2,3,4] [(0,.v (.slice A s.length c)),(4,.v (.int .u32 (IntKind.u32.wrap (BitVec.ofInt 32 (IntKind.u32.wrap (BitVec.ofInt 32 (IntKind.u32.wrap (IntKind.u8.wrap (BitVec.ofInt 8 ((s.getD 0 0).toNat:Int) &&& BitVec.ofInt 8 127).toNat)) ||| BitVec.ofInt 32 (IntKind.u32.wrap ((IntKind.u32.wrap (IntKind.u8.wrap (BitVec.ofInt 8 ((s.getD 1 0).toNat:Int) &&& BitVec.ofInt 8 127).toNat)) * 128))).toNat) ||| BitVec.ofInt 32 (IntKind.u32.wrap ((IntKind.u32.wrap (IntKind.u8.wrap (BitVec.ofInt 8 ((s.getD 2 0).toNat:Int) &&& BitVec.ofInt 8 127).toNat)) * 16384))).toNat))),(5,.v (.int .i64 0)),(48,.v (.slice A s.length c))] hW hE70 fun a71 hE72=>?_
  refine qak (qan hE72 (t:=22) (A:=A) (m:=s.length) (q:=2) (d:=49) kz (e:=5) (size:=1) (bytes:=1) (j:=2) kz hA62 rfl (by omega) fun a73 hE74=>?_)
  refine qak (qat hE74 (t:=5) (b:=b60) (o:=o61 + 2 * 1) (d:=50) kz (cs:=[.int .u8 ((s.getD 2 0).toNat:Int)]) (v:=.int .u8 ((s.getD 2 0).toNat:Int)) kz (AtF.move hat64 hW.step nilM qaI).at_ fun a75 hE76=>?_)
  refine qal [3,4] [] [(0,.v (.slice A s.length c)),(4,.v (.int .u32 (IntKind.u32.wrap (BitVec.ofInt 32 (IntKind.u32.wrap (BitVec.ofInt 32 (IntKind.u32.wrap (IntKind.u8.wrap (BitVec.ofInt 8 ((s.getD 0 0).toNat:Int) &&& BitVec.ofInt 8 127).toNat)) ||| BitVec.ofInt 32 (IntKind.u32.wrap ((IntKind.u32.wrap (IntKind.u8.wrap (BitVec.ofInt 8 ((s.getD 1 0).toNat:Int) &&& BitVec.ofInt 8 127).toNat)) * 128))).toNat) ||| BitVec.ofInt 32 (IntKind.u32.wrap ((IntKind.u32.wrap (IntKind.u8.wrap (BitVec.ofInt 8 ((s.getD 2 0).toNat:Int) &&& BitVec.ofInt 8 127).toNat)) * 16384))).toNat))),(5,.v (.int .i64 0)),(52,.v (.bool ((IntKind.u8.wrap (BitVec.ofInt 8 ((s.getD 2 0).toNat:Int) &&& BitVec.ofInt 8 128).toNat) == 0)))] hW hE76 fun a77 hE78=>?_
  refine qaf (qab ?_)
  refine qam hE78 (b:=(IntKind.u8.wrap (BitVec.ofInt 8 ((s.getD 2 0).toNat:Int) &&& BitVec.ofInt 8 128).toNat) == 0) kz ((qbv _ (qa6 s 2)).trans (decide_eq_false (by have:=g2; unfold oc at this; omega))) ?_
  refine qas [(0,.v (.slice A s.length c)),(4,.v (.int .u32 (IntKind.u32.wrap (BitVec.ofInt 32 (IntKind.u32.wrap (BitVec.ofInt 32 (IntKind.u32.wrap (IntKind.u8.wrap (BitVec.ofInt 8 ((s.getD 0 0).toNat:Int) &&& BitVec.ofInt 8 127).toNat)) ||| BitVec.ofInt 32 (IntKind.u32.wrap ((IntKind.u32.wrap (IntKind.u8.wrap (BitVec.ofInt 8 ((s.getD 1 0).toNat:Int) &&& BitVec.ofInt 8 127).toNat)) * 128))).toNat) ||| BitVec.ofInt 32 (IntKind.u32.wrap ((IntKind.u32.wrap (IntKind.u8.wrap (BitVec.ofInt 8 ((s.getD 2 0).toNat:Int) &&& BitVec.ofInt 8 127).toNat)) * 16384))).toNat))),(5,.v (.int .i64 0)),(56,.v (.bool (decide (((s.length:Nat):Int) < 4))))] hW hE78 fun a79 hE80=>?_
  refine qam hE80 (b:=decide (((s.length:Nat):Int) < 4)) kz (decide_eq_false (by omega)) ?_
  refine wp_skip ?_
  refine qab ?_
  refine qad [0,1,2,3,4,5,6,7,8] kz ?_
  refine qal [0,1] [2,3,4,5,6,7,8] [(0,.v (.slice A s.length c)),(5,.v (.int .i64 0)),(57,.v (.int .u32 (IntKind.u32.wrap (BitVec.ofInt 32 (IntKind.u32.wrap (BitVec.ofInt 32 (IntKind.u32.wrap (IntKind.u8.wrap (BitVec.ofInt 8 ((s.getD 0 0).toNat:Int) &&& BitVec.ofInt 8 127).toNat)) ||| BitVec.ofInt 32 (IntKind.u32.wrap ((IntKind.u32.wrap (IntKind.u8.wrap (BitVec.ofInt 8 ((s.getD 1 0).toNat:Int) &&& BitVec.ofInt 8 127).toNat)) * 128))).toNat) ||| BitVec.ofInt 32 (IntKind.u32.wrap ((IntKind.u32.wrap (IntKind.u8.wrap (BitVec.ofInt 8 ((s.getD 2 0).toNat:Int) &&& BitVec.ofInt 8 127).toNat)) * 16384))).toNat))),(58,.v (.slice A s.length c))] hW hE80 fun a81 hE82=>?_
  obtain ⟨b83,o84,hA85,hl86,hat87⟩:=Slots.get ho (i:=3) (by omega)
  refine qak (qan hE82 (t:=22) (A:=A) (m:=s.length) (q:=3) (d:=59) kz (e:=5) (size:=1) (bytes:=1) (j:=3) kz hA85 rfl (by omega) fun a88 hE89=>?_)
  refine qak (qat hE89 (t:=5) (b:=b83) (o:=o84 + 3 * 1) (d:=60) kz (cs:=[.int .u8 ((s.getD 3 0).toNat:Int)]) (v:=.int .u8 ((s.getD 3 0).toNat:Int)) kz (AtF.move hat87 hW.step nilM qaI).at_ fun a90 hE91=>?_)
  refine qal [4,5,6,7,8] [] [(0,.v (.slice A s.length c)),(4,.v (.int .u32 (IntKind.u32.wrap (BitVec.ofInt 32 (IntKind.u32.wrap (BitVec.ofInt 32 (IntKind.u32.wrap (BitVec.ofInt 32 (IntKind.u32.wrap (IntKind.u8.wrap (BitVec.ofInt 8 ((s.getD 0 0).toNat:Int) &&& BitVec.ofInt 8 127).toNat)) ||| BitVec.ofInt 32 (IntKind.u32.wrap ((IntKind.u32.wrap (IntKind.u8.wrap (BitVec.ofInt 8 ((s.getD 1 0).toNat:Int) &&& BitVec.ofInt 8 127).toNat)) * 128))).toNat) ||| BitVec.ofInt 32 (IntKind.u32.wrap ((IntKind.u32.wrap (IntKind.u8.wrap (BitVec.ofInt 8 ((s.getD 2 0).toNat:Int) &&& BitVec.ofInt 8 127).toNat)) * 16384))).toNat) ||| BitVec.ofInt 32 (IntKind.u32.wrap ((IntKind.u32.wrap (IntKind.u8.wrap (BitVec.ofInt 8 ((s.getD 3 0).toNat:Int) &&& BitVec.ofInt 8 127).toNat)) * 2097152))).toNat))),(5,.v (.int .i64 0))] hW hE91 fun a92 hE93=>?_
  refine qaf (qab ?_)
  refine wp_seq ?_
  refine qad [0,1,2,3,4] kz ?_
  refine qal [0] [1,2,3,4] [(0,.v (.slice A s.length c)),(4,.v (.int .u32 (IntKind.u32.wrap (BitVec.ofInt 32 (IntKind.u32.wrap (BitVec.ofInt 32 (IntKind.u32.wrap (BitVec.ofInt 32 (IntKind.u32.wrap (IntKind.u8.wrap (BitVec.ofInt 8 ((s.getD 0 0).toNat:Int) &&& BitVec.ofInt 8 127).toNat)) ||| BitVec.ofInt 32 (IntKind.u32.wrap ((IntKind.u32.wrap (IntKind.u8.wrap (BitVec.ofInt 8 ((s.getD 1 0).toNat:Int) &&& BitVec.ofInt 8 127).toNat)) * 128))).toNat) ||| BitVec.ofInt 32 (IntKind.u32.wrap ((IntKind.u32.wrap (IntKind.u8.wrap (BitVec.ofInt 8 ((s.getD 2 0).toNat:Int) &&& BitVec.ofInt 8 127).toNat)) * 16384))).toNat) ||| BitVec.ofInt 32 (IntKind.u32.wrap ((IntKind.u32.wrap (IntKind.u8.wrap (BitVec.ofInt 8 ((s.getD 3 0).toNat:Int) &&& BitVec.ofInt 8 127).toNat)) * 2097152))).toNat))),(5,.v (.int .i64 0)),(65,.v (.slice A s.length c))] hW hE93 fun a94 hE95=>?_
  refine qak (qan hE95 (t:=22) (A:=A) (m:=s.length) (q:=3) (d:=66) kz (e:=5) (size:=1) (bytes:=1) (j:=3) kz hA85 rfl (by omega) fun a96 hE97=>?_)
  refine qak (qat hE97 (t:=5) (b:=b83) (o:=o84 + 3 * 1) (d:=67) kz (cs:=[.int .u8 ((s.getD 3 0).toNat:Int)]) (v:=.int .u8 ((s.getD 3 0).toNat:Int)) kz (AtF.move hat87 hW.step nilM qaI).at_ fun a98 hE99=>?_)
  refine qal [3,4] [] [(0,.v (.slice A s.length c)),(4,.v (.int .u32 (IntKind.u32.wrap (BitVec.ofInt 32 (IntKind.u32.wrap (BitVec.ofInt 32 (IntKind.u32.wrap (BitVec.ofInt 32 (IntKind.u32.wrap (IntKind.u8.wrap (BitVec.ofInt 8 ((s.getD 0 0).toNat:Int) &&& BitVec.ofInt 8 127).toNat)) ||| BitVec.ofInt 32 (IntKind.u32.wrap ((IntKind.u32.wrap (IntKind.u8.wrap (BitVec.ofInt 8 ((s.getD 1 0).toNat:Int) &&& BitVec.ofInt 8 127).toNat)) * 128))).toNat) ||| BitVec.ofInt 32 (IntKind.u32.wrap ((IntKind.u32.wrap (IntKind.u8.wrap (BitVec.ofInt 8 ((s.getD 2 0).toNat:Int) &&& BitVec.ofInt 8 127).toNat)) * 16384))).toNat) ||| BitVec.ofInt 32 (IntKind.u32.wrap ((IntKind.u32.wrap (IntKind.u8.wrap (BitVec.ofInt 8 ((s.getD 3 0).toNat:Int) &&& BitVec.ofInt 8 127).toNat)) * 2097152))).toNat))),(5,.v (.int .i64 0)),(69,.v (.bool ((IntKind.u8.wrap (BitVec.ofInt 8 ((s.getD 3 0).toNat:Int) &&& BitVec.ofInt 8 128).toNat) == 0)))] hW hE99 fun a100 hE101=>?_
  refine qaf (qab ?_)
  refine qam hE101 (b:=(IntKind.u8.wrap (BitVec.ofInt 8 ((s.getD 3 0).toNat:Int) &&& BitVec.ofInt 8 128).toNat) == 0) kz ((qbv _ (qa6 s 3)).trans (decide_eq_false (by have:=g3; unfold oc at this; omega))) ?_
  refine qas [(0,.v (.slice A s.length c)),(4,.v (.int .u32 (IntKind.u32.wrap (BitVec.ofInt 32 (IntKind.u32.wrap (BitVec.ofInt 32 (IntKind.u32.wrap (BitVec.ofInt 32 (IntKind.u32.wrap (IntKind.u8.wrap (BitVec.ofInt 8 ((s.getD 0 0).toNat:Int) &&& BitVec.ofInt 8 127).toNat)) ||| BitVec.ofInt 32 (IntKind.u32.wrap ((IntKind.u32.wrap (IntKind.u8.wrap (BitVec.ofInt 8 ((s.getD 1 0).toNat:Int) &&& BitVec.ofInt 8 127).toNat)) * 128))).toNat) ||| BitVec.ofInt 32 (IntKind.u32.wrap ((IntKind.u32.wrap (IntKind.u8.wrap (BitVec.ofInt 8 ((s.getD 2 0).toNat:Int) &&& BitVec.ofInt 8 127).toNat)) * 16384))).toNat) ||| BitVec.ofInt 32 (IntKind.u32.wrap ((IntKind.u32.wrap (IntKind.u8.wrap (BitVec.ofInt 8 ((s.getD 3 0).toNat:Int) &&& BitVec.ofInt 8 127).toNat)) * 2097152))).toNat))),(5,.v (.int .i64 0)),(73,.v (.bool (decide (((s.length:Nat):Int) < 5))))] hW hE101 fun a102 hE103=>?_
  refine qaO hE103 (b:=decide (((s.length:Nat):Int) < 5)) kz (decide_eq_true (by omega)) ?_
  refine wp_goto ?_
  exact ⟨rfl,rfl,hE103.pk (env':=[(5,.v (.int .i64 0))])⟩
 rintro a3 _ ⟨rfl,hE5⟩
 refine wp_seq ?_
 refine wp_skip ?_
 refine qab ?_
 refine qas [(2,.v (.int .u32 0)),(3,.v (.int .i64 0))] hW hE5 fun a104 hE105=>?_
 refine wp_ret ?_
 refine qdz ?_
 refine qaV hE105 hW.cells (v:=.tuple #[.int .u32 0,.int .i64 0]) kz ?_
 exact ⟨rfl,hW.step⟩
theorem qiy {A:Option Addr} {c:Nat} (s:Bs) {w:World} {F:Nat → Nat → Prop} (ho:Octs w F A c s) (hl:5 ≤ s.length) (g0:128 ≤ oc s 0) (g1:128 ≤ oc s 1) (g2:128 ≤ oc s 2) (g3:128 ≤ oc s 3) (g4:16 ≤ oc s 4) :
  Calls Tryd.prog 68 #[.slice A s.length c] w (qcn w (.tuple #[.int .u32 0,.int .i64 (-5)])):=by
 refine enter (n:=87) Tryd.func68 rfl Tryd.ntmps68 kz fun a hE=>?_
 have hW:=WOk.start w Nil
 refine qas [(0,.v (.slice A s.length c))] hW hE fun a1 hE2=>?_
 refine wp_scope_straight ?_
 refine qas [(0,.v (.slice A s.length c))] hW hE2 fun a3 hE4=>?_
 refine qas [(0,.v (.slice A s.length c)),(5,.v (.int .i64 0))] hW hE4 fun a5 hE6=>?_
 refine wp_seq ?_
 refine qas [(0,.v (.slice A s.length c)),(5,.v (.int .i64 0)),(8,.v (.bool (decide (((s.length:Nat):Int) < 1))))] hW hE6 fun a7 hE8=>?_
 refine qam hE8 (b:=decide (((s.length:Nat):Int) < 1)) kz (decide_eq_false (by omega)) ?_
 refine wp_skip ?_
 refine qab ?_
 refine qad [0,1,2,3,4,5] kz ?_
 refine qal [0] [1,2,3,4,5] [(0,.v (.slice A s.length c)),(5,.v (.int .i64 0)),(9,.v (.slice A s.length c))] hW hE8 fun a9 hE10=>?_
 obtain ⟨b11,o12,hA13,hl14,hat15⟩:=Slots.get ho (i:=0) (by omega)
 refine qak (qan hE10 (t:=22) (A:=A) (m:=s.length) (q:=0) (d:=10) kz (e:=5) (size:=1) (bytes:=1) (j:=0) kz hA13 rfl (by omega) fun a16 hE17=>?_)
 refine qak (qat hE17 (t:=5) (b:=b11) (o:=o12 + 0 * 1) (d:=11) kz (cs:=[.int .u8 ((s.getD 0 0).toNat:Int)]) (v:=.int .u8 ((s.getD 0 0).toNat:Int)) kz (AtF.move hat15 hW.step nilM qaI).at_ fun a18 hE19=>?_)
 refine qal [3,4,5] [] [(0,.v (.slice A s.length c)),(4,.v (.int .u32 (IntKind.u32.wrap (IntKind.u8.wrap (BitVec.ofInt 8 ((s.getD 0 0).toNat:Int) &&& BitVec.ofInt 8 127).toNat)))),(5,.v (.int .i64 0))] hW hE19 fun a20 hE21=>?_
 refine qaf (qab ?_)
 refine wp_seq ?_
 refine qad [0,1,2,3,4] kz ?_
 refine qal [0] [1,2,3,4] [(0,.v (.slice A s.length c)),(4,.v (.int .u32 (IntKind.u32.wrap (IntKind.u8.wrap (BitVec.ofInt 8 ((s.getD 0 0).toNat:Int) &&& BitVec.ofInt 8 127).toNat)))),(5,.v (.int .i64 0)),(14,.v (.slice A s.length c))] hW hE21 fun a22 hE23=>?_
 refine qak (qan hE23 (t:=22) (A:=A) (m:=s.length) (q:=0) (d:=15) kz (e:=5) (size:=1) (bytes:=1) (j:=0) kz hA13 rfl (by omega) fun a24 hE25=>?_)
 refine qak (qat hE25 (t:=5) (b:=b11) (o:=o12 + 0 * 1) (d:=16) kz (cs:=[.int .u8 ((s.getD 0 0).toNat:Int)]) (v:=.int .u8 ((s.getD 0 0).toNat:Int)) kz (AtF.move hat15 hW.step nilM qaI).at_ fun a26 hE27=>?_)
 refine qal [3,4] [] [(0,.v (.slice A s.length c)),(4,.v (.int .u32 (IntKind.u32.wrap (IntKind.u8.wrap (BitVec.ofInt 8 ((s.getD 0 0).toNat:Int) &&& BitVec.ofInt 8 127).toNat)))),(5,.v (.int .i64 0)),(18,.v (.bool ((IntKind.u8.wrap (BitVec.ofInt 8 ((s.getD 0 0).toNat:Int) &&& BitVec.ofInt 8 128).toNat) == 0)))] hW hE27 fun a28 hE29=>?_
 refine qaf (qab ?_)
 refine qam hE29 (b:=(IntKind.u8.wrap (BitVec.ofInt 8 ((s.getD 0 0).toNat:Int) &&& BitVec.ofInt 8 128).toNat) == 0) kz ((qbv _ (qa6 s 0)).trans (decide_eq_false (by have:=g0; unfold oc at this; omega))) ?_
 refine qas [(0,.v (.slice A s.length c)),(4,.v (.int .u32 (IntKind.u32.wrap (IntKind.u8.wrap (BitVec.ofInt 8 ((s.getD 0 0).toNat:Int) &&& BitVec.ofInt 8 127).toNat)))),(5,.v (.int .i64 0)),(22,.v (.bool (decide (((s.length:Nat):Int) < 2))))] hW hE29 fun a30 hE31=>?_
 refine qam hE31 (b:=decide (((s.length:Nat):Int) < 2)) kz (decide_eq_false (by omega)) ?_
 refine wp_skip ?_
 refine qab ?_
 refine qad [0,1,2,3,4,5,6,7,8] kz ?_
 refine qal [0,1] [2,3,4,5,6,7,8] [(0,.v (.slice A s.length c)),(5,.v (.int .i64 0)),(23,.v (.int .u32 (IntKind.u32.wrap (IntKind.u8.wrap (BitVec.ofInt 8 ((s.getD 0 0).toNat:Int) &&& BitVec.ofInt 8 127).toNat)))),(24,.v (.slice A s.length c))] hW hE31 fun a32 hE33=>?_
 obtain ⟨b34,o35,hA36,hl37,hat38⟩:=Slots.get ho (i:=1) (by omega)
 refine qak (qan hE33 (t:=22) (A:=A) (m:=s.length) (q:=1) (d:=25) kz (e:=5) (size:=1) (bytes:=1) (j:=1) kz hA36 rfl (by omega) fun a39 hE40=>?_)
 refine qak (qat hE40 (t:=5) (b:=b34) (o:=o35 + 1 * 1) (d:=26) kz (cs:=[.int .u8 ((s.getD 1 0).toNat:Int)]) (v:=.int .u8 ((s.getD 1 0).toNat:Int)) kz (AtF.move hat38 hW.step nilM qaI).at_ fun a41 hE42=>?_)
 refine qal [4,5,6,7,8] [] [(0,.v (.slice A s.length c)),(4,.v (.int .u32 (IntKind.u32.wrap (BitVec.ofInt 32 (IntKind.u32.wrap (IntKind.u8.wrap (BitVec.ofInt 8 ((s.getD 0 0).toNat:Int) &&& BitVec.ofInt 8 127).toNat)) ||| BitVec.ofInt 32 (IntKind.u32.wrap ((IntKind.u32.wrap (IntKind.u8.wrap (BitVec.ofInt 8 ((s.getD 1 0).toNat:Int) &&& BitVec.ofInt 8 127).toNat)) * 128))).toNat))),(5,.v (.int .i64 0))] hW hE42 fun a43 hE44=>?_
 refine qaf (qab ?_)
 refine wp_seq ?_
 refine qad [0,1,2,3,4] kz ?_
 refine qal [0] [1,2,3,4] [(0,.v (.slice A s.length c)),(4,.v (.int .u32 (IntKind.u32.wrap (BitVec.ofInt 32 (IntKind.u32.wrap (IntKind.u8.wrap (BitVec.ofInt 8 ((s.getD 0 0).toNat:Int) &&& BitVec.ofInt 8 127).toNat)) ||| BitVec.ofInt 32 (IntKind.u32.wrap ((IntKind.u32.wrap (IntKind.u8.wrap (BitVec.ofInt 8 ((s.getD 1 0).toNat:Int) &&& BitVec.ofInt 8 127).toNat)) * 128))).toNat))),(5,.v (.int .i64 0)),(31,.v (.slice A s.length c))] hW hE44 fun a45 hE46=>?_
 refine qak (qan hE46 (t:=22) (A:=A) (m:=s.length) (q:=1) (d:=32) kz (e:=5) (size:=1) (bytes:=1) (j:=1) kz hA36 rfl (by omega) fun a47 hE48=>?_)
 refine qak (qat hE48 (t:=5) (b:=b34) (o:=o35 + 1 * 1) (d:=33) kz (cs:=[.int .u8 ((s.getD 1 0).toNat:Int)]) (v:=.int .u8 ((s.getD 1 0).toNat:Int)) kz (AtF.move hat38 hW.step nilM qaI).at_ fun a49 hE50=>?_)
 refine qal [3,4] [] [(0,.v (.slice A s.length c)),(4,.v (.int .u32 (IntKind.u32.wrap (BitVec.ofInt 32 (IntKind.u32.wrap (IntKind.u8.wrap (BitVec.ofInt 8 ((s.getD 0 0).toNat:Int) &&& BitVec.ofInt 8 127).toNat)) ||| BitVec.ofInt 32 (IntKind.u32.wrap ((IntKind.u32.wrap (IntKind.u8.wrap (BitVec.ofInt 8 ((s.getD 1 0).toNat:Int) &&& BitVec.ofInt 8 127).toNat)) * 128))).toNat))),(5,.v (.int .i64 0)),(35,.v (.bool ((IntKind.u8.wrap (BitVec.ofInt 8 ((s.getD 1 0).toNat:Int) &&& BitVec.ofInt 8 128).toNat) == 0)))] hW hE50 fun a51 hE52=>?_
 refine qaf (qab ?_)
 refine qam hE52 (b:=(IntKind.u8.wrap (BitVec.ofInt 8 ((s.getD 1 0).toNat:Int) &&& BitVec.ofInt 8 128).toNat) == 0) kz ((qbv _ (qa6 s 1)).trans (decide_eq_false (by have:=g1; unfold oc at this; omega))) ?_
 refine qas [(0,.v (.slice A s.length c)),(4,.v (.int .u32 (IntKind.u32.wrap (BitVec.ofInt 32 (IntKind.u32.wrap (IntKind.u8.wrap (BitVec.ofInt 8 ((s.getD 0 0).toNat:Int) &&& BitVec.ofInt 8 127).toNat)) ||| BitVec.ofInt 32 (IntKind.u32.wrap ((IntKind.u32.wrap (IntKind.u8.wrap (BitVec.ofInt 8 ((s.getD 1 0).toNat:Int) &&& BitVec.ofInt 8 127).toNat)) * 128))).toNat))),(5,.v (.int .i64 0)),(39,.v (.bool (decide (((s.length:Nat):Int) < 3))))] hW hE52 fun a53 hE54=>?_
 refine qam hE54 (b:=decide (((s.length:Nat):Int) < 3)) kz (decide_eq_false (by omega)) ?_
 refine wp_skip ?_
 refine qab ?_
 refine qad [0,1,2,3,4,5,6,7,8] kz ?_
 refine qal [0,1] [2,3,4,5,6,7,8] [(0,.v (.slice A s.length c)),(5,.v (.int .i64 0)),(40,.v (.int .u32 (IntKind.u32.wrap (BitVec.ofInt 32 (IntKind.u32.wrap (IntKind.u8.wrap (BitVec.ofInt 8 ((s.getD 0 0).toNat:Int) &&& BitVec.ofInt 8 127).toNat)) ||| BitVec.ofInt 32 (IntKind.u32.wrap ((IntKind.u32.wrap (IntKind.u8.wrap (BitVec.ofInt 8 ((s.getD 1 0).toNat:Int) &&& BitVec.ofInt 8 127).toNat)) * 128))).toNat))),(41,.v (.slice A s.length c))] hW hE54 fun a55 hE56=>?_
 obtain ⟨b57,o58,hA59,hl60,hat61⟩:=Slots.get ho (i:=2) (by omega)
 refine qak (qan hE56 (t:=22) (A:=A) (m:=s.length) (q:=2) (d:=42) kz (e:=5) (size:=1) (bytes:=1) (j:=2) kz hA59 rfl (by omega) fun a62 hE63=>?_)
 refine qak (qat hE63 (t:=5) (b:=b57) (o:=o58 + 2 * 1) (d:=43) kz (cs:=[.int .u8 ((s.getD 2 0).toNat:Int)]) (v:=.int .u8 ((s.getD 2 0).toNat:Int)) kz (AtF.move hat61 hW.step nilM qaI).at_ fun a64 hE65=>?_)
 refine qal [4,5,6,7,8] [] [(0,.v (.slice A s.length c)),(4,.v (.int .u32 (IntKind.u32.wrap (BitVec.ofInt 32 (IntKind.u32.wrap (BitVec.ofInt 32 (IntKind.u32.wrap (IntKind.u8.wrap (BitVec.ofInt 8 ((s.getD 0 0).toNat:Int) &&& BitVec.ofInt 8 127).toNat)) ||| BitVec.ofInt 32 (IntKind.u32.wrap ((IntKind.u32.wrap (IntKind.u8.wrap (BitVec.ofInt 8 ((s.getD 1 0).toNat:Int) &&& BitVec.ofInt 8 127).toNat)) * 128))).toNat) ||| BitVec.ofInt 32 (IntKind.u32.wrap ((IntKind.u32.wrap (IntKind.u8.wrap (BitVec.ofInt 8 ((s.getD 2 0).toNat:Int) &&& BitVec.ofInt 8 127).toNat)) * 16384))).toNat))),(5,.v (.int .i64 0))] hW hE65 fun a66 hE67=>?_
 refine qaf (qab ?_)
 refine wp_seq ?_
 refine qad [0,1,2,3,4] kz ?_
 refine qal [0] [1,2,3,4] [(0,.v (.slice A s.length c)),(4,.v (.int .u32 (IntKind.u32.wrap (BitVec.ofInt 32 (IntKind.u32.wrap (BitVec.ofInt 32 (IntKind.u32.wrap (IntKind.u8.wrap (BitVec.ofInt 8 ((s.getD 0 0).toNat:Int) &&& BitVec.ofInt 8 127).toNat)) ||| BitVec.ofInt 32 (IntKind.u32.wrap ((IntKind.u32.wrap (IntKind.u8.wrap (BitVec.ofInt 8 ((s.getD 1 0).toNat:Int) &&& BitVec.ofInt 8 127).toNat)) * 128))).toNat) ||| BitVec.ofInt 32 (IntKind.u32.wrap ((IntKind.u32.wrap (IntKind.u8.wrap (BitVec.ofInt 8 ((s.getD 2 0).toNat:Int) &&& BitVec.ofInt 8 127).toNat)) * 16384))).toNat))),(5,.v (.int .i64 0)),(48,.v (.slice A s.length c))] hW hE67 fun a68 hE69=>?_
 refine qak (qan hE69 (t:=22) (A:=A) (m:=s.length) (q:=2) (d:=49) kz (e:=5) (size:=1) (bytes:=1) (j:=2) kz hA59 rfl (by omega) fun a70 hE71=>?_)
 refine qak (qat hE71 (t:=5) (b:=b57) (o:=o58 + 2 * 1) (d:=50) kz (cs:=[.int .u8 ((s.getD 2 0).toNat:Int)]) (v:=.int .u8 ((s.getD 2 0).toNat:Int)) kz (AtF.move hat61 hW.step nilM qaI).at_ fun a72 hE73=>?_)
 refine qal [3,4] [] [(0,.v (.slice A s.length c)),(4,.v (.int .u32 (IntKind.u32.wrap (BitVec.ofInt 32 (IntKind.u32.wrap (BitVec.ofInt 32 (IntKind.u32.wrap (IntKind.u8.wrap (BitVec.ofInt 8 ((s.getD 0 0).toNat:Int) &&& BitVec.ofInt 8 127).toNat)) ||| BitVec.ofInt 32 (IntKind.u32.wrap ((IntKind.u32.wrap (IntKind.u8.wrap (BitVec.ofInt 8 ((s.getD 1 0).toNat:Int) &&& BitVec.ofInt 8 127).toNat)) * 128))).toNat) ||| BitVec.ofInt 32 (IntKind.u32.wrap ((IntKind.u32.wrap (IntKind.u8.wrap (BitVec.ofInt 8 ((s.getD 2 0).toNat:Int) &&& BitVec.ofInt 8 127).toNat)) * 16384))).toNat))),(5,.v (.int .i64 0)),(52,.v (.bool ((IntKind.u8.wrap (BitVec.ofInt 8 ((s.getD 2 0).toNat:Int) &&& BitVec.ofInt 8 128).toNat) == 0)))] hW hE73 fun a74 hE75=>?_
 refine qaf (qab ?_)
 refine qam hE75 (b:=(IntKind.u8.wrap (BitVec.ofInt 8 ((s.getD 2 0).toNat:Int) &&& BitVec.ofInt 8 128).toNat) == 0) kz ((qbv _ (qa6 s 2)).trans (decide_eq_false (by have:=g2; unfold oc at this; omega))) ?_
 refine qas [(0,.v (.slice A s.length c)),(4,.v (.int .u32 (IntKind.u32.wrap (BitVec.ofInt 32 (IntKind.u32.wrap (BitVec.ofInt 32 (IntKind.u32.wrap (IntKind.u8.wrap (BitVec.ofInt 8 ((s.getD 0 0).toNat:Int) &&& BitVec.ofInt 8 127).toNat)) ||| BitVec.ofInt 32 (IntKind.u32.wrap ((IntKind.u32.wrap (IntKind.u8.wrap (BitVec.ofInt 8 ((s.getD 1 0).toNat:Int) &&& BitVec.ofInt 8 127).toNat)) * 128))).toNat) ||| BitVec.ofInt 32 (IntKind.u32.wrap ((IntKind.u32.wrap (IntKind.u8.wrap (BitVec.ofInt 8 ((s.getD 2 0).toNat:Int) &&& BitVec.ofInt 8 127).toNat)) * 16384))).toNat))),(5,.v (.int .i64 0)),(56,.v (.bool (decide (((s.length:Nat):Int) < 4))))] hW hE75 fun a76 hE77=>?_
 refine qam hE77 (b:=decide (((s.length:Nat):Int) < 4)) kz (decide_eq_false (by omega)) ?_
 refine wp_skip ?_
 refine qab ?_
 refine qad [0,1,2,3,4,5,6,7,8] kz ?_
 refine qal [0,1] [2,3,4,5,6,7,8] [(0,.v (.slice A s.length c)),(5,.v (.int .i64 0)),(57,.v (.int .u32 (IntKind.u32.wrap (BitVec.ofInt 32 (IntKind.u32.wrap (BitVec.ofInt 32 (IntKind.u32.wrap (IntKind.u8.wrap (BitVec.ofInt 8 ((s.getD 0 0).toNat:Int) &&& BitVec.ofInt 8 127).toNat)) ||| BitVec.ofInt 32 (IntKind.u32.wrap ((IntKind.u32.wrap (IntKind.u8.wrap (BitVec.ofInt 8 ((s.getD 1 0).toNat:Int) &&& BitVec.ofInt 8 127).toNat)) * 128))).toNat) ||| BitVec.ofInt 32 (IntKind.u32.wrap ((IntKind.u32.wrap (IntKind.u8.wrap (BitVec.ofInt 8 ((s.getD 2 0).toNat:Int) &&& BitVec.ofInt 8 127).toNat)) * 16384))).toNat))),(58,.v (.slice A s.length c))] hW hE77 fun a78 hE79=>?_
 obtain ⟨b80,o81,hA82,hl83,hat84⟩:=Slots.get ho (i:=3) (by omega)
 refine qak (qan hE79 (t:=22) (A:=A) (m:=s.length) (q:=3) (d:=59) kz (e:=5) (size:=1) (bytes:=1) (j:=3) kz hA82 rfl (by omega) fun a85 hE86=>?_)
 refine qak (qat hE86 (t:=5) (b:=b80) (o:=o81 + 3 * 1) (d:=60) kz (cs:=[.int .u8 ((s.getD 3 0).toNat:Int)]) (v:=.int .u8 ((s.getD 3 0).toNat:Int)) kz (AtF.move hat84 hW.step nilM qaI).at_ fun a87 hE88=>?_)
 refine qal [4,5,6,7,8] [] [(0,.v (.slice A s.length c)),(4,.v (.int .u32 (IntKind.u32.wrap (BitVec.ofInt 32 (IntKind.u32.wrap (BitVec.ofInt 32 (IntKind.u32.wrap (BitVec.ofInt 32 (IntKind.u32.wrap (IntKind.u8.wrap (BitVec.ofInt 8 ((s.getD 0 0).toNat:Int) &&& BitVec.ofInt 8 127).toNat)) ||| BitVec.ofInt 32 (IntKind.u32.wrap ((IntKind.u32.wrap (IntKind.u8.wrap (BitVec.ofInt 8 ((s.getD 1 0).toNat:Int) &&& BitVec.ofInt 8 127).toNat)) * 128))).toNat) ||| BitVec.ofInt 32 (IntKind.u32.wrap ((IntKind.u32.wrap (IntKind.u8.wrap (BitVec.ofInt 8 ((s.getD 2 0).toNat:Int) &&& BitVec.ofInt 8 127).toNat)) * 16384))).toNat) ||| BitVec.ofInt 32 (IntKind.u32.wrap ((IntKind.u32.wrap (IntKind.u8.wrap (BitVec.ofInt 8 ((s.getD 3 0).toNat:Int) &&& BitVec.ofInt 8 127).toNat)) * 2097152))).toNat))),(5,.v (.int .i64 0))] hW hE88 fun a89 hE90=>?_
 refine qaf (qab ?_)
 refine wp_seq ?_
 refine qad [0,1,2,3,4] kz ?_
 refine qal [0] [1,2,3,4] [(0,.v (.slice A s.length c)),(4,.v (.int .u32 (IntKind.u32.wrap (BitVec.ofInt 32 (IntKind.u32.wrap (BitVec.ofInt 32 (IntKind.u32.wrap (BitVec.ofInt 32 (IntKind.u32.wrap (IntKind.u8.wrap (BitVec.ofInt 8 ((s.getD 0 0).toNat:Int) &&& BitVec.ofInt 8 127).toNat)) ||| BitVec.ofInt 32 (IntKind.u32.wrap ((IntKind.u32.wrap (IntKind.u8.wrap (BitVec.ofInt 8 ((s.getD 1 0).toNat:Int) &&& BitVec.ofInt 8 127).toNat)) * 128))).toNat) ||| BitVec.ofInt 32 (IntKind.u32.wrap ((IntKind.u32.wrap (IntKind.u8.wrap (BitVec.ofInt 8 ((s.getD 2 0).toNat:Int) &&& BitVec.ofInt 8 127).toNat)) * 16384))).toNat) ||| BitVec.ofInt 32 (IntKind.u32.wrap ((IntKind.u32.wrap (IntKind.u8.wrap (BitVec.ofInt 8 ((s.getD 3 0).toNat:Int) &&& BitVec.ofInt 8 127).toNat)) * 2097152))).toNat))),(5,.v (.int .i64 0)),(65,.v (.slice A s.length c))] hW hE90 fun a91 hE92=>?_
 refine qak (qan hE92 (t:=22) (A:=A) (m:=s.length) (q:=3) (d:=66) kz (e:=5) (size:=1) (bytes:=1) (j:=3) kz hA82 rfl (by omega) fun a93 hE94=>?_)
 refine qak (qat hE94 (t:=5) (b:=b80) (o:=o81 + 3 * 1) (d:=67) kz (cs:=[.int .u8 ((s.getD 3 0).toNat:Int)]) (v:=.int .u8 ((s.getD 3 0).toNat:Int)) kz (AtF.move hat84 hW.step nilM qaI).at_ fun a95 hE96=>?_)
 refine qal [3,4] [] [(0,.v (.slice A s.length c)),(4,.v (.int .u32 (IntKind.u32.wrap (BitVec.ofInt 32 (IntKind.u32.wrap (BitVec.ofInt 32 (IntKind.u32.wrap (BitVec.ofInt 32 (IntKind.u32.wrap (IntKind.u8.wrap (BitVec.ofInt 8 ((s.getD 0 0).toNat:Int) &&& BitVec.ofInt 8 127).toNat)) ||| BitVec.ofInt 32 (IntKind.u32.wrap ((IntKind.u32.wrap (IntKind.u8.wrap (BitVec.ofInt 8 ((s.getD 1 0).toNat:Int) &&& BitVec.ofInt 8 127).toNat)) * 128))).toNat) ||| BitVec.ofInt 32 (IntKind.u32.wrap ((IntKind.u32.wrap (IntKind.u8.wrap (BitVec.ofInt 8 ((s.getD 2 0).toNat:Int) &&& BitVec.ofInt 8 127).toNat)) * 16384))).toNat) ||| BitVec.ofInt 32 (IntKind.u32.wrap ((IntKind.u32.wrap (IntKind.u8.wrap (BitVec.ofInt 8 ((s.getD 3 0).toNat:Int) &&& BitVec.ofInt 8 127).toNat)) * 2097152))).toNat))),(5,.v (.int .i64 0)),(69,.v (.bool ((IntKind.u8.wrap (BitVec.ofInt 8 ((s.getD 3 0).toNat:Int) &&& BitVec.ofInt 8 128).toNat) == 0)))] hW hE96 fun a97 hE98=>?_
 refine qaf (qab ?_)
 refine qam hE98 (b:=(IntKind.u8.wrap (BitVec.ofInt 8 ((s.getD 3 0).toNat:Int) &&& BitVec.ofInt 8 128).toNat) == 0) kz ((qbv _ (qa6 s 3)).trans (decide_eq_false (by have:=g3; unfold oc at this; omega))) ?_
 refine qas [(0,.v (.slice A s.length c)),(4,.v (.int .u32 (IntKind.u32.wrap (BitVec.ofInt 32 (IntKind.u32.wrap (BitVec.ofInt 32 (IntKind.u32.wrap (BitVec.ofInt 32 (IntKind.u32.wrap (IntKind.u8.wrap (BitVec.ofInt 8 ((s.getD 0 0).toNat:Int) &&& BitVec.ofInt 8 127).toNat)) ||| BitVec.ofInt 32 (IntKind.u32.wrap ((IntKind.u32.wrap (IntKind.u8.wrap (BitVec.ofInt 8 ((s.getD 1 0).toNat:Int) &&& BitVec.ofInt 8 127).toNat)) * 128))).toNat) ||| BitVec.ofInt 32 (IntKind.u32.wrap ((IntKind.u32.wrap (IntKind.u8.wrap (BitVec.ofInt 8 ((s.getD 2 0).toNat:Int) &&& BitVec.ofInt 8 127).toNat)) * 16384))).toNat) ||| BitVec.ofInt 32 (IntKind.u32.wrap ((IntKind.u32.wrap (IntKind.u8.wrap (BitVec.ofInt 8 ((s.getD 3 0).toNat:Int) &&& BitVec.ofInt 8 127).toNat)) * 2097152))).toNat))),(5,.v (.int .i64 0)),(73,.v (.bool (decide (((s.length:Nat):Int) < 5))))] hW hE98 fun a99 hE100=>?_
 refine qam hE100 (b:=decide (((s.length:Nat):Int) < 5)) kz (decide_eq_false (by omega)) ?_
 refine wp_skip ?_
 refine qab ?_
 refine qad [0,1,2,3,4,5,6,7] kz ?_
 refine qal [0,1] [2,3,4,5,6,7] [(0,.v (.slice A s.length c)),(74,.v (.int .u32 (IntKind.u32.wrap (BitVec.ofInt 32 (IntKind.u32.wrap (BitVec.ofInt 32 (IntKind.u32.wrap (BitVec.ofInt 32 (IntKind.u32.wrap (IntKind.u8.wrap (BitVec.ofInt 8 ((s.getD 0 0).toNat:Int) &&& BitVec.ofInt 8 127).toNat)) ||| BitVec.ofInt 32 (IntKind.u32.wrap ((IntKind.u32.wrap (IntKind.u8.wrap (BitVec.ofInt 8 ((s.getD 1 0).toNat:Int) &&& BitVec.ofInt 8 127).toNat)) * 128))).toNat) ||| BitVec.ofInt 32 (IntKind.u32.wrap ((IntKind.u32.wrap (IntKind.u8.wrap (BitVec.ofInt 8 ((s.getD 2 0).toNat:Int) &&& BitVec.ofInt 8 127).toNat)) * 16384))).toNat) ||| BitVec.ofInt 32 (IntKind.u32.wrap ((IntKind.u32.wrap (IntKind.u8.wrap (BitVec.ofInt 8 ((s.getD 3 0).toNat:Int) &&& BitVec.ofInt 8 127).toNat)) * 2097152))).toNat))),(75,.v (.slice A s.length c))] hW hE100 fun a101 hE102=>?_
 obtain ⟨b103,o104,hA105,hl106,hat107⟩:=Slots.get ho (i:=4) (by omega)
 refine qak (qan hE102 (t:=22) (A:=A) (m:=s.length) (q:=4) (d:=76) kz (e:=5) (size:=1) (bytes:=1) (j:=4) kz hA105 rfl (by omega) fun a108 hE109=>?_)
 refine qak (qat hE109 (t:=5) (b:=b103) (o:=o104 + 4 * 1) (d:=77) kz (cs:=[.int .u8 ((s.getD 4 0).toNat:Int)]) (v:=.int .u8 ((s.getD 4 0).toNat:Int)) kz (AtF.move hat107 hW.step nilM qaI).at_ fun a110 hE111=>?_)
 refine qal [4,5,6,7] [] [(0,.v (.slice A s.length c)),(4,.v (.int .u32 (IntKind.u32.wrap (BitVec.ofInt 32 (IntKind.u32.wrap (BitVec.ofInt 32 (IntKind.u32.wrap (BitVec.ofInt 32 (IntKind.u32.wrap (BitVec.ofInt 32 (IntKind.u32.wrap (IntKind.u8.wrap (BitVec.ofInt 8 ((s.getD 0 0).toNat:Int) &&& BitVec.ofInt 8 127).toNat)) ||| BitVec.ofInt 32 (IntKind.u32.wrap ((IntKind.u32.wrap (IntKind.u8.wrap (BitVec.ofInt 8 ((s.getD 1 0).toNat:Int) &&& BitVec.ofInt 8 127).toNat)) * 128))).toNat) ||| BitVec.ofInt 32 (IntKind.u32.wrap ((IntKind.u32.wrap (IntKind.u8.wrap (BitVec.ofInt 8 ((s.getD 2 0).toNat:Int) &&& BitVec.ofInt 8 127).toNat)) * 16384))).toNat) ||| BitVec.ofInt 32 (IntKind.u32.wrap ((IntKind.u32.wrap (IntKind.u8.wrap (BitVec.ofInt 8 ((s.getD 3 0).toNat:Int) &&& BitVec.ofInt 8 127).toNat)) * 2097152))).toNat) ||| BitVec.ofInt 32 (IntKind.u32.wrap ((IntKind.u32.wrap ((s.getD 4 0).toNat:Int)) * 268435456))).toNat)))] hW hE111 fun a112 hE113=>?_
 refine qaf (qab ?_)
 refine wp_seq ?_
 refine qad [0,1,2,3] kz ?_
 refine qal [0] [1,2,3] [(4,.v (.int .u32 (IntKind.u32.wrap (BitVec.ofInt 32 (IntKind.u32.wrap (BitVec.ofInt 32 (IntKind.u32.wrap (BitVec.ofInt 32 (IntKind.u32.wrap (BitVec.ofInt 32 (IntKind.u32.wrap (IntKind.u8.wrap (BitVec.ofInt 8 ((s.getD 0 0).toNat:Int) &&& BitVec.ofInt 8 127).toNat)) ||| BitVec.ofInt 32 (IntKind.u32.wrap ((IntKind.u32.wrap (IntKind.u8.wrap (BitVec.ofInt 8 ((s.getD 1 0).toNat:Int) &&& BitVec.ofInt 8 127).toNat)) * 128))).toNat) ||| BitVec.ofInt 32 (IntKind.u32.wrap ((IntKind.u32.wrap (IntKind.u8.wrap (BitVec.ofInt 8 ((s.getD 2 0).toNat:Int) &&& BitVec.ofInt 8 127).toNat)) * 16384))).toNat) ||| BitVec.ofInt 32 (IntKind.u32.wrap ((IntKind.u32.wrap (IntKind.u8.wrap (BitVec.ofInt 8 ((s.getD 3 0).toNat:Int) &&& BitVec.ofInt 8 127).toNat)) * 2097152))).toNat) ||| BitVec.ofInt 32 (IntKind.u32.wrap ((IntKind.u32.wrap ((s.getD 4 0).toNat:Int)) * 268435456))).toNat))),(81,.v (.slice A s.length c))] hW hE113 fun a114 hE115=>?_
 refine qak (qan hE115 (t:=22) (A:=A) (m:=s.length) (q:=4) (d:=82) kz (e:=5) (size:=1) (bytes:=1) (j:=4) kz hA105 rfl (by omega) fun a116 hE117=>?_)
 refine qak (qat hE117 (t:=5) (b:=b103) (o:=o104 + 4 * 1) (d:=83) kz (cs:=[.int .u8 ((s.getD 4 0).toNat:Int)]) (v:=.int .u8 ((s.getD 4 0).toNat:Int)) kz (AtF.move hat107 hW.step nilM qaI).at_ fun a118 hE119=>?_)
 refine qal [3] [] [(4,.v (.int .u32 (IntKind.u32.wrap (BitVec.ofInt 32 (IntKind.u32.wrap (BitVec.ofInt 32 (IntKind.u32.wrap (BitVec.ofInt 32 (IntKind.u32.wrap (BitVec.ofInt 32 (IntKind.u32.wrap (IntKind.u8.wrap (BitVec.ofInt 8 ((s.getD 0 0).toNat:Int) &&& BitVec.ofInt 8 127).toNat)) ||| BitVec.ofInt 32 (IntKind.u32.wrap ((IntKind.u32.wrap (IntKind.u8.wrap (BitVec.ofInt 8 ((s.getD 1 0).toNat:Int) &&& BitVec.ofInt 8 127).toNat)) * 128))).toNat) ||| BitVec.ofInt 32 (IntKind.u32.wrap ((IntKind.u32.wrap (IntKind.u8.wrap (BitVec.ofInt 8 ((s.getD 2 0).toNat:Int) &&& BitVec.ofInt 8 127).toNat)) * 16384))).toNat) ||| BitVec.ofInt 32 (IntKind.u32.wrap ((IntKind.u32.wrap (IntKind.u8.wrap (BitVec.ofInt 8 ((s.getD 3 0).toNat:Int) &&& BitVec.ofInt 8 127).toNat)) * 2097152))).toNat) ||| BitVec.ofInt 32 (IntKind.u32.wrap ((IntKind.u32.wrap ((s.getD 4 0).toNat:Int)) * 268435456))).toNat))),(84,.v (.bool (decide (((s.getD 4 0).toNat:Int) ≤ 15))))] hW hE119 fun a120 hE121=>?_
 refine qaf (qab ?_)
 refine qam hE121 (b:=decide (((s.getD 4 0).toNat:Int) ≤ 15)) kz (decide_eq_false (by have:=g4; unfold oc at this; omega)) ?_
 refine wp_skip ?_
 refine qab ?_
 refine qas [(5,.v (.int .i64 (-5)))] hW hE121 fun a122 hE123=>?_
 refine wp_seq ?_
 refine wp_label ?_
 refine qab ?_
 refine qas [(2,.v (.int .u32 0)),(3,.v (.int .i64 (-5)))] hW hE123 fun a124 hE125=>?_
 refine wp_ret ?_
 refine qcK ?_
 refine qaV hE125 hW.cells (v:=.tuple #[.int .u32 0,.int .i64 (-5)]) kz ?_
 exact ⟨rfl,hW.step⟩
theorem uUvF (s:Bs) {A:Option Addr} {c:Nat} {w:World} {F:Nat → Nat → Prop} (ho:Octs w F A c s):Calls Tryd.prog 68 #[.slice A s.length c] w (qcn w (.tuple #[.int .u32 (((uvG s).1:Nat):Int),.int .i64 (uvG s).2])):=by
 unfold uvG
 by_cases l0:s.length < 1
 ·simp only [if_pos l0]; exact qit s ho (by omega)
 simp only [if_neg l0]
 by_cases h0:oc s 0 < 128
 ·simp only [if_pos h0]; exact rUv1 s ho (by omega) (oc s 0) rfl h0
 simp only [if_neg h0]
 by_cases l1:s.length < 2
 ·simp only [if_pos l1]; exact qiu s ho (by omega) (by omega)
 simp only [if_neg l1]
 by_cases h1:oc s 1 < 128
 ·simp only [if_pos h1]; exact rUv2 s ho (by omega) (oc s 0 - 128) (oc s 1) (by omega) rfl (by have:=qa6 s 0; omega) h1
 simp only [if_neg h1]
 by_cases l2:s.length < 3
 ·simp only [if_pos l2]; exact qiv s ho (by omega) (by omega) (by omega)
 simp only [if_neg l2]
 by_cases h2:oc s 2 < 128
 ·simp only [if_pos h2]; exact rUv3 s ho (by omega) (oc s 0 - 128) (oc s 1 - 128) (oc s 2) (by omega) (by omega) rfl (by have:=qa6 s 0; omega) (by have:=qa6 s 1; omega) h2
 simp only [if_neg h2]
 by_cases l3:s.length < 4
 ·simp only [if_pos l3]; exact qiw s ho (by omega) (by omega) (by omega) (by omega)
 simp only [if_neg l3]
 by_cases h3:oc s 3 < 128
 ·simp only [if_pos h3]; exact rUv4 s ho (by omega) (oc s 0 - 128) (oc s 1 - 128) (oc s 2 - 128) (oc s 3) (by omega) (by omega) (by omega) rfl (by have:=qa6 s 0; omega) (by have:=qa6 s 1; omega) (by have:=qa6 s 2; omega) h3
 simp only [if_neg h3]
 by_cases l4:s.length < 5
 ·simp only [if_pos l4]; exact qix s ho (by omega) (by omega) (by omega) (by omega) (by omega)
 simp only [if_neg l4]
 by_cases h4:oc s 4 < 16
 ·simp only [if_pos h4]; exact rUv5 s ho (by omega) (oc s 0 - 128) (oc s 1 - 128) (oc s 2 - 128) (oc s 3 - 128) (oc s 4) (by omega) (by omega) (by omega) (by omega) rfl (by have:=qa6 s 0; omega) (by have:=qa6 s 1; omega) (by have:=qa6 s 2; omega) (by have:=qa6 s 3; omega) h4
 simp only [if_neg h4]
 exact qiy s ho (by omega) (by omega) (by omega) (by omega) (by omega) (by omega)
theorem qfp (bd:Bool) (s:Bs) (hp:0 < (uvG s).2) {br:Nat} {A:Option Addr} {m c:Nat} {w:World} {F:Nat → Nat → Prop} (hst:Str w br [.slice A m c,.bool bd]) (hr:RdS w F A m c s) (hFd:∀ b o,F b o → ¬ RdM br b o) :
  Calls Tryd.prog 56 #[.pointer (some ⟨br,0,none⟩)] w (RdPostT w br F (bd,s.drop ((uvG s).2.toNat)) fun v w'=>v = .int .u32 (((uvG s).1:Nat):Int)):=by
 obtain ⟨hm,ho⟩:=hr
 subst hm
 have hle:=ho.le
 have hsm:=ho.small
 refine enter (n:=31) Tryd.func56 rfl Tryd.ntmps56 kz fun a hE=>?_
 have hW:WOk w (RdM br) w [⟨br,0,[.slice A s.length c,.bool bd],true⟩] []:=WOk.startStr hst
 have hE1:=(hE.grow ⟨br,0,[.slice A s.length c,.bool bd],true⟩).recast 0 (.v (.pointer (some ⟨br,0,none⟩))) (.p 0 0) rfl rfl (Nat.le_of_ble_eq_true (n:=1) rfl)
 refine qas [(0,.p 0 0)] hW hE1 fun a1 hE2=>?_
 refine qad [0,1,2,3,4,5,6,7,8,9] kz ?_
 refine qal [0,1,2,3] [4,5,6,7,8,9] [(0,.p 0 0),(9,.v (.slice A s.length c))] hW hE2 fun a3 hE4=>?_
 refine qak (qap hE4 (f:=68) (vs:=[.slice A s.length c]) (d:=10) kz Tryd.call68 (uUvF s (ho.move hW.step (fun b_ o_ h_ _=>hFd b_ o_ h_) (hW.immM hFd))) ?_)
 rintro e_ w6 ⟨rfl,hs5⟩
 refine ⟨_,rfl,fun a7 hE8=>?_⟩
 have hW9:=hW.next_nil hs5
 have hF10:=hW.frN hs5
 refine qal [5,6,7,8,9] [] [(0,.p 0 0),(3,.v (.int .u32 (((uvG s).1:Nat):Int))),(4,.v (.int .i64 ((uvG s).2)))] hW9 hE8 fun a11 hE12=>?_
 refine qaf (qab ?_)
 refine wp_seq ?_
 refine qas [(0,.p 0 0),(3,.v (.int .u32 (((uvG s).1:Nat):Int))),(4,.v (.int .i64 ((uvG s).2))),(14,.v (.bool (decide (((uvG s).2) ≤ 0))))] hW9 hE12 fun a13 hE14=>?_
 refine qam hE14 (b:=decide (((uvG s).2) ≤ 0)) kz (decide_eq_false (by omega)) ?_
 refine wp_skip ?_
 refine qab ?_
 refine qad [0,1,2,3,4,5,6,7,8,9] kz ?_
 refine qal [0,1,2,3,4,5] [6,7,8,9] [(3,.v (.int .u32 (((uvG s).1:Nat):Int))),(21,.p 0 0),(25,.v (.slice A s.length c)),(26,.v (.int .i64 ((uvG s).2)))] hW9 hE14 fun a15 hE16=>?_
 refine qak (qcB hE16 (t:=22) (A:=A) (m:=s.length) (cp:=c) (q:=((uvG s).2)) (d:=27) (j:=((uvG s).2.toNat)) kz (e:=5) (bytes:=1) kz (by omega) (by have:=(qeP s).1; omega) fun a17 hE18=>?_)
 refine qal [7,8] [9] [(3,.v (.int .u32 (((uvG s).1:Nat):Int))),(27,.v (.slice (cutA A c ((uvG s).2.toNat)) (s.length - ((uvG s).2.toNat)) (c - ((uvG s).2.toNat)))),(29,.p 0 0)] hW9 hE18 fun a19 hE20=>?_
 refine qak (qao hW9 hE20 (oi:=0) (cs:=[.slice (cutA A c ((uvG s).2.toNat)) (s.length - ((uvG s).2.toNat)) (c - ((uvG s).2.toNat)),.bool bd]) kz fun w21 hF22 hW23 hE24=>?_)
 refine qaf (qab ?_)
 refine qas [(2,.v (.int .u32 (((uvG s).1:Nat):Int)))] hW23 hE24 fun a25 hE26=>?_
 refine wp_ret ?_
 refine qaV hE26 hW23.cells (v:=.int .u32 (((uvG s).1:Nat):Int)) kz ?_
 exact ⟨_,_,_,_,rfl,Str.of hW23 0 rfl,RdS.dropT (j:=(uvG s).2.toNat) ⟨rfl,ho.move hW23.step (fun b_ o_ h_ _=>hFd b_ o_ h_) qaI⟩ (by have:=(qeP s).1; omega),hW23.step,rfl⟩
theorem qfq (bd:Bool) (s:Bs) (hp:(uvG s).2 ≤ 0) {br:Nat} {A:Option Addr} {m c:Nat} {w:World} {F:Nat → Nat → Prop} (hst:Str w br [.slice A m c,.bool bd]) (hr:RdS w F A m c s) (hFd:∀ b o,F b o → ¬ RdM br b o) :
  Calls Tryd.prog 56 #[.pointer (some ⟨br,0,none⟩)] w (RdPostT w br F (true,[]) fun v w'=>v = .int .u32 0):=by
 obtain ⟨hm,ho⟩:=hr
 subst hm
 have hle:=ho.le
 have hsm:=ho.small
 refine enter (n:=31) Tryd.func56 rfl Tryd.ntmps56 kz fun a hE=>?_
 have hW:WOk w (RdM br) w [⟨br,0,[.slice A s.length c,.bool bd],true⟩] []:=WOk.startStr hst
 have hE1:=(hE.grow ⟨br,0,[.slice A s.length c,.bool bd],true⟩).recast 0 (.v (.pointer (some ⟨br,0,none⟩))) (.p 0 0) rfl rfl (Nat.le_of_ble_eq_true (n:=1) rfl)
 refine qas [(0,.p 0 0)] hW hE1 fun a1 hE2=>?_
 refine qad [0,1,2,3,4,5,6,7,8,9] kz ?_
 refine qal [0,1,2,3] [4,5,6,7,8,9] [(0,.p 0 0),(9,.v (.slice A s.length c))] hW hE2 fun a3 hE4=>?_
 refine qak (qap hE4 (f:=68) (vs:=[.slice A s.length c]) (d:=10) kz Tryd.call68 (uUvF s (ho.move hW.step (fun b_ o_ h_ _=>hFd b_ o_ h_) (hW.immM hFd))) ?_)
 rintro e_ w6 ⟨rfl,hs5⟩
 refine ⟨_,rfl,fun a7 hE8=>?_⟩
 have hW9:=hW.next_nil hs5
 have hF10:=hW.frN hs5
 refine qal [5,6,7,8,9] [] [(0,.p 0 0),(3,.v (.int .u32 (((uvG s).1:Nat):Int))),(4,.v (.int .i64 ((uvG s).2)))] hW9 hE8 fun a11 hE12=>?_
 refine qaf (qab ?_)
 refine wp_seq ?_
 refine qas [(0,.p 0 0),(3,.v (.int .u32 (((uvG s).1:Nat):Int))),(4,.v (.int .i64 ((uvG s).2))),(14,.v (.bool (decide (((uvG s).2) ≤ 0))))] hW9 hE12 fun a13 hE14=>?_
 refine qaO hE14 (b:=decide (((uvG s).2) ≤ 0)) kz (decide_eq_true (by omega)) ?_
 refine qad [0,1,2,3] kz ?_
 refine qal [0,1,2] [3] [(0,.p 0 0),(17,.p 0 1)] hW9 hE14 fun a15 hE16=>?_
 refine qak (qao hW9 hE16 (oi:=0) (cs:=[.slice A s.length c,.bool true]) kz fun w17 hF18 hW19 hE20=>?_)
 refine qaf (qab ?_)
 refine qad [0,1,2,3] kz ?_
 refine qal [0,1,2] [3] [(20,.p 0 0)] hW19 hE20 fun a21 hE22=>?_
 refine qak (qao hW19 hE22 (oi:=0) (cs:=[.slice none 0 0,.bool true]) kz fun w23 hF24 hW25 hE26=>?_)
 refine qaf (qab ?_)
 refine qas [(2,.v (.int .u32 0))] hW25 hE26 fun a27 hE28=>?_
 refine wp_ret ?_
 refine qaX ?_
 refine qaV hE28 hW25.cells (v:=.int .u32 0) kz ?_
 exact ⟨_,_,_,_,rfl,Str.of hW25 0 rfl,RdS.nil_ _ _,hW25.step,rfl⟩
theorem qdB (σ:Sg) {br:Nat} {A:Option Addr} {m c:Nat} {w:World} {F:Nat → Nat → Prop} (hst:Str w br [.slice A m c,.bool σ.1]) (hr:RdS w F A m c σ.2) (hF:∀ b o,F b o → ¬ RdM br b o):Calls Tryd.prog 56 #[.pointer (some ⟨br,0,none⟩)] w (RdPostT w br F (aUv σ) fun v w'=>v = .int .u32 ((uUv σ:Nat):Int)):=by
 unfold aUv uUv
 by_cases h:(uvG σ.2).2 ≤ 0
 ·simp only [if_pos h]
  exact qfq σ.1 σ.2 h hst hr hF
 simp only [if_neg h]
 exact qfp σ.1 σ.2 (by omega) hst hr hF
theorem qcH (σ:Sg):RPrim0U Tryd.prog 56 σ (aUv σ) (.int .u32 ((uUv σ:Nat):Int)):=⟨mn_Uv.len σ,fun hst hr hF=>(qdB σ hst hr hF).mono fun e w' hp=>hp.fp fun v w' h=>h⟩
theorem qhb (l:Int) (bd:Bool) (s:Bs) (h0:0 ≤ l) (h1:l ≤ (s.length:Int)) {br:Nat} {A:Option Addr} {m c:Nat} {w:World} {F:Nat → Nat → Prop} (hst:Str w br [.slice A m c,.bool bd]) (hr:RdS w F A m c s) (hFd:∀ b o,F b o → ¬ RdM br b o) :
  Calls Tryd.prog 58 #[.pointer (some ⟨br,0,none⟩),.int .i64 l] w (RdPostT w br F (bd,s.drop l.toNat) fun v w'=>∃ A2,v = .slice A2 l.toNat l.toNat ∧ Octs w' F A2 l.toNat (s.take l.toNat)):=by
 obtain ⟨hm,ho⟩:=hr
 subst hm
 have hle:=ho.le
 have hsm:=ho.small
 refine enter (n:=40) Tryd.func58 rfl Tryd.ntmps58 kz fun a hE=>?_
 have hW:WOk w (RdM br) w [⟨br,0,[.slice A s.length c,.bool bd],true⟩] []:=WOk.startStr hst
 have hE1:=(hE.grow ⟨br,0,[.slice A s.length c,.bool bd],true⟩).recast 0 (.v (.pointer (some ⟨br,0,none⟩))) (.p 0 0) rfl rfl (Nat.le_of_ble_eq_true (n:=1) rfl)
 refine qas [(0,.p 0 0),(1,.v (.int .i64 l))] hW hE1 fun a1 hE2=>?_
 refine wp_seq ?_
 refine qad [0,1,2,3,4,5,6,7,8,9,10] kz ?_
 refine qal [0,1,2,3,4,5,6,7] [8,9,10] [(0,.p 0 0),(1,.v (.int .i64 l)),(13,.v (.bool (decide (((s.length:Nat):Int) < l))))] hW hE2 fun a3 hE4=>?_
 have hc5:(decide (((s.length:Nat):Int) < l)) = false:=decide_eq_false (by omega)
 have hE6:=hE4.cast (env':=[(0,.p 0 0),(1,.v (.int .i64 l)),(13,.v (.bool false))]) (by rw [hc5])
 refine qal [8,9,10] [] [(0,.p 0 0),(1,.v (.int .i64 l)),(16,.v (.bool (decide (l < 0))))] hW hE6 fun a7 hE8=>?_
 refine qaf (qab ?_)
 refine qam hE8 (b:=decide (l < 0)) kz (decide_eq_false (by omega)) ?_
 refine wp_skip ?_
 refine qab ?_
 refine qad [0,1,2,3,4,5,6,7] kz ?_
 refine qal [0,1,2,3,4,5] [6,7] [(0,.p 0 0),(1,.v (.int .i64 l)),(26,.v (.slice A s.length c)),(27,.v (.int .i64 l)),(28,.v (.int .i64 l))] hW hE8 fun a9 hE10=>?_
 refine qak (qgq hE10 (t:=22) (A:=A) (m:=s.length) (cp:=c) (k:=.i64) (q:=l) (d:=29) (j:=l.toNat) kz (e:=5) (bytes:=1) kz (by omega) (by omega) fun a11 hE12=>?_)
 refine qal [7] [] [(0,.p 0 0),(1,.v (.int .i64 l)),(5,.v (.slice A l.toNat l.toNat))] hW hE12 fun a13 hE14=>?_
 refine qaf (qab ?_)
 refine qad [0,1,2,3,4,5,6,7,8,9] kz ?_
 refine qal [0,1,2,3,4,5] [6,7,8,9] [(5,.v (.slice A l.toNat l.toNat)),(30,.p 0 0),(34,.v (.slice A s.length c)),(35,.v (.int .i64 l))] hW hE14 fun a15 hE16=>?_
 refine qak (qcB hE16 (t:=22) (A:=A) (m:=s.length) (cp:=c) (q:=l) (d:=36) (j:=l.toNat) kz (e:=5) (bytes:=1) kz (by omega) (by omega) fun a17 hE18=>?_)
 refine qal [7,8] [9] [(5,.v (.slice A l.toNat l.toNat)),(36,.v (.slice (cutA A c l.toNat) (s.length - l.toNat) (c - l.toNat))),(38,.p 0 0)] hW hE18 fun a19 hE20=>?_
 refine qak (qao hW hE20 (oi:=0) (cs:=[.slice (cutA A c l.toNat) (s.length - l.toNat) (c - l.toNat),.bool bd]) kz fun w21 hF22 hW23 hE24=>?_)
 refine qaf (qab ?_)
 refine qas [(4,.v (.slice A l.toNat l.toNat))] hW23 hE24 fun a25 hE26=>?_
 refine wp_ret ?_
 refine qaV hE26 hW23.cells (v:=.slice A l.toNat l.toNat) kz ?_
 exact ⟨_,_,_,_,rfl,Str.of hW23 0 rfl,RdS.dropT (j:=l.toNat) ⟨rfl,ho.move hW23.step (fun b_ o_ h_ _=>hFd b_ o_ h_) qaI⟩ (by omega),hW23.step,A,rfl,(ho.move hW23.step (fun b_ o_ h_ _=>hFd b_ o_ h_) qaI).cutS (by omega)⟩
theorem qhc (l:Int) (bd:Bool) (s:Bs) (h1:(s.length:Int) < l) {br:Nat} {A:Option Addr} {m c:Nat} {w:World} {F:Nat → Nat → Prop} (hst:Str w br [.slice A m c,.bool bd]) (hr:RdS w F A m c s) (hFd:∀ b o,F b o → ¬ RdM br b o) :
  Calls Tryd.prog 58 #[.pointer (some ⟨br,0,none⟩),.int .i64 l] w (RdPostT w br F (true,[]) fun v w'=>v = .slice none 0 0):=by
 obtain ⟨hm,ho⟩:=hr
 subst hm
 have hle:=ho.le
 have hsm:=ho.small
 refine enter (n:=40) Tryd.func58 rfl Tryd.ntmps58 kz fun a hE=>?_
 have hW:WOk w (RdM br) w [⟨br,0,[.slice A s.length c,.bool bd],true⟩] []:=WOk.startStr hst
 have hE1:=(hE.grow ⟨br,0,[.slice A s.length c,.bool bd],true⟩).recast 0 (.v (.pointer (some ⟨br,0,none⟩))) (.p 0 0) rfl rfl (Nat.le_of_ble_eq_true (n:=1) rfl)
 refine qas [(0,.p 0 0),(1,.v (.int .i64 l))] hW hE1 fun a1 hE2=>?_
 refine wp_seq ?_
 refine qad [0,1,2,3,4,5,6,7,8,9,10] kz ?_
 refine qal [0,1,2,3,4,5,6,7] [8,9,10] [(0,.p 0 0),(1,.v (.int .i64 l)),(13,.v (.bool (decide (((s.length:Nat):Int) < l))))] hW hE2 fun a3 hE4=>?_
 have hc5:(decide (((s.length:Nat):Int) < l)) = true:=decide_eq_true (by omega)
 have hE6:=hE4.cast (env':=[(0,.p 0 0),(1,.v (.int .i64 l)),(13,.v (.bool true))]) (by rw [hc5])
 refine qal [8,9,10] [] [(0,.p 0 0),(1,.v (.int .i64 l)),(16,.v (.bool true))] hW hE6 fun a7 hE8=>?_
 refine qaf (qab ?_)
 refine qaO hE8 (b:=true) kz rfl ?_
 refine qad [0,1,2,3] kz ?_
 refine qal [0,1,2] [3] [(0,.p 0 0),(19,.p 0 1)] hW hE8 fun a9 hE10=>?_
 refine qak (qao hW hE10 (oi:=0) (cs:=[.slice A s.length c,.bool true]) kz fun w11 hF12 hW13 hE14=>?_)
 refine qaf (qab ?_)
 refine qad [0,1,2,3] kz ?_
 refine qal [0,1,2] [3] [(22,.p 0 0)] hW13 hE14 fun a15 hE16=>?_
 refine qak (qao hW13 hE16 (oi:=0) (cs:=[.slice none 0 0,.bool true]) kz fun w17 hF18 hW19 hE20=>?_)
 refine qaf (qab ?_)
 refine qas [(4,.v (.slice none 0 0))] hW19 hE20 fun a21 hE22=>?_
 refine wp_ret ?_
 refine qaX ?_
 refine qaV hE22 hW19.cells (v:=.slice none 0 0) kz ?_
 exact ⟨_,_,_,_,rfl,Str.of hW19 0 rfl,RdS.nil_ _ _,hW19.step,rfl⟩
theorem qhd (l:Int) (bd:Bool) (s:Bs) (h0:l < 0) {br:Nat} {A:Option Addr} {m c:Nat} {w:World} {F:Nat → Nat → Prop} (hst:Str w br [.slice A m c,.bool bd]) (hr:RdS w F A m c s) (hFd:∀ b o,F b o → ¬ RdM br b o) :
  Calls Tryd.prog 58 #[.pointer (some ⟨br,0,none⟩),.int .i64 l] w (RdPostT w br F (true,[]) fun v w'=>v = .slice none 0 0):=by
 obtain ⟨hm,ho⟩:=hr
 subst hm
 have hle:=ho.le
 have hsm:=ho.small
 refine enter (n:=40) Tryd.func58 rfl Tryd.ntmps58 kz fun a hE=>?_
 have hW:WOk w (RdM br) w [⟨br,0,[.slice A s.length c,.bool bd],true⟩] []:=WOk.startStr hst
 have hE1:=(hE.grow ⟨br,0,[.slice A s.length c,.bool bd],true⟩).recast 0 (.v (.pointer (some ⟨br,0,none⟩))) (.p 0 0) rfl rfl (Nat.le_of_ble_eq_true (n:=1) rfl)
 refine qas [(0,.p 0 0),(1,.v (.int .i64 l))] hW hE1 fun a1 hE2=>?_
 refine wp_seq ?_
 refine qad [0,1,2,3,4,5,6,7,8,9,10] kz ?_
 refine qal [0,1,2,3,4,5,6,7] [8,9,10] [(0,.p 0 0),(1,.v (.int .i64 l)),(13,.v (.bool (decide (((s.length:Nat):Int) < l))))] hW hE2 fun a3 hE4=>?_
 have hc5:(decide (((s.length:Nat):Int) < l)) = false:=decide_eq_false (by omega)
 have hE6:=hE4.cast (env':=[(0,.p 0 0),(1,.v (.int .i64 l)),(13,.v (.bool false))]) (by rw [hc5])
 refine qal [8,9,10] [] [(0,.p 0 0),(1,.v (.int .i64 l)),(16,.v (.bool (decide (l < 0))))] hW hE6 fun a7 hE8=>?_
 refine qaf (qab ?_)
 refine qaO hE8 (b:=decide (l < 0)) kz (decide_eq_true (by omega)) ?_
 refine qad [0,1,2,3] kz ?_
 refine qal [0,1,2] [3] [(0,.p 0 0),(19,.p 0 1)] hW hE8 fun a9 hE10=>?_
 refine qak (qao hW hE10 (oi:=0) (cs:=[.slice A s.length c,.bool true]) kz fun w11 hF12 hW13 hE14=>?_)
 refine qaf (qab ?_)
 refine qad [0,1,2,3] kz ?_
 refine qal [0,1,2] [3] [(22,.p 0 0)] hW13 hE14 fun a15 hE16=>?_
 refine qak (qao hW13 hE16 (oi:=0) (cs:=[.slice none 0 0,.bool true]) kz fun w17 hF18 hW19 hE20=>?_)
 refine qaf (qab ?_)
 refine qas [(4,.v (.slice none 0 0))] hW19 hE20 fun a21 hE22=>?_
 refine wp_ret ?_
 refine qaX ?_
 refine qaV hE22 hW19.cells (v:=.slice none 0 0) kz ?_
 exact ⟨_,_,_,_,rfl,Str.of hW19 0 rfl,RdS.nil_ _ _,hW19.step,rfl⟩
theorem qeS (l:Int) (σ:Sg) {br:Nat} {A:Option Addr} {m c:Nat} {w:World} {F:Nat → Nat → Prop} (hst:Str w br [.slice A m c,.bool σ.1]) (hr:RdS w F A m c σ.2) (hFd:∀ b o,F b o → ¬ RdM br b o) :
  Calls Tryd.prog 58 #[.pointer (some ⟨br,0,none⟩),.int .i64 l] w (RdPostT w br F (aSp l σ) fun v w'=>∃ A2 c2,v = .slice A2 (uSp l σ).length c2 ∧ Octs w' F A2 c2 (uSp l σ)):=by
 unfold aSp uSp
 by_cases h0:l < 0
 ·simp only [if_pos (Or.inr h0:(σ.2.length:Int) < l ∨ l < 0)]
  exact (qhd l σ.1 σ.2 h0 hst hr hFd).mono fun e w' hp=>hp.q fun v w' h=>⟨none,0,h,Octs.nil _ _⟩
 by_cases h1:(σ.2.length:Int) < l
 ·simp only [if_pos (Or.inl h1:(σ.2.length:Int) < l ∨ l < 0)]
  exact (qhc l σ.1 σ.2 h1 hst hr hFd).mono fun e w' hp=>hp.q fun v w' h=>⟨none,0,h,Octs.nil _ _⟩
 simp only [if_neg (fun h=>h.elim h1 h0:¬ ((σ.2.length:Int) < l ∨ l < 0))]
 refine (qhb l σ.1 σ.2 (by omega) (by omega) hst hr hFd).mono fun e w' hp=>hp.q fun v w' h=>?_
 obtain ⟨A2,rfl,h⟩:=h
 exact ⟨A2,l.toNat,by rw [List.length_take,Nat.min_eq_left (by omega)],h⟩
theorem qeT (X:Bs) {A:Option Addr} {c:Nat} {w:World} {F:Nat → Nat → Prop} (ho:Octs w F A c X):Calls Tryd.prog 57 #[.slice A X.length c] w (qcn w (.string (bs X))):=by
 refine enter (n:=5) Tryd.func57 rfl Tryd.ntmps57 kz fun a hE=>?_
 have hW:=WOk.start w Nil
 refine qas [(0,.v (.slice A X.length c))] hW hE fun a1 hE2=>?_
 refine qad [0,1,2] kz ?_
 refine qal [0] [1,2] [(3,.v (.slice A X.length c))] hW hE2 fun a3 hE4=>?_
 refine qak (qc1 hE4 (src:=22) (dst:=9) (e:=5) (d:=4) kz kz kz kz (ho.move hW.step nilM hW.imm) fun a5 hE6=>?_)
 refine qal [2] [] [(2,.v (.string (bs X)))] hW hE6 fun a7 hE8=>?_
 refine qaf (qab ?_)
 refine wp_ret ?_
 refine qaV hE8 hW.cells (v:=.string (bs X)) kz ?_
 exact ⟨rfl,hW.step⟩
theorem qhV (σ:Sg)  {br:Nat} {A:Option Addr} {m c:Nat} {w:World} {F:Nat → Nat → Prop} (hst:Str w br [.slice A m c,.bool σ.1]) (hr:RdS w F A m c σ.2) (hFd:∀ b o,F b o → ¬ RdM br b o) :
  Calls Tryd.prog 51 #[.pointer (some ⟨br,0,none⟩)] w (RdPostT w br (Fp F w) (aN 8 σ) fun v w'=>v = .int .i64 (uI64 σ)):=by
 refine enter (n:=6) Tryd.func51 rfl Tryd.ntmps51 kz fun a hE=>?_
 have hW:WOk w (RdM br) w [⟨br,0,[.slice A m c,.bool σ.1],true⟩] []:=WOk.startStr hst
 have hE1:=(hE.grow ⟨br,0,[.slice A m c,.bool σ.1],true⟩).recast 0 (.v (.pointer (some ⟨br,0,none⟩))) (.p 0 0) rfl rfl (Nat.le_of_ble_eq_true (n:=1) rfl)
 refine qas [(0,.p 0 0)] hW hE1 fun a1 hE2=>?_
 refine qad [0,1,2,3] kz ?_
 refine qal [0] [1,2,3] [(3,.p 0 0)] hW hE2 fun a3 hE4=>?_
 refine qak (qap hE4 (f:=61) (vs:=[.pointer (some ⟨br,0,none⟩)]) (d:=4) kz Tryd.call61 ((qU64 σ).go (Str.of hW 0 rfl) (hr.move hW.step (fun b_ o_ h_ _=>hFd b_ o_ h_) (hW.immM hFd)) (qbw 0 rfl)) ?_)
 rintro e_ w5 ⟨_,A6,n7,c8,rfl,hs9,hr10,hst11,rfl⟩
 obtain ⟨hW12,hF13,hl17⟩:=hW.wrote 0 [⟨br,0,[.slice A6 n7 c8,.bool ((aN 8 σ).1)],true⟩] rfl hst11 hs9
 have hr21:=hr10.move (Step.refl _ Nil) nilM hl17
 refine ⟨_,rfl,fun a14 hE15=>?_⟩
 have hE16:EnvOk 6 [⟨br,0,[.slice A6 n7 c8,.bool ((aN 8 σ).1)],true⟩] [(4,.v (.int .u64 (uU64 σ))),(3,.p 0 0)] _:=hE15.places (⟨rfl,rfl,trivial⟩)
 refine qal [2,3] [] [(2,.v (.int .i64 (IntKind.i64.wrap (uU64 σ))))] hW12 hE16 fun a22 hE23=>?_
 refine qaf (qab ?_)
 refine wp_ret ?_
 refine qaV hE23 hW12.cells (v:=.int .i64 (IntKind.i64.wrap (uU64 σ))) kz ?_
 refine ⟨_,_,_,_,rfl,Str.of hW12 0 rfl,(hr21.move (Step.refl _ Nil) nilM qbs),hW12.step,by unfold uI64 uU64; split <;> first | rfl | rw [i64_u64b]⟩
theorem qhe (σ:Sg)  {br:Nat} {A:Option Addr} {m c:Nat} {w:World} {F:Nat → Nat → Prop} (hst:Str w br [.slice A m c,.bool σ.1]) (hr:RdS w F A m c σ.2) (hFd:∀ b o,F b o → ¬ RdM br b o) :
  Calls Tryd.prog 49 #[.pointer (some ⟨br,0,none⟩)] w (RdPostT w br (Fp F w) (aStr σ) fun v w'=>v = .string (bs (uStr σ))):=by
 refine enter (n:=11) Tryd.func49 rfl Tryd.ntmps49 kz fun a hE=>?_
 have hW:WOk w (RdM br) w [⟨br,0,[.slice A m c,.bool σ.1],true⟩] []:=WOk.startStr hst
 have hE1:=(hE.grow ⟨br,0,[.slice A m c,.bool σ.1],true⟩).recast 0 (.v (.pointer (some ⟨br,0,none⟩))) (.p 0 0) rfl rfl (Nat.le_of_ble_eq_true (n:=1) rfl)
 refine qas [(0,.p 0 0)] hW hE1 fun a1 hE2=>?_
 refine qad [0,1,2] kz ?_
 refine qal [0] [1,2] [(0,.p 0 0),(4,.p 0 0)] hW hE2 fun a3 hE4=>?_
 refine qak (qap hE4 (f:=59) (vs:=[.pointer (some ⟨br,0,none⟩)]) (d:=5) kz Tryd.call59 ((qez σ).go (Str.of hW 0 rfl) (hr.move hW.step (fun b_ o_ h_ _=>hFd b_ o_ h_) (hW.immM hFd)) (qbw 0 rfl)) ?_)
 rintro e_ w5 ⟨_,A6,n7,c8,rfl,hs9,hr10,hst11,rfl⟩
 obtain ⟨hW12,hF13,hl17⟩:=hW.wrote 0 [⟨br,0,[.slice A6 n7 c8,.bool ((aN 2 σ).1)],true⟩] rfl hst11 hs9
 have hr21:=hr10.move (Step.refl _ Nil) nilM hl17
 refine ⟨_,rfl,fun a14 hE15=>?_⟩
 have hE16:EnvOk 11 [⟨br,0,[.slice A6 n7 c8,.bool ((aN 2 σ).1)],true⟩] [(5,.v (.int .i16 (uI16 σ))),(0,.p 0 0),(4,.p 0 0)] _:=hE15.places (⟨rfl,rfl,trivial⟩)
 refine qal [2] [] [(0,.p 0 0),(3,.v (.int .i16 (uI16 σ)))] hW12 hE16 fun a22 hE23=>?_
 refine qaf (qab ?_)
 refine qad [0,1,2,3,4,5] kz ?_
 refine qal [0,1,2] [3,4,5] [(6,.p 0 0),(8,.v (.int .i64 (IntKind.i64.wrap (uI16 σ))))] hW12 hE23 fun a24 hE25=>?_
 have he39:IntKind.i64.wrap (uI16 σ) = uI16 σ:=by have:=qbG σ; have:=qc2 σ; simp only [i16w,i32w,i64w]; omega
 have hE40:=EnvOk.pick hE25 (ks:=[6,8]) (env':=[(6,.p 0 0),(8,.v (.int .i64 (IntKind.i64.wrap (uI16 σ))))]) kz
 have hE41:=hE40.cast (env':=[(6,.p 0 0),(8,.v (.int .i64 (uI16 σ)))]) (by rw [he39])
 refine qak (qap hE41 (f:=58) (vs:=[.pointer (some ⟨br,0,none⟩),.int .i64 (uI16 σ)]) (d:=9) kz Tryd.call58 (qeS (uI16 σ) (aN 2 σ) (Str.of hW12 0 rfl) hr21 (qbw 0 rfl)) ?_)
 rintro e_ w26 ⟨_,A27,n28,c29,rfl,hs30,hr31,hst32,⟨A42,c43,rfl,ho44⟩⟩
 obtain ⟨hW33,hF34,hl38⟩:=hW12.wrote 0 [⟨br,0,[.slice A27 n28 c29,.bool ((aSp (uI16 σ) (aN 2 σ)).1)],true⟩] rfl hst32 hs30
 have hr45:=hr31.move (Step.refl _ Nil) nilM (fun b_ o_ h_ _=>hF34.to b_ o_ h_)
 refine ⟨_,rfl,fun a35 hE36=>?_⟩
 have hE37:EnvOk 11 [⟨br,0,[.slice A27 n28 c29,.bool ((aSp (uI16 σ) (aN 2 σ)).1)],true⟩] [(9,.v (.slice A42 ((uSp (uI16 σ) (aN 2 σ)).length) c43)),(6,.p 0 0),(8,.v (.int .i64 (uI16 σ)))] _:=hE36.places (⟨rfl,rfl,trivial⟩)
 have ho46:=ho44.move (Step.refl _ Nil) nilM (fun b_ o_ h_ _=>hF34.to b_ o_ h_)
 refine qak (qc1 hE37 (src:=22) (dst:=9) (e:=5) (d:=10) kz kz kz kz ho46 fun a47 hE48=>?_)
 refine qal [5] [] [(2,.v (.string (bs (uSp (uI16 σ) (aN 2 σ)))))] hW33 hE48 fun a49 hE50=>?_
 refine qaf (qab ?_)
 refine wp_ret ?_
 refine qaV hE50 hW33.cells (v:=.string (bs (uSp (uI16 σ) (aN 2 σ)))) kz ?_
 refine ⟨_,_,_,_,rfl,Str.of hW33 0 rfl,(hr45.move (Step.refl _ Nil) nilM qbs),hW33.step,rfl⟩
theorem qei (σ:Sg)  {br:Nat} {A:Option Addr} {m c:Nat} {w:World} {F:Nat → Nat → Prop} (hst:Str w br [.slice A m c,.bool σ.1]) (hr:RdS w F A m c σ.2) (hFd:∀ b o,F b o → ¬ RdM br b o) :
  Calls Tryd.prog 48 #[.pointer (some ⟨br,0,none⟩)] w (RdPostT w br (Fp F w) (qfl σ) fun v w'=>v = .string (bs (qfk σ))):=by
 refine enter (n:=12) Tryd.func48 rfl Tryd.ntmps48 kz fun a hE=>?_
 have hW:WOk w (RdM br) w [⟨br,0,[.slice A m c,.bool σ.1],true⟩] []:=WOk.startStr hst
 have hE1:=(hE.grow ⟨br,0,[.slice A m c,.bool σ.1],true⟩).recast 0 (.v (.pointer (some ⟨br,0,none⟩))) (.p 0 0) rfl rfl (Nat.le_of_ble_eq_true (n:=1) rfl)
 refine qas [(0,.p 0 0)] hW hE1 fun a1 hE2=>?_
 refine qad [0,1,2,3,4] kz ?_
 refine qal [0] [1,2,3,4] [(0,.p 0 0),(4,.p 0 0)] hW hE2 fun a3 hE4=>?_
 refine qak (qap hE4 (f:=56) (vs:=[.pointer (some ⟨br,0,none⟩)]) (d:=5) kz Tryd.call56 ((qcH σ).go (Str.of hW 0 rfl) (hr.move hW.step (fun b_ o_ h_ _=>hFd b_ o_ h_) (hW.immM hFd)) (qbw 0 rfl)) ?_)
 rintro e_ w5 ⟨_,A6,n7,c8,rfl,hs9,hr10,hst11,rfl⟩
 obtain ⟨hW12,hF13,hl17⟩:=hW.wrote 0 [⟨br,0,[.slice A6 n7 c8,.bool ((aUv σ).1)],true⟩] rfl hst11 hs9
 have hr21:=hr10.move (Step.refl _ Nil) nilM hl17
 refine ⟨_,rfl,fun a14 hE15=>?_⟩
 have hE16:EnvOk 12 [⟨br,0,[.slice A6 n7 c8,.bool ((aUv σ).1)],true⟩] [(5,.v (.int .u32 ((uUv σ:Nat):Int))),(0,.p 0 0),(4,.p 0 0)] _:=hE15.places (⟨rfl,rfl,trivial⟩)
 refine qal [2,3,4] [] [(0,.p 0 0),(3,.v (.int .i64 (IntKind.i64.wrap ((IntKind.i64.wrap ((uUv σ:Nat):Int)) - 1))))] hW12 hE16 fun a22 hE23=>?_
 refine qaf (qab ?_)
 refine qad [0,1,2,3,4] kz ?_
 refine qal [0,1] [2,3,4] [(8,.p 0 0),(9,.v (.int .i64 (IntKind.i64.wrap ((IntKind.i64.wrap ((uUv σ:Nat):Int)) - 1))))] hW12 hE23 fun a24 hE25=>?_
 have he39:IntKind.i64.wrap ((IntKind.i64.wrap ((uUv σ:Nat):Int)) - 1) = ((uUv σ:Nat):Int) - 1:=by have:=qbG σ; have:=qc2 σ; simp only [i16w,i32w,i64w]; omega
 have hE40:=EnvOk.pick hE25 (ks:=[8,9]) (env':=[(8,.p 0 0),(9,.v (.int .i64 (IntKind.i64.wrap ((IntKind.i64.wrap ((uUv σ:Nat):Int)) - 1))))]) kz
 have hE41:=hE40.cast (env':=[(8,.p 0 0),(9,.v (.int .i64 (((uUv σ:Nat):Int) - 1)))]) (by rw [he39])
 refine qak (qap hE41 (f:=58) (vs:=[.pointer (some ⟨br,0,none⟩),.int .i64 (((uUv σ:Nat):Int) - 1)]) (d:=10) kz Tryd.call58 (qeS (((uUv σ:Nat):Int) - 1) (aUv σ) (Str.of hW12 0 rfl) hr21 (qbw 0 rfl)) ?_)
 rintro e_ w26 ⟨_,A27,n28,c29,rfl,hs30,hr31,hst32,⟨A42,c43,rfl,ho44⟩⟩
 obtain ⟨hW33,hF34,hl38⟩:=hW12.wrote 0 [⟨br,0,[.slice A27 n28 c29,.bool ((aSp (((uUv σ:Nat):Int) - 1) (aUv σ)).1)],true⟩] rfl hst32 hs30
 have hr45:=hr31.move (Step.refl _ Nil) nilM (fun b_ o_ h_ _=>hF34.to b_ o_ h_)
 refine ⟨_,rfl,fun a35 hE36=>?_⟩
 have hE37:EnvOk 12 [⟨br,0,[.slice A27 n28 c29,.bool ((aSp (((uUv σ:Nat):Int) - 1) (aUv σ)).1)],true⟩] [(10,.v (.slice A42 ((uSp (((uUv σ:Nat):Int) - 1) (aUv σ)).length) c43)),(8,.p 0 0),(9,.v (.int .i64 (((uUv σ:Nat):Int) - 1)))] _:=hE36.places (⟨rfl,rfl,trivial⟩)
 have ho46:=ho44.move (Step.refl _ Nil) nilM (fun b_ o_ h_ _=>hF34.to b_ o_ h_)
 refine qak (qc1 hE37 (src:=22) (dst:=9) (e:=5) (d:=11) kz kz kz kz ho46 fun a47 hE48=>?_)
 refine qal [4] [] [(2,.v (.string (bs (uSp (((uUv σ:Nat):Int) - 1) (aUv σ)))))] hW33 hE48 fun a49 hE50=>?_
 refine qaf (qab ?_)
 refine wp_ret ?_
 refine qaV hE50 hW33.cells (v:=.string (bs (uSp (((uUv σ:Nat):Int) - 1) (aUv σ)))) kz ?_
 refine ⟨_,_,_,_,rfl,Str.of hW33 0 rfl,(hr45.move (Step.refl _ Nil) nilM qbs),hW33.step,rfl⟩
theorem qdM (σ:Sg) (hn:uI16 σ < 0) {br:Nat} {A:Option Addr} {m c:Nat} {w:World} {F:Nat → Nat → Prop} (hst:Str w br [.slice A m c,.bool σ.1]) (hr:RdS w F A m c σ.2) (hFd:∀ b o,F b o → ¬ RdM br b o) :
  Calls Tryd.prog 40 #[.pointer (some ⟨br,0,none⟩)] w (RdPostT w br (Fp F w) (aN 2 σ) fun v w'=>∃ A2,v = .pointer A2 ∧ qcR A2 ([]) w' (Fp F w) ∧ A2.isNone = true):=by
 refine enter (n:=14) Tryd.func40 rfl Tryd.ntmps40 kz fun a hE=>?_
 have hW:WOk w (RdM br) w [⟨br,0,[.slice A m c,.bool σ.1],true⟩] []:=WOk.startStr hst
 have hE1:=(hE.grow ⟨br,0,[.slice A m c,.bool σ.1],true⟩).recast 0 (.v (.pointer (some ⟨br,0,none⟩))) (.p 0 0) rfl rfl (Nat.le_of_ble_eq_true (n:=1) rfl)
 refine qas [(0,.p 0 0)] hW hE1 fun a1 hE2=>?_
 refine qad [0,1,2] kz ?_
 refine qal [0] [1,2] [(0,.p 0 0),(5,.p 0 0)] hW hE2 fun a3 hE4=>?_
 refine qak (qap hE4 (f:=59) (vs:=[.pointer (some ⟨br,0,none⟩)]) (d:=6) kz Tryd.call59 ((qez σ).go (Str.of hW 0 rfl) (hr.move hW.step (fun b_ o_ h_ _=>hFd b_ o_ h_) (hW.immM hFd)) (qbw 0 rfl)) ?_)
 rintro e_ w5 ⟨_,A6,n7,c8,rfl,hs9,hr10,hst11,rfl⟩
 obtain ⟨hW12,hF13,hl17⟩:=hW.wrote 0 [⟨br,0,[.slice A6 n7 c8,.bool ((aN 2 σ).1)],true⟩] rfl hst11 hs9
 have hr21:=hr10.move (Step.refl _ Nil) nilM hl17
 refine ⟨_,rfl,fun a14 hE15=>?_⟩
 have hE16:EnvOk 14 [⟨br,0,[.slice A6 n7 c8,.bool ((aN 2 σ).1)],true⟩] [(6,.v (.int .i16 (uI16 σ))),(0,.p 0 0),(5,.p 0 0)] _:=hE15.places (⟨rfl,rfl,trivial⟩)
 refine qal [2] [] [(0,.p 0 0),(3,.v (.int .i16 (uI16 σ)))] hW12 hE16 fun a22 hE23=>?_
 refine qaf (qab ?_)
 refine wp_seq ?_
 refine qas [(0,.p 0 0),(3,.v (.int .i16 (uI16 σ))),(8,.v (.bool (decide ((uI16 σ) < 0))))] hW12 hE23 fun a24 hE25=>?_
 refine qaO hE25 (b:=decide ((uI16 σ) < 0)) kz (decide_eq_true (by have:=qbG σ; first | omega | (simp only [i64w]; omega))) ?_
 refine qas [(2,.v (.pointer none))] hW12 hE25 fun a26 hE27=>?_
 refine wp_ret ?_
 refine qaX ?_
 refine qaV hE27 hW12.cells (v:=.pointer none) kz ?_
 refine ⟨_,_,_,_,rfl,Str.of hW12 0 rfl,(hr21.move (Step.refl _ Nil) nilM qbs),hW12.step,_,rfl,(fun ad h_=>by cases h_),rfl⟩
theorem qdN (σ:Sg) (hn:¬ (uI16 σ < 0)) {br:Nat} {A:Option Addr} {m c:Nat} {w:World} {F:Nat → Nat → Prop} (hst:Str w br [.slice A m c,.bool σ.1]) (hr:RdS w F A m c σ.2) (hFd:∀ b o,F b o → ¬ RdM br b o) :
  Calls Tryd.prog 40 #[.pointer (some ⟨br,0,none⟩)] w (RdPostT w br (Fp F w) (aSp (uI16 σ) (aN 2 σ)) fun v w'=>∃ A2,v = .pointer A2 ∧ qcR A2 (uSp (uI16 σ) (aN 2 σ)) w' (Fp F w) ∧ A2.isNone = false):=by
 refine enter (n:=14) Tryd.func40 rfl Tryd.ntmps40 kz fun a hE=>?_
 have hW:WOk w (RdM br) w [⟨br,0,[.slice A m c,.bool σ.1],true⟩] []:=WOk.startStr hst
 have hE1:=(hE.grow ⟨br,0,[.slice A m c,.bool σ.1],true⟩).recast 0 (.v (.pointer (some ⟨br,0,none⟩))) (.p 0 0) rfl rfl (Nat.le_of_ble_eq_true (n:=1) rfl)
 refine qas [(0,.p 0 0)] hW hE1 fun a1 hE2=>?_
 refine qad [0,1,2] kz ?_
 refine qal [0] [1,2] [(0,.p 0 0),(5,.p 0 0)] hW hE2 fun a3 hE4=>?_
 refine qak (qap hE4 (f:=59) (vs:=[.pointer (some ⟨br,0,none⟩)]) (d:=6) kz Tryd.call59 ((qez σ).go (Str.of hW 0 rfl) (hr.move hW.step (fun b_ o_ h_ _=>hFd b_ o_ h_) (hW.immM hFd)) (qbw 0 rfl)) ?_)
 rintro e_ w5 ⟨_,A6,n7,c8,rfl,hs9,hr10,hst11,rfl⟩
 obtain ⟨hW12,hF13,hl17⟩:=hW.wrote 0 [⟨br,0,[.slice A6 n7 c8,.bool ((aN 2 σ).1)],true⟩] rfl hst11 hs9
 have hr21:=hr10.move (Step.refl _ Nil) nilM hl17
 refine ⟨_,rfl,fun a14 hE15=>?_⟩
 have hE16:EnvOk 14 [⟨br,0,[.slice A6 n7 c8,.bool ((aN 2 σ).1)],true⟩] [(6,.v (.int .i16 (uI16 σ))),(0,.p 0 0),(5,.p 0 0)] _:=hE15.places (⟨rfl,rfl,trivial⟩)
 refine qal [2] [] [(0,.p 0 0),(3,.v (.int .i16 (uI16 σ)))] hW12 hE16 fun a22 hE23=>?_
 refine qaf (qab ?_)
 refine wp_seq ?_
 refine qas [(0,.p 0 0),(3,.v (.int .i16 (uI16 σ))),(8,.v (.bool (decide ((uI16 σ) < 0))))] hW12 hE23 fun a24 hE25=>?_
 refine qam hE25 (b:=decide ((uI16 σ) < 0)) kz (decide_eq_false (by have:=qbG σ; first | omega | (simp only [i64w]; omega))) ?_
 refine wp_skip ?_
 refine qab ?_
 refine qad [0,1,2,3,4,5,6] kz ?_
 refine qal [0,1,2] [3,4,5,6] [(9,.p 0 0),(11,.v (.int .i64 (IntKind.i64.wrap (uI16 σ))))] hW12 hE25 fun a26 hE27=>?_
 have he41:IntKind.i64.wrap (uI16 σ) = uI16 σ:=by have:=qbG σ; have:=qc2 σ; simp only [i16w,i32w,i64w]; omega
 have hE42:=EnvOk.pick hE27 (ks:=[9,11]) (env':=[(9,.p 0 0),(11,.v (.int .i64 (IntKind.i64.wrap (uI16 σ))))]) kz
 have hE43:=hE42.cast (env':=[(9,.p 0 0),(11,.v (.int .i64 (uI16 σ)))]) (by rw [he41])
 refine qak (qap hE43 (f:=58) (vs:=[.pointer (some ⟨br,0,none⟩),.int .i64 (uI16 σ)]) (d:=12) kz Tryd.call58 (qeS (uI16 σ) (aN 2 σ) (Str.of hW12 0 rfl) hr21 (qbw 0 rfl)) ?_)
 rintro e_ w28 ⟨_,A29,n30,c31,rfl,hs32,hr33,hst34,⟨A44,c45,rfl,ho46⟩⟩
 obtain ⟨hW35,hF36,hl40⟩:=hW12.wrote 0 [⟨br,0,[.slice A29 n30 c31,.bool ((aSp (uI16 σ) (aN 2 σ)).1)],true⟩] rfl hst34 hs32
 have hr47:=hr33.move (Step.refl _ Nil) nilM (fun b_ o_ h_ _=>hF36.to b_ o_ h_)
 refine ⟨_,rfl,fun a37 hE38=>?_⟩
 have hE39:EnvOk 14 [⟨br,0,[.slice A29 n30 c31,.bool ((aSp (uI16 σ) (aN 2 σ)).1)],true⟩] [(12,.v (.slice A44 ((uSp (uI16 σ) (aN 2 σ)).length) c45)),(9,.p 0 0),(11,.v (.int .i64 (uI16 σ)))] _:=hE38.places (⟨rfl,rfl,trivial⟩)
 have ho48:=ho46.move (Step.refl _ Nil) nilM (fun b_ o_ h_ _=>hF36.to b_ o_ h_)
 refine qak (qc1 hE39 (src:=22) (dst:=9) (e:=5) (d:=13) kz kz kz kz ho48 fun a49 hE50=>?_)
 refine qak (qaH hW35 hE50 (d:=4) (cs:=[.string ByteArray.empty]) kz fun b51 a52 w53 hb54 hz55 hF56 hW57 hE58=>?_)
 refine qak (qao hW57 hE58 (oi:=1) (cs:=[.string (bs (uSp (uI16 σ) (aN 2 σ)))]) kz fun w59 hF60 hW61 hE62=>?_)
 refine qaf (qab ?_)
 refine qas [(2,.p 1 0)] hW61 hE62 fun a63 hE64=>?_
 refine wp_ret ?_
 refine qaV hE64 hW61.cells (v:=.pointer (some ⟨b51,0,none⟩)) kz ?_
 refine ⟨_,_,_,_,rfl,Str.of hW61 0 rfl,((hr47.move (hF56.trans hF60).step immM (hF56.trans hF60).to').move (Step.refl _ Nil) nilM qbs),hW61.step,_,rfl,(fun ad h_=>by
  obtain rfl:=Option.some.inj h_
  exact ⟨_,0,rfl,fun j v_ hj=>⟨.inr ‹_›,hW61.cells 1 _ rfl j v_ hj⟩⟩),rfl⟩
theorem qcL (σ:Sg) (hn:((uUv σ:Nat):Int) - 1 < 0) {br:Nat} {A:Option Addr} {m c:Nat} {w:World} {F:Nat → Nat → Prop} (hst:Str w br [.slice A m c,.bool σ.1]) (hr:RdS w F A m c σ.2) (hFd:∀ b o,F b o → ¬ RdM br b o) :
  Calls Tryd.prog 38 #[.pointer (some ⟨br,0,none⟩)] w (RdPostT w br (Fp F w) (aUv σ) fun v w'=>∃ A2,v = .pointer A2 ∧ qcR A2 ([]) w' (Fp F w) ∧ A2.isNone = true):=by
 refine enter (n:=15) Tryd.func38 rfl Tryd.ntmps38 kz fun a hE=>?_
 have hW:WOk w (RdM br) w [⟨br,0,[.slice A m c,.bool σ.1],true⟩] []:=WOk.startStr hst
 have hE1:=(hE.grow ⟨br,0,[.slice A m c,.bool σ.1],true⟩).recast 0 (.v (.pointer (some ⟨br,0,none⟩))) (.p 0 0) rfl rfl (Nat.le_of_ble_eq_true (n:=1) rfl)
 refine qas [(0,.p 0 0)] hW hE1 fun a1 hE2=>?_
 refine qad [0,1,2,3,4] kz ?_
 refine qal [0] [1,2,3,4] [(0,.p 0 0),(5,.p 0 0)] hW hE2 fun a3 hE4=>?_
 refine qak (qap hE4 (f:=56) (vs:=[.pointer (some ⟨br,0,none⟩)]) (d:=6) kz Tryd.call56 ((qcH σ).go (Str.of hW 0 rfl) (hr.move hW.step (fun b_ o_ h_ _=>hFd b_ o_ h_) (hW.immM hFd)) (qbw 0 rfl)) ?_)
 rintro e_ w5 ⟨_,A6,n7,c8,rfl,hs9,hr10,hst11,rfl⟩
 obtain ⟨hW12,hF13,hl17⟩:=hW.wrote 0 [⟨br,0,[.slice A6 n7 c8,.bool ((aUv σ).1)],true⟩] rfl hst11 hs9
 have hr21:=hr10.move (Step.refl _ Nil) nilM hl17
 refine ⟨_,rfl,fun a14 hE15=>?_⟩
 have hE16:EnvOk 15 [⟨br,0,[.slice A6 n7 c8,.bool ((aUv σ).1)],true⟩] [(6,.v (.int .u32 ((uUv σ:Nat):Int))),(0,.p 0 0),(5,.p 0 0)] _:=hE15.places (⟨rfl,rfl,trivial⟩)
 refine qal [2,3,4] [] [(0,.p 0 0),(3,.v (.int .i64 (IntKind.i64.wrap ((IntKind.i64.wrap ((uUv σ:Nat):Int)) - 1))))] hW12 hE16 fun a22 hE23=>?_
 refine qaf (qab ?_)
 refine wp_seq ?_
 refine qas [(0,.p 0 0),(3,.v (.int .i64 (IntKind.i64.wrap ((IntKind.i64.wrap ((uUv σ:Nat):Int)) - 1)))),(10,.v (.bool (decide ((IntKind.i64.wrap ((IntKind.i64.wrap ((uUv σ:Nat):Int)) - 1)) < 0))))] hW12 hE23 fun a24 hE25=>?_
 refine qaO hE25 (b:=decide ((IntKind.i64.wrap ((IntKind.i64.wrap ((uUv σ:Nat):Int)) - 1)) < 0)) kz (decide_eq_true (by have:=qbG σ; first | omega | (simp only [i64w]; omega))) ?_
 refine qas [(2,.v (.pointer none))] hW12 hE25 fun a26 hE27=>?_
 refine wp_ret ?_
 refine qaX ?_
 refine qaV hE27 hW12.cells (v:=.pointer none) kz ?_
 refine ⟨_,_,_,_,rfl,Str.of hW12 0 rfl,(hr21.move (Step.refl _ Nil) nilM qbs),hW12.step,_,rfl,(fun ad h_=>by cases h_),rfl⟩
theorem qcM (σ:Sg) (hn:¬ (((uUv σ:Nat):Int) - 1 < 0)) {br:Nat} {A:Option Addr} {m c:Nat} {w:World} {F:Nat → Nat → Prop} (hst:Str w br [.slice A m c,.bool σ.1]) (hr:RdS w F A m c σ.2) (hFd:∀ b o,F b o → ¬ RdM br b o) :
  Calls Tryd.prog 38 #[.pointer (some ⟨br,0,none⟩)] w (RdPostT w br (Fp F w) (aSp (((uUv σ:Nat):Int) - 1) (aUv σ)) fun v w'=>∃ A2,v = .pointer A2 ∧ qcR A2 (uSp (((uUv σ:Nat):Int) - 1) (aUv σ)) w' (Fp F w) ∧ A2.isNone = false):=by
 refine enter (n:=15) Tryd.func38 rfl Tryd.ntmps38 kz fun a hE=>?_
 have hW:WOk w (RdM br) w [⟨br,0,[.slice A m c,.bool σ.1],true⟩] []:=WOk.startStr hst
 have hE1:=(hE.grow ⟨br,0,[.slice A m c,.bool σ.1],true⟩).recast 0 (.v (.pointer (some ⟨br,0,none⟩))) (.p 0 0) rfl rfl (Nat.le_of_ble_eq_true (n:=1) rfl)
 refine qas [(0,.p 0 0)] hW hE1 fun a1 hE2=>?_
 refine qad [0,1,2,3,4] kz ?_
 refine qal [0] [1,2,3,4] [(0,.p 0 0),(5,.p 0 0)] hW hE2 fun a3 hE4=>?_
 refine qak (qap hE4 (f:=56) (vs:=[.pointer (some ⟨br,0,none⟩)]) (d:=6) kz Tryd.call56 ((qcH σ).go (Str.of hW 0 rfl) (hr.move hW.step (fun b_ o_ h_ _=>hFd b_ o_ h_) (hW.immM hFd)) (qbw 0 rfl)) ?_)
 rintro e_ w5 ⟨_,A6,n7,c8,rfl,hs9,hr10,hst11,rfl⟩
 obtain ⟨hW12,hF13,hl17⟩:=hW.wrote 0 [⟨br,0,[.slice A6 n7 c8,.bool ((aUv σ).1)],true⟩] rfl hst11 hs9
 have hr21:=hr10.move (Step.refl _ Nil) nilM hl17
 refine ⟨_,rfl,fun a14 hE15=>?_⟩
 have hE16:EnvOk 15 [⟨br,0,[.slice A6 n7 c8,.bool ((aUv σ).1)],true⟩] [(6,.v (.int .u32 ((uUv σ:Nat):Int))),(0,.p 0 0),(5,.p 0 0)] _:=hE15.places (⟨rfl,rfl,trivial⟩)
 refine qal [2,3,4] [] [(0,.p 0 0),(3,.v (.int .i64 (IntKind.i64.wrap ((IntKind.i64.wrap ((uUv σ:Nat):Int)) - 1))))] hW12 hE16 fun a22 hE23=>?_
 refine qaf (qab ?_)
 refine wp_seq ?_
 refine qas [(0,.p 0 0),(3,.v (.int .i64 (IntKind.i64.wrap ((IntKind.i64.wrap ((uUv σ:Nat):Int)) - 1)))),(10,.v (.bool (decide ((IntKind.i64.wrap ((IntKind.i64.wrap ((uUv σ:Nat):Int)) - 1)) < 0))))] hW12 hE23 fun a24 hE25=>?_
 refine qam hE25 (b:=decide ((IntKind.i64.wrap ((IntKind.i64.wrap ((uUv σ:Nat):Int)) - 1)) < 0)) kz (decide_eq_false (by have:=qbG σ; first | omega | (simp only [i64w]; omega))) ?_
 refine wp_skip ?_
 refine qab ?_
 refine qad [0,1,2,3,4,5] kz ?_
 refine qal [0,1] [2,3,4,5] [(11,.p 0 0),(12,.v (.int .i64 (IntKind.i64.wrap ((IntKind.i64.wrap ((uUv σ:Nat):Int)) - 1))))] hW12 hE25 fun a26 hE27=>?_
 have he41:IntKind.i64.wrap ((IntKind.i64.wrap ((uUv σ:Nat):Int)) - 1) = ((uUv σ:Nat):Int) - 1:=by have:=qbG σ; have:=qc2 σ; simp only [i16w,i32w,i64w]; omega
 have hE42:=EnvOk.pick hE27 (ks:=[11,12]) (env':=[(11,.p 0 0),(12,.v (.int .i64 (IntKind.i64.wrap ((IntKind.i64.wrap ((uUv σ:Nat):Int)) - 1))))]) kz
 have hE43:=hE42.cast (env':=[(11,.p 0 0),(12,.v (.int .i64 (((uUv σ:Nat):Int) - 1)))]) (by rw [he41])
 refine qak (qap hE43 (f:=58) (vs:=[.pointer (some ⟨br,0,none⟩),.int .i64 (((uUv σ:Nat):Int) - 1)]) (d:=13) kz Tryd.call58 (qeS (((uUv σ:Nat):Int) - 1) (aUv σ) (Str.of hW12 0 rfl) hr21 (qbw 0 rfl)) ?_)
 rintro e_ w28 ⟨_,A29,n30,c31,rfl,hs32,hr33,hst34,⟨A44,c45,rfl,ho46⟩⟩
 obtain ⟨hW35,hF36,hl40⟩:=hW12.wrote 0 [⟨br,0,[.slice A29 n30 c31,.bool ((aSp (((uUv σ:Nat):Int) - 1) (aUv σ)).1)],true⟩] rfl hst34 hs32
 have hr47:=hr33.move (Step.refl _ Nil) nilM (fun b_ o_ h_ _=>hF36.to b_ o_ h_)
 refine ⟨_,rfl,fun a37 hE38=>?_⟩
 have hE39:EnvOk 15 [⟨br,0,[.slice A29 n30 c31,.bool ((aSp (((uUv σ:Nat):Int) - 1) (aUv σ)).1)],true⟩] [(13,.v (.slice A44 ((uSp (((uUv σ:Nat):Int) - 1) (aUv σ)).length) c45)),(11,.p 0 0),(12,.v (.int .i64 (((uUv σ:Nat):Int) - 1)))] _:=hE38.places (⟨rfl,rfl,trivial⟩)
 have ho48:=ho46.move (Step.refl _ Nil) nilM (fun b_ o_ h_ _=>hF36.to b_ o_ h_)
 refine qak (qc1 hE39 (src:=22) (dst:=9) (e:=5) (d:=14) kz kz kz kz ho48 fun a49 hE50=>?_)
 refine qak (qaH hW35 hE50 (d:=4) (cs:=[.string ByteArray.empty]) kz fun b51 a52 w53 hb54 hz55 hF56 hW57 hE58=>?_)
 refine qak (qao hW57 hE58 (oi:=1) (cs:=[.string (bs (uSp (((uUv σ:Nat):Int) - 1) (aUv σ)))]) kz fun w59 hF60 hW61 hE62=>?_)
 refine qaf (qab ?_)
 refine qas [(2,.p 1 0)] hW61 hE62 fun a63 hE64=>?_
 refine wp_ret ?_
 refine qaV hE64 hW61.cells (v:=.pointer (some ⟨b51,0,none⟩)) kz ?_
 refine ⟨_,_,_,_,rfl,Str.of hW61 0 rfl,((hr47.move (hF56.trans hF60).step immM (hF56.trans hF60).to').move (Step.refl _ Nil) nilM qbs),hW61.step,_,rfl,(fun ad h_=>by
  obtain rfl:=Option.some.inj h_
  exact ⟨_,0,rfl,fun j v_ hj=>⟨.inr ‹_›,hW61.cells 1 _ rfl j v_ hj⟩⟩),rfl⟩
theorem qeq (σ:Sg)  {br:Nat} {A:Option Addr} {m c:Nat} {w:World} {F:Nat → Nat → Prop} (hst:Str w br [.slice A m c,.bool σ.1]) (hr:RdS w F A m c σ.2) (hFd:∀ b o,F b o → ¬ RdM br b o) :
  Calls Tryd.prog 47 #[.pointer (some ⟨br,0,none⟩)] w (RdPostT w br (Fp F w) (aStr σ) fun v w'=>v = .string (bs (uStr σ))):=by
 refine enter (n:=11) Tryd.func47 rfl Tryd.ntmps47 kz fun a hE=>?_
 have hW:WOk w (RdM br) w [⟨br,0,[.slice A m c,.bool σ.1],true⟩] []:=WOk.startStr hst
 have hE1:=(hE.grow ⟨br,0,[.slice A m c,.bool σ.1],true⟩).recast 0 (.v (.pointer (some ⟨br,0,none⟩))) (.p 0 0) rfl rfl (Nat.le_of_ble_eq_true (n:=1) rfl)
 refine qas [(0,.p 0 0)] hW hE1 fun a1 hE2=>?_
 refine qad [0,1,2] kz ?_
 refine qal [0] [1,2] [(0,.p 0 0),(4,.p 0 0)] hW hE2 fun a3 hE4=>?_
 refine qak (qap hE4 (f:=59) (vs:=[.pointer (some ⟨br,0,none⟩)]) (d:=5) kz Tryd.call59 ((qez σ).go (Str.of hW 0 rfl) (hr.move hW.step (fun b_ o_ h_ _=>hFd b_ o_ h_) (hW.immM hFd)) (qbw 0 rfl)) ?_)
 rintro e_ w5 ⟨_,A6,n7,c8,rfl,hs9,hr10,hst11,rfl⟩
 obtain ⟨hW12,hF13,hl17⟩:=hW.wrote 0 [⟨br,0,[.slice A6 n7 c8,.bool ((aN 2 σ).1)],true⟩] rfl hst11 hs9
 have hr21:=hr10.move (Step.refl _ Nil) nilM hl17
 refine ⟨_,rfl,fun a14 hE15=>?_⟩
 have hE16:EnvOk 11 [⟨br,0,[.slice A6 n7 c8,.bool ((aN 2 σ).1)],true⟩] [(5,.v (.int .i16 (uI16 σ))),(0,.p 0 0),(4,.p 0 0)] _:=hE15.places (⟨rfl,rfl,trivial⟩)
 refine qal [2] [] [(0,.p 0 0),(3,.v (.int .i16 (uI16 σ)))] hW12 hE16 fun a22 hE23=>?_
 refine qaf (qab ?_)
 refine qad [0,1,2,3,4,5] kz ?_
 refine qal [0,1,2] [3,4,5] [(6,.p 0 0),(8,.v (.int .i64 (IntKind.i64.wrap (uI16 σ))))] hW12 hE23 fun a24 hE25=>?_
 have he39:IntKind.i64.wrap (uI16 σ) = uI16 σ:=by have:=qbG σ; have:=qc2 σ; simp only [i16w,i32w,i64w]; omega
 have hE40:=EnvOk.pick hE25 (ks:=[6,8]) (env':=[(6,.p 0 0),(8,.v (.int .i64 (IntKind.i64.wrap (uI16 σ))))]) kz
 have hE41:=hE40.cast (env':=[(6,.p 0 0),(8,.v (.int .i64 (uI16 σ)))]) (by rw [he39])
 refine qak (qap hE41 (f:=58) (vs:=[.pointer (some ⟨br,0,none⟩),.int .i64 (uI16 σ)]) (d:=9) kz Tryd.call58 (qeS (uI16 σ) (aN 2 σ) (Str.of hW12 0 rfl) hr21 (qbw 0 rfl)) ?_)
 rintro e_ w26 ⟨_,A27,n28,c29,rfl,hs30,hr31,hst32,⟨A42,c43,rfl,ho44⟩⟩
 obtain ⟨hW33,hF34,hl38⟩:=hW12.wrote 0 [⟨br,0,[.slice A27 n28 c29,.bool ((aSp (uI16 σ) (aN 2 σ)).1)],true⟩] rfl hst32 hs30
 have hr45:=hr31.move (Step.refl _ Nil) nilM (fun b_ o_ h_ _=>hF34.to b_ o_ h_)
 refine ⟨_,rfl,fun a35 hE36=>?_⟩
 have hE37:EnvOk 11 [⟨br,0,[.slice A27 n28 c29,.bool ((aSp (uI16 σ) (aN 2 σ)).1)],true⟩] [(9,.v (.slice A42 ((uSp (uI16 σ) (aN 2 σ)).length) c43)),(6,.p 0 0),(8,.v (.int .i64 (uI16 σ)))] _:=hE36.places (⟨rfl,rfl,trivial⟩)
 have ho46:=ho44.move (Step.refl _ Nil) nilM (fun b_ o_ h_ _=>hF34.to b_ o_ h_)
 refine qak (qap hE37 (f:=57) (vs:=[.slice A42 ((uSp (uI16 σ) (aN 2 σ)).length) c43]) (d:=10) kz Tryd.call57 (qeT _ ho46) ?_)
 rintro e_ w48 ⟨rfl,hs47⟩
 refine ⟨_,rfl,fun a49 hE50=>?_⟩
 have hW51:=hW33.next_nil hs47
 have hF52:=hW33.frN hs47
 refine qal [5] [] [(2,.v (.string (bs ((uSp (uI16 σ) (aN 2 σ))))))] hW51 hE50 fun a53 hE54=>?_
 refine qaf (qab ?_)
 refine wp_ret ?_
 refine qaV hE54 hW51.cells (v:=.string (bs ((uSp (uI16 σ) (aN 2 σ))))) kz ?_
 refine ⟨_,_,_,_,rfl,Str.of hW51 0 rfl,((hr45.move hF52.step immM hF52.to').move (Step.refl _ Nil) nilM qbs),hW51.step,rfl⟩
theorem qc3 (σ:Sg)  {br:Nat} {A:Option Addr} {m c:Nat} {w:World} {F:Nat → Nat → Prop} (hst:Str w br [.slice A m c,.bool σ.1]) (hr:RdS w F A m c σ.2) (hFd:∀ b o,F b o → ¬ RdM br b o) :
  Calls Tryd.prog 46 #[.pointer (some ⟨br,0,none⟩)] w (RdPostT w br (Fp F w) (qfl σ) fun v w'=>v = .string (bs (qfk σ))):=by
 refine enter (n:=12) Tryd.func46 rfl Tryd.ntmps46 kz fun a hE=>?_
 have hW:WOk w (RdM br) w [⟨br,0,[.slice A m c,.bool σ.1],true⟩] []:=WOk.startStr hst
 have hE1:=(hE.grow ⟨br,0,[.slice A m c,.bool σ.1],true⟩).recast 0 (.v (.pointer (some ⟨br,0,none⟩))) (.p 0 0) rfl rfl (Nat.le_of_ble_eq_true (n:=1) rfl)
 refine qas [(0,.p 0 0)] hW hE1 fun a1 hE2=>?_
 refine qad [0,1,2,3,4] kz ?_
 refine qal [0] [1,2,3,4] [(0,.p 0 0),(4,.p 0 0)] hW hE2 fun a3 hE4=>?_
 refine qak (qap hE4 (f:=56) (vs:=[.pointer (some ⟨br,0,none⟩)]) (d:=5) kz Tryd.call56 ((qcH σ).go (Str.of hW 0 rfl) (hr.move hW.step (fun b_ o_ h_ _=>hFd b_ o_ h_) (hW.immM hFd)) (qbw 0 rfl)) ?_)
 rintro e_ w5 ⟨_,A6,n7,c8,rfl,hs9,hr10,hst11,rfl⟩
 obtain ⟨hW12,hF13,hl17⟩:=hW.wrote 0 [⟨br,0,[.slice A6 n7 c8,.bool ((aUv σ).1)],true⟩] rfl hst11 hs9
 have hr21:=hr10.move (Step.refl _ Nil) nilM hl17
 refine ⟨_,rfl,fun a14 hE15=>?_⟩
 have hE16:EnvOk 12 [⟨br,0,[.slice A6 n7 c8,.bool ((aUv σ).1)],true⟩] [(5,.v (.int .u32 ((uUv σ:Nat):Int))),(0,.p 0 0),(4,.p 0 0)] _:=hE15.places (⟨rfl,rfl,trivial⟩)
 refine qal [2,3,4] [] [(0,.p 0 0),(3,.v (.int .i64 (IntKind.i64.wrap ((IntKind.i64.wrap ((uUv σ:Nat):Int)) - 1))))] hW12 hE16 fun a22 hE23=>?_
 refine qaf (qab ?_)
 refine qad [0,1,2,3,4] kz ?_
 refine qal [0,1] [2,3,4] [(8,.p 0 0),(9,.v (.int .i64 (IntKind.i64.wrap ((IntKind.i64.wrap ((uUv σ:Nat):Int)) - 1))))] hW12 hE23 fun a24 hE25=>?_
 have he39:IntKind.i64.wrap ((IntKind.i64.wrap ((uUv σ:Nat):Int)) - 1) = ((uUv σ:Nat):Int) - 1:=by have:=qbG σ; have:=qc2 σ; simp only [i16w,i32w,i64w]; omega
 have hE40:=EnvOk.pick hE25 (ks:=[8,9]) (env':=[(8,.p 0 0),(9,.v (.int .i64 (IntKind.i64.wrap ((IntKind.i64.wrap ((uUv σ:Nat):Int)) - 1))))]) kz
 have hE41:=hE40.cast (env':=[(8,.p 0 0),(9,.v (.int .i64 (((uUv σ:Nat):Int) - 1)))]) (by rw [he39])
 refine qak (qap hE41 (f:=58) (vs:=[.pointer (some ⟨br,0,none⟩),.int .i64 (((uUv σ:Nat):Int) - 1)]) (d:=10) kz Tryd.call58 (qeS (((uUv σ:Nat):Int) - 1) (aUv σ) (Str.of hW12 0 rfl) hr21 (qbw 0 rfl)) ?_)
 rintro e_ w26 ⟨_,A27,n28,c29,rfl,hs30,hr31,hst32,⟨A42,c43,rfl,ho44⟩⟩
 obtain ⟨hW33,hF34,hl38⟩:=hW12.wrote 0 [⟨br,0,[.slice A27 n28 c29,.bool ((aSp (((uUv σ:Nat):Int) - 1) (aUv σ)).1)],true⟩] rfl hst32 hs30
 have hr45:=hr31.move (Step.refl _ Nil) nilM (fun b_ o_ h_ _=>hF34.to b_ o_ h_)
 refine ⟨_,rfl,fun a35 hE36=>?_⟩
 have hE37:EnvOk 12 [⟨br,0,[.slice A27 n28 c29,.bool ((aSp (((uUv σ:Nat):Int) - 1) (aUv σ)).1)],true⟩] [(10,.v (.slice A42 ((uSp (((uUv σ:Nat):Int) - 1) (aUv σ)).length) c43)),(8,.p 0 0),(9,.v (.int .i64 (((uUv σ:Nat):Int) - 1)))] _:=hE36.places (⟨rfl,rfl,trivial⟩)
 have ho46:=ho44.move (Step.refl _ Nil) nilM (fun b_ o_ h_ _=>hF34.to b_ o_ h_)
 refine qak (qap hE37 (f:=57) (vs:=[.slice A42 ((uSp (((uUv σ:Nat):Int) - 1) (aUv σ)).length) c43]) (d:=11) kz Tryd.call57 (qeT _ ho46) ?_)
 rintro e_ w48 ⟨rfl,hs47⟩
 refine ⟨_,rfl,fun a49 hE50=>?_⟩
 have hW51:=hW33.next_nil hs47
 have hF52:=hW33.frN hs47
 refine qal [4] [] [(2,.v (.string (bs ((uSp (((uUv σ:Nat):Int) - 1) (aUv σ))))))] hW51 hE50 fun a53 hE54=>?_
 refine qaf (qab ?_)
 refine wp_ret ?_
 refine qaV hE54 hW51.cells (v:=.string (bs ((uSp (((uUv σ:Nat):Int) - 1) (aUv σ))))) kz ?_
 refine ⟨_,_,_,_,rfl,Str.of hW51 0 rfl,((hr45.move hF52.step immM hF52.to').move (Step.refl _ Nil) nilM qbs),hW51.step,rfl⟩
theorem qcS (σ:Sg) (hn:uI16 σ < 0) {br:Nat} {A:Option Addr} {m c:Nat} {w:World} {F:Nat → Nat → Prop} (hst:Str w br [.slice A m c,.bool σ.1]) (hr:RdS w F A m c σ.2) (hFd:∀ b o,F b o → ¬ RdM br b o) :
  Calls Tryd.prog 39 #[.pointer (some ⟨br,0,none⟩)] w (RdPostT w br (Fp F w) (aN 2 σ) fun v w'=>∃ A2,v = .pointer A2 ∧ qcR A2 ([]) w' (Fp F w) ∧ A2.isNone = true):=by
 refine enter (n:=14) Tryd.func39 rfl Tryd.ntmps39 kz fun a hE=>?_
 have hW:WOk w (RdM br) w [⟨br,0,[.slice A m c,.bool σ.1],true⟩] []:=WOk.startStr hst
 have hE1:=(hE.grow ⟨br,0,[.slice A m c,.bool σ.1],true⟩).recast 0 (.v (.pointer (some ⟨br,0,none⟩))) (.p 0 0) rfl rfl (Nat.le_of_ble_eq_true (n:=1) rfl)
 refine qas [(0,.p 0 0)] hW hE1 fun a1 hE2=>?_
 refine qad [0,1,2] kz ?_
 refine qal [0] [1,2] [(0,.p 0 0),(5,.p 0 0)] hW hE2 fun a3 hE4=>?_
 refine qak (qap hE4 (f:=59) (vs:=[.pointer (some ⟨br,0,none⟩)]) (d:=6) kz Tryd.call59 ((qez σ).go (Str.of hW 0 rfl) (hr.move hW.step (fun b_ o_ h_ _=>hFd b_ o_ h_) (hW.immM hFd)) (qbw 0 rfl)) ?_)
 rintro e_ w5 ⟨_,A6,n7,c8,rfl,hs9,hr10,hst11,rfl⟩
 obtain ⟨hW12,hF13,hl17⟩:=hW.wrote 0 [⟨br,0,[.slice A6 n7 c8,.bool ((aN 2 σ).1)],true⟩] rfl hst11 hs9
 have hr21:=hr10.move (Step.refl _ Nil) nilM hl17
 refine ⟨_,rfl,fun a14 hE15=>?_⟩
 have hE16:EnvOk 14 [⟨br,0,[.slice A6 n7 c8,.bool ((aN 2 σ).1)],true⟩] [(6,.v (.int .i16 (uI16 σ))),(0,.p 0 0),(5,.p 0 0)] _:=hE15.places (⟨rfl,rfl,trivial⟩)
 refine qal [2] [] [(0,.p 0 0),(3,.v (.int .i16 (uI16 σ)))] hW12 hE16 fun a22 hE23=>?_
 refine qaf (qab ?_)
 refine wp_seq ?_
 refine qas [(0,.p 0 0),(3,.v (.int .i16 (uI16 σ))),(8,.v (.bool (decide ((uI16 σ) < 0))))] hW12 hE23 fun a24 hE25=>?_
 refine qaO hE25 (b:=decide ((uI16 σ) < 0)) kz (decide_eq_true (by have:=qbG σ; first | omega | (simp only [i64w]; omega))) ?_
 refine qas [(2,.v (.pointer none))] hW12 hE25 fun a26 hE27=>?_
 refine wp_ret ?_
 refine qaX ?_
 refine qaV hE27 hW12.cells (v:=.pointer none) kz ?_
 refine ⟨_,_,_,_,rfl,Str.of hW12 0 rfl,(hr21.move (Step.refl _ Nil) nilM qbs),hW12.step,_,rfl,(fun ad h_=>by cases h_),rfl⟩
theorem qcT (σ:Sg) (hn:¬ (uI16 σ < 0)) {br:Nat} {A:Option Addr} {m c:Nat} {w:World} {F:Nat → Nat → Prop} (hst:Str w br [.slice A m c,.bool σ.1]) (hr:RdS w F A m c σ.2) (hFd:∀ b o,F b o → ¬ RdM br b o) :
  Calls Tryd.prog 39 #[.pointer (some ⟨br,0,none⟩)] w (RdPostT w br (Fp F w) (aSp (uI16 σ) (aN 2 σ)) fun v w'=>∃ A2,v = .pointer A2 ∧ qcR A2 (uSp (uI16 σ) (aN 2 σ)) w' (Fp F w) ∧ A2.isNone = false):=by
 refine enter (n:=14) Tryd.func39 rfl Tryd.ntmps39 kz fun a hE=>?_
 have hW:WOk w (RdM br) w [⟨br,0,[.slice A m c,.bool σ.1],true⟩] []:=WOk.startStr hst
 have hE1:=(hE.grow ⟨br,0,[.slice A m c,.bool σ.1],true⟩).recast 0 (.v (.pointer (some ⟨br,0,none⟩))) (.p 0 0) rfl rfl (Nat.le_of_ble_eq_true (n:=1) rfl)
 refine qas [(0,.p 0 0)] hW hE1 fun a1 hE2=>?_
 refine qad [0,1,2] kz ?_
 refine qal [0] [1,2] [(0,.p 0 0),(5,.p 0 0)] hW hE2 fun a3 hE4=>?_
 refine qak (qap hE4 (f:=59) (vs:=[.pointer (some ⟨br,0,none⟩)]) (d:=6) kz Tryd.call59 ((qez σ).go (Str.of hW 0 rfl) (hr.move hW.step (fun b_ o_ h_ _=>hFd b_ o_ h_) (hW.immM hFd)) (qbw 0 rfl)) ?_)
 rintro e_ w5 ⟨_,A6,n7,c8,rfl,hs9,hr10,hst11,rfl⟩
 obtain ⟨hW12,hF13,hl17⟩:=hW.wrote 0 [⟨br,0,[.slice A6 n7 c8,.bool ((aN 2 σ).1)],true⟩] rfl hst11 hs9
 have hr21:=hr10.move (Step.refl _ Nil) nilM hl17
 refine ⟨_,rfl,fun a14 hE15=>?_⟩
 have hE16:EnvOk 14 [⟨br,0,[.slice A6 n7 c8,.bool ((aN 2 σ).1)],true⟩] [(6,.v (.int .i16 (uI16 σ))),(0,.p 0 0),(5,.p 0 0)] _:=hE15.places (⟨rfl,rfl,trivial⟩)
 refine qal [2] [] [(0,.p 0 0),(3,.v (.int .i16 (uI16 σ)))] hW12 hE16 fun a22 hE23=>?_
 refine qaf (qab ?_)
 refine wp_seq ?_
 refine qas [(0,.p 0 0),(3,.v (.int .i16 (uI16 σ))),(8,.v (.bool (decide ((uI16 σ) < 0))))] hW12 hE23 fun a24 hE25=>?_
 refine qam hE25 (b:=decide ((uI16 σ) < 0)) kz (decide_eq_false (by have:=qbG σ; first | omega | (simp only [i64w]; omega))) ?_
 refine wp_skip ?_
 refine qab ?_
 refine qad [0,1,2,3,4,5,6] kz ?_
 refine qal [0,1,2] [3,4,5,6] [(9,.p 0 0),(11,.v (.int .i64 (IntKind.i64.wrap (uI16 σ))))] hW12 hE25 fun a26 hE27=>?_
 have he41:IntKind.i64.wrap (uI16 σ) = uI16 σ:=by have:=qbG σ; have:=qc2 σ; simp only [i16w,i32w,i64w]; omega
 have hE42:=EnvOk.pick hE27 (ks:=[9,11]) (env':=[(9,.p 0 0),(11,.v (.int .i64 (IntKind.i64.wrap (uI16 σ))))]) kz
 have hE43:=hE42.cast (env':=[(9,.p 0 0),(11,.v (.int .i64 (uI16 σ)))]) (by rw [he41])
 refine qak (qap hE43 (f:=58) (vs:=[.pointer (some ⟨br,0,none⟩),.int .i64 (uI16 σ)]) (d:=12) kz Tryd.call58 (qeS (uI16 σ) (aN 2 σ) (Str.of hW12 0 rfl) hr21 (qbw 0 rfl)) ?_)
 rintro e_ w28 ⟨_,A29,n30,c31,rfl,hs32,hr33,hst34,⟨A44,c45,rfl,ho46⟩⟩
 obtain ⟨hW35,hF36,hl40⟩:=hW12.wrote 0 [⟨br,0,[.slice A29 n30 c31,.bool ((aSp (uI16 σ) (aN 2 σ)).1)],true⟩] rfl hst34 hs32
 have hr47:=hr33.move (Step.refl _ Nil) nilM (fun b_ o_ h_ _=>hF36.to b_ o_ h_)
 refine ⟨_,rfl,fun a37 hE38=>?_⟩
 have hE39:EnvOk 14 [⟨br,0,[.slice A29 n30 c31,.bool ((aSp (uI16 σ) (aN 2 σ)).1)],true⟩] [(12,.v (.slice A44 ((uSp (uI16 σ) (aN 2 σ)).length) c45)),(9,.p 0 0),(11,.v (.int .i64 (uI16 σ)))] _:=hE38.places (⟨rfl,rfl,trivial⟩)
 have ho48:=ho46.move (Step.refl _ Nil) nilM (fun b_ o_ h_ _=>hF36.to b_ o_ h_)
 refine qak (qap hE39 (f:=57) (vs:=[.slice A44 ((uSp (uI16 σ) (aN 2 σ)).length) c45]) (d:=13) kz Tryd.call57 (qeT _ ho48) ?_)
 rintro e_ w50 ⟨rfl,hs49⟩
 refine ⟨_,rfl,fun a51 hE52=>?_⟩
 have hW53:=hW35.next_nil hs49
 have hF54:=hW35.frN hs49
 refine qak (qaH hW53 hE52 (d:=4) (cs:=[.string ByteArray.empty]) kz fun b55 a56 w57 hb58 hz59 hF60 hW61 hE62=>?_)
 refine qak (qao hW61 hE62 (oi:=1) (cs:=[.string (bs ((uSp (uI16 σ) (aN 2 σ))))]) kz fun w63 hF64 hW65 hE66=>?_)
 refine qaf (qab ?_)
 refine qas [(2,.p 1 0)] hW65 hE66 fun a67 hE68=>?_
 refine wp_ret ?_
 refine qaV hE68 hW65.cells (v:=.pointer (some ⟨b55,0,none⟩)) kz ?_
 refine ⟨_,_,_,_,rfl,Str.of hW65 0 rfl,((hr47.move ((hF54.trans hF60).trans hF64).step immM ((hF54.trans hF60).trans hF64).to').move (Step.refl _ Nil) nilM qbs),hW65.step,_,rfl,(fun ad h_=>by
  obtain rfl:=Option.some.inj h_
  exact ⟨_,0,rfl,fun j v_ hj=>⟨.inr ‹_›,hW65.cells 1 _ rfl j v_ hj⟩⟩),rfl⟩
theorem qcq (σ:Sg) (hn:((uUv σ:Nat):Int) - 1 < 0) {br:Nat} {A:Option Addr} {m c:Nat} {w:World} {F:Nat → Nat → Prop} (hst:Str w br [.slice A m c,.bool σ.1]) (hr:RdS w F A m c σ.2) (hFd:∀ b o,F b o → ¬ RdM br b o) :
  Calls Tryd.prog 37 #[.pointer (some ⟨br,0,none⟩)] w (RdPostT w br (Fp F w) (aUv σ) fun v w'=>∃ A2,v = .pointer A2 ∧ qcR A2 ([]) w' (Fp F w) ∧ A2.isNone = true):=by
 refine enter (n:=15) Tryd.func37 rfl Tryd.ntmps37 kz fun a hE=>?_
 have hW:WOk w (RdM br) w [⟨br,0,[.slice A m c,.bool σ.1],true⟩] []:=WOk.startStr hst
 have hE1:=(hE.grow ⟨br,0,[.slice A m c,.bool σ.1],true⟩).recast 0 (.v (.pointer (some ⟨br,0,none⟩))) (.p 0 0) rfl rfl (Nat.le_of_ble_eq_true (n:=1) rfl)
 refine qas [(0,.p 0 0)] hW hE1 fun a1 hE2=>?_
 refine qad [0,1,2,3,4] kz ?_
 refine qal [0] [1,2,3,4] [(0,.p 0 0),(5,.p 0 0)] hW hE2 fun a3 hE4=>?_
 refine qak (qap hE4 (f:=56) (vs:=[.pointer (some ⟨br,0,none⟩)]) (d:=6) kz Tryd.call56 ((qcH σ).go (Str.of hW 0 rfl) (hr.move hW.step (fun b_ o_ h_ _=>hFd b_ o_ h_) (hW.immM hFd)) (qbw 0 rfl)) ?_)
 rintro e_ w5 ⟨_,A6,n7,c8,rfl,hs9,hr10,hst11,rfl⟩
 obtain ⟨hW12,hF13,hl17⟩:=hW.wrote 0 [⟨br,0,[.slice A6 n7 c8,.bool ((aUv σ).1)],true⟩] rfl hst11 hs9
 have hr21:=hr10.move (Step.refl _ Nil) nilM hl17
 refine ⟨_,rfl,fun a14 hE15=>?_⟩
 have hE16:EnvOk 15 [⟨br,0,[.slice A6 n7 c8,.bool ((aUv σ).1)],true⟩] [(6,.v (.int .u32 ((uUv σ:Nat):Int))),(0,.p 0 0),(5,.p 0 0)] _:=hE15.places (⟨rfl,rfl,trivial⟩)
 refine qal [2,3,4] [] [(0,.p 0 0),(3,.v (.int .i64 (IntKind.i64.wrap ((IntKind.i64.wrap ((uUv σ:Nat):Int)) - 1))))] hW12 hE16 fun a22 hE23=>?_
 refine qaf (qab ?_)
 refine wp_seq ?_
 refine qas [(0,.p 0 0),(3,.v (.int .i64 (IntKind.i64.wrap ((IntKind.i64.wrap ((uUv σ:Nat):Int)) - 1)))),(10,.v (.bool (decide ((IntKind.i64.wrap ((IntKind.i64.wrap ((uUv σ:Nat):Int)) - 1)) < 0))))] hW12 hE23 fun a24 hE25=>?_
 refine qaO hE25 (b:=decide ((IntKind.i64.wrap ((IntKind.i64.wrap ((uUv σ:Nat):Int)) - 1)) < 0)) kz (decide_eq_true (by have:=qbG σ; first | omega | (simp only [i64w]; omega))) ?_
 refine qas [(2,.v (.pointer none))] hW12 hE25 fun a26 hE27=>?_
 refine wp_ret ?_
 refine qaX ?_
 refine qaV hE27 hW12.cells (v:=.pointer none) kz ?_
 refine ⟨_,_,_,_,rfl,Str.of hW12 0 rfl,(hr21.move (Step.refl _ Nil) nilM qbs),hW12.step,_,rfl,(fun ad h_=>by cases h_),rfl⟩
theorem qcr (σ:Sg) (hn:¬ (((uUv σ:Nat):Int) - 1 < 0)) {br:Nat} {A:Option Addr} {m c:Nat} {w:World} {F:Nat → Nat → Prop} (hst:Str w br [.slice A m c,.bool σ.1]) (hr:RdS w F A m c σ.2) (hFd:∀ b o,F b o → ¬ RdM br b o) :
  Calls Tryd.prog 37 #[.pointer (some ⟨br,0,none⟩)] w (RdPostT w br (Fp F w) (aSp (((uUv σ:Nat):Int) - 1) (aUv σ)) fun v w'=>∃ A2,v = .pointer A2 ∧ qcR A2 (uSp (((uUv σ:Nat):Int) - 1) (aUv σ)) w' (Fp F w) ∧ A2.isNone = false):=by
 refine enter (n:=15) Tryd.func37 rfl Tryd.ntmps37 kz fun a hE=>?_
 have hW:WOk w (RdM br) w [⟨br,0,[.slice A m c,.bool σ.1],true⟩] []:=WOk.startStr hst
 have hE1:=(hE.grow ⟨br,0,[.slice A m c,.bool σ.1],true⟩).recast 0 (.v (.pointer (some ⟨br,0,none⟩))) (.p 0 0) rfl rfl (Nat.le_of_ble_eq_true (n:=1) rfl)
 refine qas [(0,.p 0 0)] hW hE1 fun a1 hE2=>?_
 refine qad [0,1,2,3,4] kz ?_
 refine qal [0] [1,2,3,4] [(0,.p 0 0),(5,.p 0 0)] hW hE2 fun a3 hE4=>?_
 refine qak (qap hE4 (f:=56) (vs:=[.pointer (some ⟨br,0,none⟩)]) (d:=6) kz Tryd.call56 ((qcH σ).go (Str.of hW 0 rfl) (hr.move hW.step (fun b_ o_ h_ _=>hFd b_ o_ h_) (hW.immM hFd)) (qbw 0 rfl)) ?_)
 rintro e_ w5 ⟨_,A6,n7,c8,rfl,hs9,hr10,hst11,rfl⟩
 obtain ⟨hW12,hF13,hl17⟩:=hW.wrote 0 [⟨br,0,[.slice A6 n7 c8,.bool ((aUv σ).1)],true⟩] rfl hst11 hs9
 have hr21:=hr10.move (Step.refl _ Nil) nilM hl17
 refine ⟨_,rfl,fun a14 hE15=>?_⟩
 have hE16:EnvOk 15 [⟨br,0,[.slice A6 n7 c8,.bool ((aUv σ).1)],true⟩] [(6,.v (.int .u32 ((uUv σ:Nat):Int))),(0,.p 0 0),(5,.p 0 0)] _:=hE15.places (⟨rfl,rfl,trivial⟩)
 refine qal [2,3,4] [] [(0,.p 0 0),(3,.v (.int .i64 (IntKind.i64.wrap ((IntKind.i64.wrap ((uUv σ:Nat):Int)) - 1))))] hW12 hE16 fun a22 hE23=>?_
 refine qaf (qab ?_)
 refine wp_seq ?_
 refine qas [(0,.p 0 0),(3,.v (.int .i64 (IntKind.i64.wrap ((IntKind.i64.wrap ((uUv σ:Nat):Int)) - 1)))),(10,.v (.bool (decide ((IntKind.i64.wrap ((IntKind.i64.wrap ((uUv σ:Nat):Int)) - 1)) < 0))))] hW12 hE23 fun a24 hE25=>?_
 refine qam hE25 (b:=decide ((IntKind.i64.wrap ((IntKind.i64.wrap ((uUv σ:Nat):Int)) - 1)) < 0)) kz (decide_eq_false (by have:=qbG σ; first | omega | (simp only [i64w]; omega))) ?_
 refine wp_skip ?_
 refine qab ?_
 refine qad [0,1,2,3,4,5] kz ?_
 refine qal [0,1] [2,3,4,5] [(11,.p 0 0),(12,.v (.int .i64 (IntKind.i64.wrap ((IntKind.i64.wrap ((uUv σ:Nat):Int)) - 1))))] hW12 hE25 fun a26 hE27=>?_
 have he41:IntKind.i64.wrap ((IntKind.i64.wrap ((uUv σ:Nat):Int)) - 1) = ((uUv σ:Nat):Int) - 1:=by have:=qbG σ; have:=qc2 σ; simp only [i16w,i32w,i64w]; omega
 have hE42:=EnvOk.pick hE27 (ks:=[11,12]) (env':=[(11,.p 0 0),(12,.v (.int .i64 (IntKind.i64.wrap ((IntKind.i64.wrap ((uUv σ:Nat):Int)) - 1))))]) kz
 have hE43:=hE42.cast (env':=[(11,.p 0 0),(12,.v (.int .i64 (((uUv σ:Nat):Int) - 1)))]) (by rw [he41])
 refine qak (qap hE43 (f:=58) (vs:=[.pointer (some ⟨br,0,none⟩),.int .i64 (((uUv σ:Nat):Int) - 1)]) (d:=13) kz Tryd.call58 (qeS (((uUv σ:Nat):Int) - 1) (aUv σ) (Str.of hW12 0 rfl) hr21 (qbw 0 rfl)) ?_)
 rintro e_ w28 ⟨_,A29,n30,c31,rfl,hs32,hr33,hst34,⟨A44,c45,rfl,ho46⟩⟩
 obtain ⟨hW35,hF36,hl40⟩:=hW12.wrote 0 [⟨br,0,[.slice A29 n30 c31,.bool ((aSp (((uUv σ:Nat):Int) - 1) (aUv σ)).1)],true⟩] rfl hst34 hs32
 have hr47:=hr33.move (Step.refl _ Nil) nilM (fun b_ o_ h_ _=>hF36.to b_ o_ h_)
 refine ⟨_,rfl,fun a37 hE38=>?_⟩
 have hE39:EnvOk 15 [⟨br,0,[.slice A29 n30 c31,.bool ((aSp (((uUv σ:Nat):Int) - 1) (aUv σ)).1)],true⟩] [(13,.v (.slice A44 ((uSp (((uUv σ:Nat):Int) - 1) (aUv σ)).length) c45)),(11,.p 0 0),(12,.v (.int .i64 (((uUv σ:Nat):Int) - 1)))] _:=hE38.places (⟨rfl,rfl,trivial⟩)
 have ho48:=ho46.move (Step.refl _ Nil) nilM (fun b_ o_ h_ _=>hF36.to b_ o_ h_)
 refine qak (qap hE39 (f:=57) (vs:=[.slice A44 ((uSp (((uUv σ:Nat):Int) - 1) (aUv σ)).length) c45]) (d:=14) kz Tryd.call57 (qeT _ ho48) ?_)
 rintro e_ w50 ⟨rfl,hs49⟩
 refine ⟨_,rfl,fun a51 hE52=>?_⟩
 have hW53:=hW35.next_nil hs49
 have hF54:=hW35.frN hs49
 refine qak (qaH hW53 hE52 (d:=4) (cs:=[.string ByteArray.empty]) kz fun b55 a56 w57 hb58 hz59 hF60 hW61 hE62=>?_)
 refine qak (qao hW61 hE62 (oi:=1) (cs:=[.string (bs ((uSp (((uUv σ:Nat):Int) - 1) (aUv σ))))]) kz fun w63 hF64 hW65 hE66=>?_)
 refine qaf (qab ?_)
 refine qas [(2,.p 1 0)] hW65 hE66 fun a67 hE68=>?_
 refine wp_ret ?_
 refine qaV hE68 hW65.cells (v:=.pointer (some ⟨b55,0,none⟩)) kz ?_
 refine ⟨_,_,_,_,rfl,Str.of hW65 0 rfl,((hr47.move ((hF54.trans hF60).trans hF64).step immM ((hF54.trans hF60).trans hF64).to').move (Step.refl _ Nil) nilM qbs),hW65.step,_,rfl,(fun ad h_=>by
  obtain rfl:=Option.some.inj h_
  exact ⟨_,0,rfl,fun j v_ hj=>⟨.inr ‹_›,hW65.cells 1 _ rfl j v_ hj⟩⟩),rfl⟩
theorem qe4 (σ:Sg) (hn:¬ ((((aN 4 σ).2.length:Nat):Int) < uI32 σ)) {br:Nat} {A:Option Addr} {m c:Nat} {w:World} {F:Nat → Nat → Prop} (hst:Str w br [.slice A m c,.bool σ.1]) (hr:RdS w F A m c σ.2) (hFd:∀ b o,F b o → ¬ RdM br b o) :
  Calls Tryd.prog 42 #[.pointer (some ⟨br,0,none⟩)] w (RdPostT w br (Fp F w) (aN 4 σ) fun v w'=>v = .int .i32 (uI32 σ)):=by
 refine enter (n:=21) Tryd.func42 rfl Tryd.ntmps42 kz fun a hE=>?_
 have hW:WOk w (RdM br) w [⟨br,0,[.slice A m c,.bool σ.1],true⟩] []:=WOk.startStr hst
 have hE1:=(hE.grow ⟨br,0,[.slice A m c,.bool σ.1],true⟩).recast 0 (.v (.pointer (some ⟨br,0,none⟩))) (.p 0 0) rfl rfl (Nat.le_of_ble_eq_true (n:=1) rfl)
 refine qas [(0,.p 0 0)] hW hE1 fun a1 hE2=>?_
 refine qad [0,1,2] kz ?_
 refine qal [0] [1,2] [(0,.p 0 0),(4,.p 0 0)] hW hE2 fun a3 hE4=>?_
 refine qak (qap hE4 (f:=55) (vs:=[.pointer (some ⟨br,0,none⟩)]) (d:=5) kz Tryd.call55 ((qhB σ).go (Str.of hW 0 rfl) (hr.move hW.step (fun b_ o_ h_ _=>hFd b_ o_ h_) (hW.immM hFd)) (qbw 0 rfl)) ?_)
 rintro e_ w5 ⟨_,A6,n7,c8,rfl,hs9,hr10,hst11,rfl⟩
 obtain ⟨hW12,hF13,hl17⟩:=hW.wrote 0 [⟨br,0,[.slice A6 n7 c8,.bool ((aN 4 σ).1)],true⟩] rfl hst11 hs9
 have hr21:=hr10.move (Step.refl _ Nil) nilM hl17
 refine ⟨_,rfl,fun a14 hE15=>?_⟩
 have hE16:EnvOk 21 [⟨br,0,[.slice A6 n7 c8,.bool ((aN 4 σ).1)],true⟩] [(5,.v (.int .i32 (uI32 σ))),(0,.p 0 0),(4,.p 0 0)] _:=hE15.places (⟨rfl,rfl,trivial⟩)
 refine qal [2] [] [(0,.p 0 0),(3,.v (.int .i32 (uI32 σ)))] hW12 hE16 fun a22 hE23=>?_
 refine qaf (qab ?_)
 refine wp_seq ?_
 refine qas [(0,.p 0 0),(3,.v (.int .i32 (uI32 σ))),(13,.v (.bool (decide (((n7:Nat):Int) < (IntKind.i64.wrap (uI32 σ))))))] hW12 hE23 fun a24 hE25=>?_
 refine qam hE25 (b:=decide (((n7:Nat):Int) < (IntKind.i64.wrap (uI32 σ)))) kz (decide_eq_false (by have h_:=hr21.len; have:=qbG σ; have:=qeR σ; unfold cAL uI32 at *; simp only [i32w,i64w] at *; omega)) ?_
 refine wp_skip ?_
 refine qab ?_
 refine qas [(2,.v (.int .i32 (uI32 σ)))] hW12 hE25 fun a26 hE27=>?_
 refine wp_ret ?_
 refine qaV hE27 hW12.cells (v:=.int .i32 (uI32 σ)) kz ?_
 refine ⟨_,_,_,_,rfl,Str.of hW12 0 rfl,(hr21.move (Step.refl _ Nil) nilM qbs),hW12.step,rfl⟩
theorem qe5 (σ:Sg) (hn:(((aN 4 σ).2.length:Nat):Int) < uI32 σ) {br:Nat} {A:Option Addr} {m c:Nat} {w:World} {F:Nat → Nat → Prop} (hst:Str w br [.slice A m c,.bool σ.1]) (hr:RdS w F A m c σ.2) (hFd:∀ b o,F b o → ¬ RdM br b o) :
  Calls Tryd.prog 42 #[.pointer (some ⟨br,0,none⟩)] w (RdPostT w br (Fp F w) badS fun v w'=>v = .int .i32 0):=by
 refine enter (n:=21) Tryd.func42 rfl Tryd.ntmps42 kz fun a hE=>?_
 have hW:WOk w (RdM br) w [⟨br,0,[.slice A m c,.bool σ.1],true⟩] []:=WOk.startStr hst
 have hE1:=(hE.grow ⟨br,0,[.slice A m c,.bool σ.1],true⟩).recast 0 (.v (.pointer (some ⟨br,0,none⟩))) (.p 0 0) rfl rfl (Nat.le_of_ble_eq_true (n:=1) rfl)
 refine qas [(0,.p 0 0)] hW hE1 fun a1 hE2=>?_
 refine qad [0,1,2] kz ?_
 refine qal [0] [1,2] [(0,.p 0 0),(4,.p 0 0)] hW hE2 fun a3 hE4=>?_
 refine qak (qap hE4 (f:=55) (vs:=[.pointer (some ⟨br,0,none⟩)]) (d:=5) kz Tryd.call55 ((qhB σ).go (Str.of hW 0 rfl) (hr.move hW.step (fun b_ o_ h_ _=>hFd b_ o_ h_) (hW.immM hFd)) (qbw 0 rfl)) ?_)
 rintro e_ w5 ⟨_,A6,n7,c8,rfl,hs9,hr10,hst11,rfl⟩
 obtain ⟨hW12,hF13,hl17⟩:=hW.wrote 0 [⟨br,0,[.slice A6 n7 c8,.bool ((aN 4 σ).1)],true⟩] rfl hst11 hs9
 have hr21:=hr10.move (Step.refl _ Nil) nilM hl17
 refine ⟨_,rfl,fun a14 hE15=>?_⟩
 have hE16:EnvOk 21 [⟨br,0,[.slice A6 n7 c8,.bool ((aN 4 σ).1)],true⟩] [(5,.v (.int .i32 (uI32 σ))),(0,.p 0 0),(4,.p 0 0)] _:=hE15.places (⟨rfl,rfl,trivial⟩)
 refine qal [2] [] [(0,.p 0 0),(3,.v (.int .i32 (uI32 σ)))] hW12 hE16 fun a22 hE23=>?_
 refine qaf (qab ?_)
 refine wp_seq ?_
 refine qas [(0,.p 0 0),(3,.v (.int .i32 (uI32 σ))),(13,.v (.bool (decide (((n7:Nat):Int) < (IntKind.i64.wrap (uI32 σ))))))] hW12 hE23 fun a24 hE25=>?_
 refine qaO hE25 (b:=decide (((n7:Nat):Int) < (IntKind.i64.wrap (uI32 σ)))) kz (decide_eq_true (by have h_:=hr21.len; have:=qbG σ; have:=qeR σ; unfold cAL uI32 at *; simp only [i32w,i64w] at *; omega)) ?_
 refine qad [0,1,2,3] kz ?_
 refine qal [0,1,2] [3] [(0,.p 0 0),(16,.p 0 1)] hW12 hE25 fun a26 hE27=>?_
 refine qak (qao hW12 hE27 (oi:=0) (cs:=[.slice A6 n7 c8,.bool true]) kz fun w28 hF29 hW30 hE31=>?_)
 refine qaf (qab ?_)
 refine qad [0,1,2,3] kz ?_
 refine qal [0,1,2] [3] [(19,.p 0 0)] hW30 hE31 fun a32 hE33=>?_
 refine qak (qao hW30 hE33 (oi:=0) (cs:=[.slice none 0 0,.bool true]) kz fun w34 hF35 hW36 hE37=>?_)
 refine qaf (qab ?_)
 refine qas [(2,.v (.int .i32 0))] hW36 hE37 fun a38 hE39=>?_
 refine wp_ret ?_
 refine qaX ?_
 refine qaV hE39 hW36.cells (v:=.int .i32 0) kz ?_
 refine ⟨_,_,_,_,rfl,Str.of hW36 0 rfl,RdS.nil_ _ _,hW36.step,rfl⟩
theorem qdm (σ:Sg) (hn:¬ ((((aUv σ).2.length:Nat):Int) < cAL σ)) {br:Nat} {A:Option Addr} {m c:Nat} {w:World} {F:Nat → Nat → Prop} (hst:Str w br [.slice A m c,.bool σ.1]) (hr:RdS w F A m c σ.2) (hFd:∀ b o,F b o → ¬ RdM br b o) :
  Calls Tryd.prog 41 #[.pointer (some ⟨br,0,none⟩)] w (RdPostT w br (Fp F w) (aUv σ) fun v w'=>v = .int .i32 (cAL σ)):=by
 refine enter (n:=23) Tryd.func41 rfl Tryd.ntmps41 kz fun a hE=>?_
 have hW:WOk w (RdM br) w [⟨br,0,[.slice A m c,.bool σ.1],true⟩] []:=WOk.startStr hst
 have hE1:=(hE.grow ⟨br,0,[.slice A m c,.bool σ.1],true⟩).recast 0 (.v (.pointer (some ⟨br,0,none⟩))) (.p 0 0) rfl rfl (Nat.le_of_ble_eq_true (n:=1) rfl)
 refine qas [(0,.p 0 0)] hW hE1 fun a1 hE2=>?_
 refine qad [0,1,2,3,4] kz ?_
 refine qal [0] [1,2,3,4] [(0,.p 0 0),(4,.p 0 0)] hW hE2 fun a3 hE4=>?_
 refine qak (qap hE4 (f:=56) (vs:=[.pointer (some ⟨br,0,none⟩)]) (d:=5) kz Tryd.call56 ((qcH σ).go (Str.of hW 0 rfl) (hr.move hW.step (fun b_ o_ h_ _=>hFd b_ o_ h_) (hW.immM hFd)) (qbw 0 rfl)) ?_)
 rintro e_ w5 ⟨_,A6,n7,c8,rfl,hs9,hr10,hst11,rfl⟩
 obtain ⟨hW12,hF13,hl17⟩:=hW.wrote 0 [⟨br,0,[.slice A6 n7 c8,.bool ((aUv σ).1)],true⟩] rfl hst11 hs9
 have hr21:=hr10.move (Step.refl _ Nil) nilM hl17
 refine ⟨_,rfl,fun a14 hE15=>?_⟩
 have hE16:EnvOk 23 [⟨br,0,[.slice A6 n7 c8,.bool ((aUv σ).1)],true⟩] [(5,.v (.int .u32 ((uUv σ:Nat):Int))),(0,.p 0 0),(4,.p 0 0)] _:=hE15.places (⟨rfl,rfl,trivial⟩)
 refine qal [2,3,4] [] [(0,.p 0 0),(3,.v (.int .i32 (IntKind.i32.wrap ((IntKind.i32.wrap ((uUv σ:Nat):Int)) - 1))))] hW12 hE16 fun a22 hE23=>?_
 refine qaf (qab ?_)
 refine wp_seq ?_
 refine qas [(0,.p 0 0),(3,.v (.int .i32 (IntKind.i32.wrap ((IntKind.i32.wrap ((uUv σ:Nat):Int)) - 1)))),(15,.v (.bool (decide (((n7:Nat):Int) < (IntKind.i64.wrap (IntKind.i32.wrap ((IntKind.i32.wrap ((uUv σ:Nat):Int)) - 1)))))))] hW12 hE23 fun a24 hE25=>?_
 refine qam hE25 (b:=decide (((n7:Nat):Int) < (IntKind.i64.wrap (IntKind.i32.wrap ((IntKind.i32.wrap ((uUv σ:Nat):Int)) - 1))))) kz (decide_eq_false (by have h_:=hr21.len; have:=qbG σ; have:=qeR σ; unfold cAL at *; simp only [i32w,i64w] at *; omega)) ?_
 refine wp_skip ?_
 refine qab ?_
 refine qas [(2,.v (.int .i32 (IntKind.i32.wrap ((IntKind.i32.wrap ((uUv σ:Nat):Int)) - 1))))] hW12 hE25 fun a26 hE27=>?_
 refine wp_ret ?_
 refine qaV hE27 hW12.cells (v:=.int .i32 (IntKind.i32.wrap ((IntKind.i32.wrap ((uUv σ:Nat):Int)) - 1))) kz ?_
 refine ⟨_,_,_,_,rfl,Str.of hW12 0 rfl,(hr21.move (Step.refl _ Nil) nilM qbs),hW12.step,rfl⟩
theorem qdn (σ:Sg) (hn:(((aUv σ).2.length:Nat):Int) < cAL σ) {br:Nat} {A:Option Addr} {m c:Nat} {w:World} {F:Nat → Nat → Prop} (hst:Str w br [.slice A m c,.bool σ.1]) (hr:RdS w F A m c σ.2) (hFd:∀ b o,F b o → ¬ RdM br b o) :
  Calls Tryd.prog 41 #[.pointer (some ⟨br,0,none⟩)] w (RdPostT w br (Fp F w) badS fun v w'=>v = .int .i32 0):=by
 refine enter (n:=23) Tryd.func41 rfl Tryd.ntmps41 kz fun a hE=>?_
 have hW:WOk w (RdM br) w [⟨br,0,[.slice A m c,.bool σ.1],true⟩] []:=WOk.startStr hst
 have hE1:=(hE.grow ⟨br,0,[.slice A m c,.bool σ.1],true⟩).recast 0 (.v (.pointer (some ⟨br,0,none⟩))) (.p 0 0) rfl rfl (Nat.le_of_ble_eq_true (n:=1) rfl)
 refine qas [(0,.p 0 0)] hW hE1 fun a1 hE2=>?_
 refine qad [0,1,2,3,4] kz ?_
 refine qal [0] [1,2,3,4] [(0,.p 0 0),(4,.p 0 0)] hW hE2 fun a3 hE4=>?_
 refine qak (qap hE4 (f:=56) (vs:=[.pointer (some ⟨br,0,none⟩)]) (d:=5) kz Tryd.call56 ((qcH σ).go (Str.of hW 0 rfl) (hr.move hW.step (fun b_ o_ h_ _=>hFd b_ o_ h_) (hW.immM hFd)) (qbw 0 rfl)) ?_)
 rintro e_ w5 ⟨_,A6,n7,c8,rfl,hs9,hr10,hst11,rfl⟩
 obtain ⟨hW12,hF13,hl17⟩:=hW.wrote 0 [⟨br,0,[.slice A6 n7 c8,.bool ((aUv σ).1)],true⟩] rfl hst11 hs9
 have hr21:=hr10.move (Step.refl _ Nil) nilM hl17
 refine ⟨_,rfl,fun a14 hE15=>?_⟩
 have hE16:EnvOk 23 [⟨br,0,[.slice A6 n7 c8,.bool ((aUv σ).1)],true⟩] [(5,.v (.int .u32 ((uUv σ:Nat):Int))),(0,.p 0 0),(4,.p 0 0)] _:=hE15.places (⟨rfl,rfl,trivial⟩)
 refine qal [2,3,4] [] [(0,.p 0 0),(3,.v (.int .i32 (IntKind.i32.wrap ((IntKind.i32.wrap ((uUv σ:Nat):Int)) - 1))))] hW12 hE16 fun a22 hE23=>?_
 refine qaf (qab ?_)
 refine wp_seq ?_
 refine qas [(0,.p 0 0),(3,.v (.int .i32 (IntKind.i32.wrap ((IntKind.i32.wrap ((uUv σ:Nat):Int)) - 1)))),(15,.v (.bool (decide (((n7:Nat):Int) < (IntKind.i64.wrap (IntKind.i32.wrap ((IntKind.i32.wrap ((uUv σ:Nat):Int)) - 1)))))))] hW12 hE23 fun a24 hE25=>?_
 refine qaO hE25 (b:=decide (((n7:Nat):Int) < (IntKind.i64.wrap (IntKind.i32.wrap ((IntKind.i32.wrap ((uUv σ:Nat):Int)) - 1))))) kz (decide_eq_true (by have h_:=hr21.len; have:=qbG σ; have:=qeR σ; unfold cAL at *; simp only [i32w,i64w] at *; omega)) ?_
 refine qad [0,1,2,3] kz ?_
 refine qal [0,1,2] [3] [(0,.p 0 0),(18,.p 0 1)] hW12 hE25 fun a26 hE27=>?_
 refine qak (qao hW12 hE27 (oi:=0) (cs:=[.slice A6 n7 c8,.bool true]) kz fun w28 hF29 hW30 hE31=>?_)
 refine qaf (qab ?_)
 refine qad [0,1,2,3] kz ?_
 refine qal [0,1,2] [3] [(21,.p 0 0)] hW30 hE31 fun a32 hE33=>?_
 refine qak (qao hW30 hE33 (oi:=0) (cs:=[.slice none 0 0,.bool true]) kz fun w34 hF35 hW36 hE37=>?_)
 refine qaf (qab ?_)
 refine qas [(2,.v (.int .i32 0))] hW36 hE37 fun a38 hE39=>?_
 refine wp_ret ?_
 refine qaX ?_
 refine qaV hE39 hW36.cells (v:=.int .i32 0) kz ?_
 refine ⟨_,_,_,_,rfl,Str.of hW36 0 rfl,RdS.nil_ _ _,hW36.step,rfl⟩
theorem qeA {ev:Value} {br:Nat} {A:Option Addr} {m c:Nat} {w:World} {F:Nat → Nat → Prop} (hst:Str w br [.slice A m c,.bool true]) (hg:AtF w F 0 0 [ev]) (hFd:∀ b o,F b o → ¬ RdM br b o) :
  Calls Tryd.prog 44 #[.pointer (some ⟨br,0,none⟩)] w (fun e w'=>e = .returned ev ∧ w' = w):=by
 refine enter (n:=8) Tryd.func44 rfl Tryd.ntmps44 kz fun a hE=>?_
 have hW:WOk w (RdM br) w [⟨br,0,[.slice A m c,.bool true],true⟩] []:=WOk.startStr hst
 have hE1:=(hE.grow ⟨br,0,[.slice A m c,.bool true],true⟩).recast 0 (.v (.pointer (some ⟨br,0,none⟩))) (.p 0 0) rfl rfl (Nat.le_of_ble_eq_true (n:=1) rfl)
 refine qas [(0,.p 0 0)] hW hE1 fun a1 hE2=>?_
 refine wp_seq ?_
 refine qas [(6,.v (.bool true))] hW hE2 fun a3 hE4=>?_
 refine qaO hE4 (b:=true) kz rfl ?_
 refine qad [0,1] kz ?_
 refine qak (qat hE4 (t:=44) (b:=0) (o:=0) (d:=7) kz (cs:=[ev]) (v:=ev) kz (AtF.move hg hW.step (fun b_ o_ h_ _=>hFd b_ o_ h_) qaI).at_ fun a5 hE6=>?_)
 refine qal [1] [] [(2,.v (ev))] hW hE6 fun a7 hE8=>?_
 refine qaf (qab ?_)
 refine wp_ret ?_
 refine qaX ?_
 refine qaV hE8 hW.cells (v:=ev) kz ?_
 exact ⟨rfl,rfl⟩
theorem uOk_ (σ:Sg)  {br:Nat} {A:Option Addr} {m c:Nat} {w:World} {F:Nat → Nat → Prop} (hst:Str w br [.slice A m c,.bool σ.1]) (hr:RdS w F A m c σ.2) (hFd:∀ b o,F b o → ¬ RdM br b o) :
  Calls Tryd.prog 43 #[.pointer (some ⟨br,0,none⟩)] w (RdPostT w br (Fp F w) σ fun v w'=>v = .bool (!σ.1)):=by
 refine enter (n:=8) Tryd.func43 rfl Tryd.ntmps43 kz fun a hE=>?_
 have hW:WOk w (RdM br) w [⟨br,0,[.slice A m c,.bool σ.1],true⟩] []:=WOk.startStr hst
 have hE1:=(hE.grow ⟨br,0,[.slice A m c,.bool σ.1],true⟩).recast 0 (.v (.pointer (some ⟨br,0,none⟩))) (.p 0 0) rfl rfl (Nat.le_of_ble_eq_true (n:=1) rfl)
 refine qas [(0,.p 0 0)] hW hE1 fun a1 hE2=>?_
 refine qas [(2,.v (.bool (!σ.1)))] hW hE2 fun a3 hE4=>?_
 refine wp_ret ?_
 refine qaV hE4 hW.cells (v:=.bool (!σ.1)) kz ?_
 refine ⟨_,_,_,_,rfl,Str.of hW 0 rfl,((hr.move hW.step (fun b_ o_ h_ _=>hFd b_ o_ h_) (hW.immM hFd)).move (Step.refl _ Nil) nilM qbs),hW.step,rfl⟩
theorem qhW (σ:Sg):RPrim0U Tryd.prog 49 σ (aStr σ) (.string (bs (uStr σ))):=⟨mn_Str.len σ,fun hst hr hF=>qhe σ hst hr hF⟩
theorem qer (σ:Sg):RPrim0U Tryd.prog 48 σ (qfl σ) (.string (bs (qfk σ))):=⟨mn_CStr.len σ,fun hst hr hF=>qei σ hst hr hF⟩
theorem qej (σ:Sg):RPrimU Tryd.prog 40 σ (qfm σ) (fun A:Option Addr=>.pointer A) (fun A=>andF (qcR A ((qeQ σ).getD [])) (isF (A.isNone = (qeQ σ).isNone))):=⟨mn_NStr.len σ,fun hst hr hF=>by
 unfold qfm qeQ
 by_cases h:uI16 σ < 0
 ·simp only [if_pos h]
  refine (qdM σ h hst hr hF).mono fun e w' hp=>hp.q fun v w' h=>?_
  obtain ⟨A,h1,h2,h3⟩:=h
  exact ⟨A,h1,h2,h3⟩
 simp only [if_neg h]
 refine (qdN σ h hst hr hF).mono fun e w' hp=>hp.q fun v w' h=>?_
 obtain ⟨A,h1,h2,h3⟩:=h
 exact ⟨A,h1,h2,h3⟩⟩
theorem qcU (σ:Sg):RPrimU Tryd.prog 38 σ (qeg σ) (fun A:Option Addr=>.pointer A) (fun A=>andF (qcR A ((qdA σ).getD [])) (isF (A.isNone = (qdA σ).isNone))):=⟨mn_CNStr.len σ,fun hst hr hF=>by
 unfold qeg qdA
 by_cases h:((uUv σ:Nat):Int) - 1 < 0
 ·simp only [if_pos h]
  refine (qcL σ h hst hr hF).mono fun e w' hp=>hp.q fun v w' h=>?_
  obtain ⟨A,h1,h2,h3⟩:=h
  exact ⟨A,h1,h2,h3⟩
 simp only [if_neg h]
 refine (qcM σ h hst hr hF).mono fun e w' hp=>hp.q fun v w' h=>?_
 obtain ⟨A,h1,h2,h3⟩:=h
 exact ⟨A,h1,h2,h3⟩⟩
theorem qeU (σ:Sg):RPrim0U Tryd.prog 47 σ (aStr σ) (.string (bs (uStr σ))):=⟨mn_Str.len σ,fun hst hr hF=>qeq σ hst hr hF⟩
theorem qdd (σ:Sg):RPrim0U Tryd.prog 46 σ (qfl σ) (.string (bs (qfk σ))):=⟨mn_CStr.len σ,fun hst hr hF=>qc3 σ hst hr hF⟩
theorem qc4 (σ:Sg):RPrimU Tryd.prog 39 σ (qfm σ) (fun A:Option Addr=>.pointer A) (fun A=>andF (qcR A ((qeQ σ).getD [])) (isF (A.isNone = (qeQ σ).isNone))):=⟨mn_NStr.len σ,fun hst hr hF=>by
 unfold qfm qeQ
 by_cases h:uI16 σ < 0
 ·simp only [if_pos h]
  refine (qcS σ h hst hr hF).mono fun e w' hp=>hp.q fun v w' h=>?_
  obtain ⟨A,h1,h2,h3⟩:=h
  exact ⟨A,h1,h2,h3⟩
 simp only [if_neg h]
 refine (qcT σ h hst hr hF).mono fun e w' hp=>hp.q fun v w' h=>?_
 obtain ⟨A,h1,h2,h3⟩:=h
 exact ⟨A,h1,h2,h3⟩⟩
theorem qcx (σ:Sg):RPrimU Tryd.prog 37 σ (qeg σ) (fun A:Option Addr=>.pointer A) (fun A=>andF (qcR A ((qdA σ).getD [])) (isF (A.isNone = (qdA σ).isNone))):=⟨mn_CNStr.len σ,fun hst hr hF=>by
 unfold qeg qdA
 by_cases h:((uUv σ:Nat):Int) - 1 < 0
 ·simp only [if_pos h]
  refine (qcq σ h hst hr hF).mono fun e w' hp=>hp.q fun v w' h=>?_
  obtain ⟨A,h1,h2,h3⟩:=h
  exact ⟨A,h1,h2,h3⟩
 simp only [if_neg h]
 refine (qcr σ h hst hr hF).mono fun e w' hp=>hp.q fun v w' h=>?_
 obtain ⟨A,h1,h2,h3⟩:=h
 exact ⟨A,h1,h2,h3⟩⟩
theorem qgz (σ:Sg):RPrim0U Tryd.prog 42 σ (aAL σ) (.int .i32 (uAL σ)):=⟨mn_AL.len σ,fun hst hr hF=>by
 unfold aAL uAL
 by_cases h:(((aN 4 σ).2.length:Nat):Int) < uI32 σ
 ·simp only [if_pos h]
  exact qe5 σ h hst hr hF
 simp only [if_neg h]
 exact qe4 σ h hst hr hF⟩
theorem qdU (σ:Sg):RPrim0U Tryd.prog 41 σ (aCAL σ) (.int .i32 (uCAL σ)):=⟨mn_CAL.len σ,fun hst hr hF=>by
 unfold aCAL uCAL
 by_cases h:(((aUv σ).2.length:Nat):Int) < cAL σ
 ·simp only [if_pos h]
  exact qdn σ h hst hr hF
 simp only [if_neg h]
 exact qdm σ h hst hr hF⟩
theorem qOk (σ:Sg):RPrim0U Tryd.prog 43 σ σ (.bool (!σ.1)):=⟨Nat.le_refl _,fun hst hr hF=>uOk_ σ hst hr hF⟩
theorem qid (σ:Sg):RPrim0U Tryd.prog 51 σ (aN 8 σ) (.int .i64 (uI64 σ)):=⟨(mn_N 8).len σ,fun hst hr hF=>qhV σ hst hr hF⟩
end Go.Proofs.YtmpejmiiphddhaaDoorR.ME
namespace Go.Proofs.YtmpejmiiphddhaaDoorR.ME
open Go
open Go.RowKit
open Go.ChangeMaps (setBlock)
set_option linter.unusedVariables false
set_option linter.unusedSimpArgs false
set_option maxRecDepth 20000
abbrev cloV (fc:Nat) (cap:Value):Value:=.func (.func fc) #[] #[cap]
theorem qie {fc:Nat} {cap:Value} {m:Option Nat} {u:List (Int × Bs)} {b o:Nat} {w:World} {F M:Nat → Nat → Prop} (hcf:∀ args w,(callFunc fc args).run Tryd.prog w = .ok (.enter fc args) w) (I:World → Nat → World → Prop) (hat:AtF w F b o [.map m]) (hm:MapR w F m u) (hMF:∀ b o,F b o → ¬ M b o) (hMlt:∀ b o,M b o → b < w.heap.size)
  (hI0:∀ w7,Step w w7 Nil → I w7 0 w7) (hIs:∀ w7 j w8,I w7 j w8 → Step w7 w8 M)
  (hI1:∀ w7,Step w w7 Nil → ∀ j k x w8 Ax cx,I w7 j w8 → u[j]? = some (k,x) → (0 ≤ k ∧ k < 4294967296) → Octs w8 (fun b o=>F b o ∧ b < w7.heap.size) Ax cx x → Calls Tryd.prog fc [.int .u32 k,.slice Ax x.length cx,cap].toArray w8 (fun e w9=>e = .returned (.tuple #[]) ∧ I w7 (j + 1) w9)) (hul:u.length ≤ 1000000) :
  Calls Tryd.prog 31 [.pointer (some ⟨b,o,none⟩),cloV fc cap].toArray w (fun e w'=>e = .returned (.tuple #[]) ∧ ∃ w7,Step w w7 Nil ∧ I w7 u.length w'):=by
 refine enter (n:=53) Tryd.func31 rfl Tryd.ntmps31 kz fun a hE=>?_
 have hW:WOk w Nil w [⟨b,o,[.map m],false⟩] []:=(WOk.start w Nil).start1 hat rfl rfl
 refine wp_seq (wp_seq ?_)
 refine qaF [0,1,2,3,4,5] kz ?_
 refine qbu [0,1,2,3] [4,5] [0,1,11] hW (EnvOk.ptr0 (cs:=[.map m]) (r:=false) hE) (env':=[(0,.p 0 0),(1,.v (cloV fc cap)),(11,.v (.map m))]) kz rfl fun a1 hE1=>?_
 refine qak (qeY (t:=57) (kt:=48) (et:=22) hE1 (m:=m) (d:=12) kz kz hm fun a2 hE2=>?_)
 refine qbu [5] [] [0,1,13] hW hE2 (env':=[(0,.p 0 0),(1,.v (cloV fc cap)),(13,.v (.bool (((u.length:Nat):Int) == 0)))]) kz rfl fun a3 hE3=>qaf (qab ?_)
 refine qaY hE3 (b:=((u.length:Nat):Int) == 0) kz (fun hb=>?_) (fun hb=>?_)
 ·-- none
  have hu:u = []:=List.eq_nil_of_length_eq_zero (by have:=eq_of_beq hb; omega)
  subst hu
  refine wp_ret (qaX ?_)
  exact qaV hE3 hW.cells (v:=.tuple #[]) kz ⟨rfl,w,Step.refl _ _,hI0 w (Step.refl _ _)⟩
 have hu0:0 < u.length:=by have:=ne_of_beq_false hb; omega
 cases m with
 | none=>rw [hm.none_ rfl] at hu0; cases hu0
 | some mb =>
 obtain ⟨hFm,es,clk,hes,hperm,hborn,hnod,hcont⟩:=hm.some_ mb rfl
 have hmlt:mb < w.heap.size:=(Array.getElem?_eq_some_iff.1 hes).1
 have hesz:es.size = u.length:=MapR.size (w:=w) (F:=F) hperm
 refine wp_skip (qab ?_)
 refine qad [0,1,2,3,4,5,6,7] kz ?_
 refine qbu [0,1,2,3] [4,5,6,7] [0,1,17] hW hE3 (env':=[(0,.p 0 0),(1,.v (cloV fc cap)),(17,.v (.map (some mb)))]) kz rfl fun a4 hE4=>?_
 refine qak (qeY (t:=57) (kt:=48) (et:=22) hE4 (m:=some mb) (d:=18) kz kz hm fun a5 hE5=>?_)
 refine qak (qfQ (e:=48) (size:=1) (bytes:=4) (j:=u.length) (t:=84) (d:=19) hW hE5 (p:=0) (q:=((u.length:Nat):Int)) kz kz rfl rfl (by omega) fun kr a6 w1 hkr hkr0 hF1 hW1 hE6=>?_)
 refine qak (qaH hW1 hE6 (d:=4) (cs:=[.slice none 0 0]) kz fun kb a7 w2 hkb hkb0 hF2 hW2 hE7=>?_)
 refine qak (qao hW2 hE7 (oi:=1) (cs:=[.slice (some ⟨kr,0,none⟩) 0 u.length]) kz fun w3 hF3 hW3 hE8=>qaf (qab ?_))
 refine wp_seq (qad [0,1,2,3,4] kz ?_)
 refine qbu [0,1,2,3] [4] [0,1,4,23] hW3 hE8 (env':=[(0,.p 0 0),(1,.v (cloV fc cap)),(4,.p 1 0),(23,.v (.map (some mb)))]) kz rfl fun a8 hE9=>?_
 have hes3:=hW3.step.heap (fun o h=>h) hes
 refine qak (qfS (t:=57) (kt:=48) (et:=22) (d:=24) (r:=mb) hE9 kz kz hes3 fun a9 hE10=>qaf (qab ?_))
 have hW4:=hW3.next_nil (Step.alloc w3 (.mapIter (some mb) clk #[] clk))
 have hr4:(w3.alloc (.mapIter (some mb) clk #[] clk)).heap[w3.heap.size]? = some (.mapIter (some mb) clk #[] clk):=qc9 _ _
 have hE11:=hE10.pick (ks:=[0,1,4,24]) (env':=[(0,.p 0 0),(1,.v (cloV fc cap)),(4,.p 1 0),(24,.v (.pointer (some ⟨w3.heap.size,0,none⟩)))]) kz
 have hrlt:w3.heap.size < (w3.alloc (.mapIter (some mb) clk #[] clk)).heap.size:=by rw [qdF]; omega
 have hr0:w.heap.size ≤ w3.heap.size:=hW3.step.size
 have hkbr:kb ≠ w3.heap.size:=by have:=hW3.live 1 _ rfl; show ¬ _; intro e; rw [← e] at this; exact absurd this (Nat.lt_irrefl _)
 have hkrr:kr ≠ w3.heap.size:=by have:=qbF (hW3.own 0 _ rfl) (g:=kr) rfl; omega
 generalize hR:w3.heap.size = R at hr4 hE11 hrlt hkbr hkrr
 generalize hw4:w3.alloc (.mapIter (some mb) clk #[] clk) = w4 at hW4 hr4 hrlt
 refine wp_block ?_
 refine wp_loop_ghost (fun q a_ w_=>∃ (vis:List MapEntry) (seen:Array Nat) (K:Option Addr) (kc c0:Nat),q = (leftOf es seen).size ∧ Vis es.toList vis seen ∧ vis.length + (leftOf es seen).size ≤ es.size ∧
   EnvOk 53 [⟨b,o,[.map (some mb)],false⟩,⟨kb,0,[.slice K vis.length kc],true⟩] [(0,.p 0 0),(1,.v (cloV fc cap)),(4,.p 1 0),(24,.v (.pointer (some ⟨R,0,none⟩)))] a_ ∧
   WOk w Nil w_ [⟨b,o,[.map (some mb)],false⟩,⟨kb,0,[.slice K vis.length kc],true⟩] [⟨K,kc,48,1,vis.length,(vis.map fun e=>kOf e.key).map (Value.int .u32)⟩] ∧
   w_.heap[R]? = some (.mapIter (some mb) clk seen c0) ∧ clk ≤ c0 ∧ K.map (·.block) ≠ some R) (leftOf es #[]).size
  ⟨[],#[],some ⟨kr,0,none⟩,u.length,clk,rfl,Vis.nil _,by rw [List.length_nil,Nat.zero_add]; exact Array.size_filter_le,by rw [← hw4] at *; exact hE11,hW4,hr4,Nat.le_refl _,by simpa using hkrr⟩ ?_
 rintro q a10 w5 ⟨vis,seen,K,kc,c0,rfl,hv,hvl,hE12,hW5,hr5,hc0,hKR⟩
 have hes5:=hW5.step.heap (fun o h=>h) hes
 refine qad [0,1] kz ?_
 refine qak (qgk hE12 (d:=25) (r:=R) kz hr5 hes5 hborn hc0 (fun h0 a11 hE13=>?_) (fun e he w6 hw6 a11 hE13=>?_))
 ·-- behind it
  refine qbu [1] [] [0,1,4,26] hW5 hE13 (env':=[(0,.p 0 0),(1,.v (cloV fc cap)),(4,.p 1 0),(26,.v (.bool false))]) kz rfl fun a12 hE14=>qaf (qab (wp_seq ?_))
  refine qaY hE14 (b:=false) kz (fun hb=>by cases hb) (fun _=>?_)
  refine wp_exit (qaR (qaR (qbn (qab ?_))))
  have hpe:=hv.all h0 hnod
  have hvu:vis.length = u.length:=by rw [hpe.length_eq,Array.length_toList,hesz]
  have hkp:(vis.map fun e=>kOf e.key).Perm (u.map Prod.fst):=by
   have h1:=(hpe.map fun e=>kOf e.key)
   have h2:=hperm.map kOf
   rw [List.map_map,List.map_map] at h2
   exact h1.trans h2
  have hkl:(vis.map fun e=>kOf e.key).length = vis.length:=by simp
  generalize (vis.map fun e=>kOf e.key) = ks at hkp hkl hW5
  have hown4:w5.ownsRow 0 48 1 (.slice K vis.length kc) vis.length (ks.map (Value.int .u32)):=hW5.own 0 _ rfl
  obtain ⟨g,rfl⟩:=qeJ hown4 (by omega)
  have hown5:w5.ownsRow 0 48 1 (.slice (some ⟨g,0,none⟩) vis.length kc) vis.length (ks.map (Value.int .u32)):=hown4
  have hg0:w.heap.size ≤ g:=by
   rcases hW5.ownM 0 _ rfl g rfl with h | h
   ·exact h
   exact (h 0).elim
  refine qad [0,1,2,3] kz ?_
  refine qbu [0,1] [2,3] [0,1,4,34] hW5 hE14 (env':=[(0,.p 0 0),(1,.v (cloV fc cap)),(4,.p 1 0),(34,.v (.iface 84 (.slice (some ⟨g,0,none⟩) vis.length kc)))]) kz rfl fun a13 hE15=>?_
  refine qak (qeK hE15 (v:=.func (.func 54) #[] #[.pointer (some ⟨kb,0,none⟩)]) (d:=35) kz fun a14 hE16=>?_)
  have hS:=Tryd.sortKeys g kc kb ks.toArray (by simp; omega) (by simp; omega) w5 (by simp only [List.size_toArray,hkl]; exact hW5.cells 1 _ rfl 0 _ rfl) (fun e=>hW5.rtb 0 _ rfl g rfl 1 _ rfl e) (qeZ hkl hown5) (qbF (hW5.own 0 _ rfl) (g:=g) rfl) (hW5.live 1 _ rfl)
  rw [List.size_toArray,hkl] at hS
  refine qak (qap hE16 (f:=53) (vs:=[.iface 84 (.slice (some ⟨g,0,none⟩) vis.length kc),.func (.func 54) #[] #[.pointer (some ⟨kb,0,none⟩)]]) (d:=36) kz Tryd.call53 hS ?_)
  rintro e_ w7 ⟨rfl,d',nd,os,hd1,hd2,hd3,rfl⟩
  refine ⟨_,rfl,fun a15 hE17=>qaf (qab ?_)⟩
  have hus:d'.toList = u.map Prod.fst:=qgl hd2 (by rw [hd1]; exact hd3) hkp (List.pairwise_map.2 hm.sorted)
  obtain ⟨hst7,hown7⟩:=qgX (n:=nd) (os:=os) hkl hown5 (by rw [hd1,hkl])
  rw [hus] at hown7
  generalize Sort.grow (Sort.putRow (Value.int .u32) (Sort.ahead w5 nd) g 0 d') os = w7 at hst7 hown7
  have hW7:WOk w Nil w7 [⟨b,o,[.map (some mb)],false⟩,⟨kb,0,[.slice (some ⟨g,0,none⟩) vis.length kc],true⟩] [⟨some ⟨g,0,none⟩,kc,48,1,vis.length,(u.map Prod.fst).map (Value.int .u32)⟩] :=
   hW5.grow (k:=0) (r':=⟨some ⟨g,0,none⟩,kc,48,1,vis.length,(u.map Prod.fst).map (Value.int .u32)⟩) rfl (hst7.mono fun b' _ _ hb'=>by rw [hb']; rfl) hown7 (fun g' h=>.inl h)
  refine qad [0,1,2] kz ?_
  refine qbu [0,1,2] [] [0,1,37,38,39] hW7 hE17 (env':=[(0,.p 0 0),(1,.v (cloV fc cap)),(37,.v (.slice (some ⟨g,0,none⟩) vis.length kc)),(38,.v (.int .i64 ((vis.length:Nat):Int))),(39,.v (.int .i64 0))]) kz rfl fun a16 hE18=>qaf (qab ?_)
  have hE19:=EnvOk.cutTb 1 hE18 kz
  have hat7:=hat.move hW7.step nilM qaI
  have hm7:=hm.move hW7.step nilM qaI
  have hg7:g < w7.heap.size:=qbF (hW7.own 0 _ rfl) (g:=g) rfl
  have hkeys:=qeZ (by simpa using hvu.symm) hown7
  rw [hvu] at hE19
  refine wp_block ?_
  refine wp_loop_ghost (fun q a_ w_=>∃ (j:Nat),q = u.length - j ∧ j ≤ u.length ∧ EnvOk 53 [⟨b,o,[.map (some mb)],false⟩] [(0,.p 0 0),(1,.v (cloV fc cap)),(37,.v (.slice (some ⟨g,0,none⟩) u.length kc)),(38,.v (.int .i64 ((u.length:Nat):Int))),(39,.v (.int .i64 ((j:Nat):Int)))] a_ ∧
   I w7 j w_) u.length
   ⟨0,by omega,by omega,hE19,hI0 w7 hW7.step⟩ ?_
  rintro q a17 w8 ⟨j,rfl,hj,hE20,hD⟩
  have hS8:=hIs w7 j w8 hD
  have hat8:=hat7.move hS8 (fun b o hf _=>hMF b o hf) qaI
  have hm8:MapR w8 (fun b' o'=>F b' o' ∧ b' < w7.heap.size) (some mb) u:=hm7.move hS8 (fun b o hf _=>hMF b o hf) (fun b' o' hf hl=>⟨hf,hl⟩)
  have hW8:WOk w8 Nil w8 [⟨b,o,[.map (some mb)],false⟩] []:=(WOk.start w8 Nil).start1 hat8 rfl rfl
  refine qad [0] kz (qbu [0] [] [0,1,37,38,39,40] hW8 hE20 (env':=[(0,.p 0 0),(1,.v (cloV fc cap)),(37,.v (.slice (some ⟨g,0,none⟩) u.length kc)),(38,.v (.int .i64 ((u.length:Nat):Int))),(39,.v (.int .i64 ((j:Nat):Int))),(40,.v (.bool (decide (((j:Nat):Int) < ((u.length:Nat):Int)))))]) kz rfl fun a18 hE21=>qaf (qab (wp_seq ?_)))
  refine qaY hE21 (b:=decide (((j:Nat):Int) < ((u.length:Nat):Int))) kz (fun hc=>?_) (fun hc=>?_)
  ·have hlt:j < u.length:=by have:=of_decide_eq_true hc; omega
   refine wp_skip (qab (wp_seq (wp_block ?_)))
   obtain ⟨⟨k,x⟩,hu⟩:∃ y,u[j]? = some y:=⟨_,List.getElem?_eq_getElem hlt⟩
   have hmem:=List.mem_of_getElem? hu
   have hkr:=hm.range _ hmem
   have hcell:At w8 g (0 + j * 1) [.int .u32 k]:=by
    intro i v hi
    have hi0:i = 0:=by
     have:=(List.getElem?_eq_some_iff.1 hi).1
     simp at this; omega
    subst hi0
    simp only [List.getElem?_cons_zero,Option.some.injEq] at hi
    subst hi
    refine hS8.cell (fun hbm=>?_) ?_
    ·have:=hMlt _ _ hbm; omega
    have h1:=(hkeys j (by simpa using hlt)).1
    have h2:(u.map Prod.fst).toArray[j]! = k:=by
     rw [getElem!_pos _ j (by simpa using hlt)]
     have:(u.map Prod.fst)[j]? = some k:=by rw [List.getElem?_map,hu]; rfl
     simpa using (List.getElem?_eq_some_iff.1 this).2
    rw [h2] at h1
    simpa using h1
   refine qad [0,1,2] kz ?_
   refine qak (qan hE21 (t:=84) (e:=48) (size:=1) (bytes:=4) (d:=41) (b:=g) (o:=0) (m:=u.length) (j:=j) kz kz rfl rfl hlt fun a19 hE22=>?_)
   refine qak (qat hE22 (t:=48) (d:=42) (cs:=[.int .u32 k]) (v:=.int .u32 k) kz kz hcell fun a20 hE23=>?_)
   refine qbu [2] [] [0,1,37,38,39,7] hW8 hE23 (env':=[(0,.p 0 0),(1,.v (cloV fc cap)),(37,.v (.slice (some ⟨g,0,none⟩) u.length kc)),(38,.v (.int .i64 ((u.length:Nat):Int))),(39,.v (.int .i64 ((j:Nat):Int))),(7,.v (.int .u32 k))]) kz rfl fun a21 hE24=>qaf (qab ?_)
   refine qaF [0,1,2,3,4,5,6,7,8] kz ?_
   refine qbu [0,1,2,3,4,5,6] [7,8] [0,1,37,38,39,43,44,48,49] hW8 hE24 (env':=[(0,.p 0 0),(1,.v (cloV fc cap)),(37,.v (.slice (some ⟨g,0,none⟩) u.length kc)),(38,.v (.int .i64 ((u.length:Nat):Int))),(39,.v (.int .i64 ((j:Nat):Int))),(43,.v (cloV fc cap)),(44,.v (.int .u32 k)),(48,.v (.map (some mb))),(49,.v (.int .u32 k))]) kz rfl fun a22 hE25=>?_
   refine qak (qgi hE25 (t:=57) (kt:=48) (et:=22) (m:=some mb) (k:=k) (s:=x) (d:=50) kz kz kz hm8 hmem fun a23 Ax cx hox hE26=>?_)
   refine qak (qap hE26 (f:=fc) (vs:=[.int .u32 k,.slice Ax x.length cx,cap]) (d:=51) kz hcf (hI1 w7 hW7.step j k x w8 Ax cx hD hu hkr hox) ?_)
   rintro e_ w9 ⟨rfl,hD2⟩
   refine ⟨_,rfl,fun a24 hE27=>qaf (qa8 (qab ?_))⟩
   have hS9:=hIs w7 (j + 1) w9 hD2
   have hat9:=hat7.move hS9 (fun b o hf _=>hMF b o hf) qaI
   have hW9:WOk w9 Nil w9 [⟨b,o,[.map (some mb)],false⟩] []:=(WOk.start w9 Nil).start1 hat9 rfl rfl
   refine qaF [0,1] kz (qbu [0,1] [] [0,1,37,38,39] hW9 hE27 (env':=[(0,.p 0 0),(1,.v (cloV fc cap)),(37,.v (.slice (some ⟨g,0,none⟩) u.length kc)),(38,.v (.int .i64 ((u.length:Nat):Int))),(39,.v (.int .i64 (IntKind.i64.wrap (((j:Nat):Int) + 1))))]) kz rfl fun a25 hE28=>qaf (qab ?_))
   rw [qbK (by omega)] at hE28
   exact ⟨u.length - (j + 1),by omega,j + 1,rfl,by omega,hE28,hD2⟩
  obtain rfl:j = u.length:=by have:=of_decide_eq_false hc; omega
  refine wp_exit (qaR (qaR (qbn ?_)))
  exact qbk hE21 hW8.cells (v:=.tuple #[]) kz ⟨rfl,w7,hW7.step,hD⟩
 -- one more
 have hst6:Step w5 w6 Nil:=by
  rcases hw6 with rfl | rfl
  ·exact Step.refl _ _
  exact Step.drew _
 have hr6:w6.heap[R]? = some (.mapIter (some mb) clk seen c0):=hst6.heap (fun o h=>h) hr5
 have hW6:=hW5.next_nil hst6
 obtain ⟨hml,_⟩:=mem_left he
 obtain ⟨k,sx,Ax,cx,hk1,hk2,hk3,hk4⟩:=hcont e hml
 have hR6:R < w6.heap.size:=(Array.getElem?_eq_some_iff.1 hr6).1
 have hW7:WOk w Nil (setBlock w6 R (.mapIter (some mb) clk (seen.push e.born) clk)) [⟨b,o,[.map (some mb)],false⟩,⟨kb,0,[.slice K vis.length kc],true⟩] [⟨K,kc,48,1,vis.length,(vis.map fun e=>kOf e.key).map (Value.int .u32)⟩]:=by
  refine hW6.next (Step.setBlock w6 R _) (fun b' o' hb' hN=>by omega) (fun i ob hi j hj hN=>?_) (fun i q hi g' hg' o' hN=>?_)
  ·match i,hi with
   | 0,hi =>
    simp only [List.getElem?_cons_zero,Option.some.injEq] at hi; subst hi
    have:=World.lt_of_cell (hat 0 _ rfl).2
    simp only at hN; omega
   | 1,hi =>
    simp only [List.getElem?_cons_succ,List.getElem?_cons_zero,Option.some.injEq] at hi; subst hi
    exact hkbr hN
   | i + 2,hi=>simp at hi
  match i,hi with
  | 0,hi =>
   simp only [List.getElem?_cons_zero,Option.some.injEq] at hi; subst hi
   exact hKR (by rw [← hN]; exact hg')
  | i + 1,hi=>simp at hi
 have hr7:(setBlock w6 R (.mapIter (some mb) clk (seen.push e.born) clk)).heap[R]? = some (.mapIter (some mb) clk (seen.push e.born) clk):=qdv hr6
 generalize hw7:setBlock w6 R (.mapIter (some mb) clk (seen.push e.born) clk) = w7 at hW7 hr7
 refine qbu [1] [] [0,1,4,24,26] hW7 hE13 (env':=[(0,.p 0 0),(1,.v (cloV fc cap)),(4,.p 1 0),(24,.v (.pointer (some ⟨R,0,none⟩))),(26,.v (.bool true))]) kz rfl fun a12 hE14=>qaf (qab (wp_seq ?_))
 refine qaY hE14 (b:=true) kz (fun _=>?_) (fun hb=>by cases hb)
 refine wp_skip (qab (wp_block ?_))
 have hes7:=hW7.step.heap (fun o h=>h) hes
 refine qad [0,1,2] kz ?_
 refine qak (qfT hE14 (d:=27) (r:=R) kz hr7 hes7 hml hnod fun a13 hE15=>?_)
 rw [hk1] at hE15
 refine qbu [1,2] [] [0,1,4,24,5] hW7 hE15 (env':=[(0,.p 0 0),(1,.v (cloV fc cap)),(4,.p 1 0),(24,.v (.pointer (some ⟨R,0,none⟩))),(5,.v (.int .u32 k))]) kz rfl fun a14 hE16=>qaf (qab ?_)
 refine qaF [0,1,2,3,4] kz ?_
 refine qbu [0,1] [2,3,4] [0,1,4,24,29,30] hW7 hE16 (env':=[(0,.p 0 0),(1,.v (cloV fc cap)),(4,.p 1 0),(24,.v (.pointer (some ⟨R,0,none⟩))),(29,.v (.slice K vis.length kc)),(30,.v (.int .u32 k))]) kz rfl fun a15 hE17=>?_
 have hsh:=left_shrinks es seen e he
 refine qex (t:=84) (e:=48) (size:=1) (bytes:=4) (len:=1) (cs:=[.int .u32 k]) (d1:=31) (d:=32) (k:=0) hW7 hE17 kz kz (fun _=>by kernel_rfl) rfl kz (by omega) fun K2 kc2 a16 w8 hF8 hW8 hE18=>?_
 obtain ⟨bl,hE18⟩:=hE18
 have hR7:R < w7.heap.size:=(Array.getElem?_eq_some_iff.1 hr7).1
 have hna:∀ {o'},¬ Act_ [⟨b,o,[.map (some mb)],false⟩,⟨kb,0,[.slice K vis.length kc],true⟩] [⟨K,kc,48,1,vis.length,(vis.map fun e=>kOf e.key).map (Value.int .u32)⟩] R o':=by
  rintro o' (⟨i,ob,hi,hrw,hb,_⟩ | ⟨i,q,hi,hq⟩)
  ·match i,hi with
   | 0,hi =>
    simp only [List.getElem?_cons_zero,Option.some.injEq] at hi; subst hi
    cases hrw
   | 1,hi =>
    simp only [List.getElem?_cons_succ,List.getElem?_cons_zero,Option.some.injEq] at hi; subst hi
    exact hkbr hb
   | i + 2,hi=>simp at hi
  match i,hi with
  | 0,hi =>
   simp only [List.getElem?_cons_zero,Option.some.injEq] at hi; subst hi
   exact hKR hq
  | i + 1,hi=>simp at hi
 have hK2:K2.map (·.block) ≠ some R:=fun hk=>by
  exact hF8.imm R 0 hR7 hna (.inr ⟨0,_,rfl,hk⟩)
 refine qak (qao hW8 hE18 (oi:=1) (cs:=[.slice K2 (vis.length + 1) kc2]) kz fun w9 hF9 hW9 hE19=>qaf (qa8 (qab ?_)))
 have hr8:w9.heap[R]? = some (.mapIter (some mb) clk (seen.push e.born) clk) :=
  hF9.step.heap (fun o'=>hF8.imm R o' hR7 hna) (hF8.step.heap (fun o'=>hna) hr7)
 refine ⟨(leftOf es (seen.push e.born)).size,hsh,vis ++ [e],seen.push e.born,K2,kc2,clk,rfl,hv.push he,by rw [List.length_append,List.length_singleton]; omega,?_,?_,hr8,Nat.le_refl _,hK2⟩
 ·rw [List.length_append,List.length_singleton]
  exact hE19.pick (ks:=[0,1,4,24]) kz
 rw [List.length_append,List.length_singleton,List.map_append,List.map_append,List.map_cons,List.map_cons,hk1]
 exact hW9
end Go.Proofs.YtmpejmiiphddhaaDoorR.ME
namespace Go.Proofs.YtmpejmiiphddhaaDoorR.ME
open Go
open Go.RowKit
set_option linter.unusedVariables false
set_option linter.unusedSimpArgs false
set_option maxRecDepth 20000
section
variable {P:Program} {ops:Array Oper} {Q:Exit → Act → World → Prop} {n:Nat} {tb:Tb} {env:Env} {rs:List Rw} {w0:World} {M:Nat → Nat → Prop} {a:Act} {w:World}
theorem qeB {i d j:Nat} {t e:TypeId} {size bytes:Nat} (z:Value) (cs:List Value) {N:Act → World → Prop} (hW:WOk w0 M w tb rs) (hE:EnvOk n tb env a)
  (K:∀ b a' w',b = w.heap.size → w0.heap.size ≤ b → Fr w tb rs w' (tb ++ [⟨b,0,cs,true⟩]) rs → WOk w0 M w' (tb ++ [⟨b,0,cs,true⟩]) rs → EnvOk n (tb ++ [⟨b,0,cs,true⟩]) ((d,.v (.slice (some ⟨b,0,none⟩) j j)) :: env) a' → N a' w')
  (h:qgT env ops n i = some (t,((j:Nat):Int),((j:Nat):Int),d):=by kernel_rfl) (ht:qcC P t = some (e,size,bytes):=by kernel_rfl) (hz:(P.info? e).bind (·.zero) = some z:=by kernel_rfl) (hcs:(madeCells z.cells (j * size)).toList = cs:=by kernel_rfl) (hb:Nat.ble (bytes * j) 1000000 = true:=by kernel_rfl):wpOp P ops Q i N a w:=by
 obtain ⟨ht',inf,z',hi,hz',hzs,hs1,rfl,hsz,hbp⟩:=qcv ht
 obtain ⟨op,ho,hd,kl,kc,hrun⟩:=qfx (P:=P) (w:=w) hE h
 have hzz:z' = z:=by rw [hi] at hz; simp only [Option.bind_some,hz',Option.some.injEq] at hz; exact hz
 subst hzz
 have hb':=Nat.le_of_ble_eq_true hb
 have hjm:j ≤ 1000000:=by
  have:=Nat.le_mul_of_pos_left j hbp
  omega
 have hr:=run_make (P:=P) w t e inf z' ht' hi hz' kl kc (j:Int) (j:Int) (by omega) (Int.le_refl _) (by
  have:((inf.bytes * j:Nat):Int) ≤ 281474976710656:=by omega
  rwa [Int.natCast_mul] at this) (by omega)
 simp only [Int.toNat_natCast,hs1] at hr
 have hca:madeCells z'.cells (j * size) = cs.toArray:=by rw [← hcs]
 rw [hca] at hr
 refine qaZ hE ho (fun o hop=>hrun o _ _ hop hr) ?_
 refine K w.heap.size _ _ rfl hW.step.size (Fr.alloc w tb rs _ cs true) (hW.alloc cs e) ?_
 exact (hE.put hd (.v (.slice (some ⟨w.heap.size,0,none⟩) j j)) trivial).grow _
theorem qdO {i d:Nat} {src dst e:TypeId} {s:ByteArray} {N:Act → World → Prop} (hW:WOk w0 M w tb rs) (hE:EnvOk n tb env a) (hsm:s.size ≤ 1099511627776)
  (K:∀ b c a' w',Fr w tb rs w' tb rs → WOk w0 M w' tb rs → (∀ G,Octs w' (Imm G w0 w' tb rs) (some ⟨b,0,none⟩) c (sb s)) → EnvOk n tb ((d,.v (.slice (some ⟨b,0,none⟩) (sb s).length c)) :: env) a' → N a' w')
  (h:qg2 tb env ops n i = some (src,dst,.string s,d):=by kernel_rfl) (hs:P.underlying src = some .string:=by kernel_rfl) (hd:P.underlying dst = some (.slice e):=by kernel_rfl) (he:P.underlying e = some (.int .u8):=by kernel_rfl):wpOp P ops Q i N a w:=by
 unfold qg2 at h
 split at h
 ·rename_i src' dst' x d' hop
  split at h
  ·rename_i v hx
   simp only [Option.some.injEq,Prod.mk.injEq] at h
   obtain ⟨rfl,rfl,rfl,rfl⟩:=h
   have hdn:=(qbj hE hop).choose_spec.2.2.2.1
   have hrun:=Lib.run_convert_string_bytes (P:=P) w src' dst' e s hs hd he
   have hst:Step w (Lib.bytesWorld w e s) Nil:=⟨rfl,rfl,by rw [Lib.bytesWorld_size]; omega,fun b hb=>by rw [Lib.bytesWorld_at_old w e s b hb]; exact Keeps.refl _ _⟩
   have hlen:(sb s).length = s.size:=qgg s
   have e1:=(qaN hE hx).1
   refine qaZ hE hop (v:=.slice (some ⟨w.heap.size,0,none⟩) (sb s).length (grownCap w s.size 0 e)) (w':=Lib.bytesWorld w e s) (fun o' ho'=>?_) (K w.heap.size _ _ _ (Fr.nil tb rs hst) (hW.next_nil hst) (fun G=>?_) (hE.put hdn (.v _) trivial))
   ·unfold execOp
    rw [ho']
    simp only [SV.val] at e1
    simp only [e1,Sem.run_bind,hrun,Result.andThen_ok,Sem.run_pure,hlen]
   refine ⟨by rw [hlen]; exact grownCap_ge w s.size 0 e,by rw [hlen]; exact hsm,fun h=>(by cases h),fun ad hA _=>?_⟩
   obtain rfl:=Option.some.inj hA
   refine ⟨w.heap.size,0,rfl,fun q hq=>⟨rfl,fun j v hj=>?_⟩⟩
   have hj0:j = 0:=by
    cases j with
    | zero=>rfl
    | succ j=>simp at hj
   subst hj0
   simp only [List.getElem?_cons_zero,Option.some.injEq] at hj
   subst hj
   have h2:(Lib.bytesWorld w e s).heap.size = w.heap.size + 1:=Lib.bytesWorld_size w e s
   refine ⟨⟨.inr hW.step.size,by rw [h2]; exact Nat.lt_succ_self _,fun ha=>?_⟩,?_⟩
   ·have:=hW.act_live ha
    exact absurd this (Nat.lt_irrefl _)
   rw [Nat.zero_add,Nat.mul_one,Nat.add_zero,Lib.bytesWorld_cell w e s q (by rw [← hlen]; exact hq)]
   rfl
  cases h
 cases h
end
structure TBox (w:World) (B eT:Nat) (A:Option Addr) (cp n:Nat) (x0 x1 x2 x3:Value) (xs:List Value):Prop where
 str:Str w B [x0,x1,x2,x3,.slice A n cp]
 own:w.ownsRow 0 eT 2 (.slice A n cp) n xs
 ne:A.map (·.block) ≠ some B
def TM (B:Nat) (A:Option Addr):Nat → Nat → Prop:=fun b o=>(b = B ∧ o < 5) ∨ Blk A b o
def qhf (w:World) (B eT:Nat) (A:Option Addr) (n:Nat) (x0 x1 x2 x3:Value) (xs:List Value) (k:Int) (x:Bs):Ending → World → Prop:=fun en w' =>
 en = .returned (.tuple #[]) ∧ ∃ A' cp' Av cv,TBox w' B eT A' cp' (n + 1) x0 x1 x2 x3 (xs ++ [.int .u32 k,.slice Av x.length cv]) ∧ Octs w' (fun b o=>(w.heap.size ≤ b ∨ A.map (·.block) = some b) ∧ ¬ TM B A' b o) Av cv x ∧ Near w A A' ∧ Step w w' (TM B A)
def qeV (P:Program) (fc eT:Nat):Prop:=∀ (w:World) (B cp c n:Nat) (k:Int) (A Av:Option Addr) (x:Bs) (x0 x1 x2 x3:Value) (xs:List Value) (G:Nat → Nat → Prop),TBox w B eT A cp n x0 x1 x2 x3 xs → Octs w G Av c x → (∀ b o,G b o → ¬ TM B A b o) → n ≤ 1000000 →
 Calls P fc [.int .u32 k,.slice Av x.length c,.pointer (some ⟨B,0,none⟩)].toArray w (qhf w B eT A n x0 x1 x2 x3 xs k x)
theorem TBox.wok {w:World} {B eT cp n:Nat} {A:Option Addr} {x0 x1 x2 x3:Value} {xs:List Value} (h:TBox w B eT A cp n x0 x1 x2 x3 xs):WOk w (TM B A) w [⟨B,0,[x0,x1,x2,x3,.slice A n cp],true⟩] [⟨A,cp,eT,2,n,xs⟩]:=by
 have h1:WOk w (TM B A) w [⟨B,0,[x0,x1,x2,x3,.slice A n cp],true⟩] [] :=
  (WOk.start w _).add ⟨B,0,[x0,x1,x2,x3,.slice A n cp],true⟩ (World.lt_of_cell (h.str.at_ 0 _ rfl)) (fun j v hj=>by rw [Nat.zero_add]; exact h.str.at_ j v hj) (fun _ j hj=>⟨.inr (.inl ⟨rfl,by rw [Nat.zero_add]; exact hj⟩),by rw [Nat.zero_add]; exact h.str.frz j hj⟩) (fun i ob hi=>by simp at hi) (fun i r hi=>by simp at hi)
 refine h1.addRow ⟨A,cp,eT,2,n,xs⟩ h.own (fun g hg=>.inr fun o=>.inr hg) (fun i ob hi=>?_) (fun i r hi=>by simp at hi)
 cases i with
 | zero =>
  simp only [List.getElem?_cons_zero,Option.some.injEq] at hi; subst hi
  exact h.ne
 | succ i=>simp at hi
theorem qfr {w0 w:World} {B eT cp n:Nat} {A0 A:Option Addr} {x0 x1 x2 x3:Value} {xs:List Value} {rs:List Rw} (hW:WOk w0 (TM B A0) w [⟨B,0,[x0,x1,x2,x3,.slice A n cp],true⟩] (⟨A,cp,eT,2,n,xs⟩ :: rs)) (hB:B < w0.heap.size):TBox w B eT A cp n x0 x1 x2 x3 xs ∧ Near w0 A0 A ∧ Step w0 w (TM B A0):=by
 refine ⟨⟨Str.of hW 0 rfl,hW.own 0 _ rfl,fun e=>hW.rtb 0 _ rfl B e 0 _ rfl rfl⟩,fun g hg=>?_,hW.step⟩
 rcases hW.ownM 0 _ rfl g hg with h | h
 ·exact .inr h
 rcases h 5 with ⟨_,h⟩ | h
 ·omega
 exact .inl h
theorem qek {w0 w:World} {B eT cp n c e8:Nat} {A0 A Av:Option Addr} {cs:List Value} {xs:List Value} {s:Bs} (hl:cs.length = 5) (hW:WOk w0 (TM B A0) w [⟨B,0,cs,true⟩] [⟨A,cp,eT,2,n,xs⟩,brow Av c e8 s]) (hsm:s.length ≤ 1099511627776):Octs w (fun b o=>(w0.heap.size ≤ b ∨ A0.map (·.block) = some b) ∧ ¬ TM B A b o) Av c s:=by
 refine qfw (hW.own 1 _ rfl) hsm fun g hg o=>⟨?_,?_⟩
 ·rcases hW.ownM 1 _ rfl g hg with h | h
  ·exact .inl h
  rcases h 5 with ⟨_,h⟩ | h
  ·omega
  exact .inr h
 rintro (⟨rfl,_⟩ | h)
 ·exact hW.rtb 1 _ rfl g hg 0 _ rfl rfl
 exact hW.rr 1 0 _ _ (by decide) rfl rfl g hg h
theorem qe6 {fc eT B b o:Nat} {m:Option Nat} {u:List (Int × Bs)} {w:World} {F:Nat → Nat → Prop} {x0 x1 x2 x3:Value} (hcf:∀ args w,(callFunc fc args).run Tryd.prog w = .ok (.enter fc args) w) (hone:qeV Tryd.prog fc eT) (hat:AtF w F b o [.map m]) (hm:MapR w F m u) (hB:Str w B [x0,x1,x2,x3,.slice none 0 0]) (hF:∀ b o,F b o → ¬ (b = B ∧ o < 5)) (hul:u.length ≤ 1000000) :
  Calls Tryd.prog 31 [.pointer (some ⟨b,o,none⟩),cloV fc (.pointer (some ⟨B,0,none⟩))].toArray w (fun e w'=>e = .returned (.tuple #[]) ∧ ∃ A c,Str w' B [x0,x1,x2,x3,.slice A u.length c] ∧ TagsR w' (fun b o=>w.heap.size ≤ b) A c u ∧ Step w w' (fun b o=>b = B ∧ o < 5)):=by
 have hBl:B < w.heap.size:=World.lt_of_cell (hB.at_ 0 _ rfl)
 refine (qie (M:=fun b o=>b = B ∧ o < 5) hcf (fun w7 j w8=>∃ A cp xs css,TBox w8 B eT A cp j x0 x1 x2 x3 xs ∧ Tags w8 (fun b o=>w7.heap.size ≤ b ∧ ¬ TM B A b o) xs (u.take j) css ∧ (∀ g,A.map (·.block) = some g → w7.heap.size ≤ g) ∧ Step w7 w8 (fun b o=>b = B ∧ o < 5)) hat hm hF (fun b o h=>by rw [h.1]; exact hBl) (fun w7 hs=>?_) (fun w7 j w8 h=>by obtain ⟨_,_,_,_,_,_,_,h⟩:=h; exact h) (fun w7 hs j k x w8 Ax cx hI hu hk hox=>?_) hul).mono ?_
 ·exact ⟨none,0,[],[],⟨hB.move hs fun _ h=>h,World.ownsRow_nil _ 0 eT 2,fun h=>by cases h⟩,Tags.nil _ _,fun g h=>(by cases h),Step.refl _ _⟩
 ·obtain ⟨A,cp,xs,css,hbx,hT,hA,hs8⟩:=hI
  have hj:j < u.length:=(List.getElem?_eq_some_iff.1 hu).1
  refine (hone w8 B cp cx j k A Ax x x0 x1 x2 x3 xs _ hbx hox (fun b o hf=>?_) (by omega)).mono ?_
  ·rintro (h | h)
   ·exact hF _ _ hf.1 h
   have:=hA b h; have:=hf.2; omega
  rintro e w9 ⟨rfl,A',cp',Av,cv,hbx',ho',hn,hs9⟩
  refine ⟨rfl,A',cp',_,css ++ [[.int .u32 k,.slice Av x.length cv]],hbx',?_,fun g hg=>?_,hs8.trans hs9 fun b o hb h=>?_⟩
  ·rw [qcE hu]
   have e1:Tags w9 (fun b o=>w7.heap.size ≤ b ∧ ¬ TM B A' b o) xs (u.take j) css:=hT.move hs9 (fun b o h _=>h.2) (fun b o h hb=>⟨h.1,fun h'=>by
    rcases h' with h' | h'
    ·exact h.2 (.inl h')
    rcases hn b h' with h' | h'
    ·exact h.2 (.inr h')
    omega⟩)
   have e2:Octs w9 (fun b o=>w7.heap.size ≤ b ∧ ¬ TM B A' b o) Av cv x:=ho'.move (Step.refl _ Nil) nilM fun b o h _=>⟨by
    rcases h.1 with h' | h'
    ·exact Nat.le_trans hs8.size h'
    exact hA b h',h.2⟩
   exact e1.snoc (c:=[.int .u32 k,.slice Av x.length cv]) (x:=(k,x)) ⟨⟨_,_,rfl,e2⟩,hk.1,hk.2⟩
  ·rcases hn g hg with h | h
   ·exact hA g h
   exact Nat.le_trans hs8.size h
  rcases h with h | h
  ·exact h
  have:=hA b h; omega
 rintro e w' ⟨rfl,w7,hs,A,cp,xs,css,hbx,hT,hA,hs8⟩
 rw [List.take_length] at hT
 refine ⟨rfl,A,cp,hbx.str,?_,(hs.mono (N:=fun b o=>b = B ∧ o < 5) fun _ _ _ f=>f.elim).trans hs8 fun b o _ h=>h⟩
 exact ((hT.move (Step.refl _ Nil) nilM fun b o h _=>Nat.le_trans hs.size h.1).slots (F:=fun b o=>w.heap.size ≤ b) hbx.own rfl (by omega) fun g hg o=>Nat.le_trans hs.size (hA g hg))
def qel (A:Option Addr) (s:ByteArray):Tree:=.mk 0 (if A.isNone = true then [] else sb s) A.isNone [] []
theorem WOk.strOut {G:Nat → Nat → Prop} {w0 w:World} {tb:Tb} {rs:List Rw} {p:Nat} {cs:List Value} (tb':Tb) (hW:WOk w0 Nil w tb rs) (ht:tb' ++ [⟨p,0,cs,true⟩] = tb:=by rfl):AtF w (Imm G w0 w tb' rs) p 0 cs:=fun j v hj=>by
 subst ht
 have hi:(tb' ++ [(⟨p,0,cs,true⟩:Ob)])[tb'.length]? = some ⟨p,0,cs,true⟩:=by rw [List.getElem?_append_right (Nat.le_refl _),Nat.sub_self]; rfl
 have h1:=hW.cells _ _ hi j v hj
 have hlt:j < cs.length:=(List.getElem?_eq_some_iff.1 hj).1
 refine ⟨⟨?_,hW.live _ _ hi,fun ha=>?_⟩,h1⟩
 ·rcases (hW.rw_ _ _ hi rfl j hlt).1 with h2 | h2
  ·exact .inr h2
  exact h2.elim
 rcases ha with ⟨k,ob,h2,h3,h4,h5,h6⟩ | ⟨k,r,h2,h3⟩
 ·have hk:k < tb'.length:=(List.getElem?_eq_some_iff.1 h2).1
  have h7:(tb' ++ [(⟨p,0,cs,true⟩:Ob)])[k]? = some ob:=by rw [List.getElem?_append_left hk]; exact h2
  rcases hW.apart k _ ob _ (by omega) h7 hi (.inr rfl) with h8 | h8 | h8
  ·exact h8 h4
  ·simp only [Nat.zero_add] at h5 h6; simp only [Nat.le_zero] at h8; omega
  simp only [Nat.zero_add] at h5 h6 h8; omega
 exact hW.rtb k r h2 p h3 _ _ hi rfl
theorem qf1 {u:List (Int × Bs)} (h:qdf u) {i j:Nat} {k k':Int} {s s':Bs} (hi:u[i]? = some (k,s)) (hj:u[j]? = some (k',s')) (hij:j < i):¬ k < k':=by
 obtain ⟨h1,h2⟩:=List.getElem?_eq_some_iff.1 hi
 obtain ⟨h3,h4⟩:=List.getElem?_eq_some_iff.1 hj
 have:=List.pairwise_iff_getElem.1 h j i h3 h1 hij
 rw [h2,h4] at this
 simp only at this
 omega
section
variable {w0 w:World} {tb:Tb} {rs:List Rw} {F:Nat → Nat → Prop}
theorem WOk.objFp (hW:WOk w0 Nil w tb rs) (i:Nat) {b:Nat} {cs:List Value} (hi:tb[i]? = some ⟨b,0,cs,true⟩):AtF w (Fp F w0) b 0 cs:=fun j v hj=>by
 have hlt:=(List.getElem?_eq_some_iff.1 hj).1
 refine ⟨?_,hW.cells i _ hi j v hj⟩
 rcases (hW.rw_ i _ hi rfl j hlt).1 with h | h
 ·exact .inr h
 exact h.elim
def TrL (w:World) (F:Nat → Nat → Prop):List (List Value) → List Tree → Prop
 | [],[]=>True
 | c :: cs,x :: xs=>TreeR w F c x ∧ TrL w F cs xs
 | _,_=>False
theorem TrL.move {w w':World} {F F' M:Nat → Nat → Prop} (hs:Step w w' M) (hM:∀ b o,F b o → b < w.heap.size → ¬ M b o) (hF:∀ b o,F b o → b < w.heap.size → F' b o):∀ {cs:List (List Value)} {l:List Tree},TrL w F cs l → TrL w' F' cs l
 | [],[],_=>trivial
 | _ :: _,_ :: _,h=>⟨h.1.move hs hM hF,TrL.move hs hM hF h.2⟩
 | [],_ :: _,h=>h.elim
 | _ :: _,[],h=>h.elim
theorem TrL.len:∀ {cs:List (List Value)} {l:List Tree},TrL w F cs l → cs.length = l.length
 | [],[],_=>rfl
 | _ :: _,_ :: _,h=>congrArg (· + 1) (TrL.len h.2)
 | [],_ :: _,h=>h.elim
 | _ :: _,[],h=>h.elim
theorem TrL.five:∀ {cs:List (List Value)} {l:List Tree},TrL w F cs l → ∀ c ∈ cs,c.length = 5
 | [],[],_=>fun c hc=>by cases hc
 | _ :: _,_ :: _,h=>fun c hc=>by
  rcases List.mem_cons.1 hc with rfl | hc
  ·exact h.1.five
  exact TrL.five h.2 c hc
 | [],_ :: _,h=>h.elim
 | _ :: _,[],h=>h.elim
theorem TrL.get:∀ {cs:List (List Value)} {l:List Tree},TrL w F cs l → ∀ (i:Nat) (x:Tree),l[i]? = some x → TreeR w F (cs.getD i []) x
 | [],[],_,i,x,hx=>by simp at hx
 | _ :: _,_ :: _,h,0,x,hx=>by
  simp only [List.getElem?_cons_zero,Option.some.injEq] at hx
  subst hx
  exact h.1
 | _ :: _,_ :: _,h,i + 1,x,hx=>TrL.get h.2 i x hx
 | [],_ :: _,h,_,_,_=>h.elim
 | _ :: _,[],h,_,_,_=>h.elim
theorem qif {b:Nat}:∀ (css:List (List Value)) (o:Nat),AtF w F b o css.flatten → (∀ c ∈ css,c.length = 5) → ∀ i,i < css.length → (css.getD i []).length = 5 ∧ AtF w F b (o + i * 5) (css.getD i [])
 | [],o,h,hl,i,hi=>absurd hi (Nat.not_lt_zero _)
 | c :: r,o,h,hl,0,_=>⟨hl c List.mem_cons_self,fun j v hj=>by
   have hj':c[j]? = some v:=hj
   have:=h j v (by rw [List.flatten_cons,List.getElem?_append_left (List.getElem?_eq_some_iff.1 hj').1]; exact hj')
   rw [show o + 0 * 5 + j = o + j by omega]
   exact this⟩
 | c :: r,o,h,hl,i + 1,hi=>by
  have hc:=hl c List.mem_cons_self
  have:=qif r (o + 5) (fun j v hj=>by
   have:=h (5 + j) v (by rw [List.flatten_cons,List.getElem?_append_right (by omega),show 5 + j - c.length = j by omega]; exact hj)
   rw [show o + 5 + j = o + (5 + j) by omega]
   exact this) (fun d hd=>hl d (List.mem_cons_of_mem _ hd)) i (by simpa using hi)
  rw [show o + (i + 1) * 5 = o + 5 + i * 5 by omega]
  exact this
theorem qf2 {b:Nat} {css:List (List Value)} {l:List Tree} (h:AtF w F b 0 css.flatten) (hT:TrL w F css l) (hsm:l.length ≤ 1099511627776):Slots w F 5 (some ⟨b,0,none⟩) l.length l.length (fun i=>css.getD i []) :=
 ⟨Nat.le_refl _,hsm,fun h=>(by cases h),fun ad hA _=>⟨b,0,(Option.some.inj hA).symm,fun i hi=>qif css 0 h hT.five i (by rw [hT.len]; exact hi)⟩⟩
theorem Trees.xslen {w:World} {xs:List Value} {l:List Tree} {css:List (List Value)} (h:Trees w F xs l css):xs.length = l.length * 5:=by
 have h1:∀ css:List (List Value),(∀ c ∈ css,c.length = 5) → css.flatten.length = css.length * 5:=fun css hc=>by
  induction css with
  | nil=>rfl
  | cons c r ih =>
   rw [List.flatten_cons,List.length_append,hc c List.mem_cons_self,ih fun d hd=>hc d (List.mem_cons_of_mem _ hd),List.length_cons]
   omega
 rw [h.flat.eq,h1 css,h.len]
 intro c hc
 obtain ⟨i,hi,rfl⟩:=List.getElem_of_mem hc
 have hl:=h.len
 exact (h.each i _ _ (List.getElem?_eq_getElem hi) (List.getElem?_eq_getElem (show i < l.length by omega))).five
theorem qem {xs zs cs:List Value} {k:Nat} (hx:xs.length = k * 5) (hz:zs.length = cs.length:=by rfl):qcj (xs ++ zs) (k * 5) cs = xs ++ cs:=by
 unfold qcj
 rw [List.take_left' hx,List.drop_of_length_le (by rw [List.length_append]; omega),List.append_nil]
theorem qgA (hW:WOk w0 Nil w tb rs) {k:Nat} {A:Option Addr} {c e n:Nat} {xs:List Value} {l:List Tree} {css:List (List Value)} {b:Bool} (hk:rs[k]? = some ⟨A,c,e,5,n,xs⟩) (hT:Trees w (Imm F w0 w tb rs) xs l css) (hn:n = l.length) (hsm:l.length ≤ 1099511627776):TreeR w (Fp F w0) [.int .i64 0,.slice none 0 0,.bool b,.slice A n c,.slice none 0 0] (.mk 0 [] b l []):=by
 have h:=qfy hW hk hT hn hsm
 subst hn
 exact TreeR.mk (s:=[]) (u:=[]) _ (Octs.nil _ _) h.1 h.2 (TagsR.nil _ _)
theorem qdP {L k:Nat} {f:Nat → Tree} (h:k < L):((List.range L).map f).take (k + 1) = ((List.range L).map f).take k ++ [f k] :=
 qcE (by rw [List.getElem?_map,List.getElem?_range h]; rfl)
theorem qhg {L k:Nat} {f:Nat → Tree} (h:L ≤ k):((List.range L).map f).take k = (List.range L).map f:=List.take_of_length_le (by rw [List.length_map,List.length_range]; exact h)
theorem qdC {L:Nat} {f:Nat → Tree}:((List.range L).map f).length = L:=by rw [List.length_map,List.length_range]
theorem qfE (hW:WOk w0 Nil w tb rs) (i:Nat) {b n2 c3:Nat} {A3:Option Addr} {u:List (Int × Bs)} {css:List (List Value)} {cs:List Value} {l:List Tree} (hi:tb[i]? = some ⟨b,0,cs,true⟩) (hT':TrL w (Fp F w0) css l) (hU:TagsR w (Fp F w0) A3 c3 u) (hf:css.flatten = cs:=by rfl) (hl:l.length = n2:=by rfl) (hn:Nat.ble n2 1000000 = true:=by kernel_rfl) :
  qdu w0 F (.mk 0 [] false l u) (.returned (.agg #[.int .i64 0,.slice none 0 0,.bool false,.slice (some ⟨b,0,none⟩) n2 n2,.slice A3 u.length c3])) w:=by
 subst hf
 subst hl
 have hn':=Nat.le_of_ble_eq_true hn
 exact ⟨_,rfl,TreeR.mk (s:=[]) _ (Octs.nil _ _) (qf2 (hW.objFp i hi) hT' (by omega)) hT'.get hU,hW.step⟩
end
def qay (w:World) (F:Nat → Nat → Prop) (D:DV):Prop:=((D.f 0).s.size ≤ 1000000) ∧ ((D.f 1).s.size ≤ 1000000) ∧ MapR w F D.m D.u ∧ D.u.length ≤ 1000000 ∧ (∀ x ∈ D.u,x.2.length < 4294967296) ∧ True
def qaJ (w:World) (F:Nat → Nat → Prop) (D:DV):Prop:=((∀ ad,(D.f 0).A = some ad → ∃ b o,ad = ⟨b,o,none⟩ ∧ AtF w F b o [.string (D.f 0).s]) ∧ (D.f 0).s.size ≤ 1000000) ∧ ((∀ ad,(D.f 1).A = some ad → ∃ b o,ad = ⟨b,o,none⟩ ∧ AtF w F b o [.string (D.f 1).s]) ∧ (D.f 1).s.size ≤ 1000000) ∧ (Slots w F 3 (D.f 2).A (D.f 2).c (D.f 2).l (fun i=>[.string ((((D.f 2).f i).f 0).s),.string ((((D.f 2).f i).f 1).s),.map (((D.f 2).f i).m)]) ∧ (D.f 2).l ≤ 1000000 ∧ ∀ i,i < (D.f 2).l → qay w F ((D.f 2).f i)) ∧ (True) ∧ MapR w F D.m D.u ∧ D.u.length ≤ 1000000 ∧ (∀ x ∈ D.u,x.2.length < 4294967296) ∧ True
def qbq (d:DV):List Value:=[.string ((d.f 0).s),.string ((d.f 1).s),.map d.m]
theorem qaB:qff qay:=by
 intro w w' F F' M d hs hM hF h
 unfold qay at h ⊢
 obtain ⟨g0,g1,t1,t2,t3,_⟩:=h
 exact ⟨g0,g1,t1.move hs hM hF,t2,t3,trivial⟩
theorem qa9:qff qaJ:=by
 intro w w' F F' M d hs hM hF h
 unfold qaJ at h ⊢
 obtain ⟨⟨g0,g0l⟩,⟨g1,g1l⟩,⟨g2,g2l,g2e⟩,g3,t1,t2,t3,_⟩:=h
 exact ⟨⟨fun ad hA=>by
  obtain ⟨b,o,h1,h2⟩:=g0 ad hA
  exact ⟨b,o,h1,h2.move hs hM hF⟩,g0l⟩,⟨fun ad hA=>by
  obtain ⟨b,o,h1,h2⟩:=g1 ad hA
  exact ⟨b,o,h1,h2.move hs hM hF⟩,g1l⟩,⟨g2.move hs hM hF,g2l,fun i hi=>qaB _ hs hM hF (g2e i hi)⟩,g3,t1.move hs hM hF,t2,t3,trivial⟩
def qav (D:DV):Tree:=.mk 0 [] false [.mk 0 (sb (D.f 0).s) false [] [],.mk 0 (sb (D.f 1).s) false [] []] D.u
def qaW (D:DV):Tree:=.mk 0 [] false [qel (D.f 0).A (D.f 0).s,qel (D.f 1).A (D.f 1).s,.mk 0 [] (D.f 2).A.isNone ((List.range (D.f 2).l).map fun i=>qav ((D.f 2).f i)) [],.mk ((D.f 3).n) [] false [] []] D.u
theorem qig (A A':Option Addr) (c c':Nat) (s t:Bs) (w:World) (F:Nat → Nat → Prop) (hs:Octs w F A c s) (ht:Octs w F A' c' t) :
  Calls Tryd.prog 20 #[.slice A s.length c,.slice A' t.length c'] w (qcn w (.bool (decide (s = t)))):=by
 refine enter (n:=26) Tryd.func20 rfl Tryd.ntmps20 kz fun a hE=>?_
 have hW:=WOk.start w Nil
 have hl:=Slots.small hs
 refine qas [(0,.v (.slice A s.length c)),(1,.v (.slice A' t.length c'))] hW hE fun a1 hE2=>?_
 refine wp_seq ?_
 refine qas [(0,.v (.slice A s.length c)),(1,.v (.slice A' t.length c')),(10,.v (.bool (((s.length:Nat):Int) != ((t.length:Nat):Int))))] hW hE2 fun a3 hE4=>?_
 refine qaY hE4 (b:=((s.length:Nat):Int) != ((t.length:Nat):Int)) kz (fun hc5=>?_) (fun hc5=>?_)
 ·
  have hf6:((s.length:Nat):Int) ≠ ((t.length:Nat):Int):=by simpa using hc5
  refine qas [(4,.v (.bool false))] hW hE4 fun a7 hE8=>?_
  refine wp_ret ?_
  refine qaX ?_
  refine qaV hE8 hW.cells (v:=.bool false) kz ?_
  exact ⟨by first | rw [← qeH hq (by omega) hlen] | rw [← qfc ‹_›] | rw [← qeG ‹_›],hW.step⟩
 have hf9:((s.length:Nat):Int) = ((t.length:Nat):Int):=by simpa using hc5
 refine wp_skip ?_
 refine qab ?_
 refine wp_seq ?_
 refine qas [(0,.v (.slice A s.length c)),(1,.v (.slice A' t.length c')),(12,.v (.int .i64 ((s.length:Nat):Int))),(13,.v (.int .i64 0))] hW hE4 fun aQ ak=>?_
 refine wp_block ?_
 have hlen:s.length = t.length:=by omega
 refine wp_loop_ghost (fun n_ a_ w_=>∃ (k:Nat),n_ = s.length - k ∧ k ≤ s.length ∧ (s.take k = t.take k) ∧ LInv hW 26 [] [] [(0,.v (.slice A s.length c)),(1,.v (.slice A' t.length c')),(12,.v (.int .i64 ((s.length:Nat):Int))),(13,.v (.int .i64 ((k:Nat):Int)))] a_ w_) (s.length) ⟨0,by omega,by omega,rfl,ak.pk,hW,Fr.refl _ _ _⟩ ?_
 rintro aR aS aT ⟨k,aD,aE,hq,al,ab,am⟩
 refine qas [(0,.v (.slice A s.length c)),(1,.v (.slice A' t.length c')),(12,.v (.int .i64 ((s.length:Nat):Int))),(13,.v (.int .i64 ((k:Nat):Int))),(14,.v (.bool (decide (((k:Nat):Int) < ((s.length:Nat):Int)))))] ab al fun aU ac=>?_
 refine wp_seq ?_
 refine qaY ac (b:=decide (((k:Nat):Int) < ((s.length:Nat):Int))) kz (fun ae=>?_) (fun ae=>?_)
 ·
  have aF:=of_decide_eq_true ae
  refine wp_skip ?_
  refine qab ?_
  refine wp_seq ?_
  refine wp_block ?_
  refine qas [(0,.v (.slice A s.length c)),(1,.v (.slice A' t.length c')),(5,.v (.int .i64 ((k:Nat):Int))),(12,.v (.int .i64 ((s.length:Nat):Int))),(13,.v (.int .i64 ((k:Nat):Int)))] ab ac fun aV ao=>?_
  refine qco kz ab fun aW ap aa=>?_
  refine qaK [0,1,4,5] [(0,.v (.slice A s.length c)),(1,.v (.slice A' t.length c')),(12,.v (.int .i64 ((s.length:Nat):Int))),(13,.v (.int .i64 ((k:Nat):Int))),(16,.v (.slice A s.length c)),(17,.v (.int .i64 ((k:Nat):Int))),(20,.v (.slice A' t.length c')),(21,.v (.int .i64 ((k:Nat):Int)))] 5 (qac (qah (qac (qac (qah (qac qag)))))) (fun _ h=>h ▸ aa.cells) rfl ao fun aX ar=>?_
  obtain ⟨aG,aH,au,aI,ah⟩:=Slots.get hs (i:=k) (by omega)
  refine qaA ar (i:=2) (t:=22) (A:=A) (m:=s.length) (q:=((k:Nat):Int)) (d:=18) kz (e:=5) (size:=1) (bytes:=1) kz au rfl (by omega) kz kz (qac (qah (qac (qac (qah (qac qag)))))) rfl fun aY av=>?_
  refine qaM av (i:=3) (t:=5) (b:=aG) (o:=aH + k * 1) (d:=19) kz (cs:=[.int .u8 ((s.getD k 0).toNat:Int)]) (v:=.int .u8 ((s.getD k 0).toNat:Int)) kz (fun w' h'=>h' ▸ (AtF.move ah aa.step nilM qaI).at_) kz kz (qac (qah (qac (qac (qah (qac qag)))))) rfl fun aZ aw=>?_
  obtain ⟨aJ,aK,ax,aL,ai⟩:=Slots.get ht (i:=k) (by omega)
  refine qaA aw (i:=6) (t:=22) (A:=A') (m:=t.length) (q:=((k:Nat):Int)) (d:=22) kz (e:=5) (size:=1) (bytes:=1) kz ax rfl (by omega) kz kz (qac (qah (qac (qac (qah (qac qag)))))) rfl fun ba ay=>?_
  refine qaM ay (i:=7) (t:=5) (b:=aJ) (o:=aK + k * 1) (d:=23) kz (cs:=[.int .u8 ((t.getD k 0).toNat:Int)]) (v:=.int .u8 ((t.getD k 0).toNat:Int)) kz (fun w' h'=>h' ▸ (AtF.move ai aa.step nilM qaI).at_) kz kz (qac (qah (qac (qac (qah (qac qag)))))) rfl fun bf az=>?_
  refine qaK [8] [(0,.v (.slice A s.length c)),(1,.v (.slice A' t.length c')),(12,.v (.int .i64 ((s.length:Nat):Int))),(13,.v (.int .i64 ((k:Nat):Int))),(24,.v (.bool (((s.getD k 0).toNat:Int) != ((t.getD k 0).toNat:Int))))] 0 (qac (qah (qac (qac (qah (qac qag)))))) (fun _ h=>h ▸ aa.cells) rfl az fun bg af=>?_
  refine qaS kz ?_ _
  refine qab ?_
  refine qaY af (b:=((s.getD k 0).toNat:Int) != ((t.getD k 0).toNat:Int)) kz (fun ag=>?_) (fun ag=>?_)
  ·
   have aM:((s.getD k 0).toNat:Int) ≠ ((t.getD k 0).toNat:Int):=by simpa using ag
   refine qas [(4,.v (.bool false))] aa af fun bh aA=>?_
   refine wp_ret ?_
   refine qeW ?_
   refine qaX ?_
   refine qaX ?_
   refine qeW ?_
   refine qaX ?_
   refine qaV aA aa.cells (v:=.bool false) kz ?_
   exact ⟨by first | rw [← qeH hq (by omega) hlen] | rw [← qfc ‹_›] | rw [← qeG ‹_›],aa.step⟩
  have aO:((s.getD k 0).toNat:Int) = ((t.getD k 0).toNat:Int):=by simpa using ag
  refine wp_skip ?_
  refine qa8 ?_
  refine qab ?_
  refine qaF [0,1] kz ?_
  refine qal [0,1] [] [(0,.v (.slice A s.length c)),(1,.v (.slice A' t.length c')),(12,.v (.int .i64 ((s.length:Nat):Int))),(13,.v (.int .i64 (IntKind.i64.wrap (((k:Nat):Int) + 1))))] aa af fun bi aj=>?_
  refine qaf (qab ?_)
  have aB:IntKind.i64.wrap (((k:Nat):Int) + 1) = ((k + 1:Nat):Int):=qbK (by omega)
  rw [aB] at aj
  exact ⟨s.length - (k + 1),by omega,k + 1,rfl,by omega,qge hq (by omega) hlen ‹_›,aj.pk,aa,(am.trans ap)⟩
 have aP:=of_decide_eq_false ae
 refine wp_exit ?_
 refine qaR ?_
 refine qaR ?_
 refine qbn ?_
 refine qab ?_
 refine qas [(4,.v (.bool true))] ab ac fun bj aC=>?_
 refine wp_ret ?_
 refine qaV aC ab.cells (v:=.bool true) kz ?_
 exact ⟨by first | rw [← qeH hq (by omega) hlen] | rw [← qfc ‹_›] | rw [← qeG ‹_›],ab.step⟩
theorem qd2 (x m:Int) (hx:0 ≤ x) (hx':x < 256) (hm:0 ≤ m) (hm':m < 32768) (w:World):Calls Tryd.prog 7 #[.int .u8 x,.int .i64 m] w (qcn w (.int .i64 (Int.tmod x (m + 1)))):=by
 refine enter (n:=10) Tryd.func7 rfl Tryd.ntmps7 kz fun a hE=>?_
 have hW:=WOk.start w Nil
 refine qas [(0,.v (.int .u8 x)),(1,.v (.int .i64 m))] hW hE fun a1 hE2=>?_
 refine qad [0,1,2,3,4,5] kz ?_
 refine qal [0,1,2,3] [4,5] [(6,.v (.int .i64 (IntKind.i64.wrap x))),(8,.v (.int .i64 (IntKind.i64.wrap (m + 1))))] hW hE2 fun a3 hE4=>?_
 refine qak (qgU hE4 (k:=.i64) (p:=(IntKind.i64.wrap x)) (q:=(IntKind.i64.wrap (m + 1))) (d:=9) kz (by simp only [IntKind.wrap_i64]; omega) fun a5 hE6=>?_)
 refine qal [5] [] [(4,.v (.int .i64 (Int.tmod (IntKind.i64.wrap x) (IntKind.i64.wrap (m + 1)))))] hW hE6 fun a7 hE8=>?_
 refine qaf (qab ?_)
 refine wp_ret ?_
 refine qaV hE8 hW.cells (v:=.int .i64 (Int.tmod (IntKind.i64.wrap x) (IntKind.i64.wrap (m + 1)))) kz ?_
 exact ⟨by rw [wrap_i64 (by omega) (by omega),wrap_i64 (by omega) (by omega)],hW.step⟩
def qih (m:Nat):Prop:=∀ (ct:List Value) (t:Tree) (w:World) (F:Nat → Nat → Prop),TreeR w F ct t → t.depth ≤ m →
  Calls Tryd.prog 10 #[.agg ct.toArray] w (qdu w F t)
theorem qgB {m:Nat} (hg:qih m) (ct:List Value) (t:Tree) (w:World) (F:Nat → Nat → Prop) (ht:TreeR w F ct t) (hd:t.depth ≤ m + 1) :
  Calls Tryd.prog 10 #[.agg ct.toArray] w (qdu w F t):=by
 obtain ⟨n1,s2,b3,l4,u5,A6,c7,A8,c9,ap,ar,dQ,rfl,rfl,dr,dt,dR,dS⟩:=ht.open_
 have du:=dr.small
 have dv:=dt.small
 obtain ⟨dT,dw,dU⟩:=dS.ex
 have dx:=dw.small
 refine enter (n:=49) Tryd.func10 rfl Tryd.ntmps10 kz fun a hE=>?_
 have hW:=WOk.start w Nil
 refine qad [0,1] kz ?_
 refine qak (qda hW hE (d:=1) (cs:=[.int .i64 n1,.slice A6 s2.length c7,.bool b3,.slice A8 l4.length c9,.slice ap u5.length ar]) kz fun bH fi fj dV dW dX cW cX=>?_)
 refine qak (qaH cW cX (d:=2) (cs:=[.int .i64 0,.slice none 0 0,.bool false,.slice none 0 0,.slice none 0 0]) kz fun bI fk fl dY dZ d5 bK cY=>?_)
 refine qaf (qab ?_)
 refine qad [0,1,2,3,4,5,6,7,8] kz ?_
 refine qal [0,1,2,3,4,5,6] [7,8] [(1,.p 0 0),(2,.p 1 0),(14,.v (.agg #[.int .i64 n1,.slice A6 s2.length c7,.bool b3,.slice none 0 0,.slice none 0 0]))] bK cY fun fm cZ=>?_
 refine qak (qaH bK cZ (d:=3) (cs:=[.int .i64 0,.slice none 0 0,.bool false,.slice none 0 0,.slice none 0 0]) kz fun bJ fo fq d6 d7 d8 c5 c6=>?_)
 refine qak (qao c5 c6 (oi:=2) (cs:=[.int .i64 n1,.slice A6 s2.length c7,.bool b3,.slice none 0 0,.slice none 0 0]) kz fun fr d9 bB da=>?_)
 refine qaf (qab ?_)
 refine wp_seq ?_
 refine qas [(1,.p 0 0),(2,.p 1 0),(3,.p 2 0),(16,.v (.slice A8 l4.length c9)),(17,.v (.int .i64 ((l4.length:Nat):Int))),(18,.v (.int .i64 0))] bB da fun ft db=>?_
 refine wp_block ?_
 have bL:=bB.addNil 35 5
 have ea:=bB.frNil 35 5
 refine wp_loop_ghost (fun n_ a_ w_=>∃ (k:Nat) (A_:Option Addr) (c_:Nat) (xs:List Value) (css:List (List Value)),n_ = l4.length - k ∧ k ≤ l4.length ∧ (Trees w_ (Imm F w w_ [⟨bH,0,[.int .i64 n1,.slice A6 s2.length c7,.bool b3,.slice A8 l4.length c9,.slice ap u5.length ar],true⟩,⟨bI,0,[.int .i64 0,.slice none 0 0,.bool false,.slice none 0 0,.slice none 0 0],true⟩,⟨bJ,0,[.int .i64 n1,.slice A6 s2.length c7,.bool b3,.slice A_ k c_,.slice none 0 0],true⟩] [⟨A_,c_,35,5,k,xs⟩]) xs (l4.take k) css) ∧ LInv bL 49 [⟨bH,0,[.int .i64 n1,.slice A6 s2.length c7,.bool b3,.slice A8 l4.length c9,.slice ap u5.length ar],true⟩,⟨bI,0,[.int .i64 0,.slice none 0 0,.bool false,.slice none 0 0,.slice none 0 0],true⟩,⟨bJ,0,[.int .i64 n1,.slice A6 s2.length c7,.bool b3,.slice A_ k c_,.slice none 0 0],true⟩] [⟨A_,c_,35,5,k,xs⟩] [(1,.p 0 0),(2,.p 1 0),(3,.p 2 0),(16,.v (.slice A8 l4.length c9)),(17,.v (.int .i64 ((l4.length:Nat):Int))),(18,.v (.int .i64 ((k:Nat):Int)))] a_ w_) (l4.length) ⟨0,none,0,[],[],by omega,by omega,Trees.nil _ _,db.pk,bL,Fr.refl _ _ _⟩ ?_
 rintro fu fv fw ⟨k,A_,c_,xs,css,eb,ec,hT,dc,aw,de⟩
 refine qas [(1,.p 0 0),(2,.p 1 0),(3,.p 2 0),(16,.v (.slice A8 l4.length c9)),(17,.v (.int .i64 ((l4.length:Nat):Int))),(18,.v (.int .i64 ((k:Nat):Int))),(19,.v (.bool (decide (((k:Nat):Int) < ((l4.length:Nat):Int)))))] aw dc fun fx bC=>?_
 refine wp_seq ?_
 refine qaY bC (b:=decide (((k:Nat):Int) < ((l4.length:Nat):Int))) kz (fun bD=>?_) (fun bD=>?_)
 ·
  have ee:=of_decide_eq_true bD
  refine wp_skip ?_
  refine qab ?_
  refine wp_seq ?_
  refine wp_block ?_
  refine qad [0,1,2,3] kz ?_
  obtain ⟨ef,eg,df,eh,bh⟩:=Slots.get dt (i:=k) (by omega)
  obtain ⟨ei,bE⟩:∃ x,l4[k]? = some x:=⟨_,List.getElem?_eq_getElem (by omega)⟩
  have bF:=dR k ei bE
  obtain ⟨bM,bN,bO,bP,bQ,bR,bS,bT,bU,bV,bW,ej,rfl,bi,ek,em,fy,fA⟩:=bF.open_
  rw [bi] at bF
  have dy:=ek.small
  have dA:=em.small
  rw [bi] at bh
  refine qak (qan bC (t:=24) (A:=A8) (m:=l4.length) (q:=((k:Nat):Int)) (d:=20) kz (e:=27) (size:=5) (bytes:=88) kz df rfl (by omega) fun fB bX=>?_)
  refine qak (qat bX (t:=27) (b:=ef) (o:=eg + k * 5) (d:=21) kz (cs:=[.int .i64 bM,.slice bR bN.length bS,.bool bO,.slice bT bP.length bU,.slice bV bQ.length bW]) (v:=.agg #[.int .i64 bM,.slice bR bN.length bS,.bool bO,.slice bT bP.length bU,.slice bV bQ.length bW]) kz (AtF.move bh aw.step nilM qaI).at_ fun eo bY=>?_)
  refine qak (qaH aw bY (d:=5) (cs:=[.int .i64 0,.slice none 0 0,.bool false,.slice none 0 0,.slice none 0 0]) kz fun ep eu ew dB dC ax bZ b8=>?_)
  refine qak (qao bZ b8 (oi:=3) (cs:=[.int .i64 bM,.slice bR bN.length bS,.bool bO,.slice bT bP.length bU,.slice bV bQ.length bW]) kz fun ey ay b9 cd=>?_)
  refine qaf (qab ?_)
  refine qds 7 kz b9 fun ez az ag ce=>?_
  refine qaK [0,1,2] [(1,.p 0 0),(2,.p 1 0),(3,.p 2 0),(16,.v (.slice A8 l4.length c9)),(17,.v (.int .i64 ((l4.length:Nat):Int))),(18,.v (.int .i64 ((k:Nat):Int))),(23,.v (.slice A_ k c_)),(24,.v (.agg #[.int .i64 bM,.slice bR bN.length bS,.bool bO,.slice bT bP.length bU,.slice bV bQ.length bW]))] 5 (qah (qac (qac (qah (qac qag))))) (fun _ h=>h.cells) ce cd fun eB cg=>?_
  refine qaG (i:=3) kz (qap cg (f:=10) (vs:=[.agg #[.int .i64 bM,.slice bR bN.length bS,.bool bO,.slice bT bP.length bU,.slice bV bQ.length bW]]) (d:=25) kz Tryd.call10 ( hg _ _ _ _ (bF.move ag.step nilM ag.imm) (by have h_:=qeL bE; rw [qdw] at hd; omega)) ?_)
  rintro e_ eC ⟨dD,rfl,cm,aA⟩
  have aB:=cm.move (Step.refl _ Nil) nilM (ag.laid (G:=F) aA)
  obtain ⟨aC,aD,aE,aF,aG,aH,aI,aJ,aK,aL,aM,dE,dF,aO,dg,dh,eD,eE⟩:=aB.open_
  rw [aO] at aB
  have di:=dg.small
  have dj:=dh.small
  rw [aO]
  refine ⟨_,rfl,fun eF cn=>?_⟩
  have bj:=ag.next_nil aA
  have ae:=ag.frN aA
  have cq:=TT.ofW ae bj
  refine ⟨fun _=>cq,?_⟩
  refine qaG (i:=4) kz (qcP bj cn (e:=35) (size:=5) (len:=1) (cs:=[.int .i64 aC,.slice aH aD.length aI,.bool aE,.slice aJ aF.length aK,.slice aL aG.length aM]) (d:=26) kz kz fun dl eG eH dG dH aa au cr=>?_)
  have cu:=TT.ofW (ae.trans aa) au
  refine ⟨fun _=>cu,?_⟩
  refine qaG (i:=5) kz (qbb au cr (k:=0) (d:=27) (t:=32) (e:=35) (size:=5) (bytes:=88) (A:=A_) (As:=(some ⟨dl,0,none⟩)) (m0:=k) (c:=c_) (m:=1) (cs:=1) (xs:=xs) (news:=[.int .i64 aC,.slice aH aD.length aI,.bool aE,.slice aJ aF.length aK,.slice aL aG.length aM]) kz kz rfl (qcO (au.own 1 _ rfl) (qbI kz)) (qdh (au.own 1 _ rfl)) (by omega) fun aP aQ eI eJ af bk cw=>?_)
  have bn:=TT.ofW ((ae.trans aa).trans af) bk
  refine ⟨fun _=>bn,?_⟩
  refine qaK [6] [(1,.p 0 0),(2,.p 1 0),(3,.p 2 0),(16,.v (.slice A8 l4.length c9)),(17,.v (.int .i64 ((l4.length:Nat):Int))),(18,.v (.int .i64 ((k:Nat):Int))),(27,.v (.slice aP (k + 1) aQ)),(28,.p 2 3)] 1 (qah (qac (qac (qah (qac qag))))) (fun _ h=>h.cells) bn cw fun eK cz=>?_
  refine qaG (i:=7) kz (qao bk cz (oi:=2) (cs:=[.int .i64 n1,.slice A6 s2.length c7,.bool b3,.slice aP (k + 1) aQ,.slice none 0 0]) kz fun eL ah bo cA=>?_)
  refine ⟨fun h=>absurd rfl h,?_⟩
  refine qaS kz ?_ _
  refine qa8 ?_
  refine qab ?_
  refine qaF [0,1] kz ?_
  refine qal [0,1] [] [(1,.p 0 0),(2,.p 1 0),(3,.p 2 0),(16,.v (.slice A8 l4.length c9)),(17,.v (.int .i64 ((l4.length:Nat):Int))),(18,.v (.int .i64 (IntKind.i64.wrap (((k:Nat):Int) + 1))))] bo cA fun eM cB=>?_
  refine qaf (qab ?_)
  obtain ⟨bp,cC,ai⟩:=bo.cutB cB 3 [⟨bH,0,[.int .i64 n1,.slice A6 s2.length c7,.bool b3,.slice A8 l4.length c9,.slice ap u5.length ar],true⟩,⟨bI,0,[.int .i64 0,.slice none 0 0,.bool false,.slice none 0 0,.slice none 0 0],true⟩,⟨bJ,0,[.int .i64 n1,.slice A6 s2.length c7,.bool b3,.slice aP (k + 1) aQ,.slice none 0 0],true⟩] [(1,.p 0 0),(2,.p 1 0),(3,.p 2 0),(16,.v (.slice A8 l4.length c9)),(17,.v (.int .i64 ((l4.length:Nat):Int))),(18,.v (.int .i64 (IntKind.i64.wrap (((k:Nat):Int) + 1))))]
  obtain ⟨cD,aj⟩:=cC.cutR 1 [⟨aP,aQ,35,5,k + 1,xs ++ [.int .i64 aC,.slice aH aD.length aI,.bool aE,.slice aJ aF.length aK,.slice aL aG.length aM]⟩]
  have cE:IntKind.i64.wrap (((k:Nat):Int) + 1) = ((k + 1:Nat):Int):=qbK (by omega)
  rw [cE] at bp
  exact ⟨l4.length - (k + 1),by omega,k + 1,aP,aQ,xs ++ [Value.int .i64 aC,.slice aH aD.length aI,.bool aE,.slice aJ aF.length aK,.slice aL aG.length aM],(css ++ [[Value.int .i64 aC,.slice aH aD.length aI,.bool aE,.slice aJ aF.length aK,.slice aL aG.length aM]]),rfl,by omega,by rw [qcE bE]; exact (hT.move ((((((((ax.trans ay).trans az).trans ae).trans aa).trans af).trans ah).trans ai).trans aj).step immM ((((((((ax.trans ay).trans az).trans ae).trans aa).trans af).trans ah).trans ai).trans aj).to').snoc (aB.move ((((aa.trans af).trans ah).trans ai).trans aj).step immM ((((aa.trans af).trans ah).trans ai).trans aj).to'),bp.pk,cD,(((((((((de.trans ax).trans ay).trans az).trans ae).trans aa).trans af).trans ah).trans ai).trans aj)⟩
 have dI:=of_decide_eq_false bD
 refine wp_exit ?_
 refine qaR ?_
 refine qaR ?_
 refine qbn ?_
 refine qab ?_
 refine wp_seq ?_
 refine qas [(2,.p 1 0),(3,.p 2 0),(31,.v (.slice ap u5.length ar)),(32,.v (.int .i64 ((u5.length:Nat):Int))),(33,.v (.int .i64 0))] aw bC fun eN cF=>?_
 refine wp_block ?_
 have hk0:k = l4.length:=by omega
 have bq:=aw.addNil 50 2
 have bt:=aw.frNil 50 2
 refine wp_loop_ghost (fun n_ a_ w_=>∃ (q:Nat) (A5_:Option Addr) (c5_:Nat) (ys:List Value) (dss:List (List Value)),n_ = u5.length - q ∧ q ≤ u5.length ∧ (Tags w_ (Imm F w w_ [⟨bH,0,[.int .i64 n1,.slice A6 s2.length c7,.bool b3,.slice A8 l4.length c9,.slice ap u5.length ar],true⟩,⟨bI,0,[.int .i64 0,.slice none 0 0,.bool false,.slice none 0 0,.slice none 0 0],true⟩,⟨bJ,0,[.int .i64 n1,.slice A6 s2.length c7,.bool b3,.slice A_ k c_,.slice A5_ q c5_],true⟩] [⟨A_,c_,35,5,k,xs⟩,⟨A5_,c5_,50,2,q,ys⟩]) ys (u5.take q) dss) ∧ LInv bq 49 [⟨bH,0,[.int .i64 n1,.slice A6 s2.length c7,.bool b3,.slice A8 l4.length c9,.slice ap u5.length ar],true⟩,⟨bI,0,[.int .i64 0,.slice none 0 0,.bool false,.slice none 0 0,.slice none 0 0],true⟩,⟨bJ,0,[.int .i64 n1,.slice A6 s2.length c7,.bool b3,.slice A_ k c_,.slice A5_ q c5_],true⟩] [⟨A_,c_,35,5,k,xs⟩,⟨A5_,c5_,50,2,q,ys⟩] [(2,.p 1 0),(3,.p 2 0),(31,.v (.slice ap u5.length ar)),(32,.v (.int .i64 ((u5.length:Nat):Int))),(33,.v (.int .i64 ((q:Nat):Int)))] a_ w_) (u5.length) ⟨0,none,0,[],[],by omega,by omega,Tags.nil _ _,cF.pk,bq,Fr.refl _ _ _⟩ ?_
 rintro eO eP eQ ⟨q,A5_,c5_,ys,dss,dJ,dK,hU,cG,ak,aR⟩
 refine qas [(2,.p 1 0),(3,.p 2 0),(31,.v (.slice ap u5.length ar)),(32,.v (.int .i64 ((u5.length:Nat):Int))),(33,.v (.int .i64 ((q:Nat):Int))),(34,.v (.bool (decide (((q:Nat):Int) < ((u5.length:Nat):Int)))))] ak cG fun eR aS=>?_
 refine wp_seq ?_
 refine qaY aS (b:=decide (((q:Nat):Int) < ((u5.length:Nat):Int))) kz (fun aT=>?_) (fun aT=>?_)
 ·
  have dL:=of_decide_eq_true aT
  refine wp_skip ?_
  refine qab ?_
  refine wp_seq ?_
  refine wp_block ?_
  refine qad [0,1,2,3] kz ?_
  obtain ⟨dm,dn,cH,dM,aU⟩:=Slots.get dw (i:=q) (by omega)
  obtain ⟨⟨ab,ac⟩,bu⟩:∃ x,u5[q]? = some x:=⟨_,List.getElem?_eq_getElem (by omega)⟩
  obtain ⟨⟨al,am,bG,cI⟩,dp,dq⟩:=dU q ab ac bu
  rw [bG] at aU
  refine qak (qan aS (t:=25) (A:=ap) (m:=u5.length) (q:=((q:Nat):Int)) (d:=35) kz (e:=51) (size:=2) (bytes:=32) kz cH rfl (by omega) fun eS cJ=>?_)
  refine qak (qat cJ (t:=51) (b:=dm) (o:=dn + q * 2) (d:=36) kz (cs:=[.int .u32 ab,.slice al ac.length am]) (v:=.agg #[.int .u32 ab,.slice al ac.length am]) kz (AtF.move aU ak.step nilM qaI).at_ fun eU cK=>?_)
  refine qak (qaH ak cK (d:=7) (cs:=[.int .u32 0,.slice none 0 0]) kz fun eV eW eX dN dO aV cL cM=>?_)
  refine qak (qao cL cM (oi:=3) (cs:=[.int .u32 ab,.slice al ac.length am]) kz fun eY aW bw cN=>?_)
  refine qaf (qab ?_)
  refine qaF [0,1,2,3,4,5,6,7,8,9,10] kz ?_
  refine qal [0,1,2,3,4,5,6] [7,8,9,10] [(2,.p 1 0),(3,.p 2 0),(31,.v (.slice ap u5.length ar)),(32,.v (.int .i64 ((u5.length:Nat):Int))),(33,.v (.int .i64 ((q:Nat):Int))),(38,.v (.slice A5_ q c5_)),(43,.v (.agg #[.int .u32 ab,.slice al ac.length am]))] bw cN fun eZ cO=>?_
  refine qex bw cO (k:=1) (e:=50) (size:=2) (len:=1) (cs:=[.int .u32 ab,.slice al ac.length am]) (d1:=44) (d:=45) kz (t:=33) (bytes:=32) kz (fun _=>by kernel_rfl) rfl kz (by omega) fun bf bg e9 fa aX bx ⟨_,cP⟩=>?_
  refine qal [9] [10] [(2,.p 1 0),(3,.p 2 0),(31,.v (.slice ap u5.length ar)),(32,.v (.int .i64 ((u5.length:Nat):Int))),(33,.v (.int .i64 ((q:Nat):Int))),(45,.v (.slice bf (q + 1) bg)),(46,.p 2 4)] bx cP fun fb cQ=>?_
  refine qak (qao bx cQ (oi:=2) (cs:=[.int .i64 n1,.slice A6 s2.length c7,.bool b3,.slice A_ k c_,.slice bf (q + 1) bg]) kz fun fe aY bz cR=>?_)
  refine qaf ?_
  refine qa8 ?_
  refine qab ?_
  refine qaF [0,1] kz ?_
  refine qal [0,1] [] [(2,.p 1 0),(3,.p 2 0),(31,.v (.slice ap u5.length ar)),(32,.v (.int .i64 ((u5.length:Nat):Int))),(33,.v (.int .i64 (IntKind.i64.wrap (((q:Nat):Int) + 1))))] bz cR fun ff cS=>?_
  refine qaf (qab ?_)
  obtain ⟨bA,aZ,ba⟩:=bz.cutB cS 3 [⟨bH,0,[.int .i64 n1,.slice A6 s2.length c7,.bool b3,.slice A8 l4.length c9,.slice ap u5.length ar],true⟩,⟨bI,0,[.int .i64 0,.slice none 0 0,.bool false,.slice none 0 0,.slice none 0 0],true⟩,⟨bJ,0,[.int .i64 n1,.slice A6 s2.length c7,.bool b3,.slice A_ k c_,.slice bf (q + 1) bg],true⟩] [(2,.p 1 0),(3,.p 2 0),(31,.v (.slice ap u5.length ar)),(32,.v (.int .i64 ((u5.length:Nat):Int))),(33,.v (.int .i64 (IntKind.i64.wrap (((q:Nat):Int) + 1))))]
  have cT:IntKind.i64.wrap (((q:Nat):Int) + 1) = ((q + 1:Nat):Int):=qbK (by omega)
  rw [cT] at bA
  exact ⟨u5.length - (q + 1),by omega,q + 1,bf,bg,ys ++ [Value.int .u32 ab,.slice al ac.length am],(dss ++ [[Value.int .u32 ab,.slice al ac.length am]]),rfl,by omega,by rw [qcE bu]; exact (hU.move ((((aV.trans aW).trans aX).trans aY).trans ba).step immM ((((aV.trans aW).trans aX).trans aY).trans ba).to').snoc (c:=[.int .u32 ab,.slice al ac.length am]) (x:=(ab,ac)) ⟨⟨_,_,rfl,(cI.move aZ.step nilM aZ.imm)⟩,dp,dq⟩,bA.pk,aZ,(((((aR.trans aV).trans aW).trans aX).trans aY).trans ba)⟩
 have dP:=of_decide_eq_false aT
 refine wp_exit ?_
 refine qaR ?_
 refine qaR ?_
 refine qbn ?_
 refine qab ?_
 refine qad [0,1] kz ?_
 refine qal [0] [1] [(2,.p 1 0),(48,.v (.agg #[.int .i64 n1,.slice A6 s2.length c7,.bool b3,.slice A_ k c_,.slice A5_ q c5_]))] ak aS fun fg cU=>?_
 refine qak (qao ak cU (oi:=1) (cs:=[.int .i64 n1,.slice A6 s2.length c7,.bool b3,.slice A_ k c_,.slice A5_ q c5_]) kz fun fh av ao cV=>?_)
 refine qaf (qab ?_)
 refine wp_ret ?_
 refine qaV cV ao.cells (v:=.agg #[.int .i64 n1,.slice A6 s2.length c7,.bool b3,.slice A_ k c_,.slice A5_ q c5_]) kz ?_
 have hq0:q = u5.length:=by omega
 have hT':=(hT.move ((bt.trans aR).trans av).step immM ((bt.trans aR).trans av).to')
 have hU':=(hU.move av.step immM av.to')
 rw [show l4.take k = l4 by rw [hk0,List.take_length]] at hT'
 rw [show u5.take q = u5 by rw [hq0,List.take_length]] at hU'
 exact qgY ao rfl (dr.move ao.step nilM qhR) hk0 (qfy ao (k:=0) rfl hT' hk0 (by omega)) hq0 (qhQ ao (k:=1) rfl hU' hq0 (by omega)) rfl
theorem lGot:∀ m,qih m
 | 0=>fun ct t w F ht hd=>by
  obtain ⟨n,s,b,l,u,A1,c1,A2,c2,A3,c3,xs,rfl,_⟩:=ht.open_
  rw [qdw] at hd; omega
 | m + 1=>qgB (lGot m)
theorem qgC {u:List (Int × Bs)} {A:Option Addr} {c:Nat} {w:World} {F:Nat → Nat → Prop} (hu:TagsR w F A c u) (hsrt:qdf u):Calls Tryd.prog 33 #[.slice A u.length c] w (qcn w (.tuple #[])):=by
 obtain ⟨cs1,h2,h3⟩:=hu.ex
 have hsm4:=h2.small
 refine enter (n:=45) Tryd.func33 rfl Tryd.ntmps33 kz fun a hE=>?_
 have hW:=WOk.start w Nil
 refine qas [(0,.v (.slice A u.length c)),(5,.v (.int .i64 ((u.length:Nat):Int))),(6,.v (.int .i64 0))] hW hE fun a5 hE6=>?_
 refine wp_block ?_
 refine wp_loop_ghost (fun n_ a_ w_=>∃ (k:Nat),n_ = u.length - k ∧ k ≤ u.length ∧ LInv hW 45 [] [] [(0,.v (.slice A u.length c)),(5,.v (.int .i64 ((u.length:Nat):Int))),(6,.v (.int .i64 ((k:Nat):Int)))] a_ w_) (u.length) ⟨0,by omega,by omega,hE6.pk,hW,Fr.refl _ _ _⟩ ?_
 rintro n7 a8 w9 ⟨k,aX,aY,aB,ab,aj⟩
 refine qas [(0,.v (.slice A u.length c)),(5,.v (.int .i64 ((u.length:Nat):Int))),(6,.v (.int .i64 ((k:Nat):Int))),(7,.v (.bool (decide (((k:Nat):Int) < ((u.length:Nat):Int)))))] ab aB fun bp ah=>?_
 refine wp_seq ?_
 refine qaY ah (b:=decide (((k:Nat):Int) < ((u.length:Nat):Int))) kz (fun ai=>?_) (fun ai=>?_)
 ·
  have aZ:=of_decide_eq_true ai
  refine wp_skip ?_
  refine qab ?_
  refine wp_seq ?_
  refine wp_block ?_
  refine qas [(0,.v (.slice A u.length c)),(2,.v (.int .i64 ((k:Nat):Int))),(5,.v (.int .i64 ((u.length:Nat):Int))),(6,.v (.int .i64 ((k:Nat):Int)))] ab ah fun bq aC=>?_
  refine qas [(0,.v (.slice A u.length c)),(3,.v (.int .i64 ((k:Nat):Int))),(5,.v (.int .i64 ((u.length:Nat):Int))),(6,.v (.int .i64 ((k:Nat):Int)))] ab aC fun bt aD=>?_
  refine wp_block ?_
  refine qfC ?_
  refine wp_seq ?_
  refine qco kz ab fun bu ak aa=>?_
  refine qaK [0,1,2] [(0,.v (.slice A u.length c)),(3,.v (.int .i64 ((k:Nat):Int))),(5,.v (.int .i64 ((u.length:Nat):Int))),(6,.v (.int .i64 ((k:Nat):Int))),(12,.v (.bool (decide (((k:Nat):Int) > 0))))] 13 (qac (qac (qac (qah (qah (qac (qac (qah qag)))))))) (fun _ h=>h ▸ aa.cells) rfl aD fun bw al=>?_
  refine (Bool.eq_false_or_eq_true (decide (((k:Nat):Int) > 0))).elim (fun ac=>?_) (fun ac=>?_)
  ·
   have ba:=of_decide_eq_true ac
   have aE:=al.cast (env':=[(0,.v (.slice A u.length c)),(3,.v (.int .i64 ((k:Nat):Int))),(5,.v (.int .i64 ((u.length:Nat):Int))),(6,.v (.int .i64 ((k:Nat):Int))),(12,.v (.bool true))]) (by rw [ac])
   refine qaK [3,4,8,9,10] [(0,.v (.slice A u.length c)),(3,.v (.int .i64 ((k:Nat):Int))),(5,.v (.int .i64 ((u.length:Nat):Int))),(6,.v (.int .i64 ((k:Nat):Int))),(12,.v (.bool true)),(13,.v (.slice A u.length c)),(14,.v (.int .i64 ((k:Nat):Int))),(18,.v (.slice A u.length c)),(20,.v (.int .i64 (IntKind.i64.wrap (((k:Nat):Int) - 1))))] 8 (qac (qac (qac (qah (qah (qac (qac (qah qag)))))))) (fun _ h=>h ▸ aa.cells) rfl aE fun bx aF=>?_
   obtain ⟨az,aA,aG,bf,ae⟩:=Slots.get h2 (i:=k) (by omega)
   obtain ⟨⟨af,bg⟩,am⟩:∃ x,u[k]? = some x:=⟨_,List.getElem?_eq_getElem (by omega)⟩
   obtain ⟨⟨bz,bA,ao,bh⟩,bB,bC⟩:=h3 k af bg am
   rw [ao] at ae
   refine qaA aF (i:=5) (t:=25) (A:=A) (m:=u.length) (q:=((k:Nat):Int)) (d:=15) kz (e:=51) (size:=2) (bytes:=32) kz aG rfl (by omega) kz kz (qac (qac (qac (qah (qah (qac (qac (qah qag)))))))) rfl fun bD aH=>?_
   refine qaK [6] [(0,.v (.slice A u.length c)),(3,.v (.int .i64 ((k:Nat):Int))),(5,.v (.int .i64 ((u.length:Nat):Int))),(6,.v (.int .i64 ((k:Nat):Int))),(12,.v (.bool true)),(16,.v (.pointer (some ⟨az,aA + k * 2,none⟩))),(18,.v (.slice A u.length c)),(20,.v (.int .i64 (IntKind.i64.wrap (((k:Nat):Int) - 1))))] 6 (qac (qac (qac (qah (qah (qac (qac (qah qag)))))))) (fun _ h=>h ▸ aa.cells) rfl aH fun bE aI=>?_
   refine qaM aI (i:=7) (t:=48) (b:=az) (o:=aA + k * 2) (d:=17) kz (cs:=[.int .u32 af]) (v:=.int .u32 af) kz (fun w' h'=>h' ▸ (At.drop (AtF.move ae aa.step nilM qaI).at_ 0 1)) kz kz (qac (qac (qac (qah (qah (qac (qac (qah qag)))))))) rfl fun bF aJ=>?_
   have aK:IntKind.i64.wrap (((k:Nat):Int) - 1) = (((k - 1):Nat):Int):=by simp only [qaD,qaq,qcw,IntKind.wrap_i64,IntKind.wrap_i32]; omega
   have aL:=EnvOk.pick aJ (ks:=[0,3,5,6,12,16,18,20,17]) (env':=[(0,.v (.slice A u.length c)),(3,.v (.int .i64 ((k:Nat):Int))),(5,.v (.int .i64 ((u.length:Nat):Int))),(6,.v (.int .i64 ((k:Nat):Int))),(12,.v (.bool true)),(16,.v (.pointer (some ⟨az,aA + k * 2,none⟩))),(18,.v (.slice A u.length c)),(20,.v (.int .i64 (IntKind.i64.wrap (((k:Nat):Int) - 1)))),(17,.v (.int .u32 af))]) kz
   have aM:=aL.cast (env':=[(0,.v (.slice A u.length c)),(3,.v (.int .i64 ((k:Nat):Int))),(5,.v (.int .i64 ((u.length:Nat):Int))),(6,.v (.int .i64 ((k:Nat):Int))),(12,.v (.bool true)),(16,.v (.pointer (some ⟨az,aA + k * 2,none⟩))),(18,.v (.slice A u.length c)),(20,.v (.int .i64 (((k - 1):Nat):Int))),(17,.v (.int .u32 af))]) (by rw [aK])
   obtain ⟨aV,aW,aO,bi,ag⟩:=Slots.get h2 (i:=(k - 1)) (by omega)
   obtain ⟨⟨ap,bj⟩,ar⟩:∃ x,u[(k - 1)]? = some x:=⟨_,List.getElem?_eq_getElem (by omega)⟩
   obtain ⟨⟨bG,bH,au,bk⟩,bI,bJ⟩:=h3 (k - 1) ap bj ar
   rw [au] at ag
   refine qaA aM (i:=11) (t:=25) (A:=A) (m:=u.length) (q:=(((k - 1):Nat):Int)) (d:=21) kz (e:=51) (size:=2) (bytes:=32) kz aO rfl (by omega) kz kz (qac (qac (qac (qah (qah (qac (qac (qah qag)))))))) rfl fun bK aP=>?_
   refine qaK [12] [(0,.v (.slice A u.length c)),(3,.v (.int .i64 ((k:Nat):Int))),(5,.v (.int .i64 ((u.length:Nat):Int))),(6,.v (.int .i64 ((k:Nat):Int))),(12,.v (.bool true)),(17,.v (.int .u32 af)),(22,.v (.pointer (some ⟨aV,aW + (k - 1) * 2,none⟩)))] 3 (qac (qac (qac (qah (qah (qac (qac (qah qag)))))))) (fun _ h=>h ▸ aa.cells) rfl aP fun bL aQ=>?_
   refine qaM aQ (i:=13) (t:=48) (b:=aV) (o:=aW + (k - 1) * 2) (d:=23) kz (cs:=[.int .u32 ap]) (v:=.int .u32 ap) kz (fun w' h'=>h' ▸ (At.drop (AtF.move ag aa.step nilM qaI).at_ 0 1)) kz kz (qac (qac (qac (qah (qah (qac (qac (qah qag)))))))) rfl fun bM aR=>?_
   refine qaK [14,15] [(0,.v (.slice A u.length c)),(3,.v (.int .i64 ((k:Nat):Int))),(5,.v (.int .i64 ((u.length:Nat):Int))),(6,.v (.int .i64 ((k:Nat):Int))),(25,.v (.bool (decide (af < ap))))] 0 (qac (qac (qac (qah (qah (qac (qac (qah qag)))))))) (fun _ h=>h ▸ aa.cells) rfl aR fun bN av=>?_
   refine qaS kz ?_ _
   refine qab ?_
   refine qam av (b:=decide (af < ap)) kz (decide_eq_false (qf1 hsrt am ar (by omega))) ?_
   refine wp_exit ?_
   refine qaR ?_
   refine qaR ?_
   refine qbn ?_
   refine qa8 ?_
   refine qab ?_
   refine qaF [0,1] kz ?_
   refine qal [0,1] [] [(0,.v (.slice A u.length c)),(5,.v (.int .i64 ((u.length:Nat):Int))),(6,.v (.int .i64 (IntKind.i64.wrap (((k:Nat):Int) + 1))))] aa av fun bO aw=>?_
   refine qaf (qab ?_)
   have aS:IntKind.i64.wrap (((k:Nat):Int) + 1) = ((k + 1:Nat):Int):=qbK (by omega)
   rw [aS] at aw
   exact ⟨u.length - (k + 1),by omega,k + 1,rfl,by omega,aw.pk,aa,(aj.trans ak)⟩
  have bn:=of_decide_eq_false ac
  have aT:=al.cast (env':=[(0,.v (.slice A u.length c)),(3,.v (.int .i64 ((k:Nat):Int))),(5,.v (.int .i64 ((u.length:Nat):Int))),(6,.v (.int .i64 ((k:Nat):Int))),(12,.v (.bool false))]) (by rw [ac])
  refine qaK [3,4,5,6,7,8,9,10,11,12,13,14,15] [(0,.v (.slice A u.length c)),(3,.v (.int .i64 ((k:Nat):Int))),(5,.v (.int .i64 ((u.length:Nat):Int))),(6,.v (.int .i64 ((k:Nat):Int))),(25,.v (.bool false))] 0 (qac (qac (qac (qah (qah (qac (qac (qah qag)))))))) (fun _ h=>h ▸ aa.cells) rfl aT fun bP ax=>?_
  refine qaS kz ?_ _
  refine qab ?_
  refine qam ax (b:=false) kz rfl ?_
  refine wp_exit ?_
  refine qaR ?_
  refine qaR ?_
  refine qbn ?_
  refine qa8 ?_
  refine qab ?_
  refine qaF [0,1] kz ?_
  refine qal [0,1] [] [(0,.v (.slice A u.length c)),(5,.v (.int .i64 ((u.length:Nat):Int))),(6,.v (.int .i64 (IntKind.i64.wrap (((k:Nat):Int) + 1))))] aa ax fun bQ ay=>?_
  refine qaf (qab ?_)
  have aU:IntKind.i64.wrap (((k:Nat):Int) + 1) = ((k + 1:Nat):Int):=qbK (by omega)
  rw [aU] at ay
  exact ⟨u.length - (k + 1),by omega,k + 1,rfl,by omega,ay.pk,aa,(aj.trans ak)⟩
 have bo:=of_decide_eq_false ai
 refine wp_exit ?_
 refine qaR ?_
 refine qaR ?_
 refine qbn ?_
 refine qbk ah ab.cells (v:=.tuple #[]) kz ?_
 exact ⟨rfl,ab.step⟩
theorem qii (s:ByteArray) (w:World) (F:Nat → Nat → Prop):Calls Tryd.prog 29 #[.pointer none] w (qdu w F (.mk 0 [] true [] [])):=by
 refine enter (n:=11) Tryd.func29 rfl Tryd.ntmps29 kz fun a hE=>?_
 have hW:=WOk.start w Nil
 refine qad [0] kz ?_
 refine qak (qaH hW hE (d:=2) (cs:=[.int .i64 0,.slice none 0 0,.bool false,.slice none 0 0,.slice none 0 0]) kz fun b1 a2 w3 hb4 hz5 hF6 hW7 hE8=>?_)
 refine qaf (qab ?_)
 refine wp_seq ?_
 refine qas [(0,.v (.pointer none)),(2,.p 0 0),(4,.v (.bool true))] hW7 hE8 fun a9 aa=>?_
 refine qaO aa (b:=true) kz rfl ?_
 refine qad [0,1] kz ?_
 refine qal [0] [1] [(2,.p 0 0),(5,.v (.agg #[.int .i64 0,.slice none 0 0,.bool true,.slice none 0 0,.slice none 0 0]))] hW7 aa fun ah ac=>?_
 refine qak (qao hW7 ac (oi:=0) (cs:=[.int .i64 0,.slice none 0 0,.bool true,.slice none 0 0,.slice none 0 0]) kz fun af ag ab ae=>?_)
 refine qaf (qab ?_)
 refine wp_ret ?_
 refine qaX ?_
 refine qaV ae ab.cells (v:=.agg #[.int .i64 0,.slice none 0 0,.bool true,.slice none 0 0,.slice none 0 0]) kz ?_
 exact ⟨_,rfl,(show TreeR _ (Imm F w af [⟨b1,0,[.int .i64 0,.slice none 0 0,.bool true,.slice none 0 0,.slice none 0 0],true⟩] []) _ (Tree.mk 0 [] true [] []) from (TreeR.mk (n:=0) (b:=true) (s:=[]) (l:=[]) (u:=[]) (fun _=>[]) (Octs.nil _ _) (Slots.nil _ _ _ _) (fun i_ x_ h_=>by simp at h_) (TagsR.nil _ _))).move (Step.refl _ Nil) nilM qbs,ab.step⟩
theorem qij (b o:Nat) (s:ByteArray) (w:World) (F:Nat → Nat → Prop) (hat:AtF w F b o [.string s]) (hs:s.size ≤ 1000000):Calls Tryd.prog 29 #[.pointer (some ⟨b,o,none⟩)] w (qdu w F (.mk 0 (sb s) false [] [])):=by
 refine enter (n:=11) Tryd.func29 rfl Tryd.ntmps29 kz fun a hE=>?_
 have hW:=WOk.start w Nil
 refine qad [0] kz ?_
 refine qak (qaH hW hE (d:=2) (cs:=[.int .i64 0,.slice none 0 0,.bool false,.slice none 0 0,.slice none 0 0]) kz fun b1 a2 w3 hb4 hz5 hF6 hW7 hE8=>?_)
 refine qaf (qab ?_)
 refine wp_seq ?_
 refine qas [(0,.v (.pointer (some ⟨b,o,none⟩))),(2,.p 0 0),(4,.v (.bool false))] hW7 hE8 fun a9 aa=>?_
 refine qam aa (b:=false) kz rfl ?_
 refine wp_skip ?_
 refine qab ?_
 refine qad [0,1,2,3,4,5] kz ?_
 refine qal [0,1] [2,3,4,5] [(2,.p 0 0),(7,.v (.pointer (some ⟨b,o,none⟩)))] hW7 aa fun au ah=>?_
 refine qak (qat ah (t:=9) (b:=b) (o:=o) (d:=8) kz (cs:=[.string s]) (v:=.string s) kz (AtF.move hat hW7.step nilM qaI).at_ fun av ai=>?_)
 refine qak (qdO (d:=9) (src:=9) (dst:=22) (e:=5) (s:=s) hW7 ai (by omega) fun af ag aw ax ap ab aj ak=>?_)
 have al:=aj F
 refine qal [4] [5] [(2,.p 0 0),(10,.v (.agg #[.int .i64 0,.slice (some ⟨af,0,none⟩) ((sb s).length) ag,.bool false,.slice none 0 0,.slice none 0 0]))] ab ak fun ay am=>?_
 refine qak (qao ab am (oi:=0) (cs:=[.int .i64 0,.slice (some ⟨af,0,none⟩) ((sb s).length) ag,.bool false,.slice none 0 0,.slice none 0 0]) kz fun ar ac ae ao=>?_)
 refine qaf (qab ?_)
 refine wp_ret ?_
 refine qaV ao ae.cells (v:=.agg #[.int .i64 0,.slice (some ⟨af,0,none⟩) ((sb s).length) ag,.bool false,.slice none 0 0,.slice none 0 0]) kz ?_
 exact ⟨_,rfl,(show TreeR _ (Imm F w ar [⟨b1,0,[.int .i64 0,.slice (some ⟨af,0,none⟩) ((sb s).length) ag,.bool false,.slice none 0 0,.slice none 0 0],true⟩] []) _ (Tree.mk 0 (sb s) false [] []) from (TreeR.mk (n:=0) (b:=false) (s:=(sb s)) (l:=[]) (u:=[]) (fun _=>[]) (al.move ac.step immM ac.to') (Slots.nil _ _ _ _) (fun i_ x_ h_=>by simp at h_) (TagsR.nil _ _))).move (Step.refl _ Nil) nilM qbs,ae.step⟩
theorem qik (A:Option Addr) (s:ByteArray) (w:World) (F:Nat → Nat → Prop) (hO:∀ ad,A = some ad → ∃ b o,ad = ⟨b,o,none⟩ ∧ AtF w F b o [.string s]) (hs:s.size ≤ 1000000):Calls Tryd.prog 29 #[.pointer A] w (qdu w F (qel A s)):=by
 cases A with
 | none=>exact qii s w F
 | some ad =>
  obtain ⟨b,o,rfl,h⟩:=hO ad rfl
  exact qij b o s w F h hs
theorem qd3:qeV Tryd.prog 36 51:=by
 intro w B cp c n k A Av x x0 x1 x2 x3 xs G hbx ho hG hn
 refine enter (n:=14) Tryd.func36 rfl Tryd.ntmps36 kz fun a hE=>?_
 have hW:=hbx.wok
 have hE0:=(hE.grow ⟨B,0,[x0,x1,x2,x3,.slice A n cp],true⟩).recast 2 (.v (.pointer (some ⟨B,0,none⟩))) (.p 0 0) rfl rfl (by simp [SV.ok])
 have hsm:=Slots.small ho
 have ap:=hE0.pk (env':=[(0,.v (.int .u32 k)),(1,.v (.slice Av x.length c)),(2,.p 0 0)])
 refine qds 9 kz hW fun w1 hF2 hW3 hT4=>?_
 refine qaK [0,1,2,3] [(2,.p 0 0),(6,.v (.slice A n cp)),(7,.v (.int .u32 k)),(8,.v (.slice Av x.length c))] 6 qag (fun _ h=>h.cells) hT4 ap fun a5 hE6=>?_
 have hW7:=hW3.addNil 5 1
 have hF8:=hW3.frNil 5 1
 refine qaG (i:=4) kz (qbb hW7 hE6 (k:=1) (d:=9) (t:=22) (e:=5) (size:=1) (bytes:=1) (A:=none) (As:=Av) (m0:=0) (c:=0) (m:=x.length) (cs:=c) (xs:=[]) (news:=bc x) kz kz rfl (ho.move hW7.step (fun b o h _=>hG b o h) qaI).src (ho.move hW7.step (fun b o h _=>hG b o h) qaI).cap (by first | omega | (simp only [List.length_nil]; omega) | (simp; omega)) fun A9 aa aK aL ac ar au=>?_)
 have av:(⟨A9,aa,5,1,0 + x.length,[] ++ bc x⟩:Rw) = brow A9 aa 5 x:=by rw [List.nil_append,Nat.zero_add]
 obtain ⟨af,ae⟩:=ar.rowEq 1 [⟨A,cp,51,2,n,xs⟩,brow A9 aa 5 x] av
 have aw:=EnvOk.pick au (ks:=[2,6,7,8,9]) (env':=[(2,.p 0 0),(6,.v (.slice A n cp)),(7,.v (.int .u32 k)),(8,.v (.slice Av x.length c)),(9,.v (.slice A9 (0 + x.length) aa))]) kz
 have ax:=aw.cast (env':=[(2,.p 0 0),(6,.v (.slice A n cp)),(7,.v (.int .u32 k)),(8,.v (.slice Av x.length c)),(9,.v (.slice A9 x.length aa))]) (by simp only [List.length_append,List.length_cons,List.length_nil,Nat.zero_add])
 have ag:=TT.ofW ((hF8.trans ac).trans ae) af
 refine ⟨fun _=>ag,?_⟩
 refine qaK [5] [(2,.p 0 0),(6,.v (.slice A n cp)),(10,.v (.agg #[.int .u32 k,.slice A9 x.length aa]))] 4 qag (fun _ h=>h.cells) ag ax fun aM ay=>?_
 refine qaG (i:=6) kz (qcP af ay (e:=51) (size:=2) (len:=1) (cs:=[.int .u32 k,.slice A9 x.length aa]) (d:=11) kz kz fun aF aO aP aG aH ah ab az=>?_)
 have aA:=TT.ofW (((hF8.trans ac).trans ae).trans ah) ab
 refine ⟨fun _=>aA,?_⟩
 refine qaG (i:=7) kz (qbb ab az (k:=0) (d:=12) (t:=25) (e:=51) (size:=2) (bytes:=32) (A:=A) (As:=(some ⟨aF,0,none⟩)) (m0:=n) (c:=cp) (m:=1) (cs:=1) (xs:=xs) (news:=[.int .u32 k,.slice A9 x.length aa]) kz kz rfl (qcO (ab.own 2 _ rfl) (qbI kz)) (qdh (ab.own 2 _ rfl)) (by first | omega | (simp only [List.length_nil]; omega) | (simp; omega)) fun am ao aQ aR aB ai aC=>?_)
 have aj:=TT.ofW ((((hF8.trans ac).trans ae).trans ah).trans aB) ai
 refine ⟨fun _=>aj,?_⟩
 refine qaK [8] [(12,.v (.slice am (n + 1) ao)),(13,.p 0 4)] 1 qag (fun _ h=>h.cells) aj aC fun aS aD=>?_
 refine qaG (i:=9) kz (qao ai aD (oi:=0) (cs:=[x0,x1,x2,x3,.slice am (n + 1) ao]) kz fun aT aI ak aE=>?_)
 refine ⟨fun h=>absurd rfl h,?_⟩
 refine qaS kz ?_ _
 refine qbk aE ak.cells (v:=.tuple #[]) kz ?_
 obtain ⟨al,aJ⟩:=ak.cutR 2 [⟨am,ao,51,2,n + 1,xs ++ [.int .u32 k,.slice A9 x.length aa]⟩,brow A9 aa 5 x]
 have hoo:=qek (s:=x) (Av:=A9) (c:=aa) (e8:=5) rfl al (by omega)
 obtain ⟨hb1,hb2,hb3⟩:=qfr al (World.lt_of_cell (hbx.str.at_ 0 _ rfl))
 exact ⟨rfl,am,ao,A9,aa,hb1,hoo,hb2,hb3⟩
theorem qcm:qeV Tryd.prog 32 51:=by
 intro w B cp c n k A Av x x0 x1 x2 x3 xs G hbx ho hG hn
 refine enter (n:=14) Tryd.func32 rfl Tryd.ntmps32 kz fun a hE=>?_
 have hW:=hbx.wok
 have hE0:=(hE.grow ⟨B,0,[x0,x1,x2,x3,.slice A n cp],true⟩).recast 2 (.v (.pointer (some ⟨B,0,none⟩))) (.p 0 0) rfl rfl (by simp [SV.ok])
 have hsm:=Slots.small ho
 have ap:=hE0.pk (env':=[(0,.v (.int .u32 k)),(1,.v (.slice Av x.length c)),(2,.p 0 0)])
 refine qds 9 kz hW fun w1 hF2 hW3 hT4=>?_
 refine qaK [0,1,2,3] [(2,.p 0 0),(6,.v (.slice A n cp)),(7,.v (.int .u32 k)),(8,.v (.slice Av x.length c))] 6 qag (fun _ h=>h.cells) hT4 ap fun a5 hE6=>?_
 have hW7:=hW3.addNil 5 1
 have hF8:=hW3.frNil 5 1
 refine qaG (i:=4) kz (qbb hW7 hE6 (k:=1) (d:=9) (t:=22) (e:=5) (size:=1) (bytes:=1) (A:=none) (As:=Av) (m0:=0) (c:=0) (m:=x.length) (cs:=c) (xs:=[]) (news:=bc x) kz kz rfl (ho.move hW7.step (fun b o h _=>hG b o h) qaI).src (ho.move hW7.step (fun b o h _=>hG b o h) qaI).cap (by first | omega | (simp only [List.length_nil]; omega) | (simp; omega)) fun A9 aa aK aL ac ar au=>?_)
 have av:(⟨A9,aa,5,1,0 + x.length,[] ++ bc x⟩:Rw) = brow A9 aa 5 x:=by rw [List.nil_append,Nat.zero_add]
 obtain ⟨af,ae⟩:=ar.rowEq 1 [⟨A,cp,51,2,n,xs⟩,brow A9 aa 5 x] av
 have aw:=EnvOk.pick au (ks:=[2,6,7,8,9]) (env':=[(2,.p 0 0),(6,.v (.slice A n cp)),(7,.v (.int .u32 k)),(8,.v (.slice Av x.length c)),(9,.v (.slice A9 (0 + x.length) aa))]) kz
 have ax:=aw.cast (env':=[(2,.p 0 0),(6,.v (.slice A n cp)),(7,.v (.int .u32 k)),(8,.v (.slice Av x.length c)),(9,.v (.slice A9 x.length aa))]) (by simp only [List.length_append,List.length_cons,List.length_nil,Nat.zero_add])
 have ag:=TT.ofW ((hF8.trans ac).trans ae) af
 refine ⟨fun _=>ag,?_⟩
 refine qaK [5] [(2,.p 0 0),(6,.v (.slice A n cp)),(10,.v (.agg #[.int .u32 k,.slice A9 x.length aa]))] 4 qag (fun _ h=>h.cells) ag ax fun aM ay=>?_
 refine qaG (i:=6) kz (qcP af ay (e:=51) (size:=2) (len:=1) (cs:=[.int .u32 k,.slice A9 x.length aa]) (d:=11) kz kz fun aF aO aP aG aH ah ab az=>?_)
 have aA:=TT.ofW (((hF8.trans ac).trans ae).trans ah) ab
 refine ⟨fun _=>aA,?_⟩
 refine qaG (i:=7) kz (qbb ab az (k:=0) (d:=12) (t:=25) (e:=51) (size:=2) (bytes:=32) (A:=A) (As:=(some ⟨aF,0,none⟩)) (m0:=n) (c:=cp) (m:=1) (cs:=1) (xs:=xs) (news:=[.int .u32 k,.slice A9 x.length aa]) kz kz rfl (qcO (ab.own 2 _ rfl) (qbI kz)) (qdh (ab.own 2 _ rfl)) (by first | omega | (simp only [List.length_nil]; omega) | (simp; omega)) fun am ao aQ aR aB ai aC=>?_)
 have aj:=TT.ofW ((((hF8.trans ac).trans ae).trans ah).trans aB) ai
 refine ⟨fun _=>aj,?_⟩
 refine qaK [8] [(12,.v (.slice am (n + 1) ao)),(13,.p 0 4)] 1 qag (fun _ h=>h.cells) aj aC fun aS aD=>?_
 refine qaG (i:=9) kz (qao ai aD (oi:=0) (cs:=[x0,x1,x2,x3,.slice am (n + 1) ao]) kz fun aT aI ak aE=>?_)
 refine ⟨fun h=>absurd rfl h,?_⟩
 refine qaS kz ?_ _
 refine qbk aE ak.cells (v:=.tuple #[]) kz ?_
 obtain ⟨al,aJ⟩:=ak.cutR 2 [⟨am,ao,51,2,n + 1,xs ++ [.int .u32 k,.slice A9 x.length aa]⟩,brow A9 aa 5 x]
 have hoo:=qek (s:=x) (Av:=A9) (c:=aa) (e8:=5) rfl al (by omega)
 obtain ⟨hb1,hb2,hb3⟩:=qfr al (World.lt_of_cell (hbx.str.at_ 0 _ rfl))
 exact ⟨rfl,am,ao,A9,aa,hb1,hoo,hb2,hb3⟩
theorem qbY:qeV Tryd.prog 52 51:=by
 intro w B cp c n k A Av x x0 x1 x2 x3 xs G hbx ho hG hn
 refine enter (n:=14) Tryd.func52 rfl Tryd.ntmps52 kz fun a hE=>?_
 have hW:=hbx.wok
 have hE0:=(hE.grow ⟨B,0,[x0,x1,x2,x3,.slice A n cp],true⟩).recast 2 (.v (.pointer (some ⟨B,0,none⟩))) (.p 0 0) rfl rfl (by simp [SV.ok])
 have hsm:=Slots.small ho
 have ap:=hE0.pk (env':=[(0,.v (.int .u32 k)),(1,.v (.slice Av x.length c)),(2,.p 0 0)])
 refine qds 9 kz hW fun w1 hF2 hW3 hT4=>?_
 refine qaK [0,1,2,3] [(2,.p 0 0),(6,.v (.slice A n cp)),(7,.v (.int .u32 k)),(8,.v (.slice Av x.length c))] 6 qag (fun _ h=>h.cells) hT4 ap fun a5 hE6=>?_
 have hW7:=hW3.addNil 5 1
 have hF8:=hW3.frNil 5 1
 refine qaG (i:=4) kz (qbb hW7 hE6 (k:=1) (d:=9) (t:=22) (e:=5) (size:=1) (bytes:=1) (A:=none) (As:=Av) (m0:=0) (c:=0) (m:=x.length) (cs:=c) (xs:=[]) (news:=bc x) kz kz rfl (ho.move hW7.step (fun b o h _=>hG b o h) qaI).src (ho.move hW7.step (fun b o h _=>hG b o h) qaI).cap (by first | omega | (simp only [List.length_nil]; omega) | (simp; omega)) fun A9 aa aK aL ac ar au=>?_)
 have av:(⟨A9,aa,5,1,0 + x.length,[] ++ bc x⟩:Rw) = brow A9 aa 5 x:=by rw [List.nil_append,Nat.zero_add]
 obtain ⟨af,ae⟩:=ar.rowEq 1 [⟨A,cp,51,2,n,xs⟩,brow A9 aa 5 x] av
 have aw:=EnvOk.pick au (ks:=[2,6,7,8,9]) (env':=[(2,.p 0 0),(6,.v (.slice A n cp)),(7,.v (.int .u32 k)),(8,.v (.slice Av x.length c)),(9,.v (.slice A9 (0 + x.length) aa))]) kz
 have ax:=aw.cast (env':=[(2,.p 0 0),(6,.v (.slice A n cp)),(7,.v (.int .u32 k)),(8,.v (.slice Av x.length c)),(9,.v (.slice A9 x.length aa))]) (by simp only [List.length_append,List.length_cons,List.length_nil,Nat.zero_add])
 have ag:=TT.ofW ((hF8.trans ac).trans ae) af
 refine ⟨fun _=>ag,?_⟩
 refine qaK [5] [(2,.p 0 0),(6,.v (.slice A n cp)),(10,.v (.agg #[.int .u32 k,.slice A9 x.length aa]))] 4 qag (fun _ h=>h.cells) ag ax fun aM ay=>?_
 refine qaG (i:=6) kz (qcP af ay (e:=51) (size:=2) (len:=1) (cs:=[.int .u32 k,.slice A9 x.length aa]) (d:=11) kz kz fun aF aO aP aG aH ah ab az=>?_)
 have aA:=TT.ofW (((hF8.trans ac).trans ae).trans ah) ab
 refine ⟨fun _=>aA,?_⟩
 refine qaG (i:=7) kz (qbb ab az (k:=0) (d:=12) (t:=25) (e:=51) (size:=2) (bytes:=32) (A:=A) (As:=(some ⟨aF,0,none⟩)) (m0:=n) (c:=cp) (m:=1) (cs:=1) (xs:=xs) (news:=[.int .u32 k,.slice A9 x.length aa]) kz kz rfl (qcO (ab.own 2 _ rfl) (qbI kz)) (qdh (ab.own 2 _ rfl)) (by first | omega | (simp only [List.length_nil]; omega) | (simp; omega)) fun am ao aQ aR aB ai aC=>?_)
 have aj:=TT.ofW ((((hF8.trans ac).trans ae).trans ah).trans aB) ai
 refine ⟨fun _=>aj,?_⟩
 refine qaK [8] [(12,.v (.slice am (n + 1) ao)),(13,.p 0 4)] 1 qag (fun _ h=>h.cells) aj aC fun aS aD=>?_
 refine qaG (i:=9) kz (qao ai aD (oi:=0) (cs:=[x0,x1,x2,x3,.slice am (n + 1) ao]) kz fun aT aI ak aE=>?_)
 refine ⟨fun h=>absurd rfl h,?_⟩
 refine qaS kz ?_ _
 refine qbk aE ak.cells (v:=.tuple #[]) kz ?_
 obtain ⟨al,aJ⟩:=ak.cutR 2 [⟨am,ao,51,2,n + 1,xs ++ [.int .u32 k,.slice A9 x.length aa]⟩,brow A9 aa 5 x]
 have hoo:=qek (s:=x) (Av:=A9) (c:=aa) (e8:=5) rfl al (by omega)
 obtain ⟨hb1,hb2,hb3⟩:=qfr al (World.lt_of_cell (hbx.str.at_ 0 _ rfl))
 exact ⟨rfl,am,ao,A9,aa,hb1,hoo,hb2,hb3⟩
theorem qfF {P:Program} {ops:Array Oper} {Q:Exit → Act → World → Prop} {a:Act} {w:World} {T:World → Prop} {c i j fuel:Nat} {listed:Array Bool} (hr:Region.ready .any ops listed = [i,j]) (h:wpOp P ops Q i (fun a' w'=>(i ≠ c → T w') ∧ qbA P ops Q T c fuel (listed.setIfInBounds i true) a' w') a w)
  (h':wpOp P ops Q j (fun a' w'=>(j ≠ c → T w') ∧ qbA P ops Q T c fuel (listed.setIfInBounds j true) a' w') a w):qbA P ops Q T c (fuel + 1) listed a w:=by
 refine ⟨fun h0=>(by rw [hr] at h0; cases h0),fun q hq=>?_⟩
 rw [hr] at hq
 simp only [List.mem_cons,List.not_mem_nil,or_false] at hq
 rcases hq with rfl | rfl
 ·exact h
 exact h'
end Go.Proofs.YtmpejmiiphddhaaDoorR.ME