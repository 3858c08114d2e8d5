/- The texts of a claim, put together: the engine, the contracts, the law. Own work. -/
import Derived.Test.YtajibgahdkllkaaDoorRWu1P2
namespace Go.Proofs.YtajibgahdkllkaaDoorR.ME
open Go
open Go.RowKit
set_option linter.unusedVariables false
set_option linter.unusedSimpArgs false
set_option maxRecDepth 20000
set_option maxHeartbeats 4000000 in
theorem qbN (v:Int) (s:Bs) (hl:s.length ≤ 1000) {ue:TypeId} {ve:Value} {A2:Option Addr} {c2:Nat} {w:World} {F:Nat → Nat → Prop} (hs_:Octs w F A2 c2 s) (hgl:AtF w F 1 0 [.iface ue ve]) (hb:(qax (IntKind.i16.wrap v) (false,s)).1 = true) :
  Calls Tryd.prog 14 #[.int .i64 v,.slice A2 s.length c2] w (fun e w'=>∃ cs,e = .returned (.tuple #[.agg cs.toArray,.bool false]) ∧ TreeR w' (Fp F w) cs (.zero) ∧ Step w w' Nil):=by
 refine enter (n:=20) Tryd.func14 rfl Tryd.ntmps14 kz fun a hE=>?_
 have hW:=WOk.start w Nil
 have hsm2:=Slots.small hs_
 refine qae [0,1] kz ?_
 refine qal (qaO hW hE (d:=4) (cs:=[.int .i64 0,.slice none 0 0,.bool false,.slice none 0 0,.slice none 0 0]) kz fun b1 a2 w3 hb4 hz5 hF6 hW7 hE8=>?_)
 refine qam [1] [] [(0,.v (.int .i64 v)),(1,.v (.slice A2 s.length c2)),(4,.p 0 0)] hW7 hE8 fun a9 hE10=>?_
 refine qag (qab ?_)
 refine qae [0,1] kz ?_
 refine qal (qaQ hE10 (f:=32) (vs:=[]) (d:=7) (n':=3) kz Tryd.call32 Tryd.func32 rfl Tryd.ntmps32 kz fun a11 hE12=>?_)
 refine qau [] hW7 hE12 fun a13 hE14=>?_
 refine qae [0] kz ?_
 refine qal (qaO hW7 hE14 (d:=1) (cs:=[.int .i16 0,.int .i32 0,.int .i16 0,.slice none 0 0,.map none]) kz fun b15 a16 w17 hb18 hz19 hF20 hW21 hE22=>?_)
 refine qag (qab ?_)
 refine qae [0] kz ?_
 refine qal (qaQ hE22 (f:=58) (vs:=[.pointer (some ⟨b15,0,none⟩)]) (d:=2) (n':=2) kz Tryd.call58 Tryd.func58 rfl Tryd.ntmps58 kz fun a23 hE24=>?_)
 have hE25:=hE24.recast 0 (.v (.pointer (some ⟨b15,0,none⟩))) (.p 1 0) rfl rfl (Nat.le_of_ble_eq_true (n:=2) rfl)
 refine wp_skip ?_
 refine qbi hE25 hW21.cells (v:=.tuple #[]) kz ?_
 refine ⟨_,rfl,fun a26 hE27=>?_⟩
 have hE28:=(EnvOk.places (tb':=[⟨b1,0,[.int .i64 0,.slice none 0 0,.bool false,.slice none 0 0,.slice none 0 0],true⟩,⟨b15,0,[.int .i16 0,.int .i32 0,.int .i16 0,.slice none 0 0,.map none],true⟩]) hE27 (show Pl [⟨b1,0,[.int .i64 0,.slice none 0 0,.bool false,.slice none 0 0,.slice none 0 0],true⟩,⟨b15,0,[.int .i16 0,.int .i32 0,.int .i16 0,.slice none 0 0,.map none],true⟩] [⟨b1,0,[.int .i64 0,.slice none 0 0,.bool false,.slice none 0 0,.slice none 0 0],true⟩,⟨b15,0,[.int .i16 0,.int .i32 0,.int .i16 0,.slice none 0 0,.map none],true⟩] from ⟨rfl,rfl,⟨rfl,rfl,trivial⟩⟩)).pk (env':=[(2,.v (.tuple #[])),(1,.p 1 0)])
 refine qag (qab ?_)
 refine qau [(0,.p 1 0)] hW21 hE28 fun a29 hE30=>?_
 refine wp_ret ?_
 refine qaZ hE30 hW21.cells (v:=.pointer (some ⟨b15,0,none⟩)) kz ?_
 refine ⟨_,rfl,fun a31 hE32=>?_⟩
 have hE33:=(EnvOk.places (tb':=[⟨b1,0,[.int .i64 0,.slice none 0 0,.bool false,.slice none 0 0,.slice none 0 0],true⟩,⟨b15,0,[.int .i16 0,.int .i32 0,.int .i16 0,.slice none 0 0,.map none],true⟩]) hE32 (show Pl [⟨b1,0,[.int .i64 0,.slice none 0 0,.bool false,.slice none 0 0,.slice none 0 0],true⟩] [⟨b1,0,[.int .i64 0,.slice none 0 0,.bool false,.slice none 0 0,.slice none 0 0],true⟩,⟨b15,0,[.int .i16 0,.int .i32 0,.int .i16 0,.slice none 0 0,.map none],true⟩] from ⟨rfl,rfl,trivial⟩)).pk (env':=[(7,.v (.pointer (some ⟨b15,0,none⟩))),(0,.v (.int .i64 v)),(1,.v (.slice A2 s.length c2)),(4,.p 0 0)])
 have hE34:=hE33.recast 7 (.v (.pointer (some ⟨b15,0,none⟩))) (.p 1 0) rfl rfl (Nat.le_of_ble_eq_true (n:=2) rfl)
 have hE35:=hE34.pick (ks:=[0,1,4,7]) (env':=[(0,.v (.int .i64 v)),(1,.v (.slice A2 s.length c2)),(4,.p 0 0),(7,.p 1 0)]) kz
 refine qam [1] [] [(0,.v (.int .i64 v)),(1,.v (.slice A2 s.length c2)),(4,.p 0 0),(6,.p 1 0)] hW21 hE35 fun a36 hE37=>?_
 refine qag (qab ?_)
 refine qae [0,1,2,3] kz ?_
 refine qam [0,1,2] [3] [(1,.v (.slice A2 s.length c2)),(4,.p 0 0),(6,.p 1 0),(8,.p 1 0),(10,.v (.int .i16 (IntKind.i16.wrap v)))] hW21 hE37 fun a38 hE39=>?_
 refine qal (qaQ hE39 (f:=34) (vs:=[.pointer (some ⟨b15,0,none⟩),.int .i16 (IntKind.i16.wrap v)]) (d:=11) (n':=8) kz Tryd.call34 Tryd.func34 rfl Tryd.ntmps34 kz fun a40 hE41=>?_)
 have hE42:=hE41.recast 0 (.v (.pointer (some ⟨b15,0,none⟩))) (.p 1 0) rfl rfl (Nat.le_of_ble_eq_true (n:=2) rfl)
 refine qaC [0,1,2,3,4] kz ?_
 refine qam [0,1,2,3] [4] [(5,.v (.int .i16 (IntKind.i16.wrap v))),(7,.p 1 0)] hW21 hE42 fun a43 hE44=>?_
 refine qal (qaq hW21 hE44 (oi:=1) (cs:=[.int .i16 (IntKind.i16.wrap v),.int .i32 0,.int .i16 0,.slice none 0 0,.map none]) kz fun w45 hF46 hW47 hE48=>?_)
 refine qag ?_
 refine qbi hE48 hW47.cells (v:=.tuple #[]) kz ?_
 refine ⟨_,rfl,fun a49 hE50=>?_⟩
 have hE51:=(EnvOk.places (tb':=[⟨b1,0,[.int .i64 0,.slice none 0 0,.bool false,.slice none 0 0,.slice none 0 0],true⟩,⟨b15,0,[.int .i16 (IntKind.i16.wrap v),.int .i32 0,.int .i16 0,.slice none 0 0,.map none],true⟩]) hE50 (show Pl [⟨b1,0,[.int .i64 0,.slice none 0 0,.bool false,.slice none 0 0,.slice none 0 0],true⟩,⟨b15,0,[.int .i16 0,.int .i32 0,.int .i16 0,.slice none 0 0,.map none],true⟩] [⟨b1,0,[.int .i64 0,.slice none 0 0,.bool false,.slice none 0 0,.slice none 0 0],true⟩,⟨b15,0,[.int .i16 (IntKind.i16.wrap v),.int .i32 0,.int .i16 0,.slice none 0 0,.map none],true⟩] from ⟨rfl,rfl,⟨rfl,rfl,trivial⟩⟩)).pk (env':=[(11,.v (.tuple #[])),(1,.v (.slice A2 s.length c2)),(4,.p 0 0),(6,.p 1 0),(8,.p 1 0),(10,.v (.int .i16 (IntKind.i16.wrap v)))])
 refine qag (qab ?_)
 refine wp_seq ?_
 refine qae [0,1,2,3,4] kz ?_
 refine qam [0,1] [2,3,4] [(4,.p 0 0),(6,.p 1 0),(12,.p 1 0),(13,.v (.slice A2 s.length c2))] hW47 hE51 fun a52 hE53=>?_
 have hW54:=hW47.addNil 5 1
 have hF55:=hW47.frNil 5 1
 refine qal (qa7 hW54 hE53 (k:=0) (d:=14) (t:=22) (e:=5) (size:=1) (bytes:=1) (A:=none) (As:=A2) (m0:=0) (c:=0) (m:=s.length) (cs:=c2) (xs:=[]) (news:=bc s) kz kz rfl (hs_.move hW54.step nilM hW54.imm).src (hs_.move hW54.step nilM hW54.imm).cap (by first | omega | (simp only [List.length_nil]; omega) | (simp; omega)) fun A56 c57 a58 w59 hF60 hW61 hE62=>?_)
 have er63:(⟨A56,c57,5,1,0 + s.length,[] ++ bc s⟩:Rw) = brow A56 c57 5 s:=by rw [List.nil_append,Nat.zero_add]
 obtain ⟨hW64,hF66⟩:=hW61.rowEq 0 [brow A56 c57 5 s] er63
 have hE67:=EnvOk.pick hE62 (ks:=[4,6,12,13,14]) (env':=[(4,.p 0 0),(6,.p 1 0),(12,.p 1 0),(13,.v (.slice A2 s.length c2)),(14,.v (.slice A56 (0 + s.length) c57))]) kz
 have hE65:=hE67.cast (env':=[(4,.p 0 0),(6,.p 1 0),(12,.p 1 0),(13,.v (.slice A2 s.length c2)),(14,.v (.slice A56 s.length c57))]) (by simp only [List.length_append,List.length_cons,List.length_nil,Nat.zero_add])
 refine qal (qaQ hE65 (f:=35) (vs:=[.pointer (some ⟨b15,0,none⟩),.slice A56 s.length c57]) (d:=15) (n':=8) kz Tryd.call35 Tryd.func35 rfl Tryd.ntmps35 kz fun a68 hE69=>?_)
 have hE70:=hE69.recast 0 (.v (.pointer (some ⟨b15,0,none⟩))) (.p 1 0) rfl rfl (Nat.le_of_ble_eq_true (n:=2) rfl)
 refine qau [(0,.p 1 0),(1,.v (.slice A56 s.length c57))] hW64 hE70 fun a71 hE72=>?_
 refine qae [0,1,2,3] kz ?_
 refine qam [0,1] [2,3] [(5,.p 1 0),(6,.v (.slice A56 s.length c57))] hW64 hE72 fun a73 hE74=>?_
 have ho75:=hW64.giveUp (G:=F) 0 [] (show _ = some (brow A56 c57 5 s) from rfl) (by omega)
 obtain ⟨hW76,hF77⟩:=hW64.cutR 0 []
 refine qal (qaw hE74 (f:=59) (vs:=[.pointer (some ⟨b15,0,none⟩),.slice A56 s.length c57,.bool false]) (d:=7) kz Tryd.call59 (qby (IntKind.i16.wrap v) false s hl (Str.of hW76 1 rfl) ho75 (hgl.move hW76.step nilM hW76.imm) (qfj 1 rfl) hb) ?_)
 rintro e_ w78 ⟨rfl,⟨D79,hs80,hn91⟩,hst83⟩
 obtain ⟨hW84,hF85,hl86⟩:=hW76.wrote 1 [⟨b1,0,[.int .i64 0,.slice none 0 0,.bool false,.slice none 0 0,.slice none 0 0],true⟩,⟨b15,0,D79,true⟩] rfl hst83 hs80 rfl hn91
 refine ⟨_,rfl,fun a87 hE88=>?_⟩
 have hE89:=(EnvOk.places (tb':=[⟨b1,0,[.int .i64 0,.slice none 0 0,.bool false,.slice none 0 0,.slice none 0 0],true⟩,⟨b15,0,D79,true⟩]) hE88 (show Pl [⟨b1,0,[.int .i64 0,.slice none 0 0,.bool false,.slice none 0 0,.slice none 0 0],true⟩,⟨b15,0,[.int .i16 (IntKind.i16.wrap v),.int .i32 0,.int .i16 0,.slice none 0 0,.map none],true⟩] [⟨b1,0,[.int .i64 0,.slice none 0 0,.bool false,.slice none 0 0,.slice none 0 0],true⟩,⟨b15,0,D79,true⟩] from ⟨rfl,rfl,⟨rfl,rfl,trivial⟩⟩)).pk (env':=[(7,.v (.iface ue ve)),(5,.p 1 0),(6,.v (.slice A56 s.length c57))])
 refine qam [3] [] [(4,.v (.iface ue ve))] hW84 hE89 fun a92 hE93=>?_
 refine qag (qab ?_)
 refine wp_ret ?_
 refine qaZ hE93 hW84.cells (v:=.iface ue ve) kz ?_
 refine ⟨_,rfl,fun a94 hE95=>?_⟩
 have hE96:=(EnvOk.places (tb':=[⟨b1,0,[.int .i64 0,.slice none 0 0,.bool false,.slice none 0 0,.slice none 0 0],true⟩,⟨b15,0,D79,true⟩]) hE95 (show Pl [⟨b1,0,[.int .i64 0,.slice none 0 0,.bool false,.slice none 0 0,.slice none 0 0],true⟩,⟨b15,0,[.int .i16 (IntKind.i16.wrap v),.int .i32 0,.int .i16 0,.slice none 0 0,.map none],true⟩] [⟨b1,0,[.int .i64 0,.slice none 0 0,.bool false,.slice none 0 0,.slice none 0 0],true⟩,⟨b15,0,D79,true⟩] from ⟨rfl,rfl,⟨rfl,rfl,trivial⟩⟩)).pk (env':=[(15,.v (.iface ue ve)),(4,.p 0 0),(6,.p 1 0),(12,.p 1 0),(13,.v (.slice A2 s.length c2)),(14,.v (.slice A56 s.length c57))])
 refine qam [4] [] [(4,.p 0 0),(6,.p 1 0),(16,.v (.bool true))] hW84 hE96 fun a97 hE98=>?_
 refine qag (qab ?_)
 refine qaV hE98 (b:=true) kz rfl ?_
 refine qae [0,1,2] kz ?_
 refine qam [0] [1,2] [(4,.p 0 0),(17,.v (.agg #[.int .i64 0,.slice none 0 0,.bool false,.slice none 0 0,.slice none 0 0]))] hW84 hE98 fun a99 hE100=>?_
 refine qal (qaq hW84 hE100 (oi:=0) (cs:=[.int .i64 0,.slice none 0 0,.bool false,.slice none 0 0,.slice none 0 0]) kz fun w101 hF102 hW103 hE104=>?_)
 refine qam [2] [] [(4,.p 0 0),(5,.v (.bool false))] hW103 hE104 fun a105 hE106=>?_
 refine qag (qab ?_)
 refine wp_ret ?_
 refine qa2 ?_
 refine qaZ hE106 hW103.cells (v:=.tuple #[.agg #[.int .i64 0,.slice none 0 0,.bool false,.slice none 0 0,.slice none 0 0],.bool false]) kz ?_
 exact ⟨_,rfl,TreeR.zero _ _,hW103.step⟩
set_option maxHeartbeats 4000000 in
theorem qbO (v:Int) (s:Bs) (hl:s.length ≤ 1000) {ue:TypeId} {ve:Value} {A2:Option Addr} {c2:Nat} {w:World} {F:Nat → Nat → Prop} (hs_:Octs w F A2 c2 s) (hgl:AtF w F 1 0 [.iface ue ve]) (hb:(qax (IntKind.i16.wrap v) (false,s)).1 = false) :
  Calls Tryd.prog 14 #[.int .i64 v,.slice A2 s.length c2] w (fun e w'=>∃ cs,e = .returned (.tuple #[.agg cs.toArray,.bool true]) ∧ TreeR w' (Fp F w) cs (qa6 (IntKind.i16.wrap v) (false,s)) ∧ Step w w' Nil):=by
 refine enter (n:=20) Tryd.func14 rfl Tryd.ntmps14 kz fun a hE=>?_
 have hW:=WOk.start w Nil
 have hsm2:=Slots.small hs_
 refine qae [0,1] kz ?_
 refine qal (qaO hW hE (d:=4) (cs:=[.int .i64 0,.slice none 0 0,.bool false,.slice none 0 0,.slice none 0 0]) kz fun b1 a2 w3 hb4 hz5 hF6 hW7 hE8=>?_)
 refine qam [1] [] [(0,.v (.int .i64 v)),(1,.v (.slice A2 s.length c2)),(4,.p 0 0)] hW7 hE8 fun a9 hE10=>?_
 refine qag (qab ?_)
 refine qae [0,1] kz ?_
 refine qal (qaQ hE10 (f:=32) (vs:=[]) (d:=7) (n':=3) kz Tryd.call32 Tryd.func32 rfl Tryd.ntmps32 kz fun a11 hE12=>?_)
 refine qau [] hW7 hE12 fun a13 hE14=>?_
 refine qae [0] kz ?_
 refine qal (qaO hW7 hE14 (d:=1) (cs:=[.int .i16 0,.int .i32 0,.int .i16 0,.slice none 0 0,.map none]) kz fun b15 a16 w17 hb18 hz19 hF20 hW21 hE22=>?_)
 refine qag (qab ?_)
 refine qae [0] kz ?_
 refine qal (qaQ hE22 (f:=58) (vs:=[.pointer (some ⟨b15,0,none⟩)]) (d:=2) (n':=2) kz Tryd.call58 Tryd.func58 rfl Tryd.ntmps58 kz fun a23 hE24=>?_)
 have hE25:=hE24.recast 0 (.v (.pointer (some ⟨b15,0,none⟩))) (.p 1 0) rfl rfl (Nat.le_of_ble_eq_true (n:=2) rfl)
 refine wp_skip ?_
 refine qbi hE25 hW21.cells (v:=.tuple #[]) kz ?_
 refine ⟨_,rfl,fun a26 hE27=>?_⟩
 have hE28:=(EnvOk.places (tb':=[⟨b1,0,[.int .i64 0,.slice none 0 0,.bool false,.slice none 0 0,.slice none 0 0],true⟩,⟨b15,0,[.int .i16 0,.int .i32 0,.int .i16 0,.slice none 0 0,.map none],true⟩]) hE27 (show Pl [⟨b1,0,[.int .i64 0,.slice none 0 0,.bool false,.slice none 0 0,.slice none 0 0],true⟩,⟨b15,0,[.int .i16 0,.int .i32 0,.int .i16 0,.slice none 0 0,.map none],true⟩] [⟨b1,0,[.int .i64 0,.slice none 0 0,.bool false,.slice none 0 0,.slice none 0 0],true⟩,⟨b15,0,[.int .i16 0,.int .i32 0,.int .i16 0,.slice none 0 0,.map none],true⟩] from ⟨rfl,rfl,⟨rfl,rfl,trivial⟩⟩)).pk (env':=[(2,.v (.tuple #[])),(1,.p 1 0)])
 refine qag (qab ?_)
 refine qau [(0,.p 1 0)] hW21 hE28 fun a29 hE30=>?_
 refine wp_ret ?_
 refine qaZ hE30 hW21.cells (v:=.pointer (some ⟨b15,0,none⟩)) kz ?_
 refine ⟨_,rfl,fun a31 hE32=>?_⟩
 have hE33:=(EnvOk.places (tb':=[⟨b1,0,[.int .i64 0,.slice none 0 0,.bool false,.slice none 0 0,.slice none 0 0],true⟩,⟨b15,0,[.int .i16 0,.int .i32 0,.int .i16 0,.slice none 0 0,.map none],true⟩]) hE32 (show Pl [⟨b1,0,[.int .i64 0,.slice none 0 0,.bool false,.slice none 0 0,.slice none 0 0],true⟩] [⟨b1,0,[.int .i64 0,.slice none 0 0,.bool false,.slice none 0 0,.slice none 0 0],true⟩,⟨b15,0,[.int .i16 0,.int .i32 0,.int .i16 0,.slice none 0 0,.map none],true⟩] from ⟨rfl,rfl,trivial⟩)).pk (env':=[(7,.v (.pointer (some ⟨b15,0,none⟩))),(0,.v (.int .i64 v)),(1,.v (.slice A2 s.length c2)),(4,.p 0 0)])
 have hE34:=hE33.recast 7 (.v (.pointer (some ⟨b15,0,none⟩))) (.p 1 0) rfl rfl (Nat.le_of_ble_eq_true (n:=2) rfl)
 have hE35:=hE34.pick (ks:=[0,1,4,7]) (env':=[(0,.v (.int .i64 v)),(1,.v (.slice A2 s.length c2)),(4,.p 0 0),(7,.p 1 0)]) kz
 refine qam [1] [] [(0,.v (.int .i64 v)),(1,.v (.slice A2 s.length c2)),(4,.p 0 0),(6,.p 1 0)] hW21 hE35 fun a36 hE37=>?_
 refine qag (qab ?_)
 refine qae [0,1,2,3] kz ?_
 refine qam [0,1,2] [3] [(1,.v (.slice A2 s.length c2)),(4,.p 0 0),(6,.p 1 0),(8,.p 1 0),(10,.v (.int .i16 (IntKind.i16.wrap v)))] hW21 hE37 fun a38 hE39=>?_
 refine qal (qaQ hE39 (f:=34) (vs:=[.pointer (some ⟨b15,0,none⟩),.int .i16 (IntKind.i16.wrap v)]) (d:=11) (n':=8) kz Tryd.call34 Tryd.func34 rfl Tryd.ntmps34 kz fun a40 hE41=>?_)
 have hE42:=hE41.recast 0 (.v (.pointer (some ⟨b15,0,none⟩))) (.p 1 0) rfl rfl (Nat.le_of_ble_eq_true (n:=2) rfl)
 refine qaC [0,1,2,3,4] kz ?_
 refine qam [0,1,2,3] [4] [(5,.v (.int .i16 (IntKind.i16.wrap v))),(7,.p 1 0)] hW21 hE42 fun a43 hE44=>?_
 refine qal (qaq hW21 hE44 (oi:=1) (cs:=[.int .i16 (IntKind.i16.wrap v),.int .i32 0,.int .i16 0,.slice none 0 0,.map none]) kz fun w45 hF46 hW47 hE48=>?_)
 refine qag ?_
 refine qbi hE48 hW47.cells (v:=.tuple #[]) kz ?_
 refine ⟨_,rfl,fun a49 hE50=>?_⟩
 have hE51:=(EnvOk.places (tb':=[⟨b1,0,[.int .i64 0,.slice none 0 0,.bool false,.slice none 0 0,.slice none 0 0],true⟩,⟨b15,0,[.int .i16 (IntKind.i16.wrap v),.int .i32 0,.int .i16 0,.slice none 0 0,.map none],true⟩]) hE50 (show Pl [⟨b1,0,[.int .i64 0,.slice none 0 0,.bool false,.slice none 0 0,.slice none 0 0],true⟩,⟨b15,0,[.int .i16 0,.int .i32 0,.int .i16 0,.slice none 0 0,.map none],true⟩] [⟨b1,0,[.int .i64 0,.slice none 0 0,.bool false,.slice none 0 0,.slice none 0 0],true⟩,⟨b15,0,[.int .i16 (IntKind.i16.wrap v),.int .i32 0,.int .i16 0,.slice none 0 0,.map none],true⟩] from ⟨rfl,rfl,⟨rfl,rfl,trivial⟩⟩)).pk (env':=[(11,.v (.tuple #[])),(1,.v (.slice A2 s.length c2)),(4,.p 0 0),(6,.p 1 0),(8,.p 1 0),(10,.v (.int .i16 (IntKind.i16.wrap v)))])
 refine qag (qab ?_)
 refine wp_seq ?_
 refine qae [0,1,2,3,4] kz ?_
 refine qam [0,1] [2,3,4] [(4,.p 0 0),(6,.p 1 0),(12,.p 1 0),(13,.v (.slice A2 s.length c2))] hW47 hE51 fun a52 hE53=>?_
 have hW54:=hW47.addNil 5 1
 have hF55:=hW47.frNil 5 1
 refine qal (qa7 hW54 hE53 (k:=0) (d:=14) (t:=22) (e:=5) (size:=1) (bytes:=1) (A:=none) (As:=A2) (m0:=0) (c:=0) (m:=s.length) (cs:=c2) (xs:=[]) (news:=bc s) kz kz rfl (hs_.move hW54.step nilM hW54.imm).src (hs_.move hW54.step nilM hW54.imm).cap (by first | omega | (simp only [List.length_nil]; omega) | (simp; omega)) fun A56 c57 a58 w59 hF60 hW61 hE62=>?_)
 have er63:(⟨A56,c57,5,1,0 + s.length,[] ++ bc s⟩:Rw) = brow A56 c57 5 s:=by rw [List.nil_append,Nat.zero_add]
 obtain ⟨hW64,hF66⟩:=hW61.rowEq 0 [brow A56 c57 5 s] er63
 have hE67:=EnvOk.pick hE62 (ks:=[4,6,12,13,14]) (env':=[(4,.p 0 0),(6,.p 1 0),(12,.p 1 0),(13,.v (.slice A2 s.length c2)),(14,.v (.slice A56 (0 + s.length) c57))]) kz
 have hE65:=hE67.cast (env':=[(4,.p 0 0),(6,.p 1 0),(12,.p 1 0),(13,.v (.slice A2 s.length c2)),(14,.v (.slice A56 s.length c57))]) (by simp only [List.length_append,List.length_cons,List.length_nil,Nat.zero_add])
 refine qal (qaQ hE65 (f:=35) (vs:=[.pointer (some ⟨b15,0,none⟩),.slice A56 s.length c57]) (d:=15) (n':=8) kz Tryd.call35 Tryd.func35 rfl Tryd.ntmps35 kz fun a68 hE69=>?_)
 have hE70:=hE69.recast 0 (.v (.pointer (some ⟨b15,0,none⟩))) (.p 1 0) rfl rfl (Nat.le_of_ble_eq_true (n:=2) rfl)
 refine qau [(0,.p 1 0),(1,.v (.slice A56 s.length c57))] hW64 hE70 fun a71 hE72=>?_
 refine qae [0,1,2,3] kz ?_
 refine qam [0,1] [2,3] [(5,.p 1 0),(6,.v (.slice A56 s.length c57))] hW64 hE72 fun a73 hE74=>?_
 have ho75:=hW64.giveUp (G:=F) 0 [] (show _ = some (brow A56 c57 5 s) from rfl) (by omega)
 obtain ⟨hW76,hF77⟩:=hW64.cutR 0 []
 refine qal (qaw hE74 (f:=59) (vs:=[.pointer (some ⟨b15,0,none⟩),.slice A56 s.length c57,.bool false]) (d:=7) kz Tryd.call59 (qbz (IntKind.i16.wrap v) false s hl (Str.of hW76 1 rfl) ho75 (hgl.move hW76.step nilM hW76.imm) (qfj 1 rfl) hb) ?_)
 rintro e_ w78 ⟨D79,rfl,hs80,hk81,hv82,hst83⟩
 obtain ⟨hW84,hF85,hl86⟩:=hW76.wrote 1 [⟨b1,0,[.int .i64 0,.slice none 0 0,.bool false,.slice none 0 0,.slice none 0 0],true⟩,⟨b15,0,[.int .i16 (IntKind.i16.wrap v),.int .i32 ((D79.f 0).n),.int .i16 ((D79.f 1).n),.slice ((D79.f 2).A) ((D79.f 2).l) ((D79.f 2).c),.map D79.m],true⟩] rfl hst83 hs80
 have hk90:=qa5 _ (Step.refl _ Nil) nilM hl86 hk81
 refine ⟨_,rfl,fun a87 hE88=>?_⟩
 have hE89:=(EnvOk.places (tb':=[⟨b1,0,[.int .i64 0,.slice none 0 0,.bool false,.slice none 0 0,.slice none 0 0],true⟩,⟨b15,0,[.int .i16 (IntKind.i16.wrap v),.int .i32 ((D79.f 0).n),.int .i16 ((D79.f 1).n),.slice ((D79.f 2).A) ((D79.f 2).l) ((D79.f 2).c),.map D79.m],true⟩]) hE88 (show Pl [⟨b1,0,[.int .i64 0,.slice none 0 0,.bool false,.slice none 0 0,.slice none 0 0],true⟩,⟨b15,0,[.int .i16 (IntKind.i16.wrap v),.int .i32 0,.int .i16 0,.slice none 0 0,.map none],true⟩] [⟨b1,0,[.int .i64 0,.slice none 0 0,.bool false,.slice none 0 0,.slice none 0 0],true⟩,⟨b15,0,[.int .i16 (IntKind.i16.wrap v),.int .i32 ((D79.f 0).n),.int .i16 ((D79.f 1).n),.slice ((D79.f 2).A) ((D79.f 2).l) ((D79.f 2).c),.map D79.m],true⟩] from ⟨rfl,rfl,⟨rfl,rfl,trivial⟩⟩)).pk (env':=[(7,.v (.nilIface)),(5,.p 1 0),(6,.v (.slice A56 s.length c57))])
 refine qam [3] [] [(4,.v (.nilIface))] hW84 hE89 fun a92 hE93=>?_
 refine qag (qab ?_)
 refine wp_ret ?_
 refine qaZ hE93 hW84.cells (v:=.nilIface) kz ?_
 refine ⟨_,rfl,fun a94 hE95=>?_⟩
 have hE96:=(EnvOk.places (tb':=[⟨b1,0,[.int .i64 0,.slice none 0 0,.bool false,.slice none 0 0,.slice none 0 0],true⟩,⟨b15,0,[.int .i16 (IntKind.i16.wrap v),.int .i32 ((D79.f 0).n),.int .i16 ((D79.f 1).n),.slice ((D79.f 2).A) ((D79.f 2).l) ((D79.f 2).c),.map D79.m],true⟩]) hE95 (show Pl [⟨b1,0,[.int .i64 0,.slice none 0 0,.bool false,.slice none 0 0,.slice none 0 0],true⟩,⟨b15,0,[.int .i16 (IntKind.i16.wrap v),.int .i32 0,.int .i16 0,.slice none 0 0,.map none],true⟩] [⟨b1,0,[.int .i64 0,.slice none 0 0,.bool false,.slice none 0 0,.slice none 0 0],true⟩,⟨b15,0,[.int .i16 (IntKind.i16.wrap v),.int .i32 ((D79.f 0).n),.int .i16 ((D79.f 1).n),.slice ((D79.f 2).A) ((D79.f 2).l) ((D79.f 2).c),.map D79.m],true⟩] from ⟨rfl,rfl,⟨rfl,rfl,trivial⟩⟩)).pk (env':=[(15,.v (.nilIface)),(4,.p 0 0),(6,.p 1 0),(12,.p 1 0),(13,.v (.slice A2 s.length c2)),(14,.v (.slice A56 s.length c57))])
 refine qam [4] [] [(4,.p 0 0),(6,.p 1 0),(16,.v (.bool false))] hW84 hE96 fun a97 hE98=>?_
 refine qag (qab ?_)
 refine qan hE98 (b:=false) kz rfl ?_
 refine wp_skip ?_
 refine qab ?_
 refine qae [0,1,2,3] kz ?_
 refine qam [0] [1,2,3] [(4,.p 0 0),(18,.p 1 0)] hW84 hE98 fun a99 hE100=>?_
 have hE101:=hE100.recast 18 (.p 1 0) (.v (.pointer (some ⟨b15,0,none⟩))) rfl rfl trivial
 have hE102:=hE101.pk (env':=[(4,.p 0 0),(18,.v (.pointer (some ⟨b15,0,none⟩)))])
 have hat103:=WOk.strOut (G:=F) [⟨b1,0,[.int .i64 0,.slice none 0 0,.bool false,.slice none 0 0,.slice none 0 0],true⟩] hW84
 obtain ⟨hE104,hW105,hF106⟩:=hW84.cutB hE102 1 [⟨b1,0,[.int .i64 0,.slice none 0 0,.bool false,.slice none 0 0,.slice none 0 0],true⟩] [(4,.p 0 0),(18,.v (.pointer (some ⟨b15,0,none⟩)))]
 have hk107:=qa5 _ hF106.step immM hF106.to' hk90
 refine qal (qaw hE104 (f:=36) (vs:=[.pointer (some ⟨b15,0,none⟩)]) (d:=19) kz Tryd.call36 (qbG (IntKind.i16.wrap v) D79 b15 0 _ _ hat103 hk107) ?_)
 rintro e_ w111 ⟨cs110,rfl,hr109,hs108⟩
 have hr112:=hr109.move (Step.refl _ Nil) nilM (hW105.laid (G:=F) hs108)
 obtain ⟨n113,s114,b115,l116,u117,A118,c119,A120,c121,A122,c123,xs124,ht130,hcs125,h126,h127,h128,h129⟩:=hr112.open_
 rw [hcs125] at hr112
 have hsm131:=h126.small
 have hsm132:=h127.small
 rw [hcs125]
 refine ⟨_,rfl,fun a133 hE134=>?_⟩
 have hW135:=hW105.next_nil hs108
 have hF136:=hW105.frN hs108
 refine qal (qaq hW135 hE134 (oi:=0) (cs:=[.int .i64 n113,.slice A118 s114.length c119,.bool b115,.slice A120 l116.length c121,.slice A122 u117.length c123]) kz fun w137 hF138 hW139 hE140=>?_)
 refine qam [3] [] [(4,.p 0 0),(5,.v (.bool true))] hW139 hE140 fun a141 hE142=>?_
 refine qag (qab ?_)
 refine wp_ret ?_
 refine qaZ hE142 hW139.cells (v:=.tuple #[.agg #[.int .i64 n113,.slice A118 s114.length c119,.bool b115,.slice A120 l116.length c121,.slice A122 u117.length c123],.bool true]) kz ?_
 rw [← hv82]
 exact ⟨_,rfl,(show TreeR _ (Imm F w w137 [⟨b1,0,[.int .i64 n113,.slice A118 s114.length c119,.bool b115,.slice A120 l116.length c121,.slice A122 u117.length c123],true⟩] []) _ (qaX D79) from (hr112.move hF138.step immM hF138.to')).move (Step.refl _ Nil) nilM qbW,hW139.step⟩
set_option maxHeartbeats 4000000 in
theorem qbL (v:Int) (s:Bs) (hl:s.length ≤ 1000) {ue:TypeId} {ve:Value} {A2:Option Addr} {c2:Nat} {w:World} {F:Nat → Nat → Prop} (hs_:Octs w F A2 c2 s) (hgl:AtF w F 1 0 [.iface ue ve]) (hb:(qax (IntKind.i16.wrap v) (false,s)).1 = true) :
  Calls Tryd.prog 16 #[.int .i64 v,.slice A2 s.length c2] w (fun e w'=>∃ cs,e = .returned (.tuple #[.agg cs.toArray,.bool false]) ∧ TreeR w' (Fp F w) cs (.zero) ∧ Step w w' Nil):=by
 refine enter (n:=20) Tryd.func16 rfl Tryd.ntmps16 kz fun a hE=>?_
 have hW:=WOk.start w Nil
 have hsm2:=Slots.small hs_
 refine qae [0,1] kz ?_
 refine qal (qaO hW hE (d:=4) (cs:=[.int .i64 0,.slice none 0 0,.bool false,.slice none 0 0,.slice none 0 0]) kz fun b1 a2 w3 hb4 hz5 hF6 hW7 hE8=>?_)
 refine qam [1] [] [(0,.v (.int .i64 v)),(1,.v (.slice A2 s.length c2)),(4,.p 0 0)] hW7 hE8 fun a9 hE10=>?_
 refine qag (qab ?_)
 refine qae [0,1] kz ?_
 refine qal (qaQ hE10 (f:=32) (vs:=[]) (d:=7) (n':=3) kz Tryd.call32 Tryd.func32 rfl Tryd.ntmps32 kz fun a11 hE12=>?_)
 refine qau [] hW7 hE12 fun a13 hE14=>?_
 refine qae [0] kz ?_
 refine qal (qaO hW7 hE14 (d:=1) (cs:=[.int .i16 0,.int .i32 0,.int .i16 0,.slice none 0 0,.map none]) kz fun b15 a16 w17 hb18 hz19 hF20 hW21 hE22=>?_)
 refine qag (qab ?_)
 refine qae [0] kz ?_
 refine qal (qaQ hE22 (f:=58) (vs:=[.pointer (some ⟨b15,0,none⟩)]) (d:=2) (n':=2) kz Tryd.call58 Tryd.func58 rfl Tryd.ntmps58 kz fun a23 hE24=>?_)
 have hE25:=hE24.recast 0 (.v (.pointer (some ⟨b15,0,none⟩))) (.p 1 0) rfl rfl (Nat.le_of_ble_eq_true (n:=2) rfl)
 refine wp_skip ?_
 refine qbi hE25 hW21.cells (v:=.tuple #[]) kz ?_
 refine ⟨_,rfl,fun a26 hE27=>?_⟩
 have hE28:=(EnvOk.places (tb':=[⟨b1,0,[.int .i64 0,.slice none 0 0,.bool false,.slice none 0 0,.slice none 0 0],true⟩,⟨b15,0,[.int .i16 0,.int .i32 0,.int .i16 0,.slice none 0 0,.map none],true⟩]) hE27 (show Pl [⟨b1,0,[.int .i64 0,.slice none 0 0,.bool false,.slice none 0 0,.slice none 0 0],true⟩,⟨b15,0,[.int .i16 0,.int .i32 0,.int .i16 0,.slice none 0 0,.map none],true⟩] [⟨b1,0,[.int .i64 0,.slice none 0 0,.bool false,.slice none 0 0,.slice none 0 0],true⟩,⟨b15,0,[.int .i16 0,.int .i32 0,.int .i16 0,.slice none 0 0,.map none],true⟩] from ⟨rfl,rfl,⟨rfl,rfl,trivial⟩⟩)).pk (env':=[(2,.v (.tuple #[])),(1,.p 1 0)])
 refine qag (qab ?_)
 refine qau [(0,.p 1 0)] hW21 hE28 fun a29 hE30=>?_
 refine wp_ret ?_
 refine qaZ hE30 hW21.cells (v:=.pointer (some ⟨b15,0,none⟩)) kz ?_
 refine ⟨_,rfl,fun a31 hE32=>?_⟩
 have hE33:=(EnvOk.places (tb':=[⟨b1,0,[.int .i64 0,.slice none 0 0,.bool false,.slice none 0 0,.slice none 0 0],true⟩,⟨b15,0,[.int .i16 0,.int .i32 0,.int .i16 0,.slice none 0 0,.map none],true⟩]) hE32 (show Pl [⟨b1,0,[.int .i64 0,.slice none 0 0,.bool false,.slice none 0 0,.slice none 0 0],true⟩] [⟨b1,0,[.int .i64 0,.slice none 0 0,.bool false,.slice none 0 0,.slice none 0 0],true⟩,⟨b15,0,[.int .i16 0,.int .i32 0,.int .i16 0,.slice none 0 0,.map none],true⟩] from ⟨rfl,rfl,trivial⟩)).pk (env':=[(7,.v (.pointer (some ⟨b15,0,none⟩))),(0,.v (.int .i64 v)),(1,.v (.slice A2 s.length c2)),(4,.p 0 0)])
 have hE34:=hE33.recast 7 (.v (.pointer (some ⟨b15,0,none⟩))) (.p 1 0) rfl rfl (Nat.le_of_ble_eq_true (n:=2) rfl)
 have hE35:=hE34.pick (ks:=[0,1,4,7]) (env':=[(0,.v (.int .i64 v)),(1,.v (.slice A2 s.length c2)),(4,.p 0 0),(7,.p 1 0)]) kz
 refine qam [1] [] [(0,.v (.int .i64 v)),(1,.v (.slice A2 s.length c2)),(4,.p 0 0),(6,.p 1 0)] hW21 hE35 fun a36 hE37=>?_
 refine qag (qab ?_)
 refine qae [0,1,2,3] kz ?_
 refine qam [0,1,2] [3] [(1,.v (.slice A2 s.length c2)),(4,.p 0 0),(6,.p 1 0),(8,.p 1 0),(10,.v (.int .i16 (IntKind.i16.wrap v)))] hW21 hE37 fun a38 hE39=>?_
 refine qal (qaQ hE39 (f:=34) (vs:=[.pointer (some ⟨b15,0,none⟩),.int .i16 (IntKind.i16.wrap v)]) (d:=11) (n':=8) kz Tryd.call34 Tryd.func34 rfl Tryd.ntmps34 kz fun a40 hE41=>?_)
 have hE42:=hE41.recast 0 (.v (.pointer (some ⟨b15,0,none⟩))) (.p 1 0) rfl rfl (Nat.le_of_ble_eq_true (n:=2) rfl)
 refine qaC [0,1,2,3,4] kz ?_
 refine qam [0,1,2,3] [4] [(5,.v (.int .i16 (IntKind.i16.wrap v))),(7,.p 1 0)] hW21 hE42 fun a43 hE44=>?_
 refine qal (qaq hW21 hE44 (oi:=1) (cs:=[.int .i16 (IntKind.i16.wrap v),.int .i32 0,.int .i16 0,.slice none 0 0,.map none]) kz fun w45 hF46 hW47 hE48=>?_)
 refine qag ?_
 refine qbi hE48 hW47.cells (v:=.tuple #[]) kz ?_
 refine ⟨_,rfl,fun a49 hE50=>?_⟩
 have hE51:=(EnvOk.places (tb':=[⟨b1,0,[.int .i64 0,.slice none 0 0,.bool false,.slice none 0 0,.slice none 0 0],true⟩,⟨b15,0,[.int .i16 (IntKind.i16.wrap v),.int .i32 0,.int .i16 0,.slice none 0 0,.map none],true⟩]) hE50 (show Pl [⟨b1,0,[.int .i64 0,.slice none 0 0,.bool false,.slice none 0 0,.slice none 0 0],true⟩,⟨b15,0,[.int .i16 0,.int .i32 0,.int .i16 0,.slice none 0 0,.map none],true⟩] [⟨b1,0,[.int .i64 0,.slice none 0 0,.bool false,.slice none 0 0,.slice none 0 0],true⟩,⟨b15,0,[.int .i16 (IntKind.i16.wrap v),.int .i32 0,.int .i16 0,.slice none 0 0,.map none],true⟩] from ⟨rfl,rfl,⟨rfl,rfl,trivial⟩⟩)).pk (env':=[(11,.v (.tuple #[])),(1,.v (.slice A2 s.length c2)),(4,.p 0 0),(6,.p 1 0),(8,.p 1 0),(10,.v (.int .i16 (IntKind.i16.wrap v)))])
 refine qag (qab ?_)
 refine wp_seq ?_
 refine qae [0,1,2,3,4] kz ?_
 refine qam [0,1] [2,3,4] [(4,.p 0 0),(6,.p 1 0),(12,.p 1 0),(13,.v (.slice A2 s.length c2))] hW47 hE51 fun a52 hE53=>?_
 have hW54:=hW47.addNil 5 1
 have hF55:=hW47.frNil 5 1
 refine qal (qa7 hW54 hE53 (k:=0) (d:=14) (t:=22) (e:=5) (size:=1) (bytes:=1) (A:=none) (As:=A2) (m0:=0) (c:=0) (m:=s.length) (cs:=c2) (xs:=[]) (news:=bc s) kz kz rfl (hs_.move hW54.step nilM hW54.imm).src (hs_.move hW54.step nilM hW54.imm).cap (by first | omega | (simp only [List.length_nil]; omega) | (simp; omega)) fun A56 c57 a58 w59 hF60 hW61 hE62=>?_)
 have er63:(⟨A56,c57,5,1,0 + s.length,[] ++ bc s⟩:Rw) = brow A56 c57 5 s:=by rw [List.nil_append,Nat.zero_add]
 obtain ⟨hW64,hF66⟩:=hW61.rowEq 0 [brow A56 c57 5 s] er63
 have hE67:=EnvOk.pick hE62 (ks:=[4,6,12,13,14]) (env':=[(4,.p 0 0),(6,.p 1 0),(12,.p 1 0),(13,.v (.slice A2 s.length c2)),(14,.v (.slice A56 (0 + s.length) c57))]) kz
 have hE65:=hE67.cast (env':=[(4,.p 0 0),(6,.p 1 0),(12,.p 1 0),(13,.v (.slice A2 s.length c2)),(14,.v (.slice A56 s.length c57))]) (by simp only [List.length_append,List.length_cons,List.length_nil,Nat.zero_add])
 refine qal (qaQ hE65 (f:=37) (vs:=[.pointer (some ⟨b15,0,none⟩),.slice A56 s.length c57]) (d:=15) (n':=8) kz Tryd.call37 Tryd.func37 rfl Tryd.ntmps37 kz fun a68 hE69=>?_)
 have hE70:=hE69.recast 0 (.v (.pointer (some ⟨b15,0,none⟩))) (.p 1 0) rfl rfl (Nat.le_of_ble_eq_true (n:=2) rfl)
 refine qau [(0,.p 1 0),(1,.v (.slice A56 s.length c57))] hW64 hE70 fun a71 hE72=>?_
 refine qae [0,1,2,3] kz ?_
 refine qam [0,1] [2,3] [(5,.p 1 0),(6,.v (.slice A56 s.length c57))] hW64 hE72 fun a73 hE74=>?_
 have ho75:=hW64.giveUp (G:=F) 0 [] (show _ = some (brow A56 c57 5 s) from rfl) (by omega)
 obtain ⟨hW76,hF77⟩:=hW64.cutR 0 []
 refine qal (qaw hE74 (f:=59) (vs:=[.pointer (some ⟨b15,0,none⟩),.slice A56 s.length c57,.bool true]) (d:=7) kz Tryd.call59 (qby (IntKind.i16.wrap v) true s hl (Str.of hW76 1 rfl) ho75 (hgl.move hW76.step nilM hW76.imm) (qfj 1 rfl) hb) ?_)
 rintro e_ w78 ⟨rfl,⟨D79,hs80,hn91⟩,hst83⟩
 obtain ⟨hW84,hF85,hl86⟩:=hW76.wrote 1 [⟨b1,0,[.int .i64 0,.slice none 0 0,.bool false,.slice none 0 0,.slice none 0 0],true⟩,⟨b15,0,D79,true⟩] rfl hst83 hs80 rfl hn91
 refine ⟨_,rfl,fun a87 hE88=>?_⟩
 have hE89:=(EnvOk.places (tb':=[⟨b1,0,[.int .i64 0,.slice none 0 0,.bool false,.slice none 0 0,.slice none 0 0],true⟩,⟨b15,0,D79,true⟩]) hE88 (show Pl [⟨b1,0,[.int .i64 0,.slice none 0 0,.bool false,.slice none 0 0,.slice none 0 0],true⟩,⟨b15,0,[.int .i16 (IntKind.i16.wrap v),.int .i32 0,.int .i16 0,.slice none 0 0,.map none],true⟩] [⟨b1,0,[.int .i64 0,.slice none 0 0,.bool false,.slice none 0 0,.slice none 0 0],true⟩,⟨b15,0,D79,true⟩] from ⟨rfl,rfl,⟨rfl,rfl,trivial⟩⟩)).pk (env':=[(7,.v (.iface ue ve)),(5,.p 1 0),(6,.v (.slice A56 s.length c57))])
 refine qam [3] [] [(4,.v (.iface ue ve))] hW84 hE89 fun a92 hE93=>?_
 refine qag (qab ?_)
 refine wp_ret ?_
 refine qaZ hE93 hW84.cells (v:=.iface ue ve) kz ?_
 refine ⟨_,rfl,fun a94 hE95=>?_⟩
 have hE96:=(EnvOk.places (tb':=[⟨b1,0,[.int .i64 0,.slice none 0 0,.bool false,.slice none 0 0,.slice none 0 0],true⟩,⟨b15,0,D79,true⟩]) hE95 (show Pl [⟨b1,0,[.int .i64 0,.slice none 0 0,.bool false,.slice none 0 0,.slice none 0 0],true⟩,⟨b15,0,[.int .i16 (IntKind.i16.wrap v),.int .i32 0,.int .i16 0,.slice none 0 0,.map none],true⟩] [⟨b1,0,[.int .i64 0,.slice none 0 0,.bool false,.slice none 0 0,.slice none 0 0],true⟩,⟨b15,0,D79,true⟩] from ⟨rfl,rfl,⟨rfl,rfl,trivial⟩⟩)).pk (env':=[(15,.v (.iface ue ve)),(4,.p 0 0),(6,.p 1 0),(12,.p 1 0),(13,.v (.slice A2 s.length c2)),(14,.v (.slice A56 s.length c57))])
 refine qam [4] [] [(4,.p 0 0),(6,.p 1 0),(16,.v (.bool true))] hW84 hE96 fun a97 hE98=>?_
 refine qag (qab ?_)
 refine qaV hE98 (b:=true) kz rfl ?_
 refine qae [0,1,2] kz ?_
 refine qam [0] [1,2] [(4,.p 0 0),(17,.v (.agg #[.int .i64 0,.slice none 0 0,.bool false,.slice none 0 0,.slice none 0 0]))] hW84 hE98 fun a99 hE100=>?_
 refine qal (qaq hW84 hE100 (oi:=0) (cs:=[.int .i64 0,.slice none 0 0,.bool false,.slice none 0 0,.slice none 0 0]) kz fun w101 hF102 hW103 hE104=>?_)
 refine qam [2] [] [(4,.p 0 0),(5,.v (.bool false))] hW103 hE104 fun a105 hE106=>?_
 refine qag (qab ?_)
 refine wp_ret ?_
 refine qa2 ?_
 refine qaZ hE106 hW103.cells (v:=.tuple #[.agg #[.int .i64 0,.slice none 0 0,.bool false,.slice none 0 0,.slice none 0 0],.bool false]) kz ?_
 exact ⟨_,rfl,TreeR.zero _ _,hW103.step⟩
set_option maxHeartbeats 4000000 in
theorem qbM (v:Int) (s:Bs) (hl:s.length ≤ 1000) {ue:TypeId} {ve:Value} {A2:Option Addr} {c2:Nat} {w:World} {F:Nat → Nat → Prop} (hs_:Octs w F A2 c2 s) (hgl:AtF w F 1 0 [.iface ue ve]) (hb:(qax (IntKind.i16.wrap v) (false,s)).1 = false) :
  Calls Tryd.prog 16 #[.int .i64 v,.slice A2 s.length c2] w (fun e w'=>∃ cs,e = .returned (.tuple #[.agg cs.toArray,.bool true]) ∧ TreeR w' (Fp F w) cs (qa6 (IntKind.i16.wrap v) (false,s)) ∧ Step w w' Nil):=by
 refine enter (n:=20) Tryd.func16 rfl Tryd.ntmps16 kz fun a hE=>?_
 have hW:=WOk.start w Nil
 have hsm2:=Slots.small hs_
 refine qae [0,1] kz ?_
 refine qal (qaO hW hE (d:=4) (cs:=[.int .i64 0,.slice none 0 0,.bool false,.slice none 0 0,.slice none 0 0]) kz fun b1 a2 w3 hb4 hz5 hF6 hW7 hE8=>?_)
 refine qam [1] [] [(0,.v (.int .i64 v)),(1,.v (.slice A2 s.length c2)),(4,.p 0 0)] hW7 hE8 fun a9 hE10=>?_
 refine qag (qab ?_)
 refine qae [0,1] kz ?_
 refine qal (qaQ hE10 (f:=32) (vs:=[]) (d:=7) (n':=3) kz Tryd.call32 Tryd.func32 rfl Tryd.ntmps32 kz fun a11 hE12=>?_)
 refine qau [] hW7 hE12 fun a13 hE14=>?_
 refine qae [0] kz ?_
 refine qal (qaO hW7 hE14 (d:=1) (cs:=[.int .i16 0,.int .i32 0,.int .i16 0,.slice none 0 0,.map none]) kz fun b15 a16 w17 hb18 hz19 hF20 hW21 hE22=>?_)
 refine qag (qab ?_)
 refine qae [0] kz ?_
 refine qal (qaQ hE22 (f:=58) (vs:=[.pointer (some ⟨b15,0,none⟩)]) (d:=2) (n':=2) kz Tryd.call58 Tryd.func58 rfl Tryd.ntmps58 kz fun a23 hE24=>?_)
 have hE25:=hE24.recast 0 (.v (.pointer (some ⟨b15,0,none⟩))) (.p 1 0) rfl rfl (Nat.le_of_ble_eq_true (n:=2) rfl)
 refine wp_skip ?_
 refine qbi hE25 hW21.cells (v:=.tuple #[]) kz ?_
 refine ⟨_,rfl,fun a26 hE27=>?_⟩
 have hE28:=(EnvOk.places (tb':=[⟨b1,0,[.int .i64 0,.slice none 0 0,.bool false,.slice none 0 0,.slice none 0 0],true⟩,⟨b15,0,[.int .i16 0,.int .i32 0,.int .i16 0,.slice none 0 0,.map none],true⟩]) hE27 (show Pl [⟨b1,0,[.int .i64 0,.slice none 0 0,.bool false,.slice none 0 0,.slice none 0 0],true⟩,⟨b15,0,[.int .i16 0,.int .i32 0,.int .i16 0,.slice none 0 0,.map none],true⟩] [⟨b1,0,[.int .i64 0,.slice none 0 0,.bool false,.slice none 0 0,.slice none 0 0],true⟩,⟨b15,0,[.int .i16 0,.int .i32 0,.int .i16 0,.slice none 0 0,.map none],true⟩] from ⟨rfl,rfl,⟨rfl,rfl,trivial⟩⟩)).pk (env':=[(2,.v (.tuple #[])),(1,.p 1 0)])
 refine qag (qab ?_)
 refine qau [(0,.p 1 0)] hW21 hE28 fun a29 hE30=>?_
 refine wp_ret ?_
 refine qaZ hE30 hW21.cells (v:=.pointer (some ⟨b15,0,none⟩)) kz ?_
 refine ⟨_,rfl,fun a31 hE32=>?_⟩
 have hE33:=(EnvOk.places (tb':=[⟨b1,0,[.int .i64 0,.slice none 0 0,.bool false,.slice none 0 0,.slice none 0 0],true⟩,⟨b15,0,[.int .i16 0,.int .i32 0,.int .i16 0,.slice none 0 0,.map none],true⟩]) hE32 (show Pl [⟨b1,0,[.int .i64 0,.slice none 0 0,.bool false,.slice none 0 0,.slice none 0 0],true⟩] [⟨b1,0,[.int .i64 0,.slice none 0 0,.bool false,.slice none 0 0,.slice none 0 0],true⟩,⟨b15,0,[.int .i16 0,.int .i32 0,.int .i16 0,.slice none 0 0,.map none],true⟩] from ⟨rfl,rfl,trivial⟩)).pk (env':=[(7,.v (.pointer (some ⟨b15,0,none⟩))),(0,.v (.int .i64 v)),(1,.v (.slice A2 s.length c2)),(4,.p 0 0)])
 have hE34:=hE33.recast 7 (.v (.pointer (some ⟨b15,0,none⟩))) (.p 1 0) rfl rfl (Nat.le_of_ble_eq_true (n:=2) rfl)
 have hE35:=hE34.pick (ks:=[0,1,4,7]) (env':=[(0,.v (.int .i64 v)),(1,.v (.slice A2 s.length c2)),(4,.p 0 0),(7,.p 1 0)]) kz
 refine qam [1] [] [(0,.v (.int .i64 v)),(1,.v (.slice A2 s.length c2)),(4,.p 0 0),(6,.p 1 0)] hW21 hE35 fun a36 hE37=>?_
 refine qag (qab ?_)
 refine qae [0,1,2,3] kz ?_
 refine qam [0,1,2] [3] [(1,.v (.slice A2 s.length c2)),(4,.p 0 0),(6,.p 1 0),(8,.p 1 0),(10,.v (.int .i16 (IntKind.i16.wrap v)))] hW21 hE37 fun a38 hE39=>?_
 refine qal (qaQ hE39 (f:=34) (vs:=[.pointer (some ⟨b15,0,none⟩),.int .i16 (IntKind.i16.wrap v)]) (d:=11) (n':=8) kz Tryd.call34 Tryd.func34 rfl Tryd.ntmps34 kz fun a40 hE41=>?_)
 have hE42:=hE41.recast 0 (.v (.pointer (some ⟨b15,0,none⟩))) (.p 1 0) rfl rfl (Nat.le_of_ble_eq_true (n:=2) rfl)
 refine qaC [0,1,2,3,4] kz ?_
 refine qam [0,1,2,3] [4] [(5,.v (.int .i16 (IntKind.i16.wrap v))),(7,.p 1 0)] hW21 hE42 fun a43 hE44=>?_
 refine qal (qaq hW21 hE44 (oi:=1) (cs:=[.int .i16 (IntKind.i16.wrap v),.int .i32 0,.int .i16 0,.slice none 0 0,.map none]) kz fun w45 hF46 hW47 hE48=>?_)
 refine qag ?_
 refine qbi hE48 hW47.cells (v:=.tuple #[]) kz ?_
 refine ⟨_,rfl,fun a49 hE50=>?_⟩
 have hE51:=(EnvOk.places (tb':=[⟨b1,0,[.int .i64 0,.slice none 0 0,.bool false,.slice none 0 0,.slice none 0 0],true⟩,⟨b15,0,[.int .i16 (IntKind.i16.wrap v),.int .i32 0,.int .i16 0,.slice none 0 0,.map none],true⟩]) hE50 (show Pl [⟨b1,0,[.int .i64 0,.slice none 0 0,.bool false,.slice none 0 0,.slice none 0 0],true⟩,⟨b15,0,[.int .i16 0,.int .i32 0,.int .i16 0,.slice none 0 0,.map none],true⟩] [⟨b1,0,[.int .i64 0,.slice none 0 0,.bool false,.slice none 0 0,.slice none 0 0],true⟩,⟨b15,0,[.int .i16 (IntKind.i16.wrap v),.int .i32 0,.int .i16 0,.slice none 0 0,.map none],true⟩] from ⟨rfl,rfl,⟨rfl,rfl,trivial⟩⟩)).pk (env':=[(11,.v (.tuple #[])),(1,.v (.slice A2 s.length c2)),(4,.p 0 0),(6,.p 1 0),(8,.p 1 0),(10,.v (.int .i16 (IntKind.i16.wrap v)))])
 refine qag (qab ?_)
 refine wp_seq ?_
 refine qae [0,1,2,3,4] kz ?_
 refine qam [0,1] [2,3,4] [(4,.p 0 0),(6,.p 1 0),(12,.p 1 0),(13,.v (.slice A2 s.length c2))] hW47 hE51 fun a52 hE53=>?_
 have hW54:=hW47.addNil 5 1
 have hF55:=hW47.frNil 5 1
 refine qal (qa7 hW54 hE53 (k:=0) (d:=14) (t:=22) (e:=5) (size:=1) (bytes:=1) (A:=none) (As:=A2) (m0:=0) (c:=0) (m:=s.length) (cs:=c2) (xs:=[]) (news:=bc s) kz kz rfl (hs_.move hW54.step nilM hW54.imm).src (hs_.move hW54.step nilM hW54.imm).cap (by first | omega | (simp only [List.length_nil]; omega) | (simp; omega)) fun A56 c57 a58 w59 hF60 hW61 hE62=>?_)
 have er63:(⟨A56,c57,5,1,0 + s.length,[] ++ bc s⟩:Rw) = brow A56 c57 5 s:=by rw [List.nil_append,Nat.zero_add]
 obtain ⟨hW64,hF66⟩:=hW61.rowEq 0 [brow A56 c57 5 s] er63
 have hE67:=EnvOk.pick hE62 (ks:=[4,6,12,13,14]) (env':=[(4,.p 0 0),(6,.p 1 0),(12,.p 1 0),(13,.v (.slice A2 s.length c2)),(14,.v (.slice A56 (0 + s.length) c57))]) kz
 have hE65:=hE67.cast (env':=[(4,.p 0 0),(6,.p 1 0),(12,.p 1 0),(13,.v (.slice A2 s.length c2)),(14,.v (.slice A56 s.length c57))]) (by simp only [List.length_append,List.length_cons,List.length_nil,Nat.zero_add])
 refine qal (qaQ hE65 (f:=37) (vs:=[.pointer (some ⟨b15,0,none⟩),.slice A56 s.length c57]) (d:=15) (n':=8) kz Tryd.call37 Tryd.func37 rfl Tryd.ntmps37 kz fun a68 hE69=>?_)
 have hE70:=hE69.recast 0 (.v (.pointer (some ⟨b15,0,none⟩))) (.p 1 0) rfl rfl (Nat.le_of_ble_eq_true (n:=2) rfl)
 refine qau [(0,.p 1 0),(1,.v (.slice A56 s.length c57))] hW64 hE70 fun a71 hE72=>?_
 refine qae [0,1,2,3] kz ?_
 refine qam [0,1] [2,3] [(5,.p 1 0),(6,.v (.slice A56 s.length c57))] hW64 hE72 fun a73 hE74=>?_
 have ho75:=hW64.giveUp (G:=F) 0 [] (show _ = some (brow A56 c57 5 s) from rfl) (by omega)
 obtain ⟨hW76,hF77⟩:=hW64.cutR 0 []
 refine qal (qaw hE74 (f:=59) (vs:=[.pointer (some ⟨b15,0,none⟩),.slice A56 s.length c57,.bool true]) (d:=7) kz Tryd.call59 (qbz (IntKind.i16.wrap v) true s hl (Str.of hW76 1 rfl) ho75 (hgl.move hW76.step nilM hW76.imm) (qfj 1 rfl) hb) ?_)
 rintro e_ w78 ⟨D79,rfl,hs80,hk81,hv82,hst83⟩
 obtain ⟨hW84,hF85,hl86⟩:=hW76.wrote 1 [⟨b1,0,[.int .i64 0,.slice none 0 0,.bool false,.slice none 0 0,.slice none 0 0],true⟩,⟨b15,0,[.int .i16 (IntKind.i16.wrap v),.int .i32 ((D79.f 0).n),.int .i16 ((D79.f 1).n),.slice ((D79.f 2).A) ((D79.f 2).l) ((D79.f 2).c),.map D79.m],true⟩] rfl hst83 hs80
 have hk90:=qa5 _ (Step.refl _ Nil) nilM hl86 hk81
 refine ⟨_,rfl,fun a87 hE88=>?_⟩
 have hE89:=(EnvOk.places (tb':=[⟨b1,0,[.int .i64 0,.slice none 0 0,.bool false,.slice none 0 0,.slice none 0 0],true⟩,⟨b15,0,[.int .i16 (IntKind.i16.wrap v),.int .i32 ((D79.f 0).n),.int .i16 ((D79.f 1).n),.slice ((D79.f 2).A) ((D79.f 2).l) ((D79.f 2).c),.map D79.m],true⟩]) hE88 (show Pl [⟨b1,0,[.int .i64 0,.slice none 0 0,.bool false,.slice none 0 0,.slice none 0 0],true⟩,⟨b15,0,[.int .i16 (IntKind.i16.wrap v),.int .i32 0,.int .i16 0,.slice none 0 0,.map none],true⟩] [⟨b1,0,[.int .i64 0,.slice none 0 0,.bool false,.slice none 0 0,.slice none 0 0],true⟩,⟨b15,0,[.int .i16 (IntKind.i16.wrap v),.int .i32 ((D79.f 0).n),.int .i16 ((D79.f 1).n),.slice ((D79.f 2).A) ((D79.f 2).l) ((D79.f 2).c),.map D79.m],true⟩] from ⟨rfl,rfl,⟨rfl,rfl,trivial⟩⟩)).pk (env':=[(7,.v (.nilIface)),(5,.p 1 0),(6,.v (.slice A56 s.length c57))])
 refine qam [3] [] [(4,.v (.nilIface))] hW84 hE89 fun a92 hE93=>?_
 refine qag (qab ?_)
 refine wp_ret ?_
 refine qaZ hE93 hW84.cells (v:=.nilIface) kz ?_
 refine ⟨_,rfl,fun a94 hE95=>?_⟩
 have hE96:=(EnvOk.places (tb':=[⟨b1,0,[.int .i64 0,.slice none 0 0,.bool false,.slice none 0 0,.slice none 0 0],true⟩,⟨b15,0,[.int .i16 (IntKind.i16.wrap v),.int .i32 ((D79.f 0).n),.int .i16 ((D79.f 1).n),.slice ((D79.f 2).A) ((D79.f 2).l) ((D79.f 2).c),.map D79.m],true⟩]) hE95 (show Pl [⟨b1,0,[.int .i64 0,.slice none 0 0,.bool false,.slice none 0 0,.slice none 0 0],true⟩,⟨b15,0,[.int .i16 (IntKind.i16.wrap v),.int .i32 0,.int .i16 0,.slice none 0 0,.map none],true⟩] [⟨b1,0,[.int .i64 0,.slice none 0 0,.bool false,.slice none 0 0,.slice none 0 0],true⟩,⟨b15,0,[.int .i16 (IntKind.i16.wrap v),.int .i32 ((D79.f 0).n),.int .i16 ((D79.f 1).n),.slice ((D79.f 2).A) ((D79.f 2).l) ((D79.f 2).c),.map D79.m],true⟩] from ⟨rfl,rfl,⟨rfl,rfl,trivial⟩⟩)).pk (env':=[(15,.v (.nilIface)),(4,.p 0 0),(6,.p 1 0),(12,.p 1 0),(13,.v (.slice A2 s.length c2)),(14,.v (.slice A56 s.length c57))])
 refine qam [4] [] [(4,.p 0 0),(6,.p 1 0),(16,.v (.bool false))] hW84 hE96 fun a97 hE98=>?_
 refine qag (qab ?_)
 refine qan hE98 (b:=false) kz rfl ?_
 refine wp_skip ?_
 refine qab ?_
 refine qae [0,1,2,3] kz ?_
 refine qam [0] [1,2,3] [(4,.p 0 0),(18,.p 1 0)] hW84 hE98 fun a99 hE100=>?_
 have hE101:=hE100.recast 18 (.p 1 0) (.v (.pointer (some ⟨b15,0,none⟩))) rfl rfl trivial
 have hE102:=hE101.pk (env':=[(4,.p 0 0),(18,.v (.pointer (some ⟨b15,0,none⟩)))])
 have hat103:=WOk.strOut (G:=F) [⟨b1,0,[.int .i64 0,.slice none 0 0,.bool false,.slice none 0 0,.slice none 0 0],true⟩] hW84
 obtain ⟨hE104,hW105,hF106⟩:=hW84.cutB hE102 1 [⟨b1,0,[.int .i64 0,.slice none 0 0,.bool false,.slice none 0 0,.slice none 0 0],true⟩] [(4,.p 0 0),(18,.v (.pointer (some ⟨b15,0,none⟩)))]
 have hk107:=qa5 _ hF106.step immM hF106.to' hk90
 refine qal (qaw hE104 (f:=36) (vs:=[.pointer (some ⟨b15,0,none⟩)]) (d:=19) kz Tryd.call36 (qbG (IntKind.i16.wrap v) D79 b15 0 _ _ hat103 hk107) ?_)
 rintro e_ w111 ⟨cs110,rfl,hr109,hs108⟩
 have hr112:=hr109.move (Step.refl _ Nil) nilM (hW105.laid (G:=F) hs108)
 obtain ⟨n113,s114,b115,l116,u117,A118,c119,A120,c121,A122,c123,xs124,ht130,hcs125,h126,h127,h128,h129⟩:=hr112.open_
 rw [hcs125] at hr112
 have hsm131:=h126.small
 have hsm132:=h127.small
 rw [hcs125]
 refine ⟨_,rfl,fun a133 hE134=>?_⟩
 have hW135:=hW105.next_nil hs108
 have hF136:=hW105.frN hs108
 refine qal (qaq hW135 hE134 (oi:=0) (cs:=[.int .i64 n113,.slice A118 s114.length c119,.bool b115,.slice A120 l116.length c121,.slice A122 u117.length c123]) kz fun w137 hF138 hW139 hE140=>?_)
 refine qam [3] [] [(4,.p 0 0),(5,.v (.bool true))] hW139 hE140 fun a141 hE142=>?_
 refine qag (qab ?_)
 refine wp_ret ?_
 refine qaZ hE142 hW139.cells (v:=.tuple #[.agg #[.int .i64 n113,.slice A118 s114.length c119,.bool b115,.slice A120 l116.length c121,.slice A122 u117.length c123],.bool true]) kz ?_
 rw [← hv82]
 exact ⟨_,rfl,(show TreeR _ (Imm F w w137 [⟨b1,0,[.int .i64 n113,.slice A118 s114.length c119,.bool b115,.slice A120 l116.length c121,.slice A122 u117.length c123],true⟩] []) _ (qaX D79) from (hr112.move hF138.step immM hF138.to')).move (Step.refl _ Nil) nilM qbW,hW139.step⟩
end Go.Proofs.YtajibgahdkllkaaDoorR.ME
namespace Go.Proofs.YtajibgahdkllkaaDoorR.ME
open Go
open Go.RowKit
set_option linter.unusedVariables false
set_option linter.unusedSimpArgs false
set_option maxRecDepth 20000
def qg6 (m:Nat):Prop:=∀ (ct1 ct2:List Value) (t:Tree) (w:World) (F:Nat → Nat → Prop),TreeR w F ct1 t → TreeR w F ct2 t → t.depth ≤ m →
  Calls Tryd.prog 11 #[.agg ct1.toArray,.agg ct2.toArray] w (qcb w (.bool true))
set_option maxHeartbeats 4000000 in
theorem qeL {m:Nat} (hg:qg6 m) (ct1 ct2:List Value) (t:Tree) (w:World) (F:Nat → Nat → Prop) (h1:TreeR w F ct1 t) (h2:TreeR w F ct2 t) (hd:t.depth ≤ m + 1) :
  Calls Tryd.prog 11 #[.agg ct1.toArray,.agg ct2.toArray] w (qcb w (.bool true)):=by
 obtain ⟨n1,s2,b3,l4,u5,A6,c7,A8,c9,A10,c11,xs12,rfl,rfl,h14,h15,h16,h17⟩:=h1.open_
 have hsm19:=h14.small
 have hsm20:=h15.small
 obtain ⟨n',s',b',l',u',A1',c1',A2',c2',A3',c3',xs',e',rfl,g1,g2,g3,g4⟩:=h2.open_
 obtain ⟨q1,q2,q3,q4,q5⟩:=Tree.mk.inj e'
 subst q1 q2 q3 q4 q5
 obtain ⟨cs21,h22,h23⟩:=h17.ex
 have hsm24:=h22.small
 obtain ⟨cs25,h26,h27⟩:=g4.ex
 have hsm28:=h26.small
 refine enter (n:=100) Tryd.func11 rfl Tryd.ntmps11 kz fun a hE=>?_
 have hW:=WOk.start w Nil
 refine qae [0,1,2] kz ?_
 refine qal (qcZ hW hE (d:=2) (cs:=[.int .i64 n1,.slice A6 s2.length c7,.bool b3,.slice A8 l4.length c9,.slice A10 u5.length c11]) kz fun b29 a30 w31 hb32 hz33 hF34 hW35 hE36=>?_)
 refine qal (qcZ hW35 hE36 (d:=3) (cs:=[.int .i64 n1,.slice A1' s2.length c1',.bool b3,.slice A2' l4.length c2',.slice A3' u5.length c3']) kz fun b37 a38 w39 hb40 hz41 hF42 hW43 hE44=>?_)
 refine qam [2] [] [(2,.p 0 0),(3,.p 1 0)] hW43 hE44 fun a45 hE46=>?_
 refine qag (qab ?_)
 refine wp_seq ?_
 refine qae [0,1,2,3,4,5,6,7,8,9,10,11,12,13,14,15,16,17,18,19,20,21,22,23,24,25,26,27,28,29,30,31,32,33,34,35,36,37] kz ?_
 refine qam [0,1,2,3,4,5] [6,7,8,9,10,11,12,13,14,15,16,17,18,19,20,21,22,23,24,25,26,27,28,29,30,31,32,33,34,35,36,37] [(2,.p 0 0),(3,.p 1 0),(12,.v (.bool (n1 != n1)))] hW43 hE46 fun a47 hE48=>?_
 have hc49:(n1 != n1) = false:=by simp
 have hE50:=hE48.cast (env':=[(2,.p 0 0),(3,.p 1 0),(12,.v (.bool false))]) (by rw [hc49])
 refine qam [6,7,8,9,10,11,12] [13,14,15,16,17,18,19,20,21,22,23,24,25,26,27,28,29,30,31,32,33,34,35,36,37] [(2,.p 0 0),(3,.p 1 0),(19,.v (.bool (!(b3 == b3))))] hW43 hE50 fun a51 hE52=>?_
 have hc53:(!(b3 == b3)) = false:=by simp
 have hE54:=hE52.cast (env':=[(2,.p 0 0),(3,.p 1 0),(19,.v (.bool false))]) (by rw [hc53])
 refine qam [13,14,15,16] [17,18,19,20,21,22,23,24,25,26,27,28,29,30,31,32,33,34,35,36,37] [(2,.p 0 0),(3,.p 1 0),(19,.v (.bool false)),(21,.v (.slice A6 s2.length c7)),(23,.v (.slice A1' s2.length c1'))] hW43 hE54 fun a55 hE56=>?_
 refine qal (qaw hE56 (f:=31) (vs:=[.slice A6 s2.length c7,.slice A1' s2.length c1']) (d:=24) kz Tryd.call31 (qhE _ _ _ _ s2 s2 _ _ (h14.move hW43.step nilM hW43.imm) (g1.move hW43.step nilM hW43.imm)) ?_)
 rintro e_ w58 ⟨rfl,hs57⟩
 refine ⟨_,rfl,fun a59 hE60=>?_⟩
 have hW61:=hW43.next_nil hs57
 have hF62:=hW43.frN hs57
 refine qam [18,19,20] [21,22,23,24,25,26,27,28,29,30,31,32,33,34,35,36,37] [(2,.p 0 0),(3,.p 1 0),(27,.v (.bool (!(decide (s2 = s2)))))] hW61 hE60 fun a63 hE64=>?_
 refine (Bool.eq_false_or_eq_true (!(decide (s2 = s2)))).elim (fun hc65=>?_) (fun hc65=>?_)
 ·
  have hE67:=hE64.cast (env':=[(2,.p 0 0),(3,.p 1 0),(27,.v (.bool true))]) (by rw [hc65])
  refine qam [21,22,23,24,25,26,27,28,29,30,31,32,33,34,35,36,37] [] [(2,.p 0 0),(3,.p 1 0),(44,.v (.bool true))] hW61 hE67 fun a68 hE69=>?_
  refine qag (qab ?_)
  refine qaV hE69 (b:=true) kz rfl ?_
  refine qau [(4,.v (.bool false))] hW61 hE69 fun a70 hE71=>?_
  refine wp_ret ?_
  refine qa2 ?_
  refine qaZ hE71 hW61.cells (v:=.bool false) kz ?_
  exfalso; simp_all
 have hE73:=hE64.cast (env':=[(2,.p 0 0),(3,.p 1 0),(27,.v (.bool false))]) (by rw [hc65])
 refine qam [21,22,23,24,25,26,27,28,29] [30,31,32,33,34,35,36,37] [(2,.p 0 0),(3,.p 1 0),(36,.v (.bool (((l4.length:Nat):Int) != ((l4.length:Nat):Int))))] hW61 hE73 fun a74 hE75=>?_
 have hc76:(((l4.length:Nat):Int) != ((l4.length:Nat):Int)) = false:=by simp
 have hE77:=hE75.cast (env':=[(2,.p 0 0),(3,.p 1 0),(36,.v (.bool false))]) (by rw [hc76])
 refine qam [30,31,32,33,34,35,36,37] [] [(2,.p 0 0),(3,.p 1 0),(44,.v (.bool (((u5.length:Nat):Int) != ((u5.length:Nat):Int))))] hW61 hE77 fun a78 hE79=>?_
 refine qag (qab ?_)
 refine qan hE79 (b:=((u5.length:Nat):Int) != ((u5.length:Nat):Int)) kz (by simp) ?_
 refine wp_skip ?_
 refine qab ?_
 refine wp_seq ?_
 refine qau [(2,.p 0 0),(3,.p 1 0),(47,.v (.int .i64 ((l4.length:Nat):Int))),(48,.v (.int .i64 0))] hW61 hE79 fun a80 hE81=>?_
 refine wp_block ?_
 refine wp_loop_ghost (fun n_ a_ w_=>∃ (k:Nat),n_ = l4.length - k ∧ k ≤ l4.length ∧ LInv hW61 100 [⟨b29,0,[.int .i64 n1,.slice A6 s2.length c7,.bool b3,.slice A8 l4.length c9,.slice A10 u5.length c11],true⟩,⟨b37,0,[.int .i64 n1,.slice A1' s2.length c1',.bool b3,.slice A2' l4.length c2',.slice A3' u5.length c3'],true⟩] [] [(2,.p 0 0),(3,.p 1 0),(47,.v (.int .i64 ((l4.length:Nat):Int))),(48,.v (.int .i64 ((k:Nat):Int)))] a_ w_) (l4.length) ⟨0,by omega,by omega,hE81.pk,hW61,Fr.refl _ _ _⟩ ?_
 rintro n82 a83 w84 ⟨k,hn87,hk88,hE85,hW86,hF89⟩
 refine qau [(2,.p 0 0),(3,.p 1 0),(47,.v (.int .i64 ((l4.length:Nat):Int))),(48,.v (.int .i64 ((k:Nat):Int))),(49,.v (.bool (decide (((k:Nat):Int) < ((l4.length:Nat):Int)))))] hW86 hE85 fun a90 hE91=>?_
 refine wp_seq ?_
 refine qbd hE91 (b:=decide (((k:Nat):Int) < ((l4.length:Nat):Int))) kz (fun hc92=>?_) (fun hc92=>?_)
 ·
  have hf93:=of_decide_eq_true hc92
  refine wp_skip ?_
  refine qab ?_
  refine wp_seq ?_
  refine wp_block ?_
  refine qau [(2,.p 0 0),(3,.p 1 0),(5,.v (.int .i64 ((k:Nat):Int))),(47,.v (.int .i64 ((l4.length:Nat):Int))),(48,.v (.int .i64 ((k:Nat):Int)))] hW86 hE91 fun a94 hE95=>?_
  refine qa8 12 kz hW86 fun w96 hF97 hW98 hT99=>?_
  refine qaP [0,1,2,5,6,7] [(2,.p 0 0),(3,.p 1 0),(47,.v (.int .i64 ((l4.length:Nat):Int))),(48,.v (.int .i64 ((k:Nat):Int))),(52,.v (.slice A8 l4.length c9)),(53,.v (.int .i64 ((k:Nat):Int))),(57,.v (.slice A2' l4.length c2')),(58,.v (.int .i64 ((k:Nat):Int)))] 6 (qac (qaf (qac (qac (qaf (qac qah)))))) (fun _ h=>h.cells) hT99 hE95 fun a100 hE101=>?_
  obtain ⟨b102,o103,hA104,hl105,hat106⟩:=Slots.get h15 (i:=k) (by omega)
  obtain ⟨x107,he108⟩:∃ x,l4[k]? = some x:=⟨_,List.getElem?_eq_getElem (by omega)⟩
  have hr109:=h16 k x107 he108
  obtain ⟨n110,s111,b112,l113,u114,A115,c116,A117,c118,A119,c120,xs121,rfl,hcs122,h123,h124,h125,h126⟩:=hr109.open_
  rw [hcs122] at hr109
  have hsm128:=h123.small
  have hsm129:=h124.small
  rw [hcs122] at hat106
  refine qaL hE101 (i:=3) (t:=34) (A:=A8) (m:=l4.length) (q:=((k:Nat):Int)) (d:=54) kz (e:=37) (size:=5) (bytes:=88) kz hA104 rfl (by omega) kz kz (qac (qaf (qac (qac (qaf (qac qah)))))) hT99 fun a130 hE131=>?_
  refine qa4 hE131 (i:=4) (t:=37) (b:=b102) (o:=o103 + k * 5) (d:=55) kz (cs:=[.int .i64 n110,.slice A115 s111.length c116,.bool b112,.slice A117 l113.length c118,.slice A119 u114.length c120]) (v:=.agg #[.int .i64 n110,.slice A115 s111.length c116,.bool b112,.slice A117 l113.length c118,.slice A119 u114.length c120]) kz (fun w' h'=>(AtF.move hat106 (TT.step0 hW98 h') nilM qaF).at_) kz kz (qac (qaf (qac (qac (qaf (qac qah)))))) hT99 fun a132 hE133=>?_
  obtain ⟨b134,o135,hA136,hl137,hat138⟩:=Slots.get g2 (i:=k) (by omega)
  obtain ⟨x139,he140⟩:∃ x,l4[k]? = some x:=⟨_,List.getElem?_eq_getElem (by omega)⟩
  have hr141:=g3 k x139 he140
  obtain ⟨n142,s143,b144,l145,u146,A147,c148,A149,c150,A151,c152,xs153,rfl,hcs154,h155,h156,h157,h158⟩:=hr141.open_
  rw [hcs154] at hr141
  have hsm160:=h155.small
  have hsm161:=h156.small
  rw [hcs154] at hat138
  refine qaL hE133 (i:=8) (t:=34) (A:=A2') (m:=l4.length) (q:=((k:Nat):Int)) (d:=59) kz (e:=37) (size:=5) (bytes:=88) kz hA136 rfl (by omega) kz kz (qac (qaf (qac (qac (qaf (qac qah)))))) hT99 fun a162 hE163=>?_
  refine qa4 hE163 (i:=9) (t:=37) (b:=b134) (o:=o135 + k * 5) (d:=60) kz (cs:=[.int .i64 n142,.slice A147 s143.length c148,.bool b144,.slice A149 l145.length c150,.slice A151 u146.length c152]) (v:=.agg #[.int .i64 n142,.slice A147 s143.length c148,.bool b144,.slice A149 l145.length c150,.slice A151 u146.length c152]) kz (fun w' h'=>(AtF.move hat138 (TT.step0 hW98 h') nilM qaF).at_) kz kz (qac (qaf (qac (qac (qaf (qac qah)))))) hT99 fun a164 hE165=>?_
  refine qaE (i:=10) kz (qaw hE165 (f:=11) (vs:=[.agg #[.int .i64 n110,.slice A115 s111.length c116,.bool b112,.slice A117 l113.length c118,.slice A119 u114.length c120],.agg #[.int .i64 n142,.slice A147 s143.length c148,.bool b144,.slice A149 l145.length c150,.slice A151 u146.length c152]]) (d:=61) kz Tryd.call11 (hg _ _ _ _ _ (hr109.move hW98.step nilM hW98.imm) (by rw [Option.some.inj (he108.symm.trans he140)]; exact (hr141.move hW98.step nilM hW98.imm)) (by have h_:=qd8 he108; rw [qc5] at hd; omega)) ?_)
  rintro e_ w167 ⟨rfl,hs166⟩
  refine ⟨_,rfl,fun a168 hE169=>?_⟩
  have hW170:=hW98.next_nil hs166
  have hF171:=hW98.frN hs166
  have hT172:=TT.ofW hF171 hW170
  refine ⟨fun _=>hT172,?_⟩
  refine qaP [11] [(2,.p 0 0),(3,.p 1 0),(47,.v (.int .i64 ((l4.length:Nat):Int))),(48,.v (.int .i64 ((k:Nat):Int))),(62,.v (.bool false))] 0 (qac (qaf (qac (qac (qaf (qac qah)))))) (fun _ h=>h.cells) hT172 hE169 fun a173 hE174=>?_
  refine qaW kz ?_ _
  refine qab ?_
  refine qan hE174 (b:=false) kz rfl ?_
  refine wp_skip ?_
  refine qa3 ?_
  refine qab ?_
  refine qaC [0,1] kz ?_
  refine qam [0,1] [] [(2,.p 0 0),(3,.p 1 0),(47,.v (.int .i64 ((l4.length:Nat):Int))),(48,.v (.int .i64 (IntKind.i64.wrap (((k:Nat):Int) + 1))))] hW170 hE174 fun a175 hE176=>?_
  refine qag (qab ?_)
  have he177:IntKind.i64.wrap (((k:Nat):Int) + 1) = ((k + 1:Nat):Int):=qbK (by omega)
  rw [he177] at hE176
  exact ⟨l4.length - (k + 1),by omega,k + 1,rfl,by omega,hE176.pk,hW170,((hF89.trans hF97).trans hF171)⟩
 have hf178:=of_decide_eq_false hc92
 refine wp_exit ?_
 refine qaR ?_
 refine qaR ?_
 refine qbh ?_
 refine qab ?_
 refine wp_seq ?_
 refine qau [(2,.p 0 0),(3,.p 1 0),(66,.v (.int .i64 ((u5.length:Nat):Int))),(67,.v (.int .i64 0))] hW86 hE91 fun a179 hE180=>?_
 refine wp_block ?_
 refine wp_loop_ghost (fun n_ a_ w_=>∃ (q:Nat),n_ = u5.length - q ∧ q ≤ u5.length ∧ LInv hW86 100 [⟨b29,0,[.int .i64 n1,.slice A6 s2.length c7,.bool b3,.slice A8 l4.length c9,.slice A10 u5.length c11],true⟩,⟨b37,0,[.int .i64 n1,.slice A1' s2.length c1',.bool b3,.slice A2' l4.length c2',.slice A3' u5.length c3'],true⟩] [] [(2,.p 0 0),(3,.p 1 0),(66,.v (.int .i64 ((u5.length:Nat):Int))),(67,.v (.int .i64 ((q:Nat):Int)))] a_ w_) (u5.length) ⟨0,by omega,by omega,hE180.pk,hW86,Fr.refl _ _ _⟩ ?_
 rintro n181 a182 w183 ⟨q,hn186,hk187,hE184,hW185,hF188⟩
 refine qau [(2,.p 0 0),(3,.p 1 0),(66,.v (.int .i64 ((u5.length:Nat):Int))),(67,.v (.int .i64 ((q:Nat):Int))),(68,.v (.bool (decide (((q:Nat):Int) < ((u5.length:Nat):Int)))))] hW185 hE184 fun a189 hE190=>?_
 refine wp_seq ?_
 refine qbd hE190 (b:=decide (((q:Nat):Int) < ((u5.length:Nat):Int))) kz (fun hc191=>?_) (fun hc191=>?_)
 ·
  have hf192:=of_decide_eq_true hc191
  refine wp_skip ?_
  refine qab ?_
  refine wp_seq ?_
  refine wp_block ?_
  refine qau [(2,.p 0 0),(3,.p 1 0),(6,.v (.int .i64 ((q:Nat):Int))),(66,.v (.int .i64 ((u5.length:Nat):Int))),(67,.v (.int .i64 ((q:Nat):Int)))] hW185 hE190 fun a193 hE194=>?_
  refine qa8 29 kz hW185 fun w195 hF196 hW197 hT198=>?_
  refine qaP [0,1,2,6,7,8] [(2,.p 0 0),(3,.p 1 0),(6,.v (.int .i64 ((q:Nat):Int))),(66,.v (.int .i64 ((u5.length:Nat):Int))),(67,.v (.int .i64 ((q:Nat):Int))),(71,.v (.slice A10 u5.length c11)),(72,.v (.int .i64 ((q:Nat):Int))),(77,.v (.slice A3' u5.length c3')),(78,.v (.int .i64 ((q:Nat):Int)))] 23 (qac (qaf (qac (qac (qaf (qac qah)))))) (fun _ h=>h.cells) hT198 hE194 fun a199 hE200=>?_
  obtain ⟨b201,o202,hA203,hl204,hat205⟩:=Slots.get h22 (i:=q) (by omega)
  obtain ⟨⟨k206,s207⟩,he208⟩:∃ x,u5[q]? = some x:=⟨_,List.getElem?_eq_getElem (by omega)⟩
  obtain ⟨⟨A209,c210,hcs211,hb212⟩,h213,h214⟩:=h23 q k206 s207 he208
  rw [hcs211] at hat205
  refine qaL hE200 (i:=3) (t:=35) (A:=A10) (m:=u5.length) (q:=((q:Nat):Int)) (d:=73) kz (e:=64) (size:=2) (bytes:=32) kz hA203 rfl (by omega) kz kz (qac (qaf (qac (qac (qaf (qac qah)))))) hT198 fun a215 hE216=>?_
  refine qaP [4] [(2,.p 0 0),(3,.p 1 0),(6,.v (.int .i64 ((q:Nat):Int))),(66,.v (.int .i64 ((u5.length:Nat):Int))),(67,.v (.int .i64 ((q:Nat):Int))),(74,.v (.pointer (some ⟨b201,o202 + q * 2,none⟩))),(77,.v (.slice A3' u5.length c3')),(78,.v (.int .i64 ((q:Nat):Int)))] 21 (qac (qaf (qac (qac (qaf (qac qah)))))) (fun _ h=>h.cells) hT198 hE216 fun a217 hE218=>?_
  refine qa4 hE218 (i:=5) (t:=62) (b:=b201) (o:=o202 + q * 2) (d:=75) kz (cs:=[.int .u32 k206]) (v:=.int .u32 k206) kz (fun w' h'=>(At.drop (AtF.move hat205 (TT.step0 hW197 h') nilM qaF).at_ 0 1)) kz kz (qac (qaf (qac (qac (qaf (qac qah)))))) hT198 fun a219 hE220=>?_
  obtain ⟨b221,o222,hA223,hl224,hat225⟩:=Slots.get h26 (i:=q) (by omega)
  obtain ⟨⟨k226,s227⟩,he228⟩:∃ x,u5[q]? = some x:=⟨_,List.getElem?_eq_getElem (by omega)⟩
  obtain ⟨⟨A229,c230,hcs231,hb232⟩,h233,h234⟩:=h27 q k226 s227 he228
  rw [hcs231] at hat225
  refine qaL hE220 (i:=9) (t:=35) (A:=A3') (m:=u5.length) (q:=((q:Nat):Int)) (d:=79) kz (e:=64) (size:=2) (bytes:=32) kz hA223 rfl (by omega) kz kz (qac (qaf (qac (qac (qaf (qac qah)))))) hT198 fun a235 hE236=>?_
  refine qaP [10] [(2,.p 0 0),(3,.p 1 0),(6,.v (.int .i64 ((q:Nat):Int))),(66,.v (.int .i64 ((u5.length:Nat):Int))),(67,.v (.int .i64 ((q:Nat):Int))),(75,.v (.int .u32 k206)),(80,.v (.pointer (some ⟨b221,o222 + q * 2,none⟩)))] 18 (qac (qaf (qac (qac (qaf (qac qah)))))) (fun _ h=>h.cells) hT198 hE236 fun a237 hE238=>?_
  refine qa4 hE238 (i:=11) (t:=62) (b:=b221) (o:=o222 + q * 2) (d:=81) kz (cs:=[.int .u32 k226]) (v:=.int .u32 k226) kz (fun w' h'=>(At.drop (AtF.move hat225 (TT.step0 hW197 h') nilM qaF).at_ 0 1)) kz kz (qac (qaf (qac (qac (qaf (qac qah)))))) hT198 fun a239 hE240=>?_
  refine qaP [12,13] [(2,.p 0 0),(3,.p 1 0),(6,.v (.int .i64 ((q:Nat):Int))),(66,.v (.int .i64 ((u5.length:Nat):Int))),(67,.v (.int .i64 ((q:Nat):Int))),(83,.v (.bool (k206 != k226)))] 15 (qac (qaf (qac (qac (qaf (qac qah)))))) (fun _ h=>h.cells) hT198 hE240 fun a241 hE242=>?_
  have hc243:(k206 != k226) = false:=by obtain ⟨e1_,e2_⟩:=Prod.mk.inj (Option.some.inj (he208.symm.trans he228)); simp [e1_,e2_]
  have hE244:=hE242.cast (env':=[(2,.p 0 0),(3,.p 1 0),(6,.v (.int .i64 ((q:Nat):Int))),(66,.v (.int .i64 ((u5.length:Nat):Int))),(67,.v (.int .i64 ((q:Nat):Int))),(83,.v (.bool false))]) (by rw [hc243])
  refine qaP [14,15,16,20,21,22] [(2,.p 0 0),(3,.p 1 0),(66,.v (.int .i64 ((u5.length:Nat):Int))),(67,.v (.int .i64 ((q:Nat):Int))),(83,.v (.bool false)),(85,.v (.slice A10 u5.length c11)),(86,.v (.int .i64 ((q:Nat):Int))),(91,.v (.slice A3' u5.length c3')),(92,.v (.int .i64 ((q:Nat):Int)))] 9 (qac (qaf (qac (qac (qaf (qac qah)))))) (fun _ h=>h.cells) hT198 hE244 fun a245 hE246=>?_
  refine qaL hE246 (i:=17) (t:=35) (A:=A10) (m:=u5.length) (q:=((q:Nat):Int)) (d:=87) kz (e:=64) (size:=2) (bytes:=32) kz hA203 rfl (by omega) kz kz (qac (qaf (qac (qac (qaf (qac qah)))))) hT198 fun a247 hE248=>?_
  refine qaP [18] [(2,.p 0 0),(3,.p 1 0),(66,.v (.int .i64 ((u5.length:Nat):Int))),(67,.v (.int .i64 ((q:Nat):Int))),(83,.v (.bool false)),(88,.v (.pointer (some ⟨b201,o202 + q * 2 + 1,none⟩))),(91,.v (.slice A3' u5.length c3')),(92,.v (.int .i64 ((q:Nat):Int)))] 7 (qac (qaf (qac (qac (qaf (qac qah)))))) (fun _ h=>h.cells) hT198 hE248 fun a249 hE250=>?_
  refine qa4 hE250 (i:=19) (t:=22) (b:=b201) (o:=o202 + q * 2 + 1) (d:=89) kz (cs:=[.slice A209 s207.length c210]) (v:=.slice A209 s207.length c210) kz (fun w' h'=>(At.drop (AtF.move hat205 (TT.step0 hW197 h') nilM qaF).at_ 1 1)) kz kz (qac (qaf (qac (qac (qaf (qac qah)))))) hT198 fun a251 hE252=>?_
  refine qaL hE252 (i:=23) (t:=35) (A:=A3') (m:=u5.length) (q:=((q:Nat):Int)) (d:=93) kz (e:=64) (size:=2) (bytes:=32) kz hA223 rfl (by omega) kz kz (qac (qaf (qac (qac (qaf (qac qah)))))) hT198 fun a253 hE254=>?_
  refine qaP [24] [(2,.p 0 0),(3,.p 1 0),(66,.v (.int .i64 ((u5.length:Nat):Int))),(67,.v (.int .i64 ((q:Nat):Int))),(83,.v (.bool false)),(89,.v (.slice A209 s207.length c210)),(94,.v (.pointer (some ⟨b221,o222 + q * 2 + 1,none⟩)))] 4 (qac (qaf (qac (qac (qaf (qac qah)))))) (fun _ h=>h.cells) hT198 hE254 fun a255 hE256=>?_
  refine qa4 hE256 (i:=25) (t:=22) (b:=b221) (o:=o222 + q * 2 + 1) (d:=95) kz (cs:=[.slice A229 s227.length c230]) (v:=.slice A229 s227.length c230) kz (fun w' h'=>(At.drop (AtF.move hat225 (TT.step0 hW197 h') nilM qaF).at_ 1 1)) kz kz (qac (qaf (qac (qac (qaf (qac qah)))))) hT198 fun a257 hE258=>?_
  refine qaE (i:=26) kz (qaw hE258 (f:=31) (vs:=[.slice A209 s207.length c210,.slice A229 s227.length c230]) (d:=96) kz Tryd.call31 (qhE _ _ _ _ s207 s227 _ _ (hb212.move hW197.step nilM hW197.imm) (hb232.move hW197.step nilM hW197.imm)) ?_)
  rintro e_ w260 ⟨rfl,hs259⟩
  refine ⟨_,rfl,fun a261 hE262=>?_⟩
  have hW263:=hW197.next_nil hs259
  have hF264:=hW197.frN hs259
  have hT265:=TT.ofW hF264 hW263
  refine ⟨fun _=>hT265,?_⟩
  refine qaP [27,28] [(2,.p 0 0),(3,.p 1 0),(66,.v (.int .i64 ((u5.length:Nat):Int))),(67,.v (.int .i64 ((q:Nat):Int))),(98,.v (.bool (!(decide (s207 = s227)))))] 0 (qac (qaf (qac (qac (qaf (qac qah)))))) (fun _ h=>h.cells) hT265 hE262 fun a266 hE267=>?_
  refine qaW kz ?_ _
  refine qab ?_
  refine qan hE267 (b:=!(decide (s207 = s227))) kz (by obtain ⟨e1_,e2_⟩:=Prod.mk.inj (Option.some.inj (he208.symm.trans he228)); simp [e1_,e2_]) ?_
  refine wp_skip ?_
  refine qa3 ?_
  refine qab ?_
  refine qaC [0,1] kz ?_
  refine qam [0,1] [] [(2,.p 0 0),(3,.p 1 0),(66,.v (.int .i64 ((u5.length:Nat):Int))),(67,.v (.int .i64 (IntKind.i64.wrap (((q:Nat):Int) + 1))))] hW263 hE267 fun a268 hE269=>?_
  refine qag (qab ?_)
  have he270:IntKind.i64.wrap (((q:Nat):Int) + 1) = ((q + 1:Nat):Int):=qbK (by omega)
  rw [he270] at hE269
  exact ⟨u5.length - (q + 1),by omega,q + 1,rfl,by omega,hE269.pk,hW263,((hF188.trans hF196).trans hF264)⟩
 have hf271:=of_decide_eq_false hc191
 refine wp_exit ?_
 refine qaR ?_
 refine qaR ?_
 refine qbh ?_
 refine qab ?_
 refine qau [(4,.v (.bool true))] hW185 hE190 fun a272 hE273=>?_
 refine wp_ret ?_
 refine qaZ hE273 hW185.cells (v:=.bool true) kz ?_
 exact ⟨rfl,hW185.step⟩
theorem qg7:∀ m,qg6 m
 | 0=>fun ct1 ct2 t w F h1 h2 hd=>by
  obtain ⟨n,s,b,l,u,A1,c1,A2,c2,A3,c3,xs,rfl,_⟩:=h1.open_
  rw [qc5] at hd; omega
 | m + 1=>qeL (qg7 m)
theorem qbj (w:World):Calls Tryd.prog 13 #[] w (qcb w (.int .i64 1)):=by
 refine enter (n:=4) Tryd.func13 rfl Tryd.ntmps13 kz fun a hE=>?_
 have hW:=WOk.start w Nil
 refine qau [] hW hE fun a1 hE2=>?_
 refine qae [0,1,2,3] kz ?_
 refine qal (qaQ hE2 (f:=32) (vs:=[]) (d:=1) (n':=3) kz Tryd.call32 Tryd.func32 rfl Tryd.ntmps32 kz fun a3 hE4=>?_)
 refine qau [] hW hE4 fun a5 hE6=>?_
 refine qae [0] kz ?_
 refine qal (qaO hW hE6 (d:=1) (cs:=[.int .i16 0,.int .i32 0,.int .i16 0,.slice none 0 0,.map none]) kz fun b7 a8 w9 hb10 hz11 hF12 hW13 hE14=>?_)
 refine qag (qab ?_)
 refine qae [0] kz ?_
 refine qal (qaQ hE14 (f:=58) (vs:=[.pointer (some ⟨b7,0,none⟩)]) (d:=2) (n':=2) kz Tryd.call58 Tryd.func58 rfl Tryd.ntmps58 kz fun a15 hE16=>?_)
 have hE17:=hE16.recast 0 (.v (.pointer (some ⟨b7,0,none⟩))) (.p 0 0) rfl rfl (Nat.le_of_ble_eq_true (n:=1) rfl)
 refine wp_skip ?_
 refine qbi hE17 hW13.cells (v:=.tuple #[]) kz ?_
 refine ⟨_,rfl,fun a18 hE19=>?_⟩
 have hE20:=(EnvOk.places (tb':=[⟨b7,0,[.int .i16 0,.int .i32 0,.int .i16 0,.slice none 0 0,.map none],true⟩]) hE19 (show Pl [⟨b7,0,[.int .i16 0,.int .i32 0,.int .i16 0,.slice none 0 0,.map none],true⟩] [⟨b7,0,[.int .i16 0,.int .i32 0,.int .i16 0,.slice none 0 0,.map none],true⟩] from ⟨rfl,rfl,trivial⟩)).pk (env':=[(2,.v (.tuple #[])),(1,.p 0 0)])
 refine qag (qab ?_)
 refine qau [(0,.p 0 0)] hW13 hE20 fun a21 hE22=>?_
 refine wp_ret ?_
 refine qaZ hE22 hW13.cells (v:=.pointer (some ⟨b7,0,none⟩)) kz ?_
 refine ⟨_,rfl,fun a23 hE24=>?_⟩
 have hE25:=(EnvOk.places (tb':=[⟨b7,0,[.int .i16 0,.int .i32 0,.int .i16 0,.slice none 0 0,.map none],true⟩]) hE24 (show Pl [] [⟨b7,0,[.int .i16 0,.int .i32 0,.int .i16 0,.slice none 0 0,.map none],true⟩] from trivial)).pk (env':=[(1,.v (.pointer (some ⟨b7,0,none⟩)))])
 have hE26:=hE25.recast 1 (.v (.pointer (some ⟨b7,0,none⟩))) (.p 0 0) rfl rfl (Nat.le_of_ble_eq_true (n:=1) rfl)
 have hE27:=hE26.pick (ks:=[1]) (env':=[(1,.p 0 0)]) kz
 refine qal (qaQ hE27 (f:=33) (vs:=[.pointer (some ⟨b7,0,none⟩)]) (d:=2) (n':=3) kz Tryd.call33 Tryd.func33 rfl Tryd.ntmps33 kz fun a28 hE29=>?_)
 have hE30:=hE29.recast 0 (.v (.pointer (some ⟨b7,0,none⟩))) (.p 0 0) rfl rfl (Nat.le_of_ble_eq_true (n:=1) rfl)
 refine qau [] hW13 hE30 fun a31 hE32=>?_
 refine qau [(2,.v (.int .i16 1))] hW13 hE32 fun a33 hE34=>?_
 refine wp_ret ?_
 refine qaZ hE34 hW13.cells (v:=.int .i16 1) kz ?_
 refine ⟨_,rfl,fun a35 hE36=>?_⟩
 have hE37:=(EnvOk.places (tb':=[⟨b7,0,[.int .i16 0,.int .i32 0,.int .i16 0,.slice none 0 0,.map none],true⟩]) hE36 (show Pl [⟨b7,0,[.int .i16 0,.int .i32 0,.int .i16 0,.slice none 0 0,.map none],true⟩] [⟨b7,0,[.int .i16 0,.int .i32 0,.int .i16 0,.slice none 0 0,.map none],true⟩] from ⟨rfl,rfl,trivial⟩)).pk (env':=[(2,.v (.int .i16 1)),(1,.p 0 0)])
 refine qam [2,3] [] [(0,.v (.int .i64 1))] hW13 hE37 fun a38 hE39=>?_
 refine qag (qab ?_)
 refine wp_ret ?_
 refine qaZ hE39 hW13.cells (v:=.int .i64 1) kz ?_
 exact ⟨rfl,hW13.step⟩
set_option maxHeartbeats 4000000 in
theorem qbR (x:Int) (hx:0 ≤ x) (hx':x < 256) (s:Bs) (hl:s.length ≤ 1000) {ue:TypeId} {ve:Value} {A2:Option Addr} {c2:Nat} (w:World) (F:Nat → Nat → Prop) (hs_:Octs w F A2 c2 s) (hgl:AtF w F 1 0 [.iface ue ve]) (hb:(qax (IntKind.i16.wrap (Int.tmod x (1 + 1))) (false,s)).1 = true) :
  Calls Tryd.prog 4 #[.int .u8 x,.slice A2 s.length c2] w (qcb w (.bool true)):=by
 refine enter (n:=49) Tryd.func4 rfl Tryd.ntmps4 kz fun a hE=>?_
 have hW:=WOk.start w Nil
 have hsm2:=Slots.small hs_
 refine qau [(0,.v (.int .u8 x)),(1,.v (.slice A2 s.length c2))] hW hE fun a1 hE2=>?_
 refine wp_seq ?_
 refine qau [(0,.v (.int .u8 x)),(1,.v (.slice A2 s.length c2)),(12,.v (.bool (decide (((s.length:Nat):Int) > 2147483647))))] hW hE2 fun a3 hE4=>?_
 refine qan hE4 (b:=decide (((s.length:Nat):Int) > 2147483647)) kz (decide_eq_false (by omega)) ?_
 refine wp_skip ?_
 refine qab ?_
 refine qae [0,1] kz ?_
 refine qal (qaw hE4 (f:=13) (vs:=[]) (d:=13) kz Tryd.call13 (qbj _) ?_)
 rintro e_ w6 ⟨rfl,hs5⟩
 refine ⟨_,rfl,fun a7 hE8=>?_⟩
 have hW9:=hW.next_nil hs5
 have hF10:=hW.frN hs5
 refine qam [1] [] [(0,.v (.int .u8 x)),(1,.v (.slice A2 s.length c2)),(5,.v (.int .i64 1))] hW9 hE8 fun a11 hE12=>?_
 refine qag (qab ?_)
 refine wp_seq ?_
 refine qau [(0,.v (.int .u8 x)),(1,.v (.slice A2 s.length c2)),(5,.v (.int .i64 1)),(15,.v (.bool false))] hW9 hE12 fun a13 hE14=>?_
 refine qan hE14 (b:=false) kz rfl ?_
 refine wp_skip ?_
 refine qab ?_
 refine wp_seq ?_
 refine qau [(0,.v (.int .u8 x)),(1,.v (.slice A2 s.length c2)),(5,.v (.int .i64 1)),(18,.v (.bool (decide (((s.length:Nat):Int) > 1000))))] hW9 hE14 fun a15 hE16=>?_
 refine qan hE16 (b:=decide (((s.length:Nat):Int) > 1000)) kz (decide_eq_false (by omega)) ?_
 refine wp_skip ?_
 refine qab ?_
 refine qae [0,1,2,3,4,5,6,7,8,9,10] kz ?_
 refine qam [0,1] [2,3,4,5,6,7,8,9,10] [(0,.v (.int .u8 x)),(1,.v (.slice A2 s.length c2)),(5,.v (.int .i64 1)),(20,.v (.int .u8 x)),(21,.v (.int .i64 1))] hW9 hE16 fun a17 hE18=>?_
 refine qal (qaw hE18 (f:=15) (vs:=[.int .u8 x,.int .i64 1]) (d:=22) kz Tryd.call15 (qdw x 1 hx hx' (by decide) (by decide) _) ?_)
 rintro e_ w20 ⟨rfl,hs19⟩
 refine ⟨_,rfl,fun a21 hE22=>?_⟩
 have hW23:=hW9.next_nil hs19
 have hF24:=hW9.frN hs19
 refine qam [3] [4,5,6,7,8,9,10] [(0,.v (.int .u8 x)),(1,.v (.slice A2 s.length c2)),(5,.v (.int .i64 1)),(22,.v (.int .i64 (Int.tmod x (1 + 1)))),(23,.v (.slice A2 s.length c2))] hW23 hE22 fun a25 hE26=>?_
 refine qal (qaw hE26 (f:=14) (vs:=[.int .i64 (Int.tmod x (1 + 1)),.slice A2 s.length c2]) (d:=24) kz Tryd.call14 (qbN (Int.tmod x (1 + 1)) s hl (hs_.move hW23.step nilM hW23.imm) (hgl.move hW23.step nilM hW23.imm) hb) ?_)
 rintro e_ w27 ⟨cs28,rfl,hr29,hs30⟩
 have hr31:=hr29.move (Step.refl _ Nil) nilM (hW23.laid (G:=F) hs30)
 obtain ⟨n32,s33,b34,l35,u36,A37,c38,A39,c40,A41,c42,xs43,ht49,hcs44,h45,h46,h47,h48⟩:=hr31.open_
 rw [hcs44] at hr31
 have hsm50:=h45.small
 have hsm51:=h46.small
 rw [hcs44]
 refine ⟨_,rfl,fun a52 hE53=>?_⟩
 have hW54:=hW23.next_nil hs30
 have hF55:=hW23.frN hs30
 refine qam [5,6,7] [8,9,10] [(0,.v (.int .u8 x)),(1,.v (.slice A2 s.length c2)),(5,.v (.int .i64 1)),(25,.v (.agg #[.int .i64 n32,.slice A37 s33.length c38,.bool b34,.slice A39 l35.length c40,.slice A41 u36.length c42])),(26,.v (.bool false))] hW54 hE53 fun a56 hE57=>?_
 refine qal (qaO hW54 hE57 (d:=6) (cs:=[.int .i64 0,.slice none 0 0,.bool false,.slice none 0 0,.slice none 0 0]) kz fun b58 a59 w60 hb61 hz62 hF63 hW64 hE65=>?_)
 refine qal (qaq hW64 hE65 (oi:=0) (cs:=[.int .i64 n32,.slice A37 s33.length c38,.bool b34,.slice A39 l35.length c40,.slice A41 u36.length c42]) kz fun w66 hF67 hW68 hE69=>?_)
 refine qam [10] [] [(0,.v (.int .u8 x)),(1,.v (.slice A2 s.length c2)),(5,.v (.int .i64 1)),(6,.p 0 0),(7,.v (.bool false))] hW68 hE69 fun a70 hE71=>?_
 refine qag (qab ?_)
 refine qae [0,1,2,3,4,5,6,7,8,9,10] kz ?_
 refine qam [0,1] [2,3,4,5,6,7,8,9,10] [(1,.v (.slice A2 s.length c2)),(6,.p 0 0),(7,.v (.bool false)),(28,.v (.int .u8 x)),(29,.v (.int .i64 1))] hW68 hE71 fun a72 hE73=>?_
 refine qal (qaw hE73 (f:=15) (vs:=[.int .u8 x,.int .i64 1]) (d:=30) kz Tryd.call15 (qdw x 1 hx hx' (by decide) (by decide) _) ?_)
 rintro e_ w75 ⟨rfl,hs74⟩
 refine ⟨_,rfl,fun a76 hE77=>?_⟩
 have hW78:=hW68.next_nil hs74
 have hF79:=hW68.frN hs74
 refine qam [3] [4,5,6,7,8,9,10] [(6,.p 0 0),(7,.v (.bool false)),(30,.v (.int .i64 (Int.tmod x (1 + 1)))),(31,.v (.slice A2 s.length c2))] hW78 hE77 fun a80 hE81=>?_
 refine qal (qaw hE81 (f:=16) (vs:=[.int .i64 (Int.tmod x (1 + 1)),.slice A2 s.length c2]) (d:=32) kz Tryd.call16 (qbL (Int.tmod x (1 + 1)) s hl (hs_.move hW78.step nilM hW78.imm) (hgl.move hW78.step nilM hW78.imm) hb) ?_)
 rintro e_ w82 ⟨cs83,rfl,hr84,hs85⟩
 have hr86:=hr84.move (Step.refl _ Nil) nilM (hW78.laid (G:=F) hs85)
 obtain ⟨n87,s88,b89,l90,u91,A92,c93,A94,c95,A96,c97,xs98,ht104,hcs99,h100,h101,h102,h103⟩:=hr86.open_
 rw [hcs99] at hr86
 have hsm105:=h100.small
 have hsm106:=h101.small
 rw [hcs99]
 refine ⟨_,rfl,fun a107 hE108=>?_⟩
 have hW109:=hW78.next_nil hs85
 have hF110:=hW78.frN hs85
 refine qam [5,6,7] [8,9,10] [(6,.p 0 0),(7,.v (.bool false)),(33,.v (.agg #[.int .i64 n87,.slice A92 s88.length c93,.bool b89,.slice A94 l90.length c95,.slice A96 u91.length c97])),(34,.v (.bool false))] hW109 hE108 fun a111 hE112=>?_
 refine qal (qaO hW109 hE112 (d:=8) (cs:=[.int .i64 0,.slice none 0 0,.bool false,.slice none 0 0,.slice none 0 0]) kz fun b113 a114 w115 hb116 hz117 hF118 hW119 hE120=>?_)
 refine qal (qaq hW119 hE120 (oi:=1) (cs:=[.int .i64 n87,.slice A92 s88.length c93,.bool b89,.slice A94 l90.length c95,.slice A96 u91.length c97]) kz fun w121 hF122 hW123 hE124=>?_)
 refine qam [10] [] [(6,.p 0 0),(7,.v (.bool false)),(8,.p 1 0),(9,.v (.bool false))] hW123 hE124 fun a125 hE126=>?_
 refine qag (qab ?_)
 refine qa8 14 kz hW123 fun w127 hF128 hW129 hT130=>?_
 refine qaP [0,1,2,3,4,5,6,7,8,9,10,11,12,13] [(48,.v (.bool true))] 1 (qac qah) (fun _ h=>h.cells) hT130 hE126 fun a131 hE132=>?_
 refine qaE (i:=14) kz (qcr [4] hW129.cells hE132 (env':=[(4,.v (.bool true))]) kz fun a133 hE134=>?_)
 refine ⟨fun h=>absurd rfl h,?_⟩
 refine qaW kz ?_ _
 refine qab ?_
 refine wp_ret ?_
 refine qaZ hE134 hW129.cells (v:=.bool true) kz ?_
 exact ⟨rfl,hW129.step⟩
set_option maxHeartbeats 4000000 in
theorem qbS (x:Int) (hx:0 ≤ x) (hx':x < 256) (s:Bs) (hl:s.length ≤ 1000) {ue:TypeId} {ve:Value} {A2:Option Addr} {c2:Nat} (w:World) (F:Nat → Nat → Prop) (hs_:Octs w F A2 c2 s) (hgl:AtF w F 1 0 [.iface ue ve]) (hb:(qax (IntKind.i16.wrap (Int.tmod x (1 + 1))) (false,s)).1 = false) :
  Calls Tryd.prog 4 #[.int .u8 x,.slice A2 s.length c2] w (qcb w (.bool true)):=by
 refine enter (n:=49) Tryd.func4 rfl Tryd.ntmps4 kz fun a hE=>?_
 have hW:=WOk.start w Nil
 have hsm2:=Slots.small hs_
 refine qau [(0,.v (.int .u8 x)),(1,.v (.slice A2 s.length c2))] hW hE fun a1 hE2=>?_
 refine wp_seq ?_
 refine qau [(0,.v (.int .u8 x)),(1,.v (.slice A2 s.length c2)),(12,.v (.bool (decide (((s.length:Nat):Int) > 2147483647))))] hW hE2 fun a3 hE4=>?_
 refine qan hE4 (b:=decide (((s.length:Nat):Int) > 2147483647)) kz (decide_eq_false (by omega)) ?_
 refine wp_skip ?_
 refine qab ?_
 refine qae [0,1] kz ?_
 refine qal (qaw hE4 (f:=13) (vs:=[]) (d:=13) kz Tryd.call13 (qbj _) ?_)
 rintro e_ w6 ⟨rfl,hs5⟩
 refine ⟨_,rfl,fun a7 hE8=>?_⟩
 have hW9:=hW.next_nil hs5
 have hF10:=hW.frN hs5
 refine qam [1] [] [(0,.v (.int .u8 x)),(1,.v (.slice A2 s.length c2)),(5,.v (.int .i64 1))] hW9 hE8 fun a11 hE12=>?_
 refine qag (qab ?_)
 refine wp_seq ?_
 refine qau [(0,.v (.int .u8 x)),(1,.v (.slice A2 s.length c2)),(5,.v (.int .i64 1)),(15,.v (.bool false))] hW9 hE12 fun a13 hE14=>?_
 refine qan hE14 (b:=false) kz rfl ?_
 refine wp_skip ?_
 refine qab ?_
 refine wp_seq ?_
 refine qau [(0,.v (.int .u8 x)),(1,.v (.slice A2 s.length c2)),(5,.v (.int .i64 1)),(18,.v (.bool (decide (((s.length:Nat):Int) > 1000))))] hW9 hE14 fun a15 hE16=>?_
 refine qan hE16 (b:=decide (((s.length:Nat):Int) > 1000)) kz (decide_eq_false (by omega)) ?_
 refine wp_skip ?_
 refine qab ?_
 refine qae [0,1,2,3,4,5,6,7,8,9,10] kz ?_
 refine qam [0,1] [2,3,4,5,6,7,8,9,10] [(0,.v (.int .u8 x)),(1,.v (.slice A2 s.length c2)),(5,.v (.int .i64 1)),(20,.v (.int .u8 x)),(21,.v (.int .i64 1))] hW9 hE16 fun a17 hE18=>?_
 refine qal (qaw hE18 (f:=15) (vs:=[.int .u8 x,.int .i64 1]) (d:=22) kz Tryd.call15 (qdw x 1 hx hx' (by decide) (by decide) _) ?_)
 rintro e_ w20 ⟨rfl,hs19⟩
 refine ⟨_,rfl,fun a21 hE22=>?_⟩
 have hW23:=hW9.next_nil hs19
 have hF24:=hW9.frN hs19
 refine qam [3] [4,5,6,7,8,9,10] [(0,.v (.int .u8 x)),(1,.v (.slice A2 s.length c2)),(5,.v (.int .i64 1)),(22,.v (.int .i64 (Int.tmod x (1 + 1)))),(23,.v (.slice A2 s.length c2))] hW23 hE22 fun a25 hE26=>?_
 refine qal (qaw hE26 (f:=14) (vs:=[.int .i64 (Int.tmod x (1 + 1)),.slice A2 s.length c2]) (d:=24) kz Tryd.call14 (qbO (Int.tmod x (1 + 1)) s hl (hs_.move hW23.step nilM hW23.imm) (hgl.move hW23.step nilM hW23.imm) hb) ?_)
 rintro e_ w27 ⟨cs28,rfl,hr29,hs30⟩
 have hr31:=hr29.move (Step.refl _ Nil) nilM (hW23.laid (G:=F) hs30)
 obtain ⟨n32,s33,b34,l35,u36,A37,c38,A39,c40,A41,c42,xs43,ht49,hcs44,h45,h46,h47,h48⟩:=hr31.open_
 rw [hcs44] at hr31
 have hsm50:=h45.small
 have hsm51:=h46.small
 rw [hcs44]
 refine ⟨_,rfl,fun a52 hE53=>?_⟩
 have hW54:=hW23.next_nil hs30
 have hF55:=hW23.frN hs30
 refine qam [5,6,7] [8,9,10] [(0,.v (.int .u8 x)),(1,.v (.slice A2 s.length c2)),(5,.v (.int .i64 1)),(25,.v (.agg #[.int .i64 n32,.slice A37 s33.length c38,.bool b34,.slice A39 l35.length c40,.slice A41 u36.length c42])),(26,.v (.bool true))] hW54 hE53 fun a56 hE57=>?_
 refine qal (qaO hW54 hE57 (d:=6) (cs:=[.int .i64 0,.slice none 0 0,.bool false,.slice none 0 0,.slice none 0 0]) kz fun b58 a59 w60 hb61 hz62 hF63 hW64 hE65=>?_)
 refine qal (qaq hW64 hE65 (oi:=0) (cs:=[.int .i64 n32,.slice A37 s33.length c38,.bool b34,.slice A39 l35.length c40,.slice A41 u36.length c42]) kz fun w66 hF67 hW68 hE69=>?_)
 refine qam [10] [] [(0,.v (.int .u8 x)),(1,.v (.slice A2 s.length c2)),(5,.v (.int .i64 1)),(6,.p 0 0),(7,.v (.bool true))] hW68 hE69 fun a70 hE71=>?_
 refine qag (qab ?_)
 refine qae [0,1,2,3,4,5,6,7,8,9,10] kz ?_
 refine qam [0,1] [2,3,4,5,6,7,8,9,10] [(1,.v (.slice A2 s.length c2)),(6,.p 0 0),(7,.v (.bool true)),(28,.v (.int .u8 x)),(29,.v (.int .i64 1))] hW68 hE71 fun a72 hE73=>?_
 refine qal (qaw hE73 (f:=15) (vs:=[.int .u8 x,.int .i64 1]) (d:=30) kz Tryd.call15 (qdw x 1 hx hx' (by decide) (by decide) _) ?_)
 rintro e_ w75 ⟨rfl,hs74⟩
 refine ⟨_,rfl,fun a76 hE77=>?_⟩
 have hW78:=hW68.next_nil hs74
 have hF79:=hW68.frN hs74
 refine qam [3] [4,5,6,7,8,9,10] [(6,.p 0 0),(7,.v (.bool true)),(30,.v (.int .i64 (Int.tmod x (1 + 1)))),(31,.v (.slice A2 s.length c2))] hW78 hE77 fun a80 hE81=>?_
 refine qal (qaw hE81 (f:=16) (vs:=[.int .i64 (Int.tmod x (1 + 1)),.slice A2 s.length c2]) (d:=32) kz Tryd.call16 (qbM (Int.tmod x (1 + 1)) s hl (hs_.move hW78.step nilM hW78.imm) (hgl.move hW78.step nilM hW78.imm) hb) ?_)
 rintro e_ w82 ⟨cs83,rfl,hr84,hs85⟩
 have hr86:=hr84.move (Step.refl _ Nil) nilM (hW78.laid (G:=F) hs85)
 obtain ⟨n87,s88,b89,l90,u91,A92,c93,A94,c95,A96,c97,xs98,ht104,hcs99,h100,h101,h102,h103⟩:=hr86.open_
 rw [hcs99] at hr86
 have hsm105:=h100.small
 have hsm106:=h101.small
 rw [hcs99]
 refine ⟨_,rfl,fun a107 hE108=>?_⟩
 have hW109:=hW78.next_nil hs85
 have hF110:=hW78.frN hs85
 refine qam [5,6,7] [8,9,10] [(6,.p 0 0),(7,.v (.bool true)),(33,.v (.agg #[.int .i64 n87,.slice A92 s88.length c93,.bool b89,.slice A94 l90.length c95,.slice A96 u91.length c97])),(34,.v (.bool true))] hW109 hE108 fun a111 hE112=>?_
 refine qal (qaO hW109 hE112 (d:=8) (cs:=[.int .i64 0,.slice none 0 0,.bool false,.slice none 0 0,.slice none 0 0]) kz fun b113 a114 w115 hb116 hz117 hF118 hW119 hE120=>?_)
 refine qal (qaq hW119 hE120 (oi:=1) (cs:=[.int .i64 n87,.slice A92 s88.length c93,.bool b89,.slice A94 l90.length c95,.slice A96 u91.length c97]) kz fun w121 hF122 hW123 hE124=>?_)
 refine qam [10] [] [(6,.p 0 0),(7,.v (.bool true)),(8,.p 1 0),(9,.v (.bool true))] hW123 hE124 fun a125 hE126=>?_
 refine qag (qab ?_)
 refine qa8 14 kz hW123 fun w127 hF128 hW129 hT130=>?_
 refine qaP [0,1,2,3,4,5,6,7,9] [(38,.v (.bool true)),(41,.v (.bool false)),(42,.v (.agg #[.int .i64 n32,.slice A37 s33.length c38,.bool b34,.slice A39 l35.length c40,.slice A41 u36.length c42])),(44,.v (.agg #[.int .i64 n87,.slice A92 s88.length c93,.bool b89,.slice A94 l90.length c95,.slice A96 u91.length c97]))] 6 (qac qah) (fun _ h=>h.cells) hT130 hE126 fun a131 hE132=>?_
 refine qaE (i:=8) kz (qaw hE132 (f:=12) (vs:=[.agg #[.int .i64 n32,.slice A37 s33.length c38,.bool b34,.slice A39 l35.length c40,.slice A41 u36.length c42]]) (d:=43) kz Tryd.call12 (lGot _ _ _ _ _ (hr31.move ((((((hF63.trans hF67).trans hF79).trans hF110).trans hF118).trans hF122).trans hF128).step immM ((((((hF63.trans hF67).trans hF79).trans hF110).trans hF118).trans hF122).trans hF128).to') (Nat.le_refl _)) ?_)
 rintro e_ w136 ⟨cs135,rfl,hr134,hs133⟩
 have hr137:=hr134.move (Step.refl _ Nil) nilM (hW129.laid (G:=F) hs133)
 obtain ⟨n138,s139,b140,l141,u142,A143,c144,A145,c146,A147,c148,xs149,ht155,hcs150,h151,h152,h153,h154⟩:=hr137.open_
 rw [hcs150] at hr137
 have hsm156:=h151.small
 have hsm157:=h152.small
 rw [hcs150]
 refine ⟨_,rfl,fun a158 hE159=>?_⟩
 have hW160:=hW129.next_nil hs133
 have hF161:=hW129.frN hs133
 have hT162:=TT.ofW hF161 hW160
 refine ⟨fun _=>hT162,?_⟩
 refine qaE (i:=10) kz (qaw hE159 (f:=12) (vs:=[.agg #[.int .i64 n87,.slice A92 s88.length c93,.bool b89,.slice A94 l90.length c95,.slice A96 u91.length c97]]) (d:=45) kz Tryd.call12 (lGot _ _ _ _ _ (hr86.move (((hF118.trans hF122).trans hF128).trans hF161).step immM (((hF118.trans hF122).trans hF128).trans hF161).to') (Nat.le_refl _)) ?_)
 rintro e_ w166 ⟨cs165,rfl,hr164,hs163⟩
 have hr167:=hr164.move (Step.refl _ Nil) nilM (hW160.laid (G:=F) hs163)
 obtain ⟨n168,s169,b170,l171,u172,A173,c174,A175,c176,A177,c178,xs179,ht185,hcs180,h181,h182,h183,h184⟩:=hr167.open_
 rw [hcs180] at hr167
 have hsm186:=h181.small
 have hsm187:=h182.small
 rw [hcs180]
 refine ⟨_,rfl,fun a188 hE189=>?_⟩
 have hW190:=hW160.next_nil hs163
 have hF191:=hW160.frN hs163
 have hT192:=TT.ofW (hF161.trans hF191) hW190
 refine ⟨fun _=>hT192,?_⟩
 refine qaE (i:=11) kz (qaw hE189 (f:=11) (vs:=[.agg #[.int .i64 n138,.slice A143 s139.length c144,.bool b140,.slice A145 l141.length c146,.slice A147 u142.length c148],.agg #[.int .i64 n168,.slice A173 s169.length c174,.bool b170,.slice A175 l171.length c176,.slice A177 u172.length c178]]) (d:=46) kz Tryd.call11 (qg7 _ _ _ _ _ _ (hr137.move hF191.step immM hF191.to') hr167 (Nat.le_refl _)) ?_)
 rintro e_ w194 ⟨rfl,hs193⟩
 refine ⟨_,rfl,fun a195 hE196=>?_⟩
 have hW197:=hW190.next_nil hs193
 have hF198:=hW190.frN hs193
 have hT199:=TT.ofW ((hF161.trans hF191).trans hF198) hW197
 refine ⟨fun _=>hT199,?_⟩
 refine qaP [12,13] [(48,.v (.bool true))] 1 (qac qah) (fun _ h=>h.cells) hT199 hE196 fun a200 hE201=>?_
 refine qaE (i:=14) kz (qcr [4] hW197.cells hE201 (env':=[(4,.v (.bool true))]) kz fun a202 hE203=>?_)
 refine ⟨fun h=>absurd rfl h,?_⟩
 refine qaW kz ?_ _
 refine qab ?_
 refine wp_ret ?_
 refine qaZ hE203 hW197.cells (v:=.bool true) kz ?_
 exact ⟨rfl,hW197.step⟩
theorem qbT (x:Int) (hx:0 ≤ x) (hx':x < 256) (s:Bs) (hl:¬ s.length ≤ 1000) {A2:Option Addr} {c2:Nat} (w:World) (F:Nat → Nat → Prop) (hs_:Octs w F A2 c2 s) :
  Calls Tryd.prog 4 #[.int .u8 x,.slice A2 s.length c2] w (qcb w (.bool true)):=by
 refine enter (n:=49) Tryd.func4 rfl Tryd.ntmps4 kz fun a hE=>?_
 have hW:=WOk.start w Nil
 have hsm2:=Slots.small hs_
 refine qau [(0,.v (.int .u8 x)),(1,.v (.slice A2 s.length c2))] hW hE fun a1 hE2=>?_
 refine wp_seq ?_
 refine qau [(0,.v (.int .u8 x)),(1,.v (.slice A2 s.length c2)),(12,.v (.bool (decide (((s.length:Nat):Int) > 2147483647))))] hW hE2 fun a3 hE4=>?_
 refine qbd hE4 (b:=decide (((s.length:Nat):Int) > 2147483647)) kz (fun hc5=>?_) (fun hc5=>?_)
 ·
  have hf6:=of_decide_eq_true hc5
  refine qau [(4,.v (.bool true))] hW hE4 fun a7 hE8=>?_
  refine wp_ret ?_
  refine qa2 ?_
  refine qaZ hE8 hW.cells (v:=.bool true) kz ?_
  exact ⟨rfl,hW.step⟩
 have hf9:=of_decide_eq_false hc5
 refine wp_skip ?_
 refine qab ?_
 refine qae [0,1] kz ?_
 refine qal (qaw hE4 (f:=13) (vs:=[]) (d:=13) kz Tryd.call13 (qbj _) ?_)
 rintro e_ w11 ⟨rfl,hs10⟩
 refine ⟨_,rfl,fun a12 hE13=>?_⟩
 have hW14:=hW.next_nil hs10
 have hF15:=hW.frN hs10
 refine qam [1] [] [(0,.v (.int .u8 x)),(1,.v (.slice A2 s.length c2)),(5,.v (.int .i64 1))] hW14 hE13 fun a16 hE17=>?_
 refine qag (qab ?_)
 refine wp_seq ?_
 refine qau [(0,.v (.int .u8 x)),(1,.v (.slice A2 s.length c2)),(5,.v (.int .i64 1)),(15,.v (.bool false))] hW14 hE17 fun a18 hE19=>?_
 refine qan hE19 (b:=false) kz rfl ?_
 refine wp_skip ?_
 refine qab ?_
 refine wp_seq ?_
 refine qau [(0,.v (.int .u8 x)),(1,.v (.slice A2 s.length c2)),(5,.v (.int .i64 1)),(18,.v (.bool (decide (((s.length:Nat):Int) > 1000))))] hW14 hE19 fun a20 hE21=>?_
 refine qaV hE21 (b:=decide (((s.length:Nat):Int) > 1000)) kz (decide_eq_true (by omega)) ?_
 refine qau [(4,.v (.bool true))] hW14 hE21 fun a22 hE23=>?_
 refine wp_ret ?_
 refine qa2 ?_
 refine qaZ hE23 hW14.cells (v:=.bool true) kz ?_
 exact ⟨rfl,hW14.step⟩
theorem qbU (x:Int) (hx:0 ≤ x ∧ x ≤ 255) (s:Bs) {ue:TypeId} {ve:Value} {A2:Option Addr} {c2:Nat} (w:World) (F:Nat → Nat → Prop) (hs_:Octs w F A2 c2 s) (hgl:AtF w F 1 0 [.iface ue ve]):Calls Tryd.prog 4 #[.int .u8 x,.slice A2 s.length c2] w (qcb w (.bool true)):=by
 by_cases hl:s.length ≤ 1000
 ·cases hb:(qax (IntKind.i16.wrap (Int.tmod x (1 + 1))) (false,s)).1 with
  | true=>exact qbR x hx.1 (by omega) s hl w F hs_ hgl hb
  | false=>exact qbS x hx.1 (by omega) s hl w F hs_ hgl hb
 exact qbT x hx.1 (by omega) s hl w F hs_
end Go.Proofs.YtajibgahdkllkaaDoorR.ME