/- The texts of a claim, put together: the engine, the contracts, the law. Own work. -/
import Derived.Test.YtajibgahdkllkaaDoorRWu0P2
import Derived.Deep.LoopGhost
namespace Go.Proofs.YtajibgahdkllkaaDoorR.ME
open Go
open Go.RowKit
set_option linter.unusedVariables false
set_option linter.unusedSimpArgs false
set_option maxRecDepth 20000
set_option maxHeartbeats 4000000 in
theorem qbo (v:Int) (D:DV) (b o:Nat) (w:World) (F:Nat → Nat → Prop) (hat:AtF w F b o [.string ((D.f 0).s),.pointer ((D.f 1).A),.pointer ((D.f 2).A),.map D.m]) (hok:qaC w F D):Calls Tryd.prog 66 #[.pointer (some ⟨b,o,none⟩)] w (qdt w F (qaw D)):=by
 refine enter (n:=40) Tryd.func66 rfl Tryd.ntmps66 kz fun a hE=>?_
 have hW:WOk w Nil w [⟨b,o,[.string ((D.f 0).s),.pointer ((D.f 1).A),.pointer ((D.f 2).A),.map D.m],false⟩] []:=(WOk.start w Nil).start1 hat rfl rfl
 unfold qaC at hok
 obtain ⟨g1,⟨g2,g2l⟩,⟨g3,g3l⟩,g4,g4l,g4x,_⟩:=hok
 have hE0:=(EnvOk.ptr0 (cs:=[.string ((D.f 0).s),.pointer ((D.f 1).A),.pointer ((D.f 2).A),.map D.m]) (r:=false) hE).pk (env':=[(0,.p 0 0)])
 refine qad [0] kz ?_
 refine qaj (qaA hW hE0 (d:=2) (cs:=[.int .i64 0,.slice none 0 0,.bool false,.slice none 0 0,.slice none 0 0]) kz fun b5 a6 w7 hb8 hz9 hF10 hW11 hE12=>?_)
 refine qae (qab ?_)
 refine qad [0,1,2,3] kz ?_
 refine qaj (qew (t:=23) (e:=26) (size:=5) (bytes:=88) (d:=4) (j:=3) (.agg #[.int .i64 0,.slice none 0 0,.bool false,.slice none 0 0,.slice none 0 0]) [.int .i64 0,.slice none 0 0,.bool false,.slice none 0 0,.slice none 0 0,.int .i64 0,.slice none 0 0,.bool false,.slice none 0 0,.slice none 0 0,.int .i64 0,.slice none 0 0,.bool false,.slice none 0 0,.slice none 0 0] hW11 hE12 fun b13 a14 w15 hb16 hz17 hF18 hW19 hE20=>?_)
 refine qal [1] [2,3] [(0,.p 0 0),(2,.p 1 0),(5,.v (.agg #[.int .i64 0,.slice none 0 0,.bool false,.slice (some ⟨b13,0,none⟩) 3 3,.slice none 0 0]))] hW19 hE20 fun a21 hE22=>?_
 refine qaj (qaA hW19 hE22 (d:=3) (cs:=[.int .i64 0,.slice none 0 0,.bool false,.slice none 0 0,.slice none 0 0]) kz fun b23 a24 w25 hb26 hz27 hF28 hW29 hE30=>?_)
 refine qaj (qao hW29 hE30 (oi:=3) (cs:=[.int .i64 0,.slice none 0 0,.bool false,.slice (some ⟨b13,0,none⟩) 3 3,.slice none 0 0]) kz fun w31 hF32 hW33 hE34=>?_)
 refine qae (qab ?_)
 refine qaU 9 kz hW33 fun w35 hF36 hW37 hT38=>?_
 refine qaJ [0,1,2,3,4,5] [(0,.p 0 0),(2,.p 1 0),(3,.p 3 0),(7,.v (.slice (some ⟨b13,0,none⟩) 3 3)),(11,.v (.string ((D.f 0).s)))] 4 (qac qah) (fun _ h=>h.cells) hT38 hE34 fun a39 hE40=>?_
 refine qaD (i:=6) kz (qdc (d:=12) (src:=9) (dst:=22) (e:=5) (s:=((D.f 0).s)) hW37 hE40 (by omega) fun b41 c42 a43 w44 hF45 hW46 hO47 hE48=>?_)
 have hO49:=hO47 F
 have hT50:=TT.ofW hF45 hW46
 refine ⟨fun _=>hT50,?_⟩
 refine qaJ [7] [(0,.p 0 0),(2,.p 1 0),(3,.p 3 0),(7,.v (.slice (some ⟨b13,0,none⟩) 3 3)),(13,.v (.agg #[.int .i64 0,.slice (some ⟨b41,0,none⟩) ((sb ((D.f 0).s)).length) c42,.bool false,.slice none 0 0,.slice none 0 0]))] 2 (qac qah) (fun _ h=>h.cells) hT50 hE48 fun a51 hE52=>?_
 refine qaE hE52 (i:=8) (t:=23) (A:=(some ⟨b13,0,none⟩)) (m:=3) (q:=0) (d:=14) kz (e:=26) (size:=5) (bytes:=88) (j:=0) kz (b:=b13) (o:=0) rfl rfl (by decide) kz kz (qac qah) hT50 fun a53 hE54=>?_
 have hE55:=hE54.recast 14 (.v (.pointer (some ⟨b13,0 + 0 * 5,none⟩))) (.p 2 0) rfl rfl (Nat.le_of_ble_eq_true (n:=3) rfl)
 have hE56:=hE55.pk (env':=[(0,.p 0 0),(2,.p 1 0),(3,.p 3 0),(7,.v (.slice (some ⟨b13,0,none⟩) 3 3)),(13,.v (.agg #[.int .i64 0,.slice (some ⟨b41,0,none⟩) ((sb ((D.f 0).s)).length) c42,.bool false,.slice none 0 0,.slice none 0 0])),(14,.p 2 0)])
 refine qaD (i:=9) kz (qao hW46 hE56 (oi:=2) (cs:=[.int .i64 0,.slice (some ⟨b41,0,none⟩) ((sb ((D.f 0).s)).length) c42,.bool false,.slice none 0 0,.slice none 0 0,.int .i64 0,.slice none 0 0,.bool false,.slice none 0 0,.slice none 0 0,.int .i64 0,.slice none 0 0,.bool false,.slice none 0 0,.slice none 0 0]) kz fun w57 hF58 hW59 hE60=>?_)
 refine ⟨fun h=>absurd rfl h,?_⟩
 refine qaR kz ?_ _
 refine qab ?_
 refine qaU 8 kz hW59 fun w61 hF62 hW63 hT64=>?_
 refine qaJ [0,1,2,3,4,5] [(0,.p 0 0),(2,.p 1 0),(3,.p 3 0),(16,.v (.slice (some ⟨b13,0,none⟩) 3 3)),(20,.v (.pointer ((D.f 1).A)))] 3 (qac qah) (fun _ h=>h.cells) hT64 hE60 fun a65 hE66=>?_
 refine qaD (i:=6) kz (qaq hE66 (f:=100) (vs:=[.pointer ((D.f 1).A)]) (d:=21) kz Tryd.call100 (qif _ (D.f 1).s _ (Imm F w w61 [⟨b,o,[.string ((D.f 0).s),.pointer ((D.f 1).A),.pointer ((D.f 2).A),.map D.m],false⟩,⟨b5,0,[.int .i64 0,.slice none 0 0,.bool false,.slice none 0 0,.slice none 0 0],true⟩,⟨b13,0,[.int .i64 0,.slice (some ⟨b41,0,none⟩) ((sb ((D.f 0).s)).length) c42,.bool false,.slice none 0 0,.slice none 0 0,.int .i64 0,.slice none 0 0,.bool false,.slice none 0 0,.slice none 0 0,.int .i64 0,.slice none 0 0,.bool false,.slice none 0 0,.slice none 0 0],true⟩,⟨b23,0,[.int .i64 0,.slice none 0 0,.bool false,.slice (some ⟨b13,0,none⟩) 3 3,.slice none 0 0],true⟩] []) (fun ad h_=>by obtain ⟨b',o',g1,g2⟩:=g2 ad h_; exact ⟨b',o',g1,g2.move hW63.step nilM hW63.imm⟩) g2l) ?_)
 rintro e_ w70 ⟨cs69,rfl,hr68,hs67⟩
 have hr71:=hr68.move (Step.refl _ Nil) nilM (hW63.laid (G:=F) hs67)
 obtain ⟨n72,s73,b74,l75,u76,A77,c78,A79,c80,A81,c82,xs83,ht89,hcs84,h85,h86,h87,h88⟩:=hr71.open_
 rw [hcs84] at hr71
 have hsm90:=h85.small
 have hsm91:=h86.small
 rw [hcs84]
 refine ⟨_,rfl,fun a92 hE93=>?_⟩
 have hW94:=hW63.next_nil hs67
 have hF95:=hW63.frN hs67
 have hT96:=TT.ofW hF95 hW94
 refine ⟨fun _=>hT96,?_⟩
 refine qaE hE93 (i:=7) (t:=23) (A:=(some ⟨b13,0,none⟩)) (m:=3) (q:=1) (d:=22) kz (e:=26) (size:=5) (bytes:=88) (j:=1) kz (b:=b13) (o:=0) rfl rfl (by decide) kz kz (qac qah) hT96 fun a97 hE98=>?_
 have hE99:=hE98.recast 22 (.v (.pointer (some ⟨b13,0 + 1 * 5,none⟩))) (.p 2 5) rfl rfl (Nat.le_of_ble_eq_true (n:=3) rfl)
 have hE100:=hE99.pk (env':=[(0,.p 0 0),(2,.p 1 0),(3,.p 3 0),(16,.v (.slice (some ⟨b13,0,none⟩) 3 3)),(20,.v (.pointer ((D.f 1).A))),(21,.v (.agg #[.int .i64 n72,.slice A77 s73.length c78,.bool b74,.slice A79 l75.length c80,.slice A81 u76.length c82])),(22,.p 2 5)])
 refine qaD (i:=8) kz (qao hW94 hE100 (oi:=2) (cs:=[.int .i64 0,.slice (some ⟨b41,0,none⟩) ((sb ((D.f 0).s)).length) c42,.bool false,.slice none 0 0,.slice none 0 0,.int .i64 n72,.slice A77 s73.length c78,.bool b74,.slice A79 l75.length c80,.slice A81 u76.length c82,.int .i64 0,.slice none 0 0,.bool false,.slice none 0 0,.slice none 0 0]) kz fun w101 hF102 hW103 hE104=>?_)
 refine ⟨fun h=>absurd rfl h,?_⟩
 refine qaR kz ?_ _
 refine qab ?_
 refine qaU 8 kz hW103 fun w105 hF106 hW107 hT108=>?_
 refine qaJ [0,1,2,3,4,5] [(0,.p 0 0),(2,.p 1 0),(3,.p 3 0),(24,.v (.slice (some ⟨b13,0,none⟩) 3 3)),(28,.v (.pointer ((D.f 2).A)))] 3 (qac qah) (fun _ h=>h.cells) hT108 hE104 fun a109 hE110=>?_
 refine qaD (i:=6) kz (qaq hE110 (f:=100) (vs:=[.pointer ((D.f 2).A)]) (d:=29) kz Tryd.call100 (qif _ (D.f 2).s _ (Imm F w w105 [⟨b,o,[.string ((D.f 0).s),.pointer ((D.f 1).A),.pointer ((D.f 2).A),.map D.m],false⟩,⟨b5,0,[.int .i64 0,.slice none 0 0,.bool false,.slice none 0 0,.slice none 0 0],true⟩,⟨b13,0,[.int .i64 0,.slice (some ⟨b41,0,none⟩) ((sb ((D.f 0).s)).length) c42,.bool false,.slice none 0 0,.slice none 0 0,.int .i64 n72,.slice A77 s73.length c78,.bool b74,.slice A79 l75.length c80,.slice A81 u76.length c82,.int .i64 0,.slice none 0 0,.bool false,.slice none 0 0,.slice none 0 0],true⟩,⟨b23,0,[.int .i64 0,.slice none 0 0,.bool false,.slice (some ⟨b13,0,none⟩) 3 3,.slice none 0 0],true⟩] []) (fun ad h_=>by obtain ⟨b',o',g1,g2⟩:=g3 ad h_; exact ⟨b',o',g1,g2.move hW107.step nilM hW107.imm⟩) g3l) ?_)
 rintro e_ w114 ⟨cs113,rfl,hr112,hs111⟩
 have hr115:=hr112.move (Step.refl _ Nil) nilM (hW107.laid (G:=F) hs111)
 obtain ⟨n116,s117,b118,l119,u120,A121,c122,A123,c124,A125,c126,xs127,ht133,hcs128,h129,h130,h131,h132⟩:=hr115.open_
 rw [hcs128] at hr115
 have hsm134:=h129.small
 have hsm135:=h130.small
 rw [hcs128]
 refine ⟨_,rfl,fun a136 hE137=>?_⟩
 have hW138:=hW107.next_nil hs111
 have hF139:=hW107.frN hs111
 have hT140:=TT.ofW hF139 hW138
 refine ⟨fun _=>hT140,?_⟩
 refine qaE hE137 (i:=7) (t:=23) (A:=(some ⟨b13,0,none⟩)) (m:=3) (q:=2) (d:=30) kz (e:=26) (size:=5) (bytes:=88) (j:=2) kz (b:=b13) (o:=0) rfl rfl (by decide) kz kz (qac qah) hT140 fun a141 hE142=>?_
 have hE143:=hE142.recast 30 (.v (.pointer (some ⟨b13,0 + 2 * 5,none⟩))) (.p 2 10) rfl rfl (Nat.le_of_ble_eq_true (n:=3) rfl)
 have hE144:=hE143.pk (env':=[(0,.p 0 0),(2,.p 1 0),(3,.p 3 0),(24,.v (.slice (some ⟨b13,0,none⟩) 3 3)),(28,.v (.pointer ((D.f 2).A))),(29,.v (.agg #[.int .i64 n116,.slice A121 s117.length c122,.bool b118,.slice A123 l119.length c124,.slice A125 u120.length c126])),(30,.p 2 10)])
 refine qaD (i:=8) kz (qao hW138 hE144 (oi:=2) (cs:=[.int .i64 0,.slice (some ⟨b41,0,none⟩) ((sb ((D.f 0).s)).length) c42,.bool false,.slice none 0 0,.slice none 0 0,.int .i64 n72,.slice A77 s73.length c78,.bool b74,.slice A79 l75.length c80,.slice A81 u76.length c82,.int .i64 n116,.slice A121 s117.length c122,.bool b118,.slice A123 l119.length c124,.slice A125 u120.length c126]) kz fun w145 hF146 hW147 hE148=>?_)
 refine ⟨fun h=>absurd rfl h,?_⟩
 refine qaR kz ?_ _
 refine qab ?_
 refine qad [0,1,2,3,4] kz ?_
 refine qal [0,1,2] [3,4] [(2,.p 1 0),(3,.p 3 0),(33,.p 0 3)] hW147 hE148 fun a149 hE150=>?_
 refine qaj (qeF hE150 (v:=.func (.func 101) #[] #[.pointer (some ⟨b23,0,none⟩)]) (d:=34) kz fun a151 hE152=>?_)
 refine qaj (qaq hE152 (f:=61) (vs:=[.pointer (some ⟨b,o + 3,none⟩),.func (.func 101) #[] #[.pointer (some ⟨b23,0,none⟩)]]) (d:=35) kz Tryd.call61 (qe2 (F:=(Imm F w w145 [⟨b,o,[.string ((D.f 0).s),.pointer ((D.f 1).A),.pointer ((D.f 2).A),.map D.m],false⟩,⟨b5,0,[.int .i64 0,.slice none 0 0,.bool false,.slice none 0 0,.slice none 0 0],true⟩,⟨b13,0,[.int .i64 0,.slice (some ⟨b41,0,none⟩) ((sb ((D.f 0).s)).length) c42,.bool false,.slice none 0 0,.slice none 0 0,.int .i64 n72,.slice A77 s73.length c78,.bool b74,.slice A79 l75.length c80,.slice A81 u76.length c82,.int .i64 n116,.slice A121 s117.length c122,.bool b118,.slice A123 l119.length c124,.slice A125 u120.length c126],true⟩,⟨b23,0,[.int .i64 0,.slice none 0 0,.bool false,.slice (some ⟨b13,0,none⟩) 3 3,.slice none 0 0],true⟩] [])) Tryd.call101 qcm ((hat.one 3 rfl).move hW147.step nilM hW147.imm) (g4.move hW147.step nilM hW147.imm) (Str.of hW147 3 rfl) (qfV 3 rfl) g4l) ?_)
 rintro e_ w153 ⟨rfl,A154,c155,hst156,hU157,hs158⟩
 obtain ⟨hW159,hF160,hl161⟩:=hW147.wrote 3 [⟨b,o,[.string ((D.f 0).s),.pointer ((D.f 1).A),.pointer ((D.f 2).A),.map D.m],false⟩,⟨b5,0,[.int .i64 0,.slice none 0 0,.bool false,.slice none 0 0,.slice none 0 0],true⟩,⟨b13,0,[.int .i64 0,.slice (some ⟨b41,0,none⟩) ((sb ((D.f 0).s)).length) c42,.bool false,.slice none 0 0,.slice none 0 0,.int .i64 n72,.slice A77 s73.length c78,.bool b74,.slice A79 l75.length c80,.slice A81 u76.length c82,.int .i64 n116,.slice A121 s117.length c122,.bool b118,.slice A123 l119.length c124,.slice A125 u120.length c126],true⟩,⟨b23,0,[.int .i64 0,.slice none 0 0,.bool false,.slice (some ⟨b13,0,none⟩) 3 3,.slice A154 D.u.length c155],true⟩] rfl hs158 hst156
 have hU165:=hU157.move (Step.refl _ Nil) nilM (fun b_ o_ h_ hb_=>hl161 (G:=F) b_ o_ (.inr h_) hb_)
 refine ⟨_,rfl,fun a162 hE163=>?_⟩
 have hE164:=(EnvOk.places (tb':=[⟨b,o,[.string ((D.f 0).s),.pointer ((D.f 1).A),.pointer ((D.f 2).A),.map D.m],false⟩,⟨b5,0,[.int .i64 0,.slice none 0 0,.bool false,.slice none 0 0,.slice none 0 0],true⟩,⟨b13,0,[.int .i64 0,.slice (some ⟨b41,0,none⟩) ((sb ((D.f 0).s)).length) c42,.bool false,.slice none 0 0,.slice none 0 0,.int .i64 n72,.slice A77 s73.length c78,.bool b74,.slice A79 l75.length c80,.slice A81 u76.length c82,.int .i64 n116,.slice A121 s117.length c122,.bool b118,.slice A123 l119.length c124,.slice A125 u120.length c126],true⟩,⟨b23,0,[.int .i64 0,.slice none 0 0,.bool false,.slice (some ⟨b13,0,none⟩) 3 3,.slice A154 D.u.length c155],true⟩]) hE163 (show Pl [⟨b,o,[.string ((D.f 0).s),.pointer ((D.f 1).A),.pointer ((D.f 2).A),.map D.m],false⟩,⟨b5,0,[.int .i64 0,.slice none 0 0,.bool false,.slice none 0 0,.slice none 0 0],true⟩,⟨b13,0,[.int .i64 0,.slice (some ⟨b41,0,none⟩) ((sb ((D.f 0).s)).length) c42,.bool false,.slice none 0 0,.slice none 0 0,.int .i64 n72,.slice A77 s73.length c78,.bool b74,.slice A79 l75.length c80,.slice A81 u76.length c82,.int .i64 n116,.slice A121 s117.length c122,.bool b118,.slice A123 l119.length c124,.slice A125 u120.length c126],true⟩,⟨b23,0,[.int .i64 0,.slice none 0 0,.bool false,.slice (some ⟨b13,0,none⟩) 3 3,.slice none 0 0],true⟩] [⟨b,o,[.string ((D.f 0).s),.pointer ((D.f 1).A),.pointer ((D.f 2).A),.map D.m],false⟩,⟨b5,0,[.int .i64 0,.slice none 0 0,.bool false,.slice none 0 0,.slice none 0 0],true⟩,⟨b13,0,[.int .i64 0,.slice (some ⟨b41,0,none⟩) ((sb ((D.f 0).s)).length) c42,.bool false,.slice none 0 0,.slice none 0 0,.int .i64 n72,.slice A77 s73.length c78,.bool b74,.slice A79 l75.length c80,.slice A81 u76.length c82,.int .i64 n116,.slice A121 s117.length c122,.bool b118,.slice A123 l119.length c124,.slice A125 u120.length c126],true⟩,⟨b23,0,[.int .i64 0,.slice none 0 0,.bool false,.slice (some ⟨b13,0,none⟩) 3 3,.slice A154 D.u.length c155],true⟩] from ⟨rfl,rfl,⟨rfl,rfl,⟨rfl,rfl,⟨rfl,rfl,trivial⟩⟩⟩⟩)).pk (env':=[(35,.v (.tuple #[])),(2,.p 1 0),(3,.p 3 0),(33,.p 0 3),(34,.v (.func (.func 101) #[] #[.pointer (some ⟨b23,0,none⟩)]))])
 refine qae (qab ?_)
 refine qad [0,1,2] kz ?_
 refine qal [0,1] [2] [(2,.p 1 0),(3,.p 3 0),(37,.v (.slice A154 D.u.length c155))] hW159 hE164 fun a166 hE167=>?_
 refine qaj (qaq hE167 (f:=63) (vs:=[.slice A154 D.u.length c155]) (d:=38) kz Tryd.call63 (qgA hU165 g4.sorted) ?_)
 rintro e_ w169 ⟨rfl,hs168⟩
 refine ⟨_,rfl,fun a170 hE171=>?_⟩
 have hW172:=hW159.next_nil hs168
 have hF173:=hW159.frN hs168
 refine qae (qab ?_)
 refine qad [0,1] kz ?_
 refine qal [0] [1] [(2,.p 1 0),(39,.v (.agg #[.int .i64 0,.slice none 0 0,.bool false,.slice (some ⟨b13,0,none⟩) 3 3,.slice A154 D.u.length c155]))] hW172 hE171 fun a174 hE175=>?_
 refine qaj (qao hW172 hE175 (oi:=1) (cs:=[.int .i64 0,.slice none 0 0,.bool false,.slice (some ⟨b13,0,none⟩) 3 3,.slice A154 D.u.length c155]) kz fun w176 hF177 hW178 hE179=>?_)
 refine qae (qab ?_)
 refine wp_ret ?_
 refine qaQ hE179 hW178.cells (v:=.agg #[.int .i64 0,.slice none 0 0,.bool false,.slice (some ⟨b13,0,none⟩) 3 3,.slice A154 D.u.length c155]) kz ?_
 exact qfz (u:=D.u) (l:=[.mk 0 (sb (D.f 0).s) false [] [],qeQ (D.f 1).A (D.f 1).s,qeQ (D.f 2).A (D.f 2).s]) (css:=[[.int .i64 0,.slice (some ⟨b41,0,none⟩) ((sb ((D.f 0).s)).length) c42,.bool false,.slice none 0 0,.slice none 0 0],[.int .i64 n72,.slice A77 s73.length c78,.bool b74,.slice A79 l75.length c80,.slice A81 u76.length c82],[.int .i64 n116,.slice A121 s117.length c122,.bool b118,.slice A123 l119.length c124,.slice A125 u120.length c126]]) hW178 2 rfl ⟨(show TreeR _ (Imm F w w176 [⟨b,o,[.string ((D.f 0).s),.pointer ((D.f 1).A),.pointer ((D.f 2).A),.map D.m],false⟩,⟨b5,0,[.int .i64 0,.slice none 0 0,.bool false,.slice (some ⟨b13,0,none⟩) 3 3,.slice A154 D.u.length c155],true⟩,⟨b13,0,[.int .i64 0,.slice (some ⟨b41,0,none⟩) ((sb ((D.f 0).s)).length) c42,.bool false,.slice none 0 0,.slice none 0 0,.int .i64 n72,.slice A77 s73.length c78,.bool b74,.slice A79 l75.length c80,.slice A81 u76.length c82,.int .i64 n116,.slice A121 s117.length c122,.bool b118,.slice A123 l119.length c124,.slice A125 u120.length c126],true⟩,⟨b23,0,[.int .i64 0,.slice none 0 0,.bool false,.slice (some ⟨b13,0,none⟩) 3 3,.slice A154 D.u.length c155],true⟩] []) _ _ from (TreeR.mk (n:=0) (b:=false) (s:=(sb ((D.f 0).s))) (l:=[]) (u:=[]) (fun _=>[]) (hO49.move (((((((((hF58.trans hF62).trans hF95).trans hF102).trans hF106).trans hF139).trans hF146).trans hF160).trans hF173).trans hF177).step immM (((((((((hF58.trans hF62).trans hF95).trans hF102).trans hF106).trans hF139).trans hF146).trans hF160).trans hF173).trans hF177).to') (Slots.nil _ _ _ _) (fun i_ x_ h_=>by simp at h_) (TagsR.nil _ _))).move (Step.refl _ Nil) nilM qbg,(show TreeR _ (Imm F w w176 [⟨b,o,[.string ((D.f 0).s),.pointer ((D.f 1).A),.pointer ((D.f 2).A),.map D.m],false⟩,⟨b5,0,[.int .i64 0,.slice none 0 0,.bool false,.slice (some ⟨b13,0,none⟩) 3 3,.slice A154 D.u.length c155],true⟩,⟨b13,0,[.int .i64 0,.slice (some ⟨b41,0,none⟩) ((sb ((D.f 0).s)).length) c42,.bool false,.slice none 0 0,.slice none 0 0,.int .i64 n72,.slice A77 s73.length c78,.bool b74,.slice A79 l75.length c80,.slice A81 u76.length c82,.int .i64 n116,.slice A121 s117.length c122,.bool b118,.slice A123 l119.length c124,.slice A125 u120.length c126],true⟩,⟨b23,0,[.int .i64 0,.slice none 0 0,.bool false,.slice (some ⟨b13,0,none⟩) 3 3,.slice A154 D.u.length c155],true⟩] []) _ _ from (hr71.move ((((((hF102.trans hF106).trans hF139).trans hF146).trans hF160).trans hF173).trans hF177).step immM ((((((hF102.trans hF106).trans hF139).trans hF146).trans hF160).trans hF173).trans hF177).to')).move (Step.refl _ Nil) nilM qbg,(show TreeR _ (Imm F w w176 [⟨b,o,[.string ((D.f 0).s),.pointer ((D.f 1).A),.pointer ((D.f 2).A),.map D.m],false⟩,⟨b5,0,[.int .i64 0,.slice none 0 0,.bool false,.slice (some ⟨b13,0,none⟩) 3 3,.slice A154 D.u.length c155],true⟩,⟨b13,0,[.int .i64 0,.slice (some ⟨b41,0,none⟩) ((sb ((D.f 0).s)).length) c42,.bool false,.slice none 0 0,.slice none 0 0,.int .i64 n72,.slice A77 s73.length c78,.bool b74,.slice A79 l75.length c80,.slice A81 u76.length c82,.int .i64 n116,.slice A121 s117.length c122,.bool b118,.slice A123 l119.length c124,.slice A125 u120.length c126],true⟩,⟨b23,0,[.int .i64 0,.slice none 0 0,.bool false,.slice (some ⟨b13,0,none⟩) 3 3,.slice A154 D.u.length c155],true⟩] []) _ _ from (hr115.move (((hF146.trans hF160).trans hF173).trans hF177).step immM (((hF146.trans hF160).trans hF173).trans hF177).to')).move (Step.refl _ Nil) nilM qbg,trivial⟩ ((show TagsR _ (Imm F w w176 [⟨b,o,[.string ((D.f 0).s),.pointer ((D.f 1).A),.pointer ((D.f 2).A),.map D.m],false⟩,⟨b5,0,[.int .i64 0,.slice none 0 0,.bool false,.slice (some ⟨b13,0,none⟩) 3 3,.slice A154 D.u.length c155],true⟩,⟨b13,0,[.int .i64 0,.slice (some ⟨b41,0,none⟩) ((sb ((D.f 0).s)).length) c42,.bool false,.slice none 0 0,.slice none 0 0,.int .i64 n72,.slice A77 s73.length c78,.bool b74,.slice A79 l75.length c80,.slice A81 u76.length c82,.int .i64 n116,.slice A121 s117.length c122,.bool b118,.slice A123 l119.length c124,.slice A125 u120.length c126],true⟩,⟨b23,0,[.int .i64 0,.slice none 0 0,.bool false,.slice (some ⟨b13,0,none⟩) 3 3,.slice A154 D.u.length c155],true⟩] []) _ _ _ from (hU165.move (hF173.trans hF177).step immM (hF173.trans hF177).to')).move (Step.refl _ Nil) nilM qbg)
set_option maxHeartbeats 4000000 in
theorem qb5 (v:Int) (D:DV) (b o:Nat) (w:World) (F:Nat → Nat → Prop) (hat:AtF w F b o [.int .i16 v,.string ((D.f 0).s),.string ((D.f 1).s),.slice ((D.f 2).A) ((D.f 2).l) ((D.f 2).c),.map D.m]) (hok:qaX w F D):Calls Tryd.prog 42 #[.pointer (some ⟨b,o,none⟩)] w (qdt w F (qbb D)):=by
 refine enter (n:=90) Tryd.func42 rfl Tryd.ntmps42 kz fun a hE=>?_
 have hW:WOk w Nil w [⟨b,o,[.int .i16 v,.string ((D.f 0).s),.string ((D.f 1).s),.slice ((D.f 2).A) ((D.f 2).l) ((D.f 2).c),.map D.m],false⟩] []:=(WOk.start w Nil).start1 hat rfl rfl
 unfold qaX at hok
 obtain ⟨g1,g2,⟨g3,g3l,g3e⟩,g4,g4l,g4x,_⟩:=hok
 have hE0:=(EnvOk.ptr0 (cs:=[.int .i16 v,.string ((D.f 0).s),.string ((D.f 1).s),.slice ((D.f 2).A) ((D.f 2).l) ((D.f 2).c),.map D.m]) (r:=false) hE).pk (env':=[(0,.p 0 0)])
 refine qad [0] kz ?_
 refine qaj (qaA hW hE0 (d:=2) (cs:=[.int .i64 0,.slice none 0 0,.bool false,.slice none 0 0,.slice none 0 0]) kz fun b5 a6 w7 hb8 hz9 hF10 hW11 hE12=>?_)
 refine qae (qab ?_)
 refine qad [0,1,2,3] kz ?_
 refine qaj (qew (t:=23) (e:=26) (size:=5) (bytes:=88) (d:=5) (j:=3) (.agg #[.int .i64 0,.slice none 0 0,.bool false,.slice none 0 0,.slice none 0 0]) [.int .i64 0,.slice none 0 0,.bool false,.slice none 0 0,.slice none 0 0,.int .i64 0,.slice none 0 0,.bool false,.slice none 0 0,.slice none 0 0,.int .i64 0,.slice none 0 0,.bool false,.slice none 0 0,.slice none 0 0] hW11 hE12 fun b13 a14 w15 hb16 hz17 hF18 hW19 hE20=>?_)
 refine qal [1] [2,3] [(0,.p 0 0),(2,.p 1 0),(6,.v (.agg #[.int .i64 0,.slice none 0 0,.bool false,.slice (some ⟨b13,0,none⟩) 3 3,.slice none 0 0]))] hW19 hE20 fun a21 hE22=>?_
 refine qaj (qaA hW19 hE22 (d:=3) (cs:=[.int .i64 0,.slice none 0 0,.bool false,.slice none 0 0,.slice none 0 0]) kz fun b23 a24 w25 hb26 hz27 hF28 hW29 hE30=>?_)
 refine qaj (qao hW29 hE30 (oi:=3) (cs:=[.int .i64 0,.slice none 0 0,.bool false,.slice (some ⟨b13,0,none⟩) 3 3,.slice none 0 0]) kz fun w31 hF32 hW33 hE34=>?_)
 refine qae (qab ?_)
 refine qaU 9 kz hW33 fun w35 hF36 hW37 hT38=>?_
 refine qaJ [0,1,2,3,4,5] [(0,.p 0 0),(2,.p 1 0),(3,.p 3 0),(8,.v (.slice (some ⟨b13,0,none⟩) 3 3)),(12,.v (.string ((D.f 0).s)))] 4 (qac qah) (fun _ h=>h.cells) hT38 hE34 fun a39 hE40=>?_
 refine qaD (i:=6) kz (qdc (d:=13) (src:=9) (dst:=22) (e:=5) (s:=((D.f 0).s)) hW37 hE40 (by omega) fun b41 c42 a43 w44 hF45 hW46 hO47 hE48=>?_)
 have hO49:=hO47 F
 have hT50:=TT.ofW hF45 hW46
 refine ⟨fun _=>hT50,?_⟩
 refine qaJ [7] [(0,.p 0 0),(2,.p 1 0),(3,.p 3 0),(8,.v (.slice (some ⟨b13,0,none⟩) 3 3)),(14,.v (.agg #[.int .i64 0,.slice (some ⟨b41,0,none⟩) ((sb ((D.f 0).s)).length) c42,.bool false,.slice none 0 0,.slice none 0 0]))] 2 (qac qah) (fun _ h=>h.cells) hT50 hE48 fun a51 hE52=>?_
 refine qaE hE52 (i:=8) (t:=23) (A:=(some ⟨b13,0,none⟩)) (m:=3) (q:=0) (d:=15) kz (e:=26) (size:=5) (bytes:=88) (j:=0) kz (b:=b13) (o:=0) rfl rfl (by decide) kz kz (qac qah) hT50 fun a53 hE54=>?_
 have hE55:=hE54.recast 15 (.v (.pointer (some ⟨b13,0 + 0 * 5,none⟩))) (.p 2 0) rfl rfl (Nat.le_of_ble_eq_true (n:=3) rfl)
 have hE56:=hE55.pk (env':=[(0,.p 0 0),(2,.p 1 0),(3,.p 3 0),(8,.v (.slice (some ⟨b13,0,none⟩) 3 3)),(14,.v (.agg #[.int .i64 0,.slice (some ⟨b41,0,none⟩) ((sb ((D.f 0).s)).length) c42,.bool false,.slice none 0 0,.slice none 0 0])),(15,.p 2 0)])
 refine qaD (i:=9) kz (qao hW46 hE56 (oi:=2) (cs:=[.int .i64 0,.slice (some ⟨b41,0,none⟩) ((sb ((D.f 0).s)).length) c42,.bool false,.slice none 0 0,.slice none 0 0,.int .i64 0,.slice none 0 0,.bool false,.slice none 0 0,.slice none 0 0,.int .i64 0,.slice none 0 0,.bool false,.slice none 0 0,.slice none 0 0]) kz fun w57 hF58 hW59 hE60=>?_)
 refine ⟨fun h=>absurd rfl h,?_⟩
 refine qaR kz ?_ _
 refine qab ?_
 refine qaU 9 kz hW59 fun w61 hF62 hW63 hT64=>?_
 refine qaJ [0,1,2,3,4,5] [(0,.p 0 0),(2,.p 1 0),(3,.p 3 0),(17,.v (.slice (some ⟨b13,0,none⟩) 3 3)),(21,.v (.string ((D.f 1).s)))] 4 (qac qah) (fun _ h=>h.cells) hT64 hE60 fun a65 hE66=>?_
 refine qaD (i:=6) kz (qdc (d:=22) (src:=9) (dst:=22) (e:=5) (s:=((D.f 1).s)) hW63 hE66 (by omega) fun b67 c68 a69 w70 hF71 hW72 hO73 hE74=>?_)
 have hO75:=hO73 F
 have hT76:=TT.ofW hF71 hW72
 refine ⟨fun _=>hT76,?_⟩
 refine qaJ [7] [(0,.p 0 0),(2,.p 1 0),(3,.p 3 0),(17,.v (.slice (some ⟨b13,0,none⟩) 3 3)),(23,.v (.agg #[.int .i64 0,.slice (some ⟨b67,0,none⟩) ((sb ((D.f 1).s)).length) c68,.bool false,.slice none 0 0,.slice none 0 0]))] 2 (qac qah) (fun _ h=>h.cells) hT76 hE74 fun a77 hE78=>?_
 refine qaE hE78 (i:=8) (t:=23) (A:=(some ⟨b13,0,none⟩)) (m:=3) (q:=1) (d:=24) kz (e:=26) (size:=5) (bytes:=88) (j:=1) kz (b:=b13) (o:=0) rfl rfl (by decide) kz kz (qac qah) hT76 fun a79 hE80=>?_
 have hE81:=hE80.recast 24 (.v (.pointer (some ⟨b13,0 + 1 * 5,none⟩))) (.p 2 5) rfl rfl (Nat.le_of_ble_eq_true (n:=3) rfl)
 have hE82:=hE81.pk (env':=[(0,.p 0 0),(2,.p 1 0),(3,.p 3 0),(17,.v (.slice (some ⟨b13,0,none⟩) 3 3)),(23,.v (.agg #[.int .i64 0,.slice (some ⟨b67,0,none⟩) ((sb ((D.f 1).s)).length) c68,.bool false,.slice none 0 0,.slice none 0 0])),(24,.p 2 5)])
 refine qaD (i:=9) kz (qao hW72 hE82 (oi:=2) (cs:=[.int .i64 0,.slice (some ⟨b41,0,none⟩) ((sb ((D.f 0).s)).length) c42,.bool false,.slice none 0 0,.slice none 0 0,.int .i64 0,.slice (some ⟨b67,0,none⟩) ((sb ((D.f 1).s)).length) c68,.bool false,.slice none 0 0,.slice none 0 0,.int .i64 0,.slice none 0 0,.bool false,.slice none 0 0,.slice none 0 0]) kz fun w83 hF84 hW85 hE86=>?_)
 refine ⟨fun h=>absurd rfl h,?_⟩
 refine qaR kz ?_ _
 refine qab ?_
 refine qaU 9 kz hW85 fun w87 hF88 hW89 hT90=>?_
 refine qaJ [0,1,2,3,4,5,6] [(0,.p 0 0),(2,.p 1 0),(3,.p 3 0),(26,.v (.slice (some ⟨b13,0,none⟩) 3 3)),(31,.v (.bool (((D.f 2).A).isNone)))] 3 (qac qah) (fun _ h=>h.cells) hT90 hE86 fun a91 hE92=>?_
 refine qaD (i:=7) kz (qan hE92 (t:=23) (A:=(some ⟨b13,0,none⟩)) (m:=3) (q:=2) (d:=32) kz (e:=26) (size:=5) (bytes:=88) (j:=2) kz (b:=b13) (o:=0) rfl rfl (by decide) fun a93 hE94=>?_)
 have hE95:=hE94.recast 32 (.v (.pointer (some ⟨b13,0 + 2 * 5,none⟩))) (.p 2 10) rfl rfl (Nat.le_of_ble_eq_true (n:=3) rfl)
 have hE96:=hE95.pk (env':=[(0,.p 0 0),(2,.p 1 0),(3,.p 3 0),(26,.v (.slice (some ⟨b13,0,none⟩) 3 3)),(31,.v (.bool (((D.f 2).A).isNone))),(32,.p 2 10)])
 refine ⟨fun _=>hT90,?_⟩
 refine qaJ [8] [(0,.p 0 0),(2,.p 1 0),(3,.p 3 0),(31,.v (.bool (((D.f 2).A).isNone))),(33,.p 2 12)] 1 (qac qah) (fun _ h=>h.cells) hT90 hE96 fun a98 hE99=>?_
 refine qaD (i:=9) kz (qao hW89 hE99 (oi:=2) (cs:=[.int .i64 0,.slice (some ⟨b41,0,none⟩) ((sb ((D.f 0).s)).length) c42,.bool false,.slice none 0 0,.slice none 0 0,.int .i64 0,.slice (some ⟨b67,0,none⟩) ((sb ((D.f 1).s)).length) c68,.bool false,.slice none 0 0,.slice none 0 0,.int .i64 0,.slice none 0 0,.bool (((D.f 2).A).isNone),.slice none 0 0,.slice none 0 0]) kz fun w100 hF101 hW102 hE103=>?_)
 refine ⟨fun h=>absurd rfl h,?_⟩
 refine qaR kz ?_ _
 refine qab ?_
 refine wp_seq ?_
 refine qar [(0,.p 0 0),(2,.p 1 0),(3,.p 3 0),(38,.v (.int .i64 (((D.f 2).l:Nat):Int))),(39,.v (.int .i64 0))] hW102 hE103 fun a104 hE105=>?_
 refine wp_block ?_
 have hW106:=hW102.addNil 26 5
 have hF107:=hW102.frNil 26 5
 refine wp_loop_ghost (fun n_ a_ w_=>∃ (k2_:Nat) (A2_:Option Addr) (c2_:Nat) (xs2_:List Value) (css2_:List (List Value)),n_ = (D.f 2).l - k2_ ∧ k2_ ≤ (D.f 2).l ∧ (Trees w_ (Imm F w w_ [⟨b,o,[.int .i16 v,.string ((D.f 0).s),.string ((D.f 1).s),.slice ((D.f 2).A) ((D.f 2).l) ((D.f 2).c),.map D.m],false⟩,⟨b5,0,[.int .i64 0,.slice none 0 0,.bool false,.slice none 0 0,.slice none 0 0],true⟩,⟨b13,0,[.int .i64 0,.slice (some ⟨b41,0,none⟩) ((sb ((D.f 0).s)).length) c42,.bool false,.slice none 0 0,.slice none 0 0,.int .i64 0,.slice (some ⟨b67,0,none⟩) ((sb ((D.f 1).s)).length) c68,.bool false,.slice none 0 0,.slice none 0 0,.int .i64 0,.slice none 0 0,.bool (((D.f 2).A).isNone),.slice A2_ k2_ c2_,.slice none 0 0],true⟩,⟨b23,0,[.int .i64 0,.slice none 0 0,.bool false,.slice (some ⟨b13,0,none⟩) 3 3,.slice none 0 0],true⟩] [⟨A2_,c2_,26,5,k2_,xs2_⟩]) xs2_ (((List.range (D.f 2).l).map (fun i=>qaw ((D.f 2).f i))).take k2_) css2_) ∧ LInv hW106 90 [⟨b,o,[.int .i16 v,.string ((D.f 0).s),.string ((D.f 1).s),.slice ((D.f 2).A) ((D.f 2).l) ((D.f 2).c),.map D.m],false⟩,⟨b5,0,[.int .i64 0,.slice none 0 0,.bool false,.slice none 0 0,.slice none 0 0],true⟩,⟨b13,0,[.int .i64 0,.slice (some ⟨b41,0,none⟩) ((sb ((D.f 0).s)).length) c42,.bool false,.slice none 0 0,.slice none 0 0,.int .i64 0,.slice (some ⟨b67,0,none⟩) ((sb ((D.f 1).s)).length) c68,.bool false,.slice none 0 0,.slice none 0 0,.int .i64 0,.slice none 0 0,.bool (((D.f 2).A).isNone),.slice A2_ k2_ c2_,.slice none 0 0],true⟩,⟨b23,0,[.int .i64 0,.slice none 0 0,.bool false,.slice (some ⟨b13,0,none⟩) 3 3,.slice none 0 0],true⟩] [⟨A2_,c2_,26,5,k2_,xs2_⟩] [(0,.p 0 0),(2,.p 1 0),(3,.p 3 0),(38,.v (.int .i64 (((D.f 2).l:Nat):Int))),(39,.v (.int .i64 ((k2_:Nat):Int)))] a_ w_) ((D.f 2).l) ⟨0,none,0,[],[],by omega,by omega,Trees.nil _ _,hE105.pk,hW106,Fr.refl _ _ _⟩ ?_
 rintro n108 a109 w110 ⟨k2_,A2_,c2_,xs2_,css2_,hn113,hk114,hT2_,hE111,hW112,hF115⟩
 refine qar [(0,.p 0 0),(2,.p 1 0),(3,.p 3 0),(38,.v (.int .i64 (((D.f 2).l:Nat):Int))),(39,.v (.int .i64 ((k2_:Nat):Int))),(40,.v (.bool (decide (((k2_:Nat):Int) < (((D.f 2).l:Nat):Int)))))] hW112 hE111 fun a116 hE117=>?_
 refine wp_seq ?_
 refine qaM hE117 (b:=decide (((k2_:Nat):Int) < (((D.f 2).l:Nat):Int))) kz (fun hc118=>?_) (fun hc118=>?_)
 ·
  have hf119:=of_decide_eq_true hc118
  refine wp_skip ?_
  refine qab ?_
  refine wp_seq ?_
  refine wp_block ?_
  refine qar [(0,.p 0 0),(2,.p 1 0),(3,.p 3 0),(4,.v (.int .i64 ((k2_:Nat):Int))),(38,.v (.int .i64 (((D.f 2).l:Nat):Int))),(39,.v (.int .i64 ((k2_:Nat):Int)))] hW112 hE117 fun a120 hE121=>?_
  refine qaU 4 kz hW112 fun w122 hF123 hW124 hT125=>?_
  refine qaD (i:=0) kz (qaA hW124 hE121 (d:=42) (cs:=[.bool false]) kz fun b126 a127 w128 hb129 hz130 hF131 hW132 hE133=>?_)
  have hT134:=TT.ofW hF131 hW132
  refine ⟨fun _=>hT134,?_⟩
  refine qfA (i:=1) (j:=2) kz ?_ ?_
  ·
   refine (qao hW132 hE133 (oi:=4) (cs:=[.bool true]) kz fun w135 hF136 hW137 hE138=>?_)
   have hT139:=TT.ofW (hF131.trans hF136) hW137
   refine ⟨fun _=>hT139,?_⟩
   refine qaD (i:=2) kz (qao hW137 hE138 (oi:=4) (cs:=[.bool false]) kz fun w140 hF141 hW142 hE143=>?_)
   have hT144:=TT.ofW ((hF131.trans hF136).trans hF141) hW142
   refine ⟨fun _=>hT144,?_⟩
   refine qaD (i:=3) kz (qcx [0,2,3,4,38,39,43] hW142.cells hE143 (env':=[(0,.p 0 0),(2,.p 1 0),(3,.p 3 0),(4,.v (.int .i64 ((k2_:Nat):Int))),(38,.v (.int .i64 (((D.f 2).l:Nat):Int))),(39,.v (.int .i64 ((k2_:Nat):Int))),(43,.v (.bool false))]) kz fun a145 hE146=>?_)
   have hT147:=TT.ofW ((hF131.trans hF136).trans hF141) hW142
   refine ⟨fun _=>hT147,?_⟩
   refine qaR kz ?_ _
   refine qab ?_
   refine qam hE146 (b:=false) kz rfl ?_
   refine qdW 18 kz hW142 fun w148 hF149 hW150 hT151=>?_
   refine qaJ [0,1,2,3,7,8,9,10,11] [(0,.p 0 0),(2,.p 1 0),(3,.p 3 0),(38,.v (.int .i64 (((D.f 2).l:Nat):Int))),(39,.v (.int .i64 ((k2_:Nat):Int))),(63,.v (.slice (some ⟨b13,0,none⟩) 3 3)),(65,.v (.slice (some ⟨b13,0,none⟩) 3 3)),(72,.v (.slice ((D.f 2).A) ((D.f 2).l) ((D.f 2).c))),(73,.v (.int .i64 ((k2_:Nat):Int)))] 10 (qag (qac (qac (qag (qac qah))))) (fun _ h=>h.cells) hT151 hE146 fun a152 hE153=>?_
   refine qaE hE153 (i:=4) (t:=23) (A:=(some ⟨b13,0,none⟩)) (m:=3) (q:=2) (d:=66) kz (e:=26) (size:=5) (bytes:=88) (j:=2) kz (b:=b13) (o:=0) rfl rfl (by decide) kz kz (qag (qac (qac (qag (qac qah))))) hT151 fun a154 hE155=>?_
   have hE156:=hE155.recast 66 (.v (.pointer (some ⟨b13,0 + 2 * 5,none⟩))) (.p 2 10) rfl rfl (Nat.le_of_ble_eq_true (n:=3) rfl)
   have hE157:=hE156.pk (env':=[(0,.p 0 0),(2,.p 1 0),(3,.p 3 0),(38,.v (.int .i64 (((D.f 2).l:Nat):Int))),(39,.v (.int .i64 ((k2_:Nat):Int))),(63,.v (.slice (some ⟨b13,0,none⟩) 3 3)),(65,.v (.slice (some ⟨b13,0,none⟩) 3 3)),(72,.v (.slice ((D.f 2).A) ((D.f 2).l) ((D.f 2).c))),(73,.v (.int .i64 ((k2_:Nat):Int))),(66,.p 2 10)])
   refine qaJ [5,6] [(0,.p 0 0),(2,.p 1 0),(3,.p 3 0),(38,.v (.int .i64 (((D.f 2).l:Nat):Int))),(39,.v (.int .i64 ((k2_:Nat):Int))),(63,.v (.slice (some ⟨b13,0,none⟩) 3 3)),(68,.v (.slice A2_ k2_ c2_)),(72,.v (.slice ((D.f 2).A) ((D.f 2).l) ((D.f 2).c))),(73,.v (.int .i64 ((k2_:Nat):Int)))] 7 (qag (qac (qac (qag (qac qah))))) (fun _ h=>h.cells) hT151 hE157 fun a158 hE159=>?_
   obtain ⟨b160,o161,hA162,hl163,hat164⟩:=Slots.get g3 (i:=k2_) (by omega)
   refine qaE hE159 (i:=12) (t:=102) (A:=(D.f 2).A) (m:=((D.f 2).l)) (q:=((k2_:Nat):Int)) (d:=74) kz (e:=109) (size:=4) (bytes:=40) kz hA162 rfl (by omega) kz kz (qag (qac (qac (qag (qac qah))))) hT151 fun a165 hE166=>?_
   refine qaD (i:=13) kz (qaq hE166 (f:=66) (vs:=[.pointer (some ⟨b160,o161 + k2_ * 4,none⟩)]) (d:=75) kz Tryd.call66 (qbo 0 ((D.f 2).f k2_) _ _ _ _ (hat164.move hW150.step nilM hW150.imm) (qaK _ hW150.step nilM hW150.imm (g3e k2_ (by omega)))) ?_)
   rintro e_ w170 ⟨cs169,rfl,hr168,hs167⟩
   have hr171:=hr168.move (Step.refl _ Nil) nilM (hW150.laid (G:=F) hs167)
   obtain ⟨n172,s173,b174,l175,u176,A177,c178,A179,c180,A181,c182,xs183,ht189,hcs184,h185,h186,h187,h188⟩:=hr171.open_
   rw [hcs184] at hr171
   have hsm190:=h185.small
   have hsm191:=h186.small
   rw [hcs184]
   refine ⟨_,rfl,fun a192 hE193=>?_⟩
   have hW194:=hW150.next_nil hs167
   have hF195:=hW150.frN hs167
   have hT196:=TT.ofW hF195 hW194
   refine ⟨fun _=>hT196,?_⟩
   refine qaD (i:=14) kz (qc9 hW194 hE193 (e:=26) (size:=5) (len:=1) (cs:=[.int .i64 n172,.slice A177 s173.length c178,.bool b174,.slice A179 l175.length c180,.slice A181 u176.length c182]) (d:=76) kz kz fun b197 a198 w199 hb200 hz201 hF202 hW203 hE204=>?_)
   have hT205:=TT.ofW (hF195.trans hF202) hW203
   refine ⟨fun _=>hT205,?_⟩
   refine qaD (i:=15) kz (qa5 hW203 hE204 (k:=0) (d:=77) (t:=23) (e:=26) (size:=5) (bytes:=88) (A:=A2_) (As:=(some ⟨b197,0,none⟩)) (m0:=k2_) (c:=c2_) (m:=1) (cs:=1) (xs:=xs2_) (news:=[.int .i64 n172,.slice A177 s173.length c178,.bool b174,.slice A179 l175.length c180,.slice A181 u176.length c182]) kz kz rfl (qcS (hW203.own 1 _ rfl) (qbG kz)) (qdG (hW203.own 1 _ rfl)) (by omega) fun A206 c207 a208 w209 hF210 hW211 hE212=>?_)
   have hT213:=TT.ofW ((hF195.trans hF202).trans hF210) hW211
   refine ⟨fun _=>hT213,?_⟩
   refine qaD (i:=16) kz (qan hE212 (t:=23) (A:=(some ⟨b13,0,none⟩)) (m:=3) (q:=2) (d:=78) kz (e:=26) (size:=5) (bytes:=88) (j:=2) kz (b:=b13) (o:=0) rfl rfl (by decide) fun a214 hE215=>?_)
   have hE216:=hE215.recast 78 (.v (.pointer (some ⟨b13,0 + 2 * 5,none⟩))) (.p 2 10) rfl rfl (Nat.le_of_ble_eq_true (n:=3) rfl)
   have hE217:=hE216.pk (env':=[(0,.p 0 0),(2,.p 1 0),(3,.p 3 0),(38,.v (.int .i64 (((D.f 2).l:Nat):Int))),(39,.v (.int .i64 ((k2_:Nat):Int))),(63,.v (.slice (some ⟨b13,0,none⟩) 3 3)),(68,.v (.slice A2_ k2_ c2_)),(72,.v (.slice ((D.f 2).A) ((D.f 2).l) ((D.f 2).c))),(73,.v (.int .i64 ((k2_:Nat):Int))),(74,.v (.pointer (some ⟨b160,o161 + k2_ * 4,none⟩))),(75,.v (.agg #[.int .i64 n172,.slice A177 s173.length c178,.bool b174,.slice A179 l175.length c180,.slice A181 u176.length c182])),(76,.v (.slice (some ⟨b197,0,none⟩) 1 1)),(77,.v (.slice A206 (k2_ + 1) c207)),(78,.p 2 10)])
   have hT218:=TT.ofW ((hF195.trans hF202).trans hF210) hW211
   refine ⟨fun _=>hT218,?_⟩
   refine qaJ [17] [(0,.p 0 0),(2,.p 1 0),(3,.p 3 0),(38,.v (.int .i64 (((D.f 2).l:Nat):Int))),(39,.v (.int .i64 ((k2_:Nat):Int))),(77,.v (.slice A206 (k2_ + 1) c207)),(79,.p 2 13)] 1 (qag (qac (qac (qag (qac qah))))) (fun _ h=>h.cells) hT218 hE217 fun a219 hE220=>?_
   refine qaD (i:=18) kz (qao hW211 hE220 (oi:=2) (cs:=[.int .i64 0,.slice (some ⟨b41,0,none⟩) ((sb ((D.f 0).s)).length) c42,.bool false,.slice none 0 0,.slice none 0 0,.int .i64 0,.slice (some ⟨b67,0,none⟩) ((sb ((D.f 1).s)).length) c68,.bool false,.slice none 0 0,.slice none 0 0,.int .i64 0,.slice none 0 0,.bool (((D.f 2).A).isNone),.slice A206 (k2_ + 1) c207,.slice none 0 0]) kz fun w221 hF222 hW223 hE224=>?_)
   refine ⟨fun h=>absurd rfl h,?_⟩
   refine qaR kz ?_ _
   refine qaT ?_
   refine qab ?_
   refine qay [0,1] kz ?_
   refine qal [0,1] [] [(0,.p 0 0),(2,.p 1 0),(3,.p 3 0),(38,.v (.int .i64 (((D.f 2).l:Nat):Int))),(39,.v (.int .i64 (IntKind.i64.wrap (((k2_:Nat):Int) + 1))))] hW223 hE224 fun a225 hE226=>?_
   refine qae (qab ?_)
   obtain ⟨hE227,hW228,hF229⟩:=hW223.cutB hE226 4 [⟨b,o,[.int .i16 v,.string ((D.f 0).s),.string ((D.f 1).s),.slice ((D.f 2).A) ((D.f 2).l) ((D.f 2).c),.map D.m],false⟩,⟨b5,0,[.int .i64 0,.slice none 0 0,.bool false,.slice none 0 0,.slice none 0 0],true⟩,⟨b13,0,[.int .i64 0,.slice (some ⟨b41,0,none⟩) ((sb ((D.f 0).s)).length) c42,.bool false,.slice none 0 0,.slice none 0 0,.int .i64 0,.slice (some ⟨b67,0,none⟩) ((sb ((D.f 1).s)).length) c68,.bool false,.slice none 0 0,.slice none 0 0,.int .i64 0,.slice none 0 0,.bool (((D.f 2).A).isNone),.slice A206 (k2_ + 1) c207,.slice none 0 0],true⟩,⟨b23,0,[.int .i64 0,.slice none 0 0,.bool false,.slice (some ⟨b13,0,none⟩) 3 3,.slice none 0 0],true⟩] [(0,.p 0 0),(2,.p 1 0),(3,.p 3 0),(38,.v (.int .i64 (((D.f 2).l:Nat):Int))),(39,.v (.int .i64 (IntKind.i64.wrap (((k2_:Nat):Int) + 1))))]
   obtain ⟨hW230,hF231⟩:=hW228.cutR 1 [⟨A206,c207,26,5,k2_ + 1,xs2_ ++ [.int .i64 n172,.slice A177 s173.length c178,.bool b174,.slice A179 l175.length c180,.slice A181 u176.length c182]⟩]
   have he232:IntKind.i64.wrap (((k2_:Nat):Int) + 1) = ((k2_ + 1:Nat):Int):=qbA (by omega)
   rw [he232] at hE227
   exact ⟨(D.f 2).l - (k2_ + 1),by omega,k2_ + 1,A206,c207,xs2_ ++ [Value.int .i64 n172,.slice A177 s173.length c178,.bool b174,.slice A179 l175.length c180,.slice A181 u176.length c182],(css2_ ++ [[Value.int .i64 n172,.slice A177 s173.length c178,.bool b174,.slice A179 l175.length c180,.slice A181 u176.length c182]]),rfl,by omega,by rw [qdO (by omega)]; exact (hT2_.move ((((((((((hF123.trans hF131).trans hF136).trans hF141).trans hF149).trans hF195).trans hF202).trans hF210).trans hF222).trans hF229).trans hF231).step immM ((((((((((hF123.trans hF131).trans hF136).trans hF141).trans hF149).trans hF195).trans hF202).trans hF210).trans hF222).trans hF229).trans hF231).to').snoc (x:=(fun i=>qaw ((D.f 2).f i)) k2_) (hr171.move ((((hF202.trans hF210).trans hF222).trans hF229).trans hF231).step immM ((((hF202.trans hF210).trans hF222).trans hF229).trans hF231).to'),hE227.pk,hW230,(((((((((((hF115.trans hF123).trans hF131).trans hF136).trans hF141).trans hF149).trans hF195).trans hF202).trans hF210).trans hF222).trans hF229).trans hF231)⟩
  refine (qao hW132 hE133 (oi:=4) (cs:=[.bool false]) kz fun w233 hF234 hW235 hE236=>?_)
  have hT237:=TT.ofW (hF131.trans hF234) hW235
  refine ⟨fun _=>hT237,?_⟩
  refine qaD (i:=1) kz (qao hW235 hE236 (oi:=4) (cs:=[.bool true]) kz fun w238 hF239 hW240 hE241=>?_)
  have hT242:=TT.ofW ((hF131.trans hF234).trans hF239) hW240
  refine ⟨fun _=>hT242,?_⟩
  refine qaD (i:=3) kz (qcx [0,2,3,4,38,39,43] hW240.cells hE241 (env':=[(0,.p 0 0),(2,.p 1 0),(3,.p 3 0),(4,.v (.int .i64 ((k2_:Nat):Int))),(38,.v (.int .i64 (((D.f 2).l:Nat):Int))),(39,.v (.int .i64 ((k2_:Nat):Int))),(43,.v (.bool true))]) kz fun a243 hE244=>?_)
  have hT245:=TT.ofW ((hF131.trans hF234).trans hF239) hW240
  refine ⟨fun _=>hT245,?_⟩
  refine qaR kz ?_ _
  refine qab ?_
  refine qaI hE244 (b:=true) kz rfl ?_
  refine qaU 17 kz hW240 fun w246 hF247 hW248 hT249=>?_
  refine qaJ [0,1,5,6,7,8,9] [(0,.p 0 0),(2,.p 1 0),(3,.p 3 0),(38,.v (.int .i64 (((D.f 2).l:Nat):Int))),(39,.v (.int .i64 ((k2_:Nat):Int))),(45,.v (.slice (some ⟨b13,0,none⟩) 3 3)),(52,.v (.slice ((D.f 2).A) ((D.f 2).l) ((D.f 2).c))),(53,.v (.int .i64 ((k2_:Nat):Int)))] 11 (qac (qag (qac (qac (qag (qac qah)))))) (fun _ h=>h.cells) hT249 hE244 fun a250 hE251=>?_
  refine qaE hE251 (i:=2) (t:=23) (A:=(some ⟨b13,0,none⟩)) (m:=3) (q:=2) (d:=46) kz (e:=26) (size:=5) (bytes:=88) (j:=2) kz (b:=b13) (o:=0) rfl rfl (by decide) kz kz (qac (qag (qac (qac (qag (qac qah)))))) hT249 fun a252 hE253=>?_
  have hE254:=hE253.recast 46 (.v (.pointer (some ⟨b13,0 + 2 * 5,none⟩))) (.p 2 10) rfl rfl (Nat.le_of_ble_eq_true (n:=3) rfl)
  have hE255:=hE254.pk (env':=[(0,.p 0 0),(2,.p 1 0),(3,.p 3 0),(38,.v (.int .i64 (((D.f 2).l:Nat):Int))),(39,.v (.int .i64 ((k2_:Nat):Int))),(45,.v (.slice (some ⟨b13,0,none⟩) 3 3)),(52,.v (.slice ((D.f 2).A) ((D.f 2).l) ((D.f 2).c))),(53,.v (.int .i64 ((k2_:Nat):Int))),(46,.p 2 10)])
  refine qaJ [3,4,12] [(0,.p 0 0),(2,.p 1 0),(3,.p 3 0),(38,.v (.int .i64 (((D.f 2).l:Nat):Int))),(39,.v (.int .i64 ((k2_:Nat):Int))),(45,.v (.slice (some ⟨b13,0,none⟩) 3 3)),(48,.v (.slice A2_ k2_ c2_)),(52,.v (.slice ((D.f 2).A) ((D.f 2).l) ((D.f 2).c))),(53,.v (.int .i64 ((k2_:Nat):Int))),(56,.v (.int .i64 ((k2_:Nat):Int)))] 7 (qac (qag (qac (qac (qag (qac qah)))))) (fun _ h=>h.cells) hT249 hE255 fun a256 hE257=>?_
  obtain ⟨b258,o259,hA260,hl261,hat262⟩:=Slots.get g3 (i:=k2_) (by omega)
  refine qaE hE257 (i:=10) (t:=102) (A:=(D.f 2).A) (m:=((D.f 2).l)) (q:=((k2_:Nat):Int)) (d:=54) kz (e:=109) (size:=4) (bytes:=40) kz hA260 rfl (by omega) kz kz (qac (qag (qac (qac (qag (qac qah)))))) hT249 fun a263 hE264=>?_
  refine qfA (i:=11) (j:=13) kz ?_ ?_
  ·
   refine (qaq hE264 (f:=66) (vs:=[.pointer (some ⟨b258,o259 + k2_ * 4,none⟩)]) (d:=55) kz Tryd.call66 (qbo 0 ((D.f 2).f k2_) _ _ _ _ (hat262.move hW248.step nilM hW248.imm) (qaK _ hW248.step nilM hW248.imm (g3e k2_ (by omega)))) ?_)
   rintro e_ w268 ⟨cs267,rfl,hr266,hs265⟩
   have hr269:=hr266.move (Step.refl _ Nil) nilM (hW248.laid (G:=F) hs265)
   obtain ⟨n270,s271,b272,l273,u274,A275,c276,A277,c278,A279,c280,xs281,ht287,hcs282,h283,h284,h285,h286⟩:=hr269.open_
   rw [hcs282] at hr269
   have hsm288:=h283.small
   have hsm289:=h284.small
   rw [hcs282]
   refine ⟨_,rfl,fun a290 hE291=>?_⟩
   have hW292:=hW248.next_nil hs265
   have hF293:=hW248.frN hs265
   have hT294:=TT.ofW hF293 hW292
   refine ⟨fun _=>hT294,?_⟩
   refine qaD (i:=13) kz (qc9 hW292 hE291 (e:=26) (size:=5) (len:=1) (cs:=[.int .i64 0,.slice none 0 0,.bool false,.slice none 0 0,.slice none 0 0]) (d:=57) kz kz fun b295 a296 w297 hb298 hz299 hF300 hW301 hE302=>?_)
   have hT303:=TT.ofW (hF293.trans hF300) hW301
   refine ⟨fun _=>hT303,?_⟩
   refine qaD (i:=14) kz (qa5 hW301 hE302 (k:=0) (d:=58) (t:=23) (e:=26) (size:=5) (bytes:=88) (A:=A2_) (As:=(some ⟨b295,0,none⟩)) (m0:=k2_) (c:=c2_) (m:=1) (cs:=1) (xs:=xs2_) (news:=[.int .i64 0,.slice none 0 0,.bool false,.slice none 0 0,.slice none 0 0]) kz kz rfl (qcS (hW301.own 1 _ rfl) (qbG kz)) (qdG (hW301.own 1 _ rfl)) (by omega) fun A304 c305 a306 w307 hF308 hW309 hE310=>?_)
   have hT311:=TT.ofW ((hF293.trans hF300).trans hF308) hW309
   refine ⟨fun _=>hT311,?_⟩
   refine qaD (i:=15) kz (qan hE310 (t:=23) (A:=(some ⟨b13,0,none⟩)) (m:=3) (q:=2) (d:=59) kz (e:=26) (size:=5) (bytes:=88) (j:=2) kz (b:=b13) (o:=0) rfl rfl (by decide) fun a312 hE313=>?_)
   have hE314:=hE313.recast 59 (.v (.pointer (some ⟨b13,0 + 2 * 5,none⟩))) (.p 2 10) rfl rfl (Nat.le_of_ble_eq_true (n:=3) rfl)
   have hE315:=hE314.pk (env':=[(0,.p 0 0),(2,.p 1 0),(3,.p 3 0),(38,.v (.int .i64 (((D.f 2).l:Nat):Int))),(39,.v (.int .i64 ((k2_:Nat):Int))),(45,.v (.slice (some ⟨b13,0,none⟩) 3 3)),(48,.v (.slice A2_ k2_ c2_)),(52,.v (.slice ((D.f 2).A) ((D.f 2).l) ((D.f 2).c))),(53,.v (.int .i64 ((k2_:Nat):Int))),(56,.v (.int .i64 ((k2_:Nat):Int))),(54,.v (.pointer (some ⟨b258,o259 + k2_ * 4,none⟩))),(55,.v (.agg #[.int .i64 n270,.slice A275 s271.length c276,.bool b272,.slice A277 l273.length c278,.slice A279 u274.length c280])),(57,.v (.slice (some ⟨b295,0,none⟩) 1 1)),(58,.v (.slice A304 (k2_ + 1) c305)),(59,.p 2 10)])
   have hT316:=TT.ofW ((hF293.trans hF300).trans hF308) hW309
   refine ⟨fun _=>hT316,?_⟩
   refine qaJ [16] [(0,.p 0 0),(2,.p 1 0),(3,.p 3 0),(38,.v (.int .i64 (((D.f 2).l:Nat):Int))),(39,.v (.int .i64 ((k2_:Nat):Int))),(55,.v (.agg #[.int .i64 n270,.slice A275 s271.length c276,.bool b272,.slice A277 l273.length c278,.slice A279 u274.length c280])),(56,.v (.int .i64 ((k2_:Nat):Int))),(58,.v (.slice A304 (k2_ + 1) c305)),(60,.p 2 13)] 1 (qac (qag (qac (qac (qag (qac qah)))))) (fun _ h=>h.cells) hT316 hE315 fun a317 hE318=>?_
   refine qaD (i:=17) kz (qao hW309 hE318 (oi:=2) (cs:=[.int .i64 0,.slice (some ⟨b41,0,none⟩) ((sb ((D.f 0).s)).length) c42,.bool false,.slice none 0 0,.slice none 0 0,.int .i64 0,.slice (some ⟨b67,0,none⟩) ((sb ((D.f 1).s)).length) c68,.bool false,.slice none 0 0,.slice none 0 0,.int .i64 0,.slice none 0 0,.bool (((D.f 2).A).isNone),.slice A304 (k2_ + 1) c305,.slice none 0 0]) kz fun w319 hF320 hW321 hE322=>?_)
   refine ⟨fun h=>absurd rfl h,?_⟩
   refine qaR kz ?_ _
   refine qab ?_
   refine qay [0,1] kz ?_
   have ho325:World.ownsRow w319 0 26 5 (.slice A304 (k2_ + 1) c305) (k2_ + 1) (xs2_ ++ [.int .i64 0,.slice none 0 0,.bool false,.slice none 0 0,.slice none 0 0]):=hW321.own 0 _ rfl
   obtain ⟨g323,hA324⟩:=qeE ho325 (by omega)
   refine qaj (qan hE322 (t:=23) (A:=A304) (m:=(k2_ + 1)) (q:=((k2_:Nat):Int)) (d:=61) kz (e:=26) (size:=5) (bytes:=88) kz (b:=g323) (o:=0) (j:=k2_) hA324 (rfl) (by omega) fun a326 hE327=>?_)
   refine qaj (qec hW321 hE327 (k:=0) (g:=g323) (o:=k2_ * 5) (c:=c305) (m:=(k2_ + 1)) (size:=5) (e:=26) (A:=A304) (xs:=(xs2_ ++ [.int .i64 0,.slice none 0 0,.bool false,.slice none 0 0,.slice none 0 0])) (vs:=[.int .i64 n270,.slice A275 s271.length c276,.bool b272,.slice A277 l273.length c278,.slice A279 u274.length c280]) kz rfl hA324 (by simp only [List.length_cons,List.length_nil]; omega) fun w328 hF329 hW330 hE331=>?_)
   have er332:(⟨A304,c305,26,5,k2_ + 1,qbO (xs2_ ++ [.int .i64 0,.slice none 0 0,.bool false,.slice none 0 0,.slice none 0 0]) (k2_ * 5) [.int .i64 n270,.slice A275 s271.length c276,.bool b272,.slice A277 l273.length c278,.slice A279 u274.length c280]⟩:Rw) = ⟨A304,c305,26,5,k2_ + 1,xs2_ ++ [.int .i64 n270,.slice A275 s271.length c276,.bool b272,.slice A277 l273.length c278,.slice A279 u274.length c280]⟩:=by rw [qej (by rw [hT2_.xslen,List.length_take,qdB]; omega)]
   obtain ⟨hW333,hF335⟩:=hW330.rowEq 0 [⟨A304,c305,26,5,k2_ + 1,xs2_ ++ [.int .i64 n270,.slice A275 s271.length c276,.bool b272,.slice A277 l273.length c278,.slice A279 u274.length c280]⟩,⟨some ⟨b295,0,none⟩,1,26,5,1,[.int .i64 0,.slice none 0 0,.bool false,.slice none 0 0,.slice none 0 0]⟩] er332
   refine qae ?_
   refine qaT ?_
   refine qab ?_
   refine qay [0,1] kz ?_
   refine qal [0,1] [] [(0,.p 0 0),(2,.p 1 0),(3,.p 3 0),(38,.v (.int .i64 (((D.f 2).l:Nat):Int))),(39,.v (.int .i64 (IntKind.i64.wrap (((k2_:Nat):Int) + 1))))] hW333 hE331 fun a336 hE337=>?_
   refine qae (qab ?_)
   obtain ⟨hE338,hW339,hF340⟩:=hW333.cutB hE337 4 [⟨b,o,[.int .i16 v,.string ((D.f 0).s),.string ((D.f 1).s),.slice ((D.f 2).A) ((D.f 2).l) ((D.f 2).c),.map D.m],false⟩,⟨b5,0,[.int .i64 0,.slice none 0 0,.bool false,.slice none 0 0,.slice none 0 0],true⟩,⟨b13,0,[.int .i64 0,.slice (some ⟨b41,0,none⟩) ((sb ((D.f 0).s)).length) c42,.bool false,.slice none 0 0,.slice none 0 0,.int .i64 0,.slice (some ⟨b67,0,none⟩) ((sb ((D.f 1).s)).length) c68,.bool false,.slice none 0 0,.slice none 0 0,.int .i64 0,.slice none 0 0,.bool (((D.f 2).A).isNone),.slice A304 (k2_ + 1) c305,.slice none 0 0],true⟩,⟨b23,0,[.int .i64 0,.slice none 0 0,.bool false,.slice (some ⟨b13,0,none⟩) 3 3,.slice none 0 0],true⟩] [(0,.p 0 0),(2,.p 1 0),(3,.p 3 0),(38,.v (.int .i64 (((D.f 2).l:Nat):Int))),(39,.v (.int .i64 (IntKind.i64.wrap (((k2_:Nat):Int) + 1))))]
   obtain ⟨hW341,hF342⟩:=hW339.cutR 1 [⟨A304,c305,26,5,k2_ + 1,xs2_ ++ [.int .i64 n270,.slice A275 s271.length c276,.bool b272,.slice A277 l273.length c278,.slice A279 u274.length c280]⟩]
   have he343:IntKind.i64.wrap (((k2_:Nat):Int) + 1) = ((k2_ + 1:Nat):Int):=qbA (by omega)
   rw [he343] at hE338
   exact ⟨(D.f 2).l - (k2_ + 1),by omega,k2_ + 1,A304,c305,xs2_ ++ [Value.int .i64 n270,.slice A275 s271.length c276,.bool b272,.slice A277 l273.length c278,.slice A279 u274.length c280],(css2_ ++ [[Value.int .i64 n270,.slice A275 s271.length c276,.bool b272,.slice A277 l273.length c278,.slice A279 u274.length c280]]),rfl,by omega,by rw [qdO (by omega)]; exact (hT2_.move ((((((((((((hF123.trans hF131).trans hF234).trans hF239).trans hF247).trans hF293).trans hF300).trans hF308).trans hF320).trans hF329).trans hF335).trans hF340).trans hF342).step immM ((((((((((((hF123.trans hF131).trans hF234).trans hF239).trans hF247).trans hF293).trans hF300).trans hF308).trans hF320).trans hF329).trans hF335).trans hF340).trans hF342).to').snoc (x:=(fun i=>qaw ((D.f 2).f i)) k2_) (hr269.move ((((((hF300.trans hF308).trans hF320).trans hF329).trans hF335).trans hF340).trans hF342).step immM ((((((hF300.trans hF308).trans hF320).trans hF329).trans hF335).trans hF340).trans hF342).to'),hE338.pk,hW341,(((((((((((((hF115.trans hF123).trans hF131).trans hF234).trans hF239).trans hF247).trans hF293).trans hF300).trans hF308).trans hF320).trans hF329).trans hF335).trans hF340).trans hF342)⟩
  refine (qc9 hW248 hE264 (e:=26) (size:=5) (len:=1) (cs:=[.int .i64 0,.slice none 0 0,.bool false,.slice none 0 0,.slice none 0 0]) (d:=57) kz kz fun b344 a345 w346 hb347 hz348 hF349 hW350 hE351=>?_)
  have hT352:=TT.ofW hF349 hW350
  refine ⟨fun _=>hT352,?_⟩
  refine qaD (i:=11) kz (qaq hE351 (f:=66) (vs:=[.pointer (some ⟨b258,o259 + k2_ * 4,none⟩)]) (d:=55) kz Tryd.call66 (qbo 0 ((D.f 2).f k2_) _ _ _ _ (hat262.move hW350.step nilM hW350.imm) (qaK _ hW350.step nilM hW350.imm (g3e k2_ (by omega)))) ?_)
  rintro e_ w356 ⟨cs355,rfl,hr354,hs353⟩
  have hr357:=hr354.move (Step.refl _ Nil) nilM (hW350.laid (G:=F) hs353)
  obtain ⟨n358,s359,b360,l361,u362,A363,c364,A365,c366,A367,c368,xs369,ht375,hcs370,h371,h372,h373,h374⟩:=hr357.open_
  rw [hcs370] at hr357
  have hsm376:=h371.small
  have hsm377:=h372.small
  rw [hcs370]
  refine ⟨_,rfl,fun a378 hE379=>?_⟩
  have hW380:=hW350.next_nil hs353
  have hF381:=hW350.frN hs353
  have hT382:=TT.ofW (hF349.trans hF381) hW380
  refine ⟨fun _=>hT382,?_⟩
  refine qaD (i:=14) kz (qa5 hW380 hE379 (k:=0) (d:=58) (t:=23) (e:=26) (size:=5) (bytes:=88) (A:=A2_) (As:=(some ⟨b344,0,none⟩)) (m0:=k2_) (c:=c2_) (m:=1) (cs:=1) (xs:=xs2_) (news:=[.int .i64 0,.slice none 0 0,.bool false,.slice none 0 0,.slice none 0 0]) kz kz rfl (qcS (hW380.own 1 _ rfl) (qbG kz)) (qdG (hW380.own 1 _ rfl)) (by omega) fun A383 c384 a385 w386 hF387 hW388 hE389=>?_)
  have hT390:=TT.ofW ((hF349.trans hF381).trans hF387) hW388
  refine ⟨fun _=>hT390,?_⟩
  refine qaD (i:=15) kz (qan hE389 (t:=23) (A:=(some ⟨b13,0,none⟩)) (m:=3) (q:=2) (d:=59) kz (e:=26) (size:=5) (bytes:=88) (j:=2) kz (b:=b13) (o:=0) rfl rfl (by decide) fun a391 hE392=>?_)
  have hE393:=hE392.recast 59 (.v (.pointer (some ⟨b13,0 + 2 * 5,none⟩))) (.p 2 10) rfl rfl (Nat.le_of_ble_eq_true (n:=3) rfl)
  have hE394:=hE393.pk (env':=[(0,.p 0 0),(2,.p 1 0),(3,.p 3 0),(38,.v (.int .i64 (((D.f 2).l:Nat):Int))),(39,.v (.int .i64 ((k2_:Nat):Int))),(45,.v (.slice (some ⟨b13,0,none⟩) 3 3)),(48,.v (.slice A2_ k2_ c2_)),(52,.v (.slice ((D.f 2).A) ((D.f 2).l) ((D.f 2).c))),(53,.v (.int .i64 ((k2_:Nat):Int))),(56,.v (.int .i64 ((k2_:Nat):Int))),(54,.v (.pointer (some ⟨b258,o259 + k2_ * 4,none⟩))),(57,.v (.slice (some ⟨b344,0,none⟩) 1 1)),(55,.v (.agg #[.int .i64 n358,.slice A363 s359.length c364,.bool b360,.slice A365 l361.length c366,.slice A367 u362.length c368])),(58,.v (.slice A383 (k2_ + 1) c384)),(59,.p 2 10)])
  have hT395:=TT.ofW ((hF349.trans hF381).trans hF387) hW388
  refine ⟨fun _=>hT395,?_⟩
  refine qaJ [16] [(0,.p 0 0),(2,.p 1 0),(3,.p 3 0),(38,.v (.int .i64 (((D.f 2).l:Nat):Int))),(39,.v (.int .i64 ((k2_:Nat):Int))),(55,.v (.agg #[.int .i64 n358,.slice A363 s359.length c364,.bool b360,.slice A365 l361.length c366,.slice A367 u362.length c368])),(56,.v (.int .i64 ((k2_:Nat):Int))),(58,.v (.slice A383 (k2_ + 1) c384)),(60,.p 2 13)] 1 (qac (qag (qac (qac (qag (qac qah)))))) (fun _ h=>h.cells) hT395 hE394 fun a396 hE397=>?_
  refine qaD (i:=17) kz (qao hW388 hE397 (oi:=2) (cs:=[.int .i64 0,.slice (some ⟨b41,0,none⟩) ((sb ((D.f 0).s)).length) c42,.bool false,.slice none 0 0,.slice none 0 0,.int .i64 0,.slice (some ⟨b67,0,none⟩) ((sb ((D.f 1).s)).length) c68,.bool false,.slice none 0 0,.slice none 0 0,.int .i64 0,.slice none 0 0,.bool (((D.f 2).A).isNone),.slice A383 (k2_ + 1) c384,.slice none 0 0]) kz fun w398 hF399 hW400 hE401=>?_)
  refine ⟨fun h=>absurd rfl h,?_⟩
  refine qaR kz ?_ _
  refine qab ?_
  refine qay [0,1] kz ?_
  have ho404:World.ownsRow w398 0 26 5 (.slice A383 (k2_ + 1) c384) (k2_ + 1) (xs2_ ++ [.int .i64 0,.slice none 0 0,.bool false,.slice none 0 0,.slice none 0 0]):=hW400.own 0 _ rfl
  obtain ⟨g402,hA403⟩:=qeE ho404 (by omega)
  refine qaj (qan hE401 (t:=23) (A:=A383) (m:=(k2_ + 1)) (q:=((k2_:Nat):Int)) (d:=61) kz (e:=26) (size:=5) (bytes:=88) kz (b:=g402) (o:=0) (j:=k2_) hA403 (rfl) (by omega) fun a405 hE406=>?_)
  refine qaj (qec hW400 hE406 (k:=0) (g:=g402) (o:=k2_ * 5) (c:=c384) (m:=(k2_ + 1)) (size:=5) (e:=26) (A:=A383) (xs:=(xs2_ ++ [.int .i64 0,.slice none 0 0,.bool false,.slice none 0 0,.slice none 0 0])) (vs:=[.int .i64 n358,.slice A363 s359.length c364,.bool b360,.slice A365 l361.length c366,.slice A367 u362.length c368]) kz rfl hA403 (by simp only [List.length_cons,List.length_nil]; omega) fun w407 hF408 hW409 hE410=>?_)
  have er411:(⟨A383,c384,26,5,k2_ + 1,qbO (xs2_ ++ [.int .i64 0,.slice none 0 0,.bool false,.slice none 0 0,.slice none 0 0]) (k2_ * 5) [.int .i64 n358,.slice A363 s359.length c364,.bool b360,.slice A365 l361.length c366,.slice A367 u362.length c368]⟩:Rw) = ⟨A383,c384,26,5,k2_ + 1,xs2_ ++ [.int .i64 n358,.slice A363 s359.length c364,.bool b360,.slice A365 l361.length c366,.slice A367 u362.length c368]⟩:=by rw [qej (by rw [hT2_.xslen,List.length_take,qdB]; omega)]
  obtain ⟨hW412,hF414⟩:=hW409.rowEq 0 [⟨A383,c384,26,5,k2_ + 1,xs2_ ++ [.int .i64 n358,.slice A363 s359.length c364,.bool b360,.slice A365 l361.length c366,.slice A367 u362.length c368]⟩,⟨some ⟨b344,0,none⟩,1,26,5,1,[.int .i64 0,.slice none 0 0,.bool false,.slice none 0 0,.slice none 0 0]⟩] er411
  refine qae ?_
  refine qaT ?_
  refine qab ?_
  refine qay [0,1] kz ?_
  refine qal [0,1] [] [(0,.p 0 0),(2,.p 1 0),(3,.p 3 0),(38,.v (.int .i64 (((D.f 2).l:Nat):Int))),(39,.v (.int .i64 (IntKind.i64.wrap (((k2_:Nat):Int) + 1))))] hW412 hE410 fun a415 hE416=>?_
  refine qae (qab ?_)
  obtain ⟨hE417,hW418,hF419⟩:=hW412.cutB hE416 4 [⟨b,o,[.int .i16 v,.string ((D.f 0).s),.string ((D.f 1).s),.slice ((D.f 2).A) ((D.f 2).l) ((D.f 2).c),.map D.m],false⟩,⟨b5,0,[.int .i64 0,.slice none 0 0,.bool false,.slice none 0 0,.slice none 0 0],true⟩,⟨b13,0,[.int .i64 0,.slice (some ⟨b41,0,none⟩) ((sb ((D.f 0).s)).length) c42,.bool false,.slice none 0 0,.slice none 0 0,.int .i64 0,.slice (some ⟨b67,0,none⟩) ((sb ((D.f 1).s)).length) c68,.bool false,.slice none 0 0,.slice none 0 0,.int .i64 0,.slice none 0 0,.bool (((D.f 2).A).isNone),.slice A383 (k2_ + 1) c384,.slice none 0 0],true⟩,⟨b23,0,[.int .i64 0,.slice none 0 0,.bool false,.slice (some ⟨b13,0,none⟩) 3 3,.slice none 0 0],true⟩] [(0,.p 0 0),(2,.p 1 0),(3,.p 3 0),(38,.v (.int .i64 (((D.f 2).l:Nat):Int))),(39,.v (.int .i64 (IntKind.i64.wrap (((k2_:Nat):Int) + 1))))]
  obtain ⟨hW420,hF421⟩:=hW418.cutR 1 [⟨A383,c384,26,5,k2_ + 1,xs2_ ++ [.int .i64 n358,.slice A363 s359.length c364,.bool b360,.slice A365 l361.length c366,.slice A367 u362.length c368]⟩]
  have he422:IntKind.i64.wrap (((k2_:Nat):Int) + 1) = ((k2_ + 1:Nat):Int):=qbA (by omega)
  rw [he422] at hE417
  exact ⟨(D.f 2).l - (k2_ + 1),by omega,k2_ + 1,A383,c384,xs2_ ++ [Value.int .i64 n358,.slice A363 s359.length c364,.bool b360,.slice A365 l361.length c366,.slice A367 u362.length c368],(css2_ ++ [[Value.int .i64 n358,.slice A363 s359.length c364,.bool b360,.slice A365 l361.length c366,.slice A367 u362.length c368]]),rfl,by omega,by rw [qdO (by omega)]; exact (hT2_.move ((((((((((((hF123.trans hF131).trans hF234).trans hF239).trans hF247).trans hF349).trans hF381).trans hF387).trans hF399).trans hF408).trans hF414).trans hF419).trans hF421).step immM ((((((((((((hF123.trans hF131).trans hF234).trans hF239).trans hF247).trans hF349).trans hF381).trans hF387).trans hF399).trans hF408).trans hF414).trans hF419).trans hF421).to').snoc (x:=(fun i=>qaw ((D.f 2).f i)) k2_) (hr357.move (((((hF387.trans hF399).trans hF408).trans hF414).trans hF419).trans hF421).step immM (((((hF387.trans hF399).trans hF408).trans hF414).trans hF419).trans hF421).to'),hE417.pk,hW420,(((((((((((((hF115.trans hF123).trans hF131).trans hF234).trans hF239).trans hF247).trans hF349).trans hF381).trans hF387).trans hF399).trans hF408).trans hF414).trans hF419).trans hF421)⟩
 have hf423:=of_decide_eq_false hc118
 refine wp_exit ?_
 refine qaL ?_
 refine qaL ?_
 refine qa9 ?_
 refine qab ?_
 refine qad [0,1,2,3,4] kz ?_
 refine qal [0,1,2] [3,4] [(2,.p 1 0),(3,.p 3 0),(83,.p 0 4)] hW112 hE117 fun a424 hE425=>?_
 refine qaj (qeF hE425 (v:=.func (.func 67) #[] #[.pointer (some ⟨b23,0,none⟩)]) (d:=84) kz fun a426 hE427=>?_)
 refine qaj (qaq hE427 (f:=61) (vs:=[.pointer (some ⟨b,o + 4,none⟩),.func (.func 67) #[] #[.pointer (some ⟨b23,0,none⟩)]]) (d:=85) kz Tryd.call61 (qe2 (F:=(Imm F w w110 [⟨b,o,[.int .i16 v,.string ((D.f 0).s),.string ((D.f 1).s),.slice ((D.f 2).A) ((D.f 2).l) ((D.f 2).c),.map D.m],false⟩,⟨b5,0,[.int .i64 0,.slice none 0 0,.bool false,.slice none 0 0,.slice none 0 0],true⟩,⟨b13,0,[.int .i64 0,.slice (some ⟨b41,0,none⟩) ((sb ((D.f 0).s)).length) c42,.bool false,.slice none 0 0,.slice none 0 0,.int .i64 0,.slice (some ⟨b67,0,none⟩) ((sb ((D.f 1).s)).length) c68,.bool false,.slice none 0 0,.slice none 0 0,.int .i64 0,.slice none 0 0,.bool (((D.f 2).A).isNone),.slice A2_ k2_ c2_,.slice none 0 0],true⟩,⟨b23,0,[.int .i64 0,.slice none 0 0,.bool false,.slice (some ⟨b13,0,none⟩) 3 3,.slice none 0 0],true⟩] [⟨A2_,c2_,26,5,k2_,xs2_⟩])) Tryd.call67 qde ((hat.one 4 rfl).move hW112.step nilM hW112.imm) (g4.move hW112.step nilM hW112.imm) (Str.of hW112 3 rfl) (qfV 3 rfl) g4l) ?_)
 rintro e_ w428 ⟨rfl,A429,c430,hst431,hU432,hs433⟩
 obtain ⟨hW434,hF435,hl436⟩:=hW112.wrote 3 [⟨b,o,[.int .i16 v,.string ((D.f 0).s),.string ((D.f 1).s),.slice ((D.f 2).A) ((D.f 2).l) ((D.f 2).c),.map D.m],false⟩,⟨b5,0,[.int .i64 0,.slice none 0 0,.bool false,.slice none 0 0,.slice none 0 0],true⟩,⟨b13,0,[.int .i64 0,.slice (some ⟨b41,0,none⟩) ((sb ((D.f 0).s)).length) c42,.bool false,.slice none 0 0,.slice none 0 0,.int .i64 0,.slice (some ⟨b67,0,none⟩) ((sb ((D.f 1).s)).length) c68,.bool false,.slice none 0 0,.slice none 0 0,.int .i64 0,.slice none 0 0,.bool (((D.f 2).A).isNone),.slice A2_ k2_ c2_,.slice none 0 0],true⟩,⟨b23,0,[.int .i64 0,.slice none 0 0,.bool false,.slice (some ⟨b13,0,none⟩) 3 3,.slice A429 D.u.length c430],true⟩] rfl hs433 hst431
 have hU440:=hU432.move (Step.refl _ Nil) nilM (fun b_ o_ h_ hb_=>hl436 (G:=F) b_ o_ (.inr h_) hb_)
 refine ⟨_,rfl,fun a437 hE438=>?_⟩
 have hE439:=(EnvOk.places (tb':=[⟨b,o,[.int .i16 v,.string ((D.f 0).s),.string ((D.f 1).s),.slice ((D.f 2).A) ((D.f 2).l) ((D.f 2).c),.map D.m],false⟩,⟨b5,0,[.int .i64 0,.slice none 0 0,.bool false,.slice none 0 0,.slice none 0 0],true⟩,⟨b13,0,[.int .i64 0,.slice (some ⟨b41,0,none⟩) ((sb ((D.f 0).s)).length) c42,.bool false,.slice none 0 0,.slice none 0 0,.int .i64 0,.slice (some ⟨b67,0,none⟩) ((sb ((D.f 1).s)).length) c68,.bool false,.slice none 0 0,.slice none 0 0,.int .i64 0,.slice none 0 0,.bool (((D.f 2).A).isNone),.slice A2_ k2_ c2_,.slice none 0 0],true⟩,⟨b23,0,[.int .i64 0,.slice none 0 0,.bool false,.slice (some ⟨b13,0,none⟩) 3 3,.slice A429 D.u.length c430],true⟩]) hE438 (show Pl [⟨b,o,[.int .i16 v,.string ((D.f 0).s),.string ((D.f 1).s),.slice ((D.f 2).A) ((D.f 2).l) ((D.f 2).c),.map D.m],false⟩,⟨b5,0,[.int .i64 0,.slice none 0 0,.bool false,.slice none 0 0,.slice none 0 0],true⟩,⟨b13,0,[.int .i64 0,.slice (some ⟨b41,0,none⟩) ((sb ((D.f 0).s)).length) c42,.bool false,.slice none 0 0,.slice none 0 0,.int .i64 0,.slice (some ⟨b67,0,none⟩) ((sb ((D.f 1).s)).length) c68,.bool false,.slice none 0 0,.slice none 0 0,.int .i64 0,.slice none 0 0,.bool (((D.f 2).A).isNone),.slice A2_ k2_ c2_,.slice none 0 0],true⟩,⟨b23,0,[.int .i64 0,.slice none 0 0,.bool false,.slice (some ⟨b13,0,none⟩) 3 3,.slice none 0 0],true⟩] [⟨b,o,[.int .i16 v,.string ((D.f 0).s),.string ((D.f 1).s),.slice ((D.f 2).A) ((D.f 2).l) ((D.f 2).c),.map D.m],false⟩,⟨b5,0,[.int .i64 0,.slice none 0 0,.bool false,.slice none 0 0,.slice none 0 0],true⟩,⟨b13,0,[.int .i64 0,.slice (some ⟨b41,0,none⟩) ((sb ((D.f 0).s)).length) c42,.bool false,.slice none 0 0,.slice none 0 0,.int .i64 0,.slice (some ⟨b67,0,none⟩) ((sb ((D.f 1).s)).length) c68,.bool false,.slice none 0 0,.slice none 0 0,.int .i64 0,.slice none 0 0,.bool (((D.f 2).A).isNone),.slice A2_ k2_ c2_,.slice none 0 0],true⟩,⟨b23,0,[.int .i64 0,.slice none 0 0,.bool false,.slice (some ⟨b13,0,none⟩) 3 3,.slice A429 D.u.length c430],true⟩] from ⟨rfl,rfl,⟨rfl,rfl,⟨rfl,rfl,⟨rfl,rfl,trivial⟩⟩⟩⟩)).pk (env':=[(85,.v (.tuple #[])),(2,.p 1 0),(3,.p 3 0),(83,.p 0 4),(84,.v (.func (.func 67) #[] #[.pointer (some ⟨b23,0,none⟩)]))])
 refine qae (qab ?_)
 refine qad [0,1,2] kz ?_
 refine qal [0,1] [2] [(2,.p 1 0),(3,.p 3 0),(87,.v (.slice A429 D.u.length c430))] hW434 hE439 fun a441 hE442=>?_
 refine qaj (qaq hE442 (f:=63) (vs:=[.slice A429 D.u.length c430]) (d:=88) kz Tryd.call63 (qgA hU440 g4.sorted) ?_)
 rintro e_ w444 ⟨rfl,hs443⟩
 refine ⟨_,rfl,fun a445 hE446=>?_⟩
 have hW447:=hW434.next_nil hs443
 have hF448:=hW434.frN hs443
 refine qae (qab ?_)
 refine qad [0,1] kz ?_
 refine qal [0] [1] [(2,.p 1 0),(89,.v (.agg #[.int .i64 0,.slice none 0 0,.bool false,.slice (some ⟨b13,0,none⟩) 3 3,.slice A429 D.u.length c430]))] hW447 hE446 fun a449 hE450=>?_
 refine qaj (qao hW447 hE450 (oi:=1) (cs:=[.int .i64 0,.slice none 0 0,.bool false,.slice (some ⟨b13,0,none⟩) 3 3,.slice A429 D.u.length c430]) kz fun w451 hF452 hW453 hE454=>?_)
 refine qae (qab ?_)
 refine wp_ret ?_
 refine qaQ hE454 hW453.cells (v:=.agg #[.int .i64 0,.slice none 0 0,.bool false,.slice (some ⟨b13,0,none⟩) 3 3,.slice A429 D.u.length c430]) kz ?_
 have hT455:=(hT2_.move ((hF435.trans hF448).trans hF452).step immM ((hF435.trans hF448).trans hF452).to')
 rw [qhe (by omega)] at hT455
 exact qfz (u:=D.u) (l:=[.mk 0 (sb (D.f 0).s) false [] [],.mk 0 (sb (D.f 1).s) false [] [],.mk 0 [] (D.f 2).A.isNone ((List.range (D.f 2).l).map fun i=>qaw ((D.f 2).f i)) []]) (css:=[[.int .i64 0,.slice (some ⟨b41,0,none⟩) ((sb ((D.f 0).s)).length) c42,.bool false,.slice none 0 0,.slice none 0 0],[.int .i64 0,.slice (some ⟨b67,0,none⟩) ((sb ((D.f 1).s)).length) c68,.bool false,.slice none 0 0,.slice none 0 0],[.int .i64 0,.slice none 0 0,.bool (((D.f 2).A).isNone),.slice A2_ k2_ c2_,.slice none 0 0]]) hW453 2 rfl ⟨(show TreeR _ (Imm F w w451 [⟨b,o,[.int .i16 v,.string ((D.f 0).s),.string ((D.f 1).s),.slice ((D.f 2).A) ((D.f 2).l) ((D.f 2).c),.map D.m],false⟩,⟨b5,0,[.int .i64 0,.slice none 0 0,.bool false,.slice (some ⟨b13,0,none⟩) 3 3,.slice A429 D.u.length c430],true⟩,⟨b13,0,[.int .i64 0,.slice (some ⟨b41,0,none⟩) ((sb ((D.f 0).s)).length) c42,.bool false,.slice none 0 0,.slice none 0 0,.int .i64 0,.slice (some ⟨b67,0,none⟩) ((sb ((D.f 1).s)).length) c68,.bool false,.slice none 0 0,.slice none 0 0,.int .i64 0,.slice none 0 0,.bool (((D.f 2).A).isNone),.slice A2_ k2_ c2_,.slice none 0 0],true⟩,⟨b23,0,[.int .i64 0,.slice none 0 0,.bool false,.slice (some ⟨b13,0,none⟩) 3 3,.slice A429 D.u.length c430],true⟩] [⟨A2_,c2_,26,5,k2_,xs2_⟩]) _ _ from (TreeR.mk (n:=0) (b:=false) (s:=(sb ((D.f 0).s))) (l:=[]) (u:=[]) (fun _=>[]) (hO49.move ((((((((((hF58.trans hF62).trans hF71).trans hF84).trans hF88).trans hF101).trans hF107).trans hF115).trans hF435).trans hF448).trans hF452).step immM ((((((((((hF58.trans hF62).trans hF71).trans hF84).trans hF88).trans hF101).trans hF107).trans hF115).trans hF435).trans hF448).trans hF452).to') (Slots.nil _ _ _ _) (fun i_ x_ h_=>by simp at h_) (TagsR.nil _ _))).move (Step.refl _ Nil) nilM qbg,(show TreeR _ (Imm F w w451 [⟨b,o,[.int .i16 v,.string ((D.f 0).s),.string ((D.f 1).s),.slice ((D.f 2).A) ((D.f 2).l) ((D.f 2).c),.map D.m],false⟩,⟨b5,0,[.int .i64 0,.slice none 0 0,.bool false,.slice (some ⟨b13,0,none⟩) 3 3,.slice A429 D.u.length c430],true⟩,⟨b13,0,[.int .i64 0,.slice (some ⟨b41,0,none⟩) ((sb ((D.f 0).s)).length) c42,.bool false,.slice none 0 0,.slice none 0 0,.int .i64 0,.slice (some ⟨b67,0,none⟩) ((sb ((D.f 1).s)).length) c68,.bool false,.slice none 0 0,.slice none 0 0,.int .i64 0,.slice none 0 0,.bool (((D.f 2).A).isNone),.slice A2_ k2_ c2_,.slice none 0 0],true⟩,⟨b23,0,[.int .i64 0,.slice none 0 0,.bool false,.slice (some ⟨b13,0,none⟩) 3 3,.slice A429 D.u.length c430],true⟩] [⟨A2_,c2_,26,5,k2_,xs2_⟩]) _ _ from (TreeR.mk (n:=0) (b:=false) (s:=(sb ((D.f 1).s))) (l:=[]) (u:=[]) (fun _=>[]) (hO75.move (((((((hF84.trans hF88).trans hF101).trans hF107).trans hF115).trans hF435).trans hF448).trans hF452).step immM (((((((hF84.trans hF88).trans hF101).trans hF107).trans hF115).trans hF435).trans hF448).trans hF452).to') (Slots.nil _ _ _ _) (fun i_ x_ h_=>by simp at h_) (TagsR.nil _ _))).move (Step.refl _ Nil) nilM qbg,qgy hW453 (k:=0) rfl hT455 (by rw [qdB]; omega) (by rw [qdB]; omega),trivial⟩ ((show TagsR _ (Imm F w w451 [⟨b,o,[.int .i16 v,.string ((D.f 0).s),.string ((D.f 1).s),.slice ((D.f 2).A) ((D.f 2).l) ((D.f 2).c),.map D.m],false⟩,⟨b5,0,[.int .i64 0,.slice none 0 0,.bool false,.slice (some ⟨b13,0,none⟩) 3 3,.slice A429 D.u.length c430],true⟩,⟨b13,0,[.int .i64 0,.slice (some ⟨b41,0,none⟩) ((sb ((D.f 0).s)).length) c42,.bool false,.slice none 0 0,.slice none 0 0,.int .i64 0,.slice (some ⟨b67,0,none⟩) ((sb ((D.f 1).s)).length) c68,.bool false,.slice none 0 0,.slice none 0 0,.int .i64 0,.slice none 0 0,.bool (((D.f 2).A).isNone),.slice A2_ k2_ c2_,.slice none 0 0],true⟩,⟨b23,0,[.int .i64 0,.slice none 0 0,.bool false,.slice (some ⟨b13,0,none⟩) 3 3,.slice A429 D.u.length c430],true⟩] [⟨A2_,c2_,26,5,k2_,xs2_⟩]) _ _ _ from (hU440.move (hF448.trans hF452).step immM (hF448.trans hF452).to')).move (Step.refl _ Nil) nilM qbg)
end Go.Proofs.YtajibgahdkllkaaDoorR.ME
namespace Go.Proofs.YtajibgahdkllkaaDoorR.ME
open Go
open Go.RowKit
set_option linter.unusedVariables false
set_option linter.unusedSimpArgs false
set_option maxRecDepth 20000
structure UTR (w w':World) (br p2 p3:Nat) (F:Nat → Nat → Prop) (A:Option Addr) (n c:Nat) (σ:Sg) (m:Option Nat) (u:List (Int × Bs)):Prop where
 step:Step w w' (RdM br)
 old:br < w.heap.size
 new2:w.heap.size ≤ p2
 new3:w.heap.size ≤ p3
 ne:p2 ≠ p3
 rd:Str w' br [.slice A n c,.bool σ.1]
 s2:Str w' p2 [.map none]
 s3:Str w' p3 [.map m]
 oct:RdS w' (fun b o=>F b o ∧ b < w.heap.size) A n c σ.2
 own:OwnM w' (fun b o=>F b o ∧ b < w.heap.size) m u
 new:∀ r,m = some r → w.heap.size ≤ r
theorem UTR.mne {w w':World} {br p2 p3:Nat} {F:Nat → Nat → Prop} {A:Option Addr} {n c:Nat} {s:Sg} {m:Option Nat} {u:List (Int × Bs)} (h:UTR w w' br p2 p3 F A n c s m u):m ≠ some p2 ∧ m ≠ some p3:=by
 refine ⟨fun e=>?_,fun e=>?_⟩
 ·obtain ⟨es,clk,h1,_⟩:=h.own.some_ p2 e
  exact qdH (h.s2.at_ 0 _ rfl) h1 rfl
 obtain ⟨es,clk,h1,_⟩:=h.own.some_ p3 e
 exact qdH (h.s3.at_ 0 _ rfl) h1 rfl
theorem UTR.read {w w' w1:World} {br p2 p3:Nat} {F:Nat → Nat → Prop} {A A':Option Addr} {n c n' c':Nat} {s s':Sg} {m:Option Nat} {u:List (Int × Bs)} (h:UTR w w' br p2 p3 F A n c s m u) (hFd:∀ b o,F b o → ¬ RdM br b o) (hs:Str w1 br [.slice A' n' c',.bool s'.1]) (hr:RdS w1 (fun b o=>F b o ∧ b < w.heap.size) A' n' c' s'.2) (hst:Step w' w1 (RdM br)):UTR w w1 br p2 p3 F A' n' c' s' m u:=by
 have ho:=h.old
 have h2:=h.new2
 have h3:=h.new3
 refine ⟨h.step.trans hst fun _ _ _ e=>e,ho,h2,h3,h.ne,hs,h.s2.move hst fun o e=>?_,h.s3.move hst fun o e=>?_,hr,h.own.move hst (fun b o hg _=>hFd b o hg.1) qaF (fun r o e he=>?_),h.new⟩
 ·have:=e.1; omega
 ·have:=e.1; omega
 have:=h.new r e; have:=he.1; omega
theorem UTR.set {w w':World} {br p2 p3:Nat} {F:Nat → Nat → Prop} {A A1:Option Addr} {n c c1:Nat} {s:Sg} {x:Bs} {k:Int} {m:Option Nat} {u:List (Int × Bs)} (h:UTR w w' br p2 p3 F A n c s m u) (hx:Octs w' (fun b o=>F b o ∧ b < w.heap.size) A1 c1 x) (hk:0 ≤ k ∧ k < 4294967296) :
  Calls Tryd.prog 111 [.pointer (some ⟨p3,0,none⟩),.int .u32 k,.slice A1 x.length c1].toArray w' (fun e w1=>e = .returned (.tuple #[]) ∧ ∃ r,UTR w w1 br p2 p3 F A n c s (some r) (setT u k x)):=by
 have hcell:w'.cell? ⟨p3,0,none⟩ = some (.map m):=h.s3.at_ 0 _ rfl
 have hfz:w'.frozen? ⟨p3,0,none⟩ = false:=h.s3.frz 0 (by simp)
 have hnew:=h.new
 have h2:=h.new2
 have h3:=h.new3
 have ho:=h.old
 have hsz:=h.step.size
 obtain ⟨m2,m3⟩:=h.mne
 refine (qgU hcell hfz h.own hx hk (fun b' o' hg=>⟨fun e=>?_,fun e=>?_⟩) (fun b' o' hg=>Nat.lt_of_lt_of_le hg.2 hsz)).mono ?_
 ·have:=hg.2; omega
 ·have:=hnew b' e; have:=hg.2; omega
 rintro e w1 ⟨rfl,r,g1,g2,g3,g4,g5⟩
 refine ⟨rfl,r,h.step.trans g5 fun b o hl e=>?_,ho,h2,h3,h.ne,h.rd.move g5 fun o e=>?_,h.s2.move g5 fun o e=>?_,⟨fun i v hi=>?_,fun i hi=>?_⟩,⟨h.oct.len,Octs.move h.oct.oct g5 (fun b o hg _ e=>?_) qaF⟩,g3,fun r' hr'=>?_⟩
 ·rcases e with ⟨e1,_⟩ | e1
  ·omega
  have:=hnew b e1; omega
 ·rcases e with ⟨e1,_⟩ | e1
  ·omega
  have:=hnew br e1; omega
 ·rcases e with ⟨e1,_⟩ | e1
  ·exact h.ne e1
  exact m2 e1
 ·cases i with
  | zero =>
   simp only [List.getElem?_cons_zero,Option.some.injEq] at hi
   subst hi
   exact g1
  | succ i=>simp at hi
 ·have:i = 0:=by simp at hi; omega
  subst this
  exact g2
 ·have:=hg.2
  rcases e with ⟨e1,_⟩ | e1
  ·omega
  have:=hnew b e1; omega
 obtain rfl:=Option.some.inj hr'
 rcases g4 with g4 | g4
 ·exact hnew _ g4
 exact Nat.le_trans hsz g4
theorem qhf (σ:Sg) {br:Nat} {A:Option Addr} {m c:Nat} {w:World} {F:Nat → Nat → Prop} (hst:Str w br [.slice A m c,.bool σ.1]) (hr:RdS w F A m c σ.2) (hFd:∀ b o,F b o → ¬ RdM br b o) :
  Calls Tryd.prog 91 #[.pointer (some ⟨br,0,none⟩)] w (RdPostT w br (Fp F w) (qfi σ) fun v w'=>∃ mm,v = .agg #[.map mm] ∧ MapR w' (Fp F w) mm (qdK σ)):=by
 have hbr:br < w.heap.size:=World.lt_of_cell (hst.at_ 0 _ rfl)
 refine enter (n:=24) (vs:=[.pointer (some ⟨br,0,none⟩)]) Tryd.func91 rfl Tryd.ntmps91 kz fun a hE=>?_
 have hW:=WOk.start w Nil
 refine qad [0] kz ?_
 refine qaj (qaA hW hE (d:=2) (cs:=[.map none]) kz fun p2 a1 w1 hp2 hz2 hF1 hW1 hE1=>qae (qab ?_))
 refine qad [0] kz ?_
 refine qaj (qaA hW1 hE1 (d:=3) (cs:=[.map none]) kz fun p3 a2 w2 hp3 hz3 hF2 hW2 hE2=>qae (qab ?_))
 have hne:p2 ≠ p3:=by
  have h1:=hW1.live 0 _ rfl
  simp only at h1
  omega
 have hS:Step w w2 Nil:=hW2.step
 have hT0:UTR w w2 br p2 p3 F A m c σ none []:=by
  refine ⟨hS.mono fun _ _ _ h=>h.elim,hbr,hz2,hz3,hne,hst.move hS (fun _ h=>h),Str.of hW2 0 rfl,Str.of hW2 1 rfl,hr.move hS nilM (fun b o h hb=>⟨h,hb⟩),?_,fun _ h=>by cases h⟩
  exact OwnM.nil _ _
 refine wp_seq ?_
 have hE3:=(((hE2.recast 2 (.p 0 0) (.v (.pointer (some ⟨p2,0,none⟩))) rfl rfl trivial).recast 3 (.p 1 0) (.v (.pointer (some ⟨p3,0,none⟩))) rfl rfl trivial).pick (ks:=[0,2,3]) (env':=[(0,.v (.pointer (some ⟨br,0,none⟩))),(2,.v (.pointer (some ⟨p2,0,none⟩))),(3,.v (.pointer (some ⟨p3,0,none⟩)))]) kz).cutTb 0 kz
 have hWz:=WOk.start w2 Nil
 refine qad [0,1,2] kz ?_
 refine qal [0] [1,2] [(0,.v (.pointer (some ⟨br,0,none⟩))),(2,.v (.pointer (some ⟨p2,0,none⟩))),(3,.v (.pointer (some ⟨p3,0,none⟩))),(7,.v (.pointer (some ⟨br,0,none⟩)))] hWz hE3 fun a3 hE4=>?_
 have hFd':∀ b o,(F b o ∧ b < w.heap.size) → ¬ RdM br b o:=fun b o h=>hFd b o h.1
 refine qaj (qaq hE4 (f:=110) (vs:=[.pointer (some ⟨br,0,none⟩)]) (d:=8) kz Tryd.call110 (qdA σ hT0.rd hT0.oct hFd') ?_)
 rintro e_ w3 ⟨_,A3,n3,c3,rfl,hs3,hr3,hst3,rfl⟩
 have hT1:=hT0.read hFd hs3 hr3 hst3
 refine ⟨_,rfl,fun a4 hE5=>?_⟩
 refine qal [2] [] [(0,.v (.pointer (some ⟨br,0,none⟩))),(2,.v (.pointer (some ⟨p2,0,none⟩))),(3,.v (.pointer (some ⟨p3,0,none⟩))),(4,.v (.int .u32 ((uUv σ:Nat):Int)))] (WOk.start w3 Nil) hE5 fun a5 hE6=>qae (qab ?_)
 refine wp_block ?_
 refine wp_loop_ghost (fun q a_ w_=>∃ (p:Nat) (u_:List (Int × Bs)) (σ_:Sg) (m_:Option Nat) (A_:Option Addr) (n_ c_:Nat),q = p ∧ p < 4294967296 ∧ qek p u_ σ_ = qek (uUv σ) [] (aUv σ) ∧ qdg u_ ∧ (∀ x ∈ u_,0 ≤ x.1 ∧ x.1 < 4294967296) ∧ EnvOk 24 [] [(0,.v (.pointer (some ⟨br,0,none⟩))),(2,.v (.pointer (some ⟨p2,0,none⟩))),(3,.v (.pointer (some ⟨p3,0,none⟩))),(4,.v (.int .u32 ((p:Nat):Int)))] a_ ∧ UTR w w_ br p2 p3 F A_ n_ c_ σ_ m_ u_) (uUv σ)
  ⟨uUv σ,[],aUv σ,none,A3,n3,c3,rfl,qbx σ,rfl,List.Pairwise.nil,(fun x hx=>by cases hx),hE6,hT1⟩ ?_
 rintro q aq wq ⟨p,u,σ_,m_,A_,n_,c_,rfl,hplt,htg,hsort,hk,hEq,hT⟩
 have hWq:=WOk.start wq Nil
 refine wp_seq (qar [(0,.v (.pointer (some ⟨br,0,none⟩))),(2,.v (.pointer (some ⟨p2,0,none⟩))),(3,.v (.pointer (some ⟨p3,0,none⟩))),(4,.v (.int .u32 ((q:Nat):Int))),(10,.v (.bool (decide (((q:Nat):Int) > 0))))] hWq hEq fun aq1 hE7=>?_)
 refine qaM hE7 (b:=decide (((q:Nat):Int) > 0)) kz (fun hc=>?_) (fun hc=>?_)
 ·obtain ⟨p,rfl⟩:∃ p,q = p + 1:=⟨q - 1,by have:=of_decide_eq_true hc; omega⟩
  have hka:=qbx σ_
  have hkb:=qbx (aUv σ_)
  refine wp_skip (qab (wp_seq (wp_block ?_)))
  refine qad [0,1,2,3,4,5] kz ?_
  refine qal [0] [1,2,3,4,5] [(0,.v (.pointer (some ⟨br,0,none⟩))),(2,.v (.pointer (some ⟨p2,0,none⟩))),(3,.v (.pointer (some ⟨p3,0,none⟩))),(4,.v (.int .u32 ((p + 1:Nat):Int))),(13,.v (.pointer (some ⟨br,0,none⟩)))] hWq hE7 fun aq2 hE8=>?_
  refine qaj (qaq hE8 (f:=110) (vs:=[.pointer (some ⟨br,0,none⟩)]) (d:=14) kz Tryd.call110 (qdA σ_ hT.rd hT.oct hFd') ?_)
  rintro e_ wa ⟨_,Aa,na,ca,rfl,hsa,hra,hsta,rfl⟩
  have hTa:=hT.read hFd hsa hra hsta
  refine ⟨_,rfl,fun aq3 hE9=>?_⟩
  refine qal [2] [3,4,5] [(0,.v (.pointer (some ⟨br,0,none⟩))),(2,.v (.pointer (some ⟨p2,0,none⟩))),(3,.v (.pointer (some ⟨p3,0,none⟩))),(4,.v (.int .u32 ((p + 1:Nat):Int))),(14,.v (.int .u32 ((uUv σ_:Nat):Int))),(15,.v (.pointer (some ⟨br,0,none⟩)))] (WOk.start wa Nil) hE9 fun aq4 hE10=>?_
  refine qaj (qaq hE10 (f:=110) (vs:=[.pointer (some ⟨br,0,none⟩)]) (d:=16) kz Tryd.call110 (qdA (aUv σ_) hTa.rd hTa.oct hFd') ?_)
  rintro e_ wb ⟨_,Ab,nb,cb,rfl,hsb,hrb,hstb,rfl⟩
  have hTb:=hTa.read hFd hsb hrb hstb
  refine ⟨_,rfl,fun aq5 hE11=>?_⟩
  refine qal [4,5] [] [(0,.v (.pointer (some ⟨br,0,none⟩))),(2,.v (.pointer (some ⟨p2,0,none⟩))),(3,.v (.pointer (some ⟨p3,0,none⟩))),(4,.v (.int .u32 ((p + 1:Nat):Int))),(5,.v (.int .u32 ((uUv σ_:Nat):Int))),(6,.v (.int .u32 ((uUv (aUv σ_):Nat):Int)))] (WOk.start wb Nil) hE11 fun aq6 hE12=>qae (qab ?_)
  refine qay [0,1,2,3,4,5] kz ?_
  refine qal [0,1,2,3] [4,5] [(0,.v (.pointer (some ⟨br,0,none⟩))),(2,.v (.pointer (some ⟨p2,0,none⟩))),(3,.v (.pointer (some ⟨p3,0,none⟩))),(4,.v (.int .u32 ((p + 1:Nat):Int))),(17,.v (.int .u32 ((uUv σ_:Nat):Int))),(18,.v (.pointer (some ⟨br,0,none⟩))),(20,.v (.int .i64 (IntKind.i64.wrap ((uUv (aUv σ_):Nat):Int))))] (WOk.start wb Nil) hE12 fun aq7 hE13=>?_
  rw [show IntKind.i64.wrap ((uUv (aUv σ_):Nat):Int) = ((uUv (aUv σ_):Nat):Int) by rw [i64w]; omega] at hE13
  refine qaj (qaq hE13 (f:=106) (vs:=[.pointer (some ⟨br,0,none⟩),.int .i64 ((uUv (aUv σ_):Nat):Int)]) (d:=21) kz Tryd.call106 (qeN ((uUv (aUv σ_):Nat):Int) (aUv (aUv σ_)) hTb.rd hTb.oct hFd') ?_)
  rintro e_ wc ⟨_,Ac,nc,cc,rfl,hsc,hrc,hstc,Ax,cx,rfl,hox⟩
  have hTc:=hTb.read hFd hsc hrc hstc
  refine ⟨_,rfl,fun aq8 hE14=>?_⟩
  refine qaj (qaq hE14 (f:=111) (vs:=[.pointer (some ⟨p3,0,none⟩),.int .u32 ((uUv σ_:Nat):Int),.slice Ax (uSp ((uUv (aUv σ_):Nat):Int) (aUv (aUv σ_))).length cx]) (d:=22) kz Tryd.call111 (hTc.set hox ⟨by omega,by omega⟩) ?_)
  rintro e_ wd ⟨rfl,r,hTd⟩
  refine ⟨_,rfl,fun aq9 hE15=>qae (qaT (qab ?_))⟩
  refine qay [0,1,2] kz (qal [0,1,2] [] [(0,.v (.pointer (some ⟨br,0,none⟩))),(2,.v (.pointer (some ⟨p2,0,none⟩))),(3,.v (.pointer (some ⟨p3,0,none⟩))),(4,.v (.int .u32 (IntKind.u32.wrap (((p + 1:Nat):Int) - 1))))] (WOk.start wd Nil) hE15 fun aqa hE16=>qae (qab ?_))
  rw [show IntKind.u32.wrap (((p + 1:Nat):Int) - 1) = ((p:Nat):Int) by rw [qap]; omega] at hE16
  exact ⟨p,by omega,p,_,_,some r,Ac,nc,cc,rfl,by omega,htg,qcC hsort,(fun x hx=>by
   rcases (qbe hsort x).1 hx with rfl | ⟨h,_⟩
   ·exact ⟨by dsimp only; omega,by dsimp only; omega⟩
   exact hk x h),hE16,hTd⟩
 obtain rfl:q = 0:=by have:=of_decide_eq_false hc; omega
 have hu:u = qdK σ:=congrArg Prod.fst htg
 have hs_:σ_ = qfi σ:=congrArg Prod.snd htg
 subst hu
 subst hs_
 refine wp_exit (qaL (qaL (qa9 (qab ?_))))
 have hT':UTR w wq br p2 p3 F A_ n_ c_ (qfi σ) m_ (qdK σ):=hT
 have h2:=hT'.new2
 have h3:=hT'.new3
 have hW9:WOk w (RdM br) wq ([] ++ [⟨p3,0,[.map m_],true⟩] ++ [⟨p2,0,[.map none],true⟩]) []:=by
  have hb:WOk w (RdM br) wq [] []:=⟨hT'.step,fun i o hi=>by simp at hi,fun i o hi=>by simp at hi,fun i o hi=>by simp at hi,fun i j o o' _ hi=>by simp at hi,fun i r hi=>by simp at hi,fun i r hi=>by simp at hi,fun i r hi=>by simp at hi,fun i j r r' _ hi=>by simp at hi⟩
  have h4:=hb.add ⟨p3,0,[.map m_],true⟩ (World.lt_of_cell (hT'.s3.at_ 0 _ rfl)) (fun j v hj=>by rw [Nat.zero_add]; exact hT'.s3.at_ j v hj) (fun _ j hj=>⟨.inl h3,by rw [Nat.zero_add]; exact hT'.s3.frz j hj⟩) (fun i o hi=>by simp at hi) (fun i r hi=>by simp at hi)
  refine h4.add ⟨p2,0,[.map none],true⟩ (World.lt_of_cell (hT'.s2.at_ 0 _ rfl)) (fun j v hj=>by rw [Nat.zero_add]; exact hT'.s2.at_ j v hj) (fun _ j hj=>⟨.inl h2,by rw [Nat.zero_add]; exact hT'.s2.frz j hj⟩) (fun i o hi _=>.inl ?_) (fun i r hi=>by simp at hi)
  have:o = ⟨p3,0,[.map m_],true⟩:=by
   have hm:=List.mem_of_getElem? hi
   simpa using hm
  rw [this]
  exact fun e=>hT'.ne e.symm
 have hE17:=(((hE7.retable [⟨p3,0,[.map m_],true⟩,⟨p2,0,[.map none],true⟩]).recast 3 (.v (.pointer (some ⟨p3,0,none⟩))) (.p 0 0) rfl rfl (Nat.le_of_ble_eq_true (n:=1) rfl)).recast 2 (.v (.pointer (some ⟨p2,0,none⟩))) (.p 1 0) rfl rfl (Nat.le_of_ble_eq_true (n:=2) rfl))
 have hE18:EnvOk 24 [⟨p3,0,[.map m_],true⟩,⟨p2,0,[.map none],true⟩] [(2,.p 1 0),(3,.p 0 0)] _:=hE17.pk
 refine qad [0,1] kz ?_
 refine qal [0] [1] [(2,.p 1 0),(23,.v (.agg #[.map m_]))] hW9 hE18 fun aqb hE19=>?_
 refine qaj (qao hW9 hE19 (oi:=1) (cs:=[.map m_]) kz fun wz hFz hWz hEz=>qae (qab (wp_ret ?_)))
 have hsz:=hT'.step.size
 have hstz:Step wq wz (fun b o=>b = p2 ∨ b = p3):=hFz.step.mono fun b o _ ha=>by
  rcases ha with ⟨i,ob,hi,_,rfl,_⟩ | ⟨i,r,hi,_⟩
  ·have hm:=List.mem_of_getElem? hi
   simp only [List.nil_append,List.cons_append,List.mem_cons,List.not_mem_nil,or_false] at hm
   rcases hm with rfl | rfl
   ·exact .inr rfl
   exact .inl rfl
  simp at hi
 obtain ⟨m2,m3⟩:=hT'.mne
 refine qaQ hEz hWz.cells (v:=.agg #[.map m_]) kz ⟨_,A_,n_,c_,rfl,hT'.rd.move hstz (fun o e=>?_),hT'.oct.move hstz (fun b o hg _ e=>?_) (fun b o hg _=>.inl hg.1),hWz.step,m_,rfl,?_⟩
 ·have:=hT'.old; rcases e with e | e <;> omega
 ·have:=hg.2; rcases e with e | e <;> omega
 refine (hT'.own.move hstz (fun b o hg _ e=>?_) qaF (fun r o e he=>?_)).map (fun b o h=>.inl h.1) (fun r o e=>.inr (hT'.new r e)) hsort hk
 ·have:=hg.2; rcases e with e | e <;> omega
 rcases he with he | he
 ·exact m2 (by rw [e,he])
 exact m3 (by rw [e,he])
theorem qig (σ:Sg):RPrimU Tryd.prog 91 σ (qfi σ) (fun m:Option Nat=>.agg #[.map m]) (fun m=>qh4 m (qdK σ)):=⟨mn_Tags.len σ,fun hst hr hF=>(qhf σ hst hr hF).mono fun e w' hp=>hp.q fun v w' h=>h⟩
def tnT (o:Option Bs):Tree:=.mk 0 (if o.isNone = true then [] else sb (bs (o.getD []))) o.isNone [] []
theorem qhz {A:Option Addr} {o:Option Bs} (h:A.isNone = o.isNone):qeQ A (bs (o.getD [])) = tnT o:=by
 unfold qeQ tnT
 rw [h]
theorem trc {l l':List Tree} {u u':List (Int × Bs)} (h:l = l') (h':u = u'):Tree.mk 0 [] false l u = Tree.mk 0 [] false l' u':=by rw [h,h']
theorem tlc {a b:Tree} {l l':List Tree} (h:a = b) (h':l = l'):a :: l = b :: l':=by rw [h,h']
theorem qhg {N:Nat} {b b':Bool} {g g':Nat → Tree} (hb:b = b') (h:∀ i,i < N → g i = g' i):Tree.mk 0 [] b ((List.range N).map g) [] = Tree.mk 0 [] b' ((List.range N).map g') []:=by
 rw [hb,List.map_congr_left fun i hi=>h i (List.mem_range.1 hi)]
theorem qgB {N:Nat} {b b':Bool} {g g':Nat → Tree} (hb:b = b') (h:N = 0):Tree.mk 0 [] b ((List.range 0).map g) [] = Tree.mk 0 [] b' ((List.range N).map g') []:=by
 subst h
 rw [hb]; rfl
theorem qe3 (f:Bool) (σ:Sg):((qcl f σ).getD []).length ≤ σ.2.length:=by
 unfold qcl qdz qeK
 repeat' split
 all_goals first | exact Nat.zero_le _ | exact Nat.le_trans (qeg _ _) (mn_Uv.len σ) | exact Nat.le_trans (qeg _ _) ((mn_N 2).len σ)
theorem qfB {u:List (Int × Bs)} {k:Int} {s:Bs}:(setT u k s).length ≤ u.length + 1:=by
 induction u with
 | nil=>exact Nat.le_refl _
 | cons x r ih =>
  unfold setT
  repeat' split
  all_goals simp only [List.length_cons]
  all_goals omega
theorem qhh {u:List (Int × Bs)} {k:Int} {s:Bs} (hs:qdg u) (h:∃ x ∈ u,x.1 = k):(setT u k s).length ≤ u.length:=by
 induction u with
 | nil=>obtain ⟨x,hx,_⟩:=h; cases hx
 | cons x r ih =>
  have h1:=@List.rel_of_pairwise_cons _ _ _ _ hs
  unfold setT
  by_cases hk:k < x.1
  ·exfalso
   obtain ⟨y,hy,rfl⟩:=h
   rcases List.mem_cons.1 hy with rfl | hy
   ·omega
   have:=h1 hy; omega
  rw [if_neg hk]
  by_cases he:k = x.1
  ·rw [if_pos he]; exact Nat.le_refl _
  rw [if_neg he,List.length_cons,List.length_cons]
  refine Nat.succ_le_succ (ih (List.Pairwise.of_cons hs) ?_)
  obtain ⟨y,hy,rfl⟩:=h
  rcases List.mem_cons.1 hy with rfl | hy
  ·exact absurd rfl he
  exact ⟨y,hy,rfl⟩
def zkey (u:List (Int × Bs)):Nat:=if ∃ x ∈ u,x.1 = 0 then 0 else 1
theorem qhi {u:List (Int × Bs)} (hs:qdg u) (k:Int) (s:Bs):zkey (setT u k s) ≤ zkey u:=by
 unfold zkey
 by_cases h:∃ x ∈ u,x.1 = 0
 ·rw [if_pos h,if_pos ?_]; exact Nat.le_refl _
  obtain ⟨x,hx,h0⟩:=h
  by_cases hk:k = 0
  ·exact ⟨(k,s),(qbe hs _).2 (.inl rfl),hk⟩
  exact ⟨x,(qbe hs _).2 (.inr ⟨hx,by omega⟩),h0⟩
 rw [if_neg h]
 split <;> omega
theorem qgC {u:List (Int × Bs)} (hs:qdg u) (s:Bs):zkey (setT u 0 s) = 0:=if_pos ⟨(0,s),(qbe hs _).2 (.inl rfl),rfl⟩
theorem qgD (σ:Sg):(uUv σ = 0 ∧ (aUv σ).2 = []) ∨ (aUv σ).2.length + 1 ≤ σ.2.length:=by
 have h:=(qeJ σ.2).1
 unfold uUv aUv
 by_cases hp:(uvG σ.2).2 ≤ 0
 ·rw [if_pos hp,if_pos hp]; exact .inl ⟨rfl,rfl⟩
 rw [if_neg hp,if_neg hp]
 right
 dsimp only
 rw [List.length_drop]; omega
theorem qfC:∀ (n:Nat) (u:List (Int × Bs)) (σ:Sg) (L:Nat),qdg u → (∀ x ∈ u,0 ≤ x.1 ∧ x.1 < 4294967296 ∧ x.2.length ≤ L) → σ.2.length ≤ L →
  qdg (qek n u σ).1 ∧ (qek n u σ).1.length ≤ u.length + σ.2.length + zkey u ∧ ∀ x ∈ (qek n u σ).1,0 ≤ x.1 ∧ x.1 < 4294967296 ∧ x.2.length ≤ L
 | 0,u,σ,L,hs,hu,hL=>⟨hs,by show u.length ≤ _; omega,hu⟩
 | n + 1,u,σ,L,hs,hu,hL=>by
  have hlt:=qbx σ
  have hs1:qdg (tag1 u σ):=qcC hs
  have hx:=qeg (uUv (aUv σ):Int) (aUv (aUv σ))
  have h1:=mn_Uv.len σ
  have h2:=mn_Uv.len (aUv σ)
  have h3:=(qfj (uUv (aUv σ):Int)).len (aUv (aUv σ))
  have hu1:∀ x ∈ tag1 u σ,0 ≤ x.1 ∧ x.1 < 4294967296 ∧ x.2.length ≤ L:=fun x hx_=>by
   rcases (qbe hs x).1 hx_ with rfl | ⟨h,_⟩
   ·exact ⟨by dsimp only; omega,by dsimp only; omega,by dsimp only; omega⟩
   exact hu x h
  have ih:=qfC n (tag1 u σ) (aTag σ) L hs1 hu1 (by unfold aTag; omega)
  unfold qek
  refine ⟨ih.1,Nat.le_trans ih.2.1 ?_,ih.2.2⟩
  rcases qgD σ with ⟨h0,hn⟩ | hlen
  ·have e1:(tag1 u σ) = setT u 0 (uSp (uUv (aUv σ):Int) (aUv (aUv σ))):=by unfold tag1; rw [h0]; rfl
   have hz:=qgC hs (uSp (uUv (aUv σ):Int) (aUv (aUv σ)))
   have hl0:(aUv σ).2.length = 0:=by rw [hn]; rfl
   have hA:(aTag σ).2.length = 0:=by unfold aTag; omega
   rw [e1,hz,hA]
   by_cases hk:∃ x ∈ u,x.1 = 0
   ·have:=qhh (s:=uSp (uUv (aUv σ):Int) (aUv (aUv σ))) hs hk; omega
   have:=qfB (u:=u) (k:=0) (s:=uSp (uUv (aUv σ):Int) (aUv (aUv σ)))
   have hz1:zkey u = 1:=if_neg hk
   omega
  have hk:=qhi hs (uUv σ:Int) (uSp (uUv (aUv σ):Int) (aUv (aUv σ)))
  have hl:=qfB (u:=u) (k:=(uUv σ:Int)) (s:=uSp (uUv (aUv σ):Int) (aUv (aUv σ)))
  have e1:(tag1 u σ) = setT u (uUv σ:Int) (uSp (uUv (aUv σ):Int) (aUv (aUv σ))):=rfl
  have e2:(aTag σ).2.length ≤ (aUv σ).2.length:=by unfold aTag; omega
  rw [e1]; omega
theorem qe4 (σ:Sg):qdg (qdK σ) ∧ (qdK σ).length ≤ σ.2.length + 1 ∧ ∀ x ∈ qdK σ,0 ≤ x.1 ∧ x.1 < 4294967296 ∧ x.2.length ≤ σ.2.length:=by
 have h:=qfC (uUv σ) [] (aUv σ) σ.2.length List.Pairwise.nil (fun x hx=>by cases hx) (mn_Uv.len σ)
 have h1:=mn_Uv.len σ
 refine ⟨h.1,Nat.le_trans h.2.1 ?_,h.2.2⟩
 have:zkey [] ≤ 1:=by unfold zkey; split <;> omega
 simp only [List.length_nil]; omega
theorem qd2 (σ:Sg):(qdK σ).length ≤ σ.2.length + 1 ∧ ∀ x ∈ qdK σ,x.2.length ≤ σ.2.length:=⟨(qe4 σ).2.1,fun x hx=>((qe4 σ).2.2 x hx).2.2⟩
theorem qhA {f:Bool} {σ:Sg} (h:f = true):aTxt f σ = qfg σ:=by unfold aTxt; exact if_pos h
theorem qhB {f:Bool} {σ:Sg} (h:f = false):aTxt f σ = aStr σ:=by unfold aTxt; exact if_neg (by rw [h]; decide)
theorem qhC {f:Bool} {σ:Sg} (h:f = true):uTxt f σ = qff σ:=by unfold uTxt; exact if_pos h
theorem qhD {f:Bool} {σ:Sg} (h:f = false):uTxt f σ = uStr σ:=by unfold uTxt; exact if_neg (by rw [h]; decide)
theorem qgE {f:Bool} {σ:Sg} (h:f = true):qdL f σ = qef σ:=by unfold qdL; exact if_pos h
theorem qgF {f:Bool} {σ:Sg} (h:f = false):qdL f σ = qfh σ:=by unfold qdL; exact if_neg (by rw [h]; decide)
theorem qgG {f:Bool} {σ:Sg} (h:f = true):qcl f σ = qdz σ:=by unfold qcl; exact if_pos h
theorem qgH {f:Bool} {σ:Sg} (h:f = false):qcl f σ = qeK σ:=by unfold qcl; exact if_neg (by rw [h]; decide)
theorem qih {f:Bool} {σ:Sg} (h:f = true):aLen f σ = aCAL σ:=by unfold aLen; exact if_pos h
theorem qii {f:Bool} {σ:Sg} (h:f = false):aLen f σ = aAL σ:=by unfold aLen; exact if_neg (by rw [h]; decide)
theorem qij {f:Bool} {σ:Sg} (h:f = true):uLen f σ = uCAL σ:=by unfold uLen; exact if_pos h
theorem qik {f:Bool} {σ:Sg} (h:f = false):uLen f σ = uAL σ:=by unfold uLen; exact if_neg (by rw [h]; decide)
section
variable {f:Bool}
theorem qfn (h:f = false) (σ:Sg):RPrim0U Tryd.prog 79 σ (aTxt f σ) (.string (bs (uTxt f σ))):=by rw [qhB h,qhD h]; exact qhS σ
theorem qcH (h:f = false) (σ:Sg):RPrim0U Tryd.prog 78 σ (aTxt f σ) (.string (bs (uTxt f σ))):=by rw [qhB h,qhD h]; exact qeP σ
theorem qcu (h:f = true) (σ:Sg):RPrim0U Tryd.prog 89 σ (aTxt f σ) (.string (bs (uTxt f σ))):=by rw [qhA h,qhC h]; exact qem σ
theorem qbF (h:f = true) (σ:Sg):RPrim0U Tryd.prog 88 σ (aTxt f σ) (.string (bs (uTxt f σ))):=by rw [qhA h,qhC h]; exact qdd σ
theorem qcY (h:f = false) (σ:Sg):RPrimU Tryd.prog 99 σ (qdL f σ) (fun A:Option Addr=>.pointer A) (fun A=>andF (qcE A ((qcl f σ).getD [])) (isF (A.isNone = (qcl f σ).isNone))):=by rw [qgF h,qgH h]; exact qei σ
theorem qbU (h:f = false) (σ:Sg):RPrimU Tryd.prog 98 σ (qdL f σ) (fun A:Option Addr=>.pointer A) (fun A=>andF (qcE A ((qcl f σ).getD [])) (isF (A.isNone = (qcl f σ).isNone))):=by rw [qgF h,qgH h]; exact qcX σ
theorem qbP (h:f = true) (σ:Sg):RPrimU Tryd.prog 97 σ (qdL f σ) (fun A:Option Addr=>.pointer A) (fun A=>andF (qcE A ((qcl f σ).getD [])) (isF (A.isNone = (qcl f σ).isNone))):=by rw [qgE h,qgG h]; exact qcL σ
theorem qby (h:f = true) (σ:Sg):RPrimU Tryd.prog 96 σ (qdL f σ) (fun A:Option Addr=>.pointer A) (fun A=>andF (qcE A ((qcl f σ).getD [])) (isF (A.isNone = (qcl f σ).isNone))):=by rw [qgE h,qgG h]; exact qb0 σ
theorem qgI (h:f = false) (σ:Sg):RPrim0U Tryd.prog 85 σ (aLen f σ) (.int .i32 (uLen f σ)):=by rw [qii h,qik h]; exact qgw σ
theorem qdT (h:f = true) (σ:Sg):RPrim0U Tryd.prog 84 σ (aLen f σ) (.int .i32 (uLen f σ)):=by rw [qih h,qij h]; exact qdS σ
end
section
variable {Pr:Program} {ops:Array Oper} {Q:Exit → Act → World → Prop} {w0:World} {M F:Nat → Nat → Prop} {n br:Nat} {tb:Tb} {env:Env} {P:qbH} {σ:Sg} {a:Act} {w:World}
theorem qdC {i d g:Nat} {f:FuncId} {ev:Value} {N:Act → World → Prop} (h:RSU w0 M F n br tb env P σ a w) (hb:σ.1 = true) (hg:∀ w F,P w F → AtF w F g 0 [ev])
  (hc:∀ {br:Nat} {A:Option Addr} {m c:Nat} {w:World} {F:Nat → Nat → Prop},Str w br [.slice A m c,.bool true] → AtF w F g 0 [ev] → (∀ b o,F b o → ¬ RdM br b o) → Calls Pr f #[.pointer (some ⟨br,0,none⟩)] w (fun e w'=>e = .returned ev ∧ w' = w))
  (hf:∀ args w,(callFunc f args).run Pr w = .ok (.enter f args) w) (K:∀ a',RSU w0 M F n br tb ((d,.v ev) :: env) P σ a' w → N a' w)
  (he:∀ bd A m c,qdE (rdoU br bd A m c :: tb) env ops n i = some (f,[.pointer (some ⟨br,0,none⟩)],d):=by intro _ _ _ _; kernel_rfl):wpOp Pr ops Q i N a w:=by
 obtain ⟨A,m,c,hW,hr,hE,hP⟩:=h.open_
 have hs:=Str.of hW 0 rfl
 rw [hb] at hs
 refine qaq hE (he _ A m c) hf (hc hs (hg _ _ hP) (qbr 0 rfl)) ?_
 rintro e_ _ ⟨rfl,rfl⟩
 exact ⟨_,rfl,fun a1 hE1=>K a1 (RSU.mk' hW hr hE1 h.mv hP h.lim)⟩
end
theorem RSU.startG {w0 w:World} {M F:Nat → Nat → Prop} {n br c g:Nat} {ev:Value} {A:Option Addr} {o1:Ob} {env:Env} {s:Bs} {a:Act} (hW:WOk w0 M w [o1,rdoU br false A s.length c] []) (hE:EnvOk n [o1,rdoU br false A s.length c] env a) (ho:Octs w (Imm F w0 w [o1,rdoU br false A s.length c] []) A c s) (hg:AtF w (Imm F w0 w [o1,rdoU br false A s.length c] []) g 0 [ev]) (hl:s.length ≤ 1000) (env':Env) (he:pick (qfd env) (qbs env') = some env':=by kernel_rfl):RSU w0 M F n br [o1] env' (atF g 0 [ev]) (false,s) a w :=
 RSU.mk' hW.swap2 ⟨rfl,ho.move (Step.refl w Nil) nilM fun b o h _=>⟨h.1,h.2.1,fun ha=>h.2.2 (qfx ha)⟩⟩ ((qhP hE).pick he) (MvF.at_ _ _ _) (hg.move (Step.refl w Nil) nilM fun b o h _=>⟨h.1,h.2.1,fun ha=>h.2.2 (qfx ha)⟩) hl
def qai (v:Int) (σ:Sg):Sg:=σ
def qcZ (v:Int) (σ:Sg):Sg:=(aTxt (decide (v ≥ 4)) σ)
def qat (v:Int) (σ:Sg):Sg:=qcZ v (qai v σ)
def qc0 (v:Int) (σ:Sg):Tree:=.mk 0 (sb (bs (uTxt (decide (v ≥ 4)) σ))) false [] []
def qc1 (v:Int) (σ:Sg):Tree:=qc0 v (qai v σ)
def qbh (v:Int) (σ:Sg):Sg:=if (if (decide (v ≥ 0)) = true then decide (v ≤ 2) else false) = true then (aTxt (decide (v ≥ 4)) σ) else σ
def qaa (v:Int) (σ:Sg):Sg:=qbh v (qat v σ)
def qbi (v:Int) (σ:Sg):Tree:=if (if (decide (v ≥ 0)) = true then decide (v ≤ 2) else false) = true then .mk 0 (sb (bs (uTxt (decide (v ≥ 4)) σ))) false [] [] else .mk 0 (sb ByteArray.empty) false [] []
def qa8 (v:Int) (σ:Sg):Tree:=qbi v (qat v σ)
def qak (v:Int) (σ:Sg):Sg:=σ
theorem qit (b o:Nat) (w:World):Calls Tryd.prog 95 #[.pointer (some ⟨b,o,none⟩)] w (fun e w'=>e = .returned (.tuple #[]) ∧ w' = w):=by
 refine enter (n:=2) (vs:=[.pointer (some ⟨b,o,none⟩)]) Tryd.func95 rfl Tryd.ntmps95 kz fun a hE=>?_
 refine wp_skip ?_
 exact qba hE (WOk.start w Nil).cells (v:=.tuple #[]) kz ⟨rfl,rfl⟩
def qbB (v:Int) (σ:Sg):Sg:=(aTxt (decide (v ≥ 4)) σ)
theorem qb6 (v:Int):Mn (qbB v):=qh7 _
def qau (v:Int) (σ:Sg):Sg:=qbB v (qak v σ)
def qb7 (v:Int) (σ:Sg):Tree:=.mk 0 (sb (bs (uTxt (decide (v ≥ 4)) σ))) false [] []
def qb8 (v:Int) (σ:Sg):Tree:=qb7 v (qak v σ)
def qbC (v:Int) (σ:Sg):Sg:=(qdL (decide (v ≥ 4)) σ)
theorem qb9 (v:Int):Mn (qbC v):=qgr _
def qav (v:Int) (σ:Sg):Sg:=qbC v (qau v σ)
def qca (v:Int) (σ:Sg):Tree:=tnT (qcl (decide (v ≥ 4)) σ)
def qcb (v:Int) (σ:Sg):Tree:=qca v (qau v σ)
def qa0 (v:Int) (σ:Sg):Sg:=if decide (v ≥ 5) = true then (qdL (decide (v ≥ 4)) σ) else σ
theorem qcc (v:Int):Mn (qa0 v):=Mn.ite (p:=fun _=>decide (v ≥ 5) = true) (qgr _) Mn.id_
def qax (v:Int) (σ:Sg):Sg:=qa0 v (qav v σ)
def qbc (v:Int) (σ:Sg):Tree:=if decide (v ≥ 5) = true then tnT (qcl (decide (v ≥ 4)) σ) else qeQ none ByteArray.empty
def qa1 (v:Int) (σ:Sg):Tree:=qbc v (qav v σ)
def qa2 (v:Int) (σ:Sg):Sg:=if decide (v ≥ 4) = true then (qfi σ) else σ
theorem qcd (v:Int):Mn (qa2 v):=Mn.ite (p:=fun _=>decide (v ≥ 4) = true) (mn_Tags) Mn.id_
def qaH (v:Int) (σ:Sg):Sg:=qa2 v (qax v σ)
def qbd (v:Int) (σ:Sg):List (Int × Bs):=if decide (v ≥ 4) = true then qdK σ else []
def qa3 (v:Int) (σ:Sg):List (Int × Bs):=qbd v (qax v σ)
def qaf (v:Int) (σ:Sg):Sg:=qaH v σ
def qa6 (v:Int) (σ:Sg):Tree:=.mk 0 [] false [qb8 v σ,qcb v σ,qa1 v σ] (qa3 v σ)
theorem qce (v:Int):Mn (qak v):=Mn.id_
theorem qcf (v:Int):Mn (qau v):=(qce v).comp (qb6 v)
theorem qcg (v:Int):Mn (qav v):=(qcf v).comp (qb9 v)
theorem qch (v:Int):Mn (qax v):=(qcg v).comp (qcc v)
theorem qci (v:Int):Mn (qaH v):=(qch v).comp (qcd v)
theorem qcv (v:Int):Mn (qaf v):=qci v
def qbj (v:Int) (σ:Sg):Sg:=if decide (v ≥ 3) = true then (itS (qaf v) (uLen (decide (v ≥ 4)) σ).toNat (aLen (decide (v ≥ 4)) σ)) else σ
def qaz (v:Int) (σ:Sg):Sg:=qbj v (qaa v σ)
def qbD (v:Int) (σ:Sg):Tree:=if decide (v ≥ 3) = true then .mk 0 [] (decide (uLen (decide (v ≥ 4)) σ ≤ 0)) ((List.range (uLen (decide (v ≥ 4)) σ).toNat).map fun k_=>qa6 v (itS (qaf v) k_ (aLen (decide (v ≥ 4)) σ))) [] else .mk 0 [] true [] []
def qbk (v:Int) (σ:Sg):Tree:=qbD v (qaa v σ)
def qbl (v:Int) (σ:Sg):Sg:=if decide (v ≥ 4) = true then (qfi σ) else σ
theorem qc2 (v:Int):Mn (qbl v):=Mn.ite (p:=fun _=>decide (v ≥ 4) = true) (mn_Tags) Mn.id_
def qaO (v:Int) (σ:Sg):Sg:=qbl v (qaz v σ)
def qbE (v:Int) (σ:Sg):List (Int × Bs):=if decide (v ≥ 4) = true then qdK σ else []
def qbm (v:Int) (σ:Sg):List (Int × Bs):=qbE v (qaz v σ)
def qaB (v:Int) (σ:Sg):Sg:=qaO v σ
def qbw (v:Int) (σ:Sg):Tree:=.mk 0 [] false [qc1 v σ,qa8 v σ,qbk v σ] (qbm v σ)
theorem qc3 (v:Int) (σ:Sg) (h:(qaO v σ).1 = true):(qaB v σ).1 = true:=h
theorem qc4 (v:Int) (σ:Sg) (h:(qaz v σ).1 = true):(qaB v σ).1 = true:=qc3 v σ ((qc2 v).bad _ h)
set_option maxHeartbeats 4000000 in
theorem qcj (v:Int) (un:Bool) (s:Bs) (hl:s.length ≤ 1000) {ev:Value} {bv:Nat} {A:Option Addr} {c:Nat} {w:World} {F:Nat → Nat → Prop} (hst:Str w bv [.int .i16 v,.string ByteArray.empty,.string ByteArray.empty,.slice none 0 0,.map none]) (ho:Octs w F A c s) (hgl:AtF w F 1 0 [ev]) (hFd:∀ b o,F b o → ¬ (b = bv ∧ o < 5)) :
  Calls Tryd.prog 65 #[.pointer (some ⟨bv,0,none⟩),.slice A s.length c,.bool un] w (fun e w'=>((qaB v (false,s)).1 = true ∧ e = .returned ev ∧ (∃ cs,Str w' bv cs ∧ cs.length = 5) ∧ Step w w' (fun b o=>b = bv ∧ o < 5)) ∨ ((qaB v (false,s)).1 = false ∧ ∃ D:DV,e = .returned .nilIface ∧ Str w' bv [.int .i16 v,.string ((D.f 0).s),.string ((D.f 1).s),.slice ((D.f 2).A) ((D.f 2).l) ((D.f 2).c),.map D.m] ∧ qaX w' (Fp F w) D ∧ qbb D = qbw v (false,s) ∧ Step w w' (fun b o=>b = bv ∧ o < 5))):=by
 refine enter (n:=145) Tryd.func65 rfl Tryd.ntmps65 kz fun a hE=>?_
 have hW:=WOk.startStr hst
 have hE1:=(hE.grow ⟨bv,0,[.int .i16 v,.string ByteArray.empty,.string ByteArray.empty,.slice none 0 0,.map none],true⟩).recast 0 (.v (.pointer (some ⟨bv,0,none⟩))) (.p 0 0) rfl rfl (Nat.le_of_ble_eq_true (n:=1) rfl)
 refine qar [(0,.p 0 0),(1,.v (.slice A s.length c)),(2,.v (.bool un))] hW hE1 fun a1 hE2=>?_
 refine qad [0,1] kz ?_
 refine qal [0] [1] [(0,.p 0 0),(1,.v (.slice A s.length c)),(2,.v (.bool un)),(22,.p 0 0)] hW hE2 fun a3 hE4=>?_
 refine qaj (qaN hE4 (f:=64) (vs:=[.pointer (some ⟨bv,0,none⟩)]) (d:=23) (n':=2) kz Tryd.call64 Tryd.func64 rfl Tryd.ntmps64 kz fun a5 hE6=>?_)
 have hE7:=hE6.recast 0 (.v (.pointer (some ⟨bv,0,none⟩))) (.p 0 0) rfl rfl (Nat.le_of_ble_eq_true (n:=1) rfl)
 refine wp_skip ?_
 refine qba hE7 hW.cells (v:=.tuple #[]) kz ?_
 refine ⟨_,rfl,fun a8 hE9=>?_⟩
 have hE10:EnvOk 145 [⟨bv,0,[.int .i16 v,.string ByteArray.empty,.string ByteArray.empty,.slice none 0 0,.map none],true⟩] [(23,.v (.tuple #[])),(0,.p 0 0),(1,.v (.slice A s.length c)),(2,.v (.bool un)),(22,.p 0 0)] _:=hE9.places (⟨rfl,rfl,trivial⟩)
 refine qae (qab ?_)
 refine qad [0,1,2,3] kz ?_
 refine qal [0,1] [2,3] [(0,.p 0 0),(2,.v (.bool un)),(25,.v (.agg #[.slice A s.length c,.bool false]))] hW hE10 fun a11 hE12=>?_
 refine qaj (qaA hW hE12 (d:=7) (cs:=[.slice none 0 0,.bool false]) kz fun b13 a14 w15 hb16 hz17 hF18 hW19 hE20=>?_)
 refine qaj (qao hW19 hE20 (oi:=1) (cs:=[.slice A s.length c,.bool false]) kz fun w21 hF22 hW23 hE24=>?_)
 refine qae (qab ?_)
 have hS25:=RSU.startG (F:=F) (s:=s) hW23 hE24 (ho.move hW23.step (fun b_ o_ h_ _=>hFd b_ o_ h_) (hW23.immM hFd)) (hgl.move hW23.step (fun b_ o_ h_ _=>hFd b_ o_ h_) (hW23.immM hFd)) hl [(0,.p 1 0),(2,.v (.bool un)),(7,.p 0 0)]
 have hS27:=hS25.cast (σ':=(qai v (false,s))) rfl
 clear hS25
 refine wp_seq ?_
 refine qaW [(0,.p 1 0),(2,.v (.bool un)),(7,.p 0 0),(8,.v (.int .i16 v))] hS27 fun _ hS28=>?_
 clear hS27
 refine qab ?_
 refine wp_seq ?_
 refine qaW [(0,.p 1 0),(2,.v (.bool un)),(7,.p 0 0),(8,.v (.int .i16 v))] hS28 fun _ hS29=>?_
 clear hS28
 refine qab ?_
 refine wp_seq ?_
 refine qaW [(0,.p 1 0),(2,.v (.bool un)),(7,.p 0 0),(8,.v (.int .i16 v)),(9,.v (.bool (decide (v ≥ 4))))] hS29 fun _ hS30=>?_
 clear hS29
 refine qab ?_
 refine wp_seq ?_
 refine qaW [(0,.p 1 0),(2,.v (.bool un)),(7,.p 0 0),(8,.v (.int .i16 v)),(9,.v (.bool (decide (v ≥ 4))))] hS30 fun _ hS31=>?_
 clear hS30
 refine qab ?_
 refine wp_seq ?_
 refine qaW [(2,.v (.bool un)),(7,.p 0 0),(8,.v (.int .i16 v)),(9,.v (.bool (decide (v ≥ 4)))),(10,.p 1 0)] hS31 fun _ hS32=>?_
 clear hS31
 refine qab ?_
 refine wp_seq ?_
 refine wp_seq ?_
 refine qaW [(2,.v (.bool un)),(7,.p 0 0),(8,.v (.int .i16 v)),(9,.v (.bool (decide (v ≥ 4)))),(10,.p 1 0)] hS32 fun _ hS33=>?_
 clear hS32
 refine qab ?_
 refine wp_seq ?_
 have l34:=hS33.lim
 refine qbR (Mid:=fun a_ w_=>RSU w (fun b o=>b = bv ∧ o < 5) F 145 b13 [⟨bv,0,[.int .i16 v,.string ByteArray.empty,.string ByteArray.empty,.slice none 0 0,.map none],true⟩] [(2,.v (.bool un)),(7,.p 0 0),(8,.v (.int .i16 v)),(9,.v (.bool (decide (v ≥ 4)))),(10,.p 1 0),(11,.v (.string (bs (uTxt (decide (v ≥ 4)) (qai v (false,s))))))] (atF 1 0 [ev]) (aTxt (decide (v ≥ 4)) (qai v (false,s))) a_ w_) ?_ ?_
 ·
  refine wp_seq ?_
  refine qaW [(2,.v (.bool un)),(7,.p 0 0),(8,.v (.int .i16 v)),(9,.v (.bool (decide (v ≥ 4)))),(10,.p 1 0),(35,.v (.bool un))] hS33 fun _ hS39=>qab ?_
  clear hS33
  refine qaM hS39.env_ (b:=un) kz (fun hc40=>?_) (fun hc40=>?_)
  ·
   refine wp_seq ?_
   refine qaW [(2,.v (.bool un)),(7,.p 0 0),(8,.v (.int .i16 v)),(9,.v (.bool (decide (v ≥ 4)))),(10,.p 1 0),(36,.v (.bool (decide (v ≥ 4))))] hS39 fun _ hS41=>qab ?_
   clear hS39
   refine qaM hS41.env_ (b:=decide (v ≥ 4)) kz (fun hc42=>?_) (fun hc42=>?_)
   ·
    refine qbJ (d:=37) [(2,.v (.bool un)),(7,.p 0 0),(8,.v (.int .i16 v)),(9,.v (.bool (decide (v ≥ 4)))),(10,.p 1 0),(11,.v (.string (bs (uTxt (decide (v ≥ 4)) (qai v (false,s))))))] hS41 (qbF (f:=(decide (v ≥ 4))) (hc42) (qai v (false,s))) Tryd.call88 fun _ _ hS44=>?_
    clear hS41
    refine qab ?_
    exact hS44.pk (env':=[(2,.v (.bool un)),(7,.p 0 0),(8,.v (.int .i16 v)),(9,.v (.bool (decide (v ≥ 4)))),(10,.p 1 0),(11,.v (.string (bs (uTxt (decide (v ≥ 4)) (qai v (false,s))))))])
   refine qbJ (d:=38) [(2,.v (.bool un)),(7,.p 0 0),(8,.v (.int .i16 v)),(9,.v (.bool (decide (v ≥ 4)))),(10,.p 1 0),(11,.v (.string (bs (uTxt (decide (v ≥ 4)) (qai v (false,s))))))] hS41 (qcH (f:=(decide (v ≥ 4))) (hc42) (qai v (false,s))) Tryd.call78 fun _ _ hS46=>?_
   clear hS41
   refine qab ?_
   exact hS46.pk (env':=[(2,.v (.bool un)),(7,.p 0 0),(8,.v (.int .i16 v)),(9,.v (.bool (decide (v ≥ 4)))),(10,.p 1 0),(11,.v (.string (bs (uTxt (decide (v ≥ 4)) (qai v (false,s))))))])
  refine wp_seq ?_
  refine qaW [(2,.v (.bool un)),(7,.p 0 0),(8,.v (.int .i16 v)),(9,.v (.bool (decide (v ≥ 4)))),(10,.p 1 0),(39,.v (.bool (decide (v ≥ 4))))] hS39 fun _ hS47=>qab ?_
  clear hS39
  refine qaM hS47.env_ (b:=decide (v ≥ 4)) kz (fun hc48=>?_) (fun hc48=>?_)
  ·
   refine qbJ (d:=40) [(2,.v (.bool un)),(7,.p 0 0),(8,.v (.int .i16 v)),(9,.v (.bool (decide (v ≥ 4)))),(10,.p 1 0),(11,.v (.string (bs (uTxt (decide (v ≥ 4)) (qai v (false,s))))))] hS47 (qcu (f:=(decide (v ≥ 4))) (hc48) (qai v (false,s))) Tryd.call89 fun _ _ hS50=>?_
   clear hS47
   refine qab ?_
   exact hS50.pk (env':=[(2,.v (.bool un)),(7,.p 0 0),(8,.v (.int .i16 v)),(9,.v (.bool (decide (v ≥ 4)))),(10,.p 1 0),(11,.v (.string (bs (uTxt (decide (v ≥ 4)) (qai v (false,s))))))])
  refine qbJ (d:=41) [(2,.v (.bool un)),(7,.p 0 0),(8,.v (.int .i16 v)),(9,.v (.bool (decide (v ≥ 4)))),(10,.p 1 0),(11,.v (.string (bs (uTxt (decide (v ≥ 4)) (qai v (false,s))))))] hS47 (qfn (f:=(decide (v ≥ 4))) (hc48) (qai v (false,s))) Tryd.call79 fun _ _ hS52=>?_
  clear hS47
  refine qab ?_
  exact hS52.pk (env':=[(2,.v (.bool un)),(7,.p 0 0),(8,.v (.int .i16 v)),(9,.v (.bool (decide (v ≥ 4)))),(10,.p 1 0),(11,.v (.string (bs (uTxt (decide (v ≥ 4)) (qai v (false,s))))))])
 rintro _ _ hS38
 refine qab ?_
 refine qdJ [⟨bv,0,[.int .i16 v,.string (bs (uTxt (decide (v ≥ 4)) (qai v (false,s)))),.string ByteArray.empty,.slice none 0 0,.map none],true⟩] 0 [(2,.v (.bool un)),(7,.p 0 0),(8,.v (.int .i16 v)),(9,.v (.bool (decide (v ≥ 4)))),(10,.p 1 0)] hS38 fun _ _ hS53=>?_
 clear hS38
 have hS54:=hS53.cast (σ':=(qat v (false,s))) rfl
 clear hS53
 refine qab ?_
 refine wp_seq ?_
 have l55:=hS54.lim
 refine qbR (Mid:=fun a_ w_=>∃ (D56:DV) (P':qbH),(∀ w F,P' w F → (atF 1 0 [ev]) w F ∧ (D56.s.size ≤ 1000000) ∧ (.mk 0 (sb D56.s) false [] []:Tree) = qa8 v (false,s)) ∧ RSU w (fun b o=>b = bv ∧ o < 5) F 145 b13 [⟨bv,0,[.int .i16 v,.string (bs (uTxt (decide (v ≥ 4)) (qai v (false,s)))),.string D56.s,.slice none 0 0,.map none],true⟩] [(2,.v (.bool un)),(7,.p 0 0),(8,.v (.int .i16 v)),(9,.v (.bool (decide (v ≥ 4)))),(10,.p 1 0)] P' (qaa v (false,s)) a_ w_) ?_ ?_
 ·
  refine wp_seq ?_
  refine qay [0,1,2,3,4,5] kz ?_
  refine qbK [0,1,2] [3,4,5] [(2,.v (.bool un)),(7,.p 0 0),(8,.v (.int .i16 v)),(9,.v (.bool (decide (v ≥ 4)))),(10,.p 1 0),(48,.v (.bool (decide (v ≥ 0))))] hS54 fun _ hS60=>?_
  clear hS54
  refine (Bool.eq_false_or_eq_true (decide (v ≥ 0))).elim (fun hg61=>?_) (fun hg61=>?_)
  ·
   have hS62:=hS60.envEq (env':=[(2,.v (.bool un)),(7,.p 0 0),(8,.v (.int .i16 v)),(9,.v (.bool (decide (v ≥ 4)))),(10,.p 1 0),(48,.v (.bool true))]) (by rw [hg61])
   clear hS60
   refine qbK [3,4,5] [] [(2,.v (.bool un)),(7,.p 0 0),(8,.v (.int .i16 v)),(9,.v (.bool (decide (v ≥ 4)))),(10,.p 1 0),(51,.v (.bool (decide (v ≤ 2))))] hS62 fun _ hS63=>qae (qab ?_)
   clear hS62
   refine qaM hS63.env_ (b:=decide (v ≤ 2)) kz (fun hc64=>?_) (fun hc64=>?_)
   ·
    refine wp_seq ?_
    refine qaW [(2,.v (.bool un)),(7,.p 0 0),(8,.v (.int .i16 v)),(9,.v (.bool (decide (v ≥ 4)))),(10,.p 1 0)] hS63 fun _ hS65=>?_
    clear hS63
    refine qab ?_
    refine wp_seq ?_
    refine qbR (Mid:=fun a_ w_=>RSU w (fun b o=>b = bv ∧ o < 5) F 145 b13 [⟨bv,0,[.int .i16 v,.string (bs (uTxt (decide (v ≥ 4)) (qai v (false,s)))),.string ByteArray.empty,.slice none 0 0,.map none],true⟩] [(2,.v (.bool un)),(7,.p 0 0),(8,.v (.int .i16 v)),(9,.v (.bool (decide (v ≥ 4)))),(10,.p 1 0),(12,.v (.string (bs (uTxt (decide (v ≥ 4)) (qat v (false,s))))))] (atF 1 0 [ev]) (aTxt (decide (v ≥ 4)) (qat v (false,s))) a_ w_) ?_ ?_
    ·
     refine wp_seq ?_
     refine qaW [(2,.v (.bool un)),(7,.p 0 0),(8,.v (.int .i16 v)),(9,.v (.bool (decide (v ≥ 4)))),(10,.p 1 0),(52,.v (.bool un))] hS65 fun _ hS70=>qab ?_
     clear hS65
     refine qaM hS70.env_ (b:=un) kz (fun hc71=>?_) (fun hc71=>?_)
     ·
      refine wp_seq ?_
      refine qaW [(2,.v (.bool un)),(7,.p 0 0),(8,.v (.int .i16 v)),(9,.v (.bool (decide (v ≥ 4)))),(10,.p 1 0),(53,.v (.bool (decide (v ≥ 4))))] hS70 fun _ hS72=>qab ?_
      clear hS70
      refine qaM hS72.env_ (b:=decide (v ≥ 4)) kz (fun hc73=>?_) (fun hc73=>?_)
      ·
       refine qbJ (d:=54) [(2,.v (.bool un)),(7,.p 0 0),(8,.v (.int .i16 v)),(9,.v (.bool (decide (v ≥ 4)))),(10,.p 1 0),(12,.v (.string (bs (uTxt (decide (v ≥ 4)) (qat v (false,s))))))] hS72 (qbF (f:=(decide (v ≥ 4))) (hc73) (qat v (false,s))) Tryd.call88 fun _ _ hS75=>?_
       clear hS72
       refine qab ?_
       exact hS75.pk (env':=[(2,.v (.bool un)),(7,.p 0 0),(8,.v (.int .i16 v)),(9,.v (.bool (decide (v ≥ 4)))),(10,.p 1 0),(12,.v (.string (bs (uTxt (decide (v ≥ 4)) (qat v (false,s))))))])
      refine qbJ (d:=55) [(2,.v (.bool un)),(7,.p 0 0),(8,.v (.int .i16 v)),(9,.v (.bool (decide (v ≥ 4)))),(10,.p 1 0),(12,.v (.string (bs (uTxt (decide (v ≥ 4)) (qat v (false,s))))))] hS72 (qcH (f:=(decide (v ≥ 4))) (hc73) (qat v (false,s))) Tryd.call78 fun _ _ hS77=>?_
      clear hS72
      refine qab ?_
      exact hS77.pk (env':=[(2,.v (.bool un)),(7,.p 0 0),(8,.v (.int .i16 v)),(9,.v (.bool (decide (v ≥ 4)))),(10,.p 1 0),(12,.v (.string (bs (uTxt (decide (v ≥ 4)) (qat v (false,s))))))])
     refine wp_seq ?_
     refine qaW [(2,.v (.bool un)),(7,.p 0 0),(8,.v (.int .i16 v)),(9,.v (.bool (decide (v ≥ 4)))),(10,.p 1 0),(56,.v (.bool (decide (v ≥ 4))))] hS70 fun _ hS78=>qab ?_
     clear hS70
     refine qaM hS78.env_ (b:=decide (v ≥ 4)) kz (fun hc79=>?_) (fun hc79=>?_)
     ·
      refine qbJ (d:=57) [(2,.v (.bool un)),(7,.p 0 0),(8,.v (.int .i16 v)),(9,.v (.bool (decide (v ≥ 4)))),(10,.p 1 0),(12,.v (.string (bs (uTxt (decide (v ≥ 4)) (qat v (false,s))))))] hS78 (qcu (f:=(decide (v ≥ 4))) (hc79) (qat v (false,s))) Tryd.call89 fun _ _ hS81=>?_
      clear hS78
      refine qab ?_
      exact hS81.pk (env':=[(2,.v (.bool un)),(7,.p 0 0),(8,.v (.int .i16 v)),(9,.v (.bool (decide (v ≥ 4)))),(10,.p 1 0),(12,.v (.string (bs (uTxt (decide (v ≥ 4)) (qat v (false,s))))))])
     refine qbJ (d:=58) [(2,.v (.bool un)),(7,.p 0 0),(8,.v (.int .i16 v)),(9,.v (.bool (decide (v ≥ 4)))),(10,.p 1 0),(12,.v (.string (bs (uTxt (decide (v ≥ 4)) (qat v (false,s))))))] hS78 (qfn (f:=(decide (v ≥ 4))) (hc79) (qat v (false,s))) Tryd.call79 fun _ _ hS83=>?_
     clear hS78
     refine qab ?_
     exact hS83.pk (env':=[(2,.v (.bool un)),(7,.p 0 0),(8,.v (.int .i16 v)),(9,.v (.bool (decide (v ≥ 4)))),(10,.p 1 0),(12,.v (.string (bs (uTxt (decide (v ≥ 4)) (qat v (false,s))))))])
    rintro _ _ hS69
    refine qab ?_
    refine qdJ [⟨bv,0,[.int .i16 v,.string (bs (uTxt (decide (v ≥ 4)) (qai v (false,s)))),.string (bs (uTxt (decide (v ≥ 4)) (qat v (false,s)))),.slice none 0 0,.map none],true⟩] 0 [(2,.v (.bool un)),(7,.p 0 0),(8,.v (.int .i16 v)),(9,.v (.bool (decide (v ≥ 4)))),(10,.p 1 0)] hS69 fun _ _ hS84=>?_
    clear hS69
    refine qab ?_
    have hS85:=hS84.cast (σ':=(qaa v (false,s))) (by unfold qaa qbh; rw [if_pos (by simp only [hg61,hc64,if_true])])
    exact ⟨dvS (bs (uTxt (decide (v ≥ 4)) (qat v (false,s)))),_,fun w F h_=>⟨h_,by show ByteArray.size (bs _) ≤ 1000000; rw [qee]; exact Nat.le_trans (qeL _ _) (Nat.le_trans l55 (by decide)),by unfold qa8 qbi; rw [if_pos (by simp only [hg61,hc64,if_true])] <;> exact rfl⟩,hS85.pk (env':=[(2,.v (.bool un)),(7,.p 0 0),(8,.v (.int .i16 v)),(9,.v (.bool (decide (v ≥ 4)))),(10,.p 1 0)])⟩
   refine wp_skip (qab ?_)
   have hS86:=hS63.cast (σ':=(qaa v (false,s))) (by unfold qaa qbh; rw [if_neg (by simp only [hg61,hc64,if_true,if_false,Bool.false_eq_true]; try decide)])
   exact ⟨dvS ByteArray.empty,_,fun w F h_=>⟨h_,Nat.zero_le _,by unfold qa8 qbi; rw [if_neg (by simp only [hg61,hc64,if_true,if_false,Bool.false_eq_true]; try decide)] <;> exact rfl⟩,hS86.pk (env':=[(2,.v (.bool un)),(7,.p 0 0),(8,.v (.int .i16 v)),(9,.v (.bool (decide (v ≥ 4)))),(10,.p 1 0)])⟩
  have hS87:=hS60.envEq (env':=[(2,.v (.bool un)),(7,.p 0 0),(8,.v (.int .i16 v)),(9,.v (.bool (decide (v ≥ 4)))),(10,.p 1 0),(48,.v (.bool false))]) (by rw [hg61])
  clear hS60
  refine qbK [3,4,5] [] [(2,.v (.bool un)),(7,.p 0 0),(8,.v (.int .i16 v)),(9,.v (.bool (decide (v ≥ 4)))),(10,.p 1 0),(51,.v (.bool false))] hS87 fun _ hS88=>qae (qab ?_)
  clear hS87
  refine qam hS88.env_ (b:=false) kz rfl ?_
  refine wp_skip (qab ?_)
  have hS89:=hS88.cast (σ':=(qaa v (false,s))) (by unfold qaa qbh; rw [if_neg (by simp only [hg61,if_true,if_false,Bool.false_eq_true]; try decide)])
  exact ⟨dvS ByteArray.empty,_,fun w F h_=>⟨h_,Nat.zero_le _,by unfold qa8 qbi; rw [if_neg (by simp only [hg61,if_true,if_false,Bool.false_eq_true]; try decide)] <;> exact rfl⟩,hS89.pk (env':=[(2,.v (.bool un)),(7,.p 0 0),(8,.v (.int .i16 v)),(9,.v (.bool (decide (v ≥ 4)))),(10,.p 1 0)])⟩
 rintro _ _ ⟨D56,P57,hP58,hS59⟩
 refine qab ?_
 refine wp_seq ?_
 have l90:=hS59.lim
 refine qbR (Mid:=fun a_ w_=>∃ (D91:DV) (P':qbH),(∀ w F,P' w F → P57 w F ∧ (Slots w F 4 D91.A D91.c D91.l (fun i=>[.string (((D91.f i).f 0).s),.pointer (((D91.f i).f 1).A),.pointer (((D91.f i).f 2).A),.map ((D91.f i).m)]) ∧ D91.l ≤ 1000000 ∧ ∀ i,i < D91.l → qaC w F (D91.f i)) ∧ (.mk 0 [] D91.A.isNone ((List.range D91.l).map fun i=>qaw (D91.f i)) []:Tree) = qbk v (false,s)) ∧ RSU w (fun b o=>b = bv ∧ o < 5) F 145 b13 [⟨bv,0,[.int .i16 v,.string (bs (uTxt (decide (v ≥ 4)) (qai v (false,s)))),.string D56.s,.slice D91.A D91.l D91.c,.map none],true⟩] [(7,.p 0 0),(9,.v (.bool (decide (v ≥ 4)))),(10,.p 1 0)] P' (qaz v (false,s)) a_ w_) ?_ ?_
 ·
  refine wp_seq ?_
  refine qaW [(2,.v (.bool un)),(7,.p 0 0),(8,.v (.int .i16 v)),(9,.v (.bool (decide (v ≥ 4)))),(10,.p 1 0),(64,.v (.bool (decide (v ≥ 3))))] hS59 fun _ hS95=>qab ?_
  clear hS59
  refine qaM hS95.env_ (b:=decide (v ≥ 3)) kz (fun hc96=>?_) (fun hc96=>?_)
  ·
   refine wp_seq ?_
   refine qaW [(2,.v (.bool un)),(7,.p 0 0),(8,.v (.int .i16 v)),(9,.v (.bool (decide (v ≥ 4)))),(10,.p 1 0),(13,.v (.slice none 0 0))] hS95 fun _ hS97=>?_
   clear hS95
   refine qab ?_
   refine wp_seq ?_
   refine qaW [(2,.v (.bool un)),(7,.p 0 0),(8,.v (.int .i16 v)),(9,.v (.bool (decide (v ≥ 4)))),(10,.p 1 0),(14,.v (.slice none 0 0))] hS97 fun _ hS98=>?_
   clear hS97
   refine qab ?_
   refine wp_seq ?_
   refine qaW [(2,.v (.bool un)),(7,.p 0 0),(8,.v (.int .i16 v)),(9,.v (.bool (decide (v ≥ 4)))),(10,.p 1 0),(14,.v (.slice none 0 0))] hS98 fun _ hS99=>?_
   clear hS98
   refine qab ?_
   refine wp_seq ?_
   refine qg4 (d1:=71) (d2:=72) [(2,.v (.bool un)),(7,.p 0 0),(8,.v (.int .i16 v)),(9,.v (.bool (decide (v ≥ 4)))),(10,.p 1 0),(14,.v (.slice none 0 0)),(70,.v (.bool (decide (v ≥ 4))))] [(2,.v (.bool un)),(7,.p 0 0),(8,.v (.int .i16 v)),(9,.v (.bool (decide (v ≥ 4)))),(10,.p 1 0),(14,.v (.slice none 0 0)),(15,.v (.int .i32 (uLen (decide (v ≥ 4)) (qaa v (false,s)))))] hS99 (fun hb_=>qdT (f:=(decide (v ≥ 4))) hb_ (qaa v (false,s))) Tryd.call84 (fun hb_=>qgI (f:=(decide (v ≥ 4))) hb_ (qaa v (false,s))) Tryd.call85 fun _ _ hS100=>?_
   clear hS99
   refine qab ?_
   refine wp_seq ?_
   refine wp_seq ?_
   refine qh6 (d:=73) [(2,.v (.bool un)),(7,.p 0 0),(8,.v (.int .i16 v)),(9,.v (.bool (decide (v ≥ 4)))),(10,.p 1 0),(14,.v (.slice none 0 0)),(15,.v (.int .i32 (uLen (decide (v ≥ 4)) (qaa v (false,s))))),(74,.v (.bool (!(!((aLen (decide (v ≥ 4)) (qaa v (false,s)))).1))))] hS100 (qOk (aLen (decide (v ≥ 4)) (qaa v (false,s)))) Tryd.call86 fun _ _ hS102=>?_
   clear hS100
   refine qab ?_
   refine qaM hS102.env_ (b:=!(!((aLen (decide (v ≥ 4)) (qaa v (false,s)))).1)) kz (fun hc103=>?_) (fun hc103=>?_)
   ·
    refine wp_seq ?_
    refine qay [0,1] kz (qaj (qdC (d:=75) (ev:=ev) hS102 (by simpa using hc103) (fun w F h_=>(hP58 _ _ h_).1) (fun hs_ hg_ hf_=>qev hs_ hg_ hf_) Tryd.call81 fun _ hS104=>?_))
    clear hS102
    refine qbK [1] [] [(6,.v (ev))] hS104 fun _ hS105=>qae ?_
    clear hS104
    refine qab ?_
    refine wp_ret ?_
    refine qaP ?_
    refine qaP ?_
    refine qaP ?_
    obtain ⟨A_,m_,c_,hW_,hr_,hE_,hP_⟩:=hS105.open_
    refine qaQ hE_ hW_.cells (v:=ev) kz (.inl ⟨(qc4 v (false,s) (show (qaz v (false,s)).1 = true from (by unfold qaz qbj; rw [if_pos hc96]; exact ((qh8 (qcv v) _).bad _ (by simpa using hc103))))),rfl,⟨_,Str.of hW_ 1 rfl,rfl⟩,hW_.step⟩)
   refine wp_skip ?_
   refine qab ?_
   refine wp_seq ?_
   refine qg7 (t:=102) (e:=109) (size:=4) (bytes:=40) (d:=77) (A0:=none) (m:=0) (cp:=0) [(2,.v (.bool un)),(7,.p 0 0),(8,.v (.int .i16 v)),(9,.v (.bool (decide (v ≥ 4)))),(10,.p 1 0),(15,.v (.int .i32 (uLen (decide (v ≥ 4)) (qaa v (false,s))))),(76,.v (.slice none 0 0))] [(2,.v (.bool un)),(7,.p 0 0),(8,.v (.int .i16 v)),(9,.v (.bool (decide (v ≥ 4)))),(10,.p 1 0),(14,.v (.slice none 0 0)),(15,.v (.int .i32 (uLen (decide (v ≥ 4)) (qaa v (false,s)))))] 1 hS102 fun _ hS106=>?_
   clear hS102
   refine qab ?_
   have hN111:(uLen (decide (v ≥ 4)) (qaa v (false,s))).toNat ≤ 1000:=by have h_:=qhR (decide (v ≥ 4)) (qaa v (false,s)); have:=l90; omega
   refine qg1 (Mid:=fun a_ w_=>∃ (D107:DV) (P':qbH),(∀ w F,P' w F → P57 w F ∧ (Slots w F 4 D107.A D107.c D107.l (fun i=>[.string (((D107.f i).f 0).s),.pointer (((D107.f i).f 1).A),.pointer (((D107.f i).f 2).A),.map ((D107.f i).m)]) ∧ D107.l ≤ 1000000 ∧ ∀ i,i < D107.l → qaC w F (D107.f i)) ∧ (.mk 0 [] D107.A.isNone ((List.range D107.l).map fun i=>qaw (D107.f i)) []:Tree) = .mk 0 [] (decide (uLen (decide (v ≥ 4)) (qaa v (false,s)) ≤ 0)) ((List.range (uLen (decide (v ≥ 4)) (qaa v (false,s))).toNat).map fun k_=>qa6 v (itS (qaf v) k_ (aLen (decide (v ≥ 4)) (qaa v (false,s))))) []) ∧ RSU w (fun b o=>b = bv ∧ o < 5) F 145 b13 [⟨bv,0,[.int .i16 v,.string (bs (uTxt (decide (v ≥ 4)) (qai v (false,s)))),.string D56.s,.slice none 0 0,.map none],true⟩] [(7,.p 0 0),(9,.v (.bool (decide (v ≥ 4)))),(10,.p 1 0),(14,.v (.slice D107.A D107.l D107.c))] P' (itS (qaf v) (uLen (decide (v ≥ 4)) (qaa v (false,s))).toNat (aLen (decide (v ≥ 4)) (qaa v (false,s)))) a_ w_) ?_ ?_
   ·
    refine wp_seq ?_
    refine qaW [(2,.v (.bool un)),(7,.p 0 0),(8,.v (.int .i16 v)),(9,.v (.bool (decide (v ≥ 4)))),(10,.p 1 0),(14,.v (.slice none 0 0)),(15,.v (.int .i32 (uLen (decide (v ≥ 4)) (qaa v (false,s))))),(79,.v (.bool (decide ((uLen (decide (v ≥ 4)) (qaa v (false,s))) > 0))))] hS106 fun _ hS112=>qab ?_
    clear hS106
    refine qaM hS112.env_ (b:=decide ((uLen (decide (v ≥ 4)) (qaa v (false,s))) > 0)) kz (fun hc113=>?_) (fun hc113=>?_)
    ·
     have hp_g114:0 < uLen (decide (v ≥ 4)) (qaa v (false,s)):=of_decide_eq_true hc113
     have hn_g114:0 < (uLen (decide (v ≥ 4)) (qaa v (false,s))).toNat:=by omega
     have hl116:uLen (decide (v ≥ 4)) (qaa v (false,s)) = (((uLen (decide (v ≥ 4)) (qaa v (false,s))).toNat:Nat):Int):=by omega
     have hS117:=hS112.envEq (env':=[(2,.v (.bool un)),(7,.p 0 0),(8,.v (.int .i16 v)),(9,.v (.bool (decide (v ≥ 4)))),(10,.p 1 0),(14,.v (.slice none 0 0)),(15,.v (.int .i32 (((uLen (decide (v ≥ 4)) (qaa v (false,s))).toNat:Nat):Int))),(79,.v (.bool (decide ((uLen (decide (v ≥ 4)) (qaa v (false,s))) > 0))))]) (by rw [← hl116])
     clear hS112
     refine qay [0,1,2,3] kz ?_
     refine qbK [0,1] [2,3] [(2,.v (.bool un)),(7,.p 0 0),(8,.v (.int .i16 v)),(9,.v (.bool (decide (v ≥ 4)))),(10,.p 1 0),(15,.v (.int .i32 (((uLen (decide (v ≥ 4)) (qaa v (false,s))).toNat:Nat):Int))),(80,.v (.slice none 0 0)),(81,.v (.int .i32 (((uLen (decide (v ≥ 4)) (qaa v (false,s))).toNat:Nat):Int)))] hS117 fun _ hS118=>?_
     clear hS117
     refine qaj (qfe (A0:=none) (d:=82) (t:=102) (tn:=21) (e:=109) (size:=4) (bytes:=40) (k:=.i32) (kn:=.i32) (q:=(((uLen (decide (v ≥ 4)) (qaa v (false,s))).toNat:Nat):Int)) (j:=(uLen (decide (v ≥ 4)) (qaa v (false,s))).toNat) (.agg #[.string ByteArray.empty,.pointer none,.pointer none,.map none]) hS118 (fun g114 c115 _ _ hg_g114 hcap_g114 hS119=>?_) rfl hn_g114 (by omega))
     clear hS118
     refine qbK [3] [] [(2,.v (.bool un)),(7,.p 0 0),(8,.v (.int .i16 v)),(9,.v (.bool (decide (v ≥ 4)))),(10,.p 1 0),(14,.v (.slice (some ⟨g114,0,none⟩) ((uLen (decide (v ≥ 4)) (qaa v (false,s))).toNat) c115)),(15,.v (.int .i32 (((uLen (decide (v ≥ 4)) (qaa v (false,s))).toNat:Nat):Int)))] hS119 fun _ hS120=>qae ?_
     clear hS119
     refine qab ?_
     refine wp_seq ?_
     refine qaW [(2,.v (.bool un)),(7,.p 0 0),(8,.v (.int .i16 v)),(9,.v (.bool (decide (v ≥ 4)))),(10,.p 1 0),(14,.v (.slice (some ⟨g114,0,none⟩) ((uLen (decide (v ≥ 4)) (qaa v (false,s))).toNat) c115)),(15,.v (.int .i32 (((uLen (decide (v ≥ 4)) (qaa v (false,s))).toNat:Nat):Int))),(16,.v (.int .i32 0))] hS120 fun _ hS121=>?_
     clear hS120
     refine qab ?_
     refine wp_block ?_
     have hmP125:=hS121.mv
     have hS126:=hS121.pk (env':=[(2,.v (.bool un)),(7,.p 0 0),(8,.v (.int .i16 v)),(9,.v (.bool (decide (v ≥ 4)))),(10,.p 1 0),(14,.v (.slice (some ⟨g114,0,none⟩) ((uLen (decide (v ≥ 4)) (qaa v (false,s))).toNat) c115)),(15,.v (.int .i32 (((uLen (decide (v ≥ 4)) (qaa v (false,s))).toNat:Nat):Int))),(16,.v (.int .i32 ((0:Nat):Int)))])
     clear hS121
     refine qg6 (tb:=[⟨bv,0,[.int .i16 v,.string (bs (uTxt (decide (v ≥ 4)) (qai v (false,s)))),.string D56.s,.slice none 0 0,.map none],true⟩]) (z:=.agg #[.string ByteArray.empty,.pointer none,.pointer none,.map none]) (cl:=qbI) (ok:=qaC) (rel:=(fun i_ d=>(qaw d:Tree) = qa6 v (itS (qaf v) i_ (aLen (decide (v ≥ 4)) (qaa v (false,s)))))) (N:=(uLen (decide (v ≥ 4)) (qaa v (false,s))).toNat) (size:=4) (fun k_=>(itS (qaf v) k_ (aLen (decide (v ≥ 4)) (qaa v (false,s))))) (fun k=>[(2,.v (.bool un)),(7,.p 0 0),(8,.v (.int .i16 v)),(9,.v (.bool (decide (v ≥ 4)))),(10,.p 1 0),(14,.v (.slice (some ⟨g114,0,none⟩) ((uLen (decide (v ≥ 4)) (qaa v (false,s))).toNat) c115)),(15,.v (.int .i32 (((uLen (decide (v ≥ 4)) (qaa v (false,s))).toNat:Nat):Int))),(16,.v (.int .i32 ((k:Nat):Int)))]) hS126 qaK (fun k122 _ _ hk123 hS124=>?_) (fun _ _ hS127=>?_)
     ·
      obtain ⟨P128,hP129,hS130⟩:∃ P',(∀ w F,P' w F → (P57 w F ∧ qdx g114 4 qbI qaC (fun i_ d=>(qaw d:Tree) = qa6 v (itS (qaf v) i_ (aLen (decide (v ≥ 4)) (qaa v (false,s))))) k122 w F)) ∧ RSU w (fun b o=>b = bv ∧ o < 5) F 145 b13 [⟨bv,0,[.int .i16 v,.string (bs (uTxt (decide (v ≥ 4)) (qai v (false,s)))),.string D56.s,.slice none 0 0,.map none],true⟩,qa4 g114 4 (.agg #[.string ByteArray.empty,.pointer none,.pointer none,.map none]) ((uLen (decide (v ≥ 4)) (qaa v (false,s))).toNat) k122] [(2,.v (.bool un)),(7,.p 0 0),(8,.v (.int .i16 v)),(9,.v (.bool (decide (v ≥ 4)))),(10,.p 1 0),(14,.v (.slice (some ⟨g114,0,none⟩) ((uLen (decide (v ≥ 4)) (qaa v (false,s))).toNat) c115)),(15,.v (.int .i32 (((uLen (decide (v ≥ 4)) (qaa v (false,s))).toNat:Nat):Int))),(16,.v (.int .i32 ((k122:Nat):Int)))] P' (itS (qaf v) k122 (aLen (decide (v ≥ 4)) (qaa v (false,s)))) _ _:=⟨_,fun _ _ h=>h,hS124⟩
      clear hS124
      have hS131:=hS130.cast (σ':=(qak v (itS (qaf v) k122 (aLen (decide (v ≥ 4)) (qaa v (false,s)))))) rfl
      clear hS130
      refine wp_seq ?_
      refine wp_seq ?_
      refine qaW [(2,.v (.bool un)),(7,.p 0 0),(8,.v (.int .i16 v)),(9,.v (.bool (decide (v ≥ 4)))),(10,.p 1 0),(14,.v (.slice (some ⟨g114,0,none⟩) ((uLen (decide (v ≥ 4)) (qaa v (false,s))).toNat) c115)),(15,.v (.int .i32 (((uLen (decide (v ≥ 4)) (qaa v (false,s))).toNat:Nat):Int))),(16,.v (.int .i32 ((k122:Nat):Int))),(85,.v (.bool (decide (((k122:Nat):Int) < (((uLen (decide (v ≥ 4)) (qaa v (false,s))).toNat:Nat):Int)))))] hS131 fun _ hS132=>qab ?_
      clear hS131
      refine qaI hS132.env_ (b:=decide (((k122:Nat):Int) < (((uLen (decide (v ≥ 4)) (qaa v (false,s))).toNat:Nat):Int))) kz (decide_eq_true (by omega)) ?_
      refine wp_skip ?_
      refine qab ?_
      refine wp_seq ?_
      refine wp_block ?_
      refine wp_seq ?_
      refine qg8 (t:=102) (e:=109) (size:=4) (bytes:=40) (d:=90) (tb:=[⟨bv,0,[.int .i16 v,.string (bs (uTxt (decide (v ≥ 4)) (qai v (false,s)))),.string D56.s,.slice none 0 0,.map none],true⟩]) (z:=.agg #[.string ByteArray.empty,.pointer none,.pointer none,.map none]) [(2,.v (.bool un)),(7,.p 0 0),(8,.v (.int .i16 v)),(9,.v (.bool (decide (v ≥ 4)))),(10,.p 1 0),(14,.v (.slice (some ⟨g114,0,none⟩) ((uLen (decide (v ≥ 4)) (qaa v (false,s))).toNat) c115)),(15,.v (.int .i32 (((uLen (decide (v ≥ 4)) (qaa v (false,s))).toNat:Nat):Int))),(16,.v (.int .i32 ((k122:Nat):Int))),(88,.v (.slice (some ⟨g114,0,none⟩) ((uLen (decide (v ≥ 4)) (qaa v (false,s))).toNat) c115)),(89,.v (.int .i32 ((k122:Nat):Int)))] [(2,.v (.bool un)),(7,.p 0 0),(8,.v (.int .i16 v)),(9,.v (.bool (decide (v ≥ 4)))),(10,.p 1 0),(14,.v (.slice (some ⟨g114,0,none⟩) ((uLen (decide (v ≥ 4)) (qaa v (false,s))).toNat) c115)),(15,.v (.int .i32 (((uLen (decide (v ≥ 4)) (qaa v (false,s))).toNat:Nat):Int))),(16,.v (.int .i32 ((k122:Nat):Int))),(17,.p 3 0)] 2 hS132 hk123 rfl kz fun _ hS133=>?_
      clear hS132
      have hS134:=hS133.tbEq (tb':=[⟨bv,0,[.int .i16 v,.string (bs (uTxt (decide (v ≥ 4)) (qai v (false,s)))),.string D56.s,.slice none 0 0,.map none],true⟩,qa4 g114 4 (.agg #[.string ByteArray.empty,.pointer none,.pointer none,.map none]) ((uLen (decide (v ≥ 4)) (qaa v (false,s))).toNat) (k122 + 1),⟨g114,k122 * 4,[.string ByteArray.empty,.pointer none,.pointer none,.map none],true⟩]) rfl
      clear hS133
      refine qab ?_
      refine wp_seq ?_
      refine qay [0,1] kz ?_
      refine qbK [0] [1] [(2,.v (.bool un)),(7,.p 0 0),(8,.v (.int .i16 v)),(9,.v (.bool (decide (v ≥ 4)))),(10,.p 1 0),(14,.v (.slice (some ⟨g114,0,none⟩) ((uLen (decide (v ≥ 4)) (qaa v (false,s))).toNat) c115)),(15,.v (.int .i32 (((uLen (decide (v ≥ 4)) (qaa v (false,s))).toNat:Nat):Int))),(16,.v (.int .i32 ((k122:Nat):Int))),(17,.p 3 0),(91,.p 3 0)] hS134 fun _ hS135=>?_
      clear hS134
      refine qaj (qhQ (d:=92) (vs:=[.pointer (some ⟨g114,k122 * 4,none⟩)]) hS135 (fun _=>qit _ _ _) Tryd.call95 fun _ hS136=>?_)
      clear hS135
      refine qae ?_
      have hS137:=hS136.pk (env':=[(2,.v (.bool un)),(7,.p 0 0),(8,.v (.int .i16 v)),(9,.v (.bool (decide (v ≥ 4)))),(10,.p 1 0),(14,.v (.slice (some ⟨g114,0,none⟩) ((uLen (decide (v ≥ 4)) (qaa v (false,s))).toNat) c115)),(15,.v (.int .i32 (((uLen (decide (v ≥ 4)) (qaa v (false,s))).toNat:Nat):Int))),(16,.v (.int .i32 ((k122:Nat):Int))),(17,.p 3 0)])
      clear hS136
      refine qab ?_
      refine wp_seq ?_
      refine qaW [(2,.v (.bool un)),(7,.p 0 0),(8,.v (.int .i16 v)),(9,.v (.bool (decide (v ≥ 4)))),(10,.p 1 0),(14,.v (.slice (some ⟨g114,0,none⟩) ((uLen (decide (v ≥ 4)) (qaa v (false,s))).toNat) c115)),(15,.v (.int .i32 (((uLen (decide (v ≥ 4)) (qaa v (false,s))).toNat:Nat):Int))),(16,.v (.int .i32 ((k122:Nat):Int))),(18,.p 3 0)] hS137 fun _ hS138=>?_
      clear hS137
      refine qab ?_
      refine wp_seq ?_
      refine wp_seq ?_
      refine qaW [(2,.v (.bool un)),(7,.p 0 0),(8,.v (.int .i16 v)),(9,.v (.bool (decide (v ≥ 4)))),(10,.p 1 0),(14,.v (.slice (some ⟨g114,0,none⟩) ((uLen (decide (v ≥ 4)) (qaa v (false,s))).toNat) c115)),(15,.v (.int .i32 (((uLen (decide (v ≥ 4)) (qaa v (false,s))).toNat:Nat):Int))),(16,.v (.int .i32 ((k122:Nat):Int))),(18,.p 3 0)] hS138 fun _ hS139=>?_
      clear hS138
      refine qab ?_
      refine wp_seq ?_
      have l140:=hS139.lim
      refine qbR (Mid:=fun a_ w_=>RSU w (fun b o=>b = bv ∧ o < 5) F 145 b13 [⟨bv,0,[.int .i16 v,.string (bs (uTxt (decide (v ≥ 4)) (qai v (false,s)))),.string D56.s,.slice none 0 0,.map none],true⟩,qa4 g114 4 (.agg #[.string ByteArray.empty,.pointer none,.pointer none,.map none]) ((uLen (decide (v ≥ 4)) (qaa v (false,s))).toNat) (k122 + 1),⟨g114,k122 * 4,[.string ByteArray.empty,.pointer none,.pointer none,.map none],true⟩] [(2,.v (.bool un)),(7,.p 0 0),(8,.v (.int .i16 v)),(9,.v (.bool (decide (v ≥ 4)))),(10,.p 1 0),(14,.v (.slice (some ⟨g114,0,none⟩) ((uLen (decide (v ≥ 4)) (qaa v (false,s))).toNat) c115)),(15,.v (.int .i32 (((uLen (decide (v ≥ 4)) (qaa v (false,s))).toNat:Nat):Int))),(16,.v (.int .i32 ((k122:Nat):Int))),(18,.p 3 0),(19,.v (.string (bs (uTxt (decide (v ≥ 4)) (qak v (itS (qaf v) k122 (aLen (decide (v ≥ 4)) (qaa v (false,s)))))))))] P128 (aTxt (decide (v ≥ 4)) (qak v (itS (qaf v) k122 (aLen (decide (v ≥ 4)) (qaa v (false,s)))))) a_ w_) ?_ ?_
      ·
       refine wp_seq ?_
       refine qaW [(2,.v (.bool un)),(7,.p 0 0),(8,.v (.int .i16 v)),(9,.v (.bool (decide (v ≥ 4)))),(10,.p 1 0),(14,.v (.slice (some ⟨g114,0,none⟩) ((uLen (decide (v ≥ 4)) (qaa v (false,s))).toNat) c115)),(15,.v (.int .i32 (((uLen (decide (v ≥ 4)) (qaa v (false,s))).toNat:Nat):Int))),(16,.v (.int .i32 ((k122:Nat):Int))),(18,.p 3 0),(94,.v (.bool un))] hS139 fun _ hS145=>qab ?_
       clear hS139
       refine qaM hS145.env_ (b:=un) kz (fun hc146=>?_) (fun hc146=>?_)
       ·
        refine wp_seq ?_
        refine qaW [(2,.v (.bool un)),(7,.p 0 0),(8,.v (.int .i16 v)),(9,.v (.bool (decide (v ≥ 4)))),(10,.p 1 0),(14,.v (.slice (some ⟨g114,0,none⟩) ((uLen (decide (v ≥ 4)) (qaa v (false,s))).toNat) c115)),(15,.v (.int .i32 (((uLen (decide (v ≥ 4)) (qaa v (false,s))).toNat:Nat):Int))),(16,.v (.int .i32 ((k122:Nat):Int))),(18,.p 3 0),(95,.v (.bool (decide (v ≥ 4))))] hS145 fun _ hS147=>qab ?_
        clear hS145
        refine qaM hS147.env_ (b:=decide (v ≥ 4)) kz (fun hc148=>?_) (fun hc148=>?_)
        ·
         refine qbJ (d:=96) [(2,.v (.bool un)),(7,.p 0 0),(8,.v (.int .i16 v)),(9,.v (.bool (decide (v ≥ 4)))),(10,.p 1 0),(14,.v (.slice (some ⟨g114,0,none⟩) ((uLen (decide (v ≥ 4)) (qaa v (false,s))).toNat) c115)),(15,.v (.int .i32 (((uLen (decide (v ≥ 4)) (qaa v (false,s))).toNat:Nat):Int))),(16,.v (.int .i32 ((k122:Nat):Int))),(18,.p 3 0),(19,.v (.string (bs (uTxt (decide (v ≥ 4)) (qak v (itS (qaf v) k122 (aLen (decide (v ≥ 4)) (qaa v (false,s)))))))))] hS147 (qbF (f:=(decide (v ≥ 4))) (hc148) (qak v (itS (qaf v) k122 (aLen (decide (v ≥ 4)) (qaa v (false,s)))))) Tryd.call88 fun _ _ hS150=>?_
         clear hS147
         refine qab ?_
         exact hS150.pk (env':=[(2,.v (.bool un)),(7,.p 0 0),(8,.v (.int .i16 v)),(9,.v (.bool (decide (v ≥ 4)))),(10,.p 1 0),(14,.v (.slice (some ⟨g114,0,none⟩) ((uLen (decide (v ≥ 4)) (qaa v (false,s))).toNat) c115)),(15,.v (.int .i32 (((uLen (decide (v ≥ 4)) (qaa v (false,s))).toNat:Nat):Int))),(16,.v (.int .i32 ((k122:Nat):Int))),(18,.p 3 0),(19,.v (.string (bs (uTxt (decide (v ≥ 4)) (qak v (itS (qaf v) k122 (aLen (decide (v ≥ 4)) (qaa v (false,s)))))))))])
        refine qbJ (d:=97) [(2,.v (.bool un)),(7,.p 0 0),(8,.v (.int .i16 v)),(9,.v (.bool (decide (v ≥ 4)))),(10,.p 1 0),(14,.v (.slice (some ⟨g114,0,none⟩) ((uLen (decide (v ≥ 4)) (qaa v (false,s))).toNat) c115)),(15,.v (.int .i32 (((uLen (decide (v ≥ 4)) (qaa v (false,s))).toNat:Nat):Int))),(16,.v (.int .i32 ((k122:Nat):Int))),(18,.p 3 0),(19,.v (.string (bs (uTxt (decide (v ≥ 4)) (qak v (itS (qaf v) k122 (aLen (decide (v ≥ 4)) (qaa v (false,s)))))))))] hS147 (qcH (f:=(decide (v ≥ 4))) (hc148) (qak v (itS (qaf v) k122 (aLen (decide (v ≥ 4)) (qaa v (false,s)))))) Tryd.call78 fun _ _ hS152=>?_
        clear hS147
        refine qab ?_
        exact hS152.pk (env':=[(2,.v (.bool un)),(7,.p 0 0),(8,.v (.int .i16 v)),(9,.v (.bool (decide (v ≥ 4)))),(10,.p 1 0),(14,.v (.slice (some ⟨g114,0,none⟩) ((uLen (decide (v ≥ 4)) (qaa v (false,s))).toNat) c115)),(15,.v (.int .i32 (((uLen (decide (v ≥ 4)) (qaa v (false,s))).toNat:Nat):Int))),(16,.v (.int .i32 ((k122:Nat):Int))),(18,.p 3 0),(19,.v (.string (bs (uTxt (decide (v ≥ 4)) (qak v (itS (qaf v) k122 (aLen (decide (v ≥ 4)) (qaa v (false,s)))))))))])
       refine wp_seq ?_
       refine qaW [(2,.v (.bool un)),(7,.p 0 0),(8,.v (.int .i16 v)),(9,.v (.bool (decide (v ≥ 4)))),(10,.p 1 0),(14,.v (.slice (some ⟨g114,0,none⟩) ((uLen (decide (v ≥ 4)) (qaa v (false,s))).toNat) c115)),(15,.v (.int .i32 (((uLen (decide (v ≥ 4)) (qaa v (false,s))).toNat:Nat):Int))),(16,.v (.int .i32 ((k122:Nat):Int))),(18,.p 3 0),(98,.v (.bool (decide (v ≥ 4))))] hS145 fun _ hS153=>qab ?_
       clear hS145
       refine qaM hS153.env_ (b:=decide (v ≥ 4)) kz (fun hc154=>?_) (fun hc154=>?_)
       ·
        refine qbJ (d:=99) [(2,.v (.bool un)),(7,.p 0 0),(8,.v (.int .i16 v)),(9,.v (.bool (decide (v ≥ 4)))),(10,.p 1 0),(14,.v (.slice (some ⟨g114,0,none⟩) ((uLen (decide (v ≥ 4)) (qaa v (false,s))).toNat) c115)),(15,.v (.int .i32 (((uLen (decide (v ≥ 4)) (qaa v (false,s))).toNat:Nat):Int))),(16,.v (.int .i32 ((k122:Nat):Int))),(18,.p 3 0),(19,.v (.string (bs (uTxt (decide (v ≥ 4)) (qak v (itS (qaf v) k122 (aLen (decide (v ≥ 4)) (qaa v (false,s)))))))))] hS153 (qcu (f:=(decide (v ≥ 4))) (hc154) (qak v (itS (qaf v) k122 (aLen (decide (v ≥ 4)) (qaa v (false,s)))))) Tryd.call89 fun _ _ hS156=>?_
        clear hS153
        refine qab ?_
        exact hS156.pk (env':=[(2,.v (.bool un)),(7,.p 0 0),(8,.v (.int .i16 v)),(9,.v (.bool (decide (v ≥ 4)))),(10,.p 1 0),(14,.v (.slice (some ⟨g114,0,none⟩) ((uLen (decide (v ≥ 4)) (qaa v (false,s))).toNat) c115)),(15,.v (.int .i32 (((uLen (decide (v ≥ 4)) (qaa v (false,s))).toNat:Nat):Int))),(16,.v (.int .i32 ((k122:Nat):Int))),(18,.p 3 0),(19,.v (.string (bs (uTxt (decide (v ≥ 4)) (qak v (itS (qaf v) k122 (aLen (decide (v ≥ 4)) (qaa v (false,s)))))))))])
       refine qbJ (d:=100) [(2,.v (.bool un)),(7,.p 0 0),(8,.v (.int .i16 v)),(9,.v (.bool (decide (v ≥ 4)))),(10,.p 1 0),(14,.v (.slice (some ⟨g114,0,none⟩) ((uLen (decide (v ≥ 4)) (qaa v (false,s))).toNat) c115)),(15,.v (.int .i32 (((uLen (decide (v ≥ 4)) (qaa v (false,s))).toNat:Nat):Int))),(16,.v (.int .i32 ((k122:Nat):Int))),(18,.p 3 0),(19,.v (.string (bs (uTxt (decide (v ≥ 4)) (qak v (itS (qaf v) k122 (aLen (decide (v ≥ 4)) (qaa v (false,s)))))))))] hS153 (qfn (f:=(decide (v ≥ 4))) (hc154) (qak v (itS (qaf v) k122 (aLen (decide (v ≥ 4)) (qaa v (false,s)))))) Tryd.call79 fun _ _ hS158=>?_
       clear hS153
       refine qab ?_
       exact hS158.pk (env':=[(2,.v (.bool un)),(7,.p 0 0),(8,.v (.int .i16 v)),(9,.v (.bool (decide (v ≥ 4)))),(10,.p 1 0),(14,.v (.slice (some ⟨g114,0,none⟩) ((uLen (decide (v ≥ 4)) (qaa v (false,s))).toNat) c115)),(15,.v (.int .i32 (((uLen (decide (v ≥ 4)) (qaa v (false,s))).toNat:Nat):Int))),(16,.v (.int .i32 ((k122:Nat):Int))),(18,.p 3 0),(19,.v (.string (bs (uTxt (decide (v ≥ 4)) (qak v (itS (qaf v) k122 (aLen (decide (v ≥ 4)) (qaa v (false,s)))))))))])
      rintro _ _ hS144
      refine qab ?_
      refine qdJ [⟨bv,0,[.int .i16 v,.string (bs (uTxt (decide (v ≥ 4)) (qai v (false,s)))),.string D56.s,.slice none 0 0,.map none],true⟩,qa4 g114 4 (.agg #[.string ByteArray.empty,.pointer none,.pointer none,.map none]) ((uLen (decide (v ≥ 4)) (qaa v (false,s))).toNat) (k122 + 1),⟨g114,k122 * 4,[.string (bs (uTxt (decide (v ≥ 4)) (qak v (itS (qaf v) k122 (aLen (decide (v ≥ 4)) (qaa v (false,s))))))),.pointer none,.pointer none,.map none],true⟩] 2 [(2,.v (.bool un)),(7,.p 0 0),(8,.v (.int .i16 v)),(9,.v (.bool (decide (v ≥ 4)))),(10,.p 1 0),(14,.v (.slice (some ⟨g114,0,none⟩) ((uLen (decide (v ≥ 4)) (qaa v (false,s))).toNat) c115)),(15,.v (.int .i32 (((uLen (decide (v ≥ 4)) (qaa v (false,s))).toNat:Nat):Int))),(16,.v (.int .i32 ((k122:Nat):Int))),(18,.p 3 0)] hS144 fun _ _ hS159=>?_
      clear hS144
      have hS160:=hS159.cast (σ':=(qau v (itS (qaf v) k122 (aLen (decide (v ≥ 4)) (qaa v (false,s)))))) rfl
      clear hS159
      refine qab ?_
      refine wp_seq ?_
      refine wp_seq ?_
      refine qaW [(2,.v (.bool un)),(7,.p 0 0),(8,.v (.int .i16 v)),(9,.v (.bool (decide (v ≥ 4)))),(10,.p 1 0),(14,.v (.slice (some ⟨g114,0,none⟩) ((uLen (decide (v ≥ 4)) (qaa v (false,s))).toNat) c115)),(15,.v (.int .i32 (((uLen (decide (v ≥ 4)) (qaa v (false,s))).toNat:Nat):Int))),(16,.v (.int .i32 ((k122:Nat):Int))),(18,.p 3 0)] hS160 fun _ hS161=>?_
      clear hS160
      refine qab ?_
      refine wp_seq ?_
      have l162:=hS161.lim
      refine qbR (Mid:=fun a_ w_=>∃ (x163:Option Addr) (P':qbH),(∀ w F,P' w F → P128 w F ∧ qcE x163 ((qcl (decide (v ≥ 4)) (qau v (itS (qaf v) k122 (aLen (decide (v ≥ 4)) (qaa v (false,s)))))).getD []) w F ∧ x163.isNone = (qcl (decide (v ≥ 4)) (qau v (itS (qaf v) k122 (aLen (decide (v ≥ 4)) (qaa v (false,s)))))).isNone) ∧ RSU w (fun b o=>b = bv ∧ o < 5) F 145 b13 [⟨bv,0,[.int .i16 v,.string (bs (uTxt (decide (v ≥ 4)) (qai v (false,s)))),.string D56.s,.slice none 0 0,.map none],true⟩,qa4 g114 4 (.agg #[.string ByteArray.empty,.pointer none,.pointer none,.map none]) ((uLen (decide (v ≥ 4)) (qaa v (false,s))).toNat) (k122 + 1),⟨g114,k122 * 4,[.string (bs (uTxt (decide (v ≥ 4)) (qak v (itS (qaf v) k122 (aLen (decide (v ≥ 4)) (qaa v (false,s))))))),.pointer none,.pointer none,.map none],true⟩] [(2,.v (.bool un)),(7,.p 0 0),(8,.v (.int .i16 v)),(9,.v (.bool (decide (v ≥ 4)))),(10,.p 1 0),(14,.v (.slice (some ⟨g114,0,none⟩) ((uLen (decide (v ≥ 4)) (qaa v (false,s))).toNat) c115)),(15,.v (.int .i32 (((uLen (decide (v ≥ 4)) (qaa v (false,s))).toNat:Nat):Int))),(16,.v (.int .i32 ((k122:Nat):Int))),(18,.p 3 0),(20,.v (.pointer x163))] P' (qdL (decide (v ≥ 4)) (qau v (itS (qaf v) k122 (aLen (decide (v ≥ 4)) (qaa v (false,s)))))) a_ w_) ?_ ?_
      ·
       refine wp_seq ?_
       refine qaW [(2,.v (.bool un)),(7,.p 0 0),(8,.v (.int .i16 v)),(9,.v (.bool (decide (v ≥ 4)))),(10,.p 1 0),(14,.v (.slice (some ⟨g114,0,none⟩) ((uLen (decide (v ≥ 4)) (qaa v (false,s))).toNat) c115)),(15,.v (.int .i32 (((uLen (decide (v ≥ 4)) (qaa v (false,s))).toNat:Nat):Int))),(16,.v (.int .i32 ((k122:Nat):Int))),(18,.p 3 0),(105,.v (.bool (decide (v ≥ 4))))] hS161 fun _ hS167=>qab ?_
       clear hS161
       refine qaM hS167.env_ (b:=decide (v ≥ 4)) kz (fun hc168=>?_) (fun hc168=>?_)
       ·
        refine wp_seq ?_
        refine qaW [(2,.v (.bool un)),(7,.p 0 0),(8,.v (.int .i16 v)),(9,.v (.bool (decide (v ≥ 4)))),(10,.p 1 0),(14,.v (.slice (some ⟨g114,0,none⟩) ((uLen (decide (v ≥ 4)) (qaa v (false,s))).toNat) c115)),(15,.v (.int .i32 (((uLen (decide (v ≥ 4)) (qaa v (false,s))).toNat:Nat):Int))),(16,.v (.int .i32 ((k122:Nat):Int))),(18,.p 3 0),(106,.v (.bool un))] hS167 fun _ hS169=>qab ?_
        clear hS167
        refine qaM hS169.env_ (b:=un) kz (fun hc170=>?_) (fun hc170=>?_)
        ·
         refine qdQ (d:=107) (fun x171=>[(2,.v (.bool un)),(7,.p 0 0),(8,.v (.int .i16 v)),(9,.v (.bool (decide (v ≥ 4)))),(10,.p 1 0),(14,.v (.slice (some ⟨g114,0,none⟩) ((uLen (decide (v ≥ 4)) (qaa v (false,s))).toNat) c115)),(15,.v (.int .i32 (((uLen (decide (v ≥ 4)) (qaa v (false,s))).toNat:Nat):Int))),(16,.v (.int .i32 ((k122:Nat):Int))),(18,.p 3 0),(20,.v (.pointer x171))]) hS169 (qby (f:=(decide (v ≥ 4))) (hc168) (qau v (itS (qaf v) k122 (aLen (decide (v ≥ 4)) (qaa v (false,s)))))) (fun _=>(MvF.text _ _).and (MvF.is _)) Tryd.call96 fun x171 P173 _ _ hP174 hS172=>?_
         clear hS169
         refine qab ?_
         exact ⟨x171,_,fun w F h_=>⟨(hP174 _ _ h_).1,(hP174 _ _ h_).2⟩,hS172.pk (env':=[(2,.v (.bool un)),(7,.p 0 0),(8,.v (.int .i16 v)),(9,.v (.bool (decide (v ≥ 4)))),(10,.p 1 0),(14,.v (.slice (some ⟨g114,0,none⟩) ((uLen (decide (v ≥ 4)) (qaa v (false,s))).toNat) c115)),(15,.v (.int .i32 (((uLen (decide (v ≥ 4)) (qaa v (false,s))).toNat:Nat):Int))),(16,.v (.int .i32 ((k122:Nat):Int))),(18,.p 3 0),(20,.v (.pointer x171))])⟩
        refine qdQ (d:=108) (fun x175=>[(2,.v (.bool un)),(7,.p 0 0),(8,.v (.int .i16 v)),(9,.v (.bool (decide (v ≥ 4)))),(10,.p 1 0),(14,.v (.slice (some ⟨g114,0,none⟩) ((uLen (decide (v ≥ 4)) (qaa v (false,s))).toNat) c115)),(15,.v (.int .i32 (((uLen (decide (v ≥ 4)) (qaa v (false,s))).toNat:Nat):Int))),(16,.v (.int .i32 ((k122:Nat):Int))),(18,.p 3 0),(20,.v (.pointer x175))]) hS169 (qbP (f:=(decide (v ≥ 4))) (hc168) (qau v (itS (qaf v) k122 (aLen (decide (v ≥ 4)) (qaa v (false,s)))))) (fun _=>(MvF.text _ _).and (MvF.is _)) Tryd.call97 fun x175 P177 _ _ hP178 hS176=>?_
        clear hS169
        refine qab ?_
        exact ⟨x175,_,fun w F h_=>⟨(hP178 _ _ h_).1,(hP178 _ _ h_).2⟩,hS176.pk (env':=[(2,.v (.bool un)),(7,.p 0 0),(8,.v (.int .i16 v)),(9,.v (.bool (decide (v ≥ 4)))),(10,.p 1 0),(14,.v (.slice (some ⟨g114,0,none⟩) ((uLen (decide (v ≥ 4)) (qaa v (false,s))).toNat) c115)),(15,.v (.int .i32 (((uLen (decide (v ≥ 4)) (qaa v (false,s))).toNat:Nat):Int))),(16,.v (.int .i32 ((k122:Nat):Int))),(18,.p 3 0),(20,.v (.pointer x175))])⟩
       refine wp_seq ?_
       refine qaW [(2,.v (.bool un)),(7,.p 0 0),(8,.v (.int .i16 v)),(9,.v (.bool (decide (v ≥ 4)))),(10,.p 1 0),(14,.v (.slice (some ⟨g114,0,none⟩) ((uLen (decide (v ≥ 4)) (qaa v (false,s))).toNat) c115)),(15,.v (.int .i32 (((uLen (decide (v ≥ 4)) (qaa v (false,s))).toNat:Nat):Int))),(16,.v (.int .i32 ((k122:Nat):Int))),(18,.p 3 0),(109,.v (.bool un))] hS167 fun _ hS179=>qab ?_
       clear hS167
       refine qaM hS179.env_ (b:=un) kz (fun hc180=>?_) (fun hc180=>?_)
       ·
        refine qdQ (d:=110) (fun x181=>[(2,.v (.bool un)),(7,.p 0 0),(8,.v (.int .i16 v)),(9,.v (.bool (decide (v ≥ 4)))),(10,.p 1 0),(14,.v (.slice (some ⟨g114,0,none⟩) ((uLen (decide (v ≥ 4)) (qaa v (false,s))).toNat) c115)),(15,.v (.int .i32 (((uLen (decide (v ≥ 4)) (qaa v (false,s))).toNat:Nat):Int))),(16,.v (.int .i32 ((k122:Nat):Int))),(18,.p 3 0),(20,.v (.pointer x181))]) hS179 (qbU (f:=(decide (v ≥ 4))) (hc168) (qau v (itS (qaf v) k122 (aLen (decide (v ≥ 4)) (qaa v (false,s)))))) (fun _=>(MvF.text _ _).and (MvF.is _)) Tryd.call98 fun x181 P183 _ _ hP184 hS182=>?_
        clear hS179
        refine qab ?_
        exact ⟨x181,_,fun w F h_=>⟨(hP184 _ _ h_).1,(hP184 _ _ h_).2⟩,hS182.pk (env':=[(2,.v (.bool un)),(7,.p 0 0),(8,.v (.int .i16 v)),(9,.v (.bool (decide (v ≥ 4)))),(10,.p 1 0),(14,.v (.slice (some ⟨g114,0,none⟩) ((uLen (decide (v ≥ 4)) (qaa v (false,s))).toNat) c115)),(15,.v (.int .i32 (((uLen (decide (v ≥ 4)) (qaa v (false,s))).toNat:Nat):Int))),(16,.v (.int .i32 ((k122:Nat):Int))),(18,.p 3 0),(20,.v (.pointer x181))])⟩
       refine qdQ (d:=111) (fun x185=>[(2,.v (.bool un)),(7,.p 0 0),(8,.v (.int .i16 v)),(9,.v (.bool (decide (v ≥ 4)))),(10,.p 1 0),(14,.v (.slice (some ⟨g114,0,none⟩) ((uLen (decide (v ≥ 4)) (qaa v (false,s))).toNat) c115)),(15,.v (.int .i32 (((uLen (decide (v ≥ 4)) (qaa v (false,s))).toNat:Nat):Int))),(16,.v (.int .i32 ((k122:Nat):Int))),(18,.p 3 0),(20,.v (.pointer x185))]) hS179 (qcY (f:=(decide (v ≥ 4))) (hc168) (qau v (itS (qaf v) k122 (aLen (decide (v ≥ 4)) (qaa v (false,s)))))) (fun _=>(MvF.text _ _).and (MvF.is _)) Tryd.call99 fun x185 P187 _ _ hP188 hS186=>?_
       clear hS179
       refine qab ?_
       exact ⟨x185,_,fun w F h_=>⟨(hP188 _ _ h_).1,(hP188 _ _ h_).2⟩,hS186.pk (env':=[(2,.v (.bool un)),(7,.p 0 0),(8,.v (.int .i16 v)),(9,.v (.bool (decide (v ≥ 4)))),(10,.p 1 0),(14,.v (.slice (some ⟨g114,0,none⟩) ((uLen (decide (v ≥ 4)) (qaa v (false,s))).toNat) c115)),(15,.v (.int .i32 (((uLen (decide (v ≥ 4)) (qaa v (false,s))).toNat:Nat):Int))),(16,.v (.int .i32 ((k122:Nat):Int))),(18,.p 3 0),(20,.v (.pointer x185))])⟩
      rintro _ _ ⟨x163,P164,hP165,hS166⟩
      refine qab ?_
      refine qdJ [⟨bv,0,[.int .i16 v,.string (bs (uTxt (decide (v ≥ 4)) (qai v (false,s)))),.string D56.s,.slice none 0 0,.map none],true⟩,qa4 g114 4 (.agg #[.string ByteArray.empty,.pointer none,.pointer none,.map none]) ((uLen (decide (v ≥ 4)) (qaa v (false,s))).toNat) (k122 + 1),⟨g114,k122 * 4,[.string (bs (uTxt (decide (v ≥ 4)) (qak v (itS (qaf v) k122 (aLen (decide (v ≥ 4)) (qaa v (false,s))))))),.pointer x163,.pointer none,.map none],true⟩] 2 [(2,.v (.bool un)),(7,.p 0 0),(8,.v (.int .i16 v)),(9,.v (.bool (decide (v ≥ 4)))),(10,.p 1 0),(14,.v (.slice (some ⟨g114,0,none⟩) ((uLen (decide (v ≥ 4)) (qaa v (false,s))).toNat) c115)),(15,.v (.int .i32 (((uLen (decide (v ≥ 4)) (qaa v (false,s))).toNat:Nat):Int))),(16,.v (.int .i32 ((k122:Nat):Int))),(18,.p 3 0)] hS166 fun _ _ hS189=>?_
      clear hS166
      have hS190:=hS189.cast (σ':=(qav v (itS (qaf v) k122 (aLen (decide (v ≥ 4)) (qaa v (false,s)))))) rfl
      clear hS189
      refine qab ?_
      refine wp_seq ?_
      have l191:=hS190.lim
      refine qbR (Mid:=fun a_ w_=>∃ (D192:DV) (P':qbH),(∀ w F,P' w F → P164 w F ∧ ((∀ ad,D192.A = some ad → ∃ b o,ad = ⟨b,o,none⟩ ∧ AtF w F b o [.string D192.s]) ∧ D192.s.size ≤ 1000000) ∧ (qeQ D192.A D192.s:Tree) = qa1 v (itS (qaf v) k122 (aLen (decide (v ≥ 4)) (qaa v (false,s))))) ∧ RSU w (fun b o=>b = bv ∧ o < 5) F 145 b13 [⟨bv,0,[.int .i16 v,.string (bs (uTxt (decide (v ≥ 4)) (qai v (false,s)))),.string D56.s,.slice none 0 0,.map none],true⟩,qa4 g114 4 (.agg #[.string ByteArray.empty,.pointer none,.pointer none,.map none]) ((uLen (decide (v ≥ 4)) (qaa v (false,s))).toNat) (k122 + 1),⟨g114,k122 * 4,[.string (bs (uTxt (decide (v ≥ 4)) (qak v (itS (qaf v) k122 (aLen (decide (v ≥ 4)) (qaa v (false,s))))))),.pointer x163,.pointer D192.A,.map none],true⟩] [(2,.v (.bool un)),(7,.p 0 0),(8,.v (.int .i16 v)),(9,.v (.bool (decide (v ≥ 4)))),(10,.p 1 0),(14,.v (.slice (some ⟨g114,0,none⟩) ((uLen (decide (v ≥ 4)) (qaa v (false,s))).toNat) c115)),(15,.v (.int .i32 (((uLen (decide (v ≥ 4)) (qaa v (false,s))).toNat:Nat):Int))),(16,.v (.int .i32 ((k122:Nat):Int))),(18,.p 3 0)] P' (qax v (itS (qaf v) k122 (aLen (decide (v ≥ 4)) (qaa v (false,s))))) a_ w_) ?_ ?_
      ·
       refine wp_seq ?_
       refine qaW [(2,.v (.bool un)),(7,.p 0 0),(8,.v (.int .i16 v)),(9,.v (.bool (decide (v ≥ 4)))),(10,.p 1 0),(14,.v (.slice (some ⟨g114,0,none⟩) ((uLen (decide (v ≥ 4)) (qaa v (false,s))).toNat) c115)),(15,.v (.int .i32 (((uLen (decide (v ≥ 4)) (qaa v (false,s))).toNat:Nat):Int))),(16,.v (.int .i32 ((k122:Nat):Int))),(18,.p 3 0),(117,.v (.bool (decide (v ≥ 5))))] hS190 fun _ hS196=>qab ?_
       clear hS190
       refine qaM hS196.env_ (b:=decide (v ≥ 5)) kz (fun hc197=>?_) (fun hc197=>?_)
       ·
        refine wp_seq ?_
        refine qaW [(2,.v (.bool un)),(7,.p 0 0),(8,.v (.int .i16 v)),(9,.v (.bool (decide (v ≥ 4)))),(10,.p 1 0),(14,.v (.slice (some ⟨g114,0,none⟩) ((uLen (decide (v ≥ 4)) (qaa v (false,s))).toNat) c115)),(15,.v (.int .i32 (((uLen (decide (v ≥ 4)) (qaa v (false,s))).toNat:Nat):Int))),(16,.v (.int .i32 ((k122:Nat):Int))),(18,.p 3 0)] hS196 fun _ hS198=>?_
        clear hS196
        refine qab ?_
        refine wp_seq ?_
        refine qbR (Mid:=fun a_ w_=>∃ (x199:Option Addr) (P':qbH),(∀ w F,P' w F → P164 w F ∧ qcE x199 ((qcl (decide (v ≥ 4)) (qav v (itS (qaf v) k122 (aLen (decide (v ≥ 4)) (qaa v (false,s)))))).getD []) w F ∧ x199.isNone = (qcl (decide (v ≥ 4)) (qav v (itS (qaf v) k122 (aLen (decide (v ≥ 4)) (qaa v (false,s)))))).isNone) ∧ RSU w (fun b o=>b = bv ∧ o < 5) F 145 b13 [⟨bv,0,[.int .i16 v,.string (bs (uTxt (decide (v ≥ 4)) (qai v (false,s)))),.string D56.s,.slice none 0 0,.map none],true⟩,qa4 g114 4 (.agg #[.string ByteArray.empty,.pointer none,.pointer none,.map none]) ((uLen (decide (v ≥ 4)) (qaa v (false,s))).toNat) (k122 + 1),⟨g114,k122 * 4,[.string (bs (uTxt (decide (v ≥ 4)) (qak v (itS (qaf v) k122 (aLen (decide (v ≥ 4)) (qaa v (false,s))))))),.pointer x163,.pointer none,.map none],true⟩] [(2,.v (.bool un)),(7,.p 0 0),(8,.v (.int .i16 v)),(9,.v (.bool (decide (v ≥ 4)))),(10,.p 1 0),(14,.v (.slice (some ⟨g114,0,none⟩) ((uLen (decide (v ≥ 4)) (qaa v (false,s))).toNat) c115)),(15,.v (.int .i32 (((uLen (decide (v ≥ 4)) (qaa v (false,s))).toNat:Nat):Int))),(16,.v (.int .i32 ((k122:Nat):Int))),(18,.p 3 0),(21,.v (.pointer x199))] P' (qdL (decide (v ≥ 4)) (qav v (itS (qaf v) k122 (aLen (decide (v ≥ 4)) (qaa v (false,s)))))) a_ w_) ?_ ?_
        ·
         refine wp_seq ?_
         refine qaW [(2,.v (.bool un)),(7,.p 0 0),(8,.v (.int .i16 v)),(9,.v (.bool (decide (v ≥ 4)))),(10,.p 1 0),(14,.v (.slice (some ⟨g114,0,none⟩) ((uLen (decide (v ≥ 4)) (qaa v (false,s))).toNat) c115)),(15,.v (.int .i32 (((uLen (decide (v ≥ 4)) (qaa v (false,s))).toNat:Nat):Int))),(16,.v (.int .i32 ((k122:Nat):Int))),(18,.p 3 0),(118,.v (.bool (decide (v ≥ 4))))] hS198 fun _ hS203=>qab ?_
         clear hS198
         refine qaM hS203.env_ (b:=decide (v ≥ 4)) kz (fun hc204=>?_) (fun hc204=>?_)
         ·
          refine wp_seq ?_
          refine qaW [(2,.v (.bool un)),(7,.p 0 0),(8,.v (.int .i16 v)),(9,.v (.bool (decide (v ≥ 4)))),(10,.p 1 0),(14,.v (.slice (some ⟨g114,0,none⟩) ((uLen (decide (v ≥ 4)) (qaa v (false,s))).toNat) c115)),(15,.v (.int .i32 (((uLen (decide (v ≥ 4)) (qaa v (false,s))).toNat:Nat):Int))),(16,.v (.int .i32 ((k122:Nat):Int))),(18,.p 3 0),(119,.v (.bool un))] hS203 fun _ hS205=>qab ?_
          clear hS203
          refine qaM hS205.env_ (b:=un) kz (fun hc206=>?_) (fun hc206=>?_)
          ·
           refine qdQ (d:=120) (fun x207=>[(2,.v (.bool un)),(7,.p 0 0),(8,.v (.int .i16 v)),(9,.v (.bool (decide (v ≥ 4)))),(10,.p 1 0),(14,.v (.slice (some ⟨g114,0,none⟩) ((uLen (decide (v ≥ 4)) (qaa v (false,s))).toNat) c115)),(15,.v (.int .i32 (((uLen (decide (v ≥ 4)) (qaa v (false,s))).toNat:Nat):Int))),(16,.v (.int .i32 ((k122:Nat):Int))),(18,.p 3 0),(21,.v (.pointer x207))]) hS205 (qby (f:=(decide (v ≥ 4))) (hc204) (qav v (itS (qaf v) k122 (aLen (decide (v ≥ 4)) (qaa v (false,s)))))) (fun _=>(MvF.text _ _).and (MvF.is _)) Tryd.call96 fun x207 P209 _ _ hP210 hS208=>?_
           clear hS205
           refine qab ?_
           exact ⟨x207,_,fun w F h_=>⟨(hP210 _ _ h_).1,(hP210 _ _ h_).2⟩,hS208.pk (env':=[(2,.v (.bool un)),(7,.p 0 0),(8,.v (.int .i16 v)),(9,.v (.bool (decide (v ≥ 4)))),(10,.p 1 0),(14,.v (.slice (some ⟨g114,0,none⟩) ((uLen (decide (v ≥ 4)) (qaa v (false,s))).toNat) c115)),(15,.v (.int .i32 (((uLen (decide (v ≥ 4)) (qaa v (false,s))).toNat:Nat):Int))),(16,.v (.int .i32 ((k122:Nat):Int))),(18,.p 3 0),(21,.v (.pointer x207))])⟩
          refine qdQ (d:=121) (fun x211=>[(2,.v (.bool un)),(7,.p 0 0),(8,.v (.int .i16 v)),(9,.v (.bool (decide (v ≥ 4)))),(10,.p 1 0),(14,.v (.slice (some ⟨g114,0,none⟩) ((uLen (decide (v ≥ 4)) (qaa v (false,s))).toNat) c115)),(15,.v (.int .i32 (((uLen (decide (v ≥ 4)) (qaa v (false,s))).toNat:Nat):Int))),(16,.v (.int .i32 ((k122:Nat):Int))),(18,.p 3 0),(21,.v (.pointer x211))]) hS205 (qbP (f:=(decide (v ≥ 4))) (hc204) (qav v (itS (qaf v) k122 (aLen (decide (v ≥ 4)) (qaa v (false,s)))))) (fun _=>(MvF.text _ _).and (MvF.is _)) Tryd.call97 fun x211 P213 _ _ hP214 hS212=>?_
          clear hS205
          refine qab ?_
          exact ⟨x211,_,fun w F h_=>⟨(hP214 _ _ h_).1,(hP214 _ _ h_).2⟩,hS212.pk (env':=[(2,.v (.bool un)),(7,.p 0 0),(8,.v (.int .i16 v)),(9,.v (.bool (decide (v ≥ 4)))),(10,.p 1 0),(14,.v (.slice (some ⟨g114,0,none⟩) ((uLen (decide (v ≥ 4)) (qaa v (false,s))).toNat) c115)),(15,.v (.int .i32 (((uLen (decide (v ≥ 4)) (qaa v (false,s))).toNat:Nat):Int))),(16,.v (.int .i32 ((k122:Nat):Int))),(18,.p 3 0),(21,.v (.pointer x211))])⟩
         refine wp_seq ?_
         refine qaW [(2,.v (.bool un)),(7,.p 0 0),(8,.v (.int .i16 v)),(9,.v (.bool (decide (v ≥ 4)))),(10,.p 1 0),(14,.v (.slice (some ⟨g114,0,none⟩) ((uLen (decide (v ≥ 4)) (qaa v (false,s))).toNat) c115)),(15,.v (.int .i32 (((uLen (decide (v ≥ 4)) (qaa v (false,s))).toNat:Nat):Int))),(16,.v (.int .i32 ((k122:Nat):Int))),(18,.p 3 0),(122,.v (.bool un))] hS203 fun _ hS215=>qab ?_
         clear hS203
         refine qaM hS215.env_ (b:=un) kz (fun hc216=>?_) (fun hc216=>?_)
         ·
          refine qdQ (d:=123) (fun x217=>[(2,.v (.bool un)),(7,.p 0 0),(8,.v (.int .i16 v)),(9,.v (.bool (decide (v ≥ 4)))),(10,.p 1 0),(14,.v (.slice (some ⟨g114,0,none⟩) ((uLen (decide (v ≥ 4)) (qaa v (false,s))).toNat) c115)),(15,.v (.int .i32 (((uLen (decide (v ≥ 4)) (qaa v (false,s))).toNat:Nat):Int))),(16,.v (.int .i32 ((k122:Nat):Int))),(18,.p 3 0),(21,.v (.pointer x217))]) hS215 (qbU (f:=(decide (v ≥ 4))) (hc204) (qav v (itS (qaf v) k122 (aLen (decide (v ≥ 4)) (qaa v (false,s)))))) (fun _=>(MvF.text _ _).and (MvF.is _)) Tryd.call98 fun x217 P219 _ _ hP220 hS218=>?_
          clear hS215
          refine qab ?_
          exact ⟨x217,_,fun w F h_=>⟨(hP220 _ _ h_).1,(hP220 _ _ h_).2⟩,hS218.pk (env':=[(2,.v (.bool un)),(7,.p 0 0),(8,.v (.int .i16 v)),(9,.v (.bool (decide (v ≥ 4)))),(10,.p 1 0),(14,.v (.slice (some ⟨g114,0,none⟩) ((uLen (decide (v ≥ 4)) (qaa v (false,s))).toNat) c115)),(15,.v (.int .i32 (((uLen (decide (v ≥ 4)) (qaa v (false,s))).toNat:Nat):Int))),(16,.v (.int .i32 ((k122:Nat):Int))),(18,.p 3 0),(21,.v (.pointer x217))])⟩
         refine qdQ (d:=124) (fun x221=>[(2,.v (.bool un)),(7,.p 0 0),(8,.v (.int .i16 v)),(9,.v (.bool (decide (v ≥ 4)))),(10,.p 1 0),(14,.v (.slice (some ⟨g114,0,none⟩) ((uLen (decide (v ≥ 4)) (qaa v (false,s))).toNat) c115)),(15,.v (.int .i32 (((uLen (decide (v ≥ 4)) (qaa v (false,s))).toNat:Nat):Int))),(16,.v (.int .i32 ((k122:Nat):Int))),(18,.p 3 0),(21,.v (.pointer x221))]) hS215 (qcY (f:=(decide (v ≥ 4))) (hc204) (qav v (itS (qaf v) k122 (aLen (decide (v ≥ 4)) (qaa v (false,s)))))) (fun _=>(MvF.text _ _).and (MvF.is _)) Tryd.call99 fun x221 P223 _ _ hP224 hS222=>?_
         clear hS215
         refine qab ?_
         exact ⟨x221,_,fun w F h_=>⟨(hP224 _ _ h_).1,(hP224 _ _ h_).2⟩,hS222.pk (env':=[(2,.v (.bool un)),(7,.p 0 0),(8,.v (.int .i16 v)),(9,.v (.bool (decide (v ≥ 4)))),(10,.p 1 0),(14,.v (.slice (some ⟨g114,0,none⟩) ((uLen (decide (v ≥ 4)) (qaa v (false,s))).toNat) c115)),(15,.v (.int .i32 (((uLen (decide (v ≥ 4)) (qaa v (false,s))).toNat:Nat):Int))),(16,.v (.int .i32 ((k122:Nat):Int))),(18,.p 3 0),(21,.v (.pointer x221))])⟩
        rintro _ _ ⟨x199,P200,hP201,hS202⟩
        refine qab ?_
        refine qdJ [⟨bv,0,[.int .i16 v,.string (bs (uTxt (decide (v ≥ 4)) (qai v (false,s)))),.string D56.s,.slice none 0 0,.map none],true⟩,qa4 g114 4 (.agg #[.string ByteArray.empty,.pointer none,.pointer none,.map none]) ((uLen (decide (v ≥ 4)) (qaa v (false,s))).toNat) (k122 + 1),⟨g114,k122 * 4,[.string (bs (uTxt (decide (v ≥ 4)) (qak v (itS (qaf v) k122 (aLen (decide (v ≥ 4)) (qaa v (false,s))))))),.pointer x163,.pointer x199,.map none],true⟩] 2 [(2,.v (.bool un)),(7,.p 0 0),(8,.v (.int .i16 v)),(9,.v (.bool (decide (v ≥ 4)))),(10,.p 1 0),(14,.v (.slice (some ⟨g114,0,none⟩) ((uLen (decide (v ≥ 4)) (qaa v (false,s))).toNat) c115)),(15,.v (.int .i32 (((uLen (decide (v ≥ 4)) (qaa v (false,s))).toNat:Nat):Int))),(16,.v (.int .i32 ((k122:Nat):Int))),(18,.p 3 0)] hS202 fun _ _ hS225=>?_
        clear hS202
        refine qab ?_
        have hS226:=hS225.cast (σ':=(qax v (itS (qaf v) k122 (aLen (decide (v ≥ 4)) (qaa v (false,s)))))) (by unfold qax qa0; rw [if_pos hc197])
        exact ⟨dvT x199 (bs ((qcl (decide (v ≥ 4)) (qav v (itS (qaf v) k122 (aLen (decide (v ≥ 4)) (qaa v (false,s)))))).getD [])),_,fun w F h_=>⟨(hP201 _ _ h_).1,⟨(hP201 _ _ h_).2.1,by show ByteArray.size (bs _) ≤ 1000000; rw [qee]; exact Nat.le_trans (qe3 _ _) (Nat.le_trans l191 (by decide))⟩,by unfold qa1 qbc; rw [if_pos hc197] <;> exact qhz (hP201 _ _ h_).2.2⟩,hS226.pk (env':=[(2,.v (.bool un)),(7,.p 0 0),(8,.v (.int .i16 v)),(9,.v (.bool (decide (v ≥ 4)))),(10,.p 1 0),(14,.v (.slice (some ⟨g114,0,none⟩) ((uLen (decide (v ≥ 4)) (qaa v (false,s))).toNat) c115)),(15,.v (.int .i32 (((uLen (decide (v ≥ 4)) (qaa v (false,s))).toNat:Nat):Int))),(16,.v (.int .i32 ((k122:Nat):Int))),(18,.p 3 0)])⟩
       refine wp_skip (qab ?_)
       have hS227:=hS196.cast (σ':=(qax v (itS (qaf v) k122 (aLen (decide (v ≥ 4)) (qaa v (false,s)))))) (by unfold qax qa0; rw [if_neg (by rw [hc197]; decide)])
       exact ⟨dvT none ByteArray.empty,_,fun w F h_=>⟨h_,⟨fun _ h=>(by cases h),Nat.zero_le _⟩,by unfold qa1 qbc; rw [if_neg (by rw [hc197]; decide)] <;> exact rfl⟩,hS227.pk (env':=[(2,.v (.bool un)),(7,.p 0 0),(8,.v (.int .i16 v)),(9,.v (.bool (decide (v ≥ 4)))),(10,.p 1 0),(14,.v (.slice (some ⟨g114,0,none⟩) ((uLen (decide (v ≥ 4)) (qaa v (false,s))).toNat) c115)),(15,.v (.int .i32 (((uLen (decide (v ≥ 4)) (qaa v (false,s))).toNat:Nat):Int))),(16,.v (.int .i32 ((k122:Nat):Int))),(18,.p 3 0)])⟩
      rintro _ _ ⟨D192,P193,hP194,hS195⟩
      refine qab ?_
      have l228:=hS195.lim
      refine qbR (Mid:=fun a_ w_=>∃ (m230:Option Nat) (u231:List (Int × Bs)) (P':qbH),(∀ w F,P' w F → P193 w F ∧ (MapR w F m230 u231 ∧ u231.length ≤ 1000000 ∧ ∀ x ∈ u231,x.2.length < 4294967296) ∧ u231 = qa3 v (itS (qaf v) k122 (aLen (decide (v ≥ 4)) (qaa v (false,s))))) ∧ RSU w (fun b o=>b = bv ∧ o < 5) F 145 b13 [⟨bv,0,[.int .i16 v,.string (bs (uTxt (decide (v ≥ 4)) (qai v (false,s)))),.string D56.s,.slice none 0 0,.map none],true⟩,qa4 g114 4 (.agg #[.string ByteArray.empty,.pointer none,.pointer none,.map none]) ((uLen (decide (v ≥ 4)) (qaa v (false,s))).toNat) (k122 + 1),⟨g114,k122 * 4,[.string (bs (uTxt (decide (v ≥ 4)) (qak v (itS (qaf v) k122 (aLen (decide (v ≥ 4)) (qaa v (false,s))))))),.pointer x163,.pointer D192.A,.map m230],true⟩] [(2,.v (.bool un)),(7,.p 0 0),(8,.v (.int .i16 v)),(9,.v (.bool (decide (v ≥ 4)))),(10,.p 1 0),(14,.v (.slice (some ⟨g114,0,none⟩) ((uLen (decide (v ≥ 4)) (qaa v (false,s))).toNat) c115)),(15,.v (.int .i32 (((uLen (decide (v ≥ 4)) (qaa v (false,s))).toNat:Nat):Int))),(16,.v (.int .i32 ((k122:Nat):Int)))] P' (qaH v (itS (qaf v) k122 (aLen (decide (v ≥ 4)) (qaa v (false,s))))) a_ w_) ?_ ?_
      ·
       refine wp_seq ?_
       refine qaW [(2,.v (.bool un)),(7,.p 0 0),(8,.v (.int .i16 v)),(9,.v (.bool (decide (v ≥ 4)))),(10,.p 1 0),(14,.v (.slice (some ⟨g114,0,none⟩) ((uLen (decide (v ≥ 4)) (qaa v (false,s))).toNat) c115)),(15,.v (.int .i32 (((uLen (decide (v ≥ 4)) (qaa v (false,s))).toNat:Nat):Int))),(16,.v (.int .i32 ((k122:Nat):Int))),(18,.p 3 0),(129,.v (.bool (decide (v ≥ 4))))] hS195 fun _ hS235=>qab ?_
       clear hS195
       refine qaM hS235.env_ (b:=decide (v ≥ 4)) kz (fun hc236=>?_) (fun hc236=>?_)
       ·
        refine qay [0,1,2,3,4] kz ?_
        refine qbK [0] [1,2,3,4] [(2,.v (.bool un)),(7,.p 0 0),(8,.v (.int .i16 v)),(9,.v (.bool (decide (v ≥ 4)))),(10,.p 1 0),(14,.v (.slice (some ⟨g114,0,none⟩) ((uLen (decide (v ≥ 4)) (qaa v (false,s))).toNat) c115)),(15,.v (.int .i32 (((uLen (decide (v ≥ 4)) (qaa v (false,s))).toNat:Nat):Int))),(16,.v (.int .i32 ((k122:Nat):Int))),(130,.p 3 0)] hS235 fun _ hS237=>?_
        clear hS235
        refine qaj (qeI (d:=131) hS237 (qig (qax v (itS (qaf v) k122 (aLen (decide (v ≥ 4)) (qaa v (false,s)))))) (fun _=>MvF.tags _ _) Tryd.call91 fun m238 P239 _ _ hP240 hS241=>?_)
        clear hS237
        refine qbK [2,3] [4] [(2,.v (.bool un)),(7,.p 0 0),(8,.v (.int .i16 v)),(9,.v (.bool (decide (v ≥ 4)))),(10,.p 1 0),(14,.v (.slice (some ⟨g114,0,none⟩) ((uLen (decide (v ≥ 4)) (qaa v (false,s))).toNat) c115)),(15,.v (.int .i32 (((uLen (decide (v ≥ 4)) (qaa v (false,s))).toNat:Nat):Int))),(16,.v (.int .i32 ((k122:Nat):Int))),(131,.v (.agg #[.map m238])),(133,.p 3 3)] hS241 fun _ hS242=>?_
        clear hS241
        refine qaj (qeY [⟨bv,0,[.int .i16 v,.string (bs (uTxt (decide (v ≥ 4)) (qai v (false,s)))),.string D56.s,.slice none 0 0,.map none],true⟩,qa4 g114 4 (.agg #[.string ByteArray.empty,.pointer none,.pointer none,.map none]) ((uLen (decide (v ≥ 4)) (qaa v (false,s))).toNat) (k122 + 1),⟨g114,k122 * 4,[.string (bs (uTxt (decide (v ≥ 4)) (qak v (itS (qaf v) k122 (aLen (decide (v ≥ 4)) (qaa v (false,s))))))),.pointer x163,.pointer D192.A,.map m238],true⟩] 2 hS242 fun _ hS243=>?_)
        clear hS242
        refine qae ?_
        have hS244:=hS243.pk (env':=[(2,.v (.bool un)),(7,.p 0 0),(8,.v (.int .i16 v)),(9,.v (.bool (decide (v ≥ 4)))),(10,.p 1 0),(14,.v (.slice (some ⟨g114,0,none⟩) ((uLen (decide (v ≥ 4)) (qaa v (false,s))).toNat) c115)),(15,.v (.int .i32 (((uLen (decide (v ≥ 4)) (qaa v (false,s))).toNat:Nat):Int))),(16,.v (.int .i32 ((k122:Nat):Int)))])
        clear hS243
        refine qab ?_
        have hS245:=hS244.cast (σ':=(qaH v (itS (qaf v) k122 (aLen (decide (v ≥ 4)) (qaa v (false,s)))))) (by unfold qaH qa2; rw [if_pos hc236])
        exact ⟨m238,qdK (qax v (itS (qaf v) k122 (aLen (decide (v ≥ 4)) (qaa v (false,s))))),_,fun w F h_=>⟨(hP240 _ _ h_).1,⟨(hP240 _ _ h_).2,Nat.le_trans (qd2 _).1 (by have:=l228; omega),fun x_ hx_=>Nat.lt_of_le_of_lt ((qd2 _).2 x_ hx_) (by have:=l228; omega)⟩,by unfold qa3 qbd; rw [if_pos hc236] <;> exact rfl⟩,hS245.pk (env':=[(2,.v (.bool un)),(7,.p 0 0),(8,.v (.int .i16 v)),(9,.v (.bool (decide (v ≥ 4)))),(10,.p 1 0),(14,.v (.slice (some ⟨g114,0,none⟩) ((uLen (decide (v ≥ 4)) (qaa v (false,s))).toNat) c115)),(15,.v (.int .i32 (((uLen (decide (v ≥ 4)) (qaa v (false,s))).toNat:Nat):Int))),(16,.v (.int .i32 ((k122:Nat):Int)))])⟩
       refine wp_skip (qab ?_)
       have hS246:=hS235.cast (σ':=(qaH v (itS (qaf v) k122 (aLen (decide (v ≥ 4)) (qaa v (false,s)))))) (by unfold qaH qa2; rw [if_neg (by rw [hc236]; decide)])
       exact ⟨none,[],_,fun w F h_=>⟨h_,⟨MapR.nil _ _,Nat.zero_le _,fun _ h=>by cases h⟩,by unfold qa3 qbd; rw [if_neg (by rw [hc236]; decide)] <;> exact rfl⟩,hS246.pk (env':=[(2,.v (.bool un)),(7,.p 0 0),(8,.v (.int .i16 v)),(9,.v (.bool (decide (v ≥ 4)))),(10,.p 1 0),(14,.v (.slice (some ⟨g114,0,none⟩) ((uLen (decide (v ≥ 4)) (qaa v (false,s))).toNat) c115)),(15,.v (.int .i32 (((uLen (decide (v ≥ 4)) (qaa v (false,s))).toNat:Nat):Int))),(16,.v (.int .i32 ((k122:Nat):Int)))])⟩
      rintro _ _ ⟨m230,u231,P232,hP233,hS234⟩
      refine qaT ?_
      refine qab ?_
      refine qaW [(2,.v (.bool un)),(7,.p 0 0),(8,.v (.int .i16 v)),(9,.v (.bool (decide (v ≥ 4)))),(10,.p 1 0),(14,.v (.slice (some ⟨g114,0,none⟩) ((uLen (decide (v ≥ 4)) (qaa v (false,s))).toNat) c115)),(15,.v (.int .i32 (((uLen (decide (v ≥ 4)) (qaa v (false,s))).toNat:Nat):Int))),(16,.v (.int .i32 (IntKind.i32.wrap (((k122:Nat):Int) + 1))))] hS234 fun _ hS247=>?_
      clear hS234
      refine qab ?_
      have hS248:=(hS247.envEq (env':=[(2,.v (.bool un)),(7,.p 0 0),(8,.v (.int .i16 v)),(9,.v (.bool (decide (v ≥ 4)))),(10,.p 1 0),(14,.v (.slice (some ⟨g114,0,none⟩) ((uLen (decide (v ≥ 4)) (qaa v (false,s))).toNat) c115)),(15,.v (.int .i32 (((uLen (decide (v ≥ 4)) (qaa v (false,s))).toNat:Nat):Int))),(16,.v (.int .i32 ((k122 + 1:Nat):Int)))]) (by rw [qg2 (by omega)])).pk (env':=[(2,.v (.bool un)),(7,.p 0 0),(8,.v (.int .i16 v)),(9,.v (.bool (decide (v ≥ 4)))),(10,.p 1 0),(14,.v (.slice (some ⟨g114,0,none⟩) ((uLen (decide (v ≥ 4)) (qaa v (false,s))).toNat) c115)),(15,.v (.int .i32 (((uLen (decide (v ≥ 4)) (qaa v (false,s))).toNat:Nat):Int))),(16,.v (.int .i32 ((k122 + 1:Nat):Int)))])
      clear hS247
      exact (RSU.thing (tb:=[⟨bv,0,[.int .i16 v,.string (bs (uTxt (decide (v ≥ 4)) (qai v (false,s)))),.string D56.s,.slice none 0 0,.map none],true⟩]) (z:=.agg #[.string ByteArray.empty,.pointer none,.pointer none,.map none]) (D:=(dvP m230 u231 [dvS (bs (uTxt (decide (v ≥ 4)) (qak v (itS (qaf v) k122 (aLen (decide (v ≥ 4)) (qaa v (false,s))))))),dvT x163 (bs ((qcl (decide (v ≥ 4)) (qau v (itS (qaf v) k122 (aLen (decide (v ≥ 4)) (qaa v (false,s)))))).getD [])),D192])) (hS248.cast (σ':=(itS (qaf v) (k122 + 1) (aLen (decide (v ≥ 4)) (qaa v (false,s))))) rfl) hg_g114 qaK hmP125 rfl (fun w F h_=>⟨(hP129 _ _ (hP165 _ _ (hP194 _ _ (hP233 _ _ h_).1).1).1).1,(hP129 _ _ (hP165 _ _ (hP194 _ _ (hP233 _ _ h_).1).1).1).2,⟨(by show ByteArray.size (bs _) ≤ 1000000; rw [qee]; exact Nat.le_trans (qeL _ _) (Nat.le_trans l140 (by decide))),(⟨(hP165 _ _ (hP194 _ _ (hP233 _ _ h_).1).1).2.1,by show ByteArray.size (bs _) ≤ 1000000; rw [qee]; exact Nat.le_trans (qe3 _ _) (Nat.le_trans l162 (by decide))⟩),((hP194 _ _ (hP233 _ _ h_).1).2.1),(hP233 _ _ h_).2.1.1,(hP233 _ _ h_).2.1.2.1,(hP233 _ _ h_).2.1.2.2,trivial⟩,(trc (tlc (rfl) (tlc (qhz (hP165 _ _ (hP194 _ _ (hP233 _ _ h_).1).1).2.2) (tlc ((hP194 _ _ (hP233 _ _ h_).1).2.2) rfl))) (hP233 _ _ h_).2.2)⟩) kz)
     refine wp_seq ?_
     refine wp_seq ?_
     refine qaW [(2,.v (.bool un)),(7,.p 0 0),(8,.v (.int .i16 v)),(9,.v (.bool (decide (v ≥ 4)))),(10,.p 1 0),(14,.v (.slice (some ⟨g114,0,none⟩) ((uLen (decide (v ≥ 4)) (qaa v (false,s))).toNat) c115)),(15,.v (.int .i32 (((uLen (decide (v ≥ 4)) (qaa v (false,s))).toNat:Nat):Int))),(16,.v (.int .i32 (((uLen (decide (v ≥ 4)) (qaa v (false,s))).toNat:Nat):Int))),(85,.v (.bool (decide ((((uLen (decide (v ≥ 4)) (qaa v (false,s))).toNat:Nat):Int) < (((uLen (decide (v ≥ 4)) (qaa v (false,s))).toNat:Nat):Int)))))] hS127 fun _ hS249=>qab ?_
     clear hS127
     refine qam hS249.env_ (b:=decide ((((uLen (decide (v ≥ 4)) (qaa v (false,s))).toNat:Nat):Int) < (((uLen (decide (v ≥ 4)) (qaa v (false,s))).toNat:Nat):Int))) kz (decide_eq_false (by omega)) ?_
     refine wp_exit ?_
     refine qaL ?_
     refine qaL ?_
     refine qa9 ?_
     refine qab ?_
     obtain ⟨f250,hS251⟩:=RSU.listEnd (tb:=[⟨bv,0,[.int .i16 v,.string (bs (uTxt (decide (v ≥ 4)) (qai v (false,s)))),.string D56.s,.slice none 0 0,.map none],true⟩]) (c:=c115) (hS249.pk (env':=[(7,.p 0 0),(9,.v (.bool (decide (v ≥ 4)))),(10,.p 1 0),(14,.v (.slice (some ⟨g114,0,none⟩) ((uLen (decide (v ≥ 4)) (qaa v (false,s))).toNat) c115))])) hg_g114 qaK hmP125 hcap_g114 (by omega) hn_g114 kz
     exact ⟨dvL (some ⟨g114,0,none⟩) (uLen (decide (v ≥ 4)) (qaa v (false,s))).toNat c115 f250,_,fun w F h_=>⟨h_.1,⟨h_.2.1,Nat.le_trans hN111 (by decide),h_.2.2.1⟩,qhg (decide_eq_false (by omega)).symm h_.2.2.2⟩,hS251⟩
    have hnp_g114:¬ (0 < uLen (decide (v ≥ 4)) (qaa v (false,s))):=of_decide_eq_false hc113
    refine wp_skip ?_
    refine qab ?_
    refine wp_seq ?_
    refine qaW [(2,.v (.bool un)),(7,.p 0 0),(8,.v (.int .i16 v)),(9,.v (.bool (decide (v ≥ 4)))),(10,.p 1 0),(14,.v (.slice none 0 0)),(15,.v (.int .i32 (uLen (decide (v ≥ 4)) (qaa v (false,s))))),(16,.v (.int .i32 0))] hS112 fun _ hS252=>?_
    clear hS112
    refine qab ?_
    refine wp_block ?_
    refine qfy ?_
    refine wp_seq ?_
    refine wp_seq ?_
    refine qaW [(2,.v (.bool un)),(7,.p 0 0),(8,.v (.int .i16 v)),(9,.v (.bool (decide (v ≥ 4)))),(10,.p 1 0),(14,.v (.slice none 0 0)),(15,.v (.int .i32 (uLen (decide (v ≥ 4)) (qaa v (false,s))))),(16,.v (.int .i32 0)),(85,.v (.bool (decide (0 < (uLen (decide (v ≥ 4)) (qaa v (false,s)))))))] hS252 fun _ hS253=>qab ?_
    clear hS252
    refine qam hS253.env_ (b:=decide (0 < (uLen (decide (v ≥ 4)) (qaa v (false,s))))) kz (hc113) ?_
    refine wp_exit ?_
    refine qaL ?_
    refine qaL ?_
    refine qa9 ?_
    refine qab ?_
    have hz254:(uLen (decide (v ≥ 4)) (qaa v (false,s))).toNat = 0:=by omega
    exact ⟨dvL none 0 0 (fun _=>dv0),_,fun w F h_=>⟨h_,⟨Slots.nil _ _ _ _,Nat.zero_le _,fun _ h=>absurd h (Nat.not_lt_zero _)⟩,qgB (decide_eq_true (by omega)).symm hz254⟩,(hS253.cast (σ':=(itS (qaf v) (uLen (decide (v ≥ 4)) (qaa v (false,s))).toNat (aLen (decide (v ≥ 4)) (qaa v (false,s))))) (by rw [hz254]; rfl)).pk (env':=[(7,.p 0 0),(9,.v (.bool (decide (v ≥ 4)))),(10,.p 1 0),(14,.v (.slice none 0 0))])⟩
   rintro _ _ ⟨D107,P108,hP109,hS110⟩
   refine wp_seq ?_
   refine qaW [(7,.p 0 0),(9,.v (.bool (decide (v ≥ 4)))),(10,.p 1 0),(13,.v (.slice D107.A D107.l D107.c))] hS110 fun _ hS255=>?_
   clear hS110
   refine qab ?_
   refine qdJ [⟨bv,0,[.int .i16 v,.string (bs (uTxt (decide (v ≥ 4)) (qai v (false,s)))),.string D56.s,.slice D107.A D107.l D107.c,.map none],true⟩] 0 [(7,.p 0 0),(9,.v (.bool (decide (v ≥ 4)))),(10,.p 1 0)] hS255 fun _ _ hS256=>?_
   clear hS255
   refine qab ?_
   have hS257:=hS256.cast (σ':=(qaz v (false,s))) (by unfold qaz qbj; rw [if_pos hc96])
   exact ⟨D107,_,fun w F h_=>⟨(hP109 _ _ h_).1,(hP109 _ _ h_).2.1,by unfold qbk qbD; rw [if_pos hc96] <;> exact (hP109 _ _ h_).2.2⟩,hS257.pk (env':=[(7,.p 0 0),(9,.v (.bool (decide (v ≥ 4)))),(10,.p 1 0)])⟩
  refine wp_skip (qab ?_)
  have hS258:=hS95.cast (σ':=(qaz v (false,s))) (by unfold qaz qbj; rw [if_neg (by rw [hc96]; decide)])
  exact ⟨dvL none 0 0 (fun _=>dv0),_,fun w F h_=>⟨h_,⟨Slots.nil _ _ _ _,Nat.zero_le _,fun _ h=>absurd h (Nat.not_lt_zero _)⟩,by unfold qbk qbD; rw [if_neg (by rw [hc96]; decide)] <;> exact rfl⟩,hS258.pk (env':=[(7,.p 0 0),(9,.v (.bool (decide (v ≥ 4)))),(10,.p 1 0)])⟩
 rintro _ _ ⟨D91,P92,hP93,hS94⟩
 refine qab ?_
 refine wp_seq ?_
 have l259:=hS94.lim
 refine qbR (Mid:=fun a_ w_=>∃ (m261:Option Nat) (u262:List (Int × Bs)) (P':qbH),(∀ w F,P' w F → P92 w F ∧ (MapR w F m261 u262 ∧ u262.length ≤ 1000000 ∧ ∀ x ∈ u262,x.2.length < 4294967296) ∧ u262 = qbm v (false,s)) ∧ RSU w (fun b o=>b = bv ∧ o < 5) F 145 b13 [⟨bv,0,[.int .i16 v,.string (bs (uTxt (decide (v ≥ 4)) (qai v (false,s)))),.string D56.s,.slice D91.A D91.l D91.c,.map m261],true⟩] [(7,.p 0 0)] P' (qaO v (false,s)) a_ w_) ?_ ?_
 ·
  refine wp_seq ?_
  refine qaW [(7,.p 0 0),(10,.p 1 0),(139,.v (.bool (decide (v ≥ 4))))] hS94 fun _ hS266=>qab ?_
  clear hS94
  refine qaM hS266.env_ (b:=decide (v ≥ 4)) kz (fun hc267=>?_) (fun hc267=>?_)
  ·
   refine qay [0,1,2,3,4] kz ?_
   refine qbK [0] [1,2,3,4] [(7,.p 0 0),(140,.p 1 0)] hS266 fun _ hS268=>?_
   clear hS266
   refine qaj (qeI (d:=141) hS268 (qig (qaz v (false,s))) (fun _=>MvF.tags _ _) Tryd.call91 fun m269 P270 _ _ hP271 hS272=>?_)
   clear hS268
   refine qbK [2,3] [4] [(7,.p 0 0),(141,.v (.agg #[.map m269])),(143,.p 1 4)] hS272 fun _ hS273=>?_
   clear hS272
   refine qaj (qeY [⟨bv,0,[.int .i16 v,.string (bs (uTxt (decide (v ≥ 4)) (qai v (false,s)))),.string D56.s,.slice D91.A D91.l D91.c,.map m269],true⟩] 0 hS273 fun _ hS274=>?_)
   clear hS273
   refine qae ?_
   have hS275:=hS274.pk (env':=[(7,.p 0 0)])
   clear hS274
   refine qab ?_
   have hS276:=hS275.cast (σ':=(qaO v (false,s))) (by unfold qaO qbl; rw [if_pos hc267])
   exact ⟨m269,qdK (qaz v (false,s)),_,fun w F h_=>⟨(hP271 _ _ h_).1,⟨(hP271 _ _ h_).2,Nat.le_trans (qd2 _).1 (by have:=l259; omega),fun x_ hx_=>Nat.lt_of_le_of_lt ((qd2 _).2 x_ hx_) (by have:=l259; omega)⟩,by unfold qbm qbE; rw [if_pos hc267] <;> exact rfl⟩,hS276.pk (env':=[(7,.p 0 0)])⟩
  refine wp_skip (qab ?_)
  have hS277:=hS266.cast (σ':=(qaO v (false,s))) (by unfold qaO qbl; rw [if_neg (by rw [hc267]; decide)])
  exact ⟨none,[],_,fun w F h_=>⟨h_,⟨MapR.nil _ _,Nat.zero_le _,fun _ h=>by cases h⟩,by unfold qbm qbE; rw [if_neg (by rw [hc267]; decide)] <;> exact rfl⟩,hS277.pk (env':=[(7,.p 0 0)])⟩
 rintro _ _ ⟨m261,u262,P263,hP264,hS265⟩
 refine qab ?_
 refine wp_seq ?_
 refine (Bool.eq_false_or_eq_true ((qaO v (false,s))).1).elim (fun hb278=>?_) (fun hb278=>?_)
 ·
  refine qay [0,1] kz (qaj (qdC (d:=144) (ev:=ev) hS265 (hb278) (fun w F h_=>(hP58 _ _ (hP93 _ _ (hP264 _ _ h_).1).1).1) (fun hs_ hg_ hf_=>qev hs_ hg_ hf_) Tryd.call81 fun _ hS279=>?_))
  clear hS265
  refine qbK [1] [] [(6,.v (ev))] hS279 fun _ hS280=>qae ?_
  clear hS279
  refine qab ?_
  refine wp_ret ?_
  obtain ⟨A_,m_,c_,hW_,hr_,hE_,hP_⟩:=hS280.open_
  refine qaQ hE_ hW_.cells (v:=ev) kz (.inl ⟨(hb278),rfl,⟨_,Str.of hW_ 1 rfl,rfl⟩,hW_.step⟩)
 refine qay [0,1] kz (qaj (qeX (d:=144) hS265 (fun hs_=>qgo (by rw [hb278] at hs_; exact hs_)) Tryd.call81 fun _ hS281=>?_))
 clear hS265
 refine qbK [1] [] [(6,.v (.nilIface))] hS281 fun _ hS282=>qae ?_
 clear hS281
 refine qab ?_
 refine wp_ret ?_
 obtain ⟨A_,m_,c_,hW_,hr_,hE_,hP_⟩:=hS282.open_
 refine qaQ hE_ hW_.cells (v:=.nilIface) kz ?_
 have h_:=hS282.mv.mono qbg hP_
 refine .inr ⟨hb278,(dvP m261 u262 [dvS (bs (uTxt (decide (v ≥ 4)) (qai v (false,s)))),D56,D91]),rfl,Str.of hW_ 1 rfl,?_,(trc (tlc (rfl) (tlc ((hP58 _ _ (hP93 _ _ (hP264 _ _ h_).1).1).2.2) (tlc ((hP93 _ _ (hP264 _ _ h_).1).2.2) rfl))) (hP264 _ _ h_).2.2),hW_.step⟩
 unfold qaX
 exact ⟨(by show ByteArray.size (bs _) ≤ 1000000; rw [qee]; exact Nat.le_trans (qeL _ _) (Nat.le_trans l34 (by decide))),((hP58 _ _ (hP93 _ _ (hP264 _ _ h_).1).1).2.1),((hP93 _ _ (hP264 _ _ h_).1).2.1),(hP264 _ _ h_).2.1.1,(hP264 _ _ h_).2.1.2.1,(hP264 _ _ h_).2.1.2.2,trivial⟩
theorem qbV (v:Int) (un:Bool) (s:Bs) (hl:s.length ≤ 1000) {ev:Value} {bv:Nat} {A:Option Addr} {c:Nat} {w:World} {F:Nat → Nat → Prop} (hst:Str w bv [.int .i16 v,.string ByteArray.empty,.string ByteArray.empty,.slice none 0 0,.map none]) (ho:Octs w F A c s) (hgl:AtF w F 1 0 [ev]) (hFd:∀ b o,F b o → ¬ (b = bv ∧ o < 5)) (hb:(qaB v (false,s)).1 = true) :
  Calls Tryd.prog 65 #[.pointer (some ⟨bv,0,none⟩),.slice A s.length c,.bool un] w (fun e w'=>e = .returned ev ∧ (∃ cs,Str w' bv cs ∧ cs.length = 5) ∧ Step w w' (fun b o=>b = bv ∧ o < 5)):=(qcj v un s hl hst ho hgl hFd).mono fun e w' h=>by
 rcases h with ⟨_,h⟩ | ⟨h,_⟩
 ·exact h
 rw [hb] at h; cases h
theorem qbW (v:Int) (un:Bool) (s:Bs) (hl:s.length ≤ 1000) {ev:Value} {bv:Nat} {A:Option Addr} {c:Nat} {w:World} {F:Nat → Nat → Prop} (hst:Str w bv [.int .i16 v,.string ByteArray.empty,.string ByteArray.empty,.slice none 0 0,.map none]) (ho:Octs w F A c s) (hgl:AtF w F 1 0 [ev]) (hFd:∀ b o,F b o → ¬ (b = bv ∧ o < 5)) (hb:(qaB v (false,s)).1 = false) :
  Calls Tryd.prog 65 #[.pointer (some ⟨bv,0,none⟩),.slice A s.length c,.bool un] w (fun e w'=>∃ D:DV,e = .returned .nilIface ∧ Str w' bv [.int .i16 v,.string ((D.f 0).s),.string ((D.f 1).s),.slice ((D.f 2).A) ((D.f 2).l) ((D.f 2).c),.map D.m] ∧ qaX w' (Fp F w) D ∧ qbb D = qbw v (false,s) ∧ Step w w' (fun b o=>b = bv ∧ o < 5)):=(qcj v un s hl hst ho hgl hFd).mono fun e w' h=>by
 rcases h with ⟨h,_⟩ | ⟨_,h⟩
 ·rw [hb] at h; cases h
 exact h
end Go.Proofs.YtajibgahdkllkaaDoorR.ME
namespace Go.Proofs.YtajibgahdkllkaaDoorR.ME
open Go
open Go.RowKit
set_option linter.unusedVariables false
set_option linter.unusedSimpArgs false
set_option maxRecDepth 20000
set_option maxHeartbeats 4000000 in
theorem qcn (v:Int) (s:Bs) (hl:s.length ≤ 1000) {ue:TypeId} {ve:Value} {A2:Option Addr} {c2:Nat} {w:World} {F:Nat → Nat → Prop} (hs_:Octs w F A2 c2 s) (hgl:AtF w F 1 0 [.iface ue ve]) (hb:(qaB (IntKind.i16.wrap v) (false,s)).1 = true) :
  Calls Tryd.prog 18 #[.int .i64 v,.slice A2 s.length c2] w (fun e w'=>∃ cs,e = .returned (.tuple #[.agg cs.toArray,.bool false]) ∧ TreeR w' (Fp F w) cs (.zero) ∧ Step w w' Nil):=by
 refine enter (n:=20) Tryd.func18 rfl Tryd.ntmps18 kz fun a hE=>?_
 have hW:=WOk.start w Nil
 have hsm2:=Slots.small hs_
 refine qad [0,1] kz ?_
 refine qaj (qaA hW hE (d:=4) (cs:=[.int .i64 0,.slice none 0 0,.bool false,.slice none 0 0,.slice none 0 0]) kz fun b1 a2 w3 hb4 hz5 hF6 hW7 hE8=>?_)
 refine qal [1] [] [(0,.v (.int .i64 v)),(1,.v (.slice A2 s.length c2)),(4,.p 0 0)] hW7 hE8 fun a9 hE10=>?_
 refine qae (qab ?_)
 refine qad [0,1] kz ?_
 refine qaj (qaN hE10 (f:=38) (vs:=[]) (d:=7) (n':=3) kz Tryd.call38 Tryd.func38 rfl Tryd.ntmps38 kz fun a11 hE12=>?_)
 refine qar [] hW7 hE12 fun a13 hE14=>?_
 refine qad [0] kz ?_
 refine qaj (qaA hW7 hE14 (d:=1) (cs:=[.int .i16 0,.string ByteArray.empty,.string ByteArray.empty,.slice none 0 0,.map none]) kz fun b15 a16 w17 hb18 hz19 hF20 hW21 hE22=>?_)
 refine qae (qab ?_)
 refine qad [0] kz ?_
 refine qaj (qaN hE22 (f:=64) (vs:=[.pointer (some ⟨b15,0,none⟩)]) (d:=2) (n':=2) kz Tryd.call64 Tryd.func64 rfl Tryd.ntmps64 kz fun a23 hE24=>?_)
 have hE25:=hE24.recast 0 (.v (.pointer (some ⟨b15,0,none⟩))) (.p 1 0) rfl rfl (Nat.le_of_ble_eq_true (n:=2) rfl)
 refine wp_skip ?_
 refine qba hE25 hW21.cells (v:=.tuple #[]) kz ?_
 refine ⟨_,rfl,fun a26 hE27=>?_⟩
 have hE28:=(EnvOk.places (tb':=[⟨b1,0,[.int .i64 0,.slice none 0 0,.bool false,.slice none 0 0,.slice none 0 0],true⟩,⟨b15,0,[.int .i16 0,.string ByteArray.empty,.string ByteArray.empty,.slice none 0 0,.map none],true⟩]) hE27 (show Pl [⟨b1,0,[.int .i64 0,.slice none 0 0,.bool false,.slice none 0 0,.slice none 0 0],true⟩,⟨b15,0,[.int .i16 0,.string ByteArray.empty,.string ByteArray.empty,.slice none 0 0,.map none],true⟩] [⟨b1,0,[.int .i64 0,.slice none 0 0,.bool false,.slice none 0 0,.slice none 0 0],true⟩,⟨b15,0,[.int .i16 0,.string ByteArray.empty,.string ByteArray.empty,.slice none 0 0,.map none],true⟩] from ⟨rfl,rfl,⟨rfl,rfl,trivial⟩⟩)).pk (env':=[(2,.v (.tuple #[])),(1,.p 1 0)])
 refine qae (qab ?_)
 refine qar [(0,.p 1 0)] hW21 hE28 fun a29 hE30=>?_
 refine wp_ret ?_
 refine qaQ hE30 hW21.cells (v:=.pointer (some ⟨b15,0,none⟩)) kz ?_
 refine ⟨_,rfl,fun a31 hE32=>?_⟩
 have hE33:=(EnvOk.places (tb':=[⟨b1,0,[.int .i64 0,.slice none 0 0,.bool false,.slice none 0 0,.slice none 0 0],true⟩,⟨b15,0,[.int .i16 0,.string ByteArray.empty,.string ByteArray.empty,.slice none 0 0,.map none],true⟩]) hE32 (show Pl [⟨b1,0,[.int .i64 0,.slice none 0 0,.bool false,.slice none 0 0,.slice none 0 0],true⟩] [⟨b1,0,[.int .i64 0,.slice none 0 0,.bool false,.slice none 0 0,.slice none 0 0],true⟩,⟨b15,0,[.int .i16 0,.string ByteArray.empty,.string ByteArray.empty,.slice none 0 0,.map none],true⟩] from ⟨rfl,rfl,trivial⟩)).pk (env':=[(7,.v (.pointer (some ⟨b15,0,none⟩))),(0,.v (.int .i64 v)),(1,.v (.slice A2 s.length c2)),(4,.p 0 0)])
 have hE34:=hE33.recast 7 (.v (.pointer (some ⟨b15,0,none⟩))) (.p 1 0) rfl rfl (Nat.le_of_ble_eq_true (n:=2) rfl)
 have hE35:=hE34.pick (ks:=[0,1,4,7]) (env':=[(0,.v (.int .i64 v)),(1,.v (.slice A2 s.length c2)),(4,.p 0 0),(7,.p 1 0)]) kz
 refine qal [1] [] [(0,.v (.int .i64 v)),(1,.v (.slice A2 s.length c2)),(4,.p 0 0),(6,.p 1 0)] hW21 hE35 fun a36 hE37=>?_
 refine qae (qab ?_)
 refine qad [0,1,2,3] kz ?_
 refine qal [0,1,2] [3] [(1,.v (.slice A2 s.length c2)),(4,.p 0 0),(6,.p 1 0),(8,.p 1 0),(10,.v (.int .i16 (IntKind.i16.wrap v)))] hW21 hE37 fun a38 hE39=>?_
 refine qaj (qaN hE39 (f:=40) (vs:=[.pointer (some ⟨b15,0,none⟩),.int .i16 (IntKind.i16.wrap v)]) (d:=11) (n':=8) kz Tryd.call40 Tryd.func40 rfl Tryd.ntmps40 kz fun a40 hE41=>?_)
 have hE42:=hE41.recast 0 (.v (.pointer (some ⟨b15,0,none⟩))) (.p 1 0) rfl rfl (Nat.le_of_ble_eq_true (n:=2) rfl)
 refine qay [0,1,2,3,4] kz ?_
 refine qal [0,1,2,3] [4] [(5,.v (.int .i16 (IntKind.i16.wrap v))),(7,.p 1 0)] hW21 hE42 fun a43 hE44=>?_
 refine qaj (qao hW21 hE44 (oi:=1) (cs:=[.int .i16 (IntKind.i16.wrap v),.string ByteArray.empty,.string ByteArray.empty,.slice none 0 0,.map none]) kz fun w45 hF46 hW47 hE48=>?_)
 refine qae ?_
 refine qba hE48 hW47.cells (v:=.tuple #[]) kz ?_
 refine ⟨_,rfl,fun a49 hE50=>?_⟩
 have hE51:=(EnvOk.places (tb':=[⟨b1,0,[.int .i64 0,.slice none 0 0,.bool false,.slice none 0 0,.slice none 0 0],true⟩,⟨b15,0,[.int .i16 (IntKind.i16.wrap v),.string ByteArray.empty,.string ByteArray.empty,.slice none 0 0,.map none],true⟩]) hE50 (show Pl [⟨b1,0,[.int .i64 0,.slice none 0 0,.bool false,.slice none 0 0,.slice none 0 0],true⟩,⟨b15,0,[.int .i16 0,.string ByteArray.empty,.string ByteArray.empty,.slice none 0 0,.map none],true⟩] [⟨b1,0,[.int .i64 0,.slice none 0 0,.bool false,.slice none 0 0,.slice none 0 0],true⟩,⟨b15,0,[.int .i16 (IntKind.i16.wrap v),.string ByteArray.empty,.string ByteArray.empty,.slice none 0 0,.map none],true⟩] from ⟨rfl,rfl,⟨rfl,rfl,trivial⟩⟩)).pk (env':=[(11,.v (.tuple #[])),(1,.v (.slice A2 s.length c2)),(4,.p 0 0),(6,.p 1 0),(8,.p 1 0),(10,.v (.int .i16 (IntKind.i16.wrap v)))])
 refine qae (qab ?_)
 refine wp_seq ?_
 refine qad [0,1,2,3,4] kz ?_
 refine qal [0,1] [2,3,4] [(4,.p 0 0),(6,.p 1 0),(12,.p 1 0),(13,.v (.slice A2 s.length c2))] hW47 hE51 fun a52 hE53=>?_
 have hW54:=hW47.addNil 5 1
 have hF55:=hW47.frNil 5 1
 refine qaj (qa5 hW54 hE53 (k:=0) (d:=14) (t:=22) (e:=5) (size:=1) (bytes:=1) (A:=none) (As:=A2) (m0:=0) (c:=0) (m:=s.length) (cs:=c2) (xs:=[]) (news:=bc s) kz kz rfl (hs_.move hW54.step nilM hW54.imm).src (hs_.move hW54.step nilM hW54.imm).cap (by first | omega | (simp only [List.length_nil]; omega) | (simp; omega)) fun A56 c57 a58 w59 hF60 hW61 hE62=>?_)
 have er63:(⟨A56,c57,5,1,0 + s.length,[] ++ bc s⟩:Rw) = brow A56 c57 5 s:=by rw [List.nil_append,Nat.zero_add]
 obtain ⟨hW64,hF66⟩:=hW61.rowEq 0 [brow A56 c57 5 s] er63
 have hE67:=EnvOk.pick hE62 (ks:=[4,6,12,13,14]) (env':=[(4,.p 0 0),(6,.p 1 0),(12,.p 1 0),(13,.v (.slice A2 s.length c2)),(14,.v (.slice A56 (0 + s.length) c57))]) kz
 have hE65:=hE67.cast (env':=[(4,.p 0 0),(6,.p 1 0),(12,.p 1 0),(13,.v (.slice A2 s.length c2)),(14,.v (.slice A56 s.length c57))]) (by simp only [List.length_append,List.length_cons,List.length_nil,Nat.zero_add])
 refine qaj (qaN hE65 (f:=41) (vs:=[.pointer (some ⟨b15,0,none⟩),.slice A56 s.length c57]) (d:=15) (n':=8) kz Tryd.call41 Tryd.func41 rfl Tryd.ntmps41 kz fun a68 hE69=>?_)
 have hE70:=hE69.recast 0 (.v (.pointer (some ⟨b15,0,none⟩))) (.p 1 0) rfl rfl (Nat.le_of_ble_eq_true (n:=2) rfl)
 refine qar [(0,.p 1 0),(1,.v (.slice A56 s.length c57))] hW64 hE70 fun a71 hE72=>?_
 refine qad [0,1,2,3] kz ?_
 refine qal [0,1] [2,3] [(5,.p 1 0),(6,.v (.slice A56 s.length c57))] hW64 hE72 fun a73 hE74=>?_
 have ho75:=hW64.giveUp (G:=F) 0 [] (show _ = some (brow A56 c57 5 s) from rfl) (by omega)
 obtain ⟨hW76,hF77⟩:=hW64.cutR 0 []
 refine qaj (qaq hE74 (f:=65) (vs:=[.pointer (some ⟨b15,0,none⟩),.slice A56 s.length c57,.bool false]) (d:=7) kz Tryd.call65 (qbV (IntKind.i16.wrap v) false s hl (Str.of hW76 1 rfl) ho75 (hgl.move hW76.step nilM hW76.imm) (qfV 1 rfl) hb) ?_)
 rintro e_ w78 ⟨rfl,⟨D79,hs80,hn91⟩,hst83⟩
 obtain ⟨hW84,hF85,hl86⟩:=hW76.wrote 1 [⟨b1,0,[.int .i64 0,.slice none 0 0,.bool false,.slice none 0 0,.slice none 0 0],true⟩,⟨b15,0,D79,true⟩] rfl hst83 hs80 rfl hn91
 refine ⟨_,rfl,fun a87 hE88=>?_⟩
 have hE89:=(EnvOk.places (tb':=[⟨b1,0,[.int .i64 0,.slice none 0 0,.bool false,.slice none 0 0,.slice none 0 0],true⟩,⟨b15,0,D79,true⟩]) hE88 (show Pl [⟨b1,0,[.int .i64 0,.slice none 0 0,.bool false,.slice none 0 0,.slice none 0 0],true⟩,⟨b15,0,[.int .i16 (IntKind.i16.wrap v),.string ByteArray.empty,.string ByteArray.empty,.slice none 0 0,.map none],true⟩] [⟨b1,0,[.int .i64 0,.slice none 0 0,.bool false,.slice none 0 0,.slice none 0 0],true⟩,⟨b15,0,D79,true⟩] from ⟨rfl,rfl,⟨rfl,rfl,trivial⟩⟩)).pk (env':=[(7,.v (.iface ue ve)),(5,.p 1 0),(6,.v (.slice A56 s.length c57))])
 refine qal [3] [] [(4,.v (.iface ue ve))] hW84 hE89 fun a92 hE93=>?_
 refine qae (qab ?_)
 refine wp_ret ?_
 refine qaQ hE93 hW84.cells (v:=.iface ue ve) kz ?_
 refine ⟨_,rfl,fun a94 hE95=>?_⟩
 have hE96:=(EnvOk.places (tb':=[⟨b1,0,[.int .i64 0,.slice none 0 0,.bool false,.slice none 0 0,.slice none 0 0],true⟩,⟨b15,0,D79,true⟩]) hE95 (show Pl [⟨b1,0,[.int .i64 0,.slice none 0 0,.bool false,.slice none 0 0,.slice none 0 0],true⟩,⟨b15,0,[.int .i16 (IntKind.i16.wrap v),.string ByteArray.empty,.string ByteArray.empty,.slice none 0 0,.map none],true⟩] [⟨b1,0,[.int .i64 0,.slice none 0 0,.bool false,.slice none 0 0,.slice none 0 0],true⟩,⟨b15,0,D79,true⟩] from ⟨rfl,rfl,⟨rfl,rfl,trivial⟩⟩)).pk (env':=[(15,.v (.iface ue ve)),(4,.p 0 0),(6,.p 1 0),(12,.p 1 0),(13,.v (.slice A2 s.length c2)),(14,.v (.slice A56 s.length c57))])
 refine qal [4] [] [(4,.p 0 0),(6,.p 1 0),(16,.v (.bool true))] hW84 hE96 fun a97 hE98=>?_
 refine qae (qab ?_)
 refine qaI hE98 (b:=true) kz rfl ?_
 refine qad [0,1,2] kz ?_
 refine qal [0] [1,2] [(4,.p 0 0),(17,.v (.agg #[.int .i64 0,.slice none 0 0,.bool false,.slice none 0 0,.slice none 0 0]))] hW84 hE98 fun a99 hE100=>?_
 refine qaj (qao hW84 hE100 (oi:=0) (cs:=[.int .i64 0,.slice none 0 0,.bool false,.slice none 0 0,.slice none 0 0]) kz fun w101 hF102 hW103 hE104=>?_)
 refine qal [2] [] [(4,.p 0 0),(5,.v (.bool false))] hW103 hE104 fun a105 hE106=>?_
 refine qae (qab ?_)
 refine wp_ret ?_
 refine qaP ?_
 refine qaQ hE106 hW103.cells (v:=.tuple #[.agg #[.int .i64 0,.slice none 0 0,.bool false,.slice none 0 0,.slice none 0 0],.bool false]) kz ?_
 exact ⟨_,rfl,TreeR.zero _ _,hW103.step⟩
set_option maxHeartbeats 4000000 in
theorem qco (v:Int) (s:Bs) (hl:s.length ≤ 1000) {ue:TypeId} {ve:Value} {A2:Option Addr} {c2:Nat} {w:World} {F:Nat → Nat → Prop} (hs_:Octs w F A2 c2 s) (hgl:AtF w F 1 0 [.iface ue ve]) (hb:(qaB (IntKind.i16.wrap v) (false,s)).1 = false) :
  Calls Tryd.prog 18 #[.int .i64 v,.slice A2 s.length c2] w (fun e w'=>∃ cs,e = .returned (.tuple #[.agg cs.toArray,.bool true]) ∧ TreeR w' (Fp F w) cs (qbw (IntKind.i16.wrap v) (false,s)) ∧ Step w w' Nil):=by
 refine enter (n:=20) Tryd.func18 rfl Tryd.ntmps18 kz fun a hE=>?_
 have hW:=WOk.start w Nil
 have hsm2:=Slots.small hs_
 refine qad [0,1] kz ?_
 refine qaj (qaA hW hE (d:=4) (cs:=[.int .i64 0,.slice none 0 0,.bool false,.slice none 0 0,.slice none 0 0]) kz fun b1 a2 w3 hb4 hz5 hF6 hW7 hE8=>?_)
 refine qal [1] [] [(0,.v (.int .i64 v)),(1,.v (.slice A2 s.length c2)),(4,.p 0 0)] hW7 hE8 fun a9 hE10=>?_
 refine qae (qab ?_)
 refine qad [0,1] kz ?_
 refine qaj (qaN hE10 (f:=38) (vs:=[]) (d:=7) (n':=3) kz Tryd.call38 Tryd.func38 rfl Tryd.ntmps38 kz fun a11 hE12=>?_)
 refine qar [] hW7 hE12 fun a13 hE14=>?_
 refine qad [0] kz ?_
 refine qaj (qaA hW7 hE14 (d:=1) (cs:=[.int .i16 0,.string ByteArray.empty,.string ByteArray.empty,.slice none 0 0,.map none]) kz fun b15 a16 w17 hb18 hz19 hF20 hW21 hE22=>?_)
 refine qae (qab ?_)
 refine qad [0] kz ?_
 refine qaj (qaN hE22 (f:=64) (vs:=[.pointer (some ⟨b15,0,none⟩)]) (d:=2) (n':=2) kz Tryd.call64 Tryd.func64 rfl Tryd.ntmps64 kz fun a23 hE24=>?_)
 have hE25:=hE24.recast 0 (.v (.pointer (some ⟨b15,0,none⟩))) (.p 1 0) rfl rfl (Nat.le_of_ble_eq_true (n:=2) rfl)
 refine wp_skip ?_
 refine qba hE25 hW21.cells (v:=.tuple #[]) kz ?_
 refine ⟨_,rfl,fun a26 hE27=>?_⟩
 have hE28:=(EnvOk.places (tb':=[⟨b1,0,[.int .i64 0,.slice none 0 0,.bool false,.slice none 0 0,.slice none 0 0],true⟩,⟨b15,0,[.int .i16 0,.string ByteArray.empty,.string ByteArray.empty,.slice none 0 0,.map none],true⟩]) hE27 (show Pl [⟨b1,0,[.int .i64 0,.slice none 0 0,.bool false,.slice none 0 0,.slice none 0 0],true⟩,⟨b15,0,[.int .i16 0,.string ByteArray.empty,.string ByteArray.empty,.slice none 0 0,.map none],true⟩] [⟨b1,0,[.int .i64 0,.slice none 0 0,.bool false,.slice none 0 0,.slice none 0 0],true⟩,⟨b15,0,[.int .i16 0,.string ByteArray.empty,.string ByteArray.empty,.slice none 0 0,.map none],true⟩] from ⟨rfl,rfl,⟨rfl,rfl,trivial⟩⟩)).pk (env':=[(2,.v (.tuple #[])),(1,.p 1 0)])
 refine qae (qab ?_)
 refine qar [(0,.p 1 0)] hW21 hE28 fun a29 hE30=>?_
 refine wp_ret ?_
 refine qaQ hE30 hW21.cells (v:=.pointer (some ⟨b15,0,none⟩)) kz ?_
 refine ⟨_,rfl,fun a31 hE32=>?_⟩
 have hE33:=(EnvOk.places (tb':=[⟨b1,0,[.int .i64 0,.slice none 0 0,.bool false,.slice none 0 0,.slice none 0 0],true⟩,⟨b15,0,[.int .i16 0,.string ByteArray.empty,.string ByteArray.empty,.slice none 0 0,.map none],true⟩]) hE32 (show Pl [⟨b1,0,[.int .i64 0,.slice none 0 0,.bool false,.slice none 0 0,.slice none 0 0],true⟩] [⟨b1,0,[.int .i64 0,.slice none 0 0,.bool false,.slice none 0 0,.slice none 0 0],true⟩,⟨b15,0,[.int .i16 0,.string ByteArray.empty,.string ByteArray.empty,.slice none 0 0,.map none],true⟩] from ⟨rfl,rfl,trivial⟩)).pk (env':=[(7,.v (.pointer (some ⟨b15,0,none⟩))),(0,.v (.int .i64 v)),(1,.v (.slice A2 s.length c2)),(4,.p 0 0)])
 have hE34:=hE33.recast 7 (.v (.pointer (some ⟨b15,0,none⟩))) (.p 1 0) rfl rfl (Nat.le_of_ble_eq_true (n:=2) rfl)
 have hE35:=hE34.pick (ks:=[0,1,4,7]) (env':=[(0,.v (.int .i64 v)),(1,.v (.slice A2 s.length c2)),(4,.p 0 0),(7,.p 1 0)]) kz
 refine qal [1] [] [(0,.v (.int .i64 v)),(1,.v (.slice A2 s.length c2)),(4,.p 0 0),(6,.p 1 0)] hW21 hE35 fun a36 hE37=>?_
 refine qae (qab ?_)
 refine qad [0,1,2,3] kz ?_
 refine qal [0,1,2] [3] [(1,.v (.slice A2 s.length c2)),(4,.p 0 0),(6,.p 1 0),(8,.p 1 0),(10,.v (.int .i16 (IntKind.i16.wrap v)))] hW21 hE37 fun a38 hE39=>?_
 refine qaj (qaN hE39 (f:=40) (vs:=[.pointer (some ⟨b15,0,none⟩),.int .i16 (IntKind.i16.wrap v)]) (d:=11) (n':=8) kz Tryd.call40 Tryd.func40 rfl Tryd.ntmps40 kz fun a40 hE41=>?_)
 have hE42:=hE41.recast 0 (.v (.pointer (some ⟨b15,0,none⟩))) (.p 1 0) rfl rfl (Nat.le_of_ble_eq_true (n:=2) rfl)
 refine qay [0,1,2,3,4] kz ?_
 refine qal [0,1,2,3] [4] [(5,.v (.int .i16 (IntKind.i16.wrap v))),(7,.p 1 0)] hW21 hE42 fun a43 hE44=>?_
 refine qaj (qao hW21 hE44 (oi:=1) (cs:=[.int .i16 (IntKind.i16.wrap v),.string ByteArray.empty,.string ByteArray.empty,.slice none 0 0,.map none]) kz fun w45 hF46 hW47 hE48=>?_)
 refine qae ?_
 refine qba hE48 hW47.cells (v:=.tuple #[]) kz ?_
 refine ⟨_,rfl,fun a49 hE50=>?_⟩
 have hE51:=(EnvOk.places (tb':=[⟨b1,0,[.int .i64 0,.slice none 0 0,.bool false,.slice none 0 0,.slice none 0 0],true⟩,⟨b15,0,[.int .i16 (IntKind.i16.wrap v),.string ByteArray.empty,.string ByteArray.empty,.slice none 0 0,.map none],true⟩]) hE50 (show Pl [⟨b1,0,[.int .i64 0,.slice none 0 0,.bool false,.slice none 0 0,.slice none 0 0],true⟩,⟨b15,0,[.int .i16 0,.string ByteArray.empty,.string ByteArray.empty,.slice none 0 0,.map none],true⟩] [⟨b1,0,[.int .i64 0,.slice none 0 0,.bool false,.slice none 0 0,.slice none 0 0],true⟩,⟨b15,0,[.int .i16 (IntKind.i16.wrap v),.string ByteArray.empty,.string ByteArray.empty,.slice none 0 0,.map none],true⟩] from ⟨rfl,rfl,⟨rfl,rfl,trivial⟩⟩)).pk (env':=[(11,.v (.tuple #[])),(1,.v (.slice A2 s.length c2)),(4,.p 0 0),(6,.p 1 0),(8,.p 1 0),(10,.v (.int .i16 (IntKind.i16.wrap v)))])
 refine qae (qab ?_)
 refine wp_seq ?_
 refine qad [0,1,2,3,4] kz ?_
 refine qal [0,1] [2,3,4] [(4,.p 0 0),(6,.p 1 0),(12,.p 1 0),(13,.v (.slice A2 s.length c2))] hW47 hE51 fun a52 hE53=>?_
 have hW54:=hW47.addNil 5 1
 have hF55:=hW47.frNil 5 1
 refine qaj (qa5 hW54 hE53 (k:=0) (d:=14) (t:=22) (e:=5) (size:=1) (bytes:=1) (A:=none) (As:=A2) (m0:=0) (c:=0) (m:=s.length) (cs:=c2) (xs:=[]) (news:=bc s) kz kz rfl (hs_.move hW54.step nilM hW54.imm).src (hs_.move hW54.step nilM hW54.imm).cap (by first | omega | (simp only [List.length_nil]; omega) | (simp; omega)) fun A56 c57 a58 w59 hF60 hW61 hE62=>?_)
 have er63:(⟨A56,c57,5,1,0 + s.length,[] ++ bc s⟩:Rw) = brow A56 c57 5 s:=by rw [List.nil_append,Nat.zero_add]
 obtain ⟨hW64,hF66⟩:=hW61.rowEq 0 [brow A56 c57 5 s] er63
 have hE67:=EnvOk.pick hE62 (ks:=[4,6,12,13,14]) (env':=[(4,.p 0 0),(6,.p 1 0),(12,.p 1 0),(13,.v (.slice A2 s.length c2)),(14,.v (.slice A56 (0 + s.length) c57))]) kz
 have hE65:=hE67.cast (env':=[(4,.p 0 0),(6,.p 1 0),(12,.p 1 0),(13,.v (.slice A2 s.length c2)),(14,.v (.slice A56 s.length c57))]) (by simp only [List.length_append,List.length_cons,List.length_nil,Nat.zero_add])
 refine qaj (qaN hE65 (f:=41) (vs:=[.pointer (some ⟨b15,0,none⟩),.slice A56 s.length c57]) (d:=15) (n':=8) kz Tryd.call41 Tryd.func41 rfl Tryd.ntmps41 kz fun a68 hE69=>?_)
 have hE70:=hE69.recast 0 (.v (.pointer (some ⟨b15,0,none⟩))) (.p 1 0) rfl rfl (Nat.le_of_ble_eq_true (n:=2) rfl)
 refine qar [(0,.p 1 0),(1,.v (.slice A56 s.length c57))] hW64 hE70 fun a71 hE72=>?_
 refine qad [0,1,2,3] kz ?_
 refine qal [0,1] [2,3] [(5,.p 1 0),(6,.v (.slice A56 s.length c57))] hW64 hE72 fun a73 hE74=>?_
 have ho75:=hW64.giveUp (G:=F) 0 [] (show _ = some (brow A56 c57 5 s) from rfl) (by omega)
 obtain ⟨hW76,hF77⟩:=hW64.cutR 0 []
 refine qaj (qaq hE74 (f:=65) (vs:=[.pointer (some ⟨b15,0,none⟩),.slice A56 s.length c57,.bool false]) (d:=7) kz Tryd.call65 (qbW (IntKind.i16.wrap v) false s hl (Str.of hW76 1 rfl) ho75 (hgl.move hW76.step nilM hW76.imm) (qfV 1 rfl) hb) ?_)
 rintro e_ w78 ⟨D79,rfl,hs80,hk81,hv82,hst83⟩
 obtain ⟨hW84,hF85,hl86⟩:=hW76.wrote 1 [⟨b1,0,[.int .i64 0,.slice none 0 0,.bool false,.slice none 0 0,.slice none 0 0],true⟩,⟨b15,0,[.int .i16 (IntKind.i16.wrap v),.string ((D79.f 0).s),.string ((D79.f 1).s),.slice ((D79.f 2).A) ((D79.f 2).l) ((D79.f 2).c),.map D79.m],true⟩] rfl hst83 hs80
 have hk90:=qbv _ (Step.refl _ Nil) nilM hl86 hk81
 refine ⟨_,rfl,fun a87 hE88=>?_⟩
 have hE89:=(EnvOk.places (tb':=[⟨b1,0,[.int .i64 0,.slice none 0 0,.bool false,.slice none 0 0,.slice none 0 0],true⟩,⟨b15,0,[.int .i16 (IntKind.i16.wrap v),.string ((D79.f 0).s),.string ((D79.f 1).s),.slice ((D79.f 2).A) ((D79.f 2).l) ((D79.f 2).c),.map D79.m],true⟩]) hE88 (show Pl [⟨b1,0,[.int .i64 0,.slice none 0 0,.bool false,.slice none 0 0,.slice none 0 0],true⟩,⟨b15,0,[.int .i16 (IntKind.i16.wrap v),.string ByteArray.empty,.string ByteArray.empty,.slice none 0 0,.map none],true⟩] [⟨b1,0,[.int .i64 0,.slice none 0 0,.bool false,.slice none 0 0,.slice none 0 0],true⟩,⟨b15,0,[.int .i16 (IntKind.i16.wrap v),.string ((D79.f 0).s),.string ((D79.f 1).s),.slice ((D79.f 2).A) ((D79.f 2).l) ((D79.f 2).c),.map D79.m],true⟩] from ⟨rfl,rfl,⟨rfl,rfl,trivial⟩⟩)).pk (env':=[(7,.v (.nilIface)),(5,.p 1 0),(6,.v (.slice A56 s.length c57))])
 refine qal [3] [] [(4,.v (.nilIface))] hW84 hE89 fun a92 hE93=>?_
 refine qae (qab ?_)
 refine wp_ret ?_
 refine qaQ hE93 hW84.cells (v:=.nilIface) kz ?_
 refine ⟨_,rfl,fun a94 hE95=>?_⟩
 have hE96:=(EnvOk.places (tb':=[⟨b1,0,[.int .i64 0,.slice none 0 0,.bool false,.slice none 0 0,.slice none 0 0],true⟩,⟨b15,0,[.int .i16 (IntKind.i16.wrap v),.string ((D79.f 0).s),.string ((D79.f 1).s),.slice ((D79.f 2).A) ((D79.f 2).l) ((D79.f 2).c),.map D79.m],true⟩]) hE95 (show Pl [⟨b1,0,[.int .i64 0,.slice none 0 0,.bool false,.slice none 0 0,.slice none 0 0],true⟩,⟨b15,0,[.int .i16 (IntKind.i16.wrap v),.string ByteArray.empty,.string ByteArray.empty,.slice none 0 0,.map none],true⟩] [⟨b1,0,[.int .i64 0,.slice none 0 0,.bool false,.slice none 0 0,.slice none 0 0],true⟩,⟨b15,0,[.int .i16 (IntKind.i16.wrap v),.string ((D79.f 0).s),.string ((D79.f 1).s),.slice ((D79.f 2).A) ((D79.f 2).l) ((D79.f 2).c),.map D79.m],true⟩] from ⟨rfl,rfl,⟨rfl,rfl,trivial⟩⟩)).pk (env':=[(15,.v (.nilIface)),(4,.p 0 0),(6,.p 1 0),(12,.p 1 0),(13,.v (.slice A2 s.length c2)),(14,.v (.slice A56 s.length c57))])
 refine qal [4] [] [(4,.p 0 0),(6,.p 1 0),(16,.v (.bool false))] hW84 hE96 fun a97 hE98=>?_
 refine qae (qab ?_)
 refine qam hE98 (b:=false) kz rfl ?_
 refine wp_skip ?_
 refine qab ?_
 refine qad [0,1,2,3] kz ?_
 refine qal [0] [1,2,3] [(4,.p 0 0),(18,.p 1 0)] hW84 hE98 fun a99 hE100=>?_
 have hE101:=hE100.recast 18 (.p 1 0) (.v (.pointer (some ⟨b15,0,none⟩))) rfl rfl trivial
 have hE102:=hE101.pk (env':=[(4,.p 0 0),(18,.v (.pointer (some ⟨b15,0,none⟩)))])
 have hat103:=WOk.strOut (G:=F) [⟨b1,0,[.int .i64 0,.slice none 0 0,.bool false,.slice none 0 0,.slice none 0 0],true⟩] hW84
 obtain ⟨hE104,hW105,hF106⟩:=hW84.cutB hE102 1 [⟨b1,0,[.int .i64 0,.slice none 0 0,.bool false,.slice none 0 0,.slice none 0 0],true⟩] [(4,.p 0 0),(18,.v (.pointer (some ⟨b15,0,none⟩)))]
 have hk107:=qbv _ hF106.step immM hF106.to' hk90
 refine qaj (qaq hE104 (f:=42) (vs:=[.pointer (some ⟨b15,0,none⟩)]) (d:=19) kz Tryd.call42 (qb5 (IntKind.i16.wrap v) D79 b15 0 _ _ hat103 hk107) ?_)
 rintro e_ w111 ⟨cs110,rfl,hr109,hs108⟩
 have hr112:=hr109.move (Step.refl _ Nil) nilM (hW105.laid (G:=F) hs108)
 obtain ⟨n113,s114,b115,l116,u117,A118,c119,A120,c121,A122,c123,xs124,ht130,hcs125,h126,h127,h128,h129⟩:=hr112.open_
 rw [hcs125] at hr112
 have hsm131:=h126.small
 have hsm132:=h127.small
 rw [hcs125]
 refine ⟨_,rfl,fun a133 hE134=>?_⟩
 have hW135:=hW105.next_nil hs108
 have hF136:=hW105.frN hs108
 refine qaj (qao hW135 hE134 (oi:=0) (cs:=[.int .i64 n113,.slice A118 s114.length c119,.bool b115,.slice A120 l116.length c121,.slice A122 u117.length c123]) kz fun w137 hF138 hW139 hE140=>?_)
 refine qal [3] [] [(4,.p 0 0),(5,.v (.bool true))] hW139 hE140 fun a141 hE142=>?_
 refine qae (qab ?_)
 refine wp_ret ?_
 refine qaQ hE142 hW139.cells (v:=.tuple #[.agg #[.int .i64 n113,.slice A118 s114.length c119,.bool b115,.slice A120 l116.length c121,.slice A122 u117.length c123],.bool true]) kz ?_
 rw [← hv82]
 exact ⟨_,rfl,(show TreeR _ (Imm F w w137 [⟨b1,0,[.int .i64 n113,.slice A118 s114.length c119,.bool b115,.slice A120 l116.length c121,.slice A122 u117.length c123],true⟩] []) _ (qbb D79) from (hr112.move hF138.step immM hF138.to')).move (Step.refl _ Nil) nilM qbg,hW139.step⟩
set_option maxHeartbeats 4000000 in
theorem qb1 (v:Int) (s:Bs) (hl:s.length ≤ 1000) {ue:TypeId} {ve:Value} {A2:Option Addr} {c2:Nat} {w:World} {F:Nat → Nat → Prop} (hs_:Octs w F A2 c2 s) (hgl:AtF w F 1 0 [.iface ue ve]) (hb:(qaB (IntKind.i16.wrap v) (false,s)).1 = true) :
  Calls Tryd.prog 19 #[.int .i64 v,.slice A2 s.length c2] w (fun e w'=>∃ cs,e = .returned (.tuple #[.agg cs.toArray,.bool false]) ∧ TreeR w' (Fp F w) cs (.zero) ∧ Step w w' Nil):=by
 refine enter (n:=20) Tryd.func19 rfl Tryd.ntmps19 kz fun a hE=>?_
 have hW:=WOk.start w Nil
 have hsm2:=Slots.small hs_
 refine qad [0,1] kz ?_
 refine qaj (qaA hW hE (d:=4) (cs:=[.int .i64 0,.slice none 0 0,.bool false,.slice none 0 0,.slice none 0 0]) kz fun b1 a2 w3 hb4 hz5 hF6 hW7 hE8=>?_)
 refine qal [1] [] [(0,.v (.int .i64 v)),(1,.v (.slice A2 s.length c2)),(4,.p 0 0)] hW7 hE8 fun a9 hE10=>?_
 refine qae (qab ?_)
 refine qad [0,1] kz ?_
 refine qaj (qaN hE10 (f:=38) (vs:=[]) (d:=7) (n':=3) kz Tryd.call38 Tryd.func38 rfl Tryd.ntmps38 kz fun a11 hE12=>?_)
 refine qar [] hW7 hE12 fun a13 hE14=>?_
 refine qad [0] kz ?_
 refine qaj (qaA hW7 hE14 (d:=1) (cs:=[.int .i16 0,.string ByteArray.empty,.string ByteArray.empty,.slice none 0 0,.map none]) kz fun b15 a16 w17 hb18 hz19 hF20 hW21 hE22=>?_)
 refine qae (qab ?_)
 refine qad [0] kz ?_
 refine qaj (qaN hE22 (f:=64) (vs:=[.pointer (some ⟨b15,0,none⟩)]) (d:=2) (n':=2) kz Tryd.call64 Tryd.func64 rfl Tryd.ntmps64 kz fun a23 hE24=>?_)
 have hE25:=hE24.recast 0 (.v (.pointer (some ⟨b15,0,none⟩))) (.p 1 0) rfl rfl (Nat.le_of_ble_eq_true (n:=2) rfl)
 refine wp_skip ?_
 refine qba hE25 hW21.cells (v:=.tuple #[]) kz ?_
 refine ⟨_,rfl,fun a26 hE27=>?_⟩
 have hE28:=(EnvOk.places (tb':=[⟨b1,0,[.int .i64 0,.slice none 0 0,.bool false,.slice none 0 0,.slice none 0 0],true⟩,⟨b15,0,[.int .i16 0,.string ByteArray.empty,.string ByteArray.empty,.slice none 0 0,.map none],true⟩]) hE27 (show Pl [⟨b1,0,[.int .i64 0,.slice none 0 0,.bool false,.slice none 0 0,.slice none 0 0],true⟩,⟨b15,0,[.int .i16 0,.string ByteArray.empty,.string ByteArray.empty,.slice none 0 0,.map none],true⟩] [⟨b1,0,[.int .i64 0,.slice none 0 0,.bool false,.slice none 0 0,.slice none 0 0],true⟩,⟨b15,0,[.int .i16 0,.string ByteArray.empty,.string ByteArray.empty,.slice none 0 0,.map none],true⟩] from ⟨rfl,rfl,⟨rfl,rfl,trivial⟩⟩)).pk (env':=[(2,.v (.tuple #[])),(1,.p 1 0)])
 refine qae (qab ?_)
 refine qar [(0,.p 1 0)] hW21 hE28 fun a29 hE30=>?_
 refine wp_ret ?_
 refine qaQ hE30 hW21.cells (v:=.pointer (some ⟨b15,0,none⟩)) kz ?_
 refine ⟨_,rfl,fun a31 hE32=>?_⟩
 have hE33:=(EnvOk.places (tb':=[⟨b1,0,[.int .i64 0,.slice none 0 0,.bool false,.slice none 0 0,.slice none 0 0],true⟩,⟨b15,0,[.int .i16 0,.string ByteArray.empty,.string ByteArray.empty,.slice none 0 0,.map none],true⟩]) hE32 (show Pl [⟨b1,0,[.int .i64 0,.slice none 0 0,.bool false,.slice none 0 0,.slice none 0 0],true⟩] [⟨b1,0,[.int .i64 0,.slice none 0 0,.bool false,.slice none 0 0,.slice none 0 0],true⟩,⟨b15,0,[.int .i16 0,.string ByteArray.empty,.string ByteArray.empty,.slice none 0 0,.map none],true⟩] from ⟨rfl,rfl,trivial⟩)).pk (env':=[(7,.v (.pointer (some ⟨b15,0,none⟩))),(0,.v (.int .i64 v)),(1,.v (.slice A2 s.length c2)),(4,.p 0 0)])
 have hE34:=hE33.recast 7 (.v (.pointer (some ⟨b15,0,none⟩))) (.p 1 0) rfl rfl (Nat.le_of_ble_eq_true (n:=2) rfl)
 have hE35:=hE34.pick (ks:=[0,1,4,7]) (env':=[(0,.v (.int .i64 v)),(1,.v (.slice A2 s.length c2)),(4,.p 0 0),(7,.p 1 0)]) kz
 refine qal [1] [] [(0,.v (.int .i64 v)),(1,.v (.slice A2 s.length c2)),(4,.p 0 0),(6,.p 1 0)] hW21 hE35 fun a36 hE37=>?_
 refine qae (qab ?_)
 refine qad [0,1,2,3] kz ?_
 refine qal [0,1,2] [3] [(1,.v (.slice A2 s.length c2)),(4,.p 0 0),(6,.p 1 0),(8,.p 1 0),(10,.v (.int .i16 (IntKind.i16.wrap v)))] hW21 hE37 fun a38 hE39=>?_
 refine qaj (qaN hE39 (f:=40) (vs:=[.pointer (some ⟨b15,0,none⟩),.int .i16 (IntKind.i16.wrap v)]) (d:=11) (n':=8) kz Tryd.call40 Tryd.func40 rfl Tryd.ntmps40 kz fun a40 hE41=>?_)
 have hE42:=hE41.recast 0 (.v (.pointer (some ⟨b15,0,none⟩))) (.p 1 0) rfl rfl (Nat.le_of_ble_eq_true (n:=2) rfl)
 refine qay [0,1,2,3,4] kz ?_
 refine qal [0,1,2,3] [4] [(5,.v (.int .i16 (IntKind.i16.wrap v))),(7,.p 1 0)] hW21 hE42 fun a43 hE44=>?_
 refine qaj (qao hW21 hE44 (oi:=1) (cs:=[.int .i16 (IntKind.i16.wrap v),.string ByteArray.empty,.string ByteArray.empty,.slice none 0 0,.map none]) kz fun w45 hF46 hW47 hE48=>?_)
 refine qae ?_
 refine qba hE48 hW47.cells (v:=.tuple #[]) kz ?_
 refine ⟨_,rfl,fun a49 hE50=>?_⟩
 have hE51:=(EnvOk.places (tb':=[⟨b1,0,[.int .i64 0,.slice none 0 0,.bool false,.slice none 0 0,.slice none 0 0],true⟩,⟨b15,0,[.int .i16 (IntKind.i16.wrap v),.string ByteArray.empty,.string ByteArray.empty,.slice none 0 0,.map none],true⟩]) hE50 (show Pl [⟨b1,0,[.int .i64 0,.slice none 0 0,.bool false,.slice none 0 0,.slice none 0 0],true⟩,⟨b15,0,[.int .i16 0,.string ByteArray.empty,.string ByteArray.empty,.slice none 0 0,.map none],true⟩] [⟨b1,0,[.int .i64 0,.slice none 0 0,.bool false,.slice none 0 0,.slice none 0 0],true⟩,⟨b15,0,[.int .i16 (IntKind.i16.wrap v),.string ByteArray.empty,.string ByteArray.empty,.slice none 0 0,.map none],true⟩] from ⟨rfl,rfl,⟨rfl,rfl,trivial⟩⟩)).pk (env':=[(11,.v (.tuple #[])),(1,.v (.slice A2 s.length c2)),(4,.p 0 0),(6,.p 1 0),(8,.p 1 0),(10,.v (.int .i16 (IntKind.i16.wrap v)))])
 refine qae (qab ?_)
 refine wp_seq ?_
 refine qad [0,1,2,3,4] kz ?_
 refine qal [0,1] [2,3,4] [(4,.p 0 0),(6,.p 1 0),(12,.p 1 0),(13,.v (.slice A2 s.length c2))] hW47 hE51 fun a52 hE53=>?_
 have hW54:=hW47.addNil 5 1
 have hF55:=hW47.frNil 5 1
 refine qaj (qa5 hW54 hE53 (k:=0) (d:=14) (t:=22) (e:=5) (size:=1) (bytes:=1) (A:=none) (As:=A2) (m0:=0) (c:=0) (m:=s.length) (cs:=c2) (xs:=[]) (news:=bc s) kz kz rfl (hs_.move hW54.step nilM hW54.imm).src (hs_.move hW54.step nilM hW54.imm).cap (by first | omega | (simp only [List.length_nil]; omega) | (simp; omega)) fun A56 c57 a58 w59 hF60 hW61 hE62=>?_)
 have er63:(⟨A56,c57,5,1,0 + s.length,[] ++ bc s⟩:Rw) = brow A56 c57 5 s:=by rw [List.nil_append,Nat.zero_add]
 obtain ⟨hW64,hF66⟩:=hW61.rowEq 0 [brow A56 c57 5 s] er63
 have hE67:=EnvOk.pick hE62 (ks:=[4,6,12,13,14]) (env':=[(4,.p 0 0),(6,.p 1 0),(12,.p 1 0),(13,.v (.slice A2 s.length c2)),(14,.v (.slice A56 (0 + s.length) c57))]) kz
 have hE65:=hE67.cast (env':=[(4,.p 0 0),(6,.p 1 0),(12,.p 1 0),(13,.v (.slice A2 s.length c2)),(14,.v (.slice A56 s.length c57))]) (by simp only [List.length_append,List.length_cons,List.length_nil,Nat.zero_add])
 refine qaj (qaN hE65 (f:=43) (vs:=[.pointer (some ⟨b15,0,none⟩),.slice A56 s.length c57]) (d:=15) (n':=8) kz Tryd.call43 Tryd.func43 rfl Tryd.ntmps43 kz fun a68 hE69=>?_)
 have hE70:=hE69.recast 0 (.v (.pointer (some ⟨b15,0,none⟩))) (.p 1 0) rfl rfl (Nat.le_of_ble_eq_true (n:=2) rfl)
 refine qar [(0,.p 1 0),(1,.v (.slice A56 s.length c57))] hW64 hE70 fun a71 hE72=>?_
 refine qad [0,1,2,3] kz ?_
 refine qal [0,1] [2,3] [(5,.p 1 0),(6,.v (.slice A56 s.length c57))] hW64 hE72 fun a73 hE74=>?_
 have ho75:=hW64.giveUp (G:=F) 0 [] (show _ = some (brow A56 c57 5 s) from rfl) (by omega)
 obtain ⟨hW76,hF77⟩:=hW64.cutR 0 []
 refine qaj (qaq hE74 (f:=65) (vs:=[.pointer (some ⟨b15,0,none⟩),.slice A56 s.length c57,.bool true]) (d:=7) kz Tryd.call65 (qbV (IntKind.i16.wrap v) true s hl (Str.of hW76 1 rfl) ho75 (hgl.move hW76.step nilM hW76.imm) (qfV 1 rfl) hb) ?_)
 rintro e_ w78 ⟨rfl,⟨D79,hs80,hn91⟩,hst83⟩
 obtain ⟨hW84,hF85,hl86⟩:=hW76.wrote 1 [⟨b1,0,[.int .i64 0,.slice none 0 0,.bool false,.slice none 0 0,.slice none 0 0],true⟩,⟨b15,0,D79,true⟩] rfl hst83 hs80 rfl hn91
 refine ⟨_,rfl,fun a87 hE88=>?_⟩
 have hE89:=(EnvOk.places (tb':=[⟨b1,0,[.int .i64 0,.slice none 0 0,.bool false,.slice none 0 0,.slice none 0 0],true⟩,⟨b15,0,D79,true⟩]) hE88 (show Pl [⟨b1,0,[.int .i64 0,.slice none 0 0,.bool false,.slice none 0 0,.slice none 0 0],true⟩,⟨b15,0,[.int .i16 (IntKind.i16.wrap v),.string ByteArray.empty,.string ByteArray.empty,.slice none 0 0,.map none],true⟩] [⟨b1,0,[.int .i64 0,.slice none 0 0,.bool false,.slice none 0 0,.slice none 0 0],true⟩,⟨b15,0,D79,true⟩] from ⟨rfl,rfl,⟨rfl,rfl,trivial⟩⟩)).pk (env':=[(7,.v (.iface ue ve)),(5,.p 1 0),(6,.v (.slice A56 s.length c57))])
 refine qal [3] [] [(4,.v (.iface ue ve))] hW84 hE89 fun a92 hE93=>?_
 refine qae (qab ?_)
 refine wp_ret ?_
 refine qaQ hE93 hW84.cells (v:=.iface ue ve) kz ?_
 refine ⟨_,rfl,fun a94 hE95=>?_⟩
 have hE96:=(EnvOk.places (tb':=[⟨b1,0,[.int .i64 0,.slice none 0 0,.bool false,.slice none 0 0,.slice none 0 0],true⟩,⟨b15,0,D79,true⟩]) hE95 (show Pl [⟨b1,0,[.int .i64 0,.slice none 0 0,.bool false,.slice none 0 0,.slice none 0 0],true⟩,⟨b15,0,[.int .i16 (IntKind.i16.wrap v),.string ByteArray.empty,.string ByteArray.empty,.slice none 0 0,.map none],true⟩] [⟨b1,0,[.int .i64 0,.slice none 0 0,.bool false,.slice none 0 0,.slice none 0 0],true⟩,⟨b15,0,D79,true⟩] from ⟨rfl,rfl,⟨rfl,rfl,trivial⟩⟩)).pk (env':=[(15,.v (.iface ue ve)),(4,.p 0 0),(6,.p 1 0),(12,.p 1 0),(13,.v (.slice A2 s.length c2)),(14,.v (.slice A56 s.length c57))])
 refine qal [4] [] [(4,.p 0 0),(6,.p 1 0),(16,.v (.bool true))] hW84 hE96 fun a97 hE98=>?_
 refine qae (qab ?_)
 refine qaI hE98 (b:=true) kz rfl ?_
 refine qad [0,1,2] kz ?_
 refine qal [0] [1,2] [(4,.p 0 0),(17,.v (.agg #[.int .i64 0,.slice none 0 0,.bool false,.slice none 0 0,.slice none 0 0]))] hW84 hE98 fun a99 hE100=>?_
 refine qaj (qao hW84 hE100 (oi:=0) (cs:=[.int .i64 0,.slice none 0 0,.bool false,.slice none 0 0,.slice none 0 0]) kz fun w101 hF102 hW103 hE104=>?_)
 refine qal [2] [] [(4,.p 0 0),(5,.v (.bool false))] hW103 hE104 fun a105 hE106=>?_
 refine qae (qab ?_)
 refine wp_ret ?_
 refine qaP ?_
 refine qaQ hE106 hW103.cells (v:=.tuple #[.agg #[.int .i64 0,.slice none 0 0,.bool false,.slice none 0 0,.slice none 0 0],.bool false]) kz ?_
 exact ⟨_,rfl,TreeR.zero _ _,hW103.step⟩
set_option maxHeartbeats 4000000 in
theorem qb2 (v:Int) (s:Bs) (hl:s.length ≤ 1000) {ue:TypeId} {ve:Value} {A2:Option Addr} {c2:Nat} {w:World} {F:Nat → Nat → Prop} (hs_:Octs w F A2 c2 s) (hgl:AtF w F 1 0 [.iface ue ve]) (hb:(qaB (IntKind.i16.wrap v) (false,s)).1 = false) :
  Calls Tryd.prog 19 #[.int .i64 v,.slice A2 s.length c2] w (fun e w'=>∃ cs,e = .returned (.tuple #[.agg cs.toArray,.bool true]) ∧ TreeR w' (Fp F w) cs (qbw (IntKind.i16.wrap v) (false,s)) ∧ Step w w' Nil):=by
 refine enter (n:=20) Tryd.func19 rfl Tryd.ntmps19 kz fun a hE=>?_
 have hW:=WOk.start w Nil
 have hsm2:=Slots.small hs_
 refine qad [0,1] kz ?_
 refine qaj (qaA hW hE (d:=4) (cs:=[.int .i64 0,.slice none 0 0,.bool false,.slice none 0 0,.slice none 0 0]) kz fun b1 a2 w3 hb4 hz5 hF6 hW7 hE8=>?_)
 refine qal [1] [] [(0,.v (.int .i64 v)),(1,.v (.slice A2 s.length c2)),(4,.p 0 0)] hW7 hE8 fun a9 hE10=>?_
 refine qae (qab ?_)
 refine qad [0,1] kz ?_
 refine qaj (qaN hE10 (f:=38) (vs:=[]) (d:=7) (n':=3) kz Tryd.call38 Tryd.func38 rfl Tryd.ntmps38 kz fun a11 hE12=>?_)
 refine qar [] hW7 hE12 fun a13 hE14=>?_
 refine qad [0] kz ?_
 refine qaj (qaA hW7 hE14 (d:=1) (cs:=[.int .i16 0,.string ByteArray.empty,.string ByteArray.empty,.slice none 0 0,.map none]) kz fun b15 a16 w17 hb18 hz19 hF20 hW21 hE22=>?_)
 refine qae (qab ?_)
 refine qad [0] kz ?_
 refine qaj (qaN hE22 (f:=64) (vs:=[.pointer (some ⟨b15,0,none⟩)]) (d:=2) (n':=2) kz Tryd.call64 Tryd.func64 rfl Tryd.ntmps64 kz fun a23 hE24=>?_)
 have hE25:=hE24.recast 0 (.v (.pointer (some ⟨b15,0,none⟩))) (.p 1 0) rfl rfl (Nat.le_of_ble_eq_true (n:=2) rfl)
 refine wp_skip ?_
 refine qba hE25 hW21.cells (v:=.tuple #[]) kz ?_
 refine ⟨_,rfl,fun a26 hE27=>?_⟩
 have hE28:=(EnvOk.places (tb':=[⟨b1,0,[.int .i64 0,.slice none 0 0,.bool false,.slice none 0 0,.slice none 0 0],true⟩,⟨b15,0,[.int .i16 0,.string ByteArray.empty,.string ByteArray.empty,.slice none 0 0,.map none],true⟩]) hE27 (show Pl [⟨b1,0,[.int .i64 0,.slice none 0 0,.bool false,.slice none 0 0,.slice none 0 0],true⟩,⟨b15,0,[.int .i16 0,.string ByteArray.empty,.string ByteArray.empty,.slice none 0 0,.map none],true⟩] [⟨b1,0,[.int .i64 0,.slice none 0 0,.bool false,.slice none 0 0,.slice none 0 0],true⟩,⟨b15,0,[.int .i16 0,.string ByteArray.empty,.string ByteArray.empty,.slice none 0 0,.map none],true⟩] from ⟨rfl,rfl,⟨rfl,rfl,trivial⟩⟩)).pk (env':=[(2,.v (.tuple #[])),(1,.p 1 0)])
 refine qae (qab ?_)
 refine qar [(0,.p 1 0)] hW21 hE28 fun a29 hE30=>?_
 refine wp_ret ?_
 refine qaQ hE30 hW21.cells (v:=.pointer (some ⟨b15,0,none⟩)) kz ?_
 refine ⟨_,rfl,fun a31 hE32=>?_⟩
 have hE33:=(EnvOk.places (tb':=[⟨b1,0,[.int .i64 0,.slice none 0 0,.bool false,.slice none 0 0,.slice none 0 0],true⟩,⟨b15,0,[.int .i16 0,.string ByteArray.empty,.string ByteArray.empty,.slice none 0 0,.map none],true⟩]) hE32 (show Pl [⟨b1,0,[.int .i64 0,.slice none 0 0,.bool false,.slice none 0 0,.slice none 0 0],true⟩] [⟨b1,0,[.int .i64 0,.slice none 0 0,.bool false,.slice none 0 0,.slice none 0 0],true⟩,⟨b15,0,[.int .i16 0,.string ByteArray.empty,.string ByteArray.empty,.slice none 0 0,.map none],true⟩] from ⟨rfl,rfl,trivial⟩)).pk (env':=[(7,.v (.pointer (some ⟨b15,0,none⟩))),(0,.v (.int .i64 v)),(1,.v (.slice A2 s.length c2)),(4,.p 0 0)])
 have hE34:=hE33.recast 7 (.v (.pointer (some ⟨b15,0,none⟩))) (.p 1 0) rfl rfl (Nat.le_of_ble_eq_true (n:=2) rfl)
 have hE35:=hE34.pick (ks:=[0,1,4,7]) (env':=[(0,.v (.int .i64 v)),(1,.v (.slice A2 s.length c2)),(4,.p 0 0),(7,.p 1 0)]) kz
 refine qal [1] [] [(0,.v (.int .i64 v)),(1,.v (.slice A2 s.length c2)),(4,.p 0 0),(6,.p 1 0)] hW21 hE35 fun a36 hE37=>?_
 refine qae (qab ?_)
 refine qad [0,1,2,3] kz ?_
 refine qal [0,1,2] [3] [(1,.v (.slice A2 s.length c2)),(4,.p 0 0),(6,.p 1 0),(8,.p 1 0),(10,.v (.int .i16 (IntKind.i16.wrap v)))] hW21 hE37 fun a38 hE39=>?_
 refine qaj (qaN hE39 (f:=40) (vs:=[.pointer (some ⟨b15,0,none⟩),.int .i16 (IntKind.i16.wrap v)]) (d:=11) (n':=8) kz Tryd.call40 Tryd.func40 rfl Tryd.ntmps40 kz fun a40 hE41=>?_)
 have hE42:=hE41.recast 0 (.v (.pointer (some ⟨b15,0,none⟩))) (.p 1 0) rfl rfl (Nat.le_of_ble_eq_true (n:=2) rfl)
 refine qay [0,1,2,3,4] kz ?_
 refine qal [0,1,2,3] [4] [(5,.v (.int .i16 (IntKind.i16.wrap v))),(7,.p 1 0)] hW21 hE42 fun a43 hE44=>?_
 refine qaj (qao hW21 hE44 (oi:=1) (cs:=[.int .i16 (IntKind.i16.wrap v),.string ByteArray.empty,.string ByteArray.empty,.slice none 0 0,.map none]) kz fun w45 hF46 hW47 hE48=>?_)
 refine qae ?_
 refine qba hE48 hW47.cells (v:=.tuple #[]) kz ?_
 refine ⟨_,rfl,fun a49 hE50=>?_⟩
 have hE51:=(EnvOk.places (tb':=[⟨b1,0,[.int .i64 0,.slice none 0 0,.bool false,.slice none 0 0,.slice none 0 0],true⟩,⟨b15,0,[.int .i16 (IntKind.i16.wrap v),.string ByteArray.empty,.string ByteArray.empty,.slice none 0 0,.map none],true⟩]) hE50 (show Pl [⟨b1,0,[.int .i64 0,.slice none 0 0,.bool false,.slice none 0 0,.slice none 0 0],true⟩,⟨b15,0,[.int .i16 0,.string ByteArray.empty,.string ByteArray.empty,.slice none 0 0,.map none],true⟩] [⟨b1,0,[.int .i64 0,.slice none 0 0,.bool false,.slice none 0 0,.slice none 0 0],true⟩,⟨b15,0,[.int .i16 (IntKind.i16.wrap v),.string ByteArray.empty,.string ByteArray.empty,.slice none 0 0,.map none],true⟩] from ⟨rfl,rfl,⟨rfl,rfl,trivial⟩⟩)).pk (env':=[(11,.v (.tuple #[])),(1,.v (.slice A2 s.length c2)),(4,.p 0 0),(6,.p 1 0),(8,.p 1 0),(10,.v (.int .i16 (IntKind.i16.wrap v)))])
 refine qae (qab ?_)
 refine wp_seq ?_
 refine qad [0,1,2,3,4] kz ?_
 refine qal [0,1] [2,3,4] [(4,.p 0 0),(6,.p 1 0),(12,.p 1 0),(13,.v (.slice A2 s.length c2))] hW47 hE51 fun a52 hE53=>?_
 have hW54:=hW47.addNil 5 1
 have hF55:=hW47.frNil 5 1
 refine qaj (qa5 hW54 hE53 (k:=0) (d:=14) (t:=22) (e:=5) (size:=1) (bytes:=1) (A:=none) (As:=A2) (m0:=0) (c:=0) (m:=s.length) (cs:=c2) (xs:=[]) (news:=bc s) kz kz rfl (hs_.move hW54.step nilM hW54.imm).src (hs_.move hW54.step nilM hW54.imm).cap (by first | omega | (simp only [List.length_nil]; omega) | (simp; omega)) fun A56 c57 a58 w59 hF60 hW61 hE62=>?_)
 have er63:(⟨A56,c57,5,1,0 + s.length,[] ++ bc s⟩:Rw) = brow A56 c57 5 s:=by rw [List.nil_append,Nat.zero_add]
 obtain ⟨hW64,hF66⟩:=hW61.rowEq 0 [brow A56 c57 5 s] er63
 have hE67:=EnvOk.pick hE62 (ks:=[4,6,12,13,14]) (env':=[(4,.p 0 0),(6,.p 1 0),(12,.p 1 0),(13,.v (.slice A2 s.length c2)),(14,.v (.slice A56 (0 + s.length) c57))]) kz
 have hE65:=hE67.cast (env':=[(4,.p 0 0),(6,.p 1 0),(12,.p 1 0),(13,.v (.slice A2 s.length c2)),(14,.v (.slice A56 s.length c57))]) (by simp only [List.length_append,List.length_cons,List.length_nil,Nat.zero_add])
 refine qaj (qaN hE65 (f:=43) (vs:=[.pointer (some ⟨b15,0,none⟩),.slice A56 s.length c57]) (d:=15) (n':=8) kz Tryd.call43 Tryd.func43 rfl Tryd.ntmps43 kz fun a68 hE69=>?_)
 have hE70:=hE69.recast 0 (.v (.pointer (some ⟨b15,0,none⟩))) (.p 1 0) rfl rfl (Nat.le_of_ble_eq_true (n:=2) rfl)
 refine qar [(0,.p 1 0),(1,.v (.slice A56 s.length c57))] hW64 hE70 fun a71 hE72=>?_
 refine qad [0,1,2,3] kz ?_
 refine qal [0,1] [2,3] [(5,.p 1 0),(6,.v (.slice A56 s.length c57))] hW64 hE72 fun a73 hE74=>?_
 have ho75:=hW64.giveUp (G:=F) 0 [] (show _ = some (brow A56 c57 5 s) from rfl) (by omega)
 obtain ⟨hW76,hF77⟩:=hW64.cutR 0 []
 refine qaj (qaq hE74 (f:=65) (vs:=[.pointer (some ⟨b15,0,none⟩),.slice A56 s.length c57,.bool true]) (d:=7) kz Tryd.call65 (qbW (IntKind.i16.wrap v) true s hl (Str.of hW76 1 rfl) ho75 (hgl.move hW76.step nilM hW76.imm) (qfV 1 rfl) hb) ?_)
 rintro e_ w78 ⟨D79,rfl,hs80,hk81,hv82,hst83⟩
 obtain ⟨hW84,hF85,hl86⟩:=hW76.wrote 1 [⟨b1,0,[.int .i64 0,.slice none 0 0,.bool false,.slice none 0 0,.slice none 0 0],true⟩,⟨b15,0,[.int .i16 (IntKind.i16.wrap v),.string ((D79.f 0).s),.string ((D79.f 1).s),.slice ((D79.f 2).A) ((D79.f 2).l) ((D79.f 2).c),.map D79.m],true⟩] rfl hst83 hs80
 have hk90:=qbv _ (Step.refl _ Nil) nilM hl86 hk81
 refine ⟨_,rfl,fun a87 hE88=>?_⟩
 have hE89:=(EnvOk.places (tb':=[⟨b1,0,[.int .i64 0,.slice none 0 0,.bool false,.slice none 0 0,.slice none 0 0],true⟩,⟨b15,0,[.int .i16 (IntKind.i16.wrap v),.string ((D79.f 0).s),.string ((D79.f 1).s),.slice ((D79.f 2).A) ((D79.f 2).l) ((D79.f 2).c),.map D79.m],true⟩]) hE88 (show Pl [⟨b1,0,[.int .i64 0,.slice none 0 0,.bool false,.slice none 0 0,.slice none 0 0],true⟩,⟨b15,0,[.int .i16 (IntKind.i16.wrap v),.string ByteArray.empty,.string ByteArray.empty,.slice none 0 0,.map none],true⟩] [⟨b1,0,[.int .i64 0,.slice none 0 0,.bool false,.slice none 0 0,.slice none 0 0],true⟩,⟨b15,0,[.int .i16 (IntKind.i16.wrap v),.string ((D79.f 0).s),.string ((D79.f 1).s),.slice ((D79.f 2).A) ((D79.f 2).l) ((D79.f 2).c),.map D79.m],true⟩] from ⟨rfl,rfl,⟨rfl,rfl,trivial⟩⟩)).pk (env':=[(7,.v (.nilIface)),(5,.p 1 0),(6,.v (.slice A56 s.length c57))])
 refine qal [3] [] [(4,.v (.nilIface))] hW84 hE89 fun a92 hE93=>?_
 refine qae (qab ?_)
 refine wp_ret ?_
 refine qaQ hE93 hW84.cells (v:=.nilIface) kz ?_
 refine ⟨_,rfl,fun a94 hE95=>?_⟩
 have hE96:=(EnvOk.places (tb':=[⟨b1,0,[.int .i64 0,.slice none 0 0,.bool false,.slice none 0 0,.slice none 0 0],true⟩,⟨b15,0,[.int .i16 (IntKind.i16.wrap v),.string ((D79.f 0).s),.string ((D79.f 1).s),.slice ((D79.f 2).A) ((D79.f 2).l) ((D79.f 2).c),.map D79.m],true⟩]) hE95 (show Pl [⟨b1,0,[.int .i64 0,.slice none 0 0,.bool false,.slice none 0 0,.slice none 0 0],true⟩,⟨b15,0,[.int .i16 (IntKind.i16.wrap v),.string ByteArray.empty,.string ByteArray.empty,.slice none 0 0,.map none],true⟩] [⟨b1,0,[.int .i64 0,.slice none 0 0,.bool false,.slice none 0 0,.slice none 0 0],true⟩,⟨b15,0,[.int .i16 (IntKind.i16.wrap v),.string ((D79.f 0).s),.string ((D79.f 1).s),.slice ((D79.f 2).A) ((D79.f 2).l) ((D79.f 2).c),.map D79.m],true⟩] from ⟨rfl,rfl,⟨rfl,rfl,trivial⟩⟩)).pk (env':=[(15,.v (.nilIface)),(4,.p 0 0),(6,.p 1 0),(12,.p 1 0),(13,.v (.slice A2 s.length c2)),(14,.v (.slice A56 s.length c57))])
 refine qal [4] [] [(4,.p 0 0),(6,.p 1 0),(16,.v (.bool false))] hW84 hE96 fun a97 hE98=>?_
 refine qae (qab ?_)
 refine qam hE98 (b:=false) kz rfl ?_
 refine wp_skip ?_
 refine qab ?_
 refine qad [0,1,2,3] kz ?_
 refine qal [0] [1,2,3] [(4,.p 0 0),(18,.p 1 0)] hW84 hE98 fun a99 hE100=>?_
 have hE101:=hE100.recast 18 (.p 1 0) (.v (.pointer (some ⟨b15,0,none⟩))) rfl rfl trivial
 have hE102:=hE101.pk (env':=[(4,.p 0 0),(18,.v (.pointer (some ⟨b15,0,none⟩)))])
 have hat103:=WOk.strOut (G:=F) [⟨b1,0,[.int .i64 0,.slice none 0 0,.bool false,.slice none 0 0,.slice none 0 0],true⟩] hW84
 obtain ⟨hE104,hW105,hF106⟩:=hW84.cutB hE102 1 [⟨b1,0,[.int .i64 0,.slice none 0 0,.bool false,.slice none 0 0,.slice none 0 0],true⟩] [(4,.p 0 0),(18,.v (.pointer (some ⟨b15,0,none⟩)))]
 have hk107:=qbv _ hF106.step immM hF106.to' hk90
 refine qaj (qaq hE104 (f:=42) (vs:=[.pointer (some ⟨b15,0,none⟩)]) (d:=19) kz Tryd.call42 (qb5 (IntKind.i16.wrap v) D79 b15 0 _ _ hat103 hk107) ?_)
 rintro e_ w111 ⟨cs110,rfl,hr109,hs108⟩
 have hr112:=hr109.move (Step.refl _ Nil) nilM (hW105.laid (G:=F) hs108)
 obtain ⟨n113,s114,b115,l116,u117,A118,c119,A120,c121,A122,c123,xs124,ht130,hcs125,h126,h127,h128,h129⟩:=hr112.open_
 rw [hcs125] at hr112
 have hsm131:=h126.small
 have hsm132:=h127.small
 rw [hcs125]
 refine ⟨_,rfl,fun a133 hE134=>?_⟩
 have hW135:=hW105.next_nil hs108
 have hF136:=hW105.frN hs108
 refine qaj (qao hW135 hE134 (oi:=0) (cs:=[.int .i64 n113,.slice A118 s114.length c119,.bool b115,.slice A120 l116.length c121,.slice A122 u117.length c123]) kz fun w137 hF138 hW139 hE140=>?_)
 refine qal [3] [] [(4,.p 0 0),(5,.v (.bool true))] hW139 hE140 fun a141 hE142=>?_
 refine qae (qab ?_)
 refine wp_ret ?_
 refine qaQ hE142 hW139.cells (v:=.tuple #[.agg #[.int .i64 n113,.slice A118 s114.length c119,.bool b115,.slice A120 l116.length c121,.slice A122 u117.length c123],.bool true]) kz ?_
 rw [← hv82]
 exact ⟨_,rfl,(show TreeR _ (Imm F w w137 [⟨b1,0,[.int .i64 n113,.slice A118 s114.length c119,.bool b115,.slice A120 l116.length c121,.slice A122 u117.length c123],true⟩] []) _ (qbb D79) from (hr112.move hF138.step immM hF138.to')).move (Step.refl _ Nil) nilM qbg,hW139.step⟩
end Go.Proofs.YtajibgahdkllkaaDoorR.ME
namespace Go.Proofs.YtajibgahdkllkaaDoorR.ME
open Go
open Go.RowKit
set_option linter.unusedVariables false
set_option linter.unusedSimpArgs false
set_option maxRecDepth 20000
def qhE (m:Nat):Prop:=∀ (ct1 ct2:List Value) (t:Tree) (w:World) (F:Nat → Nat → Prop),TreeR w F ct1 t → TreeR w F ct2 t → t.depth ≤ m →
  Calls Tryd.prog 11 #[.agg ct1.toArray,.agg ct2.toArray] w (qbX w (.bool true))
set_option maxHeartbeats 4000000 in
theorem qfo {m:Nat} (hg:qhE m) (ct1 ct2:List Value) (t:Tree) (w:World) (F:Nat → Nat → Prop) (h1:TreeR w F ct1 t) (h2:TreeR w F ct2 t) (hd:t.depth ≤ m + 1) :
  Calls Tryd.prog 11 #[.agg ct1.toArray,.agg ct2.toArray] w (qbX w (.bool true)):=by
 obtain ⟨n1,s2,b3,l4,u5,A6,c7,A8,c9,A10,c11,xs12,rfl,rfl,h14,h15,h16,h17⟩:=h1.open_
 have hsm19:=h14.small
 have hsm20:=h15.small
 obtain ⟨n',s',b',l',u',A1',c1',A2',c2',A3',c3',xs',e',rfl,g1,g2,g3,g4⟩:=h2.open_
 obtain ⟨q1,q2,q3,q4,q5⟩:=Tree.mk.inj e'
 subst q1 q2 q3 q4 q5
 obtain ⟨cs21,h22,h23⟩:=h17.ex
 have hsm24:=h22.small
 obtain ⟨cs25,h26,h27⟩:=g4.ex
 have hsm28:=h26.small
 refine enter (n:=100) Tryd.func11 rfl Tryd.ntmps11 kz fun a hE=>?_
 have hW:=WOk.start w Nil
 refine qad [0,1,2] kz ?_
 refine qaj (qdp hW hE (d:=2) (cs:=[.int .i64 n1,.slice A6 s2.length c7,.bool b3,.slice A8 l4.length c9,.slice A10 u5.length c11]) kz fun b29 a30 w31 hb32 hz33 hF34 hW35 hE36=>?_)
 refine qaj (qdp hW35 hE36 (d:=3) (cs:=[.int .i64 n1,.slice A1' s2.length c1',.bool b3,.slice A2' l4.length c2',.slice A3' u5.length c3']) kz fun b37 a38 w39 hb40 hz41 hF42 hW43 hE44=>?_)
 refine qal [2] [] [(2,.p 0 0),(3,.p 1 0)] hW43 hE44 fun a45 hE46=>?_
 refine qae (qab ?_)
 refine wp_seq ?_
 refine qad [0,1,2,3,4,5,6,7,8,9,10,11,12,13,14,15,16,17,18,19,20,21,22,23,24,25,26,27,28,29,30,31,32,33,34,35,36,37] kz ?_
 refine qal [0,1,2,3,4,5] [6,7,8,9,10,11,12,13,14,15,16,17,18,19,20,21,22,23,24,25,26,27,28,29,30,31,32,33,34,35,36,37] [(2,.p 0 0),(3,.p 1 0),(12,.v (.bool (n1 != n1)))] hW43 hE46 fun a47 hE48=>?_
 have hc49:(n1 != n1) = false:=by simp
 have hE50:=hE48.cast (env':=[(2,.p 0 0),(3,.p 1 0),(12,.v (.bool false))]) (by rw [hc49])
 refine qal [6,7,8,9,10,11,12] [13,14,15,16,17,18,19,20,21,22,23,24,25,26,27,28,29,30,31,32,33,34,35,36,37] [(2,.p 0 0),(3,.p 1 0),(19,.v (.bool (!(b3 == b3))))] hW43 hE50 fun a51 hE52=>?_
 have hc53:(!(b3 == b3)) = false:=by simp
 have hE54:=hE52.cast (env':=[(2,.p 0 0),(3,.p 1 0),(19,.v (.bool false))]) (by rw [hc53])
 refine qal [13,14,15,16] [17,18,19,20,21,22,23,24,25,26,27,28,29,30,31,32,33,34,35,36,37] [(2,.p 0 0),(3,.p 1 0),(19,.v (.bool false)),(21,.v (.slice A6 s2.length c7)),(23,.v (.slice A1' s2.length c1'))] hW43 hE54 fun a55 hE56=>?_
 refine qaj (qaq hE56 (f:=31) (vs:=[.slice A6 s2.length c7,.slice A1' s2.length c1']) (d:=24) kz Tryd.call31 (qib _ _ _ _ s2 s2 _ _ (h14.move hW43.step nilM hW43.imm) (g1.move hW43.step nilM hW43.imm)) ?_)
 rintro e_ w58 ⟨rfl,hs57⟩
 refine ⟨_,rfl,fun a59 hE60=>?_⟩
 have hW61:=hW43.next_nil hs57
 have hF62:=hW43.frN hs57
 refine qal [18,19,20] [21,22,23,24,25,26,27,28,29,30,31,32,33,34,35,36,37] [(2,.p 0 0),(3,.p 1 0),(27,.v (.bool (!(decide (s2 = s2)))))] hW61 hE60 fun a63 hE64=>?_
 refine (Bool.eq_false_or_eq_true (!(decide (s2 = s2)))).elim (fun hc65=>?_) (fun hc65=>?_)
 ·
  have hE67:=hE64.cast (env':=[(2,.p 0 0),(3,.p 1 0),(27,.v (.bool true))]) (by rw [hc65])
  refine qal [21,22,23,24,25,26,27,28,29,30,31,32,33,34,35,36,37] [] [(2,.p 0 0),(3,.p 1 0),(44,.v (.bool true))] hW61 hE67 fun a68 hE69=>?_
  refine qae (qab ?_)
  refine qaI hE69 (b:=true) kz rfl ?_
  refine qar [(4,.v (.bool false))] hW61 hE69 fun a70 hE71=>?_
  refine wp_ret ?_
  refine qaP ?_
  refine qaQ hE71 hW61.cells (v:=.bool false) kz ?_
  exfalso; simp_all
 have hE73:=hE64.cast (env':=[(2,.p 0 0),(3,.p 1 0),(27,.v (.bool false))]) (by rw [hc65])
 refine qal [21,22,23,24,25,26,27,28,29] [30,31,32,33,34,35,36,37] [(2,.p 0 0),(3,.p 1 0),(36,.v (.bool (((l4.length:Nat):Int) != ((l4.length:Nat):Int))))] hW61 hE73 fun a74 hE75=>?_
 have hc76:(((l4.length:Nat):Int) != ((l4.length:Nat):Int)) = false:=by simp
 have hE77:=hE75.cast (env':=[(2,.p 0 0),(3,.p 1 0),(36,.v (.bool false))]) (by rw [hc76])
 refine qal [30,31,32,33,34,35,36,37] [] [(2,.p 0 0),(3,.p 1 0),(44,.v (.bool (((u5.length:Nat):Int) != ((u5.length:Nat):Int))))] hW61 hE77 fun a78 hE79=>?_
 refine qae (qab ?_)
 refine qam hE79 (b:=((u5.length:Nat):Int) != ((u5.length:Nat):Int)) kz (by simp) ?_
 refine wp_skip ?_
 refine qab ?_
 refine wp_seq ?_
 refine qar [(2,.p 0 0),(3,.p 1 0),(47,.v (.int .i64 ((l4.length:Nat):Int))),(48,.v (.int .i64 0))] hW61 hE79 fun a80 hE81=>?_
 refine wp_block ?_
 refine wp_loop_ghost (fun n_ a_ w_=>∃ (k:Nat),n_ = l4.length - k ∧ k ≤ l4.length ∧ LInv hW61 100 [⟨b29,0,[.int .i64 n1,.slice A6 s2.length c7,.bool b3,.slice A8 l4.length c9,.slice A10 u5.length c11],true⟩,⟨b37,0,[.int .i64 n1,.slice A1' s2.length c1',.bool b3,.slice A2' l4.length c2',.slice A3' u5.length c3'],true⟩] [] [(2,.p 0 0),(3,.p 1 0),(47,.v (.int .i64 ((l4.length:Nat):Int))),(48,.v (.int .i64 ((k:Nat):Int)))] a_ w_) (l4.length) ⟨0,by omega,by omega,hE81.pk,hW61,Fr.refl _ _ _⟩ ?_
 rintro n82 a83 w84 ⟨k,hn87,hk88,hE85,hW86,hF89⟩
 refine qar [(2,.p 0 0),(3,.p 1 0),(47,.v (.int .i64 ((l4.length:Nat):Int))),(48,.v (.int .i64 ((k:Nat):Int))),(49,.v (.bool (decide (((k:Nat):Int) < ((l4.length:Nat):Int)))))] hW86 hE85 fun a90 hE91=>?_
 refine wp_seq ?_
 refine qaM hE91 (b:=decide (((k:Nat):Int) < ((l4.length:Nat):Int))) kz (fun hc92=>?_) (fun hc92=>?_)
 ·
  have hf93:=of_decide_eq_true hc92
  refine wp_skip ?_
  refine qab ?_
  refine wp_seq ?_
  refine wp_block ?_
  refine qar [(2,.p 0 0),(3,.p 1 0),(5,.v (.int .i64 ((k:Nat):Int))),(47,.v (.int .i64 ((l4.length:Nat):Int))),(48,.v (.int .i64 ((k:Nat):Int)))] hW86 hE91 fun a94 hE95=>?_
  refine qaU 12 kz hW86 fun w96 hF97 hW98 hT99=>?_
  refine qaJ [0,1,2,5,6,7] [(2,.p 0 0),(3,.p 1 0),(47,.v (.int .i64 ((l4.length:Nat):Int))),(48,.v (.int .i64 ((k:Nat):Int))),(52,.v (.slice A8 l4.length c9)),(53,.v (.int .i64 ((k:Nat):Int))),(57,.v (.slice A2' l4.length c2')),(58,.v (.int .i64 ((k:Nat):Int)))] 6 (qac (qag (qac (qac (qag (qac qah)))))) (fun _ h=>h.cells) hT99 hE95 fun a100 hE101=>?_
  obtain ⟨b102,o103,hA104,hl105,hat106⟩:=Slots.get h15 (i:=k) (by omega)
  obtain ⟨x107,he108⟩:∃ x,l4[k]? = some x:=⟨_,List.getElem?_eq_getElem (by omega)⟩
  have hr109:=h16 k x107 he108
  obtain ⟨n110,s111,b112,l113,u114,A115,c116,A117,c118,A119,c120,xs121,rfl,hcs122,h123,h124,h125,h126⟩:=hr109.open_
  rw [hcs122] at hr109
  have hsm128:=h123.small
  have hsm129:=h124.small
  rw [hcs122] at hat106
  refine qaE hE101 (i:=3) (t:=34) (A:=A8) (m:=l4.length) (q:=((k:Nat):Int)) (d:=54) kz (e:=37) (size:=5) (bytes:=88) kz hA104 rfl (by omega) kz kz (qac (qag (qac (qac (qag (qac qah)))))) hT99 fun a130 hE131=>?_
  refine qaV hE131 (i:=4) (t:=37) (b:=b102) (o:=o103 + k * 5) (d:=55) kz (cs:=[.int .i64 n110,.slice A115 s111.length c116,.bool b112,.slice A117 l113.length c118,.slice A119 u114.length c120]) (v:=.agg #[.int .i64 n110,.slice A115 s111.length c116,.bool b112,.slice A117 l113.length c118,.slice A119 u114.length c120]) kz (fun w' h'=>(AtF.move hat106 (TT.step0 hW98 h') nilM qaF).at_) kz kz (qac (qag (qac (qac (qag (qac qah)))))) hT99 fun a132 hE133=>?_
  obtain ⟨b134,o135,hA136,hl137,hat138⟩:=Slots.get g2 (i:=k) (by omega)
  obtain ⟨x139,he140⟩:∃ x,l4[k]? = some x:=⟨_,List.getElem?_eq_getElem (by omega)⟩
  have hr141:=g3 k x139 he140
  obtain ⟨n142,s143,b144,l145,u146,A147,c148,A149,c150,A151,c152,xs153,rfl,hcs154,h155,h156,h157,h158⟩:=hr141.open_
  rw [hcs154] at hr141
  have hsm160:=h155.small
  have hsm161:=h156.small
  rw [hcs154] at hat138
  refine qaE hE133 (i:=8) (t:=34) (A:=A2') (m:=l4.length) (q:=((k:Nat):Int)) (d:=59) kz (e:=37) (size:=5) (bytes:=88) kz hA136 rfl (by omega) kz kz (qac (qag (qac (qac (qag (qac qah)))))) hT99 fun a162 hE163=>?_
  refine qaV hE163 (i:=9) (t:=37) (b:=b134) (o:=o135 + k * 5) (d:=60) kz (cs:=[.int .i64 n142,.slice A147 s143.length c148,.bool b144,.slice A149 l145.length c150,.slice A151 u146.length c152]) (v:=.agg #[.int .i64 n142,.slice A147 s143.length c148,.bool b144,.slice A149 l145.length c150,.slice A151 u146.length c152]) kz (fun w' h'=>(AtF.move hat138 (TT.step0 hW98 h') nilM qaF).at_) kz kz (qac (qag (qac (qac (qag (qac qah)))))) hT99 fun a164 hE165=>?_
  refine qaD (i:=10) kz (qaq hE165 (f:=11) (vs:=[.agg #[.int .i64 n110,.slice A115 s111.length c116,.bool b112,.slice A117 l113.length c118,.slice A119 u114.length c120],.agg #[.int .i64 n142,.slice A147 s143.length c148,.bool b144,.slice A149 l145.length c150,.slice A151 u146.length c152]]) (d:=61) kz Tryd.call11 (hg _ _ _ _ _ (hr109.move hW98.step nilM hW98.imm) (by rw [Option.some.inj (he108.symm.trans he140)]; exact (hr141.move hW98.step nilM hW98.imm)) (by have h_:=qeG he108; rw [qdv] at hd; omega)) ?_)
  rintro e_ w167 ⟨rfl,hs166⟩
  refine ⟨_,rfl,fun a168 hE169=>?_⟩
  have hW170:=hW98.next_nil hs166
  have hF171:=hW98.frN hs166
  have hT172:=TT.ofW hF171 hW170
  refine ⟨fun _=>hT172,?_⟩
  refine qaJ [11] [(2,.p 0 0),(3,.p 1 0),(47,.v (.int .i64 ((l4.length:Nat):Int))),(48,.v (.int .i64 ((k:Nat):Int))),(62,.v (.bool false))] 0 (qac (qag (qac (qac (qag (qac qah)))))) (fun _ h=>h.cells) hT172 hE169 fun a173 hE174=>?_
  refine qaR kz ?_ _
  refine qab ?_
  refine qam hE174 (b:=false) kz rfl ?_
  refine wp_skip ?_
  refine qaT ?_
  refine qab ?_
  refine qay [0,1] kz ?_
  refine qal [0,1] [] [(2,.p 0 0),(3,.p 1 0),(47,.v (.int .i64 ((l4.length:Nat):Int))),(48,.v (.int .i64 (IntKind.i64.wrap (((k:Nat):Int) + 1))))] hW170 hE174 fun a175 hE176=>?_
  refine qae (qab ?_)
  have he177:IntKind.i64.wrap (((k:Nat):Int) + 1) = ((k + 1:Nat):Int):=qbA (by omega)
  rw [he177] at hE176
  exact ⟨l4.length - (k + 1),by omega,k + 1,rfl,by omega,hE176.pk,hW170,((hF89.trans hF97).trans hF171)⟩
 have hf178:=of_decide_eq_false hc92
 refine wp_exit ?_
 refine qaL ?_
 refine qaL ?_
 refine qa9 ?_
 refine qab ?_
 refine wp_seq ?_
 refine qar [(2,.p 0 0),(3,.p 1 0),(66,.v (.int .i64 ((u5.length:Nat):Int))),(67,.v (.int .i64 0))] hW86 hE91 fun a179 hE180=>?_
 refine wp_block ?_
 refine wp_loop_ghost (fun n_ a_ w_=>∃ (q:Nat),n_ = u5.length - q ∧ q ≤ u5.length ∧ LInv hW86 100 [⟨b29,0,[.int .i64 n1,.slice A6 s2.length c7,.bool b3,.slice A8 l4.length c9,.slice A10 u5.length c11],true⟩,⟨b37,0,[.int .i64 n1,.slice A1' s2.length c1',.bool b3,.slice A2' l4.length c2',.slice A3' u5.length c3'],true⟩] [] [(2,.p 0 0),(3,.p 1 0),(66,.v (.int .i64 ((u5.length:Nat):Int))),(67,.v (.int .i64 ((q:Nat):Int)))] a_ w_) (u5.length) ⟨0,by omega,by omega,hE180.pk,hW86,Fr.refl _ _ _⟩ ?_
 rintro n181 a182 w183 ⟨q,hn186,hk187,hE184,hW185,hF188⟩
 refine qar [(2,.p 0 0),(3,.p 1 0),(66,.v (.int .i64 ((u5.length:Nat):Int))),(67,.v (.int .i64 ((q:Nat):Int))),(68,.v (.bool (decide (((q:Nat):Int) < ((u5.length:Nat):Int)))))] hW185 hE184 fun a189 hE190=>?_
 refine wp_seq ?_
 refine qaM hE190 (b:=decide (((q:Nat):Int) < ((u5.length:Nat):Int))) kz (fun hc191=>?_) (fun hc191=>?_)
 ·
  have hf192:=of_decide_eq_true hc191
  refine wp_skip ?_
  refine qab ?_
  refine wp_seq ?_
  refine wp_block ?_
  refine qar [(2,.p 0 0),(3,.p 1 0),(6,.v (.int .i64 ((q:Nat):Int))),(66,.v (.int .i64 ((u5.length:Nat):Int))),(67,.v (.int .i64 ((q:Nat):Int)))] hW185 hE190 fun a193 hE194=>?_
  refine qaU 29 kz hW185 fun w195 hF196 hW197 hT198=>?_
  refine qaJ [0,1,2,6,7,8] [(2,.p 0 0),(3,.p 1 0),(6,.v (.int .i64 ((q:Nat):Int))),(66,.v (.int .i64 ((u5.length:Nat):Int))),(67,.v (.int .i64 ((q:Nat):Int))),(71,.v (.slice A10 u5.length c11)),(72,.v (.int .i64 ((q:Nat):Int))),(77,.v (.slice A3' u5.length c3')),(78,.v (.int .i64 ((q:Nat):Int)))] 23 (qac (qag (qac (qac (qag (qac qah)))))) (fun _ h=>h.cells) hT198 hE194 fun a199 hE200=>?_
  obtain ⟨b201,o202,hA203,hl204,hat205⟩:=Slots.get h22 (i:=q) (by omega)
  obtain ⟨⟨k206,s207⟩,he208⟩:∃ x,u5[q]? = some x:=⟨_,List.getElem?_eq_getElem (by omega)⟩
  obtain ⟨⟨A209,c210,hcs211,hb212⟩,h213,h214⟩:=h23 q k206 s207 he208
  rw [hcs211] at hat205
  refine qaE hE200 (i:=3) (t:=35) (A:=A10) (m:=u5.length) (q:=((q:Nat):Int)) (d:=73) kz (e:=64) (size:=2) (bytes:=32) kz hA203 rfl (by omega) kz kz (qac (qag (qac (qac (qag (qac qah)))))) hT198 fun a215 hE216=>?_
  refine qaJ [4] [(2,.p 0 0),(3,.p 1 0),(6,.v (.int .i64 ((q:Nat):Int))),(66,.v (.int .i64 ((u5.length:Nat):Int))),(67,.v (.int .i64 ((q:Nat):Int))),(74,.v (.pointer (some ⟨b201,o202 + q * 2,none⟩))),(77,.v (.slice A3' u5.length c3')),(78,.v (.int .i64 ((q:Nat):Int)))] 21 (qac (qag (qac (qac (qag (qac qah)))))) (fun _ h=>h.cells) hT198 hE216 fun a217 hE218=>?_
  refine qaV hE218 (i:=5) (t:=62) (b:=b201) (o:=o202 + q * 2) (d:=75) kz (cs:=[.int .u32 k206]) (v:=.int .u32 k206) kz (fun w' h'=>(At.drop (AtF.move hat205 (TT.step0 hW197 h') nilM qaF).at_ 0 1)) kz kz (qac (qag (qac (qac (qag (qac qah)))))) hT198 fun a219 hE220=>?_
  obtain ⟨b221,o222,hA223,hl224,hat225⟩:=Slots.get h26 (i:=q) (by omega)
  obtain ⟨⟨k226,s227⟩,he228⟩:∃ x,u5[q]? = some x:=⟨_,List.getElem?_eq_getElem (by omega)⟩
  obtain ⟨⟨A229,c230,hcs231,hb232⟩,h233,h234⟩:=h27 q k226 s227 he228
  rw [hcs231] at hat225
  refine qaE hE220 (i:=9) (t:=35) (A:=A3') (m:=u5.length) (q:=((q:Nat):Int)) (d:=79) kz (e:=64) (size:=2) (bytes:=32) kz hA223 rfl (by omega) kz kz (qac (qag (qac (qac (qag (qac qah)))))) hT198 fun a235 hE236=>?_
  refine qaJ [10] [(2,.p 0 0),(3,.p 1 0),(6,.v (.int .i64 ((q:Nat):Int))),(66,.v (.int .i64 ((u5.length:Nat):Int))),(67,.v (.int .i64 ((q:Nat):Int))),(75,.v (.int .u32 k206)),(80,.v (.pointer (some ⟨b221,o222 + q * 2,none⟩)))] 18 (qac (qag (qac (qac (qag (qac qah)))))) (fun _ h=>h.cells) hT198 hE236 fun a237 hE238=>?_
  refine qaV hE238 (i:=11) (t:=62) (b:=b221) (o:=o222 + q * 2) (d:=81) kz (cs:=[.int .u32 k226]) (v:=.int .u32 k226) kz (fun w' h'=>(At.drop (AtF.move hat225 (TT.step0 hW197 h') nilM qaF).at_ 0 1)) kz kz (qac (qag (qac (qac (qag (qac qah)))))) hT198 fun a239 hE240=>?_
  refine qaJ [12,13] [(2,.p 0 0),(3,.p 1 0),(6,.v (.int .i64 ((q:Nat):Int))),(66,.v (.int .i64 ((u5.length:Nat):Int))),(67,.v (.int .i64 ((q:Nat):Int))),(83,.v (.bool (k206 != k226)))] 15 (qac (qag (qac (qac (qag (qac qah)))))) (fun _ h=>h.cells) hT198 hE240 fun a241 hE242=>?_
  have hc243:(k206 != k226) = false:=by obtain ⟨e1_,e2_⟩:=Prod.mk.inj (Option.some.inj (he208.symm.trans he228)); simp [e1_,e2_]
  have hE244:=hE242.cast (env':=[(2,.p 0 0),(3,.p 1 0),(6,.v (.int .i64 ((q:Nat):Int))),(66,.v (.int .i64 ((u5.length:Nat):Int))),(67,.v (.int .i64 ((q:Nat):Int))),(83,.v (.bool false))]) (by rw [hc243])
  refine qaJ [14,15,16,20,21,22] [(2,.p 0 0),(3,.p 1 0),(66,.v (.int .i64 ((u5.length:Nat):Int))),(67,.v (.int .i64 ((q:Nat):Int))),(83,.v (.bool false)),(85,.v (.slice A10 u5.length c11)),(86,.v (.int .i64 ((q:Nat):Int))),(91,.v (.slice A3' u5.length c3')),(92,.v (.int .i64 ((q:Nat):Int)))] 9 (qac (qag (qac (qac (qag (qac qah)))))) (fun _ h=>h.cells) hT198 hE244 fun a245 hE246=>?_
  refine qaE hE246 (i:=17) (t:=35) (A:=A10) (m:=u5.length) (q:=((q:Nat):Int)) (d:=87) kz (e:=64) (size:=2) (bytes:=32) kz hA203 rfl (by omega) kz kz (qac (qag (qac (qac (qag (qac qah)))))) hT198 fun a247 hE248=>?_
  refine qaJ [18] [(2,.p 0 0),(3,.p 1 0),(66,.v (.int .i64 ((u5.length:Nat):Int))),(67,.v (.int .i64 ((q:Nat):Int))),(83,.v (.bool false)),(88,.v (.pointer (some ⟨b201,o202 + q * 2 + 1,none⟩))),(91,.v (.slice A3' u5.length c3')),(92,.v (.int .i64 ((q:Nat):Int)))] 7 (qac (qag (qac (qac (qag (qac qah)))))) (fun _ h=>h.cells) hT198 hE248 fun a249 hE250=>?_
  refine qaV hE250 (i:=19) (t:=22) (b:=b201) (o:=o202 + q * 2 + 1) (d:=89) kz (cs:=[.slice A209 s207.length c210]) (v:=.slice A209 s207.length c210) kz (fun w' h'=>(At.drop (AtF.move hat205 (TT.step0 hW197 h') nilM qaF).at_ 1 1)) kz kz (qac (qag (qac (qac (qag (qac qah)))))) hT198 fun a251 hE252=>?_
  refine qaE hE252 (i:=23) (t:=35) (A:=A3') (m:=u5.length) (q:=((q:Nat):Int)) (d:=93) kz (e:=64) (size:=2) (bytes:=32) kz hA223 rfl (by omega) kz kz (qac (qag (qac (qac (qag (qac qah)))))) hT198 fun a253 hE254=>?_
  refine qaJ [24] [(2,.p 0 0),(3,.p 1 0),(66,.v (.int .i64 ((u5.length:Nat):Int))),(67,.v (.int .i64 ((q:Nat):Int))),(83,.v (.bool false)),(89,.v (.slice A209 s207.length c210)),(94,.v (.pointer (some ⟨b221,o222 + q * 2 + 1,none⟩)))] 4 (qac (qag (qac (qac (qag (qac qah)))))) (fun _ h=>h.cells) hT198 hE254 fun a255 hE256=>?_
  refine qaV hE256 (i:=25) (t:=22) (b:=b221) (o:=o222 + q * 2 + 1) (d:=95) kz (cs:=[.slice A229 s227.length c230]) (v:=.slice A229 s227.length c230) kz (fun w' h'=>(At.drop (AtF.move hat225 (TT.step0 hW197 h') nilM qaF).at_ 1 1)) kz kz (qac (qag (qac (qac (qag (qac qah)))))) hT198 fun a257 hE258=>?_
  refine qaD (i:=26) kz (qaq hE258 (f:=31) (vs:=[.slice A209 s207.length c210,.slice A229 s227.length c230]) (d:=96) kz Tryd.call31 (qib _ _ _ _ s207 s227 _ _ (hb212.move hW197.step nilM hW197.imm) (hb232.move hW197.step nilM hW197.imm)) ?_)
  rintro e_ w260 ⟨rfl,hs259⟩
  refine ⟨_,rfl,fun a261 hE262=>?_⟩
  have hW263:=hW197.next_nil hs259
  have hF264:=hW197.frN hs259
  have hT265:=TT.ofW hF264 hW263
  refine ⟨fun _=>hT265,?_⟩
  refine qaJ [27,28] [(2,.p 0 0),(3,.p 1 0),(66,.v (.int .i64 ((u5.length:Nat):Int))),(67,.v (.int .i64 ((q:Nat):Int))),(98,.v (.bool (!(decide (s207 = s227)))))] 0 (qac (qag (qac (qac (qag (qac qah)))))) (fun _ h=>h.cells) hT265 hE262 fun a266 hE267=>?_
  refine qaR kz ?_ _
  refine qab ?_
  refine qam hE267 (b:=!(decide (s207 = s227))) kz (by obtain ⟨e1_,e2_⟩:=Prod.mk.inj (Option.some.inj (he208.symm.trans he228)); simp [e1_,e2_]) ?_
  refine wp_skip ?_
  refine qaT ?_
  refine qab ?_
  refine qay [0,1] kz ?_
  refine qal [0,1] [] [(2,.p 0 0),(3,.p 1 0),(66,.v (.int .i64 ((u5.length:Nat):Int))),(67,.v (.int .i64 (IntKind.i64.wrap (((q:Nat):Int) + 1))))] hW263 hE267 fun a268 hE269=>?_
  refine qae (qab ?_)
  have he270:IntKind.i64.wrap (((q:Nat):Int) + 1) = ((q + 1:Nat):Int):=qbA (by omega)
  rw [he270] at hE269
  exact ⟨u5.length - (q + 1),by omega,q + 1,rfl,by omega,hE269.pk,hW263,((hF188.trans hF196).trans hF264)⟩
 have hf271:=of_decide_eq_false hc191
 refine wp_exit ?_
 refine qaL ?_
 refine qaL ?_
 refine qa9 ?_
 refine qab ?_
 refine qar [(4,.v (.bool true))] hW185 hE190 fun a272 hE273=>?_
 refine wp_ret ?_
 refine qaQ hE273 hW185.cells (v:=.bool true) kz ?_
 exact ⟨rfl,hW185.step⟩
theorem qhF:∀ m,qhE m
 | 0=>fun ct1 ct2 t w F h1 h2 hd=>by
  obtain ⟨n,s,b,l,u,A1,c1,A2,c2,A3,c3,xs,rfl,_⟩:=h1.open_
  rw [qdv] at hd; omega
 | m + 1=>qfo (qhF m)
end Go.Proofs.YtajibgahdkllkaaDoorR.ME