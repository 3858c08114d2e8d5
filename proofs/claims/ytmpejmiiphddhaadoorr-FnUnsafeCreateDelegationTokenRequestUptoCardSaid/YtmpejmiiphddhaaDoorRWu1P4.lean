/- The texts of a claim, put together: the engine, the contracts, the law. Own work. -/
import Derived.Test.YtmpejmiiphddhaaDoorRWu1P3
namespace Go.Proofs.YtmpejmiiphddhaaDoorR.ME
open Go
open Go.RowKit
set_option linter.unusedVariables false
set_option linter.unusedSimpArgs false
set_option maxRecDepth 20000
theorem qbp (w:World):Calls Tryd.prog 5 #[] w (qcn w (.int .i64 3)):=by
 refine enter (n:=4) Tryd.func5 rfl Tryd.ntmps5 kz fun a hE=>?_
 have hW:=WOk.start w Nil
 refine qas [] hW hE fun a1 hE2=>?_
 refine qad [0,1,2,3] kz ?_
 refine qak (qaU hE2 (f:=14) (vs:=[]) (d:=1) (n':=3) kz Tryd.call14 Tryd.func14 rfl Tryd.ntmps14 kz fun a3 hE4=>?_)
 refine qas [] hW hE4 fun a5 hE6=>?_
 refine qad [0] kz ?_
 refine qak (qaH hW hE6 (d:=1) (cs:=[.int .i16 0,.pointer none,.pointer none,.slice none 0 0,.int .i64 0,.map none]) kz fun b7 a8 w9 hb10 hz11 hF12 hW13 hE14=>?_)
 refine qaf (qab ?_)
 refine qad [0] kz ?_
 refine qak (qaU hE14 (f:=27) (vs:=[.pointer (some ⟨b7,0,none⟩)]) (d:=2) (n':=2) kz Tryd.call27 Tryd.func27 rfl Tryd.ntmps27 kz fun a15 hE16=>?_)
 have hE17:=hE16.recast 0 (.v (.pointer (some ⟨b7,0,none⟩))) (.p 0 0) rfl rfl (Nat.le_of_ble_eq_true (n:=1) rfl)
 refine wp_skip ?_
 refine qbk hE17 hW13.cells (v:=.tuple #[]) kz ?_
 refine ⟨_,rfl,fun a18 hE19=>?_⟩
 have hE20:=(EnvOk.places (tb':=[⟨b7,0,[.int .i16 0,.pointer none,.pointer none,.slice none 0 0,.int .i64 0,.map none],true⟩]) hE19 (show Pl [⟨b7,0,[.int .i16 0,.pointer none,.pointer none,.slice none 0 0,.int .i64 0,.map none],true⟩] [⟨b7,0,[.int .i16 0,.pointer none,.pointer none,.slice none 0 0,.int .i64 0,.map none],true⟩] from ⟨rfl,rfl,trivial⟩)).pk (env':=[(2,.v (.tuple #[])),(1,.p 0 0)])
 refine qaf (qab ?_)
 refine qas [(0,.p 0 0)] hW13 hE20 fun a21 hE22=>?_
 refine wp_ret ?_
 refine qaV hE22 hW13.cells (v:=.pointer (some ⟨b7,0,none⟩)) kz ?_
 refine ⟨_,rfl,fun a23 hE24=>?_⟩
 have hE25:=(EnvOk.places (tb':=[⟨b7,0,[.int .i16 0,.pointer none,.pointer none,.slice none 0 0,.int .i64 0,.map none],true⟩]) hE24 (show Pl [] [⟨b7,0,[.int .i16 0,.pointer none,.pointer none,.slice none 0 0,.int .i64 0,.map none],true⟩] from trivial)).pk (env':=[(1,.v (.pointer (some ⟨b7,0,none⟩)))])
 have hE26:=hE25.recast 1 (.v (.pointer (some ⟨b7,0,none⟩))) (.p 0 0) rfl rfl (Nat.le_of_ble_eq_true (n:=1) rfl)
 have hE27:=hE26.pick (ks:=[1]) (env':=[(1,.p 0 0)]) kz
 refine qak (qaU hE27 (f:=15) (vs:=[.pointer (some ⟨b7,0,none⟩)]) (d:=2) (n':=3) kz Tryd.call15 Tryd.func15 rfl Tryd.ntmps15 kz fun a28 hE29=>?_)
 have hE30:=hE29.recast 0 (.v (.pointer (some ⟨b7,0,none⟩))) (.p 0 0) rfl rfl (Nat.le_of_ble_eq_true (n:=1) rfl)
 refine qas [] hW13 hE30 fun a31 hE32=>?_
 refine qas [(2,.v (.int .i16 3))] hW13 hE32 fun a33 hE34=>?_
 refine wp_ret ?_
 refine qaV hE34 hW13.cells (v:=.int .i16 3) kz ?_
 refine ⟨_,rfl,fun a35 hE36=>?_⟩
 have hE37:=(EnvOk.places (tb':=[⟨b7,0,[.int .i16 0,.pointer none,.pointer none,.slice none 0 0,.int .i64 0,.map none],true⟩]) hE36 (show Pl [⟨b7,0,[.int .i16 0,.pointer none,.pointer none,.slice none 0 0,.int .i64 0,.map none],true⟩] [⟨b7,0,[.int .i16 0,.pointer none,.pointer none,.slice none 0 0,.int .i64 0,.map none],true⟩] from ⟨rfl,rfl,trivial⟩)).pk (env':=[(2,.v (.int .i16 3)),(1,.p 0 0)])
 refine qal [2,3] [] [(0,.v (.int .i64 3))] hW13 hE37 fun a38 hE39=>?_
 refine qaf (qab ?_)
 refine wp_ret ?_
 refine qaV hE39 hW13.cells (v:=.int .i64 3) kz ?_
 exact ⟨rfl,hW13.step⟩
set_option maxHeartbeats 4000000 in
theorem qb3 (x:Int) (hx:0 ≤ x) (hx':x < 256) (s:Bs) (hl:s.length ≤ 1000) {ue:TypeId} {ve:Value} {A2:Option Addr} {c2:Nat} (w:World) (F:Nat → Nat → Prop) (hs_:Octs w F A2 c2 s) (hgl:AtF w F 0 0 [.iface ue ve]) (hb:(qau (IntKind.i16.wrap (Int.tmod x (3 + 1))) (false,s)).1 = true) :
  Calls Tryd.prog 3 #[.int .u8 x,.slice A2 s.length c2] w (qcn w (.bool true)):=by
 refine enter (n:=49) Tryd.func3 rfl Tryd.ntmps3 kz fun a hE=>?_
 have hW:=WOk.start w Nil
 have hsm2:=Slots.small hs_
 refine qas [(0,.v (.int .u8 x)),(1,.v (.slice A2 s.length c2))] hW hE fun a1 hE2=>?_
 refine wp_seq ?_
 refine qas [(0,.v (.int .u8 x)),(1,.v (.slice A2 s.length c2)),(12,.v (.bool (decide (((s.length:Nat):Int) > 2147483647))))] hW hE2 fun a3 hE4=>?_
 refine qam hE4 (b:=decide (((s.length:Nat):Int) > 2147483647)) kz (decide_eq_false (by omega)) ?_
 refine wp_skip ?_
 refine qab ?_
 refine qad [0,1] kz ?_
 refine qak (qap hE4 (f:=5) (vs:=[]) (d:=13) kz Tryd.call5 (qbp _) ?_)
 rintro e_ w6 ⟨rfl,hs5⟩
 refine ⟨_,rfl,fun a7 hE8=>?_⟩
 have hW9:=hW.next_nil hs5
 have hF10:=hW.frN hs5
 refine qal [1] [] [(0,.v (.int .u8 x)),(1,.v (.slice A2 s.length c2)),(5,.v (.int .i64 3))] hW9 hE8 fun a11 hE12=>?_
 refine qaf (qab ?_)
 refine wp_seq ?_
 refine qas [(0,.v (.int .u8 x)),(1,.v (.slice A2 s.length c2)),(5,.v (.int .i64 3)),(15,.v (.bool false))] hW9 hE12 fun a13 hE14=>?_
 refine qam hE14 (b:=false) kz rfl ?_
 refine wp_skip ?_
 refine qab ?_
 refine wp_seq ?_
 refine qas [(0,.v (.int .u8 x)),(1,.v (.slice A2 s.length c2)),(5,.v (.int .i64 3)),(18,.v (.bool (decide (((s.length:Nat):Int) > 1000))))] hW9 hE14 fun a15 hE16=>?_
 refine qam hE16 (b:=decide (((s.length:Nat):Int) > 1000)) kz (decide_eq_false (by omega)) ?_
 refine wp_skip ?_
 refine qab ?_
 refine qad [0,1,2,3,4,5,6,7,8,9,10] kz ?_
 refine qal [0,1] [2,3,4,5,6,7,8,9,10] [(0,.v (.int .u8 x)),(1,.v (.slice A2 s.length c2)),(5,.v (.int .i64 3)),(20,.v (.int .u8 x)),(21,.v (.int .i64 3))] hW9 hE16 fun a17 hE18=>?_
 refine qak (qap hE18 (f:=7) (vs:=[.int .u8 x,.int .i64 3]) (d:=22) kz Tryd.call7 (qd2 x 3 hx hx' (by decide) (by decide) _) ?_)
 rintro e_ w20 ⟨rfl,hs19⟩
 refine ⟨_,rfl,fun a21 hE22=>?_⟩
 have hW23:=hW9.next_nil hs19
 have hF24:=hW9.frN hs19
 refine qal [3] [4,5,6,7,8,9,10] [(0,.v (.int .u8 x)),(1,.v (.slice A2 s.length c2)),(5,.v (.int .i64 3)),(22,.v (.int .i64 (Int.tmod x (3 + 1)))),(23,.v (.slice A2 s.length c2))] hW23 hE22 fun a25 hE26=>?_
 refine qak (qap hE26 (f:=6) (vs:=[.int .i64 (Int.tmod x (3 + 1)),.slice A2 s.length c2]) (d:=24) kz Tryd.call6 (qb0 (Int.tmod x (3 + 1)) s hl (hs_.move hW23.step nilM hW23.imm) (hgl.move hW23.step nilM hW23.imm) hb) ?_)
 rintro e_ w27 ⟨cs28,rfl,hr29,hs30⟩
 have hr31:=hr29.move (Step.refl _ Nil) nilM (hW23.laid (G:=F) hs30)
 obtain ⟨n32,s33,b34,l35,u36,A37,c38,A39,c40,A41,c42,xs43,ht49,hcs44,h45,h46,h47,h48⟩:=hr31.open_
 rw [hcs44] at hr31
 have hsm50:=h45.small
 have hsm51:=h46.small
 rw [hcs44]
 refine ⟨_,rfl,fun a52 hE53=>?_⟩
 have hW54:=hW23.next_nil hs30
 have hF55:=hW23.frN hs30
 refine qal [5,6,7] [8,9,10] [(0,.v (.int .u8 x)),(1,.v (.slice A2 s.length c2)),(5,.v (.int .i64 3)),(25,.v (.agg #[.int .i64 n32,.slice A37 s33.length c38,.bool b34,.slice A39 l35.length c40,.slice A41 u36.length c42])),(26,.v (.bool false))] hW54 hE53 fun a56 hE57=>?_
 refine qak (qaH hW54 hE57 (d:=6) (cs:=[.int .i64 0,.slice none 0 0,.bool false,.slice none 0 0,.slice none 0 0]) kz fun b58 a59 w60 hb61 hz62 hF63 hW64 hE65=>?_)
 refine qak (qao hW64 hE65 (oi:=0) (cs:=[.int .i64 n32,.slice A37 s33.length c38,.bool b34,.slice A39 l35.length c40,.slice A41 u36.length c42]) kz fun w66 hF67 hW68 hE69=>?_)
 refine qal [10] [] [(0,.v (.int .u8 x)),(1,.v (.slice A2 s.length c2)),(5,.v (.int .i64 3)),(6,.p 0 0),(7,.v (.bool false))] hW68 hE69 fun a70 hE71=>?_
 refine qaf (qab ?_)
 refine qad [0,1,2,3,4,5,6,7,8,9,10] kz ?_
 refine qal [0,1] [2,3,4,5,6,7,8,9,10] [(1,.v (.slice A2 s.length c2)),(6,.p 0 0),(7,.v (.bool false)),(28,.v (.int .u8 x)),(29,.v (.int .i64 3))] hW68 hE71 fun a72 hE73=>?_
 refine qak (qap hE73 (f:=7) (vs:=[.int .u8 x,.int .i64 3]) (d:=30) kz Tryd.call7 (qd2 x 3 hx hx' (by decide) (by decide) _) ?_)
 rintro e_ w75 ⟨rfl,hs74⟩
 refine ⟨_,rfl,fun a76 hE77=>?_⟩
 have hW78:=hW68.next_nil hs74
 have hF79:=hW68.frN hs74
 refine qal [3] [4,5,6,7,8,9,10] [(6,.p 0 0),(7,.v (.bool false)),(30,.v (.int .i64 (Int.tmod x (3 + 1)))),(31,.v (.slice A2 s.length c2))] hW78 hE77 fun a80 hE81=>?_
 refine qak (qap hE81 (f:=8) (vs:=[.int .i64 (Int.tmod x (3 + 1)),.slice A2 s.length c2]) (d:=32) kz Tryd.call8 (qbW (Int.tmod x (3 + 1)) s hl (hs_.move hW78.step nilM hW78.imm) (hgl.move hW78.step nilM hW78.imm) hb) ?_)
 rintro e_ w82 ⟨cs83,rfl,hr84,hs85⟩
 have hr86:=hr84.move (Step.refl _ Nil) nilM (hW78.laid (G:=F) hs85)
 obtain ⟨n87,s88,b89,l90,u91,A92,c93,A94,c95,A96,c97,xs98,ht104,hcs99,h100,h101,h102,h103⟩:=hr86.open_
 rw [hcs99] at hr86
 have hsm105:=h100.small
 have hsm106:=h101.small
 rw [hcs99]
 refine ⟨_,rfl,fun a107 hE108=>?_⟩
 have hW109:=hW78.next_nil hs85
 have hF110:=hW78.frN hs85
 refine qal [5,6,7] [8,9,10] [(6,.p 0 0),(7,.v (.bool false)),(33,.v (.agg #[.int .i64 n87,.slice A92 s88.length c93,.bool b89,.slice A94 l90.length c95,.slice A96 u91.length c97])),(34,.v (.bool false))] hW109 hE108 fun a111 hE112=>?_
 refine qak (qaH hW109 hE112 (d:=8) (cs:=[.int .i64 0,.slice none 0 0,.bool false,.slice none 0 0,.slice none 0 0]) kz fun b113 a114 w115 hb116 hz117 hF118 hW119 hE120=>?_)
 refine qak (qao hW119 hE120 (oi:=1) (cs:=[.int .i64 n87,.slice A92 s88.length c93,.bool b89,.slice A94 l90.length c95,.slice A96 u91.length c97]) kz fun w121 hF122 hW123 hE124=>?_)
 refine qal [10] [] [(6,.p 0 0),(7,.v (.bool false)),(8,.p 1 0),(9,.v (.bool false))] hW123 hE124 fun a125 hE126=>?_
 refine qaf (qab ?_)
 refine qa4 14 kz hW123 fun w127 hF128 hW129 hT130=>?_
 refine qaK [0,1,2,3,4,5,6,7,8,9,10,11,12,13] [(48,.v (.bool true))] 1 (qac qag) (fun _ h=>h.cells) hT130 hE126 fun a131 hE132=>?_
 refine qaG (i:=14) kz (qcA [4] hW129.cells hE132 (env':=[(4,.v (.bool true))]) kz fun a133 hE134=>?_)
 refine ⟨fun h=>absurd rfl h,?_⟩
 refine qaS kz ?_ _
 refine qab ?_
 refine wp_ret ?_
 refine qaV hE134 hW129.cells (v:=.bool true) kz ?_
 exact ⟨rfl,hW129.step⟩
set_option maxHeartbeats 4000000 in
theorem qb4 (x:Int) (hx:0 ≤ x) (hx':x < 256) (s:Bs) (hl:s.length ≤ 1000) {ue:TypeId} {ve:Value} {A2:Option Addr} {c2:Nat} (w:World) (F:Nat → Nat → Prop) (hs_:Octs w F A2 c2 s) (hgl:AtF w F 0 0 [.iface ue ve]) (hb:(qau (IntKind.i16.wrap (Int.tmod x (3 + 1))) (false,s)).1 = false) :
  Calls Tryd.prog 3 #[.int .u8 x,.slice A2 s.length c2] w (qcn w (.bool true)):=by
 refine enter (n:=49) Tryd.func3 rfl Tryd.ntmps3 kz fun a hE=>?_
 have hW:=WOk.start w Nil
 have hsm2:=Slots.small hs_
 refine qas [(0,.v (.int .u8 x)),(1,.v (.slice A2 s.length c2))] hW hE fun a1 hE2=>?_
 refine wp_seq ?_
 refine qas [(0,.v (.int .u8 x)),(1,.v (.slice A2 s.length c2)),(12,.v (.bool (decide (((s.length:Nat):Int) > 2147483647))))] hW hE2 fun a3 hE4=>?_
 refine qam hE4 (b:=decide (((s.length:Nat):Int) > 2147483647)) kz (decide_eq_false (by omega)) ?_
 refine wp_skip ?_
 refine qab ?_
 refine qad [0,1] kz ?_
 refine qak (qap hE4 (f:=5) (vs:=[]) (d:=13) kz Tryd.call5 (qbp _) ?_)
 rintro e_ w6 ⟨rfl,hs5⟩
 refine ⟨_,rfl,fun a7 hE8=>?_⟩
 have hW9:=hW.next_nil hs5
 have hF10:=hW.frN hs5
 refine qal [1] [] [(0,.v (.int .u8 x)),(1,.v (.slice A2 s.length c2)),(5,.v (.int .i64 3))] hW9 hE8 fun a11 hE12=>?_
 refine qaf (qab ?_)
 refine wp_seq ?_
 refine qas [(0,.v (.int .u8 x)),(1,.v (.slice A2 s.length c2)),(5,.v (.int .i64 3)),(15,.v (.bool false))] hW9 hE12 fun a13 hE14=>?_
 refine qam hE14 (b:=false) kz rfl ?_
 refine wp_skip ?_
 refine qab ?_
 refine wp_seq ?_
 refine qas [(0,.v (.int .u8 x)),(1,.v (.slice A2 s.length c2)),(5,.v (.int .i64 3)),(18,.v (.bool (decide (((s.length:Nat):Int) > 1000))))] hW9 hE14 fun a15 hE16=>?_
 refine qam hE16 (b:=decide (((s.length:Nat):Int) > 1000)) kz (decide_eq_false (by omega)) ?_
 refine wp_skip ?_
 refine qab ?_
 refine qad [0,1,2,3,4,5,6,7,8,9,10] kz ?_
 refine qal [0,1] [2,3,4,5,6,7,8,9,10] [(0,.v (.int .u8 x)),(1,.v (.slice A2 s.length c2)),(5,.v (.int .i64 3)),(20,.v (.int .u8 x)),(21,.v (.int .i64 3))] hW9 hE16 fun a17 hE18=>?_
 refine qak (qap hE18 (f:=7) (vs:=[.int .u8 x,.int .i64 3]) (d:=22) kz Tryd.call7 (qd2 x 3 hx hx' (by decide) (by decide) _) ?_)
 rintro e_ w20 ⟨rfl,hs19⟩
 refine ⟨_,rfl,fun a21 hE22=>?_⟩
 have hW23:=hW9.next_nil hs19
 have hF24:=hW9.frN hs19
 refine qal [3] [4,5,6,7,8,9,10] [(0,.v (.int .u8 x)),(1,.v (.slice A2 s.length c2)),(5,.v (.int .i64 3)),(22,.v (.int .i64 (Int.tmod x (3 + 1)))),(23,.v (.slice A2 s.length c2))] hW23 hE22 fun a25 hE26=>?_
 refine qak (qap hE26 (f:=6) (vs:=[.int .i64 (Int.tmod x (3 + 1)),.slice A2 s.length c2]) (d:=24) kz Tryd.call6 (qb1 (Int.tmod x (3 + 1)) s hl (hs_.move hW23.step nilM hW23.imm) (hgl.move hW23.step nilM hW23.imm) hb) ?_)
 rintro e_ w27 ⟨cs28,rfl,hr29,hs30⟩
 have hr31:=hr29.move (Step.refl _ Nil) nilM (hW23.laid (G:=F) hs30)
 obtain ⟨n32,s33,b34,l35,u36,A37,c38,A39,c40,A41,c42,xs43,ht49,hcs44,h45,h46,h47,h48⟩:=hr31.open_
 rw [hcs44] at hr31
 have hsm50:=h45.small
 have hsm51:=h46.small
 rw [hcs44]
 refine ⟨_,rfl,fun a52 hE53=>?_⟩
 have hW54:=hW23.next_nil hs30
 have hF55:=hW23.frN hs30
 refine qal [5,6,7] [8,9,10] [(0,.v (.int .u8 x)),(1,.v (.slice A2 s.length c2)),(5,.v (.int .i64 3)),(25,.v (.agg #[.int .i64 n32,.slice A37 s33.length c38,.bool b34,.slice A39 l35.length c40,.slice A41 u36.length c42])),(26,.v (.bool true))] hW54 hE53 fun a56 hE57=>?_
 refine qak (qaH hW54 hE57 (d:=6) (cs:=[.int .i64 0,.slice none 0 0,.bool false,.slice none 0 0,.slice none 0 0]) kz fun b58 a59 w60 hb61 hz62 hF63 hW64 hE65=>?_)
 refine qak (qao hW64 hE65 (oi:=0) (cs:=[.int .i64 n32,.slice A37 s33.length c38,.bool b34,.slice A39 l35.length c40,.slice A41 u36.length c42]) kz fun w66 hF67 hW68 hE69=>?_)
 refine qal [10] [] [(0,.v (.int .u8 x)),(1,.v (.slice A2 s.length c2)),(5,.v (.int .i64 3)),(6,.p 0 0),(7,.v (.bool true))] hW68 hE69 fun a70 hE71=>?_
 refine qaf (qab ?_)
 refine qad [0,1,2,3,4,5,6,7,8,9,10] kz ?_
 refine qal [0,1] [2,3,4,5,6,7,8,9,10] [(1,.v (.slice A2 s.length c2)),(6,.p 0 0),(7,.v (.bool true)),(28,.v (.int .u8 x)),(29,.v (.int .i64 3))] hW68 hE71 fun a72 hE73=>?_
 refine qak (qap hE73 (f:=7) (vs:=[.int .u8 x,.int .i64 3]) (d:=30) kz Tryd.call7 (qd2 x 3 hx hx' (by decide) (by decide) _) ?_)
 rintro e_ w75 ⟨rfl,hs74⟩
 refine ⟨_,rfl,fun a76 hE77=>?_⟩
 have hW78:=hW68.next_nil hs74
 have hF79:=hW68.frN hs74
 refine qal [3] [4,5,6,7,8,9,10] [(6,.p 0 0),(7,.v (.bool true)),(30,.v (.int .i64 (Int.tmod x (3 + 1)))),(31,.v (.slice A2 s.length c2))] hW78 hE77 fun a80 hE81=>?_
 refine qak (qap hE81 (f:=8) (vs:=[.int .i64 (Int.tmod x (3 + 1)),.slice A2 s.length c2]) (d:=32) kz Tryd.call8 (qbX (Int.tmod x (3 + 1)) s hl (hs_.move hW78.step nilM hW78.imm) (hgl.move hW78.step nilM hW78.imm) hb) ?_)
 rintro e_ w82 ⟨cs83,rfl,hr84,hs85⟩
 have hr86:=hr84.move (Step.refl _ Nil) nilM (hW78.laid (G:=F) hs85)
 obtain ⟨n87,s88,b89,l90,u91,A92,c93,A94,c95,A96,c97,xs98,ht104,hcs99,h100,h101,h102,h103⟩:=hr86.open_
 rw [hcs99] at hr86
 have hsm105:=h100.small
 have hsm106:=h101.small
 rw [hcs99]
 refine ⟨_,rfl,fun a107 hE108=>?_⟩
 have hW109:=hW78.next_nil hs85
 have hF110:=hW78.frN hs85
 refine qal [5,6,7] [8,9,10] [(6,.p 0 0),(7,.v (.bool true)),(33,.v (.agg #[.int .i64 n87,.slice A92 s88.length c93,.bool b89,.slice A94 l90.length c95,.slice A96 u91.length c97])),(34,.v (.bool true))] hW109 hE108 fun a111 hE112=>?_
 refine qak (qaH hW109 hE112 (d:=8) (cs:=[.int .i64 0,.slice none 0 0,.bool false,.slice none 0 0,.slice none 0 0]) kz fun b113 a114 w115 hb116 hz117 hF118 hW119 hE120=>?_)
 refine qak (qao hW119 hE120 (oi:=1) (cs:=[.int .i64 n87,.slice A92 s88.length c93,.bool b89,.slice A94 l90.length c95,.slice A96 u91.length c97]) kz fun w121 hF122 hW123 hE124=>?_)
 refine qal [10] [] [(6,.p 0 0),(7,.v (.bool true)),(8,.p 1 0),(9,.v (.bool true))] hW123 hE124 fun a125 hE126=>?_
 refine qaf (qab ?_)
 refine qa4 14 kz hW123 fun w127 hF128 hW129 hT130=>?_
 refine qaK [0,1,2,3,4,5,6,7,9] [(38,.v (.bool true)),(41,.v (.bool false)),(42,.v (.agg #[.int .i64 n32,.slice A37 s33.length c38,.bool b34,.slice A39 l35.length c40,.slice A41 u36.length c42])),(44,.v (.agg #[.int .i64 n87,.slice A92 s88.length c93,.bool b89,.slice A94 l90.length c95,.slice A96 u91.length c97]))] 6 (qac qag) (fun _ h=>h.cells) hT130 hE126 fun a131 hE132=>?_
 refine qaG (i:=8) kz (qap hE132 (f:=10) (vs:=[.agg #[.int .i64 n32,.slice A37 s33.length c38,.bool b34,.slice A39 l35.length c40,.slice A41 u36.length c42]]) (d:=43) kz Tryd.call10 (lGot _ _ _ _ _ (hr31.move ((((((hF63.trans hF67).trans hF79).trans hF110).trans hF118).trans hF122).trans hF128).step immM ((((((hF63.trans hF67).trans hF79).trans hF110).trans hF118).trans hF122).trans hF128).to') (Nat.le_refl _)) ?_)
 rintro e_ w136 ⟨cs135,rfl,hr134,hs133⟩
 have hr137:=hr134.move (Step.refl _ Nil) nilM (hW129.laid (G:=F) hs133)
 obtain ⟨n138,s139,b140,l141,u142,A143,c144,A145,c146,A147,c148,xs149,ht155,hcs150,h151,h152,h153,h154⟩:=hr137.open_
 rw [hcs150] at hr137
 have hsm156:=h151.small
 have hsm157:=h152.small
 rw [hcs150]
 refine ⟨_,rfl,fun a158 hE159=>?_⟩
 have hW160:=hW129.next_nil hs133
 have hF161:=hW129.frN hs133
 have hT162:=TT.ofW hF161 hW160
 refine ⟨fun _=>hT162,?_⟩
 refine qaG (i:=10) kz (qap hE159 (f:=10) (vs:=[.agg #[.int .i64 n87,.slice A92 s88.length c93,.bool b89,.slice A94 l90.length c95,.slice A96 u91.length c97]]) (d:=45) kz Tryd.call10 (lGot _ _ _ _ _ (hr86.move (((hF118.trans hF122).trans hF128).trans hF161).step immM (((hF118.trans hF122).trans hF128).trans hF161).to') (Nat.le_refl _)) ?_)
 rintro e_ w166 ⟨cs165,rfl,hr164,hs163⟩
 have hr167:=hr164.move (Step.refl _ Nil) nilM (hW160.laid (G:=F) hs163)
 obtain ⟨n168,s169,b170,l171,u172,A173,c174,A175,c176,A177,c178,xs179,ht185,hcs180,h181,h182,h183,h184⟩:=hr167.open_
 rw [hcs180] at hr167
 have hsm186:=h181.small
 have hsm187:=h182.small
 rw [hcs180]
 refine ⟨_,rfl,fun a188 hE189=>?_⟩
 have hW190:=hW160.next_nil hs163
 have hF191:=hW160.frN hs163
 have hT192:=TT.ofW (hF161.trans hF191) hW190
 refine ⟨fun _=>hT192,?_⟩
 refine qaG (i:=11) kz (qap hE189 (f:=9) (vs:=[.agg #[.int .i64 n138,.slice A143 s139.length c144,.bool b140,.slice A145 l141.length c146,.slice A147 u142.length c148],.agg #[.int .i64 n168,.slice A173 s169.length c174,.bool b170,.slice A175 l171.length c176,.slice A177 u172.length c178]]) (d:=46) kz Tryd.call9 (qhI _ _ _ _ _ _ (hr137.move hF191.step immM hF191.to') hr167 (Nat.le_refl _)) ?_)
 rintro e_ w194 ⟨rfl,hs193⟩
 refine ⟨_,rfl,fun a195 hE196=>?_⟩
 have hW197:=hW190.next_nil hs193
 have hF198:=hW190.frN hs193
 have hT199:=TT.ofW ((hF161.trans hF191).trans hF198) hW197
 refine ⟨fun _=>hT199,?_⟩
 refine qaK [12,13] [(48,.v (.bool true))] 1 (qac qag) (fun _ h=>h.cells) hT199 hE196 fun a200 hE201=>?_
 refine qaG (i:=14) kz (qcA [4] hW197.cells hE201 (env':=[(4,.v (.bool true))]) kz fun a202 hE203=>?_)
 refine ⟨fun h=>absurd rfl h,?_⟩
 refine qaS kz ?_ _
 refine qab ?_
 refine wp_ret ?_
 refine qaV hE203 hW197.cells (v:=.bool true) kz ?_
 exact ⟨rfl,hW197.step⟩
theorem qb5 (x:Int) (hx:0 ≤ x) (hx':x < 256) (s:Bs) (hl:¬ s.length ≤ 1000) {A2:Option Addr} {c2:Nat} (w:World) (F:Nat → Nat → Prop) (hs_:Octs w F A2 c2 s) :
  Calls Tryd.prog 3 #[.int .u8 x,.slice A2 s.length c2] w (qcn w (.bool true)):=by
 refine enter (n:=49) Tryd.func3 rfl Tryd.ntmps3 kz fun a hE=>?_
 have hW:=WOk.start w Nil
 have hsm2:=Slots.small hs_
 refine qas [(0,.v (.int .u8 x)),(1,.v (.slice A2 s.length c2))] hW hE fun a1 hE2=>?_
 refine wp_seq ?_
 refine qas [(0,.v (.int .u8 x)),(1,.v (.slice A2 s.length c2)),(12,.v (.bool (decide (((s.length:Nat):Int) > 2147483647))))] hW hE2 fun a3 hE4=>?_
 refine qaY hE4 (b:=decide (((s.length:Nat):Int) > 2147483647)) kz (fun hc5=>?_) (fun hc5=>?_)
 ·
  have hf6:=of_decide_eq_true hc5
  refine qas [(4,.v (.bool true))] hW hE4 fun a7 hE8=>?_
  refine wp_ret ?_
  refine qaX ?_
  refine qaV hE8 hW.cells (v:=.bool true) kz ?_
  exact ⟨rfl,hW.step⟩
 have hf9:=of_decide_eq_false hc5
 refine wp_skip ?_
 refine qab ?_
 refine qad [0,1] kz ?_
 refine qak (qap hE4 (f:=5) (vs:=[]) (d:=13) kz Tryd.call5 (qbp _) ?_)
 rintro e_ w11 ⟨rfl,hs10⟩
 refine ⟨_,rfl,fun a12 hE13=>?_⟩
 have hW14:=hW.next_nil hs10
 have hF15:=hW.frN hs10
 refine qal [1] [] [(0,.v (.int .u8 x)),(1,.v (.slice A2 s.length c2)),(5,.v (.int .i64 3))] hW14 hE13 fun a16 hE17=>?_
 refine qaf (qab ?_)
 refine wp_seq ?_
 refine qas [(0,.v (.int .u8 x)),(1,.v (.slice A2 s.length c2)),(5,.v (.int .i64 3)),(15,.v (.bool false))] hW14 hE17 fun a18 hE19=>?_
 refine qam hE19 (b:=false) kz rfl ?_
 refine wp_skip ?_
 refine qab ?_
 refine wp_seq ?_
 refine qas [(0,.v (.int .u8 x)),(1,.v (.slice A2 s.length c2)),(5,.v (.int .i64 3)),(18,.v (.bool (decide (((s.length:Nat):Int) > 1000))))] hW14 hE19 fun a20 hE21=>?_
 refine qaO hE21 (b:=decide (((s.length:Nat):Int) > 1000)) kz (decide_eq_true (by omega)) ?_
 refine qas [(4,.v (.bool true))] hW14 hE21 fun a22 hE23=>?_
 refine wp_ret ?_
 refine qaX ?_
 refine qaV hE23 hW14.cells (v:=.bool true) kz ?_
 exact ⟨rfl,hW14.step⟩
theorem qb8 (x:Int) (hx:0 ≤ x ∧ x ≤ 255) (s:Bs) {ue:TypeId} {ve:Value} {A2:Option Addr} {c2:Nat} (w:World) (F:Nat → Nat → Prop) (hs_:Octs w F A2 c2 s) (hgl:AtF w F 0 0 [.iface ue ve]):Calls Tryd.prog 3 #[.int .u8 x,.slice A2 s.length c2] w (qcn w (.bool true)):=by
 by_cases hl:s.length ≤ 1000
 ·cases hb:(qau (IntKind.i16.wrap (Int.tmod x (3 + 1))) (false,s)).1 with
  | true=>exact qb3 x hx.1 (by omega) s hl w F hs_ hgl hb
  | false=>exact qb4 x hx.1 (by omega) s hl w F hs_ hgl hb
 exact qb5 x hx.1 (by omega) s hl w F hs_
end Go.Proofs.YtmpejmiiphddhaaDoorR.ME