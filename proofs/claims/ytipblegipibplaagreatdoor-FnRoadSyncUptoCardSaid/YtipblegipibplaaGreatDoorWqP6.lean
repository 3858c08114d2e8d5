/- Packed. Own work. -/
import Derived.Test.YtipblegipibplaaGreatDoorWqP5
namespace Go.Proofs.YtipblegipibplaaGreatDoor.ME
open Go
open Go.RowKit
set_option linter.unusedVariables false
set_option linter.unusedSimpArgs false
set_option maxRecDepth 20000
theorem Pp:depths sSyncGroupRequestF ≤ 8:=by simp [sSyncGroupRequestF,Fld.depth.depths,Fld.depth]
theorem Pq:plains sSyncGroupRequestF:=by simp [sSyncGroupRequestF,Fld.plain.plains,Fld.plain]
theorem Ps:depths sSyncGroupResponseF ≤ 8:=by simp [sSyncGroupResponseF,Fld.depth.depths,Fld.depth]
theorem Pt:plains sSyncGroupResponseF:=by simp [sSyncGroupResponseF,Fld.plain.plains,Fld.plain]
abbrev z8 (x0) (x1):=([.slice x0 sSyncGroupResponseF.length x1,.int .i64 C5]:List Value)
abbrev z6 (x0):=([.slice (some ⟨x0,0,none⟩) ([B7 103].length) 1]:List Value)
abbrev z3 (x0):=(Tree.mk 0 [] false [(Tree.mk 0 [] false [] []),(Tree.mk 0 [] false [] []),(Tree.mk 0 [] true [] []),(Tree.mk 0 [] true [] []),(Tree.mk 0 x0 false [] [])] [])
abbrev Dt (x0) (x1):=([.slice x0 sSyncGroupRequestF.length x1,.int .i64 C4]:List Value)
set_option maxHeartbeats 4000000 in
theorem Pu (x y z:Int) (hx:0 ≤ x ∧ x ≤ 255) (hy:0 ≤ y ∧ y ≤ 255) (hz:0 ≤ z ∧ z ≤ 255) (D:DV) (w:World) (F:Nat → Nat → Prop) (hok:Ej w F D) (hrg:∀ i,i < D.l → Cq (D.f i)):Calls Tryz.prog 3 #[.int .u8 x,.int .u8 y,.int .u8 z,.slice D.A D.l D.c] w (N5 w (.bool true)):=by
 refine enter (n:=186) Tryz.func3 rfl Tryz.ntmps3 kz fun a hE=>?_
 have hW:=WOk.start w B5
 obtain ⟨g_,gl_,ge_⟩:=hok
 let le106:Nat × SV:=(0,.v (.int .u8 x))
 let le107:Nat × SV:=(1,.v (.int .u8 y))
 let le108:Nat × SV:=(2,.v (.int .u8 z))
 let le109:Nat × SV:=(3,.v (.slice D.A D.l D.c))
 refine C1 [le106,le107,le108,le109] hW hE fun a1 hE2=>?_
 refine wp_seq (B8 [0,1,2] kz ?_)
 refine B3 [0] [1,2] [le106,le107,le108,le109,(29,.v (.slice D.A D.l D.c))] hW hE2 fun a3 hE4=>?_
 refine B1 (C3 hE4 (f:=4) (vs:=[.slice D.A D.l D.c]) (d:=30) kz Tryz.call4 (Mr D _ (D4 F w w [] []) (Mq _ hW.step B0 hW.imm ⟨g_,gl_,ge_⟩)) ?_)
 rintro e_ w7 ⟨b5,rfl,hs6⟩
 refine ⟨_,rfl,fun a8 hE9=>?_⟩
 have hW10:=hW.next_nil hs6
 have hF11:=hW.frN hs6
 refine B3 [2] [] [le106,le107,le108,le109,(31,.v (.bool (!b5)))] hW10 hE9 fun a12 hE13=>?_
 refine B4 (A7 ?_)
 let le110:Nat × SV:=(8,.v (.bool true))
 refine D8 hE13 (b:=!b5) kz (fun hc14=>?_) (fun hc14=>?_)
 ·
  refine C1 [le110] hW10 hE13 fun a16 hE17=>?_
  refine wp_ret (F5 (D5 hE17 hW10.cells (v:=.bool true) kz ?_))
  exact ⟨rfl,hW10.step⟩
 refine wp_skip (A7 (B8 [0,1,2,3] kz ?_))
 refine B1 (C3 hE13 (f:=5) (vs:=[]) (d:=32) kz Tryz.call5 (NL _) ?_)
 rintro e_ w20 ⟨rfl,hs19⟩
 refine ⟨_,rfl,fun a21 hE22=>?_⟩
 have hW23:=hW10.next_nil hs19
 have hF24:=hW10.frN hs19
 refine B1 (C3 hE22 (f:=6) (vs:=[]) (d:=33) kz Tryz.call6 (NT _) ?_)
 rintro e_ w26 ⟨rfl,hs25⟩
 refine ⟨_,rfl,fun a27 hE28=>?_⟩
 have hW29:=hW23.next_nil hs25
 have hF30:=hW23.frN hs25
 let le111:Nat × SV:=(10,.v (.int .i64 5))
 refine B3 [2,3] [] [le106,le107,le108,le109,(9,.v (.int .i64 5)),le111] hW29 hE28 fun a31 hE32=>?_
 refine B4 (A7 ?_)
 refine wp_seq (C1 [le106,le107,le108,le109,(9,.v (.int .i64 5)),le111,(44,.v (.bool (decide (((D.l:Nat):Int) > 5))))] hW29 hE32 fun a33 hE34=>?_)
 refine D8 hE34 (b:=decide (((D.l:Nat):Int) > 5)) kz (fun hc35=>?_) (fun hc35=>?_)
 ·
  have hf36:=of_decide_eq_true hc35
  refine C1 [le110] hW29 hE34 fun a37 hE38=>?_
  refine wp_ret (F5 (D5 hE38 hW29.cells (v:=.bool true) kz ?_))
  exact ⟨rfl,hW29.step⟩
 have hf39:=of_decide_eq_false hc35
 refine wp_skip (A7 (B8 [0,1,2,3,4,5] kz ?_))
 refine B1 (C3 hE34 (f:=7) (vs:=[]) (d:=51) kz Tryz.call7 (Mx _ (D4 F w w26 [] [])) ?_)
 rintro e_ w44 ⟨A42,c43,rfl,hr41,hs40⟩
 obtain ⟨xs45,h46,h47⟩:=hr41.move (Step.refl _ B5) B0 (hW29.laid (G:=F) hs40)
 refine ⟨_,rfl,fun a48 hE49=>?_⟩
 have hW50:=hW29.next_nil hs40
 have hF51:=hW29.frN hs40
 refine B1 (C3 hE49 (f:=8) (vs:=[]) (d:=52) kz Tryz.call8 (My _ (D4 F w w44 [] [])) ?_)
 rintro e_ w56 ⟨A54,c55,rfl,hr53,hs52⟩
 obtain ⟨xs57,h58,h59⟩:=hr53.move (Step.refl _ B5) B0 (hW50.laid (G:=F) hs52)
 refine ⟨_,rfl,fun a60 hE61=>?_⟩
 have hW62:=hW50.next_nil hs52
 have hF63:=hW50.frN hs52
 let lc139:Value:=.slice none 0 0
 let lc140:Value:=.int .i64 0
 refine B1 (D7 hW62 hE61 (d:=11) (cs:=[lc139,lc140]) kz fun b64 a65 w66 hb67 hz68 hF69 hW70 hE71=>?_)
 refine B1 (D7 hW70 hE71 (d:=12) (cs:=[lc139,lc140]) kz fun b72 a73 w74 hb75 hz76 hF77 hW78 hE79=>?_)
 refine B1 (C7 hW78 hE79 (oi:=0) (cs:=(Dt A42 c43)) kz fun w80 hF81 hW82 hE83=>?_)
 refine B1 (C7 hW82 hE83 (oi:=1) (cs:=(z8 A54 c55)) kz fun w84 hF85 hW86 hE87=>?_)
 refine B4 (A7 ?_)
 refine B8 [0,1,2,3,4,5,6,7,8,9,10,11] kz ?_
 let le112:Nat × SV:=(11,.p 0 0)
 let le113:Nat × SV:=(12,.p 1 0)
 refine B3 [0,1] [2,3,4,5,6,7,8,9,10,11] [le107,le108,le109,le111,le112,le113,(53,.v (.int .u8 x)),(54,.v (.int .i64 5))] hW86 hE87 fun a88 hE89=>?_
 refine B1 (C3 hE89 (f:=9) (vs:=[.int .u8 x,.int .i64 5]) (d:=55) kz Tryz.call9 (Jg x 5 hx.1 (by omega) (by decide) (by decide) _) ?_)
 rintro e_ w91 ⟨rfl,hs90⟩
 refine ⟨_,rfl,fun a92 hE93=>?_⟩
 have hW94:=hW86.next_nil hs90
 have hF95:=hW86.frN hs90
 refine B3 [3,4] [5,6,7,8,9,10,11] [le108,le109,le112,le113,(55,.v (.int .i64 (Int.tmod x (5 + 1)))),(56,.v (.int .u8 y)),(57,.v (.int .i64 5))] hW94 hE93 fun a96 hE97=>?_
 refine B1 (C3 hE97 (f:=9) (vs:=[.int .u8 y,.int .i64 5]) (d:=58) kz Tryz.call9 (Jg y 5 hy.1 (by omega) (by decide) (by decide) _) ?_)
 rintro e_ w99 ⟨rfl,hs98⟩
 refine ⟨_,rfl,fun a100 hE101=>?_⟩
 have hW102:=hW94.next_nil hs98
 have hF103:=hW94.frN hs98
 let le114:Nat × SV:=(13,.v (.int .i64 (Int.tmod x (5 + 1))))
 let le115:Nat × SV:=(14,.v (.int .i64 (Int.tmod y (5 + 1))))
 refine B3 [6,7,8,9,10,11] [] [le109,le112,le113,le114,le115,(15,.v (.int .i64 (IntKind.i64.wrap (Int.tmod z 3))))] hW102 hE101 fun a104 hE105=>?_
 refine B4 (A7 ?_)
 refine B8 [0,1,2] kz ?_
 let lc141:Value:=.bool false
 let lc142:Value:=(.agg #[.int .i64 0,.slice none 0 0,.bool false,.slice none 0 0,.slice none 0 0])
 refine B3 [0] [1,2] [le109,le112,le113,le114,le115,(15,.v (.int .i64 (IntKind.i64.wrap (Int.tmod z 3)))),(62,.v (.agg #[lc140,lc139,lc141,lc139,lc139]))] hW102 hE105 fun a106 hE107=>?_
 refine B1 (D7 hW102 hE107 (d:=16) (cs:=[lc140,lc139,lc141,lc139,lc139]) kz fun b108 a109 w110 hb111 hz112 hF113 hW114 hE115=>?_)
 refine B1 (C7 hW114 hE115 (oi:=2) (cs:=[lc140,lc139,lc141,lc139,lc139]) kz fun w116 hF117 hW118 hE119=>?_)
 refine B4 (A7 ?_)
 refine wp_seq ?_
 let le116:Nat × SV:=(16,.p 2 0)
 let le117:Nat × SV:=(63,.v (.slice D.A D.l D.c))
 let le118:Nat × SV:=(64,.v (.int .i64 ((D.l:Nat):Int)))
 let le119:Nat × SV:=(65,.v (.int .i64 0))
 refine C1 [le109,le112,le113,le114,le115,(15,.v (.int .i64 (IntKind.i64.wrap (Int.tmod z 3)))),le116,le117,le118,le119] hW118 hE119 fun a120 hE121=>?_
 refine wp_block ?_
 obtain ⟨v_,hn122⟩:∃ n_,n_ = (Int.tmod x (5 + 1)):=⟨_,rfl⟩
 have he123:Int.tmod x (5 + 1) = v_:=hn122.symm
 have hE124:=EnvOk.pick hE121 (ks:=[3,11,12,13,14,15,16,63,64,65]) (env':=[le109,le112,le113,le114,le115,(15,.v (.int .i64 (IntKind.i64.wrap (Int.tmod z 3)))),le116,le117,le118,le119]) kz
 let le120:Nat × SV:=(13,.v (.int .i64 v_))
 have hE125:=hE124.cast (env':=[le109,le112,le113,le120,le115,(15,.v (.int .i64 (IntKind.i64.wrap (Int.tmod z 3)))),le116,le117,le118,le119]) (by simp only [le114,le120,he123]; try rfl)
 have hv16_:IntKind.i16.wrap v_ = v_:=by obtain ⟨g0_,g1_⟩:=IH (m:=5 + 1) hx.1 hx.2 (by decide) (by decide); rw [hn122]; exact DZ g0_ g1_
 obtain ⟨u_,hn126⟩:∃ n_,n_ = (Int.tmod y (5 + 1)):=⟨_,rfl⟩
 have he127:Int.tmod y (5 + 1) = u_:=hn126.symm
 have hE128:=EnvOk.pick hE125 (ks:=[3,11,12,13,14,15,16,63,64,65]) (env':=[le109,le112,le113,le120,le115,(15,.v (.int .i64 (IntKind.i64.wrap (Int.tmod z 3)))),le116,le117,le118,le119]) kz
 let le121:Nat × SV:=(14,.v (.int .i64 u_))
 have hE129:=hE128.cast (env':=[le109,le112,le113,le120,le121,(15,.v (.int .i64 (IntKind.i64.wrap (Int.tmod z 3)))),le116,le117,le118,le119]) (by simp only [le115,le121,he127]; try rfl)
 have hw16_:IntKind.i16.wrap u_ = u_:=by obtain ⟨g0_,g1_⟩:=IH (m:=5 + 1) hy.1 hy.2 (by decide) (by decide); rw [hn126]; exact DZ g0_ g1_
 obtain ⟨k_,hn130⟩:∃ n_,n_ = IntKind.i64.wrap (Int.tmod z 3):=⟨_,rfl⟩
 have he131:IntKind.i64.wrap (Int.tmod z 3) = k_:=hn130.symm
 have hE132:=EnvOk.pick hE129 (ks:=[3,11,12,13,14,15,16,63,64,65]) (env':=[le109,le112,le113,le120,le121,(15,.v (.int .i64 (IntKind.i64.wrap (Int.tmod z 3)))),le116,le117,le118,le119]) kz
 let le122:Nat × SV:=(15,.v (.int .i64 k_))
 have hE133:=hE132.cast (env':=[le109,le112,le113,le120,le121,le122,le116,le117,le118,le119]) (by simp only [le122,he131]; try rfl)
 have hk_:0 ≤ k_ ∧ k_ < 3:=by have h_:=Pe hz.1; rw [hn130,wrap_i64 (by omega) (by omega)]; exact h_
 have hn5:D.l ≤ 5:=by omega
 have hW134:=hW118.addNil 34 5
 have hF135:=hW118.frNil 34 5
 refine wp_loop_ghost (fun n_ a_ w_=>∃ (kO:Nat) (AO_:Option Addr) (cO_:Nat) (xsO_:List Value) (cssO_:List (List Value)),n_ = D.l - kO ∧ kO ≤ D.l ∧ (Trees w_ (D4 F w w_ [⟨b64,0,[.slice A42 sSyncGroupRequestF.length c43,.int .i64 C4],true⟩,⟨b72,0,[.slice A54 sSyncGroupResponseF.length c55,.int .i64 C5],true⟩,⟨b108,0,[lc140,lc139,lc141,.slice AO_ kO cO_,lc139],true⟩] [⟨AO_,cO_,34,5,kO,xsO_⟩]) xsO_ (((List.range D.l).map (fun i=>K4 k_ (D.f i))).take kO) cssO_) ∧ (∀ i_,i_ < kO → V5 (D.f i_)) ∧ F1 hW134 186 [⟨b64,0,[.slice A42 sSyncGroupRequestF.length c43,.int .i64 C4],true⟩,⟨b72,0,[.slice A54 sSyncGroupResponseF.length c55,.int .i64 C5],true⟩,⟨b108,0,[lc140,lc139,lc141,.slice AO_ kO cO_,lc139],true⟩] [⟨AO_,cO_,34,5,kO,xsO_⟩] [le109,le112,le113,le120,le121,le122,le116,le117,le118,(65,.v (.int .i64 ((kO:Nat):Int)))] a_ w_) (D.l) ⟨0,none,0,[],[],by omega,by omega,Trees.nil _ _,fun i_ h_=>absurd h_ (Nat.not_lt_zero _),hE133.pk,hW134,Fr.refl _ _ _⟩ ?_
 rintro n136 a137 w138 ⟨kO,AO_,cO_,xsO_,cssO_,hn141,hk142,hTO_,hS_,hE139,hW140,hF143⟩
 let le123:Nat × SV:=(65,.v (.int .i64 ((kO:Nat):Int)))
 refine C1 [le109,le112,le113,le120,le121,le122,le116,le117,le118,le123,(66,.v (.bool (decide (((kO:Nat):Int) < ((D.l:Nat):Int)))))] hW140 hE139 fun a144 hE145=>?_
 refine wp_seq ?_
 let lc143:Value:=.slice AO_ kO cO_
 let lo101:Ob:=⟨b108,0,[lc140,lc139,lc141,lc143,lc139],true⟩
 refine D8 hE145 (b:=decide (((kO:Nat):Int) < ((D.l:Nat):Int))) kz (fun hc146=>?_) (fun hc146=>?_)
 ·
  have hf147:=of_decide_eq_true hc146
  have gM_:=ge_ kO (by omega)
  unfold R0 at gM_
  obtain ⟨⟨gO_,_⟩,_⟩:=gM_
  refine wp_skip (A7 (wp_seq (wp_block (B8 [0,1,2,3] kz ?_))))
  obtain ⟨b148,o149,hA150,hl151,hat152⟩:=Slots.get g_ (i:=kO) (by omega)
  refine B1 (F2 hE145 (t:=22) (A:=D.A) (m:=D.l) (q:=((kO:Nat):Int)) (d:=67) kz (e:=40) (size:=6) (bytes:=128) kz hA150 rfl (by omega) fun a153 hE154=>?_)
  let lc144:Value:=.slice (((D.f kO).f 0).A) (((D.f kO).f 0).o.length) (((D.f kO).f 0).c)
  let lc145:Value:=.slice ((((D.f kO).f 1).f 0).A) ((((D.f kO).f 1).f 0).l) ((((D.f kO).f 1).f 0).c)
  let lc146:Value:=.int .i32 ((((D.f kO).f 1).f 1).n)
  let lc147:Value:=.slice (((D.f kO).f 2).A) (((D.f kO).f 2).l) (((D.f kO).f 2).c)
  let lc148:Value:=.slice (((D.f kO).f 3).A) (((D.f kO).f 3).l) (((D.f kO).f 3).c)
  let lc149:Value:=.slice (((D.f kO).f 4).A) (((D.f kO).f 4).o.length) (((D.f kO).f 4).c)
  let lc150:Value:=.agg #[.slice (((D.f kO).f 0).A) (((D.f kO).f 0).o.length) (((D.f kO).f 0).c),.slice ((((D.f kO).f 1).f 0).A) ((((D.f kO).f 1).f 0).l) ((((D.f kO).f 1).f 0).c),.int .i32 ((((D.f kO).f 1).f 1).n),.slice (((D.f kO).f 2).A) (((D.f kO).f 2).l) (((D.f kO).f 2).c),.slice (((D.f kO).f 3).A) (((D.f kO).f 3).l) (((D.f kO).f 3).c),.slice (((D.f kO).f 4).A) (((D.f kO).f 4).o.length) (((D.f kO).f 4).c)]
  refine B1 (G7 hE154 (t:=40) (b:=b148) (o:=o149 + kO * 6) (d:=68) kz (cs:=[lc144,lc145,lc146,lc147,lc148,lc149]) (v:=.agg #[lc144,lc145,lc146,lc147,lc148,lc149]) kz (AtF.move hat152 hW140.step B0 E6).at_ fun a155 hE156=>?_)
  refine B1 (D7 hW140 hE156 (d:=18) (cs:=[lc139,lc139,.int .i32 0,lc139,lc139,lc139]) kz fun b157 a158 w159 hb160 hz161 hF162 hW163 hE164=>?_)
  refine B1 (C7 hW163 hE164 (oi:=3) (cs:=[lc144,lc145,lc146,lc147,lc148,lc149]) kz fun w165 hF166 hW167 hE168=>?_)
  refine B4 (A7 ?_)
  refine wp_seq (B8 [0,1,2] kz ?_)
  let lc151:Value:=(.agg #[.slice (((D.f kO).f 0).A) (((D.f kO).f 0).o.length) (((D.f kO).f 0).c),.slice ((((D.f kO).f 1).f 0).A) ((((D.f kO).f 1).f 0).l) ((((D.f kO).f 1).f 0).c),.int .i32 ((((D.f kO).f 1).f 1).n),.slice (((D.f kO).f 2).A) (((D.f kO).f 2).l) (((D.f kO).f 2).c),.slice (((D.f kO).f 3).A) (((D.f kO).f 3).l) (((D.f kO).f 3).c),.slice (((D.f kO).f 4).A) (((D.f kO).f 4).o.length) (((D.f kO).f 4).c)])
  refine B3 [0] [1,2] [le109,le112,le113,le120,le121,le122,le116,(18,.p 3 0),le117,le118,le123,(69,.v (.agg #[lc144,lc145,lc146,lc147,lc148,lc149]))] hW167 hE168 fun a169 hE170=>?_
  let lo102:Ob:=⟨b157,0,[lc144,lc145,lc146,lc147,lc148,lc149],true⟩
  refine B1 (C3 hE170 (f:=10) (vs:=[.agg #[lc144,lc145,lc146,lc147,lc148,lc149]]) (d:=70) kz Tryz.call10 (Ms (D.f kO) _ (D4 F w w165 [⟨b64,0,(Dt A42 c43),true⟩,⟨b72,0,(z8 A54 c55),true⟩,lo101,lo102] [⟨AO_,cO_,34,5,kO,xsO_⟩]) (Cj _ hW167.step B0 hW167.imm (ge_ kO (by omega)))) ?_)
  rintro e_ w174 ⟨b171,rfl,hm173,hs172⟩
  refine ⟨_,rfl,fun a175 hE176=>?_⟩
  have hW177:=hW167.next_nil hs172
  have hF178:=hW167.frN hs172
  refine B3 [2] [] [le109,le112,le113,le120,le121,le122,le116,(18,.p 3 0),le117,le118,le123,(71,.v (.bool (!b171)))] hW177 hE176 fun a179 hE180=>?_
  refine B4 (A7 ?_)
  refine D8 hE180 (b:=!b171) kz (fun hc181=>?_) (fun hc181=>?_)
  ·
   refine C1 [le110] hW177 hE180 fun a183 hE184=>?_
   refine wp_ret (F5 (N1 (F5 (F5 (N1 (F5 (D5 hE184 hW177.cells (v:=.bool true) kz ?_)))))))
   exact ⟨rfl,hW177.step⟩
  have hsm1_:=hm173 (not_true hc181)
  refine wp_skip (A7 (P5 14 kz hW177 fun w186 hF187 hW188 hT189=>?_))
  refine D6 [0,1,2,3,5,6] [le109,le112,le113,le120,le121,le122,le116,le117,le118,le123,(73,.v (.slice AO_ kO cO_)),(75,.v (.slice (((D.f kO).f 0).A) (((D.f kO).f 0).o.length) (((D.f kO).f 0).c))),(77,.v (.int .i64 k_)),(78,.v (.agg #[lc144,lc145,lc146,lc147,lc148,lc149]))] 9 (C0 (B2 (B2 (C0 (B2 C6))))) (fun _ h=>h.cells) hT189 hE180 fun a190 hE191=>?_
  refine C9 (i:=4) kz (C3 hE191 (f:=12) (vs:=[lc144]) (d:=76) kz Tryz.call12 (S3 (((D.f kO).f 0).A) (((D.f kO).f 0).o.length) (((D.f kO).f 0).c) _) ?_)
  rintro e_ w193 ⟨rfl,hs192⟩
  refine ⟨_,rfl,fun a194 hE195=>?_⟩
  have hW196:=hW188.next_nil hs192
  have hF197:=hW188.frN hs192
  have hT198:=TT.ofW hF197 hW196
  refine ⟨fun _=>hT198,?_⟩
  refine C9 (i:=7) kz (C3 hE195 (f:=13) (vs:=[.int .i64 k_,.agg #[lc144,lc145,lc146,lc147,lc148,lc149]]) (d:=79) kz Tryz.call13 (MF k_ hk_ (D.f kO) _ (D4 F w w193 [⟨b64,0,(Dt A42 c43),true⟩,⟨b72,0,(z8 A54 c55),true⟩,lo101,lo102] [⟨AO_,cO_,34,5,kO,xsO_⟩]) (Cj _ hW196.step B0 hW196.imm (ge_ kO (by omega))) hsm1_ (by have h_:=Dl hk_ hsm1_; omega)) ?_)
  rintro e_ w203 ⟨A201,c202,rfl,ho200,hs199⟩
  refine ⟨_,rfl,fun a204 hE205=>?_⟩
  obtain ⟨hW206,hF207⟩:=hW196.frFresh hs199 (B6 A201 c202 5 (H5 k_ (D.f kO))) (Nat.le_refl _) ho200
  have ho208:=hW206.giveUp (G:=F) 1 [⟨AO_,cO_,34,5,kO,xsO_⟩] (show _ = some (B6 A201 c202 5 (H5 k_ (D.f kO))) from rfl) (by have h_:=Dl hk_ hsm1_; omega)
  obtain ⟨hW209,hF210⟩:=hW206.cutR 1 [⟨AO_,cO_,34,5,kO,xsO_⟩]
  have hT211:=TT.ofW ((hF197.trans hF207).trans hF210) hW209
  refine ⟨fun _=>hT211,?_⟩
  refine C9 (i:=8) kz (C3 hE205 (f:=12) (vs:=[.slice A201 ((H5 k_ (D.f kO)).length) c202]) (d:=80) kz Tryz.call12 (S3 A201 ((H5 k_ (D.f kO)).length) c202 _) ?_)
  rintro e_ w213 ⟨rfl,hs212⟩
  refine ⟨_,rfl,fun a214 hE215=>?_⟩
  have hW216:=hW209.next_nil hs212
  have hF217:=hW209.frN hs212
  have hT218:=TT.ofW (((hF197.trans hF207).trans hF210).trans hF217) hW216
  refine ⟨fun _=>hT218,?_⟩
  refine C9 (i:=9) kz (G4 hW216 hE215 (e:=34) (size:=5) (len:=2) (cs:=[lc140,lc144,lc141,lc139,lc139,lc140,.slice A201 ((H5 k_ (D.f kO)).length) c202,lc141,lc139,lc139]) (d:=81) kz kz fun b219 a220 w221 hb222 hz223 hF224 hW225 hE226=>?_)
  have hf227:=hW225.giveF (G:=F) 1 [⟨AO_,cO_,34,5,kO,xsO_⟩] rfl
  have ho228:World.ownsRow w221 0 34 5 (.slice (some ⟨b219,0,none⟩) 2 2) 2 ([lc140,lc144,lc141,lc139,lc139,lc140,.slice A201 ((H5 k_ (D.f kO)).length) c202,lc141,lc139,lc139]):=hW225.own 1 _ rfl
  obtain ⟨hW229,hF230⟩:=hW225.cutR 1 [⟨AO_,cO_,34,5,kO,xsO_⟩]
  have hr231:TreeR w221 (D4 F w w221 [⟨b64,0,[.slice A42 sSyncGroupRequestF.length c43,.int .i64 C4],true⟩,⟨b72,0,[.slice A54 sSyncGroupResponseF.length c55,.int .i64 C5],true⟩,⟨b108,0,[.int .i64 0,.slice none 0 0,.bool false,.slice AO_ kO cO_,.slice none 0 0],true⟩,⟨b157,0,[.slice (((D.f kO).f 0).A) (((D.f kO).f 0).o.length) (((D.f kO).f 0).c),.slice ((((D.f kO).f 1).f 0).A) ((((D.f kO).f 1).f 0).l) ((((D.f kO).f 1).f 0).c),.int .i32 ((((D.f kO).f 1).f 1).n),.slice (((D.f kO).f 2).A) (((D.f kO).f 2).l) (((D.f kO).f 2).c),.slice (((D.f kO).f 3).A) (((D.f kO).f 3).l) (((D.f kO).f 3).c),.slice (((D.f kO).f 4).A) (((D.f kO).f 4).o.length) (((D.f kO).f 4).c)],true⟩] [⟨AO_,cO_,34,5,kO,xsO_⟩]) [.int .i64 0,.slice none 0 0,.bool false,.slice (some ⟨b219,0,none⟩) 2 2,.slice none 0 0] (Tree.mk 0 [] false [(Tree.mk 0 (((D.f kO).f 0).o) false [] []),(Tree.mk 0 (H5 k_ (D.f kO)) false [] [])] []):=Y1 (show Trees _ _ [.int .i64 0,.slice (((D.f kO).f 0).A) (((D.f kO).f 0).o.length) (((D.f kO).f 0).c),.bool false,.slice none 0 0,.slice none 0 0,.int .i64 0,.slice A201 ((H5 k_ (D.f kO)).length) c202,.bool false,.slice none 0 0,.slice none 0 0] [(Tree.mk 0 (((D.f kO).f 0).o) false [] []),(Tree.mk 0 (H5 k_ (D.f kO)) false [] [])] [[.int .i64 0,.slice (((D.f kO).f 0).A) (((D.f kO).f 0).o.length) (((D.f kO).f 0).c),.bool false,.slice none 0 0,.slice none 0 0],[.int .i64 0,.slice A201 ((H5 k_ (D.f kO)).length) c202,.bool false,.slice none 0 0,.slice none 0 0]] from (Trees.snoc (Trees.snoc (Trees.nil _ _) (TreeR.mk (n:=0) (b:=false) (s:=((D.f kO).f 0).o) (l:=[]) (u:=[]) (fun _=>[]) (gO_.move hW229.step B0 hW229.imm) (Slots.nil _ _ _ _) (fun i_ x_ h_=>by simp at h_) (TagsR.nil _ _))) (TreeR.mk (n:=0) (b:=false) (s:=H5 k_ (D.f kO)) (l:=[]) (u:=[]) (fun _=>[]) (ho208.move ((hF217.trans hF224).trans hF230).step immM ((hF217.trans hF224).trans hF230).to') (Slots.nil _ _ _ _) (fun i_ x_ h_=>by simp at h_) (TagsR.nil _ _)))) ho228 (rfl) (by simp) hf227
  have hT232:=TT.ofW (((((hF197.trans hF207).trans hF210).trans hF217).trans hF224).trans hF230) hW229
  refine ⟨fun _=>hT232,?_⟩
  let lc152:Value:=.slice (some ⟨b219,0,none⟩) 2 2
  refine C9 (i:=10) kz (C3 hE226 (f:=11) (vs:=[lc152]) (d:=82) kz Tryz.call11 (Ck (some ⟨b219,0,none⟩) 2 2 _) ?_)
  rintro e_ w234 ⟨rfl,hs233⟩
  refine ⟨_,rfl,fun a235 hE236=>?_⟩
  have hW237:=hW229.next_nil hs233
  have hF238:=hW229.frN hs233
  have hT239:=TT.ofW ((((((hF197.trans hF207).trans hF210).trans hF217).trans hF224).trans hF230).trans hF238) hW237
  refine ⟨fun _=>hT239,?_⟩
  refine C9 (i:=11) kz (G4 hW237 hE236 (e:=34) (size:=5) (len:=1) (cs:=[lc140,lc139,lc141,lc152,lc139]) (d:=83) kz kz fun b240 a241 w242 hb243 hz244 hF245 hW246 hE247=>?_)
  have hT248:=TT.ofW (((((((hF197.trans hF207).trans hF210).trans hF217).trans hF224).trans hF230).trans hF238).trans hF245) hW246
  refine ⟨fun _=>hT248,?_⟩
  refine C9 (i:=12) kz (I7 hW246 hE247 (k:=0) (d:=84) (t:=31) (e:=34) (size:=5) (bytes:=88) (A:=AO_) (As:=(some ⟨b240,0,none⟩)) (m0:=kO) (c:=cO_) (m:=1) (cs:=1) (xs:=xsO_) (news:=[lc140,lc139,lc141,lc152,lc139]) kz kz rfl (M5 (hW246.own 1 _ rfl) (K6 kz)) (N7 (hW246.own 1 _ rfl)) (by omega) fun A249 c250 a251 w252 hF253 hW254 hE255=>?_)
  have hT256:=TT.ofW ((((((((hF197.trans hF207).trans hF210).trans hF217).trans hF224).trans hF230).trans hF238).trans hF245).trans hF253) hW254
  refine ⟨fun _=>hT256,?_⟩
  refine D6 [13] [le109,le112,le113,le120,le121,le122,le116,le117,le118,le123,(84,.v (.slice A249 (kO + 1) c250)),(85,.p 2 3)] 1 (C0 (B2 (B2 (C0 (B2 C6))))) (fun _ h=>h.cells) hT256 hE255 fun a257 hE258=>?_
  refine C9 (i:=14) kz (C7 hW254 hE258 (oi:=2) (cs:=[lc140,lc139,lc141,.slice A249 (kO + 1) c250,lc139]) kz fun w259 hF260 hW261 hE262=>?_)
  refine ⟨fun h=>absurd rfl h,?_⟩
  refine F3 kz ?_ _
  refine G2 (A7 (D9 [0,1] kz ?_))
  refine B3 [0,1] [] [le109,le112,le113,le120,le121,le122,le116,le117,le118,(65,.v (.int .i64 (IntKind.i64.wrap (((kO:Nat):Int) + 1))))] hW261 hE262 fun a263 hE264=>?_
  refine B4 (A7 ?_)
  obtain ⟨hE265,hW266,hF267⟩:=hW261.cutB hE264 3 [⟨b64,0,(Dt A42 c43),true⟩,⟨b72,0,(z8 A54 c55),true⟩,⟨b108,0,[lc140,lc139,lc141,.slice A249 (kO + 1) c250,lc139],true⟩] [le109,le112,le113,le120,le121,le122,le116,le117,le118,(65,.v (.int .i64 (IntKind.i64.wrap (((kO:Nat):Int) + 1))))]
  obtain ⟨hW268,hF269⟩:=hW266.cutR 1 [⟨A249,c250,34,5,kO + 1,xsO_ ++ [lc140,lc139,lc141,lc152,lc139]⟩]
  have he270:IntKind.i64.wrap (((kO:Nat):Int) + 1) = ((kO + 1:Nat):Int):=H1 (by omega)
  rw [he270] at hE265
  exact ⟨D.l - (kO + 1),by omega,kO + 1,A249,c250,xsO_ ++ [Value.int .i64 0,.slice none 0 0,.bool false,.slice (some ⟨b219,0,none⟩) 2 2,.slice none 0 0],(cssO_ ++ [[Value.int .i64 0,.slice none 0 0,.bool false,.slice (some ⟨b219,0,none⟩) 2 2,.slice none 0 0]]),rfl,by omega,by rw [take_range (by omega)]; exact (hTO_.move (((((((((((((((hF162.trans hF166).trans hF178).trans hF187).trans hF197).trans hF207).trans hF210).trans hF217).trans hF224).trans hF230).trans hF238).trans hF245).trans hF253).trans hF260).trans hF267).trans hF269).step immM (((((((((((((((hF162.trans hF166).trans hF178).trans hF187).trans hF197).trans hF207).trans hF210).trans hF217).trans hF224).trans hF230).trans hF238).trans hF245).trans hF253).trans hF260).trans hF267).trans hF269).to').snoc (x:=(fun i=>K4 k_ (D.f i)) kO) (hr231.move (((((hF238.trans hF245).trans hF253).trans hF260).trans hF267).trans hF269).step immM (((((hF238.trans hF245).trans hF253).trans hF260).trans hF267).trans hF269).to'),fun i_ hi_=>by
   rcases Nat.lt_succ_iff_lt_or_eq.1 hi_ with h_ | rfl
   ·exact hS_ i_ h_
   exact hsm1_,hE265.pk,hW268,((((((((((((((((hF143.trans hF162).trans hF166).trans hF178).trans hF187).trans hF197).trans hF207).trans hF210).trans hF217).trans hF224).trans hF230).trans hF238).trans hF245).trans hF253).trans hF260).trans hF267).trans hF269)⟩
 have hf271:=of_decide_eq_false hc146
 refine wp_exit (E2 (E2 (G3 (A7 ?_))))
 have hf273:=hW140.giveF (G:=F) 0 [] rfl
 have ho274:World.ownsRow w138 0 34 5 (.slice AO_ kO cO_) kO (xsO_):=hW140.own 0 _ rfl
 obtain ⟨hW275,hF276⟩:=hW140.cutR 0 []
 have hT272:=(hTO_.move hF276.step immM hF276.to')
 rw [Ci (by omega)] at hT272
 have hr277:TreeR w138 (D4 F w w138 [⟨b64,0,[.slice A42 sSyncGroupRequestF.length c43,.int .i64 C4],true⟩,⟨b72,0,[.slice A54 sSyncGroupResponseF.length c55,.int .i64 C5],true⟩,⟨b108,0,[.int .i64 0,.slice none 0 0,.bool false,.slice AO_ kO cO_,.slice none 0 0],true⟩] []) [.int .i64 0,.slice none 0 0,.bool false,.slice AO_ kO cO_,.slice none 0 0] (Tree.mk 0 [] false ((List.range D.l).map (fun i=>K4 k_ (D.f i))) []):=Y1 hT272 ho274 (by rw [J4]; omega) (by rw [J4]; omega) hf273
 have hsm_:∀ i_,i_ < D.l → V5 (D.f i_):=fun i_ h_=>hS_ i_ (by omega)
 let le124:Nat × SV:=(19,.p 3 0)
 let lc153:Value:=.bool true
 let lc154:Value:=(.agg #[.int .i64 0,.slice none 0 0,.bool true,.slice none 0 0,.slice none 0 0])
 refine wp_seq (wp_mono (Q:=JM fun a_ w_=>∃ (bq_:Nat) (Aq_:Option Addr) (cq_:Nat),TreeR w_ (D4 F w w_ [⟨b64,0,[.slice A42 sSyncGroupRequestF.length c43,.int .i64 C4],true⟩,⟨b72,0,[.slice A54 sSyncGroupResponseF.length c55,.int .i64 C5],true⟩,lo101,⟨bq_,0,[lc140,lc139,lc141,.slice Aq_ 7 cq_,lc139],true⟩] []) [lc140,lc139,lc141,.slice Aq_ 7 cq_,lc139] (E9 [B7 103] [B7 121] k_ D) ∧ F1 hW275 186 [⟨b64,0,[.slice A42 sSyncGroupRequestF.length c43,.int .i64 C4],true⟩,⟨b72,0,[.slice A54 sSyncGroupResponseF.length c55,.int .i64 C5],true⟩,lo101,⟨bq_,0,[lc140,lc139,lc141,.slice Aq_ 7 cq_,lc139],true⟩] [] [le109,le112,le113,le120,le121,le124] a_ w_) ?_ ?_)
 ·
  refine P5 14 kz hW275 fun w278 hF279 hW280 hT281=>?_
  let le125:Nat × SV:=(94,.v (.agg #[lc140,lc139,lc153,lc139,lc139]))
  let le126:Nat × SV:=(95,.v (.agg #[lc140,lc139,lc153,lc139,lc139]))
  let le127:Nat × SV:=(96,.v (.agg #[lc140,lc139,lc153,lc139,lc139]))
  let le128:Nat × SV:=(97,.v (.agg #[lc140,lc139,lc141,lc143,lc139]))
  refine D6 [7,8,9,10] [le109,le112,le113,le120,le121,le125,le126,le127,le128] 11 Po (fun _ h=>h.cells) hT281 hE145 fun a282 hE283=>?_
  refine Pi fun G_ gi_ go_=>?_
  have s0_:∀ (bA bB bC bL:Nat) (a_:Act) (w_:World),EnvOk 186 [⟨b64,0,[.slice A42 sSyncGroupRequestF.length c43,.int .i64 C4],true⟩,⟨b72,0,[.slice A54 sSyncGroupResponseF.length c55,.int .i64 C5],true⟩,⟨b108,0,[.int .i64 0,.slice none 0 0,.bool false,.slice AO_ kO cO_,.slice none 0 0],true⟩,⟨bC,0,[.int .i64 0,.slice none 0 0,.bool false,.slice none 0 0,.slice none 0 0],true⟩] [(3,.v (.slice D.A D.l D.c)),(11,.p 0 0),(12,.p 1 0),(13,.v (.int .i64 v_)),(14,.v (.int .i64 u_)),(19,.p 3 0),(99,.v (.agg #[.int .i64 0,.slice none 0 0,.bool false,.slice (some ⟨bL,0,none⟩) 7 7,.slice none 0 0]))] a_ → WOk w B5 w_ [⟨b64,0,[.slice A42 sSyncGroupRequestF.length c43,.int .i64 C4],true⟩,⟨b72,0,[.slice A54 sSyncGroupResponseF.length c55,.int .i64 C5],true⟩,⟨b108,0,[.int .i64 0,.slice none 0 0,.bool false,.slice AO_ kO cO_,.slice none 0 0],true⟩,⟨bC,0,[.int .i64 0,.slice none 0 0,.bool false,.slice none 0 0,.slice none 0 0],true⟩] [] → Fr w278 [⟨b64,0,[.slice A42 sSyncGroupRequestF.length c43,.int .i64 C4],true⟩,⟨b72,0,[.slice A54 sSyncGroupResponseF.length c55,.int .i64 C5],true⟩,⟨b108,0,[.int .i64 0,.slice none 0 0,.bool false,.slice AO_ kO cO_,.slice none 0 0],true⟩] [] w_ [⟨b64,0,[.slice A42 sSyncGroupRequestF.length c43,.int .i64 C4],true⟩,⟨b72,0,[.slice A54 sSyncGroupResponseF.length c55,.int .i64 C5],true⟩,⟨b108,0,[.int .i64 0,.slice none 0 0,.bool false,.slice AO_ kO cO_,.slice none 0 0],true⟩,⟨bC,0,[.int .i64 0,.slice none 0 0,.bool false,.slice none 0 0,.slice none 0 0],true⟩] [] → TreeR w_ (D4 F w w_ [⟨b64,0,[.slice A42 sSyncGroupRequestF.length c43,.int .i64 C4],true⟩,⟨b72,0,[.slice A54 sSyncGroupResponseF.length c55,.int .i64 C5],true⟩,⟨b108,0,[.int .i64 0,.slice none 0 0,.bool false,.slice AO_ kO cO_,.slice none 0 0],true⟩,⟨bC,0,[.int .i64 0,.slice none 0 0,.bool false,.slice none 0 0,.slice none 0 0],true⟩] []) [.int .i64 0,.slice none 0 0,.bool false,.slice (some ⟨bL,0,none⟩) 7 7,.slice none 0 0] (E9 [B7 103] [B7 121] k_ D) → G_ 1 #[true,true,true,true,true,true,true,true,true,true,true,true,true,true,false] a_ w_:=by
   intro bA bB bC bL a_ w_ hE_ hW_ hF_ hrL_
   refine go_ _ _ _ _ ?_
   have hT_:=TT.ofW hF_ hW_
   let lc155:Value:=.slice (some ⟨bL,0,none⟩) 7 7
   refine C9 (i:=14) kz (C7 hW_ hE_ (oi:=3) (cs:=[lc140,lc139,lc141,lc155,lc139]) kz fun w284 hF285 hW286 hE287=>?_)
   refine ⟨fun h=>absurd rfl h,?_⟩
   refine F3 kz ?_ _
   exact ⟨rfl,bC,some ⟨bL,0,none⟩,7,(show TreeR w284 (D4 F w w284 [⟨b64,0,[.slice A42 sSyncGroupRequestF.length c43,.int .i64 C4],true⟩,⟨b72,0,[.slice A54 sSyncGroupResponseF.length c55,.int .i64 C5],true⟩,lo101,⟨bC,0,[lc140,lc139,lc141,lc155,lc139],true⟩] []) [lc140,lc139,lc141,lc155,lc139] (E9 [B7 103] [B7 121] k_ D) from (hrL_.move hF285.step immM hF285.to')),hE287.pk,hW286,((hF279.trans hF_).trans hF285)⟩
  have s1_:∀ (bA bB bL:Nat) (a_:Act) (w_:World),EnvOk 186 [⟨b64,0,[.slice A42 sSyncGroupRequestF.length c43,.int .i64 C4],true⟩,⟨b72,0,[.slice A54 sSyncGroupResponseF.length c55,.int .i64 C5],true⟩,⟨b108,0,[.int .i64 0,.slice none 0 0,.bool false,.slice AO_ kO cO_,.slice none 0 0],true⟩] [(3,.v (.slice D.A D.l D.c)),(11,.p 0 0),(12,.p 1 0),(13,.v (.int .i64 v_)),(14,.v (.int .i64 u_)),(99,.v (.agg #[.int .i64 0,.slice none 0 0,.bool false,.slice (some ⟨bL,0,none⟩) 7 7,.slice none 0 0]))] a_ → WOk w B5 w_ [⟨b64,0,[.slice A42 sSyncGroupRequestF.length c43,.int .i64 C4],true⟩,⟨b72,0,[.slice A54 sSyncGroupResponseF.length c55,.int .i64 C5],true⟩,⟨b108,0,[.int .i64 0,.slice none 0 0,.bool false,.slice AO_ kO cO_,.slice none 0 0],true⟩] [] → Fr w278 [⟨b64,0,[.slice A42 sSyncGroupRequestF.length c43,.int .i64 C4],true⟩,⟨b72,0,[.slice A54 sSyncGroupResponseF.length c55,.int .i64 C5],true⟩,⟨b108,0,[.int .i64 0,.slice none 0 0,.bool false,.slice AO_ kO cO_,.slice none 0 0],true⟩] [] w_ [⟨b64,0,[.slice A42 sSyncGroupRequestF.length c43,.int .i64 C4],true⟩,⟨b72,0,[.slice A54 sSyncGroupResponseF.length c55,.int .i64 C5],true⟩,⟨b108,0,[.int .i64 0,.slice none 0 0,.bool false,.slice AO_ kO cO_,.slice none 0 0],true⟩] [] → TreeR w_ (D4 F w w_ [⟨b64,0,[.slice A42 sSyncGroupRequestF.length c43,.int .i64 C4],true⟩,⟨b72,0,[.slice A54 sSyncGroupResponseF.length c55,.int .i64 C5],true⟩,⟨b108,0,[.int .i64 0,.slice none 0 0,.bool false,.slice AO_ kO cO_,.slice none 0 0],true⟩] []) [.int .i64 0,.slice none 0 0,.bool false,.slice (some ⟨bL,0,none⟩) 7 7,.slice none 0 0] (E9 [B7 103] [B7 121] k_ D) → G_ 2 #[true,true,true,true,true,true,true,true,true,true,true,true,true,false,false] a_ w_:=by
   intro bA bB bL a_ w_ hE_ hW_ hF_ hrL_
   refine go_ _ _ _ _ ?_
   have hT_:=TT.ofW hF_ hW_
   refine C9 (i:=13) kz (D7 hW_ hE_ (d:=19) (cs:=[lc140,lc139,lc141,lc139,lc139]) kz fun b288 a289 w290 hb291 hz292 hF293 hW294 hE295=>?_)
   have hT296:=TT.ofW (hF_.trans hF293) hW294
   refine ⟨fun _=>hT296,?_⟩
   exact gi_ _ _ _ _ _ kz (s0_ bA bB b288 bL _ _ hE295.pk hW294 (hF_.trans hF293) (hrL_.move hF293.step immM hF293.to'))
  have s2_:∀ (bA bB bC bL:Nat) (a_:Act) (w_:World),EnvOk 186 [⟨b64,0,[.slice A42 sSyncGroupRequestF.length c43,.int .i64 C4],true⟩,⟨b72,0,[.slice A54 sSyncGroupResponseF.length c55,.int .i64 C5],true⟩,⟨b108,0,[.int .i64 0,.slice none 0 0,.bool false,.slice AO_ kO cO_,.slice none 0 0],true⟩,⟨bC,0,[.int .i64 0,.slice none 0 0,.bool false,.slice none 0 0,.slice none 0 0],true⟩] [(3,.v (.slice D.A D.l D.c)),(11,.p 0 0),(12,.p 1 0),(13,.v (.int .i64 v_)),(14,.v (.int .i64 u_)),(19,.p 3 0),(98,.v (.slice (some ⟨bL,0,none⟩) 7 7))] a_ → WOk w B5 w_ [⟨b64,0,[.slice A42 sSyncGroupRequestF.length c43,.int .i64 C4],true⟩,⟨b72,0,[.slice A54 sSyncGroupResponseF.length c55,.int .i64 C5],true⟩,⟨b108,0,[.int .i64 0,.slice none 0 0,.bool false,.slice AO_ kO cO_,.slice none 0 0],true⟩,⟨bC,0,[.int .i64 0,.slice none 0 0,.bool false,.slice none 0 0,.slice none 0 0],true⟩] [] → Fr w278 [⟨b64,0,[.slice A42 sSyncGroupRequestF.length c43,.int .i64 C4],true⟩,⟨b72,0,[.slice A54 sSyncGroupResponseF.length c55,.int .i64 C5],true⟩,⟨b108,0,[.int .i64 0,.slice none 0 0,.bool false,.slice AO_ kO cO_,.slice none 0 0],true⟩] [] w_ [⟨b64,0,[.slice A42 sSyncGroupRequestF.length c43,.int .i64 C4],true⟩,⟨b72,0,[.slice A54 sSyncGroupResponseF.length c55,.int .i64 C5],true⟩,⟨b108,0,[.int .i64 0,.slice none 0 0,.bool false,.slice AO_ kO cO_,.slice none 0 0],true⟩,⟨bC,0,[.int .i64 0,.slice none 0 0,.bool false,.slice none 0 0,.slice none 0 0],true⟩] [] → TreeR w_ (D4 F w w_ [⟨b64,0,[.slice A42 sSyncGroupRequestF.length c43,.int .i64 C4],true⟩,⟨b72,0,[.slice A54 sSyncGroupResponseF.length c55,.int .i64 C5],true⟩,⟨b108,0,[.int .i64 0,.slice none 0 0,.bool false,.slice AO_ kO cO_,.slice none 0 0],true⟩,⟨bC,0,[.int .i64 0,.slice none 0 0,.bool false,.slice none 0 0,.slice none 0 0],true⟩] []) [.int .i64 0,.slice none 0 0,.bool false,.slice (some ⟨bL,0,none⟩) 7 7,.slice none 0 0] (E9 [B7 103] [B7 121] k_ D) → G_ 2 #[true,true,true,true,true,true,true,true,true,true,true,true,false,true,false] a_ w_:=by
   intro bA bB bC bL a_ w_ hE_ hW_ hF_ hrL_
   refine go_ _ _ _ _ ?_
   have hT_:=TT.ofW hF_ hW_
   refine C9 (i:=12) kz (C3 hE_ (f:=11) (vs:=[.slice (some ⟨bL,0,none⟩) 7 7]) (d:=99) kz Tryz.call11 (Ck (some ⟨bL,0,none⟩) 7 7 _) ?_)
   rintro e_ w298 ⟨rfl,hs297⟩
   refine ⟨_,rfl,fun a299 hE300=>?_⟩
   have hW301:=hW_.next_nil hs297
   have hF302:=hW_.frN hs297
   have hT303:=TT.ofW (hF_.trans hF302) hW301
   refine ⟨fun _=>hT303,?_⟩
   exact gi_ _ _ _ _ _ kz (s0_ bA bB bC bL _ _ hE300.pk hW301 (hF_.trans hF302) (hrL_.move hF302.step immM hF302.to'))
  have s3_:∀ (bA bB bL:Nat) (a_:Act) (w_:World),EnvOk 186 [⟨b64,0,[.slice A42 sSyncGroupRequestF.length c43,.int .i64 C4],true⟩,⟨b72,0,[.slice A54 sSyncGroupResponseF.length c55,.int .i64 C5],true⟩,⟨b108,0,[.int .i64 0,.slice none 0 0,.bool false,.slice AO_ kO cO_,.slice none 0 0],true⟩] [(3,.v (.slice D.A D.l D.c)),(11,.p 0 0),(12,.p 1 0),(13,.v (.int .i64 v_)),(14,.v (.int .i64 u_)),(98,.v (.slice (some ⟨bL,0,none⟩) 7 7))] a_ → WOk w B5 w_ [⟨b64,0,[.slice A42 sSyncGroupRequestF.length c43,.int .i64 C4],true⟩,⟨b72,0,[.slice A54 sSyncGroupResponseF.length c55,.int .i64 C5],true⟩,⟨b108,0,[.int .i64 0,.slice none 0 0,.bool false,.slice AO_ kO cO_,.slice none 0 0],true⟩] [] → Fr w278 [⟨b64,0,[.slice A42 sSyncGroupRequestF.length c43,.int .i64 C4],true⟩,⟨b72,0,[.slice A54 sSyncGroupResponseF.length c55,.int .i64 C5],true⟩,⟨b108,0,[.int .i64 0,.slice none 0 0,.bool false,.slice AO_ kO cO_,.slice none 0 0],true⟩] [] w_ [⟨b64,0,[.slice A42 sSyncGroupRequestF.length c43,.int .i64 C4],true⟩,⟨b72,0,[.slice A54 sSyncGroupResponseF.length c55,.int .i64 C5],true⟩,⟨b108,0,[.int .i64 0,.slice none 0 0,.bool false,.slice AO_ kO cO_,.slice none 0 0],true⟩] [] → TreeR w_ (D4 F w w_ [⟨b64,0,[.slice A42 sSyncGroupRequestF.length c43,.int .i64 C4],true⟩,⟨b72,0,[.slice A54 sSyncGroupResponseF.length c55,.int .i64 C5],true⟩,⟨b108,0,[.int .i64 0,.slice none 0 0,.bool false,.slice AO_ kO cO_,.slice none 0 0],true⟩] []) [.int .i64 0,.slice none 0 0,.bool false,.slice (some ⟨bL,0,none⟩) 7 7,.slice none 0 0] (E9 [B7 103] [B7 121] k_ D) → G_ 3 #[true,true,true,true,true,true,true,true,true,true,true,true,false,false,false] a_ w_:=by
   intro bA bB bL a_ w_ hE_ hW_ hF_ hrL_
   refine go_ _ _ _ _ ?_
   have hT_:=TT.ofW hF_ hW_
   refine N8 (i:=12) (j:=13) kz ?_ ?_
   ·
    refine (C3 hE_ (f:=11) (vs:=[.slice (some ⟨bL,0,none⟩) 7 7]) (d:=99) kz Tryz.call11 (Ck (some ⟨bL,0,none⟩) 7 7 _) ?_)
    rintro e_ w305 ⟨rfl,hs304⟩
    refine ⟨_,rfl,fun a306 hE307=>?_⟩
    have hW308:=hW_.next_nil hs304
    have hF309:=hW_.frN hs304
    have hT310:=TT.ofW (hF_.trans hF309) hW308
    refine ⟨fun _=>hT310,?_⟩
    exact gi_ _ _ _ _ _ kz (s1_ bA bB bL _ _ hE307.pk hW308 (hF_.trans hF309) (hrL_.move hF309.step immM hF309.to'))
   refine (D7 hW_ hE_ (d:=19) (cs:=[lc140,lc139,lc141,lc139,lc139]) kz fun b311 a312 w313 hb314 hz315 hF316 hW317 hE318=>?_)
   have hT319:=TT.ofW (hF_.trans hF316) hW317
   refine ⟨fun _=>hT319,?_⟩
   exact gi_ _ _ _ _ _ kz (s2_ bA bB b311 bL _ _ hE318.pk hW317 (hF_.trans hF316) (hrL_.move hF316.step immM hF316.to'))
  let lc156:Value:=.int .i64 3
  have s4_:∀ (bA bB bC:Nat) (a_:Act) (w_:World),EnvOk 186 [⟨b64,0,[.slice A42 sSyncGroupRequestF.length c43,.int .i64 C4],true⟩,⟨b72,0,[.slice A54 sSyncGroupResponseF.length c55,.int .i64 C5],true⟩,⟨b108,0,[.int .i64 0,.slice none 0 0,.bool false,.slice AO_ kO cO_,.slice none 0 0],true⟩,⟨bC,0,[.int .i64 0,.slice none 0 0,.bool false,.slice none 0 0,.slice none 0 0],true⟩] [(3,.v (.slice D.A D.l D.c)),(11,.p 0 0),(12,.p 1 0),(13,.v (.int .i64 v_)),(14,.v (.int .i64 u_)),(19,.p 3 0),(89,.v (.agg #[.int .i64 0,.slice (some ⟨bA,0,none⟩) ([B7 103].length) 1,.bool false,.slice none 0 0,.slice none 0 0])),(90,.v (.agg #[.int .i64 3,.slice none 0 0,.bool false,.slice none 0 0,.slice none 0 0])),(93,.v (.agg #[.int .i64 0,.slice (some ⟨bB,0,none⟩) ([B7 121].length) 1,.bool false,.slice none 0 0,.slice none 0 0])),(94,.v (.agg #[.int .i64 0,.slice none 0 0,.bool true,.slice none 0 0,.slice none 0 0])),(95,.v (.agg #[.int .i64 0,.slice none 0 0,.bool true,.slice none 0 0,.slice none 0 0])),(96,.v (.agg #[.int .i64 0,.slice none 0 0,.bool true,.slice none 0 0,.slice none 0 0])),(97,.v (.agg #[.int .i64 0,.slice none 0 0,.bool false,.slice AO_ kO cO_,.slice none 0 0]))] a_ → WOk w B5 w_ [⟨b64,0,[.slice A42 sSyncGroupRequestF.length c43,.int .i64 C4],true⟩,⟨b72,0,[.slice A54 sSyncGroupResponseF.length c55,.int .i64 C5],true⟩,⟨b108,0,[.int .i64 0,.slice none 0 0,.bool false,.slice AO_ kO cO_,.slice none 0 0],true⟩,⟨bC,0,[.int .i64 0,.slice none 0 0,.bool false,.slice none 0 0,.slice none 0 0],true⟩] [] → Fr w278 [⟨b64,0,[.slice A42 sSyncGroupRequestF.length c43,.int .i64 C4],true⟩,⟨b72,0,[.slice A54 sSyncGroupResponseF.length c55,.int .i64 C5],true⟩,⟨b108,0,[.int .i64 0,.slice none 0 0,.bool false,.slice AO_ kO cO_,.slice none 0 0],true⟩] [] w_ [⟨b64,0,[.slice A42 sSyncGroupRequestF.length c43,.int .i64 C4],true⟩,⟨b72,0,[.slice A54 sSyncGroupResponseF.length c55,.int .i64 C5],true⟩,⟨b108,0,[.int .i64 0,.slice none 0 0,.bool false,.slice AO_ kO cO_,.slice none 0 0],true⟩,⟨bC,0,[.int .i64 0,.slice none 0 0,.bool false,.slice none 0 0,.slice none 0 0],true⟩] [] → Octs w_ (D4 F w w_ [⟨b64,0,[.slice A42 sSyncGroupRequestF.length c43,.int .i64 C4],true⟩,⟨b72,0,[.slice A54 sSyncGroupResponseF.length c55,.int .i64 C5],true⟩,⟨b108,0,[.int .i64 0,.slice none 0 0,.bool false,.slice AO_ kO cO_,.slice none 0 0],true⟩,⟨bC,0,[.int .i64 0,.slice none 0 0,.bool false,.slice none 0 0,.slice none 0 0],true⟩] []) (some ⟨bA,0,none⟩) 1 [B7 103] → Octs w_ (D4 F w w_ [⟨b64,0,[.slice A42 sSyncGroupRequestF.length c43,.int .i64 C4],true⟩,⟨b72,0,[.slice A54 sSyncGroupResponseF.length c55,.int .i64 C5],true⟩,⟨b108,0,[.int .i64 0,.slice none 0 0,.bool false,.slice AO_ kO cO_,.slice none 0 0],true⟩,⟨bC,0,[.int .i64 0,.slice none 0 0,.bool false,.slice none 0 0,.slice none 0 0],true⟩] []) (some ⟨bB,0,none⟩) 1 [B7 121] → G_ 3 #[true,true,true,true,true,true,true,true,true,true,true,false,false,true,false] a_ w_:=by
   intro bA bB bC a_ w_ hE_ hW_ hF_ hoA_ hoB_
   refine go_ _ _ _ _ ?_
   have hT_:=TT.ofW hF_ hW_
   refine C9 (i:=11) kz (G4 hW_ hE_ (e:=34) (size:=5) (len:=7) (cs:=[lc140,.slice (some ⟨bA,0,none⟩) ([B7 103].length) 1,lc141,lc139,lc139,lc156,lc139,lc141,lc139,lc139,lc140,.slice (some ⟨bB,0,none⟩) ([B7 121].length) 1,lc141,lc139,lc139,lc140,lc139,lc153,lc139,lc139,lc140,lc139,lc153,lc139,lc139,lc140,lc139,lc153,lc139,lc139,lc140,lc139,lc141,lc143,lc139]) (d:=98) kz kz fun b320 a321 w322 hb323 hz324 hF325 hW326 hE327=>?_)
   have hf328:=hW326.giveF (G:=F) 0 [] rfl
   have ho329:World.ownsRow w322 0 34 5 (.slice (some ⟨b320,0,none⟩) 7 7) 7 ([lc140,.slice (some ⟨bA,0,none⟩) ([B7 103].length) 1,lc141,lc139,lc139,lc156,lc139,lc141,lc139,lc139,lc140,.slice (some ⟨bB,0,none⟩) ([B7 121].length) 1,lc141,lc139,lc139,lc140,lc139,lc153,lc139,lc139,lc140,lc139,lc153,lc139,lc139,lc140,lc139,lc153,lc139,lc139,lc140,lc139,lc141,lc143,lc139]):=hW326.own 0 _ rfl
   obtain ⟨hW330,hF331⟩:=hW326.cutR 0 []
   have hr332:TreeR w322 (D4 F w w322 [⟨b64,0,[.slice A42 sSyncGroupRequestF.length c43,.int .i64 C4],true⟩,⟨b72,0,[.slice A54 sSyncGroupResponseF.length c55,.int .i64 C5],true⟩,⟨b108,0,[.int .i64 0,.slice none 0 0,.bool false,.slice AO_ kO cO_,.slice none 0 0],true⟩,⟨bC,0,[.int .i64 0,.slice none 0 0,.bool false,.slice none 0 0,.slice none 0 0],true⟩] []) [.int .i64 0,.slice none 0 0,.bool false,.slice (some ⟨b320,0,none⟩) 7 7,.slice none 0 0] (Tree.mk 0 [] false [(Tree.mk 0 [B7 103] false [] []),(Tree.mk 3 [] false [] []),(Tree.mk 0 [B7 121] false [] []),(Tree.mk 0 [] true [] []),(Tree.mk 0 [] true [] []),(Tree.mk 0 [] true [] []),(Tree.mk 0 [] false ((List.range D.l).map (fun i=>K4 k_ (D.f i))) [])] []):=Y1 (show Trees _ _ [.int .i64 0,.slice (some ⟨bA,0,none⟩) ([B7 103].length) 1,.bool false,.slice none 0 0,.slice none 0 0,.int .i64 3,.slice none 0 0,.bool false,.slice none 0 0,.slice none 0 0,.int .i64 0,.slice (some ⟨bB,0,none⟩) ([B7 121].length) 1,.bool false,.slice none 0 0,.slice none 0 0,.int .i64 0,.slice none 0 0,.bool true,.slice none 0 0,.slice none 0 0,.int .i64 0,.slice none 0 0,.bool true,.slice none 0 0,.slice none 0 0,.int .i64 0,.slice none 0 0,.bool true,.slice none 0 0,.slice none 0 0,.int .i64 0,.slice none 0 0,.bool false,.slice AO_ kO cO_,.slice none 0 0] [(Tree.mk 0 [B7 103] false [] []),(Tree.mk 3 [] false [] []),(Tree.mk 0 [B7 121] false [] []),(Tree.mk 0 [] true [] []),(Tree.mk 0 [] true [] []),(Tree.mk 0 [] true [] []),(Tree.mk 0 [] false ((List.range D.l).map (fun i=>K4 k_ (D.f i))) [])] [[.int .i64 0,.slice (some ⟨bA,0,none⟩) ([B7 103].length) 1,.bool false,.slice none 0 0,.slice none 0 0],[.int .i64 3,.slice none 0 0,.bool false,.slice none 0 0,.slice none 0 0],[.int .i64 0,.slice (some ⟨bB,0,none⟩) ([B7 121].length) 1,.bool false,.slice none 0 0,.slice none 0 0],[.int .i64 0,.slice none 0 0,.bool true,.slice none 0 0,.slice none 0 0],[.int .i64 0,.slice none 0 0,.bool true,.slice none 0 0,.slice none 0 0],[.int .i64 0,.slice none 0 0,.bool true,.slice none 0 0,.slice none 0 0],[.int .i64 0,.slice none 0 0,.bool false,.slice AO_ kO cO_,.slice none 0 0]] from (Trees.snoc (Trees.snoc (Trees.snoc (Trees.snoc (Trees.snoc (Trees.snoc (Trees.snoc (Trees.nil _ _) (TreeR.mk (n:=0) (b:=false) (s:=[B7 103]) (l:=[]) (u:=[]) (fun _=>[]) (hoA_.move (hF325.trans hF331).step immM (hF325.trans hF331).to') (Slots.nil _ _ _ _) (fun i_ x_ h_=>by simp at h_) (TagsR.nil _ _))) (TreeR.mk (n:=3) (b:=false) (s:=[]) (l:=[]) (u:=[]) (fun _=>[]) (Octs.nil _ _) (Slots.nil _ _ _ _) (fun i_ x_ h_=>by simp at h_) (TagsR.nil _ _))) (TreeR.mk (n:=0) (b:=false) (s:=[B7 121]) (l:=[]) (u:=[]) (fun _=>[]) (hoB_.move (hF325.trans hF331).step immM (hF325.trans hF331).to') (Slots.nil _ _ _ _) (fun i_ x_ h_=>by simp at h_) (TagsR.nil _ _))) (TreeR.mk (n:=0) (b:=true) (s:=[]) (l:=[]) (u:=[]) (fun _=>[]) (Octs.nil _ _) (Slots.nil _ _ _ _) (fun i_ x_ h_=>by simp at h_) (TagsR.nil _ _))) (TreeR.mk (n:=0) (b:=true) (s:=[]) (l:=[]) (u:=[]) (fun _=>[]) (Octs.nil _ _) (Slots.nil _ _ _ _) (fun i_ x_ h_=>by simp at h_) (TagsR.nil _ _))) (TreeR.mk (n:=0) (b:=true) (s:=[]) (l:=[]) (u:=[]) (fun _=>[]) (Octs.nil _ _) (Slots.nil _ _ _ _) (fun i_ x_ h_=>by simp at h_) (TagsR.nil _ _))) (hr277.move (((hF279.trans hF_).trans hF325).trans hF331).step immM (((hF279.trans hF_).trans hF325).trans hF331).to'))) ho329 (rfl) (by simp) hf328
   have hT333:=TT.ofW ((hF_.trans hF325).trans hF331) hW330
   refine ⟨fun _=>hT333,?_⟩
   exact gi_ _ _ _ _ _ kz (s2_ bA bB bC b320 _ _ hE327.pk hW330 ((hF_.trans hF325).trans hF331) hr332)
  have s5_:∀ (bA bB:Nat) (a_:Act) (w_:World),EnvOk 186 [⟨b64,0,[.slice A42 sSyncGroupRequestF.length c43,.int .i64 C4],true⟩,⟨b72,0,[.slice A54 sSyncGroupResponseF.length c55,.int .i64 C5],true⟩,⟨b108,0,[.int .i64 0,.slice none 0 0,.bool false,.slice AO_ kO cO_,.slice none 0 0],true⟩] [(3,.v (.slice D.A D.l D.c)),(11,.p 0 0),(12,.p 1 0),(13,.v (.int .i64 v_)),(14,.v (.int .i64 u_)),(89,.v (.agg #[.int .i64 0,.slice (some ⟨bA,0,none⟩) ([B7 103].length) 1,.bool false,.slice none 0 0,.slice none 0 0])),(90,.v (.agg #[.int .i64 3,.slice none 0 0,.bool false,.slice none 0 0,.slice none 0 0])),(93,.v (.agg #[.int .i64 0,.slice (some ⟨bB,0,none⟩) ([B7 121].length) 1,.bool false,.slice none 0 0,.slice none 0 0])),(94,.v (.agg #[.int .i64 0,.slice none 0 0,.bool true,.slice none 0 0,.slice none 0 0])),(95,.v (.agg #[.int .i64 0,.slice none 0 0,.bool true,.slice none 0 0,.slice none 0 0])),(96,.v (.agg #[.int .i64 0,.slice none 0 0,.bool true,.slice none 0 0,.slice none 0 0])),(97,.v (.agg #[.int .i64 0,.slice none 0 0,.bool false,.slice AO_ kO cO_,.slice none 0 0]))] a_ → WOk w B5 w_ [⟨b64,0,[.slice A42 sSyncGroupRequestF.length c43,.int .i64 C4],true⟩,⟨b72,0,[.slice A54 sSyncGroupResponseF.length c55,.int .i64 C5],true⟩,⟨b108,0,[.int .i64 0,.slice none 0 0,.bool false,.slice AO_ kO cO_,.slice none 0 0],true⟩] [] → Fr w278 [⟨b64,0,[.slice A42 sSyncGroupRequestF.length c43,.int .i64 C4],true⟩,⟨b72,0,[.slice A54 sSyncGroupResponseF.length c55,.int .i64 C5],true⟩,⟨b108,0,[.int .i64 0,.slice none 0 0,.bool false,.slice AO_ kO cO_,.slice none 0 0],true⟩] [] w_ [⟨b64,0,[.slice A42 sSyncGroupRequestF.length c43,.int .i64 C4],true⟩,⟨b72,0,[.slice A54 sSyncGroupResponseF.length c55,.int .i64 C5],true⟩,⟨b108,0,[.int .i64 0,.slice none 0 0,.bool false,.slice AO_ kO cO_,.slice none 0 0],true⟩] [] → Octs w_ (D4 F w w_ [⟨b64,0,[.slice A42 sSyncGroupRequestF.length c43,.int .i64 C4],true⟩,⟨b72,0,[.slice A54 sSyncGroupResponseF.length c55,.int .i64 C5],true⟩,⟨b108,0,[.int .i64 0,.slice none 0 0,.bool false,.slice AO_ kO cO_,.slice none 0 0],true⟩] []) (some ⟨bA,0,none⟩) 1 [B7 103] → Octs w_ (D4 F w w_ [⟨b64,0,[.slice A42 sSyncGroupRequestF.length c43,.int .i64 C4],true⟩,⟨b72,0,[.slice A54 sSyncGroupResponseF.length c55,.int .i64 C5],true⟩,⟨b108,0,[.int .i64 0,.slice none 0 0,.bool false,.slice AO_ kO cO_,.slice none 0 0],true⟩] []) (some ⟨bB,0,none⟩) 1 [B7 121] → G_ 4 #[true,true,true,true,true,true,true,true,true,true,true,false,false,false,false] a_ w_:=by
   intro bA bB a_ w_ hE_ hW_ hF_ hoA_ hoB_
   refine go_ _ _ _ _ ?_
   have hT_:=TT.ofW hF_ hW_
   refine N8 (i:=11) (j:=13) kz ?_ ?_
   ·
    refine (G4 hW_ hE_ (e:=34) (size:=5) (len:=7) (cs:=[lc140,.slice (some ⟨bA,0,none⟩) ([B7 103].length) 1,lc141,lc139,lc139,lc156,lc139,lc141,lc139,lc139,lc140,.slice (some ⟨bB,0,none⟩) ([B7 121].length) 1,lc141,lc139,lc139,lc140,lc139,lc153,lc139,lc139,lc140,lc139,lc153,lc139,lc139,lc140,lc139,lc153,lc139,lc139,lc140,lc139,lc141,lc143,lc139]) (d:=98) kz kz fun b334 a335 w336 hb337 hz338 hF339 hW340 hE341=>?_)
    have hf342:=hW340.giveF (G:=F) 0 [] rfl
    have ho343:World.ownsRow w336 0 34 5 (.slice (some ⟨b334,0,none⟩) 7 7) 7 ([lc140,.slice (some ⟨bA,0,none⟩) ([B7 103].length) 1,lc141,lc139,lc139,lc156,lc139,lc141,lc139,lc139,lc140,.slice (some ⟨bB,0,none⟩) ([B7 121].length) 1,lc141,lc139,lc139,lc140,lc139,lc153,lc139,lc139,lc140,lc139,lc153,lc139,lc139,lc140,lc139,lc153,lc139,lc139,lc140,lc139,lc141,lc143,lc139]):=hW340.own 0 _ rfl
    obtain ⟨hW344,hF345⟩:=hW340.cutR 0 []
    have hr346:TreeR w336 (D4 F w w336 [⟨b64,0,[.slice A42 sSyncGroupRequestF.length c43,.int .i64 C4],true⟩,⟨b72,0,[.slice A54 sSyncGroupResponseF.length c55,.int .i64 C5],true⟩,⟨b108,0,[.int .i64 0,.slice none 0 0,.bool false,.slice AO_ kO cO_,.slice none 0 0],true⟩] []) [.int .i64 0,.slice none 0 0,.bool false,.slice (some ⟨b334,0,none⟩) 7 7,.slice none 0 0] (Tree.mk 0 [] false [(Tree.mk 0 [B7 103] false [] []),(Tree.mk 3 [] false [] []),(Tree.mk 0 [B7 121] false [] []),(Tree.mk 0 [] true [] []),(Tree.mk 0 [] true [] []),(Tree.mk 0 [] true [] []),(Tree.mk 0 [] false ((List.range D.l).map (fun i=>K4 k_ (D.f i))) [])] []):=Y1 (show Trees _ _ [.int .i64 0,.slice (some ⟨bA,0,none⟩) ([B7 103].length) 1,.bool false,.slice none 0 0,.slice none 0 0,.int .i64 3,.slice none 0 0,.bool false,.slice none 0 0,.slice none 0 0,.int .i64 0,.slice (some ⟨bB,0,none⟩) ([B7 121].length) 1,.bool false,.slice none 0 0,.slice none 0 0,.int .i64 0,.slice none 0 0,.bool true,.slice none 0 0,.slice none 0 0,.int .i64 0,.slice none 0 0,.bool true,.slice none 0 0,.slice none 0 0,.int .i64 0,.slice none 0 0,.bool true,.slice none 0 0,.slice none 0 0,.int .i64 0,.slice none 0 0,.bool false,.slice AO_ kO cO_,.slice none 0 0] [(Tree.mk 0 [B7 103] false [] []),(Tree.mk 3 [] false [] []),(Tree.mk 0 [B7 121] false [] []),(Tree.mk 0 [] true [] []),(Tree.mk 0 [] true [] []),(Tree.mk 0 [] true [] []),(Tree.mk 0 [] false ((List.range D.l).map (fun i=>K4 k_ (D.f i))) [])] [[.int .i64 0,.slice (some ⟨bA,0,none⟩) ([B7 103].length) 1,.bool false,.slice none 0 0,.slice none 0 0],[.int .i64 3,.slice none 0 0,.bool false,.slice none 0 0,.slice none 0 0],[.int .i64 0,.slice (some ⟨bB,0,none⟩) ([B7 121].length) 1,.bool false,.slice none 0 0,.slice none 0 0],[.int .i64 0,.slice none 0 0,.bool true,.slice none 0 0,.slice none 0 0],[.int .i64 0,.slice none 0 0,.bool true,.slice none 0 0,.slice none 0 0],[.int .i64 0,.slice none 0 0,.bool true,.slice none 0 0,.slice none 0 0],[.int .i64 0,.slice none 0 0,.bool false,.slice AO_ kO cO_,.slice none 0 0]] from (Trees.snoc (Trees.snoc (Trees.snoc (Trees.snoc (Trees.snoc (Trees.snoc (Trees.snoc (Trees.nil _ _) (TreeR.mk (n:=0) (b:=false) (s:=[B7 103]) (l:=[]) (u:=[]) (fun _=>[]) (hoA_.move (hF339.trans hF345).step immM (hF339.trans hF345).to') (Slots.nil _ _ _ _) (fun i_ x_ h_=>by simp at h_) (TagsR.nil _ _))) (TreeR.mk (n:=3) (b:=false) (s:=[]) (l:=[]) (u:=[]) (fun _=>[]) (Octs.nil _ _) (Slots.nil _ _ _ _) (fun i_ x_ h_=>by simp at h_) (TagsR.nil _ _))) (TreeR.mk (n:=0) (b:=false) (s:=[B7 121]) (l:=[]) (u:=[]) (fun _=>[]) (hoB_.move (hF339.trans hF345).step immM (hF339.trans hF345).to') (Slots.nil _ _ _ _) (fun i_ x_ h_=>by simp at h_) (TagsR.nil _ _))) (TreeR.mk (n:=0) (b:=true) (s:=[]) (l:=[]) (u:=[]) (fun _=>[]) (Octs.nil _ _) (Slots.nil _ _ _ _) (fun i_ x_ h_=>by simp at h_) (TagsR.nil _ _))) (TreeR.mk (n:=0) (b:=true) (s:=[]) (l:=[]) (u:=[]) (fun _=>[]) (Octs.nil _ _) (Slots.nil _ _ _ _) (fun i_ x_ h_=>by simp at h_) (TagsR.nil _ _))) (TreeR.mk (n:=0) (b:=true) (s:=[]) (l:=[]) (u:=[]) (fun _=>[]) (Octs.nil _ _) (Slots.nil _ _ _ _) (fun i_ x_ h_=>by simp at h_) (TagsR.nil _ _))) (hr277.move (((hF279.trans hF_).trans hF339).trans hF345).step immM (((hF279.trans hF_).trans hF339).trans hF345).to'))) ho343 (rfl) (by simp) hf342
    have hT347:=TT.ofW ((hF_.trans hF339).trans hF345) hW344
    refine ⟨fun _=>hT347,?_⟩
    exact gi_ _ _ _ _ _ kz (s3_ bA bB b334 _ _ hE341.pk hW344 ((hF_.trans hF339).trans hF345) hr346)
   refine (D7 hW_ hE_ (d:=19) (cs:=[lc140,lc139,lc141,lc139,lc139]) kz fun b348 a349 w350 hb351 hz352 hF353 hW354 hE355=>?_)
   have hT356:=TT.ofW (hF_.trans hF353) hW354
   refine ⟨fun _=>hT356,?_⟩
   exact gi_ _ _ _ _ _ kz (s4_ bA bB b348 _ _ hE355.pk hW354 (hF_.trans hF353) (hoA_.move hF353.step immM hF353.to') (hoB_.move hF353.step immM hF353.to'))
  have s6_:∀ (bA bB bC:Nat) (a_:Act) (w_:World),EnvOk 186 [⟨b64,0,[.slice A42 sSyncGroupRequestF.length c43,.int .i64 C4],true⟩,⟨b72,0,[.slice A54 sSyncGroupResponseF.length c55,.int .i64 C5],true⟩,⟨b108,0,[.int .i64 0,.slice none 0 0,.bool false,.slice AO_ kO cO_,.slice none 0 0],true⟩,⟨bC,0,[.int .i64 0,.slice none 0 0,.bool false,.slice none 0 0,.slice none 0 0],true⟩] [(3,.v (.slice D.A D.l D.c)),(11,.p 0 0),(12,.p 1 0),(13,.v (.int .i64 v_)),(14,.v (.int .i64 u_)),(19,.p 3 0),(89,.v (.agg #[.int .i64 0,.slice (some ⟨bA,0,none⟩) ([B7 103].length) 1,.bool false,.slice none 0 0,.slice none 0 0])),(90,.v (.agg #[.int .i64 3,.slice none 0 0,.bool false,.slice none 0 0,.slice none 0 0])),(92,.v (.slice (some ⟨bB,0,none⟩) ([B7 121].length) 1)),(94,.v (.agg #[.int .i64 0,.slice none 0 0,.bool true,.slice none 0 0,.slice none 0 0])),(95,.v (.agg #[.int .i64 0,.slice none 0 0,.bool true,.slice none 0 0,.slice none 0 0])),(96,.v (.agg #[.int .i64 0,.slice none 0 0,.bool true,.slice none 0 0,.slice none 0 0])),(97,.v (.agg #[.int .i64 0,.slice none 0 0,.bool false,.slice AO_ kO cO_,.slice none 0 0]))] a_ → WOk w B5 w_ [⟨b64,0,[.slice A42 sSyncGroupRequestF.length c43,.int .i64 C4],true⟩,⟨b72,0,[.slice A54 sSyncGroupResponseF.length c55,.int .i64 C5],true⟩,⟨b108,0,[.int .i64 0,.slice none 0 0,.bool false,.slice AO_ kO cO_,.slice none 0 0],true⟩,⟨bC,0,[.int .i64 0,.slice none 0 0,.bool false,.slice none 0 0,.slice none 0 0],true⟩] [] → Fr w278 [⟨b64,0,[.slice A42 sSyncGroupRequestF.length c43,.int .i64 C4],true⟩,⟨b72,0,[.slice A54 sSyncGroupResponseF.length c55,.int .i64 C5],true⟩,⟨b108,0,[.int .i64 0,.slice none 0 0,.bool false,.slice AO_ kO cO_,.slice none 0 0],true⟩] [] w_ [⟨b64,0,[.slice A42 sSyncGroupRequestF.length c43,.int .i64 C4],true⟩,⟨b72,0,[.slice A54 sSyncGroupResponseF.length c55,.int .i64 C5],true⟩,⟨b108,0,[.int .i64 0,.slice none 0 0,.bool false,.slice AO_ kO cO_,.slice none 0 0],true⟩,⟨bC,0,[.int .i64 0,.slice none 0 0,.bool false,.slice none 0 0,.slice none 0 0],true⟩] [] → Octs w_ (D4 F w w_ [⟨b64,0,[.slice A42 sSyncGroupRequestF.length c43,.int .i64 C4],true⟩,⟨b72,0,[.slice A54 sSyncGroupResponseF.length c55,.int .i64 C5],true⟩,⟨b108,0,[.int .i64 0,.slice none 0 0,.bool false,.slice AO_ kO cO_,.slice none 0 0],true⟩,⟨bC,0,[.int .i64 0,.slice none 0 0,.bool false,.slice none 0 0,.slice none 0 0],true⟩] []) (some ⟨bA,0,none⟩) 1 [B7 103] → Octs w_ (D4 F w w_ [⟨b64,0,[.slice A42 sSyncGroupRequestF.length c43,.int .i64 C4],true⟩,⟨b72,0,[.slice A54 sSyncGroupResponseF.length c55,.int .i64 C5],true⟩,⟨b108,0,[.int .i64 0,.slice none 0 0,.bool false,.slice AO_ kO cO_,.slice none 0 0],true⟩,⟨bC,0,[.int .i64 0,.slice none 0 0,.bool false,.slice none 0 0,.slice none 0 0],true⟩] []) (some ⟨bB,0,none⟩) 1 [B7 121] → G_ 4 #[true,true,true,true,true,true,false,true,true,true,true,false,false,true,false] a_ w_:=by
   intro bA bB bC a_ w_ hE_ hW_ hF_ hoA_ hoB_
   refine go_ _ _ _ _ ?_
   have hT_:=TT.ofW hF_ hW_
   refine C9 (i:=6) kz (C3 hE_ (f:=12) (vs:=[.slice (some ⟨bB,0,none⟩) ([B7 121].length) 1]) (d:=93) kz Tryz.call12 (S3 (some ⟨bB,0,none⟩) ([B7 121].length) 1 _) ?_)
   rintro e_ w358 ⟨rfl,hs357⟩
   refine ⟨_,rfl,fun a359 hE360=>?_⟩
   have hW361:=hW_.next_nil hs357
   have hF362:=hW_.frN hs357
   have hT363:=TT.ofW (hF_.trans hF362) hW361
   refine ⟨fun _=>hT363,?_⟩
   exact gi_ _ _ _ _ _ kz (s4_ bA bB bC _ _ hE360.pk hW361 (hF_.trans hF362) (hoA_.move hF362.step immM hF362.to') (hoB_.move hF362.step immM hF362.to'))
  have s7_:∀ (bA bB:Nat) (a_:Act) (w_:World),EnvOk 186 [⟨b64,0,[.slice A42 sSyncGroupRequestF.length c43,.int .i64 C4],true⟩,⟨b72,0,[.slice A54 sSyncGroupResponseF.length c55,.int .i64 C5],true⟩,⟨b108,0,[.int .i64 0,.slice none 0 0,.bool false,.slice AO_ kO cO_,.slice none 0 0],true⟩] [(3,.v (.slice D.A D.l D.c)),(11,.p 0 0),(12,.p 1 0),(13,.v (.int .i64 v_)),(14,.v (.int .i64 u_)),(89,.v (.agg #[.int .i64 0,.slice (some ⟨bA,0,none⟩) ([B7 103].length) 1,.bool false,.slice none 0 0,.slice none 0 0])),(90,.v (.agg #[.int .i64 3,.slice none 0 0,.bool false,.slice none 0 0,.slice none 0 0])),(92,.v (.slice (some ⟨bB,0,none⟩) ([B7 121].length) 1)),(94,.v (.agg #[.int .i64 0,.slice none 0 0,.bool true,.slice none 0 0,.slice none 0 0])),(95,.v (.agg #[.int .i64 0,.slice none 0 0,.bool true,.slice none 0 0,.slice none 0 0])),(96,.v (.agg #[.int .i64 0,.slice none 0 0,.bool true,.slice none 0 0,.slice none 0 0])),(97,.v (.agg #[.int .i64 0,.slice none 0 0,.bool false,.slice AO_ kO cO_,.slice none 0 0]))] a_ → WOk w B5 w_ [⟨b64,0,[.slice A42 sSyncGroupRequestF.length c43,.int .i64 C4],true⟩,⟨b72,0,[.slice A54 sSyncGroupResponseF.length c55,.int .i64 C5],true⟩,⟨b108,0,[.int .i64 0,.slice none 0 0,.bool false,.slice AO_ kO cO_,.slice none 0 0],true⟩] [] → Fr w278 [⟨b64,0,[.slice A42 sSyncGroupRequestF.length c43,.int .i64 C4],true⟩,⟨b72,0,[.slice A54 sSyncGroupResponseF.length c55,.int .i64 C5],true⟩,⟨b108,0,[.int .i64 0,.slice none 0 0,.bool false,.slice AO_ kO cO_,.slice none 0 0],true⟩] [] w_ [⟨b64,0,[.slice A42 sSyncGroupRequestF.length c43,.int .i64 C4],true⟩,⟨b72,0,[.slice A54 sSyncGroupResponseF.length c55,.int .i64 C5],true⟩,⟨b108,0,[.int .i64 0,.slice none 0 0,.bool false,.slice AO_ kO cO_,.slice none 0 0],true⟩] [] → Octs w_ (D4 F w w_ [⟨b64,0,[.slice A42 sSyncGroupRequestF.length c43,.int .i64 C4],true⟩,⟨b72,0,[.slice A54 sSyncGroupResponseF.length c55,.int .i64 C5],true⟩,⟨b108,0,[.int .i64 0,.slice none 0 0,.bool false,.slice AO_ kO cO_,.slice none 0 0],true⟩] []) (some ⟨bA,0,none⟩) 1 [B7 103] → Octs w_ (D4 F w w_ [⟨b64,0,[.slice A42 sSyncGroupRequestF.length c43,.int .i64 C4],true⟩,⟨b72,0,[.slice A54 sSyncGroupResponseF.length c55,.int .i64 C5],true⟩,⟨b108,0,[.int .i64 0,.slice none 0 0,.bool false,.slice AO_ kO cO_,.slice none 0 0],true⟩] []) (some ⟨bB,0,none⟩) 1 [B7 121] → G_ 5 #[true,true,true,true,true,true,false,true,true,true,true,false,false,false,false] a_ w_:=by
   intro bA bB a_ w_ hE_ hW_ hF_ hoA_ hoB_
   refine go_ _ _ _ _ ?_
   have hT_:=TT.ofW hF_ hW_
   refine N8 (i:=6) (j:=13) kz ?_ ?_
   ·
    refine (C3 hE_ (f:=12) (vs:=[.slice (some ⟨bB,0,none⟩) ([B7 121].length) 1]) (d:=93) kz Tryz.call12 (S3 (some ⟨bB,0,none⟩) ([B7 121].length) 1 _) ?_)
    rintro e_ w365 ⟨rfl,hs364⟩
    refine ⟨_,rfl,fun a366 hE367=>?_⟩
    have hW368:=hW_.next_nil hs364
    have hF369:=hW_.frN hs364
    have hT370:=TT.ofW (hF_.trans hF369) hW368
    refine ⟨fun _=>hT370,?_⟩
    exact gi_ _ _ _ _ _ kz (s5_ bA bB _ _ hE367.pk hW368 (hF_.trans hF369) (hoA_.move hF369.step immM hF369.to') (hoB_.move hF369.step immM hF369.to'))
   refine (D7 hW_ hE_ (d:=19) (cs:=[lc140,lc139,lc141,lc139,lc139]) kz fun b371 a372 w373 hb374 hz375 hF376 hW377 hE378=>?_)
   have hT379:=TT.ofW (hF_.trans hF376) hW377
   refine ⟨fun _=>hT379,?_⟩
   exact gi_ _ _ _ _ _ kz (s6_ bA bB b371 _ _ hE378.pk hW377 (hF_.trans hF376) (hoA_.move hF376.step immM hF376.to') (hoB_.move hF376.step immM hF376.to'))
  have s8_:∀ (bA bB bC:Nat) (a_:Act) (w_:World),EnvOk 186 [⟨b64,0,[.slice A42 sSyncGroupRequestF.length c43,.int .i64 C4],true⟩,⟨b72,0,[.slice A54 sSyncGroupResponseF.length c55,.int .i64 C5],true⟩,⟨b108,0,[.int .i64 0,.slice none 0 0,.bool false,.slice AO_ kO cO_,.slice none 0 0],true⟩,⟨bC,0,[.int .i64 0,.slice none 0 0,.bool false,.slice none 0 0,.slice none 0 0],true⟩] [(3,.v (.slice D.A D.l D.c)),(11,.p 0 0),(12,.p 1 0),(13,.v (.int .i64 v_)),(14,.v (.int .i64 u_)),(19,.p 3 0),(89,.v (.agg #[.int .i64 0,.slice (some ⟨bA,0,none⟩) ([B7 103].length) 1,.bool false,.slice none 0 0,.slice none 0 0])),(90,.v (.agg #[.int .i64 3,.slice none 0 0,.bool false,.slice none 0 0,.slice none 0 0])),(91,.v (.slice (some ⟨bB,0,none⟩) ([B7 121].length) 1)),(94,.v (.agg #[.int .i64 0,.slice none 0 0,.bool true,.slice none 0 0,.slice none 0 0])),(95,.v (.agg #[.int .i64 0,.slice none 0 0,.bool true,.slice none 0 0,.slice none 0 0])),(96,.v (.agg #[.int .i64 0,.slice none 0 0,.bool true,.slice none 0 0,.slice none 0 0])),(97,.v (.agg #[.int .i64 0,.slice none 0 0,.bool false,.slice AO_ kO cO_,.slice none 0 0]))] a_ → WOk w B5 w_ [⟨b64,0,[.slice A42 sSyncGroupRequestF.length c43,.int .i64 C4],true⟩,⟨b72,0,[.slice A54 sSyncGroupResponseF.length c55,.int .i64 C5],true⟩,⟨b108,0,[.int .i64 0,.slice none 0 0,.bool false,.slice AO_ kO cO_,.slice none 0 0],true⟩,⟨bC,0,[.int .i64 0,.slice none 0 0,.bool false,.slice none 0 0,.slice none 0 0],true⟩] [B6 (some ⟨bB,0,none⟩) 1 5 [B7 121]] → Fr w278 [⟨b64,0,[.slice A42 sSyncGroupRequestF.length c43,.int .i64 C4],true⟩,⟨b72,0,[.slice A54 sSyncGroupResponseF.length c55,.int .i64 C5],true⟩,⟨b108,0,[.int .i64 0,.slice none 0 0,.bool false,.slice AO_ kO cO_,.slice none 0 0],true⟩] [] w_ [⟨b64,0,[.slice A42 sSyncGroupRequestF.length c43,.int .i64 C4],true⟩,⟨b72,0,[.slice A54 sSyncGroupResponseF.length c55,.int .i64 C5],true⟩,⟨b108,0,[.int .i64 0,.slice none 0 0,.bool false,.slice AO_ kO cO_,.slice none 0 0],true⟩,⟨bC,0,[.int .i64 0,.slice none 0 0,.bool false,.slice none 0 0,.slice none 0 0],true⟩] [B6 (some ⟨bB,0,none⟩) 1 5 [B7 121]] → Octs w_ (D4 F w w_ [⟨b64,0,[.slice A42 sSyncGroupRequestF.length c43,.int .i64 C4],true⟩,⟨b72,0,[.slice A54 sSyncGroupResponseF.length c55,.int .i64 C5],true⟩,⟨b108,0,[.int .i64 0,.slice none 0 0,.bool false,.slice AO_ kO cO_,.slice none 0 0],true⟩,⟨bC,0,[.int .i64 0,.slice none 0 0,.bool false,.slice none 0 0,.slice none 0 0],true⟩] [B6 (some ⟨bB,0,none⟩) 1 5 [B7 121]]) (some ⟨bA,0,none⟩) 1 [B7 103] → G_ 5 #[true,true,true,true,true,false,false,true,true,true,true,false,false,true,false] a_ w_:=by
   intro bA bB bC a_ w_ hE_ hW_ hF_ hoA_
   refine go_ _ _ _ _ ?_
   have hT_:=TT.ofW hF_ hW_
   refine C9 (i:=5) kz (Q5 (k:=0) (t:=30) (e:=5) (A:=(some ⟨bB,0,none⟩)) (c:=1) (s:=[B7 121]) (d:=92) hW_ hE_ [] rfl (by decide) (by decide) fun a380 w381 hF382 hW383 ho384 hE385=>?_)
   have ho386:=ho384 F
   have hT387:=TT.ofW (hF_.trans hF382) hW383
   refine ⟨fun _=>hT387,?_⟩
   exact gi_ _ _ _ _ _ kz (s6_ bA bB bC _ _ hE385.pk hW383 (hF_.trans hF382) (hoA_.move hF382.step immM hF382.to') ho386)
  have s9_:∀ (bA bB bC:Nat) (a_:Act) (w_:World),EnvOk 186 [⟨b64,0,[.slice A42 sSyncGroupRequestF.length c43,.int .i64 C4],true⟩,⟨b72,0,[.slice A54 sSyncGroupResponseF.length c55,.int .i64 C5],true⟩,⟨b108,0,[.int .i64 0,.slice none 0 0,.bool false,.slice AO_ kO cO_,.slice none 0 0],true⟩,⟨bC,0,[.int .i64 0,.slice none 0 0,.bool false,.slice none 0 0,.slice none 0 0],true⟩] [(3,.v (.slice D.A D.l D.c)),(11,.p 0 0),(12,.p 1 0),(13,.v (.int .i64 v_)),(14,.v (.int .i64 u_)),(19,.p 3 0),(89,.v (.agg #[.int .i64 0,.slice (some ⟨bA,0,none⟩) ([B7 103].length) 1,.bool false,.slice none 0 0,.slice none 0 0])),(92,.v (.slice (some ⟨bB,0,none⟩) ([B7 121].length) 1)),(94,.v (.agg #[.int .i64 0,.slice none 0 0,.bool true,.slice none 0 0,.slice none 0 0])),(95,.v (.agg #[.int .i64 0,.slice none 0 0,.bool true,.slice none 0 0,.slice none 0 0])),(96,.v (.agg #[.int .i64 0,.slice none 0 0,.bool true,.slice none 0 0,.slice none 0 0])),(97,.v (.agg #[.int .i64 0,.slice none 0 0,.bool false,.slice AO_ kO cO_,.slice none 0 0]))] a_ → WOk w B5 w_ [⟨b64,0,[.slice A42 sSyncGroupRequestF.length c43,.int .i64 C4],true⟩,⟨b72,0,[.slice A54 sSyncGroupResponseF.length c55,.int .i64 C5],true⟩,⟨b108,0,[.int .i64 0,.slice none 0 0,.bool false,.slice AO_ kO cO_,.slice none 0 0],true⟩,⟨bC,0,[.int .i64 0,.slice none 0 0,.bool false,.slice none 0 0,.slice none 0 0],true⟩] [] → Fr w278 [⟨b64,0,[.slice A42 sSyncGroupRequestF.length c43,.int .i64 C4],true⟩,⟨b72,0,[.slice A54 sSyncGroupResponseF.length c55,.int .i64 C5],true⟩,⟨b108,0,[.int .i64 0,.slice none 0 0,.bool false,.slice AO_ kO cO_,.slice none 0 0],true⟩] [] w_ [⟨b64,0,[.slice A42 sSyncGroupRequestF.length c43,.int .i64 C4],true⟩,⟨b72,0,[.slice A54 sSyncGroupResponseF.length c55,.int .i64 C5],true⟩,⟨b108,0,[.int .i64 0,.slice none 0 0,.bool false,.slice AO_ kO cO_,.slice none 0 0],true⟩,⟨bC,0,[.int .i64 0,.slice none 0 0,.bool false,.slice none 0 0,.slice none 0 0],true⟩] [] → Octs w_ (D4 F w w_ [⟨b64,0,[.slice A42 sSyncGroupRequestF.length c43,.int .i64 C4],true⟩,⟨b72,0,[.slice A54 sSyncGroupResponseF.length c55,.int .i64 C5],true⟩,⟨b108,0,[.int .i64 0,.slice none 0 0,.bool false,.slice AO_ kO cO_,.slice none 0 0],true⟩,⟨bC,0,[.int .i64 0,.slice none 0 0,.bool false,.slice none 0 0,.slice none 0 0],true⟩] []) (some ⟨bA,0,none⟩) 1 [B7 103] → Octs w_ (D4 F w w_ [⟨b64,0,[.slice A42 sSyncGroupRequestF.length c43,.int .i64 C4],true⟩,⟨b72,0,[.slice A54 sSyncGroupResponseF.length c55,.int .i64 C5],true⟩,⟨b108,0,[.int .i64 0,.slice none 0 0,.bool false,.slice AO_ kO cO_,.slice none 0 0],true⟩,⟨bC,0,[.int .i64 0,.slice none 0 0,.bool false,.slice none 0 0,.slice none 0 0],true⟩] []) (some ⟨bB,0,none⟩) 1 [B7 121] → G_ 5 #[true,true,true,false,true,true,false,true,true,true,true,false,false,true,false] a_ w_:=by
   intro bA bB bC a_ w_ hE_ hW_ hF_ hoA_ hoB_
   refine go_ _ _ _ _ ?_
   have hT_:=TT.ofW hF_ hW_
   refine C9 (i:=3) kz (C3 hE_ (f:=14) (vs:=[lc156]) (d:=90) kz Tryz.call14 (Bw 3 _) ?_)
   rintro e_ w389 ⟨rfl,hs388⟩
   refine ⟨_,rfl,fun a390 hE391=>?_⟩
   have hW392:=hW_.next_nil hs388
   have hF393:=hW_.frN hs388
   have hT394:=TT.ofW (hF_.trans hF393) hW392
   refine ⟨fun _=>hT394,?_⟩
   exact gi_ _ _ _ _ _ kz (s6_ bA bB bC _ _ hE391.pk hW392 (hF_.trans hF393) (hoA_.move hF393.step immM hF393.to') (hoB_.move hF393.step immM hF393.to'))
  have s10_:∀ (bA bB:Nat) (a_:Act) (w_:World),EnvOk 186 [⟨b64,0,[.slice A42 sSyncGroupRequestF.length c43,.int .i64 C4],true⟩,⟨b72,0,[.slice A54 sSyncGroupResponseF.length c55,.int .i64 C5],true⟩,⟨b108,0,[.int .i64 0,.slice none 0 0,.bool false,.slice AO_ kO cO_,.slice none 0 0],true⟩] [(3,.v (.slice D.A D.l D.c)),(11,.p 0 0),(12,.p 1 0),(13,.v (.int .i64 v_)),(14,.v (.int .i64 u_)),(89,.v (.agg #[.int .i64 0,.slice (some ⟨bA,0,none⟩) ([B7 103].length) 1,.bool false,.slice none 0 0,.slice none 0 0])),(90,.v (.agg #[.int .i64 3,.slice none 0 0,.bool false,.slice none 0 0,.slice none 0 0])),(91,.v (.slice (some ⟨bB,0,none⟩) ([B7 121].length) 1)),(94,.v (.agg #[.int .i64 0,.slice none 0 0,.bool true,.slice none 0 0,.slice none 0 0])),(95,.v (.agg #[.int .i64 0,.slice none 0 0,.bool true,.slice none 0 0,.slice none 0 0])),(96,.v (.agg #[.int .i64 0,.slice none 0 0,.bool true,.slice none 0 0,.slice none 0 0])),(97,.v (.agg #[.int .i64 0,.slice none 0 0,.bool false,.slice AO_ kO cO_,.slice none 0 0]))] a_ → WOk w B5 w_ [⟨b64,0,[.slice A42 sSyncGroupRequestF.length c43,.int .i64 C4],true⟩,⟨b72,0,[.slice A54 sSyncGroupResponseF.length c55,.int .i64 C5],true⟩,⟨b108,0,[.int .i64 0,.slice none 0 0,.bool false,.slice AO_ kO cO_,.slice none 0 0],true⟩] [B6 (some ⟨bB,0,none⟩) 1 5 [B7 121]] → Fr w278 [⟨b64,0,[.slice A42 sSyncGroupRequestF.length c43,.int .i64 C4],true⟩,⟨b72,0,[.slice A54 sSyncGroupResponseF.length c55,.int .i64 C5],true⟩,⟨b108,0,[.int .i64 0,.slice none 0 0,.bool false,.slice AO_ kO cO_,.slice none 0 0],true⟩] [] w_ [⟨b64,0,[.slice A42 sSyncGroupRequestF.length c43,.int .i64 C4],true⟩,⟨b72,0,[.slice A54 sSyncGroupResponseF.length c55,.int .i64 C5],true⟩,⟨b108,0,[.int .i64 0,.slice none 0 0,.bool false,.slice AO_ kO cO_,.slice none 0 0],true⟩] [B6 (some ⟨bB,0,none⟩) 1 5 [B7 121]] → Octs w_ (D4 F w w_ [⟨b64,0,[.slice A42 sSyncGroupRequestF.length c43,.int .i64 C4],true⟩,⟨b72,0,[.slice A54 sSyncGroupResponseF.length c55,.int .i64 C5],true⟩,⟨b108,0,[.int .i64 0,.slice none 0 0,.bool false,.slice AO_ kO cO_,.slice none 0 0],true⟩] [B6 (some ⟨bB,0,none⟩) 1 5 [B7 121]]) (some ⟨bA,0,none⟩) 1 [B7 103] → G_ 6 #[true,true,true,true,true,false,false,true,true,true,true,false,false,false,false] a_ w_:=by
   intro bA bB a_ w_ hE_ hW_ hF_ hoA_
   refine go_ _ _ _ _ ?_
   have hT_:=TT.ofW hF_ hW_
   refine N8 (i:=5) (j:=13) kz ?_ ?_
   ·
    refine (Q5 (k:=0) (t:=30) (e:=5) (A:=(some ⟨bB,0,none⟩)) (c:=1) (s:=[B7 121]) (d:=92) hW_ hE_ [] rfl (by decide) (by decide) fun a395 w396 hF397 hW398 ho399 hE400=>?_)
    have ho401:=ho399 F
    have hT402:=TT.ofW (hF_.trans hF397) hW398
    refine ⟨fun _=>hT402,?_⟩
    exact gi_ _ _ _ _ _ kz (s7_ bA bB _ _ hE400.pk hW398 (hF_.trans hF397) (hoA_.move hF397.step immM hF397.to') ho401)
   refine (D7 hW_ hE_ (d:=19) (cs:=[lc140,lc139,lc141,lc139,lc139]) kz fun b403 a404 w405 hb406 hz407 hF408 hW409 hE410=>?_)
   have hT411:=TT.ofW (hF_.trans hF408) hW409
   refine ⟨fun _=>hT411,?_⟩
   exact gi_ _ _ _ _ _ kz (s8_ bA bB b403 _ _ hE410.pk hW409 (hF_.trans hF408) (hoA_.move hF408.step immM hF408.to'))
  let le129:Nat × SV:=(90,.v (.agg #[lc156,lc139,lc141,lc139,lc139]))
  let lc157:Value:=.int .u8 121
  have s11_:∀ (bA bC:Nat) (a_:Act) (w_:World),EnvOk 186 [⟨b64,0,[.slice A42 sSyncGroupRequestF.length c43,.int .i64 C4],true⟩,⟨b72,0,[.slice A54 sSyncGroupResponseF.length c55,.int .i64 C5],true⟩,⟨b108,0,[.int .i64 0,.slice none 0 0,.bool false,.slice AO_ kO cO_,.slice none 0 0],true⟩,⟨bC,0,[.int .i64 0,.slice none 0 0,.bool false,.slice none 0 0,.slice none 0 0],true⟩] [(3,.v (.slice D.A D.l D.c)),(11,.p 0 0),(12,.p 1 0),(13,.v (.int .i64 v_)),(14,.v (.int .i64 u_)),(19,.p 3 0),(89,.v (.agg #[.int .i64 0,.slice (some ⟨bA,0,none⟩) ([B7 103].length) 1,.bool false,.slice none 0 0,.slice none 0 0])),(90,.v (.agg #[.int .i64 3,.slice none 0 0,.bool false,.slice none 0 0,.slice none 0 0])),(94,.v (.agg #[.int .i64 0,.slice none 0 0,.bool true,.slice none 0 0,.slice none 0 0])),(95,.v (.agg #[.int .i64 0,.slice none 0 0,.bool true,.slice none 0 0,.slice none 0 0])),(96,.v (.agg #[.int .i64 0,.slice none 0 0,.bool true,.slice none 0 0,.slice none 0 0])),(97,.v (.agg #[.int .i64 0,.slice none 0 0,.bool false,.slice AO_ kO cO_,.slice none 0 0]))] a_ → WOk w B5 w_ [⟨b64,0,[.slice A42 sSyncGroupRequestF.length c43,.int .i64 C4],true⟩,⟨b72,0,[.slice A54 sSyncGroupResponseF.length c55,.int .i64 C5],true⟩,⟨b108,0,[.int .i64 0,.slice none 0 0,.bool false,.slice AO_ kO cO_,.slice none 0 0],true⟩,⟨bC,0,[.int .i64 0,.slice none 0 0,.bool false,.slice none 0 0,.slice none 0 0],true⟩] [] → Fr w278 [⟨b64,0,[.slice A42 sSyncGroupRequestF.length c43,.int .i64 C4],true⟩,⟨b72,0,[.slice A54 sSyncGroupResponseF.length c55,.int .i64 C5],true⟩,⟨b108,0,[.int .i64 0,.slice none 0 0,.bool false,.slice AO_ kO cO_,.slice none 0 0],true⟩] [] w_ [⟨b64,0,[.slice A42 sSyncGroupRequestF.length c43,.int .i64 C4],true⟩,⟨b72,0,[.slice A54 sSyncGroupResponseF.length c55,.int .i64 C5],true⟩,⟨b108,0,[.int .i64 0,.slice none 0 0,.bool false,.slice AO_ kO cO_,.slice none 0 0],true⟩,⟨bC,0,[.int .i64 0,.slice none 0 0,.bool false,.slice none 0 0,.slice none 0 0],true⟩] [] → Octs w_ (D4 F w w_ [⟨b64,0,[.slice A42 sSyncGroupRequestF.length c43,.int .i64 C4],true⟩,⟨b72,0,[.slice A54 sSyncGroupResponseF.length c55,.int .i64 C5],true⟩,⟨b108,0,[.int .i64 0,.slice none 0 0,.bool false,.slice AO_ kO cO_,.slice none 0 0],true⟩,⟨bC,0,[.int .i64 0,.slice none 0 0,.bool false,.slice none 0 0,.slice none 0 0],true⟩] []) (some ⟨bA,0,none⟩) 1 [B7 103] → G_ 6 #[true,true,true,true,false,false,false,true,true,true,true,false,false,true,false] a_ w_:=by
   intro bA bC a_ w_ hE_ hW_ hF_ hoA_
   refine go_ _ _ _ _ ?_
   have hT_:=TT.ofW hF_ hW_
   refine C9 (i:=4) kz (G4 hW_ hE_ (e:=5) (size:=1) (len:=1) (cs:=[lc157]) (d:=91) kz kz fun b412 a413 w414 hb415 hz416 hF417 hW418 hE419=>?_)
   have er420:(⟨some ⟨b412,0,none⟩,1,5,1,1,[.int .u8 121]⟩:Rw) = B6 (some ⟨b412,0,none⟩) 1 5 [B7 121]:=by first | rfl | (simp only [B6,bc,List.map,N4]; try rfl)
   obtain ⟨hW421,hF423⟩:=hW418.rowEq 0 [B6 (some ⟨b412,0,none⟩) 1 5 [B7 121]] er420
   have hE425:=EnvOk.pick hE419 (ks:=[3,11,12,13,14,94,95,96,97,19,89,90,91]) (env':=[le109,le112,le113,le120,le121,le125,le126,le127,le128,le124,(89,.v (.agg #[lc140,.slice (some ⟨bA,0,none⟩) ([B7 103].length) 1,lc141,lc139,lc139])),le129,(91,.v (.slice (some ⟨b412,0,none⟩) 1 1))]) kz
   have hE424:=hE425.cast (env':=[le109,le112,le113,le120,le121,le125,le126,le127,le128,le124,(89,.v (.agg #[lc140,.slice (some ⟨bA,0,none⟩) ([B7 103].length) 1,lc141,lc139,lc139])),le129,(91,.v (.slice (some ⟨b412,0,none⟩) ([B7 121].length) 1))]) rfl
   have hT426:=TT.ofW ((hF_.trans hF417).trans hF423) hW421
   refine ⟨fun _=>hT426,?_⟩
   exact gi_ _ _ _ _ _ kz (s8_ bA b412 bC _ _ hE424.pk hW421 ((hF_.trans hF417).trans hF423) (hoA_.move (hF417.trans hF423).step immM (hF417.trans hF423).to'))
  have s12_:∀ (bA bB:Nat) (a_:Act) (w_:World),EnvOk 186 [⟨b64,0,[.slice A42 sSyncGroupRequestF.length c43,.int .i64 C4],true⟩,⟨b72,0,[.slice A54 sSyncGroupResponseF.length c55,.int .i64 C5],true⟩,⟨b108,0,[.int .i64 0,.slice none 0 0,.bool false,.slice AO_ kO cO_,.slice none 0 0],true⟩] [(3,.v (.slice D.A D.l D.c)),(11,.p 0 0),(12,.p 1 0),(13,.v (.int .i64 v_)),(14,.v (.int .i64 u_)),(89,.v (.agg #[.int .i64 0,.slice (some ⟨bA,0,none⟩) ([B7 103].length) 1,.bool false,.slice none 0 0,.slice none 0 0])),(92,.v (.slice (some ⟨bB,0,none⟩) ([B7 121].length) 1)),(94,.v (.agg #[.int .i64 0,.slice none 0 0,.bool true,.slice none 0 0,.slice none 0 0])),(95,.v (.agg #[.int .i64 0,.slice none 0 0,.bool true,.slice none 0 0,.slice none 0 0])),(96,.v (.agg #[.int .i64 0,.slice none 0 0,.bool true,.slice none 0 0,.slice none 0 0])),(97,.v (.agg #[.int .i64 0,.slice none 0 0,.bool false,.slice AO_ kO cO_,.slice none 0 0]))] a_ → WOk w B5 w_ [⟨b64,0,[.slice A42 sSyncGroupRequestF.length c43,.int .i64 C4],true⟩,⟨b72,0,[.slice A54 sSyncGroupResponseF.length c55,.int .i64 C5],true⟩,⟨b108,0,[.int .i64 0,.slice none 0 0,.bool false,.slice AO_ kO cO_,.slice none 0 0],true⟩] [] → Fr w278 [⟨b64,0,[.slice A42 sSyncGroupRequestF.length c43,.int .i64 C4],true⟩,⟨b72,0,[.slice A54 sSyncGroupResponseF.length c55,.int .i64 C5],true⟩,⟨b108,0,[.int .i64 0,.slice none 0 0,.bool false,.slice AO_ kO cO_,.slice none 0 0],true⟩] [] w_ [⟨b64,0,[.slice A42 sSyncGroupRequestF.length c43,.int .i64 C4],true⟩,⟨b72,0,[.slice A54 sSyncGroupResponseF.length c55,.int .i64 C5],true⟩,⟨b108,0,[.int .i64 0,.slice none 0 0,.bool false,.slice AO_ kO cO_,.slice none 0 0],true⟩] [] → Octs w_ (D4 F w w_ [⟨b64,0,[.slice A42 sSyncGroupRequestF.length c43,.int .i64 C4],true⟩,⟨b72,0,[.slice A54 sSyncGroupResponseF.length c55,.int .i64 C5],true⟩,⟨b108,0,[.int .i64 0,.slice none 0 0,.bool false,.slice AO_ kO cO_,.slice none 0 0],true⟩] []) (some ⟨bA,0,none⟩) 1 [B7 103] → Octs w_ (D4 F w w_ [⟨b64,0,[.slice A42 sSyncGroupRequestF.length c43,.int .i64 C4],true⟩,⟨b72,0,[.slice A54 sSyncGroupResponseF.length c55,.int .i64 C5],true⟩,⟨b108,0,[.int .i64 0,.slice none 0 0,.bool false,.slice AO_ kO cO_,.slice none 0 0],true⟩] []) (some ⟨bB,0,none⟩) 1 [B7 121] → G_ 6 #[true,true,true,false,true,true,false,true,true,true,true,false,false,false,false] a_ w_:=by
   intro bA bB a_ w_ hE_ hW_ hF_ hoA_ hoB_
   refine go_ _ _ _ _ ?_
   have hT_:=TT.ofW hF_ hW_
   refine N8 (i:=3) (j:=13) kz ?_ ?_
   ·
    refine (C3 hE_ (f:=14) (vs:=[lc156]) (d:=90) kz Tryz.call14 (Bw 3 _) ?_)
    rintro e_ w428 ⟨rfl,hs427⟩
    refine ⟨_,rfl,fun a429 hE430=>?_⟩
    have hW431:=hW_.next_nil hs427
    have hF432:=hW_.frN hs427
    have hT433:=TT.ofW (hF_.trans hF432) hW431
    refine ⟨fun _=>hT433,?_⟩
    exact gi_ _ _ _ _ _ kz (s7_ bA bB _ _ hE430.pk hW431 (hF_.trans hF432) (hoA_.move hF432.step immM hF432.to') (hoB_.move hF432.step immM hF432.to'))
   refine (D7 hW_ hE_ (d:=19) (cs:=[lc140,lc139,lc141,lc139,lc139]) kz fun b434 a435 w436 hb437 hz438 hF439 hW440 hE441=>?_)
   have hT442:=TT.ofW (hF_.trans hF439) hW440
   refine ⟨fun _=>hT442,?_⟩
   exact gi_ _ _ _ _ _ kz (s9_ bA bB b434 _ _ hE441.pk hW440 (hF_.trans hF439) (hoA_.move hF439.step immM hF439.to') (hoB_.move hF439.step immM hF439.to'))
  have s13_:∀ (bA bB bC:Nat) (a_:Act) (w_:World),EnvOk 186 [⟨b64,0,[.slice A42 sSyncGroupRequestF.length c43,.int .i64 C4],true⟩,⟨b72,0,[.slice A54 sSyncGroupResponseF.length c55,.int .i64 C5],true⟩,⟨b108,0,[.int .i64 0,.slice none 0 0,.bool false,.slice AO_ kO cO_,.slice none 0 0],true⟩,⟨bC,0,[.int .i64 0,.slice none 0 0,.bool false,.slice none 0 0,.slice none 0 0],true⟩] [(3,.v (.slice D.A D.l D.c)),(11,.p 0 0),(12,.p 1 0),(13,.v (.int .i64 v_)),(14,.v (.int .i64 u_)),(19,.p 3 0),(89,.v (.agg #[.int .i64 0,.slice (some ⟨bA,0,none⟩) ([B7 103].length) 1,.bool false,.slice none 0 0,.slice none 0 0])),(91,.v (.slice (some ⟨bB,0,none⟩) ([B7 121].length) 1)),(94,.v (.agg #[.int .i64 0,.slice none 0 0,.bool true,.slice none 0 0,.slice none 0 0])),(95,.v (.agg #[.int .i64 0,.slice none 0 0,.bool true,.slice none 0 0,.slice none 0 0])),(96,.v (.agg #[.int .i64 0,.slice none 0 0,.bool true,.slice none 0 0,.slice none 0 0])),(97,.v (.agg #[.int .i64 0,.slice none 0 0,.bool false,.slice AO_ kO cO_,.slice none 0 0]))] a_ → WOk w B5 w_ [⟨b64,0,[.slice A42 sSyncGroupRequestF.length c43,.int .i64 C4],true⟩,⟨b72,0,[.slice A54 sSyncGroupResponseF.length c55,.int .i64 C5],true⟩,⟨b108,0,[.int .i64 0,.slice none 0 0,.bool false,.slice AO_ kO cO_,.slice none 0 0],true⟩,⟨bC,0,[.int .i64 0,.slice none 0 0,.bool false,.slice none 0 0,.slice none 0 0],true⟩] [B6 (some ⟨bB,0,none⟩) 1 5 [B7 121]] → Fr w278 [⟨b64,0,[.slice A42 sSyncGroupRequestF.length c43,.int .i64 C4],true⟩,⟨b72,0,[.slice A54 sSyncGroupResponseF.length c55,.int .i64 C5],true⟩,⟨b108,0,[.int .i64 0,.slice none 0 0,.bool false,.slice AO_ kO cO_,.slice none 0 0],true⟩] [] w_ [⟨b64,0,[.slice A42 sSyncGroupRequestF.length c43,.int .i64 C4],true⟩,⟨b72,0,[.slice A54 sSyncGroupResponseF.length c55,.int .i64 C5],true⟩,⟨b108,0,[.int .i64 0,.slice none 0 0,.bool false,.slice AO_ kO cO_,.slice none 0 0],true⟩,⟨bC,0,[.int .i64 0,.slice none 0 0,.bool false,.slice none 0 0,.slice none 0 0],true⟩] [B6 (some ⟨bB,0,none⟩) 1 5 [B7 121]] → Octs w_ (D4 F w w_ [⟨b64,0,[.slice A42 sSyncGroupRequestF.length c43,.int .i64 C4],true⟩,⟨b72,0,[.slice A54 sSyncGroupResponseF.length c55,.int .i64 C5],true⟩,⟨b108,0,[.int .i64 0,.slice none 0 0,.bool false,.slice AO_ kO cO_,.slice none 0 0],true⟩,⟨bC,0,[.int .i64 0,.slice none 0 0,.bool false,.slice none 0 0,.slice none 0 0],true⟩] [B6 (some ⟨bB,0,none⟩) 1 5 [B7 121]]) (some ⟨bA,0,none⟩) 1 [B7 103] → G_ 6 #[true,true,true,false,true,false,false,true,true,true,true,false,false,true,false] a_ w_:=by
   intro bA bB bC a_ w_ hE_ hW_ hF_ hoA_
   refine go_ _ _ _ _ ?_
   have hT_:=TT.ofW hF_ hW_
   refine N8 (i:=3) (j:=5) kz ?_ ?_
   ·
    refine (C3 hE_ (f:=14) (vs:=[lc156]) (d:=90) kz Tryz.call14 (Bw 3 _) ?_)
    rintro e_ w444 ⟨rfl,hs443⟩
    refine ⟨_,rfl,fun a445 hE446=>?_⟩
    have hW447:=hW_.next_nil hs443
    have hF448:=hW_.frN hs443
    have hT449:=TT.ofW (hF_.trans hF448) hW447
    refine ⟨fun _=>hT449,?_⟩
    exact gi_ _ _ _ _ _ kz (s8_ bA bB bC _ _ hE446.pk hW447 (hF_.trans hF448) (hoA_.move hF448.step immM hF448.to'))
   refine (Q5 (k:=0) (t:=30) (e:=5) (A:=(some ⟨bB,0,none⟩)) (c:=1) (s:=[B7 121]) (d:=92) hW_ hE_ [] rfl (by decide) (by decide) fun a450 w451 hF452 hW453 ho454 hE455=>?_)
   have ho456:=ho454 F
   have hT457:=TT.ofW (hF_.trans hF452) hW453
   refine ⟨fun _=>hT457,?_⟩
   exact gi_ _ _ _ _ _ kz (s9_ bA bB bC _ _ hE455.pk hW453 (hF_.trans hF452) (hoA_.move hF452.step immM hF452.to') ho456)
  have s14_:∀ (bA bB bC:Nat) (a_:Act) (w_:World),EnvOk 186 [⟨b64,0,[.slice A42 sSyncGroupRequestF.length c43,.int .i64 C4],true⟩,⟨b72,0,[.slice A54 sSyncGroupResponseF.length c55,.int .i64 C5],true⟩,⟨b108,0,[.int .i64 0,.slice none 0 0,.bool false,.slice AO_ kO cO_,.slice none 0 0],true⟩,⟨bC,0,[.int .i64 0,.slice none 0 0,.bool false,.slice none 0 0,.slice none 0 0],true⟩] [(3,.v (.slice D.A D.l D.c)),(11,.p 0 0),(12,.p 1 0),(13,.v (.int .i64 v_)),(14,.v (.int .i64 u_)),(19,.p 3 0),(88,.v (.slice (some ⟨bA,0,none⟩) ([B7 103].length) 1)),(92,.v (.slice (some ⟨bB,0,none⟩) ([B7 121].length) 1)),(94,.v (.agg #[.int .i64 0,.slice none 0 0,.bool true,.slice none 0 0,.slice none 0 0])),(95,.v (.agg #[.int .i64 0,.slice none 0 0,.bool true,.slice none 0 0,.slice none 0 0])),(96,.v (.agg #[.int .i64 0,.slice none 0 0,.bool true,.slice none 0 0,.slice none 0 0])),(97,.v (.agg #[.int .i64 0,.slice none 0 0,.bool false,.slice AO_ kO cO_,.slice none 0 0]))] a_ → WOk w B5 w_ [⟨b64,0,[.slice A42 sSyncGroupRequestF.length c43,.int .i64 C4],true⟩,⟨b72,0,[.slice A54 sSyncGroupResponseF.length c55,.int .i64 C5],true⟩,⟨b108,0,[.int .i64 0,.slice none 0 0,.bool false,.slice AO_ kO cO_,.slice none 0 0],true⟩,⟨bC,0,[.int .i64 0,.slice none 0 0,.bool false,.slice none 0 0,.slice none 0 0],true⟩] [] → Fr w278 [⟨b64,0,[.slice A42 sSyncGroupRequestF.length c43,.int .i64 C4],true⟩,⟨b72,0,[.slice A54 sSyncGroupResponseF.length c55,.int .i64 C5],true⟩,⟨b108,0,[.int .i64 0,.slice none 0 0,.bool false,.slice AO_ kO cO_,.slice none 0 0],true⟩] [] w_ [⟨b64,0,[.slice A42 sSyncGroupRequestF.length c43,.int .i64 C4],true⟩,⟨b72,0,[.slice A54 sSyncGroupResponseF.length c55,.int .i64 C5],true⟩,⟨b108,0,[.int .i64 0,.slice none 0 0,.bool false,.slice AO_ kO cO_,.slice none 0 0],true⟩,⟨bC,0,[.int .i64 0,.slice none 0 0,.bool false,.slice none 0 0,.slice none 0 0],true⟩] [] → Octs w_ (D4 F w w_ [⟨b64,0,[.slice A42 sSyncGroupRequestF.length c43,.int .i64 C4],true⟩,⟨b72,0,[.slice A54 sSyncGroupResponseF.length c55,.int .i64 C5],true⟩,⟨b108,0,[.int .i64 0,.slice none 0 0,.bool false,.slice AO_ kO cO_,.slice none 0 0],true⟩,⟨bC,0,[.int .i64 0,.slice none 0 0,.bool false,.slice none 0 0,.slice none 0 0],true⟩] []) (some ⟨bA,0,none⟩) 1 [B7 103] → Octs w_ (D4 F w w_ [⟨b64,0,[.slice A42 sSyncGroupRequestF.length c43,.int .i64 C4],true⟩,⟨b72,0,[.slice A54 sSyncGroupResponseF.length c55,.int .i64 C5],true⟩,⟨b108,0,[.int .i64 0,.slice none 0 0,.bool false,.slice AO_ kO cO_,.slice none 0 0],true⟩,⟨bC,0,[.int .i64 0,.slice none 0 0,.bool false,.slice none 0 0,.slice none 0 0],true⟩] []) (some ⟨bB,0,none⟩) 1 [B7 121] → G_ 6 #[true,true,false,false,true,true,false,true,true,true,true,false,false,true,false] a_ w_:=by
   intro bA bB bC a_ w_ hE_ hW_ hF_ hoA_ hoB_
   refine go_ _ _ _ _ ?_
   have hT_:=TT.ofW hF_ hW_
   refine C9 (i:=2) kz (C3 hE_ (f:=12) (vs:=(z6 bA)) (d:=89) kz Tryz.call12 (S3 (some ⟨bA,0,none⟩) ([B7 103].length) 1 _) ?_)
   rintro e_ w459 ⟨rfl,hs458⟩
   refine ⟨_,rfl,fun a460 hE461=>?_⟩
   have hW462:=hW_.next_nil hs458
   have hF463:=hW_.frN hs458
   have hT464:=TT.ofW (hF_.trans hF463) hW462
   refine ⟨fun _=>hT464,?_⟩
   exact gi_ _ _ _ _ _ kz (s9_ bA bB bC _ _ hE461.pk hW462 (hF_.trans hF463) (hoA_.move hF463.step immM hF463.to') (hoB_.move hF463.step immM hF463.to'))
  have s15_:∀ (bA:Nat) (a_:Act) (w_:World),EnvOk 186 [⟨b64,0,[.slice A42 sSyncGroupRequestF.length c43,.int .i64 C4],true⟩,⟨b72,0,[.slice A54 sSyncGroupResponseF.length c55,.int .i64 C5],true⟩,⟨b108,0,[.int .i64 0,.slice none 0 0,.bool false,.slice AO_ kO cO_,.slice none 0 0],true⟩] [(3,.v (.slice D.A D.l D.c)),(11,.p 0 0),(12,.p 1 0),(13,.v (.int .i64 v_)),(14,.v (.int .i64 u_)),(89,.v (.agg #[.int .i64 0,.slice (some ⟨bA,0,none⟩) ([B7 103].length) 1,.bool false,.slice none 0 0,.slice none 0 0])),(90,.v (.agg #[.int .i64 3,.slice none 0 0,.bool false,.slice none 0 0,.slice none 0 0])),(94,.v (.agg #[.int .i64 0,.slice none 0 0,.bool true,.slice none 0 0,.slice none 0 0])),(95,.v (.agg #[.int .i64 0,.slice none 0 0,.bool true,.slice none 0 0,.slice none 0 0])),(96,.v (.agg #[.int .i64 0,.slice none 0 0,.bool true,.slice none 0 0,.slice none 0 0])),(97,.v (.agg #[.int .i64 0,.slice none 0 0,.bool false,.slice AO_ kO cO_,.slice none 0 0]))] a_ → WOk w B5 w_ [⟨b64,0,[.slice A42 sSyncGroupRequestF.length c43,.int .i64 C4],true⟩,⟨b72,0,[.slice A54 sSyncGroupResponseF.length c55,.int .i64 C5],true⟩,⟨b108,0,[.int .i64 0,.slice none 0 0,.bool false,.slice AO_ kO cO_,.slice none 0 0],true⟩] [] → Fr w278 [⟨b64,0,[.slice A42 sSyncGroupRequestF.length c43,.int .i64 C4],true⟩,⟨b72,0,[.slice A54 sSyncGroupResponseF.length c55,.int .i64 C5],true⟩,⟨b108,0,[.int .i64 0,.slice none 0 0,.bool false,.slice AO_ kO cO_,.slice none 0 0],true⟩] [] w_ [⟨b64,0,[.slice A42 sSyncGroupRequestF.length c43,.int .i64 C4],true⟩,⟨b72,0,[.slice A54 sSyncGroupResponseF.length c55,.int .i64 C5],true⟩,⟨b108,0,[.int .i64 0,.slice none 0 0,.bool false,.slice AO_ kO cO_,.slice none 0 0],true⟩] [] → Octs w_ (D4 F w w_ [⟨b64,0,[.slice A42 sSyncGroupRequestF.length c43,.int .i64 C4],true⟩,⟨b72,0,[.slice A54 sSyncGroupResponseF.length c55,.int .i64 C5],true⟩,⟨b108,0,[.int .i64 0,.slice none 0 0,.bool false,.slice AO_ kO cO_,.slice none 0 0],true⟩] []) (some ⟨bA,0,none⟩) 1 [B7 103] → G_ 7 #[true,true,true,true,false,false,false,true,true,true,true,false,false,false,false] a_ w_:=by
   intro bA a_ w_ hE_ hW_ hF_ hoA_
   refine go_ _ _ _ _ ?_
   have hT_:=TT.ofW hF_ hW_
   refine N8 (i:=4) (j:=13) kz ?_ ?_
   ·
    refine (G4 hW_ hE_ (e:=5) (size:=1) (len:=1) (cs:=[lc157]) (d:=91) kz kz fun b465 a466 w467 hb468 hz469 hF470 hW471 hE472=>?_)
    have er473:(⟨some ⟨b465,0,none⟩,1,5,1,1,[.int .u8 121]⟩:Rw) = B6 (some ⟨b465,0,none⟩) 1 5 [B7 121]:=by first | rfl | (simp only [B6,bc,List.map,N4]; try rfl)
    obtain ⟨hW474,hF476⟩:=hW471.rowEq 0 [B6 (some ⟨b465,0,none⟩) 1 5 [B7 121]] er473
    have hE478:=EnvOk.pick hE472 (ks:=[3,11,12,13,14,94,95,96,97,89,90,91]) (env':=[le109,le112,le113,le120,le121,le125,le126,le127,le128,(89,.v (.agg #[lc140,.slice (some ⟨bA,0,none⟩) ([B7 103].length) 1,lc141,lc139,lc139])),le129,(91,.v (.slice (some ⟨b465,0,none⟩) 1 1))]) kz
    have hE477:=hE478.cast (env':=[le109,le112,le113,le120,le121,le125,le126,le127,le128,(89,.v (.agg #[lc140,.slice (some ⟨bA,0,none⟩) ([B7 103].length) 1,lc141,lc139,lc139])),le129,(91,.v (.slice (some ⟨b465,0,none⟩) ([B7 121].length) 1))]) rfl
    have hT479:=TT.ofW ((hF_.trans hF470).trans hF476) hW474
    refine ⟨fun _=>hT479,?_⟩
    exact gi_ _ _ _ _ _ kz (s10_ bA b465 _ _ hE477.pk hW474 ((hF_.trans hF470).trans hF476) (hoA_.move (hF470.trans hF476).step immM (hF470.trans hF476).to'))
   refine (D7 hW_ hE_ (d:=19) (cs:=[lc140,lc139,lc141,lc139,lc139]) kz fun b480 a481 w482 hb483 hz484 hF485 hW486 hE487=>?_)
   have hT488:=TT.ofW (hF_.trans hF485) hW486
   refine ⟨fun _=>hT488,?_⟩
   exact gi_ _ _ _ _ _ kz (s11_ bA b480 _ _ hE487.pk hW486 (hF_.trans hF485) (hoA_.move hF485.step immM hF485.to'))
  have s16_:∀ (bA bB:Nat) (a_:Act) (w_:World),EnvOk 186 [⟨b64,0,[.slice A42 sSyncGroupRequestF.length c43,.int .i64 C4],true⟩,⟨b72,0,[.slice A54 sSyncGroupResponseF.length c55,.int .i64 C5],true⟩,⟨b108,0,[.int .i64 0,.slice none 0 0,.bool false,.slice AO_ kO cO_,.slice none 0 0],true⟩] [(3,.v (.slice D.A D.l D.c)),(11,.p 0 0),(12,.p 1 0),(13,.v (.int .i64 v_)),(14,.v (.int .i64 u_)),(89,.v (.agg #[.int .i64 0,.slice (some ⟨bA,0,none⟩) ([B7 103].length) 1,.bool false,.slice none 0 0,.slice none 0 0])),(91,.v (.slice (some ⟨bB,0,none⟩) ([B7 121].length) 1)),(94,.v (.agg #[.int .i64 0,.slice none 0 0,.bool true,.slice none 0 0,.slice none 0 0])),(95,.v (.agg #[.int .i64 0,.slice none 0 0,.bool true,.slice none 0 0,.slice none 0 0])),(96,.v (.agg #[.int .i64 0,.slice none 0 0,.bool true,.slice none 0 0,.slice none 0 0])),(97,.v (.agg #[.int .i64 0,.slice none 0 0,.bool false,.slice AO_ kO cO_,.slice none 0 0]))] a_ → WOk w B5 w_ [⟨b64,0,[.slice A42 sSyncGroupRequestF.length c43,.int .i64 C4],true⟩,⟨b72,0,[.slice A54 sSyncGroupResponseF.length c55,.int .i64 C5],true⟩,⟨b108,0,[.int .i64 0,.slice none 0 0,.bool false,.slice AO_ kO cO_,.slice none 0 0],true⟩] [B6 (some ⟨bB,0,none⟩) 1 5 [B7 121]] → Fr w278 [⟨b64,0,[.slice A42 sSyncGroupRequestF.length c43,.int .i64 C4],true⟩,⟨b72,0,[.slice A54 sSyncGroupResponseF.length c55,.int .i64 C5],true⟩,⟨b108,0,[.int .i64 0,.slice none 0 0,.bool false,.slice AO_ kO cO_,.slice none 0 0],true⟩] [] w_ [⟨b64,0,[.slice A42 sSyncGroupRequestF.length c43,.int .i64 C4],true⟩,⟨b72,0,[.slice A54 sSyncGroupResponseF.length c55,.int .i64 C5],true⟩,⟨b108,0,[.int .i64 0,.slice none 0 0,.bool false,.slice AO_ kO cO_,.slice none 0 0],true⟩] [B6 (some ⟨bB,0,none⟩) 1 5 [B7 121]] → Octs w_ (D4 F w w_ [⟨b64,0,[.slice A42 sSyncGroupRequestF.length c43,.int .i64 C4],true⟩,⟨b72,0,[.slice A54 sSyncGroupResponseF.length c55,.int .i64 C5],true⟩,⟨b108,0,[.int .i64 0,.slice none 0 0,.bool false,.slice AO_ kO cO_,.slice none 0 0],true⟩] [B6 (some ⟨bB,0,none⟩) 1 5 [B7 121]]) (some ⟨bA,0,none⟩) 1 [B7 103] → G_ 7 #[true,true,true,false,true,false,false,true,true,true,true,false,false,false,false] a_ w_:=by
   intro bA bB a_ w_ hE_ hW_ hF_ hoA_
   refine go_ _ _ _ _ ?_
   have hT_:=TT.ofW hF_ hW_
   refine Bj (i:=3) (j:=5) (k:=13) kz ?_ ?_ ?_
   ·
    refine (C3 hE_ (f:=14) (vs:=[lc156]) (d:=90) kz Tryz.call14 (Bw 3 _) ?_)
    rintro e_ w490 ⟨rfl,hs489⟩
    refine ⟨_,rfl,fun a491 hE492=>?_⟩
    have hW493:=hW_.next_nil hs489
    have hF494:=hW_.frN hs489
    have hT495:=TT.ofW (hF_.trans hF494) hW493
    refine ⟨fun _=>hT495,?_⟩
    exact gi_ _ _ _ _ _ kz (s10_ bA bB _ _ hE492.pk hW493 (hF_.trans hF494) (hoA_.move hF494.step immM hF494.to'))
   ·
    refine (Q5 (k:=0) (t:=30) (e:=5) (A:=(some ⟨bB,0,none⟩)) (c:=1) (s:=[B7 121]) (d:=92) hW_ hE_ [] rfl (by decide) (by decide) fun a496 w497 hF498 hW499 ho500 hE501=>?_)
    have ho502:=ho500 F
    have hT503:=TT.ofW (hF_.trans hF498) hW499
    refine ⟨fun _=>hT503,?_⟩
    exact gi_ _ _ _ _ _ kz (s12_ bA bB _ _ hE501.pk hW499 (hF_.trans hF498) (hoA_.move hF498.step immM hF498.to') ho502)
   refine (D7 hW_ hE_ (d:=19) (cs:=[lc140,lc139,lc141,lc139,lc139]) kz fun b504 a505 w506 hb507 hz508 hF509 hW510 hE511=>?_)
   have hT512:=TT.ofW (hF_.trans hF509) hW510
   refine ⟨fun _=>hT512,?_⟩
   exact gi_ _ _ _ _ _ kz (s13_ bA bB b504 _ _ hE511.pk hW510 (hF_.trans hF509) (hoA_.move hF509.step immM hF509.to'))
  have s17_:∀ (bA bC:Nat) (a_:Act) (w_:World),EnvOk 186 [⟨b64,0,[.slice A42 sSyncGroupRequestF.length c43,.int .i64 C4],true⟩,⟨b72,0,[.slice A54 sSyncGroupResponseF.length c55,.int .i64 C5],true⟩,⟨b108,0,[.int .i64 0,.slice none 0 0,.bool false,.slice AO_ kO cO_,.slice none 0 0],true⟩,⟨bC,0,[.int .i64 0,.slice none 0 0,.bool false,.slice none 0 0,.slice none 0 0],true⟩] [(3,.v (.slice D.A D.l D.c)),(11,.p 0 0),(12,.p 1 0),(13,.v (.int .i64 v_)),(14,.v (.int .i64 u_)),(19,.p 3 0),(89,.v (.agg #[.int .i64 0,.slice (some ⟨bA,0,none⟩) ([B7 103].length) 1,.bool false,.slice none 0 0,.slice none 0 0])),(94,.v (.agg #[.int .i64 0,.slice none 0 0,.bool true,.slice none 0 0,.slice none 0 0])),(95,.v (.agg #[.int .i64 0,.slice none 0 0,.bool true,.slice none 0 0,.slice none 0 0])),(96,.v (.agg #[.int .i64 0,.slice none 0 0,.bool true,.slice none 0 0,.slice none 0 0])),(97,.v (.agg #[.int .i64 0,.slice none 0 0,.bool false,.slice AO_ kO cO_,.slice none 0 0]))] a_ → WOk w B5 w_ [⟨b64,0,[.slice A42 sSyncGroupRequestF.length c43,.int .i64 C4],true⟩,⟨b72,0,[.slice A54 sSyncGroupResponseF.length c55,.int .i64 C5],true⟩,⟨b108,0,[.int .i64 0,.slice none 0 0,.bool false,.slice AO_ kO cO_,.slice none 0 0],true⟩,⟨bC,0,[.int .i64 0,.slice none 0 0,.bool false,.slice none 0 0,.slice none 0 0],true⟩] [] → Fr w278 [⟨b64,0,[.slice A42 sSyncGroupRequestF.length c43,.int .i64 C4],true⟩,⟨b72,0,[.slice A54 sSyncGroupResponseF.length c55,.int .i64 C5],true⟩,⟨b108,0,[.int .i64 0,.slice none 0 0,.bool false,.slice AO_ kO cO_,.slice none 0 0],true⟩] [] w_ [⟨b64,0,[.slice A42 sSyncGroupRequestF.length c43,.int .i64 C4],true⟩,⟨b72,0,[.slice A54 sSyncGroupResponseF.length c55,.int .i64 C5],true⟩,⟨b108,0,[.int .i64 0,.slice none 0 0,.bool false,.slice AO_ kO cO_,.slice none 0 0],true⟩,⟨bC,0,[.int .i64 0,.slice none 0 0,.bool false,.slice none 0 0,.slice none 0 0],true⟩] [] → Octs w_ (D4 F w w_ [⟨b64,0,[.slice A42 sSyncGroupRequestF.length c43,.int .i64 C4],true⟩,⟨b72,0,[.slice A54 sSyncGroupResponseF.length c55,.int .i64 C5],true⟩,⟨b108,0,[.int .i64 0,.slice none 0 0,.bool false,.slice AO_ kO cO_,.slice none 0 0],true⟩,⟨bC,0,[.int .i64 0,.slice none 0 0,.bool false,.slice none 0 0,.slice none 0 0],true⟩] []) (some ⟨bA,0,none⟩) 1 [B7 103] → G_ 7 #[true,true,true,false,false,false,false,true,true,true,true,false,false,true,false] a_ w_:=by
   intro bA bC a_ w_ hE_ hW_ hF_ hoA_
   refine go_ _ _ _ _ ?_
   have hT_:=TT.ofW hF_ hW_
   refine N8 (i:=3) (j:=4) kz ?_ ?_
   ·
    refine (C3 hE_ (f:=14) (vs:=[lc156]) (d:=90) kz Tryz.call14 (Bw 3 _) ?_)
    rintro e_ w514 ⟨rfl,hs513⟩
    refine ⟨_,rfl,fun a515 hE516=>?_⟩
    have hW517:=hW_.next_nil hs513
    have hF518:=hW_.frN hs513
    have hT519:=TT.ofW (hF_.trans hF518) hW517
    refine ⟨fun _=>hT519,?_⟩
    exact gi_ _ _ _ _ _ kz (s11_ bA bC _ _ hE516.pk hW517 (hF_.trans hF518) (hoA_.move hF518.step immM hF518.to'))
   refine (G4 hW_ hE_ (e:=5) (size:=1) (len:=1) (cs:=[lc157]) (d:=91) kz kz fun b520 a521 w522 hb523 hz524 hF525 hW526 hE527=>?_)
   have er528:(⟨some ⟨b520,0,none⟩,1,5,1,1,[.int .u8 121]⟩:Rw) = B6 (some ⟨b520,0,none⟩) 1 5 [B7 121]:=by first | rfl | (simp only [B6,bc,List.map,N4]; try rfl)
   obtain ⟨hW529,hF531⟩:=hW526.rowEq 0 [B6 (some ⟨b520,0,none⟩) 1 5 [B7 121]] er528
   have hE533:=EnvOk.pick hE527 (ks:=[3,11,12,13,14,94,95,96,97,19,89,91]) (env':=[le109,le112,le113,le120,le121,le125,le126,le127,le128,le124,(89,.v (.agg #[lc140,.slice (some ⟨bA,0,none⟩) ([B7 103].length) 1,lc141,lc139,lc139])),(91,.v (.slice (some ⟨b520,0,none⟩) 1 1))]) kz
   have hE532:=hE533.cast (env':=[le109,le112,le113,le120,le121,le125,le126,le127,le128,le124,(89,.v (.agg #[lc140,.slice (some ⟨bA,0,none⟩) ([B7 103].length) 1,lc141,lc139,lc139])),(91,.v (.slice (some ⟨b520,0,none⟩) ([B7 121].length) 1))]) rfl
   have hT534:=TT.ofW ((hF_.trans hF525).trans hF531) hW529
   refine ⟨fun _=>hT534,?_⟩
   exact gi_ _ _ _ _ _ kz (s13_ bA b520 bC _ _ hE532.pk hW529 ((hF_.trans hF525).trans hF531) (hoA_.move (hF525.trans hF531).step immM (hF525.trans hF531).to'))
  have s18_:∀ (bA bB:Nat) (a_:Act) (w_:World),EnvOk 186 [⟨b64,0,[.slice A42 sSyncGroupRequestF.length c43,.int .i64 C4],true⟩,⟨b72,0,[.slice A54 sSyncGroupResponseF.length c55,.int .i64 C5],true⟩,⟨b108,0,[.int .i64 0,.slice none 0 0,.bool false,.slice AO_ kO cO_,.slice none 0 0],true⟩] [(3,.v (.slice D.A D.l D.c)),(11,.p 0 0),(12,.p 1 0),(13,.v (.int .i64 v_)),(14,.v (.int .i64 u_)),(88,.v (.slice (some ⟨bA,0,none⟩) ([B7 103].length) 1)),(92,.v (.slice (some ⟨bB,0,none⟩) ([B7 121].length) 1)),(94,.v (.agg #[.int .i64 0,.slice none 0 0,.bool true,.slice none 0 0,.slice none 0 0])),(95,.v (.agg #[.int .i64 0,.slice none 0 0,.bool true,.slice none 0 0,.slice none 0 0])),(96,.v (.agg #[.int .i64 0,.slice none 0 0,.bool true,.slice none 0 0,.slice none 0 0])),(97,.v (.agg #[.int .i64 0,.slice none 0 0,.bool false,.slice AO_ kO cO_,.slice none 0 0]))] a_ → WOk w B5 w_ [⟨b64,0,[.slice A42 sSyncGroupRequestF.length c43,.int .i64 C4],true⟩,⟨b72,0,[.slice A54 sSyncGroupResponseF.length c55,.int .i64 C5],true⟩,⟨b108,0,[.int .i64 0,.slice none 0 0,.bool false,.slice AO_ kO cO_,.slice none 0 0],true⟩] [] → Fr w278 [⟨b64,0,[.slice A42 sSyncGroupRequestF.length c43,.int .i64 C4],true⟩,⟨b72,0,[.slice A54 sSyncGroupResponseF.length c55,.int .i64 C5],true⟩,⟨b108,0,[.int .i64 0,.slice none 0 0,.bool false,.slice AO_ kO cO_,.slice none 0 0],true⟩] [] w_ [⟨b64,0,[.slice A42 sSyncGroupRequestF.length c43,.int .i64 C4],true⟩,⟨b72,0,[.slice A54 sSyncGroupResponseF.length c55,.int .i64 C5],true⟩,⟨b108,0,[.int .i64 0,.slice none 0 0,.bool false,.slice AO_ kO cO_,.slice none 0 0],true⟩] [] → Octs w_ (D4 F w w_ [⟨b64,0,[.slice A42 sSyncGroupRequestF.length c43,.int .i64 C4],true⟩,⟨b72,0,[.slice A54 sSyncGroupResponseF.length c55,.int .i64 C5],true⟩,⟨b108,0,[.int .i64 0,.slice none 0 0,.bool false,.slice AO_ kO cO_,.slice none 0 0],true⟩] []) (some ⟨bA,0,none⟩) 1 [B7 103] → Octs w_ (D4 F w w_ [⟨b64,0,[.slice A42 sSyncGroupRequestF.length c43,.int .i64 C4],true⟩,⟨b72,0,[.slice A54 sSyncGroupResponseF.length c55,.int .i64 C5],true⟩,⟨b108,0,[.int .i64 0,.slice none 0 0,.bool false,.slice AO_ kO cO_,.slice none 0 0],true⟩] []) (some ⟨bB,0,none⟩) 1 [B7 121] → G_ 7 #[true,true,false,false,true,true,false,true,true,true,true,false,false,false,false] a_ w_:=by
   intro bA bB a_ w_ hE_ hW_ hF_ hoA_ hoB_
   refine go_ _ _ _ _ ?_
   have hT_:=TT.ofW hF_ hW_
   refine N8 (i:=2) (j:=13) kz ?_ ?_
   ·
    refine (C3 hE_ (f:=12) (vs:=(z6 bA)) (d:=89) kz Tryz.call12 (S3 (some ⟨bA,0,none⟩) ([B7 103].length) 1 _) ?_)
    rintro e_ w536 ⟨rfl,hs535⟩
    refine ⟨_,rfl,fun a537 hE538=>?_⟩
    have hW539:=hW_.next_nil hs535
    have hF540:=hW_.frN hs535
    have hT541:=TT.ofW (hF_.trans hF540) hW539
    refine ⟨fun _=>hT541,?_⟩
    exact gi_ _ _ _ _ _ kz (s12_ bA bB _ _ hE538.pk hW539 (hF_.trans hF540) (hoA_.move hF540.step immM hF540.to') (hoB_.move hF540.step immM hF540.to'))
   refine (D7 hW_ hE_ (d:=19) (cs:=[lc140,lc139,lc141,lc139,lc139]) kz fun b542 a543 w544 hb545 hz546 hF547 hW548 hE549=>?_)
   have hT550:=TT.ofW (hF_.trans hF547) hW548
   refine ⟨fun _=>hT550,?_⟩
   exact gi_ _ _ _ _ _ kz (s14_ bA bB b542 _ _ hE549.pk hW548 (hF_.trans hF547) (hoA_.move hF547.step immM hF547.to') (hoB_.move hF547.step immM hF547.to'))
  have s19_:∀ (bA bB bC:Nat) (a_:Act) (w_:World),EnvOk 186 [⟨b64,0,[.slice A42 sSyncGroupRequestF.length c43,.int .i64 C4],true⟩,⟨b72,0,[.slice A54 sSyncGroupResponseF.length c55,.int .i64 C5],true⟩,⟨b108,0,[.int .i64 0,.slice none 0 0,.bool false,.slice AO_ kO cO_,.slice none 0 0],true⟩,⟨bC,0,[.int .i64 0,.slice none 0 0,.bool false,.slice none 0 0,.slice none 0 0],true⟩] [(3,.v (.slice D.A D.l D.c)),(11,.p 0 0),(12,.p 1 0),(13,.v (.int .i64 v_)),(14,.v (.int .i64 u_)),(19,.p 3 0),(88,.v (.slice (some ⟨bA,0,none⟩) ([B7 103].length) 1)),(91,.v (.slice (some ⟨bB,0,none⟩) ([B7 121].length) 1)),(94,.v (.agg #[.int .i64 0,.slice none 0 0,.bool true,.slice none 0 0,.slice none 0 0])),(95,.v (.agg #[.int .i64 0,.slice none 0 0,.bool true,.slice none 0 0,.slice none 0 0])),(96,.v (.agg #[.int .i64 0,.slice none 0 0,.bool true,.slice none 0 0,.slice none 0 0])),(97,.v (.agg #[.int .i64 0,.slice none 0 0,.bool false,.slice AO_ kO cO_,.slice none 0 0]))] a_ → WOk w B5 w_ [⟨b64,0,[.slice A42 sSyncGroupRequestF.length c43,.int .i64 C4],true⟩,⟨b72,0,[.slice A54 sSyncGroupResponseF.length c55,.int .i64 C5],true⟩,⟨b108,0,[.int .i64 0,.slice none 0 0,.bool false,.slice AO_ kO cO_,.slice none 0 0],true⟩,⟨bC,0,[.int .i64 0,.slice none 0 0,.bool false,.slice none 0 0,.slice none 0 0],true⟩] [B6 (some ⟨bB,0,none⟩) 1 5 [B7 121]] → Fr w278 [⟨b64,0,[.slice A42 sSyncGroupRequestF.length c43,.int .i64 C4],true⟩,⟨b72,0,[.slice A54 sSyncGroupResponseF.length c55,.int .i64 C5],true⟩,⟨b108,0,[.int .i64 0,.slice none 0 0,.bool false,.slice AO_ kO cO_,.slice none 0 0],true⟩] [] w_ [⟨b64,0,[.slice A42 sSyncGroupRequestF.length c43,.int .i64 C4],true⟩,⟨b72,0,[.slice A54 sSyncGroupResponseF.length c55,.int .i64 C5],true⟩,⟨b108,0,[.int .i64 0,.slice none 0 0,.bool false,.slice AO_ kO cO_,.slice none 0 0],true⟩,⟨bC,0,[.int .i64 0,.slice none 0 0,.bool false,.slice none 0 0,.slice none 0 0],true⟩] [B6 (some ⟨bB,0,none⟩) 1 5 [B7 121]] → Octs w_ (D4 F w w_ [⟨b64,0,[.slice A42 sSyncGroupRequestF.length c43,.int .i64 C4],true⟩,⟨b72,0,[.slice A54 sSyncGroupResponseF.length c55,.int .i64 C5],true⟩,⟨b108,0,[.int .i64 0,.slice none 0 0,.bool false,.slice AO_ kO cO_,.slice none 0 0],true⟩,⟨bC,0,[.int .i64 0,.slice none 0 0,.bool false,.slice none 0 0,.slice none 0 0],true⟩] [B6 (some ⟨bB,0,none⟩) 1 5 [B7 121]]) (some ⟨bA,0,none⟩) 1 [B7 103] → G_ 7 #[true,true,false,false,true,false,false,true,true,true,true,false,false,true,false] a_ w_:=by
   intro bA bB bC a_ w_ hE_ hW_ hF_ hoA_
   refine go_ _ _ _ _ ?_
   have hT_:=TT.ofW hF_ hW_
   refine N8 (i:=2) (j:=5) kz ?_ ?_
   ·
    refine (C3 hE_ (f:=12) (vs:=(z6 bA)) (d:=89) kz Tryz.call12 (S3 (some ⟨bA,0,none⟩) ([B7 103].length) 1 _) ?_)
    rintro e_ w552 ⟨rfl,hs551⟩
    refine ⟨_,rfl,fun a553 hE554=>?_⟩
    have hW555:=hW_.next_nil hs551
    have hF556:=hW_.frN hs551
    have hT557:=TT.ofW (hF_.trans hF556) hW555
    refine ⟨fun _=>hT557,?_⟩
    exact gi_ _ _ _ _ _ kz (s13_ bA bB bC _ _ hE554.pk hW555 (hF_.trans hF556) (hoA_.move hF556.step immM hF556.to'))
   refine (Q5 (k:=0) (t:=30) (e:=5) (A:=(some ⟨bB,0,none⟩)) (c:=1) (s:=[B7 121]) (d:=92) hW_ hE_ [] rfl (by decide) (by decide) fun a558 w559 hF560 hW561 ho562 hE563=>?_)
   have ho564:=ho562 F
   have hT565:=TT.ofW (hF_.trans hF560) hW561
   refine ⟨fun _=>hT565,?_⟩
   exact gi_ _ _ _ _ _ kz (s14_ bA bB bC _ _ hE563.pk hW561 (hF_.trans hF560) (hoA_.move hF560.step immM hF560.to') ho564)
  have s20_:∀ (bA bB bC:Nat) (a_:Act) (w_:World),EnvOk 186 [⟨b64,0,[.slice A42 sSyncGroupRequestF.length c43,.int .i64 C4],true⟩,⟨b72,0,[.slice A54 sSyncGroupResponseF.length c55,.int .i64 C5],true⟩,⟨b108,0,[.int .i64 0,.slice none 0 0,.bool false,.slice AO_ kO cO_,.slice none 0 0],true⟩,⟨bC,0,[.int .i64 0,.slice none 0 0,.bool false,.slice none 0 0,.slice none 0 0],true⟩] [(3,.v (.slice D.A D.l D.c)),(11,.p 0 0),(12,.p 1 0),(13,.v (.int .i64 v_)),(14,.v (.int .i64 u_)),(19,.p 3 0),(87,.v (.slice (some ⟨bA,0,none⟩) ([B7 103].length) 1)),(92,.v (.slice (some ⟨bB,0,none⟩) ([B7 121].length) 1)),(94,.v (.agg #[.int .i64 0,.slice none 0 0,.bool true,.slice none 0 0,.slice none 0 0])),(95,.v (.agg #[.int .i64 0,.slice none 0 0,.bool true,.slice none 0 0,.slice none 0 0])),(96,.v (.agg #[.int .i64 0,.slice none 0 0,.bool true,.slice none 0 0,.slice none 0 0])),(97,.v (.agg #[.int .i64 0,.slice none 0 0,.bool false,.slice AO_ kO cO_,.slice none 0 0]))] a_ → WOk w B5 w_ [⟨b64,0,[.slice A42 sSyncGroupRequestF.length c43,.int .i64 C4],true⟩,⟨b72,0,[.slice A54 sSyncGroupResponseF.length c55,.int .i64 C5],true⟩,⟨b108,0,[.int .i64 0,.slice none 0 0,.bool false,.slice AO_ kO cO_,.slice none 0 0],true⟩,⟨bC,0,[.int .i64 0,.slice none 0 0,.bool false,.slice none 0 0,.slice none 0 0],true⟩] [B6 (some ⟨bA,0,none⟩) 1 5 [B7 103]] → Fr w278 [⟨b64,0,[.slice A42 sSyncGroupRequestF.length c43,.int .i64 C4],true⟩,⟨b72,0,[.slice A54 sSyncGroupResponseF.length c55,.int .i64 C5],true⟩,⟨b108,0,[.int .i64 0,.slice none 0 0,.bool false,.slice AO_ kO cO_,.slice none 0 0],true⟩] [] w_ [⟨b64,0,[.slice A42 sSyncGroupRequestF.length c43,.int .i64 C4],true⟩,⟨b72,0,[.slice A54 sSyncGroupResponseF.length c55,.int .i64 C5],true⟩,⟨b108,0,[.int .i64 0,.slice none 0 0,.bool false,.slice AO_ kO cO_,.slice none 0 0],true⟩,⟨bC,0,[.int .i64 0,.slice none 0 0,.bool false,.slice none 0 0,.slice none 0 0],true⟩] [B6 (some ⟨bA,0,none⟩) 1 5 [B7 103]] → Octs w_ (D4 F w w_ [⟨b64,0,[.slice A42 sSyncGroupRequestF.length c43,.int .i64 C4],true⟩,⟨b72,0,[.slice A54 sSyncGroupResponseF.length c55,.int .i64 C5],true⟩,⟨b108,0,[.int .i64 0,.slice none 0 0,.bool false,.slice AO_ kO cO_,.slice none 0 0],true⟩,⟨bC,0,[.int .i64 0,.slice none 0 0,.bool false,.slice none 0 0,.slice none 0 0],true⟩] [B6 (some ⟨bA,0,none⟩) 1 5 [B7 103]]) (some ⟨bB,0,none⟩) 1 [B7 121] → G_ 7 #[true,false,false,false,true,true,false,true,true,true,true,false,false,true,false] a_ w_:=by
   intro bA bB bC a_ w_ hE_ hW_ hF_ hoB_
   refine go_ _ _ _ _ ?_
   have hT_:=TT.ofW hF_ hW_
   refine C9 (i:=1) kz (Q5 (k:=0) (t:=30) (e:=5) (A:=(some ⟨bA,0,none⟩)) (c:=1) (s:=[B7 103]) (d:=88) hW_ hE_ [] rfl (by decide) (by decide) fun a566 w567 hF568 hW569 ho570 hE571=>?_)
   have ho572:=ho570 F
   have hT573:=TT.ofW (hF_.trans hF568) hW569
   refine ⟨fun _=>hT573,?_⟩
   exact gi_ _ _ _ _ _ kz (s14_ bA bB bC _ _ hE571.pk hW569 (hF_.trans hF568) ho572 (hoB_.move hF568.step immM hF568.to'))
  have s21_:∀ (bA:Nat) (a_:Act) (w_:World),EnvOk 186 [⟨b64,0,[.slice A42 sSyncGroupRequestF.length c43,.int .i64 C4],true⟩,⟨b72,0,[.slice A54 sSyncGroupResponseF.length c55,.int .i64 C5],true⟩,⟨b108,0,[.int .i64 0,.slice none 0 0,.bool false,.slice AO_ kO cO_,.slice none 0 0],true⟩] [(3,.v (.slice D.A D.l D.c)),(11,.p 0 0),(12,.p 1 0),(13,.v (.int .i64 v_)),(14,.v (.int .i64 u_)),(89,.v (.agg #[.int .i64 0,.slice (some ⟨bA,0,none⟩) ([B7 103].length) 1,.bool false,.slice none 0 0,.slice none 0 0])),(94,.v (.agg #[.int .i64 0,.slice none 0 0,.bool true,.slice none 0 0,.slice none 0 0])),(95,.v (.agg #[.int .i64 0,.slice none 0 0,.bool true,.slice none 0 0,.slice none 0 0])),(96,.v (.agg #[.int .i64 0,.slice none 0 0,.bool true,.slice none 0 0,.slice none 0 0])),(97,.v (.agg #[.int .i64 0,.slice none 0 0,.bool false,.slice AO_ kO cO_,.slice none 0 0]))] a_ → WOk w B5 w_ [⟨b64,0,[.slice A42 sSyncGroupRequestF.length c43,.int .i64 C4],true⟩,⟨b72,0,[.slice A54 sSyncGroupResponseF.length c55,.int .i64 C5],true⟩,⟨b108,0,[.int .i64 0,.slice none 0 0,.bool false,.slice AO_ kO cO_,.slice none 0 0],true⟩] [] → Fr w278 [⟨b64,0,[.slice A42 sSyncGroupRequestF.length c43,.int .i64 C4],true⟩,⟨b72,0,[.slice A54 sSyncGroupResponseF.length c55,.int .i64 C5],true⟩,⟨b108,0,[.int .i64 0,.slice none 0 0,.bool false,.slice AO_ kO cO_,.slice none 0 0],true⟩] [] w_ [⟨b64,0,[.slice A42 sSyncGroupRequestF.length c43,.int .i64 C4],true⟩,⟨b72,0,[.slice A54 sSyncGroupResponseF.length c55,.int .i64 C5],true⟩,⟨b108,0,[.int .i64 0,.slice none 0 0,.bool false,.slice AO_ kO cO_,.slice none 0 0],true⟩] [] → Octs w_ (D4 F w w_ [⟨b64,0,[.slice A42 sSyncGroupRequestF.length c43,.int .i64 C4],true⟩,⟨b72,0,[.slice A54 sSyncGroupResponseF.length c55,.int .i64 C5],true⟩,⟨b108,0,[.int .i64 0,.slice none 0 0,.bool false,.slice AO_ kO cO_,.slice none 0 0],true⟩] []) (some ⟨bA,0,none⟩) 1 [B7 103] → G_ 8 #[true,true,true,false,false,false,false,true,true,true,true,false,false,false,false] a_ w_:=by
   intro bA a_ w_ hE_ hW_ hF_ hoA_
   refine go_ _ _ _ _ ?_
   have hT_:=TT.ofW hF_ hW_
   refine Bj (i:=3) (j:=4) (k:=13) kz ?_ ?_ ?_
   ·
    refine (C3 hE_ (f:=14) (vs:=[lc156]) (d:=90) kz Tryz.call14 (Bw 3 _) ?_)
    rintro e_ w575 ⟨rfl,hs574⟩
    refine ⟨_,rfl,fun a576 hE577=>?_⟩
    have hW578:=hW_.next_nil hs574
    have hF579:=hW_.frN hs574
    have hT580:=TT.ofW (hF_.trans hF579) hW578
    refine ⟨fun _=>hT580,?_⟩
    exact gi_ _ _ _ _ _ kz (s15_ bA _ _ hE577.pk hW578 (hF_.trans hF579) (hoA_.move hF579.step immM hF579.to'))
   ·
    refine (G4 hW_ hE_ (e:=5) (size:=1) (len:=1) (cs:=[lc157]) (d:=91) kz kz fun b581 a582 w583 hb584 hz585 hF586 hW587 hE588=>?_)
    have er589:(⟨some ⟨b581,0,none⟩,1,5,1,1,[.int .u8 121]⟩:Rw) = B6 (some ⟨b581,0,none⟩) 1 5 [B7 121]:=by first | rfl | (simp only [B6,bc,List.map,N4]; try rfl)
    obtain ⟨hW590,hF592⟩:=hW587.rowEq 0 [B6 (some ⟨b581,0,none⟩) 1 5 [B7 121]] er589
    have hE594:=EnvOk.pick hE588 (ks:=[3,11,12,13,14,94,95,96,97,89,91]) (env':=[le109,le112,le113,le120,le121,le125,le126,le127,le128,(89,.v (.agg #[lc140,.slice (some ⟨bA,0,none⟩) ([B7 103].length) 1,lc141,lc139,lc139])),(91,.v (.slice (some ⟨b581,0,none⟩) 1 1))]) kz
    have hE593:=hE594.cast (env':=[le109,le112,le113,le120,le121,le125,le126,le127,le128,(89,.v (.agg #[lc140,.slice (some ⟨bA,0,none⟩) ([B7 103].length) 1,lc141,lc139,lc139])),(91,.v (.slice (some ⟨b581,0,none⟩) ([B7 121].length) 1))]) rfl
    have hT595:=TT.ofW ((hF_.trans hF586).trans hF592) hW590
    refine ⟨fun _=>hT595,?_⟩
    exact gi_ _ _ _ _ _ kz (s16_ bA b581 _ _ hE593.pk hW590 ((hF_.trans hF586).trans hF592) (hoA_.move (hF586.trans hF592).step immM (hF586.trans hF592).to'))
   refine (D7 hW_ hE_ (d:=19) (cs:=[lc140,lc139,lc141,lc139,lc139]) kz fun b596 a597 w598 hb599 hz600 hF601 hW602 hE603=>?_)
   have hT604:=TT.ofW (hF_.trans hF601) hW602
   refine ⟨fun _=>hT604,?_⟩
   exact gi_ _ _ _ _ _ kz (s17_ bA b596 _ _ hE603.pk hW602 (hF_.trans hF601) (hoA_.move hF601.step immM hF601.to'))
  have s22_:∀ (bA bB:Nat) (a_:Act) (w_:World),EnvOk 186 [⟨b64,0,[.slice A42 sSyncGroupRequestF.length c43,.int .i64 C4],true⟩,⟨b72,0,[.slice A54 sSyncGroupResponseF.length c55,.int .i64 C5],true⟩,⟨b108,0,[.int .i64 0,.slice none 0 0,.bool false,.slice AO_ kO cO_,.slice none 0 0],true⟩] [(3,.v (.slice D.A D.l D.c)),(11,.p 0 0),(12,.p 1 0),(13,.v (.int .i64 v_)),(14,.v (.int .i64 u_)),(88,.v (.slice (some ⟨bA,0,none⟩) ([B7 103].length) 1)),(91,.v (.slice (some ⟨bB,0,none⟩) ([B7 121].length) 1)),(94,.v (.agg #[.int .i64 0,.slice none 0 0,.bool true,.slice none 0 0,.slice none 0 0])),(95,.v (.agg #[.int .i64 0,.slice none 0 0,.bool true,.slice none 0 0,.slice none 0 0])),(96,.v (.agg #[.int .i64 0,.slice none 0 0,.bool true,.slice none 0 0,.slice none 0 0])),(97,.v (.agg #[.int .i64 0,.slice none 0 0,.bool false,.slice AO_ kO cO_,.slice none 0 0]))] a_ → WOk w B5 w_ [⟨b64,0,[.slice A42 sSyncGroupRequestF.length c43,.int .i64 C4],true⟩,⟨b72,0,[.slice A54 sSyncGroupResponseF.length c55,.int .i64 C5],true⟩,⟨b108,0,[.int .i64 0,.slice none 0 0,.bool false,.slice AO_ kO cO_,.slice none 0 0],true⟩] [B6 (some ⟨bB,0,none⟩) 1 5 [B7 121]] → Fr w278 [⟨b64,0,[.slice A42 sSyncGroupRequestF.length c43,.int .i64 C4],true⟩,⟨b72,0,[.slice A54 sSyncGroupResponseF.length c55,.int .i64 C5],true⟩,⟨b108,0,[.int .i64 0,.slice none 0 0,.bool false,.slice AO_ kO cO_,.slice none 0 0],true⟩] [] w_ [⟨b64,0,[.slice A42 sSyncGroupRequestF.length c43,.int .i64 C4],true⟩,⟨b72,0,[.slice A54 sSyncGroupResponseF.length c55,.int .i64 C5],true⟩,⟨b108,0,[.int .i64 0,.slice none 0 0,.bool false,.slice AO_ kO cO_,.slice none 0 0],true⟩] [B6 (some ⟨bB,0,none⟩) 1 5 [B7 121]] → Octs w_ (D4 F w w_ [⟨b64,0,[.slice A42 sSyncGroupRequestF.length c43,.int .i64 C4],true⟩,⟨b72,0,[.slice A54 sSyncGroupResponseF.length c55,.int .i64 C5],true⟩,⟨b108,0,[.int .i64 0,.slice none 0 0,.bool false,.slice AO_ kO cO_,.slice none 0 0],true⟩] [B6 (some ⟨bB,0,none⟩) 1 5 [B7 121]]) (some ⟨bA,0,none⟩) 1 [B7 103] → G_ 8 #[true,true,false,false,true,false,false,true,true,true,true,false,false,false,false] a_ w_:=by
   intro bA bB a_ w_ hE_ hW_ hF_ hoA_
   refine go_ _ _ _ _ ?_
   have hT_:=TT.ofW hF_ hW_
   refine Bj (i:=2) (j:=5) (k:=13) kz ?_ ?_ ?_
   ·
    refine (C3 hE_ (f:=12) (vs:=(z6 bA)) (d:=89) kz Tryz.call12 (S3 (some ⟨bA,0,none⟩) ([B7 103].length) 1 _) ?_)
    rintro e_ w606 ⟨rfl,hs605⟩
    refine ⟨_,rfl,fun a607 hE608=>?_⟩
    have hW609:=hW_.next_nil hs605
    have hF610:=hW_.frN hs605
    have hT611:=TT.ofW (hF_.trans hF610) hW609
    refine ⟨fun _=>hT611,?_⟩
    exact gi_ _ _ _ _ _ kz (s16_ bA bB _ _ hE608.pk hW609 (hF_.trans hF610) (hoA_.move hF610.step immM hF610.to'))
   ·
    refine (Q5 (k:=0) (t:=30) (e:=5) (A:=(some ⟨bB,0,none⟩)) (c:=1) (s:=[B7 121]) (d:=92) hW_ hE_ [] rfl (by decide) (by decide) fun a612 w613 hF614 hW615 ho616 hE617=>?_)
    have ho618:=ho616 F
    have hT619:=TT.ofW (hF_.trans hF614) hW615
    refine ⟨fun _=>hT619,?_⟩
    exact gi_ _ _ _ _ _ kz (s18_ bA bB _ _ hE617.pk hW615 (hF_.trans hF614) (hoA_.move hF614.step immM hF614.to') ho618)
   refine (D7 hW_ hE_ (d:=19) (cs:=[lc140,lc139,lc141,lc139,lc139]) kz fun b620 a621 w622 hb623 hz624 hF625 hW626 hE627=>?_)
   have hT628:=TT.ofW (hF_.trans hF625) hW626
   refine ⟨fun _=>hT628,?_⟩
   exact gi_ _ _ _ _ _ kz (s19_ bA bB b620 _ _ hE627.pk hW626 (hF_.trans hF625) (hoA_.move hF625.step immM hF625.to'))
  have s23_:∀ (bA bC:Nat) (a_:Act) (w_:World),EnvOk 186 [⟨b64,0,[.slice A42 sSyncGroupRequestF.length c43,.int .i64 C4],true⟩,⟨b72,0,[.slice A54 sSyncGroupResponseF.length c55,.int .i64 C5],true⟩,⟨b108,0,[.int .i64 0,.slice none 0 0,.bool false,.slice AO_ kO cO_,.slice none 0 0],true⟩,⟨bC,0,[.int .i64 0,.slice none 0 0,.bool false,.slice none 0 0,.slice none 0 0],true⟩] [(3,.v (.slice D.A D.l D.c)),(11,.p 0 0),(12,.p 1 0),(13,.v (.int .i64 v_)),(14,.v (.int .i64 u_)),(19,.p 3 0),(88,.v (.slice (some ⟨bA,0,none⟩) ([B7 103].length) 1)),(94,.v (.agg #[.int .i64 0,.slice none 0 0,.bool true,.slice none 0 0,.slice none 0 0])),(95,.v (.agg #[.int .i64 0,.slice none 0 0,.bool true,.slice none 0 0,.slice none 0 0])),(96,.v (.agg #[.int .i64 0,.slice none 0 0,.bool true,.slice none 0 0,.slice none 0 0])),(97,.v (.agg #[.int .i64 0,.slice none 0 0,.bool false,.slice AO_ kO cO_,.slice none 0 0]))] a_ → WOk w B5 w_ [⟨b64,0,[.slice A42 sSyncGroupRequestF.length c43,.int .i64 C4],true⟩,⟨b72,0,[.slice A54 sSyncGroupResponseF.length c55,.int .i64 C5],true⟩,⟨b108,0,[.int .i64 0,.slice none 0 0,.bool false,.slice AO_ kO cO_,.slice none 0 0],true⟩,⟨bC,0,[.int .i64 0,.slice none 0 0,.bool false,.slice none 0 0,.slice none 0 0],true⟩] [] → Fr w278 [⟨b64,0,[.slice A42 sSyncGroupRequestF.length c43,.int .i64 C4],true⟩,⟨b72,0,[.slice A54 sSyncGroupResponseF.length c55,.int .i64 C5],true⟩,⟨b108,0,[.int .i64 0,.slice none 0 0,.bool false,.slice AO_ kO cO_,.slice none 0 0],true⟩] [] w_ [⟨b64,0,[.slice A42 sSyncGroupRequestF.length c43,.int .i64 C4],true⟩,⟨b72,0,[.slice A54 sSyncGroupResponseF.length c55,.int .i64 C5],true⟩,⟨b108,0,[.int .i64 0,.slice none 0 0,.bool false,.slice AO_ kO cO_,.slice none 0 0],true⟩,⟨bC,0,[.int .i64 0,.slice none 0 0,.bool false,.slice none 0 0,.slice none 0 0],true⟩] [] → Octs w_ (D4 F w w_ [⟨b64,0,[.slice A42 sSyncGroupRequestF.length c43,.int .i64 C4],true⟩,⟨b72,0,[.slice A54 sSyncGroupResponseF.length c55,.int .i64 C5],true⟩,⟨b108,0,[.int .i64 0,.slice none 0 0,.bool false,.slice AO_ kO cO_,.slice none 0 0],true⟩,⟨bC,0,[.int .i64 0,.slice none 0 0,.bool false,.slice none 0 0,.slice none 0 0],true⟩] []) (some ⟨bA,0,none⟩) 1 [B7 103] → G_ 8 #[true,true,false,false,false,false,false,true,true,true,true,false,false,true,false] a_ w_:=by
   intro bA bC a_ w_ hE_ hW_ hF_ hoA_
   refine go_ _ _ _ _ ?_
   have hT_:=TT.ofW hF_ hW_
   refine N8 (i:=2) (j:=4) kz ?_ ?_
   ·
    refine (C3 hE_ (f:=12) (vs:=(z6 bA)) (d:=89) kz Tryz.call12 (S3 (some ⟨bA,0,none⟩) ([B7 103].length) 1 _) ?_)
    rintro e_ w630 ⟨rfl,hs629⟩
    refine ⟨_,rfl,fun a631 hE632=>?_⟩
    have hW633:=hW_.next_nil hs629
    have hF634:=hW_.frN hs629
    have hT635:=TT.ofW (hF_.trans hF634) hW633
    refine ⟨fun _=>hT635,?_⟩
    exact gi_ _ _ _ _ _ kz (s17_ bA bC _ _ hE632.pk hW633 (hF_.trans hF634) (hoA_.move hF634.step immM hF634.to'))
   refine (G4 hW_ hE_ (e:=5) (size:=1) (len:=1) (cs:=[lc157]) (d:=91) kz kz fun b636 a637 w638 hb639 hz640 hF641 hW642 hE643=>?_)
   have er644:(⟨some ⟨b636,0,none⟩,1,5,1,1,[.int .u8 121]⟩:Rw) = B6 (some ⟨b636,0,none⟩) 1 5 [B7 121]:=by first | rfl | (simp only [B6,bc,List.map,N4]; try rfl)
   obtain ⟨hW645,hF647⟩:=hW642.rowEq 0 [B6 (some ⟨b636,0,none⟩) 1 5 [B7 121]] er644
   have hE649:=EnvOk.pick hE643 (ks:=[3,11,12,13,14,94,95,96,97,19,88,91]) (env':=[le109,le112,le113,le120,le121,le125,le126,le127,le128,le124,(88,.v (.slice (some ⟨bA,0,none⟩) ([B7 103].length) 1)),(91,.v (.slice (some ⟨b636,0,none⟩) 1 1))]) kz
   have hE648:=hE649.cast (env':=[le109,le112,le113,le120,le121,le125,le126,le127,le128,le124,(88,.v (.slice (some ⟨bA,0,none⟩) ([B7 103].length) 1)),(91,.v (.slice (some ⟨b636,0,none⟩) ([B7 121].length) 1))]) rfl
   have hT650:=TT.ofW ((hF_.trans hF641).trans hF647) hW645
   refine ⟨fun _=>hT650,?_⟩
   exact gi_ _ _ _ _ _ kz (s19_ bA b636 bC _ _ hE648.pk hW645 ((hF_.trans hF641).trans hF647) (hoA_.move (hF641.trans hF647).step immM (hF641.trans hF647).to'))
  have s24_:∀ (bA bB:Nat) (a_:Act) (w_:World),EnvOk 186 [⟨b64,0,[.slice A42 sSyncGroupRequestF.length c43,.int .i64 C4],true⟩,⟨b72,0,[.slice A54 sSyncGroupResponseF.length c55,.int .i64 C5],true⟩,⟨b108,0,[.int .i64 0,.slice none 0 0,.bool false,.slice AO_ kO cO_,.slice none 0 0],true⟩] [(3,.v (.slice D.A D.l D.c)),(11,.p 0 0),(12,.p 1 0),(13,.v (.int .i64 v_)),(14,.v (.int .i64 u_)),(87,.v (.slice (some ⟨bA,0,none⟩) ([B7 103].length) 1)),(92,.v (.slice (some ⟨bB,0,none⟩) ([B7 121].length) 1)),(94,.v (.agg #[.int .i64 0,.slice none 0 0,.bool true,.slice none 0 0,.slice none 0 0])),(95,.v (.agg #[.int .i64 0,.slice none 0 0,.bool true,.slice none 0 0,.slice none 0 0])),(96,.v (.agg #[.int .i64 0,.slice none 0 0,.bool true,.slice none 0 0,.slice none 0 0])),(97,.v (.agg #[.int .i64 0,.slice none 0 0,.bool false,.slice AO_ kO cO_,.slice none 0 0]))] a_ → WOk w B5 w_ [⟨b64,0,[.slice A42 sSyncGroupRequestF.length c43,.int .i64 C4],true⟩,⟨b72,0,[.slice A54 sSyncGroupResponseF.length c55,.int .i64 C5],true⟩,⟨b108,0,[.int .i64 0,.slice none 0 0,.bool false,.slice AO_ kO cO_,.slice none 0 0],true⟩] [B6 (some ⟨bA,0,none⟩) 1 5 [B7 103]] → Fr w278 [⟨b64,0,[.slice A42 sSyncGroupRequestF.length c43,.int .i64 C4],true⟩,⟨b72,0,[.slice A54 sSyncGroupResponseF.length c55,.int .i64 C5],true⟩,⟨b108,0,[.int .i64 0,.slice none 0 0,.bool false,.slice AO_ kO cO_,.slice none 0 0],true⟩] [] w_ [⟨b64,0,[.slice A42 sSyncGroupRequestF.length c43,.int .i64 C4],true⟩,⟨b72,0,[.slice A54 sSyncGroupResponseF.length c55,.int .i64 C5],true⟩,⟨b108,0,[.int .i64 0,.slice none 0 0,.bool false,.slice AO_ kO cO_,.slice none 0 0],true⟩] [B6 (some ⟨bA,0,none⟩) 1 5 [B7 103]] → Octs w_ (D4 F w w_ [⟨b64,0,[.slice A42 sSyncGroupRequestF.length c43,.int .i64 C4],true⟩,⟨b72,0,[.slice A54 sSyncGroupResponseF.length c55,.int .i64 C5],true⟩,⟨b108,0,[.int .i64 0,.slice none 0 0,.bool false,.slice AO_ kO cO_,.slice none 0 0],true⟩] [B6 (some ⟨bA,0,none⟩) 1 5 [B7 103]]) (some ⟨bB,0,none⟩) 1 [B7 121] → G_ 8 #[true,false,false,false,true,true,false,true,true,true,true,false,false,false,false] a_ w_:=by
   intro bA bB a_ w_ hE_ hW_ hF_ hoB_
   refine go_ _ _ _ _ ?_
   have hT_:=TT.ofW hF_ hW_
   refine N8 (i:=1) (j:=13) kz ?_ ?_
   ·
    refine (Q5 (k:=0) (t:=30) (e:=5) (A:=(some ⟨bA,0,none⟩)) (c:=1) (s:=[B7 103]) (d:=88) hW_ hE_ [] rfl (by decide) (by decide) fun a651 w652 hF653 hW654 ho655 hE656=>?_)
    have ho657:=ho655 F
    have hT658:=TT.ofW (hF_.trans hF653) hW654
    refine ⟨fun _=>hT658,?_⟩
    exact gi_ _ _ _ _ _ kz (s18_ bA bB _ _ hE656.pk hW654 (hF_.trans hF653) ho657 (hoB_.move hF653.step immM hF653.to'))
   refine (D7 hW_ hE_ (d:=19) (cs:=[lc140,lc139,lc141,lc139,lc139]) kz fun b659 a660 w661 hb662 hz663 hF664 hW665 hE666=>?_)
   have hT667:=TT.ofW (hF_.trans hF664) hW665
   refine ⟨fun _=>hT667,?_⟩
   exact gi_ _ _ _ _ _ kz (s20_ bA bB b659 _ _ hE666.pk hW665 (hF_.trans hF664) (hoB_.move hF664.step immM hF664.to'))
  have s25_:∀ (bA bB bC:Nat) (a_:Act) (w_:World),EnvOk 186 [⟨b64,0,[.slice A42 sSyncGroupRequestF.length c43,.int .i64 C4],true⟩,⟨b72,0,[.slice A54 sSyncGroupResponseF.length c55,.int .i64 C5],true⟩,⟨b108,0,[.int .i64 0,.slice none 0 0,.bool false,.slice AO_ kO cO_,.slice none 0 0],true⟩,⟨bC,0,[.int .i64 0,.slice none 0 0,.bool false,.slice none 0 0,.slice none 0 0],true⟩] [(3,.v (.slice D.A D.l D.c)),(11,.p 0 0),(12,.p 1 0),(13,.v (.int .i64 v_)),(14,.v (.int .i64 u_)),(19,.p 3 0),(87,.v (.slice (some ⟨bA,0,none⟩) ([B7 103].length) 1)),(91,.v (.slice (some ⟨bB,0,none⟩) ([B7 121].length) 1)),(94,.v (.agg #[.int .i64 0,.slice none 0 0,.bool true,.slice none 0 0,.slice none 0 0])),(95,.v (.agg #[.int .i64 0,.slice none 0 0,.bool true,.slice none 0 0,.slice none 0 0])),(96,.v (.agg #[.int .i64 0,.slice none 0 0,.bool true,.slice none 0 0,.slice none 0 0])),(97,.v (.agg #[.int .i64 0,.slice none 0 0,.bool false,.slice AO_ kO cO_,.slice none 0 0]))] a_ → WOk w B5 w_ [⟨b64,0,[.slice A42 sSyncGroupRequestF.length c43,.int .i64 C4],true⟩,⟨b72,0,[.slice A54 sSyncGroupResponseF.length c55,.int .i64 C5],true⟩,⟨b108,0,[.int .i64 0,.slice none 0 0,.bool false,.slice AO_ kO cO_,.slice none 0 0],true⟩,⟨bC,0,[.int .i64 0,.slice none 0 0,.bool false,.slice none 0 0,.slice none 0 0],true⟩] [B6 (some ⟨bA,0,none⟩) 1 5 [B7 103],B6 (some ⟨bB,0,none⟩) 1 5 [B7 121]] → Fr w278 [⟨b64,0,[.slice A42 sSyncGroupRequestF.length c43,.int .i64 C4],true⟩,⟨b72,0,[.slice A54 sSyncGroupResponseF.length c55,.int .i64 C5],true⟩,⟨b108,0,[.int .i64 0,.slice none 0 0,.bool false,.slice AO_ kO cO_,.slice none 0 0],true⟩] [] w_ [⟨b64,0,[.slice A42 sSyncGroupRequestF.length c43,.int .i64 C4],true⟩,⟨b72,0,[.slice A54 sSyncGroupResponseF.length c55,.int .i64 C5],true⟩,⟨b108,0,[.int .i64 0,.slice none 0 0,.bool false,.slice AO_ kO cO_,.slice none 0 0],true⟩,⟨bC,0,[.int .i64 0,.slice none 0 0,.bool false,.slice none 0 0,.slice none 0 0],true⟩] [B6 (some ⟨bA,0,none⟩) 1 5 [B7 103],B6 (some ⟨bB,0,none⟩) 1 5 [B7 121]] → G_ 8 #[true,false,false,false,true,false,false,true,true,true,true,false,false,true,false] a_ w_:=by
   intro bA bB bC a_ w_ hE_ hW_ hF_
   refine go_ _ _ _ _ ?_
   have hT_:=TT.ofW hF_ hW_
   refine N8 (i:=1) (j:=5) kz ?_ ?_
   ·
    refine (Q5 (k:=0) (t:=30) (e:=5) (A:=(some ⟨bA,0,none⟩)) (c:=1) (s:=[B7 103]) (d:=88) hW_ hE_ [B6 (some ⟨bB,0,none⟩) 1 5 [B7 121]] rfl (by decide) (by decide) fun a668 w669 hF670 hW671 ho672 hE673=>?_)
    have ho674:=ho672 F
    have hT675:=TT.ofW (hF_.trans hF670) hW671
    refine ⟨fun _=>hT675,?_⟩
    exact gi_ _ _ _ _ _ kz (s19_ bA bB bC _ _ hE673.pk hW671 (hF_.trans hF670) ho674)
   refine (Q5 (k:=1) (t:=30) (e:=5) (A:=(some ⟨bB,0,none⟩)) (c:=1) (s:=[B7 121]) (d:=92) hW_ hE_ [B6 (some ⟨bA,0,none⟩) 1 5 [B7 103]] rfl (by decide) (by decide) fun a676 w677 hF678 hW679 ho680 hE681=>?_)
   have ho682:=ho680 F
   have hT683:=TT.ofW (hF_.trans hF678) hW679
   refine ⟨fun _=>hT683,?_⟩
   exact gi_ _ _ _ _ _ kz (s20_ bA bB bC _ _ hE681.pk hW679 (hF_.trans hF678) ho682)
  let lc158:Value:=.int .u8 103
  have s26_:∀ (bB bC:Nat) (a_:Act) (w_:World),EnvOk 186 [⟨b64,0,[.slice A42 sSyncGroupRequestF.length c43,.int .i64 C4],true⟩,⟨b72,0,[.slice A54 sSyncGroupResponseF.length c55,.int .i64 C5],true⟩,⟨b108,0,[.int .i64 0,.slice none 0 0,.bool false,.slice AO_ kO cO_,.slice none 0 0],true⟩,⟨bC,0,[.int .i64 0,.slice none 0 0,.bool false,.slice none 0 0,.slice none 0 0],true⟩] [(3,.v (.slice D.A D.l D.c)),(11,.p 0 0),(12,.p 1 0),(13,.v (.int .i64 v_)),(14,.v (.int .i64 u_)),(19,.p 3 0),(92,.v (.slice (some ⟨bB,0,none⟩) ([B7 121].length) 1)),(94,.v (.agg #[.int .i64 0,.slice none 0 0,.bool true,.slice none 0 0,.slice none 0 0])),(95,.v (.agg #[.int .i64 0,.slice none 0 0,.bool true,.slice none 0 0,.slice none 0 0])),(96,.v (.agg #[.int .i64 0,.slice none 0 0,.bool true,.slice none 0 0,.slice none 0 0])),(97,.v (.agg #[.int .i64 0,.slice none 0 0,.bool false,.slice AO_ kO cO_,.slice none 0 0]))] a_ → WOk w B5 w_ [⟨b64,0,[.slice A42 sSyncGroupRequestF.length c43,.int .i64 C4],true⟩,⟨b72,0,[.slice A54 sSyncGroupResponseF.length c55,.int .i64 C5],true⟩,⟨b108,0,[.int .i64 0,.slice none 0 0,.bool false,.slice AO_ kO cO_,.slice none 0 0],true⟩,⟨bC,0,[.int .i64 0,.slice none 0 0,.bool false,.slice none 0 0,.slice none 0 0],true⟩] [] → Fr w278 [⟨b64,0,[.slice A42 sSyncGroupRequestF.length c43,.int .i64 C4],true⟩,⟨b72,0,[.slice A54 sSyncGroupResponseF.length c55,.int .i64 C5],true⟩,⟨b108,0,[.int .i64 0,.slice none 0 0,.bool false,.slice AO_ kO cO_,.slice none 0 0],true⟩] [] w_ [⟨b64,0,[.slice A42 sSyncGroupRequestF.length c43,.int .i64 C4],true⟩,⟨b72,0,[.slice A54 sSyncGroupResponseF.length c55,.int .i64 C5],true⟩,⟨b108,0,[.int .i64 0,.slice none 0 0,.bool false,.slice AO_ kO cO_,.slice none 0 0],true⟩,⟨bC,0,[.int .i64 0,.slice none 0 0,.bool false,.slice none 0 0,.slice none 0 0],true⟩] [] → Octs w_ (D4 F w w_ [⟨b64,0,[.slice A42 sSyncGroupRequestF.length c43,.int .i64 C4],true⟩,⟨b72,0,[.slice A54 sSyncGroupResponseF.length c55,.int .i64 C5],true⟩,⟨b108,0,[.int .i64 0,.slice none 0 0,.bool false,.slice AO_ kO cO_,.slice none 0 0],true⟩,⟨bC,0,[.int .i64 0,.slice none 0 0,.bool false,.slice none 0 0,.slice none 0 0],true⟩] []) (some ⟨bB,0,none⟩) 1 [B7 121] → G_ 8 #[false,false,false,false,true,true,false,true,true,true,true,false,false,true,false] a_ w_:=by
   intro bB bC a_ w_ hE_ hW_ hF_ hoB_
   refine go_ _ _ _ _ ?_
   have hT_:=TT.ofW hF_ hW_
   refine C9 (i:=0) kz (G4 hW_ hE_ (e:=5) (size:=1) (len:=1) (cs:=[lc158]) (d:=87) kz kz fun b684 a685 w686 hb687 hz688 hF689 hW690 hE691=>?_)
   have er692:(⟨some ⟨b684,0,none⟩,1,5,1,1,[.int .u8 103]⟩:Rw) = B6 (some ⟨b684,0,none⟩) 1 5 [B7 103]:=by first | rfl | (simp only [B6,bc,List.map,N4]; try rfl)
   obtain ⟨hW693,hF695⟩:=hW690.rowEq 0 [B6 (some ⟨b684,0,none⟩) 1 5 [B7 103]] er692
   have hE697:=EnvOk.pick hE691 (ks:=[3,11,12,13,14,94,95,96,97,19,92,87]) (env':=[le109,le112,le113,le120,le121,le125,le126,le127,le128,le124,(92,.v (.slice (some ⟨bB,0,none⟩) ([B7 121].length) 1)),(87,.v (.slice (some ⟨b684,0,none⟩) 1 1))]) kz
   have hE696:=hE697.cast (env':=[le109,le112,le113,le120,le121,le125,le126,le127,le128,le124,(92,.v (.slice (some ⟨bB,0,none⟩) ([B7 121].length) 1)),(87,.v (.slice (some ⟨b684,0,none⟩) ([B7 103].length) 1))]) rfl
   have hT698:=TT.ofW ((hF_.trans hF689).trans hF695) hW693
   refine ⟨fun _=>hT698,?_⟩
   exact gi_ _ _ _ _ _ kz (s20_ b684 bB bC _ _ hE696.pk hW693 ((hF_.trans hF689).trans hF695) (hoB_.move (hF689.trans hF695).step immM (hF689.trans hF695).to'))
  have s27_:∀ (bA:Nat) (a_:Act) (w_:World),EnvOk 186 [⟨b64,0,[.slice A42 sSyncGroupRequestF.length c43,.int .i64 C4],true⟩,⟨b72,0,[.slice A54 sSyncGroupResponseF.length c55,.int .i64 C5],true⟩,⟨b108,0,[.int .i64 0,.slice none 0 0,.bool false,.slice AO_ kO cO_,.slice none 0 0],true⟩] [(3,.v (.slice D.A D.l D.c)),(11,.p 0 0),(12,.p 1 0),(13,.v (.int .i64 v_)),(14,.v (.int .i64 u_)),(88,.v (.slice (some ⟨bA,0,none⟩) ([B7 103].length) 1)),(94,.v (.agg #[.int .i64 0,.slice none 0 0,.bool true,.slice none 0 0,.slice none 0 0])),(95,.v (.agg #[.int .i64 0,.slice none 0 0,.bool true,.slice none 0 0,.slice none 0 0])),(96,.v (.agg #[.int .i64 0,.slice none 0 0,.bool true,.slice none 0 0,.slice none 0 0])),(97,.v (.agg #[.int .i64 0,.slice none 0 0,.bool false,.slice AO_ kO cO_,.slice none 0 0]))] a_ → WOk w B5 w_ [⟨b64,0,[.slice A42 sSyncGroupRequestF.length c43,.int .i64 C4],true⟩,⟨b72,0,[.slice A54 sSyncGroupResponseF.length c55,.int .i64 C5],true⟩,⟨b108,0,[.int .i64 0,.slice none 0 0,.bool false,.slice AO_ kO cO_,.slice none 0 0],true⟩] [] → Fr w278 [⟨b64,0,[.slice A42 sSyncGroupRequestF.length c43,.int .i64 C4],true⟩,⟨b72,0,[.slice A54 sSyncGroupResponseF.length c55,.int .i64 C5],true⟩,⟨b108,0,[.int .i64 0,.slice none 0 0,.bool false,.slice AO_ kO cO_,.slice none 0 0],true⟩] [] w_ [⟨b64,0,[.slice A42 sSyncGroupRequestF.length c43,.int .i64 C4],true⟩,⟨b72,0,[.slice A54 sSyncGroupResponseF.length c55,.int .i64 C5],true⟩,⟨b108,0,[.int .i64 0,.slice none 0 0,.bool false,.slice AO_ kO cO_,.slice none 0 0],true⟩] [] → Octs w_ (D4 F w w_ [⟨b64,0,[.slice A42 sSyncGroupRequestF.length c43,.int .i64 C4],true⟩,⟨b72,0,[.slice A54 sSyncGroupResponseF.length c55,.int .i64 C5],true⟩,⟨b108,0,[.int .i64 0,.slice none 0 0,.bool false,.slice AO_ kO cO_,.slice none 0 0],true⟩] []) (some ⟨bA,0,none⟩) 1 [B7 103] → G_ 9 #[true,true,false,false,false,false,false,true,true,true,true,false,false,false,false] a_ w_:=by
   intro bA a_ w_ hE_ hW_ hF_ hoA_
   refine go_ _ _ _ _ ?_
   have hT_:=TT.ofW hF_ hW_
   refine Bj (i:=2) (j:=4) (k:=13) kz ?_ ?_ ?_
   ·
    refine (C3 hE_ (f:=12) (vs:=(z6 bA)) (d:=89) kz Tryz.call12 (S3 (some ⟨bA,0,none⟩) ([B7 103].length) 1 _) ?_)
    rintro e_ w700 ⟨rfl,hs699⟩
    refine ⟨_,rfl,fun a701 hE702=>?_⟩
    have hW703:=hW_.next_nil hs699
    have hF704:=hW_.frN hs699
    have hT705:=TT.ofW (hF_.trans hF704) hW703
    refine ⟨fun _=>hT705,?_⟩
    exact gi_ _ _ _ _ _ kz (s21_ bA _ _ hE702.pk hW703 (hF_.trans hF704) (hoA_.move hF704.step immM hF704.to'))
   ·
    refine (G4 hW_ hE_ (e:=5) (size:=1) (len:=1) (cs:=[lc157]) (d:=91) kz kz fun b706 a707 w708 hb709 hz710 hF711 hW712 hE713=>?_)
    have er714:(⟨some ⟨b706,0,none⟩,1,5,1,1,[.int .u8 121]⟩:Rw) = B6 (some ⟨b706,0,none⟩) 1 5 [B7 121]:=by first | rfl | (simp only [B6,bc,List.map,N4]; try rfl)
    obtain ⟨hW715,hF717⟩:=hW712.rowEq 0 [B6 (some ⟨b706,0,none⟩) 1 5 [B7 121]] er714
    have hE719:=EnvOk.pick hE713 (ks:=[3,11,12,13,14,94,95,96,97,88,91]) (env':=[le109,le112,le113,le120,le121,le125,le126,le127,le128,(88,.v (.slice (some ⟨bA,0,none⟩) ([B7 103].length) 1)),(91,.v (.slice (some ⟨b706,0,none⟩) 1 1))]) kz
    have hE718:=hE719.cast (env':=[le109,le112,le113,le120,le121,le125,le126,le127,le128,(88,.v (.slice (some ⟨bA,0,none⟩) ([B7 103].length) 1)),(91,.v (.slice (some ⟨b706,0,none⟩) ([B7 121].length) 1))]) rfl
    have hT720:=TT.ofW ((hF_.trans hF711).trans hF717) hW715
    refine ⟨fun _=>hT720,?_⟩
    exact gi_ _ _ _ _ _ kz (s22_ bA b706 _ _ hE718.pk hW715 ((hF_.trans hF711).trans hF717) (hoA_.move (hF711.trans hF717).step immM (hF711.trans hF717).to'))
   refine (D7 hW_ hE_ (d:=19) (cs:=[lc140,lc139,lc141,lc139,lc139]) kz fun b721 a722 w723 hb724 hz725 hF726 hW727 hE728=>?_)
   have hT729:=TT.ofW (hF_.trans hF726) hW727
   refine ⟨fun _=>hT729,?_⟩
   exact gi_ _ _ _ _ _ kz (s23_ bA b721 _ _ hE728.pk hW727 (hF_.trans hF726) (hoA_.move hF726.step immM hF726.to'))
  have s28_:∀ (bA bB:Nat) (a_:Act) (w_:World),EnvOk 186 [⟨b64,0,[.slice A42 sSyncGroupRequestF.length c43,.int .i64 C4],true⟩,⟨b72,0,[.slice A54 sSyncGroupResponseF.length c55,.int .i64 C5],true⟩,⟨b108,0,[.int .i64 0,.slice none 0 0,.bool false,.slice AO_ kO cO_,.slice none 0 0],true⟩] [(3,.v (.slice D.A D.l D.c)),(11,.p 0 0),(12,.p 1 0),(13,.v (.int .i64 v_)),(14,.v (.int .i64 u_)),(87,.v (.slice (some ⟨bA,0,none⟩) ([B7 103].length) 1)),(91,.v (.slice (some ⟨bB,0,none⟩) ([B7 121].length) 1)),(94,.v (.agg #[.int .i64 0,.slice none 0 0,.bool true,.slice none 0 0,.slice none 0 0])),(95,.v (.agg #[.int .i64 0,.slice none 0 0,.bool true,.slice none 0 0,.slice none 0 0])),(96,.v (.agg #[.int .i64 0,.slice none 0 0,.bool true,.slice none 0 0,.slice none 0 0])),(97,.v (.agg #[.int .i64 0,.slice none 0 0,.bool false,.slice AO_ kO cO_,.slice none 0 0]))] a_ → WOk w B5 w_ [⟨b64,0,[.slice A42 sSyncGroupRequestF.length c43,.int .i64 C4],true⟩,⟨b72,0,[.slice A54 sSyncGroupResponseF.length c55,.int .i64 C5],true⟩,⟨b108,0,[.int .i64 0,.slice none 0 0,.bool false,.slice AO_ kO cO_,.slice none 0 0],true⟩] [B6 (some ⟨bA,0,none⟩) 1 5 [B7 103],B6 (some ⟨bB,0,none⟩) 1 5 [B7 121]] → Fr w278 [⟨b64,0,[.slice A42 sSyncGroupRequestF.length c43,.int .i64 C4],true⟩,⟨b72,0,[.slice A54 sSyncGroupResponseF.length c55,.int .i64 C5],true⟩,⟨b108,0,[.int .i64 0,.slice none 0 0,.bool false,.slice AO_ kO cO_,.slice none 0 0],true⟩] [] w_ [⟨b64,0,[.slice A42 sSyncGroupRequestF.length c43,.int .i64 C4],true⟩,⟨b72,0,[.slice A54 sSyncGroupResponseF.length c55,.int .i64 C5],true⟩,⟨b108,0,[.int .i64 0,.slice none 0 0,.bool false,.slice AO_ kO cO_,.slice none 0 0],true⟩] [B6 (some ⟨bA,0,none⟩) 1 5 [B7 103],B6 (some ⟨bB,0,none⟩) 1 5 [B7 121]] → G_ 9 #[true,false,false,false,true,false,false,true,true,true,true,false,false,false,false] a_ w_:=by
   intro bA bB a_ w_ hE_ hW_ hF_
   refine go_ _ _ _ _ ?_
   have hT_:=TT.ofW hF_ hW_
   refine Bj (i:=1) (j:=5) (k:=13) kz ?_ ?_ ?_
   ·
    refine (Q5 (k:=0) (t:=30) (e:=5) (A:=(some ⟨bA,0,none⟩)) (c:=1) (s:=[B7 103]) (d:=88) hW_ hE_ [B6 (some ⟨bB,0,none⟩) 1 5 [B7 121]] rfl (by decide) (by decide) fun a730 w731 hF732 hW733 ho734 hE735=>?_)
    have ho736:=ho734 F
    have hT737:=TT.ofW (hF_.trans hF732) hW733
    refine ⟨fun _=>hT737,?_⟩
    exact gi_ _ _ _ _ _ kz (s22_ bA bB _ _ hE735.pk hW733 (hF_.trans hF732) ho736)
   ·
    refine (Q5 (k:=1) (t:=30) (e:=5) (A:=(some ⟨bB,0,none⟩)) (c:=1) (s:=[B7 121]) (d:=92) hW_ hE_ [B6 (some ⟨bA,0,none⟩) 1 5 [B7 103]] rfl (by decide) (by decide) fun a738 w739 hF740 hW741 ho742 hE743=>?_)
    have ho744:=ho742 F
    have hT745:=TT.ofW (hF_.trans hF740) hW741
    refine ⟨fun _=>hT745,?_⟩
    exact gi_ _ _ _ _ _ kz (s24_ bA bB _ _ hE743.pk hW741 (hF_.trans hF740) ho744)
   refine (D7 hW_ hE_ (d:=19) (cs:=[lc140,lc139,lc141,lc139,lc139]) kz fun b746 a747 w748 hb749 hz750 hF751 hW752 hE753=>?_)
   have hT754:=TT.ofW (hF_.trans hF751) hW752
   refine ⟨fun _=>hT754,?_⟩
   exact gi_ _ _ _ _ _ kz (s25_ bA bB b746 _ _ hE753.pk hW752 (hF_.trans hF751))
  have s29_:∀ (bA bC:Nat) (a_:Act) (w_:World),EnvOk 186 [⟨b64,0,[.slice A42 sSyncGroupRequestF.length c43,.int .i64 C4],true⟩,⟨b72,0,[.slice A54 sSyncGroupResponseF.length c55,.int .i64 C5],true⟩,⟨b108,0,[.int .i64 0,.slice none 0 0,.bool false,.slice AO_ kO cO_,.slice none 0 0],true⟩,⟨bC,0,[.int .i64 0,.slice none 0 0,.bool false,.slice none 0 0,.slice none 0 0],true⟩] [(3,.v (.slice D.A D.l D.c)),(11,.p 0 0),(12,.p 1 0),(13,.v (.int .i64 v_)),(14,.v (.int .i64 u_)),(19,.p 3 0),(87,.v (.slice (some ⟨bA,0,none⟩) ([B7 103].length) 1)),(94,.v (.agg #[.int .i64 0,.slice none 0 0,.bool true,.slice none 0 0,.slice none 0 0])),(95,.v (.agg #[.int .i64 0,.slice none 0 0,.bool true,.slice none 0 0,.slice none 0 0])),(96,.v (.agg #[.int .i64 0,.slice none 0 0,.bool true,.slice none 0 0,.slice none 0 0])),(97,.v (.agg #[.int .i64 0,.slice none 0 0,.bool false,.slice AO_ kO cO_,.slice none 0 0]))] a_ → WOk w B5 w_ [⟨b64,0,[.slice A42 sSyncGroupRequestF.length c43,.int .i64 C4],true⟩,⟨b72,0,[.slice A54 sSyncGroupResponseF.length c55,.int .i64 C5],true⟩,⟨b108,0,[.int .i64 0,.slice none 0 0,.bool false,.slice AO_ kO cO_,.slice none 0 0],true⟩,⟨bC,0,[.int .i64 0,.slice none 0 0,.bool false,.slice none 0 0,.slice none 0 0],true⟩] [B6 (some ⟨bA,0,none⟩) 1 5 [B7 103]] → Fr w278 [⟨b64,0,[.slice A42 sSyncGroupRequestF.length c43,.int .i64 C4],true⟩,⟨b72,0,[.slice A54 sSyncGroupResponseF.length c55,.int .i64 C5],true⟩,⟨b108,0,[.int .i64 0,.slice none 0 0,.bool false,.slice AO_ kO cO_,.slice none 0 0],true⟩] [] w_ [⟨b64,0,[.slice A42 sSyncGroupRequestF.length c43,.int .i64 C4],true⟩,⟨b72,0,[.slice A54 sSyncGroupResponseF.length c55,.int .i64 C5],true⟩,⟨b108,0,[.int .i64 0,.slice none 0 0,.bool false,.slice AO_ kO cO_,.slice none 0 0],true⟩,⟨bC,0,[.int .i64 0,.slice none 0 0,.bool false,.slice none 0 0,.slice none 0 0],true⟩] [B6 (some ⟨bA,0,none⟩) 1 5 [B7 103]] → G_ 9 #[true,false,false,false,false,false,false,true,true,true,true,false,false,true,false] a_ w_:=by
   intro bA bC a_ w_ hE_ hW_ hF_
   refine go_ _ _ _ _ ?_
   have hT_:=TT.ofW hF_ hW_
   refine N8 (i:=1) (j:=4) kz ?_ ?_
   ·
    refine (Q5 (k:=0) (t:=30) (e:=5) (A:=(some ⟨bA,0,none⟩)) (c:=1) (s:=[B7 103]) (d:=88) hW_ hE_ [] rfl (by decide) (by decide) fun a755 w756 hF757 hW758 ho759 hE760=>?_)
    have ho761:=ho759 F
    have hT762:=TT.ofW (hF_.trans hF757) hW758
    refine ⟨fun _=>hT762,?_⟩
    exact gi_ _ _ _ _ _ kz (s23_ bA bC _ _ hE760.pk hW758 (hF_.trans hF757) ho761)
   refine (G4 hW_ hE_ (e:=5) (size:=1) (len:=1) (cs:=[lc157]) (d:=91) kz kz fun b763 a764 w765 hb766 hz767 hF768 hW769 hE770=>?_)
   have er771:(⟨some ⟨b763,0,none⟩,1,5,1,1,[.int .u8 121]⟩:Rw) = B6 (some ⟨b763,0,none⟩) 1 5 [B7 121]:=by first | rfl | (simp only [B6,bc,List.map,N4]; try rfl)
   obtain ⟨hW772,hF774⟩:=hW769.rowEq 1 [B6 (some ⟨bA,0,none⟩) 1 5 [B7 103],B6 (some ⟨b763,0,none⟩) 1 5 [B7 121]] er771
   have hE776:=EnvOk.pick hE770 (ks:=[3,11,12,13,14,94,95,96,97,19,87,91]) (env':=[le109,le112,le113,le120,le121,le125,le126,le127,le128,le124,(87,.v (.slice (some ⟨bA,0,none⟩) ([B7 103].length) 1)),(91,.v (.slice (some ⟨b763,0,none⟩) 1 1))]) kz
   have hE775:=hE776.cast (env':=[le109,le112,le113,le120,le121,le125,le126,le127,le128,le124,(87,.v (.slice (some ⟨bA,0,none⟩) ([B7 103].length) 1)),(91,.v (.slice (some ⟨b763,0,none⟩) ([B7 121].length) 1))]) rfl
   have hT777:=TT.ofW ((hF_.trans hF768).trans hF774) hW772
   refine ⟨fun _=>hT777,?_⟩
   exact gi_ _ _ _ _ _ kz (s25_ bA b763 bC _ _ hE775.pk hW772 ((hF_.trans hF768).trans hF774))
  have s30_:∀ (bB:Nat) (a_:Act) (w_:World),EnvOk 186 [⟨b64,0,[.slice A42 sSyncGroupRequestF.length c43,.int .i64 C4],true⟩,⟨b72,0,[.slice A54 sSyncGroupResponseF.length c55,.int .i64 C5],true⟩,⟨b108,0,[.int .i64 0,.slice none 0 0,.bool false,.slice AO_ kO cO_,.slice none 0 0],true⟩] [(3,.v (.slice D.A D.l D.c)),(11,.p 0 0),(12,.p 1 0),(13,.v (.int .i64 v_)),(14,.v (.int .i64 u_)),(92,.v (.slice (some ⟨bB,0,none⟩) ([B7 121].length) 1)),(94,.v (.agg #[.int .i64 0,.slice none 0 0,.bool true,.slice none 0 0,.slice none 0 0])),(95,.v (.agg #[.int .i64 0,.slice none 0 0,.bool true,.slice none 0 0,.slice none 0 0])),(96,.v (.agg #[.int .i64 0,.slice none 0 0,.bool true,.slice none 0 0,.slice none 0 0])),(97,.v (.agg #[.int .i64 0,.slice none 0 0,.bool false,.slice AO_ kO cO_,.slice none 0 0]))] a_ → WOk w B5 w_ [⟨b64,0,[.slice A42 sSyncGroupRequestF.length c43,.int .i64 C4],true⟩,⟨b72,0,[.slice A54 sSyncGroupResponseF.length c55,.int .i64 C5],true⟩,⟨b108,0,[.int .i64 0,.slice none 0 0,.bool false,.slice AO_ kO cO_,.slice none 0 0],true⟩] [] → Fr w278 [⟨b64,0,[.slice A42 sSyncGroupRequestF.length c43,.int .i64 C4],true⟩,⟨b72,0,[.slice A54 sSyncGroupResponseF.length c55,.int .i64 C5],true⟩,⟨b108,0,[.int .i64 0,.slice none 0 0,.bool false,.slice AO_ kO cO_,.slice none 0 0],true⟩] [] w_ [⟨b64,0,[.slice A42 sSyncGroupRequestF.length c43,.int .i64 C4],true⟩,⟨b72,0,[.slice A54 sSyncGroupResponseF.length c55,.int .i64 C5],true⟩,⟨b108,0,[.int .i64 0,.slice none 0 0,.bool false,.slice AO_ kO cO_,.slice none 0 0],true⟩] [] → Octs w_ (D4 F w w_ [⟨b64,0,[.slice A42 sSyncGroupRequestF.length c43,.int .i64 C4],true⟩,⟨b72,0,[.slice A54 sSyncGroupResponseF.length c55,.int .i64 C5],true⟩,⟨b108,0,[.int .i64 0,.slice none 0 0,.bool false,.slice AO_ kO cO_,.slice none 0 0],true⟩] []) (some ⟨bB,0,none⟩) 1 [B7 121] → G_ 9 #[false,false,false,false,true,true,false,true,true,true,true,false,false,false,false] a_ w_:=by
   intro bB a_ w_ hE_ hW_ hF_ hoB_
   refine go_ _ _ _ _ ?_
   have hT_:=TT.ofW hF_ hW_
   refine N8 (i:=0) (j:=13) kz ?_ ?_
   ·
    refine (G4 hW_ hE_ (e:=5) (size:=1) (len:=1) (cs:=[lc158]) (d:=87) kz kz fun b778 a779 w780 hb781 hz782 hF783 hW784 hE785=>?_)
    have er786:(⟨some ⟨b778,0,none⟩,1,5,1,1,[.int .u8 103]⟩:Rw) = B6 (some ⟨b778,0,none⟩) 1 5 [B7 103]:=by first | rfl | (simp only [B6,bc,List.map,N4]; try rfl)
    obtain ⟨hW787,hF789⟩:=hW784.rowEq 0 [B6 (some ⟨b778,0,none⟩) 1 5 [B7 103]] er786
    have hE791:=EnvOk.pick hE785 (ks:=[3,11,12,13,14,94,95,96,97,92,87]) (env':=[le109,le112,le113,le120,le121,le125,le126,le127,le128,(92,.v (.slice (some ⟨bB,0,none⟩) ([B7 121].length) 1)),(87,.v (.slice (some ⟨b778,0,none⟩) 1 1))]) kz
    have hE790:=hE791.cast (env':=[le109,le112,le113,le120,le121,le125,le126,le127,le128,(92,.v (.slice (some ⟨bB,0,none⟩) ([B7 121].length) 1)),(87,.v (.slice (some ⟨b778,0,none⟩) ([B7 103].length) 1))]) rfl
    have hT792:=TT.ofW ((hF_.trans hF783).trans hF789) hW787
    refine ⟨fun _=>hT792,?_⟩
    exact gi_ _ _ _ _ _ kz (s24_ b778 bB _ _ hE790.pk hW787 ((hF_.trans hF783).trans hF789) (hoB_.move (hF783.trans hF789).step immM (hF783.trans hF789).to'))
   refine (D7 hW_ hE_ (d:=19) (cs:=[lc140,lc139,lc141,lc139,lc139]) kz fun b793 a794 w795 hb796 hz797 hF798 hW799 hE800=>?_)
   have hT801:=TT.ofW (hF_.trans hF798) hW799
   refine ⟨fun _=>hT801,?_⟩
   exact gi_ _ _ _ _ _ kz (s26_ bB b793 _ _ hE800.pk hW799 (hF_.trans hF798) (hoB_.move hF798.step immM hF798.to'))
  have s31_:∀ (bB bC:Nat) (a_:Act) (w_:World),EnvOk 186 [⟨b64,0,[.slice A42 sSyncGroupRequestF.length c43,.int .i64 C4],true⟩,⟨b72,0,[.slice A54 sSyncGroupResponseF.length c55,.int .i64 C5],true⟩,⟨b108,0,[.int .i64 0,.slice none 0 0,.bool false,.slice AO_ kO cO_,.slice none 0 0],true⟩,⟨bC,0,[.int .i64 0,.slice none 0 0,.bool false,.slice none 0 0,.slice none 0 0],true⟩] [(3,.v (.slice D.A D.l D.c)),(11,.p 0 0),(12,.p 1 0),(13,.v (.int .i64 v_)),(14,.v (.int .i64 u_)),(19,.p 3 0),(91,.v (.slice (some ⟨bB,0,none⟩) ([B7 121].length) 1)),(94,.v (.agg #[.int .i64 0,.slice none 0 0,.bool true,.slice none 0 0,.slice none 0 0])),(95,.v (.agg #[.int .i64 0,.slice none 0 0,.bool true,.slice none 0 0,.slice none 0 0])),(96,.v (.agg #[.int .i64 0,.slice none 0 0,.bool true,.slice none 0 0,.slice none 0 0])),(97,.v (.agg #[.int .i64 0,.slice none 0 0,.bool false,.slice AO_ kO cO_,.slice none 0 0]))] a_ → WOk w B5 w_ [⟨b64,0,[.slice A42 sSyncGroupRequestF.length c43,.int .i64 C4],true⟩,⟨b72,0,[.slice A54 sSyncGroupResponseF.length c55,.int .i64 C5],true⟩,⟨b108,0,[.int .i64 0,.slice none 0 0,.bool false,.slice AO_ kO cO_,.slice none 0 0],true⟩,⟨bC,0,[.int .i64 0,.slice none 0 0,.bool false,.slice none 0 0,.slice none 0 0],true⟩] [B6 (some ⟨bB,0,none⟩) 1 5 [B7 121]] → Fr w278 [⟨b64,0,[.slice A42 sSyncGroupRequestF.length c43,.int .i64 C4],true⟩,⟨b72,0,[.slice A54 sSyncGroupResponseF.length c55,.int .i64 C5],true⟩,⟨b108,0,[.int .i64 0,.slice none 0 0,.bool false,.slice AO_ kO cO_,.slice none 0 0],true⟩] [] w_ [⟨b64,0,[.slice A42 sSyncGroupRequestF.length c43,.int .i64 C4],true⟩,⟨b72,0,[.slice A54 sSyncGroupResponseF.length c55,.int .i64 C5],true⟩,⟨b108,0,[.int .i64 0,.slice none 0 0,.bool false,.slice AO_ kO cO_,.slice none 0 0],true⟩,⟨bC,0,[.int .i64 0,.slice none 0 0,.bool false,.slice none 0 0,.slice none 0 0],true⟩] [B6 (some ⟨bB,0,none⟩) 1 5 [B7 121]] → G_ 9 #[false,false,false,false,true,false,false,true,true,true,true,false,false,true,false] a_ w_:=by
   intro bB bC a_ w_ hE_ hW_ hF_
   refine go_ _ _ _ _ ?_
   have hT_:=TT.ofW hF_ hW_
   refine N8 (i:=0) (j:=5) kz ?_ ?_
   ·
    refine (G4 hW_ hE_ (e:=5) (size:=1) (len:=1) (cs:=[lc158]) (d:=87) kz kz fun b802 a803 w804 hb805 hz806 hF807 hW808 hE809=>?_)
    have er810:(⟨some ⟨b802,0,none⟩,1,5,1,1,[.int .u8 103]⟩:Rw) = B6 (some ⟨b802,0,none⟩) 1 5 [B7 103]:=by first | rfl | (simp only [B6,bc,List.map,N4]; try rfl)
    obtain ⟨hW811,hF813⟩:=hW808.rowEq 1 [B6 (some ⟨bB,0,none⟩) 1 5 [B7 121],B6 (some ⟨b802,0,none⟩) 1 5 [B7 103]] er810
    have hE815:=EnvOk.pick hE809 (ks:=[3,11,12,13,14,94,95,96,97,19,91,87]) (env':=[le109,le112,le113,le120,le121,le125,le126,le127,le128,le124,(91,.v (.slice (some ⟨bB,0,none⟩) ([B7 121].length) 1)),(87,.v (.slice (some ⟨b802,0,none⟩) 1 1))]) kz
    have hE814:=hE815.cast (env':=[le109,le112,le113,le120,le121,le125,le126,le127,le128,le124,(91,.v (.slice (some ⟨bB,0,none⟩) ([B7 121].length) 1)),(87,.v (.slice (some ⟨b802,0,none⟩) ([B7 103].length) 1))]) rfl
    have hT816:=TT.ofW ((hF_.trans hF807).trans hF813) hW811
    refine ⟨fun _=>hT816,?_⟩
    obtain ⟨hW817,hF818⟩:=hW811.swap
    exact gi_ _ _ _ _ _ kz (s25_ b802 bB bC _ _ hE814.pk hW817 (((hF_.trans hF807).trans hF813).trans hF818))
   refine (Q5 (k:=0) (t:=30) (e:=5) (A:=(some ⟨bB,0,none⟩)) (c:=1) (s:=[B7 121]) (d:=92) hW_ hE_ [] rfl (by decide) (by decide) fun a819 w820 hF821 hW822 ho823 hE824=>?_)
   have ho825:=ho823 F
   have hT826:=TT.ofW (hF_.trans hF821) hW822
   refine ⟨fun _=>hT826,?_⟩
   exact gi_ _ _ _ _ _ kz (s26_ bB bC _ _ hE824.pk hW822 (hF_.trans hF821) ho825)
  have s32_:∀ (bA:Nat) (a_:Act) (w_:World),EnvOk 186 [⟨b64,0,[.slice A42 sSyncGroupRequestF.length c43,.int .i64 C4],true⟩,⟨b72,0,[.slice A54 sSyncGroupResponseF.length c55,.int .i64 C5],true⟩,⟨b108,0,[.int .i64 0,.slice none 0 0,.bool false,.slice AO_ kO cO_,.slice none 0 0],true⟩] [(3,.v (.slice D.A D.l D.c)),(11,.p 0 0),(12,.p 1 0),(13,.v (.int .i64 v_)),(14,.v (.int .i64 u_)),(87,.v (.slice (some ⟨bA,0,none⟩) ([B7 103].length) 1)),(94,.v (.agg #[.int .i64 0,.slice none 0 0,.bool true,.slice none 0 0,.slice none 0 0])),(95,.v (.agg #[.int .i64 0,.slice none 0 0,.bool true,.slice none 0 0,.slice none 0 0])),(96,.v (.agg #[.int .i64 0,.slice none 0 0,.bool true,.slice none 0 0,.slice none 0 0])),(97,.v (.agg #[.int .i64 0,.slice none 0 0,.bool false,.slice AO_ kO cO_,.slice none 0 0]))] a_ → WOk w B5 w_ [⟨b64,0,[.slice A42 sSyncGroupRequestF.length c43,.int .i64 C4],true⟩,⟨b72,0,[.slice A54 sSyncGroupResponseF.length c55,.int .i64 C5],true⟩,⟨b108,0,[.int .i64 0,.slice none 0 0,.bool false,.slice AO_ kO cO_,.slice none 0 0],true⟩] [B6 (some ⟨bA,0,none⟩) 1 5 [B7 103]] → Fr w278 [⟨b64,0,[.slice A42 sSyncGroupRequestF.length c43,.int .i64 C4],true⟩,⟨b72,0,[.slice A54 sSyncGroupResponseF.length c55,.int .i64 C5],true⟩,⟨b108,0,[.int .i64 0,.slice none 0 0,.bool false,.slice AO_ kO cO_,.slice none 0 0],true⟩] [] w_ [⟨b64,0,[.slice A42 sSyncGroupRequestF.length c43,.int .i64 C4],true⟩,⟨b72,0,[.slice A54 sSyncGroupResponseF.length c55,.int .i64 C5],true⟩,⟨b108,0,[.int .i64 0,.slice none 0 0,.bool false,.slice AO_ kO cO_,.slice none 0 0],true⟩] [B6 (some ⟨bA,0,none⟩) 1 5 [B7 103]] → G_ 10 #[true,false,false,false,false,false,false,true,true,true,true,false,false,false,false] a_ w_:=by
   intro bA a_ w_ hE_ hW_ hF_
   refine go_ _ _ _ _ ?_
   have hT_:=TT.ofW hF_ hW_
   refine Bj (i:=1) (j:=4) (k:=13) kz ?_ ?_ ?_
   ·
    refine (Q5 (k:=0) (t:=30) (e:=5) (A:=(some ⟨bA,0,none⟩)) (c:=1) (s:=[B7 103]) (d:=88) hW_ hE_ [] rfl (by decide) (by decide) fun a827 w828 hF829 hW830 ho831 hE832=>?_)
    have ho833:=ho831 F
    have hT834:=TT.ofW (hF_.trans hF829) hW830
    refine ⟨fun _=>hT834,?_⟩
    exact gi_ _ _ _ _ _ kz (s27_ bA _ _ hE832.pk hW830 (hF_.trans hF829) ho833)
   ·
    refine (G4 hW_ hE_ (e:=5) (size:=1) (len:=1) (cs:=[lc157]) (d:=91) kz kz fun b835 a836 w837 hb838 hz839 hF840 hW841 hE842=>?_)
    have er843:(⟨some ⟨b835,0,none⟩,1,5,1,1,[.int .u8 121]⟩:Rw) = B6 (some ⟨b835,0,none⟩) 1 5 [B7 121]:=by first | rfl | (simp only [B6,bc,List.map,N4]; try rfl)
    obtain ⟨hW844,hF846⟩:=hW841.rowEq 1 [B6 (some ⟨bA,0,none⟩) 1 5 [B7 103],B6 (some ⟨b835,0,none⟩) 1 5 [B7 121]] er843
    have hE848:=EnvOk.pick hE842 (ks:=[3,11,12,13,14,94,95,96,97,87,91]) (env':=[le109,le112,le113,le120,le121,le125,le126,le127,le128,(87,.v (.slice (some ⟨bA,0,none⟩) ([B7 103].length) 1)),(91,.v (.slice (some ⟨b835,0,none⟩) 1 1))]) kz
    have hE847:=hE848.cast (env':=[le109,le112,le113,le120,le121,le125,le126,le127,le128,(87,.v (.slice (some ⟨bA,0,none⟩) ([B7 103].length) 1)),(91,.v (.slice (some ⟨b835,0,none⟩) ([B7 121].length) 1))]) rfl
    have hT849:=TT.ofW ((hF_.trans hF840).trans hF846) hW844
    refine ⟨fun _=>hT849,?_⟩
    exact gi_ _ _ _ _ _ kz (s28_ bA b835 _ _ hE847.pk hW844 ((hF_.trans hF840).trans hF846))
   refine (D7 hW_ hE_ (d:=19) (cs:=[lc140,lc139,lc141,lc139,lc139]) kz fun b850 a851 w852 hb853 hz854 hF855 hW856 hE857=>?_)
   have hT858:=TT.ofW (hF_.trans hF855) hW856
   refine ⟨fun _=>hT858,?_⟩
   exact gi_ _ _ _ _ _ kz (s29_ bA b850 _ _ hE857.pk hW856 (hF_.trans hF855))
  have s33_:∀ (bB:Nat) (a_:Act) (w_:World),EnvOk 186 [⟨b64,0,[.slice A42 sSyncGroupRequestF.length c43,.int .i64 C4],true⟩,⟨b72,0,[.slice A54 sSyncGroupResponseF.length c55,.int .i64 C5],true⟩,⟨b108,0,[.int .i64 0,.slice none 0 0,.bool false,.slice AO_ kO cO_,.slice none 0 0],true⟩] [(3,.v (.slice D.A D.l D.c)),(11,.p 0 0),(12,.p 1 0),(13,.v (.int .i64 v_)),(14,.v (.int .i64 u_)),(91,.v (.slice (some ⟨bB,0,none⟩) ([B7 121].length) 1)),(94,.v (.agg #[.int .i64 0,.slice none 0 0,.bool true,.slice none 0 0,.slice none 0 0])),(95,.v (.agg #[.int .i64 0,.slice none 0 0,.bool true,.slice none 0 0,.slice none 0 0])),(96,.v (.agg #[.int .i64 0,.slice none 0 0,.bool true,.slice none 0 0,.slice none 0 0])),(97,.v (.agg #[.int .i64 0,.slice none 0 0,.bool false,.slice AO_ kO cO_,.slice none 0 0]))] a_ → WOk w B5 w_ [⟨b64,0,[.slice A42 sSyncGroupRequestF.length c43,.int .i64 C4],true⟩,⟨b72,0,[.slice A54 sSyncGroupResponseF.length c55,.int .i64 C5],true⟩,⟨b108,0,[.int .i64 0,.slice none 0 0,.bool false,.slice AO_ kO cO_,.slice none 0 0],true⟩] [B6 (some ⟨bB,0,none⟩) 1 5 [B7 121]] → Fr w278 [⟨b64,0,[.slice A42 sSyncGroupRequestF.length c43,.int .i64 C4],true⟩,⟨b72,0,[.slice A54 sSyncGroupResponseF.length c55,.int .i64 C5],true⟩,⟨b108,0,[.int .i64 0,.slice none 0 0,.bool false,.slice AO_ kO cO_,.slice none 0 0],true⟩] [] w_ [⟨b64,0,[.slice A42 sSyncGroupRequestF.length c43,.int .i64 C4],true⟩,⟨b72,0,[.slice A54 sSyncGroupResponseF.length c55,.int .i64 C5],true⟩,⟨b108,0,[.int .i64 0,.slice none 0 0,.bool false,.slice AO_ kO cO_,.slice none 0 0],true⟩] [B6 (some ⟨bB,0,none⟩) 1 5 [B7 121]] → G_ 10 #[false,false,false,false,true,false,false,true,true,true,true,false,false,false,false] a_ w_:=by
   intro bB a_ w_ hE_ hW_ hF_
   refine go_ _ _ _ _ ?_
   have hT_:=TT.ofW hF_ hW_
   refine Bj (i:=0) (j:=5) (k:=13) kz ?_ ?_ ?_
   ·
    refine (G4 hW_ hE_ (e:=5) (size:=1) (len:=1) (cs:=[lc158]) (d:=87) kz kz fun b859 a860 w861 hb862 hz863 hF864 hW865 hE866=>?_)
    have er867:(⟨some ⟨b859,0,none⟩,1,5,1,1,[.int .u8 103]⟩:Rw) = B6 (some ⟨b859,0,none⟩) 1 5 [B7 103]:=by first | rfl | (simp only [B6,bc,List.map,N4]; try rfl)
    obtain ⟨hW868,hF870⟩:=hW865.rowEq 1 [B6 (some ⟨bB,0,none⟩) 1 5 [B7 121],B6 (some ⟨b859,0,none⟩) 1 5 [B7 103]] er867
    have hE872:=EnvOk.pick hE866 (ks:=[3,11,12,13,14,94,95,96,97,91,87]) (env':=[le109,le112,le113,le120,le121,le125,le126,le127,le128,(91,.v (.slice (some ⟨bB,0,none⟩) ([B7 121].length) 1)),(87,.v (.slice (some ⟨b859,0,none⟩) 1 1))]) kz
    have hE871:=hE872.cast (env':=[le109,le112,le113,le120,le121,le125,le126,le127,le128,(91,.v (.slice (some ⟨bB,0,none⟩) ([B7 121].length) 1)),(87,.v (.slice (some ⟨b859,0,none⟩) ([B7 103].length) 1))]) rfl
    have hT873:=TT.ofW ((hF_.trans hF864).trans hF870) hW868
    refine ⟨fun _=>hT873,?_⟩
    obtain ⟨hW874,hF875⟩:=hW868.swap
    exact gi_ _ _ _ _ _ kz (s28_ b859 bB _ _ hE871.pk hW874 (((hF_.trans hF864).trans hF870).trans hF875))
   ·
    refine (Q5 (k:=0) (t:=30) (e:=5) (A:=(some ⟨bB,0,none⟩)) (c:=1) (s:=[B7 121]) (d:=92) hW_ hE_ [] rfl (by decide) (by decide) fun a876 w877 hF878 hW879 ho880 hE881=>?_)
    have ho882:=ho880 F
    have hT883:=TT.ofW (hF_.trans hF878) hW879
    refine ⟨fun _=>hT883,?_⟩
    exact gi_ _ _ _ _ _ kz (s30_ bB _ _ hE881.pk hW879 (hF_.trans hF878) ho882)
   refine (D7 hW_ hE_ (d:=19) (cs:=[lc140,lc139,lc141,lc139,lc139]) kz fun b884 a885 w886 hb887 hz888 hF889 hW890 hE891=>?_)
   have hT892:=TT.ofW (hF_.trans hF889) hW890
   refine ⟨fun _=>hT892,?_⟩
   exact gi_ _ _ _ _ _ kz (s31_ bB b884 _ _ hE891.pk hW890 (hF_.trans hF889))
  have s34_:∀ (bC:Nat) (a_:Act) (w_:World),EnvOk 186 [⟨b64,0,[.slice A42 sSyncGroupRequestF.length c43,.int .i64 C4],true⟩,⟨b72,0,[.slice A54 sSyncGroupResponseF.length c55,.int .i64 C5],true⟩,⟨b108,0,[.int .i64 0,.slice none 0 0,.bool false,.slice AO_ kO cO_,.slice none 0 0],true⟩,⟨bC,0,[.int .i64 0,.slice none 0 0,.bool false,.slice none 0 0,.slice none 0 0],true⟩] [(3,.v (.slice D.A D.l D.c)),(11,.p 0 0),(12,.p 1 0),(13,.v (.int .i64 v_)),(14,.v (.int .i64 u_)),(19,.p 3 0),(94,.v (.agg #[.int .i64 0,.slice none 0 0,.bool true,.slice none 0 0,.slice none 0 0])),(95,.v (.agg #[.int .i64 0,.slice none 0 0,.bool true,.slice none 0 0,.slice none 0 0])),(96,.v (.agg #[.int .i64 0,.slice none 0 0,.bool true,.slice none 0 0,.slice none 0 0])),(97,.v (.agg #[.int .i64 0,.slice none 0 0,.bool false,.slice AO_ kO cO_,.slice none 0 0]))] a_ → WOk w B5 w_ [⟨b64,0,[.slice A42 sSyncGroupRequestF.length c43,.int .i64 C4],true⟩,⟨b72,0,[.slice A54 sSyncGroupResponseF.length c55,.int .i64 C5],true⟩,⟨b108,0,[.int .i64 0,.slice none 0 0,.bool false,.slice AO_ kO cO_,.slice none 0 0],true⟩,⟨bC,0,[.int .i64 0,.slice none 0 0,.bool false,.slice none 0 0,.slice none 0 0],true⟩] [] → Fr w278 [⟨b64,0,[.slice A42 sSyncGroupRequestF.length c43,.int .i64 C4],true⟩,⟨b72,0,[.slice A54 sSyncGroupResponseF.length c55,.int .i64 C5],true⟩,⟨b108,0,[.int .i64 0,.slice none 0 0,.bool false,.slice AO_ kO cO_,.slice none 0 0],true⟩] [] w_ [⟨b64,0,[.slice A42 sSyncGroupRequestF.length c43,.int .i64 C4],true⟩,⟨b72,0,[.slice A54 sSyncGroupResponseF.length c55,.int .i64 C5],true⟩,⟨b108,0,[.int .i64 0,.slice none 0 0,.bool false,.slice AO_ kO cO_,.slice none 0 0],true⟩,⟨bC,0,[.int .i64 0,.slice none 0 0,.bool false,.slice none 0 0,.slice none 0 0],true⟩] [] → G_ 10 #[false,false,false,false,false,false,false,true,true,true,true,false,false,true,false] a_ w_:=by
   intro bC a_ w_ hE_ hW_ hF_
   refine go_ _ _ _ _ ?_
   have hT_:=TT.ofW hF_ hW_
   refine N8 (i:=0) (j:=4) kz ?_ ?_
   ·
    refine (G4 hW_ hE_ (e:=5) (size:=1) (len:=1) (cs:=[lc158]) (d:=87) kz kz fun b893 a894 w895 hb896 hz897 hF898 hW899 hE900=>?_)
    have er901:(⟨some ⟨b893,0,none⟩,1,5,1,1,[.int .u8 103]⟩:Rw) = B6 (some ⟨b893,0,none⟩) 1 5 [B7 103]:=by first | rfl | (simp only [B6,bc,List.map,N4]; try rfl)
    obtain ⟨hW902,hF904⟩:=hW899.rowEq 0 [B6 (some ⟨b893,0,none⟩) 1 5 [B7 103]] er901
    have hE906:=EnvOk.pick hE900 (ks:=[3,11,12,13,14,94,95,96,97,19,87]) (env':=[le109,le112,le113,le120,le121,le125,le126,le127,le128,le124,(87,.v (.slice (some ⟨b893,0,none⟩) 1 1))]) kz
    have hE905:=hE906.cast (env':=[le109,le112,le113,le120,le121,le125,le126,le127,le128,le124,(87,.v (.slice (some ⟨b893,0,none⟩) ([B7 103].length) 1))]) rfl
    have hT907:=TT.ofW ((hF_.trans hF898).trans hF904) hW902
    refine ⟨fun _=>hT907,?_⟩
    exact gi_ _ _ _ _ _ kz (s29_ b893 bC _ _ hE905.pk hW902 ((hF_.trans hF898).trans hF904))
   refine (G4 hW_ hE_ (e:=5) (size:=1) (len:=1) (cs:=[lc157]) (d:=91) kz kz fun b908 a909 w910 hb911 hz912 hF913 hW914 hE915=>?_)
   have er916:(⟨some ⟨b908,0,none⟩,1,5,1,1,[.int .u8 121]⟩:Rw) = B6 (some ⟨b908,0,none⟩) 1 5 [B7 121]:=by first | rfl | (simp only [B6,bc,List.map,N4]; try rfl)
   obtain ⟨hW917,hF919⟩:=hW914.rowEq 0 [B6 (some ⟨b908,0,none⟩) 1 5 [B7 121]] er916
   have hE921:=EnvOk.pick hE915 (ks:=[3,11,12,13,14,94,95,96,97,19,91]) (env':=[le109,le112,le113,le120,le121,le125,le126,le127,le128,le124,(91,.v (.slice (some ⟨b908,0,none⟩) 1 1))]) kz
   have hE920:=hE921.cast (env':=[le109,le112,le113,le120,le121,le125,le126,le127,le128,le124,(91,.v (.slice (some ⟨b908,0,none⟩) ([B7 121].length) 1))]) rfl
   have hT922:=TT.ofW ((hF_.trans hF913).trans hF919) hW917
   refine ⟨fun _=>hT922,?_⟩
   exact gi_ _ _ _ _ _ kz (s31_ b908 bC _ _ hE920.pk hW917 ((hF_.trans hF913).trans hF919))
  have s35_:∀ (a_:Act) (w_:World),EnvOk 186 [⟨b64,0,[.slice A42 sSyncGroupRequestF.length c43,.int .i64 C4],true⟩,⟨b72,0,[.slice A54 sSyncGroupResponseF.length c55,.int .i64 C5],true⟩,⟨b108,0,[.int .i64 0,.slice none 0 0,.bool false,.slice AO_ kO cO_,.slice none 0 0],true⟩] [(3,.v (.slice D.A D.l D.c)),(11,.p 0 0),(12,.p 1 0),(13,.v (.int .i64 v_)),(14,.v (.int .i64 u_)),(94,.v (.agg #[.int .i64 0,.slice none 0 0,.bool true,.slice none 0 0,.slice none 0 0])),(95,.v (.agg #[.int .i64 0,.slice none 0 0,.bool true,.slice none 0 0,.slice none 0 0])),(96,.v (.agg #[.int .i64 0,.slice none 0 0,.bool true,.slice none 0 0,.slice none 0 0])),(97,.v (.agg #[.int .i64 0,.slice none 0 0,.bool false,.slice AO_ kO cO_,.slice none 0 0]))] a_ → WOk w B5 w_ [⟨b64,0,[.slice A42 sSyncGroupRequestF.length c43,.int .i64 C4],true⟩,⟨b72,0,[.slice A54 sSyncGroupResponseF.length c55,.int .i64 C5],true⟩,⟨b108,0,[.int .i64 0,.slice none 0 0,.bool false,.slice AO_ kO cO_,.slice none 0 0],true⟩] [] → Fr w278 [⟨b64,0,[.slice A42 sSyncGroupRequestF.length c43,.int .i64 C4],true⟩,⟨b72,0,[.slice A54 sSyncGroupResponseF.length c55,.int .i64 C5],true⟩,⟨b108,0,[.int .i64 0,.slice none 0 0,.bool false,.slice AO_ kO cO_,.slice none 0 0],true⟩] [] w_ [⟨b64,0,[.slice A42 sSyncGroupRequestF.length c43,.int .i64 C4],true⟩,⟨b72,0,[.slice A54 sSyncGroupResponseF.length c55,.int .i64 C5],true⟩,⟨b108,0,[.int .i64 0,.slice none 0 0,.bool false,.slice AO_ kO cO_,.slice none 0 0],true⟩] [] → G_ 11 #[false,false,false,false,false,false,false,true,true,true,true,false,false,false,false] a_ w_:=by
   intro a_ w_ hE_ hW_ hF_
   refine go_ _ _ _ _ ?_
   have hT_:=TT.ofW hF_ hW_
   refine Bj (i:=0) (j:=4) (k:=13) kz ?_ ?_ ?_
   ·
    refine (G4 hW_ hE_ (e:=5) (size:=1) (len:=1) (cs:=[lc158]) (d:=87) kz kz fun b923 a924 w925 hb926 hz927 hF928 hW929 hE930=>?_)
    have er931:(⟨some ⟨b923,0,none⟩,1,5,1,1,[.int .u8 103]⟩:Rw) = B6 (some ⟨b923,0,none⟩) 1 5 [B7 103]:=by first | rfl | (simp only [B6,bc,List.map,N4]; try rfl)
    obtain ⟨hW932,hF934⟩:=hW929.rowEq 0 [B6 (some ⟨b923,0,none⟩) 1 5 [B7 103]] er931
    have hE936:=EnvOk.pick hE930 (ks:=[3,11,12,13,14,94,95,96,97,87]) (env':=[le109,le112,le113,le120,le121,le125,le126,le127,le128,(87,.v (.slice (some ⟨b923,0,none⟩) 1 1))]) kz
    have hE935:=hE936.cast (env':=[le109,le112,le113,le120,le121,le125,le126,le127,le128,(87,.v (.slice (some ⟨b923,0,none⟩) ([B7 103].length) 1))]) rfl
    have hT937:=TT.ofW ((hF_.trans hF928).trans hF934) hW932
    refine ⟨fun _=>hT937,?_⟩
    exact gi_ _ _ _ _ _ kz (s32_ b923 _ _ hE935.pk hW932 ((hF_.trans hF928).trans hF934))
   ·
    refine (G4 hW_ hE_ (e:=5) (size:=1) (len:=1) (cs:=[lc157]) (d:=91) kz kz fun b938 a939 w940 hb941 hz942 hF943 hW944 hE945=>?_)
    have er946:(⟨some ⟨b938,0,none⟩,1,5,1,1,[.int .u8 121]⟩:Rw) = B6 (some ⟨b938,0,none⟩) 1 5 [B7 121]:=by first | rfl | (simp only [B6,bc,List.map,N4]; try rfl)
    obtain ⟨hW947,hF949⟩:=hW944.rowEq 0 [B6 (some ⟨b938,0,none⟩) 1 5 [B7 121]] er946
    have hE951:=EnvOk.pick hE945 (ks:=[3,11,12,13,14,94,95,96,97,91]) (env':=[le109,le112,le113,le120,le121,le125,le126,le127,le128,(91,.v (.slice (some ⟨b938,0,none⟩) 1 1))]) kz
    have hE950:=hE951.cast (env':=[le109,le112,le113,le120,le121,le125,le126,le127,le128,(91,.v (.slice (some ⟨b938,0,none⟩) ([B7 121].length) 1))]) rfl
    have hT952:=TT.ofW ((hF_.trans hF943).trans hF949) hW947
    refine ⟨fun _=>hT952,?_⟩
    exact gi_ _ _ _ _ _ kz (s33_ b938 _ _ hE950.pk hW947 ((hF_.trans hF943).trans hF949))
   refine (D7 hW_ hE_ (d:=19) (cs:=[lc140,lc139,lc141,lc139,lc139]) kz fun b953 a954 w955 hb956 hz957 hF958 hW959 hE960=>?_)
   have hT961:=TT.ofW (hF_.trans hF958) hW959
   refine ⟨fun _=>hT961,?_⟩
   exact gi_ _ _ _ _ _ kz (s34_ b953 _ _ hE960.pk hW959 (hF_.trans hF958))
  exact gi_ _ _ _ _ _ kz (s35_ _ _ hE283.pk hW280 (Fr.refl _ _ _))
 rintro e_ a962 w963 ⟨rfl,bq_,Aq_,cq_,hr964,hE965,hW966,hF967⟩
 refine A7 (B8 [0,1,2,3,4,5,6,7,8,9,10,11,12,13,14,15] kz ?_)
 refine B3 [0,1,2,3,4,5] [6,7,8,9,10,11,12,13,14,15] [le109,le113,le121,(101,.v (.int .i64 v_)),(102,.v (.int .i64 v_)),(104,.v (.slice A42 sSyncGroupRequestF.length c43)),(105,.v (.int .i64 v_)),(106,.v (.agg #[lc140,lc139,lc141,.slice Aq_ 7 cq_,lc139]))] hW966 hE965 fun a968 hE969=>?_
 refine B1 (C3 hE969 (f:=18) (vs:=[.slice A42 sSyncGroupRequestF.length c43,.int .i64 v_,.agg #[lc140,lc139,lc141,.slice Aq_ 7 cq_,lc139]]) (d:=107) kz Tryz.call18 (Eh _ _ _ sSyncGroupRequestF v_ _ (E9 [B7 103] [B7 121] k_ D) _ _ ⟨xs45,(h46.move ((((((((((((hF63.trans hF69).trans hF77).trans hF81).trans hF85).trans hF95).trans hF103).trans hF113).trans hF117).trans hF135).trans hF143).trans hF276).trans hF967).step immM ((((((((((((hF63.trans hF69).trans hF77).trans hF81).trans hF85).trans hF95).trans hF103).trans hF113).trans hF117).trans hF135).trans hF143).trans hF276).trans hF967).to'),(fun i_ x_ h_=>((h47 i_ x_ h_).move ((((((((((((hF63.trans hF69).trans hF77).trans hF81).trans hF85).trans hF95).trans hF103).trans hF113).trans hF117).trans hF135).trans hF143).trans hF276).trans hF967).step immM ((((((((((((hF63.trans hF69).trans hF77).trans hF81).trans hF85).trans hF95).trans hF103).trans hF113).trans hF117).trans hF135).trans hF143).trans hF276).trans hF967).to'))⟩ Pq Pp hr964) ?_)
 rintro e_ w973 ⟨cs972,rfl,hr971,hs970⟩
 have hr974:=hr971.move (Step.refl _ B5) B0 (hW966.laid (G:=F) hs970)
 obtain ⟨n975,s976,b977,l978,u979,A980,c981,A982,c983,A984,c985,xs986,ht992,hcs987,h988,h989,h990,h991⟩:=hr974.open_
 rw [hcs987] at hr974
 have hsm993:=h988.small
 have hsm994:=h989.small
 rw [hcs987]
 refine ⟨_,rfl,fun a995 hE996=>?_⟩
 have hW997:=hW966.next_nil hs970
 have hF998:=hW966.frN hs970
 refine B1 (C3 hE996 (f:=17) (vs:=[.agg #[.int .i64 n975,.slice A980 s976.length c981,.bool b977,.slice A982 l978.length c983,.slice A984 u979.length c985]]) (d:=108) kz Tryz.call17 (Ee _ _ _ _ _ hr974 (Nat.le_refl _)) ?_)
 rintro e_ w1002 ⟨cs1001,rfl,hr1000,hs999⟩
 have hr1003:=hr1000.move (Step.refl _ B5) B0 (hW997.laid (G:=F) hs999)
 obtain ⟨n1004,s1005,b1006,l1007,u1008,A1009,c1010,A1011,c1012,A1013,c1014,xs1015,ht1021,hcs1016,h1017,h1018,h1019,h1020⟩:=hr1003.open_
 rw [hcs1016] at hr1003
 have hsm1022:=h1017.small
 have hsm1023:=h1018.small
 rw [hcs1016]
 refine ⟨_,rfl,fun a1024 hE1025=>?_⟩
 have hW1026:=hW997.next_nil hs999
 have hF1027:=hW997.frN hs999
 refine B1 (C3 hE1025 (f:=16) (vs:=[.int .i64 v_,.agg #[.int .i64 n1004,.slice A1009 s1005.length c1010,.bool b1006,.slice A1011 l1007.length c1012,.slice A1013 u1008.length c1014]]) (d:=109) kz Tryz.call16 (NK v_ _ (C2 v_ 8 sSyncGroupRequestF (E9 [B7 103] [B7 121] k_ D)) _ _ hr1003 (GQ _ _) (GV hn5)) ?_)
 rintro e_ w1032 ⟨A1030,c1031,rfl,ho1029,hs1028⟩
 refine ⟨_,rfl,fun a1033 hE1034=>?_⟩
 obtain ⟨hW1035,hF1036⟩:=hW1026.frFresh hs1028 (B6 A1030 c1031 5 (R1 v_ (C2 v_ 8 sSyncGroupRequestF (E9 [B7 103] [B7 121] k_ D)))) (Nat.le_refl _) ho1029
 have hmade:(R1 v_ (C2 v_ 8 sSyncGroupRequestF (E9 [B7 103] [B7 121] k_ D))).length + 16 ≤ 1099511627776:=@GV v_ k_ [B7 103] [B7 121] D hn5
 refine B1 (C3 hE1034 (f:=15) (vs:=[.int .i64 v_,.slice A1030 ((R1 v_ (C2 v_ 8 sSyncGroupRequestF (E9 [B7 103] [B7 121] k_ D))).length) c1031]) (d:=110) kz Tryz.call15 (Pk v_ (C2 v_ 8 sSyncGroupRequestF (E9 [B7 103] [B7 121] k_ D)) (R1 v_ (C2 v_ 8 sSyncGroupRequestF (E9 [B7 103] [B7 121] k_ D))) rfl (BT (hW1035.own 0 _ rfl) (by first | omega | (rw [HG]; decide) | (simp only [be_length]; exact Nat.le_trans (Hw _) (by decide)) | (have:=hroom; omega) | (have:=hmade; omega) | (simp only [List.length_append,List.length_nil]; omega)) (F:=fun _ _=>True) (fun _ _ _=>trivial)) (GQ _ _) (Pc _ _ _ _ _) (GV hn5)) ?_)
 rintro e_ w1037 ⟨E1038,cs1039,rfl,hr1040,hv1041,hs1042⟩
 have hr1043:=hr1040.move (Step.refl _ B5) B0 (fun b_ o_ h_ hb_=>hW1035.laid (G:=F) hs1042 b_ o_ (.inr (h_.resolve_left id)) hb_)
 have hX_:=req_told' hv16_ hk_ hn5 hsm_ hv1041
 obtain ⟨X_,hX_e_⟩:∃ X,X = BF E1038:=⟨_,rfl⟩
 rw [← hX_e_] at hX_ hr1043
 obtain ⟨n1044,s1045,b1046,l1047,u1048,A1049,c1050,A1051,c1052,A1053,c1054,xs1055,ht1061,hcs1056,h1057,h1058,h1059,h1060⟩:=hr1043.open_
 rw [hcs1056] at hr1043
 have hsm1062:=h1057.small
 have hsm1063:=h1058.small
 rw [hcs1056]
 refine ⟨_,rfl,fun a1064 hE1065=>?_⟩
 have hW1066:=hW1035.next_nil hs1042
 have hF1067:=hW1035.frN hs1042
 let lc159:Value:=.int .i64 n1044
 let lc160:Value:=.slice A1049 s1045.length c1050
 let lc161:Value:=.slice A1051 l1047.length c1052
 let lc162:Value:=.slice A1053 u1048.length c1054
 let lc163:Value:=(.agg #[.int .i64 n1044,.slice A1049 s1045.length c1050,.bool b1046,.slice A1051 l1047.length c1052,.slice A1053 u1048.length c1054])
 refine B3 [10,11,12] [13,14,15] [le109,le113,le121,(111,.v (.agg #[lc159,lc160,.bool b1046,lc161,lc162])),(112,.v (.bool true))] hW1066 hE1065 fun a1068 hE1069=>?_
 refine B1 (D7 hW1066 hE1069 (d:=20) (cs:=[lc140,lc139,lc141,lc139,lc139]) kz fun b1070 a1071 w1072 hb1073 hz1074 hF1075 hW1076 hE1077=>?_)
 refine B1 (C7 hW1076 hE1077 (oi:=4) (cs:=[lc159,lc160,.bool b1046,lc161,lc162]) kz fun w1078 hF1079 hW1080 hE1081=>?_)
 refine B3 [15] [] [le109,le113,le121,(20,.p 4 0),(21,.v (.bool true))] hW1080 hE1081 fun a1082 hE1083=>?_
 refine B4 (A7 ?_)
 refine B8 [0,1,2,3] kz ?_
 refine B3 [0] [1,2,3] [le109,le113,le121,(21,.v (.bool true)),(113,.v (.agg #[lc159,lc160,.bool b1046,lc161,lc162]))] hW1080 hE1083 fun a1084 hE1085=>?_
 refine B1 (C3 hE1085 (f:=19) (vs:=[.agg #[lc159,lc160,.bool b1046,lc161,lc162],.int .i64 6]) (d:=114) kz Tryz.call19 (Bb _ _ 6 _ _ (hr1043.move (hF1075.trans hF1079).step immM (hF1075.trans hF1079).to')) ?_)
 rintro e_ w1089 ⟨cs1088,rfl,hr1087,hs1086⟩
 have hr1090:=hr1087.move hs1086 B0 (fun b o h_ hb_=>hW1080.laid (G:=F) hs1086 b o (.inl h_) (Nat.lt_of_lt_of_le hb_ hs1086.size))
 obtain ⟨n1091,s1092,b1093,l1094,u1095,A1096,c1097,A1098,c1099,A1100,c1101,xs1102,ht1108,hcs1103,h1104,h1105,h1106,h1107⟩:=hr1090.open_
 rw [hcs1103] at hr1090
 have hsm1109:=h1104.small
 have hsm1110:=h1105.small
 rw [hcs1103]
 refine ⟨_,rfl,fun a1111 hE1112=>?_⟩
 have hW1113:=hW1080.next_nil hs1086
 have hF1114:=hW1080.frN hs1086
 let le130:Nat × SV:=(22,.v (.slice A1098 l1094.length c1099))
 refine B3 [2,3] [] [le109,le113,le121,(21,.v (.bool true)),le130] hW1113 hE1112 fun a1115 hE1116=>?_
 refine B4 (A7 ?_)
 refine wp_seq (C1 [le109,le113,le121,le130,(124,.v (.bool (((l1094.length:Nat):Int) != ((D.l:Nat):Int))))] hW1113 hE1116 fun a1117 hE1118=>?_)
 refine F6 hE1118 (b:=((l1094.length:Nat):Int) != ((D.l:Nat):Int)) kz (GO ((congrArg (fun t_=>(Tree.L t_).length) ht1108).symm.trans hX_.1)) ?_
 refine wp_skip (A7 (wp_seq ?_))
 let le131:Nat × SV:=(125,.v (.slice D.A D.l D.c))
 let le132:Nat × SV:=(126,.v (.int .i64 ((D.l:Nat):Int)))
 refine C1 [le113,le121,le130,le131,le132,(127,.v (.int .i64 0))] hW1113 hE1118 fun a1119 hE1120=>?_
 refine wp_block ?_
 have hl1_:l1094.length = D.l:=(congrArg (fun t_=>(Tree.L t_).length) ht1108).symm.trans hX_.1
 let lo103:Ob:=⟨bq_,0,[lc140,lc139,lc141,.slice Aq_ 7 cq_,lc139],true⟩
 let lo104:Ob:=⟨b1070,0,[lc159,lc160,.bool b1046,lc161,lc162],true⟩
 refine wp_loop_ghost (fun n_ a_ w_=>∃ (k1:Nat),n_ = D.l - k1 ∧ k1 ≤ D.l ∧ F1 hW1113 186 [⟨b64,0,[.slice A42 sSyncGroupRequestF.length c43,.int .i64 C4],true⟩,⟨b72,0,[.slice A54 sSyncGroupResponseF.length c55,.int .i64 C5],true⟩,lo101,lo103,lo104] [B6 A1030 c1031 5 (R1 v_ (C2 v_ 8 sSyncGroupRequestF (E9 [B7 103] [B7 121] k_ D)))] [le113,le121,le130,le131,le132,(127,.v (.int .i64 ((k1:Nat):Int)))] a_ w_) (D.l) ⟨0,by omega,by omega,hE1120.pk,hW1113,Fr.refl _ _ _⟩ ?_
 rintro n1121 a1122 w1123 ⟨k1,hn1126,hk1127,hE1124,hW1125,hF1128⟩
 let le133:Nat × SV:=(127,.v (.int .i64 ((k1:Nat):Int)))
 refine C1 [le113,le121,le130,le131,le132,le133,(128,.v (.bool (decide (((k1:Nat):Int) < ((D.l:Nat):Int)))))] hW1125 hE1124 fun a1129 hE1130=>?_
 refine wp_seq (D8 hE1130 (b:=decide (((k1:Nat):Int) < ((D.l:Nat):Int))) kz (fun hc1131=>?_) (fun hc1131=>?_))
 ·
  have hf1132:=of_decide_eq_true hc1131
  have gM_:=ge_ k1 (by omega)
  unfold R0 at gM_
  obtain ⟨⟨gO_,_⟩,_⟩:=gM_
  refine wp_skip (A7 (wp_seq (wp_block (B8 [0,1,2,3,4,5] kz ?_))))
  refine B3 [0] [1,2,3,4,5] [le113,le121,le130,le131,le132,le133,(129,.v (.int .i64 ((k1:Nat):Int)))] hW1125 hE1130 fun a1133 hE1134=>?_
  obtain ⟨b1135,o1136,hA1137,hl1138,hat1139⟩:=Slots.get g_ (i:=k1) (by omega)
  refine B1 (F2 hE1134 (t:=22) (A:=D.A) (m:=D.l) (q:=((k1:Nat):Int)) (d:=130) kz (e:=40) (size:=6) (bytes:=128) kz hA1137 rfl (by omega) fun a1140 hE1141=>?_)
  let lc164:Value:=.slice (((D.f k1).f 0).A) (((D.f k1).f 0).o.length) (((D.f k1).f 0).c)
  let lc165:Value:=.slice ((((D.f k1).f 1).f 0).A) ((((D.f k1).f 1).f 0).l) ((((D.f k1).f 1).f 0).c)
  let lc166:Value:=.int .i32 ((((D.f k1).f 1).f 1).n)
  let lc167:Value:=.slice (((D.f k1).f 2).A) (((D.f k1).f 2).l) (((D.f k1).f 2).c)
  let lc168:Value:=.slice (((D.f k1).f 3).A) (((D.f k1).f 3).l) (((D.f k1).f 3).c)
  let lc169:Value:=.slice (((D.f k1).f 4).A) (((D.f k1).f 4).o.length) (((D.f k1).f 4).c)
  let lc170:Value:=.agg #[.slice (((D.f k1).f 0).A) (((D.f k1).f 0).o.length) (((D.f k1).f 0).c),.slice ((((D.f k1).f 1).f 0).A) ((((D.f k1).f 1).f 0).l) ((((D.f k1).f 1).f 0).c),.int .i32 ((((D.f k1).f 1).f 1).n),.slice (((D.f k1).f 2).A) (((D.f k1).f 2).l) (((D.f k1).f 2).c),.slice (((D.f k1).f 3).A) (((D.f k1).f 3).l) (((D.f k1).f 3).c),.slice (((D.f k1).f 4).A) (((D.f k1).f 4).o.length) (((D.f k1).f 4).c)]
  refine B1 (G7 hE1141 (t:=40) (b:=b1135) (o:=o1136 + k1 * 6) (d:=131) kz (cs:=[lc164,lc165,lc166,lc167,lc168,lc169]) (v:=.agg #[lc164,lc165,lc166,lc167,lc168,lc169]) kz (AtF.move hat1139 hW1125.step B0 E6).at_ fun a1142 hE1143=>?_)
  refine B1 (D7 hW1125 hE1143 (d:=24) (cs:=[lc139,lc139,.int .i32 0,lc139,lc139,lc139]) kz fun b1144 a1145 w1146 hb1147 hz1148 hF1149 hW1150 hE1151=>?_)
  let le134:Nat × SV:=(23,.v (.int .i64 ((k1:Nat):Int)))
  let le135:Nat × SV:=(24,.p 5 0)
  let lc171:Value:=(.agg #[.slice (((D.f k1).f 0).A) (((D.f k1).f 0).o.length) (((D.f k1).f 0).c),.slice ((((D.f k1).f 1).f 0).A) ((((D.f k1).f 1).f 0).l) ((((D.f k1).f 1).f 0).c),.int .i32 ((((D.f k1).f 1).f 1).n),.slice (((D.f k1).f 2).A) (((D.f k1).f 2).l) (((D.f k1).f 2).c),.slice (((D.f k1).f 3).A) (((D.f k1).f 3).l) (((D.f k1).f 3).c),.slice (((D.f k1).f 4).A) (((D.f k1).f 4).o.length) (((D.f k1).f 4).c)])
  refine B3 [4] [5] [le113,le121,le130,le134,le135,le131,le132,le133,(131,.v (.agg #[lc164,lc165,lc166,lc167,lc168,lc169]))] hW1150 hE1151 fun a1152 hE1153=>?_
  refine B1 (C7 hW1150 hE1153 (oi:=5) (cs:=[lc164,lc165,lc166,lc167,lc168,lc169]) kz fun w1154 hF1155 hW1156 hE1157=>?_)
  refine B4 (A7 ?_)
  refine B8 [0,1,2,3,4,5,6] kz ?_
  refine B3 [0,1] [2,3,4,5,6] [le113,le121,le130,le134,le135,le131,le132,le133,(132,.v (.slice A1098 l1094.length c1099)),(133,.v (.int .i64 ((k1:Nat):Int)))] hW1156 hE1157 fun a1158 hE1159=>?_
  obtain ⟨b1160,o1161,hA1162,hl1163,hat1164⟩:=Slots.get h1105 (i:=k1) (by omega)
  obtain ⟨x1165,he1166⟩:∃ x,l1094[k1]? = some x:=⟨_,List.getElem?_eq_getElem (by omega)⟩
  have hr1167:=h1106 k1 x1165 he1166
  obtain ⟨n1168,s1169,b1170,l1171,u1172,A1173,c1174,A1175,c1176,A1177,c1178,xs1179,rfl,hcs1180,h1181,h1182,h1183,h1184⟩:=hr1167.open_
  rw [hcs1180] at hr1167
  have hsm1186:=h1181.small
  have hsm1187:=h1182.small
  rw [hcs1180] at hat1164
  refine B1 (F2 hE1159 (t:=46) (A:=A1098) (m:=l1094.length) (q:=((k1:Nat):Int)) (d:=134) kz (e:=49) (size:=5) (bytes:=88) kz hA1162 rfl (by omega) fun a1188 hE1189=>?_)
  let lc172:Value:=.int .i64 n1168
  let lc173:Value:=.slice A1173 s1169.length c1174
  let lc174:Value:=.bool b1170
  let lc175:Value:=.slice A1175 l1171.length c1176
  let lc176:Value:=.slice A1177 u1172.length c1178
  let lc177:Value:=.agg #[.int .i64 n1168,.slice A1173 s1169.length c1174,.bool b1170,.slice A1175 l1171.length c1176,.slice A1177 u1172.length c1178]
  refine B1 (G7 hE1189 (t:=49) (b:=b1160) (o:=o1161 + k1 * 5) (d:=135) kz (cs:=[lc172,lc173,lc174,lc175,lc176]) (v:=.agg #[lc172,lc173,lc174,lc175,lc176]) kz (AtF.move hat1164 ((hF1128.trans hF1149).trans hF1155).step immM ((hF1128.trans hF1149).trans hF1155).to').at_ fun a1190 hE1191=>?_)
  refine B1 (C3 hE1191 (f:=19) (vs:=[.agg #[lc172,lc173,lc174,lc175,lc176],.int .i64 1]) (d:=136) kz Tryz.call19 (Bb _ _ 1 _ _ (hr1167.move ((hF1128.trans hF1149).trans hF1155).step immM ((hF1128.trans hF1149).trans hF1155).to')) ?_)
  rintro e_ w1195 ⟨cs1194,rfl,hr1193,hs1192⟩
  have hr1196:=hr1193.move hs1192 B0 (fun b o h_ hb_=>hW1156.laid (G:=F) hs1192 b o (.inl h_) (Nat.lt_of_lt_of_le hb_ hs1192.size))
  obtain ⟨n1197,s1198,b1199,l1200,u1201,A1202,c1203,A1204,c1205,A1206,c1207,xs1208,ht1214,hcs1209,h1210,h1211,h1212,h1213⟩:=hr1196.open_
  rw [hcs1209] at hr1196
  have hsm1215:=h1210.small
  have hsm1216:=h1211.small
  rw [hcs1209]
  refine ⟨_,rfl,fun a1217 hE1218=>?_⟩
  have hW1219:=hW1156.next_nil hs1192
  have hF1220:=hW1156.frN hs1192
  let le136:Nat × SV:=(25,.v (.slice A1202 s1198.length c1203))
  refine B3 [5,6] [] [le113,le121,le130,le134,le135,le136,le131,le132,le133] hW1219 hE1218 fun a1221 hE1222=>?_
  refine B4 (A7 ?_)
  refine wp_seq (J2 16 kz hW1219 fun w1223 hF1224 hW1225 hT1226=>?_)
  let le137:Nat × SV:=(145,.v (.slice (((D.f k1).f 0).A) (((D.f k1).f 0).o.length) (((D.f k1).f 0).c)))
  refine D6 [0,1,6,7] [le113,le121,le130,le135,le136,le131,le132,le133,(138,.v (.slice A1098 l1094.length c1099)),(139,.v (.int .i64 ((k1:Nat):Int))),le137] 12 (B2 (B2 (C0 (B2 (B2 (C0 (B2 C6))))))) (fun _ h=>h.cells) hT1226 hE1222 fun a1227 hE1228=>?_
  refine H9 hE1228 (i:=2) (t:=46) (A:=A1098) (m:=l1094.length) (q:=((k1:Nat):Int)) (d:=140) kz (e:=49) (size:=5) (bytes:=88) kz hA1162 rfl (by omega) kz kz (B2 (B2 (C0 (B2 (B2 (C0 (B2 C6))))))) hT1226 fun a1229 hE1230=>?_
  refine P4 hE1230 (i:=3) (t:=49) (b:=b1160) (o:=o1161 + k1 * 5) (d:=141) kz (cs:=[lc172,lc173,lc174,lc175,lc176]) (v:=.agg #[lc172,lc173,lc174,lc175,lc176]) kz (fun w' h'=>(AtF.move (AtF.move hat1164 ((((hF1128.trans hF1149).trans hF1155).trans hF1220).trans hF1224).step immM ((((hF1128.trans hF1149).trans hF1155).trans hF1220).trans hF1224).to') h'.2 immM R9).at_) kz kz (B2 (B2 (C0 (B2 (B2 (C0 (B2 C6))))))) hT1226 fun a1231 hE1232=>?_
  refine C9 (i:=4) kz (C3 hE1232 (f:=19) (vs:=[.agg #[lc172,lc173,lc174,lc175,lc176],lc140]) (d:=142) kz Tryz.call19 (Bb _ _ 0 _ _ (hr1167.move ((((hF1128.trans hF1149).trans hF1155).trans hF1220).trans hF1224).step immM ((((hF1128.trans hF1149).trans hF1155).trans hF1220).trans hF1224).to')) ?_)
  rintro e_ w1236 ⟨cs1235,rfl,hr1234,hs1233⟩
  have hr1237:=hr1234.move hs1233 B0 (fun b o h_ hb_=>hW1225.laid (G:=F) hs1233 b o (.inl h_) (Nat.lt_of_lt_of_le hb_ hs1233.size))
  obtain ⟨n1238,s1239,b1240,l1241,u1242,A1243,c1244,A1245,c1246,A1247,c1248,xs1249,ht1255,hcs1250,h1251,h1252,h1253,h1254⟩:=hr1237.open_
  rw [hcs1250] at hr1237
  have hsm1256:=h1251.small
  have hsm1257:=h1252.small
  rw [hcs1250]
  refine ⟨_,rfl,fun a1258 hE1259=>?_⟩
  have hW1260:=hW1225.next_nil hs1233
  have hF1261:=hW1225.frN hs1233
  have hT1262:=TT.ofW hF1261 hW1260
  refine ⟨fun _=>hT1262,?_⟩
  refine D6 [5] [le113,le121,le130,le135,le136,le131,le132,le133,(143,.v (.slice A1243 s1239.length c1244)),le137] 8 (B2 (B2 (C0 (B2 (B2 (C0 (B2 C6))))))) (fun _ h=>h.cells) hT1262 hE1259 fun a1263 hE1264=>?_
  refine C9 (i:=8) kz (C3 hE1264 (f:=20) (vs:=[.slice A1243 s1239.length c1244,lc164]) (d:=146) kz Tryz.call20 (Je _ _ _ _ s1239 (((D.f k1).f 0).o) _ _ (h1251.move (Step.refl _ B5) B0 R9) ((gO_.move hW1260.step B0 hW1260.imm).move (Step.refl _ B5) B0 R9)) ?_)
  rintro e_ w1266 ⟨rfl,hs1265⟩
  refine ⟨_,rfl,fun a1267 hE1268=>?_⟩
  have hW1269:=hW1260.next_nil hs1265
  have hF1270:=hW1260.frN hs1265
  have hT1271:=TT.ofW (hF1261.trans hF1270) hW1269
  refine ⟨fun _=>hT1271,?_⟩
  refine D6 [9,10] [le113,le121,le130,le135,le136,le131,le132,le133,(148,.v (.bool (!(decide (s1239 = ((D.f k1).f 0).o)))))] 5 (B2 (B2 (C0 (B2 (B2 (C0 (B2 C6))))))) (fun _ h=>h.cells) hT1271 hE1268 fun a1272 hE1273=>?_
  have hc1274:(!(decide (s1239 = ((D.f k1).f 0).o))) = false:=JF ((congrArg Tree.S ht1255).symm.trans (hX_.thing ht1108 he1166 (by omega)).1)
  have hE1275:=hE1273
  rw [hc1274] at hE1275
  refine D6 [11,12] [le113,le121,le130,le135,le136,le131,le132,le133,(148,.v (.bool false)),(149,.v (.slice A1202 s1198.length c1203)),(150,.v (.agg #[lc164,lc165,lc166,lc167,lc168,lc169]))] 3 (B2 (B2 (C0 (B2 (B2 (C0 (B2 C6))))))) (fun _ h=>h.cells) hT1271 hE1275 fun a1276 hE1277=>?_
  let lo105:Ob:=⟨b1144,0,[lc164,lc165,lc166,lc167,lc168,lc169],true⟩
  let lc178:Value:=.slice A1202 s1198.length c1203
  refine C9 (i:=13) kz (C3 hE1277 (f:=21) (vs:=[lc178,.agg #[lc164,lc165,lc166,lc167,lc168,lc169]]) (d:=151) kz Tryz.call21 (Ds k_ hk_ (D.f k1) _ (D4 F w w1266 [⟨b64,0,[.slice A42 sSyncGroupRequestF.length c43,.int .i64 C4],true⟩,⟨b72,0,[.slice A54 sSyncGroupResponseF.length c55,.int .i64 C5],true⟩,lo101,lo103,lo104,lo105] [B6 A1030 c1031 5 (R1 v_ (C2 v_ 8 sSyncGroupRequestF (E9 [B7 103] [B7 121] k_ D)))]) (Cj _ hW1269.step B0 hW1269.imm (ge_ k1 (by omega))) (hsm_ k1 (by omega)) (hrg k1 (by omega)) ((congrArg Tree.S ht1214).symm.trans (hX_.thing ht1108 he1166 (by omega)).2) (h1210.move ((hF1224.trans hF1261).trans hF1270).step immM ((hF1224.trans hF1261).trans hF1270).to')) ?_)
  rintro e_ w1279 ⟨rfl,hs1278⟩
  refine ⟨_,rfl,fun a1280 hE1281=>?_⟩
  have hW1282:=hW1269.next_nil hs1278
  have hF1283:=hW1269.frN hs1278
  have hT1284:=TT.ofW ((hF1261.trans hF1270).trans hF1283) hW1282
  refine ⟨fun _=>hT1284,?_⟩
  refine D6 [14,15] [le113,le121,le130,le135,le136,le131,le132,le133,(153,.v (.bool false))] 0 (B2 (B2 (C0 (B2 (B2 (C0 (B2 C6))))))) (fun _ h=>h.cells) hT1284 hE1281 fun a1285 hE1286=>?_
  refine F3 kz ?_ _
  refine A7 (F6 hE1286 (b:=false) kz rfl ?_)
  refine wp_skip (A7 (B8 [0,1,2,3,4,5,6,7,8,9] kz ?_))
  refine B3 [0,1,2,3,4] [5,6,7,8,9] [le113,le121,le130,le135,le131,le132,le133,(154,.v (.agg #[lc140,lc139,lc141,lc139,lc139])),(155,.v (.agg #[lc140,lc139,lc141,lc139,lc139])),(156,.v (.agg #[lc140,lc139,lc153,lc139,lc139])),(157,.v (.agg #[lc140,lc139,lc153,lc139,lc139])),(158,.v (.slice A1202 s1198.length c1203))] hW1282 hE1286 fun a1287 hE1288=>?_
  refine B1 (C3 hE1288 (f:=12) (vs:=[lc178]) (d:=159) kz Tryz.call12 (S3 A1202 s1198.length c1203 _) ?_)
  rintro e_ w1290 ⟨rfl,hs1289⟩
  refine ⟨_,rfl,fun a1291 hE1292=>?_⟩
  have hW1293:=hW1282.next_nil hs1289
  have hF1294:=hW1282.frN hs1289
  refine B1 (G4 hW1293 hE1292 (e:=34) (size:=5) (len:=5) (cs:=[lc140,lc139,lc141,lc139,lc139,lc140,lc139,lc141,lc139,lc139,lc140,lc139,lc153,lc139,lc139,lc140,lc139,lc153,lc139,lc139,lc140,lc178,lc141,lc139,lc139]) (d:=160) kz kz fun b1295 a1296 w1297 hb1298 hz1299 hF1300 hW1301 hE1302=>?_)
  have hf1303:=hW1301.giveF (G:=F) 1 [B6 A1030 c1031 5 (R1 v_ (C2 v_ 8 sSyncGroupRequestF (E9 [B7 103] [B7 121] k_ D)))] rfl
  have ho1304:World.ownsRow w1297 0 34 5 (.slice (some ⟨b1295,0,none⟩) 5 5) 5 ([lc140,lc139,lc141,lc139,lc139,lc140,lc139,lc141,lc139,lc139,lc140,lc139,lc153,lc139,lc139,lc140,lc139,lc153,lc139,lc139,lc140,lc178,lc141,lc139,lc139]):=hW1301.own 1 _ rfl
  obtain ⟨hW1305,hF1306⟩:=hW1301.cutR 1 [B6 A1030 c1031 5 (R1 v_ (C2 v_ 8 sSyncGroupRequestF (E9 [B7 103] [B7 121] k_ D)))]
  have hr1307:TreeR w1297 (D4 F w w1297 [⟨b64,0,[.slice A42 sSyncGroupRequestF.length c43,.int .i64 C4],true⟩,⟨b72,0,[.slice A54 sSyncGroupResponseF.length c55,.int .i64 C5],true⟩,⟨b108,0,[.int .i64 0,.slice none 0 0,.bool false,.slice AO_ kO cO_,.slice none 0 0],true⟩,⟨bq_,0,[.int .i64 0,.slice none 0 0,.bool false,.slice Aq_ 7 cq_,.slice none 0 0],true⟩,⟨b1070,0,[.int .i64 n1044,.slice A1049 s1045.length c1050,.bool b1046,.slice A1051 l1047.length c1052,.slice A1053 u1048.length c1054],true⟩,⟨b1144,0,[.slice (((D.f k1).f 0).A) (((D.f k1).f 0).o.length) (((D.f k1).f 0).c),.slice ((((D.f k1).f 1).f 0).A) ((((D.f k1).f 1).f 0).l) ((((D.f k1).f 1).f 0).c),.int .i32 ((((D.f k1).f 1).f 1).n),.slice (((D.f k1).f 2).A) (((D.f k1).f 2).l) (((D.f k1).f 2).c),.slice (((D.f k1).f 3).A) (((D.f k1).f 3).l) (((D.f k1).f 3).c),.slice (((D.f k1).f 4).A) (((D.f k1).f 4).o.length) (((D.f k1).f 4).c)],true⟩] [B6 A1030 c1031 5 (R1 v_ (C2 v_ 8 sSyncGroupRequestF (E9 [B7 103] [B7 121] k_ D)))]) [.int .i64 0,.slice none 0 0,.bool false,.slice (some ⟨b1295,0,none⟩) 5 5,.slice none 0 0] (Tree.mk 0 [] false [(Tree.mk 0 [] false [] []),(Tree.mk 0 [] false [] []),(Tree.mk 0 [] true [] []),(Tree.mk 0 [] true [] []),(Tree.mk 0 s1198 false [] [])] []):=Y1 (show Trees _ _ [.int .i64 0,.slice none 0 0,.bool false,.slice none 0 0,.slice none 0 0,.int .i64 0,.slice none 0 0,.bool false,.slice none 0 0,.slice none 0 0,.int .i64 0,.slice none 0 0,.bool true,.slice none 0 0,.slice none 0 0,.int .i64 0,.slice none 0 0,.bool true,.slice none 0 0,.slice none 0 0,.int .i64 0,.slice A1202 s1198.length c1203,.bool false,.slice none 0 0,.slice none 0 0] [(Tree.mk 0 [] false [] []),(Tree.mk 0 [] false [] []),(Tree.mk 0 [] true [] []),(Tree.mk 0 [] true [] []),(Tree.mk 0 s1198 false [] [])] [[.int .i64 0,.slice none 0 0,.bool false,.slice none 0 0,.slice none 0 0],[.int .i64 0,.slice none 0 0,.bool false,.slice none 0 0,.slice none 0 0],[.int .i64 0,.slice none 0 0,.bool true,.slice none 0 0,.slice none 0 0],[.int .i64 0,.slice none 0 0,.bool true,.slice none 0 0,.slice none 0 0],[.int .i64 0,.slice A1202 s1198.length c1203,.bool false,.slice none 0 0,.slice none 0 0]] from (Trees.snoc (Trees.snoc (Trees.snoc (Trees.snoc (Trees.snoc (Trees.nil _ _) (TreeR.mk (n:=0) (b:=false) (s:=[]) (l:=[]) (u:=[]) (fun _=>[]) (Octs.nil _ _) (Slots.nil _ _ _ _) (fun i_ x_ h_=>by simp at h_) (TagsR.nil _ _))) (TreeR.mk (n:=0) (b:=false) (s:=[]) (l:=[]) (u:=[]) (fun _=>[]) (Octs.nil _ _) (Slots.nil _ _ _ _) (fun i_ x_ h_=>by simp at h_) (TagsR.nil _ _))) (TreeR.mk (n:=0) (b:=true) (s:=[]) (l:=[]) (u:=[]) (fun _=>[]) (Octs.nil _ _) (Slots.nil _ _ _ _) (fun i_ x_ h_=>by simp at h_) (TagsR.nil _ _))) (TreeR.mk (n:=0) (b:=true) (s:=[]) (l:=[]) (u:=[]) (fun _=>[]) (Octs.nil _ _) (Slots.nil _ _ _ _) (fun i_ x_ h_=>by simp at h_) (TagsR.nil _ _))) (TreeR.mk (n:=0) (b:=false) (s:=s1198) (l:=[]) (u:=[]) (fun _=>[]) (h1210.move ((((((hF1224.trans hF1261).trans hF1270).trans hF1283).trans hF1294).trans hF1300).trans hF1306).step immM ((((((hF1224.trans hF1261).trans hF1270).trans hF1283).trans hF1294).trans hF1300).trans hF1306).to') (Slots.nil _ _ _ _) (fun i_ x_ h_=>by simp at h_) (TagsR.nil _ _)))) ho1304 (rfl) (by simp) hf1303
  let lc179:Value:=.slice (some ⟨b1295,0,none⟩) 5 5
  refine B1 (C3 hE1302 (f:=11) (vs:=[lc179]) (d:=161) kz Tryz.call11 (Ck (some ⟨b1295,0,none⟩) 5 5 _) ?_)
  rintro e_ w1309 ⟨rfl,hs1308⟩
  refine ⟨_,rfl,fun a1310 hE1311=>?_⟩
  have hW1312:=hW1305.next_nil hs1308
  have hF1313:=hW1305.frN hs1308
  refine B1 (D7 hW1312 hE1311 (d:=26) (cs:=[lc140,lc139,lc141,lc139,lc139]) kz fun b1314 a1315 w1316 hb1317 hz1318 hF1319 hW1320 hE1321=>?_)
  refine B1 (C7 hW1320 hE1321 (oi:=6) (cs:=[lc140,lc139,lc141,lc179,lc139]) kz fun w1322 hF1323 hW1324 hE1325=>?_)
  refine B4 (A7 ?_)
  refine B8 [0,1,2,3,4,5,6,7,8,9,10,11,12,13,14,15] kz ?_
  refine B3 [0,1,2,3,4,5] [6,7,8,9,10,11,12,13,14,15] [le113,le121,le130,le135,le131,le132,le133,(163,.v (.int .i64 u_)),(164,.v (.int .i64 u_)),(166,.v (.slice A54 sSyncGroupResponseF.length c55)),(167,.v (.int .i64 u_)),(168,.v (.agg #[lc140,lc139,lc141,lc179,lc139]))] hW1324 hE1325 fun a1326 hE1327=>?_
  refine B1 (C3 hE1327 (f:=18) (vs:=[.slice A54 sSyncGroupResponseF.length c55,.int .i64 u_,.agg #[lc140,lc139,lc141,lc179,lc139]]) (d:=169) kz Tryz.call18 (Eh _ _ _ sSyncGroupResponseF u_ _ (z3 s1198) _ _ ⟨xs57,(h58.move ((((((((((((((((((((((((((((((((hF69.trans hF77).trans hF81).trans hF85).trans hF95).trans hF103).trans hF113).trans hF117).trans hF135).trans hF143).trans hF276).trans hF967).trans hF998).trans hF1027).trans hF1036).trans hF1067).trans hF1075).trans hF1079).trans hF1114).trans hF1128).trans hF1149).trans hF1155).trans hF1220).trans hF1224).trans hF1261).trans hF1270).trans hF1283).trans hF1294).trans hF1300).trans hF1306).trans hF1313).trans hF1319).trans hF1323).step immM ((((((((((((((((((((((((((((((((hF69.trans hF77).trans hF81).trans hF85).trans hF95).trans hF103).trans hF113).trans hF117).trans hF135).trans hF143).trans hF276).trans hF967).trans hF998).trans hF1027).trans hF1036).trans hF1067).trans hF1075).trans hF1079).trans hF1114).trans hF1128).trans hF1149).trans hF1155).trans hF1220).trans hF1224).trans hF1261).trans hF1270).trans hF1283).trans hF1294).trans hF1300).trans hF1306).trans hF1313).trans hF1319).trans hF1323).to'),(fun i_ x_ h_=>((h59 i_ x_ h_).move ((((((((((((((((((((((((((((((((hF69.trans hF77).trans hF81).trans hF85).trans hF95).trans hF103).trans hF113).trans hF117).trans hF135).trans hF143).trans hF276).trans hF967).trans hF998).trans hF1027).trans hF1036).trans hF1067).trans hF1075).trans hF1079).trans hF1114).trans hF1128).trans hF1149).trans hF1155).trans hF1220).trans hF1224).trans hF1261).trans hF1270).trans hF1283).trans hF1294).trans hF1300).trans hF1306).trans hF1313).trans hF1319).trans hF1323).step immM ((((((((((((((((((((((((((((((((hF69.trans hF77).trans hF81).trans hF85).trans hF95).trans hF103).trans hF113).trans hF117).trans hF135).trans hF143).trans hF276).trans hF967).trans hF998).trans hF1027).trans hF1036).trans hF1067).trans hF1075).trans hF1079).trans hF1114).trans hF1128).trans hF1149).trans hF1155).trans hF1220).trans hF1224).trans hF1261).trans hF1270).trans hF1283).trans hF1294).trans hF1300).trans hF1306).trans hF1313).trans hF1319).trans hF1323).to'))⟩ Pt Ps (hr1307.move ((hF1313.trans hF1319).trans hF1323).step immM ((hF1313.trans hF1319).trans hF1323).to')) ?_)
  rintro e_ w1331 ⟨cs1330,rfl,hr1329,hs1328⟩
  have hr1332:=hr1329.move (Step.refl _ B5) B0 (hW1324.laid (G:=F) hs1328)
  obtain ⟨n1333,s1334,b1335,l1336,u1337,A1338,c1339,A1340,c1341,A1342,c1343,xs1344,ht1350,hcs1345,h1346,h1347,h1348,h1349⟩:=hr1332.open_
  rw [hcs1345] at hr1332
  have hsm1351:=h1346.small
  have hsm1352:=h1347.small
  rw [hcs1345]
  refine ⟨_,rfl,fun a1353 hE1354=>?_⟩
  have hW1355:=hW1324.next_nil hs1328
  have hF1356:=hW1324.frN hs1328
  refine B1 (C3 hE1354 (f:=17) (vs:=[.agg #[.int .i64 n1333,.slice A1338 s1334.length c1339,.bool b1335,.slice A1340 l1336.length c1341,.slice A1342 u1337.length c1343]]) (d:=170) kz Tryz.call17 (Ee _ _ _ _ _ hr1332 (Nat.le_refl _)) ?_)
  rintro e_ w1360 ⟨cs1359,rfl,hr1358,hs1357⟩
  have hr1361:=hr1358.move (Step.refl _ B5) B0 (hW1355.laid (G:=F) hs1357)
  obtain ⟨n1362,s1363,b1364,l1365,u1366,A1367,c1368,A1369,c1370,A1371,c1372,xs1373,ht1379,hcs1374,h1375,h1376,h1377,h1378⟩:=hr1361.open_
  rw [hcs1374] at hr1361
  have hsm1380:=h1375.small
  have hsm1381:=h1376.small
  rw [hcs1374]
  refine ⟨_,rfl,fun a1382 hE1383=>?_⟩
  have hW1384:=hW1355.next_nil hs1357
  have hF1385:=hW1355.frN hs1357
  refine B1 (C3 hE1383 (f:=23) (vs:=[.int .i64 u_,.agg #[.int .i64 n1362,.slice A1367 s1363.length c1368,.bool b1364,.slice A1369 l1365.length c1370,.slice A1371 u1366.length c1372]]) (d:=171) kz Tryz.call23 (NS u_ _ (C2 u_ 8 sSyncGroupResponseF (z3 s1198)) _ _ hr1361 (GS _ _) GW) ?_)
  rintro e_ w1390 ⟨A1388,c1389,rfl,ho1387,hs1386⟩
  refine ⟨_,rfl,fun a1391 hE1392=>?_⟩
  obtain ⟨hW1393,hF1394⟩:=hW1384.frFresh hs1386 (B6 A1388 c1389 5 (Y9 u_ (C2 u_ 8 sSyncGroupResponseF (z3 s1198)))) (Nat.le_refl _) ho1387
  have hmade:(Y9 u_ (C2 u_ 8 sSyncGroupResponseF (z3 s1198))).length + 16 ≤ 1099511627776:=@GW u_ s1198
  refine B1 (C3 hE1392 (f:=22) (vs:=[.int .i64 u_,.slice A1388 ((Y9 u_ (C2 u_ 8 sSyncGroupResponseF (Tree.mk 0 [] false [(Tree.mk 0 [] false [] []),(Tree.mk 0 [] false [] []),(Tree.mk 0 [] true [] []),(Tree.mk 0 [] true [] []),(Tree.mk 0 s1198 false [] [])] []))).length) c1389]) (d:=172) kz Tryz.call22 (Pn u_ (C2 u_ 8 sSyncGroupResponseF (W3 s1198)) (Y9 u_ (C2 u_ 8 sSyncGroupResponseF (Tree.mk 0 [] false [(Tree.mk 0 [] false [] []),(Tree.mk 0 [] false [] []),(Tree.mk 0 [] true [] []),(Tree.mk 0 [] true [] []),(Tree.mk 0 s1198 false [] [])] []))) rfl (BT (hW1393.own 1 _ rfl) (by first | omega | (rw [HG]; decide) | (simp only [be_length]; exact Nat.le_trans (Hw _) (by decide)) | (have:=hroom; omega) | (have:=hmade; omega) | (simp only [List.length_append,List.length_nil]; omega)) (F:=fun _ _=>True) (fun _ _ _=>trivial)) (GS _ _) (Pd _ _) (GW)) ?_)
  rintro e_ w1395 ⟨E1396,cs1397,rfl,hr1398,hv1399,hs1400⟩
  have hr1401:=hr1398.move (Step.refl _ B5) B0 (fun b_ o_ h_ hb_=>hW1393.laid (G:=F) hs1400 b_ o_ (.inr (h_.resolve_left id)) hb_)
  have hY_:=back_told' (B:=s1198) hw16_ (by have h_:s1198 = H5 k_ (D.f k1):=((congrArg Tree.S ht1214).symm.trans (hX_.thing ht1108 he1166 (by omega)).2); rw [h_]; exact Dl hk_ (hsm_ k1 (by omega))) hv1399
  obtain ⟨Y_,hY_e_⟩:∃ X,X = BH E1396:=⟨_,rfl⟩
  rw [← hY_e_] at hY_ hr1401
  obtain ⟨n1402,s1403,b1404,l1405,u1406,A1407,c1408,A1409,c1410,A1411,c1412,xs1413,ht1419,hcs1414,h1415,h1416,h1417,h1418⟩:=hr1401.open_
  rw [hcs1414] at hr1401
  have hsm1420:=h1415.small
  have hsm1421:=h1416.small
  rw [hcs1414]
  refine ⟨_,rfl,fun a1422 hE1423=>?_⟩
  have hW1424:=hW1393.next_nil hs1400
  have hF1425:=hW1393.frN hs1400
  let lc180:Value:=.int .i64 n1402
  let lc181:Value:=.slice A1407 s1403.length c1408
  let lc182:Value:=.slice A1409 l1405.length c1410
  let lc183:Value:=.slice A1411 u1406.length c1412
  let lc184:Value:=(.agg #[.int .i64 n1402,.slice A1407 s1403.length c1408,.bool b1404,.slice A1409 l1405.length c1410,.slice A1411 u1406.length c1412])
  refine B3 [10,11,12] [13,14,15] [le113,le121,le130,le135,le131,le132,le133,(173,.v (.agg #[lc180,lc181,.bool b1404,lc182,lc183])),(174,.v (.bool true))] hW1424 hE1423 fun a1426 hE1427=>?_
  refine B1 (D7 hW1424 hE1427 (d:=27) (cs:=[lc140,lc139,lc141,lc139,lc139]) kz fun b1428 a1429 w1430 hb1431 hz1432 hF1433 hW1434 hE1435=>?_)
  refine B1 (C7 hW1434 hE1435 (oi:=7) (cs:=[lc180,lc181,.bool b1404,lc182,lc183]) kz fun w1436 hF1437 hW1438 hE1439=>?_)
  refine B3 [15] [] [le113,le121,le130,le135,(27,.p 7 0),(28,.v (.bool true)),le131,le132,le133] hW1438 hE1439 fun a1440 hE1441=>?_
  refine B4 (A7 ?_)
  refine J2 10 kz hW1438 fun w1442 hF1443 hW1444 hT1445=>?_
  let le138:Nat × SV:=(181,.v (.agg #[lc164,lc165,lc166,lc167,lc168,lc169]))
  refine D6 [0,1,2,3,6] [le113,le121,le130,le131,le132,le133,(177,.v (.bool false)),(178,.v (.agg #[lc180,lc181,.bool b1404,lc182,lc183])),le138] 5 (B2 (C0 (B2 (B2 (C0 (B2 C6)))))) (fun _ h=>h.cells) hT1445 hE1441 fun a1446 hE1447=>?_
  refine C9 (i:=4) kz (C3 hE1447 (f:=19) (vs:=[.agg #[lc180,lc181,.bool b1404,lc182,lc183],.int .i64 4]) (d:=179) kz Tryz.call19 (Bb _ _ 4 _ _ (hr1401.move ((hF1433.trans hF1437).trans hF1443).step immM ((hF1433.trans hF1437).trans hF1443).to')) ?_)
  rintro e_ w1451 ⟨cs1450,rfl,hr1449,hs1448⟩
  have hr1452:=hr1449.move hs1448 B0 (fun b o h_ hb_=>hW1444.laid (G:=F) hs1448 b o (.inl h_) (Nat.lt_of_lt_of_le hb_ hs1448.size))
  obtain ⟨n1453,s1454,b1455,l1456,u1457,A1458,c1459,A1460,c1461,A1462,c1463,xs1464,ht1470,hcs1465,h1466,h1467,h1468,h1469⟩:=hr1452.open_
  rw [hcs1465] at hr1452
  have hsm1471:=h1466.small
  have hsm1472:=h1467.small
  rw [hcs1465]
  refine ⟨_,rfl,fun a1473 hE1474=>?_⟩
  have hW1475:=hW1444.next_nil hs1448
  have hF1476:=hW1444.frN hs1448
  have hT1477:=TT.ofW hF1476 hW1475
  refine ⟨fun _=>hT1477,?_⟩
  refine D6 [5] [le113,le121,le130,le131,le132,le133,(177,.v (.bool false)),(180,.v (.slice A1458 s1454.length c1459)),le138] 3 (B2 (C0 (B2 (B2 (C0 (B2 C6)))))) (fun _ h=>h.cells) hT1477 hE1474 fun a1478 hE1479=>?_
  refine C9 (i:=7) kz (C3 hE1479 (f:=21) (vs:=[.slice A1458 s1454.length c1459,.agg #[lc164,lc165,lc166,lc167,lc168,lc169]]) (d:=182) kz Tryz.call21 (Ds k_ hk_ (D.f k1) _ (D4 F w w1451 [⟨b64,0,[.slice A42 sSyncGroupRequestF.length c43,.int .i64 C4],true⟩,⟨b72,0,[.slice A54 sSyncGroupResponseF.length c55,.int .i64 C5],true⟩,lo101,lo103,lo104,lo105,⟨b1314,0,[lc140,lc139,lc141,lc179,lc139],true⟩,⟨b1428,0,[lc180,lc181,.bool b1404,lc182,lc183],true⟩] [B6 A1030 c1031 5 (R1 v_ (C2 v_ 8 sSyncGroupRequestF (E9 [B7 103] [B7 121] k_ D))),B6 A1388 c1389 5 (Y9 u_ (C2 u_ 8 sSyncGroupResponseF (Tree.mk 0 [] false [(Tree.mk 0 [] false [] []),(Tree.mk 0 [] false [] []),(Tree.mk 0 [] true [] []),(Tree.mk 0 [] true [] []),(Tree.mk 0 s1198 false [] [])] [])))]) (Cj _ hW1475.step B0 hW1475.imm (ge_ k1 (by omega))) (hsm_ k1 (by omega)) (hrg k1 (by omega)) ((congrArg Tree.S ht1470).symm.trans (hY_.trans ((congrArg Tree.S ht1214).symm.trans (hX_.thing ht1108 he1166 (by omega)).2))) h1466) ?_)
  rintro e_ w1481 ⟨rfl,hs1480⟩
  refine ⟨_,rfl,fun a1482 hE1483=>?_⟩
  have hW1484:=hW1475.next_nil hs1480
  have hF1485:=hW1475.frN hs1480
  have hT1486:=TT.ofW (hF1476.trans hF1485) hW1484
  refine ⟨fun _=>hT1486,?_⟩
  refine D6 [8,9] [le113,le121,le130,le131,le132,le133,(184,.v (.bool false))] 0 (B2 (C0 (B2 (B2 (C0 (B2 C6)))))) (fun _ h=>h.cells) hT1486 hE1483 fun a1487 hE1488=>?_
  refine F3 kz ?_ _
  refine A7 (F6 hE1488 (b:=false) kz rfl ?_)
  refine wp_skip (G2 (A7 (D9 [0,1] kz ?_)))
  refine B3 [0,1] [] [le113,le121,le130,le131,le132,(127,.v (.int .i64 (IntKind.i64.wrap (((k1:Nat):Int) + 1))))] hW1484 hE1488 fun a1489 hE1490=>?_
  refine B4 (A7 ?_)
  obtain ⟨hE1491,hW1492,hF1493⟩:=hW1484.cutB hE1490 5 [⟨b64,0,(Dt A42 c43),true⟩,⟨b72,0,(z8 A54 c55),true⟩,lo101,lo103,lo104] [le113,le121,le130,le131,le132,(127,.v (.int .i64 (IntKind.i64.wrap (((k1:Nat):Int) + 1))))]
  obtain ⟨hW1494,hF1495⟩:=hW1492.cutR 1 [B6 A1030 c1031 5 (R1 v_ (C2 v_ 8 sSyncGroupRequestF (E9 [B7 103] [B7 121] k_ D)))]
  have he1496:IntKind.i64.wrap (((k1:Nat):Int) + 1) = ((k1 + 1:Nat):Int):=H1 (by omega)
  rw [he1496] at hE1491
  exact ⟨D.l - (k1 + 1),by omega,k1 + 1,rfl,by omega,hE1491.pk,hW1494,((((((((((((((((((((((((hF1128.trans hF1149).trans hF1155).trans hF1220).trans hF1224).trans hF1261).trans hF1270).trans hF1283).trans hF1294).trans hF1300).trans hF1306).trans hF1313).trans hF1319).trans hF1323).trans hF1356).trans hF1385).trans hF1394).trans hF1425).trans hF1433).trans hF1437).trans hF1443).trans hF1476).trans hF1485).trans hF1493).trans hF1495)⟩
 have hf1497:=of_decide_eq_false hc1131
 refine wp_exit (E2 (E2 (G3 (A7 (C1 [le110] hW1125 hE1130 fun a1498 hE1499=>?_)))))
 refine wp_ret (D5 hE1499 hW1125.cells (v:=.bool true) kz ?_)
 exact ⟨rfl,hW1125.step⟩
end Go.Proofs.YtipblegipibplaaGreatDoor.ME