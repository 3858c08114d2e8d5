/- The texts of a claim, put together: the engine, the contracts, the law. Own work. -/
import Derived.Test.YtmpejmiiphddhaaDoorRWu1P2
import Derived.Deep.LoopGhost
namespace Go.Proofs.YtmpejmiiphddhaaDoorR.ME
open Go
open Go.RowKit
set_option linter.unusedVariables false
set_option linter.unusedSimpArgs false
set_option maxRecDepth 20000
set_option maxHeartbeats 4000000 in
theorem qa7 (v:Int) (D:DV) (b o:Nat) (w:World) (F:Nat → Nat → Prop) (hat:AtF w F b o [.string ((D.f 0).s),.string ((D.f 1).s),.map D.m]) (hok:qay w F D):Calls Tryd.prog 30 #[.pointer (some ⟨b,o,none⟩)] w (qdu w F (qav D)):=by
 refine enter (n:=33) Tryd.func30 rfl Tryd.ntmps30 kz fun a hE=>?_
 have hW:WOk w Nil w [⟨b,o,[.string ((D.f 0).s),.string ((D.f 1).s),.map D.m],false⟩] []:=(WOk.start w Nil).start1 hat rfl rfl
 unfold qay at hok
 obtain ⟨g1,g2,g3,g3l,g3x,_⟩:=hok
 have hE0:=(EnvOk.ptr0 (cs:=[.string ((D.f 0).s),.string ((D.f 1).s),.map D.m]) (r:=false) hE).pk (env':=[(0,.p 0 0)])
 refine qad [0] kz ?_
 refine qak (qaH hW hE0 (d:=2) (cs:=[.int .i64 0,.slice none 0 0,.bool false,.slice none 0 0,.slice none 0 0]) kz fun b4 a5 w6 hb7 hz8 hF9 hW10 hE11=>?_)
 refine qaf (qab ?_)
 refine qad [0,1,2,3] kz ?_
 refine qak (qeB (t:=24) (e:=27) (size:=5) (bytes:=88) (d:=4) (j:=2) (.agg #[.int .i64 0,.slice none 0 0,.bool false,.slice none 0 0,.slice none 0 0]) [.int .i64 0,.slice none 0 0,.bool false,.slice none 0 0,.slice none 0 0,.int .i64 0,.slice none 0 0,.bool false,.slice none 0 0,.slice none 0 0] hW10 hE11 fun b12 a13 w14 hb15 hz16 hF17 hW18 hE19=>?_)
 refine qal [1] [2,3] [(0,.p 0 0),(2,.p 1 0),(5,.v (.agg #[.int .i64 0,.slice none 0 0,.bool false,.slice (some ⟨b12,0,none⟩) 2 2,.slice none 0 0]))] hW18 hE19 fun a20 hE21=>?_
 refine qak (qaH hW18 hE21 (d:=3) (cs:=[.int .i64 0,.slice none 0 0,.bool false,.slice none 0 0,.slice none 0 0]) kz fun b22 a23 w24 hb25 hz26 hF27 hW28 hE29=>?_)
 refine qak (qao hW28 hE29 (oi:=3) (cs:=[.int .i64 0,.slice none 0 0,.bool false,.slice (some ⟨b12,0,none⟩) 2 2,.slice none 0 0]) kz fun w30 hF31 hW32 hE33=>?_)
 refine qaf (qab ?_)
 refine qa4 9 kz hW32 fun w34 hF35 hW36 hT37=>?_
 refine qaK [0,1,2,3,4,5] [(0,.p 0 0),(2,.p 1 0),(3,.p 3 0),(7,.v (.slice (some ⟨b12,0,none⟩) 2 2)),(11,.v (.string ((D.f 0).s)))] 4 (qac qag) (fun _ h=>h.cells) hT37 hE33 fun a38 hE39=>?_
 refine qaG (i:=6) kz (qdO (d:=12) (src:=9) (dst:=22) (e:=5) (s:=((D.f 0).s)) hW36 hE39 (by omega) fun b40 c41 a42 w43 hF44 hW45 hO46 hE47=>?_)
 have hO48:=hO46 F
 have hT49:=TT.ofW hF44 hW45
 refine ⟨fun _=>hT49,?_⟩
 refine qaK [7] [(0,.p 0 0),(2,.p 1 0),(3,.p 3 0),(7,.v (.slice (some ⟨b12,0,none⟩) 2 2)),(13,.v (.agg #[.int .i64 0,.slice (some ⟨b40,0,none⟩) ((sb ((D.f 0).s)).length) c41,.bool false,.slice none 0 0,.slice none 0 0]))] 2 (qac qag) (fun _ h=>h.cells) hT49 hE47 fun a50 hE51=>?_
 refine qaA hE51 (i:=8) (t:=24) (A:=(some ⟨b12,0,none⟩)) (m:=2) (q:=0) (d:=14) kz (e:=27) (size:=5) (bytes:=88) (j:=0) kz (b:=b12) (o:=0) rfl rfl (by decide) kz kz (qac qag) hT49 fun a52 hE53=>?_
 have hE54:=hE53.recast 14 (.v (.pointer (some ⟨b12,0 + 0 * 5,none⟩))) (.p 2 0) rfl rfl (Nat.le_of_ble_eq_true (n:=3) rfl)
 have hE55:=hE54.pk (env':=[(0,.p 0 0),(2,.p 1 0),(3,.p 3 0),(7,.v (.slice (some ⟨b12,0,none⟩) 2 2)),(13,.v (.agg #[.int .i64 0,.slice (some ⟨b40,0,none⟩) ((sb ((D.f 0).s)).length) c41,.bool false,.slice none 0 0,.slice none 0 0])),(14,.p 2 0)])
 refine qaG (i:=9) kz (qao hW45 hE55 (oi:=2) (cs:=[.int .i64 0,.slice (some ⟨b40,0,none⟩) ((sb ((D.f 0).s)).length) c41,.bool false,.slice none 0 0,.slice none 0 0,.int .i64 0,.slice none 0 0,.bool false,.slice none 0 0,.slice none 0 0]) kz fun w56 hF57 hW58 hE59=>?_)
 refine ⟨fun h=>absurd rfl h,?_⟩
 refine qaS kz ?_ _
 refine qab ?_
 refine qa4 9 kz hW58 fun w60 hF61 hW62 hT63=>?_
 refine qaK [0,1,2,3,4,5] [(0,.p 0 0),(2,.p 1 0),(3,.p 3 0),(16,.v (.slice (some ⟨b12,0,none⟩) 2 2)),(20,.v (.string ((D.f 1).s)))] 4 (qac qag) (fun _ h=>h.cells) hT63 hE59 fun a64 hE65=>?_
 refine qaG (i:=6) kz (qdO (d:=21) (src:=9) (dst:=22) (e:=5) (s:=((D.f 1).s)) hW62 hE65 (by omega) fun b66 c67 a68 w69 hF70 hW71 hO72 hE73=>?_)
 have hO74:=hO72 F
 have hT75:=TT.ofW hF70 hW71
 refine ⟨fun _=>hT75,?_⟩
 refine qaK [7] [(0,.p 0 0),(2,.p 1 0),(3,.p 3 0),(16,.v (.slice (some ⟨b12,0,none⟩) 2 2)),(22,.v (.agg #[.int .i64 0,.slice (some ⟨b66,0,none⟩) ((sb ((D.f 1).s)).length) c67,.bool false,.slice none 0 0,.slice none 0 0]))] 2 (qac qag) (fun _ h=>h.cells) hT75 hE73 fun a76 hE77=>?_
 refine qaA hE77 (i:=8) (t:=24) (A:=(some ⟨b12,0,none⟩)) (m:=2) (q:=1) (d:=23) kz (e:=27) (size:=5) (bytes:=88) (j:=1) kz (b:=b12) (o:=0) rfl rfl (by decide) kz kz (qac qag) hT75 fun a78 hE79=>?_
 have hE80:=hE79.recast 23 (.v (.pointer (some ⟨b12,0 + 1 * 5,none⟩))) (.p 2 5) rfl rfl (Nat.le_of_ble_eq_true (n:=3) rfl)
 have hE81:=hE80.pk (env':=[(0,.p 0 0),(2,.p 1 0),(3,.p 3 0),(16,.v (.slice (some ⟨b12,0,none⟩) 2 2)),(22,.v (.agg #[.int .i64 0,.slice (some ⟨b66,0,none⟩) ((sb ((D.f 1).s)).length) c67,.bool false,.slice none 0 0,.slice none 0 0])),(23,.p 2 5)])
 refine qaG (i:=9) kz (qao hW71 hE81 (oi:=2) (cs:=[.int .i64 0,.slice (some ⟨b40,0,none⟩) ((sb ((D.f 0).s)).length) c41,.bool false,.slice none 0 0,.slice none 0 0,.int .i64 0,.slice (some ⟨b66,0,none⟩) ((sb ((D.f 1).s)).length) c67,.bool false,.slice none 0 0,.slice none 0 0]) kz fun w82 hF83 hW84 hE85=>?_)
 refine ⟨fun h=>absurd rfl h,?_⟩
 refine qaS kz ?_ _
 refine qab ?_
 refine qad [0,1,2,3,4] kz ?_
 refine qal [0,1,2] [3,4] [(2,.p 1 0),(3,.p 3 0),(26,.p 0 2)] hW84 hE85 fun a86 hE87=>?_
 refine qak (qeK hE87 (v:=.func (.func 52) #[] #[.pointer (some ⟨b22,0,none⟩)]) (d:=27) kz fun a88 hE89=>?_)
 refine qak (qap hE89 (f:=31) (vs:=[.pointer (some ⟨b,o + 2,none⟩),.func (.func 52) #[] #[.pointer (some ⟨b22,0,none⟩)]]) (d:=28) kz Tryd.call31 (qe6 (F:=(Imm F w w82 [⟨b,o,[.string ((D.f 0).s),.string ((D.f 1).s),.map D.m],false⟩,⟨b4,0,[.int .i64 0,.slice none 0 0,.bool false,.slice none 0 0,.slice none 0 0],true⟩,⟨b12,0,[.int .i64 0,.slice (some ⟨b40,0,none⟩) ((sb ((D.f 0).s)).length) c41,.bool false,.slice none 0 0,.slice none 0 0,.int .i64 0,.slice (some ⟨b66,0,none⟩) ((sb ((D.f 1).s)).length) c67,.bool false,.slice none 0 0,.slice none 0 0],true⟩,⟨b22,0,[.int .i64 0,.slice none 0 0,.bool false,.slice (some ⟨b12,0,none⟩) 2 2,.slice none 0 0],true⟩] [])) Tryd.call52 qbY ((hat.one 2 rfl).move hW84.step nilM hW84.imm) (g3.move hW84.step nilM hW84.imm) (Str.of hW84 3 rfl) (qf0 3 rfl) g3l) ?_)
 rintro e_ w90 ⟨rfl,A91,c92,hst93,hU94,hs95⟩
 obtain ⟨hW96,hF97,hl98⟩:=hW84.wrote 3 [⟨b,o,[.string ((D.f 0).s),.string ((D.f 1).s),.map D.m],false⟩,⟨b4,0,[.int .i64 0,.slice none 0 0,.bool false,.slice none 0 0,.slice none 0 0],true⟩,⟨b12,0,[.int .i64 0,.slice (some ⟨b40,0,none⟩) ((sb ((D.f 0).s)).length) c41,.bool false,.slice none 0 0,.slice none 0 0,.int .i64 0,.slice (some ⟨b66,0,none⟩) ((sb ((D.f 1).s)).length) c67,.bool false,.slice none 0 0,.slice none 0 0],true⟩,⟨b22,0,[.int .i64 0,.slice none 0 0,.bool false,.slice (some ⟨b12,0,none⟩) 2 2,.slice A91 D.u.length c92],true⟩] rfl hs95 hst93
 have hU102:=hU94.move (Step.refl _ Nil) nilM (fun b_ o_ h_ hb_=>hl98 (G:=F) b_ o_ (.inr h_) hb_)
 refine ⟨_,rfl,fun a99 hE100=>?_⟩
 have hE101:=(EnvOk.places (tb':=[⟨b,o,[.string ((D.f 0).s),.string ((D.f 1).s),.map D.m],false⟩,⟨b4,0,[.int .i64 0,.slice none 0 0,.bool false,.slice none 0 0,.slice none 0 0],true⟩,⟨b12,0,[.int .i64 0,.slice (some ⟨b40,0,none⟩) ((sb ((D.f 0).s)).length) c41,.bool false,.slice none 0 0,.slice none 0 0,.int .i64 0,.slice (some ⟨b66,0,none⟩) ((sb ((D.f 1).s)).length) c67,.bool false,.slice none 0 0,.slice none 0 0],true⟩,⟨b22,0,[.int .i64 0,.slice none 0 0,.bool false,.slice (some ⟨b12,0,none⟩) 2 2,.slice A91 D.u.length c92],true⟩]) hE100 (show Pl [⟨b,o,[.string ((D.f 0).s),.string ((D.f 1).s),.map D.m],false⟩,⟨b4,0,[.int .i64 0,.slice none 0 0,.bool false,.slice none 0 0,.slice none 0 0],true⟩,⟨b12,0,[.int .i64 0,.slice (some ⟨b40,0,none⟩) ((sb ((D.f 0).s)).length) c41,.bool false,.slice none 0 0,.slice none 0 0,.int .i64 0,.slice (some ⟨b66,0,none⟩) ((sb ((D.f 1).s)).length) c67,.bool false,.slice none 0 0,.slice none 0 0],true⟩,⟨b22,0,[.int .i64 0,.slice none 0 0,.bool false,.slice (some ⟨b12,0,none⟩) 2 2,.slice none 0 0],true⟩] [⟨b,o,[.string ((D.f 0).s),.string ((D.f 1).s),.map D.m],false⟩,⟨b4,0,[.int .i64 0,.slice none 0 0,.bool false,.slice none 0 0,.slice none 0 0],true⟩,⟨b12,0,[.int .i64 0,.slice (some ⟨b40,0,none⟩) ((sb ((D.f 0).s)).length) c41,.bool false,.slice none 0 0,.slice none 0 0,.int .i64 0,.slice (some ⟨b66,0,none⟩) ((sb ((D.f 1).s)).length) c67,.bool false,.slice none 0 0,.slice none 0 0],true⟩,⟨b22,0,[.int .i64 0,.slice none 0 0,.bool false,.slice (some ⟨b12,0,none⟩) 2 2,.slice A91 D.u.length c92],true⟩] from ⟨rfl,rfl,⟨rfl,rfl,⟨rfl,rfl,⟨rfl,rfl,trivial⟩⟩⟩⟩)).pk (env':=[(28,.v (.tuple #[])),(2,.p 1 0),(3,.p 3 0),(26,.p 0 2),(27,.v (.func (.func 52) #[] #[.pointer (some ⟨b22,0,none⟩)]))])
 refine qaf (qab ?_)
 refine qad [0,1,2] kz ?_
 refine qal [0,1] [2] [(2,.p 1 0),(3,.p 3 0),(30,.v (.slice A91 D.u.length c92))] hW96 hE101 fun a103 hE104=>?_
 refine qak (qap hE104 (f:=33) (vs:=[.slice A91 D.u.length c92]) (d:=31) kz Tryd.call33 (qgC hU102 g3.sorted) ?_)
 rintro e_ w106 ⟨rfl,hs105⟩
 refine ⟨_,rfl,fun a107 hE108=>?_⟩
 have hW109:=hW96.next_nil hs105
 have hF110:=hW96.frN hs105
 refine qaf (qab ?_)
 refine qad [0,1] kz ?_
 refine qal [0] [1] [(2,.p 1 0),(32,.v (.agg #[.int .i64 0,.slice none 0 0,.bool false,.slice (some ⟨b12,0,none⟩) 2 2,.slice A91 D.u.length c92]))] hW109 hE108 fun a111 hE112=>?_
 refine qak (qao hW109 hE112 (oi:=1) (cs:=[.int .i64 0,.slice none 0 0,.bool false,.slice (some ⟨b12,0,none⟩) 2 2,.slice A91 D.u.length c92]) kz fun w113 hF114 hW115 hE116=>?_)
 refine qaf (qab ?_)
 refine wp_ret ?_
 refine qaV hE116 hW115.cells (v:=.agg #[.int .i64 0,.slice none 0 0,.bool false,.slice (some ⟨b12,0,none⟩) 2 2,.slice A91 D.u.length c92]) kz ?_
 exact qfE (u:=D.u) (l:=[.mk 0 (sb (D.f 0).s) false [] [],.mk 0 (sb (D.f 1).s) false [] []]) (css:=[[.int .i64 0,.slice (some ⟨b40,0,none⟩) ((sb ((D.f 0).s)).length) c41,.bool false,.slice none 0 0,.slice none 0 0],[.int .i64 0,.slice (some ⟨b66,0,none⟩) ((sb ((D.f 1).s)).length) c67,.bool false,.slice none 0 0,.slice none 0 0]]) hW115 2 rfl ⟨(show TreeR _ (Imm F w w113 [⟨b,o,[.string ((D.f 0).s),.string ((D.f 1).s),.map D.m],false⟩,⟨b4,0,[.int .i64 0,.slice none 0 0,.bool false,.slice (some ⟨b12,0,none⟩) 2 2,.slice A91 D.u.length c92],true⟩,⟨b12,0,[.int .i64 0,.slice (some ⟨b40,0,none⟩) ((sb ((D.f 0).s)).length) c41,.bool false,.slice none 0 0,.slice none 0 0,.int .i64 0,.slice (some ⟨b66,0,none⟩) ((sb ((D.f 1).s)).length) c67,.bool false,.slice none 0 0,.slice none 0 0],true⟩,⟨b22,0,[.int .i64 0,.slice none 0 0,.bool false,.slice (some ⟨b12,0,none⟩) 2 2,.slice A91 D.u.length c92],true⟩] []) _ _ from (TreeR.mk (n:=0) (b:=false) (s:=(sb ((D.f 0).s))) (l:=[]) (u:=[]) (fun _=>[]) (hO48.move ((((((hF57.trans hF61).trans hF70).trans hF83).trans hF97).trans hF110).trans hF114).step immM ((((((hF57.trans hF61).trans hF70).trans hF83).trans hF97).trans hF110).trans hF114).to') (Slots.nil _ _ _ _) (fun i_ x_ h_=>by simp at h_) (TagsR.nil _ _))).move (Step.refl _ Nil) nilM qbs,(show TreeR _ (Imm F w w113 [⟨b,o,[.string ((D.f 0).s),.string ((D.f 1).s),.map D.m],false⟩,⟨b4,0,[.int .i64 0,.slice none 0 0,.bool false,.slice (some ⟨b12,0,none⟩) 2 2,.slice A91 D.u.length c92],true⟩,⟨b12,0,[.int .i64 0,.slice (some ⟨b40,0,none⟩) ((sb ((D.f 0).s)).length) c41,.bool false,.slice none 0 0,.slice none 0 0,.int .i64 0,.slice (some ⟨b66,0,none⟩) ((sb ((D.f 1).s)).length) c67,.bool false,.slice none 0 0,.slice none 0 0],true⟩,⟨b22,0,[.int .i64 0,.slice none 0 0,.bool false,.slice (some ⟨b12,0,none⟩) 2 2,.slice A91 D.u.length c92],true⟩] []) _ _ from (TreeR.mk (n:=0) (b:=false) (s:=(sb ((D.f 1).s))) (l:=[]) (u:=[]) (fun _=>[]) (hO74.move (((hF83.trans hF97).trans hF110).trans hF114).step immM (((hF83.trans hF97).trans hF110).trans hF114).to') (Slots.nil _ _ _ _) (fun i_ x_ h_=>by simp at h_) (TagsR.nil _ _))).move (Step.refl _ Nil) nilM qbs,trivial⟩ ((show TagsR _ (Imm F w w113 [⟨b,o,[.string ((D.f 0).s),.string ((D.f 1).s),.map D.m],false⟩,⟨b4,0,[.int .i64 0,.slice none 0 0,.bool false,.slice (some ⟨b12,0,none⟩) 2 2,.slice A91 D.u.length c92],true⟩,⟨b12,0,[.int .i64 0,.slice (some ⟨b40,0,none⟩) ((sb ((D.f 0).s)).length) c41,.bool false,.slice none 0 0,.slice none 0 0,.int .i64 0,.slice (some ⟨b66,0,none⟩) ((sb ((D.f 1).s)).length) c67,.bool false,.slice none 0 0,.slice none 0 0],true⟩,⟨b22,0,[.int .i64 0,.slice none 0 0,.bool false,.slice (some ⟨b12,0,none⟩) 2 2,.slice A91 D.u.length c92],true⟩] []) _ _ _ from (hU102.move (hF110.trans hF114).step immM (hF110.trans hF114).to')).move (Step.refl _ Nil) nilM qbs)
set_option maxHeartbeats 4000000 in
theorem qbC (v:Int) (D:DV) (b o:Nat) (w:World) (F:Nat → Nat → Prop) (hat:AtF w F b o [.int .i16 v,.pointer ((D.f 0).A),.pointer ((D.f 1).A),.slice ((D.f 2).A) ((D.f 2).l) ((D.f 2).c),.int .i64 ((D.f 3).n),.map D.m]) (hok:qaJ w F D):Calls Tryd.prog 18 #[.pointer (some ⟨b,o,none⟩)] w (qdu w F (qaW D)):=by
 refine enter (n:=96) Tryd.func18 rfl Tryd.ntmps18 kz fun a hE=>?_
 have hW:WOk w Nil w [⟨b,o,[.int .i16 v,.pointer ((D.f 0).A),.pointer ((D.f 1).A),.slice ((D.f 2).A) ((D.f 2).l) ((D.f 2).c),.int .i64 ((D.f 3).n),.map D.m],false⟩] []:=(WOk.start w Nil).start1 hat rfl rfl
 unfold qaJ at hok
 obtain ⟨⟨g1,g1l⟩,⟨g2,g2l⟩,⟨g3,g3l,g3e⟩,g4,g5,g5l,g5x,_⟩:=hok
 have hE0:=(EnvOk.ptr0 (cs:=[.int .i16 v,.pointer ((D.f 0).A),.pointer ((D.f 1).A),.slice ((D.f 2).A) ((D.f 2).l) ((D.f 2).c),.int .i64 ((D.f 3).n),.map D.m]) (r:=false) hE).pk (env':=[(0,.p 0 0)])
 refine qad [0] kz ?_
 refine qak (qaH hW hE0 (d:=2) (cs:=[.int .i64 0,.slice none 0 0,.bool false,.slice none 0 0,.slice none 0 0]) kz fun b6 a7 w8 hb9 hz10 hF11 hW12 hE13=>?_)
 refine qaf (qab ?_)
 refine qad [0,1,2,3] kz ?_
 refine qak (qeB (t:=24) (e:=27) (size:=5) (bytes:=88) (d:=5) (j:=4) (.agg #[.int .i64 0,.slice none 0 0,.bool false,.slice none 0 0,.slice none 0 0]) [.int .i64 0,.slice none 0 0,.bool false,.slice none 0 0,.slice none 0 0,.int .i64 0,.slice none 0 0,.bool false,.slice none 0 0,.slice none 0 0,.int .i64 0,.slice none 0 0,.bool false,.slice none 0 0,.slice none 0 0,.int .i64 0,.slice none 0 0,.bool false,.slice none 0 0,.slice none 0 0] hW12 hE13 fun b14 a15 w16 hb17 hz18 hF19 hW20 hE21=>?_)
 refine qal [1] [2,3] [(0,.p 0 0),(2,.p 1 0),(6,.v (.agg #[.int .i64 0,.slice none 0 0,.bool false,.slice (some ⟨b14,0,none⟩) 4 4,.slice none 0 0]))] hW20 hE21 fun a22 hE23=>?_
 refine qak (qaH hW20 hE23 (d:=3) (cs:=[.int .i64 0,.slice none 0 0,.bool false,.slice none 0 0,.slice none 0 0]) kz fun b24 a25 w26 hb27 hz28 hF29 hW30 hE31=>?_)
 refine qak (qao hW30 hE31 (oi:=3) (cs:=[.int .i64 0,.slice none 0 0,.bool false,.slice (some ⟨b14,0,none⟩) 4 4,.slice none 0 0]) kz fun w32 hF33 hW34 hE35=>?_)
 refine qaf (qab ?_)
 refine qa4 8 kz hW34 fun w36 hF37 hW38 hT39=>?_
 refine qaK [0,1,2,3,4,5] [(0,.p 0 0),(2,.p 1 0),(3,.p 3 0),(8,.v (.slice (some ⟨b14,0,none⟩) 4 4)),(12,.v (.pointer ((D.f 0).A)))] 3 (qac qag) (fun _ h=>h.cells) hT39 hE35 fun a40 hE41=>?_
 refine qaG (i:=6) kz (qap hE41 (f:=29) (vs:=[.pointer ((D.f 0).A)]) (d:=13) kz Tryd.call29 (qik _ (D.f 0).s _ (Imm F w w36 [⟨b,o,[.int .i16 v,.pointer ((D.f 0).A),.pointer ((D.f 1).A),.slice ((D.f 2).A) ((D.f 2).l) ((D.f 2).c),.int .i64 ((D.f 3).n),.map D.m],false⟩,⟨b6,0,[.int .i64 0,.slice none 0 0,.bool false,.slice none 0 0,.slice none 0 0],true⟩,⟨b14,0,[.int .i64 0,.slice none 0 0,.bool false,.slice none 0 0,.slice none 0 0,.int .i64 0,.slice none 0 0,.bool false,.slice none 0 0,.slice none 0 0,.int .i64 0,.slice none 0 0,.bool false,.slice none 0 0,.slice none 0 0,.int .i64 0,.slice none 0 0,.bool false,.slice none 0 0,.slice none 0 0],true⟩,⟨b24,0,[.int .i64 0,.slice none 0 0,.bool false,.slice (some ⟨b14,0,none⟩) 4 4,.slice none 0 0],true⟩] []) (fun ad h_=>by obtain ⟨b',o',g1,g2⟩:=g1 ad h_; exact ⟨b',o',g1,g2.move hW38.step nilM hW38.imm⟩) g1l) ?_)
 rintro e_ w45 ⟨cs44,rfl,hr43,hs42⟩
 have hr46:=hr43.move (Step.refl _ Nil) nilM (hW38.laid (G:=F) hs42)
 obtain ⟨n47,s48,b49,l50,u51,A52,c53,A54,c55,A56,c57,xs58,ht64,hcs59,h60,h61,h62,h63⟩:=hr46.open_
 rw [hcs59] at hr46
 have hsm65:=h60.small
 have hsm66:=h61.small
 rw [hcs59]
 refine ⟨_,rfl,fun a67 hE68=>?_⟩
 have hW69:=hW38.next_nil hs42
 have hF70:=hW38.frN hs42
 have hT71:=TT.ofW hF70 hW69
 refine ⟨fun _=>hT71,?_⟩
 refine qaA hE68 (i:=7) (t:=24) (A:=(some ⟨b14,0,none⟩)) (m:=4) (q:=0) (d:=14) kz (e:=27) (size:=5) (bytes:=88) (j:=0) kz (b:=b14) (o:=0) rfl rfl (by decide) kz kz (qac qag) hT71 fun a72 hE73=>?_
 have hE74:=hE73.recast 14 (.v (.pointer (some ⟨b14,0 + 0 * 5,none⟩))) (.p 2 0) rfl rfl (Nat.le_of_ble_eq_true (n:=3) rfl)
 have hE75:=hE74.pk (env':=[(0,.p 0 0),(2,.p 1 0),(3,.p 3 0),(8,.v (.slice (some ⟨b14,0,none⟩) 4 4)),(12,.v (.pointer ((D.f 0).A))),(13,.v (.agg #[.int .i64 n47,.slice A52 s48.length c53,.bool b49,.slice A54 l50.length c55,.slice A56 u51.length c57])),(14,.p 2 0)])
 refine qaG (i:=8) kz (qao hW69 hE75 (oi:=2) (cs:=[.int .i64 n47,.slice A52 s48.length c53,.bool b49,.slice A54 l50.length c55,.slice A56 u51.length c57,.int .i64 0,.slice none 0 0,.bool false,.slice none 0 0,.slice none 0 0,.int .i64 0,.slice none 0 0,.bool false,.slice none 0 0,.slice none 0 0,.int .i64 0,.slice none 0 0,.bool false,.slice none 0 0,.slice none 0 0]) kz fun w76 hF77 hW78 hE79=>?_)
 refine ⟨fun h=>absurd rfl h,?_⟩
 refine qaS kz ?_ _
 refine qab ?_
 refine qa4 8 kz hW78 fun w80 hF81 hW82 hT83=>?_
 refine qaK [0,1,2,3,4,5] [(0,.p 0 0),(2,.p 1 0),(3,.p 3 0),(16,.v (.slice (some ⟨b14,0,none⟩) 4 4)),(20,.v (.pointer ((D.f 1).A)))] 3 (qac qag) (fun _ h=>h.cells) hT83 hE79 fun a84 hE85=>?_
 refine qaG (i:=6) kz (qap hE85 (f:=29) (vs:=[.pointer ((D.f 1).A)]) (d:=21) kz Tryd.call29 (qik _ (D.f 1).s _ (Imm F w w80 [⟨b,o,[.int .i16 v,.pointer ((D.f 0).A),.pointer ((D.f 1).A),.slice ((D.f 2).A) ((D.f 2).l) ((D.f 2).c),.int .i64 ((D.f 3).n),.map D.m],false⟩,⟨b6,0,[.int .i64 0,.slice none 0 0,.bool false,.slice none 0 0,.slice none 0 0],true⟩,⟨b14,0,[.int .i64 n47,.slice A52 s48.length c53,.bool b49,.slice A54 l50.length c55,.slice A56 u51.length c57,.int .i64 0,.slice none 0 0,.bool false,.slice none 0 0,.slice none 0 0,.int .i64 0,.slice none 0 0,.bool false,.slice none 0 0,.slice none 0 0,.int .i64 0,.slice none 0 0,.bool false,.slice none 0 0,.slice none 0 0],true⟩,⟨b24,0,[.int .i64 0,.slice none 0 0,.bool false,.slice (some ⟨b14,0,none⟩) 4 4,.slice none 0 0],true⟩] []) (fun ad h_=>by obtain ⟨b',o',g1,g2⟩:=g2 ad h_; exact ⟨b',o',g1,g2.move hW82.step nilM hW82.imm⟩) g2l) ?_)
 rintro e_ w89 ⟨cs88,rfl,hr87,hs86⟩
 have hr90:=hr87.move (Step.refl _ Nil) nilM (hW82.laid (G:=F) hs86)
 obtain ⟨n91,s92,b93,l94,u95,A96,c97,A98,c99,A100,c101,xs102,ht108,hcs103,h104,h105,h106,h107⟩:=hr90.open_
 rw [hcs103] at hr90
 have hsm109:=h104.small
 have hsm110:=h105.small
 rw [hcs103]
 refine ⟨_,rfl,fun a111 hE112=>?_⟩
 have hW113:=hW82.next_nil hs86
 have hF114:=hW82.frN hs86
 have hT115:=TT.ofW hF114 hW113
 refine ⟨fun _=>hT115,?_⟩
 refine qaA hE112 (i:=7) (t:=24) (A:=(some ⟨b14,0,none⟩)) (m:=4) (q:=1) (d:=22) kz (e:=27) (size:=5) (bytes:=88) (j:=1) kz (b:=b14) (o:=0) rfl rfl (by decide) kz kz (qac qag) hT115 fun a116 hE117=>?_
 have hE118:=hE117.recast 22 (.v (.pointer (some ⟨b14,0 + 1 * 5,none⟩))) (.p 2 5) rfl rfl (Nat.le_of_ble_eq_true (n:=3) rfl)
 have hE119:=hE118.pk (env':=[(0,.p 0 0),(2,.p 1 0),(3,.p 3 0),(16,.v (.slice (some ⟨b14,0,none⟩) 4 4)),(20,.v (.pointer ((D.f 1).A))),(21,.v (.agg #[.int .i64 n91,.slice A96 s92.length c97,.bool b93,.slice A98 l94.length c99,.slice A100 u95.length c101])),(22,.p 2 5)])
 refine qaG (i:=8) kz (qao hW113 hE119 (oi:=2) (cs:=[.int .i64 n47,.slice A52 s48.length c53,.bool b49,.slice A54 l50.length c55,.slice A56 u51.length c57,.int .i64 n91,.slice A96 s92.length c97,.bool b93,.slice A98 l94.length c99,.slice A100 u95.length c101,.int .i64 0,.slice none 0 0,.bool false,.slice none 0 0,.slice none 0 0,.int .i64 0,.slice none 0 0,.bool false,.slice none 0 0,.slice none 0 0]) kz fun w120 hF121 hW122 hE123=>?_)
 refine ⟨fun h=>absurd rfl h,?_⟩
 refine qaS kz ?_ _
 refine qab ?_
 refine qa4 9 kz hW122 fun w124 hF125 hW126 hT127=>?_
 refine qaK [0,1,2,3,4,5,6] [(0,.p 0 0),(2,.p 1 0),(3,.p 3 0),(24,.v (.slice (some ⟨b14,0,none⟩) 4 4)),(29,.v (.bool (((D.f 2).A).isNone)))] 3 (qac qag) (fun _ h=>h.cells) hT127 hE123 fun a128 hE129=>?_
 refine qaG (i:=7) kz (qan hE129 (t:=24) (A:=(some ⟨b14,0,none⟩)) (m:=4) (q:=2) (d:=30) kz (e:=27) (size:=5) (bytes:=88) (j:=2) kz (b:=b14) (o:=0) rfl rfl (by decide) fun a130 hE131=>?_)
 have hE132:=hE131.recast 30 (.v (.pointer (some ⟨b14,0 + 2 * 5,none⟩))) (.p 2 10) rfl rfl (Nat.le_of_ble_eq_true (n:=3) rfl)
 have hE133:=hE132.pk (env':=[(0,.p 0 0),(2,.p 1 0),(3,.p 3 0),(24,.v (.slice (some ⟨b14,0,none⟩) 4 4)),(29,.v (.bool (((D.f 2).A).isNone))),(30,.p 2 10)])
 refine ⟨fun _=>hT127,?_⟩
 refine qaK [8] [(0,.p 0 0),(2,.p 1 0),(3,.p 3 0),(29,.v (.bool (((D.f 2).A).isNone))),(31,.p 2 12)] 1 (qac qag) (fun _ h=>h.cells) hT127 hE133 fun a135 hE136=>?_
 refine qaG (i:=9) kz (qao hW126 hE136 (oi:=2) (cs:=[.int .i64 n47,.slice A52 s48.length c53,.bool b49,.slice A54 l50.length c55,.slice A56 u51.length c57,.int .i64 n91,.slice A96 s92.length c97,.bool b93,.slice A98 l94.length c99,.slice A100 u95.length c101,.int .i64 0,.slice none 0 0,.bool (((D.f 2).A).isNone),.slice none 0 0,.slice none 0 0,.int .i64 0,.slice none 0 0,.bool false,.slice none 0 0,.slice none 0 0]) kz fun w137 hF138 hW139 hE140=>?_)
 refine ⟨fun h=>absurd rfl h,?_⟩
 refine qaS kz ?_ _
 refine qab ?_
 refine wp_seq ?_
 refine qas [(0,.p 0 0),(2,.p 1 0),(3,.p 3 0),(36,.v (.int .i64 (((D.f 2).l:Nat):Int))),(37,.v (.int .i64 0))] hW139 hE140 fun a141 hE142=>?_
 refine wp_block ?_
 have hW143:=hW139.addNil 27 5
 have hF144:=hW139.frNil 27 5
 refine wp_loop_ghost (fun n_ a_ w_=>∃ (k2_:Nat) (A2_:Option Addr) (c2_:Nat) (xs2_:List Value) (css2_:List (List Value)),n_ = (D.f 2).l - k2_ ∧ k2_ ≤ (D.f 2).l ∧ (Trees w_ (Imm F w w_ [⟨b,o,[.int .i16 v,.pointer ((D.f 0).A),.pointer ((D.f 1).A),.slice ((D.f 2).A) ((D.f 2).l) ((D.f 2).c),.int .i64 ((D.f 3).n),.map D.m],false⟩,⟨b6,0,[.int .i64 0,.slice none 0 0,.bool false,.slice none 0 0,.slice none 0 0],true⟩,⟨b14,0,[.int .i64 n47,.slice A52 s48.length c53,.bool b49,.slice A54 l50.length c55,.slice A56 u51.length c57,.int .i64 n91,.slice A96 s92.length c97,.bool b93,.slice A98 l94.length c99,.slice A100 u95.length c101,.int .i64 0,.slice none 0 0,.bool (((D.f 2).A).isNone),.slice A2_ k2_ c2_,.slice none 0 0,.int .i64 0,.slice none 0 0,.bool false,.slice none 0 0,.slice none 0 0],true⟩,⟨b24,0,[.int .i64 0,.slice none 0 0,.bool false,.slice (some ⟨b14,0,none⟩) 4 4,.slice none 0 0],true⟩] [⟨A2_,c2_,27,5,k2_,xs2_⟩]) xs2_ (((List.range (D.f 2).l).map (fun i=>qav ((D.f 2).f i))).take k2_) css2_) ∧ LInv hW143 96 [⟨b,o,[.int .i16 v,.pointer ((D.f 0).A),.pointer ((D.f 1).A),.slice ((D.f 2).A) ((D.f 2).l) ((D.f 2).c),.int .i64 ((D.f 3).n),.map D.m],false⟩,⟨b6,0,[.int .i64 0,.slice none 0 0,.bool false,.slice none 0 0,.slice none 0 0],true⟩,⟨b14,0,[.int .i64 n47,.slice A52 s48.length c53,.bool b49,.slice A54 l50.length c55,.slice A56 u51.length c57,.int .i64 n91,.slice A96 s92.length c97,.bool b93,.slice A98 l94.length c99,.slice A100 u95.length c101,.int .i64 0,.slice none 0 0,.bool (((D.f 2).A).isNone),.slice A2_ k2_ c2_,.slice none 0 0,.int .i64 0,.slice none 0 0,.bool false,.slice none 0 0,.slice none 0 0],true⟩,⟨b24,0,[.int .i64 0,.slice none 0 0,.bool false,.slice (some ⟨b14,0,none⟩) 4 4,.slice none 0 0],true⟩] [⟨A2_,c2_,27,5,k2_,xs2_⟩] [(0,.p 0 0),(2,.p 1 0),(3,.p 3 0),(36,.v (.int .i64 (((D.f 2).l:Nat):Int))),(37,.v (.int .i64 ((k2_:Nat):Int)))] a_ w_) ((D.f 2).l) ⟨0,none,0,[],[],by omega,by omega,Trees.nil _ _,hE142.pk,hW143,Fr.refl _ _ _⟩ ?_
 rintro n145 a146 w147 ⟨k2_,A2_,c2_,xs2_,css2_,hn150,hk151,hT2_,hE148,hW149,hF152⟩
 refine qas [(0,.p 0 0),(2,.p 1 0),(3,.p 3 0),(36,.v (.int .i64 (((D.f 2).l:Nat):Int))),(37,.v (.int .i64 ((k2_:Nat):Int))),(38,.v (.bool (decide (((k2_:Nat):Int) < (((D.f 2).l:Nat):Int)))))] hW149 hE148 fun a153 hE154=>?_
 refine wp_seq ?_
 refine qaY hE154 (b:=decide (((k2_:Nat):Int) < (((D.f 2).l:Nat):Int))) kz (fun hc155=>?_) (fun hc155=>?_)
 ·
  have hf156:=of_decide_eq_true hc155
  refine wp_skip ?_
  refine qab ?_
  refine wp_seq ?_
  refine wp_block ?_
  refine qas [(0,.p 0 0),(2,.p 1 0),(3,.p 3 0),(4,.v (.int .i64 ((k2_:Nat):Int))),(36,.v (.int .i64 (((D.f 2).l:Nat):Int))),(37,.v (.int .i64 ((k2_:Nat):Int)))] hW149 hE154 fun a157 hE158=>?_
  refine qa4 4 kz hW149 fun w159 hF160 hW161 hT162=>?_
  refine qaG (i:=0) kz (qaH hW161 hE158 (d:=40) (cs:=[.bool false]) kz fun b163 a164 w165 hb166 hz167 hF168 hW169 hE170=>?_)
  have hT171:=TT.ofW hF168 hW169
  refine ⟨fun _=>hT171,?_⟩
  refine qfF (i:=1) (j:=2) kz ?_ ?_
  ·
   refine (qao hW169 hE170 (oi:=4) (cs:=[.bool true]) kz fun w172 hF173 hW174 hE175=>?_)
   have hT176:=TT.ofW (hF168.trans hF173) hW174
   refine ⟨fun _=>hT176,?_⟩
   refine qaG (i:=2) kz (qao hW174 hE175 (oi:=4) (cs:=[.bool false]) kz fun w177 hF178 hW179 hE180=>?_)
   have hT181:=TT.ofW ((hF168.trans hF173).trans hF178) hW179
   refine ⟨fun _=>hT181,?_⟩
   refine qaG (i:=3) kz (qcA [0,2,3,4,36,37,41] hW179.cells hE180 (env':=[(0,.p 0 0),(2,.p 1 0),(3,.p 3 0),(4,.v (.int .i64 ((k2_:Nat):Int))),(36,.v (.int .i64 (((D.f 2).l:Nat):Int))),(37,.v (.int .i64 ((k2_:Nat):Int))),(41,.v (.bool false))]) kz fun a182 hE183=>?_)
   have hT184:=TT.ofW ((hF168.trans hF173).trans hF178) hW179
   refine ⟨fun _=>hT184,?_⟩
   refine qaS kz ?_ _
   refine qab ?_
   refine qam hE183 (b:=false) kz rfl ?_
   refine qds 18 kz hW179 fun w185 hF186 hW187 hT188=>?_
   refine qaK [0,1,2,3,7,8,9,10,11] [(0,.p 0 0),(2,.p 1 0),(3,.p 3 0),(36,.v (.int .i64 (((D.f 2).l:Nat):Int))),(37,.v (.int .i64 ((k2_:Nat):Int))),(61,.v (.slice (some ⟨b14,0,none⟩) 4 4)),(63,.v (.slice (some ⟨b14,0,none⟩) 4 4)),(70,.v (.slice ((D.f 2).A) ((D.f 2).l) ((D.f 2).c))),(71,.v (.int .i64 ((k2_:Nat):Int)))] 10 (qah (qac (qac (qah (qac qag))))) (fun _ h=>h.cells) hT188 hE183 fun a189 hE190=>?_
   refine qaA hE190 (i:=4) (t:=24) (A:=(some ⟨b14,0,none⟩)) (m:=4) (q:=2) (d:=64) kz (e:=27) (size:=5) (bytes:=88) (j:=2) kz (b:=b14) (o:=0) rfl rfl (by decide) kz kz (qah (qac (qac (qah (qac qag))))) hT188 fun a191 hE192=>?_
   have hE193:=hE192.recast 64 (.v (.pointer (some ⟨b14,0 + 2 * 5,none⟩))) (.p 2 10) rfl rfl (Nat.le_of_ble_eq_true (n:=3) rfl)
   have hE194:=hE193.pk (env':=[(0,.p 0 0),(2,.p 1 0),(3,.p 3 0),(36,.v (.int .i64 (((D.f 2).l:Nat):Int))),(37,.v (.int .i64 ((k2_:Nat):Int))),(61,.v (.slice (some ⟨b14,0,none⟩) 4 4)),(63,.v (.slice (some ⟨b14,0,none⟩) 4 4)),(70,.v (.slice ((D.f 2).A) ((D.f 2).l) ((D.f 2).c))),(71,.v (.int .i64 ((k2_:Nat):Int))),(64,.p 2 10)])
   refine qaK [5,6] [(0,.p 0 0),(2,.p 1 0),(3,.p 3 0),(36,.v (.int .i64 (((D.f 2).l:Nat):Int))),(37,.v (.int .i64 ((k2_:Nat):Int))),(61,.v (.slice (some ⟨b14,0,none⟩) 4 4)),(66,.v (.slice A2_ k2_ c2_)),(70,.v (.slice ((D.f 2).A) ((D.f 2).l) ((D.f 2).c))),(71,.v (.int .i64 ((k2_:Nat):Int)))] 7 (qah (qac (qac (qah (qac qag))))) (fun _ h=>h.cells) hT188 hE194 fun a195 hE196=>?_
   obtain ⟨b197,o198,hA199,hl200,hat201⟩:=Slots.get g3 (i:=k2_) (by omega)
   refine qaA hE196 (i:=12) (t:=56) (A:=(D.f 2).A) (m:=((D.f 2).l)) (q:=((k2_:Nat):Int)) (d:=72) kz (e:=67) (size:=3) (bytes:=40) kz hA199 rfl (by omega) kz kz (qah (qac (qac (qah (qac qag))))) hT188 fun a202 hE203=>?_
   refine qaG (i:=13) kz (qap hE203 (f:=30) (vs:=[.pointer (some ⟨b197,o198 + k2_ * 3,none⟩)]) (d:=73) kz Tryd.call30 (qa7 0 ((D.f 2).f k2_) _ _ _ _ (hat201.move hW187.step nilM hW187.imm) (qaB _ hW187.step nilM hW187.imm (g3e k2_ (by omega)))) ?_)
   rintro e_ w207 ⟨cs206,rfl,hr205,hs204⟩
   have hr208:=hr205.move (Step.refl _ Nil) nilM (hW187.laid (G:=F) hs204)
   obtain ⟨n209,s210,b211,l212,u213,A214,c215,A216,c217,A218,c219,xs220,ht226,hcs221,h222,h223,h224,h225⟩:=hr208.open_
   rw [hcs221] at hr208
   have hsm227:=h222.small
   have hsm228:=h223.small
   rw [hcs221]
   refine ⟨_,rfl,fun a229 hE230=>?_⟩
   have hW231:=hW187.next_nil hs204
   have hF232:=hW187.frN hs204
   have hT233:=TT.ofW hF232 hW231
   refine ⟨fun _=>hT233,?_⟩
   refine qaG (i:=14) kz (qcP hW231 hE230 (e:=27) (size:=5) (len:=1) (cs:=[.int .i64 n209,.slice A214 s210.length c215,.bool b211,.slice A216 l212.length c217,.slice A218 u213.length c219]) (d:=74) kz kz fun b234 a235 w236 hb237 hz238 hF239 hW240 hE241=>?_)
   have hT242:=TT.ofW (hF232.trans hF239) hW240
   refine ⟨fun _=>hT242,?_⟩
   refine qaG (i:=15) kz (qbb hW240 hE241 (k:=0) (d:=75) (t:=24) (e:=27) (size:=5) (bytes:=88) (A:=A2_) (As:=(some ⟨b234,0,none⟩)) (m0:=k2_) (c:=c2_) (m:=1) (cs:=1) (xs:=xs2_) (news:=[.int .i64 n209,.slice A214 s210.length c215,.bool b211,.slice A216 l212.length c217,.slice A218 u213.length c219]) kz kz rfl (qcO (hW240.own 1 _ rfl) (qbI kz)) (qdh (hW240.own 1 _ rfl)) (by omega) fun A243 c244 a245 w246 hF247 hW248 hE249=>?_)
   have hT250:=TT.ofW ((hF232.trans hF239).trans hF247) hW248
   refine ⟨fun _=>hT250,?_⟩
   refine qaG (i:=16) kz (qan hE249 (t:=24) (A:=(some ⟨b14,0,none⟩)) (m:=4) (q:=2) (d:=76) kz (e:=27) (size:=5) (bytes:=88) (j:=2) kz (b:=b14) (o:=0) rfl rfl (by decide) fun a251 hE252=>?_)
   have hE253:=hE252.recast 76 (.v (.pointer (some ⟨b14,0 + 2 * 5,none⟩))) (.p 2 10) rfl rfl (Nat.le_of_ble_eq_true (n:=3) rfl)
   have hE254:=hE253.pk (env':=[(0,.p 0 0),(2,.p 1 0),(3,.p 3 0),(36,.v (.int .i64 (((D.f 2).l:Nat):Int))),(37,.v (.int .i64 ((k2_:Nat):Int))),(61,.v (.slice (some ⟨b14,0,none⟩) 4 4)),(66,.v (.slice A2_ k2_ c2_)),(70,.v (.slice ((D.f 2).A) ((D.f 2).l) ((D.f 2).c))),(71,.v (.int .i64 ((k2_:Nat):Int))),(72,.v (.pointer (some ⟨b197,o198 + k2_ * 3,none⟩))),(73,.v (.agg #[.int .i64 n209,.slice A214 s210.length c215,.bool b211,.slice A216 l212.length c217,.slice A218 u213.length c219])),(74,.v (.slice (some ⟨b234,0,none⟩) 1 1)),(75,.v (.slice A243 (k2_ + 1) c244)),(76,.p 2 10)])
   have hT255:=TT.ofW ((hF232.trans hF239).trans hF247) hW248
   refine ⟨fun _=>hT255,?_⟩
   refine qaK [17] [(0,.p 0 0),(2,.p 1 0),(3,.p 3 0),(36,.v (.int .i64 (((D.f 2).l:Nat):Int))),(37,.v (.int .i64 ((k2_:Nat):Int))),(75,.v (.slice A243 (k2_ + 1) c244)),(77,.p 2 13)] 1 (qah (qac (qac (qah (qac qag))))) (fun _ h=>h.cells) hT255 hE254 fun a256 hE257=>?_
   refine qaG (i:=18) kz (qao hW248 hE257 (oi:=2) (cs:=[.int .i64 n47,.slice A52 s48.length c53,.bool b49,.slice A54 l50.length c55,.slice A56 u51.length c57,.int .i64 n91,.slice A96 s92.length c97,.bool b93,.slice A98 l94.length c99,.slice A100 u95.length c101,.int .i64 0,.slice none 0 0,.bool (((D.f 2).A).isNone),.slice A243 (k2_ + 1) c244,.slice none 0 0,.int .i64 0,.slice none 0 0,.bool false,.slice none 0 0,.slice none 0 0]) kz fun w258 hF259 hW260 hE261=>?_)
   refine ⟨fun h=>absurd rfl h,?_⟩
   refine qaS kz ?_ _
   refine qa8 ?_
   refine qab ?_
   refine qaF [0,1] kz ?_
   refine qal [0,1] [] [(0,.p 0 0),(2,.p 1 0),(3,.p 3 0),(36,.v (.int .i64 (((D.f 2).l:Nat):Int))),(37,.v (.int .i64 (IntKind.i64.wrap (((k2_:Nat):Int) + 1))))] hW260 hE261 fun a262 hE263=>?_
   refine qaf (qab ?_)
   obtain ⟨hE264,hW265,hF266⟩:=hW260.cutB hE263 4 [⟨b,o,[.int .i16 v,.pointer ((D.f 0).A),.pointer ((D.f 1).A),.slice ((D.f 2).A) ((D.f 2).l) ((D.f 2).c),.int .i64 ((D.f 3).n),.map D.m],false⟩,⟨b6,0,[.int .i64 0,.slice none 0 0,.bool false,.slice none 0 0,.slice none 0 0],true⟩,⟨b14,0,[.int .i64 n47,.slice A52 s48.length c53,.bool b49,.slice A54 l50.length c55,.slice A56 u51.length c57,.int .i64 n91,.slice A96 s92.length c97,.bool b93,.slice A98 l94.length c99,.slice A100 u95.length c101,.int .i64 0,.slice none 0 0,.bool (((D.f 2).A).isNone),.slice A243 (k2_ + 1) c244,.slice none 0 0,.int .i64 0,.slice none 0 0,.bool false,.slice none 0 0,.slice none 0 0],true⟩,⟨b24,0,[.int .i64 0,.slice none 0 0,.bool false,.slice (some ⟨b14,0,none⟩) 4 4,.slice none 0 0],true⟩] [(0,.p 0 0),(2,.p 1 0),(3,.p 3 0),(36,.v (.int .i64 (((D.f 2).l:Nat):Int))),(37,.v (.int .i64 (IntKind.i64.wrap (((k2_:Nat):Int) + 1))))]
   obtain ⟨hW267,hF268⟩:=hW265.cutR 1 [⟨A243,c244,27,5,k2_ + 1,xs2_ ++ [.int .i64 n209,.slice A214 s210.length c215,.bool b211,.slice A216 l212.length c217,.slice A218 u213.length c219]⟩]
   have he269:IntKind.i64.wrap (((k2_:Nat):Int) + 1) = ((k2_ + 1:Nat):Int):=qbK (by omega)
   rw [he269] at hE264
   exact ⟨(D.f 2).l - (k2_ + 1),by omega,k2_ + 1,A243,c244,xs2_ ++ [Value.int .i64 n209,.slice A214 s210.length c215,.bool b211,.slice A216 l212.length c217,.slice A218 u213.length c219],(css2_ ++ [[Value.int .i64 n209,.slice A214 s210.length c215,.bool b211,.slice A216 l212.length c217,.slice A218 u213.length c219]]),rfl,by omega,by rw [qdP (by omega)]; exact (hT2_.move ((((((((((hF160.trans hF168).trans hF173).trans hF178).trans hF186).trans hF232).trans hF239).trans hF247).trans hF259).trans hF266).trans hF268).step immM ((((((((((hF160.trans hF168).trans hF173).trans hF178).trans hF186).trans hF232).trans hF239).trans hF247).trans hF259).trans hF266).trans hF268).to').snoc (x:=(fun i=>qav ((D.f 2).f i)) k2_) (hr208.move ((((hF239.trans hF247).trans hF259).trans hF266).trans hF268).step immM ((((hF239.trans hF247).trans hF259).trans hF266).trans hF268).to'),hE264.pk,hW267,(((((((((((hF152.trans hF160).trans hF168).trans hF173).trans hF178).trans hF186).trans hF232).trans hF239).trans hF247).trans hF259).trans hF266).trans hF268)⟩
  refine (qao hW169 hE170 (oi:=4) (cs:=[.bool false]) kz fun w270 hF271 hW272 hE273=>?_)
  have hT274:=TT.ofW (hF168.trans hF271) hW272
  refine ⟨fun _=>hT274,?_⟩
  refine qaG (i:=1) kz (qao hW272 hE273 (oi:=4) (cs:=[.bool true]) kz fun w275 hF276 hW277 hE278=>?_)
  have hT279:=TT.ofW ((hF168.trans hF271).trans hF276) hW277
  refine ⟨fun _=>hT279,?_⟩
  refine qaG (i:=3) kz (qcA [0,2,3,4,36,37,41] hW277.cells hE278 (env':=[(0,.p 0 0),(2,.p 1 0),(3,.p 3 0),(4,.v (.int .i64 ((k2_:Nat):Int))),(36,.v (.int .i64 (((D.f 2).l:Nat):Int))),(37,.v (.int .i64 ((k2_:Nat):Int))),(41,.v (.bool true))]) kz fun a280 hE281=>?_)
  have hT282:=TT.ofW ((hF168.trans hF271).trans hF276) hW277
  refine ⟨fun _=>hT282,?_⟩
  refine qaS kz ?_ _
  refine qab ?_
  refine qaO hE281 (b:=true) kz rfl ?_
  refine qa4 17 kz hW277 fun w283 hF284 hW285 hT286=>?_
  refine qaK [0,1,5,6,7,8,9] [(0,.p 0 0),(2,.p 1 0),(3,.p 3 0),(36,.v (.int .i64 (((D.f 2).l:Nat):Int))),(37,.v (.int .i64 ((k2_:Nat):Int))),(43,.v (.slice (some ⟨b14,0,none⟩) 4 4)),(50,.v (.slice ((D.f 2).A) ((D.f 2).l) ((D.f 2).c))),(51,.v (.int .i64 ((k2_:Nat):Int)))] 11 (qac (qah (qac (qac (qah (qac qag)))))) (fun _ h=>h.cells) hT286 hE281 fun a287 hE288=>?_
  refine qaA hE288 (i:=2) (t:=24) (A:=(some ⟨b14,0,none⟩)) (m:=4) (q:=2) (d:=44) kz (e:=27) (size:=5) (bytes:=88) (j:=2) kz (b:=b14) (o:=0) rfl rfl (by decide) kz kz (qac (qah (qac (qac (qah (qac qag)))))) hT286 fun a289 hE290=>?_
  have hE291:=hE290.recast 44 (.v (.pointer (some ⟨b14,0 + 2 * 5,none⟩))) (.p 2 10) rfl rfl (Nat.le_of_ble_eq_true (n:=3) rfl)
  have hE292:=hE291.pk (env':=[(0,.p 0 0),(2,.p 1 0),(3,.p 3 0),(36,.v (.int .i64 (((D.f 2).l:Nat):Int))),(37,.v (.int .i64 ((k2_:Nat):Int))),(43,.v (.slice (some ⟨b14,0,none⟩) 4 4)),(50,.v (.slice ((D.f 2).A) ((D.f 2).l) ((D.f 2).c))),(51,.v (.int .i64 ((k2_:Nat):Int))),(44,.p 2 10)])
  refine qaK [3,4,12] [(0,.p 0 0),(2,.p 1 0),(3,.p 3 0),(36,.v (.int .i64 (((D.f 2).l:Nat):Int))),(37,.v (.int .i64 ((k2_:Nat):Int))),(43,.v (.slice (some ⟨b14,0,none⟩) 4 4)),(46,.v (.slice A2_ k2_ c2_)),(50,.v (.slice ((D.f 2).A) ((D.f 2).l) ((D.f 2).c))),(51,.v (.int .i64 ((k2_:Nat):Int))),(54,.v (.int .i64 ((k2_:Nat):Int)))] 7 (qac (qah (qac (qac (qah (qac qag)))))) (fun _ h=>h.cells) hT286 hE292 fun a293 hE294=>?_
  obtain ⟨b295,o296,hA297,hl298,hat299⟩:=Slots.get g3 (i:=k2_) (by omega)
  refine qaA hE294 (i:=10) (t:=56) (A:=(D.f 2).A) (m:=((D.f 2).l)) (q:=((k2_:Nat):Int)) (d:=52) kz (e:=67) (size:=3) (bytes:=40) kz hA297 rfl (by omega) kz kz (qac (qah (qac (qac (qah (qac qag)))))) hT286 fun a300 hE301=>?_
  refine qfF (i:=11) (j:=13) kz ?_ ?_
  ·
   refine (qap hE301 (f:=30) (vs:=[.pointer (some ⟨b295,o296 + k2_ * 3,none⟩)]) (d:=53) kz Tryd.call30 (qa7 0 ((D.f 2).f k2_) _ _ _ _ (hat299.move hW285.step nilM hW285.imm) (qaB _ hW285.step nilM hW285.imm (g3e k2_ (by omega)))) ?_)
   rintro e_ w305 ⟨cs304,rfl,hr303,hs302⟩
   have hr306:=hr303.move (Step.refl _ Nil) nilM (hW285.laid (G:=F) hs302)
   obtain ⟨n307,s308,b309,l310,u311,A312,c313,A314,c315,A316,c317,xs318,ht324,hcs319,h320,h321,h322,h323⟩:=hr306.open_
   rw [hcs319] at hr306
   have hsm325:=h320.small
   have hsm326:=h321.small
   rw [hcs319]
   refine ⟨_,rfl,fun a327 hE328=>?_⟩
   have hW329:=hW285.next_nil hs302
   have hF330:=hW285.frN hs302
   have hT331:=TT.ofW hF330 hW329
   refine ⟨fun _=>hT331,?_⟩
   refine qaG (i:=13) kz (qcP hW329 hE328 (e:=27) (size:=5) (len:=1) (cs:=[.int .i64 0,.slice none 0 0,.bool false,.slice none 0 0,.slice none 0 0]) (d:=55) kz kz fun b332 a333 w334 hb335 hz336 hF337 hW338 hE339=>?_)
   have hT340:=TT.ofW (hF330.trans hF337) hW338
   refine ⟨fun _=>hT340,?_⟩
   refine qaG (i:=14) kz (qbb hW338 hE339 (k:=0) (d:=56) (t:=24) (e:=27) (size:=5) (bytes:=88) (A:=A2_) (As:=(some ⟨b332,0,none⟩)) (m0:=k2_) (c:=c2_) (m:=1) (cs:=1) (xs:=xs2_) (news:=[.int .i64 0,.slice none 0 0,.bool false,.slice none 0 0,.slice none 0 0]) kz kz rfl (qcO (hW338.own 1 _ rfl) (qbI kz)) (qdh (hW338.own 1 _ rfl)) (by omega) fun A341 c342 a343 w344 hF345 hW346 hE347=>?_)
   have hT348:=TT.ofW ((hF330.trans hF337).trans hF345) hW346
   refine ⟨fun _=>hT348,?_⟩
   refine qaG (i:=15) kz (qan hE347 (t:=24) (A:=(some ⟨b14,0,none⟩)) (m:=4) (q:=2) (d:=57) kz (e:=27) (size:=5) (bytes:=88) (j:=2) kz (b:=b14) (o:=0) rfl rfl (by decide) fun a349 hE350=>?_)
   have hE351:=hE350.recast 57 (.v (.pointer (some ⟨b14,0 + 2 * 5,none⟩))) (.p 2 10) rfl rfl (Nat.le_of_ble_eq_true (n:=3) rfl)
   have hE352:=hE351.pk (env':=[(0,.p 0 0),(2,.p 1 0),(3,.p 3 0),(36,.v (.int .i64 (((D.f 2).l:Nat):Int))),(37,.v (.int .i64 ((k2_:Nat):Int))),(43,.v (.slice (some ⟨b14,0,none⟩) 4 4)),(46,.v (.slice A2_ k2_ c2_)),(50,.v (.slice ((D.f 2).A) ((D.f 2).l) ((D.f 2).c))),(51,.v (.int .i64 ((k2_:Nat):Int))),(54,.v (.int .i64 ((k2_:Nat):Int))),(52,.v (.pointer (some ⟨b295,o296 + k2_ * 3,none⟩))),(53,.v (.agg #[.int .i64 n307,.slice A312 s308.length c313,.bool b309,.slice A314 l310.length c315,.slice A316 u311.length c317])),(55,.v (.slice (some ⟨b332,0,none⟩) 1 1)),(56,.v (.slice A341 (k2_ + 1) c342)),(57,.p 2 10)])
   have hT353:=TT.ofW ((hF330.trans hF337).trans hF345) hW346
   refine ⟨fun _=>hT353,?_⟩
   refine qaK [16] [(0,.p 0 0),(2,.p 1 0),(3,.p 3 0),(36,.v (.int .i64 (((D.f 2).l:Nat):Int))),(37,.v (.int .i64 ((k2_:Nat):Int))),(53,.v (.agg #[.int .i64 n307,.slice A312 s308.length c313,.bool b309,.slice A314 l310.length c315,.slice A316 u311.length c317])),(54,.v (.int .i64 ((k2_:Nat):Int))),(56,.v (.slice A341 (k2_ + 1) c342)),(58,.p 2 13)] 1 (qac (qah (qac (qac (qah (qac qag)))))) (fun _ h=>h.cells) hT353 hE352 fun a354 hE355=>?_
   refine qaG (i:=17) kz (qao hW346 hE355 (oi:=2) (cs:=[.int .i64 n47,.slice A52 s48.length c53,.bool b49,.slice A54 l50.length c55,.slice A56 u51.length c57,.int .i64 n91,.slice A96 s92.length c97,.bool b93,.slice A98 l94.length c99,.slice A100 u95.length c101,.int .i64 0,.slice none 0 0,.bool (((D.f 2).A).isNone),.slice A341 (k2_ + 1) c342,.slice none 0 0,.int .i64 0,.slice none 0 0,.bool false,.slice none 0 0,.slice none 0 0]) kz fun w356 hF357 hW358 hE359=>?_)
   refine ⟨fun h=>absurd rfl h,?_⟩
   refine qaS kz ?_ _
   refine qab ?_
   refine qaF [0,1] kz ?_
   have ho362:World.ownsRow w356 0 27 5 (.slice A341 (k2_ + 1) c342) (k2_ + 1) (xs2_ ++ [.int .i64 0,.slice none 0 0,.bool false,.slice none 0 0,.slice none 0 0]):=hW358.own 0 _ rfl
   obtain ⟨g360,hA361⟩:=qeJ ho362 (by omega)
   refine qak (qan hE359 (t:=24) (A:=A341) (m:=(k2_ + 1)) (q:=((k2_:Nat):Int)) (d:=59) kz (e:=27) (size:=5) (bytes:=88) kz (b:=g360) (o:=0) (j:=k2_) hA361 (rfl) (by omega) fun a363 hE364=>?_)
   refine qak (qee hW358 hE364 (k:=0) (g:=g360) (o:=k2_ * 5) (c:=c342) (m:=(k2_ + 1)) (size:=5) (e:=27) (A:=A341) (xs:=(xs2_ ++ [.int .i64 0,.slice none 0 0,.bool false,.slice none 0 0,.slice none 0 0])) (vs:=[.int .i64 n307,.slice A312 s308.length c313,.bool b309,.slice A314 l310.length c315,.slice A316 u311.length c317]) kz rfl hA361 (by simp only [List.length_cons,List.length_nil]; omega) fun w365 hF366 hW367 hE368=>?_)
   have er369:(⟨A341,c342,27,5,k2_ + 1,qcj (xs2_ ++ [.int .i64 0,.slice none 0 0,.bool false,.slice none 0 0,.slice none 0 0]) (k2_ * 5) [.int .i64 n307,.slice A312 s308.length c313,.bool b309,.slice A314 l310.length c315,.slice A316 u311.length c317]⟩:Rw) = ⟨A341,c342,27,5,k2_ + 1,xs2_ ++ [.int .i64 n307,.slice A312 s308.length c313,.bool b309,.slice A314 l310.length c315,.slice A316 u311.length c317]⟩:=by rw [qem (by rw [hT2_.xslen,List.length_take,qdC]; omega)]
   obtain ⟨hW370,hF372⟩:=hW367.rowEq 0 [⟨A341,c342,27,5,k2_ + 1,xs2_ ++ [.int .i64 n307,.slice A312 s308.length c313,.bool b309,.slice A314 l310.length c315,.slice A316 u311.length c317]⟩,⟨some ⟨b332,0,none⟩,1,27,5,1,[.int .i64 0,.slice none 0 0,.bool false,.slice none 0 0,.slice none 0 0]⟩] er369
   refine qaf ?_
   refine qa8 ?_
   refine qab ?_
   refine qaF [0,1] kz ?_
   refine qal [0,1] [] [(0,.p 0 0),(2,.p 1 0),(3,.p 3 0),(36,.v (.int .i64 (((D.f 2).l:Nat):Int))),(37,.v (.int .i64 (IntKind.i64.wrap (((k2_:Nat):Int) + 1))))] hW370 hE368 fun a373 hE374=>?_
   refine qaf (qab ?_)
   obtain ⟨hE375,hW376,hF377⟩:=hW370.cutB hE374 4 [⟨b,o,[.int .i16 v,.pointer ((D.f 0).A),.pointer ((D.f 1).A),.slice ((D.f 2).A) ((D.f 2).l) ((D.f 2).c),.int .i64 ((D.f 3).n),.map D.m],false⟩,⟨b6,0,[.int .i64 0,.slice none 0 0,.bool false,.slice none 0 0,.slice none 0 0],true⟩,⟨b14,0,[.int .i64 n47,.slice A52 s48.length c53,.bool b49,.slice A54 l50.length c55,.slice A56 u51.length c57,.int .i64 n91,.slice A96 s92.length c97,.bool b93,.slice A98 l94.length c99,.slice A100 u95.length c101,.int .i64 0,.slice none 0 0,.bool (((D.f 2).A).isNone),.slice A341 (k2_ + 1) c342,.slice none 0 0,.int .i64 0,.slice none 0 0,.bool false,.slice none 0 0,.slice none 0 0],true⟩,⟨b24,0,[.int .i64 0,.slice none 0 0,.bool false,.slice (some ⟨b14,0,none⟩) 4 4,.slice none 0 0],true⟩] [(0,.p 0 0),(2,.p 1 0),(3,.p 3 0),(36,.v (.int .i64 (((D.f 2).l:Nat):Int))),(37,.v (.int .i64 (IntKind.i64.wrap (((k2_:Nat):Int) + 1))))]
   obtain ⟨hW378,hF379⟩:=hW376.cutR 1 [⟨A341,c342,27,5,k2_ + 1,xs2_ ++ [.int .i64 n307,.slice A312 s308.length c313,.bool b309,.slice A314 l310.length c315,.slice A316 u311.length c317]⟩]
   have he380:IntKind.i64.wrap (((k2_:Nat):Int) + 1) = ((k2_ + 1:Nat):Int):=qbK (by omega)
   rw [he380] at hE375
   exact ⟨(D.f 2).l - (k2_ + 1),by omega,k2_ + 1,A341,c342,xs2_ ++ [Value.int .i64 n307,.slice A312 s308.length c313,.bool b309,.slice A314 l310.length c315,.slice A316 u311.length c317],(css2_ ++ [[Value.int .i64 n307,.slice A312 s308.length c313,.bool b309,.slice A314 l310.length c315,.slice A316 u311.length c317]]),rfl,by omega,by rw [qdP (by omega)]; exact (hT2_.move ((((((((((((hF160.trans hF168).trans hF271).trans hF276).trans hF284).trans hF330).trans hF337).trans hF345).trans hF357).trans hF366).trans hF372).trans hF377).trans hF379).step immM ((((((((((((hF160.trans hF168).trans hF271).trans hF276).trans hF284).trans hF330).trans hF337).trans hF345).trans hF357).trans hF366).trans hF372).trans hF377).trans hF379).to').snoc (x:=(fun i=>qav ((D.f 2).f i)) k2_) (hr306.move ((((((hF337.trans hF345).trans hF357).trans hF366).trans hF372).trans hF377).trans hF379).step immM ((((((hF337.trans hF345).trans hF357).trans hF366).trans hF372).trans hF377).trans hF379).to'),hE375.pk,hW378,(((((((((((((hF152.trans hF160).trans hF168).trans hF271).trans hF276).trans hF284).trans hF330).trans hF337).trans hF345).trans hF357).trans hF366).trans hF372).trans hF377).trans hF379)⟩
  refine (qcP hW285 hE301 (e:=27) (size:=5) (len:=1) (cs:=[.int .i64 0,.slice none 0 0,.bool false,.slice none 0 0,.slice none 0 0]) (d:=55) kz kz fun b381 a382 w383 hb384 hz385 hF386 hW387 hE388=>?_)
  have hT389:=TT.ofW hF386 hW387
  refine ⟨fun _=>hT389,?_⟩
  refine qaG (i:=11) kz (qap hE388 (f:=30) (vs:=[.pointer (some ⟨b295,o296 + k2_ * 3,none⟩)]) (d:=53) kz Tryd.call30 (qa7 0 ((D.f 2).f k2_) _ _ _ _ (hat299.move hW387.step nilM hW387.imm) (qaB _ hW387.step nilM hW387.imm (g3e k2_ (by omega)))) ?_)
  rintro e_ w393 ⟨cs392,rfl,hr391,hs390⟩
  have hr394:=hr391.move (Step.refl _ Nil) nilM (hW387.laid (G:=F) hs390)
  obtain ⟨n395,s396,b397,l398,u399,A400,c401,A402,c403,A404,c405,xs406,ht412,hcs407,h408,h409,h410,h411⟩:=hr394.open_
  rw [hcs407] at hr394
  have hsm413:=h408.small
  have hsm414:=h409.small
  rw [hcs407]
  refine ⟨_,rfl,fun a415 hE416=>?_⟩
  have hW417:=hW387.next_nil hs390
  have hF418:=hW387.frN hs390
  have hT419:=TT.ofW (hF386.trans hF418) hW417
  refine ⟨fun _=>hT419,?_⟩
  refine qaG (i:=14) kz (qbb hW417 hE416 (k:=0) (d:=56) (t:=24) (e:=27) (size:=5) (bytes:=88) (A:=A2_) (As:=(some ⟨b381,0,none⟩)) (m0:=k2_) (c:=c2_) (m:=1) (cs:=1) (xs:=xs2_) (news:=[.int .i64 0,.slice none 0 0,.bool false,.slice none 0 0,.slice none 0 0]) kz kz rfl (qcO (hW417.own 1 _ rfl) (qbI kz)) (qdh (hW417.own 1 _ rfl)) (by omega) fun A420 c421 a422 w423 hF424 hW425 hE426=>?_)
  have hT427:=TT.ofW ((hF386.trans hF418).trans hF424) hW425
  refine ⟨fun _=>hT427,?_⟩
  refine qaG (i:=15) kz (qan hE426 (t:=24) (A:=(some ⟨b14,0,none⟩)) (m:=4) (q:=2) (d:=57) kz (e:=27) (size:=5) (bytes:=88) (j:=2) kz (b:=b14) (o:=0) rfl rfl (by decide) fun a428 hE429=>?_)
  have hE430:=hE429.recast 57 (.v (.pointer (some ⟨b14,0 + 2 * 5,none⟩))) (.p 2 10) rfl rfl (Nat.le_of_ble_eq_true (n:=3) rfl)
  have hE431:=hE430.pk (env':=[(0,.p 0 0),(2,.p 1 0),(3,.p 3 0),(36,.v (.int .i64 (((D.f 2).l:Nat):Int))),(37,.v (.int .i64 ((k2_:Nat):Int))),(43,.v (.slice (some ⟨b14,0,none⟩) 4 4)),(46,.v (.slice A2_ k2_ c2_)),(50,.v (.slice ((D.f 2).A) ((D.f 2).l) ((D.f 2).c))),(51,.v (.int .i64 ((k2_:Nat):Int))),(54,.v (.int .i64 ((k2_:Nat):Int))),(52,.v (.pointer (some ⟨b295,o296 + k2_ * 3,none⟩))),(55,.v (.slice (some ⟨b381,0,none⟩) 1 1)),(53,.v (.agg #[.int .i64 n395,.slice A400 s396.length c401,.bool b397,.slice A402 l398.length c403,.slice A404 u399.length c405])),(56,.v (.slice A420 (k2_ + 1) c421)),(57,.p 2 10)])
  have hT432:=TT.ofW ((hF386.trans hF418).trans hF424) hW425
  refine ⟨fun _=>hT432,?_⟩
  refine qaK [16] [(0,.p 0 0),(2,.p 1 0),(3,.p 3 0),(36,.v (.int .i64 (((D.f 2).l:Nat):Int))),(37,.v (.int .i64 ((k2_:Nat):Int))),(53,.v (.agg #[.int .i64 n395,.slice A400 s396.length c401,.bool b397,.slice A402 l398.length c403,.slice A404 u399.length c405])),(54,.v (.int .i64 ((k2_:Nat):Int))),(56,.v (.slice A420 (k2_ + 1) c421)),(58,.p 2 13)] 1 (qac (qah (qac (qac (qah (qac qag)))))) (fun _ h=>h.cells) hT432 hE431 fun a433 hE434=>?_
  refine qaG (i:=17) kz (qao hW425 hE434 (oi:=2) (cs:=[.int .i64 n47,.slice A52 s48.length c53,.bool b49,.slice A54 l50.length c55,.slice A56 u51.length c57,.int .i64 n91,.slice A96 s92.length c97,.bool b93,.slice A98 l94.length c99,.slice A100 u95.length c101,.int .i64 0,.slice none 0 0,.bool (((D.f 2).A).isNone),.slice A420 (k2_ + 1) c421,.slice none 0 0,.int .i64 0,.slice none 0 0,.bool false,.slice none 0 0,.slice none 0 0]) kz fun w435 hF436 hW437 hE438=>?_)
  refine ⟨fun h=>absurd rfl h,?_⟩
  refine qaS kz ?_ _
  refine qab ?_
  refine qaF [0,1] kz ?_
  have ho441:World.ownsRow w435 0 27 5 (.slice A420 (k2_ + 1) c421) (k2_ + 1) (xs2_ ++ [.int .i64 0,.slice none 0 0,.bool false,.slice none 0 0,.slice none 0 0]):=hW437.own 0 _ rfl
  obtain ⟨g439,hA440⟩:=qeJ ho441 (by omega)
  refine qak (qan hE438 (t:=24) (A:=A420) (m:=(k2_ + 1)) (q:=((k2_:Nat):Int)) (d:=59) kz (e:=27) (size:=5) (bytes:=88) kz (b:=g439) (o:=0) (j:=k2_) hA440 (rfl) (by omega) fun a442 hE443=>?_)
  refine qak (qee hW437 hE443 (k:=0) (g:=g439) (o:=k2_ * 5) (c:=c421) (m:=(k2_ + 1)) (size:=5) (e:=27) (A:=A420) (xs:=(xs2_ ++ [.int .i64 0,.slice none 0 0,.bool false,.slice none 0 0,.slice none 0 0])) (vs:=[.int .i64 n395,.slice A400 s396.length c401,.bool b397,.slice A402 l398.length c403,.slice A404 u399.length c405]) kz rfl hA440 (by simp only [List.length_cons,List.length_nil]; omega) fun w444 hF445 hW446 hE447=>?_)
  have er448:(⟨A420,c421,27,5,k2_ + 1,qcj (xs2_ ++ [.int .i64 0,.slice none 0 0,.bool false,.slice none 0 0,.slice none 0 0]) (k2_ * 5) [.int .i64 n395,.slice A400 s396.length c401,.bool b397,.slice A402 l398.length c403,.slice A404 u399.length c405]⟩:Rw) = ⟨A420,c421,27,5,k2_ + 1,xs2_ ++ [.int .i64 n395,.slice A400 s396.length c401,.bool b397,.slice A402 l398.length c403,.slice A404 u399.length c405]⟩:=by rw [qem (by rw [hT2_.xslen,List.length_take,qdC]; omega)]
  obtain ⟨hW449,hF451⟩:=hW446.rowEq 0 [⟨A420,c421,27,5,k2_ + 1,xs2_ ++ [.int .i64 n395,.slice A400 s396.length c401,.bool b397,.slice A402 l398.length c403,.slice A404 u399.length c405]⟩,⟨some ⟨b381,0,none⟩,1,27,5,1,[.int .i64 0,.slice none 0 0,.bool false,.slice none 0 0,.slice none 0 0]⟩] er448
  refine qaf ?_
  refine qa8 ?_
  refine qab ?_
  refine qaF [0,1] kz ?_
  refine qal [0,1] [] [(0,.p 0 0),(2,.p 1 0),(3,.p 3 0),(36,.v (.int .i64 (((D.f 2).l:Nat):Int))),(37,.v (.int .i64 (IntKind.i64.wrap (((k2_:Nat):Int) + 1))))] hW449 hE447 fun a452 hE453=>?_
  refine qaf (qab ?_)
  obtain ⟨hE454,hW455,hF456⟩:=hW449.cutB hE453 4 [⟨b,o,[.int .i16 v,.pointer ((D.f 0).A),.pointer ((D.f 1).A),.slice ((D.f 2).A) ((D.f 2).l) ((D.f 2).c),.int .i64 ((D.f 3).n),.map D.m],false⟩,⟨b6,0,[.int .i64 0,.slice none 0 0,.bool false,.slice none 0 0,.slice none 0 0],true⟩,⟨b14,0,[.int .i64 n47,.slice A52 s48.length c53,.bool b49,.slice A54 l50.length c55,.slice A56 u51.length c57,.int .i64 n91,.slice A96 s92.length c97,.bool b93,.slice A98 l94.length c99,.slice A100 u95.length c101,.int .i64 0,.slice none 0 0,.bool (((D.f 2).A).isNone),.slice A420 (k2_ + 1) c421,.slice none 0 0,.int .i64 0,.slice none 0 0,.bool false,.slice none 0 0,.slice none 0 0],true⟩,⟨b24,0,[.int .i64 0,.slice none 0 0,.bool false,.slice (some ⟨b14,0,none⟩) 4 4,.slice none 0 0],true⟩] [(0,.p 0 0),(2,.p 1 0),(3,.p 3 0),(36,.v (.int .i64 (((D.f 2).l:Nat):Int))),(37,.v (.int .i64 (IntKind.i64.wrap (((k2_:Nat):Int) + 1))))]
  obtain ⟨hW457,hF458⟩:=hW455.cutR 1 [⟨A420,c421,27,5,k2_ + 1,xs2_ ++ [.int .i64 n395,.slice A400 s396.length c401,.bool b397,.slice A402 l398.length c403,.slice A404 u399.length c405]⟩]
  have he459:IntKind.i64.wrap (((k2_:Nat):Int) + 1) = ((k2_ + 1:Nat):Int):=qbK (by omega)
  rw [he459] at hE454
  exact ⟨(D.f 2).l - (k2_ + 1),by omega,k2_ + 1,A420,c421,xs2_ ++ [Value.int .i64 n395,.slice A400 s396.length c401,.bool b397,.slice A402 l398.length c403,.slice A404 u399.length c405],(css2_ ++ [[Value.int .i64 n395,.slice A400 s396.length c401,.bool b397,.slice A402 l398.length c403,.slice A404 u399.length c405]]),rfl,by omega,by rw [qdP (by omega)]; exact (hT2_.move ((((((((((((hF160.trans hF168).trans hF271).trans hF276).trans hF284).trans hF386).trans hF418).trans hF424).trans hF436).trans hF445).trans hF451).trans hF456).trans hF458).step immM ((((((((((((hF160.trans hF168).trans hF271).trans hF276).trans hF284).trans hF386).trans hF418).trans hF424).trans hF436).trans hF445).trans hF451).trans hF456).trans hF458).to').snoc (x:=(fun i=>qav ((D.f 2).f i)) k2_) (hr394.move (((((hF424.trans hF436).trans hF445).trans hF451).trans hF456).trans hF458).step immM (((((hF424.trans hF436).trans hF445).trans hF451).trans hF456).trans hF458).to'),hE454.pk,hW457,(((((((((((((hF152.trans hF160).trans hF168).trans hF271).trans hF276).trans hF284).trans hF386).trans hF418).trans hF424).trans hF436).trans hF445).trans hF451).trans hF456).trans hF458)⟩
 have hf460:=of_decide_eq_false hc155
 refine wp_exit ?_
 refine qaR ?_
 refine qaR ?_
 refine qbn ?_
 refine qab ?_
 refine qa4 8 kz hW149 fun w461 hF462 hW463 hT464=>?_
 refine qaK [0,1,2,3,4,5,6] [(0,.p 0 0),(2,.p 1 0),(3,.p 3 0),(80,.v (.slice (some ⟨b14,0,none⟩) 4 4)),(85,.v (.agg #[.int .i64 ((D.f 3).n),.slice none 0 0,.bool false,.slice none 0 0,.slice none 0 0]))] 2 (qac qag) (fun _ h=>h.cells) hT464 hE154 fun a465 hE466=>?_
 refine qaA hE466 (i:=7) (t:=24) (A:=(some ⟨b14,0,none⟩)) (m:=4) (q:=3) (d:=86) kz (e:=27) (size:=5) (bytes:=88) (j:=3) kz (b:=b14) (o:=0) rfl rfl (by decide) kz kz (qac qag) hT464 fun a467 hE468=>?_
 have hE469:=hE468.recast 86 (.v (.pointer (some ⟨b14,0 + 3 * 5,none⟩))) (.p 2 15) rfl rfl (Nat.le_of_ble_eq_true (n:=3) rfl)
 have hE470:=hE469.pk (env':=[(0,.p 0 0),(2,.p 1 0),(3,.p 3 0),(80,.v (.slice (some ⟨b14,0,none⟩) 4 4)),(85,.v (.agg #[.int .i64 ((D.f 3).n),.slice none 0 0,.bool false,.slice none 0 0,.slice none 0 0])),(86,.p 2 15)])
 refine qaG (i:=8) kz (qao hW463 hE470 (oi:=2) (cs:=[.int .i64 n47,.slice A52 s48.length c53,.bool b49,.slice A54 l50.length c55,.slice A56 u51.length c57,.int .i64 n91,.slice A96 s92.length c97,.bool b93,.slice A98 l94.length c99,.slice A100 u95.length c101,.int .i64 0,.slice none 0 0,.bool (((D.f 2).A).isNone),.slice A2_ k2_ c2_,.slice none 0 0,.int .i64 ((D.f 3).n),.slice none 0 0,.bool false,.slice none 0 0,.slice none 0 0]) kz fun w471 hF472 hW473 hE474=>?_)
 refine ⟨fun h=>absurd rfl h,?_⟩
 refine qaS kz ?_ _
 refine qab ?_
 refine qad [0,1,2,3,4] kz ?_
 refine qal [0,1,2] [3,4] [(2,.p 1 0),(3,.p 3 0),(89,.p 0 5)] hW473 hE474 fun a475 hE476=>?_
 refine qak (qeK hE476 (v:=.func (.func 32) #[] #[.pointer (some ⟨b24,0,none⟩)]) (d:=90) kz fun a477 hE478=>?_)
 refine qak (qap hE478 (f:=31) (vs:=[.pointer (some ⟨b,o + 5,none⟩),.func (.func 32) #[] #[.pointer (some ⟨b24,0,none⟩)]]) (d:=91) kz Tryd.call31 (qe6 (F:=(Imm F w w471 [⟨b,o,[.int .i16 v,.pointer ((D.f 0).A),.pointer ((D.f 1).A),.slice ((D.f 2).A) ((D.f 2).l) ((D.f 2).c),.int .i64 ((D.f 3).n),.map D.m],false⟩,⟨b6,0,[.int .i64 0,.slice none 0 0,.bool false,.slice none 0 0,.slice none 0 0],true⟩,⟨b14,0,[.int .i64 n47,.slice A52 s48.length c53,.bool b49,.slice A54 l50.length c55,.slice A56 u51.length c57,.int .i64 n91,.slice A96 s92.length c97,.bool b93,.slice A98 l94.length c99,.slice A100 u95.length c101,.int .i64 0,.slice none 0 0,.bool (((D.f 2).A).isNone),.slice A2_ k2_ c2_,.slice none 0 0,.int .i64 ((D.f 3).n),.slice none 0 0,.bool false,.slice none 0 0,.slice none 0 0],true⟩,⟨b24,0,[.int .i64 0,.slice none 0 0,.bool false,.slice (some ⟨b14,0,none⟩) 4 4,.slice none 0 0],true⟩] [⟨A2_,c2_,27,5,k2_,xs2_⟩])) Tryd.call32 qcm ((hat.one 5 rfl).move hW473.step nilM hW473.imm) (g5.move hW473.step nilM hW473.imm) (Str.of hW473 3 rfl) (qf0 3 rfl) g5l) ?_)
 rintro e_ w479 ⟨rfl,A480,c481,hst482,hU483,hs484⟩
 obtain ⟨hW485,hF486,hl487⟩:=hW473.wrote 3 [⟨b,o,[.int .i16 v,.pointer ((D.f 0).A),.pointer ((D.f 1).A),.slice ((D.f 2).A) ((D.f 2).l) ((D.f 2).c),.int .i64 ((D.f 3).n),.map D.m],false⟩,⟨b6,0,[.int .i64 0,.slice none 0 0,.bool false,.slice none 0 0,.slice none 0 0],true⟩,⟨b14,0,[.int .i64 n47,.slice A52 s48.length c53,.bool b49,.slice A54 l50.length c55,.slice A56 u51.length c57,.int .i64 n91,.slice A96 s92.length c97,.bool b93,.slice A98 l94.length c99,.slice A100 u95.length c101,.int .i64 0,.slice none 0 0,.bool (((D.f 2).A).isNone),.slice A2_ k2_ c2_,.slice none 0 0,.int .i64 ((D.f 3).n),.slice none 0 0,.bool false,.slice none 0 0,.slice none 0 0],true⟩,⟨b24,0,[.int .i64 0,.slice none 0 0,.bool false,.slice (some ⟨b14,0,none⟩) 4 4,.slice A480 D.u.length c481],true⟩] rfl hs484 hst482
 have hU491:=hU483.move (Step.refl _ Nil) nilM (fun b_ o_ h_ hb_=>hl487 (G:=F) b_ o_ (.inr h_) hb_)
 refine ⟨_,rfl,fun a488 hE489=>?_⟩
 have hE490:=(EnvOk.places (tb':=[⟨b,o,[.int .i16 v,.pointer ((D.f 0).A),.pointer ((D.f 1).A),.slice ((D.f 2).A) ((D.f 2).l) ((D.f 2).c),.int .i64 ((D.f 3).n),.map D.m],false⟩,⟨b6,0,[.int .i64 0,.slice none 0 0,.bool false,.slice none 0 0,.slice none 0 0],true⟩,⟨b14,0,[.int .i64 n47,.slice A52 s48.length c53,.bool b49,.slice A54 l50.length c55,.slice A56 u51.length c57,.int .i64 n91,.slice A96 s92.length c97,.bool b93,.slice A98 l94.length c99,.slice A100 u95.length c101,.int .i64 0,.slice none 0 0,.bool (((D.f 2).A).isNone),.slice A2_ k2_ c2_,.slice none 0 0,.int .i64 ((D.f 3).n),.slice none 0 0,.bool false,.slice none 0 0,.slice none 0 0],true⟩,⟨b24,0,[.int .i64 0,.slice none 0 0,.bool false,.slice (some ⟨b14,0,none⟩) 4 4,.slice A480 D.u.length c481],true⟩]) hE489 (show Pl [⟨b,o,[.int .i16 v,.pointer ((D.f 0).A),.pointer ((D.f 1).A),.slice ((D.f 2).A) ((D.f 2).l) ((D.f 2).c),.int .i64 ((D.f 3).n),.map D.m],false⟩,⟨b6,0,[.int .i64 0,.slice none 0 0,.bool false,.slice none 0 0,.slice none 0 0],true⟩,⟨b14,0,[.int .i64 n47,.slice A52 s48.length c53,.bool b49,.slice A54 l50.length c55,.slice A56 u51.length c57,.int .i64 n91,.slice A96 s92.length c97,.bool b93,.slice A98 l94.length c99,.slice A100 u95.length c101,.int .i64 0,.slice none 0 0,.bool (((D.f 2).A).isNone),.slice A2_ k2_ c2_,.slice none 0 0,.int .i64 ((D.f 3).n),.slice none 0 0,.bool false,.slice none 0 0,.slice none 0 0],true⟩,⟨b24,0,[.int .i64 0,.slice none 0 0,.bool false,.slice (some ⟨b14,0,none⟩) 4 4,.slice none 0 0],true⟩] [⟨b,o,[.int .i16 v,.pointer ((D.f 0).A),.pointer ((D.f 1).A),.slice ((D.f 2).A) ((D.f 2).l) ((D.f 2).c),.int .i64 ((D.f 3).n),.map D.m],false⟩,⟨b6,0,[.int .i64 0,.slice none 0 0,.bool false,.slice none 0 0,.slice none 0 0],true⟩,⟨b14,0,[.int .i64 n47,.slice A52 s48.length c53,.bool b49,.slice A54 l50.length c55,.slice A56 u51.length c57,.int .i64 n91,.slice A96 s92.length c97,.bool b93,.slice A98 l94.length c99,.slice A100 u95.length c101,.int .i64 0,.slice none 0 0,.bool (((D.f 2).A).isNone),.slice A2_ k2_ c2_,.slice none 0 0,.int .i64 ((D.f 3).n),.slice none 0 0,.bool false,.slice none 0 0,.slice none 0 0],true⟩,⟨b24,0,[.int .i64 0,.slice none 0 0,.bool false,.slice (some ⟨b14,0,none⟩) 4 4,.slice A480 D.u.length c481],true⟩] from ⟨rfl,rfl,⟨rfl,rfl,⟨rfl,rfl,⟨rfl,rfl,trivial⟩⟩⟩⟩)).pk (env':=[(91,.v (.tuple #[])),(2,.p 1 0),(3,.p 3 0),(89,.p 0 5),(90,.v (.func (.func 32) #[] #[.pointer (some ⟨b24,0,none⟩)]))])
 refine qaf (qab ?_)
 refine qad [0,1,2] kz ?_
 refine qal [0,1] [2] [(2,.p 1 0),(3,.p 3 0),(93,.v (.slice A480 D.u.length c481))] hW485 hE490 fun a492 hE493=>?_
 refine qak (qap hE493 (f:=33) (vs:=[.slice A480 D.u.length c481]) (d:=94) kz Tryd.call33 (qgC hU491 g5.sorted) ?_)
 rintro e_ w495 ⟨rfl,hs494⟩
 refine ⟨_,rfl,fun a496 hE497=>?_⟩
 have hW498:=hW485.next_nil hs494
 have hF499:=hW485.frN hs494
 refine qaf (qab ?_)
 refine qad [0,1] kz ?_
 refine qal [0] [1] [(2,.p 1 0),(95,.v (.agg #[.int .i64 0,.slice none 0 0,.bool false,.slice (some ⟨b14,0,none⟩) 4 4,.slice A480 D.u.length c481]))] hW498 hE497 fun a500 hE501=>?_
 refine qak (qao hW498 hE501 (oi:=1) (cs:=[.int .i64 0,.slice none 0 0,.bool false,.slice (some ⟨b14,0,none⟩) 4 4,.slice A480 D.u.length c481]) kz fun w502 hF503 hW504 hE505=>?_)
 refine qaf (qab ?_)
 refine wp_ret ?_
 refine qaV hE505 hW504.cells (v:=.agg #[.int .i64 0,.slice none 0 0,.bool false,.slice (some ⟨b14,0,none⟩) 4 4,.slice A480 D.u.length c481]) kz ?_
 have hT506:=(hT2_.move ((((hF462.trans hF472).trans hF486).trans hF499).trans hF503).step immM ((((hF462.trans hF472).trans hF486).trans hF499).trans hF503).to')
 rw [qhg (by omega)] at hT506
 exact qfE (u:=D.u) (l:=[qel (D.f 0).A (D.f 0).s,qel (D.f 1).A (D.f 1).s,.mk 0 [] (D.f 2).A.isNone ((List.range (D.f 2).l).map fun i=>qav ((D.f 2).f i)) [],.mk ((D.f 3).n) [] false [] []]) (css:=[[.int .i64 n47,.slice A52 s48.length c53,.bool b49,.slice A54 l50.length c55,.slice A56 u51.length c57],[.int .i64 n91,.slice A96 s92.length c97,.bool b93,.slice A98 l94.length c99,.slice A100 u95.length c101],[.int .i64 0,.slice none 0 0,.bool (((D.f 2).A).isNone),.slice A2_ k2_ c2_,.slice none 0 0],[.int .i64 ((D.f 3).n),.slice none 0 0,.bool false,.slice none 0 0,.slice none 0 0]]) hW504 2 rfl ⟨(show TreeR _ (Imm F w w502 [⟨b,o,[.int .i16 v,.pointer ((D.f 0).A),.pointer ((D.f 1).A),.slice ((D.f 2).A) ((D.f 2).l) ((D.f 2).c),.int .i64 ((D.f 3).n),.map D.m],false⟩,⟨b6,0,[.int .i64 0,.slice none 0 0,.bool false,.slice (some ⟨b14,0,none⟩) 4 4,.slice A480 D.u.length c481],true⟩,⟨b14,0,[.int .i64 n47,.slice A52 s48.length c53,.bool b49,.slice A54 l50.length c55,.slice A56 u51.length c57,.int .i64 n91,.slice A96 s92.length c97,.bool b93,.slice A98 l94.length c99,.slice A100 u95.length c101,.int .i64 0,.slice none 0 0,.bool (((D.f 2).A).isNone),.slice A2_ k2_ c2_,.slice none 0 0,.int .i64 ((D.f 3).n),.slice none 0 0,.bool false,.slice none 0 0,.slice none 0 0],true⟩,⟨b24,0,[.int .i64 0,.slice none 0 0,.bool false,.slice (some ⟨b14,0,none⟩) 4 4,.slice A480 D.u.length c481],true⟩] [⟨A2_,c2_,27,5,k2_,xs2_⟩]) _ _ from (hr46.move ((((((((((((hF77.trans hF81).trans hF114).trans hF121).trans hF125).trans hF138).trans hF144).trans hF152).trans hF462).trans hF472).trans hF486).trans hF499).trans hF503).step immM ((((((((((((hF77.trans hF81).trans hF114).trans hF121).trans hF125).trans hF138).trans hF144).trans hF152).trans hF462).trans hF472).trans hF486).trans hF499).trans hF503).to')).move (Step.refl _ Nil) nilM qbs,(show TreeR _ (Imm F w w502 [⟨b,o,[.int .i16 v,.pointer ((D.f 0).A),.pointer ((D.f 1).A),.slice ((D.f 2).A) ((D.f 2).l) ((D.f 2).c),.int .i64 ((D.f 3).n),.map D.m],false⟩,⟨b6,0,[.int .i64 0,.slice none 0 0,.bool false,.slice (some ⟨b14,0,none⟩) 4 4,.slice A480 D.u.length c481],true⟩,⟨b14,0,[.int .i64 n47,.slice A52 s48.length c53,.bool b49,.slice A54 l50.length c55,.slice A56 u51.length c57,.int .i64 n91,.slice A96 s92.length c97,.bool b93,.slice A98 l94.length c99,.slice A100 u95.length c101,.int .i64 0,.slice none 0 0,.bool (((D.f 2).A).isNone),.slice A2_ k2_ c2_,.slice none 0 0,.int .i64 ((D.f 3).n),.slice none 0 0,.bool false,.slice none 0 0,.slice none 0 0],true⟩,⟨b24,0,[.int .i64 0,.slice none 0 0,.bool false,.slice (some ⟨b14,0,none⟩) 4 4,.slice A480 D.u.length c481],true⟩] [⟨A2_,c2_,27,5,k2_,xs2_⟩]) _ _ from (hr90.move (((((((((hF121.trans hF125).trans hF138).trans hF144).trans hF152).trans hF462).trans hF472).trans hF486).trans hF499).trans hF503).step immM (((((((((hF121.trans hF125).trans hF138).trans hF144).trans hF152).trans hF462).trans hF472).trans hF486).trans hF499).trans hF503).to')).move (Step.refl _ Nil) nilM qbs,qgA hW504 (k:=0) rfl hT506 (by rw [qdC]; omega) (by rw [qdC]; omega),(show TreeR _ (Imm F w w502 [⟨b,o,[.int .i16 v,.pointer ((D.f 0).A),.pointer ((D.f 1).A),.slice ((D.f 2).A) ((D.f 2).l) ((D.f 2).c),.int .i64 ((D.f 3).n),.map D.m],false⟩,⟨b6,0,[.int .i64 0,.slice none 0 0,.bool false,.slice (some ⟨b14,0,none⟩) 4 4,.slice A480 D.u.length c481],true⟩,⟨b14,0,[.int .i64 n47,.slice A52 s48.length c53,.bool b49,.slice A54 l50.length c55,.slice A56 u51.length c57,.int .i64 n91,.slice A96 s92.length c97,.bool b93,.slice A98 l94.length c99,.slice A100 u95.length c101,.int .i64 0,.slice none 0 0,.bool (((D.f 2).A).isNone),.slice A2_ k2_ c2_,.slice none 0 0,.int .i64 ((D.f 3).n),.slice none 0 0,.bool false,.slice none 0 0,.slice none 0 0],true⟩,⟨b24,0,[.int .i64 0,.slice none 0 0,.bool false,.slice (some ⟨b14,0,none⟩) 4 4,.slice A480 D.u.length c481],true⟩] [⟨A2_,c2_,27,5,k2_,xs2_⟩]) _ _ from (TreeR.mk (n:=(D.f 3).n) (b:=false) (s:=[]) (l:=[]) (u:=[]) (fun _=>[]) (Octs.nil _ _) (Slots.nil _ _ _ _) (fun i_ x_ h_=>by simp at h_) (TagsR.nil _ _))).move (Step.refl _ Nil) nilM qbs,trivial⟩ ((show TagsR _ (Imm F w w502 [⟨b,o,[.int .i16 v,.pointer ((D.f 0).A),.pointer ((D.f 1).A),.slice ((D.f 2).A) ((D.f 2).l) ((D.f 2).c),.int .i64 ((D.f 3).n),.map D.m],false⟩,⟨b6,0,[.int .i64 0,.slice none 0 0,.bool false,.slice (some ⟨b14,0,none⟩) 4 4,.slice A480 D.u.length c481],true⟩,⟨b14,0,[.int .i64 n47,.slice A52 s48.length c53,.bool b49,.slice A54 l50.length c55,.slice A56 u51.length c57,.int .i64 n91,.slice A96 s92.length c97,.bool b93,.slice A98 l94.length c99,.slice A100 u95.length c101,.int .i64 0,.slice none 0 0,.bool (((D.f 2).A).isNone),.slice A2_ k2_ c2_,.slice none 0 0,.int .i64 ((D.f 3).n),.slice none 0 0,.bool false,.slice none 0 0,.slice none 0 0],true⟩,⟨b24,0,[.int .i64 0,.slice none 0 0,.bool false,.slice (some ⟨b14,0,none⟩) 4 4,.slice A480 D.u.length c481],true⟩] [⟨A2_,c2_,27,5,k2_,xs2_⟩]) _ _ _ from (hU491.move (hF499.trans hF503).step immM (hF499.trans hF503).to')).move (Step.refl _ Nil) nilM qbs)
end Go.Proofs.YtmpejmiiphddhaaDoorR.ME
namespace Go.Proofs.YtmpejmiiphddhaaDoorR.ME
open Go
open Go.RowKit
set_option linter.unusedVariables false
set_option linter.unusedSimpArgs false
set_option maxRecDepth 20000
structure UTR (w w':World) (br p2 p3:Nat) (F:Nat → Nat → Prop) (A:Option Addr) (n c:Nat) (σ:Sg) (m:Option Nat) (u:List (Int × Bs)):Prop where
 step:Step w w' (RdM br)
 old:br < w.heap.size
 new2:w.heap.size ≤ p2
 new3:w.heap.size ≤ p3
 ne:p2 ≠ p3
 rd:Str w' br [.slice A n c,.bool σ.1]
 s2:Str w' p2 [.map none]
 s3:Str w' p3 [.map m]
 oct:RdS w' (fun b o=>F b o ∧ b < w.heap.size) A n c σ.2
 own:OwnM w' (fun b o=>F b o ∧ b < w.heap.size) m u
 new:∀ r,m = some r → w.heap.size ≤ r
theorem UTR.mne {w w':World} {br p2 p3:Nat} {F:Nat → Nat → Prop} {A:Option Addr} {n c:Nat} {s:Sg} {m:Option Nat} {u:List (Int × Bs)} (h:UTR w w' br p2 p3 F A n c s m u):m ≠ some p2 ∧ m ≠ some p3:=by
 refine ⟨fun e=>?_,fun e=>?_⟩
 ·obtain ⟨es,clk,h1,_⟩:=h.own.some_ p2 e
  exact qdI (h.s2.at_ 0 _ rfl) h1 rfl
 obtain ⟨es,clk,h1,_⟩:=h.own.some_ p3 e
 exact qdI (h.s3.at_ 0 _ rfl) h1 rfl
theorem UTR.read {w w' w1:World} {br p2 p3:Nat} {F:Nat → Nat → Prop} {A A':Option Addr} {n c n' c':Nat} {s s':Sg} {m:Option Nat} {u:List (Int × Bs)} (h:UTR w w' br p2 p3 F A n c s m u) (hFd:∀ b o,F b o → ¬ RdM br b o) (hs:Str w1 br [.slice A' n' c',.bool s'.1]) (hr:RdS w1 (fun b o=>F b o ∧ b < w.heap.size) A' n' c' s'.2) (hst:Step w' w1 (RdM br)):UTR w w1 br p2 p3 F A' n' c' s' m u:=by
 have ho:=h.old
 have h2:=h.new2
 have h3:=h.new3
 refine ⟨h.step.trans hst fun _ _ _ e=>e,ho,h2,h3,h.ne,hs,h.s2.move hst fun o e=>?_,h.s3.move hst fun o e=>?_,hr,h.own.move hst (fun b o hg _=>hFd b o hg.1) qaI (fun r o e he=>?_),h.new⟩
 ·have:=e.1; omega
 ·have:=e.1; omega
 have:=h.new r e; have:=he.1; omega
theorem UTR.set {w w':World} {br p2 p3:Nat} {F:Nat → Nat → Prop} {A A1:Option Addr} {n c c1:Nat} {s:Sg} {x:Bs} {k:Int} {m:Option Nat} {u:List (Int × Bs)} (h:UTR w w' br p2 p3 F A n c s m u) (hx:Octs w' (fun b o=>F b o ∧ b < w.heap.size) A1 c1 x) (hk:0 ≤ k ∧ k < 4294967296) :
  Calls Tryd.prog 60 [.pointer (some ⟨p3,0,none⟩),.int .u32 k,.slice A1 x.length c1].toArray w' (fun e w1=>e = .returned (.tuple #[]) ∧ ∃ r,UTR w w1 br p2 p3 F A n c s (some r) (setT u k x)):=by
 have hcell:w'.cell? ⟨p3,0,none⟩ = some (.map m):=h.s3.at_ 0 _ rfl
 have hfz:w'.frozen? ⟨p3,0,none⟩ = false:=h.s3.frz 0 (by simp)
 have hnew:=h.new
 have h2:=h.new2
 have h3:=h.new3
 have ho:=h.old
 have hsz:=h.step.size
 obtain ⟨m2,m3⟩:=h.mne
 refine (qgW hcell hfz h.own hx hk (fun b' o' hg=>⟨fun e=>?_,fun e=>?_⟩) (fun b' o' hg=>Nat.lt_of_lt_of_le hg.2 hsz)).mono ?_
 ·have:=hg.2; omega
 ·have:=hnew b' e; have:=hg.2; omega
 rintro e w1 ⟨rfl,r,g1,g2,g3,g4,g5⟩
 refine ⟨rfl,r,h.step.trans g5 fun b o hl e=>?_,ho,h2,h3,h.ne,h.rd.move g5 fun o e=>?_,h.s2.move g5 fun o e=>?_,⟨fun i v hi=>?_,fun i hi=>?_⟩,⟨h.oct.len,Octs.move h.oct.oct g5 (fun b o hg _ e=>?_) qaI⟩,g3,fun r' hr'=>?_⟩
 ·rcases e with ⟨e1,_⟩ | e1
  ·omega
  have:=hnew b e1; omega
 ·rcases e with ⟨e1,_⟩ | e1
  ·omega
  have:=hnew br e1; omega
 ·rcases e with ⟨e1,_⟩ | e1
  ·exact h.ne e1
  exact m2 e1
 ·cases i with
  | zero =>
   simp only [List.getElem?_cons_zero,Option.some.injEq] at hi
   subst hi
   exact g1
  | succ i=>simp at hi
 ·have:i = 0:=by simp at hi; omega
  subst this
  exact g2
 ·have:=hg.2
  rcases e with ⟨e1,_⟩ | e1
  ·omega
  have:=hnew b e1; omega
 obtain rfl:=Option.some.inj hr'
 rcases g4 with g4 | g4
 ·exact hnew _ g4
 exact Nat.le_trans hsz g4
theorem qhh (σ:Sg) {br:Nat} {A:Option Addr} {m c:Nat} {w:World} {F:Nat → Nat → Prop} (hst:Str w br [.slice A m c,.bool σ.1]) (hr:RdS w F A m c σ.2) (hFd:∀ b o,F b o → ¬ RdM br b o) :
  Calls Tryd.prog 50 #[.pointer (some ⟨br,0,none⟩)] w (RdPostT w br (Fp F w) (qfn σ) fun v w'=>∃ mm,v = .agg #[.map mm] ∧ MapR w' (Fp F w) mm (qdL σ)):=by
 have hbr:br < w.heap.size:=World.lt_of_cell (hst.at_ 0 _ rfl)
 refine enter (n:=24) (vs:=[.pointer (some ⟨br,0,none⟩)]) Tryd.func50 rfl Tryd.ntmps50 kz fun a hE=>?_
 have hW:=WOk.start w Nil
 refine qad [0] kz ?_
 refine qak (qaH hW hE (d:=2) (cs:=[.map none]) kz fun p2 a1 w1 hp2 hz2 hF1 hW1 hE1=>qaf (qab ?_))
 refine qad [0] kz ?_
 refine qak (qaH hW1 hE1 (d:=3) (cs:=[.map none]) kz fun p3 a2 w2 hp3 hz3 hF2 hW2 hE2=>qaf (qab ?_))
 have hne:p2 ≠ p3:=by
  have h1:=hW1.live 0 _ rfl
  simp only at h1
  omega
 have hS:Step w w2 Nil:=hW2.step
 have hT0:UTR w w2 br p2 p3 F A m c σ none []:=by
  refine ⟨hS.mono fun _ _ _ h=>h.elim,hbr,hz2,hz3,hne,hst.move hS (fun _ h=>h),Str.of hW2 0 rfl,Str.of hW2 1 rfl,hr.move hS nilM (fun b o h hb=>⟨h,hb⟩),?_,fun _ h=>by cases h⟩
  exact OwnM.nil _ _
 refine wp_seq ?_
 have hE3:=(((hE2.recast 2 (.p 0 0) (.v (.pointer (some ⟨p2,0,none⟩))) rfl rfl trivial).recast 3 (.p 1 0) (.v (.pointer (some ⟨p3,0,none⟩))) rfl rfl trivial).pick (ks:=[0,2,3]) (env':=[(0,.v (.pointer (some ⟨br,0,none⟩))),(2,.v (.pointer (some ⟨p2,0,none⟩))),(3,.v (.pointer (some ⟨p3,0,none⟩)))]) kz).cutTb 0 kz
 have hWz:=WOk.start w2 Nil
 refine qad [0,1,2] kz ?_
 refine qal [0] [1,2] [(0,.v (.pointer (some ⟨br,0,none⟩))),(2,.v (.pointer (some ⟨p2,0,none⟩))),(3,.v (.pointer (some ⟨p3,0,none⟩))),(7,.v (.pointer (some ⟨br,0,none⟩)))] hWz hE3 fun a3 hE4=>?_
 have hFd':∀ b o,(F b o ∧ b < w.heap.size) → ¬ RdM br b o:=fun b o h=>hFd b o h.1
 refine qak (qap hE4 (f:=56) (vs:=[.pointer (some ⟨br,0,none⟩)]) (d:=8) kz Tryd.call56 (qdB σ hT0.rd hT0.oct hFd') ?_)
 rintro e_ w3 ⟨_,A3,n3,c3,rfl,hs3,hr3,hst3,rfl⟩
 have hT1:=hT0.read hFd hs3 hr3 hst3
 refine ⟨_,rfl,fun a4 hE5=>?_⟩
 refine qal [2] [] [(0,.v (.pointer (some ⟨br,0,none⟩))),(2,.v (.pointer (some ⟨p2,0,none⟩))),(3,.v (.pointer (some ⟨p3,0,none⟩))),(4,.v (.int .u32 ((uUv σ:Nat):Int)))] (WOk.start w3 Nil) hE5 fun a5 hE6=>qaf (qab ?_)
 refine wp_block ?_
 refine wp_loop_ghost (fun q a_ w_=>∃ (p:Nat) (u_:List (Int × Bs)) (σ_:Sg) (m_:Option Nat) (A_:Option Addr) (n_ c_:Nat),q = p ∧ p < 4294967296 ∧ qen p u_ σ_ = qen (uUv σ) [] (aUv σ) ∧ qdf u_ ∧ (∀ x ∈ u_,0 ≤ x.1 ∧ x.1 < 4294967296) ∧ EnvOk 24 [] [(0,.v (.pointer (some ⟨br,0,none⟩))),(2,.v (.pointer (some ⟨p2,0,none⟩))),(3,.v (.pointer (some ⟨p3,0,none⟩))),(4,.v (.int .u32 ((p:Nat):Int)))] a_ ∧ UTR w w_ br p2 p3 F A_ n_ c_ σ_ m_ u_) (uUv σ)
  ⟨uUv σ,[],aUv σ,none,A3,n3,c3,rfl,qbG σ,rfl,List.Pairwise.nil,(fun x hx=>by cases hx),hE6,hT1⟩ ?_
 rintro q aq wq ⟨p,u,σ_,m_,A_,n_,c_,rfl,hplt,htg,hsort,hk,hEq,hT⟩
 have hWq:=WOk.start wq Nil
 refine wp_seq (qas [(0,.v (.pointer (some ⟨br,0,none⟩))),(2,.v (.pointer (some ⟨p2,0,none⟩))),(3,.v (.pointer (some ⟨p3,0,none⟩))),(4,.v (.int .u32 ((q:Nat):Int))),(10,.v (.bool (decide (((q:Nat):Int) > 0))))] hWq hEq fun aq1 hE7=>?_)
 refine qaY hE7 (b:=decide (((q:Nat):Int) > 0)) kz (fun hc=>?_) (fun hc=>?_)
 ·obtain ⟨p,rfl⟩:∃ p,q = p + 1:=⟨q - 1,by have:=of_decide_eq_true hc; omega⟩
  have hka:=qbG σ_
  have hkb:=qbG (aUv σ_)
  refine wp_skip (qab (wp_seq (wp_block ?_)))
  refine qad [0,1,2,3,4,5] kz ?_
  refine qal [0] [1,2,3,4,5] [(0,.v (.pointer (some ⟨br,0,none⟩))),(2,.v (.pointer (some ⟨p2,0,none⟩))),(3,.v (.pointer (some ⟨p3,0,none⟩))),(4,.v (.int .u32 ((p + 1:Nat):Int))),(13,.v (.pointer (some ⟨br,0,none⟩)))] hWq hE7 fun aq2 hE8=>?_
  refine qak (qap hE8 (f:=56) (vs:=[.pointer (some ⟨br,0,none⟩)]) (d:=14) kz Tryd.call56 (qdB σ_ hT.rd hT.oct hFd') ?_)
  rintro e_ wa ⟨_,Aa,na,ca,rfl,hsa,hra,hsta,rfl⟩
  have hTa:=hT.read hFd hsa hra hsta
  refine ⟨_,rfl,fun aq3 hE9=>?_⟩
  refine qal [2] [3,4,5] [(0,.v (.pointer (some ⟨br,0,none⟩))),(2,.v (.pointer (some ⟨p2,0,none⟩))),(3,.v (.pointer (some ⟨p3,0,none⟩))),(4,.v (.int .u32 ((p + 1:Nat):Int))),(14,.v (.int .u32 ((uUv σ_:Nat):Int))),(15,.v (.pointer (some ⟨br,0,none⟩)))] (WOk.start wa Nil) hE9 fun aq4 hE10=>?_
  refine qak (qap hE10 (f:=56) (vs:=[.pointer (some ⟨br,0,none⟩)]) (d:=16) kz Tryd.call56 (qdB (aUv σ_) hTa.rd hTa.oct hFd') ?_)
  rintro e_ wb ⟨_,Ab,nb,cb,rfl,hsb,hrb,hstb,rfl⟩
  have hTb:=hTa.read hFd hsb hrb hstb
  refine ⟨_,rfl,fun aq5 hE11=>?_⟩
  refine qal [4,5] [] [(0,.v (.pointer (some ⟨br,0,none⟩))),(2,.v (.pointer (some ⟨p2,0,none⟩))),(3,.v (.pointer (some ⟨p3,0,none⟩))),(4,.v (.int .u32 ((p + 1:Nat):Int))),(5,.v (.int .u32 ((uUv σ_:Nat):Int))),(6,.v (.int .u32 ((uUv (aUv σ_):Nat):Int)))] (WOk.start wb Nil) hE11 fun aq6 hE12=>qaf (qab ?_)
  refine qaF [0,1,2,3,4,5] kz ?_
  refine qal [0,1,2,3] [4,5] [(0,.v (.pointer (some ⟨br,0,none⟩))),(2,.v (.pointer (some ⟨p2,0,none⟩))),(3,.v (.pointer (some ⟨p3,0,none⟩))),(4,.v (.int .u32 ((p + 1:Nat):Int))),(17,.v (.int .u32 ((uUv σ_:Nat):Int))),(18,.v (.pointer (some ⟨br,0,none⟩))),(20,.v (.int .i64 (IntKind.i64.wrap ((uUv (aUv σ_):Nat):Int))))] (WOk.start wb Nil) hE12 fun aq7 hE13=>?_
  rw [show IntKind.i64.wrap ((uUv (aUv σ_):Nat):Int) = ((uUv (aUv σ_):Nat):Int) by rw [i64w]; omega] at hE13
  refine qak (qap hE13 (f:=58) (vs:=[.pointer (some ⟨br,0,none⟩),.int .i64 ((uUv (aUv σ_):Nat):Int)]) (d:=21) kz Tryd.call58 (qeS ((uUv (aUv σ_):Nat):Int) (aUv (aUv σ_)) hTb.rd hTb.oct hFd') ?_)
  rintro e_ wc ⟨_,Ac,nc,cc,rfl,hsc,hrc,hstc,Ax,cx,rfl,hox⟩
  have hTc:=hTb.read hFd hsc hrc hstc
  refine ⟨_,rfl,fun aq8 hE14=>?_⟩
  refine qak (qap hE14 (f:=60) (vs:=[.pointer (some ⟨p3,0,none⟩),.int .u32 ((uUv σ_:Nat):Int),.slice Ax (uSp ((uUv (aUv σ_):Nat):Int) (aUv (aUv σ_))).length cx]) (d:=22) kz Tryd.call60 (hTc.set hox ⟨by omega,by omega⟩) ?_)
  rintro e_ wd ⟨rfl,r,hTd⟩
  refine ⟨_,rfl,fun aq9 hE15=>qaf (qa8 (qab ?_))⟩
  refine qaF [0,1,2] kz (qal [0,1,2] [] [(0,.v (.pointer (some ⟨br,0,none⟩))),(2,.v (.pointer (some ⟨p2,0,none⟩))),(3,.v (.pointer (some ⟨p3,0,none⟩))),(4,.v (.int .u32 (IntKind.u32.wrap (((p + 1:Nat):Int) - 1))))] (WOk.start wd Nil) hE15 fun aqa hE16=>qaf (qab ?_))
  rw [show IntKind.u32.wrap (((p + 1:Nat):Int) - 1) = ((p:Nat):Int) by rw [qaq]; omega] at hE16
  exact ⟨p,by omega,p,_,_,some r,Ac,nc,cc,rfl,by omega,htg,qcQ hsort,(fun x hx=>by
   rcases (qbr hsort x).1 hx with rfl | ⟨h,_⟩
   ·exact ⟨by dsimp only; omega,by dsimp only; omega⟩
   exact hk x h),hE16,hTd⟩
 obtain rfl:q = 0:=by have:=of_decide_eq_false hc; omega
 have hu:u = qdL σ:=congrArg Prod.fst htg
 have hs_:σ_ = qfn σ:=congrArg Prod.snd htg
 subst hu
 subst hs_
 refine wp_exit (qaR (qaR (qbn (qab ?_))))
 have hT':UTR w wq br p2 p3 F A_ n_ c_ (qfn σ) m_ (qdL σ):=hT
 have h2:=hT'.new2
 have h3:=hT'.new3
 have hW9:WOk w (RdM br) wq ([] ++ [⟨p3,0,[.map m_],true⟩] ++ [⟨p2,0,[.map none],true⟩]) []:=by
  have hb:WOk w (RdM br) wq [] []:=⟨hT'.step,fun i o hi=>by simp at hi,fun i o hi=>by simp at hi,fun i o hi=>by simp at hi,fun i j o o' _ hi=>by simp at hi,fun i r hi=>by simp at hi,fun i r hi=>by simp at hi,fun i r hi=>by simp at hi,fun i j r r' _ hi=>by simp at hi⟩
  have h4:=hb.add ⟨p3,0,[.map m_],true⟩ (World.lt_of_cell (hT'.s3.at_ 0 _ rfl)) (fun j v hj=>by rw [Nat.zero_add]; exact hT'.s3.at_ j v hj) (fun _ j hj=>⟨.inl h3,by rw [Nat.zero_add]; exact hT'.s3.frz j hj⟩) (fun i o hi=>by simp at hi) (fun i r hi=>by simp at hi)
  refine h4.add ⟨p2,0,[.map none],true⟩ (World.lt_of_cell (hT'.s2.at_ 0 _ rfl)) (fun j v hj=>by rw [Nat.zero_add]; exact hT'.s2.at_ j v hj) (fun _ j hj=>⟨.inl h2,by rw [Nat.zero_add]; exact hT'.s2.frz j hj⟩) (fun i o hi _=>.inl ?_) (fun i r hi=>by simp at hi)
  have:o = ⟨p3,0,[.map m_],true⟩:=by
   have hm:=List.mem_of_getElem? hi
   simpa using hm
  rw [this]
  exact fun e=>hT'.ne e.symm
 have hE17:=(((hE7.retable [⟨p3,0,[.map m_],true⟩,⟨p2,0,[.map none],true⟩]).recast 3 (.v (.pointer (some ⟨p3,0,none⟩))) (.p 0 0) rfl rfl (Nat.le_of_ble_eq_true (n:=1) rfl)).recast 2 (.v (.pointer (some ⟨p2,0,none⟩))) (.p 1 0) rfl rfl (Nat.le_of_ble_eq_true (n:=2) rfl))
 have hE18:EnvOk 24 [⟨p3,0,[.map m_],true⟩,⟨p2,0,[.map none],true⟩] [(2,.p 1 0),(3,.p 0 0)] _:=hE17.pk
 refine qad [0,1] kz ?_
 refine qal [0] [1] [(2,.p 1 0),(23,.v (.agg #[.map m_]))] hW9 hE18 fun aqb hE19=>?_
 refine qak (qao hW9 hE19 (oi:=1) (cs:=[.map m_]) kz fun wz hFz hWz hEz=>qaf (qab (wp_ret ?_)))
 have hsz:=hT'.step.size
 have hstz:Step wq wz (fun b o=>b = p2 ∨ b = p3):=hFz.step.mono fun b o _ ha=>by
  rcases ha with ⟨i,ob,hi,_,rfl,_⟩ | ⟨i,r,hi,_⟩
  ·have hm:=List.mem_of_getElem? hi
   simp only [List.nil_append,List.cons_append,List.mem_cons,List.not_mem_nil,or_false] at hm
   rcases hm with rfl | rfl
   ·exact .inr rfl
   exact .inl rfl
  simp at hi
 obtain ⟨m2,m3⟩:=hT'.mne
 refine qaV hEz hWz.cells (v:=.agg #[.map m_]) kz ⟨_,A_,n_,c_,rfl,hT'.rd.move hstz (fun o e=>?_),hT'.oct.move hstz (fun b o hg _ e=>?_) (fun b o hg _=>.inl hg.1),hWz.step,m_,rfl,?_⟩
 ·have:=hT'.old; rcases e with e | e <;> omega
 ·have:=hg.2; rcases e with e | e <;> omega
 refine (hT'.own.move hstz (fun b o hg _ e=>?_) qaI (fun r o e he=>?_)).map (fun b o h=>.inl h.1) (fun r o e=>.inr (hT'.new r e)) hsort hk
 ·have:=hg.2; rcases e with e | e <;> omega
 rcases he with he | he
 ·exact m2 (by rw [e,he])
 exact m3 (by rw [e,he])
theorem qil (σ:Sg):RPrimU Tryd.prog 50 σ (qfn σ) (fun m:Option Nat=>.agg #[.map m]) (fun m=>qh9 m (qdL σ)):=⟨mn_Tags.len σ,fun hst hr hF=>(qhh σ hst hr hF).mono fun e w' hp=>hp.q fun v w' h=>h⟩
def tnT (o:Option Bs):Tree:=.mk 0 (if o.isNone = true then [] else sb (bs (o.getD []))) o.isNone [] []
theorem qhC {A:Option Addr} {o:Option Bs} (h:A.isNone = o.isNone):qel A (bs (o.getD [])) = tnT o:=by
 unfold qel tnT
 rw [h]
theorem trc {l l':List Tree} {u u':List (Int × Bs)} (h:l = l') (h':u = u'):Tree.mk 0 [] false l u = Tree.mk 0 [] false l' u':=by rw [h,h']
theorem tlc {a b:Tree} {l l':List Tree} (h:a = b) (h':l = l'):a :: l = b :: l':=by rw [h,h']
theorem qhi {N:Nat} {b b':Bool} {g g':Nat → Tree} (hb:b = b') (h:∀ i,i < N → g i = g' i):Tree.mk 0 [] b ((List.range N).map g) [] = Tree.mk 0 [] b' ((List.range N).map g') []:=by
 rw [hb,List.map_congr_left fun i hi=>h i (List.mem_range.1 hi)]
theorem qgD {N:Nat} {b b':Bool} {g g':Nat → Tree} (hb:b = b') (h:N = 0):Tree.mk 0 [] b ((List.range 0).map g) [] = Tree.mk 0 [] b' ((List.range N).map g') []:=by
 subst h
 rw [hb]; rfl
theorem qe7 (f:Bool) (σ:Sg):((qcD f σ).getD []).length ≤ σ.2.length:=by
 unfold qcD qdA qeQ
 repeat' split
 all_goals first | exact Nat.zero_le _ | exact Nat.le_trans (qeh _ _) (mn_Uv.len σ) | exact Nat.le_trans (qeh _ _) ((mn_N 2).len σ)
theorem qfG {u:List (Int × Bs)} {k:Int} {s:Bs}:(setT u k s).length ≤ u.length + 1:=by
 induction u with
 | nil=>exact Nat.le_refl _
 | cons x r ih =>
  unfold setT
  repeat' split
  all_goals simp only [List.length_cons]
  all_goals omega
theorem qhj {u:List (Int × Bs)} {k:Int} {s:Bs} (hs:qdf u) (h:∃ x ∈ u,x.1 = k):(setT u k s).length ≤ u.length:=by
 induction u with
 | nil=>obtain ⟨x,hx,_⟩:=h; cases hx
 | cons x r ih =>
  have h1:=@List.rel_of_pairwise_cons _ _ _ _ hs
  unfold setT
  by_cases hk:k < x.1
  ·exfalso
   obtain ⟨y,hy,rfl⟩:=h
   rcases List.mem_cons.1 hy with rfl | hy
   ·omega
   have:=h1 hy; omega
  rw [if_neg hk]
  by_cases he:k = x.1
  ·rw [if_pos he]; exact Nat.le_refl _
  rw [if_neg he,List.length_cons,List.length_cons]
  refine Nat.succ_le_succ (ih (List.Pairwise.of_cons hs) ?_)
  obtain ⟨y,hy,rfl⟩:=h
  rcases List.mem_cons.1 hy with rfl | hy
  ·exact absurd rfl he
  exact ⟨y,hy,rfl⟩
def zkey (u:List (Int × Bs)):Nat:=if ∃ x ∈ u,x.1 = 0 then 0 else 1
theorem qhk {u:List (Int × Bs)} (hs:qdf u) (k:Int) (s:Bs):zkey (setT u k s) ≤ zkey u:=by
 unfold zkey
 by_cases h:∃ x ∈ u,x.1 = 0
 ·rw [if_pos h,if_pos ?_]; exact Nat.le_refl _
  obtain ⟨x,hx,h0⟩:=h
  by_cases hk:k = 0
  ·exact ⟨(k,s),(qbr hs _).2 (.inl rfl),hk⟩
  exact ⟨x,(qbr hs _).2 (.inr ⟨hx,by omega⟩),h0⟩
 rw [if_neg h]
 split <;> omega
theorem qgE {u:List (Int × Bs)} (hs:qdf u) (s:Bs):zkey (setT u 0 s) = 0:=if_pos ⟨(0,s),(qbr hs _).2 (.inl rfl),rfl⟩
theorem qgF (σ:Sg):(uUv σ = 0 ∧ (aUv σ).2 = []) ∨ (aUv σ).2.length + 1 ≤ σ.2.length:=by
 have h:=(qeP σ.2).1
 unfold uUv aUv
 by_cases hp:(uvG σ.2).2 ≤ 0
 ·rw [if_pos hp,if_pos hp]; exact .inl ⟨rfl,rfl⟩
 rw [if_neg hp,if_neg hp]
 right
 dsimp only
 rw [List.length_drop]; omega
theorem qfH:∀ (n:Nat) (u:List (Int × Bs)) (σ:Sg) (L:Nat),qdf u → (∀ x ∈ u,0 ≤ x.1 ∧ x.1 < 4294967296 ∧ x.2.length ≤ L) → σ.2.length ≤ L →
  qdf (qen n u σ).1 ∧ (qen n u σ).1.length ≤ u.length + σ.2.length + zkey u ∧ ∀ x ∈ (qen n u σ).1,0 ≤ x.1 ∧ x.1 < 4294967296 ∧ x.2.length ≤ L
 | 0,u,σ,L,hs,hu,hL=>⟨hs,by show u.length ≤ _; omega,hu⟩
 | n + 1,u,σ,L,hs,hu,hL=>by
  have hlt:=qbG σ
  have hs1:qdf (tag1 u σ):=qcQ hs
  have hx:=qeh (uUv (aUv σ):Int) (aUv (aUv σ))
  have h1:=mn_Uv.len σ
  have h2:=mn_Uv.len (aUv σ)
  have h3:=(qfo (uUv (aUv σ):Int)).len (aUv (aUv σ))
  have hu1:∀ x ∈ tag1 u σ,0 ≤ x.1 ∧ x.1 < 4294967296 ∧ x.2.length ≤ L:=fun x hx_=>by
   rcases (qbr hs x).1 hx_ with rfl | ⟨h,_⟩
   ·exact ⟨by dsimp only; omega,by dsimp only; omega,by dsimp only; omega⟩
   exact hu x h
  have ih:=qfH n (tag1 u σ) (aTag σ) L hs1 hu1 (by unfold aTag; omega)
  unfold qen
  refine ⟨ih.1,Nat.le_trans ih.2.1 ?_,ih.2.2⟩
  rcases qgF σ with ⟨h0,hn⟩ | hlen
  ·have e1:(tag1 u σ) = setT u 0 (uSp (uUv (aUv σ):Int) (aUv (aUv σ))):=by unfold tag1; rw [h0]; rfl
   have hz:=qgE hs (uSp (uUv (aUv σ):Int) (aUv (aUv σ)))
   have hl0:(aUv σ).2.length = 0:=by rw [hn]; rfl
   have hA:(aTag σ).2.length = 0:=by unfold aTag; omega
   rw [e1,hz,hA]
   by_cases hk:∃ x ∈ u,x.1 = 0
   ·have:=qhj (s:=uSp (uUv (aUv σ):Int) (aUv (aUv σ))) hs hk; omega
   have:=qfG (u:=u) (k:=0) (s:=uSp (uUv (aUv σ):Int) (aUv (aUv σ)))
   have hz1:zkey u = 1:=if_neg hk
   omega
  have hk:=qhk hs (uUv σ:Int) (uSp (uUv (aUv σ):Int) (aUv (aUv σ)))
  have hl:=qfG (u:=u) (k:=(uUv σ:Int)) (s:=uSp (uUv (aUv σ):Int) (aUv (aUv σ)))
  have e1:(tag1 u σ) = setT u (uUv σ:Int) (uSp (uUv (aUv σ):Int) (aUv (aUv σ))):=rfl
  have e2:(aTag σ).2.length ≤ (aUv σ).2.length:=by unfold aTag; omega
  rw [e1]; omega
theorem qe8 (σ:Sg):qdf (qdL σ) ∧ (qdL σ).length ≤ σ.2.length + 1 ∧ ∀ x ∈ qdL σ,0 ≤ x.1 ∧ x.1 < 4294967296 ∧ x.2.length ≤ σ.2.length:=by
 have h:=qfH (uUv σ) [] (aUv σ) σ.2.length List.Pairwise.nil (fun x hx=>by cases hx) (mn_Uv.len σ)
 have h1:=mn_Uv.len σ
 refine ⟨h.1,Nat.le_trans h.2.1 ?_,h.2.2⟩
 have:zkey [] ≤ 1:=by unfold zkey; split <;> omega
 simp only [List.length_nil]; omega
theorem qd4 (σ:Sg):(qdL σ).length ≤ σ.2.length + 1 ∧ ∀ x ∈ qdL σ,x.2.length ≤ σ.2.length:=⟨(qe8 σ).2.1,fun x hx=>((qe8 σ).2.2 x hx).2.2⟩
theorem qhD {f:Bool} {σ:Sg} (h:f = true):aTxt f σ = qfl σ:=by unfold aTxt; exact if_pos h
theorem qhE {f:Bool} {σ:Sg} (h:f = false):aTxt f σ = aStr σ:=by unfold aTxt; exact if_neg (by rw [h]; decide)
theorem qhF {f:Bool} {σ:Sg} (h:f = true):uTxt f σ = qfk σ:=by unfold uTxt; exact if_pos h
theorem qhG {f:Bool} {σ:Sg} (h:f = false):uTxt f σ = uStr σ:=by unfold uTxt; exact if_neg (by rw [h]; decide)
theorem qgG {f:Bool} {σ:Sg} (h:f = true):qdT f σ = qeg σ:=by unfold qdT; exact if_pos h
theorem qgH {f:Bool} {σ:Sg} (h:f = false):qdT f σ = qfm σ:=by unfold qdT; exact if_neg (by rw [h]; decide)
theorem qgI {f:Bool} {σ:Sg} (h:f = true):qcD f σ = qdA σ:=by unfold qcD; exact if_pos h
theorem qgJ {f:Bool} {σ:Sg} (h:f = false):qcD f σ = qeQ σ:=by unfold qcD; exact if_neg (by rw [h]; decide)
theorem qim {f:Bool} {σ:Sg} (h:f = true):aLen f σ = aCAL σ:=by unfold aLen; exact if_pos h
theorem qin {f:Bool} {σ:Sg} (h:f = false):aLen f σ = aAL σ:=by unfold aLen; exact if_neg (by rw [h]; decide)
theorem qio {f:Bool} {σ:Sg} (h:f = true):uLen f σ = uCAL σ:=by unfold uLen; exact if_pos h
theorem qip {f:Bool} {σ:Sg} (h:f = false):uLen f σ = uAL σ:=by unfold uLen; exact if_neg (by rw [h]; decide)
section
variable {f:Bool}
theorem qgK (h:f = false) (σ:Sg):RPrim0U Tryd.prog 49 σ (aTxt f σ) (.string (bs (uTxt f σ))):=by rw [qhE h,qhG h]; exact qhW σ
theorem qdD (h:f = false) (σ:Sg):RPrim0U Tryd.prog 47 σ (aTxt f σ) (.string (bs (uTxt f σ))):=by rw [qhE h,qhG h]; exact qeU σ
theorem qdg (h:f = true) (σ:Sg):RPrim0U Tryd.prog 48 σ (aTxt f σ) (.string (bs (uTxt f σ))):=by rw [qhD h,qhF h]; exact qer σ
theorem qcu (h:f = true) (σ:Sg):RPrim0U Tryd.prog 46 σ (aTxt f σ) (.string (bs (uTxt f σ))):=by rw [qhD h,qhF h]; exact qdd σ
theorem qc5 (h:f = false) (σ:Sg):RPrimU Tryd.prog 40 σ (qdT f σ) (fun A:Option Addr=>.pointer A) (fun A=>andF (qcR A ((qcD f σ).getD [])) (isF (A.isNone = (qcD f σ).isNone))):=by rw [qgH h,qgJ h]; exact qej σ
theorem qcs (h:f = false) (σ:Sg):RPrimU Tryd.prog 39 σ (qdT f σ) (fun A:Option Addr=>.pointer A) (fun A=>andF (qcR A ((qcD f σ).getD [])) (isF (A.isNone = (qcD f σ).isNone))):=by rw [qgH h,qgJ h]; exact qc4 σ
theorem qck (h:f = true) (σ:Sg):RPrimU Tryd.prog 38 σ (qdT f σ) (fun A:Option Addr=>.pointer A) (fun A=>andF (qcR A ((qcD f σ).getD [])) (isF (A.isNone = (qcD f σ).isNone))):=by rw [qgG h,qgI h]; exact qcU σ
theorem qbH (h:f = true) (σ:Sg):RPrimU Tryd.prog 37 σ (qdT f σ) (fun A:Option Addr=>.pointer A) (fun A=>andF (qcR A ((qcD f σ).getD [])) (isF (A.isNone = (qcD f σ).isNone))):=by rw [qgG h,qgI h]; exact qcx σ
theorem qgL (h:f = false) (σ:Sg):RPrim0U Tryd.prog 42 σ (aLen f σ) (.int .i32 (uLen f σ)):=by rw [qin h,qip h]; exact qgz σ
theorem qdV (h:f = true) (σ:Sg):RPrim0U Tryd.prog 41 σ (aLen f σ) (.int .i32 (uLen f σ)):=by rw [qim h,qio h]; exact qdU σ
end
section
variable {Pr:Program} {ops:Array Oper} {Q:Exit → Act → World → Prop} {w0:World} {M F:Nat → Nat → Prop} {n br:Nat} {tb:Tb} {env:Env} {P:qb2} {σ:Sg} {a:Act} {w:World}
theorem qdE {i d g:Nat} {f:FuncId} {ev:Value} {N:Act → World → Prop} (h:RSU w0 M F n br tb env P σ a w) (hb:σ.1 = true) (hg:∀ w F,P w F → AtF w F g 0 [ev])
  (hc:∀ {br:Nat} {A:Option Addr} {m c:Nat} {w:World} {F:Nat → Nat → Prop},Str w br [.slice A m c,.bool true] → AtF w F g 0 [ev] → (∀ b o,F b o → ¬ RdM br b o) → Calls Pr f #[.pointer (some ⟨br,0,none⟩)] w (fun e w'=>e = .returned ev ∧ w' = w))
  (hf:∀ args w,(callFunc f args).run Pr w = .ok (.enter f args) w) (K:∀ a',RSU w0 M F n br tb ((d,.v ev) :: env) P σ a' w → N a' w)
  (he:∀ bd A m c,qdG (rdoU br bd A m c :: tb) env ops n i = some (f,[.pointer (some ⟨br,0,none⟩)],d):=by intro _ _ _ _; kernel_rfl):wpOp Pr ops Q i N a w:=by
 obtain ⟨A,m,c,hW,hr,hE,hP⟩:=h.open_
 have hs:=Str.of hW 0 rfl
 rw [hb] at hs
 refine qap hE (he _ A m c) hf (hc hs (hg _ _ hP) (qbw 0 rfl)) ?_
 rintro e_ _ ⟨rfl,rfl⟩
 exact ⟨_,rfl,fun a1 hE1=>K a1 (RSU.mk' hW hr hE1 h.mv hP h.lim)⟩
end
theorem RSU.startG {w0 w:World} {M F:Nat → Nat → Prop} {n br c g:Nat} {ev:Value} {A:Option Addr} {o1:Ob} {env:Env} {s:Bs} {a:Act} (hW:WOk w0 M w [o1,rdoU br false A s.length c] []) (hE:EnvOk n [o1,rdoU br false A s.length c] env a) (ho:Octs w (Imm F w0 w [o1,rdoU br false A s.length c] []) A c s) (hg:AtF w (Imm F w0 w [o1,rdoU br false A s.length c] []) g 0 [ev]) (hl:s.length ≤ 1000) (env':Env) (he:pick (qfi env) (qbB env') = some env':=by kernel_rfl):RSU w0 M F n br [o1] env' (atF g 0 [ev]) (false,s) a w :=
 RSU.mk' hW.swap2 ⟨rfl,ho.move (Step.refl w Nil) nilM fun b o h _=>⟨h.1,h.2.1,fun ha=>h.2.2 (qfB ha)⟩⟩ ((qhS hE).pick he) (MvF.at_ _ _ _) (hg.move (Step.refl w Nil) nilM fun b o h _=>⟨h.1,h.2.1,fun ha=>h.2.2 (qfB ha)⟩) hl
def qaw (v:Int) (σ:Sg):Sg:=σ
def qbe (v:Int) (σ:Sg):Sg:=if decide (v ≥ 3) = true then (qdT (decide (v ≥ 2)) σ) else σ
def qar (v:Int) (σ:Sg):Sg:=qbe v (qaw v σ)
def qbf (v:Int) (σ:Sg):Tree:=if decide (v ≥ 3) = true then tnT (qcD (decide (v ≥ 2)) σ) else qel none ByteArray.empty
def qa0 (v:Int) (σ:Sg):Tree:=qbf v (qaw v σ)
def qbg (v:Int) (σ:Sg):Sg:=if decide (v ≥ 3) = true then (qdT (decide (v ≥ 2)) σ) else σ
def qaa (v:Int) (σ:Sg):Sg:=qbg v (qar v σ)
def qbh (v:Int) (σ:Sg):Tree:=if decide (v ≥ 3) = true then tnT (qcD (decide (v ≥ 2)) σ) else qel none ByteArray.empty
def qa1 (v:Int) (σ:Sg):Tree:=qbh v (qar v σ)
def qai (v:Int) (σ:Sg):Sg:=σ
theorem qiz (b o:Nat) (w:World):Calls Tryd.prog 45 #[.pointer (some ⟨b,o,none⟩)] w (fun e w'=>e = .returned (.tuple #[]) ∧ w' = w):=by
 refine enter (n:=2) (vs:=[.pointer (some ⟨b,o,none⟩)]) Tryd.func45 rfl Tryd.ntmps45 kz fun a hE=>?_
 refine wp_skip ?_
 exact qbk hE (WOk.start w Nil).cells (v:=.tuple #[]) kz ⟨rfl,rfl⟩
def qbl (v:Int) (σ:Sg):Sg:=(aTxt (decide (v ≥ 2)) σ)
theorem qbL (v:Int):Mn (qbl v):=qhA _
def qaj (v:Int) (σ:Sg):Sg:=qbl v (qai v σ)
def qbM (v:Int) (σ:Sg):Tree:=.mk 0 (sb (bs (uTxt (decide (v ≥ 2)) σ))) false [] []
def qbN (v:Int) (σ:Sg):Tree:=qbM v (qai v σ)
def qbm (v:Int) (σ:Sg):Sg:=(aTxt (decide (v ≥ 2)) σ)
theorem qbO (v:Int):Mn (qbm v):=qhA _
def qaE (v:Int) (σ:Sg):Sg:=qbm v (qaj v σ)
def qbP (v:Int) (σ:Sg):Tree:=.mk 0 (sb (bs (uTxt (decide (v ≥ 2)) σ))) false [] []
def qbQ (v:Int) (σ:Sg):Tree:=qbP v (qaj v σ)
def qaP (v:Int) (σ:Sg):Sg:=if decide (v ≥ 2) = true then (qfn σ) else σ
theorem qbR (v:Int):Mn (qaP v):=Mn.ite (p:=fun _=>decide (v ≥ 2) = true) (mn_Tags) Mn.id_
def qaz (v:Int) (σ:Sg):Sg:=qaP v (qaE v σ)
def qa5 (v:Int) (σ:Sg):List (Int × Bs):=if decide (v ≥ 2) = true then qdL σ else []
def qaQ (v:Int) (σ:Sg):List (Int × Bs):=qa5 v (qaE v σ)
def qae (v:Int) (σ:Sg):Sg:=qaz v σ
def qaT (v:Int) (σ:Sg):Tree:=.mk 0 [] false [qbN v σ,qbQ v σ] (qaQ v σ)
theorem qbS (v:Int):Mn (qai v):=Mn.id_
theorem qbT (v:Int):Mn (qaj v):=(qbS v).comp (qbL v)
theorem qbU (v:Int):Mn (qaE v):=(qbT v).comp (qbO v)
theorem qbV (v:Int):Mn (qaz v):=(qbU v).comp (qbR v)
theorem qbZ (v:Int):Mn (qae v):=qbV v
def qb9 (v:Int) (σ:Sg):Sg:=(itS (qae v) (uLen (decide (v ≥ 2)) σ).toNat (aLen (decide (v ≥ 2)) σ))
def qax (v:Int) (σ:Sg):Sg:=qb9 v (qaa v σ)
def qca (v:Int) (σ:Sg):Tree:=.mk 0 [] (decide (uLen (decide (v ≥ 2)) σ ≤ 0)) ((List.range (uLen (decide (v ≥ 2)) σ).toNat).map fun k_=>qaT v (itS (qae v) k_ (aLen (decide (v ≥ 2)) σ))) []
def qcb (v:Int) (σ:Sg):Tree:=qca v (qaa v σ)
def qbx (v:Int) (σ:Sg):Sg:=(aN 8 σ)
theorem qcc (v:Int):Mn (qbx v):=mn_N 8
def qaL (v:Int) (σ:Sg):Sg:=qbx v (qax v σ)
def qcd (v:Int) (σ:Sg):Tree:=.mk (uI64 σ) [] false [] []
def qce (v:Int) (σ:Sg):Tree:=qcd v (qax v σ)
def qa2 (v:Int) (σ:Sg):Sg:=if decide (v ≥ 2) = true then (qfn σ) else σ
theorem qcf (v:Int):Mn (qa2 v):=Mn.ite (p:=fun _=>decide (v ≥ 2) = true) (mn_Tags) Mn.id_
def qaC (v:Int) (σ:Sg):Sg:=qa2 v (qaL v σ)
def qbi (v:Int) (σ:Sg):List (Int × Bs):=if decide (v ≥ 2) = true then qdL σ else []
def qa3 (v:Int) (σ:Sg):List (Int × Bs):=qbi v (qaL v σ)
def qau (v:Int) (σ:Sg):Sg:=qaC v σ
def qba (v:Int) (σ:Sg):Tree:=.mk 0 [] false [qa0 v σ,qa1 v σ,qcb v σ,qce v σ] (qa3 v σ)
theorem qcg (v:Int) (σ:Sg) (h:(qaC v σ).1 = true):(qau v σ).1 = true:=h
theorem qch (v:Int) (σ:Sg) (h:(qaL v σ).1 = true):(qau v σ).1 = true:=qcg v σ ((qcf v).bad _ h)
theorem qci (v:Int) (σ:Sg) (h:(qax v σ).1 = true):(qau v σ).1 = true:=qch v σ ((qcc v).bad _ h)
set_option maxHeartbeats 4000000 in
theorem qbD (v:Int) (un:Bool) (s:Bs) (hl:s.length ≤ 1000) {ev:Value} {bv:Nat} {A:Option Addr} {c:Nat} {w:World} {F:Nat → Nat → Prop} (hst:Str w bv [.int .i16 v,.pointer none,.pointer none,.slice none 0 0,.int .i64 0,.map none]) (ho:Octs w F A c s) (hgl:AtF w F 0 0 [ev]) (hFd:∀ b o,F b o → ¬ (b = bv ∧ o < 6)) :
  Calls Tryd.prog 28 #[.pointer (some ⟨bv,0,none⟩),.slice A s.length c,.bool un] w (fun e w'=>((qau v (false,s)).1 = true ∧ e = .returned ev ∧ (∃ cs,Str w' bv cs ∧ cs.length = 6) ∧ Step w w' (fun b o=>b = bv ∧ o < 6)) ∨ ((qau v (false,s)).1 = false ∧ ∃ D:DV,e = .returned .nilIface ∧ Str w' bv [.int .i16 v,.pointer ((D.f 0).A),.pointer ((D.f 1).A),.slice ((D.f 2).A) ((D.f 2).l) ((D.f 2).c),.int .i64 ((D.f 3).n),.map D.m] ∧ qaJ w' (Fp F w) D ∧ qaW D = qba v (false,s) ∧ Step w w' (fun b o=>b = bv ∧ o < 6))):=by
 refine enter (n:=133) Tryd.func28 rfl Tryd.ntmps28 kz fun a hE=>?_
 have hW:=WOk.startStr hst
 have hE1:=(hE.grow ⟨bv,0,[.int .i16 v,.pointer none,.pointer none,.slice none 0 0,.int .i64 0,.map none],true⟩).recast 0 (.v (.pointer (some ⟨bv,0,none⟩))) (.p 0 0) rfl rfl (Nat.le_of_ble_eq_true (n:=1) rfl)
 refine qas [(0,.p 0 0),(1,.v (.slice A s.length c)),(2,.v (.bool un))] hW hE1 fun a1 hE2=>?_
 refine qad [0,1] kz ?_
 refine qal [0] [1] [(0,.p 0 0),(1,.v (.slice A s.length c)),(2,.v (.bool un)),(22,.p 0 0)] hW hE2 fun a3 hE4=>?_
 refine qak (qaU hE4 (f:=27) (vs:=[.pointer (some ⟨bv,0,none⟩)]) (d:=23) (n':=2) kz Tryd.call27 Tryd.func27 rfl Tryd.ntmps27 kz fun a5 hE6=>?_)
 have hE7:=hE6.recast 0 (.v (.pointer (some ⟨bv,0,none⟩))) (.p 0 0) rfl rfl (Nat.le_of_ble_eq_true (n:=1) rfl)
 refine wp_skip ?_
 refine qbk hE7 hW.cells (v:=.tuple #[]) kz ?_
 refine ⟨_,rfl,fun a8 hE9=>?_⟩
 have hE10:EnvOk 133 [⟨bv,0,[.int .i16 v,.pointer none,.pointer none,.slice none 0 0,.int .i64 0,.map none],true⟩] [(23,.v (.tuple #[])),(0,.p 0 0),(1,.v (.slice A s.length c)),(2,.v (.bool un)),(22,.p 0 0)] _:=hE9.places (⟨rfl,rfl,trivial⟩)
 refine qaf (qab ?_)
 refine qad [0,1,2,3] kz ?_
 refine qal [0,1] [2,3] [(0,.p 0 0),(2,.v (.bool un)),(25,.v (.agg #[.slice A s.length c,.bool false]))] hW hE10 fun a11 hE12=>?_
 refine qak (qaH hW hE12 (d:=7) (cs:=[.slice none 0 0,.bool false]) kz fun b13 a14 w15 hb16 hz17 hF18 hW19 hE20=>?_)
 refine qak (qao hW19 hE20 (oi:=1) (cs:=[.slice A s.length c,.bool false]) kz fun w21 hF22 hW23 hE24=>?_)
 refine qaf (qab ?_)
 have hS25:=RSU.startG (F:=F) (s:=s) hW23 hE24 (ho.move hW23.step (fun b_ o_ h_ _=>hFd b_ o_ h_) (hW23.immM hFd)) (hgl.move hW23.step (fun b_ o_ h_ _=>hFd b_ o_ h_) (hW23.immM hFd)) hl [(0,.p 1 0),(2,.v (.bool un)),(7,.p 0 0)]
 have hS27:=hS25.cast (σ':=(qaw v (false,s))) rfl
 clear hS25
 refine wp_seq ?_
 refine qbd [(0,.p 1 0),(2,.v (.bool un)),(7,.p 0 0),(8,.v (.int .i16 v))] hS27 fun _ hS28=>?_
 clear hS27
 refine qab ?_
 refine wp_seq ?_
 refine qbd [(0,.p 1 0),(2,.v (.bool un)),(7,.p 0 0),(8,.v (.int .i16 v))] hS28 fun _ hS29=>?_
 clear hS28
 refine qab ?_
 refine wp_seq ?_
 refine qbd [(0,.p 1 0),(2,.v (.bool un)),(7,.p 0 0),(8,.v (.int .i16 v)),(9,.v (.bool (decide (v ≥ 2))))] hS29 fun _ hS30=>?_
 clear hS29
 refine qab ?_
 refine wp_seq ?_
 refine qbd [(0,.p 1 0),(2,.v (.bool un)),(7,.p 0 0),(8,.v (.int .i16 v)),(9,.v (.bool (decide (v ≥ 2))))] hS30 fun _ hS31=>?_
 clear hS30
 refine qab ?_
 refine wp_seq ?_
 refine qbd [(2,.v (.bool un)),(7,.p 0 0),(8,.v (.int .i16 v)),(9,.v (.bool (decide (v ≥ 2)))),(10,.p 1 0)] hS31 fun _ hS32=>?_
 clear hS31
 refine qab ?_
 refine wp_seq ?_
 have l33:=hS32.lim
 refine qcG (Mid:=fun a_ w_=>∃ (D34:DV) (P':qb2),(∀ w F,P' w F → (atF 0 0 [ev]) w F ∧ ((∀ ad,D34.A = some ad → ∃ b o,ad = ⟨b,o,none⟩ ∧ AtF w F b o [.string D34.s]) ∧ D34.s.size ≤ 1000000) ∧ (qel D34.A D34.s:Tree) = qa0 v (false,s)) ∧ RSU w (fun b o=>b = bv ∧ o < 6) F 133 b13 [⟨bv,0,[.int .i16 v,.pointer D34.A,.pointer none,.slice none 0 0,.int .i64 0,.map none],true⟩] [(2,.v (.bool un)),(7,.p 0 0),(8,.v (.int .i16 v)),(9,.v (.bool (decide (v ≥ 2)))),(10,.p 1 0)] P' (qar v (false,s)) a_ w_) ?_ ?_
 ·
  refine wp_seq ?_
  refine qbd [(2,.v (.bool un)),(7,.p 0 0),(8,.v (.int .i16 v)),(9,.v (.bool (decide (v ≥ 2)))),(10,.p 1 0),(36,.v (.bool (decide (v ≥ 3))))] hS32 fun _ hS38=>qab ?_
  clear hS32
  refine qaY hS38.env_ (b:=decide (v ≥ 3)) kz (fun hc39=>?_) (fun hc39=>?_)
  ·
   refine wp_seq ?_
   refine qbd [(2,.v (.bool un)),(7,.p 0 0),(8,.v (.int .i16 v)),(9,.v (.bool (decide (v ≥ 2)))),(10,.p 1 0)] hS38 fun _ hS40=>?_
   clear hS38
   refine qab ?_
   refine wp_seq ?_
   refine qcG (Mid:=fun a_ w_=>∃ (x41:Option Addr) (P':qb2),(∀ w F,P' w F → (atF 0 0 [ev]) w F ∧ qcR x41 ((qcD (decide (v ≥ 2)) (qaw v (false,s))).getD []) w F ∧ x41.isNone = (qcD (decide (v ≥ 2)) (qaw v (false,s))).isNone) ∧ RSU w (fun b o=>b = bv ∧ o < 6) F 133 b13 [⟨bv,0,[.int .i16 v,.pointer none,.pointer none,.slice none 0 0,.int .i64 0,.map none],true⟩] [(2,.v (.bool un)),(7,.p 0 0),(8,.v (.int .i16 v)),(9,.v (.bool (decide (v ≥ 2)))),(10,.p 1 0),(11,.v (.pointer x41))] P' (qdT (decide (v ≥ 2)) (qaw v (false,s))) a_ w_) ?_ ?_
   ·
    refine wp_seq ?_
    refine qbd [(2,.v (.bool un)),(7,.p 0 0),(8,.v (.int .i16 v)),(9,.v (.bool (decide (v ≥ 2)))),(10,.p 1 0),(37,.v (.bool (decide (v ≥ 2))))] hS40 fun _ hS45=>qab ?_
    clear hS40
    refine qaY hS45.env_ (b:=decide (v ≥ 2)) kz (fun hc46=>?_) (fun hc46=>?_)
    ·
     refine wp_seq ?_
     refine qbd [(2,.v (.bool un)),(7,.p 0 0),(8,.v (.int .i16 v)),(9,.v (.bool (decide (v ≥ 2)))),(10,.p 1 0),(38,.v (.bool un))] hS45 fun _ hS47=>qab ?_
     clear hS45
     refine qaY hS47.env_ (b:=un) kz (fun hc48=>?_) (fun hc48=>?_)
     ·
      refine qdR (d:=39) (fun x49=>[(2,.v (.bool un)),(7,.p 0 0),(8,.v (.int .i16 v)),(9,.v (.bool (decide (v ≥ 2)))),(10,.p 1 0),(11,.v (.pointer x49))]) hS47 (qbH (f:=(decide (v ≥ 2))) (hc46) (qaw v (false,s))) (fun _=>(MvF.text _ _).and (MvF.is _)) Tryd.call37 fun x49 P51 _ _ hP52 hS50=>?_
      clear hS47
      refine qab ?_
      exact ⟨x49,_,fun w F h_=>⟨(hP52 _ _ h_).1,(hP52 _ _ h_).2⟩,hS50.pk (env':=[(2,.v (.bool un)),(7,.p 0 0),(8,.v (.int .i16 v)),(9,.v (.bool (decide (v ≥ 2)))),(10,.p 1 0),(11,.v (.pointer x49))])⟩
     refine qdR (d:=40) (fun x53=>[(2,.v (.bool un)),(7,.p 0 0),(8,.v (.int .i16 v)),(9,.v (.bool (decide (v ≥ 2)))),(10,.p 1 0),(11,.v (.pointer x53))]) hS47 (qck (f:=(decide (v ≥ 2))) (hc46) (qaw v (false,s))) (fun _=>(MvF.text _ _).and (MvF.is _)) Tryd.call38 fun x53 P55 _ _ hP56 hS54=>?_
     clear hS47
     refine qab ?_
     exact ⟨x53,_,fun w F h_=>⟨(hP56 _ _ h_).1,(hP56 _ _ h_).2⟩,hS54.pk (env':=[(2,.v (.bool un)),(7,.p 0 0),(8,.v (.int .i16 v)),(9,.v (.bool (decide (v ≥ 2)))),(10,.p 1 0),(11,.v (.pointer x53))])⟩
    refine wp_seq ?_
    refine qbd [(2,.v (.bool un)),(7,.p 0 0),(8,.v (.int .i16 v)),(9,.v (.bool (decide (v ≥ 2)))),(10,.p 1 0),(41,.v (.bool un))] hS45 fun _ hS57=>qab ?_
    clear hS45
    refine qaY hS57.env_ (b:=un) kz (fun hc58=>?_) (fun hc58=>?_)
    ·
     refine qdR (d:=42) (fun x59=>[(2,.v (.bool un)),(7,.p 0 0),(8,.v (.int .i16 v)),(9,.v (.bool (decide (v ≥ 2)))),(10,.p 1 0),(11,.v (.pointer x59))]) hS57 (qcs (f:=(decide (v ≥ 2))) (hc46) (qaw v (false,s))) (fun _=>(MvF.text _ _).and (MvF.is _)) Tryd.call39 fun x59 P61 _ _ hP62 hS60=>?_
     clear hS57
     refine qab ?_
     exact ⟨x59,_,fun w F h_=>⟨(hP62 _ _ h_).1,(hP62 _ _ h_).2⟩,hS60.pk (env':=[(2,.v (.bool un)),(7,.p 0 0),(8,.v (.int .i16 v)),(9,.v (.bool (decide (v ≥ 2)))),(10,.p 1 0),(11,.v (.pointer x59))])⟩
    refine qdR (d:=43) (fun x63=>[(2,.v (.bool un)),(7,.p 0 0),(8,.v (.int .i16 v)),(9,.v (.bool (decide (v ≥ 2)))),(10,.p 1 0),(11,.v (.pointer x63))]) hS57 (qc5 (f:=(decide (v ≥ 2))) (hc46) (qaw v (false,s))) (fun _=>(MvF.text _ _).and (MvF.is _)) Tryd.call40 fun x63 P65 _ _ hP66 hS64=>?_
    clear hS57
    refine qab ?_
    exact ⟨x63,_,fun w F h_=>⟨(hP66 _ _ h_).1,(hP66 _ _ h_).2⟩,hS64.pk (env':=[(2,.v (.bool un)),(7,.p 0 0),(8,.v (.int .i16 v)),(9,.v (.bool (decide (v ≥ 2)))),(10,.p 1 0),(11,.v (.pointer x63))])⟩
   rintro _ _ ⟨x41,P42,hP43,hS44⟩
   refine qab ?_
   refine qdK [⟨bv,0,[.int .i16 v,.pointer x41,.pointer none,.slice none 0 0,.int .i64 0,.map none],true⟩] 0 [(2,.v (.bool un)),(7,.p 0 0),(8,.v (.int .i16 v)),(9,.v (.bool (decide (v ≥ 2)))),(10,.p 1 0)] hS44 fun _ _ hS67=>?_
   clear hS44
   refine qab ?_
   have hS68:=hS67.cast (σ':=(qar v (false,s))) (by unfold qar qbe; rw [if_pos hc39])
   exact ⟨dvT x41 (bs ((qcD (decide (v ≥ 2)) (qaw v (false,s))).getD [])),_,fun w F h_=>⟨(hP43 _ _ h_).1,⟨(hP43 _ _ h_).2.1,by show ByteArray.size (bs _) ≤ 1000000; rw [qeN]; exact Nat.le_trans (qe7 _ _) (Nat.le_trans l33 (by decide))⟩,by unfold qa0 qbf; rw [if_pos hc39] <;> exact qhC (hP43 _ _ h_).2.2⟩,hS68.pk (env':=[(2,.v (.bool un)),(7,.p 0 0),(8,.v (.int .i16 v)),(9,.v (.bool (decide (v ≥ 2)))),(10,.p 1 0)])⟩
  refine wp_skip (qab ?_)
  have hS69:=hS38.cast (σ':=(qar v (false,s))) (by unfold qar qbe; rw [if_neg (by rw [hc39]; decide)])
  exact ⟨dvT none ByteArray.empty,_,fun w F h_=>⟨h_,⟨fun _ h=>(by cases h),Nat.zero_le _⟩,by unfold qa0 qbf; rw [if_neg (by rw [hc39]; decide)] <;> exact rfl⟩,hS69.pk (env':=[(2,.v (.bool un)),(7,.p 0 0),(8,.v (.int .i16 v)),(9,.v (.bool (decide (v ≥ 2)))),(10,.p 1 0)])⟩
 rintro _ _ ⟨D34,P35,hP36,hS37⟩
 refine qab ?_
 refine wp_seq ?_
 have l70:=hS37.lim
 refine qcG (Mid:=fun a_ w_=>∃ (D71:DV) (P':qb2),(∀ w F,P' w F → P35 w F ∧ ((∀ ad,D71.A = some ad → ∃ b o,ad = ⟨b,o,none⟩ ∧ AtF w F b o [.string D71.s]) ∧ D71.s.size ≤ 1000000) ∧ (qel D71.A D71.s:Tree) = qa1 v (false,s)) ∧ RSU w (fun b o=>b = bv ∧ o < 6) F 133 b13 [⟨bv,0,[.int .i16 v,.pointer D34.A,.pointer D71.A,.slice none 0 0,.int .i64 0,.map none],true⟩] [(2,.v (.bool un)),(7,.p 0 0),(9,.v (.bool (decide (v ≥ 2)))),(10,.p 1 0)] P' (qaa v (false,s)) a_ w_) ?_ ?_
 ·
  refine wp_seq ?_
  refine qbd [(2,.v (.bool un)),(7,.p 0 0),(9,.v (.bool (decide (v ≥ 2)))),(10,.p 1 0),(49,.v (.bool (decide (v ≥ 3))))] hS37 fun _ hS75=>qab ?_
  clear hS37
  refine qaY hS75.env_ (b:=decide (v ≥ 3)) kz (fun hc76=>?_) (fun hc76=>?_)
  ·
   refine wp_seq ?_
   refine qbd [(2,.v (.bool un)),(7,.p 0 0),(9,.v (.bool (decide (v ≥ 2)))),(10,.p 1 0)] hS75 fun _ hS77=>?_
   clear hS75
   refine qab ?_
   refine wp_seq ?_
   refine qcG (Mid:=fun a_ w_=>∃ (x78:Option Addr) (P':qb2),(∀ w F,P' w F → P35 w F ∧ qcR x78 ((qcD (decide (v ≥ 2)) (qar v (false,s))).getD []) w F ∧ x78.isNone = (qcD (decide (v ≥ 2)) (qar v (false,s))).isNone) ∧ RSU w (fun b o=>b = bv ∧ o < 6) F 133 b13 [⟨bv,0,[.int .i16 v,.pointer D34.A,.pointer none,.slice none 0 0,.int .i64 0,.map none],true⟩] [(2,.v (.bool un)),(7,.p 0 0),(9,.v (.bool (decide (v ≥ 2)))),(10,.p 1 0),(12,.v (.pointer x78))] P' (qdT (decide (v ≥ 2)) (qar v (false,s))) a_ w_) ?_ ?_
   ·
    refine wp_seq ?_
    refine qbd [(2,.v (.bool un)),(7,.p 0 0),(9,.v (.bool (decide (v ≥ 2)))),(10,.p 1 0),(50,.v (.bool (decide (v ≥ 2))))] hS77 fun _ hS82=>qab ?_
    clear hS77
    refine qaY hS82.env_ (b:=decide (v ≥ 2)) kz (fun hc83=>?_) (fun hc83=>?_)
    ·
     refine wp_seq ?_
     refine qbd [(2,.v (.bool un)),(7,.p 0 0),(9,.v (.bool (decide (v ≥ 2)))),(10,.p 1 0),(51,.v (.bool un))] hS82 fun _ hS84=>qab ?_
     clear hS82
     refine qaY hS84.env_ (b:=un) kz (fun hc85=>?_) (fun hc85=>?_)
     ·
      refine qdR (d:=52) (fun x86=>[(2,.v (.bool un)),(7,.p 0 0),(9,.v (.bool (decide (v ≥ 2)))),(10,.p 1 0),(12,.v (.pointer x86))]) hS84 (qbH (f:=(decide (v ≥ 2))) (hc83) (qar v (false,s))) (fun _=>(MvF.text _ _).and (MvF.is _)) Tryd.call37 fun x86 P88 _ _ hP89 hS87=>?_
      clear hS84
      refine qab ?_
      exact ⟨x86,_,fun w F h_=>⟨(hP89 _ _ h_).1,(hP89 _ _ h_).2⟩,hS87.pk (env':=[(2,.v (.bool un)),(7,.p 0 0),(9,.v (.bool (decide (v ≥ 2)))),(10,.p 1 0),(12,.v (.pointer x86))])⟩
     refine qdR (d:=53) (fun x90=>[(2,.v (.bool un)),(7,.p 0 0),(9,.v (.bool (decide (v ≥ 2)))),(10,.p 1 0),(12,.v (.pointer x90))]) hS84 (qck (f:=(decide (v ≥ 2))) (hc83) (qar v (false,s))) (fun _=>(MvF.text _ _).and (MvF.is _)) Tryd.call38 fun x90 P92 _ _ hP93 hS91=>?_
     clear hS84
     refine qab ?_
     exact ⟨x90,_,fun w F h_=>⟨(hP93 _ _ h_).1,(hP93 _ _ h_).2⟩,hS91.pk (env':=[(2,.v (.bool un)),(7,.p 0 0),(9,.v (.bool (decide (v ≥ 2)))),(10,.p 1 0),(12,.v (.pointer x90))])⟩
    refine wp_seq ?_
    refine qbd [(2,.v (.bool un)),(7,.p 0 0),(9,.v (.bool (decide (v ≥ 2)))),(10,.p 1 0),(54,.v (.bool un))] hS82 fun _ hS94=>qab ?_
    clear hS82
    refine qaY hS94.env_ (b:=un) kz (fun hc95=>?_) (fun hc95=>?_)
    ·
     refine qdR (d:=55) (fun x96=>[(2,.v (.bool un)),(7,.p 0 0),(9,.v (.bool (decide (v ≥ 2)))),(10,.p 1 0),(12,.v (.pointer x96))]) hS94 (qcs (f:=(decide (v ≥ 2))) (hc83) (qar v (false,s))) (fun _=>(MvF.text _ _).and (MvF.is _)) Tryd.call39 fun x96 P98 _ _ hP99 hS97=>?_
     clear hS94
     refine qab ?_
     exact ⟨x96,_,fun w F h_=>⟨(hP99 _ _ h_).1,(hP99 _ _ h_).2⟩,hS97.pk (env':=[(2,.v (.bool un)),(7,.p 0 0),(9,.v (.bool (decide (v ≥ 2)))),(10,.p 1 0),(12,.v (.pointer x96))])⟩
    refine qdR (d:=56) (fun x100=>[(2,.v (.bool un)),(7,.p 0 0),(9,.v (.bool (decide (v ≥ 2)))),(10,.p 1 0),(12,.v (.pointer x100))]) hS94 (qc5 (f:=(decide (v ≥ 2))) (hc83) (qar v (false,s))) (fun _=>(MvF.text _ _).and (MvF.is _)) Tryd.call40 fun x100 P102 _ _ hP103 hS101=>?_
    clear hS94
    refine qab ?_
    exact ⟨x100,_,fun w F h_=>⟨(hP103 _ _ h_).1,(hP103 _ _ h_).2⟩,hS101.pk (env':=[(2,.v (.bool un)),(7,.p 0 0),(9,.v (.bool (decide (v ≥ 2)))),(10,.p 1 0),(12,.v (.pointer x100))])⟩
   rintro _ _ ⟨x78,P79,hP80,hS81⟩
   refine qab ?_
   refine qdK [⟨bv,0,[.int .i16 v,.pointer D34.A,.pointer x78,.slice none 0 0,.int .i64 0,.map none],true⟩] 0 [(2,.v (.bool un)),(7,.p 0 0),(9,.v (.bool (decide (v ≥ 2)))),(10,.p 1 0)] hS81 fun _ _ hS104=>?_
   clear hS81
   refine qab ?_
   have hS105:=hS104.cast (σ':=(qaa v (false,s))) (by unfold qaa qbg; rw [if_pos hc76])
   exact ⟨dvT x78 (bs ((qcD (decide (v ≥ 2)) (qar v (false,s))).getD [])),_,fun w F h_=>⟨(hP80 _ _ h_).1,⟨(hP80 _ _ h_).2.1,by show ByteArray.size (bs _) ≤ 1000000; rw [qeN]; exact Nat.le_trans (qe7 _ _) (Nat.le_trans l70 (by decide))⟩,by unfold qa1 qbh; rw [if_pos hc76] <;> exact qhC (hP80 _ _ h_).2.2⟩,hS105.pk (env':=[(2,.v (.bool un)),(7,.p 0 0),(9,.v (.bool (decide (v ≥ 2)))),(10,.p 1 0)])⟩
  refine wp_skip (qab ?_)
  have hS106:=hS75.cast (σ':=(qaa v (false,s))) (by unfold qaa qbg; rw [if_neg (by rw [hc76]; decide)])
  exact ⟨dvT none ByteArray.empty,_,fun w F h_=>⟨h_,⟨fun _ h=>(by cases h),Nat.zero_le _⟩,by unfold qa1 qbh; rw [if_neg (by rw [hc76]; decide)] <;> exact rfl⟩,hS106.pk (env':=[(2,.v (.bool un)),(7,.p 0 0),(9,.v (.bool (decide (v ≥ 2)))),(10,.p 1 0)])⟩
 rintro _ _ ⟨D71,P72,hP73,hS74⟩
 refine qab ?_
 refine wp_seq ?_
 refine wp_seq ?_
 refine qbd [(2,.v (.bool un)),(7,.p 0 0),(9,.v (.bool (decide (v ≥ 2)))),(10,.p 1 0),(13,.v (.slice none 0 0))] hS74 fun _ hS107=>?_
 clear hS74
 refine qab ?_
 refine wp_seq ?_
 refine qbd [(2,.v (.bool un)),(7,.p 0 0),(9,.v (.bool (decide (v ≥ 2)))),(10,.p 1 0),(14,.v (.slice none 0 0))] hS107 fun _ hS108=>?_
 clear hS107
 refine qab ?_
 refine wp_seq ?_
 refine qbd [(2,.v (.bool un)),(7,.p 0 0),(9,.v (.bool (decide (v ≥ 2)))),(10,.p 1 0),(14,.v (.slice none 0 0))] hS108 fun _ hS109=>?_
 clear hS108
 refine qab ?_
 refine wp_seq ?_
 have l110:=hS109.lim
 refine qg6 (d1:=67) (d2:=68) [(2,.v (.bool un)),(7,.p 0 0),(9,.v (.bool (decide (v ≥ 2)))),(10,.p 1 0),(14,.v (.slice none 0 0)),(66,.v (.bool (decide (v ≥ 2))))] [(2,.v (.bool un)),(7,.p 0 0),(9,.v (.bool (decide (v ≥ 2)))),(10,.p 1 0),(14,.v (.slice none 0 0)),(15,.v (.int .i32 (uLen (decide (v ≥ 2)) (qaa v (false,s)))))] hS109 (fun hb_=>qdV (f:=(decide (v ≥ 2))) hb_ (qaa v (false,s))) Tryd.call41 (fun hb_=>qgL (f:=(decide (v ≥ 2))) hb_ (qaa v (false,s))) Tryd.call42 fun _ _ hS111=>?_
 clear hS109
 refine qab ?_
 refine wp_seq ?_
 refine wp_seq ?_
 refine qib (d:=69) [(2,.v (.bool un)),(7,.p 0 0),(9,.v (.bool (decide (v ≥ 2)))),(10,.p 1 0),(14,.v (.slice none 0 0)),(15,.v (.int .i32 (uLen (decide (v ≥ 2)) (qaa v (false,s))))),(70,.v (.bool (!(!((aLen (decide (v ≥ 2)) (qaa v (false,s)))).1))))] hS111 (qOk (aLen (decide (v ≥ 2)) (qaa v (false,s)))) Tryd.call43 fun _ _ hS113=>?_
 clear hS111
 refine qab ?_
 refine qaY hS113.env_ (b:=!(!((aLen (decide (v ≥ 2)) (qaa v (false,s)))).1)) kz (fun hc114=>?_) (fun hc114=>?_)
 ·
  refine wp_seq ?_
  refine qaF [0,1] kz (qak (qdE (d:=71) (ev:=ev) hS113 (by simpa using hc114) (fun w F h_=>(hP36 _ _ (hP73 _ _ h_).1).1) (fun hs_ hg_ hf_=>qeA hs_ hg_ hf_) Tryd.call44 fun _ hS115=>?_))
  clear hS113
  refine qcp [1] [] [(6,.v (ev))] hS115 fun _ hS116=>qaf ?_
  clear hS115
  refine qab ?_
  refine wp_ret ?_
  refine qaX ?_
  refine qaX ?_
  obtain ⟨A_,m_,c_,hW_,hr_,hE_,hP_⟩:=hS116.open_
  refine qaV hE_ hW_.cells (v:=ev) kz (.inl ⟨(qci v (false,s) (show (qax v (false,s)).1 = true from ((qic (qbZ v) _).bad _ (by simpa using hc114)))),rfl,⟨_,Str.of hW_ 1 rfl,rfl⟩,hW_.step⟩)
 refine wp_skip ?_
 refine qab ?_
 refine wp_seq ?_
 refine qg9 (t:=56) (e:=67) (size:=3) (bytes:=40) (d:=73) (A0:=none) (m:=0) (cp:=0) [(2,.v (.bool un)),(7,.p 0 0),(9,.v (.bool (decide (v ≥ 2)))),(10,.p 1 0),(15,.v (.int .i32 (uLen (decide (v ≥ 2)) (qaa v (false,s))))),(72,.v (.slice none 0 0))] [(2,.v (.bool un)),(7,.p 0 0),(9,.v (.bool (decide (v ≥ 2)))),(10,.p 1 0),(14,.v (.slice none 0 0)),(15,.v (.int .i32 (uLen (decide (v ≥ 2)) (qaa v (false,s)))))] 1 hS113 fun _ hS117=>?_
 clear hS113
 refine qab ?_
 have hN122:(uLen (decide (v ≥ 2)) (qaa v (false,s))).toNat ≤ 1000:=by have h_:=qhU (decide (v ≥ 2)) (qaa v (false,s)); have:=l110; omega
 refine qg3 (Mid:=fun a_ w_=>∃ (D118:DV) (P':qb2),(∀ w F,P' w F → P72 w F ∧ (Slots w F 3 D118.A D118.c D118.l (fun i=>[.string (((D118.f i).f 0).s),.string (((D118.f i).f 1).s),.map ((D118.f i).m)]) ∧ D118.l ≤ 1000000 ∧ ∀ i,i < D118.l → qay w F (D118.f i)) ∧ (.mk 0 [] D118.A.isNone ((List.range D118.l).map fun i=>qav (D118.f i)) []:Tree) = .mk 0 [] (decide (uLen (decide (v ≥ 2)) (qaa v (false,s)) ≤ 0)) ((List.range (uLen (decide (v ≥ 2)) (qaa v (false,s))).toNat).map fun k_=>qaT v (itS (qae v) k_ (aLen (decide (v ≥ 2)) (qaa v (false,s))))) []) ∧ RSU w (fun b o=>b = bv ∧ o < 6) F 133 b13 [⟨bv,0,[.int .i16 v,.pointer D34.A,.pointer D71.A,.slice none 0 0,.int .i64 0,.map none],true⟩] [(7,.p 0 0),(9,.v (.bool (decide (v ≥ 2)))),(10,.p 1 0),(14,.v (.slice D118.A D118.l D118.c))] P' (itS (qae v) (uLen (decide (v ≥ 2)) (qaa v (false,s))).toNat (aLen (decide (v ≥ 2)) (qaa v (false,s)))) a_ w_) ?_ ?_
 ·
  refine wp_seq ?_
  refine qbd [(2,.v (.bool un)),(7,.p 0 0),(9,.v (.bool (decide (v ≥ 2)))),(10,.p 1 0),(14,.v (.slice none 0 0)),(15,.v (.int .i32 (uLen (decide (v ≥ 2)) (qaa v (false,s))))),(75,.v (.bool (decide ((uLen (decide (v ≥ 2)) (qaa v (false,s))) > 0))))] hS117 fun _ hS123=>qab ?_
  clear hS117
  refine qaY hS123.env_ (b:=decide ((uLen (decide (v ≥ 2)) (qaa v (false,s))) > 0)) kz (fun hc124=>?_) (fun hc124=>?_)
  ·
   have hp_g125:0 < uLen (decide (v ≥ 2)) (qaa v (false,s)):=of_decide_eq_true hc124
   have hn_g125:0 < (uLen (decide (v ≥ 2)) (qaa v (false,s))).toNat:=by omega
   have hl127:uLen (decide (v ≥ 2)) (qaa v (false,s)) = (((uLen (decide (v ≥ 2)) (qaa v (false,s))).toNat:Nat):Int):=by omega
   have hS128:=hS123.envEq (env':=[(2,.v (.bool un)),(7,.p 0 0),(9,.v (.bool (decide (v ≥ 2)))),(10,.p 1 0),(14,.v (.slice none 0 0)),(15,.v (.int .i32 (((uLen (decide (v ≥ 2)) (qaa v (false,s))).toNat:Nat):Int))),(75,.v (.bool (decide ((uLen (decide (v ≥ 2)) (qaa v (false,s))) > 0))))]) (by rw [← hl127])
   clear hS123
   refine qaF [0,1,2,3] kz ?_
   refine qcp [0,1] [2,3] [(2,.v (.bool un)),(7,.p 0 0),(9,.v (.bool (decide (v ≥ 2)))),(10,.p 1 0),(15,.v (.int .i32 (((uLen (decide (v ≥ 2)) (qaa v (false,s))).toNat:Nat):Int))),(76,.v (.slice none 0 0)),(77,.v (.int .i32 (((uLen (decide (v ≥ 2)) (qaa v (false,s))).toNat:Nat):Int)))] hS128 fun _ hS129=>?_
   clear hS128
   refine qak (qfj (A0:=none) (d:=78) (t:=56) (tn:=21) (e:=67) (size:=3) (bytes:=40) (k:=.i32) (kn:=.i32) (q:=(((uLen (decide (v ≥ 2)) (qaa v (false,s))).toNat:Nat):Int)) (j:=(uLen (decide (v ≥ 2)) (qaa v (false,s))).toNat) (.agg #[.string ByteArray.empty,.string ByteArray.empty,.map none]) hS129 (fun g125 c126 _ _ hg_g125 hcap_g125 hS130=>?_) rfl hn_g125 (by omega))
   clear hS129
   refine qcp [3] [] [(2,.v (.bool un)),(7,.p 0 0),(9,.v (.bool (decide (v ≥ 2)))),(10,.p 1 0),(14,.v (.slice (some ⟨g125,0,none⟩) ((uLen (decide (v ≥ 2)) (qaa v (false,s))).toNat) c126)),(15,.v (.int .i32 (((uLen (decide (v ≥ 2)) (qaa v (false,s))).toNat:Nat):Int)))] hS130 fun _ hS131=>qaf ?_
   clear hS130
   refine qab ?_
   refine wp_seq ?_
   refine qbd [(2,.v (.bool un)),(7,.p 0 0),(9,.v (.bool (decide (v ≥ 2)))),(10,.p 1 0),(14,.v (.slice (some ⟨g125,0,none⟩) ((uLen (decide (v ≥ 2)) (qaa v (false,s))).toNat) c126)),(15,.v (.int .i32 (((uLen (decide (v ≥ 2)) (qaa v (false,s))).toNat:Nat):Int))),(16,.v (.int .i32 0))] hS131 fun _ hS132=>?_
   clear hS131
   refine qab ?_
   refine wp_block ?_
   have hmP136:=hS132.mv
   have hS137:=hS132.pk (env':=[(2,.v (.bool un)),(7,.p 0 0),(9,.v (.bool (decide (v ≥ 2)))),(10,.p 1 0),(14,.v (.slice (some ⟨g125,0,none⟩) ((uLen (decide (v ≥ 2)) (qaa v (false,s))).toNat) c126)),(15,.v (.int .i32 (((uLen (decide (v ≥ 2)) (qaa v (false,s))).toNat:Nat):Int))),(16,.v (.int .i32 ((0:Nat):Int)))])
   clear hS132
   refine qg8 (tb:=[⟨bv,0,[.int .i16 v,.pointer D34.A,.pointer D71.A,.slice none 0 0,.int .i64 0,.map none],true⟩]) (z:=.agg #[.string ByteArray.empty,.string ByteArray.empty,.map none]) (cl:=qbq) (ok:=qay) (rel:=(fun i_ d=>(qav d:Tree) = qaT v (itS (qae v) i_ (aLen (decide (v ≥ 2)) (qaa v (false,s)))))) (N:=(uLen (decide (v ≥ 2)) (qaa v (false,s))).toNat) (size:=3) (fun k_=>(itS (qae v) k_ (aLen (decide (v ≥ 2)) (qaa v (false,s))))) (fun k=>[(2,.v (.bool un)),(7,.p 0 0),(9,.v (.bool (decide (v ≥ 2)))),(10,.p 1 0),(14,.v (.slice (some ⟨g125,0,none⟩) ((uLen (decide (v ≥ 2)) (qaa v (false,s))).toNat) c126)),(15,.v (.int .i32 (((uLen (decide (v ≥ 2)) (qaa v (false,s))).toNat:Nat):Int))),(16,.v (.int .i32 ((k:Nat):Int)))]) hS137 qaB (fun k133 _ _ hk134 hS135=>?_) (fun _ _ hS138=>?_)
   ·
    obtain ⟨P139,hP140,hS141⟩:∃ P',(∀ w F,P' w F → (P72 w F ∧ qdy g125 3 qbq qay (fun i_ d=>(qav d:Tree) = qaT v (itS (qae v) i_ (aLen (decide (v ≥ 2)) (qaa v (false,s))))) k133 w F)) ∧ RSU w (fun b o=>b = bv ∧ o < 6) F 133 b13 [⟨bv,0,[.int .i16 v,.pointer D34.A,.pointer D71.A,.slice none 0 0,.int .i64 0,.map none],true⟩,qbo g125 3 (.agg #[.string ByteArray.empty,.string ByteArray.empty,.map none]) ((uLen (decide (v ≥ 2)) (qaa v (false,s))).toNat) k133] [(2,.v (.bool un)),(7,.p 0 0),(9,.v (.bool (decide (v ≥ 2)))),(10,.p 1 0),(14,.v (.slice (some ⟨g125,0,none⟩) ((uLen (decide (v ≥ 2)) (qaa v (false,s))).toNat) c126)),(15,.v (.int .i32 (((uLen (decide (v ≥ 2)) (qaa v (false,s))).toNat:Nat):Int))),(16,.v (.int .i32 ((k133:Nat):Int)))] P' (itS (qae v) k133 (aLen (decide (v ≥ 2)) (qaa v (false,s)))) _ _:=⟨_,fun _ _ h=>h,hS135⟩
    clear hS135
    have hS142:=hS141.cast (σ':=(qai v (itS (qae v) k133 (aLen (decide (v ≥ 2)) (qaa v (false,s)))))) rfl
    clear hS141
    refine wp_seq ?_
    refine wp_seq ?_
    refine qbd [(2,.v (.bool un)),(7,.p 0 0),(9,.v (.bool (decide (v ≥ 2)))),(10,.p 1 0),(14,.v (.slice (some ⟨g125,0,none⟩) ((uLen (decide (v ≥ 2)) (qaa v (false,s))).toNat) c126)),(15,.v (.int .i32 (((uLen (decide (v ≥ 2)) (qaa v (false,s))).toNat:Nat):Int))),(16,.v (.int .i32 ((k133:Nat):Int))),(81,.v (.bool (decide (((k133:Nat):Int) < (((uLen (decide (v ≥ 2)) (qaa v (false,s))).toNat:Nat):Int)))))] hS142 fun _ hS143=>qab ?_
    clear hS142
    refine qaO hS143.env_ (b:=decide (((k133:Nat):Int) < (((uLen (decide (v ≥ 2)) (qaa v (false,s))).toNat:Nat):Int))) kz (decide_eq_true (by omega)) ?_
    refine wp_skip ?_
    refine qab ?_
    refine wp_seq ?_
    refine wp_block ?_
    refine wp_seq ?_
    refine qha (t:=56) (e:=67) (size:=3) (bytes:=40) (d:=86) (tb:=[⟨bv,0,[.int .i16 v,.pointer D34.A,.pointer D71.A,.slice none 0 0,.int .i64 0,.map none],true⟩]) (z:=.agg #[.string ByteArray.empty,.string ByteArray.empty,.map none]) [(2,.v (.bool un)),(7,.p 0 0),(9,.v (.bool (decide (v ≥ 2)))),(10,.p 1 0),(14,.v (.slice (some ⟨g125,0,none⟩) ((uLen (decide (v ≥ 2)) (qaa v (false,s))).toNat) c126)),(15,.v (.int .i32 (((uLen (decide (v ≥ 2)) (qaa v (false,s))).toNat:Nat):Int))),(16,.v (.int .i32 ((k133:Nat):Int))),(84,.v (.slice (some ⟨g125,0,none⟩) ((uLen (decide (v ≥ 2)) (qaa v (false,s))).toNat) c126)),(85,.v (.int .i32 ((k133:Nat):Int)))] [(2,.v (.bool un)),(7,.p 0 0),(9,.v (.bool (decide (v ≥ 2)))),(10,.p 1 0),(14,.v (.slice (some ⟨g125,0,none⟩) ((uLen (decide (v ≥ 2)) (qaa v (false,s))).toNat) c126)),(15,.v (.int .i32 (((uLen (decide (v ≥ 2)) (qaa v (false,s))).toNat:Nat):Int))),(16,.v (.int .i32 ((k133:Nat):Int))),(17,.p 3 0)] 2 hS143 hk134 rfl kz fun _ hS144=>?_
    clear hS143
    have hS145:=hS144.tbEq (tb':=[⟨bv,0,[.int .i16 v,.pointer D34.A,.pointer D71.A,.slice none 0 0,.int .i64 0,.map none],true⟩,qbo g125 3 (.agg #[.string ByteArray.empty,.string ByteArray.empty,.map none]) ((uLen (decide (v ≥ 2)) (qaa v (false,s))).toNat) (k133 + 1),⟨g125,k133 * 3,[.string ByteArray.empty,.string ByteArray.empty,.map none],true⟩]) rfl
    clear hS144
    refine qab ?_
    refine wp_seq ?_
    refine qaF [0,1] kz ?_
    refine qcp [0] [1] [(2,.v (.bool un)),(7,.p 0 0),(9,.v (.bool (decide (v ≥ 2)))),(10,.p 1 0),(14,.v (.slice (some ⟨g125,0,none⟩) ((uLen (decide (v ≥ 2)) (qaa v (false,s))).toNat) c126)),(15,.v (.int .i32 (((uLen (decide (v ≥ 2)) (qaa v (false,s))).toNat:Nat):Int))),(16,.v (.int .i32 ((k133:Nat):Int))),(17,.p 3 0),(87,.p 3 0)] hS145 fun _ hS146=>?_
    clear hS145
    refine qak (qhT (d:=88) (vs:=[.pointer (some ⟨g125,k133 * 3,none⟩)]) hS146 (fun _=>qiz _ _ _) Tryd.call45 fun _ hS147=>?_)
    clear hS146
    refine qaf ?_
    have hS148:=hS147.pk (env':=[(2,.v (.bool un)),(7,.p 0 0),(9,.v (.bool (decide (v ≥ 2)))),(10,.p 1 0),(14,.v (.slice (some ⟨g125,0,none⟩) ((uLen (decide (v ≥ 2)) (qaa v (false,s))).toNat) c126)),(15,.v (.int .i32 (((uLen (decide (v ≥ 2)) (qaa v (false,s))).toNat:Nat):Int))),(16,.v (.int .i32 ((k133:Nat):Int))),(17,.p 3 0)])
    clear hS147
    refine qab ?_
    refine wp_seq ?_
    refine qbd [(2,.v (.bool un)),(7,.p 0 0),(9,.v (.bool (decide (v ≥ 2)))),(10,.p 1 0),(14,.v (.slice (some ⟨g125,0,none⟩) ((uLen (decide (v ≥ 2)) (qaa v (false,s))).toNat) c126)),(15,.v (.int .i32 (((uLen (decide (v ≥ 2)) (qaa v (false,s))).toNat:Nat):Int))),(16,.v (.int .i32 ((k133:Nat):Int))),(18,.p 3 0)] hS148 fun _ hS149=>?_
    clear hS148
    refine qab ?_
    refine wp_seq ?_
    refine wp_seq ?_
    refine qbd [(2,.v (.bool un)),(7,.p 0 0),(9,.v (.bool (decide (v ≥ 2)))),(10,.p 1 0),(14,.v (.slice (some ⟨g125,0,none⟩) ((uLen (decide (v ≥ 2)) (qaa v (false,s))).toNat) c126)),(15,.v (.int .i32 (((uLen (decide (v ≥ 2)) (qaa v (false,s))).toNat:Nat):Int))),(16,.v (.int .i32 ((k133:Nat):Int))),(18,.p 3 0)] hS149 fun _ hS150=>?_
    clear hS149
    refine qab ?_
    refine wp_seq ?_
    have l151:=hS150.lim
    refine qcG (Mid:=fun a_ w_=>RSU w (fun b o=>b = bv ∧ o < 6) F 133 b13 [⟨bv,0,[.int .i16 v,.pointer D34.A,.pointer D71.A,.slice none 0 0,.int .i64 0,.map none],true⟩,qbo g125 3 (.agg #[.string ByteArray.empty,.string ByteArray.empty,.map none]) ((uLen (decide (v ≥ 2)) (qaa v (false,s))).toNat) (k133 + 1),⟨g125,k133 * 3,[.string ByteArray.empty,.string ByteArray.empty,.map none],true⟩] [(2,.v (.bool un)),(7,.p 0 0),(9,.v (.bool (decide (v ≥ 2)))),(10,.p 1 0),(14,.v (.slice (some ⟨g125,0,none⟩) ((uLen (decide (v ≥ 2)) (qaa v (false,s))).toNat) c126)),(15,.v (.int .i32 (((uLen (decide (v ≥ 2)) (qaa v (false,s))).toNat:Nat):Int))),(16,.v (.int .i32 ((k133:Nat):Int))),(18,.p 3 0),(19,.v (.string (bs (uTxt (decide (v ≥ 2)) (qai v (itS (qae v) k133 (aLen (decide (v ≥ 2)) (qaa v (false,s)))))))))] P139 (aTxt (decide (v ≥ 2)) (qai v (itS (qae v) k133 (aLen (decide (v ≥ 2)) (qaa v (false,s)))))) a_ w_) ?_ ?_
    ·
     refine wp_seq ?_
     refine qbd [(2,.v (.bool un)),(7,.p 0 0),(9,.v (.bool (decide (v ≥ 2)))),(10,.p 1 0),(14,.v (.slice (some ⟨g125,0,none⟩) ((uLen (decide (v ≥ 2)) (qaa v (false,s))).toNat) c126)),(15,.v (.int .i32 (((uLen (decide (v ≥ 2)) (qaa v (false,s))).toNat:Nat):Int))),(16,.v (.int .i32 ((k133:Nat):Int))),(18,.p 3 0),(90,.v (.bool un))] hS150 fun _ hS156=>qab ?_
     clear hS150
     refine qaY hS156.env_ (b:=un) kz (fun hc157=>?_) (fun hc157=>?_)
     ·
      refine wp_seq ?_
      refine qbd [(2,.v (.bool un)),(7,.p 0 0),(9,.v (.bool (decide (v ≥ 2)))),(10,.p 1 0),(14,.v (.slice (some ⟨g125,0,none⟩) ((uLen (decide (v ≥ 2)) (qaa v (false,s))).toNat) c126)),(15,.v (.int .i32 (((uLen (decide (v ≥ 2)) (qaa v (false,s))).toNat:Nat):Int))),(16,.v (.int .i32 ((k133:Nat):Int))),(18,.p 3 0),(91,.v (.bool (decide (v ≥ 2))))] hS156 fun _ hS158=>qab ?_
      clear hS156
      refine qaY hS158.env_ (b:=decide (v ≥ 2)) kz (fun hc159=>?_) (fun hc159=>?_)
      ·
       refine qct (d:=92) [(2,.v (.bool un)),(7,.p 0 0),(9,.v (.bool (decide (v ≥ 2)))),(10,.p 1 0),(14,.v (.slice (some ⟨g125,0,none⟩) ((uLen (decide (v ≥ 2)) (qaa v (false,s))).toNat) c126)),(15,.v (.int .i32 (((uLen (decide (v ≥ 2)) (qaa v (false,s))).toNat:Nat):Int))),(16,.v (.int .i32 ((k133:Nat):Int))),(18,.p 3 0),(19,.v (.string (bs (uTxt (decide (v ≥ 2)) (qai v (itS (qae v) k133 (aLen (decide (v ≥ 2)) (qaa v (false,s)))))))))] hS158 (qcu (f:=(decide (v ≥ 2))) (hc159) (qai v (itS (qae v) k133 (aLen (decide (v ≥ 2)) (qaa v (false,s)))))) Tryd.call46 fun _ _ hS161=>?_
       clear hS158
       refine qab ?_
       exact hS161.pk (env':=[(2,.v (.bool un)),(7,.p 0 0),(9,.v (.bool (decide (v ≥ 2)))),(10,.p 1 0),(14,.v (.slice (some ⟨g125,0,none⟩) ((uLen (decide (v ≥ 2)) (qaa v (false,s))).toNat) c126)),(15,.v (.int .i32 (((uLen (decide (v ≥ 2)) (qaa v (false,s))).toNat:Nat):Int))),(16,.v (.int .i32 ((k133:Nat):Int))),(18,.p 3 0),(19,.v (.string (bs (uTxt (decide (v ≥ 2)) (qai v (itS (qae v) k133 (aLen (decide (v ≥ 2)) (qaa v (false,s)))))))))])
      refine qct (d:=93) [(2,.v (.bool un)),(7,.p 0 0),(9,.v (.bool (decide (v ≥ 2)))),(10,.p 1 0),(14,.v (.slice (some ⟨g125,0,none⟩) ((uLen (decide (v ≥ 2)) (qaa v (false,s))).toNat) c126)),(15,.v (.int .i32 (((uLen (decide (v ≥ 2)) (qaa v (false,s))).toNat:Nat):Int))),(16,.v (.int .i32 ((k133:Nat):Int))),(18,.p 3 0),(19,.v (.string (bs (uTxt (decide (v ≥ 2)) (qai v (itS (qae v) k133 (aLen (decide (v ≥ 2)) (qaa v (false,s)))))))))] hS158 (qdD (f:=(decide (v ≥ 2))) (hc159) (qai v (itS (qae v) k133 (aLen (decide (v ≥ 2)) (qaa v (false,s)))))) Tryd.call47 fun _ _ hS163=>?_
      clear hS158
      refine qab ?_
      exact hS163.pk (env':=[(2,.v (.bool un)),(7,.p 0 0),(9,.v (.bool (decide (v ≥ 2)))),(10,.p 1 0),(14,.v (.slice (some ⟨g125,0,none⟩) ((uLen (decide (v ≥ 2)) (qaa v (false,s))).toNat) c126)),(15,.v (.int .i32 (((uLen (decide (v ≥ 2)) (qaa v (false,s))).toNat:Nat):Int))),(16,.v (.int .i32 ((k133:Nat):Int))),(18,.p 3 0),(19,.v (.string (bs (uTxt (decide (v ≥ 2)) (qai v (itS (qae v) k133 (aLen (decide (v ≥ 2)) (qaa v (false,s)))))))))])
     refine wp_seq ?_
     refine qbd [(2,.v (.bool un)),(7,.p 0 0),(9,.v (.bool (decide (v ≥ 2)))),(10,.p 1 0),(14,.v (.slice (some ⟨g125,0,none⟩) ((uLen (decide (v ≥ 2)) (qaa v (false,s))).toNat) c126)),(15,.v (.int .i32 (((uLen (decide (v ≥ 2)) (qaa v (false,s))).toNat:Nat):Int))),(16,.v (.int .i32 ((k133:Nat):Int))),(18,.p 3 0),(94,.v (.bool (decide (v ≥ 2))))] hS156 fun _ hS164=>qab ?_
     clear hS156
     refine qaY hS164.env_ (b:=decide (v ≥ 2)) kz (fun hc165=>?_) (fun hc165=>?_)
     ·
      refine qct (d:=95) [(2,.v (.bool un)),(7,.p 0 0),(9,.v (.bool (decide (v ≥ 2)))),(10,.p 1 0),(14,.v (.slice (some ⟨g125,0,none⟩) ((uLen (decide (v ≥ 2)) (qaa v (false,s))).toNat) c126)),(15,.v (.int .i32 (((uLen (decide (v ≥ 2)) (qaa v (false,s))).toNat:Nat):Int))),(16,.v (.int .i32 ((k133:Nat):Int))),(18,.p 3 0),(19,.v (.string (bs (uTxt (decide (v ≥ 2)) (qai v (itS (qae v) k133 (aLen (decide (v ≥ 2)) (qaa v (false,s)))))))))] hS164 (qdg (f:=(decide (v ≥ 2))) (hc165) (qai v (itS (qae v) k133 (aLen (decide (v ≥ 2)) (qaa v (false,s)))))) Tryd.call48 fun _ _ hS167=>?_
      clear hS164
      refine qab ?_
      exact hS167.pk (env':=[(2,.v (.bool un)),(7,.p 0 0),(9,.v (.bool (decide (v ≥ 2)))),(10,.p 1 0),(14,.v (.slice (some ⟨g125,0,none⟩) ((uLen (decide (v ≥ 2)) (qaa v (false,s))).toNat) c126)),(15,.v (.int .i32 (((uLen (decide (v ≥ 2)) (qaa v (false,s))).toNat:Nat):Int))),(16,.v (.int .i32 ((k133:Nat):Int))),(18,.p 3 0),(19,.v (.string (bs (uTxt (decide (v ≥ 2)) (qai v (itS (qae v) k133 (aLen (decide (v ≥ 2)) (qaa v (false,s)))))))))])
     refine qct (d:=96) [(2,.v (.bool un)),(7,.p 0 0),(9,.v (.bool (decide (v ≥ 2)))),(10,.p 1 0),(14,.v (.slice (some ⟨g125,0,none⟩) ((uLen (decide (v ≥ 2)) (qaa v (false,s))).toNat) c126)),(15,.v (.int .i32 (((uLen (decide (v ≥ 2)) (qaa v (false,s))).toNat:Nat):Int))),(16,.v (.int .i32 ((k133:Nat):Int))),(18,.p 3 0),(19,.v (.string (bs (uTxt (decide (v ≥ 2)) (qai v (itS (qae v) k133 (aLen (decide (v ≥ 2)) (qaa v (false,s)))))))))] hS164 (qgK (f:=(decide (v ≥ 2))) (hc165) (qai v (itS (qae v) k133 (aLen (decide (v ≥ 2)) (qaa v (false,s)))))) Tryd.call49 fun _ _ hS169=>?_
     clear hS164
     refine qab ?_
     exact hS169.pk (env':=[(2,.v (.bool un)),(7,.p 0 0),(9,.v (.bool (decide (v ≥ 2)))),(10,.p 1 0),(14,.v (.slice (some ⟨g125,0,none⟩) ((uLen (decide (v ≥ 2)) (qaa v (false,s))).toNat) c126)),(15,.v (.int .i32 (((uLen (decide (v ≥ 2)) (qaa v (false,s))).toNat:Nat):Int))),(16,.v (.int .i32 ((k133:Nat):Int))),(18,.p 3 0),(19,.v (.string (bs (uTxt (decide (v ≥ 2)) (qai v (itS (qae v) k133 (aLen (decide (v ≥ 2)) (qaa v (false,s)))))))))])
    rintro _ _ hS155
    refine qab ?_
    refine qdK [⟨bv,0,[.int .i16 v,.pointer D34.A,.pointer D71.A,.slice none 0 0,.int .i64 0,.map none],true⟩,qbo g125 3 (.agg #[.string ByteArray.empty,.string ByteArray.empty,.map none]) ((uLen (decide (v ≥ 2)) (qaa v (false,s))).toNat) (k133 + 1),⟨g125,k133 * 3,[.string (bs (uTxt (decide (v ≥ 2)) (qai v (itS (qae v) k133 (aLen (decide (v ≥ 2)) (qaa v (false,s))))))),.string ByteArray.empty,.map none],true⟩] 2 [(2,.v (.bool un)),(7,.p 0 0),(9,.v (.bool (decide (v ≥ 2)))),(10,.p 1 0),(14,.v (.slice (some ⟨g125,0,none⟩) ((uLen (decide (v ≥ 2)) (qaa v (false,s))).toNat) c126)),(15,.v (.int .i32 (((uLen (decide (v ≥ 2)) (qaa v (false,s))).toNat:Nat):Int))),(16,.v (.int .i32 ((k133:Nat):Int))),(18,.p 3 0)] hS155 fun _ _ hS170=>?_
    clear hS155
    have hS171:=hS170.cast (σ':=(qaj v (itS (qae v) k133 (aLen (decide (v ≥ 2)) (qaa v (false,s)))))) rfl
    clear hS170
    refine qab ?_
    refine wp_seq ?_
    refine wp_seq ?_
    refine qbd [(2,.v (.bool un)),(7,.p 0 0),(9,.v (.bool (decide (v ≥ 2)))),(10,.p 1 0),(14,.v (.slice (some ⟨g125,0,none⟩) ((uLen (decide (v ≥ 2)) (qaa v (false,s))).toNat) c126)),(15,.v (.int .i32 (((uLen (decide (v ≥ 2)) (qaa v (false,s))).toNat:Nat):Int))),(16,.v (.int .i32 ((k133:Nat):Int))),(18,.p 3 0)] hS171 fun _ hS172=>?_
    clear hS171
    refine qab ?_
    refine wp_seq ?_
    have l173:=hS172.lim
    refine qcG (Mid:=fun a_ w_=>RSU w (fun b o=>b = bv ∧ o < 6) F 133 b13 [⟨bv,0,[.int .i16 v,.pointer D34.A,.pointer D71.A,.slice none 0 0,.int .i64 0,.map none],true⟩,qbo g125 3 (.agg #[.string ByteArray.empty,.string ByteArray.empty,.map none]) ((uLen (decide (v ≥ 2)) (qaa v (false,s))).toNat) (k133 + 1),⟨g125,k133 * 3,[.string (bs (uTxt (decide (v ≥ 2)) (qai v (itS (qae v) k133 (aLen (decide (v ≥ 2)) (qaa v (false,s))))))),.string ByteArray.empty,.map none],true⟩] [(2,.v (.bool un)),(7,.p 0 0),(9,.v (.bool (decide (v ≥ 2)))),(10,.p 1 0),(14,.v (.slice (some ⟨g125,0,none⟩) ((uLen (decide (v ≥ 2)) (qaa v (false,s))).toNat) c126)),(15,.v (.int .i32 (((uLen (decide (v ≥ 2)) (qaa v (false,s))).toNat:Nat):Int))),(16,.v (.int .i32 ((k133:Nat):Int))),(18,.p 3 0),(20,.v (.string (bs (uTxt (decide (v ≥ 2)) (qaj v (itS (qae v) k133 (aLen (decide (v ≥ 2)) (qaa v (false,s)))))))))] P139 (aTxt (decide (v ≥ 2)) (qaj v (itS (qae v) k133 (aLen (decide (v ≥ 2)) (qaa v (false,s)))))) a_ w_) ?_ ?_
    ·
     refine wp_seq ?_
     refine qbd [(2,.v (.bool un)),(7,.p 0 0),(9,.v (.bool (decide (v ≥ 2)))),(10,.p 1 0),(14,.v (.slice (some ⟨g125,0,none⟩) ((uLen (decide (v ≥ 2)) (qaa v (false,s))).toNat) c126)),(15,.v (.int .i32 (((uLen (decide (v ≥ 2)) (qaa v (false,s))).toNat:Nat):Int))),(16,.v (.int .i32 ((k133:Nat):Int))),(18,.p 3 0),(101,.v (.bool un))] hS172 fun _ hS178=>qab ?_
     clear hS172
     refine qaY hS178.env_ (b:=un) kz (fun hc179=>?_) (fun hc179=>?_)
     ·
      refine wp_seq ?_
      refine qbd [(2,.v (.bool un)),(7,.p 0 0),(9,.v (.bool (decide (v ≥ 2)))),(10,.p 1 0),(14,.v (.slice (some ⟨g125,0,none⟩) ((uLen (decide (v ≥ 2)) (qaa v (false,s))).toNat) c126)),(15,.v (.int .i32 (((uLen (decide (v ≥ 2)) (qaa v (false,s))).toNat:Nat):Int))),(16,.v (.int .i32 ((k133:Nat):Int))),(18,.p 3 0),(102,.v (.bool (decide (v ≥ 2))))] hS178 fun _ hS180=>qab ?_
      clear hS178
      refine qaY hS180.env_ (b:=decide (v ≥ 2)) kz (fun hc181=>?_) (fun hc181=>?_)
      ·
       refine qct (d:=103) [(2,.v (.bool un)),(7,.p 0 0),(9,.v (.bool (decide (v ≥ 2)))),(10,.p 1 0),(14,.v (.slice (some ⟨g125,0,none⟩) ((uLen (decide (v ≥ 2)) (qaa v (false,s))).toNat) c126)),(15,.v (.int .i32 (((uLen (decide (v ≥ 2)) (qaa v (false,s))).toNat:Nat):Int))),(16,.v (.int .i32 ((k133:Nat):Int))),(18,.p 3 0),(20,.v (.string (bs (uTxt (decide (v ≥ 2)) (qaj v (itS (qae v) k133 (aLen (decide (v ≥ 2)) (qaa v (false,s)))))))))] hS180 (qcu (f:=(decide (v ≥ 2))) (hc181) (qaj v (itS (qae v) k133 (aLen (decide (v ≥ 2)) (qaa v (false,s)))))) Tryd.call46 fun _ _ hS183=>?_
       clear hS180
       refine qab ?_
       exact hS183.pk (env':=[(2,.v (.bool un)),(7,.p 0 0),(9,.v (.bool (decide (v ≥ 2)))),(10,.p 1 0),(14,.v (.slice (some ⟨g125,0,none⟩) ((uLen (decide (v ≥ 2)) (qaa v (false,s))).toNat) c126)),(15,.v (.int .i32 (((uLen (decide (v ≥ 2)) (qaa v (false,s))).toNat:Nat):Int))),(16,.v (.int .i32 ((k133:Nat):Int))),(18,.p 3 0),(20,.v (.string (bs (uTxt (decide (v ≥ 2)) (qaj v (itS (qae v) k133 (aLen (decide (v ≥ 2)) (qaa v (false,s)))))))))])
      refine qct (d:=104) [(2,.v (.bool un)),(7,.p 0 0),(9,.v (.bool (decide (v ≥ 2)))),(10,.p 1 0),(14,.v (.slice (some ⟨g125,0,none⟩) ((uLen (decide (v ≥ 2)) (qaa v (false,s))).toNat) c126)),(15,.v (.int .i32 (((uLen (decide (v ≥ 2)) (qaa v (false,s))).toNat:Nat):Int))),(16,.v (.int .i32 ((k133:Nat):Int))),(18,.p 3 0),(20,.v (.string (bs (uTxt (decide (v ≥ 2)) (qaj v (itS (qae v) k133 (aLen (decide (v ≥ 2)) (qaa v (false,s)))))))))] hS180 (qdD (f:=(decide (v ≥ 2))) (hc181) (qaj v (itS (qae v) k133 (aLen (decide (v ≥ 2)) (qaa v (false,s)))))) Tryd.call47 fun _ _ hS185=>?_
      clear hS180
      refine qab ?_
      exact hS185.pk (env':=[(2,.v (.bool un)),(7,.p 0 0),(9,.v (.bool (decide (v ≥ 2)))),(10,.p 1 0),(14,.v (.slice (some ⟨g125,0,none⟩) ((uLen (decide (v ≥ 2)) (qaa v (false,s))).toNat) c126)),(15,.v (.int .i32 (((uLen (decide (v ≥ 2)) (qaa v (false,s))).toNat:Nat):Int))),(16,.v (.int .i32 ((k133:Nat):Int))),(18,.p 3 0),(20,.v (.string (bs (uTxt (decide (v ≥ 2)) (qaj v (itS (qae v) k133 (aLen (decide (v ≥ 2)) (qaa v (false,s)))))))))])
     refine wp_seq ?_
     refine qbd [(2,.v (.bool un)),(7,.p 0 0),(9,.v (.bool (decide (v ≥ 2)))),(10,.p 1 0),(14,.v (.slice (some ⟨g125,0,none⟩) ((uLen (decide (v ≥ 2)) (qaa v (false,s))).toNat) c126)),(15,.v (.int .i32 (((uLen (decide (v ≥ 2)) (qaa v (false,s))).toNat:Nat):Int))),(16,.v (.int .i32 ((k133:Nat):Int))),(18,.p 3 0),(105,.v (.bool (decide (v ≥ 2))))] hS178 fun _ hS186=>qab ?_
     clear hS178
     refine qaY hS186.env_ (b:=decide (v ≥ 2)) kz (fun hc187=>?_) (fun hc187=>?_)
     ·
      refine qct (d:=106) [(2,.v (.bool un)),(7,.p 0 0),(9,.v (.bool (decide (v ≥ 2)))),(10,.p 1 0),(14,.v (.slice (some ⟨g125,0,none⟩) ((uLen (decide (v ≥ 2)) (qaa v (false,s))).toNat) c126)),(15,.v (.int .i32 (((uLen (decide (v ≥ 2)) (qaa v (false,s))).toNat:Nat):Int))),(16,.v (.int .i32 ((k133:Nat):Int))),(18,.p 3 0),(20,.v (.string (bs (uTxt (decide (v ≥ 2)) (qaj v (itS (qae v) k133 (aLen (decide (v ≥ 2)) (qaa v (false,s)))))))))] hS186 (qdg (f:=(decide (v ≥ 2))) (hc187) (qaj v (itS (qae v) k133 (aLen (decide (v ≥ 2)) (qaa v (false,s)))))) Tryd.call48 fun _ _ hS189=>?_
      clear hS186
      refine qab ?_
      exact hS189.pk (env':=[(2,.v (.bool un)),(7,.p 0 0),(9,.v (.bool (decide (v ≥ 2)))),(10,.p 1 0),(14,.v (.slice (some ⟨g125,0,none⟩) ((uLen (decide (v ≥ 2)) (qaa v (false,s))).toNat) c126)),(15,.v (.int .i32 (((uLen (decide (v ≥ 2)) (qaa v (false,s))).toNat:Nat):Int))),(16,.v (.int .i32 ((k133:Nat):Int))),(18,.p 3 0),(20,.v (.string (bs (uTxt (decide (v ≥ 2)) (qaj v (itS (qae v) k133 (aLen (decide (v ≥ 2)) (qaa v (false,s)))))))))])
     refine qct (d:=107) [(2,.v (.bool un)),(7,.p 0 0),(9,.v (.bool (decide (v ≥ 2)))),(10,.p 1 0),(14,.v (.slice (some ⟨g125,0,none⟩) ((uLen (decide (v ≥ 2)) (qaa v (false,s))).toNat) c126)),(15,.v (.int .i32 (((uLen (decide (v ≥ 2)) (qaa v (false,s))).toNat:Nat):Int))),(16,.v (.int .i32 ((k133:Nat):Int))),(18,.p 3 0),(20,.v (.string (bs (uTxt (decide (v ≥ 2)) (qaj v (itS (qae v) k133 (aLen (decide (v ≥ 2)) (qaa v (false,s)))))))))] hS186 (qgK (f:=(decide (v ≥ 2))) (hc187) (qaj v (itS (qae v) k133 (aLen (decide (v ≥ 2)) (qaa v (false,s)))))) Tryd.call49 fun _ _ hS191=>?_
     clear hS186
     refine qab ?_
     exact hS191.pk (env':=[(2,.v (.bool un)),(7,.p 0 0),(9,.v (.bool (decide (v ≥ 2)))),(10,.p 1 0),(14,.v (.slice (some ⟨g125,0,none⟩) ((uLen (decide (v ≥ 2)) (qaa v (false,s))).toNat) c126)),(15,.v (.int .i32 (((uLen (decide (v ≥ 2)) (qaa v (false,s))).toNat:Nat):Int))),(16,.v (.int .i32 ((k133:Nat):Int))),(18,.p 3 0),(20,.v (.string (bs (uTxt (decide (v ≥ 2)) (qaj v (itS (qae v) k133 (aLen (decide (v ≥ 2)) (qaa v (false,s)))))))))])
    rintro _ _ hS177
    refine qab ?_
    refine qdK [⟨bv,0,[.int .i16 v,.pointer D34.A,.pointer D71.A,.slice none 0 0,.int .i64 0,.map none],true⟩,qbo g125 3 (.agg #[.string ByteArray.empty,.string ByteArray.empty,.map none]) ((uLen (decide (v ≥ 2)) (qaa v (false,s))).toNat) (k133 + 1),⟨g125,k133 * 3,[.string (bs (uTxt (decide (v ≥ 2)) (qai v (itS (qae v) k133 (aLen (decide (v ≥ 2)) (qaa v (false,s))))))),.string (bs (uTxt (decide (v ≥ 2)) (qaj v (itS (qae v) k133 (aLen (decide (v ≥ 2)) (qaa v (false,s))))))),.map none],true⟩] 2 [(2,.v (.bool un)),(7,.p 0 0),(9,.v (.bool (decide (v ≥ 2)))),(10,.p 1 0),(14,.v (.slice (some ⟨g125,0,none⟩) ((uLen (decide (v ≥ 2)) (qaa v (false,s))).toNat) c126)),(15,.v (.int .i32 (((uLen (decide (v ≥ 2)) (qaa v (false,s))).toNat:Nat):Int))),(16,.v (.int .i32 ((k133:Nat):Int))),(18,.p 3 0)] hS177 fun _ _ hS192=>?_
    clear hS177
    have hS193:=hS192.cast (σ':=(qaE v (itS (qae v) k133 (aLen (decide (v ≥ 2)) (qaa v (false,s)))))) rfl
    clear hS192
    refine qab ?_
    have l194:=hS193.lim
    refine qcG (Mid:=fun a_ w_=>∃ (m196:Option Nat) (u197:List (Int × Bs)) (P':qb2),(∀ w F,P' w F → P139 w F ∧ (MapR w F m196 u197 ∧ u197.length ≤ 1000000 ∧ ∀ x ∈ u197,x.2.length < 4294967296) ∧ u197 = qaQ v (itS (qae v) k133 (aLen (decide (v ≥ 2)) (qaa v (false,s))))) ∧ RSU w (fun b o=>b = bv ∧ o < 6) F 133 b13 [⟨bv,0,[.int .i16 v,.pointer D34.A,.pointer D71.A,.slice none 0 0,.int .i64 0,.map none],true⟩,qbo g125 3 (.agg #[.string ByteArray.empty,.string ByteArray.empty,.map none]) ((uLen (decide (v ≥ 2)) (qaa v (false,s))).toNat) (k133 + 1),⟨g125,k133 * 3,[.string (bs (uTxt (decide (v ≥ 2)) (qai v (itS (qae v) k133 (aLen (decide (v ≥ 2)) (qaa v (false,s))))))),.string (bs (uTxt (decide (v ≥ 2)) (qaj v (itS (qae v) k133 (aLen (decide (v ≥ 2)) (qaa v (false,s))))))),.map m196],true⟩] [(2,.v (.bool un)),(7,.p 0 0),(9,.v (.bool (decide (v ≥ 2)))),(10,.p 1 0),(14,.v (.slice (some ⟨g125,0,none⟩) ((uLen (decide (v ≥ 2)) (qaa v (false,s))).toNat) c126)),(15,.v (.int .i32 (((uLen (decide (v ≥ 2)) (qaa v (false,s))).toNat:Nat):Int))),(16,.v (.int .i32 ((k133:Nat):Int)))] P' (qaz v (itS (qae v) k133 (aLen (decide (v ≥ 2)) (qaa v (false,s))))) a_ w_) ?_ ?_
    ·
     refine wp_seq ?_
     refine qbd [(2,.v (.bool un)),(7,.p 0 0),(9,.v (.bool (decide (v ≥ 2)))),(10,.p 1 0),(14,.v (.slice (some ⟨g125,0,none⟩) ((uLen (decide (v ≥ 2)) (qaa v (false,s))).toNat) c126)),(15,.v (.int .i32 (((uLen (decide (v ≥ 2)) (qaa v (false,s))).toNat:Nat):Int))),(16,.v (.int .i32 ((k133:Nat):Int))),(18,.p 3 0),(112,.v (.bool (decide (v ≥ 2))))] hS193 fun _ hS201=>qab ?_
     clear hS193
     refine qaY hS201.env_ (b:=decide (v ≥ 2)) kz (fun hc202=>?_) (fun hc202=>?_)
     ·
      refine qaF [0,1,2,3,4] kz ?_
      refine qcp [0] [1,2,3,4] [(2,.v (.bool un)),(7,.p 0 0),(9,.v (.bool (decide (v ≥ 2)))),(10,.p 1 0),(14,.v (.slice (some ⟨g125,0,none⟩) ((uLen (decide (v ≥ 2)) (qaa v (false,s))).toNat) c126)),(15,.v (.int .i32 (((uLen (decide (v ≥ 2)) (qaa v (false,s))).toNat:Nat):Int))),(16,.v (.int .i32 ((k133:Nat):Int))),(113,.p 3 0)] hS201 fun _ hS203=>?_
      clear hS201
      refine qak (qeO (d:=114) hS203 (qil (qaE v (itS (qae v) k133 (aLen (decide (v ≥ 2)) (qaa v (false,s)))))) (fun _=>MvF.tags _ _) Tryd.call50 fun m204 P205 _ _ hP206 hS207=>?_)
      clear hS203
      refine qcp [2,3] [4] [(2,.v (.bool un)),(7,.p 0 0),(9,.v (.bool (decide (v ≥ 2)))),(10,.p 1 0),(14,.v (.slice (some ⟨g125,0,none⟩) ((uLen (decide (v ≥ 2)) (qaa v (false,s))).toNat) c126)),(15,.v (.int .i32 (((uLen (decide (v ≥ 2)) (qaa v (false,s))).toNat:Nat):Int))),(16,.v (.int .i32 ((k133:Nat):Int))),(114,.v (.agg #[.map m204])),(116,.p 3 2)] hS207 fun _ hS208=>?_
      clear hS207
      refine qak (qe3 [⟨bv,0,[.int .i16 v,.pointer D34.A,.pointer D71.A,.slice none 0 0,.int .i64 0,.map none],true⟩,qbo g125 3 (.agg #[.string ByteArray.empty,.string ByteArray.empty,.map none]) ((uLen (decide (v ≥ 2)) (qaa v (false,s))).toNat) (k133 + 1),⟨g125,k133 * 3,[.string (bs (uTxt (decide (v ≥ 2)) (qai v (itS (qae v) k133 (aLen (decide (v ≥ 2)) (qaa v (false,s))))))),.string (bs (uTxt (decide (v ≥ 2)) (qaj v (itS (qae v) k133 (aLen (decide (v ≥ 2)) (qaa v (false,s))))))),.map m204],true⟩] 2 hS208 fun _ hS209=>?_)
      clear hS208
      refine qaf ?_
      have hS210:=hS209.pk (env':=[(2,.v (.bool un)),(7,.p 0 0),(9,.v (.bool (decide (v ≥ 2)))),(10,.p 1 0),(14,.v (.slice (some ⟨g125,0,none⟩) ((uLen (decide (v ≥ 2)) (qaa v (false,s))).toNat) c126)),(15,.v (.int .i32 (((uLen (decide (v ≥ 2)) (qaa v (false,s))).toNat:Nat):Int))),(16,.v (.int .i32 ((k133:Nat):Int)))])
      clear hS209
      refine qab ?_
      have hS211:=hS210.cast (σ':=(qaz v (itS (qae v) k133 (aLen (decide (v ≥ 2)) (qaa v (false,s)))))) (by unfold qaz qaP; rw [if_pos hc202])
      exact ⟨m204,qdL (qaE v (itS (qae v) k133 (aLen (decide (v ≥ 2)) (qaa v (false,s))))),_,fun w F h_=>⟨(hP206 _ _ h_).1,⟨(hP206 _ _ h_).2,Nat.le_trans (qd4 _).1 (by have:=l194; omega),fun x_ hx_=>Nat.lt_of_le_of_lt ((qd4 _).2 x_ hx_) (by have:=l194; omega)⟩,by unfold qaQ qa5; rw [if_pos hc202] <;> exact rfl⟩,hS211.pk (env':=[(2,.v (.bool un)),(7,.p 0 0),(9,.v (.bool (decide (v ≥ 2)))),(10,.p 1 0),(14,.v (.slice (some ⟨g125,0,none⟩) ((uLen (decide (v ≥ 2)) (qaa v (false,s))).toNat) c126)),(15,.v (.int .i32 (((uLen (decide (v ≥ 2)) (qaa v (false,s))).toNat:Nat):Int))),(16,.v (.int .i32 ((k133:Nat):Int)))])⟩
     refine wp_skip (qab ?_)
     have hS212:=hS201.cast (σ':=(qaz v (itS (qae v) k133 (aLen (decide (v ≥ 2)) (qaa v (false,s)))))) (by unfold qaz qaP; rw [if_neg (by rw [hc202]; decide)])
     exact ⟨none,[],_,fun w F h_=>⟨h_,⟨MapR.nil _ _,Nat.zero_le _,fun _ h=>by cases h⟩,by unfold qaQ qa5; rw [if_neg (by rw [hc202]; decide)] <;> exact rfl⟩,hS212.pk (env':=[(2,.v (.bool un)),(7,.p 0 0),(9,.v (.bool (decide (v ≥ 2)))),(10,.p 1 0),(14,.v (.slice (some ⟨g125,0,none⟩) ((uLen (decide (v ≥ 2)) (qaa v (false,s))).toNat) c126)),(15,.v (.int .i32 (((uLen (decide (v ≥ 2)) (qaa v (false,s))).toNat:Nat):Int))),(16,.v (.int .i32 ((k133:Nat):Int)))])⟩
    rintro _ _ ⟨m196,u197,P198,hP199,hS200⟩
    refine qa8 ?_
    refine qab ?_
    refine qbd [(2,.v (.bool un)),(7,.p 0 0),(9,.v (.bool (decide (v ≥ 2)))),(10,.p 1 0),(14,.v (.slice (some ⟨g125,0,none⟩) ((uLen (decide (v ≥ 2)) (qaa v (false,s))).toNat) c126)),(15,.v (.int .i32 (((uLen (decide (v ≥ 2)) (qaa v (false,s))).toNat:Nat):Int))),(16,.v (.int .i32 (IntKind.i32.wrap (((k133:Nat):Int) + 1))))] hS200 fun _ hS213=>?_
    clear hS200
    refine qab ?_
    have hS214:=(hS213.envEq (env':=[(2,.v (.bool un)),(7,.p 0 0),(9,.v (.bool (decide (v ≥ 2)))),(10,.p 1 0),(14,.v (.slice (some ⟨g125,0,none⟩) ((uLen (decide (v ≥ 2)) (qaa v (false,s))).toNat) c126)),(15,.v (.int .i32 (((uLen (decide (v ≥ 2)) (qaa v (false,s))).toNat:Nat):Int))),(16,.v (.int .i32 ((k133 + 1:Nat):Int)))]) (by rw [qg4 (by omega)])).pk (env':=[(2,.v (.bool un)),(7,.p 0 0),(9,.v (.bool (decide (v ≥ 2)))),(10,.p 1 0),(14,.v (.slice (some ⟨g125,0,none⟩) ((uLen (decide (v ≥ 2)) (qaa v (false,s))).toNat) c126)),(15,.v (.int .i32 (((uLen (decide (v ≥ 2)) (qaa v (false,s))).toNat:Nat):Int))),(16,.v (.int .i32 ((k133 + 1:Nat):Int)))])
    clear hS213
    exact (RSU.thing (tb:=[⟨bv,0,[.int .i16 v,.pointer D34.A,.pointer D71.A,.slice none 0 0,.int .i64 0,.map none],true⟩]) (z:=.agg #[.string ByteArray.empty,.string ByteArray.empty,.map none]) (D:=(dvP m196 u197 [dvS (bs (uTxt (decide (v ≥ 2)) (qai v (itS (qae v) k133 (aLen (decide (v ≥ 2)) (qaa v (false,s))))))),dvS (bs (uTxt (decide (v ≥ 2)) (qaj v (itS (qae v) k133 (aLen (decide (v ≥ 2)) (qaa v (false,s)))))))])) (hS214.cast (σ':=(itS (qae v) (k133 + 1) (aLen (decide (v ≥ 2)) (qaa v (false,s))))) rfl) hg_g125 qaB hmP136 rfl (fun w F h_=>⟨(hP140 _ _ (hP199 _ _ h_).1).1,(hP140 _ _ (hP199 _ _ h_).1).2,⟨(by show ByteArray.size (bs _) ≤ 1000000; rw [qeN]; exact Nat.le_trans (qfD _ _) (Nat.le_trans l151 (by decide))),(by show ByteArray.size (bs _) ≤ 1000000; rw [qeN]; exact Nat.le_trans (qfD _ _) (Nat.le_trans l173 (by decide))),(hP199 _ _ h_).2.1.1,(hP199 _ _ h_).2.1.2.1,(hP199 _ _ h_).2.1.2.2,trivial⟩,(trc (tlc (rfl) (tlc (rfl) rfl)) (hP199 _ _ h_).2.2)⟩) kz)
   refine wp_seq ?_
   refine wp_seq ?_
   refine qbd [(2,.v (.bool un)),(7,.p 0 0),(9,.v (.bool (decide (v ≥ 2)))),(10,.p 1 0),(14,.v (.slice (some ⟨g125,0,none⟩) ((uLen (decide (v ≥ 2)) (qaa v (false,s))).toNat) c126)),(15,.v (.int .i32 (((uLen (decide (v ≥ 2)) (qaa v (false,s))).toNat:Nat):Int))),(16,.v (.int .i32 (((uLen (decide (v ≥ 2)) (qaa v (false,s))).toNat:Nat):Int))),(81,.v (.bool (decide ((((uLen (decide (v ≥ 2)) (qaa v (false,s))).toNat:Nat):Int) < (((uLen (decide (v ≥ 2)) (qaa v (false,s))).toNat:Nat):Int)))))] hS138 fun _ hS215=>qab ?_
   clear hS138
   refine qam hS215.env_ (b:=decide ((((uLen (decide (v ≥ 2)) (qaa v (false,s))).toNat:Nat):Int) < (((uLen (decide (v ≥ 2)) (qaa v (false,s))).toNat:Nat):Int))) kz (decide_eq_false (by omega)) ?_
   refine wp_exit ?_
   refine qaR ?_
   refine qaR ?_
   refine qbn ?_
   refine qab ?_
   obtain ⟨f216,hS217⟩:=RSU.listEnd (tb:=[⟨bv,0,[.int .i16 v,.pointer D34.A,.pointer D71.A,.slice none 0 0,.int .i64 0,.map none],true⟩]) (c:=c126) (hS215.pk (env':=[(7,.p 0 0),(9,.v (.bool (decide (v ≥ 2)))),(10,.p 1 0),(14,.v (.slice (some ⟨g125,0,none⟩) ((uLen (decide (v ≥ 2)) (qaa v (false,s))).toNat) c126))])) hg_g125 qaB hmP136 hcap_g125 (by omega) hn_g125 kz
   exact ⟨dvL (some ⟨g125,0,none⟩) (uLen (decide (v ≥ 2)) (qaa v (false,s))).toNat c126 f216,_,fun w F h_=>⟨h_.1,⟨h_.2.1,Nat.le_trans hN122 (by decide),h_.2.2.1⟩,qhi (decide_eq_false (by omega)).symm h_.2.2.2⟩,hS217⟩
  have hnp_g125:¬ (0 < uLen (decide (v ≥ 2)) (qaa v (false,s))):=of_decide_eq_false hc124
  refine wp_skip ?_
  refine qab ?_
  refine wp_seq ?_
  refine qbd [(2,.v (.bool un)),(7,.p 0 0),(9,.v (.bool (decide (v ≥ 2)))),(10,.p 1 0),(14,.v (.slice none 0 0)),(15,.v (.int .i32 (uLen (decide (v ≥ 2)) (qaa v (false,s))))),(16,.v (.int .i32 0))] hS123 fun _ hS218=>?_
  clear hS123
  refine qab ?_
  refine wp_block ?_
  refine qfC ?_
  refine wp_seq ?_
  refine wp_seq ?_
  refine qbd [(2,.v (.bool un)),(7,.p 0 0),(9,.v (.bool (decide (v ≥ 2)))),(10,.p 1 0),(14,.v (.slice none 0 0)),(15,.v (.int .i32 (uLen (decide (v ≥ 2)) (qaa v (false,s))))),(16,.v (.int .i32 0)),(81,.v (.bool (decide (0 < (uLen (decide (v ≥ 2)) (qaa v (false,s)))))))] hS218 fun _ hS219=>qab ?_
  clear hS218
  refine qam hS219.env_ (b:=decide (0 < (uLen (decide (v ≥ 2)) (qaa v (false,s))))) kz (hc124) ?_
  refine wp_exit ?_
  refine qaR ?_
  refine qaR ?_
  refine qbn ?_
  refine qab ?_
  have hz220:(uLen (decide (v ≥ 2)) (qaa v (false,s))).toNat = 0:=by omega
  exact ⟨dvL none 0 0 (fun _=>dv0),_,fun w F h_=>⟨h_,⟨Slots.nil _ _ _ _,Nat.zero_le _,fun _ h=>absurd h (Nat.not_lt_zero _)⟩,qgD (decide_eq_true (by omega)).symm hz220⟩,(hS219.cast (σ':=(itS (qae v) (uLen (decide (v ≥ 2)) (qaa v (false,s))).toNat (aLen (decide (v ≥ 2)) (qaa v (false,s))))) (by rw [hz220]; rfl)).pk (env':=[(7,.p 0 0),(9,.v (.bool (decide (v ≥ 2)))),(10,.p 1 0),(14,.v (.slice none 0 0))])⟩
 rintro _ _ ⟨D118,P119,hP120,hS121⟩
 refine wp_seq ?_
 refine qbd [(7,.p 0 0),(9,.v (.bool (decide (v ≥ 2)))),(10,.p 1 0),(13,.v (.slice D118.A D118.l D118.c))] hS121 fun _ hS221=>?_
 clear hS121
 refine qab ?_
 refine qdK [⟨bv,0,[.int .i16 v,.pointer D34.A,.pointer D71.A,.slice D118.A D118.l D118.c,.int .i64 0,.map none],true⟩] 0 [(7,.p 0 0),(9,.v (.bool (decide (v ≥ 2)))),(10,.p 1 0)] hS221 fun _ _ hS222=>?_
 clear hS221
 have hS223:=hS222.cast (σ':=(qax v (false,s))) rfl
 clear hS222
 refine qab ?_
 refine wp_seq ?_
 refine wp_seq ?_
 have l224:=hS223.lim
 refine qct (d:=122) [(7,.p 0 0),(9,.v (.bool (decide (v ≥ 2)))),(10,.p 1 0),(21,.v (.int .i64 (uI64 (qax v (false,s)))))] hS223 (qid (qax v (false,s))) Tryd.call51 fun _ _ hS226=>?_
 clear hS223
 refine qab ?_
 refine qdK [⟨bv,0,[.int .i16 v,.pointer D34.A,.pointer D71.A,.slice D118.A D118.l D118.c,.int .i64 (uI64 (qax v (false,s))),.map none],true⟩] 0 [(7,.p 0 0),(9,.v (.bool (decide (v ≥ 2)))),(10,.p 1 0)] hS226 fun _ _ hS227=>?_
 clear hS226
 have hS228:=hS227.cast (σ':=(qaL v (false,s))) rfl
 clear hS227
 refine qab ?_
 refine wp_seq ?_
 have l229:=hS228.lim
 refine qcG (Mid:=fun a_ w_=>∃ (m231:Option Nat) (u232:List (Int × Bs)) (P':qb2),(∀ w F,P' w F → P119 w F ∧ (MapR w F m231 u232 ∧ u232.length ≤ 1000000 ∧ ∀ x ∈ u232,x.2.length < 4294967296) ∧ u232 = qa3 v (false,s)) ∧ RSU w (fun b o=>b = bv ∧ o < 6) F 133 b13 [⟨bv,0,[.int .i16 v,.pointer D34.A,.pointer D71.A,.slice D118.A D118.l D118.c,.int .i64 (uI64 (qax v (false,s))),.map m231],true⟩] [(7,.p 0 0)] P' (qaC v (false,s)) a_ w_) ?_ ?_
 ·
  refine wp_seq ?_
  refine qbd [(7,.p 0 0),(10,.p 1 0),(127,.v (.bool (decide (v ≥ 2))))] hS228 fun _ hS236=>qab ?_
  clear hS228
  refine qaY hS236.env_ (b:=decide (v ≥ 2)) kz (fun hc237=>?_) (fun hc237=>?_)
  ·
   refine qaF [0,1,2,3,4] kz ?_
   refine qcp [0] [1,2,3,4] [(7,.p 0 0),(128,.p 1 0)] hS236 fun _ hS238=>?_
   clear hS236
   refine qak (qeO (d:=129) hS238 (qil (qaL v (false,s))) (fun _=>MvF.tags _ _) Tryd.call50 fun m239 P240 _ _ hP241 hS242=>?_)
   clear hS238
   refine qcp [2,3] [4] [(7,.p 0 0),(129,.v (.agg #[.map m239])),(131,.p 1 5)] hS242 fun _ hS243=>?_
   clear hS242
   refine qak (qe3 [⟨bv,0,[.int .i16 v,.pointer D34.A,.pointer D71.A,.slice D118.A D118.l D118.c,.int .i64 (uI64 (qax v (false,s))),.map m239],true⟩] 0 hS243 fun _ hS244=>?_)
   clear hS243
   refine qaf ?_
   have hS245:=hS244.pk (env':=[(7,.p 0 0)])
   clear hS244
   refine qab ?_
   have hS246:=hS245.cast (σ':=(qaC v (false,s))) (by unfold qaC qa2; rw [if_pos hc237])
   exact ⟨m239,qdL (qaL v (false,s)),_,fun w F h_=>⟨(hP241 _ _ h_).1,⟨(hP241 _ _ h_).2,Nat.le_trans (qd4 _).1 (by have:=l229; omega),fun x_ hx_=>Nat.lt_of_le_of_lt ((qd4 _).2 x_ hx_) (by have:=l229; omega)⟩,by unfold qa3 qbi; rw [if_pos hc237] <;> exact rfl⟩,hS246.pk (env':=[(7,.p 0 0)])⟩
  refine wp_skip (qab ?_)
  have hS247:=hS236.cast (σ':=(qaC v (false,s))) (by unfold qaC qa2; rw [if_neg (by rw [hc237]; decide)])
  exact ⟨none,[],_,fun w F h_=>⟨h_,⟨MapR.nil _ _,Nat.zero_le _,fun _ h=>by cases h⟩,by unfold qa3 qbi; rw [if_neg (by rw [hc237]; decide)] <;> exact rfl⟩,hS247.pk (env':=[(7,.p 0 0)])⟩
 rintro _ _ ⟨m231,u232,P233,hP234,hS235⟩
 refine qab ?_
 refine wp_seq ?_
 refine (Bool.eq_false_or_eq_true ((qaC v (false,s))).1).elim (fun hb248=>?_) (fun hb248=>?_)
 ·
  refine qaF [0,1] kz (qak (qdE (d:=132) (ev:=ev) hS235 (hb248) (fun w F h_=>(hP36 _ _ (hP73 _ _ (hP120 _ _ (hP234 _ _ h_).1).1).1).1) (fun hs_ hg_ hf_=>qeA hs_ hg_ hf_) Tryd.call44 fun _ hS249=>?_))
  clear hS235
  refine qcp [1] [] [(6,.v (ev))] hS249 fun _ hS250=>qaf ?_
  clear hS249
  refine qab ?_
  refine wp_ret ?_
  obtain ⟨A_,m_,c_,hW_,hr_,hE_,hP_⟩:=hS250.open_
  refine qaV hE_ hW_.cells (v:=ev) kz (.inl ⟨(hb248),rfl,⟨_,Str.of hW_ 1 rfl,rfl⟩,hW_.step⟩)
 refine qaF [0,1] kz (qak (qe2 (d:=132) hS235 (fun hs_=>qgs (by rw [hb248] at hs_; exact hs_)) Tryd.call44 fun _ hS251=>?_))
 clear hS235
 refine qcp [1] [] [(6,.v (.nilIface))] hS251 fun _ hS252=>qaf ?_
 clear hS251
 refine qab ?_
 refine wp_ret ?_
 obtain ⟨A_,m_,c_,hW_,hr_,hE_,hP_⟩:=hS252.open_
 refine qaV hE_ hW_.cells (v:=.nilIface) kz ?_
 have h_:=hS252.mv.mono qbs hP_
 refine .inr ⟨hb248,(dvP m231 u232 [D34,D71,D118,dvN (uI64 (qax v (false,s)))]),rfl,Str.of hW_ 1 rfl,?_,(trc (tlc ((hP36 _ _ (hP73 _ _ (hP120 _ _ (hP234 _ _ h_).1).1).1).2.2) (tlc ((hP73 _ _ (hP120 _ _ (hP234 _ _ h_).1).1).2.2) (tlc ((hP120 _ _ (hP234 _ _ h_).1).2.2) (tlc (rfl) rfl)))) (hP234 _ _ h_).2.2),hW_.step⟩
 unfold qaJ
 exact ⟨((hP36 _ _ (hP73 _ _ (hP120 _ _ (hP234 _ _ h_).1).1).1).2.1),((hP73 _ _ (hP120 _ _ (hP234 _ _ h_).1).1).2.1),((hP120 _ _ (hP234 _ _ h_).1).2.1),(trivial),(hP234 _ _ h_).2.1.1,(hP234 _ _ h_).2.1.2.1,(hP234 _ _ h_).2.1.2.2,trivial⟩
theorem qby (v:Int) (un:Bool) (s:Bs) (hl:s.length ≤ 1000) {ev:Value} {bv:Nat} {A:Option Addr} {c:Nat} {w:World} {F:Nat → Nat → Prop} (hst:Str w bv [.int .i16 v,.pointer none,.pointer none,.slice none 0 0,.int .i64 0,.map none]) (ho:Octs w F A c s) (hgl:AtF w F 0 0 [ev]) (hFd:∀ b o,F b o → ¬ (b = bv ∧ o < 6)) (hb:(qau v (false,s)).1 = true) :
  Calls Tryd.prog 28 #[.pointer (some ⟨bv,0,none⟩),.slice A s.length c,.bool un] w (fun e w'=>e = .returned ev ∧ (∃ cs,Str w' bv cs ∧ cs.length = 6) ∧ Step w w' (fun b o=>b = bv ∧ o < 6)):=(qbD v un s hl hst ho hgl hFd).mono fun e w' h=>by
 rcases h with ⟨_,h⟩ | ⟨h,_⟩
 ·exact h
 rw [hb] at h; cases h
theorem qbz (v:Int) (un:Bool) (s:Bs) (hl:s.length ≤ 1000) {ev:Value} {bv:Nat} {A:Option Addr} {c:Nat} {w:World} {F:Nat → Nat → Prop} (hst:Str w bv [.int .i16 v,.pointer none,.pointer none,.slice none 0 0,.int .i64 0,.map none]) (ho:Octs w F A c s) (hgl:AtF w F 0 0 [ev]) (hFd:∀ b o,F b o → ¬ (b = bv ∧ o < 6)) (hb:(qau v (false,s)).1 = false) :
  Calls Tryd.prog 28 #[.pointer (some ⟨bv,0,none⟩),.slice A s.length c,.bool un] w (fun e w'=>∃ D:DV,e = .returned .nilIface ∧ Str w' bv [.int .i16 v,.pointer ((D.f 0).A),.pointer ((D.f 1).A),.slice ((D.f 2).A) ((D.f 2).l) ((D.f 2).c),.int .i64 ((D.f 3).n),.map D.m] ∧ qaJ w' (Fp F w) D ∧ qaW D = qba v (false,s) ∧ Step w w' (fun b o=>b = bv ∧ o < 6)):=(qbD v un s hl hst ho hgl hFd).mono fun e w' h=>by
 rcases h with ⟨h,_⟩ | ⟨_,h⟩
 ·rw [hb] at h; cases h
 exact h
end Go.Proofs.YtmpejmiiphddhaaDoorR.ME
namespace Go.Proofs.YtmpejmiiphddhaaDoorR.ME
open Go
open Go.RowKit
set_option linter.unusedVariables false
set_option linter.unusedSimpArgs false
set_option maxRecDepth 20000
set_option maxHeartbeats 4000000 in
theorem qb0 (v:Int) (s:Bs) (hl:s.length ≤ 1000) {ue:TypeId} {ve:Value} {A2:Option Addr} {c2:Nat} {w:World} {F:Nat → Nat → Prop} (hs_:Octs w F A2 c2 s) (hgl:AtF w F 0 0 [.iface ue ve]) (hb:(qau (IntKind.i16.wrap v) (false,s)).1 = true) :
  Calls Tryd.prog 6 #[.int .i64 v,.slice A2 s.length c2] w (fun e w'=>∃ cs,e = .returned (.tuple #[.agg cs.toArray,.bool false]) ∧ TreeR w' (Fp F w) cs (.zero) ∧ Step w w' Nil):=by
 refine enter (n:=20) Tryd.func6 rfl Tryd.ntmps6 kz fun a hE=>?_
 have hW:=WOk.start w Nil
 have hsm2:=Slots.small hs_
 refine qad [0,1] kz ?_
 refine qak (qaH hW hE (d:=4) (cs:=[.int .i64 0,.slice none 0 0,.bool false,.slice none 0 0,.slice none 0 0]) kz fun b1 a2 w3 hb4 hz5 hF6 hW7 hE8=>?_)
 refine qal [1] [] [(0,.v (.int .i64 v)),(1,.v (.slice A2 s.length c2)),(4,.p 0 0)] hW7 hE8 fun a9 hE10=>?_
 refine qaf (qab ?_)
 refine qad [0,1] kz ?_
 refine qak (qaU hE10 (f:=14) (vs:=[]) (d:=7) (n':=3) kz Tryd.call14 Tryd.func14 rfl Tryd.ntmps14 kz fun a11 hE12=>?_)
 refine qas [] hW7 hE12 fun a13 hE14=>?_
 refine qad [0] kz ?_
 refine qak (qaH hW7 hE14 (d:=1) (cs:=[.int .i16 0,.pointer none,.pointer none,.slice none 0 0,.int .i64 0,.map none]) kz fun b15 a16 w17 hb18 hz19 hF20 hW21 hE22=>?_)
 refine qaf (qab ?_)
 refine qad [0] kz ?_
 refine qak (qaU hE22 (f:=27) (vs:=[.pointer (some ⟨b15,0,none⟩)]) (d:=2) (n':=2) kz Tryd.call27 Tryd.func27 rfl Tryd.ntmps27 kz fun a23 hE24=>?_)
 have hE25:=hE24.recast 0 (.v (.pointer (some ⟨b15,0,none⟩))) (.p 1 0) rfl rfl (Nat.le_of_ble_eq_true (n:=2) rfl)
 refine wp_skip ?_
 refine qbk hE25 hW21.cells (v:=.tuple #[]) kz ?_
 refine ⟨_,rfl,fun a26 hE27=>?_⟩
 have hE28:=(EnvOk.places (tb':=[⟨b1,0,[.int .i64 0,.slice none 0 0,.bool false,.slice none 0 0,.slice none 0 0],true⟩,⟨b15,0,[.int .i16 0,.pointer none,.pointer none,.slice none 0 0,.int .i64 0,.map none],true⟩]) hE27 (show Pl [⟨b1,0,[.int .i64 0,.slice none 0 0,.bool false,.slice none 0 0,.slice none 0 0],true⟩,⟨b15,0,[.int .i16 0,.pointer none,.pointer none,.slice none 0 0,.int .i64 0,.map none],true⟩] [⟨b1,0,[.int .i64 0,.slice none 0 0,.bool false,.slice none 0 0,.slice none 0 0],true⟩,⟨b15,0,[.int .i16 0,.pointer none,.pointer none,.slice none 0 0,.int .i64 0,.map none],true⟩] from ⟨rfl,rfl,⟨rfl,rfl,trivial⟩⟩)).pk (env':=[(2,.v (.tuple #[])),(1,.p 1 0)])
 refine qaf (qab ?_)
 refine qas [(0,.p 1 0)] hW21 hE28 fun a29 hE30=>?_
 refine wp_ret ?_
 refine qaV hE30 hW21.cells (v:=.pointer (some ⟨b15,0,none⟩)) kz ?_
 refine ⟨_,rfl,fun a31 hE32=>?_⟩
 have hE33:=(EnvOk.places (tb':=[⟨b1,0,[.int .i64 0,.slice none 0 0,.bool false,.slice none 0 0,.slice none 0 0],true⟩,⟨b15,0,[.int .i16 0,.pointer none,.pointer none,.slice none 0 0,.int .i64 0,.map none],true⟩]) hE32 (show Pl [⟨b1,0,[.int .i64 0,.slice none 0 0,.bool false,.slice none 0 0,.slice none 0 0],true⟩] [⟨b1,0,[.int .i64 0,.slice none 0 0,.bool false,.slice none 0 0,.slice none 0 0],true⟩,⟨b15,0,[.int .i16 0,.pointer none,.pointer none,.slice none 0 0,.int .i64 0,.map none],true⟩] from ⟨rfl,rfl,trivial⟩)).pk (env':=[(7,.v (.pointer (some ⟨b15,0,none⟩))),(0,.v (.int .i64 v)),(1,.v (.slice A2 s.length c2)),(4,.p 0 0)])
 have hE34:=hE33.recast 7 (.v (.pointer (some ⟨b15,0,none⟩))) (.p 1 0) rfl rfl (Nat.le_of_ble_eq_true (n:=2) rfl)
 have hE35:=hE34.pick (ks:=[0,1,4,7]) (env':=[(0,.v (.int .i64 v)),(1,.v (.slice A2 s.length c2)),(4,.p 0 0),(7,.p 1 0)]) kz
 refine qal [1] [] [(0,.v (.int .i64 v)),(1,.v (.slice A2 s.length c2)),(4,.p 0 0),(6,.p 1 0)] hW21 hE35 fun a36 hE37=>?_
 refine qaf (qab ?_)
 refine qad [0,1,2,3] kz ?_
 refine qal [0,1,2] [3] [(1,.v (.slice A2 s.length c2)),(4,.p 0 0),(6,.p 1 0),(8,.p 1 0),(10,.v (.int .i16 (IntKind.i16.wrap v)))] hW21 hE37 fun a38 hE39=>?_
 refine qak (qaU hE39 (f:=16) (vs:=[.pointer (some ⟨b15,0,none⟩),.int .i16 (IntKind.i16.wrap v)]) (d:=11) (n':=8) kz Tryd.call16 Tryd.func16 rfl Tryd.ntmps16 kz fun a40 hE41=>?_)
 have hE42:=hE41.recast 0 (.v (.pointer (some ⟨b15,0,none⟩))) (.p 1 0) rfl rfl (Nat.le_of_ble_eq_true (n:=2) rfl)
 refine qaF [0,1,2,3,4] kz ?_
 refine qal [0,1,2,3] [4] [(5,.v (.int .i16 (IntKind.i16.wrap v))),(7,.p 1 0)] hW21 hE42 fun a43 hE44=>?_
 refine qak (qao hW21 hE44 (oi:=1) (cs:=[.int .i16 (IntKind.i16.wrap v),.pointer none,.pointer none,.slice none 0 0,.int .i64 0,.map none]) kz fun w45 hF46 hW47 hE48=>?_)
 refine qaf ?_
 refine qbk hE48 hW47.cells (v:=.tuple #[]) kz ?_
 refine ⟨_,rfl,fun a49 hE50=>?_⟩
 have hE51:=(EnvOk.places (tb':=[⟨b1,0,[.int .i64 0,.slice none 0 0,.bool false,.slice none 0 0,.slice none 0 0],true⟩,⟨b15,0,[.int .i16 (IntKind.i16.wrap v),.pointer none,.pointer none,.slice none 0 0,.int .i64 0,.map none],true⟩]) hE50 (show Pl [⟨b1,0,[.int .i64 0,.slice none 0 0,.bool false,.slice none 0 0,.slice none 0 0],true⟩,⟨b15,0,[.int .i16 0,.pointer none,.pointer none,.slice none 0 0,.int .i64 0,.map none],true⟩] [⟨b1,0,[.int .i64 0,.slice none 0 0,.bool false,.slice none 0 0,.slice none 0 0],true⟩,⟨b15,0,[.int .i16 (IntKind.i16.wrap v),.pointer none,.pointer none,.slice none 0 0,.int .i64 0,.map none],true⟩] from ⟨rfl,rfl,⟨rfl,rfl,trivial⟩⟩)).pk (env':=[(11,.v (.tuple #[])),(1,.v (.slice A2 s.length c2)),(4,.p 0 0),(6,.p 1 0),(8,.p 1 0),(10,.v (.int .i16 (IntKind.i16.wrap v)))])
 refine qaf (qab ?_)
 refine wp_seq ?_
 refine qad [0,1,2,3,4] kz ?_
 refine qal [0,1] [2,3,4] [(4,.p 0 0),(6,.p 1 0),(12,.p 1 0),(13,.v (.slice A2 s.length c2))] hW47 hE51 fun a52 hE53=>?_
 have hW54:=hW47.addNil 5 1
 have hF55:=hW47.frNil 5 1
 refine qak (qbb hW54 hE53 (k:=0) (d:=14) (t:=22) (e:=5) (size:=1) (bytes:=1) (A:=none) (As:=A2) (m0:=0) (c:=0) (m:=s.length) (cs:=c2) (xs:=[]) (news:=bc s) kz kz rfl (hs_.move hW54.step nilM hW54.imm).src (hs_.move hW54.step nilM hW54.imm).cap (by first | omega | (simp only [List.length_nil]; omega) | (simp; omega)) fun A56 c57 a58 w59 hF60 hW61 hE62=>?_)
 have er63:(⟨A56,c57,5,1,0 + s.length,[] ++ bc s⟩:Rw) = brow A56 c57 5 s:=by rw [List.nil_append,Nat.zero_add]
 obtain ⟨hW64,hF66⟩:=hW61.rowEq 0 [brow A56 c57 5 s] er63
 have hE67:=EnvOk.pick hE62 (ks:=[4,6,12,13,14]) (env':=[(4,.p 0 0),(6,.p 1 0),(12,.p 1 0),(13,.v (.slice A2 s.length c2)),(14,.v (.slice A56 (0 + s.length) c57))]) kz
 have hE65:=hE67.cast (env':=[(4,.p 0 0),(6,.p 1 0),(12,.p 1 0),(13,.v (.slice A2 s.length c2)),(14,.v (.slice A56 s.length c57))]) (by simp only [List.length_append,List.length_cons,List.length_nil,Nat.zero_add])
 refine qak (qaU hE65 (f:=17) (vs:=[.pointer (some ⟨b15,0,none⟩),.slice A56 s.length c57]) (d:=15) (n':=8) kz Tryd.call17 Tryd.func17 rfl Tryd.ntmps17 kz fun a68 hE69=>?_)
 have hE70:=hE69.recast 0 (.v (.pointer (some ⟨b15,0,none⟩))) (.p 1 0) rfl rfl (Nat.le_of_ble_eq_true (n:=2) rfl)
 refine qas [(0,.p 1 0),(1,.v (.slice A56 s.length c57))] hW64 hE70 fun a71 hE72=>?_
 refine qad [0,1,2,3] kz ?_
 refine qal [0,1] [2,3] [(5,.p 1 0),(6,.v (.slice A56 s.length c57))] hW64 hE72 fun a73 hE74=>?_
 have ho75:=hW64.giveUp (G:=F) 0 [] (show _ = some (brow A56 c57 5 s) from rfl) (by omega)
 obtain ⟨hW76,hF77⟩:=hW64.cutR 0 []
 refine qak (qap hE74 (f:=28) (vs:=[.pointer (some ⟨b15,0,none⟩),.slice A56 s.length c57,.bool false]) (d:=7) kz Tryd.call28 (qby (IntKind.i16.wrap v) false s hl (Str.of hW76 1 rfl) ho75 (hgl.move hW76.step nilM hW76.imm) (qf0 1 rfl) hb) ?_)
 rintro e_ w78 ⟨rfl,⟨D79,hs80,hn91⟩,hst83⟩
 obtain ⟨hW84,hF85,hl86⟩:=hW76.wrote 1 [⟨b1,0,[.int .i64 0,.slice none 0 0,.bool false,.slice none 0 0,.slice none 0 0],true⟩,⟨b15,0,D79,true⟩] rfl hst83 hs80 rfl hn91
 refine ⟨_,rfl,fun a87 hE88=>?_⟩
 have hE89:=(EnvOk.places (tb':=[⟨b1,0,[.int .i64 0,.slice none 0 0,.bool false,.slice none 0 0,.slice none 0 0],true⟩,⟨b15,0,D79,true⟩]) hE88 (show Pl [⟨b1,0,[.int .i64 0,.slice none 0 0,.bool false,.slice none 0 0,.slice none 0 0],true⟩,⟨b15,0,[.int .i16 (IntKind.i16.wrap v),.pointer none,.pointer none,.slice none 0 0,.int .i64 0,.map none],true⟩] [⟨b1,0,[.int .i64 0,.slice none 0 0,.bool false,.slice none 0 0,.slice none 0 0],true⟩,⟨b15,0,D79,true⟩] from ⟨rfl,rfl,⟨rfl,rfl,trivial⟩⟩)).pk (env':=[(7,.v (.iface ue ve)),(5,.p 1 0),(6,.v (.slice A56 s.length c57))])
 refine qal [3] [] [(4,.v (.iface ue ve))] hW84 hE89 fun a92 hE93=>?_
 refine qaf (qab ?_)
 refine wp_ret ?_
 refine qaV hE93 hW84.cells (v:=.iface ue ve) kz ?_
 refine ⟨_,rfl,fun a94 hE95=>?_⟩
 have hE96:=(EnvOk.places (tb':=[⟨b1,0,[.int .i64 0,.slice none 0 0,.bool false,.slice none 0 0,.slice none 0 0],true⟩,⟨b15,0,D79,true⟩]) hE95 (show Pl [⟨b1,0,[.int .i64 0,.slice none 0 0,.bool false,.slice none 0 0,.slice none 0 0],true⟩,⟨b15,0,[.int .i16 (IntKind.i16.wrap v),.pointer none,.pointer none,.slice none 0 0,.int .i64 0,.map none],true⟩] [⟨b1,0,[.int .i64 0,.slice none 0 0,.bool false,.slice none 0 0,.slice none 0 0],true⟩,⟨b15,0,D79,true⟩] from ⟨rfl,rfl,⟨rfl,rfl,trivial⟩⟩)).pk (env':=[(15,.v (.iface ue ve)),(4,.p 0 0),(6,.p 1 0),(12,.p 1 0),(13,.v (.slice A2 s.length c2)),(14,.v (.slice A56 s.length c57))])
 refine qal [4] [] [(4,.p 0 0),(6,.p 1 0),(16,.v (.bool true))] hW84 hE96 fun a97 hE98=>?_
 refine qaf (qab ?_)
 refine qaO hE98 (b:=true) kz rfl ?_
 refine qad [0,1,2] kz ?_
 refine qal [0] [1,2] [(4,.p 0 0),(17,.v (.agg #[.int .i64 0,.slice none 0 0,.bool false,.slice none 0 0,.slice none 0 0]))] hW84 hE98 fun a99 hE100=>?_
 refine qak (qao hW84 hE100 (oi:=0) (cs:=[.int .i64 0,.slice none 0 0,.bool false,.slice none 0 0,.slice none 0 0]) kz fun w101 hF102 hW103 hE104=>?_)
 refine qal [2] [] [(4,.p 0 0),(5,.v (.bool false))] hW103 hE104 fun a105 hE106=>?_
 refine qaf (qab ?_)
 refine wp_ret ?_
 refine qaX ?_
 refine qaV hE106 hW103.cells (v:=.tuple #[.agg #[.int .i64 0,.slice none 0 0,.bool false,.slice none 0 0,.slice none 0 0],.bool false]) kz ?_
 exact ⟨_,rfl,TreeR.zero _ _,hW103.step⟩
set_option maxHeartbeats 4000000 in
theorem qb1 (v:Int) (s:Bs) (hl:s.length ≤ 1000) {ue:TypeId} {ve:Value} {A2:Option Addr} {c2:Nat} {w:World} {F:Nat → Nat → Prop} (hs_:Octs w F A2 c2 s) (hgl:AtF w F 0 0 [.iface ue ve]) (hb:(qau (IntKind.i16.wrap v) (false,s)).1 = false) :
  Calls Tryd.prog 6 #[.int .i64 v,.slice A2 s.length c2] w (fun e w'=>∃ cs,e = .returned (.tuple #[.agg cs.toArray,.bool true]) ∧ TreeR w' (Fp F w) cs (qba (IntKind.i16.wrap v) (false,s)) ∧ Step w w' Nil):=by
 refine enter (n:=20) Tryd.func6 rfl Tryd.ntmps6 kz fun a hE=>?_
 have hW:=WOk.start w Nil
 have hsm2:=Slots.small hs_
 refine qad [0,1] kz ?_
 refine qak (qaH hW hE (d:=4) (cs:=[.int .i64 0,.slice none 0 0,.bool false,.slice none 0 0,.slice none 0 0]) kz fun b1 a2 w3 hb4 hz5 hF6 hW7 hE8=>?_)
 refine qal [1] [] [(0,.v (.int .i64 v)),(1,.v (.slice A2 s.length c2)),(4,.p 0 0)] hW7 hE8 fun a9 hE10=>?_
 refine qaf (qab ?_)
 refine qad [0,1] kz ?_
 refine qak (qaU hE10 (f:=14) (vs:=[]) (d:=7) (n':=3) kz Tryd.call14 Tryd.func14 rfl Tryd.ntmps14 kz fun a11 hE12=>?_)
 refine qas [] hW7 hE12 fun a13 hE14=>?_
 refine qad [0] kz ?_
 refine qak (qaH hW7 hE14 (d:=1) (cs:=[.int .i16 0,.pointer none,.pointer none,.slice none 0 0,.int .i64 0,.map none]) kz fun b15 a16 w17 hb18 hz19 hF20 hW21 hE22=>?_)
 refine qaf (qab ?_)
 refine qad [0] kz ?_
 refine qak (qaU hE22 (f:=27) (vs:=[.pointer (some ⟨b15,0,none⟩)]) (d:=2) (n':=2) kz Tryd.call27 Tryd.func27 rfl Tryd.ntmps27 kz fun a23 hE24=>?_)
 have hE25:=hE24.recast 0 (.v (.pointer (some ⟨b15,0,none⟩))) (.p 1 0) rfl rfl (Nat.le_of_ble_eq_true (n:=2) rfl)
 refine wp_skip ?_
 refine qbk hE25 hW21.cells (v:=.tuple #[]) kz ?_
 refine ⟨_,rfl,fun a26 hE27=>?_⟩
 have hE28:=(EnvOk.places (tb':=[⟨b1,0,[.int .i64 0,.slice none 0 0,.bool false,.slice none 0 0,.slice none 0 0],true⟩,⟨b15,0,[.int .i16 0,.pointer none,.pointer none,.slice none 0 0,.int .i64 0,.map none],true⟩]) hE27 (show Pl [⟨b1,0,[.int .i64 0,.slice none 0 0,.bool false,.slice none 0 0,.slice none 0 0],true⟩,⟨b15,0,[.int .i16 0,.pointer none,.pointer none,.slice none 0 0,.int .i64 0,.map none],true⟩] [⟨b1,0,[.int .i64 0,.slice none 0 0,.bool false,.slice none 0 0,.slice none 0 0],true⟩,⟨b15,0,[.int .i16 0,.pointer none,.pointer none,.slice none 0 0,.int .i64 0,.map none],true⟩] from ⟨rfl,rfl,⟨rfl,rfl,trivial⟩⟩)).pk (env':=[(2,.v (.tuple #[])),(1,.p 1 0)])
 refine qaf (qab ?_)
 refine qas [(0,.p 1 0)] hW21 hE28 fun a29 hE30=>?_
 refine wp_ret ?_
 refine qaV hE30 hW21.cells (v:=.pointer (some ⟨b15,0,none⟩)) kz ?_
 refine ⟨_,rfl,fun a31 hE32=>?_⟩
 have hE33:=(EnvOk.places (tb':=[⟨b1,0,[.int .i64 0,.slice none 0 0,.bool false,.slice none 0 0,.slice none 0 0],true⟩,⟨b15,0,[.int .i16 0,.pointer none,.pointer none,.slice none 0 0,.int .i64 0,.map none],true⟩]) hE32 (show Pl [⟨b1,0,[.int .i64 0,.slice none 0 0,.bool false,.slice none 0 0,.slice none 0 0],true⟩] [⟨b1,0,[.int .i64 0,.slice none 0 0,.bool false,.slice none 0 0,.slice none 0 0],true⟩,⟨b15,0,[.int .i16 0,.pointer none,.pointer none,.slice none 0 0,.int .i64 0,.map none],true⟩] from ⟨rfl,rfl,trivial⟩)).pk (env':=[(7,.v (.pointer (some ⟨b15,0,none⟩))),(0,.v (.int .i64 v)),(1,.v (.slice A2 s.length c2)),(4,.p 0 0)])
 have hE34:=hE33.recast 7 (.v (.pointer (some ⟨b15,0,none⟩))) (.p 1 0) rfl rfl (Nat.le_of_ble_eq_true (n:=2) rfl)
 have hE35:=hE34.pick (ks:=[0,1,4,7]) (env':=[(0,.v (.int .i64 v)),(1,.v (.slice A2 s.length c2)),(4,.p 0 0),(7,.p 1 0)]) kz
 refine qal [1] [] [(0,.v (.int .i64 v)),(1,.v (.slice A2 s.length c2)),(4,.p 0 0),(6,.p 1 0)] hW21 hE35 fun a36 hE37=>?_
 refine qaf (qab ?_)
 refine qad [0,1,2,3] kz ?_
 refine qal [0,1,2] [3] [(1,.v (.slice A2 s.length c2)),(4,.p 0 0),(6,.p 1 0),(8,.p 1 0),(10,.v (.int .i16 (IntKind.i16.wrap v)))] hW21 hE37 fun a38 hE39=>?_
 refine qak (qaU hE39 (f:=16) (vs:=[.pointer (some ⟨b15,0,none⟩),.int .i16 (IntKind.i16.wrap v)]) (d:=11) (n':=8) kz Tryd.call16 Tryd.func16 rfl Tryd.ntmps16 kz fun a40 hE41=>?_)
 have hE42:=hE41.recast 0 (.v (.pointer (some ⟨b15,0,none⟩))) (.p 1 0) rfl rfl (Nat.le_of_ble_eq_true (n:=2) rfl)
 refine qaF [0,1,2,3,4] kz ?_
 refine qal [0,1,2,3] [4] [(5,.v (.int .i16 (IntKind.i16.wrap v))),(7,.p 1 0)] hW21 hE42 fun a43 hE44=>?_
 refine qak (qao hW21 hE44 (oi:=1) (cs:=[.int .i16 (IntKind.i16.wrap v),.pointer none,.pointer none,.slice none 0 0,.int .i64 0,.map none]) kz fun w45 hF46 hW47 hE48=>?_)
 refine qaf ?_
 refine qbk hE48 hW47.cells (v:=.tuple #[]) kz ?_
 refine ⟨_,rfl,fun a49 hE50=>?_⟩
 have hE51:=(EnvOk.places (tb':=[⟨b1,0,[.int .i64 0,.slice none 0 0,.bool false,.slice none 0 0,.slice none 0 0],true⟩,⟨b15,0,[.int .i16 (IntKind.i16.wrap v),.pointer none,.pointer none,.slice none 0 0,.int .i64 0,.map none],true⟩]) hE50 (show Pl [⟨b1,0,[.int .i64 0,.slice none 0 0,.bool false,.slice none 0 0,.slice none 0 0],true⟩,⟨b15,0,[.int .i16 0,.pointer none,.pointer none,.slice none 0 0,.int .i64 0,.map none],true⟩] [⟨b1,0,[.int .i64 0,.slice none 0 0,.bool false,.slice none 0 0,.slice none 0 0],true⟩,⟨b15,0,[.int .i16 (IntKind.i16.wrap v),.pointer none,.pointer none,.slice none 0 0,.int .i64 0,.map none],true⟩] from ⟨rfl,rfl,⟨rfl,rfl,trivial⟩⟩)).pk (env':=[(11,.v (.tuple #[])),(1,.v (.slice A2 s.length c2)),(4,.p 0 0),(6,.p 1 0),(8,.p 1 0),(10,.v (.int .i16 (IntKind.i16.wrap v)))])
 refine qaf (qab ?_)
 refine wp_seq ?_
 refine qad [0,1,2,3,4] kz ?_
 refine qal [0,1] [2,3,4] [(4,.p 0 0),(6,.p 1 0),(12,.p 1 0),(13,.v (.slice A2 s.length c2))] hW47 hE51 fun a52 hE53=>?_
 have hW54:=hW47.addNil 5 1
 have hF55:=hW47.frNil 5 1
 refine qak (qbb hW54 hE53 (k:=0) (d:=14) (t:=22) (e:=5) (size:=1) (bytes:=1) (A:=none) (As:=A2) (m0:=0) (c:=0) (m:=s.length) (cs:=c2) (xs:=[]) (news:=bc s) kz kz rfl (hs_.move hW54.step nilM hW54.imm).src (hs_.move hW54.step nilM hW54.imm).cap (by first | omega | (simp only [List.length_nil]; omega) | (simp; omega)) fun A56 c57 a58 w59 hF60 hW61 hE62=>?_)
 have er63:(⟨A56,c57,5,1,0 + s.length,[] ++ bc s⟩:Rw) = brow A56 c57 5 s:=by rw [List.nil_append,Nat.zero_add]
 obtain ⟨hW64,hF66⟩:=hW61.rowEq 0 [brow A56 c57 5 s] er63
 have hE67:=EnvOk.pick hE62 (ks:=[4,6,12,13,14]) (env':=[(4,.p 0 0),(6,.p 1 0),(12,.p 1 0),(13,.v (.slice A2 s.length c2)),(14,.v (.slice A56 (0 + s.length) c57))]) kz
 have hE65:=hE67.cast (env':=[(4,.p 0 0),(6,.p 1 0),(12,.p 1 0),(13,.v (.slice A2 s.length c2)),(14,.v (.slice A56 s.length c57))]) (by simp only [List.length_append,List.length_cons,List.length_nil,Nat.zero_add])
 refine qak (qaU hE65 (f:=17) (vs:=[.pointer (some ⟨b15,0,none⟩),.slice A56 s.length c57]) (d:=15) (n':=8) kz Tryd.call17 Tryd.func17 rfl Tryd.ntmps17 kz fun a68 hE69=>?_)
 have hE70:=hE69.recast 0 (.v (.pointer (some ⟨b15,0,none⟩))) (.p 1 0) rfl rfl (Nat.le_of_ble_eq_true (n:=2) rfl)
 refine qas [(0,.p 1 0),(1,.v (.slice A56 s.length c57))] hW64 hE70 fun a71 hE72=>?_
 refine qad [0,1,2,3] kz ?_
 refine qal [0,1] [2,3] [(5,.p 1 0),(6,.v (.slice A56 s.length c57))] hW64 hE72 fun a73 hE74=>?_
 have ho75:=hW64.giveUp (G:=F) 0 [] (show _ = some (brow A56 c57 5 s) from rfl) (by omega)
 obtain ⟨hW76,hF77⟩:=hW64.cutR 0 []
 refine qak (qap hE74 (f:=28) (vs:=[.pointer (some ⟨b15,0,none⟩),.slice A56 s.length c57,.bool false]) (d:=7) kz Tryd.call28 (qbz (IntKind.i16.wrap v) false s hl (Str.of hW76 1 rfl) ho75 (hgl.move hW76.step nilM hW76.imm) (qf0 1 rfl) hb) ?_)
 rintro e_ w78 ⟨D79,rfl,hs80,hk81,hv82,hst83⟩
 obtain ⟨hW84,hF85,hl86⟩:=hW76.wrote 1 [⟨b1,0,[.int .i64 0,.slice none 0 0,.bool false,.slice none 0 0,.slice none 0 0],true⟩,⟨b15,0,[.int .i16 (IntKind.i16.wrap v),.pointer ((D79.f 0).A),.pointer ((D79.f 1).A),.slice ((D79.f 2).A) ((D79.f 2).l) ((D79.f 2).c),.int .i64 ((D79.f 3).n),.map D79.m],true⟩] rfl hst83 hs80
 have hk90:=qa9 _ (Step.refl _ Nil) nilM hl86 hk81
 refine ⟨_,rfl,fun a87 hE88=>?_⟩
 have hE89:=(EnvOk.places (tb':=[⟨b1,0,[.int .i64 0,.slice none 0 0,.bool false,.slice none 0 0,.slice none 0 0],true⟩,⟨b15,0,[.int .i16 (IntKind.i16.wrap v),.pointer ((D79.f 0).A),.pointer ((D79.f 1).A),.slice ((D79.f 2).A) ((D79.f 2).l) ((D79.f 2).c),.int .i64 ((D79.f 3).n),.map D79.m],true⟩]) hE88 (show Pl [⟨b1,0,[.int .i64 0,.slice none 0 0,.bool false,.slice none 0 0,.slice none 0 0],true⟩,⟨b15,0,[.int .i16 (IntKind.i16.wrap v),.pointer none,.pointer none,.slice none 0 0,.int .i64 0,.map none],true⟩] [⟨b1,0,[.int .i64 0,.slice none 0 0,.bool false,.slice none 0 0,.slice none 0 0],true⟩,⟨b15,0,[.int .i16 (IntKind.i16.wrap v),.pointer ((D79.f 0).A),.pointer ((D79.f 1).A),.slice ((D79.f 2).A) ((D79.f 2).l) ((D79.f 2).c),.int .i64 ((D79.f 3).n),.map D79.m],true⟩] from ⟨rfl,rfl,⟨rfl,rfl,trivial⟩⟩)).pk (env':=[(7,.v (.nilIface)),(5,.p 1 0),(6,.v (.slice A56 s.length c57))])
 refine qal [3] [] [(4,.v (.nilIface))] hW84 hE89 fun a92 hE93=>?_
 refine qaf (qab ?_)
 refine wp_ret ?_
 refine qaV hE93 hW84.cells (v:=.nilIface) kz ?_
 refine ⟨_,rfl,fun a94 hE95=>?_⟩
 have hE96:=(EnvOk.places (tb':=[⟨b1,0,[.int .i64 0,.slice none 0 0,.bool false,.slice none 0 0,.slice none 0 0],true⟩,⟨b15,0,[.int .i16 (IntKind.i16.wrap v),.pointer ((D79.f 0).A),.pointer ((D79.f 1).A),.slice ((D79.f 2).A) ((D79.f 2).l) ((D79.f 2).c),.int .i64 ((D79.f 3).n),.map D79.m],true⟩]) hE95 (show Pl [⟨b1,0,[.int .i64 0,.slice none 0 0,.bool false,.slice none 0 0,.slice none 0 0],true⟩,⟨b15,0,[.int .i16 (IntKind.i16.wrap v),.pointer none,.pointer none,.slice none 0 0,.int .i64 0,.map none],true⟩] [⟨b1,0,[.int .i64 0,.slice none 0 0,.bool false,.slice none 0 0,.slice none 0 0],true⟩,⟨b15,0,[.int .i16 (IntKind.i16.wrap v),.pointer ((D79.f 0).A),.pointer ((D79.f 1).A),.slice ((D79.f 2).A) ((D79.f 2).l) ((D79.f 2).c),.int .i64 ((D79.f 3).n),.map D79.m],true⟩] from ⟨rfl,rfl,⟨rfl,rfl,trivial⟩⟩)).pk (env':=[(15,.v (.nilIface)),(4,.p 0 0),(6,.p 1 0),(12,.p 1 0),(13,.v (.slice A2 s.length c2)),(14,.v (.slice A56 s.length c57))])
 refine qal [4] [] [(4,.p 0 0),(6,.p 1 0),(16,.v (.bool false))] hW84 hE96 fun a97 hE98=>?_
 refine qaf (qab ?_)
 refine qam hE98 (b:=false) kz rfl ?_
 refine wp_skip ?_
 refine qab ?_
 refine qad [0,1,2,3] kz ?_
 refine qal [0] [1,2,3] [(4,.p 0 0),(18,.p 1 0)] hW84 hE98 fun a99 hE100=>?_
 have hE101:=hE100.recast 18 (.p 1 0) (.v (.pointer (some ⟨b15,0,none⟩))) rfl rfl trivial
 have hE102:=hE101.pk (env':=[(4,.p 0 0),(18,.v (.pointer (some ⟨b15,0,none⟩)))])
 have hat103:=WOk.strOut (G:=F) [⟨b1,0,[.int .i64 0,.slice none 0 0,.bool false,.slice none 0 0,.slice none 0 0],true⟩] hW84
 obtain ⟨hE104,hW105,hF106⟩:=hW84.cutB hE102 1 [⟨b1,0,[.int .i64 0,.slice none 0 0,.bool false,.slice none 0 0,.slice none 0 0],true⟩] [(4,.p 0 0),(18,.v (.pointer (some ⟨b15,0,none⟩)))]
 have hk107:=qa9 _ hF106.step immM hF106.to' hk90
 refine qak (qap hE104 (f:=18) (vs:=[.pointer (some ⟨b15,0,none⟩)]) (d:=19) kz Tryd.call18 (qbC (IntKind.i16.wrap v) D79 b15 0 _ _ hat103 hk107) ?_)
 rintro e_ w111 ⟨cs110,rfl,hr109,hs108⟩
 have hr112:=hr109.move (Step.refl _ Nil) nilM (hW105.laid (G:=F) hs108)
 obtain ⟨n113,s114,b115,l116,u117,A118,c119,A120,c121,A122,c123,xs124,ht130,hcs125,h126,h127,h128,h129⟩:=hr112.open_
 rw [hcs125] at hr112
 have hsm131:=h126.small
 have hsm132:=h127.small
 rw [hcs125]
 refine ⟨_,rfl,fun a133 hE134=>?_⟩
 have hW135:=hW105.next_nil hs108
 have hF136:=hW105.frN hs108
 refine qak (qao hW135 hE134 (oi:=0) (cs:=[.int .i64 n113,.slice A118 s114.length c119,.bool b115,.slice A120 l116.length c121,.slice A122 u117.length c123]) kz fun w137 hF138 hW139 hE140=>?_)
 refine qal [3] [] [(4,.p 0 0),(5,.v (.bool true))] hW139 hE140 fun a141 hE142=>?_
 refine qaf (qab ?_)
 refine wp_ret ?_
 refine qaV hE142 hW139.cells (v:=.tuple #[.agg #[.int .i64 n113,.slice A118 s114.length c119,.bool b115,.slice A120 l116.length c121,.slice A122 u117.length c123],.bool true]) kz ?_
 rw [← hv82]
 exact ⟨_,rfl,(show TreeR _ (Imm F w w137 [⟨b1,0,[.int .i64 n113,.slice A118 s114.length c119,.bool b115,.slice A120 l116.length c121,.slice A122 u117.length c123],true⟩] []) _ (qaW D79) from (hr112.move hF138.step immM hF138.to')).move (Step.refl _ Nil) nilM qbs,hW139.step⟩
set_option maxHeartbeats 4000000 in
theorem qbW (v:Int) (s:Bs) (hl:s.length ≤ 1000) {ue:TypeId} {ve:Value} {A2:Option Addr} {c2:Nat} {w:World} {F:Nat → Nat → Prop} (hs_:Octs w F A2 c2 s) (hgl:AtF w F 0 0 [.iface ue ve]) (hb:(qau (IntKind.i16.wrap v) (false,s)).1 = true) :
  Calls Tryd.prog 8 #[.int .i64 v,.slice A2 s.length c2] w (fun e w'=>∃ cs,e = .returned (.tuple #[.agg cs.toArray,.bool false]) ∧ TreeR w' (Fp F w) cs (.zero) ∧ Step w w' Nil):=by
 refine enter (n:=20) Tryd.func8 rfl Tryd.ntmps8 kz fun a hE=>?_
 have hW:=WOk.start w Nil
 have hsm2:=Slots.small hs_
 refine qad [0,1] kz ?_
 refine qak (qaH hW hE (d:=4) (cs:=[.int .i64 0,.slice none 0 0,.bool false,.slice none 0 0,.slice none 0 0]) kz fun b1 a2 w3 hb4 hz5 hF6 hW7 hE8=>?_)
 refine qal [1] [] [(0,.v (.int .i64 v)),(1,.v (.slice A2 s.length c2)),(4,.p 0 0)] hW7 hE8 fun a9 hE10=>?_
 refine qaf (qab ?_)
 refine qad [0,1] kz ?_
 refine qak (qaU hE10 (f:=14) (vs:=[]) (d:=7) (n':=3) kz Tryd.call14 Tryd.func14 rfl Tryd.ntmps14 kz fun a11 hE12=>?_)
 refine qas [] hW7 hE12 fun a13 hE14=>?_
 refine qad [0] kz ?_
 refine qak (qaH hW7 hE14 (d:=1) (cs:=[.int .i16 0,.pointer none,.pointer none,.slice none 0 0,.int .i64 0,.map none]) kz fun b15 a16 w17 hb18 hz19 hF20 hW21 hE22=>?_)
 refine qaf (qab ?_)
 refine qad [0] kz ?_
 refine qak (qaU hE22 (f:=27) (vs:=[.pointer (some ⟨b15,0,none⟩)]) (d:=2) (n':=2) kz Tryd.call27 Tryd.func27 rfl Tryd.ntmps27 kz fun a23 hE24=>?_)
 have hE25:=hE24.recast 0 (.v (.pointer (some ⟨b15,0,none⟩))) (.p 1 0) rfl rfl (Nat.le_of_ble_eq_true (n:=2) rfl)
 refine wp_skip ?_
 refine qbk hE25 hW21.cells (v:=.tuple #[]) kz ?_
 refine ⟨_,rfl,fun a26 hE27=>?_⟩
 have hE28:=(EnvOk.places (tb':=[⟨b1,0,[.int .i64 0,.slice none 0 0,.bool false,.slice none 0 0,.slice none 0 0],true⟩,⟨b15,0,[.int .i16 0,.pointer none,.pointer none,.slice none 0 0,.int .i64 0,.map none],true⟩]) hE27 (show Pl [⟨b1,0,[.int .i64 0,.slice none 0 0,.bool false,.slice none 0 0,.slice none 0 0],true⟩,⟨b15,0,[.int .i16 0,.pointer none,.pointer none,.slice none 0 0,.int .i64 0,.map none],true⟩] [⟨b1,0,[.int .i64 0,.slice none 0 0,.bool false,.slice none 0 0,.slice none 0 0],true⟩,⟨b15,0,[.int .i16 0,.pointer none,.pointer none,.slice none 0 0,.int .i64 0,.map none],true⟩] from ⟨rfl,rfl,⟨rfl,rfl,trivial⟩⟩)).pk (env':=[(2,.v (.tuple #[])),(1,.p 1 0)])
 refine qaf (qab ?_)
 refine qas [(0,.p 1 0)] hW21 hE28 fun a29 hE30=>?_
 refine wp_ret ?_
 refine qaV hE30 hW21.cells (v:=.pointer (some ⟨b15,0,none⟩)) kz ?_
 refine ⟨_,rfl,fun a31 hE32=>?_⟩
 have hE33:=(EnvOk.places (tb':=[⟨b1,0,[.int .i64 0,.slice none 0 0,.bool false,.slice none 0 0,.slice none 0 0],true⟩,⟨b15,0,[.int .i16 0,.pointer none,.pointer none,.slice none 0 0,.int .i64 0,.map none],true⟩]) hE32 (show Pl [⟨b1,0,[.int .i64 0,.slice none 0 0,.bool false,.slice none 0 0,.slice none 0 0],true⟩] [⟨b1,0,[.int .i64 0,.slice none 0 0,.bool false,.slice none 0 0,.slice none 0 0],true⟩,⟨b15,0,[.int .i16 0,.pointer none,.pointer none,.slice none 0 0,.int .i64 0,.map none],true⟩] from ⟨rfl,rfl,trivial⟩)).pk (env':=[(7,.v (.pointer (some ⟨b15,0,none⟩))),(0,.v (.int .i64 v)),(1,.v (.slice A2 s.length c2)),(4,.p 0 0)])
 have hE34:=hE33.recast 7 (.v (.pointer (some ⟨b15,0,none⟩))) (.p 1 0) rfl rfl (Nat.le_of_ble_eq_true (n:=2) rfl)
 have hE35:=hE34.pick (ks:=[0,1,4,7]) (env':=[(0,.v (.int .i64 v)),(1,.v (.slice A2 s.length c2)),(4,.p 0 0),(7,.p 1 0)]) kz
 refine qal [1] [] [(0,.v (.int .i64 v)),(1,.v (.slice A2 s.length c2)),(4,.p 0 0),(6,.p 1 0)] hW21 hE35 fun a36 hE37=>?_
 refine qaf (qab ?_)
 refine qad [0,1,2,3] kz ?_
 refine qal [0,1,2] [3] [(1,.v (.slice A2 s.length c2)),(4,.p 0 0),(6,.p 1 0),(8,.p 1 0),(10,.v (.int .i16 (IntKind.i16.wrap v)))] hW21 hE37 fun a38 hE39=>?_
 refine qak (qaU hE39 (f:=16) (vs:=[.pointer (some ⟨b15,0,none⟩),.int .i16 (IntKind.i16.wrap v)]) (d:=11) (n':=8) kz Tryd.call16 Tryd.func16 rfl Tryd.ntmps16 kz fun a40 hE41=>?_)
 have hE42:=hE41.recast 0 (.v (.pointer (some ⟨b15,0,none⟩))) (.p 1 0) rfl rfl (Nat.le_of_ble_eq_true (n:=2) rfl)
 refine qaF [0,1,2,3,4] kz ?_
 refine qal [0,1,2,3] [4] [(5,.v (.int .i16 (IntKind.i16.wrap v))),(7,.p 1 0)] hW21 hE42 fun a43 hE44=>?_
 refine qak (qao hW21 hE44 (oi:=1) (cs:=[.int .i16 (IntKind.i16.wrap v),.pointer none,.pointer none,.slice none 0 0,.int .i64 0,.map none]) kz fun w45 hF46 hW47 hE48=>?_)
 refine qaf ?_
 refine qbk hE48 hW47.cells (v:=.tuple #[]) kz ?_
 refine ⟨_,rfl,fun a49 hE50=>?_⟩
 have hE51:=(EnvOk.places (tb':=[⟨b1,0,[.int .i64 0,.slice none 0 0,.bool false,.slice none 0 0,.slice none 0 0],true⟩,⟨b15,0,[.int .i16 (IntKind.i16.wrap v),.pointer none,.pointer none,.slice none 0 0,.int .i64 0,.map none],true⟩]) hE50 (show Pl [⟨b1,0,[.int .i64 0,.slice none 0 0,.bool false,.slice none 0 0,.slice none 0 0],true⟩,⟨b15,0,[.int .i16 0,.pointer none,.pointer none,.slice none 0 0,.int .i64 0,.map none],true⟩] [⟨b1,0,[.int .i64 0,.slice none 0 0,.bool false,.slice none 0 0,.slice none 0 0],true⟩,⟨b15,0,[.int .i16 (IntKind.i16.wrap v),.pointer none,.pointer none,.slice none 0 0,.int .i64 0,.map none],true⟩] from ⟨rfl,rfl,⟨rfl,rfl,trivial⟩⟩)).pk (env':=[(11,.v (.tuple #[])),(1,.v (.slice A2 s.length c2)),(4,.p 0 0),(6,.p 1 0),(8,.p 1 0),(10,.v (.int .i16 (IntKind.i16.wrap v)))])
 refine qaf (qab ?_)
 refine wp_seq ?_
 refine qad [0,1,2,3,4] kz ?_
 refine qal [0,1] [2,3,4] [(4,.p 0 0),(6,.p 1 0),(12,.p 1 0),(13,.v (.slice A2 s.length c2))] hW47 hE51 fun a52 hE53=>?_
 have hW54:=hW47.addNil 5 1
 have hF55:=hW47.frNil 5 1
 refine qak (qbb hW54 hE53 (k:=0) (d:=14) (t:=22) (e:=5) (size:=1) (bytes:=1) (A:=none) (As:=A2) (m0:=0) (c:=0) (m:=s.length) (cs:=c2) (xs:=[]) (news:=bc s) kz kz rfl (hs_.move hW54.step nilM hW54.imm).src (hs_.move hW54.step nilM hW54.imm).cap (by first | omega | (simp only [List.length_nil]; omega) | (simp; omega)) fun A56 c57 a58 w59 hF60 hW61 hE62=>?_)
 have er63:(⟨A56,c57,5,1,0 + s.length,[] ++ bc s⟩:Rw) = brow A56 c57 5 s:=by rw [List.nil_append,Nat.zero_add]
 obtain ⟨hW64,hF66⟩:=hW61.rowEq 0 [brow A56 c57 5 s] er63
 have hE67:=EnvOk.pick hE62 (ks:=[4,6,12,13,14]) (env':=[(4,.p 0 0),(6,.p 1 0),(12,.p 1 0),(13,.v (.slice A2 s.length c2)),(14,.v (.slice A56 (0 + s.length) c57))]) kz
 have hE65:=hE67.cast (env':=[(4,.p 0 0),(6,.p 1 0),(12,.p 1 0),(13,.v (.slice A2 s.length c2)),(14,.v (.slice A56 s.length c57))]) (by simp only [List.length_append,List.length_cons,List.length_nil,Nat.zero_add])
 refine qak (qaU hE65 (f:=19) (vs:=[.pointer (some ⟨b15,0,none⟩),.slice A56 s.length c57]) (d:=15) (n':=8) kz Tryd.call19 Tryd.func19 rfl Tryd.ntmps19 kz fun a68 hE69=>?_)
 have hE70:=hE69.recast 0 (.v (.pointer (some ⟨b15,0,none⟩))) (.p 1 0) rfl rfl (Nat.le_of_ble_eq_true (n:=2) rfl)
 refine qas [(0,.p 1 0),(1,.v (.slice A56 s.length c57))] hW64 hE70 fun a71 hE72=>?_
 refine qad [0,1,2,3] kz ?_
 refine qal [0,1] [2,3] [(5,.p 1 0),(6,.v (.slice A56 s.length c57))] hW64 hE72 fun a73 hE74=>?_
 have ho75:=hW64.giveUp (G:=F) 0 [] (show _ = some (brow A56 c57 5 s) from rfl) (by omega)
 obtain ⟨hW76,hF77⟩:=hW64.cutR 0 []
 refine qak (qap hE74 (f:=28) (vs:=[.pointer (some ⟨b15,0,none⟩),.slice A56 s.length c57,.bool true]) (d:=7) kz Tryd.call28 (qby (IntKind.i16.wrap v) true s hl (Str.of hW76 1 rfl) ho75 (hgl.move hW76.step nilM hW76.imm) (qf0 1 rfl) hb) ?_)
 rintro e_ w78 ⟨rfl,⟨D79,hs80,hn91⟩,hst83⟩
 obtain ⟨hW84,hF85,hl86⟩:=hW76.wrote 1 [⟨b1,0,[.int .i64 0,.slice none 0 0,.bool false,.slice none 0 0,.slice none 0 0],true⟩,⟨b15,0,D79,true⟩] rfl hst83 hs80 rfl hn91
 refine ⟨_,rfl,fun a87 hE88=>?_⟩
 have hE89:=(EnvOk.places (tb':=[⟨b1,0,[.int .i64 0,.slice none 0 0,.bool false,.slice none 0 0,.slice none 0 0],true⟩,⟨b15,0,D79,true⟩]) hE88 (show Pl [⟨b1,0,[.int .i64 0,.slice none 0 0,.bool false,.slice none 0 0,.slice none 0 0],true⟩,⟨b15,0,[.int .i16 (IntKind.i16.wrap v),.pointer none,.pointer none,.slice none 0 0,.int .i64 0,.map none],true⟩] [⟨b1,0,[.int .i64 0,.slice none 0 0,.bool false,.slice none 0 0,.slice none 0 0],true⟩,⟨b15,0,D79,true⟩] from ⟨rfl,rfl,⟨rfl,rfl,trivial⟩⟩)).pk (env':=[(7,.v (.iface ue ve)),(5,.p 1 0),(6,.v (.slice A56 s.length c57))])
 refine qal [3] [] [(4,.v (.iface ue ve))] hW84 hE89 fun a92 hE93=>?_
 refine qaf (qab ?_)
 refine wp_ret ?_
 refine qaV hE93 hW84.cells (v:=.iface ue ve) kz ?_
 refine ⟨_,rfl,fun a94 hE95=>?_⟩
 have hE96:=(EnvOk.places (tb':=[⟨b1,0,[.int .i64 0,.slice none 0 0,.bool false,.slice none 0 0,.slice none 0 0],true⟩,⟨b15,0,D79,true⟩]) hE95 (show Pl [⟨b1,0,[.int .i64 0,.slice none 0 0,.bool false,.slice none 0 0,.slice none 0 0],true⟩,⟨b15,0,[.int .i16 (IntKind.i16.wrap v),.pointer none,.pointer none,.slice none 0 0,.int .i64 0,.map none],true⟩] [⟨b1,0,[.int .i64 0,.slice none 0 0,.bool false,.slice none 0 0,.slice none 0 0],true⟩,⟨b15,0,D79,true⟩] from ⟨rfl,rfl,⟨rfl,rfl,trivial⟩⟩)).pk (env':=[(15,.v (.iface ue ve)),(4,.p 0 0),(6,.p 1 0),(12,.p 1 0),(13,.v (.slice A2 s.length c2)),(14,.v (.slice A56 s.length c57))])
 refine qal [4] [] [(4,.p 0 0),(6,.p 1 0),(16,.v (.bool true))] hW84 hE96 fun a97 hE98=>?_
 refine qaf (qab ?_)
 refine qaO hE98 (b:=true) kz rfl ?_
 refine qad [0,1,2] kz ?_
 refine qal [0] [1,2] [(4,.p 0 0),(17,.v (.agg #[.int .i64 0,.slice none 0 0,.bool false,.slice none 0 0,.slice none 0 0]))] hW84 hE98 fun a99 hE100=>?_
 refine qak (qao hW84 hE100 (oi:=0) (cs:=[.int .i64 0,.slice none 0 0,.bool false,.slice none 0 0,.slice none 0 0]) kz fun w101 hF102 hW103 hE104=>?_)
 refine qal [2] [] [(4,.p 0 0),(5,.v (.bool false))] hW103 hE104 fun a105 hE106=>?_
 refine qaf (qab ?_)
 refine wp_ret ?_
 refine qaX ?_
 refine qaV hE106 hW103.cells (v:=.tuple #[.agg #[.int .i64 0,.slice none 0 0,.bool false,.slice none 0 0,.slice none 0 0],.bool false]) kz ?_
 exact ⟨_,rfl,TreeR.zero _ _,hW103.step⟩
set_option maxHeartbeats 4000000 in
theorem qbX (v:Int) (s:Bs) (hl:s.length ≤ 1000) {ue:TypeId} {ve:Value} {A2:Option Addr} {c2:Nat} {w:World} {F:Nat → Nat → Prop} (hs_:Octs w F A2 c2 s) (hgl:AtF w F 0 0 [.iface ue ve]) (hb:(qau (IntKind.i16.wrap v) (false,s)).1 = false) :
  Calls Tryd.prog 8 #[.int .i64 v,.slice A2 s.length c2] w (fun e w'=>∃ cs,e = .returned (.tuple #[.agg cs.toArray,.bool true]) ∧ TreeR w' (Fp F w) cs (qba (IntKind.i16.wrap v) (false,s)) ∧ Step w w' Nil):=by
 refine enter (n:=20) Tryd.func8 rfl Tryd.ntmps8 kz fun a hE=>?_
 have hW:=WOk.start w Nil
 have hsm2:=Slots.small hs_
 refine qad [0,1] kz ?_
 refine qak (qaH hW hE (d:=4) (cs:=[.int .i64 0,.slice none 0 0,.bool false,.slice none 0 0,.slice none 0 0]) kz fun b1 a2 w3 hb4 hz5 hF6 hW7 hE8=>?_)
 refine qal [1] [] [(0,.v (.int .i64 v)),(1,.v (.slice A2 s.length c2)),(4,.p 0 0)] hW7 hE8 fun a9 hE10=>?_
 refine qaf (qab ?_)
 refine qad [0,1] kz ?_
 refine qak (qaU hE10 (f:=14) (vs:=[]) (d:=7) (n':=3) kz Tryd.call14 Tryd.func14 rfl Tryd.ntmps14 kz fun a11 hE12=>?_)
 refine qas [] hW7 hE12 fun a13 hE14=>?_
 refine qad [0] kz ?_
 refine qak (qaH hW7 hE14 (d:=1) (cs:=[.int .i16 0,.pointer none,.pointer none,.slice none 0 0,.int .i64 0,.map none]) kz fun b15 a16 w17 hb18 hz19 hF20 hW21 hE22=>?_)
 refine qaf (qab ?_)
 refine qad [0] kz ?_
 refine qak (qaU hE22 (f:=27) (vs:=[.pointer (some ⟨b15,0,none⟩)]) (d:=2) (n':=2) kz Tryd.call27 Tryd.func27 rfl Tryd.ntmps27 kz fun a23 hE24=>?_)
 have hE25:=hE24.recast 0 (.v (.pointer (some ⟨b15,0,none⟩))) (.p 1 0) rfl rfl (Nat.le_of_ble_eq_true (n:=2) rfl)
 refine wp_skip ?_
 refine qbk hE25 hW21.cells (v:=.tuple #[]) kz ?_
 refine ⟨_,rfl,fun a26 hE27=>?_⟩
 have hE28:=(EnvOk.places (tb':=[⟨b1,0,[.int .i64 0,.slice none 0 0,.bool false,.slice none 0 0,.slice none 0 0],true⟩,⟨b15,0,[.int .i16 0,.pointer none,.pointer none,.slice none 0 0,.int .i64 0,.map none],true⟩]) hE27 (show Pl [⟨b1,0,[.int .i64 0,.slice none 0 0,.bool false,.slice none 0 0,.slice none 0 0],true⟩,⟨b15,0,[.int .i16 0,.pointer none,.pointer none,.slice none 0 0,.int .i64 0,.map none],true⟩] [⟨b1,0,[.int .i64 0,.slice none 0 0,.bool false,.slice none 0 0,.slice none 0 0],true⟩,⟨b15,0,[.int .i16 0,.pointer none,.pointer none,.slice none 0 0,.int .i64 0,.map none],true⟩] from ⟨rfl,rfl,⟨rfl,rfl,trivial⟩⟩)).pk (env':=[(2,.v (.tuple #[])),(1,.p 1 0)])
 refine qaf (qab ?_)
 refine qas [(0,.p 1 0)] hW21 hE28 fun a29 hE30=>?_
 refine wp_ret ?_
 refine qaV hE30 hW21.cells (v:=.pointer (some ⟨b15,0,none⟩)) kz ?_
 refine ⟨_,rfl,fun a31 hE32=>?_⟩
 have hE33:=(EnvOk.places (tb':=[⟨b1,0,[.int .i64 0,.slice none 0 0,.bool false,.slice none 0 0,.slice none 0 0],true⟩,⟨b15,0,[.int .i16 0,.pointer none,.pointer none,.slice none 0 0,.int .i64 0,.map none],true⟩]) hE32 (show Pl [⟨b1,0,[.int .i64 0,.slice none 0 0,.bool false,.slice none 0 0,.slice none 0 0],true⟩] [⟨b1,0,[.int .i64 0,.slice none 0 0,.bool false,.slice none 0 0,.slice none 0 0],true⟩,⟨b15,0,[.int .i16 0,.pointer none,.pointer none,.slice none 0 0,.int .i64 0,.map none],true⟩] from ⟨rfl,rfl,trivial⟩)).pk (env':=[(7,.v (.pointer (some ⟨b15,0,none⟩))),(0,.v (.int .i64 v)),(1,.v (.slice A2 s.length c2)),(4,.p 0 0)])
 have hE34:=hE33.recast 7 (.v (.pointer (some ⟨b15,0,none⟩))) (.p 1 0) rfl rfl (Nat.le_of_ble_eq_true (n:=2) rfl)
 have hE35:=hE34.pick (ks:=[0,1,4,7]) (env':=[(0,.v (.int .i64 v)),(1,.v (.slice A2 s.length c2)),(4,.p 0 0),(7,.p 1 0)]) kz
 refine qal [1] [] [(0,.v (.int .i64 v)),(1,.v (.slice A2 s.length c2)),(4,.p 0 0),(6,.p 1 0)] hW21 hE35 fun a36 hE37=>?_
 refine qaf (qab ?_)
 refine qad [0,1,2,3] kz ?_
 refine qal [0,1,2] [3] [(1,.v (.slice A2 s.length c2)),(4,.p 0 0),(6,.p 1 0),(8,.p 1 0),(10,.v (.int .i16 (IntKind.i16.wrap v)))] hW21 hE37 fun a38 hE39=>?_
 refine qak (qaU hE39 (f:=16) (vs:=[.pointer (some ⟨b15,0,none⟩),.int .i16 (IntKind.i16.wrap v)]) (d:=11) (n':=8) kz Tryd.call16 Tryd.func16 rfl Tryd.ntmps16 kz fun a40 hE41=>?_)
 have hE42:=hE41.recast 0 (.v (.pointer (some ⟨b15,0,none⟩))) (.p 1 0) rfl rfl (Nat.le_of_ble_eq_true (n:=2) rfl)
 refine qaF [0,1,2,3,4] kz ?_
 refine qal [0,1,2,3] [4] [(5,.v (.int .i16 (IntKind.i16.wrap v))),(7,.p 1 0)] hW21 hE42 fun a43 hE44=>?_
 refine qak (qao hW21 hE44 (oi:=1) (cs:=[.int .i16 (IntKind.i16.wrap v),.pointer none,.pointer none,.slice none 0 0,.int .i64 0,.map none]) kz fun w45 hF46 hW47 hE48=>?_)
 refine qaf ?_
 refine qbk hE48 hW47.cells (v:=.tuple #[]) kz ?_
 refine ⟨_,rfl,fun a49 hE50=>?_⟩
 have hE51:=(EnvOk.places (tb':=[⟨b1,0,[.int .i64 0,.slice none 0 0,.bool false,.slice none 0 0,.slice none 0 0],true⟩,⟨b15,0,[.int .i16 (IntKind.i16.wrap v),.pointer none,.pointer none,.slice none 0 0,.int .i64 0,.map none],true⟩]) hE50 (show Pl [⟨b1,0,[.int .i64 0,.slice none 0 0,.bool false,.slice none 0 0,.slice none 0 0],true⟩,⟨b15,0,[.int .i16 0,.pointer none,.pointer none,.slice none 0 0,.int .i64 0,.map none],true⟩] [⟨b1,0,[.int .i64 0,.slice none 0 0,.bool false,.slice none 0 0,.slice none 0 0],true⟩,⟨b15,0,[.int .i16 (IntKind.i16.wrap v),.pointer none,.pointer none,.slice none 0 0,.int .i64 0,.map none],true⟩] from ⟨rfl,rfl,⟨rfl,rfl,trivial⟩⟩)).pk (env':=[(11,.v (.tuple #[])),(1,.v (.slice A2 s.length c2)),(4,.p 0 0),(6,.p 1 0),(8,.p 1 0),(10,.v (.int .i16 (IntKind.i16.wrap v)))])
 refine qaf (qab ?_)
 refine wp_seq ?_
 refine qad [0,1,2,3,4] kz ?_
 refine qal [0,1] [2,3,4] [(4,.p 0 0),(6,.p 1 0),(12,.p 1 0),(13,.v (.slice A2 s.length c2))] hW47 hE51 fun a52 hE53=>?_
 have hW54:=hW47.addNil 5 1
 have hF55:=hW47.frNil 5 1
 refine qak (qbb hW54 hE53 (k:=0) (d:=14) (t:=22) (e:=5) (size:=1) (bytes:=1) (A:=none) (As:=A2) (m0:=0) (c:=0) (m:=s.length) (cs:=c2) (xs:=[]) (news:=bc s) kz kz rfl (hs_.move hW54.step nilM hW54.imm).src (hs_.move hW54.step nilM hW54.imm).cap (by first | omega | (simp only [List.length_nil]; omega) | (simp; omega)) fun A56 c57 a58 w59 hF60 hW61 hE62=>?_)
 have er63:(⟨A56,c57,5,1,0 + s.length,[] ++ bc s⟩:Rw) = brow A56 c57 5 s:=by rw [List.nil_append,Nat.zero_add]
 obtain ⟨hW64,hF66⟩:=hW61.rowEq 0 [brow A56 c57 5 s] er63
 have hE67:=EnvOk.pick hE62 (ks:=[4,6,12,13,14]) (env':=[(4,.p 0 0),(6,.p 1 0),(12,.p 1 0),(13,.v (.slice A2 s.length c2)),(14,.v (.slice A56 (0 + s.length) c57))]) kz
 have hE65:=hE67.cast (env':=[(4,.p 0 0),(6,.p 1 0),(12,.p 1 0),(13,.v (.slice A2 s.length c2)),(14,.v (.slice A56 s.length c57))]) (by simp only [List.length_append,List.length_cons,List.length_nil,Nat.zero_add])
 refine qak (qaU hE65 (f:=19) (vs:=[.pointer (some ⟨b15,0,none⟩),.slice A56 s.length c57]) (d:=15) (n':=8) kz Tryd.call19 Tryd.func19 rfl Tryd.ntmps19 kz fun a68 hE69=>?_)
 have hE70:=hE69.recast 0 (.v (.pointer (some ⟨b15,0,none⟩))) (.p 1 0) rfl rfl (Nat.le_of_ble_eq_true (n:=2) rfl)
 refine qas [(0,.p 1 0),(1,.v (.slice A56 s.length c57))] hW64 hE70 fun a71 hE72=>?_
 refine qad [0,1,2,3] kz ?_
 refine qal [0,1] [2,3] [(5,.p 1 0),(6,.v (.slice A56 s.length c57))] hW64 hE72 fun a73 hE74=>?_
 have ho75:=hW64.giveUp (G:=F) 0 [] (show _ = some (brow A56 c57 5 s) from rfl) (by omega)
 obtain ⟨hW76,hF77⟩:=hW64.cutR 0 []
 refine qak (qap hE74 (f:=28) (vs:=[.pointer (some ⟨b15,0,none⟩),.slice A56 s.length c57,.bool true]) (d:=7) kz Tryd.call28 (qbz (IntKind.i16.wrap v) true s hl (Str.of hW76 1 rfl) ho75 (hgl.move hW76.step nilM hW76.imm) (qf0 1 rfl) hb) ?_)
 rintro e_ w78 ⟨D79,rfl,hs80,hk81,hv82,hst83⟩
 obtain ⟨hW84,hF85,hl86⟩:=hW76.wrote 1 [⟨b1,0,[.int .i64 0,.slice none 0 0,.bool false,.slice none 0 0,.slice none 0 0],true⟩,⟨b15,0,[.int .i16 (IntKind.i16.wrap v),.pointer ((D79.f 0).A),.pointer ((D79.f 1).A),.slice ((D79.f 2).A) ((D79.f 2).l) ((D79.f 2).c),.int .i64 ((D79.f 3).n),.map D79.m],true⟩] rfl hst83 hs80
 have hk90:=qa9 _ (Step.refl _ Nil) nilM hl86 hk81
 refine ⟨_,rfl,fun a87 hE88=>?_⟩
 have hE89:=(EnvOk.places (tb':=[⟨b1,0,[.int .i64 0,.slice none 0 0,.bool false,.slice none 0 0,.slice none 0 0],true⟩,⟨b15,0,[.int .i16 (IntKind.i16.wrap v),.pointer ((D79.f 0).A),.pointer ((D79.f 1).A),.slice ((D79.f 2).A) ((D79.f 2).l) ((D79.f 2).c),.int .i64 ((D79.f 3).n),.map D79.m],true⟩]) hE88 (show Pl [⟨b1,0,[.int .i64 0,.slice none 0 0,.bool false,.slice none 0 0,.slice none 0 0],true⟩,⟨b15,0,[.int .i16 (IntKind.i16.wrap v),.pointer none,.pointer none,.slice none 0 0,.int .i64 0,.map none],true⟩] [⟨b1,0,[.int .i64 0,.slice none 0 0,.bool false,.slice none 0 0,.slice none 0 0],true⟩,⟨b15,0,[.int .i16 (IntKind.i16.wrap v),.pointer ((D79.f 0).A),.pointer ((D79.f 1).A),.slice ((D79.f 2).A) ((D79.f 2).l) ((D79.f 2).c),.int .i64 ((D79.f 3).n),.map D79.m],true⟩] from ⟨rfl,rfl,⟨rfl,rfl,trivial⟩⟩)).pk (env':=[(7,.v (.nilIface)),(5,.p 1 0),(6,.v (.slice A56 s.length c57))])
 refine qal [3] [] [(4,.v (.nilIface))] hW84 hE89 fun a92 hE93=>?_
 refine qaf (qab ?_)
 refine wp_ret ?_
 refine qaV hE93 hW84.cells (v:=.nilIface) kz ?_
 refine ⟨_,rfl,fun a94 hE95=>?_⟩
 have hE96:=(EnvOk.places (tb':=[⟨b1,0,[.int .i64 0,.slice none 0 0,.bool false,.slice none 0 0,.slice none 0 0],true⟩,⟨b15,0,[.int .i16 (IntKind.i16.wrap v),.pointer ((D79.f 0).A),.pointer ((D79.f 1).A),.slice ((D79.f 2).A) ((D79.f 2).l) ((D79.f 2).c),.int .i64 ((D79.f 3).n),.map D79.m],true⟩]) hE95 (show Pl [⟨b1,0,[.int .i64 0,.slice none 0 0,.bool false,.slice none 0 0,.slice none 0 0],true⟩,⟨b15,0,[.int .i16 (IntKind.i16.wrap v),.pointer none,.pointer none,.slice none 0 0,.int .i64 0,.map none],true⟩] [⟨b1,0,[.int .i64 0,.slice none 0 0,.bool false,.slice none 0 0,.slice none 0 0],true⟩,⟨b15,0,[.int .i16 (IntKind.i16.wrap v),.pointer ((D79.f 0).A),.pointer ((D79.f 1).A),.slice ((D79.f 2).A) ((D79.f 2).l) ((D79.f 2).c),.int .i64 ((D79.f 3).n),.map D79.m],true⟩] from ⟨rfl,rfl,⟨rfl,rfl,trivial⟩⟩)).pk (env':=[(15,.v (.nilIface)),(4,.p 0 0),(6,.p 1 0),(12,.p 1 0),(13,.v (.slice A2 s.length c2)),(14,.v (.slice A56 s.length c57))])
 refine qal [4] [] [(4,.p 0 0),(6,.p 1 0),(16,.v (.bool false))] hW84 hE96 fun a97 hE98=>?_
 refine qaf (qab ?_)
 refine qam hE98 (b:=false) kz rfl ?_
 refine wp_skip ?_
 refine qab ?_
 refine qad [0,1,2,3] kz ?_
 refine qal [0] [1,2,3] [(4,.p 0 0),(18,.p 1 0)] hW84 hE98 fun a99 hE100=>?_
 have hE101:=hE100.recast 18 (.p 1 0) (.v (.pointer (some ⟨b15,0,none⟩))) rfl rfl trivial
 have hE102:=hE101.pk (env':=[(4,.p 0 0),(18,.v (.pointer (some ⟨b15,0,none⟩)))])
 have hat103:=WOk.strOut (G:=F) [⟨b1,0,[.int .i64 0,.slice none 0 0,.bool false,.slice none 0 0,.slice none 0 0],true⟩] hW84
 obtain ⟨hE104,hW105,hF106⟩:=hW84.cutB hE102 1 [⟨b1,0,[.int .i64 0,.slice none 0 0,.bool false,.slice none 0 0,.slice none 0 0],true⟩] [(4,.p 0 0),(18,.v (.pointer (some ⟨b15,0,none⟩)))]
 have hk107:=qa9 _ hF106.step immM hF106.to' hk90
 refine qak (qap hE104 (f:=18) (vs:=[.pointer (some ⟨b15,0,none⟩)]) (d:=19) kz Tryd.call18 (qbC (IntKind.i16.wrap v) D79 b15 0 _ _ hat103 hk107) ?_)
 rintro e_ w111 ⟨cs110,rfl,hr109,hs108⟩
 have hr112:=hr109.move (Step.refl _ Nil) nilM (hW105.laid (G:=F) hs108)
 obtain ⟨n113,s114,b115,l116,u117,A118,c119,A120,c121,A122,c123,xs124,ht130,hcs125,h126,h127,h128,h129⟩:=hr112.open_
 rw [hcs125] at hr112
 have hsm131:=h126.small
 have hsm132:=h127.small
 rw [hcs125]
 refine ⟨_,rfl,fun a133 hE134=>?_⟩
 have hW135:=hW105.next_nil hs108
 have hF136:=hW105.frN hs108
 refine qak (qao hW135 hE134 (oi:=0) (cs:=[.int .i64 n113,.slice A118 s114.length c119,.bool b115,.slice A120 l116.length c121,.slice A122 u117.length c123]) kz fun w137 hF138 hW139 hE140=>?_)
 refine qal [3] [] [(4,.p 0 0),(5,.v (.bool true))] hW139 hE140 fun a141 hE142=>?_
 refine qaf (qab ?_)
 refine wp_ret ?_
 refine qaV hE142 hW139.cells (v:=.tuple #[.agg #[.int .i64 n113,.slice A118 s114.length c119,.bool b115,.slice A120 l116.length c121,.slice A122 u117.length c123],.bool true]) kz ?_
 rw [← hv82]
 exact ⟨_,rfl,(show TreeR _ (Imm F w w137 [⟨b1,0,[.int .i64 n113,.slice A118 s114.length c119,.bool b115,.slice A120 l116.length c121,.slice A122 u117.length c123],true⟩] []) _ (qaW D79) from (hr112.move hF138.step immM hF138.to')).move (Step.refl _ Nil) nilM qbs,hW139.step⟩
end Go.Proofs.YtmpejmiiphddhaaDoorR.ME
namespace Go.Proofs.YtmpejmiiphddhaaDoorR.ME
open Go
open Go.RowKit
set_option linter.unusedVariables false
set_option linter.unusedSimpArgs false
set_option maxRecDepth 20000
def qhH (m:Nat):Prop:=∀ (ct1 ct2:List Value) (t:Tree) (w:World) (F:Nat → Nat → Prop),TreeR w F ct1 t → TreeR w F ct2 t → t.depth ≤ m →
  Calls Tryd.prog 9 #[.agg ct1.toArray,.agg ct2.toArray] w (qcn w (.bool true))
set_option maxHeartbeats 4000000 in
theorem qfs {m:Nat} (hg:qhH m) (ct1 ct2:List Value) (t:Tree) (w:World) (F:Nat → Nat → Prop) (h1:TreeR w F ct1 t) (h2:TreeR w F ct2 t) (hd:t.depth ≤ m + 1) :
  Calls Tryd.prog 9 #[.agg ct1.toArray,.agg ct2.toArray] w (qcn w (.bool true)):=by
 obtain ⟨n1,s2,b3,l4,u5,A6,c7,A8,c9,A10,c11,xs12,rfl,rfl,h14,h15,h16,h17⟩:=h1.open_
 have hsm19:=h14.small
 have hsm20:=h15.small
 obtain ⟨n',s',b',l',u',A1',c1',A2',c2',A3',c3',xs',e',rfl,g1,g2,g3,g4⟩:=h2.open_
 obtain ⟨q1,q2,q3,q4,q5⟩:=Tree.mk.inj e'
 subst q1 q2 q3 q4 q5
 obtain ⟨cs21,h22,h23⟩:=h17.ex
 have hsm24:=h22.small
 obtain ⟨cs25,h26,h27⟩:=g4.ex
 have hsm28:=h26.small
 refine enter (n:=100) Tryd.func9 rfl Tryd.ntmps9 kz fun a hE=>?_
 have hW:=WOk.start w Nil
 refine qad [0,1,2] kz ?_
 refine qak (qda hW hE (d:=2) (cs:=[.int .i64 n1,.slice A6 s2.length c7,.bool b3,.slice A8 l4.length c9,.slice A10 u5.length c11]) kz fun b29 a30 w31 hb32 hz33 hF34 hW35 hE36=>?_)
 refine qak (qda hW35 hE36 (d:=3) (cs:=[.int .i64 n1,.slice A1' s2.length c1',.bool b3,.slice A2' l4.length c2',.slice A3' u5.length c3']) kz fun b37 a38 w39 hb40 hz41 hF42 hW43 hE44=>?_)
 refine qal [2] [] [(2,.p 0 0),(3,.p 1 0)] hW43 hE44 fun a45 hE46=>?_
 refine qaf (qab ?_)
 refine wp_seq ?_
 refine qad [0,1,2,3,4,5,6,7,8,9,10,11,12,13,14,15,16,17,18,19,20,21,22,23,24,25,26,27,28,29,30,31,32,33,34,35,36,37] kz ?_
 refine qal [0,1,2,3,4,5] [6,7,8,9,10,11,12,13,14,15,16,17,18,19,20,21,22,23,24,25,26,27,28,29,30,31,32,33,34,35,36,37] [(2,.p 0 0),(3,.p 1 0),(12,.v (.bool (n1 != n1)))] hW43 hE46 fun a47 hE48=>?_
 have hc49:(n1 != n1) = false:=by simp
 have hE50:=hE48.cast (env':=[(2,.p 0 0),(3,.p 1 0),(12,.v (.bool false))]) (by rw [hc49])
 refine qal [6,7,8,9,10,11,12] [13,14,15,16,17,18,19,20,21,22,23,24,25,26,27,28,29,30,31,32,33,34,35,36,37] [(2,.p 0 0),(3,.p 1 0),(19,.v (.bool (!(b3 == b3))))] hW43 hE50 fun a51 hE52=>?_
 have hc53:(!(b3 == b3)) = false:=by simp
 have hE54:=hE52.cast (env':=[(2,.p 0 0),(3,.p 1 0),(19,.v (.bool false))]) (by rw [hc53])
 refine qal [13,14,15,16] [17,18,19,20,21,22,23,24,25,26,27,28,29,30,31,32,33,34,35,36,37] [(2,.p 0 0),(3,.p 1 0),(19,.v (.bool false)),(21,.v (.slice A6 s2.length c7)),(23,.v (.slice A1' s2.length c1'))] hW43 hE54 fun a55 hE56=>?_
 refine qak (qap hE56 (f:=20) (vs:=[.slice A6 s2.length c7,.slice A1' s2.length c1']) (d:=24) kz Tryd.call20 (qig _ _ _ _ s2 s2 _ _ (h14.move hW43.step nilM hW43.imm) (g1.move hW43.step nilM hW43.imm)) ?_)
 rintro e_ w58 ⟨rfl,hs57⟩
 refine ⟨_,rfl,fun a59 hE60=>?_⟩
 have hW61:=hW43.next_nil hs57
 have hF62:=hW43.frN hs57
 refine qal [18,19,20] [21,22,23,24,25,26,27,28,29,30,31,32,33,34,35,36,37] [(2,.p 0 0),(3,.p 1 0),(27,.v (.bool (!(decide (s2 = s2)))))] hW61 hE60 fun a63 hE64=>?_
 refine (Bool.eq_false_or_eq_true (!(decide (s2 = s2)))).elim (fun hc65=>?_) (fun hc65=>?_)
 ·
  have hE67:=hE64.cast (env':=[(2,.p 0 0),(3,.p 1 0),(27,.v (.bool true))]) (by rw [hc65])
  refine qal [21,22,23,24,25,26,27,28,29,30,31,32,33,34,35,36,37] [] [(2,.p 0 0),(3,.p 1 0),(44,.v (.bool true))] hW61 hE67 fun a68 hE69=>?_
  refine qaf (qab ?_)
  refine qaO hE69 (b:=true) kz rfl ?_
  refine qas [(4,.v (.bool false))] hW61 hE69 fun a70 hE71=>?_
  refine wp_ret ?_
  refine qaX ?_
  refine qaV hE71 hW61.cells (v:=.bool false) kz ?_
  exfalso; simp_all
 have hE73:=hE64.cast (env':=[(2,.p 0 0),(3,.p 1 0),(27,.v (.bool false))]) (by rw [hc65])
 refine qal [21,22,23,24,25,26,27,28,29] [30,31,32,33,34,35,36,37] [(2,.p 0 0),(3,.p 1 0),(36,.v (.bool (((l4.length:Nat):Int) != ((l4.length:Nat):Int))))] hW61 hE73 fun a74 hE75=>?_
 have hc76:(((l4.length:Nat):Int) != ((l4.length:Nat):Int)) = false:=by simp
 have hE77:=hE75.cast (env':=[(2,.p 0 0),(3,.p 1 0),(36,.v (.bool false))]) (by rw [hc76])
 refine qal [30,31,32,33,34,35,36,37] [] [(2,.p 0 0),(3,.p 1 0),(44,.v (.bool (((u5.length:Nat):Int) != ((u5.length:Nat):Int))))] hW61 hE77 fun a78 hE79=>?_
 refine qaf (qab ?_)
 refine qam hE79 (b:=((u5.length:Nat):Int) != ((u5.length:Nat):Int)) kz (by simp) ?_
 refine wp_skip ?_
 refine qab ?_
 refine wp_seq ?_
 refine qas [(2,.p 0 0),(3,.p 1 0),(47,.v (.int .i64 ((l4.length:Nat):Int))),(48,.v (.int .i64 0))] hW61 hE79 fun a80 hE81=>?_
 refine wp_block ?_
 refine wp_loop_ghost (fun n_ a_ w_=>∃ (k:Nat),n_ = l4.length - k ∧ k ≤ l4.length ∧ LInv hW61 100 [⟨b29,0,[.int .i64 n1,.slice A6 s2.length c7,.bool b3,.slice A8 l4.length c9,.slice A10 u5.length c11],true⟩,⟨b37,0,[.int .i64 n1,.slice A1' s2.length c1',.bool b3,.slice A2' l4.length c2',.slice A3' u5.length c3'],true⟩] [] [(2,.p 0 0),(3,.p 1 0),(47,.v (.int .i64 ((l4.length:Nat):Int))),(48,.v (.int .i64 ((k:Nat):Int)))] a_ w_) (l4.length) ⟨0,by omega,by omega,hE81.pk,hW61,Fr.refl _ _ _⟩ ?_
 rintro n82 a83 w84 ⟨k,hn87,hk88,hE85,hW86,hF89⟩
 refine qas [(2,.p 0 0),(3,.p 1 0),(47,.v (.int .i64 ((l4.length:Nat):Int))),(48,.v (.int .i64 ((k:Nat):Int))),(49,.v (.bool (decide (((k:Nat):Int) < ((l4.length:Nat):Int)))))] hW86 hE85 fun a90 hE91=>?_
 refine wp_seq ?_
 refine qaY hE91 (b:=decide (((k:Nat):Int) < ((l4.length:Nat):Int))) kz (fun hc92=>?_) (fun hc92=>?_)
 ·
  have hf93:=of_decide_eq_true hc92
  refine wp_skip ?_
  refine qab ?_
  refine wp_seq ?_
  refine wp_block ?_
  refine qas [(2,.p 0 0),(3,.p 1 0),(5,.v (.int .i64 ((k:Nat):Int))),(47,.v (.int .i64 ((l4.length:Nat):Int))),(48,.v (.int .i64 ((k:Nat):Int)))] hW86 hE91 fun a94 hE95=>?_
  refine qa4 12 kz hW86 fun w96 hF97 hW98 hT99=>?_
  refine qaK [0,1,2,5,6,7] [(2,.p 0 0),(3,.p 1 0),(47,.v (.int .i64 ((l4.length:Nat):Int))),(48,.v (.int .i64 ((k:Nat):Int))),(52,.v (.slice A8 l4.length c9)),(53,.v (.int .i64 ((k:Nat):Int))),(57,.v (.slice A2' l4.length c2')),(58,.v (.int .i64 ((k:Nat):Int)))] 6 (qac (qah (qac (qac (qah (qac qag)))))) (fun _ h=>h.cells) hT99 hE95 fun a100 hE101=>?_
  obtain ⟨b102,o103,hA104,hl105,hat106⟩:=Slots.get h15 (i:=k) (by omega)
  obtain ⟨x107,he108⟩:∃ x,l4[k]? = some x:=⟨_,List.getElem?_eq_getElem (by omega)⟩
  have hr109:=h16 k x107 he108
  obtain ⟨n110,s111,b112,l113,u114,A115,c116,A117,c118,A119,c120,xs121,rfl,hcs122,h123,h124,h125,h126⟩:=hr109.open_
  rw [hcs122] at hr109
  have hsm128:=h123.small
  have hsm129:=h124.small
  rw [hcs122] at hat106
  refine qaA hE101 (i:=3) (t:=32) (A:=A8) (m:=l4.length) (q:=((k:Nat):Int)) (d:=54) kz (e:=35) (size:=5) (bytes:=88) kz hA104 rfl (by omega) kz kz (qac (qah (qac (qac (qah (qac qag)))))) hT99 fun a130 hE131=>?_
  refine qaM hE131 (i:=4) (t:=35) (b:=b102) (o:=o103 + k * 5) (d:=55) kz (cs:=[.int .i64 n110,.slice A115 s111.length c116,.bool b112,.slice A117 l113.length c118,.slice A119 u114.length c120]) (v:=.agg #[.int .i64 n110,.slice A115 s111.length c116,.bool b112,.slice A117 l113.length c118,.slice A119 u114.length c120]) kz (fun w' h'=>(AtF.move hat106 (TT.step0 hW98 h') nilM qaI).at_) kz kz (qac (qah (qac (qac (qah (qac qag)))))) hT99 fun a132 hE133=>?_
  obtain ⟨b134,o135,hA136,hl137,hat138⟩:=Slots.get g2 (i:=k) (by omega)
  obtain ⟨x139,he140⟩:∃ x,l4[k]? = some x:=⟨_,List.getElem?_eq_getElem (by omega)⟩
  have hr141:=g3 k x139 he140
  obtain ⟨n142,s143,b144,l145,u146,A147,c148,A149,c150,A151,c152,xs153,rfl,hcs154,h155,h156,h157,h158⟩:=hr141.open_
  rw [hcs154] at hr141
  have hsm160:=h155.small
  have hsm161:=h156.small
  rw [hcs154] at hat138
  refine qaA hE133 (i:=8) (t:=32) (A:=A2') (m:=l4.length) (q:=((k:Nat):Int)) (d:=59) kz (e:=35) (size:=5) (bytes:=88) kz hA136 rfl (by omega) kz kz (qac (qah (qac (qac (qah (qac qag)))))) hT99 fun a162 hE163=>?_
  refine qaM hE163 (i:=9) (t:=35) (b:=b134) (o:=o135 + k * 5) (d:=60) kz (cs:=[.int .i64 n142,.slice A147 s143.length c148,.bool b144,.slice A149 l145.length c150,.slice A151 u146.length c152]) (v:=.agg #[.int .i64 n142,.slice A147 s143.length c148,.bool b144,.slice A149 l145.length c150,.slice A151 u146.length c152]) kz (fun w' h'=>(AtF.move hat138 (TT.step0 hW98 h') nilM qaI).at_) kz kz (qac (qah (qac (qac (qah (qac qag)))))) hT99 fun a164 hE165=>?_
  refine qaG (i:=10) kz (qap hE165 (f:=9) (vs:=[.agg #[.int .i64 n110,.slice A115 s111.length c116,.bool b112,.slice A117 l113.length c118,.slice A119 u114.length c120],.agg #[.int .i64 n142,.slice A147 s143.length c148,.bool b144,.slice A149 l145.length c150,.slice A151 u146.length c152]]) (d:=61) kz Tryd.call9 (hg _ _ _ _ _ (hr109.move hW98.step nilM hW98.imm) (by rw [Option.some.inj (he108.symm.trans he140)]; exact (hr141.move hW98.step nilM hW98.imm)) (by have h_:=qeL he108; rw [qdw] at hd; omega)) ?_)
  rintro e_ w167 ⟨rfl,hs166⟩
  refine ⟨_,rfl,fun a168 hE169=>?_⟩
  have hW170:=hW98.next_nil hs166
  have hF171:=hW98.frN hs166
  have hT172:=TT.ofW hF171 hW170
  refine ⟨fun _=>hT172,?_⟩
  refine qaK [11] [(2,.p 0 0),(3,.p 1 0),(47,.v (.int .i64 ((l4.length:Nat):Int))),(48,.v (.int .i64 ((k:Nat):Int))),(62,.v (.bool false))] 0 (qac (qah (qac (qac (qah (qac qag)))))) (fun _ h=>h.cells) hT172 hE169 fun a173 hE174=>?_
  refine qaS kz ?_ _
  refine qab ?_
  refine qam hE174 (b:=false) kz rfl ?_
  refine wp_skip ?_
  refine qa8 ?_
  refine qab ?_
  refine qaF [0,1] kz ?_
  refine qal [0,1] [] [(2,.p 0 0),(3,.p 1 0),(47,.v (.int .i64 ((l4.length:Nat):Int))),(48,.v (.int .i64 (IntKind.i64.wrap (((k:Nat):Int) + 1))))] hW170 hE174 fun a175 hE176=>?_
  refine qaf (qab ?_)
  have he177:IntKind.i64.wrap (((k:Nat):Int) + 1) = ((k + 1:Nat):Int):=qbK (by omega)
  rw [he177] at hE176
  exact ⟨l4.length - (k + 1),by omega,k + 1,rfl,by omega,hE176.pk,hW170,((hF89.trans hF97).trans hF171)⟩
 have hf178:=of_decide_eq_false hc92
 refine wp_exit ?_
 refine qaR ?_
 refine qaR ?_
 refine qbn ?_
 refine qab ?_
 refine wp_seq ?_
 refine qas [(2,.p 0 0),(3,.p 1 0),(66,.v (.int .i64 ((u5.length:Nat):Int))),(67,.v (.int .i64 0))] hW86 hE91 fun a179 hE180=>?_
 refine wp_block ?_
 refine wp_loop_ghost (fun n_ a_ w_=>∃ (q:Nat),n_ = u5.length - q ∧ q ≤ u5.length ∧ LInv hW86 100 [⟨b29,0,[.int .i64 n1,.slice A6 s2.length c7,.bool b3,.slice A8 l4.length c9,.slice A10 u5.length c11],true⟩,⟨b37,0,[.int .i64 n1,.slice A1' s2.length c1',.bool b3,.slice A2' l4.length c2',.slice A3' u5.length c3'],true⟩] [] [(2,.p 0 0),(3,.p 1 0),(66,.v (.int .i64 ((u5.length:Nat):Int))),(67,.v (.int .i64 ((q:Nat):Int)))] a_ w_) (u5.length) ⟨0,by omega,by omega,hE180.pk,hW86,Fr.refl _ _ _⟩ ?_
 rintro n181 a182 w183 ⟨q,hn186,hk187,hE184,hW185,hF188⟩
 refine qas [(2,.p 0 0),(3,.p 1 0),(66,.v (.int .i64 ((u5.length:Nat):Int))),(67,.v (.int .i64 ((q:Nat):Int))),(68,.v (.bool (decide (((q:Nat):Int) < ((u5.length:Nat):Int)))))] hW185 hE184 fun a189 hE190=>?_
 refine wp_seq ?_
 refine qaY hE190 (b:=decide (((q:Nat):Int) < ((u5.length:Nat):Int))) kz (fun hc191=>?_) (fun hc191=>?_)
 ·
  have hf192:=of_decide_eq_true hc191
  refine wp_skip ?_
  refine qab ?_
  refine wp_seq ?_
  refine wp_block ?_
  refine qas [(2,.p 0 0),(3,.p 1 0),(6,.v (.int .i64 ((q:Nat):Int))),(66,.v (.int .i64 ((u5.length:Nat):Int))),(67,.v (.int .i64 ((q:Nat):Int)))] hW185 hE190 fun a193 hE194=>?_
  refine qa4 29 kz hW185 fun w195 hF196 hW197 hT198=>?_
  refine qaK [0,1,2,6,7,8] [(2,.p 0 0),(3,.p 1 0),(6,.v (.int .i64 ((q:Nat):Int))),(66,.v (.int .i64 ((u5.length:Nat):Int))),(67,.v (.int .i64 ((q:Nat):Int))),(71,.v (.slice A10 u5.length c11)),(72,.v (.int .i64 ((q:Nat):Int))),(77,.v (.slice A3' u5.length c3')),(78,.v (.int .i64 ((q:Nat):Int)))] 23 (qac (qah (qac (qac (qah (qac qag)))))) (fun _ h=>h.cells) hT198 hE194 fun a199 hE200=>?_
  obtain ⟨b201,o202,hA203,hl204,hat205⟩:=Slots.get h22 (i:=q) (by omega)
  obtain ⟨⟨k206,s207⟩,he208⟩:∃ x,u5[q]? = some x:=⟨_,List.getElem?_eq_getElem (by omega)⟩
  obtain ⟨⟨A209,c210,hcs211,hb212⟩,h213,h214⟩:=h23 q k206 s207 he208
  rw [hcs211] at hat205
  refine qaA hE200 (i:=3) (t:=33) (A:=A10) (m:=u5.length) (q:=((q:Nat):Int)) (d:=73) kz (e:=50) (size:=2) (bytes:=32) kz hA203 rfl (by omega) kz kz (qac (qah (qac (qac (qah (qac qag)))))) hT198 fun a215 hE216=>?_
  refine qaK [4] [(2,.p 0 0),(3,.p 1 0),(6,.v (.int .i64 ((q:Nat):Int))),(66,.v (.int .i64 ((u5.length:Nat):Int))),(67,.v (.int .i64 ((q:Nat):Int))),(74,.v (.pointer (some ⟨b201,o202 + q * 2,none⟩))),(77,.v (.slice A3' u5.length c3')),(78,.v (.int .i64 ((q:Nat):Int)))] 21 (qac (qah (qac (qac (qah (qac qag)))))) (fun _ h=>h.cells) hT198 hE216 fun a217 hE218=>?_
  refine qaM hE218 (i:=5) (t:=48) (b:=b201) (o:=o202 + q * 2) (d:=75) kz (cs:=[.int .u32 k206]) (v:=.int .u32 k206) kz (fun w' h'=>(At.drop (AtF.move hat205 (TT.step0 hW197 h') nilM qaI).at_ 0 1)) kz kz (qac (qah (qac (qac (qah (qac qag)))))) hT198 fun a219 hE220=>?_
  obtain ⟨b221,o222,hA223,hl224,hat225⟩:=Slots.get h26 (i:=q) (by omega)
  obtain ⟨⟨k226,s227⟩,he228⟩:∃ x,u5[q]? = some x:=⟨_,List.getElem?_eq_getElem (by omega)⟩
  obtain ⟨⟨A229,c230,hcs231,hb232⟩,h233,h234⟩:=h27 q k226 s227 he228
  rw [hcs231] at hat225
  refine qaA hE220 (i:=9) (t:=33) (A:=A3') (m:=u5.length) (q:=((q:Nat):Int)) (d:=79) kz (e:=50) (size:=2) (bytes:=32) kz hA223 rfl (by omega) kz kz (qac (qah (qac (qac (qah (qac qag)))))) hT198 fun a235 hE236=>?_
  refine qaK [10] [(2,.p 0 0),(3,.p 1 0),(6,.v (.int .i64 ((q:Nat):Int))),(66,.v (.int .i64 ((u5.length:Nat):Int))),(67,.v (.int .i64 ((q:Nat):Int))),(75,.v (.int .u32 k206)),(80,.v (.pointer (some ⟨b221,o222 + q * 2,none⟩)))] 18 (qac (qah (qac (qac (qah (qac qag)))))) (fun _ h=>h.cells) hT198 hE236 fun a237 hE238=>?_
  refine qaM hE238 (i:=11) (t:=48) (b:=b221) (o:=o222 + q * 2) (d:=81) kz (cs:=[.int .u32 k226]) (v:=.int .u32 k226) kz (fun w' h'=>(At.drop (AtF.move hat225 (TT.step0 hW197 h') nilM qaI).at_ 0 1)) kz kz (qac (qah (qac (qac (qah (qac qag)))))) hT198 fun a239 hE240=>?_
  refine qaK [12,13] [(2,.p 0 0),(3,.p 1 0),(6,.v (.int .i64 ((q:Nat):Int))),(66,.v (.int .i64 ((u5.length:Nat):Int))),(67,.v (.int .i64 ((q:Nat):Int))),(83,.v (.bool (k206 != k226)))] 15 (qac (qah (qac (qac (qah (qac qag)))))) (fun _ h=>h.cells) hT198 hE240 fun a241 hE242=>?_
  have hc243:(k206 != k226) = false:=by obtain ⟨e1_,e2_⟩:=Prod.mk.inj (Option.some.inj (he208.symm.trans he228)); simp [e1_,e2_]
  have hE244:=hE242.cast (env':=[(2,.p 0 0),(3,.p 1 0),(6,.v (.int .i64 ((q:Nat):Int))),(66,.v (.int .i64 ((u5.length:Nat):Int))),(67,.v (.int .i64 ((q:Nat):Int))),(83,.v (.bool false))]) (by rw [hc243])
  refine qaK [14,15,16,20,21,22] [(2,.p 0 0),(3,.p 1 0),(66,.v (.int .i64 ((u5.length:Nat):Int))),(67,.v (.int .i64 ((q:Nat):Int))),(83,.v (.bool false)),(85,.v (.slice A10 u5.length c11)),(86,.v (.int .i64 ((q:Nat):Int))),(91,.v (.slice A3' u5.length c3')),(92,.v (.int .i64 ((q:Nat):Int)))] 9 (qac (qah (qac (qac (qah (qac qag)))))) (fun _ h=>h.cells) hT198 hE244 fun a245 hE246=>?_
  refine qaA hE246 (i:=17) (t:=33) (A:=A10) (m:=u5.length) (q:=((q:Nat):Int)) (d:=87) kz (e:=50) (size:=2) (bytes:=32) kz hA203 rfl (by omega) kz kz (qac (qah (qac (qac (qah (qac qag)))))) hT198 fun a247 hE248=>?_
  refine qaK [18] [(2,.p 0 0),(3,.p 1 0),(66,.v (.int .i64 ((u5.length:Nat):Int))),(67,.v (.int .i64 ((q:Nat):Int))),(83,.v (.bool false)),(88,.v (.pointer (some ⟨b201,o202 + q * 2 + 1,none⟩))),(91,.v (.slice A3' u5.length c3')),(92,.v (.int .i64 ((q:Nat):Int)))] 7 (qac (qah (qac (qac (qah (qac qag)))))) (fun _ h=>h.cells) hT198 hE248 fun a249 hE250=>?_
  refine qaM hE250 (i:=19) (t:=22) (b:=b201) (o:=o202 + q * 2 + 1) (d:=89) kz (cs:=[.slice A209 s207.length c210]) (v:=.slice A209 s207.length c210) kz (fun w' h'=>(At.drop (AtF.move hat205 (TT.step0 hW197 h') nilM qaI).at_ 1 1)) kz kz (qac (qah (qac (qac (qah (qac qag)))))) hT198 fun a251 hE252=>?_
  refine qaA hE252 (i:=23) (t:=33) (A:=A3') (m:=u5.length) (q:=((q:Nat):Int)) (d:=93) kz (e:=50) (size:=2) (bytes:=32) kz hA223 rfl (by omega) kz kz (qac (qah (qac (qac (qah (qac qag)))))) hT198 fun a253 hE254=>?_
  refine qaK [24] [(2,.p 0 0),(3,.p 1 0),(66,.v (.int .i64 ((u5.length:Nat):Int))),(67,.v (.int .i64 ((q:Nat):Int))),(83,.v (.bool false)),(89,.v (.slice A209 s207.length c210)),(94,.v (.pointer (some ⟨b221,o222 + q * 2 + 1,none⟩)))] 4 (qac (qah (qac (qac (qah (qac qag)))))) (fun _ h=>h.cells) hT198 hE254 fun a255 hE256=>?_
  refine qaM hE256 (i:=25) (t:=22) (b:=b221) (o:=o222 + q * 2 + 1) (d:=95) kz (cs:=[.slice A229 s227.length c230]) (v:=.slice A229 s227.length c230) kz (fun w' h'=>(At.drop (AtF.move hat225 (TT.step0 hW197 h') nilM qaI).at_ 1 1)) kz kz (qac (qah (qac (qac (qah (qac qag)))))) hT198 fun a257 hE258=>?_
  refine qaG (i:=26) kz (qap hE258 (f:=20) (vs:=[.slice A209 s207.length c210,.slice A229 s227.length c230]) (d:=96) kz Tryd.call20 (qig _ _ _ _ s207 s227 _ _ (hb212.move hW197.step nilM hW197.imm) (hb232.move hW197.step nilM hW197.imm)) ?_)
  rintro e_ w260 ⟨rfl,hs259⟩
  refine ⟨_,rfl,fun a261 hE262=>?_⟩
  have hW263:=hW197.next_nil hs259
  have hF264:=hW197.frN hs259
  have hT265:=TT.ofW hF264 hW263
  refine ⟨fun _=>hT265,?_⟩
  refine qaK [27,28] [(2,.p 0 0),(3,.p 1 0),(66,.v (.int .i64 ((u5.length:Nat):Int))),(67,.v (.int .i64 ((q:Nat):Int))),(98,.v (.bool (!(decide (s207 = s227)))))] 0 (qac (qah (qac (qac (qah (qac qag)))))) (fun _ h=>h.cells) hT265 hE262 fun a266 hE267=>?_
  refine qaS kz ?_ _
  refine qab ?_
  refine qam hE267 (b:=!(decide (s207 = s227))) kz (by obtain ⟨e1_,e2_⟩:=Prod.mk.inj (Option.some.inj (he208.symm.trans he228)); simp [e1_,e2_]) ?_
  refine wp_skip ?_
  refine qa8 ?_
  refine qab ?_
  refine qaF [0,1] kz ?_
  refine qal [0,1] [] [(2,.p 0 0),(3,.p 1 0),(66,.v (.int .i64 ((u5.length:Nat):Int))),(67,.v (.int .i64 (IntKind.i64.wrap (((q:Nat):Int) + 1))))] hW263 hE267 fun a268 hE269=>?_
  refine qaf (qab ?_)
  have he270:IntKind.i64.wrap (((q:Nat):Int) + 1) = ((q + 1:Nat):Int):=qbK (by omega)
  rw [he270] at hE269
  exact ⟨u5.length - (q + 1),by omega,q + 1,rfl,by omega,hE269.pk,hW263,((hF188.trans hF196).trans hF264)⟩
 have hf271:=of_decide_eq_false hc191
 refine wp_exit ?_
 refine qaR ?_
 refine qaR ?_
 refine qbn ?_
 refine qab ?_
 refine qas [(4,.v (.bool true))] hW185 hE190 fun a272 hE273=>?_
 refine wp_ret ?_
 refine qaV hE273 hW185.cells (v:=.bool true) kz ?_
 exact ⟨rfl,hW185.step⟩
theorem qhI:∀ m,qhH m
 | 0=>fun ct1 ct2 t w F h1 h2 hd=>by
  obtain ⟨n,s,b,l,u,A1,c1,A2,c2,A3,c3,xs,rfl,_⟩:=h1.open_
  rw [qdw] at hd; omega
 | m + 1=>qfs (qhI m)
end Go.Proofs.YtmpejmiiphddhaaDoorR.ME